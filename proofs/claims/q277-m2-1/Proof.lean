import JvmDerived
import JvmDerived.Pilot.@@N@@Statement
import JvmDerived.Pilot.@@N@@Code
set_option linter.unusedVariables false
set_option linter.unusedSimpArgs false
namespace Jvm.Own
open Jvm Jvm.ClassFile Sem Op Lib Jvm.Free Jvm.Stand Jvm.LawKit Jvm.RoadKit Bundle
/-! A walk in 'what is left to do' form: Go .. says that from every state that stands at this frame over this heap the body runs to its end and leaves what Post says. -/
abbrev Kx : Type := Program × Launch × Env × State × MethodId × Array Value × List Frame × Method × Code
abbrev Kx.p (K : Kx) : Program := K.1
abbrev Kx.l (K : Kx) : Launch := K.2.1
abbrev Kx.e (K : Kx) : Env := K.2.2.1
abbrev Kx.s (K : Kx) : State := K.2.2.2.1
abbrev Kx.m (K : Kx) : MethodId := K.2.2.2.2.1
abbrev Kx.as (K : Kx) : Array Value := K.2.2.2.2.2.1
abbrev Kx.below (K : Kx) : List Frame := K.2.2.2.2.2.2.1
abbrev Kx.meth (K : Kx) : Method := K.2.2.2.2.2.2.2.1
abbrev Kx.c (K : Kx) : Code := K.2.2.2.2.2.2.2.2
/-- the decode fact, with the next place -/
def Dc (code : ByteArray) (pc : Nat) (i : Instr) (n pc' : Nat) : Prop := decode code pc = .ok (i, n) ∧ pc + n = pc'
abbrev Pst : Type := Option Value → Heap → List Addr → Prop
/-- narrow or wide; the String constants that are known to be resolved here; those that will be at the end -/
abbrev NW : Type := Bool × List (String × Nat) × List (String × Nat)
instance : Coe Bool NW := ⟨fun b => (b, [], [])⟩
/-- the tables have resolved entry p to a String -/
def Resv (vm : Vm) (p : String × Nat) : Prop := ∃ (c : ClassId) (k : Class) (a : Addr), vm.findClass p.1 = some c ∧ vm.classes[c]? = some k ∧ k.resolved[p.2]? = some (some (.string a))
theorem Resv.on {s : State} {vm' : Vm} (hW : s.Warmed39 vm') {p : String × Nat} (r : Resv s.vm p) : Resv vm' p := by
  obtain ⟨c, k, a, h1, h2, h3⟩ := r
  obtain ⟨k', hk', -, -, ee, -⟩ := hW.2.2.2 c k h2
  refine ⟨c, k', a, by rw [hW.alike.findClass]; exact h1, hk', ?_⟩
  rcases ee p.2 with e | ⟨e, -⟩
  · rw [e]; exact h3
  · rw [h3] at e; cases e
def Nwp (nw : NW) (s : State) (vm : Vm) : Prop := (nw.1 = true → s.WarmedH vm) ∧ ∀ p ∈ nw.2.1, Resv vm p
def Nwq (nw : NW) (s : State) (vm : Vm) : Prop := (nw.1 = true → s.WarmedH vm) ∧ ∀ p ∈ nw.2.2, Resv vm p
/-- where the walk stands -/
def Inv (Z : State) (EL : List (String × Nat)) (nw : NW) (R : Room) (K : Kx) (T : State) (h : Heap) (S : List Addr) (k n : Nat) : Prop :=
  ∃ (vm0 : Vm) (k0 : Nat) (locs : List Loc), Stand K.p K.l K.e R (K.s.setVm vm0) K.m K.as K.below K.meth K.c T locs k n ∧ K.s.Since vm0 k0 ∧ k0 ≤ h.size ∧ Z.Warmed39 vm0 ∧ T.heap = h ∧ Fr Z.heap.size locs ∧
    CHr Z EL K.s.vm K.s.heap vm0 h ∧ (∀ a ∈ S, Z.heap.size ≤ a ∧ a < h.size ∧ Safe Z EL vm0 h a) ∧ Nwp nw K.s vm0 ∧ Ext Z.heap h
/-- what the end must be -/
def EndQ (Z : State) (EL : List (String × Nat)) (nw : NW) (R : Room) (Post : Pst) (s : State) (o : Outcome) (t : State) : Prop :=
  ∃ v L S', o = .returned v ∧ Post v t.heap S' ∧ Fr Z.heap.size L ∧ CHr Z EL s.vm s.heap t.vm t.heap ∧ (∀ x ∈ S', Z.heap.size ≤ x ∧ x < t.heap.size ∧ Safe Z EL t.vm t.heap x) ∧ ReturnedEndW s o t L R.cells R.slots ∧ Nwq nw s t.vm ∧ Ext Z.heap t.heap
def Fin' (Z : State) (EL : List (String × Nat)) (nw : NW) (R : Room) (Post : Pst) (K : Kx) (U : State) : Prop :=
  ∃ s₂ o, Steps K.p.tables K.e K.below U s₂ ∧ s₂.status = .running ∧ Ended s₂ K.below o ∧ EndQ Z EL nw R Post K.s o s₂
def Go (Z : State) (EL : List (String × Nat)) (nw : NW) (R : Room) (Post : Pst) (K : Kx) (h : Heap) (S : List Addr) (k n pc : Nat) (L : List Slot) (st : List Value) : Prop :=
  ∀ T, Inv Z EL nw R K T h S k n → Fin' Z EL nw R Post K (T.setTop (mkF K.m pc L.toArray st))
def Good (Z : State) (a0 : Array Value) (EL : List (String × Nat)) (K : Kx) (own : String) (code : ByteArray) (maxL : Nat) (ret : Option FieldType) (nm : String) : Prop :=
  K.p.tables.exec = Jvm.exec ∧ K.c.code = code ∧ K.c.maxLocals = maxL ∧ K.meth.sig.returnType = ret ∧ K.meth.locks = false ∧ K.meth.name = nm ∧ K.s.vm.findClass own = some K.m.cls ∧ EW Z a0 EL
/-- a body's contract -/
def Con (l : Launch) (Z : State) (EL : List (String × Nat)) (nw : NW) (y : MethodName) (bytes : ByteArray) (maxL : Nat) (ret : Option FieldType) (ws : List Jvm.Cond) (rm : Room) (as : Array Value) (h : Heap) (S : List Addr) (Post : Pst) : Prop :=
  MetFree l y (head1 (Jvm.Cond.code y bytes maxL ret :: ws) rm) (fun a U => a = as ∧ Z.Warmed39 U.vm ∧ U.heap = h ∧ CHv Z EL U.vm h ∧ (∀ x ∈ S, Z.heap.size ≤ x ∧ x < h.size ∧ Safe Z EL U.vm h x) ∧ Ext Z.heap h ∧ ∀ p ∈ nw.2.1, Resv U.vm p) (fun _ _ _ _ _ => True) (fun _ U o U' => EndQ Z EL nw rm Post U o U')
section Rules
variable {Z : State} {a0 : Array Value} {EL : List (String × Nat)} {nw : NW} {R : Room} {Post : Pst} {K : Kx} {own : String} {code : ByteArray} {maxL : Nat} {ret : Option FieldType} {nm : String} {h h' : Heap} {S S' : List Addr} {k n k' n' pc pc' : Nat} {L L' : List Slot} {st : List Value} {l : Launch}
theorem Fin'.step {U U' : State} (q : ∀ target, Steps K.p.tables K.e K.below U' target → Steps K.p.tables K.e K.below U target) (f : Fin' Z EL nw R Post K U') : Fin' Z EL nw R Post K U := by
  obtain ⟨s₂, o, h1, r⟩ := f
  exact ⟨s₂, o, q _ h1, r⟩
theorem Good.hown (G : Good Z a0 EL K own code maxL ret nm) {vm0 : Vm} {k0 : Nat} (hS : K.s.Since vm0 k0) : vm0.findClass own = some K.m.cls := (hS.1.alike.findClass _ _).trans G.2.2.2.2.2.2.1
theorem Fin'.wk {P : List (String × Nat)} {U : State} (f : Fin' Z EL (nw.1, P, nw.2.2) R Post K U) : Fin' Z EL nw R Post K U := f
/-- entering a body -/
theorem Con.enter {y : MethodName} {bytes : ByteArray} {ws : List Jvm.Cond} {as : Array Value} (hp : plainFor y = true) (hEL : EW Z a0 EL) (L0 : List Slot) (hef : ∀ m, entryFrame m as maxL = mkF m 0 L0.toArray [])
    (body : ∀ K : Kx, Good Z a0 EL K y.cls bytes maxL ret y.name → Go Z EL nw R Post K h S 0 0 0 L0 []) : Con l Z EL nw y bytes maxL ret ws R as h S Post := by
  refine MetFree.of_bodySF hp hisR ?_
  intro p e s m args below meth c s₁ Bd hml0 hP hK
  obtain ⟨rfl, hZ, hh, hC, hSf, hO, hR⟩ := hP
  have X0 : Stand p l e R s m args below meth c s₁ [] 0 0 := Stand.of_body Bd
  have e0 : s₁.heap = h := by rw [← hh, Bd.state]; rfl
  have G : Good Z a0 EL (p, l, e, s, m, args, below, meth, c) y.cls bytes maxL ret y.name := ⟨Bd.exec, Bd.bytes, hml0, Bd.returns, Bd.notSynchronized, (name_of_methodNamed Bd.named Bd.method).1, findClass_of_methodNamed Bd.named, hEL⟩
  have F := body (p, l, e, s, m, args, below, meth, c) G s₁ ⟨s.vm, h.size, [], X0, (State.WarmedH.refl s).since _, Nat.le_refl _, hZ, e0, Fr.nil _, by show CHr Z EL s.vm s.heap s.vm h; rw [hh]; exact CHr.refl hC, hSf, ⟨fun _ => State.WarmedH.refl s, hR⟩, hO⟩
  obtain ⟨s₂, o, h1, h2, h3, h4⟩ := F
  exact ⟨s₂, o, castTop (hef m) h1, h2, h3, h4⟩
/-- a plain step -/
theorem Go.plain (q : ∀ (T : State) target, At T K.m K.c K.below → Steps K.p.tables K.e K.below (T.setTop (mkF K.m pc' L'.toArray st)) target → Steps K.p.tables K.e K.below (T.setTop (mkF K.m pc L.toArray st')) target) (f : Go Z EL nw R Post K h S k n pc' L' st) : Go Z EL nw R Post K h S k n pc L st' := fun T I => by
  obtain ⟨vm0, k0, locs, X, r⟩ := I
  exact (f T ⟨vm0, k0, locs, X, r⟩).step fun t z => q T t X.here z
theorem Go.more (f : Go Z EL nw R Post K h S k' n' pc L st) (hk : k ≤ k') (hn : n ≤ n') : Go Z EL nw R Post K h S k n pc L st := fun T I => by
  obtain ⟨vm0, k0, locs, X, r⟩ := I
  exact f T ⟨vm0, k0, locs, X.mono hk hn, r⟩
theorem Go.fewer (f : Go Z EL nw R Post K h S' k n pc L st) (hs : ∀ x ∈ S', x ∈ S) : Go Z EL nw R Post K h S k n pc L st := fun T I => by
  obtain ⟨vm0, k0, locs, X, r1, r2, r3, r4, r5, r6, r7, r8⟩ := I
  exact f T ⟨vm0, k0, locs, X, r1, r2, r3, r4, r5, r6, fun a q => r7 a (hs a q), r8⟩
/-- what is known of the places in S -/
theorem Go.safeIn (f : (∀ a ∈ S, Z.heap.size ≤ a ∧ a < h.size) → Go Z EL nw R Post K h S k n pc L st) : Go Z EL nw R Post K h S k n pc L st := fun T I => by
  obtain ⟨vm0, k0, locs, X, r1, r2, r3, r4, r5, r6, r7, r8⟩ := I
  exact f (fun a q => ⟨(r7 a q).1, (r7 a q).2.1⟩) T ⟨vm0, k0, locs, X, r1, r2, r3, r4, r5, r6, r7, r8⟩
theorem Go.oldIn (f : Ext Z.heap h → Go Z EL nw R Post K h S k n pc L st) : Go Z EL nw R Post K h S k n pc L st := fun T I => by
  obtain ⟨vm0, k0, locs, X, r1, r2, r3, r4, r5, r6, r7, r8⟩ := I
  exact f r8.2 T ⟨vm0, k0, locs, X, r1, r2, r3, r4, r5, r6, r7, r8⟩
/-! ### the ends -/
theorem Good.leave (G : Good Z a0 EL K own code maxL ret nm) (hQ : ∀ p ∈ nw.2.2, p ∈ nw.2.1) {v : Option Value} (hv : ret = none → v = none) (hk : k ≤ R.cells) (hn : n ≤ R.slots) (S' : List Addr) (hS' : ∀ x ∈ S', x ∈ S) (hP : Post v h S')
    (q : ∀ (T : State) (vm0 : Vm) (locs : List Loc) (fs : List Frame), Stand K.p K.l K.e R (K.s.setVm vm0) K.m K.as K.below K.meth K.c T locs k n → (∀ (f : JFrame) (acts : List Action), f.method = K.m → f.locked = none → f.entered = [] → (doReturn K.e (T.setTop f) acts v).1 = T.setFrames fs) → Steps K.p.tables K.e K.below (T.setTop (mkF K.m pc L.toArray st)) (T.setFrames fs)) :
    Go Z EL nw R Post K h S k n pc L st := fun T I => by
  obtain ⟨vm0, k0, locs, X, hS, hk0, hZ, e, N, CH, hSf, hw, hO⟩ := I
  obtain ⟨hx, hby, hml, hret, hlk, hnm, hown, hEL⟩ := G
  have hlk' : K.meth.locks = false := hlk
  obtain ⟨fs, h1, h2, h3, hE⟩ := X.leaveW hS (by rw [e]; exact hk0) (v := v) (fun z => hv (hret.symm.trans z)) hlk'
  obtain ⟨a1, a2, a3, a4⟩ := hE
  have CA := CHv.at X hZ hEL CH.1
  have eh : (T.setFrames fs).heap = h := e
  refine ⟨_, _, q T vm0 locs fs X h1, h2, h3, v, locs, S', rfl, by rw [eh]; exact hP, N, ?_, ?_, ⟨a1, a2, a3, a4.mono hk hn⟩, ⟨fun z => State.WarmedH.trans (t := K.s.setVm vm0) (hw.1 z) X.warmed, fun p hp => Resv.on (s := K.s.setVm vm0) X.warmed.wide (hw.2 p (hQ p hp))⟩, by rw [eh]; exact hO⟩
  · show CHr Z EL K.s.vm K.s.heap T.vm (T.setFrames fs).heap
    rw [eh]; exact CH.trans CA
  · intro x hx'
    obtain ⟨b1, b2, b3⟩ := hSf x (hS' x hx')
    show Z.heap.size ≤ x ∧ x < (T.setFrames fs).heap.size ∧ Safe Z EL T.vm (T.setFrames fs).heap x
    rw [eh]; exact ⟨b1, b2, CA.safe b2 b3⟩
theorem Good.ret0 (G : Good Z a0 EL K own code maxL none nm) (hd : Dc code pc .return_ 1 pc') (S' : List Addr) (hS' : ∀ x ∈ S', x ∈ S) (hP : Post none h S') (hk : k ≤ R.cells := by decide) (hn : n ≤ R.slots := by decide) (hQ : ∀ p ∈ nw.2.2, p ∈ nw.2.1 := by first | (intro _ q; cases q; done) | simp) : Go Z EL nw R Post K h S k n pc L [] :=
  G.leave hQ (fun _ => rfl) hk hn S' hS' hP fun T vm0 locs fs X hr => X.returnOut G.1 G.2.2.2.1 (hb G.2.1 hd.1) hr
theorem Good.retV {t : FieldType} (G : Good Z a0 EL K own code maxL (some t) nm) {w : Value} {i : Instr} (hd : Dc code pc i 1 pc') (hn' : narrow t w = w)
    (hi : (i = .ireturn ∧ (t = .int ∨ t = .boolean ∨ t = .byte ∨ t = .char ∨ t = .short) ∧ ∃ z, w = .int z) ∨ (i = .lreturn ∧ t = .long ∧ ∃ z, w = .long z) ∨ (i = .dreturn ∧ t = .double ∧ ∃ z, w = .double z) ∨ (i = .freturn ∧ t = .float ∧ ∃ z, w = .float z) ∨ (i = .areturn ∧ t.isReference = true ∧ w.isRef = true))
    (S' : List Addr) (hS' : ∀ x ∈ S', x ∈ S) (hP : Post (some w) h S') (hk : k ≤ R.cells := by decide) (hn : n ≤ R.slots := by decide) (hQ : ∀ p ∈ nw.2.2, p ∈ nw.2.1 := by first | (intro _ q; cases q; done) | simp) : Go Z EL nw R Post K h S k n pc L (w :: st) :=
  G.leave hQ (fun z => by cases z) hk hn S' hS' hP fun T vm0 locs fs X hr => retOut X G.1 G.2.2.2.1 hn' hi (hb G.2.1 hd.1) hr
theorem Good.iret (G : Good Z a0 EL K own code maxL (some .int) nm) {z : Int32} (hd : Dc code pc .ireturn 1 pc') (S' : List Addr) (hS' : ∀ x ∈ S', x ∈ S) (hP : Post (some (.int z)) h S') (hk : k ≤ R.cells := by decide) (hn : n ≤ R.slots := by decide) (hQ : ∀ p ∈ nw.2.2, p ∈ nw.2.1 := by first | (intro _ q; cases q; done) | simp) : Go Z EL nw R Post K h S k n pc L (.int z :: st) :=
  G.retV hd rfl (Or.inl ⟨rfl, Or.inl rfl, z, rfl⟩) S' hS' hP hk hn hQ
theorem Good.lret (G : Good Z a0 EL K own code maxL (some .long) nm) {z : Int64} (hd : Dc code pc .lreturn 1 pc') (S' : List Addr) (hS' : ∀ x ∈ S', x ∈ S) (hP : Post (some (.long z)) h S') (hk : k ≤ R.cells := by decide) (hn : n ≤ R.slots := by decide) (hQ : ∀ p ∈ nw.2.2, p ∈ nw.2.1 := by first | (intro _ q; cases q; done) | simp) : Go Z EL nw R Post K h S k n pc L (.long z :: st) :=
  G.retV hd rfl (Or.inr (Or.inl ⟨rfl, rfl, z, rfl⟩)) S' hS' hP hk hn hQ
theorem Good.aret {t : FieldType} (G : Good Z a0 EL K own code maxL (some t) nm) {w : Value} (hd : Dc code pc .areturn 1 pc') (S' : List Addr) (hS' : ∀ x ∈ S', x ∈ S) (hP : Post (some w) h S') (hr : w.isRef = true := by rfl) (ht : t.isReference = true := by rfl) (hk : k ≤ R.cells := by decide) (hn : n ≤ R.slots := by decide) (hQ : ∀ p ∈ nw.2.2, p ∈ nw.2.1 := by first | (intro _ q; cases q; done) | simp) : Go Z EL nw R Post K h S k n pc L (w :: st) :=
  G.retV hd (by rcases ref_cases hr with rfl | ⟨_, rfl⟩ <;> cases t <;> first | rfl | cases ht) (Or.inr (Or.inr (Or.inr (Or.inr ⟨rfl, ht, hr⟩)))) S' hS' hP hk hn hQ
/-- boolean, byte, char, short -/
theorem Good.nret {t : FieldType} (G : Good Z a0 EL K own code maxL (some t) nm) {z z' : Int32} (hd : Dc code pc .ireturn 1 pc') (ht : t = .boolean ∨ t = .byte ∨ t = .char ∨ t = .short) (hz : nar t z = z') (S' : List Addr) (hS' : ∀ x ∈ S', x ∈ S) (hP : Post (some (.int z')) h S') (hk : k ≤ R.cells := by decide) (hn : n ≤ R.slots := by decide) (hQ : ∀ p ∈ nw.2.2, p ∈ nw.2.1 := by first | (intro _ q; cases q; done) | simp) : Go Z EL nw R Post K h S k n pc L (.int z :: st) :=
  G.leave hQ (fun z => by cases z) hk hn S' hS' hP fun T vm0 locs fs X hr => retN X G.1 G.2.2.2.1 ht (hb G.2.1 hd.1) (by rw [hz]; exact hr)
end Rules
end Jvm.Own
namespace Jvm.Own
open Jvm Jvm.ClassFile Sem Op Lib Jvm.Free Jvm.Stand Jvm.LawKit Jvm.RoadKit Bundle
/-- a branch's decode fact, with both places -/
def Dj (code : ByteArray) (pc : Nat) (i : Int → Instr) (pc' pcY : Nat) : Prop := ∃ o : Int, decode code pc = .ok (i o, 3) ∧ pc + 3 = pc' ∧ 0 ≤ (pc : Int) + o ∧ ((pc : Int) + o).toNat = pcY
section Plain
variable {Z : State} {a0 : Array Value} {EL : List (String × Nat)} {nw : NW} {R : Room} {Post : Pst} {K : Kx} {own : String} {code : ByteArray} {maxL : Nat} {ret : Option FieldType} {nm : String} {h : Heap} {S : List Addr} {k n pc pc' pcY : Nat} {L : List Slot} {st : List Value}
theorem Good.aloadN (G : Good Z a0 EL K own code maxL ret nm) {j : Fin 4} {v : Value} (hd : Dc code pc (.aload_n j) 1 pc') (hl : L[j.val]? = some (.val v)) (hv : v.isRef = true) (f : Go Z EL nw R Post K h S k n pc' L (v :: st)) : Go Z EL nw R Post K h S k n pc L st := by
  obtain ⟨hd, rfl⟩ := hd
  exact Go.plain (fun T t X q => XS.aloadN X G.1 rfl (hb G.2.1 hd) (by simpa using hl) hv q) f
theorem Good.aload (G : Good Z a0 EL K own code maxL ret nm) {j : Nat} {v : Value} (hd : Dc code pc (.aload j) 2 pc') (hl : L[j]? = some (.val v)) (hv : v.isRef = true) (f : Go Z EL nw R Post K h S k n pc' L (v :: st)) : Go Z EL nw R Post K h S k n pc L st := by
  obtain ⟨hd, rfl⟩ := hd
  exact Go.plain (fun T t X q => XS.aload X G.1 rfl (hb G.2.1 hd) (by simpa using hl) hv q) f
theorem Good.iloadN (G : Good Z a0 EL K own code maxL ret nm) {j : Fin 4} {v : Int32} (hd : Dc code pc (.iload_n j) 1 pc') (hl : L[j.val]? = some (.val (.int v))) (f : Go Z EL nw R Post K h S k n pc' L (.int v :: st)) : Go Z EL nw R Post K h S k n pc L st := by
  obtain ⟨hd, rfl⟩ := hd
  exact Go.plain (fun T t X q => XS.iloadN X G.1 rfl (hb G.2.1 hd) (by simpa using hl) q) f
theorem Good.iload (G : Good Z a0 EL K own code maxL ret nm) {j : Nat} {v : Int32} (hd : Dc code pc (.iload j) 2 pc') (hl : L[j]? = some (.val (.int v))) (f : Go Z EL nw R Post K h S k n pc' L (.int v :: st)) : Go Z EL nw R Post K h S k n pc L st := by
  obtain ⟨hd, rfl⟩ := hd
  exact Go.plain (fun T t X q => XS.iload X G.1 rfl (hb G.2.1 hd) (by simpa using hl) q) f
theorem Good.lloadN (G : Good Z a0 EL K own code maxL ret nm) {j : Fin 4} {v : Int64} (hd : Dc code pc (.lload_n j) 1 pc') (hl : L[j.val]? = some (.val (.long v))) (f : Go Z EL nw R Post K h S k n pc' L (.long v :: st)) : Go Z EL nw R Post K h S k n pc L st := by
  obtain ⟨hd, rfl⟩ := hd
  exact Go.plain (fun T t X q => XS.lloadN X G.1 rfl (hb G.2.1 hd) (by simpa using hl) q) f
theorem Good.lload (G : Good Z a0 EL K own code maxL ret nm) {j : Nat} {v : Int64} (hd : Dc code pc (.lload j) 2 pc') (hl : L[j]? = some (.val (.long v))) (f : Go Z EL nw R Post K h S k n pc' L (.long v :: st)) : Go Z EL nw R Post K h S k n pc L st := by
  obtain ⟨hd, rfl⟩ := hd
  exact Go.plain (fun T t X q => XS.lload X G.1 rfl (hb G.2.1 hd) (by simpa using hl) q) f
theorem Good.iconst (G : Good Z a0 EL K own code maxL ret nm) (z : Int32) {i : Int} (hd : Dc code pc (.iconst i) 1 pc')  (f : Go Z EL nw R Post K h S k n pc' L (.int z :: st)) (hz : Int32.ofInt i = z := by decide) : Go Z EL nw R Post K h S k n pc L st := by
  obtain ⟨hd, rfl⟩ := hd
  exact Go.plain (fun T t X q => XS.iconst X G.1 rfl (hb G.2.1 hd) (by rw [hz]; exact q)) f
theorem Good.bipush (G : Good Z a0 EL K own code maxL ret nm) (z : Int32) {i : Int} (hd : Dc code pc (.bipush i) 2 pc')  (f : Go Z EL nw R Post K h S k n pc' L (.int z :: st)) (hz : (Int8.ofInt i).toInt32 = z := by decide) : Go Z EL nw R Post K h S k n pc L st := by
  obtain ⟨hd, rfl⟩ := hd
  exact Go.plain (fun T t X q => XS.bipush X G.1 rfl (hb G.2.1 hd) (by rw [hz]; exact q)) f
theorem Good.sipush (G : Good Z a0 EL K own code maxL ret nm) (z : Int32) {i : Int} (hd : Dc code pc (.sipush i) 3 pc')  (f : Go Z EL nw R Post K h S k n pc' L (.int z :: st)) (hz : (Int16.ofInt i).toInt32 = z := by decide) : Go Z EL nw R Post K h S k n pc L st := by
  obtain ⟨hd, rfl⟩ := hd
  exact Go.plain (fun T t X q => XS.sipush X G.1 rfl (hb G.2.1 hd) (by rw [hz]; exact q)) f
theorem Good.lconst (G : Good Z a0 EL K own code maxL ret nm) (z : Int64) {i : Fin 2} (hd : Dc code pc (.lconst i) 1 pc')  (f : Go Z EL nw R Post K h S k n pc' L (.long z :: st)) (hz : Int64.ofNat i = z := by decide) : Go Z EL nw R Post K h S k n pc L st := by
  obtain ⟨hd, rfl⟩ := hd
  exact Go.plain (fun T t X q => XS.lconst X G.1 rfl (hb G.2.1 hd) (by rw [hz]; exact q)) f
theorem Good.aconstNull (G : Good Z a0 EL K own code maxL ret nm)  (hd : Dc code pc .aconst_null 1 pc')  (f : Go Z EL nw R Post K h S k n pc' L (.null :: st)) : Go Z EL nw R Post K h S k n pc L st := by
  obtain ⟨hd, rfl⟩ := hd
  exact Go.plain (fun T t X q => XS.aconstNull X G.1 rfl (hb G.2.1 hd)  q) f
theorem Good.iadd (G : Good Z a0 EL K own code maxL ret nm) {x y : Int32} (hd : Dc code pc .iadd 1 pc')  (f : Go Z EL nw R Post K h S k n pc' L (.int (x + y) :: st)) : Go Z EL nw R Post K h S k n pc L (.int y :: .int x :: st) := by
  obtain ⟨hd, rfl⟩ := hd
  exact Go.plain (fun T t X q => XS.iadd X G.1 rfl (hb G.2.1 hd) rfl q) f
theorem Good.isub (G : Good Z a0 EL K own code maxL ret nm) {x y : Int32} (hd : Dc code pc .isub 1 pc')  (f : Go Z EL nw R Post K h S k n pc' L (.int (x - y) :: st)) : Go Z EL nw R Post K h S k n pc L (.int y :: .int x :: st) := by
  obtain ⟨hd, rfl⟩ := hd
  exact Go.plain (fun T t X q => XS.isub X G.1 rfl (hb G.2.1 hd) rfl q) f
theorem Good.imul (G : Good Z a0 EL K own code maxL ret nm) {x y : Int32} (hd : Dc code pc .imul 1 pc')  (f : Go Z EL nw R Post K h S k n pc' L (.int (x * y) :: st)) : Go Z EL nw R Post K h S k n pc L (.int y :: .int x :: st) := by
  obtain ⟨hd, rfl⟩ := hd
  exact Go.plain (fun T t X q => XS.imul X G.1 rfl (hb G.2.1 hd) rfl q) f
theorem Good.iand (G : Good Z a0 EL K own code maxL ret nm) {x y : Int32} (hd : Dc code pc .iand 1 pc')  (f : Go Z EL nw R Post K h S k n pc' L (.int (x &&& y) :: st)) : Go Z EL nw R Post K h S k n pc L (.int y :: .int x :: st) := by
  obtain ⟨hd, rfl⟩ := hd
  exact Go.plain (fun T t X q => XS.iand X G.1 rfl (hb G.2.1 hd) rfl q) f
theorem Good.ior (G : Good Z a0 EL K own code maxL ret nm) {x y : Int32} (hd : Dc code pc .ior 1 pc')  (f : Go Z EL nw R Post K h S k n pc' L (.int (x ||| y) :: st)) : Go Z EL nw R Post K h S k n pc L (.int y :: .int x :: st) := by
  obtain ⟨hd, rfl⟩ := hd
  exact Go.plain (fun T t X q => XS.ior X G.1 rfl (hb G.2.1 hd) rfl q) f
theorem Good.ixor (G : Good Z a0 EL K own code maxL ret nm) {x y : Int32} (hd : Dc code pc .ixor 1 pc')  (f : Go Z EL nw R Post K h S k n pc' L (.int (x ^^^ y) :: st)) : Go Z EL nw R Post K h S k n pc L (.int y :: .int x :: st) := by
  obtain ⟨hd, rfl⟩ := hd
  exact Go.plain (fun T t X q => XS.ixor X G.1 rfl (hb G.2.1 hd) rfl q) f
theorem Good.ishl (G : Good Z a0 EL K own code maxL ret nm) {x y : Int32} (hd : Dc code pc .ishl 1 pc')  (f : Go Z EL nw R Post K h S k n pc' L (.int (x <<< (y &&& 31)) :: st)) : Go Z EL nw R Post K h S k n pc L (.int y :: .int x :: st) := by
  obtain ⟨hd, rfl⟩ := hd
  exact Go.plain (fun T t X q => XS.ishl X G.1 rfl (hb G.2.1 hd) rfl q) f
theorem Good.ishr (G : Good Z a0 EL K own code maxL ret nm) {x y : Int32} (hd : Dc code pc .ishr 1 pc')  (f : Go Z EL nw R Post K h S k n pc' L (.int (x >>> (y &&& 31)) :: st)) : Go Z EL nw R Post K h S k n pc L (.int y :: .int x :: st) := by
  obtain ⟨hd, rfl⟩ := hd
  exact Go.plain (fun T t X q => XS.ishr X G.1 rfl (hb G.2.1 hd) rfl q) f
theorem Good.iushr (G : Good Z a0 EL K own code maxL ret nm) {x y : Int32} (hd : Dc code pc .iushr 1 pc')  (f : Go Z EL nw R Post K h S k n pc' L (.int ((x.toUInt32 >>> (y &&& 31).toUInt32).toInt32) :: st)) : Go Z EL nw R Post K h S k n pc L (.int y :: .int x :: st) := by
  obtain ⟨hd, rfl⟩ := hd
  exact Go.plain (fun T t X q => XS.iushr X G.1 rfl (hb G.2.1 hd) rfl q) f
theorem Good.idiv (G : Good Z a0 EL K own code maxL ret nm) {x y : Int32} (hd : Dc code pc .idiv 1 pc') (hy : y ≠ 0) (f : Go Z EL nw R Post K h S k n pc' L (.int (x / y) :: st)) : Go Z EL nw R Post K h S k n pc L (.int y :: .int x :: st) := by
  obtain ⟨hd, rfl⟩ := hd
  exact Go.plain (fun T t X q => XS.idiv X G.1 rfl (hb G.2.1 hd) rfl hy q) f
theorem Good.irem (G : Good Z a0 EL K own code maxL ret nm) {x y : Int32} (hd : Dc code pc .irem 1 pc') (hy : y ≠ 0) (f : Go Z EL nw R Post K h S k n pc' L (.int (x % y) :: st)) : Go Z EL nw R Post K h S k n pc L (.int y :: .int x :: st) := by
  obtain ⟨hd, rfl⟩ := hd
  exact Go.plain (fun T t X q => XS.irem X G.1 rfl (hb G.2.1 hd) rfl hy (by rw [show x - x / y * y = x % y from irem_eq_mod x y]; exact q)) f
theorem Good.ineg (G : Good Z a0 EL K own code maxL ret nm) {x : Int32} (hd : Dc code pc .ineg 1 pc')  (f : Go Z EL nw R Post K h S k n pc' L (.int (-x) :: st)) : Go Z EL nw R Post K h S k n pc L (.int x :: st) := by
  obtain ⟨hd, rfl⟩ := hd
  exact Go.plain (fun T t X q => XS.ineg X G.1 rfl (hb G.2.1 hd) rfl q) f
theorem Good.ladd (G : Good Z a0 EL K own code maxL ret nm) {x y : Int64} (hd : Dc code pc .ladd 1 pc')  (f : Go Z EL nw R Post K h S k n pc' L (.long (x + y) :: st)) : Go Z EL nw R Post K h S k n pc L (.long y :: .long x :: st) := by
  obtain ⟨hd, rfl⟩ := hd
  exact Go.plain (fun T t X q => XS.ladd X G.1 rfl (hb G.2.1 hd) rfl q) f
theorem Good.lsub (G : Good Z a0 EL K own code maxL ret nm) {x y : Int64} (hd : Dc code pc .lsub 1 pc')  (f : Go Z EL nw R Post K h S k n pc' L (.long (x - y) :: st)) : Go Z EL nw R Post K h S k n pc L (.long y :: .long x :: st) := by
  obtain ⟨hd, rfl⟩ := hd
  exact Go.plain (fun T t X q => XS.lsub X G.1 rfl (hb G.2.1 hd) rfl q) f
theorem Good.lmul (G : Good Z a0 EL K own code maxL ret nm) {x y : Int64} (hd : Dc code pc .lmul 1 pc')  (f : Go Z EL nw R Post K h S k n pc' L (.long (x * y) :: st)) : Go Z EL nw R Post K h S k n pc L (.long y :: .long x :: st) := by
  obtain ⟨hd, rfl⟩ := hd
  exact Go.plain (fun T t X q => XS.lmul X G.1 rfl (hb G.2.1 hd) rfl q) f
theorem Good.land (G : Good Z a0 EL K own code maxL ret nm) {x y : Int64} (hd : Dc code pc .land 1 pc')  (f : Go Z EL nw R Post K h S k n pc' L (.long (x &&& y) :: st)) : Go Z EL nw R Post K h S k n pc L (.long y :: .long x :: st) := by
  obtain ⟨hd, rfl⟩ := hd
  exact Go.plain (fun T t X q => XS.land X G.1 rfl (hb G.2.1 hd) rfl q) f
theorem Good.lor (G : Good Z a0 EL K own code maxL ret nm) {x y : Int64} (hd : Dc code pc .lor 1 pc')  (f : Go Z EL nw R Post K h S k n pc' L (.long (x ||| y) :: st)) : Go Z EL nw R Post K h S k n pc L (.long y :: .long x :: st) := by
  obtain ⟨hd, rfl⟩ := hd
  exact Go.plain (fun T t X q => XS.lor X G.1 rfl (hb G.2.1 hd) rfl q) f
theorem Good.lxor (G : Good Z a0 EL K own code maxL ret nm) {x y : Int64} (hd : Dc code pc .lxor 1 pc')  (f : Go Z EL nw R Post K h S k n pc' L (.long (x ^^^ y) :: st)) : Go Z EL nw R Post K h S k n pc L (.long y :: .long x :: st) := by
  obtain ⟨hd, rfl⟩ := hd
  exact Go.plain (fun T t X q => XS.lxor X G.1 rfl (hb G.2.1 hd) rfl q) f
theorem Good.lshl (G : Good Z a0 EL K own code maxL ret nm) {x : Int64} {y : Int32} (hd : Dc code pc .lshl 1 pc')  (f : Go Z EL nw R Post K h S k n pc' L (.long (x <<< (y &&& 0x3f).toInt64) :: st)) : Go Z EL nw R Post K h S k n pc L (.int y :: .long x :: st) := by
  obtain ⟨hd, rfl⟩ := hd
  exact Go.plain (fun T t X q => XS.lshl X G.1 rfl (hb G.2.1 hd) rfl q) f
theorem Good.lshr (G : Good Z a0 EL K own code maxL ret nm) {x : Int64} {y : Int32} (hd : Dc code pc .lshr 1 pc')  (f : Go Z EL nw R Post K h S k n pc' L (.long (x >>> (y &&& 0x3f).toInt64) :: st)) : Go Z EL nw R Post K h S k n pc L (.int y :: .long x :: st) := by
  obtain ⟨hd, rfl⟩ := hd
  exact Go.plain (fun T t X q => XS.lshr X G.1 rfl (hb G.2.1 hd) rfl q) f
theorem Good.lushr (G : Good Z a0 EL K own code maxL ret nm) {x : Int64} {y : Int32} (hd : Dc code pc .lushr 1 pc')  (f : Go Z EL nw R Post K h S k n pc' L (.long ((x.toUInt64 >>> (y &&& 0x3f).toInt64.toUInt64).toInt64) :: st)) : Go Z EL nw R Post K h S k n pc L (.int y :: .long x :: st) := by
  obtain ⟨hd, rfl⟩ := hd
  exact Go.plain (fun T t X q => XS.lushr X G.1 rfl (hb G.2.1 hd) rfl q) f
theorem Good.ldiv (G : Good Z a0 EL K own code maxL ret nm) {x y : Int64} (hd : Dc code pc .ldiv 1 pc') (hy : y ≠ 0) (f : Go Z EL nw R Post K h S k n pc' L (.long (x / y) :: st)) : Go Z EL nw R Post K h S k n pc L (.long y :: .long x :: st) := by
  obtain ⟨hd, rfl⟩ := hd
  exact Go.plain (fun T t X q => XS.ldiv X G.1 rfl (hb G.2.1 hd) rfl hy q) f
theorem Good.lneg (G : Good Z a0 EL K own code maxL ret nm) {x : Int64} (hd : Dc code pc .lneg 1 pc')  (f : Go Z EL nw R Post K h S k n pc' L (.long (-x) :: st)) : Go Z EL nw R Post K h S k n pc L (.long x :: st) := by
  obtain ⟨hd, rfl⟩ := hd
  exact Go.plain (fun T t X q => XS.lneg X G.1 rfl (hb G.2.1 hd) rfl q) f
theorem Good.i2b (G : Good Z a0 EL K own code maxL ret nm) {x : Int32} (hd : Dc code pc .i2b 1 pc')  (f : Go Z EL nw R Post K h S k n pc' L (.int (x.toInt8.toInt32) :: st)) : Go Z EL nw R Post K h S k n pc L (.int x :: st) := by
  obtain ⟨hd, rfl⟩ := hd
  exact Go.plain (fun T t X q => XS.i2b X G.1 rfl (hb G.2.1 hd) rfl q) f
theorem Good.i2c (G : Good Z a0 EL K own code maxL ret nm) {x : Int32} (hd : Dc code pc .i2c 1 pc')  (f : Go Z EL nw R Post K h S k n pc' L (.int (x.toUInt32.toUInt16.toUInt32.toInt32) :: st)) : Go Z EL nw R Post K h S k n pc L (.int x :: st) := by
  obtain ⟨hd, rfl⟩ := hd
  exact Go.plain (fun T t X q => XS.i2c X G.1 rfl (hb G.2.1 hd) rfl q) f
theorem Good.i2s (G : Good Z a0 EL K own code maxL ret nm) {x : Int32} (hd : Dc code pc .i2s 1 pc')  (f : Go Z EL nw R Post K h S k n pc' L (.int (x.toInt16.toInt32) :: st)) : Go Z EL nw R Post K h S k n pc L (.int x :: st) := by
  obtain ⟨hd, rfl⟩ := hd
  exact Go.plain (fun T t X q => XS.i2s X G.1 rfl (hb G.2.1 hd) rfl q) f
theorem Good.i2l (G : Good Z a0 EL K own code maxL ret nm) {x : Int32} (hd : Dc code pc .i2l 1 pc')  (f : Go Z EL nw R Post K h S k n pc' L (.long (x.toInt64) :: st)) : Go Z EL nw R Post K h S k n pc L (.int x :: st) := by
  obtain ⟨hd, rfl⟩ := hd
  exact Go.plain (fun T t X q => XS.i2l X G.1 rfl (hb G.2.1 hd) rfl q) f
theorem Good.l2i (G : Good Z a0 EL K own code maxL ret nm) {x : Int64} (hd : Dc code pc .l2i 1 pc')  (f : Go Z EL nw R Post K h S k n pc' L (.int (x.toInt32) :: st)) : Go Z EL nw R Post K h S k n pc L (.long x :: st) := by
  obtain ⟨hd, rfl⟩ := hd
  exact Go.plain (fun T t X q => XS.l2i X G.1 rfl (hb G.2.1 hd) rfl q) f
theorem Good.lcmp (G : Good Z a0 EL K own code maxL ret nm) {x y : Int64} (hd : Dc code pc .lcmp 1 pc')  (f : Go Z EL nw R Post K h S k n pc' L (.int (lcmpW x y) :: st)) : Go Z EL nw R Post K h S k n pc L (.long y :: .long x :: st) := by
  obtain ⟨hd, rfl⟩ := hd
  exact Go.plain (fun T t X q => XS.lcmp X G.1 rfl (hb G.2.1 hd) rfl q) f
theorem Good.dup (G : Good Z a0 EL K own code maxL ret nm) {x : Value} (hd : Dc code pc .dup 1 pc')  (f : Go Z EL nw R Post K h S k n pc' L (x :: x :: st)) (hc : x.category = 1 := by rfl) : Go Z EL nw R Post K h S k n pc L (x :: st) := by
  obtain ⟨hd, rfl⟩ := hd
  exact Go.plain (fun T t X q => XS.dup X G.1 rfl (hb G.2.1 hd) rfl hc q) f
theorem Good.pop (G : Good Z a0 EL K own code maxL ret nm) {x : Value} (hd : Dc code pc .pop 1 pc')  (f : Go Z EL nw R Post K h S k n pc' L st) (hc : x.category = 1 := by rfl) : Go Z EL nw R Post K h S k n pc L (x :: st) := by
  obtain ⟨hd, rfl⟩ := hd
  exact Go.plain (fun T t X q => XS.pop X G.1 rfl (hb G.2.1 hd) rfl hc q) f
theorem Good.dupX1 (G : Good Z a0 EL K own code maxL ret nm) {x y : Value} (hd : Dc code pc .dup_x1 1 pc')  (f : Go Z EL nw R Post K h S k n pc' L (x :: y :: x :: st)) (hc : x.category = 1 := by rfl) (hc2 : y.category = 1 := by rfl) : Go Z EL nw R Post K h S k n pc L (x :: y :: st) := by
  obtain ⟨hd, rfl⟩ := hd
  exact Go.plain (fun T t X q => XS.dupX1 X G.1 rfl (hb G.2.1 hd) rfl hc hc2 q) f
theorem Good.swap (G : Good Z a0 EL K own code maxL ret nm) {x y : Value} (hd : Dc code pc .swap 1 pc')  (f : Go Z EL nw R Post K h S k n pc' L (y :: x :: st)) (hc : x.category = 1 := by rfl) (hc2 : y.category = 1 := by rfl) : Go Z EL nw R Post K h S k n pc L (x :: y :: st) := by
  obtain ⟨hd, rfl⟩ := hd
  exact Go.plain (fun T t X q => XS.swap X G.1 rfl (hb G.2.1 hd) rfl hc hc2 q) f
theorem Good.pop2L (G : Good Z a0 EL K own code maxL ret nm) {x : Int64} (hd : Dc code pc .pop2 1 pc') (f : Go Z EL nw R Post K h S k n pc' L st) : Go Z EL nw R Post K h S k n pc L (.long x :: st) := by
  obtain ⟨hd, rfl⟩ := hd
  refine Go.plain (fun T t X q => ?_) f
  have hd' := hb G.2.1 hd
  have hx := G.1
  jvm_step X [X.top, hx, hd', Value.category]
  exact q
theorem Good.dup2I (G : Good Z a0 EL K own code maxL ret nm) {x y : Value} (hd : Dc code pc .dup2 1 pc') (f : Go Z EL nw R Post K h S k n pc' L (x :: y :: x :: y :: st)) (hc : x.category = 1 := by rfl) (hc2 : y.category = 1 := by rfl) : Go Z EL nw R Post K h S k n pc L (x :: y :: st) := by
  obtain ⟨hd, rfl⟩ := hd
  exact Go.plain (fun T t X q => XT.dup2 X G.1 rfl (hb G.2.1 hd) rfl hc hc2 q) f
theorem Good.goto (G : Good Z a0 EL K own code maxL ret nm) (hd : Dj code pc .goto pc' pcY) (f : Go Z EL nw R Post K h S k n pcY L st) : Go Z EL nw R Post K h S k n pc L st := by
  obtain ⟨o, hd, rfl, ho, hp⟩ := hd
  exact Go.plain (fun T t X q => XS.goto X G.1 rfl (pc0 := pc) rfl (hb G.2.1 hd) ho hp q) f
theorem Good.icmp (G : Good Z a0 EL K own code maxL ret nm) {cd : ClassFile.Cond} {x y : Int32} (hd : Dj code pc (.if_icmp cd) pc' pcY) (fY : if_icmp.holds cd x y = true → Go Z EL nw R Post K h S k n pcY L st) (fN : if_icmp.holds cd x y = false → Go Z EL nw R Post K h S k n pc' L st) : Go Z EL nw R Post K h S k n pc L (.int y :: .int x :: st) := by
  obtain ⟨o, hd, rfl, ho, hp⟩ := hd
  cases hc : if_icmp.holds cd x y
  · exact Go.plain (fun T t X q => XS.icmpNo X G.1 rfl (hb G.2.1 hd) rfl hc q) (fN hc)
  · exact Go.plain (fun T t X q => XS.icmpYes X G.1 rfl (pc0 := pc) rfl (hb G.2.1 hd) rfl hc ho hp q) (fY hc)
theorem Good.ifc (G : Good Z a0 EL K own code maxL ret nm) {cd : ClassFile.Cond} {x : Int32} (hd : Dj code pc (.ifCond cd) pc' pcY) (fY : if_icmp.holds cd x 0 = true → Go Z EL nw R Post K h S k n pcY L st) (fN : if_icmp.holds cd x 0 = false → Go Z EL nw R Post K h S k n pc' L st) : Go Z EL nw R Post K h S k n pc L (.int x :: st) := by
  obtain ⟨o, hd, rfl, ho, hp⟩ := hd
  cases hc : if_icmp.holds cd x 0
  · exact Go.plain (fun T t X q => XS.ifNo X G.1 rfl (hb G.2.1 hd) rfl ((if0 _ _).trans hc) q) (fN hc)
  · exact Go.plain (fun T t X q => XS.ifYes X G.1 rfl (pc0 := pc) rfl (hb G.2.1 hd) rfl ((if0 _ _).trans hc) ho hp q) (fY hc)
theorem hold_lt {x y : Int32} : (if_icmp.holds .lt x y = true → x < y) ∧ (if_icmp.holds .lt x y = false → ¬ x < y) := ⟨fun q => (by by_cases z : x < y; exact z; rw [(flt z).1] at q; cases q), fun q z => by rw [(tlt z).1] at q; cases q⟩
theorem hold_ge {x y : Int32} : (if_icmp.holds .ge x y = true → ¬ x < y) ∧ (if_icmp.holds .ge x y = false → x < y) := ⟨fun q z => (by rw [(tlt z).2.1] at q; cases q), fun q => by by_cases z : x < y; exact z; rw [(flt z).2.1] at q; cases q⟩
theorem hold_gt {x y : Int32} : (if_icmp.holds .gt x y = true → y < x) ∧ (if_icmp.holds .gt x y = false → ¬ y < x) := ⟨fun q => (by by_cases z : y < x; exact z; rw [(flt z).2.2.1] at q; cases q), fun q z => by rw [(tlt z).2.2.1] at q; cases q⟩
theorem hold_le {x y : Int32} : (if_icmp.holds .le x y = true → ¬ y < x) ∧ (if_icmp.holds .le x y = false → y < x) := ⟨fun q z => (by rw [(tlt z).2.2.2] at q; cases q), fun q => by by_cases z : y < x; exact z; rw [(flt z).2.2.2] at q; cases q⟩
theorem hold_eq {x y : Int32} : (if_icmp.holds .eq x y = true → x = y) ∧ (if_icmp.holds .eq x y = false → ¬ x = y) := ⟨fun q => (by by_cases z : x = y; exact z; rw [(feq z).1] at q; cases q), fun q z => by rw [(teq z).1] at q; cases q⟩
theorem hold_ne {x y : Int32} : (if_icmp.holds .ne x y = true → ¬ x = y) ∧ (if_icmp.holds .ne x y = false → x = y) := ⟨fun q z => (by rw [(teq z).2] at q; cases q), fun q => by by_cases z : x = y; exact z; rw [(feq z).2] at q; cases q⟩
theorem Good.icmp_lt (G : Good Z a0 EL K own code maxL ret nm) {x y : Int32} (hd : Dj code pc (.if_icmp .lt) pc' pcY) (fY : x < y → Go Z EL nw R Post K h S k n pcY L st) (fN : ¬ x < y → Go Z EL nw R Post K h S k n pc' L st) : Go Z EL nw R Post K h S k n pc L (.int y :: .int x :: st) := G.icmp hd (fun q => fY (hold_lt.1 q)) (fun q => fN (hold_lt.2 q))
theorem Good.if_lt (G : Good Z a0 EL K own code maxL ret nm) {x : Int32} (hd : Dj code pc (.ifCond .lt) pc' pcY) (fY : x < 0 → Go Z EL nw R Post K h S k n pcY L st) (fN : ¬ x < 0 → Go Z EL nw R Post K h S k n pc' L st) : Go Z EL nw R Post K h S k n pc L (.int x :: st) := G.ifc hd (fun q => fY (hold_lt.1 q)) (fun q => fN (hold_lt.2 q))
theorem Good.icmp_ge (G : Good Z a0 EL K own code maxL ret nm) {x y : Int32} (hd : Dj code pc (.if_icmp .ge) pc' pcY) (fY : ¬ x < y → Go Z EL nw R Post K h S k n pcY L st) (fN : x < y → Go Z EL nw R Post K h S k n pc' L st) : Go Z EL nw R Post K h S k n pc L (.int y :: .int x :: st) := G.icmp hd (fun q => fY (hold_ge.1 q)) (fun q => fN (hold_ge.2 q))
theorem Good.if_ge (G : Good Z a0 EL K own code maxL ret nm) {x : Int32} (hd : Dj code pc (.ifCond .ge) pc' pcY) (fY : ¬ x < 0 → Go Z EL nw R Post K h S k n pcY L st) (fN : x < 0 → Go Z EL nw R Post K h S k n pc' L st) : Go Z EL nw R Post K h S k n pc L (.int x :: st) := G.ifc hd (fun q => fY (hold_ge.1 q)) (fun q => fN (hold_ge.2 q))
theorem Good.icmp_gt (G : Good Z a0 EL K own code maxL ret nm) {x y : Int32} (hd : Dj code pc (.if_icmp .gt) pc' pcY) (fY : y < x → Go Z EL nw R Post K h S k n pcY L st) (fN : ¬ y < x → Go Z EL nw R Post K h S k n pc' L st) : Go Z EL nw R Post K h S k n pc L (.int y :: .int x :: st) := G.icmp hd (fun q => fY (hold_gt.1 q)) (fun q => fN (hold_gt.2 q))
theorem Good.if_gt (G : Good Z a0 EL K own code maxL ret nm) {x : Int32} (hd : Dj code pc (.ifCond .gt) pc' pcY) (fY : 0 < x → Go Z EL nw R Post K h S k n pcY L st) (fN : ¬ 0 < x → Go Z EL nw R Post K h S k n pc' L st) : Go Z EL nw R Post K h S k n pc L (.int x :: st) := G.ifc hd (fun q => fY (hold_gt.1 q)) (fun q => fN (hold_gt.2 q))
theorem Good.icmp_le (G : Good Z a0 EL K own code maxL ret nm) {x y : Int32} (hd : Dj code pc (.if_icmp .le) pc' pcY) (fY : ¬ y < x → Go Z EL nw R Post K h S k n pcY L st) (fN : y < x → Go Z EL nw R Post K h S k n pc' L st) : Go Z EL nw R Post K h S k n pc L (.int y :: .int x :: st) := G.icmp hd (fun q => fY (hold_le.1 q)) (fun q => fN (hold_le.2 q))
theorem Good.if_le (G : Good Z a0 EL K own code maxL ret nm) {x : Int32} (hd : Dj code pc (.ifCond .le) pc' pcY) (fY : ¬ 0 < x → Go Z EL nw R Post K h S k n pcY L st) (fN : 0 < x → Go Z EL nw R Post K h S k n pc' L st) : Go Z EL nw R Post K h S k n pc L (.int x :: st) := G.ifc hd (fun q => fY (hold_le.1 q)) (fun q => fN (hold_le.2 q))
theorem Good.icmp_eq (G : Good Z a0 EL K own code maxL ret nm) {x y : Int32} (hd : Dj code pc (.if_icmp .eq) pc' pcY) (fY : x = y → Go Z EL nw R Post K h S k n pcY L st) (fN : ¬ x = y → Go Z EL nw R Post K h S k n pc' L st) : Go Z EL nw R Post K h S k n pc L (.int y :: .int x :: st) := G.icmp hd (fun q => fY (hold_eq.1 q)) (fun q => fN (hold_eq.2 q))
theorem Good.if_eq (G : Good Z a0 EL K own code maxL ret nm) {x : Int32} (hd : Dj code pc (.ifCond .eq) pc' pcY) (fY : x = 0 → Go Z EL nw R Post K h S k n pcY L st) (fN : ¬ x = 0 → Go Z EL nw R Post K h S k n pc' L st) : Go Z EL nw R Post K h S k n pc L (.int x :: st) := G.ifc hd (fun q => fY (hold_eq.1 q)) (fun q => fN (hold_eq.2 q))
theorem Good.icmp_ne (G : Good Z a0 EL K own code maxL ret nm) {x y : Int32} (hd : Dj code pc (.if_icmp .ne) pc' pcY) (fY : ¬ x = y → Go Z EL nw R Post K h S k n pcY L st) (fN : x = y → Go Z EL nw R Post K h S k n pc' L st) : Go Z EL nw R Post K h S k n pc L (.int y :: .int x :: st) := G.icmp hd (fun q => fY (hold_ne.1 q)) (fun q => fN (hold_ne.2 q))
theorem Good.if_ne (G : Good Z a0 EL K own code maxL ret nm) {x : Int32} (hd : Dj code pc (.ifCond .ne) pc' pcY) (fY : ¬ x = 0 → Go Z EL nw R Post K h S k n pcY L st) (fN : x = 0 → Go Z EL nw R Post K h S k n pc' L st) : Go Z EL nw R Post K h S k n pc L (.int x :: st) := G.ifc hd (fun q => fY (hold_ne.1 q)) (fun q => fN (hold_ne.2 q))
theorem Good.ifnullR (G : Good Z a0 EL K own code maxL ret nm) {b : Addr} (hd : Dj code pc .ifnull pc' pcY) (f : Go Z EL nw R Post K h S k n pc' L st) : Go Z EL nw R Post K h S k n pc L (.ref b :: st) := by
  obtain ⟨o, hd, rfl, ho, hp⟩ := hd
  exact Go.plain (fun T t X q => XS.ifnullNo X G.1 rfl (hb G.2.1 hd) rfl q) f
theorem Good.ifnullN (G : Good Z a0 EL K own code maxL ret nm) (hd : Dj code pc .ifnull pc' pcY) (f : Go Z EL nw R Post K h S k n pcY L st) : Go Z EL nw R Post K h S k n pc L (.null :: st) := by
  obtain ⟨o, hd, rfl, ho, hp⟩ := hd
  exact Go.plain (fun T t X q => XS.ifnullYes X G.1 rfl (pc0 := pc) rfl (hb G.2.1 hd) rfl ho hp q) f
theorem Good.ifnonnullR (G : Good Z a0 EL K own code maxL ret nm) {b : Addr} (hd : Dj code pc .ifnonnull pc' pcY) (f : Go Z EL nw R Post K h S k n pcY L st) : Go Z EL nw R Post K h S k n pc L (.ref b :: st) := by
  obtain ⟨o, hd, rfl, ho, hp⟩ := hd
  exact Go.plain (fun T t X q => XS.ifnonnullYes X G.1 rfl (pc0 := pc) rfl (hb G.2.1 hd) rfl ho hp q) f
theorem Good.ifnonnullN (G : Good Z a0 EL K own code maxL ret nm) (hd : Dj code pc .ifnonnull pc' pcY) (f : Go Z EL nw R Post K h S k n pc' L st) : Go Z EL nw R Post K h S k n pc L (.null :: st) := by
  obtain ⟨o, hd, rfl, ho, hp⟩ := hd
  exact Go.plain (fun T t X q => XS.ifnonnullNo X G.1 rfl (hb G.2.1 hd) rfl q) f
theorem Good.acmp_eq (G : Good Z a0 EL K own code maxL ret nm) {x y : Value} (hd : Dj code pc (.if_acmp .eq) pc' pcY) (fY : x = y → Go Z EL nw R Post K h S k n pcY L st) (fN : ¬ x = y → Go Z EL nw R Post K h S k n pc' L st) (hx' : x.isRef = true := by rfl) (hy' : y.isRef = true := by rfl) : Go Z EL nw R Post K h S k n pc L (y :: x :: st) := by
  obtain ⟨o, hd, rfl, ho, hp⟩ := hd
  by_cases z : x = y
  · exact Go.plain (fun T t X q => XT.acmpYes X G.1 rfl (pc0 := pc) rfl (hb G.2.1 hd) rfl hx' hy' (by simp [XT.acmp, z]) ho hp q) (fY z)
  · exact Go.plain (fun T t X q => XT.acmpNo X G.1 rfl (hb G.2.1 hd) rfl hx' hy' (by simp [XT.acmp, z]) q) (fN z)
theorem Good.acmp_ne (G : Good Z a0 EL K own code maxL ret nm) {x y : Value} (hd : Dj code pc (.if_acmp .ne) pc' pcY) (fY : ¬ x = y → Go Z EL nw R Post K h S k n pcY L st) (fN : x = y → Go Z EL nw R Post K h S k n pc' L st) (hx' : x.isRef = true := by rfl) (hy' : y.isRef = true := by rfl) : Go Z EL nw R Post K h S k n pc L (y :: x :: st) := by
  obtain ⟨o, hd, rfl, ho, hp⟩ := hd
  by_cases z : x = y
  · exact Go.plain (fun T t X q => XT.acmpNo X G.1 rfl (hb G.2.1 hd) rfl hx' hy' (by simp [XT.acmp, z]) q) (fN z)
  · exact Go.plain (fun T t X q => XT.acmpYes X G.1 rfl (pc0 := pc) rfl (hb G.2.1 hd) rfl hx' hy' (by simp [XT.acmp, z]) ho hp q) (fY z)
theorem Good.istoreG (G : Good Z a0 EL K own code maxL ret nm) {L' : List Slot} {j : Nat} {x : Int32} (hd : Dc code pc (.istore j) 2 pc') (hl : storeLocals L.toArray j (.int x) = some L'.toArray) (f : Go Z EL nw R Post K h S k n pc' L' st) : Go Z EL nw R Post K h S k n pc L (.int x :: st) := by
  obtain ⟨hd, rfl⟩ := hd
  exact Go.plain (fun T t X q => XS.istore X G.1 rfl (hb G.2.1 hd) rfl hl q) f
theorem Good.istoreNG (G : Good Z a0 EL K own code maxL ret nm) {L' : List Slot} {j : Fin 4} {x : Int32} (hd : Dc code pc (.istore_n j) 1 pc') (hl : storeLocals L.toArray j.val (.int x) = some L'.toArray) (f : Go Z EL nw R Post K h S k n pc' L' st) : Go Z EL nw R Post K h S k n pc L (.int x :: st) := by
  obtain ⟨hd, rfl⟩ := hd
  exact Go.plain (fun T t X q => XS.istoreN X G.1 rfl (hb G.2.1 hd) rfl hl q) f
theorem Good.astoreG (G : Good Z a0 EL K own code maxL ret nm) {L' : List Slot} {j : Nat} {x : Value} (hd : Dc code pc (.astore j) 2 pc') (hv : x.isRef = true) (hl : storeLocals L.toArray j x = some L'.toArray) (f : Go Z EL nw R Post K h S k n pc' L' st) : Go Z EL nw R Post K h S k n pc L (x :: st) := by
  obtain ⟨hd, rfl⟩ := hd
  exact Go.plain (fun T t X q => XS.astore X G.1 rfl (hb G.2.1 hd) rfl hv hl q) f
theorem Good.astoreNG (G : Good Z a0 EL K own code maxL ret nm) {L' : List Slot} {j : Fin 4} {x : Value} (hd : Dc code pc (.astore_n j) 1 pc') (hv : x.isRef = true) (hl : storeLocals L.toArray j.val x = some L'.toArray) (f : Go Z EL nw R Post K h S k n pc' L' st) : Go Z EL nw R Post K h S k n pc L (x :: st) := by
  obtain ⟨hd, rfl⟩ := hd
  exact Go.plain (fun T t X q => XS.astoreN X G.1 rfl (hb G.2.1 hd) rfl hv hl q) f
theorem Good.lstoreG (G : Good Z a0 EL K own code maxL ret nm) {L' : List Slot} {j : Nat} {x : Int64} (hd : Dc code pc (.lstore j) 2 pc') (hl : storeLocals L.toArray j (.long x) = some L'.toArray) (f : Go Z EL nw R Post K h S k n pc' L' st) : Go Z EL nw R Post K h S k n pc L (.long x :: st) := by
  obtain ⟨hd, rfl⟩ := hd
  exact Go.plain (fun T t X q => XS.lstore X G.1 rfl (hb G.2.1 hd) rfl hl q) f
theorem Good.lstoreNG (G : Good Z a0 EL K own code maxL ret nm) {L' : List Slot} {j : Fin 4} {x : Int64} (hd : Dc code pc (.lstore_n j) 1 pc') (hl : storeLocals L.toArray j.val (.long x) = some L'.toArray) (f : Go Z EL nw R Post K h S k n pc' L' st) : Go Z EL nw R Post K h S k n pc L (.long x :: st) := by
  obtain ⟨hd, rfl⟩ := hd
  exact Go.plain (fun T t X q => XS.lstoreN X G.1 rfl (hb G.2.1 hd) rfl hl q) f
theorem Good.iincG (G : Good Z a0 EL K own code maxL ret nm) {L' : List Slot} {j : Nat} {c : Int} {x : Int32} (hd : Dc code pc (.iinc j c) 3 pc') (hx : L[j]? = some (.val (.int x))) (hl : storeLocals L.toArray j (.int (x + Int32.ofInt c)) = some L'.toArray) (f : Go Z EL nw R Post K h S k n pc' L' st) : Go Z EL nw R Post K h S k n pc L st := by
  obtain ⟨hd, rfl⟩ := hd
  exact Go.plain (fun T t X q => XS.iinc X G.1 rfl (hb G.2.1 hd) (by simpa using hx) hl q) f
theorem Good.istore0 (G : Good Z a0 EL K own code maxL ret nm) {x0 : Slot} {r : List Slot} {x : Int32} (hd : Dc code pc (.istore_n 0) 1 pc') (f : Go Z EL nw R Post K h S k n pc' (.val (.int x) :: r) st) (hl : storeLocals (x0 :: r).toArray 0 (.int x) = some (.val (.int x) :: r).toArray := by rfl) : Go Z EL nw R Post K h S k n pc (x0 :: r) (.int x :: st) := G.istoreNG hd hl f
theorem Good.astore0 (G : Good Z a0 EL K own code maxL ret nm) {x0 : Slot} {r : List Slot} {x : Value} (hd : Dc code pc (.astore_n 0) 1 pc') (f : Go Z EL nw R Post K h S k n pc' (.val x :: r) st) (hv : x.isRef = true := by rfl) (hl : storeLocals (x0 :: r).toArray 0 x = some (.val x :: r).toArray := by rfl) : Go Z EL nw R Post K h S k n pc (x0 :: r) (x :: st) := G.astoreNG hd hv hl f
theorem Good.lstore0 (G : Good Z a0 EL K own code maxL ret nm) {x0 y : Slot} {r : List Slot} {x : Int64} (hd : Dc code pc (.lstore_n 0) 1 pc') (f : Go Z EL nw R Post K h S k n pc' (.val (.long x) :: .second :: r) st) (hl : storeLocals (x0 :: y :: r).toArray 0 (.long x) = some (.val (.long x) :: .second :: r).toArray := by rfl) : Go Z EL nw R Post K h S k n pc (x0 :: y :: r) (.long x :: st) := G.lstoreNG hd hl f
theorem Good.iinc0 (G : Good Z a0 EL K own code maxL ret nm) (z : Int32) {r : List Slot} {c : Int} {x : Int32} (hd : Dc code pc (.iinc 0 c) 3 pc') (f : Go Z EL nw R Post K h S k n pc' (.val (.int (x + z)) :: r) st) (hz : Int32.ofInt c = z := by decide) : Go Z EL nw R Post K h S k n pc (.val (.int x) :: r) st := by subst hz; exact G.iincG hd rfl rfl f
theorem Good.istore1 (G : Good Z a0 EL K own code maxL ret nm) {x0 x1 : Slot} {r : List Slot} {x : Int32} (hd : Dc code pc (.istore_n 1) 1 pc') (f : Go Z EL nw R Post K h S k n pc' (x0 :: .val (.int x) :: r) st) (hl : storeLocals (x0 :: x1 :: r).toArray 1 (.int x) = some (x0 :: .val (.int x) :: r).toArray := by rfl) : Go Z EL nw R Post K h S k n pc (x0 :: x1 :: r) (.int x :: st) := G.istoreNG hd hl f
theorem Good.astore1 (G : Good Z a0 EL K own code maxL ret nm) {x0 x1 : Slot} {r : List Slot} {x : Value} (hd : Dc code pc (.astore_n 1) 1 pc') (f : Go Z EL nw R Post K h S k n pc' (x0 :: .val x :: r) st) (hv : x.isRef = true := by rfl) (hl : storeLocals (x0 :: x1 :: r).toArray 1 x = some (x0 :: .val x :: r).toArray := by rfl) : Go Z EL nw R Post K h S k n pc (x0 :: x1 :: r) (x :: st) := G.astoreNG hd hv hl f
theorem Good.lstore1 (G : Good Z a0 EL K own code maxL ret nm) {x0 x1 y : Slot} {r : List Slot} {x : Int64} (hd : Dc code pc (.lstore_n 1) 1 pc') (f : Go Z EL nw R Post K h S k n pc' (x0 :: .val (.long x) :: .second :: r) st) (hl : storeLocals (x0 :: x1 :: y :: r).toArray 1 (.long x) = some (x0 :: .val (.long x) :: .second :: r).toArray := by rfl) : Go Z EL nw R Post K h S k n pc (x0 :: x1 :: y :: r) (.long x :: st) := G.lstoreNG hd hl f
theorem Good.iinc1 (G : Good Z a0 EL K own code maxL ret nm) (z : Int32) {x0 : Slot} {r : List Slot} {c : Int} {x : Int32} (hd : Dc code pc (.iinc 1 c) 3 pc') (f : Go Z EL nw R Post K h S k n pc' (x0 :: .val (.int (x + z)) :: r) st) (hz : Int32.ofInt c = z := by decide) : Go Z EL nw R Post K h S k n pc (x0 :: .val (.int x) :: r) st := by subst hz; exact G.iincG hd rfl rfl f
theorem Good.istore2 (G : Good Z a0 EL K own code maxL ret nm) {x0 x1 x2 : Slot} {r : List Slot} {x : Int32} (hd : Dc code pc (.istore_n 2) 1 pc') (f : Go Z EL nw R Post K h S k n pc' (x0 :: x1 :: .val (.int x) :: r) st) (hl : storeLocals (x0 :: x1 :: x2 :: r).toArray 2 (.int x) = some (x0 :: x1 :: .val (.int x) :: r).toArray := by rfl) : Go Z EL nw R Post K h S k n pc (x0 :: x1 :: x2 :: r) (.int x :: st) := G.istoreNG hd hl f
theorem Good.astore2 (G : Good Z a0 EL K own code maxL ret nm) {x0 x1 x2 : Slot} {r : List Slot} {x : Value} (hd : Dc code pc (.astore_n 2) 1 pc') (f : Go Z EL nw R Post K h S k n pc' (x0 :: x1 :: .val x :: r) st) (hv : x.isRef = true := by rfl) (hl : storeLocals (x0 :: x1 :: x2 :: r).toArray 2 x = some (x0 :: x1 :: .val x :: r).toArray := by rfl) : Go Z EL nw R Post K h S k n pc (x0 :: x1 :: x2 :: r) (x :: st) := G.astoreNG hd hv hl f
theorem Good.lstore2 (G : Good Z a0 EL K own code maxL ret nm) {x0 x1 x2 y : Slot} {r : List Slot} {x : Int64} (hd : Dc code pc (.lstore_n 2) 1 pc') (f : Go Z EL nw R Post K h S k n pc' (x0 :: x1 :: .val (.long x) :: .second :: r) st) (hl : storeLocals (x0 :: x1 :: x2 :: y :: r).toArray 2 (.long x) = some (x0 :: x1 :: .val (.long x) :: .second :: r).toArray := by rfl) : Go Z EL nw R Post K h S k n pc (x0 :: x1 :: x2 :: y :: r) (.long x :: st) := G.lstoreNG hd hl f
theorem Good.iinc2 (G : Good Z a0 EL K own code maxL ret nm) (z : Int32) {x0 x1 : Slot} {r : List Slot} {c : Int} {x : Int32} (hd : Dc code pc (.iinc 2 c) 3 pc') (f : Go Z EL nw R Post K h S k n pc' (x0 :: x1 :: .val (.int (x + z)) :: r) st) (hz : Int32.ofInt c = z := by decide) : Go Z EL nw R Post K h S k n pc (x0 :: x1 :: .val (.int x) :: r) st := by subst hz; exact G.iincG hd rfl rfl f
theorem Good.istore3 (G : Good Z a0 EL K own code maxL ret nm) {x0 x1 x2 x3 : Slot} {r : List Slot} {x : Int32} (hd : Dc code pc (.istore_n 3) 1 pc') (f : Go Z EL nw R Post K h S k n pc' (x0 :: x1 :: x2 :: .val (.int x) :: r) st) (hl : storeLocals (x0 :: x1 :: x2 :: x3 :: r).toArray 3 (.int x) = some (x0 :: x1 :: x2 :: .val (.int x) :: r).toArray := by rfl) : Go Z EL nw R Post K h S k n pc (x0 :: x1 :: x2 :: x3 :: r) (.int x :: st) := G.istoreNG hd hl f
theorem Good.astore3 (G : Good Z a0 EL K own code maxL ret nm) {x0 x1 x2 x3 : Slot} {r : List Slot} {x : Value} (hd : Dc code pc (.astore_n 3) 1 pc') (f : Go Z EL nw R Post K h S k n pc' (x0 :: x1 :: x2 :: .val x :: r) st) (hv : x.isRef = true := by rfl) (hl : storeLocals (x0 :: x1 :: x2 :: x3 :: r).toArray 3 x = some (x0 :: x1 :: x2 :: .val x :: r).toArray := by rfl) : Go Z EL nw R Post K h S k n pc (x0 :: x1 :: x2 :: x3 :: r) (x :: st) := G.astoreNG hd hv hl f
theorem Good.lstore3 (G : Good Z a0 EL K own code maxL ret nm) {x0 x1 x2 x3 y : Slot} {r : List Slot} {x : Int64} (hd : Dc code pc (.lstore_n 3) 1 pc') (f : Go Z EL nw R Post K h S k n pc' (x0 :: x1 :: x2 :: .val (.long x) :: .second :: r) st) (hl : storeLocals (x0 :: x1 :: x2 :: x3 :: y :: r).toArray 3 (.long x) = some (x0 :: x1 :: x2 :: .val (.long x) :: .second :: r).toArray := by rfl) : Go Z EL nw R Post K h S k n pc (x0 :: x1 :: x2 :: x3 :: y :: r) (.long x :: st) := G.lstoreNG hd hl f
theorem Good.iinc3 (G : Good Z a0 EL K own code maxL ret nm) (z : Int32) {x0 x1 x2 : Slot} {r : List Slot} {c : Int} {x : Int32} (hd : Dc code pc (.iinc 3 c) 3 pc') (f : Go Z EL nw R Post K h S k n pc' (x0 :: x1 :: x2 :: .val (.int (x + z)) :: r) st) (hz : Int32.ofInt c = z := by decide) : Go Z EL nw R Post K h S k n pc (x0 :: x1 :: x2 :: .val (.int x) :: r) st := by subst hz; exact G.iincG hd rfl rfl f
theorem Good.istore4 (G : Good Z a0 EL K own code maxL ret nm) {x0 x1 x2 x3 x4 : Slot} {r : List Slot} {x : Int32} (hd : Dc code pc (.istore 4) 2 pc') (f : Go Z EL nw R Post K h S k n pc' (x0 :: x1 :: x2 :: x3 :: .val (.int x) :: r) st) (hl : storeLocals (x0 :: x1 :: x2 :: x3 :: x4 :: r).toArray 4 (.int x) = some (x0 :: x1 :: x2 :: x3 :: .val (.int x) :: r).toArray := by rfl) : Go Z EL nw R Post K h S k n pc (x0 :: x1 :: x2 :: x3 :: x4 :: r) (.int x :: st) := G.istoreG hd hl f
theorem Good.astore4 (G : Good Z a0 EL K own code maxL ret nm) {x0 x1 x2 x3 x4 : Slot} {r : List Slot} {x : Value} (hd : Dc code pc (.astore 4) 2 pc') (f : Go Z EL nw R Post K h S k n pc' (x0 :: x1 :: x2 :: x3 :: .val x :: r) st) (hv : x.isRef = true := by rfl) (hl : storeLocals (x0 :: x1 :: x2 :: x3 :: x4 :: r).toArray 4 x = some (x0 :: x1 :: x2 :: x3 :: .val x :: r).toArray := by rfl) : Go Z EL nw R Post K h S k n pc (x0 :: x1 :: x2 :: x3 :: x4 :: r) (x :: st) := G.astoreG hd hv hl f
theorem Good.lstore4 (G : Good Z a0 EL K own code maxL ret nm) {x0 x1 x2 x3 x4 y : Slot} {r : List Slot} {x : Int64} (hd : Dc code pc (.lstore 4) 2 pc') (f : Go Z EL nw R Post K h S k n pc' (x0 :: x1 :: x2 :: x3 :: .val (.long x) :: .second :: r) st) (hl : storeLocals (x0 :: x1 :: x2 :: x3 :: x4 :: y :: r).toArray 4 (.long x) = some (x0 :: x1 :: x2 :: x3 :: .val (.long x) :: .second :: r).toArray := by rfl) : Go Z EL nw R Post K h S k n pc (x0 :: x1 :: x2 :: x3 :: x4 :: y :: r) (.long x :: st) := G.lstoreG hd hl f
theorem Good.iinc4 (G : Good Z a0 EL K own code maxL ret nm) (z : Int32) {x0 x1 x2 x3 : Slot} {r : List Slot} {c : Int} {x : Int32} (hd : Dc code pc (.iinc 4 c) 3 pc') (f : Go Z EL nw R Post K h S k n pc' (x0 :: x1 :: x2 :: x3 :: .val (.int (x + z)) :: r) st) (hz : Int32.ofInt c = z := by decide) : Go Z EL nw R Post K h S k n pc (x0 :: x1 :: x2 :: x3 :: .val (.int x) :: r) st := by subst hz; exact G.iincG hd rfl rfl f
theorem Good.istore5 (G : Good Z a0 EL K own code maxL ret nm) {x0 x1 x2 x3 x4 x5 : Slot} {r : List Slot} {x : Int32} (hd : Dc code pc (.istore 5) 2 pc') (f : Go Z EL nw R Post K h S k n pc' (x0 :: x1 :: x2 :: x3 :: x4 :: .val (.int x) :: r) st) (hl : storeLocals (x0 :: x1 :: x2 :: x3 :: x4 :: x5 :: r).toArray 5 (.int x) = some (x0 :: x1 :: x2 :: x3 :: x4 :: .val (.int x) :: r).toArray := by rfl) : Go Z EL nw R Post K h S k n pc (x0 :: x1 :: x2 :: x3 :: x4 :: x5 :: r) (.int x :: st) := G.istoreG hd hl f
theorem Good.astore5 (G : Good Z a0 EL K own code maxL ret nm) {x0 x1 x2 x3 x4 x5 : Slot} {r : List Slot} {x : Value} (hd : Dc code pc (.astore 5) 2 pc') (f : Go Z EL nw R Post K h S k n pc' (x0 :: x1 :: x2 :: x3 :: x4 :: .val x :: r) st) (hv : x.isRef = true := by rfl) (hl : storeLocals (x0 :: x1 :: x2 :: x3 :: x4 :: x5 :: r).toArray 5 x = some (x0 :: x1 :: x2 :: x3 :: x4 :: .val x :: r).toArray := by rfl) : Go Z EL nw R Post K h S k n pc (x0 :: x1 :: x2 :: x3 :: x4 :: x5 :: r) (x :: st) := G.astoreG hd hv hl f
theorem Good.lstore5 (G : Good Z a0 EL K own code maxL ret nm) {x0 x1 x2 x3 x4 x5 y : Slot} {r : List Slot} {x : Int64} (hd : Dc code pc (.lstore 5) 2 pc') (f : Go Z EL nw R Post K h S k n pc' (x0 :: x1 :: x2 :: x3 :: x4 :: .val (.long x) :: .second :: r) st) (hl : storeLocals (x0 :: x1 :: x2 :: x3 :: x4 :: x5 :: y :: r).toArray 5 (.long x) = some (x0 :: x1 :: x2 :: x3 :: x4 :: .val (.long x) :: .second :: r).toArray := by rfl) : Go Z EL nw R Post K h S k n pc (x0 :: x1 :: x2 :: x3 :: x4 :: x5 :: y :: r) (.long x :: st) := G.lstoreG hd hl f
theorem Good.iinc5 (G : Good Z a0 EL K own code maxL ret nm) (z : Int32) {x0 x1 x2 x3 x4 : Slot} {r : List Slot} {c : Int} {x : Int32} (hd : Dc code pc (.iinc 5 c) 3 pc') (f : Go Z EL nw R Post K h S k n pc' (x0 :: x1 :: x2 :: x3 :: x4 :: .val (.int (x + z)) :: r) st) (hz : Int32.ofInt c = z := by decide) : Go Z EL nw R Post K h S k n pc (x0 :: x1 :: x2 :: x3 :: x4 :: .val (.int x) :: r) st := by subst hz; exact G.iincG hd rfl rfl f
theorem Good.istore6 (G : Good Z a0 EL K own code maxL ret nm) {x0 x1 x2 x3 x4 x5 x6 : Slot} {r : List Slot} {x : Int32} (hd : Dc code pc (.istore 6) 2 pc') (f : Go Z EL nw R Post K h S k n pc' (x0 :: x1 :: x2 :: x3 :: x4 :: x5 :: .val (.int x) :: r) st) (hl : storeLocals (x0 :: x1 :: x2 :: x3 :: x4 :: x5 :: x6 :: r).toArray 6 (.int x) = some (x0 :: x1 :: x2 :: x3 :: x4 :: x5 :: .val (.int x) :: r).toArray := by rfl) : Go Z EL nw R Post K h S k n pc (x0 :: x1 :: x2 :: x3 :: x4 :: x5 :: x6 :: r) (.int x :: st) := G.istoreG hd hl f
theorem Good.astore6 (G : Good Z a0 EL K own code maxL ret nm) {x0 x1 x2 x3 x4 x5 x6 : Slot} {r : List Slot} {x : Value} (hd : Dc code pc (.astore 6) 2 pc') (f : Go Z EL nw R Post K h S k n pc' (x0 :: x1 :: x2 :: x3 :: x4 :: x5 :: .val x :: r) st) (hv : x.isRef = true := by rfl) (hl : storeLocals (x0 :: x1 :: x2 :: x3 :: x4 :: x5 :: x6 :: r).toArray 6 x = some (x0 :: x1 :: x2 :: x3 :: x4 :: x5 :: .val x :: r).toArray := by rfl) : Go Z EL nw R Post K h S k n pc (x0 :: x1 :: x2 :: x3 :: x4 :: x5 :: x6 :: r) (x :: st) := G.astoreG hd hv hl f
theorem Good.lstore6 (G : Good Z a0 EL K own code maxL ret nm) {x0 x1 x2 x3 x4 x5 x6 y : Slot} {r : List Slot} {x : Int64} (hd : Dc code pc (.lstore 6) 2 pc') (f : Go Z EL nw R Post K h S k n pc' (x0 :: x1 :: x2 :: x3 :: x4 :: x5 :: .val (.long x) :: .second :: r) st) (hl : storeLocals (x0 :: x1 :: x2 :: x3 :: x4 :: x5 :: x6 :: y :: r).toArray 6 (.long x) = some (x0 :: x1 :: x2 :: x3 :: x4 :: x5 :: .val (.long x) :: .second :: r).toArray := by rfl) : Go Z EL nw R Post K h S k n pc (x0 :: x1 :: x2 :: x3 :: x4 :: x5 :: x6 :: y :: r) (.long x :: st) := G.lstoreG hd hl f
theorem Good.iinc6 (G : Good Z a0 EL K own code maxL ret nm) (z : Int32) {x0 x1 x2 x3 x4 x5 : Slot} {r : List Slot} {c : Int} {x : Int32} (hd : Dc code pc (.iinc 6 c) 3 pc') (f : Go Z EL nw R Post K h S k n pc' (x0 :: x1 :: x2 :: x3 :: x4 :: x5 :: .val (.int (x + z)) :: r) st) (hz : Int32.ofInt c = z := by decide) : Go Z EL nw R Post K h S k n pc (x0 :: x1 :: x2 :: x3 :: x4 :: x5 :: .val (.int x) :: r) st := by subst hz; exact G.iincG hd rfl rfl f
theorem Good.istore7 (G : Good Z a0 EL K own code maxL ret nm) {x0 x1 x2 x3 x4 x5 x6 x7 : Slot} {r : List Slot} {x : Int32} (hd : Dc code pc (.istore 7) 2 pc') (f : Go Z EL nw R Post K h S k n pc' (x0 :: x1 :: x2 :: x3 :: x4 :: x5 :: x6 :: .val (.int x) :: r) st) (hl : storeLocals (x0 :: x1 :: x2 :: x3 :: x4 :: x5 :: x6 :: x7 :: r).toArray 7 (.int x) = some (x0 :: x1 :: x2 :: x3 :: x4 :: x5 :: x6 :: .val (.int x) :: r).toArray := by rfl) : Go Z EL nw R Post K h S k n pc (x0 :: x1 :: x2 :: x3 :: x4 :: x5 :: x6 :: x7 :: r) (.int x :: st) := G.istoreG hd hl f
theorem Good.astore7 (G : Good Z a0 EL K own code maxL ret nm) {x0 x1 x2 x3 x4 x5 x6 x7 : Slot} {r : List Slot} {x : Value} (hd : Dc code pc (.astore 7) 2 pc') (f : Go Z EL nw R Post K h S k n pc' (x0 :: x1 :: x2 :: x3 :: x4 :: x5 :: x6 :: .val x :: r) st) (hv : x.isRef = true := by rfl) (hl : storeLocals (x0 :: x1 :: x2 :: x3 :: x4 :: x5 :: x6 :: x7 :: r).toArray 7 x = some (x0 :: x1 :: x2 :: x3 :: x4 :: x5 :: x6 :: .val x :: r).toArray := by rfl) : Go Z EL nw R Post K h S k n pc (x0 :: x1 :: x2 :: x3 :: x4 :: x5 :: x6 :: x7 :: r) (x :: st) := G.astoreG hd hv hl f
theorem Good.lstore7 (G : Good Z a0 EL K own code maxL ret nm) {x0 x1 x2 x3 x4 x5 x6 x7 y : Slot} {r : List Slot} {x : Int64} (hd : Dc code pc (.lstore 7) 2 pc') (f : Go Z EL nw R Post K h S k n pc' (x0 :: x1 :: x2 :: x3 :: x4 :: x5 :: x6 :: .val (.long x) :: .second :: r) st) (hl : storeLocals (x0 :: x1 :: x2 :: x3 :: x4 :: x5 :: x6 :: x7 :: y :: r).toArray 7 (.long x) = some (x0 :: x1 :: x2 :: x3 :: x4 :: x5 :: x6 :: .val (.long x) :: .second :: r).toArray := by rfl) : Go Z EL nw R Post K h S k n pc (x0 :: x1 :: x2 :: x3 :: x4 :: x5 :: x6 :: x7 :: y :: r) (.long x :: st) := G.lstoreG hd hl f
theorem Good.iinc7 (G : Good Z a0 EL K own code maxL ret nm) (z : Int32) {x0 x1 x2 x3 x4 x5 x6 : Slot} {r : List Slot} {c : Int} {x : Int32} (hd : Dc code pc (.iinc 7 c) 3 pc') (f : Go Z EL nw R Post K h S k n pc' (x0 :: x1 :: x2 :: x3 :: x4 :: x5 :: x6 :: .val (.int (x + z)) :: r) st) (hz : Int32.ofInt c = z := by decide) : Go Z EL nw R Post K h S k n pc (x0 :: x1 :: x2 :: x3 :: x4 :: x5 :: x6 :: .val (.int x) :: r) st := by subst hz; exact G.iincG hd rfl rfl f
theorem Good.istore8 (G : Good Z a0 EL K own code maxL ret nm) {x0 x1 x2 x3 x4 x5 x6 x7 x8 : Slot} {r : List Slot} {x : Int32} (hd : Dc code pc (.istore 8) 2 pc') (f : Go Z EL nw R Post K h S k n pc' (x0 :: x1 :: x2 :: x3 :: x4 :: x5 :: x6 :: x7 :: .val (.int x) :: r) st) (hl : storeLocals (x0 :: x1 :: x2 :: x3 :: x4 :: x5 :: x6 :: x7 :: x8 :: r).toArray 8 (.int x) = some (x0 :: x1 :: x2 :: x3 :: x4 :: x5 :: x6 :: x7 :: .val (.int x) :: r).toArray := by rfl) : Go Z EL nw R Post K h S k n pc (x0 :: x1 :: x2 :: x3 :: x4 :: x5 :: x6 :: x7 :: x8 :: r) (.int x :: st) := G.istoreG hd hl f
theorem Good.astore8 (G : Good Z a0 EL K own code maxL ret nm) {x0 x1 x2 x3 x4 x5 x6 x7 x8 : Slot} {r : List Slot} {x : Value} (hd : Dc code pc (.astore 8) 2 pc') (f : Go Z EL nw R Post K h S k n pc' (x0 :: x1 :: x2 :: x3 :: x4 :: x5 :: x6 :: x7 :: .val x :: r) st) (hv : x.isRef = true := by rfl) (hl : storeLocals (x0 :: x1 :: x2 :: x3 :: x4 :: x5 :: x6 :: x7 :: x8 :: r).toArray 8 x = some (x0 :: x1 :: x2 :: x3 :: x4 :: x5 :: x6 :: x7 :: .val x :: r).toArray := by rfl) : Go Z EL nw R Post K h S k n pc (x0 :: x1 :: x2 :: x3 :: x4 :: x5 :: x6 :: x7 :: x8 :: r) (x :: st) := G.astoreG hd hv hl f
theorem Good.lstore8 (G : Good Z a0 EL K own code maxL ret nm) {x0 x1 x2 x3 x4 x5 x6 x7 x8 y : Slot} {r : List Slot} {x : Int64} (hd : Dc code pc (.lstore 8) 2 pc') (f : Go Z EL nw R Post K h S k n pc' (x0 :: x1 :: x2 :: x3 :: x4 :: x5 :: x6 :: x7 :: .val (.long x) :: .second :: r) st) (hl : storeLocals (x0 :: x1 :: x2 :: x3 :: x4 :: x5 :: x6 :: x7 :: x8 :: y :: r).toArray 8 (.long x) = some (x0 :: x1 :: x2 :: x3 :: x4 :: x5 :: x6 :: x7 :: .val (.long x) :: .second :: r).toArray := by rfl) : Go Z EL nw R Post K h S k n pc (x0 :: x1 :: x2 :: x3 :: x4 :: x5 :: x6 :: x7 :: x8 :: y :: r) (.long x :: st) := G.lstoreG hd hl f
theorem Good.iinc8 (G : Good Z a0 EL K own code maxL ret nm) (z : Int32) {x0 x1 x2 x3 x4 x5 x6 x7 : Slot} {r : List Slot} {c : Int} {x : Int32} (hd : Dc code pc (.iinc 8 c) 3 pc') (f : Go Z EL nw R Post K h S k n pc' (x0 :: x1 :: x2 :: x3 :: x4 :: x5 :: x6 :: x7 :: .val (.int (x + z)) :: r) st) (hz : Int32.ofInt c = z := by decide) : Go Z EL nw R Post K h S k n pc (x0 :: x1 :: x2 :: x3 :: x4 :: x5 :: x6 :: x7 :: .val (.int x) :: r) st := by subst hz; exact G.iincG hd rfl rfl f
theorem Good.istore9 (G : Good Z a0 EL K own code maxL ret nm) {x0 x1 x2 x3 x4 x5 x6 x7 x8 x9 : Slot} {r : List Slot} {x : Int32} (hd : Dc code pc (.istore 9) 2 pc') (f : Go Z EL nw R Post K h S k n pc' (x0 :: x1 :: x2 :: x3 :: x4 :: x5 :: x6 :: x7 :: x8 :: .val (.int x) :: r) st) (hl : storeLocals (x0 :: x1 :: x2 :: x3 :: x4 :: x5 :: x6 :: x7 :: x8 :: x9 :: r).toArray 9 (.int x) = some (x0 :: x1 :: x2 :: x3 :: x4 :: x5 :: x6 :: x7 :: x8 :: .val (.int x) :: r).toArray := by rfl) : Go Z EL nw R Post K h S k n pc (x0 :: x1 :: x2 :: x3 :: x4 :: x5 :: x6 :: x7 :: x8 :: x9 :: r) (.int x :: st) := G.istoreG hd hl f
theorem Good.astore9 (G : Good Z a0 EL K own code maxL ret nm) {x0 x1 x2 x3 x4 x5 x6 x7 x8 x9 : Slot} {r : List Slot} {x : Value} (hd : Dc code pc (.astore 9) 2 pc') (f : Go Z EL nw R Post K h S k n pc' (x0 :: x1 :: x2 :: x3 :: x4 :: x5 :: x6 :: x7 :: x8 :: .val x :: r) st) (hv : x.isRef = true := by rfl) (hl : storeLocals (x0 :: x1 :: x2 :: x3 :: x4 :: x5 :: x6 :: x7 :: x8 :: x9 :: r).toArray 9 x = some (x0 :: x1 :: x2 :: x3 :: x4 :: x5 :: x6 :: x7 :: x8 :: .val x :: r).toArray := by rfl) : Go Z EL nw R Post K h S k n pc (x0 :: x1 :: x2 :: x3 :: x4 :: x5 :: x6 :: x7 :: x8 :: x9 :: r) (x :: st) := G.astoreG hd hv hl f
theorem Good.lstore9 (G : Good Z a0 EL K own code maxL ret nm) {x0 x1 x2 x3 x4 x5 x6 x7 x8 x9 y : Slot} {r : List Slot} {x : Int64} (hd : Dc code pc (.lstore 9) 2 pc') (f : Go Z EL nw R Post K h S k n pc' (x0 :: x1 :: x2 :: x3 :: x4 :: x5 :: x6 :: x7 :: x8 :: .val (.long x) :: .second :: r) st) (hl : storeLocals (x0 :: x1 :: x2 :: x3 :: x4 :: x5 :: x6 :: x7 :: x8 :: x9 :: y :: r).toArray 9 (.long x) = some (x0 :: x1 :: x2 :: x3 :: x4 :: x5 :: x6 :: x7 :: x8 :: .val (.long x) :: .second :: r).toArray := by rfl) : Go Z EL nw R Post K h S k n pc (x0 :: x1 :: x2 :: x3 :: x4 :: x5 :: x6 :: x7 :: x8 :: x9 :: y :: r) (.long x :: st) := G.lstoreG hd hl f
theorem Good.iinc9 (G : Good Z a0 EL K own code maxL ret nm) (z : Int32) {x0 x1 x2 x3 x4 x5 x6 x7 x8 : Slot} {r : List Slot} {c : Int} {x : Int32} (hd : Dc code pc (.iinc 9 c) 3 pc') (f : Go Z EL nw R Post K h S k n pc' (x0 :: x1 :: x2 :: x3 :: x4 :: x5 :: x6 :: x7 :: x8 :: .val (.int (x + z)) :: r) st) (hz : Int32.ofInt c = z := by decide) : Go Z EL nw R Post K h S k n pc (x0 :: x1 :: x2 :: x3 :: x4 :: x5 :: x6 :: x7 :: x8 :: .val (.int x) :: r) st := by subst hz; exact G.iincG hd rfl rfl f
theorem Good.istore10 (G : Good Z a0 EL K own code maxL ret nm) {x0 x1 x2 x3 x4 x5 x6 x7 x8 x9 x10 : Slot} {r : List Slot} {x : Int32} (hd : Dc code pc (.istore 10) 2 pc') (f : Go Z EL nw R Post K h S k n pc' (x0 :: x1 :: x2 :: x3 :: x4 :: x5 :: x6 :: x7 :: x8 :: x9 :: .val (.int x) :: r) st) (hl : storeLocals (x0 :: x1 :: x2 :: x3 :: x4 :: x5 :: x6 :: x7 :: x8 :: x9 :: x10 :: r).toArray 10 (.int x) = some (x0 :: x1 :: x2 :: x3 :: x4 :: x5 :: x6 :: x7 :: x8 :: x9 :: .val (.int x) :: r).toArray := by rfl) : Go Z EL nw R Post K h S k n pc (x0 :: x1 :: x2 :: x3 :: x4 :: x5 :: x6 :: x7 :: x8 :: x9 :: x10 :: r) (.int x :: st) := G.istoreG hd hl f
theorem Good.astore10 (G : Good Z a0 EL K own code maxL ret nm) {x0 x1 x2 x3 x4 x5 x6 x7 x8 x9 x10 : Slot} {r : List Slot} {x : Value} (hd : Dc code pc (.astore 10) 2 pc') (f : Go Z EL nw R Post K h S k n pc' (x0 :: x1 :: x2 :: x3 :: x4 :: x5 :: x6 :: x7 :: x8 :: x9 :: .val x :: r) st) (hv : x.isRef = true := by rfl) (hl : storeLocals (x0 :: x1 :: x2 :: x3 :: x4 :: x5 :: x6 :: x7 :: x8 :: x9 :: x10 :: r).toArray 10 x = some (x0 :: x1 :: x2 :: x3 :: x4 :: x5 :: x6 :: x7 :: x8 :: x9 :: .val x :: r).toArray := by rfl) : Go Z EL nw R Post K h S k n pc (x0 :: x1 :: x2 :: x3 :: x4 :: x5 :: x6 :: x7 :: x8 :: x9 :: x10 :: r) (x :: st) := G.astoreG hd hv hl f
theorem Good.lstore10 (G : Good Z a0 EL K own code maxL ret nm) {x0 x1 x2 x3 x4 x5 x6 x7 x8 x9 x10 y : Slot} {r : List Slot} {x : Int64} (hd : Dc code pc (.lstore 10) 2 pc') (f : Go Z EL nw R Post K h S k n pc' (x0 :: x1 :: x2 :: x3 :: x4 :: x5 :: x6 :: x7 :: x8 :: x9 :: .val (.long x) :: .second :: r) st) (hl : storeLocals (x0 :: x1 :: x2 :: x3 :: x4 :: x5 :: x6 :: x7 :: x8 :: x9 :: x10 :: y :: r).toArray 10 (.long x) = some (x0 :: x1 :: x2 :: x3 :: x4 :: x5 :: x6 :: x7 :: x8 :: x9 :: .val (.long x) :: .second :: r).toArray := by rfl) : Go Z EL nw R Post K h S k n pc (x0 :: x1 :: x2 :: x3 :: x4 :: x5 :: x6 :: x7 :: x8 :: x9 :: x10 :: y :: r) (.long x :: st) := G.lstoreG hd hl f
theorem Good.iinc10 (G : Good Z a0 EL K own code maxL ret nm) (z : Int32) {x0 x1 x2 x3 x4 x5 x6 x7 x8 x9 : Slot} {r : List Slot} {c : Int} {x : Int32} (hd : Dc code pc (.iinc 10 c) 3 pc') (f : Go Z EL nw R Post K h S k n pc' (x0 :: x1 :: x2 :: x3 :: x4 :: x5 :: x6 :: x7 :: x8 :: x9 :: .val (.int (x + z)) :: r) st) (hz : Int32.ofInt c = z := by decide) : Go Z EL nw R Post K h S k n pc (x0 :: x1 :: x2 :: x3 :: x4 :: x5 :: x6 :: x7 :: x8 :: x9 :: .val (.int x) :: r) st := by subst hz; exact G.iincG hd rfl rfl f
theorem Good.istore11 (G : Good Z a0 EL K own code maxL ret nm) {x0 x1 x2 x3 x4 x5 x6 x7 x8 x9 x10 x11 : Slot} {r : List Slot} {x : Int32} (hd : Dc code pc (.istore 11) 2 pc') (f : Go Z EL nw R Post K h S k n pc' (x0 :: x1 :: x2 :: x3 :: x4 :: x5 :: x6 :: x7 :: x8 :: x9 :: x10 :: .val (.int x) :: r) st) (hl : storeLocals (x0 :: x1 :: x2 :: x3 :: x4 :: x5 :: x6 :: x7 :: x8 :: x9 :: x10 :: x11 :: r).toArray 11 (.int x) = some (x0 :: x1 :: x2 :: x3 :: x4 :: x5 :: x6 :: x7 :: x8 :: x9 :: x10 :: .val (.int x) :: r).toArray := by rfl) : Go Z EL nw R Post K h S k n pc (x0 :: x1 :: x2 :: x3 :: x4 :: x5 :: x6 :: x7 :: x8 :: x9 :: x10 :: x11 :: r) (.int x :: st) := G.istoreG hd hl f
theorem Good.astore11 (G : Good Z a0 EL K own code maxL ret nm) {x0 x1 x2 x3 x4 x5 x6 x7 x8 x9 x10 x11 : Slot} {r : List Slot} {x : Value} (hd : Dc code pc (.astore 11) 2 pc') (f : Go Z EL nw R Post K h S k n pc' (x0 :: x1 :: x2 :: x3 :: x4 :: x5 :: x6 :: x7 :: x8 :: x9 :: x10 :: .val x :: r) st) (hv : x.isRef = true := by rfl) (hl : storeLocals (x0 :: x1 :: x2 :: x3 :: x4 :: x5 :: x6 :: x7 :: x8 :: x9 :: x10 :: x11 :: r).toArray 11 x = some (x0 :: x1 :: x2 :: x3 :: x4 :: x5 :: x6 :: x7 :: x8 :: x9 :: x10 :: .val x :: r).toArray := by rfl) : Go Z EL nw R Post K h S k n pc (x0 :: x1 :: x2 :: x3 :: x4 :: x5 :: x6 :: x7 :: x8 :: x9 :: x10 :: x11 :: r) (x :: st) := G.astoreG hd hv hl f
theorem Good.lstore11 (G : Good Z a0 EL K own code maxL ret nm) {x0 x1 x2 x3 x4 x5 x6 x7 x8 x9 x10 x11 y : Slot} {r : List Slot} {x : Int64} (hd : Dc code pc (.lstore 11) 2 pc') (f : Go Z EL nw R Post K h S k n pc' (x0 :: x1 :: x2 :: x3 :: x4 :: x5 :: x6 :: x7 :: x8 :: x9 :: x10 :: .val (.long x) :: .second :: r) st) (hl : storeLocals (x0 :: x1 :: x2 :: x3 :: x4 :: x5 :: x6 :: x7 :: x8 :: x9 :: x10 :: x11 :: y :: r).toArray 11 (.long x) = some (x0 :: x1 :: x2 :: x3 :: x4 :: x5 :: x6 :: x7 :: x8 :: x9 :: x10 :: .val (.long x) :: .second :: r).toArray := by rfl) : Go Z EL nw R Post K h S k n pc (x0 :: x1 :: x2 :: x3 :: x4 :: x5 :: x6 :: x7 :: x8 :: x9 :: x10 :: x11 :: y :: r) (.long x :: st) := G.lstoreG hd hl f
theorem Good.iinc11 (G : Good Z a0 EL K own code maxL ret nm) (z : Int32) {x0 x1 x2 x3 x4 x5 x6 x7 x8 x9 x10 : Slot} {r : List Slot} {c : Int} {x : Int32} (hd : Dc code pc (.iinc 11 c) 3 pc') (f : Go Z EL nw R Post K h S k n pc' (x0 :: x1 :: x2 :: x3 :: x4 :: x5 :: x6 :: x7 :: x8 :: x9 :: x10 :: .val (.int (x + z)) :: r) st) (hz : Int32.ofInt c = z := by decide) : Go Z EL nw R Post K h S k n pc (x0 :: x1 :: x2 :: x3 :: x4 :: x5 :: x6 :: x7 :: x8 :: x9 :: x10 :: .val (.int x) :: r) st := by subst hz; exact G.iincG hd rfl rfl f
theorem Good.istore12 (G : Good Z a0 EL K own code maxL ret nm) {x0 x1 x2 x3 x4 x5 x6 x7 x8 x9 x10 x11 x12 : Slot} {r : List Slot} {x : Int32} (hd : Dc code pc (.istore 12) 2 pc') (f : Go Z EL nw R Post K h S k n pc' (x0 :: x1 :: x2 :: x3 :: x4 :: x5 :: x6 :: x7 :: x8 :: x9 :: x10 :: x11 :: .val (.int x) :: r) st) (hl : storeLocals (x0 :: x1 :: x2 :: x3 :: x4 :: x5 :: x6 :: x7 :: x8 :: x9 :: x10 :: x11 :: x12 :: r).toArray 12 (.int x) = some (x0 :: x1 :: x2 :: x3 :: x4 :: x5 :: x6 :: x7 :: x8 :: x9 :: x10 :: x11 :: .val (.int x) :: r).toArray := by rfl) : Go Z EL nw R Post K h S k n pc (x0 :: x1 :: x2 :: x3 :: x4 :: x5 :: x6 :: x7 :: x8 :: x9 :: x10 :: x11 :: x12 :: r) (.int x :: st) := G.istoreG hd hl f
theorem Good.astore12 (G : Good Z a0 EL K own code maxL ret nm) {x0 x1 x2 x3 x4 x5 x6 x7 x8 x9 x10 x11 x12 : Slot} {r : List Slot} {x : Value} (hd : Dc code pc (.astore 12) 2 pc') (f : Go Z EL nw R Post K h S k n pc' (x0 :: x1 :: x2 :: x3 :: x4 :: x5 :: x6 :: x7 :: x8 :: x9 :: x10 :: x11 :: .val x :: r) st) (hv : x.isRef = true := by rfl) (hl : storeLocals (x0 :: x1 :: x2 :: x3 :: x4 :: x5 :: x6 :: x7 :: x8 :: x9 :: x10 :: x11 :: x12 :: r).toArray 12 x = some (x0 :: x1 :: x2 :: x3 :: x4 :: x5 :: x6 :: x7 :: x8 :: x9 :: x10 :: x11 :: .val x :: r).toArray := by rfl) : Go Z EL nw R Post K h S k n pc (x0 :: x1 :: x2 :: x3 :: x4 :: x5 :: x6 :: x7 :: x8 :: x9 :: x10 :: x11 :: x12 :: r) (x :: st) := G.astoreG hd hv hl f
theorem Good.lstore12 (G : Good Z a0 EL K own code maxL ret nm) {x0 x1 x2 x3 x4 x5 x6 x7 x8 x9 x10 x11 x12 y : Slot} {r : List Slot} {x : Int64} (hd : Dc code pc (.lstore 12) 2 pc') (f : Go Z EL nw R Post K h S k n pc' (x0 :: x1 :: x2 :: x3 :: x4 :: x5 :: x6 :: x7 :: x8 :: x9 :: x10 :: x11 :: .val (.long x) :: .second :: r) st) (hl : storeLocals (x0 :: x1 :: x2 :: x3 :: x4 :: x5 :: x6 :: x7 :: x8 :: x9 :: x10 :: x11 :: x12 :: y :: r).toArray 12 (.long x) = some (x0 :: x1 :: x2 :: x3 :: x4 :: x5 :: x6 :: x7 :: x8 :: x9 :: x10 :: x11 :: .val (.long x) :: .second :: r).toArray := by rfl) : Go Z EL nw R Post K h S k n pc (x0 :: x1 :: x2 :: x3 :: x4 :: x5 :: x6 :: x7 :: x8 :: x9 :: x10 :: x11 :: x12 :: y :: r) (.long x :: st) := G.lstoreG hd hl f
theorem Good.iinc12 (G : Good Z a0 EL K own code maxL ret nm) (z : Int32) {x0 x1 x2 x3 x4 x5 x6 x7 x8 x9 x10 x11 : Slot} {r : List Slot} {c : Int} {x : Int32} (hd : Dc code pc (.iinc 12 c) 3 pc') (f : Go Z EL nw R Post K h S k n pc' (x0 :: x1 :: x2 :: x3 :: x4 :: x5 :: x6 :: x7 :: x8 :: x9 :: x10 :: x11 :: .val (.int (x + z)) :: r) st) (hz : Int32.ofInt c = z := by decide) : Go Z EL nw R Post K h S k n pc (x0 :: x1 :: x2 :: x3 :: x4 :: x5 :: x6 :: x7 :: x8 :: x9 :: x10 :: x11 :: .val (.int x) :: r) st := by subst hz; exact G.iincG hd rfl rfl f
theorem Good.istore13 (G : Good Z a0 EL K own code maxL ret nm) {x0 x1 x2 x3 x4 x5 x6 x7 x8 x9 x10 x11 x12 x13 : Slot} {r : List Slot} {x : Int32} (hd : Dc code pc (.istore 13) 2 pc') (f : Go Z EL nw R Post K h S k n pc' (x0 :: x1 :: x2 :: x3 :: x4 :: x5 :: x6 :: x7 :: x8 :: x9 :: x10 :: x11 :: x12 :: .val (.int x) :: r) st) (hl : storeLocals (x0 :: x1 :: x2 :: x3 :: x4 :: x5 :: x6 :: x7 :: x8 :: x9 :: x10 :: x11 :: x12 :: x13 :: r).toArray 13 (.int x) = some (x0 :: x1 :: x2 :: x3 :: x4 :: x5 :: x6 :: x7 :: x8 :: x9 :: x10 :: x11 :: x12 :: .val (.int x) :: r).toArray := by rfl) : Go Z EL nw R Post K h S k n pc (x0 :: x1 :: x2 :: x3 :: x4 :: x5 :: x6 :: x7 :: x8 :: x9 :: x10 :: x11 :: x12 :: x13 :: r) (.int x :: st) := G.istoreG hd hl f
theorem Good.astore13 (G : Good Z a0 EL K own code maxL ret nm) {x0 x1 x2 x3 x4 x5 x6 x7 x8 x9 x10 x11 x12 x13 : Slot} {r : List Slot} {x : Value} (hd : Dc code pc (.astore 13) 2 pc') (f : Go Z EL nw R Post K h S k n pc' (x0 :: x1 :: x2 :: x3 :: x4 :: x5 :: x6 :: x7 :: x8 :: x9 :: x10 :: x11 :: x12 :: .val x :: r) st) (hv : x.isRef = true := by rfl) (hl : storeLocals (x0 :: x1 :: x2 :: x3 :: x4 :: x5 :: x6 :: x7 :: x8 :: x9 :: x10 :: x11 :: x12 :: x13 :: r).toArray 13 x = some (x0 :: x1 :: x2 :: x3 :: x4 :: x5 :: x6 :: x7 :: x8 :: x9 :: x10 :: x11 :: x12 :: .val x :: r).toArray := by rfl) : Go Z EL nw R Post K h S k n pc (x0 :: x1 :: x2 :: x3 :: x4 :: x5 :: x6 :: x7 :: x8 :: x9 :: x10 :: x11 :: x12 :: x13 :: r) (x :: st) := G.astoreG hd hv hl f
theorem Good.lstore13 (G : Good Z a0 EL K own code maxL ret nm) {x0 x1 x2 x3 x4 x5 x6 x7 x8 x9 x10 x11 x12 x13 y : Slot} {r : List Slot} {x : Int64} (hd : Dc code pc (.lstore 13) 2 pc') (f : Go Z EL nw R Post K h S k n pc' (x0 :: x1 :: x2 :: x3 :: x4 :: x5 :: x6 :: x7 :: x8 :: x9 :: x10 :: x11 :: x12 :: .val (.long x) :: .second :: r) st) (hl : storeLocals (x0 :: x1 :: x2 :: x3 :: x4 :: x5 :: x6 :: x7 :: x8 :: x9 :: x10 :: x11 :: x12 :: x13 :: y :: r).toArray 13 (.long x) = some (x0 :: x1 :: x2 :: x3 :: x4 :: x5 :: x6 :: x7 :: x8 :: x9 :: x10 :: x11 :: x12 :: .val (.long x) :: .second :: r).toArray := by rfl) : Go Z EL nw R Post K h S k n pc (x0 :: x1 :: x2 :: x3 :: x4 :: x5 :: x6 :: x7 :: x8 :: x9 :: x10 :: x11 :: x12 :: x13 :: y :: r) (.long x :: st) := G.lstoreG hd hl f
theorem Good.iinc13 (G : Good Z a0 EL K own code maxL ret nm) (z : Int32) {x0 x1 x2 x3 x4 x5 x6 x7 x8 x9 x10 x11 x12 : Slot} {r : List Slot} {c : Int} {x : Int32} (hd : Dc code pc (.iinc 13 c) 3 pc') (f : Go Z EL nw R Post K h S k n pc' (x0 :: x1 :: x2 :: x3 :: x4 :: x5 :: x6 :: x7 :: x8 :: x9 :: x10 :: x11 :: x12 :: .val (.int (x + z)) :: r) st) (hz : Int32.ofInt c = z := by decide) : Go Z EL nw R Post K h S k n pc (x0 :: x1 :: x2 :: x3 :: x4 :: x5 :: x6 :: x7 :: x8 :: x9 :: x10 :: x11 :: x12 :: .val (.int x) :: r) st := by subst hz; exact G.iincG hd rfl rfl f
theorem Good.istore14 (G : Good Z a0 EL K own code maxL ret nm) {x0 x1 x2 x3 x4 x5 x6 x7 x8 x9 x10 x11 x12 x13 x14 : Slot} {r : List Slot} {x : Int32} (hd : Dc code pc (.istore 14) 2 pc') (f : Go Z EL nw R Post K h S k n pc' (x0 :: x1 :: x2 :: x3 :: x4 :: x5 :: x6 :: x7 :: x8 :: x9 :: x10 :: x11 :: x12 :: x13 :: .val (.int x) :: r) st) (hl : storeLocals (x0 :: x1 :: x2 :: x3 :: x4 :: x5 :: x6 :: x7 :: x8 :: x9 :: x10 :: x11 :: x12 :: x13 :: x14 :: r).toArray 14 (.int x) = some (x0 :: x1 :: x2 :: x3 :: x4 :: x5 :: x6 :: x7 :: x8 :: x9 :: x10 :: x11 :: x12 :: x13 :: .val (.int x) :: r).toArray := by rfl) : Go Z EL nw R Post K h S k n pc (x0 :: x1 :: x2 :: x3 :: x4 :: x5 :: x6 :: x7 :: x8 :: x9 :: x10 :: x11 :: x12 :: x13 :: x14 :: r) (.int x :: st) := G.istoreG hd hl f
theorem Good.astore14 (G : Good Z a0 EL K own code maxL ret nm) {x0 x1 x2 x3 x4 x5 x6 x7 x8 x9 x10 x11 x12 x13 x14 : Slot} {r : List Slot} {x : Value} (hd : Dc code pc (.astore 14) 2 pc') (f : Go Z EL nw R Post K h S k n pc' (x0 :: x1 :: x2 :: x3 :: x4 :: x5 :: x6 :: x7 :: x8 :: x9 :: x10 :: x11 :: x12 :: x13 :: .val x :: r) st) (hv : x.isRef = true := by rfl) (hl : storeLocals (x0 :: x1 :: x2 :: x3 :: x4 :: x5 :: x6 :: x7 :: x8 :: x9 :: x10 :: x11 :: x12 :: x13 :: x14 :: r).toArray 14 x = some (x0 :: x1 :: x2 :: x3 :: x4 :: x5 :: x6 :: x7 :: x8 :: x9 :: x10 :: x11 :: x12 :: x13 :: .val x :: r).toArray := by rfl) : Go Z EL nw R Post K h S k n pc (x0 :: x1 :: x2 :: x3 :: x4 :: x5 :: x6 :: x7 :: x8 :: x9 :: x10 :: x11 :: x12 :: x13 :: x14 :: r) (x :: st) := G.astoreG hd hv hl f
theorem Good.lstore14 (G : Good Z a0 EL K own code maxL ret nm) {x0 x1 x2 x3 x4 x5 x6 x7 x8 x9 x10 x11 x12 x13 x14 y : Slot} {r : List Slot} {x : Int64} (hd : Dc code pc (.lstore 14) 2 pc') (f : Go Z EL nw R Post K h S k n pc' (x0 :: x1 :: x2 :: x3 :: x4 :: x5 :: x6 :: x7 :: x8 :: x9 :: x10 :: x11 :: x12 :: x13 :: .val (.long x) :: .second :: r) st) (hl : storeLocals (x0 :: x1 :: x2 :: x3 :: x4 :: x5 :: x6 :: x7 :: x8 :: x9 :: x10 :: x11 :: x12 :: x13 :: x14 :: y :: r).toArray 14 (.long x) = some (x0 :: x1 :: x2 :: x3 :: x4 :: x5 :: x6 :: x7 :: x8 :: x9 :: x10 :: x11 :: x12 :: x13 :: .val (.long x) :: .second :: r).toArray := by rfl) : Go Z EL nw R Post K h S k n pc (x0 :: x1 :: x2 :: x3 :: x4 :: x5 :: x6 :: x7 :: x8 :: x9 :: x10 :: x11 :: x12 :: x13 :: x14 :: y :: r) (.long x :: st) := G.lstoreG hd hl f
theorem Good.iinc14 (G : Good Z a0 EL K own code maxL ret nm) (z : Int32) {x0 x1 x2 x3 x4 x5 x6 x7 x8 x9 x10 x11 x12 x13 : Slot} {r : List Slot} {c : Int} {x : Int32} (hd : Dc code pc (.iinc 14 c) 3 pc') (f : Go Z EL nw R Post K h S k n pc' (x0 :: x1 :: x2 :: x3 :: x4 :: x5 :: x6 :: x7 :: x8 :: x9 :: x10 :: x11 :: x12 :: x13 :: .val (.int (x + z)) :: r) st) (hz : Int32.ofInt c = z := by decide) : Go Z EL nw R Post K h S k n pc (x0 :: x1 :: x2 :: x3 :: x4 :: x5 :: x6 :: x7 :: x8 :: x9 :: x10 :: x11 :: x12 :: x13 :: .val (.int x) :: r) st := by subst hz; exact G.iincG hd rfl rfl f
theorem Good.istore15 (G : Good Z a0 EL K own code maxL ret nm) {x0 x1 x2 x3 x4 x5 x6 x7 x8 x9 x10 x11 x12 x13 x14 x15 : Slot} {r : List Slot} {x : Int32} (hd : Dc code pc (.istore 15) 2 pc') (f : Go Z EL nw R Post K h S k n pc' (x0 :: x1 :: x2 :: x3 :: x4 :: x5 :: x6 :: x7 :: x8 :: x9 :: x10 :: x11 :: x12 :: x13 :: x14 :: .val (.int x) :: r) st) (hl : storeLocals (x0 :: x1 :: x2 :: x3 :: x4 :: x5 :: x6 :: x7 :: x8 :: x9 :: x10 :: x11 :: x12 :: x13 :: x14 :: x15 :: r).toArray 15 (.int x) = some (x0 :: x1 :: x2 :: x3 :: x4 :: x5 :: x6 :: x7 :: x8 :: x9 :: x10 :: x11 :: x12 :: x13 :: x14 :: .val (.int x) :: r).toArray := by rfl) : Go Z EL nw R Post K h S k n pc (x0 :: x1 :: x2 :: x3 :: x4 :: x5 :: x6 :: x7 :: x8 :: x9 :: x10 :: x11 :: x12 :: x13 :: x14 :: x15 :: r) (.int x :: st) := G.istoreG hd hl f
theorem Good.astore15 (G : Good Z a0 EL K own code maxL ret nm) {x0 x1 x2 x3 x4 x5 x6 x7 x8 x9 x10 x11 x12 x13 x14 x15 : Slot} {r : List Slot} {x : Value} (hd : Dc code pc (.astore 15) 2 pc') (f : Go Z EL nw R Post K h S k n pc' (x0 :: x1 :: x2 :: x3 :: x4 :: x5 :: x6 :: x7 :: x8 :: x9 :: x10 :: x11 :: x12 :: x13 :: x14 :: .val x :: r) st) (hv : x.isRef = true := by rfl) (hl : storeLocals (x0 :: x1 :: x2 :: x3 :: x4 :: x5 :: x6 :: x7 :: x8 :: x9 :: x10 :: x11 :: x12 :: x13 :: x14 :: x15 :: r).toArray 15 x = some (x0 :: x1 :: x2 :: x3 :: x4 :: x5 :: x6 :: x7 :: x8 :: x9 :: x10 :: x11 :: x12 :: x13 :: x14 :: .val x :: r).toArray := by rfl) : Go Z EL nw R Post K h S k n pc (x0 :: x1 :: x2 :: x3 :: x4 :: x5 :: x6 :: x7 :: x8 :: x9 :: x10 :: x11 :: x12 :: x13 :: x14 :: x15 :: r) (x :: st) := G.astoreG hd hv hl f
theorem Good.lstore15 (G : Good Z a0 EL K own code maxL ret nm) {x0 x1 x2 x3 x4 x5 x6 x7 x8 x9 x10 x11 x12 x13 x14 x15 y : Slot} {r : List Slot} {x : Int64} (hd : Dc code pc (.lstore 15) 2 pc') (f : Go Z EL nw R Post K h S k n pc' (x0 :: x1 :: x2 :: x3 :: x4 :: x5 :: x6 :: x7 :: x8 :: x9 :: x10 :: x11 :: x12 :: x13 :: x14 :: .val (.long x) :: .second :: r) st) (hl : storeLocals (x0 :: x1 :: x2 :: x3 :: x4 :: x5 :: x6 :: x7 :: x8 :: x9 :: x10 :: x11 :: x12 :: x13 :: x14 :: x15 :: y :: r).toArray 15 (.long x) = some (x0 :: x1 :: x2 :: x3 :: x4 :: x5 :: x6 :: x7 :: x8 :: x9 :: x10 :: x11 :: x12 :: x13 :: x14 :: .val (.long x) :: .second :: r).toArray := by rfl) : Go Z EL nw R Post K h S k n pc (x0 :: x1 :: x2 :: x3 :: x4 :: x5 :: x6 :: x7 :: x8 :: x9 :: x10 :: x11 :: x12 :: x13 :: x14 :: x15 :: y :: r) (.long x :: st) := G.lstoreG hd hl f
theorem Good.iinc15 (G : Good Z a0 EL K own code maxL ret nm) (z : Int32) {x0 x1 x2 x3 x4 x5 x6 x7 x8 x9 x10 x11 x12 x13 x14 : Slot} {r : List Slot} {c : Int} {x : Int32} (hd : Dc code pc (.iinc 15 c) 3 pc') (f : Go Z EL nw R Post K h S k n pc' (x0 :: x1 :: x2 :: x3 :: x4 :: x5 :: x6 :: x7 :: x8 :: x9 :: x10 :: x11 :: x12 :: x13 :: x14 :: .val (.int (x + z)) :: r) st) (hz : Int32.ofInt c = z := by decide) : Go Z EL nw R Post K h S k n pc (x0 :: x1 :: x2 :: x3 :: x4 :: x5 :: x6 :: x7 :: x8 :: x9 :: x10 :: x11 :: x12 :: x13 :: x14 :: .val (.int x) :: r) st := by subst hz; exact G.iincG hd rfl rfl f
theorem Good.istore16 (G : Good Z a0 EL K own code maxL ret nm) {x0 x1 x2 x3 x4 x5 x6 x7 x8 x9 x10 x11 x12 x13 x14 x15 x16 : Slot} {r : List Slot} {x : Int32} (hd : Dc code pc (.istore 16) 2 pc') (f : Go Z EL nw R Post K h S k n pc' (x0 :: x1 :: x2 :: x3 :: x4 :: x5 :: x6 :: x7 :: x8 :: x9 :: x10 :: x11 :: x12 :: x13 :: x14 :: x15 :: .val (.int x) :: r) st) (hl : storeLocals (x0 :: x1 :: x2 :: x3 :: x4 :: x5 :: x6 :: x7 :: x8 :: x9 :: x10 :: x11 :: x12 :: x13 :: x14 :: x15 :: x16 :: r).toArray 16 (.int x) = some (x0 :: x1 :: x2 :: x3 :: x4 :: x5 :: x6 :: x7 :: x8 :: x9 :: x10 :: x11 :: x12 :: x13 :: x14 :: x15 :: .val (.int x) :: r).toArray := by rfl) : Go Z EL nw R Post K h S k n pc (x0 :: x1 :: x2 :: x3 :: x4 :: x5 :: x6 :: x7 :: x8 :: x9 :: x10 :: x11 :: x12 :: x13 :: x14 :: x15 :: x16 :: r) (.int x :: st) := G.istoreG hd hl f
theorem Good.astore16 (G : Good Z a0 EL K own code maxL ret nm) {x0 x1 x2 x3 x4 x5 x6 x7 x8 x9 x10 x11 x12 x13 x14 x15 x16 : Slot} {r : List Slot} {x : Value} (hd : Dc code pc (.astore 16) 2 pc') (f : Go Z EL nw R Post K h S k n pc' (x0 :: x1 :: x2 :: x3 :: x4 :: x5 :: x6 :: x7 :: x8 :: x9 :: x10 :: x11 :: x12 :: x13 :: x14 :: x15 :: .val x :: r) st) (hv : x.isRef = true := by rfl) (hl : storeLocals (x0 :: x1 :: x2 :: x3 :: x4 :: x5 :: x6 :: x7 :: x8 :: x9 :: x10 :: x11 :: x12 :: x13 :: x14 :: x15 :: x16 :: r).toArray 16 x = some (x0 :: x1 :: x2 :: x3 :: x4 :: x5 :: x6 :: x7 :: x8 :: x9 :: x10 :: x11 :: x12 :: x13 :: x14 :: x15 :: .val x :: r).toArray := by rfl) : Go Z EL nw R Post K h S k n pc (x0 :: x1 :: x2 :: x3 :: x4 :: x5 :: x6 :: x7 :: x8 :: x9 :: x10 :: x11 :: x12 :: x13 :: x14 :: x15 :: x16 :: r) (x :: st) := G.astoreG hd hv hl f
theorem Good.lstore16 (G : Good Z a0 EL K own code maxL ret nm) {x0 x1 x2 x3 x4 x5 x6 x7 x8 x9 x10 x11 x12 x13 x14 x15 x16 y : Slot} {r : List Slot} {x : Int64} (hd : Dc code pc (.lstore 16) 2 pc') (f : Go Z EL nw R Post K h S k n pc' (x0 :: x1 :: x2 :: x3 :: x4 :: x5 :: x6 :: x7 :: x8 :: x9 :: x10 :: x11 :: x12 :: x13 :: x14 :: x15 :: .val (.long x) :: .second :: r) st) (hl : storeLocals (x0 :: x1 :: x2 :: x3 :: x4 :: x5 :: x6 :: x7 :: x8 :: x9 :: x10 :: x11 :: x12 :: x13 :: x14 :: x15 :: x16 :: y :: r).toArray 16 (.long x) = some (x0 :: x1 :: x2 :: x3 :: x4 :: x5 :: x6 :: x7 :: x8 :: x9 :: x10 :: x11 :: x12 :: x13 :: x14 :: x15 :: .val (.long x) :: .second :: r).toArray := by rfl) : Go Z EL nw R Post K h S k n pc (x0 :: x1 :: x2 :: x3 :: x4 :: x5 :: x6 :: x7 :: x8 :: x9 :: x10 :: x11 :: x12 :: x13 :: x14 :: x15 :: x16 :: y :: r) (.long x :: st) := G.lstoreG hd hl f
theorem Good.iinc16 (G : Good Z a0 EL K own code maxL ret nm) (z : Int32) {x0 x1 x2 x3 x4 x5 x6 x7 x8 x9 x10 x11 x12 x13 x14 x15 : Slot} {r : List Slot} {c : Int} {x : Int32} (hd : Dc code pc (.iinc 16 c) 3 pc') (f : Go Z EL nw R Post K h S k n pc' (x0 :: x1 :: x2 :: x3 :: x4 :: x5 :: x6 :: x7 :: x8 :: x9 :: x10 :: x11 :: x12 :: x13 :: x14 :: x15 :: .val (.int (x + z)) :: r) st) (hz : Int32.ofInt c = z := by decide) : Go Z EL nw R Post K h S k n pc (x0 :: x1 :: x2 :: x3 :: x4 :: x5 :: x6 :: x7 :: x8 :: x9 :: x10 :: x11 :: x12 :: x13 :: x14 :: x15 :: .val (.int x) :: r) st := by subst hz; exact G.iincG hd rfl rfl f
theorem Good.istore17 (G : Good Z a0 EL K own code maxL ret nm) {x0 x1 x2 x3 x4 x5 x6 x7 x8 x9 x10 x11 x12 x13 x14 x15 x16 x17 : Slot} {r : List Slot} {x : Int32} (hd : Dc code pc (.istore 17) 2 pc') (f : Go Z EL nw R Post K h S k n pc' (x0 :: x1 :: x2 :: x3 :: x4 :: x5 :: x6 :: x7 :: x8 :: x9 :: x10 :: x11 :: x12 :: x13 :: x14 :: x15 :: x16 :: .val (.int x) :: r) st) (hl : storeLocals (x0 :: x1 :: x2 :: x3 :: x4 :: x5 :: x6 :: x7 :: x8 :: x9 :: x10 :: x11 :: x12 :: x13 :: x14 :: x15 :: x16 :: x17 :: r).toArray 17 (.int x) = some (x0 :: x1 :: x2 :: x3 :: x4 :: x5 :: x6 :: x7 :: x8 :: x9 :: x10 :: x11 :: x12 :: x13 :: x14 :: x15 :: x16 :: .val (.int x) :: r).toArray := by rfl) : Go Z EL nw R Post K h S k n pc (x0 :: x1 :: x2 :: x3 :: x4 :: x5 :: x6 :: x7 :: x8 :: x9 :: x10 :: x11 :: x12 :: x13 :: x14 :: x15 :: x16 :: x17 :: r) (.int x :: st) := G.istoreG hd hl f
theorem Good.astore17 (G : Good Z a0 EL K own code maxL ret nm) {x0 x1 x2 x3 x4 x5 x6 x7 x8 x9 x10 x11 x12 x13 x14 x15 x16 x17 : Slot} {r : List Slot} {x : Value} (hd : Dc code pc (.astore 17) 2 pc') (f : Go Z EL nw R Post K h S k n pc' (x0 :: x1 :: x2 :: x3 :: x4 :: x5 :: x6 :: x7 :: x8 :: x9 :: x10 :: x11 :: x12 :: x13 :: x14 :: x15 :: x16 :: .val x :: r) st) (hv : x.isRef = true := by rfl) (hl : storeLocals (x0 :: x1 :: x2 :: x3 :: x4 :: x5 :: x6 :: x7 :: x8 :: x9 :: x10 :: x11 :: x12 :: x13 :: x14 :: x15 :: x16 :: x17 :: r).toArray 17 x = some (x0 :: x1 :: x2 :: x3 :: x4 :: x5 :: x6 :: x7 :: x8 :: x9 :: x10 :: x11 :: x12 :: x13 :: x14 :: x15 :: x16 :: .val x :: r).toArray := by rfl) : Go Z EL nw R Post K h S k n pc (x0 :: x1 :: x2 :: x3 :: x4 :: x5 :: x6 :: x7 :: x8 :: x9 :: x10 :: x11 :: x12 :: x13 :: x14 :: x15 :: x16 :: x17 :: r) (x :: st) := G.astoreG hd hv hl f
theorem Good.lstore17 (G : Good Z a0 EL K own code maxL ret nm) {x0 x1 x2 x3 x4 x5 x6 x7 x8 x9 x10 x11 x12 x13 x14 x15 x16 x17 y : Slot} {r : List Slot} {x : Int64} (hd : Dc code pc (.lstore 17) 2 pc') (f : Go Z EL nw R Post K h S k n pc' (x0 :: x1 :: x2 :: x3 :: x4 :: x5 :: x6 :: x7 :: x8 :: x9 :: x10 :: x11 :: x12 :: x13 :: x14 :: x15 :: x16 :: .val (.long x) :: .second :: r) st) (hl : storeLocals (x0 :: x1 :: x2 :: x3 :: x4 :: x5 :: x6 :: x7 :: x8 :: x9 :: x10 :: x11 :: x12 :: x13 :: x14 :: x15 :: x16 :: x17 :: y :: r).toArray 17 (.long x) = some (x0 :: x1 :: x2 :: x3 :: x4 :: x5 :: x6 :: x7 :: x8 :: x9 :: x10 :: x11 :: x12 :: x13 :: x14 :: x15 :: x16 :: .val (.long x) :: .second :: r).toArray := by rfl) : Go Z EL nw R Post K h S k n pc (x0 :: x1 :: x2 :: x3 :: x4 :: x5 :: x6 :: x7 :: x8 :: x9 :: x10 :: x11 :: x12 :: x13 :: x14 :: x15 :: x16 :: x17 :: y :: r) (.long x :: st) := G.lstoreG hd hl f
theorem Good.iinc17 (G : Good Z a0 EL K own code maxL ret nm) (z : Int32) {x0 x1 x2 x3 x4 x5 x6 x7 x8 x9 x10 x11 x12 x13 x14 x15 x16 : Slot} {r : List Slot} {c : Int} {x : Int32} (hd : Dc code pc (.iinc 17 c) 3 pc') (f : Go Z EL nw R Post K h S k n pc' (x0 :: x1 :: x2 :: x3 :: x4 :: x5 :: x6 :: x7 :: x8 :: x9 :: x10 :: x11 :: x12 :: x13 :: x14 :: x15 :: x16 :: .val (.int (x + z)) :: r) st) (hz : Int32.ofInt c = z := by decide) : Go Z EL nw R Post K h S k n pc (x0 :: x1 :: x2 :: x3 :: x4 :: x5 :: x6 :: x7 :: x8 :: x9 :: x10 :: x11 :: x12 :: x13 :: x14 :: x15 :: x16 :: .val (.int x) :: r) st := by subst hz; exact G.iincG hd rfl rfl f
theorem Good.istore18 (G : Good Z a0 EL K own code maxL ret nm) {x0 x1 x2 x3 x4 x5 x6 x7 x8 x9 x10 x11 x12 x13 x14 x15 x16 x17 x18 : Slot} {r : List Slot} {x : Int32} (hd : Dc code pc (.istore 18) 2 pc') (f : Go Z EL nw R Post K h S k n pc' (x0 :: x1 :: x2 :: x3 :: x4 :: x5 :: x6 :: x7 :: x8 :: x9 :: x10 :: x11 :: x12 :: x13 :: x14 :: x15 :: x16 :: x17 :: .val (.int x) :: r) st) (hl : storeLocals (x0 :: x1 :: x2 :: x3 :: x4 :: x5 :: x6 :: x7 :: x8 :: x9 :: x10 :: x11 :: x12 :: x13 :: x14 :: x15 :: x16 :: x17 :: x18 :: r).toArray 18 (.int x) = some (x0 :: x1 :: x2 :: x3 :: x4 :: x5 :: x6 :: x7 :: x8 :: x9 :: x10 :: x11 :: x12 :: x13 :: x14 :: x15 :: x16 :: x17 :: .val (.int x) :: r).toArray := by rfl) : Go Z EL nw R Post K h S k n pc (x0 :: x1 :: x2 :: x3 :: x4 :: x5 :: x6 :: x7 :: x8 :: x9 :: x10 :: x11 :: x12 :: x13 :: x14 :: x15 :: x16 :: x17 :: x18 :: r) (.int x :: st) := G.istoreG hd hl f
theorem Good.astore18 (G : Good Z a0 EL K own code maxL ret nm) {x0 x1 x2 x3 x4 x5 x6 x7 x8 x9 x10 x11 x12 x13 x14 x15 x16 x17 x18 : Slot} {r : List Slot} {x : Value} (hd : Dc code pc (.astore 18) 2 pc') (f : Go Z EL nw R Post K h S k n pc' (x0 :: x1 :: x2 :: x3 :: x4 :: x5 :: x6 :: x7 :: x8 :: x9 :: x10 :: x11 :: x12 :: x13 :: x14 :: x15 :: x16 :: x17 :: .val x :: r) st) (hv : x.isRef = true := by rfl) (hl : storeLocals (x0 :: x1 :: x2 :: x3 :: x4 :: x5 :: x6 :: x7 :: x8 :: x9 :: x10 :: x11 :: x12 :: x13 :: x14 :: x15 :: x16 :: x17 :: x18 :: r).toArray 18 x = some (x0 :: x1 :: x2 :: x3 :: x4 :: x5 :: x6 :: x7 :: x8 :: x9 :: x10 :: x11 :: x12 :: x13 :: x14 :: x15 :: x16 :: x17 :: .val x :: r).toArray := by rfl) : Go Z EL nw R Post K h S k n pc (x0 :: x1 :: x2 :: x3 :: x4 :: x5 :: x6 :: x7 :: x8 :: x9 :: x10 :: x11 :: x12 :: x13 :: x14 :: x15 :: x16 :: x17 :: x18 :: r) (x :: st) := G.astoreG hd hv hl f
theorem Good.lstore18 (G : Good Z a0 EL K own code maxL ret nm) {x0 x1 x2 x3 x4 x5 x6 x7 x8 x9 x10 x11 x12 x13 x14 x15 x16 x17 x18 y : Slot} {r : List Slot} {x : Int64} (hd : Dc code pc (.lstore 18) 2 pc') (f : Go Z EL nw R Post K h S k n pc' (x0 :: x1 :: x2 :: x3 :: x4 :: x5 :: x6 :: x7 :: x8 :: x9 :: x10 :: x11 :: x12 :: x13 :: x14 :: x15 :: x16 :: x17 :: .val (.long x) :: .second :: r) st) (hl : storeLocals (x0 :: x1 :: x2 :: x3 :: x4 :: x5 :: x6 :: x7 :: x8 :: x9 :: x10 :: x11 :: x12 :: x13 :: x14 :: x15 :: x16 :: x17 :: x18 :: y :: r).toArray 18 (.long x) = some (x0 :: x1 :: x2 :: x3 :: x4 :: x5 :: x6 :: x7 :: x8 :: x9 :: x10 :: x11 :: x12 :: x13 :: x14 :: x15 :: x16 :: x17 :: .val (.long x) :: .second :: r).toArray := by rfl) : Go Z EL nw R Post K h S k n pc (x0 :: x1 :: x2 :: x3 :: x4 :: x5 :: x6 :: x7 :: x8 :: x9 :: x10 :: x11 :: x12 :: x13 :: x14 :: x15 :: x16 :: x17 :: x18 :: y :: r) (.long x :: st) := G.lstoreG hd hl f
theorem Good.iinc18 (G : Good Z a0 EL K own code maxL ret nm) (z : Int32) {x0 x1 x2 x3 x4 x5 x6 x7 x8 x9 x10 x11 x12 x13 x14 x15 x16 x17 : Slot} {r : List Slot} {c : Int} {x : Int32} (hd : Dc code pc (.iinc 18 c) 3 pc') (f : Go Z EL nw R Post K h S k n pc' (x0 :: x1 :: x2 :: x3 :: x4 :: x5 :: x6 :: x7 :: x8 :: x9 :: x10 :: x11 :: x12 :: x13 :: x14 :: x15 :: x16 :: x17 :: .val (.int (x + z)) :: r) st) (hz : Int32.ofInt c = z := by decide) : Go Z EL nw R Post K h S k n pc (x0 :: x1 :: x2 :: x3 :: x4 :: x5 :: x6 :: x7 :: x8 :: x9 :: x10 :: x11 :: x12 :: x13 :: x14 :: x15 :: x16 :: x17 :: .val (.int x) :: r) st := by subst hz; exact G.iincG hd rfl rfl f
theorem Good.istore19 (G : Good Z a0 EL K own code maxL ret nm) {x0 x1 x2 x3 x4 x5 x6 x7 x8 x9 x10 x11 x12 x13 x14 x15 x16 x17 x18 x19 : Slot} {r : List Slot} {x : Int32} (hd : Dc code pc (.istore 19) 2 pc') (f : Go Z EL nw R Post K h S k n pc' (x0 :: x1 :: x2 :: x3 :: x4 :: x5 :: x6 :: x7 :: x8 :: x9 :: x10 :: x11 :: x12 :: x13 :: x14 :: x15 :: x16 :: x17 :: x18 :: .val (.int x) :: r) st) (hl : storeLocals (x0 :: x1 :: x2 :: x3 :: x4 :: x5 :: x6 :: x7 :: x8 :: x9 :: x10 :: x11 :: x12 :: x13 :: x14 :: x15 :: x16 :: x17 :: x18 :: x19 :: r).toArray 19 (.int x) = some (x0 :: x1 :: x2 :: x3 :: x4 :: x5 :: x6 :: x7 :: x8 :: x9 :: x10 :: x11 :: x12 :: x13 :: x14 :: x15 :: x16 :: x17 :: x18 :: .val (.int x) :: r).toArray := by rfl) : Go Z EL nw R Post K h S k n pc (x0 :: x1 :: x2 :: x3 :: x4 :: x5 :: x6 :: x7 :: x8 :: x9 :: x10 :: x11 :: x12 :: x13 :: x14 :: x15 :: x16 :: x17 :: x18 :: x19 :: r) (.int x :: st) := G.istoreG hd hl f
theorem Good.astore19 (G : Good Z a0 EL K own code maxL ret nm) {x0 x1 x2 x3 x4 x5 x6 x7 x8 x9 x10 x11 x12 x13 x14 x15 x16 x17 x18 x19 : Slot} {r : List Slot} {x : Value} (hd : Dc code pc (.astore 19) 2 pc') (f : Go Z EL nw R Post K h S k n pc' (x0 :: x1 :: x2 :: x3 :: x4 :: x5 :: x6 :: x7 :: x8 :: x9 :: x10 :: x11 :: x12 :: x13 :: x14 :: x15 :: x16 :: x17 :: x18 :: .val x :: r) st) (hv : x.isRef = true := by rfl) (hl : storeLocals (x0 :: x1 :: x2 :: x3 :: x4 :: x5 :: x6 :: x7 :: x8 :: x9 :: x10 :: x11 :: x12 :: x13 :: x14 :: x15 :: x16 :: x17 :: x18 :: x19 :: r).toArray 19 x = some (x0 :: x1 :: x2 :: x3 :: x4 :: x5 :: x6 :: x7 :: x8 :: x9 :: x10 :: x11 :: x12 :: x13 :: x14 :: x15 :: x16 :: x17 :: x18 :: .val x :: r).toArray := by rfl) : Go Z EL nw R Post K h S k n pc (x0 :: x1 :: x2 :: x3 :: x4 :: x5 :: x6 :: x7 :: x8 :: x9 :: x10 :: x11 :: x12 :: x13 :: x14 :: x15 :: x16 :: x17 :: x18 :: x19 :: r) (x :: st) := G.astoreG hd hv hl f
theorem Good.lstore19 (G : Good Z a0 EL K own code maxL ret nm) {x0 x1 x2 x3 x4 x5 x6 x7 x8 x9 x10 x11 x12 x13 x14 x15 x16 x17 x18 x19 y : Slot} {r : List Slot} {x : Int64} (hd : Dc code pc (.lstore 19) 2 pc') (f : Go Z EL nw R Post K h S k n pc' (x0 :: x1 :: x2 :: x3 :: x4 :: x5 :: x6 :: x7 :: x8 :: x9 :: x10 :: x11 :: x12 :: x13 :: x14 :: x15 :: x16 :: x17 :: x18 :: .val (.long x) :: .second :: r) st) (hl : storeLocals (x0 :: x1 :: x2 :: x3 :: x4 :: x5 :: x6 :: x7 :: x8 :: x9 :: x10 :: x11 :: x12 :: x13 :: x14 :: x15 :: x16 :: x17 :: x18 :: x19 :: y :: r).toArray 19 (.long x) = some (x0 :: x1 :: x2 :: x3 :: x4 :: x5 :: x6 :: x7 :: x8 :: x9 :: x10 :: x11 :: x12 :: x13 :: x14 :: x15 :: x16 :: x17 :: x18 :: .val (.long x) :: .second :: r).toArray := by rfl) : Go Z EL nw R Post K h S k n pc (x0 :: x1 :: x2 :: x3 :: x4 :: x5 :: x6 :: x7 :: x8 :: x9 :: x10 :: x11 :: x12 :: x13 :: x14 :: x15 :: x16 :: x17 :: x18 :: x19 :: y :: r) (.long x :: st) := G.lstoreG hd hl f
theorem Good.iinc19 (G : Good Z a0 EL K own code maxL ret nm) (z : Int32) {x0 x1 x2 x3 x4 x5 x6 x7 x8 x9 x10 x11 x12 x13 x14 x15 x16 x17 x18 : Slot} {r : List Slot} {c : Int} {x : Int32} (hd : Dc code pc (.iinc 19 c) 3 pc') (f : Go Z EL nw R Post K h S k n pc' (x0 :: x1 :: x2 :: x3 :: x4 :: x5 :: x6 :: x7 :: x8 :: x9 :: x10 :: x11 :: x12 :: x13 :: x14 :: x15 :: x16 :: x17 :: x18 :: .val (.int (x + z)) :: r) st) (hz : Int32.ofInt c = z := by decide) : Go Z EL nw R Post K h S k n pc (x0 :: x1 :: x2 :: x3 :: x4 :: x5 :: x6 :: x7 :: x8 :: x9 :: x10 :: x11 :: x12 :: x13 :: x14 :: x15 :: x16 :: x17 :: x18 :: .val (.int x) :: r) st := by subst hz; exact G.iincG hd rfl rfl f
theorem Good.istore20 (G : Good Z a0 EL K own code maxL ret nm) {x0 x1 x2 x3 x4 x5 x6 x7 x8 x9 x10 x11 x12 x13 x14 x15 x16 x17 x18 x19 x20 : Slot} {r : List Slot} {x : Int32} (hd : Dc code pc (.istore 20) 2 pc') (f : Go Z EL nw R Post K h S k n pc' (x0 :: x1 :: x2 :: x3 :: x4 :: x5 :: x6 :: x7 :: x8 :: x9 :: x10 :: x11 :: x12 :: x13 :: x14 :: x15 :: x16 :: x17 :: x18 :: x19 :: .val (.int x) :: r) st) (hl : storeLocals (x0 :: x1 :: x2 :: x3 :: x4 :: x5 :: x6 :: x7 :: x8 :: x9 :: x10 :: x11 :: x12 :: x13 :: x14 :: x15 :: x16 :: x17 :: x18 :: x19 :: x20 :: r).toArray 20 (.int x) = some (x0 :: x1 :: x2 :: x3 :: x4 :: x5 :: x6 :: x7 :: x8 :: x9 :: x10 :: x11 :: x12 :: x13 :: x14 :: x15 :: x16 :: x17 :: x18 :: x19 :: .val (.int x) :: r).toArray := by rfl) : Go Z EL nw R Post K h S k n pc (x0 :: x1 :: x2 :: x3 :: x4 :: x5 :: x6 :: x7 :: x8 :: x9 :: x10 :: x11 :: x12 :: x13 :: x14 :: x15 :: x16 :: x17 :: x18 :: x19 :: x20 :: r) (.int x :: st) := G.istoreG hd hl f
theorem Good.astore20 (G : Good Z a0 EL K own code maxL ret nm) {x0 x1 x2 x3 x4 x5 x6 x7 x8 x9 x10 x11 x12 x13 x14 x15 x16 x17 x18 x19 x20 : Slot} {r : List Slot} {x : Value} (hd : Dc code pc (.astore 20) 2 pc') (f : Go Z EL nw R Post K h S k n pc' (x0 :: x1 :: x2 :: x3 :: x4 :: x5 :: x6 :: x7 :: x8 :: x9 :: x10 :: x11 :: x12 :: x13 :: x14 :: x15 :: x16 :: x17 :: x18 :: x19 :: .val x :: r) st) (hv : x.isRef = true := by rfl) (hl : storeLocals (x0 :: x1 :: x2 :: x3 :: x4 :: x5 :: x6 :: x7 :: x8 :: x9 :: x10 :: x11 :: x12 :: x13 :: x14 :: x15 :: x16 :: x17 :: x18 :: x19 :: x20 :: r).toArray 20 x = some (x0 :: x1 :: x2 :: x3 :: x4 :: x5 :: x6 :: x7 :: x8 :: x9 :: x10 :: x11 :: x12 :: x13 :: x14 :: x15 :: x16 :: x17 :: x18 :: x19 :: .val x :: r).toArray := by rfl) : Go Z EL nw R Post K h S k n pc (x0 :: x1 :: x2 :: x3 :: x4 :: x5 :: x6 :: x7 :: x8 :: x9 :: x10 :: x11 :: x12 :: x13 :: x14 :: x15 :: x16 :: x17 :: x18 :: x19 :: x20 :: r) (x :: st) := G.astoreG hd hv hl f
theorem Good.lstore20 (G : Good Z a0 EL K own code maxL ret nm) {x0 x1 x2 x3 x4 x5 x6 x7 x8 x9 x10 x11 x12 x13 x14 x15 x16 x17 x18 x19 x20 y : Slot} {r : List Slot} {x : Int64} (hd : Dc code pc (.lstore 20) 2 pc') (f : Go Z EL nw R Post K h S k n pc' (x0 :: x1 :: x2 :: x3 :: x4 :: x5 :: x6 :: x7 :: x8 :: x9 :: x10 :: x11 :: x12 :: x13 :: x14 :: x15 :: x16 :: x17 :: x18 :: x19 :: .val (.long x) :: .second :: r) st) (hl : storeLocals (x0 :: x1 :: x2 :: x3 :: x4 :: x5 :: x6 :: x7 :: x8 :: x9 :: x10 :: x11 :: x12 :: x13 :: x14 :: x15 :: x16 :: x17 :: x18 :: x19 :: x20 :: y :: r).toArray 20 (.long x) = some (x0 :: x1 :: x2 :: x3 :: x4 :: x5 :: x6 :: x7 :: x8 :: x9 :: x10 :: x11 :: x12 :: x13 :: x14 :: x15 :: x16 :: x17 :: x18 :: x19 :: .val (.long x) :: .second :: r).toArray := by rfl) : Go Z EL nw R Post K h S k n pc (x0 :: x1 :: x2 :: x3 :: x4 :: x5 :: x6 :: x7 :: x8 :: x9 :: x10 :: x11 :: x12 :: x13 :: x14 :: x15 :: x16 :: x17 :: x18 :: x19 :: x20 :: y :: r) (.long x :: st) := G.lstoreG hd hl f
theorem Good.iinc20 (G : Good Z a0 EL K own code maxL ret nm) (z : Int32) {x0 x1 x2 x3 x4 x5 x6 x7 x8 x9 x10 x11 x12 x13 x14 x15 x16 x17 x18 x19 : Slot} {r : List Slot} {c : Int} {x : Int32} (hd : Dc code pc (.iinc 20 c) 3 pc') (f : Go Z EL nw R Post K h S k n pc' (x0 :: x1 :: x2 :: x3 :: x4 :: x5 :: x6 :: x7 :: x8 :: x9 :: x10 :: x11 :: x12 :: x13 :: x14 :: x15 :: x16 :: x17 :: x18 :: x19 :: .val (.int (x + z)) :: r) st) (hz : Int32.ofInt c = z := by decide) : Go Z EL nw R Post K h S k n pc (x0 :: x1 :: x2 :: x3 :: x4 :: x5 :: x6 :: x7 :: x8 :: x9 :: x10 :: x11 :: x12 :: x13 :: x14 :: x15 :: x16 :: x17 :: x18 :: x19 :: .val (.int x) :: r) st := by subst hz; exact G.iincG hd rfl rfl f
theorem Good.istore21 (G : Good Z a0 EL K own code maxL ret nm) {x0 x1 x2 x3 x4 x5 x6 x7 x8 x9 x10 x11 x12 x13 x14 x15 x16 x17 x18 x19 x20 x21 : Slot} {r : List Slot} {x : Int32} (hd : Dc code pc (.istore 21) 2 pc') (f : Go Z EL nw R Post K h S k n pc' (x0 :: x1 :: x2 :: x3 :: x4 :: x5 :: x6 :: x7 :: x8 :: x9 :: x10 :: x11 :: x12 :: x13 :: x14 :: x15 :: x16 :: x17 :: x18 :: x19 :: x20 :: .val (.int x) :: r) st) (hl : storeLocals (x0 :: x1 :: x2 :: x3 :: x4 :: x5 :: x6 :: x7 :: x8 :: x9 :: x10 :: x11 :: x12 :: x13 :: x14 :: x15 :: x16 :: x17 :: x18 :: x19 :: x20 :: x21 :: r).toArray 21 (.int x) = some (x0 :: x1 :: x2 :: x3 :: x4 :: x5 :: x6 :: x7 :: x8 :: x9 :: x10 :: x11 :: x12 :: x13 :: x14 :: x15 :: x16 :: x17 :: x18 :: x19 :: x20 :: .val (.int x) :: r).toArray := by rfl) : Go Z EL nw R Post K h S k n pc (x0 :: x1 :: x2 :: x3 :: x4 :: x5 :: x6 :: x7 :: x8 :: x9 :: x10 :: x11 :: x12 :: x13 :: x14 :: x15 :: x16 :: x17 :: x18 :: x19 :: x20 :: x21 :: r) (.int x :: st) := G.istoreG hd hl f
theorem Good.astore21 (G : Good Z a0 EL K own code maxL ret nm) {x0 x1 x2 x3 x4 x5 x6 x7 x8 x9 x10 x11 x12 x13 x14 x15 x16 x17 x18 x19 x20 x21 : Slot} {r : List Slot} {x : Value} (hd : Dc code pc (.astore 21) 2 pc') (f : Go Z EL nw R Post K h S k n pc' (x0 :: x1 :: x2 :: x3 :: x4 :: x5 :: x6 :: x7 :: x8 :: x9 :: x10 :: x11 :: x12 :: x13 :: x14 :: x15 :: x16 :: x17 :: x18 :: x19 :: x20 :: .val x :: r) st) (hv : x.isRef = true := by rfl) (hl : storeLocals (x0 :: x1 :: x2 :: x3 :: x4 :: x5 :: x6 :: x7 :: x8 :: x9 :: x10 :: x11 :: x12 :: x13 :: x14 :: x15 :: x16 :: x17 :: x18 :: x19 :: x20 :: x21 :: r).toArray 21 x = some (x0 :: x1 :: x2 :: x3 :: x4 :: x5 :: x6 :: x7 :: x8 :: x9 :: x10 :: x11 :: x12 :: x13 :: x14 :: x15 :: x16 :: x17 :: x18 :: x19 :: x20 :: .val x :: r).toArray := by rfl) : Go Z EL nw R Post K h S k n pc (x0 :: x1 :: x2 :: x3 :: x4 :: x5 :: x6 :: x7 :: x8 :: x9 :: x10 :: x11 :: x12 :: x13 :: x14 :: x15 :: x16 :: x17 :: x18 :: x19 :: x20 :: x21 :: r) (x :: st) := G.astoreG hd hv hl f
theorem Good.lstore21 (G : Good Z a0 EL K own code maxL ret nm) {x0 x1 x2 x3 x4 x5 x6 x7 x8 x9 x10 x11 x12 x13 x14 x15 x16 x17 x18 x19 x20 x21 y : Slot} {r : List Slot} {x : Int64} (hd : Dc code pc (.lstore 21) 2 pc') (f : Go Z EL nw R Post K h S k n pc' (x0 :: x1 :: x2 :: x3 :: x4 :: x5 :: x6 :: x7 :: x8 :: x9 :: x10 :: x11 :: x12 :: x13 :: x14 :: x15 :: x16 :: x17 :: x18 :: x19 :: x20 :: .val (.long x) :: .second :: r) st) (hl : storeLocals (x0 :: x1 :: x2 :: x3 :: x4 :: x5 :: x6 :: x7 :: x8 :: x9 :: x10 :: x11 :: x12 :: x13 :: x14 :: x15 :: x16 :: x17 :: x18 :: x19 :: x20 :: x21 :: y :: r).toArray 21 (.long x) = some (x0 :: x1 :: x2 :: x3 :: x4 :: x5 :: x6 :: x7 :: x8 :: x9 :: x10 :: x11 :: x12 :: x13 :: x14 :: x15 :: x16 :: x17 :: x18 :: x19 :: x20 :: .val (.long x) :: .second :: r).toArray := by rfl) : Go Z EL nw R Post K h S k n pc (x0 :: x1 :: x2 :: x3 :: x4 :: x5 :: x6 :: x7 :: x8 :: x9 :: x10 :: x11 :: x12 :: x13 :: x14 :: x15 :: x16 :: x17 :: x18 :: x19 :: x20 :: x21 :: y :: r) (.long x :: st) := G.lstoreG hd hl f
theorem Good.iinc21 (G : Good Z a0 EL K own code maxL ret nm) (z : Int32) {x0 x1 x2 x3 x4 x5 x6 x7 x8 x9 x10 x11 x12 x13 x14 x15 x16 x17 x18 x19 x20 : Slot} {r : List Slot} {c : Int} {x : Int32} (hd : Dc code pc (.iinc 21 c) 3 pc') (f : Go Z EL nw R Post K h S k n pc' (x0 :: x1 :: x2 :: x3 :: x4 :: x5 :: x6 :: x7 :: x8 :: x9 :: x10 :: x11 :: x12 :: x13 :: x14 :: x15 :: x16 :: x17 :: x18 :: x19 :: x20 :: .val (.int (x + z)) :: r) st) (hz : Int32.ofInt c = z := by decide) : Go Z EL nw R Post K h S k n pc (x0 :: x1 :: x2 :: x3 :: x4 :: x5 :: x6 :: x7 :: x8 :: x9 :: x10 :: x11 :: x12 :: x13 :: x14 :: x15 :: x16 :: x17 :: x18 :: x19 :: x20 :: .val (.int x) :: r) st := by subst hz; exact G.iincG hd rfl rfl f
end Plain
end Jvm.Own
namespace Jvm.Own
open Jvm Jvm.ClassFile Sem Op Lib Jvm.Free Jvm.Stand Jvm.LawKit Jvm.RoadKit Bundle
/-- the array at a holds just these values -/
def Al (Z : State) (h : Heap) (a : Addr) (ty : FieldType) (vs : List Value) : Prop := ∃ c : Cell, Arr Z h a c ty ∧ c.slots = vs.toArray ∧ vs.length < 2147483648 ∧ ∀ v ∈ vs, fits ty v = true
section AlFacts
variable {Z : State} {h h' : Heap} {a b : Addr} {ty : FieldType} {vs : List Value} {ws : List Addr} {sl : Nat} {v : Value} {C : String}
theorem Al.lt (F : Al Z h a ty vs) : a < h.size := by obtain ⟨c, A, -⟩ := F; exact A.lt
theorem Al.ext (F : Al Z h a ty vs) (E : Ext h h') : Al Z h' a ty vs := by obtain ⟨c, A, r⟩ := F; exact ⟨c, A.ext E, r⟩
theorem Al.other (F : Al Z h b ty vs) (W : Wr h h' a sl v) (q : b ≠ a) : Al Z h' b ty vs := by obtain ⟨c, A, r⟩ := F; exact ⟨c, A.other W q, r⟩
theorem Al.keep (F : Al Z h a ty vs) (K : Keep h h' ws) (q : a ∉ ws) : Al Z h' a ty vs := by obtain ⟨c, A, r⟩ := F; exact ⟨c, ⟨K.2.1 a c A.1 q, A.2⟩, r⟩
theorem Al.set (F : Al Z h a ty vs) (W : Wr h h' a sl v) (hv : fits ty v = true) : Al Z h' a ty (vs.set sl v) := by
  obtain ⟨c, A, r1, r2, r3⟩ := F
  refine ⟨_, A.same W, by simp [Cell.setSlot, r1], by simpa using r2, fun w hw => ?_⟩
  rcases List.mem_or_eq_of_mem_set hw with q | q
  · exact r3 w q
  · rw [q]; exact hv
theorem Al.len (F : Al Z h a ty vs) : vs.length < 2147483648 := by obtain ⟨c, A, r1, r2, r3⟩ := F; exact r2
theorem Al.arv (F : Al Z h a ty vs) (d : Value) : ∃ k, Arv Z h a k ty (Int32.ofNat vs.length) vs d := by
  obtain ⟨c, A, r1, r2, r3⟩ := F
  have e : (Int32.ofNat vs.length).toInt = (vs.length : Int) := len_toInt r2
  have e1 := back32 (n := Int32.ofNat vs.length) (by rw [Int32.lt_iff_toInt_lt, e]; simp)
  have e2 : (Int32.ofNat vs.length).toNatClampNeg = vs.length := by simp [Int32.toNatClampNeg, e]
  refine ⟨c.cls, c, A, rfl, by rw [r1, e2]; simp, by rw [Int32.lt_iff_toInt_lt, e]; simp, fun i hi => ?_, fun i hi => ?_⟩
  · rw [r1] at hi ⊢
    simp only [List.size_toArray] at hi
    simp [List.getD_eq_getElem?_getD, hi]
  · rw [r1] at hi
    simp only [List.size_toArray] at hi
    have : vs.getD i d = vs[i] := by simp [List.getD_eq_getElem?_getD, hi]
    rw [this]
    exact r3 _ (List.getElem_mem hi)
theorem Al.of_arv {k : ClassId} {z : Int32} {d : Value} (F : Arv Z h a k ty z vs d) (hl : z.toNatClampNeg = vs.length) : Al Z h a ty vs := by
  obtain ⟨c, A, r1, r2, r3, H, G⟩ := F
  have hs : c.slots.size = vs.length := r2.trans hl
  refine ⟨c, A, ?_, by rw [← hl]; exact (back32 r3).2, fun v hv => ?_⟩
  · apply Array.ext
    · simp [hs]
    · intro i h1 h2
      have q := H i h1
      rw [Array.getElem?_eq_getElem h1] at q
      have q' := Option.some.inj q
      rw [q']
      have h3 : i < vs.length := by rw [← hs]; exact h1
      simp [List.getD_eq_getElem?_getD, h3]
  · obtain ⟨i, hi, rfl⟩ := List.getElem_of_mem hv
    have := G i (by rw [hs]; exact hi)
    simpa [List.getD_eq_getElem?_getD, hi] using this
theorem Al.same {vs' : List Value} (F : Al Z h a ty vs) (G : Al Z h a ty vs') : vs = vs' := by
  obtain ⟨c, A, r1, -⟩ := F
  obtain ⟨c', A', r1', -⟩ := G
  have e := A.1.symm.trans A'.1
  cases e
  have := r1.symm.trans r1'
  simpa using this
theorem Al.neExa {a0 : Array Value} {cnt : Nat} (F : Al Z h b ty vs) (E : Exa Z h a C) (wi : (Cond.instantiable C cnt).before a0 Z = true) : a ≠ b := by
  obtain ⟨c, A, -⟩ := F; exact ne_arr E wi A
theorem ext_keep (E : Ext h h') (ws : List Addr) : Keep h h' ws := (Keep.refl h ws).ext E
theorem keep_nil_ext (K : Keep h h' []) : Ext h h' := ⟨K.1, fun a c q => K.2.1 a c q nin0⟩
theorem nat_idx {j : Int32} {i : Nat} (hj : j.toInt = (i : Int)) : ¬ j < 0 ∧ j.toNatClampNeg = i := by
  constructor
  · rw [Int32.lt_iff_toInt_lt, hj]; simp
  · simp [Int32.toNatClampNeg, hj]
theorem Sta.ext' {C n d : String} (E : Ext h h') (F : Sta Z h C n d v) : Sta Z h' C n d v := F.ext E
/-- a static's cell is none of the freshly made ones -/
theorem Sta.keep {C n d : String} (F : Sta Z h C n d v) (K : Keep h h' ws) (q : ∀ x ∈ ws, ∀ cell : Cell, h[x]? = some cell → cell.vm.isStatics = false) : Sta Z h' C n d v := by
  obtain ⟨cf, i, k, f, st, cell, h1, h2, h3, h4, h5, h6, r⟩ := F
  exact ⟨cf, i, k, f, st, cell, h1, h2, h3, h4, K.2.1 _ _ h5 (fun z => by have := q _ z _ h5; rw [h6] at this; cases this), h6, r⟩
/-- a static of the start stands, where all that was written is new -/
theorem Sta.old {C n d : String} (F : Sta Z Z.heap C n d v) (O : Ext Z.heap h) : Sta Z h C n d v := F.ext O
theorem Fld.oth {a0 : Array Value} {C O O' fn fn' d d' : String} {w : Value} (F : Fld Z h b O fn d w) (W : Wr h h' a (RoadKit.slotOf Z O' fn' d') v) (L1 : Laid Z a0 C O fn d) (L2 : Laid Z a0 C O' fn' d') (hn : fn ≠ fn') (h1 : (parseFieldDescriptor d).isSome = true) (h2 : (parseFieldDescriptor d').isSome = true) : Fld Z h' b O fn d w := by
  obtain ⟨t1, e1⟩ := Option.isSome_iff_exists.mp h1
  obtain ⟨t2, e2⟩ := Option.isSome_iff_exists.mp h2
  exact F.other W (Or.inr (slot_ne L1 L2 hn e1 e2))
end AlFacts
section Heap
variable {Z : State} {a0 : Array Value} {EL : List (String × Nat)} {nw : NW} {R : Room} {Post : Pst} {K : Kx} {own : String} {code : ByteArray} {maxL : Nat} {ret : Option FieldType} {nm : String} {h h' : Heap} {S : List Addr} {k n pc pc' : Nat} {L : List Slot} {st : List Value} {l : Launch}
/-- a step that leaves the heap -/
theorem Go.calm {L' : List Slot} {st' : List Value} (G : Good Z a0 EL K own code maxL ret nm)
    (q : ∀ (T : State) (vm0 : Vm) (locs : List Loc), Stand K.p K.l K.e R (K.s.setVm vm0) K.m K.as K.below K.meth K.c T locs k n → Z.Warmed39 (K.s.setVm vm0).vm → (K.s.setVm vm0).vm.findClass own = some K.m.cls → T.heap = h →
      ∃ T', Stand K.p K.l K.e R (K.s.setVm vm0) K.m K.as K.below K.meth K.c T' locs k n ∧ T'.heap = h ∧ ∀ target, Steps K.p.tables K.e K.below (T'.setTop (mkF K.m pc' L'.toArray st')) target → Steps K.p.tables K.e K.below (T.setTop (mkF K.m pc L.toArray st)) target)
    (f : Go Z EL nw R Post K h S k n pc' L' st') : Go Z EL nw R Post K h S k n pc L st := fun T I => by
  obtain ⟨vm0, k0, locs, X, hS, hk0, hZ, e, r⟩ := I
  obtain ⟨T', X', e', stp⟩ := q T vm0 locs X hZ (G.hown hS) e
  exact (f T' ⟨vm0, k0, locs, X', hS, hk0, hZ, e', r⟩).step stp
/-- a step that makes one cell -/
theorem Go.grow {L' : List Slot} {st' : List Value} {k' n' : Nat} {P : Heap → Prop} (G : Good Z a0 EL K own code maxL ret nm)
    (q : ∀ (T : State) (vm0 : Vm) (locs : List Loc), Stand K.p K.l K.e R (K.s.setVm vm0) K.m K.as K.below K.meth K.c T locs k n → Z.Warmed39 (K.s.setVm vm0).vm → (K.s.setVm vm0).vm.findClass own = some K.m.cls → T.heap = h →
      ∃ T' h', Stand K.p K.l K.e R (K.s.setVm vm0) K.m K.as K.below K.meth K.c T' locs k' n' ∧ T'.heap = h' ∧ Ext h h' ∧ h.size < h'.size ∧ P h' ∧ ∀ target, Steps K.p.tables K.e K.below (T'.setTop (mkF K.m pc' L'.toArray st')) target → Steps K.p.tables K.e K.below (T.setTop (mkF K.m pc L.toArray st)) target)
    (f : ∀ h', Ext h h' → h.size < h'.size → P h' → Go Z EL nw R Post K h' (h.size :: S) k' n' pc' L' st') : Go Z EL nw R Post K h S k n pc L st := fun T I => by
  obtain ⟨vm0, k0, locs, X, hS, hk0, hZ, e, N, CH, hSf, hw, hO⟩ := I
  obtain ⟨T', h', X', e', E, hlt, hP, stp⟩ := q T vm0 locs X hZ (G.hown hS) e
  have hn0 : Z.heap.size ≤ h.size := hO.1
  refine (f h' E hlt hP T' ⟨vm0, k0, locs, X', hS, Nat.le_trans hk0 E.1, hZ, e', N, CH.trans (CHr.ext E CH.1), fun a ha => ?_, hw, ⟨Nat.le_trans hO.1 E.1, fun x c q => E.2 x c (hO.2 x c q)⟩⟩).step stp
  rcases List.mem_cons.mp ha with rfl | ha
  · exact ⟨hn0, hlt, Safe.ext E CH.1 (Safe.new (Nat.le_refl _))⟩
  · obtain ⟨b1, b2, b3⟩ := hSf a ha
    exact ⟨b1, Nat.lt_of_lt_of_le b2 E.1, Safe.ext E CH.1 b3⟩
/-- a step that writes one place of a cell of S -/
theorem Go.write {L' : List Slot} {st' : List Value} {a : Addr} {sl : Nat} {v : Value} (G : Good Z a0 EL K own code maxL ret nm) (ha : a ∈ S)
    (q : ∀ (T : State) (vm0 : Vm) (locs : List Loc), Stand K.p K.l K.e R (K.s.setVm vm0) K.m K.as K.below K.meth K.c T locs k n → Z.Warmed39 (K.s.setVm vm0).vm → (K.s.setVm vm0).vm.findClass own = some K.m.cls → T.heap = h →
      ∃ T' h', Stand K.p K.l K.e R (K.s.setVm vm0) K.m K.as K.below K.meth K.c T' (locs ++ [⟨a, sl⟩]) k n ∧ T'.heap = h' ∧ Wr h h' a sl v ∧ ∀ target, Steps K.p.tables K.e K.below (T'.setTop (mkF K.m pc' L'.toArray st')) target → Steps K.p.tables K.e K.below (T.setTop (mkF K.m pc L.toArray st)) target)
    (f : ∀ h', Wr h h' a sl v → Go Z EL nw R Post K h' S k n pc' L' st') : Go Z EL nw R Post K h S k n pc L st := fun T I => by
  obtain ⟨vm0, k0, locs, X, hS, hk0, hZ, e, N, CH, hSf, hw, hO⟩ := I
  obtain ⟨T', h', X', e', W, stp⟩ := q T vm0 locs X hZ (G.hown hS) e
  obtain ⟨c1, c2, c3⟩ := hSf a ha
  refine (f h' W T' ⟨vm0, k0, _, X', hS, by rw [W.size]; exact hk0, hZ, e', Fr.snoc X' N c1, CH.trans (CHr.wr W c3 CH.1), fun x hx => ?_, hw, ⟨by rw [W.size]; exact hO.1, fun x c q => (Keep.of_wr W).2.1 x c (hO.2 x c q) (fun z => by cases List.mem_singleton.mp z; exact absurd (Array.getElem?_eq_some_iff.mp q).1 (Nat.not_lt.mpr c1))⟩⟩).step stp
  obtain ⟨b1, b2, b3⟩ := hSf x hx
  exact ⟨b1, by rw [W.size]; exact b2, Safe.wr W c3 CH.1 b3⟩
theorem Good.getF (G : Good Z a0 EL K own code maxL ret nm) {R0 O fn d : String} {index : Nat} {a : Addr} {v : Value} (hd : Dc code pc (.getfield index) 3 pc') (w : (Cond.fieldLink own index R0 fn d).before a0 Z = true) (F : Fld Z h a O fn d v) (f : Go Z EL nw R Post K h S k n pc' L (v :: st)) (via : Via Z R0 O fn d := by exact Via.refl) : Go Z EL nw R Post K h S k n pc L (.ref a :: st) := by
  obtain ⟨hd, rfl⟩ := hd
  refine Go.calm G (fun T vm0 locs X hZ hown e => ?_) f
  exact getF X G.1 hZ hown (host := "") (Or.inl w) via e F (g := mkF K.m pc L.toArray (.ref a :: st)) rfl rfl (hb G.2.1 hd)
theorem Good.getS (G : Good Z a0 EL K own code maxL ret nm) {R0 O fn d : String} {index : Nat} {v : Value} (hd : Dc code pc (.getstatic index) 3 pc') (w : (Cond.fieldLink own index R0 fn d).before a0 Z = true) (F : Sta Z Z.heap O fn d v) (f : Go Z EL nw R Post K h S k n pc' L (v :: st)) (via : Via Z R0 O fn d := by exact Via.refl) : Go Z EL nw R Post K h S k n pc L st := by
  obtain ⟨hd, rfl⟩ := hd
  refine Go.oldIn fun hO => ?_
  have F := F.ext hO
  refine Go.calm G (fun T vm0 locs X hZ hown e => ?_) f
  exact getS X G.1 hZ hown (host := "") w via e F (g := mkF K.m pc L.toArray st) rfl (hb G.2.1 hd)
theorem Good.ldcI (G : Good Z a0 EL K own code maxL ret nm) {index : Nat} {v : Int32} (hd : Dc code pc (.ldc index) 2 pc') (w : (Cond.constant own index v).before a0 Z = true) (f : Go Z EL nw R Post K h S k n pc' L (.int v :: st)) : Go Z EL nw R Post K h S k n pc L st := by
  obtain ⟨hd, rfl⟩ := hd
  refine Go.calm G (fun T vm0 locs X hZ hown e => ⟨T, X, e, ?_⟩) f
  exact X.ldcInt G.1 hown (mvT hZ w) (g := mkF K.m pc L.toArray st) rfl (hb G.2.1 hd)
theorem Good.ldc2J (G : Good Z a0 EL K own code maxL ret nm) {index : Nat} {v : Int64} (hd : Dc code pc (.ldc2_w index) 3 pc') (w : (Cond.constantLong own index v).before a0 Z = true) (f : Go Z EL nw R Post K h S k n pc' L (.long v :: st)) : Go Z EL nw R Post K h S k n pc L st := by
  obtain ⟨hd, rfl⟩ := hd
  refine Go.calm G (fun T vm0 locs X hZ hown e => ⟨T, X, e, ?_⟩) f
  exact X.ldc2Long G.1 hown (mvT hZ w) (g := mkF K.m pc L.toArray st) rfl (hb G.2.1 hd)
theorem Good.castR (G : Good Z a0 EL K own code maxL ret nm) {C : String} {index : Nat} {a : Addr} (hd : Dc code pc (.checkcast index) 3 pc') (w : (Cond.classLink own index C).before a0 Z = true) (F : Ins Z h a C true) (f : Go Z EL nw R Post K h S k n pc' L (.ref a :: st)) : Go Z EL nw R Post K h S k n pc L (.ref a :: st) := by
  obtain ⟨hd, rfl⟩ := hd
  refine Go.calm G (fun T vm0 locs X hZ hown e => ?_) f
  exact castY X G.1 hZ hown w e F (g := mkF K.m pc L.toArray (.ref a :: st)) rfl rfl (hb G.2.1 hd)
theorem Good.instY (G : Good Z a0 EL K own code maxL ret nm) {C : String} {index : Nat} {a : Addr} (hd : Dc code pc (.instanceof index) 3 pc') (w : (Cond.classLink own index C).before a0 Z = true) (F : Ins Z h a C true) (f : Go Z EL nw R Post K h S k n pc' L (.int 1 :: st)) : Go Z EL nw R Post K h S k n pc L (.ref a :: st) := by
  obtain ⟨hd, rfl⟩ := hd
  refine Go.calm G (fun T vm0 locs X hZ hown e => ?_) f
  exact instY X G.1 hZ hown w e F (g := mkF K.m pc L.toArray (.ref a :: st)) rfl rfl (hb G.2.1 hd)
theorem Good.instNo (G : Good Z a0 EL K own code maxL ret nm) {C D : String} {index : Nat} {a : Addr} (hd : Dc code pc (.instanceof index) 3 pc') (w : (Cond.classLink own index C).before a0 Z = true) (E : Exa Z h a D) (F : ∃ c t, Z.vm.findClass D = some c ∧ Z.vm.findClass C = some t ∧ Z.vm.assignable c t = false) (f : Go Z EL nw R Post K h S k n pc' L (.int 0 :: st)) : Go Z EL nw R Post K h S k n pc L (.ref a :: st) := by
  obtain ⟨hd, rfl⟩ := hd
  refine Go.calm G (fun T vm0 locs X hZ hown e => ?_) f
  exact instNo X G.1 hZ hown w e E F (g := mkF K.m pc L.toArray (.ref a :: st)) rfl rfl (hb G.2.1 hd)
theorem Good.instNull (G : Good Z a0 EL K own code maxL ret nm) {index : Nat} (hd : Dc code pc (.instanceof index) 3 pc') (f : Go Z EL nw R Post K h S k n pc' L (.int 0 :: st)) : Go Z EL nw R Post K h S k n pc L (.null :: st) := by
  obtain ⟨hd, rfl⟩ := hd
  refine Go.calm G (fun T vm0 locs X hZ hown e => ⟨T, X, e, ?_⟩) f
  exact X.instanceofNull G.1 (g := mkF K.m pc L.toArray (.null :: st)) rfl rfl (hb G.2.1 hd)
theorem Good.castNull (G : Good Z a0 EL K own code maxL ret nm) {index : Nat} (hd : Dc code pc (.checkcast index) 3 pc') (f : Go Z EL nw R Post K h S k n pc' L (.null :: st)) : Go Z EL nw R Post K h S k n pc L (.null :: st) := by
  obtain ⟨hd, rfl⟩ := hd
  refine Go.calm G (fun T vm0 locs X hZ hown e => ⟨T, X, e, ?_⟩) f
  exact X.checkcastNull G.1 (g := mkF K.m pc L.toArray (.null :: st)) rfl rfl (hb G.2.1 hd)
theorem Good.alen (G : Good Z a0 EL K own code maxL ret nm) {a : Addr} {ty : FieldType} {vs : List Value} (z : Int32) (hd : Dc code pc .arraylength 1 pc') (A : Al Z h a ty vs) (hz : z.toInt = (vs.length : Int)) (f : Go Z EL nw R Post K h S k n pc' L (.int z :: st)) : Go Z EL nw R Post K h S k n pc L (.ref a :: st) := by
  obtain ⟨hd, rfl⟩ := hd
  obtain ⟨c, A1, A2, A3, A4⟩ := A
  have ez : c.slots.size.toInt32 = z := by
    apply Int32.toInt_inj.mp
    rw [hz, A2]
    simp only [List.size_toArray]
    exact len_toInt A3
  refine Go.calm G (fun T vm0 locs X hZ hown e => ⟨T, X, e, fun t q => ?_⟩) f
  refine X.arraylength G.1 (by rw [e]; exact A1.1) (State.isArrayOf_alike hZ.alike A1.2.1) (g := mkF K.m pc L.toArray (.ref a :: st)) rfl rfl (hb G.2.1 hd) t ?_
  rw [ez]; exact q
theorem Good.caload (G : Good Z a0 EL K own code maxL ret nm) {a : Addr} {vs : List Value} {j : Int32} {i : Nat} {v : Value} (hd : Dc code pc .caload 1 pc') (A : Al Z h a .char vs) (hj : j.toInt = (i : Int)) (hv : vs[i]? = some v) (f : Go Z EL nw R Post K h S k n pc' L (v :: st)) : Go Z EL nw R Post K h S k n pc L (.int j :: .ref a :: st) := by
  obtain ⟨hd, rfl⟩ := hd
  obtain ⟨c, A1, A2, A3, A4⟩ := A
  obtain ⟨j1, j2⟩ := nat_idx hj
  have hlt := (List.getElem?_eq_some_iff.mp hv).1
  refine Go.calm G (fun T vm0 locs X hZ hown e => ⟨T, X, e, fun t q => ?_⟩) f
  exact X.caload G.1 (by rw [e]; exact A1.1) (State.isArrayOf_alike hZ.alike A1.2.1) A1.2.2 (by rw [j2, A2]; simp only [List.size_toArray]; rintro (q | q); exact j1 q; omega) (by rw [j2, A2]; simpa using hv) (g := mkF K.m pc L.toArray (.int j :: .ref a :: st)) rfl rfl (hb G.2.1 hd) t q
theorem Good.baload (G : Good Z a0 EL K own code maxL ret nm) {a : Addr} {vs : List Value} {j : Int32} {i : Nat} {v : Value} (hd : Dc code pc .baload 1 pc') (A : Al Z h a .byte vs) (hj : j.toInt = (i : Int)) (hv : vs[i]? = some v) (f : Go Z EL nw R Post K h S k n pc' L (v :: st)) : Go Z EL nw R Post K h S k n pc L (.int j :: .ref a :: st) := by
  obtain ⟨hd, rfl⟩ := hd
  obtain ⟨c, A1, A2, A3, A4⟩ := A
  obtain ⟨j1, j2⟩ := nat_idx hj
  have hlt := (List.getElem?_eq_some_iff.mp hv).1
  refine Go.calm G (fun T vm0 locs X hZ hown e => ⟨T, X, e, fun t q => ?_⟩) f
  exact X.baloadBytes G.1 (by rw [e]; exact A1.1) (State.isArrayOf_alike hZ.alike A1.2.1) A1.2.2 (by rw [j2, A2]; simp only [List.size_toArray]; rintro (q | q); exact j1 q; omega) (by rw [j2, A2]; simpa using hv) (g := mkF K.m pc L.toArray (.int j :: .ref a :: st)) rfl rfl (hb G.2.1 hd) t q
theorem Good.laload (G : Good Z a0 EL K own code maxL ret nm) {a : Addr} {vs : List Value} {j : Int32} {i : Nat} {v : Value} (hd : Dc code pc .laload 1 pc') (A : Al Z h a .long vs) (hj : j.toInt = (i : Int)) (hv : vs[i]? = some v) (f : Go Z EL nw R Post K h S k n pc' L (v :: st)) : Go Z EL nw R Post K h S k n pc L (.int j :: .ref a :: st) := by
  obtain ⟨hd, rfl⟩ := hd
  obtain ⟨c, A1, A2, A3, A4⟩ := A
  obtain ⟨j1, j2⟩ := nat_idx hj
  have hlt := (List.getElem?_eq_some_iff.mp hv).1
  refine Go.calm G (fun T vm0 locs X hZ hown e => ⟨T, X, e, fun t q => ?_⟩) f
  exact X.laload G.1 (by rw [e]; exact A1.1) (State.isArrayOf_alike hZ.alike A1.2.1) A1.2.2 (by rw [j2, A2]; simp only [List.size_toArray]; rintro (q | q); exact j1 q; omega) (by rw [j2, A2]; simpa using hv) (g := mkF K.m pc L.toArray (.int j :: .ref a :: st)) rfl rfl (hb G.2.1 hd) t q
theorem Good.aaload (G : Good Z a0 EL K own code maxL ret nm) {a : Addr} {ty : FieldType} {vs : List Value} {j : Int32} {i : Nat} {v : Value} (hd : Dc code pc .aaload 1 pc') (A : Al Z h a ty vs) (hty : ty.isReference = true) (hj : j.toInt = (i : Int)) (hv : vs[i]? = some v) (f : Go Z EL nw R Post K h S k n pc' L (v :: st)) : Go Z EL nw R Post K h S k n pc L (.int j :: .ref a :: st) := by
  obtain ⟨hd, rfl⟩ := hd
  obtain ⟨c, A1, A2, A3, A4⟩ := A
  obtain ⟨j1, j2⟩ := nat_idx hj
  have hlt := (List.getElem?_eq_some_iff.mp hv).1
  refine Go.calm G (fun T vm0 locs X hZ hown e => ⟨T, X, e, fun t q => ?_⟩) f
  exact X.aaload G.1 (by rw [e]; exact A1.1) (State.isArrayOf_alike hZ.alike A1.2.1) hty A1.2.2 (by rw [j2, A2]; simp only [List.size_toArray]; rintro (q | q); exact j1 q; omega) (by rw [j2, A2]; simpa using hv) (g := mkF K.m pc L.toArray (.int j :: .ref a :: st)) rfl rfl (hb G.2.1 hd) t q
theorem Good.castore (G : Good Z a0 EL K own code maxL ret nm) {a : Addr} {vs : List Value} {j x : Int32} {i : Nat} (hd : Dc code pc .castore 1 pc') (ha : a ∈ S) (A : Al Z h a .char vs) (hj : j.toInt = (i : Int)) (hi : i < vs.length) (f : ∀ h', Wr h h' a i (.int (nar .char x)) → Al Z h' a .char (vs.set i (.int (nar .char x))) → Go Z EL nw R Post K h' S k n pc' L st) : Go Z EL nw R Post K h S k n pc L (.int x :: .int j :: .ref a :: st) := by
  obtain ⟨hd, rfl⟩ := hd
  obtain ⟨c, A1, A2, A3, A4⟩ := id A
  obtain ⟨j1, j2⟩ := nat_idx hj
  subst j2
  refine Go.write G ha (fun T vm0 locs X hZ hown e => ?_) (fun h' W => f h' W (A.set W (fits_nar_char _)))
  exact stC X G.1 hZ e A1 (by rw [A2]; simp only [List.size_toArray]; rintro (q | q); exact j1 q; omega) (g := mkF K.m pc L.toArray (.int x :: .int j :: .ref a :: st)) rfl rfl (hb G.2.1 hd)
theorem Good.bastore (G : Good Z a0 EL K own code maxL ret nm) {a : Addr} {vs : List Value} {j x : Int32} {i : Nat} (hd : Dc code pc .bastore 1 pc') (ha : a ∈ S) (A : Al Z h a .byte vs) (hj : j.toInt = (i : Int)) (hi : i < vs.length) (f : ∀ h', Wr h h' a i (.int (nar .byte x)) → Al Z h' a .byte (vs.set i (.int (nar .byte x))) → Go Z EL nw R Post K h' S k n pc' L st) : Go Z EL nw R Post K h S k n pc L (.int x :: .int j :: .ref a :: st) := by
  obtain ⟨hd, rfl⟩ := hd
  obtain ⟨c, A1, A2, A3, A4⟩ := id A
  obtain ⟨j1, j2⟩ := nat_idx hj
  subst j2
  refine Go.write G ha (fun T vm0 locs X hZ hown e => ?_) (fun h' W => f h' W (A.set W (fits_nar_byte _)))
  exact stB X G.1 hZ e A1 (by rw [A2]; simp only [List.size_toArray]; rintro (q | q); exact j1 q; omega) (g := mkF K.m pc L.toArray (.int x :: .int j :: .ref a :: st)) rfl rfl (hb G.2.1 hd)
theorem Good.lastore (G : Good Z a0 EL K own code maxL ret nm) {a : Addr} {vs : List Value} {j : Int32} {x : Int64} {i : Nat} (hd : Dc code pc .lastore 1 pc') (ha : a ∈ S) (A : Al Z h a .long vs) (hj : j.toInt = (i : Int)) (hi : i < vs.length) (f : ∀ h', Wr h h' a i (.long x) → Al Z h' a .long (vs.set i (.long x)) → Go Z EL nw R Post K h' S k n pc' L st) : Go Z EL nw R Post K h S k n pc L (.long x :: .int j :: .ref a :: st) := by
  obtain ⟨hd, rfl⟩ := hd
  obtain ⟨c, A1, A2, A3, A4⟩ := id A
  obtain ⟨j1, j2⟩ := nat_idx hj
  subst j2
  refine Go.write G ha (fun T vm0 locs X hZ hown e => ?_) (fun h' W => f h' W (A.set W rfl))
  exact stJ X G.1 hZ e A1 (by rw [A2]; simp only [List.size_toArray]; rintro (q | q); exact j1 q; omega) (g := mkF K.m pc L.toArray (.long x :: .int j :: .ref a :: st)) rfl rfl (hb G.2.1 hd)
theorem Good.aastore (G : Good Z a0 EL K own code maxL ret nm) {a : Addr} {ty : FieldType} {vs : List Value} {j : Int32} {v : Value} {i : Nat} (hd : Dc code pc .aastore 1 pc') (ha : a ∈ S) (A : Al Z h a ty vs) (hty : ty.isReference = true) (F : Sto Z h a v) (hfv : fits ty v = true) (hj : j.toInt = (i : Int)) (hi : i < vs.length) (f : ∀ h', Wr h h' a i v → Al Z h' a ty (vs.set i v) → Go Z EL nw R Post K h' S k n pc' L st) : Go Z EL nw R Post K h S k n pc L (v :: .int j :: .ref a :: st) := by
  obtain ⟨hd, rfl⟩ := hd
  obtain ⟨c, A1, A2, A3, A4⟩ := id A
  obtain ⟨j1, j2⟩ := nat_idx hj
  subst j2
  refine Go.write G ha (fun T vm0 locs X hZ hown e => ?_) (fun h' W => f h' W (A.set W hfv))
  exact stR X G.1 hZ e A1 (by rw [A2]; simp only [List.size_toArray]; rintro (q | q); exact j1 q; omega) hty F (g := mkF K.m pc L.toArray (v :: .int j :: .ref a :: st)) rfl rfl (hb G.2.1 hd)
theorem Good.putF (G : Good Z a0 EL K own code maxL ret nm) {R0 O fn d C : String} {index kk : Nat} {ty : FieldType} {a : Addr} {v old : Value} (hd : Dc code pc (.putfield index) 3 pc') (w : (Cond.fieldLink own index R0 fn d).before a0 Z = true) (F : Fld Z h a O fn d old) (E : Exa Z h a C) (ha : a ∈ S)
    (Ly : (Cond.lays C O fn d).before a0 Z = true ∨ ((Cond.laysFinal C O fn d).before a0 Z = true ∧ own = O ∧ nm = "<init>")) (wi : (Cond.instantiable C kk).before a0 Z = true) (hty : parseFieldDescriptor d = some ty) (hn : narrow ty v = v) (hf : fits ty v = true)
    (f : ∀ h', Wr h h' a (RoadKit.slotOf Z O fn d) v → Fld Z h' a O fn d v → Exa Z h' a C → Go Z EL nw R Post K h' S k n pc' L st) (via : Via Z R0 O fn d := by exact Via.refl) : Go Z EL nw R Post K h S k n pc L (v :: .ref a :: st) := by
  obtain ⟨hd, rfl⟩ := hd
  refine Go.write G ha (fun T vm0 locs X hZ hown e => ?_) (fun h' W => f h' W (F.same W) (E.wr W))
  exact putF X G.1 hZ hown (host := "") (Or.inl w) via e F E (Ly.imp id fun q => ⟨q.1, q.2.1, G.2.2.2.2.2.1.trans q.2.2⟩) wi hty hn hf (g := mkF K.m pc L.toArray (v :: .ref a :: st)) rfl rfl (hb G.2.1 hd)
theorem Good.newO (G : Good Z a0 EL K own code maxL ret nm) {C : String} {index cnt : Nat} (hd : Dc code pc (.new index) 3 pc') (w : (Cond.classLink own index C).before a0 Z = true) (wi : (Cond.instantiable C cnt).before a0 Z = true) (wz : (Cond.initialized C).before a0 Z = true)
    (f : ∀ h', Ext h h' → h.size < h'.size → (Exa Z h' h.size C ∧ ∀ {O fn d : String} {ty : FieldType}, Laid Z a0 C O fn d → parseFieldDescriptor d = some ty → Fld Z h' h.size O fn d (defaultValue ty)) → Go Z EL nw R Post K h' (h.size :: S) (k + 1) (n + cnt) pc' L (.ref h.size :: st)) (hc : k + 1 ≤ R.cells := by decide) (hl : n + cnt ≤ R.slots := by decide) : Go Z EL nw R Post K h S k n pc L st := by
  obtain ⟨hd, rfl⟩ := hd
  refine Go.grow G (fun T vm0 locs X hZ hown e => ?_) f
  obtain ⟨T', h', X', e', E, A, D, -, stp⟩ := newO X G.1 hZ hown w wi wz e (g := mkF K.m pc L.toArray st) rfl (hb G.2.1 hd) hc hl
  exact ⟨T', h', X', e', E, A.lt, ⟨A, D⟩, stp⟩
theorem Good.newA (G : Good Z a0 EL K own code maxL ret nm) {aty : ArrayType} {j : Int32} (i cap : Nat) (hd : Dc code pc (.newarray aty) 2 pc') (w : (Cond.arrayClass (newarray.typeOf aty)).before a0 Z = true) (hj : j.toInt = (i : Int)) (hi : i ≤ cap)
    (f : ∀ h', Ext h h' → h.size < h'.size → Al Z h' h.size (newarray.typeOf aty) (List.replicate i (defaultValue (newarray.typeOf aty))) → Go Z EL nw R Post K h' (h.size :: S) (k + 1) (n + cap) pc' L (.ref h.size :: st)) (hb' : cap * 8 ≤ 536870912 := by decide) (hc : k + 1 ≤ R.cells := by decide) (hl : n + cap ≤ R.slots := by decide) : Go Z EL nw R Post K h S k n pc L (.int j :: st) := by
  obtain ⟨hd, rfl⟩ := hd
  obtain ⟨j1, j2⟩ := nat_idx hj
  refine Go.grow G (fun T vm0 locs X hZ hown e => ?_) f
  obtain ⟨T', h', cA, X', e', E, A, stp⟩ := newP X G.1 hZ w e (g := mkF K.m pc L.toArray (.int j :: st)) rfl (hb G.2.1 hd) rfl j1 (by rw [j2]; exact hi) hb' hc hl
  exact ⟨T', h', X', e', E, A.lt, ⟨_, A, by simp [RoadKit.newA, j2], by simp; omega, fun v hv => by rw [List.eq_of_mem_replicate hv]; cases aty <;> rfl⟩, stp⟩
theorem Good.newR (G : Good Z a0 EL K own code maxL ret nm) {C : String} {index : Nat} {j : Int32} (i cap : Nat) (hd : Dc code pc (.anewarray index) 3 pc') (w1 : (Cond.classLink own index C).before a0 Z = true) (w2 : (Cond.arrayOver (.object C)).before a0 Z = true) (hj : j.toInt = (i : Int)) (hi : i ≤ cap)
    (f : ∀ h', Ext h h' → h.size < h'.size → (Al Z h' h.size (.object C) (List.replicate i .null) ∧ ∃ c cA, Arr Z h' h.size c (.object C) ∧ c.cls = cA ∧ Ovr Z cA C) → Go Z EL nw R Post K h' (h.size :: S) (k + 1) (n + cap) pc' L (.ref h.size :: st)) (hb' : cap * 8 ≤ 536870912 := by decide) (hc : k + 1 ≤ R.cells := by decide) (hl : n + cap ≤ R.slots := by decide) : Go Z EL nw R Post K h S k n pc L (.int j :: st) := by
  obtain ⟨hd, rfl⟩ := hd
  obtain ⟨j1, j2⟩ := nat_idx hj
  refine Go.grow G (fun T vm0 locs X hZ hown e => ?_) f
  obtain ⟨T', h', cA, X', e', E, A, O, stp⟩ := newR X G.1 hZ hown w1 w2 e (g := mkF K.m pc L.toArray (.int j :: st)) rfl (hb G.2.1 hd) rfl j1 (by rw [j2]; exact hi) hb' hc hl
  exact ⟨T', h', X', e', E, A.lt, ⟨⟨_, A, by simp [RoadKit.newA, j2, defaultValue], by simp; omega, fun v hv => by rw [List.eq_of_mem_replicate hv]; rfl⟩, _, cA, A, rfl, O⟩, stp⟩
theorem Good.initO (G : Good Z a0 EL K own code maxL ret nm) {idx : Nat} {a : Addr} (hd : Dc code pc (.invokespecial idx) 3 pc') (w1 : (Cond.methodLink own idx Lib.objectInit).before a0 Z = true) (w2 : (Cond.instanceMethod Lib.objectInit).before a0 Z = true) (w3 : (Cond.code Lib.objectInit ⟨#[0xb1]⟩ 1 none).before a0 Z = true)
    (f : Go Z EL nw R Post K h S k n pc' L st) (hL : L.length = maxL := by rfl) (hf : 1 ≤ R.frames := by decide) (hl : (st.map fun v => v.category).sum + 12 ≤ R.locals := by exact Nat.le_of_ble_eq_true rfl) : Go Z EL nw R Post K h S k n pc L (.ref a :: st) := by
  obtain ⟨hd, rfl⟩ := hd
  refine Go.calm G (fun T vm0 locs X hZ hown e => ?_) f
  exact initO X G.1 hZ hown w1 w2 w3 e (g := mkF K.m pc L.toArray (.ref a :: st)) rfl (by rw [G.2.2.1]; simpa using hL) rfl (hb G.2.1 hd) hf (W := (st.map fun v => v.category).sum) (by show 2 * 0 + _ ≤ _; omega) hl
/-- System.arraycopy of plain components, into a cell of S -/
theorem Good.acopy (G : Good Z a0 EL K own code maxL ret nm) {index : Nat} {a b : Addr} {ty : FieldType} {vs vd : List Value} {sp dp nn : Int32} (i j m : Nat) (hd : Dc code pc (.invokestatic index) 3 pc') (w1 : (Cond.methodLink own index Jvm.Stand.acN).before a0 Z = true) (w2 : (Cond.native Jvm.Stand.acN).before a0 Z = true) (w3 : (Cond.static Jvm.Stand.acN).before a0 Z = true) (w4 : (Cond.initialized "java/lang/System").before a0 Z = true)
    (A : Al Z h a ty vs) (B : Al Z h b ty vd) (hty : refKind ty = false) (hb' : b ∈ S) (hi : sp.toInt = (i : Int)) (hj : dp.toInt = (j : Int)) (hm : nn.toInt = (m : Int)) (h4 : i + m ≤ vs.length) (h5 : j + m ≤ vd.length)
    (f : ∀ h', Keep h h' [b] → Al Z h' b ty (vd.take j ++ (vs.drop i).take m ++ vd.drop (j + m)) → Go Z EL nw R Post K h' S k n pc' L st) (hL : L.length = maxL := by rfl) (hf : 1 ≤ R.frames := by decide) (hl : (st.map fun v => v.category).sum + (nativeFrameWords "java/lang/System" "arraycopy" 5 + 11) ≤ R.locals := by exact Nat.le_of_ble_eq_true rfl) :
    Go Z EL nw R Post K h S k n pc L (.int nn :: .int dp :: .ref b :: .int sp :: .ref a :: st) := fun T I => by
  obtain ⟨hd, rfl⟩ := hd
  obtain ⟨vm0, k0, locs, X, hS, hk0, hZ, e, N, CH, hSf, hw, hO⟩ := I
  obtain ⟨c1, c2, c3⟩ := hSf b hb'
  obtain ⟨ka, Av⟩ := A.arv (.int 0)
  obtain ⟨kb, Bv⟩ := B.arv (.int 0)
  obtain ⟨i1, i2⟩ := nat_idx hi
  obtain ⟨j1, j2⟩ := nat_idx hj
  obtain ⟨m1, m2⟩ := nat_idx hm
  have ea : (Int32.ofNat vs.length).toNatClampNeg = vs.length := by simp [Int32.toNatClampNeg, len_toInt A.len]
  have eb : (Int32.ofNat vd.length).toNatClampNeg = vd.length := by simp [Int32.toNatClampNeg, len_toInt B.len]
  have hus : (vs.drop i).take m = (List.range nn.toNatClampNeg).map fun q => vs.getD (sp.toNatClampNeg + q) (.int 0) := by
    rw [m2, i2]
    apply List.ext_getElem
    · simp; omega
    · intro q q1 q2
      simp only [List.length_map, List.length_range] at q2
      have : i + q < vs.length := by omega
      simp [List.getD_eq_getElem?_getD, this]
  obtain ⟨T', h', L', X', e', N', Kp, B', stp⟩ := cpA X G.1 hZ (G.hown hS) w1 w2 w3 w4 e Av Bv (Or.inl ⟨rfl, hty⟩) i1 j1 m1 (by rw [i2, m2, ea]; exact h4) (by rw [j2, m2, eb]; exact h5) hus (by rw [j2, m2]; exact h5) N c1 (g := mkF K.m pc L.toArray (.int nn :: .int dp :: .ref b :: .int sp :: .ref a :: st)) rfl (by rw [G.2.2.1]; simpa using hL) rfl (hb G.2.1 hd) hf (W := (st.map fun v => v.category).sum) (by show 2 * 0 + _ ≤ _; omega) hl
  rw [j2, m2] at B'
  have sfb : ∀ x ∈ [b], Safe Z EL vm0 h x := fun x hx => by cases List.mem_singleton.mp hx; exact c3
  have hC := CHr.keep Kp sfb CH.1
  refine (f h' Kp (Al.of_arv B' (by rw [eb]; simp; omega)) T' ⟨vm0, k0, L', X', hS, Nat.le_trans hk0 Kp.1, hZ, e', N', CH.trans hC, fun x hx => ?_, hw, ⟨Nat.le_trans hO.1 Kp.1, fun x c q => Kp.2.1 x c (hO.2 x c q) (fun z => by cases List.mem_singleton.mp z; exact absurd (Array.getElem?_eq_some_iff.mp q).1 (Nat.not_lt.mpr c1))⟩⟩).step stp
  obtain ⟨b1, b2, b3⟩ := hSf x hx
  exact ⟨b1, Nat.lt_of_lt_of_le b2 Kp.1, Safe.keep Kp sfb CH.1 b3⟩
end Heap
end Jvm.Own
namespace Jvm.Own
open Jvm Jvm.ClassFile Sem Op Lib Jvm.Free Jvm.Stand Jvm.LawKit Jvm.RoadKit Bundle
def PreB (R rm : Room) (h : Heap) (as : Array Value) (A : Pt) (a : Array Value) : Prop := a = as ∧ A.U.heap = h ∧ A.cells + rm.cells ≤ R.cells ∧ A.slots + rm.slots ≤ R.slots
def PstB (Z : State) (EL : List (String × Nat)) (nw : NW) (rm : Room) (h : Heap) (Post' : Pst) (s : State) (vm0 : Vm) (A : Pt) (_a : Array Value) (v : Option Value) (B : Pt) : Prop :=
  ∃ L S', Post' v B.U.heap S' ∧ Fr Z.heap.size L ∧ (∀ x ∈ S', Z.heap.size ≤ x ∧ x < B.U.heap.size ∧ Safe Z EL B.U.vm B.U.heap x) ∧ B.locs = A.locs ++ L ∧ B.cells = A.cells + rm.cells ∧ B.slots = A.slots + rm.slots ∧ CHr Z EL vm0 h B.U.vm B.U.heap ∧ Nwq nw (s.setVm vm0) B.U.vm ∧ Ext Z.heap B.U.heap
section Calls
variable {Z : State} {a0 : Array Value} {EL : List (String × Nat)} {nw : NW} {R : Room} {Post : Pst} {K : Kx} {own : String} {code : ByteArray} {maxL : Nat} {ret : Option FieldType} {nm : String} {h h' : Heap} {S : List Addr} {k n pc pc' : Nat} {L : List Slot} {st rest : List Value} {l : Launch}
variable {y z : MethodName} {bytes : ByteArray} {maxL' : Nat} {ret' : Option FieldType} {rm : Room} {as : Array Value} {S0 : List Addr} {Post' : Pst} {ps : List FieldType} {rr : Option FieldType} {C : String} {index : Nat} {a : Addr}
theorem Con.back {p : Program} {e : Env} {below : List Frame} {s : State} {sargs : Array Value} {len W : Nat} {vm0 : Vm} (c : Con l Z EL nw y bytes maxL' ret' [] rm as h S0 Post') (hZ : Z.Warmed39 vm0) (wc : (Cond.code y bytes maxL' ret').before a0 Z = true) (wz : (Cond.initialized y.cls).before a0 Z = true)
    (hf : rm.frames + 1 ≤ R.frames) (hl : W + (maxL' + 11) + rm.locals ≤ R.locals) (hEL : EW Z a0 EL) (H : CHv Z EL vm0 h) (hSf : ∀ x ∈ S0, Z.heap.size ≤ x ∧ x < h.size ∧ Safe Z EL vm0 h x) (hO : Ext Z.heap h) (hR : ∀ p ∈ nw.2.1, Resv vm0 p) :
    BackS l R p e below (s.setVm vm0) sargs y len W (PreB R rm h as) (PstB Z EL nw rm h Post' s vm0) :=
  BackS.of_freeW (bytes := bytes) (maxL := maxL') (ret := ret') (E := fun _ first o t L k n => k = rm.cells ∧ n = rm.slots ∧ (∃ v S', o = .returned v ∧ Post' v t.heap S' ∧ Fr Z.heap.size L ∧ (∀ x ∈ S', Z.heap.size ≤ x ∧ x < t.heap.size ∧ Safe Z EL t.vm t.heap x)) ∧ CHr Z EL first.vm first.heap t.vm t.heap ∧ Nwq nw first t.vm ∧ Ext Z.heap t.heap) c hf hl
    (fun m meth c A a Y hp => have hU : Z.Warmed39 A.U.vm := wtrans (s := s.setVm vm0) hZ Y.warmed
      ⟨by show (Cond.and _ .tt).before a A.U = true; rw [Cond.before_and, mv hU wc]; rfl, mv hU wc, mv hU wz, hp.2.2.1, hp.2.2.2⟩)
    (fun m meth c A a g mk Y hp => ⟨hp.1, wtrans (s := s.setVm vm0) hZ Y.warmed, hp.2.1, (CHv.at Y hZ hEL H).1, fun x hx => ⟨(hSf x hx).1, (hSf x hx).2.1, (CHv.at Y hZ hEL H).safe (hSf x hx).2.1 (hSf x hx).2.2⟩, hO, fun p q => Resv.on (s := s.setVm vm0) Y.warmed.wide (hR p q)⟩)
    (fun _ _ _ _ _ _ _ _ _ => trivial)
    (fun _ _ _ _ ⟨v, L, S', h1, h2, h3, h4, h5, h6, h7, h8⟩ => ⟨L, _, _, h6, rfl, rfl, ⟨v, S', h1, h2, h3, h5⟩, h4, h7, h8⟩)
    (fun m meth c A a g mk v t L k n Y hp _ _ ⟨e1, e2, ⟨v', S', e3, e4, e5, e6⟩, e7, e8, e9⟩ => by
      cases e3; subst e1 e2
      refine ⟨L, S', e4, e5, e6, rfl, rfl, rfl, (CHv.at Y hZ hEL H).trans ?_, ⟨fun z => State.WarmedH.trans (t := A.U) Y.warmed (e8.1 z), e8.2⟩, e9⟩
      rw [← hp.2.1]; exact e7)
/-- a call by its contract, whatever the step -/
theorem Go.callG {len : Nat} {P' Q' : List (String × Nat)} (G : Good Z a0 EL K own code maxL ret nm) (c : Con K.l Z EL (nw.1, P', Q') y bytes maxL' ret' [] rm as h S0 Post') (hP' : ∀ p ∈ P', p ∈ nw.2.1) (hS0 : ∀ x ∈ S0, x ∈ S) (wc : (Cond.code y bytes maxL' ret').before a0 Z = true) (wz : (Cond.initialized y.cls).before a0 Z = true)
    (hf : rm.frames + 1 ≤ R.frames) (hl : (rest.map fun v => v.category).sum + (maxL' + 11) + rm.locals ≤ R.locals) (hcc : k + rm.cells ≤ R.cells) (hss : n + rm.slots ≤ R.slots)
    (q : ∀ (T : State) (vm0 : Vm) (locs : List Loc), Stand K.p K.l K.e R (K.s.setVm vm0) K.m K.as K.below K.meth K.c T locs k n → Z.Warmed39 (K.s.setVm vm0).vm → (K.s.setVm vm0).vm.findClass own = some K.m.cls → T.heap = h →
      BackS K.l R K.p K.e K.below (K.s.setVm vm0) K.as y len (rest.map fun v => v.category).sum (PreB R rm h as) (PstB Z EL (nw.1, P', Q') rm h Post' K.s vm0) → (∀ vm₁, (K.s.setVm vm0).WarmedH vm₁ → PreB R rm h as ⟨T.setVm vm₁, locs, k, n⟩ as) →
      ∃ (v : Option Value) (vm₁ : Vm) (B : Pt), (K.s.setVm vm0).WarmedH vm₁ ∧ Stand K.p K.l K.e R ((K.s.setVm vm0).setVm B.U.vm) K.m K.as K.below K.meth K.c B.U B.locs B.cells B.slots ∧ (K.s.setVm vm0).Since B.U.vm B.U.heap.size ∧ T.heap.size ≤ B.U.heap.size ∧ PstB Z EL (nw.1, P', Q') rm h Post' K.s vm0 ⟨T.setVm vm₁, locs, k, n⟩ as v B ∧
        Steps K.p.tables K.e K.below (T.setTop (mkF K.m pc L.toArray st)) (B.U.setTop (mkF K.m pc' L.toArray (v.toList ++ rest))))
    (f : ∀ v h' S', Post' v h' S' → h.size ≤ h'.size → Go Z EL (nw.1, Q' ++ nw.2.1, nw.2.2) R Post K h' (S' ++ S) (k + rm.cells) (n + rm.slots) pc' L (v.toList ++ rest)) : Go Z EL nw R Post K h S k n pc L st := fun T I => by
  obtain ⟨vm0, k0, locs, X, hS, hk0, hZ, e, N, CH, hSf, hw, hO⟩ := I
  obtain ⟨v, vm₁, ⟨U, Ls, c0, s0⟩, hW₁, X', h2, hgr, ⟨L', S', hP, hN, hS', hL, hc0, hs0, hC, hnw, hO'⟩, stp⟩ := q T vm0 locs X hZ (G.hown hS) e (c.back hZ wc wz hf hl G.2.2.2.2.2.2.2 CH.1 (fun x hx => hSf x (hS0 x hx)) hO (fun p hp => hw.2 p (hP' p hp))) (fun vm₁ _ => ⟨rfl, e, hcc, hss⟩)
  dsimp only [Pt.U, Pt.locs, Pt.cells, Pt.slots] at X' h2 hgr hP hS' hL hc0 hs0 hC hnw hO' stp
  subst hL hc0 hs0
  rw [e] at hgr
  refine (f v U.heap S' hP hgr U ⟨U.vm, _, _, X', hS.trans h2 (Nat.le_trans hk0 hgr), Nat.le_refl _, State.Warmed39.trans (t := K.s.setVm vm0) hZ h2.1, rfl, N.app hN, CH.trans hC, fun x hx => ?_, ⟨fun z => State.WarmedH.trans (t := K.s.setVm vm0) (hw.1 z) (hnw.1 z), fun p hp => (List.mem_append.mp hp).elim (hnw.2 p) (fun q => Resv.on (s := K.s.setVm vm0) h2.1 (hw.2 p q))⟩, hO'⟩).step fun t z => stp.trans z
  rcases List.mem_append.mp hx with hx | hx
  · exact hS' x hx
  · obtain ⟨b1, b2, b3⟩ := hSf x hx
    exact ⟨b1, Nat.lt_of_lt_of_le b2 hgr, hC.safe b2 b3⟩
theorem Go.callG0 {len : Nat} (G : Good Z a0 EL K own code maxL ret nm) (c : Con K.l Z EL (nw.1, [], []) y bytes maxL' ret' [] rm as h S0 Post') (hS0 : ∀ x ∈ S0, x ∈ S) (wc : (Cond.code y bytes maxL' ret').before a0 Z = true) (wz : (Cond.initialized y.cls).before a0 Z = true)
    (hf : rm.frames + 1 ≤ R.frames) (hl : (rest.map fun v => v.category).sum + (maxL' + 11) + rm.locals ≤ R.locals) (hcc : k + rm.cells ≤ R.cells) (hss : n + rm.slots ≤ R.slots)
    (q : ∀ (T : State) (vm0 : Vm) (locs : List Loc), Stand K.p K.l K.e R (K.s.setVm vm0) K.m K.as K.below K.meth K.c T locs k n → Z.Warmed39 (K.s.setVm vm0).vm → (K.s.setVm vm0).vm.findClass own = some K.m.cls → T.heap = h →
      BackS K.l R K.p K.e K.below (K.s.setVm vm0) K.as y len (rest.map fun v => v.category).sum (PreB R rm h as) (PstB Z EL (nw.1, [], []) rm h Post' K.s vm0) → (∀ vm₁, (K.s.setVm vm0).WarmedH vm₁ → PreB R rm h as ⟨T.setVm vm₁, locs, k, n⟩ as) →
      ∃ (v : Option Value) (vm₁ : Vm) (B : Pt), (K.s.setVm vm0).WarmedH vm₁ ∧ Stand K.p K.l K.e R ((K.s.setVm vm0).setVm B.U.vm) K.m K.as K.below K.meth K.c B.U B.locs B.cells B.slots ∧ (K.s.setVm vm0).Since B.U.vm B.U.heap.size ∧ T.heap.size ≤ B.U.heap.size ∧ PstB Z EL (nw.1, [], []) rm h Post' K.s vm0 ⟨T.setVm vm₁, locs, k, n⟩ as v B ∧
        Steps K.p.tables K.e K.below (T.setTop (mkF K.m pc L.toArray st)) (B.U.setTop (mkF K.m pc' L.toArray (v.toList ++ rest))))
    (f : ∀ v h' S', Post' v h' S' → h.size ≤ h'.size → Go Z EL nw R Post K h' (S' ++ S) (k + rm.cells) (n + rm.slots) pc' L (v.toList ++ rest)) : Go Z EL nw R Post K h S k n pc L st :=
  Go.callG (len := len) (P' := []) (Q' := []) G c (fun _ q => nomatch q) hS0 wc wz hf hl hcc hss q f
theorem Good.callSq {P' Q' : List (String × Nat)} (G : Good Z a0 EL K own code maxL ret nm) (argsL : List Value) (hd : Dc code pc (.invokestatic index) 3 pc') (w1 : (Cond.methodLink own index y).before a0 Z = true) (w2 : (Cond.static y).before a0 Z = true) (w3 : (Cond.initialized y.cls).before a0 Z = true) (w4 : (Cond.code y bytes maxL' ret').before a0 Z = true)
    (pd : parseMethodDescriptor y.desc = some ⟨ps, rr⟩) (c : Con K.l Z EL (nw.1, P', Q') y bytes maxL' ret' [] rm argsL.toArray h S0 Post') (hP' : ∀ p ∈ P', p ∈ nw.2.1) (hS0 : ∀ x ∈ S0, x ∈ S) (hst : st = argsL.reverse ++ rest) (hln : argsL.length = ps.length)
    (f : ∀ v h' S', Post' v h' S' → h.size ≤ h'.size → Go Z EL (nw.1, Q' ++ nw.2.1, nw.2.2) R Post K h' (S' ++ S) (k + rm.cells) (n + rm.slots) pc' L (v.toList ++ rest))
    (hy : y.cls ≠ "java/lang/invoke/MethodHandle" ∧ y.cls ≠ "java/lang/invoke/VarHandle") (hL : L.length = maxL) (hf : rm.frames + 1 ≤ R.frames) (hl : (rest.map fun v => v.category).sum + (maxL' + 11) + rm.locals ≤ R.locals) (hcc : k + rm.cells ≤ R.cells) (hss : n + rm.slots ≤ R.slots) : Go Z EL nw R Post K h S k n pc L st := by
  obtain ⟨hd, rfl⟩ := hd
  refine Go.callG (len := 3) G c hP' hS0 w4 w3 hf hl hcc hss (fun T vm0 locs X hZ hown e hK hpre => ?_) f
  exact callSS X G.1 hown (mvT hZ w1) (mvT hZ w2) (mvT hZ w3) (mvT hZ w4) hy hK (g := mkF K.m pc L.toArray st) rfl (by rw [G.2.2.1]; simpa using hL) (lenOf pd hln) hst (by show 2 * 0 + _ ≤ _; omega) (hb G.2.1 hd) hpre
theorem Good.callS (G : Good Z a0 EL K own code maxL ret nm) (argsL : List Value) (hd : Dc code pc (.invokestatic index) 3 pc') (w1 : (Cond.methodLink own index y).before a0 Z = true) (w2 : (Cond.static y).before a0 Z = true) (w3 : (Cond.initialized y.cls).before a0 Z = true) (w4 : (Cond.code y bytes maxL' ret').before a0 Z = true)
    (pd : parseMethodDescriptor y.desc = some ⟨ps, rr⟩) (c : Con K.l Z EL (nw.1, [], []) y bytes maxL' ret' [] rm argsL.toArray h S0 Post') (hS0 : ∀ x ∈ S0, x ∈ S) (hst : st = argsL.reverse ++ rest) (hln : argsL.length = ps.length)
    (f : ∀ v h' S', Post' v h' S' → h.size ≤ h'.size → Go Z EL nw R Post K h' (S' ++ S) (k + rm.cells) (n + rm.slots) pc' L (v.toList ++ rest))
    (hy : y.cls ≠ "java/lang/invoke/MethodHandle" ∧ y.cls ≠ "java/lang/invoke/VarHandle") (hL : L.length = maxL) (hf : rm.frames + 1 ≤ R.frames) (hl : (rest.map fun v => v.category).sum + (maxL' + 11) + rm.locals ≤ R.locals) (hcc : k + rm.cells ≤ R.cells) (hss : n + rm.slots ≤ R.slots) : Go Z EL nw R Post K h S k n pc L st := by
  obtain ⟨hd, rfl⟩ := hd
  refine Go.callG0 (len := 3) G c hS0 w4 w3 hf hl hcc hss (fun T vm0 locs X hZ hown e hK hpre => ?_) f
  exact callSS X G.1 hown (mvT hZ w1) (mvT hZ w2) (mvT hZ w3) (mvT hZ w4) hy hK (g := mkF K.m pc L.toArray st) rfl (by rw [G.2.2.1]; simpa using hL) (lenOf pd hln) hst (by show 2 * 0 + _ ≤ _; omega) (hb G.2.1 hd) hpre
theorem Good.callI (G : Good Z a0 EL K own code maxL ret nm) (argsL : List Value) (hd : Dc code pc (.invokespecial index) 3 pc') (w1 : (Cond.methodLink own index y).before a0 Z = true) (w2 : (Cond.instanceMethod y).before a0 Z = true) (w3 : (Cond.initialized y.cls).before a0 Z = true) (w4 : (Cond.code y bytes maxL' none).before a0 Z = true)
    (pd : parseMethodDescriptor y.desc = some ⟨ps, rr⟩) (c : Con K.l Z EL (nw.1, [], []) y bytes maxL' none [] rm (.ref a :: argsL).toArray h S0 Post') (hS0 : ∀ x ∈ S0, x ∈ S) (hst : st = argsL.reverse ++ .ref a :: rest) (hln : argsL.length = ps.length)
    (f : ∀ v h' S', Post' v h' S' → h.size ≤ h'.size → Go Z EL nw R Post K h' (S' ++ S) (k + rm.cells) (n + rm.slots) pc' L (v.toList ++ rest))
    (hy1 : y.name = "<init>") (hy : y.cls ≠ "java/lang/invoke/MethodHandle" ∧ y.cls ≠ "java/lang/invoke/VarHandle") (hL : L.length = maxL) (hf : rm.frames + 1 ≤ R.frames) (hl : (rest.map fun v => v.category).sum + (maxL' + 11) + rm.locals ≤ R.locals) (hcc : k + rm.cells ≤ R.cells) (hss : n + rm.slots ≤ R.slots) : Go Z EL nw R Post K h S k n pc L st := by
  obtain ⟨hd, rfl⟩ := hd
  refine Go.callG0 (len := 3) G c hS0 w4 w3 hf hl hcc hss (fun T vm0 locs X hZ hown e hK hpre => ?_) f
  exact X.specialBackS G.1 hy1 hown (mvT hZ w1) (mvT hZ w2) (mvT hZ w4) hy hK (g := mkF K.m pc L.toArray st) rfl (by rw [G.2.2.1]; simpa using hL) (Steps.refl _) (lenOf pd hln) hst (by show 2 * 0 + _ ≤ _; omega) (hb G.2.1 hd) hpre
/-- the class that declares y is no interface: two roads -/
def Nf (Z : State) (y : MethodName) : Prop := ∀ s : State, Z.Warmed39 s.vm → NotFace s y
theorem Nf.inst {cnt : Nat} (wi : (Cond.instantiable y.cls cnt).before a0 Z = true) : Nf Z y := fun s hZ r0 h0 => by
  have w : (Cond.instantiable y.cls cnt).before #[] s = true := mvT hZ wi
  obtain ⟨c, kk, h1, h2, h3, h4, -⟩ := Cond.instantiable_spec w
  have hc := findClass_of_methodNamed h0
  cases h1.symm.trans hc
  simp only [Bool.or_eq_false_iff] at h4
  exact ⟨kk, h2, h4.1⟩
theorem Nf.super {D : String} (w : (Cond.superclass y.cls D).before a0 Z = true) : Nf Z y := fun s hZ => nf_super (args := #[]) (mvT hZ w)
theorem Nf.sel (w : (Cond.selects C y y).before a0 Z = true) : Nf Z y := fun s hZ => notFace_of_selects (args := #[]) (mvT hZ w)
theorem Nf.same (nf : Nf Z z) (w : (Cond.instanceMethod z).before a0 Z = true) (e : z.cls = y.cls) : Nf Z y := fun s hZ r0 h0 => by
  obtain ⟨mk, methM, hnamed, -⟩ := Cond.instanceMethod_spec (mvT (args := #[]) (s := s) hZ w)
  obtain ⟨kr, h1, h2⟩ := nf s hZ mk hnamed
  have c1 := findClass_of_methodNamed hnamed
  have c2 := findClass_of_methodNamed h0
  rw [e] at c1
  have c3 := Option.some.inj (c1.symm.trans c2)
  exact ⟨kr, by rw [← c3]; exact h1, h2⟩
theorem same_of_nf (nf : Nf Z y) (w : (Cond.instanceMethod y).before a0 Z = true) (hy : y.cls ≠ "java/lang/invoke/MethodHandle" ∧ y.cls ≠ "java/lang/invoke/VarHandle") : (Cond.sameMethod y.cls y.cls y.name y.desc).before a0 Z = true := by
  obtain ⟨mk, methM, hnamed, -⟩ := Cond.instanceMethod_spec w
  obtain ⟨kr, h1, h2⟩ := nf Z (State.Warmed39.refl Z) mk hnamed
  have c1 := findClass_of_methodNamed hnamed
  have f1 := State.methodFound?_of_named hnamed hy
  have hnamed' : Z.methodNamed? ⟨y.cls, y.name, y.desc⟩ = some mk := hnamed
  simp [Cond.before, Cond.holds, Cond.value, c1, f1, hnamed', h1, h2]
theorem Good.callV (G : Good Z a0 EL K own code maxL ret nm) (nf : Nf Z y) (argsL : List Value) (hd : Dc code pc (.invokevirtual index) 3 pc') (w1 : (Cond.methodLink own index y).before a0 Z = true) (w2 : (Cond.declares y).before a0 Z = true) (w3 : (Cond.selects C y z).before a0 Z = true) (w4 : (Cond.instanceMethod z).before a0 Z = true) (w5 : (Cond.code z bytes maxL' ret').before a0 Z = true) (w6 : (Cond.initialized z.cls).before a0 Z = true)
    (pd : parseMethodDescriptor y.desc = some ⟨ps, rr⟩) (E : Exa Z h a C) (c : Con K.l Z EL (nw.1, [], []) z bytes maxL' ret' [] rm (.ref a :: argsL).toArray h S0 Post') (hS0 : ∀ x ∈ S0, x ∈ S) (hst : st = argsL.reverse ++ .ref a :: rest) (hln : argsL.length = ps.length)
    (f : ∀ v h' S', Post' v h' S' → h.size ≤ h'.size → Go Z EL nw R Post K h' (S' ++ S) (k + rm.cells) (n + rm.slots) pc' L (v.toList ++ rest))
    (hy : y.cls ≠ "java/lang/invoke/MethodHandle" ∧ y.cls ≠ "java/lang/invoke/VarHandle") (hL : L.length = maxL) (hf : rm.frames + 1 ≤ R.frames) (hl : (rest.map fun v => v.category).sum + (maxL' + 11) + rm.locals ≤ R.locals) (hcc : k + rm.cells ≤ R.cells) (hss : n + rm.slots ≤ R.slots) : Go Z EL nw R Post K h S k n pc L st := by
  obtain ⟨hd, rfl⟩ := hd
  refine Go.callG0 (len := 3) G c hS0 w5 w6 hf hl hcc hss (fun T vm0 locs X hZ hown e hK hpre => ?_) f
  obtain ⟨cq, kq, q1, q2, q3⟩ := isOf (s := K.s.setVm vm0) hZ e E
  exact X.virtualBackS G.1 hown (mvT hZ w1) (mvT hZ w2) (nf _ hZ) (mvT hZ w3) (mvT hZ w4) hy hK q1 q3 (g := mkF K.m pc L.toArray st) rfl (by rw [G.2.2.1]; simpa using hL) (Steps.refl _) (lenOf pd hln) hst (by show 2 * 0 + _ ≤ _; omega) (hb G.2.1 hd) hpre
/-- a private method, called on an object that is there -/
theorem Good.callP (G : Good Z a0 EL K own code maxL ret nm) (argsL : List Value) (hd : Dc code pc (.invokevirtual index) 3 pc') (w1 : (Cond.methodLink own index y).before a0 Z = true) (w2 : (Cond.instanceMethod y).before a0 Z = true) (w3 : (Cond.privateMethod y).before a0 Z = true) (w4 : (Cond.code y bytes maxL' ret').before a0 Z = true) (w5 : (Cond.initialized y.cls).before a0 Z = true) (nf : Nf Z y)
    (pd : parseMethodDescriptor y.desc = some ⟨ps, rr⟩) (E : Exa Z h a C) (c : Con K.l Z EL (nw.1, [], []) y bytes maxL' ret' [] rm (.ref a :: argsL).toArray h S0 Post') (hS0 : ∀ x ∈ S0, x ∈ S) (hst : st = argsL.reverse ++ .ref a :: rest) (hln : argsL.length = ps.length)
    (f : ∀ v h' S', Post' v h' S' → h.size ≤ h'.size → Go Z EL nw R Post K h' (S' ++ S) (k + rm.cells) (n + rm.slots) pc' L (v.toList ++ rest))
    (hy : y.cls ≠ "java/lang/invoke/MethodHandle" ∧ y.cls ≠ "java/lang/invoke/VarHandle") (hL : L.length = maxL) (hf : rm.frames + 1 ≤ R.frames) (hl : (rest.map fun v => v.category).sum + (maxL' + 11) + rm.locals ≤ R.locals) (hcc : k + rm.cells ≤ R.cells) (hss : n + rm.slots ≤ R.slots) : Go Z EL nw R Post K h S k n pc L st := by
  obtain ⟨hd, rfl⟩ := hd
  refine Go.callG0 (len := 3) G c hS0 w4 w5 hf hl hcc hss (fun T vm0 locs X hZ hown e hK hpre => ?_) f
  obtain ⟨cell, hcell, hobj⟩ := E.cell
  obtain ⟨mk, methM, hnamed, hmethM, hstM, habM⟩ := Cond.instanceMethod_spec (mvT (args := #[]) (s := K.s.setVm vm0) hZ w2)
  obtain ⟨methM', cM, hmethM', -, -, -, -, -, -, hsigM⟩ := Cond.code_spec hnamed (mvT (args := #[]) (s := K.s.setVm vm0) hZ w4)
  cases hmethM.symm.trans hmethM'
  obtain ⟨kP, hkP, hkPi⟩ := nf (K.s.setVm vm0) hZ mk hnamed
  have hpriv := Cond.privateMethod_at (mvP (args := #[]) (s := K.s.setVm vm0) hZ w3)
  have hselP : selectMethod K.e.platform (K.s.setVm vm0).vm cell.cls mk = .method mk := selectMethod_private hmethM (hpriv mk methM hnamed hmethM)
  obtain ⟨vm₁, X₁, hstep₁⟩ := X.invokevirtual G.1 hown (mvT hZ w1) hnamed hmethM hstM hkP hkPi hy (a := a) (cell := cell) (by rw [e]; exact hcell) hobj hselP hmethM habM hkP hkPi (g := mkF K.m pc L.toArray st) rfl (argsL := argsL) (rest := rest) (lenOf pd hln _ hsigM) hst (hb G.2.1 hd)
  obtain ⟨v, B, X', hS, hgr, hpost, hsteps⟩ := hK K.m K.meth K.c ⟨T.setVm vm₁, locs, k, n⟩ (mkF K.m pc L.toArray rest) (.invokevirtual index) mk (.ref a :: argsL).toArray X₁ rfl (by rw [G.2.2.1]; simpa using hL) (hb G.2.1 hd) (by show 2 * 0 + (rest.map fun v => v.category).sum ≤ _; omega) (X₁.named hnamed) (hpre vm₁ X₁.warmed)
  exact ⟨v, vm₁, B, X₁.warmed, X', hS, hgr, hpost, (hstep₁ _ fun acts => by rw [doInvoke_state]; exact Steps.refl _).trans hsteps⟩
theorem Good.callF (G : Good Z a0 EL K own code maxL ret nm) {count : Nat} (argsL : List Value) (hd : Dc code pc (.invokeinterface index count) 5 pc') (w1 : (Cond.methodLink own index y).before a0 Z = true) (w2 : (Cond.declares y).before a0 Z = true) (w3 : (Cond.interfaceMethod y.cls y.cls y.name y.desc).before a0 Z = true) (w4 : (Cond.selects C y z).before a0 Z = true) (w5 : (Cond.instanceMethod z).before a0 Z = true) (w6 : (Cond.publicMethod z).before a0 Z = true) (w7 : (Cond.unhidden C y.name y.desc).before a0 Z = true) (w8 : (Cond.castable C y.cls).before a0 Z = true) (w9 : (Cond.code z bytes maxL' ret').before a0 Z = true) (w10 : (Cond.initialized z.cls).before a0 Z = true)
    (pd : parseMethodDescriptor y.desc = some ⟨ps, rr⟩) (E : Exa Z h a C) (c : Con K.l Z EL (nw.1, [], []) z bytes maxL' ret' [] rm (.ref a :: argsL).toArray h S0 Post') (hS0 : ∀ x ∈ S0, x ∈ S) (hst : st = argsL.reverse ++ .ref a :: rest) (hln : argsL.length = ps.length)
    (f : ∀ v h' S', Post' v h' S' → h.size ≤ h'.size → Go Z EL nw R Post K h' (S' ++ S) (k + rm.cells) (n + rm.slots) pc' L (v.toList ++ rest))
    (hy : y.cls ≠ "java/lang/invoke/MethodHandle" ∧ y.cls ≠ "java/lang/invoke/VarHandle") (hL : L.length = maxL) (hf : rm.frames + 1 ≤ R.frames) (hl : (rest.map fun v => v.category).sum + (maxL' + 11) + rm.locals ≤ R.locals) (hcc : k + rm.cells ≤ R.cells) (hss : n + rm.slots ≤ R.slots) : Go Z EL nw R Post K h S k n pc L st := by
  obtain ⟨hd, rfl⟩ := hd
  refine Go.callG0 (len := 5) G c hS0 w9 w10 hf hl hcc hss (fun T vm0 locs X hZ hown e hK hpre => ?_) f
  obtain ⟨cq, kq, q1, q2, q3⟩ := isOf (s := K.s.setVm vm0) hZ e E
  exact X.interfaceBackS G.1 hown (mvT hZ w1) (mvT hZ w2) (mvT hZ w3 (by simp [Cond.onTables, Cond.keepsFace, Cond.keeps, Cond.steady, Cond.faceAtom, hy.1, hy.2])) (mvT hZ w4) (mvT hZ w5) (mvT hZ w6) (mvT hZ w7) (mvT hZ w8) hy hK q1 q2 q3 (g := mkF K.m pc L.toArray st) rfl (by rw [G.2.2.1]; simpa using hL) (Steps.refl _) (lenOf pd hln) hst (by show 2 * 0 + _ ≤ _; omega) (hb G.2.1 hd) hpre
/-- invokespecial of a method of the superclass -/
theorem Good.callU (G : Good Z a0 EL K own code maxL ret nm) (argsL : List Value) (hd : Dc code pc (.invokespecial index) 3 pc') (w1 : (Cond.methodLink own index y).before a0 Z = true) (nf : Nf Z y) (w3 : (Cond.instanceMethod y).before a0 Z = true) (w4 : (Cond.superclass own y.cls).before a0 Z = true) (w5 : (Cond.code y bytes maxL' ret').before a0 Z = true) (w6 : (Cond.initialized y.cls).before a0 Z = true)
    (pd : parseMethodDescriptor y.desc = some ⟨ps, rr⟩) (E : Exa Z h a C) (c : Con K.l Z EL (nw.1, [], []) y bytes maxL' ret' [] rm (.ref a :: argsL).toArray h S0 Post') (hS0 : ∀ x ∈ S0, x ∈ S) (hst : st = argsL.reverse ++ .ref a :: rest) (hln : argsL.length = ps.length)
    (f : ∀ v h' S', Post' v h' S' → h.size ≤ h'.size → Go Z EL nw R Post K h' (S' ++ S) (k + rm.cells) (n + rm.slots) pc' L (v.toList ++ rest))
    (hy1 : y.name ≠ "<init>") (hy : y.cls ≠ "java/lang/invoke/MethodHandle" ∧ y.cls ≠ "java/lang/invoke/VarHandle") (hL : L.length = maxL) (hf : rm.frames + 1 ≤ R.frames) (hl : (rest.map fun v => v.category).sum + (maxL' + 11) + rm.locals ≤ R.locals) (hcc : k + rm.cells ≤ R.cells) (hss : n + rm.slots ≤ R.slots) : Go Z EL nw R Post K h S k n pc L st := by
  obtain ⟨hd, rfl⟩ := hd
  refine Go.callG0 (len := 3) G c hS0 w5 w6 hf hl hcc hss (fun T vm0 locs X hZ hown e hK hpre => ?_) f
  exact superBackS X G.1 hZ hown w1 (same_of_nf nf w3 hy) w3 w4 hy1 hK e (Ins.self E) (g := mkF K.m pc L.toArray st) rfl (by rw [G.2.2.1]; simpa using hL) w5 (lenOf pd hln) hst (by show 2 * 0 + _ ≤ _; omega) (hb G.2.1 hd) hpre
theorem Good.callS0 (G : Good Z a0 EL K own code maxL ret nm) (hd : Dc code pc (.invokestatic index) 3 pc') (w1 : (Cond.methodLink own index y).before a0 Z = true) (w2 : (Cond.static y).before a0 Z = true) (w3 : (Cond.initialized y.cls).before a0 Z = true) (w4 : (Cond.code y bytes maxL' ret').before a0 Z = true) (pd : parseMethodDescriptor y.desc = some ⟨ps, rr⟩) (c : Con K.l Z EL (nw.1, [], []) y bytes maxL' ret' [] rm #[] h S0 Post') (hS0 : ∀ x ∈ S0, x ∈ S) (f : ∀ v h' S', Post' v h' S' → h.size ≤ h'.size → Go Z EL nw R Post K h' (S' ++ S) (k + rm.cells) (n + rm.slots) pc' L (v.toList ++ rest)) (hln : 0 = ps.length := by rfl) (hy : y.cls ≠ "java/lang/invoke/MethodHandle" ∧ y.cls ≠ "java/lang/invoke/VarHandle" := by decide) (hL : L.length = maxL := by rfl) (hf : rm.frames + 1 ≤ R.frames := by decide) (hl : (rest.map fun v => v.category).sum + (maxL' + 11) + rm.locals ≤ R.locals := by exact Nat.le_of_ble_eq_true rfl) (hcc : k + rm.cells ≤ R.cells := by decide) (hss : n + rm.slots ≤ R.slots := by decide) : Go Z EL nw R Post K h S k n pc L (rest) := G.callS [] hd w1 w2 w3 w4 pd c hS0 rfl hln f hy hL hf hl hcc hss
theorem Good.callS1 (G : Good Z a0 EL K own code maxL ret nm) {v1 : Value} (hd : Dc code pc (.invokestatic index) 3 pc') (w1 : (Cond.methodLink own index y).before a0 Z = true) (w2 : (Cond.static y).before a0 Z = true) (w3 : (Cond.initialized y.cls).before a0 Z = true) (w4 : (Cond.code y bytes maxL' ret').before a0 Z = true) (pd : parseMethodDescriptor y.desc = some ⟨ps, rr⟩) (c : Con K.l Z EL (nw.1, [], []) y bytes maxL' ret' [] rm #[v1] h S0 Post') (hS0 : ∀ x ∈ S0, x ∈ S) (f : ∀ v h' S', Post' v h' S' → h.size ≤ h'.size → Go Z EL nw R Post K h' (S' ++ S) (k + rm.cells) (n + rm.slots) pc' L (v.toList ++ rest)) (hln : 1 = ps.length := by rfl) (hy : y.cls ≠ "java/lang/invoke/MethodHandle" ∧ y.cls ≠ "java/lang/invoke/VarHandle" := by decide) (hL : L.length = maxL := by rfl) (hf : rm.frames + 1 ≤ R.frames := by decide) (hl : (rest.map fun v => v.category).sum + (maxL' + 11) + rm.locals ≤ R.locals := by exact Nat.le_of_ble_eq_true rfl) (hcc : k + rm.cells ≤ R.cells := by decide) (hss : n + rm.slots ≤ R.slots := by decide) : Go Z EL nw R Post K h S k n pc L (v1 :: rest) := G.callS [v1] hd w1 w2 w3 w4 pd c hS0 rfl hln f hy hL hf hl hcc hss
theorem Good.callS2 (G : Good Z a0 EL K own code maxL ret nm) {v1 v2 : Value} (hd : Dc code pc (.invokestatic index) 3 pc') (w1 : (Cond.methodLink own index y).before a0 Z = true) (w2 : (Cond.static y).before a0 Z = true) (w3 : (Cond.initialized y.cls).before a0 Z = true) (w4 : (Cond.code y bytes maxL' ret').before a0 Z = true) (pd : parseMethodDescriptor y.desc = some ⟨ps, rr⟩) (c : Con K.l Z EL (nw.1, [], []) y bytes maxL' ret' [] rm #[v1, v2] h S0 Post') (hS0 : ∀ x ∈ S0, x ∈ S) (f : ∀ v h' S', Post' v h' S' → h.size ≤ h'.size → Go Z EL nw R Post K h' (S' ++ S) (k + rm.cells) (n + rm.slots) pc' L (v.toList ++ rest)) (hln : 2 = ps.length := by rfl) (hy : y.cls ≠ "java/lang/invoke/MethodHandle" ∧ y.cls ≠ "java/lang/invoke/VarHandle" := by decide) (hL : L.length = maxL := by rfl) (hf : rm.frames + 1 ≤ R.frames := by decide) (hl : (rest.map fun v => v.category).sum + (maxL' + 11) + rm.locals ≤ R.locals := by exact Nat.le_of_ble_eq_true rfl) (hcc : k + rm.cells ≤ R.cells := by decide) (hss : n + rm.slots ≤ R.slots := by decide) : Go Z EL nw R Post K h S k n pc L (v2 :: v1 :: rest) := G.callS [v1, v2] hd w1 w2 w3 w4 pd c hS0 rfl hln f hy hL hf hl hcc hss
theorem Good.callS3 (G : Good Z a0 EL K own code maxL ret nm) {v1 v2 v3 : Value} (hd : Dc code pc (.invokestatic index) 3 pc') (w1 : (Cond.methodLink own index y).before a0 Z = true) (w2 : (Cond.static y).before a0 Z = true) (w3 : (Cond.initialized y.cls).before a0 Z = true) (w4 : (Cond.code y bytes maxL' ret').before a0 Z = true) (pd : parseMethodDescriptor y.desc = some ⟨ps, rr⟩) (c : Con K.l Z EL (nw.1, [], []) y bytes maxL' ret' [] rm #[v1, v2, v3] h S0 Post') (hS0 : ∀ x ∈ S0, x ∈ S) (f : ∀ v h' S', Post' v h' S' → h.size ≤ h'.size → Go Z EL nw R Post K h' (S' ++ S) (k + rm.cells) (n + rm.slots) pc' L (v.toList ++ rest)) (hln : 3 = ps.length := by rfl) (hy : y.cls ≠ "java/lang/invoke/MethodHandle" ∧ y.cls ≠ "java/lang/invoke/VarHandle" := by decide) (hL : L.length = maxL := by rfl) (hf : rm.frames + 1 ≤ R.frames := by decide) (hl : (rest.map fun v => v.category).sum + (maxL' + 11) + rm.locals ≤ R.locals := by exact Nat.le_of_ble_eq_true rfl) (hcc : k + rm.cells ≤ R.cells := by decide) (hss : n + rm.slots ≤ R.slots := by decide) : Go Z EL nw R Post K h S k n pc L (v3 :: v2 :: v1 :: rest) := G.callS [v1, v2, v3] hd w1 w2 w3 w4 pd c hS0 rfl hln f hy hL hf hl hcc hss
theorem Good.callS4 (G : Good Z a0 EL K own code maxL ret nm) {v1 v2 v3 v4 : Value} (hd : Dc code pc (.invokestatic index) 3 pc') (w1 : (Cond.methodLink own index y).before a0 Z = true) (w2 : (Cond.static y).before a0 Z = true) (w3 : (Cond.initialized y.cls).before a0 Z = true) (w4 : (Cond.code y bytes maxL' ret').before a0 Z = true) (pd : parseMethodDescriptor y.desc = some ⟨ps, rr⟩) (c : Con K.l Z EL (nw.1, [], []) y bytes maxL' ret' [] rm #[v1, v2, v3, v4] h S0 Post') (hS0 : ∀ x ∈ S0, x ∈ S) (f : ∀ v h' S', Post' v h' S' → h.size ≤ h'.size → Go Z EL nw R Post K h' (S' ++ S) (k + rm.cells) (n + rm.slots) pc' L (v.toList ++ rest)) (hln : 4 = ps.length := by rfl) (hy : y.cls ≠ "java/lang/invoke/MethodHandle" ∧ y.cls ≠ "java/lang/invoke/VarHandle" := by decide) (hL : L.length = maxL := by rfl) (hf : rm.frames + 1 ≤ R.frames := by decide) (hl : (rest.map fun v => v.category).sum + (maxL' + 11) + rm.locals ≤ R.locals := by exact Nat.le_of_ble_eq_true rfl) (hcc : k + rm.cells ≤ R.cells := by decide) (hss : n + rm.slots ≤ R.slots := by decide) : Go Z EL nw R Post K h S k n pc L (v4 :: v3 :: v2 :: v1 :: rest) := G.callS [v1, v2, v3, v4] hd w1 w2 w3 w4 pd c hS0 rfl hln f hy hL hf hl hcc hss
theorem Good.callS5 (G : Good Z a0 EL K own code maxL ret nm) {v1 v2 v3 v4 v5 : Value} (hd : Dc code pc (.invokestatic index) 3 pc') (w1 : (Cond.methodLink own index y).before a0 Z = true) (w2 : (Cond.static y).before a0 Z = true) (w3 : (Cond.initialized y.cls).before a0 Z = true) (w4 : (Cond.code y bytes maxL' ret').before a0 Z = true) (pd : parseMethodDescriptor y.desc = some ⟨ps, rr⟩) (c : Con K.l Z EL (nw.1, [], []) y bytes maxL' ret' [] rm #[v1, v2, v3, v4, v5] h S0 Post') (hS0 : ∀ x ∈ S0, x ∈ S) (f : ∀ v h' S', Post' v h' S' → h.size ≤ h'.size → Go Z EL nw R Post K h' (S' ++ S) (k + rm.cells) (n + rm.slots) pc' L (v.toList ++ rest)) (hln : 5 = ps.length := by rfl) (hy : y.cls ≠ "java/lang/invoke/MethodHandle" ∧ y.cls ≠ "java/lang/invoke/VarHandle" := by decide) (hL : L.length = maxL := by rfl) (hf : rm.frames + 1 ≤ R.frames := by decide) (hl : (rest.map fun v => v.category).sum + (maxL' + 11) + rm.locals ≤ R.locals := by exact Nat.le_of_ble_eq_true rfl) (hcc : k + rm.cells ≤ R.cells := by decide) (hss : n + rm.slots ≤ R.slots := by decide) : Go Z EL nw R Post K h S k n pc L (v5 :: v4 :: v3 :: v2 :: v1 :: rest) := G.callS [v1, v2, v3, v4, v5] hd w1 w2 w3 w4 pd c hS0 rfl hln f hy hL hf hl hcc hss
theorem Good.callS6 (G : Good Z a0 EL K own code maxL ret nm) {v1 v2 v3 v4 v5 v6 : Value} (hd : Dc code pc (.invokestatic index) 3 pc') (w1 : (Cond.methodLink own index y).before a0 Z = true) (w2 : (Cond.static y).before a0 Z = true) (w3 : (Cond.initialized y.cls).before a0 Z = true) (w4 : (Cond.code y bytes maxL' ret').before a0 Z = true) (pd : parseMethodDescriptor y.desc = some ⟨ps, rr⟩) (c : Con K.l Z EL (nw.1, [], []) y bytes maxL' ret' [] rm #[v1, v2, v3, v4, v5, v6] h S0 Post') (hS0 : ∀ x ∈ S0, x ∈ S) (f : ∀ v h' S', Post' v h' S' → h.size ≤ h'.size → Go Z EL nw R Post K h' (S' ++ S) (k + rm.cells) (n + rm.slots) pc' L (v.toList ++ rest)) (hln : 6 = ps.length := by rfl) (hy : y.cls ≠ "java/lang/invoke/MethodHandle" ∧ y.cls ≠ "java/lang/invoke/VarHandle" := by decide) (hL : L.length = maxL := by rfl) (hf : rm.frames + 1 ≤ R.frames := by decide) (hl : (rest.map fun v => v.category).sum + (maxL' + 11) + rm.locals ≤ R.locals := by exact Nat.le_of_ble_eq_true rfl) (hcc : k + rm.cells ≤ R.cells := by decide) (hss : n + rm.slots ≤ R.slots := by decide) : Go Z EL nw R Post K h S k n pc L (v6 :: v5 :: v4 :: v3 :: v2 :: v1 :: rest) := G.callS [v1, v2, v3, v4, v5, v6] hd w1 w2 w3 w4 pd c hS0 rfl hln f hy hL hf hl hcc hss
theorem Good.callS7 (G : Good Z a0 EL K own code maxL ret nm) {v1 v2 v3 v4 v5 v6 v7 : Value} (hd : Dc code pc (.invokestatic index) 3 pc') (w1 : (Cond.methodLink own index y).before a0 Z = true) (w2 : (Cond.static y).before a0 Z = true) (w3 : (Cond.initialized y.cls).before a0 Z = true) (w4 : (Cond.code y bytes maxL' ret').before a0 Z = true) (pd : parseMethodDescriptor y.desc = some ⟨ps, rr⟩) (c : Con K.l Z EL (nw.1, [], []) y bytes maxL' ret' [] rm #[v1, v2, v3, v4, v5, v6, v7] h S0 Post') (hS0 : ∀ x ∈ S0, x ∈ S) (f : ∀ v h' S', Post' v h' S' → h.size ≤ h'.size → Go Z EL nw R Post K h' (S' ++ S) (k + rm.cells) (n + rm.slots) pc' L (v.toList ++ rest)) (hln : 7 = ps.length := by rfl) (hy : y.cls ≠ "java/lang/invoke/MethodHandle" ∧ y.cls ≠ "java/lang/invoke/VarHandle" := by decide) (hL : L.length = maxL := by rfl) (hf : rm.frames + 1 ≤ R.frames := by decide) (hl : (rest.map fun v => v.category).sum + (maxL' + 11) + rm.locals ≤ R.locals := by exact Nat.le_of_ble_eq_true rfl) (hcc : k + rm.cells ≤ R.cells := by decide) (hss : n + rm.slots ≤ R.slots := by decide) : Go Z EL nw R Post K h S k n pc L (v7 :: v6 :: v5 :: v4 :: v3 :: v2 :: v1 :: rest) := G.callS [v1, v2, v3, v4, v5, v6, v7] hd w1 w2 w3 w4 pd c hS0 rfl hln f hy hL hf hl hcc hss
theorem Good.callI0 (G : Good Z a0 EL K own code maxL ret nm) (hd : Dc code pc (.invokespecial index) 3 pc') (w1 : (Cond.methodLink own index y).before a0 Z = true) (w2 : (Cond.instanceMethod y).before a0 Z = true) (w3 : (Cond.initialized y.cls).before a0 Z = true) (w4 : (Cond.code y bytes maxL' none).before a0 Z = true) (pd : parseMethodDescriptor y.desc = some ⟨ps, rr⟩) (c : Con K.l Z EL (nw.1, [], []) y bytes maxL' none [] rm #[.ref a] h S0 Post') (hS0 : ∀ x ∈ S0, x ∈ S) (f : ∀ v h' S', Post' v h' S' → h.size ≤ h'.size → Go Z EL nw R Post K h' (S' ++ S) (k + rm.cells) (n + rm.slots) pc' L (v.toList ++ rest)) (hy1 : y.name = "<init>" := by rfl) (hln : 0 = ps.length := by rfl) (hy : y.cls ≠ "java/lang/invoke/MethodHandle" ∧ y.cls ≠ "java/lang/invoke/VarHandle" := by decide) (hL : L.length = maxL := by rfl) (hf : rm.frames + 1 ≤ R.frames := by decide) (hl : (rest.map fun v => v.category).sum + (maxL' + 11) + rm.locals ≤ R.locals := by exact Nat.le_of_ble_eq_true rfl) (hcc : k + rm.cells ≤ R.cells := by decide) (hss : n + rm.slots ≤ R.slots := by decide) : Go Z EL nw R Post K h S k n pc L (.ref a :: rest) := G.callI [] hd w1 w2 w3 w4 pd c hS0 rfl hln f hy1 hy hL hf hl hcc hss
theorem Good.callV0 (G : Good Z a0 EL K own code maxL ret nm) (hd : Dc code pc (.invokevirtual index) 3 pc') (w1 : (Cond.methodLink own index y).before a0 Z = true) (w2 : (Cond.declares y).before a0 Z = true) (w3 : (Cond.selects C y y).before a0 Z = true) (w4 : (Cond.instanceMethod y).before a0 Z = true) (w5 : (Cond.code y bytes maxL' ret').before a0 Z = true) (w6 : (Cond.initialized y.cls).before a0 Z = true) (pd : parseMethodDescriptor y.desc = some ⟨ps, rr⟩) (E : Exa Z h a C) (c : Con K.l Z EL (nw.1, [], []) y bytes maxL' ret' [] rm #[.ref a] h S0 Post') (hS0 : ∀ x ∈ S0, x ∈ S) (f : ∀ v h' S', Post' v h' S' → h.size ≤ h'.size → Go Z EL nw R Post K h' (S' ++ S) (k + rm.cells) (n + rm.slots) pc' L (v.toList ++ rest)) (hln : 0 = ps.length := by rfl) (hy : y.cls ≠ "java/lang/invoke/MethodHandle" ∧ y.cls ≠ "java/lang/invoke/VarHandle" := by decide) (hL : L.length = maxL := by rfl) (hf : rm.frames + 1 ≤ R.frames := by decide) (hl : (rest.map fun v => v.category).sum + (maxL' + 11) + rm.locals ≤ R.locals := by exact Nat.le_of_ble_eq_true rfl) (hcc : k + rm.cells ≤ R.cells := by decide) (hss : n + rm.slots ≤ R.slots := by decide) : Go Z EL nw R Post K h S k n pc L (.ref a :: rest) := G.callV (Nf.sel w3) [] hd w1 w2 w3 w4 w5 w6 pd E c hS0 rfl hln f hy hL hf hl hcc hss
theorem Good.callW0 (G : Good Z a0 EL K own code maxL ret nm) (nf : Nf Z y) (hd : Dc code pc (.invokevirtual index) 3 pc') (w1 : (Cond.methodLink own index y).before a0 Z = true) (w2 : (Cond.declares y).before a0 Z = true) (w3 : (Cond.selects C y z).before a0 Z = true) (w4 : (Cond.instanceMethod z).before a0 Z = true) (w5 : (Cond.code z bytes maxL' ret').before a0 Z = true) (w6 : (Cond.initialized z.cls).before a0 Z = true) (pd : parseMethodDescriptor y.desc = some ⟨ps, rr⟩) (E : Exa Z h a C) (c : Con K.l Z EL (nw.1, [], []) z bytes maxL' ret' [] rm #[.ref a] h S0 Post') (hS0 : ∀ x ∈ S0, x ∈ S) (f : ∀ v h' S', Post' v h' S' → h.size ≤ h'.size → Go Z EL nw R Post K h' (S' ++ S) (k + rm.cells) (n + rm.slots) pc' L (v.toList ++ rest)) (hln : 0 = ps.length := by rfl) (hy : y.cls ≠ "java/lang/invoke/MethodHandle" ∧ y.cls ≠ "java/lang/invoke/VarHandle" := by decide) (hL : L.length = maxL := by rfl) (hf : rm.frames + 1 ≤ R.frames := by decide) (hl : (rest.map fun v => v.category).sum + (maxL' + 11) + rm.locals ≤ R.locals := by exact Nat.le_of_ble_eq_true rfl) (hcc : k + rm.cells ≤ R.cells := by decide) (hss : n + rm.slots ≤ R.slots := by decide) : Go Z EL nw R Post K h S k n pc L (.ref a :: rest) := G.callV nf [] hd w1 w2 w3 w4 w5 w6 pd E c hS0 rfl hln f hy hL hf hl hcc hss
theorem Good.callP0 (G : Good Z a0 EL K own code maxL ret nm) (hd : Dc code pc (.invokevirtual index) 3 pc') (w1 : (Cond.methodLink own index y).before a0 Z = true) (w2 : (Cond.instanceMethod y).before a0 Z = true) (w3 : (Cond.privateMethod y).before a0 Z = true) (w4 : (Cond.code y bytes maxL' ret').before a0 Z = true) (w5 : (Cond.initialized y.cls).before a0 Z = true) (nf : Nf Z y) (pd : parseMethodDescriptor y.desc = some ⟨ps, rr⟩) (E : Exa Z h a C) (c : Con K.l Z EL (nw.1, [], []) y bytes maxL' ret' [] rm #[.ref a] h S0 Post') (hS0 : ∀ x ∈ S0, x ∈ S) (f : ∀ v h' S', Post' v h' S' → h.size ≤ h'.size → Go Z EL nw R Post K h' (S' ++ S) (k + rm.cells) (n + rm.slots) pc' L (v.toList ++ rest)) (hln : 0 = ps.length := by rfl) (hy : y.cls ≠ "java/lang/invoke/MethodHandle" ∧ y.cls ≠ "java/lang/invoke/VarHandle" := by decide) (hL : L.length = maxL := by rfl) (hf : rm.frames + 1 ≤ R.frames := by decide) (hl : (rest.map fun v => v.category).sum + (maxL' + 11) + rm.locals ≤ R.locals := by exact Nat.le_of_ble_eq_true rfl) (hcc : k + rm.cells ≤ R.cells := by decide) (hss : n + rm.slots ≤ R.slots := by decide) : Go Z EL nw R Post K h S k n pc L (.ref a :: rest) := G.callP [] hd w1 w2 w3 w4 w5 nf pd E c hS0 rfl hln f hy hL hf hl hcc hss
theorem Good.callF0 (G : Good Z a0 EL K own code maxL ret nm) {count : Nat} (hd : Dc code pc (.invokeinterface index count) 5 pc') (w1 : (Cond.methodLink own index y).before a0 Z = true) (w2 : (Cond.declares y).before a0 Z = true) (w3 : (Cond.interfaceMethod y.cls y.cls y.name y.desc).before a0 Z = true) (w4 : (Cond.selects C y z).before a0 Z = true) (w5 : (Cond.instanceMethod z).before a0 Z = true) (w6 : (Cond.publicMethod z).before a0 Z = true) (w7 : (Cond.unhidden C y.name y.desc).before a0 Z = true) (w8 : (Cond.castable C y.cls).before a0 Z = true) (w9 : (Cond.code z bytes maxL' ret').before a0 Z = true) (w10 : (Cond.initialized z.cls).before a0 Z = true) (pd : parseMethodDescriptor y.desc = some ⟨ps, rr⟩) (E : Exa Z h a C) (c : Con K.l Z EL (nw.1, [], []) z bytes maxL' ret' [] rm #[.ref a] h S0 Post') (hS0 : ∀ x ∈ S0, x ∈ S) (f : ∀ v h' S', Post' v h' S' → h.size ≤ h'.size → Go Z EL nw R Post K h' (S' ++ S) (k + rm.cells) (n + rm.slots) pc' L (v.toList ++ rest)) (hln : 0 = ps.length := by rfl) (hy : y.cls ≠ "java/lang/invoke/MethodHandle" ∧ y.cls ≠ "java/lang/invoke/VarHandle" := by decide) (hL : L.length = maxL := by rfl) (hf : rm.frames + 1 ≤ R.frames := by decide) (hl : (rest.map fun v => v.category).sum + (maxL' + 11) + rm.locals ≤ R.locals := by exact Nat.le_of_ble_eq_true rfl) (hcc : k + rm.cells ≤ R.cells := by decide) (hss : n + rm.slots ≤ R.slots := by decide) : Go Z EL nw R Post K h S k n pc L (.ref a :: rest) := G.callF [] hd w1 w2 w3 w4 w5 w6 w7 w8 w9 w10 pd E c hS0 rfl hln f hy hL hf hl hcc hss
theorem Good.callI1 (G : Good Z a0 EL K own code maxL ret nm) {v1 : Value} (hd : Dc code pc (.invokespecial index) 3 pc') (w1 : (Cond.methodLink own index y).before a0 Z = true) (w2 : (Cond.instanceMethod y).before a0 Z = true) (w3 : (Cond.initialized y.cls).before a0 Z = true) (w4 : (Cond.code y bytes maxL' none).before a0 Z = true) (pd : parseMethodDescriptor y.desc = some ⟨ps, rr⟩) (c : Con K.l Z EL (nw.1, [], []) y bytes maxL' none [] rm #[.ref a, v1] h S0 Post') (hS0 : ∀ x ∈ S0, x ∈ S) (f : ∀ v h' S', Post' v h' S' → h.size ≤ h'.size → Go Z EL nw R Post K h' (S' ++ S) (k + rm.cells) (n + rm.slots) pc' L (v.toList ++ rest)) (hy1 : y.name = "<init>" := by rfl) (hln : 1 = ps.length := by rfl) (hy : y.cls ≠ "java/lang/invoke/MethodHandle" ∧ y.cls ≠ "java/lang/invoke/VarHandle" := by decide) (hL : L.length = maxL := by rfl) (hf : rm.frames + 1 ≤ R.frames := by decide) (hl : (rest.map fun v => v.category).sum + (maxL' + 11) + rm.locals ≤ R.locals := by exact Nat.le_of_ble_eq_true rfl) (hcc : k + rm.cells ≤ R.cells := by decide) (hss : n + rm.slots ≤ R.slots := by decide) : Go Z EL nw R Post K h S k n pc L (v1 :: .ref a :: rest) := G.callI [v1] hd w1 w2 w3 w4 pd c hS0 rfl hln f hy1 hy hL hf hl hcc hss
theorem Good.callV1 (G : Good Z a0 EL K own code maxL ret nm) {v1 : Value} (hd : Dc code pc (.invokevirtual index) 3 pc') (w1 : (Cond.methodLink own index y).before a0 Z = true) (w2 : (Cond.declares y).before a0 Z = true) (w3 : (Cond.selects C y y).before a0 Z = true) (w4 : (Cond.instanceMethod y).before a0 Z = true) (w5 : (Cond.code y bytes maxL' ret').before a0 Z = true) (w6 : (Cond.initialized y.cls).before a0 Z = true) (pd : parseMethodDescriptor y.desc = some ⟨ps, rr⟩) (E : Exa Z h a C) (c : Con K.l Z EL (nw.1, [], []) y bytes maxL' ret' [] rm #[.ref a, v1] h S0 Post') (hS0 : ∀ x ∈ S0, x ∈ S) (f : ∀ v h' S', Post' v h' S' → h.size ≤ h'.size → Go Z EL nw R Post K h' (S' ++ S) (k + rm.cells) (n + rm.slots) pc' L (v.toList ++ rest)) (hln : 1 = ps.length := by rfl) (hy : y.cls ≠ "java/lang/invoke/MethodHandle" ∧ y.cls ≠ "java/lang/invoke/VarHandle" := by decide) (hL : L.length = maxL := by rfl) (hf : rm.frames + 1 ≤ R.frames := by decide) (hl : (rest.map fun v => v.category).sum + (maxL' + 11) + rm.locals ≤ R.locals := by exact Nat.le_of_ble_eq_true rfl) (hcc : k + rm.cells ≤ R.cells := by decide) (hss : n + rm.slots ≤ R.slots := by decide) : Go Z EL nw R Post K h S k n pc L (v1 :: .ref a :: rest) := G.callV (Nf.sel w3) [v1] hd w1 w2 w3 w4 w5 w6 pd E c hS0 rfl hln f hy hL hf hl hcc hss
theorem Good.callW1 (G : Good Z a0 EL K own code maxL ret nm) (nf : Nf Z y) {v1 : Value} (hd : Dc code pc (.invokevirtual index) 3 pc') (w1 : (Cond.methodLink own index y).before a0 Z = true) (w2 : (Cond.declares y).before a0 Z = true) (w3 : (Cond.selects C y z).before a0 Z = true) (w4 : (Cond.instanceMethod z).before a0 Z = true) (w5 : (Cond.code z bytes maxL' ret').before a0 Z = true) (w6 : (Cond.initialized z.cls).before a0 Z = true) (pd : parseMethodDescriptor y.desc = some ⟨ps, rr⟩) (E : Exa Z h a C) (c : Con K.l Z EL (nw.1, [], []) z bytes maxL' ret' [] rm #[.ref a, v1] h S0 Post') (hS0 : ∀ x ∈ S0, x ∈ S) (f : ∀ v h' S', Post' v h' S' → h.size ≤ h'.size → Go Z EL nw R Post K h' (S' ++ S) (k + rm.cells) (n + rm.slots) pc' L (v.toList ++ rest)) (hln : 1 = ps.length := by rfl) (hy : y.cls ≠ "java/lang/invoke/MethodHandle" ∧ y.cls ≠ "java/lang/invoke/VarHandle" := by decide) (hL : L.length = maxL := by rfl) (hf : rm.frames + 1 ≤ R.frames := by decide) (hl : (rest.map fun v => v.category).sum + (maxL' + 11) + rm.locals ≤ R.locals := by exact Nat.le_of_ble_eq_true rfl) (hcc : k + rm.cells ≤ R.cells := by decide) (hss : n + rm.slots ≤ R.slots := by decide) : Go Z EL nw R Post K h S k n pc L (v1 :: .ref a :: rest) := G.callV nf [v1] hd w1 w2 w3 w4 w5 w6 pd E c hS0 rfl hln f hy hL hf hl hcc hss
theorem Good.callP1 (G : Good Z a0 EL K own code maxL ret nm) {v1 : Value} (hd : Dc code pc (.invokevirtual index) 3 pc') (w1 : (Cond.methodLink own index y).before a0 Z = true) (w2 : (Cond.instanceMethod y).before a0 Z = true) (w3 : (Cond.privateMethod y).before a0 Z = true) (w4 : (Cond.code y bytes maxL' ret').before a0 Z = true) (w5 : (Cond.initialized y.cls).before a0 Z = true) (nf : Nf Z y) (pd : parseMethodDescriptor y.desc = some ⟨ps, rr⟩) (E : Exa Z h a C) (c : Con K.l Z EL (nw.1, [], []) y bytes maxL' ret' [] rm #[.ref a, v1] h S0 Post') (hS0 : ∀ x ∈ S0, x ∈ S) (f : ∀ v h' S', Post' v h' S' → h.size ≤ h'.size → Go Z EL nw R Post K h' (S' ++ S) (k + rm.cells) (n + rm.slots) pc' L (v.toList ++ rest)) (hln : 1 = ps.length := by rfl) (hy : y.cls ≠ "java/lang/invoke/MethodHandle" ∧ y.cls ≠ "java/lang/invoke/VarHandle" := by decide) (hL : L.length = maxL := by rfl) (hf : rm.frames + 1 ≤ R.frames := by decide) (hl : (rest.map fun v => v.category).sum + (maxL' + 11) + rm.locals ≤ R.locals := by exact Nat.le_of_ble_eq_true rfl) (hcc : k + rm.cells ≤ R.cells := by decide) (hss : n + rm.slots ≤ R.slots := by decide) : Go Z EL nw R Post K h S k n pc L (v1 :: .ref a :: rest) := G.callP [v1] hd w1 w2 w3 w4 w5 nf pd E c hS0 rfl hln f hy hL hf hl hcc hss
theorem Good.callF1 (G : Good Z a0 EL K own code maxL ret nm) {count : Nat} {v1 : Value} (hd : Dc code pc (.invokeinterface index count) 5 pc') (w1 : (Cond.methodLink own index y).before a0 Z = true) (w2 : (Cond.declares y).before a0 Z = true) (w3 : (Cond.interfaceMethod y.cls y.cls y.name y.desc).before a0 Z = true) (w4 : (Cond.selects C y z).before a0 Z = true) (w5 : (Cond.instanceMethod z).before a0 Z = true) (w6 : (Cond.publicMethod z).before a0 Z = true) (w7 : (Cond.unhidden C y.name y.desc).before a0 Z = true) (w8 : (Cond.castable C y.cls).before a0 Z = true) (w9 : (Cond.code z bytes maxL' ret').before a0 Z = true) (w10 : (Cond.initialized z.cls).before a0 Z = true) (pd : parseMethodDescriptor y.desc = some ⟨ps, rr⟩) (E : Exa Z h a C) (c : Con K.l Z EL (nw.1, [], []) z bytes maxL' ret' [] rm #[.ref a, v1] h S0 Post') (hS0 : ∀ x ∈ S0, x ∈ S) (f : ∀ v h' S', Post' v h' S' → h.size ≤ h'.size → Go Z EL nw R Post K h' (S' ++ S) (k + rm.cells) (n + rm.slots) pc' L (v.toList ++ rest)) (hln : 1 = ps.length := by rfl) (hy : y.cls ≠ "java/lang/invoke/MethodHandle" ∧ y.cls ≠ "java/lang/invoke/VarHandle" := by decide) (hL : L.length = maxL := by rfl) (hf : rm.frames + 1 ≤ R.frames := by decide) (hl : (rest.map fun v => v.category).sum + (maxL' + 11) + rm.locals ≤ R.locals := by exact Nat.le_of_ble_eq_true rfl) (hcc : k + rm.cells ≤ R.cells := by decide) (hss : n + rm.slots ≤ R.slots := by decide) : Go Z EL nw R Post K h S k n pc L (v1 :: .ref a :: rest) := G.callF [v1] hd w1 w2 w3 w4 w5 w6 w7 w8 w9 w10 pd E c hS0 rfl hln f hy hL hf hl hcc hss
theorem Good.callI2 (G : Good Z a0 EL K own code maxL ret nm) {v1 v2 : Value} (hd : Dc code pc (.invokespecial index) 3 pc') (w1 : (Cond.methodLink own index y).before a0 Z = true) (w2 : (Cond.instanceMethod y).before a0 Z = true) (w3 : (Cond.initialized y.cls).before a0 Z = true) (w4 : (Cond.code y bytes maxL' none).before a0 Z = true) (pd : parseMethodDescriptor y.desc = some ⟨ps, rr⟩) (c : Con K.l Z EL (nw.1, [], []) y bytes maxL' none [] rm #[.ref a, v1, v2] h S0 Post') (hS0 : ∀ x ∈ S0, x ∈ S) (f : ∀ v h' S', Post' v h' S' → h.size ≤ h'.size → Go Z EL nw R Post K h' (S' ++ S) (k + rm.cells) (n + rm.slots) pc' L (v.toList ++ rest)) (hy1 : y.name = "<init>" := by rfl) (hln : 2 = ps.length := by rfl) (hy : y.cls ≠ "java/lang/invoke/MethodHandle" ∧ y.cls ≠ "java/lang/invoke/VarHandle" := by decide) (hL : L.length = maxL := by rfl) (hf : rm.frames + 1 ≤ R.frames := by decide) (hl : (rest.map fun v => v.category).sum + (maxL' + 11) + rm.locals ≤ R.locals := by exact Nat.le_of_ble_eq_true rfl) (hcc : k + rm.cells ≤ R.cells := by decide) (hss : n + rm.slots ≤ R.slots := by decide) : Go Z EL nw R Post K h S k n pc L (v2 :: v1 :: .ref a :: rest) := G.callI [v1, v2] hd w1 w2 w3 w4 pd c hS0 rfl hln f hy1 hy hL hf hl hcc hss
theorem Good.callV2 (G : Good Z a0 EL K own code maxL ret nm) {v1 v2 : Value} (hd : Dc code pc (.invokevirtual index) 3 pc') (w1 : (Cond.methodLink own index y).before a0 Z = true) (w2 : (Cond.declares y).before a0 Z = true) (w3 : (Cond.selects C y y).before a0 Z = true) (w4 : (Cond.instanceMethod y).before a0 Z = true) (w5 : (Cond.code y bytes maxL' ret').before a0 Z = true) (w6 : (Cond.initialized y.cls).before a0 Z = true) (pd : parseMethodDescriptor y.desc = some ⟨ps, rr⟩) (E : Exa Z h a C) (c : Con K.l Z EL (nw.1, [], []) y bytes maxL' ret' [] rm #[.ref a, v1, v2] h S0 Post') (hS0 : ∀ x ∈ S0, x ∈ S) (f : ∀ v h' S', Post' v h' S' → h.size ≤ h'.size → Go Z EL nw R Post K h' (S' ++ S) (k + rm.cells) (n + rm.slots) pc' L (v.toList ++ rest)) (hln : 2 = ps.length := by rfl) (hy : y.cls ≠ "java/lang/invoke/MethodHandle" ∧ y.cls ≠ "java/lang/invoke/VarHandle" := by decide) (hL : L.length = maxL := by rfl) (hf : rm.frames + 1 ≤ R.frames := by decide) (hl : (rest.map fun v => v.category).sum + (maxL' + 11) + rm.locals ≤ R.locals := by exact Nat.le_of_ble_eq_true rfl) (hcc : k + rm.cells ≤ R.cells := by decide) (hss : n + rm.slots ≤ R.slots := by decide) : Go Z EL nw R Post K h S k n pc L (v2 :: v1 :: .ref a :: rest) := G.callV (Nf.sel w3) [v1, v2] hd w1 w2 w3 w4 w5 w6 pd E c hS0 rfl hln f hy hL hf hl hcc hss
theorem Good.callW2 (G : Good Z a0 EL K own code maxL ret nm) (nf : Nf Z y) {v1 v2 : Value} (hd : Dc code pc (.invokevirtual index) 3 pc') (w1 : (Cond.methodLink own index y).before a0 Z = true) (w2 : (Cond.declares y).before a0 Z = true) (w3 : (Cond.selects C y z).before a0 Z = true) (w4 : (Cond.instanceMethod z).before a0 Z = true) (w5 : (Cond.code z bytes maxL' ret').before a0 Z = true) (w6 : (Cond.initialized z.cls).before a0 Z = true) (pd : parseMethodDescriptor y.desc = some ⟨ps, rr⟩) (E : Exa Z h a C) (c : Con K.l Z EL (nw.1, [], []) z bytes maxL' ret' [] rm #[.ref a, v1, v2] h S0 Post') (hS0 : ∀ x ∈ S0, x ∈ S) (f : ∀ v h' S', Post' v h' S' → h.size ≤ h'.size → Go Z EL nw R Post K h' (S' ++ S) (k + rm.cells) (n + rm.slots) pc' L (v.toList ++ rest)) (hln : 2 = ps.length := by rfl) (hy : y.cls ≠ "java/lang/invoke/MethodHandle" ∧ y.cls ≠ "java/lang/invoke/VarHandle" := by decide) (hL : L.length = maxL := by rfl) (hf : rm.frames + 1 ≤ R.frames := by decide) (hl : (rest.map fun v => v.category).sum + (maxL' + 11) + rm.locals ≤ R.locals := by exact Nat.le_of_ble_eq_true rfl) (hcc : k + rm.cells ≤ R.cells := by decide) (hss : n + rm.slots ≤ R.slots := by decide) : Go Z EL nw R Post K h S k n pc L (v2 :: v1 :: .ref a :: rest) := G.callV nf [v1, v2] hd w1 w2 w3 w4 w5 w6 pd E c hS0 rfl hln f hy hL hf hl hcc hss
theorem Good.callP2 (G : Good Z a0 EL K own code maxL ret nm) {v1 v2 : Value} (hd : Dc code pc (.invokevirtual index) 3 pc') (w1 : (Cond.methodLink own index y).before a0 Z = true) (w2 : (Cond.instanceMethod y).before a0 Z = true) (w3 : (Cond.privateMethod y).before a0 Z = true) (w4 : (Cond.code y bytes maxL' ret').before a0 Z = true) (w5 : (Cond.initialized y.cls).before a0 Z = true) (nf : Nf Z y) (pd : parseMethodDescriptor y.desc = some ⟨ps, rr⟩) (E : Exa Z h a C) (c : Con K.l Z EL (nw.1, [], []) y bytes maxL' ret' [] rm #[.ref a, v1, v2] h S0 Post') (hS0 : ∀ x ∈ S0, x ∈ S) (f : ∀ v h' S', Post' v h' S' → h.size ≤ h'.size → Go Z EL nw R Post K h' (S' ++ S) (k + rm.cells) (n + rm.slots) pc' L (v.toList ++ rest)) (hln : 2 = ps.length := by rfl) (hy : y.cls ≠ "java/lang/invoke/MethodHandle" ∧ y.cls ≠ "java/lang/invoke/VarHandle" := by decide) (hL : L.length = maxL := by rfl) (hf : rm.frames + 1 ≤ R.frames := by decide) (hl : (rest.map fun v => v.category).sum + (maxL' + 11) + rm.locals ≤ R.locals := by exact Nat.le_of_ble_eq_true rfl) (hcc : k + rm.cells ≤ R.cells := by decide) (hss : n + rm.slots ≤ R.slots := by decide) : Go Z EL nw R Post K h S k n pc L (v2 :: v1 :: .ref a :: rest) := G.callP [v1, v2] hd w1 w2 w3 w4 w5 nf pd E c hS0 rfl hln f hy hL hf hl hcc hss
theorem Good.callF2 (G : Good Z a0 EL K own code maxL ret nm) {count : Nat} {v1 v2 : Value} (hd : Dc code pc (.invokeinterface index count) 5 pc') (w1 : (Cond.methodLink own index y).before a0 Z = true) (w2 : (Cond.declares y).before a0 Z = true) (w3 : (Cond.interfaceMethod y.cls y.cls y.name y.desc).before a0 Z = true) (w4 : (Cond.selects C y z).before a0 Z = true) (w5 : (Cond.instanceMethod z).before a0 Z = true) (w6 : (Cond.publicMethod z).before a0 Z = true) (w7 : (Cond.unhidden C y.name y.desc).before a0 Z = true) (w8 : (Cond.castable C y.cls).before a0 Z = true) (w9 : (Cond.code z bytes maxL' ret').before a0 Z = true) (w10 : (Cond.initialized z.cls).before a0 Z = true) (pd : parseMethodDescriptor y.desc = some ⟨ps, rr⟩) (E : Exa Z h a C) (c : Con K.l Z EL (nw.1, [], []) z bytes maxL' ret' [] rm #[.ref a, v1, v2] h S0 Post') (hS0 : ∀ x ∈ S0, x ∈ S) (f : ∀ v h' S', Post' v h' S' → h.size ≤ h'.size → Go Z EL nw R Post K h' (S' ++ S) (k + rm.cells) (n + rm.slots) pc' L (v.toList ++ rest)) (hln : 2 = ps.length := by rfl) (hy : y.cls ≠ "java/lang/invoke/MethodHandle" ∧ y.cls ≠ "java/lang/invoke/VarHandle" := by decide) (hL : L.length = maxL := by rfl) (hf : rm.frames + 1 ≤ R.frames := by decide) (hl : (rest.map fun v => v.category).sum + (maxL' + 11) + rm.locals ≤ R.locals := by exact Nat.le_of_ble_eq_true rfl) (hcc : k + rm.cells ≤ R.cells := by decide) (hss : n + rm.slots ≤ R.slots := by decide) : Go Z EL nw R Post K h S k n pc L (v2 :: v1 :: .ref a :: rest) := G.callF [v1, v2] hd w1 w2 w3 w4 w5 w6 w7 w8 w9 w10 pd E c hS0 rfl hln f hy hL hf hl hcc hss
theorem Good.callI3 (G : Good Z a0 EL K own code maxL ret nm) {v1 v2 v3 : Value} (hd : Dc code pc (.invokespecial index) 3 pc') (w1 : (Cond.methodLink own index y).before a0 Z = true) (w2 : (Cond.instanceMethod y).before a0 Z = true) (w3 : (Cond.initialized y.cls).before a0 Z = true) (w4 : (Cond.code y bytes maxL' none).before a0 Z = true) (pd : parseMethodDescriptor y.desc = some ⟨ps, rr⟩) (c : Con K.l Z EL (nw.1, [], []) y bytes maxL' none [] rm #[.ref a, v1, v2, v3] h S0 Post') (hS0 : ∀ x ∈ S0, x ∈ S) (f : ∀ v h' S', Post' v h' S' → h.size ≤ h'.size → Go Z EL nw R Post K h' (S' ++ S) (k + rm.cells) (n + rm.slots) pc' L (v.toList ++ rest)) (hy1 : y.name = "<init>" := by rfl) (hln : 3 = ps.length := by rfl) (hy : y.cls ≠ "java/lang/invoke/MethodHandle" ∧ y.cls ≠ "java/lang/invoke/VarHandle" := by decide) (hL : L.length = maxL := by rfl) (hf : rm.frames + 1 ≤ R.frames := by decide) (hl : (rest.map fun v => v.category).sum + (maxL' + 11) + rm.locals ≤ R.locals := by exact Nat.le_of_ble_eq_true rfl) (hcc : k + rm.cells ≤ R.cells := by decide) (hss : n + rm.slots ≤ R.slots := by decide) : Go Z EL nw R Post K h S k n pc L (v3 :: v2 :: v1 :: .ref a :: rest) := G.callI [v1, v2, v3] hd w1 w2 w3 w4 pd c hS0 rfl hln f hy1 hy hL hf hl hcc hss
theorem Good.callV3 (G : Good Z a0 EL K own code maxL ret nm) {v1 v2 v3 : Value} (hd : Dc code pc (.invokevirtual index) 3 pc') (w1 : (Cond.methodLink own index y).before a0 Z = true) (w2 : (Cond.declares y).before a0 Z = true) (w3 : (Cond.selects C y y).before a0 Z = true) (w4 : (Cond.instanceMethod y).before a0 Z = true) (w5 : (Cond.code y bytes maxL' ret').before a0 Z = true) (w6 : (Cond.initialized y.cls).before a0 Z = true) (pd : parseMethodDescriptor y.desc = some ⟨ps, rr⟩) (E : Exa Z h a C) (c : Con K.l Z EL (nw.1, [], []) y bytes maxL' ret' [] rm #[.ref a, v1, v2, v3] h S0 Post') (hS0 : ∀ x ∈ S0, x ∈ S) (f : ∀ v h' S', Post' v h' S' → h.size ≤ h'.size → Go Z EL nw R Post K h' (S' ++ S) (k + rm.cells) (n + rm.slots) pc' L (v.toList ++ rest)) (hln : 3 = ps.length := by rfl) (hy : y.cls ≠ "java/lang/invoke/MethodHandle" ∧ y.cls ≠ "java/lang/invoke/VarHandle" := by decide) (hL : L.length = maxL := by rfl) (hf : rm.frames + 1 ≤ R.frames := by decide) (hl : (rest.map fun v => v.category).sum + (maxL' + 11) + rm.locals ≤ R.locals := by exact Nat.le_of_ble_eq_true rfl) (hcc : k + rm.cells ≤ R.cells := by decide) (hss : n + rm.slots ≤ R.slots := by decide) : Go Z EL nw R Post K h S k n pc L (v3 :: v2 :: v1 :: .ref a :: rest) := G.callV (Nf.sel w3) [v1, v2, v3] hd w1 w2 w3 w4 w5 w6 pd E c hS0 rfl hln f hy hL hf hl hcc hss
theorem Good.callW3 (G : Good Z a0 EL K own code maxL ret nm) (nf : Nf Z y) {v1 v2 v3 : Value} (hd : Dc code pc (.invokevirtual index) 3 pc') (w1 : (Cond.methodLink own index y).before a0 Z = true) (w2 : (Cond.declares y).before a0 Z = true) (w3 : (Cond.selects C y z).before a0 Z = true) (w4 : (Cond.instanceMethod z).before a0 Z = true) (w5 : (Cond.code z bytes maxL' ret').before a0 Z = true) (w6 : (Cond.initialized z.cls).before a0 Z = true) (pd : parseMethodDescriptor y.desc = some ⟨ps, rr⟩) (E : Exa Z h a C) (c : Con K.l Z EL (nw.1, [], []) z bytes maxL' ret' [] rm #[.ref a, v1, v2, v3] h S0 Post') (hS0 : ∀ x ∈ S0, x ∈ S) (f : ∀ v h' S', Post' v h' S' → h.size ≤ h'.size → Go Z EL nw R Post K h' (S' ++ S) (k + rm.cells) (n + rm.slots) pc' L (v.toList ++ rest)) (hln : 3 = ps.length := by rfl) (hy : y.cls ≠ "java/lang/invoke/MethodHandle" ∧ y.cls ≠ "java/lang/invoke/VarHandle" := by decide) (hL : L.length = maxL := by rfl) (hf : rm.frames + 1 ≤ R.frames := by decide) (hl : (rest.map fun v => v.category).sum + (maxL' + 11) + rm.locals ≤ R.locals := by exact Nat.le_of_ble_eq_true rfl) (hcc : k + rm.cells ≤ R.cells := by decide) (hss : n + rm.slots ≤ R.slots := by decide) : Go Z EL nw R Post K h S k n pc L (v3 :: v2 :: v1 :: .ref a :: rest) := G.callV nf [v1, v2, v3] hd w1 w2 w3 w4 w5 w6 pd E c hS0 rfl hln f hy hL hf hl hcc hss
theorem Good.callP3 (G : Good Z a0 EL K own code maxL ret nm) {v1 v2 v3 : Value} (hd : Dc code pc (.invokevirtual index) 3 pc') (w1 : (Cond.methodLink own index y).before a0 Z = true) (w2 : (Cond.instanceMethod y).before a0 Z = true) (w3 : (Cond.privateMethod y).before a0 Z = true) (w4 : (Cond.code y bytes maxL' ret').before a0 Z = true) (w5 : (Cond.initialized y.cls).before a0 Z = true) (nf : Nf Z y) (pd : parseMethodDescriptor y.desc = some ⟨ps, rr⟩) (E : Exa Z h a C) (c : Con K.l Z EL (nw.1, [], []) y bytes maxL' ret' [] rm #[.ref a, v1, v2, v3] h S0 Post') (hS0 : ∀ x ∈ S0, x ∈ S) (f : ∀ v h' S', Post' v h' S' → h.size ≤ h'.size → Go Z EL nw R Post K h' (S' ++ S) (k + rm.cells) (n + rm.slots) pc' L (v.toList ++ rest)) (hln : 3 = ps.length := by rfl) (hy : y.cls ≠ "java/lang/invoke/MethodHandle" ∧ y.cls ≠ "java/lang/invoke/VarHandle" := by decide) (hL : L.length = maxL := by rfl) (hf : rm.frames + 1 ≤ R.frames := by decide) (hl : (rest.map fun v => v.category).sum + (maxL' + 11) + rm.locals ≤ R.locals := by exact Nat.le_of_ble_eq_true rfl) (hcc : k + rm.cells ≤ R.cells := by decide) (hss : n + rm.slots ≤ R.slots := by decide) : Go Z EL nw R Post K h S k n pc L (v3 :: v2 :: v1 :: .ref a :: rest) := G.callP [v1, v2, v3] hd w1 w2 w3 w4 w5 nf pd E c hS0 rfl hln f hy hL hf hl hcc hss
theorem Good.callF3 (G : Good Z a0 EL K own code maxL ret nm) {count : Nat} {v1 v2 v3 : Value} (hd : Dc code pc (.invokeinterface index count) 5 pc') (w1 : (Cond.methodLink own index y).before a0 Z = true) (w2 : (Cond.declares y).before a0 Z = true) (w3 : (Cond.interfaceMethod y.cls y.cls y.name y.desc).before a0 Z = true) (w4 : (Cond.selects C y z).before a0 Z = true) (w5 : (Cond.instanceMethod z).before a0 Z = true) (w6 : (Cond.publicMethod z).before a0 Z = true) (w7 : (Cond.unhidden C y.name y.desc).before a0 Z = true) (w8 : (Cond.castable C y.cls).before a0 Z = true) (w9 : (Cond.code z bytes maxL' ret').before a0 Z = true) (w10 : (Cond.initialized z.cls).before a0 Z = true) (pd : parseMethodDescriptor y.desc = some ⟨ps, rr⟩) (E : Exa Z h a C) (c : Con K.l Z EL (nw.1, [], []) z bytes maxL' ret' [] rm #[.ref a, v1, v2, v3] h S0 Post') (hS0 : ∀ x ∈ S0, x ∈ S) (f : ∀ v h' S', Post' v h' S' → h.size ≤ h'.size → Go Z EL nw R Post K h' (S' ++ S) (k + rm.cells) (n + rm.slots) pc' L (v.toList ++ rest)) (hln : 3 = ps.length := by rfl) (hy : y.cls ≠ "java/lang/invoke/MethodHandle" ∧ y.cls ≠ "java/lang/invoke/VarHandle" := by decide) (hL : L.length = maxL := by rfl) (hf : rm.frames + 1 ≤ R.frames := by decide) (hl : (rest.map fun v => v.category).sum + (maxL' + 11) + rm.locals ≤ R.locals := by exact Nat.le_of_ble_eq_true rfl) (hcc : k + rm.cells ≤ R.cells := by decide) (hss : n + rm.slots ≤ R.slots := by decide) : Go Z EL nw R Post K h S k n pc L (v3 :: v2 :: v1 :: .ref a :: rest) := G.callF [v1, v2, v3] hd w1 w2 w3 w4 w5 w6 w7 w8 w9 w10 pd E c hS0 rfl hln f hy hL hf hl hcc hss
theorem Good.callI4 (G : Good Z a0 EL K own code maxL ret nm) {v1 v2 v3 v4 : Value} (hd : Dc code pc (.invokespecial index) 3 pc') (w1 : (Cond.methodLink own index y).before a0 Z = true) (w2 : (Cond.instanceMethod y).before a0 Z = true) (w3 : (Cond.initialized y.cls).before a0 Z = true) (w4 : (Cond.code y bytes maxL' none).before a0 Z = true) (pd : parseMethodDescriptor y.desc = some ⟨ps, rr⟩) (c : Con K.l Z EL (nw.1, [], []) y bytes maxL' none [] rm #[.ref a, v1, v2, v3, v4] h S0 Post') (hS0 : ∀ x ∈ S0, x ∈ S) (f : ∀ v h' S', Post' v h' S' → h.size ≤ h'.size → Go Z EL nw R Post K h' (S' ++ S) (k + rm.cells) (n + rm.slots) pc' L (v.toList ++ rest)) (hy1 : y.name = "<init>" := by rfl) (hln : 4 = ps.length := by rfl) (hy : y.cls ≠ "java/lang/invoke/MethodHandle" ∧ y.cls ≠ "java/lang/invoke/VarHandle" := by decide) (hL : L.length = maxL := by rfl) (hf : rm.frames + 1 ≤ R.frames := by decide) (hl : (rest.map fun v => v.category).sum + (maxL' + 11) + rm.locals ≤ R.locals := by exact Nat.le_of_ble_eq_true rfl) (hcc : k + rm.cells ≤ R.cells := by decide) (hss : n + rm.slots ≤ R.slots := by decide) : Go Z EL nw R Post K h S k n pc L (v4 :: v3 :: v2 :: v1 :: .ref a :: rest) := G.callI [v1, v2, v3, v4] hd w1 w2 w3 w4 pd c hS0 rfl hln f hy1 hy hL hf hl hcc hss
theorem Good.callV4 (G : Good Z a0 EL K own code maxL ret nm) {v1 v2 v3 v4 : Value} (hd : Dc code pc (.invokevirtual index) 3 pc') (w1 : (Cond.methodLink own index y).before a0 Z = true) (w2 : (Cond.declares y).before a0 Z = true) (w3 : (Cond.selects C y y).before a0 Z = true) (w4 : (Cond.instanceMethod y).before a0 Z = true) (w5 : (Cond.code y bytes maxL' ret').before a0 Z = true) (w6 : (Cond.initialized y.cls).before a0 Z = true) (pd : parseMethodDescriptor y.desc = some ⟨ps, rr⟩) (E : Exa Z h a C) (c : Con K.l Z EL (nw.1, [], []) y bytes maxL' ret' [] rm #[.ref a, v1, v2, v3, v4] h S0 Post') (hS0 : ∀ x ∈ S0, x ∈ S) (f : ∀ v h' S', Post' v h' S' → h.size ≤ h'.size → Go Z EL nw R Post K h' (S' ++ S) (k + rm.cells) (n + rm.slots) pc' L (v.toList ++ rest)) (hln : 4 = ps.length := by rfl) (hy : y.cls ≠ "java/lang/invoke/MethodHandle" ∧ y.cls ≠ "java/lang/invoke/VarHandle" := by decide) (hL : L.length = maxL := by rfl) (hf : rm.frames + 1 ≤ R.frames := by decide) (hl : (rest.map fun v => v.category).sum + (maxL' + 11) + rm.locals ≤ R.locals := by exact Nat.le_of_ble_eq_true rfl) (hcc : k + rm.cells ≤ R.cells := by decide) (hss : n + rm.slots ≤ R.slots := by decide) : Go Z EL nw R Post K h S k n pc L (v4 :: v3 :: v2 :: v1 :: .ref a :: rest) := G.callV (Nf.sel w3) [v1, v2, v3, v4] hd w1 w2 w3 w4 w5 w6 pd E c hS0 rfl hln f hy hL hf hl hcc hss
theorem Good.callW4 (G : Good Z a0 EL K own code maxL ret nm) (nf : Nf Z y) {v1 v2 v3 v4 : Value} (hd : Dc code pc (.invokevirtual index) 3 pc') (w1 : (Cond.methodLink own index y).before a0 Z = true) (w2 : (Cond.declares y).before a0 Z = true) (w3 : (Cond.selects C y z).before a0 Z = true) (w4 : (Cond.instanceMethod z).before a0 Z = true) (w5 : (Cond.code z bytes maxL' ret').before a0 Z = true) (w6 : (Cond.initialized z.cls).before a0 Z = true) (pd : parseMethodDescriptor y.desc = some ⟨ps, rr⟩) (E : Exa Z h a C) (c : Con K.l Z EL (nw.1, [], []) z bytes maxL' ret' [] rm #[.ref a, v1, v2, v3, v4] h S0 Post') (hS0 : ∀ x ∈ S0, x ∈ S) (f : ∀ v h' S', Post' v h' S' → h.size ≤ h'.size → Go Z EL nw R Post K h' (S' ++ S) (k + rm.cells) (n + rm.slots) pc' L (v.toList ++ rest)) (hln : 4 = ps.length := by rfl) (hy : y.cls ≠ "java/lang/invoke/MethodHandle" ∧ y.cls ≠ "java/lang/invoke/VarHandle" := by decide) (hL : L.length = maxL := by rfl) (hf : rm.frames + 1 ≤ R.frames := by decide) (hl : (rest.map fun v => v.category).sum + (maxL' + 11) + rm.locals ≤ R.locals := by exact Nat.le_of_ble_eq_true rfl) (hcc : k + rm.cells ≤ R.cells := by decide) (hss : n + rm.slots ≤ R.slots := by decide) : Go Z EL nw R Post K h S k n pc L (v4 :: v3 :: v2 :: v1 :: .ref a :: rest) := G.callV nf [v1, v2, v3, v4] hd w1 w2 w3 w4 w5 w6 pd E c hS0 rfl hln f hy hL hf hl hcc hss
theorem Good.callP4 (G : Good Z a0 EL K own code maxL ret nm) {v1 v2 v3 v4 : Value} (hd : Dc code pc (.invokevirtual index) 3 pc') (w1 : (Cond.methodLink own index y).before a0 Z = true) (w2 : (Cond.instanceMethod y).before a0 Z = true) (w3 : (Cond.privateMethod y).before a0 Z = true) (w4 : (Cond.code y bytes maxL' ret').before a0 Z = true) (w5 : (Cond.initialized y.cls).before a0 Z = true) (nf : Nf Z y) (pd : parseMethodDescriptor y.desc = some ⟨ps, rr⟩) (E : Exa Z h a C) (c : Con K.l Z EL (nw.1, [], []) y bytes maxL' ret' [] rm #[.ref a, v1, v2, v3, v4] h S0 Post') (hS0 : ∀ x ∈ S0, x ∈ S) (f : ∀ v h' S', Post' v h' S' → h.size ≤ h'.size → Go Z EL nw R Post K h' (S' ++ S) (k + rm.cells) (n + rm.slots) pc' L (v.toList ++ rest)) (hln : 4 = ps.length := by rfl) (hy : y.cls ≠ "java/lang/invoke/MethodHandle" ∧ y.cls ≠ "java/lang/invoke/VarHandle" := by decide) (hL : L.length = maxL := by rfl) (hf : rm.frames + 1 ≤ R.frames := by decide) (hl : (rest.map fun v => v.category).sum + (maxL' + 11) + rm.locals ≤ R.locals := by exact Nat.le_of_ble_eq_true rfl) (hcc : k + rm.cells ≤ R.cells := by decide) (hss : n + rm.slots ≤ R.slots := by decide) : Go Z EL nw R Post K h S k n pc L (v4 :: v3 :: v2 :: v1 :: .ref a :: rest) := G.callP [v1, v2, v3, v4] hd w1 w2 w3 w4 w5 nf pd E c hS0 rfl hln f hy hL hf hl hcc hss
theorem Good.callF4 (G : Good Z a0 EL K own code maxL ret nm) {count : Nat} {v1 v2 v3 v4 : Value} (hd : Dc code pc (.invokeinterface index count) 5 pc') (w1 : (Cond.methodLink own index y).before a0 Z = true) (w2 : (Cond.declares y).before a0 Z = true) (w3 : (Cond.interfaceMethod y.cls y.cls y.name y.desc).before a0 Z = true) (w4 : (Cond.selects C y z).before a0 Z = true) (w5 : (Cond.instanceMethod z).before a0 Z = true) (w6 : (Cond.publicMethod z).before a0 Z = true) (w7 : (Cond.unhidden C y.name y.desc).before a0 Z = true) (w8 : (Cond.castable C y.cls).before a0 Z = true) (w9 : (Cond.code z bytes maxL' ret').before a0 Z = true) (w10 : (Cond.initialized z.cls).before a0 Z = true) (pd : parseMethodDescriptor y.desc = some ⟨ps, rr⟩) (E : Exa Z h a C) (c : Con K.l Z EL (nw.1, [], []) z bytes maxL' ret' [] rm #[.ref a, v1, v2, v3, v4] h S0 Post') (hS0 : ∀ x ∈ S0, x ∈ S) (f : ∀ v h' S', Post' v h' S' → h.size ≤ h'.size → Go Z EL nw R Post K h' (S' ++ S) (k + rm.cells) (n + rm.slots) pc' L (v.toList ++ rest)) (hln : 4 = ps.length := by rfl) (hy : y.cls ≠ "java/lang/invoke/MethodHandle" ∧ y.cls ≠ "java/lang/invoke/VarHandle" := by decide) (hL : L.length = maxL := by rfl) (hf : rm.frames + 1 ≤ R.frames := by decide) (hl : (rest.map fun v => v.category).sum + (maxL' + 11) + rm.locals ≤ R.locals := by exact Nat.le_of_ble_eq_true rfl) (hcc : k + rm.cells ≤ R.cells := by decide) (hss : n + rm.slots ≤ R.slots := by decide) : Go Z EL nw R Post K h S k n pc L (v4 :: v3 :: v2 :: v1 :: .ref a :: rest) := G.callF [v1, v2, v3, v4] hd w1 w2 w3 w4 w5 w6 w7 w8 w9 w10 pd E c hS0 rfl hln f hy hL hf hl hcc hss
theorem Good.callI5 (G : Good Z a0 EL K own code maxL ret nm) {v1 v2 v3 v4 v5 : Value} (hd : Dc code pc (.invokespecial index) 3 pc') (w1 : (Cond.methodLink own index y).before a0 Z = true) (w2 : (Cond.instanceMethod y).before a0 Z = true) (w3 : (Cond.initialized y.cls).before a0 Z = true) (w4 : (Cond.code y bytes maxL' none).before a0 Z = true) (pd : parseMethodDescriptor y.desc = some ⟨ps, rr⟩) (c : Con K.l Z EL (nw.1, [], []) y bytes maxL' none [] rm #[.ref a, v1, v2, v3, v4, v5] h S0 Post') (hS0 : ∀ x ∈ S0, x ∈ S) (f : ∀ v h' S', Post' v h' S' → h.size ≤ h'.size → Go Z EL nw R Post K h' (S' ++ S) (k + rm.cells) (n + rm.slots) pc' L (v.toList ++ rest)) (hy1 : y.name = "<init>" := by rfl) (hln : 5 = ps.length := by rfl) (hy : y.cls ≠ "java/lang/invoke/MethodHandle" ∧ y.cls ≠ "java/lang/invoke/VarHandle" := by decide) (hL : L.length = maxL := by rfl) (hf : rm.frames + 1 ≤ R.frames := by decide) (hl : (rest.map fun v => v.category).sum + (maxL' + 11) + rm.locals ≤ R.locals := by exact Nat.le_of_ble_eq_true rfl) (hcc : k + rm.cells ≤ R.cells := by decide) (hss : n + rm.slots ≤ R.slots := by decide) : Go Z EL nw R Post K h S k n pc L (v5 :: v4 :: v3 :: v2 :: v1 :: .ref a :: rest) := G.callI [v1, v2, v3, v4, v5] hd w1 w2 w3 w4 pd c hS0 rfl hln f hy1 hy hL hf hl hcc hss
theorem Good.callV5 (G : Good Z a0 EL K own code maxL ret nm) {v1 v2 v3 v4 v5 : Value} (hd : Dc code pc (.invokevirtual index) 3 pc') (w1 : (Cond.methodLink own index y).before a0 Z = true) (w2 : (Cond.declares y).before a0 Z = true) (w3 : (Cond.selects C y y).before a0 Z = true) (w4 : (Cond.instanceMethod y).before a0 Z = true) (w5 : (Cond.code y bytes maxL' ret').before a0 Z = true) (w6 : (Cond.initialized y.cls).before a0 Z = true) (pd : parseMethodDescriptor y.desc = some ⟨ps, rr⟩) (E : Exa Z h a C) (c : Con K.l Z EL (nw.1, [], []) y bytes maxL' ret' [] rm #[.ref a, v1, v2, v3, v4, v5] h S0 Post') (hS0 : ∀ x ∈ S0, x ∈ S) (f : ∀ v h' S', Post' v h' S' → h.size ≤ h'.size → Go Z EL nw R Post K h' (S' ++ S) (k + rm.cells) (n + rm.slots) pc' L (v.toList ++ rest)) (hln : 5 = ps.length := by rfl) (hy : y.cls ≠ "java/lang/invoke/MethodHandle" ∧ y.cls ≠ "java/lang/invoke/VarHandle" := by decide) (hL : L.length = maxL := by rfl) (hf : rm.frames + 1 ≤ R.frames := by decide) (hl : (rest.map fun v => v.category).sum + (maxL' + 11) + rm.locals ≤ R.locals := by exact Nat.le_of_ble_eq_true rfl) (hcc : k + rm.cells ≤ R.cells := by decide) (hss : n + rm.slots ≤ R.slots := by decide) : Go Z EL nw R Post K h S k n pc L (v5 :: v4 :: v3 :: v2 :: v1 :: .ref a :: rest) := G.callV (Nf.sel w3) [v1, v2, v3, v4, v5] hd w1 w2 w3 w4 w5 w6 pd E c hS0 rfl hln f hy hL hf hl hcc hss
theorem Good.callW5 (G : Good Z a0 EL K own code maxL ret nm) (nf : Nf Z y) {v1 v2 v3 v4 v5 : Value} (hd : Dc code pc (.invokevirtual index) 3 pc') (w1 : (Cond.methodLink own index y).before a0 Z = true) (w2 : (Cond.declares y).before a0 Z = true) (w3 : (Cond.selects C y z).before a0 Z = true) (w4 : (Cond.instanceMethod z).before a0 Z = true) (w5 : (Cond.code z bytes maxL' ret').before a0 Z = true) (w6 : (Cond.initialized z.cls).before a0 Z = true) (pd : parseMethodDescriptor y.desc = some ⟨ps, rr⟩) (E : Exa Z h a C) (c : Con K.l Z EL (nw.1, [], []) z bytes maxL' ret' [] rm #[.ref a, v1, v2, v3, v4, v5] h S0 Post') (hS0 : ∀ x ∈ S0, x ∈ S) (f : ∀ v h' S', Post' v h' S' → h.size ≤ h'.size → Go Z EL nw R Post K h' (S' ++ S) (k + rm.cells) (n + rm.slots) pc' L (v.toList ++ rest)) (hln : 5 = ps.length := by rfl) (hy : y.cls ≠ "java/lang/invoke/MethodHandle" ∧ y.cls ≠ "java/lang/invoke/VarHandle" := by decide) (hL : L.length = maxL := by rfl) (hf : rm.frames + 1 ≤ R.frames := by decide) (hl : (rest.map fun v => v.category).sum + (maxL' + 11) + rm.locals ≤ R.locals := by exact Nat.le_of_ble_eq_true rfl) (hcc : k + rm.cells ≤ R.cells := by decide) (hss : n + rm.slots ≤ R.slots := by decide) : Go Z EL nw R Post K h S k n pc L (v5 :: v4 :: v3 :: v2 :: v1 :: .ref a :: rest) := G.callV nf [v1, v2, v3, v4, v5] hd w1 w2 w3 w4 w5 w6 pd E c hS0 rfl hln f hy hL hf hl hcc hss
theorem Good.callP5 (G : Good Z a0 EL K own code maxL ret nm) {v1 v2 v3 v4 v5 : Value} (hd : Dc code pc (.invokevirtual index) 3 pc') (w1 : (Cond.methodLink own index y).before a0 Z = true) (w2 : (Cond.instanceMethod y).before a0 Z = true) (w3 : (Cond.privateMethod y).before a0 Z = true) (w4 : (Cond.code y bytes maxL' ret').before a0 Z = true) (w5 : (Cond.initialized y.cls).before a0 Z = true) (nf : Nf Z y) (pd : parseMethodDescriptor y.desc = some ⟨ps, rr⟩) (E : Exa Z h a C) (c : Con K.l Z EL (nw.1, [], []) y bytes maxL' ret' [] rm #[.ref a, v1, v2, v3, v4, v5] h S0 Post') (hS0 : ∀ x ∈ S0, x ∈ S) (f : ∀ v h' S', Post' v h' S' → h.size ≤ h'.size → Go Z EL nw R Post K h' (S' ++ S) (k + rm.cells) (n + rm.slots) pc' L (v.toList ++ rest)) (hln : 5 = ps.length := by rfl) (hy : y.cls ≠ "java/lang/invoke/MethodHandle" ∧ y.cls ≠ "java/lang/invoke/VarHandle" := by decide) (hL : L.length = maxL := by rfl) (hf : rm.frames + 1 ≤ R.frames := by decide) (hl : (rest.map fun v => v.category).sum + (maxL' + 11) + rm.locals ≤ R.locals := by exact Nat.le_of_ble_eq_true rfl) (hcc : k + rm.cells ≤ R.cells := by decide) (hss : n + rm.slots ≤ R.slots := by decide) : Go Z EL nw R Post K h S k n pc L (v5 :: v4 :: v3 :: v2 :: v1 :: .ref a :: rest) := G.callP [v1, v2, v3, v4, v5] hd w1 w2 w3 w4 w5 nf pd E c hS0 rfl hln f hy hL hf hl hcc hss
theorem Good.callF5 (G : Good Z a0 EL K own code maxL ret nm) {count : Nat} {v1 v2 v3 v4 v5 : Value} (hd : Dc code pc (.invokeinterface index count) 5 pc') (w1 : (Cond.methodLink own index y).before a0 Z = true) (w2 : (Cond.declares y).before a0 Z = true) (w3 : (Cond.interfaceMethod y.cls y.cls y.name y.desc).before a0 Z = true) (w4 : (Cond.selects C y z).before a0 Z = true) (w5 : (Cond.instanceMethod z).before a0 Z = true) (w6 : (Cond.publicMethod z).before a0 Z = true) (w7 : (Cond.unhidden C y.name y.desc).before a0 Z = true) (w8 : (Cond.castable C y.cls).before a0 Z = true) (w9 : (Cond.code z bytes maxL' ret').before a0 Z = true) (w10 : (Cond.initialized z.cls).before a0 Z = true) (pd : parseMethodDescriptor y.desc = some ⟨ps, rr⟩) (E : Exa Z h a C) (c : Con K.l Z EL (nw.1, [], []) z bytes maxL' ret' [] rm #[.ref a, v1, v2, v3, v4, v5] h S0 Post') (hS0 : ∀ x ∈ S0, x ∈ S) (f : ∀ v h' S', Post' v h' S' → h.size ≤ h'.size → Go Z EL nw R Post K h' (S' ++ S) (k + rm.cells) (n + rm.slots) pc' L (v.toList ++ rest)) (hln : 5 = ps.length := by rfl) (hy : y.cls ≠ "java/lang/invoke/MethodHandle" ∧ y.cls ≠ "java/lang/invoke/VarHandle" := by decide) (hL : L.length = maxL := by rfl) (hf : rm.frames + 1 ≤ R.frames := by decide) (hl : (rest.map fun v => v.category).sum + (maxL' + 11) + rm.locals ≤ R.locals := by exact Nat.le_of_ble_eq_true rfl) (hcc : k + rm.cells ≤ R.cells := by decide) (hss : n + rm.slots ≤ R.slots := by decide) : Go Z EL nw R Post K h S k n pc L (v5 :: v4 :: v3 :: v2 :: v1 :: .ref a :: rest) := G.callF [v1, v2, v3, v4, v5] hd w1 w2 w3 w4 w5 w6 w7 w8 w9 w10 pd E c hS0 rfl hln f hy hL hf hl hcc hss
theorem Good.callU0 (G : Good Z a0 EL K own code maxL ret nm) (hd : Dc code pc (.invokespecial index) 3 pc') (w1 : (Cond.methodLink own index y).before a0 Z = true) (w2 : Nf Z y) (w3 : (Cond.instanceMethod y).before a0 Z = true) (w4 : (Cond.superclass own y.cls).before a0 Z = true) (w5 : (Cond.code y bytes maxL' ret').before a0 Z = true) (w6 : (Cond.initialized y.cls).before a0 Z = true) (pd : parseMethodDescriptor y.desc = some ⟨ps, rr⟩) (E : Exa Z h a C) (c : Con K.l Z EL (nw.1, [], []) y bytes maxL' ret' [] rm #[.ref a] h S0 Post') (hS0 : ∀ x ∈ S0, x ∈ S) (f : ∀ v h' S', Post' v h' S' → h.size ≤ h'.size → Go Z EL nw R Post K h' (S' ++ S) (k + rm.cells) (n + rm.slots) pc' L (v.toList ++ rest)) (hy1 : y.name ≠ "<init>" := by decide) (hln : 0 = ps.length := by rfl) (hy : y.cls ≠ "java/lang/invoke/MethodHandle" ∧ y.cls ≠ "java/lang/invoke/VarHandle" := by decide) (hL : L.length = maxL := by rfl) (hf : rm.frames + 1 ≤ R.frames := by decide) (hl : (rest.map fun v => v.category).sum + (maxL' + 11) + rm.locals ≤ R.locals := by exact Nat.le_of_ble_eq_true rfl) (hcc : k + rm.cells ≤ R.cells := by decide) (hss : n + rm.slots ≤ R.slots := by decide) : Go Z EL nw R Post K h S k n pc L (.ref a :: rest) := G.callU [] hd w1 w2 w3 w4 w5 w6 pd E c hS0 rfl hln f hy1 hy hL hf hl hcc hss
theorem Good.callU1 (G : Good Z a0 EL K own code maxL ret nm) {v1 : Value} (hd : Dc code pc (.invokespecial index) 3 pc') (w1 : (Cond.methodLink own index y).before a0 Z = true) (w2 : Nf Z y) (w3 : (Cond.instanceMethod y).before a0 Z = true) (w4 : (Cond.superclass own y.cls).before a0 Z = true) (w5 : (Cond.code y bytes maxL' ret').before a0 Z = true) (w6 : (Cond.initialized y.cls).before a0 Z = true) (pd : parseMethodDescriptor y.desc = some ⟨ps, rr⟩) (E : Exa Z h a C) (c : Con K.l Z EL (nw.1, [], []) y bytes maxL' ret' [] rm #[.ref a, v1] h S0 Post') (hS0 : ∀ x ∈ S0, x ∈ S) (f : ∀ v h' S', Post' v h' S' → h.size ≤ h'.size → Go Z EL nw R Post K h' (S' ++ S) (k + rm.cells) (n + rm.slots) pc' L (v.toList ++ rest)) (hy1 : y.name ≠ "<init>" := by decide) (hln : 1 = ps.length := by rfl) (hy : y.cls ≠ "java/lang/invoke/MethodHandle" ∧ y.cls ≠ "java/lang/invoke/VarHandle" := by decide) (hL : L.length = maxL := by rfl) (hf : rm.frames + 1 ≤ R.frames := by decide) (hl : (rest.map fun v => v.category).sum + (maxL' + 11) + rm.locals ≤ R.locals := by exact Nat.le_of_ble_eq_true rfl) (hcc : k + rm.cells ≤ R.cells := by decide) (hss : n + rm.slots ≤ R.slots := by decide) : Go Z EL nw R Post K h S k n pc L (v1 :: .ref a :: rest) := G.callU [v1] hd w1 w2 w3 w4 w5 w6 pd E c hS0 rfl hln f hy1 hy hL hf hl hcc hss
theorem Good.callU2 (G : Good Z a0 EL K own code maxL ret nm) {v1 v2 : Value} (hd : Dc code pc (.invokespecial index) 3 pc') (w1 : (Cond.methodLink own index y).before a0 Z = true) (w2 : Nf Z y) (w3 : (Cond.instanceMethod y).before a0 Z = true) (w4 : (Cond.superclass own y.cls).before a0 Z = true) (w5 : (Cond.code y bytes maxL' ret').before a0 Z = true) (w6 : (Cond.initialized y.cls).before a0 Z = true) (pd : parseMethodDescriptor y.desc = some ⟨ps, rr⟩) (E : Exa Z h a C) (c : Con K.l Z EL (nw.1, [], []) y bytes maxL' ret' [] rm #[.ref a, v1, v2] h S0 Post') (hS0 : ∀ x ∈ S0, x ∈ S) (f : ∀ v h' S', Post' v h' S' → h.size ≤ h'.size → Go Z EL nw R Post K h' (S' ++ S) (k + rm.cells) (n + rm.slots) pc' L (v.toList ++ rest)) (hy1 : y.name ≠ "<init>" := by decide) (hln : 2 = ps.length := by rfl) (hy : y.cls ≠ "java/lang/invoke/MethodHandle" ∧ y.cls ≠ "java/lang/invoke/VarHandle" := by decide) (hL : L.length = maxL := by rfl) (hf : rm.frames + 1 ≤ R.frames := by decide) (hl : (rest.map fun v => v.category).sum + (maxL' + 11) + rm.locals ≤ R.locals := by exact Nat.le_of_ble_eq_true rfl) (hcc : k + rm.cells ≤ R.cells := by decide) (hss : n + rm.slots ≤ R.slots := by decide) : Go Z EL nw R Post K h S k n pc L (v2 :: v1 :: .ref a :: rest) := G.callU [v1, v2] hd w1 w2 w3 w4 w5 w6 pd E c hS0 rfl hln f hy1 hy hL hf hl hcc hss
theorem Good.callU3 (G : Good Z a0 EL K own code maxL ret nm) {v1 v2 v3 : Value} (hd : Dc code pc (.invokespecial index) 3 pc') (w1 : (Cond.methodLink own index y).before a0 Z = true) (w2 : Nf Z y) (w3 : (Cond.instanceMethod y).before a0 Z = true) (w4 : (Cond.superclass own y.cls).before a0 Z = true) (w5 : (Cond.code y bytes maxL' ret').before a0 Z = true) (w6 : (Cond.initialized y.cls).before a0 Z = true) (pd : parseMethodDescriptor y.desc = some ⟨ps, rr⟩) (E : Exa Z h a C) (c : Con K.l Z EL (nw.1, [], []) y bytes maxL' ret' [] rm #[.ref a, v1, v2, v3] h S0 Post') (hS0 : ∀ x ∈ S0, x ∈ S) (f : ∀ v h' S', Post' v h' S' → h.size ≤ h'.size → Go Z EL nw R Post K h' (S' ++ S) (k + rm.cells) (n + rm.slots) pc' L (v.toList ++ rest)) (hy1 : y.name ≠ "<init>" := by decide) (hln : 3 = ps.length := by rfl) (hy : y.cls ≠ "java/lang/invoke/MethodHandle" ∧ y.cls ≠ "java/lang/invoke/VarHandle" := by decide) (hL : L.length = maxL := by rfl) (hf : rm.frames + 1 ≤ R.frames := by decide) (hl : (rest.map fun v => v.category).sum + (maxL' + 11) + rm.locals ≤ R.locals := by exact Nat.le_of_ble_eq_true rfl) (hcc : k + rm.cells ≤ R.cells := by decide) (hss : n + rm.slots ≤ R.slots := by decide) : Go Z EL nw R Post K h S k n pc L (v3 :: v2 :: v1 :: .ref a :: rest) := G.callU [v1, v2, v3] hd w1 w2 w3 w4 w5 w6 pd E c hS0 rfl hln f hy1 hy hL hf hl hcc hss
theorem Good.callSq1 {P' Q' : List (String × Nat)} (G : Good Z a0 EL K own code maxL ret nm) {v1 : Value} (hd : Dc code pc (.invokestatic index) 3 pc') (w1 : (Cond.methodLink own index y).before a0 Z = true) (w2 : (Cond.static y).before a0 Z = true) (w3 : (Cond.initialized y.cls).before a0 Z = true) (w4 : (Cond.code y bytes maxL' ret').before a0 Z = true) (pd : parseMethodDescriptor y.desc = some ⟨ps, rr⟩) (c : Con K.l Z EL (nw.1, P', Q') y bytes maxL' ret' [] rm #[v1] h S0 Post') (hS0 : ∀ x ∈ S0, x ∈ S) (f : ∀ v h' S', Post' v h' S' → h.size ≤ h'.size → Go Z EL (nw.1, Q' ++ nw.2.1, nw.2.2) R Post K h' (S' ++ S) (k + rm.cells) (n + rm.slots) pc' L (v.toList ++ rest)) (hP' : ∀ p ∈ P', p ∈ nw.2.1 := by first | (intro _ q; cases q; done) | simp) (hln : 1 = ps.length := by rfl) (hy : y.cls ≠ "java/lang/invoke/MethodHandle" ∧ y.cls ≠ "java/lang/invoke/VarHandle" := by decide) (hL : L.length = maxL := by rfl) (hf : rm.frames + 1 ≤ R.frames := by decide) (hl : (rest.map fun v => v.category).sum + (maxL' + 11) + rm.locals ≤ R.locals := by exact Nat.le_of_ble_eq_true rfl) (hcc : k + rm.cells ≤ R.cells := by decide) (hss : n + rm.slots ≤ R.slots := by decide) : Go Z EL nw R Post K h S k n pc L (v1 :: rest) := G.callSq [v1] hd w1 w2 w3 w4 pd c hP' hS0 rfl hln f hy hL hf hl hcc hss
theorem Good.callSq2 {P' Q' : List (String × Nat)} (G : Good Z a0 EL K own code maxL ret nm) {v1 v2 : Value} (hd : Dc code pc (.invokestatic index) 3 pc') (w1 : (Cond.methodLink own index y).before a0 Z = true) (w2 : (Cond.static y).before a0 Z = true) (w3 : (Cond.initialized y.cls).before a0 Z = true) (w4 : (Cond.code y bytes maxL' ret').before a0 Z = true) (pd : parseMethodDescriptor y.desc = some ⟨ps, rr⟩) (c : Con K.l Z EL (nw.1, P', Q') y bytes maxL' ret' [] rm #[v1, v2] h S0 Post') (hS0 : ∀ x ∈ S0, x ∈ S) (f : ∀ v h' S', Post' v h' S' → h.size ≤ h'.size → Go Z EL (nw.1, Q' ++ nw.2.1, nw.2.2) R Post K h' (S' ++ S) (k + rm.cells) (n + rm.slots) pc' L (v.toList ++ rest)) (hP' : ∀ p ∈ P', p ∈ nw.2.1 := by first | (intro _ q; cases q; done) | simp) (hln : 2 = ps.length := by rfl) (hy : y.cls ≠ "java/lang/invoke/MethodHandle" ∧ y.cls ≠ "java/lang/invoke/VarHandle" := by decide) (hL : L.length = maxL := by rfl) (hf : rm.frames + 1 ≤ R.frames := by decide) (hl : (rest.map fun v => v.category).sum + (maxL' + 11) + rm.locals ≤ R.locals := by exact Nat.le_of_ble_eq_true rfl) (hcc : k + rm.cells ≤ R.cells := by decide) (hss : n + rm.slots ≤ R.slots := by decide) : Go Z EL nw R Post K h S k n pc L (v2 :: v1 :: rest) := G.callSq [v1, v2] hd w1 w2 w3 w4 pd c hP' hS0 rfl hln f hy hL hf hl hcc hss
end Calls
end Jvm.Own
namespace Jvm.Own
open Jvm Jvm.ClassFile Sem Op Lib Jvm.Free Jvm.Stand Jvm.LawKit Jvm.RoadKit Bundle
/-- the String at a: its coder, its byte[] b and what that holds -/
def StrB (Z : State) (h : Heap) (a : Addr) (cd : Int32) (b : Addr) (vs : List Value) : Prop := Exa Z h a "java/lang/String" ∧ Fld Z h a "java/lang/String" "coder" "B" (.int cd) ∧ Fld Z h a "java/lang/String" "value" "[B" (.ref b) ∧ Al Z h b .byte vs
section StrFacts
variable {Z : State} {h h' : Heap} {a b : Addr} {cd : Int32} {vs : List Value} {ws : List Addr}
theorem StrB.ext (F : StrB Z h a cd b vs) (E : Ext h h') : StrB Z h' a cd b vs := ⟨F.1.ext E, F.2.1.ext E, F.2.2.1.ext E, F.2.2.2.ext E⟩
theorem StrB.keep (F : StrB Z h a cd b vs) (K : Keep h h' ws) (q : a ∉ ws) (r : b ∉ ws) : StrB Z h' a cd b vs := ⟨F.1.keep K, F.2.1.keep K q, F.2.2.1.keep K q, F.2.2.2.keep K r⟩
theorem StrB.lt (F : StrB Z h a cd b vs) : a < h.size ∧ b < h.size := ⟨F.1.lt, F.2.2.2.lt⟩
/-- an object of a class right under the root is no instance of another class -/
theorem notInst {a0 : Array Value} {C O D : String} {cnt : Nat} (w : (Cond.superclass C O).before a0 Z = true) (wo : (Cond.noSuperclass O).before a0 Z = true) (wi : (Cond.instantiable D cnt).before a0 Z = true) (h1 : C ≠ D) (h2 : O ≠ D) : ∃ c t, Z.vm.findClass C = some c ∧ Z.vm.findClass D = some t ∧ Z.vm.assignable c t = false := by
  obtain ⟨t, k', g1, g2, g3, g4, -⟩ := Cond.instantiable_spec wi
  simp only [Bool.or_eq_false_iff] at g4
  obtain ⟨co, ko, o1, o2, o3, -⟩ := Cond.noSuperclass_spec wo
  obtain ⟨c, q0⟩ := found_sup w
  obtain ⟨p, kk, kp, q1, q2, q3, q4, q5, -⟩ := Cond.superclass_spec q0 w
  cases o1.symm.trans q1
  have ne := ids_ne q0 g1 h1
  have ne' := ids_ne o1 g1 h2
  have n3 : ∀ fuel, Z.vm.isSubclassAux fuel c t = false := fun fuel => by
    cases fuel with
    | zero => rfl
    | succ f => cases f with
      | zero => simp [Vm.isSubclassAux, ne, q2, q4]
      | succ f => simp [Vm.isSubclassAux, ne, ne', q2, q4, o2, o3]
  refine ⟨c, t, q0, g1, ?_⟩
  show Z.vm.assignableAux (255 + 1) c t = false
  simp [Vm.assignableAux, ne, q2, g2, q5, g3, g4.1, Vm.isSubclass, n3]
/-- a String as the tables book it, read -/
theorem StrB.of_sl {vm : Vm} {q : SB.SQ} {units : Array UInt16} (hal : Z.vm.Alike vm) (hlat : units.all (· < 256) = true) (hv : vs = units.toList.map fun u => Value.int (Jvm.Lit.byteI u)) (F : SlB (Wst Z vm h) q units) : StrB Z h q.sa 0 q.sd vs := by
  have F0 : SlB (Wst Z Z.vm h) q units := F.carry (V := Wst Z Z.vm h) hal.symm F.ha F.hd
  obtain ⟨cS, ⟨⟨s1, s2, s3, ⟨cv, kv, iv, s4, s4'⟩, ⟨cc, kc, ic, s5, s5'⟩, s6, s7, s8, s9, s10, s11, s12, s13, s14, -, s16⟩, hf, rfl⟩, ⟨kS, k1, -, k3⟩, -, hby⟩ := F0
  have e : q.SA.slots = vs.toArray := by
    rw [hby, Jvm.Free.SBG.stringBytes_lat hlat, hv]
    apply Array.toList_inj.mp
    simp only [Array.toList_map, List.toList_toArray]
    rfl
  have el : q.SA.slots.size = vs.length := by rw [e]; simp
  refine ⟨⟨q.sC, kS, s1, hf, k1, s3, fun _ => k3⟩, ⟨q.sC, cc, kc, ic, q.fSC, s1, s5, s7, s2, s3, s5', s9⟩, ⟨q.sC, cv, kv, iv, q.fSV, s1, s4, s6, s2, s3, s4', s8⟩, ⟨q.SA, ⟨s10, s11, s12⟩, e, by rw [← el, s13]; exact s14, fun v hv' => ?_⟩⟩
  obtain ⟨i, hi, rfl⟩ := List.getElem_of_mem hv'
  have r := s16 i (by rw [el]; exact hi)
  simpa [Array.getD, e, hi] using r
theorem Resv.of_lit {s : State} {own : String} {ix : Nat} (L : Lit s own ix a) : Resv s.vm (own, ix) := by
  have L' : s.resolvedAt? own ix = some (.string a) := L
  unfold State.resolvedAt? at L'
  cases h1 : s.vm.findClass own with
  | none => simp [h1] at L'
  | some c =>
    cases h2 : s.vm.classes[c]? with
    | none => simp [h1, h2] at L'
    | some kk =>
      cases h3 : kk.resolved[ix]? with
      | none => simp [h1, h2, h3] at L'
      | some o => exact ⟨c, kk, a, h1, h2, by rw [h3]; simpa [h1, h2, h3] using L'⟩
end StrFacts
section Lit
variable {Z : State} {a0 : Array Value} {EL : List (String × Nat)} {nw : NW} {R : Room} {Post : Pst} {K : Kx} {own : String} {code : ByteArray} {maxL : Nat} {ret : Option FieldType} {nm : String} {h h' : Heap} {S : List Addr} {k n pc pc' : Nat} {L : List Slot} {st : List Value} {l : Launch}
/-- ldc of a String constant whose text is known -/
theorem Good.ldcS (G : Good Z a0 EL K own code maxL ret nm) {index : Nat} {text : String} (N : Nat) (vs : List Value) (z : Int32) (hd : Dc code pc (.ldc index) 2 pc') (w : (Cond.stringLink own index text).before a0 Z = true) (wS : ∀ a ∈ Bundle.stringAtoms, a.before a0 Z = true) (hnw : nw.1 = false) (hmem : (own, index) ∈ EL)
    (ht : (∀ c ∈ text.toList, c.toNat < 256) ∧ text.toList.map (fun c => Value.int (Jvm.Lit.byteI c.toNat.toUInt16)) = vs) (hz : ¬ z < 0) (hl : z.toNatClampNeg = vs.length) (hn : 4 * text.toList.length ≤ N) (hbig : N ≤ 536870912)
    (f : ∀ a b h', Ext h h' → StrB Z h' a 0 b vs → (∀ x ∈ S, x ≠ a ∧ x ≠ b) → Go Z EL nw R Post K h' S (k + 2) (n + (N + 4)) pc' L (.ref a :: st)) (hc : k + 2 ≤ R.cells := by decide) (hl' : n + (N + 4) ≤ R.slots := by decide) (hnp : nw.2.1 = [] := by rfl) : Go Z EL nw R Post K h S k n pc L st := fun T I => by
  obtain ⟨hd, rfl⟩ := hd
  obtain ⟨vm0, k0, locs, X, hS, hk0, hZ, e, Nf, CH, hSf, hw, hO⟩ := I
  obtain ⟨a, T', h', k1, b, kc, X', e', E, hS', hk1, hZ', hf', f1, f2, f3, f4, -, -, hC, -, hne, stp⟩ := ldcCH X G.1 hZ (G.hown hS) w wS e hS hk0 G.2.2.2.2.2.2.2 hmem CH.1 ht hz hl (g := mkF K.m pc L.toArray st) rfl (hb G.2.1 hd) hn hbig hc hl'
  have hsafe : ∀ x ∈ S, Safe Z EL T'.vm h' x := fun x hx => hC.safe (hSf x hx).2.1 (hSf x hx).2.2
  refine (f a b h' E ⟨f1, f2, f3, Al.of_arv f4 hl⟩ (fun x hx => hne x (hsafe x hx)) T' ⟨T'.vm, k1, locs, X', hS', hk1, hZ', e', Nf, CH.trans hC, fun x hx => ⟨(hSf x hx).1, Nat.lt_of_lt_of_le (hSf x hx).2.1 E.1, hsafe x hx⟩, ⟨fun q => (by rw [hnw] at q; cases q), by rw [hnp]; exact fun _ q => nomatch q⟩, ⟨Nat.le_trans hO.1 E.1, fun x c q => E.2 x c (hO.2 x c q)⟩⟩).step stp
/-- the same, and from here on the entry is known to be resolved -/
theorem Good.ldcSq (G : Good Z a0 EL K own code maxL ret nm) {index : Nat} {text : String} (N : Nat) (vs : List Value) (z : Int32) (hd : Dc code pc (.ldc index) 2 pc') (w : (Cond.stringLink own index text).before a0 Z = true) (wS : ∀ a ∈ Bundle.stringAtoms, a.before a0 Z = true) (hnw : nw.1 = false) (hmem : (own, index) ∈ EL)
    (ht : (∀ c ∈ text.toList, c.toNat < 256) ∧ text.toList.map (fun c => Value.int (Jvm.Lit.byteI c.toNat.toUInt16)) = vs) (hz : ¬ z < 0) (hl : z.toNatClampNeg = vs.length) (hn : 4 * text.toList.length ≤ N) (hbig : N ≤ 536870912)
    (f : ∀ a b h', Ext h h' → StrB Z h' a 0 b vs → (∀ x ∈ S, x ≠ a ∧ x ≠ b) → Go Z EL (nw.1, [(own, index)], nw.2.2) R Post K h' S (k + 2) (n + (N + 4)) pc' L (.ref a :: st)) (hc : k + 2 ≤ R.cells := by decide) (hl' : n + (N + 4) ≤ R.slots := by decide) : Go Z EL nw R Post K h S k n pc L st := fun T I => by
  obtain ⟨hd, rfl⟩ := hd
  obtain ⟨vm0, k0, locs, X, hS, hk0, hZ, e, Nf, CH, hSf, hw, hO⟩ := I
  obtain ⟨a, T', h', k1, b, kc, X', e', E, hS', hk1, hZ', hf', f1, f2, f3, f4, -, -, hC, hL, hne, stp⟩ := ldcCH X G.1 hZ (G.hown hS) w wS e hS hk0 G.2.2.2.2.2.2.2 hmem CH.1 ht hz hl (g := mkF K.m pc L.toArray st) rfl (hb G.2.1 hd) hn hbig hc hl'
  have hsafe : ∀ x ∈ S, Safe Z EL T'.vm h' x := fun x hx => hC.safe (hSf x hx).2.1 (hSf x hx).2.2
  have hres : ∀ p ∈ [(own, index)], Resv T'.vm p := fun p hp => by cases List.mem_singleton.mp hp; exact Resv.of_lit hL
  refine Fin'.wk ((f a b h' E ⟨f1, f2, f3, Al.of_arv f4 hl⟩ (fun x hx => hne x (hsafe x hx)) T' ⟨T'.vm, k1, locs, X', hS', hk1, hZ', e', Nf, CH.trans hC, fun x hx => ⟨(hSf x hx).1, Nat.lt_of_lt_of_le (hSf x hx).2.1 E.1, hsafe x hx⟩, ⟨fun q => (by have q' : nw.1 = true := q; rw [hnw] at q'; cases q'), hres⟩, ⟨Nat.le_trans hO.1 E.1, fun x c q => E.2 x c (hO.2 x c q)⟩⟩).step stp)
/-- ldc of a String constant that is known to be resolved: nothing is made -/
theorem Good.ldcW (G : Good Z a0 EL K own code maxL ret nm) {index : Nat} {text : String} (vs : List Value) (hd : Dc code pc (.ldc index) 2 pc') (w : (Cond.stringLink own index text).before a0 Z = true) (hmem : (own, index) ∈ EL) (hp : (own, index) ∈ nw.2.1)
    (ht : (∀ c ∈ text.toList, c.toNat < 256) ∧ text.toList.map (fun c => Value.int (Jvm.Lit.byteI c.toNat.toUInt16)) = vs)
    (f : ∀ a b, StrB Z h a 0 b vs → (∀ x ∈ S, x ≠ a ∧ x ≠ b) → Go Z EL nw R Post K h S k n pc' L (.ref a :: st)) : Go Z EL nw R Post K h S k n pc L st := fun T I => by
  obtain ⟨hd, rfl⟩ := hd
  obtain ⟨vm0, k0, locs, X, hS, hk0, hZ, e, Nf, CH, hSf, hw, hO⟩ := I
  obtain ⟨c, kk, a, r1, r2, r3⟩ := hw.2 _ hp
  dsimp only at r1 r2 r3
  have w2 : (Cond.stringLink own index text).before a0 (K.s.setVm vm0) = true := mvS hZ w
  have hf : (K.s.setVm vm0).vm.findClass own = some c := r1
  have hL : (K.s.setVm vm0).resolvedAt? own index = some (.string a) := by
    simp [State.resolvedAt?, r1, r2, r3]
  have w3 : (Cond.stringRef own index text).before a0 (K.s.setVm vm0) = true := by
    have q := w2
    simp only [Cond.before, Cond.holds, Cond.value, hf, Option.map_some, beq_iff_eq, Option.some.injEq, Bool.and_eq_true] at q ⊢
    exact ⟨q.1, by rw [hL]⟩
  obtain ⟨k', cf, i, units, hk', hcf, hp1, hu, -, htext, -⟩ := Cond.stringLink_spec (s := K.s.setVm vm0) hf w2
  cases hk'.symm.trans r2
  have hB : Booksv vm0 own index units a := ⟨c, _, cf, i, r1, r2, hcf, hp1, hu, Or.inl r3⟩
  obtain ⟨q, hq, F⟩ := SlB.of (CH.1 _ hmem units a hB)
  subst hq
  have hSB : StrB Z h q.sa 0 q.sd vs := StrB.of_sl hZ.alike (Jvm.ClassFile.lat_of_text htext ht.1) (by rw [← ht.2, Jvm.ClassFile.units_of_text htext ht.1, List.map_map]; rfl) F
  refine (f q.sa q.sd hSB (fun x hx => ⟨fun z => (hSf x hx).2.2 ⟨_, hmem, units, _, hB, q, rfl, F, Or.inl z⟩, fun z => (hSf x hx).2.2 ⟨_, hmem, units, _, hB, q, rfl, F, Or.inr z⟩⟩) T ⟨vm0, k0, locs, X, hS, hk0, hZ, e, Nf, CH, hSf, hw, hO⟩).step ?_
  exact ldcR X G.1 (State.Warmed39.refl _) (G.hown hS) w3 hL (g := mkF K.m pc L.toArray st) rfl (hb G.2.1 hd)
/-- ldc of a String constant, what it holds unsaid -/
theorem Good.ldcO (G : Good Z a0 EL K own code maxL ret nm) {index : Nat} {text : String} (N : Nat) (hd : Dc code pc (.ldc index) 2 pc') (w : (Cond.stringLink own index text).before a0 Z = true) (wS : ∀ a ∈ Bundle.stringAtoms, a.before a0 Z = true) (hnw : nw.1 = false) (hn : 4 * text.toList.length ≤ N) (hbig : N ≤ 536870912)
    (f : ∀ a h', Ext h h' → Go Z EL nw R Post K h' S (k + 2) (n + (N + 4)) pc' L (.ref a :: st)) (hc : k + 2 ≤ R.cells := by decide) (hl' : n + (N + 4) ≤ R.slots := by decide) (hnp : nw.2.1 = [] := by rfl) : Go Z EL nw R Post K h S k n pc L st := fun T I => by
  obtain ⟨hd, rfl⟩ := hd
  obtain ⟨vm0, k0, locs, X, hS, hk0, hZ, e, Nf, CH, hSf, hw, hO⟩ := I
  obtain ⟨a, T', h', k1, X', e', E, hS', hk1, hZ', hf', hC, -, stp⟩ := ldcOH X G.1 hZ (G.hown hS) w wS e hS hk0 G.2.2.2.2.2.2.2 CH.1 (g := mkF K.m pc L.toArray st) rfl (hb G.2.1 hd) hn hbig hc hl'
  exact (f a h' E T' ⟨T'.vm, k1, locs, X', hS', hk1, hZ', e', Nf, CH.trans hC, fun x hx => ⟨(hSf x hx).1, Nat.lt_of_lt_of_le (hSf x hx).2.1 E.1, hC.safe (hSf x hx).2.1 (hSf x hx).2.2⟩, ⟨fun q => (by rw [hnw] at q; cases q), by rw [hnp]; exact fun _ q => nomatch q⟩, ⟨Nat.le_trans hO.1 E.1, fun x c q => E.2 x c (hO.2 x c q)⟩⟩).step stp
end Lit
end Jvm.Own
namespace Jvm.Own
open Jvm Jvm.ClassFile Sem Op Lib Jvm.Free Jvm.Stand Jvm.LawKit Jvm.RoadKit Bundle
section More
variable {Z : State} {a0 : Array Value} {EL : List (String × Nat)} {nw : NW} {R : Room} {Post : Pst} {K : Kx} {own : String} {code : ByteArray} {maxL : Nat} {ret : Option FieldType} {nm : String} {h h' : Heap} {S : List Addr} {k n pc pc' : Nat} {L : List Slot} {st : List Value} {l : Launch}
/-- newarray, with the array's class -/
theorem Good.newAE (G : Good Z a0 EL K own code maxL ret nm) {aty : ArrayType} {j : Int32} {ad : String} (i cap : Nat) (hd : Dc code pc (.newarray aty) 2 pc') (w : (Cond.arrayClass (newarray.typeOf aty)).before a0 Z = true) (had : "[" ++ (newarray.typeOf aty).toString = ad) (hj : j.toInt = (i : Int)) (hi : i ≤ cap)
    (f : ∀ h', Ext h h' → h.size < h'.size → (Al Z h' h.size (newarray.typeOf aty) (List.replicate i (defaultValue (newarray.typeOf aty))) ∧ Exa Z h' h.size ad) → Go Z EL nw R Post K h' (h.size :: S) (k + 1) (n + cap) pc' L (.ref h.size :: st)) (hb' : cap * 8 ≤ 536870912 := by decide) (hc : k + 1 ≤ R.cells := by decide) (hl : n + cap ≤ R.slots := by decide) : Go Z EL nw R Post K h S k n pc L (.int j :: st) := by
  obtain ⟨hd, rfl⟩ := hd
  obtain ⟨j1, j2⟩ := nat_idx hj
  refine Go.grow G (fun T vm0 locs X hZ hown e => ?_) f
  obtain ⟨T', h', cA, X', e', E, A, Ex, stp⟩ := newPE X G.1 hZ w e (g := mkF K.m pc L.toArray (.int j :: st)) rfl (hb G.2.1 hd) rfl j1 (by rw [j2]; exact hi) hb' hc hl had
  exact ⟨T', h', X', e', E, A.lt, ⟨⟨_, A, by simp [RoadKit.newA, j2], by simp; omega, fun v hv => by rw [List.eq_of_mem_replicate hv]; cases aty <;> rfl⟩, Ex⟩, stp⟩
/-- baload of a boolean[] -/
theorem Good.zaload (G : Good Z a0 EL K own code maxL ret nm) {a : Addr} {vs : List Value} {j : Int32} {i : Nat} {v : Value} (hd : Dc code pc .baload 1 pc') (A : Al Z h a .boolean vs) (hj : j.toInt = (i : Int)) (hv : vs[i]? = some v) (f : Go Z EL nw R Post K h S k n pc' L (v :: st)) : Go Z EL nw R Post K h S k n pc L (.int j :: .ref a :: st) := by
  obtain ⟨hd, rfl⟩ := hd
  obtain ⟨c, A1, A2, A3, A4⟩ := A
  obtain ⟨j1, j2⟩ := nat_idx hj
  have hlt := (List.getElem?_eq_some_iff.mp hv).1
  refine Go.calm G (fun T vm0 locs X hZ hown e => ⟨T, X, e, fun t q => ?_⟩) f
  exact X.baloadBooleans G.1 (by rw [e]; exact A1.1) (State.isArrayOf_alike hZ.alike A1.2.1) A1.2.2 (by rw [j2, A2]; simp only [List.size_toArray]; rintro (q | q); exact j1 q; omega) (by rw [j2, A2]; simpa using hv) (g := mkF K.m pc L.toArray (.int j :: .ref a :: st)) rfl rfl (hb G.2.1 hd) t q
/-- clone of an array -/
theorem Good.aclone (G : Good Z a0 EL K own code maxL ret nm) {ad : String} {index : Nat} {a : Addr} {ty : FieldType} {vs : List Value} (cap : Nat) (hd : Dc code pc (.invokevirtual index) 3 pc')
    (w1 : (Cond.methodLink own index ⟨ad, "clone", "()Ljava/lang/Object;"⟩).before a0 Z = true) (w2 : (Cond.sameMethod ad "java/lang/Object" "clone" "()Ljava/lang/Object;").before a0 Z = true) (w3 : (Cond.native ⟨"java/lang/Object", "clone", "()Ljava/lang/Object;"⟩).before a0 Z = true)
    (w4 : (Cond.instanceMethod ⟨"java/lang/Object", "clone", "()Ljava/lang/Object;"⟩).before a0 Z = true) (w5 : (Cond.selects ad ⟨ad, "clone", "()Ljava/lang/Object;"⟩ ⟨"java/lang/Object", "clone", "()Ljava/lang/Object;"⟩).before a0 Z = true) (w6 : (Cond.castable ad "java/lang/Cloneable").before a0 Z = true)
    (A : Al Z h a ty vs) (E : Exa Z h a ad) (hcap : vs.length ≤ cap)
    (f : ∀ h', Ext h h' → h.size < h'.size → (Al Z h' h.size ty vs ∧ Exa Z h' h.size ad) → Go Z EL nw R Post K h' (h.size :: S) (k + 1) (n + cap) pc' L (.ref h.size :: st)) (hL : L.length = maxL := by rfl) (hf : 1 ≤ R.frames := by decide) (hl : (st.map fun v => v.category).sum + 14 ≤ R.locals := by exact Nat.le_of_ble_eq_true rfl) (hc : k + 1 ≤ R.cells := by decide) (hsl : n + cap ≤ R.slots := by decide) : Go Z EL nw R Post K h S k n pc L (.ref a :: st) := by
  obtain ⟨hd, rfl⟩ := hd
  obtain ⟨c, A1, A2, A3, A4⟩ := A
  refine Go.grow G (fun T vm0 locs X hZ hown e => ?_) f
  have FC : FitC Z c := fitC_of A1 fun i hi v hv => A4 v (by rw [A2] at hv; exact List.mem_of_getElem? (by simpa using hv))
  obtain ⟨T', h', X', e', ex, A', E', stp⟩ := cloneA X G.1 hZ hown w1 w2 w3 w4 w5 w6 e A1 E FC (g := mkF K.m pc L.toArray (.ref a :: st)) rfl (by rw [G.2.2.1]; simpa using hL) rfl (hb G.2.1 hd) hf (W := (st.map fun v => v.category).sum) (by show 2 * 0 + _ ≤ _; omega) hl (by rw [A2]; simpa using hcap) hc hsl
  exact ⟨T', h', X', e', ex, A'.lt, ⟨⟨_, A', A2, A3, A4⟩, E'⟩, stp⟩
end More
end Jvm.Own
namespace Jvm.Own
open Jvm Jvm.ClassFile Sem Op Lib Jvm.Free Jvm.Stand Jvm.LawKit Jvm.RoadKit Bundle
section More2
variable {Z : State} {a0 : Array Value} {EL : List (String × Nat)} {nw : NW} {R : Room} {Post : Pst} {K : Kx} {own : String} {code : ByteArray} {maxL : Nat} {ret : Option FieldType} {nm : String} {h h' : Heap} {S : List Addr} {k n pc pc' : Nat} {L : List Slot} {st : List Value} {l : Launch}
/-- anewarray, with the array's class -/
theorem Good.newRE (G : Good Z a0 EL K own code maxL ret nm) {C ad : String} {index : Nat} {j : Int32} (i cap : Nat) (hd : Dc code pc (.anewarray index) 3 pc') (w1 : (Cond.classLink own index C).before a0 Z = true) (w2 : (Cond.arrayOver (.object C)).before a0 Z = true) (had : "[" ++ (FieldType.object C).toString = ad) (hj : j.toInt = (i : Int)) (hi : i ≤ cap)
    (f : ∀ h', Ext h h' → h.size < h'.size → (Al Z h' h.size (.object C) (List.replicate i .null) ∧ Exa Z h' h.size ad ∧ ∃ c cA, Arr Z h' h.size c (.object C) ∧ c.cls = cA ∧ Ovr Z cA C) → Go Z EL nw R Post K h' (h.size :: S) (k + 1) (n + cap) pc' L (.ref h.size :: st)) (hb' : cap * 8 ≤ 536870912 := by decide) (hc : k + 1 ≤ R.cells := by decide) (hl : n + cap ≤ R.slots := by decide) : Go Z EL nw R Post K h S k n pc L (.int j :: st) := by
  obtain ⟨hd, rfl⟩ := hd
  obtain ⟨j1, j2⟩ := nat_idx hj
  refine Go.grow G (fun T vm0 locs X hZ hown e => ?_) f
  obtain ⟨T', h', cA, X', e', E, A, Ex, O, stp⟩ := RoadKit.newRE X G.1 hZ hown w1 w2 e (g := mkF K.m pc L.toArray (.int j :: st)) rfl (hb G.2.1 hd) rfl j1 (by rw [j2]; exact hi) hb' hc hl had
  exact ⟨T', h', X', e', E, A.lt, ⟨⟨_, A, by simp [RoadKit.newA, j2, defaultValue], by simp; omega, fun v hv => by rw [List.eq_of_mem_replicate hv]; rfl⟩, Ex, _, cA, A, rfl, O⟩, stp⟩
/-- Object.getClass on an object of a class whose Class object is made -/
theorem Good.gcls (G : Good Z a0 EL K own code maxL ret nm) {C : String} {index : Nat} {a mr : Addr} (hd : Dc code pc (.invokevirtual index) 3 pc') (w1 : (Cond.methodLink own index ⟨"java/lang/Object", "getClass", "()Ljava/lang/Class;"⟩).before a0 Z = true) (w2 : (Cond.declares ⟨"java/lang/Object", "getClass", "()Ljava/lang/Class;"⟩).before a0 Z = true) (w3 : (Cond.noSuperclass "java/lang/Object").before a0 Z = true) (w4 : (Cond.selects C ⟨"java/lang/Object", "getClass", "()Ljava/lang/Class;"⟩ ⟨"java/lang/Object", "getClass", "()Ljava/lang/Class;"⟩).before a0 Z = true)
    (w5 : (Cond.instanceMethod ⟨"java/lang/Object", "getClass", "()Ljava/lang/Class;"⟩).before a0 Z = true) (w6 : (Cond.native ⟨"java/lang/Object", "getClass", "()Ljava/lang/Class;"⟩).before a0 Z = true) (E : Exa Z h a C) (M : Mir Z C mr)
    (f : Go Z EL nw R Post K h S k n pc' L (.ref mr :: st)) (hL : L.length = maxL := by rfl) (hf : 1 ≤ R.frames := by decide) (hl : (st.map fun v => v.category).sum + (nativeFrameWords "java/lang/Object" "getClass" 1 + 11) ≤ R.locals := by exact Nat.le_of_ble_eq_true rfl) : Go Z EL nw R Post K h S k n pc L (.ref a :: st) := by
  obtain ⟨hd, rfl⟩ := hd
  refine Go.calm G (fun T vm0 locs X hZ hown e => ?_) f
  exact RoadKit.gcls X G.1 hZ hown w1 w2 w3 w4 w5 w6 e E M (g := mkF K.m pc L.toArray (.ref a :: st)) rfl (by rw [G.2.2.1]; simpa using hL) rfl (hb G.2.1 hd) hf (W := (st.map fun v => v.category).sum) (by show 2 * 0 + _ ≤ _; omega) hl
/-- ldc of a class whose Class object is made -/
theorem Good.ldcMir (G : Good Z a0 EL K own code maxL ret nm) {C : String} {index : Nat} {mr : Addr} (hd : Dc code pc (.ldc index) 2 pc') (w : (Cond.classLink own index C).before a0 Z = true) (M : Mir Z C mr) (f : Go Z EL nw R Post K h S k n pc' L (.ref mr :: st)) : Go Z EL nw R Post K h S k n pc L st := by
  obtain ⟨hd, rfl⟩ := hd
  refine Go.calm G (fun T vm0 locs X hZ hown e => ?_) f
  obtain ⟨cc, kc, m1, m2, m3, -⟩ := M
  obtain ⟨k', q, ek⟩ := hZ.alike.2.2 _ _ m2
  have f1 : (K.s.setVm vm0).vm.findClass C = some cc := by rw [hZ.alike.findClass]; exact m1
  have f2 : vm0.findClass C = some cc := f1
  have f3 : vm0.classes[cc]? = some k' := q
  have f4 : k'.mirror = some mr := by rw [ek]; exact m3
  obtain ⟨vm', X', stp⟩ := X.ldcMirror G.1 hown (mvT hZ w) (C := C) (a := mr) (by simp [Term.eval, f2, f3, f4]) (g := mkF K.m pc L.toArray st) rfl (hb G.2.1 hd)
  exact ⟨_, X', e, stp⟩
theorem Good.tswIn (G : Good Z a0 EL K own code maxL ret nm) {dflt low high : Int} {offs : Array Int} {len : Nat} {o : Int} {i : Int32} (hd : decode code pc = .ok (.tableswitch dflt low high offs, len)) (hin : ¬ (i.toInt < low ∨ i.toInt > high)) (hoff : offs[(i.toInt - low).toNat]? = some o) (ho : 0 ≤ (pc : Int) + o) (hp : ((pc : Int) + o).toNat = pc') (f : Go Z EL nw R Post K h S k n pc' L st) : Go Z EL nw R Post K h S k n pc L (.int i :: st) :=
  Go.plain (fun T t X q => XS.tswIn X G.1 rfl (pc0 := pc) rfl (hb G.2.1 hd) rfl hin hoff ho hp q) f
theorem Good.tswOut (G : Good Z a0 EL K own code maxL ret nm) {dflt low high : Int} {offs : Array Int} {len : Nat} {i : Int32} (hd : decode code pc = .ok (.tableswitch dflt low high offs, len)) (hout : i.toInt < low ∨ i.toInt > high) (ho : 0 ≤ (pc : Int) + dflt) (hp : ((pc : Int) + dflt).toNat = pc') (f : Go Z EL nw R Post K h S k n pc' L st) : Go Z EL nw R Post K h S k n pc L (.int i :: st) :=
  Go.plain (fun T t X q => XS.tswOut X G.1 rfl (pc0 := pc) rfl (hb G.2.1 hd) rfl hout ho hp q) f
theorem Good.getSN (G : Good Z a0 EL K own code maxL ret nm) {R0 O fn d host : String} {index : Nat} {v : Value} (hd : Dc code pc (.getstatic index) 3 pc') (w : (Cond.fieldLinkNest own index R0 fn d host).before a0 Z = true) (F : Sta Z Z.heap O fn d v) (f : Go Z EL nw R Post K h S k n pc' L (v :: st)) (via : Via Z R0 O fn d := by exact Via.refl) : Go Z EL nw R Post K h S k n pc L st := by
  obtain ⟨hd, rfl⟩ := hd
  refine Go.oldIn (fun O' => ?_)
  refine Go.calm G (fun T vm0 locs X hZ hown e => ?_) f
  exact getS2 X G.1 hZ hown (Or.inr w) via e (Sta.old F O') (g := mkF K.m pc L.toArray st) rfl (hb G.2.1 hd)
/-- a constructor of a nestmate -/
theorem Good.callIN2 (G : Good Z a0 EL K own code maxL ret nm) {rest : List Value} {y : MethodName} {bytes : ByteArray} {maxL' : Nat} {rm : Room} {S0 : List Addr} {Post' : Pst} {ps : List FieldType} {rr : Option FieldType} {index : Nat} {host : String} {a : Addr} {v1 v2 : Value} (hd : Dc code pc (.invokespecial index) 3 pc') (w1 : (Cond.methodLinkNest own index y host).before a0 Z = true) (w2 : (Cond.instanceMethod y).before a0 Z = true) (w3 : (Cond.initialized y.cls).before a0 Z = true) (w4 : (Cond.code y bytes maxL' none).before a0 Z = true)
    (pd : parseMethodDescriptor y.desc = some ⟨ps, rr⟩) (c : Con K.l Z EL (nw.1, [], []) y bytes maxL' none [] rm #[.ref a, v1, v2] h S0 Post') (hS0 : ∀ x ∈ S0, x ∈ S)
    (f : ∀ v h' S', Post' v h' S' → h.size ≤ h'.size → Go Z EL nw R Post K h' (S' ++ S) (k + rm.cells) (n + rm.slots) pc' L (v.toList ++ rest))
    (hy1 : y.name = "<init>" := by rfl) (hln : 2 = ps.length := by rfl) (hy : y.cls ≠ "java/lang/invoke/MethodHandle" ∧ y.cls ≠ "java/lang/invoke/VarHandle" := by decide) (hL : L.length = maxL := by rfl) (hf : rm.frames + 1 ≤ R.frames := by decide) (hl : (rest.map fun v => v.category).sum + (maxL' + 11) + rm.locals ≤ R.locals := by exact Nat.le_of_ble_eq_true rfl) (hcc : k + rm.cells ≤ R.cells := by decide) (hss : n + rm.slots ≤ R.slots := by decide) : Go Z EL nw R Post K h S k n pc L (v2 :: v1 :: .ref a :: rest) := by
  obtain ⟨hd, rfl⟩ := hd
  refine Go.callG0 (len := 3) G c hS0 w4 w3 hf hl hcc hss (fun T vm0 locs X hZ hown e hK hpre => ?_) f
  exact X.specialBackNestS G.1 hy1 hown (Cond.methodLinkNest_wide hZ w1) (mvT hZ w2) (mvT hZ w4) hy hK (g := mkF K.m pc L.toArray (v2 :: v1 :: .ref a :: rest)) rfl (by rw [G.2.2.1]; simpa using hL) (Steps.refl _) (argsL := [v1, v2]) (lenOf pd hln) rfl (by show 2 * 0 + _ ≤ _; omega) (hb G.2.1 hd) hpre
/-- System.arraycopy of references, into a cell of S -/
theorem Good.acopyR (G : Good Z a0 EL K own code maxL ret nm) {index : Nat} {a b : Addr} {ty ty' : FieldType} {vs vd : List Value} {sp dp nn : Int32} (i j m : Nat) (hd : Dc code pc (.invokestatic index) 3 pc') (w1 : (Cond.methodLink own index Jvm.Stand.acN).before a0 Z = true) (w2 : (Cond.native Jvm.Stand.acN).before a0 Z = true) (w3 : (Cond.static Jvm.Stand.acN).before a0 Z = true) (w4 : (Cond.initialized "java/lang/System").before a0 Z = true)
    (A : Al Z h a ty vs) (B : Al Z h b ty' vd) (hty : refKind ty = true) (hty' : refKind ty' = true) (hst : StoL Z h b ((vs.drop i).take m)) (hb' : b ∈ S) (hi : sp.toInt = (i : Int)) (hj : dp.toInt = (j : Int)) (hm : nn.toInt = (m : Int)) (h4 : i + m ≤ vs.length) (h5 : j + m ≤ vd.length)
    (f : ∀ h', Keep h h' [b] → Al Z h' b ty' (vd.take j ++ (vs.drop i).take m ++ vd.drop (j + m)) → Go Z EL nw R Post K h' S k n pc' L st) (hL : L.length = maxL := by rfl) (hf : 1 ≤ R.frames := by decide) (hl : (st.map fun v => v.category).sum + (nativeFrameWords "java/lang/System" "arraycopy" 5 + 11) ≤ R.locals := by exact Nat.le_of_ble_eq_true rfl) :
    Go Z EL nw R Post K h S k n pc L (.int nn :: .int dp :: .ref b :: .int sp :: .ref a :: st) := fun T I => by
  obtain ⟨hd, rfl⟩ := hd
  obtain ⟨vm0, k0, locs, X, hS, hk0, hZ, e, N, CH, hSf, hw, hO⟩ := I
  obtain ⟨c1, c2, c3⟩ := hSf b hb'
  obtain ⟨ka, Av⟩ := A.arv .null
  obtain ⟨kb, Bv⟩ := B.arv .null
  obtain ⟨i1, i2⟩ := nat_idx hi
  obtain ⟨j1, j2⟩ := nat_idx hj
  obtain ⟨m1, m2⟩ := nat_idx hm
  have ea : (Int32.ofNat vs.length).toNatClampNeg = vs.length := by simp [Int32.toNatClampNeg, len_toInt A.len]
  have eb : (Int32.ofNat vd.length).toNatClampNeg = vd.length := by simp [Int32.toNatClampNeg, len_toInt B.len]
  have hus : (vs.drop i).take m = (List.range nn.toNatClampNeg).map fun q => vs.getD (sp.toNatClampNeg + q) .null := by
    rw [m2, i2]
    apply List.ext_getElem
    · simp; omega
    · intro q q1 q2
      simp only [List.length_map, List.length_range] at q2
      have : i + q < vs.length := by omega
      simp [List.getD_eq_getElem?_getD, this]
  obtain ⟨T', h', L', X', e', N', Kp, B', stp⟩ := cpA X G.1 hZ (G.hown hS) w1 w2 w3 w4 e Av Bv (Or.inr ⟨hty, hty', hst⟩) i1 j1 m1 (by rw [i2, m2, ea]; exact h4) (by rw [j2, m2, eb]; exact h5) hus (by rw [j2, m2]; exact h5) N c1 (g := mkF K.m pc L.toArray (.int nn :: .int dp :: .ref b :: .int sp :: .ref a :: st)) rfl (by rw [G.2.2.1]; simpa using hL) rfl (hb G.2.1 hd) hf (W := (st.map fun v => v.category).sum) (by show 2 * 0 + _ ≤ _; omega) hl
  rw [j2, m2] at B'
  have sfb : ∀ x ∈ [b], Safe Z EL vm0 h x := fun x hx => by cases List.mem_singleton.mp hx; exact c3
  have hC := CHr.keep Kp sfb CH.1
  refine (f h' Kp (Al.of_arv B' (by rw [eb]; simp; omega)) T' ⟨vm0, k0, L', X', hS, Nat.le_trans hk0 Kp.1, hZ, e', N', CH.trans hC, fun x hx => ?_, hw, ⟨Nat.le_trans hO.1 Kp.1, fun x c q => Kp.2.1 x c (hO.2 x c q) (fun z => by cases List.mem_singleton.mp z; exact absurd (Array.getElem?_eq_some_iff.mp q).1 (Nat.not_lt.mpr c1))⟩⟩).step stp
  obtain ⟨b1, b2, b3⟩ := hSf x hx
  exact ⟨b1, Nat.lt_of_lt_of_le b2 Kp.1, Safe.keep Kp sfb CH.1 b3⟩
/-- a class with three classes above it is no subclass of D -/
theorem notInst3 {C1 C2 C3 O D : String} {cnt : Nat} (w1 : (Cond.superclass C1 C2).before a0 Z = true) (w2 : (Cond.superclass C2 C3).before a0 Z = true) (w3 : (Cond.superclass C3 O).before a0 Z = true) (wo : (Cond.noSuperclass O).before a0 Z = true) (wi : (Cond.instantiable D cnt).before a0 Z = true) (h1 : C1 ≠ D) (h2 : C2 ≠ D) (h3 : C3 ≠ D) (h4 : O ≠ D) : ∃ c t, Z.vm.findClass C1 = some c ∧ Z.vm.findClass D = some t ∧ Z.vm.assignable c t = false := by
  obtain ⟨t, k', g1, g2, g3, g4, -⟩ := Cond.instantiable_spec wi
  simp only [Bool.or_eq_false_iff] at g4
  obtain ⟨co, ko, o1, o2, o3, -⟩ := Cond.noSuperclass_spec wo
  obtain ⟨a1, q0⟩ := found_sup w1
  obtain ⟨a2, r0⟩ := found_sup w2
  obtain ⟨a3, s0⟩ := found_sup w3
  obtain ⟨p1, kk1, kp1, q1, q2, q3, q4, q5, -⟩ := Cond.superclass_spec q0 w1
  obtain ⟨p2, kk2, kp2, r1, r2, r3, r4, r5, -⟩ := Cond.superclass_spec r0 w2
  obtain ⟨p3, kk3, kp3, s1, s2, s3, s4, s5, -⟩ := Cond.superclass_spec s0 w3
  cases r0.symm.trans q1
  cases s0.symm.trans r1
  cases o1.symm.trans s1
  have n1 := ids_ne q0 g1 h1
  have n2 := ids_ne r0 g1 h2
  have n3 := ids_ne s0 g1 h3
  have n4 := ids_ne o1 g1 h4
  have n5 : ∀ fuel, Z.vm.isSubclassAux fuel a1 t = false := fun fuel => by
    cases fuel with
    | zero => rfl
    | succ f => cases f with
      | zero => simp [Vm.isSubclassAux, n1, q2, q4]
      | succ f => cases f with
        | zero => simp [Vm.isSubclassAux, n1, n2, q2, q4, r2, r4]
        | succ f => cases f with
          | zero => simp [Vm.isSubclassAux, n1, n2, n3, q2, q4, r2, r4, s2, s4]
          | succ f => simp [Vm.isSubclassAux, n1, n2, n3, n4, q2, q4, r2, r4, s2, s4, o2, o3]
  refine ⟨a1, t, q0, g1, ?_⟩
  show Z.vm.assignableAux (255 + 1) a1 t = false
  simp [Vm.assignableAux, n1, q2, g2, q5, g3, g4.1, Vm.isSubclass, n5]
end More2
end Jvm.Own
namespace Jvm.Own
open Jvm Jvm.ClassFile Sem Op Lib Jvm.Free Jvm.Stand Jvm.LawKit Jvm.RoadKit Bundle
/-- an array of N chars, of which the first ones have been written -/
def nA (N : Nat) (out : List Int32) : List Value := out.map Value.int ++ List.replicate (N - out.length) (.int 0)
theorem nA_zero (N : Nat) : nA N [] = List.replicate N (.int 0) := by simp [nA]
theorem nA_len {N : Nat} {out : List Int32} (h : out.length ≤ N) : (nA N out).length = N := by simp [nA]; omega
theorem nA_get {N j : Nat} {out : List Int32} {c : Int32} (h : out[j]? = some c) : (nA N out)[j]? = some (.int c) := by
  have hl := (List.getElem?_eq_some_iff.mp h).1
  unfold nA
  rw [List.getElem?_append_left (by simpa using hl)]
  simp [h]
theorem nA_put {N : Nat} {out : List Int32} (h : out.length < N) (c : Int32) : (nA N out).set out.length (.int c) = nA N (out ++ [c]) := by
  obtain ⟨m, hm⟩ : ∃ m, N - out.length = m + 1 := ⟨N - out.length - 1, by omega⟩
  have e : N - (out ++ [c]).length = m := by simp; omega
  unfold nA
  rw [e, hm, List.replicate_succ, List.set_append_right _ _ (by simp)]
  simp
section Chars
variable {Z : State} {a0 : Array Value} {EL : List (String × Nat)} {nw : NW} {R : Room} {Post : Pst} {K : Kx} {own : String} {code : ByteArray} {maxL : Nat} {ret : Option FieldType} {nm : String} {h h' : Heap} {S : List Addr} {k n pc pc' : Nat} {L : List Slot} {st : List Value} {l : Launch}
/-- the next char of such an array -/
theorem Good.castA (G : Good Z a0 EL K own code maxL ret nm) {a : Addr} {N : Nat} {out : List Int32} {j x : Int32} (hd : Dc code pc .castore 1 pc') (ha : a ∈ S) (A : Al Z h a .char (nA N out)) (hj : j.toInt = (out.length : Int)) (hi : out.length < N) (hx : 0 ≤ x.toInt ∧ x.toInt < 65536)
    (f : ∀ h', Wr h h' a out.length (.int x) → Al Z h' a .char (nA N (out ++ [x])) → Go Z EL nw R Post K h' S k n pc' L st) : Go Z EL nw R Post K h S k n pc L (.int x :: .int j :: .ref a :: st) := by
  have e : nar .char x = x := by
    have := c_i2c x
    apply Int32.toInt_inj.mp
    show x.toUInt32.toUInt16.toUInt32.toInt32.toInt = x.toInt
    omega
  refine G.castore hd ha A hj (by rw [nA_len (by omega)]; exact hi) (fun h' W A' => ?_)
  rw [e] at W A'
  rw [nA_put hi] at A'
  exact f h' W A'
end Chars
end Jvm.Own
namespace Jvm.Pilot.@@N@@
open Jvm Jvm.ClassFile Sem Op Lib Jvm.Free Jvm.Stand Jvm.LawKit Jvm.RoadKit Jvm.Own Bundle Jvm.Pilot.@@N@@.Jvm.D
set_option maxRecDepth 65536
set_option maxHeartbeats 4000000
abbrev hwT (a0 : Array Value) (Z : State) : Prop := ∀ (i : Nat) {d : Jvm.Cond}, tables_1[i]? = some d → d.before a0 Z = true
abbrev SN : String := "java/lang/String"
def CS (Z : State) : Prop := ∃ cc : Int32, Sta Z Z.heap "java/lang/String" "COMPACT_STRINGS" "Z" (.int cc) ∧ ¬ cc = 0
/-- a char's byte in a Latin-1 String -/
def bL (c : Int32) : Value := .int c.toInt8.toInt32
def Lat (cs : List Int32) : Prop := ∀ c ∈ cs, 0 ≤ c.toInt ∧ c.toInt < 256
abbrev rm0 : Room := { frames := 0, cells := 0, slots := 0, locals := 0 }
theorem inc_toInt {x : Int32} {i : Nat} (hx : x.toInt = (i : Int)) (hi : i + 1 < 2147483648) : (x + 1).toInt = ((i + 1 : Nat) : Int) := by
  have h1 := c_iadd x 1
  have h2 : (1 : Int32).toInt = 1 := by decide
  have h3 := rng32 (x + 1)
  rw [h2, hx] at h1
  omega
theorem lt_of_toInt {x y : Int32} (h : x.toInt < y.toInt) : x < y := Int32.lt_iff_toInt_lt.mpr h
theorem not_lt_of_toInt {x y : Int32} (h : y.toInt ≤ x.toInt) : ¬ x < y := fun q => by rw [Int32.lt_iff_toInt_lt] at q; omega
theorem nar8 (c : Int32) : nar .byte c.toInt8.toInt32 = c.toInt8.toInt32 := by simp [nar]
theorem set_mid {α : Type} (A B : List α) (x y : α) : (A ++ x :: B).set A.length y = A ++ y :: B := by simp
theorem get_mid {α : Type} (A B : List α) (x : α) : (A ++ x :: B)[A.length]? = some x := by simp
theorem toInt_0 : (0 : Int32).toInt = 0 := by decide
theorem byte_back {c : Int32} (h0 : 0 ≤ c.toInt) (h1 : c.toInt < 256) : (c.toInt8.toInt32 &&& 255) = c := by
  have a1 := c_i2b c
  have a2 := c_mask c.toInt8.toInt32 255 8 (by decide) (by decide)
  apply Int32.toInt_inj.mp
  have h2 : ((2 ^ 8 : Nat) : Int) = 256 := by decide
  rw [h2] at a2
  omega
theorem bL_inj {c d : Int32} (hc : 0 ≤ c.toInt ∧ c.toInt < 256) (hd : 0 ≤ d.toInt ∧ d.toInt < 256) (h : c.toInt8.toInt32 = d.toInt8.toInt32) : c = d := by
  rw [← byte_back hc.1 hc.2, ← byte_back hd.1 hd.2, h]
theorem nar_char {x : Int32} (h0 : 0 ≤ x.toInt) (h1 : x.toInt < 65536) : nar .char x = x := by
  have := c_i2c x
  apply Int32.toInt_inj.mp
  show x.toUInt32.toUInt16.toUInt32.toInt32.toInt = x.toInt
  omega
theorem ch255 (x : Int32) : 0 ≤ ((x &&& 255).toUInt32.toUInt16.toUInt32.toInt32).toInt ∧ ((x &&& 255).toUInt32.toUInt16.toUInt32.toInt32).toInt < 256 := by
  rw [i2c_mask]
  have a2 := c_mask x 255 8 (by decide) (by decide)
  have h2 : ((2 ^ 8 : Nat) : Int) = 256 := by decide
  rw [h2] at a2
  omega
/-- a char below 256 -/
abbrev C8 (c : Int32) : Prop := 0 ≤ c.toInt ∧ c.toInt < 256
theorem Lat.nil : Lat [] := fun _ q => nomatch q
theorem Lat.cons {c : Int32} {cs : List Int32} (h : C8 c) (r : Lat cs) : Lat (c :: cs) := fun x q => by rcases List.mem_cons.mp q with rfl | q; exact h; exact r x q
theorem bL_map (cs : List Int32) : cs.map bL = (cs.map fun c => c.toInt8.toInt32).map Value.int := by simp [bL]
theorem bL_maps {cs ds : List Int32} (hc : Lat cs) (hd : Lat ds) (h : (cs.map fun c => c.toInt8.toInt32) = ds.map fun c => c.toInt8.toInt32) : cs = ds := by
  induction cs generalizing ds with
  | nil => cases ds with | nil => rfl | cons y ys => cases h
  | cons x xs ih =>
    cases ds with
    | nil => cases h
    | cons y ys =>
      simp only [List.map_cons, List.cons.injEq] at h
      have e := bL_inj (hc x (by simp)) (hd y (by simp)) h.1
      rw [e, ih (fun c q => hc c (by simp [q])) (fun c q => hd c (by simp [q])) h.2]
theorem shr0' (i : Int32) : (i >>> ((0 : Int32) &&& 31)).toInt = i.toInt := by
  have a := c_ishr i 0 0 (by decide)
  have e : ((2 ^ 0 : Nat) : Int) = 1 := by decide
  rw [e] at a
  omega
theorem shl0' (i : Int32) : (i <<< ((0 : Int32) &&& 31)).toInt = i.toInt := by
  have a := c_ishl i 0 0 (by decide)
  have r := rng32 (i <<< ((0 : Int32) &&& 31))
  have r2 := rng32 i
  have e : ((2 ^ 0 : Nat) : Int) = 1 := by decide
  rw [e] at a
  omega
theorem sub0 (i : Int32) : (i - 0).toInt = i.toInt := by
  have a := c_isub i 0
  have r := rng32 (i - 0)
  have r2 := rng32 i
  rw [toInt_0] at a
  omega
abbrev EL1 : List (String × Nat) := [("com/example/nameshelf/nameshelf/uri/InfoUri", 37), ("com/example/nameshelf/nameshelf/uri/InfoUriParsePinLaw", 58), ("com/example/nameshelf/nameshelf/uri/InfoUriParsePinLaw", 64), ("java/lang/StringLatin1", 151)]
theorem d0_0 : Dc code 0 (.iload_n 0) 1 1 := ⟨at_0, rfl⟩
theorem d0_1 : Dc code 1 (.bipush 16) 2 3 := ⟨at_1, rfl⟩
theorem d0_3 : Dc code 3 .iand 1 4 := ⟨at_3, rfl⟩
theorem d0_4 : Dj code 4 (.ifCond .eq) 7 11 := ⟨7, at_4, rfl, by decide, by decide⟩
theorem d0_7 : Dc code 7 (.iconst 1) 1 8 := ⟨at_7, rfl⟩
theorem d0_8 : Dj code 8 .goto 11 12 := ⟨4, at_8, rfl, by decide, by decide⟩
theorem d0_11 : Dc code 11 (.iconst 0) 1 12 := ⟨at_11, rfl⟩
theorem d0_12 : Dc code 12 (.istore 6) 2 14 := ⟨at_12, rfl⟩
theorem d0_14 : Dc code 14 (.iload_n 0) 1 15 := ⟨at_14, rfl⟩
theorem d0_15 : Dc code 15 (.bipush 32) 2 17 := ⟨at_15, rfl⟩
theorem d0_17 : Dc code 17 .iand 1 18 := ⟨at_17, rfl⟩
theorem d0_18 : Dj code 18 (.ifCond .eq) 21 25 := ⟨7, at_18, rfl, by decide, by decide⟩
theorem d0_21 : Dc code 21 (.iconst 1) 1 22 := ⟨at_21, rfl⟩
theorem d0_22 : Dj code 22 .goto 25 26 := ⟨4, at_22, rfl, by decide, by decide⟩
theorem d0_25 : Dc code 25 (.iconst 0) 1 26 := ⟨at_25, rfl⟩
theorem d0_26 : Dc code 26 (.istore 7) 2 28 := ⟨at_26, rfl⟩
theorem d0_28 : Dc code 28 (.bipush 12) 2 30 := ⟨at_28, rfl⟩
theorem d0_30 : Dc code 30 (.iload 6) 2 32 := ⟨at_30, rfl⟩
theorem d0_32 : Dj code 32 (.ifCond .eq) 35 40 := ⟨8, at_32, rfl, by decide, by decide⟩
theorem d0_35 : Dc code 35 (.bipush 6) 2 37 := ⟨at_35, rfl⟩
theorem d0_37 : Dj code 37 .goto 40 41 := ⟨4, at_37, rfl, by decide, by decide⟩
theorem d0_40 : Dc code 40 (.iconst 0) 1 41 := ⟨at_40, rfl⟩
theorem d0_41 : Dc code 41 .iadd 1 42 := ⟨at_41, rfl⟩
theorem d0_42 : Dc code 42 (.iload 7) 2 44 := ⟨at_42, rfl⟩
theorem d0_44 : Dj code 44 (.ifCond .eq) 47 51 := ⟨7, at_44, rfl, by decide, by decide⟩
theorem d0_47 : Dc code 47 (.iconst 4) 1 48 := ⟨at_47, rfl⟩
theorem d0_48 : Dj code 48 .goto 51 52 := ⟨4, at_48, rfl, by decide, by decide⟩
theorem d0_51 : Dc code 51 (.iconst 0) 1 52 := ⟨at_51, rfl⟩
theorem d0_52 : Dc code 52 .iadd 1 53 := ⟨at_52, rfl⟩
theorem d0_53 : Dc code 53 (.istore 8) 2 55 := ⟨at_53, rfl⟩
theorem d0_55 : Dc code 55 (.iload 8) 2 57 := ⟨at_55, rfl⟩
theorem d0_57 : Dc code 57 (.newarray .char) 2 59 := ⟨at_57, rfl⟩
theorem d0_59 : Dc code 59 (.astore 9) 2 61 := ⟨at_59, rfl⟩
theorem d0_61 : Dc code 61 (.aload 9) 2 63 := ⟨at_61, rfl⟩
theorem d0_63 : Dc code 63 (.iconst 0) 1 64 := ⟨at_63, rfl⟩
theorem d0_64 : Dc code 64 (.bipush 105) 2 66 := ⟨at_64, rfl⟩
theorem d0_66 : Dc code 66 (.iload_n 0) 1 67 := ⟨at_66, rfl⟩
theorem d0_67 : Dc code 67 (.iconst 1) 1 68 := ⟨at_67, rfl⟩
theorem d0_68 : Dc code 68 .iand 1 69 := ⟨at_68, rfl⟩
theorem d0_69 : Dc code 69 (.invokestatic 7) 3 72 := ⟨at_69, rfl⟩
theorem d0_72 : Dc code 72 .castore 1 73 := ⟨at_72, rfl⟩
theorem d0_73 : Dc code 73 (.aload 9) 2 75 := ⟨at_73, rfl⟩
theorem d0_75 : Dc code 75 (.iconst 1) 1 76 := ⟨at_75, rfl⟩
theorem d0_76 : Dc code 76 (.bipush 110) 2 78 := ⟨at_76, rfl⟩
theorem d0_78 : Dc code 78 (.iload_n 0) 1 79 := ⟨at_78, rfl⟩
theorem d0_79 : Dc code 79 (.iconst 2) 1 80 := ⟨at_79, rfl⟩
theorem d0_80 : Dc code 80 .iand 1 81 := ⟨at_80, rfl⟩
theorem d0_81 : Dc code 81 (.invokestatic 7) 3 84 := ⟨at_81, rfl⟩
theorem d0_84 : Dc code 84 .castore 1 85 := ⟨at_84, rfl⟩
theorem d0_85 : Dc code 85 (.aload 9) 2 87 := ⟨at_85, rfl⟩
theorem d0_87 : Dc code 87 (.iconst 2) 1 88 := ⟨at_87, rfl⟩
theorem d0_88 : Dc code 88 (.bipush 102) 2 90 := ⟨at_88, rfl⟩
theorem d0_90 : Dc code 90 (.iload_n 0) 1 91 := ⟨at_90, rfl⟩
theorem d0_91 : Dc code 91 (.iconst 4) 1 92 := ⟨at_91, rfl⟩
theorem d0_92 : Dc code 92 .iand 1 93 := ⟨at_92, rfl⟩
theorem d0_93 : Dc code 93 (.invokestatic 7) 3 96 := ⟨at_93, rfl⟩
theorem d0_96 : Dc code 96 .castore 1 97 := ⟨at_96, rfl⟩
theorem d0_97 : Dc code 97 (.aload 9) 2 99 := ⟨at_97, rfl⟩
theorem d0_99 : Dc code 99 (.iconst 3) 1 100 := ⟨at_99, rfl⟩
theorem d0_100 : Dc code 100 (.bipush 111) 2 102 := ⟨at_100, rfl⟩
theorem d0_102 : Dc code 102 (.iload_n 0) 1 103 := ⟨at_102, rfl⟩
theorem d0_103 : Dc code 103 (.bipush 8) 2 105 := ⟨at_103, rfl⟩
theorem d0_105 : Dc code 105 .iand 1 106 := ⟨at_105, rfl⟩
theorem d0_106 : Dc code 106 (.invokestatic 7) 3 109 := ⟨at_106, rfl⟩
theorem d0_109 : Dc code 109 .castore 1 110 := ⟨at_109, rfl⟩
theorem d0_110 : Dc code 110 (.aload 9) 2 112 := ⟨at_110, rfl⟩
theorem d0_112 : Dc code 112 (.iconst 4) 1 113 := ⟨at_112, rfl⟩
theorem d0_113 : Dc code 113 (.bipush 58) 2 115 := ⟨at_113, rfl⟩
theorem d0_115 : Dc code 115 .castore 1 116 := ⟨at_115, rfl⟩
theorem d0_116 : Dc code 116 (.aload 9) 2 118 := ⟨at_116, rfl⟩
theorem d0_118 : Dc code 118 (.iconst 5) 1 119 := ⟨at_118, rfl⟩
theorem d0_119 : Dc code 119 (.iload_n 1) 1 120 := ⟨at_119, rfl⟩
theorem d0_120 : Dc code 120 (.iconst 1) 1 121 := ⟨at_120, rfl⟩
theorem d0_121 : Dc code 121 (.invokestatic 13) 3 124 := ⟨at_121, rfl⟩
theorem d0_124 : Dc code 124 (.aload 9) 2 126 := ⟨at_124, rfl⟩
theorem d0_126 : Dc code 126 (.bipush 8) 2 128 := ⟨at_126, rfl⟩
theorem d0_128 : Dc code 128 (.iload_n 2) 1 129 := ⟨at_128, rfl⟩
theorem d0_129 : Dc code 129 (.iconst 0) 1 130 := ⟨at_129, rfl⟩
theorem d0_130 : Dc code 130 (.invokestatic 13) 3 133 := ⟨at_130, rfl⟩
theorem d0_133 : Dc code 133 (.aload 9) 2 135 := ⟨at_133, rfl⟩
theorem d0_135 : Dc code 135 (.bipush 11) 2 137 := ⟨at_135, rfl⟩
theorem d0_137 : Dc code 137 (.bipush 47) 2 139 := ⟨at_137, rfl⟩
theorem d0_139 : Dc code 139 .castore 1 140 := ⟨at_139, rfl⟩
theorem d0_140 : Dc code 140 (.bipush 12) 2 142 := ⟨at_140, rfl⟩
theorem d0_142 : Dc code 142 (.istore 10) 2 144 := ⟨at_142, rfl⟩
theorem d0_144 : Dc code 144 (.iload 6) 2 146 := ⟨at_144, rfl⟩
theorem d0_146 : Dj code 146 (.ifCond .eq) 149 174 := ⟨28, at_146, rfl, by decide, by decide⟩
theorem d0_149 : Dc code 149 (.aload 9) 2 151 := ⟨at_149, rfl⟩
theorem d0_151 : Dc code 151 (.bipush 12) 2 153 := ⟨at_151, rfl⟩
theorem d0_153 : Dc code 153 (.iload_n 3) 1 154 := ⟨at_153, rfl⟩
theorem d0_154 : Dc code 154 (.bipush 80) 2 156 := ⟨at_154, rfl⟩
theorem d0_156 : Dc code 156 (.invokestatic 17) 3 159 := ⟨at_156, rfl⟩
theorem d0_159 : Dc code 159 (.aload 9) 2 161 := ⟨at_159, rfl⟩
theorem d0_161 : Dc code 161 (.bipush 15) 2 163 := ⟨at_161, rfl⟩
theorem d0_163 : Dc code 163 (.iload 4) 2 165 := ⟨at_163, rfl⟩
theorem d0_165 : Dc code 165 (.bipush 80) 2 167 := ⟨at_165, rfl⟩
theorem d0_167 : Dc code 167 (.invokestatic 17) 3 170 := ⟨at_167, rfl⟩
theorem d0_170 : Dc code 170 (.bipush 18) 2 172 := ⟨at_170, rfl⟩
theorem d0_172 : Dc code 172 (.istore 10) 2 174 := ⟨at_172, rfl⟩
theorem d0_174 : Dc code 174 (.iload 7) 2 176 := ⟨at_174, rfl⟩
theorem d0_176 : Dj code 176 (.ifCond .eq) 179 199 := ⟨23, at_176, rfl, by decide, by decide⟩
theorem d0_179 : Dc code 179 (.aload 9) 2 181 := ⟨at_179, rfl⟩
theorem d0_181 : Dc code 181 (.iload 10) 2 183 := ⟨at_181, rfl⟩
theorem d0_183 : Dc code 183 (.bipush 35) 2 185 := ⟨at_183, rfl⟩
theorem d0_185 : Dc code 185 .castore 1 186 := ⟨at_185, rfl⟩
theorem d0_186 : Dc code 186 (.aload 9) 2 188 := ⟨at_186, rfl⟩
theorem d0_188 : Dc code 188 (.iload 10) 2 190 := ⟨at_188, rfl⟩
theorem d0_190 : Dc code 190 (.iconst 1) 1 191 := ⟨at_190, rfl⟩
theorem d0_191 : Dc code 191 .iadd 1 192 := ⟨at_191, rfl⟩
theorem d0_192 : Dc code 192 (.iload 5) 2 194 := ⟨at_192, rfl⟩
theorem d0_194 : Dc code 194 (.bipush 81) 2 196 := ⟨at_194, rfl⟩
theorem d0_196 : Dc code 196 (.invokestatic 17) 3 199 := ⟨at_196, rfl⟩
theorem d0_199 : Dc code 199 (.new 21) 3 202 := ⟨at_199, rfl⟩
theorem d0_202 : Dc code 202 .dup 1 203 := ⟨at_202, rfl⟩
theorem d0_203 : Dc code 203 (.aload 9) 2 205 := ⟨at_203, rfl⟩
theorem d0_205 : Dc code 205 (.invokespecial 23) 3 208 := ⟨at_205, rfl⟩
theorem d0_208 : Dc code 208 (.invokestatic 26) 3 211 := ⟨at_208, rfl⟩
theorem d0_211 : Dc code 211 (.astore 11) 2 213 := ⟨at_211, rfl⟩
theorem d0_213 : Dc code 213 (.aload 11) 2 215 := ⟨at_213, rfl⟩
theorem d0_215 : Dc code 215 (.invokevirtual 32) 3 218 := ⟨at_215, rfl⟩
theorem d0_218 : Dc code 218 (.astore 12) 2 220 := ⟨at_218, rfl⟩
theorem d0_220 : Dc code 220 (.iconst 0) 1 221 := ⟨at_220, rfl⟩
theorem d0_221 : Dc code 221 (.istore 13) 2 223 := ⟨at_221, rfl⟩
theorem d0_223 : Dc code 223 (.aload 12) 2 225 := ⟨at_223, rfl⟩
theorem d0_225 : Dc code 225 (.iload 13) 2 227 := ⟨at_225, rfl⟩
theorem d0_227 : Dc code 227 (.bipush 105) 2 229 := ⟨at_227, rfl⟩
theorem d0_229 : Dc code 229 (.invokestatic 36) 3 232 := ⟨at_229, rfl⟩
theorem d0_232 : Dc code 232 (.istore 13) 2 234 := ⟨at_232, rfl⟩
theorem d0_234 : Dc code 234 (.aload 12) 2 236 := ⟨at_234, rfl⟩
theorem d0_236 : Dc code 236 (.iload 13) 2 238 := ⟨at_236, rfl⟩
theorem d0_238 : Dc code 238 (.bipush 110) 2 240 := ⟨at_238, rfl⟩
theorem d0_240 : Dc code 240 (.invokestatic 36) 3 243 := ⟨at_240, rfl⟩
theorem d0_243 : Dc code 243 (.istore 13) 2 245 := ⟨at_243, rfl⟩
theorem d0_245 : Dc code 245 (.aload 12) 2 247 := ⟨at_245, rfl⟩
theorem d0_247 : Dc code 247 (.iload 13) 2 249 := ⟨at_247, rfl⟩
theorem d0_249 : Dc code 249 (.bipush 102) 2 251 := ⟨at_249, rfl⟩
theorem d0_251 : Dc code 251 (.invokestatic 36) 3 254 := ⟨at_251, rfl⟩
theorem d0_254 : Dc code 254 (.istore 13) 2 256 := ⟨at_254, rfl⟩
theorem d0_256 : Dc code 256 (.aload 12) 2 258 := ⟨at_256, rfl⟩
theorem d0_258 : Dc code 258 (.iload 13) 2 260 := ⟨at_258, rfl⟩
theorem d0_260 : Dc code 260 (.bipush 111) 2 262 := ⟨at_260, rfl⟩
theorem d0_262 : Dc code 262 (.invokestatic 36) 3 265 := ⟨at_262, rfl⟩
theorem d0_265 : Dc code 265 (.istore 13) 2 267 := ⟨at_265, rfl⟩
theorem d0_267 : Dc code 267 (.aload 12) 2 269 := ⟨at_267, rfl⟩
theorem d0_269 : Dc code 269 (.iload 13) 2 271 := ⟨at_269, rfl⟩
theorem d0_271 : Dc code 271 (.bipush 58) 2 273 := ⟨at_271, rfl⟩
theorem d0_273 : Dc code 273 (.invokestatic 36) 3 276 := ⟨at_273, rfl⟩
theorem d0_276 : Dc code 276 (.istore 13) 2 278 := ⟨at_276, rfl⟩
theorem d0_278 : Dc code 278 (.aload 12) 2 280 := ⟨at_278, rfl⟩
theorem d0_280 : Dc code 280 (.iload 13) 2 282 := ⟨at_280, rfl⟩
theorem d0_282 : Dc code 282 (.iload_n 1) 1 283 := ⟨at_282, rfl⟩
theorem d0_283 : Dc code 283 (.iconst 1) 1 284 := ⟨at_283, rfl⟩
theorem d0_284 : Dc code 284 (.invokestatic 40) 3 287 := ⟨at_284, rfl⟩
theorem d0_287 : Dc code 287 (.istore 13) 2 289 := ⟨at_287, rfl⟩
theorem d0_289 : Dc code 289 (.aload 12) 2 291 := ⟨at_289, rfl⟩
theorem d0_291 : Dc code 291 (.iload 13) 2 293 := ⟨at_291, rfl⟩
theorem d0_293 : Dc code 293 (.iload_n 2) 1 294 := ⟨at_293, rfl⟩
theorem d0_294 : Dc code 294 (.iconst 0) 1 295 := ⟨at_294, rfl⟩
theorem d0_295 : Dc code 295 (.invokestatic 40) 3 298 := ⟨at_295, rfl⟩
theorem d0_298 : Dc code 298 (.istore 13) 2 300 := ⟨at_298, rfl⟩
theorem d0_300 : Dc code 300 (.iload 13) 2 302 := ⟨at_300, rfl⟩
theorem d0_302 : Dc code 302 (.istore 14) 2 304 := ⟨at_302, rfl⟩
theorem d0_304 : Dc code 304 (.aload 12) 2 306 := ⟨at_304, rfl⟩
theorem d0_306 : Dc code 306 (.iload 13) 2 308 := ⟨at_306, rfl⟩
theorem d0_308 : Dc code 308 (.bipush 47) 2 310 := ⟨at_308, rfl⟩
theorem d0_310 : Dc code 310 (.invokestatic 36) 3 313 := ⟨at_310, rfl⟩
theorem d0_313 : Dc code 313 (.istore 13) 2 315 := ⟨at_313, rfl⟩
theorem d0_315 : Dc code 315 (.iload 6) 2 317 := ⟨at_315, rfl⟩
theorem d0_317 : Dj code 317 (.ifCond .eq) 320 345 := ⟨28, at_317, rfl, by decide, by decide⟩
theorem d0_320 : Dc code 320 (.aload 12) 2 322 := ⟨at_320, rfl⟩
theorem d0_322 : Dc code 322 (.iload 13) 2 324 := ⟨at_322, rfl⟩
theorem d0_324 : Dc code 324 (.iload_n 3) 1 325 := ⟨at_324, rfl⟩
theorem d0_325 : Dc code 325 (.bipush 80) 2 327 := ⟨at_325, rfl⟩
theorem d0_327 : Dc code 327 (.invokestatic 44) 3 330 := ⟨at_327, rfl⟩
theorem d0_330 : Dc code 330 (.istore 13) 2 332 := ⟨at_330, rfl⟩
theorem d0_332 : Dc code 332 (.aload 12) 2 334 := ⟨at_332, rfl⟩
theorem d0_334 : Dc code 334 (.iload 13) 2 336 := ⟨at_334, rfl⟩
theorem d0_336 : Dc code 336 (.iload 4) 2 338 := ⟨at_336, rfl⟩
theorem d0_338 : Dc code 338 (.bipush 80) 2 340 := ⟨at_338, rfl⟩
theorem d0_340 : Dc code 340 (.invokestatic 44) 3 343 := ⟨at_340, rfl⟩
theorem d0_343 : Dc code 343 (.istore 13) 2 345 := ⟨at_343, rfl⟩
theorem d0_345 : Dc code 345 (.iload 13) 2 347 := ⟨at_345, rfl⟩
theorem d0_347 : Dc code 347 (.istore 15) 2 349 := ⟨at_347, rfl⟩
theorem d0_349 : Dc code 349 (.iload 7) 2 351 := ⟨at_349, rfl⟩
theorem d0_351 : Dj code 351 (.ifCond .eq) 354 378 := ⟨27, at_351, rfl, by decide, by decide⟩
theorem d0_354 : Dc code 354 (.aload 12) 2 356 := ⟨at_354, rfl⟩
theorem d0_356 : Dc code 356 (.iload 13) 2 358 := ⟨at_356, rfl⟩
theorem d0_358 : Dc code 358 (.bipush 35) 2 360 := ⟨at_358, rfl⟩
theorem d0_360 : Dc code 360 (.invokestatic 36) 3 363 := ⟨at_360, rfl⟩
theorem d0_363 : Dc code 363 (.istore 13) 2 365 := ⟨at_363, rfl⟩
theorem d0_365 : Dc code 365 (.aload 12) 2 367 := ⟨at_365, rfl⟩
theorem d0_367 : Dc code 367 (.iload 13) 2 369 := ⟨at_367, rfl⟩
theorem d0_369 : Dc code 369 (.iload 5) 2 371 := ⟨at_369, rfl⟩
theorem d0_371 : Dc code 371 (.bipush 81) 2 373 := ⟨at_371, rfl⟩
theorem d0_373 : Dc code 373 (.invokestatic 44) 3 376 := ⟨at_373, rfl⟩
theorem d0_376 : Dc code 376 (.istore 13) 2 378 := ⟨at_376, rfl⟩
theorem d0_378 : Dc code 378 (.iload 13) 2 380 := ⟨at_378, rfl⟩
theorem d0_380 : Dc code 380 (.aload 12) 2 382 := ⟨at_380, rfl⟩
theorem d0_382 : Dc code 382 (.invokevirtual 48) 3 385 := ⟨at_382, rfl⟩
theorem d0_385 : Dj code 385 (.if_icmp .ne) 388 435 := ⟨50, at_385, rfl, by decide, by decide⟩
theorem d0_388 : Dc code 388 (.iload 14) 2 390 := ⟨at_388, rfl⟩
theorem d0_390 : Dj code 390 (.ifCond .lt) 393 435 := ⟨45, at_390, rfl, by decide, by decide⟩
theorem d0_393 : Dc code 393 (.iload 15) 2 395 := ⟨at_393, rfl⟩
theorem d0_395 : Dj code 395 (.ifCond .lt) 398 435 := ⟨40, at_395, rfl, by decide, by decide⟩
theorem d0_398 : Dc code 398 (.aload 11) 2 400 := ⟨at_398, rfl⟩
theorem d0_400 : Dc code 400 (.invokevirtual 52) 3 403 := ⟨at_400, rfl⟩
theorem d0_403 : Dc code 403 (.invokevirtual 48) 3 406 := ⟨at_403, rfl⟩
theorem d0_406 : Dc code 406 (.iload 14) 2 408 := ⟨at_406, rfl⟩
theorem d0_408 : Dc code 408 (.iconst 5) 1 409 := ⟨at_408, rfl⟩
theorem d0_409 : Dc code 409 .isub 1 410 := ⟨at_409, rfl⟩
theorem d0_410 : Dj code 410 (.if_icmp .ne) 413 435 := ⟨25, at_410, rfl, by decide, by decide⟩
theorem d0_413 : Dc code 413 (.aload 11) 2 415 := ⟨at_413, rfl⟩
theorem d0_415 : Dc code 415 (.invokevirtual 55) 3 418 := ⟨at_415, rfl⟩
theorem d0_418 : Dc code 418 (.invokevirtual 48) 3 421 := ⟨at_418, rfl⟩
theorem d0_421 : Dc code 421 (.iload 15) 2 423 := ⟨at_421, rfl⟩
theorem d0_423 : Dc code 423 (.iload 14) 2 425 := ⟨at_423, rfl⟩
theorem d0_425 : Dc code 425 .isub 1 426 := ⟨at_425, rfl⟩
theorem d0_426 : Dc code 426 (.iconst 1) 1 427 := ⟨at_426, rfl⟩
theorem d0_427 : Dc code 427 .isub 1 428 := ⟨at_427, rfl⟩
theorem d0_428 : Dj code 428 (.if_icmp .ne) 431 435 := ⟨7, at_428, rfl, by decide, by decide⟩
theorem d0_431 : Dc code 431 (.iconst 1) 1 432 := ⟨at_431, rfl⟩
theorem d0_432 : Dj code 432 .goto 435 436 := ⟨4, at_432, rfl, by decide, by decide⟩
theorem d0_436 : Dc code 436 .ireturn 1 437 := ⟨at_436, rfl⟩
theorem d1_0 : Dc method_5_code 0 (.iload_n 1) 1 1 := ⟨by decide +kernel, rfl⟩
theorem d1_1 : Dj method_5_code 1 (.ifCond .eq) 4 12 := ⟨11, by decide +kernel, rfl, by decide, by decide⟩
theorem d1_4 : Dc method_5_code 4 (.iload_n 0) 1 5 := ⟨by decide +kernel, rfl⟩
theorem d1_5 : Dc method_5_code 5 (.bipush 32) 2 7 := ⟨by decide +kernel, rfl⟩
theorem d1_7 : Dc method_5_code 7 .isub 1 8 := ⟨by decide +kernel, rfl⟩
theorem d1_8 : Dc method_5_code 8 .i2c 1 9 := ⟨by decide +kernel, rfl⟩
theorem d1_9 : Dj method_5_code 9 .goto 12 13 := ⟨4, by decide +kernel, rfl, by decide, by decide⟩
theorem d1_12 : Dc method_5_code 12 (.iload_n 0) 1 13 := ⟨by decide +kernel, rfl⟩
theorem d1_13 : Dc method_5_code 13 .ireturn 1 14 := ⟨by decide +kernel, rfl⟩
theorem d2_0 : Dc method_10_code 0 (.iload_n 2) 1 1 := ⟨by decide +kernel, rfl⟩
theorem d2_1 : Dc method_10_code 1 (.iconst 3) 1 2 := ⟨by decide +kernel, rfl⟩
theorem d2_2 : Dc method_10_code 2 .iushr 1 3 := ⟨by decide +kernel, rfl⟩
theorem d2_3 : Dc method_10_code 3 (.istore 4) 2 5 := ⟨by decide +kernel, rfl⟩
theorem d2_5 : Dc method_10_code 5 (.iload_n 3) 1 6 := ⟨by decide +kernel, rfl⟩
theorem d2_6 : Dj method_10_code 6 (.ifCond .eq) 9 14 := ⟨8, by decide +kernel, rfl, by decide, by decide⟩
theorem d2_9 : Dc method_10_code 9 (.bipush 52) 2 11 := ⟨by decide +kernel, rfl⟩
theorem d2_11 : Dj method_10_code 11 .goto 14 16 := ⟨5, by decide +kernel, rfl, by decide, by decide⟩
theorem d2_14 : Dc method_10_code 14 (.bipush 65) 2 16 := ⟨by decide +kernel, rfl⟩
theorem d2_16 : Dc method_10_code 16 (.istore 5) 2 18 := ⟨by decide +kernel, rfl⟩
theorem d2_18 : Dc method_10_code 18 (.iload 4) 2 20 := ⟨by decide +kernel, rfl⟩
theorem d2_20 : Dc method_10_code 20 (.iload 5) 2 22 := ⟨by decide +kernel, rfl⟩
theorem d2_22 : Dc method_10_code 22 .irem 1 23 := ⟨by decide +kernel, rfl⟩
theorem d2_23 : Dc method_10_code 23 (.invokestatic 66) 3 26 := ⟨by decide +kernel, rfl⟩
theorem d2_26 : Dc method_10_code 26 (.istore 6) 2 28 := ⟨by decide +kernel, rfl⟩
theorem d2_28 : Dc method_10_code 28 (.iload_n 2) 1 29 := ⟨by decide +kernel, rfl⟩
theorem d2_29 : Dc method_10_code 29 (.iconst 1) 1 30 := ⟨by decide +kernel, rfl⟩
theorem d2_30 : Dc method_10_code 30 .iand 1 31 := ⟨by decide +kernel, rfl⟩
theorem d2_31 : Dj method_10_code 31 (.ifCond .eq) 34 73 := ⟨42, by decide +kernel, rfl, by decide, by decide⟩
theorem d2_34 : Dc method_10_code 34 (.aload_n 0) 1 35 := ⟨by decide +kernel, rfl⟩
theorem d2_35 : Dc method_10_code 35 (.iload_n 1) 1 36 := ⟨by decide +kernel, rfl⟩
theorem d2_36 : Dc method_10_code 36 (.bipush 37) 2 38 := ⟨by decide +kernel, rfl⟩
theorem d2_38 : Dc method_10_code 38 .castore 1 39 := ⟨by decide +kernel, rfl⟩
theorem d2_39 : Dc method_10_code 39 (.aload_n 0) 1 40 := ⟨by decide +kernel, rfl⟩
theorem d2_40 : Dc method_10_code 40 (.iload_n 1) 1 41 := ⟨by decide +kernel, rfl⟩
theorem d2_41 : Dc method_10_code 41 (.iconst 1) 1 42 := ⟨by decide +kernel, rfl⟩
theorem d2_42 : Dc method_10_code 42 .iadd 1 43 := ⟨by decide +kernel, rfl⟩
theorem d2_43 : Dc method_10_code 43 (.iload 6) 2 45 := ⟨by decide +kernel, rfl⟩
theorem d2_45 : Dc method_10_code 45 (.iconst 4) 1 46 := ⟨by decide +kernel, rfl⟩
theorem d2_46 : Dc method_10_code 46 .ishr 1 47 := ⟨by decide +kernel, rfl⟩
theorem d2_47 : Dc method_10_code 47 (.iload_n 2) 1 48 := ⟨by decide +kernel, rfl⟩
theorem d2_48 : Dc method_10_code 48 (.iconst 2) 1 49 := ⟨by decide +kernel, rfl⟩
theorem d2_49 : Dc method_10_code 49 .iand 1 50 := ⟨by decide +kernel, rfl⟩
theorem d2_50 : Dc method_10_code 50 (.invokestatic 69) 3 53 := ⟨by decide +kernel, rfl⟩
theorem d2_53 : Dc method_10_code 53 .castore 1 54 := ⟨by decide +kernel, rfl⟩
theorem d2_54 : Dc method_10_code 54 (.aload_n 0) 1 55 := ⟨by decide +kernel, rfl⟩
theorem d2_55 : Dc method_10_code 55 (.iload_n 1) 1 56 := ⟨by decide +kernel, rfl⟩
theorem d2_56 : Dc method_10_code 56 (.iconst 2) 1 57 := ⟨by decide +kernel, rfl⟩
theorem d2_57 : Dc method_10_code 57 .iadd 1 58 := ⟨by decide +kernel, rfl⟩
theorem d2_58 : Dc method_10_code 58 (.iload 6) 2 60 := ⟨by decide +kernel, rfl⟩
theorem d2_60 : Dc method_10_code 60 (.bipush 15) 2 62 := ⟨by decide +kernel, rfl⟩
theorem d2_62 : Dc method_10_code 62 .iand 1 63 := ⟨by decide +kernel, rfl⟩
theorem d2_63 : Dc method_10_code 63 (.iload_n 2) 1 64 := ⟨by decide +kernel, rfl⟩
theorem d2_64 : Dc method_10_code 64 (.iconst 4) 1 65 := ⟨by decide +kernel, rfl⟩
theorem d2_65 : Dc method_10_code 65 .iand 1 66 := ⟨by decide +kernel, rfl⟩
theorem d2_66 : Dc method_10_code 66 (.invokestatic 69) 3 69 := ⟨by decide +kernel, rfl⟩
theorem d2_69 : Dc method_10_code 69 .castore 1 70 := ⟨by decide +kernel, rfl⟩
theorem d2_70 : Dj method_10_code 70 .goto 73 113 := ⟨43, by decide +kernel, rfl, by decide, by decide⟩
theorem d2_73 : Dc method_10_code 73 (.aload_n 0) 1 74 := ⟨by decide +kernel, rfl⟩
theorem d2_74 : Dc method_10_code 74 (.iload_n 1) 1 75 := ⟨by decide +kernel, rfl⟩
theorem d2_75 : Dc method_10_code 75 (.iload 6) 2 77 := ⟨by decide +kernel, rfl⟩
theorem d2_77 : Dc method_10_code 77 .castore 1 78 := ⟨by decide +kernel, rfl⟩
theorem d2_78 : Dc method_10_code 78 (.aload_n 0) 1 79 := ⟨by decide +kernel, rfl⟩
theorem d2_79 : Dc method_10_code 79 (.iload_n 1) 1 80 := ⟨by decide +kernel, rfl⟩
theorem d2_80 : Dc method_10_code 80 (.iconst 1) 1 81 := ⟨by decide +kernel, rfl⟩
theorem d2_81 : Dc method_10_code 81 .iadd 1 82 := ⟨by decide +kernel, rfl⟩
theorem d2_82 : Dc method_10_code 82 (.iload 4) 2 84 := ⟨by decide +kernel, rfl⟩
theorem d2_84 : Dc method_10_code 84 (.iload 5) 2 86 := ⟨by decide +kernel, rfl⟩
theorem d2_86 : Dc method_10_code 86 .idiv 1 87 := ⟨by decide +kernel, rfl⟩
theorem d2_87 : Dc method_10_code 87 (.bipush 65) 2 89 := ⟨by decide +kernel, rfl⟩
theorem d2_89 : Dc method_10_code 89 .irem 1 90 := ⟨by decide +kernel, rfl⟩
theorem d2_90 : Dc method_10_code 90 (.invokestatic 66) 3 93 := ⟨by decide +kernel, rfl⟩
theorem d2_93 : Dc method_10_code 93 .castore 1 94 := ⟨by decide +kernel, rfl⟩
theorem d2_94 : Dc method_10_code 94 (.aload_n 0) 1 95 := ⟨by decide +kernel, rfl⟩
theorem d2_95 : Dc method_10_code 95 (.iload_n 1) 1 96 := ⟨by decide +kernel, rfl⟩
theorem d2_96 : Dc method_10_code 96 (.iconst 2) 1 97 := ⟨by decide +kernel, rfl⟩
theorem d2_97 : Dc method_10_code 97 .iadd 1 98 := ⟨by decide +kernel, rfl⟩
theorem d2_98 : Dc method_10_code 98 (.iload 4) 2 100 := ⟨by decide +kernel, rfl⟩
theorem d2_100 : Dc method_10_code 100 (.iload 5) 2 102 := ⟨by decide +kernel, rfl⟩
theorem d2_102 : Dc method_10_code 102 (.bipush 65) 2 104 := ⟨by decide +kernel, rfl⟩
theorem d2_104 : Dc method_10_code 104 .imul 1 105 := ⟨by decide +kernel, rfl⟩
theorem d2_105 : Dc method_10_code 105 .idiv 1 106 := ⟨by decide +kernel, rfl⟩
theorem d2_106 : Dc method_10_code 106 (.bipush 65) 2 108 := ⟨by decide +kernel, rfl⟩
theorem d2_108 : Dc method_10_code 108 .irem 1 109 := ⟨by decide +kernel, rfl⟩
theorem d2_109 : Dc method_10_code 109 (.invokestatic 66) 3 112 := ⟨by decide +kernel, rfl⟩
theorem d2_112 : Dc method_10_code 112 .castore 1 113 := ⟨by decide +kernel, rfl⟩
theorem d2_113 : Dc method_10_code 113 .return_ 1 114 := ⟨by decide +kernel, rfl⟩
theorem d3_0 : Dc method_4_code 0 (.ldc 64) 2 2 := ⟨by decide +kernel, rfl⟩
theorem d3_2 : Dc method_4_code 2 (.iload_n 0) 1 3 := ⟨by decide +kernel, rfl⟩
theorem d3_3 : Dc method_4_code 3 (.invokevirtual 60) 3 6 := ⟨by decide +kernel, rfl⟩
theorem d3_6 : Dc method_4_code 6 .ireturn 1 7 := ⟨by decide +kernel, rfl⟩
theorem d4_0 : Dc jdk_42_method_56_code 0 (.aload_n 0) 1 1 := ⟨by decide +kernel, rfl⟩
theorem d4_1 : Dc jdk_42_method_56_code 1 (.invokevirtual 492) 3 4 := ⟨by decide +kernel, rfl⟩
theorem d4_4 : Dj jdk_42_method_56_code 4 (.ifCond .eq) 7 16 := ⟨12, by decide +kernel, rfl, by decide, by decide⟩
theorem d4_7 : Dc jdk_42_method_56_code 7 (.aload_n 0) 1 8 := ⟨by decide +kernel, rfl⟩
theorem d4_8 : Dc jdk_42_method_56_code 8 (.getfield 9) 3 11 := ⟨by decide +kernel, rfl⟩
theorem d4_11 : Dc jdk_42_method_56_code 11 (.iload_n 1) 1 12 := ⟨by decide +kernel, rfl⟩
theorem d4_12 : Dc jdk_42_method_56_code 12 (.invokestatic 495) 3 15 := ⟨by decide +kernel, rfl⟩
theorem d4_15 : Dc jdk_42_method_56_code 15 .ireturn 1 16 := ⟨by decide +kernel, rfl⟩
theorem d5_0 : Dc jdk_42_method_154_code 0 (.getstatic 38) 3 3 := ⟨by decide +kernel, rfl⟩
theorem d5_3 : Dj jdk_42_method_154_code 3 (.ifCond .eq) 6 17 := ⟨14, by decide +kernel, rfl, by decide, by decide⟩
theorem d5_6 : Dc jdk_42_method_154_code 6 (.aload_n 0) 1 7 := ⟨by decide +kernel, rfl⟩
theorem d5_7 : Dc jdk_42_method_154_code 7 (.getfield 15) 3 10 := ⟨by decide +kernel, rfl⟩
theorem d5_10 : Dj jdk_42_method_154_code 10 (.ifCond .ne) 13 17 := ⟨7, by decide +kernel, rfl, by decide, by decide⟩
theorem d5_13 : Dc jdk_42_method_154_code 13 (.iconst 1) 1 14 := ⟨by decide +kernel, rfl⟩
theorem d5_14 : Dj jdk_42_method_154_code 14 .goto 17 18 := ⟨4, by decide +kernel, rfl, by decide, by decide⟩
theorem d5_17 : Dc jdk_42_method_154_code 17 (.iconst 0) 1 18 := ⟨by decide +kernel, rfl⟩
theorem d5_18 : Dc jdk_42_method_154_code 18 .ireturn 1 19 := ⟨by decide +kernel, rfl⟩
theorem d6_0 : Dc jdk_43_method_2_code 0 (.iload_n 1) 1 1 := ⟨by decide +kernel, rfl⟩
theorem d6_1 : Dc jdk_43_method_2_code 1 (.aload_n 0) 1 2 := ⟨by decide +kernel, rfl⟩
theorem d6_2 : Dc jdk_43_method_2_code 2 .arraylength 1 3 := ⟨by decide +kernel, rfl⟩
theorem d6_3 : Dc jdk_43_method_2_code 3 (.invokestatic 9) 3 6 := ⟨by decide +kernel, rfl⟩
theorem d6_6 : Dc jdk_43_method_2_code 6 (.aload_n 0) 1 7 := ⟨by decide +kernel, rfl⟩
theorem d6_7 : Dc jdk_43_method_2_code 7 (.iload_n 1) 1 8 := ⟨by decide +kernel, rfl⟩
theorem d6_8 : Dc jdk_43_method_2_code 8 .baload 1 9 := ⟨by decide +kernel, rfl⟩
theorem d6_9 : Dc jdk_43_method_2_code 9 (.sipush 255) 3 12 := ⟨by decide +kernel, rfl⟩
theorem d6_12 : Dc jdk_43_method_2_code 12 .iand 1 13 := ⟨by decide +kernel, rfl⟩
theorem d6_13 : Dc jdk_43_method_2_code 13 .i2c 1 14 := ⟨by decide +kernel, rfl⟩
theorem d6_14 : Dc jdk_43_method_2_code 14 .ireturn 1 15 := ⟨by decide +kernel, rfl⟩
theorem d7_0 : Dc jdk_42_method_155_code 0 (.iload_n 0) 1 1 := ⟨by decide +kernel, rfl⟩
theorem d7_1 : Dc jdk_42_method_155_code 1 (.iload_n 1) 1 2 := ⟨by decide +kernel, rfl⟩
theorem d7_2 : Dc jdk_42_method_155_code 2 (.getstatic 1053) 3 5 := ⟨by decide +kernel, rfl⟩
theorem d7_5 : Dc jdk_42_method_155_code 5 (.invokestatic 1059) 3 8 := ⟨by decide +kernel, rfl⟩
theorem d7_8 : Dc jdk_42_method_155_code 8 .pop 1 9 := ⟨by decide +kernel, rfl⟩
theorem d7_9 : Dc jdk_42_method_155_code 9 .return_ 1 10 := ⟨by decide +kernel, rfl⟩
theorem d8_0 : Dc jdk_41_method_11_code 0 (.iload_n 0) 1 1 := ⟨by decide +kernel, rfl⟩
theorem d8_1 : Dj jdk_41_method_11_code 1 (.ifCond .lt) 4 9 := ⟨8, by decide +kernel, rfl, by decide, by decide⟩
theorem d8_4 : Dc jdk_41_method_11_code 4 (.iload_n 0) 1 5 := ⟨by decide +kernel, rfl⟩
theorem d8_5 : Dc jdk_41_method_11_code 5 (.iload_n 1) 1 6 := ⟨by decide +kernel, rfl⟩
theorem d8_6 : Dj jdk_41_method_11_code 6 (.if_icmp .lt) 9 16 := ⟨10, by decide +kernel, rfl, by decide, by decide⟩
theorem d8_16 : Dc jdk_41_method_11_code 16 (.iload_n 0) 1 17 := ⟨by decide +kernel, rfl⟩
theorem d8_17 : Dc jdk_41_method_11_code 17 .ireturn 1 18 := ⟨by decide +kernel, rfl⟩
theorem d9_0 : Dc method_7_code 0 (.iload_n 0) 1 1 := ⟨by decide +kernel, rfl⟩
theorem d9_1 : Dc method_7_code 1 (.bipush 10) 2 3 := ⟨by decide +kernel, rfl⟩
theorem d9_3 : Dj method_7_code 3 (.if_icmp .ge) 6 12 := ⟨9, by decide +kernel, rfl, by decide, by decide⟩
theorem d9_6 : Dc method_7_code 6 (.bipush 48) 2 8 := ⟨by decide +kernel, rfl⟩
theorem d9_8 : Dc method_7_code 8 (.iload_n 0) 1 9 := ⟨by decide +kernel, rfl⟩
theorem d9_9 : Dc method_7_code 9 .iadd 1 10 := ⟨by decide +kernel, rfl⟩
theorem d9_10 : Dc method_7_code 10 .i2c 1 11 := ⟨by decide +kernel, rfl⟩
theorem d9_11 : Dc method_7_code 11 .ireturn 1 12 := ⟨by decide +kernel, rfl⟩
theorem d9_12 : Dc method_7_code 12 (.iload_n 1) 1 13 := ⟨by decide +kernel, rfl⟩
theorem d9_13 : Dj method_7_code 13 (.ifCond .eq) 16 21 := ⟨8, by decide +kernel, rfl, by decide, by decide⟩
theorem d9_16 : Dc method_7_code 16 (.bipush 97) 2 18 := ⟨by decide +kernel, rfl⟩
theorem d9_18 : Dj method_7_code 18 .goto 21 23 := ⟨5, by decide +kernel, rfl, by decide, by decide⟩
theorem d9_21 : Dc method_7_code 21 (.bipush 65) 2 23 := ⟨by decide +kernel, rfl⟩
theorem d9_23 : Dc method_7_code 23 (.iload_n 0) 1 24 := ⟨by decide +kernel, rfl⟩
theorem d9_24 : Dc method_7_code 24 .iadd 1 25 := ⟨by decide +kernel, rfl⟩
theorem d9_25 : Dc method_7_code 25 (.bipush 10) 2 27 := ⟨by decide +kernel, rfl⟩
theorem d9_27 : Dc method_7_code 27 .isub 1 28 := ⟨by decide +kernel, rfl⟩
theorem d9_28 : Dc method_7_code 28 .i2c 1 29 := ⟨by decide +kernel, rfl⟩
theorem d9_29 : Dc method_7_code 29 .ireturn 1 30 := ⟨by decide +kernel, rfl⟩
theorem d10_0 : Dc jdk_42_method_3_code 0 (.aload_n 0) 1 1 := ⟨by decide +kernel, rfl⟩
theorem d10_1 : Dc jdk_42_method_3_code 1 (.aload_n 1) 1 2 := ⟨by decide +kernel, rfl⟩
theorem d10_2 : Dc jdk_42_method_3_code 2 (.iconst 0) 1 3 := ⟨by decide +kernel, rfl⟩
theorem d10_3 : Dc jdk_42_method_3_code 3 (.aload_n 1) 1 4 := ⟨by decide +kernel, rfl⟩
theorem d10_4 : Dc jdk_42_method_3_code 4 .arraylength 1 5 := ⟨by decide +kernel, rfl⟩
theorem d10_5 : Dc jdk_42_method_3_code 5 .aconst_null 1 6 := ⟨by decide +kernel, rfl⟩
theorem d10_6 : Dc jdk_42_method_3_code 6 (.invokespecial 27) 3 9 := ⟨by decide +kernel, rfl⟩
theorem d10_9 : Dc jdk_42_method_3_code 9 .return_ 1 10 := ⟨by decide +kernel, rfl⟩
theorem d11_0 : Dc jdk_42_method_149_code 0 (.aload_n 0) 1 1 := ⟨by decide +kernel, rfl⟩
theorem d11_1 : Dc jdk_42_method_149_code 1 (.invokespecial 1) 3 4 := ⟨by decide +kernel, rfl⟩
theorem d11_4 : Dc jdk_42_method_149_code 4 (.iload_n 3) 1 5 := ⟨by decide +kernel, rfl⟩
theorem d11_5 : Dj jdk_42_method_149_code 5 (.ifCond .ne) 8 27 := ⟨22, by decide +kernel, rfl, by decide, by decide⟩
theorem d11_27 : Dc jdk_42_method_149_code 27 (.getstatic 38) 3 30 := ⟨by decide +kernel, rfl⟩
theorem d11_30 : Dj jdk_42_method_149_code 30 (.ifCond .eq) 33 58 := ⟨28, by decide +kernel, rfl, by decide, by decide⟩
theorem d11_33 : Dc jdk_42_method_149_code 33 (.aload_n 1) 1 34 := ⟨by decide +kernel, rfl⟩
theorem d11_34 : Dc jdk_42_method_149_code 34 (.iload_n 2) 1 35 := ⟨by decide +kernel, rfl⟩
theorem d11_35 : Dc jdk_42_method_149_code 35 (.iload_n 3) 1 36 := ⟨by decide +kernel, rfl⟩
theorem d11_36 : Dc jdk_42_method_149_code 36 (.invokestatic 177) 3 39 := ⟨by decide +kernel, rfl⟩
theorem d11_39 : Dc jdk_42_method_149_code 39 (.astore 5) 2 41 := ⟨by decide +kernel, rfl⟩
theorem d11_41 : Dc jdk_42_method_149_code 41 (.aload_n 0) 1 42 := ⟨by decide +kernel, rfl⟩
theorem d11_42 : Dc jdk_42_method_149_code 42 (.aload 5) 2 44 := ⟨by decide +kernel, rfl⟩
theorem d11_44 : Dc jdk_42_method_149_code 44 (.iload_n 3) 1 45 := ⟨by decide +kernel, rfl⟩
theorem d11_45 : Dc jdk_42_method_149_code 45 (.invokestatic 47) 3 48 := ⟨by decide +kernel, rfl⟩
theorem d11_48 : Dc jdk_42_method_149_code 48 (.putfield 15) 3 51 := ⟨by decide +kernel, rfl⟩
theorem d11_51 : Dc jdk_42_method_149_code 51 (.aload_n 0) 1 52 := ⟨by decide +kernel, rfl⟩
theorem d11_52 : Dc jdk_42_method_149_code 52 (.aload 5) 2 54 := ⟨by decide +kernel, rfl⟩
theorem d11_54 : Dc jdk_42_method_149_code 54 (.putfield 9) 3 57 := ⟨by decide +kernel, rfl⟩
theorem d11_57 : Dc jdk_42_method_149_code 57 .return_ 1 58 := ⟨by decide +kernel, rfl⟩
theorem d13_0 : Dc jdk_52_method_16_code 0 (.iload_n 2) 1 1 := ⟨by decide +kernel, rfl⟩
theorem d13_1 : Dc jdk_52_method_16_code 1 (.newarray .byte) 2 3 := ⟨by decide +kernel, rfl⟩
theorem d13_3 : Dc jdk_52_method_16_code 3 (.astore_n 3) 1 4 := ⟨by decide +kernel, rfl⟩
theorem d13_4 : Dc jdk_52_method_16_code 4 (.aload_n 0) 1 5 := ⟨by decide +kernel, rfl⟩
theorem d13_5 : Dc jdk_52_method_16_code 5 (.iload_n 1) 1 6 := ⟨by decide +kernel, rfl⟩
theorem d13_6 : Dc jdk_52_method_16_code 6 (.aload_n 3) 1 7 := ⟨by decide +kernel, rfl⟩
theorem d13_7 : Dc jdk_52_method_16_code 7 (.iconst 0) 1 8 := ⟨by decide +kernel, rfl⟩
theorem d13_8 : Dc jdk_52_method_16_code 8 (.iload_n 2) 1 9 := ⟨by decide +kernel, rfl⟩
theorem d13_9 : Dc jdk_52_method_16_code 9 (.invokestatic 115) 3 12 := ⟨by decide +kernel, rfl⟩
theorem d13_12 : Dc jdk_52_method_16_code 12 (.istore 4) 2 14 := ⟨by decide +kernel, rfl⟩
theorem d13_14 : Dc jdk_52_method_16_code 14 (.iload 4) 2 16 := ⟨by decide +kernel, rfl⟩
theorem d13_16 : Dc jdk_52_method_16_code 16 (.iload_n 2) 1 17 := ⟨by decide +kernel, rfl⟩
theorem d13_17 : Dj jdk_52_method_16_code 17 (.if_icmp .eq) 20 57 := ⟨40, by decide +kernel, rfl, by decide, by decide⟩
theorem d13_57 : Dc jdk_52_method_16_code 57 (.aload_n 3) 1 58 := ⟨by decide +kernel, rfl⟩
theorem d13_58 : Dc jdk_52_method_16_code 58 .areturn 1 59 := ⟨by decide +kernel, rfl⟩
theorem d14_0 : Dc jdk_52_method_21_code 0 (.iconst 0) 1 1 := ⟨by decide +kernel, rfl⟩
theorem d14_1 : Dc jdk_52_method_21_code 1 (.istore 5) 2 3 := ⟨by decide +kernel, rfl⟩
theorem d14_3 : Dc jdk_52_method_21_code 3 (.iload 5) 2 5 := ⟨by decide +kernel, rfl⟩
theorem d14_5 : Dc jdk_52_method_21_code 5 (.iload 4) 2 7 := ⟨by decide +kernel, rfl⟩
theorem d14_7 : Dj jdk_52_method_21_code 7 (.if_icmp .ge) 10 44 := ⟨37, by decide +kernel, rfl, by decide, by decide⟩
theorem d14_10 : Dc jdk_52_method_21_code 10 (.aload_n 0) 1 11 := ⟨by decide +kernel, rfl⟩
theorem d14_11 : Dc jdk_52_method_21_code 11 (.iload_n 1) 1 12 := ⟨by decide +kernel, rfl⟩
theorem d14_12 : Dc jdk_52_method_21_code 12 .caload 1 13 := ⟨by decide +kernel, rfl⟩
theorem d14_13 : Dc jdk_52_method_21_code 13 (.istore 6) 2 15 := ⟨by decide +kernel, rfl⟩
theorem d14_15 : Dc jdk_52_method_21_code 15 (.iload 6) 2 17 := ⟨by decide +kernel, rfl⟩
theorem d14_17 : Dc jdk_52_method_21_code 17 (.sipush 255) 3 20 := ⟨by decide +kernel, rfl⟩
theorem d14_20 : Dj jdk_52_method_21_code 20 (.if_icmp .le) 23 26 := ⟨6, by decide +kernel, rfl, by decide, by decide⟩
theorem d14_26 : Dc jdk_52_method_21_code 26 (.aload_n 2) 1 27 := ⟨by decide +kernel, rfl⟩
theorem d14_27 : Dc jdk_52_method_21_code 27 (.iload_n 3) 1 28 := ⟨by decide +kernel, rfl⟩
theorem d14_28 : Dc jdk_52_method_21_code 28 (.iload 6) 2 30 := ⟨by decide +kernel, rfl⟩
theorem d14_30 : Dc jdk_52_method_21_code 30 .i2b 1 31 := ⟨by decide +kernel, rfl⟩
theorem d14_31 : Dc jdk_52_method_21_code 31 .bastore 1 32 := ⟨by decide +kernel, rfl⟩
theorem d14_32 : Dc jdk_52_method_21_code 32 (.iinc 1 1) 3 35 := ⟨by decide +kernel, rfl⟩
theorem d14_35 : Dc jdk_52_method_21_code 35 (.iinc 3 1) 3 38 := ⟨by decide +kernel, rfl⟩
theorem d14_38 : Dc jdk_52_method_21_code 38 (.iinc 5 1) 3 41 := ⟨by decide +kernel, rfl⟩
theorem d14_41 : Dj jdk_52_method_21_code 41 .goto 44 3 := ⟨(-38), by decide +kernel, rfl, by decide, by decide⟩
theorem d14_44 : Dc jdk_52_method_21_code 44 (.iload 4) 2 46 := ⟨by decide +kernel, rfl⟩
theorem d14_46 : Dc jdk_52_method_21_code 46 .ireturn 1 47 := ⟨by decide +kernel, rfl⟩
theorem d15_0 : Dc jdk_52_method_15_code 0 (.iload_n 1) 1 1 := ⟨by decide +kernel, rfl⟩
theorem d15_1 : Dc jdk_52_method_15_code 1 (.aload_n 0) 1 2 := ⟨by decide +kernel, rfl⟩
theorem d15_2 : Dc jdk_52_method_15_code 2 .arraylength 1 3 := ⟨by decide +kernel, rfl⟩
theorem d15_3 : Dc jdk_52_method_15_code 3 .isub 1 4 := ⟨by decide +kernel, rfl⟩
theorem d15_4 : Dc jdk_52_method_15_code 4 (.bipush 31) 2 6 := ⟨by decide +kernel, rfl⟩
theorem d15_6 : Dc jdk_52_method_15_code 6 .iushr 1 7 := ⟨by decide +kernel, rfl⟩
theorem d15_7 : Dc jdk_52_method_15_code 7 .i2b 1 8 := ⟨by decide +kernel, rfl⟩
theorem d15_8 : Dc jdk_52_method_15_code 8 .ireturn 1 9 := ⟨by decide +kernel, rfl⟩
theorem d16_0 : Dc prog_62_method_2_code 0 (.aload_n 0) 1 1 := ⟨by decide +kernel, rfl⟩
theorem d16_1 : Dc prog_62_method_2_code 1 (.invokeinterface 20 1) 5 6 := ⟨by decide +kernel, rfl⟩
theorem d16_6 : Dc prog_62_method_2_code 6 (.istore_n 1) 1 7 := ⟨by decide +kernel, rfl⟩
theorem d16_7 : Dc prog_62_method_2_code 7 (.aload_n 0) 1 8 := ⟨by decide +kernel, rfl⟩
theorem d16_8 : Dc prog_62_method_2_code 8 (.invokestatic 26) 3 11 := ⟨by decide +kernel, rfl⟩
theorem d16_11 : Dj prog_62_method_2_code 11 (.ifCond .ne) 14 25 := ⟨14, by decide +kernel, rfl, by decide, by decide⟩
theorem d16_25 : Dc prog_62_method_2_code 25 (.iload_n 1) 1 26 := ⟨by decide +kernel, rfl⟩
theorem d16_26 : Dc prog_62_method_2_code 26 (.newarray .char) 2 28 := ⟨by decide +kernel, rfl⟩
theorem d16_28 : Dc prog_62_method_2_code 28 (.astore_n 2) 1 29 := ⟨by decide +kernel, rfl⟩
theorem d16_29 : Dc prog_62_method_2_code 29 (.ldc 37) 2 31 := ⟨by decide +kernel, rfl⟩
theorem d16_31 : Dc prog_62_method_2_code 31 (.iconst 0) 1 32 := ⟨by decide +kernel, rfl⟩
theorem d16_32 : Dc prog_62_method_2_code 32 (.ldc 37) 2 34 := ⟨by decide +kernel, rfl⟩
theorem d16_34 : Dc prog_62_method_2_code 34 (.invokevirtual 39) 3 37 := ⟨by decide +kernel, rfl⟩
theorem d16_37 : Dc prog_62_method_2_code 37 (.aload_n 2) 1 38 := ⟨by decide +kernel, rfl⟩
theorem d16_38 : Dc prog_62_method_2_code 38 (.iconst 0) 1 39 := ⟨by decide +kernel, rfl⟩
theorem d16_39 : Dc prog_62_method_2_code 39 (.invokevirtual 42) 3 42 := ⟨by decide +kernel, rfl⟩
theorem d16_42 : Dc prog_62_method_2_code 42 (.ldc 37) 2 44 := ⟨by decide +kernel, rfl⟩
theorem d16_44 : Dc prog_62_method_2_code 44 (.invokevirtual 39) 3 47 := ⟨by decide +kernel, rfl⟩
theorem d16_47 : Dc prog_62_method_2_code 47 (.istore_n 3) 1 48 := ⟨by decide +kernel, rfl⟩
theorem d16_48 : Dc prog_62_method_2_code 48 (.ldc 37) 2 50 := ⟨by decide +kernel, rfl⟩
theorem d16_50 : Dc prog_62_method_2_code 50 (.invokevirtual 39) 3 53 := ⟨by decide +kernel, rfl⟩
theorem d16_53 : Dc prog_62_method_2_code 53 (.istore 4) 2 55 := ⟨by decide +kernel, rfl⟩
theorem d16_55 : Dc prog_62_method_2_code 55 (.iload 4) 2 57 := ⟨by decide +kernel, rfl⟩
theorem d16_57 : Dc prog_62_method_2_code 57 (.iload_n 1) 1 58 := ⟨by decide +kernel, rfl⟩
theorem d16_58 : Dj prog_62_method_2_code 58 (.if_icmp .ge) 61 170 := ⟨112, by decide +kernel, rfl, by decide, by decide⟩
theorem d16_61 : Dc prog_62_method_2_code 61 (.aload_n 0) 1 62 := ⟨by decide +kernel, rfl⟩
theorem d16_62 : Dc prog_62_method_2_code 62 (.iload 4) 2 64 := ⟨by decide +kernel, rfl⟩
theorem d16_64 : Dc prog_62_method_2_code 64 (.invokeinterface 46 2) 5 69 := ⟨by decide +kernel, rfl⟩
theorem d16_69 : Dc prog_62_method_2_code 69 (.bipush 47) 2 71 := ⟨by decide +kernel, rfl⟩
theorem d16_71 : Dj prog_62_method_2_code 71 (.if_icmp .eq) 74 170 := ⟨99, by decide +kernel, rfl, by decide, by decide⟩
theorem d16_74 : Dc prog_62_method_2_code 74 (.iload 4) 2 76 := ⟨by decide +kernel, rfl⟩
theorem d16_76 : Dc prog_62_method_2_code 76 (.istore 5) 2 78 := ⟨by decide +kernel, rfl⟩
theorem d16_78 : Dc prog_62_method_2_code 78 (.aload_n 0) 1 79 := ⟨by decide +kernel, rfl⟩
theorem d16_79 : Dc prog_62_method_2_code 79 (.iload 4) 2 81 := ⟨by decide +kernel, rfl⟩
theorem d16_81 : Dc prog_62_method_2_code 81 (.invokeinterface 46 2) 5 86 := ⟨by decide +kernel, rfl⟩
theorem d16_86 : Dc prog_62_method_2_code 86 (.istore 6) 2 88 := ⟨by decide +kernel, rfl⟩
theorem d16_88 : Dc prog_62_method_2_code 88 (.iload 6) 2 90 := ⟨by decide +kernel, rfl⟩
theorem d16_90 : Dc prog_62_method_2_code 90 (.bipush 37) 2 92 := ⟨by decide +kernel, rfl⟩
theorem d16_92 : Dj prog_62_method_2_code 92 (.if_icmp .ne) 95 106 := ⟨14, by decide +kernel, rfl, by decide, by decide⟩
theorem d16_95 : Dc prog_62_method_2_code 95 (.aload_n 0) 1 96 := ⟨by decide +kernel, rfl⟩
theorem d16_96 : Dc prog_62_method_2_code 96 (.iload 4) 2 98 := ⟨by decide +kernel, rfl⟩
theorem d16_98 : Dc prog_62_method_2_code 98 (.invokestatic 50) 3 101 := ⟨by decide +kernel, rfl⟩
theorem d16_101 : Dc prog_62_method_2_code 101 (.istore 6) 2 103 := ⟨by decide +kernel, rfl⟩
theorem d16_103 : Dc prog_62_method_2_code 103 (.iinc 4 2) 3 106 := ⟨by decide +kernel, rfl⟩
theorem d16_106 : Dc prog_62_method_2_code 106 (.iload 5) 2 108 := ⟨by decide +kernel, rfl⟩
theorem d16_108 : Dc prog_62_method_2_code 108 (.ldc 37) 2 110 := ⟨by decide +kernel, rfl⟩
theorem d16_110 : Dc prog_62_method_2_code 110 (.invokevirtual 39) 3 113 := ⟨by decide +kernel, rfl⟩
theorem d16_113 : Dj prog_62_method_2_code 113 (.if_icmp .ne) 116 135 := ⟨22, by decide +kernel, rfl, by decide, by decide⟩
theorem d16_116 : Dc prog_62_method_2_code 116 (.iload 6) 2 118 := ⟨by decide +kernel, rfl⟩
theorem d16_118 : Dc prog_62_method_2_code 118 (.invokestatic 54) 3 121 := ⟨by decide +kernel, rfl⟩
theorem d16_121 : Dj prog_62_method_2_code 121 (.ifCond .ne) 124 135 := ⟨14, by decide +kernel, rfl, by decide, by decide⟩
theorem d16_135 : Dc prog_62_method_2_code 135 (.iload 6) 2 137 := ⟨by decide +kernel, rfl⟩
theorem d16_137 : Dc prog_62_method_2_code 137 (.invokestatic 60) 3 140 := ⟨by decide +kernel, rfl⟩
theorem d16_140 : Dj prog_62_method_2_code 140 (.ifCond .ne) 143 152 := ⟨12, by decide +kernel, rfl, by decide, by decide⟩
theorem d16_152 : Dc prog_62_method_2_code 152 (.aload_n 2) 1 153 := ⟨by decide +kernel, rfl⟩
theorem d16_153 : Dc prog_62_method_2_code 153 (.iload_n 3) 1 154 := ⟨by decide +kernel, rfl⟩
theorem d16_154 : Dc prog_62_method_2_code 154 (.iinc 3 1) 3 157 := ⟨by decide +kernel, rfl⟩
theorem d16_157 : Dc prog_62_method_2_code 157 (.iload 6) 2 159 := ⟨by decide +kernel, rfl⟩
theorem d16_159 : Dc prog_62_method_2_code 159 (.invokestatic 69) 3 162 := ⟨by decide +kernel, rfl⟩
theorem d16_162 : Dc prog_62_method_2_code 162 .i2c 1 163 := ⟨by decide +kernel, rfl⟩
theorem d16_163 : Dc prog_62_method_2_code 163 .castore 1 164 := ⟨by decide +kernel, rfl⟩
theorem d16_164 : Dc prog_62_method_2_code 164 (.iinc 4 1) 3 167 := ⟨by decide +kernel, rfl⟩
theorem d16_167 : Dj prog_62_method_2_code 167 .goto 170 55 := ⟨(-112), by decide +kernel, rfl, by decide, by decide⟩
theorem d16_170 : Dc prog_62_method_2_code 170 (.iload 4) 2 172 := ⟨by decide +kernel, rfl⟩
theorem d16_172 : Dc prog_62_method_2_code 172 (.iload_n 1) 1 173 := ⟨by decide +kernel, rfl⟩
theorem d16_173 : Dj prog_62_method_2_code 173 (.if_icmp .ne) 176 187 := ⟨14, by decide +kernel, rfl, by decide, by decide⟩
theorem d16_187 : Dc prog_62_method_2_code 187 (.iload 4) 2 189 := ⟨by decide +kernel, rfl⟩
theorem d16_189 : Dc prog_62_method_2_code 189 (.ldc 37) 2 191 := ⟨by decide +kernel, rfl⟩
theorem d16_191 : Dc prog_62_method_2_code 191 (.invokevirtual 39) 3 194 := ⟨by decide +kernel, rfl⟩
theorem d16_194 : Dj prog_62_method_2_code 194 (.if_icmp .ne) 197 208 := ⟨14, by decide +kernel, rfl, by decide, by decide⟩
theorem d16_208 : Dc prog_62_method_2_code 208 (.iload_n 3) 1 209 := ⟨by decide +kernel, rfl⟩
theorem d16_209 : Dc prog_62_method_2_code 209 (.istore 5) 2 211 := ⟨by decide +kernel, rfl⟩
theorem d16_211 : Dc prog_62_method_2_code 211 (.iconst (-1)) 1 212 := ⟨by decide +kernel, rfl⟩
theorem d16_212 : Dc prog_62_method_2_code 212 (.istore 6) 2 214 := ⟨by decide +kernel, rfl⟩
theorem d16_214 : Dc prog_62_method_2_code 214 (.aload_n 2) 1 215 := ⟨by decide +kernel, rfl⟩
theorem d16_215 : Dc prog_62_method_2_code 215 (.iload_n 3) 1 216 := ⟨by decide +kernel, rfl⟩
theorem d16_216 : Dc prog_62_method_2_code 216 (.iinc 3 1) 3 219 := ⟨by decide +kernel, rfl⟩
theorem d16_219 : Dc prog_62_method_2_code 219 (.bipush 47) 2 221 := ⟨by decide +kernel, rfl⟩
theorem d16_221 : Dc prog_62_method_2_code 221 .castore 1 222 := ⟨by decide +kernel, rfl⟩
theorem d16_222 : Dc prog_62_method_2_code 222 (.iinc 4 1) 3 225 := ⟨by decide +kernel, rfl⟩
theorem d16_225 : Dc prog_62_method_2_code 225 (.iload 4) 2 227 := ⟨by decide +kernel, rfl⟩
theorem d16_227 : Dc prog_62_method_2_code 227 (.iload_n 1) 1 228 := ⟨by decide +kernel, rfl⟩
theorem d16_228 : Dj prog_62_method_2_code 228 (.if_icmp .ge) 231 364 := ⟨136, by decide +kernel, rfl, by decide, by decide⟩
theorem d16_231 : Dc prog_62_method_2_code 231 (.aload_n 0) 1 232 := ⟨by decide +kernel, rfl⟩
theorem d16_232 : Dc prog_62_method_2_code 232 (.iload 4) 2 234 := ⟨by decide +kernel, rfl⟩
theorem d16_234 : Dc prog_62_method_2_code 234 (.invokeinterface 46 2) 5 239 := ⟨by decide +kernel, rfl⟩
theorem d16_239 : Dc prog_62_method_2_code 239 (.istore 7) 2 241 := ⟨by decide +kernel, rfl⟩
theorem d16_241 : Dc prog_62_method_2_code 241 (.iload 7) 2 243 := ⟨by decide +kernel, rfl⟩
theorem d16_243 : Dc prog_62_method_2_code 243 (.bipush 37) 2 245 := ⟨by decide +kernel, rfl⟩
theorem d16_245 : Dj prog_62_method_2_code 245 (.if_icmp .ne) 248 266 := ⟨21, by decide +kernel, rfl, by decide, by decide⟩
theorem d16_248 : Dc prog_62_method_2_code 248 (.aload_n 2) 1 249 := ⟨by decide +kernel, rfl⟩
theorem d16_249 : Dc prog_62_method_2_code 249 (.iload_n 3) 1 250 := ⟨by decide +kernel, rfl⟩
theorem d16_250 : Dc prog_62_method_2_code 250 (.aload_n 0) 1 251 := ⟨by decide +kernel, rfl⟩
theorem d16_251 : Dc prog_62_method_2_code 251 (.iload 4) 2 253 := ⟨by decide +kernel, rfl⟩
theorem d16_253 : Dc prog_62_method_2_code 253 (.invokestatic 50) 3 256 := ⟨by decide +kernel, rfl⟩
theorem d16_256 : Dc prog_62_method_2_code 256 (.invokestatic 77) 3 259 := ⟨by decide +kernel, rfl⟩
theorem d16_259 : Dc prog_62_method_2_code 259 (.istore_n 3) 1 260 := ⟨by decide +kernel, rfl⟩
theorem d16_260 : Dc prog_62_method_2_code 260 (.iinc 4 2) 3 263 := ⟨by decide +kernel, rfl⟩
theorem d16_263 : Dj prog_62_method_2_code 263 .goto 266 358 := ⟨95, by decide +kernel, rfl, by decide, by decide⟩
theorem d16_266 : Dc prog_62_method_2_code 266 (.iload 7) 2 268 := ⟨by decide +kernel, rfl⟩
theorem d16_268 : Dc prog_62_method_2_code 268 (.sipush 128) 3 271 := ⟨by decide +kernel, rfl⟩
theorem d16_271 : Dj prog_62_method_2_code 271 (.if_icmp .ge) 274 283 := ⟨12, by decide +kernel, rfl, by decide, by decide⟩
theorem d16_274 : Dc prog_62_method_2_code 274 (.getstatic 81) 3 277 := ⟨by decide +kernel, rfl⟩
theorem d16_277 : Dc prog_62_method_2_code 277 (.iload 7) 2 279 := ⟨by decide +kernel, rfl⟩
theorem d16_279 : Dc prog_62_method_2_code 279 .baload 1 280 := ⟨by decide +kernel, rfl⟩
theorem d16_280 : Dj prog_62_method_2_code 280 (.ifCond .ne) 283 302 := ⟨22, by decide +kernel, rfl, by decide, by decide⟩
theorem d16_283 : Dc prog_62_method_2_code 283 (.iload 7) 2 285 := ⟨by decide +kernel, rfl⟩
theorem d16_285 : Dc prog_62_method_2_code 285 (.bipush 47) 2 287 := ⟨by decide +kernel, rfl⟩
theorem d16_287 : Dj prog_62_method_2_code 287 (.if_icmp .eq) 290 302 := ⟨15, by decide +kernel, rfl, by decide, by decide⟩
theorem d16_290 : Dc prog_62_method_2_code 290 (.iload 7) 2 292 := ⟨by decide +kernel, rfl⟩
theorem d16_292 : Dc prog_62_method_2_code 292 (.bipush 63) 2 294 := ⟨by decide +kernel, rfl⟩
theorem d16_294 : Dj prog_62_method_2_code 294 (.if_icmp .ne) 297 313 := ⟨19, by decide +kernel, rfl, by decide, by decide⟩
theorem d16_297 : Dc prog_62_method_2_code 297 (.iload 6) 2 299 := ⟨by decide +kernel, rfl⟩
theorem d16_299 : Dj prog_62_method_2_code 299 (.ifCond .lt) 302 313 := ⟨14, by decide +kernel, rfl, by decide, by decide⟩
theorem d16_302 : Dc prog_62_method_2_code 302 (.aload_n 2) 1 303 := ⟨by decide +kernel, rfl⟩
theorem d16_303 : Dc prog_62_method_2_code 303 (.iload_n 3) 1 304 := ⟨by decide +kernel, rfl⟩
theorem d16_304 : Dc prog_62_method_2_code 304 (.iinc 3 1) 3 307 := ⟨by decide +kernel, rfl⟩
theorem d16_307 : Dc prog_62_method_2_code 307 (.iload 7) 2 309 := ⟨by decide +kernel, rfl⟩
theorem d16_309 : Dc prog_62_method_2_code 309 .castore 1 310 := ⟨by decide +kernel, rfl⟩
theorem d16_310 : Dj prog_62_method_2_code 310 .goto 313 358 := ⟨48, by decide +kernel, rfl, by decide, by decide⟩
theorem d16_313 : Dc prog_62_method_2_code 313 (.iload 7) 2 315 := ⟨by decide +kernel, rfl⟩
theorem d16_315 : Dc prog_62_method_2_code 315 (.bipush 35) 2 317 := ⟨by decide +kernel, rfl⟩
theorem d16_317 : Dj prog_62_method_2_code 317 (.if_icmp .ne) 320 339 := ⟨22, by decide +kernel, rfl, by decide, by decide⟩
theorem d16_320 : Dc prog_62_method_2_code 320 (.iload 6) 2 322 := ⟨by decide +kernel, rfl⟩
theorem d16_322 : Dj prog_62_method_2_code 322 (.ifCond .ge) 325 339 := ⟨17, by decide +kernel, rfl, by decide, by decide⟩
theorem d16_325 : Dc prog_62_method_2_code 325 (.iload_n 3) 1 326 := ⟨by decide +kernel, rfl⟩
theorem d16_326 : Dc prog_62_method_2_code 326 (.istore 6) 2 328 := ⟨by decide +kernel, rfl⟩
theorem d16_328 : Dc prog_62_method_2_code 328 (.aload_n 2) 1 329 := ⟨by decide +kernel, rfl⟩
theorem d16_329 : Dc prog_62_method_2_code 329 (.iload_n 3) 1 330 := ⟨by decide +kernel, rfl⟩
theorem d16_330 : Dc prog_62_method_2_code 330 (.iinc 3 1) 3 333 := ⟨by decide +kernel, rfl⟩
theorem d16_333 : Dc prog_62_method_2_code 333 (.iload 7) 2 335 := ⟨by decide +kernel, rfl⟩
theorem d16_335 : Dc prog_62_method_2_code 335 .castore 1 336 := ⟨by decide +kernel, rfl⟩
theorem d16_336 : Dj prog_62_method_2_code 336 .goto 339 358 := ⟨22, by decide +kernel, rfl, by decide, by decide⟩
theorem d16_358 : Dc prog_62_method_2_code 358 (.iinc 4 1) 3 361 := ⟨by decide +kernel, rfl⟩
theorem d16_361 : Dj prog_62_method_2_code 361 .goto 364 225 := ⟨(-136), by decide +kernel, rfl, by decide, by decide⟩
theorem d16_364 : Dc prog_62_method_2_code 364 (.new 8) 3 367 := ⟨by decide +kernel, rfl⟩
theorem d16_367 : Dc prog_62_method_2_code 367 .dup 1 368 := ⟨by decide +kernel, rfl⟩
theorem d16_368 : Dc prog_62_method_2_code 368 (.new 40) 3 371 := ⟨by decide +kernel, rfl⟩
theorem d16_371 : Dc prog_62_method_2_code 371 .dup 1 372 := ⟨by decide +kernel, rfl⟩
theorem d16_372 : Dc prog_62_method_2_code 372 (.aload_n 2) 1 373 := ⟨by decide +kernel, rfl⟩
theorem d16_373 : Dc prog_62_method_2_code 373 (.iconst 0) 1 374 := ⟨by decide +kernel, rfl⟩
theorem d16_374 : Dc prog_62_method_2_code 374 (.iload_n 3) 1 375 := ⟨by decide +kernel, rfl⟩
theorem d16_375 : Dc prog_62_method_2_code 375 (.invokespecial 89) 3 378 := ⟨by decide +kernel, rfl⟩
theorem d16_378 : Dc prog_62_method_2_code 378 (.iload 5) 2 380 := ⟨by decide +kernel, rfl⟩
theorem d16_380 : Dc prog_62_method_2_code 380 (.iload 6) 2 382 := ⟨by decide +kernel, rfl⟩
theorem d16_382 : Dc prog_62_method_2_code 382 (.invokespecial 92) 3 385 := ⟨by decide +kernel, rfl⟩
theorem d16_385 : Dc prog_62_method_2_code 385 .areturn 1 386 := ⟨by decide +kernel, rfl⟩
theorem d17_0 : Dc jdk_42_method_54_code 0 (.aload_n 0) 1 1 := ⟨by decide +kernel, rfl⟩
theorem d17_1 : Dc jdk_42_method_54_code 1 (.getfield 9) 3 4 := ⟨by decide +kernel, rfl⟩
theorem d17_4 : Dc jdk_42_method_54_code 4 .arraylength 1 5 := ⟨by decide +kernel, rfl⟩
theorem d17_5 : Dc jdk_42_method_54_code 5 (.aload_n 0) 1 6 := ⟨by decide +kernel, rfl⟩
theorem d17_6 : Dc jdk_42_method_54_code 6 (.invokevirtual 335) 3 9 := ⟨by decide +kernel, rfl⟩
theorem d17_9 : Dc jdk_42_method_54_code 9 .ishr 1 10 := ⟨by decide +kernel, rfl⟩
theorem d17_10 : Dc jdk_42_method_54_code 10 .ireturn 1 11 := ⟨by decide +kernel, rfl⟩
theorem d18_0 : Dc jdk_42_method_152_code 0 (.getstatic 38) 3 3 := ⟨by decide +kernel, rfl⟩
theorem d18_3 : Dj jdk_42_method_152_code 3 (.ifCond .eq) 6 13 := ⟨10, by decide +kernel, rfl, by decide, by decide⟩
theorem d18_6 : Dc jdk_42_method_152_code 6 (.aload_n 0) 1 7 := ⟨by decide +kernel, rfl⟩
theorem d18_7 : Dc jdk_42_method_152_code 7 (.getfield 15) 3 10 := ⟨by decide +kernel, rfl⟩
theorem d18_10 : Dj jdk_42_method_152_code 10 .goto 13 14 := ⟨4, by decide +kernel, rfl, by decide, by decide⟩
theorem d18_14 : Dc jdk_42_method_152_code 14 .ireturn 1 15 := ⟨by decide +kernel, rfl⟩
theorem d19_0 : Dc prog_62_method_14_code 0 (.aload_n 0) 1 1 := ⟨by decide +kernel, rfl⟩
theorem d19_1 : Dc prog_62_method_14_code 1 (.invokeinterface 20 1) 5 6 := ⟨by decide +kernel, rfl⟩
theorem d19_6 : Dc prog_62_method_14_code 6 (.ldc 37) 2 8 := ⟨by decide +kernel, rfl⟩
theorem d19_8 : Dc prog_62_method_14_code 8 (.invokevirtual 39) 3 11 := ⟨by decide +kernel, rfl⟩
theorem d19_11 : Dj prog_62_method_14_code 11 (.if_icmp .ge) 14 16 := ⟨5, by decide +kernel, rfl, by decide, by decide⟩
theorem d19_16 : Dc prog_62_method_14_code 16 (.iconst 0) 1 17 := ⟨by decide +kernel, rfl⟩
theorem d19_17 : Dc prog_62_method_14_code 17 (.istore_n 1) 1 18 := ⟨by decide +kernel, rfl⟩
theorem d19_18 : Dc prog_62_method_14_code 18 (.iload_n 1) 1 19 := ⟨by decide +kernel, rfl⟩
theorem d19_19 : Dc prog_62_method_14_code 19 (.ldc 37) 2 21 := ⟨by decide +kernel, rfl⟩
theorem d19_21 : Dc prog_62_method_14_code 21 (.invokevirtual 39) 3 24 := ⟨by decide +kernel, rfl⟩
theorem d19_24 : Dj prog_62_method_14_code 24 (.if_icmp .ge) 27 54 := ⟨30, by decide +kernel, rfl, by decide, by decide⟩
theorem d19_27 : Dc prog_62_method_14_code 27 (.aload_n 0) 1 28 := ⟨by decide +kernel, rfl⟩
theorem d19_28 : Dc prog_62_method_14_code 28 (.iload_n 1) 1 29 := ⟨by decide +kernel, rfl⟩
theorem d19_29 : Dc prog_62_method_14_code 29 (.invokeinterface 46 2) 5 34 := ⟨by decide +kernel, rfl⟩
theorem d19_34 : Dc prog_62_method_14_code 34 (.invokestatic 69) 3 37 := ⟨by decide +kernel, rfl⟩
theorem d19_37 : Dc prog_62_method_14_code 37 (.ldc 37) 2 39 := ⟨by decide +kernel, rfl⟩
theorem d19_39 : Dc prog_62_method_14_code 39 (.iload_n 1) 1 40 := ⟨by decide +kernel, rfl⟩
theorem d19_40 : Dc prog_62_method_14_code 40 (.invokevirtual 199) 3 43 := ⟨by decide +kernel, rfl⟩
theorem d19_43 : Dj prog_62_method_14_code 43 (.if_icmp .eq) 46 48 := ⟨5, by decide +kernel, rfl, by decide, by decide⟩
theorem d19_48 : Dc prog_62_method_14_code 48 (.iinc 1 1) 3 51 := ⟨by decide +kernel, rfl⟩
theorem d19_51 : Dj prog_62_method_14_code 51 .goto 54 18 := ⟨(-33), by decide +kernel, rfl, by decide, by decide⟩
theorem d19_54 : Dc prog_62_method_14_code 54 (.iconst 1) 1 55 := ⟨by decide +kernel, rfl⟩
theorem d19_55 : Dc prog_62_method_14_code 55 .ireturn 1 56 := ⟨by decide +kernel, rfl⟩
theorem d20_0 : Dc prog_62_method_20_code 0 (.iload_n 0) 1 1 := ⟨by decide +kernel, rfl⟩
theorem d20_1 : Dc prog_62_method_20_code 1 (.invokestatic 54) 3 4 := ⟨by decide +kernel, rfl⟩
theorem d20_4 : Dj prog_62_method_20_code 4 (.ifCond .eq) 7 14 := ⟨10, by decide +kernel, rfl, by decide, by decide⟩
theorem d20_7 : Dc prog_62_method_20_code 7 (.iload_n 0) 1 8 := ⟨by decide +kernel, rfl⟩
theorem d20_8 : Dc prog_62_method_20_code 8 (.bipush 32) 2 10 := ⟨by decide +kernel, rfl⟩
theorem d20_10 : Dc prog_62_method_20_code 10 .ior 1 11 := ⟨by decide +kernel, rfl⟩
theorem d20_11 : Dj prog_62_method_20_code 11 .goto 14 15 := ⟨4, by decide +kernel, rfl, by decide, by decide⟩
theorem d20_14 : Dc prog_62_method_20_code 14 (.iload_n 0) 1 15 := ⟨by decide +kernel, rfl⟩
theorem d20_15 : Dc prog_62_method_20_code 15 .ireturn 1 16 := ⟨by decide +kernel, rfl⟩
theorem d21_0 : Dc prog_62_method_19_code 0 (.iload_n 0) 1 1 := ⟨by decide +kernel, rfl⟩
theorem d21_1 : Dc prog_62_method_19_code 1 (.bipush 65) 2 3 := ⟨by decide +kernel, rfl⟩
theorem d21_3 : Dj prog_62_method_19_code 3 (.if_icmp .lt) 6 12 := ⟨9, by decide +kernel, rfl, by decide, by decide⟩
theorem d21_6 : Dc prog_62_method_19_code 6 (.iload_n 0) 1 7 := ⟨by decide +kernel, rfl⟩
theorem d21_7 : Dc prog_62_method_19_code 7 (.bipush 90) 2 9 := ⟨by decide +kernel, rfl⟩
theorem d21_9 : Dj prog_62_method_19_code 9 (.if_icmp .le) 12 24 := ⟨15, by decide +kernel, rfl, by decide, by decide⟩
theorem d21_12 : Dc prog_62_method_19_code 12 (.iload_n 0) 1 13 := ⟨by decide +kernel, rfl⟩
theorem d21_13 : Dc prog_62_method_19_code 13 (.bipush 97) 2 15 := ⟨by decide +kernel, rfl⟩
theorem d21_15 : Dj prog_62_method_19_code 15 (.if_icmp .lt) 18 28 := ⟨13, by decide +kernel, rfl, by decide, by decide⟩
theorem d21_18 : Dc prog_62_method_19_code 18 (.iload_n 0) 1 19 := ⟨by decide +kernel, rfl⟩
theorem d21_19 : Dc prog_62_method_19_code 19 (.bipush 122) 2 21 := ⟨by decide +kernel, rfl⟩
theorem d21_21 : Dj prog_62_method_19_code 21 (.if_icmp .gt) 24 28 := ⟨7, by decide +kernel, rfl, by decide, by decide⟩
theorem d21_24 : Dc prog_62_method_19_code 24 (.iconst 1) 1 25 := ⟨by decide +kernel, rfl⟩
theorem d21_25 : Dj prog_62_method_19_code 25 .goto 28 29 := ⟨4, by decide +kernel, rfl, by decide, by decide⟩
theorem d21_28 : Dc prog_62_method_19_code 28 (.iconst 0) 1 29 := ⟨by decide +kernel, rfl⟩
theorem d21_29 : Dc prog_62_method_19_code 29 .ireturn 1 30 := ⟨by decide +kernel, rfl⟩
theorem d22_0 : Dc jdk_42_method_61_code 0 (.iload_n 1) 1 1 := ⟨by decide +kernel, rfl⟩
theorem d22_1 : Dc jdk_42_method_61_code 1 (.iload_n 2) 1 2 := ⟨by decide +kernel, rfl⟩
theorem d22_2 : Dc jdk_42_method_61_code 2 (.aload_n 0) 1 3 := ⟨by decide +kernel, rfl⟩
theorem d22_3 : Dc jdk_42_method_61_code 3 (.invokevirtual 505) 3 6 := ⟨by decide +kernel, rfl⟩
theorem d22_6 : Dc jdk_42_method_61_code 6 (.invokestatic 521) 3 9 := ⟨by decide +kernel, rfl⟩
theorem d22_9 : Dc jdk_42_method_61_code 9 (.iload 4) 2 11 := ⟨by decide +kernel, rfl⟩
theorem d22_11 : Dc jdk_42_method_61_code 11 (.iload_n 2) 1 12 := ⟨by decide +kernel, rfl⟩
theorem d22_12 : Dc jdk_42_method_61_code 12 (.iload_n 1) 1 13 := ⟨by decide +kernel, rfl⟩
theorem d22_13 : Dc jdk_42_method_61_code 13 .isub 1 14 := ⟨by decide +kernel, rfl⟩
theorem d22_14 : Dc jdk_42_method_61_code 14 (.aload_n 3) 1 15 := ⟨by decide +kernel, rfl⟩
theorem d22_15 : Dc jdk_42_method_61_code 15 .arraylength 1 16 := ⟨by decide +kernel, rfl⟩
theorem d22_16 : Dc jdk_42_method_61_code 16 (.invokestatic 34) 3 19 := ⟨by decide +kernel, rfl⟩
theorem d22_19 : Dc jdk_42_method_61_code 19 .pop 1 20 := ⟨by decide +kernel, rfl⟩
theorem d22_20 : Dc jdk_42_method_61_code 20 (.aload_n 0) 1 21 := ⟨by decide +kernel, rfl⟩
theorem d22_21 : Dc jdk_42_method_61_code 21 (.invokevirtual 492) 3 24 := ⟨by decide +kernel, rfl⟩
theorem d22_24 : Dj jdk_42_method_61_code 24 (.ifCond .eq) 27 42 := ⟨18, by decide +kernel, rfl, by decide, by decide⟩
theorem d22_27 : Dc jdk_42_method_61_code 27 (.aload_n 0) 1 28 := ⟨by decide +kernel, rfl⟩
theorem d22_28 : Dc jdk_42_method_61_code 28 (.getfield 9) 3 31 := ⟨by decide +kernel, rfl⟩
theorem d22_31 : Dc jdk_42_method_61_code 31 (.iload_n 1) 1 32 := ⟨by decide +kernel, rfl⟩
theorem d22_32 : Dc jdk_42_method_61_code 32 (.iload_n 2) 1 33 := ⟨by decide +kernel, rfl⟩
theorem d22_33 : Dc jdk_42_method_61_code 33 (.aload_n 3) 1 34 := ⟨by decide +kernel, rfl⟩
theorem d22_34 : Dc jdk_42_method_61_code 34 (.iload 4) 2 36 := ⟨by decide +kernel, rfl⟩
theorem d22_36 : Dc jdk_42_method_61_code 36 (.invokestatic 525) 3 39 := ⟨by decide +kernel, rfl⟩
theorem d22_39 : Dj jdk_42_method_61_code 39 .goto 42 54 := ⟨15, by decide +kernel, rfl, by decide, by decide⟩
theorem d22_54 : Dc jdk_42_method_61_code 54 .return_ 1 55 := ⟨by decide +kernel, rfl⟩
theorem d23_0 : Dc jdk_42_method_158_code 0 (.iload_n 0) 1 1 := ⟨by decide +kernel, rfl⟩
theorem d23_1 : Dc jdk_42_method_158_code 1 (.iload_n 1) 1 2 := ⟨by decide +kernel, rfl⟩
theorem d23_2 : Dc jdk_42_method_158_code 2 (.iload_n 2) 1 3 := ⟨by decide +kernel, rfl⟩
theorem d23_3 : Dc jdk_42_method_158_code 3 (.getstatic 1053) 3 6 := ⟨by decide +kernel, rfl⟩
theorem d23_6 : Dc jdk_42_method_158_code 6 (.invokestatic 1062) 3 9 := ⟨by decide +kernel, rfl⟩
theorem d23_9 : Dc jdk_42_method_158_code 9 .pop 1 10 := ⟨by decide +kernel, rfl⟩
theorem d23_10 : Dc jdk_42_method_158_code 10 .return_ 1 11 := ⟨by decide +kernel, rfl⟩
theorem d24_0 : Dc jdk_41_method_12_code 0 (.iload_n 0) 1 1 := ⟨by decide +kernel, rfl⟩
theorem d24_1 : Dj jdk_41_method_12_code 1 (.ifCond .lt) 4 14 := ⟨13, by decide +kernel, rfl, by decide, by decide⟩
theorem d24_4 : Dc jdk_41_method_12_code 4 (.iload_n 0) 1 5 := ⟨by decide +kernel, rfl⟩
theorem d24_5 : Dc jdk_41_method_12_code 5 (.iload_n 1) 1 6 := ⟨by decide +kernel, rfl⟩
theorem d24_6 : Dj jdk_41_method_12_code 6 (.if_icmp .gt) 9 14 := ⟨8, by decide +kernel, rfl, by decide, by decide⟩
theorem d24_9 : Dc jdk_41_method_12_code 9 (.iload_n 1) 1 10 := ⟨by decide +kernel, rfl⟩
theorem d24_10 : Dc jdk_41_method_12_code 10 (.iload_n 2) 1 11 := ⟨by decide +kernel, rfl⟩
theorem d24_11 : Dj jdk_41_method_12_code 11 (.if_icmp .le) 14 22 := ⟨11, by decide +kernel, rfl, by decide, by decide⟩
theorem d24_22 : Dc jdk_41_method_12_code 22 (.iload_n 0) 1 23 := ⟨by decide +kernel, rfl⟩
theorem d24_23 : Dc jdk_41_method_12_code 23 .ireturn 1 24 := ⟨by decide +kernel, rfl⟩
theorem d25_0 : Dc jdk_42_method_157_code 0 (.iload_n 0) 1 1 := ⟨by decide +kernel, rfl⟩
theorem d25_1 : Dc jdk_42_method_157_code 1 (.iload_n 1) 1 2 := ⟨by decide +kernel, rfl⟩
theorem d25_2 : Dc jdk_42_method_157_code 2 (.iload_n 2) 1 3 := ⟨by decide +kernel, rfl⟩
theorem d25_3 : Dc jdk_42_method_157_code 3 (.getstatic 1053) 3 6 := ⟨by decide +kernel, rfl⟩
theorem d25_6 : Dc jdk_42_method_157_code 6 (.invokestatic 1065) 3 9 := ⟨by decide +kernel, rfl⟩
theorem d25_9 : Dc jdk_42_method_157_code 9 .ireturn 1 10 := ⟨by decide +kernel, rfl⟩
theorem d26_0 : Dc jdk_41_method_13_code 0 (.iload_n 2) 1 1 := ⟨by decide +kernel, rfl⟩
theorem d26_1 : Dc jdk_41_method_13_code 1 (.iload_n 0) 1 2 := ⟨by decide +kernel, rfl⟩
theorem d26_2 : Dc jdk_41_method_13_code 2 .ior 1 3 := ⟨by decide +kernel, rfl⟩
theorem d26_3 : Dc jdk_41_method_13_code 3 (.iload_n 1) 1 4 := ⟨by decide +kernel, rfl⟩
theorem d26_4 : Dc jdk_41_method_13_code 4 .ior 1 5 := ⟨by decide +kernel, rfl⟩
theorem d26_5 : Dj jdk_41_method_13_code 5 (.ifCond .lt) 8 15 := ⟨10, by decide +kernel, rfl, by decide, by decide⟩
theorem d26_8 : Dc jdk_41_method_13_code 8 (.iload_n 1) 1 9 := ⟨by decide +kernel, rfl⟩
theorem d26_9 : Dc jdk_41_method_13_code 9 (.iload_n 2) 1 10 := ⟨by decide +kernel, rfl⟩
theorem d26_10 : Dc jdk_41_method_13_code 10 (.iload_n 0) 1 11 := ⟨by decide +kernel, rfl⟩
theorem d26_11 : Dc jdk_41_method_13_code 11 .isub 1 12 := ⟨by decide +kernel, rfl⟩
theorem d26_12 : Dj jdk_41_method_13_code 12 (.if_icmp .le) 15 23 := ⟨11, by decide +kernel, rfl, by decide, by decide⟩
theorem d26_23 : Dc jdk_41_method_13_code 23 (.iload_n 0) 1 24 := ⟨by decide +kernel, rfl⟩
theorem d26_24 : Dc jdk_41_method_13_code 24 .ireturn 1 25 := ⟨by decide +kernel, rfl⟩
theorem d27_0 : Dc jdk_43_method_11_code 0 (.aload_n 0) 1 1 := ⟨by decide +kernel, rfl⟩
theorem d27_1 : Dc jdk_43_method_11_code 1 (.iload_n 1) 1 2 := ⟨by decide +kernel, rfl⟩
theorem d27_2 : Dc jdk_43_method_11_code 2 (.aload_n 3) 1 3 := ⟨by decide +kernel, rfl⟩
theorem d27_3 : Dc jdk_43_method_11_code 3 (.iload 4) 2 5 := ⟨by decide +kernel, rfl⟩
theorem d27_5 : Dc jdk_43_method_11_code 5 (.iload_n 2) 1 6 := ⟨by decide +kernel, rfl⟩
theorem d27_6 : Dc jdk_43_method_11_code 6 (.iload_n 1) 1 7 := ⟨by decide +kernel, rfl⟩
theorem d27_7 : Dc jdk_43_method_11_code 7 .isub 1 8 := ⟨by decide +kernel, rfl⟩
theorem d27_8 : Dc jdk_43_method_11_code 8 (.invokestatic 13) 3 11 := ⟨by decide +kernel, rfl⟩
theorem d27_11 : Dc jdk_43_method_11_code 11 .return_ 1 12 := ⟨by decide +kernel, rfl⟩
theorem d28_0 : Dc jdk_43_method_49_code 0 (.iconst 0) 1 1 := ⟨by decide +kernel, rfl⟩
theorem d28_1 : Dc jdk_43_method_49_code 1 (.istore 5) 2 3 := ⟨by decide +kernel, rfl⟩
theorem d28_3 : Dc jdk_43_method_49_code 3 (.iload 5) 2 5 := ⟨by decide +kernel, rfl⟩
theorem d28_5 : Dc jdk_43_method_49_code 5 (.iload 4) 2 7 := ⟨by decide +kernel, rfl⟩
theorem d28_7 : Dj jdk_43_method_49_code 7 (.if_icmp .ge) 10 33 := ⟨26, by decide +kernel, rfl, by decide, by decide⟩
theorem d28_10 : Dc jdk_43_method_49_code 10 (.aload_n 2) 1 11 := ⟨by decide +kernel, rfl⟩
theorem d28_11 : Dc jdk_43_method_49_code 11 (.iload_n 3) 1 12 := ⟨by decide +kernel, rfl⟩
theorem d28_12 : Dc jdk_43_method_49_code 12 (.iinc 3 1) 3 15 := ⟨by decide +kernel, rfl⟩
theorem d28_15 : Dc jdk_43_method_49_code 15 (.aload_n 0) 1 16 := ⟨by decide +kernel, rfl⟩
theorem d28_16 : Dc jdk_43_method_49_code 16 (.iload_n 1) 1 17 := ⟨by decide +kernel, rfl⟩
theorem d28_17 : Dc jdk_43_method_49_code 17 (.iinc 1 1) 3 20 := ⟨by decide +kernel, rfl⟩
theorem d28_20 : Dc jdk_43_method_49_code 20 .baload 1 21 := ⟨by decide +kernel, rfl⟩
theorem d28_21 : Dc jdk_43_method_49_code 21 (.sipush 255) 3 24 := ⟨by decide +kernel, rfl⟩
theorem d28_24 : Dc jdk_43_method_49_code 24 .iand 1 25 := ⟨by decide +kernel, rfl⟩
theorem d28_25 : Dc jdk_43_method_49_code 25 .i2c 1 26 := ⟨by decide +kernel, rfl⟩
theorem d28_26 : Dc jdk_43_method_49_code 26 .castore 1 27 := ⟨by decide +kernel, rfl⟩
theorem d28_27 : Dc jdk_43_method_49_code 27 (.iinc 5 1) 3 30 := ⟨by decide +kernel, rfl⟩
theorem d28_30 : Dj jdk_43_method_49_code 30 .goto 33 3 := ⟨(-27), by decide +kernel, rfl, by decide, by decide⟩
theorem d28_33 : Dc jdk_43_method_49_code 33 .return_ 1 34 := ⟨by decide +kernel, rfl⟩
theorem d29_0 : Dc prog_62_method_15_code 0 (.iload_n 1) 1 1 := ⟨by decide +kernel, rfl⟩
theorem d29_1 : Dc prog_62_method_15_code 1 (.iconst 2) 1 2 := ⟨by decide +kernel, rfl⟩
theorem d29_2 : Dc prog_62_method_15_code 2 .iadd 1 3 := ⟨by decide +kernel, rfl⟩
theorem d29_3 : Dc prog_62_method_15_code 3 (.aload_n 0) 1 4 := ⟨by decide +kernel, rfl⟩
theorem d29_4 : Dc prog_62_method_15_code 4 (.invokeinterface 20 1) 5 9 := ⟨by decide +kernel, rfl⟩
theorem d29_9 : Dj prog_62_method_15_code 9 (.if_icmp .ge) 12 27 := ⟨18, by decide +kernel, rfl, by decide, by decide⟩
theorem d29_12 : Dc prog_62_method_15_code 12 (.aload_n 0) 1 13 := ⟨by decide +kernel, rfl⟩
theorem d29_13 : Dc prog_62_method_15_code 13 (.iload_n 1) 1 14 := ⟨by decide +kernel, rfl⟩
theorem d29_14 : Dc prog_62_method_15_code 14 (.iconst 1) 1 15 := ⟨by decide +kernel, rfl⟩
theorem d29_15 : Dc prog_62_method_15_code 15 .iadd 1 16 := ⟨by decide +kernel, rfl⟩
theorem d29_16 : Dc prog_62_method_15_code 16 (.invokeinterface 46 2) 5 21 := ⟨by decide +kernel, rfl⟩
theorem d29_21 : Dc prog_62_method_15_code 21 (.invokestatic 231) 3 24 := ⟨by decide +kernel, rfl⟩
theorem d29_24 : Dj prog_62_method_15_code 24 .goto 27 28 := ⟨4, by decide +kernel, rfl, by decide, by decide⟩
theorem d29_28 : Dc prog_62_method_15_code 28 (.istore_n 2) 1 29 := ⟨by decide +kernel, rfl⟩
theorem d29_29 : Dc prog_62_method_15_code 29 (.iload_n 2) 1 30 := ⟨by decide +kernel, rfl⟩
theorem d29_30 : Dj prog_62_method_15_code 30 (.ifCond .ge) 33 37 := ⟨7, by decide +kernel, rfl, by decide, by decide⟩
theorem d29_37 : Dc prog_62_method_15_code 37 (.aload_n 0) 1 38 := ⟨by decide +kernel, rfl⟩
theorem d29_38 : Dc prog_62_method_15_code 38 (.iload_n 1) 1 39 := ⟨by decide +kernel, rfl⟩
theorem d29_39 : Dc prog_62_method_15_code 39 (.iconst 2) 1 40 := ⟨by decide +kernel, rfl⟩
theorem d29_40 : Dc prog_62_method_15_code 40 .iadd 1 41 := ⟨by decide +kernel, rfl⟩
theorem d29_41 : Dc prog_62_method_15_code 41 (.invokeinterface 46 2) 5 46 := ⟨by decide +kernel, rfl⟩
theorem d29_46 : Dc prog_62_method_15_code 46 (.invokestatic 231) 3 49 := ⟨by decide +kernel, rfl⟩
theorem d29_49 : Dc prog_62_method_15_code 49 (.istore_n 3) 1 50 := ⟨by decide +kernel, rfl⟩
theorem d29_50 : Dc prog_62_method_15_code 50 (.iload_n 3) 1 51 := ⟨by decide +kernel, rfl⟩
theorem d29_51 : Dj prog_62_method_15_code 51 (.ifCond .ge) 54 71 := ⟨20, by decide +kernel, rfl, by decide, by decide⟩
theorem d29_71 : Dc prog_62_method_15_code 71 (.iload_n 2) 1 72 := ⟨by decide +kernel, rfl⟩
theorem d29_72 : Dc prog_62_method_15_code 72 (.iconst 4) 1 73 := ⟨by decide +kernel, rfl⟩
theorem d29_73 : Dc prog_62_method_15_code 73 .ishl 1 74 := ⟨by decide +kernel, rfl⟩
theorem d29_74 : Dc prog_62_method_15_code 74 (.iload_n 3) 1 75 := ⟨by decide +kernel, rfl⟩
theorem d29_75 : Dc prog_62_method_15_code 75 .ior 1 76 := ⟨by decide +kernel, rfl⟩
theorem d29_76 : Dc prog_62_method_15_code 76 .ireturn 1 77 := ⟨by decide +kernel, rfl⟩
theorem d30_0 : Dc prog_62_method_17_code 0 (.iload_n 0) 1 1 := ⟨by decide +kernel, rfl⟩
theorem d30_1 : Dc prog_62_method_17_code 1 (.invokestatic 264) 3 4 := ⟨by decide +kernel, rfl⟩
theorem d30_4 : Dj prog_62_method_17_code 4 (.ifCond .eq) 7 12 := ⟨8, by decide +kernel, rfl, by decide, by decide⟩
theorem d30_7 : Dc prog_62_method_17_code 7 (.iload_n 0) 1 8 := ⟨by decide +kernel, rfl⟩
theorem d30_8 : Dc prog_62_method_17_code 8 (.bipush 48) 2 10 := ⟨by decide +kernel, rfl⟩
theorem d30_10 : Dc prog_62_method_17_code 10 .isub 1 11 := ⟨by decide +kernel, rfl⟩
theorem d30_11 : Dc prog_62_method_17_code 11 .ireturn 1 12 := ⟨by decide +kernel, rfl⟩
theorem d30_12 : Dc prog_62_method_17_code 12 (.iload_n 0) 1 13 := ⟨by decide +kernel, rfl⟩
theorem d30_13 : Dc prog_62_method_17_code 13 (.invokestatic 69) 3 16 := ⟨by decide +kernel, rfl⟩
theorem d30_16 : Dc prog_62_method_17_code 16 (.istore_n 1) 1 17 := ⟨by decide +kernel, rfl⟩
theorem d30_17 : Dc prog_62_method_17_code 17 (.iload_n 1) 1 18 := ⟨by decide +kernel, rfl⟩
theorem d30_18 : Dc prog_62_method_17_code 18 (.bipush 97) 2 20 := ⟨by decide +kernel, rfl⟩
theorem d30_20 : Dj prog_62_method_17_code 20 (.if_icmp .lt) 23 39 := ⟨19, by decide +kernel, rfl, by decide, by decide⟩
theorem d30_23 : Dc prog_62_method_17_code 23 (.iload_n 1) 1 24 := ⟨by decide +kernel, rfl⟩
theorem d30_24 : Dc prog_62_method_17_code 24 (.bipush 102) 2 26 := ⟨by decide +kernel, rfl⟩
theorem d30_26 : Dj prog_62_method_17_code 26 (.if_icmp .gt) 29 39 := ⟨13, by decide +kernel, rfl, by decide, by decide⟩
theorem d30_29 : Dc prog_62_method_17_code 29 (.iload_n 1) 1 30 := ⟨by decide +kernel, rfl⟩
theorem d30_30 : Dc prog_62_method_17_code 30 (.bipush 97) 2 32 := ⟨by decide +kernel, rfl⟩
theorem d30_32 : Dc prog_62_method_17_code 32 .isub 1 33 := ⟨by decide +kernel, rfl⟩
theorem d30_33 : Dc prog_62_method_17_code 33 (.bipush 10) 2 35 := ⟨by decide +kernel, rfl⟩
theorem d30_35 : Dc prog_62_method_17_code 35 .iadd 1 36 := ⟨by decide +kernel, rfl⟩
theorem d30_36 : Dj prog_62_method_17_code 36 .goto 39 40 := ⟨4, by decide +kernel, rfl, by decide, by decide⟩
theorem d30_40 : Dc prog_62_method_17_code 40 .ireturn 1 41 := ⟨by decide +kernel, rfl⟩
theorem d31_0 : Dc prog_62_method_21_code 0 (.iload_n 0) 1 1 := ⟨by decide +kernel, rfl⟩
theorem d31_1 : Dc prog_62_method_21_code 1 (.bipush 48) 2 3 := ⟨by decide +kernel, rfl⟩
theorem d31_3 : Dj prog_62_method_21_code 3 (.if_icmp .lt) 6 16 := ⟨13, by decide +kernel, rfl, by decide, by decide⟩
theorem d31_6 : Dc prog_62_method_21_code 6 (.iload_n 0) 1 7 := ⟨by decide +kernel, rfl⟩
theorem d31_7 : Dc prog_62_method_21_code 7 (.bipush 57) 2 9 := ⟨by decide +kernel, rfl⟩
theorem d31_9 : Dj prog_62_method_21_code 9 (.if_icmp .gt) 12 16 := ⟨7, by decide +kernel, rfl, by decide, by decide⟩
theorem d31_12 : Dc prog_62_method_21_code 12 (.iconst 1) 1 13 := ⟨by decide +kernel, rfl⟩
theorem d31_13 : Dj prog_62_method_21_code 13 .goto 16 17 := ⟨4, by decide +kernel, rfl, by decide, by decide⟩
theorem d31_16 : Dc prog_62_method_21_code 16 (.iconst 0) 1 17 := ⟨by decide +kernel, rfl⟩
theorem d31_17 : Dc prog_62_method_21_code 17 .ireturn 1 18 := ⟨by decide +kernel, rfl⟩
theorem d32_0 : Dc prog_62_method_18_code 0 (.iload_n 0) 1 1 := ⟨by decide +kernel, rfl⟩
theorem d32_1 : Dc prog_62_method_18_code 1 (.sipush 128) 3 4 := ⟨by decide +kernel, rfl⟩
theorem d32_4 : Dj prog_62_method_18_code 4 (.if_icmp .ge) 7 19 := ⟨15, by decide +kernel, rfl, by decide, by decide⟩
theorem d32_7 : Dc prog_62_method_18_code 7 (.getstatic 267) 3 10 := ⟨by decide +kernel, rfl⟩
theorem d32_10 : Dc prog_62_method_18_code 10 (.iload_n 0) 1 11 := ⟨by decide +kernel, rfl⟩
theorem d32_11 : Dc prog_62_method_18_code 11 .baload 1 12 := ⟨by decide +kernel, rfl⟩
theorem d32_12 : Dj prog_62_method_18_code 12 (.ifCond .eq) 15 19 := ⟨7, by decide +kernel, rfl, by decide, by decide⟩
theorem d32_15 : Dc prog_62_method_18_code 15 (.iconst 1) 1 16 := ⟨by decide +kernel, rfl⟩
theorem d32_16 : Dj prog_62_method_18_code 16 .goto 19 20 := ⟨4, by decide +kernel, rfl, by decide, by decide⟩
theorem d32_19 : Dc prog_62_method_18_code 19 (.iconst 0) 1 20 := ⟨by decide +kernel, rfl⟩
theorem d32_20 : Dc prog_62_method_18_code 20 .ireturn 1 21 := ⟨by decide +kernel, rfl⟩
theorem d33_0 : Dc jdk_42_method_4_code 0 (.aload_n 0) 1 1 := ⟨by decide +kernel, rfl⟩
theorem d33_1 : Dc jdk_42_method_4_code 1 (.aload_n 1) 1 2 := ⟨by decide +kernel, rfl⟩
theorem d33_2 : Dc jdk_42_method_4_code 2 (.iload_n 2) 1 3 := ⟨by decide +kernel, rfl⟩
theorem d33_3 : Dc jdk_42_method_4_code 3 (.iload_n 3) 1 4 := ⟨by decide +kernel, rfl⟩
theorem d33_4 : Dc jdk_42_method_4_code 4 (.aload_n 1) 1 5 := ⟨by decide +kernel, rfl⟩
theorem d33_5 : Dc jdk_42_method_4_code 5 (.iload_n 2) 1 6 := ⟨by decide +kernel, rfl⟩
theorem d33_6 : Dc jdk_42_method_4_code 6 (.iload_n 3) 1 7 := ⟨by decide +kernel, rfl⟩
theorem d33_7 : Dc jdk_42_method_4_code 7 (.invokestatic 30) 3 10 := ⟨by decide +kernel, rfl⟩
theorem d33_10 : Dc jdk_42_method_4_code 10 (.invokespecial 27) 3 13 := ⟨by decide +kernel, rfl⟩
theorem d33_13 : Dc jdk_42_method_4_code 13 .return_ 1 14 := ⟨by decide +kernel, rfl⟩
theorem d34_0 : Dc jdk_42_method_5_code 0 (.iload_n 1) 1 1 := ⟨by decide +kernel, rfl⟩
theorem d34_1 : Dc jdk_42_method_5_code 1 (.iload_n 2) 1 2 := ⟨by decide +kernel, rfl⟩
theorem d34_2 : Dc jdk_42_method_5_code 2 (.aload_n 0) 1 3 := ⟨by decide +kernel, rfl⟩
theorem d34_3 : Dc jdk_42_method_5_code 3 .arraylength 1 4 := ⟨by decide +kernel, rfl⟩
theorem d34_4 : Dc jdk_42_method_5_code 4 (.invokestatic 34) 3 7 := ⟨by decide +kernel, rfl⟩
theorem d34_7 : Dc jdk_42_method_5_code 7 .pop 1 8 := ⟨by decide +kernel, rfl⟩
theorem d34_8 : Dc jdk_42_method_5_code 8 .aconst_null 1 9 := ⟨by decide +kernel, rfl⟩
theorem d34_9 : Dc jdk_42_method_5_code 9 .areturn 1 10 := ⟨by decide +kernel, rfl⟩
theorem d35_0 : Dc prog_62_method_1_code 0 (.aload_n 0) 1 1 := ⟨by decide +kernel, rfl⟩
theorem d35_1 : Dc prog_62_method_1_code 1 (.invokespecial 1) 3 4 := ⟨by decide +kernel, rfl⟩
theorem d35_4 : Dc prog_62_method_1_code 4 (.aload_n 0) 1 5 := ⟨by decide +kernel, rfl⟩
theorem d35_5 : Dc prog_62_method_1_code 5 (.aload_n 1) 1 6 := ⟨by decide +kernel, rfl⟩
theorem d35_6 : Dc prog_62_method_1_code 6 (.putfield 7) 3 9 := ⟨by decide +kernel, rfl⟩
theorem d35_9 : Dc prog_62_method_1_code 9 (.aload_n 0) 1 10 := ⟨by decide +kernel, rfl⟩
theorem d35_10 : Dc prog_62_method_1_code 10 (.iload_n 2) 1 11 := ⟨by decide +kernel, rfl⟩
theorem d35_11 : Dc prog_62_method_1_code 11 (.putfield 13) 3 14 := ⟨by decide +kernel, rfl⟩
theorem d35_14 : Dc prog_62_method_1_code 14 (.aload_n 0) 1 15 := ⟨by decide +kernel, rfl⟩
theorem d35_15 : Dc prog_62_method_1_code 15 (.iload_n 3) 1 16 := ⟨by decide +kernel, rfl⟩
theorem d35_16 : Dc prog_62_method_1_code 16 (.putfield 17) 3 19 := ⟨by decide +kernel, rfl⟩
theorem d35_19 : Dc prog_62_method_1_code 19 .return_ 1 20 := ⟨by decide +kernel, rfl⟩
theorem d36_0 : Dc prog_62_method_11_code 0 (.aload_n 0) 1 1 := ⟨by decide +kernel, rfl⟩
theorem d36_1 : Dc prog_62_method_11_code 1 (.getfield 7) 3 4 := ⟨by decide +kernel, rfl⟩
theorem d36_4 : Dc prog_62_method_11_code 4 .areturn 1 5 := ⟨by decide +kernel, rfl⟩
theorem d37_0 : Dc method_9_code 0 (.iload_n 1) 1 1 := ⟨by decide +kernel, rfl⟩
theorem d37_1 : Dj method_9_code 1 (.ifCond .lt) 4 27 := ⟨26, by decide +kernel, rfl, by decide, by decide⟩
theorem d37_4 : Dc method_9_code 4 (.iload_n 1) 1 5 := ⟨by decide +kernel, rfl⟩
theorem d37_5 : Dc method_9_code 5 (.aload_n 0) 1 6 := ⟨by decide +kernel, rfl⟩
theorem d37_6 : Dc method_9_code 6 (.invokevirtual 48) 3 9 := ⟨by decide +kernel, rfl⟩
theorem d37_9 : Dj method_9_code 9 (.if_icmp .ge) 12 27 := ⟨18, by decide +kernel, rfl, by decide, by decide⟩
theorem d37_12 : Dc method_9_code 12 (.aload_n 0) 1 13 := ⟨by decide +kernel, rfl⟩
theorem d37_13 : Dc method_9_code 13 (.iload_n 1) 1 14 := ⟨by decide +kernel, rfl⟩
theorem d37_14 : Dc method_9_code 14 (.invokevirtual 60) 3 17 := ⟨by decide +kernel, rfl⟩
theorem d37_17 : Dc method_9_code 17 (.iload_n 2) 1 18 := ⟨by decide +kernel, rfl⟩
theorem d37_18 : Dj method_9_code 18 (.if_icmp .ne) 21 27 := ⟨9, by decide +kernel, rfl, by decide, by decide⟩
theorem d37_21 : Dc method_9_code 21 (.iload_n 1) 1 22 := ⟨by decide +kernel, rfl⟩
theorem d37_22 : Dc method_9_code 22 (.iconst 1) 1 23 := ⟨by decide +kernel, rfl⟩
theorem d37_23 : Dc method_9_code 23 .iadd 1 24 := ⟨by decide +kernel, rfl⟩
theorem d37_24 : Dj method_9_code 24 .goto 27 28 := ⟨4, by decide +kernel, rfl, by decide, by decide⟩
theorem d37_28 : Dc method_9_code 28 .ireturn 1 29 := ⟨by decide +kernel, rfl⟩
theorem d38_0 : Dc method_11_code 0 (.iload_n 2) 1 1 := ⟨by decide +kernel, rfl⟩
theorem d38_1 : Dc method_11_code 1 (.iconst 3) 1 2 := ⟨by decide +kernel, rfl⟩
theorem d38_2 : Dc method_11_code 2 .iushr 1 3 := ⟨by decide +kernel, rfl⟩
theorem d38_3 : Dc method_11_code 3 (.istore 4) 2 5 := ⟨by decide +kernel, rfl⟩
theorem d38_5 : Dc method_11_code 5 (.iload_n 3) 1 6 := ⟨by decide +kernel, rfl⟩
theorem d38_6 : Dj method_11_code 6 (.ifCond .eq) 9 14 := ⟨8, by decide +kernel, rfl, by decide, by decide⟩
theorem d38_9 : Dc method_11_code 9 (.bipush 52) 2 11 := ⟨by decide +kernel, rfl⟩
theorem d38_11 : Dj method_11_code 11 .goto 14 16 := ⟨5, by decide +kernel, rfl, by decide, by decide⟩
theorem d38_14 : Dc method_11_code 14 (.bipush 65) 2 16 := ⟨by decide +kernel, rfl⟩
theorem d38_16 : Dc method_11_code 16 (.istore 5) 2 18 := ⟨by decide +kernel, rfl⟩
theorem d38_18 : Dc method_11_code 18 (.iload 4) 2 20 := ⟨by decide +kernel, rfl⟩
theorem d38_20 : Dc method_11_code 20 (.iload 5) 2 22 := ⟨by decide +kernel, rfl⟩
theorem d38_22 : Dc method_11_code 22 .irem 1 23 := ⟨by decide +kernel, rfl⟩
theorem d38_23 : Dc method_11_code 23 (.invokestatic 66) 3 26 := ⟨by decide +kernel, rfl⟩
theorem d38_26 : Dc method_11_code 26 (.istore 6) 2 28 := ⟨by decide +kernel, rfl⟩
theorem d38_28 : Dc method_11_code 28 (.iload_n 2) 1 29 := ⟨by decide +kernel, rfl⟩
theorem d38_29 : Dc method_11_code 29 (.iconst 1) 1 30 := ⟨by decide +kernel, rfl⟩
theorem d38_30 : Dc method_11_code 30 .iand 1 31 := ⟨by decide +kernel, rfl⟩
theorem d38_31 : Dj method_11_code 31 (.ifCond .eq) 34 45 := ⟨14, by decide +kernel, rfl, by decide, by decide⟩
theorem d38_34 : Dc method_11_code 34 (.aload_n 0) 1 35 := ⟨by decide +kernel, rfl⟩
theorem d38_35 : Dc method_11_code 35 (.iload_n 1) 1 36 := ⟨by decide +kernel, rfl⟩
theorem d38_36 : Dc method_11_code 36 (.iload 6) 2 38 := ⟨by decide +kernel, rfl⟩
theorem d38_38 : Dc method_11_code 38 (.invokestatic 73) 3 41 := ⟨by decide +kernel, rfl⟩
theorem d38_41 : Dc method_11_code 41 (.invokestatic 36) 3 44 := ⟨by decide +kernel, rfl⟩
theorem d38_44 : Dc method_11_code 44 .ireturn 1 45 := ⟨by decide +kernel, rfl⟩
theorem d38_45 : Dc method_11_code 45 (.aload_n 0) 1 46 := ⟨by decide +kernel, rfl⟩
theorem d38_46 : Dc method_11_code 46 (.iload_n 1) 1 47 := ⟨by decide +kernel, rfl⟩
theorem d38_47 : Dc method_11_code 47 (.iload 6) 2 49 := ⟨by decide +kernel, rfl⟩
theorem d38_49 : Dc method_11_code 49 (.invokestatic 73) 3 52 := ⟨by decide +kernel, rfl⟩
theorem d38_52 : Dc method_11_code 52 (.invokestatic 36) 3 55 := ⟨by decide +kernel, rfl⟩
theorem d38_55 : Dc method_11_code 55 (.istore_n 1) 1 56 := ⟨by decide +kernel, rfl⟩
theorem d38_56 : Dc method_11_code 56 (.aload_n 0) 1 57 := ⟨by decide +kernel, rfl⟩
theorem d38_57 : Dc method_11_code 57 (.iload_n 1) 1 58 := ⟨by decide +kernel, rfl⟩
theorem d38_58 : Dc method_11_code 58 (.iload 4) 2 60 := ⟨by decide +kernel, rfl⟩
theorem d38_60 : Dc method_11_code 60 (.iload 5) 2 62 := ⟨by decide +kernel, rfl⟩
theorem d38_62 : Dc method_11_code 62 .idiv 1 63 := ⟨by decide +kernel, rfl⟩
theorem d38_63 : Dc method_11_code 63 (.bipush 65) 2 65 := ⟨by decide +kernel, rfl⟩
theorem d38_65 : Dc method_11_code 65 .irem 1 66 := ⟨by decide +kernel, rfl⟩
theorem d38_66 : Dc method_11_code 66 (.invokestatic 66) 3 69 := ⟨by decide +kernel, rfl⟩
theorem d38_69 : Dc method_11_code 69 (.invokestatic 73) 3 72 := ⟨by decide +kernel, rfl⟩
theorem d38_72 : Dc method_11_code 72 (.invokestatic 36) 3 75 := ⟨by decide +kernel, rfl⟩
theorem d38_75 : Dc method_11_code 75 (.istore_n 1) 1 76 := ⟨by decide +kernel, rfl⟩
theorem d38_76 : Dc method_11_code 76 (.aload_n 0) 1 77 := ⟨by decide +kernel, rfl⟩
theorem d38_77 : Dc method_11_code 77 (.iload_n 1) 1 78 := ⟨by decide +kernel, rfl⟩
theorem d38_78 : Dc method_11_code 78 (.iload 4) 2 80 := ⟨by decide +kernel, rfl⟩
theorem d38_80 : Dc method_11_code 80 (.iload 5) 2 82 := ⟨by decide +kernel, rfl⟩
theorem d38_82 : Dc method_11_code 82 (.bipush 65) 2 84 := ⟨by decide +kernel, rfl⟩
theorem d38_84 : Dc method_11_code 84 .imul 1 85 := ⟨by decide +kernel, rfl⟩
theorem d38_85 : Dc method_11_code 85 .idiv 1 86 := ⟨by decide +kernel, rfl⟩
theorem d38_86 : Dc method_11_code 86 (.bipush 65) 2 88 := ⟨by decide +kernel, rfl⟩
theorem d38_88 : Dc method_11_code 88 .irem 1 89 := ⟨by decide +kernel, rfl⟩
theorem d38_89 : Dc method_11_code 89 (.invokestatic 66) 3 92 := ⟨by decide +kernel, rfl⟩
theorem d38_92 : Dc method_11_code 92 (.invokestatic 73) 3 95 := ⟨by decide +kernel, rfl⟩
theorem d38_95 : Dc method_11_code 95 (.invokestatic 36) 3 98 := ⟨by decide +kernel, rfl⟩
theorem d38_98 : Dc method_11_code 98 .ireturn 1 99 := ⟨by decide +kernel, rfl⟩
theorem d39_0 : Dc method_6_code 0 (.iload_n 0) 1 1 := ⟨by decide +kernel, rfl⟩
theorem d39_1 : Dc method_6_code 1 (.bipush 65) 2 3 := ⟨by decide +kernel, rfl⟩
theorem d39_3 : Dj method_6_code 3 (.if_icmp .lt) 6 20 := ⟨17, by decide +kernel, rfl, by decide, by decide⟩
theorem d39_6 : Dc method_6_code 6 (.iload_n 0) 1 7 := ⟨by decide +kernel, rfl⟩
theorem d39_7 : Dc method_6_code 7 (.bipush 90) 2 9 := ⟨by decide +kernel, rfl⟩
theorem d39_9 : Dj method_6_code 9 (.if_icmp .gt) 12 20 := ⟨11, by decide +kernel, rfl, by decide, by decide⟩
theorem d39_12 : Dc method_6_code 12 (.iload_n 0) 1 13 := ⟨by decide +kernel, rfl⟩
theorem d39_13 : Dc method_6_code 13 (.bipush 32) 2 15 := ⟨by decide +kernel, rfl⟩
theorem d39_15 : Dc method_6_code 15 .iadd 1 16 := ⟨by decide +kernel, rfl⟩
theorem d39_16 : Dc method_6_code 16 .i2c 1 17 := ⟨by decide +kernel, rfl⟩
theorem d39_17 : Dj method_6_code 17 .goto 20 21 := ⟨4, by decide +kernel, rfl, by decide, by decide⟩
theorem d39_20 : Dc method_6_code 20 (.iload_n 0) 1 21 := ⟨by decide +kernel, rfl⟩
theorem d39_21 : Dc method_6_code 21 .ireturn 1 22 := ⟨by decide +kernel, rfl⟩
theorem d40_0 : Dc prog_62_method_6_code 0 (.aload_n 0) 1 1 := ⟨by decide +kernel, rfl⟩
theorem d40_1 : Dc prog_62_method_6_code 1 (.getfield 7) 3 4 := ⟨by decide +kernel, rfl⟩
theorem d40_4 : Dc prog_62_method_6_code 4 (.ldc 37) 2 6 := ⟨by decide +kernel, rfl⟩
theorem d40_6 : Dc prog_62_method_6_code 6 (.invokevirtual 39) 3 9 := ⟨by decide +kernel, rfl⟩
theorem d40_9 : Dc prog_62_method_6_code 9 (.aload_n 0) 1 10 := ⟨by decide +kernel, rfl⟩
theorem d40_10 : Dc prog_62_method_6_code 10 (.getfield 13) 3 13 := ⟨by decide +kernel, rfl⟩
theorem d40_13 : Dc prog_62_method_6_code 13 (.invokevirtual 176) 3 16 := ⟨by decide +kernel, rfl⟩
theorem d40_16 : Dc prog_62_method_6_code 16 .areturn 1 17 := ⟨by decide +kernel, rfl⟩
theorem d41_0 : Dc jdk_42_method_92_code 0 (.aload_n 0) 1 1 := ⟨by decide +kernel, rfl⟩
theorem d41_1 : Dc jdk_42_method_92_code 1 (.invokevirtual 505) 3 4 := ⟨by decide +kernel, rfl⟩
theorem d41_4 : Dc jdk_42_method_92_code 4 (.istore_n 3) 1 5 := ⟨by decide +kernel, rfl⟩
theorem d41_5 : Dc jdk_42_method_92_code 5 (.iload_n 1) 1 6 := ⟨by decide +kernel, rfl⟩
theorem d41_6 : Dc jdk_42_method_92_code 6 (.iload_n 2) 1 7 := ⟨by decide +kernel, rfl⟩
theorem d41_7 : Dc jdk_42_method_92_code 7 (.iload_n 3) 1 8 := ⟨by decide +kernel, rfl⟩
theorem d41_8 : Dc jdk_42_method_92_code 8 (.invokestatic 521) 3 11 := ⟨by decide +kernel, rfl⟩
theorem d41_11 : Dc jdk_42_method_92_code 11 (.iload_n 1) 1 12 := ⟨by decide +kernel, rfl⟩
theorem d41_12 : Dj jdk_42_method_92_code 12 (.ifCond .ne) 15 22 := ⟨10, by decide +kernel, rfl, by decide, by decide⟩
theorem d41_22 : Dc jdk_42_method_92_code 22 (.iload_n 2) 1 23 := ⟨by decide +kernel, rfl⟩
theorem d41_23 : Dc jdk_42_method_92_code 23 (.iload_n 1) 1 24 := ⟨by decide +kernel, rfl⟩
theorem d41_24 : Dc jdk_42_method_92_code 24 .isub 1 25 := ⟨by decide +kernel, rfl⟩
theorem d41_25 : Dc jdk_42_method_92_code 25 (.istore 4) 2 27 := ⟨by decide +kernel, rfl⟩
theorem d41_27 : Dc jdk_42_method_92_code 27 (.aload_n 0) 1 28 := ⟨by decide +kernel, rfl⟩
theorem d41_28 : Dc jdk_42_method_92_code 28 (.invokevirtual 492) 3 31 := ⟨by decide +kernel, rfl⟩
theorem d41_31 : Dj jdk_42_method_92_code 31 (.ifCond .eq) 34 47 := ⟨16, by decide +kernel, rfl, by decide, by decide⟩
theorem d41_34 : Dc jdk_42_method_92_code 34 (.aload_n 0) 1 35 := ⟨by decide +kernel, rfl⟩
theorem d41_35 : Dc jdk_42_method_92_code 35 (.getfield 9) 3 38 := ⟨by decide +kernel, rfl⟩
theorem d41_38 : Dc jdk_42_method_92_code 38 (.iload_n 1) 1 39 := ⟨by decide +kernel, rfl⟩
theorem d41_39 : Dc jdk_42_method_92_code 39 (.iload 4) 2 41 := ⟨by decide +kernel, rfl⟩
theorem d41_41 : Dc jdk_42_method_92_code 41 (.invokestatic 685) 3 44 := ⟨by decide +kernel, rfl⟩
theorem d41_44 : Dj jdk_42_method_92_code 44 .goto 47 57 := ⟨13, by decide +kernel, rfl, by decide, by decide⟩
theorem d41_57 : Dc jdk_42_method_92_code 57 .areturn 1 58 := ⟨by decide +kernel, rfl⟩
theorem d42_0 : Dc jdk_43_method_47_code 0 (.iload_n 2) 1 1 := ⟨by decide +kernel, rfl⟩
theorem d42_1 : Dj jdk_43_method_47_code 1 (.ifCond .ne) 4 7 := ⟨6, by decide +kernel, rfl, by decide, by decide⟩
theorem d42_4 : Dc jdk_43_method_47_code 4 (.ldc 151) 2 6 := ⟨by decide +kernel, rfl⟩
theorem d42_6 : Dc jdk_43_method_47_code 6 .areturn 1 7 := ⟨by decide +kernel, rfl⟩
theorem d42_7 : Dc jdk_43_method_47_code 7 (.new 1) 3 10 := ⟨by decide +kernel, rfl⟩
theorem d42_10 : Dc jdk_43_method_47_code 10 .dup 1 11 := ⟨by decide +kernel, rfl⟩
theorem d42_11 : Dc jdk_43_method_47_code 11 (.aload_n 0) 1 12 := ⟨by decide +kernel, rfl⟩
theorem d42_12 : Dc jdk_43_method_47_code 12 (.iload_n 1) 1 13 := ⟨by decide +kernel, rfl⟩
theorem d42_13 : Dc jdk_43_method_47_code 13 (.iload_n 1) 1 14 := ⟨by decide +kernel, rfl⟩
theorem d42_14 : Dc jdk_43_method_47_code 14 (.iload_n 2) 1 15 := ⟨by decide +kernel, rfl⟩
theorem d42_15 : Dc jdk_43_method_47_code 15 .iadd 1 16 := ⟨by decide +kernel, rfl⟩
theorem d42_16 : Dc jdk_43_method_47_code 16 (.invokestatic 232) 3 19 := ⟨by decide +kernel, rfl⟩
theorem d42_19 : Dc jdk_43_method_47_code 19 (.iconst 0) 1 20 := ⟨by decide +kernel, rfl⟩
theorem d42_20 : Dc jdk_43_method_47_code 20 (.invokespecial 112) 3 23 := ⟨by decide +kernel, rfl⟩
theorem d42_23 : Dc jdk_43_method_47_code 23 .areturn 1 24 := ⟨by decide +kernel, rfl⟩
theorem d43_0 : Dc jdk_65_method_132_code 0 (.iload_n 1) 1 1 := ⟨by decide +kernel, rfl⟩
theorem d43_1 : Dj jdk_65_method_132_code 1 (.ifCond .ne) 4 10 := ⟨9, by decide +kernel, rfl, by decide, by decide⟩
theorem d43_10 : Dc jdk_65_method_132_code 10 (.aload_n 0) 1 11 := ⟨by decide +kernel, rfl⟩
theorem d43_11 : Dc jdk_65_method_132_code 11 (.iload_n 1) 1 12 := ⟨by decide +kernel, rfl⟩
theorem d43_12 : Dc jdk_65_method_132_code 12 (.iload_n 2) 1 13 := ⟨by decide +kernel, rfl⟩
theorem d43_13 : Dc jdk_65_method_132_code 13 (.invokestatic 339) 3 16 := ⟨by decide +kernel, rfl⟩
theorem d43_16 : Dc jdk_65_method_132_code 16 .areturn 1 17 := ⟨by decide +kernel, rfl⟩
theorem d44_0 : Dc jdk_65_method_133_code 0 (.iload_n 1) 1 1 := ⟨by decide +kernel, rfl⟩
theorem d44_1 : Dc jdk_65_method_133_code 1 (.iload_n 2) 1 2 := ⟨by decide +kernel, rfl⟩
theorem d44_2 : Dc jdk_65_method_133_code 2 (.invokestatic 343) 3 5 := ⟨by decide +kernel, rfl⟩
theorem d44_5 : Dc jdk_65_method_133_code 5 (.iload_n 2) 1 6 := ⟨by decide +kernel, rfl⟩
theorem d44_6 : Dc jdk_65_method_133_code 6 (.iload_n 1) 1 7 := ⟨by decide +kernel, rfl⟩
theorem d44_7 : Dc jdk_65_method_133_code 7 .isub 1 8 := ⟨by decide +kernel, rfl⟩
theorem d44_8 : Dc jdk_65_method_133_code 8 (.istore_n 3) 1 9 := ⟨by decide +kernel, rfl⟩
theorem d44_9 : Dc jdk_65_method_133_code 9 (.iload_n 3) 1 10 := ⟨by decide +kernel, rfl⟩
theorem d44_10 : Dc jdk_65_method_133_code 10 (.newarray .byte) 2 12 := ⟨by decide +kernel, rfl⟩
theorem d44_12 : Dc jdk_65_method_133_code 12 (.astore 4) 2 14 := ⟨by decide +kernel, rfl⟩
theorem d44_14 : Dc jdk_65_method_133_code 14 (.aload_n 0) 1 15 := ⟨by decide +kernel, rfl⟩
theorem d44_15 : Dc jdk_65_method_133_code 15 (.iload_n 1) 1 16 := ⟨by decide +kernel, rfl⟩
theorem d44_16 : Dc jdk_65_method_133_code 16 (.aload 4) 2 18 := ⟨by decide +kernel, rfl⟩
theorem d44_18 : Dc jdk_65_method_133_code 18 (.iconst 0) 1 19 := ⟨by decide +kernel, rfl⟩
theorem d44_19 : Dc jdk_65_method_133_code 19 (.aload_n 0) 1 20 := ⟨by decide +kernel, rfl⟩
theorem d44_20 : Dc jdk_65_method_133_code 20 .arraylength 1 21 := ⟨by decide +kernel, rfl⟩
theorem d44_21 : Dc jdk_65_method_133_code 21 (.iload_n 1) 1 22 := ⟨by decide +kernel, rfl⟩
theorem d44_22 : Dc jdk_65_method_133_code 22 .isub 1 23 := ⟨by decide +kernel, rfl⟩
theorem d44_23 : Dc jdk_65_method_133_code 23 (.iload_n 3) 1 24 := ⟨by decide +kernel, rfl⟩
theorem d44_24 : Dc jdk_65_method_133_code 24 (.invokestatic 304) 3 27 := ⟨by decide +kernel, rfl⟩
theorem d44_27 : Dc jdk_65_method_133_code 27 (.invokestatic 150) 3 30 := ⟨by decide +kernel, rfl⟩
theorem d44_30 : Dc jdk_65_method_133_code 30 (.aload 4) 2 32 := ⟨by decide +kernel, rfl⟩
theorem d44_32 : Dc jdk_65_method_133_code 32 .areturn 1 33 := ⟨by decide +kernel, rfl⟩
theorem d45_0 : Dc jdk_65_method_131_code 0 (.iload_n 1) 1 1 := ⟨by decide +kernel, rfl⟩
theorem d45_1 : Dc jdk_65_method_131_code 1 (.iload_n 0) 1 2 := ⟨by decide +kernel, rfl⟩
theorem d45_2 : Dj jdk_65_method_131_code 2 (.if_icmp .ge) 5 37 := ⟨35, by decide +kernel, rfl, by decide, by decide⟩
theorem d45_37 : Dc jdk_65_method_131_code 37 .return_ 1 38 := ⟨by decide +kernel, rfl⟩
theorem d46_0 : Dc jdk_29_method_69_code 0 (.iload_n 0) 1 1 := ⟨by decide +kernel, rfl⟩
theorem d46_1 : Dc jdk_29_method_69_code 1 (.iload_n 1) 1 2 := ⟨by decide +kernel, rfl⟩
theorem d46_2 : Dj jdk_29_method_69_code 2 (.if_icmp .gt) 5 9 := ⟨7, by decide +kernel, rfl, by decide, by decide⟩
theorem d46_5 : Dc jdk_29_method_69_code 5 (.iload_n 0) 1 6 := ⟨by decide +kernel, rfl⟩
theorem d46_6 : Dj jdk_29_method_69_code 6 .goto 9 10 := ⟨4, by decide +kernel, rfl, by decide, by decide⟩
theorem d46_9 : Dc jdk_29_method_69_code 9 (.iload_n 1) 1 10 := ⟨by decide +kernel, rfl⟩
theorem d46_10 : Dc jdk_29_method_69_code 10 .ireturn 1 11 := ⟨by decide +kernel, rfl⟩
theorem d47_0 : Dc jdk_42_method_151_code 0 (.aload_n 0) 1 1 := ⟨by decide +kernel, rfl⟩
theorem d47_1 : Dc jdk_42_method_151_code 1 (.invokespecial 1) 3 4 := ⟨by decide +kernel, rfl⟩
theorem d47_4 : Dc jdk_42_method_151_code 4 (.aload_n 0) 1 5 := ⟨by decide +kernel, rfl⟩
theorem d47_5 : Dc jdk_42_method_151_code 5 (.aload_n 1) 1 6 := ⟨by decide +kernel, rfl⟩
theorem d47_6 : Dc jdk_42_method_151_code 6 (.putfield 9) 3 9 := ⟨by decide +kernel, rfl⟩
theorem d47_9 : Dc jdk_42_method_151_code 9 (.aload_n 0) 1 10 := ⟨by decide +kernel, rfl⟩
theorem d47_10 : Dc jdk_42_method_151_code 10 (.iload_n 2) 1 11 := ⟨by decide +kernel, rfl⟩
theorem d47_11 : Dc jdk_42_method_151_code 11 (.putfield 15) 3 14 := ⟨by decide +kernel, rfl⟩
theorem d47_14 : Dc jdk_42_method_151_code 14 .return_ 1 15 := ⟨by decide +kernel, rfl⟩
theorem d48_0 : Dc prog_62_method_7_code 0 (.aload_n 0) 1 1 := ⟨by decide +kernel, rfl⟩
theorem d48_1 : Dc prog_62_method_7_code 1 (.getfield 7) 3 4 := ⟨by decide +kernel, rfl⟩
theorem d48_4 : Dc prog_62_method_7_code 4 (.aload_n 0) 1 5 := ⟨by decide +kernel, rfl⟩
theorem d48_5 : Dc prog_62_method_7_code 5 (.getfield 13) 3 8 := ⟨by decide +kernel, rfl⟩
theorem d48_8 : Dc prog_62_method_7_code 8 (.iconst 1) 1 9 := ⟨by decide +kernel, rfl⟩
theorem d48_9 : Dc prog_62_method_7_code 9 .iadd 1 10 := ⟨by decide +kernel, rfl⟩
theorem d48_10 : Dc prog_62_method_7_code 10 (.aload_n 0) 1 11 := ⟨by decide +kernel, rfl⟩
theorem d48_11 : Dc prog_62_method_7_code 11 (.getfield 17) 3 14 := ⟨by decide +kernel, rfl⟩
theorem d48_14 : Dj prog_62_method_7_code 14 (.ifCond .ge) 17 27 := ⟨13, by decide +kernel, rfl, by decide, by decide⟩
theorem d48_17 : Dc prog_62_method_7_code 17 (.aload_n 0) 1 18 := ⟨by decide +kernel, rfl⟩
theorem d48_18 : Dc prog_62_method_7_code 18 (.getfield 7) 3 21 := ⟨by decide +kernel, rfl⟩
theorem d48_21 : Dc prog_62_method_7_code 21 (.invokevirtual 39) 3 24 := ⟨by decide +kernel, rfl⟩
theorem d48_24 : Dj prog_62_method_7_code 24 .goto 27 31 := ⟨7, by decide +kernel, rfl, by decide, by decide⟩
theorem d48_27 : Dc prog_62_method_7_code 27 (.aload_n 0) 1 28 := ⟨by decide +kernel, rfl⟩
theorem d48_28 : Dc prog_62_method_7_code 28 (.getfield 17) 3 31 := ⟨by decide +kernel, rfl⟩
theorem d48_31 : Dc prog_62_method_7_code 31 (.invokevirtual 176) 3 34 := ⟨by decide +kernel, rfl⟩
theorem d48_34 : Dc prog_62_method_7_code 34 .areturn 1 35 := ⟨by decide +kernel, rfl⟩
theorem d49_0 : Dc method_12_code 0 (.iload_n 2) 1 1 := ⟨by decide +kernel, rfl⟩
theorem d49_1 : Dc method_12_code 1 (.iconst 3) 1 2 := ⟨by decide +kernel, rfl⟩
theorem d49_2 : Dc method_12_code 2 .iushr 1 3 := ⟨by decide +kernel, rfl⟩
theorem d49_3 : Dc method_12_code 3 (.istore 4) 2 5 := ⟨by decide +kernel, rfl⟩
theorem d49_5 : Dc method_12_code 5 (.iload_n 2) 1 6 := ⟨by decide +kernel, rfl⟩
theorem d49_6 : Dc method_12_code 6 (.iconst 1) 1 7 := ⟨by decide +kernel, rfl⟩
theorem d49_7 : Dc method_12_code 7 .iand 1 8 := ⟨by decide +kernel, rfl⟩
theorem d49_8 : Dj method_12_code 8 (.ifCond .eq) 11 58 := ⟨50, by decide +kernel, rfl, by decide, by decide⟩
theorem d49_11 : Dc method_12_code 11 (.iload 4) 2 13 := ⟨by decide +kernel, rfl⟩
theorem d49_13 : Dc method_12_code 13 (.sipush 255) 3 16 := ⟨by decide +kernel, rfl⟩
theorem d49_16 : Dc method_12_code 16 .iand 1 17 := ⟨by decide +kernel, rfl⟩
theorem d49_17 : Dc method_12_code 17 (.istore 5) 2 19 := ⟨by decide +kernel, rfl⟩
theorem d49_19 : Dc method_12_code 19 (.aload_n 0) 1 20 := ⟨by decide +kernel, rfl⟩
theorem d49_20 : Dc method_12_code 20 (.iload_n 1) 1 21 := ⟨by decide +kernel, rfl⟩
theorem d49_21 : Dc method_12_code 21 (.bipush 37) 2 23 := ⟨by decide +kernel, rfl⟩
theorem d49_23 : Dc method_12_code 23 .castore 1 24 := ⟨by decide +kernel, rfl⟩
theorem d49_24 : Dc method_12_code 24 (.aload_n 0) 1 25 := ⟨by decide +kernel, rfl⟩
theorem d49_25 : Dc method_12_code 25 (.iload_n 1) 1 26 := ⟨by decide +kernel, rfl⟩
theorem d49_26 : Dc method_12_code 26 (.iconst 1) 1 27 := ⟨by decide +kernel, rfl⟩
theorem d49_27 : Dc method_12_code 27 .iadd 1 28 := ⟨by decide +kernel, rfl⟩
theorem d49_28 : Dc method_12_code 28 (.iload 5) 2 30 := ⟨by decide +kernel, rfl⟩
theorem d49_30 : Dc method_12_code 30 (.iconst 4) 1 31 := ⟨by decide +kernel, rfl⟩
theorem d49_31 : Dc method_12_code 31 .ishr 1 32 := ⟨by decide +kernel, rfl⟩
theorem d49_32 : Dc method_12_code 32 (.iload_n 2) 1 33 := ⟨by decide +kernel, rfl⟩
theorem d49_33 : Dc method_12_code 33 (.iconst 2) 1 34 := ⟨by decide +kernel, rfl⟩
theorem d49_34 : Dc method_12_code 34 .iand 1 35 := ⟨by decide +kernel, rfl⟩
theorem d49_35 : Dc method_12_code 35 (.invokestatic 69) 3 38 := ⟨by decide +kernel, rfl⟩
theorem d49_38 : Dc method_12_code 38 .castore 1 39 := ⟨by decide +kernel, rfl⟩
theorem d49_39 : Dc method_12_code 39 (.aload_n 0) 1 40 := ⟨by decide +kernel, rfl⟩
theorem d49_40 : Dc method_12_code 40 (.iload_n 1) 1 41 := ⟨by decide +kernel, rfl⟩
theorem d49_41 : Dc method_12_code 41 (.iconst 2) 1 42 := ⟨by decide +kernel, rfl⟩
theorem d49_42 : Dc method_12_code 42 .iadd 1 43 := ⟨by decide +kernel, rfl⟩
theorem d49_43 : Dc method_12_code 43 (.iload 5) 2 45 := ⟨by decide +kernel, rfl⟩
theorem d49_45 : Dc method_12_code 45 (.bipush 15) 2 47 := ⟨by decide +kernel, rfl⟩
theorem d49_47 : Dc method_12_code 47 .iand 1 48 := ⟨by decide +kernel, rfl⟩
theorem d49_48 : Dc method_12_code 48 (.iload_n 2) 1 49 := ⟨by decide +kernel, rfl⟩
theorem d49_49 : Dc method_12_code 49 (.iconst 4) 1 50 := ⟨by decide +kernel, rfl⟩
theorem d49_50 : Dc method_12_code 50 .iand 1 51 := ⟨by decide +kernel, rfl⟩
theorem d49_51 : Dc method_12_code 51 (.invokestatic 69) 3 54 := ⟨by decide +kernel, rfl⟩
theorem d49_54 : Dc method_12_code 54 .castore 1 55 := ⟨by decide +kernel, rfl⟩
theorem d49_55 : Dj method_12_code 55 .goto 58 98 := ⟨43, by decide +kernel, rfl, by decide, by decide⟩
theorem d49_58 : Dc method_12_code 58 (.aload_n 0) 1 59 := ⟨by decide +kernel, rfl⟩
theorem d49_59 : Dc method_12_code 59 (.iload_n 1) 1 60 := ⟨by decide +kernel, rfl⟩
theorem d49_60 : Dc method_12_code 60 (.iload 4) 2 62 := ⟨by decide +kernel, rfl⟩
theorem d49_62 : Dc method_12_code 62 (.iload_n 3) 1 63 := ⟨by decide +kernel, rfl⟩
theorem d49_63 : Dc method_12_code 63 .irem 1 64 := ⟨by decide +kernel, rfl⟩
theorem d49_64 : Dc method_12_code 64 (.invokestatic 77) 3 67 := ⟨by decide +kernel, rfl⟩
theorem d49_67 : Dc method_12_code 67 .castore 1 68 := ⟨by decide +kernel, rfl⟩
theorem d49_68 : Dc method_12_code 68 (.aload_n 0) 1 69 := ⟨by decide +kernel, rfl⟩
theorem d49_69 : Dc method_12_code 69 (.iload_n 1) 1 70 := ⟨by decide +kernel, rfl⟩
theorem d49_70 : Dc method_12_code 70 (.iconst 1) 1 71 := ⟨by decide +kernel, rfl⟩
theorem d49_71 : Dc method_12_code 71 .iadd 1 72 := ⟨by decide +kernel, rfl⟩
theorem d49_72 : Dc method_12_code 72 (.iload 4) 2 74 := ⟨by decide +kernel, rfl⟩
theorem d49_74 : Dc method_12_code 74 (.iload_n 3) 1 75 := ⟨by decide +kernel, rfl⟩
theorem d49_75 : Dc method_12_code 75 .idiv 1 76 := ⟨by decide +kernel, rfl⟩
theorem d49_76 : Dc method_12_code 76 (.iload_n 3) 1 77 := ⟨by decide +kernel, rfl⟩
theorem d49_77 : Dc method_12_code 77 .irem 1 78 := ⟨by decide +kernel, rfl⟩
theorem d49_78 : Dc method_12_code 78 (.invokestatic 77) 3 81 := ⟨by decide +kernel, rfl⟩
theorem d49_81 : Dc method_12_code 81 .castore 1 82 := ⟨by decide +kernel, rfl⟩
theorem d49_82 : Dc method_12_code 82 (.aload_n 0) 1 83 := ⟨by decide +kernel, rfl⟩
theorem d49_83 : Dc method_12_code 83 (.iload_n 1) 1 84 := ⟨by decide +kernel, rfl⟩
theorem d49_84 : Dc method_12_code 84 (.iconst 2) 1 85 := ⟨by decide +kernel, rfl⟩
theorem d49_85 : Dc method_12_code 85 .iadd 1 86 := ⟨by decide +kernel, rfl⟩
theorem d49_86 : Dc method_12_code 86 (.iload 4) 2 88 := ⟨by decide +kernel, rfl⟩
theorem d49_88 : Dc method_12_code 88 (.iload_n 3) 1 89 := ⟨by decide +kernel, rfl⟩
theorem d49_89 : Dc method_12_code 89 (.iload_n 3) 1 90 := ⟨by decide +kernel, rfl⟩
theorem d49_90 : Dc method_12_code 90 .imul 1 91 := ⟨by decide +kernel, rfl⟩
theorem d49_91 : Dc method_12_code 91 .idiv 1 92 := ⟨by decide +kernel, rfl⟩
theorem d49_92 : Dc method_12_code 92 (.iload_n 3) 1 93 := ⟨by decide +kernel, rfl⟩
theorem d49_93 : Dc method_12_code 93 .irem 1 94 := ⟨by decide +kernel, rfl⟩
theorem d49_94 : Dc method_12_code 94 (.invokestatic 77) 3 97 := ⟨by decide +kernel, rfl⟩
theorem d49_97 : Dc method_12_code 97 .castore 1 98 := ⟨by decide +kernel, rfl⟩
theorem d49_98 : Dc method_12_code 98 .return_ 1 99 := ⟨by decide +kernel, rfl⟩
theorem d50_0 : Dc method_3_code 0 (.ldc 58) 2 2 := ⟨by decide +kernel, rfl⟩
theorem d50_2 : Dc method_3_code 2 (.iload_n 0) 1 3 := ⟨by decide +kernel, rfl⟩
theorem d50_3 : Dc method_3_code 3 (.invokevirtual 60) 3 6 := ⟨by decide +kernel, rfl⟩
theorem d50_6 : Dc method_3_code 6 .ireturn 1 7 := ⟨by decide +kernel, rfl⟩
theorem d51_0 : Dc prog_62_method_13_code 0 (.iload_n 2) 1 1 := ⟨by decide +kernel, rfl⟩
theorem d51_1 : Dc prog_62_method_13_code 1 (.sipush 128) 3 4 := ⟨by decide +kernel, rfl⟩
theorem d51_4 : Dj prog_62_method_13_code 4 (.if_icmp .ge) 7 27 := ⟨23, by decide +kernel, rfl, by decide, by decide⟩
theorem d51_7 : Dc prog_62_method_13_code 7 (.getstatic 81) 3 10 := ⟨by decide +kernel, rfl⟩
theorem d51_10 : Dc prog_62_method_13_code 10 (.iload_n 2) 1 11 := ⟨by decide +kernel, rfl⟩
theorem d51_11 : Dc prog_62_method_13_code 11 .baload 1 12 := ⟨by decide +kernel, rfl⟩
theorem d51_12 : Dj prog_62_method_13_code 12 (.ifCond .eq) 15 27 := ⟨15, by decide +kernel, rfl, by decide, by decide⟩
theorem d51_15 : Dc prog_62_method_13_code 15 (.aload_n 0) 1 16 := ⟨by decide +kernel, rfl⟩
theorem d51_16 : Dc prog_62_method_13_code 16 (.iload_n 1) 1 17 := ⟨by decide +kernel, rfl⟩
theorem d51_17 : Dc prog_62_method_13_code 17 (.iload_n 2) 1 18 := ⟨by decide +kernel, rfl⟩
theorem d51_18 : Dc prog_62_method_13_code 18 .i2c 1 19 := ⟨by decide +kernel, rfl⟩
theorem d51_19 : Dc prog_62_method_13_code 19 .castore 1 20 := ⟨by decide +kernel, rfl⟩
theorem d51_20 : Dc prog_62_method_13_code 20 (.iload_n 1) 1 21 := ⟨by decide +kernel, rfl⟩
theorem d51_21 : Dc prog_62_method_13_code 21 (.iconst 1) 1 22 := ⟨by decide +kernel, rfl⟩
theorem d51_22 : Dc prog_62_method_13_code 22 .iadd 1 23 := ⟨by decide +kernel, rfl⟩
theorem d51_23 : Dc prog_62_method_13_code 23 (.istore_n 3) 1 24 := ⟨by decide +kernel, rfl⟩
theorem d51_24 : Dj prog_62_method_13_code 24 .goto 27 61 := ⟨37, by decide +kernel, rfl, by decide, by decide⟩
theorem d51_27 : Dc prog_62_method_13_code 27 (.aload_n 0) 1 28 := ⟨by decide +kernel, rfl⟩
theorem d51_28 : Dc prog_62_method_13_code 28 (.iload_n 1) 1 29 := ⟨by decide +kernel, rfl⟩
theorem d51_29 : Dc prog_62_method_13_code 29 (.bipush 37) 2 31 := ⟨by decide +kernel, rfl⟩
theorem d51_31 : Dc prog_62_method_13_code 31 .castore 1 32 := ⟨by decide +kernel, rfl⟩
theorem d51_32 : Dc prog_62_method_13_code 32 (.aload_n 0) 1 33 := ⟨by decide +kernel, rfl⟩
theorem d51_33 : Dc prog_62_method_13_code 33 (.iload_n 1) 1 34 := ⟨by decide +kernel, rfl⟩
theorem d51_34 : Dc prog_62_method_13_code 34 (.iconst 1) 1 35 := ⟨by decide +kernel, rfl⟩
theorem d51_35 : Dc prog_62_method_13_code 35 .iadd 1 36 := ⟨by decide +kernel, rfl⟩
theorem d51_36 : Dc prog_62_method_13_code 36 (.getstatic 227) 3 39 := ⟨by decide +kernel, rfl⟩
theorem d51_39 : Dc prog_62_method_13_code 39 (.iload_n 2) 1 40 := ⟨by decide +kernel, rfl⟩
theorem d51_40 : Dc prog_62_method_13_code 40 (.iconst 4) 1 41 := ⟨by decide +kernel, rfl⟩
theorem d51_41 : Dc prog_62_method_13_code 41 .ishr 1 42 := ⟨by decide +kernel, rfl⟩
theorem d51_42 : Dc prog_62_method_13_code 42 .caload 1 43 := ⟨by decide +kernel, rfl⟩
theorem d51_43 : Dc prog_62_method_13_code 43 .castore 1 44 := ⟨by decide +kernel, rfl⟩
theorem d51_44 : Dc prog_62_method_13_code 44 (.aload_n 0) 1 45 := ⟨by decide +kernel, rfl⟩
theorem d51_45 : Dc prog_62_method_13_code 45 (.iload_n 1) 1 46 := ⟨by decide +kernel, rfl⟩
theorem d51_46 : Dc prog_62_method_13_code 46 (.iconst 2) 1 47 := ⟨by decide +kernel, rfl⟩
theorem d51_47 : Dc prog_62_method_13_code 47 .iadd 1 48 := ⟨by decide +kernel, rfl⟩
theorem d51_48 : Dc prog_62_method_13_code 48 (.getstatic 227) 3 51 := ⟨by decide +kernel, rfl⟩
theorem d51_51 : Dc prog_62_method_13_code 51 (.iload_n 2) 1 52 := ⟨by decide +kernel, rfl⟩
theorem d51_52 : Dc prog_62_method_13_code 52 (.bipush 15) 2 54 := ⟨by decide +kernel, rfl⟩
theorem d51_54 : Dc prog_62_method_13_code 54 .iand 1 55 := ⟨by decide +kernel, rfl⟩
theorem d51_55 : Dc prog_62_method_13_code 55 .caload 1 56 := ⟨by decide +kernel, rfl⟩
theorem d51_56 : Dc prog_62_method_13_code 56 .castore 1 57 := ⟨by decide +kernel, rfl⟩
theorem d51_57 : Dc prog_62_method_13_code 57 (.iload_n 1) 1 58 := ⟨by decide +kernel, rfl⟩
theorem d51_58 : Dc prog_62_method_13_code 58 (.iconst 3) 1 59 := ⟨by decide +kernel, rfl⟩
theorem d51_59 : Dc prog_62_method_13_code 59 .iadd 1 60 := ⟨by decide +kernel, rfl⟩
theorem d51_60 : Dc prog_62_method_13_code 60 (.istore_n 3) 1 61 := ⟨by decide +kernel, rfl⟩
theorem d51_61 : Dc prog_62_method_13_code 61 (.iload_n 3) 1 62 := ⟨by decide +kernel, rfl⟩
theorem d51_62 : Dc prog_62_method_13_code 62 .ireturn 1 63 := ⟨by decide +kernel, rfl⟩
theorem d52_0 : Dc method_13_code 0 (.iload_n 2) 1 1 := ⟨by decide +kernel, rfl⟩
theorem d52_1 : Dc method_13_code 1 (.iconst 3) 1 2 := ⟨by decide +kernel, rfl⟩
theorem d52_2 : Dc method_13_code 2 .iushr 1 3 := ⟨by decide +kernel, rfl⟩
theorem d52_3 : Dc method_13_code 3 (.istore 4) 2 5 := ⟨by decide +kernel, rfl⟩
theorem d52_5 : Dc method_13_code 5 (.iload_n 2) 1 6 := ⟨by decide +kernel, rfl⟩
theorem d52_6 : Dc method_13_code 6 (.iconst 1) 1 7 := ⟨by decide +kernel, rfl⟩
theorem d52_7 : Dc method_13_code 7 .iand 1 8 := ⟨by decide +kernel, rfl⟩
theorem d52_8 : Dj method_13_code 8 (.ifCond .eq) 11 73 := ⟨65, by decide +kernel, rfl, by decide, by decide⟩
theorem d52_11 : Dc method_13_code 11 (.iload 4) 2 13 := ⟨by decide +kernel, rfl⟩
theorem d52_13 : Dc method_13_code 13 (.sipush 255) 3 16 := ⟨by decide +kernel, rfl⟩
theorem d52_16 : Dc method_13_code 16 .iand 1 17 := ⟨by decide +kernel, rfl⟩
theorem d52_17 : Dc method_13_code 17 (.istore 5) 2 19 := ⟨by decide +kernel, rfl⟩
theorem d52_19 : Dc method_13_code 19 (.iload 5) 2 21 := ⟨by decide +kernel, rfl⟩
theorem d52_21 : Dc method_13_code 21 (.invokestatic 80) 3 24 := ⟨by decide +kernel, rfl⟩
theorem d52_24 : Dj method_13_code 24 (.ifCond .eq) 27 36 := ⟨12, by decide +kernel, rfl, by decide, by decide⟩
theorem d52_27 : Dc method_13_code 27 (.aload_n 0) 1 28 := ⟨by decide +kernel, rfl⟩
theorem d52_28 : Dc method_13_code 28 (.iload_n 1) 1 29 := ⟨by decide +kernel, rfl⟩
theorem d52_29 : Dc method_13_code 29 (.iload 5) 2 31 := ⟨by decide +kernel, rfl⟩
theorem d52_31 : Dc method_13_code 31 .i2c 1 32 := ⟨by decide +kernel, rfl⟩
theorem d52_32 : Dc method_13_code 32 (.invokestatic 36) 3 35 := ⟨by decide +kernel, rfl⟩
theorem d52_35 : Dc method_13_code 35 .ireturn 1 36 := ⟨by decide +kernel, rfl⟩
theorem d52_36 : Dc method_13_code 36 (.aload_n 0) 1 37 := ⟨by decide +kernel, rfl⟩
theorem d52_37 : Dc method_13_code 37 (.iload_n 1) 1 38 := ⟨by decide +kernel, rfl⟩
theorem d52_38 : Dc method_13_code 38 (.bipush 37) 2 40 := ⟨by decide +kernel, rfl⟩
theorem d52_40 : Dc method_13_code 40 (.invokestatic 36) 3 43 := ⟨by decide +kernel, rfl⟩
theorem d52_43 : Dc method_13_code 43 (.istore_n 1) 1 44 := ⟨by decide +kernel, rfl⟩
theorem d52_44 : Dc method_13_code 44 (.aload_n 0) 1 45 := ⟨by decide +kernel, rfl⟩
theorem d52_45 : Dc method_13_code 45 (.iload_n 1) 1 46 := ⟨by decide +kernel, rfl⟩
theorem d52_46 : Dc method_13_code 46 (.iload 5) 2 48 := ⟨by decide +kernel, rfl⟩
theorem d52_48 : Dc method_13_code 48 (.iconst 4) 1 49 := ⟨by decide +kernel, rfl⟩
theorem d52_49 : Dc method_13_code 49 .ishr 1 50 := ⟨by decide +kernel, rfl⟩
theorem d52_50 : Dc method_13_code 50 (.iconst 0) 1 51 := ⟨by decide +kernel, rfl⟩
theorem d52_51 : Dc method_13_code 51 (.invokestatic 69) 3 54 := ⟨by decide +kernel, rfl⟩
theorem d52_54 : Dc method_13_code 54 (.invokestatic 36) 3 57 := ⟨by decide +kernel, rfl⟩
theorem d52_57 : Dc method_13_code 57 (.istore_n 1) 1 58 := ⟨by decide +kernel, rfl⟩
theorem d52_58 : Dc method_13_code 58 (.aload_n 0) 1 59 := ⟨by decide +kernel, rfl⟩
theorem d52_59 : Dc method_13_code 59 (.iload_n 1) 1 60 := ⟨by decide +kernel, rfl⟩
theorem d52_60 : Dc method_13_code 60 (.iload 5) 2 62 := ⟨by decide +kernel, rfl⟩
theorem d52_62 : Dc method_13_code 62 (.bipush 15) 2 64 := ⟨by decide +kernel, rfl⟩
theorem d52_64 : Dc method_13_code 64 .iand 1 65 := ⟨by decide +kernel, rfl⟩
theorem d52_65 : Dc method_13_code 65 (.iconst 0) 1 66 := ⟨by decide +kernel, rfl⟩
theorem d52_66 : Dc method_13_code 66 (.invokestatic 69) 3 69 := ⟨by decide +kernel, rfl⟩
theorem d52_69 : Dc method_13_code 69 (.invokestatic 36) 3 72 := ⟨by decide +kernel, rfl⟩
theorem d52_72 : Dc method_13_code 72 .ireturn 1 73 := ⟨by decide +kernel, rfl⟩
theorem d52_73 : Dc method_13_code 73 (.aload_n 0) 1 74 := ⟨by decide +kernel, rfl⟩
theorem d52_74 : Dc method_13_code 74 (.iload_n 1) 1 75 := ⟨by decide +kernel, rfl⟩
theorem d52_75 : Dc method_13_code 75 (.iload 4) 2 77 := ⟨by decide +kernel, rfl⟩
theorem d52_77 : Dc method_13_code 77 (.iload_n 3) 1 78 := ⟨by decide +kernel, rfl⟩
theorem d52_78 : Dc method_13_code 78 .irem 1 79 := ⟨by decide +kernel, rfl⟩
theorem d52_79 : Dc method_13_code 79 (.invokestatic 77) 3 82 := ⟨by decide +kernel, rfl⟩
theorem d52_82 : Dc method_13_code 82 (.invokestatic 36) 3 85 := ⟨by decide +kernel, rfl⟩
theorem d52_85 : Dc method_13_code 85 (.istore_n 1) 1 86 := ⟨by decide +kernel, rfl⟩
theorem d52_86 : Dc method_13_code 86 (.aload_n 0) 1 87 := ⟨by decide +kernel, rfl⟩
theorem d52_87 : Dc method_13_code 87 (.iload_n 1) 1 88 := ⟨by decide +kernel, rfl⟩
theorem d52_88 : Dc method_13_code 88 (.iload 4) 2 90 := ⟨by decide +kernel, rfl⟩
theorem d52_90 : Dc method_13_code 90 (.iload_n 3) 1 91 := ⟨by decide +kernel, rfl⟩
theorem d52_91 : Dc method_13_code 91 .idiv 1 92 := ⟨by decide +kernel, rfl⟩
theorem d52_92 : Dc method_13_code 92 (.iload_n 3) 1 93 := ⟨by decide +kernel, rfl⟩
theorem d52_93 : Dc method_13_code 93 .irem 1 94 := ⟨by decide +kernel, rfl⟩
theorem d52_94 : Dc method_13_code 94 (.invokestatic 77) 3 97 := ⟨by decide +kernel, rfl⟩
theorem d52_97 : Dc method_13_code 97 (.invokestatic 36) 3 100 := ⟨by decide +kernel, rfl⟩
theorem d52_100 : Dc method_13_code 100 (.istore_n 1) 1 101 := ⟨by decide +kernel, rfl⟩
theorem d52_101 : Dc method_13_code 101 (.aload_n 0) 1 102 := ⟨by decide +kernel, rfl⟩
theorem d52_102 : Dc method_13_code 102 (.iload_n 1) 1 103 := ⟨by decide +kernel, rfl⟩
theorem d52_103 : Dc method_13_code 103 (.iload 4) 2 105 := ⟨by decide +kernel, rfl⟩
theorem d52_105 : Dc method_13_code 105 (.iload_n 3) 1 106 := ⟨by decide +kernel, rfl⟩
theorem d52_106 : Dc method_13_code 106 (.iload_n 3) 1 107 := ⟨by decide +kernel, rfl⟩
theorem d52_107 : Dc method_13_code 107 .imul 1 108 := ⟨by decide +kernel, rfl⟩
theorem d52_108 : Dc method_13_code 108 .idiv 1 109 := ⟨by decide +kernel, rfl⟩
theorem d52_109 : Dc method_13_code 109 (.iload_n 3) 1 110 := ⟨by decide +kernel, rfl⟩
theorem d52_110 : Dc method_13_code 110 .irem 1 111 := ⟨by decide +kernel, rfl⟩
theorem d52_111 : Dc method_13_code 111 (.invokestatic 77) 3 114 := ⟨by decide +kernel, rfl⟩
theorem d52_114 : Dc method_13_code 114 (.invokestatic 36) 3 117 := ⟨by decide +kernel, rfl⟩
theorem d52_117 : Dc method_13_code 117 .ireturn 1 118 := ⟨by decide +kernel, rfl⟩
theorem d53_0 : Dc method_8_code 0 (.iload_n 0) 1 1 := ⟨by decide +kernel, rfl⟩
theorem d53_1 : Dc method_8_code 1 (.bipush 65) 2 3 := ⟨by decide +kernel, rfl⟩
theorem d53_3 : Dj method_8_code 3 (.if_icmp .lt) 6 12 := ⟨9, by decide +kernel, rfl, by decide, by decide⟩
theorem d53_6 : Dc method_8_code 6 (.iload_n 0) 1 7 := ⟨by decide +kernel, rfl⟩
theorem d53_7 : Dc method_8_code 7 (.bipush 90) 2 9 := ⟨by decide +kernel, rfl⟩
theorem d53_9 : Dj method_8_code 9 (.if_icmp .le) 12 138 := ⟨129, by decide +kernel, rfl, by decide, by decide⟩
theorem d53_12 : Dc method_8_code 12 (.iload_n 0) 1 13 := ⟨by decide +kernel, rfl⟩
theorem d53_13 : Dc method_8_code 13 (.bipush 97) 2 15 := ⟨by decide +kernel, rfl⟩
theorem d53_15 : Dj method_8_code 15 (.if_icmp .lt) 18 24 := ⟨9, by decide +kernel, rfl, by decide, by decide⟩
theorem d53_18 : Dc method_8_code 18 (.iload_n 0) 1 19 := ⟨by decide +kernel, rfl⟩
theorem d53_19 : Dc method_8_code 19 (.bipush 122) 2 21 := ⟨by decide +kernel, rfl⟩
theorem d53_21 : Dj method_8_code 21 (.if_icmp .le) 24 138 := ⟨117, by decide +kernel, rfl, by decide, by decide⟩
theorem d53_24 : Dc method_8_code 24 (.iload_n 0) 1 25 := ⟨by decide +kernel, rfl⟩
theorem d53_25 : Dc method_8_code 25 (.bipush 48) 2 27 := ⟨by decide +kernel, rfl⟩
theorem d53_27 : Dj method_8_code 27 (.if_icmp .lt) 30 36 := ⟨9, by decide +kernel, rfl, by decide, by decide⟩
theorem d53_30 : Dc method_8_code 30 (.iload_n 0) 1 31 := ⟨by decide +kernel, rfl⟩
theorem d53_31 : Dc method_8_code 31 (.bipush 57) 2 33 := ⟨by decide +kernel, rfl⟩
theorem d53_33 : Dj method_8_code 33 (.if_icmp .le) 36 138 := ⟨105, by decide +kernel, rfl, by decide, by decide⟩
theorem d53_36 : Dc method_8_code 36 (.iload_n 0) 1 37 := ⟨by decide +kernel, rfl⟩
theorem d53_37 : Dc method_8_code 37 (.bipush 45) 2 39 := ⟨by decide +kernel, rfl⟩
theorem d53_39 : Dj method_8_code 39 (.if_icmp .eq) 42 138 := ⟨99, by decide +kernel, rfl, by decide, by decide⟩
theorem d53_42 : Dc method_8_code 42 (.iload_n 0) 1 43 := ⟨by decide +kernel, rfl⟩
theorem d53_43 : Dc method_8_code 43 (.bipush 46) 2 45 := ⟨by decide +kernel, rfl⟩
theorem d53_45 : Dj method_8_code 45 (.if_icmp .eq) 48 138 := ⟨93, by decide +kernel, rfl, by decide, by decide⟩
theorem d53_48 : Dc method_8_code 48 (.iload_n 0) 1 49 := ⟨by decide +kernel, rfl⟩
theorem d53_49 : Dc method_8_code 49 (.bipush 95) 2 51 := ⟨by decide +kernel, rfl⟩
theorem d53_51 : Dj method_8_code 51 (.if_icmp .eq) 54 138 := ⟨87, by decide +kernel, rfl, by decide, by decide⟩
theorem d53_54 : Dc method_8_code 54 (.iload_n 0) 1 55 := ⟨by decide +kernel, rfl⟩
theorem d53_55 : Dc method_8_code 55 (.bipush 126) 2 57 := ⟨by decide +kernel, rfl⟩
theorem d53_57 : Dj method_8_code 57 (.if_icmp .eq) 60 138 := ⟨81, by decide +kernel, rfl, by decide, by decide⟩
theorem d53_60 : Dc method_8_code 60 (.iload_n 0) 1 61 := ⟨by decide +kernel, rfl⟩
theorem d53_61 : Dc method_8_code 61 (.bipush 33) 2 63 := ⟨by decide +kernel, rfl⟩
theorem d53_63 : Dj method_8_code 63 (.if_icmp .eq) 66 138 := ⟨75, by decide +kernel, rfl, by decide, by decide⟩
theorem d53_66 : Dc method_8_code 66 (.iload_n 0) 1 67 := ⟨by decide +kernel, rfl⟩
theorem d53_67 : Dc method_8_code 67 (.bipush 36) 2 69 := ⟨by decide +kernel, rfl⟩
theorem d53_69 : Dj method_8_code 69 (.if_icmp .eq) 72 138 := ⟨69, by decide +kernel, rfl, by decide, by decide⟩
theorem d53_72 : Dc method_8_code 72 (.iload_n 0) 1 73 := ⟨by decide +kernel, rfl⟩
theorem d53_73 : Dc method_8_code 73 (.bipush 38) 2 75 := ⟨by decide +kernel, rfl⟩
theorem d53_75 : Dj method_8_code 75 (.if_icmp .eq) 78 138 := ⟨63, by decide +kernel, rfl, by decide, by decide⟩
theorem d53_78 : Dc method_8_code 78 (.iload_n 0) 1 79 := ⟨by decide +kernel, rfl⟩
theorem d53_79 : Dc method_8_code 79 (.bipush 39) 2 81 := ⟨by decide +kernel, rfl⟩
theorem d53_81 : Dj method_8_code 81 (.if_icmp .eq) 84 138 := ⟨57, by decide +kernel, rfl, by decide, by decide⟩
theorem d53_84 : Dc method_8_code 84 (.iload_n 0) 1 85 := ⟨by decide +kernel, rfl⟩
theorem d53_85 : Dc method_8_code 85 (.bipush 40) 2 87 := ⟨by decide +kernel, rfl⟩
theorem d53_87 : Dj method_8_code 87 (.if_icmp .eq) 90 138 := ⟨51, by decide +kernel, rfl, by decide, by decide⟩
theorem d53_90 : Dc method_8_code 90 (.iload_n 0) 1 91 := ⟨by decide +kernel, rfl⟩
theorem d53_91 : Dc method_8_code 91 (.bipush 41) 2 93 := ⟨by decide +kernel, rfl⟩
theorem d53_93 : Dj method_8_code 93 (.if_icmp .eq) 96 138 := ⟨45, by decide +kernel, rfl, by decide, by decide⟩
theorem d53_96 : Dc method_8_code 96 (.iload_n 0) 1 97 := ⟨by decide +kernel, rfl⟩
theorem d53_97 : Dc method_8_code 97 (.bipush 42) 2 99 := ⟨by decide +kernel, rfl⟩
theorem d53_99 : Dj method_8_code 99 (.if_icmp .eq) 102 138 := ⟨39, by decide +kernel, rfl, by decide, by decide⟩
theorem d53_102 : Dc method_8_code 102 (.iload_n 0) 1 103 := ⟨by decide +kernel, rfl⟩
theorem d53_103 : Dc method_8_code 103 (.bipush 43) 2 105 := ⟨by decide +kernel, rfl⟩
theorem d53_105 : Dj method_8_code 105 (.if_icmp .eq) 108 138 := ⟨33, by decide +kernel, rfl, by decide, by decide⟩
theorem d53_108 : Dc method_8_code 108 (.iload_n 0) 1 109 := ⟨by decide +kernel, rfl⟩
theorem d53_109 : Dc method_8_code 109 (.bipush 44) 2 111 := ⟨by decide +kernel, rfl⟩
theorem d53_111 : Dj method_8_code 111 (.if_icmp .eq) 114 138 := ⟨27, by decide +kernel, rfl, by decide, by decide⟩
theorem d53_114 : Dc method_8_code 114 (.iload_n 0) 1 115 := ⟨by decide +kernel, rfl⟩
theorem d53_115 : Dc method_8_code 115 (.bipush 59) 2 117 := ⟨by decide +kernel, rfl⟩
theorem d53_117 : Dj method_8_code 117 (.if_icmp .eq) 120 138 := ⟨21, by decide +kernel, rfl, by decide, by decide⟩
theorem d53_120 : Dc method_8_code 120 (.iload_n 0) 1 121 := ⟨by decide +kernel, rfl⟩
theorem d53_121 : Dc method_8_code 121 (.bipush 61) 2 123 := ⟨by decide +kernel, rfl⟩
theorem d53_123 : Dj method_8_code 123 (.if_icmp .eq) 126 138 := ⟨15, by decide +kernel, rfl, by decide, by decide⟩
theorem d53_126 : Dc method_8_code 126 (.iload_n 0) 1 127 := ⟨by decide +kernel, rfl⟩
theorem d53_127 : Dc method_8_code 127 (.bipush 58) 2 129 := ⟨by decide +kernel, rfl⟩
theorem d53_129 : Dj method_8_code 129 (.if_icmp .eq) 132 138 := ⟨9, by decide +kernel, rfl, by decide, by decide⟩
theorem d53_132 : Dc method_8_code 132 (.iload_n 0) 1 133 := ⟨by decide +kernel, rfl⟩
theorem d53_133 : Dc method_8_code 133 (.bipush 64) 2 135 := ⟨by decide +kernel, rfl⟩
theorem d53_135 : Dj method_8_code 135 (.if_icmp .ne) 138 142 := ⟨7, by decide +kernel, rfl, by decide, by decide⟩
theorem d53_138 : Dc method_8_code 138 (.iconst 1) 1 139 := ⟨by decide +kernel, rfl⟩
theorem d53_139 : Dj method_8_code 139 .goto 142 143 := ⟨4, by decide +kernel, rfl, by decide, by decide⟩
theorem d53_142 : Dc method_8_code 142 (.iconst 0) 1 143 := ⟨by decide +kernel, rfl⟩
theorem d53_143 : Dc method_8_code 143 .ireturn 1 144 := ⟨by decide +kernel, rfl⟩
theorem pn_0 : plainFor (⟨"jdk/internal/util/Preconditions", "checkIndex", "(IILjava/util/function/BiFunction;)I"⟩ : MethodName) = true := by first | (apply plainFor_of_name; simp [plainName, overriddenIn]; done) | decide +kernel
theorem pn_1 : plainFor (⟨"java/lang/String", "checkIndex", "(II)V"⟩ : MethodName) = true := by first | (apply plainFor_of_name; simp [plainName, overriddenIn]; done) | decide +kernel
theorem pn_2 : plainFor (⟨"java/lang/StringLatin1", "charAt", "([BI)C"⟩ : MethodName) = true := by first | (apply plainFor_of_name; simp [plainName, overriddenIn]; done) | decide +kernel
theorem pn_3 : plainFor (⟨"java/lang/String", "isLatin1", "()Z"⟩ : MethodName) = true := by first | (apply plainFor_of_name; simp [plainName, overriddenIn]; done) | decide +kernel
theorem pn_4 : plainFor (⟨"java/lang/String", "charAt", "(I)C"⟩ : MethodName) = true := by first | (apply plainFor_of_name; simp [plainName, overriddenIn]; done) | decide +kernel
theorem pn_5 : plainFor (⟨"java/lang/String", "coder", "()B"⟩ : MethodName) = true := by first | (apply plainFor_of_name; simp [plainName, overriddenIn]; done) | decide +kernel
theorem pn_6 : plainFor (⟨"java/lang/String", "length", "()I"⟩ : MethodName) = true := by first | (apply plainFor_of_name; simp [plainName, overriddenIn]; done) | decide +kernel
theorem pn_7 : plainFor (⟨"java/lang/StringUTF16", "compress", "([CI[BII)I"⟩ : MethodName) = true := by first | (apply plainFor_of_name; simp [plainName, overriddenIn]; done) | decide +kernel
theorem pn_8 : plainFor (⟨"java/lang/StringUTF16", "compress", "([CII)[B"⟩ : MethodName) = true := by first | (apply plainFor_of_name; simp [plainName, overriddenIn]; done) | decide +kernel
theorem pn_9 : plainFor (⟨"java/lang/StringUTF16", "coderFromArrayLen", "([BI)B"⟩ : MethodName) = true := by first | (apply plainFor_of_name; simp [plainName, overriddenIn]; done) | decide +kernel
theorem pn_10 : plainFor (⟨"java/lang/String", "<init>", "([CIILjava/lang/Void;)V"⟩ : MethodName) = true := by first | (apply plainFor_of_name; simp [plainName, overriddenIn]; done) | decide +kernel
theorem pn_11 : plainFor (⟨"java/lang/String", "<init>", "([C)V"⟩ : MethodName) = true := by first | (apply plainFor_of_name; simp [plainName, overriddenIn]; done) | decide +kernel
theorem pn_12 : plainFor (⟨"jdk/internal/util/Preconditions", "checkFromIndexSize", "(IIILjava/util/function/BiFunction;)I"⟩ : MethodName) = true := by first | (apply plainFor_of_name; simp [plainName, overriddenIn]; done) | decide +kernel
theorem pn_13 : plainFor (⟨"jdk/internal/util/Preconditions", "checkFromToIndex", "(IIILjava/util/function/BiFunction;)I"⟩ : MethodName) = true := by first | (apply plainFor_of_name; simp [plainName, overriddenIn]; done) | decide +kernel
theorem pn_14 : plainFor (⟨"java/lang/String", "checkBoundsOffCount", "(III)I"⟩ : MethodName) = true := by first | (apply plainFor_of_name; simp [plainName, overriddenIn]; done) | decide +kernel
theorem pn_15 : plainFor (⟨"java/lang/String", "checkBoundsBeginEnd", "(III)V"⟩ : MethodName) = true := by first | (apply plainFor_of_name; simp [plainName, overriddenIn]; done) | decide +kernel
theorem pn_16 : plainFor (⟨"java/lang/String", "rangeCheck", "([CII)Ljava/lang/Void;"⟩ : MethodName) = true := by first | (apply plainFor_of_name; simp [plainName, overriddenIn]; done) | decide +kernel
theorem pn_17 : plainFor (⟨"java/lang/String", "<init>", "([CII)V"⟩ : MethodName) = true := by first | (apply plainFor_of_name; simp [plainName, overriddenIn]; done) | decide +kernel
theorem pn_18 : plainFor (⟨"java/lang/StringLatin1", "inflate", "([BI[CII)V"⟩ : MethodName) = true := by first | (apply plainFor_of_name; simp [plainName, overriddenIn]; done) | decide +kernel
theorem pn_19 : plainFor (⟨"java/lang/StringLatin1", "getChars", "([BII[CI)V"⟩ : MethodName) = true := by first | (apply plainFor_of_name; simp [plainName, overriddenIn]; done) | decide +kernel
theorem pn_20 : plainFor (⟨"java/lang/String", "getChars", "(II[CI)V"⟩ : MethodName) = true := by first | (apply plainFor_of_name; simp [plainName, overriddenIn]; done) | decide +kernel
theorem pn_21 : plainFor (⟨"java/util/Arrays", "checkLength", "(II)V"⟩ : MethodName) = true := by first | (apply plainFor_of_name; simp [plainName, overriddenIn]; done) | decide +kernel
theorem pn_22 : plainFor (⟨"java/lang/Math", "min", "(II)I"⟩ : MethodName) = true := by first | (apply plainFor_of_name; simp [plainName, overriddenIn]; done) | decide +kernel
theorem pn_23 : plainFor (⟨"java/util/Arrays", "copyOfRangeByte", "([BII)[B"⟩ : MethodName) = true := by first | (apply plainFor_of_name; simp [plainName, overriddenIn]; done) | decide +kernel
theorem pn_24 : plainFor (⟨"java/util/Arrays", "copyOfRange", "([BII)[B"⟩ : MethodName) = true := by first | (apply plainFor_of_name; simp [plainName, overriddenIn]; done) | decide +kernel
theorem pn_25 : plainFor (⟨"java/lang/String", "<init>", "([BB)V"⟩ : MethodName) = true := by first | (apply plainFor_of_name; simp [plainName, overriddenIn]; done) | decide +kernel
theorem pn_26 : plainFor (⟨"java/lang/StringLatin1", "newString", "([BII)Ljava/lang/String;"⟩ : MethodName) = true := by first | (apply plainFor_of_name; simp [plainName, overriddenIn]; done) | decide +kernel
theorem pn_27 : plainFor (⟨"java/lang/String", "substring", "(II)Ljava/lang/String;"⟩ : MethodName) = true := by first | (apply plainFor_of_name; simp [plainName, overriddenIn]; done) | decide +kernel
theorem pn_28 : plainFor (⟨"com/example/nameshelf/nameshelf/uri/InfoUri", "isLetter", "(I)Z"⟩ : MethodName) = true := by first | (apply plainFor_of_name; simp [plainName, overriddenIn]; done) | decide +kernel
theorem pn_29 : plainFor (⟨"com/example/nameshelf/nameshelf/uri/InfoUri", "isNamespaceCharacter", "(I)Z"⟩ : MethodName) = true := by first | (apply plainFor_of_name; simp [plainName, overriddenIn]; done) | decide +kernel
theorem pn_30 : plainFor (⟨"com/example/nameshelf/nameshelf/uri/InfoUri", "lowerAscii", "(I)I"⟩ : MethodName) = true := by first | (apply plainFor_of_name; simp [plainName, overriddenIn]; done) | decide +kernel
theorem pn_31 : plainFor (⟨"com/example/nameshelf/nameshelf/uri/InfoUriParsePinLaw", "up", "(CI)C"⟩ : MethodName) = true := by first | (apply plainFor_of_name; simp [plainName, overriddenIn]; done) | decide +kernel
theorem pn_32 : plainFor (⟨"com/example/nameshelf/nameshelf/uri/InfoUriParsePinLaw", "hex", "(II)C"⟩ : MethodName) = true := by first | (apply plainFor_of_name; simp [plainName, overriddenIn]; done) | decide +kernel
theorem pn_33 : plainFor (⟨"com/example/nameshelf/nameshelf/uri/InfoUriParsePinLaw", "nsChar", "(I)C"⟩ : MethodName) = true := by first | (apply plainFor_of_name; simp [plainName, overriddenIn]; done) | decide +kernel
theorem pn_34 : plainFor (⟨"com/example/nameshelf/nameshelf/uri/InfoUriParsePinLaw", "rawChar", "(I)C"⟩ : MethodName) = true := by first | (apply plainFor_of_name; simp [plainName, overriddenIn]; done) | decide +kernel
theorem pn_35 : plainFor (⟨"com/example/nameshelf/nameshelf/uri/InfoUriParsePinLaw", "nsUnit", "([CIIZ)V"⟩ : MethodName) = true := by first | (apply plainFor_of_name; simp [plainName, overriddenIn]; done) | decide +kernel
theorem pn_36 : plainFor (⟨"com/example/nameshelf/nameshelf/uri/InfoUriParsePinLaw", "unit", "([CIII)V"⟩ : MethodName) = true := by first | (apply plainFor_of_name; simp [plainName, overriddenIn]; done) | decide +kernel
theorem pn_37 : plainFor (⟨"com/example/nameshelf/nameshelf/uri/InfoUriParsePinLaw", "lower", "(C)C"⟩ : MethodName) = true := by first | (apply plainFor_of_name; simp [plainName, overriddenIn]; done) | decide +kernel
theorem pn_38 : plainFor (⟨"com/example/nameshelf/nameshelf/uri/InfoUriParsePinLaw", "m", "(Ljava/lang/String;IC)I"⟩ : MethodName) = true := by first | (apply plainFor_of_name; simp [plainName, overriddenIn]; done) | decide +kernel
theorem pn_39 : plainFor (⟨"com/example/nameshelf/nameshelf/uri/InfoUriParsePinLaw", "nsExp", "(Ljava/lang/String;IIZ)I"⟩ : MethodName) = true := by first | (apply plainFor_of_name; simp [plainName, overriddenIn]; done) | decide +kernel
theorem pn_40 : plainFor (⟨"com/example/nameshelf/nameshelf/uri/InfoUriParsePinLaw", "pchar", "(I)Z"⟩ : MethodName) = true := by first | (apply plainFor_of_name; simp [plainName, overriddenIn]; done) | decide +kernel
theorem pn_41 : plainFor (⟨"com/example/nameshelf/nameshelf/uri/InfoUriParsePinLaw", "exp", "(Ljava/lang/String;III)I"⟩ : MethodName) = true := by first | (apply plainFor_of_name; simp [plainName, overriddenIn]; done) | decide +kernel
theorem pn_42 : plainFor (⟨"com/example/nameshelf/nameshelf/uri/InfoUri", "isDigit", "(I)Z"⟩ : MethodName) = true := by first | (apply plainFor_of_name; simp [plainName, overriddenIn]; done) | decide +kernel
theorem pn_43 : plainFor (⟨"com/example/nameshelf/nameshelf/uri/InfoUri", "hexValue", "(C)I"⟩ : MethodName) = true := by first | (apply plainFor_of_name; simp [plainName, overriddenIn]; done) | decide +kernel
theorem pn_44 : plainFor (⟨"com/example/nameshelf/nameshelf/uri/InfoUri", "escapedByte", "(Ljava/lang/CharSequence;I)I"⟩ : MethodName) = true := by first | (apply plainFor_of_name; simp [plainName, overriddenIn]; done) | decide +kernel
theorem pn_45 : plainFor (⟨"com/example/nameshelf/nameshelf/uri/InfoUri", "putByte", "([CII)I"⟩ : MethodName) = true := by first | (apply plainFor_of_name; simp [plainName, overriddenIn]; done) | decide +kernel
theorem pn_46 : plainFor (⟨"com/example/nameshelf/nameshelf/uri/InfoUri", "startsWithScheme", "(Ljava/lang/CharSequence;)Z"⟩ : MethodName) = true := by first | (apply plainFor_of_name; simp [plainName, overriddenIn]; done) | decide +kernel
theorem pn_47 : plainFor (⟨"com/example/nameshelf/nameshelf/uri/InfoUri", "<init>", "(Ljava/lang/String;II)V"⟩ : MethodName) = true := by first | (apply plainFor_of_name; simp [plainName, overriddenIn]; done) | decide +kernel
theorem pn_48 : plainFor (⟨"com/example/nameshelf/nameshelf/uri/InfoUri", "toString", "()Ljava/lang/String;"⟩ : MethodName) = true := by first | (apply plainFor_of_name; simp [plainName, overriddenIn]; done) | decide +kernel
theorem pn_49 : plainFor (⟨"com/example/nameshelf/nameshelf/uri/InfoUri", "namespace", "()Ljava/lang/String;"⟩ : MethodName) = true := by first | (apply plainFor_of_name; simp [plainName, overriddenIn]; done) | decide +kernel
theorem pn_50 : plainFor (⟨"com/example/nameshelf/nameshelf/uri/InfoUri", "identifier", "()Ljava/lang/String;"⟩ : MethodName) = true := by first | (apply plainFor_of_name; simp [plainName, overriddenIn]; done) | decide +kernel
theorem pn_51 : plainFor (⟨"com/example/nameshelf/nameshelf/uri/InfoUri", "parse", "(Ljava/lang/CharSequence;)Lcom/example/nameshelf/nameshelf/uri/InfoUri;"⟩ : MethodName) = true := by first | (apply plainFor_of_name; simp [plainName, overriddenIn]; done) | decide +kernel
theorem pn_52 : plainFor (⟨"com/example/nameshelf/nameshelf/uri/InfoUriParsePinLaw", "law", "(IIIIII)Z"⟩ : MethodName) = true := by first | (apply plainFor_of_name; simp [plainName, overriddenIn]; done) | decide +kernel
theorem pd_0 : parseMethodDescriptor "(IILjava/util/function/BiFunction;)I" = some ⟨[.int, .int, (.object "java/util/function/BiFunction")], some .int⟩ := by decide +kernel
theorem pd_1 : parseMethodDescriptor "(II)V" = some ⟨[.int, .int], none⟩ := by decide +kernel
theorem pd_2 : parseMethodDescriptor "()Z" = some ⟨[], some .boolean⟩ := by decide +kernel
theorem pd_3 : parseMethodDescriptor "([BI)C" = some ⟨[(.array .byte), .int], some .char⟩ := by decide +kernel
theorem pd_4 : parseMethodDescriptor "()B" = some ⟨[], some .byte⟩ := by decide +kernel
theorem pd_5 : parseMethodDescriptor "([CI[BII)I" = some ⟨[(.array .char), .int, (.array .byte), .int, .int], some .int⟩ := by decide +kernel
theorem pd_6 : parseMethodDescriptor "([CII)[B" = some ⟨[(.array .char), .int, .int], some (.array .byte)⟩ := by decide +kernel
theorem pd_7 : parseMethodDescriptor "([BI)B" = some ⟨[(.array .byte), .int], some .byte⟩ := by decide +kernel
theorem pd_8 : parseMethodDescriptor "([CIILjava/lang/Void;)V" = some ⟨[(.array .char), .int, .int, (.object "java/lang/Void")], none⟩ := by decide +kernel
theorem pd_9 : parseMethodDescriptor "(IIILjava/util/function/BiFunction;)I" = some ⟨[.int, .int, .int, (.object "java/util/function/BiFunction")], some .int⟩ := by decide +kernel
theorem pd_10 : parseMethodDescriptor "(III)I" = some ⟨[.int, .int, .int], some .int⟩ := by decide +kernel
theorem pd_11 : parseMethodDescriptor "([CII)Ljava/lang/Void;" = some ⟨[(.array .char), .int, .int], some (.object "java/lang/Void")⟩ := by decide +kernel
theorem pd_12 : parseMethodDescriptor "([BI[CII)V" = some ⟨[(.array .byte), .int, (.array .char), .int, .int], none⟩ := by decide +kernel
theorem pd_13 : parseMethodDescriptor "()I" = some ⟨[], some .int⟩ := by decide +kernel
theorem pd_14 : parseMethodDescriptor "(III)V" = some ⟨[.int, .int, .int], none⟩ := by decide +kernel
theorem pd_15 : parseMethodDescriptor "([BII[CI)V" = some ⟨[(.array .byte), .int, .int, (.array .char), .int], none⟩ := by decide +kernel
theorem pd_16 : parseMethodDescriptor "(II)I" = some ⟨[.int, .int], some .int⟩ := by decide +kernel
theorem pd_17 : parseMethodDescriptor "([BII)[B" = some ⟨[(.array .byte), .int, .int], some (.array .byte)⟩ := by decide +kernel
theorem pd_18 : parseMethodDescriptor "([BB)V" = some ⟨[(.array .byte), .byte], none⟩ := by decide +kernel
theorem pd_19 : parseMethodDescriptor "([BII)Ljava/lang/String;" = some ⟨[(.array .byte), .int, .int], some (.object "java/lang/String")⟩ := by decide +kernel
theorem pd_20 : parseMethodDescriptor "(I)Z" = some ⟨[.int], some .boolean⟩ := by decide +kernel
theorem pd_21 : parseMethodDescriptor "(I)C" = some ⟨[.int], some .char⟩ := by decide +kernel
theorem pd_22 : parseMethodDescriptor "(II)C" = some ⟨[.int, .int], some .char⟩ := by decide +kernel
theorem pd_23 : parseMethodDescriptor "(C)C" = some ⟨[.char], some .char⟩ := by decide +kernel
theorem pd_24 : parseMethodDescriptor "(Ljava/lang/String;IC)I" = some ⟨[(.object "java/lang/String"), .int, .char], some .int⟩ := by decide +kernel
theorem pd_25 : parseMethodDescriptor "(I)I" = some ⟨[.int], some .int⟩ := by decide +kernel
theorem pd_26 : parseMethodDescriptor "(C)I" = some ⟨[.char], some .int⟩ := by decide +kernel
theorem pd_27 : parseMethodDescriptor "(II)Ljava/lang/String;" = some ⟨[.int, .int], some (.object "java/lang/String")⟩ := by decide +kernel
theorem pd_28 : parseMethodDescriptor "(Ljava/lang/CharSequence;)Z" = some ⟨[(.object "java/lang/CharSequence")], some .boolean⟩ := by decide +kernel
theorem pd_29 : parseMethodDescriptor "(II[CI)V" = some ⟨[.int, .int, (.array .char), .int], none⟩ := by decide +kernel
theorem pd_30 : parseMethodDescriptor "([CII)V" = some ⟨[(.array .char), .int, .int], none⟩ := by decide +kernel
theorem pd_31 : parseMethodDescriptor "(Ljava/lang/String;II)V" = some ⟨[(.object "java/lang/String"), .int, .int], none⟩ := by decide +kernel
theorem pd_32 : parseMethodDescriptor "(Ljava/lang/CharSequence;I)I" = some ⟨[(.object "java/lang/CharSequence"), .int], some .int⟩ := by decide +kernel
theorem pd_33 : parseMethodDescriptor "([CII)I" = some ⟨[(.array .char), .int, .int], some .int⟩ := by decide +kernel
theorem pd_34 : parseMethodDescriptor "()Ljava/lang/String;" = some ⟨[], some (.object "java/lang/String")⟩ := by decide +kernel
theorem pd_35 : parseMethodDescriptor "(Ljava/lang/String;III)I" = some ⟨[(.object "java/lang/String"), .int, .int, .int], some .int⟩ := by decide +kernel
theorem pd_36 : parseMethodDescriptor "(Ljava/lang/String;IIZ)I" = some ⟨[(.object "java/lang/String"), .int, .int, .boolean], some .int⟩ := by decide +kernel
theorem pd_37 : parseMethodDescriptor "([C)V" = some ⟨[(.array .char)], none⟩ := by decide +kernel
theorem pd_38 : parseMethodDescriptor "(Ljava/lang/CharSequence;)Lcom/example/nameshelf/nameshelf/uri/InfoUri;" = some ⟨[(.object "java/lang/CharSequence")], some (.object "com/example/nameshelf/nameshelf/uri/InfoUri")⟩ := by decide +kernel
theorem pd_39 : parseMethodDescriptor "([CIII)V" = some ⟨[(.array .char), .int, .int, .int], none⟩ := by decide +kernel
theorem pd_40 : parseMethodDescriptor "(CI)C" = some ⟨[.char, .int], some .char⟩ := by decide +kernel
theorem pd_41 : parseMethodDescriptor "([CIIZ)V" = some ⟨[(.array .char), .int, .int, .boolean], none⟩ := by decide +kernel
theorem hEL1 {Z : State} {a0 : Array Value} (hw : hwT a0 Z) : EW Z a0 EL1 := EW.cons (hw 89 rfl) (by decide +kernel) (EW.cons (hw 225 rfl) (by decide +kernel) (EW.cons (hw 11 rfl) (by decide +kernel) (EW.cons (hw 218 rfl) (by decide +kernel) EW.nil)))
theorem hSA (Z : State) (a0 : Array Value) (hw : hwT a0 Z) : ∀ a ∈ Bundle.stringAtoms, a.before a0 Z = true := by
  intro a ha
  simp only [Bundle.stringAtoms, List.mem_cons, List.not_mem_nil, or_false] at ha
  rcases ha with rfl | rfl | rfl | rfl | rfl | rfl | rfl
  · exact (hw 12 rfl)
  · exact (hw 13 rfl)
  · exact (hw 14 rfl)
  · exact (hw 15 rfl)
  · exact (hw 16 rfl)
  · exact (hw 17 rfl)
  · exact (hw 18 rfl)
-- CHUNK
abbrev IUN : String := "com/example/nameshelf/nameshelf/uri/InfoUri"
abbrev LWN : String := "com/example/nameshelf/nameshelf/uri/InfoUriParsePinLaw"
abbrev pI : String × Nat := ("com/example/nameshelf/nameshelf/uri/InfoUri", 37)
abbrev pR : String × Nat := ("com/example/nameshelf/nameshelf/uri/InfoUriParsePinLaw", 58)
abbrev pN : String × Nat := ("com/example/nameshelf/nameshelf/uri/InfoUriParsePinLaw", 64)
def NsN (i : Nat) : Prop := i = 43 ∨ i = 45 ∨ i = 46 ∨ (48 ≤ i ∧ i < 58) ∨ (65 ≤ i ∧ i < 91) ∨ (97 ≤ i ∧ i < 123)
def NS (Z : State) : Prop := ∃ na vs, Sta Z Z.heap "com/example/nameshelf/nameshelf/uri/InfoUri" "NAMESPACE" "[Z" (.ref na) ∧ Al Z Z.heap na .boolean vs ∧ ∀ i, i < 128 → ∃ b : Int32, vs[i]? = some (.int b) ∧ (b = 0 ∨ b = 1) ∧ (b ≠ 0 ↔ NsN i)
abbrev Let (c : Int32) : Prop := (65 ≤ c.toInt ∧ c.toInt ≤ 90) ∨ (97 ≤ c.toInt ∧ c.toInt ≤ 122)
abbrev Ns (c : Int32) : Prop := Let c ∨ (48 ≤ c.toInt ∧ c.toInt ≤ 57) ∨ c.toInt = 43 ∨ c.toInt = 45 ∨ c.toInt = 46
def low (c : Int32) : Int32 := if 65 ≤ c.toInt ∧ c.toInt ≤ 90 then c + 32 else c
theorem ns8 {c : Int32} (h : Ns c) : 43 ≤ c.toInt ∧ c.toInt ≤ 122 := by
  rcases h with (h | h) | h | h | h | h <;> omega
theorem low_toInt {c : Int32} (h : Ns c) : C8 (low c) ∧ ((65 ≤ c.toInt ∧ c.toInt ≤ 90) → (low c).toInt = c.toInt + 32) := by
  have := ns8 h
  unfold low
  by_cases q : 65 ≤ c.toInt ∧ c.toInt ≤ 90
  · rw [if_pos q]
    have a1 := c_iadd c 32
    have a2 := rng32 (c + 32)
    have a3 : (32 : Int32).toInt = 32 := by decide
    rw [a3] at a1
    exact ⟨⟨by omega, by omega⟩, fun _ => by omega⟩
  · rw [if_neg q]
    exact ⟨⟨by omega, by omega⟩, fun z => absurd z q⟩
theorem or32_all : ∀ m, m < 128 → (65 ≤ m ∧ m ≤ 90 → (Int32.ofNat m ||| 32) = Int32.ofNat m + 32) ∧ (97 ≤ m ∧ m ≤ 122 → (Int32.ofNat m ||| 32) = Int32.ofNat m) := by decide
theorem or32 {c : Int32} (h : Let c) : (c ||| 32) = low c := by
  have e : c = Int32.ofNat c.toInt.toNat := by
    apply Int32.toInt_inj.mp
    rw [len_toInt (by rcases h with h | h <;> omega)]
    rcases h with h | h <;> omega
  have k := or32_all c.toInt.toNat (by rcases h with h | h <;> omega)
  rw [← e] at k
  unfold low
  rcases h with h | h
  · rw [if_pos h]; exact k.1 ⟨by omega, by omega⟩
  · rw [if_neg (fun z => by have := z.2; have := h.1; omega)]; exact k.2 ⟨by omega, by omega⟩
theorem i65 : (65 : Int32).toInt = 65 := by decide
theorem i90 : (90 : Int32).toInt = 90 := by decide
theorem i97 : (97 : Int32).toInt = 97 := by decide
theorem i122 : (122 : Int32).toInt = 122 := by decide
theorem i48 : (48 : Int32).toInt = 48 := by decide
theorem i57 : (57 : Int32).toInt = 57 := by decide
theorem i128 : (128 : Int32).toInt = 128 := by decide
theorem eqI {c d : Int32} {z : Int} (hd : d.toInt = z) : c = d ↔ c.toInt = z := ⟨fun q => by rw [q, hd], fun q => Int32.toInt_inj.mp (by rw [q, hd])⟩
theorem i37 : (37 : Int32).toInt = 37 := by decide
theorem i47 : (47 : Int32).toInt = 47 := by decide
theorem i63 : (63 : Int32).toInt = 63 := by decide
theorem i35 : (35 : Int32).toInt = 35 := by decide
theorem i10 : (10 : Int32).toInt = 10 := by decide
theorem i102 : (102 : Int32).toInt = 102 := by decide
theorem C16 {c : Int32} (h : C8 c) : 0 ≤ c.toInt ∧ c.toInt < 65536 := ⟨h.1, by have := h.2; omega⟩
theorem i2c8 {c : Int32} (h : C8 c) : c.toUInt32.toUInt16.toUInt32.toInt32 = c := nar_char h.1 (C16 h).2
theorem addI {x z : Int32} {i m : Nat} (hx : x.toInt = (i : Int)) (hz : z.toInt = (m : Int)) (h : i + m < 2147483648) : (x + z).toInt = ((i + m : Nat) : Int) := by
  have h1 := c_iadd x z
  have h3 := rng32 (x + z)
  rw [hz, hx] at h1
  omega
theorem ofN {x : Int32} (h : 0 ≤ x.toInt) : x = Int32.ofNat x.toInt.toNat := by
  apply Int32.toInt_inj.mp
  have := rng32 x
  rw [len_toInt (by omega)]
  omega
def infoL : List Int32 := [105, 110, 102, 111, 58]
def nsL : List Int32 := [65, 66, 67, 68, 69, 70, 71, 72, 73, 74, 75, 76, 77, 78, 79, 80, 81, 82, 83, 84, 85, 86, 87, 88, 89, 90, 97, 98, 99, 100, 101, 102, 103, 104, 105, 106, 107, 108, 109, 110, 111, 112, 113, 114, 115, 116, 117, 118, 119, 120, 121, 122, 48, 49, 50, 51, 52, 53, 54, 55, 56, 57, 43, 45, 46]
def rwL : List Int32 := [65, 66, 67, 68, 69, 70, 71, 72, 73, 74, 75, 76, 77, 78, 79, 80, 81, 82, 83, 84, 85, 86, 87, 88, 89, 90, 97, 98, 99, 100, 101, 102, 103, 104, 105, 106, 107, 108, 109, 110, 111, 112, 113, 114, 115, 116, 117, 118, 119, 120, 121, 122, 48, 49, 50, 51, 52, 53, 54, 55, 56, 57, 45, 46, 95, 126, 33, 36, 38, 39, 40, 41, 42, 43, 44, 59, 61, 58, 64, 47, 63]
theorem info8 : Lat infoL := by unfold Lat; decide
theorem nsL8 : Lat nsL := by unfold Lat; decide
theorem rwL8 : Lat rwL := by unfold Lat; decide
def nsC (i : Int32) : Int32 := nsL.getD i.toInt.toNat 0
def rwC (i : Int32) : Int32 := rwL.getD i.toInt.toNat 0
theorem nsC_get {i : Int32} (h0 : 0 ≤ i.toInt) (h1 : i.toInt < 65) : nsL[i.toInt.toNat]? = some (nsC i) := by
  have hl : i.toInt.toNat < nsL.length := by rw [show nsL.length = 65 from rfl]; omega
  rw [List.getElem?_eq_getElem hl]
  unfold nsC
  rw [List.getD_eq_getElem?_getD, List.getElem?_eq_getElem hl]
  rfl
theorem rwC_get {i : Int32} (h0 : 0 ≤ i.toInt) (h1 : i.toInt < 81) : rwL[i.toInt.toNat]? = some (rwC i) := by
  have hl : i.toInt.toNat < rwL.length := by rw [show rwL.length = 81 from rfl]; omega
  rw [List.getElem?_eq_getElem hl]
  unfold rwC
  rw [List.getD_eq_getElem?_getD, List.getElem?_eq_getElem hl]
  rfl
theorem nsL_ns : ∀ n, n < 65 → Ns (nsL.getD n 0) := by decide
theorem nsL_let : ∀ n, n < 52 → Let (nsL.getD n 0) := by decide
abbrev Pch (c : Int32) : Prop := c.toInt = 33 ∨ c.toInt = 36 ∨ (38 ≤ c.toInt ∧ c.toInt ≤ 46) ∨ (48 ≤ c.toInt ∧ c.toInt ≤ 59) ∨ c.toInt = 61 ∨ (64 ≤ c.toInt ∧ c.toInt ≤ 90) ∨ c.toInt = 95 ∨ (97 ≤ c.toInt ∧ c.toInt ≤ 122) ∨ c.toInt = 126
theorem pch8 {c : Int32} (h : Pch c) : 33 ≤ c.toInt ∧ c.toInt ≤ 126 ∧ c.toInt ≠ 37 ∧ c.toInt ≠ 35 := by unfold Pch at h; omega
theorem rwL_80 : ∀ n, n < 80 → Pch (rwL.getD n 0) ∨ (rwL.getD n 0).toInt = 47 := by decide
theorem rwL_81 : ∀ n, n < 81 → Pch (rwL.getD n 0) ∨ (rwL.getD n 0).toInt = 47 ∨ (rwL.getD n 0).toInt = 63 := by decide
def PcN (i : Nat) : Prop := i = 33 ∨ i = 36 ∨ (38 ≤ i ∧ i ≤ 46) ∨ (48 ≤ i ∧ i ≤ 59) ∨ i = 61 ∨ (64 ≤ i ∧ i ≤ 90) ∨ i = 95 ∨ (97 ≤ i ∧ i ≤ 122) ∨ i = 126
theorem pcN {c : Int32} (h : 0 ≤ c.toInt) : PcN c.toInt.toNat ↔ Pch c := by unfold PcN Pch; omega
def PC (Z : State) : Prop := ∃ na vs, Sta Z Z.heap "com/example/nameshelf/nameshelf/uri/InfoUri" "PCHAR" "[Z" (.ref na) ∧ Al Z Z.heap na .boolean vs ∧ ∀ i, i < 128 → ∃ b : Int32, vs[i]? = some (.int b) ∧ (b = 0 ∨ b = 1) ∧ (b ≠ 0 ↔ PcN i)
def HS (Z : State) : Prop := ∃ na vs, Sta Z Z.heap "com/example/nameshelf/nameshelf/uri/InfoUri" "HEX" "[C" (.ref na) ∧ Al Z Z.heap na .char vs ∧ ∀ i : Nat, i < 16 → ∃ c : Int32, vs[i]? = some (.int c) ∧ c.toInt = if i < 10 then (i : Int) + 48 else (i : Int) + 55
def hx (d b : Int32) : Int32 := if d.toInt < 10 then 48 + d else (if b = 0 then 65 else 97) + d - 10
def Hx (a x : Int32) : Prop := 0 ≤ x.toInt ∧ x.toInt < 16 ∧ ((x.toInt < 10 ∧ a.toInt = x.toInt + 48) ∨ (10 ≤ x.toInt ∧ (a.toInt = x.toInt + 55 ∨ a.toInt = x.toInt + 87)))
theorem Hx.c8 {a x : Int32} (h : Hx a x) : C8 a := by unfold Hx at h; constructor <;> omega
theorem hx_int {d : Int32} (b : Int32) (h0 : 0 ≤ d.toInt) (h1 : d.toInt < 16) : (d.toInt < 10 → (hx d b).toInt = d.toInt + 48) ∧ (10 ≤ d.toInt → (b = 0 → (hx d b).toInt = d.toInt + 55) ∧ (b ≠ 0 → (hx d b).toInt = d.toInt + 87)) := by
  refine ⟨fun q => ?_, fun q => ⟨fun e => ?_, fun e => ?_⟩⟩
  · unfold hx
    rw [if_pos q]
    have a1 := c_iadd 48 d
    have a2 := rng32 (48 + d)
    rw [i48] at a1
    omega
  · unfold hx
    rw [if_neg (by omega), if_pos e]
    have a1 := c_iadd 65 d
    have a2 := rng32 (65 + d)
    have a3 := c_isub (65 + d) 10
    have a4 := rng32 (65 + d - 10)
    rw [i65] at a1
    rw [i10] at a3
    omega
  · unfold hx
    rw [if_neg (by omega), if_neg e]
    have a1 := c_iadd 97 d
    have a2 := rng32 (97 + d)
    have a3 := c_isub (97 + d) 10
    have a4 := rng32 (97 + d - 10)
    rw [i97] at a1
    rw [i10] at a3
    omega
theorem hx_Hx {d : Int32} (b : Int32) (h0 : 0 ≤ d.toInt) (h1 : d.toInt < 16) : Hx (hx d b) d := by
  have := hx_int b h0 h1
  refine ⟨h0, h1, ?_⟩
  by_cases q : d.toInt < 10
  · exact Or.inl ⟨q, this.1 q⟩
  · refine Or.inr ⟨by omega, ?_⟩
    by_cases e : b = 0
    · exact Or.inl ((this.2 (by omega)).1 e)
    · exact Or.inr ((this.2 (by omega)).2 e)
theorem nib {v : Int32} : (v >>> ((4 : Int32) &&& 31)).toInt = v.toInt / 16 ∧ (v &&& 15).toInt = v.toInt % 16 := by
  have a := c_ishr v 4 4 (by decide)
  have b := c_mask v 15 4 (by decide) (by decide)
  have e : ((2 ^ 4 : Nat) : Int) = 16 := by decide
  rw [e] at a b
  exact ⟨a, b⟩
def EscOk (v a b : Int32) : Prop := ∃ x y, Hx a x ∧ Hx b y ∧ v.toInt = 16 * x.toInt + y.toInt
theorem EscOk.c8 {v a b : Int32} (h : EscOk v a b) : C8 v ∧ C8 a ∧ C8 b := by
  obtain ⟨x, y, h1, h2, h3⟩ := h
  refine ⟨?_, h1.c8, h2.c8⟩
  have := h1.1; have := h1.2.1; have := h2.1; have := h2.2.1
  constructor <;> omega
theorem esc_ok {v : Int32} (p q : Int32) (h : C8 v) : EscOk v (hx (v >>> ((4 : Int32) &&& 31)) p) (hx (v &&& 15) q) := by
  obtain ⟨n1, n2⟩ := nib (v := v)
  have h1 := h.1; have h2 := h.2
  exact ⟨_, _, hx_Hx p (by omega) (by omega), hx_Hx q (by omega) (by omega), by omega⟩
theorem join_all : ∀ n, n < 16 → ∀ m, m < 16 → ((Int32.ofNat n <<< ((4 : Int32) &&& 31)) ||| Int32.ofNat m) = Int32.ofNat (16 * n + m) := by decide +kernel
theorem joinB {v x y : Int32} (h1 : 0 ≤ x.toInt ∧ x.toInt < 16) (h2 : 0 ≤ y.toInt ∧ y.toInt < 16) (h : v.toInt = 16 * x.toInt + y.toInt) : (x <<< ((4 : Int32) &&& 31)) ||| y = v := by
  have e := join_all x.toInt.toNat (by omega) y.toInt.toNat (by omega)
  rw [← ofN h1.1, ← ofN h2.1] at e
  rw [e, ofN (x := v) (by omega)]
  congr 1
  omega
abbrev Tok : Type := Int32 × Option (Int32 × Int32)
def encB (c : Int32) : List Int32 := if Pch c then [c] else [37, hx (c >>> ((4 : Int32) &&& 31)) 0, hx (c &&& 15) 0]
def txt : Tok → List Int32
  | (c, none) => [c]
  | (_, some (a, b)) => [37, a, b]
def enc : Tok → List Int32
  | (c, none) => [c]
  | (c, some _) => encB c
def txts (ts : List Tok) : List Int32 := ts.flatMap txt
def encs (ts : List Tok) : List Int32 := ts.flatMap enc
def lows (ts : List Tok) : List Int32 := ts.map fun t => low t.1
def Tn : Tok → Prop
  | (c, none) => Ns c
  | (c, some (a, b)) => Ns c ∧ EscOk c a b
def Ti (hh : Prop) : Tok → Prop
  | (c, none) => Pch c ∨ c.toInt = 47 ∨ (c.toInt = 63 ∧ hh)
  | (c, some (a, b)) => EscOk c a b
theorem Tn.ns {t : Tok} (h : Tn t) : Ns t.1 := by
  obtain ⟨c, _ | ⟨a, b⟩⟩ := t
  · exact h
  · exact h.1
theorem txts_cons (t : Tok) (r : List Tok) : txts (t :: r) = txt t ++ txts r := rfl
theorem encs_cons (t : Tok) (r : List Tok) : encs (t :: r) = enc t ++ encs r := rfl
theorem lows_cons (t : Tok) (r : List Tok) : lows (t :: r) = low t.1 :: lows r := rfl
theorem txts_app (r q : List Tok) : txts (r ++ q) = txts r ++ txts q := by simp [txts]
theorem encs_app (r q : List Tok) : encs (r ++ q) = encs r ++ encs q := by simp [encs]
theorem lows_app (r q : List Tok) : lows (r ++ q) = lows r ++ lows q := by simp [lows]
theorem encB_len (c : Int32) : (encB c).length ≤ 3 := by unfold encB; split <;> simp
theorem encB8 {c : Int32} (h : C8 c) : Lat (encB c) := by
  obtain ⟨n1, n2⟩ := nib (v := c)
  have h1 := h.1; have h2 := h.2
  unfold encB
  split
  · exact Lat.cons h Lat.nil
  · exact Lat.cons (by decide) (Lat.cons (hx_Hx 0 (by omega) (by omega)).c8 (Lat.cons (hx_Hx 0 (by omega) (by omega)).c8 Lat.nil))
theorem enc_le (t : Tok) : (enc t).length ≤ (txt t).length := by
  obtain ⟨c, _ | ⟨a, b⟩⟩ := t
  · exact Nat.le_refl _
  · exact encB_len c
theorem encs_le (ts : List Tok) : (encs ts).length ≤ (txts ts).length := by
  induction ts with
  | nil => exact Nat.le_refl _
  | cons t r ih => rw [encs_cons, txts_cons, List.length_append, List.length_append]; have := enc_le t; omega
theorem Lat.app {a b : List Int32} (h : Lat a) (g : Lat b) : Lat (a ++ b) := fun x q => by
  rcases List.mem_append.mp q with q | q
  · exact h x q
  · exact g x q
theorem lat_txts {P : Tok → Prop} (hP : ∀ t, P t → Lat (txt t)) (ts : List Tok) (h : ∀ t ∈ ts, P t) : Lat (txts ts) := fun x q => by
  obtain ⟨t, ht, hx⟩ := List.mem_flatMap.mp q
  exact hP t (h t ht) x hx
theorem lat_encs {P : Tok → Prop} (hP : ∀ t, P t → Lat (enc t)) (ts : List Tok) (h : ∀ t ∈ ts, P t) : Lat (encs ts) := fun x q => by
  obtain ⟨t, ht, hx⟩ := List.mem_flatMap.mp q
  exact hP t (h t ht) x hx
theorem ti_c8 {hh : Prop} {c : Int32} (h : Pch c ∨ c.toInt = 47 ∨ (c.toInt = 63 ∧ hh)) : C8 c := by
  rcases h with h | h | h
  · have := pch8 h; constructor <;> omega
  · constructor <;> omega
  · have := h.1; constructor <;> omega
theorem Ti.lat {hh : Prop} (t : Tok) (h : Ti hh t) : Lat (txt t) := by
  obtain ⟨c, _ | ⟨a, b⟩⟩ := t
  · exact Lat.cons (ti_c8 h) Lat.nil
  · exact Lat.cons (by decide) (Lat.cons (EscOk.c8 h).2.1 (Lat.cons (EscOk.c8 h).2.2 Lat.nil))
theorem Ti.latE {hh : Prop} (t : Tok) (h : Ti hh t) : Lat (enc t) := by
  obtain ⟨c, _ | ⟨a, b⟩⟩ := t
  · exact Lat.cons (ti_c8 h) Lat.nil
  · exact encB8 (EscOk.c8 h).1
theorem ns_c8 {c : Int32} (h : Ns c) : C8 c := by have := ns8 h; constructor <;> omega
theorem Tn.lat (t : Tok) (h : Tn t) : Lat (txt t) := by
  obtain ⟨c, _ | ⟨a, b⟩⟩ := t
  · exact Lat.cons (ns_c8 h) Lat.nil
  · exact Lat.cons (by decide) (Lat.cons (EscOk.c8 h.2).2.1 (Lat.cons (EscOk.c8 h.2).2.2 Lat.nil))
theorem lows8 {ts : List Tok} (h : ∀ t ∈ ts, Tn t) : Lat (lows ts) := fun x q => by
  obtain ⟨t, ht, rfl⟩ := List.mem_map.mp q
  exact (low_toInt (h t ht).ns).1
def vO (u : Int32) : Int32 := (u.toUInt32 >>> ((3 : Int32) &&& 31).toUInt32).toInt32
theorem vO_r (u : Int32) : 0 ≤ (vO u).toInt ∧ (vO u).toInt < 536870912 := by
  have a := c_iushr u 3 3 (by decide) (by decide)
  have e : ((2 ^ 3 : Nat) : Int) = 8 := by decide
  rw [e] at a
  unfold vO
  omega
/-- the indices that the law makes out of its numbers -/
theorem ix1 {v k : Int32} (hv : 0 ≤ v.toInt) (hk : 0 < k.toInt) : 0 ≤ (v % k).toInt ∧ (v % k).toInt < k.toInt := by
  have := (c_iremV v k).1 hv hk
  exact ⟨this.1, this.2.1⟩
theorem ix2 {v d k : Int32} (hv : 0 ≤ v.toInt) (hd : 0 < d.toInt) (hk : 0 < k.toInt) : 0 ≤ ((v / d) % k).toInt ∧ ((v / d) % k).toInt < k.toInt := ix1 (c_idivV v d hv hd).1 hk
def nsT (u k : Int32) : List Tok := if u &&& 1 = 0 then [(nsC (vO u % k), none), (nsC (vO u / k % 65), none), (nsC (vO u / (k * 65) % 65), none)] else [(nsC (vO u % k), some (hx (nsC (vO u % k) >>> ((4 : Int32) &&& 31)) (u &&& 2), hx (nsC (vO u % k) &&& 15) (u &&& 4)))]
def unT (u k : Int32) : List Tok := if u &&& 1 = 0 then [(rwC (vO u % k), none), (rwC (vO u / k % k), none), (rwC (vO u / (k * k) % k), none)] else [(vO u &&& 255, some (hx ((vO u &&& 255) >>> ((4 : Int32) &&& 31)) (u &&& 2), hx ((vO u &&& 255) &&& 15) (u &&& 4)))]
theorem nsC_ns {i : Int32} (h0 : 0 ≤ i.toInt) (h1 : i.toInt < 65) : Ns (nsC i) := nsL_ns _ (by omega)
theorem b255 (u : Int32) : C8 (vO u &&& 255) := by
  have a := c_mask (vO u) 255 8 (by decide) (by decide)
  have e : ((2 ^ 8 : Nat) : Int) = 256 := by decide
  rw [e] at a
  have := vO_r u
  constructor <;> omega
def K5 (k : Int32) : Prop := k = 52 ∨ k = 65
def K8 (k : Int32) : Prop := k = 80 ∨ k = 81
theorem K5.r {k : Int32} (h : K5 k) : 0 < k.toInt ∧ k.toInt ≤ 65 ∧ 0 < (k * 65).toInt ∧ k ≠ 0 ∧ k * 65 ≠ 0 := by rcases h with rfl | rfl <;> decide
theorem K8.r {k : Int32} (h : K8 k) : 0 < k.toInt ∧ k.toInt ≤ 81 ∧ 0 < (k * k).toInt ∧ k ≠ 0 ∧ k * k ≠ 0 := by rcases h with rfl | rfl <;> decide
theorem nsT_ok {u k : Int32} (hk : K5 k) : (∀ t ∈ nsT u k, Tn t) ∧ (txts (nsT u k)).length = 3 ∧ 1 ≤ (nsT u k).length ∧ (k = 52 → ∃ t r, nsT u k = t :: r ∧ Let t.1) := by
  obtain ⟨k1, k2, k3, -, -⟩ := hk.r
  have r := (vO_r u).1
  have a1 := ix1 r k1
  have a2 := ix2 (k := 65) r k1 (by decide)
  have a3 := ix2 (k := 65) r k3 (by decide)
  have e65 : (65 : Int32).toInt = 65 := by decide
  have n1 : Ns (nsC (vO u % k)) := nsC_ns a1.1 (by omega)
  unfold nsT
  by_cases q : u &&& 1 = 0
  · rw [if_pos q]
    refine ⟨?_, rfl, by simp, fun e => ⟨_, _, rfl, ?_⟩⟩
    · intro t ht
      simp only [List.mem_cons, List.not_mem_nil, or_false] at ht
      rcases ht with rfl | rfl | rfl
      · exact n1
      · exact nsC_ns a2.1 (by omega)
      · exact nsC_ns a3.1 (by omega)
    · subst e
      exact nsL_let _ (by have e52 : (52 : Int32).toInt = 52 := (by decide); omega)
  · rw [if_neg q]
    refine ⟨?_, rfl, by simp, fun e => ⟨_, _, rfl, ?_⟩⟩
    · intro t ht
      rw [List.mem_singleton.mp ht]
      exact ⟨n1, esc_ok _ _ (ns_c8 n1)⟩
    · subst e
      exact nsL_let _ (by have e52 : (52 : Int32).toInt = 52 := (by decide); omega)
theorem unT_ok {u k : Int32} {hh : Prop} (hk : K8 k) (h81 : k = 81 → hh) : (∀ t ∈ unT u k, Ti hh t) ∧ (txts (unT u k)).length = 3 := by
  obtain ⟨k1, k2, k3, -, -⟩ := hk.r
  have r := (vO_r u).1
  have a1 := ix1 r k1
  have a2 := ix2 (k := k) r k1 k1
  have a3 := ix2 (k := k) r k3 k1
  have raw : ∀ i : Int32, 0 ≤ i.toInt → i.toInt < k.toInt → Ti hh (rwC i, none) := by
    intro i h0 h1
    rcases hk with rfl | rfl
    · have e : (80 : Int32).toInt = 80 := by decide
      rcases rwL_80 i.toInt.toNat (by omega) with q | q
      · exact Or.inl q
      · exact Or.inr (Or.inl q)
    · have e : (81 : Int32).toInt = 81 := by decide
      rcases rwL_81 i.toInt.toNat (by omega) with q | q | q
      · exact Or.inl q
      · exact Or.inr (Or.inl q)
      · exact Or.inr (Or.inr ⟨q, h81 rfl⟩)
  unfold unT
  by_cases q : u &&& 1 = 0
  · rw [if_pos q]
    refine ⟨?_, rfl⟩
    intro t ht
    simp only [List.mem_cons, List.not_mem_nil, or_false] at ht
    rcases ht with rfl | rfl | rfl
    · exact raw _ a1.1 a1.2
    · exact raw _ a2.1 a2.2
    · exact raw _ a3.1 a3.2
  · rw [if_neg q]
    refine ⟨?_, rfl⟩
    intro t ht
    rw [List.mem_singleton.mp ht]
    exact esc_ok _ _ (b255 u)
theorem Ti.mono {hh gg : Prop} (f : hh → gg) {t : Tok} (h : Ti hh t) : Ti gg t := by
  obtain ⟨c, _ | ⟨a, b⟩⟩ := t
  · rcases h with h | h | h
    · exact Or.inl h
    · exact Or.inr (Or.inl h)
    · exact Or.inr (Or.inr ⟨h.1, f h.2⟩)
  · exact h
def Sl0 (x : Slot) : Prop := x = .unset ∨ ∃ q : Int32, x = .val (.int q)
-- CHUNK
theorem or_e {args : Array Value} {first s : State} {o : Option Outcome} {idx : List Nat} {c d : Jvm.Cond} (h : (Jvm.Cond.or c d).value args first o s idx = some true) : c.value args first o s idx = some true ∨ (c.value args first o s idx = some false ∧ d.value args first o s idx = some true) := by
  simp only [Cond.value] at h
  cases hc : c.value args first o s idx with
  | none => simp [hc] at h
  | some q => cases q <;> simp [hc] at h ⊢; exact h
theorem ix_eval {args : Array Value} {first s : State} {o : Option Outcome} (i : Nat) : (Term.index 0).eval args first o [i] s = some (.int i.toInt32) := by simp [Term.eval]
theorem i32n {i : Nat} (h : i < 128) : (i.toInt32).toInt = (i : Int) := len_toInt (n := i) (by omega)
theorem arrayAt_heap {s : State} {a : Addr} {cell : Cell} (h : s.arrayAt? a = some cell) : s.heap[a]? = some cell := by
  unfold State.arrayAt? at h
  cases hc : s.heap[a]? with
  | none => simp [hc] at h
  | some c =>
    cases hk : s.vm.classes[c.cls]? with
    | none => simp [hc, hk] at h
    | some k =>
      simp only [hc, hk, Option.bind_eq_bind, Option.bind_some] at h
      split at h
      · cases h
      · split at h
        · exact h
        · cases h
theorem le_ix {args : Array Value} {first s : State} {o : Option Outcome} {k : Int32} {i : Nat} (hi : i < 128) (h : (Jvm.Cond.le (Term.int k) (Term.index 0)).value args first o s [i] = some true) : k.toInt ≤ (i : Int) := by
  have e := Cond.le_ints (Term.int_eval k) (ix_eval (args := args) (first := first) (o := o) (s := s) i)
  have d := of_decide_eq_true (Option.some.inj (e.symm.trans h))
  rw [Int32.le_iff_toInt_le, i32n hi] at d
  exact d
theorem lt_ix {args : Array Value} {first s : State} {o : Option Outcome} {k : Int32} {i : Nat} (hi : i < 128) (h : (Jvm.Cond.lt (Term.index 0) (Term.int k)).value args first o s [i] = some true) : (i : Int) < k.toInt := by
  have e := Cond.lt_ints (ix_eval (args := args) (first := first) (o := o) (s := s) i) (Term.int_eval k)
  have d := of_decide_eq_true (Option.some.inj (e.symm.trans h))
  rw [Int32.lt_iff_toInt_lt, i32n hi] at d
  exact d
/-- an array that a static names: its cell, its length, and what a word on one place says -/
theorem arr_open {args : Array Value} {s : State} {cls nm ds : String} {ty : FieldType} (n : Nat) (nz : Int32) (hnz : nz.toInt = (n : Int)) (n1 : (Cond.arrayOf (Term.static cls nm ds) ty).value args s none s [] = some true) (n2 : (Cond.eq (Term.length (Term.static cls nm ds)) (Term.int nz)).value args s none s [] = some true) :
    ∃ na cell, (Term.static cls nm ds).eval args s none [] s = some (.ref na) ∧ s.arrayAt? na = some cell ∧ cell.slots.size = n ∧ (∃ c, Arr s s.heap na c ty ∧ c = cell) ∧ ∀ (t : Term) (i : Nat) (idx : List Nat), t.eval args s none idx s = some (.int (Int32.ofNat i)) → i < 2147483648 → (Term.elem (Term.static cls nm ds) t).eval args s none idx s = cell.slots[i]? := by
  obtain ⟨na, ev⟩ := arr_v n1
  have l2 := Cond.eq_int (beq_iff_eq.mpr n2) rfl
  obtain ⟨cell, hcell, hsz⟩ : ∃ cell, s.arrayAt? na = some cell ∧ cell.slots.size = n := by
    have ev' := ev
    simp only [Term.eval] at l2 ev'
    simp only [ev'] at l2
    cases hc : s.arrayAt? na with
    | none => simp [hc] at l2
    | some cell =>
      refine ⟨cell, rfl, ?_⟩
      simp only [hc, Option.pure_def, Option.bind_eq_bind, Option.bind_some] at l2
      split at l2
      · rename_i hlt
        have := congrArg Int32.toInt (Value.int.inj (Option.some.inj l2))
        rw [show cell.slots.size.toInt32 = Int32.ofNat cell.slots.size from rfl, len_toInt (by omega), hnz] at this
        omega
      · cases l2
  obtain ⟨c, hA⟩ := Arr.start ev n1
  have e : c = cell := Option.some.inj (hA.1.symm.trans (arrayAt_heap hcell))
  refine ⟨na, cell, ev, hcell, hsz, ⟨c, hA, e⟩, fun t i idx ht hi => ?_⟩
  have hz : (Int32.ofNat i).toInt = (i : Int) := len_toInt hi
  obtain ⟨z1, z2⟩ := nat_idx hz
  have ev2 : (Term.static cls nm ds).eval args s none idx s = some (.ref na) := ev
  simp only [Term.eval] at ev2 ⊢
  simp only [ev2, ht]
  simp only [hcell, Option.pure_def, Option.bind_eq_bind, Option.bind_some, if_neg z1, z2]
section Tab
variable {args : Array Value} {s : State} {T : Term} {na : Addr} {cell : Cell}
abbrev ElemF (args : Array Value) (s : State) (T : Term) (cell : Cell) : Prop := ∀ (t : Term) (i : Nat) (idx : List Nat), t.eval args s none idx s = some (.int (Int32.ofNat i)) → i < 2147483648 → (Term.elem T t).eval args s none idx s = cell.slots[i]?
theorem tabE (el : ElemF args s T cell) {i : Nat} {b : Int32} (hi : i < 128) (hv : (Cond.eq (Term.elem T (Term.index 0)) (Term.int b)).value args s none s [i] = some true) : cell.slots[i]? = some (.int b) := by
  have h1 := Cond.eq_int (beq_iff_eq.mpr hv) rfl
  rw [el _ i [i] (ix_eval i) (by omega)] at h1
  exact h1
theorem tabL (el : ElemF args s T cell) {z b : Int32} (i : Nat) (hv : (Cond.eq (Term.elem T (Term.int z)) (Term.int b)).value args s none s [] = some true) (hz : z = Int32.ofNat i) (hi : i < 128) : cell.slots[i]? = some (.int b) := by
  have h1 := Cond.eq_int (beq_iff_eq.mpr hv) rfl
  rw [el _ i [] (by rw [Term.int_eval, hz]) (by omega)] at h1
  exact h1
theorem tabR (el : ElemF args s T cell) (ev : T.eval args s none [] s = some (.ref na)) (hcell : s.arrayAt? na = some cell) (hsz : cell.slots.size = 128) (lo hi' : Int) {loz hiz b : Int32} {i : Nat} (hv : (Cond.all T (Cond.or (Cond.lt (Term.index 0) (Term.int loz)) (Cond.or (Cond.le (Term.int hiz) (Term.index 0)) (Cond.eq (Term.elem T (Term.index 0)) (Term.int b))))).value args s none s [] = some true) (hi : i < 128) (e1 : loz.toInt = lo) (e2 : hiz.toInt = hi') (h1 : lo ≤ (i : Int)) (h2 : (i : Int) < hi') : cell.slots[i]? = some (.int b) := by
  have := Cond.all_elim ev hcell hv i (by omega)
  rcases or_e this with q | ⟨-, q⟩
  · have := lt_ix hi q; omega
  · rcases or_e q with q | ⟨-, q⟩
    · have := le_ix hi q; omega
    · exact tabE el hi q
theorem tabLo (el : ElemF args s T cell) (ev : T.eval args s none [] s = some (.ref na)) (hcell : s.arrayAt? na = some cell) (hsz : cell.slots.size = 128) (hi' : Int) {hiz b : Int32} {i : Nat} (hv : (Cond.all T (Cond.or (Cond.le (Term.int hiz) (Term.index 0)) (Cond.eq (Term.elem T (Term.index 0)) (Term.int b)))).value args s none s [] = some true) (hi : i < 128) (e2 : hiz.toInt = hi') (h2 : (i : Int) < hi') : cell.slots[i]? = some (.int b) := by
  have := Cond.all_elim ev hcell hv i (by omega)
  rcases or_e this with q | ⟨-, q⟩
  · have := le_ix hi q; omega
  · exact tabE el hi q
theorem tabHi (el : ElemF args s T cell) (ev : T.eval args s none [] s = some (.ref na)) (hcell : s.arrayAt? na = some cell) (hsz : cell.slots.size = 128) (lo : Int) {loz b : Int32} {i : Nat} (hv : (Cond.all T (Cond.or (Cond.lt (Term.index 0) (Term.int loz)) (Cond.eq (Term.elem T (Term.index 0)) (Term.int b)))).value args s none s [] = some true) (hi : i < 128) (e1 : loz.toInt = lo) (h1 : lo ≤ (i : Int)) : cell.slots[i]? = some (.int b) := by
  have := Cond.all_elim ev hcell hv i (by omega)
  rcases or_e this with q | ⟨-, q⟩
  · have := lt_ix hi q; omega
  · exact tabE el hi q
theorem tabX (el : ElemF args s T cell) {i : Nat} {z : Int64} {zi : Int} (hi : i < 128) (hz : z.toInt = zi) (hz0 : 0 ≤ zi) (hz1 : zi < 1000) (hv : (Cond.eq (Term.op1 Jvm.Unary.i2l (Term.elem T (Term.index 0))) (Term.op2 Jvm.Binary.ladd (Term.op1 Jvm.Unary.i2l (Term.index 0)) (Term.long z))).value args s none s [i] = some true) : ∃ c : Int32, cell.slots[i]? = some (.int c) ∧ c.toInt = (i : Int) + zi := by
  have hr : (Term.op2 Jvm.Binary.ladd (Term.op1 Jvm.Unary.i2l (Term.index 0)) (Term.long z)).eval args s none [i] s = some (.long (i.toInt32.toInt64 + z)) := by
    simp [Term.eval, Jvm.Unary.apply, Jvm.Binary.apply]
  have h1 := Cond.eq_long (beq_iff_eq.mpr hv) hr
  have h0 : (Term.op1 Jvm.Unary.i2l (Term.elem T (Term.index 0))).eval args s none [i] s = ((Term.elem T (Term.index 0)).eval args s none [i] s).bind (Jvm.Unary.apply .i2l) := by first | rfl | simp only [Term.eval, Option.bind_eq_bind]
  rw [h0, el (Term.index 0) i [i] (ix_eval i) (by omega)] at h1
  cases hc : cell.slots[i]? with
  | none => rw [hc] at h1; simp at h1
  | some w =>
    rw [hc] at h1
    cases w with
    | int c =>
      refine ⟨c, rfl, ?_⟩
      simp [Jvm.Unary.apply] at h1
      have h3 := congrArg Int64.toInt h1
      have a1 := c_ladd (i.toInt32.toInt64) z
      have a2 := rng64 (i.toInt32.toInt64 + z)
      have a3 : (i.toInt32.toInt64).toInt = (i : Int) := by rw [Int32.toInt_toInt64]; exact i32n hi
      rw [Int32.toInt_toInt64] at h3
      rw [a3, hz] at a1
      omega
    | _ => simp [Jvm.Unary.apply] at h1
end Tab
theorem own_tabs {args : Array Value} {s : State} (hw : hwT args s) (hn : narrow_1.value args s none s [] = some true) : NS s ∧ PC s ∧ HS s := by
  obtain ⟨a1, hn⟩ := and_e hn
  obtain ⟨a2, hn⟩ := and_e hn
  obtain ⟨b1, hn⟩ := and_e hn
  obtain ⟨b2, hn⟩ := and_e hn
  obtain ⟨c1, hn⟩ := and_e hn
  obtain ⟨c2, hn⟩ := and_e hn
  obtain ⟨n3, hn⟩ := and_e hn
  obtain ⟨n4, hn⟩ := and_e hn
  obtain ⟨n5, hn⟩ := and_e hn
  obtain ⟨n6, hn⟩ := and_e hn
  obtain ⟨n7, hn⟩ := and_e hn
  obtain ⟨n8, hn⟩ := and_e hn
  obtain ⟨n9, hn⟩ := and_e hn
  obtain ⟨n10, hn⟩ := and_e hn
  obtain ⟨n11, hn⟩ := and_e hn
  obtain ⟨n12, hn⟩ := and_e hn
  obtain ⟨n13, hn⟩ := and_e hn
  obtain ⟨n14, hn⟩ := and_e hn
  obtain ⟨p1, hn⟩ := and_e hn
  obtain ⟨p2, hn⟩ := and_e hn
  obtain ⟨p3, hn⟩ := and_e hn
  obtain ⟨p4, hn⟩ := and_e hn
  obtain ⟨p5, hn⟩ := and_e hn
  obtain ⟨p6, hn⟩ := and_e hn
  obtain ⟨p7, hn⟩ := and_e hn
  obtain ⟨p8, hn⟩ := and_e hn
  obtain ⟨p9, hn⟩ := and_e hn
  obtain ⟨p10, hn⟩ := and_e hn
  obtain ⟨p11, hn⟩ := and_e hn
  obtain ⟨p12, hn⟩ := and_e hn
  obtain ⟨p13, hn⟩ := and_e hn
  obtain ⟨p14, hn⟩ := and_e hn
  obtain ⟨p15, hn⟩ := and_e hn
  obtain ⟨p16, hn⟩ := and_e hn
  obtain ⟨p17, hn⟩ := and_e hn
  obtain ⟨p18, hn⟩ := and_e hn
  obtain ⟨p19, hn⟩ := and_e hn
  obtain ⟨p20, hn⟩ := and_e hn
  obtain ⟨p21, hn⟩ := and_e hn
  obtain ⟨p22, hn⟩ := and_e hn
  obtain ⟨p23, hn⟩ := and_e hn
  obtain ⟨x1, x2⟩ := and_e hn
  refine ⟨?_, ?_, ?_⟩
  · obtain ⟨na, cell, ev, hcell, hsz, ⟨c, hA, rfl⟩, el⟩ := arr_open 128 128 (by decide) a1 a2
    have V : ∀ i, i < 128 → ∃ b : Int32, c.slots[i]? = some (.int b) ∧ (b = 0 ∨ b = 1) ∧ (b ≠ 0 ↔ NsN i) := by
      intro i hi
      have k0 : (0 : Int32) = 0 ∨ (0 : Int32) = 1 := Or.inl rfl
      have k1 : (1 : Int32) = 0 ∨ (1 : Int32) = 1 := Or.inr rfl
      have no : ¬ NsN i → ((0 : Int32) ≠ 0 ↔ NsN i) := fun q => ⟨fun z => absurd rfl z, fun z => absurd z q⟩
      have yes : NsN i → ((1 : Int32) ≠ 0 ↔ NsN i) := fun q => ⟨fun _ => q, fun _ => by decide⟩
      by_cases q0 : i < 43
      · exact ⟨0, tabLo el ev hcell hsz 43 n3 hi (by decide) (by omega), k0, no (fun z => by unfold NsN at z; omega)⟩
      by_cases q1 : i = 43
      · subst q1; exact ⟨1, tabL el 43 n4 (by decide) (by decide), k1, yes (by unfold NsN; omega)⟩
      by_cases q2 : i = 44
      · subst q2; exact ⟨0, tabL el 44 n5 (by decide) (by decide), k0, no (fun z => by unfold NsN at z; omega)⟩
      by_cases q3 : i = 45
      · subst q3; exact ⟨1, tabL el 45 n6 (by decide) (by decide), k1, yes (by unfold NsN; omega)⟩
      by_cases q4 : i = 46
      · subst q4; exact ⟨1, tabL el 46 n7 (by decide) (by decide), k1, yes (by unfold NsN; omega)⟩
      by_cases q5 : i = 47
      · subst q5; exact ⟨0, tabL el 47 n8 (by decide) (by decide), k0, no (fun z => by unfold NsN at z; omega)⟩
      by_cases q6 : i < 58
      · exact ⟨1, tabR el ev hcell hsz 48 58 n9 hi (by decide) (by decide) (by omega) (by omega), k1, yes (by unfold NsN; omega)⟩
      by_cases q7 : i < 65
      · exact ⟨0, tabR el ev hcell hsz 58 65 n10 hi (by decide) (by decide) (by omega) (by omega), k0, no (fun z => by unfold NsN at z; omega)⟩
      by_cases q8 : i < 91
      · exact ⟨1, tabR el ev hcell hsz 65 91 n11 hi (by decide) (by decide) (by omega) (by omega), k1, yes (by unfold NsN; omega)⟩
      by_cases q9 : i < 97
      · exact ⟨0, tabR el ev hcell hsz 91 97 n12 hi (by decide) (by decide) (by omega) (by omega), k0, no (fun z => by unfold NsN at z; omega)⟩
      by_cases q10 : i < 123
      · exact ⟨1, tabR el ev hcell hsz 97 123 n13 hi (by decide) (by decide) (by omega) (by omega), k1, yes (by unfold NsN; omega)⟩
      exact ⟨0, tabHi el ev hcell hsz 123 n14 hi (by decide) (by omega), k0, no (fun z => by unfold NsN at z; omega)⟩
    refine ⟨na, c.slots.toList, Sta.start ev (Or.inr ⟨(hw 70 rfl), (hw 143 rfl)⟩), ⟨c, hA, by simp, by simp [hsz], fun v hv => ?_⟩, fun i hi => by simpa using V i hi⟩
    obtain ⟨i, hi⟩ := List.getElem?_of_mem hv
    have hlt : i < 128 := by
      have := (List.getElem?_eq_some_iff.mp hi).1
      simpa [hsz] using this
    obtain ⟨b, hb, b01, -⟩ := V i hlt
    have : v = .int b := Option.some.inj (hi.symm.trans (by simpa using hb))
    subst this
    rcases b01 with rfl | rfl <;> decide
  · obtain ⟨na, cell, ev, hcell, hsz, ⟨c, hA, rfl⟩, el⟩ := arr_open 128 128 (by decide) b1 b2
    have V : ∀ i, i < 128 → ∃ b : Int32, c.slots[i]? = some (.int b) ∧ (b = 0 ∨ b = 1) ∧ (b ≠ 0 ↔ PcN i) := by
      intro i hi
      have k0 : (0 : Int32) = 0 ∨ (0 : Int32) = 1 := Or.inl rfl
      have k1 : (1 : Int32) = 0 ∨ (1 : Int32) = 1 := Or.inr rfl
      have no : ¬ PcN i → ((0 : Int32) ≠ 0 ↔ PcN i) := fun q => ⟨fun z => absurd rfl z, fun z => absurd z q⟩
      have yes : PcN i → ((1 : Int32) ≠ 0 ↔ PcN i) := fun q => ⟨fun _ => q, fun _ => by decide⟩
      by_cases q0 : i < 33
      · exact ⟨0, tabLo el ev hcell hsz 33 p1 hi (by decide) (by omega), k0, no (fun z => by unfold PcN at z; omega)⟩
      by_cases q1 : i = 33
      · subst q1; exact ⟨1, tabL el 33 p2 (by decide) (by decide), k1, yes (by unfold PcN; omega)⟩
      by_cases q2 : i = 34
      · subst q2; exact ⟨0, tabL el 34 p3 (by decide) (by decide), k0, no (fun z => by unfold PcN at z; omega)⟩
      by_cases q3 : i = 35
      · subst q3; exact ⟨0, tabL el 35 p4 (by decide) (by decide), k0, no (fun z => by unfold PcN at z; omega)⟩
      by_cases q4 : i = 36
      · subst q4; exact ⟨1, tabL el 36 p5 (by decide) (by decide), k1, yes (by unfold PcN; omega)⟩
      by_cases q5 : i = 37
      · subst q5; exact ⟨0, tabL el 37 p6 (by decide) (by decide), k0, no (fun z => by unfold PcN at z; omega)⟩
      by_cases q6 : i < 47
      · exact ⟨1, tabR el ev hcell hsz 38 47 p7 hi (by decide) (by decide) (by omega) (by omega), k1, yes (by unfold PcN; omega)⟩
      by_cases q7 : i = 47
      · subst q7; exact ⟨0, tabL el 47 p8 (by decide) (by decide), k0, no (fun z => by unfold PcN at z; omega)⟩
      by_cases q8 : i < 60
      · exact ⟨1, tabR el ev hcell hsz 48 60 p9 hi (by decide) (by decide) (by omega) (by omega), k1, yes (by unfold PcN; omega)⟩
      by_cases q9 : i = 60
      · subst q9; exact ⟨0, tabL el 60 p10 (by decide) (by decide), k0, no (fun z => by unfold PcN at z; omega)⟩
      by_cases q10 : i = 61
      · subst q10; exact ⟨1, tabL el 61 p11 (by decide) (by decide), k1, yes (by unfold PcN; omega)⟩
      by_cases q11 : i = 62
      · subst q11; exact ⟨0, tabL el 62 p12 (by decide) (by decide), k0, no (fun z => by unfold PcN at z; omega)⟩
      by_cases q12 : i = 63
      · subst q12; exact ⟨0, tabL el 63 p13 (by decide) (by decide), k0, no (fun z => by unfold PcN at z; omega)⟩
      by_cases q13 : i < 91
      · exact ⟨1, tabR el ev hcell hsz 64 91 p14 hi (by decide) (by decide) (by omega) (by omega), k1, yes (by unfold PcN; omega)⟩
      by_cases q14 : i < 95
      · exact ⟨0, tabR el ev hcell hsz 91 95 p15 hi (by decide) (by decide) (by omega) (by omega), k0, no (fun z => by unfold PcN at z; omega)⟩
      by_cases q15 : i = 95
      · subst q15; exact ⟨1, tabL el 95 p16 (by decide) (by decide), k1, yes (by unfold PcN; omega)⟩
      by_cases q16 : i = 96
      · subst q16; exact ⟨0, tabL el 96 p17 (by decide) (by decide), k0, no (fun z => by unfold PcN at z; omega)⟩
      by_cases q17 : i < 123
      · exact ⟨1, tabR el ev hcell hsz 97 123 p18 hi (by decide) (by decide) (by omega) (by omega), k1, yes (by unfold PcN; omega)⟩
      by_cases q18 : i = 123
      · subst q18; exact ⟨0, tabL el 123 p19 (by decide) (by decide), k0, no (fun z => by unfold PcN at z; omega)⟩
      by_cases q19 : i = 124
      · subst q19; exact ⟨0, tabL el 124 p20 (by decide) (by decide), k0, no (fun z => by unfold PcN at z; omega)⟩
      by_cases q20 : i = 125
      · subst q20; exact ⟨0, tabL el 125 p21 (by decide) (by decide), k0, no (fun z => by unfold PcN at z; omega)⟩
      by_cases q21 : i = 126
      · subst q21; exact ⟨1, tabL el 126 p22 (by decide) (by decide), k1, yes (by unfold PcN; omega)⟩
      obtain rfl : i = 127 := by omega
      exact ⟨0, tabL el 127 p23 (by decide) (by decide), k0, no (fun z => by unfold PcN at z; omega)⟩
    refine ⟨na, c.slots.toList, Sta.start ev (Or.inr ⟨(hw 70 rfl), (hw 227 rfl)⟩), ⟨c, hA, by simp, by simp [hsz], fun v hv => ?_⟩, fun i hi => by simpa using V i hi⟩
    obtain ⟨i, hi⟩ := List.getElem?_of_mem hv
    have hlt : i < 128 := by
      have := (List.getElem?_eq_some_iff.mp hi).1
      simpa [hsz] using this
    obtain ⟨b, hb, b01, -⟩ := V i hlt
    have : v = .int b := Option.some.inj (hi.symm.trans (by simpa using hb))
    subst this
    rcases b01 with rfl | rfl <;> decide
  · obtain ⟨na, cell, ev, hcell, hsz, ⟨c, hA, rfl⟩, el⟩ := arr_open 16 16 (by decide) c1 c2
    have V : ∀ i : Nat, i < 16 → ∃ d : Int32, c.slots[i]? = some (.int d) ∧ d.toInt = if i < 10 then (i : Int) + 48 else (i : Int) + 55 := by
      intro i hi
      by_cases q : i < 10
      · have := Cond.all_elim ev hcell x1 i (by omega)
        rcases or_e this with z | ⟨-, z⟩
        · have := le_ix (by omega) z; rw [i10] at this; omega
        · obtain ⟨d, h1, h2⟩ := tabX el (by omega) (zi := 48) (by decide) (by decide) (by decide) z
          exact ⟨d, h1, by rw [if_pos q]; exact h2⟩
      · have := Cond.all_elim ev hcell x2 i (by omega)
        rcases or_e this with z | ⟨-, z⟩
        · have := lt_ix (by omega) z; rw [i10] at this; omega
        · obtain ⟨d, h1, h2⟩ := tabX el (by omega) (zi := 55) (by decide) (by decide) (by decide) z
          exact ⟨d, h1, by rw [if_neg q]; exact h2⟩
    refine ⟨na, c.slots.toList, Sta.start ev (Or.inr ⟨(hw 70 rfl), (hw 232 rfl)⟩), ⟨c, hA, by simp, by simp [hsz], fun v hv => ?_⟩, fun i hi => by simpa using V i hi⟩
    obtain ⟨i, hi⟩ := List.getElem?_of_mem hv
    have hlt : i < 16 := by
      have := (List.getElem?_eq_some_iff.mp hi).1
      simpa [hsz] using this
    obtain ⟨d, hd, hd2⟩ := V i hlt
    have : v = .int d := Option.some.inj (hi.symm.trans (by simpa using hd))
    subst this
    have e : nar .char d = d := nar_char (by rw [hd2]; split <;> omega) (by rw [hd2]; split <;> omega)
    show fits .char (.int d) = true
    rw [← e]
    exact fits_nar_char d
-- CHUNK
def SF (Z : State) : Prop := ∃ v : Value, Sta Z Z.heap "jdk/internal/util/Preconditions" "SIOOBE_FORMATTER" "Ljava/util/function/BiFunction;" v ∧ v.isRef = true
theorem cPCI (l : Launch) (Z : State) (a0 : Array Value) (hw : hwT a0 Z) {EL : List (String × Nat)} {nw : Bool} (hEL : EW Z a0 EL) (h0 : Heap) (i n : Int32) (v : Value) (hv : v.isRef = true) (h1 : 0 ≤ i.toInt) (h2 : i.toInt < n.toInt) : Con l Z EL nw (⟨"jdk/internal/util/Preconditions", "checkIndex", "(IILjava/util/function/BiFunction;)I"⟩ : MethodName) jdk_41_method_11_code 3 (some .int) [] rm0 #[.int i, .int n, v] h0 [] (fun v h S' => v = some (.int i) ∧ h = h0 ∧ S' = []) := by
  rcases ref_cases hv with rfl | ⟨m, rfl⟩
  · refine Con.enter (a0 := a0) pn_0 hEL [.val (.int i), .val (.int n), .val (.null)] (fun m => by first | (simp [entryFrame, mkF, argsToLocals, Value.category]; done) | rfl) ?_
    intro K G
    refine G.iloadN d8_0 rfl ?_
    refine G.if_lt d8_1 (fun q => absurd q (not_lt_of_toInt (by rw [toInt_0]; exact h1))) (fun _ => ?_)
    refine G.iloadN d8_4 rfl ?_
    refine G.iloadN d8_5 rfl ?_
    refine G.icmp_lt d8_6 (fun _ => ?_) (fun q => absurd (lt_of_toInt h2) q)
    refine G.iloadN d8_16 rfl ?_
    exact G.iret d8_17 [] (fun _ q => nomatch q) ⟨rfl, rfl, rfl⟩
  · refine Con.enter (a0 := a0) pn_0 hEL [.val (.int i), .val (.int n), .val (.ref m)] (fun m => by first | (simp [entryFrame, mkF, argsToLocals, Value.category]; done) | rfl) ?_
    intro K G
    refine G.iloadN d8_0 rfl ?_
    refine G.if_lt d8_1 (fun q => absurd q (not_lt_of_toInt (by rw [toInt_0]; exact h1))) (fun _ => ?_)
    refine G.iloadN d8_4 rfl ?_
    refine G.iloadN d8_5 rfl ?_
    refine G.icmp_lt d8_6 (fun _ => ?_) (fun q => absurd (lt_of_toInt h2) q)
    refine G.iloadN d8_16 rfl ?_
    exact G.iret d8_17 [] (fun _ q => nomatch q) ⟨rfl, rfl, rfl⟩
abbrev rmSCI : Room := { frames := 1, cells := 0, slots := 0, locals := 14 }
theorem cSCI (l : Launch) (Z : State) (a0 : Array Value) (hw : hwT a0 Z) {EL : List (String × Nat)} {nw : Bool} (hEL : EW Z a0 EL) (h0 : Heap) (hF : SF Z) (i n : Int32) (h1 : 0 ≤ i.toInt) (h2 : i.toInt < n.toInt) : Con l Z EL nw (⟨"java/lang/String", "checkIndex", "(II)V"⟩ : MethodName) jdk_42_method_155_code 2 (none) [] rmSCI #[.int i, .int n] h0 [] (fun v h S' => v = none ∧ h = h0 ∧ S' = []) := by
  obtain ⟨v, hF, hv⟩ := hF
  refine Con.enter (a0 := a0) pn_1 hEL [.val (.int i), .val (.int n)] (fun m => by first | (simp [entryFrame, mkF, argsToLocals, Value.category]; done) | rfl) ?_
  intro K G
  refine G.iloadN d7_0 rfl ?_
  refine G.iloadN d7_1 rfl ?_
  refine G.getS d7_2 (hw 39 rfl) hF ?_
  refine G.callS3 d7_5 (hw 41 rfl) (hw 42 rfl) (hw 40 rfl) (hw 43 rfl) pd_0 (cPCI K.l Z a0 hw hEL h0 i n v hv h1 h2) (fun _ q => nomatch q) ?_
  rintro _ _ _ ⟨rfl, rfl, rfl⟩ -
  refine G.pop d7_8 ?_
  exact G.ret0 d7_9 [] (fun _ q => nomatch q) ⟨rfl, rfl, rfl⟩
abbrev rmLCA : Room := { frames := 2, cells := 0, slots := 0, locals := 27 }
theorem cLCA (l : Launch) (Z : State) (a0 : Array Value) (hw : hwT a0 Z) {EL : List (String × Nat)} {nw : Bool} (hEL : EW Z a0 EL) (h0 : Heap) (hF : SF Z) (b : Addr) (cs : List Int32) (hc : Lat cs) (i : Int32) (j : Nat) (hi : i.toInt = (j : Int)) (c : Int32) (hg : cs[j]? = some c) (B : Al Z h0 b .byte (cs.map bL)) : Con l Z EL nw (⟨"java/lang/StringLatin1", "charAt", "([BI)C"⟩ : MethodName) jdk_43_method_2_code 2 (some .char) [] rmLCA #[.ref b, .int i] h0 [] (fun v h S' => v = some (.int c) ∧ h = h0 ∧ S' = []) := by
  have hlt := (List.getElem?_eq_some_iff.mp hg).1
  have r := hc c (List.mem_of_getElem? hg)
  have hB := B.len
  rw [List.length_map] at hB
  have hn : (Int32.ofNat cs.length).toInt = (cs.length : Int) := len_toInt hB
  refine Con.enter (a0 := a0) pn_2 hEL [.val (.ref b), .val (.int i)] (fun m => by first | (simp [entryFrame, mkF, argsToLocals, Value.category]; done) | rfl) ?_
  intro K G
  refine G.iloadN d6_0 rfl ?_
  refine G.aloadN d6_1 rfl rfl ?_
  refine G.alen (Int32.ofNat cs.length) d6_2 B (by simpa using hn) ?_
  refine G.callS2 d6_3 (hw 36 rfl) (hw 37 rfl) (hw 12 rfl) (hw 38 rfl) pd_1 (cSCI K.l Z a0 hw hEL h0 hF i _ (by omega) (by rw [hi, hn]; omega)) (fun _ q => nomatch q) ?_
  rintro _ _ _ ⟨rfl, rfl, rfl⟩ -
  refine G.aloadN d6_6 rfl rfl ?_
  refine G.iloadN d6_7 rfl ?_
  refine G.baload d6_8 B hi (v := bL c) (by simp [hg]) ?_
  refine G.sipush 255 d6_9 ?_
  refine G.iand (x := c.toInt8.toInt32) d6_12 ?_
  rw [byte_back r.1 r.2]
  refine G.i2c d6_13 ?_
  have e : c.toUInt32.toUInt16.toUInt32.toInt32 = c := nar_char r.1 (by omega)
  rw [e]
  exact G.nret d6_14 (Or.inr (Or.inr (Or.inl rfl))) (z' := c) (nar_char r.1 (by omega)) [] (fun _ q => nomatch q) ⟨rfl, rfl, rfl⟩
theorem cISL (l : Launch) (Z : State) (a0 : Array Value) (hw : hwT a0 Z) {EL : List (String × Nat)} {nw : Bool} (hEL : EW Z a0 EL) (h0 : Heap) (hC : CS Z) (s vb : Addr) (cd : Int32) (vs : List Value) (A : StrB Z h0 s cd vb vs) : Con l Z EL nw (⟨"java/lang/String", "isLatin1", "()Z"⟩ : MethodName) jdk_42_method_154_code 1 (some .boolean) [] rm0 #[.ref s] h0 [] (fun v h S' => v = some (.int (if cd = 0 then 1 else 0)) ∧ h = h0 ∧ S' = []) := by
  obtain ⟨cc, hC, hcc⟩ := hC
  refine Con.enter (a0 := a0) pn_3 hEL [.val (.ref s)] (fun m => by first | (simp [entryFrame, mkF, argsToLocals, Value.category]; done) | rfl) ?_
  intro K G
  refine G.getS d5_0 (hw 29 rfl) hC ?_
  refine G.if_eq d5_3 (fun q => absurd q hcc) (fun _ => ?_)
  refine G.aloadN d5_6 rfl rfl ?_
  refine G.getF d5_7 (hw 30 rfl) A.2.1 ?_
  refine G.if_ne d5_10 (fun q => ?_) (fun q => ?_)
  · refine G.iconst 0 d5_17 ?_
    exact G.nret d5_18 (Or.inl rfl) (z' := 0) (by decide) [] (fun _ q => nomatch q) ⟨by rw [if_neg q], rfl, rfl⟩
  · refine G.iconst 1 d5_13 ?_
    refine G.goto d5_14 ?_
    exact G.nret d5_18 (Or.inl rfl) (z' := 1) (by decide) [] (fun _ q => nomatch q) ⟨by rw [if_pos q], rfl, rfl⟩
abbrev rmSCA8 : Room := { frames := 3, cells := 0, slots := 0, locals := 40 }
/-- charAt within the bounds, chars below 256 -/
theorem cSCA8 (l : Launch) (Z : State) (a0 : Array Value) (hw : hwT a0 Z) {EL : List (String × Nat)} {nw : Bool} (hEL : EW Z a0 EL) (h0 : Heap) (hC : CS Z) (hF : SF Z) (s vb : Addr) (cs : List Int32) (hl : Lat cs) (i : Int32) (j : Nat) (hi : i.toInt = (j : Int)) (c : Int32) (hg : cs[j]? = some c) (B : StrB Z h0 s 0 vb (cs.map bL)) : Con l Z EL nw (⟨"java/lang/String", "charAt", "(I)C"⟩ : MethodName) jdk_42_method_56_code 2 (some .char) [] rmSCA8 #[.ref s, .int i] h0 [] (fun v h S' => v = some (.int c) ∧ h = h0 ∧ S' = []) := by
  refine Con.enter (a0 := a0) pn_4 hEL [.val (.ref s), .val (.int i)] (fun m => by first | (simp [entryFrame, mkF, argsToLocals, Value.category]; done) | rfl) ?_
  intro K G
  refine G.aloadN d4_0 rfl rfl ?_
  refine G.callV0 d4_1 (hw 24 rfl) (hw 25 rfl) (hw 27 rfl) (hw 26 rfl) (hw 28 rfl) (hw 12 rfl) pd_2 B.1 (cISL K.l Z a0 hw hEL h0 hC s vb 0 _ B) (fun _ q => nomatch q) ?_
  rintro _ _ _ ⟨rfl, rfl, rfl⟩ -
  refine G.if_eq d4_4 (fun q => absurd q (by decide)) (fun _ => ?_)
  refine G.aloadN d4_7 rfl rfl ?_
  refine G.getF d4_8 (hw 31 rfl) B.2.2.1 ?_
  refine G.iloadN d4_11 rfl ?_
  refine G.callS2 d4_12 (hw 32 rfl) (hw 33 rfl) (hw 34 rfl) (hw 35 rfl) pd_3 (cLCA K.l Z a0 hw hEL _ hF vb cs hl i j hi c hg B.2.2.2) (fun _ q => nomatch q) ?_
  rintro _ _ _ ⟨rfl, rfl, rfl⟩ -
  have r := hl c (List.mem_of_getElem? hg)
  exact G.nret d4_15 (Or.inr (Or.inr (Or.inl rfl))) (z' := c) (nar_char r.1 (by have := r.2; omega)) [] (fun _ q => nomatch q) ⟨rfl, rfl, rfl⟩
theorem cCOD (l : Launch) (Z : State) (a0 : Array Value) (hw : hwT a0 Z) {EL : List (String × Nat)} {nw : Bool} (hEL : EW Z a0 EL) (h0 : Heap) (hC : CS Z) (s vb : Addr) (cd : Int32) (hcd : cd = 0 ∨ cd = 1) (vs : List Value) (A : StrB Z h0 s cd vb vs) : Con l Z EL nw (⟨"java/lang/String", "coder", "()B"⟩ : MethodName) jdk_42_method_152_code 1 (some .byte) [] rm0 #[.ref s] h0 [] (fun v h S' => v = some (.int cd) ∧ h = h0 ∧ S' = []) := by
  obtain ⟨cc, hC, hcc⟩ := hC
  refine Con.enter (a0 := a0) pn_5 hEL [.val (.ref s)] (fun m => by first | (simp [entryFrame, mkF, argsToLocals, Value.category]; done) | rfl) ?_
  intro K G
  refine G.getS d18_0 (hw 29 rfl) hC ?_
  refine G.if_eq d18_3 (fun q => absurd q hcc) (fun _ => ?_)
  refine G.aloadN d18_6 rfl rfl ?_
  refine G.getF d18_7 (hw 30 rfl) A.2.1 ?_
  refine G.goto d18_10 ?_
  exact G.nret d18_14 (Or.inr (Or.inl rfl)) (z' := cd) (by rcases hcd with rfl | rfl <;> decide) [] (fun _ q => nomatch q) ⟨rfl, rfl, rfl⟩
abbrev rmLEN8 : Room := { frames := 1, cells := 0, slots := 0, locals := 13 }
theorem cLEN8 (l : Launch) (Z : State) (a0 : Array Value) (hw : hwT a0 Z) {EL : List (String × Nat)} {nw : Bool} (hEL : EW Z a0 EL) (h0 : Heap) (hC : CS Z) (s vb : Addr) (vs : List Value) (B : StrB Z h0 s 0 vb vs) : Con l Z EL nw (⟨"java/lang/String", "length", "()I"⟩ : MethodName) jdk_42_method_54_code 1 (some .int) [] rmLEN8 #[.ref s] h0 [] (fun v h S' => (∃ m : Int32, v = some (.int m) ∧ m.toInt = (vs.length : Int)) ∧ h = h0 ∧ S' = []) := by
  have hk : (Int32.ofNat vs.length).toInt = (vs.length : Int) := len_toInt B.2.2.2.len
  refine Con.enter (a0 := a0) pn_6 hEL [.val (.ref s)] (fun m => by first | (simp [entryFrame, mkF, argsToLocals, Value.category]; done) | rfl) ?_
  intro K G
  refine G.aloadN d17_0 rfl rfl ?_
  refine G.getF d17_1 (hw 31 rfl) B.2.2.1 ?_
  refine G.alen _ d17_4 B.2.2.2 hk ?_
  refine G.aloadN d17_5 rfl rfl ?_
  refine G.callV0 d17_6 (hw 81 rfl) (hw 82 rfl) (hw 84 rfl) (hw 83 rfl) (hw 85 rfl) (hw 12 rfl) pd_4 B.1 (cCOD K.l Z a0 hw hEL h0 hC s vb 0 (Or.inl rfl) _ B) (fun _ q => nomatch q) ?_
  rintro _ _ _ ⟨rfl, rfl, rfl⟩ -
  refine G.ishr d17_9 ?_
  exact G.iret d17_10 [] (fun _ q => nomatch q) ⟨⟨_, rfl, by rw [shr0', hk]⟩, rfl, rfl⟩
theorem cCMPL (l : Launch) (Z : State) (a0 : Array Value) (hw : hwT a0 Z) {EL : List (String × Nat)} {nw : Bool} (hEL : EW Z a0 EL) (h0 : Heap) (a b : Addr) (N : Nat) (cs : List Int32) (n : Int32) (hn : n.toInt = (cs.length : Int)) (hb : cs.length < 2147483648) (hlat : Lat cs) (A : Al Z h0 a .char (nA N cs)) (B : Al Z h0 b .byte (List.replicate cs.length (.int 0))) (hab : a ≠ b) :
    Con l Z EL nw (⟨"java/lang/StringUTF16", "compress", "([CI[BII)I"⟩ : MethodName) jdk_52_method_21_code 7 (some .int) [] rm0 #[.ref a, .int 0, .ref b, .int 0, .int n] h0 [b] (fun v h S' => v = some (.int n) ∧ Al Z h b .byte (cs.map bL) ∧ Keep h0 h [b] ∧ S' = []) := by
  refine Con.enter (a0 := a0) pn_7 hEL [.val (.ref a), .val (.int 0), .val (.ref b), .val (.int 0), .val (.int n), .unset, .unset] (fun m => by first | (simp [entryFrame, mkF, argsToLocals, Value.category]; done) | rfl) ?_
  intro K G
  refine G.iconst 0 d14_0 ?_
  refine G.istore5 d14_1 ?_
  have loop : ∀ (rest done : List Int32) (h : Heap) (i : Int32) (x6 : Slot) (_ : x6 = .unset ∨ ∃ q : Int32, x6 = .val (.int q)), done ++ rest = cs → i.toInt = (done.length : Int) → Al Z h b .byte (done.map bL ++ List.replicate rest.length (.int 0)) → Keep h0 h [b] →
      Go Z EL nw rm0 (fun v h S' => v = some (.int n) ∧ Al Z h b .byte (cs.map bL) ∧ Keep h0 h [b] ∧ S' = []) K h [b] 0 0 3 [.val (.ref a), .val (.int i), .val (.ref b), .val (.int i), .val (.int n), .val (.int i), x6] [] := by
    intro rest
    induction rest with
    | nil =>
      intro done h i x6 h6 hd hi hB hK
      refine G.iload d14_3 rfl ?_
      refine G.iload d14_5 rfl ?_
      refine G.icmp_ge d14_7 (fun _ => ?_) (fun q => absurd q (not_lt_of_toInt (by rw [hi, hn, ← hd]; simp)))
      refine G.iload d14_44 rfl ?_
      exact G.iret d14_46 [] (fun _ q => nomatch q) ⟨rfl, by rw [← hd]; simpa using hB, hK, rfl⟩
    | cons x rest ih =>
      intro done h i x6 h6 hd hi hB hK
      have hlen : cs.length = done.length + (rest.length + 1) := by rw [← hd]; simp
      have hx : x ∈ cs := by rw [← hd]; simp
      refine G.iload d14_3 rfl ?_
      refine G.iload d14_5 rfl ?_
      refine G.icmp_ge d14_7 (fun q => absurd (lt_of_toInt (by rw [hi, hn, hlen]; omega)) q) (fun _ => ?_)
      refine G.aloadN d14_10 rfl rfl ?_
      refine G.iloadN d14_11 rfl ?_
      refine G.caload d14_12 (A.keep hK (ninS hab nin0)) hi (v := .int x) (nA_get (by rw [← hd]; simp)) ?_
      refine G.istore6 d14_13 ?_ (hl := by rcases h6 with rfl | ⟨w6, rfl⟩ <;> rfl)
      refine G.iload d14_15 rfl ?_
      refine G.sipush 255 d14_17 ?_
      refine G.icmp_le d14_20 (fun _ => ?_) (fun q => absurd q (not_lt_of_toInt (by have := (hlat x hx).2; have e : (255 : Int32).toInt = 255 := (by decide); omega)))
      refine G.aloadN d14_26 rfl rfl ?_
      refine G.iloadN d14_27 rfl ?_
      refine G.iload d14_28 rfl ?_
      refine G.i2b d14_30 ?_
      refine G.bastore d14_31 (List.mem_singleton.mpr rfl) hB hi (by simp) (fun h' W hB' => ?_)
      refine G.iinc1 1 d14_32 ?_
      refine G.iinc3 1 d14_35 ?_
      refine G.iinc5 1 d14_38 ?_
      refine G.goto d14_41 ?_
      refine ih (done ++ [x]) h' (i + 1) _ (Or.inr ⟨_, rfl⟩) (by simp [hd]) (by rw [inc_toInt hi (by omega)]; simp) ?_ (hK.wr W (Or.inl (List.mem_singleton.mpr rfl)))
      have e : (done.map bL ++ List.replicate (x :: rest).length (Value.int 0)).set done.length (.int (nar .byte x.toInt8.toInt32)) = (done ++ [x]).map bL ++ List.replicate rest.length (.int 0) := by
        have := set_mid (done.map bL) (List.replicate rest.length (Value.int 0)) (.int 0) (.int (nar .byte x.toInt8.toInt32))
        rw [List.length_map] at this
        simp only [List.length_cons, List.replicate_succ]
        rw [this, nar8]; simp [bL]
      rw [← e]; exact hB'
  exact loop cs [] h0 0 _ (Or.inl rfl) rfl toInt_0 (by simpa using B) (Keep.refl _ _)
theorem cCMP (l : Launch) (Z : State) (a0 : Array Value) (hw : hwT a0 Z) {EL : List (String × Nat)} {nw : Bool} (hEL : EW Z a0 EL) (h0 : Heap) (a : Addr) (N : Nat) (cs : List Int32) (n : Int32) (hn : n.toInt = (cs.length : Int)) (hm : cs.length ≤ 24) (hlat : Lat cs) (A : Al Z h0 a .char (nA N cs)) :
    Con l Z EL nw (⟨"java/lang/StringUTF16", "compress", "([CII)[B"⟩ : MethodName) jdk_52_method_16_code 6 (some (.array .byte)) [] { frames := 1, cells := 1, slots := 24, locals := 18 } #[.ref a, .int 0, .int n] h0 [] (fun v h S' => (∃ b, v = some (.ref b) ∧ h0.size ≤ b ∧ Al Z h b .byte (cs.map bL) ∧ S' = [b]) ∧ Ext h0 h) := by
  refine Con.enter (a0 := a0) pn_8 hEL [.val (.ref a), .val (.int 0), .val (.int n), .unset, .unset, .unset] (fun m => by first | (simp [entryFrame, mkF, argsToLocals, Value.category]; done) | rfl) ?_
  intro K G
  refine G.iloadN d13_0 rfl ?_
  refine G.newA cs.length 24 d13_1 (hw 14 rfl) hn hm (fun h1 E1 L1 A1 => ?_)
  refine G.astore3 d13_3 ?_
  refine G.aloadN d13_4 rfl rfl ?_
  refine G.iloadN d13_5 rfl ?_
  refine G.aloadN d13_6 rfl rfl ?_
  refine G.iconst 0 d13_7 ?_
  refine G.iloadN d13_8 rfl ?_
  have hne : a ≠ h0.size := Nat.ne_of_lt A.lt
  refine G.callS5 d13_9 (hw 62 rfl) (hw 63 rfl) (hw 60 rfl) (hw 64 rfl) pd_5 (cCMPL K.l Z a0 hw hEL h1 a h0.size N cs n hn (by omega) hlat (A.ext E1) A1 hne) (fun _ q => by simpa using q) ?_
  rintro _ h2 _ ⟨rfl, B2, K2, rfl⟩ -
  refine G.istore4 d13_12 ?_
  refine G.iload d13_14 rfl ?_
  refine G.iloadN d13_16 rfl ?_
  refine G.icmp_eq d13_17 (fun _ => ?_) (fun q => absurd rfl q)
  refine G.aloadN d13_57 rfl rfl ?_
  refine G.aret d13_58 [h0.size] (by simp) ⟨⟨_, rfl, Nat.le_refl _, B2, rfl⟩, ?_⟩
  exact keep_nil_ext ((ext_keep E1 []).trans K2 (fun x q => by cases List.mem_singleton.mp q; exact Or.inr (Nat.le_refl _)))
theorem cCFA (l : Launch) (Z : State) (a0 : Array Value) (hw : hwT a0 Z) {EL : List (String × Nat)} {nw : Bool} (hEL : EW Z a0 EL) (h0 : Heap) (b : Addr) (vs : List Value) (n : Int32) (hn : n.toInt = (vs.length : Int)) (B : Al Z h0 b .byte vs) :
    Con l Z EL nw (⟨"java/lang/StringUTF16", "coderFromArrayLen", "([BI)B"⟩ : MethodName) jdk_52_method_15_code 2 (some .byte) [] rm0 #[.ref b, .int n] h0 [] (fun v h S' => v = some (.int 0) ∧ h = h0 ∧ S' = []) := by
  refine Con.enter (a0 := a0) pn_9 hEL [.val (.ref b), .val (.int n)] (fun m => by first | (simp [entryFrame, mkF, argsToLocals, Value.category]; done) | rfl) ?_
  intro K G
  refine G.iloadN d15_0 rfl ?_
  refine G.aloadN d15_1 rfl rfl ?_
  refine G.alen n d15_2 B hn ?_
  refine G.isub d15_3 ?_
  refine G.bipush 31 d15_4 ?_
  refine G.iushr d15_6 ?_
  refine G.i2b d15_7 ?_
  have e : n - n = 0 := by
    apply Int32.toInt_inj.mp
    have := c_isub n n
    have := rng32 (n - n)
    have e0 : (0 : Int32).toInt = 0 := by decide
    omega
  exact G.nret d15_8 (Or.inr (Or.inl rfl)) (z' := 0) (by rw [e]; decide) [] (fun _ q => nomatch q) ⟨rfl, rfl, rfl⟩
abbrev rmSI4 : Room := { frames := 2, cells := 1, slots := 24, locals := 40 }
abbrev rmSI : Room := { frames := 3, cells := 1, slots := 24, locals := 60 }
theorem cSI4 (l : Launch) (Z : State) (a0 : Array Value) (hw : hwT a0 Z) {EL : List (String × Nat)} {nw : Bool} (hEL : EW Z a0 EL) (h0 : Heap) (hC : CS Z) (a b : Addr) (N : Nat) (cs : List Int32) (n : Int32) (hn : n.toInt = (cs.length : Int)) (hm : cs.length ≤ 24) (h1 : 0 < cs.length) (hlat : Lat cs) (E : Exa Z h0 a SN) (D : ∀ {O fn d : String} {ty : FieldType}, Laid Z a0 SN O fn d → parseFieldDescriptor d = some ty → Fld Z h0 a O fn d (defaultValue ty)) (A : Al Z h0 b .char (nA N cs)) :
    Con l Z EL nw (⟨"java/lang/String", "<init>", "([CIILjava/lang/Void;)V"⟩ : MethodName) jdk_42_method_149_code 6 (none) [] rmSI4 #[.ref a, .ref b, .int 0, .int n, .null] h0 [a] (fun v h S' => v = none ∧ (∃ vb, h0.size ≤ vb ∧ StrB Z h a 0 vb (cs.map bL)) ∧ Keep h0 h [a] ∧ S' = []) := by
  obtain ⟨cc, hC, hcc⟩ := hC
  refine Con.enter (a0 := a0) pn_10 hEL [.val (.ref a), .val (.ref b), .val (.int 0), .val (.int n), .val (.null), .unset] (fun m => by first | (simp [entryFrame, mkF, argsToLocals, Value.category]; done) | rfl) ?_
  intro K G
  have F1 := D (Or.inr (hw 16 rfl)) (ty := .byte) (by decide)
  have F2 := D (Or.inr (hw 15 rfl)) (ty := .array .byte) (by decide)
  refine G.aloadN d11_0 rfl rfl ?_
  refine G.initO d11_1 (hw 55 rfl) (hw 56 rfl) (hw 57 rfl) ?_
  refine G.iloadN d11_4 rfl ?_
  refine G.if_ne d11_5 (fun _ => ?_) (fun q => absurd (congrArg Int32.toInt q) (by rw [hn, toInt_0]; omega))
  refine G.getS d11_27 (hw 29 rfl) hC ?_
  refine G.if_eq d11_30 (fun q => absurd q hcc) (fun _ => ?_)
  refine G.aloadN d11_33 rfl rfl ?_
  refine G.iloadN d11_34 rfl ?_
  refine G.iloadN d11_35 rfl ?_
  refine G.callS3 d11_36 (hw 58 rfl) (hw 59 rfl) (hw 60 rfl) (hw 61 rfl) pd_6 (cCMP K.l Z a0 hw hEL h0 b N cs n hn hm hlat A) (fun _ q => nomatch q) ?_
  rintro _ h2 _ ⟨⟨vb, rfl, hvb, B, rfl⟩, E2⟩ hs2
  refine G.astore5 d11_39 ?_
  refine G.aloadN d11_41 rfl rfl ?_
  refine G.aload d11_42 rfl rfl ?_
  refine G.iloadN d11_44 rfl ?_
  refine G.callS2 d11_45 (hw 65 rfl) (hw 66 rfl) (hw 60 rfl) (hw 67 rfl) pd_7 (cCFA K.l Z a0 hw hEL h2 vb (cs.map bL) n (by simpa using hn) B) (fun _ q => nomatch q) ?_
  rintro _ _ _ ⟨rfl, rfl, rfl⟩ -
  have hne : vb ≠ a := fun q => Nat.lt_irrefl _ (Nat.lt_of_lt_of_le E.lt (q ▸ hvb))
  refine G.putF d11_48 (hw 30 rfl) (F1.ext E2) (E.ext E2) (by simp) (Or.inr ⟨(hw 16 rfl), rfl, rfl⟩) (hw 13 rfl) (ty := .byte) (by decide) rfl rfl (fun h3 W3 F1 E => ?_)
  refine G.aloadN d11_51 rfl rfl ?_
  refine G.aload d11_52 rfl rfl ?_
  have F2' := Fld.oth (F2.ext E2) W3 (Or.inr (hw 15 rfl)) (Or.inr (hw 16 rfl)) (by decide) (by decide) (by decide)
  refine G.putF d11_54 (hw 31 rfl) F2' E (by simp) (Or.inr ⟨(hw 15 rfl), rfl, rfl⟩) (hw 13 rfl) (ty := (.array .byte)) (by decide) rfl rfl (fun h4 W4 F2 E => ?_)
  replace F1 := Fld.oth F1 W4 (Or.inr (hw 16 rfl)) (Or.inr (hw 15 rfl)) (by decide) (by decide) (by decide)
  refine G.ret0 d11_57 [] (fun _ q => nomatch q) ⟨rfl, ⟨vb, hvb, E, F1, F2, (B.other W3 hne).other W4 hne⟩, ?_, rfl⟩
  exact (((ext_keep E2 [a]).wr W3 (Or.inl (List.mem_singleton.mpr rfl))).wr W4 (Or.inl (List.mem_singleton.mpr rfl)))
theorem cSI (l : Launch) (Z : State) (a0 : Array Value) (hw : hwT a0 Z) {EL : List (String × Nat)} {nw : Bool} (hEL : EW Z a0 EL) (h0 : Heap) (hC : CS Z) (a b : Addr) (cs : List Int32) (hm : cs.length ≤ 24) (h1 : 0 < cs.length) (hlat : Lat cs) (E : Exa Z h0 a SN) (D : ∀ {O fn d : String} {ty : FieldType}, Laid Z a0 SN O fn d → parseFieldDescriptor d = some ty → Fld Z h0 a O fn d (defaultValue ty)) (A : Al Z h0 b .char (nA cs.length cs)) :
    Con l Z EL nw (⟨"java/lang/String", "<init>", "([C)V"⟩ : MethodName) jdk_42_method_3_code 2 (none) [] rmSI #[.ref a, .ref b] h0 [a] (fun v h S' => v = none ∧ (∃ vb, h0.size ≤ vb ∧ StrB Z h a 0 vb (cs.map bL)) ∧ Keep h0 h [a] ∧ S' = []) := by
  refine Con.enter (a0 := a0) pn_11 hEL [.val (.ref a), .val (.ref b)] (fun m => by first | (simp [entryFrame, mkF, argsToLocals, Value.category]; done) | rfl) ?_
  intro K G
  refine G.aloadN d10_0 rfl rfl ?_
  refine G.aloadN d10_1 rfl rfl ?_
  refine G.iconst 0 d10_2 ?_
  refine G.aloadN d10_3 rfl rfl ?_
  have hn : (Int32.ofNat cs.length).toInt = (cs.length : Int) := len_toInt (by omega)
  refine G.alen (Int32.ofNat cs.length) d10_4 A (by rw [nA_len (Nat.le_refl _)]; exact hn) ?_
  refine G.aconstNull d10_5 ?_
  refine G.callI4 d10_6 (hw 51 rfl) (hw 52 rfl) (hw 12 rfl) (hw 54 rfl) pd_8 (cSI4 K.l Z a0 hw hEL h0 hC a b cs.length cs _ hn hm h1 hlat E D A) (fun _ q => q) ?_
  rintro _ h2 _ ⟨rfl, B2, K2, rfl⟩ -
  exact G.ret0 d10_9 [] (fun _ q => nomatch q) ⟨rfl, B2, K2, rfl⟩
theorem or_all : ∀ n, n < 32 → ∀ m, m < 32 → ¬ (Int32.ofNat n ||| 0 ||| Int32.ofNat m) < 0 := by decide +kernel
theorem cPFS (l : Launch) (Z : State) (a0 : Array Value) (hw : hwT a0 Z) {EL : List (String × Nat)} {nw : Bool} (hEL : EW Z a0 EL) (h0 : Heap) (c n : Int32) (cn nn : Nat) (hc : c.toInt = (cn : Int)) (hn : n.toInt = (nn : Int)) (h1 : cn ≤ nn) (h2 : nn < 32) (v : Value) (hv : v.isRef = true) : Con l Z EL nw (⟨"jdk/internal/util/Preconditions", "checkFromIndexSize", "(IIILjava/util/function/BiFunction;)I"⟩ : MethodName) jdk_41_method_13_code 4 (some .int) [] rm0 #[.int 0, .int c, .int n, v] h0 [] (fun v h S' => v = some (.int 0) ∧ h = h0 ∧ S' = []) := by
  have hor : ¬ (n ||| 0 ||| c) < 0 := by
    have := or_all nn h2 cn (by omega)
    rwa [show Int32.ofNat nn = n from Int32.toInt_inj.mp (by rw [len_toInt (by omega), hn]), show Int32.ofNat cn = c from Int32.toInt_inj.mp (by rw [len_toInt (by omega), hc])] at this
  rcases ref_cases hv with rfl | ⟨m, rfl⟩
  · refine Con.enter (a0 := a0) pn_12 hEL [.val (.int 0), .val (.int c), .val (.int n), .val (.null)] (fun m => by first | (simp [entryFrame, mkF, argsToLocals, Value.category]; done) | rfl) ?_
    intro K G
    refine G.iloadN d26_0 rfl ?_
    refine G.iloadN d26_1 rfl ?_
    refine G.ior d26_2 ?_
    refine G.iloadN d26_3 rfl ?_
    refine G.ior d26_4 ?_
    refine G.if_lt d26_5 (fun q => absurd q hor) (fun _ => ?_)
    refine G.iloadN d26_8 rfl ?_
    refine G.iloadN d26_9 rfl ?_
    refine G.iloadN d26_10 rfl ?_
    refine G.isub d26_11 ?_
    refine G.icmp_le d26_12 (fun _ => ?_) (fun q => absurd q (not_lt_of_toInt (by rw [sub0, hn, hc]; omega)))
    refine G.iloadN d26_23 rfl ?_
    exact G.iret d26_24 [] (fun _ q => nomatch q) ⟨rfl, rfl, rfl⟩
  · refine Con.enter (a0 := a0) pn_12 hEL [.val (.int 0), .val (.int c), .val (.int n), .val (.ref m)] (fun m => by first | (simp [entryFrame, mkF, argsToLocals, Value.category]; done) | rfl) ?_
    intro K G
    refine G.iloadN d26_0 rfl ?_
    refine G.iloadN d26_1 rfl ?_
    refine G.ior d26_2 ?_
    refine G.iloadN d26_3 rfl ?_
    refine G.ior d26_4 ?_
    refine G.if_lt d26_5 (fun q => absurd q hor) (fun _ => ?_)
    refine G.iloadN d26_8 rfl ?_
    refine G.iloadN d26_9 rfl ?_
    refine G.iloadN d26_10 rfl ?_
    refine G.isub d26_11 ?_
    refine G.icmp_le d26_12 (fun _ => ?_) (fun q => absurd q (not_lt_of_toInt (by rw [sub0, hn, hc]; omega)))
    refine G.iloadN d26_23 rfl ?_
    exact G.iret d26_24 [] (fun _ q => nomatch q) ⟨rfl, rfl, rfl⟩
theorem cPFT (l : Launch) (Z : State) (a0 : Array Value) (hw : hwT a0 Z) {EL : List (String × Nat)} {nw : Bool} (hEL : EW Z a0 EL) (h0 : Heap) (b e n : Int32) (h1 : 0 ≤ b.toInt) (h2 : b.toInt ≤ e.toInt) (h3 : e.toInt ≤ n.toInt) (v : Value) (hv : v.isRef = true) : Con l Z EL nw (⟨"jdk/internal/util/Preconditions", "checkFromToIndex", "(IIILjava/util/function/BiFunction;)I"⟩ : MethodName) jdk_41_method_12_code 4 (some .int) [] rm0 #[.int b, .int e, .int n, v] h0 [] (fun v h S' => v = some (.int b) ∧ h = h0 ∧ S' = []) := by
  rcases ref_cases hv with rfl | ⟨m, rfl⟩
  · refine Con.enter (a0 := a0) pn_13 hEL [.val (.int b), .val (.int e), .val (.int n), .val (.null)] (fun m => by first | (simp [entryFrame, mkF, argsToLocals, Value.category]; done) | rfl) ?_
    intro K G
    refine G.iloadN d24_0 rfl ?_
    refine G.if_lt d24_1 (fun q => absurd q (not_lt_of_toInt (by rw [toInt_0]; exact h1))) (fun _ => ?_)
    refine G.iloadN d24_4 rfl ?_
    refine G.iloadN d24_5 rfl ?_
    refine G.icmp_gt d24_6 (fun q => absurd q (not_lt_of_toInt h2)) (fun _ => ?_)
    refine G.iloadN d24_9 rfl ?_
    refine G.iloadN d24_10 rfl ?_
    refine G.icmp_le d24_11 (fun _ => ?_) (fun q => absurd q (not_lt_of_toInt h3))
    refine G.iloadN d24_22 rfl ?_
    exact G.iret d24_23 [] (fun _ q => nomatch q) ⟨rfl, rfl, rfl⟩
  · refine Con.enter (a0 := a0) pn_13 hEL [.val (.int b), .val (.int e), .val (.int n), .val (.ref m)] (fun m => by first | (simp [entryFrame, mkF, argsToLocals, Value.category]; done) | rfl) ?_
    intro K G
    refine G.iloadN d24_0 rfl ?_
    refine G.if_lt d24_1 (fun q => absurd q (not_lt_of_toInt (by rw [toInt_0]; exact h1))) (fun _ => ?_)
    refine G.iloadN d24_4 rfl ?_
    refine G.iloadN d24_5 rfl ?_
    refine G.icmp_gt d24_6 (fun q => absurd q (not_lt_of_toInt h2)) (fun _ => ?_)
    refine G.iloadN d24_9 rfl ?_
    refine G.iloadN d24_10 rfl ?_
    refine G.icmp_le d24_11 (fun _ => ?_) (fun q => absurd q (not_lt_of_toInt h3))
    refine G.iloadN d24_22 rfl ?_
    exact G.iret d24_23 [] (fun _ q => nomatch q) ⟨rfl, rfl, rfl⟩
abbrev rmCBO : Room := { frames := 1, cells := 0, slots := 0, locals := 15 }
theorem cCBO (l : Launch) (Z : State) (a0 : Array Value) (hw : hwT a0 Z) {EL : List (String × Nat)} {nw : Bool} (hEL : EW Z a0 EL) (h0 : Heap) (hF : SF Z) (c n : Int32) (cn nn : Nat) (hc : c.toInt = (cn : Int)) (hn : n.toInt = (nn : Int)) (h1 : cn ≤ nn) (h2 : nn < 32) : Con l Z EL nw (⟨"java/lang/String", "checkBoundsOffCount", "(III)I"⟩ : MethodName) jdk_42_method_157_code 3 (some .int) [] rmCBO #[.int 0, .int c, .int n] h0 [] (fun v h S' => v = some (.int 0) ∧ h = h0 ∧ S' = []) := by
  obtain ⟨v, hF, hv⟩ := hF
  refine Con.enter (a0 := a0) pn_14 hEL [.val (.int 0), .val (.int c), .val (.int n)] (fun m => by first | (simp [entryFrame, mkF, argsToLocals, Value.category]; done) | rfl) ?_
  intro K G
  refine G.iloadN d25_0 rfl ?_
  refine G.iloadN d25_1 rfl ?_
  refine G.iloadN d25_2 rfl ?_
  refine G.getS d25_3 (hw 39 rfl) hF ?_
  refine G.callS4 d25_6 (hw 121 rfl) (hw 122 rfl) (hw 40 rfl) (hw 123 rfl) pd_9 (cPFS K.l Z a0 hw hEL h0 c n cn nn hc hn h1 h2 v hv) (fun _ q => nomatch q) ?_
  rintro _ _ _ ⟨rfl, rfl, rfl⟩ -
  exact G.iret d25_9 [] (fun _ q => nomatch q) ⟨rfl, rfl, rfl⟩
theorem cCBE (l : Launch) (Z : State) (a0 : Array Value) (hw : hwT a0 Z) {EL : List (String × Nat)} {nw : Bool} (hEL : EW Z a0 EL) (h0 : Heap) (hF : SF Z) (b e n : Int32) (h1 : 0 ≤ b.toInt) (h2 : b.toInt ≤ e.toInt) (h3 : e.toInt ≤ n.toInt) : Con l Z EL nw (⟨"java/lang/String", "checkBoundsBeginEnd", "(III)V"⟩ : MethodName) jdk_42_method_158_code 3 (none) [] rmCBO #[.int b, .int e, .int n] h0 [] (fun v h S' => v = none ∧ h = h0 ∧ S' = []) := by
  obtain ⟨v, hF, hv⟩ := hF
  refine Con.enter (a0 := a0) pn_15 hEL [.val (.int b), .val (.int e), .val (.int n)] (fun m => by first | (simp [entryFrame, mkF, argsToLocals, Value.category]; done) | rfl) ?_
  intro K G
  refine G.iloadN d23_0 rfl ?_
  refine G.iloadN d23_1 rfl ?_
  refine G.iloadN d23_2 rfl ?_
  refine G.getS d23_3 (hw 39 rfl) hF ?_
  refine G.callS4 d23_6 (hw 115 rfl) (hw 116 rfl) (hw 40 rfl) (hw 117 rfl) pd_9 (cPFT K.l Z a0 hw hEL h0 b e n h1 h2 h3 v hv) (fun _ q => nomatch q) ?_
  rintro _ _ _ ⟨rfl, rfl, rfl⟩ -
  refine G.pop d23_9 ?_
  exact G.ret0 d23_10 [] (fun _ q => nomatch q) ⟨rfl, rfl, rfl⟩
abbrev rmRC : Room := { frames := 2, cells := 0, slots := 0, locals := 29 }
theorem cRC (l : Launch) (Z : State) (a0 : Array Value) (hw : hwT a0 Z) {EL : List (String × Nat)} {nw : Bool} (hEL : EW Z a0 EL) (h0 : Heap) (hF : SF Z) (b : Addr) (vs : List Value) (n : Int32) (cn : Nat) (hn : n.toInt = (cn : Int)) (h1 : cn ≤ vs.length) (h2 : vs.length < 32) (A : Al Z h0 b .char vs) : Con l Z EL nw (⟨"java/lang/String", "rangeCheck", "([CII)Ljava/lang/Void;"⟩ : MethodName) jdk_42_method_5_code 3 (some (.object "java/lang/Void")) [] rmRC #[.ref b, .int 0, .int n] h0 [] (fun v h S' => v = some .null ∧ h = h0 ∧ S' = []) := by
  refine Con.enter (a0 := a0) pn_16 hEL [.val (.ref b), .val (.int 0), .val (.int n)] (fun m => by first | (simp [entryFrame, mkF, argsToLocals, Value.category]; done) | rfl) ?_
  intro K G
  refine G.iloadN d34_0 rfl ?_
  refine G.iloadN d34_1 rfl ?_
  refine G.aloadN d34_2 rfl rfl ?_
  refine G.alen (Int32.ofNat vs.length) d34_3 A (len_toInt A.len) ?_
  refine G.callS3 d34_4 (hw 118 rfl) (hw 119 rfl) (hw 12 rfl) (hw 120 rfl) pd_10 (cCBO K.l Z a0 hw hEL h0 hF n (Int32.ofNat vs.length) cn vs.length hn (len_toInt A.len) h1 h2) (fun _ q => nomatch q) ?_
  rintro _ _ _ ⟨rfl, rfl, rfl⟩ -
  refine G.pop d34_7 ?_
  refine G.aconstNull d34_8 ?_
  exact G.aret d34_9 [] (fun _ q => nomatch q) ⟨rfl, rfl, rfl⟩
abbrev rmCII : Room := { frames := 3, cells := 1, slots := 24, locals := 60 }
/-- new String(char[], 0, n) -/
theorem cCII (l : Launch) (Z : State) (a0 : Array Value) (hw : hwT a0 Z) {EL : List (String × Nat)} {nw : Bool} (hEL : EW Z a0 EL) (h0 : Heap) (hC : CS Z) (hF : SF Z) (a b : Addr) (N : Nat) (cs : List Int32) (n : Int32) (hn : n.toInt = (cs.length : Int)) (hN : cs.length ≤ N) (hm : N ≤ 24) (h1 : 0 < cs.length) (hlat : Lat cs) (E : Exa Z h0 a SN) (D : ∀ {O fn d : String} {ty : FieldType}, Laid Z a0 SN O fn d → parseFieldDescriptor d = some ty → Fld Z h0 a O fn d (defaultValue ty)) (A : Al Z h0 b .char (nA N cs)) :
    Con l Z EL nw (⟨"java/lang/String", "<init>", "([CII)V"⟩ : MethodName) jdk_42_method_4_code 4 (none) [] rmCII #[.ref a, .ref b, .int 0, .int n] h0 [a] (fun v h S' => v = none ∧ (∃ vb, h0.size ≤ vb ∧ StrB Z h a 0 vb (cs.map bL)) ∧ Keep h0 h [a] ∧ S' = []) := by
  refine Con.enter (a0 := a0) pn_17 hEL [.val (.ref a), .val (.ref b), .val (.int 0), .val (.int n)] (fun m => by first | (simp [entryFrame, mkF, argsToLocals, Value.category]; done) | rfl) ?_
  intro K G
  refine G.aloadN d33_0 rfl rfl ?_
  refine G.aloadN d33_1 rfl rfl ?_
  refine G.iloadN d33_2 rfl ?_
  refine G.iloadN d33_3 rfl ?_
  refine G.aloadN d33_4 rfl rfl ?_
  refine G.iloadN d33_5 rfl ?_
  refine G.iloadN d33_6 rfl ?_
  refine G.callS3 d33_7 (hw 150 rfl) (hw 151 rfl) (hw 12 rfl) (hw 152 rfl) pd_11 (cRC K.l Z a0 hw hEL h0 hF b (nA N cs) n cs.length hn (by rw [nA_len hN]; exact hN) (by rw [nA_len hN]; omega) A) (fun _ q => nomatch q) ?_
  rintro _ h0 _ ⟨rfl, rfl, rfl⟩ -
  refine G.callI4 d33_10 (hw 51 rfl) (hw 52 rfl) (hw 12 rfl) (hw 54 rfl) pd_8 (cSI4 K.l Z a0 hw hEL h0 hC a b N cs n hn (by omega) h1 hlat E D A) (fun _ q => by simpa using q) ?_
  rintro _ h2 _ ⟨rfl, B2, K2, rfl⟩ -
  exact G.ret0 d33_13 [] (fun _ q => nomatch q) ⟨rfl, B2, K2, rfl⟩
/-- the bytes of a String into the head of a char[] -/
theorem cINF (l : Launch) (Z : State) (a0 : Array Value) (hw : hwT a0 Z) {EL : List (String × Nat)} {nw : Bool} (hEL : EW Z a0 EL) (h0 : Heap) (a b : Addr) (N : Nat) (cs : List Int32) (n : Int32) (hn : n.toInt = (cs.length : Int)) (hN : cs.length ≤ N) (hb : N < 2147483648) (hlat : Lat cs) (A : Al Z h0 a .byte (cs.map bL)) (B : Al Z h0 b .char (nA N [])) (hab : a ≠ b) :
    Con l Z EL nw (⟨"java/lang/StringLatin1", "inflate", "([BI[CII)V"⟩ : MethodName) jdk_43_method_49_code 6 (none) [] rm0 #[.ref a, .int 0, .ref b, .int 0, .int n] h0 [b] (fun v h S' => v = none ∧ Al Z h b .char (nA N cs) ∧ Keep h0 h [b] ∧ S' = []) := by
  refine Con.enter (a0 := a0) pn_18 hEL [.val (.ref a), .val (.int 0), .val (.ref b), .val (.int 0), .val (.int n), .unset] (fun m => by first | (simp [entryFrame, mkF, argsToLocals, Value.category]; done) | rfl) ?_
  intro K G
  refine G.iconst 0 d28_0 ?_
  refine G.istore5 d28_1 ?_
  have loop : ∀ (rest done : List Int32) (h : Heap) (i : Int32), done ++ rest = cs → i.toInt = (done.length : Int) → Al Z h b .char (nA N done) → Keep h0 h [b] →
      Go Z EL nw rm0 (fun v h S' => v = none ∧ Al Z h b .char (nA N cs) ∧ Keep h0 h [b] ∧ S' = []) K h [b] 0 0 3 [.val (.ref a), .val (.int i), .val (.ref b), .val (.int i), .val (.int n), .val (.int i)] [] := by
    intro rest
    induction rest with
    | nil =>
      intro done h i hd hi hB hK
      refine G.iload d28_3 rfl ?_
      refine G.iload d28_5 rfl ?_
      refine G.icmp_ge d28_7 (fun _ => ?_) (fun q => absurd q (not_lt_of_toInt (by rw [hi, hn, ← hd]; simp)))
      exact G.ret0 d28_33 [] (fun _ q => nomatch q) ⟨rfl, by rw [← hd]; simpa using hB, hK, rfl⟩
    | cons x rest ih =>
      intro done h i hd hi hB hK
      have hlen : cs.length = done.length + (rest.length + 1) := by rw [← hd]; simp
      have hx : x ∈ cs := by rw [← hd]; simp
      have r := hlat x hx
      refine G.iload d28_3 rfl ?_
      refine G.iload d28_5 rfl ?_
      refine G.icmp_ge d28_7 (fun q => absurd (lt_of_toInt (by rw [hi, hn, hlen]; omega)) q) (fun _ => ?_)
      refine G.aloadN d28_10 rfl rfl ?_
      refine G.iloadN d28_11 rfl ?_
      refine G.iinc3 1 d28_12 ?_
      refine G.aloadN d28_15 rfl rfl ?_
      refine G.iloadN d28_16 rfl ?_
      refine G.iinc1 1 d28_17 ?_
      refine G.baload d28_20 (A.keep hK (ninS hab nin0)) hi (v := bL x) (by rw [← hd]; simp) ?_
      refine G.sipush 255 d28_21 ?_
      refine G.iand (x := x.toInt8.toInt32) d28_24 ?_
      rw [byte_back r.1 r.2]
      refine G.i2c d28_25 ?_
      rw [show x.toUInt32.toUInt16.toUInt32.toInt32 = x from nar_char r.1 (by have := r.2; omega)]
      refine G.castA d28_26 (List.mem_singleton.mpr rfl) hB hi (by omega) ⟨r.1, by have := r.2; omega⟩ (fun h' W hB' => ?_)
      refine G.iinc5 1 d28_27 ?_
      refine G.goto d28_30 ?_
      exact ih (done ++ [x]) h' (i + 1) (by simp [hd]) (by rw [inc_toInt hi (by omega)]; simp) hB' (hK.wr W (Or.inl (List.mem_singleton.mpr rfl)))
  exact loop cs [] h0 0 rfl toInt_0 B (Keep.refl _ _)
abbrev rmLGC : Room := { frames := 1, cells := 0, slots := 0, locals := 17 }
theorem cLGC (l : Launch) (Z : State) (a0 : Array Value) (hw : hwT a0 Z) {EL : List (String × Nat)} {nw : Bool} (hEL : EW Z a0 EL) (h0 : Heap) (a b : Addr) (N : Nat) (cs : List Int32) (n : Int32) (hn : n.toInt = (cs.length : Int)) (hN : cs.length ≤ N) (hb : N < 2147483648) (hlat : Lat cs) (A : Al Z h0 a .byte (cs.map bL)) (B : Al Z h0 b .char (nA N [])) (hab : a ≠ b) :
    Con l Z EL nw (⟨"java/lang/StringLatin1", "getChars", "([BII[CI)V"⟩ : MethodName) jdk_43_method_11_code 5 (none) [] rmLGC #[.ref a, .int 0, .int n, .ref b, .int 0] h0 [b] (fun v h S' => v = none ∧ Al Z h b .char (nA N cs) ∧ Keep h0 h [b] ∧ S' = []) := by
  refine Con.enter (a0 := a0) pn_19 hEL [.val (.ref a), .val (.int 0), .val (.int n), .val (.ref b), .val (.int 0)] (fun m => by first | (simp [entryFrame, mkF, argsToLocals, Value.category]; done) | rfl) ?_
  intro K G
  refine G.aloadN d27_0 rfl rfl ?_
  refine G.iloadN d27_1 rfl ?_
  refine G.aloadN d27_2 rfl rfl ?_
  refine G.iload d27_3 rfl ?_
  refine G.iloadN d27_5 rfl ?_
  refine G.iloadN d27_6 rfl ?_
  refine G.isub d27_7 ?_
  refine G.callS5 d27_8 (hw 127 rfl) (hw 128 rfl) (hw 34 rfl) (hw 129 rfl) pd_12 (cINF K.l Z a0 hw hEL h0 a b N cs (n - 0) (by rw [sub0]; exact hn) hN hb hlat A B hab) (fun _ q => q) ?_
  rintro _ h2 _ ⟨rfl, B2, K2, rfl⟩ -
  exact G.ret0 d27_11 [] (fun _ q => nomatch q) ⟨rfl, B2, K2, rfl⟩
abbrev rmGCH : Room := { frames := 2, cells := 0, slots := 0, locals := 33 }
theorem cGCH (l : Launch) (Z : State) (a0 : Array Value) (hw : hwT a0 Z) {EL : List (String × Nat)} {nw : Bool} (hEL : EW Z a0 EL) (h0 : Heap) (hC : CS Z) (hF : SF Z) (s a b : Addr) (N : Nat) (cs : List Int32) (n : Int32) (hn : n.toInt = (cs.length : Int)) (hN : cs.length ≤ N) (hb : N < 32) (hlat : Lat cs) (A : StrB Z h0 s 0 a (cs.map bL)) (B : Al Z h0 b .char (nA N [])) (hab : a ≠ b) :
    Con l Z EL nw (⟨"java/lang/String", "getChars", "(II[CI)V"⟩ : MethodName) jdk_42_method_61_code 5 (none) [] rmGCH #[.ref s, .int 0, .int n, .ref b, .int 0] h0 [b] (fun v h S' => v = none ∧ Al Z h b .char (nA N cs) ∧ Keep h0 h [b] ∧ S' = []) := by
  refine Con.enter (a0 := a0) pn_20 hEL [.val (.ref s), .val (.int 0), .val (.int n), .val (.ref b), .val (.int 0)] (fun m => by first | (simp [entryFrame, mkF, argsToLocals, Value.category]; done) | rfl) ?_
  intro K G
  refine G.iloadN d22_0 rfl ?_
  refine G.iloadN d22_1 rfl ?_
  refine G.aloadN d22_2 rfl rfl ?_
  refine G.callV0 d22_3 (hw 111 rfl) (hw 91 rfl) (hw 92 rfl) (hw 76 rfl) (hw 80 rfl) (hw 12 rfl) pd_13 A.1 (cLEN8 K.l Z a0 hw hEL h0 hC s a _ A) (fun _ q => nomatch q) ?_
  rintro _ h0 _ ⟨⟨m, rfl, hm⟩, rfl, rfl⟩ -
  rw [List.length_map] at hm
  refine G.callS3 d22_6 (hw 112 rfl) (hw 113 rfl) (hw 12 rfl) (hw 114 rfl) pd_14 (cCBE K.l Z a0 hw hEL h0 hF 0 n m (by decide) (by rw [toInt_0, hn]; omega) (by rw [hm, hn]; omega)) (fun _ q => nomatch q) ?_
  rintro _ h0 _ ⟨rfl, rfl, rfl⟩ -
  refine G.iload d22_9 rfl ?_
  refine G.iloadN d22_11 rfl ?_
  refine G.iloadN d22_12 rfl ?_
  refine G.isub d22_13 ?_
  refine G.aloadN d22_14 rfl rfl ?_
  have hNl : (nA N ([] : List Int32)).length = N := nA_len (Nat.zero_le _)
  refine G.alen (Int32.ofNat N) d22_15 B (by rw [hNl]; exact len_toInt (by omega)) ?_
  refine G.callS3 d22_16 (hw 118 rfl) (hw 119 rfl) (hw 12 rfl) (hw 120 rfl) pd_10 (cCBO K.l Z a0 hw hEL h0 hF (n - 0) (Int32.ofNat N) cs.length N (by rw [sub0]; exact hn) (len_toInt (by omega)) hN hb) (fun _ q => nomatch q) ?_
  rintro _ h0 _ ⟨rfl, rfl, rfl⟩ -
  refine G.pop d22_19 ?_
  refine G.aloadN d22_20 rfl rfl ?_
  refine G.callV0 d22_21 (hw 24 rfl) (hw 25 rfl) (hw 27 rfl) (hw 26 rfl) (hw 28 rfl) (hw 12 rfl) pd_2 A.1 (cISL K.l Z a0 hw hEL h0 hC s a 0 _ A) (fun _ q => nomatch q) ?_
  rintro _ h0 _ ⟨rfl, rfl, rfl⟩ -
  refine G.if_eq d22_24 (fun q => absurd q (by decide)) (fun _ => ?_)
  refine G.aloadN d22_27 rfl rfl ?_
  refine G.getF d22_28 (hw 31 rfl) A.2.2.1 ?_
  refine G.iloadN d22_31 rfl ?_
  refine G.iloadN d22_32 rfl ?_
  refine G.aloadN d22_33 rfl rfl ?_
  refine G.iload d22_34 rfl ?_
  refine G.callS5 d22_36 (hw 124 rfl) (hw 125 rfl) (hw 34 rfl) (hw 126 rfl) pd_15 (cLGC K.l Z a0 hw hEL h0 a b N cs n hn hN (by omega) hlat A.2.2.2 B hab) (fun _ q => by simpa using q) ?_
  rintro _ h2 _ ⟨rfl, B2, K2, rfl⟩ -
  refine G.goto d22_39 ?_
  exact G.ret0 d22_54 [] (fun _ q => nomatch q) ⟨rfl, B2, K2, rfl⟩
theorem cCKL (l : Launch) (Z : State) (a0 : Array Value) (hw : hwT a0 Z) {EL : List (String × Nat)} {nw : Bool} (hEL : EW Z a0 EL) (h0 : Heap) (b n : Int32) (hn : b.toInt ≤ n.toInt) : Con l Z EL nw (⟨"java/util/Arrays", "checkLength", "(II)V"⟩ : MethodName) jdk_65_method_131_code 2 (none) [] rm0 #[.int b, .int n] h0 [] (fun v h S' => v = none ∧ h = h0 ∧ S' = []) := by
  refine Con.enter (a0 := a0) pn_21 hEL [.val (.int b), .val (.int n)] (fun m => by first | (simp [entryFrame, mkF, argsToLocals, Value.category]; done) | rfl) ?_
  intro K G
  refine G.iloadN d45_0 rfl ?_
  refine G.iloadN d45_1 rfl ?_
  refine G.icmp_ge d45_2 (fun _ => ?_) (fun q => absurd q (not_lt_of_toInt hn))
  exact G.ret0 d45_37 [] (fun _ q => nomatch q) ⟨rfl, rfl, rfl⟩
theorem cMIN (l : Launch) (Z : State) (a0 : Array Value) (hw : hwT a0 Z) {EL : List (String × Nat)} {nw : Bool} (hEL : EW Z a0 EL) (h0 : Heap) (x y : Int32) (hxy : y.toInt ≤ x.toInt) : Con l Z EL nw (⟨"java/lang/Math", "min", "(II)I"⟩ : MethodName) jdk_29_method_69_code 2 (some .int) [] rm0 #[.int x, .int y] h0 [] (fun v h S' => (∃ m : Int32, v = some (.int m) ∧ m.toInt = y.toInt) ∧ h = h0 ∧ S' = []) := by
  refine Con.enter (a0 := a0) pn_22 hEL [.val (.int x), .val (.int y)] (fun m => by first | (simp [entryFrame, mkF, argsToLocals, Value.category]; done) | rfl) ?_
  intro K G
  refine G.iloadN d46_0 rfl ?_
  refine G.iloadN d46_1 rfl ?_
  refine G.icmp_gt d46_2 (fun _ => ?_) (fun q => ?_)
  · refine G.iloadN d46_9 rfl ?_
    exact G.iret d46_10 [] (fun _ q => nomatch q) ⟨⟨_, rfl, rfl⟩, rfl, rfl⟩
  · rw [Int32.lt_iff_toInt_lt] at q
    refine G.iloadN d46_5 rfl ?_
    refine G.goto d46_6 ?_
    exact G.iret d46_10 [] (fun _ q => nomatch q) ⟨⟨_, rfl, by omega⟩, rfl, rfl⟩
abbrev rmCORB : Room := { frames := 1, cells := 1, slots := 24, locals := 18 }
theorem cCORB (l : Launch) (Z : State) (a0 : Array Value) (hw : hwT a0 Z) {EL : List (String × Nat)} {nw : Bool} (hEL : EW Z a0 EL) (h0 : Heap) (b : Addr) (vs : List Value) (x y : Int32) (i m : Nat) (hx : x.toInt = (i : Int)) (hy : y.toInt = ((i + m : Nat) : Int)) (hm : m ≤ 24) (hv : i + m ≤ vs.length) (B : Al Z h0 b .byte vs) :
    Con l Z EL nw (⟨"java/util/Arrays", "copyOfRangeByte", "([BII)[B"⟩ : MethodName) jdk_65_method_133_code 5 (some (.array .byte)) [] rmCORB #[.ref b, .int x, .int y] h0 [] (fun v h S' => (∃ c, v = some (.ref c) ∧ h0.size ≤ c ∧ Al Z h c .byte ((vs.drop i).take m)) ∧ Ext h0 h ∧ S' = []) := by
  have hBl := B.len
  have e : (y - x).toInt = (m : Int) := by
    have a1 := c_isub y x
    have a2 := rng32 (y - x)
    omega
  refine Con.enter (a0 := a0) pn_23 hEL [.val (.ref b), .val (.int x), .val (.int y), .unset, .unset] (fun m => by first | (simp [entryFrame, mkF, argsToLocals, Value.category]; done) | rfl) ?_
  intro K G
  refine G.iloadN d44_0 rfl ?_
  refine G.iloadN d44_1 rfl ?_
  refine G.callS2 d44_2 (hw 199 rfl) (hw 200 rfl) (hw 194 rfl) (hw 201 rfl) pd_1 (cCKL K.l Z a0 hw hEL h0 x y (by omega)) (fun _ q => nomatch q) ?_
  rintro _ h0 _ ⟨rfl, rfl, rfl⟩ -
  refine G.iloadN d44_5 rfl ?_
  refine G.iloadN d44_6 rfl ?_
  refine G.isub d44_7 ?_
  refine G.istore3 d44_8 ?_
  refine G.iloadN d44_9 rfl ?_
  refine G.newA m 24 d44_10 (hw 14 rfl) e hm (fun h1 E1 L1 A1 => ?_)
  refine G.astore4 d44_12 ?_
  refine G.aloadN d44_14 rfl rfl ?_
  refine G.iloadN d44_15 rfl ?_
  refine G.aload d44_16 rfl rfl ?_
  refine G.iconst 0 d44_18 ?_
  refine G.aloadN d44_19 rfl rfl ?_
  refine G.alen (Int32.ofNat vs.length) d44_20 (B.ext E1) (len_toInt B.len) ?_
  refine G.iloadN d44_21 rfl ?_
  refine G.isub d44_22 ?_
  refine G.iloadN d44_23 rfl ?_
  refine G.callS2 d44_24 (hw 202 rfl) (hw 203 rfl) (hw 204 rfl) (hw 205 rfl) pd_16 (cMIN K.l Z a0 hw hEL h1 _ _ (by
    have a1 := c_isub (Int32.ofNat vs.length) x
    have a2 := rng32 (Int32.ofNat vs.length - x)
    have a3 : (Int32.ofNat vs.length).toInt = (vs.length : Int) := len_toInt B.len
    omega)) (fun _ q => nomatch q) ?_
  rintro _ h1 _ ⟨⟨mm, rfl, hmm⟩, rfl, rfl⟩ -
  refine G.acopy i 0 m d44_27 (hw 206 rfl) (hw 209 rfl) (hw 207 rfl) (hw 208 rfl) (B.ext E1) A1 rfl (by simp) hx (by decide) (by rw [hmm, e]) hv (by simp) (fun h2 K2 B2 => ?_)
  refine G.aload d44_30 rfl rfl ?_
  refine G.aret d44_32 [] (fun _ q => nomatch q) ⟨⟨_, rfl, Nat.le_refl _, ?_⟩, ?_, rfl⟩
  · have e2 : (List.replicate m (defaultValue (newarray.typeOf .byte))).take 0 ++ (vs.drop i).take m ++ (List.replicate m (defaultValue (newarray.typeOf .byte))).drop (0 + m) = (vs.drop i).take m := by
      rw [List.drop_replicate]; simp
    rw [e2] at B2
    exact B2
  · exact keep_nil_ext ((ext_keep E1 []).trans K2 (fun x q => by cases List.mem_singleton.mp q; exact Or.inr (Nat.le_refl _)))
abbrev rmCOR : Room := { frames := 2, cells := 1, slots := 24, locals := 34 }
theorem cCOR (l : Launch) (Z : State) (a0 : Array Value) (hw : hwT a0 Z) {EL : List (String × Nat)} {nw : Bool} (hEL : EW Z a0 EL) (h0 : Heap) (b : Addr) (vs : List Value) (x y : Int32) (i m : Nat) (hx : x.toInt = (i : Int)) (hi : 0 < i) (hy : y.toInt = ((i + m : Nat) : Int)) (hm : m ≤ 24) (hv : i + m ≤ vs.length) (B : Al Z h0 b .byte vs) :
    Con l Z EL nw (⟨"java/util/Arrays", "copyOfRange", "([BII)[B"⟩ : MethodName) jdk_65_method_132_code 3 (some (.array .byte)) [] rmCOR #[.ref b, .int x, .int y] h0 [] (fun v h S' => (∃ c, v = some (.ref c) ∧ h0.size ≤ c ∧ Al Z h c .byte ((vs.drop i).take m)) ∧ Ext h0 h ∧ S' = []) := by
  refine Con.enter (a0 := a0) pn_24 hEL [.val (.ref b), .val (.int x), .val (.int y)] (fun m => by first | (simp [entryFrame, mkF, argsToLocals, Value.category]; done) | rfl) ?_
  intro K G
  refine G.iloadN d43_0 rfl ?_
  refine G.if_ne d43_1 (fun _ => ?_) (fun q => absurd (congrArg Int32.toInt q) (by rw [hx, toInt_0]; omega))
  refine G.aloadN d43_10 rfl rfl ?_
  refine G.iloadN d43_11 rfl ?_
  refine G.iloadN d43_12 rfl ?_
  refine G.callS3 d43_13 (hw 196 rfl) (hw 197 rfl) (hw 194 rfl) (hw 198 rfl) pd_17 (cCORB K.l Z a0 hw hEL h0 b vs x y i m hx hy hm hv B) (fun _ q => nomatch q) ?_
  rintro _ h1 _ ⟨⟨c, rfl, hc, A1⟩, E1, rfl⟩ -
  exact G.aret d43_16 [] (fun _ q => nomatch q) ⟨⟨_, rfl, hc, A1⟩, E1, rfl⟩
abbrev rmSBB : Room := { frames := 1, cells := 0, slots := 0, locals := 12 }
theorem cSBB (l : Launch) (Z : State) (a0 : Array Value) (hw : hwT a0 Z) {EL : List (String × Nat)} {nw : Bool} (hEL : EW Z a0 EL) (h0 : Heap) (a b : Addr) (vs : List Value) (E : Exa Z h0 a SN) (D : ∀ {O fn d : String} {ty : FieldType}, Laid Z a0 SN O fn d → parseFieldDescriptor d = some ty → Fld Z h0 a O fn d (defaultValue ty)) (B : Al Z h0 b .byte vs) (hne : b ≠ a) :
    Con l Z EL nw (⟨"java/lang/String", "<init>", "([BB)V"⟩ : MethodName) jdk_42_method_151_code 3 (none) [] rmSBB #[.ref a, .ref b, .int 0] h0 [a] (fun v h S' => v = none ∧ StrB Z h a 0 b vs ∧ Keep h0 h [a] ∧ S' = []) := by
  refine Con.enter (a0 := a0) pn_25 hEL [.val (.ref a), .val (.ref b), .val (.int 0)] (fun m => by first | (simp [entryFrame, mkF, argsToLocals, Value.category]; done) | rfl) ?_
  intro K G
  have F1 := D (Or.inr (hw 16 rfl)) (ty := .byte) (by decide)
  have F2 := D (Or.inr (hw 15 rfl)) (ty := .array .byte) (by decide)
  refine G.aloadN d47_0 rfl rfl ?_
  refine G.initO d47_1 (hw 55 rfl) (hw 56 rfl) (hw 57 rfl) ?_
  refine G.aloadN d47_4 rfl rfl ?_
  refine G.aloadN d47_5 rfl rfl ?_
  refine G.putF d47_6 (hw 31 rfl) F2 E (by simp) (Or.inr ⟨(hw 15 rfl), rfl, rfl⟩) (hw 13 rfl) (ty := (.array .byte)) (by decide) rfl rfl (fun h3 W3 F2 E => ?_)
  have F1' := Fld.oth F1 W3 (Or.inr (hw 16 rfl)) (Or.inr (hw 15 rfl)) (by decide) (by decide) (by decide)
  refine G.aloadN d47_9 rfl rfl ?_
  refine G.iloadN d47_10 rfl ?_
  refine G.putF d47_11 (hw 30 rfl) F1' E (by simp) (Or.inr ⟨(hw 16 rfl), rfl, rfl⟩) (hw 13 rfl) (ty := .byte) (by decide) rfl rfl (fun h4 W4 F1 E => ?_)
  replace F2 := Fld.oth F2 W4 (Or.inr (hw 15 rfl)) (Or.inr (hw 16 rfl)) (by decide) (by decide) (by decide)
  refine G.ret0 d47_14 [] (fun _ q => nomatch q) ⟨rfl, ⟨E, F1, F2, (B.other W3 hne).other W4 hne⟩, ?_, rfl⟩
  exact (((Keep.refl _ [a]).wr W3 (Or.inl (List.mem_singleton.mpr rfl))).wr W4 (Or.inl (List.mem_singleton.mpr rfl)))
abbrev rmNSTR : Room := { frames := 3, cells := 2, slots := 28, locals := 50 }
theorem cNSTR (l : Launch) (Z : State) (a0 : Array Value) (hw : hwT a0 Z) (h0 : Heap) (b : Addr) (vs : List Value) (x y : Int32) (i m : Nat) (hx : x.toInt = (i : Int)) (hi : 0 < i) (hy : y.toInt = (m : Int)) (hm : m ≤ 24) (hv : i + m ≤ vs.length) (B : Al Z h0 b .byte vs) :
    Con l Z EL1 false (⟨"java/lang/StringLatin1", "newString", "([BII)Ljava/lang/String;"⟩ : MethodName) jdk_43_method_47_code 3 (some (.object "java/lang/String")) [] rmNSTR #[.ref b, .int x, .int y] h0 [] (fun v h S' => (∃ r rb ws, v = some (.ref r) ∧ StrB Z h r 0 rb ws ∧ ws.length = m) ∧ Ext h0 h ∧ S' = []) := by
  have hEL := hEL1 hw
  have hBl := B.len
  refine Con.enter (a0 := a0) pn_26 hEL [.val (.ref b), .val (.int x), .val (.int y)] (fun m => by first | (simp [entryFrame, mkF, argsToLocals, Value.category]; done) | rfl) ?_
  intro K G
  refine G.iloadN d42_0 rfl ?_
  refine G.if_ne d42_1 (fun q => ?_) (fun q => ?_)
  · refine G.newO d42_7 (hw 191 rfl) (hw 13 rfl) (hw 12 rfl) (fun h1 E1 L1 A1 => ?_)
    refine G.dup d42_10 ?_
    refine G.aloadN d42_11 rfl rfl ?_
    refine G.iloadN d42_12 rfl ?_
    refine G.iloadN d42_13 rfl ?_
    refine G.iloadN d42_14 rfl ?_
    refine G.iadd d42_15 ?_
    refine G.callS3 d42_16 (hw 192 rfl) (hw 193 rfl) (hw 194 rfl) (hw 195 rfl) pd_17 (cCOR K.l Z a0 hw hEL h1 b vs x (x + y) i m hx hi (addI hx hy (by omega)) hm hv (B.ext E1)) (fun _ q => nomatch q) ?_
    rintro _ h2 _ ⟨⟨c, rfl, hc, A2⟩, E2, rfl⟩ -
    refine G.iconst 0 d42_19 ?_
    refine G.callI2 d42_20 (hw 210 rfl) (hw 211 rfl) (hw 12 rfl) (hw 212 rfl) pd_18 (cSBB K.l Z a0 hw hEL h2 h0.size c _ (A1.1.ext E2) (fun L t => (A1.2 L t).ext E2) A2 (Nat.ne_of_gt (Nat.lt_of_lt_of_le L1 hc))) (by simp) ?_
    rintro _ h3 _ ⟨rfl, T3, K3, rfl⟩ -
    refine G.aret d42_23 [] (fun _ q => nomatch q) ⟨⟨_, _, _, rfl, T3, by simp; omega⟩, ?_, rfl⟩
    exact keep_nil_ext (((ext_keep E1 []).ext E2).trans K3 (fun x q => by cases List.mem_singleton.mp q; exact Or.inr (Nat.le_refl _)))
  · refine G.ldcS 0 [] 0 d42_4 (hw 218 rfl) (hSA Z a0 hw) rfl (by simp) ⟨by decide, rfl⟩ (by decide) (by decide) (by decide) (by decide) (fun sa sb h1 E1 T1 N1 => ?_)
    have hm0 : m = 0 := by have := congrArg Int32.toInt q; rw [hy, toInt_0] at this; omega
    exact G.aret d42_6 [] (fun _ q => nomatch q) ⟨⟨_, _, _, rfl, T1, by simp [hm0]⟩, E1, rfl⟩
abbrev rmSUBS : Room := { frames := 4, cells := 2, slots := 28, locals := 64 }
/-- substring from a place behind the first -/
theorem cSUBS (l : Launch) (Z : State) (a0 : Array Value) (hw : hwT a0 Z) (h0 : Heap) (hC : CS Z) (hF : SF Z) (s sb : Addr) (vs : List Value) (x y : Int32) (i j : Nat) (hx : x.toInt = (i : Int)) (hi : 0 < i) (hy : y.toInt = (j : Int)) (hij : i ≤ j) (hj : j ≤ vs.length) (hm : vs.length ≤ 24) (A : StrB Z h0 s 0 sb vs) :
    Con l Z EL1 false (⟨"java/lang/String", "substring", "(II)Ljava/lang/String;"⟩ : MethodName) jdk_42_method_92_code 5 (some (.object "java/lang/String")) [] rmSUBS #[.ref s, .int x, .int y] h0 [] (fun v h S' => (∃ r rb ws, v = some (.ref r) ∧ StrB Z h r 0 rb ws ∧ ws.length = j - i) ∧ Ext h0 h ∧ S' = []) := by
  have hEL := hEL1 hw
  refine Con.enter (a0 := a0) pn_27 hEL [.val (.ref s), .val (.int x), .val (.int y), .unset, .unset] (fun m => by first | (simp [entryFrame, mkF, argsToLocals, Value.category]; done) | rfl) ?_
  intro K G
  refine G.aloadN d41_0 rfl rfl ?_
  refine G.callV0 d41_1 (hw 111 rfl) (hw 91 rfl) (hw 92 rfl) (hw 76 rfl) (hw 80 rfl) (hw 12 rfl) pd_13 A.1 (cLEN8 K.l Z a0 hw hEL h0 hC s sb _ A) (fun _ q => nomatch q) ?_
  rintro _ h0 _ ⟨⟨n, rfl, hn⟩, rfl, rfl⟩ -
  refine G.istore3 d41_4 ?_
  refine G.iloadN d41_5 rfl ?_
  refine G.iloadN d41_6 rfl ?_
  refine G.iloadN d41_7 rfl ?_
  refine G.callS3 d41_8 (hw 112 rfl) (hw 113 rfl) (hw 12 rfl) (hw 114 rfl) pd_14 (cCBE K.l Z a0 hw hEL h0 hF x y n (by omega) (by omega) (by omega)) (fun _ q => nomatch q) ?_
  rintro _ h0 _ ⟨rfl, rfl, rfl⟩ -
  refine G.iloadN d41_11 rfl ?_
  refine G.if_ne d41_12 (fun _ => ?_) (fun q => absurd (congrArg Int32.toInt q) (by rw [hx, toInt_0]; omega))
  refine G.iloadN d41_22 rfl ?_
  refine G.iloadN d41_23 rfl ?_
  refine G.isub d41_24 ?_
  refine G.istore4 d41_25 ?_
  refine G.aloadN d41_27 rfl rfl ?_
  refine G.callV0 d41_28 (hw 24 rfl) (hw 25 rfl) (hw 27 rfl) (hw 26 rfl) (hw 28 rfl) (hw 12 rfl) pd_2 A.1 (cISL K.l Z a0 hw hEL h0 hC s sb 0 _ A) (fun _ q => nomatch q) ?_
  rintro _ h0 _ ⟨rfl, rfl, rfl⟩ -
  refine G.if_eq d41_31 (fun q => absurd q (by decide)) (fun _ => ?_)
  refine G.aloadN d41_34 rfl rfl ?_
  refine G.getF d41_35 (hw 31 rfl) A.2.2.1 ?_
  refine G.iloadN d41_38 rfl ?_
  refine G.iload d41_39 rfl ?_
  refine G.callS3 d41_41 (hw 188 rfl) (hw 189 rfl) (hw 34 rfl) (hw 190 rfl) pd_19 (cNSTR K.l Z a0 hw h0 sb vs x (y - x) i (j - i) hx hi (by
    have a1 := c_isub y x
    have a2 := rng32 (y - x)
    omega) (by omega) (by omega) A.2.2.2) (fun _ q => nomatch q) ?_
  rintro _ h1 _ ⟨⟨r, rb, ws, rfl, T1, hl⟩, E1, rfl⟩ -
  refine G.goto d41_44 ?_
  exact G.aret d41_57 [] (fun _ q => nomatch q) ⟨⟨r, rb, ws, rfl, T1, hl⟩, E1, rfl⟩
-- CHUNK
abbrev rm1 : Room := { frames := 1, cells := 0, slots := 0, locals := 12 }
theorem cIIL (l : Launch) (Z : State) (a0 : Array Value) (hw : hwT a0 Z) (h0 : Heap) (c : Int32) : Con l Z EL1 false (⟨"com/example/nameshelf/nameshelf/uri/InfoUri", "isLetter", "(I)Z"⟩ : MethodName) prog_62_method_19_code 1 (some .boolean) [] rm0 #[.int c] h0 [] (fun v h S' => (∃ b : Int32, v = some (.int b) ∧ (b = 0 ∨ b = 1) ∧ (b ≠ 0 ↔ Let c)) ∧ h = h0 ∧ S' = []) := by
  have hEL := hEL1 hw
  refine Con.enter (a0 := a0) pn_28 hEL [.val (.int c)] (fun m => by first | (simp [entryFrame, mkF, argsToLocals, Value.category]; done) | rfl) ?_
  intro K G
  have yes : Let c → Go Z EL1 false rm0 (fun v h S' => (∃ b : Int32, v = some (.int b) ∧ (b = 0 ∨ b = 1) ∧ (b ≠ 0 ↔ Let c)) ∧ h = h0 ∧ S' = []) K h0 [] 0 0 24 [.val (.int c)] [] := by
    intro hl
    refine G.iconst 1 d21_24 ?_
    refine G.goto d21_25 ?_
    exact G.nret d21_29 (Or.inl rfl) (z' := 1) (by decide) [] (fun _ q => nomatch q) ⟨⟨_, rfl, Or.inr rfl, ⟨fun _ => hl, fun _ => by decide⟩⟩, rfl, rfl⟩
  have no : ¬ Let c → Go Z EL1 false rm0 (fun v h S' => (∃ b : Int32, v = some (.int b) ∧ (b = 0 ∨ b = 1) ∧ (b ≠ 0 ↔ Let c)) ∧ h = h0 ∧ S' = []) K h0 [] 0 0 28 [.val (.int c)] [] := by
    intro hl
    refine G.iconst 0 d21_28 ?_
    exact G.nret d21_29 (Or.inl rfl) (z' := 0) (by decide) [] (fun _ q => nomatch q) ⟨⟨_, rfl, Or.inl rfl, ⟨fun z => absurd rfl z, fun z => absurd z hl⟩⟩, rfl, rfl⟩
  have t12 : ¬ (65 ≤ c.toInt ∧ c.toInt ≤ 90) → Go Z EL1 false rm0 (fun v h S' => (∃ b : Int32, v = some (.int b) ∧ (b = 0 ∨ b = 1) ∧ (b ≠ 0 ↔ Let c)) ∧ h = h0 ∧ S' = []) K h0 [] 0 0 12 [.val (.int c)] [] := by
    intro hn
    refine G.iloadN d21_12 rfl ?_
    refine G.bipush 97 d21_13 ?_
    refine G.icmp_lt d21_15 (fun q => ?_) (fun q => ?_) <;> rw [Int32.lt_iff_toInt_lt, i97] at q
    · exact no (fun z => by rcases z with z | z; exact hn z; omega)
    · refine G.iloadN d21_18 rfl ?_
      refine G.bipush 122 d21_19 ?_
      refine G.icmp_gt d21_21 (fun q2 => ?_) (fun q2 => ?_) <;> rw [Int32.lt_iff_toInt_lt, i122] at q2
      · exact no (fun z => by rcases z with z | z; exact hn z; omega)
      · exact yes (Or.inr ⟨by omega, by omega⟩)
  refine G.iloadN d21_0 rfl ?_
  refine G.bipush 65 d21_1 ?_
  refine G.icmp_lt d21_3 (fun q => ?_) (fun q => ?_) <;> rw [Int32.lt_iff_toInt_lt, i65] at q
  · exact t12 (fun z => by omega)
  · refine G.iloadN d21_6 rfl ?_
    refine G.bipush 90 d21_7 ?_
    refine G.icmp_le d21_9 (fun q2 => ?_) (fun q2 => ?_) <;> rw [Int32.lt_iff_toInt_lt, i90] at q2
    · exact yes (Or.inl ⟨by omega, by omega⟩)
    · exact t12 (fun z => by omega)
theorem cINC (l : Launch) (Z : State) (a0 : Array Value) (hw : hwT a0 Z) (h0 : Heap) (hN : NS Z) (c : Int32) (hc : 0 ≤ c.toInt ∧ c.toInt < 65536) : Con l Z EL1 false (⟨"com/example/nameshelf/nameshelf/uri/InfoUri", "isNamespaceCharacter", "(I)Z"⟩ : MethodName) prog_62_method_18_code 1 (some .boolean) [] rm0 #[.int c] h0 [] (fun v h S' => (∃ b : Int32, v = some (.int b) ∧ (b = 0 ∨ b = 1) ∧ (b ≠ 0 ↔ Ns c)) ∧ h = h0 ∧ S' = []) := by
  have hEL := hEL1 hw
  obtain ⟨na, vs, S1, A1, H1⟩ := hN
  refine Con.enter (a0 := a0) pn_29 hEL [.val (.int c)] (fun m => by first | (simp [entryFrame, mkF, argsToLocals, Value.category]; done) | rfl) ?_
  intro K G
  refine G.iloadN d32_0 rfl ?_
  refine G.sipush 128 d32_1 ?_
  refine G.icmp_ge d32_4 (fun q => ?_) (fun q => ?_) <;> rw [Int32.lt_iff_toInt_lt, i128] at q
  · have hn : ¬ Ns c := fun z => by have := ns8 z; omega
    refine G.iconst 0 d32_19 ?_
    exact G.nret d32_20 (Or.inl rfl) (z' := 0) (by decide) [] (fun _ q => nomatch q) ⟨⟨_, rfl, Or.inl rfl, ⟨fun z => absurd rfl z, fun z => absurd z hn⟩⟩, rfl, rfl⟩
  · obtain ⟨b, hv, b01, hb⟩ := H1 c.toInt.toNat (by omega)
    have hns : NsN c.toInt.toNat ↔ Ns c := by
      constructor
      · rintro (z | z | z | z | z | z)
        · exact Or.inr (Or.inr (Or.inl (by omega)))
        · exact Or.inr (Or.inr (Or.inr (Or.inl (by omega))))
        · exact Or.inr (Or.inr (Or.inr (Or.inr (by omega))))
        · exact Or.inr (Or.inl (by omega))
        · exact Or.inl (Or.inl (by omega))
        · exact Or.inl (Or.inr (by omega))
      · rintro ((z | z) | z | z | z | z)
        · exact Or.inr (Or.inr (Or.inr (Or.inr (Or.inl (by omega)))))
        · exact Or.inr (Or.inr (Or.inr (Or.inr (Or.inr (by omega)))))
        · exact Or.inr (Or.inr (Or.inr (Or.inl (by omega))))
        · exact Or.inl (by omega)
        · exact Or.inr (Or.inl (by omega))
        · exact Or.inr (Or.inr (Or.inl (by omega)))
    rw [hns] at hb
    refine G.getS d32_7 (hw 142 rfl) S1 ?_
    refine G.iloadN d32_10 rfl ?_
    refine Go.oldIn (fun O => ?_)
    refine G.zaload d32_11 (A1.ext O) (i := c.toInt.toNat) (by omega) hv ?_
    refine G.if_eq d32_12 (fun q => ?_) (fun q => ?_)
    · refine G.iconst 0 d32_19 ?_
      exact G.nret d32_20 (Or.inl rfl) (z' := 0) (by decide) [] (fun _ q => nomatch q) ⟨⟨_, rfl, Or.inl rfl, ⟨fun z => absurd rfl z, fun z => absurd q (hb.mpr z)⟩⟩, rfl, rfl⟩
    · refine G.iconst 1 d32_15 ?_
      refine G.goto d32_16 ?_
      exact G.nret d32_20 (Or.inl rfl) (z' := 1) (by decide) [] (fun _ q => nomatch q) ⟨⟨_, rfl, Or.inr rfl, ⟨fun _ => hb.mp q, fun _ => by decide⟩⟩, rfl, rfl⟩
theorem cILW (l : Launch) (Z : State) (a0 : Array Value) (hw : hwT a0 Z) (h0 : Heap) (c : Int32) : Con l Z EL1 false (⟨"com/example/nameshelf/nameshelf/uri/InfoUri", "lowerAscii", "(I)I"⟩ : MethodName) prog_62_method_20_code 1 (some .int) [] rm1 #[.int c] h0 [] (fun v h S' => v = some (.int (low c)) ∧ h = h0 ∧ S' = []) := by
  have hEL := hEL1 hw
  refine Con.enter (a0 := a0) pn_30 hEL [.val (.int c)] (fun m => by first | (simp [entryFrame, mkF, argsToLocals, Value.category]; done) | rfl) ?_
  intro K G
  refine G.iloadN d20_0 rfl ?_
  refine G.callS1 d20_1 (hw 102 rfl) (hw 103 rfl) (hw 70 rfl) (hw 104 rfl) pd_20 (cIIL K.l Z a0 hw h0 c) (fun _ q => nomatch q) ?_
  rintro _ h0 _ ⟨⟨b, rfl, b01, hb⟩, rfl, rfl⟩ -
  refine G.if_eq d20_4 (fun q => ?_) (fun q => ?_)
  · have hn : ¬ Let c := fun z => (hb.mpr z) q
    refine G.iloadN d20_14 rfl ?_
    exact G.iret d20_15 [] (fun _ q => nomatch q) ⟨by unfold low; rw [if_neg (fun z => hn (Or.inl z))], rfl, rfl⟩
  · refine G.iloadN d20_7 rfl ?_
    refine G.bipush 32 d20_8 ?_
    refine G.ior d20_10 ?_
    refine G.goto d20_11 ?_
    rw [or32 (hb.mp q)]
    exact G.iret d20_15 [] (fun _ q => nomatch q) ⟨rfl, rfl, rfl⟩
def upC (c b : Int32) : Int32 := if b = 0 then c else c - 32
theorem cUP (l : Launch) (Z : State) (a0 : Array Value) (hw : hwT a0 Z) (h0 : Heap) (c b : Int32) (h0c : C8 c) (h1c : C8 (c - 32)) : Con l Z EL1 false (⟨"com/example/nameshelf/nameshelf/uri/InfoUriParsePinLaw", "up", "(CI)C"⟩ : MethodName) method_5_code 2 (some .char) [] rm0 #[.int c, .int b] h0 [] (fun v h S' => v = some (.int (upC c b)) ∧ h = h0 ∧ S' = []) := by
  have hEL := hEL1 hw
  refine Con.enter (a0 := a0) pn_31 hEL [.val (.int c), .val (.int b)] (fun m => by first | (simp [entryFrame, mkF, argsToLocals, Value.category]; done) | rfl) ?_
  intro K G
  refine G.iloadN d1_0 rfl ?_
  refine G.if_eq d1_1 (fun q => ?_) (fun q => ?_)
  · refine G.iloadN d1_12 rfl ?_
    exact G.nret d1_13 (Or.inr (Or.inr (Or.inl rfl))) (z' := c) (nar_char h0c.1 (C16 h0c).2) [] (fun _ q => nomatch q) ⟨by unfold upC; rw [if_pos q], rfl, rfl⟩
  · refine G.iloadN d1_4 rfl ?_
    refine G.bipush 32 d1_5 ?_
    refine G.isub d1_7 ?_
    refine G.i2c d1_8 ?_
    refine G.goto d1_9 ?_
    rw [i2c8 h1c]
    exact G.nret d1_13 (Or.inr (Or.inr (Or.inl rfl))) (z' := c - 32) (nar_char h1c.1 (C16 h1c).2) [] (fun _ q => nomatch q) ⟨by unfold upC; rw [if_neg q], rfl, rfl⟩
theorem cHEX (l : Launch) (Z : State) (a0 : Array Value) (hw : hwT a0 Z) (h0 : Heap) (d b : Int32) (h1 : 0 ≤ d.toInt) (h2 : d.toInt < 16) : Con l Z EL1 false (⟨"com/example/nameshelf/nameshelf/uri/InfoUriParsePinLaw", "hex", "(II)C"⟩ : MethodName) method_7_code 2 (some .char) [] rm0 #[.int d, .int b] h0 [] (fun v h S' => v = some (.int (hx d b)) ∧ h = h0 ∧ S' = []) := by
  have hEL := hEL1 hw
  have r := (hx_Hx b h1 h2).c8
  refine Con.enter (a0 := a0) pn_32 hEL [.val (.int d), .val (.int b)] (fun m => by first | (simp [entryFrame, mkF, argsToLocals, Value.category]; done) | rfl) ?_
  intro K G
  refine G.iloadN d9_0 rfl ?_
  refine G.bipush 10 d9_1 ?_
  refine G.icmp_ge d9_3 (fun q => ?_) (fun q => ?_) <;> rw [Int32.lt_iff_toInt_lt, i10] at q
  · refine G.iloadN d9_12 rfl ?_
    refine G.if_eq d9_13 (fun e => ?_) (fun e => ?_)
    · have e2 : hx d b = 65 + d - 10 := by unfold hx; rw [if_neg q, if_pos e]
      rw [e2] at r ⊢
      refine G.bipush 65 d9_21 ?_
      refine G.iloadN d9_23 rfl ?_
      refine G.iadd d9_24 ?_
      refine G.bipush 10 d9_25 ?_
      refine G.isub d9_27 ?_
      refine G.i2c d9_28 ?_
      rw [i2c8 r]
      exact G.nret d9_29 (Or.inr (Or.inr (Or.inl rfl))) (z' := 65 + d - 10) (nar_char r.1 (C16 r).2) [] (fun _ q => nomatch q) ⟨rfl, rfl, rfl⟩
    · have e2 : hx d b = 97 + d - 10 := by unfold hx; rw [if_neg q, if_neg e]
      rw [e2] at r ⊢
      refine G.bipush 97 d9_16 ?_
      refine G.goto d9_18 ?_
      refine G.iloadN d9_23 rfl ?_
      refine G.iadd d9_24 ?_
      refine G.bipush 10 d9_25 ?_
      refine G.isub d9_27 ?_
      refine G.i2c d9_28 ?_
      rw [i2c8 r]
      exact G.nret d9_29 (Or.inr (Or.inr (Or.inl rfl))) (z' := 97 + d - 10) (nar_char r.1 (C16 r).2) [] (fun _ q => nomatch q) ⟨rfl, rfl, rfl⟩
  · have e2 : hx d b = 48 + d := by unfold hx; rw [if_pos q]
    rw [e2] at r ⊢
    refine G.bipush 48 d9_6 ?_
    refine G.iloadN d9_8 rfl ?_
    refine G.iadd d9_9 ?_
    refine G.i2c d9_10 ?_
    rw [i2c8 r]
    exact G.nret d9_11 (Or.inr (Or.inr (Or.inl rfl))) (z' := 48 + d) (nar_char r.1 (C16 r).2) [] (fun _ q => nomatch q) ⟨rfl, rfl, rfl⟩
abbrev rmNSCc : Room := { frames := 4, cells := 2, slots := 264, locals := 53 }
abbrev rmCw : Room := { frames := 4, cells := 0, slots := 0, locals := 53 }
abbrev rmRAWc : Room := { frames := 4, cells := 2, slots := 328, locals := 53 }
theorem cNSCc (l : Launch) (Z : State) (a0 : Array Value) (hw : hwT a0 Z) (h0 : Heap) (hC : CS Z) (hF : SF Z) (i : Int32) (g0 : 0 ≤ i.toInt) (g1 : i.toInt < 65) : Con l Z EL1 (false, [], [pN]) (⟨"com/example/nameshelf/nameshelf/uri/InfoUriParsePinLaw", "nsChar", "(I)C"⟩ : MethodName) method_4_code 1 (some .char) [] rmNSCc #[.int i] h0 [] (fun v h S' => v = some (.int (nsC i)) ∧ Ext h0 h ∧ S' = []) := by
  have hEL := hEL1 hw
  have r := nsL8 _ (List.mem_of_getElem? (nsC_get g0 g1))
  refine Con.enter (a0 := a0) pn_33 hEL [.val (.int i)] (fun m => by first | (simp [entryFrame, mkF, argsToLocals, Value.category]; done) | rfl) ?_
  intro K G
  refine G.ldcSq 260 (nsL.map bL) 65 d3_0 (hw 11 rfl) (hSA Z a0 hw) rfl (by simp) ⟨by decide +kernel, by decide +kernel⟩ (by decide) (by decide) (by decide +kernel) (by decide) (fun sa sb h1 E1 T1 N1 => ?_)
  refine G.iloadN d3_2 rfl ?_
  refine G.callV1 d3_3 (hw 19 rfl) (hw 20 rfl) (hw 22 rfl) (hw 21 rfl) (hw 23 rfl) (hw 12 rfl) pd_21 T1.1 (cSCA8 K.l Z a0 hw hEL h1 hC hF sa sb nsL nsL8 i i.toInt.toNat (by omega) (nsC i) (nsC_get g0 g1) T1) (fun _ q => nomatch q) ?_
  rintro _ h1 _ ⟨rfl, rfl, rfl⟩ -
  exact G.nret d3_6 (Or.inr (Or.inr (Or.inl rfl))) (z' := nsC i) (nar_char r.1 (C16 r).2) [] (fun _ q => nomatch q) ⟨rfl, E1, rfl⟩ (hQ := fun _ q => q)
theorem cNSCw (l : Launch) (Z : State) (a0 : Array Value) (hw : hwT a0 Z) (h0 : Heap) (hC : CS Z) (hF : SF Z) (i : Int32) (g0 : 0 ≤ i.toInt) (g1 : i.toInt < 65) : Con l Z EL1 (false, [pN], []) (⟨"com/example/nameshelf/nameshelf/uri/InfoUriParsePinLaw", "nsChar", "(I)C"⟩ : MethodName) method_4_code 1 (some .char) [] rmCw #[.int i] h0 [] (fun v h S' => v = some (.int (nsC i)) ∧ h = h0 ∧ S' = []) := by
  have hEL := hEL1 hw
  have r := nsL8 _ (List.mem_of_getElem? (nsC_get g0 g1))
  refine Con.enter (a0 := a0) pn_33 hEL [.val (.int i)] (fun m => by first | (simp [entryFrame, mkF, argsToLocals, Value.category]; done) | rfl) ?_
  intro K G
  refine G.ldcW (nsL.map bL) d3_0 (hw 11 rfl) (by simp) (by simp) ⟨by decide +kernel, by decide +kernel⟩ (fun sa sb T1 N1 => ?_)
  refine G.iloadN d3_2 rfl ?_
  refine G.callV1 d3_3 (hw 19 rfl) (hw 20 rfl) (hw 22 rfl) (hw 21 rfl) (hw 23 rfl) (hw 12 rfl) pd_21 T1.1 (cSCA8 K.l Z a0 hw hEL h0 hC hF sa sb nsL nsL8 i i.toInt.toNat (by omega) (nsC i) (nsC_get g0 g1) T1) (fun _ q => nomatch q) ?_
  rintro _ h1 _ ⟨rfl, rfl, rfl⟩ -
  exact G.nret d3_6 (Or.inr (Or.inr (Or.inl rfl))) (z' := nsC i) (nar_char r.1 (C16 r).2) [] (fun _ q => nomatch q) ⟨rfl, rfl, rfl⟩
theorem cRAWc (l : Launch) (Z : State) (a0 : Array Value) (hw : hwT a0 Z) (h0 : Heap) (hC : CS Z) (hF : SF Z) (i : Int32) (g0 : 0 ≤ i.toInt) (g1 : i.toInt < 81) : Con l Z EL1 (false, [], [pR]) (⟨"com/example/nameshelf/nameshelf/uri/InfoUriParsePinLaw", "rawChar", "(I)C"⟩ : MethodName) method_3_code 1 (some .char) [] rmRAWc #[.int i] h0 [] (fun v h S' => v = some (.int (rwC i)) ∧ Ext h0 h ∧ S' = []) := by
  have hEL := hEL1 hw
  have r := rwL8 _ (List.mem_of_getElem? (rwC_get g0 g1))
  refine Con.enter (a0 := a0) pn_34 hEL [.val (.int i)] (fun m => by first | (simp [entryFrame, mkF, argsToLocals, Value.category]; done) | rfl) ?_
  intro K G
  refine G.ldcSq 324 (rwL.map bL) 81 d50_0 (hw 225 rfl) (hSA Z a0 hw) rfl (by simp) ⟨by decide +kernel, by decide +kernel⟩ (by decide) (by decide) (by decide +kernel) (by decide) (fun sa sb h1 E1 T1 N1 => ?_)
  refine G.iloadN d50_2 rfl ?_
  refine G.callV1 d50_3 (hw 19 rfl) (hw 20 rfl) (hw 22 rfl) (hw 21 rfl) (hw 23 rfl) (hw 12 rfl) pd_21 T1.1 (cSCA8 K.l Z a0 hw hEL h1 hC hF sa sb rwL rwL8 i i.toInt.toNat (by omega) (rwC i) (rwC_get g0 g1) T1) (fun _ q => nomatch q) ?_
  rintro _ h1 _ ⟨rfl, rfl, rfl⟩ -
  exact G.nret d50_6 (Or.inr (Or.inr (Or.inl rfl))) (z' := rwC i) (nar_char r.1 (C16 r).2) [] (fun _ q => nomatch q) ⟨rfl, E1, rfl⟩ (hQ := fun _ q => q)
theorem cRAWw (l : Launch) (Z : State) (a0 : Array Value) (hw : hwT a0 Z) (h0 : Heap) (hC : CS Z) (hF : SF Z) (i : Int32) (g0 : 0 ≤ i.toInt) (g1 : i.toInt < 81) : Con l Z EL1 (false, [pR], []) (⟨"com/example/nameshelf/nameshelf/uri/InfoUriParsePinLaw", "rawChar", "(I)C"⟩ : MethodName) method_3_code 1 (some .char) [] rmCw #[.int i] h0 [] (fun v h S' => v = some (.int (rwC i)) ∧ h = h0 ∧ S' = []) := by
  have hEL := hEL1 hw
  have r := rwL8 _ (List.mem_of_getElem? (rwC_get g0 g1))
  refine Con.enter (a0 := a0) pn_34 hEL [.val (.int i)] (fun m => by first | (simp [entryFrame, mkF, argsToLocals, Value.category]; done) | rfl) ?_
  intro K G
  refine G.ldcW (rwL.map bL) d50_0 (hw 225 rfl) (by simp) (by simp) ⟨by decide +kernel, by decide +kernel⟩ (fun sa sb T1 N1 => ?_)
  refine G.iloadN d50_2 rfl ?_
  refine G.callV1 d50_3 (hw 19 rfl) (hw 20 rfl) (hw 22 rfl) (hw 21 rfl) (hw 23 rfl) (hw 12 rfl) pd_21 T1.1 (cSCA8 K.l Z a0 hw hEL h0 hC hF sa sb rwL rwL8 i i.toInt.toNat (by omega) (rwC i) (rwC_get g0 g1) T1) (fun _ q => nomatch q) ?_
  rintro _ h1 _ ⟨rfl, rfl, rfl⟩ -
  exact G.nret d50_6 (Or.inr (Or.inr (Or.inl rfl))) (z' := rwC i) (nar_char r.1 (C16 r).2) [] (fun _ q => nomatch q) ⟨rfl, rfl, rfl⟩
theorem mem1 {a : Addr} {x y : Nat} : a ∈ [a] ∨ x ≤ y := Or.inl (List.mem_singleton.mpr rfl)
theorem len1 (out : List Int32) (a : Int32) : (out ++ [a]).length = out.length + 1 := by simp
abbrev rmNSU : Room := { frames := 5, cells := 2, slots := 264, locals := 70 }
theorem cNSU (l : Launch) (Z : State) (a0 : Array Value) (hw : hwT a0 Z) (h0 : Heap) (hC : CS Z) (hF : SF Z) (t : Addr) (at_ u fb kk : Int32) (hk : (fb = 0 ∧ kk = 65) ∨ (fb = 1 ∧ kk = 52)) (N : Nat) (out : List Int32) (hat : at_.toInt = (out.length : Int)) (hN : out.length + 3 ≤ N) (hN2 : N < 32) (A : Al Z h0 t .char (nA N out)) :
    Con l Z EL1 false (⟨"com/example/nameshelf/nameshelf/uri/InfoUriParsePinLaw", "nsUnit", "([CIIZ)V"⟩ : MethodName) method_10_code 7 (none) [] rmNSU #[.ref t, .int at_, .int u, .int fb] h0 [t] (fun v h S' => v = none ∧ Al Z h t .char (nA N (out ++ txts (nsT u kk))) ∧ Keep h0 h [t] ∧ S' = []) := by
  have hEL := hEL1 hw
  have k5 : K5 kk := by rcases hk with ⟨-, q⟩ | ⟨-, q⟩; exact Or.inr q; exact Or.inl q
  obtain ⟨k1, k2, k3, k4, k6⟩ := k5.r
  have rv := (vO_r u).1
  have a1 := ix1 rv k1
  have a2 := ix2 (k := 65) rv k1 (by decide)
  have a3 := ix2 (k := 65) rv k3 (by decide)
  have e1 : (1 : Int32).toInt = ((1 : Nat) : Int) := by decide
  have e2 : (2 : Int32).toInt = ((2 : Nat) : Int) := by decide
  have c0 : C8 (nsC (vO u % kk)) := ns_c8 (nsC_ns a1.1 (by omega))
  have c1 : C8 (nsC (vO u / kk % 65)) := ns_c8 (nsC_ns a2.1 (by rw [i65] at a2; omega))
  have c2 : C8 (nsC (vO u / (kk * 65) % 65)) := ns_c8 (nsC_ns a3.1 (by rw [i65] at a3; omega))
  refine Con.enter (a0 := a0) pn_35 hEL [.val (.ref t), .val (.int at_), .val (.int u), .val (.int fb), .unset, .unset, .unset] (fun m => by first | (simp [entryFrame, mkF, argsToLocals, Value.category]; done) | rfl) ?_
  intro K G
  have t16 : Go Z EL1 false rmNSU (fun v h S' => v = none ∧ Al Z h t .char (nA N (out ++ txts (nsT u kk))) ∧ Keep h0 h [t] ∧ S' = []) K h0 [t] 0 0 16 [.val (.ref t), .val (.int at_), .val (.int u), .val (.int fb), .val (.int (vO u)), .unset, .unset] [.int kk] := by
    refine G.istore5 d2_16 ?_
    refine G.iload d2_18 rfl ?_
    refine G.iload d2_20 rfl ?_
    refine G.irem d2_22 k4 ?_
    refine G.callSq1 d2_23 (hw 8 rfl) (hw 9 rfl) (hw 3 rfl) (hw 10 rfl) pd_21 (cNSCc K.l Z a0 hw h0 hC hF (vO u % kk) a1.1 (by omega)) (fun _ q => nomatch q) ?_
    rintro _ h1 _ ⟨rfl, E1, rfl⟩ -
    refine G.istore6 d2_26 ?_
    refine G.iloadN d2_28 rfl ?_
    refine G.iconst 1 d2_29 ?_
    refine G.iand d2_30 ?_
    refine G.if_eq d2_31 (fun q => ?_) (fun q => ?_)
    · refine G.aloadN d2_73 rfl rfl ?_
      refine G.iloadN d2_74 rfl ?_
      refine G.iload d2_75 rfl ?_
      refine G.castA d2_77 (by simp) (A.ext E1) hat (by omega) (C16 c0) (fun h2 W2 A2 => ?_)
      refine G.aloadN d2_78 rfl rfl ?_
      refine G.iloadN d2_79 rfl ?_
      refine G.iconst 1 d2_80 ?_
      refine G.iadd d2_81 ?_
      refine G.iload d2_82 rfl ?_
      refine G.iload d2_84 rfl ?_
      refine G.idiv d2_86 k4 ?_
      refine G.bipush 65 d2_87 ?_
      refine G.irem d2_89 (by decide) ?_
      refine G.callSq1 d2_90 (hw 8 rfl) (hw 9 rfl) (hw 3 rfl) (hw 10 rfl) pd_21 (cNSCw K.l Z a0 hw h2 hC hF (vO u / kk % 65) a2.1 (by rw [i65] at a2; omega)) (fun _ q => nomatch q) ?_
      rintro _ h2 _ ⟨rfl, rfl, rfl⟩ -
      refine G.castA d2_93 (by simp) A2 (by rw [addI hat e1 (by omega)]; simp) (by simp; omega) (C16 c1) (fun h3 W3 A3 => ?_)
      refine G.aloadN d2_94 rfl rfl ?_
      refine G.iloadN d2_95 rfl ?_
      refine G.iconst 2 d2_96 ?_
      refine G.iadd d2_97 ?_
      refine G.iload d2_98 rfl ?_
      refine G.iload d2_100 rfl ?_
      refine G.bipush 65 d2_102 ?_
      refine G.imul d2_104 ?_
      refine G.idiv d2_105 k6 ?_
      refine G.bipush 65 d2_106 ?_
      refine G.irem d2_108 (by decide) ?_
      refine G.callSq1 d2_109 (hw 8 rfl) (hw 9 rfl) (hw 3 rfl) (hw 10 rfl) pd_21 (cNSCw K.l Z a0 hw h3 hC hF (vO u / (kk * 65) % 65) a3.1 (by rw [i65] at a3; omega)) (fun _ q => nomatch q) ?_
      rintro _ h3 _ ⟨rfl, rfl, rfl⟩ -
      refine G.castA d2_112 (by simp) A3 (by rw [addI hat e2 (by omega)]; simp) (by simp; omega) (C16 c2) (fun h4 W4 A4 => ?_)
      have e : ((out ++ [nsC (vO u % kk)]) ++ [nsC (vO u / kk % 65)]) ++ [nsC (vO u / (kk * 65) % 65)] = out ++ txts (nsT u kk) := by
        unfold nsT; rw [if_pos q]; simp [txts, txt]
      rw [e] at A4
      exact G.ret0 d2_113 [] (fun _ q => nomatch q) ⟨rfl, A4, (((ext_keep E1 [t]).wr W2 mem1).wr W3 mem1).wr W4 mem1, rfl⟩
    · obtain ⟨n1, n2⟩ := nib (v := nsC (vO u % kk))
      have c01 := c0.1
      have c02 := c0.2
      refine G.aloadN d2_34 rfl rfl ?_
      refine G.iloadN d2_35 rfl ?_
      refine G.bipush 37 d2_36 ?_
      refine G.castA d2_38 (by simp) (A.ext E1) hat (by omega) (by decide) (fun h2 W2 A2 => ?_)
      refine G.aloadN d2_39 rfl rfl ?_
      refine G.iloadN d2_40 rfl ?_
      refine G.iconst 1 d2_41 ?_
      refine G.iadd d2_42 ?_
      refine G.iload d2_43 rfl ?_
      refine G.iconst 4 d2_45 ?_
      refine G.ishr d2_46 ?_
      refine G.iloadN d2_47 rfl ?_
      refine G.iconst 2 d2_48 ?_
      refine G.iand d2_49 ?_
      refine G.callS2 d2_50 (hw 44 rfl) (hw 45 rfl) (hw 3 rfl) (hw 46 rfl) pd_22 (cHEX K.l Z a0 hw h2 _ (u &&& 2) (by omega) (by omega)) (fun _ q => nomatch q) ?_
      rintro _ h2 _ ⟨rfl, rfl, rfl⟩ -
      refine G.castA d2_53 (by simp) A2 (by rw [addI hat e1 (by omega)]; simp) (by simp; omega) (C16 (hx_Hx _ (by omega) (by omega)).c8) (fun h3 W3 A3 => ?_)
      refine G.aloadN d2_54 rfl rfl ?_
      refine G.iloadN d2_55 rfl ?_
      refine G.iconst 2 d2_56 ?_
      refine G.iadd d2_57 ?_
      refine G.iload d2_58 rfl ?_
      refine G.bipush 15 d2_60 ?_
      refine G.iand d2_62 ?_
      refine G.iloadN d2_63 rfl ?_
      refine G.iconst 4 d2_64 ?_
      refine G.iand d2_65 ?_
      refine G.callS2 d2_66 (hw 44 rfl) (hw 45 rfl) (hw 3 rfl) (hw 46 rfl) pd_22 (cHEX K.l Z a0 hw h3 _ (u &&& 4) (by omega) (by omega)) (fun _ q => nomatch q) ?_
      rintro _ h3 _ ⟨rfl, rfl, rfl⟩ -
      refine G.castA d2_69 (by simp) A3 (by rw [addI hat e2 (by omega)]; simp) (by simp; omega) (C16 (hx_Hx _ (by omega) (by omega)).c8) (fun h4 W4 A4 => ?_)
      have e : ((out ++ [(37 : Int32)]) ++ [hx (nsC (vO u % kk) >>> ((4 : Int32) &&& 31)) (u &&& 2)]) ++ [hx (nsC (vO u % kk) &&& 15) (u &&& 4)] = out ++ txts (nsT u kk) := by
        unfold nsT; rw [if_neg q]; simp [txts, txt]
      rw [e] at A4
      refine G.goto d2_70 ?_
      exact G.ret0 d2_113 [] (fun _ q => nomatch q) ⟨rfl, A4, (((ext_keep E1 [t]).wr W2 mem1).wr W3 mem1).wr W4 mem1, rfl⟩
  refine G.iloadN d2_0 rfl ?_
  refine G.iconst 3 d2_1 ?_
  refine G.iushr d2_2 ?_
  refine G.istore4 d2_3 ?_
  refine G.iloadN d2_5 rfl ?_
  refine G.if_eq d2_6 (fun q => ?_) (fun q => ?_)
  · obtain rfl : kk = 65 := by
      rcases hk with ⟨-, e⟩ | ⟨e, -⟩
      · exact e
      · rw [e] at q; exact absurd q (by decide)
    refine G.bipush 65 d2_14 ?_
    exact t16
  · obtain rfl : kk = 52 := by
      rcases hk with ⟨e, -⟩ | ⟨-, e⟩
      · exact absurd e q
      · exact e
    refine G.bipush 52 d2_9 ?_
    refine G.goto d2_11 ?_
    exact t16
abbrev rmUNIT : Room := { frames := 5, cells := 2, slots := 328, locals := 70 }
theorem cUNIT (l : Launch) (Z : State) (a0 : Array Value) (hw : hwT a0 Z) (h0 : Heap) (hC : CS Z) (hF : SF Z) (t : Addr) (at_ u kk : Int32) (hk : K8 kk) (N : Nat) (out : List Int32) (hat : at_.toInt = (out.length : Int)) (hN : out.length + 3 ≤ N) (hN2 : N < 32) (A : Al Z h0 t .char (nA N out)) :
    Con l Z EL1 false (⟨"com/example/nameshelf/nameshelf/uri/InfoUriParsePinLaw", "unit", "([CIII)V"⟩ : MethodName) method_12_code 6 (none) [] rmUNIT #[.ref t, .int at_, .int u, .int kk] h0 [t] (fun v h S' => v = none ∧ Al Z h t .char (nA N (out ++ txts (unT u kk))) ∧ Keep h0 h [t] ∧ S' = []) := by
  have hEL := hEL1 hw
  obtain ⟨k1, k2, k3, k4, k6⟩ := hk.r
  have rv := (vO_r u).1
  have a1 := ix1 rv k1
  have a2 := ix2 (k := kk) rv k1 k1
  have a3 := ix2 (k := kk) rv k3 k1
  have e1 : (1 : Int32).toInt = ((1 : Nat) : Int) := by decide
  have e2 : (2 : Int32).toInt = ((2 : Nat) : Int) := by decide
  have rc : ∀ i : Int32, 0 ≤ i.toInt → i.toInt < kk.toInt → C8 (rwC i) := fun i q1 q2 => rwL8 _ (List.mem_of_getElem? (rwC_get q1 (by omega)))
  refine Con.enter (a0 := a0) pn_36 hEL [.val (.ref t), .val (.int at_), .val (.int u), .val (.int kk), .unset, .unset] (fun m => by first | (simp [entryFrame, mkF, argsToLocals, Value.category]; done) | rfl) ?_
  intro K G
  refine G.iloadN d49_0 rfl ?_
  refine G.iconst 3 d49_1 ?_
  refine G.iushr d49_2 ?_
  refine G.istore4 d49_3 ?_
  refine G.iloadN d49_5 rfl ?_
  refine G.iconst 1 d49_6 ?_
  refine G.iand d49_7 ?_
  rw [show (u.toUInt32 >>> ((3 : Int32) &&& 31).toUInt32).toInt32 = vO u from rfl]
  refine G.if_eq d49_8 (fun q => ?_) (fun q => ?_)
  · refine G.aloadN d49_58 rfl rfl ?_
    refine G.iloadN d49_59 rfl ?_
    refine G.iload d49_60 rfl ?_
    refine G.iloadN d49_62 rfl ?_
    refine G.irem d49_63 k4 ?_
    refine G.callSq1 d49_64 (hw 222 rfl) (hw 223 rfl) (hw 3 rfl) (hw 224 rfl) pd_21 (cRAWc K.l Z a0 hw h0 hC hF (vO u % kk) a1.1 (by omega)) (fun _ q => nomatch q) ?_
    rintro _ h1 _ ⟨rfl, E1, rfl⟩ -
    refine G.castA d49_67 (by simp) (A.ext E1) hat (by omega) (C16 (rc _ a1.1 a1.2)) (fun h2 W2 A2 => ?_)
    refine G.aloadN d49_68 rfl rfl ?_
    refine G.iloadN d49_69 rfl ?_
    refine G.iconst 1 d49_70 ?_
    refine G.iadd d49_71 ?_
    refine G.iload d49_72 rfl ?_
    refine G.iloadN d49_74 rfl ?_
    refine G.idiv d49_75 k4 ?_
    refine G.iloadN d49_76 rfl ?_
    refine G.irem d49_77 k4 ?_
    refine G.callSq1 d49_78 (hw 222 rfl) (hw 223 rfl) (hw 3 rfl) (hw 224 rfl) pd_21 (cRAWw K.l Z a0 hw h2 hC hF (vO u / kk % kk) a2.1 (by omega)) (fun _ q => nomatch q) ?_
    rintro _ h2 _ ⟨rfl, rfl, rfl⟩ -
    refine G.castA d49_81 (by simp) A2 (by rw [addI hat e1 (by omega)]; simp) (by simp; omega) (C16 (rc _ a2.1 a2.2)) (fun h3 W3 A3 => ?_)
    refine G.aloadN d49_82 rfl rfl ?_
    refine G.iloadN d49_83 rfl ?_
    refine G.iconst 2 d49_84 ?_
    refine G.iadd d49_85 ?_
    refine G.iload d49_86 rfl ?_
    refine G.iloadN d49_88 rfl ?_
    refine G.iloadN d49_89 rfl ?_
    refine G.imul d49_90 ?_
    refine G.idiv d49_91 k6 ?_
    refine G.iloadN d49_92 rfl ?_
    refine G.irem d49_93 k4 ?_
    refine G.callSq1 d49_94 (hw 222 rfl) (hw 223 rfl) (hw 3 rfl) (hw 224 rfl) pd_21 (cRAWw K.l Z a0 hw h3 hC hF (vO u / (kk * kk) % kk) a3.1 (by omega)) (fun _ q => nomatch q) ?_
    rintro _ h3 _ ⟨rfl, rfl, rfl⟩ -
    refine G.castA d49_97 (by simp) A3 (by rw [addI hat e2 (by omega)]; simp) (by simp; omega) (C16 (rc _ a3.1 a3.2)) (fun h4 W4 A4 => ?_)
    have e : ((out ++ [rwC (vO u % kk)]) ++ [rwC (vO u / kk % kk)]) ++ [rwC (vO u / (kk * kk) % kk)] = out ++ txts (unT u kk) := by
      unfold unT; rw [if_pos q]; simp [txts, txt]
    rw [e] at A4
    exact G.ret0 d49_98 [] (fun _ q => nomatch q) ⟨rfl, A4, (((ext_keep E1 [t]).wr W2 mem1).wr W3 mem1).wr W4 mem1, rfl⟩
  · obtain ⟨n1, n2⟩ := nib (v := vO u &&& 255)
    have c01 := (b255 u).1
    have c02 := (b255 u).2
    refine G.iload d49_11 rfl ?_
    refine G.sipush 255 d49_13 ?_
    refine G.iand d49_16 ?_
    refine G.istore5 d49_17 ?_
    refine G.aloadN d49_19 rfl rfl ?_
    refine G.iloadN d49_20 rfl ?_
    refine G.bipush 37 d49_21 ?_
    refine G.castA d49_23 (by simp) A hat (by omega) (by decide) (fun h2 W2 A2 => ?_)
    refine G.aloadN d49_24 rfl rfl ?_
    refine G.iloadN d49_25 rfl ?_
    refine G.iconst 1 d49_26 ?_
    refine G.iadd d49_27 ?_
    refine G.iload d49_28 rfl ?_
    refine G.iconst 4 d49_30 ?_
    refine G.ishr d49_31 ?_
    refine G.iloadN d49_32 rfl ?_
    refine G.iconst 2 d49_33 ?_
    refine G.iand d49_34 ?_
    refine G.callS2 d49_35 (hw 44 rfl) (hw 45 rfl) (hw 3 rfl) (hw 46 rfl) pd_22 (cHEX K.l Z a0 hw h2 _ (u &&& 2) (by omega) (by omega)) (fun _ q => nomatch q) ?_
    rintro _ h2 _ ⟨rfl, rfl, rfl⟩ -
    refine G.castA d49_38 (by simp) A2 (by rw [addI hat e1 (by omega)]; simp) (by simp; omega) (C16 (hx_Hx _ (by omega) (by omega)).c8) (fun h3 W3 A3 => ?_)
    refine G.aloadN d49_39 rfl rfl ?_
    refine G.iloadN d49_40 rfl ?_
    refine G.iconst 2 d49_41 ?_
    refine G.iadd d49_42 ?_
    refine G.iload d49_43 rfl ?_
    refine G.bipush 15 d49_45 ?_
    refine G.iand d49_47 ?_
    refine G.iloadN d49_48 rfl ?_
    refine G.iconst 4 d49_49 ?_
    refine G.iand d49_50 ?_
    refine G.callS2 d49_51 (hw 44 rfl) (hw 45 rfl) (hw 3 rfl) (hw 46 rfl) pd_22 (cHEX K.l Z a0 hw h3 _ (u &&& 4) (by omega) (by omega)) (fun _ q => nomatch q) ?_
    rintro _ h3 _ ⟨rfl, rfl, rfl⟩ -
    refine G.castA d49_54 (by simp) A3 (by rw [addI hat e2 (by omega)]; simp) (by simp; omega) (C16 (hx_Hx _ (by omega) (by omega)).c8) (fun h4 W4 A4 => ?_)
    have e : ((out ++ [(37 : Int32)]) ++ [hx ((vO u &&& 255) >>> ((4 : Int32) &&& 31)) (u &&& 2)]) ++ [hx ((vO u &&& 255) &&& 15) (u &&& 4)] = out ++ txts (unT u kk) := by
      unfold unT; rw [if_neg q]; simp [txts, txt]
    rw [e] at A4
    refine G.goto d49_55 ?_
    exact G.ret0 d49_98 [] (fun _ q => nomatch q) ⟨rfl, A4, (((Keep.refl _ [t]).wr W2 mem1).wr W3 mem1).wr W4 mem1, rfl⟩
theorem cLOW (l : Launch) (Z : State) (a0 : Array Value) (hw : hwT a0 Z) (h0 : Heap) (c : Int32) (hc : Ns c) : Con l Z EL1 false (⟨"com/example/nameshelf/nameshelf/uri/InfoUriParsePinLaw", "lower", "(C)C"⟩ : MethodName) method_6_code 1 (some .char) [] rm0 #[.int c] h0 [] (fun v h S' => v = some (.int (low c)) ∧ h = h0 ∧ S' = []) := by
  have hEL := hEL1 hw
  have r8 := ns_c8 hc
  refine Con.enter (a0 := a0) pn_37 hEL [.val (.int c)] (fun m => by first | (simp [entryFrame, mkF, argsToLocals, Value.category]; done) | rfl) ?_
  intro K G
  have no : ¬ (65 ≤ c.toInt ∧ c.toInt ≤ 90) → Go Z EL1 false rm0 (fun v h S' => v = some (.int (low c)) ∧ h = h0 ∧ S' = []) K h0 [] 0 0 20 [.val (.int c)] [] := by
    intro hn
    refine G.iloadN d39_20 rfl ?_
    exact G.nret d39_21 (Or.inr (Or.inr (Or.inl rfl))) (z' := c) (nar_char r8.1 (C16 r8).2) [] (fun _ q => nomatch q) ⟨by unfold low; rw [if_neg hn], rfl, rfl⟩
  refine G.iloadN d39_0 rfl ?_
  refine G.bipush 65 d39_1 ?_
  refine G.icmp_lt d39_3 (fun q => ?_) (fun q => ?_) <;> rw [Int32.lt_iff_toInt_lt, i65] at q
  · exact no (fun z => by omega)
  · refine G.iloadN d39_6 rfl ?_
    refine G.bipush 90 d39_7 ?_
    refine G.icmp_gt d39_9 (fun q2 => ?_) (fun q2 => ?_) <;> rw [Int32.lt_iff_toInt_lt, i90] at q2
    · exact no (fun z => by omega)
    · have e : low c = c + 32 := by unfold low; rw [if_pos ⟨by omega, by omega⟩]
      have r := (low_toInt hc).1
      rw [e] at r
      refine G.iloadN d39_12 rfl ?_
      refine G.bipush 32 d39_13 ?_
      refine G.iadd d39_15 ?_
      refine G.i2c d39_16 ?_
      refine G.goto d39_17 ?_
      rw [i2c8 r]
      exact G.nret d39_21 (Or.inr (Or.inr (Or.inl rfl))) (z' := c + 32) (nar_char r.1 (C16 r).2) [] (fun _ q => nomatch q) ⟨by rw [e], rfl, rfl⟩
/-- m, where the char stands -/
theorem cM (l : Launch) (Z : State) (a0 : Array Value) (hw : hwT a0 Z) (h0 : Heap) (hC : CS Z) (hF : SF Z) (s sb : Addr) (cs : List Int32) (hl : Lat cs) (hn : cs.length < 2147483647) (at_ c : Int32) (j : Nat) (hj : at_.toInt = (j : Int)) (hg : cs[j]? = some c) (A : StrB Z h0 s 0 sb (cs.map bL)) :
    Con l Z EL1 false (⟨"com/example/nameshelf/nameshelf/uri/InfoUriParsePinLaw", "m", "(Ljava/lang/String;IC)I"⟩ : MethodName) method_9_code 3 (some .int) [] rmCw #[.ref s, .int at_, .int c] h0 [] (fun v h S' => (∃ r : Int32, v = some (.int r) ∧ r.toInt = ((j + 1 : Nat) : Int)) ∧ h = h0 ∧ S' = []) := by
  have hEL := hEL1 hw
  have hlt := (List.getElem?_eq_some_iff.mp hg).1
  refine Con.enter (a0 := a0) pn_38 hEL [.val (.ref s), .val (.int at_), .val (.int c)] (fun m => by first | (simp [entryFrame, mkF, argsToLocals, Value.category]; done) | rfl) ?_
  intro K G
  refine G.iloadN d37_0 rfl ?_
  refine G.if_lt d37_1 (fun q => absurd q (not_lt_of_toInt (by rw [toInt_0, hj]; omega))) (fun _ => ?_)
  refine G.iloadN d37_4 rfl ?_
  refine G.aloadN d37_5 rfl rfl ?_
  refine G.callV0 d37_6 (hw 171 rfl) (hw 91 rfl) (hw 92 rfl) (hw 76 rfl) (hw 80 rfl) (hw 12 rfl) pd_13 A.1 (cLEN8 K.l Z a0 hw hEL h0 hC s sb _ A) (fun _ q => nomatch q) ?_
  rintro _ h0 _ ⟨⟨n, rfl, hn'⟩, rfl, rfl⟩ -
  rw [List.length_map] at hn'
  refine G.icmp_ge d37_9 (fun q => absurd (lt_of_toInt (by rw [hj, hn']; omega)) q) (fun _ => ?_)
  refine G.aloadN d37_12 rfl rfl ?_
  refine G.iloadN d37_13 rfl ?_
  refine G.callV1 d37_14 (hw 19 rfl) (hw 20 rfl) (hw 22 rfl) (hw 21 rfl) (hw 23 rfl) (hw 12 rfl) pd_21 A.1 (cSCA8 K.l Z a0 hw hEL h0 hC hF s sb cs hl at_ j hj c hg A) (fun _ q => nomatch q) ?_
  rintro _ h0 _ ⟨rfl, rfl, rfl⟩ -
  refine G.iloadN d37_17 rfl ?_
  refine G.icmp_ne d37_18 (fun q => absurd rfl q) (fun _ => ?_)
  refine G.iloadN d37_21 rfl ?_
  refine G.iconst 1 d37_22 ?_
  refine G.iadd d37_23 ?_
  refine G.goto d37_24 ?_
  exact G.iret d37_28 [] (fun _ q => nomatch q) ⟨⟨_, rfl, inc_toInt hj (by omega)⟩, rfl, rfl⟩
theorem get_at (pre post : List Int32) (c : Int32) : (pre ++ c :: post)[pre.length]? = some c := by simp
abbrev rmNSE : Room := { frames := 5, cells := 2, slots := 264, locals := 70 }
theorem cNSE (l : Launch) (Z : State) (a0 : Array Value) (hw : hwT a0 Z) (h0 : Heap) (hC : CS Z) (hF : SF Z) (s sb : Addr) (cs pre post : List Int32) (hl : Lat cs) (hn : cs.length < 100) (at_ u fb kk : Int32) (hk : (fb = 0 ∧ kk = 65) ∨ (fb = 1 ∧ kk = 52)) (hat : at_.toInt = (pre.length : Int)) (hcs : cs = pre ++ lows (nsT u kk) ++ post) (A : StrB Z h0 s 0 sb (cs.map bL)) :
    Con l Z EL1 false (⟨"com/example/nameshelf/nameshelf/uri/InfoUriParsePinLaw", "nsExp", "(Ljava/lang/String;IIZ)I"⟩ : MethodName) method_11_code 7 (some .int) [] rmNSE #[.ref s, .int at_, .int u, .int fb] h0 [] (fun v h S' => (∃ r : Int32, v = some (.int r) ∧ r.toInt = ((pre ++ lows (nsT u kk)).length : Int)) ∧ Ext h0 h ∧ S' = []) := by
  have hEL := hEL1 hw
  have k5 : K5 kk := by rcases hk with ⟨-, q⟩ | ⟨-, q⟩; exact Or.inr q; exact Or.inl q
  obtain ⟨k1, k2, k3, k4, k6⟩ := k5.r
  have rv := (vO_r u).1
  have a1 := ix1 rv k1
  have a2 := ix2 (k := 65) rv k1 (by decide)
  have a3 := ix2 (k := 65) rv k3 (by decide)
  rw [i65] at a2 a3
  have n0 : Ns (nsC (vO u % kk)) := nsC_ns a1.1 (by omega)
  refine Con.enter (a0 := a0) pn_39 hEL [.val (.ref s), .val (.int at_), .val (.int u), .val (.int fb), .unset, .unset, .unset] (fun m => by first | (simp [entryFrame, mkF, argsToLocals, Value.category]; done) | rfl) ?_
  intro K G
  have t16 : Go Z EL1 false rmNSE (fun v h S' => (∃ r : Int32, v = some (.int r) ∧ r.toInt = ((pre ++ lows (nsT u kk)).length : Int)) ∧ Ext h0 h ∧ S' = []) K h0 [] 0 0 16 [.val (.ref s), .val (.int at_), .val (.int u), .val (.int fb), .val (.int (vO u)), .unset, .unset] [.int kk] := by
    refine G.istore5 d38_16 ?_
    refine G.iload d38_18 rfl ?_
    refine G.iload d38_20 rfl ?_
    refine G.irem d38_22 k4 ?_
    refine G.callSq1 d38_23 (hw 8 rfl) (hw 9 rfl) (hw 3 rfl) (hw 10 rfl) pd_21 (cNSCc K.l Z a0 hw h0 hC hF (vO u % kk) a1.1 (by omega)) (fun _ q => nomatch q) ?_
    rintro _ h1 _ ⟨rfl, E1, rfl⟩ -
    have A1 := A.ext E1
    refine G.istore6 d38_26 ?_
    refine G.iloadN d38_28 rfl ?_
    refine G.iconst 1 d38_29 ?_
    refine G.iand d38_30 ?_
    refine G.if_eq d38_31 (fun q => ?_) (fun q => ?_)
    · have el : lows (nsT u kk) = [low (nsC (vO u % kk)), low (nsC (vO u / kk % 65)), low (nsC (vO u / (kk * 65) % 65))] := by unfold nsT; rw [if_pos q]; rfl
      rw [el] at hcs ⊢
      refine G.aloadN d38_45 rfl rfl ?_
      refine G.iloadN d38_46 rfl ?_
      refine G.iload d38_47 rfl ?_
      refine G.callS1 d38_49 (hw 175 rfl) (hw 176 rfl) (hw 3 rfl) (hw 177 rfl) pd_23 (cLOW K.l Z a0 hw h1 _ n0) (fun _ q => nomatch q) ?_
      rintro _ h1 _ ⟨rfl, rfl, rfl⟩ -
      refine G.callS3 d38_52 (hw 168 rfl) (hw 169 rfl) (hw 3 rfl) (hw 170 rfl) pd_24 (cM K.l Z a0 hw h1 hC hF s sb cs hl (by omega) at_ _ pre.length hat (by rw [hcs]; simp) A1) (fun _ q => nomatch q) ?_
      rintro _ h1 _ ⟨⟨r1, rfl, hr1⟩, rfl, rfl⟩ -
      refine G.istore1 d38_55 ?_
      refine G.aloadN d38_56 rfl rfl ?_
      refine G.iloadN d38_57 rfl ?_
      refine G.iload d38_58 rfl ?_
      refine G.iload d38_60 rfl ?_
      refine G.idiv d38_62 k4 ?_
      refine G.bipush 65 d38_63 ?_
      refine G.irem d38_65 (by decide) ?_
      refine G.callSq1 d38_66 (hw 8 rfl) (hw 9 rfl) (hw 3 rfl) (hw 10 rfl) pd_21 (cNSCw K.l Z a0 hw h1 hC hF (vO u / kk % 65) a2.1 a2.2) (fun _ q => nomatch q) ?_
      rintro _ h1 _ ⟨rfl, rfl, rfl⟩ -
      refine G.callS1 d38_69 (hw 175 rfl) (hw 176 rfl) (hw 3 rfl) (hw 177 rfl) pd_23 (cLOW K.l Z a0 hw h1 _ (nsC_ns a2.1 a2.2)) (fun _ q => nomatch q) ?_
      rintro _ h1 _ ⟨rfl, rfl, rfl⟩ -
      refine G.callS3 d38_72 (hw 168 rfl) (hw 169 rfl) (hw 3 rfl) (hw 170 rfl) pd_24 (cM K.l Z a0 hw h1 hC hF s sb cs hl (by omega) r1 _ (pre.length + 1) hr1 (by rw [hcs]; simp [List.getElem?_append]) A1) (fun _ q => nomatch q) ?_
      rintro _ h1 _ ⟨⟨r2, rfl, hr2⟩, rfl, rfl⟩ -
      refine G.istore1 d38_75 ?_
      refine G.aloadN d38_76 rfl rfl ?_
      refine G.iloadN d38_77 rfl ?_
      refine G.iload d38_78 rfl ?_
      refine G.iload d38_80 rfl ?_
      refine G.bipush 65 d38_82 ?_
      refine G.imul d38_84 ?_
      refine G.idiv d38_85 k6 ?_
      refine G.bipush 65 d38_86 ?_
      refine G.irem d38_88 (by decide) ?_
      refine G.callSq1 d38_89 (hw 8 rfl) (hw 9 rfl) (hw 3 rfl) (hw 10 rfl) pd_21 (cNSCw K.l Z a0 hw h1 hC hF (vO u / (kk * 65) % 65) a3.1 a3.2) (fun _ q => nomatch q) ?_
      rintro _ h1 _ ⟨rfl, rfl, rfl⟩ -
      refine G.callS1 d38_92 (hw 175 rfl) (hw 176 rfl) (hw 3 rfl) (hw 177 rfl) pd_23 (cLOW K.l Z a0 hw h1 _ (nsC_ns a3.1 a3.2)) (fun _ q => nomatch q) ?_
      rintro _ h1 _ ⟨rfl, rfl, rfl⟩ -
      refine G.callS3 d38_95 (hw 168 rfl) (hw 169 rfl) (hw 3 rfl) (hw 170 rfl) pd_24 (cM K.l Z a0 hw h1 hC hF s sb cs hl (by omega) r2 _ (pre.length + 2) hr2 (by rw [hcs]; simp [List.getElem?_append]) A1) (fun _ q => nomatch q) ?_
      rintro _ h1 _ ⟨⟨r3, rfl, hr3⟩, rfl, rfl⟩ -
      exact G.iret d38_98 [] (fun _ q => nomatch q) ⟨⟨r3, rfl, by rw [hr3]; simp; omega⟩, E1, rfl⟩
    · have el : lows (nsT u kk) = [low (nsC (vO u % kk))] := by unfold nsT; rw [if_neg q]; rfl
      rw [el] at hcs ⊢
      refine G.aloadN d38_34 rfl rfl ?_
      refine G.iloadN d38_35 rfl ?_
      refine G.iload d38_36 rfl ?_
      refine G.callS1 d38_38 (hw 175 rfl) (hw 176 rfl) (hw 3 rfl) (hw 177 rfl) pd_23 (cLOW K.l Z a0 hw h1 _ n0) (fun _ q => nomatch q) ?_
      rintro _ h1 _ ⟨rfl, rfl, rfl⟩ -
      refine G.callS3 d38_41 (hw 168 rfl) (hw 169 rfl) (hw 3 rfl) (hw 170 rfl) pd_24 (cM K.l Z a0 hw h1 hC hF s sb cs hl (by omega) at_ _ pre.length hat (by rw [hcs]; simp) A1) (fun _ q => nomatch q) ?_
      rintro _ h1 _ ⟨⟨r1, rfl, hr1⟩, rfl, rfl⟩ -
      exact G.iret d38_44 [] (fun _ q => nomatch q) ⟨⟨r1, rfl, by rw [hr1]; simp⟩, E1, rfl⟩
  refine G.iloadN d38_0 rfl ?_
  refine G.iconst 3 d38_1 ?_
  refine G.iushr d38_2 ?_
  refine G.istore4 d38_3 ?_
  refine G.iloadN d38_5 rfl ?_
  refine G.if_eq d38_6 (fun q => ?_) (fun q => ?_)
  · obtain rfl : kk = 65 := by
      rcases hk with ⟨-, e⟩ | ⟨e, -⟩
      · exact e
      · rw [e] at q; exact absurd q (by decide)
    refine G.bipush 65 d38_14 ?_
    exact t16
  · obtain rfl : kk = 52 := by
      rcases hk with ⟨e, -⟩ | ⟨-, e⟩
      · exact absurd e q
      · exact e
    refine G.bipush 52 d38_9 ?_
    refine G.goto d38_11 ?_
    exact t16
theorem cPCR (l : Launch) (Z : State) (a0 : Array Value) (hw : hwT a0 Z) (h0 : Heap) (c : Int32) : Con l Z EL1 false (⟨"com/example/nameshelf/nameshelf/uri/InfoUriParsePinLaw", "pchar", "(I)Z"⟩ : MethodName) method_8_code 1 (some .boolean) [] rm0 #[.int c] h0 [] (fun v h S' => (∃ b : Int32, v = some (.int b) ∧ (b ≠ 0 ↔ Pch c)) ∧ h = h0 ∧ S' = []) := by
  have hEL := hEL1 hw
  refine Con.enter (a0 := a0) pn_40 hEL [.val (.int c)] (fun m => by first | (simp [entryFrame, mkF, argsToLocals, Value.category]; done) | rfl) ?_
  intro K G
  have yes : Pch c → Go Z EL1 false rm0 (fun v h S' => (∃ b : Int32, v = some (.int b) ∧ (b ≠ 0 ↔ Pch c)) ∧ h = h0 ∧ S' = []) K h0 [] 0 0 138 [.val (.int c)] [] := by
    intro hl
    refine G.iconst 1 d53_138 ?_
    refine G.goto d53_139 ?_
    exact G.nret d53_143 (Or.inl rfl) (z' := 1) (by decide) [] (fun _ q => nomatch q) ⟨⟨_, rfl, ⟨fun _ => hl, fun _ => by decide⟩⟩, rfl, rfl⟩
  have t36 : ¬ (65 ≤ c.toInt ∧ c.toInt ≤ 90) → ¬ (97 ≤ c.toInt ∧ c.toInt ≤ 122) → ¬ (48 ≤ c.toInt ∧ c.toInt ≤ 57) → Go Z EL1 false rm0 (fun v h S' => (∃ b : Int32, v = some (.int b) ∧ (b ≠ 0 ↔ Pch c)) ∧ h = h0 ∧ S' = []) K h0 [] 0 0 36 [.val (.int c)] [] := by
    intro g1 g2 g3
    refine G.iloadN d53_36 rfl ?_
    refine G.bipush 45 d53_37 ?_
    refine G.icmp_eq d53_39 (fun q => yes (by have := (eqI (z := 45) (by decide)).mp q; unfold Pch; omega)) (fun q0 => ?_)
    refine G.iloadN d53_42 rfl ?_
    refine G.bipush 46 d53_43 ?_
    refine G.icmp_eq d53_45 (fun q => yes (by have := (eqI (z := 46) (by decide)).mp q; unfold Pch; omega)) (fun q1 => ?_)
    refine G.iloadN d53_48 rfl ?_
    refine G.bipush 95 d53_49 ?_
    refine G.icmp_eq d53_51 (fun q => yes (by have := (eqI (z := 95) (by decide)).mp q; unfold Pch; omega)) (fun q2 => ?_)
    refine G.iloadN d53_54 rfl ?_
    refine G.bipush 126 d53_55 ?_
    refine G.icmp_eq d53_57 (fun q => yes (by have := (eqI (z := 126) (by decide)).mp q; unfold Pch; omega)) (fun q3 => ?_)
    refine G.iloadN d53_60 rfl ?_
    refine G.bipush 33 d53_61 ?_
    refine G.icmp_eq d53_63 (fun q => yes (by have := (eqI (z := 33) (by decide)).mp q; unfold Pch; omega)) (fun q4 => ?_)
    refine G.iloadN d53_66 rfl ?_
    refine G.bipush 36 d53_67 ?_
    refine G.icmp_eq d53_69 (fun q => yes (by have := (eqI (z := 36) (by decide)).mp q; unfold Pch; omega)) (fun q5 => ?_)
    refine G.iloadN d53_72 rfl ?_
    refine G.bipush 38 d53_73 ?_
    refine G.icmp_eq d53_75 (fun q => yes (by have := (eqI (z := 38) (by decide)).mp q; unfold Pch; omega)) (fun q6 => ?_)
    refine G.iloadN d53_78 rfl ?_
    refine G.bipush 39 d53_79 ?_
    refine G.icmp_eq d53_81 (fun q => yes (by have := (eqI (z := 39) (by decide)).mp q; unfold Pch; omega)) (fun q7 => ?_)
    refine G.iloadN d53_84 rfl ?_
    refine G.bipush 40 d53_85 ?_
    refine G.icmp_eq d53_87 (fun q => yes (by have := (eqI (z := 40) (by decide)).mp q; unfold Pch; omega)) (fun q8 => ?_)
    refine G.iloadN d53_90 rfl ?_
    refine G.bipush 41 d53_91 ?_
    refine G.icmp_eq d53_93 (fun q => yes (by have := (eqI (z := 41) (by decide)).mp q; unfold Pch; omega)) (fun q9 => ?_)
    refine G.iloadN d53_96 rfl ?_
    refine G.bipush 42 d53_97 ?_
    refine G.icmp_eq d53_99 (fun q => yes (by have := (eqI (z := 42) (by decide)).mp q; unfold Pch; omega)) (fun q10 => ?_)
    refine G.iloadN d53_102 rfl ?_
    refine G.bipush 43 d53_103 ?_
    refine G.icmp_eq d53_105 (fun q => yes (by have := (eqI (z := 43) (by decide)).mp q; unfold Pch; omega)) (fun q11 => ?_)
    refine G.iloadN d53_108 rfl ?_
    refine G.bipush 44 d53_109 ?_
    refine G.icmp_eq d53_111 (fun q => yes (by have := (eqI (z := 44) (by decide)).mp q; unfold Pch; omega)) (fun q12 => ?_)
    refine G.iloadN d53_114 rfl ?_
    refine G.bipush 59 d53_115 ?_
    refine G.icmp_eq d53_117 (fun q => yes (by have := (eqI (z := 59) (by decide)).mp q; unfold Pch; omega)) (fun q13 => ?_)
    refine G.iloadN d53_120 rfl ?_
    refine G.bipush 61 d53_121 ?_
    refine G.icmp_eq d53_123 (fun q => yes (by have := (eqI (z := 61) (by decide)).mp q; unfold Pch; omega)) (fun q14 => ?_)
    refine G.iloadN d53_126 rfl ?_
    refine G.bipush 58 d53_127 ?_
    refine G.icmp_eq d53_129 (fun q => yes (by have := (eqI (z := 58) (by decide)).mp q; unfold Pch; omega)) (fun q15 => ?_)
    refine G.iloadN d53_132 rfl ?_
    refine G.bipush 64 d53_133 ?_
    refine G.icmp_ne d53_135 (fun q99 => ?_) (fun q => yes (by have := (eqI (z := 64) (by decide)).mp q; unfold Pch; omega))
    have hn : ¬ Pch c := by
      have r0 : c.toInt ≠ 45 := fun z => q0 ((eqI (by decide)).mpr z)
      have r1 : c.toInt ≠ 46 := fun z => q1 ((eqI (by decide)).mpr z)
      have r2 : c.toInt ≠ 95 := fun z => q2 ((eqI (by decide)).mpr z)
      have r3 : c.toInt ≠ 126 := fun z => q3 ((eqI (by decide)).mpr z)
      have r4 : c.toInt ≠ 33 := fun z => q4 ((eqI (by decide)).mpr z)
      have r5 : c.toInt ≠ 36 := fun z => q5 ((eqI (by decide)).mpr z)
      have r6 : c.toInt ≠ 38 := fun z => q6 ((eqI (by decide)).mpr z)
      have r7 : c.toInt ≠ 39 := fun z => q7 ((eqI (by decide)).mpr z)
      have r8 : c.toInt ≠ 40 := fun z => q8 ((eqI (by decide)).mpr z)
      have r9 : c.toInt ≠ 41 := fun z => q9 ((eqI (by decide)).mpr z)
      have r10 : c.toInt ≠ 42 := fun z => q10 ((eqI (by decide)).mpr z)
      have r11 : c.toInt ≠ 43 := fun z => q11 ((eqI (by decide)).mpr z)
      have r12 : c.toInt ≠ 44 := fun z => q12 ((eqI (by decide)).mpr z)
      have r13 : c.toInt ≠ 59 := fun z => q13 ((eqI (by decide)).mpr z)
      have r14 : c.toInt ≠ 61 := fun z => q14 ((eqI (by decide)).mpr z)
      have r15 : c.toInt ≠ 58 := fun z => q15 ((eqI (by decide)).mpr z)
      have r99 : c.toInt ≠ 64 := fun z => q99 ((eqI (by decide)).mpr z)
      unfold Pch; omega
    refine G.iconst 0 d53_142 ?_
    exact G.nret d53_143 (Or.inl rfl) (z' := 0) (by decide) [] (fun _ q => nomatch q) ⟨⟨_, rfl, ⟨fun z => absurd rfl z, fun z => absurd z hn⟩⟩, rfl, rfl⟩
  have t24 : ¬ (65 ≤ c.toInt ∧ c.toInt ≤ 90) → ¬ (97 ≤ c.toInt ∧ c.toInt ≤ 122) → Go Z EL1 false rm0 (fun v h S' => (∃ b : Int32, v = some (.int b) ∧ (b ≠ 0 ↔ Pch c)) ∧ h = h0 ∧ S' = []) K h0 [] 0 0 24 [.val (.int c)] [] := by
    intro g1 g2
    refine G.iloadN d53_24 rfl ?_
    refine G.bipush 48 d53_25 ?_
    refine G.icmp_lt d53_27 (fun q => ?_) (fun q => ?_) <;> rw [Int32.lt_iff_toInt_lt, i48] at q
    · exact t36 g1 g2 (fun z => by omega)
    · refine G.iloadN d53_30 rfl ?_
      refine G.bipush 57 d53_31 ?_
      refine G.icmp_le d53_33 (fun q2 => ?_) (fun q2 => ?_) <;> rw [Int32.lt_iff_toInt_lt, i57] at q2
      · exact yes (by unfold Pch; omega)
      · exact t36 g1 g2 (fun z => by omega)
  have t12 : ¬ (65 ≤ c.toInt ∧ c.toInt ≤ 90) → Go Z EL1 false rm0 (fun v h S' => (∃ b : Int32, v = some (.int b) ∧ (b ≠ 0 ↔ Pch c)) ∧ h = h0 ∧ S' = []) K h0 [] 0 0 12 [.val (.int c)] [] := by
    intro g1
    refine G.iloadN d53_12 rfl ?_
    refine G.bipush 97 d53_13 ?_
    refine G.icmp_lt d53_15 (fun q => ?_) (fun q => ?_) <;> rw [Int32.lt_iff_toInt_lt, i97] at q
    · exact t24 g1 (fun z => by omega)
    · refine G.iloadN d53_18 rfl ?_
      refine G.bipush 122 d53_19 ?_
      refine G.icmp_le d53_21 (fun q2 => ?_) (fun q2 => ?_) <;> rw [Int32.lt_iff_toInt_lt, i122] at q2
      · exact yes (by unfold Pch; omega)
      · exact t24 g1 (fun z => by omega)
  refine G.iloadN d53_0 rfl ?_
  refine G.bipush 65 d53_1 ?_
  refine G.icmp_lt d53_3 (fun q => ?_) (fun q => ?_) <;> rw [Int32.lt_iff_toInt_lt, i65] at q
  · exact t12 (fun z => by omega)
  · refine G.iloadN d53_6 rfl ?_
    refine G.bipush 90 d53_7 ?_
    refine G.icmp_le d53_9 (fun q2 => ?_) (fun q2 => ?_) <;> rw [Int32.lt_iff_toInt_lt, i90] at q2
    · exact yes (by unfold Pch; omega)
    · exact t12 (fun z => by omega)
abbrev rmEXP : Room := { frames := 5, cells := 2, slots := 328, locals := 70 }
theorem cEXP (l : Launch) (Z : State) (a0 : Array Value) (hw : hwT a0 Z) (h0 : Heap) (hC : CS Z) (hF : SF Z) (s sb : Addr) (cs pre post : List Int32) (hl : Lat cs) (hn : cs.length < 100) (at_ u kk : Int32) (hk : K8 kk) (hat : at_.toInt = (pre.length : Int)) (hcs : cs = pre ++ encs (unT u kk) ++ post) (A : StrB Z h0 s 0 sb (cs.map bL)) :
    Con l Z EL1 false (⟨"com/example/nameshelf/nameshelf/uri/InfoUriParsePinLaw", "exp", "(Ljava/lang/String;III)I"⟩ : MethodName) method_13_code 6 (some .int) [] rmEXP #[.ref s, .int at_, .int u, .int kk] h0 [] (fun v h S' => (∃ r : Int32, v = some (.int r) ∧ r.toInt = ((pre ++ encs (unT u kk)).length : Int)) ∧ Ext h0 h ∧ S' = []) := by
  have hEL := hEL1 hw
  obtain ⟨k1, k2, k3, k4, k6⟩ := hk.r
  have rv := (vO_r u).1
  have a1 := ix1 rv k1
  have a2 := ix2 (k := kk) rv k1 k1
  have a3 := ix2 (k := kk) rv k3 k1
  have er : Ext h0 h0 := ⟨Nat.le_refl _, fun _ _ q => q⟩
  refine Con.enter (a0 := a0) pn_41 hEL [.val (.ref s), .val (.int at_), .val (.int u), .val (.int kk), .unset, .unset] (fun m => by first | (simp [entryFrame, mkF, argsToLocals, Value.category]; done) | rfl) ?_
  intro K G
  refine G.iloadN d52_0 rfl ?_
  refine G.iconst 3 d52_1 ?_
  refine G.iushr d52_2 ?_
  refine G.istore4 d52_3 ?_
  refine G.iloadN d52_5 rfl ?_
  refine G.iconst 1 d52_6 ?_
  refine G.iand d52_7 ?_
  rw [show (u.toUInt32 >>> ((3 : Int32) &&& 31).toUInt32).toInt32 = vO u from rfl]
  refine G.if_eq d52_8 (fun q => ?_) (fun q => ?_)
  · have el : encs (unT u kk) = [rwC (vO u % kk), rwC (vO u / kk % kk), rwC (vO u / (kk * kk) % kk)] := by unfold unT; rw [if_pos q]; rfl
    rw [el] at hcs ⊢
    refine G.aloadN d52_73 rfl rfl ?_
    refine G.iloadN d52_74 rfl ?_
    refine G.iload d52_75 rfl ?_
    refine G.iloadN d52_77 rfl ?_
    refine G.irem d52_78 k4 ?_
    refine G.callSq1 d52_79 (hw 222 rfl) (hw 223 rfl) (hw 3 rfl) (hw 224 rfl) pd_21 (cRAWc K.l Z a0 hw h0 hC hF (vO u % kk) a1.1 (by omega)) (fun _ q => nomatch q) ?_
    rintro _ h1 _ ⟨rfl, E1, rfl⟩ -
    have A1 := A.ext E1
    refine G.callS3 d52_82 (hw 168 rfl) (hw 169 rfl) (hw 3 rfl) (hw 170 rfl) pd_24 (cM K.l Z a0 hw h1 hC hF s sb cs hl (by omega) at_ _ pre.length hat (by rw [hcs]; simp) A1) (fun _ q => nomatch q) ?_
    rintro _ h1 _ ⟨⟨r1, rfl, hr1⟩, rfl, rfl⟩ -
    refine G.istore1 d52_85 ?_
    refine G.aloadN d52_86 rfl rfl ?_
    refine G.iloadN d52_87 rfl ?_
    refine G.iload d52_88 rfl ?_
    refine G.iloadN d52_90 rfl ?_
    refine G.idiv d52_91 k4 ?_
    refine G.iloadN d52_92 rfl ?_
    refine G.irem d52_93 k4 ?_
    refine G.callSq1 d52_94 (hw 222 rfl) (hw 223 rfl) (hw 3 rfl) (hw 224 rfl) pd_21 (cRAWw K.l Z a0 hw h1 hC hF (vO u / kk % kk) a2.1 (by omega)) (fun _ q => nomatch q) ?_
    rintro _ h1 _ ⟨rfl, rfl, rfl⟩ -
    refine G.callS3 d52_97 (hw 168 rfl) (hw 169 rfl) (hw 3 rfl) (hw 170 rfl) pd_24 (cM K.l Z a0 hw h1 hC hF s sb cs hl (by omega) r1 _ (pre.length + 1) hr1 (by rw [hcs]; simp [List.getElem?_append]) A1) (fun _ q => nomatch q) ?_
    rintro _ h1 _ ⟨⟨r2, rfl, hr2⟩, rfl, rfl⟩ -
    refine G.istore1 d52_100 ?_
    refine G.aloadN d52_101 rfl rfl ?_
    refine G.iloadN d52_102 rfl ?_
    refine G.iload d52_103 rfl ?_
    refine G.iloadN d52_105 rfl ?_
    refine G.iloadN d52_106 rfl ?_
    refine G.imul d52_107 ?_
    refine G.idiv d52_108 k6 ?_
    refine G.iloadN d52_109 rfl ?_
    refine G.irem d52_110 k4 ?_
    refine G.callSq1 d52_111 (hw 222 rfl) (hw 223 rfl) (hw 3 rfl) (hw 224 rfl) pd_21 (cRAWw K.l Z a0 hw h1 hC hF (vO u / (kk * kk) % kk) a3.1 (by omega)) (fun _ q => nomatch q) ?_
    rintro _ h1 _ ⟨rfl, rfl, rfl⟩ -
    refine G.callS3 d52_114 (hw 168 rfl) (hw 169 rfl) (hw 3 rfl) (hw 170 rfl) pd_24 (cM K.l Z a0 hw h1 hC hF s sb cs hl (by omega) r2 _ (pre.length + 2) hr2 (by rw [hcs]; simp [List.getElem?_append]) A1) (fun _ q => nomatch q) ?_
    rintro _ h1 _ ⟨⟨r3, rfl, hr3⟩, rfl, rfl⟩ -
    exact G.iret d52_117 [] (fun _ q => nomatch q) ⟨⟨r3, rfl, by rw [hr3]; simp; omega⟩, E1, rfl⟩
  · have c8 := b255 u
    obtain ⟨n1, n2⟩ := nib (v := vO u &&& 255)
    have c01 := c8.1
    have c02 := c8.2
    have el : encs (unT u kk) = encB (vO u &&& 255) := by unfold unT; rw [if_neg q]; simp [encs, enc]
    rw [el] at hcs ⊢
    refine G.iload d52_11 rfl ?_
    refine G.sipush 255 d52_13 ?_
    refine G.iand d52_16 ?_
    refine G.istore5 d52_17 ?_
    refine G.iload d52_19 rfl ?_
    refine G.callS1 d52_21 (hw 236 rfl) (hw 237 rfl) (hw 3 rfl) (hw 238 rfl) pd_20 (cPCR K.l Z a0 hw h0 (vO u &&& 255)) (fun _ q => nomatch q) ?_
    rintro _ h0 _ ⟨⟨b, rfl, hb⟩, rfl, rfl⟩ -
    refine G.if_eq d52_24 (fun z => ?_) (fun z => ?_)
    · have hp : ¬ Pch (vO u &&& 255) := fun w => (hb.mpr w) z
      have e2 : encB (vO u &&& 255) = [37, hx ((vO u &&& 255) >>> ((4 : Int32) &&& 31)) 0, hx ((vO u &&& 255) &&& 15) 0] := by unfold encB; rw [if_neg hp]
      rw [e2] at hcs ⊢
      refine G.aloadN d52_36 rfl rfl ?_
      refine G.iloadN d52_37 rfl ?_
      refine G.bipush 37 d52_38 ?_
      refine G.callS3 d52_40 (hw 168 rfl) (hw 169 rfl) (hw 3 rfl) (hw 170 rfl) pd_24 (cM K.l Z a0 hw h0 hC hF s sb cs hl (by omega) at_ _ pre.length hat (by rw [hcs]; simp) A) (fun _ q => nomatch q) ?_
      rintro _ h0 _ ⟨⟨r1, rfl, hr1⟩, rfl, rfl⟩ -
      refine G.istore1 d52_43 ?_
      refine G.aloadN d52_44 rfl rfl ?_
      refine G.iloadN d52_45 rfl ?_
      refine G.iload d52_46 rfl ?_
      refine G.iconst 4 d52_48 ?_
      refine G.ishr d52_49 ?_
      refine G.iconst 0 d52_50 ?_
      refine G.callS2 d52_51 (hw 44 rfl) (hw 45 rfl) (hw 3 rfl) (hw 46 rfl) pd_22 (cHEX K.l Z a0 hw h0 _ 0 (by omega) (by omega)) (fun _ q => nomatch q) ?_
      rintro _ h0 _ ⟨rfl, rfl, rfl⟩ -
      refine G.callS3 d52_54 (hw 168 rfl) (hw 169 rfl) (hw 3 rfl) (hw 170 rfl) pd_24 (cM K.l Z a0 hw h0 hC hF s sb cs hl (by omega) r1 _ (pre.length + 1) hr1 (by rw [hcs]; simp [List.getElem?_append]) A) (fun _ q => nomatch q) ?_
      rintro _ h0 _ ⟨⟨r2, rfl, hr2⟩, rfl, rfl⟩ -
      refine G.istore1 d52_57 ?_
      refine G.aloadN d52_58 rfl rfl ?_
      refine G.iloadN d52_59 rfl ?_
      refine G.iload d52_60 rfl ?_
      refine G.bipush 15 d52_62 ?_
      refine G.iand d52_64 ?_
      refine G.iconst 0 d52_65 ?_
      refine G.callS2 d52_66 (hw 44 rfl) (hw 45 rfl) (hw 3 rfl) (hw 46 rfl) pd_22 (cHEX K.l Z a0 hw h0 _ 0 (by omega) (by omega)) (fun _ q => nomatch q) ?_
      rintro _ h0 _ ⟨rfl, rfl, rfl⟩ -
      refine G.callS3 d52_69 (hw 168 rfl) (hw 169 rfl) (hw 3 rfl) (hw 170 rfl) pd_24 (cM K.l Z a0 hw h0 hC hF s sb cs hl (by omega) r2 _ (pre.length + 2) hr2 (by rw [hcs]; simp [List.getElem?_append]) A) (fun _ q => nomatch q) ?_
      rintro _ h0 _ ⟨⟨r3, rfl, hr3⟩, rfl, rfl⟩ -
      exact G.iret d52_72 [] (fun _ q => nomatch q) ⟨⟨r3, rfl, by rw [hr3]; simp; omega⟩, er, rfl⟩
    · have hp : Pch (vO u &&& 255) := hb.mp z
      have e2 : encB (vO u &&& 255) = [vO u &&& 255] := by unfold encB; rw [if_pos hp]
      rw [e2] at hcs ⊢
      refine G.aloadN d52_27 rfl rfl ?_
      refine G.iloadN d52_28 rfl ?_
      refine G.iload d52_29 rfl ?_
      refine G.i2c d52_31 ?_
      rw [i2c8 c8]
      refine G.callS3 d52_32 (hw 168 rfl) (hw 169 rfl) (hw 3 rfl) (hw 170 rfl) pd_24 (cM K.l Z a0 hw h0 hC hF s sb cs hl (by omega) at_ _ pre.length hat (by rw [hcs]; simp) A) (fun _ q => nomatch q) ?_
      rintro _ h0 _ ⟨⟨r1, rfl, hr1⟩, rfl, rfl⟩ -
      exact G.iret d52_35 [] (fun _ q => nomatch q) ⟨⟨r1, rfl, by rw [hr1]; simp⟩, er, rfl⟩
-- CHUNK
theorem cISD (l : Launch) (Z : State) (a0 : Array Value) (hw : hwT a0 Z) (h0 : Heap) (c : Int32) : Con l Z EL1 false (⟨"com/example/nameshelf/nameshelf/uri/InfoUri", "isDigit", "(I)Z"⟩ : MethodName) prog_62_method_21_code 1 (some .boolean) [] rm0 #[.int c] h0 [] (fun v h S' => (∃ b : Int32, v = some (.int b) ∧ (b ≠ 0 ↔ (48 ≤ c.toInt ∧ c.toInt ≤ 57))) ∧ h = h0 ∧ S' = []) := by
  have hEL := hEL1 hw
  refine Con.enter (a0 := a0) pn_42 hEL [.val (.int c)] (fun m => by first | (simp [entryFrame, mkF, argsToLocals, Value.category]; done) | rfl) ?_
  intro K G
  have no : ¬ (48 ≤ c.toInt ∧ c.toInt ≤ 57) → Go Z EL1 false rm0 (fun v h S' => (∃ b : Int32, v = some (.int b) ∧ (b ≠ 0 ↔ (48 ≤ c.toInt ∧ c.toInt ≤ 57))) ∧ h = h0 ∧ S' = []) K h0 [] 0 0 16 [.val (.int c)] [] := by
    intro hl
    refine G.iconst 0 d31_16 ?_
    exact G.nret d31_17 (Or.inl rfl) (z' := 0) (by decide) [] (fun _ q => nomatch q) ⟨⟨_, rfl, ⟨fun z => absurd rfl z, fun z => absurd z hl⟩⟩, rfl, rfl⟩
  refine G.iloadN d31_0 rfl ?_
  refine G.bipush 48 d31_1 ?_
  refine G.icmp_lt d31_3 (fun q => ?_) (fun q => ?_) <;> rw [Int32.lt_iff_toInt_lt, i48] at q
  · exact no (fun z => by omega)
  · refine G.iloadN d31_6 rfl ?_
    refine G.bipush 57 d31_7 ?_
    refine G.icmp_gt d31_9 (fun q2 => ?_) (fun q2 => ?_) <;> rw [Int32.lt_iff_toInt_lt, i57] at q2
    · exact no (fun z => by omega)
    · refine G.iconst 1 d31_12 ?_
      refine G.goto d31_13 ?_
      exact G.nret d31_17 (Or.inl rfl) (z' := 1) (by decide) [] (fun _ q => nomatch q) ⟨⟨_, rfl, ⟨fun _ => ⟨by omega, by omega⟩, fun _ => by decide⟩⟩, rfl, rfl⟩
abbrev rmHV : Room := { frames := 2, cells := 0, slots := 0, locals := 24 }
theorem cHV (l : Launch) (Z : State) (a0 : Array Value) (hw : hwT a0 Z) (h0 : Heap) (c x : Int32) (hx' : Hx c x) : Con l Z EL1 false (⟨"com/example/nameshelf/nameshelf/uri/InfoUri", "hexValue", "(C)I"⟩ : MethodName) prog_62_method_17_code 2 (some .int) [] rmHV #[.int c] h0 [] (fun v h S' => v = some (.int x) ∧ h = h0 ∧ S' = []) := by
  have hEL := hEL1 hw
  obtain ⟨x0, x1, hor⟩ := hx'
  refine Con.enter (a0 := a0) pn_43 hEL [.val (.int c), .unset] (fun m => by first | (simp [entryFrame, mkF, argsToLocals, Value.category]; done) | rfl) ?_
  intro K G
  refine G.iloadN d30_0 rfl ?_
  refine G.callS1 d30_1 (hw 136 rfl) (hw 137 rfl) (hw 70 rfl) (hw 138 rfl) pd_20 (cISD K.l Z a0 hw h0 c) (fun _ q => nomatch q) ?_
  rintro _ h0 _ ⟨⟨b, rfl, hb⟩, rfl, rfl⟩ -
  refine G.if_eq d30_4 (fun q => ?_) (fun q => ?_)
  · have hn : ¬ (48 ≤ c.toInt ∧ c.toInt ≤ 57) := fun z => (hb.mpr z) q
    have hl : Let c := by rcases hor with z | ⟨z1, z | z⟩; omega; exact Or.inl (by omega); exact Or.inr (by omega)
    have hlo : (low c).toInt = x.toInt + 87 := by
      rcases hl with z | z
      · have := (low_toInt (Or.inl (Or.inl z))).2 z; omega
      · unfold low; rw [if_neg (by omega)]; omega
    refine G.iloadN d30_12 rfl ?_
    refine G.callS1 d30_13 (hw 99 rfl) (hw 100 rfl) (hw 70 rfl) (hw 101 rfl) pd_25 (cILW K.l Z a0 hw h0 c) (fun _ q => nomatch q) ?_
    rintro _ h0 _ ⟨rfl, rfl, rfl⟩ -
    refine G.istore1 d30_16 ?_
    refine G.iloadN d30_17 rfl ?_
    refine G.bipush 97 d30_18 ?_
    refine G.icmp_lt d30_20 (fun q => ?_) (fun _ => ?_)
    · rw [Int32.lt_iff_toInt_lt, i97] at q; omega
    refine G.iloadN d30_23 rfl ?_
    refine G.bipush 102 d30_24 ?_
    refine G.icmp_gt d30_26 (fun q => ?_) (fun _ => ?_)
    · rw [Int32.lt_iff_toInt_lt, i102] at q; omega
    refine G.iloadN d30_29 rfl ?_
    refine G.bipush 97 d30_30 ?_
    refine G.isub d30_32 ?_
    refine G.bipush 10 d30_33 ?_
    refine G.iadd d30_35 ?_
    refine G.goto d30_36 ?_
    have e : low c - 97 + 10 = x := by
      apply Int32.toInt_inj.mp
      have b1 := c_isub (low c) 97
      have b2 := rng32 (low c - 97)
      have b3 := c_iadd (low c - 97) 10
      have b4 := rng32 (low c - 97 + 10)
      rw [i97] at b1
      rw [i10] at b3
      omega
    rw [e]
    exact G.iret d30_40 [] (fun _ q => nomatch q) ⟨rfl, rfl, rfl⟩
  · have hd := hb.mp q
    have e : c - 48 = x := by
      apply Int32.toInt_inj.mp
      have b1 := c_isub c 48
      have b2 := rng32 (c - 48)
      rw [i48] at b1
      omega
    refine G.iloadN d30_7 rfl ?_
    refine G.bipush 48 d30_8 ?_
    refine G.isub d30_10 ?_
    rw [e]
    exact G.iret d30_11 [] (fun _ q => nomatch q) ⟨rfl, rfl, rfl⟩
abbrev rmEB : Room := { frames := 4, cells := 0, slots := 0, locals := 53 }
theorem cEB (l : Launch) (Z : State) (a0 : Array Value) (hw : hwT a0 Z) (h0 : Heap) (hC : CS Z) (hF : SF Z) (s sb : Addr) (cs : List Int32) (hl : Lat cs) (hn : cs.length < 2147483647) (i : Int32) (j : Nat) (hi : i.toInt = (j : Int)) (v a b : Int32) (ha : cs[j + 1]? = some a) (hb : cs[j + 2]? = some b) (hv : EscOk v a b) (A : StrB Z h0 s 0 sb (cs.map bL)) :
    Con l Z EL1 false (⟨"com/example/nameshelf/nameshelf/uri/InfoUri", "escapedByte", "(Ljava/lang/CharSequence;I)I"⟩ : MethodName) prog_62_method_15_code 4 (some .int) [] rmEB #[.ref s, .int i] h0 [] (fun w h S' => w = some (.int v) ∧ h = h0 ∧ S' = []) := by
  have hEL := hEL1 hw
  obtain ⟨x, y, hx, hy, hv⟩ := hv
  have hlt := (List.getElem?_eq_some_iff.mp hb).1
  have e1 : (1 : Int32).toInt = ((1 : Nat) : Int) := by decide
  have e2 : (2 : Int32).toInt = ((2 : Nat) : Int) := by decide
  refine Con.enter (a0 := a0) pn_44 hEL [.val (.ref s), .val (.int i), .unset, .unset] (fun m => by first | (simp [entryFrame, mkF, argsToLocals, Value.category]; done) | rfl) ?_
  intro K G
  refine G.iloadN d29_0 rfl ?_
  refine G.iconst 2 d29_1 ?_
  refine G.iadd d29_2 ?_
  refine G.aloadN d29_3 rfl rfl ?_
  refine G.callF0 d29_4 (hw 72 rfl) (hw 73 rfl) (hw 74 rfl) (hw 75 rfl) (hw 76 rfl) (hw 77 rfl) (hw 78 rfl) (hw 79 rfl) (hw 80 rfl) (hw 12 rfl) pd_13 A.1 (cLEN8 K.l Z a0 hw hEL h0 hC s sb _ A) (fun _ q => nomatch q) ?_
  rintro _ h0 _ ⟨⟨n, rfl, hn'⟩, rfl, rfl⟩ -
  rw [List.length_map] at hn'
  refine G.icmp_ge d29_9 (fun q => absurd (lt_of_toInt (by rw [addI hi e2 (by omega), hn']; omega)) q) (fun _ => ?_)
  refine G.aloadN d29_12 rfl rfl ?_
  refine G.iloadN d29_13 rfl ?_
  refine G.iconst 1 d29_14 ?_
  refine G.iadd d29_15 ?_
  refine G.callF1 d29_16 (hw 93 rfl) (hw 94 rfl) (hw 95 rfl) (hw 96 rfl) (hw 21 rfl) (hw 97 rfl) (hw 98 rfl) (hw 79 rfl) (hw 23 rfl) (hw 12 rfl) pd_21 A.1 (cSCA8 K.l Z a0 hw hEL h0 hC hF s sb cs hl (i + 1) (j + 1) (addI hi e1 (by omega)) a ha A) (fun _ q => nomatch q) ?_
  rintro _ h0 _ ⟨rfl, rfl, rfl⟩ -
  refine G.callS1 d29_21 (hw 133 rfl) (hw 134 rfl) (hw 70 rfl) (hw 135 rfl) pd_26 (cHV K.l Z a0 hw h0 a x hx) (fun _ q => nomatch q) ?_
  rintro _ h0 _ ⟨rfl, rfl, rfl⟩ -
  refine G.goto d29_24 ?_
  refine G.istore2 d29_28 ?_
  refine G.iloadN d29_29 rfl ?_
  refine G.if_ge d29_30 (fun _ => ?_) (fun q => absurd q (not_lt_of_toInt (by rw [toInt_0]; exact hx.1)))
  refine G.aloadN d29_37 rfl rfl ?_
  refine G.iloadN d29_38 rfl ?_
  refine G.iconst 2 d29_39 ?_
  refine G.iadd d29_40 ?_
  refine G.callF1 d29_41 (hw 93 rfl) (hw 94 rfl) (hw 95 rfl) (hw 96 rfl) (hw 21 rfl) (hw 97 rfl) (hw 98 rfl) (hw 79 rfl) (hw 23 rfl) (hw 12 rfl) pd_21 A.1 (cSCA8 K.l Z a0 hw hEL h0 hC hF s sb cs hl (i + 2) (j + 2) (addI hi e2 (by omega)) b hb A) (fun _ q => nomatch q) ?_
  rintro _ h0 _ ⟨rfl, rfl, rfl⟩ -
  refine G.callS1 d29_46 (hw 133 rfl) (hw 134 rfl) (hw 70 rfl) (hw 135 rfl) pd_26 (cHV K.l Z a0 hw h0 b y hy) (fun _ q => nomatch q) ?_
  rintro _ h0 _ ⟨rfl, rfl, rfl⟩ -
  refine G.istore3 d29_49 ?_
  refine G.iloadN d29_50 rfl ?_
  refine G.if_ge d29_51 (fun _ => ?_) (fun q => absurd q (not_lt_of_toInt (by rw [toInt_0]; exact hy.1)))
  refine G.iloadN d29_71 rfl ?_
  refine G.iconst 4 d29_72 ?_
  refine G.ishl d29_73 ?_
  refine G.iloadN d29_74 rfl ?_
  refine G.ior d29_75 ?_
  rw [joinB ⟨hx.1, hx.2.1⟩ ⟨hy.1, hy.2.1⟩ hv]
  exact G.iret d29_76 [] (fun _ q => nomatch q) ⟨rfl, rfl, rfl⟩
theorem cPB (l : Launch) (Z : State) (a0 : Array Value) (hw : hwT a0 Z) (h0 : Heap) (hP : PC Z) (hX : HS Z) (t : Addr) (i v : Int32) (N : Nat) (out : List Int32) (hi : i.toInt = (out.length : Int)) (hN : out.length + 3 ≤ N) (hN2 : N < 32) (hv : C8 v) (A : Al Z h0 t .char (nA N out)) :
    Con l Z EL1 false (⟨"com/example/nameshelf/nameshelf/uri/InfoUri", "putByte", "([CII)I"⟩ : MethodName) prog_62_method_13_code 4 (some .int) [] rm0 #[.ref t, .int i, .int v] h0 [t] (fun w h S' => (∃ r : Int32, w = some (.int r) ∧ r.toInt = ((out ++ encB v).length : Int)) ∧ Al Z h t .char (nA N (out ++ encB v)) ∧ Keep h0 h [t] ∧ S' = []) := by
  have hEL := hEL1 hw
  have v1 := hv.1
  have v2 := hv.2
  obtain ⟨n1, n2⟩ := nib (v := v)
  obtain ⟨pa, pvs, P1, P2, P3⟩ := hP
  obtain ⟨xa, xvs, X1, X2, X3⟩ := hX
  have e1 : (1 : Int32).toInt = ((1 : Nat) : Int) := by decide
  have e2 : (2 : Int32).toInt = ((2 : Nat) : Int) := by decide
  have e3 : (3 : Int32).toInt = ((3 : Nat) : Int) := by decide
  refine Con.enter (a0 := a0) pn_45 hEL [.val (.ref t), .val (.int i), .val (.int v), .unset] (fun m => by first | (simp [entryFrame, mkF, argsToLocals, Value.category]; done) | rfl) ?_
  intro K G
  have hget : ∀ d : Int32, 0 ≤ d.toInt → d.toInt < 16 → xvs[d.toInt.toNat]? = some (.int (hx d 0)) := by
    intro d d0 d1
    obtain ⟨c, h1, h2⟩ := X3 d.toInt.toNat (by omega)
    have e : c = hx d 0 := by
      apply Int32.toInt_inj.mp
      have := hx_int 0 d0 d1
      by_cases q : d.toInt < 10
      · rw [h2, if_pos (by omega), this.1 q]; omega
      · rw [h2, if_neg (by omega), (this.2 (by omega)).1 rfl]; omega
    rw [h1, e]
  have t27 : ¬ Pch v → Go Z EL1 false rm0 (fun w h S' => (∃ r : Int32, w = some (.int r) ∧ r.toInt = ((out ++ encB v).length : Int)) ∧ Al Z h t .char (nA N (out ++ encB v)) ∧ Keep h0 h [t] ∧ S' = []) K h0 [t] 0 0 27 [.val (.ref t), .val (.int i), .val (.int v), .unset] [] := by
    intro hp
    have e : encB v = [37, hx (v >>> ((4 : Int32) &&& 31)) 0, hx (v &&& 15) 0] := by unfold encB; rw [if_neg hp]
    refine G.aloadN d51_27 rfl rfl ?_
    refine G.iloadN d51_28 rfl ?_
    refine G.bipush 37 d51_29 ?_
    refine G.castA d51_31 (by simp) A hi (by omega) (by decide) (fun h2 W2 A2 => ?_)
    refine G.aloadN d51_32 rfl rfl ?_
    refine G.iloadN d51_33 rfl ?_
    refine G.iconst 1 d51_34 ?_
    refine G.iadd d51_35 ?_
    refine G.getS d51_36 (hw 231 rfl) X1 ?_
    refine G.iloadN d51_39 rfl ?_
    refine G.iconst 4 d51_40 ?_
    refine G.ishr d51_41 ?_
    refine Go.oldIn (fun O => ?_)
    refine G.caload d51_42 (X2.ext O) (i := (v >>> ((4 : Int32) &&& 31)).toInt.toNat) (by omega) (hget _ (by omega) (by omega)) ?_
    refine G.castA d51_43 (by simp) A2 (by rw [addI hi e1 (by omega)]; simp) (by simp; omega) (C16 (hx_Hx _ (by omega) (by omega)).c8) (fun h3 W3 A3 => ?_)
    refine G.aloadN d51_44 rfl rfl ?_
    refine G.iloadN d51_45 rfl ?_
    refine G.iconst 2 d51_46 ?_
    refine G.iadd d51_47 ?_
    refine G.getS d51_48 (hw 231 rfl) X1 ?_
    refine G.iloadN d51_51 rfl ?_
    refine G.bipush 15 d51_52 ?_
    refine G.iand d51_54 ?_
    refine Go.oldIn (fun O => ?_)
    refine G.caload d51_55 (X2.ext O) (i := (v &&& 15).toInt.toNat) (by omega) (hget _ (by omega) (by omega)) ?_
    refine G.castA d51_56 (by simp) A3 (by rw [addI hi e2 (by omega)]; simp) (by simp; omega) (C16 (hx_Hx _ (by omega) (by omega)).c8) (fun h4 W4 A4 => ?_)
    have e4 : ((out ++ [(37 : Int32)]) ++ [hx (v >>> ((4 : Int32) &&& 31)) 0]) ++ [hx (v &&& 15) 0] = out ++ encB v := by rw [e]; simp
    rw [e4] at A4
    refine G.iloadN d51_57 rfl ?_
    refine G.iconst 3 d51_58 ?_
    refine G.iadd d51_59 ?_
    refine G.istore3 d51_60 ?_
    refine G.iloadN d51_61 rfl ?_
    exact G.iret d51_62 [] (fun _ q => nomatch q) ⟨⟨_, rfl, by rw [addI hi e3 (by omega), e]; simp⟩, A4, (((Keep.refl _ [t]).wr W2 mem1).wr W3 mem1).wr W4 mem1, rfl⟩
  refine G.iloadN d51_0 rfl ?_
  refine G.sipush 128 d51_1 ?_
  refine G.icmp_ge d51_4 (fun q => ?_) (fun q => ?_) <;> rw [Int32.lt_iff_toInt_lt, i128] at q
  · exact t27 (fun z => by have := pch8 z; omega)
  · obtain ⟨b, hb1, -, hb2⟩ := P3 v.toInt.toNat (by omega)
    rw [pcN v1] at hb2
    refine G.getS d51_7 (hw 226 rfl) P1 ?_
    refine G.iloadN d51_10 rfl ?_
    refine Go.oldIn (fun O => ?_)
    refine G.zaload d51_11 (P2.ext O) (i := v.toInt.toNat) (by omega) hb1 ?_
    refine G.if_eq d51_12 (fun q => t27 (fun z => (hb2.mpr z) q)) (fun q => ?_)
    have e : encB v = [v] := by unfold encB; rw [if_pos (hb2.mp q)]
    refine G.aloadN d51_15 rfl rfl ?_
    refine G.iloadN d51_16 rfl ?_
    refine G.iloadN d51_17 rfl ?_
    refine G.i2c d51_18 ?_
    rw [i2c8 hv]
    refine G.castA d51_19 (by simp) A hi (by omega) (C16 hv) (fun h2 W2 A2 => ?_)
    refine G.iloadN d51_20 rfl ?_
    refine G.iconst 1 d51_21 ?_
    refine G.iadd d51_22 ?_
    refine G.istore3 d51_23 ?_
    refine G.goto d51_24 ?_
    refine G.iloadN d51_61 rfl ?_
    rw [← e] at A2
    exact G.iret d51_62 [] (fun _ q => nomatch q) ⟨⟨_, rfl, by rw [addI hi e1 (by omega), e]; simp⟩, A2, (Keep.refl _ [t]).wr W2 mem1, rfl⟩
abbrev rmSWS : Room := { frames := 4, cells := 2, slots := 24, locals := 54 }
theorem cSWS (l : Launch) (Z : State) (a0 : Array Value) (hw : hwT a0 Z) (h0 : Heap) (hC : CS Z) (hF : SF Z) (s sb : Addr) (cs : List Int32) (hl : Lat cs) (h5 : 5 ≤ cs.length) (hn : cs.length < 2147483647) (hlow : ∀ (j : Nat) (c d : Int32), j < 5 → cs[j]? = some c → infoL[j]? = some d → low c = d) (A : StrB Z h0 s 0 sb (cs.map bL)) :
    Con l Z EL1 (false, [], [pI]) (⟨"com/example/nameshelf/nameshelf/uri/InfoUri", "startsWithScheme", "(Ljava/lang/CharSequence;)Z"⟩ : MethodName) prog_62_method_14_code 2 (some .boolean) [] rmSWS #[.ref s] h0 [] (fun v h S' => v = some (.int 1) ∧ Ext h0 h ∧ S' = []) := by
  have hEL := hEL1 hw
  refine Con.enter (a0 := a0) pn_46 hEL [.val (.ref s), .unset] (fun m => by first | (simp [entryFrame, mkF, argsToLocals, Value.category]; done) | rfl) ?_
  intro K G
  refine G.aloadN d19_0 rfl rfl ?_
  refine G.callF0 d19_1 (hw 72 rfl) (hw 73 rfl) (hw 74 rfl) (hw 75 rfl) (hw 76 rfl) (hw 77 rfl) (hw 78 rfl) (hw 79 rfl) (hw 80 rfl) (hw 12 rfl) pd_13 A.1 (cLEN8 K.l Z a0 hw hEL h0 hC s sb _ A) (fun _ q => nomatch q) ?_
  rintro _ h0 _ ⟨⟨n, rfl, hn'⟩, rfl, rfl⟩ -
  rw [List.length_map] at hn'
  refine G.ldcSq 20 (infoL.map bL) 5 d19_6 (hw 89 rfl) (hSA Z a0 hw) rfl (by simp) ⟨by decide +kernel, by decide +kernel⟩ (by decide) (by decide) (by decide +kernel) (by decide) (fun sa ab h1 E1 T1 N1 => ?_)
  refine G.callV0 d19_8 (hw 90 rfl) (hw 91 rfl) (hw 92 rfl) (hw 76 rfl) (hw 80 rfl) (hw 12 rfl) pd_13 T1.1 (cLEN8 K.l Z a0 hw hEL h1 hC sa ab _ T1) (fun _ q => nomatch q) ?_
  rintro _ h1 _ ⟨⟨m, rfl, hm⟩, rfl, rfl⟩ -
  have hm : m.toInt = 5 := hm
  refine G.icmp_ge d19_11 (fun _ => ?_) (fun q => absurd q (not_lt_of_toInt (by rw [hm, hn']; omega)))
  have A1 := A.ext E1
  have loop : ∀ (r j : Nat) (i : Int32), j + r = 5 → i.toInt = (j : Int) → Go Z EL1 (false, [pI], [pI]) rmSWS (fun v h S' => v = some (.int 1) ∧ Ext h0 h ∧ S' = []) K h1 [] 2 24 18 [.val (.ref s), .val (.int i)] [] := by
    intro r
    induction r with
    | zero =>
      intro j i hj hi
      refine G.iloadN d19_18 rfl ?_
      refine G.ldcW (infoL.map bL) d19_19 (hw 89 rfl) (by simp) (by simp) ⟨by decide +kernel, by decide +kernel⟩ (fun sa ab T1 N1 => ?_)
      refine G.callV0 d19_21 (hw 90 rfl) (hw 91 rfl) (hw 92 rfl) (hw 76 rfl) (hw 80 rfl) (hw 12 rfl) pd_13 T1.1 (cLEN8 K.l Z a0 hw hEL h1 hC sa ab _ T1) (fun _ q => nomatch q) ?_
      rintro _ h1 _ ⟨⟨m, rfl, hm⟩, rfl, rfl⟩ -
      have hm : m.toInt = 5 := hm
      refine G.icmp_ge d19_24 (fun _ => ?_) (fun q => absurd q (not_lt_of_toInt (by rw [hm, hi]; omega)))
      refine G.iconst 1 d19_54 ?_
      exact G.nret d19_55 (Or.inl rfl) (z' := 1) (by decide) [] (fun _ q => nomatch q) ⟨rfl, E1, rfl⟩ (hQ := fun _ q => q)
    | succ r ih =>
      intro j i hj hi
      have hj5 : j < 5 := by omega
      obtain ⟨c, hc⟩ : ∃ c, cs[j]? = some c := ⟨_, List.getElem?_eq_getElem (by omega)⟩
      obtain ⟨d, hd⟩ : ∃ d, infoL[j]? = some d := ⟨_, List.getElem?_eq_getElem (show j < 5 from hj5)⟩
      refine G.iloadN d19_18 rfl ?_
      refine G.ldcW (infoL.map bL) d19_19 (hw 89 rfl) (by simp) (by simp) ⟨by decide +kernel, by decide +kernel⟩ (fun sa ab T1 N1 => ?_)
      refine G.callV0 d19_21 (hw 90 rfl) (hw 91 rfl) (hw 92 rfl) (hw 76 rfl) (hw 80 rfl) (hw 12 rfl) pd_13 T1.1 (cLEN8 K.l Z a0 hw hEL h1 hC sa ab _ T1) (fun _ q => nomatch q) ?_
      rintro _ h1 _ ⟨⟨m, rfl, hm⟩, rfl, rfl⟩ -
      have hm : m.toInt = 5 := hm
      refine G.icmp_ge d19_24 (fun q => absurd (lt_of_toInt (by rw [hm, hi]; omega)) q) (fun _ => ?_)
      refine G.aloadN d19_27 rfl rfl ?_
      refine G.iloadN d19_28 rfl ?_
      refine G.callF1 d19_29 (hw 93 rfl) (hw 94 rfl) (hw 95 rfl) (hw 96 rfl) (hw 21 rfl) (hw 97 rfl) (hw 98 rfl) (hw 79 rfl) (hw 23 rfl) (hw 12 rfl) pd_21 A1.1 (cSCA8 K.l Z a0 hw hEL h1 hC hF s sb cs hl i j hi c hc A1) (fun _ q => nomatch q) ?_
      rintro _ h1 _ ⟨rfl, rfl, rfl⟩ -
      refine G.callS1 d19_34 (hw 99 rfl) (hw 100 rfl) (hw 70 rfl) (hw 101 rfl) pd_25 (cILW K.l Z a0 hw h1 c) (fun _ q => nomatch q) ?_
      rintro _ h1 _ ⟨rfl, rfl, rfl⟩ -
      refine G.ldcW (infoL.map bL) d19_37 (hw 89 rfl) (by simp) (by simp) ⟨by decide +kernel, by decide +kernel⟩ (fun sa ab T2 N2 => ?_)
      refine G.iloadN d19_39 rfl ?_
      refine G.callV1 d19_40 (hw 105 rfl) (hw 20 rfl) (hw 22 rfl) (hw 21 rfl) (hw 23 rfl) (hw 12 rfl) pd_21 T2.1 (cSCA8 K.l Z a0 hw hEL h1 hC hF sa ab infoL info8 i j hi d hd T2) (fun _ q => nomatch q) ?_
      rintro _ h1 _ ⟨rfl, rfl, rfl⟩ -
      refine G.icmp_eq d19_43 (fun _ => ?_) (fun q => absurd (hlow j c d hj5 hc hd) q)
      refine G.iinc1 1 d19_48 ?_
      refine G.goto d19_51 ?_
      exact ih (j + 1) (i + 1) (by omega) (inc_toInt hi (by omega))
  refine G.iconst 0 d19_16 ?_
  refine G.istore1 d19_17 ?_
  exact loop 5 0 0 rfl toInt_0
/-- an InfoUri -/
def IU (Z : State) (h : Heap) (o nb tb : Addr) (out : List Int32) (sl hs : Int32) : Prop := Exa Z h o IUN ∧ Fld Z h o IUN "normal" "Ljava/lang/String;" (.ref nb) ∧ Fld Z h o IUN "slash" "I" (.int sl) ∧ Fld Z h o IUN "hash" "I" (.int hs) ∧ StrB Z h nb 0 tb (out.map bL)
theorem IU.ext {Z : State} {h h' : Heap} {o nb tb : Addr} {out : List Int32} {sl hs : Int32} (F : IU Z h o nb tb out sl hs) (E : Ext h h') : IU Z h' o nb tb out sl hs := ⟨F.1.ext E, F.2.1.ext E, F.2.2.1.ext E, F.2.2.2.1.ext E, F.2.2.2.2.ext E⟩
theorem cIUI (l : Launch) (Z : State) (a0 : Array Value) (hw : hwT a0 Z) (h0 : Heap) (a nb tb : Addr) (out : List Int32) (sl hs : Int32) (E : Exa Z h0 a IUN) (D : ∀ {O fn d : String} {ty : FieldType}, Laid Z a0 IUN O fn d → parseFieldDescriptor d = some ty → Fld Z h0 a O fn d (defaultValue ty)) (T : StrB Z h0 nb 0 tb (out.map bL)) (hn1 : nb ≠ a) (hn2 : tb ≠ a) :
    Con l Z EL1 false (⟨"com/example/nameshelf/nameshelf/uri/InfoUri", "<init>", "(Ljava/lang/String;II)V"⟩ : MethodName) prog_62_method_1_code 4 (none) [] rm1 #[.ref a, .ref nb, .int sl, .int hs] h0 [a] (fun v h S' => v = none ∧ IU Z h a nb tb out sl hs ∧ Keep h0 h [a] ∧ S' = []) := by
  have hEL := hEL1 hw
  refine Con.enter (a0 := a0) pn_47 hEL [.val (.ref a), .val (.ref nb), .val (.int sl), .val (.int hs)] (fun m => by first | (simp [entryFrame, mkF, argsToLocals, Value.category]; done) | rfl) ?_
  intro K G
  have F1 := D (Or.inr (hw 158 rfl)) (ty := .object "java/lang/String") (by decide)
  have F2 := D (Or.inr (hw 160 rfl)) (ty := .int) (by decide)
  have F3 := D (Or.inr (hw 162 rfl)) (ty := .int) (by decide)
  refine G.aloadN d35_0 rfl rfl ?_
  refine G.initO d35_1 (hw 156 rfl) (hw 56 rfl) (hw 57 rfl) ?_
  refine G.aloadN d35_4 rfl rfl ?_
  refine G.aloadN d35_5 rfl rfl ?_
  refine G.putF d35_6 (hw 157 rfl) F1 E (by simp) (Or.inr ⟨(hw 158 rfl), rfl, rfl⟩) (hw 145 rfl) (ty := (.object "java/lang/String")) (by decide) rfl rfl (fun h2 W2 F1 E => ?_)
  have F2' := Fld.oth F2 W2 (Or.inr (hw 160 rfl)) (Or.inr (hw 158 rfl)) (by decide) (by decide) (by decide)
  have F3' := Fld.oth F3 W2 (Or.inr (hw 162 rfl)) (Or.inr (hw 158 rfl)) (by decide) (by decide) (by decide)
  refine G.aloadN d35_9 rfl rfl ?_
  refine G.iloadN d35_10 rfl ?_
  refine G.putF d35_11 (hw 159 rfl) F2' E (by simp) (Or.inr ⟨(hw 160 rfl), rfl, rfl⟩) (hw 145 rfl) (ty := .int) (by decide) rfl rfl (fun h3 W3 F2 E => ?_)
  have F1' := Fld.oth F1 W3 (Or.inr (hw 158 rfl)) (Or.inr (hw 160 rfl)) (by decide) (by decide) (by decide)
  have F3'' := Fld.oth F3' W3 (Or.inr (hw 162 rfl)) (Or.inr (hw 160 rfl)) (by decide) (by decide) (by decide)
  refine G.aloadN d35_14 rfl rfl ?_
  refine G.iloadN d35_15 rfl ?_
  refine G.putF d35_16 (hw 161 rfl) F3'' E (by simp) (Or.inr ⟨(hw 162 rfl), rfl, rfl⟩) (hw 145 rfl) (ty := .int) (by decide) rfl rfl (fun h4 W4 F3 E => ?_)
  have F1'' := Fld.oth F1' W4 (Or.inr (hw 158 rfl)) (Or.inr (hw 162 rfl)) (by decide) (by decide) (by decide)
  have F2'' := Fld.oth F2 W4 (Or.inr (hw 160 rfl)) (Or.inr (hw 162 rfl)) (by decide) (by decide) (by decide)
  have Kp : Keep h0 h4 [a] := (((Keep.refl _ [a]).wr W2 mem1).wr W3 mem1).wr W4 mem1
  exact G.ret0 d35_19 [] (fun _ q => nomatch q) ⟨rfl, ⟨E, F1'', F2'', F3, T.keep Kp (ninS hn1 nin0) (ninS hn2 nin0)⟩, Kp, rfl⟩
theorem cIUT (l : Launch) (Z : State) (a0 : Array Value) (hw : hwT a0 Z) (h0 : Heap) (o nb tb : Addr) (out : List Int32) (sl hs : Int32) (A : IU Z h0 o nb tb out sl hs) : Con l Z EL1 false (⟨"com/example/nameshelf/nameshelf/uri/InfoUri", "toString", "()Ljava/lang/String;"⟩ : MethodName) prog_62_method_11_code 1 (some (.object "java/lang/String")) [] rm0 #[.ref o] h0 [] (fun v h S' => v = some (.ref nb) ∧ h = h0 ∧ S' = []) := by
  have hEL := hEL1 hw
  refine Con.enter (a0 := a0) pn_48 hEL [.val (.ref o)] (fun m => by first | (simp [entryFrame, mkF, argsToLocals, Value.category]; done) | rfl) ?_
  intro K G
  refine G.aloadN d36_0 rfl rfl ?_
  refine G.getF d36_1 (hw 157 rfl) A.2.1 ?_
  exact G.aret d36_4 [] (fun _ q => nomatch q) ⟨rfl, rfl, rfl⟩
abbrev rmNSPC : Room := { frames := 5, cells := 4, slots := 52, locals := 80 }
theorem cNSPC (l : Launch) (Z : State) (a0 : Array Value) (hw : hwT a0 Z) (h0 : Heap) (hC : CS Z) (hF : SF Z) (o nb tb : Addr) (out : List Int32) (sl hs : Int32) (j : Nat) (hj : sl.toInt = (j : Int)) (h5 : 5 ≤ j) (hjl : j ≤ out.length) (hm : out.length ≤ 24) (A : IU Z h0 o nb tb out sl hs) :
    Con l Z EL1 false (⟨"com/example/nameshelf/nameshelf/uri/InfoUri", "namespace", "()Ljava/lang/String;"⟩ : MethodName) prog_62_method_6_code 1 (some (.object "java/lang/String")) [] rmNSPC #[.ref o] h0 [] (fun v h S' => (∃ r rb ws, v = some (.ref r) ∧ StrB Z h r 0 rb ws ∧ ws.length = j - 5) ∧ Ext h0 h ∧ S' = []) := by
  have hEL := hEL1 hw
  refine Con.enter (a0 := a0) pn_49 hEL [.val (.ref o)] (fun m => by first | (simp [entryFrame, mkF, argsToLocals, Value.category]; done) | rfl) ?_
  intro K G
  refine G.aloadN d40_0 rfl rfl ?_
  refine G.getF d40_1 (hw 157 rfl) A.2.1 ?_
  refine G.ldcS 20 (infoL.map bL) 5 d40_4 (hw 89 rfl) (hSA Z a0 hw) rfl (by simp) ⟨by decide +kernel, by decide +kernel⟩ (by decide) (by decide) (by decide +kernel) (by decide) (fun sa ab h1 E1 T1 N1 => ?_)
  refine G.callV0 d40_6 (hw 90 rfl) (hw 91 rfl) (hw 92 rfl) (hw 76 rfl) (hw 80 rfl) (hw 12 rfl) pd_13 T1.1 (cLEN8 K.l Z a0 hw hEL h1 hC sa ab _ T1) (fun _ q => nomatch q) ?_
  rintro _ h1 _ ⟨⟨m, rfl, hm5⟩, rfl, rfl⟩ -
  have hm5 : m.toInt = ((5 : Nat) : Int) := hm5
  have A1 := A.ext E1
  refine G.aloadN d40_9 rfl rfl ?_
  refine G.getF d40_10 (hw 159 rfl) A1.2.2.1 ?_
  refine G.callV2 d40_13 (hw 183 rfl) (hw 184 rfl) (hw 186 rfl) (hw 185 rfl) (hw 187 rfl) (hw 12 rfl) pd_27 A1.2.2.2.2.1 (cSUBS K.l Z a0 hw h1 hC hF nb tb (out.map bL) m sl 5 j hm5 (by decide) hj h5 (by simpa using hjl) (by simpa using hm) A1.2.2.2.2) (fun _ q => nomatch q) ?_
  rintro _ h2 _ ⟨⟨r, rb, ws, rfl, T2, hl⟩, E2, rfl⟩ -
  exact G.aret d40_16 [] (fun _ q => nomatch q) ⟨⟨r, rb, ws, rfl, T2, hl⟩, ⟨Nat.le_trans E1.1 E2.1, fun x c q => E2.2 x c (E1.2 x c q)⟩, rfl⟩
abbrev rmIDT : Room := { frames := 5, cells := 2, slots := 28, locals := 80 }
theorem cIDT (l : Launch) (Z : State) (a0 : Array Value) (hw : hwT a0 Z) (h0 : Heap) (hC : CS Z) (hF : SF Z) (o nb tb : Addr) (out : List Int32) (sl hs : Int32) (j e : Nat) (hj : sl.toInt = (j : Int)) (he : (hs = -1 ∧ e = out.length) ∨ hs.toInt = (e : Int)) (hje : j + 1 ≤ e) (hel : e ≤ out.length) (hm : out.length ≤ 24) (A : IU Z h0 o nb tb out sl hs) :
    Con l Z EL1 false (⟨"com/example/nameshelf/nameshelf/uri/InfoUri", "identifier", "()Ljava/lang/String;"⟩ : MethodName) prog_62_method_7_code 1 (some (.object "java/lang/String")) [] rmIDT #[.ref o] h0 [] (fun v h S' => (∃ r rb ws, v = some (.ref r) ∧ StrB Z h r 0 rb ws ∧ ws.length = e - (j + 1)) ∧ Ext h0 h ∧ S' = []) := by
  have hEL := hEL1 hw
  have e1 : (1 : Int32).toInt = ((1 : Nat) : Int) := by decide
  refine Con.enter (a0 := a0) pn_50 hEL [.val (.ref o)] (fun m => by first | (simp [entryFrame, mkF, argsToLocals, Value.category]; done) | rfl) ?_
  intro K G
  have t31 : ∀ y : Int32, y.toInt = (e : Int) → Go Z EL1 false rmIDT (fun v h S' => (∃ r rb ws, v = some (.ref r) ∧ StrB Z h r 0 rb ws ∧ ws.length = e - (j + 1)) ∧ Ext h0 h ∧ S' = []) K h0 [] 0 0 31 [.val (.ref o)] [.int y, .int (sl + 1), .ref nb] := by
    intro y hy
    refine G.callV2 d48_31 (hw 183 rfl) (hw 184 rfl) (hw 186 rfl) (hw 185 rfl) (hw 187 rfl) (hw 12 rfl) pd_27 A.2.2.2.2.1 (cSUBS K.l Z a0 hw h0 hC hF nb tb (out.map bL) (sl + 1) y (j + 1) e (addI hj e1 (by omega)) (by omega) hy hje (by simpa using hel) (by simpa using hm) A.2.2.2.2) (fun _ q => nomatch q) ?_
    rintro _ h2 _ ⟨⟨r, rb, ws, rfl, T2, hl⟩, E2, rfl⟩ -
    exact G.aret d48_34 [] (fun _ q => nomatch q) ⟨⟨r, rb, ws, rfl, T2, hl⟩, E2, rfl⟩
  refine G.aloadN d48_0 rfl rfl ?_
  refine G.getF d48_1 (hw 157 rfl) A.2.1 ?_
  refine G.aloadN d48_4 rfl rfl ?_
  refine G.getF d48_5 (hw 159 rfl) A.2.2.1 ?_
  refine G.iconst 1 d48_8 ?_
  refine G.iadd d48_9 ?_
  refine G.aloadN d48_10 rfl rfl ?_
  refine G.getF d48_11 (hw 161 rfl) A.2.2.2.1 ?_
  refine G.if_ge d48_14 (fun q => ?_) (fun q => ?_)
  · have hy : hs.toInt = (e : Int) := by
      rcases he with ⟨z, -⟩ | z
      · rw [z] at q; exact absurd (by decide) q
      · exact z
    refine G.aloadN d48_27 rfl rfl ?_
    refine G.getF d48_28 (hw 161 rfl) A.2.2.2.1 ?_
    exact t31 hs hy
  · have hy : e = out.length := by
      rcases he with ⟨-, z⟩ | z
      · exact z
      · rw [Int32.lt_iff_toInt_lt, toInt_0] at q; omega
    refine G.aloadN d48_17 rfl rfl ?_
    refine G.getF d48_18 (hw 157 rfl) A.2.1 ?_
    refine G.callV0 d48_21 (hw 90 rfl) (hw 91 rfl) (hw 92 rfl) (hw 76 rfl) (hw 80 rfl) (hw 12 rfl) pd_13 A.2.2.2.2.1 (cLEN8 K.l Z a0 hw hEL h0 hC nb tb _ A.2.2.2.2) (fun _ q => nomatch q) ?_
    rintro _ h0 _ ⟨⟨m, rfl, hm'⟩, rfl, rfl⟩ -
    rw [List.length_map] at hm'
    refine G.goto d48_24 ?_
    exact t31 m (by rw [hm', hy])
-- CHUNK
def frT : Option (List Tok) → List Int32
  | none => []
  | some f => 35 :: txts f
def frE : Option (List Tok) → List Int32
  | none => []
  | some f => 35 :: encs f
def outP (ns id : List Tok) (fr : Option (List Tok)) : List Int32 := infoL ++ lows ns ++ 47 :: (encs id ++ frE fr)
def HsOk (hs : Int32) (ns id : List Tok) (fr : Option (List Tok)) : Prop := (fr = none ∧ hs = -1) ∨ (fr ≠ none ∧ hs.toInt = ((6 + ns.length + (encs id).length : Nat) : Int))
theorem lows_len (ts : List Tok) : (lows ts).length = ts.length := by simp [lows]
theorem ns_le (ts : List Tok) : ts.length ≤ (txts ts).length := by
  induction ts with
  | nil => exact Nat.le_refl _
  | cons t r ih =>
    rw [txts_cons, List.length_append, List.length_cons]
    have : 1 ≤ (txt t).length := by obtain ⟨c, _ | ⟨a, b⟩⟩ := t <;> simp [txt]
    omega
theorem frE_le (fr : Option (List Tok)) : (frE fr).length ≤ (frT fr).length := by
  cases fr with
  | none => exact Nat.le_refl _
  | some f => have := encs_le f; simp only [frE, frT, List.length_cons]; omega
abbrev rmPARSE : Room := { frames := 5, cells := 6, slots := 80, locals := 100 }
def QP (Z : State) (h0 : Heap) (ns id : List Tok) (fr : Option (List Tok)) : Pst := fun v h S' => (∃ o nb tb sl hs, v = some (.ref o) ∧ IU Z h o nb tb (outP ns id fr) sl hs ∧ sl.toInt = ((5 + ns.length : Nat) : Int) ∧ HsOk hs ns id fr) ∧ Ext h0 h ∧ S' = []
theorem cPARSE (l : Launch) (Z : State) (a0 : Array Value) (hw : hwT a0 Z) (h0 : Heap) (hC : CS Z) (hF : SF Z) (hN : NS Z) (hP : PC Z) (hX : HS Z) (s sb : Addr) (cs sch : List Int32) (ns id : List Tok) (fr : Option (List Tok)) (hcs : cs = sch ++ txts ns ++ 47 :: (txts id ++ frT fr)) (h5 : sch.length = 5) (hlow : sch.map low = infoL)
    (hns : ∀ t ∈ ns, Tn t) (hlet : ∃ t r, ns = t :: r ∧ Let t.1) (hid : ∀ t ∈ id, Ti False t) (hfr : ∀ f, fr = some f → ∀ t ∈ f, Ti True t) (hlat : Lat cs) (h24 : cs.length ≤ 24) (A : StrB Z h0 s 0 sb (cs.map bL)) :
    Con l Z EL1 false (⟨"com/example/nameshelf/nameshelf/uri/InfoUri", "parse", "(Ljava/lang/CharSequence;)Lcom/example/nameshelf/nameshelf/uri/InfoUri;"⟩ : MethodName) prog_62_method_2_code 8 (some (.object "com/example/nameshelf/nameshelf/uri/InfoUri")) [] rmPARSE #[.ref s] h0 [] (QP Z h0 ns id fr) := by
  have hEL := hEL1 hw
  have e1 : (1 : Int32).toInt = ((1 : Nat) : Int) := by decide
  have e2 : (2 : Int32).toInt = ((2 : Nat) : Int) := by decide
  have hlen : cs.length = 5 + (txts ns).length + 1 + (txts id).length + (frT fr).length := by rw [hcs]; simp [h5]; omega
  have hlo : Lat (outP ns id fr) := by
    refine Lat.app (Lat.app info8 (lows8 hns)) (Lat.cons (by decide) (Lat.app (lat_encs (P := Ti False) (fun t h => Ti.latE t h) id hid) ?_))
    cases fr with
    | none => exact Lat.nil
    | some f => exact Lat.cons (by decide) (lat_encs (P := Ti True) (fun t h => Ti.latE t h) f (hfr f rfl))
  refine Con.enter (a0 := a0) pn_51 hEL [.val (.ref s), .unset, .unset, .unset, .unset, .unset, .unset, .unset] (fun m => by first | (simp [entryFrame, mkF, argsToLocals, Value.category]; done) | rfl) ?_
  intro K G
  refine G.aloadN d16_0 rfl rfl ?_
  refine G.callF0 d16_1 (hw 72 rfl) (hw 73 rfl) (hw 74 rfl) (hw 75 rfl) (hw 76 rfl) (hw 77 rfl) (hw 78 rfl) (hw 79 rfl) (hw 80 rfl) (hw 12 rfl) pd_13 A.1 (cLEN8 K.l Z a0 hw hEL h0 hC s sb _ A) (fun _ q => nomatch q) ?_
  rintro _ h0 _ ⟨⟨n, rfl, hn⟩, rfl, rfl⟩ -
  rw [List.length_map] at hn
  refine G.istore1 d16_6 ?_
  refine G.aloadN d16_7 rfl rfl ?_
  refine G.callSq1 d16_8 (hw 86 rfl) (hw 87 rfl) (hw 70 rfl) (hw 88 rfl) pd_28 (cSWS K.l Z a0 hw h0 hC hF s sb cs hlat (by omega) (by omega) (by
    intro j c d hj hc hd
    have hj' : j < sch.length := by omega
    rw [hcs, List.append_assoc, List.getElem?_append_left hj'] at hc
    rw [← hlow, List.getElem?_map, hc] at hd
    exact Option.some.inj hd) A) (fun _ q => nomatch q) ?_
  rintro _ h1 _ ⟨rfl, E1, rfl⟩ -
  refine G.if_ne d16_11 (fun _ => ?_) (fun q => absurd q (by decide))
  refine G.iloadN d16_25 rfl ?_
  refine G.newA cs.length 24 d16_26 (hw 0 rfl) hn h24 (fun h2 E2 L2 B2 => ?_)
  have B2 : Al Z h2 h1.size .char (nA cs.length []) := by rw [nA_zero]; exact B2
  refine G.astore2 d16_28 ?_
  refine G.ldcW (infoL.map bL) d16_29 (hw 89 rfl) (by simp) (by simp) ⟨by decide +kernel, by decide +kernel⟩ (fun sa ab T1 M1 => ?_)
  refine G.iconst 0 d16_31 ?_
  refine G.ldcW (infoL.map bL) d16_32 (hw 89 rfl) (by simp) (by simp) ⟨by decide +kernel, by decide +kernel⟩ (fun sa2 ab2 T2 M2 => ?_)
  refine G.callV0 d16_34 (hw 90 rfl) (hw 91 rfl) (hw 92 rfl) (hw 76 rfl) (hw 80 rfl) (hw 12 rfl) pd_13 T2.1 (cLEN8 K.l Z a0 hw hEL h2 hC sa2 ab2 _ T2) (fun _ q => nomatch q) ?_
  rintro _ h2 _ ⟨⟨m, rfl, hm⟩, rfl, rfl⟩ -
  have hm : m.toInt = (infoL.length : Int) := hm
  refine G.aloadN d16_37 rfl rfl ?_
  refine G.iconst 0 d16_38 ?_
  refine G.callV4 d16_39 (hw 106 rfl) (hw 107 rfl) (hw 109 rfl) (hw 108 rfl) (hw 110 rfl) (hw 12 rfl) pd_29 T1.1 (cGCH K.l Z a0 hw hEL h2 hC hF sa ab h1.size cs.length infoL m hm (by rw [show infoL.length = 5 from rfl]; omega) (by omega) info8 T1 B2 (Ne.symm (M1 h1.size (by simp)).2)) (by simp) ?_
  rintro _ h3 _ ⟨rfl, B3, K3, rfl⟩ -
  have Kp3 : Keep h0 h3 [] := ((ext_keep E1 []).ext E2).trans K3 (fun x q => by cases List.mem_singleton.mp q; exact Or.inr E1.1)
  have strS : ∀ h : Heap, Keep h0 h [] → StrB Z h s 0 sb (cs.map bL) := fun h hk => A.keep hk nin0 nin0
  have putK : ∀ (h h' : Heap) (sl : Nat) (v : Value), Keep h0 h [] → Wr h h' h1.size sl v → Keep h0 h' [] := fun h h' sl v hk W => hk.wr W (Or.inr E1.1)
  have t364 : ∀ (h : Heap) (sl hs i en : Int32) (x7 : Slot), i.toInt = (cs.length : Int) → en.toInt = ((outP ns id fr).length : Int) → (outP ns id fr).length ≤ cs.length → sl.toInt = ((5 + ns.length : Nat) : Int) → HsOk hs ns id fr → Al Z h h1.size .char (nA cs.length (outP ns id fr)) → Keep h0 h [] →
      Go Z EL1 (false, [pI], []) rmPARSE (QP Z h0 ns id fr) K h [h1.size] 3 48 225 [.val (.ref s), .val (.int n), .val (.ref h1.size), .val (.int en), .val (.int i), .val (.int sl), .val (.int hs), x7] [] := by
    intro h sl hs i en x7 hi hen hle hsl hhs hA hK
    refine G.iload d16_225 rfl ?_
    refine G.iloadN d16_227 rfl ?_
    refine G.icmp_ge d16_228 (fun _ => ?_) (fun q => absurd q (not_lt_of_toInt (by rw [hi, hn]; omega)))
    refine G.newO d16_364 (hw 144 rfl) (hw 145 rfl) (hw 70 rfl) (fun h5 E5 L5 A5 => ?_)
    refine G.dup d16_367 ?_
    refine G.newO d16_368 (hw 146 rfl) (hw 13 rfl) (hw 12 rfl) (fun h6 E6 L6 A6 => ?_)
    refine G.dup d16_371 ?_
    refine G.aloadN d16_372 rfl rfl ?_
    refine G.iconst 0 d16_373 ?_
    refine G.iloadN d16_374 rfl ?_
    refine G.callI3 d16_375 (hw 147 rfl) (hw 148 rfl) (hw 12 rfl) (hw 149 rfl) pd_30 (cCII K.l Z a0 hw hEL h6 hC hF h5.size h1.size cs.length (outP ns id fr) en hen hle h24 (by simp [outP]; omega) hlo A6.1 A6.2 ((hA.ext E5).ext E6)) (by simp) ?_
    rintro _ h7 _ ⟨rfl, ⟨vb, hvb, T7⟩, K7, rfl⟩ -
    refine G.iload d16_378 rfl ?_
    refine G.iload d16_380 rfl ?_
    refine G.callI3 d16_382 (hw 153 rfl) (hw 154 rfl) (hw 70 rfl) (hw 155 rfl) pd_31 (cIUI K.l Z a0 hw h7 h.size h5.size vb (outP ns id fr) sl hs ((A5.1.ext E6).keep K7) (fun L t => ((A5.2 L t).ext E6).keep K7 (ninS (Nat.ne_of_lt L5) nin0)) T7 (Nat.ne_of_gt L5) (Nat.ne_of_gt (Nat.lt_of_lt_of_le (Nat.lt_trans L5 L6) hvb))) (by simp) ?_
    rintro _ h8 _ ⟨rfl, U8, K8, rfl⟩ -
    have hh := hK.1
    exact G.aret d16_385 [] (fun _ q => nomatch q) ⟨⟨_, _, _, sl, hs, rfl, U8, hsl, hhs⟩, keep_nil_ext ((((hK.ext E5).ext E6).trans K7 (fun x q => by cases List.mem_singleton.mp q; exact Or.inr (by omega))).trans K8 (fun x q => by cases List.mem_singleton.mp q; exact Or.inr hh)), rfl⟩
  have loop2 : ∀ (sl hs : Int32) (ts : List Tok) (pre out : List Int32) (h : Heap) (i en : Int32) (x7 : Slot), Sl0 x7 → (∃ post, cs = pre ++ txts ts ++ post) → i.toInt = (pre.length : Int) → en.toInt = (out.length : Int) → out.length ≤ pre.length → (∀ t ∈ ts, Ti (¬ hs < 0) t) → Al Z h h1.size .char (nA cs.length out) → Keep h0 h [] →
      (∀ (h' : Heap) (i' en' : Int32) (x7' : Slot), Sl0 x7' → i'.toInt = ((pre ++ txts ts).length : Int) → en'.toInt = ((out ++ encs ts).length : Int) → Al Z h' h1.size .char (nA cs.length (out ++ encs ts)) → Keep h0 h' [] → Go Z EL1 (false, [pI], []) rmPARSE (QP Z h0 ns id fr) K h' [h1.size] 3 48 225 [.val (.ref s), .val (.int n), .val (.ref h1.size), .val (.int en'), .val (.int i'), .val (.int sl), .val (.int hs), x7'] []) →
      Go Z EL1 (false, [pI], []) rmPARSE (QP Z h0 ns id fr) K h [h1.size] 3 48 225 [.val (.ref s), .val (.int n), .val (.ref h1.size), .val (.int en), .val (.int i), .val (.int sl), .val (.int hs), x7] [] := by
    intro sl hs ts
    induction ts with
    | nil =>
      intro pre out h i en x7 hx7 _ hi hen hle _ hA hK cont
      exact cont h i en x7 hx7 (by simpa [txts] using hi) (by simpa [encs] using hen) (by simpa [encs] using hA) hK
    | cons t r ih =>
      intro pre out h i en x7 hx7 hpost hi hen hle hok hA hK cont
      obtain ⟨post, hc⟩ := hpost
      have Ts := strS h hK
      have hr : ∀ t ∈ r, Ti (¬ hs < 0) t := fun t q => hok t (List.mem_cons_of_mem _ q)
      have ht := hok t (List.mem_cons_self ..)
      have hlc : cs.length = pre.length + ((txt t).length + (txts r).length) + post.length := by rw [hc, txts_cons]; simp; omega
      have next : ∀ (h' : Heap) (i' en' : Int32) (x7' : Slot), Sl0 x7' → i'.toInt + 1 = ((pre ++ txt t).length : Int) → en'.toInt = ((out ++ enc t).length : Int) → Al Z h' h1.size .char (nA cs.length (out ++ enc t)) → Keep h0 h' [] →
          Go Z EL1 (false, [pI], []) rmPARSE (QP Z h0 ns id fr) K h' [h1.size] 3 48 358 [.val (.ref s), .val (.int n), .val (.ref h1.size), .val (.int en'), .val (.int i'), .val (.int sl), .val (.int hs), x7'] [] := by
        intro h' i' en' x7' hx7' hi' hen' hA' hK'
        refine G.iinc4 1 d16_358 ?_
        refine G.goto d16_361 ?_
        refine ih (pre ++ txt t) (out ++ enc t) h' (i' + 1) en' x7' hx7' ⟨post, by rw [hc, txts_cons]; simp⟩ ?_ hen' (by have := enc_le t; simp; omega) hr hA' hK' ?_
        · have a1 := c_iadd i' 1
          have a2 := rng32 (i' + 1)
          have a3 : ((pre ++ txt t).length : Int) < 100 := by simp; omega
          rw [e1] at a1
          omega
        · intro h'' i'' en'' x7'' g1 g2 g3 g4 g5
          exact cont h'' i'' en'' x7'' g1 (by rw [g2, txts_cons]; simp) (by rw [g3, encs_cons]; simp) (by rw [encs_cons, ← List.append_assoc]; exact g4) g5
      obtain ⟨c, _ | ⟨a, b⟩⟩ := t
      · have hg : cs[pre.length]? = some c := by rw [hc, txts_cons]; simp [txt]
        have c8 : C8 c := ti_c8 ht
        have hl1 : (txt (c, none)).length = 1 := rfl
        have hne : c.toInt ≠ 37 := by
          rcases ht with z | z | z
          · exact (pch8 z).2.2.1
          · omega
          · have := z.1; omega
        have h128 : c.toInt < 128 := by
          rcases ht with z | z | z
          · have := (pch8 z).2.1; omega
          · omega
          · have := z.1; omega
        refine G.iload d16_225 rfl ?_
        refine G.iloadN d16_227 rfl ?_
        refine G.icmp_ge d16_228 (fun q => absurd (lt_of_toInt (by rw [hi, hn]; omega)) q) (fun _ => ?_)
        refine G.aloadN d16_231 rfl rfl ?_
        refine G.iload d16_232 rfl ?_
        refine G.callF1 d16_234 (hw 93 rfl) (hw 94 rfl) (hw 95 rfl) (hw 96 rfl) (hw 21 rfl) (hw 97 rfl) (hw 98 rfl) (hw 79 rfl) (hw 23 rfl) (hw 12 rfl) pd_21 Ts.1 (cSCA8 K.l Z a0 hw hEL h hC hF s sb cs hlat i pre.length hi c hg Ts) (fun _ q => nomatch q) ?_
        rintro _ h _ ⟨rfl, rfl, rfl⟩ -
        refine G.istore7 d16_239 ?_ (hl := by rcases hx7 with rfl | ⟨_, rfl⟩ <;> rfl)
        refine G.iload d16_241 rfl ?_
        refine G.bipush 37 d16_243 ?_
        refine G.icmp_ne d16_245 (fun _ => ?_) (fun q => absurd ((eqI i37).mp q) hne)
        have t302 : Go Z EL1 (false, [pI], []) rmPARSE (QP Z h0 ns id fr) K h [h1.size] 3 48 302 [.val (.ref s), .val (.int n), .val (.ref h1.size), .val (.int en), .val (.int i), .val (.int sl), .val (.int hs), .val (.int c)] [] := by
          refine G.aloadN d16_302 rfl rfl ?_
          refine G.iloadN d16_303 rfl ?_
          refine G.iinc3 1 d16_304 ?_
          refine G.iload d16_307 rfl ?_
          refine G.castA d16_309 (by simp) hA hen (by omega) (C16 c8) (fun h' W A' => ?_)
          refine G.goto d16_310 ?_
          exact next h' i (en + 1) _ (Or.inr ⟨_, rfl⟩) (by rw [hi]; simp [txt]) (by rw [inc_toInt hen (by omega)]; simp [enc]) A' (putK _ _ _ _ hK W)
        obtain ⟨pa, pvs, P1, P2, P3⟩ := hP
        obtain ⟨b, hb1, -, hb2⟩ := P3 c.toInt.toNat (by have := c8.1; omega)
        rw [pcN c8.1] at hb2
        refine G.iload d16_266 rfl ?_
        refine G.sipush 128 d16_268 ?_
        refine G.icmp_ge d16_271 (fun q => absurd (lt_of_toInt (by rw [i128]; exact h128)) q) (fun _ => ?_)
        refine G.getS d16_274 (hw 226 rfl) P1 ?_
        refine G.iload d16_277 rfl ?_
        refine Go.oldIn (fun O => ?_)
        refine G.zaload d16_279 (P2.ext O) (i := c.toInt.toNat) (by have := c8.1; omega) hb1 ?_
        refine G.if_ne d16_280 (fun _ => t302) (fun q => ?_)
        have hnp : ¬ Pch c := fun z => (hb2.mpr z) q
        refine G.iload d16_283 rfl ?_
        refine G.bipush 47 d16_285 ?_
        refine G.icmp_eq d16_287 (fun _ => t302) (fun q2 => ?_)
        have h63 : c.toInt = 63 ∧ ¬ hs < 0 := by
          rcases ht with z | z | z
          · exact absurd z hnp
          · exact absurd ((eqI i47).mpr z) q2
          · exact z
        refine G.iload d16_290 rfl ?_
        refine G.bipush 63 d16_292 ?_
        refine G.icmp_ne d16_294 (fun z => absurd ((eqI i63).mpr h63.1) z) (fun _ => ?_)
        refine G.iload d16_297 rfl ?_
        exact G.if_lt d16_299 (fun z => absurd z h63.2) (fun _ => t302)
      · have hg : cs[pre.length]? = some 37 := by rw [hc, txts_cons]; simp [txt]
        have hga : cs[pre.length + 1]? = some a := by rw [hc, txts_cons]; simp [txt, List.getElem?_append]
        have hgb : cs[pre.length + 2]? = some b := by rw [hc, txts_cons]; simp [txt, List.getElem?_append]
        have hl3 : (txt (c, some (a, b))).length = 3 := rfl
        refine G.iload d16_225 rfl ?_
        refine G.iloadN d16_227 rfl ?_
        refine G.icmp_ge d16_228 (fun q => absurd (lt_of_toInt (by rw [hi, hn]; omega)) q) (fun _ => ?_)
        refine G.aloadN d16_231 rfl rfl ?_
        refine G.iload d16_232 rfl ?_
        refine G.callF1 d16_234 (hw 93 rfl) (hw 94 rfl) (hw 95 rfl) (hw 96 rfl) (hw 21 rfl) (hw 97 rfl) (hw 98 rfl) (hw 79 rfl) (hw 23 rfl) (hw 12 rfl) pd_21 Ts.1 (cSCA8 K.l Z a0 hw hEL h hC hF s sb cs hlat i pre.length hi 37 hg Ts) (fun _ q => nomatch q) ?_
        rintro _ h _ ⟨rfl, rfl, rfl⟩ -
        refine G.istore7 d16_239 ?_ (hl := by rcases hx7 with rfl | ⟨_, rfl⟩ <;> rfl)
        refine G.iload d16_241 rfl ?_
        refine G.bipush 37 d16_243 ?_
        refine G.icmp_ne d16_245 (fun q => absurd rfl q) (fun _ => ?_)
        refine G.aloadN d16_248 rfl rfl ?_
        refine G.iloadN d16_249 rfl ?_
        refine G.aloadN d16_250 rfl rfl ?_
        refine G.iload d16_251 rfl ?_
        refine G.callS2 d16_253 (hw 130 rfl) (hw 131 rfl) (hw 70 rfl) (hw 132 rfl) pd_32 (cEB K.l Z a0 hw h hC hF s sb cs hlat (by omega) i pre.length hi c a b hga hgb ht Ts) (fun _ q => nomatch q) ?_
        rintro _ h _ ⟨rfl, rfl, rfl⟩ -
        refine G.callS3 d16_256 (hw 228 rfl) (hw 229 rfl) (hw 70 rfl) (hw 230 rfl) pd_33 (cPB K.l Z a0 hw h hP hX h1.size en c cs.length out hen (by omega) (by omega) (EscOk.c8 ht).1 hA) (by simp) ?_
        rintro _ h' _ ⟨⟨rr, rfl, hrr⟩, A', K', rfl⟩ -
        refine G.istore3 d16_259 ?_
        refine G.iinc4 2 d16_260 ?_
        refine G.goto d16_263 ?_
        exact next h' (i + 2) rr _ (Or.inr ⟨_, rfl⟩) (by rw [addI hi e2 (by omega)]; simp [txt]; omega) hrr A' (hK.trans K' (fun x q => by cases List.mem_singleton.mp q; exact Or.inr E1.1))
  have tail : ∀ (h : Heap) (sl i en : Int32), sl.toInt = ((5 + ns.length : Nat) : Int) → i.toInt = ((sch ++ txts ns ++ [47]).length : Int) → en.toInt = ((infoL ++ lows ns ++ [47]).length : Int) → Al Z h h1.size .char (nA cs.length (infoL ++ lows ns ++ [47])) → Keep h0 h [] →
      Go Z EL1 (false, [pI], []) rmPARSE (QP Z h0 ns id fr) K h [h1.size] 3 48 225 [.val (.ref s), .val (.int n), .val (.ref h1.size), .val (.int en), .val (.int i), .val (.int sl), .val (.int (-1)), .unset] [] := by
    intro h sl i en hsl hi hen hA hK
    have l1 := ns_le ns
    have l2 := encs_le id
    have l3 := frE_le fr
    have hil : infoL.length = 5 := rfl
    have hol : (outP ns id fr).length = 6 + ns.length + (encs id).length + (frE fr).length := by simp [outP, hil, lows_len]; omega
    have hcs1 : cs = (sch ++ txts ns ++ [47]) ++ txts id ++ frT fr := by rw [hcs]; simp
    refine loop2 sl (-1) id (sch ++ txts ns ++ [47]) (infoL ++ lows ns ++ [47]) h i en _ (Or.inl rfl) ⟨frT fr, hcs1⟩ hi hen (by simp [hil, h5, lows_len]; omega) (fun t q => (hid t q).mono (fun z => z.elim)) hA hK ?_
    intro h' i' en' x7' hx7' hi' hen' hA' hK'
    cases fr with
    | none =>
      refine t364 h' sl (-1) i' en' x7' (by rw [hi', hcs1]; simp [frT]) (by rw [hen']; simp [outP, frE]) (by simp [frT, frE] at hol hlen l3 ⊢; omega) hsl (Or.inl ⟨rfl, rfl⟩) (by have e : infoL ++ lows ns ++ [47] ++ encs id = outP ns id none := (by simp [outP, frE]); rw [← e]; exact hA') hK'
    | some f =>
      have Ts := strS h' hK'
      have hg : cs[(sch ++ txts ns ++ [47] ++ txts id).length]? = some 35 := by rw [hcs1]; exact get_at _ _ _
      have hpl : (sch ++ txts ns ++ [47] ++ txts id).length < cs.length := (List.getElem?_eq_some_iff.mp hg).1
      have hol2 : (infoL ++ lows ns ++ [47] ++ encs id).length ≤ (sch ++ txts ns ++ [47] ++ txts id).length := by simp [hil, h5, lows_len]; omega
      obtain ⟨pa, pvs, P1, P2, P3⟩ := hP
      obtain ⟨b, hb1, -, hb2⟩ := P3 35 (by decide)
      refine G.iload d16_225 rfl ?_
      refine G.iloadN d16_227 rfl ?_
      refine G.icmp_ge d16_228 (fun q => absurd (lt_of_toInt (by rw [hi', hn]; omega)) q) (fun _ => ?_)
      refine G.aloadN d16_231 rfl rfl ?_
      refine G.iload d16_232 rfl ?_
      refine G.callF1 d16_234 (hw 93 rfl) (hw 94 rfl) (hw 95 rfl) (hw 96 rfl) (hw 21 rfl) (hw 97 rfl) (hw 98 rfl) (hw 79 rfl) (hw 23 rfl) (hw 12 rfl) pd_21 Ts.1 (cSCA8 K.l Z a0 hw hEL h' hC hF s sb cs hlat i' _ hi' 35 hg Ts) (fun _ q => nomatch q) ?_
      rintro _ h' _ ⟨rfl, rfl, rfl⟩ -
      refine G.istore7 d16_239 ?_ (hl := by rcases hx7' with rfl | ⟨_, rfl⟩ <;> rfl)
      refine G.iload d16_241 rfl ?_
      refine G.bipush 37 d16_243 ?_
      refine G.icmp_ne d16_245 (fun _ => ?_) (fun q => absurd q (by decide))
      refine G.iload d16_266 rfl ?_
      refine G.sipush 128 d16_268 ?_
      refine G.icmp_ge d16_271 (fun q => absurd (by decide) q) (fun _ => ?_)
      refine G.getS d16_274 (hw 226 rfl) P1 ?_
      refine G.iload d16_277 rfl ?_
      refine Go.oldIn (fun O => ?_)
      refine G.zaload d16_279 (P2.ext O) (i := 35) (by decide) hb1 ?_
      refine G.if_ne d16_280 (fun q => absurd (hb2.mp q) (by unfold PcN; omega)) (fun q => ?_)
      refine G.iload d16_283 rfl ?_
      refine G.bipush 47 d16_285 ?_
      refine G.icmp_eq d16_287 (fun q => absurd q (by decide)) (fun _ => ?_)
      refine G.iload d16_290 rfl ?_
      refine G.bipush 63 d16_292 ?_
      refine G.icmp_ne d16_294 (fun _ => ?_) (fun q => absurd q (by decide))
      refine G.iload d16_313 rfl ?_
      refine G.bipush 35 d16_315 ?_
      refine G.icmp_ne d16_317 (fun q => absurd rfl q) (fun _ => ?_)
      refine G.iload d16_320 rfl ?_
      refine G.if_ge d16_322 (fun q => absurd (by decide) q) (fun _ => ?_)
      refine G.iloadN d16_325 rfl ?_
      refine G.istore6 d16_326 ?_
      refine G.aloadN d16_328 rfl rfl ?_
      refine G.iloadN d16_329 rfl ?_
      refine G.iinc3 1 d16_330 ?_
      refine G.iload d16_333 rfl ?_
      refine G.castA d16_335 (by simp) hA' hen' (by omega) (by decide) (fun h'' W A'' => ?_)
      refine G.goto d16_336 ?_
      refine G.iinc4 1 d16_358 ?_
      refine G.goto d16_361 ?_
      have hcs2 : cs = (sch ++ txts ns ++ [47] ++ txts id ++ [35]) ++ txts f ++ [] := by rw [hcs1]; simp [frT]
      refine loop2 sl en' f (sch ++ txts ns ++ [47] ++ txts id ++ [35]) (infoL ++ lows ns ++ [47] ++ encs id ++ [35]) h'' (i' + 1) (en' + 1) _ (Or.inr ⟨_, rfl⟩) ⟨[], hcs2⟩ (by rw [inc_toInt hi' (by omega)]; simp; omega) (by rw [inc_toInt hen' (by omega)]; simp; omega) (by have := hol2; simp only [List.length_append, List.length_singleton] at this ⊢; omega) (fun t q => (hfr f rfl t q).mono (fun _ => not_lt_of_toInt (by rw [toInt_0, hen']; omega))) A'' (putK _ _ _ _ hK' W) ?_
      intro h3 i3 en3 x73 hx73 hi3 hen3 hA3 hK3
      refine t364 h3 sl en' i3 en3 x73 (by rw [hi3, hcs2]; simp) (by rw [hen3]; simp [outP, frE]) (by simp [frT, frE] at hol hlen l3 ⊢; omega) hsl (Or.inr ⟨by simp, by rw [hen']; simp [hil, lows_len]; omega⟩) (by have e : infoL ++ lows ns ++ [47] ++ encs id ++ [35] ++ encs f = outP ns id (some f) := (by simp [outP, frE]); rw [← e]; exact hA3) hK3
  have k170 : ∀ (h : Heap) (i en : Int32) (x5 x6 : Slot), Sl0 x5 → Sl0 x6 → i.toInt = ((sch ++ txts ns).length : Int) → en.toInt = ((infoL ++ lows ns).length : Int) → Al Z h h1.size .char (nA cs.length (infoL ++ lows ns)) → Keep h0 h [] →
      Go Z EL1 (false, [pI], []) rmPARSE (QP Z h0 ns id fr) K h [h1.size] 3 48 170 [.val (.ref s), .val (.int n), .val (.ref h1.size), .val (.int en), .val (.int i), x5, x6, .unset] [] := by
    intro h i en x5 x6 hx5 hx6 hi hen hA hK
    have hil : infoL.length = 5 := rfl
    have l1 := ns_le ns
    have hpos : 1 ≤ ns.length := by obtain ⟨t, r, e, -⟩ := hlet; rw [e]; simp
    rw [List.length_append, h5] at hi
    refine G.iload d16_170 rfl ?_
    refine G.iloadN d16_172 rfl ?_
    refine G.icmp_ne d16_173 (fun _ => ?_) (fun q => absurd (congrArg Int32.toInt q) (by rw [hi, hn]; omega))
    refine G.iload d16_187 rfl ?_
    refine G.ldcW (infoL.map bL) d16_189 (hw 89 rfl) (by simp) (by simp) ⟨by decide +kernel, by decide +kernel⟩ (fun sa ab T1 M1 => ?_)
    refine G.callV0 d16_191 (hw 90 rfl) (hw 91 rfl) (hw 92 rfl) (hw 76 rfl) (hw 80 rfl) (hw 12 rfl) pd_13 T1.1 (cLEN8 K.l Z a0 hw hEL h hC sa ab _ T1) (fun _ q => nomatch q) ?_
    rintro _ h _ ⟨⟨m, rfl, hm⟩, rfl, rfl⟩ -
    have hm : m.toInt = 5 := hm
    refine G.icmp_ne d16_194 (fun _ => ?_) (fun q => absurd (congrArg Int32.toInt q) (by rw [hi, hm]; omega))
    refine G.iloadN d16_208 rfl ?_
    refine G.istore5 d16_209 ?_ (hl := by rcases hx5 with rfl | ⟨_, rfl⟩ <;> rfl)
    refine G.iconst (-1) d16_211 ?_
    refine G.istore6 d16_212 ?_ (hl := by rcases hx6 with rfl | ⟨_, rfl⟩ <;> rfl)
    refine G.aloadN d16_214 rfl rfl ?_
    refine G.iloadN d16_215 rfl ?_
    refine G.iinc3 1 d16_216 ?_
    refine G.bipush 47 d16_219 ?_
    refine G.castA d16_221 (by simp) hA hen (by simp [hil, lows_len]; omega) (by decide) (fun h' W A' => ?_)
    refine G.iinc4 1 d16_222 ?_
    exact tail h' en (i + 1) (en + 1) (by rw [hen]; simp [hil, lows_len]) (by rw [inc_toInt (i := 5 + (txts ns).length) hi (by omega)]; simp [h5]; omega) (by rw [inc_toInt hen (by simp [hil, lows_len]; omega)]; simp; omega) A' (putK _ _ _ _ hK W)
  have loop1 : ∀ (ts : List Tok) (pre out : List Int32) (h : Heap) (i en : Int32) (x5 x6 : Slot), Sl0 x5 → Sl0 x6 → pre ++ txts ts = sch ++ txts ns → out ++ lows ts = infoL ++ lows ns → i.toInt = (pre.length : Int) → en.toInt = (out.length : Int) → out.length ≤ pre.length → 5 ≤ pre.length → (pre.length = 5 → ∃ t r, ts = t :: r ∧ Let t.1) → (∀ t ∈ ts, Tn t) → Al Z h h1.size .char (nA cs.length out) → Keep h0 h [] →
      Go Z EL1 (false, [pI], []) rmPARSE (QP Z h0 ns id fr) K h [h1.size] 3 48 55 [.val (.ref s), .val (.int n), .val (.ref h1.size), .val (.int en), .val (.int i), x5, x6, .unset] [] := by
    intro ts
    induction ts with
    | nil =>
      intro pre out h i en x5 x6 hx5 hx6 hpre hout hi hen hle hp5 hl5 hok hA hK
      have hpre : pre = sch ++ txts ns := by simpa [txts] using hpre
      have hout : out = infoL ++ lows ns := by simpa [lows] using hout
      have Ts := strS h hK
      have hg : cs[pre.length]? = some 47 := by rw [hcs, ← hpre]; simp
      have hlt := (List.getElem?_eq_some_iff.mp hg).1
      refine G.iload d16_55 rfl ?_
      refine G.iloadN d16_57 rfl ?_
      refine G.icmp_ge d16_58 (fun q => absurd (lt_of_toInt (by rw [hi, hn]; omega)) q) (fun _ => ?_)
      refine G.aloadN d16_61 rfl rfl ?_
      refine G.iload d16_62 rfl ?_
      refine G.callF1 d16_64 (hw 93 rfl) (hw 94 rfl) (hw 95 rfl) (hw 96 rfl) (hw 21 rfl) (hw 97 rfl) (hw 98 rfl) (hw 79 rfl) (hw 23 rfl) (hw 12 rfl) pd_21 Ts.1 (cSCA8 K.l Z a0 hw hEL h hC hF s sb cs hlat i pre.length hi 47 hg Ts) (fun _ q => nomatch q) ?_
      rintro _ h _ ⟨rfl, rfl, rfl⟩ -
      refine G.bipush 47 d16_69 ?_
      refine G.icmp_eq d16_71 (fun _ => ?_) (fun q => absurd rfl q)
      exact k170 h i en x5 x6 hx5 hx6 (by rw [hi, hpre]) (by rw [hen, hout]) (by rw [← hout]; exact hA) hK
    | cons t r ih =>
      intro pre out h i en x5 x6 hx5 hx6 hpre hout hi hen hle hp5 hl5 hok hA hK
      have Ts := strS h hK
      have hr : ∀ t ∈ r, Tn t := fun t q => hok t (List.mem_cons_of_mem _ q)
      have ht := hok t (List.mem_cons_self ..)
      have hc : cs = pre ++ txt t ++ (txts r ++ 47 :: (txts id ++ frT fr)) := by rw [hcs, ← hpre, txts_cons]; simp
      have hlc : cs.length = pre.length + (txt t).length + ((txts r).length + (1 + ((txts id).length + (frT fr).length))) := by rw [hc]; simp; omega
      have h1t : 1 ≤ (txt t).length := by obtain ⟨c, _ | ⟨a, b⟩⟩ := t <;> simp [txt]
      have n8 := ns8 ht.ns
      have l8 := (low_toInt ht.ns).1
      have t135 : ∀ i' : Int32, i'.toInt + 1 = ((pre ++ txt t).length : Int) → Go Z EL1 (false, [pI], []) rmPARSE (QP Z h0 ns id fr) K h [h1.size] 3 48 135 [.val (.ref s), .val (.int n), .val (.ref h1.size), .val (.int en), .val (.int i'), .val (.int i), .val (.int t.1), .unset] [] := by
        intro i' hi'
        refine G.iload d16_135 rfl ?_
        refine G.callS1 d16_137 (hw 139 rfl) (hw 140 rfl) (hw 70 rfl) (hw 141 rfl) pd_20 (cINC K.l Z a0 hw h hN t.1 ⟨by omega, by omega⟩) (fun _ q => nomatch q) ?_
        rintro _ h _ ⟨⟨b, rfl, -, hb⟩, rfl, rfl⟩ -
        refine G.if_ne d16_140 (fun _ => ?_) (fun z => absurd z (hb.mpr ht.ns))
        refine G.aloadN d16_152 rfl rfl ?_
        refine G.iloadN d16_153 rfl ?_
        refine G.iinc3 1 d16_154 ?_
        refine G.iload d16_157 rfl ?_
        refine G.callS1 d16_159 (hw 99 rfl) (hw 100 rfl) (hw 70 rfl) (hw 101 rfl) pd_25 (cILW K.l Z a0 hw h t.1) (fun _ q => nomatch q) ?_
        rintro _ h _ ⟨rfl, rfl, rfl⟩ -
        refine G.i2c d16_162 ?_
        rw [i2c8 l8]
        refine G.castA d16_163 (by simp) hA hen (by omega) (C16 l8) (fun h' W A' => ?_)
        refine G.iinc4 1 d16_164 ?_
        refine G.goto d16_167 ?_
        refine ih (pre ++ txt t) (out ++ [low t.1]) h' (i' + 1) (en + 1) _ _ (Or.inr ⟨_, rfl⟩) (Or.inr ⟨_, rfl⟩) (by rw [← hpre, txts_cons]; simp) (by rw [← hout, lows_cons]; simp) ?_ (by rw [inc_toInt hen (by omega)]; simp) (by simp; omega) (by simp; omega) (fun z => by simp at z; omega) hr A' (putK _ _ _ _ hK W)
        have a1 := c_iadd i' 1
        have a2 := rng32 (i' + 1)
        have a3 : ((pre ++ txt t).length : Int) < 100 := by simp; omega
        rw [e1] at a1
        omega
      have t106 : ∀ i' : Int32, i'.toInt + 1 = ((pre ++ txt t).length : Int) → Go Z EL1 (false, [pI], []) rmPARSE (QP Z h0 ns id fr) K h [h1.size] 3 48 106 [.val (.ref s), .val (.int n), .val (.ref h1.size), .val (.int en), .val (.int i'), .val (.int i), .val (.int t.1), .unset] [] := by
        intro i' hi'
        refine G.iload d16_106 rfl ?_
        refine G.ldcW (infoL.map bL) d16_108 (hw 89 rfl) (by simp) (by simp) ⟨by decide +kernel, by decide +kernel⟩ (fun sa ab T1 M1 => ?_)
        refine G.callV0 d16_110 (hw 90 rfl) (hw 91 rfl) (hw 92 rfl) (hw 76 rfl) (hw 80 rfl) (hw 12 rfl) pd_13 T1.1 (cLEN8 K.l Z a0 hw hEL h hC sa ab _ T1) (fun _ q => nomatch q) ?_
        rintro _ h _ ⟨⟨m, rfl, hm⟩, rfl, rfl⟩ -
        have hm : m.toInt = 5 := hm
        refine G.icmp_ne d16_113 (fun _ => t135 i' hi') (fun q => ?_)
        have hlt : Let t.1 := by
          obtain ⟨t', r', e, hl⟩ := hl5 (by have := congrArg Int32.toInt q; rw [hi, hm] at this; omega)
          cases e
          exact hl
        refine G.iload d16_116 rfl ?_
        refine G.callS1 d16_118 (hw 102 rfl) (hw 103 rfl) (hw 70 rfl) (hw 104 rfl) pd_20 (cIIL K.l Z a0 hw h t.1) (fun _ q => nomatch q) ?_
        rintro _ h _ ⟨⟨b, rfl, -, hb⟩, rfl, rfl⟩ -
        exact G.if_ne d16_121 (fun _ => t135 i' hi') (fun z => absurd z (hb.mpr hlt))
      obtain ⟨c, _ | ⟨a, b⟩⟩ := t
      · have hg : cs[pre.length]? = some c := by rw [hc]; simp [txt]
        refine G.iload d16_55 rfl ?_
        refine G.iloadN d16_57 rfl ?_
        refine G.icmp_ge d16_58 (fun q => absurd (lt_of_toInt (by rw [hi, hn]; omega)) q) (fun _ => ?_)
        refine G.aloadN d16_61 rfl rfl ?_
        refine G.iload d16_62 rfl ?_
        refine G.callF1 d16_64 (hw 93 rfl) (hw 94 rfl) (hw 95 rfl) (hw 96 rfl) (hw 21 rfl) (hw 97 rfl) (hw 98 rfl) (hw 79 rfl) (hw 23 rfl) (hw 12 rfl) pd_21 Ts.1 (cSCA8 K.l Z a0 hw hEL h hC hF s sb cs hlat i pre.length hi c hg Ts) (fun _ q => nomatch q) ?_
        rintro _ h _ ⟨rfl, rfl, rfl⟩ -
        refine G.bipush 47 d16_69 ?_
        have hns : Ns c := ht
        refine G.icmp_eq d16_71 (fun q => absurd ((eqI i47).mp q) (by unfold Ns Let at hns; omega)) (fun _ => ?_)
        refine G.iload d16_74 rfl ?_
        refine G.istore5 d16_76 ?_ (hl := by rcases hx5 with rfl | ⟨_, rfl⟩ <;> rfl)
        refine G.aloadN d16_78 rfl rfl ?_
        refine G.iload d16_79 rfl ?_
        refine G.callF1 d16_81 (hw 93 rfl) (hw 94 rfl) (hw 95 rfl) (hw 96 rfl) (hw 21 rfl) (hw 97 rfl) (hw 98 rfl) (hw 79 rfl) (hw 23 rfl) (hw 12 rfl) pd_21 Ts.1 (cSCA8 K.l Z a0 hw hEL h hC hF s sb cs hlat i pre.length hi c hg Ts) (fun _ q => nomatch q) ?_
        rintro _ h _ ⟨rfl, rfl, rfl⟩ -
        refine G.istore6 d16_86 ?_ (hl := by rcases hx6 with rfl | ⟨_, rfl⟩ <;> rfl)
        refine G.iload d16_88 rfl ?_
        refine G.bipush 37 d16_90 ?_
        refine G.icmp_ne d16_92 (fun _ => ?_) (fun q => absurd ((eqI i37).mp q) (by unfold Ns Let at hns; omega))
        exact t106 i (by rw [hi]; simp [txt])
      · have hg : cs[pre.length]? = some 37 := by rw [hc]; simp [txt]
        have hga : cs[pre.length + 1]? = some a := by rw [hc]; simp [txt, List.getElem?_append]
        have hgb : cs[pre.length + 2]? = some b := by rw [hc]; simp [txt, List.getElem?_append]
        refine G.iload d16_55 rfl ?_
        refine G.iloadN d16_57 rfl ?_
        refine G.icmp_ge d16_58 (fun q => absurd (lt_of_toInt (by rw [hi, hn]; omega)) q) (fun _ => ?_)
        refine G.aloadN d16_61 rfl rfl ?_
        refine G.iload d16_62 rfl ?_
        refine G.callF1 d16_64 (hw 93 rfl) (hw 94 rfl) (hw 95 rfl) (hw 96 rfl) (hw 21 rfl) (hw 97 rfl) (hw 98 rfl) (hw 79 rfl) (hw 23 rfl) (hw 12 rfl) pd_21 Ts.1 (cSCA8 K.l Z a0 hw hEL h hC hF s sb cs hlat i pre.length hi 37 hg Ts) (fun _ q => nomatch q) ?_
        rintro _ h _ ⟨rfl, rfl, rfl⟩ -
        refine G.bipush 47 d16_69 ?_
        refine G.icmp_eq d16_71 (fun q => absurd q (by decide)) (fun _ => ?_)
        refine G.iload d16_74 rfl ?_
        refine G.istore5 d16_76 ?_ (hl := by rcases hx5 with rfl | ⟨_, rfl⟩ <;> rfl)
        refine G.aloadN d16_78 rfl rfl ?_
        refine G.iload d16_79 rfl ?_
        refine G.callF1 d16_81 (hw 93 rfl) (hw 94 rfl) (hw 95 rfl) (hw 96 rfl) (hw 21 rfl) (hw 97 rfl) (hw 98 rfl) (hw 79 rfl) (hw 23 rfl) (hw 12 rfl) pd_21 Ts.1 (cSCA8 K.l Z a0 hw hEL h hC hF s sb cs hlat i pre.length hi 37 hg Ts) (fun _ q => nomatch q) ?_
        rintro _ h _ ⟨rfl, rfl, rfl⟩ -
        refine G.istore6 d16_86 ?_ (hl := by rcases hx6 with rfl | ⟨_, rfl⟩ <;> rfl)
        refine G.iload d16_88 rfl ?_
        refine G.bipush 37 d16_90 ?_
        refine G.icmp_ne d16_92 (fun q => absurd rfl q) (fun _ => ?_)
        refine G.aloadN d16_95 rfl rfl ?_
        refine G.iload d16_96 rfl ?_
        refine G.callS2 d16_98 (hw 130 rfl) (hw 131 rfl) (hw 70 rfl) (hw 132 rfl) pd_32 (cEB K.l Z a0 hw h hC hF s sb cs hlat (by omega) i pre.length hi c a b hga hgb ht.2 Ts) (fun _ q => nomatch q) ?_
        rintro _ h _ ⟨rfl, rfl, rfl⟩ -
        refine G.istore6 d16_101 ?_
        refine G.iinc4 2 d16_103 ?_
        exact t106 (i + 2) (by rw [addI hi e2 (by omega)]; simp [txt]; omega)
  refine G.ldcW (infoL.map bL) d16_42 (hw 89 rfl) (by simp) (by simp) ⟨by decide +kernel, by decide +kernel⟩ (fun sa3 ab3 T3 M3 => ?_)
  refine G.callV0 d16_44 (hw 90 rfl) (hw 91 rfl) (hw 92 rfl) (hw 76 rfl) (hw 80 rfl) (hw 12 rfl) pd_13 T3.1 (cLEN8 K.l Z a0 hw hEL h3 hC sa3 ab3 _ T3) (fun _ q => nomatch q) ?_
  rintro _ h3 _ ⟨⟨m3, rfl, hm3⟩, rfl, rfl⟩ -
  refine G.istore3 d16_47 ?_
  refine G.ldcW (infoL.map bL) d16_48 (hw 89 rfl) (by simp) (by simp) ⟨by decide +kernel, by decide +kernel⟩ (fun sa4 ab4 T4 M4 => ?_)
  refine G.callV0 d16_50 (hw 90 rfl) (hw 91 rfl) (hw 92 rfl) (hw 76 rfl) (hw 80 rfl) (hw 12 rfl) pd_13 T4.1 (cLEN8 K.l Z a0 hw hEL h3 hC sa4 ab4 _ T4) (fun _ q => nomatch q) ?_
  rintro _ h3 _ ⟨⟨m4, rfl, hm4⟩, rfl, rfl⟩ -
  refine G.istore4 d16_53 ?_
  exact loop1 ns sch infoL h3 m4 m3 _ _ (Or.inl rfl) (Or.inl rfl) rfl rfl (by rw [h5]; exact hm4) hm3 (by rw [h5]; exact Nat.le_refl _) (by rw [h5]; exact Nat.le_refl _) (fun _ => hlet) hns B3 Kp3
-- CHUNK
theorem sub32 {c : Int32} (h0 : 32 ≤ c.toInt) (h1 : c.toInt < 256) : C8 c ∧ C8 (c - 32) ∧ (97 ≤ c.toInt → c.toInt ≤ 122 → ∀ b, low (upC c b) = c ∧ C8 (upC c b)) := by
  have a1 := c_isub c 32
  have a2 := rng32 (c - 32)
  have a3 : (32 : Int32).toInt = 32 := by decide
  rw [a3] at a1
  have c1 : C8 c := ⟨by omega, by omega⟩
  have c2 : C8 (c - 32) := ⟨by omega, by omega⟩
  refine ⟨c1, c2, fun g0 g1 b => ?_⟩
  unfold upC
  by_cases q : b = 0
  · rw [if_pos q]
    refine ⟨?_, c1⟩
    unfold low
    rw [if_neg (by omega)]
  · rw [if_neg q]
    refine ⟨?_, c2⟩
    unfold low
    rw [if_pos (by omega)]
    apply Int32.toInt_inj.mp
    have b1 := c_iadd (c - 32) 32
    have b2 := rng32 (c - 32 + 32)
    rw [a3] at b1
    omega
def schL (a : Int32) : List Int32 := [upC 105 (a &&& 1), upC 110 (a &&& 2), upC 102 (a &&& 4), upC 111 (a &&& 8), 58]
theorem schL_low (a : Int32) : (schL a).map low = infoL ∧ Lat (schL a) := by
  have h1 := (sub32 (c := 105) (by decide) (by decide)).2.2 (by decide) (by decide) (a &&& 1)
  have h2 := (sub32 (c := 110) (by decide) (by decide)).2.2 (by decide) (by decide) (a &&& 2)
  have h3 := (sub32 (c := 102) (by decide) (by decide)).2.2 (by decide) (by decide) (a &&& 4)
  have h4 := (sub32 (c := 111) (by decide) (by decide)).2.2 (by decide) (by decide) (a &&& 8)
  constructor
  · simp only [schL, List.map_cons, List.map_nil, h1.1, h2.1, h3.1, h4.1]
    decide
  · exact Lat.cons h1.2 (Lat.cons h2.2 (Lat.cons h3.2 (Lat.cons h4.2 (Lat.cons (by decide) Lat.nil))))
def nsA (n1 n2 : Int32) : List Tok := nsT n1 52 ++ nsT n2 65
theorem nsA_ok (n1 n2 : Int32) : (∀ t ∈ nsA n1 n2, Tn t) ∧ (txts (nsA n1 n2)).length = 6 ∧ ∃ t r, nsA n1 n2 = t :: r ∧ Let t.1 := by
  obtain ⟨p1, p2, p3, p4⟩ := nsT_ok (u := n1) (k := 52) (Or.inl rfl)
  obtain ⟨q1, q2, q3, -⟩ := nsT_ok (u := n2) (k := 65) (Or.inr rfl)
  refine ⟨fun t h => ?_, ?_, ?_⟩
  · rcases List.mem_append.mp h with h | h
    · exact p1 t h
    · exact q1 t h
  · unfold nsA; rw [txts_app, List.length_append, p2, q2]
  · obtain ⟨t, r, e, hl⟩ := p4 rfl
    exact ⟨t, r ++ nsT n2 65, by unfold nsA; rw [e]; rfl, hl⟩
def IdOk (b6 u1 u2 : Int32) (id : List Tok) : Prop := (b6 = 0 ∧ id = []) ∨ (b6 ≠ 0 ∧ id = unT u1 80 ++ unT u2 80)
def FrOk (b7 f : Int32) (fr : Option (List Tok)) : Prop := (b7 = 0 ∧ fr = none) ∨ (b7 ≠ 0 ∧ fr = some (unT f 81))
theorem IdOk.ti {b6 u1 u2 : Int32} {id : List Tok} (h : IdOk b6 u1 u2 id) : ∀ t ∈ id, Ti False t := by
  rcases h with ⟨-, rfl⟩ | ⟨-, rfl⟩
  · exact fun _ q => nomatch q
  · intro t ht
    rcases List.mem_append.mp ht with h | h
    · exact (unT_ok (k := 80) (Or.inl rfl) (fun z => absurd z (by decide))).1 t h
    · exact (unT_ok (k := 80) (Or.inl rfl) (fun z => absurd z (by decide))).1 t h
theorem FrOk.ti {b7 f : Int32} {fr : Option (List Tok)} (h : FrOk b7 f fr) : ∀ g, fr = some g → ∀ t ∈ g, Ti True t := by
  rcases h with ⟨-, rfl⟩ | ⟨-, rfl⟩
  · intro g e; cases e
  · intro g e t ht
    cases e
    exact (unT_ok (k := 81) (Or.inr rfl) (fun _ => trivial)).1 t ht
theorem law1 (l : Launch) (Z : State) (a0 : Array Value) (hw : hwT a0 Z) (h0 : Heap) (hC : CS Z) (hF : SF Z) (hN : NS Z) (hP : PC Z) (hX : HS Z) (a n1 n2 u1 u2 f : Int32) : Con l Z EL1 false x code maxLocals ret tables_1 room_1 #[.int a, .int n1, .int n2, .int u1, .int u2, .int f] h0 [] (fun v h S' => v = some (.int 1)) := by
  have hEL := hEL1 hw
  have e1 : (1 : Int32).toInt = ((1 : Nat) : Int) := by decide
  obtain ⟨s1, s2⟩ := schL_low a
  obtain ⟨w1, w2, w3⟩ := nsA_ok n1 n2
  have hil : infoL.length = 5 := rfl
  refine Con.enter (a0 := a0) pn_52 hEL [.val (.int a), .val (.int n1), .val (.int n2), .val (.int u1), .val (.int u2), .val (.int f), .unset, .unset, .unset, .unset, .unset, .unset, .unset, .unset, .unset, .unset] (fun m => by first | (simp [entryFrame, mkF, argsToLocals, Value.category, maxLocals]; done) | rfl) ?_
  intro K G
  have t223 : ∀ (b6 b7 len p : Int32) (id : List Tok) (fr : Option (List Tok)) (h : Heap) (o nb tb : Addr) (sl hs : Int32), IdOk b6 u1 u2 id → FrOk b7 f fr → (outP (nsA n1 n2) id fr).length ≤ 24 → IU Z h o nb tb (outP (nsA n1 n2) id fr) sl hs → sl.toInt = ((5 + (nsA n1 n2).length : Nat) : Int) → HsOk hs (nsA n1 n2) id fr →
      Go Z EL1 false room_1 (fun v h S' => v = some (.int 1)) K h [] 19 1644 223 [.val (.int a), .val (.int n1), .val (.int n2), .val (.int u1), .val (.int u2), .val (.int f), .val (.int b6), .val (.int b7), .val (.int len), .val (.ref h0.size), .val (.int p), .val (.ref o), .val (.ref nb), .val (.int 0), .unset, .unset] [] := by
    intro b6 b7 len p id fr h o nb tb sl hs hid hfr h24 hU hsl hhs
    have hlo : Lat (outP (nsA n1 n2) id fr) := by
      refine Lat.app (Lat.app info8 (lows8 w1)) (Lat.cons (by decide) (Lat.app (lat_encs (P := Ti False) (fun t h => Ti.latE t h) id hid.ti) ?_))
      cases fr with
      | none => exact Lat.nil
      | some g => exact Lat.cons (by decide) (lat_encs (P := Ti True) (fun t h => Ti.latE t h) g (hfr.ti g rfl))
    obtain ⟨out, ho⟩ : ∃ out, out = outP (nsA n1 n2) id fr := ⟨_, rfl⟩
    rw [← ho] at hlo h24 hU
    have hov : out = infoL ++ lows (nsT n1 52) ++ lows (nsT n2 65) ++ 47 :: (encs id ++ frE fr) := by rw [ho]; simp [outP, nsA, lows_app]
    have hlen : out.length = 5 + (nsA n1 n2).length + 1 + (encs id).length + (frE fr).length := by rw [ho]; simp [outP, hil, lows_len]; omega
    have hnl : (lows (nsT n1 52)).length + (lows (nsT n2 65)).length = (nsA n1 n2).length := by simp [nsA, lows_len]
    have t378 : ∀ (h : Heap) (at_ ats ate : Int32), IU Z h o nb tb out sl hs → at_.toInt = (out.length : Int) → ats.toInt = ((5 + (nsA n1 n2).length : Nat) : Int) → ate.toInt = ((6 + (nsA n1 n2).length + (encs id).length : Nat) : Int) →
        Go Z EL1 false room_1 (fun v h S' => v = some (.int 1)) K h [] 29 3156 378 [.val (.int a), .val (.int n1), .val (.int n2), .val (.int u1), .val (.int u2), .val (.int f), .val (.int b6), .val (.int b7), .val (.int len), .val (.ref h0.size), .val (.int p), .val (.ref o), .val (.ref nb), .val (.int at_), .val (.int ats), .val (.int ate)] [] := by
      intro h at_ ats ate hU hat hats hate
      refine G.iload d0_378 rfl ?_
      refine G.aload d0_380 rfl rfl ?_
      refine G.callV0 d0_382 (hw 171 rfl) (hw 91 rfl) (hw 92 rfl) (hw 76 rfl) (hw 80 rfl) (hw 12 rfl) pd_13 hU.2.2.2.2.1 (cLEN8 K.l Z a0 hw hEL h hC nb tb _ hU.2.2.2.2) (fun _ q => nomatch q) ?_
      rintro _ h _ ⟨⟨m, rfl, hm⟩, rfl, rfl⟩ -
      rw [List.length_map] at hm
      refine G.icmp_ne d0_385 (fun q => absurd (Int32.toInt_inj.mp (by rw [hat, hm])) q) (fun _ => ?_)
      refine G.iload d0_388 rfl ?_
      refine G.if_lt d0_390 (fun q => absurd q (not_lt_of_toInt (by rw [toInt_0, hats]; omega))) (fun _ => ?_)
      refine G.iload d0_393 rfl ?_
      refine G.if_lt d0_395 (fun q => absurd q (not_lt_of_toInt (by rw [toInt_0, hate]; omega))) (fun _ => ?_)
      refine G.aload d0_398 rfl rfl ?_
      refine G.callV0 d0_400 (hw 178 rfl) (hw 179 rfl) (hw 181 rfl) (hw 180 rfl) (hw 182 rfl) (hw 70 rfl) pd_34 hU.1 (cNSPC K.l Z a0 hw h hC hF o nb tb out sl hs (5 + (nsA n1 n2).length) hsl (by omega) (by omega) h24 hU) (fun _ q => nomatch q) ?_
      rintro _ h2 _ ⟨⟨r, rb, ws, rfl, T2, hl2⟩, E2, rfl⟩ -
      refine G.callV0 d0_403 (hw 171 rfl) (hw 91 rfl) (hw 92 rfl) (hw 76 rfl) (hw 80 rfl) (hw 12 rfl) pd_13 T2.1 (cLEN8 K.l Z a0 hw hEL h2 hC r rb _ T2) (fun _ q => nomatch q) ?_
      rintro _ h2 _ ⟨⟨m2, rfl, hm2⟩, rfl, rfl⟩ -
      refine G.iload d0_406 rfl ?_
      refine G.iconst 5 d0_408 ?_
      refine G.isub d0_409 ?_
      refine G.icmp_ne d0_410 (fun q => absurd (Int32.toInt_inj.mp (by
        have b1 := c_isub ats 5
        have b2 := rng32 (ats - 5)
        have b3 : (5 : Int32).toInt = 5 := by decide
        rw [b3, hats] at b1
        rw [hm2, hl2]
        omega)) q) (fun _ => ?_)
      have hU2 := hU.ext E2
      refine G.aload d0_413 rfl rfl ?_
      refine G.callV0 d0_415 (hw 213 rfl) (hw 214 rfl) (hw 216 rfl) (hw 215 rfl) (hw 217 rfl) (hw 70 rfl) pd_34 hU2.1 (cIDT K.l Z a0 hw h2 hC hF o nb tb out sl hs (5 + (nsA n1 n2).length) (6 + (nsA n1 n2).length + (encs id).length) hsl (by
        rcases hhs with ⟨z1, z2⟩ | ⟨-, z2⟩
        · left
          refine ⟨z2, ?_⟩
          rw [hlen, z1]
          simp [frE]
          omega
        · exact Or.inr z2) (by omega) (by omega) h24 hU2) (fun _ q => nomatch q) ?_
      rintro _ h3 _ ⟨⟨r3, rb3, ws3, rfl, T3, hl3⟩, E3, rfl⟩ -
      refine G.callV0 d0_418 (hw 171 rfl) (hw 91 rfl) (hw 92 rfl) (hw 76 rfl) (hw 80 rfl) (hw 12 rfl) pd_13 T3.1 (cLEN8 K.l Z a0 hw hEL h3 hC r3 rb3 _ T3) (fun _ q => nomatch q) ?_
      rintro _ h3 _ ⟨⟨m3, rfl, hm3⟩, rfl, rfl⟩ -
      refine G.iload d0_421 rfl ?_
      refine G.iload d0_423 rfl ?_
      refine G.isub d0_425 ?_
      refine G.iconst 1 d0_426 ?_
      refine G.isub d0_427 ?_
      refine G.icmp_ne d0_428 (fun q => absurd (Int32.toInt_inj.mp (by
        have b1 := c_isub ate ats
        have b2 := rng32 (ate - ats)
        have b3 := c_isub (ate - ats) 1
        have b4 := rng32 (ate - ats - 1)
        rw [hate, hats] at b1
        rw [e1] at b3
        rw [hm3, hl3]
        omega)) q) (fun _ => ?_)
      refine G.iconst 1 d0_431 ?_
      refine G.goto d0_432 ?_
      exact G.nret d0_436 (Or.inl rfl) (z' := 1) (by decide) [] (fun _ q => nomatch q) rfl
    have t345 : ∀ (h : Heap) (at_ ats : Int32), IU Z h o nb tb out sl hs → at_.toInt = ((6 + (nsA n1 n2).length + (encs id).length : Nat) : Int) → ats.toInt = ((5 + (nsA n1 n2).length : Nat) : Int) →
        Go Z EL1 false room_1 (fun v h S' => v = some (.int 1)) K h [] 27 2828 345 [.val (.int a), .val (.int n1), .val (.int n2), .val (.int u1), .val (.int u2), .val (.int f), .val (.int b6), .val (.int b7), .val (.int len), .val (.ref h0.size), .val (.int p), .val (.ref o), .val (.ref nb), .val (.int at_), .val (.int ats), .unset] [] := by
      intro h at_ ats hU hat hats
      refine G.iload d0_345 rfl ?_
      refine G.istore15 d0_347 ?_
      refine G.iload d0_349 rfl ?_
      refine G.if_eq d0_351 (fun q => ?_) (fun q => ?_)
      · obtain rfl : fr = none := by
          rcases hfr with ⟨-, z⟩ | ⟨z, -⟩
          · exact z
          · exact absurd q z
        refine Go.more (k' := 29) (n' := 3156) ?_ (by decide) (by decide)
        exact t378 h at_ ats at_ hU (by rw [hat, hlen]; simp [frE]; omega) hats hat
      · obtain rfl : fr = some (unT f 81) := by
          rcases hfr with ⟨z, -⟩ | ⟨-, z⟩
          · exact absurd z q
          · exact z
        have hpl : (infoL ++ lows (nsT n1 52) ++ lows (nsT n2 65) ++ 47 :: encs id).length = 6 + (nsA n1 n2).length + (encs id).length := by simp [hil]; omega
        have ho1 : out = (infoL ++ lows (nsT n1 52) ++ lows (nsT n2 65) ++ 47 :: encs id) ++ 35 :: encs (unT f 81) := by rw [hov]; simp [frE]
        refine G.aload d0_354 rfl rfl ?_
        refine G.iload d0_356 rfl ?_
        refine G.bipush 35 d0_358 ?_
        refine G.callS3 d0_360 (hw 168 rfl) (hw 169 rfl) (hw 3 rfl) (hw 170 rfl) pd_24 (cM K.l Z a0 hw h hC hF nb tb out hlo (by omega) at_ 35 _ (hat.trans (by rw [← hpl])) (by rw [ho1]; exact get_at _ _ _) hU.2.2.2.2) (fun _ q => nomatch q) ?_
        rintro _ h _ ⟨⟨r1, rfl, hr1⟩, rfl, rfl⟩ -
        refine G.istore13 d0_363 ?_
        refine G.aload d0_365 rfl rfl ?_
        refine G.iload d0_367 rfl ?_
        refine G.iload d0_369 rfl ?_
        refine G.bipush 81 d0_371 ?_
        refine G.callS4 d0_373 (hw 233 rfl) (hw 234 rfl) (hw 3 rfl) (hw 235 rfl) pd_35 (cEXP K.l Z a0 hw h hC hF nb tb out (infoL ++ lows (nsT n1 52) ++ lows (nsT n2 65) ++ 47 :: encs id ++ [35]) [] hlo (by omega) r1 f 81 (Or.inr rfl) (by rw [hr1]; simp; omega) (by rw [ho1]; simp) hU.2.2.2.2) (fun _ q => nomatch q) ?_
        rintro _ h3 _ ⟨⟨r2, rfl, hr2⟩, E3, rfl⟩ -
        refine G.istore13 d0_376 ?_
        exact t378 h3 r2 ats at_ (hU.ext E3) (by rw [hr2, ho1]; simp) hats hat
    have gI : ∀ (j : Nat) (c : Int32), infoL[j]? = some c → out[j]? = some c := by
      intro j c hj
      have hlt := (List.getElem?_eq_some_iff.mp hj).1
      rw [hov, List.append_assoc, List.append_assoc, List.getElem?_append_left hlt]
      exact hj
    refine G.aload d0_223 rfl rfl ?_
    refine G.iload d0_225 rfl ?_
    refine G.bipush 105 d0_227 ?_
    refine G.callS3 d0_229 (hw 168 rfl) (hw 169 rfl) (hw 3 rfl) (hw 170 rfl) pd_24 (cM K.l Z a0 hw h hC hF nb tb out hlo (by omega) 0 105 0 (by decide) (gI 0 _ rfl) hU.2.2.2.2) (fun _ q => nomatch q) ?_
    rintro _ h _ ⟨⟨r0, rfl, hr0⟩, rfl, rfl⟩ -
    refine G.istore13 d0_232 ?_
    refine G.aload d0_234 rfl rfl ?_
    refine G.iload d0_236 rfl ?_
    refine G.bipush 110 d0_238 ?_
    refine G.callS3 d0_240 (hw 168 rfl) (hw 169 rfl) (hw 3 rfl) (hw 170 rfl) pd_24 (cM K.l Z a0 hw h hC hF nb tb out hlo (by omega) r0 110 1 hr0 (gI 1 _ rfl) hU.2.2.2.2) (fun _ q => nomatch q) ?_
    rintro _ h _ ⟨⟨r1, rfl, hr1⟩, rfl, rfl⟩ -
    refine G.istore13 d0_243 ?_
    refine G.aload d0_245 rfl rfl ?_
    refine G.iload d0_247 rfl ?_
    refine G.bipush 102 d0_249 ?_
    refine G.callS3 d0_251 (hw 168 rfl) (hw 169 rfl) (hw 3 rfl) (hw 170 rfl) pd_24 (cM K.l Z a0 hw h hC hF nb tb out hlo (by omega) r1 102 2 hr1 (gI 2 _ rfl) hU.2.2.2.2) (fun _ q => nomatch q) ?_
    rintro _ h _ ⟨⟨r2, rfl, hr2⟩, rfl, rfl⟩ -
    refine G.istore13 d0_254 ?_
    refine G.aload d0_256 rfl rfl ?_
    refine G.iload d0_258 rfl ?_
    refine G.bipush 111 d0_260 ?_
    refine G.callS3 d0_262 (hw 168 rfl) (hw 169 rfl) (hw 3 rfl) (hw 170 rfl) pd_24 (cM K.l Z a0 hw h hC hF nb tb out hlo (by omega) r2 111 3 hr2 (gI 3 _ rfl) hU.2.2.2.2) (fun _ q => nomatch q) ?_
    rintro _ h _ ⟨⟨r3, rfl, hr3⟩, rfl, rfl⟩ -
    refine G.istore13 d0_265 ?_
    refine G.aload d0_267 rfl rfl ?_
    refine G.iload d0_269 rfl ?_
    refine G.bipush 58 d0_271 ?_
    refine G.callS3 d0_273 (hw 168 rfl) (hw 169 rfl) (hw 3 rfl) (hw 170 rfl) pd_24 (cM K.l Z a0 hw h hC hF nb tb out hlo (by omega) r3 58 4 hr3 (gI 4 _ rfl) hU.2.2.2.2) (fun _ q => nomatch q) ?_
    rintro _ h _ ⟨⟨r4, rfl, hr4⟩, rfl, rfl⟩ -
    refine G.istore13 d0_276 ?_
    refine G.aload d0_278 rfl rfl ?_
    refine G.iload d0_280 rfl ?_
    refine G.iloadN d0_282 rfl ?_
    refine G.iconst 1 d0_283 ?_
    refine G.callS4 d0_284 (hw 172 rfl) (hw 173 rfl) (hw 3 rfl) (hw 174 rfl) pd_36 (cNSE K.l Z a0 hw h hC hF nb tb out infoL (lows (nsT n2 65) ++ 47 :: (encs id ++ frE fr)) hlo (by omega) r4 n1 1 52 (Or.inr ⟨rfl, rfl⟩) hr4 (by rw [hov]; simp) hU.2.2.2.2) (fun _ q => nomatch q) ?_
    rintro _ h5 _ ⟨⟨r5, rfl, hr5⟩, E5, rfl⟩ -
    have hU5 := hU.ext E5
    refine G.istore13 d0_287 ?_
    refine G.aload d0_289 rfl rfl ?_
    refine G.iload d0_291 rfl ?_
    refine G.iloadN d0_293 rfl ?_
    refine G.iconst 0 d0_294 ?_
    refine G.callS4 d0_295 (hw 172 rfl) (hw 173 rfl) (hw 3 rfl) (hw 174 rfl) pd_36 (cNSE K.l Z a0 hw h5 hC hF nb tb out (infoL ++ lows (nsT n1 52)) (47 :: (encs id ++ frE fr)) hlo (by omega) r5 n2 0 65 (Or.inl ⟨rfl, rfl⟩) hr5 (by rw [hov]) hU5.2.2.2.2) (fun _ q => nomatch q) ?_
    rintro _ h6 _ ⟨⟨r6, rfl, hr6⟩, E6, rfl⟩ -
    have hU6 := hU5.ext E6
    have hr6' : r6.toInt = ((5 + (nsA n1 n2).length : Nat) : Int) := by rw [hr6]; simp [hil]; omega
    refine G.istore13 d0_298 ?_
    refine G.iload d0_300 rfl ?_
    refine G.istore14 d0_302 ?_
    refine G.aload d0_304 rfl rfl ?_
    refine G.iload d0_306 rfl ?_
    refine G.bipush 47 d0_308 ?_
    refine G.callS3 d0_310 (hw 168 rfl) (hw 169 rfl) (hw 3 rfl) (hw 170 rfl) pd_24 (cM K.l Z a0 hw h6 hC hF nb tb out hlo (by omega) r6 47 _ hr6 (by rw [hov]; exact get_at _ _ _) hU6.2.2.2.2) (fun _ q => nomatch q) ?_
    rintro _ h6 _ ⟨⟨r7, rfl, hr7⟩, rfl, rfl⟩ -
    refine G.istore13 d0_313 ?_
    refine G.iload d0_315 rfl ?_
    refine G.if_eq d0_317 (fun q => ?_) (fun q => ?_)
    · obtain rfl : id = [] := by
        rcases hid with ⟨-, z⟩ | ⟨z, -⟩
        · exact z
        · exact absurd q z
      refine Go.more (k' := 27) (n' := 2828) ?_ (by decide) (by decide)
      exact t345 h6 r7 r6 hU6 (by rw [hr7]; simp [hil, encs]; omega) hr6'
    · obtain rfl : id = unT u1 80 ++ unT u2 80 := by
        rcases hid with ⟨z, -⟩ | ⟨-, z⟩
        · exact absurd z q
        · exact z
      refine G.aload d0_320 rfl rfl ?_
      refine G.iload d0_322 rfl ?_
      refine G.iloadN d0_324 rfl ?_
      refine G.bipush 80 d0_325 ?_
      refine G.callS4 d0_327 (hw 233 rfl) (hw 234 rfl) (hw 3 rfl) (hw 235 rfl) pd_35 (cEXP K.l Z a0 hw h6 hC hF nb tb out (infoL ++ lows (nsT n1 52) ++ lows (nsT n2 65) ++ [47]) (encs (unT u2 80) ++ frE fr) hlo (by omega) r7 u1 80 (Or.inl rfl) (by rw [hr7]; simp; omega) (by rw [hov, encs_app]; simp) hU6.2.2.2.2) (fun _ q => nomatch q) ?_
      rintro _ h8 _ ⟨⟨r8, rfl, hr8⟩, E8, rfl⟩ -
      have hU8 := hU6.ext E8
      refine G.istore13 d0_330 ?_
      refine G.aload d0_332 rfl rfl ?_
      refine G.iload d0_334 rfl ?_
      refine G.iload d0_336 rfl ?_
      refine G.bipush 80 d0_338 ?_
      refine G.callS4 d0_340 (hw 233 rfl) (hw 234 rfl) (hw 3 rfl) (hw 235 rfl) pd_35 (cEXP K.l Z a0 hw h8 hC hF nb tb out (infoL ++ lows (nsT n1 52) ++ lows (nsT n2 65) ++ [47] ++ encs (unT u1 80)) (frE fr) hlo (by omega) r8 u2 80 (Or.inl rfl) hr8 (by rw [hov, encs_app]; simp) hU8.2.2.2.2) (fun _ q => nomatch q) ?_
      rintro _ h9 _ ⟨⟨r9, rfl, hr9⟩, E9, rfl⟩ -
      refine G.istore13 d0_343 ?_
      exact t345 h9 r9 r6 (hU8.ext E9) (by rw [hr9, encs_app]; simp [hil]; omega) hr6'
  have t199 : ∀ (b6 b7 len p : Int32) (id : List Tok) (fr : Option (List Tok)) (h : Heap), IdOk b6 u1 u2 id → FrOk b7 f fr → (schL a ++ txts (nsA n1 n2) ++ 47 :: (txts id ++ frT fr)).length ≤ 24 → Al Z h h0.size .char (nA (schL a ++ txts (nsA n1 n2) ++ 47 :: (txts id ++ frT fr)).length (schL a ++ txts (nsA n1 n2) ++ 47 :: (txts id ++ frT fr))) →
      Go Z EL1 false room_1 (fun v h S' => v = some (.int 1)) K h [h0.size] 11 1536 199 [.val (.int a), .val (.int n1), .val (.int n2), .val (.int u1), .val (.int u2), .val (.int f), .val (.int b6), .val (.int b7), .val (.int len), .val (.ref h0.size), .val (.int p), .unset, .unset, .unset, .unset, .unset] [] := by
    intro b6 b7 len p id fr h hid hfr h24 hA
    have hlat : Lat (schL a ++ txts (nsA n1 n2) ++ 47 :: (txts id ++ frT fr)) := by
      refine Lat.app (Lat.app s2 (lat_txts (P := Tn) (fun t h => Tn.lat t h) _ w1)) (Lat.cons (by decide) (Lat.app (lat_txts (P := Ti False) (fun t h => Ti.lat t h) id hid.ti) ?_))
      cases fr with
      | none => exact Lat.nil
      | some g => exact Lat.cons (by decide) (lat_txts (P := Ti True) (fun t h => Ti.lat t h) g (hfr.ti g rfl))
    refine G.newO d0_199 (hw 47 rfl) (hw 13 rfl) (hw 12 rfl) (fun h2 E2 L2 A2 => ?_)
    refine G.dup d0_202 ?_
    refine G.aload d0_203 rfl rfl ?_
    refine G.callI1 d0_205 (hw 48 rfl) (hw 49 rfl) (hw 12 rfl) (hw 50 rfl) pd_37 (cSI K.l Z a0 hw hEL h2 hC h.size h0.size _ h24 (by simp; omega) hlat A2.1 A2.2 (hA.ext E2)) (by simp) ?_
    rintro _ h3 _ ⟨rfl, ⟨vb, -, T3⟩, K3, rfl⟩ -
    refine G.callS1 d0_208 (hw 68 rfl) (hw 69 rfl) (hw 70 rfl) (hw 71 rfl) pd_38 (cPARSE K.l Z a0 hw h3 hC hF hN hP hX h.size vb _ (schL a) (nsA n1 n2) id fr rfl rfl s1 w1 w3 hid.ti hfr.ti hlat h24 T3) (fun _ q => nomatch q) ?_
    rintro _ h4 _ ⟨⟨o, nb, tb, sl, hs, rfl, U4, hsl, hhs⟩, E4, rfl⟩ -
    refine G.astore11 d0_211 ?_
    refine G.aload d0_213 rfl rfl ?_
    refine G.callV0 d0_215 (hw 163 rfl) (hw 164 rfl) (hw 166 rfl) (hw 165 rfl) (hw 167 rfl) (hw 70 rfl) pd_34 U4.1 (cIUT K.l Z a0 hw h4 o nb tb _ sl hs U4) (fun _ q => nomatch q) ?_
    rintro _ h4 _ ⟨rfl, rfl, rfl⟩ -
    refine G.astore12 d0_218 ?_
    refine G.iconst 0 d0_220 ?_
    refine G.istore13 d0_221 ?_
    refine Go.fewer (S' := []) ?_ (fun _ q => nomatch q)
    have l1 := ns_le (nsA n1 n2)
    have l2 := encs_le id
    have l3 := frE_le fr
    exact t223 b6 b7 len p id fr h4 o nb tb sl hs hid hfr (by simp [outP, lows_len, hil, schL] at h24 ⊢; omega) U4 hsl hhs
  have t174 : ∀ (b6 b7 len p : Int32) (N : Nat) (id : List Tok) (h : Heap), IdOk b6 u1 u2 id → N = 12 + (txts id).length + (if b7 = 0 then 0 else 4) → N ≤ 24 → p.toInt = ((12 + (txts id).length : Nat) : Int) → Al Z h h0.size .char (nA N (schL a ++ txts (nsA n1 n2) ++ 47 :: txts id)) →
      Go Z EL1 false room_1 (fun v h S' => v = some (.int 1)) K h [h0.size] 9 1208 174 [.val (.int a), .val (.int n1), .val (.int n2), .val (.int u1), .val (.int u2), .val (.int f), .val (.int b6), .val (.int b7), .val (.int len), .val (.ref h0.size), .val (.int p), .unset, .unset, .unset, .unset, .unset] [] := by
    intro b6 b7 len p N id h hid hN' h24 hp hA
    have hl0 : (schL a ++ txts (nsA n1 n2) ++ 47 :: txts id).length = 12 + (txts id).length := by simp [schL, w2]; omega
    refine G.iload d0_174 rfl ?_
    refine G.if_eq d0_176 (fun q => ?_) (fun q => ?_)
    · refine Go.more (k' := 11) (n' := 1536) ?_ (by decide) (by decide)
      rw [if_pos q] at hN'
      have e : schL a ++ txts (nsA n1 n2) ++ 47 :: txts id = schL a ++ txts (nsA n1 n2) ++ 47 :: (txts id ++ frT none) := by simp [frT]
      rw [e] at hA hl0
      exact t199 b6 b7 len p id none h hid (Or.inl ⟨q, rfl⟩) (by omega) (by rw [hl0]; rw [hN'] at hA; exact hA)
    · rw [if_neg q] at hN'
      refine G.aload d0_179 rfl rfl ?_
      refine G.iload d0_181 rfl ?_
      refine G.bipush 35 d0_183 ?_
      refine G.castA d0_185 (by simp) hA (hp.trans (by rw [hl0])) (by omega) (by decide) (fun h2 W2 A2 => ?_)
      refine G.aload d0_186 rfl rfl ?_
      refine G.iload d0_188 rfl ?_
      refine G.iconst 1 d0_190 ?_
      refine G.iadd d0_191 ?_
      refine G.iload d0_192 rfl ?_
      refine G.bipush 81 d0_194 ?_
      refine G.callS4 d0_196 (hw 219 rfl) (hw 220 rfl) (hw 3 rfl) (hw 221 rfl) pd_39 (cUNIT K.l Z a0 hw h2 hC hF h0.size (p + 1) f 81 (Or.inr rfl) N _ (by rw [addI hp e1 (by omega), List.length_append, hl0]; rfl) (by rw [List.length_append, hl0, List.length_singleton]; omega) (by omega) A2) (by simp) ?_
      rintro _ h3 _ ⟨rfl, A3, K3, rfl⟩ -
      have e : schL a ++ txts (nsA n1 n2) ++ 47 :: txts id ++ [35] ++ txts (unT f 81) = schL a ++ txts (nsA n1 n2) ++ 47 :: (txts id ++ frT (some (unT f 81))) := by simp [frT]
      have hl3 := (unT_ok (u := f) (k := 81) (hh := True) (Or.inr rfl) (fun _ => trivial)).2
      have hl4 : (schL a ++ txts (nsA n1 n2) ++ 47 :: (txts id ++ frT (some (unT f 81)))).length = N := by
        rw [← e, List.length_append, List.length_append, hl0, hl3, List.length_singleton]; omega
      rw [e] at A3
      exact t199 b6 b7 len p id (some (unT f 81)) h3 hid (Or.inr ⟨q, rfl⟩) (by omega) (by rw [hl4]; exact A3)
  have t55 : ∀ (b6 b7 len : Int32) (N : Nat), N = 12 + (if b6 = 0 then 0 else 6) + (if b7 = 0 then 0 else 4) → len.toInt = (N : Int) →
      Go Z EL1 false room_1 (fun v h S' => v = some (.int 1)) K h0 [] 0 0 55 [.val (.int a), .val (.int n1), .val (.int n2), .val (.int u1), .val (.int u2), .val (.int f), .val (.int b6), .val (.int b7), .val (.int len), .unset, .unset, .unset, .unset, .unset, .unset, .unset] [] := by
    intro b6 b7 len N hN' hlen
    have h12 : 12 ≤ N ∧ N ≤ 22 := by rw [hN']; split <;> split <;> omega
    have p1 := (sub32 (c := 105) (by decide) (by decide))
    have p2 := (sub32 (c := 110) (by decide) (by decide))
    have p3 := (sub32 (c := 102) (by decide) (by decide))
    have p4 := (sub32 (c := 111) (by decide) (by decide))
    refine G.iload d0_55 rfl ?_
    refine G.newA N 24 d0_57 (hw 0 rfl) hlen (by omega) (fun h1 E1 L1 B0 => ?_)
    have B0 : Al Z h1 h0.size .char (nA N []) := by rw [nA_zero]; exact B0
    refine G.astore9 d0_59 ?_
    refine G.aload d0_61 rfl rfl ?_
    refine G.iconst 0 d0_63 ?_
    refine G.bipush 105 d0_64 ?_
    refine G.iloadN d0_66 rfl ?_
    refine G.iconst 1 d0_67 ?_
    refine G.iand d0_68 ?_
    refine G.callS2 d0_69 (hw 1 rfl) (hw 2 rfl) (hw 3 rfl) (hw 4 rfl) pd_40 (cUP K.l Z a0 hw h1 105 (a &&& 1) p1.1 p1.2.1) (fun _ q => nomatch q) ?_
    rintro _ h1 _ ⟨rfl, rfl, rfl⟩ -
    refine G.castA d0_72 (by simp) B0 (by decide) (by simp; omega) (C16 (p1.2.2 (by decide) (by decide) _).2) (fun g1 W1 B1 => ?_)
    refine G.aload d0_73 rfl rfl ?_
    refine G.iconst 1 d0_75 ?_
    refine G.bipush 110 d0_76 ?_
    refine G.iloadN d0_78 rfl ?_
    refine G.iconst 2 d0_79 ?_
    refine G.iand d0_80 ?_
    refine G.callS2 d0_81 (hw 1 rfl) (hw 2 rfl) (hw 3 rfl) (hw 4 rfl) pd_40 (cUP K.l Z a0 hw g1 110 (a &&& 2) p2.1 p2.2.1) (fun _ q => nomatch q) ?_
    rintro _ g1 _ ⟨rfl, rfl, rfl⟩ -
    refine G.castA d0_84 (by simp) B1 (by simp) (by simp; omega) (C16 (p2.2.2 (by decide) (by decide) _).2) (fun g2 W2 B2 => ?_)
    refine G.aload d0_85 rfl rfl ?_
    refine G.iconst 2 d0_87 ?_
    refine G.bipush 102 d0_88 ?_
    refine G.iloadN d0_90 rfl ?_
    refine G.iconst 4 d0_91 ?_
    refine G.iand d0_92 ?_
    refine G.callS2 d0_93 (hw 1 rfl) (hw 2 rfl) (hw 3 rfl) (hw 4 rfl) pd_40 (cUP K.l Z a0 hw g2 102 (a &&& 4) p3.1 p3.2.1) (fun _ q => nomatch q) ?_
    rintro _ g2 _ ⟨rfl, rfl, rfl⟩ -
    refine G.castA d0_96 (by simp) B2 (by simp) (by simp; omega) (C16 (p3.2.2 (by decide) (by decide) _).2) (fun g3 W3 B3 => ?_)
    refine G.aload d0_97 rfl rfl ?_
    refine G.iconst 3 d0_99 ?_
    refine G.bipush 111 d0_100 ?_
    refine G.iloadN d0_102 rfl ?_
    refine G.bipush 8 d0_103 ?_
    refine G.iand d0_105 ?_
    refine G.callS2 d0_106 (hw 1 rfl) (hw 2 rfl) (hw 3 rfl) (hw 4 rfl) pd_40 (cUP K.l Z a0 hw g3 111 (a &&& 8) p4.1 p4.2.1) (fun _ q => nomatch q) ?_
    rintro _ g3 _ ⟨rfl, rfl, rfl⟩ -
    refine G.castA d0_109 (by simp) B3 (by simp) (by simp; omega) (C16 (p4.2.2 (by decide) (by decide) _).2) (fun g4 W4 B4 => ?_)
    refine G.aload d0_110 rfl rfl ?_
    refine G.iconst 4 d0_112 ?_
    refine G.bipush 58 d0_113 ?_
    refine G.castA d0_115 (by simp) B4 (by simp) (by simp; omega) (by decide) (fun g5 W5 B5 => ?_)
    have B5 : Al Z g5 h0.size .char (nA N (schL a)) := B5
    have hl5 : (schL a).length = 5 := rfl
    refine G.aload d0_116 rfl rfl ?_
    refine G.iconst 5 d0_118 ?_
    refine G.iloadN d0_119 rfl ?_
    refine G.iconst 1 d0_120 ?_
    refine G.callS4 d0_121 (hw 5 rfl) (hw 6 rfl) (hw 3 rfl) (hw 7 rfl) pd_41 (cNSU K.l Z a0 hw g5 hC hF h0.size 5 n1 1 52 (Or.inr ⟨rfl, rfl⟩) N (schL a) (by rw [hl5]; decide) (by omega) (by omega) B5) (by simp) ?_
    rintro _ g6 _ ⟨rfl, B6, K6, rfl⟩ -
    have q1 := (nsT_ok (u := n1) (k := 52) (Or.inl rfl)).2.1
    have q2 := (nsT_ok (u := n2) (k := 65) (Or.inr rfl)).2.1
    refine G.aload d0_124 rfl rfl ?_
    refine G.bipush 8 d0_126 ?_
    refine G.iloadN d0_128 rfl ?_
    refine G.iconst 0 d0_129 ?_
    refine G.callS4 d0_130 (hw 5 rfl) (hw 6 rfl) (hw 3 rfl) (hw 7 rfl) pd_41 (cNSU K.l Z a0 hw g6 hC hF h0.size 8 n2 0 65 (Or.inl ⟨rfl, rfl⟩) N _ (by rw [List.length_append, q1, hl5]; decide) (by rw [List.length_append, q1, hl5]; omega) (by omega) B6) (by simp) ?_
    rintro _ g7 _ ⟨rfl, B7, K7, rfl⟩ -
    have e7 : schL a ++ txts (nsT n1 52) ++ txts (nsT n2 65) = schL a ++ txts (nsA n1 n2) := by simp [nsA, txts_app]
    rw [e7] at B7
    have hl7 : (schL a ++ txts (nsA n1 n2)).length = 11 := by rw [List.length_append, w2, hl5]
    refine G.aload d0_133 rfl rfl ?_
    refine G.bipush 11 d0_135 ?_
    refine G.bipush 47 d0_137 ?_
    refine G.castA d0_139 (by simp) B7 (by rw [hl7]; decide) (by omega) (by decide) (fun g8 W8 B8 => ?_)
    have hl8 : (schL a ++ txts (nsA n1 n2) ++ [47]).length = 12 := by rw [List.length_append, hl7]; rfl
    refine G.bipush 12 d0_140 ?_
    refine G.istore10 d0_142 ?_
    refine G.iload d0_144 rfl ?_
    refine G.if_eq d0_146 (fun q => ?_) (fun q => ?_)
    · rw [if_pos q] at hN'
      refine Go.fewer (S' := [h0.size]) ?_ (by simp)
      refine Go.more (k' := 9) (n' := 1208) ?_ (by decide) (by decide)
      exact t174 b6 b7 len 12 N [] g8 (Or.inl ⟨q, rfl⟩) (by rw [hN']; rfl) (by omega) (by decide) B8
    · rw [if_neg q] at hN'
      have r1 := (unT_ok (u := u1) (k := 80) (hh := True) (Or.inl rfl) (fun _ => trivial)).2
      have r2 := (unT_ok (u := u2) (k := 80) (hh := True) (Or.inl rfl) (fun _ => trivial)).2
      have hN18 : 18 ≤ N := by rw [hN']; split <;> omega
      refine G.aload d0_149 rfl rfl ?_
      refine G.bipush 12 d0_151 ?_
      refine G.iloadN d0_153 rfl ?_
      refine G.bipush 80 d0_154 ?_
      refine G.callS4 d0_156 (hw 219 rfl) (hw 220 rfl) (hw 3 rfl) (hw 221 rfl) pd_39 (cUNIT K.l Z a0 hw g8 hC hF h0.size 12 u1 80 (Or.inl rfl) N _ (by rw [hl8]; decide) (by rw [hl8]; omega) (by omega) B8) (by simp) ?_
      rintro _ g9 _ ⟨rfl, B9, K9, rfl⟩ -
      have hl9 : (schL a ++ txts (nsA n1 n2) ++ [47] ++ txts (unT u1 80)).length = 15 := by rw [List.length_append, hl8, r1]
      refine G.aload d0_159 rfl rfl ?_
      refine G.bipush 15 d0_161 ?_
      refine G.iload d0_163 rfl ?_
      refine G.bipush 80 d0_165 ?_
      refine G.callS4 d0_167 (hw 219 rfl) (hw 220 rfl) (hw 3 rfl) (hw 221 rfl) pd_39 (cUNIT K.l Z a0 hw g9 hC hF h0.size 15 u2 80 (Or.inl rfl) N _ (by rw [hl9]; decide) (by rw [hl9]; omega) (by omega) B9) (by simp) ?_
      rintro _ g10 _ ⟨rfl, B10, K10, rfl⟩ -
      refine G.bipush 18 d0_170 ?_
      refine G.istore10 d0_172 ?_
      have e10 : schL a ++ txts (nsA n1 n2) ++ [47] ++ txts (unT u1 80) ++ txts (unT u2 80) = schL a ++ txts (nsA n1 n2) ++ 47 :: txts (unT u1 80 ++ unT u2 80) := by simp [txts_app]
      rw [e10] at B10
      have hl10 : (txts (unT u1 80 ++ unT u2 80)).length = 6 := by rw [txts_app, List.length_append, r1, r2]
      refine Go.fewer (S' := [h0.size]) ?_ (by simp)
      exact t174 b6 b7 len 18 N _ g10 (Or.inr ⟨q, rfl⟩) (by rw [hN', hl10]) (by omega) (by rw [hl10]; decide) B10
  have t26 : ∀ (b6 b7 : Int32), (b6 = 0 ∨ b6 = 1) → (b7 = 0 ∨ b7 = 1) → Go Z EL1 false room_1 (fun v h S' => v = some (.int 1)) K h0 [] 0 0 26 [.val (.int a), .val (.int n1), .val (.int n2), .val (.int u1), .val (.int u2), .val (.int f), .val (.int b6), .unset, .unset, .unset, .unset, .unset, .unset, .unset, .unset, .unset] [.int b7] := by
    intro b6 b7 h6 h7
    refine G.istore7 d0_26 ?_
    refine G.bipush 12 d0_28 ?_
    refine G.iload d0_30 rfl ?_
    rcases h6 with rfl | rfl
    · refine G.if_eq d0_32 (fun _ => ?_) (fun q => absurd rfl q)
      refine G.iconst 0 d0_40 ?_
      refine G.iadd d0_41 ?_
      refine G.iload d0_42 rfl ?_
      rcases h7 with rfl | rfl
      · refine G.if_eq d0_44 (fun _ => ?_) (fun q => absurd rfl q)
        refine G.iconst 0 d0_51 ?_
        refine G.iadd d0_52 ?_
        refine G.istore8 d0_53 ?_
        exact t55 0 0 _ 12 rfl (by decide)
      · refine G.if_eq d0_44 (fun q => absurd q (by decide)) (fun _ => ?_)
        refine G.iconst 4 d0_47 ?_
        refine G.goto d0_48 ?_
        refine G.iadd d0_52 ?_
        refine G.istore8 d0_53 ?_
        exact t55 0 1 _ 16 rfl (by decide)
    · refine G.if_eq d0_32 (fun q => absurd q (by decide)) (fun _ => ?_)
      refine G.bipush 6 d0_35 ?_
      refine G.goto d0_37 ?_
      refine G.iadd d0_41 ?_
      refine G.iload d0_42 rfl ?_
      rcases h7 with rfl | rfl
      · refine G.if_eq d0_44 (fun _ => ?_) (fun q => absurd rfl q)
        refine G.iconst 0 d0_51 ?_
        refine G.iadd d0_52 ?_
        refine G.istore8 d0_53 ?_
        exact t55 1 0 _ 18 rfl (by decide)
      · refine G.if_eq d0_44 (fun q => absurd q (by decide)) (fun _ => ?_)
        refine G.iconst 4 d0_47 ?_
        refine G.goto d0_48 ?_
        refine G.iadd d0_52 ?_
        refine G.istore8 d0_53 ?_
        exact t55 1 1 _ 22 rfl (by decide)
  have t12 : ∀ (b6 : Int32), (b6 = 0 ∨ b6 = 1) → Go Z EL1 false room_1 (fun v h S' => v = some (.int 1)) K h0 [] 0 0 12 [.val (.int a), .val (.int n1), .val (.int n2), .val (.int u1), .val (.int u2), .val (.int f), .unset, .unset, .unset, .unset, .unset, .unset, .unset, .unset, .unset, .unset] [.int b6] := by
    intro b6 h6
    refine G.istore6 d0_12 ?_
    refine G.iloadN d0_14 rfl ?_
    refine G.bipush 32 d0_15 ?_
    refine G.iand d0_17 ?_
    refine G.if_eq d0_18 (fun _ => ?_) (fun _ => ?_)
    · refine G.iconst 0 d0_25 ?_
      exact t26 b6 0 h6 (Or.inl rfl)
    · refine G.iconst 1 d0_21 ?_
      refine G.goto d0_22 ?_
      exact t26 b6 1 h6 (Or.inr rfl)
  refine G.iloadN d0_0 rfl ?_
  refine G.bipush 16 d0_1 ?_
  refine G.iand d0_3 ?_
  refine G.if_eq d0_4 (fun _ => ?_) (fun _ => ?_)
  · refine G.iconst 0 d0_11 ?_
    exact t12 0 (Or.inl rfl)
  · refine G.iconst 1 d0_7 ?_
    refine G.goto d0_8 ?_
    exact t12 1 (Or.inr rfl)
-- CHUNK
set_option maxRecDepth 65536 in
set_option maxHeartbeats 40000000 in
theorem comes_1 {Post : Tables → Env → Array Value → State → Outcome → State → Prop} (hpost : ∀ tb e args s v u, (limb_1_1.after args s (.returned v) u = true ∧ limb_1_2.after args s (.returned v) u = true ∧ True) → ReturnedEndW s (.returned v) u (Jvm.fieldLocs frame_1_writes args s ++ Jvm.arrayLocs frame_1_arrays args s ++ Jvm.staticLocs frame_1_statics s) 40 4416 → Post tb e args s (.returned v) u) :
    ArmFor flags0 classFile x code maxLocals ret World_1 tables_1 room_1 Calls_1 rest_1 Pre_1 Post := by
  intro l hfl _ _ p e ha hc hk s m args below hf hA hF happ hP
  obtain ⟨hcalls, hrest, hpre⟩ := hP
  obtain ⟨-, -, -, hnamed, -, -, -, hat⟩ := (Spec.applies_iff hf).mp happ
  obtain ⟨hg, hn⟩ := and_e (Cond.before_iff.mp (show (Jvm.Cond.and given_1 narrow_1).before args s = true from hpre))
  obtain ⟨h0, g0⟩ := and_e hg
  obtain ⟨p0, g1⟩ := and_e g0
  obtain ⟨p1, g2⟩ := and_e g1
  obtain ⟨p2, g3⟩ := and_e g2
  obtain ⟨p3, g4⟩ := and_e g3
  obtain ⟨p4, g5⟩ := and_e g4
  obtain ⟨w0, w1, w2, w3, w4, w5, rfl⟩ : ∃ w0 w1 w2 w3 w4 w5 : Value, args = #[w0, w1, w2, w3, w4, w5] := by
    have hs : args.size = 6 := by simpa [Cond.value, given_1] using h0
    obtain ⟨L⟩ := args
    match L, hs with
    | [w0, w1, w2, w3, w4, w5], _ => exact ⟨w0, w1, w2, w3, w4, w5, rfl⟩
  have hw0 := fun d (hd : d ∈ tables_1) => atoms_spec (ws := Jvm.Cond.code x code maxLocals ret :: tables_1) hat d (List.mem_cons_of_mem _ hd)
  have hw : hwT #[w0, w1, w2, w3, w4, w5] s := fun i d q => hw0 d (List.mem_of_getElem? q)
  obtain ⟨i0, e0⟩ := is_v p0
  obtain rfl : w0 = (.int i0) := Option.some.inj e0
  obtain ⟨i1, e1⟩ := is_v p1
  obtain rfl : w1 = (.int i1) := Option.some.inj e1
  obtain ⟨i2, e2⟩ := is_v p2
  obtain rfl : w2 = (.int i2) := Option.some.inj e2
  obtain ⟨i3, e3⟩ := is_v p3
  obtain rfl : w3 = (.int i3) := Option.some.inj e3
  obtain ⟨i4, e4⟩ := is_v p4
  obtain rfl : w4 = (.int i4) := Option.some.inj e4
  obtain ⟨i5, e5⟩ := is_v g5
  obtain rfl : w5 = (.int i5) := Option.some.inj e5
  obtain ⟨hsets, hown0⟩ := atoms_of _ (rest_1_c_eq ▸ (show rest_1_c.before _ s = true from hrest))
  have hcw := hsets _ (List.mem_of_getElem? (i := 2) rfl)
  have nz := not_v (Cond.before_iff.mp hcw)
  obtain ⟨ic, ec⟩ := is_v (Cond.before_iff.mp (hsets _ (List.mem_of_getElem? (i := 1) rfl)))
  have hC : CS s := ⟨ic, Sta.start ec (Or.inl (hsets _ (List.mem_of_getElem? (i := 0) rfl))), gotF (Cond.eq_ints ec (Term.int_eval (0))) nz⟩
  obtain ⟨vf, ef, rf⟩ := isR_v (Cond.before_iff.mp (hsets _ (List.mem_of_getElem? (i := 8) rfl)))
  have hF' : SF s := ⟨vf, Sta.start ef (Or.inl (hsets _ (List.mem_of_getElem? (i := 7) rfl))), rf⟩
  have hN : NS s := (own_tabs hw hn).1
  have hP : PC s := (own_tabs hw hn).2.1
  have hX : HS s := (own_tabs hw hn).2.2
  obtain ⟨n, o, h1, h2, h3, v, L, S', rfl, rfl, N, -, -, hq, hnw, -⟩ := law1 l s _ hw s.heap hC hF' hN hP hX i0 i1 i2 i3 i4 i5 p e ha hc hk s m _ below hf ((Spec.applies_iff_loose hf).mp happ).1 ⟨rfl, State.Warmed39.refl s, rfl, CHv.start (hEL1 hw) (fun p hp => hcalls.1 p hp) hcw (hw 14 rfl) (hw 13 rfl), (fun _ q => nomatch q), ⟨Nat.le_refl _, fun _ _ q => q⟩, fun _ q => nomatch q⟩ trivial
  refine ⟨n, _, h1, h2, h3, hpost _ _ _ _ _ _ ⟨Cond.after_iff.mpr rfl, Cond.after_iff.mpr (eq_i res_at (Term.int_eval (1)) rfl), trivial⟩ ⟨⟨_, rfl⟩, hq.2.1, hq.2.2.1, (hq.2.2.2.sift fun y hy => Or.inr (N y hy)).mono (by decide) (by decide)⟩⟩
theorem main_1_1 : Claimed_1_1 := comes_1 fun _ _ _ _ _ _ h hF => ⟨h.1, hF⟩
theorem main_1_2 : Claimed_1_2 := comes_1 fun _ _ _ _ _ _ h hF => ⟨h.2.1, hF⟩
end Jvm.Pilot.@@N@@
namespace Jvm.Pilot.@@N@@
open Jvm Jvm.ClassFile Sem Op Lib Jvm.Free Jvm.Stand Jvm.Pilot.@@N@@.Jvm.D
/-! MADE BY PROGRAM (witnessworld.py) out of the Statement's table words and the real class files: 25 classes; the members and pool entries that the words name. The judged class is class 1, her method 1. -/
namespace start1
open Jvm.ClassFile
def u (s : String) : CpInfo := .utf8 (stringToUtf16 s)
/-- a pool by its gaps: so many unusable entries, then the entry; so many at the end -/
def gap : Nat → List CpInfo → List CpInfo
  | 0, r => r
  | n + 1, r => .unusable :: gap n r
def poolList (es : List (Nat × CpInfo)) (last : Nat) : List CpInfo := es.foldr (fun e r => gap e.1 (e.2 :: r)) (gap last [])
def pool (es : List (Nat × CpInfo)) (last : Nat) : Array CpInfo := ⟨poolList es last⟩
def fileOf (pool : Array CpInfo) (this : Nat) (attrs : Array Attribute := #[]) (ms : Array MethodInfo := #[]) (fl : Nat := 33) (sup : Nat := 0) (ifs : Array Nat := #[]) (fds : Array FieldInfo := #[]) : ClassFile where
  minorVersion := 0
  majorVersion := 65
  constantPool := pool
  accessFlags := fl
  thisClass := this
  superClass := sup
  interfaces := ifs
  fields := fds
  methods := ms
  attributes := attrs
def plain (name : String) (sup : Option ClassId) : Class where
  name := name
  kind := .ordinary
  loader := none
  accessFlags := 33
  super := sup
  interfaces := #[]
  cf := none
  fields := #[]
  methods := #[]
  instanceTypes := #[]
  staticTypes := #[]
  resolved := #[]
  callSites := []
  init := .initialized
  statics := none
  mirror := none

def pool0 : Array CpInfo := pool [(5, u "<init>"), (0, u "()V"), (1, .class_ 10), (1, u "java/lang/Object")] 113

def k0c0 : Code := { maxStack := 0, maxLocals := 1, code := object_method_1_code, exceptionTable := #[], attributes := #[] }
def k0m0 : Method := { name := "<init>", desc := "()V", sig := { parameters := [], returnType := none }, accessFlags := 1, code := some k0c0 }
/-- java/lang/Object -/
def k0 : Class := { plain "java/lang/Object" none with
  accessFlags := 33
  interfaces := #[]
  cf := some (fileOf pool0 8 #[] #[{ accessFlags := 1, nameIndex := 5, descriptorIndex := 6, attributes := #[] }] 33 0 #[] #[])
  fields := #[]
  methods := #[k0m0]
  instanceTypes := #[]
  staticTypes := #[]
  resolved := Array.replicate 124 none
  statics := none }

def pool1 : Array CpInfo := pool [(2, .class_ 4), (1, u "java/lang/Object"), (0, u "<init>"), (0, u "()V"), (0, .methodref 8 9), (0, .class_ 10), (0, .nameAndType 11 12), (0, u "com/example/nameshelf/nameshelf/uri/InfoUriParsePinLaw"), (0, u "up"), (0, u "(CI)C"), (0, .methodref 8 14), (0, .nameAndType 15 16), (0, u "nsUnit"), (0, u "([CIIZ)V"), (0, .methodref 8 18), (0, .nameAndType 19 20), (0, u "unit"), (0, u "([CIII)V"), (0, .class_ 22), (0, u "java/lang/String"), (0, .methodref 21 24), (0, .nameAndType 5 25), (0, u "([C)V"), (0, .methodref 27 28), (0, .class_ 29), (0, .nameAndType 30 31), (0, u "com/example/nameshelf/nameshelf/uri/InfoUri"), (0, u "parse"), (0, u "(Ljava/lang/CharSequence;)Lcom/example/nameshelf/nameshelf/uri/InfoUri;"), (0, .methodref 27 33), (0, .nameAndType 34 35), (0, u "toString"), (0, u "()Ljava/lang/String;"), (0, .methodref 8 37), (0, .nameAndType 38 39), (0, u "m"), (0, u "(Ljava/lang/String;IC)I"), (0, .methodref 8 41), (0, .nameAndType 42 43), (0, u "nsExp"), (0, u "(Ljava/lang/String;IIZ)I"), (0, .methodref 8 45), (0, .nameAndType 46 47), (0, u "exp"), (0, u "(Ljava/lang/String;III)I"), (0, .methodref 21 49), (0, .nameAndType 50 51), (0, u "length"), (0, u "()I"), (0, .methodref 27 53), (0, .nameAndType 54 35), (0, u "namespace"), (0, .methodref 27 56), (0, .nameAndType 57 35), (0, u "identifier"), (0, .string 59), (0, u "ABCDEFGHIJKLMNOPQRSTUVWXYZabcdefghijklmnopqrstuvwxyz0123456789-._~!$&'()*+,;=:@/?"), (0, .methodref 21 61), (0, .nameAndType 62 63), (0, u "charAt"), (0, u "(I)C"), (0, .string 65), (0, u "ABCDEFGHIJKLMNOPQRSTUVWXYZabcdefghijklmnopqrstuvwxyz0123456789+-."), (0, .methodref 8 67), (0, .nameAndType 68 63), (0, u "nsChar"), (0, .methodref 8 70), (0, .nameAndType 71 72), (0, u "hex"), (0, u "(II)C"), (0, .methodref 8 74), (0, .nameAndType 75 76), (0, u "lower"), (0, u "(C)C"), (0, .methodref 8 78), (0, .nameAndType 79 63), (0, u "rawChar"), (0, .methodref 8 81), (0, .nameAndType 82 83), (0, u "pchar"), (0, u "(I)Z"), (2, u "law"), (0, u "(IIIIII)Z")] 8

def k1m0 : Method := { name := "<init>", desc := "()V", sig := { parameters := [], returnType := none }, accessFlags := 1, code := none }
def k1c1 : Code := { maxStack := 5, maxLocals := 16, code := code, exceptionTable := #[], attributes := #[] }
def k1m1 : Method := { name := "law", desc := "(IIIIII)Z", sig := { parameters := [.int, .int, .int, .int, .int, .int], returnType := some .boolean }, accessFlags := 9, code := some k1c1 }
def k1c2 : Code := { maxStack := 2, maxLocals := 1, code := method_3_code, exceptionTable := #[], attributes := #[] }
def k1m2 : Method := { name := "rawChar", desc := "(I)C", sig := { parameters := [.int], returnType := some .char }, accessFlags := 10, code := some k1c2 }
def k1c3 : Code := { maxStack := 2, maxLocals := 1, code := method_4_code, exceptionTable := #[], attributes := #[] }
def k1m3 : Method := { name := "nsChar", desc := "(I)C", sig := { parameters := [.int], returnType := some .char }, accessFlags := 10, code := some k1c3 }
def k1c4 : Code := { maxStack := 2, maxLocals := 2, code := method_5_code, exceptionTable := #[], attributes := #[] }
def k1m4 : Method := { name := "up", desc := "(CI)C", sig := { parameters := [.char, .int], returnType := some .char }, accessFlags := 10, code := some k1c4 }
def k1c5 : Code := { maxStack := 2, maxLocals := 1, code := method_6_code, exceptionTable := #[], attributes := #[] }
def k1m5 : Method := { name := "lower", desc := "(C)C", sig := { parameters := [.char], returnType := some .char }, accessFlags := 10, code := some k1c5 }
def k1c6 : Code := { maxStack := 2, maxLocals := 2, code := method_7_code, exceptionTable := #[], attributes := #[] }
def k1m6 : Method := { name := "hex", desc := "(II)C", sig := { parameters := [.int, .int], returnType := some .char }, accessFlags := 10, code := some k1c6 }
def k1c7 : Code := { maxStack := 2, maxLocals := 1, code := method_8_code, exceptionTable := #[], attributes := #[] }
def k1m7 : Method := { name := "pchar", desc := "(I)Z", sig := { parameters := [.int], returnType := some .boolean }, accessFlags := 10, code := some k1c7 }
def k1c8 : Code := { maxStack := 2, maxLocals := 3, code := method_9_code, exceptionTable := #[], attributes := #[] }
def k1m8 : Method := { name := "m", desc := "(Ljava/lang/String;IC)I", sig := { parameters := [(.object "java/lang/String"), .int, .char], returnType := some .int }, accessFlags := 10, code := some k1c8 }
def k1c9 : Code := { maxStack := 5, maxLocals := 7, code := method_10_code, exceptionTable := #[], attributes := #[] }
def k1m9 : Method := { name := "nsUnit", desc := "([CIIZ)V", sig := { parameters := [(.array .char), .int, .int, .boolean], returnType := none }, accessFlags := 10, code := some k1c9 }
def k1c10 : Code := { maxStack := 5, maxLocals := 7, code := method_11_code, exceptionTable := #[], attributes := #[] }
def k1m10 : Method := { name := "nsExp", desc := "(Ljava/lang/String;IIZ)I", sig := { parameters := [(.object "java/lang/String"), .int, .int, .boolean], returnType := some .int }, accessFlags := 10, code := some k1c10 }
def k1c11 : Code := { maxStack := 5, maxLocals := 6, code := method_12_code, exceptionTable := #[], attributes := #[] }
def k1m11 : Method := { name := "unit", desc := "([CIII)V", sig := { parameters := [(.array .char), .int, .int, .int], returnType := none }, accessFlags := 10, code := some k1c11 }
def k1c12 : Code := { maxStack := 5, maxLocals := 6, code := method_13_code, exceptionTable := #[], attributes := #[] }
def k1m12 : Method := { name := "exp", desc := "(Ljava/lang/String;III)I", sig := { parameters := [(.object "java/lang/String"), .int, .int, .int], returnType := some .int }, accessFlags := 10, code := some k1c12 }
/-- com/example/nameshelf/nameshelf/uri/InfoUriParsePinLaw -/
def k1 : Class := { plain "com/example/nameshelf/nameshelf/uri/InfoUriParsePinLaw" (some 0) with
  accessFlags := 49
  interfaces := #[]
  cf := some (fileOf pool1 8 #[] #[{ accessFlags := 1, nameIndex := 5, descriptorIndex := 6, attributes := #[] }, { accessFlags := 9, nameIndex := 86, descriptorIndex := 87, attributes := #[] }, { accessFlags := 10, nameIndex := 79, descriptorIndex := 63, attributes := #[] }, { accessFlags := 10, nameIndex := 68, descriptorIndex := 63, attributes := #[] }, { accessFlags := 10, nameIndex := 11, descriptorIndex := 12, attributes := #[] }, { accessFlags := 10, nameIndex := 75, descriptorIndex := 76, attributes := #[] }, { accessFlags := 10, nameIndex := 71, descriptorIndex := 72, attributes := #[] }, { accessFlags := 10, nameIndex := 82, descriptorIndex := 83, attributes := #[] }, { accessFlags := 10, nameIndex := 38, descriptorIndex := 39, attributes := #[] }, { accessFlags := 10, nameIndex := 15, descriptorIndex := 16, attributes := #[] }, { accessFlags := 10, nameIndex := 42, descriptorIndex := 43, attributes := #[] }, { accessFlags := 10, nameIndex := 19, descriptorIndex := 20, attributes := #[] }, { accessFlags := 10, nameIndex := 46, descriptorIndex := 47, attributes := #[] }] 49 2 #[] #[])
  fields := #[]
  methods := #[k1m0, k1m1, k1m2, k1m3, k1m4, k1m5, k1m6, k1m7, k1m8, k1m9, k1m10, k1m11, k1m12]
  instanceTypes := #[]
  staticTypes := #[]
  resolved := Array.replicate 96 none
  statics := none }

def pool2 : Array CpInfo := pool [(1, .class_ 2), (0, u "java/io/Serializable"), (0, .class_ 4), (0, u "java/lang/Object")] 2

/-- java/io/Serializable -/
def k2 : Class := { plain "java/io/Serializable" (some 0) with
  accessFlags := 1537
  interfaces := #[]
  cf := some (fileOf pool2 1 #[] #[] 1537 3 #[] #[])
  fields := #[]
  methods := #[]
  instanceTypes := #[]
  staticTypes := #[]
  resolved := Array.replicate 7 none
  statics := none }

def pool3 : Array CpInfo := pool [(1, .class_ 2), (0, u "java/lang/Comparable"), (0, .class_ 4), (0, u "java/lang/Object")] 7

/-- java/lang/Comparable -/
def k3 : Class := { plain "java/lang/Comparable" (some 0) with
  accessFlags := 1537
  interfaces := #[]
  cf := some (fileOf pool3 1 #[] #[] 1537 3 #[] #[])
  fields := #[]
  methods := #[]
  instanceTypes := #[]
  staticTypes := #[]
  resolved := Array.replicate 12 none
  statics := none }

def pool4 : Array CpInfo := pool [(2, .class_ 4), (1, u "java/lang/CharSequence"), (0, u "length"), (0, u "()I"), (38, u "charAt"), (0, u "(I)C"), (0, .class_ 48), (0, u "java/lang/CharSequence$1CodePointIterator"), (10, .class_ 60), (0, u "java/lang/CharSequence$1CharIterator"), (5, .class_ 67), (0, u "java/lang/Object")] 63

def k4m0 : Method := { name := "length", desc := "()I", sig := { parameters := [], returnType := some .int }, accessFlags := 1025, code := none }
def k4m1 : Method := { name := "charAt", desc := "(I)C", sig := { parameters := [.int], returnType := some .char }, accessFlags := 1025, code := none }
/-- java/lang/CharSequence -/
def k4 : Class := { plain "java/lang/CharSequence" (some 0) with
  accessFlags := 1537
  interfaces := #[]
  cf := some (fileOf pool4 2 #[.nestMembers #[47, 59]] #[{ accessFlags := 1025, nameIndex := 5, descriptorIndex := 6, attributes := #[] }, { accessFlags := 1025, nameIndex := 45, descriptorIndex := 46, attributes := #[] }] 1537 66 #[] #[])
  fields := #[]
  methods := #[k4m0, k4m1]
  instanceTypes := #[]
  staticTypes := #[]
  resolved := Array.replicate 131 none
  statics := none }

def pool5 : Array CpInfo := pool [(1, .class_ 2), (0, u "java/lang/constant/Constable"), (0, .class_ 4), (0, u "java/lang/Object")] 6

/-- java/lang/constant/Constable -/
def k5 : Class := { plain "java/lang/constant/Constable" (some 0) with
  accessFlags := 1537
  interfaces := #[]
  cf := some (fileOf pool5 1 #[] #[] 1537 3 #[] #[])
  fields := #[]
  methods := #[]
  instanceTypes := #[]
  staticTypes := #[]
  resolved := Array.replicate 11 none
  statics := none }

def pool6 : Array CpInfo := pool [(1, .class_ 2), (0, u "java/lang/constant/ConstantDesc"), (0, .class_ 4), (0, u "java/lang/Object")] 32

/-- java/lang/constant/ConstantDesc -/
def k6 : Class := { plain "java/lang/constant/ConstantDesc" (some 0) with
  accessFlags := 1537
  interfaces := #[]
  cf := some (fileOf pool6 1 #[] #[] 1537 3 #[] #[])
  fields := #[]
  methods := #[]
  instanceTypes := #[]
  staticTypes := #[]
  resolved := Array.replicate 37 none
  statics := none }

def pool7 : Array CpInfo := pool [(1, .methodref 2 3), (0, .class_ 4), (0, .nameAndType 5 6), (0, u "java/lang/Object"), (0, u "<init>"), (0, u "()V"), (2, .fieldref 10 11), (0, .class_ 12), (0, .nameAndType 13 14), (0, u "java/lang/String"), (0, u "value"), (0, u "[B"), (0, .fieldref 10 16), (0, .nameAndType 17 18), (0, u "coder"), (0, u "B"), (2, u "hash"), (0, u "I"), (2, u "hashIsZero"), (0, u "Z"), (0, .methodref 10 28), (0, .nameAndType 5 29), (0, u "([CIILjava/lang/Void;)V"), (0, .methodref 10 31), (0, .nameAndType 32 33), (0, u "rangeCheck"), (0, u "([CII)Ljava/lang/Void;"), (0, .methodref 10 35), (0, .nameAndType 36 37), (0, u "checkBoundsOffCount"), (0, u "(III)I"), (0, .fieldref 10 39), (0, .nameAndType 40 26), (0, u "COMPACT_STRINGS"), (1, .class_ 44), (1, u "java/lang/StringUTF16"), (0, u "compress"), (1, .methodref 42 48), (0, .nameAndType 49 50), (0, u "coderFromArrayLen"), (0, u "([BI)B"), (56, .class_ 109), (1, u "java/lang/StringLatin1"), (32, u "()Z"), (34, .methodref 42 178), (0, .nameAndType 45 179), (0, u "([CII)[B"), (31, u "([BB)V"), (122, u "()I"), (0, .methodref 10 336), (0, .nameAndType 17 337), (0, u "()B"), (25, u "([BI)C"), (27, u "(II)V"), (35, u "(I)C"), (64, .methodref 10 493), (0, .nameAndType 494 142), (0, u "isLatin1"), (0, .methodref 107 496), (0, .nameAndType 497 363), (0, u "charAt"), (3, u "checkIndex"), (3, .methodref 10 506), (0, .nameAndType 507 334), (0, u "length"), (5, u "checkFromToIndex"), (7, .methodref 10 522), (0, .nameAndType 523 524), (0, u "checkBoundsBeginEnd"), (0, u "(III)V"), (0, .methodref 107 526), (0, .nameAndType 527 528), (0, u "getChars"), (0, u "([BII[CI)V"), (46, .class_ 576), (0, u "java/lang/CharSequence"), (22, u "CASE_INSENSITIVE_ORDER"), (0, u "Ljava/util/Comparator;"), (82, u "substring"), (0, u "(II)Ljava/lang/String;"), (0, .methodref 107 686), (0, .nameAndType 687 688), (0, u "newString"), (0, u "([BII)Ljava/lang/String;"), (283, u "([CII)V"), (37, u "([C)V"), (42, .fieldref 1054 1055), (0, .class_ 1056), (0, .nameAndType 1057 1058), (0, u "jdk/internal/util/Preconditions"), (0, u "SIOOBE_FORMATTER"), (0, u "Ljava/util/function/BiFunction;"), (0, .methodref 1054 1060), (0, .nameAndType 501 1061), (0, u "(IILjava/util/function/BiFunction;)I"), (0, .methodref 1054 1063), (0, .nameAndType 513 1064), (0, u "(IIILjava/util/function/BiFunction;)I"), (0, .methodref 1054 1066), (0, .nameAndType 1067 1064), (0, u "checkFromIndexSize"), (33, u "serialPersistentFields"), (0, u "[Ljava/io/ObjectStreamField;"), (0, .class_ 1104), (0, u "java/lang/String$CaseInsensitiveComparator"), (1, .class_ 1107), (0, u "java/io/Serializable"), (0, .class_ 1109), (0, u "java/lang/Comparable"), (0, .class_ 1111), (0, u "java/lang/constant/Constable"), (0, .class_ 1113), (0, u "java/lang/constant/ConstantDesc"), (2, u "serialVersionUID"), (0, u "J"), (3, u "REPL"), (0, u "C"), (2, u "LATIN1"), (1, u "UTF16"), (112, u "(II[CI)V")] 210

def k7m0 : Method := { name := "<init>", desc := "()V", sig := { parameters := [], returnType := none }, accessFlags := 1, code := none }
def k7c1 : Code := { maxStack := 5, maxLocals := 2, code := jdk_42_method_3_code, exceptionTable := #[], attributes := #[] }
def k7m1 : Method := { name := "<init>", desc := "([C)V", sig := { parameters := [(.array .char)], returnType := none }, accessFlags := 1, code := some k7c1 }
def k7c2 : Code := { maxStack := 7, maxLocals := 4, code := jdk_42_method_4_code, exceptionTable := #[], attributes := #[] }
def k7m2 : Method := { name := "<init>", desc := "([CII)V", sig := { parameters := [(.array .char), .int, .int], returnType := none }, accessFlags := 1, code := some k7c2 }
def k7c3 : Code := { maxStack := 3, maxLocals := 3, code := jdk_42_method_5_code, exceptionTable := #[], attributes := #[] }
def k7m3 : Method := { name := "rangeCheck", desc := "([CII)Ljava/lang/Void;", sig := { parameters := [(.array .char), .int, .int], returnType := some (.object "java/lang/Void") }, accessFlags := 10, code := some k7c3 }
def k7c4 : Code := { maxStack := 2, maxLocals := 1, code := jdk_42_method_54_code, exceptionTable := #[], attributes := #[] }
def k7m4 : Method := { name := "length", desc := "()I", sig := { parameters := [], returnType := some .int }, accessFlags := 1, code := some k7c4 }
def k7c5 : Code := { maxStack := 2, maxLocals := 2, code := jdk_42_method_56_code, exceptionTable := #[], attributes := #[] }
def k7m5 : Method := { name := "charAt", desc := "(I)C", sig := { parameters := [.int], returnType := some .char }, accessFlags := 1, code := some k7c5 }
def k7c6 : Code := { maxStack := 5, maxLocals := 5, code := jdk_42_method_61_code, exceptionTable := #[], attributes := #[] }
def k7m6 : Method := { name := "getChars", desc := "(II[CI)V", sig := { parameters := [.int, .int, (.array .char), .int], returnType := none }, accessFlags := 1, code := some k7c6 }
def k7c7 : Code := { maxStack := 3, maxLocals := 5, code := jdk_42_method_92_code, exceptionTable := #[], attributes := #[] }
def k7m7 : Method := { name := "substring", desc := "(II)Ljava/lang/String;", sig := { parameters := [.int, .int], returnType := some (.object "java/lang/String") }, accessFlags := 1, code := some k7c7 }
def k7c8 : Code := { maxStack := 4, maxLocals := 6, code := jdk_42_method_149_code, exceptionTable := #[], attributes := #[] }
def k7m8 : Method := { name := "<init>", desc := "([CIILjava/lang/Void;)V", sig := { parameters := [(.array .char), .int, .int, (.object "java/lang/Void")], returnType := none }, accessFlags := 2, code := some k7c8 }
def k7c9 : Code := { maxStack := 2, maxLocals := 3, code := jdk_42_method_151_code, exceptionTable := #[], attributes := #[] }
def k7m9 : Method := { name := "<init>", desc := "([BB)V", sig := { parameters := [(.array .byte), .byte], returnType := none }, accessFlags := 0, code := some k7c9 }
def k7c10 : Code := { maxStack := 1, maxLocals := 1, code := jdk_42_method_152_code, exceptionTable := #[], attributes := #[] }
def k7m10 : Method := { name := "coder", desc := "()B", sig := { parameters := [], returnType := some .byte }, accessFlags := 0, code := some k7c10 }
def k7c11 : Code := { maxStack := 1, maxLocals := 1, code := jdk_42_method_154_code, exceptionTable := #[], attributes := #[] }
def k7m11 : Method := { name := "isLatin1", desc := "()Z", sig := { parameters := [], returnType := some .boolean }, accessFlags := 0, code := some k7c11 }
def k7c12 : Code := { maxStack := 3, maxLocals := 2, code := jdk_42_method_155_code, exceptionTable := #[], attributes := #[] }
def k7m12 : Method := { name := "checkIndex", desc := "(II)V", sig := { parameters := [.int, .int], returnType := none }, accessFlags := 8, code := some k7c12 }
def k7c13 : Code := { maxStack := 4, maxLocals := 3, code := jdk_42_method_157_code, exceptionTable := #[], attributes := #[] }
def k7m13 : Method := { name := "checkBoundsOffCount", desc := "(III)I", sig := { parameters := [.int, .int, .int], returnType := some .int }, accessFlags := 8, code := some k7c13 }
def k7c14 : Code := { maxStack := 4, maxLocals := 3, code := jdk_42_method_158_code, exceptionTable := #[], attributes := #[] }
def k7m14 : Method := { name := "checkBoundsBeginEnd", desc := "(III)V", sig := { parameters := [.int, .int, .int], returnType := none }, accessFlags := 8, code := some k7c14 }
/-- java/lang/String -/
def k7 : Class := { plain "java/lang/String" (some 0) with
  accessFlags := 49
  interfaces := #[2, 3, 4, 5, 6]
  cf := some (fileOf pool7 10 #[.nestMembers #[1103]] #[{ accessFlags := 1, nameIndex := 5, descriptorIndex := 6, attributes := #[] }, { accessFlags := 1, nameIndex := 5, descriptorIndex := 1010, attributes := #[] }, { accessFlags := 1, nameIndex := 5, descriptorIndex := 972, attributes := #[] }, { accessFlags := 10, nameIndex := 32, descriptorIndex := 33, attributes := #[] }, { accessFlags := 1, nameIndex := 507, descriptorIndex := 334, attributes := #[] }, { accessFlags := 1, nameIndex := 497, descriptorIndex := 427, attributes := #[] }, { accessFlags := 1, nameIndex := 527, descriptorIndex := 1240, attributes := #[] }, { accessFlags := 1, nameIndex := 683, descriptorIndex := 684, attributes := #[] }, { accessFlags := 2, nameIndex := 5, descriptorIndex := 29, attributes := #[] }, { accessFlags := 0, nameIndex := 5, descriptorIndex := 211, attributes := #[] }, { accessFlags := 0, nameIndex := 17, descriptorIndex := 337, attributes := #[] }, { accessFlags := 0, nameIndex := 494, descriptorIndex := 142, attributes := #[] }, { accessFlags := 8, nameIndex := 501, descriptorIndex := 391, attributes := #[] }, { accessFlags := 8, nameIndex := 36, descriptorIndex := 37, attributes := #[] }, { accessFlags := 8, nameIndex := 523, descriptorIndex := 524, attributes := #[] }] 49 2 #[1106, 1108, 575, 1110, 1112] #[{ accessFlags := 18, nameIndex := 13, descriptorIndex := 14, attributes := #[] }, { accessFlags := 18, nameIndex := 17, descriptorIndex := 18, attributes := #[] }, { accessFlags := 2, nameIndex := 21, descriptorIndex := 22, attributes := #[] }, { accessFlags := 2, nameIndex := 25, descriptorIndex := 26, attributes := #[] }, { accessFlags := 26, nameIndex := 1116, descriptorIndex := 1117, attributes := #[] }, { accessFlags := 24, nameIndex := 40, descriptorIndex := 26, attributes := #[] }, { accessFlags := 26, nameIndex := 1101, descriptorIndex := 1102, attributes := #[] }, { accessFlags := 26, nameIndex := 1121, descriptorIndex := 1122, attributes := #[] }, { accessFlags := 25, nameIndex := 599, descriptorIndex := 600, attributes := #[] }, { accessFlags := 24, nameIndex := 1125, descriptorIndex := 18, attributes := #[] }, { accessFlags := 24, nameIndex := 1127, descriptorIndex := 18, attributes := #[] }])
  fields := #[{ name := "value", type := (.array .byte), accessFlags := 18, slot := 0, constantValue := 0 }, { name := "coder", type := .byte, accessFlags := 18, slot := 1, constantValue := 0 }, { name := "hash", type := .int, accessFlags := 2, slot := 2, constantValue := 0 }, { name := "hashIsZero", type := .boolean, accessFlags := 2, slot := 3, constantValue := 0 }, { name := "serialVersionUID", type := .long, accessFlags := 26, slot := 0, constantValue := 0 }, { name := "COMPACT_STRINGS", type := .boolean, accessFlags := 24, slot := 1, constantValue := 0 }, { name := "serialPersistentFields", type := (.array (.object "java/io/ObjectStreamField")), accessFlags := 26, slot := 2, constantValue := 0 }, { name := "REPL", type := .char, accessFlags := 26, slot := 3, constantValue := 0 }, { name := "CASE_INSENSITIVE_ORDER", type := (.object "java/util/Comparator"), accessFlags := 25, slot := 4, constantValue := 0 }, { name := "LATIN1", type := .byte, accessFlags := 24, slot := 5, constantValue := 0 }, { name := "UTF16", type := .byte, accessFlags := 24, slot := 6, constantValue := 0 }]
  methods := #[k7m0, k7m1, k7m2, k7m3, k7m4, k7m5, k7m6, k7m7, k7m8, k7m9, k7m10, k7m11, k7m12, k7m13, k7m14]
  instanceTypes := #[(.array .byte), .byte, .int, .boolean]
  staticTypes := #[.long, .boolean, (.array (.object "java/io/ObjectStreamField")), .char, (.object "java/util/Comparator"), .byte, .byte]
  resolved := Array.replicate 1451 none
  statics := some 0 }

def pool8 : Array CpInfo := pool [(1, .class_ 2), (0, u "java/lang/String"), (1, .class_ 6), (1, u "java/lang/Object"), (0, u "<init>"), (0, u "()V"), (0, .methodref 1 10), (0, .nameAndType 11 12), (0, u "checkIndex"), (0, u "(II)V"), (0, .methodref 14 15), (0, .class_ 16), (0, .nameAndType 17 18), (0, u "java/lang/StringLatin1"), (0, u "inflate"), (0, u "([BI[CII)V"), (34, u "([BI)C"), (58, .methodref 1 113), (0, .nameAndType 7 114), (0, u "([BB)V"), (6, u "$assertionsDisabled"), (0, u "Z"), (8, .class_ 133), (1, u "java/util/Arrays"), (17, .string 152), (0, u ""), (43, u "newString"), (0, u "([BII)Ljava/lang/String;"), (23, .class_ 223), (1, u "java/lang/StringLatin1$LinesSpliterator"), (8, .methodref 131 233), (0, .nameAndType 234 235), (0, u "copyOfRange"), (0, u "([BII)[B"), (16, u "charAt"), (21, u "getChars"), (0, u "([BII[CI)V"), (114, .class_ 391), (0, u "java/lang/StringLatin1$CharsSpliterator")] 3

def k8m0 : Method := { name := "<init>", desc := "()V", sig := { parameters := [], returnType := none }, accessFlags := 0, code := none }
def k8c1 : Code := { maxStack := 2, maxLocals := 2, code := jdk_43_method_2_code, exceptionTable := #[], attributes := #[] }
def k8m1 : Method := { name := "charAt", desc := "([BI)C", sig := { parameters := [(.array .byte), .int], returnType := some .char }, accessFlags := 9, code := some k8c1 }
def k8c2 : Code := { maxStack := 6, maxLocals := 5, code := jdk_43_method_11_code, exceptionTable := #[], attributes := #[] }
def k8m2 : Method := { name := "getChars", desc := "([BII[CI)V", sig := { parameters := [(.array .byte), .int, .int, (.array .char), .int], returnType := none }, accessFlags := 9, code := some k8c2 }
def k8c3 : Code := { maxStack := 6, maxLocals := 3, code := jdk_43_method_47_code, exceptionTable := #[], attributes := #[] }
def k8m3 : Method := { name := "newString", desc := "([BII)Ljava/lang/String;", sig := { parameters := [(.array .byte), .int, .int], returnType := some (.object "java/lang/String") }, accessFlags := 9, code := some k8c3 }
def k8c4 : Code := { maxStack := 4, maxLocals := 6, code := jdk_43_method_49_code, exceptionTable := #[], attributes := #[] }
def k8m4 : Method := { name := "inflate", desc := "([BI[CII)V", sig := { parameters := [(.array .byte), .int, (.array .char), .int, .int], returnType := none }, accessFlags := 9, code := some k8c4 }
/-- java/lang/StringLatin1 -/
def k8 : Class := { plain "java/lang/StringLatin1" (some 0) with
  accessFlags := 48
  interfaces := #[]
  cf := some (fileOf pool8 14 #[.nestMembers #[390, 221]] #[{ accessFlags := 0, nameIndex := 7, descriptorIndex := 8, attributes := #[] }, { accessFlags := 9, nameIndex := 252, descriptorIndex := 53, attributes := #[] }, { accessFlags := 9, nameIndex := 274, descriptorIndex := 275, attributes := #[] }, { accessFlags := 9, nameIndex := 196, descriptorIndex := 197, attributes := #[] }, { accessFlags := 9, nameIndex := 17, descriptorIndex := 18, attributes := #[] }] 48 4 #[] #[{ accessFlags := 4120, nameIndex := 121, descriptorIndex := 122, attributes := #[] }])
  fields := #[{ name := "$assertionsDisabled", type := .boolean, accessFlags := 4120, slot := 0, constantValue := 0 }]
  methods := #[k8m0, k8m1, k8m2, k8m3, k8m4]
  instanceTypes := #[]
  staticTypes := #[.boolean]
  resolved := Array.replicate 395 none
  statics := none }

def pool9 : Array CpInfo := pool [(2, .class_ 4), (1, u "java/lang/Object"), (0, u "<init>"), (0, u "()V"), (17, .class_ 26), (1, u "jdk/internal/util/Preconditions"), (6, u "checkIndex"), (13, u "checkFromToIndex"), (1, u "checkFromIndexSize"), (5, .class_ 56), (0, u "jdk/internal/util/Preconditions$4"), (57, .class_ 115), (0, u "jdk/internal/util/Preconditions$1"), (7, u "SIOOBE_FORMATTER"), (0, u "Ljava/util/function/BiFunction;"), (0, .class_ 126), (0, u "jdk/internal/util/Preconditions$2"), (3, u "AIOOBE_FORMATTER"), (0, .class_ 132), (0, u "jdk/internal/util/Preconditions$3"), (3, u "IOOBE_FORMATTER"), (41, u "(IILjava/util/function/BiFunction;)I"), (4, u "(IIILjava/util/function/BiFunction;)I")] 10

def k9m0 : Method := { name := "<init>", desc := "()V", sig := { parameters := [], returnType := none }, accessFlags := 1, code := none }
def k9c1 : Code := { maxStack := 3, maxLocals := 3, code := jdk_41_method_11_code, exceptionTable := #[], attributes := #[] }
def k9m1 : Method := { name := "checkIndex", desc := "(IILjava/util/function/BiFunction;)I", sig := { parameters := [.int, .int, (.object "java/util/function/BiFunction")], returnType := some .int }, accessFlags := 9, code := some k9c1 }
def k9c2 : Code := { maxStack := 4, maxLocals := 4, code := jdk_41_method_12_code, exceptionTable := #[], attributes := #[] }
def k9m2 : Method := { name := "checkFromToIndex", desc := "(IIILjava/util/function/BiFunction;)I", sig := { parameters := [.int, .int, .int, (.object "java/util/function/BiFunction")], returnType := some .int }, accessFlags := 9, code := some k9c2 }
def k9c3 : Code := { maxStack := 4, maxLocals := 4, code := jdk_41_method_13_code, exceptionTable := #[], attributes := #[] }
def k9m3 : Method := { name := "checkFromIndexSize", desc := "(IIILjava/util/function/BiFunction;)I", sig := { parameters := [.int, .int, .int, (.object "java/util/function/BiFunction")], returnType := some .int }, accessFlags := 9, code := some k9c3 }
/-- jdk/internal/util/Preconditions -/
def k9 : Class := { plain "jdk/internal/util/Preconditions" (some 0) with
  accessFlags := 33
  interfaces := #[]
  cf := some (fileOf pool9 24 #[.nestMembers #[55, 131, 125, 114]] #[{ accessFlags := 1, nameIndex := 5, descriptorIndex := 6, attributes := #[] }, { accessFlags := 9, nameIndex := 33, descriptorIndex := 178, attributes := #[] }, { accessFlags := 9, nameIndex := 47, descriptorIndex := 183, attributes := #[] }, { accessFlags := 9, nameIndex := 49, descriptorIndex := 183, attributes := #[] }] 33 2 #[] #[{ accessFlags := 25, nameIndex := 123, descriptorIndex := 124, attributes := #[] }, { accessFlags := 25, nameIndex := 130, descriptorIndex := 124, attributes := #[] }, { accessFlags := 25, nameIndex := 136, descriptorIndex := 124, attributes := #[] }])
  fields := #[{ name := "SIOOBE_FORMATTER", type := (.object "java/util/function/BiFunction"), accessFlags := 25, slot := 0, constantValue := 0 }, { name := "AIOOBE_FORMATTER", type := (.object "java/util/function/BiFunction"), accessFlags := 25, slot := 1, constantValue := 0 }, { name := "IOOBE_FORMATTER", type := (.object "java/util/function/BiFunction"), accessFlags := 25, slot := 2, constantValue := 0 }]
  methods := #[k9m0, k9m1, k9m2, k9m3]
  instanceTypes := #[]
  staticTypes := #[(.object "java/util/function/BiFunction"), (.object "java/util/function/BiFunction"), (.object "java/util/function/BiFunction")]
  resolved := Array.replicate 194 none
  statics := some 1 }

def pool10 : Array CpInfo := pool [(6, .class_ 8), (1, u "java/lang/Object"), (0, u "<init>"), (0, u "()V"), (1, .class_ 14), (1, u "java/lang/StringUTF16"), (31, u "$assertionsDisabled"), (0, u "Z"), (13, u "HI_BYTE_SHIFT"), (0, u "I"), (2, u "LO_BYTE_SHIFT"), (49, .methodref 12 116), (0, .nameAndType 117 118), (0, u "compress"), (0, u "([CI[BII)I"), (3, u "([CII)[B"), (138, u "coderFromArrayLen"), (0, u "([BI)B"), (106, .class_ 371), (1, u "java/lang/StringUTF16$LinesSpliterator"), (58, u "MAX_LENGTH"), (196, .class_ 628), (0, u "java/lang/StringUTF16$CodePointsSpliterator"), (0, .class_ 630), (0, u "java/lang/StringUTF16$CharsSpliterator")] 4

def k10m0 : Method := { name := "<init>", desc := "()V", sig := { parameters := [], returnType := none }, accessFlags := 0, code := none }
def k10c1 : Code := { maxStack := 2, maxLocals := 2, code := jdk_52_method_15_code, exceptionTable := #[], attributes := #[] }
def k10m1 : Method := { name := "coderFromArrayLen", desc := "([BI)B", sig := { parameters := [(.array .byte), .int], returnType := some .byte }, accessFlags := 8, code := some k10c1 }
def k10c2 : Code := { maxStack := 5, maxLocals := 6, code := jdk_52_method_16_code, exceptionTable := #[], attributes := #[] }
def k10m2 : Method := { name := "compress", desc := "([CII)[B", sig := { parameters := [(.array .char), .int, .int], returnType := some (.array .byte) }, accessFlags := 9, code := some k10c2 }
def k10c3 : Code := { maxStack := 3, maxLocals := 7, code := jdk_52_method_21_code, exceptionTable := #[], attributes := #[] }
def k10m3 : Method := { name := "compress", desc := "([CI[BII)I", sig := { parameters := [(.array .char), .int, (.array .byte), .int, .int], returnType := some .int }, accessFlags := 9, code := some k10c3 }
/-- java/lang/StringUTF16 -/
def k10 : Class := { plain "java/lang/StringUTF16" (some 0) with
  accessFlags := 48
  interfaces := #[]
  cf := some (fileOf pool10 12 #[.nestMembers #[627, 629, 369]] #[{ accessFlags := 0, nameIndex := 9, descriptorIndex := 10, attributes := #[] }, { accessFlags := 8, nameIndex := 261, descriptorIndex := 262, attributes := #[] }, { accessFlags := 9, nameIndex := 117, descriptorIndex := 122, attributes := #[] }, { accessFlags := 9, nameIndex := 117, descriptorIndex := 118, attributes := #[] }] 48 6 #[] #[{ accessFlags := 26, nameIndex := 61, descriptorIndex := 62, attributes := #[] }, { accessFlags := 26, nameIndex := 65, descriptorIndex := 62, attributes := #[] }, { accessFlags := 24, nameIndex := 430, descriptorIndex := 62, attributes := #[] }, { accessFlags := 4120, nameIndex := 46, descriptorIndex := 47, attributes := #[] }])
  fields := #[{ name := "HI_BYTE_SHIFT", type := .int, accessFlags := 26, slot := 0, constantValue := 0 }, { name := "LO_BYTE_SHIFT", type := .int, accessFlags := 26, slot := 1, constantValue := 0 }, { name := "MAX_LENGTH", type := .int, accessFlags := 24, slot := 2, constantValue := 0 }, { name := "$assertionsDisabled", type := .boolean, accessFlags := 4120, slot := 3, constantValue := 0 }]
  methods := #[k10m0, k10m1, k10m2, k10m3]
  instanceTypes := #[]
  staticTypes := #[.int, .int, .int, .boolean]
  resolved := Array.replicate 635 none
  statics := none }

def pool11 : Array CpInfo := pool [(1, .methodref 2 3), (0, .class_ 4), (0, .nameAndType 5 6), (0, u "java/lang/Object"), (0, u "<init>"), (0, u "()V"), (0, .fieldref 8 9), (0, .class_ 10), (0, .nameAndType 11 12), (0, u "com/example/nameshelf/nameshelf/uri/InfoUri"), (0, u "normal"), (0, u "Ljava/lang/String;"), (0, .fieldref 8 14), (0, .nameAndType 15 16), (0, u "slash"), (0, u "I"), (0, .fieldref 8 18), (0, .nameAndType 19 16), (0, u "hash"), (0, .interfaceMethodref 21 22), (0, .class_ 23), (0, .nameAndType 24 25), (0, u "java/lang/CharSequence"), (0, u "length"), (0, u "()I"), (0, .methodref 8 27), (0, .nameAndType 28 29), (0, u "startsWithScheme"), (0, u "(Ljava/lang/CharSequence;)Z"), (7, .string 38), (0, u "info:"), (0, .methodref 40 22), (0, .class_ 41), (0, u "java/lang/String"), (0, .methodref 40 43), (0, .nameAndType 44 45), (0, u "getChars"), (0, u "(II[CI)V"), (0, .interfaceMethodref 21 47), (0, .nameAndType 48 49), (0, u "charAt"), (0, u "(I)C"), (0, .methodref 8 51), (0, .nameAndType 52 53), (0, u "escapedByte"), (0, u "(Ljava/lang/CharSequence;I)I"), (0, .methodref 8 55), (0, .nameAndType 56 57), (0, u "isLetter"), (0, u "(I)Z"), (2, .methodref 8 61), (0, .nameAndType 62 57), (0, u "isNamespaceCharacter"), (6, .methodref 8 70), (0, .nameAndType 71 72), (0, u "lowerAscii"), (0, u "(I)I"), (4, .methodref 8 78), (0, .nameAndType 79 80), (0, u "putByte"), (0, u "([CII)I"), (0, .fieldref 8 82), (0, .nameAndType 83 84), (0, u "PCHAR"), (0, u "[Z"), (4, .methodref 40 90), (0, .nameAndType 5 91), (0, u "([CII)V"), (0, .methodref 8 93), (0, .nameAndType 5 94), (0, u "(Ljava/lang/String;II)V"), (17, u "toString"), (0, u "()Ljava/lang/String;"), (62, .methodref 40 177), (0, .nameAndType 178 179), (0, u "substring"), (0, u "(II)Ljava/lang/String;"), (12, u "identifier"), (6, .methodref 40 47), (27, .fieldref 8 228), (0, .nameAndType 229 230), (0, u "HEX"), (0, u "[C"), (0, .methodref 8 232), (0, .nameAndType 233 234), (0, u "hexValue"), (0, u "(C)I"), (29, .methodref 8 265), (0, .nameAndType 266 57), (0, u "isDigit"), (0, .fieldref 8 268), (0, .nameAndType 269 84), (0, u "NAMESPACE"), (17, u "SCHEME"), (3, u "parse"), (0, u "(Ljava/lang/CharSequence;)Lcom/example/nameshelf/nameshelf/uri/InfoUri;"), (11, u "namespace")] 29

def k11c0 : Code := { maxStack := 2, maxLocals := 4, code := prog_62_method_1_code, exceptionTable := #[], attributes := #[] }
def k11m0 : Method := { name := "<init>", desc := "(Ljava/lang/String;II)V", sig := { parameters := [(.object "java/lang/String"), .int, .int], returnType := none }, accessFlags := 2, code := some k11c0 }
def k11c1 : Code := { maxStack := 7, maxLocals := 8, code := prog_62_method_2_code, exceptionTable := #[], attributes := #[] }
def k11m1 : Method := { name := "parse", desc := "(Ljava/lang/CharSequence;)Lcom/example/nameshelf/nameshelf/uri/InfoUri;", sig := { parameters := [(.object "java/lang/CharSequence")], returnType := some (.object "com/example/nameshelf/nameshelf/uri/InfoUri") }, accessFlags := 9, code := some k11c1 }
def k11c2 : Code := { maxStack := 3, maxLocals := 1, code := prog_62_method_6_code, exceptionTable := #[], attributes := #[] }
def k11m2 : Method := { name := "namespace", desc := "()Ljava/lang/String;", sig := { parameters := [], returnType := some (.object "java/lang/String") }, accessFlags := 1, code := some k11c2 }
def k11c3 : Code := { maxStack := 3, maxLocals := 1, code := prog_62_method_7_code, exceptionTable := #[], attributes := #[] }
def k11m3 : Method := { name := "identifier", desc := "()Ljava/lang/String;", sig := { parameters := [], returnType := some (.object "java/lang/String") }, accessFlags := 1, code := some k11c3 }
def k11c4 : Code := { maxStack := 1, maxLocals := 1, code := prog_62_method_11_code, exceptionTable := #[], attributes := #[] }
def k11m4 : Method := { name := "toString", desc := "()Ljava/lang/String;", sig := { parameters := [], returnType := some (.object "java/lang/String") }, accessFlags := 1, code := some k11c4 }
def k11c5 : Code := { maxStack := 5, maxLocals := 4, code := prog_62_method_13_code, exceptionTable := #[], attributes := #[] }
def k11m5 : Method := { name := "putByte", desc := "([CII)I", sig := { parameters := [(.array .char), .int, .int], returnType := some .int }, accessFlags := 10, code := some k11c5 }
def k11c6 : Code := { maxStack := 3, maxLocals := 2, code := prog_62_method_14_code, exceptionTable := #[], attributes := #[] }
def k11m6 : Method := { name := "startsWithScheme", desc := "(Ljava/lang/CharSequence;)Z", sig := { parameters := [(.object "java/lang/CharSequence")], returnType := some .boolean }, accessFlags := 10, code := some k11c6 }
def k11c7 : Code := { maxStack := 5, maxLocals := 4, code := prog_62_method_15_code, exceptionTable := #[], attributes := #[] }
def k11m7 : Method := { name := "escapedByte", desc := "(Ljava/lang/CharSequence;I)I", sig := { parameters := [(.object "java/lang/CharSequence"), .int], returnType := some .int }, accessFlags := 10, code := some k11c7 }
def k11c8 : Code := { maxStack := 2, maxLocals := 2, code := prog_62_method_17_code, exceptionTable := #[], attributes := #[] }
def k11m8 : Method := { name := "hexValue", desc := "(C)I", sig := { parameters := [.char], returnType := some .int }, accessFlags := 10, code := some k11c8 }
def k11c9 : Code := { maxStack := 2, maxLocals := 1, code := prog_62_method_18_code, exceptionTable := #[], attributes := #[] }
def k11m9 : Method := { name := "isNamespaceCharacter", desc := "(I)Z", sig := { parameters := [.int], returnType := some .boolean }, accessFlags := 10, code := some k11c9 }
def k11c10 : Code := { maxStack := 2, maxLocals := 1, code := prog_62_method_19_code, exceptionTable := #[], attributes := #[] }
def k11m10 : Method := { name := "isLetter", desc := "(I)Z", sig := { parameters := [.int], returnType := some .boolean }, accessFlags := 10, code := some k11c10 }
def k11c11 : Code := { maxStack := 2, maxLocals := 1, code := prog_62_method_20_code, exceptionTable := #[], attributes := #[] }
def k11m11 : Method := { name := "lowerAscii", desc := "(I)I", sig := { parameters := [.int], returnType := some .int }, accessFlags := 10, code := some k11c11 }
def k11c12 : Code := { maxStack := 2, maxLocals := 1, code := prog_62_method_21_code, exceptionTable := #[], attributes := #[] }
def k11m12 : Method := { name := "isDigit", desc := "(I)Z", sig := { parameters := [.int], returnType := some .boolean }, accessFlags := 10, code := some k11c12 }
/-- com/example/nameshelf/nameshelf/uri/InfoUri -/
def k11 : Class := { plain "com/example/nameshelf/nameshelf/uri/InfoUri" (some 0) with
  accessFlags := 49
  interfaces := #[]
  cf := some (fileOf pool11 8 #[] #[{ accessFlags := 2, nameIndex := 5, descriptorIndex := 94, attributes := #[] }, { accessFlags := 9, nameIndex := 291, descriptorIndex := 292, attributes := #[] }, { accessFlags := 1, nameIndex := 304, descriptorIndex := 113, attributes := #[] }, { accessFlags := 1, nameIndex := 192, descriptorIndex := 113, attributes := #[] }, { accessFlags := 1, nameIndex := 112, descriptorIndex := 113, attributes := #[] }, { accessFlags := 10, nameIndex := 79, descriptorIndex := 80, attributes := #[] }, { accessFlags := 10, nameIndex := 28, descriptorIndex := 29, attributes := #[] }, { accessFlags := 10, nameIndex := 52, descriptorIndex := 53, attributes := #[] }, { accessFlags := 10, nameIndex := 233, descriptorIndex := 234, attributes := #[] }, { accessFlags := 10, nameIndex := 62, descriptorIndex := 57, attributes := #[] }, { accessFlags := 10, nameIndex := 56, descriptorIndex := 57, attributes := #[] }, { accessFlags := 10, nameIndex := 71, descriptorIndex := 72, attributes := #[] }, { accessFlags := 10, nameIndex := 266, descriptorIndex := 57, attributes := #[] }] 49 2 #[] #[{ accessFlags := 26, nameIndex := 287, descriptorIndex := 12, attributes := #[] }, { accessFlags := 26, nameIndex := 229, descriptorIndex := 230, attributes := #[] }, { accessFlags := 26, nameIndex := 83, descriptorIndex := 84, attributes := #[] }, { accessFlags := 26, nameIndex := 269, descriptorIndex := 84, attributes := #[] }, { accessFlags := 18, nameIndex := 11, descriptorIndex := 12, attributes := #[] }, { accessFlags := 18, nameIndex := 15, descriptorIndex := 16, attributes := #[] }, { accessFlags := 18, nameIndex := 19, descriptorIndex := 16, attributes := #[] }])
  fields := #[{ name := "SCHEME", type := (.object "java/lang/String"), accessFlags := 26, slot := 0, constantValue := 0 }, { name := "HEX", type := (.array .char), accessFlags := 26, slot := 1, constantValue := 0 }, { name := "PCHAR", type := (.array .boolean), accessFlags := 26, slot := 2, constantValue := 0 }, { name := "NAMESPACE", type := (.array .boolean), accessFlags := 26, slot := 3, constantValue := 0 }, { name := "normal", type := (.object "java/lang/String"), accessFlags := 18, slot := 0, constantValue := 0 }, { name := "slash", type := .int, accessFlags := 18, slot := 1, constantValue := 0 }, { name := "hash", type := .int, accessFlags := 18, slot := 2, constantValue := 0 }]
  methods := #[k11m0, k11m1, k11m2, k11m3, k11m4, k11m5, k11m6, k11m7, k11m8, k11m9, k11m10, k11m11, k11m12]
  instanceTypes := #[(.object "java/lang/String"), .int, .int]
  staticTypes := #[(.object "java/lang/String"), (.array .char), (.array .boolean), (.array .boolean)]
  resolved := Array.replicate 334 none
  statics := some 2 }

def pool12 : Array CpInfo := pool [(2, .class_ 4), (1, u "java/lang/Object"), (0, u "<init>"), (0, u "()V"), (7, .class_ 16), (1, u "java/util/Arrays"), (57, .class_ 76), (1, u "java/util/Arrays$NaturalOrder"), (36, .class_ 115), (1, u "java/util/Arrays$LegacyMergeSort"), (1, u "Z"), (21, u "copyOfRange"), (10, .methodref 151 152), (0, .class_ 153), (0, .nameAndType 154 155), (0, u "java/lang/System"), (0, u "arraycopy"), (0, u "(Ljava/lang/Object;ILjava/lang/Object;II)V"), (148, .methodref 305 306), (0, .class_ 307), (0, .nameAndType 308 309), (0, u "java/lang/Math"), (0, u "min"), (0, u "(II)I"), (29, .methodref 14 340), (0, .nameAndType 341 342), (0, u "copyOfRangeByte"), (0, u "([BII)[B"), (0, .methodref 14 344), (0, .nameAndType 345 346), (0, u "checkLength"), (0, u "(II)V"), (28, .class_ 376), (0, u "java/util/Arrays$ArrayList"), (68, u "$assertionsDisabled"), (269, u "MIN_ARRAY_SORT_GRAN"), (0, u "I"), (2, u "INSERTIONSORT_THRESHOLD"), (255, .class_ 976), (0, u "java/util/Arrays$ArrayItr")] 52

def k12m0 : Method := { name := "<init>", desc := "()V", sig := { parameters := [], returnType := none }, accessFlags := 2, code := none }
def k12c1 : Code := { maxStack := 4, maxLocals := 2, code := jdk_65_method_131_code, exceptionTable := #[], attributes := #[] }
def k12m1 : Method := { name := "checkLength", desc := "(II)V", sig := { parameters := [.int, .int], returnType := none }, accessFlags := 10, code := some k12c1 }
def k12c2 : Code := { maxStack := 3, maxLocals := 3, code := jdk_65_method_132_code, exceptionTable := #[], attributes := #[] }
def k12m2 : Method := { name := "copyOfRange", desc := "([BII)[B", sig := { parameters := [(.array .byte), .int, .int], returnType := some (.array .byte) }, accessFlags := 9, code := some k12c2 }
def k12c3 : Code := { maxStack := 6, maxLocals := 5, code := jdk_65_method_133_code, exceptionTable := #[], attributes := #[] }
def k12m3 : Method := { name := "copyOfRangeByte", desc := "([BII)[B", sig := { parameters := [(.array .byte), .int, .int], returnType := some (.array .byte) }, accessFlags := 10, code := some k12c3 }
/-- java/util/Arrays -/
def k12 : Class := { plain "java/util/Arrays" (some 0) with
  accessFlags := 49
  interfaces := #[]
  cf := some (fileOf pool12 14 #[.nestMembers #[975, 375, 113, 74]] #[{ accessFlags := 2, nameIndex := 5, descriptorIndex := 6, attributes := #[] }, { accessFlags := 10, nameIndex := 345, descriptorIndex := 346, attributes := #[] }, { accessFlags := 9, nameIndex := 139, descriptorIndex := 342, attributes := #[] }, { accessFlags := 10, nameIndex := 341, descriptorIndex := 342, attributes := #[] }] 49 2 #[] #[{ accessFlags := 26, nameIndex := 715, descriptorIndex := 716, attributes := #[] }, { accessFlags := 26, nameIndex := 719, descriptorIndex := 716, attributes := #[] }, { accessFlags := 4120, nameIndex := 445, descriptorIndex := 117, attributes := #[] }])
  fields := #[{ name := "MIN_ARRAY_SORT_GRAN", type := .int, accessFlags := 26, slot := 0, constantValue := 0 }, { name := "INSERTIONSORT_THRESHOLD", type := .int, accessFlags := 26, slot := 1, constantValue := 0 }, { name := "$assertionsDisabled", type := .boolean, accessFlags := 4120, slot := 2, constantValue := 0 }]
  methods := #[k12m0, k12m1, k12m2, k12m3]
  instanceTypes := #[]
  staticTypes := #[.int, .int, .boolean]
  resolved := Array.replicate 1029 none
  statics := none }

def pool13 : Array CpInfo := pool [(1, .class_ 2), (0, u "java/lang/Math"), (1, .class_ 6), (1, u "java/lang/Object"), (0, u "<init>"), (0, u "()V"), (89, .class_ 100), (1, u "java/lang/Math$RandomNumberGeneratorHolder"), (71, u "negativeZeroFloatBits"), (0, u "J"), (2, u "negativeZeroDoubleBits"), (24, u "min"), (43, u "$assertionsDisabled"), (0, u "Z"), (88, u "(II)I"), (2, u "twoToTheDoubleScaleDown"), (0, u "D"), (4, u "twoToTheDoubleScaleUp"), (9, u "E"), (3, u "PI"), (2, u "TAU"), (2, u "DEGREES_TO_RADIANS"), (0, u "RADIANS_TO_DEGREES")] 94

def k13m0 : Method := { name := "<init>", desc := "()V", sig := { parameters := [], returnType := none }, accessFlags := 2, code := none }
def k13c1 : Code := { maxStack := 2, maxLocals := 2, code := jdk_29_method_69_code, exceptionTable := #[], attributes := #[] }
def k13m1 : Method := { name := "min", desc := "(II)I", sig := { parameters := [.int, .int], returnType := some .int }, accessFlags := 9, code := some k13c1 }
/-- java/lang/Math -/
def k13 : Class := { plain "java/lang/Math" (some 0) with
  accessFlags := 49
  interfaces := #[]
  cf := some (fileOf pool13 1 #[.nestMembers #[98]] #[{ accessFlags := 2, nameIndex := 7, descriptorIndex := 8, attributes := #[] }, { accessFlags := 9, nameIndex := 201, descriptorIndex := 335, attributes := #[] }] 49 4 #[] #[{ accessFlags := 25, nameIndex := 354, descriptorIndex := 339, attributes := #[] }, { accessFlags := 25, nameIndex := 358, descriptorIndex := 339, attributes := #[] }, { accessFlags := 25, nameIndex := 361, descriptorIndex := 339, attributes := #[] }, { accessFlags := 26, nameIndex := 364, descriptorIndex := 339, attributes := #[] }, { accessFlags := 26, nameIndex := 365, descriptorIndex := 339, attributes := #[] }, { accessFlags := 26, nameIndex := 172, descriptorIndex := 173, attributes := #[] }, { accessFlags := 26, nameIndex := 176, descriptorIndex := 173, attributes := #[] }, { accessFlags := 8, nameIndex := 344, descriptorIndex := 339, attributes := #[] }, { accessFlags := 8, nameIndex := 338, descriptorIndex := 339, attributes := #[] }, { accessFlags := 4120, nameIndex := 245, descriptorIndex := 246, attributes := #[] }])
  fields := #[{ name := "E", type := .double, accessFlags := 25, slot := 0, constantValue := 0 }, { name := "PI", type := .double, accessFlags := 25, slot := 1, constantValue := 0 }, { name := "TAU", type := .double, accessFlags := 25, slot := 2, constantValue := 0 }, { name := "DEGREES_TO_RADIANS", type := .double, accessFlags := 26, slot := 3, constantValue := 0 }, { name := "RADIANS_TO_DEGREES", type := .double, accessFlags := 26, slot := 4, constantValue := 0 }, { name := "negativeZeroFloatBits", type := .long, accessFlags := 26, slot := 5, constantValue := 0 }, { name := "negativeZeroDoubleBits", type := .long, accessFlags := 26, slot := 6, constantValue := 0 }, { name := "twoToTheDoubleScaleUp", type := .double, accessFlags := 8, slot := 7, constantValue := 0 }, { name := "twoToTheDoubleScaleDown", type := .double, accessFlags := 8, slot := 8, constantValue := 0 }, { name := "$assertionsDisabled", type := .boolean, accessFlags := 4120, slot := 9, constantValue := 0 }]
  methods := #[k13m0, k13m1]
  instanceTypes := #[]
  staticTypes := #[.double, .double, .double, .double, .double, .long, .long, .double, .double, .boolean]
  resolved := Array.replicate 460 none
  statics := none }

def pool14 : Array CpInfo := pool [(2, .class_ 4), (1, u "java/lang/Object"), (0, u "<init>"), (0, u "()V"), (1, .class_ 10), (1, u "java/lang/System"), (0, u "allowSecurityManager"), (0, u "I"), (16, u "cons"), (0, u "Ljava/io/Console;"), (77, .class_ 110), (1, u "java/lang/System$CallersHolder"), (43, u "initialErrStream"), (0, u "Ljava/io/PrintStream;"), (19, u "security"), (0, u "Ljava/lang/SecurityManager;"), (31, .class_ 209), (0, u "java/lang/System$1"), (7, u "props"), (0, u "Ljava/util/Properties;"), (2, u "lineSeparator"), (0, u "Ljava/lang/String;"), (96, .class_ 321), (1, u "java/lang/System$LoggerFinder"), (5, .class_ 328), (0, u "java/lang/System$Logger"), (67, u "err"), (2, u "out"), (91, u "notSupportedJnuEncoding"), (15, u "in"), (17, u "initialIn"), (0, u "Ljava/io/InputStream;"), (35, u "bootLayer"), (0, u "Ljava/lang/ModuleLayer;"), (99, .class_ 664), (0, u "java/lang/System$2"), (9, u "NEVER"), (2, u "MAYBE"), (49, u "arraycopy"), (0, u "(Ljava/lang/Object;ILjava/lang/Object;II)V"), (72, .class_ 802), (0, u "java/lang/System$Logger$Level")] 31

def k14m0 : Method := { name := "<init>", desc := "()V", sig := { parameters := [], returnType := none }, accessFlags := 2, code := none }
def k14m1 : Method := { name := "arraycopy", desc := "(Ljava/lang/Object;ILjava/lang/Object;II)V", sig := { parameters := [(.object "java/lang/Object"), .int, (.object "java/lang/Object"), .int, .int], returnType := none }, accessFlags := 265, code := none }
/-- java/lang/System -/
def k14 : Class := { plain "java/lang/System" (some 0) with
  accessFlags := 49
  interfaces := #[]
  cf := some (fileOf pool14 8 #[.nestMembers #[319, 327, 801, 108, 663, 208]] #[{ accessFlags := 2, nameIndex := 5, descriptorIndex := 6, attributes := #[] }, { accessFlags := 265, nameIndex := 727, descriptorIndex := 728, attributes := #[] }] 49 2 #[] #[{ accessFlags := 25, nameIndex := 507, descriptorIndex := 526, attributes := #[] }, { accessFlags := 25, nameIndex := 399, descriptorIndex := 155, attributes := #[] }, { accessFlags := 25, nameIndex := 396, descriptorIndex := 155, attributes := #[] }, { accessFlags := 10, nameIndex := 525, descriptorIndex := 526, attributes := #[] }, { accessFlags := 26, nameIndex := 674, descriptorIndex := 12, attributes := #[] }, { accessFlags := 26, nameIndex := 677, descriptorIndex := 12, attributes := #[] }, { accessFlags := 10, nameIndex := 11, descriptorIndex := 12, attributes := #[] }, { accessFlags := 74, nameIndex := 175, descriptorIndex := 176, attributes := #[] }, { accessFlags := 10, nameIndex := 491, descriptorIndex := 222, attributes := #[] }, { accessFlags := 74, nameIndex := 29, descriptorIndex := 30, attributes := #[] }, { accessFlags := 74, nameIndex := 154, descriptorIndex := 155, attributes := #[] }, { accessFlags := 10, nameIndex := 217, descriptorIndex := 218, attributes := #[] }, { accessFlags := 10, nameIndex := 221, descriptorIndex := 222, attributes := #[] }, { accessFlags := 8, nameIndex := 562, descriptorIndex := 563, attributes := #[] }])
  fields := #[{ name := "in", type := (.object "java/io/InputStream"), accessFlags := 25, slot := 0, constantValue := 0 }, { name := "out", type := (.object "java/io/PrintStream"), accessFlags := 25, slot := 1, constantValue := 0 }, { name := "err", type := (.object "java/io/PrintStream"), accessFlags := 25, slot := 2, constantValue := 0 }, { name := "initialIn", type := (.object "java/io/InputStream"), accessFlags := 10, slot := 3, constantValue := 0 }, { name := "NEVER", type := .int, accessFlags := 26, slot := 4, constantValue := 0 }, { name := "MAYBE", type := .int, accessFlags := 26, slot := 5, constantValue := 0 }, { name := "allowSecurityManager", type := .int, accessFlags := 10, slot := 6, constantValue := 0 }, { name := "security", type := (.object "java/lang/SecurityManager"), accessFlags := 74, slot := 7, constantValue := 0 }, { name := "notSupportedJnuEncoding", type := (.object "java/lang/String"), accessFlags := 10, slot := 8, constantValue := 0 }, { name := "cons", type := (.object "java/io/Console"), accessFlags := 74, slot := 9, constantValue := 0 }, { name := "initialErrStream", type := (.object "java/io/PrintStream"), accessFlags := 74, slot := 10, constantValue := 0 }, { name := "props", type := (.object "java/util/Properties"), accessFlags := 10, slot := 11, constantValue := 0 }, { name := "lineSeparator", type := (.object "java/lang/String"), accessFlags := 10, slot := 12, constantValue := 0 }, { name := "bootLayer", type := (.object "java/lang/ModuleLayer"), accessFlags := 8, slot := 13, constantValue := 0 }]
  methods := #[k14m0, k14m1]
  instanceTypes := #[]
  staticTypes := #[(.object "java/io/InputStream"), (.object "java/io/PrintStream"), (.object "java/io/PrintStream"), (.object "java/io/InputStream"), .int, .int, .int, (.object "java/lang/SecurityManager"), (.object "java/lang/String"), (.object "java/io/Console"), (.object "java/io/PrintStream"), (.object "java/util/Properties"), (.object "java/lang/String"), (.object "java/lang/ModuleLayer")]
  resolved := Array.replicate 834 none
  statics := none }

def pool15 : Array CpInfo := pool [(9, u "<init>"), (6, .class_ 18), (1, u "java/lang/Object"), (0, u "()V"), (1, .class_ 23), (1, u "jdk/internal/util/ArraysSupport"), (0, u "LOG2_ARRAY_LONG_INDEX_SCALE"), (0, u "I"), (2, u "U"), (0, u "Ljdk/internal/misc/Unsafe;"), (8, u "BIG_ENDIAN"), (0, u "Z"), (8, u "LOG2_BYTE_BIT_SIZE"), (4, u "LOG2_ARRAY_INT_INDEX_SCALE"), (54, u "JLA"), (0, u "Ljdk/internal/access/JavaLangAccess;"), (11, u "LOG2_ARRAY_BOOLEAN_INDEX_SCALE"), (9, u "LOG2_ARRAY_BYTE_INDEX_SCALE"), (5, u "LOG2_ARRAY_CHAR_INDEX_SCALE"), (5, u "LOG2_ARRAY_SHORT_INDEX_SCALE"), (18, u "LOG2_ARRAY_FLOAT_INDEX_SCALE"), (24, u "LOG2_ARRAY_DOUBLE_INDEX_SCALE"), (89, u "T_BOOLEAN"), (2, u "T_CHAR"), (1, u "T_FLOAT"), (1, u "T_DOUBLE"), (1, u "T_BYTE"), (1, u "T_SHORT"), (1, u "T_INT"), (1, u "T_LONG"), (1, u "SOFT_MAX_ARRAY_LENGTH")] 83

def k15m0 : Method := { name := "<init>", desc := "()V", sig := { parameters := [], returnType := none }, accessFlags := 2, code := none }
/-- jdk/internal/util/ArraysSupport -/
def k15 : Class := { plain "jdk/internal/util/ArraysSupport" (some 0) with
  accessFlags := 33
  interfaces := #[]
  cf := some (fileOf pool15 21 #[] #[{ accessFlags := 2, nameIndex := 9, descriptorIndex := 19, attributes := #[] }] 33 16 #[] #[{ accessFlags := 24, nameIndex := 28, descriptorIndex := 29, attributes := #[] }, { accessFlags := 26, nameIndex := 38, descriptorIndex := 39, attributes := #[] }, { accessFlags := 25, nameIndex := 121, descriptorIndex := 25, attributes := #[] }, { accessFlags := 25, nameIndex := 131, descriptorIndex := 25, attributes := #[] }, { accessFlags := 25, nameIndex := 137, descriptorIndex := 25, attributes := #[] }, { accessFlags := 25, nameIndex := 143, descriptorIndex := 25, attributes := #[] }, { accessFlags := 25, nameIndex := 53, descriptorIndex := 25, attributes := #[] }, { accessFlags := 25, nameIndex := 24, descriptorIndex := 25, attributes := #[] }, { accessFlags := 25, nameIndex := 162, descriptorIndex := 25, attributes := #[] }, { accessFlags := 25, nameIndex := 187, descriptorIndex := 25, attributes := #[] }, { accessFlags := 26, nameIndex := 48, descriptorIndex := 25, attributes := #[] }, { accessFlags := 25, nameIndex := 277, descriptorIndex := 25, attributes := #[] }, { accessFlags := 25, nameIndex := 280, descriptorIndex := 25, attributes := #[] }, { accessFlags := 25, nameIndex := 282, descriptorIndex := 25, attributes := #[] }, { accessFlags := 25, nameIndex := 284, descriptorIndex := 25, attributes := #[] }, { accessFlags := 25, nameIndex := 286, descriptorIndex := 25, attributes := #[] }, { accessFlags := 25, nameIndex := 288, descriptorIndex := 25, attributes := #[] }, { accessFlags := 25, nameIndex := 290, descriptorIndex := 25, attributes := #[] }, { accessFlags := 25, nameIndex := 292, descriptorIndex := 25, attributes := #[] }, { accessFlags := 26, nameIndex := 108, descriptorIndex := 109, attributes := #[] }, { accessFlags := 25, nameIndex := 294, descriptorIndex := 25, attributes := #[] }])
  fields := #[{ name := "U", type := (.object "jdk/internal/misc/Unsafe"), accessFlags := 24, slot := 0, constantValue := 0 }, { name := "BIG_ENDIAN", type := .boolean, accessFlags := 26, slot := 1, constantValue := 0 }, { name := "LOG2_ARRAY_BOOLEAN_INDEX_SCALE", type := .int, accessFlags := 25, slot := 2, constantValue := 0 }, { name := "LOG2_ARRAY_BYTE_INDEX_SCALE", type := .int, accessFlags := 25, slot := 3, constantValue := 0 }, { name := "LOG2_ARRAY_CHAR_INDEX_SCALE", type := .int, accessFlags := 25, slot := 4, constantValue := 0 }, { name := "LOG2_ARRAY_SHORT_INDEX_SCALE", type := .int, accessFlags := 25, slot := 5, constantValue := 0 }, { name := "LOG2_ARRAY_INT_INDEX_SCALE", type := .int, accessFlags := 25, slot := 6, constantValue := 0 }, { name := "LOG2_ARRAY_LONG_INDEX_SCALE", type := .int, accessFlags := 25, slot := 7, constantValue := 0 }, { name := "LOG2_ARRAY_FLOAT_INDEX_SCALE", type := .int, accessFlags := 25, slot := 8, constantValue := 0 }, { name := "LOG2_ARRAY_DOUBLE_INDEX_SCALE", type := .int, accessFlags := 25, slot := 9, constantValue := 0 }, { name := "LOG2_BYTE_BIT_SIZE", type := .int, accessFlags := 26, slot := 10, constantValue := 0 }, { name := "T_BOOLEAN", type := .int, accessFlags := 25, slot := 11, constantValue := 0 }, { name := "T_CHAR", type := .int, accessFlags := 25, slot := 12, constantValue := 0 }, { name := "T_FLOAT", type := .int, accessFlags := 25, slot := 13, constantValue := 0 }, { name := "T_DOUBLE", type := .int, accessFlags := 25, slot := 14, constantValue := 0 }, { name := "T_BYTE", type := .int, accessFlags := 25, slot := 15, constantValue := 0 }, { name := "T_SHORT", type := .int, accessFlags := 25, slot := 16, constantValue := 0 }, { name := "T_INT", type := .int, accessFlags := 25, slot := 17, constantValue := 0 }, { name := "T_LONG", type := .int, accessFlags := 25, slot := 18, constantValue := 0 }, { name := "JLA", type := (.object "jdk/internal/access/JavaLangAccess"), accessFlags := 26, slot := 19, constantValue := 0 }, { name := "SOFT_MAX_ARRAY_LENGTH", type := .int, accessFlags := 25, slot := 20, constantValue := 0 }]
  methods := #[k15m0]
  instanceTypes := #[]
  staticTypes := #[(.object "jdk/internal/misc/Unsafe"), .boolean, .int, .int, .int, .int, .int, .int, .int, .int, .int, .int, .int, .int, .int, .int, .int, .int, .int, (.object "jdk/internal/access/JavaLangAccess"), .int]
  resolved := Array.replicate 378 none
  statics := none }

def pool16 : Array CpInfo := pool [(1, u "java/lang/Cloneable"), (0, .class_ 1), (0, u "java/lang/Object"), (0, .class_ 3)] 3

/-- java/lang/Cloneable -/
def k16 : Class := { plain "java/lang/Cloneable" (some 0) with
  accessFlags := 1537
  interfaces := #[]
  cf := some (fileOf pool16 2 #[] #[] 1537 4 #[] #[])
  fields := #[]
  methods := #[]
  instanceTypes := #[]
  staticTypes := #[]
  resolved := Array.replicate 8 none
  statics := none }

/-- the primitive boolean -/
def k17 : Class := { plain "boolean" none with kind := .primitive 'Z', accessFlags := 0x411 }
/-- [Z -/
def k18 : Class := { plain "[Z" (some 0) with kind := .array 17 .boolean, interfaces := #[16, 2], accessFlags := 1041 }

/-- the primitive byte -/
def k19 : Class := { plain "byte" none with kind := .primitive 'B', accessFlags := 0x411 }
/-- [B -/
def k20 : Class := { plain "[B" (some 0) with kind := .array 19 .byte, interfaces := #[16, 2], accessFlags := 1041 }

/-- the primitive char -/
def k21 : Class := { plain "char" none with kind := .primitive 'C', accessFlags := 0x411 }
/-- [C -/
def k22 : Class := { plain "[C" (some 0) with kind := .array 21 .char, interfaces := #[16, 2], accessFlags := 1041 }

/-- the primitive int -/
def k23 : Class := { plain "int" none with kind := .primitive 'I', accessFlags := 0x411 }
/-- [I -/
def k24 : Class := { plain "[I" (some 0) with kind := .array 23 .int, interfaces := #[16, 2], accessFlags := 1041 }

def heap : Heap := #[{ cls := 7, slots := #[.long 0, .int 1, .null, .int 0, .null, .int 0, .int 0], vm := .statics 7 },
  { cls := 9, slots := #[.null, .null, .null], vm := .statics 9 },
  { cls := 11, slots := #[.null, .ref 5, .ref 4, .ref 3], vm := .statics 11 },
  { cls := 18, slots := #[.int 0, .int 0, .int 0, .int 0, .int 0, .int 0, .int 0, .int 0, .int 0, .int 0, .int 0, .int 0, .int 0, .int 0, .int 0, .int 0, .int 0, .int 0, .int 0, .int 0, .int 0, .int 0, .int 0, .int 0, .int 0, .int 0, .int 0, .int 0, .int 0, .int 0, .int 0, .int 0, .int 0, .int 0, .int 0, .int 0, .int 0, .int 0, .int 0, .int 0, .int 0, .int 0, .int 0, .int 1, .int 0, .int 1, .int 1, .int 0, .int 1, .int 1, .int 1, .int 1, .int 1, .int 1, .int 1, .int 1, .int 1, .int 1, .int 0, .int 0, .int 0, .int 0, .int 0, .int 0, .int 0, .int 1, .int 1, .int 1, .int 1, .int 1, .int 1, .int 1, .int 1, .int 1, .int 1, .int 1, .int 1, .int 1, .int 1, .int 1, .int 1, .int 1, .int 1, .int 1, .int 1, .int 1, .int 1, .int 1, .int 1, .int 1, .int 1, .int 0, .int 0, .int 0, .int 0, .int 0, .int 0, .int 1, .int 1, .int 1, .int 1, .int 1, .int 1, .int 1, .int 1, .int 1, .int 1, .int 1, .int 1, .int 1, .int 1, .int 1, .int 1, .int 1, .int 1, .int 1, .int 1, .int 1, .int 1, .int 1, .int 1, .int 1, .int 1, .int 0, .int 0, .int 0, .int 0, .int 0], vm := .none },
  { cls := 18, slots := #[.int 0, .int 0, .int 0, .int 0, .int 0, .int 0, .int 0, .int 0, .int 0, .int 0, .int 0, .int 0, .int 0, .int 0, .int 0, .int 0, .int 0, .int 0, .int 0, .int 0, .int 0, .int 0, .int 0, .int 0, .int 0, .int 0, .int 0, .int 0, .int 0, .int 0, .int 0, .int 0, .int 0, .int 1, .int 0, .int 0, .int 1, .int 0, .int 1, .int 1, .int 1, .int 1, .int 1, .int 1, .int 1, .int 1, .int 1, .int 0, .int 1, .int 1, .int 1, .int 1, .int 1, .int 1, .int 1, .int 1, .int 1, .int 1, .int 1, .int 1, .int 0, .int 1, .int 0, .int 0, .int 1, .int 1, .int 1, .int 1, .int 1, .int 1, .int 1, .int 1, .int 1, .int 1, .int 1, .int 1, .int 1, .int 1, .int 1, .int 1, .int 1, .int 1, .int 1, .int 1, .int 1, .int 1, .int 1, .int 1, .int 1, .int 1, .int 1, .int 0, .int 0, .int 0, .int 0, .int 1, .int 0, .int 1, .int 1, .int 1, .int 1, .int 1, .int 1, .int 1, .int 1, .int 1, .int 1, .int 1, .int 1, .int 1, .int 1, .int 1, .int 1, .int 1, .int 1, .int 1, .int 1, .int 1, .int 1, .int 1, .int 1, .int 1, .int 1, .int 0, .int 0, .int 0, .int 1, .int 0], vm := .none },
  { cls := 22, slots := #[.int 48, .int 49, .int 50, .int 51, .int 52, .int 53, .int 54, .int 55, .int 56, .int 57, .int 65, .int 66, .int 67, .int 68, .int 69, .int 70], vm := .none }]
def classes : Array Class := #[k0, k1, k2, k3, k4, k5, k6, k7, k8, k9, k10, k11, k12, k13, k14, k15, k16, k17, k18, k19, k20, k21, k22, k23, k24]
def interned : List (Array UInt16 × Addr) := []
def slotsUsed : Nat := 286
def theMethod : MethodId := ⟨1, 1⟩
def args0 : Array Value := #[.int 48, .int 8, .int 16, .int 24, .int 33, .int 40]
def aboutOver (below : List Frame) : State where
  vm := { classes := classes, interned := interned.toArray }
  heap := heap
  slotsUsed := slotsUsed
  threads := #[{ frames := .invoking theMethod args0 :: below }]
def below0 : List Frame := [.native { method := ⟨0, 0⟩, args := #[] }]
def about1 : State := aboutOver below0
def p0 : Program := .bare "" "" ""
def e0 : Env := launch0.env 0 0 0
theorem w_frames : about1.frames = Frame.invoking theMethod args0 :: below0 := rfl
set_option maxRecDepth 65536 in
theorem w_args : argsFit about1.vm theMethod args0 = true := by decide +kernel
set_option maxRecDepth 65536 in
theorem w_heap : heapFits about1 = true := by decide +kernel
set_option maxRecDepth 65536 in
theorem w_runnable : about1.curStatus? = some .runnable := by decide +kernel
set_option maxRecDepth 65536 in
theorem w_alone : about1.alone = true := by decide +kernel
set_option maxRecDepth 65536 in
theorem w_named : about1.methodNamed? x = some theMethod := by decide +kernel
set_option maxRecDepth 65536 in
theorem w_hears : about1.hears theMethod below0 = true := by decide +kernel
set_option maxRecDepth 65536 in
theorem w_ripe : about1.ripe theMethod args0 below0 = true := by decide +kernel
theorem w_running : about1.status = .running := rfl
set_option maxRecDepth 65536 in
theorem w_room : about1.hasRoom e0.platform room_1 = true :=
  launch0.hasRoom_least _ room_1 (by decide +kernel) (by decide +kernel) (by decide +kernel) (by decide +kernel) (by decide +kernel) (by decide +kernel)
theorem allAtoms_all (ts : List Jvm.Cond) (a : Array Jvm.Value) (st : Jvm.State) : (allAtoms ts).before a st = ts.all (fun c => c.before a st) := by
  induction ts with
  | nil => rfl
  | cons c t ih =>
    show (Jvm.Cond.and c (allAtoms t)).before a st = _
    rw [Jvm.Cond.before_and, ih, List.all_cons]
def words1 : List Jvm.Cond := Jvm.Cond.code x code maxLocals ret :: tables_1
/-- a 'code' word, met by the world's own term for the bytes: nothing is compared byte by byte -/
theorem code_word {y : MethodName} {bytes : ByteArray} {mx : Nat} {rt : Option FieldType} {a : Array Value} {s : State} {m : MethodId} {meth : Method} {c : Code} (h1 : s.methodNamed? y = some m) (h2 : s.vm.method? m = some meth) (h3 : meth.code = some c) (h4 : c.code = bytes)
    (h5 : (c.maxLocals == mx && c.exceptionTable.isEmpty && decide (c.maxStack ≤ mostOperands) && decide (meth.sig.returnType = rt) && !meth.locks && decide (parseMethodDescriptor y.desc = some meth.sig)) = true) : (Jvm.Cond.code y bytes mx rt).before a s = true := by
  simp only [Bool.and_eq_true, beq_iff_eq, Bool.not_eq_true', decide_eq_true_eq] at h5
  obtain ⟨⟨⟨⟨⟨g1, g2⟩, g3⟩, g4⟩, g5⟩, g6⟩ := h5
  simp [Cond.before, Cond.holds, Cond.value, h1, h2, h3, h4, g1, g2, g3, g4, g5, g6]
def isCode : Jvm.Cond → Bool
  | .code _ _ _ _ => true
  | _ => false
theorem all_split {L : List Jvm.Cond} {P : Jvm.Cond → Bool} (h1 : L.all (fun c => isCode c || P c) = true) (h2 : ∀ c ∈ L.filter isCode, P c = true) : L.all P = true := by
  refine List.all_eq_true.mpr fun c hc => ?_
  have h := List.all_eq_true.mp h1 c hc
  rcases Bool.eq_false_or_eq_true (isCode c) with hi | hi
  · exact h2 c (List.mem_filter.mpr ⟨hc, hi⟩)
  · simpa [hi] using h
set_option maxRecDepth 65536 in
theorem w_c0 : (Jvm.Cond.code x code maxLocals ret).before args0 about1 = true := code_word (m := ⟨1, 1⟩) (meth := k1m1) (c := k1c1) (by decide +kernel) rfl rfl rfl (by decide +kernel)
set_option maxRecDepth 65536 in
theorem w_c1 : (Jvm.Cond.code ({ cls := "com/example/nameshelf/nameshelf/uri/InfoUriParsePinLaw", name := "up", desc := "(CI)C" } : Jvm.MethodName) method_5_code (2 : Nat) (Option.some Jvm.ClassFile.FieldType.char)).before args0 about1 = true := code_word (m := ⟨1, 4⟩) (meth := k1m4) (c := k1c4) (by decide +kernel) rfl rfl rfl (by decide +kernel)
set_option maxRecDepth 65536 in
theorem w_c2 : (Jvm.Cond.code ({ cls := "com/example/nameshelf/nameshelf/uri/InfoUriParsePinLaw", name := "nsUnit", desc := "([CIIZ)V" } : Jvm.MethodName) method_10_code (7 : Nat) (Option.none : Option Jvm.ClassFile.FieldType)).before args0 about1 = true := code_word (m := ⟨1, 9⟩) (meth := k1m9) (c := k1c9) (by decide +kernel) rfl rfl rfl (by decide +kernel)
set_option maxRecDepth 65536 in
theorem w_c3 : (Jvm.Cond.code ({ cls := "com/example/nameshelf/nameshelf/uri/InfoUriParsePinLaw", name := "nsChar", desc := "(I)C" } : Jvm.MethodName) method_4_code (1 : Nat) (Option.some Jvm.ClassFile.FieldType.char)).before args0 about1 = true := code_word (m := ⟨1, 3⟩) (meth := k1m3) (c := k1c3) (by decide +kernel) rfl rfl rfl (by decide +kernel)
set_option maxRecDepth 65536 in
theorem w_c4 : (Jvm.Cond.code ({ cls := "java/lang/String", name := "charAt", desc := "(I)C" } : Jvm.MethodName) jdk_42_method_56_code (2 : Nat) (Option.some Jvm.ClassFile.FieldType.char)).before args0 about1 = true := code_word (m := ⟨7, 5⟩) (meth := k7m5) (c := k7c5) (by decide +kernel) rfl rfl rfl (by decide +kernel)
set_option maxRecDepth 65536 in
theorem w_c5 : (Jvm.Cond.code ({ cls := "java/lang/String", name := "isLatin1", desc := "()Z" } : Jvm.MethodName) jdk_42_method_154_code (1 : Nat) (Option.some Jvm.ClassFile.FieldType.boolean)).before args0 about1 = true := code_word (m := ⟨7, 11⟩) (meth := k7m11) (c := k7c11) (by decide +kernel) rfl rfl rfl (by decide +kernel)
set_option maxRecDepth 65536 in
theorem w_c6 : (Jvm.Cond.code ({ cls := "java/lang/StringLatin1", name := "charAt", desc := "([BI)C" } : Jvm.MethodName) jdk_43_method_2_code (2 : Nat) (Option.some Jvm.ClassFile.FieldType.char)).before args0 about1 = true := code_word (m := ⟨8, 1⟩) (meth := k8m1) (c := k8c1) (by decide +kernel) rfl rfl rfl (by decide +kernel)
set_option maxRecDepth 65536 in
theorem w_c7 : (Jvm.Cond.code ({ cls := "java/lang/String", name := "checkIndex", desc := "(II)V" } : Jvm.MethodName) jdk_42_method_155_code (2 : Nat) (Option.none : Option Jvm.ClassFile.FieldType)).before args0 about1 = true := code_word (m := ⟨7, 12⟩) (meth := k7m12) (c := k7c12) (by decide +kernel) rfl rfl rfl (by decide +kernel)
set_option maxRecDepth 65536 in
theorem w_c8 : (Jvm.Cond.code ({ cls := "jdk/internal/util/Preconditions", name := "checkIndex", desc := "(IILjava/util/function/BiFunction;)I" } : Jvm.MethodName) jdk_41_method_11_code (3 : Nat) (Option.some Jvm.ClassFile.FieldType.int)).before args0 about1 = true := code_word (m := ⟨9, 1⟩) (meth := k9m1) (c := k9c1) (by decide +kernel) rfl rfl rfl (by decide +kernel)
set_option maxRecDepth 65536 in
theorem w_c9 : (Jvm.Cond.code ({ cls := "com/example/nameshelf/nameshelf/uri/InfoUriParsePinLaw", name := "hex", desc := "(II)C" } : Jvm.MethodName) method_7_code (2 : Nat) (Option.some Jvm.ClassFile.FieldType.char)).before args0 about1 = true := code_word (m := ⟨1, 6⟩) (meth := k1m6) (c := k1c6) (by decide +kernel) rfl rfl rfl (by decide +kernel)
set_option maxRecDepth 65536 in
theorem w_c10 : (Jvm.Cond.code ({ cls := "java/lang/String", name := "<init>", desc := "([C)V" } : Jvm.MethodName) jdk_42_method_3_code (2 : Nat) (Option.none : Option Jvm.ClassFile.FieldType)).before args0 about1 = true := code_word (m := ⟨7, 1⟩) (meth := k7m1) (c := k7c1) (by decide +kernel) rfl rfl rfl (by decide +kernel)
set_option maxRecDepth 65536 in
theorem w_c11 : (Jvm.Cond.code ({ cls := "java/lang/String", name := "<init>", desc := "([CIILjava/lang/Void;)V" } : Jvm.MethodName) jdk_42_method_149_code (6 : Nat) (Option.none : Option Jvm.ClassFile.FieldType)).before args0 about1 = true := code_word (m := ⟨7, 8⟩) (meth := k7m8) (c := k7c8) (by decide +kernel) rfl rfl rfl (by decide +kernel)
set_option maxRecDepth 65536 in
theorem w_c12 : (Jvm.Cond.code ({ cls := "java/lang/Object", name := "<init>", desc := "()V" } : Jvm.MethodName) object_method_1_code (1 : Nat) (Option.none : Option Jvm.ClassFile.FieldType)).before args0 about1 = true := code_word (m := ⟨0, 0⟩) (meth := k0m0) (c := k0c0) (by decide +kernel) rfl rfl rfl (by decide +kernel)
set_option maxRecDepth 65536 in
theorem w_c13 : (Jvm.Cond.code ({ cls := "java/lang/StringUTF16", name := "compress", desc := "([CII)[B" } : Jvm.MethodName) jdk_52_method_16_code (6 : Nat) (Option.some (Jvm.ClassFile.FieldType.array Jvm.ClassFile.FieldType.byte))).before args0 about1 = true := code_word (m := ⟨10, 2⟩) (meth := k10m2) (c := k10c2) (by decide +kernel) rfl rfl rfl (by decide +kernel)
set_option maxRecDepth 65536 in
theorem w_c14 : (Jvm.Cond.code ({ cls := "java/lang/StringUTF16", name := "compress", desc := "([CI[BII)I" } : Jvm.MethodName) jdk_52_method_21_code (7 : Nat) (Option.some Jvm.ClassFile.FieldType.int)).before args0 about1 = true := code_word (m := ⟨10, 3⟩) (meth := k10m3) (c := k10c3) (by decide +kernel) rfl rfl rfl (by decide +kernel)
set_option maxRecDepth 65536 in
theorem w_c15 : (Jvm.Cond.code ({ cls := "java/lang/StringUTF16", name := "coderFromArrayLen", desc := "([BI)B" } : Jvm.MethodName) jdk_52_method_15_code (2 : Nat) (Option.some Jvm.ClassFile.FieldType.byte)).before args0 about1 = true := code_word (m := ⟨10, 1⟩) (meth := k10m1) (c := k10c1) (by decide +kernel) rfl rfl rfl (by decide +kernel)
set_option maxRecDepth 65536 in
theorem w_c16 : (Jvm.Cond.code ({ cls := "com/example/nameshelf/nameshelf/uri/InfoUri", name := "parse", desc := "(Ljava/lang/CharSequence;)Lcom/example/nameshelf/nameshelf/uri/InfoUri;" } : Jvm.MethodName) prog_62_method_2_code (8 : Nat) (Option.some (Jvm.ClassFile.FieldType.object "com/example/nameshelf/nameshelf/uri/InfoUri"))).before args0 about1 = true := code_word (m := ⟨11, 1⟩) (meth := k11m1) (c := k11c1) (by decide +kernel) rfl rfl rfl (by decide +kernel)
set_option maxRecDepth 65536 in
theorem w_c17 : (Jvm.Cond.code ({ cls := "java/lang/String", name := "length", desc := "()I" } : Jvm.MethodName) jdk_42_method_54_code (1 : Nat) (Option.some Jvm.ClassFile.FieldType.int)).before args0 about1 = true := code_word (m := ⟨7, 4⟩) (meth := k7m4) (c := k7c4) (by decide +kernel) rfl rfl rfl (by decide +kernel)
set_option maxRecDepth 65536 in
theorem w_c18 : (Jvm.Cond.code ({ cls := "java/lang/String", name := "coder", desc := "()B" } : Jvm.MethodName) jdk_42_method_152_code (1 : Nat) (Option.some Jvm.ClassFile.FieldType.byte)).before args0 about1 = true := code_word (m := ⟨7, 10⟩) (meth := k7m10) (c := k7c10) (by decide +kernel) rfl rfl rfl (by decide +kernel)
set_option maxRecDepth 65536 in
theorem w_c19 : (Jvm.Cond.code ({ cls := "com/example/nameshelf/nameshelf/uri/InfoUri", name := "startsWithScheme", desc := "(Ljava/lang/CharSequence;)Z" } : Jvm.MethodName) prog_62_method_14_code (2 : Nat) (Option.some Jvm.ClassFile.FieldType.boolean)).before args0 about1 = true := code_word (m := ⟨11, 6⟩) (meth := k11m6) (c := k11c6) (by decide +kernel) rfl rfl rfl (by decide +kernel)
set_option maxRecDepth 65536 in
theorem w_c20 : (Jvm.Cond.code ({ cls := "com/example/nameshelf/nameshelf/uri/InfoUri", name := "lowerAscii", desc := "(I)I" } : Jvm.MethodName) prog_62_method_20_code (1 : Nat) (Option.some Jvm.ClassFile.FieldType.int)).before args0 about1 = true := code_word (m := ⟨11, 11⟩) (meth := k11m11) (c := k11c11) (by decide +kernel) rfl rfl rfl (by decide +kernel)
set_option maxRecDepth 65536 in
theorem w_c21 : (Jvm.Cond.code ({ cls := "com/example/nameshelf/nameshelf/uri/InfoUri", name := "isLetter", desc := "(I)Z" } : Jvm.MethodName) prog_62_method_19_code (1 : Nat) (Option.some Jvm.ClassFile.FieldType.boolean)).before args0 about1 = true := code_word (m := ⟨11, 10⟩) (meth := k11m10) (c := k11c10) (by decide +kernel) rfl rfl rfl (by decide +kernel)
set_option maxRecDepth 65536 in
theorem w_c22 : (Jvm.Cond.code ({ cls := "java/lang/String", name := "getChars", desc := "(II[CI)V" } : Jvm.MethodName) jdk_42_method_61_code (5 : Nat) (Option.none : Option Jvm.ClassFile.FieldType)).before args0 about1 = true := code_word (m := ⟨7, 6⟩) (meth := k7m6) (c := k7c6) (by decide +kernel) rfl rfl rfl (by decide +kernel)
set_option maxRecDepth 65536 in
theorem w_c23 : (Jvm.Cond.code ({ cls := "java/lang/String", name := "checkBoundsBeginEnd", desc := "(III)V" } : Jvm.MethodName) jdk_42_method_158_code (3 : Nat) (Option.none : Option Jvm.ClassFile.FieldType)).before args0 about1 = true := code_word (m := ⟨7, 14⟩) (meth := k7m14) (c := k7c14) (by decide +kernel) rfl rfl rfl (by decide +kernel)
set_option maxRecDepth 65536 in
theorem w_c24 : (Jvm.Cond.code ({ cls := "jdk/internal/util/Preconditions", name := "checkFromToIndex", desc := "(IIILjava/util/function/BiFunction;)I" } : Jvm.MethodName) jdk_41_method_12_code (4 : Nat) (Option.some Jvm.ClassFile.FieldType.int)).before args0 about1 = true := code_word (m := ⟨9, 2⟩) (meth := k9m2) (c := k9c2) (by decide +kernel) rfl rfl rfl (by decide +kernel)
set_option maxRecDepth 65536 in
theorem w_c25 : (Jvm.Cond.code ({ cls := "java/lang/String", name := "checkBoundsOffCount", desc := "(III)I" } : Jvm.MethodName) jdk_42_method_157_code (3 : Nat) (Option.some Jvm.ClassFile.FieldType.int)).before args0 about1 = true := code_word (m := ⟨7, 13⟩) (meth := k7m13) (c := k7c13) (by decide +kernel) rfl rfl rfl (by decide +kernel)
set_option maxRecDepth 65536 in
theorem w_c26 : (Jvm.Cond.code ({ cls := "jdk/internal/util/Preconditions", name := "checkFromIndexSize", desc := "(IIILjava/util/function/BiFunction;)I" } : Jvm.MethodName) jdk_41_method_13_code (4 : Nat) (Option.some Jvm.ClassFile.FieldType.int)).before args0 about1 = true := code_word (m := ⟨9, 3⟩) (meth := k9m3) (c := k9c3) (by decide +kernel) rfl rfl rfl (by decide +kernel)
set_option maxRecDepth 65536 in
theorem w_c27 : (Jvm.Cond.code ({ cls := "java/lang/StringLatin1", name := "getChars", desc := "([BII[CI)V" } : Jvm.MethodName) jdk_43_method_11_code (5 : Nat) (Option.none : Option Jvm.ClassFile.FieldType)).before args0 about1 = true := code_word (m := ⟨8, 2⟩) (meth := k8m2) (c := k8c2) (by decide +kernel) rfl rfl rfl (by decide +kernel)
set_option maxRecDepth 65536 in
theorem w_c28 : (Jvm.Cond.code ({ cls := "java/lang/StringLatin1", name := "inflate", desc := "([BI[CII)V" } : Jvm.MethodName) jdk_43_method_49_code (6 : Nat) (Option.none : Option Jvm.ClassFile.FieldType)).before args0 about1 = true := code_word (m := ⟨8, 4⟩) (meth := k8m4) (c := k8c4) (by decide +kernel) rfl rfl rfl (by decide +kernel)
set_option maxRecDepth 65536 in
theorem w_c29 : (Jvm.Cond.code ({ cls := "com/example/nameshelf/nameshelf/uri/InfoUri", name := "escapedByte", desc := "(Ljava/lang/CharSequence;I)I" } : Jvm.MethodName) prog_62_method_15_code (4 : Nat) (Option.some Jvm.ClassFile.FieldType.int)).before args0 about1 = true := code_word (m := ⟨11, 7⟩) (meth := k11m7) (c := k11c7) (by decide +kernel) rfl rfl rfl (by decide +kernel)
set_option maxRecDepth 65536 in
theorem w_c30 : (Jvm.Cond.code ({ cls := "com/example/nameshelf/nameshelf/uri/InfoUri", name := "hexValue", desc := "(C)I" } : Jvm.MethodName) prog_62_method_17_code (2 : Nat) (Option.some Jvm.ClassFile.FieldType.int)).before args0 about1 = true := code_word (m := ⟨11, 8⟩) (meth := k11m8) (c := k11c8) (by decide +kernel) rfl rfl rfl (by decide +kernel)
set_option maxRecDepth 65536 in
theorem w_c31 : (Jvm.Cond.code ({ cls := "com/example/nameshelf/nameshelf/uri/InfoUri", name := "isDigit", desc := "(I)Z" } : Jvm.MethodName) prog_62_method_21_code (1 : Nat) (Option.some Jvm.ClassFile.FieldType.boolean)).before args0 about1 = true := code_word (m := ⟨11, 12⟩) (meth := k11m12) (c := k11c12) (by decide +kernel) rfl rfl rfl (by decide +kernel)
set_option maxRecDepth 65536 in
theorem w_c32 : (Jvm.Cond.code ({ cls := "com/example/nameshelf/nameshelf/uri/InfoUri", name := "isNamespaceCharacter", desc := "(I)Z" } : Jvm.MethodName) prog_62_method_18_code (1 : Nat) (Option.some Jvm.ClassFile.FieldType.boolean)).before args0 about1 = true := code_word (m := ⟨11, 9⟩) (meth := k11m9) (c := k11c9) (by decide +kernel) rfl rfl rfl (by decide +kernel)
set_option maxRecDepth 65536 in
theorem w_c33 : (Jvm.Cond.code ({ cls := "java/lang/String", name := "<init>", desc := "([CII)V" } : Jvm.MethodName) jdk_42_method_4_code (4 : Nat) (Option.none : Option Jvm.ClassFile.FieldType)).before args0 about1 = true := code_word (m := ⟨7, 2⟩) (meth := k7m2) (c := k7c2) (by decide +kernel) rfl rfl rfl (by decide +kernel)
set_option maxRecDepth 65536 in
theorem w_c34 : (Jvm.Cond.code ({ cls := "java/lang/String", name := "rangeCheck", desc := "([CII)Ljava/lang/Void;" } : Jvm.MethodName) jdk_42_method_5_code (3 : Nat) (Option.some (Jvm.ClassFile.FieldType.object "java/lang/Void"))).before args0 about1 = true := code_word (m := ⟨7, 3⟩) (meth := k7m3) (c := k7c3) (by decide +kernel) rfl rfl rfl (by decide +kernel)
set_option maxRecDepth 65536 in
theorem w_c35 : (Jvm.Cond.code ({ cls := "com/example/nameshelf/nameshelf/uri/InfoUri", name := "<init>", desc := "(Ljava/lang/String;II)V" } : Jvm.MethodName) prog_62_method_1_code (4 : Nat) (Option.none : Option Jvm.ClassFile.FieldType)).before args0 about1 = true := code_word (m := ⟨11, 0⟩) (meth := k11m0) (c := k11c0) (by decide +kernel) rfl rfl rfl (by decide +kernel)
set_option maxRecDepth 65536 in
theorem w_c36 : (Jvm.Cond.code ({ cls := "com/example/nameshelf/nameshelf/uri/InfoUri", name := "toString", desc := "()Ljava/lang/String;" } : Jvm.MethodName) prog_62_method_11_code (1 : Nat) (Option.some (Jvm.ClassFile.FieldType.object "java/lang/String"))).before args0 about1 = true := code_word (m := ⟨11, 4⟩) (meth := k11m4) (c := k11c4) (by decide +kernel) rfl rfl rfl (by decide +kernel)
set_option maxRecDepth 65536 in
theorem w_c37 : (Jvm.Cond.code ({ cls := "com/example/nameshelf/nameshelf/uri/InfoUriParsePinLaw", name := "m", desc := "(Ljava/lang/String;IC)I" } : Jvm.MethodName) method_9_code (3 : Nat) (Option.some Jvm.ClassFile.FieldType.int)).before args0 about1 = true := code_word (m := ⟨1, 8⟩) (meth := k1m8) (c := k1c8) (by decide +kernel) rfl rfl rfl (by decide +kernel)
set_option maxRecDepth 65536 in
theorem w_c38 : (Jvm.Cond.code ({ cls := "com/example/nameshelf/nameshelf/uri/InfoUriParsePinLaw", name := "nsExp", desc := "(Ljava/lang/String;IIZ)I" } : Jvm.MethodName) method_11_code (7 : Nat) (Option.some Jvm.ClassFile.FieldType.int)).before args0 about1 = true := code_word (m := ⟨1, 10⟩) (meth := k1m10) (c := k1c10) (by decide +kernel) rfl rfl rfl (by decide +kernel)
set_option maxRecDepth 65536 in
theorem w_c39 : (Jvm.Cond.code ({ cls := "com/example/nameshelf/nameshelf/uri/InfoUriParsePinLaw", name := "lower", desc := "(C)C" } : Jvm.MethodName) method_6_code (1 : Nat) (Option.some Jvm.ClassFile.FieldType.char)).before args0 about1 = true := code_word (m := ⟨1, 5⟩) (meth := k1m5) (c := k1c5) (by decide +kernel) rfl rfl rfl (by decide +kernel)
set_option maxRecDepth 65536 in
theorem w_c40 : (Jvm.Cond.code ({ cls := "com/example/nameshelf/nameshelf/uri/InfoUri", name := "namespace", desc := "()Ljava/lang/String;" } : Jvm.MethodName) prog_62_method_6_code (1 : Nat) (Option.some (Jvm.ClassFile.FieldType.object "java/lang/String"))).before args0 about1 = true := code_word (m := ⟨11, 2⟩) (meth := k11m2) (c := k11c2) (by decide +kernel) rfl rfl rfl (by decide +kernel)
set_option maxRecDepth 65536 in
theorem w_c41 : (Jvm.Cond.code ({ cls := "java/lang/String", name := "substring", desc := "(II)Ljava/lang/String;" } : Jvm.MethodName) jdk_42_method_92_code (5 : Nat) (Option.some (Jvm.ClassFile.FieldType.object "java/lang/String"))).before args0 about1 = true := code_word (m := ⟨7, 7⟩) (meth := k7m7) (c := k7c7) (by decide +kernel) rfl rfl rfl (by decide +kernel)
set_option maxRecDepth 65536 in
theorem w_c42 : (Jvm.Cond.code ({ cls := "java/lang/StringLatin1", name := "newString", desc := "([BII)Ljava/lang/String;" } : Jvm.MethodName) jdk_43_method_47_code (3 : Nat) (Option.some (Jvm.ClassFile.FieldType.object "java/lang/String"))).before args0 about1 = true := code_word (m := ⟨8, 3⟩) (meth := k8m3) (c := k8c3) (by decide +kernel) rfl rfl rfl (by decide +kernel)
set_option maxRecDepth 65536 in
theorem w_c43 : (Jvm.Cond.code ({ cls := "java/util/Arrays", name := "copyOfRange", desc := "([BII)[B" } : Jvm.MethodName) jdk_65_method_132_code (3 : Nat) (Option.some (Jvm.ClassFile.FieldType.array Jvm.ClassFile.FieldType.byte))).before args0 about1 = true := code_word (m := ⟨12, 2⟩) (meth := k12m2) (c := k12c2) (by decide +kernel) rfl rfl rfl (by decide +kernel)
set_option maxRecDepth 65536 in
theorem w_c44 : (Jvm.Cond.code ({ cls := "java/util/Arrays", name := "copyOfRangeByte", desc := "([BII)[B" } : Jvm.MethodName) jdk_65_method_133_code (5 : Nat) (Option.some (Jvm.ClassFile.FieldType.array Jvm.ClassFile.FieldType.byte))).before args0 about1 = true := code_word (m := ⟨12, 3⟩) (meth := k12m3) (c := k12c3) (by decide +kernel) rfl rfl rfl (by decide +kernel)
set_option maxRecDepth 65536 in
theorem w_c45 : (Jvm.Cond.code ({ cls := "java/util/Arrays", name := "checkLength", desc := "(II)V" } : Jvm.MethodName) jdk_65_method_131_code (2 : Nat) (Option.none : Option Jvm.ClassFile.FieldType)).before args0 about1 = true := code_word (m := ⟨12, 1⟩) (meth := k12m1) (c := k12c1) (by decide +kernel) rfl rfl rfl (by decide +kernel)
set_option maxRecDepth 65536 in
theorem w_c46 : (Jvm.Cond.code ({ cls := "java/lang/Math", name := "min", desc := "(II)I" } : Jvm.MethodName) jdk_29_method_69_code (2 : Nat) (Option.some Jvm.ClassFile.FieldType.int)).before args0 about1 = true := code_word (m := ⟨13, 1⟩) (meth := k13m1) (c := k13c1) (by decide +kernel) rfl rfl rfl (by decide +kernel)
set_option maxRecDepth 65536 in
theorem w_c47 : (Jvm.Cond.code ({ cls := "java/lang/String", name := "<init>", desc := "([BB)V" } : Jvm.MethodName) jdk_42_method_151_code (3 : Nat) (Option.none : Option Jvm.ClassFile.FieldType)).before args0 about1 = true := code_word (m := ⟨7, 9⟩) (meth := k7m9) (c := k7c9) (by decide +kernel) rfl rfl rfl (by decide +kernel)
set_option maxRecDepth 65536 in
theorem w_c48 : (Jvm.Cond.code ({ cls := "com/example/nameshelf/nameshelf/uri/InfoUri", name := "identifier", desc := "()Ljava/lang/String;" } : Jvm.MethodName) prog_62_method_7_code (1 : Nat) (Option.some (Jvm.ClassFile.FieldType.object "java/lang/String"))).before args0 about1 = true := code_word (m := ⟨11, 3⟩) (meth := k11m3) (c := k11c3) (by decide +kernel) rfl rfl rfl (by decide +kernel)
set_option maxRecDepth 65536 in
theorem w_c49 : (Jvm.Cond.code ({ cls := "com/example/nameshelf/nameshelf/uri/InfoUriParsePinLaw", name := "unit", desc := "([CIII)V" } : Jvm.MethodName) method_12_code (6 : Nat) (Option.none : Option Jvm.ClassFile.FieldType)).before args0 about1 = true := code_word (m := ⟨1, 11⟩) (meth := k1m11) (c := k1c11) (by decide +kernel) rfl rfl rfl (by decide +kernel)
set_option maxRecDepth 65536 in
theorem w_c50 : (Jvm.Cond.code ({ cls := "com/example/nameshelf/nameshelf/uri/InfoUriParsePinLaw", name := "rawChar", desc := "(I)C" } : Jvm.MethodName) method_3_code (1 : Nat) (Option.some Jvm.ClassFile.FieldType.char)).before args0 about1 = true := code_word (m := ⟨1, 2⟩) (meth := k1m2) (c := k1c2) (by decide +kernel) rfl rfl rfl (by decide +kernel)
set_option maxRecDepth 65536 in
theorem w_c51 : (Jvm.Cond.code ({ cls := "com/example/nameshelf/nameshelf/uri/InfoUri", name := "putByte", desc := "([CII)I" } : Jvm.MethodName) prog_62_method_13_code (4 : Nat) (Option.some Jvm.ClassFile.FieldType.int)).before args0 about1 = true := code_word (m := ⟨11, 5⟩) (meth := k11m5) (c := k11c5) (by decide +kernel) rfl rfl rfl (by decide +kernel)
set_option maxRecDepth 65536 in
theorem w_c52 : (Jvm.Cond.code ({ cls := "com/example/nameshelf/nameshelf/uri/InfoUriParsePinLaw", name := "exp", desc := "(Ljava/lang/String;III)I" } : Jvm.MethodName) method_13_code (6 : Nat) (Option.some Jvm.ClassFile.FieldType.int)).before args0 about1 = true := code_word (m := ⟨1, 12⟩) (meth := k1m12) (c := k1c12) (by decide +kernel) rfl rfl rfl (by decide +kernel)
set_option maxRecDepth 65536 in
theorem w_c53 : (Jvm.Cond.code ({ cls := "com/example/nameshelf/nameshelf/uri/InfoUriParsePinLaw", name := "pchar", desc := "(I)Z" } : Jvm.MethodName) method_8_code (1 : Nat) (Option.some Jvm.ClassFile.FieldType.boolean)).before args0 about1 = true := code_word (m := ⟨1, 7⟩) (meth := k1m7) (c := k1c7) (by decide +kernel) rfl rfl rfl (by decide +kernel)
def codes1 : List Jvm.Cond := [Jvm.Cond.code x code maxLocals ret, Jvm.Cond.code ({ cls := "com/example/nameshelf/nameshelf/uri/InfoUriParsePinLaw", name := "up", desc := "(CI)C" } : Jvm.MethodName) method_5_code (2 : Nat) (Option.some Jvm.ClassFile.FieldType.char), Jvm.Cond.code ({ cls := "com/example/nameshelf/nameshelf/uri/InfoUriParsePinLaw", name := "nsUnit", desc := "([CIIZ)V" } : Jvm.MethodName) method_10_code (7 : Nat) (Option.none : Option Jvm.ClassFile.FieldType), Jvm.Cond.code ({ cls := "com/example/nameshelf/nameshelf/uri/InfoUriParsePinLaw", name := "nsChar", desc := "(I)C" } : Jvm.MethodName) method_4_code (1 : Nat) (Option.some Jvm.ClassFile.FieldType.char), Jvm.Cond.code ({ cls := "java/lang/String", name := "charAt", desc := "(I)C" } : Jvm.MethodName) jdk_42_method_56_code (2 : Nat) (Option.some Jvm.ClassFile.FieldType.char), Jvm.Cond.code ({ cls := "java/lang/String", name := "isLatin1", desc := "()Z" } : Jvm.MethodName) jdk_42_method_154_code (1 : Nat) (Option.some Jvm.ClassFile.FieldType.boolean), Jvm.Cond.code ({ cls := "java/lang/StringLatin1", name := "charAt", desc := "([BI)C" } : Jvm.MethodName) jdk_43_method_2_code (2 : Nat) (Option.some Jvm.ClassFile.FieldType.char), Jvm.Cond.code ({ cls := "java/lang/String", name := "checkIndex", desc := "(II)V" } : Jvm.MethodName) jdk_42_method_155_code (2 : Nat) (Option.none : Option Jvm.ClassFile.FieldType), Jvm.Cond.code ({ cls := "jdk/internal/util/Preconditions", name := "checkIndex", desc := "(IILjava/util/function/BiFunction;)I" } : Jvm.MethodName) jdk_41_method_11_code (3 : Nat) (Option.some Jvm.ClassFile.FieldType.int), Jvm.Cond.code ({ cls := "com/example/nameshelf/nameshelf/uri/InfoUriParsePinLaw", name := "hex", desc := "(II)C" } : Jvm.MethodName) method_7_code (2 : Nat) (Option.some Jvm.ClassFile.FieldType.char), Jvm.Cond.code ({ cls := "java/lang/String", name := "<init>", desc := "([C)V" } : Jvm.MethodName) jdk_42_method_3_code (2 : Nat) (Option.none : Option Jvm.ClassFile.FieldType), Jvm.Cond.code ({ cls := "java/lang/String", name := "<init>", desc := "([CIILjava/lang/Void;)V" } : Jvm.MethodName) jdk_42_method_149_code (6 : Nat) (Option.none : Option Jvm.ClassFile.FieldType), Jvm.Cond.code ({ cls := "java/lang/Object", name := "<init>", desc := "()V" } : Jvm.MethodName) object_method_1_code (1 : Nat) (Option.none : Option Jvm.ClassFile.FieldType), Jvm.Cond.code ({ cls := "java/lang/StringUTF16", name := "compress", desc := "([CII)[B" } : Jvm.MethodName) jdk_52_method_16_code (6 : Nat) (Option.some (Jvm.ClassFile.FieldType.array Jvm.ClassFile.FieldType.byte)), Jvm.Cond.code ({ cls := "java/lang/StringUTF16", name := "compress", desc := "([CI[BII)I" } : Jvm.MethodName) jdk_52_method_21_code (7 : Nat) (Option.some Jvm.ClassFile.FieldType.int), Jvm.Cond.code ({ cls := "java/lang/StringUTF16", name := "coderFromArrayLen", desc := "([BI)B" } : Jvm.MethodName) jdk_52_method_15_code (2 : Nat) (Option.some Jvm.ClassFile.FieldType.byte), Jvm.Cond.code ({ cls := "com/example/nameshelf/nameshelf/uri/InfoUri", name := "parse", desc := "(Ljava/lang/CharSequence;)Lcom/example/nameshelf/nameshelf/uri/InfoUri;" } : Jvm.MethodName) prog_62_method_2_code (8 : Nat) (Option.some (Jvm.ClassFile.FieldType.object "com/example/nameshelf/nameshelf/uri/InfoUri")), Jvm.Cond.code ({ cls := "java/lang/String", name := "length", desc := "()I" } : Jvm.MethodName) jdk_42_method_54_code (1 : Nat) (Option.some Jvm.ClassFile.FieldType.int), Jvm.Cond.code ({ cls := "java/lang/String", name := "coder", desc := "()B" } : Jvm.MethodName) jdk_42_method_152_code (1 : Nat) (Option.some Jvm.ClassFile.FieldType.byte), Jvm.Cond.code ({ cls := "com/example/nameshelf/nameshelf/uri/InfoUri", name := "startsWithScheme", desc := "(Ljava/lang/CharSequence;)Z" } : Jvm.MethodName) prog_62_method_14_code (2 : Nat) (Option.some Jvm.ClassFile.FieldType.boolean), Jvm.Cond.code ({ cls := "com/example/nameshelf/nameshelf/uri/InfoUri", name := "lowerAscii", desc := "(I)I" } : Jvm.MethodName) prog_62_method_20_code (1 : Nat) (Option.some Jvm.ClassFile.FieldType.int), Jvm.Cond.code ({ cls := "com/example/nameshelf/nameshelf/uri/InfoUri", name := "isLetter", desc := "(I)Z" } : Jvm.MethodName) prog_62_method_19_code (1 : Nat) (Option.some Jvm.ClassFile.FieldType.boolean), Jvm.Cond.code ({ cls := "java/lang/String", name := "getChars", desc := "(II[CI)V" } : Jvm.MethodName) jdk_42_method_61_code (5 : Nat) (Option.none : Option Jvm.ClassFile.FieldType), Jvm.Cond.code ({ cls := "java/lang/String", name := "checkBoundsBeginEnd", desc := "(III)V" } : Jvm.MethodName) jdk_42_method_158_code (3 : Nat) (Option.none : Option Jvm.ClassFile.FieldType), Jvm.Cond.code ({ cls := "jdk/internal/util/Preconditions", name := "checkFromToIndex", desc := "(IIILjava/util/function/BiFunction;)I" } : Jvm.MethodName) jdk_41_method_12_code (4 : Nat) (Option.some Jvm.ClassFile.FieldType.int), Jvm.Cond.code ({ cls := "java/lang/String", name := "checkBoundsOffCount", desc := "(III)I" } : Jvm.MethodName) jdk_42_method_157_code (3 : Nat) (Option.some Jvm.ClassFile.FieldType.int), Jvm.Cond.code ({ cls := "jdk/internal/util/Preconditions", name := "checkFromIndexSize", desc := "(IIILjava/util/function/BiFunction;)I" } : Jvm.MethodName) jdk_41_method_13_code (4 : Nat) (Option.some Jvm.ClassFile.FieldType.int), Jvm.Cond.code ({ cls := "java/lang/StringLatin1", name := "getChars", desc := "([BII[CI)V" } : Jvm.MethodName) jdk_43_method_11_code (5 : Nat) (Option.none : Option Jvm.ClassFile.FieldType), Jvm.Cond.code ({ cls := "java/lang/StringLatin1", name := "inflate", desc := "([BI[CII)V" } : Jvm.MethodName) jdk_43_method_49_code (6 : Nat) (Option.none : Option Jvm.ClassFile.FieldType), Jvm.Cond.code ({ cls := "com/example/nameshelf/nameshelf/uri/InfoUri", name := "escapedByte", desc := "(Ljava/lang/CharSequence;I)I" } : Jvm.MethodName) prog_62_method_15_code (4 : Nat) (Option.some Jvm.ClassFile.FieldType.int), Jvm.Cond.code ({ cls := "com/example/nameshelf/nameshelf/uri/InfoUri", name := "hexValue", desc := "(C)I" } : Jvm.MethodName) prog_62_method_17_code (2 : Nat) (Option.some Jvm.ClassFile.FieldType.int), Jvm.Cond.code ({ cls := "com/example/nameshelf/nameshelf/uri/InfoUri", name := "isDigit", desc := "(I)Z" } : Jvm.MethodName) prog_62_method_21_code (1 : Nat) (Option.some Jvm.ClassFile.FieldType.boolean), Jvm.Cond.code ({ cls := "com/example/nameshelf/nameshelf/uri/InfoUri", name := "isNamespaceCharacter", desc := "(I)Z" } : Jvm.MethodName) prog_62_method_18_code (1 : Nat) (Option.some Jvm.ClassFile.FieldType.boolean), Jvm.Cond.code ({ cls := "java/lang/String", name := "<init>", desc := "([CII)V" } : Jvm.MethodName) jdk_42_method_4_code (4 : Nat) (Option.none : Option Jvm.ClassFile.FieldType), Jvm.Cond.code ({ cls := "java/lang/String", name := "rangeCheck", desc := "([CII)Ljava/lang/Void;" } : Jvm.MethodName) jdk_42_method_5_code (3 : Nat) (Option.some (Jvm.ClassFile.FieldType.object "java/lang/Void")), Jvm.Cond.code ({ cls := "com/example/nameshelf/nameshelf/uri/InfoUri", name := "<init>", desc := "(Ljava/lang/String;II)V" } : Jvm.MethodName) prog_62_method_1_code (4 : Nat) (Option.none : Option Jvm.ClassFile.FieldType), Jvm.Cond.code ({ cls := "com/example/nameshelf/nameshelf/uri/InfoUri", name := "toString", desc := "()Ljava/lang/String;" } : Jvm.MethodName) prog_62_method_11_code (1 : Nat) (Option.some (Jvm.ClassFile.FieldType.object "java/lang/String")), Jvm.Cond.code ({ cls := "com/example/nameshelf/nameshelf/uri/InfoUriParsePinLaw", name := "m", desc := "(Ljava/lang/String;IC)I" } : Jvm.MethodName) method_9_code (3 : Nat) (Option.some Jvm.ClassFile.FieldType.int), Jvm.Cond.code ({ cls := "com/example/nameshelf/nameshelf/uri/InfoUriParsePinLaw", name := "nsExp", desc := "(Ljava/lang/String;IIZ)I" } : Jvm.MethodName) method_11_code (7 : Nat) (Option.some Jvm.ClassFile.FieldType.int), Jvm.Cond.code ({ cls := "com/example/nameshelf/nameshelf/uri/InfoUriParsePinLaw", name := "lower", desc := "(C)C" } : Jvm.MethodName) method_6_code (1 : Nat) (Option.some Jvm.ClassFile.FieldType.char), Jvm.Cond.code ({ cls := "com/example/nameshelf/nameshelf/uri/InfoUri", name := "namespace", desc := "()Ljava/lang/String;" } : Jvm.MethodName) prog_62_method_6_code (1 : Nat) (Option.some (Jvm.ClassFile.FieldType.object "java/lang/String")), Jvm.Cond.code ({ cls := "java/lang/String", name := "substring", desc := "(II)Ljava/lang/String;" } : Jvm.MethodName) jdk_42_method_92_code (5 : Nat) (Option.some (Jvm.ClassFile.FieldType.object "java/lang/String")), Jvm.Cond.code ({ cls := "java/lang/StringLatin1", name := "newString", desc := "([BII)Ljava/lang/String;" } : Jvm.MethodName) jdk_43_method_47_code (3 : Nat) (Option.some (Jvm.ClassFile.FieldType.object "java/lang/String")), Jvm.Cond.code ({ cls := "java/util/Arrays", name := "copyOfRange", desc := "([BII)[B" } : Jvm.MethodName) jdk_65_method_132_code (3 : Nat) (Option.some (Jvm.ClassFile.FieldType.array Jvm.ClassFile.FieldType.byte)), Jvm.Cond.code ({ cls := "java/util/Arrays", name := "copyOfRangeByte", desc := "([BII)[B" } : Jvm.MethodName) jdk_65_method_133_code (5 : Nat) (Option.some (Jvm.ClassFile.FieldType.array Jvm.ClassFile.FieldType.byte)), Jvm.Cond.code ({ cls := "java/util/Arrays", name := "checkLength", desc := "(II)V" } : Jvm.MethodName) jdk_65_method_131_code (2 : Nat) (Option.none : Option Jvm.ClassFile.FieldType), Jvm.Cond.code ({ cls := "java/lang/Math", name := "min", desc := "(II)I" } : Jvm.MethodName) jdk_29_method_69_code (2 : Nat) (Option.some Jvm.ClassFile.FieldType.int), Jvm.Cond.code ({ cls := "java/lang/String", name := "<init>", desc := "([BB)V" } : Jvm.MethodName) jdk_42_method_151_code (3 : Nat) (Option.none : Option Jvm.ClassFile.FieldType), Jvm.Cond.code ({ cls := "com/example/nameshelf/nameshelf/uri/InfoUri", name := "identifier", desc := "()Ljava/lang/String;" } : Jvm.MethodName) prog_62_method_7_code (1 : Nat) (Option.some (Jvm.ClassFile.FieldType.object "java/lang/String")), Jvm.Cond.code ({ cls := "com/example/nameshelf/nameshelf/uri/InfoUriParsePinLaw", name := "unit", desc := "([CIII)V" } : Jvm.MethodName) method_12_code (6 : Nat) (Option.none : Option Jvm.ClassFile.FieldType), Jvm.Cond.code ({ cls := "com/example/nameshelf/nameshelf/uri/InfoUriParsePinLaw", name := "rawChar", desc := "(I)C" } : Jvm.MethodName) method_3_code (1 : Nat) (Option.some Jvm.ClassFile.FieldType.char), Jvm.Cond.code ({ cls := "com/example/nameshelf/nameshelf/uri/InfoUri", name := "putByte", desc := "([CII)I" } : Jvm.MethodName) prog_62_method_13_code (4 : Nat) (Option.some Jvm.ClassFile.FieldType.int), Jvm.Cond.code ({ cls := "com/example/nameshelf/nameshelf/uri/InfoUriParsePinLaw", name := "exp", desc := "(Ljava/lang/String;III)I" } : Jvm.MethodName) method_13_code (6 : Nat) (Option.some Jvm.ClassFile.FieldType.int), Jvm.Cond.code ({ cls := "com/example/nameshelf/nameshelf/uri/InfoUriParsePinLaw", name := "pchar", desc := "(I)Z" } : Jvm.MethodName) method_8_code (1 : Nat) (Option.some Jvm.ClassFile.FieldType.boolean)]
set_option maxRecDepth 65536 in
theorem codes_eq : words1.filter isCode = codes1 := rfl
theorem w_codes : ∀ c ∈ words1.filter isCode, c.before args0 about1 = true := by
  rw [codes_eq]
  intro c hc
  simp only [codes1, List.mem_cons, List.not_mem_nil, or_false] at hc
  rcases hc with rfl | rfl | rfl | rfl | rfl | rfl | rfl | rfl | rfl | rfl | rfl | rfl | rfl | rfl | rfl | rfl | rfl | rfl | rfl | rfl | rfl | rfl | rfl | rfl | rfl | rfl | rfl | rfl | rfl | rfl | rfl | rfl | rfl | rfl | rfl | rfl | rfl | rfl | rfl | rfl | rfl | rfl | rfl | rfl | rfl | rfl | rfl | rfl | rfl | rfl | rfl | rfl | rfl | rfl
  · exact w_c0
  · exact w_c1
  · exact w_c2
  · exact w_c3
  · exact w_c4
  · exact w_c5
  · exact w_c6
  · exact w_c7
  · exact w_c8
  · exact w_c9
  · exact w_c10
  · exact w_c11
  · exact w_c12
  · exact w_c13
  · exact w_c14
  · exact w_c15
  · exact w_c16
  · exact w_c17
  · exact w_c18
  · exact w_c19
  · exact w_c20
  · exact w_c21
  · exact w_c22
  · exact w_c23
  · exact w_c24
  · exact w_c25
  · exact w_c26
  · exact w_c27
  · exact w_c28
  · exact w_c29
  · exact w_c30
  · exact w_c31
  · exact w_c32
  · exact w_c33
  · exact w_c34
  · exact w_c35
  · exact w_c36
  · exact w_c37
  · exact w_c38
  · exact w_c39
  · exact w_c40
  · exact w_c41
  · exact w_c42
  · exact w_c43
  · exact w_c44
  · exact w_c45
  · exact w_c46
  · exact w_c47
  · exact w_c48
  · exact w_c49
  · exact w_c50
  · exact w_c51
  · exact w_c52
  · exact w_c53
set_option maxRecDepth 65536 in
theorem w_t1 : (words1.take 24).all (fun c => isCode c || c.before args0 about1) = true := by decide +kernel
set_option maxRecDepth 65536 in
theorem w_t2 : ((words1.drop 24).take 24).all (fun c => isCode c || c.before args0 about1) = true := by decide +kernel
set_option maxRecDepth 65536 in
theorem w_t3 : (((words1.drop 24).drop 24).take 24).all (fun c => isCode c || c.before args0 about1) = true := by decide +kernel
set_option maxRecDepth 65536 in
theorem w_t4 : ((((words1.drop 24).drop 24).drop 24).take 24).all (fun c => isCode c || c.before args0 about1) = true := by decide +kernel
set_option maxRecDepth 65536 in
theorem w_t5 : (((((words1.drop 24).drop 24).drop 24).drop 24).take 24).all (fun c => isCode c || c.before args0 about1) = true := by decide +kernel
set_option maxRecDepth 65536 in
theorem w_t6 : ((((((words1.drop 24).drop 24).drop 24).drop 24).drop 24).take 24).all (fun c => isCode c || c.before args0 about1) = true := by decide +kernel
set_option maxRecDepth 65536 in
theorem w_t7 : (((((((words1.drop 24).drop 24).drop 24).drop 24).drop 24).drop 24).take 24).all (fun c => isCode c || c.before args0 about1) = true := by decide +kernel
set_option maxRecDepth 65536 in
theorem w_t8 : ((((((((words1.drop 24).drop 24).drop 24).drop 24).drop 24).drop 24).drop 24).take 24).all (fun c => isCode c || c.before args0 about1) = true := by decide +kernel
set_option maxRecDepth 65536 in
theorem w_t9 : (((((((((words1.drop 24).drop 24).drop 24).drop 24).drop 24).drop 24).drop 24).drop 24).take 24).all (fun c => isCode c || c.before args0 about1) = true := by decide +kernel
set_option maxRecDepth 65536 in
theorem w_t10 : (((((((((words1.drop 24).drop 24).drop 24).drop 24).drop 24).drop 24).drop 24).drop 24).drop 24).all (fun c => isCode c || c.before args0 about1) = true := by decide +kernel
theorem w_tables : (allAtoms (Jvm.Cond.code x code maxLocals ret :: tables_1)).before args0 about1 = true := by
  rw [allAtoms_all]
  show words1.all (fun c => c.before args0 about1) = true
  refine all_split ?_ w_codes
  rw [← List.take_append_drop 24 words1, List.all_append, w_t1, ← List.take_append_drop 24 (words1.drop 24), List.all_append, w_t2, ← List.take_append_drop 24 ((words1.drop 24).drop 24), List.all_append, w_t3, ← List.take_append_drop 24 (((words1.drop 24).drop 24).drop 24), List.all_append, w_t4, ← List.take_append_drop 24 ((((words1.drop 24).drop 24).drop 24).drop 24), List.all_append, w_t5, ← List.take_append_drop 24 (((((words1.drop 24).drop 24).drop 24).drop 24).drop 24), List.all_append, w_t6, ← List.take_append_drop 24 ((((((words1.drop 24).drop 24).drop 24).drop 24).drop 24).drop 24), List.all_append, w_t7, ← List.take_append_drop 24 (((((((words1.drop 24).drop 24).drop 24).drop 24).drop 24).drop 24).drop 24), List.all_append, w_t8, ← List.take_append_drop 24 ((((((((words1.drop 24).drop 24).drop 24).drop 24).drop 24).drop 24).drop 24).drop 24), List.all_append, w_t9, w_t10]
  rfl
set_option maxRecDepth 65536 in
theorem w_rest : rest_1_c.before args0 about1 = true := by decide +kernel
set_option maxRecDepth 65536 in
theorem w_case : (Jvm.Cond.and given_1 narrow_1).before args0 about1 = true := by decide +kernel
set_option maxRecDepth 65536 in
theorem w_consts : constsHeld consts_1 about1 := Jvm.Lit.constsHeldB_iff.mp (by decide +kernel)
theorem w_applies : (headSpec (Jvm.Cond.code x code maxLocals ret :: tables_1) room_1).applies x e0.platform about1 = true :=
  (Spec.applies_iff w_frames).mpr ⟨w_running, w_runnable, w_alone, w_named, w_hears, w_ripe, w_room, w_tables⟩
theorem atStart : AtStart classFile x code maxLocals ret World_1 tables_1 room_1 Calls_1 rest_1 Pre_1 launch0 p0 e0 about1 theMethod args0 below0 :=
  ⟨lists_1, trivial, launch0.admits_env _ _ _, launch0.least_env, fairChoices_fair.cas, fairChoices_fair.clock, w_frames, w_args, w_heap, w_applies, ⟨w_consts, trivial⟩, w_rest, w_case⟩
end start1
theorem witness_1 : WitnessClaimed_1 := ⟨start1.p0, start1.e0, start1.about1, start1.theMethod, start1.args0, start1.below0, start1.atStart⟩
end Jvm.Pilot.@@N@@
