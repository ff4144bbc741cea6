import JvmDerived
import JvmDerived.Pilot.@@N@@Statement
import JvmDerived.Pilot.@@N@@Code
set_option linter.unusedVariables false
set_option linter.unusedSimpArgs false
namespace Jvm.Own
open Jvm Jvm.ClassFile Sem Op Lib Jvm.Free Jvm.Stand Jvm.LawKit Jvm.RoadKit Bundle
/-! A walk in 'what is left to do' form: Go .. says that from every state that stands at this frame over this heap the body runs to its end and leaves what Post says. -/
abbrev Kx : Type := Program × Launch × Env × State × MethodId × Array Value × List Frame × Method × Code
abbrev Kx.p (K : Kx) : Program := K.1
abbrev Kx.l (K : Kx) : Launch := K.2.1
abbrev Kx.e (K : Kx) : Env := K.2.2.1
abbrev Kx.s (K : Kx) : State := K.2.2.2.1
abbrev Kx.m (K : Kx) : MethodId := K.2.2.2.2.1
abbrev Kx.as (K : Kx) : Array Value := K.2.2.2.2.2.1
abbrev Kx.below (K : Kx) : List Frame := K.2.2.2.2.2.2.1
abbrev Kx.meth (K : Kx) : Method := K.2.2.2.2.2.2.2.1
abbrev Kx.c (K : Kx) : Code := K.2.2.2.2.2.2.2.2
/-- the decode fact, with the next place -/
def Dc (code : ByteArray) (pc : Nat) (i : Instr) (n pc' : Nat) : Prop := decode code pc = .ok (i, n) ∧ pc + n = pc'
abbrev Pst : Type := Option Value → Heap → List Addr → Prop
/-- where the walk stands -/
def Inv (Z : State) (EL : List (String × Nat)) (nw : Bool) (R : Room) (K : Kx) (T : State) (h : Heap) (S : List Addr) (k n : Nat) : Prop :=
  ∃ (vm0 : Vm) (k0 : Nat) (locs : List Loc), Stand K.p K.l K.e R (K.s.setVm vm0) K.m K.as K.below K.meth K.c T locs k n ∧ K.s.Since vm0 k0 ∧ k0 ≤ h.size ∧ Z.Warmed39 vm0 ∧ T.heap = h ∧ Fr Z.heap.size locs ∧
    CHr Z EL K.s.vm K.s.heap vm0 h ∧ (∀ a ∈ S, Z.heap.size ≤ a ∧ a < h.size ∧ Safe Z EL vm0 h a) ∧ (nw = true → K.s.WarmedH vm0) ∧ Ext Z.heap h
/-- what the end must be -/
def EndQ (Z : State) (EL : List (String × Nat)) (nw : Bool) (R : Room) (Post : Pst) (s : State) (o : Outcome) (t : State) : Prop :=
  ∃ v L S', o = .returned v ∧ Post v t.heap S' ∧ Fr Z.heap.size L ∧ CHr Z EL s.vm s.heap t.vm t.heap ∧ (∀ x ∈ S', Z.heap.size ≤ x ∧ x < t.heap.size ∧ Safe Z EL t.vm t.heap x) ∧ ReturnedEndW s o t L R.cells R.slots ∧ (nw = true → s.WarmedH t.vm) ∧ Ext Z.heap t.heap
def Fin' (Z : State) (EL : List (String × Nat)) (nw : Bool) (R : Room) (Post : Pst) (K : Kx) (U : State) : Prop :=
  ∃ s₂ o, Steps K.p.tables K.e K.below U s₂ ∧ s₂.status = .running ∧ Ended s₂ K.below o ∧ EndQ Z EL nw R Post K.s o s₂
def Go (Z : State) (EL : List (String × Nat)) (nw : Bool) (R : Room) (Post : Pst) (K : Kx) (h : Heap) (S : List Addr) (k n pc : Nat) (L : List Slot) (st : List Value) : Prop :=
  ∀ T, Inv Z EL nw R K T h S k n → Fin' Z EL nw R Post K (T.setTop (mkF K.m pc L.toArray st))
def Good (Z : State) (a0 : Array Value) (EL : List (String × Nat)) (K : Kx) (own : String) (code : ByteArray) (maxL : Nat) (ret : Option FieldType) (nm : String) : Prop :=
  K.p.tables.exec = Jvm.exec ∧ K.c.code = code ∧ K.c.maxLocals = maxL ∧ K.meth.sig.returnType = ret ∧ K.meth.locks = false ∧ K.meth.name = nm ∧ K.s.vm.findClass own = some K.m.cls ∧ EW Z a0 EL
/-- a body's contract -/
def Con (l : Launch) (Z : State) (EL : List (String × Nat)) (nw : Bool) (y : MethodName) (bytes : ByteArray) (maxL : Nat) (ret : Option FieldType) (ws : List Jvm.Cond) (rm : Room) (as : Array Value) (h : Heap) (S : List Addr) (Post : Pst) : Prop :=
  MetFree l y (head1 (Jvm.Cond.code y bytes maxL ret :: ws) rm) (fun a U => a = as ∧ Z.Warmed39 U.vm ∧ U.heap = h ∧ CHv Z EL U.vm h ∧ (∀ x ∈ S, Z.heap.size ≤ x ∧ x < h.size ∧ Safe Z EL U.vm h x) ∧ Ext Z.heap h) (fun _ _ _ _ _ => True) (fun _ U o U' => EndQ Z EL nw rm Post U o U')
section Rules
variable {Z : State} {a0 : Array Value} {EL : List (String × Nat)} {nw : Bool} {R : Room} {Post : Pst} {K : Kx} {own : String} {code : ByteArray} {maxL : Nat} {ret : Option FieldType} {nm : String} {h h' : Heap} {S S' : List Addr} {k n k' n' pc pc' : Nat} {L L' : List Slot} {st : List Value} {l : Launch}
theorem Fin'.step {U U' : State} (q : ∀ target, Steps K.p.tables K.e K.below U' target → Steps K.p.tables K.e K.below U target) (f : Fin' Z EL nw R Post K U') : Fin' Z EL nw R Post K U := by
  obtain ⟨s₂, o, h1, r⟩ := f
  exact ⟨s₂, o, q _ h1, r⟩
theorem Good.hown (G : Good Z a0 EL K own code maxL ret nm) {vm0 : Vm} {k0 : Nat} (hS : K.s.Since vm0 k0) : vm0.findClass own = some K.m.cls := (hS.1.alike.findClass _ _).trans G.2.2.2.2.2.2.1
/-- entering a body -/
theorem Con.enter {y : MethodName} {bytes : ByteArray} {ws : List Jvm.Cond} {as : Array Value} (hp : plainFor y = true) (hEL : EW Z a0 EL) (L0 : List Slot) (hef : ∀ m, entryFrame m as maxL = mkF m 0 L0.toArray [])
    (body : ∀ K : Kx, Good Z a0 EL K y.cls bytes maxL ret y.name → Go Z EL nw R Post K h S 0 0 0 L0 []) : Con l Z EL nw y bytes maxL ret ws R as h S Post := by
  refine MetFree.of_bodySF hp hisR ?_
  intro p e s m args below meth c s₁ Bd hml0 hP hK
  obtain ⟨rfl, hZ, hh, hC, hSf, hO⟩ := hP
  have X0 : Stand p l e R s m args below meth c s₁ [] 0 0 := Stand.of_body Bd
  have e0 : s₁.heap = h := by rw [← hh, Bd.state]; rfl
  have G : Good Z a0 EL (p, l, e, s, m, args, below, meth, c) y.cls bytes maxL ret y.name := ⟨Bd.exec, Bd.bytes, hml0, Bd.returns, Bd.notSynchronized, (name_of_methodNamed Bd.named Bd.method).1, findClass_of_methodNamed Bd.named, hEL⟩
  have F := body (p, l, e, s, m, args, below, meth, c) G s₁ ⟨s.vm, h.size, [], X0, (State.WarmedH.refl s).since _, Nat.le_refl _, hZ, e0, Fr.nil _, by show CHr Z EL s.vm s.heap s.vm h; rw [hh]; exact CHr.refl hC, hSf, fun _ => State.WarmedH.refl s, hO⟩
  obtain ⟨s₂, o, h1, h2, h3, h4⟩ := F
  exact ⟨s₂, o, castTop (hef m) h1, h2, h3, h4⟩
/-- a plain step -/
theorem Go.plain (q : ∀ (T : State) target, At T K.m K.c K.below → Steps K.p.tables K.e K.below (T.setTop (mkF K.m pc' L'.toArray st)) target → Steps K.p.tables K.e K.below (T.setTop (mkF K.m pc L.toArray st')) target) (f : Go Z EL nw R Post K h S k n pc' L' st) : Go Z EL nw R Post K h S k n pc L st' := fun T I => by
  obtain ⟨vm0, k0, locs, X, r⟩ := I
  exact (f T ⟨vm0, k0, locs, X, r⟩).step fun t z => q T t X.here z
theorem Go.more (f : Go Z EL nw R Post K h S k' n' pc L st) (hk : k ≤ k') (hn : n ≤ n') : Go Z EL nw R Post K h S k n pc L st := fun T I => by
  obtain ⟨vm0, k0, locs, X, r⟩ := I
  exact f T ⟨vm0, k0, locs, X.mono hk hn, r⟩
theorem Go.fewer (f : Go Z EL nw R Post K h S' k n pc L st) (hs : ∀ x ∈ S', x ∈ S) : Go Z EL nw R Post K h S k n pc L st := fun T I => by
  obtain ⟨vm0, k0, locs, X, r1, r2, r3, r4, r5, r6, r7, r8⟩ := I
  exact f T ⟨vm0, k0, locs, X, r1, r2, r3, r4, r5, r6, fun a q => r7 a (hs a q), r8⟩
/-- what is known of the places in S -/
theorem Go.safeIn (f : (∀ a ∈ S, Z.heap.size ≤ a ∧ a < h.size) → Go Z EL nw R Post K h S k n pc L st) : Go Z EL nw R Post K h S k n pc L st := fun T I => by
  obtain ⟨vm0, k0, locs, X, r1, r2, r3, r4, r5, r6, r7, r8⟩ := I
  exact f (fun a q => ⟨(r7 a q).1, (r7 a q).2.1⟩) T ⟨vm0, k0, locs, X, r1, r2, r3, r4, r5, r6, r7, r8⟩
theorem Go.oldIn (f : Ext Z.heap h → Go Z EL nw R Post K h S k n pc L st) : Go Z EL nw R Post K h S k n pc L st := fun T I => by
  obtain ⟨vm0, k0, locs, X, r1, r2, r3, r4, r5, r6, r7, r8⟩ := I
  exact f r8.2 T ⟨vm0, k0, locs, X, r1, r2, r3, r4, r5, r6, r7, r8⟩
/-! ### the ends -/
theorem Good.leave (G : Good Z a0 EL K own code maxL ret nm) {v : Option Value} (hv : ret = none → v = none) (hk : k ≤ R.cells) (hn : n ≤ R.slots) (S' : List Addr) (hS' : ∀ x ∈ S', x ∈ S) (hP : Post v h S')
    (q : ∀ (T : State) (vm0 : Vm) (locs : List Loc) (fs : List Frame), Stand K.p K.l K.e R (K.s.setVm vm0) K.m K.as K.below K.meth K.c T locs k n → (∀ (f : JFrame) (acts : List Action), f.method = K.m → f.locked = none → f.entered = [] → (doReturn K.e (T.setTop f) acts v).1 = T.setFrames fs) → Steps K.p.tables K.e K.below (T.setTop (mkF K.m pc L.toArray st)) (T.setFrames fs)) :
    Go Z EL nw R Post K h S k n pc L st := fun T I => by
  obtain ⟨vm0, k0, locs, X, hS, hk0, hZ, e, N, CH, hSf, hw, hO⟩ := I
  obtain ⟨hx, hby, hml, hret, hlk, hnm, hown, hEL⟩ := G
  have hlk' : K.meth.locks = false := hlk
  obtain ⟨fs, h1, h2, h3, hE⟩ := X.leaveW hS (by rw [e]; exact hk0) (v := v) (fun z => hv (hret.symm.trans z)) hlk'
  obtain ⟨a1, a2, a3, a4⟩ := hE
  have CA := CHv.at X hZ hEL CH.1
  have eh : (T.setFrames fs).heap = h := e
  refine ⟨_, _, q T vm0 locs fs X h1, h2, h3, v, locs, S', rfl, by rw [eh]; exact hP, N, ?_, ?_, ⟨a1, a2, a3, a4.mono hk hn⟩, fun z => State.WarmedH.trans (t := K.s.setVm vm0) (hw z) X.warmed, by rw [eh]; exact hO⟩
  · show CHr Z EL K.s.vm K.s.heap T.vm (T.setFrames fs).heap
    rw [eh]; exact CH.trans CA
  · intro x hx'
    obtain ⟨b1, b2, b3⟩ := hSf x (hS' x hx')
    show Z.heap.size ≤ x ∧ x < (T.setFrames fs).heap.size ∧ Safe Z EL T.vm (T.setFrames fs).heap x
    rw [eh]; exact ⟨b1, b2, CA.safe b2 b3⟩
theorem Good.ret0 (G : Good Z a0 EL K own code maxL none nm) (hd : Dc code pc .return_ 1 pc') (S' : List Addr) (hS' : ∀ x ∈ S', x ∈ S) (hP : Post none h S') (hk : k ≤ R.cells := by decide) (hn : n ≤ R.slots := by decide) : Go Z EL nw R Post K h S k n pc L [] :=
  G.leave (fun _ => rfl) hk hn S' hS' hP fun T vm0 locs fs X hr => X.returnOut G.1 G.2.2.2.1 (hb G.2.1 hd.1) hr
theorem Good.retV {t : FieldType} (G : Good Z a0 EL K own code maxL (some t) nm) {w : Value} {i : Instr} (hd : Dc code pc i 1 pc') (hn' : narrow t w = w)
    (hi : (i = .ireturn ∧ (t = .int ∨ t = .boolean ∨ t = .byte ∨ t = .char ∨ t = .short) ∧ ∃ z, w = .int z) ∨ (i = .lreturn ∧ t = .long ∧ ∃ z, w = .long z) ∨ (i = .dreturn ∧ t = .double ∧ ∃ z, w = .double z) ∨ (i = .freturn ∧ t = .float ∧ ∃ z, w = .float z) ∨ (i = .areturn ∧ t.isReference = true ∧ w.isRef = true))
    (S' : List Addr) (hS' : ∀ x ∈ S', x ∈ S) (hP : Post (some w) h S') (hk : k ≤ R.cells := by decide) (hn : n ≤ R.slots := by decide) : Go Z EL nw R Post K h S k n pc L (w :: st) :=
  G.leave (fun z => by cases z) hk hn S' hS' hP fun T vm0 locs fs X hr => retOut X G.1 G.2.2.2.1 hn' hi (hb G.2.1 hd.1) hr
theorem Good.iret (G : Good Z a0 EL K own code maxL (some .int) nm) {z : Int32} (hd : Dc code pc .ireturn 1 pc') (S' : List Addr) (hS' : ∀ x ∈ S', x ∈ S) (hP : Post (some (.int z)) h S') (hk : k ≤ R.cells := by decide) (hn : n ≤ R.slots := by decide) : Go Z EL nw R Post K h S k n pc L (.int z :: st) :=
  G.retV hd rfl (Or.inl ⟨rfl, Or.inl rfl, z, rfl⟩) S' hS' hP hk hn
theorem Good.lret (G : Good Z a0 EL K own code maxL (some .long) nm) {z : Int64} (hd : Dc code pc .lreturn 1 pc') (S' : List Addr) (hS' : ∀ x ∈ S', x ∈ S) (hP : Post (some (.long z)) h S') (hk : k ≤ R.cells := by decide) (hn : n ≤ R.slots := by decide) : Go Z EL nw R Post K h S k n pc L (.long z :: st) :=
  G.retV hd rfl (Or.inr (Or.inl ⟨rfl, rfl, z, rfl⟩)) S' hS' hP hk hn
theorem Good.aret {t : FieldType} (G : Good Z a0 EL K own code maxL (some t) nm) {w : Value} (hd : Dc code pc .areturn 1 pc') (S' : List Addr) (hS' : ∀ x ∈ S', x ∈ S) (hP : Post (some w) h S') (hr : w.isRef = true := by rfl) (ht : t.isReference = true := by rfl) (hk : k ≤ R.cells := by decide) (hn : n ≤ R.slots := by decide) : Go Z EL nw R Post K h S k n pc L (w :: st) :=
  G.retV hd (by rcases ref_cases hr with rfl | ⟨_, rfl⟩ <;> cases t <;> first | rfl | cases ht) (Or.inr (Or.inr (Or.inr (Or.inr ⟨rfl, ht, hr⟩)))) S' hS' hP hk hn
/-- boolean, byte, char, short -/
theorem Good.nret {t : FieldType} (G : Good Z a0 EL K own code maxL (some t) nm) {z z' : Int32} (hd : Dc code pc .ireturn 1 pc') (ht : t = .boolean ∨ t = .byte ∨ t = .char ∨ t = .short) (hz : nar t z = z') (S' : List Addr) (hS' : ∀ x ∈ S', x ∈ S) (hP : Post (some (.int z')) h S') (hk : k ≤ R.cells := by decide) (hn : n ≤ R.slots := by decide) : Go Z EL nw R Post K h S k n pc L (.int z :: st) :=
  G.leave (fun z => by cases z) hk hn S' hS' hP fun T vm0 locs fs X hr => retN X G.1 G.2.2.2.1 ht (hb G.2.1 hd.1) (by rw [hz]; exact hr)
end Rules
end Jvm.Own
namespace Jvm.Own
open Jvm Jvm.ClassFile Sem Op Lib Jvm.Free Jvm.Stand Jvm.LawKit Jvm.RoadKit Bundle
/-- a branch's decode fact, with both places -/
def Dj (code : ByteArray) (pc : Nat) (i : Int → Instr) (pc' pcY : Nat) : Prop := ∃ o : Int, decode code pc = .ok (i o, 3) ∧ pc + 3 = pc' ∧ 0 ≤ (pc : Int) + o ∧ ((pc : Int) + o).toNat = pcY
section Plain
variable {Z : State} {a0 : Array Value} {EL : List (String × Nat)} {nw : Bool} {R : Room} {Post : Pst} {K : Kx} {own : String} {code : ByteArray} {maxL : Nat} {ret : Option FieldType} {nm : String} {h : Heap} {S : List Addr} {k n pc pc' pcY : Nat} {L : List Slot} {st : List Value}
theorem Good.aloadN (G : Good Z a0 EL K own code maxL ret nm) {j : Fin 4} {v : Value} (hd : Dc code pc (.aload_n j) 1 pc') (hl : L[j.val]? = some (.val v)) (hv : v.isRef = true) (f : Go Z EL nw R Post K h S k n pc' L (v :: st)) : Go Z EL nw R Post K h S k n pc L st := by
  obtain ⟨hd, rfl⟩ := hd
  exact Go.plain (fun T t X q => XS.aloadN X G.1 rfl (hb G.2.1 hd) (by simpa using hl) hv q) f
theorem Good.aload (G : Good Z a0 EL K own code maxL ret nm) {j : Nat} {v : Value} (hd : Dc code pc (.aload j) 2 pc') (hl : L[j]? = some (.val v)) (hv : v.isRef = true) (f : Go Z EL nw R Post K h S k n pc' L (v :: st)) : Go Z EL nw R Post K h S k n pc L st := by
  obtain ⟨hd, rfl⟩ := hd
  exact Go.plain (fun T t X q => XS.aload X G.1 rfl (hb G.2.1 hd) (by simpa using hl) hv q) f
theorem Good.iloadN (G : Good Z a0 EL K own code maxL ret nm) {j : Fin 4} {v : Int32} (hd : Dc code pc (.iload_n j) 1 pc') (hl : L[j.val]? = some (.val (.int v))) (f : Go Z EL nw R Post K h S k n pc' L (.int v :: st)) : Go Z EL nw R Post K h S k n pc L st := by
  obtain ⟨hd, rfl⟩ := hd
  exact Go.plain (fun T t X q => XS.iloadN X G.1 rfl (hb G.2.1 hd) (by simpa using hl) q) f
theorem Good.iload (G : Good Z a0 EL K own code maxL ret nm) {j : Nat} {v : Int32} (hd : Dc code pc (.iload j) 2 pc') (hl : L[j]? = some (.val (.int v))) (f : Go Z EL nw R Post K h S k n pc' L (.int v :: st)) : Go Z EL nw R Post K h S k n pc L st := by
  obtain ⟨hd, rfl⟩ := hd
  exact Go.plain (fun T t X q => XS.iload X G.1 rfl (hb G.2.1 hd) (by simpa using hl) q) f
theorem Good.lloadN (G : Good Z a0 EL K own code maxL ret nm) {j : Fin 4} {v : Int64} (hd : Dc code pc (.lload_n j) 1 pc') (hl : L[j.val]? = some (.val (.long v))) (f : Go Z EL nw R Post K h S k n pc' L (.long v :: st)) : Go Z EL nw R Post K h S k n pc L st := by
  obtain ⟨hd, rfl⟩ := hd
  exact Go.plain (fun T t X q => XS.lloadN X G.1 rfl (hb G.2.1 hd) (by simpa using hl) q) f
theorem Good.lload (G : Good Z a0 EL K own code maxL ret nm) {j : Nat} {v : Int64} (hd : Dc code pc (.lload j) 2 pc') (hl : L[j]? = some (.val (.long v))) (f : Go Z EL nw R Post K h S k n pc' L (.long v :: st)) : Go Z EL nw R Post K h S k n pc L st := by
  obtain ⟨hd, rfl⟩ := hd
  exact Go.plain (fun T t X q => XS.lload X G.1 rfl (hb G.2.1 hd) (by simpa using hl) q) f
theorem Good.iconst (G : Good Z a0 EL K own code maxL ret nm) (z : Int32) {i : Int} (hd : Dc code pc (.iconst i) 1 pc')  (f : Go Z EL nw R Post K h S k n pc' L (.int z :: st)) (hz : Int32.ofInt i = z := by decide) : Go Z EL nw R Post K h S k n pc L st := by
  obtain ⟨hd, rfl⟩ := hd
  exact Go.plain (fun T t X q => XS.iconst X G.1 rfl (hb G.2.1 hd) (by rw [hz]; exact q)) f
theorem Good.bipush (G : Good Z a0 EL K own code maxL ret nm) (z : Int32) {i : Int} (hd : Dc code pc (.bipush i) 2 pc')  (f : Go Z EL nw R Post K h S k n pc' L (.int z :: st)) (hz : (Int8.ofInt i).toInt32 = z := by decide) : Go Z EL nw R Post K h S k n pc L st := by
  obtain ⟨hd, rfl⟩ := hd
  exact Go.plain (fun T t X q => XS.bipush X G.1 rfl (hb G.2.1 hd) (by rw [hz]; exact q)) f
theorem Good.sipush (G : Good Z a0 EL K own code maxL ret nm) (z : Int32) {i : Int} (hd : Dc code pc (.sipush i) 3 pc')  (f : Go Z EL nw R Post K h S k n pc' L (.int z :: st)) (hz : (Int16.ofInt i).toInt32 = z := by decide) : Go Z EL nw R Post K h S k n pc L st := by
  obtain ⟨hd, rfl⟩ := hd
  exact Go.plain (fun T t X q => XS.sipush X G.1 rfl (hb G.2.1 hd) (by rw [hz]; exact q)) f
theorem Good.lconst (G : Good Z a0 EL K own code maxL ret nm) (z : Int64) {i : Fin 2} (hd : Dc code pc (.lconst i) 1 pc')  (f : Go Z EL nw R Post K h S k n pc' L (.long z :: st)) (hz : Int64.ofNat i = z := by decide) : Go Z EL nw R Post K h S k n pc L st := by
  obtain ⟨hd, rfl⟩ := hd
  exact Go.plain (fun T t X q => XS.lconst X G.1 rfl (hb G.2.1 hd) (by rw [hz]; exact q)) f
theorem Good.aconstNull (G : Good Z a0 EL K own code maxL ret nm)  (hd : Dc code pc .aconst_null 1 pc')  (f : Go Z EL nw R Post K h S k n pc' L (.null :: st)) : Go Z EL nw R Post K h S k n pc L st := by
  obtain ⟨hd, rfl⟩ := hd
  exact Go.plain (fun T t X q => XS.aconstNull X G.1 rfl (hb G.2.1 hd)  q) f
theorem Good.iadd (G : Good Z a0 EL K own code maxL ret nm) {x y : Int32} (hd : Dc code pc .iadd 1 pc')  (f : Go Z EL nw R Post K h S k n pc' L (.int (x + y) :: st)) : Go Z EL nw R Post K h S k n pc L (.int y :: .int x :: st) := by
  obtain ⟨hd, rfl⟩ := hd
  exact Go.plain (fun T t X q => XS.iadd X G.1 rfl (hb G.2.1 hd) rfl q) f
theorem Good.isub (G : Good Z a0 EL K own code maxL ret nm) {x y : Int32} (hd : Dc code pc .isub 1 pc')  (f : Go Z EL nw R Post K h S k n pc' L (.int (x - y) :: st)) : Go Z EL nw R Post K h S k n pc L (.int y :: .int x :: st) := by
  obtain ⟨hd, rfl⟩ := hd
  exact Go.plain (fun T t X q => XS.isub X G.1 rfl (hb G.2.1 hd) rfl q) f
theorem Good.imul (G : Good Z a0 EL K own code maxL ret nm) {x y : Int32} (hd : Dc code pc .imul 1 pc')  (f : Go Z EL nw R Post K h S k n pc' L (.int (x * y) :: st)) : Go Z EL nw R Post K h S k n pc L (.int y :: .int x :: st) := by
  obtain ⟨hd, rfl⟩ := hd
  exact Go.plain (fun T t X q => XS.imul X G.1 rfl (hb G.2.1 hd) rfl q) f
theorem Good.iand (G : Good Z a0 EL K own code maxL ret nm) {x y : Int32} (hd : Dc code pc .iand 1 pc')  (f : Go Z EL nw R Post K h S k n pc' L (.int (x &&& y) :: st)) : Go Z EL nw R Post K h S k n pc L (.int y :: .int x :: st) := by
  obtain ⟨hd, rfl⟩ := hd
  exact Go.plain (fun T t X q => XS.iand X G.1 rfl (hb G.2.1 hd) rfl q) f
theorem Good.ior (G : Good Z a0 EL K own code maxL ret nm) {x y : Int32} (hd : Dc code pc .ior 1 pc')  (f : Go Z EL nw R Post K h S k n pc' L (.int (x ||| y) :: st)) : Go Z EL nw R Post K h S k n pc L (.int y :: .int x :: st) := by
  obtain ⟨hd, rfl⟩ := hd
  exact Go.plain (fun T t X q => XS.ior X G.1 rfl (hb G.2.1 hd) rfl q) f
theorem Good.ixor (G : Good Z a0 EL K own code maxL ret nm) {x y : Int32} (hd : Dc code pc .ixor 1 pc')  (f : Go Z EL nw R Post K h S k n pc' L (.int (x ^^^ y) :: st)) : Go Z EL nw R Post K h S k n pc L (.int y :: .int x :: st) := by
  obtain ⟨hd, rfl⟩ := hd
  exact Go.plain (fun T t X q => XS.ixor X G.1 rfl (hb G.2.1 hd) rfl q) f
theorem Good.ishl (G : Good Z a0 EL K own code maxL ret nm) {x y : Int32} (hd : Dc code pc .ishl 1 pc')  (f : Go Z EL nw R Post K h S k n pc' L (.int (x <<< (y &&& 31)) :: st)) : Go Z EL nw R Post K h S k n pc L (.int y :: .int x :: st) := by
  obtain ⟨hd, rfl⟩ := hd
  exact Go.plain (fun T t X q => XS.ishl X G.1 rfl (hb G.2.1 hd) rfl q) f
theorem Good.ishr (G : Good Z a0 EL K own code maxL ret nm) {x y : Int32} (hd : Dc code pc .ishr 1 pc')  (f : Go Z EL nw R Post K h S k n pc' L (.int (x >>> (y &&& 31)) :: st)) : Go Z EL nw R Post K h S k n pc L (.int y :: .int x :: st) := by
  obtain ⟨hd, rfl⟩ := hd
  exact Go.plain (fun T t X q => XS.ishr X G.1 rfl (hb G.2.1 hd) rfl q) f
theorem Good.iushr (G : Good Z a0 EL K own code maxL ret nm) {x y : Int32} (hd : Dc code pc .iushr 1 pc')  (f : Go Z EL nw R Post K h S k n pc' L (.int ((x.toUInt32 >>> (y &&& 31).toUInt32).toInt32) :: st)) : Go Z EL nw R Post K h S k n pc L (.int y :: .int x :: st) := by
  obtain ⟨hd, rfl⟩ := hd
  exact Go.plain (fun T t X q => XS.iushr X G.1 rfl (hb G.2.1 hd) rfl q) f
theorem Good.idiv (G : Good Z a0 EL K own code maxL ret nm) {x y : Int32} (hd : Dc code pc .idiv 1 pc') (hy : y ≠ 0) (f : Go Z EL nw R Post K h S k n pc' L (.int (x / y) :: st)) : Go Z EL nw R Post K h S k n pc L (.int y :: .int x :: st) := by
  obtain ⟨hd, rfl⟩ := hd
  exact Go.plain (fun T t X q => XS.idiv X G.1 rfl (hb G.2.1 hd) rfl hy q) f
theorem Good.irem (G : Good Z a0 EL K own code maxL ret nm) {x y : Int32} (hd : Dc code pc .irem 1 pc') (hy : y ≠ 0) (f : Go Z EL nw R Post K h S k n pc' L (.int (x % y) :: st)) : Go Z EL nw R Post K h S k n pc L (.int y :: .int x :: st) := by
  obtain ⟨hd, rfl⟩ := hd
  exact Go.plain (fun T t X q => XS.irem X G.1 rfl (hb G.2.1 hd) rfl hy (by rw [show x - x / y * y = x % y from irem_eq_mod x y]; exact q)) f
theorem Good.ineg (G : Good Z a0 EL K own code maxL ret nm) {x : Int32} (hd : Dc code pc .ineg 1 pc')  (f : Go Z EL nw R Post K h S k n pc' L (.int (-x) :: st)) : Go Z EL nw R Post K h S k n pc L (.int x :: st) := by
  obtain ⟨hd, rfl⟩ := hd
  exact Go.plain (fun T t X q => XS.ineg X G.1 rfl (hb G.2.1 hd) rfl q) f
theorem Good.ladd (G : Good Z a0 EL K own code maxL ret nm) {x y : Int64} (hd : Dc code pc .ladd 1 pc')  (f : Go Z EL nw R Post K h S k n pc' L (.long (x + y) :: st)) : Go Z EL nw R Post K h S k n pc L (.long y :: .long x :: st) := by
  obtain ⟨hd, rfl⟩ := hd
  exact Go.plain (fun T t X q => XS.ladd X G.1 rfl (hb G.2.1 hd) rfl q) f
theorem Good.lsub (G : Good Z a0 EL K own code maxL ret nm) {x y : Int64} (hd : Dc code pc .lsub 1 pc')  (f : Go Z EL nw R Post K h S k n pc' L (.long (x - y) :: st)) : Go Z EL nw R Post K h S k n pc L (.long y :: .long x :: st) := by
  obtain ⟨hd, rfl⟩ := hd
  exact Go.plain (fun T t X q => XS.lsub X G.1 rfl (hb G.2.1 hd) rfl q) f
theorem Good.lmul (G : Good Z a0 EL K own code maxL ret nm) {x y : Int64} (hd : Dc code pc .lmul 1 pc')  (f : Go Z EL nw R Post K h S k n pc' L (.long (x * y) :: st)) : Go Z EL nw R Post K h S k n pc L (.long y :: .long x :: st) := by
  obtain ⟨hd, rfl⟩ := hd
  exact Go.plain (fun T t X q => XS.lmul X G.1 rfl (hb G.2.1 hd) rfl q) f
theorem Good.land (G : Good Z a0 EL K own code maxL ret nm) {x y : Int64} (hd : Dc code pc .land 1 pc')  (f : Go Z EL nw R Post K h S k n pc' L (.long (x &&& y) :: st)) : Go Z EL nw R Post K h S k n pc L (.long y :: .long x :: st) := by
  obtain ⟨hd, rfl⟩ := hd
  exact Go.plain (fun T t X q => XS.land X G.1 rfl (hb G.2.1 hd) rfl q) f
theorem Good.lor (G : Good Z a0 EL K own code maxL ret nm) {x y : Int64} (hd : Dc code pc .lor 1 pc')  (f : Go Z EL nw R Post K h S k n pc' L (.long (x ||| y) :: st)) : Go Z EL nw R Post K h S k n pc L (.long y :: .long x :: st) := by
  obtain ⟨hd, rfl⟩ := hd
  exact Go.plain (fun T t X q => XS.lor X G.1 rfl (hb G.2.1 hd) rfl q) f
theorem Good.lxor (G : Good Z a0 EL K own code maxL ret nm) {x y : Int64} (hd : Dc code pc .lxor 1 pc')  (f : Go Z EL nw R Post K h S k n pc' L (.long (x ^^^ y) :: st)) : Go Z EL nw R Post K h S k n pc L (.long y :: .long x :: st) := by
  obtain ⟨hd, rfl⟩ := hd
  exact Go.plain (fun T t X q => XS.lxor X G.1 rfl (hb G.2.1 hd) rfl q) f
theorem Good.lshl (G : Good Z a0 EL K own code maxL ret nm) {x : Int64} {y : Int32} (hd : Dc code pc .lshl 1 pc')  (f : Go Z EL nw R Post K h S k n pc' L (.long (x <<< (y &&& 0x3f).toInt64) :: st)) : Go Z EL nw R Post K h S k n pc L (.int y :: .long x :: st) := by
  obtain ⟨hd, rfl⟩ := hd
  exact Go.plain (fun T t X q => XS.lshl X G.1 rfl (hb G.2.1 hd) rfl q) f
theorem Good.lshr (G : Good Z a0 EL K own code maxL ret nm) {x : Int64} {y : Int32} (hd : Dc code pc .lshr 1 pc')  (f : Go Z EL nw R Post K h S k n pc' L (.long (x >>> (y &&& 0x3f).toInt64) :: st)) : Go Z EL nw R Post K h S k n pc L (.int y :: .long x :: st) := by
  obtain ⟨hd, rfl⟩ := hd
  exact Go.plain (fun T t X q => XS.lshr X G.1 rfl (hb G.2.1 hd) rfl q) f
theorem Good.lushr (G : Good Z a0 EL K own code maxL ret nm) {x : Int64} {y : Int32} (hd : Dc code pc .lushr 1 pc')  (f : Go Z EL nw R Post K h S k n pc' L (.long ((x.toUInt64 >>> (y &&& 0x3f).toInt64.toUInt64).toInt64) :: st)) : Go Z EL nw R Post K h S k n pc L (.int y :: .long x :: st) := by
  obtain ⟨hd, rfl⟩ := hd
  exact Go.plain (fun T t X q => XS.lushr X G.1 rfl (hb G.2.1 hd) rfl q) f
theorem Good.ldiv (G : Good Z a0 EL K own code maxL ret nm) {x y : Int64} (hd : Dc code pc .ldiv 1 pc') (hy : y ≠ 0) (f : Go Z EL nw R Post K h S k n pc' L (.long (x / y) :: st)) : Go Z EL nw R Post K h S k n pc L (.long y :: .long x :: st) := by
  obtain ⟨hd, rfl⟩ := hd
  exact Go.plain (fun T t X q => XS.ldiv X G.1 rfl (hb G.2.1 hd) rfl hy q) f
theorem Good.lneg (G : Good Z a0 EL K own code maxL ret nm) {x : Int64} (hd : Dc code pc .lneg 1 pc')  (f : Go Z EL nw R Post K h S k n pc' L (.long (-x) :: st)) : Go Z EL nw R Post K h S k n pc L (.long x :: st) := by
  obtain ⟨hd, rfl⟩ := hd
  exact Go.plain (fun T t X q => XS.lneg X G.1 rfl (hb G.2.1 hd) rfl q) f
theorem Good.i2b (G : Good Z a0 EL K own code maxL ret nm) {x : Int32} (hd : Dc code pc .i2b 1 pc')  (f : Go Z EL nw R Post K h S k n pc' L (.int (x.toInt8.toInt32) :: st)) : Go Z EL nw R Post K h S k n pc L (.int x :: st) := by
  obtain ⟨hd, rfl⟩ := hd
  exact Go.plain (fun T t X q => XS.i2b X G.1 rfl (hb G.2.1 hd) rfl q) f
theorem Good.i2c (G : Good Z a0 EL K own code maxL ret nm) {x : Int32} (hd : Dc code pc .i2c 1 pc')  (f : Go Z EL nw R Post K h S k n pc' L (.int (x.toUInt32.toUInt16.toUInt32.toInt32) :: st)) : Go Z EL nw R Post K h S k n pc L (.int x :: st) := by
  obtain ⟨hd, rfl⟩ := hd
  exact Go.plain (fun T t X q => XS.i2c X G.1 rfl (hb G.2.1 hd) rfl q) f
theorem Good.i2s (G : Good Z a0 EL K own code maxL ret nm) {x : Int32} (hd : Dc code pc .i2s 1 pc')  (f : Go Z EL nw R Post K h S k n pc' L (.int (x.toInt16.toInt32) :: st)) : Go Z EL nw R Post K h S k n pc L (.int x :: st) := by
  obtain ⟨hd, rfl⟩ := hd
  exact Go.plain (fun T t X q => XS.i2s X G.1 rfl (hb G.2.1 hd) rfl q) f
theorem Good.i2l (G : Good Z a0 EL K own code maxL ret nm) {x : Int32} (hd : Dc code pc .i2l 1 pc')  (f : Go Z EL nw R Post K h S k n pc' L (.long (x.toInt64) :: st)) : Go Z EL nw R Post K h S k n pc L (.int x :: st) := by
  obtain ⟨hd, rfl⟩ := hd
  exact Go.plain (fun T t X q => XS.i2l X G.1 rfl (hb G.2.1 hd) rfl q) f
theorem Good.l2i (G : Good Z a0 EL K own code maxL ret nm) {x : Int64} (hd : Dc code pc .l2i 1 pc')  (f : Go Z EL nw R Post K h S k n pc' L (.int (x.toInt32) :: st)) : Go Z EL nw R Post K h S k n pc L (.long x :: st) := by
  obtain ⟨hd, rfl⟩ := hd
  exact Go.plain (fun T t X q => XS.l2i X G.1 rfl (hb G.2.1 hd) rfl q) f
theorem Good.lcmp (G : Good Z a0 EL K own code maxL ret nm) {x y : Int64} (hd : Dc code pc .lcmp 1 pc')  (f : Go Z EL nw R Post K h S k n pc' L (.int (lcmpW x y) :: st)) : Go Z EL nw R Post K h S k n pc L (.long y :: .long x :: st) := by
  obtain ⟨hd, rfl⟩ := hd
  exact Go.plain (fun T t X q => XS.lcmp X G.1 rfl (hb G.2.1 hd) rfl q) f
theorem Good.dup (G : Good Z a0 EL K own code maxL ret nm) {x : Value} (hd : Dc code pc .dup 1 pc')  (f : Go Z EL nw R Post K h S k n pc' L (x :: x :: st)) (hc : x.category = 1 := by rfl) : Go Z EL nw R Post K h S k n pc L (x :: st) := by
  obtain ⟨hd, rfl⟩ := hd
  exact Go.plain (fun T t X q => XS.dup X G.1 rfl (hb G.2.1 hd) rfl hc q) f
theorem Good.pop (G : Good Z a0 EL K own code maxL ret nm) {x : Value} (hd : Dc code pc .pop 1 pc')  (f : Go Z EL nw R Post K h S k n pc' L st) (hc : x.category = 1 := by rfl) : Go Z EL nw R Post K h S k n pc L (x :: st) := by
  obtain ⟨hd, rfl⟩ := hd
  exact Go.plain (fun T t X q => XS.pop X G.1 rfl (hb G.2.1 hd) rfl hc q) f
theorem Good.dupX1 (G : Good Z a0 EL K own code maxL ret nm) {x y : Value} (hd : Dc code pc .dup_x1 1 pc')  (f : Go Z EL nw R Post K h S k n pc' L (x :: y :: x :: st)) (hc : x.category = 1 := by rfl) (hc2 : y.category = 1 := by rfl) : Go Z EL nw R Post K h S k n pc L (x :: y :: st) := by
  obtain ⟨hd, rfl⟩ := hd
  exact Go.plain (fun T t X q => XS.dupX1 X G.1 rfl (hb G.2.1 hd) rfl hc hc2 q) f
theorem Good.swap (G : Good Z a0 EL K own code maxL ret nm) {x y : Value} (hd : Dc code pc .swap 1 pc')  (f : Go Z EL nw R Post K h S k n pc' L (y :: x :: st)) (hc : x.category = 1 := by rfl) (hc2 : y.category = 1 := by rfl) : Go Z EL nw R Post K h S k n pc L (x :: y :: st) := by
  obtain ⟨hd, rfl⟩ := hd
  exact Go.plain (fun T t X q => XS.swap X G.1 rfl (hb G.2.1 hd) rfl hc hc2 q) f
theorem Good.pop2L (G : Good Z a0 EL K own code maxL ret nm) {x : Int64} (hd : Dc code pc .pop2 1 pc') (f : Go Z EL nw R Post K h S k n pc' L st) : Go Z EL nw R Post K h S k n pc L (.long x :: st) := by
  obtain ⟨hd, rfl⟩ := hd
  refine Go.plain (fun T t X q => ?_) f
  have hd' := hb G.2.1 hd
  have hx := G.1
  jvm_step X [X.top, hx, hd', Value.category]
  exact q
theorem Good.dup2I (G : Good Z a0 EL K own code maxL ret nm) {x y : Value} (hd : Dc code pc .dup2 1 pc') (f : Go Z EL nw R Post K h S k n pc' L (x :: y :: x :: y :: st)) (hc : x.category = 1 := by rfl) (hc2 : y.category = 1 := by rfl) : Go Z EL nw R Post K h S k n pc L (x :: y :: st) := by
  obtain ⟨hd, rfl⟩ := hd
  exact Go.plain (fun T t X q => XT.dup2 X G.1 rfl (hb G.2.1 hd) rfl hc hc2 q) f
theorem Good.goto (G : Good Z a0 EL K own code maxL ret nm) (hd : Dj code pc .goto pc' pcY) (f : Go Z EL nw R Post K h S k n pcY L st) : Go Z EL nw R Post K h S k n pc L st := by
  obtain ⟨o, hd, rfl, ho, hp⟩ := hd
  exact Go.plain (fun T t X q => XS.goto X G.1 rfl (pc0 := pc) rfl (hb G.2.1 hd) ho hp q) f
theorem Good.icmp (G : Good Z a0 EL K own code maxL ret nm) {cd : ClassFile.Cond} {x y : Int32} (hd : Dj code pc (.if_icmp cd) pc' pcY) (fY : if_icmp.holds cd x y = true → Go Z EL nw R Post K h S k n pcY L st) (fN : if_icmp.holds cd x y = false → Go Z EL nw R Post K h S k n pc' L st) : Go Z EL nw R Post K h S k n pc L (.int y :: .int x :: st) := by
  obtain ⟨o, hd, rfl, ho, hp⟩ := hd
  cases hc : if_icmp.holds cd x y
  · exact Go.plain (fun T t X q => XS.icmpNo X G.1 rfl (hb G.2.1 hd) rfl hc q) (fN hc)
  · exact Go.plain (fun T t X q => XS.icmpYes X G.1 rfl (pc0 := pc) rfl (hb G.2.1 hd) rfl hc ho hp q) (fY hc)
theorem Good.ifc (G : Good Z a0 EL K own code maxL ret nm) {cd : ClassFile.Cond} {x : Int32} (hd : Dj code pc (.ifCond cd) pc' pcY) (fY : if_icmp.holds cd x 0 = true → Go Z EL nw R Post K h S k n pcY L st) (fN : if_icmp.holds cd x 0 = false → Go Z EL nw R Post K h S k n pc' L st) : Go Z EL nw R Post K h S k n pc L (.int x :: st) := by
  obtain ⟨o, hd, rfl, ho, hp⟩ := hd
  cases hc : if_icmp.holds cd x 0
  · exact Go.plain (fun T t X q => XS.ifNo X G.1 rfl (hb G.2.1 hd) rfl ((if0 _ _).trans hc) q) (fN hc)
  · exact Go.plain (fun T t X q => XS.ifYes X G.1 rfl (pc0 := pc) rfl (hb G.2.1 hd) rfl ((if0 _ _).trans hc) ho hp q) (fY hc)
theorem hold_lt {x y : Int32} : (if_icmp.holds .lt x y = true → x < y) ∧ (if_icmp.holds .lt x y = false → ¬ x < y) := ⟨fun q => (by by_cases z : x < y; exact z; rw [(flt z).1] at q; cases q), fun q z => by rw [(tlt z).1] at q; cases q⟩
theorem hold_ge {x y : Int32} : (if_icmp.holds .ge x y = true → ¬ x < y) ∧ (if_icmp.holds .ge x y = false → x < y) := ⟨fun q z => (by rw [(tlt z).2.1] at q; cases q), fun q => by by_cases z : x < y; exact z; rw [(flt z).2.1] at q; cases q⟩
theorem hold_gt {x y : Int32} : (if_icmp.holds .gt x y = true → y < x) ∧ (if_icmp.holds .gt x y = false → ¬ y < x) := ⟨fun q => (by by_cases z : y < x; exact z; rw [(flt z).2.2.1] at q; cases q), fun q z => by rw [(tlt z).2.2.1] at q; cases q⟩
theorem hold_le {x y : Int32} : (if_icmp.holds .le x y = true → ¬ y < x) ∧ (if_icmp.holds .le x y = false → y < x) := ⟨fun q z => (by rw [(tlt z).2.2.2] at q; cases q), fun q => by by_cases z : y < x; exact z; rw [(flt z).2.2.2] at q; cases q⟩
theorem hold_eq {x y : Int32} : (if_icmp.holds .eq x y = true → x = y) ∧ (if_icmp.holds .eq x y = false → ¬ x = y) := ⟨fun q => (by by_cases z : x = y; exact z; rw [(feq z).1] at q; cases q), fun q z => by rw [(teq z).1] at q; cases q⟩
theorem hold_ne {x y : Int32} : (if_icmp.holds .ne x y = true → ¬ x = y) ∧ (if_icmp.holds .ne x y = false → x = y) := ⟨fun q z => (by rw [(teq z).2] at q; cases q), fun q => by by_cases z : x = y; exact z; rw [(feq z).2] at q; cases q⟩
theorem Good.icmp_lt (G : Good Z a0 EL K own code maxL ret nm) {x y : Int32} (hd : Dj code pc (.if_icmp .lt) pc' pcY) (fY : x < y → Go Z EL nw R Post K h S k n pcY L st) (fN : ¬ x < y → Go Z EL nw R Post K h S k n pc' L st) : Go Z EL nw R Post K h S k n pc L (.int y :: .int x :: st) := G.icmp hd (fun q => fY (hold_lt.1 q)) (fun q => fN (hold_lt.2 q))
theorem Good.if_lt (G : Good Z a0 EL K own code maxL ret nm) {x : Int32} (hd : Dj code pc (.ifCond .lt) pc' pcY) (fY : x < 0 → Go Z EL nw R Post K h S k n pcY L st) (fN : ¬ x < 0 → Go Z EL nw R Post K h S k n pc' L st) : Go Z EL nw R Post K h S k n pc L (.int x :: st) := G.ifc hd (fun q => fY (hold_lt.1 q)) (fun q => fN (hold_lt.2 q))
theorem Good.icmp_ge (G : Good Z a0 EL K own code maxL ret nm) {x y : Int32} (hd : Dj code pc (.if_icmp .ge) pc' pcY) (fY : ¬ x < y → Go Z EL nw R Post K h S k n pcY L st) (fN : x < y → Go Z EL nw R Post K h S k n pc' L st) : Go Z EL nw R Post K h S k n pc L (.int y :: .int x :: st) := G.icmp hd (fun q => fY (hold_ge.1 q)) (fun q => fN (hold_ge.2 q))
theorem Good.if_ge (G : Good Z a0 EL K own code maxL ret nm) {x : Int32} (hd : Dj code pc (.ifCond .ge) pc' pcY) (fY : ¬ x < 0 → Go Z EL nw R Post K h S k n pcY L st) (fN : x < 0 → Go Z EL nw R Post K h S k n pc' L st) : Go Z EL nw R Post K h S k n pc L (.int x :: st) := G.ifc hd (fun q => fY (hold_ge.1 q)) (fun q => fN (hold_ge.2 q))
theorem Good.icmp_gt (G : Good Z a0 EL K own code maxL ret nm) {x y : Int32} (hd : Dj code pc (.if_icmp .gt) pc' pcY) (fY : y < x → Go Z EL nw R Post K h S k n pcY L st) (fN : ¬ y < x → Go Z EL nw R Post K h S k n pc' L st) : Go Z EL nw R Post K h S k n pc L (.int y :: .int x :: st) := G.icmp hd (fun q => fY (hold_gt.1 q)) (fun q => fN (hold_gt.2 q))
theorem Good.if_gt (G : Good Z a0 EL K own code maxL ret nm) {x : Int32} (hd : Dj code pc (.ifCond .gt) pc' pcY) (fY : 0 < x → Go Z EL nw R Post K h S k n pcY L st) (fN : ¬ 0 < x → Go Z EL nw R Post K h S k n pc' L st) : Go Z EL nw R Post K h S k n pc L (.int x :: st) := G.ifc hd (fun q => fY (hold_gt.1 q)) (fun q => fN (hold_gt.2 q))
theorem Good.icmp_le (G : Good Z a0 EL K own code maxL ret nm) {x y : Int32} (hd : Dj code pc (.if_icmp .le) pc' pcY) (fY : ¬ y < x → Go Z EL nw R Post K h S k n pcY L st) (fN : y < x → Go Z EL nw R Post K h S k n pc' L st) : Go Z EL nw R Post K h S k n pc L (.int y :: .int x :: st) := G.icmp hd (fun q => fY (hold_le.1 q)) (fun q => fN (hold_le.2 q))
theorem Good.if_le (G : Good Z a0 EL K own code maxL ret nm) {x : Int32} (hd : Dj code pc (.ifCond .le) pc' pcY) (fY : ¬ 0 < x → Go Z EL nw R Post K h S k n pcY L st) (fN : 0 < x → Go Z EL nw R Post K h S k n pc' L st) : Go Z EL nw R Post K h S k n pc L (.int x :: st) := G.ifc hd (fun q => fY (hold_le.1 q)) (fun q => fN (hold_le.2 q))
theorem Good.icmp_eq (G : Good Z a0 EL K own code maxL ret nm) {x y : Int32} (hd : Dj code pc (.if_icmp .eq) pc' pcY) (fY : x = y → Go Z EL nw R Post K h S k n pcY L st) (fN : ¬ x = y → Go Z EL nw R Post K h S k n pc' L st) : Go Z EL nw R Post K h S k n pc L (.int y :: .int x :: st) := G.icmp hd (fun q => fY (hold_eq.1 q)) (fun q => fN (hold_eq.2 q))
theorem Good.if_eq (G : Good Z a0 EL K own code maxL ret nm) {x : Int32} (hd : Dj code pc (.ifCond .eq) pc' pcY) (fY : x = 0 → Go Z EL nw R Post K h S k n pcY L st) (fN : ¬ x = 0 → Go Z EL nw R Post K h S k n pc' L st) : Go Z EL nw R Post K h S k n pc L (.int x :: st) := G.ifc hd (fun q => fY (hold_eq.1 q)) (fun q => fN (hold_eq.2 q))
theorem Good.icmp_ne (G : Good Z a0 EL K own code maxL ret nm) {x y : Int32} (hd : Dj code pc (.if_icmp .ne) pc' pcY) (fY : ¬ x = y → Go Z EL nw R Post K h S k n pcY L st) (fN : x = y → Go Z EL nw R Post K h S k n pc' L st) : Go Z EL nw R Post K h S k n pc L (.int y :: .int x :: st) := G.icmp hd (fun q => fY (hold_ne.1 q)) (fun q => fN (hold_ne.2 q))
theorem Good.if_ne (G : Good Z a0 EL K own code maxL ret nm) {x : Int32} (hd : Dj code pc (.ifCond .ne) pc' pcY) (fY : ¬ x = 0 → Go Z EL nw R Post K h S k n pcY L st) (fN : x = 0 → Go Z EL nw R Post K h S k n pc' L st) : Go Z EL nw R Post K h S k n pc L (.int x :: st) := G.ifc hd (fun q => fY (hold_ne.1 q)) (fun q => fN (hold_ne.2 q))
theorem Good.ifnullR (G : Good Z a0 EL K own code maxL ret nm) {b : Addr} (hd : Dj code pc .ifnull pc' pcY) (f : Go Z EL nw R Post K h S k n pc' L st) : Go Z EL nw R Post K h S k n pc L (.ref b :: st) := by
  obtain ⟨o, hd, rfl, ho, hp⟩ := hd
  exact Go.plain (fun T t X q => XS.ifnullNo X G.1 rfl (hb G.2.1 hd) rfl q) f
theorem Good.ifnullN (G : Good Z a0 EL K own code maxL ret nm) (hd : Dj code pc .ifnull pc' pcY) (f : Go Z EL nw R Post K h S k n pcY L st) : Go Z EL nw R Post K h S k n pc L (.null :: st) := by
  obtain ⟨o, hd, rfl, ho, hp⟩ := hd
  exact Go.plain (fun T t X q => XS.ifnullYes X G.1 rfl (pc0 := pc) rfl (hb G.2.1 hd) rfl ho hp q) f
theorem Good.ifnonnullR (G : Good Z a0 EL K own code maxL ret nm) {b : Addr} (hd : Dj code pc .ifnonnull pc' pcY) (f : Go Z EL nw R Post K h S k n pcY L st) : Go Z EL nw R Post K h S k n pc L (.ref b :: st) := by
  obtain ⟨o, hd, rfl, ho, hp⟩ := hd
  exact Go.plain (fun T t X q => XS.ifnonnullYes X G.1 rfl (pc0 := pc) rfl (hb G.2.1 hd) rfl ho hp q) f
theorem Good.ifnonnullN (G : Good Z a0 EL K own code maxL ret nm) (hd : Dj code pc .ifnonnull pc' pcY) (f : Go Z EL nw R Post K h S k n pc' L st) : Go Z EL nw R Post K h S k n pc L (.null :: st) := by
  obtain ⟨o, hd, rfl, ho, hp⟩ := hd
  exact Go.plain (fun T t X q => XS.ifnonnullNo X G.1 rfl (hb G.2.1 hd) rfl q) f
theorem Good.acmp_eq (G : Good Z a0 EL K own code maxL ret nm) {x y : Value} (hd : Dj code pc (.if_acmp .eq) pc' pcY) (fY : x = y → Go Z EL nw R Post K h S k n pcY L st) (fN : ¬ x = y → Go Z EL nw R Post K h S k n pc' L st) (hx' : x.isRef = true := by rfl) (hy' : y.isRef = true := by rfl) : Go Z EL nw R Post K h S k n pc L (y :: x :: st) := by
  obtain ⟨o, hd, rfl, ho, hp⟩ := hd
  by_cases z : x = y
  · exact Go.plain (fun T t X q => XT.acmpYes X G.1 rfl (pc0 := pc) rfl (hb G.2.1 hd) rfl hx' hy' (by simp [XT.acmp, z]) ho hp q) (fY z)
  · exact Go.plain (fun T t X q => XT.acmpNo X G.1 rfl (hb G.2.1 hd) rfl hx' hy' (by simp [XT.acmp, z]) q) (fN z)
theorem Good.acmp_ne (G : Good Z a0 EL K own code maxL ret nm) {x y : Value} (hd : Dj code pc (.if_acmp .ne) pc' pcY) (fY : ¬ x = y → Go Z EL nw R Post K h S k n pcY L st) (fN : x = y → Go Z EL nw R Post K h S k n pc' L st) (hx' : x.isRef = true := by rfl) (hy' : y.isRef = true := by rfl) : Go Z EL nw R Post K h S k n pc L (y :: x :: st) := by
  obtain ⟨o, hd, rfl, ho, hp⟩ := hd
  by_cases z : x = y
  · exact Go.plain (fun T t X q => XT.acmpNo X G.1 rfl (hb G.2.1 hd) rfl hx' hy' (by simp [XT.acmp, z]) q) (fN z)
  · exact Go.plain (fun T t X q => XT.acmpYes X G.1 rfl (pc0 := pc) rfl (hb G.2.1 hd) rfl hx' hy' (by simp [XT.acmp, z]) ho hp q) (fY z)
theorem Good.istoreG (G : Good Z a0 EL K own code maxL ret nm) {L' : List Slot} {j : Nat} {x : Int32} (hd : Dc code pc (.istore j) 2 pc') (hl : storeLocals L.toArray j (.int x) = some L'.toArray) (f : Go Z EL nw R Post K h S k n pc' L' st) : Go Z EL nw R Post K h S k n pc L (.int x :: st) := by
  obtain ⟨hd, rfl⟩ := hd
  exact Go.plain (fun T t X q => XS.istore X G.1 rfl (hb G.2.1 hd) rfl hl q) f
theorem Good.istoreNG (G : Good Z a0 EL K own code maxL ret nm) {L' : List Slot} {j : Fin 4} {x : Int32} (hd : Dc code pc (.istore_n j) 1 pc') (hl : storeLocals L.toArray j.val (.int x) = some L'.toArray) (f : Go Z EL nw R Post K h S k n pc' L' st) : Go Z EL nw R Post K h S k n pc L (.int x :: st) := by
  obtain ⟨hd, rfl⟩ := hd
  exact Go.plain (fun T t X q => XS.istoreN X G.1 rfl (hb G.2.1 hd) rfl hl q) f
theorem Good.astoreG (G : Good Z a0 EL K own code maxL ret nm) {L' : List Slot} {j : Nat} {x : Value} (hd : Dc code pc (.astore j) 2 pc') (hv : x.isRef = true) (hl : storeLocals L.toArray j x = some L'.toArray) (f : Go Z EL nw R Post K h S k n pc' L' st) : Go Z EL nw R Post K h S k n pc L (x :: st) := by
  obtain ⟨hd, rfl⟩ := hd
  exact Go.plain (fun T t X q => XS.astore X G.1 rfl (hb G.2.1 hd) rfl hv hl q) f
theorem Good.astoreNG (G : Good Z a0 EL K own code maxL ret nm) {L' : List Slot} {j : Fin 4} {x : Value} (hd : Dc code pc (.astore_n j) 1 pc') (hv : x.isRef = true) (hl : storeLocals L.toArray j.val x = some L'.toArray) (f : Go Z EL nw R Post K h S k n pc' L' st) : Go Z EL nw R Post K h S k n pc L (x :: st) := by
  obtain ⟨hd, rfl⟩ := hd
  exact Go.plain (fun T t X q => XS.astoreN X G.1 rfl (hb G.2.1 hd) rfl hv hl q) f
theorem Good.lstoreG (G : Good Z a0 EL K own code maxL ret nm) {L' : List Slot} {j : Nat} {x : Int64} (hd : Dc code pc (.lstore j) 2 pc') (hl : storeLocals L.toArray j (.long x) = some L'.toArray) (f : Go Z EL nw R Post K h S k n pc' L' st) : Go Z EL nw R Post K h S k n pc L (.long x :: st) := by
  obtain ⟨hd, rfl⟩ := hd
  exact Go.plain (fun T t X q => XS.lstore X G.1 rfl (hb G.2.1 hd) rfl hl q) f
theorem Good.lstoreNG (G : Good Z a0 EL K own code maxL ret nm) {L' : List Slot} {j : Fin 4} {x : Int64} (hd : Dc code pc (.lstore_n j) 1 pc') (hl : storeLocals L.toArray j.val (.long x) = some L'.toArray) (f : Go Z EL nw R Post K h S k n pc' L' st) : Go Z EL nw R Post K h S k n pc L (.long x :: st) := by
  obtain ⟨hd, rfl⟩ := hd
  exact Go.plain (fun T t X q => XS.lstoreN X G.1 rfl (hb G.2.1 hd) rfl hl q) f
theorem Good.iincG (G : Good Z a0 EL K own code maxL ret nm) {L' : List Slot} {j : Nat} {c : Int} {x : Int32} (hd : Dc code pc (.iinc j c) 3 pc') (hx : L[j]? = some (.val (.int x))) (hl : storeLocals L.toArray j (.int (x + Int32.ofInt c)) = some L'.toArray) (f : Go Z EL nw R Post K h S k n pc' L' st) : Go Z EL nw R Post K h S k n pc L st := by
  obtain ⟨hd, rfl⟩ := hd
  exact Go.plain (fun T t X q => XS.iinc X G.1 rfl (hb G.2.1 hd) (by simpa using hx) hl q) f
theorem Good.istore0 (G : Good Z a0 EL K own code maxL ret nm) {x0 : Slot} {r : List Slot} {x : Int32} (hd : Dc code pc (.istore_n 0) 1 pc') (f : Go Z EL nw R Post K h S k n pc' (.val (.int x) :: r) st) (hl : storeLocals (x0 :: r).toArray 0 (.int x) = some (.val (.int x) :: r).toArray := by rfl) : Go Z EL nw R Post K h S k n pc (x0 :: r) (.int x :: st) := G.istoreNG hd hl f
theorem Good.astore0 (G : Good Z a0 EL K own code maxL ret nm) {x0 : Slot} {r : List Slot} {x : Value} (hd : Dc code pc (.astore_n 0) 1 pc') (f : Go Z EL nw R Post K h S k n pc' (.val x :: r) st) (hv : x.isRef = true := by rfl) (hl : storeLocals (x0 :: r).toArray 0 x = some (.val x :: r).toArray := by rfl) : Go Z EL nw R Post K h S k n pc (x0 :: r) (x :: st) := G.astoreNG hd hv hl f
theorem Good.lstore0 (G : Good Z a0 EL K own code maxL ret nm) {x0 y : Slot} {r : List Slot} {x : Int64} (hd : Dc code pc (.lstore_n 0) 1 pc') (f : Go Z EL nw R Post K h S k n pc' (.val (.long x) :: .second :: r) st) (hl : storeLocals (x0 :: y :: r).toArray 0 (.long x) = some (.val (.long x) :: .second :: r).toArray := by rfl) : Go Z EL nw R Post K h S k n pc (x0 :: y :: r) (.long x :: st) := G.lstoreNG hd hl f
theorem Good.iinc0 (G : Good Z a0 EL K own code maxL ret nm) (z : Int32) {r : List Slot} {c : Int} {x : Int32} (hd : Dc code pc (.iinc 0 c) 3 pc') (f : Go Z EL nw R Post K h S k n pc' (.val (.int (x + z)) :: r) st) (hz : Int32.ofInt c = z := by decide) : Go Z EL nw R Post K h S k n pc (.val (.int x) :: r) st := by subst hz; exact G.iincG hd rfl rfl f
theorem Good.istore1 (G : Good Z a0 EL K own code maxL ret nm) {x0 x1 : Slot} {r : List Slot} {x : Int32} (hd : Dc code pc (.istore_n 1) 1 pc') (f : Go Z EL nw R Post K h S k n pc' (x0 :: .val (.int x) :: r) st) (hl : storeLocals (x0 :: x1 :: r).toArray 1 (.int x) = some (x0 :: .val (.int x) :: r).toArray := by rfl) : Go Z EL nw R Post K h S k n pc (x0 :: x1 :: r) (.int x :: st) := G.istoreNG hd hl f
theorem Good.astore1 (G : Good Z a0 EL K own code maxL ret nm) {x0 x1 : Slot} {r : List Slot} {x : Value} (hd : Dc code pc (.astore_n 1) 1 pc') (f : Go Z EL nw R Post K h S k n pc' (x0 :: .val x :: r) st) (hv : x.isRef = true := by rfl) (hl : storeLocals (x0 :: x1 :: r).toArray 1 x = some (x0 :: .val x :: r).toArray := by rfl) : Go Z EL nw R Post K h S k n pc (x0 :: x1 :: r) (x :: st) := G.astoreNG hd hv hl f
theorem Good.lstore1 (G : Good Z a0 EL K own code maxL ret nm) {x0 x1 y : Slot} {r : List Slot} {x : Int64} (hd : Dc code pc (.lstore_n 1) 1 pc') (f : Go Z EL nw R Post K h S k n pc' (x0 :: .val (.long x) :: .second :: r) st) (hl : storeLocals (x0 :: x1 :: y :: r).toArray 1 (.long x) = some (x0 :: .val (.long x) :: .second :: r).toArray := by rfl) : Go Z EL nw R Post K h S k n pc (x0 :: x1 :: y :: r) (.long x :: st) := G.lstoreNG hd hl f
theorem Good.iinc1 (G : Good Z a0 EL K own code maxL ret nm) (z : Int32) {x0 : Slot} {r : List Slot} {c : Int} {x : Int32} (hd : Dc code pc (.iinc 1 c) 3 pc') (f : Go Z EL nw R Post K h S k n pc' (x0 :: .val (.int (x + z)) :: r) st) (hz : Int32.ofInt c = z := by decide) : Go Z EL nw R Post K h S k n pc (x0 :: .val (.int x) :: r) st := by subst hz; exact G.iincG hd rfl rfl f
theorem Good.istore2 (G : Good Z a0 EL K own code maxL ret nm) {x0 x1 x2 : Slot} {r : List Slot} {x : Int32} (hd : Dc code pc (.istore_n 2) 1 pc') (f : Go Z EL nw R Post K h S k n pc' (x0 :: x1 :: .val (.int x) :: r) st) (hl : storeLocals (x0 :: x1 :: x2 :: r).toArray 2 (.int x) = some (x0 :: x1 :: .val (.int x) :: r).toArray := by rfl) : Go Z EL nw R Post K h S k n pc (x0 :: x1 :: x2 :: r) (.int x :: st) := G.istoreNG hd hl f
theorem Good.astore2 (G : Good Z a0 EL K own code maxL ret nm) {x0 x1 x2 : Slot} {r : List Slot} {x : Value} (hd : Dc code pc (.astore_n 2) 1 pc') (f : Go Z EL nw R Post K h S k n pc' (x0 :: x1 :: .val x :: r) st) (hv : x.isRef = true := by rfl) (hl : storeLocals (x0 :: x1 :: x2 :: r).toArray 2 x = some (x0 :: x1 :: .val x :: r).toArray := by rfl) : Go Z EL nw R Post K h S k n pc (x0 :: x1 :: x2 :: r) (x :: st) := G.astoreNG hd hv hl f
theorem Good.lstore2 (G : Good Z a0 EL K own code maxL ret nm) {x0 x1 x2 y : Slot} {r : List Slot} {x : Int64} (hd : Dc code pc (.lstore_n 2) 1 pc') (f : Go Z EL nw R Post K h S k n pc' (x0 :: x1 :: .val (.long x) :: .second :: r) st) (hl : storeLocals (x0 :: x1 :: x2 :: y :: r).toArray 2 (.long x) = some (x0 :: x1 :: .val (.long x) :: .second :: r).toArray := by rfl) : Go Z EL nw R Post K h S k n pc (x0 :: x1 :: x2 :: y :: r) (.long x :: st) := G.lstoreNG hd hl f
theorem Good.iinc2 (G : Good Z a0 EL K own code maxL ret nm) (z : Int32) {x0 x1 : Slot} {r : List Slot} {c : Int} {x : Int32} (hd : Dc code pc (.iinc 2 c) 3 pc') (f : Go Z EL nw R Post K h S k n pc' (x0 :: x1 :: .val (.int (x + z)) :: r) st) (hz : Int32.ofInt c = z := by decide) : Go Z EL nw R Post K h S k n pc (x0 :: x1 :: .val (.int x) :: r) st := by subst hz; exact G.iincG hd rfl rfl f
theorem Good.istore3 (G : Good Z a0 EL K own code maxL ret nm) {x0 x1 x2 x3 : Slot} {r : List Slot} {x : Int32} (hd : Dc code pc (.istore_n 3) 1 pc') (f : Go Z EL nw R Post K h S k n pc' (x0 :: x1 :: x2 :: .val (.int x) :: r) st) (hl : storeLocals (x0 :: x1 :: x2 :: x3 :: r).toArray 3 (.int x) = some (x0 :: x1 :: x2 :: .val (.int x) :: r).toArray := by rfl) : Go Z EL nw R Post K h S k n pc (x0 :: x1 :: x2 :: x3 :: r) (.int x :: st) := G.istoreNG hd hl f
theorem Good.astore3 (G : Good Z a0 EL K own code maxL ret nm) {x0 x1 x2 x3 : Slot} {r : List Slot} {x : Value} (hd : Dc code pc (.astore_n 3) 1 pc') (f : Go Z EL nw R Post K h S k n pc' (x0 :: x1 :: x2 :: .val x :: r) st) (hv : x.isRef = true := by rfl) (hl : storeLocals (x0 :: x1 :: x2 :: x3 :: r).toArray 3 x = some (x0 :: x1 :: x2 :: .val x :: r).toArray := by rfl) : Go Z EL nw R Post K h S k n pc (x0 :: x1 :: x2 :: x3 :: r) (x :: st) := G.astoreNG hd hv hl f
theorem Good.lstore3 (G : Good Z a0 EL K own code maxL ret nm) {x0 x1 x2 x3 y : Slot} {r : List Slot} {x : Int64} (hd : Dc code pc (.lstore_n 3) 1 pc') (f : Go Z EL nw R Post K h S k n pc' (x0 :: x1 :: x2 :: .val (.long x) :: .second :: r) st) (hl : storeLocals (x0 :: x1 :: x2 :: x3 :: y :: r).toArray 3 (.long x) = some (x0 :: x1 :: x2 :: .val (.long x) :: .second :: r).toArray := by rfl) : Go Z EL nw R Post K h S k n pc (x0 :: x1 :: x2 :: x3 :: y :: r) (.long x :: st) := G.lstoreNG hd hl f
theorem Good.iinc3 (G : Good Z a0 EL K own code maxL ret nm) (z : Int32) {x0 x1 x2 : Slot} {r : List Slot} {c : Int} {x : Int32} (hd : Dc code pc (.iinc 3 c) 3 pc') (f : Go Z EL nw R Post K h S k n pc' (x0 :: x1 :: x2 :: .val (.int (x + z)) :: r) st) (hz : Int32.ofInt c = z := by decide) : Go Z EL nw R Post K h S k n pc (x0 :: x1 :: x2 :: .val (.int x) :: r) st := by subst hz; exact G.iincG hd rfl rfl f
theorem Good.istore4 (G : Good Z a0 EL K own code maxL ret nm) {x0 x1 x2 x3 x4 : Slot} {r : List Slot} {x : Int32} (hd : Dc code pc (.istore 4) 2 pc') (f : Go Z EL nw R Post K h S k n pc' (x0 :: x1 :: x2 :: x3 :: .val (.int x) :: r) st) (hl : storeLocals (x0 :: x1 :: x2 :: x3 :: x4 :: r).toArray 4 (.int x) = some (x0 :: x1 :: x2 :: x3 :: .val (.int x) :: r).toArray := by rfl) : Go Z EL nw R Post K h S k n pc (x0 :: x1 :: x2 :: x3 :: x4 :: r) (.int x :: st) := G.istoreG hd hl f
theorem Good.astore4 (G : Good Z a0 EL K own code maxL ret nm) {x0 x1 x2 x3 x4 : Slot} {r : List Slot} {x : Value} (hd : Dc code pc (.astore 4) 2 pc') (f : Go Z EL nw R Post K h S k n pc' (x0 :: x1 :: x2 :: x3 :: .val x :: r) st) (hv : x.isRef = true := by rfl) (hl : storeLocals (x0 :: x1 :: x2 :: x3 :: x4 :: r).toArray 4 x = some (x0 :: x1 :: x2 :: x3 :: .val x :: r).toArray := by rfl) : Go Z EL nw R Post K h S k n pc (x0 :: x1 :: x2 :: x3 :: x4 :: r) (x :: st) := G.astoreG hd hv hl f
theorem Good.lstore4 (G : Good Z a0 EL K own code maxL ret nm) {x0 x1 x2 x3 x4 y : Slot} {r : List Slot} {x : Int64} (hd : Dc code pc (.lstore 4) 2 pc') (f : Go Z EL nw R Post K h S k n pc' (x0 :: x1 :: x2 :: x3 :: .val (.long x) :: .second :: r) st) (hl : storeLocals (x0 :: x1 :: x2 :: x3 :: x4 :: y :: r).toArray 4 (.long x) = some (x0 :: x1 :: x2 :: x3 :: .val (.long x) :: .second :: r).toArray := by rfl) : Go Z EL nw R Post K h S k n pc (x0 :: x1 :: x2 :: x3 :: x4 :: y :: r) (.long x :: st) := G.lstoreG hd hl f
theorem Good.iinc4 (G : Good Z a0 EL K own code maxL ret nm) (z : Int32) {x0 x1 x2 x3 : Slot} {r : List Slot} {c : Int} {x : Int32} (hd : Dc code pc (.iinc 4 c) 3 pc') (f : Go Z EL nw R Post K h S k n pc' (x0 :: x1 :: x2 :: x3 :: .val (.int (x + z)) :: r) st) (hz : Int32.ofInt c = z := by decide) : Go Z EL nw R Post K h S k n pc (x0 :: x1 :: x2 :: x3 :: .val (.int x) :: r) st := by subst hz; exact G.iincG hd rfl rfl f
theorem Good.istore5 (G : Good Z a0 EL K own code maxL ret nm) {x0 x1 x2 x3 x4 x5 : Slot} {r : List Slot} {x : Int32} (hd : Dc code pc (.istore 5) 2 pc') (f : Go Z EL nw R Post K h S k n pc' (x0 :: x1 :: x2 :: x3 :: x4 :: .val (.int x) :: r) st) (hl : storeLocals (x0 :: x1 :: x2 :: x3 :: x4 :: x5 :: r).toArray 5 (.int x) = some (x0 :: x1 :: x2 :: x3 :: x4 :: .val (.int x) :: r).toArray := by rfl) : Go Z EL nw R Post K h S k n pc (x0 :: x1 :: x2 :: x3 :: x4 :: x5 :: r) (.int x :: st) := G.istoreG hd hl f
theorem Good.astore5 (G : Good Z a0 EL K own code maxL ret nm) {x0 x1 x2 x3 x4 x5 : Slot} {r : List Slot} {x : Value} (hd : Dc code pc (.astore 5) 2 pc') (f : Go Z EL nw R Post K h S k n pc' (x0 :: x1 :: x2 :: x3 :: x4 :: .val x :: r) st) (hv : x.isRef = true := by rfl) (hl : storeLocals (x0 :: x1 :: x2 :: x3 :: x4 :: x5 :: r).toArray 5 x = some (x0 :: x1 :: x2 :: x3 :: x4 :: .val x :: r).toArray := by rfl) : Go Z EL nw R Post K h S k n pc (x0 :: x1 :: x2 :: x3 :: x4 :: x5 :: r) (x :: st) := G.astoreG hd hv hl f
theorem Good.lstore5 (G : Good Z a0 EL K own code maxL ret nm) {x0 x1 x2 x3 x4 x5 y : Slot} {r : List Slot} {x : Int64} (hd : Dc code pc (.lstore 5) 2 pc') (f : Go Z EL nw R Post K h S k n pc' (x0 :: x1 :: x2 :: x3 :: x4 :: .val (.long x) :: .second :: r) st) (hl : storeLocals (x0 :: x1 :: x2 :: x3 :: x4 :: x5 :: y :: r).toArray 5 (.long x) = some (x0 :: x1 :: x2 :: x3 :: x4 :: .val (.long x) :: .second :: r).toArray := by rfl) : Go Z EL nw R Post K h S k n pc (x0 :: x1 :: x2 :: x3 :: x4 :: x5 :: y :: r) (.long x :: st) := G.lstoreG hd hl f
theorem Good.iinc5 (G : Good Z a0 EL K own code maxL ret nm) (z : Int32) {x0 x1 x2 x3 x4 : Slot} {r : List Slot} {c : Int} {x : Int32} (hd : Dc code pc (.iinc 5 c) 3 pc') (f : Go Z EL nw R Post K h S k n pc' (x0 :: x1 :: x2 :: x3 :: x4 :: .val (.int (x + z)) :: r) st) (hz : Int32.ofInt c = z := by decide) : Go Z EL nw R Post K h S k n pc (x0 :: x1 :: x2 :: x3 :: x4 :: .val (.int x) :: r) st := by subst hz; exact G.iincG hd rfl rfl f
theorem Good.istore6 (G : Good Z a0 EL K own code maxL ret nm) {x0 x1 x2 x3 x4 x5 x6 : Slot} {r : List Slot} {x : Int32} (hd : Dc code pc (.istore 6) 2 pc') (f : Go Z EL nw R Post K h S k n pc' (x0 :: x1 :: x2 :: x3 :: x4 :: x5 :: .val (.int x) :: r) st) (hl : storeLocals (x0 :: x1 :: x2 :: x3 :: x4 :: x5 :: x6 :: r).toArray 6 (.int x) = some (x0 :: x1 :: x2 :: x3 :: x4 :: x5 :: .val (.int x) :: r).toArray := by rfl) : Go Z EL nw R Post K h S k n pc (x0 :: x1 :: x2 :: x3 :: x4 :: x5 :: x6 :: r) (.int x :: st) := G.istoreG hd hl f
theorem Good.astore6 (G : Good Z a0 EL K own code maxL ret nm) {x0 x1 x2 x3 x4 x5 x6 : Slot} {r : List Slot} {x : Value} (hd : Dc code pc (.astore 6) 2 pc') (f : Go Z EL nw R Post K h S k n pc' (x0 :: x1 :: x2 :: x3 :: x4 :: x5 :: .val x :: r) st) (hv : x.isRef = true := by rfl) (hl : storeLocals (x0 :: x1 :: x2 :: x3 :: x4 :: x5 :: x6 :: r).toArray 6 x = some (x0 :: x1 :: x2 :: x3 :: x4 :: x5 :: .val x :: r).toArray := by rfl) : Go Z EL nw R Post K h S k n pc (x0 :: x1 :: x2 :: x3 :: x4 :: x5 :: x6 :: r) (x :: st) := G.astoreG hd hv hl f
theorem Good.lstore6 (G : Good Z a0 EL K own code maxL ret nm) {x0 x1 x2 x3 x4 x5 x6 y : Slot} {r : List Slot} {x : Int64} (hd : Dc code pc (.lstore 6) 2 pc') (f : Go Z EL nw R Post K h S k n pc' (x0 :: x1 :: x2 :: x3 :: x4 :: x5 :: .val (.long x) :: .second :: r) st) (hl : storeLocals (x0 :: x1 :: x2 :: x3 :: x4 :: x5 :: x6 :: y :: r).toArray 6 (.long x) = some (x0 :: x1 :: x2 :: x3 :: x4 :: x5 :: .val (.long x) :: .second :: r).toArray := by rfl) : Go Z EL nw R Post K h S k n pc (x0 :: x1 :: x2 :: x3 :: x4 :: x5 :: x6 :: y :: r) (.long x :: st) := G.lstoreG hd hl f
theorem Good.iinc6 (G : Good Z a0 EL K own code maxL ret nm) (z : Int32) {x0 x1 x2 x3 x4 x5 : Slot} {r : List Slot} {c : Int} {x : Int32} (hd : Dc code pc (.iinc 6 c) 3 pc') (f : Go Z EL nw R Post K h S k n pc' (x0 :: x1 :: x2 :: x3 :: x4 :: x5 :: .val (.int (x + z)) :: r) st) (hz : Int32.ofInt c = z := by decide) : Go Z EL nw R Post K h S k n pc (x0 :: x1 :: x2 :: x3 :: x4 :: x5 :: .val (.int x) :: r) st := by subst hz; exact G.iincG hd rfl rfl f
theorem Good.istore7 (G : Good Z a0 EL K own code maxL ret nm) {x0 x1 x2 x3 x4 x5 x6 x7 : Slot} {r : List Slot} {x : Int32} (hd : Dc code pc (.istore 7) 2 pc') (f : Go Z EL nw R Post K h S k n pc' (x0 :: x1 :: x2 :: x3 :: x4 :: x5 :: x6 :: .val (.int x) :: r) st) (hl : storeLocals (x0 :: x1 :: x2 :: x3 :: x4 :: x5 :: x6 :: x7 :: r).toArray 7 (.int x) = some (x0 :: x1 :: x2 :: x3 :: x4 :: x5 :: x6 :: .val (.int x) :: r).toArray := by rfl) : Go Z EL nw R Post K h S k n pc (x0 :: x1 :: x2 :: x3 :: x4 :: x5 :: x6 :: x7 :: r) (.int x :: st) := G.istoreG hd hl f
theorem Good.astore7 (G : Good Z a0 EL K own code maxL ret nm) {x0 x1 x2 x3 x4 x5 x6 x7 : Slot} {r : List Slot} {x : Value} (hd : Dc code pc (.astore 7) 2 pc') (f : Go Z EL nw R Post K h S k n pc' (x0 :: x1 :: x2 :: x3 :: x4 :: x5 :: x6 :: .val x :: r) st) (hv : x.isRef = true := by rfl) (hl : storeLocals (x0 :: x1 :: x2 :: x3 :: x4 :: x5 :: x6 :: x7 :: r).toArray 7 x = some (x0 :: x1 :: x2 :: x3 :: x4 :: x5 :: x6 :: .val x :: r).toArray := by rfl) : Go Z EL nw R Post K h S k n pc (x0 :: x1 :: x2 :: x3 :: x4 :: x5 :: x6 :: x7 :: r) (x :: st) := G.astoreG hd hv hl f
theorem Good.lstore7 (G : Good Z a0 EL K own code maxL ret nm) {x0 x1 x2 x3 x4 x5 x6 x7 y : Slot} {r : List Slot} {x : Int64} (hd : Dc code pc (.lstore 7) 2 pc') (f : Go Z EL nw R Post K h S k n pc' (x0 :: x1 :: x2 :: x3 :: x4 :: x5 :: x6 :: .val (.long x) :: .second :: r) st) (hl : storeLocals (x0 :: x1 :: x2 :: x3 :: x4 :: x5 :: x6 :: x7 :: y :: r).toArray 7 (.long x) = some (x0 :: x1 :: x2 :: x3 :: x4 :: x5 :: x6 :: .val (.long x) :: .second :: r).toArray := by rfl) : Go Z EL nw R Post K h S k n pc (x0 :: x1 :: x2 :: x3 :: x4 :: x5 :: x6 :: x7 :: y :: r) (.long x :: st) := G.lstoreG hd hl f
theorem Good.iinc7 (G : Good Z a0 EL K own code maxL ret nm) (z : Int32) {x0 x1 x2 x3 x4 x5 x6 : Slot} {r : List Slot} {c : Int} {x : Int32} (hd : Dc code pc (.iinc 7 c) 3 pc') (f : Go Z EL nw R Post K h S k n pc' (x0 :: x1 :: x2 :: x3 :: x4 :: x5 :: x6 :: .val (.int (x + z)) :: r) st) (hz : Int32.ofInt c = z := by decide) : Go Z EL nw R Post K h S k n pc (x0 :: x1 :: x2 :: x3 :: x4 :: x5 :: x6 :: .val (.int x) :: r) st := by subst hz; exact G.iincG hd rfl rfl f
theorem Good.istore8 (G : Good Z a0 EL K own code maxL ret nm) {x0 x1 x2 x3 x4 x5 x6 x7 x8 : Slot} {r : List Slot} {x : Int32} (hd : Dc code pc (.istore 8) 2 pc') (f : Go Z EL nw R Post K h S k n pc' (x0 :: x1 :: x2 :: x3 :: x4 :: x5 :: x6 :: x7 :: .val (.int x) :: r) st) (hl : storeLocals (x0 :: x1 :: x2 :: x3 :: x4 :: x5 :: x6 :: x7 :: x8 :: r).toArray 8 (.int x) = some (x0 :: x1 :: x2 :: x3 :: x4 :: x5 :: x6 :: x7 :: .val (.int x) :: r).toArray := by rfl) : Go Z EL nw R Post K h S k n pc (x0 :: x1 :: x2 :: x3 :: x4 :: x5 :: x6 :: x7 :: x8 :: r) (.int x :: st) := G.istoreG hd hl f
theorem Good.astore8 (G : Good Z a0 EL K own code maxL ret nm) {x0 x1 x2 x3 x4 x5 x6 x7 x8 : Slot} {r : List Slot} {x : Value} (hd : Dc code pc (.astore 8) 2 pc') (f : Go Z EL nw R Post K h S k n pc' (x0 :: x1 :: x2 :: x3 :: x4 :: x5 :: x6 :: x7 :: .val x :: r) st) (hv : x.isRef = true := by rfl) (hl : storeLocals (x0 :: x1 :: x2 :: x3 :: x4 :: x5 :: x6 :: x7 :: x8 :: r).toArray 8 x = some (x0 :: x1 :: x2 :: x3 :: x4 :: x5 :: x6 :: x7 :: .val x :: r).toArray := by rfl) : Go Z EL nw R Post K h S k n pc (x0 :: x1 :: x2 :: x3 :: x4 :: x5 :: x6 :: x7 :: x8 :: r) (x :: st) := G.astoreG hd hv hl f
theorem Good.lstore8 (G : Good Z a0 EL K own code maxL ret nm) {x0 x1 x2 x3 x4 x5 x6 x7 x8 y : Slot} {r : List Slot} {x : Int64} (hd : Dc code pc (.lstore 8) 2 pc') (f : Go Z EL nw R Post K h S k n pc' (x0 :: x1 :: x2 :: x3 :: x4 :: x5 :: x6 :: x7 :: .val (.long x) :: .second :: r) st) (hl : storeLocals (x0 :: x1 :: x2 :: x3 :: x4 :: x5 :: x6 :: x7 :: x8 :: y :: r).toArray 8 (.long x) = some (x0 :: x1 :: x2 :: x3 :: x4 :: x5 :: x6 :: x7 :: .val (.long x) :: .second :: r).toArray := by rfl) : Go Z EL nw R Post K h S k n pc (x0 :: x1 :: x2 :: x3 :: x4 :: x5 :: x6 :: x7 :: x8 :: y :: r) (.long x :: st) := G.lstoreG hd hl f
theorem Good.iinc8 (G : Good Z a0 EL K own code maxL ret nm) (z : Int32) {x0 x1 x2 x3 x4 x5 x6 x7 : Slot} {r : List Slot} {c : Int} {x : Int32} (hd : Dc code pc (.iinc 8 c) 3 pc') (f : Go Z EL nw R Post K h S k n pc' (x0 :: x1 :: x2 :: x3 :: x4 :: x5 :: x6 :: x7 :: .val (.int (x + z)) :: r) st) (hz : Int32.ofInt c = z := by decide) : Go Z EL nw R Post K h S k n pc (x0 :: x1 :: x2 :: x3 :: x4 :: x5 :: x6 :: x7 :: .val (.int x) :: r) st := by subst hz; exact G.iincG hd rfl rfl f
theorem Good.istore9 (G : Good Z a0 EL K own code maxL ret nm) {x0 x1 x2 x3 x4 x5 x6 x7 x8 x9 : Slot} {r : List Slot} {x : Int32} (hd : Dc code pc (.istore 9) 2 pc') (f : Go Z EL nw R Post K h S k n pc' (x0 :: x1 :: x2 :: x3 :: x4 :: x5 :: x6 :: x7 :: x8 :: .val (.int x) :: r) st) (hl : storeLocals (x0 :: x1 :: x2 :: x3 :: x4 :: x5 :: x6 :: x7 :: x8 :: x9 :: r).toArray 9 (.int x) = some (x0 :: x1 :: x2 :: x3 :: x4 :: x5 :: x6 :: x7 :: x8 :: .val (.int x) :: r).toArray := by rfl) : Go Z EL nw R Post K h S k n pc (x0 :: x1 :: x2 :: x3 :: x4 :: x5 :: x6 :: x7 :: x8 :: x9 :: r) (.int x :: st) := G.istoreG hd hl f
theorem Good.astore9 (G : Good Z a0 EL K own code maxL ret nm) {x0 x1 x2 x3 x4 x5 x6 x7 x8 x9 : Slot} {r : List Slot} {x : Value} (hd : Dc code pc (.astore 9) 2 pc') (f : Go Z EL nw R Post K h S k n pc' (x0 :: x1 :: x2 :: x3 :: x4 :: x5 :: x6 :: x7 :: x8 :: .val x :: r) st) (hv : x.isRef = true := by rfl) (hl : storeLocals (x0 :: x1 :: x2 :: x3 :: x4 :: x5 :: x6 :: x7 :: x8 :: x9 :: r).toArray 9 x = some (x0 :: x1 :: x2 :: x3 :: x4 :: x5 :: x6 :: x7 :: x8 :: .val x :: r).toArray := by rfl) : Go Z EL nw R Post K h S k n pc (x0 :: x1 :: x2 :: x3 :: x4 :: x5 :: x6 :: x7 :: x8 :: x9 :: r) (x :: st) := G.astoreG hd hv hl f
theorem Good.lstore9 (G : Good Z a0 EL K own code maxL ret nm) {x0 x1 x2 x3 x4 x5 x6 x7 x8 x9 y : Slot} {r : List Slot} {x : Int64} (hd : Dc code pc (.lstore 9) 2 pc') (f : Go Z EL nw R Post K h S k n pc' (x0 :: x1 :: x2 :: x3 :: x4 :: x5 :: x6 :: x7 :: x8 :: .val (.long x) :: .second :: r) st) (hl : storeLocals (x0 :: x1 :: x2 :: x3 :: x4 :: x5 :: x6 :: x7 :: x8 :: x9 :: y :: r).toArray 9 (.long x) = some (x0 :: x1 :: x2 :: x3 :: x4 :: x5 :: x6 :: x7 :: x8 :: .val (.long x) :: .second :: r).toArray := by rfl) : Go Z EL nw R Post K h S k n pc (x0 :: x1 :: x2 :: x3 :: x4 :: x5 :: x6 :: x7 :: x8 :: x9 :: y :: r) (.long x :: st) := G.lstoreG hd hl f
theorem Good.iinc9 (G : Good Z a0 EL K own code maxL ret nm) (z : Int32) {x0 x1 x2 x3 x4 x5 x6 x7 x8 : Slot} {r : List Slot} {c : Int} {x : Int32} (hd : Dc code pc (.iinc 9 c) 3 pc') (f : Go Z EL nw R Post K h S k n pc' (x0 :: x1 :: x2 :: x3 :: x4 :: x5 :: x6 :: x7 :: x8 :: .val (.int (x + z)) :: r) st) (hz : Int32.ofInt c = z := by decide) : Go Z EL nw R Post K h S k n pc (x0 :: x1 :: x2 :: x3 :: x4 :: x5 :: x6 :: x7 :: x8 :: .val (.int x) :: r) st := by subst hz; exact G.iincG hd rfl rfl f
theorem Good.istore10 (G : Good Z a0 EL K own code maxL ret nm) {x0 x1 x2 x3 x4 x5 x6 x7 x8 x9 x10 : Slot} {r : List Slot} {x : Int32} (hd : Dc code pc (.istore 10) 2 pc') (f : Go Z EL nw R Post K h S k n pc' (x0 :: x1 :: x2 :: x3 :: x4 :: x5 :: x6 :: x7 :: x8 :: x9 :: .val (.int x) :: r) st) (hl : storeLocals (x0 :: x1 :: x2 :: x3 :: x4 :: x5 :: x6 :: x7 :: x8 :: x9 :: x10 :: r).toArray 10 (.int x) = some (x0 :: x1 :: x2 :: x3 :: x4 :: x5 :: x6 :: x7 :: x8 :: x9 :: .val (.int x) :: r).toArray := by rfl) : Go Z EL nw R Post K h S k n pc (x0 :: x1 :: x2 :: x3 :: x4 :: x5 :: x6 :: x7 :: x8 :: x9 :: x10 :: r) (.int x :: st) := G.istoreG hd hl f
theorem Good.astore10 (G : Good Z a0 EL K own code maxL ret nm) {x0 x1 x2 x3 x4 x5 x6 x7 x8 x9 x10 : Slot} {r : List Slot} {x : Value} (hd : Dc code pc (.astore 10) 2 pc') (f : Go Z EL nw R Post K h S k n pc' (x0 :: x1 :: x2 :: x3 :: x4 :: x5 :: x6 :: x7 :: x8 :: x9 :: .val x :: r) st) (hv : x.isRef = true := by rfl) (hl : storeLocals (x0 :: x1 :: x2 :: x3 :: x4 :: x5 :: x6 :: x7 :: x8 :: x9 :: x10 :: r).toArray 10 x = some (x0 :: x1 :: x2 :: x3 :: x4 :: x5 :: x6 :: x7 :: x8 :: x9 :: .val x :: r).toArray := by rfl) : Go Z EL nw R Post K h S k n pc (x0 :: x1 :: x2 :: x3 :: x4 :: x5 :: x6 :: x7 :: x8 :: x9 :: x10 :: r) (x :: st) := G.astoreG hd hv hl f
theorem Good.lstore10 (G : Good Z a0 EL K own code maxL ret nm) {x0 x1 x2 x3 x4 x5 x6 x7 x8 x9 x10 y : Slot} {r : List Slot} {x : Int64} (hd : Dc code pc (.lstore 10) 2 pc') (f : Go Z EL nw R Post K h S k n pc' (x0 :: x1 :: x2 :: x3 :: x4 :: x5 :: x6 :: x7 :: x8 :: x9 :: .val (.long x) :: .second :: r) st) (hl : storeLocals (x0 :: x1 :: x2 :: x3 :: x4 :: x5 :: x6 :: x7 :: x8 :: x9 :: x10 :: y :: r).toArray 10 (.long x) = some (x0 :: x1 :: x2 :: x3 :: x4 :: x5 :: x6 :: x7 :: x8 :: x9 :: .val (.long x) :: .second :: r).toArray := by rfl) : Go Z EL nw R Post K h S k n pc (x0 :: x1 :: x2 :: x3 :: x4 :: x5 :: x6 :: x7 :: x8 :: x9 :: x10 :: y :: r) (.long x :: st) := G.lstoreG hd hl f
theorem Good.iinc10 (G : Good Z a0 EL K own code maxL ret nm) (z : Int32) {x0 x1 x2 x3 x4 x5 x6 x7 x8 x9 : Slot} {r : List Slot} {c : Int} {x : Int32} (hd : Dc code pc (.iinc 10 c) 3 pc') (f : Go Z EL nw R Post K h S k n pc' (x0 :: x1 :: x2 :: x3 :: x4 :: x5 :: x6 :: x7 :: x8 :: x9 :: .val (.int (x + z)) :: r) st) (hz : Int32.ofInt c = z := by decide) : Go Z EL nw R Post K h S k n pc (x0 :: x1 :: x2 :: x3 :: x4 :: x5 :: x6 :: x7 :: x8 :: x9 :: .val (.int x) :: r) st := by subst hz; exact G.iincG hd rfl rfl f
theorem Good.istore11 (G : Good Z a0 EL K own code maxL ret nm) {x0 x1 x2 x3 x4 x5 x6 x7 x8 x9 x10 x11 : Slot} {r : List Slot} {x : Int32} (hd : Dc code pc (.istore 11) 2 pc') (f : Go Z EL nw R Post K h S k n pc' (x0 :: x1 :: x2 :: x3 :: x4 :: x5 :: x6 :: x7 :: x8 :: x9 :: x10 :: .val (.int x) :: r) st) (hl : storeLocals (x0 :: x1 :: x2 :: x3 :: x4 :: x5 :: x6 :: x7 :: x8 :: x9 :: x10 :: x11 :: r).toArray 11 (.int x) = some (x0 :: x1 :: x2 :: x3 :: x4 :: x5 :: x6 :: x7 :: x8 :: x9 :: x10 :: .val (.int x) :: r).toArray := by rfl) : Go Z EL nw R Post K h S k n pc (x0 :: x1 :: x2 :: x3 :: x4 :: x5 :: x6 :: x7 :: x8 :: x9 :: x10 :: x11 :: r) (.int x :: st) := G.istoreG hd hl f
theorem Good.astore11 (G : Good Z a0 EL K own code maxL ret nm) {x0 x1 x2 x3 x4 x5 x6 x7 x8 x9 x10 x11 : Slot} {r : List Slot} {x : Value} (hd : Dc code pc (.astore 11) 2 pc') (f : Go Z EL nw R Post K h S k n pc' (x0 :: x1 :: x2 :: x3 :: x4 :: x5 :: x6 :: x7 :: x8 :: x9 :: x10 :: .val x :: r) st) (hv : x.isRef = true := by rfl) (hl : storeLocals (x0 :: x1 :: x2 :: x3 :: x4 :: x5 :: x6 :: x7 :: x8 :: x9 :: x10 :: x11 :: r).toArray 11 x = some (x0 :: x1 :: x2 :: x3 :: x4 :: x5 :: x6 :: x7 :: x8 :: x9 :: x10 :: .val x :: r).toArray := by rfl) : Go Z EL nw R Post K h S k n pc (x0 :: x1 :: x2 :: x3 :: x4 :: x5 :: x6 :: x7 :: x8 :: x9 :: x10 :: x11 :: r) (x :: st) := G.astoreG hd hv hl f
theorem Good.lstore11 (G : Good Z a0 EL K own code maxL ret nm) {x0 x1 x2 x3 x4 x5 x6 x7 x8 x9 x10 x11 y : Slot} {r : List Slot} {x : Int64} (hd : Dc code pc (.lstore 11) 2 pc') (f : Go Z EL nw R Post K h S k n pc' (x0 :: x1 :: x2 :: x3 :: x4 :: x5 :: x6 :: x7 :: x8 :: x9 :: x10 :: .val (.long x) :: .second :: r) st) (hl : storeLocals (x0 :: x1 :: x2 :: x3 :: x4 :: x5 :: x6 :: x7 :: x8 :: x9 :: x10 :: x11 :: y :: r).toArray 11 (.long x) = some (x0 :: x1 :: x2 :: x3 :: x4 :: x5 :: x6 :: x7 :: x8 :: x9 :: x10 :: .val (.long x) :: .second :: r).toArray := by rfl) : Go Z EL nw R Post K h S k n pc (x0 :: x1 :: x2 :: x3 :: x4 :: x5 :: x6 :: x7 :: x8 :: x9 :: x10 :: x11 :: y :: r) (.long x :: st) := G.lstoreG hd hl f
theorem Good.iinc11 (G : Good Z a0 EL K own code maxL ret nm) (z : Int32) {x0 x1 x2 x3 x4 x5 x6 x7 x8 x9 x10 : Slot} {r : List Slot} {c : Int} {x : Int32} (hd : Dc code pc (.iinc 11 c) 3 pc') (f : Go Z EL nw R Post K h S k n pc' (x0 :: x1 :: x2 :: x3 :: x4 :: x5 :: x6 :: x7 :: x8 :: x9 :: x10 :: .val (.int (x + z)) :: r) st) (hz : Int32.ofInt c = z := by decide) : Go Z EL nw R Post K h S k n pc (x0 :: x1 :: x2 :: x3 :: x4 :: x5 :: x6 :: x7 :: x8 :: x9 :: x10 :: .val (.int x) :: r) st := by subst hz; exact G.iincG hd rfl rfl f
theorem Good.istore12 (G : Good Z a0 EL K own code maxL ret nm) {x0 x1 x2 x3 x4 x5 x6 x7 x8 x9 x10 x11 x12 : Slot} {r : List Slot} {x : Int32} (hd : Dc code pc (.istore 12) 2 pc') (f : Go Z EL nw R Post K h S k n pc' (x0 :: x1 :: x2 :: x3 :: x4 :: x5 :: x6 :: x7 :: x8 :: x9 :: x10 :: x11 :: .val (.int x) :: r) st) (hl : storeLocals (x0 :: x1 :: x2 :: x3 :: x4 :: x5 :: x6 :: x7 :: x8 :: x9 :: x10 :: x11 :: x12 :: r).toArray 12 (.int x) = some (x0 :: x1 :: x2 :: x3 :: x4 :: x5 :: x6 :: x7 :: x8 :: x9 :: x10 :: x11 :: .val (.int x) :: r).toArray := by rfl) : Go Z EL nw R Post K h S k n pc (x0 :: x1 :: x2 :: x3 :: x4 :: x5 :: x6 :: x7 :: x8 :: x9 :: x10 :: x11 :: x12 :: r) (.int x :: st) := G.istoreG hd hl f
theorem Good.astore12 (G : Good Z a0 EL K own code maxL ret nm) {x0 x1 x2 x3 x4 x5 x6 x7 x8 x9 x10 x11 x12 : Slot} {r : List Slot} {x : Value} (hd : Dc code pc (.astore 12) 2 pc') (f : Go Z EL nw R Post K h S k n pc' (x0 :: x1 :: x2 :: x3 :: x4 :: x5 :: x6 :: x7 :: x8 :: x9 :: x10 :: x11 :: .val x :: r) st) (hv : x.isRef = true := by rfl) (hl : storeLocals (x0 :: x1 :: x2 :: x3 :: x4 :: x5 :: x6 :: x7 :: x8 :: x9 :: x10 :: x11 :: x12 :: r).toArray 12 x = some (x0 :: x1 :: x2 :: x3 :: x4 :: x5 :: x6 :: x7 :: x8 :: x9 :: x10 :: x11 :: .val x :: r).toArray := by rfl) : Go Z EL nw R Post K h S k n pc (x0 :: x1 :: x2 :: x3 :: x4 :: x5 :: x6 :: x7 :: x8 :: x9 :: x10 :: x11 :: x12 :: r) (x :: st) := G.astoreG hd hv hl f
theorem Good.lstore12 (G : Good Z a0 EL K own code maxL ret nm) {x0 x1 x2 x3 x4 x5 x6 x7 x8 x9 x10 x11 x12 y : Slot} {r : List Slot} {x : Int64} (hd : Dc code pc (.lstore 12) 2 pc') (f : Go Z EL nw R Post K h S k n pc' (x0 :: x1 :: x2 :: x3 :: x4 :: x5 :: x6 :: x7 :: x8 :: x9 :: x10 :: x11 :: .val (.long x) :: .second :: r) st) (hl : storeLocals (x0 :: x1 :: x2 :: x3 :: x4 :: x5 :: x6 :: x7 :: x8 :: x9 :: x10 :: x11 :: x12 :: y :: r).toArray 12 (.long x) = some (x0 :: x1 :: x2 :: x3 :: x4 :: x5 :: x6 :: x7 :: x8 :: x9 :: x10 :: x11 :: .val (.long x) :: .second :: r).toArray := by rfl) : Go Z EL nw R Post K h S k n pc (x0 :: x1 :: x2 :: x3 :: x4 :: x5 :: x6 :: x7 :: x8 :: x9 :: x10 :: x11 :: x12 :: y :: r) (.long x :: st) := G.lstoreG hd hl f
theorem Good.iinc12 (G : Good Z a0 EL K own code maxL ret nm) (z : Int32) {x0 x1 x2 x3 x4 x5 x6 x7 x8 x9 x10 x11 : Slot} {r : List Slot} {c : Int} {x : Int32} (hd : Dc code pc (.iinc 12 c) 3 pc') (f : Go Z EL nw R Post K h S k n pc' (x0 :: x1 :: x2 :: x3 :: x4 :: x5 :: x6 :: x7 :: x8 :: x9 :: x10 :: x11 :: .val (.int (x + z)) :: r) st) (hz : Int32.ofInt c = z := by decide) : Go Z EL nw R Post K h S k n pc (x0 :: x1 :: x2 :: x3 :: x4 :: x5 :: x6 :: x7 :: x8 :: x9 :: x10 :: x11 :: .val (.int x) :: r) st := by subst hz; exact G.iincG hd rfl rfl f
theorem Good.istore13 (G : Good Z a0 EL K own code maxL ret nm) {x0 x1 x2 x3 x4 x5 x6 x7 x8 x9 x10 x11 x12 x13 : Slot} {r : List Slot} {x : Int32} (hd : Dc code pc (.istore 13) 2 pc') (f : Go Z EL nw R Post K h S k n pc' (x0 :: x1 :: x2 :: x3 :: x4 :: x5 :: x6 :: x7 :: x8 :: x9 :: x10 :: x11 :: x12 :: .val (.int x) :: r) st) (hl : storeLocals (x0 :: x1 :: x2 :: x3 :: x4 :: x5 :: x6 :: x7 :: x8 :: x9 :: x10 :: x11 :: x12 :: x13 :: r).toArray 13 (.int x) = some (x0 :: x1 :: x2 :: x3 :: x4 :: x5 :: x6 :: x7 :: x8 :: x9 :: x10 :: x11 :: x12 :: .val (.int x) :: r).toArray := by rfl) : Go Z EL nw R Post K h S k n pc (x0 :: x1 :: x2 :: x3 :: x4 :: x5 :: x6 :: x7 :: x8 :: x9 :: x10 :: x11 :: x12 :: x13 :: r) (.int x :: st) := G.istoreG hd hl f
theorem Good.astore13 (G : Good Z a0 EL K own code maxL ret nm) {x0 x1 x2 x3 x4 x5 x6 x7 x8 x9 x10 x11 x12 x13 : Slot} {r : List Slot} {x : Value} (hd : Dc code pc (.astore 13) 2 pc') (f : Go Z EL nw R Post K h S k n pc' (x0 :: x1 :: x2 :: x3 :: x4 :: x5 :: x6 :: x7 :: x8 :: x9 :: x10 :: x11 :: x12 :: .val x :: r) st) (hv : x.isRef = true := by rfl) (hl : storeLocals (x0 :: x1 :: x2 :: x3 :: x4 :: x5 :: x6 :: x7 :: x8 :: x9 :: x10 :: x11 :: x12 :: x13 :: r).toArray 13 x = some (x0 :: x1 :: x2 :: x3 :: x4 :: x5 :: x6 :: x7 :: x8 :: x9 :: x10 :: x11 :: x12 :: .val x :: r).toArray := by rfl) : Go Z EL nw R Post K h S k n pc (x0 :: x1 :: x2 :: x3 :: x4 :: x5 :: x6 :: x7 :: x8 :: x9 :: x10 :: x11 :: x12 :: x13 :: r) (x :: st) := G.astoreG hd hv hl f
theorem Good.lstore13 (G : Good Z a0 EL K own code maxL ret nm) {x0 x1 x2 x3 x4 x5 x6 x7 x8 x9 x10 x11 x12 x13 y : Slot} {r : List Slot} {x : Int64} (hd : Dc code pc (.lstore 13) 2 pc') (f : Go Z EL nw R Post K h S k n pc' (x0 :: x1 :: x2 :: x3 :: x4 :: x5 :: x6 :: x7 :: x8 :: x9 :: x10 :: x11 :: x12 :: .val (.long x) :: .second :: r) st) (hl : storeLocals (x0 :: x1 :: x2 :: x3 :: x4 :: x5 :: x6 :: x7 :: x8 :: x9 :: x10 :: x11 :: x12 :: x13 :: y :: r).toArray 13 (.long x) = some (x0 :: x1 :: x2 :: x3 :: x4 :: x5 :: x6 :: x7 :: x8 :: x9 :: x10 :: x11 :: x12 :: .val (.long x) :: .second :: r).toArray := by rfl) : Go Z EL nw R Post K h S k n pc (x0 :: x1 :: x2 :: x3 :: x4 :: x5 :: x6 :: x7 :: x8 :: x9 :: x10 :: x11 :: x12 :: x13 :: y :: r) (.long x :: st) := G.lstoreG hd hl f
theorem Good.iinc13 (G : Good Z a0 EL K own code maxL ret nm) (z : Int32) {x0 x1 x2 x3 x4 x5 x6 x7 x8 x9 x10 x11 x12 : Slot} {r : List Slot} {c : Int} {x : Int32} (hd : Dc code pc (.iinc 13 c) 3 pc') (f : Go Z EL nw R Post K h S k n pc' (x0 :: x1 :: x2 :: x3 :: x4 :: x5 :: x6 :: x7 :: x8 :: x9 :: x10 :: x11 :: x12 :: .val (.int (x + z)) :: r) st) (hz : Int32.ofInt c = z := by decide) : Go Z EL nw R Post K h S k n pc (x0 :: x1 :: x2 :: x3 :: x4 :: x5 :: x6 :: x7 :: x8 :: x9 :: x10 :: x11 :: x12 :: .val (.int x) :: r) st := by subst hz; exact G.iincG hd rfl rfl f
theorem Good.istore14 (G : Good Z a0 EL K own code maxL ret nm) {x0 x1 x2 x3 x4 x5 x6 x7 x8 x9 x10 x11 x12 x13 x14 : Slot} {r : List Slot} {x : Int32} (hd : Dc code pc (.istore 14) 2 pc') (f : Go Z EL nw R Post K h S k n pc' (x0 :: x1 :: x2 :: x3 :: x4 :: x5 :: x6 :: x7 :: x8 :: x9 :: x10 :: x11 :: x12 :: x13 :: .val (.int x) :: r) st) (hl : storeLocals (x0 :: x1 :: x2 :: x3 :: x4 :: x5 :: x6 :: x7 :: x8 :: x9 :: x10 :: x11 :: x12 :: x13 :: x14 :: r).toArray 14 (.int x) = some (x0 :: x1 :: x2 :: x3 :: x4 :: x5 :: x6 :: x7 :: x8 :: x9 :: x10 :: x11 :: x12 :: x13 :: .val (.int x) :: r).toArray := by rfl) : Go Z EL nw R Post K h S k n pc (x0 :: x1 :: x2 :: x3 :: x4 :: x5 :: x6 :: x7 :: x8 :: x9 :: x10 :: x11 :: x12 :: x13 :: x14 :: r) (.int x :: st) := G.istoreG hd hl f
theorem Good.astore14 (G : Good Z a0 EL K own code maxL ret nm) {x0 x1 x2 x3 x4 x5 x6 x7 x8 x9 x10 x11 x12 x13 x14 : Slot} {r : List Slot} {x : Value} (hd : Dc code pc (.astore 14) 2 pc') (f : Go Z EL nw R Post K h S k n pc' (x0 :: x1 :: x2 :: x3 :: x4 :: x5 :: x6 :: x7 :: x8 :: x9 :: x10 :: x11 :: x12 :: x13 :: .val x :: r) st) (hv : x.isRef = true := by rfl) (hl : storeLocals (x0 :: x1 :: x2 :: x3 :: x4 :: x5 :: x6 :: x7 :: x8 :: x9 :: x10 :: x11 :: x12 :: x13 :: x14 :: r).toArray 14 x = some (x0 :: x1 :: x2 :: x3 :: x4 :: x5 :: x6 :: x7 :: x8 :: x9 :: x10 :: x11 :: x12 :: x13 :: .val x :: r).toArray := by rfl) : Go Z EL nw R Post K h S k n pc (x0 :: x1 :: x2 :: x3 :: x4 :: x5 :: x6 :: x7 :: x8 :: x9 :: x10 :: x11 :: x12 :: x13 :: x14 :: r) (x :: st) := G.astoreG hd hv hl f
theorem Good.lstore14 (G : Good Z a0 EL K own code maxL ret nm) {x0 x1 x2 x3 x4 x5 x6 x7 x8 x9 x10 x11 x12 x13 x14 y : Slot} {r : List Slot} {x : Int64} (hd : Dc code pc (.lstore 14) 2 pc') (f : Go Z EL nw R Post K h S k n pc' (x0 :: x1 :: x2 :: x3 :: x4 :: x5 :: x6 :: x7 :: x8 :: x9 :: x10 :: x11 :: x12 :: x13 :: .val (.long x) :: .second :: r) st) (hl : storeLocals (x0 :: x1 :: x2 :: x3 :: x4 :: x5 :: x6 :: x7 :: x8 :: x9 :: x10 :: x11 :: x12 :: x13 :: x14 :: y :: r).toArray 14 (.long x) = some (x0 :: x1 :: x2 :: x3 :: x4 :: x5 :: x6 :: x7 :: x8 :: x9 :: x10 :: x11 :: x12 :: x13 :: .val (.long x) :: .second :: r).toArray := by rfl) : Go Z EL nw R Post K h S k n pc (x0 :: x1 :: x2 :: x3 :: x4 :: x5 :: x6 :: x7 :: x8 :: x9 :: x10 :: x11 :: x12 :: x13 :: x14 :: y :: r) (.long x :: st) := G.lstoreG hd hl f
theorem Good.iinc14 (G : Good Z a0 EL K own code maxL ret nm) (z : Int32) {x0 x1 x2 x3 x4 x5 x6 x7 x8 x9 x10 x11 x12 x13 : Slot} {r : List Slot} {c : Int} {x : Int32} (hd : Dc code pc (.iinc 14 c) 3 pc') (f : Go Z EL nw R Post K h S k n pc' (x0 :: x1 :: x2 :: x3 :: x4 :: x5 :: x6 :: x7 :: x8 :: x9 :: x10 :: x11 :: x12 :: x13 :: .val (.int (x + z)) :: r) st) (hz : Int32.ofInt c = z := by decide) : Go Z EL nw R Post K h S k n pc (x0 :: x1 :: x2 :: x3 :: x4 :: x5 :: x6 :: x7 :: x8 :: x9 :: x10 :: x11 :: x12 :: x13 :: .val (.int x) :: r) st := by subst hz; exact G.iincG hd rfl rfl f
theorem Good.istore15 (G : Good Z a0 EL K own code maxL ret nm) {x0 x1 x2 x3 x4 x5 x6 x7 x8 x9 x10 x11 x12 x13 x14 x15 : Slot} {r : List Slot} {x : Int32} (hd : Dc code pc (.istore 15) 2 pc') (f : Go Z EL nw R Post K h S k n pc' (x0 :: x1 :: x2 :: x3 :: x4 :: x5 :: x6 :: x7 :: x8 :: x9 :: x10 :: x11 :: x12 :: x13 :: x14 :: .val (.int x) :: r) st) (hl : storeLocals (x0 :: x1 :: x2 :: x3 :: x4 :: x5 :: x6 :: x7 :: x8 :: x9 :: x10 :: x11 :: x12 :: x13 :: x14 :: x15 :: r).toArray 15 (.int x) = some (x0 :: x1 :: x2 :: x3 :: x4 :: x5 :: x6 :: x7 :: x8 :: x9 :: x10 :: x11 :: x12 :: x13 :: x14 :: .val (.int x) :: r).toArray := by rfl) : Go Z EL nw R Post K h S k n pc (x0 :: x1 :: x2 :: x3 :: x4 :: x5 :: x6 :: x7 :: x8 :: x9 :: x10 :: x11 :: x12 :: x13 :: x14 :: x15 :: r) (.int x :: st) := G.istoreG hd hl f
theorem Good.astore15 (G : Good Z a0 EL K own code maxL ret nm) {x0 x1 x2 x3 x4 x5 x6 x7 x8 x9 x10 x11 x12 x13 x14 x15 : Slot} {r : List Slot} {x : Value} (hd : Dc code pc (.astore 15) 2 pc') (f : Go Z EL nw R Post K h S k n pc' (x0 :: x1 :: x2 :: x3 :: x4 :: x5 :: x6 :: x7 :: x8 :: x9 :: x10 :: x11 :: x12 :: x13 :: x14 :: .val x :: r) st) (hv : x.isRef = true := by rfl) (hl : storeLocals (x0 :: x1 :: x2 :: x3 :: x4 :: x5 :: x6 :: x7 :: x8 :: x9 :: x10 :: x11 :: x12 :: x13 :: x14 :: x15 :: r).toArray 15 x = some (x0 :: x1 :: x2 :: x3 :: x4 :: x5 :: x6 :: x7 :: x8 :: x9 :: x10 :: x11 :: x12 :: x13 :: x14 :: .val x :: r).toArray := by rfl) : Go Z EL nw R Post K h S k n pc (x0 :: x1 :: x2 :: x3 :: x4 :: x5 :: x6 :: x7 :: x8 :: x9 :: x10 :: x11 :: x12 :: x13 :: x14 :: x15 :: r) (x :: st) := G.astoreG hd hv hl f
theorem Good.lstore15 (G : Good Z a0 EL K own code maxL ret nm) {x0 x1 x2 x3 x4 x5 x6 x7 x8 x9 x10 x11 x12 x13 x14 x15 y : Slot} {r : List Slot} {x : Int64} (hd : Dc code pc (.lstore 15) 2 pc') (f : Go Z EL nw R Post K h S k n pc' (x0 :: x1 :: x2 :: x3 :: x4 :: x5 :: x6 :: x7 :: x8 :: x9 :: x10 :: x11 :: x12 :: x13 :: x14 :: .val (.long x) :: .second :: r) st) (hl : storeLocals (x0 :: x1 :: x2 :: x3 :: x4 :: x5 :: x6 :: x7 :: x8 :: x9 :: x10 :: x11 :: x12 :: x13 :: x14 :: x15 :: y :: r).toArray 15 (.long x) = some (x0 :: x1 :: x2 :: x3 :: x4 :: x5 :: x6 :: x7 :: x8 :: x9 :: x10 :: x11 :: x12 :: x13 :: x14 :: .val (.long x) :: .second :: r).toArray := by rfl) : Go Z EL nw R Post K h S k n pc (x0 :: x1 :: x2 :: x3 :: x4 :: x5 :: x6 :: x7 :: x8 :: x9 :: x10 :: x11 :: x12 :: x13 :: x14 :: x15 :: y :: r) (.long x :: st) := G.lstoreG hd hl f
theorem Good.iinc15 (G : Good Z a0 EL K own code maxL ret nm) (z : Int32) {x0 x1 x2 x3 x4 x5 x6 x7 x8 x9 x10 x11 x12 x13 x14 : Slot} {r : List Slot} {c : Int} {x : Int32} (hd : Dc code pc (.iinc 15 c) 3 pc') (f : Go Z EL nw R Post K h S k n pc' (x0 :: x1 :: x2 :: x3 :: x4 :: x5 :: x6 :: x7 :: x8 :: x9 :: x10 :: x11 :: x12 :: x13 :: x14 :: .val (.int (x + z)) :: r) st) (hz : Int32.ofInt c = z := by decide) : Go Z EL nw R Post K h S k n pc (x0 :: x1 :: x2 :: x3 :: x4 :: x5 :: x6 :: x7 :: x8 :: x9 :: x10 :: x11 :: x12 :: x13 :: x14 :: .val (.int x) :: r) st := by subst hz; exact G.iincG hd rfl rfl f
theorem Good.istore16 (G : Good Z a0 EL K own code maxL ret nm) {x0 x1 x2 x3 x4 x5 x6 x7 x8 x9 x10 x11 x12 x13 x14 x15 x16 : Slot} {r : List Slot} {x : Int32} (hd : Dc code pc (.istore 16) 2 pc') (f : Go Z EL nw R Post K h S k n pc' (x0 :: x1 :: x2 :: x3 :: x4 :: x5 :: x6 :: x7 :: x8 :: x9 :: x10 :: x11 :: x12 :: x13 :: x14 :: x15 :: .val (.int x) :: r) st) (hl : storeLocals (x0 :: x1 :: x2 :: x3 :: x4 :: x5 :: x6 :: x7 :: x8 :: x9 :: x10 :: x11 :: x12 :: x13 :: x14 :: x15 :: x16 :: r).toArray 16 (.int x) = some (x0 :: x1 :: x2 :: x3 :: x4 :: x5 :: x6 :: x7 :: x8 :: x9 :: x10 :: x11 :: x12 :: x13 :: x14 :: x15 :: .val (.int x) :: r).toArray := by rfl) : Go Z EL nw R Post K h S k n pc (x0 :: x1 :: x2 :: x3 :: x4 :: x5 :: x6 :: x7 :: x8 :: x9 :: x10 :: x11 :: x12 :: x13 :: x14 :: x15 :: x16 :: r) (.int x :: st) := G.istoreG hd hl f
theorem Good.astore16 (G : Good Z a0 EL K own code maxL ret nm) {x0 x1 x2 x3 x4 x5 x6 x7 x8 x9 x10 x11 x12 x13 x14 x15 x16 : Slot} {r : List Slot} {x : Value} (hd : Dc code pc (.astore 16) 2 pc') (f : Go Z EL nw R Post K h S k n pc' (x0 :: x1 :: x2 :: x3 :: x4 :: x5 :: x6 :: x7 :: x8 :: x9 :: x10 :: x11 :: x12 :: x13 :: x14 :: x15 :: .val x :: r) st) (hv : x.isRef = true := by rfl) (hl : storeLocals (x0 :: x1 :: x2 :: x3 :: x4 :: x5 :: x6 :: x7 :: x8 :: x9 :: x10 :: x11 :: x12 :: x13 :: x14 :: x15 :: x16 :: r).toArray 16 x = some (x0 :: x1 :: x2 :: x3 :: x4 :: x5 :: x6 :: x7 :: x8 :: x9 :: x10 :: x11 :: x12 :: x13 :: x14 :: x15 :: .val x :: r).toArray := by rfl) : Go Z EL nw R Post K h S k n pc (x0 :: x1 :: x2 :: x3 :: x4 :: x5 :: x6 :: x7 :: x8 :: x9 :: x10 :: x11 :: x12 :: x13 :: x14 :: x15 :: x16 :: r) (x :: st) := G.astoreG hd hv hl f
theorem Good.lstore16 (G : Good Z a0 EL K own code maxL ret nm) {x0 x1 x2 x3 x4 x5 x6 x7 x8 x9 x10 x11 x12 x13 x14 x15 x16 y : Slot} {r : List Slot} {x : Int64} (hd : Dc code pc (.lstore 16) 2 pc') (f : Go Z EL nw R Post K h S k n pc' (x0 :: x1 :: x2 :: x3 :: x4 :: x5 :: x6 :: x7 :: x8 :: x9 :: x10 :: x11 :: x12 :: x13 :: x14 :: x15 :: .val (.long x) :: .second :: r) st) (hl : storeLocals (x0 :: x1 :: x2 :: x3 :: x4 :: x5 :: x6 :: x7 :: x8 :: x9 :: x10 :: x11 :: x12 :: x13 :: x14 :: x15 :: x16 :: y :: r).toArray 16 (.long x) = some (x0 :: x1 :: x2 :: x3 :: x4 :: x5 :: x6 :: x7 :: x8 :: x9 :: x10 :: x11 :: x12 :: x13 :: x14 :: x15 :: .val (.long x) :: .second :: r).toArray := by rfl) : Go Z EL nw R Post K h S k n pc (x0 :: x1 :: x2 :: x3 :: x4 :: x5 :: x6 :: x7 :: x8 :: x9 :: x10 :: x11 :: x12 :: x13 :: x14 :: x15 :: x16 :: y :: r) (.long x :: st) := G.lstoreG hd hl f
theorem Good.iinc16 (G : Good Z a0 EL K own code maxL ret nm) (z : Int32) {x0 x1 x2 x3 x4 x5 x6 x7 x8 x9 x10 x11 x12 x13 x14 x15 : Slot} {r : List Slot} {c : Int} {x : Int32} (hd : Dc code pc (.iinc 16 c) 3 pc') (f : Go Z EL nw R Post K h S k n pc' (x0 :: x1 :: x2 :: x3 :: x4 :: x5 :: x6 :: x7 :: x8 :: x9 :: x10 :: x11 :: x12 :: x13 :: x14 :: x15 :: .val (.int (x + z)) :: r) st) (hz : Int32.ofInt c = z := by decide) : Go Z EL nw R Post K h S k n pc (x0 :: x1 :: x2 :: x3 :: x4 :: x5 :: x6 :: x7 :: x8 :: x9 :: x10 :: x11 :: x12 :: x13 :: x14 :: x15 :: .val (.int x) :: r) st := by subst hz; exact G.iincG hd rfl rfl f
theorem Good.istore17 (G : Good Z a0 EL K own code maxL ret nm) {x0 x1 x2 x3 x4 x5 x6 x7 x8 x9 x10 x11 x12 x13 x14 x15 x16 x17 : Slot} {r : List Slot} {x : Int32} (hd : Dc code pc (.istore 17) 2 pc') (f : Go Z EL nw R Post K h S k n pc' (x0 :: x1 :: x2 :: x3 :: x4 :: x5 :: x6 :: x7 :: x8 :: x9 :: x10 :: x11 :: x12 :: x13 :: x14 :: x15 :: x16 :: .val (.int x) :: r) st) (hl : storeLocals (x0 :: x1 :: x2 :: x3 :: x4 :: x5 :: x6 :: x7 :: x8 :: x9 :: x10 :: x11 :: x12 :: x13 :: x14 :: x15 :: x16 :: x17 :: r).toArray 17 (.int x) = some (x0 :: x1 :: x2 :: x3 :: x4 :: x5 :: x6 :: x7 :: x8 :: x9 :: x10 :: x11 :: x12 :: x13 :: x14 :: x15 :: x16 :: .val (.int x) :: r).toArray := by rfl) : Go Z EL nw R Post K h S k n pc (x0 :: x1 :: x2 :: x3 :: x4 :: x5 :: x6 :: x7 :: x8 :: x9 :: x10 :: x11 :: x12 :: x13 :: x14 :: x15 :: x16 :: x17 :: r) (.int x :: st) := G.istoreG hd hl f
theorem Good.astore17 (G : Good Z a0 EL K own code maxL ret nm) {x0 x1 x2 x3 x4 x5 x6 x7 x8 x9 x10 x11 x12 x13 x14 x15 x16 x17 : Slot} {r : List Slot} {x : Value} (hd : Dc code pc (.astore 17) 2 pc') (f : Go Z EL nw R Post K h S k n pc' (x0 :: x1 :: x2 :: x3 :: x4 :: x5 :: x6 :: x7 :: x8 :: x9 :: x10 :: x11 :: x12 :: x13 :: x14 :: x15 :: x16 :: .val x :: r) st) (hv : x.isRef = true := by rfl) (hl : storeLocals (x0 :: x1 :: x2 :: x3 :: x4 :: x5 :: x6 :: x7 :: x8 :: x9 :: x10 :: x11 :: x12 :: x13 :: x14 :: x15 :: x16 :: x17 :: r).toArray 17 x = some (x0 :: x1 :: x2 :: x3 :: x4 :: x5 :: x6 :: x7 :: x8 :: x9 :: x10 :: x11 :: x12 :: x13 :: x14 :: x15 :: x16 :: .val x :: r).toArray := by rfl) : Go Z EL nw R Post K h S k n pc (x0 :: x1 :: x2 :: x3 :: x4 :: x5 :: x6 :: x7 :: x8 :: x9 :: x10 :: x11 :: x12 :: x13 :: x14 :: x15 :: x16 :: x17 :: r) (x :: st) := G.astoreG hd hv hl f
theorem Good.lstore17 (G : Good Z a0 EL K own code maxL ret nm) {x0 x1 x2 x3 x4 x5 x6 x7 x8 x9 x10 x11 x12 x13 x14 x15 x16 x17 y : Slot} {r : List Slot} {x : Int64} (hd : Dc code pc (.lstore 17) 2 pc') (f : Go Z EL nw R Post K h S k n pc' (x0 :: x1 :: x2 :: x3 :: x4 :: x5 :: x6 :: x7 :: x8 :: x9 :: x10 :: x11 :: x12 :: x13 :: x14 :: x15 :: x16 :: .val (.long x) :: .second :: r) st) (hl : storeLocals (x0 :: x1 :: x2 :: x3 :: x4 :: x5 :: x6 :: x7 :: x8 :: x9 :: x10 :: x11 :: x12 :: x13 :: x14 :: x15 :: x16 :: x17 :: y :: r).toArray 17 (.long x) = some (x0 :: x1 :: x2 :: x3 :: x4 :: x5 :: x6 :: x7 :: x8 :: x9 :: x10 :: x11 :: x12 :: x13 :: x14 :: x15 :: x16 :: .val (.long x) :: .second :: r).toArray := by rfl) : Go Z EL nw R Post K h S k n pc (x0 :: x1 :: x2 :: x3 :: x4 :: x5 :: x6 :: x7 :: x8 :: x9 :: x10 :: x11 :: x12 :: x13 :: x14 :: x15 :: x16 :: x17 :: y :: r) (.long x :: st) := G.lstoreG hd hl f
theorem Good.iinc17 (G : Good Z a0 EL K own code maxL ret nm) (z : Int32) {x0 x1 x2 x3 x4 x5 x6 x7 x8 x9 x10 x11 x12 x13 x14 x15 x16 : Slot} {r : List Slot} {c : Int} {x : Int32} (hd : Dc code pc (.iinc 17 c) 3 pc') (f : Go Z EL nw R Post K h S k n pc' (x0 :: x1 :: x2 :: x3 :: x4 :: x5 :: x6 :: x7 :: x8 :: x9 :: x10 :: x11 :: x12 :: x13 :: x14 :: x15 :: x16 :: .val (.int (x + z)) :: r) st) (hz : Int32.ofInt c = z := by decide) : Go Z EL nw R Post K h S k n pc (x0 :: x1 :: x2 :: x3 :: x4 :: x5 :: x6 :: x7 :: x8 :: x9 :: x10 :: x11 :: x12 :: x13 :: x14 :: x15 :: x16 :: .val (.int x) :: r) st := by subst hz; exact G.iincG hd rfl rfl f
theorem Good.istore18 (G : Good Z a0 EL K own code maxL ret nm) {x0 x1 x2 x3 x4 x5 x6 x7 x8 x9 x10 x11 x12 x13 x14 x15 x16 x17 x18 : Slot} {r : List Slot} {x : Int32} (hd : Dc code pc (.istore 18) 2 pc') (f : Go Z EL nw R Post K h S k n pc' (x0 :: x1 :: x2 :: x3 :: x4 :: x5 :: x6 :: x7 :: x8 :: x9 :: x10 :: x11 :: x12 :: x13 :: x14 :: x15 :: x16 :: x17 :: .val (.int x) :: r) st) (hl : storeLocals (x0 :: x1 :: x2 :: x3 :: x4 :: x5 :: x6 :: x7 :: x8 :: x9 :: x10 :: x11 :: x12 :: x13 :: x14 :: x15 :: x16 :: x17 :: x18 :: r).toArray 18 (.int x) = some (x0 :: x1 :: x2 :: x3 :: x4 :: x5 :: x6 :: x7 :: x8 :: x9 :: x10 :: x11 :: x12 :: x13 :: x14 :: x15 :: x16 :: x17 :: .val (.int x) :: r).toArray := by rfl) : Go Z EL nw R Post K h S k n pc (x0 :: x1 :: x2 :: x3 :: x4 :: x5 :: x6 :: x7 :: x8 :: x9 :: x10 :: x11 :: x12 :: x13 :: x14 :: x15 :: x16 :: x17 :: x18 :: r) (.int x :: st) := G.istoreG hd hl f
theorem Good.astore18 (G : Good Z a0 EL K own code maxL ret nm) {x0 x1 x2 x3 x4 x5 x6 x7 x8 x9 x10 x11 x12 x13 x14 x15 x16 x17 x18 : Slot} {r : List Slot} {x : Value} (hd : Dc code pc (.astore 18) 2 pc') (f : Go Z EL nw R Post K h S k n pc' (x0 :: x1 :: x2 :: x3 :: x4 :: x5 :: x6 :: x7 :: x8 :: x9 :: x10 :: x11 :: x12 :: x13 :: x14 :: x15 :: x16 :: x17 :: .val x :: r) st) (hv : x.isRef = true := by rfl) (hl : storeLocals (x0 :: x1 :: x2 :: x3 :: x4 :: x5 :: x6 :: x7 :: x8 :: x9 :: x10 :: x11 :: x12 :: x13 :: x14 :: x15 :: x16 :: x17 :: x18 :: r).toArray 18 x = some (x0 :: x1 :: x2 :: x3 :: x4 :: x5 :: x6 :: x7 :: x8 :: x9 :: x10 :: x11 :: x12 :: x13 :: x14 :: x15 :: x16 :: x17 :: .val x :: r).toArray := by rfl) : Go Z EL nw R Post K h S k n pc (x0 :: x1 :: x2 :: x3 :: x4 :: x5 :: x6 :: x7 :: x8 :: x9 :: x10 :: x11 :: x12 :: x13 :: x14 :: x15 :: x16 :: x17 :: x18 :: r) (x :: st) := G.astoreG hd hv hl f
theorem Good.lstore18 (G : Good Z a0 EL K own code maxL ret nm) {x0 x1 x2 x3 x4 x5 x6 x7 x8 x9 x10 x11 x12 x13 x14 x15 x16 x17 x18 y : Slot} {r : List Slot} {x : Int64} (hd : Dc code pc (.lstore 18) 2 pc') (f : Go Z EL nw R Post K h S k n pc' (x0 :: x1 :: x2 :: x3 :: x4 :: x5 :: x6 :: x7 :: x8 :: x9 :: x10 :: x11 :: x12 :: x13 :: x14 :: x15 :: x16 :: x17 :: .val (.long x) :: .second :: r) st) (hl : storeLocals (x0 :: x1 :: x2 :: x3 :: x4 :: x5 :: x6 :: x7 :: x8 :: x9 :: x10 :: x11 :: x12 :: x13 :: x14 :: x15 :: x16 :: x17 :: x18 :: y :: r).toArray 18 (.long x) = some (x0 :: x1 :: x2 :: x3 :: x4 :: x5 :: x6 :: x7 :: x8 :: x9 :: x10 :: x11 :: x12 :: x13 :: x14 :: x15 :: x16 :: x17 :: .val (.long x) :: .second :: r).toArray := by rfl) : Go Z EL nw R Post K h S k n pc (x0 :: x1 :: x2 :: x3 :: x4 :: x5 :: x6 :: x7 :: x8 :: x9 :: x10 :: x11 :: x12 :: x13 :: x14 :: x15 :: x16 :: x17 :: x18 :: y :: r) (.long x :: st) := G.lstoreG hd hl f
theorem Good.iinc18 (G : Good Z a0 EL K own code maxL ret nm) (z : Int32) {x0 x1 x2 x3 x4 x5 x6 x7 x8 x9 x10 x11 x12 x13 x14 x15 x16 x17 : Slot} {r : List Slot} {c : Int} {x : Int32} (hd : Dc code pc (.iinc 18 c) 3 pc') (f : Go Z EL nw R Post K h S k n pc' (x0 :: x1 :: x2 :: x3 :: x4 :: x5 :: x6 :: x7 :: x8 :: x9 :: x10 :: x11 :: x12 :: x13 :: x14 :: x15 :: x16 :: x17 :: .val (.int (x + z)) :: r) st) (hz : Int32.ofInt c = z := by decide) : Go Z EL nw R Post K h S k n pc (x0 :: x1 :: x2 :: x3 :: x4 :: x5 :: x6 :: x7 :: x8 :: x9 :: x10 :: x11 :: x12 :: x13 :: x14 :: x15 :: x16 :: x17 :: .val (.int x) :: r) st := by subst hz; exact G.iincG hd rfl rfl f
theorem Good.istore19 (G : Good Z a0 EL K own code maxL ret nm) {x0 x1 x2 x3 x4 x5 x6 x7 x8 x9 x10 x11 x12 x13 x14 x15 x16 x17 x18 x19 : Slot} {r : List Slot} {x : Int32} (hd : Dc code pc (.istore 19) 2 pc') (f : Go Z EL nw R Post K h S k n pc' (x0 :: x1 :: x2 :: x3 :: x4 :: x5 :: x6 :: x7 :: x8 :: x9 :: x10 :: x11 :: x12 :: x13 :: x14 :: x15 :: x16 :: x17 :: x18 :: .val (.int x) :: r) st) (hl : storeLocals (x0 :: x1 :: x2 :: x3 :: x4 :: x5 :: x6 :: x7 :: x8 :: x9 :: x10 :: x11 :: x12 :: x13 :: x14 :: x15 :: x16 :: x17 :: x18 :: x19 :: r).toArray 19 (.int x) = some (x0 :: x1 :: x2 :: x3 :: x4 :: x5 :: x6 :: x7 :: x8 :: x9 :: x10 :: x11 :: x12 :: x13 :: x14 :: x15 :: x16 :: x17 :: x18 :: .val (.int x) :: r).toArray := by rfl) : Go Z EL nw R Post K h S k n pc (x0 :: x1 :: x2 :: x3 :: x4 :: x5 :: x6 :: x7 :: x8 :: x9 :: x10 :: x11 :: x12 :: x13 :: x14 :: x15 :: x16 :: x17 :: x18 :: x19 :: r) (.int x :: st) := G.istoreG hd hl f
theorem Good.astore19 (G : Good Z a0 EL K own code maxL ret nm) {x0 x1 x2 x3 x4 x5 x6 x7 x8 x9 x10 x11 x12 x13 x14 x15 x16 x17 x18 x19 : Slot} {r : List Slot} {x : Value} (hd : Dc code pc (.astore 19) 2 pc') (f : Go Z EL nw R Post K h S k n pc' (x0 :: x1 :: x2 :: x3 :: x4 :: x5 :: x6 :: x7 :: x8 :: x9 :: x10 :: x11 :: x12 :: x13 :: x14 :: x15 :: x16 :: x17 :: x18 :: .val x :: r) st) (hv : x.isRef = true := by rfl) (hl : storeLocals (x0 :: x1 :: x2 :: x3 :: x4 :: x5 :: x6 :: x7 :: x8 :: x9 :: x10 :: x11 :: x12 :: x13 :: x14 :: x15 :: x16 :: x17 :: x18 :: x19 :: r).toArray 19 x = some (x0 :: x1 :: x2 :: x3 :: x4 :: x5 :: x6 :: x7 :: x8 :: x9 :: x10 :: x11 :: x12 :: x13 :: x14 :: x15 :: x16 :: x17 :: x18 :: .val x :: r).toArray := by rfl) : Go Z EL nw R Post K h S k n pc (x0 :: x1 :: x2 :: x3 :: x4 :: x5 :: x6 :: x7 :: x8 :: x9 :: x10 :: x11 :: x12 :: x13 :: x14 :: x15 :: x16 :: x17 :: x18 :: x19 :: r) (x :: st) := G.astoreG hd hv hl f
theorem Good.lstore19 (G : Good Z a0 EL K own code maxL ret nm) {x0 x1 x2 x3 x4 x5 x6 x7 x8 x9 x10 x11 x12 x13 x14 x15 x16 x17 x18 x19 y : Slot} {r : List Slot} {x : Int64} (hd : Dc code pc (.lstore 19) 2 pc') (f : Go Z EL nw R Post K h S k n pc' (x0 :: x1 :: x2 :: x3 :: x4 :: x5 :: x6 :: x7 :: x8 :: x9 :: x10 :: x11 :: x12 :: x13 :: x14 :: x15 :: x16 :: x17 :: x18 :: .val (.long x) :: .second :: r) st) (hl : storeLocals (x0 :: x1 :: x2 :: x3 :: x4 :: x5 :: x6 :: x7 :: x8 :: x9 :: x10 :: x11 :: x12 :: x13 :: x14 :: x15 :: x16 :: x17 :: x18 :: x19 :: y :: r).toArray 19 (.long x) = some (x0 :: x1 :: x2 :: x3 :: x4 :: x5 :: x6 :: x7 :: x8 :: x9 :: x10 :: x11 :: x12 :: x13 :: x14 :: x15 :: x16 :: x17 :: x18 :: .val (.long x) :: .second :: r).toArray := by rfl) : Go Z EL nw R Post K h S k n pc (x0 :: x1 :: x2 :: x3 :: x4 :: x5 :: x6 :: x7 :: x8 :: x9 :: x10 :: x11 :: x12 :: x13 :: x14 :: x15 :: x16 :: x17 :: x18 :: x19 :: y :: r) (.long x :: st) := G.lstoreG hd hl f
theorem Good.iinc19 (G : Good Z a0 EL K own code maxL ret nm) (z : Int32) {x0 x1 x2 x3 x4 x5 x6 x7 x8 x9 x10 x11 x12 x13 x14 x15 x16 x17 x18 : Slot} {r : List Slot} {c : Int} {x : Int32} (hd : Dc code pc (.iinc 19 c) 3 pc') (f : Go Z EL nw R Post K h S k n pc' (x0 :: x1 :: x2 :: x3 :: x4 :: x5 :: x6 :: x7 :: x8 :: x9 :: x10 :: x11 :: x12 :: x13 :: x14 :: x15 :: x16 :: x17 :: x18 :: .val (.int (x + z)) :: r) st) (hz : Int32.ofInt c = z := by decide) : Go Z EL nw R Post K h S k n pc (x0 :: x1 :: x2 :: x3 :: x4 :: x5 :: x6 :: x7 :: x8 :: x9 :: x10 :: x11 :: x12 :: x13 :: x14 :: x15 :: x16 :: x17 :: x18 :: .val (.int x) :: r) st := by subst hz; exact G.iincG hd rfl rfl f
theorem Good.istore20 (G : Good Z a0 EL K own code maxL ret nm) {x0 x1 x2 x3 x4 x5 x6 x7 x8 x9 x10 x11 x12 x13 x14 x15 x16 x17 x18 x19 x20 : Slot} {r : List Slot} {x : Int32} (hd : Dc code pc (.istore 20) 2 pc') (f : Go Z EL nw R Post K h S k n pc' (x0 :: x1 :: x2 :: x3 :: x4 :: x5 :: x6 :: x7 :: x8 :: x9 :: x10 :: x11 :: x12 :: x13 :: x14 :: x15 :: x16 :: x17 :: x18 :: x19 :: .val (.int x) :: r) st) (hl : storeLocals (x0 :: x1 :: x2 :: x3 :: x4 :: x5 :: x6 :: x7 :: x8 :: x9 :: x10 :: x11 :: x12 :: x13 :: x14 :: x15 :: x16 :: x17 :: x18 :: x19 :: x20 :: r).toArray 20 (.int x) = some (x0 :: x1 :: x2 :: x3 :: x4 :: x5 :: x6 :: x7 :: x8 :: x9 :: x10 :: x11 :: x12 :: x13 :: x14 :: x15 :: x16 :: x17 :: x18 :: x19 :: .val (.int x) :: r).toArray := by rfl) : Go Z EL nw R Post K h S k n pc (x0 :: x1 :: x2 :: x3 :: x4 :: x5 :: x6 :: x7 :: x8 :: x9 :: x10 :: x11 :: x12 :: x13 :: x14 :: x15 :: x16 :: x17 :: x18 :: x19 :: x20 :: r) (.int x :: st) := G.istoreG hd hl f
theorem Good.astore20 (G : Good Z a0 EL K own code maxL ret nm) {x0 x1 x2 x3 x4 x5 x6 x7 x8 x9 x10 x11 x12 x13 x14 x15 x16 x17 x18 x19 x20 : Slot} {r : List Slot} {x : Value} (hd : Dc code pc (.astore 20) 2 pc') (f : Go Z EL nw R Post K h S k n pc' (x0 :: x1 :: x2 :: x3 :: x4 :: x5 :: x6 :: x7 :: x8 :: x9 :: x10 :: x11 :: x12 :: x13 :: x14 :: x15 :: x16 :: x17 :: x18 :: x19 :: .val x :: r) st) (hv : x.isRef = true := by rfl) (hl : storeLocals (x0 :: x1 :: x2 :: x3 :: x4 :: x5 :: x6 :: x7 :: x8 :: x9 :: x10 :: x11 :: x12 :: x13 :: x14 :: x15 :: x16 :: x17 :: x18 :: x19 :: x20 :: r).toArray 20 x = some (x0 :: x1 :: x2 :: x3 :: x4 :: x5 :: x6 :: x7 :: x8 :: x9 :: x10 :: x11 :: x12 :: x13 :: x14 :: x15 :: x16 :: x17 :: x18 :: x19 :: .val x :: r).toArray := by rfl) : Go Z EL nw R Post K h S k n pc (x0 :: x1 :: x2 :: x3 :: x4 :: x5 :: x6 :: x7 :: x8 :: x9 :: x10 :: x11 :: x12 :: x13 :: x14 :: x15 :: x16 :: x17 :: x18 :: x19 :: x20 :: r) (x :: st) := G.astoreG hd hv hl f
theorem Good.lstore20 (G : Good Z a0 EL K own code maxL ret nm) {x0 x1 x2 x3 x4 x5 x6 x7 x8 x9 x10 x11 x12 x13 x14 x15 x16 x17 x18 x19 x20 y : Slot} {r : List Slot} {x : Int64} (hd : Dc code pc (.lstore 20) 2 pc') (f : Go Z EL nw R Post K h S k n pc' (x0 :: x1 :: x2 :: x3 :: x4 :: x5 :: x6 :: x7 :: x8 :: x9 :: x10 :: x11 :: x12 :: x13 :: x14 :: x15 :: x16 :: x17 :: x18 :: x19 :: .val (.long x) :: .second :: r) st) (hl : storeLocals (x0 :: x1 :: x2 :: x3 :: x4 :: x5 :: x6 :: x7 :: x8 :: x9 :: x10 :: x11 :: x12 :: x13 :: x14 :: x15 :: x16 :: x17 :: x18 :: x19 :: x20 :: y :: r).toArray 20 (.long x) = some (x0 :: x1 :: x2 :: x3 :: x4 :: x5 :: x6 :: x7 :: x8 :: x9 :: x10 :: x11 :: x12 :: x13 :: x14 :: x15 :: x16 :: x17 :: x18 :: x19 :: .val (.long x) :: .second :: r).toArray := by rfl) : Go Z EL nw R Post K h S k n pc (x0 :: x1 :: x2 :: x3 :: x4 :: x5 :: x6 :: x7 :: x8 :: x9 :: x10 :: x11 :: x12 :: x13 :: x14 :: x15 :: x16 :: x17 :: x18 :: x19 :: x20 :: y :: r) (.long x :: st) := G.lstoreG hd hl f
theorem Good.iinc20 (G : Good Z a0 EL K own code maxL ret nm) (z : Int32) {x0 x1 x2 x3 x4 x5 x6 x7 x8 x9 x10 x11 x12 x13 x14 x15 x16 x17 x18 x19 : Slot} {r : List Slot} {c : Int} {x : Int32} (hd : Dc code pc (.iinc 20 c) 3 pc') (f : Go Z EL nw R Post K h S k n pc' (x0 :: x1 :: x2 :: x3 :: x4 :: x5 :: x6 :: x7 :: x8 :: x9 :: x10 :: x11 :: x12 :: x13 :: x14 :: x15 :: x16 :: x17 :: x18 :: x19 :: .val (.int (x + z)) :: r) st) (hz : Int32.ofInt c = z := by decide) : Go Z EL nw R Post K h S k n pc (x0 :: x1 :: x2 :: x3 :: x4 :: x5 :: x6 :: x7 :: x8 :: x9 :: x10 :: x11 :: x12 :: x13 :: x14 :: x15 :: x16 :: x17 :: x18 :: x19 :: .val (.int x) :: r) st := by subst hz; exact G.iincG hd rfl rfl f
theorem Good.istore21 (G : Good Z a0 EL K own code maxL ret nm) {x0 x1 x2 x3 x4 x5 x6 x7 x8 x9 x10 x11 x12 x13 x14 x15 x16 x17 x18 x19 x20 x21 : Slot} {r : List Slot} {x : Int32} (hd : Dc code pc (.istore 21) 2 pc') (f : Go Z EL nw R Post K h S k n pc' (x0 :: x1 :: x2 :: x3 :: x4 :: x5 :: x6 :: x7 :: x8 :: x9 :: x10 :: x11 :: x12 :: x13 :: x14 :: x15 :: x16 :: x17 :: x18 :: x19 :: x20 :: .val (.int x) :: r) st) (hl : storeLocals (x0 :: x1 :: x2 :: x3 :: x4 :: x5 :: x6 :: x7 :: x8 :: x9 :: x10 :: x11 :: x12 :: x13 :: x14 :: x15 :: x16 :: x17 :: x18 :: x19 :: x20 :: x21 :: r).toArray 21 (.int x) = some (x0 :: x1 :: x2 :: x3 :: x4 :: x5 :: x6 :: x7 :: x8 :: x9 :: x10 :: x11 :: x12 :: x13 :: x14 :: x15 :: x16 :: x17 :: x18 :: x19 :: x20 :: .val (.int x) :: r).toArray := by rfl) : Go Z EL nw R Post K h S k n pc (x0 :: x1 :: x2 :: x3 :: x4 :: x5 :: x6 :: x7 :: x8 :: x9 :: x10 :: x11 :: x12 :: x13 :: x14 :: x15 :: x16 :: x17 :: x18 :: x19 :: x20 :: x21 :: r) (.int x :: st) := G.istoreG hd hl f
theorem Good.astore21 (G : Good Z a0 EL K own code maxL ret nm) {x0 x1 x2 x3 x4 x5 x6 x7 x8 x9 x10 x11 x12 x13 x14 x15 x16 x17 x18 x19 x20 x21 : Slot} {r : List Slot} {x : Value} (hd : Dc code pc (.astore 21) 2 pc') (f : Go Z EL nw R Post K h S k n pc' (x0 :: x1 :: x2 :: x3 :: x4 :: x5 :: x6 :: x7 :: x8 :: x9 :: x10 :: x11 :: x12 :: x13 :: x14 :: x15 :: x16 :: x17 :: x18 :: x19 :: x20 :: .val x :: r) st) (hv : x.isRef = true := by rfl) (hl : storeLocals (x0 :: x1 :: x2 :: x3 :: x4 :: x5 :: x6 :: x7 :: x8 :: x9 :: x10 :: x11 :: x12 :: x13 :: x14 :: x15 :: x16 :: x17 :: x18 :: x19 :: x20 :: x21 :: r).toArray 21 x = some (x0 :: x1 :: x2 :: x3 :: x4 :: x5 :: x6 :: x7 :: x8 :: x9 :: x10 :: x11 :: x12 :: x13 :: x14 :: x15 :: x16 :: x17 :: x18 :: x19 :: x20 :: .val x :: r).toArray := by rfl) : Go Z EL nw R Post K h S k n pc (x0 :: x1 :: x2 :: x3 :: x4 :: x5 :: x6 :: x7 :: x8 :: x9 :: x10 :: x11 :: x12 :: x13 :: x14 :: x15 :: x16 :: x17 :: x18 :: x19 :: x20 :: x21 :: r) (x :: st) := G.astoreG hd hv hl f
theorem Good.lstore21 (G : Good Z a0 EL K own code maxL ret nm) {x0 x1 x2 x3 x4 x5 x6 x7 x8 x9 x10 x11 x12 x13 x14 x15 x16 x17 x18 x19 x20 x21 y : Slot} {r : List Slot} {x : Int64} (hd : Dc code pc (.lstore 21) 2 pc') (f : Go Z EL nw R Post K h S k n pc' (x0 :: x1 :: x2 :: x3 :: x4 :: x5 :: x6 :: x7 :: x8 :: x9 :: x10 :: x11 :: x12 :: x13 :: x14 :: x15 :: x16 :: x17 :: x18 :: x19 :: x20 :: .val (.long x) :: .second :: r) st) (hl : storeLocals (x0 :: x1 :: x2 :: x3 :: x4 :: x5 :: x6 :: x7 :: x8 :: x9 :: x10 :: x11 :: x12 :: x13 :: x14 :: x15 :: x16 :: x17 :: x18 :: x19 :: x20 :: x21 :: y :: r).toArray 21 (.long x) = some (x0 :: x1 :: x2 :: x3 :: x4 :: x5 :: x6 :: x7 :: x8 :: x9 :: x10 :: x11 :: x12 :: x13 :: x14 :: x15 :: x16 :: x17 :: x18 :: x19 :: x20 :: .val (.long x) :: .second :: r).toArray := by rfl) : Go Z EL nw R Post K h S k n pc (x0 :: x1 :: x2 :: x3 :: x4 :: x5 :: x6 :: x7 :: x8 :: x9 :: x10 :: x11 :: x12 :: x13 :: x14 :: x15 :: x16 :: x17 :: x18 :: x19 :: x20 :: x21 :: y :: r) (.long x :: st) := G.lstoreG hd hl f
theorem Good.iinc21 (G : Good Z a0 EL K own code maxL ret nm) (z : Int32) {x0 x1 x2 x3 x4 x5 x6 x7 x8 x9 x10 x11 x12 x13 x14 x15 x16 x17 x18 x19 x20 : Slot} {r : List Slot} {c : Int} {x : Int32} (hd : Dc code pc (.iinc 21 c) 3 pc') (f : Go Z EL nw R Post K h S k n pc' (x0 :: x1 :: x2 :: x3 :: x4 :: x5 :: x6 :: x7 :: x8 :: x9 :: x10 :: x11 :: x12 :: x13 :: x14 :: x15 :: x16 :: x17 :: x18 :: x19 :: x20 :: .val (.int (x + z)) :: r) st) (hz : Int32.ofInt c = z := by decide) : Go Z EL nw R Post K h S k n pc (x0 :: x1 :: x2 :: x3 :: x4 :: x5 :: x6 :: x7 :: x8 :: x9 :: x10 :: x11 :: x12 :: x13 :: x14 :: x15 :: x16 :: x17 :: x18 :: x19 :: x20 :: .val (.int x) :: r) st := by subst hz; exact G.iincG hd rfl rfl f
end Plain
end Jvm.Own
namespace Jvm.Own
open Jvm Jvm.ClassFile Sem Op Lib Jvm.Free Jvm.Stand Jvm.LawKit Jvm.RoadKit Bundle
/-- the array at a holds just these values -/
def Al (Z : State) (h : Heap) (a : Addr) (ty : FieldType) (vs : List Value) : Prop := ∃ c : Cell, Arr Z h a c ty ∧ c.slots = vs.toArray ∧ vs.length < 2147483648 ∧ ∀ v ∈ vs, fits ty v = true
section AlFacts
variable {Z : State} {h h' : Heap} {a b : Addr} {ty : FieldType} {vs : List Value} {ws : List Addr} {sl : Nat} {v : Value} {C : String}
theorem Al.lt (F : Al Z h a ty vs) : a < h.size := by obtain ⟨c, A, -⟩ := F; exact A.lt
theorem Al.ext (F : Al Z h a ty vs) (E : Ext h h') : Al Z h' a ty vs := by obtain ⟨c, A, r⟩ := F; exact ⟨c, A.ext E, r⟩
theorem Al.other (F : Al Z h b ty vs) (W : Wr h h' a sl v) (q : b ≠ a) : Al Z h' b ty vs := by obtain ⟨c, A, r⟩ := F; exact ⟨c, A.other W q, r⟩
theorem Al.keep (F : Al Z h a ty vs) (K : Keep h h' ws) (q : a ∉ ws) : Al Z h' a ty vs := by obtain ⟨c, A, r⟩ := F; exact ⟨c, ⟨K.2.1 a c A.1 q, A.2⟩, r⟩
theorem Al.set (F : Al Z h a ty vs) (W : Wr h h' a sl v) (hv : fits ty v = true) : Al Z h' a ty (vs.set sl v) := by
  obtain ⟨c, A, r1, r2, r3⟩ := F
  refine ⟨_, A.same W, by simp [Cell.setSlot, r1], by simpa using r2, fun w hw => ?_⟩
  rcases List.mem_or_eq_of_mem_set hw with q | q
  · exact r3 w q
  · rw [q]; exact hv
theorem Al.len (F : Al Z h a ty vs) : vs.length < 2147483648 := by obtain ⟨c, A, r1, r2, r3⟩ := F; exact r2
theorem Al.arv (F : Al Z h a ty vs) (d : Value) : ∃ k, Arv Z h a k ty (Int32.ofNat vs.length) vs d := by
  obtain ⟨c, A, r1, r2, r3⟩ := F
  have e : (Int32.ofNat vs.length).toInt = (vs.length : Int) := len_toInt r2
  have e1 := back32 (n := Int32.ofNat vs.length) (by rw [Int32.lt_iff_toInt_lt, e]; simp)
  have e2 : (Int32.ofNat vs.length).toNatClampNeg = vs.length := by simp [Int32.toNatClampNeg, e]
  refine ⟨c.cls, c, A, rfl, by rw [r1, e2]; simp, by rw [Int32.lt_iff_toInt_lt, e]; simp, fun i hi => ?_, fun i hi => ?_⟩
  · rw [r1] at hi ⊢
    simp only [List.size_toArray] at hi
    simp [List.getD_eq_getElem?_getD, hi]
  · rw [r1] at hi
    simp only [List.size_toArray] at hi
    have : vs.getD i d = vs[i] := by simp [List.getD_eq_getElem?_getD, hi]
    rw [this]
    exact r3 _ (List.getElem_mem hi)
theorem Al.of_arv {k : ClassId} {z : Int32} {d : Value} (F : Arv Z h a k ty z vs d) (hl : z.toNatClampNeg = vs.length) : Al Z h a ty vs := by
  obtain ⟨c, A, r1, r2, r3, H, G⟩ := F
  have hs : c.slots.size = vs.length := r2.trans hl
  refine ⟨c, A, ?_, by rw [← hl]; exact (back32 r3).2, fun v hv => ?_⟩
  · apply Array.ext
    · simp [hs]
    · intro i h1 h2
      have q := H i h1
      rw [Array.getElem?_eq_getElem h1] at q
      have q' := Option.some.inj q
      rw [q']
      have h3 : i < vs.length := by rw [← hs]; exact h1
      simp [List.getD_eq_getElem?_getD, h3]
  · obtain ⟨i, hi, rfl⟩ := List.getElem_of_mem hv
    have := G i (by rw [hs]; exact hi)
    simpa [List.getD_eq_getElem?_getD, hi] using this
theorem Al.same {vs' : List Value} (F : Al Z h a ty vs) (G : Al Z h a ty vs') : vs = vs' := by
  obtain ⟨c, A, r1, -⟩ := F
  obtain ⟨c', A', r1', -⟩ := G
  have e := A.1.symm.trans A'.1
  cases e
  have := r1.symm.trans r1'
  simpa using this
theorem Al.neExa {a0 : Array Value} {cnt : Nat} (F : Al Z h b ty vs) (E : Exa Z h a C) (wi : (Cond.instantiable C cnt).before a0 Z = true) : a ≠ b := by
  obtain ⟨c, A, -⟩ := F; exact ne_arr E wi A
theorem ext_keep (E : Ext h h') (ws : List Addr) : Keep h h' ws := (Keep.refl h ws).ext E
theorem keep_nil_ext (K : Keep h h' []) : Ext h h' := ⟨K.1, fun a c q => K.2.1 a c q nin0⟩
theorem nat_idx {j : Int32} {i : Nat} (hj : j.toInt = (i : Int)) : ¬ j < 0 ∧ j.toNatClampNeg = i := by
  constructor
  · rw [Int32.lt_iff_toInt_lt, hj]; simp
  · simp [Int32.toNatClampNeg, hj]
theorem Sta.ext' {C n d : String} (E : Ext h h') (F : Sta Z h C n d v) : Sta Z h' C n d v := F.ext E
/-- a static's cell is none of the freshly made ones -/
theorem Sta.keep {C n d : String} (F : Sta Z h C n d v) (K : Keep h h' ws) (q : ∀ x ∈ ws, ∀ cell : Cell, h[x]? = some cell → cell.vm.isStatics = false) : Sta Z h' C n d v := by
  obtain ⟨cf, i, k, f, st, cell, h1, h2, h3, h4, h5, h6, r⟩ := F
  exact ⟨cf, i, k, f, st, cell, h1, h2, h3, h4, K.2.1 _ _ h5 (fun z => by have := q _ z _ h5; rw [h6] at this; cases this), h6, r⟩
/-- a static of the start stands, where all that was written is new -/
theorem Sta.old {C n d : String} (F : Sta Z Z.heap C n d v) (O : Ext Z.heap h) : Sta Z h C n d v := F.ext O
theorem Fld.oth {a0 : Array Value} {C O O' fn fn' d d' : String} {w : Value} (F : Fld Z h b O fn d w) (W : Wr h h' a (RoadKit.slotOf Z O' fn' d') v) (L1 : Laid Z a0 C O fn d) (L2 : Laid Z a0 C O' fn' d') (hn : fn ≠ fn') (h1 : (parseFieldDescriptor d).isSome = true) (h2 : (parseFieldDescriptor d').isSome = true) : Fld Z h' b O fn d w := by
  obtain ⟨t1, e1⟩ := Option.isSome_iff_exists.mp h1
  obtain ⟨t2, e2⟩ := Option.isSome_iff_exists.mp h2
  exact F.other W (Or.inr (slot_ne L1 L2 hn e1 e2))
end AlFacts
section Heap
variable {Z : State} {a0 : Array Value} {EL : List (String × Nat)} {nw : Bool} {R : Room} {Post : Pst} {K : Kx} {own : String} {code : ByteArray} {maxL : Nat} {ret : Option FieldType} {nm : String} {h h' : Heap} {S : List Addr} {k n pc pc' : Nat} {L : List Slot} {st : List Value} {l : Launch}
/-- a step that leaves the heap -/
theorem Go.calm {L' : List Slot} {st' : List Value} (G : Good Z a0 EL K own code maxL ret nm)
    (q : ∀ (T : State) (vm0 : Vm) (locs : List Loc), Stand K.p K.l K.e R (K.s.setVm vm0) K.m K.as K.below K.meth K.c T locs k n → Z.Warmed39 (K.s.setVm vm0).vm → (K.s.setVm vm0).vm.findClass own = some K.m.cls → T.heap = h →
      ∃ T', Stand K.p K.l K.e R (K.s.setVm vm0) K.m K.as K.below K.meth K.c T' locs k n ∧ T'.heap = h ∧ ∀ target, Steps K.p.tables K.e K.below (T'.setTop (mkF K.m pc' L'.toArray st')) target → Steps K.p.tables K.e K.below (T.setTop (mkF K.m pc L.toArray st)) target)
    (f : Go Z EL nw R Post K h S k n pc' L' st') : Go Z EL nw R Post K h S k n pc L st := fun T I => by
  obtain ⟨vm0, k0, locs, X, hS, hk0, hZ, e, r⟩ := I
  obtain ⟨T', X', e', stp⟩ := q T vm0 locs X hZ (G.hown hS) e
  exact (f T' ⟨vm0, k0, locs, X', hS, hk0, hZ, e', r⟩).step stp
/-- a step that makes one cell -/
theorem Go.grow {L' : List Slot} {st' : List Value} {k' n' : Nat} {P : Heap → Prop} (G : Good Z a0 EL K own code maxL ret nm)
    (q : ∀ (T : State) (vm0 : Vm) (locs : List Loc), Stand K.p K.l K.e R (K.s.setVm vm0) K.m K.as K.below K.meth K.c T locs k n → Z.Warmed39 (K.s.setVm vm0).vm → (K.s.setVm vm0).vm.findClass own = some K.m.cls → T.heap = h →
      ∃ T' h', Stand K.p K.l K.e R (K.s.setVm vm0) K.m K.as K.below K.meth K.c T' locs k' n' ∧ T'.heap = h' ∧ Ext h h' ∧ h.size < h'.size ∧ P h' ∧ ∀ target, Steps K.p.tables K.e K.below (T'.setTop (mkF K.m pc' L'.toArray st')) target → Steps K.p.tables K.e K.below (T.setTop (mkF K.m pc L.toArray st)) target)
    (f : ∀ h', Ext h h' → h.size < h'.size → P h' → Go Z EL nw R Post K h' (h.size :: S) k' n' pc' L' st') : Go Z EL nw R Post K h S k n pc L st := fun T I => by
  obtain ⟨vm0, k0, locs, X, hS, hk0, hZ, e, N, CH, hSf, hw, hO⟩ := I
  obtain ⟨T', h', X', e', E, hlt, hP, stp⟩ := q T vm0 locs X hZ (G.hown hS) e
  have hn0 : Z.heap.size ≤ h.size := hO.1
  refine (f h' E hlt hP T' ⟨vm0, k0, locs, X', hS, Nat.le_trans hk0 E.1, hZ, e', N, CH.trans (CHr.ext E CH.1), fun a ha => ?_, hw, ⟨Nat.le_trans hO.1 E.1, fun x c q => E.2 x c (hO.2 x c q)⟩⟩).step stp
  rcases List.mem_cons.mp ha with rfl | ha
  · exact ⟨hn0, hlt, Safe.ext E CH.1 (Safe.new (Nat.le_refl _))⟩
  · obtain ⟨b1, b2, b3⟩ := hSf a ha
    exact ⟨b1, Nat.lt_of_lt_of_le b2 E.1, Safe.ext E CH.1 b3⟩
/-- a step that writes one place of a cell of S -/
theorem Go.write {L' : List Slot} {st' : List Value} {a : Addr} {sl : Nat} {v : Value} (G : Good Z a0 EL K own code maxL ret nm) (ha : a ∈ S)
    (q : ∀ (T : State) (vm0 : Vm) (locs : List Loc), Stand K.p K.l K.e R (K.s.setVm vm0) K.m K.as K.below K.meth K.c T locs k n → Z.Warmed39 (K.s.setVm vm0).vm → (K.s.setVm vm0).vm.findClass own = some K.m.cls → T.heap = h →
      ∃ T' h', Stand K.p K.l K.e R (K.s.setVm vm0) K.m K.as K.below K.meth K.c T' (locs ++ [⟨a, sl⟩]) k n ∧ T'.heap = h' ∧ Wr h h' a sl v ∧ ∀ target, Steps K.p.tables K.e K.below (T'.setTop (mkF K.m pc' L'.toArray st')) target → Steps K.p.tables K.e K.below (T.setTop (mkF K.m pc L.toArray st)) target)
    (f : ∀ h', Wr h h' a sl v → Go Z EL nw R Post K h' S k n pc' L' st') : Go Z EL nw R Post K h S k n pc L st := fun T I => by
  obtain ⟨vm0, k0, locs, X, hS, hk0, hZ, e, N, CH, hSf, hw, hO⟩ := I
  obtain ⟨T', h', X', e', W, stp⟩ := q T vm0 locs X hZ (G.hown hS) e
  obtain ⟨c1, c2, c3⟩ := hSf a ha
  refine (f h' W T' ⟨vm0, k0, _, X', hS, by rw [W.size]; exact hk0, hZ, e', Fr.snoc X' N c1, CH.trans (CHr.wr W c3 CH.1), fun x hx => ?_, hw, ⟨by rw [W.size]; exact hO.1, fun x c q => (Keep.of_wr W).2.1 x c (hO.2 x c q) (fun z => by cases List.mem_singleton.mp z; exact absurd (Array.getElem?_eq_some_iff.mp q).1 (Nat.not_lt.mpr c1))⟩⟩).step stp
  obtain ⟨b1, b2, b3⟩ := hSf x hx
  exact ⟨b1, by rw [W.size]; exact b2, Safe.wr W c3 CH.1 b3⟩
theorem Good.getF (G : Good Z a0 EL K own code maxL ret nm) {R0 O fn d : String} {index : Nat} {a : Addr} {v : Value} (hd : Dc code pc (.getfield index) 3 pc') (w : (Cond.fieldLink own index R0 fn d).before a0 Z = true) (F : Fld Z h a O fn d v) (f : Go Z EL nw R Post K h S k n pc' L (v :: st)) (via : Via Z R0 O fn d := by exact Via.refl) : Go Z EL nw R Post K h S k n pc L (.ref a :: st) := by
  obtain ⟨hd, rfl⟩ := hd
  refine Go.calm G (fun T vm0 locs X hZ hown e => ?_) f
  exact getF X G.1 hZ hown (host := "") (Or.inl w) via e F (g := mkF K.m pc L.toArray (.ref a :: st)) rfl rfl (hb G.2.1 hd)
theorem Good.getS (G : Good Z a0 EL K own code maxL ret nm) {R0 O fn d : String} {index : Nat} {v : Value} (hd : Dc code pc (.getstatic index) 3 pc') (w : (Cond.fieldLink own index R0 fn d).before a0 Z = true) (F : Sta Z Z.heap O fn d v) (f : Go Z EL nw R Post K h S k n pc' L (v :: st)) (via : Via Z R0 O fn d := by exact Via.refl) : Go Z EL nw R Post K h S k n pc L st := by
  obtain ⟨hd, rfl⟩ := hd
  refine Go.oldIn fun hO => ?_
  have F := F.ext hO
  refine Go.calm G (fun T vm0 locs X hZ hown e => ?_) f
  exact getS X G.1 hZ hown (host := "") w via e F (g := mkF K.m pc L.toArray st) rfl (hb G.2.1 hd)
theorem Good.ldcI (G : Good Z a0 EL K own code maxL ret nm) {index : Nat} {v : Int32} (hd : Dc code pc (.ldc index) 2 pc') (w : (Cond.constant own index v).before a0 Z = true) (f : Go Z EL nw R Post K h S k n pc' L (.int v :: st)) : Go Z EL nw R Post K h S k n pc L st := by
  obtain ⟨hd, rfl⟩ := hd
  refine Go.calm G (fun T vm0 locs X hZ hown e => ⟨T, X, e, ?_⟩) f
  exact X.ldcInt G.1 hown (mvT hZ w) (g := mkF K.m pc L.toArray st) rfl (hb G.2.1 hd)
theorem Good.ldc2J (G : Good Z a0 EL K own code maxL ret nm) {index : Nat} {v : Int64} (hd : Dc code pc (.ldc2_w index) 3 pc') (w : (Cond.constantLong own index v).before a0 Z = true) (f : Go Z EL nw R Post K h S k n pc' L (.long v :: st)) : Go Z EL nw R Post K h S k n pc L st := by
  obtain ⟨hd, rfl⟩ := hd
  refine Go.calm G (fun T vm0 locs X hZ hown e => ⟨T, X, e, ?_⟩) f
  exact X.ldc2Long G.1 hown (mvT hZ w) (g := mkF K.m pc L.toArray st) rfl (hb G.2.1 hd)
theorem Good.castR (G : Good Z a0 EL K own code maxL ret nm) {C : String} {index : Nat} {a : Addr} (hd : Dc code pc (.checkcast index) 3 pc') (w : (Cond.classLink own index C).before a0 Z = true) (F : Ins Z h a C true) (f : Go Z EL nw R Post K h S k n pc' L (.ref a :: st)) : Go Z EL nw R Post K h S k n pc L (.ref a :: st) := by
  obtain ⟨hd, rfl⟩ := hd
  refine Go.calm G (fun T vm0 locs X hZ hown e => ?_) f
  exact castY X G.1 hZ hown w e F (g := mkF K.m pc L.toArray (.ref a :: st)) rfl rfl (hb G.2.1 hd)
theorem Good.instY (G : Good Z a0 EL K own code maxL ret nm) {C : String} {index : Nat} {a : Addr} (hd : Dc code pc (.instanceof index) 3 pc') (w : (Cond.classLink own index C).before a0 Z = true) (F : Ins Z h a C true) (f : Go Z EL nw R Post K h S k n pc' L (.int 1 :: st)) : Go Z EL nw R Post K h S k n pc L (.ref a :: st) := by
  obtain ⟨hd, rfl⟩ := hd
  refine Go.calm G (fun T vm0 locs X hZ hown e => ?_) f
  exact instY X G.1 hZ hown w e F (g := mkF K.m pc L.toArray (.ref a :: st)) rfl rfl (hb G.2.1 hd)
theorem Good.instNo (G : Good Z a0 EL K own code maxL ret nm) {C D : String} {index : Nat} {a : Addr} (hd : Dc code pc (.instanceof index) 3 pc') (w : (Cond.classLink own index C).before a0 Z = true) (E : Exa Z h a D) (F : ∃ c t, Z.vm.findClass D = some c ∧ Z.vm.findClass C = some t ∧ Z.vm.assignable c t = false) (f : Go Z EL nw R Post K h S k n pc' L (.int 0 :: st)) : Go Z EL nw R Post K h S k n pc L (.ref a :: st) := by
  obtain ⟨hd, rfl⟩ := hd
  refine Go.calm G (fun T vm0 locs X hZ hown e => ?_) f
  exact instNo X G.1 hZ hown w e E F (g := mkF K.m pc L.toArray (.ref a :: st)) rfl rfl (hb G.2.1 hd)
theorem Good.instNull (G : Good Z a0 EL K own code maxL ret nm) {index : Nat} (hd : Dc code pc (.instanceof index) 3 pc') (f : Go Z EL nw R Post K h S k n pc' L (.int 0 :: st)) : Go Z EL nw R Post K h S k n pc L (.null :: st) := by
  obtain ⟨hd, rfl⟩ := hd
  refine Go.calm G (fun T vm0 locs X hZ hown e => ⟨T, X, e, ?_⟩) f
  exact X.instanceofNull G.1 (g := mkF K.m pc L.toArray (.null :: st)) rfl rfl (hb G.2.1 hd)
theorem Good.castNull (G : Good Z a0 EL K own code maxL ret nm) {index : Nat} (hd : Dc code pc (.checkcast index) 3 pc') (f : Go Z EL nw R Post K h S k n pc' L (.null :: st)) : Go Z EL nw R Post K h S k n pc L (.null :: st) := by
  obtain ⟨hd, rfl⟩ := hd
  refine Go.calm G (fun T vm0 locs X hZ hown e => ⟨T, X, e, ?_⟩) f
  exact X.checkcastNull G.1 (g := mkF K.m pc L.toArray (.null :: st)) rfl rfl (hb G.2.1 hd)
theorem Good.alen (G : Good Z a0 EL K own code maxL ret nm) {a : Addr} {ty : FieldType} {vs : List Value} (z : Int32) (hd : Dc code pc .arraylength 1 pc') (A : Al Z h a ty vs) (hz : z.toInt = (vs.length : Int)) (f : Go Z EL nw R Post K h S k n pc' L (.int z :: st)) : Go Z EL nw R Post K h S k n pc L (.ref a :: st) := by
  obtain ⟨hd, rfl⟩ := hd
  obtain ⟨c, A1, A2, A3, A4⟩ := A
  have ez : c.slots.size.toInt32 = z := by
    apply Int32.toInt_inj.mp
    rw [hz, A2]
    simp only [List.size_toArray]
    exact len_toInt A3
  refine Go.calm G (fun T vm0 locs X hZ hown e => ⟨T, X, e, fun t q => ?_⟩) f
  refine X.arraylength G.1 (by rw [e]; exact A1.1) (State.isArrayOf_alike hZ.alike A1.2.1) (g := mkF K.m pc L.toArray (.ref a :: st)) rfl rfl (hb G.2.1 hd) t ?_
  rw [ez]; exact q
theorem Good.caload (G : Good Z a0 EL K own code maxL ret nm) {a : Addr} {vs : List Value} {j : Int32} {i : Nat} {v : Value} (hd : Dc code pc .caload 1 pc') (A : Al Z h a .char vs) (hj : j.toInt = (i : Int)) (hv : vs[i]? = some v) (f : Go Z EL nw R Post K h S k n pc' L (v :: st)) : Go Z EL nw R Post K h S k n pc L (.int j :: .ref a :: st) := by
  obtain ⟨hd, rfl⟩ := hd
  obtain ⟨c, A1, A2, A3, A4⟩ := A
  obtain ⟨j1, j2⟩ := nat_idx hj
  have hlt := (List.getElem?_eq_some_iff.mp hv).1
  refine Go.calm G (fun T vm0 locs X hZ hown e => ⟨T, X, e, fun t q => ?_⟩) f
  exact X.caload G.1 (by rw [e]; exact A1.1) (State.isArrayOf_alike hZ.alike A1.2.1) A1.2.2 (by rw [j2, A2]; simp only [List.size_toArray]; rintro (q | q); exact j1 q; omega) (by rw [j2, A2]; simpa using hv) (g := mkF K.m pc L.toArray (.int j :: .ref a :: st)) rfl rfl (hb G.2.1 hd) t q
theorem Good.baload (G : Good Z a0 EL K own code maxL ret nm) {a : Addr} {vs : List Value} {j : Int32} {i : Nat} {v : Value} (hd : Dc code pc .baload 1 pc') (A : Al Z h a .byte vs) (hj : j.toInt = (i : Int)) (hv : vs[i]? = some v) (f : Go Z EL nw R Post K h S k n pc' L (v :: st)) : Go Z EL nw R Post K h S k n pc L (.int j :: .ref a :: st) := by
  obtain ⟨hd, rfl⟩ := hd
  obtain ⟨c, A1, A2, A3, A4⟩ := A
  obtain ⟨j1, j2⟩ := nat_idx hj
  have hlt := (List.getElem?_eq_some_iff.mp hv).1
  refine Go.calm G (fun T vm0 locs X hZ hown e => ⟨T, X, e, fun t q => ?_⟩) f
  exact X.baloadBytes G.1 (by rw [e]; exact A1.1) (State.isArrayOf_alike hZ.alike A1.2.1) A1.2.2 (by rw [j2, A2]; simp only [List.size_toArray]; rintro (q | q); exact j1 q; omega) (by rw [j2, A2]; simpa using hv) (g := mkF K.m pc L.toArray (.int j :: .ref a :: st)) rfl rfl (hb G.2.1 hd) t q
theorem Good.laload (G : Good Z a0 EL K own code maxL ret nm) {a : Addr} {vs : List Value} {j : Int32} {i : Nat} {v : Value} (hd : Dc code pc .laload 1 pc') (A : Al Z h a .long vs) (hj : j.toInt = (i : Int)) (hv : vs[i]? = some v) (f : Go Z EL nw R Post K h S k n pc' L (v :: st)) : Go Z EL nw R Post K h S k n pc L (.int j :: .ref a :: st) := by
  obtain ⟨hd, rfl⟩ := hd
  obtain ⟨c, A1, A2, A3, A4⟩ := A
  obtain ⟨j1, j2⟩ := nat_idx hj
  have hlt := (List.getElem?_eq_some_iff.mp hv).1
  refine Go.calm G (fun T vm0 locs X hZ hown e => ⟨T, X, e, fun t q => ?_⟩) f
  exact X.laload G.1 (by rw [e]; exact A1.1) (State.isArrayOf_alike hZ.alike A1.2.1) A1.2.2 (by rw [j2, A2]; simp only [List.size_toArray]; rintro (q | q); exact j1 q; omega) (by rw [j2, A2]; simpa using hv) (g := mkF K.m pc L.toArray (.int j :: .ref a :: st)) rfl rfl (hb G.2.1 hd) t q
theorem Good.aaload (G : Good Z a0 EL K own code maxL ret nm) {a : Addr} {ty : FieldType} {vs : List Value} {j : Int32} {i : Nat} {v : Value} (hd : Dc code pc .aaload 1 pc') (A : Al Z h a ty vs) (hty : ty.isReference = true) (hj : j.toInt = (i : Int)) (hv : vs[i]? = some v) (f : Go Z EL nw R Post K h S k n pc' L (v :: st)) : Go Z EL nw R Post K h S k n pc L (.int j :: .ref a :: st) := by
  obtain ⟨hd, rfl⟩ := hd
  obtain ⟨c, A1, A2, A3, A4⟩ := A
  obtain ⟨j1, j2⟩ := nat_idx hj
  have hlt := (List.getElem?_eq_some_iff.mp hv).1
  refine Go.calm G (fun T vm0 locs X hZ hown e => ⟨T, X, e, fun t q => ?_⟩) f
  exact X.aaload G.1 (by rw [e]; exact A1.1) (State.isArrayOf_alike hZ.alike A1.2.1) hty A1.2.2 (by rw [j2, A2]; simp only [List.size_toArray]; rintro (q | q); exact j1 q; omega) (by rw [j2, A2]; simpa using hv) (g := mkF K.m pc L.toArray (.int j :: .ref a :: st)) rfl rfl (hb G.2.1 hd) t q
theorem Good.castore (G : Good Z a0 EL K own code maxL ret nm) {a : Addr} {vs : List Value} {j x : Int32} {i : Nat} (hd : Dc code pc .castore 1 pc') (ha : a ∈ S) (A : Al Z h a .char vs) (hj : j.toInt = (i : Int)) (hi : i < vs.length) (f : ∀ h', Wr h h' a i (.int (nar .char x)) → Al Z h' a .char (vs.set i (.int (nar .char x))) → Go Z EL nw R Post K h' S k n pc' L st) : Go Z EL nw R Post K h S k n pc L (.int x :: .int j :: .ref a :: st) := by
  obtain ⟨hd, rfl⟩ := hd
  obtain ⟨c, A1, A2, A3, A4⟩ := id A
  obtain ⟨j1, j2⟩ := nat_idx hj
  subst j2
  refine Go.write G ha (fun T vm0 locs X hZ hown e => ?_) (fun h' W => f h' W (A.set W (fits_nar_char _)))
  exact stC X G.1 hZ e A1 (by rw [A2]; simp only [List.size_toArray]; rintro (q | q); exact j1 q; omega) (g := mkF K.m pc L.toArray (.int x :: .int j :: .ref a :: st)) rfl rfl (hb G.2.1 hd)
theorem Good.bastore (G : Good Z a0 EL K own code maxL ret nm) {a : Addr} {vs : List Value} {j x : Int32} {i : Nat} (hd : Dc code pc .bastore 1 pc') (ha : a ∈ S) (A : Al Z h a .byte vs) (hj : j.toInt = (i : Int)) (hi : i < vs.length) (f : ∀ h', Wr h h' a i (.int (nar .byte x)) → Al Z h' a .byte (vs.set i (.int (nar .byte x))) → Go Z EL nw R Post K h' S k n pc' L st) : Go Z EL nw R Post K h S k n pc L (.int x :: .int j :: .ref a :: st) := by
  obtain ⟨hd, rfl⟩ := hd
  obtain ⟨c, A1, A2, A3, A4⟩ := id A
  obtain ⟨j1, j2⟩ := nat_idx hj
  subst j2
  refine Go.write G ha (fun T vm0 locs X hZ hown e => ?_) (fun h' W => f h' W (A.set W (fits_nar_byte _)))
  exact stB X G.1 hZ e A1 (by rw [A2]; simp only [List.size_toArray]; rintro (q | q); exact j1 q; omega) (g := mkF K.m pc L.toArray (.int x :: .int j :: .ref a :: st)) rfl rfl (hb G.2.1 hd)
theorem Good.lastore (G : Good Z a0 EL K own code maxL ret nm) {a : Addr} {vs : List Value} {j : Int32} {x : Int64} {i : Nat} (hd : Dc code pc .lastore 1 pc') (ha : a ∈ S) (A : Al Z h a .long vs) (hj : j.toInt = (i : Int)) (hi : i < vs.length) (f : ∀ h', Wr h h' a i (.long x) → Al Z h' a .long (vs.set i (.long x)) → Go Z EL nw R Post K h' S k n pc' L st) : Go Z EL nw R Post K h S k n pc L (.long x :: .int j :: .ref a :: st) := by
  obtain ⟨hd, rfl⟩ := hd
  obtain ⟨c, A1, A2, A3, A4⟩ := id A
  obtain ⟨j1, j2⟩ := nat_idx hj
  subst j2
  refine Go.write G ha (fun T vm0 locs X hZ hown e => ?_) (fun h' W => f h' W (A.set W rfl))
  exact stJ X G.1 hZ e A1 (by rw [A2]; simp only [List.size_toArray]; rintro (q | q); exact j1 q; omega) (g := mkF K.m pc L.toArray (.long x :: .int j :: .ref a :: st)) rfl rfl (hb G.2.1 hd)
theorem Good.aastore (G : Good Z a0 EL K own code maxL ret nm) {a : Addr} {ty : FieldType} {vs : List Value} {j : Int32} {v : Value} {i : Nat} (hd : Dc code pc .aastore 1 pc') (ha : a ∈ S) (A : Al Z h a ty vs) (hty : ty.isReference = true) (F : Sto Z h a v) (hfv : fits ty v = true) (hj : j.toInt = (i : Int)) (hi : i < vs.length) (f : ∀ h', Wr h h' a i v → Al Z h' a ty (vs.set i v) → Go Z EL nw R Post K h' S k n pc' L st) : Go Z EL nw R Post K h S k n pc L (v :: .int j :: .ref a :: st) := by
  obtain ⟨hd, rfl⟩ := hd
  obtain ⟨c, A1, A2, A3, A4⟩ := id A
  obtain ⟨j1, j2⟩ := nat_idx hj
  subst j2
  refine Go.write G ha (fun T vm0 locs X hZ hown e => ?_) (fun h' W => f h' W (A.set W hfv))
  exact stR X G.1 hZ e A1 (by rw [A2]; simp only [List.size_toArray]; rintro (q | q); exact j1 q; omega) hty F (g := mkF K.m pc L.toArray (v :: .int j :: .ref a :: st)) rfl rfl (hb G.2.1 hd)
theorem Good.putF (G : Good Z a0 EL K own code maxL ret nm) {R0 O fn d C : String} {index kk : Nat} {ty : FieldType} {a : Addr} {v old : Value} (hd : Dc code pc (.putfield index) 3 pc') (w : (Cond.fieldLink own index R0 fn d).before a0 Z = true) (F : Fld Z h a O fn d old) (E : Exa Z h a C) (ha : a ∈ S)
    (Ly : (Cond.lays C O fn d).before a0 Z = true ∨ ((Cond.laysFinal C O fn d).before a0 Z = true ∧ own = O ∧ nm = "<init>")) (wi : (Cond.instantiable C kk).before a0 Z = true) (hty : parseFieldDescriptor d = some ty) (hn : narrow ty v = v) (hf : fits ty v = true)
    (f : ∀ h', Wr h h' a (RoadKit.slotOf Z O fn d) v → Fld Z h' a O fn d v → Exa Z h' a C → Go Z EL nw R Post K h' S k n pc' L st) (via : Via Z R0 O fn d := by exact Via.refl) : Go Z EL nw R Post K h S k n pc L (v :: .ref a :: st) := by
  obtain ⟨hd, rfl⟩ := hd
  refine Go.write G ha (fun T vm0 locs X hZ hown e => ?_) (fun h' W => f h' W (F.same W) (E.wr W))
  exact putF X G.1 hZ hown (host := "") (Or.inl w) via e F E (Ly.imp id fun q => ⟨q.1, q.2.1, G.2.2.2.2.2.1.trans q.2.2⟩) wi hty hn hf (g := mkF K.m pc L.toArray (v :: .ref a :: st)) rfl rfl (hb G.2.1 hd)
theorem Good.newO (G : Good Z a0 EL K own code maxL ret nm) {C : String} {index cnt : Nat} (hd : Dc code pc (.new index) 3 pc') (w : (Cond.classLink own index C).before a0 Z = true) (wi : (Cond.instantiable C cnt).before a0 Z = true) (wz : (Cond.initialized C).before a0 Z = true)
    (f : ∀ h', Ext h h' → h.size < h'.size → (Exa Z h' h.size C ∧ ∀ {O fn d : String} {ty : FieldType}, Laid Z a0 C O fn d → parseFieldDescriptor d = some ty → Fld Z h' h.size O fn d (defaultValue ty)) → Go Z EL nw R Post K h' (h.size :: S) (k + 1) (n + cnt) pc' L (.ref h.size :: st)) (hc : k + 1 ≤ R.cells := by decide) (hl : n + cnt ≤ R.slots := by decide) : Go Z EL nw R Post K h S k n pc L st := by
  obtain ⟨hd, rfl⟩ := hd
  refine Go.grow G (fun T vm0 locs X hZ hown e => ?_) f
  obtain ⟨T', h', X', e', E, A, D, -, stp⟩ := newO X G.1 hZ hown w wi wz e (g := mkF K.m pc L.toArray st) rfl (hb G.2.1 hd) hc hl
  exact ⟨T', h', X', e', E, A.lt, ⟨A, D⟩, stp⟩
theorem Good.newA (G : Good Z a0 EL K own code maxL ret nm) {aty : ArrayType} {j : Int32} (i cap : Nat) (hd : Dc code pc (.newarray aty) 2 pc') (w : (Cond.arrayClass (newarray.typeOf aty)).before a0 Z = true) (hj : j.toInt = (i : Int)) (hi : i ≤ cap)
    (f : ∀ h', Ext h h' → h.size < h'.size → Al Z h' h.size (newarray.typeOf aty) (List.replicate i (defaultValue (newarray.typeOf aty))) → Go Z EL nw R Post K h' (h.size :: S) (k + 1) (n + cap) pc' L (.ref h.size :: st)) (hb' : cap * 8 ≤ 536870912 := by decide) (hc : k + 1 ≤ R.cells := by decide) (hl : n + cap ≤ R.slots := by decide) : Go Z EL nw R Post K h S k n pc L (.int j :: st) := by
  obtain ⟨hd, rfl⟩ := hd
  obtain ⟨j1, j2⟩ := nat_idx hj
  refine Go.grow G (fun T vm0 locs X hZ hown e => ?_) f
  obtain ⟨T', h', cA, X', e', E, A, stp⟩ := newP X G.1 hZ w e (g := mkF K.m pc L.toArray (.int j :: st)) rfl (hb G.2.1 hd) rfl j1 (by rw [j2]; exact hi) hb' hc hl
  exact ⟨T', h', X', e', E, A.lt, ⟨_, A, by simp [RoadKit.newA, j2], by simp; omega, fun v hv => by rw [List.eq_of_mem_replicate hv]; cases aty <;> rfl⟩, stp⟩
theorem Good.newR (G : Good Z a0 EL K own code maxL ret nm) {C : String} {index : Nat} {j : Int32} (i cap : Nat) (hd : Dc code pc (.anewarray index) 3 pc') (w1 : (Cond.classLink own index C).before a0 Z = true) (w2 : (Cond.arrayOver (.object C)).before a0 Z = true) (hj : j.toInt = (i : Int)) (hi : i ≤ cap)
    (f : ∀ h', Ext h h' → h.size < h'.size → (Al Z h' h.size (.object C) (List.replicate i .null) ∧ ∃ c cA, Arr Z h' h.size c (.object C) ∧ c.cls = cA ∧ Ovr Z cA C) → Go Z EL nw R Post K h' (h.size :: S) (k + 1) (n + cap) pc' L (.ref h.size :: st)) (hb' : cap * 8 ≤ 536870912 := by decide) (hc : k + 1 ≤ R.cells := by decide) (hl : n + cap ≤ R.slots := by decide) : Go Z EL nw R Post K h S k n pc L (.int j :: st) := by
  obtain ⟨hd, rfl⟩ := hd
  obtain ⟨j1, j2⟩ := nat_idx hj
  refine Go.grow G (fun T vm0 locs X hZ hown e => ?_) f
  obtain ⟨T', h', cA, X', e', E, A, O, stp⟩ := newR X G.1 hZ hown w1 w2 e (g := mkF K.m pc L.toArray (.int j :: st)) rfl (hb G.2.1 hd) rfl j1 (by rw [j2]; exact hi) hb' hc hl
  exact ⟨T', h', X', e', E, A.lt, ⟨⟨_, A, by simp [RoadKit.newA, j2, defaultValue], by simp; omega, fun v hv => by rw [List.eq_of_mem_replicate hv]; rfl⟩, _, cA, A, rfl, O⟩, stp⟩
theorem Good.initO (G : Good Z a0 EL K own code maxL ret nm) {idx : Nat} {a : Addr} (hd : Dc code pc (.invokespecial idx) 3 pc') (w1 : (Cond.methodLink own idx Lib.objectInit).before a0 Z = true) (w2 : (Cond.instanceMethod Lib.objectInit).before a0 Z = true) (w3 : (Cond.code Lib.objectInit ⟨#[0xb1]⟩ 1 none).before a0 Z = true)
    (f : Go Z EL nw R Post K h S k n pc' L st) (hL : L.length = maxL := by rfl) (hf : 1 ≤ R.frames := by decide) (hl : (st.map fun v => v.category).sum + 12 ≤ R.locals := by exact Nat.le_of_ble_eq_true rfl) : Go Z EL nw R Post K h S k n pc L (.ref a :: st) := by
  obtain ⟨hd, rfl⟩ := hd
  refine Go.calm G (fun T vm0 locs X hZ hown e => ?_) f
  exact initO X G.1 hZ hown w1 w2 w3 e (g := mkF K.m pc L.toArray (.ref a :: st)) rfl (by rw [G.2.2.1]; simpa using hL) rfl (hb G.2.1 hd) hf (W := (st.map fun v => v.category).sum) (by show 2 * 0 + _ ≤ _; omega) hl
/-- System.arraycopy of plain components, into a cell of S -/
theorem Good.acopy (G : Good Z a0 EL K own code maxL ret nm) {index : Nat} {a b : Addr} {ty : FieldType} {vs vd : List Value} {sp dp nn : Int32} (i j m : Nat) (hd : Dc code pc (.invokestatic index) 3 pc') (w1 : (Cond.methodLink own index Jvm.Stand.acN).before a0 Z = true) (w2 : (Cond.native Jvm.Stand.acN).before a0 Z = true) (w3 : (Cond.static Jvm.Stand.acN).before a0 Z = true) (w4 : (Cond.initialized "java/lang/System").before a0 Z = true)
    (A : Al Z h a ty vs) (B : Al Z h b ty vd) (hty : refKind ty = false) (hb' : b ∈ S) (hi : sp.toInt = (i : Int)) (hj : dp.toInt = (j : Int)) (hm : nn.toInt = (m : Int)) (h4 : i + m ≤ vs.length) (h5 : j + m ≤ vd.length)
    (f : ∀ h', Keep h h' [b] → Al Z h' b ty (vd.take j ++ (vs.drop i).take m ++ vd.drop (j + m)) → Go Z EL nw R Post K h' S k n pc' L st) (hL : L.length = maxL := by rfl) (hf : 1 ≤ R.frames := by decide) (hl : (st.map fun v => v.category).sum + (nativeFrameWords "java/lang/System" "arraycopy" 5 + 11) ≤ R.locals := by exact Nat.le_of_ble_eq_true rfl) :
    Go Z EL nw R Post K h S k n pc L (.int nn :: .int dp :: .ref b :: .int sp :: .ref a :: st) := fun T I => by
  obtain ⟨hd, rfl⟩ := hd
  obtain ⟨vm0, k0, locs, X, hS, hk0, hZ, e, N, CH, hSf, hw, hO⟩ := I
  obtain ⟨c1, c2, c3⟩ := hSf b hb'
  obtain ⟨ka, Av⟩ := A.arv (.int 0)
  obtain ⟨kb, Bv⟩ := B.arv (.int 0)
  obtain ⟨i1, i2⟩ := nat_idx hi
  obtain ⟨j1, j2⟩ := nat_idx hj
  obtain ⟨m1, m2⟩ := nat_idx hm
  have ea : (Int32.ofNat vs.length).toNatClampNeg = vs.length := by simp [Int32.toNatClampNeg, len_toInt A.len]
  have eb : (Int32.ofNat vd.length).toNatClampNeg = vd.length := by simp [Int32.toNatClampNeg, len_toInt B.len]
  have hus : (vs.drop i).take m = (List.range nn.toNatClampNeg).map fun q => vs.getD (sp.toNatClampNeg + q) (.int 0) := by
    rw [m2, i2]
    apply List.ext_getElem
    · simp; omega
    · intro q q1 q2
      simp only [List.length_map, List.length_range] at q2
      have : i + q < vs.length := by omega
      simp [List.getD_eq_getElem?_getD, this]
  obtain ⟨T', h', L', X', e', N', Kp, B', stp⟩ := cpA X G.1 hZ (G.hown hS) w1 w2 w3 w4 e Av Bv (Or.inl ⟨rfl, hty⟩) i1 j1 m1 (by rw [i2, m2, ea]; exact h4) (by rw [j2, m2, eb]; exact h5) hus (by rw [j2, m2]; exact h5) N c1 (g := mkF K.m pc L.toArray (.int nn :: .int dp :: .ref b :: .int sp :: .ref a :: st)) rfl (by rw [G.2.2.1]; simpa using hL) rfl (hb G.2.1 hd) hf (W := (st.map fun v => v.category).sum) (by show 2 * 0 + _ ≤ _; omega) hl
  rw [j2, m2] at B'
  have sfb : ∀ x ∈ [b], Safe Z EL vm0 h x := fun x hx => by cases List.mem_singleton.mp hx; exact c3
  have hC := CHr.keep Kp sfb CH.1
  refine (f h' Kp (Al.of_arv B' (by rw [eb]; simp; omega)) T' ⟨vm0, k0, L', X', hS, Nat.le_trans hk0 Kp.1, hZ, e', N', CH.trans hC, fun x hx => ?_, hw, ⟨Nat.le_trans hO.1 Kp.1, fun x c q => Kp.2.1 x c (hO.2 x c q) (fun z => by cases List.mem_singleton.mp z; exact absurd (Array.getElem?_eq_some_iff.mp q).1 (Nat.not_lt.mpr c1))⟩⟩).step stp
  obtain ⟨b1, b2, b3⟩ := hSf x hx
  exact ⟨b1, Nat.lt_of_lt_of_le b2 Kp.1, Safe.keep Kp sfb CH.1 b3⟩
end Heap
end Jvm.Own
namespace Jvm.Own
open Jvm Jvm.ClassFile Sem Op Lib Jvm.Free Jvm.Stand Jvm.LawKit Jvm.RoadKit Bundle
def PreB (R rm : Room) (h : Heap) (as : Array Value) (A : Pt) (a : Array Value) : Prop := a = as ∧ A.U.heap = h ∧ A.cells + rm.cells ≤ R.cells ∧ A.slots + rm.slots ≤ R.slots
def PstB (Z : State) (EL : List (String × Nat)) (nw : Bool) (rm : Room) (h : Heap) (Post' : Pst) (s : State) (vm0 : Vm) (A : Pt) (_a : Array Value) (v : Option Value) (B : Pt) : Prop :=
  ∃ L S', Post' v B.U.heap S' ∧ Fr Z.heap.size L ∧ (∀ x ∈ S', Z.heap.size ≤ x ∧ x < B.U.heap.size ∧ Safe Z EL B.U.vm B.U.heap x) ∧ B.locs = A.locs ++ L ∧ B.cells = A.cells + rm.cells ∧ B.slots = A.slots + rm.slots ∧ CHr Z EL vm0 h B.U.vm B.U.heap ∧ (nw = true → (s.setVm vm0).WarmedH B.U.vm) ∧ Ext Z.heap B.U.heap
section Calls
variable {Z : State} {a0 : Array Value} {EL : List (String × Nat)} {nw : Bool} {R : Room} {Post : Pst} {K : Kx} {own : String} {code : ByteArray} {maxL : Nat} {ret : Option FieldType} {nm : String} {h h' : Heap} {S : List Addr} {k n pc pc' : Nat} {L : List Slot} {st rest : List Value} {l : Launch}
variable {y z : MethodName} {bytes : ByteArray} {maxL' : Nat} {ret' : Option FieldType} {rm : Room} {as : Array Value} {S0 : List Addr} {Post' : Pst} {ps : List FieldType} {rr : Option FieldType} {C : String} {index : Nat} {a : Addr}
theorem Con.back {p : Program} {e : Env} {below : List Frame} {s : State} {sargs : Array Value} {len W : Nat} {vm0 : Vm} (c : Con l Z EL nw y bytes maxL' ret' [] rm as h S0 Post') (hZ : Z.Warmed39 vm0) (wc : (Cond.code y bytes maxL' ret').before a0 Z = true) (wz : (Cond.initialized y.cls).before a0 Z = true)
    (hf : rm.frames + 1 ≤ R.frames) (hl : W + (maxL' + 11) + rm.locals ≤ R.locals) (hEL : EW Z a0 EL) (H : CHv Z EL vm0 h) (hSf : ∀ x ∈ S0, Z.heap.size ≤ x ∧ x < h.size ∧ Safe Z EL vm0 h x) (hO : Ext Z.heap h) :
    BackS l R p e below (s.setVm vm0) sargs y len W (PreB R rm h as) (PstB Z EL nw rm h Post' s vm0) :=
  BackS.of_freeW (bytes := bytes) (maxL := maxL') (ret := ret') (E := fun _ first o t L k n => k = rm.cells ∧ n = rm.slots ∧ (∃ v S', o = .returned v ∧ Post' v t.heap S' ∧ Fr Z.heap.size L ∧ (∀ x ∈ S', Z.heap.size ≤ x ∧ x < t.heap.size ∧ Safe Z EL t.vm t.heap x)) ∧ CHr Z EL first.vm first.heap t.vm t.heap ∧ (nw = true → first.WarmedH t.vm) ∧ Ext Z.heap t.heap) c hf hl
    (fun m meth c A a Y hp => have hU : Z.Warmed39 A.U.vm := wtrans (s := s.setVm vm0) hZ Y.warmed
      ⟨by show (Cond.and _ .tt).before a A.U = true; rw [Cond.before_and, mv hU wc]; rfl, mv hU wc, mv hU wz, hp.2.2.1, hp.2.2.2⟩)
    (fun m meth c A a g mk Y hp => ⟨hp.1, wtrans (s := s.setVm vm0) hZ Y.warmed, hp.2.1, (CHv.at Y hZ hEL H).1, fun x hx => ⟨(hSf x hx).1, (hSf x hx).2.1, (CHv.at Y hZ hEL H).safe (hSf x hx).2.1 (hSf x hx).2.2⟩, hO⟩)
    (fun _ _ _ _ _ _ _ _ _ => trivial)
    (fun _ _ _ _ ⟨v, L, S', h1, h2, h3, h4, h5, h6, h7, h8⟩ => ⟨L, _, _, h6, rfl, rfl, ⟨v, S', h1, h2, h3, h5⟩, h4, h7, h8⟩)
    (fun m meth c A a g mk v t L k n Y hp _ _ ⟨e1, e2, ⟨v', S', e3, e4, e5, e6⟩, e7, e8, e9⟩ => by
      cases e3; subst e1 e2
      refine ⟨L, S', e4, e5, e6, rfl, rfl, rfl, (CHv.at Y hZ hEL H).trans ?_, fun z => State.WarmedH.trans (t := A.U) Y.warmed (e8 z), e9⟩
      rw [← hp.2.1]; exact e7)
/-- a call by its contract, whatever the step -/
theorem Go.callG {len : Nat} (G : Good Z a0 EL K own code maxL ret nm) (c : Con K.l Z EL nw y bytes maxL' ret' [] rm as h S0 Post') (hS0 : ∀ x ∈ S0, x ∈ S) (wc : (Cond.code y bytes maxL' ret').before a0 Z = true) (wz : (Cond.initialized y.cls).before a0 Z = true)
    (hf : rm.frames + 1 ≤ R.frames) (hl : (rest.map fun v => v.category).sum + (maxL' + 11) + rm.locals ≤ R.locals) (hcc : k + rm.cells ≤ R.cells) (hss : n + rm.slots ≤ R.slots)
    (q : ∀ (T : State) (vm0 : Vm) (locs : List Loc), Stand K.p K.l K.e R (K.s.setVm vm0) K.m K.as K.below K.meth K.c T locs k n → Z.Warmed39 (K.s.setVm vm0).vm → (K.s.setVm vm0).vm.findClass own = some K.m.cls → T.heap = h →
      BackS K.l R K.p K.e K.below (K.s.setVm vm0) K.as y len (rest.map fun v => v.category).sum (PreB R rm h as) (PstB Z EL nw rm h Post' K.s vm0) → (∀ vm₁, (K.s.setVm vm0).WarmedH vm₁ → PreB R rm h as ⟨T.setVm vm₁, locs, k, n⟩ as) →
      ∃ (v : Option Value) (vm₁ : Vm) (B : Pt), (K.s.setVm vm0).WarmedH vm₁ ∧ Stand K.p K.l K.e R ((K.s.setVm vm0).setVm B.U.vm) K.m K.as K.below K.meth K.c B.U B.locs B.cells B.slots ∧ (K.s.setVm vm0).Since B.U.vm B.U.heap.size ∧ T.heap.size ≤ B.U.heap.size ∧ PstB Z EL nw rm h Post' K.s vm0 ⟨T.setVm vm₁, locs, k, n⟩ as v B ∧
        Steps K.p.tables K.e K.below (T.setTop (mkF K.m pc L.toArray st)) (B.U.setTop (mkF K.m pc' L.toArray (v.toList ++ rest))))
    (f : ∀ v h' S', Post' v h' S' → h.size ≤ h'.size → Go Z EL nw R Post K h' (S' ++ S) (k + rm.cells) (n + rm.slots) pc' L (v.toList ++ rest)) : Go Z EL nw R Post K h S k n pc L st := fun T I => by
  obtain ⟨vm0, k0, locs, X, hS, hk0, hZ, e, N, CH, hSf, hw, hO⟩ := I
  obtain ⟨v, vm₁, ⟨U, Ls, c0, s0⟩, hW₁, X', h2, hgr, ⟨L', S', hP, hN, hS', hL, hc0, hs0, hC, hnw, hO'⟩, stp⟩ := q T vm0 locs X hZ (G.hown hS) e (c.back hZ wc wz hf hl G.2.2.2.2.2.2.2 CH.1 (fun x hx => hSf x (hS0 x hx)) hO) (fun vm₁ _ => ⟨rfl, e, hcc, hss⟩)
  dsimp only [Pt.U, Pt.locs, Pt.cells, Pt.slots] at X' h2 hgr hP hS' hL hc0 hs0 hC hnw hO' stp
  subst hL hc0 hs0
  rw [e] at hgr
  refine (f v U.heap S' hP hgr U ⟨U.vm, _, _, X', hS.trans h2 (Nat.le_trans hk0 hgr), Nat.le_refl _, State.Warmed39.trans (t := K.s.setVm vm0) hZ h2.1, rfl, N.app hN, CH.trans hC, fun x hx => ?_, fun z => State.WarmedH.trans (t := K.s.setVm vm0) (hw z) (hnw z), hO'⟩).step fun t z => stp.trans z
  rcases List.mem_append.mp hx with hx | hx
  · exact hS' x hx
  · obtain ⟨b1, b2, b3⟩ := hSf x hx
    exact ⟨b1, Nat.lt_of_lt_of_le b2 hgr, hC.safe b2 b3⟩
theorem Good.callS (G : Good Z a0 EL K own code maxL ret nm) (argsL : List Value) (hd : Dc code pc (.invokestatic index) 3 pc') (w1 : (Cond.methodLink own index y).before a0 Z = true) (w2 : (Cond.static y).before a0 Z = true) (w3 : (Cond.initialized y.cls).before a0 Z = true) (w4 : (Cond.code y bytes maxL' ret').before a0 Z = true)
    (pd : parseMethodDescriptor y.desc = some ⟨ps, rr⟩) (c : Con K.l Z EL nw y bytes maxL' ret' [] rm argsL.toArray h S0 Post') (hS0 : ∀ x ∈ S0, x ∈ S) (hst : st = argsL.reverse ++ rest) (hln : argsL.length = ps.length)
    (f : ∀ v h' S', Post' v h' S' → h.size ≤ h'.size → Go Z EL nw R Post K h' (S' ++ S) (k + rm.cells) (n + rm.slots) pc' L (v.toList ++ rest))
    (hy : y.cls ≠ "java/lang/invoke/MethodHandle" ∧ y.cls ≠ "java/lang/invoke/VarHandle") (hL : L.length = maxL) (hf : rm.frames + 1 ≤ R.frames) (hl : (rest.map fun v => v.category).sum + (maxL' + 11) + rm.locals ≤ R.locals) (hcc : k + rm.cells ≤ R.cells) (hss : n + rm.slots ≤ R.slots) : Go Z EL nw R Post K h S k n pc L st := by
  obtain ⟨hd, rfl⟩ := hd
  refine Go.callG (len := 3) G c hS0 w4 w3 hf hl hcc hss (fun T vm0 locs X hZ hown e hK hpre => ?_) f
  exact callSS X G.1 hown (mvT hZ w1) (mvT hZ w2) (mvT hZ w3) (mvT hZ w4) hy hK (g := mkF K.m pc L.toArray st) rfl (by rw [G.2.2.1]; simpa using hL) (lenOf pd hln) hst (by show 2 * 0 + _ ≤ _; omega) (hb G.2.1 hd) hpre
theorem Good.callI (G : Good Z a0 EL K own code maxL ret nm) (argsL : List Value) (hd : Dc code pc (.invokespecial index) 3 pc') (w1 : (Cond.methodLink own index y).before a0 Z = true) (w2 : (Cond.instanceMethod y).before a0 Z = true) (w3 : (Cond.initialized y.cls).before a0 Z = true) (w4 : (Cond.code y bytes maxL' none).before a0 Z = true)
    (pd : parseMethodDescriptor y.desc = some ⟨ps, rr⟩) (c : Con K.l Z EL nw y bytes maxL' none [] rm (.ref a :: argsL).toArray h S0 Post') (hS0 : ∀ x ∈ S0, x ∈ S) (hst : st = argsL.reverse ++ .ref a :: rest) (hln : argsL.length = ps.length)
    (f : ∀ v h' S', Post' v h' S' → h.size ≤ h'.size → Go Z EL nw R Post K h' (S' ++ S) (k + rm.cells) (n + rm.slots) pc' L (v.toList ++ rest))
    (hy1 : y.name = "<init>") (hy : y.cls ≠ "java/lang/invoke/MethodHandle" ∧ y.cls ≠ "java/lang/invoke/VarHandle") (hL : L.length = maxL) (hf : rm.frames + 1 ≤ R.frames) (hl : (rest.map fun v => v.category).sum + (maxL' + 11) + rm.locals ≤ R.locals) (hcc : k + rm.cells ≤ R.cells) (hss : n + rm.slots ≤ R.slots) : Go Z EL nw R Post K h S k n pc L st := by
  obtain ⟨hd, rfl⟩ := hd
  refine Go.callG (len := 3) G c hS0 w4 w3 hf hl hcc hss (fun T vm0 locs X hZ hown e hK hpre => ?_) f
  exact X.specialBackS G.1 hy1 hown (mvT hZ w1) (mvT hZ w2) (mvT hZ w4) hy hK (g := mkF K.m pc L.toArray st) rfl (by rw [G.2.2.1]; simpa using hL) (Steps.refl _) (lenOf pd hln) hst (by show 2 * 0 + _ ≤ _; omega) (hb G.2.1 hd) hpre
/-- the class that declares y is no interface: two roads -/
def Nf (Z : State) (y : MethodName) : Prop := ∀ s : State, Z.Warmed39 s.vm → NotFace s y
theorem Nf.inst {cnt : Nat} (wi : (Cond.instantiable y.cls cnt).before a0 Z = true) : Nf Z y := fun s hZ r0 h0 => by
  have w : (Cond.instantiable y.cls cnt).before #[] s = true := mvT hZ wi
  obtain ⟨c, kk, h1, h2, h3, h4, -⟩ := Cond.instantiable_spec w
  have hc := findClass_of_methodNamed h0
  cases h1.symm.trans hc
  simp only [Bool.or_eq_false_iff] at h4
  exact ⟨kk, h2, h4.1⟩
theorem Nf.super {D : String} (w : (Cond.superclass y.cls D).before a0 Z = true) : Nf Z y := fun s hZ => nf_super (args := #[]) (mvT hZ w)
theorem Nf.sel (w : (Cond.selects C y y).before a0 Z = true) : Nf Z y := fun s hZ => notFace_of_selects (args := #[]) (mvT hZ w)
theorem Nf.same (nf : Nf Z z) (w : (Cond.instanceMethod z).before a0 Z = true) (e : z.cls = y.cls) : Nf Z y := fun s hZ r0 h0 => by
  obtain ⟨mk, methM, hnamed, -⟩ := Cond.instanceMethod_spec (mvT (args := #[]) (s := s) hZ w)
  obtain ⟨kr, h1, h2⟩ := nf s hZ mk hnamed
  have c1 := findClass_of_methodNamed hnamed
  have c2 := findClass_of_methodNamed h0
  rw [e] at c1
  have c3 := Option.some.inj (c1.symm.trans c2)
  exact ⟨kr, by rw [← c3]; exact h1, h2⟩
theorem same_of_nf (nf : Nf Z y) (w : (Cond.instanceMethod y).before a0 Z = true) (hy : y.cls ≠ "java/lang/invoke/MethodHandle" ∧ y.cls ≠ "java/lang/invoke/VarHandle") : (Cond.sameMethod y.cls y.cls y.name y.desc).before a0 Z = true := by
  obtain ⟨mk, methM, hnamed, -⟩ := Cond.instanceMethod_spec w
  obtain ⟨kr, h1, h2⟩ := nf Z (State.Warmed39.refl Z) mk hnamed
  have c1 := findClass_of_methodNamed hnamed
  have f1 := State.methodFound?_of_named hnamed hy
  have hnamed' : Z.methodNamed? ⟨y.cls, y.name, y.desc⟩ = some mk := hnamed
  simp [Cond.before, Cond.holds, Cond.value, c1, f1, hnamed', h1, h2]
theorem Good.callV (G : Good Z a0 EL K own code maxL ret nm) (nf : Nf Z y) (argsL : List Value) (hd : Dc code pc (.invokevirtual index) 3 pc') (w1 : (Cond.methodLink own index y).before a0 Z = true) (w2 : (Cond.declares y).before a0 Z = true) (w3 : (Cond.selects C y z).before a0 Z = true) (w4 : (Cond.instanceMethod z).before a0 Z = true) (w5 : (Cond.code z bytes maxL' ret').before a0 Z = true) (w6 : (Cond.initialized z.cls).before a0 Z = true)
    (pd : parseMethodDescriptor y.desc = some ⟨ps, rr⟩) (E : Exa Z h a C) (c : Con K.l Z EL nw z bytes maxL' ret' [] rm (.ref a :: argsL).toArray h S0 Post') (hS0 : ∀ x ∈ S0, x ∈ S) (hst : st = argsL.reverse ++ .ref a :: rest) (hln : argsL.length = ps.length)
    (f : ∀ v h' S', Post' v h' S' → h.size ≤ h'.size → Go Z EL nw R Post K h' (S' ++ S) (k + rm.cells) (n + rm.slots) pc' L (v.toList ++ rest))
    (hy : y.cls ≠ "java/lang/invoke/MethodHandle" ∧ y.cls ≠ "java/lang/invoke/VarHandle") (hL : L.length = maxL) (hf : rm.frames + 1 ≤ R.frames) (hl : (rest.map fun v => v.category).sum + (maxL' + 11) + rm.locals ≤ R.locals) (hcc : k + rm.cells ≤ R.cells) (hss : n + rm.slots ≤ R.slots) : Go Z EL nw R Post K h S k n pc L st := by
  obtain ⟨hd, rfl⟩ := hd
  refine Go.callG (len := 3) G c hS0 w5 w6 hf hl hcc hss (fun T vm0 locs X hZ hown e hK hpre => ?_) f
  obtain ⟨cq, kq, q1, q2, q3⟩ := isOf (s := K.s.setVm vm0) hZ e E
  exact X.virtualBackS G.1 hown (mvT hZ w1) (mvT hZ w2) (nf _ hZ) (mvT hZ w3) (mvT hZ w4) hy hK q1 q3 (g := mkF K.m pc L.toArray st) rfl (by rw [G.2.2.1]; simpa using hL) (Steps.refl _) (lenOf pd hln) hst (by show 2 * 0 + _ ≤ _; omega) (hb G.2.1 hd) hpre
/-- a private method, called on an object that is there -/
theorem Good.callP (G : Good Z a0 EL K own code maxL ret nm) (argsL : List Value) (hd : Dc code pc (.invokevirtual index) 3 pc') (w1 : (Cond.methodLink own index y).before a0 Z = true) (w2 : (Cond.instanceMethod y).before a0 Z = true) (w3 : (Cond.privateMethod y).before a0 Z = true) (w4 : (Cond.code y bytes maxL' ret').before a0 Z = true) (w5 : (Cond.initialized y.cls).before a0 Z = true) (nf : Nf Z y)
    (pd : parseMethodDescriptor y.desc = some ⟨ps, rr⟩) (E : Exa Z h a C) (c : Con K.l Z EL nw y bytes maxL' ret' [] rm (.ref a :: argsL).toArray h S0 Post') (hS0 : ∀ x ∈ S0, x ∈ S) (hst : st = argsL.reverse ++ .ref a :: rest) (hln : argsL.length = ps.length)
    (f : ∀ v h' S', Post' v h' S' → h.size ≤ h'.size → Go Z EL nw R Post K h' (S' ++ S) (k + rm.cells) (n + rm.slots) pc' L (v.toList ++ rest))
    (hy : y.cls ≠ "java/lang/invoke/MethodHandle" ∧ y.cls ≠ "java/lang/invoke/VarHandle") (hL : L.length = maxL) (hf : rm.frames + 1 ≤ R.frames) (hl : (rest.map fun v => v.category).sum + (maxL' + 11) + rm.locals ≤ R.locals) (hcc : k + rm.cells ≤ R.cells) (hss : n + rm.slots ≤ R.slots) : Go Z EL nw R Post K h S k n pc L st := by
  obtain ⟨hd, rfl⟩ := hd
  refine Go.callG (len := 3) G c hS0 w4 w5 hf hl hcc hss (fun T vm0 locs X hZ hown e hK hpre => ?_) f
  obtain ⟨cell, hcell, hobj⟩ := E.cell
  obtain ⟨mk, methM, hnamed, hmethM, hstM, habM⟩ := Cond.instanceMethod_spec (mvT (args := #[]) (s := K.s.setVm vm0) hZ w2)
  obtain ⟨methM', cM, hmethM', -, -, -, -, -, -, hsigM⟩ := Cond.code_spec hnamed (mvT (args := #[]) (s := K.s.setVm vm0) hZ w4)
  cases hmethM.symm.trans hmethM'
  obtain ⟨kP, hkP, hkPi⟩ := nf (K.s.setVm vm0) hZ mk hnamed
  have hpriv := Cond.privateMethod_at (mvP (args := #[]) (s := K.s.setVm vm0) hZ w3)
  have hselP : selectMethod K.e.platform (K.s.setVm vm0).vm cell.cls mk = .method mk := selectMethod_private hmethM (hpriv mk methM hnamed hmethM)
  obtain ⟨vm₁, X₁, hstep₁⟩ := X.invokevirtual G.1 hown (mvT hZ w1) hnamed hmethM hstM hkP hkPi hy (a := a) (cell := cell) (by rw [e]; exact hcell) hobj hselP hmethM habM hkP hkPi (g := mkF K.m pc L.toArray st) rfl (argsL := argsL) (rest := rest) (lenOf pd hln _ hsigM) hst (hb G.2.1 hd)
  obtain ⟨v, B, X', hS, hgr, hpost, hsteps⟩ := hK K.m K.meth K.c ⟨T.setVm vm₁, locs, k, n⟩ (mkF K.m pc L.toArray rest) (.invokevirtual index) mk (.ref a :: argsL).toArray X₁ rfl (by rw [G.2.2.1]; simpa using hL) (hb G.2.1 hd) (by show 2 * 0 + (rest.map fun v => v.category).sum ≤ _; omega) (X₁.named hnamed) (hpre vm₁ X₁.warmed)
  exact ⟨v, vm₁, B, X₁.warmed, X', hS, hgr, hpost, (hstep₁ _ fun acts => by rw [doInvoke_state]; exact Steps.refl _).trans hsteps⟩
theorem Good.callF (G : Good Z a0 EL K own code maxL ret nm) {count : Nat} (argsL : List Value) (hd : Dc code pc (.invokeinterface index count) 5 pc') (w1 : (Cond.methodLink own index y).before a0 Z = true) (w2 : (Cond.declares y).before a0 Z = true) (w3 : (Cond.interfaceMethod y.cls y.cls y.name y.desc).before a0 Z = true) (w4 : (Cond.selects C y z).before a0 Z = true) (w5 : (Cond.instanceMethod z).before a0 Z = true) (w6 : (Cond.publicMethod z).before a0 Z = true) (w7 : (Cond.unhidden C y.name y.desc).before a0 Z = true) (w8 : (Cond.castable C y.cls).before a0 Z = true) (w9 : (Cond.code z bytes maxL' ret').before a0 Z = true) (w10 : (Cond.initialized z.cls).before a0 Z = true)
    (pd : parseMethodDescriptor y.desc = some ⟨ps, rr⟩) (E : Exa Z h a C) (c : Con K.l Z EL nw z bytes maxL' ret' [] rm (.ref a :: argsL).toArray h S0 Post') (hS0 : ∀ x ∈ S0, x ∈ S) (hst : st = argsL.reverse ++ .ref a :: rest) (hln : argsL.length = ps.length)
    (f : ∀ v h' S', Post' v h' S' → h.size ≤ h'.size → Go Z EL nw R Post K h' (S' ++ S) (k + rm.cells) (n + rm.slots) pc' L (v.toList ++ rest))
    (hy : y.cls ≠ "java/lang/invoke/MethodHandle" ∧ y.cls ≠ "java/lang/invoke/VarHandle") (hL : L.length = maxL) (hf : rm.frames + 1 ≤ R.frames) (hl : (rest.map fun v => v.category).sum + (maxL' + 11) + rm.locals ≤ R.locals) (hcc : k + rm.cells ≤ R.cells) (hss : n + rm.slots ≤ R.slots) : Go Z EL nw R Post K h S k n pc L st := by
  obtain ⟨hd, rfl⟩ := hd
  refine Go.callG (len := 5) G c hS0 w9 w10 hf hl hcc hss (fun T vm0 locs X hZ hown e hK hpre => ?_) f
  obtain ⟨cq, kq, q1, q2, q3⟩ := isOf (s := K.s.setVm vm0) hZ e E
  exact X.interfaceBackS G.1 hown (mvT hZ w1) (mvT hZ w2) (mvT hZ w3 (by simp [Cond.onTables, Cond.keepsFace, Cond.keeps, Cond.steady, Cond.faceAtom, hy.1, hy.2])) (mvT hZ w4) (mvT hZ w5) (mvT hZ w6) (mvT hZ w7) (mvT hZ w8) hy hK q1 q2 q3 (g := mkF K.m pc L.toArray st) rfl (by rw [G.2.2.1]; simpa using hL) (Steps.refl _) (lenOf pd hln) hst (by show 2 * 0 + _ ≤ _; omega) (hb G.2.1 hd) hpre
/-- invokespecial of a method of the superclass -/
theorem Good.callU (G : Good Z a0 EL K own code maxL ret nm) (argsL : List Value) (hd : Dc code pc (.invokespecial index) 3 pc') (w1 : (Cond.methodLink own index y).before a0 Z = true) (nf : Nf Z y) (w3 : (Cond.instanceMethod y).before a0 Z = true) (w4 : (Cond.superclass own y.cls).before a0 Z = true) (w5 : (Cond.code y bytes maxL' ret').before a0 Z = true) (w6 : (Cond.initialized y.cls).before a0 Z = true)
    (pd : parseMethodDescriptor y.desc = some ⟨ps, rr⟩) (E : Exa Z h a C) (c : Con K.l Z EL nw y bytes maxL' ret' [] rm (.ref a :: argsL).toArray h S0 Post') (hS0 : ∀ x ∈ S0, x ∈ S) (hst : st = argsL.reverse ++ .ref a :: rest) (hln : argsL.length = ps.length)
    (f : ∀ v h' S', Post' v h' S' → h.size ≤ h'.size → Go Z EL nw R Post K h' (S' ++ S) (k + rm.cells) (n + rm.slots) pc' L (v.toList ++ rest))
    (hy1 : y.name ≠ "<init>") (hy : y.cls ≠ "java/lang/invoke/MethodHandle" ∧ y.cls ≠ "java/lang/invoke/VarHandle") (hL : L.length = maxL) (hf : rm.frames + 1 ≤ R.frames) (hl : (rest.map fun v => v.category).sum + (maxL' + 11) + rm.locals ≤ R.locals) (hcc : k + rm.cells ≤ R.cells) (hss : n + rm.slots ≤ R.slots) : Go Z EL nw R Post K h S k n pc L st := by
  obtain ⟨hd, rfl⟩ := hd
  refine Go.callG (len := 3) G c hS0 w5 w6 hf hl hcc hss (fun T vm0 locs X hZ hown e hK hpre => ?_) f
  exact superBackS X G.1 hZ hown w1 (same_of_nf nf w3 hy) w3 w4 hy1 hK e (Ins.self E) (g := mkF K.m pc L.toArray st) rfl (by rw [G.2.2.1]; simpa using hL) w5 (lenOf pd hln) hst (by show 2 * 0 + _ ≤ _; omega) (hb G.2.1 hd) hpre
theorem Good.callS0 (G : Good Z a0 EL K own code maxL ret nm) (hd : Dc code pc (.invokestatic index) 3 pc') (w1 : (Cond.methodLink own index y).before a0 Z = true) (w2 : (Cond.static y).before a0 Z = true) (w3 : (Cond.initialized y.cls).before a0 Z = true) (w4 : (Cond.code y bytes maxL' ret').before a0 Z = true) (pd : parseMethodDescriptor y.desc = some ⟨ps, rr⟩) (c : Con K.l Z EL nw y bytes maxL' ret' [] rm #[] h S0 Post') (hS0 : ∀ x ∈ S0, x ∈ S) (f : ∀ v h' S', Post' v h' S' → h.size ≤ h'.size → Go Z EL nw R Post K h' (S' ++ S) (k + rm.cells) (n + rm.slots) pc' L (v.toList ++ rest)) (hln : 0 = ps.length := by rfl) (hy : y.cls ≠ "java/lang/invoke/MethodHandle" ∧ y.cls ≠ "java/lang/invoke/VarHandle" := by decide) (hL : L.length = maxL := by rfl) (hf : rm.frames + 1 ≤ R.frames := by decide) (hl : (rest.map fun v => v.category).sum + (maxL' + 11) + rm.locals ≤ R.locals := by exact Nat.le_of_ble_eq_true rfl) (hcc : k + rm.cells ≤ R.cells := by decide) (hss : n + rm.slots ≤ R.slots := by decide) : Go Z EL nw R Post K h S k n pc L (rest) := G.callS [] hd w1 w2 w3 w4 pd c hS0 rfl hln f hy hL hf hl hcc hss
theorem Good.callS1 (G : Good Z a0 EL K own code maxL ret nm) {v1 : Value} (hd : Dc code pc (.invokestatic index) 3 pc') (w1 : (Cond.methodLink own index y).before a0 Z = true) (w2 : (Cond.static y).before a0 Z = true) (w3 : (Cond.initialized y.cls).before a0 Z = true) (w4 : (Cond.code y bytes maxL' ret').before a0 Z = true) (pd : parseMethodDescriptor y.desc = some ⟨ps, rr⟩) (c : Con K.l Z EL nw y bytes maxL' ret' [] rm #[v1] h S0 Post') (hS0 : ∀ x ∈ S0, x ∈ S) (f : ∀ v h' S', Post' v h' S' → h.size ≤ h'.size → Go Z EL nw R Post K h' (S' ++ S) (k + rm.cells) (n + rm.slots) pc' L (v.toList ++ rest)) (hln : 1 = ps.length := by rfl) (hy : y.cls ≠ "java/lang/invoke/MethodHandle" ∧ y.cls ≠ "java/lang/invoke/VarHandle" := by decide) (hL : L.length = maxL := by rfl) (hf : rm.frames + 1 ≤ R.frames := by decide) (hl : (rest.map fun v => v.category).sum + (maxL' + 11) + rm.locals ≤ R.locals := by exact Nat.le_of_ble_eq_true rfl) (hcc : k + rm.cells ≤ R.cells := by decide) (hss : n + rm.slots ≤ R.slots := by decide) : Go Z EL nw R Post K h S k n pc L (v1 :: rest) := G.callS [v1] hd w1 w2 w3 w4 pd c hS0 rfl hln f hy hL hf hl hcc hss
theorem Good.callS2 (G : Good Z a0 EL K own code maxL ret nm) {v1 v2 : Value} (hd : Dc code pc (.invokestatic index) 3 pc') (w1 : (Cond.methodLink own index y).before a0 Z = true) (w2 : (Cond.static y).before a0 Z = true) (w3 : (Cond.initialized y.cls).before a0 Z = true) (w4 : (Cond.code y bytes maxL' ret').before a0 Z = true) (pd : parseMethodDescriptor y.desc = some ⟨ps, rr⟩) (c : Con K.l Z EL nw y bytes maxL' ret' [] rm #[v1, v2] h S0 Post') (hS0 : ∀ x ∈ S0, x ∈ S) (f : ∀ v h' S', Post' v h' S' → h.size ≤ h'.size → Go Z EL nw R Post K h' (S' ++ S) (k + rm.cells) (n + rm.slots) pc' L (v.toList ++ rest)) (hln : 2 = ps.length := by rfl) (hy : y.cls ≠ "java/lang/invoke/MethodHandle" ∧ y.cls ≠ "java/lang/invoke/VarHandle" := by decide) (hL : L.length = maxL := by rfl) (hf : rm.frames + 1 ≤ R.frames := by decide) (hl : (rest.map fun v => v.category).sum + (maxL' + 11) + rm.locals ≤ R.locals := by exact Nat.le_of_ble_eq_true rfl) (hcc : k + rm.cells ≤ R.cells := by decide) (hss : n + rm.slots ≤ R.slots := by decide) : Go Z EL nw R Post K h S k n pc L (v2 :: v1 :: rest) := G.callS [v1, v2] hd w1 w2 w3 w4 pd c hS0 rfl hln f hy hL hf hl hcc hss
theorem Good.callS3 (G : Good Z a0 EL K own code maxL ret nm) {v1 v2 v3 : Value} (hd : Dc code pc (.invokestatic index) 3 pc') (w1 : (Cond.methodLink own index y).before a0 Z = true) (w2 : (Cond.static y).before a0 Z = true) (w3 : (Cond.initialized y.cls).before a0 Z = true) (w4 : (Cond.code y bytes maxL' ret').before a0 Z = true) (pd : parseMethodDescriptor y.desc = some ⟨ps, rr⟩) (c : Con K.l Z EL nw y bytes maxL' ret' [] rm #[v1, v2, v3] h S0 Post') (hS0 : ∀ x ∈ S0, x ∈ S) (f : ∀ v h' S', Post' v h' S' → h.size ≤ h'.size → Go Z EL nw R Post K h' (S' ++ S) (k + rm.cells) (n + rm.slots) pc' L (v.toList ++ rest)) (hln : 3 = ps.length := by rfl) (hy : y.cls ≠ "java/lang/invoke/MethodHandle" ∧ y.cls ≠ "java/lang/invoke/VarHandle" := by decide) (hL : L.length = maxL := by rfl) (hf : rm.frames + 1 ≤ R.frames := by decide) (hl : (rest.map fun v => v.category).sum + (maxL' + 11) + rm.locals ≤ R.locals := by exact Nat.le_of_ble_eq_true rfl) (hcc : k + rm.cells ≤ R.cells := by decide) (hss : n + rm.slots ≤ R.slots := by decide) : Go Z EL nw R Post K h S k n pc L (v3 :: v2 :: v1 :: rest) := G.callS [v1, v2, v3] hd w1 w2 w3 w4 pd c hS0 rfl hln f hy hL hf hl hcc hss
theorem Good.callS4 (G : Good Z a0 EL K own code maxL ret nm) {v1 v2 v3 v4 : Value} (hd : Dc code pc (.invokestatic index) 3 pc') (w1 : (Cond.methodLink own index y).before a0 Z = true) (w2 : (Cond.static y).before a0 Z = true) (w3 : (Cond.initialized y.cls).before a0 Z = true) (w4 : (Cond.code y bytes maxL' ret').before a0 Z = true) (pd : parseMethodDescriptor y.desc = some ⟨ps, rr⟩) (c : Con K.l Z EL nw y bytes maxL' ret' [] rm #[v1, v2, v3, v4] h S0 Post') (hS0 : ∀ x ∈ S0, x ∈ S) (f : ∀ v h' S', Post' v h' S' → h.size ≤ h'.size → Go Z EL nw R Post K h' (S' ++ S) (k + rm.cells) (n + rm.slots) pc' L (v.toList ++ rest)) (hln : 4 = ps.length := by rfl) (hy : y.cls ≠ "java/lang/invoke/MethodHandle" ∧ y.cls ≠ "java/lang/invoke/VarHandle" := by decide) (hL : L.length = maxL := by rfl) (hf : rm.frames + 1 ≤ R.frames := by decide) (hl : (rest.map fun v => v.category).sum + (maxL' + 11) + rm.locals ≤ R.locals := by exact Nat.le_of_ble_eq_true rfl) (hcc : k + rm.cells ≤ R.cells := by decide) (hss : n + rm.slots ≤ R.slots := by decide) : Go Z EL nw R Post K h S k n pc L (v4 :: v3 :: v2 :: v1 :: rest) := G.callS [v1, v2, v3, v4] hd w1 w2 w3 w4 pd c hS0 rfl hln f hy hL hf hl hcc hss
theorem Good.callS5 (G : Good Z a0 EL K own code maxL ret nm) {v1 v2 v3 v4 v5 : Value} (hd : Dc code pc (.invokestatic index) 3 pc') (w1 : (Cond.methodLink own index y).before a0 Z = true) (w2 : (Cond.static y).before a0 Z = true) (w3 : (Cond.initialized y.cls).before a0 Z = true) (w4 : (Cond.code y bytes maxL' ret').before a0 Z = true) (pd : parseMethodDescriptor y.desc = some ⟨ps, rr⟩) (c : Con K.l Z EL nw y bytes maxL' ret' [] rm #[v1, v2, v3, v4, v5] h S0 Post') (hS0 : ∀ x ∈ S0, x ∈ S) (f : ∀ v h' S', Post' v h' S' → h.size ≤ h'.size → Go Z EL nw R Post K h' (S' ++ S) (k + rm.cells) (n + rm.slots) pc' L (v.toList ++ rest)) (hln : 5 = ps.length := by rfl) (hy : y.cls ≠ "java/lang/invoke/MethodHandle" ∧ y.cls ≠ "java/lang/invoke/VarHandle" := by decide) (hL : L.length = maxL := by rfl) (hf : rm.frames + 1 ≤ R.frames := by decide) (hl : (rest.map fun v => v.category).sum + (maxL' + 11) + rm.locals ≤ R.locals := by exact Nat.le_of_ble_eq_true rfl) (hcc : k + rm.cells ≤ R.cells := by decide) (hss : n + rm.slots ≤ R.slots := by decide) : Go Z EL nw R Post K h S k n pc L (v5 :: v4 :: v3 :: v2 :: v1 :: rest) := G.callS [v1, v2, v3, v4, v5] hd w1 w2 w3 w4 pd c hS0 rfl hln f hy hL hf hl hcc hss
theorem Good.callS6 (G : Good Z a0 EL K own code maxL ret nm) {v1 v2 v3 v4 v5 v6 : Value} (hd : Dc code pc (.invokestatic index) 3 pc') (w1 : (Cond.methodLink own index y).before a0 Z = true) (w2 : (Cond.static y).before a0 Z = true) (w3 : (Cond.initialized y.cls).before a0 Z = true) (w4 : (Cond.code y bytes maxL' ret').before a0 Z = true) (pd : parseMethodDescriptor y.desc = some ⟨ps, rr⟩) (c : Con K.l Z EL nw y bytes maxL' ret' [] rm #[v1, v2, v3, v4, v5, v6] h S0 Post') (hS0 : ∀ x ∈ S0, x ∈ S) (f : ∀ v h' S', Post' v h' S' → h.size ≤ h'.size → Go Z EL nw R Post K h' (S' ++ S) (k + rm.cells) (n + rm.slots) pc' L (v.toList ++ rest)) (hln : 6 = ps.length := by rfl) (hy : y.cls ≠ "java/lang/invoke/MethodHandle" ∧ y.cls ≠ "java/lang/invoke/VarHandle" := by decide) (hL : L.length = maxL := by rfl) (hf : rm.frames + 1 ≤ R.frames := by decide) (hl : (rest.map fun v => v.category).sum + (maxL' + 11) + rm.locals ≤ R.locals := by exact Nat.le_of_ble_eq_true rfl) (hcc : k + rm.cells ≤ R.cells := by decide) (hss : n + rm.slots ≤ R.slots := by decide) : Go Z EL nw R Post K h S k n pc L (v6 :: v5 :: v4 :: v3 :: v2 :: v1 :: rest) := G.callS [v1, v2, v3, v4, v5, v6] hd w1 w2 w3 w4 pd c hS0 rfl hln f hy hL hf hl hcc hss
theorem Good.callS7 (G : Good Z a0 EL K own code maxL ret nm) {v1 v2 v3 v4 v5 v6 v7 : Value} (hd : Dc code pc (.invokestatic index) 3 pc') (w1 : (Cond.methodLink own index y).before a0 Z = true) (w2 : (Cond.static y).before a0 Z = true) (w3 : (Cond.initialized y.cls).before a0 Z = true) (w4 : (Cond.code y bytes maxL' ret').before a0 Z = true) (pd : parseMethodDescriptor y.desc = some ⟨ps, rr⟩) (c : Con K.l Z EL nw y bytes maxL' ret' [] rm #[v1, v2, v3, v4, v5, v6, v7] h S0 Post') (hS0 : ∀ x ∈ S0, x ∈ S) (f : ∀ v h' S', Post' v h' S' → h.size ≤ h'.size → Go Z EL nw R Post K h' (S' ++ S) (k + rm.cells) (n + rm.slots) pc' L (v.toList ++ rest)) (hln : 7 = ps.length := by rfl) (hy : y.cls ≠ "java/lang/invoke/MethodHandle" ∧ y.cls ≠ "java/lang/invoke/VarHandle" := by decide) (hL : L.length = maxL := by rfl) (hf : rm.frames + 1 ≤ R.frames := by decide) (hl : (rest.map fun v => v.category).sum + (maxL' + 11) + rm.locals ≤ R.locals := by exact Nat.le_of_ble_eq_true rfl) (hcc : k + rm.cells ≤ R.cells := by decide) (hss : n + rm.slots ≤ R.slots := by decide) : Go Z EL nw R Post K h S k n pc L (v7 :: v6 :: v5 :: v4 :: v3 :: v2 :: v1 :: rest) := G.callS [v1, v2, v3, v4, v5, v6, v7] hd w1 w2 w3 w4 pd c hS0 rfl hln f hy hL hf hl hcc hss
theorem Good.callI0 (G : Good Z a0 EL K own code maxL ret nm) (hd : Dc code pc (.invokespecial index) 3 pc') (w1 : (Cond.methodLink own index y).before a0 Z = true) (w2 : (Cond.instanceMethod y).before a0 Z = true) (w3 : (Cond.initialized y.cls).before a0 Z = true) (w4 : (Cond.code y bytes maxL' none).before a0 Z = true) (pd : parseMethodDescriptor y.desc = some ⟨ps, rr⟩) (c : Con K.l Z EL nw y bytes maxL' none [] rm #[.ref a] h S0 Post') (hS0 : ∀ x ∈ S0, x ∈ S) (f : ∀ v h' S', Post' v h' S' → h.size ≤ h'.size → Go Z EL nw R Post K h' (S' ++ S) (k + rm.cells) (n + rm.slots) pc' L (v.toList ++ rest)) (hy1 : y.name = "<init>" := by rfl) (hln : 0 = ps.length := by rfl) (hy : y.cls ≠ "java/lang/invoke/MethodHandle" ∧ y.cls ≠ "java/lang/invoke/VarHandle" := by decide) (hL : L.length = maxL := by rfl) (hf : rm.frames + 1 ≤ R.frames := by decide) (hl : (rest.map fun v => v.category).sum + (maxL' + 11) + rm.locals ≤ R.locals := by exact Nat.le_of_ble_eq_true rfl) (hcc : k + rm.cells ≤ R.cells := by decide) (hss : n + rm.slots ≤ R.slots := by decide) : Go Z EL nw R Post K h S k n pc L (.ref a :: rest) := G.callI [] hd w1 w2 w3 w4 pd c hS0 rfl hln f hy1 hy hL hf hl hcc hss
theorem Good.callV0 (G : Good Z a0 EL K own code maxL ret nm) (hd : Dc code pc (.invokevirtual index) 3 pc') (w1 : (Cond.methodLink own index y).before a0 Z = true) (w2 : (Cond.declares y).before a0 Z = true) (w3 : (Cond.selects C y y).before a0 Z = true) (w4 : (Cond.instanceMethod y).before a0 Z = true) (w5 : (Cond.code y bytes maxL' ret').before a0 Z = true) (w6 : (Cond.initialized y.cls).before a0 Z = true) (pd : parseMethodDescriptor y.desc = some ⟨ps, rr⟩) (E : Exa Z h a C) (c : Con K.l Z EL nw y bytes maxL' ret' [] rm #[.ref a] h S0 Post') (hS0 : ∀ x ∈ S0, x ∈ S) (f : ∀ v h' S', Post' v h' S' → h.size ≤ h'.size → Go Z EL nw R Post K h' (S' ++ S) (k + rm.cells) (n + rm.slots) pc' L (v.toList ++ rest)) (hln : 0 = ps.length := by rfl) (hy : y.cls ≠ "java/lang/invoke/MethodHandle" ∧ y.cls ≠ "java/lang/invoke/VarHandle" := by decide) (hL : L.length = maxL := by rfl) (hf : rm.frames + 1 ≤ R.frames := by decide) (hl : (rest.map fun v => v.category).sum + (maxL' + 11) + rm.locals ≤ R.locals := by exact Nat.le_of_ble_eq_true rfl) (hcc : k + rm.cells ≤ R.cells := by decide) (hss : n + rm.slots ≤ R.slots := by decide) : Go Z EL nw R Post K h S k n pc L (.ref a :: rest) := G.callV (Nf.sel w3) [] hd w1 w2 w3 w4 w5 w6 pd E c hS0 rfl hln f hy hL hf hl hcc hss
theorem Good.callW0 (G : Good Z a0 EL K own code maxL ret nm) (nf : Nf Z y) (hd : Dc code pc (.invokevirtual index) 3 pc') (w1 : (Cond.methodLink own index y).before a0 Z = true) (w2 : (Cond.declares y).before a0 Z = true) (w3 : (Cond.selects C y z).before a0 Z = true) (w4 : (Cond.instanceMethod z).before a0 Z = true) (w5 : (Cond.code z bytes maxL' ret').before a0 Z = true) (w6 : (Cond.initialized z.cls).before a0 Z = true) (pd : parseMethodDescriptor y.desc = some ⟨ps, rr⟩) (E : Exa Z h a C) (c : Con K.l Z EL nw z bytes maxL' ret' [] rm #[.ref a] h S0 Post') (hS0 : ∀ x ∈ S0, x ∈ S) (f : ∀ v h' S', Post' v h' S' → h.size ≤ h'.size → Go Z EL nw R Post K h' (S' ++ S) (k + rm.cells) (n + rm.slots) pc' L (v.toList ++ rest)) (hln : 0 = ps.length := by rfl) (hy : y.cls ≠ "java/lang/invoke/MethodHandle" ∧ y.cls ≠ "java/lang/invoke/VarHandle" := by decide) (hL : L.length = maxL := by rfl) (hf : rm.frames + 1 ≤ R.frames := by decide) (hl : (rest.map fun v => v.category).sum + (maxL' + 11) + rm.locals ≤ R.locals := by exact Nat.le_of_ble_eq_true rfl) (hcc : k + rm.cells ≤ R.cells := by decide) (hss : n + rm.slots ≤ R.slots := by decide) : Go Z EL nw R Post K h S k n pc L (.ref a :: rest) := G.callV nf [] hd w1 w2 w3 w4 w5 w6 pd E c hS0 rfl hln f hy hL hf hl hcc hss
theorem Good.callP0 (G : Good Z a0 EL K own code maxL ret nm) (hd : Dc code pc (.invokevirtual index) 3 pc') (w1 : (Cond.methodLink own index y).before a0 Z = true) (w2 : (Cond.instanceMethod y).before a0 Z = true) (w3 : (Cond.privateMethod y).before a0 Z = true) (w4 : (Cond.code y bytes maxL' ret').before a0 Z = true) (w5 : (Cond.initialized y.cls).before a0 Z = true) (nf : Nf Z y) (pd : parseMethodDescriptor y.desc = some ⟨ps, rr⟩) (E : Exa Z h a C) (c : Con K.l Z EL nw y bytes maxL' ret' [] rm #[.ref a] h S0 Post') (hS0 : ∀ x ∈ S0, x ∈ S) (f : ∀ v h' S', Post' v h' S' → h.size ≤ h'.size → Go Z EL nw R Post K h' (S' ++ S) (k + rm.cells) (n + rm.slots) pc' L (v.toList ++ rest)) (hln : 0 = ps.length := by rfl) (hy : y.cls ≠ "java/lang/invoke/MethodHandle" ∧ y.cls ≠ "java/lang/invoke/VarHandle" := by decide) (hL : L.length = maxL := by rfl) (hf : rm.frames + 1 ≤ R.frames := by decide) (hl : (rest.map fun v => v.category).sum + (maxL' + 11) + rm.locals ≤ R.locals := by exact Nat.le_of_ble_eq_true rfl) (hcc : k + rm.cells ≤ R.cells := by decide) (hss : n + rm.slots ≤ R.slots := by decide) : Go Z EL nw R Post K h S k n pc L (.ref a :: rest) := G.callP [] hd w1 w2 w3 w4 w5 nf pd E c hS0 rfl hln f hy hL hf hl hcc hss
theorem Good.callF0 (G : Good Z a0 EL K own code maxL ret nm) {count : Nat} (hd : Dc code pc (.invokeinterface index count) 5 pc') (w1 : (Cond.methodLink own index y).before a0 Z = true) (w2 : (Cond.declares y).before a0 Z = true) (w3 : (Cond.interfaceMethod y.cls y.cls y.name y.desc).before a0 Z = true) (w4 : (Cond.selects C y z).before a0 Z = true) (w5 : (Cond.instanceMethod z).before a0 Z = true) (w6 : (Cond.publicMethod z).before a0 Z = true) (w7 : (Cond.unhidden C y.name y.desc).before a0 Z = true) (w8 : (Cond.castable C y.cls).before a0 Z = true) (w9 : (Cond.code z bytes maxL' ret').before a0 Z = true) (w10 : (Cond.initialized z.cls).before a0 Z = true) (pd : parseMethodDescriptor y.desc = some ⟨ps, rr⟩) (E : Exa Z h a C) (c : Con K.l Z EL nw z bytes maxL' ret' [] rm #[.ref a] h S0 Post') (hS0 : ∀ x ∈ S0, x ∈ S) (f : ∀ v h' S', Post' v h' S' → h.size ≤ h'.size → Go Z EL nw R Post K h' (S' ++ S) (k + rm.cells) (n + rm.slots) pc' L (v.toList ++ rest)) (hln : 0 = ps.length := by rfl) (hy : y.cls ≠ "java/lang/invoke/MethodHandle" ∧ y.cls ≠ "java/lang/invoke/VarHandle" := by decide) (hL : L.length = maxL := by rfl) (hf : rm.frames + 1 ≤ R.frames := by decide) (hl : (rest.map fun v => v.category).sum + (maxL' + 11) + rm.locals ≤ R.locals := by exact Nat.le_of_ble_eq_true rfl) (hcc : k + rm.cells ≤ R.cells := by decide) (hss : n + rm.slots ≤ R.slots := by decide) : Go Z EL nw R Post K h S k n pc L (.ref a :: rest) := G.callF [] hd w1 w2 w3 w4 w5 w6 w7 w8 w9 w10 pd E c hS0 rfl hln f hy hL hf hl hcc hss
theorem Good.callI1 (G : Good Z a0 EL K own code maxL ret nm) {v1 : Value} (hd : Dc code pc (.invokespecial index) 3 pc') (w1 : (Cond.methodLink own index y).before a0 Z = true) (w2 : (Cond.instanceMethod y).before a0 Z = true) (w3 : (Cond.initialized y.cls).before a0 Z = true) (w4 : (Cond.code y bytes maxL' none).before a0 Z = true) (pd : parseMethodDescriptor y.desc = some ⟨ps, rr⟩) (c : Con K.l Z EL nw y bytes maxL' none [] rm #[.ref a, v1] h S0 Post') (hS0 : ∀ x ∈ S0, x ∈ S) (f : ∀ v h' S', Post' v h' S' → h.size ≤ h'.size → Go Z EL nw R Post K h' (S' ++ S) (k + rm.cells) (n + rm.slots) pc' L (v.toList ++ rest)) (hy1 : y.name = "<init>" := by rfl) (hln : 1 = ps.length := by rfl) (hy : y.cls ≠ "java/lang/invoke/MethodHandle" ∧ y.cls ≠ "java/lang/invoke/VarHandle" := by decide) (hL : L.length = maxL := by rfl) (hf : rm.frames + 1 ≤ R.frames := by decide) (hl : (rest.map fun v => v.category).sum + (maxL' + 11) + rm.locals ≤ R.locals := by exact Nat.le_of_ble_eq_true rfl) (hcc : k + rm.cells ≤ R.cells := by decide) (hss : n + rm.slots ≤ R.slots := by decide) : Go Z EL nw R Post K h S k n pc L (v1 :: .ref a :: rest) := G.callI [v1] hd w1 w2 w3 w4 pd c hS0 rfl hln f hy1 hy hL hf hl hcc hss
theorem Good.callV1 (G : Good Z a0 EL K own code maxL ret nm) {v1 : Value} (hd : Dc code pc (.invokevirtual index) 3 pc') (w1 : (Cond.methodLink own index y).before a0 Z = true) (w2 : (Cond.declares y).before a0 Z = true) (w3 : (Cond.selects C y y).before a0 Z = true) (w4 : (Cond.instanceMethod y).before a0 Z = true) (w5 : (Cond.code y bytes maxL' ret').before a0 Z = true) (w6 : (Cond.initialized y.cls).before a0 Z = true) (pd : parseMethodDescriptor y.desc = some ⟨ps, rr⟩) (E : Exa Z h a C) (c : Con K.l Z EL nw y bytes maxL' ret' [] rm #[.ref a, v1] h S0 Post') (hS0 : ∀ x ∈ S0, x ∈ S) (f : ∀ v h' S', Post' v h' S' → h.size ≤ h'.size → Go Z EL nw R Post K h' (S' ++ S) (k + rm.cells) (n + rm.slots) pc' L (v.toList ++ rest)) (hln : 1 = ps.length := by rfl) (hy : y.cls ≠ "java/lang/invoke/MethodHandle" ∧ y.cls ≠ "java/lang/invoke/VarHandle" := by decide) (hL : L.length = maxL := by rfl) (hf : rm.frames + 1 ≤ R.frames := by decide) (hl : (rest.map fun v => v.category).sum + (maxL' + 11) + rm.locals ≤ R.locals := by exact Nat.le_of_ble_eq_true rfl) (hcc : k + rm.cells ≤ R.cells := by decide) (hss : n + rm.slots ≤ R.slots := by decide) : Go Z EL nw R Post K h S k n pc L (v1 :: .ref a :: rest) := G.callV (Nf.sel w3) [v1] hd w1 w2 w3 w4 w5 w6 pd E c hS0 rfl hln f hy hL hf hl hcc hss
theorem Good.callW1 (G : Good Z a0 EL K own code maxL ret nm) (nf : Nf Z y) {v1 : Value} (hd : Dc code pc (.invokevirtual index) 3 pc') (w1 : (Cond.methodLink own index y).before a0 Z = true) (w2 : (Cond.declares y).before a0 Z = true) (w3 : (Cond.selects C y z).before a0 Z = true) (w4 : (Cond.instanceMethod z).before a0 Z = true) (w5 : (Cond.code z bytes maxL' ret').before a0 Z = true) (w6 : (Cond.initialized z.cls).before a0 Z = true) (pd : parseMethodDescriptor y.desc = some ⟨ps, rr⟩) (E : Exa Z h a C) (c : Con K.l Z EL nw z bytes maxL' ret' [] rm #[.ref a, v1] h S0 Post') (hS0 : ∀ x ∈ S0, x ∈ S) (f : ∀ v h' S', Post' v h' S' → h.size ≤ h'.size → Go Z EL nw R Post K h' (S' ++ S) (k + rm.cells) (n + rm.slots) pc' L (v.toList ++ rest)) (hln : 1 = ps.length := by rfl) (hy : y.cls ≠ "java/lang/invoke/MethodHandle" ∧ y.cls ≠ "java/lang/invoke/VarHandle" := by decide) (hL : L.length = maxL := by rfl) (hf : rm.frames + 1 ≤ R.frames := by decide) (hl : (rest.map fun v => v.category).sum + (maxL' + 11) + rm.locals ≤ R.locals := by exact Nat.le_of_ble_eq_true rfl) (hcc : k + rm.cells ≤ R.cells := by decide) (hss : n + rm.slots ≤ R.slots := by decide) : Go Z EL nw R Post K h S k n pc L (v1 :: .ref a :: rest) := G.callV nf [v1] hd w1 w2 w3 w4 w5 w6 pd E c hS0 rfl hln f hy hL hf hl hcc hss
theorem Good.callP1 (G : Good Z a0 EL K own code maxL ret nm) {v1 : Value} (hd : Dc code pc (.invokevirtual index) 3 pc') (w1 : (Cond.methodLink own index y).before a0 Z = true) (w2 : (Cond.instanceMethod y).before a0 Z = true) (w3 : (Cond.privateMethod y).before a0 Z = true) (w4 : (Cond.code y bytes maxL' ret').before a0 Z = true) (w5 : (Cond.initialized y.cls).before a0 Z = true) (nf : Nf Z y) (pd : parseMethodDescriptor y.desc = some ⟨ps, rr⟩) (E : Exa Z h a C) (c : Con K.l Z EL nw y bytes maxL' ret' [] rm #[.ref a, v1] h S0 Post') (hS0 : ∀ x ∈ S0, x ∈ S) (f : ∀ v h' S', Post' v h' S' → h.size ≤ h'.size → Go Z EL nw R Post K h' (S' ++ S) (k + rm.cells) (n + rm.slots) pc' L (v.toList ++ rest)) (hln : 1 = ps.length := by rfl) (hy : y.cls ≠ "java/lang/invoke/MethodHandle" ∧ y.cls ≠ "java/lang/invoke/VarHandle" := by decide) (hL : L.length = maxL := by rfl) (hf : rm.frames + 1 ≤ R.frames := by decide) (hl : (rest.map fun v => v.category).sum + (maxL' + 11) + rm.locals ≤ R.locals := by exact Nat.le_of_ble_eq_true rfl) (hcc : k + rm.cells ≤ R.cells := by decide) (hss : n + rm.slots ≤ R.slots := by decide) : Go Z EL nw R Post K h S k n pc L (v1 :: .ref a :: rest) := G.callP [v1] hd w1 w2 w3 w4 w5 nf pd E c hS0 rfl hln f hy hL hf hl hcc hss
theorem Good.callF1 (G : Good Z a0 EL K own code maxL ret nm) {count : Nat} {v1 : Value} (hd : Dc code pc (.invokeinterface index count) 5 pc') (w1 : (Cond.methodLink own index y).before a0 Z = true) (w2 : (Cond.declares y).before a0 Z = true) (w3 : (Cond.interfaceMethod y.cls y.cls y.name y.desc).before a0 Z = true) (w4 : (Cond.selects C y z).before a0 Z = true) (w5 : (Cond.instanceMethod z).before a0 Z = true) (w6 : (Cond.publicMethod z).before a0 Z = true) (w7 : (Cond.unhidden C y.name y.desc).before a0 Z = true) (w8 : (Cond.castable C y.cls).before a0 Z = true) (w9 : (Cond.code z bytes maxL' ret').before a0 Z = true) (w10 : (Cond.initialized z.cls).before a0 Z = true) (pd : parseMethodDescriptor y.desc = some ⟨ps, rr⟩) (E : Exa Z h a C) (c : Con K.l Z EL nw z bytes maxL' ret' [] rm #[.ref a, v1] h S0 Post') (hS0 : ∀ x ∈ S0, x ∈ S) (f : ∀ v h' S', Post' v h' S' → h.size ≤ h'.size → Go Z EL nw R Post K h' (S' ++ S) (k + rm.cells) (n + rm.slots) pc' L (v.toList ++ rest)) (hln : 1 = ps.length := by rfl) (hy : y.cls ≠ "java/lang/invoke/MethodHandle" ∧ y.cls ≠ "java/lang/invoke/VarHandle" := by decide) (hL : L.length = maxL := by rfl) (hf : rm.frames + 1 ≤ R.frames := by decide) (hl : (rest.map fun v => v.category).sum + (maxL' + 11) + rm.locals ≤ R.locals := by exact Nat.le_of_ble_eq_true rfl) (hcc : k + rm.cells ≤ R.cells := by decide) (hss : n + rm.slots ≤ R.slots := by decide) : Go Z EL nw R Post K h S k n pc L (v1 :: .ref a :: rest) := G.callF [v1] hd w1 w2 w3 w4 w5 w6 w7 w8 w9 w10 pd E c hS0 rfl hln f hy hL hf hl hcc hss
theorem Good.callI2 (G : Good Z a0 EL K own code maxL ret nm) {v1 v2 : Value} (hd : Dc code pc (.invokespecial index) 3 pc') (w1 : (Cond.methodLink own index y).before a0 Z = true) (w2 : (Cond.instanceMethod y).before a0 Z = true) (w3 : (Cond.initialized y.cls).before a0 Z = true) (w4 : (Cond.code y bytes maxL' none).before a0 Z = true) (pd : parseMethodDescriptor y.desc = some ⟨ps, rr⟩) (c : Con K.l Z EL nw y bytes maxL' none [] rm #[.ref a, v1, v2] h S0 Post') (hS0 : ∀ x ∈ S0, x ∈ S) (f : ∀ v h' S', Post' v h' S' → h.size ≤ h'.size → Go Z EL nw R Post K h' (S' ++ S) (k + rm.cells) (n + rm.slots) pc' L (v.toList ++ rest)) (hy1 : y.name = "<init>" := by rfl) (hln : 2 = ps.length := by rfl) (hy : y.cls ≠ "java/lang/invoke/MethodHandle" ∧ y.cls ≠ "java/lang/invoke/VarHandle" := by decide) (hL : L.length = maxL := by rfl) (hf : rm.frames + 1 ≤ R.frames := by decide) (hl : (rest.map fun v => v.category).sum + (maxL' + 11) + rm.locals ≤ R.locals := by exact Nat.le_of_ble_eq_true rfl) (hcc : k + rm.cells ≤ R.cells := by decide) (hss : n + rm.slots ≤ R.slots := by decide) : Go Z EL nw R Post K h S k n pc L (v2 :: v1 :: .ref a :: rest) := G.callI [v1, v2] hd w1 w2 w3 w4 pd c hS0 rfl hln f hy1 hy hL hf hl hcc hss
theorem Good.callV2 (G : Good Z a0 EL K own code maxL ret nm) {v1 v2 : Value} (hd : Dc code pc (.invokevirtual index) 3 pc') (w1 : (Cond.methodLink own index y).before a0 Z = true) (w2 : (Cond.declares y).before a0 Z = true) (w3 : (Cond.selects C y y).before a0 Z = true) (w4 : (Cond.instanceMethod y).before a0 Z = true) (w5 : (Cond.code y bytes maxL' ret').before a0 Z = true) (w6 : (Cond.initialized y.cls).before a0 Z = true) (pd : parseMethodDescriptor y.desc = some ⟨ps, rr⟩) (E : Exa Z h a C) (c : Con K.l Z EL nw y bytes maxL' ret' [] rm #[.ref a, v1, v2] h S0 Post') (hS0 : ∀ x ∈ S0, x ∈ S) (f : ∀ v h' S', Post' v h' S' → h.size ≤ h'.size → Go Z EL nw R Post K h' (S' ++ S) (k + rm.cells) (n + rm.slots) pc' L (v.toList ++ rest)) (hln : 2 = ps.length := by rfl) (hy : y.cls ≠ "java/lang/invoke/MethodHandle" ∧ y.cls ≠ "java/lang/invoke/VarHandle" := by decide) (hL : L.length = maxL := by rfl) (hf : rm.frames + 1 ≤ R.frames := by decide) (hl : (rest.map fun v => v.category).sum + (maxL' + 11) + rm.locals ≤ R.locals := by exact Nat.le_of_ble_eq_true rfl) (hcc : k + rm.cells ≤ R.cells := by decide) (hss : n + rm.slots ≤ R.slots := by decide) : Go Z EL nw R Post K h S k n pc L (v2 :: v1 :: .ref a :: rest) := G.callV (Nf.sel w3) [v1, v2] hd w1 w2 w3 w4 w5 w6 pd E c hS0 rfl hln f hy hL hf hl hcc hss
theorem Good.callW2 (G : Good Z a0 EL K own code maxL ret nm) (nf : Nf Z y) {v1 v2 : Value} (hd : Dc code pc (.invokevirtual index) 3 pc') (w1 : (Cond.methodLink own index y).before a0 Z = true) (w2 : (Cond.declares y).before a0 Z = true) (w3 : (Cond.selects C y z).before a0 Z = true) (w4 : (Cond.instanceMethod z).before a0 Z = true) (w5 : (Cond.code z bytes maxL' ret').before a0 Z = true) (w6 : (Cond.initialized z.cls).before a0 Z = true) (pd : parseMethodDescriptor y.desc = some ⟨ps, rr⟩) (E : Exa Z h a C) (c : Con K.l Z EL nw z bytes maxL' ret' [] rm #[.ref a, v1, v2] h S0 Post') (hS0 : ∀ x ∈ S0, x ∈ S) (f : ∀ v h' S', Post' v h' S' → h.size ≤ h'.size → Go Z EL nw R Post K h' (S' ++ S) (k + rm.cells) (n + rm.slots) pc' L (v.toList ++ rest)) (hln : 2 = ps.length := by rfl) (hy : y.cls ≠ "java/lang/invoke/MethodHandle" ∧ y.cls ≠ "java/lang/invoke/VarHandle" := by decide) (hL : L.length = maxL := by rfl) (hf : rm.frames + 1 ≤ R.frames := by decide) (hl : (rest.map fun v => v.category).sum + (maxL' + 11) + rm.locals ≤ R.locals := by exact Nat.le_of_ble_eq_true rfl) (hcc : k + rm.cells ≤ R.cells := by decide) (hss : n + rm.slots ≤ R.slots := by decide) : Go Z EL nw R Post K h S k n pc L (v2 :: v1 :: .ref a :: rest) := G.callV nf [v1, v2] hd w1 w2 w3 w4 w5 w6 pd E c hS0 rfl hln f hy hL hf hl hcc hss
theorem Good.callP2 (G : Good Z a0 EL K own code maxL ret nm) {v1 v2 : Value} (hd : Dc code pc (.invokevirtual index) 3 pc') (w1 : (Cond.methodLink own index y).before a0 Z = true) (w2 : (Cond.instanceMethod y).before a0 Z = true) (w3 : (Cond.privateMethod y).before a0 Z = true) (w4 : (Cond.code y bytes maxL' ret').before a0 Z = true) (w5 : (Cond.initialized y.cls).before a0 Z = true) (nf : Nf Z y) (pd : parseMethodDescriptor y.desc = some ⟨ps, rr⟩) (E : Exa Z h a C) (c : Con K.l Z EL nw y bytes maxL' ret' [] rm #[.ref a, v1, v2] h S0 Post') (hS0 : ∀ x ∈ S0, x ∈ S) (f : ∀ v h' S', Post' v h' S' → h.size ≤ h'.size → Go Z EL nw R Post K h' (S' ++ S) (k + rm.cells) (n + rm.slots) pc' L (v.toList ++ rest)) (hln : 2 = ps.length := by rfl) (hy : y.cls ≠ "java/lang/invoke/MethodHandle" ∧ y.cls ≠ "java/lang/invoke/VarHandle" := by decide) (hL : L.length = maxL := by rfl) (hf : rm.frames + 1 ≤ R.frames := by decide) (hl : (rest.map fun v => v.category).sum + (maxL' + 11) + rm.locals ≤ R.locals := by exact Nat.le_of_ble_eq_true rfl) (hcc : k + rm.cells ≤ R.cells := by decide) (hss : n + rm.slots ≤ R.slots := by decide) : Go Z EL nw R Post K h S k n pc L (v2 :: v1 :: .ref a :: rest) := G.callP [v1, v2] hd w1 w2 w3 w4 w5 nf pd E c hS0 rfl hln f hy hL hf hl hcc hss
theorem Good.callF2 (G : Good Z a0 EL K own code maxL ret nm) {count : Nat} {v1 v2 : Value} (hd : Dc code pc (.invokeinterface index count) 5 pc') (w1 : (Cond.methodLink own index y).before a0 Z = true) (w2 : (Cond.declares y).before a0 Z = true) (w3 : (Cond.interfaceMethod y.cls y.cls y.name y.desc).before a0 Z = true) (w4 : (Cond.selects C y z).before a0 Z = true) (w5 : (Cond.instanceMethod z).before a0 Z = true) (w6 : (Cond.publicMethod z).before a0 Z = true) (w7 : (Cond.unhidden C y.name y.desc).before a0 Z = true) (w8 : (Cond.castable C y.cls).before a0 Z = true) (w9 : (Cond.code z bytes maxL' ret').before a0 Z = true) (w10 : (Cond.initialized z.cls).before a0 Z = true) (pd : parseMethodDescriptor y.desc = some ⟨ps, rr⟩) (E : Exa Z h a C) (c : Con K.l Z EL nw z bytes maxL' ret' [] rm #[.ref a, v1, v2] h S0 Post') (hS0 : ∀ x ∈ S0, x ∈ S) (f : ∀ v h' S', Post' v h' S' → h.size ≤ h'.size → Go Z EL nw R Post K h' (S' ++ S) (k + rm.cells) (n + rm.slots) pc' L (v.toList ++ rest)) (hln : 2 = ps.length := by rfl) (hy : y.cls ≠ "java/lang/invoke/MethodHandle" ∧ y.cls ≠ "java/lang/invoke/VarHandle" := by decide) (hL : L.length = maxL := by rfl) (hf : rm.frames + 1 ≤ R.frames := by decide) (hl : (rest.map fun v => v.category).sum + (maxL' + 11) + rm.locals ≤ R.locals := by exact Nat.le_of_ble_eq_true rfl) (hcc : k + rm.cells ≤ R.cells := by decide) (hss : n + rm.slots ≤ R.slots := by decide) : Go Z EL nw R Post K h S k n pc L (v2 :: v1 :: .ref a :: rest) := G.callF [v1, v2] hd w1 w2 w3 w4 w5 w6 w7 w8 w9 w10 pd E c hS0 rfl hln f hy hL hf hl hcc hss
theorem Good.callI3 (G : Good Z a0 EL K own code maxL ret nm) {v1 v2 v3 : Value} (hd : Dc code pc (.invokespecial index) 3 pc') (w1 : (Cond.methodLink own index y).before a0 Z = true) (w2 : (Cond.instanceMethod y).before a0 Z = true) (w3 : (Cond.initialized y.cls).before a0 Z = true) (w4 : (Cond.code y bytes maxL' none).before a0 Z = true) (pd : parseMethodDescriptor y.desc = some ⟨ps, rr⟩) (c : Con K.l Z EL nw y bytes maxL' none [] rm #[.ref a, v1, v2, v3] h S0 Post') (hS0 : ∀ x ∈ S0, x ∈ S) (f : ∀ v h' S', Post' v h' S' → h.size ≤ h'.size → Go Z EL nw R Post K h' (S' ++ S) (k + rm.cells) (n + rm.slots) pc' L (v.toList ++ rest)) (hy1 : y.name = "<init>" := by rfl) (hln : 3 = ps.length := by rfl) (hy : y.cls ≠ "java/lang/invoke/MethodHandle" ∧ y.cls ≠ "java/lang/invoke/VarHandle" := by decide) (hL : L.length = maxL := by rfl) (hf : rm.frames + 1 ≤ R.frames := by decide) (hl : (rest.map fun v => v.category).sum + (maxL' + 11) + rm.locals ≤ R.locals := by exact Nat.le_of_ble_eq_true rfl) (hcc : k + rm.cells ≤ R.cells := by decide) (hss : n + rm.slots ≤ R.slots := by decide) : Go Z EL nw R Post K h S k n pc L (v3 :: v2 :: v1 :: .ref a :: rest) := G.callI [v1, v2, v3] hd w1 w2 w3 w4 pd c hS0 rfl hln f hy1 hy hL hf hl hcc hss
theorem Good.callV3 (G : Good Z a0 EL K own code maxL ret nm) {v1 v2 v3 : Value} (hd : Dc code pc (.invokevirtual index) 3 pc') (w1 : (Cond.methodLink own index y).before a0 Z = true) (w2 : (Cond.declares y).before a0 Z = true) (w3 : (Cond.selects C y y).before a0 Z = true) (w4 : (Cond.instanceMethod y).before a0 Z = true) (w5 : (Cond.code y bytes maxL' ret').before a0 Z = true) (w6 : (Cond.initialized y.cls).before a0 Z = true) (pd : parseMethodDescriptor y.desc = some ⟨ps, rr⟩) (E : Exa Z h a C) (c : Con K.l Z EL nw y bytes maxL' ret' [] rm #[.ref a, v1, v2, v3] h S0 Post') (hS0 : ∀ x ∈ S0, x ∈ S) (f : ∀ v h' S', Post' v h' S' → h.size ≤ h'.size → Go Z EL nw R Post K h' (S' ++ S) (k + rm.cells) (n + rm.slots) pc' L (v.toList ++ rest)) (hln : 3 = ps.length := by rfl) (hy : y.cls ≠ "java/lang/invoke/MethodHandle" ∧ y.cls ≠ "java/lang/invoke/VarHandle" := by decide) (hL : L.length = maxL := by rfl) (hf : rm.frames + 1 ≤ R.frames := by decide) (hl : (rest.map fun v => v.category).sum + (maxL' + 11) + rm.locals ≤ R.locals := by exact Nat.le_of_ble_eq_true rfl) (hcc : k + rm.cells ≤ R.cells := by decide) (hss : n + rm.slots ≤ R.slots := by decide) : Go Z EL nw R Post K h S k n pc L (v3 :: v2 :: v1 :: .ref a :: rest) := G.callV (Nf.sel w3) [v1, v2, v3] hd w1 w2 w3 w4 w5 w6 pd E c hS0 rfl hln f hy hL hf hl hcc hss
theorem Good.callW3 (G : Good Z a0 EL K own code maxL ret nm) (nf : Nf Z y) {v1 v2 v3 : Value} (hd : Dc code pc (.invokevirtual index) 3 pc') (w1 : (Cond.methodLink own index y).before a0 Z = true) (w2 : (Cond.declares y).before a0 Z = true) (w3 : (Cond.selects C y z).before a0 Z = true) (w4 : (Cond.instanceMethod z).before a0 Z = true) (w5 : (Cond.code z bytes maxL' ret').before a0 Z = true) (w6 : (Cond.initialized z.cls).before a0 Z = true) (pd : parseMethodDescriptor y.desc = some ⟨ps, rr⟩) (E : Exa Z h a C) (c : Con K.l Z EL nw z bytes maxL' ret' [] rm #[.ref a, v1, v2, v3] h S0 Post') (hS0 : ∀ x ∈ S0, x ∈ S) (f : ∀ v h' S', Post' v h' S' → h.size ≤ h'.size → Go Z EL nw R Post K h' (S' ++ S) (k + rm.cells) (n + rm.slots) pc' L (v.toList ++ rest)) (hln : 3 = ps.length := by rfl) (hy : y.cls ≠ "java/lang/invoke/MethodHandle" ∧ y.cls ≠ "java/lang/invoke/VarHandle" := by decide) (hL : L.length = maxL := by rfl) (hf : rm.frames + 1 ≤ R.frames := by decide) (hl : (rest.map fun v => v.category).sum + (maxL' + 11) + rm.locals ≤ R.locals := by exact Nat.le_of_ble_eq_true rfl) (hcc : k + rm.cells ≤ R.cells := by decide) (hss : n + rm.slots ≤ R.slots := by decide) : Go Z EL nw R Post K h S k n pc L (v3 :: v2 :: v1 :: .ref a :: rest) := G.callV nf [v1, v2, v3] hd w1 w2 w3 w4 w5 w6 pd E c hS0 rfl hln f hy hL hf hl hcc hss
theorem Good.callP3 (G : Good Z a0 EL K own code maxL ret nm) {v1 v2 v3 : Value} (hd : Dc code pc (.invokevirtual index) 3 pc') (w1 : (Cond.methodLink own index y).before a0 Z = true) (w2 : (Cond.instanceMethod y).before a0 Z = true) (w3 : (Cond.privateMethod y).before a0 Z = true) (w4 : (Cond.code y bytes maxL' ret').before a0 Z = true) (w5 : (Cond.initialized y.cls).before a0 Z = true) (nf : Nf Z y) (pd : parseMethodDescriptor y.desc = some ⟨ps, rr⟩) (E : Exa Z h a C) (c : Con K.l Z EL nw y bytes maxL' ret' [] rm #[.ref a, v1, v2, v3] h S0 Post') (hS0 : ∀ x ∈ S0, x ∈ S) (f : ∀ v h' S', Post' v h' S' → h.size ≤ h'.size → Go Z EL nw R Post K h' (S' ++ S) (k + rm.cells) (n + rm.slots) pc' L (v.toList ++ rest)) (hln : 3 = ps.length := by rfl) (hy : y.cls ≠ "java/lang/invoke/MethodHandle" ∧ y.cls ≠ "java/lang/invoke/VarHandle" := by decide) (hL : L.length = maxL := by rfl) (hf : rm.frames + 1 ≤ R.frames := by decide) (hl : (rest.map fun v => v.category).sum + (maxL' + 11) + rm.locals ≤ R.locals := by exact Nat.le_of_ble_eq_true rfl) (hcc : k + rm.cells ≤ R.cells := by decide) (hss : n + rm.slots ≤ R.slots := by decide) : Go Z EL nw R Post K h S k n pc L (v3 :: v2 :: v1 :: .ref a :: rest) := G.callP [v1, v2, v3] hd w1 w2 w3 w4 w5 nf pd E c hS0 rfl hln f hy hL hf hl hcc hss
theorem Good.callF3 (G : Good Z a0 EL K own code maxL ret nm) {count : Nat} {v1 v2 v3 : Value} (hd : Dc code pc (.invokeinterface index count) 5 pc') (w1 : (Cond.methodLink own index y).before a0 Z = true) (w2 : (Cond.declares y).before a0 Z = true) (w3 : (Cond.interfaceMethod y.cls y.cls y.name y.desc).before a0 Z = true) (w4 : (Cond.selects C y z).before a0 Z = true) (w5 : (Cond.instanceMethod z).before a0 Z = true) (w6 : (Cond.publicMethod z).before a0 Z = true) (w7 : (Cond.unhidden C y.name y.desc).before a0 Z = true) (w8 : (Cond.castable C y.cls).before a0 Z = true) (w9 : (Cond.code z bytes maxL' ret').before a0 Z = true) (w10 : (Cond.initialized z.cls).before a0 Z = true) (pd : parseMethodDescriptor y.desc = some ⟨ps, rr⟩) (E : Exa Z h a C) (c : Con K.l Z EL nw z bytes maxL' ret' [] rm #[.ref a, v1, v2, v3] h S0 Post') (hS0 : ∀ x ∈ S0, x ∈ S) (f : ∀ v h' S', Post' v h' S' → h.size ≤ h'.size → Go Z EL nw R Post K h' (S' ++ S) (k + rm.cells) (n + rm.slots) pc' L (v.toList ++ rest)) (hln : 3 = ps.length := by rfl) (hy : y.cls ≠ "java/lang/invoke/MethodHandle" ∧ y.cls ≠ "java/lang/invoke/VarHandle" := by decide) (hL : L.length = maxL := by rfl) (hf : rm.frames + 1 ≤ R.frames := by decide) (hl : (rest.map fun v => v.category).sum + (maxL' + 11) + rm.locals ≤ R.locals := by exact Nat.le_of_ble_eq_true rfl) (hcc : k + rm.cells ≤ R.cells := by decide) (hss : n + rm.slots ≤ R.slots := by decide) : Go Z EL nw R Post K h S k n pc L (v3 :: v2 :: v1 :: .ref a :: rest) := G.callF [v1, v2, v3] hd w1 w2 w3 w4 w5 w6 w7 w8 w9 w10 pd E c hS0 rfl hln f hy hL hf hl hcc hss
theorem Good.callI4 (G : Good Z a0 EL K own code maxL ret nm) {v1 v2 v3 v4 : Value} (hd : Dc code pc (.invokespecial index) 3 pc') (w1 : (Cond.methodLink own index y).before a0 Z = true) (w2 : (Cond.instanceMethod y).before a0 Z = true) (w3 : (Cond.initialized y.cls).before a0 Z = true) (w4 : (Cond.code y bytes maxL' none).before a0 Z = true) (pd : parseMethodDescriptor y.desc = some ⟨ps, rr⟩) (c : Con K.l Z EL nw y bytes maxL' none [] rm #[.ref a, v1, v2, v3, v4] h S0 Post') (hS0 : ∀ x ∈ S0, x ∈ S) (f : ∀ v h' S', Post' v h' S' → h.size ≤ h'.size → Go Z EL nw R Post K h' (S' ++ S) (k + rm.cells) (n + rm.slots) pc' L (v.toList ++ rest)) (hy1 : y.name = "<init>" := by rfl) (hln : 4 = ps.length := by rfl) (hy : y.cls ≠ "java/lang/invoke/MethodHandle" ∧ y.cls ≠ "java/lang/invoke/VarHandle" := by decide) (hL : L.length = maxL := by rfl) (hf : rm.frames + 1 ≤ R.frames := by decide) (hl : (rest.map fun v => v.category).sum + (maxL' + 11) + rm.locals ≤ R.locals := by exact Nat.le_of_ble_eq_true rfl) (hcc : k + rm.cells ≤ R.cells := by decide) (hss : n + rm.slots ≤ R.slots := by decide) : Go Z EL nw R Post K h S k n pc L (v4 :: v3 :: v2 :: v1 :: .ref a :: rest) := G.callI [v1, v2, v3, v4] hd w1 w2 w3 w4 pd c hS0 rfl hln f hy1 hy hL hf hl hcc hss
theorem Good.callV4 (G : Good Z a0 EL K own code maxL ret nm) {v1 v2 v3 v4 : Value} (hd : Dc code pc (.invokevirtual index) 3 pc') (w1 : (Cond.methodLink own index y).before a0 Z = true) (w2 : (Cond.declares y).before a0 Z = true) (w3 : (Cond.selects C y y).before a0 Z = true) (w4 : (Cond.instanceMethod y).before a0 Z = true) (w5 : (Cond.code y bytes maxL' ret').before a0 Z = true) (w6 : (Cond.initialized y.cls).before a0 Z = true) (pd : parseMethodDescriptor y.desc = some ⟨ps, rr⟩) (E : Exa Z h a C) (c : Con K.l Z EL nw y bytes maxL' ret' [] rm #[.ref a, v1, v2, v3, v4] h S0 Post') (hS0 : ∀ x ∈ S0, x ∈ S) (f : ∀ v h' S', Post' v h' S' → h.size ≤ h'.size → Go Z EL nw R Post K h' (S' ++ S) (k + rm.cells) (n + rm.slots) pc' L (v.toList ++ rest)) (hln : 4 = ps.length := by rfl) (hy : y.cls ≠ "java/lang/invoke/MethodHandle" ∧ y.cls ≠ "java/lang/invoke/VarHandle" := by decide) (hL : L.length = maxL := by rfl) (hf : rm.frames + 1 ≤ R.frames := by decide) (hl : (rest.map fun v => v.category).sum + (maxL' + 11) + rm.locals ≤ R.locals := by exact Nat.le_of_ble_eq_true rfl) (hcc : k + rm.cells ≤ R.cells := by decide) (hss : n + rm.slots ≤ R.slots := by decide) : Go Z EL nw R Post K h S k n pc L (v4 :: v3 :: v2 :: v1 :: .ref a :: rest) := G.callV (Nf.sel w3) [v1, v2, v3, v4] hd w1 w2 w3 w4 w5 w6 pd E c hS0 rfl hln f hy hL hf hl hcc hss
theorem Good.callW4 (G : Good Z a0 EL K own code maxL ret nm) (nf : Nf Z y) {v1 v2 v3 v4 : Value} (hd : Dc code pc (.invokevirtual index) 3 pc') (w1 : (Cond.methodLink own index y).before a0 Z = true) (w2 : (Cond.declares y).before a0 Z = true) (w3 : (Cond.selects C y z).before a0 Z = true) (w4 : (Cond.instanceMethod z).before a0 Z = true) (w5 : (Cond.code z bytes maxL' ret').before a0 Z = true) (w6 : (Cond.initialized z.cls).before a0 Z = true) (pd : parseMethodDescriptor y.desc = some ⟨ps, rr⟩) (E : Exa Z h a C) (c : Con K.l Z EL nw z bytes maxL' ret' [] rm #[.ref a, v1, v2, v3, v4] h S0 Post') (hS0 : ∀ x ∈ S0, x ∈ S) (f : ∀ v h' S', Post' v h' S' → h.size ≤ h'.size → Go Z EL nw R Post K h' (S' ++ S) (k + rm.cells) (n + rm.slots) pc' L (v.toList ++ rest)) (hln : 4 = ps.length := by rfl) (hy : y.cls ≠ "java/lang/invoke/MethodHandle" ∧ y.cls ≠ "java/lang/invoke/VarHandle" := by decide) (hL : L.length = maxL := by rfl) (hf : rm.frames + 1 ≤ R.frames := by decide) (hl : (rest.map fun v => v.category).sum + (maxL' + 11) + rm.locals ≤ R.locals := by exact Nat.le_of_ble_eq_true rfl) (hcc : k + rm.cells ≤ R.cells := by decide) (hss : n + rm.slots ≤ R.slots := by decide) : Go Z EL nw R Post K h S k n pc L (v4 :: v3 :: v2 :: v1 :: .ref a :: rest) := G.callV nf [v1, v2, v3, v4] hd w1 w2 w3 w4 w5 w6 pd E c hS0 rfl hln f hy hL hf hl hcc hss
theorem Good.callP4 (G : Good Z a0 EL K own code maxL ret nm) {v1 v2 v3 v4 : Value} (hd : Dc code pc (.invokevirtual index) 3 pc') (w1 : (Cond.methodLink own index y).before a0 Z = true) (w2 : (Cond.instanceMethod y).before a0 Z = true) (w3 : (Cond.privateMethod y).before a0 Z = true) (w4 : (Cond.code y bytes maxL' ret').before a0 Z = true) (w5 : (Cond.initialized y.cls).before a0 Z = true) (nf : Nf Z y) (pd : parseMethodDescriptor y.desc = some ⟨ps, rr⟩) (E : Exa Z h a C) (c : Con K.l Z EL nw y bytes maxL' ret' [] rm #[.ref a, v1, v2, v3, v4] h S0 Post') (hS0 : ∀ x ∈ S0, x ∈ S) (f : ∀ v h' S', Post' v h' S' → h.size ≤ h'.size → Go Z EL nw R Post K h' (S' ++ S) (k + rm.cells) (n + rm.slots) pc' L (v.toList ++ rest)) (hln : 4 = ps.length := by rfl) (hy : y.cls ≠ "java/lang/invoke/MethodHandle" ∧ y.cls ≠ "java/lang/invoke/VarHandle" := by decide) (hL : L.length = maxL := by rfl) (hf : rm.frames + 1 ≤ R.frames := by decide) (hl : (rest.map fun v => v.category).sum + (maxL' + 11) + rm.locals ≤ R.locals := by exact Nat.le_of_ble_eq_true rfl) (hcc : k + rm.cells ≤ R.cells := by decide) (hss : n + rm.slots ≤ R.slots := by decide) : Go Z EL nw R Post K h S k n pc L (v4 :: v3 :: v2 :: v1 :: .ref a :: rest) := G.callP [v1, v2, v3, v4] hd w1 w2 w3 w4 w5 nf pd E c hS0 rfl hln f hy hL hf hl hcc hss
theorem Good.callF4 (G : Good Z a0 EL K own code maxL ret nm) {count : Nat} {v1 v2 v3 v4 : Value} (hd : Dc code pc (.invokeinterface index count) 5 pc') (w1 : (Cond.methodLink own index y).before a0 Z = true) (w2 : (Cond.declares y).before a0 Z = true) (w3 : (Cond.interfaceMethod y.cls y.cls y.name y.desc).before a0 Z = true) (w4 : (Cond.selects C y z).before a0 Z = true) (w5 : (Cond.instanceMethod z).before a0 Z = true) (w6 : (Cond.publicMethod z).before a0 Z = true) (w7 : (Cond.unhidden C y.name y.desc).before a0 Z = true) (w8 : (Cond.castable C y.cls).before a0 Z = true) (w9 : (Cond.code z bytes maxL' ret').before a0 Z = true) (w10 : (Cond.initialized z.cls).before a0 Z = true) (pd : parseMethodDescriptor y.desc = some ⟨ps, rr⟩) (E : Exa Z h a C) (c : Con K.l Z EL nw z bytes maxL' ret' [] rm #[.ref a, v1, v2, v3, v4] h S0 Post') (hS0 : ∀ x ∈ S0, x ∈ S) (f : ∀ v h' S', Post' v h' S' → h.size ≤ h'.size → Go Z EL nw R Post K h' (S' ++ S) (k + rm.cells) (n + rm.slots) pc' L (v.toList ++ rest)) (hln : 4 = ps.length := by rfl) (hy : y.cls ≠ "java/lang/invoke/MethodHandle" ∧ y.cls ≠ "java/lang/invoke/VarHandle" := by decide) (hL : L.length = maxL := by rfl) (hf : rm.frames + 1 ≤ R.frames := by decide) (hl : (rest.map fun v => v.category).sum + (maxL' + 11) + rm.locals ≤ R.locals := by exact Nat.le_of_ble_eq_true rfl) (hcc : k + rm.cells ≤ R.cells := by decide) (hss : n + rm.slots ≤ R.slots := by decide) : Go Z EL nw R Post K h S k n pc L (v4 :: v3 :: v2 :: v1 :: .ref a :: rest) := G.callF [v1, v2, v3, v4] hd w1 w2 w3 w4 w5 w6 w7 w8 w9 w10 pd E c hS0 rfl hln f hy hL hf hl hcc hss
theorem Good.callI5 (G : Good Z a0 EL K own code maxL ret nm) {v1 v2 v3 v4 v5 : Value} (hd : Dc code pc (.invokespecial index) 3 pc') (w1 : (Cond.methodLink own index y).before a0 Z = true) (w2 : (Cond.instanceMethod y).before a0 Z = true) (w3 : (Cond.initialized y.cls).before a0 Z = true) (w4 : (Cond.code y bytes maxL' none).before a0 Z = true) (pd : parseMethodDescriptor y.desc = some ⟨ps, rr⟩) (c : Con K.l Z EL nw y bytes maxL' none [] rm #[.ref a, v1, v2, v3, v4, v5] h S0 Post') (hS0 : ∀ x ∈ S0, x ∈ S) (f : ∀ v h' S', Post' v h' S' → h.size ≤ h'.size → Go Z EL nw R Post K h' (S' ++ S) (k + rm.cells) (n + rm.slots) pc' L (v.toList ++ rest)) (hy1 : y.name = "<init>" := by rfl) (hln : 5 = ps.length := by rfl) (hy : y.cls ≠ "java/lang/invoke/MethodHandle" ∧ y.cls ≠ "java/lang/invoke/VarHandle" := by decide) (hL : L.length = maxL := by rfl) (hf : rm.frames + 1 ≤ R.frames := by decide) (hl : (rest.map fun v => v.category).sum + (maxL' + 11) + rm.locals ≤ R.locals := by exact Nat.le_of_ble_eq_true rfl) (hcc : k + rm.cells ≤ R.cells := by decide) (hss : n + rm.slots ≤ R.slots := by decide) : Go Z EL nw R Post K h S k n pc L (v5 :: v4 :: v3 :: v2 :: v1 :: .ref a :: rest) := G.callI [v1, v2, v3, v4, v5] hd w1 w2 w3 w4 pd c hS0 rfl hln f hy1 hy hL hf hl hcc hss
theorem Good.callV5 (G : Good Z a0 EL K own code maxL ret nm) {v1 v2 v3 v4 v5 : Value} (hd : Dc code pc (.invokevirtual index) 3 pc') (w1 : (Cond.methodLink own index y).before a0 Z = true) (w2 : (Cond.declares y).before a0 Z = true) (w3 : (Cond.selects C y y).before a0 Z = true) (w4 : (Cond.instanceMethod y).before a0 Z = true) (w5 : (Cond.code y bytes maxL' ret').before a0 Z = true) (w6 : (Cond.initialized y.cls).before a0 Z = true) (pd : parseMethodDescriptor y.desc = some ⟨ps, rr⟩) (E : Exa Z h a C) (c : Con K.l Z EL nw y bytes maxL' ret' [] rm #[.ref a, v1, v2, v3, v4, v5] h S0 Post') (hS0 : ∀ x ∈ S0, x ∈ S) (f : ∀ v h' S', Post' v h' S' → h.size ≤ h'.size → Go Z EL nw R Post K h' (S' ++ S) (k + rm.cells) (n + rm.slots) pc' L (v.toList ++ rest)) (hln : 5 = ps.length := by rfl) (hy : y.cls ≠ "java/lang/invoke/MethodHandle" ∧ y.cls ≠ "java/lang/invoke/VarHandle" := by decide) (hL : L.length = maxL := by rfl) (hf : rm.frames + 1 ≤ R.frames := by decide) (hl : (rest.map fun v => v.category).sum + (maxL' + 11) + rm.locals ≤ R.locals := by exact Nat.le_of_ble_eq_true rfl) (hcc : k + rm.cells ≤ R.cells := by decide) (hss : n + rm.slots ≤ R.slots := by decide) : Go Z EL nw R Post K h S k n pc L (v5 :: v4 :: v3 :: v2 :: v1 :: .ref a :: rest) := G.callV (Nf.sel w3) [v1, v2, v3, v4, v5] hd w1 w2 w3 w4 w5 w6 pd E c hS0 rfl hln f hy hL hf hl hcc hss
theorem Good.callW5 (G : Good Z a0 EL K own code maxL ret nm) (nf : Nf Z y) {v1 v2 v3 v4 v5 : Value} (hd : Dc code pc (.invokevirtual index) 3 pc') (w1 : (Cond.methodLink own index y).before a0 Z = true) (w2 : (Cond.declares y).before a0 Z = true) (w3 : (Cond.selects C y z).before a0 Z = true) (w4 : (Cond.instanceMethod z).before a0 Z = true) (w5 : (Cond.code z bytes maxL' ret').before a0 Z = true) (w6 : (Cond.initialized z.cls).before a0 Z = true) (pd : parseMethodDescriptor y.desc = some ⟨ps, rr⟩) (E : Exa Z h a C) (c : Con K.l Z EL nw z bytes maxL' ret' [] rm #[.ref a, v1, v2, v3, v4, v5] h S0 Post') (hS0 : ∀ x ∈ S0, x ∈ S) (f : ∀ v h' S', Post' v h' S' → h.size ≤ h'.size → Go Z EL nw R Post K h' (S' ++ S) (k + rm.cells) (n + rm.slots) pc' L (v.toList ++ rest)) (hln : 5 = ps.length := by rfl) (hy : y.cls ≠ "java/lang/invoke/MethodHandle" ∧ y.cls ≠ "java/lang/invoke/VarHandle" := by decide) (hL : L.length = maxL := by rfl) (hf : rm.frames + 1 ≤ R.frames := by decide) (hl : (rest.map fun v => v.category).sum + (maxL' + 11) + rm.locals ≤ R.locals := by exact Nat.le_of_ble_eq_true rfl) (hcc : k + rm.cells ≤ R.cells := by decide) (hss : n + rm.slots ≤ R.slots := by decide) : Go Z EL nw R Post K h S k n pc L (v5 :: v4 :: v3 :: v2 :: v1 :: .ref a :: rest) := G.callV nf [v1, v2, v3, v4, v5] hd w1 w2 w3 w4 w5 w6 pd E c hS0 rfl hln f hy hL hf hl hcc hss
theorem Good.callP5 (G : Good Z a0 EL K own code maxL ret nm) {v1 v2 v3 v4 v5 : Value} (hd : Dc code pc (.invokevirtual index) 3 pc') (w1 : (Cond.methodLink own index y).before a0 Z = true) (w2 : (Cond.instanceMethod y).before a0 Z = true) (w3 : (Cond.privateMethod y).before a0 Z = true) (w4 : (Cond.code y bytes maxL' ret').before a0 Z = true) (w5 : (Cond.initialized y.cls).before a0 Z = true) (nf : Nf Z y) (pd : parseMethodDescriptor y.desc = some ⟨ps, rr⟩) (E : Exa Z h a C) (c : Con K.l Z EL nw y bytes maxL' ret' [] rm #[.ref a, v1, v2, v3, v4, v5] h S0 Post') (hS0 : ∀ x ∈ S0, x ∈ S) (f : ∀ v h' S', Post' v h' S' → h.size ≤ h'.size → Go Z EL nw R Post K h' (S' ++ S) (k + rm.cells) (n + rm.slots) pc' L (v.toList ++ rest)) (hln : 5 = ps.length := by rfl) (hy : y.cls ≠ "java/lang/invoke/MethodHandle" ∧ y.cls ≠ "java/lang/invoke/VarHandle" := by decide) (hL : L.length = maxL := by rfl) (hf : rm.frames + 1 ≤ R.frames := by decide) (hl : (rest.map fun v => v.category).sum + (maxL' + 11) + rm.locals ≤ R.locals := by exact Nat.le_of_ble_eq_true rfl) (hcc : k + rm.cells ≤ R.cells := by decide) (hss : n + rm.slots ≤ R.slots := by decide) : Go Z EL nw R Post K h S k n pc L (v5 :: v4 :: v3 :: v2 :: v1 :: .ref a :: rest) := G.callP [v1, v2, v3, v4, v5] hd w1 w2 w3 w4 w5 nf pd E c hS0 rfl hln f hy hL hf hl hcc hss
theorem Good.callF5 (G : Good Z a0 EL K own code maxL ret nm) {count : Nat} {v1 v2 v3 v4 v5 : Value} (hd : Dc code pc (.invokeinterface index count) 5 pc') (w1 : (Cond.methodLink own index y).before a0 Z = true) (w2 : (Cond.declares y).before a0 Z = true) (w3 : (Cond.interfaceMethod y.cls y.cls y.name y.desc).before a0 Z = true) (w4 : (Cond.selects C y z).before a0 Z = true) (w5 : (Cond.instanceMethod z).before a0 Z = true) (w6 : (Cond.publicMethod z).before a0 Z = true) (w7 : (Cond.unhidden C y.name y.desc).before a0 Z = true) (w8 : (Cond.castable C y.cls).before a0 Z = true) (w9 : (Cond.code z bytes maxL' ret').before a0 Z = true) (w10 : (Cond.initialized z.cls).before a0 Z = true) (pd : parseMethodDescriptor y.desc = some ⟨ps, rr⟩) (E : Exa Z h a C) (c : Con K.l Z EL nw z bytes maxL' ret' [] rm #[.ref a, v1, v2, v3, v4, v5] h S0 Post') (hS0 : ∀ x ∈ S0, x ∈ S) (f : ∀ v h' S', Post' v h' S' → h.size ≤ h'.size → Go Z EL nw R Post K h' (S' ++ S) (k + rm.cells) (n + rm.slots) pc' L (v.toList ++ rest)) (hln : 5 = ps.length := by rfl) (hy : y.cls ≠ "java/lang/invoke/MethodHandle" ∧ y.cls ≠ "java/lang/invoke/VarHandle" := by decide) (hL : L.length = maxL := by rfl) (hf : rm.frames + 1 ≤ R.frames := by decide) (hl : (rest.map fun v => v.category).sum + (maxL' + 11) + rm.locals ≤ R.locals := by exact Nat.le_of_ble_eq_true rfl) (hcc : k + rm.cells ≤ R.cells := by decide) (hss : n + rm.slots ≤ R.slots := by decide) : Go Z EL nw R Post K h S k n pc L (v5 :: v4 :: v3 :: v2 :: v1 :: .ref a :: rest) := G.callF [v1, v2, v3, v4, v5] hd w1 w2 w3 w4 w5 w6 w7 w8 w9 w10 pd E c hS0 rfl hln f hy hL hf hl hcc hss
theorem Good.callU0 (G : Good Z a0 EL K own code maxL ret nm) (hd : Dc code pc (.invokespecial index) 3 pc') (w1 : (Cond.methodLink own index y).before a0 Z = true) (w2 : Nf Z y) (w3 : (Cond.instanceMethod y).before a0 Z = true) (w4 : (Cond.superclass own y.cls).before a0 Z = true) (w5 : (Cond.code y bytes maxL' ret').before a0 Z = true) (w6 : (Cond.initialized y.cls).before a0 Z = true) (pd : parseMethodDescriptor y.desc = some ⟨ps, rr⟩) (E : Exa Z h a C) (c : Con K.l Z EL nw y bytes maxL' ret' [] rm #[.ref a] h S0 Post') (hS0 : ∀ x ∈ S0, x ∈ S) (f : ∀ v h' S', Post' v h' S' → h.size ≤ h'.size → Go Z EL nw R Post K h' (S' ++ S) (k + rm.cells) (n + rm.slots) pc' L (v.toList ++ rest)) (hy1 : y.name ≠ "<init>" := by decide) (hln : 0 = ps.length := by rfl) (hy : y.cls ≠ "java/lang/invoke/MethodHandle" ∧ y.cls ≠ "java/lang/invoke/VarHandle" := by decide) (hL : L.length = maxL := by rfl) (hf : rm.frames + 1 ≤ R.frames := by decide) (hl : (rest.map fun v => v.category).sum + (maxL' + 11) + rm.locals ≤ R.locals := by exact Nat.le_of_ble_eq_true rfl) (hcc : k + rm.cells ≤ R.cells := by decide) (hss : n + rm.slots ≤ R.slots := by decide) : Go Z EL nw R Post K h S k n pc L (.ref a :: rest) := G.callU [] hd w1 w2 w3 w4 w5 w6 pd E c hS0 rfl hln f hy1 hy hL hf hl hcc hss
theorem Good.callU1 (G : Good Z a0 EL K own code maxL ret nm) {v1 : Value} (hd : Dc code pc (.invokespecial index) 3 pc') (w1 : (Cond.methodLink own index y).before a0 Z = true) (w2 : Nf Z y) (w3 : (Cond.instanceMethod y).before a0 Z = true) (w4 : (Cond.superclass own y.cls).before a0 Z = true) (w5 : (Cond.code y bytes maxL' ret').before a0 Z = true) (w6 : (Cond.initialized y.cls).before a0 Z = true) (pd : parseMethodDescriptor y.desc = some ⟨ps, rr⟩) (E : Exa Z h a C) (c : Con K.l Z EL nw y bytes maxL' ret' [] rm #[.ref a, v1] h S0 Post') (hS0 : ∀ x ∈ S0, x ∈ S) (f : ∀ v h' S', Post' v h' S' → h.size ≤ h'.size → Go Z EL nw R Post K h' (S' ++ S) (k + rm.cells) (n + rm.slots) pc' L (v.toList ++ rest)) (hy1 : y.name ≠ "<init>" := by decide) (hln : 1 = ps.length := by rfl) (hy : y.cls ≠ "java/lang/invoke/MethodHandle" ∧ y.cls ≠ "java/lang/invoke/VarHandle" := by decide) (hL : L.length = maxL := by rfl) (hf : rm.frames + 1 ≤ R.frames := by decide) (hl : (rest.map fun v => v.category).sum + (maxL' + 11) + rm.locals ≤ R.locals := by exact Nat.le_of_ble_eq_true rfl) (hcc : k + rm.cells ≤ R.cells := by decide) (hss : n + rm.slots ≤ R.slots := by decide) : Go Z EL nw R Post K h S k n pc L (v1 :: .ref a :: rest) := G.callU [v1] hd w1 w2 w3 w4 w5 w6 pd E c hS0 rfl hln f hy1 hy hL hf hl hcc hss
theorem Good.callU2 (G : Good Z a0 EL K own code maxL ret nm) {v1 v2 : Value} (hd : Dc code pc (.invokespecial index) 3 pc') (w1 : (Cond.methodLink own index y).before a0 Z = true) (w2 : Nf Z y) (w3 : (Cond.instanceMethod y).before a0 Z = true) (w4 : (Cond.superclass own y.cls).before a0 Z = true) (w5 : (Cond.code y bytes maxL' ret').before a0 Z = true) (w6 : (Cond.initialized y.cls).before a0 Z = true) (pd : parseMethodDescriptor y.desc = some ⟨ps, rr⟩) (E : Exa Z h a C) (c : Con K.l Z EL nw y bytes maxL' ret' [] rm #[.ref a, v1, v2] h S0 Post') (hS0 : ∀ x ∈ S0, x ∈ S) (f : ∀ v h' S', Post' v h' S' → h.size ≤ h'.size → Go Z EL nw R Post K h' (S' ++ S) (k + rm.cells) (n + rm.slots) pc' L (v.toList ++ rest)) (hy1 : y.name ≠ "<init>" := by decide) (hln : 2 = ps.length := by rfl) (hy : y.cls ≠ "java/lang/invoke/MethodHandle" ∧ y.cls ≠ "java/lang/invoke/VarHandle" := by decide) (hL : L.length = maxL := by rfl) (hf : rm.frames + 1 ≤ R.frames := by decide) (hl : (rest.map fun v => v.category).sum + (maxL' + 11) + rm.locals ≤ R.locals := by exact Nat.le_of_ble_eq_true rfl) (hcc : k + rm.cells ≤ R.cells := by decide) (hss : n + rm.slots ≤ R.slots := by decide) : Go Z EL nw R Post K h S k n pc L (v2 :: v1 :: .ref a :: rest) := G.callU [v1, v2] hd w1 w2 w3 w4 w5 w6 pd E c hS0 rfl hln f hy1 hy hL hf hl hcc hss
theorem Good.callU3 (G : Good Z a0 EL K own code maxL ret nm) {v1 v2 v3 : Value} (hd : Dc code pc (.invokespecial index) 3 pc') (w1 : (Cond.methodLink own index y).before a0 Z = true) (w2 : Nf Z y) (w3 : (Cond.instanceMethod y).before a0 Z = true) (w4 : (Cond.superclass own y.cls).before a0 Z = true) (w5 : (Cond.code y bytes maxL' ret').before a0 Z = true) (w6 : (Cond.initialized y.cls).before a0 Z = true) (pd : parseMethodDescriptor y.desc = some ⟨ps, rr⟩) (E : Exa Z h a C) (c : Con K.l Z EL nw y bytes maxL' ret' [] rm #[.ref a, v1, v2, v3] h S0 Post') (hS0 : ∀ x ∈ S0, x ∈ S) (f : ∀ v h' S', Post' v h' S' → h.size ≤ h'.size → Go Z EL nw R Post K h' (S' ++ S) (k + rm.cells) (n + rm.slots) pc' L (v.toList ++ rest)) (hy1 : y.name ≠ "<init>" := by decide) (hln : 3 = ps.length := by rfl) (hy : y.cls ≠ "java/lang/invoke/MethodHandle" ∧ y.cls ≠ "java/lang/invoke/VarHandle" := by decide) (hL : L.length = maxL := by rfl) (hf : rm.frames + 1 ≤ R.frames := by decide) (hl : (rest.map fun v => v.category).sum + (maxL' + 11) + rm.locals ≤ R.locals := by exact Nat.le_of_ble_eq_true rfl) (hcc : k + rm.cells ≤ R.cells := by decide) (hss : n + rm.slots ≤ R.slots := by decide) : Go Z EL nw R Post K h S k n pc L (v3 :: v2 :: v1 :: .ref a :: rest) := G.callU [v1, v2, v3] hd w1 w2 w3 w4 w5 w6 pd E c hS0 rfl hln f hy1 hy hL hf hl hcc hss
end Calls
end Jvm.Own
namespace Jvm.Own
open Jvm Jvm.ClassFile Sem Op Lib Jvm.Free Jvm.Stand Jvm.LawKit Jvm.RoadKit Bundle
/-- the String at a: its coder, its byte[] b and what that holds -/
def StrB (Z : State) (h : Heap) (a : Addr) (cd : Int32) (b : Addr) (vs : List Value) : Prop := Exa Z h a "java/lang/String" ∧ Fld Z h a "java/lang/String" "coder" "B" (.int cd) ∧ Fld Z h a "java/lang/String" "value" "[B" (.ref b) ∧ Al Z h b .byte vs
section StrFacts
variable {Z : State} {h h' : Heap} {a b : Addr} {cd : Int32} {vs : List Value} {ws : List Addr}
theorem StrB.ext (F : StrB Z h a cd b vs) (E : Ext h h') : StrB Z h' a cd b vs := ⟨F.1.ext E, F.2.1.ext E, F.2.2.1.ext E, F.2.2.2.ext E⟩
theorem StrB.keep (F : StrB Z h a cd b vs) (K : Keep h h' ws) (q : a ∉ ws) (r : b ∉ ws) : StrB Z h' a cd b vs := ⟨F.1.keep K, F.2.1.keep K q, F.2.2.1.keep K q, F.2.2.2.keep K r⟩
theorem StrB.lt (F : StrB Z h a cd b vs) : a < h.size ∧ b < h.size := ⟨F.1.lt, F.2.2.2.lt⟩
/-- an object of a class right under the root is no instance of another class -/
theorem notInst {a0 : Array Value} {C O D : String} {cnt : Nat} (w : (Cond.superclass C O).before a0 Z = true) (wo : (Cond.noSuperclass O).before a0 Z = true) (wi : (Cond.instantiable D cnt).before a0 Z = true) (h1 : C ≠ D) (h2 : O ≠ D) : ∃ c t, Z.vm.findClass C = some c ∧ Z.vm.findClass D = some t ∧ Z.vm.assignable c t = false := by
  obtain ⟨t, k', g1, g2, g3, g4, -⟩ := Cond.instantiable_spec wi
  simp only [Bool.or_eq_false_iff] at g4
  obtain ⟨co, ko, o1, o2, o3, -⟩ := Cond.noSuperclass_spec wo
  obtain ⟨c, q0⟩ := found_sup w
  obtain ⟨p, kk, kp, q1, q2, q3, q4, q5, -⟩ := Cond.superclass_spec q0 w
  cases o1.symm.trans q1
  have ne := ids_ne q0 g1 h1
  have ne' := ids_ne o1 g1 h2
  have n3 : ∀ fuel, Z.vm.isSubclassAux fuel c t = false := fun fuel => by
    cases fuel with
    | zero => rfl
    | succ f => cases f with
      | zero => simp [Vm.isSubclassAux, ne, q2, q4]
      | succ f => simp [Vm.isSubclassAux, ne, ne', q2, q4, o2, o3]
  refine ⟨c, t, q0, g1, ?_⟩
  show Z.vm.assignableAux (255 + 1) c t = false
  simp [Vm.assignableAux, ne, q2, g2, q5, g3, g4.1, Vm.isSubclass, n3]
end StrFacts
section Lit
variable {Z : State} {a0 : Array Value} {EL : List (String × Nat)} {nw : Bool} {R : Room} {Post : Pst} {K : Kx} {own : String} {code : ByteArray} {maxL : Nat} {ret : Option FieldType} {nm : String} {h h' : Heap} {S : List Addr} {k n pc pc' : Nat} {L : List Slot} {st : List Value} {l : Launch}
/-- ldc of a String constant whose text is known -/
theorem Good.ldcS (G : Good Z a0 EL K own code maxL ret nm) {index : Nat} {text : String} (N : Nat) (vs : List Value) (z : Int32) (hd : Dc code pc (.ldc index) 2 pc') (w : (Cond.stringLink own index text).before a0 Z = true) (wS : ∀ a ∈ Bundle.stringAtoms, a.before a0 Z = true) (hnw : nw = false) (hmem : (own, index) ∈ EL)
    (ht : (∀ c ∈ text.toList, c.toNat < 256) ∧ text.toList.map (fun c => Value.int (Jvm.Lit.byteI c.toNat.toUInt16)) = vs) (hz : ¬ z < 0) (hl : z.toNatClampNeg = vs.length) (hn : 4 * text.toList.length ≤ N) (hbig : N ≤ 536870912)
    (f : ∀ a b h', Ext h h' → StrB Z h' a 0 b vs → (∀ x ∈ S, x ≠ a ∧ x ≠ b) → Go Z EL nw R Post K h' S (k + 2) (n + (N + 4)) pc' L (.ref a :: st)) (hc : k + 2 ≤ R.cells := by decide) (hl' : n + (N + 4) ≤ R.slots := by decide) : Go Z EL nw R Post K h S k n pc L st := fun T I => by
  obtain ⟨hd, rfl⟩ := hd
  obtain ⟨vm0, k0, locs, X, hS, hk0, hZ, e, Nf, CH, hSf, hw, hO⟩ := I
  obtain ⟨a, T', h', k1, b, kc, X', e', E, hS', hk1, hZ', hf', f1, f2, f3, f4, -, -, hC, -, hne, stp⟩ := ldcCH X G.1 hZ (G.hown hS) w wS e hS hk0 G.2.2.2.2.2.2.2 hmem CH.1 ht hz hl (g := mkF K.m pc L.toArray st) rfl (hb G.2.1 hd) hn hbig hc hl'
  have hsafe : ∀ x ∈ S, Safe Z EL T'.vm h' x := fun x hx => hC.safe (hSf x hx).2.1 (hSf x hx).2.2
  refine (f a b h' E ⟨f1, f2, f3, Al.of_arv f4 hl⟩ (fun x hx => hne x (hsafe x hx)) T' ⟨T'.vm, k1, locs, X', hS', hk1, hZ', e', Nf, CH.trans hC, fun x hx => ⟨(hSf x hx).1, Nat.lt_of_lt_of_le (hSf x hx).2.1 E.1, hsafe x hx⟩, fun q => (by rw [hnw] at q; cases q), ⟨Nat.le_trans hO.1 E.1, fun x c q => E.2 x c (hO.2 x c q)⟩⟩).step stp
/-- ldc of a String constant, what it holds unsaid -/
theorem Good.ldcO (G : Good Z a0 EL K own code maxL ret nm) {index : Nat} {text : String} (N : Nat) (hd : Dc code pc (.ldc index) 2 pc') (w : (Cond.stringLink own index text).before a0 Z = true) (wS : ∀ a ∈ Bundle.stringAtoms, a.before a0 Z = true) (hnw : nw = false) (hn : 4 * text.toList.length ≤ N) (hbig : N ≤ 536870912)
    (f : ∀ a h', Ext h h' → Go Z EL nw R Post K h' S (k + 2) (n + (N + 4)) pc' L (.ref a :: st)) (hc : k + 2 ≤ R.cells := by decide) (hl' : n + (N + 4) ≤ R.slots := by decide) : Go Z EL nw R Post K h S k n pc L st := fun T I => by
  obtain ⟨hd, rfl⟩ := hd
  obtain ⟨vm0, k0, locs, X, hS, hk0, hZ, e, Nf, CH, hSf, hw, hO⟩ := I
  obtain ⟨a, T', h', k1, X', e', E, hS', hk1, hZ', hf', hC, -, stp⟩ := ldcOH X G.1 hZ (G.hown hS) w wS e hS hk0 G.2.2.2.2.2.2.2 CH.1 (g := mkF K.m pc L.toArray st) rfl (hb G.2.1 hd) hn hbig hc hl'
  exact (f a h' E T' ⟨T'.vm, k1, locs, X', hS', hk1, hZ', e', Nf, CH.trans hC, fun x hx => ⟨(hSf x hx).1, Nat.lt_of_lt_of_le (hSf x hx).2.1 E.1, hC.safe (hSf x hx).2.1 (hSf x hx).2.2⟩, fun q => (by rw [hnw] at q; cases q), ⟨Nat.le_trans hO.1 E.1, fun x c q => E.2 x c (hO.2 x c q)⟩⟩).step stp
end Lit
end Jvm.Own
namespace Jvm.Own
open Jvm Jvm.ClassFile Sem Op Lib Jvm.Free Jvm.Stand Jvm.LawKit Jvm.RoadKit Bundle
section More
variable {Z : State} {a0 : Array Value} {EL : List (String × Nat)} {nw : Bool} {R : Room} {Post : Pst} {K : Kx} {own : String} {code : ByteArray} {maxL : Nat} {ret : Option FieldType} {nm : String} {h h' : Heap} {S : List Addr} {k n pc pc' : Nat} {L : List Slot} {st : List Value} {l : Launch}
/-- newarray, with the array's class -/
theorem Good.newAE (G : Good Z a0 EL K own code maxL ret nm) {aty : ArrayType} {j : Int32} {ad : String} (i cap : Nat) (hd : Dc code pc (.newarray aty) 2 pc') (w : (Cond.arrayClass (newarray.typeOf aty)).before a0 Z = true) (had : "[" ++ (newarray.typeOf aty).toString = ad) (hj : j.toInt = (i : Int)) (hi : i ≤ cap)
    (f : ∀ h', Ext h h' → h.size < h'.size → (Al Z h' h.size (newarray.typeOf aty) (List.replicate i (defaultValue (newarray.typeOf aty))) ∧ Exa Z h' h.size ad) → Go Z EL nw R Post K h' (h.size :: S) (k + 1) (n + cap) pc' L (.ref h.size :: st)) (hb' : cap * 8 ≤ 536870912 := by decide) (hc : k + 1 ≤ R.cells := by decide) (hl : n + cap ≤ R.slots := by decide) : Go Z EL nw R Post K h S k n pc L (.int j :: st) := by
  obtain ⟨hd, rfl⟩ := hd
  obtain ⟨j1, j2⟩ := nat_idx hj
  refine Go.grow G (fun T vm0 locs X hZ hown e => ?_) f
  obtain ⟨T', h', cA, X', e', E, A, Ex, stp⟩ := newPE X G.1 hZ w e (g := mkF K.m pc L.toArray (.int j :: st)) rfl (hb G.2.1 hd) rfl j1 (by rw [j2]; exact hi) hb' hc hl had
  exact ⟨T', h', X', e', E, A.lt, ⟨⟨_, A, by simp [RoadKit.newA, j2], by simp; omega, fun v hv => by rw [List.eq_of_mem_replicate hv]; cases aty <;> rfl⟩, Ex⟩, stp⟩
/-- baload of a boolean[] -/
theorem Good.zaload (G : Good Z a0 EL K own code maxL ret nm) {a : Addr} {vs : List Value} {j : Int32} {i : Nat} {v : Value} (hd : Dc code pc .baload 1 pc') (A : Al Z h a .boolean vs) (hj : j.toInt = (i : Int)) (hv : vs[i]? = some v) (f : Go Z EL nw R Post K h S k n pc' L (v :: st)) : Go Z EL nw R Post K h S k n pc L (.int j :: .ref a :: st) := by
  obtain ⟨hd, rfl⟩ := hd
  obtain ⟨c, A1, A2, A3, A4⟩ := A
  obtain ⟨j1, j2⟩ := nat_idx hj
  have hlt := (List.getElem?_eq_some_iff.mp hv).1
  refine Go.calm G (fun T vm0 locs X hZ hown e => ⟨T, X, e, fun t q => ?_⟩) f
  exact X.baloadBooleans G.1 (by rw [e]; exact A1.1) (State.isArrayOf_alike hZ.alike A1.2.1) A1.2.2 (by rw [j2, A2]; simp only [List.size_toArray]; rintro (q | q); exact j1 q; omega) (by rw [j2, A2]; simpa using hv) (g := mkF K.m pc L.toArray (.int j :: .ref a :: st)) rfl rfl (hb G.2.1 hd) t q
/-- clone of an array -/
theorem Good.aclone (G : Good Z a0 EL K own code maxL ret nm) {ad : String} {index : Nat} {a : Addr} {ty : FieldType} {vs : List Value} (cap : Nat) (hd : Dc code pc (.invokevirtual index) 3 pc')
    (w1 : (Cond.methodLink own index ⟨ad, "clone", "()Ljava/lang/Object;"⟩).before a0 Z = true) (w2 : (Cond.sameMethod ad "java/lang/Object" "clone" "()Ljava/lang/Object;").before a0 Z = true) (w3 : (Cond.native ⟨"java/lang/Object", "clone", "()Ljava/lang/Object;"⟩).before a0 Z = true)
    (w4 : (Cond.instanceMethod ⟨"java/lang/Object", "clone", "()Ljava/lang/Object;"⟩).before a0 Z = true) (w5 : (Cond.selects ad ⟨ad, "clone", "()Ljava/lang/Object;"⟩ ⟨"java/lang/Object", "clone", "()Ljava/lang/Object;"⟩).before a0 Z = true) (w6 : (Cond.castable ad "java/lang/Cloneable").before a0 Z = true)
    (A : Al Z h a ty vs) (E : Exa Z h a ad) (hcap : vs.length ≤ cap)
    (f : ∀ h', Ext h h' → h.size < h'.size → (Al Z h' h.size ty vs ∧ Exa Z h' h.size ad) → Go Z EL nw R Post K h' (h.size :: S) (k + 1) (n + cap) pc' L (.ref h.size :: st)) (hL : L.length = maxL := by rfl) (hf : 1 ≤ R.frames := by decide) (hl : (st.map fun v => v.category).sum + 14 ≤ R.locals := by exact Nat.le_of_ble_eq_true rfl) (hc : k + 1 ≤ R.cells := by decide) (hsl : n + cap ≤ R.slots := by decide) : Go Z EL nw R Post K h S k n pc L (.ref a :: st) := by
  obtain ⟨hd, rfl⟩ := hd
  obtain ⟨c, A1, A2, A3, A4⟩ := A
  refine Go.grow G (fun T vm0 locs X hZ hown e => ?_) f
  have FC : FitC Z c := fitC_of A1 fun i hi v hv => A4 v (by rw [A2] at hv; exact List.mem_of_getElem? (by simpa using hv))
  obtain ⟨T', h', X', e', ex, A', E', stp⟩ := cloneA X G.1 hZ hown w1 w2 w3 w4 w5 w6 e A1 E FC (g := mkF K.m pc L.toArray (.ref a :: st)) rfl (by rw [G.2.2.1]; simpa using hL) rfl (hb G.2.1 hd) hf (W := (st.map fun v => v.category).sum) (by show 2 * 0 + _ ≤ _; omega) hl (by rw [A2]; simpa using hcap) hc hsl
  exact ⟨T', h', X', e', ex, A'.lt, ⟨⟨_, A', A2, A3, A4⟩, E'⟩, stp⟩
end More
end Jvm.Own
namespace Jvm.Own
open Jvm Jvm.ClassFile Sem Op Lib Jvm.Free Jvm.Stand Jvm.LawKit Jvm.RoadKit Bundle
section More2
variable {Z : State} {a0 : Array Value} {EL : List (String × Nat)} {nw : Bool} {R : Room} {Post : Pst} {K : Kx} {own : String} {code : ByteArray} {maxL : Nat} {ret : Option FieldType} {nm : String} {h h' : Heap} {S : List Addr} {k n pc pc' : Nat} {L : List Slot} {st : List Value} {l : Launch}
/-- anewarray, with the array's class -/
theorem Good.newRE (G : Good Z a0 EL K own code maxL ret nm) {C ad : String} {index : Nat} {j : Int32} (i cap : Nat) (hd : Dc code pc (.anewarray index) 3 pc') (w1 : (Cond.classLink own index C).before a0 Z = true) (w2 : (Cond.arrayOver (.object C)).before a0 Z = true) (had : "[" ++ (FieldType.object C).toString = ad) (hj : j.toInt = (i : Int)) (hi : i ≤ cap)
    (f : ∀ h', Ext h h' → h.size < h'.size → (Al Z h' h.size (.object C) (List.replicate i .null) ∧ Exa Z h' h.size ad ∧ ∃ c cA, Arr Z h' h.size c (.object C) ∧ c.cls = cA ∧ Ovr Z cA C) → Go Z EL nw R Post K h' (h.size :: S) (k + 1) (n + cap) pc' L (.ref h.size :: st)) (hb' : cap * 8 ≤ 536870912 := by decide) (hc : k + 1 ≤ R.cells := by decide) (hl : n + cap ≤ R.slots := by decide) : Go Z EL nw R Post K h S k n pc L (.int j :: st) := by
  obtain ⟨hd, rfl⟩ := hd
  obtain ⟨j1, j2⟩ := nat_idx hj
  refine Go.grow G (fun T vm0 locs X hZ hown e => ?_) f
  obtain ⟨T', h', cA, X', e', E, A, Ex, O, stp⟩ := RoadKit.newRE X G.1 hZ hown w1 w2 e (g := mkF K.m pc L.toArray (.int j :: st)) rfl (hb G.2.1 hd) rfl j1 (by rw [j2]; exact hi) hb' hc hl had
  exact ⟨T', h', X', e', E, A.lt, ⟨⟨_, A, by simp [RoadKit.newA, j2, defaultValue], by simp; omega, fun v hv => by rw [List.eq_of_mem_replicate hv]; rfl⟩, Ex, _, cA, A, rfl, O⟩, stp⟩
/-- Object.getClass on an object of a class whose Class object is made -/
theorem Good.gcls (G : Good Z a0 EL K own code maxL ret nm) {C : String} {index : Nat} {a mr : Addr} (hd : Dc code pc (.invokevirtual index) 3 pc') (w1 : (Cond.methodLink own index ⟨"java/lang/Object", "getClass", "()Ljava/lang/Class;"⟩).before a0 Z = true) (w2 : (Cond.declares ⟨"java/lang/Object", "getClass", "()Ljava/lang/Class;"⟩).before a0 Z = true) (w3 : (Cond.noSuperclass "java/lang/Object").before a0 Z = true) (w4 : (Cond.selects C ⟨"java/lang/Object", "getClass", "()Ljava/lang/Class;"⟩ ⟨"java/lang/Object", "getClass", "()Ljava/lang/Class;"⟩).before a0 Z = true)
    (w5 : (Cond.instanceMethod ⟨"java/lang/Object", "getClass", "()Ljava/lang/Class;"⟩).before a0 Z = true) (w6 : (Cond.native ⟨"java/lang/Object", "getClass", "()Ljava/lang/Class;"⟩).before a0 Z = true) (E : Exa Z h a C) (M : Mir Z C mr)
    (f : Go Z EL nw R Post K h S k n pc' L (.ref mr :: st)) (hL : L.length = maxL := by rfl) (hf : 1 ≤ R.frames := by decide) (hl : (st.map fun v => v.category).sum + (nativeFrameWords "java/lang/Object" "getClass" 1 + 11) ≤ R.locals := by exact Nat.le_of_ble_eq_true rfl) : Go Z EL nw R Post K h S k n pc L (.ref a :: st) := by
  obtain ⟨hd, rfl⟩ := hd
  refine Go.calm G (fun T vm0 locs X hZ hown e => ?_) f
  exact RoadKit.gcls X G.1 hZ hown w1 w2 w3 w4 w5 w6 e E M (g := mkF K.m pc L.toArray (.ref a :: st)) rfl (by rw [G.2.2.1]; simpa using hL) rfl (hb G.2.1 hd) hf (W := (st.map fun v => v.category).sum) (by show 2 * 0 + _ ≤ _; omega) hl
/-- ldc of a class whose Class object is made -/
theorem Good.ldcMir (G : Good Z a0 EL K own code maxL ret nm) {C : String} {index : Nat} {mr : Addr} (hd : Dc code pc (.ldc index) 2 pc') (w : (Cond.classLink own index C).before a0 Z = true) (M : Mir Z C mr) (f : Go Z EL nw R Post K h S k n pc' L (.ref mr :: st)) : Go Z EL nw R Post K h S k n pc L st := by
  obtain ⟨hd, rfl⟩ := hd
  refine Go.calm G (fun T vm0 locs X hZ hown e => ?_) f
  obtain ⟨cc, kc, m1, m2, m3, -⟩ := M
  obtain ⟨k', q, ek⟩ := hZ.alike.2.2 _ _ m2
  have f1 : (K.s.setVm vm0).vm.findClass C = some cc := by rw [hZ.alike.findClass]; exact m1
  have f2 : vm0.findClass C = some cc := f1
  have f3 : vm0.classes[cc]? = some k' := q
  have f4 : k'.mirror = some mr := by rw [ek]; exact m3
  obtain ⟨vm', X', stp⟩ := X.ldcMirror G.1 hown (mvT hZ w) (C := C) (a := mr) (by simp [Term.eval, f2, f3, f4]) (g := mkF K.m pc L.toArray st) rfl (hb G.2.1 hd)
  exact ⟨_, X', e, stp⟩
theorem Good.tswIn (G : Good Z a0 EL K own code maxL ret nm) {dflt low high : Int} {offs : Array Int} {len : Nat} {o : Int} {i : Int32} (hd : decode code pc = .ok (.tableswitch dflt low high offs, len)) (hin : ¬ (i.toInt < low ∨ i.toInt > high)) (hoff : offs[(i.toInt - low).toNat]? = some o) (ho : 0 ≤ (pc : Int) + o) (hp : ((pc : Int) + o).toNat = pc') (f : Go Z EL nw R Post K h S k n pc' L st) : Go Z EL nw R Post K h S k n pc L (.int i :: st) :=
  Go.plain (fun T t X q => XS.tswIn X G.1 rfl (pc0 := pc) rfl (hb G.2.1 hd) rfl hin hoff ho hp q) f
theorem Good.tswOut (G : Good Z a0 EL K own code maxL ret nm) {dflt low high : Int} {offs : Array Int} {len : Nat} {i : Int32} (hd : decode code pc = .ok (.tableswitch dflt low high offs, len)) (hout : i.toInt < low ∨ i.toInt > high) (ho : 0 ≤ (pc : Int) + dflt) (hp : ((pc : Int) + dflt).toNat = pc') (f : Go Z EL nw R Post K h S k n pc' L st) : Go Z EL nw R Post K h S k n pc L (.int i :: st) :=
  Go.plain (fun T t X q => XS.tswOut X G.1 rfl (pc0 := pc) rfl (hb G.2.1 hd) rfl hout ho hp q) f
theorem Good.getSN (G : Good Z a0 EL K own code maxL ret nm) {R0 O fn d host : String} {index : Nat} {v : Value} (hd : Dc code pc (.getstatic index) 3 pc') (w : (Cond.fieldLinkNest own index R0 fn d host).before a0 Z = true) (F : Sta Z Z.heap O fn d v) (f : Go Z EL nw R Post K h S k n pc' L (v :: st)) (via : Via Z R0 O fn d := by exact Via.refl) : Go Z EL nw R Post K h S k n pc L st := by
  obtain ⟨hd, rfl⟩ := hd
  refine Go.oldIn (fun O' => ?_)
  refine Go.calm G (fun T vm0 locs X hZ hown e => ?_) f
  exact getS2 X G.1 hZ hown (Or.inr w) via e (Sta.old F O') (g := mkF K.m pc L.toArray st) rfl (hb G.2.1 hd)
/-- a constructor of a nestmate -/
theorem Good.callIN2 (G : Good Z a0 EL K own code maxL ret nm) {rest : List Value} {y : MethodName} {bytes : ByteArray} {maxL' : Nat} {rm : Room} {S0 : List Addr} {Post' : Pst} {ps : List FieldType} {rr : Option FieldType} {index : Nat} {host : String} {a : Addr} {v1 v2 : Value} (hd : Dc code pc (.invokespecial index) 3 pc') (w1 : (Cond.methodLinkNest own index y host).before a0 Z = true) (w2 : (Cond.instanceMethod y).before a0 Z = true) (w3 : (Cond.initialized y.cls).before a0 Z = true) (w4 : (Cond.code y bytes maxL' none).before a0 Z = true)
    (pd : parseMethodDescriptor y.desc = some ⟨ps, rr⟩) (c : Con K.l Z EL nw y bytes maxL' none [] rm #[.ref a, v1, v2] h S0 Post') (hS0 : ∀ x ∈ S0, x ∈ S)
    (f : ∀ v h' S', Post' v h' S' → h.size ≤ h'.size → Go Z EL nw R Post K h' (S' ++ S) (k + rm.cells) (n + rm.slots) pc' L (v.toList ++ rest))
    (hy1 : y.name = "<init>" := by rfl) (hln : 2 = ps.length := by rfl) (hy : y.cls ≠ "java/lang/invoke/MethodHandle" ∧ y.cls ≠ "java/lang/invoke/VarHandle" := by decide) (hL : L.length = maxL := by rfl) (hf : rm.frames + 1 ≤ R.frames := by decide) (hl : (rest.map fun v => v.category).sum + (maxL' + 11) + rm.locals ≤ R.locals := by exact Nat.le_of_ble_eq_true rfl) (hcc : k + rm.cells ≤ R.cells := by decide) (hss : n + rm.slots ≤ R.slots := by decide) : Go Z EL nw R Post K h S k n pc L (v2 :: v1 :: .ref a :: rest) := by
  obtain ⟨hd, rfl⟩ := hd
  refine Go.callG (len := 3) G c hS0 w4 w3 hf hl hcc hss (fun T vm0 locs X hZ hown e hK hpre => ?_) f
  exact X.specialBackNestS G.1 hy1 hown (Cond.methodLinkNest_wide hZ w1) (mvT hZ w2) (mvT hZ w4) hy hK (g := mkF K.m pc L.toArray (v2 :: v1 :: .ref a :: rest)) rfl (by rw [G.2.2.1]; simpa using hL) (Steps.refl _) (argsL := [v1, v2]) (lenOf pd hln) rfl (by show 2 * 0 + _ ≤ _; omega) (hb G.2.1 hd) hpre
/-- System.arraycopy of references, into a cell of S -/
theorem Good.acopyR (G : Good Z a0 EL K own code maxL ret nm) {index : Nat} {a b : Addr} {ty ty' : FieldType} {vs vd : List Value} {sp dp nn : Int32} (i j m : Nat) (hd : Dc code pc (.invokestatic index) 3 pc') (w1 : (Cond.methodLink own index Jvm.Stand.acN).before a0 Z = true) (w2 : (Cond.native Jvm.Stand.acN).before a0 Z = true) (w3 : (Cond.static Jvm.Stand.acN).before a0 Z = true) (w4 : (Cond.initialized "java/lang/System").before a0 Z = true)
    (A : Al Z h a ty vs) (B : Al Z h b ty' vd) (hty : refKind ty = true) (hty' : refKind ty' = true) (hst : StoL Z h b ((vs.drop i).take m)) (hb' : b ∈ S) (hi : sp.toInt = (i : Int)) (hj : dp.toInt = (j : Int)) (hm : nn.toInt = (m : Int)) (h4 : i + m ≤ vs.length) (h5 : j + m ≤ vd.length)
    (f : ∀ h', Keep h h' [b] → Al Z h' b ty' (vd.take j ++ (vs.drop i).take m ++ vd.drop (j + m)) → Go Z EL nw R Post K h' S k n pc' L st) (hL : L.length = maxL := by rfl) (hf : 1 ≤ R.frames := by decide) (hl : (st.map fun v => v.category).sum + (nativeFrameWords "java/lang/System" "arraycopy" 5 + 11) ≤ R.locals := by exact Nat.le_of_ble_eq_true rfl) :
    Go Z EL nw R Post K h S k n pc L (.int nn :: .int dp :: .ref b :: .int sp :: .ref a :: st) := fun T I => by
  obtain ⟨hd, rfl⟩ := hd
  obtain ⟨vm0, k0, locs, X, hS, hk0, hZ, e, N, CH, hSf, hw, hO⟩ := I
  obtain ⟨c1, c2, c3⟩ := hSf b hb'
  obtain ⟨ka, Av⟩ := A.arv .null
  obtain ⟨kb, Bv⟩ := B.arv .null
  obtain ⟨i1, i2⟩ := nat_idx hi
  obtain ⟨j1, j2⟩ := nat_idx hj
  obtain ⟨m1, m2⟩ := nat_idx hm
  have ea : (Int32.ofNat vs.length).toNatClampNeg = vs.length := by simp [Int32.toNatClampNeg, len_toInt A.len]
  have eb : (Int32.ofNat vd.length).toNatClampNeg = vd.length := by simp [Int32.toNatClampNeg, len_toInt B.len]
  have hus : (vs.drop i).take m = (List.range nn.toNatClampNeg).map fun q => vs.getD (sp.toNatClampNeg + q) .null := by
    rw [m2, i2]
    apply List.ext_getElem
    · simp; omega
    · intro q q1 q2
      simp only [List.length_map, List.length_range] at q2
      have : i + q < vs.length := by omega
      simp [List.getD_eq_getElem?_getD, this]
  obtain ⟨T', h', L', X', e', N', Kp, B', stp⟩ := cpA X G.1 hZ (G.hown hS) w1 w2 w3 w4 e Av Bv (Or.inr ⟨hty, hty', hst⟩) i1 j1 m1 (by rw [i2, m2, ea]; exact h4) (by rw [j2, m2, eb]; exact h5) hus (by rw [j2, m2]; exact h5) N c1 (g := mkF K.m pc L.toArray (.int nn :: .int dp :: .ref b :: .int sp :: .ref a :: st)) rfl (by rw [G.2.2.1]; simpa using hL) rfl (hb G.2.1 hd) hf (W := (st.map fun v => v.category).sum) (by show 2 * 0 + _ ≤ _; omega) hl
  rw [j2, m2] at B'
  have sfb : ∀ x ∈ [b], Safe Z EL vm0 h x := fun x hx => by cases List.mem_singleton.mp hx; exact c3
  have hC := CHr.keep Kp sfb CH.1
  refine (f h' Kp (Al.of_arv B' (by rw [eb]; simp; omega)) T' ⟨vm0, k0, L', X', hS, Nat.le_trans hk0 Kp.1, hZ, e', N', CH.trans hC, fun x hx => ?_, hw, ⟨Nat.le_trans hO.1 Kp.1, fun x c q => Kp.2.1 x c (hO.2 x c q) (fun z => by cases List.mem_singleton.mp z; exact absurd (Array.getElem?_eq_some_iff.mp q).1 (Nat.not_lt.mpr c1))⟩⟩).step stp
  obtain ⟨b1, b2, b3⟩ := hSf x hx
  exact ⟨b1, Nat.lt_of_lt_of_le b2 Kp.1, Safe.keep Kp sfb CH.1 b3⟩
/-- a class with three classes above it is no subclass of D -/
theorem notInst3 {C1 C2 C3 O D : String} {cnt : Nat} (w1 : (Cond.superclass C1 C2).before a0 Z = true) (w2 : (Cond.superclass C2 C3).before a0 Z = true) (w3 : (Cond.superclass C3 O).before a0 Z = true) (wo : (Cond.noSuperclass O).before a0 Z = true) (wi : (Cond.instantiable D cnt).before a0 Z = true) (h1 : C1 ≠ D) (h2 : C2 ≠ D) (h3 : C3 ≠ D) (h4 : O ≠ D) : ∃ c t, Z.vm.findClass C1 = some c ∧ Z.vm.findClass D = some t ∧ Z.vm.assignable c t = false := by
  obtain ⟨t, k', g1, g2, g3, g4, -⟩ := Cond.instantiable_spec wi
  simp only [Bool.or_eq_false_iff] at g4
  obtain ⟨co, ko, o1, o2, o3, -⟩ := Cond.noSuperclass_spec wo
  obtain ⟨a1, q0⟩ := found_sup w1
  obtain ⟨a2, r0⟩ := found_sup w2
  obtain ⟨a3, s0⟩ := found_sup w3
  obtain ⟨p1, kk1, kp1, q1, q2, q3, q4, q5, -⟩ := Cond.superclass_spec q0 w1
  obtain ⟨p2, kk2, kp2, r1, r2, r3, r4, r5, -⟩ := Cond.superclass_spec r0 w2
  obtain ⟨p3, kk3, kp3, s1, s2, s3, s4, s5, -⟩ := Cond.superclass_spec s0 w3
  cases r0.symm.trans q1
  cases s0.symm.trans r1
  cases o1.symm.trans s1
  have n1 := ids_ne q0 g1 h1
  have n2 := ids_ne r0 g1 h2
  have n3 := ids_ne s0 g1 h3
  have n4 := ids_ne o1 g1 h4
  have n5 : ∀ fuel, Z.vm.isSubclassAux fuel a1 t = false := fun fuel => by
    cases fuel with
    | zero => rfl
    | succ f => cases f with
      | zero => simp [Vm.isSubclassAux, n1, q2, q4]
      | succ f => cases f with
        | zero => simp [Vm.isSubclassAux, n1, n2, q2, q4, r2, r4]
        | succ f => cases f with
          | zero => simp [Vm.isSubclassAux, n1, n2, n3, q2, q4, r2, r4, s2, s4]
          | succ f => simp [Vm.isSubclassAux, n1, n2, n3, n4, q2, q4, r2, r4, s2, s4, o2, o3]
  refine ⟨a1, t, q0, g1, ?_⟩
  show Z.vm.assignableAux (255 + 1) a1 t = false
  simp [Vm.assignableAux, n1, q2, g2, q5, g3, g4.1, Vm.isSubclass, n5]
end More2
end Jvm.Own
namespace Jvm.Pilot.@@N@@
open Jvm Jvm.ClassFile Sem Op Lib Jvm.Free Jvm.Stand Jvm.LawKit Jvm.RoadKit Jvm.Own Bundle Jvm.Pilot.@@N@@.Jvm.D
set_option maxRecDepth 65536
set_option maxHeartbeats 4000000
abbrev hwT (a0 : Array Value) (Z : State) : Prop := ∀ (i : Nat) {d : Jvm.Cond}, tables_1[i]? = some d → d.before a0 Z = true
abbrev SN : String := "java/lang/String"
def CS (Z : State) : Prop := ∃ cc : Int32, Sta Z Z.heap "java/lang/String" "COMPACT_STRINGS" "Z" (.int cc) ∧ ¬ cc = 0
/-- a char's byte in a Latin-1 String -/
def bL (c : Int32) : Value := .int c.toInt8.toInt32
def Lat (cs : List Int32) : Prop := ∀ c ∈ cs, 0 ≤ c.toInt ∧ c.toInt < 256
abbrev rm0 : Room := { frames := 0, cells := 0, slots := 0, locals := 0 }
theorem inc_toInt {x : Int32} {i : Nat} (hx : x.toInt = (i : Int)) (hi : i + 1 < 2147483648) : (x + 1).toInt = ((i + 1 : Nat) : Int) := by
  have h1 := c_iadd x 1
  have h2 : (1 : Int32).toInt = 1 := by decide
  have h3 := rng32 (x + 1)
  rw [h2, hx] at h1
  omega
theorem lt_of_toInt {x y : Int32} (h : x.toInt < y.toInt) : x < y := Int32.lt_iff_toInt_lt.mpr h
theorem not_lt_of_toInt {x y : Int32} (h : y.toInt ≤ x.toInt) : ¬ x < y := fun q => by rw [Int32.lt_iff_toInt_lt] at q; omega
theorem nar8 (c : Int32) : nar .byte c.toInt8.toInt32 = c.toInt8.toInt32 := by simp [nar]
theorem set_mid {α : Type} (A B : List α) (x y : α) : (A ++ x :: B).set A.length y = A ++ y :: B := by simp
theorem get_mid {α : Type} (A B : List α) (x : α) : (A ++ x :: B)[A.length]? = some x := by simp
theorem toInt_0 : (0 : Int32).toInt = 0 := by decide
theorem byte_back {c : Int32} (h0 : 0 ≤ c.toInt) (h1 : c.toInt < 256) : (c.toInt8.toInt32 &&& 255) = c := by
  have a1 := c_i2b c
  have a2 := c_mask c.toInt8.toInt32 255 8 (by decide) (by decide)
  apply Int32.toInt_inj.mp
  have h2 : ((2 ^ 8 : Nat) : Int) = 256 := by decide
  rw [h2] at a2
  omega
theorem bL_inj {c d : Int32} (hc : 0 ≤ c.toInt ∧ c.toInt < 256) (hd : 0 ≤ d.toInt ∧ d.toInt < 256) (h : c.toInt8.toInt32 = d.toInt8.toInt32) : c = d := by
  rw [← byte_back hc.1 hc.2, ← byte_back hd.1 hd.2, h]
theorem nar_char {x : Int32} (h0 : 0 ≤ x.toInt) (h1 : x.toInt < 65536) : nar .char x = x := by
  have := c_i2c x
  apply Int32.toInt_inj.mp
  show x.toUInt32.toUInt16.toUInt32.toInt32.toInt = x.toInt
  omega
theorem ch255 (x : Int32) : 0 ≤ ((x &&& 255).toUInt32.toUInt16.toUInt32.toInt32).toInt ∧ ((x &&& 255).toUInt32.toUInt16.toUInt32.toInt32).toInt < 256 := by
  rw [i2c_mask]
  have a2 := c_mask x 255 8 (by decide) (by decide)
  have h2 : ((2 ^ 8 : Nat) : Int) = 256 := by decide
  rw [h2] at a2
  omega
/-- a char below 256 -/
abbrev C8 (c : Int32) : Prop := 0 ≤ c.toInt ∧ c.toInt < 256
theorem Lat.nil : Lat [] := fun _ q => nomatch q
theorem Lat.cons {c : Int32} {cs : List Int32} (h : C8 c) (r : Lat cs) : Lat (c :: cs) := fun x q => by rcases List.mem_cons.mp q with rfl | q; exact h; exact r x q
theorem bL_map (cs : List Int32) : cs.map bL = (cs.map fun c => c.toInt8.toInt32).map Value.int := by simp [bL]
theorem bL_maps {cs ds : List Int32} (hc : Lat cs) (hd : Lat ds) (h : (cs.map fun c => c.toInt8.toInt32) = ds.map fun c => c.toInt8.toInt32) : cs = ds := by
  induction cs generalizing ds with
  | nil => cases ds with | nil => rfl | cons y ys => cases h
  | cons x xs ih =>
    cases ds with
    | nil => cases h
    | cons y ys =>
      simp only [List.map_cons, List.cons.injEq] at h
      have e := bL_inj (hc x (by simp)) (hd y (by simp)) h.1
      rw [e, ih (fun c q => hc c (by simp [q])) (fun c q => hd c (by simp [q])) h.2]
theorem shr0' (i : Int32) : (i >>> ((0 : Int32) &&& 31)).toInt = i.toInt := by
  have a := c_ishr i 0 0 (by decide)
  have e : ((2 ^ 0 : Nat) : Int) = 1 := by decide
  rw [e] at a
  omega
theorem shl0' (i : Int32) : (i <<< ((0 : Int32) &&& 31)).toInt = i.toInt := by
  have a := c_ishl i 0 0 (by decide)
  have r := rng32 (i <<< ((0 : Int32) &&& 31))
  have r2 := rng32 i
  have e : ((2 ^ 0 : Nat) : Int) = 1 := by decide
  rw [e] at a
  omega
theorem sub0 (i : Int32) : (i - 0).toInt = i.toInt := by
  have a := c_isub i 0
  have r := rng32 (i - 0)
  have r2 := rng32 i
  rw [toInt_0] at a
  omega
theorem d0_0 : Dc code 0 (.iload_n 0) 1 1 := ⟨at_0, rfl⟩
theorem d0_1 : Dc code 1 (.iconst 3) 1 2 := ⟨at_1, rfl⟩
theorem d0_2 : Dc code 2 .iand 1 3 := ⟨at_2, rfl⟩
theorem d0_3 : Dc code 3 (.istore 5) 2 5 := ⟨at_3, rfl⟩
theorem d0_5 : Dc code 5 (.new 7) 3 8 := ⟨at_5, rfl⟩
theorem d0_8 : Dc code 8 .dup 1 9 := ⟨at_8, rfl⟩
theorem d0_9 : Dc code 9 (.iconst 1) 1 10 := ⟨at_9, rfl⟩
theorem d0_10 : Dc code 10 (.newarray .char) 2 12 := ⟨at_10, rfl⟩
theorem d0_12 : Dc code 12 .dup 1 13 := ⟨at_12, rfl⟩
theorem d0_13 : Dc code 13 (.iconst 0) 1 14 := ⟨at_13, rfl⟩
theorem d0_14 : Dc code 14 (.iload_n 1) 1 15 := ⟨at_14, rfl⟩
theorem d0_15 : Dc code 15 (.sipush 255) 3 18 := ⟨at_15, rfl⟩
theorem d0_18 : Dc code 18 .iand 1 19 := ⟨at_18, rfl⟩
theorem d0_19 : Dc code 19 .i2c 1 20 := ⟨at_19, rfl⟩
theorem d0_20 : Dc code 20 .castore 1 21 := ⟨at_20, rfl⟩
theorem d0_21 : Dc code 21 (.invokespecial 9) 3 24 := ⟨at_21, rfl⟩
theorem d0_24 : Dc code 24 (.astore 6) 2 26 := ⟨at_24, rfl⟩
theorem d0_26 : Dc code 26 (.new 7) 3 29 := ⟨at_26, rfl⟩
theorem d0_29 : Dc code 29 .dup 1 30 := ⟨at_29, rfl⟩
theorem d0_30 : Dc code 30 (.iconst 1) 1 31 := ⟨at_30, rfl⟩
theorem d0_31 : Dc code 31 (.newarray .char) 2 33 := ⟨at_31, rfl⟩
theorem d0_33 : Dc code 33 .dup 1 34 := ⟨at_33, rfl⟩
theorem d0_34 : Dc code 34 (.iconst 0) 1 35 := ⟨at_34, rfl⟩
theorem d0_35 : Dc code 35 (.iload_n 2) 1 36 := ⟨at_35, rfl⟩
theorem d0_36 : Dc code 36 (.sipush 255) 3 39 := ⟨at_36, rfl⟩
theorem d0_39 : Dc code 39 .iand 1 40 := ⟨at_39, rfl⟩
theorem d0_40 : Dc code 40 .i2c 1 41 := ⟨at_40, rfl⟩
theorem d0_41 : Dc code 41 .castore 1 42 := ⟨at_41, rfl⟩
theorem d0_42 : Dc code 42 (.invokespecial 9) 3 45 := ⟨at_42, rfl⟩
theorem d0_45 : Dc code 45 (.astore 7) 2 47 := ⟨at_45, rfl⟩
theorem d0_47 : Dc code 47 (.new 7) 3 50 := ⟨at_47, rfl⟩
theorem d0_50 : Dc code 50 .dup 1 51 := ⟨at_50, rfl⟩
theorem d0_51 : Dc code 51 (.iconst 1) 1 52 := ⟨at_51, rfl⟩
theorem d0_52 : Dc code 52 (.newarray .char) 2 54 := ⟨at_52, rfl⟩
theorem d0_54 : Dc code 54 .dup 1 55 := ⟨at_54, rfl⟩
theorem d0_55 : Dc code 55 (.iconst 0) 1 56 := ⟨at_55, rfl⟩
theorem d0_56 : Dc code 56 (.iload_n 3) 1 57 := ⟨at_56, rfl⟩
theorem d0_57 : Dc code 57 (.sipush 255) 3 60 := ⟨at_57, rfl⟩
theorem d0_60 : Dc code 60 .iand 1 61 := ⟨at_60, rfl⟩
theorem d0_61 : Dc code 61 .i2c 1 62 := ⟨at_61, rfl⟩
theorem d0_62 : Dc code 62 .castore 1 63 := ⟨at_62, rfl⟩
theorem d0_63 : Dc code 63 (.invokespecial 9) 3 66 := ⟨at_63, rfl⟩
theorem d0_66 : Dc code 66 (.astore 8) 2 68 := ⟨at_66, rfl⟩
theorem d0_68 : Dc code 68 (.new 7) 3 71 := ⟨at_68, rfl⟩
theorem d0_71 : Dc code 71 .dup 1 72 := ⟨at_71, rfl⟩
theorem d0_72 : Dc code 72 (.iconst 1) 1 73 := ⟨at_72, rfl⟩
theorem d0_73 : Dc code 73 (.newarray .char) 2 75 := ⟨at_73, rfl⟩
theorem d0_75 : Dc code 75 .dup 1 76 := ⟨at_75, rfl⟩
theorem d0_76 : Dc code 76 (.iconst 0) 1 77 := ⟨at_76, rfl⟩
theorem d0_77 : Dc code 77 (.iload 4) 2 79 := ⟨at_77, rfl⟩
theorem d0_79 : Dc code 79 (.sipush 255) 3 82 := ⟨at_79, rfl⟩
theorem d0_82 : Dc code 82 .iand 1 83 := ⟨at_82, rfl⟩
theorem d0_83 : Dc code 83 .i2c 1 84 := ⟨at_83, rfl⟩
theorem d0_84 : Dc code 84 .castore 1 85 := ⟨at_84, rfl⟩
theorem d0_85 : Dc code 85 (.invokespecial 9) 3 88 := ⟨at_85, rfl⟩
theorem d0_88 : Dc code 88 (.astore 9) 2 90 := ⟨at_88, rfl⟩
theorem d0_90 : Dc code 90 (.new 12) 3 93 := ⟨at_90, rfl⟩
theorem d0_93 : Dc code 93 .dup 1 94 := ⟨at_93, rfl⟩
theorem d0_94 : Dc code 94 (.invokespecial 14) 3 97 := ⟨at_94, rfl⟩
theorem d0_97 : Dc code 97 (.astore 10) 2 99 := ⟨at_97, rfl⟩
theorem d0_99 : Dc code 99 (.iload 5) 2 101 := ⟨at_99, rfl⟩
theorem d0_101 : Dj code 101 (.ifCond .le) 104 112 := ⟨11, at_101, rfl, by decide, by decide⟩
theorem d0_104 : Dc code 104 (.aload 10) 2 106 := ⟨at_104, rfl⟩
theorem d0_106 : Dc code 106 (.aload 7) 2 108 := ⟨at_106, rfl⟩
theorem d0_108 : Dc code 108 (.invokevirtual 15) 3 111 := ⟨at_108, rfl⟩
theorem d0_111 : Dc code 111 .pop 1 112 := ⟨at_111, rfl⟩
theorem d0_112 : Dc code 112 (.iload 5) 2 114 := ⟨at_112, rfl⟩
theorem d0_114 : Dc code 114 (.iconst 1) 1 115 := ⟨at_114, rfl⟩
theorem d0_115 : Dj code 115 (.if_icmp .le) 118 126 := ⟨11, at_115, rfl, by decide, by decide⟩
theorem d0_118 : Dc code 118 (.aload 10) 2 120 := ⟨at_118, rfl⟩
theorem d0_120 : Dc code 120 (.aload 8) 2 122 := ⟨at_120, rfl⟩
theorem d0_122 : Dc code 122 (.invokevirtual 15) 3 125 := ⟨at_122, rfl⟩
theorem d0_125 : Dc code 125 .pop 1 126 := ⟨at_125, rfl⟩
theorem d0_126 : Dc code 126 (.iload 5) 2 128 := ⟨at_126, rfl⟩
theorem d0_128 : Dc code 128 (.iconst 2) 1 129 := ⟨at_128, rfl⟩
theorem d0_129 : Dj code 129 (.if_icmp .le) 132 140 := ⟨11, at_129, rfl, by decide, by decide⟩
theorem d0_132 : Dc code 132 (.aload 10) 2 134 := ⟨at_132, rfl⟩
theorem d0_134 : Dc code 134 (.aload 9) 2 136 := ⟨at_134, rfl⟩
theorem d0_136 : Dc code 136 (.invokevirtual 15) 3 139 := ⟨at_136, rfl⟩
theorem d0_139 : Dc code 139 .pop 1 140 := ⟨at_139, rfl⟩
theorem d0_140 : Dc code 140 (.new 19) 3 143 := ⟨at_140, rfl⟩
theorem d0_143 : Dc code 143 .dup 1 144 := ⟨at_143, rfl⟩
theorem d0_144 : Dc code 144 (.aload 6) 2 146 := ⟨at_144, rfl⟩
theorem d0_146 : Dc code 146 (.aload 10) 2 148 := ⟨at_146, rfl⟩
theorem d0_148 : Dc code 148 (.invokespecial 21) 3 151 := ⟨at_148, rfl⟩
theorem d0_151 : Dc code 151 (.astore 11) 2 153 := ⟨at_151, rfl⟩
theorem d0_153 : Dc code 153 (.iload 5) 2 155 := ⟨at_153, rfl⟩
theorem d0_155 : Dj code 155 (.ifCond .eq) 158 162 := ⟨7, at_155, rfl, by decide, by decide⟩
theorem d0_158 : Dc code 158 (.iconst 1) 1 159 := ⟨at_158, rfl⟩
theorem d0_159 : Dj code 159 .goto 162 163 := ⟨4, at_159, rfl, by decide, by decide⟩
theorem d0_162 : Dc code 162 (.iconst 0) 1 163 := ⟨at_162, rfl⟩
theorem d0_163 : Dc code 163 (.istore 12) 2 165 := ⟨at_163, rfl⟩
theorem d0_165 : Dc code 165 (.aload 11) 2 167 := ⟨at_165, rfl⟩
theorem d0_167 : Dc code 167 (.invokevirtual 24) 3 170 := ⟨at_167, rfl⟩
theorem d0_170 : Dc code 170 (.iload 12) 2 172 := ⟨at_170, rfl⟩
theorem d0_172 : Dj code 172 (.if_icmp .ne) 175 179 := ⟨7, at_172, rfl, by decide, by decide⟩
theorem d0_175 : Dc code 175 (.iconst 1) 1 176 := ⟨at_175, rfl⟩
theorem d0_176 : Dj code 176 .goto 179 180 := ⟨4, at_176, rfl, by decide, by decide⟩
theorem d0_180 : Dc code 180 .ireturn 1 181 := ⟨at_180, rfl⟩
theorem d1_0 : Dc jdk_42_method_3_code 0 (.aload_n 0) 1 1 := ⟨by decide +kernel, rfl⟩
theorem d1_1 : Dc jdk_42_method_3_code 1 (.aload_n 1) 1 2 := ⟨by decide +kernel, rfl⟩
theorem d1_2 : Dc jdk_42_method_3_code 2 (.iconst 0) 1 3 := ⟨by decide +kernel, rfl⟩
theorem d1_3 : Dc jdk_42_method_3_code 3 (.aload_n 1) 1 4 := ⟨by decide +kernel, rfl⟩
theorem d1_4 : Dc jdk_42_method_3_code 4 .arraylength 1 5 := ⟨by decide +kernel, rfl⟩
theorem d1_5 : Dc jdk_42_method_3_code 5 .aconst_null 1 6 := ⟨by decide +kernel, rfl⟩
theorem d1_6 : Dc jdk_42_method_3_code 6 (.invokespecial 27) 3 9 := ⟨by decide +kernel, rfl⟩
theorem d1_9 : Dc jdk_42_method_3_code 9 .return_ 1 10 := ⟨by decide +kernel, rfl⟩
theorem d2_0 : Dc jdk_42_method_149_code 0 (.aload_n 0) 1 1 := ⟨by decide +kernel, rfl⟩
theorem d2_1 : Dc jdk_42_method_149_code 1 (.invokespecial 1) 3 4 := ⟨by decide +kernel, rfl⟩
theorem d2_4 : Dc jdk_42_method_149_code 4 (.iload_n 3) 1 5 := ⟨by decide +kernel, rfl⟩
theorem d2_5 : Dj jdk_42_method_149_code 5 (.ifCond .ne) 8 27 := ⟨22, by decide +kernel, rfl, by decide, by decide⟩
theorem d2_27 : Dc jdk_42_method_149_code 27 (.getstatic 38) 3 30 := ⟨by decide +kernel, rfl⟩
theorem d2_30 : Dj jdk_42_method_149_code 30 (.ifCond .eq) 33 58 := ⟨28, by decide +kernel, rfl, by decide, by decide⟩
theorem d2_33 : Dc jdk_42_method_149_code 33 (.aload_n 1) 1 34 := ⟨by decide +kernel, rfl⟩
theorem d2_34 : Dc jdk_42_method_149_code 34 (.iload_n 2) 1 35 := ⟨by decide +kernel, rfl⟩
theorem d2_35 : Dc jdk_42_method_149_code 35 (.iload_n 3) 1 36 := ⟨by decide +kernel, rfl⟩
theorem d2_36 : Dc jdk_42_method_149_code 36 (.invokestatic 177) 3 39 := ⟨by decide +kernel, rfl⟩
theorem d2_39 : Dc jdk_42_method_149_code 39 (.astore 5) 2 41 := ⟨by decide +kernel, rfl⟩
theorem d2_41 : Dc jdk_42_method_149_code 41 (.aload_n 0) 1 42 := ⟨by decide +kernel, rfl⟩
theorem d2_42 : Dc jdk_42_method_149_code 42 (.aload 5) 2 44 := ⟨by decide +kernel, rfl⟩
theorem d2_44 : Dc jdk_42_method_149_code 44 (.iload_n 3) 1 45 := ⟨by decide +kernel, rfl⟩
theorem d2_45 : Dc jdk_42_method_149_code 45 (.invokestatic 47) 3 48 := ⟨by decide +kernel, rfl⟩
theorem d2_48 : Dc jdk_42_method_149_code 48 (.putfield 15) 3 51 := ⟨by decide +kernel, rfl⟩
theorem d2_51 : Dc jdk_42_method_149_code 51 (.aload_n 0) 1 52 := ⟨by decide +kernel, rfl⟩
theorem d2_52 : Dc jdk_42_method_149_code 52 (.aload 5) 2 54 := ⟨by decide +kernel, rfl⟩
theorem d2_54 : Dc jdk_42_method_149_code 54 (.putfield 9) 3 57 := ⟨by decide +kernel, rfl⟩
theorem d2_57 : Dc jdk_42_method_149_code 57 .return_ 1 58 := ⟨by decide +kernel, rfl⟩
theorem d4_0 : Dc jdk_52_method_16_code 0 (.iload_n 2) 1 1 := ⟨by decide +kernel, rfl⟩
theorem d4_1 : Dc jdk_52_method_16_code 1 (.newarray .byte) 2 3 := ⟨by decide +kernel, rfl⟩
theorem d4_3 : Dc jdk_52_method_16_code 3 (.astore_n 3) 1 4 := ⟨by decide +kernel, rfl⟩
theorem d4_4 : Dc jdk_52_method_16_code 4 (.aload_n 0) 1 5 := ⟨by decide +kernel, rfl⟩
theorem d4_5 : Dc jdk_52_method_16_code 5 (.iload_n 1) 1 6 := ⟨by decide +kernel, rfl⟩
theorem d4_6 : Dc jdk_52_method_16_code 6 (.aload_n 3) 1 7 := ⟨by decide +kernel, rfl⟩
theorem d4_7 : Dc jdk_52_method_16_code 7 (.iconst 0) 1 8 := ⟨by decide +kernel, rfl⟩
theorem d4_8 : Dc jdk_52_method_16_code 8 (.iload_n 2) 1 9 := ⟨by decide +kernel, rfl⟩
theorem d4_9 : Dc jdk_52_method_16_code 9 (.invokestatic 115) 3 12 := ⟨by decide +kernel, rfl⟩
theorem d4_12 : Dc jdk_52_method_16_code 12 (.istore 4) 2 14 := ⟨by decide +kernel, rfl⟩
theorem d4_14 : Dc jdk_52_method_16_code 14 (.iload 4) 2 16 := ⟨by decide +kernel, rfl⟩
theorem d4_16 : Dc jdk_52_method_16_code 16 (.iload_n 2) 1 17 := ⟨by decide +kernel, rfl⟩
theorem d4_17 : Dj jdk_52_method_16_code 17 (.if_icmp .eq) 20 57 := ⟨40, by decide +kernel, rfl, by decide, by decide⟩
theorem d4_57 : Dc jdk_52_method_16_code 57 (.aload_n 3) 1 58 := ⟨by decide +kernel, rfl⟩
theorem d4_58 : Dc jdk_52_method_16_code 58 .areturn 1 59 := ⟨by decide +kernel, rfl⟩
theorem d5_0 : Dc jdk_52_method_21_code 0 (.iconst 0) 1 1 := ⟨by decide +kernel, rfl⟩
theorem d5_1 : Dc jdk_52_method_21_code 1 (.istore 5) 2 3 := ⟨by decide +kernel, rfl⟩
theorem d5_3 : Dc jdk_52_method_21_code 3 (.iload 5) 2 5 := ⟨by decide +kernel, rfl⟩
theorem d5_5 : Dc jdk_52_method_21_code 5 (.iload 4) 2 7 := ⟨by decide +kernel, rfl⟩
theorem d5_7 : Dj jdk_52_method_21_code 7 (.if_icmp .ge) 10 44 := ⟨37, by decide +kernel, rfl, by decide, by decide⟩
theorem d5_10 : Dc jdk_52_method_21_code 10 (.aload_n 0) 1 11 := ⟨by decide +kernel, rfl⟩
theorem d5_11 : Dc jdk_52_method_21_code 11 (.iload_n 1) 1 12 := ⟨by decide +kernel, rfl⟩
theorem d5_12 : Dc jdk_52_method_21_code 12 .caload 1 13 := ⟨by decide +kernel, rfl⟩
theorem d5_13 : Dc jdk_52_method_21_code 13 (.istore 6) 2 15 := ⟨by decide +kernel, rfl⟩
theorem d5_15 : Dc jdk_52_method_21_code 15 (.iload 6) 2 17 := ⟨by decide +kernel, rfl⟩
theorem d5_17 : Dc jdk_52_method_21_code 17 (.sipush 255) 3 20 := ⟨by decide +kernel, rfl⟩
theorem d5_20 : Dj jdk_52_method_21_code 20 (.if_icmp .le) 23 26 := ⟨6, by decide +kernel, rfl, by decide, by decide⟩
theorem d5_26 : Dc jdk_52_method_21_code 26 (.aload_n 2) 1 27 := ⟨by decide +kernel, rfl⟩
theorem d5_27 : Dc jdk_52_method_21_code 27 (.iload_n 3) 1 28 := ⟨by decide +kernel, rfl⟩
theorem d5_28 : Dc jdk_52_method_21_code 28 (.iload 6) 2 30 := ⟨by decide +kernel, rfl⟩
theorem d5_30 : Dc jdk_52_method_21_code 30 .i2b 1 31 := ⟨by decide +kernel, rfl⟩
theorem d5_31 : Dc jdk_52_method_21_code 31 .bastore 1 32 := ⟨by decide +kernel, rfl⟩
theorem d5_32 : Dc jdk_52_method_21_code 32 (.iinc 1 1) 3 35 := ⟨by decide +kernel, rfl⟩
theorem d5_35 : Dc jdk_52_method_21_code 35 (.iinc 3 1) 3 38 := ⟨by decide +kernel, rfl⟩
theorem d5_38 : Dc jdk_52_method_21_code 38 (.iinc 5 1) 3 41 := ⟨by decide +kernel, rfl⟩
theorem d5_41 : Dj jdk_52_method_21_code 41 .goto 44 3 := ⟨(-38), by decide +kernel, rfl, by decide, by decide⟩
theorem d5_44 : Dc jdk_52_method_21_code 44 (.iload 4) 2 46 := ⟨by decide +kernel, rfl⟩
theorem d5_46 : Dc jdk_52_method_21_code 46 .ireturn 1 47 := ⟨by decide +kernel, rfl⟩
theorem d6_0 : Dc jdk_52_method_15_code 0 (.iload_n 1) 1 1 := ⟨by decide +kernel, rfl⟩
theorem d6_1 : Dc jdk_52_method_15_code 1 (.aload_n 0) 1 2 := ⟨by decide +kernel, rfl⟩
theorem d6_2 : Dc jdk_52_method_15_code 2 .arraylength 1 3 := ⟨by decide +kernel, rfl⟩
theorem d6_3 : Dc jdk_52_method_15_code 3 .isub 1 4 := ⟨by decide +kernel, rfl⟩
theorem d6_4 : Dc jdk_52_method_15_code 4 (.bipush 31) 2 6 := ⟨by decide +kernel, rfl⟩
theorem d6_6 : Dc jdk_52_method_15_code 6 .iushr 1 7 := ⟨by decide +kernel, rfl⟩
theorem d6_7 : Dc jdk_52_method_15_code 7 .i2b 1 8 := ⟨by decide +kernel, rfl⟩
theorem d6_8 : Dc jdk_52_method_15_code 8 .ireturn 1 9 := ⟨by decide +kernel, rfl⟩
theorem d7_0 : Dc jdk_38_method_2_code 0 (.aload_n 0) 1 1 := ⟨by decide +kernel, rfl⟩
theorem d7_1 : Dc jdk_38_method_2_code 1 (.invokespecial 1) 3 4 := ⟨by decide +kernel, rfl⟩
theorem d7_4 : Dc jdk_38_method_2_code 4 (.aload_n 0) 1 5 := ⟨by decide +kernel, rfl⟩
theorem d7_5 : Dc jdk_38_method_2_code 5 (.getstatic 39) 3 8 := ⟨by decide +kernel, rfl⟩
theorem d7_8 : Dc jdk_38_method_2_code 8 (.putfield 9) 3 11 := ⟨by decide +kernel, rfl⟩
theorem d7_11 : Dc jdk_38_method_2_code 11 .return_ 1 12 := ⟨by decide +kernel, rfl⟩
theorem d8_0 : Dc jdk_39_method_1_code 0 (.aload_n 0) 1 1 := ⟨by decide +kernel, rfl⟩
theorem d8_1 : Dc jdk_39_method_1_code 1 (.invokespecial 1) 3 4 := ⟨by decide +kernel, rfl⟩
theorem d8_4 : Dc jdk_39_method_1_code 4 (.aload_n 0) 1 5 := ⟨by decide +kernel, rfl⟩
theorem d8_5 : Dc jdk_39_method_1_code 5 (.iconst 0) 1 6 := ⟨by decide +kernel, rfl⟩
theorem d8_6 : Dc jdk_39_method_1_code 6 (.putfield 7) 3 9 := ⟨by decide +kernel, rfl⟩
theorem d8_9 : Dc jdk_39_method_1_code 9 .return_ 1 10 := ⟨by decide +kernel, rfl⟩
theorem d9_0 : Dc jdk_22_method_1_code 0 (.aload_n 0) 1 1 := ⟨by decide +kernel, rfl⟩
theorem d9_1 : Dc jdk_22_method_1_code 1 (.invokespecial 1) 3 4 := ⟨by decide +kernel, rfl⟩
theorem d9_4 : Dc jdk_22_method_1_code 4 .return_ 1 5 := ⟨by decide +kernel, rfl⟩
theorem d10_0 : Dc prog_8_method_1_code 0 (.aload_n 0) 1 1 := ⟨by decide +kernel, rfl⟩
theorem d10_1 : Dc prog_8_method_1_code 1 (.invokespecial 1) 3 4 := ⟨by decide +kernel, rfl⟩
theorem d10_4 : Dc prog_8_method_1_code 4 (.aload_n 0) 1 5 := ⟨by decide +kernel, rfl⟩
theorem d10_5 : Dc prog_8_method_1_code 5 (.aload_n 1) 1 6 := ⟨by decide +kernel, rfl⟩
theorem d10_6 : Dc prog_8_method_1_code 6 (.putfield 7) 3 9 := ⟨by decide +kernel, rfl⟩
theorem d10_9 : Dc prog_8_method_1_code 9 (.aload_n 0) 1 10 := ⟨by decide +kernel, rfl⟩
theorem d10_10 : Dc prog_8_method_1_code 10 (.aload_n 2) 1 11 := ⟨by decide +kernel, rfl⟩
theorem d10_11 : Dc prog_8_method_1_code 11 (.invokestatic 13) 3 14 := ⟨by decide +kernel, rfl⟩
theorem d10_14 : Dc prog_8_method_1_code 14 (.putfield 19) 3 17 := ⟨by decide +kernel, rfl⟩
theorem d10_17 : Dc prog_8_method_1_code 17 .return_ 1 18 := ⟨by decide +kernel, rfl⟩
theorem d11_0 : Dc jdk_40_method_48_code 0 (.aload_n 0) 1 1 := ⟨by decide +kernel, rfl⟩
theorem d11_1 : Dc jdk_40_method_48_code 1 (.invokestatic 112) 3 4 := ⟨by decide +kernel, rfl⟩
theorem d11_4 : Dc jdk_40_method_48_code 4 .areturn 1 5 := ⟨by decide +kernel, rfl⟩
theorem d12_0 : Dc jdk_56_method_3_code 0 (.aload_n 0) 1 1 := ⟨by decide +kernel, rfl⟩
theorem d12_1 : Dc jdk_56_method_3_code 1 (.instanceof 10) 3 4 := ⟨by decide +kernel, rfl⟩
theorem d12_4 : Dj jdk_56_method_3_code 4 (.ifCond .ne) 7 26 := ⟨22, by decide +kernel, rfl, by decide, by decide⟩
theorem d12_7 : Dc jdk_56_method_3_code 7 (.aload_n 0) 1 8 := ⟨by decide +kernel, rfl⟩
theorem d12_8 : Dc jdk_56_method_3_code 8 (.instanceof 12) 3 11 := ⟨by decide +kernel, rfl⟩
theorem d12_11 : Dj jdk_56_method_3_code 11 (.ifCond .eq) 14 31 := ⟨20, by decide +kernel, rfl, by decide, by decide⟩
theorem d12_31 : Dc jdk_56_method_3_code 31 (.aload_n 0) 1 32 := ⟨by decide +kernel, rfl⟩
theorem d12_32 : Dc jdk_56_method_3_code 32 (.invokeinterface 20 1) 5 37 := ⟨by decide +kernel, rfl⟩
theorem d12_37 : Dj jdk_56_method_3_code 37 (.ifCond .eq) 40 44 := ⟨7, by decide +kernel, rfl, by decide, by decide⟩
theorem d12_40 : Dc jdk_56_method_3_code 40 (.invokestatic 26) 3 43 := ⟨by decide +kernel, rfl⟩
theorem d12_43 : Dc jdk_56_method_3_code 43 .areturn 1 44 := ⟨by decide +kernel, rfl⟩
theorem d12_44 : Dc jdk_56_method_3_code 44 (.aload_n 0) 1 45 := ⟨by decide +kernel, rfl⟩
theorem d12_45 : Dc jdk_56_method_3_code 45 (.invokeinterface 30 1) 5 50 := ⟨by decide +kernel, rfl⟩
theorem d12_50 : Dc jdk_56_method_3_code 50 (.invokestatic 34) 3 53 := ⟨by decide +kernel, rfl⟩
theorem d12_53 : Dc jdk_56_method_3_code 53 .areturn 1 54 := ⟨by decide +kernel, rfl⟩
theorem d13_0 : Dc jdk_38_method_9_code 0 (.aload_n 0) 1 1 := ⟨by decide +kernel, rfl⟩
theorem d13_1 : Dc jdk_38_method_9_code 1 (.getfield 48) 3 4 := ⟨by decide +kernel, rfl⟩
theorem d13_4 : Dj jdk_38_method_9_code 4 (.ifCond .ne) 7 11 := ⟨7, by decide +kernel, rfl, by decide, by decide⟩
theorem d13_7 : Dc jdk_38_method_9_code 7 (.iconst 1) 1 8 := ⟨by decide +kernel, rfl⟩
theorem d13_8 : Dj jdk_38_method_9_code 8 .goto 11 12 := ⟨4, by decide +kernel, rfl, by decide, by decide⟩
theorem d13_11 : Dc jdk_38_method_9_code 11 (.iconst 0) 1 12 := ⟨by decide +kernel, rfl⟩
theorem d13_12 : Dc jdk_38_method_9_code 12 .ireturn 1 13 := ⟨by decide +kernel, rfl⟩
theorem d14_0 : Dc jdk_40_method_36_code 0 (.getstatic 90) 3 3 := ⟨by decide +kernel, rfl⟩
theorem d14_3 : Dc jdk_40_method_36_code 3 .areturn 1 4 := ⟨by decide +kernel, rfl⟩
theorem d15_0 : Dc prog_8_method_4_code 0 (.aload_n 0) 1 1 := ⟨by decide +kernel, rfl⟩
theorem d15_1 : Dc prog_8_method_4_code 1 (.getfield 19) 3 4 := ⟨by decide +kernel, rfl⟩
theorem d15_4 : Dc prog_8_method_4_code 4 (.invokeinterface 23 1) 5 9 := ⟨by decide +kernel, rfl⟩
theorem d15_9 : Dj prog_8_method_4_code 9 (.ifCond .ne) 12 16 := ⟨7, by decide +kernel, rfl, by decide, by decide⟩
theorem d15_12 : Dc prog_8_method_4_code 12 (.iconst 1) 1 13 := ⟨by decide +kernel, rfl⟩
theorem d15_13 : Dj prog_8_method_4_code 13 .goto 16 17 := ⟨4, by decide +kernel, rfl, by decide, by decide⟩
theorem d15_16 : Dc prog_8_method_4_code 16 (.iconst 0) 1 17 := ⟨by decide +kernel, rfl⟩
theorem d15_17 : Dc prog_8_method_4_code 17 .ireturn 1 18 := ⟨by decide +kernel, rfl⟩
theorem d16_0 : Dc jdk_45_method_2_code 0 (.aload_n 0) 1 1 := ⟨by decide +kernel, rfl⟩
theorem d16_1 : Dc jdk_45_method_2_code 1 (.getfield 7) 3 4 := ⟨by decide +kernel, rfl⟩
theorem d16_4 : Dc jdk_45_method_2_code 4 .arraylength 1 5 := ⟨by decide +kernel, rfl⟩
theorem d16_5 : Dj jdk_45_method_2_code 5 (.ifCond .ne) 8 12 := ⟨7, by decide +kernel, rfl, by decide, by decide⟩
theorem d16_8 : Dc jdk_45_method_2_code 8 (.iconst 1) 1 9 := ⟨by decide +kernel, rfl⟩
theorem d16_9 : Dj jdk_45_method_2_code 9 .goto 12 13 := ⟨4, by decide +kernel, rfl, by decide, by decide⟩
theorem d16_12 : Dc jdk_45_method_2_code 12 (.iconst 0) 1 13 := ⟨by decide +kernel, rfl⟩
theorem d16_13 : Dc jdk_45_method_2_code 13 .ireturn 1 14 := ⟨by decide +kernel, rfl⟩
theorem d17_0 : Dc jdk_38_method_25_code 0 (.aload_n 0) 1 1 := ⟨by decide +kernel, rfl⟩
theorem d17_1 : Dc jdk_38_method_25_code 1 .dup 1 2 := ⟨by decide +kernel, rfl⟩
theorem d17_2 : Dc jdk_38_method_25_code 2 (.getfield 63) 3 5 := ⟨by decide +kernel, rfl⟩
theorem d17_5 : Dc jdk_38_method_25_code 5 (.iconst 1) 1 6 := ⟨by decide +kernel, rfl⟩
theorem d17_6 : Dc jdk_38_method_25_code 6 .iadd 1 7 := ⟨by decide +kernel, rfl⟩
theorem d17_7 : Dc jdk_38_method_25_code 7 (.putfield 63) 3 10 := ⟨by decide +kernel, rfl⟩
theorem d17_10 : Dc jdk_38_method_25_code 10 (.aload_n 0) 1 11 := ⟨by decide +kernel, rfl⟩
theorem d17_11 : Dc jdk_38_method_25_code 11 (.aload_n 1) 1 12 := ⟨by decide +kernel, rfl⟩
theorem d17_12 : Dc jdk_38_method_25_code 12 (.aload_n 0) 1 13 := ⟨by decide +kernel, rfl⟩
theorem d17_13 : Dc jdk_38_method_25_code 13 (.getfield 9) 3 16 := ⟨by decide +kernel, rfl⟩
theorem d17_16 : Dc jdk_38_method_25_code 16 (.aload_n 0) 1 17 := ⟨by decide +kernel, rfl⟩
theorem d17_17 : Dc jdk_38_method_25_code 17 (.getfield 48) 3 20 := ⟨by decide +kernel, rfl⟩
theorem d17_20 : Dc jdk_38_method_25_code 20 (.invokevirtual 131) 3 23 := ⟨by decide +kernel, rfl⟩
theorem d17_23 : Dc jdk_38_method_25_code 23 (.iconst 1) 1 24 := ⟨by decide +kernel, rfl⟩
theorem d17_24 : Dc jdk_38_method_25_code 24 .ireturn 1 25 := ⟨by decide +kernel, rfl⟩
theorem d18_0 : Dc jdk_38_method_24_code 0 (.iload_n 3) 1 1 := ⟨by decide +kernel, rfl⟩
theorem d18_1 : Dc jdk_38_method_24_code 1 (.aload_n 2) 1 2 := ⟨by decide +kernel, rfl⟩
theorem d18_2 : Dc jdk_38_method_24_code 2 .arraylength 1 3 := ⟨by decide +kernel, rfl⟩
theorem d18_3 : Dj jdk_38_method_24_code 3 (.if_icmp .ne) 6 11 := ⟨8, by decide +kernel, rfl, by decide, by decide⟩
theorem d18_6 : Dc jdk_38_method_24_code 6 (.aload_n 0) 1 7 := ⟨by decide +kernel, rfl⟩
theorem d18_7 : Dc jdk_38_method_24_code 7 (.invokevirtual 129) 3 10 := ⟨by decide +kernel, rfl⟩
theorem d18_10 : Dc jdk_38_method_24_code 10 (.astore_n 2) 1 11 := ⟨by decide +kernel, rfl⟩
theorem d18_11 : Dc jdk_38_method_24_code 11 (.aload_n 2) 1 12 := ⟨by decide +kernel, rfl⟩
theorem d18_12 : Dc jdk_38_method_24_code 12 (.iload_n 3) 1 13 := ⟨by decide +kernel, rfl⟩
theorem d18_13 : Dc jdk_38_method_24_code 13 (.aload_n 1) 1 14 := ⟨by decide +kernel, rfl⟩
theorem d18_14 : Dc jdk_38_method_24_code 14 .aastore 1 15 := ⟨by decide +kernel, rfl⟩
theorem d18_15 : Dc jdk_38_method_24_code 15 (.aload_n 0) 1 16 := ⟨by decide +kernel, rfl⟩
theorem d18_16 : Dc jdk_38_method_24_code 16 (.iload_n 3) 1 17 := ⟨by decide +kernel, rfl⟩
theorem d18_17 : Dc jdk_38_method_24_code 17 (.iconst 1) 1 18 := ⟨by decide +kernel, rfl⟩
theorem d18_18 : Dc jdk_38_method_24_code 18 .iadd 1 19 := ⟨by decide +kernel, rfl⟩
theorem d18_19 : Dc jdk_38_method_24_code 19 (.putfield 48) 3 22 := ⟨by decide +kernel, rfl⟩
theorem d18_22 : Dc jdk_38_method_24_code 22 .return_ 1 23 := ⟨by decide +kernel, rfl⟩
theorem d19_0 : Dc jdk_38_method_7_code 0 (.aload_n 0) 1 1 := ⟨by decide +kernel, rfl⟩
theorem d19_1 : Dc jdk_38_method_7_code 1 (.aload_n 0) 1 2 := ⟨by decide +kernel, rfl⟩
theorem d19_2 : Dc jdk_38_method_7_code 2 (.getfield 48) 3 5 := ⟨by decide +kernel, rfl⟩
theorem d19_5 : Dc jdk_38_method_7_code 5 (.iconst 1) 1 6 := ⟨by decide +kernel, rfl⟩
theorem d19_6 : Dc jdk_38_method_7_code 6 .iadd 1 7 := ⟨by decide +kernel, rfl⟩
theorem d19_7 : Dc jdk_38_method_7_code 7 (.invokevirtual 69) 3 10 := ⟨by decide +kernel, rfl⟩
theorem d19_10 : Dc jdk_38_method_7_code 10 .areturn 1 11 := ⟨by decide +kernel, rfl⟩
theorem d20_0 : Dc jdk_38_method_6_code 0 (.aload_n 0) 1 1 := ⟨by decide +kernel, rfl⟩
theorem d20_1 : Dc jdk_38_method_6_code 1 (.getfield 9) 3 4 := ⟨by decide +kernel, rfl⟩
theorem d20_4 : Dc jdk_38_method_6_code 4 .arraylength 1 5 := ⟨by decide +kernel, rfl⟩
theorem d20_5 : Dc jdk_38_method_6_code 5 (.istore_n 2) 1 6 := ⟨by decide +kernel, rfl⟩
theorem d20_6 : Dc jdk_38_method_6_code 6 (.iload_n 2) 1 7 := ⟨by decide +kernel, rfl⟩
theorem d20_7 : Dj jdk_38_method_6_code 7 (.ifCond .gt) 10 20 := ⟨13, by decide +kernel, rfl, by decide, by decide⟩
theorem d20_10 : Dc jdk_38_method_6_code 10 (.aload_n 0) 1 11 := ⟨by decide +kernel, rfl⟩
theorem d20_11 : Dc jdk_38_method_6_code 11 (.getfield 9) 3 14 := ⟨by decide +kernel, rfl⟩
theorem d20_14 : Dc jdk_38_method_6_code 14 (.getstatic 39) 3 17 := ⟨by decide +kernel, rfl⟩
theorem d20_17 : Dj jdk_38_method_6_code 17 (.if_acmp .eq) 20 45 := ⟨28, by decide +kernel, rfl, by decide, by decide⟩
theorem d20_45 : Dc jdk_38_method_6_code 45 (.aload_n 0) 1 46 := ⟨by decide +kernel, rfl⟩
theorem d20_46 : Dc jdk_38_method_6_code 46 (.bipush 10) 2 48 := ⟨by decide +kernel, rfl⟩
theorem d20_48 : Dc jdk_38_method_6_code 48 (.iload_n 1) 1 49 := ⟨by decide +kernel, rfl⟩
theorem d20_49 : Dc jdk_38_method_6_code 49 (.invokestatic 79) 3 52 := ⟨by decide +kernel, rfl⟩
theorem d20_52 : Dc jdk_38_method_6_code 52 (.anewarray 7) 3 55 := ⟨by decide +kernel, rfl⟩
theorem d20_55 : Dc jdk_38_method_6_code 55 .dup_x1 1 56 := ⟨by decide +kernel, rfl⟩
theorem d20_56 : Dc jdk_38_method_6_code 56 (.putfield 9) 3 59 := ⟨by decide +kernel, rfl⟩
theorem d20_59 : Dc jdk_38_method_6_code 59 .areturn 1 60 := ⟨by decide +kernel, rfl⟩
theorem d21_0 : Dc jdk_29_method_65_code 0 (.iload_n 0) 1 1 := ⟨by decide +kernel, rfl⟩
theorem d21_1 : Dc jdk_29_method_65_code 1 (.iload_n 1) 1 2 := ⟨by decide +kernel, rfl⟩
theorem d21_2 : Dj jdk_29_method_65_code 2 (.if_icmp .lt) 5 9 := ⟨7, by decide +kernel, rfl, by decide, by decide⟩
theorem d21_5 : Dc jdk_29_method_65_code 5 (.iload_n 0) 1 6 := ⟨by decide +kernel, rfl⟩
theorem d21_6 : Dj jdk_29_method_65_code 6 .goto 9 10 := ⟨4, by decide +kernel, rfl, by decide, by decide⟩
theorem d21_10 : Dc jdk_29_method_65_code 10 .ireturn 1 11 := ⟨by decide +kernel, rfl⟩
theorem d22_0 : Dc jdk_38_method_16_code 0 (.aload_n 0) 1 1 := ⟨by decide +kernel, rfl⟩
theorem d22_1 : Dc jdk_38_method_16_code 1 (.getfield 9) 3 4 := ⟨by decide +kernel, rfl⟩
theorem d22_4 : Dc jdk_38_method_16_code 4 (.aload_n 0) 1 5 := ⟨by decide +kernel, rfl⟩
theorem d22_5 : Dc jdk_38_method_16_code 5 (.getfield 48) 3 8 := ⟨by decide +kernel, rfl⟩
theorem d22_8 : Dc jdk_38_method_16_code 8 (.invokestatic 66) 3 11 := ⟨by decide +kernel, rfl⟩
theorem d22_11 : Dc jdk_38_method_16_code 11 .areturn 1 12 := ⟨by decide +kernel, rfl⟩
theorem d23_0 : Dc jdk_65_method_119_code 0 (.aload_n 0) 1 1 := ⟨by decide +kernel, rfl⟩
theorem d23_1 : Dc jdk_65_method_119_code 1 (.iload_n 1) 1 2 := ⟨by decide +kernel, rfl⟩
theorem d23_2 : Dc jdk_65_method_119_code 2 (.aload_n 0) 1 3 := ⟨by decide +kernel, rfl⟩
theorem d23_3 : Dc jdk_65_method_119_code 3 (.invokevirtual 86) 3 6 := ⟨by decide +kernel, rfl⟩
theorem d23_6 : Dc jdk_65_method_119_code 6 (.invokestatic 300) 3 9 := ⟨by decide +kernel, rfl⟩
theorem d23_9 : Dc jdk_65_method_119_code 9 .areturn 1 10 := ⟨by decide +kernel, rfl⟩
theorem d24_0 : Dc jdk_65_method_120_code 0 (.aload_n 2) 1 1 := ⟨by decide +kernel, rfl⟩
theorem d24_1 : Dc jdk_65_method_120_code 1 (.ldc 110) 2 3 := ⟨by decide +kernel, rfl⟩
theorem d24_3 : Dj jdk_65_method_120_code 3 (.if_acmp .ne) 6 13 := ⟨10, by decide +kernel, rfl, by decide, by decide⟩
theorem d24_6 : Dc jdk_65_method_120_code 6 (.iload_n 1) 1 7 := ⟨by decide +kernel, rfl⟩
theorem d24_7 : Dc jdk_65_method_120_code 7 (.anewarray 2) 3 10 := ⟨by decide +kernel, rfl⟩
theorem d24_10 : Dj jdk_65_method_120_code 10 .goto 13 24 := ⟨14, by decide +kernel, rfl, by decide, by decide⟩
theorem d24_24 : Dc jdk_65_method_120_code 24 (.astore_n 3) 1 25 := ⟨by decide +kernel, rfl⟩
theorem d24_25 : Dc jdk_65_method_120_code 25 (.aload_n 0) 1 26 := ⟨by decide +kernel, rfl⟩
theorem d24_26 : Dc jdk_65_method_120_code 26 (.iconst 0) 1 27 := ⟨by decide +kernel, rfl⟩
theorem d24_27 : Dc jdk_65_method_120_code 27 (.aload_n 3) 1 28 := ⟨by decide +kernel, rfl⟩
theorem d24_28 : Dc jdk_65_method_120_code 28 (.iconst 0) 1 29 := ⟨by decide +kernel, rfl⟩
theorem d24_29 : Dc jdk_65_method_120_code 29 (.aload_n 0) 1 30 := ⟨by decide +kernel, rfl⟩
theorem d24_30 : Dc jdk_65_method_120_code 30 .arraylength 1 31 := ⟨by decide +kernel, rfl⟩
theorem d24_31 : Dc jdk_65_method_120_code 31 (.iload_n 1) 1 32 := ⟨by decide +kernel, rfl⟩
theorem d24_32 : Dc jdk_65_method_120_code 32 (.invokestatic 304) 3 35 := ⟨by decide +kernel, rfl⟩
theorem d24_35 : Dc jdk_65_method_120_code 35 (.invokestatic 150) 3 38 := ⟨by decide +kernel, rfl⟩
theorem d24_38 : Dc jdk_65_method_120_code 38 (.aload_n 3) 1 39 := ⟨by decide +kernel, rfl⟩
theorem d24_39 : Dc jdk_65_method_120_code 39 .areturn 1 40 := ⟨by decide +kernel, rfl⟩
theorem d25_0 : Dc jdk_29_method_69_code 0 (.iload_n 0) 1 1 := ⟨by decide +kernel, rfl⟩
theorem d25_1 : Dc jdk_29_method_69_code 1 (.iload_n 1) 1 2 := ⟨by decide +kernel, rfl⟩
theorem d25_2 : Dj jdk_29_method_69_code 2 (.if_icmp .gt) 5 9 := ⟨7, by decide +kernel, rfl, by decide, by decide⟩
theorem d25_5 : Dc jdk_29_method_69_code 5 (.iload_n 0) 1 6 := ⟨by decide +kernel, rfl⟩
theorem d25_6 : Dj jdk_29_method_69_code 6 .goto 9 10 := ⟨4, by decide +kernel, rfl, by decide, by decide⟩
theorem d25_9 : Dc jdk_29_method_69_code 9 (.iload_n 1) 1 10 := ⟨by decide +kernel, rfl⟩
theorem d25_10 : Dc jdk_29_method_69_code 10 .ireturn 1 11 := ⟨by decide +kernel, rfl⟩
theorem d26_0 : Dc jdk_40_method_47_code 0 (.aload_n 0) 1 1 := ⟨by decide +kernel, rfl⟩
theorem d26_1 : Dc jdk_40_method_47_code 1 .arraylength 1 2 := ⟨by decide +kernel, rfl⟩
theorem d26_2 : Dc jdk_40_method_47_code 2 (.tableswitch 57 0 2 #[26, 32, 43]) 26 28 := ⟨by decide +kernel, rfl⟩
theorem d26_34 : Dc jdk_40_method_47_code 34 (.new 96) 3 37 := ⟨by decide +kernel, rfl⟩
theorem d26_37 : Dc jdk_40_method_47_code 37 .dup 1 38 := ⟨by decide +kernel, rfl⟩
theorem d26_38 : Dc jdk_40_method_47_code 38 (.aload_n 0) 1 39 := ⟨by decide +kernel, rfl⟩
theorem d26_39 : Dc jdk_40_method_47_code 39 (.iconst 0) 1 40 := ⟨by decide +kernel, rfl⟩
theorem d26_40 : Dc jdk_40_method_47_code 40 .aaload 1 41 := ⟨by decide +kernel, rfl⟩
theorem d26_41 : Dc jdk_40_method_47_code 41 (.invokespecial 98) 3 44 := ⟨by decide +kernel, rfl⟩
theorem d26_44 : Dc jdk_40_method_47_code 44 .areturn 1 45 := ⟨by decide +kernel, rfl⟩
theorem d26_45 : Dc jdk_40_method_47_code 45 (.new 96) 3 48 := ⟨by decide +kernel, rfl⟩
theorem d26_48 : Dc jdk_40_method_47_code 48 .dup 1 49 := ⟨by decide +kernel, rfl⟩
theorem d26_49 : Dc jdk_40_method_47_code 49 (.aload_n 0) 1 50 := ⟨by decide +kernel, rfl⟩
theorem d26_50 : Dc jdk_40_method_47_code 50 (.iconst 0) 1 51 := ⟨by decide +kernel, rfl⟩
theorem d26_51 : Dc jdk_40_method_47_code 51 .aaload 1 52 := ⟨by decide +kernel, rfl⟩
theorem d26_52 : Dc jdk_40_method_47_code 52 (.aload_n 0) 1 53 := ⟨by decide +kernel, rfl⟩
theorem d26_53 : Dc jdk_40_method_47_code 53 (.iconst 1) 1 54 := ⟨by decide +kernel, rfl⟩
theorem d26_54 : Dc jdk_40_method_47_code 54 .aaload 1 55 := ⟨by decide +kernel, rfl⟩
theorem d26_55 : Dc jdk_40_method_47_code 55 (.invokespecial 100) 3 58 := ⟨by decide +kernel, rfl⟩
theorem d26_58 : Dc jdk_40_method_47_code 58 .areturn 1 59 := ⟨by decide +kernel, rfl⟩
theorem d26_59 : Dc jdk_40_method_47_code 59 (.aload_n 0) 1 60 := ⟨by decide +kernel, rfl⟩
theorem d26_60 : Dc jdk_40_method_47_code 60 (.invokestatic 109) 3 63 := ⟨by decide +kernel, rfl⟩
theorem d26_63 : Dc jdk_40_method_47_code 63 .areturn 1 64 := ⟨by decide +kernel, rfl⟩
theorem d27_0 : Dc jdk_56_method_4_code 0 (.aload_n 0) 1 1 := ⟨by decide +kernel, rfl⟩
theorem d27_1 : Dc jdk_56_method_4_code 1 .arraylength 1 2 := ⟨by decide +kernel, rfl⟩
theorem d27_2 : Dc jdk_56_method_4_code 2 (.anewarray 2) 3 5 := ⟨by decide +kernel, rfl⟩
theorem d27_5 : Dc jdk_56_method_4_code 5 (.astore_n 1) 1 6 := ⟨by decide +kernel, rfl⟩
theorem d27_6 : Dc jdk_56_method_4_code 6 (.iconst 0) 1 7 := ⟨by decide +kernel, rfl⟩
theorem d27_7 : Dc jdk_56_method_4_code 7 (.istore_n 2) 1 8 := ⟨by decide +kernel, rfl⟩
theorem d27_8 : Dc jdk_56_method_4_code 8 (.iload_n 2) 1 9 := ⟨by decide +kernel, rfl⟩
theorem d27_9 : Dc jdk_56_method_4_code 9 (.aload_n 0) 1 10 := ⟨by decide +kernel, rfl⟩
theorem d27_10 : Dc jdk_56_method_4_code 10 .arraylength 1 11 := ⟨by decide +kernel, rfl⟩
theorem d27_11 : Dj jdk_56_method_4_code 11 (.if_icmp .ge) 14 29 := ⟨18, by decide +kernel, rfl, by decide, by decide⟩
theorem d27_14 : Dc jdk_56_method_4_code 14 (.aload_n 1) 1 15 := ⟨by decide +kernel, rfl⟩
theorem d27_15 : Dc jdk_56_method_4_code 15 (.iload_n 2) 1 16 := ⟨by decide +kernel, rfl⟩
theorem d27_16 : Dc jdk_56_method_4_code 16 (.aload_n 0) 1 17 := ⟨by decide +kernel, rfl⟩
theorem d27_17 : Dc jdk_56_method_4_code 17 (.iload_n 2) 1 18 := ⟨by decide +kernel, rfl⟩
theorem d27_18 : Dc jdk_56_method_4_code 18 .aaload 1 19 := ⟨by decide +kernel, rfl⟩
theorem d27_19 : Dc jdk_56_method_4_code 19 (.invokestatic 37) 3 22 := ⟨by decide +kernel, rfl⟩
theorem d27_22 : Dc jdk_56_method_4_code 22 .aastore 1 23 := ⟨by decide +kernel, rfl⟩
theorem d27_23 : Dc jdk_56_method_4_code 23 (.iinc 2 1) 3 26 := ⟨by decide +kernel, rfl⟩
theorem d27_26 : Dj jdk_56_method_4_code 26 .goto 29 8 := ⟨(-18), by decide +kernel, rfl, by decide, by decide⟩
theorem d27_29 : Dc jdk_56_method_4_code 29 (.new 12) 3 32 := ⟨by decide +kernel, rfl⟩
theorem d27_32 : Dc jdk_56_method_4_code 32 .dup 1 33 := ⟨by decide +kernel, rfl⟩
theorem d27_33 : Dc jdk_56_method_4_code 33 (.aload_n 1) 1 34 := ⟨by decide +kernel, rfl⟩
theorem d27_34 : Dc jdk_56_method_4_code 34 (.iconst 0) 1 35 := ⟨by decide +kernel, rfl⟩
theorem d27_35 : Dc jdk_56_method_4_code 35 (.invokespecial 43) 3 38 := ⟨by decide +kernel, rfl⟩
theorem d27_38 : Dc jdk_56_method_4_code 38 .areturn 1 39 := ⟨by decide +kernel, rfl⟩
theorem d28_0 : Dc jdk_31_method_10_code 0 (.aload_n 0) 1 1 := ⟨by decide +kernel, rfl⟩
theorem d28_1 : Dj jdk_31_method_10_code 1 .ifnonnull 4 12 := ⟨11, by decide +kernel, rfl, by decide, by decide⟩
theorem d28_12 : Dc jdk_31_method_10_code 12 (.aload_n 0) 1 13 := ⟨by decide +kernel, rfl⟩
theorem d28_13 : Dc jdk_31_method_10_code 13 .areturn 1 14 := ⟨by decide +kernel, rfl⟩
theorem d29_0 : Dc jdk_45_method_1_code 0 (.aload_n 0) 1 1 := ⟨by decide +kernel, rfl⟩
theorem d29_1 : Dc jdk_45_method_1_code 1 (.invokespecial 1) 3 4 := ⟨by decide +kernel, rfl⟩
theorem d29_4 : Dc jdk_45_method_1_code 4 (.aload_n 0) 1 5 := ⟨by decide +kernel, rfl⟩
theorem d29_5 : Dc jdk_45_method_1_code 5 (.aload_n 1) 1 6 := ⟨by decide +kernel, rfl⟩
theorem d29_6 : Dc jdk_45_method_1_code 6 (.putfield 7) 3 9 := ⟨by decide +kernel, rfl⟩
theorem d29_9 : Dc jdk_45_method_1_code 9 (.aload_n 0) 1 10 := ⟨by decide +kernel, rfl⟩
theorem d29_10 : Dc jdk_45_method_1_code 10 (.iload_n 2) 1 11 := ⟨by decide +kernel, rfl⟩
theorem d29_11 : Dc jdk_45_method_1_code 11 (.putfield 13) 3 14 := ⟨by decide +kernel, rfl⟩
theorem d29_14 : Dc jdk_45_method_1_code 14 .return_ 1 15 := ⟨by decide +kernel, rfl⟩
theorem d30_0 : Dc jdk_46_method_1_code 0 (.aload_n 0) 1 1 := ⟨by decide +kernel, rfl⟩
theorem d30_1 : Dc jdk_46_method_1_code 1 (.invokespecial 1) 3 4 := ⟨by decide +kernel, rfl⟩
theorem d30_4 : Dc jdk_46_method_1_code 4 .return_ 1 5 := ⟨by decide +kernel, rfl⟩
theorem d31_0 : Dc jdk_47_method_1_code 0 (.aload_n 0) 1 1 := ⟨by decide +kernel, rfl⟩
theorem d31_1 : Dc jdk_47_method_1_code 1 (.invokespecial 1) 3 4 := ⟨by decide +kernel, rfl⟩
theorem d31_4 : Dc jdk_47_method_1_code 4 .return_ 1 5 := ⟨by decide +kernel, rfl⟩
theorem d32_0 : Dc jdk_44_method_2_code 0 (.aload_n 0) 1 1 := ⟨by decide +kernel, rfl⟩
theorem d32_1 : Dc jdk_44_method_2_code 1 (.invokespecial 1) 3 4 := ⟨by decide +kernel, rfl⟩
theorem d32_4 : Dc jdk_44_method_2_code 4 (.aload_n 0) 1 5 := ⟨by decide +kernel, rfl⟩
theorem d32_5 : Dc jdk_44_method_2_code 5 (.aload_n 1) 1 6 := ⟨by decide +kernel, rfl⟩
theorem d32_6 : Dc jdk_44_method_2_code 6 (.invokestatic 7) 3 9 := ⟨by decide +kernel, rfl⟩
theorem d32_9 : Dc jdk_44_method_2_code 9 (.putfield 13) 3 12 := ⟨by decide +kernel, rfl⟩
theorem d32_12 : Dc jdk_44_method_2_code 12 (.aload_n 0) 1 13 := ⟨by decide +kernel, rfl⟩
theorem d32_13 : Dc jdk_44_method_2_code 13 (.aload_n 2) 1 14 := ⟨by decide +kernel, rfl⟩
theorem d32_14 : Dc jdk_44_method_2_code 14 (.invokestatic 7) 3 17 := ⟨by decide +kernel, rfl⟩
theorem d32_17 : Dc jdk_44_method_2_code 17 (.putfield 24) 3 20 := ⟨by decide +kernel, rfl⟩
theorem d32_20 : Dc jdk_44_method_2_code 20 .return_ 1 21 := ⟨by decide +kernel, rfl⟩
theorem d33_0 : Dc jdk_44_method_4_code 0 (.iconst 0) 1 1 := ⟨by decide +kernel, rfl⟩
theorem d33_1 : Dc jdk_44_method_4_code 1 .ireturn 1 2 := ⟨by decide +kernel, rfl⟩
theorem d34_0 : Dc jdk_44_method_1_code 0 (.aload_n 0) 1 1 := ⟨by decide +kernel, rfl⟩
theorem d34_1 : Dc jdk_44_method_1_code 1 (.invokespecial 1) 3 4 := ⟨by decide +kernel, rfl⟩
theorem d34_4 : Dc jdk_44_method_1_code 4 (.aload_n 0) 1 5 := ⟨by decide +kernel, rfl⟩
theorem d34_5 : Dc jdk_44_method_1_code 5 (.aload_n 1) 1 6 := ⟨by decide +kernel, rfl⟩
theorem d34_6 : Dc jdk_44_method_1_code 6 (.invokestatic 7) 3 9 := ⟨by decide +kernel, rfl⟩
theorem d34_9 : Dc jdk_44_method_1_code 9 (.putfield 13) 3 12 := ⟨by decide +kernel, rfl⟩
theorem d34_12 : Dc jdk_44_method_1_code 12 (.aload_n 0) 1 13 := ⟨by decide +kernel, rfl⟩
theorem d34_13 : Dc jdk_44_method_1_code 13 (.getstatic 19) 3 16 := ⟨by decide +kernel, rfl⟩
theorem d34_16 : Dc jdk_44_method_1_code 16 (.putfield 24) 3 19 := ⟨by decide +kernel, rfl⟩
theorem d34_19 : Dc jdk_44_method_1_code 19 .return_ 1 20 := ⟨by decide +kernel, rfl⟩
theorem pn_0 : plainFor (⟨"java/lang/StringUTF16", "compress", "([CI[BII)I"⟩ : MethodName) = true := by first | (apply plainFor_of_name; simp [plainName, overriddenIn]; done) | decide +kernel
theorem pn_1 : plainFor (⟨"java/lang/StringUTF16", "compress", "([CII)[B"⟩ : MethodName) = true := by first | (apply plainFor_of_name; simp [plainName, overriddenIn]; done) | decide +kernel
theorem pn_2 : plainFor (⟨"java/lang/StringUTF16", "coderFromArrayLen", "([BI)B"⟩ : MethodName) = true := by first | (apply plainFor_of_name; simp [plainName, overriddenIn]; done) | decide +kernel
theorem pn_3 : plainFor (⟨"java/lang/String", "<init>", "([CIILjava/lang/Void;)V"⟩ : MethodName) = true := by first | (apply plainFor_of_name; simp [plainName, overriddenIn]; done) | decide +kernel
theorem pn_4 : plainFor (⟨"java/lang/String", "<init>", "([C)V"⟩ : MethodName) = true := by first | (apply plainFor_of_name; simp [plainName, overriddenIn]; done) | decide +kernel
theorem pn_5 : plainFor (⟨"java/util/AbstractCollection", "<init>", "()V"⟩ : MethodName) = true := by first | (apply plainFor_of_name; simp [plainName, overriddenIn]; done) | decide +kernel
theorem pn_6 : plainFor (⟨"java/util/AbstractList", "<init>", "()V"⟩ : MethodName) = true := by first | (apply plainFor_of_name; simp [plainName, overriddenIn]; done) | decide +kernel
theorem pn_7 : plainFor (⟨"java/util/ArrayList", "<init>", "()V"⟩ : MethodName) = true := by first | (apply plainFor_of_name; simp [plainName, overriddenIn]; done) | decide +kernel
theorem pn_8 : plainFor (⟨"java/lang/Math", "max", "(II)I"⟩ : MethodName) = true := by first | (apply plainFor_of_name; simp [plainName, overriddenIn]; done) | decide +kernel
theorem pn_9 : plainFor (⟨"java/lang/Math", "min", "(II)I"⟩ : MethodName) = true := by first | (apply plainFor_of_name; simp [plainName, overriddenIn]; done) | decide +kernel
theorem pn_10 : plainFor (⟨"java/util/ArrayList", "grow", "(I)[Ljava/lang/Object;"⟩ : MethodName) = true := by first | (apply plainFor_of_name; simp [plainName, overriddenIn]; done) | decide +kernel
theorem pn_11 : plainFor (⟨"java/util/ArrayList", "grow", "()[Ljava/lang/Object;"⟩ : MethodName) = true := by first | (apply plainFor_of_name; simp [plainName, overriddenIn]; done) | decide +kernel
theorem pn_12 : plainFor (⟨"java/util/ArrayList", "add", "(Ljava/lang/Object;[Ljava/lang/Object;I)V"⟩ : MethodName) = true := by first | (apply plainFor_of_name; simp [plainName, overriddenIn]; done) | decide +kernel
theorem pn_13 : plainFor (⟨"java/util/ArrayList", "add", "(Ljava/lang/Object;)Z"⟩ : MethodName) = true := by first | (apply plainFor_of_name; simp [plainName, overriddenIn]; done) | decide +kernel
theorem pn_14 : plainFor (⟨"java/util/ArrayList", "isEmpty", "()Z"⟩ : MethodName) = true := by first | (apply plainFor_of_name; simp [plainName, overriddenIn]; done) | decide +kernel
theorem pn_15 : plainFor (⟨"java/util/Arrays", "copyOf", "([Ljava/lang/Object;ILjava/lang/Class;)[Ljava/lang/Object;"⟩ : MethodName) = true := by first | (apply plainFor_of_name; simp [plainName, overriddenIn]; done) | decide +kernel
theorem pn_16 : plainFor (⟨"java/util/Arrays", "copyOf", "([Ljava/lang/Object;I)[Ljava/lang/Object;"⟩ : MethodName) = true := by first | (apply plainFor_of_name; simp [plainName, overriddenIn]; done) | decide +kernel
theorem pn_17 : plainFor (⟨"java/util/ArrayList", "toArray", "()[Ljava/lang/Object;"⟩ : MethodName) = true := by first | (apply plainFor_of_name; simp [plainName, overriddenIn]; done) | decide +kernel
theorem pn_18 : plainFor (⟨"java/util/Objects", "requireNonNull", "(Ljava/lang/Object;)Ljava/lang/Object;"⟩ : MethodName) = true := by first | (apply plainFor_of_name; simp [plainName, overriddenIn]; done) | decide +kernel
theorem pn_19 : plainFor (⟨"java/util/ImmutableCollections$AbstractImmutableCollection", "<init>", "()V"⟩ : MethodName) = true := by first | (apply plainFor_of_name; simp [plainName, overriddenIn]; done) | decide +kernel
theorem pn_20 : plainFor (⟨"java/util/ImmutableCollections$AbstractImmutableList", "<init>", "()V"⟩ : MethodName) = true := by first | (apply plainFor_of_name; simp [plainName, overriddenIn]; done) | decide +kernel
theorem pn_21 : plainFor (⟨"java/util/ImmutableCollections$ListN", "<init>", "([Ljava/lang/Object;Z)V"⟩ : MethodName) = true := by first | (apply plainFor_of_name; simp [plainName, overriddenIn]; done) | decide +kernel
theorem pn_22 : plainFor (⟨"java/util/ImmutableCollections$List12", "<init>", "(Ljava/lang/Object;)V"⟩ : MethodName) = true := by first | (apply plainFor_of_name; simp [plainName, overriddenIn]; done) | decide +kernel
theorem pn_23 : plainFor (⟨"java/util/ImmutableCollections$List12", "<init>", "(Ljava/lang/Object;Ljava/lang/Object;)V"⟩ : MethodName) = true := by first | (apply plainFor_of_name; simp [plainName, overriddenIn]; done) | decide +kernel
theorem pn_24 : plainFor (⟨"java/util/ImmutableCollections", "listFromArray", "([Ljava/lang/Object;)Ljava/util/List;"⟩ : MethodName) = true := by first | (apply plainFor_of_name; simp [plainName, overriddenIn]; done) | decide +kernel
theorem pn_25 : plainFor (⟨"java/util/List", "of", "([Ljava/lang/Object;)Ljava/util/List;"⟩ : MethodName) = true := by first | (apply plainFor_of_name; simp [plainName, overriddenIn]; done) | decide +kernel
theorem pn_26 : plainFor (⟨"java/util/List", "of", "()Ljava/util/List;"⟩ : MethodName) = true := by first | (apply plainFor_of_name; simp [plainName, overriddenIn]; done) | decide +kernel
theorem pn_27 : plainFor (⟨"java/util/ImmutableCollections", "listCopy", "(Ljava/util/Collection;)Ljava/util/List;"⟩ : MethodName) = true := by first | (apply plainFor_of_name; simp [plainName, overriddenIn]; done) | decide +kernel
theorem pn_28 : plainFor (⟨"java/util/List", "copyOf", "(Ljava/util/Collection;)Ljava/util/List;"⟩ : MethodName) = true := by first | (apply plainFor_of_name; simp [plainName, overriddenIn]; done) | decide +kernel
theorem pn_29 : plainFor (⟨"com/example/vestline/vestline/changeofcontrol/Judgement", "<init>", "(Ljava/lang/String;Ljava/util/List;)V"⟩ : MethodName) = true := by first | (apply plainFor_of_name; simp [plainName, overriddenIn]; done) | decide +kernel
theorem pn_30 : plainFor (⟨"java/util/ImmutableCollections$ListN", "isEmpty", "()Z"⟩ : MethodName) = true := by first | (apply plainFor_of_name; simp [plainName, overriddenIn]; done) | decide +kernel
theorem pn_31 : plainFor (⟨"java/util/ImmutableCollections$List12", "isEmpty", "()Z"⟩ : MethodName) = true := by first | (apply plainFor_of_name; simp [plainName, overriddenIn]; done) | decide +kernel
theorem pn_32 : plainFor (⟨"com/example/vestline/vestline/changeofcontrol/Judgement", "changesControl", "()Z"⟩ : MethodName) = true := by first | (apply plainFor_of_name; simp [plainName, overriddenIn]; done) | decide +kernel
theorem pn_33 : plainFor (⟨"com/example/vestline/vestline/changeofcontrol/JudgementChangesControlPinLaw", "law", "(IIIII)Z"⟩ : MethodName) = true := by first | (apply plainFor_of_name; simp [plainName, overriddenIn]; done) | decide +kernel
theorem pd_0 : parseMethodDescriptor "([CI[BII)I" = some ⟨[(.array .char), .int, (.array .byte), .int, .int], some .int⟩ := by decide +kernel
theorem pd_1 : parseMethodDescriptor "([CII)[B" = some ⟨[(.array .char), .int, .int], some (.array .byte)⟩ := by decide +kernel
theorem pd_2 : parseMethodDescriptor "([BI)B" = some ⟨[(.array .byte), .int], some .byte⟩ := by decide +kernel
theorem pd_3 : parseMethodDescriptor "([CIILjava/lang/Void;)V" = some ⟨[(.array .char), .int, .int, (.object "java/lang/Void")], none⟩ := by decide +kernel
theorem pd_4 : parseMethodDescriptor "()V" = some ⟨[], none⟩ := by decide +kernel
theorem pd_5 : parseMethodDescriptor "(II)I" = some ⟨[.int, .int], some .int⟩ := by decide +kernel
theorem pd_6 : parseMethodDescriptor "(I)[Ljava/lang/Object;" = some ⟨[.int], some (.array (.object "java/lang/Object"))⟩ := by decide +kernel
theorem pd_7 : parseMethodDescriptor "()[Ljava/lang/Object;" = some ⟨[], some (.array (.object "java/lang/Object"))⟩ := by decide +kernel
theorem pd_8 : parseMethodDescriptor "(Ljava/lang/Object;[Ljava/lang/Object;I)V" = some ⟨[(.object "java/lang/Object"), (.array (.object "java/lang/Object")), .int], none⟩ := by decide +kernel
theorem pd_9 : parseMethodDescriptor "([Ljava/lang/Object;ILjava/lang/Class;)[Ljava/lang/Object;" = some ⟨[(.array (.object "java/lang/Object")), .int, (.object "java/lang/Class")], some (.array (.object "java/lang/Object"))⟩ := by decide +kernel
theorem pd_10 : parseMethodDescriptor "([Ljava/lang/Object;I)[Ljava/lang/Object;" = some ⟨[(.array (.object "java/lang/Object")), .int], some (.array (.object "java/lang/Object"))⟩ := by decide +kernel
theorem pd_11 : parseMethodDescriptor "(Ljava/lang/Object;)Ljava/lang/Object;" = some ⟨[(.object "java/lang/Object")], some (.object "java/lang/Object")⟩ := by decide +kernel
theorem pd_12 : parseMethodDescriptor "([Ljava/lang/Object;Z)V" = some ⟨[(.array (.object "java/lang/Object")), .boolean], none⟩ := by decide +kernel
theorem pd_13 : parseMethodDescriptor "(Ljava/lang/Object;)V" = some ⟨[(.object "java/lang/Object")], none⟩ := by decide +kernel
theorem pd_14 : parseMethodDescriptor "(Ljava/lang/Object;Ljava/lang/Object;)V" = some ⟨[(.object "java/lang/Object"), (.object "java/lang/Object")], none⟩ := by decide +kernel
theorem pd_15 : parseMethodDescriptor "([Ljava/lang/Object;)Ljava/util/List;" = some ⟨[(.array (.object "java/lang/Object"))], some (.object "java/util/List")⟩ := by decide +kernel
theorem pd_16 : parseMethodDescriptor "()Z" = some ⟨[], some .boolean⟩ := by decide +kernel
theorem pd_17 : parseMethodDescriptor "()Ljava/util/List;" = some ⟨[], some (.object "java/util/List")⟩ := by decide +kernel
theorem pd_18 : parseMethodDescriptor "(Ljava/util/Collection;)Ljava/util/List;" = some ⟨[(.object "java/util/Collection")], some (.object "java/util/List")⟩ := by decide +kernel
theorem pd_19 : parseMethodDescriptor "([C)V" = some ⟨[(.array .char)], none⟩ := by decide +kernel
theorem pd_20 : parseMethodDescriptor "(Ljava/lang/String;Ljava/util/List;)V" = some ⟨[(.object "java/lang/String"), (.object "java/util/List")], none⟩ := by decide +kernel
theorem pd_21 : parseMethodDescriptor "(Ljava/lang/Object;)Z" = some ⟨[(.object "java/lang/Object")], some .boolean⟩ := by decide +kernel
theorem hEL0 {Z : State} {a0 : Array Value} : EW Z a0 [] := EW.nil
theorem cCMPL (l : Launch) (Z : State) (a0 : Array Value) (hw : hwT a0 Z) {EL : List (String × Nat)} {nw : Bool} (hEL : EW Z a0 EL) (h0 : Heap) (a b : Addr) (cs : List Int32) (n : Int32) (hn : n.toInt = (cs.length : Int)) (hb : cs.length < 2147483648) (hlat : Lat cs) (A : Al Z h0 a .char (cs.map .int)) (B : Al Z h0 b .byte (List.replicate cs.length (.int 0))) (hab : a ≠ b) :
    Con l Z EL nw (⟨"java/lang/StringUTF16", "compress", "([CI[BII)I"⟩ : MethodName) jdk_52_method_21_code 7 (some .int) [] rm0 #[.ref a, .int 0, .ref b, .int 0, .int n] h0 [b] (fun v h S' => v = some (.int n) ∧ Al Z h b .byte (cs.map bL) ∧ Keep h0 h [b] ∧ S' = []) := by
  refine Con.enter (a0 := a0) pn_0 hEL [.val (.ref a), .val (.int 0), .val (.ref b), .val (.int 0), .val (.int n), .unset, .unset] (fun m => by first | (simp [entryFrame, mkF, argsToLocals, Value.category]; done) | rfl) ?_
  intro K G
  refine G.iconst 0 d5_0 ?_
  refine G.istore5 d5_1 ?_
  have loop : ∀ (rest done : List Int32) (h : Heap) (i : Int32) (x6 : Slot) (_ : x6 = .unset ∨ ∃ q : Int32, x6 = .val (.int q)), done ++ rest = cs → i.toInt = (done.length : Int) → Al Z h b .byte (done.map bL ++ List.replicate rest.length (.int 0)) → Keep h0 h [b] →
      Go Z EL nw rm0 (fun v h S' => v = some (.int n) ∧ Al Z h b .byte (cs.map bL) ∧ Keep h0 h [b] ∧ S' = []) K h [b] 0 0 3 [.val (.ref a), .val (.int i), .val (.ref b), .val (.int i), .val (.int n), .val (.int i), x6] [] := by
    intro rest
    induction rest with
    | nil =>
      intro done h i x6 h6 hd hi hB hK
      refine G.iload d5_3 rfl ?_
      refine G.iload d5_5 rfl ?_
      refine G.icmp_ge d5_7 (fun _ => ?_) (fun q => absurd q (not_lt_of_toInt (by rw [hi, hn, ← hd]; simp)))
      refine G.iload d5_44 rfl ?_
      exact G.iret d5_46 [] (fun _ q => nomatch q) ⟨rfl, by rw [← hd]; simpa using hB, hK, rfl⟩
    | cons x rest ih =>
      intro done h i x6 h6 hd hi hB hK
      have hlen : cs.length = done.length + (rest.length + 1) := by rw [← hd]; simp
      have hx : x ∈ cs := by rw [← hd]; simp
      refine G.iload d5_3 rfl ?_
      refine G.iload d5_5 rfl ?_
      refine G.icmp_ge d5_7 (fun q => absurd (lt_of_toInt (by rw [hi, hn, hlen]; omega)) q) (fun _ => ?_)
      refine G.aloadN d5_10 rfl rfl ?_
      refine G.iloadN d5_11 rfl ?_
      refine G.caload d5_12 (A.keep hK (ninS hab nin0)) hi (v := .int x) (by rw [← hd]; simp) ?_
      rcases h6 with rfl | ⟨w6, rfl⟩
      all_goals
        refine G.istore6 d5_13 ?_
        refine G.iload d5_15 rfl ?_
        refine G.sipush 255 d5_17 ?_
        refine G.icmp_le d5_20 (fun _ => ?_) (fun q => absurd q (not_lt_of_toInt (by have := (hlat x hx).2; have e : (255 : Int32).toInt = 255 := (by decide); omega)))
        refine G.aloadN d5_26 rfl rfl ?_
        refine G.iloadN d5_27 rfl ?_
        refine G.iload d5_28 rfl ?_
        refine G.i2b d5_30 ?_
        refine G.bastore d5_31 (List.mem_singleton.mpr rfl) hB hi (by simp) (fun h' W hB' => ?_)
        refine G.iinc1 1 d5_32 ?_
        refine G.iinc3 1 d5_35 ?_
        refine G.iinc5 1 d5_38 ?_
        refine G.goto d5_41 ?_
        refine ih (done ++ [x]) h' (i + 1) _ (Or.inr ⟨_, rfl⟩) (by simp [hd]) (by rw [inc_toInt hi (by omega)]; simp) ?_ (hK.wr W (Or.inl (List.mem_singleton.mpr rfl)))
        have e : (done.map bL ++ List.replicate (x :: rest).length (Value.int 0)).set done.length (.int (nar .byte x.toInt8.toInt32)) = (done ++ [x]).map bL ++ List.replicate rest.length (.int 0) := by
          have := set_mid (done.map bL) (List.replicate rest.length (Value.int 0)) (.int 0) (.int (nar .byte x.toInt8.toInt32))
          rw [List.length_map] at this
          simp only [List.length_cons, List.replicate_succ]
          rw [this, nar8]; simp [bL]
        rw [← e]; exact hB'
  exact loop cs [] h0 0 _ (Or.inl rfl) rfl toInt_0 (by simpa using B) (Keep.refl _ _)
theorem cCMP (l : Launch) (Z : State) (a0 : Array Value) (hw : hwT a0 Z) {EL : List (String × Nat)} {nw : Bool} (hEL : EW Z a0 EL) (h0 : Heap) (a : Addr) (cs : List Int32) (n : Int32) (hn : n.toInt = (cs.length : Int)) (hm : cs.length ≤ 16) (hlat : Lat cs) (A : Al Z h0 a .char (cs.map .int)) :
    Con l Z EL nw (⟨"java/lang/StringUTF16", "compress", "([CII)[B"⟩ : MethodName) jdk_52_method_16_code 6 (some (.array .byte)) [] { frames := 1, cells := 1, slots := 16, locals := 18 } #[.ref a, .int 0, .int n] h0 [] (fun v h S' => (∃ b, v = some (.ref b) ∧ h0.size ≤ b ∧ Al Z h b .byte (cs.map bL) ∧ S' = [b]) ∧ Ext h0 h) := by
  refine Con.enter (a0 := a0) pn_1 hEL [.val (.ref a), .val (.int 0), .val (.int n), .unset, .unset, .unset] (fun m => by first | (simp [entryFrame, mkF, argsToLocals, Value.category]; done) | rfl) ?_
  intro K G
  refine G.iloadN d4_0 rfl ?_
  refine G.newA cs.length 16 d4_1 (hw 19 rfl) hn hm (fun h1 E1 L1 A1 => ?_)
  refine G.astore3 d4_3 ?_
  refine G.aloadN d4_4 rfl rfl ?_
  refine G.iloadN d4_5 rfl ?_
  refine G.aloadN d4_6 rfl rfl ?_
  refine G.iconst 0 d4_7 ?_
  refine G.iloadN d4_8 rfl ?_
  have hne : a ≠ h0.size := Nat.ne_of_lt A.lt
  refine G.callS5 d4_9 (hw 20 rfl) (hw 21 rfl) (hw 17 rfl) (hw 22 rfl) pd_0 (cCMPL K.l Z a0 hw hEL h1 a h0.size cs n hn (by omega) hlat (A.ext E1) A1 hne) (fun _ q => by simpa using q) ?_
  rintro _ h2 _ ⟨rfl, B2, K2, rfl⟩ -
  refine G.istore4 d4_12 ?_
  refine G.iload d4_14 rfl ?_
  refine G.iloadN d4_16 rfl ?_
  refine G.icmp_eq d4_17 (fun _ => ?_) (fun q => absurd rfl q)
  refine G.aloadN d4_57 rfl rfl ?_
  refine G.aret d4_58 [h0.size] (by simp) ⟨⟨_, rfl, Nat.le_refl _, B2, rfl⟩, ?_⟩
  exact keep_nil_ext ((ext_keep E1 []).trans K2 (fun x q => by cases List.mem_singleton.mp q; exact Or.inr (Nat.le_refl _)))
theorem cCFA (l : Launch) (Z : State) (a0 : Array Value) (hw : hwT a0 Z) {EL : List (String × Nat)} {nw : Bool} (hEL : EW Z a0 EL) (h0 : Heap) (b : Addr) (vs : List Value) (n : Int32) (hn : n.toInt = (vs.length : Int)) (B : Al Z h0 b .byte vs) :
    Con l Z EL nw (⟨"java/lang/StringUTF16", "coderFromArrayLen", "([BI)B"⟩ : MethodName) jdk_52_method_15_code 2 (some .byte) [] rm0 #[.ref b, .int n] h0 [] (fun v h S' => v = some (.int 0) ∧ h = h0 ∧ S' = []) := by
  refine Con.enter (a0 := a0) pn_2 hEL [.val (.ref b), .val (.int n)] (fun m => by first | (simp [entryFrame, mkF, argsToLocals, Value.category]; done) | rfl) ?_
  intro K G
  refine G.iloadN d6_0 rfl ?_
  refine G.aloadN d6_1 rfl rfl ?_
  refine G.alen n d6_2 B hn ?_
  refine G.isub d6_3 ?_
  refine G.bipush 31 d6_4 ?_
  refine G.iushr d6_6 ?_
  refine G.i2b d6_7 ?_
  have e : n - n = 0 := by
    apply Int32.toInt_inj.mp
    have := c_isub n n
    have := rng32 (n - n)
    have e0 : (0 : Int32).toInt = 0 := by decide
    omega
  exact G.nret d6_8 (Or.inr (Or.inl rfl)) (z' := 0) (by rw [e]; decide) [] (fun _ q => nomatch q) ⟨rfl, rfl, rfl⟩
abbrev rmSI4 : Room := { frames := 2, cells := 4, slots := 24, locals := 40 }
abbrev rmSI : Room := { frames := 3, cells := 4, slots := 24, locals := 60 }
/-- new String(char[]), one char at the least, each below 256 -/
theorem cSI4 (l : Launch) (Z : State) (a0 : Array Value) (hw : hwT a0 Z) {EL : List (String × Nat)} {nw : Bool} (hEL : EW Z a0 EL) (h0 : Heap) (hC : CS Z) (a b : Addr) (cs : List Int32) (n : Int32) (hn : n.toInt = (cs.length : Int)) (hm : cs.length ≤ 16) (h1 : 0 < cs.length) (hlat : Lat cs) (E : Exa Z h0 a SN) (D : ∀ {O fn d : String} {ty : FieldType}, Laid Z a0 SN O fn d → parseFieldDescriptor d = some ty → Fld Z h0 a O fn d (defaultValue ty)) (A : Al Z h0 b .char (cs.map .int)) :
    Con l Z EL nw (⟨"java/lang/String", "<init>", "([CIILjava/lang/Void;)V"⟩ : MethodName) jdk_42_method_149_code 6 (none) [] rmSI4 #[.ref a, .ref b, .int 0, .int n, .null] h0 [a] (fun v h S' => v = none ∧ (∃ vb, h0.size ≤ vb ∧ StrB Z h a 0 vb (cs.map bL)) ∧ Keep h0 h [a] ∧ S' = []) := by
  obtain ⟨cc, hC, hcc⟩ := hC
  refine Con.enter (a0 := a0) pn_3 hEL [.val (.ref a), .val (.ref b), .val (.int 0), .val (.int n), .val (.null), .unset] (fun m => by first | (simp [entryFrame, mkF, argsToLocals, Value.category]; done) | rfl) ?_
  intro K G
  have F1 := D (Or.inr (hw 27 rfl)) (ty := .byte) (by decide)
  have F2 := D (Or.inr (hw 29 rfl)) (ty := .array .byte) (by decide)
  refine G.aloadN d2_0 rfl rfl ?_
  refine G.initO d2_1 (hw 11 rfl) (hw 12 rfl) (hw 13 rfl) ?_
  refine G.iloadN d2_4 rfl ?_
  refine G.if_ne d2_5 (fun _ => ?_) (fun q => absurd (congrArg Int32.toInt q) (by rw [hn, toInt_0]; omega))
  refine G.getS d2_27 (hw 14 rfl) hC ?_
  refine G.if_eq d2_30 (fun q => absurd q hcc) (fun _ => ?_)
  refine G.aloadN d2_33 rfl rfl ?_
  refine G.iloadN d2_34 rfl ?_
  refine G.iloadN d2_35 rfl ?_
  refine G.callS3 d2_36 (hw 15 rfl) (hw 16 rfl) (hw 17 rfl) (hw 18 rfl) pd_1 (cCMP K.l Z a0 hw hEL h0 b cs n hn hm hlat A) (fun _ q => nomatch q) ?_
  rintro _ h2 _ ⟨⟨vb, rfl, hvb, B, rfl⟩, E2⟩ hs2
  refine G.astore5 d2_39 ?_
  refine G.aloadN d2_41 rfl rfl ?_
  refine G.aload d2_42 rfl rfl ?_
  refine G.iloadN d2_44 rfl ?_
  refine G.callS2 d2_45 (hw 23 rfl) (hw 24 rfl) (hw 17 rfl) (hw 25 rfl) pd_2 (cCFA K.l Z a0 hw hEL h2 vb (cs.map bL) n (by simpa using hn) B) (fun _ q => nomatch q) ?_
  rintro _ _ _ ⟨rfl, rfl, rfl⟩ -
  have hne : vb ≠ a := fun q => Nat.lt_irrefl _ (Nat.lt_of_lt_of_le E.lt (q ▸ hvb))
  refine G.putF d2_48 (hw 26 rfl) (F1.ext E2) (E.ext E2) (by simp) (Or.inr ⟨(hw 27 rfl), rfl, rfl⟩) (hw 1 rfl) (ty := .byte) (by decide) rfl rfl (fun h3 W3 F1 E => ?_)
  refine G.aloadN d2_51 rfl rfl ?_
  refine G.aload d2_52 rfl rfl ?_
  have F2' := Fld.oth (F2.ext E2) W3 (Or.inr (hw 29 rfl)) (Or.inr (hw 27 rfl)) (by decide) (by decide) (by decide)
  refine G.putF d2_54 (hw 28 rfl) F2' E (by simp) (Or.inr ⟨(hw 29 rfl), rfl, rfl⟩) (hw 1 rfl) (ty := (.array .byte)) (by decide) rfl rfl (fun h4 W4 F2 E => ?_)
  replace F1 := Fld.oth F1 W4 (Or.inr (hw 27 rfl)) (Or.inr (hw 29 rfl)) (by decide) (by decide) (by decide)
  refine G.ret0 d2_57 [] (fun _ q => nomatch q) ⟨rfl, ⟨vb, hvb, E, F1, F2, (B.other W3 hne).other W4 hne⟩, ?_, rfl⟩
  exact (((ext_keep E2 [a]).wr W3 (Or.inl (List.mem_singleton.mpr rfl))).wr W4 (Or.inl (List.mem_singleton.mpr rfl)))
theorem cSI (l : Launch) (Z : State) (a0 : Array Value) (hw : hwT a0 Z) {EL : List (String × Nat)} {nw : Bool} (hEL : EW Z a0 EL) (h0 : Heap) (hC : CS Z) (a b : Addr) (cs : List Int32) (hm : cs.length ≤ 16) (h1 : 0 < cs.length) (hlat : Lat cs) (E : Exa Z h0 a SN) (D : ∀ {O fn d : String} {ty : FieldType}, Laid Z a0 SN O fn d → parseFieldDescriptor d = some ty → Fld Z h0 a O fn d (defaultValue ty)) (A : Al Z h0 b .char (cs.map .int)) :
    Con l Z EL nw (⟨"java/lang/String", "<init>", "([C)V"⟩ : MethodName) jdk_42_method_3_code 2 (none) [] rmSI #[.ref a, .ref b] h0 [a] (fun v h S' => v = none ∧ (∃ vb, h0.size ≤ vb ∧ StrB Z h a 0 vb (cs.map bL)) ∧ Keep h0 h [a] ∧ S' = []) := by
  refine Con.enter (a0 := a0) pn_4 hEL [.val (.ref a), .val (.ref b)] (fun m => by first | (simp [entryFrame, mkF, argsToLocals, Value.category]; done) | rfl) ?_
  intro K G
  refine G.aloadN d1_0 rfl rfl ?_
  refine G.aloadN d1_1 rfl rfl ?_
  refine G.iconst 0 d1_2 ?_
  refine G.aloadN d1_3 rfl rfl ?_
  have hn : (Int32.ofNat cs.length).toInt = (cs.length : Int) := len_toInt (by omega)
  refine G.alen (Int32.ofNat cs.length) d1_4 A (by simpa using hn) ?_
  refine G.aconstNull d1_5 ?_
  refine G.callI4 d1_6 (hw 7 rfl) (hw 8 rfl) (hw 2 rfl) (hw 10 rfl) pd_3 (cSI4 K.l Z a0 hw hEL h0 hC a b cs _ hn hm h1 hlat E D A) (fun _ q => q) ?_
  rintro _ h2 _ ⟨rfl, B2, K2, rfl⟩ -
  exact G.ret0 d1_9 [] (fun _ q => nomatch q) ⟨rfl, B2, K2, rfl⟩
abbrev OB : String := "java/lang/Object"
abbrev OT : FieldType := .object "java/lang/Object"
abbrev OD : String := "[Ljava/lang/Object;"
abbrev ALN : String := "java/util/ArrayList"
abbrev LNN : String := "java/util/ImmutableCollections$ListN"
abbrev L1N : String := "java/util/ImmutableCollections$List12"
/-- what the classes' statics are at the start -/
def AS (Z : State) : Prop := (∃ d0, Sta Z Z.heap "java/util/ArrayList" "DEFAULTCAPACITY_EMPTY_ELEMENTDATA" "[Ljava/lang/Object;" (.ref d0) ∧ Al Z Z.heap d0 (.object "java/lang/Object") []) ∧
  (∃ e0 ea, Sta Z Z.heap "java/util/ImmutableCollections" "EMPTY_LIST" "Ljava/util/ImmutableCollections$ListN;" (.ref e0) ∧ Exa Z Z.heap e0 "java/util/ImmutableCollections$ListN" ∧ Fld Z Z.heap e0 "java/util/ImmutableCollections$ListN" "elements" "[Ljava/lang/Object;" (.ref ea) ∧ Al Z Z.heap ea (.object "java/lang/Object") []) ∧
  (∃ em, Sta Z Z.heap "java/util/ImmutableCollections" "EMPTY" "Ljava/lang/Object;" (.ref em))
def OV (Z : State) : Prop := ∃ cA, Z.vm.findClass "[Ljava/lang/Object;" = some cA ∧ Ovr Z cA "java/lang/Object"
def OA (Z : State) (h : Heap) (d : Addr) (vs : List Value) : Prop := Al Z h d (.object "java/lang/Object") vs ∧ Exa Z h d "[Ljava/lang/Object;" ∧ OV Z
theorem OA.ext {Z : State} {h h' : Heap} {d : Addr} {vs : List Value} (F : OA Z h d vs) (E : Ext h h') : OA Z h' d vs := ⟨F.1.ext E, F.2.1.ext E, F.2.2⟩
theorem OA.keep {Z : State} {h h' : Heap} {d : Addr} {vs : List Value} {ws : List Addr} (F : OA Z h d vs) (K : Keep h h' ws) (q : d ∉ ws) : OA Z h' d vs := ⟨F.1.keep K q, F.2.1.keep K, F.2.2⟩
theorem OA.other {Z : State} {h h' : Heap} {d a : Addr} {sl : Nat} {v : Value} {vs : List Value} (F : OA Z h d vs) (W : Wr h h' a sl v) (q : d ≠ a) : OA Z h' d vs := ⟨F.1.other W q, F.2.1.wr W, F.2.2⟩
theorem oa_new {Z : State} {h : Heap} {d : Addr} {vs : List Value} (F : Al Z h d (.object "java/lang/Object") vs ∧ Exa Z h d "[Ljava/lang/Object;" ∧ ∃ c cA, Arr Z h d c (.object "java/lang/Object") ∧ c.cls = cA ∧ Ovr Z cA "java/lang/Object") : OA Z h d vs := by
  obtain ⟨A, E, c, cA, A1, rfl, O⟩ := F
  obtain ⟨cell, k, e1, e2, r⟩ := id E
  cases A1.1.symm.trans e1
  exact ⟨A, E, _, e2, O⟩
theorem OA.sto {Z : State} {h : Heap} {d y : Addr} {vs : List Value} (F : OA Z h d vs) (I : Ins Z h y "java/lang/Object" true) : Sto Z h d (.ref y) := by
  obtain ⟨⟨c, A1, -⟩, ⟨cell, k, e1, e2, -⟩, cA, f, O⟩ := F
  cases A1.1.symm.trans e1
  cases f.symm.trans e2
  exact Sto.of A1 O I
def ALs (Z : State) (h : Heap) (a : Addr) (m n : Int32) (d : Addr) : Prop := Exa Z h a "java/util/ArrayList" ∧ Fld Z h a "java/util/AbstractList" "modCount" "I" (.int m) ∧ Fld Z h a "java/util/ArrayList" "elementData" "[Ljava/lang/Object;" (.ref d) ∧ Fld Z h a "java/util/ArrayList" "size" "I" (.int n)
theorem ALs.ext {Z : State} {h h' : Heap} {a d : Addr} {m n : Int32} (F : ALs Z h a m n d) (E : Ext h h') : ALs Z h' a m n d := ⟨F.1.ext E, F.2.1.ext E, F.2.2.1.ext E, F.2.2.2.ext E⟩
theorem ALs.keep {Z : State} {h h' : Heap} {a d : Addr} {m n : Int32} {ws : List Addr} (F : ALs Z h a m n d) (K : Keep h h' ws) (q : a ∉ ws) : ALs Z h' a m n d := ⟨F.1.keep K, F.2.1.keep K q, F.2.2.1.keep K q, F.2.2.2.keep K q⟩
/-- a String, or another object that may stand in an Object[] -/
abbrev Ob (Z : State) (h : Heap) (s : Addr) : Prop := Exa Z h s "java/lang/String"
abbrev rmACI : Room := { frames := 1, cells := 0, slots := 0, locals := 12 }
theorem cACI (l : Launch) (Z : State) (a0 : Array Value) (hw : hwT a0 Z) (h0 : Heap) (a : Addr) : Con l Z [] true (⟨"java/util/AbstractCollection", "<init>", "()V"⟩ : MethodName) jdk_22_method_1_code 1 (none) [] rmACI #[.ref a] h0 [] (fun v h S' => v = none ∧ h = h0 ∧ S' = []) := by
  have hEL : EW Z a0 [] := hEL0
  refine Con.enter (a0 := a0) pn_5 hEL [.val (.ref a)] (fun m => by first | (simp [entryFrame, mkF, argsToLocals, Value.category]; done) | rfl) ?_
  intro K G
  refine G.aloadN d9_0 rfl rfl ?_
  refine G.initO d9_1 (hw 48 rfl) (hw 12 rfl) (hw 13 rfl) ?_
  exact G.ret0 d9_4 [] (fun _ q => nomatch q) ⟨rfl, rfl, rfl⟩
abbrev rmALI : Room := { frames := 2, cells := 0, slots := 0, locals := 24 }
theorem cALI (l : Launch) (Z : State) (a0 : Array Value) (hw : hwT a0 Z) (h0 : Heap) (a : Addr) (E : Exa Z h0 a ALN) (F : Fld Z h0 a "java/util/AbstractList" "modCount" "I" (.int 0)) : Con l Z [] true (⟨"java/util/AbstractList", "<init>", "()V"⟩ : MethodName) jdk_39_method_1_code 1 (none) [] rmALI #[.ref a] h0 [a] (fun v h S' => v = none ∧ (∃ W0 : Nat, Wr h0 h a (RoadKit.slotOf Z "java/util/AbstractList" "modCount" "I") (.int 0)) ∧ S' = []) := by
  have hEL : EW Z a0 [] := hEL0
  refine Con.enter (a0 := a0) pn_6 hEL [.val (.ref a)] (fun m => by first | (simp [entryFrame, mkF, argsToLocals, Value.category]; done) | rfl) ?_
  intro K G
  refine G.aloadN d8_0 rfl rfl ?_
  refine G.callI0 d8_1 (hw 42 rfl) (hw 43 rfl) (hw 46 rfl) (hw 47 rfl) pd_4 (cACI K.l Z a0 hw h0 a) (fun _ q => nomatch q) ?_
  rintro _ h0 _ ⟨rfl, rfl, rfl⟩ -
  refine G.aloadN d8_4 rfl rfl ?_
  refine G.iconst 0 d8_5 ?_
  refine G.putF d8_6 (hw 49 rfl) F E (by simp) (Or.inl (hw 50 rfl)) (hw 31 rfl) (ty := .int) (by decide) rfl rfl (fun h1 W1 F1 E1 => ?_)
  exact G.ret0 d8_9 [] (fun _ q => nomatch q) ⟨rfl, ⟨0, W1⟩, rfl⟩
abbrev rmARI : Room := { frames := 3, cells := 0, slots := 0, locals := 36 }
theorem cARI (l : Launch) (Z : State) (a0 : Array Value) (hw : hwT a0 Z) (h0 : Heap) (d0 : Addr) (hd0 : Sta Z Z.heap "java/util/ArrayList" "DEFAULTCAPACITY_EMPTY_ELEMENTDATA" "[Ljava/lang/Object;" (.ref d0)) (a : Addr) (E : Exa Z h0 a ALN) (D : ∀ {O fn d : String} {ty : FieldType}, Laid Z a0 ALN O fn d → parseFieldDescriptor d = some ty → Fld Z h0 a O fn d (defaultValue ty)) :
    Con l Z [] true (⟨"java/util/ArrayList", "<init>", "()V"⟩ : MethodName) jdk_38_method_2_code 1 (none) [] rmARI #[.ref a] h0 [a] (fun v h S' => v = none ∧ ALs Z h a 0 0 d0 ∧ Keep h0 h [a] ∧ S' = []) := by
  have hEL : EW Z a0 [] := hEL0
  refine Con.enter (a0 := a0) pn_7 hEL [.val (.ref a)] (fun m => by first | (simp [entryFrame, mkF, argsToLocals, Value.category]; done) | rfl) ?_
  intro K G
  have F1 := D (Or.inl (hw 50 rfl)) (ty := .int) (by decide)
  have F2 := D (Or.inl (hw 53 rfl)) (ty := .array (.object "java/lang/Object")) (by decide)
  have F3 := D (Or.inl (hw 87 rfl)) (ty := .int) (by decide)
  refine G.aloadN d7_0 rfl rfl ?_
  refine G.callI0 d7_1 (hw 36 rfl) (hw 37 rfl) (hw 40 rfl) (hw 41 rfl) pd_4 (cALI K.l Z a0 hw h0 a E F1) (by simp) ?_
  rintro _ h1 _ ⟨rfl, ⟨-, W1⟩, rfl⟩ -
  replace F1 := F1.same W1
  replace F2 := Fld.oth F2 W1 (Or.inl (hw 53 rfl)) (Or.inl (hw 50 rfl)) (by decide) (by decide) (by decide)
  replace F3 := Fld.oth F3 W1 (Or.inl (hw 87 rfl)) (Or.inl (hw 50 rfl)) (by decide) (by decide) (by decide)
  refine G.aloadN d7_4 rfl rfl ?_
  refine G.getS d7_5 (hw 51 rfl) hd0 ?_
  refine G.putF d7_8 (hw 52 rfl) F2 (E.wr W1) (by simp) (Or.inl (hw 53 rfl)) (hw 31 rfl) (ty := (.array (.object "java/lang/Object"))) (by decide) rfl rfl (fun h2 W2 F2 E2 => ?_)
  replace F1 := Fld.oth F1 W2 (Or.inl (hw 50 rfl)) (Or.inl (hw 53 rfl)) (by decide) (by decide) (by decide)
  replace F3 := Fld.oth F3 W2 (Or.inl (hw 87 rfl)) (Or.inl (hw 53 rfl)) (by decide) (by decide) (by decide)
  exact G.ret0 d7_11 [] (fun _ q => nomatch q) ⟨rfl, ⟨E2, F1, F2, F3⟩, ((Keep.refl _ [a]).wr W1 (Or.inl (List.mem_singleton.mpr rfl))).wr W2 (Or.inl (List.mem_singleton.mpr rfl)), rfl⟩
theorem cMAX1 (l : Launch) (Z : State) (a0 : Array Value) (hw : hwT a0 Z) (h0 : Heap) (n : Int32) (hn : n.toInt ≤ 10) : Con l Z [] true (⟨"java/lang/Math", "max", "(II)I"⟩ : MethodName) jdk_29_method_65_code 2 (some .int) [] rm0 #[.int 10, .int n] h0 [] (fun v h S' => v = some (.int 10) ∧ h = h0 ∧ S' = []) := by
  have hEL : EW Z a0 [] := hEL0
  refine Con.enter (a0 := a0) pn_8 hEL [.val (.int 10), .val (.int n)] (fun m => by first | (simp [entryFrame, mkF, argsToLocals, Value.category]; done) | rfl) ?_
  intro K G
  refine G.iloadN d21_0 rfl ?_
  refine G.iloadN d21_1 rfl ?_
  refine G.icmp_lt d21_2 (fun q => absurd q (not_lt_of_toInt (by rw [show (10 : Int32).toInt = 10 from by decide]; exact hn))) (fun _ => ?_)
  refine G.iloadN d21_5 rfl ?_
  refine G.goto d21_6 ?_
  exact G.iret d21_10 [] (fun _ q => nomatch q) ⟨rfl, rfl, rfl⟩
theorem cMIN1 (l : Launch) (Z : State) (a0 : Array Value) (hw : hwT a0 Z) (h0 : Heap) (x y : Int32) (hxy : y.toInt ≤ x.toInt) : Con l Z [] true (⟨"java/lang/Math", "min", "(II)I"⟩ : MethodName) jdk_29_method_69_code 2 (some .int) [] rm0 #[.int x, .int y] h0 [] (fun v h S' => (∃ m : Int32, v = some (.int m) ∧ m.toInt = y.toInt) ∧ h = h0 ∧ S' = []) := by
  have hEL : EW Z a0 [] := hEL0
  refine Con.enter (a0 := a0) pn_9 hEL [.val (.int x), .val (.int y)] (fun m => by first | (simp [entryFrame, mkF, argsToLocals, Value.category]; done) | rfl) ?_
  intro K G
  refine G.iloadN d25_0 rfl ?_
  refine G.iloadN d25_1 rfl ?_
  refine G.icmp_gt d25_2 (fun _ => ?_) (fun q => ?_)
  · refine G.iloadN d25_9 rfl ?_
    exact G.iret d25_10 [] (fun _ q => nomatch q) ⟨⟨_, rfl, rfl⟩, rfl, rfl⟩
  · rw [Int32.lt_iff_toInt_lt] at q
    refine G.iloadN d25_5 rfl ?_
    refine G.goto d25_6 ?_
    exact G.iret d25_10 [] (fun _ q => nomatch q) ⟨⟨_, rfl, by omega⟩, rfl, rfl⟩
abbrev rmGRW : Room := { frames := 1, cells := 1, slots := 10, locals := 14 }
theorem cGRW (l : Launch) (Z : State) (a0 : Array Value) (hw : hwT a0 Z) (h0 : Heap) (d0 : Addr) (hd0 : Sta Z Z.heap "java/util/ArrayList" "DEFAULTCAPACITY_EMPTY_ELEMENTDATA" "[Ljava/lang/Object;" (.ref d0)) (a : Addr) (m n k1 : Int32) (hk : k1.toInt = 1) (B : ALs Z h0 a m n d0) (A : Al Z h0 d0 (.object "java/lang/Object") []) :
    Con l Z [] true (⟨"java/util/ArrayList", "grow", "(I)[Ljava/lang/Object;"⟩ : MethodName) jdk_38_method_6_code 4 (some (.array (.object "java/lang/Object"))) [] rmGRW #[.ref a, .int k1] h0 [a] (fun v h S' => (∃ na, v = some (.ref na) ∧ h0.size ≤ na ∧ S' = [na] ∧ OA Z h na (List.replicate 10 .null) ∧ ALs Z h a m n na) ∧ Keep h0 h [a]) := by
  have hEL : EW Z a0 [] := hEL0
  have hlt := B.1.lt
  refine Con.enter (a0 := a0) pn_10 hEL [.val (.ref a), .val (.int k1), .unset, .unset] (fun m => by first | (simp [entryFrame, mkF, argsToLocals, Value.category]; done) | rfl) ?_
  intro K G
  refine G.aloadN d20_0 rfl rfl ?_
  refine G.getF d20_1 (hw 52 rfl) B.2.2.1 ?_
  refine G.alen 0 d20_4 A (by decide) ?_
  refine G.istore2 d20_5 ?_
  refine G.iloadN d20_6 rfl ?_
  refine G.if_gt d20_7 (fun q => absurd q (by decide)) (fun _ => ?_)
  refine G.aloadN d20_10 rfl rfl ?_
  refine G.getF d20_11 (hw 52 rfl) B.2.2.1 ?_
  refine G.getS d20_14 (hw 51 rfl) hd0 ?_
  refine G.acmp_eq d20_17 (fun _ => ?_) (fun q => absurd rfl q)
  refine G.aloadN d20_45 rfl rfl ?_
  refine G.bipush 10 d20_46 ?_
  refine G.iloadN d20_48 rfl ?_
  refine G.callS2 d20_49 (hw 133 rfl) (hw 134 rfl) (hw 135 rfl) (hw 136 rfl) pd_5 (cMAX1 K.l Z a0 hw h0 k1 (by omega)) (fun _ q => nomatch q) ?_
  rintro _ h0 _ ⟨rfl, rfl, rfl⟩ -
  refine G.newRE (ad := "[Ljava/lang/Object;") 10 10 d20_52 (hw 137 rfl) (hw 138 rfl) (by first | rfl | decide) (by decide) (by decide) (fun h1 E1 L1 A1 => ?_)
  have O1 := oa_new A1
  have B1 := B.ext E1
  refine G.dupX1 d20_55 ?_
  refine G.putF d20_56 (hw 52 rfl) B1.2.2.1 B1.1 (by simp) (Or.inl (hw 53 rfl)) (hw 31 rfl) (ty := (.array (.object "java/lang/Object"))) (by decide) rfl rfl (fun h2 W2 F2 E2 => ?_)
  have F1 := Fld.oth B1.2.1 W2 (Or.inl (hw 50 rfl)) (Or.inl (hw 53 rfl)) (by decide) (by decide) (by decide)
  have F3 := Fld.oth B1.2.2.2 W2 (Or.inl (hw 87 rfl)) (Or.inl (hw 53 rfl)) (by decide) (by decide) (by decide)
  have hne : h0.size ≠ a := Ne.symm (Nat.ne_of_lt hlt)
  exact G.aret d20_59 [h0.size] (by simp) ⟨⟨_, rfl, Nat.le_refl _, rfl, O1.other W2 hne, E2, F1, F2, F3⟩, (ext_keep E1 [a]).wr W2 (Or.inl (List.mem_singleton.mpr rfl))⟩
abbrev rmGR0 : Room := { frames := 2, cells := 1, slots := 10, locals := 29 }
theorem cGR0 (l : Launch) (Z : State) (a0 : Array Value) (hw : hwT a0 Z) (h0 : Heap) (d0 : Addr) (hd0 : Sta Z Z.heap "java/util/ArrayList" "DEFAULTCAPACITY_EMPTY_ELEMENTDATA" "[Ljava/lang/Object;" (.ref d0)) (a : Addr) (m : Int32) (B : ALs Z h0 a m 0 d0) (A : Al Z h0 d0 (.object "java/lang/Object") []) :
    Con l Z [] true (⟨"java/util/ArrayList", "grow", "()[Ljava/lang/Object;"⟩ : MethodName) jdk_38_method_7_code 1 (some (.array (.object "java/lang/Object"))) [] rmGR0 #[.ref a] h0 [a] (fun v h S' => (∃ na, v = some (.ref na) ∧ h0.size ≤ na ∧ S' = [na] ∧ OA Z h na (List.replicate 10 .null) ∧ ALs Z h a m 0 na) ∧ Keep h0 h [a]) := by
  have hEL : EW Z a0 [] := hEL0
  refine Con.enter (a0 := a0) pn_11 hEL [.val (.ref a)] (fun m => by first | (simp [entryFrame, mkF, argsToLocals, Value.category]; done) | rfl) ?_
  intro K G
  refine G.aloadN d19_0 rfl rfl ?_
  refine G.aloadN d19_1 rfl rfl ?_
  refine G.getF d19_2 (hw 86 rfl) B.2.2.2 ?_
  refine G.iconst 1 d19_5 ?_
  refine G.iadd d19_6 ?_
  refine G.callP1 d19_7 (hw 128 rfl) (hw 129 rfl) (hw 130 rfl) (hw 132 rfl) (hw 32 rfl) (Nf.same (y := (⟨"java/util/ArrayList", "grow", "(I)[Ljava/lang/Object;"⟩ : MethodName)) (Nf.sel (hw 114 rfl)) (hw 113 rfl) rfl) pd_6 B.1 (cGRW K.l Z a0 hw h0 d0 hd0 a m 0 (0 + 1) (by decide) B A) (fun _ q => q) ?_
  rintro _ h1 _ ⟨⟨na, rfl, h2, rfl, h3, h4⟩, K1⟩ -
  exact G.aret d19_10 [na] (by simp) ⟨⟨na, rfl, h2, rfl, h3, h4⟩, K1⟩
abbrev rmADP : Room := { frames := 3, cells := 1, slots := 10, locals := 41 }
theorem cADPa (l : Launch) (Z : State) (a0 : Array Value) (hw : hwT a0 Z) (h0 : Heap) (d0 : Addr) (hd0 : Sta Z Z.heap "java/util/ArrayList" "DEFAULTCAPACITY_EMPTY_ELEMENTDATA" "[Ljava/lang/Object;" (.ref d0)) (a s : Addr) (m : Int32) (I : Ob Z h0 s) (B : ALs Z h0 a m 0 d0) (A : Al Z h0 d0 (.object "java/lang/Object") []) :
    Con l Z [] true (⟨"java/util/ArrayList", "add", "(Ljava/lang/Object;[Ljava/lang/Object;I)V"⟩ : MethodName) jdk_38_method_24_code 4 (none) [] rmADP #[.ref a, .ref s, .ref d0, .int 0] h0 [a] (fun v h S' => v = none ∧ (∃ na, h0.size ≤ na ∧ S' = [na] ∧ OA Z h na ((List.replicate 10 .null).set 0 (.ref s)) ∧ ALs Z h a m (0 + 1) na) ∧ Keep h0 h [a]) := by
  have hEL : EW Z a0 [] := hEL0
  refine Con.enter (a0 := a0) pn_12 hEL [.val (.ref a), .val (.ref s), .val (.ref d0), .val (.int 0)] (fun m => by first | (simp [entryFrame, mkF, argsToLocals, Value.category]; done) | rfl) ?_
  intro K G
  have hsz := (B.1).lt
  refine G.iloadN d18_0 rfl ?_
  refine G.aloadN d18_1 rfl rfl ?_
  refine G.alen 0 d18_2 A (by decide) ?_
  refine G.icmp_ne d18_3 (fun q => absurd rfl q) (fun _ => ?_)
  refine G.aloadN d18_6 rfl rfl ?_
  refine G.callP0 d18_7 (hw 123 rfl) (hw 124 rfl) (hw 125 rfl) (hw 127 rfl) (hw 32 rfl) (Nf.same (y := (⟨"java/util/ArrayList", "grow", "()[Ljava/lang/Object;"⟩ : MethodName)) (Nf.sel (hw 114 rfl)) (hw 113 rfl) rfl) pd_7 B.1 (cGR0 K.l Z a0 hw h0 d0 hd0 a m B A) (fun _ q => q) ?_
  rintro _ h1 _ ⟨⟨na, rfl, hna, rfl, O1, B1⟩, K1⟩ -
  have I1 : Ob Z h1 s := I.keep K1
  refine G.astore2 d18_10 ?_
  refine G.aloadN d18_11 rfl rfl ?_
  refine G.iloadN d18_12 rfl ?_
  refine G.aloadN d18_13 rfl rfl ?_
  have hne : na ≠ a := fun q => Nat.lt_irrefl _ (Nat.lt_of_lt_of_le hsz (q ▸ hna))
  refine G.aastore d18_14 (by simp) O1.1 rfl (O1.sto (Ins.of_exa I1 (hw 139 rfl))) rfl (i := 0) (by decide) (by simp) (fun h2 W2 A2 => ?_)
  have B2 : ALs Z h2 a m 0 na := ⟨B1.1.wr W2, B1.2.1.other W2 (Or.inl (Ne.symm hne)), B1.2.2.1.other W2 (Or.inl (Ne.symm hne)), B1.2.2.2.other W2 (Or.inl (Ne.symm hne))⟩
  refine G.aloadN d18_15 rfl rfl ?_
  refine G.iloadN d18_16 rfl ?_
  refine G.iconst 1 d18_17 ?_
  refine G.iadd d18_18 ?_
  refine G.putF d18_19 (hw 86 rfl) B2.2.2.2 B2.1 (by simp) (Or.inl (hw 87 rfl)) (hw 31 rfl) (ty := .int) (by decide) rfl rfl (fun h3 W3 F3 E3 => ?_)
  have F1 := Fld.oth B2.2.1 W3 (Or.inl (hw 50 rfl)) (Or.inl (hw 87 rfl)) (by decide) (by decide) (by decide)
  have F2 := Fld.oth B2.2.2.1 W3 (Or.inl (hw 53 rfl)) (Or.inl (hw 87 rfl)) (by decide) (by decide) (by decide)
  exact G.ret0 d18_22 [na] (by simp) ⟨rfl, ⟨na, hna, rfl, ⟨A2.other W3 hne, (O1.2.1.wr W2).wr W3, O1.2.2⟩, E3, F1, F2, F3⟩, (K1.wr W2 (Or.inr hna)).wr W3 (Or.inl (List.mem_singleton.mpr rfl))⟩
theorem cADPb (l : Launch) (Z : State) (a0 : Array Value) (hw : hwT a0 Z) (h0 : Heap) (a s d : Addr) (hne : d ≠ a) (m n : Int32) (i : Nat) (hn : n.toInt = (i : Int)) (hi : i < 10) (vs : List Value) (hv : vs.length = 10) (I : Ob Z h0 s) (B : ALs Z h0 a m n d) (O1 : OA Z h0 d vs) :
    Con l Z [] true (⟨"java/util/ArrayList", "add", "(Ljava/lang/Object;[Ljava/lang/Object;I)V"⟩ : MethodName) jdk_38_method_24_code 4 (none) [] rmADP #[.ref a, .ref s, .ref d, .int n] h0 [d, a] (fun v h S' => v = none ∧ OA Z h d (vs.set i (.ref s)) ∧ ALs Z h a m (n + 1) d ∧ Keep h0 h [d, a] ∧ S' = []) := by
  have hEL : EW Z a0 [] := hEL0
  refine Con.enter (a0 := a0) pn_12 hEL [.val (.ref a), .val (.ref s), .val (.ref d), .val (.int n)] (fun m => by first | (simp [entryFrame, mkF, argsToLocals, Value.category]; done) | rfl) ?_
  intro K G
  refine G.iloadN d18_0 rfl ?_
  refine G.aloadN d18_1 rfl rfl ?_
  refine G.alen 10 d18_2 O1.1 (by rw [hv]; decide) ?_
  refine G.icmp_ne d18_3 (fun _ => ?_) (fun q => absurd (congrArg Int32.toInt q) (by rw [hn, show (10 : Int32).toInt = 10 from by decide]; omega))
  refine G.aloadN d18_11 rfl rfl ?_
  refine G.iloadN d18_12 rfl ?_
  refine G.aloadN d18_13 rfl rfl ?_
  refine G.aastore d18_14 (by simp) O1.1 rfl (O1.sto (Ins.of_exa I (hw 139 rfl))) rfl (i := i) hn (by omega) (fun h2 W2 A2 => ?_)
  have B2 : ALs Z h2 a m n d := ⟨B.1.wr W2, B.2.1.other W2 (Or.inl (Ne.symm hne)), B.2.2.1.other W2 (Or.inl (Ne.symm hne)), B.2.2.2.other W2 (Or.inl (Ne.symm hne))⟩
  refine G.aloadN d18_15 rfl rfl ?_
  refine G.iloadN d18_16 rfl ?_
  refine G.iconst 1 d18_17 ?_
  refine G.iadd d18_18 ?_
  refine G.putF d18_19 (hw 86 rfl) B2.2.2.2 B2.1 (by simp) (Or.inl (hw 87 rfl)) (hw 31 rfl) (ty := .int) (by decide) rfl rfl (fun h3 W3 F3 E3 => ?_)
  have F1 := Fld.oth B2.2.1 W3 (Or.inl (hw 50 rfl)) (Or.inl (hw 87 rfl)) (by decide) (by decide) (by decide)
  have F2 := Fld.oth B2.2.2.1 W3 (Or.inl (hw 53 rfl)) (Or.inl (hw 87 rfl)) (by decide) (by decide) (by decide)
  exact G.ret0 d18_22 [] (fun _ q => nomatch q) ⟨rfl, ⟨A2.other W3 hne, (O1.2.1.wr W2).wr W3, O1.2.2⟩, ⟨E3, F1, F2, F3⟩, ((Keep.refl _ _).wr W2 (Or.inl (by simp))).wr W3 (Or.inl (by simp)), rfl⟩
abbrev rmADD : Room := { frames := 4, cells := 1, slots := 10, locals := 56 }
theorem cADDa (l : Launch) (Z : State) (a0 : Array Value) (hw : hwT a0 Z) (h0 : Heap) (d0 : Addr) (hd0 : Sta Z Z.heap "java/util/ArrayList" "DEFAULTCAPACITY_EMPTY_ELEMENTDATA" "[Ljava/lang/Object;" (.ref d0)) (a s : Addr) (m : Int32) (hda : d0 ≠ a) (I : Ob Z h0 s) (B : ALs Z h0 a m 0 d0) (A : Al Z h0 d0 (.object "java/lang/Object") []) :
    Con l Z [] true (⟨"java/util/ArrayList", "add", "(Ljava/lang/Object;)Z"⟩ : MethodName) jdk_38_method_25_code 2 (some .boolean) [] rmADD #[.ref a, .ref s] h0 [a] (fun v h S' => (∃ b : Int32, v = some (.int b)) ∧ (∃ na m2, h0.size ≤ na ∧ S' = [na] ∧ OA Z h na ((List.replicate 10 .null).set 0 (.ref s)) ∧ ALs Z h a m2 (0 + 1) na) ∧ Keep h0 h [a]) := by
  have hEL : EW Z a0 [] := hEL0
  refine Con.enter (a0 := a0) pn_13 hEL [.val (.ref a), .val (.ref s)] (fun m => by first | (simp [entryFrame, mkF, argsToLocals, Value.category]; done) | rfl) ?_
  intro K G
  refine G.aloadN d17_0 rfl rfl ?_
  refine G.dup d17_1 ?_
  refine G.getF d17_2 (hw 116 rfl) B.2.1 ?_ (via := Via.of (hw 117 rfl))
  refine G.iconst 1 d17_5 ?_
  refine G.iadd d17_6 ?_
  refine G.putF d17_7 (hw 116 rfl) B.2.1 B.1 (by simp) (Or.inl (hw 50 rfl)) (hw 31 rfl) (ty := .int) (by decide) rfl rfl (fun h1 W1 F1 E1 => ?_) (via := Via.of (hw 117 rfl))
  have F2 := Fld.oth B.2.2.1 W1 (Or.inl (hw 53 rfl)) (Or.inl (hw 50 rfl)) (by decide) (by decide) (by decide)
  have F3 := Fld.oth B.2.2.2 W1 (Or.inl (hw 87 rfl)) (Or.inl (hw 50 rfl)) (by decide) (by decide) (by decide)
  have B1 : ALs Z h1 a (m + 1) 0 d0 := ⟨E1, F1, F2, F3⟩
  refine G.aloadN d17_10 rfl rfl ?_
  refine G.aloadN d17_11 rfl rfl ?_
  refine G.aloadN d17_12 rfl rfl ?_
  refine G.getF d17_13 (hw 52 rfl) F2 ?_
  refine G.aloadN d17_16 rfl rfl ?_
  refine G.getF d17_17 (hw 86 rfl) F3 ?_
  refine G.callP3 d17_20 (hw 118 rfl) (hw 119 rfl) (hw 120 rfl) (hw 122 rfl) (hw 32 rfl) (Nf.same (y := (⟨"java/util/ArrayList", "add", "(Ljava/lang/Object;[Ljava/lang/Object;I)V"⟩ : MethodName)) (Nf.sel (hw 114 rfl)) (hw 113 rfl) rfl) pd_8 E1 (cADPa K.l Z a0 hw h1 d0 hd0 a s (m + 1) (I.wr W1) B1 (A.other W1 hda)) (fun _ q => by simpa using q) ?_
  rintro _ h2 _ ⟨rfl, ⟨na, hna, rfl, O2, B2⟩, K2⟩ -
  have hs : h0.size ≤ na := by have := W1.size; omega
  refine G.iconst 1 d17_23 ?_
  exact G.nret d17_24 (Or.inl rfl) (z' := 1) (by decide) [na] (by simp) ⟨⟨_, rfl⟩, ⟨na, _, hs, rfl, O2, B2⟩, ((Keep.refl _ [a]).wr W1 (Or.inl (List.mem_singleton.mpr rfl))).trans K2 (fun x q => Or.inl q)⟩
theorem cADDb (l : Launch) (Z : State) (a0 : Array Value) (hw : hwT a0 Z) (h0 : Heap) (a s d : Addr) (hne : d ≠ a) (m n : Int32) (i : Nat) (hn : n.toInt = (i : Int)) (hi : i < 10) (vs : List Value) (hv : vs.length = 10) (I : Ob Z h0 s) (B : ALs Z h0 a m n d) (O1 : OA Z h0 d vs) :
    Con l Z [] true (⟨"java/util/ArrayList", "add", "(Ljava/lang/Object;)Z"⟩ : MethodName) jdk_38_method_25_code 2 (some .boolean) [] rmADD #[.ref a, .ref s] h0 [d, a] (fun v h S' => (∃ b : Int32, v = some (.int b)) ∧ (∃ m2, OA Z h d (vs.set i (.ref s)) ∧ ALs Z h a m2 (n + 1) d) ∧ Keep h0 h [d, a] ∧ S' = []) := by
  have hEL : EW Z a0 [] := hEL0
  refine Con.enter (a0 := a0) pn_13 hEL [.val (.ref a), .val (.ref s)] (fun m => by first | (simp [entryFrame, mkF, argsToLocals, Value.category]; done) | rfl) ?_
  intro K G
  refine G.aloadN d17_0 rfl rfl ?_
  refine G.dup d17_1 ?_
  refine G.getF d17_2 (hw 116 rfl) B.2.1 ?_ (via := Via.of (hw 117 rfl))
  refine G.iconst 1 d17_5 ?_
  refine G.iadd d17_6 ?_
  refine G.putF d17_7 (hw 116 rfl) B.2.1 B.1 (by simp) (Or.inl (hw 50 rfl)) (hw 31 rfl) (ty := .int) (by decide) rfl rfl (fun h1 W1 F1 E1 => ?_) (via := Via.of (hw 117 rfl))
  have F2 := Fld.oth B.2.2.1 W1 (Or.inl (hw 53 rfl)) (Or.inl (hw 50 rfl)) (by decide) (by decide) (by decide)
  have F3 := Fld.oth B.2.2.2 W1 (Or.inl (hw 87 rfl)) (Or.inl (hw 50 rfl)) (by decide) (by decide) (by decide)
  refine G.aloadN d17_10 rfl rfl ?_
  refine G.aloadN d17_11 rfl rfl ?_
  refine G.aloadN d17_12 rfl rfl ?_
  refine G.getF d17_13 (hw 52 rfl) F2 ?_
  refine G.aloadN d17_16 rfl rfl ?_
  refine G.getF d17_17 (hw 86 rfl) F3 ?_
  refine G.callP3 d17_20 (hw 118 rfl) (hw 119 rfl) (hw 120 rfl) (hw 122 rfl) (hw 32 rfl) (Nf.same (y := (⟨"java/util/ArrayList", "add", "(Ljava/lang/Object;[Ljava/lang/Object;I)V"⟩ : MethodName)) (Nf.sel (hw 114 rfl)) (hw 113 rfl) rfl) pd_8 E1 (cADPb K.l Z a0 hw h1 a s d hne (m + 1) n i hn hi vs hv (I.wr W1) ⟨E1, F1, F2, F3⟩ (O1.other W1 hne)) (fun _ q => q) ?_
  rintro _ h2 _ ⟨rfl, O2, B2, K2, rfl⟩ -
  refine G.iconst 1 d17_23 ?_
  exact G.nret d17_24 (Or.inl rfl) (z' := 1) (by decide) [] (fun _ q => nomatch q) ⟨⟨_, rfl⟩, ⟨_, O2, B2⟩, ((Keep.refl _ [d, a]).wr W1 (Or.inl (by simp))).trans K2 (fun x q => Or.inl q), rfl⟩
theorem cAEM (l : Launch) (Z : State) (a0 : Array Value) (hw : hwT a0 Z) (h0 : Heap) (a d : Addr) (m n : Int32) (B : ALs Z h0 a m n d) : Con l Z [] true (⟨"java/util/ArrayList", "isEmpty", "()Z"⟩ : MethodName) jdk_38_method_9_code 1 (some .boolean) [] rm0 #[.ref a] h0 [] (fun v h S' => v = some (.int (if n = 0 then 1 else 0)) ∧ h = h0 ∧ S' = []) := by
  have hEL : EW Z a0 [] := hEL0
  refine Con.enter (a0 := a0) pn_14 hEL [.val (.ref a)] (fun m => by first | (simp [entryFrame, mkF, argsToLocals, Value.category]; done) | rfl) ?_
  intro K G
  refine G.aloadN d13_0 rfl rfl ?_
  refine G.getF d13_1 (hw 86 rfl) B.2.2.2 ?_
  refine G.if_ne d13_4 (fun q => ?_) (fun q => ?_)
  · refine G.iconst 0 d13_11 ?_
    exact G.nret d13_12 (Or.inl rfl) (z' := 0) (by decide) [] (fun _ q => nomatch q) ⟨by rw [if_neg q], rfl, rfl⟩
  · refine G.iconst 1 d13_7 ?_
    refine G.goto d13_8 ?_
    exact G.nret d13_12 (Or.inl rfl) (z' := 1) (by decide) [] (fun _ q => nomatch q) ⟨by rw [if_pos q], rfl, rfl⟩
abbrev rmCP3 : Room := { frames := 1, cells := 1, slots := 10, locals := 18 }
theorem cCP3 (l : Launch) (Z : State) (a0 : Array Value) (hw : hwT a0 Z) (h0 : Heap) (mr : Addr) (hMr : Mir Z "[Ljava/lang/Object;" mr) (d : Addr) (vs : List Value) (n : Int32) (i : Nat) (hn : n.toInt = (i : Int)) (hi : i ≤ 10) (hv : vs.length = 10) (O1 : OA Z h0 d vs) (hs : ∀ x ∈ vs.take i, ∃ s, x = .ref s ∧ Ob Z h0 s) :
    Con l Z [] true (⟨"java/util/Arrays", "copyOf", "([Ljava/lang/Object;ILjava/lang/Class;)[Ljava/lang/Object;"⟩ : MethodName) jdk_65_method_120_code 4 (some (.array (.object "java/lang/Object"))) [] rmCP3 #[.ref d, .int n, .ref mr] h0 [] (fun v h S' => (∃ na, v = some (.ref na) ∧ OA Z h na (vs.take i)) ∧ Ext h0 h ∧ S' = []) := by
  have hEL : EW Z a0 [] := hEL0
  refine Con.enter (a0 := a0) pn_15 hEL [.val (.ref d), .val (.int n), .val (.ref mr), .unset] (fun m => by first | (simp [entryFrame, mkF, argsToLocals, Value.category]; done) | rfl) ?_
  intro K G
  refine G.aloadN d24_0 rfl rfl ?_
  refine G.ldcMir d24_1 (hw 161 rfl) hMr ?_
  refine G.acmp_ne d24_3 (fun q => absurd rfl q) (fun _ => ?_)
  refine G.iloadN d24_6 rfl ?_
  refine G.newRE (ad := "[Ljava/lang/Object;") i 10 d24_7 (hw 162 rfl) (hw 138 rfl) (by first | rfl | decide) hn hi (fun h1 E1 L1 A1 => ?_)
  have O2 := oa_new A1
  refine G.goto d24_10 ?_
  refine G.astore3 d24_24 ?_
  refine G.aloadN d24_25 rfl rfl ?_
  refine G.iconst 0 d24_26 ?_
  refine G.aloadN d24_27 rfl rfl ?_
  refine G.iconst 0 d24_28 ?_
  refine G.aloadN d24_29 rfl rfl ?_
  refine G.alen 10 d24_30 (O1.1.ext E1) (by rw [hv]; decide) ?_
  refine G.iloadN d24_31 rfl ?_
  refine G.callS2 d24_32 (hw 163 rfl) (hw 164 rfl) (hw 135 rfl) (hw 165 rfl) pd_5 (cMIN1 K.l Z a0 hw h1 10 n (by rw [hn, show (10 : Int32).toInt = 10 from by decide]; omega)) (fun _ q => nomatch q) ?_
  rintro _ h1' _ ⟨⟨m, rfl, hm⟩, rfl, rfl⟩ -
  have stl : ∀ us : List Value, (∀ x ∈ us, ∃ s, x = .ref s ∧ Ob Z h0 s) → StoL Z h1' h0.size us := by
    intro us
    induction us with
    | nil => intro _; exact trivial
    | cons u us ih =>
      intro q
      obtain ⟨s, e, I⟩ := q u (by simp)
      exact ⟨by rw [e]; exact O2.sto (Ins.of_exa (I.ext E1) (hw 139 rfl)), ih (fun x z => q x (by simp [z]))⟩
  refine G.acopyR 0 0 i d24_35 (hw 166 rfl) (hw 169 rfl) (hw 167 rfl) (hw 168 rfl) (O1.1.ext E1) O2.1 rfl rfl (by rw [List.drop_zero]; exact stl _ hs) (by simp) (by decide) (by decide) (by rw [hm, hn]) (by omega) (by simp) (fun h2 K2 B2 => ?_)
  refine G.aloadN d24_38 rfl rfl ?_
  refine G.aret d24_39 [] (fun _ q => nomatch q) ⟨⟨_, rfl, by simpa using B2, O2.2.1.keep K2, O2.2.2⟩, ?_, rfl⟩
  exact keep_nil_ext ((ext_keep E1 []).trans K2 (fun x q => by cases List.mem_singleton.mp q; exact Or.inr (Nat.le_refl _)))
abbrev rmCP2 : Room := { frames := 2, cells := 1, slots := 10, locals := 33 }
theorem cCP2 (l : Launch) (Z : State) (a0 : Array Value) (hw : hwT a0 Z) (h0 : Heap) (mr : Addr) (hMr : Mir Z "[Ljava/lang/Object;" mr) (d : Addr) (vs : List Value) (n : Int32) (i : Nat) (hn : n.toInt = (i : Int)) (hi : i ≤ 10) (hv : vs.length = 10) (O1 : OA Z h0 d vs) (hs : ∀ x ∈ vs.take i, ∃ s, x = .ref s ∧ Ob Z h0 s) :
    Con l Z [] true (⟨"java/util/Arrays", "copyOf", "([Ljava/lang/Object;I)[Ljava/lang/Object;"⟩ : MethodName) jdk_65_method_119_code 2 (some (.array (.object "java/lang/Object"))) [] rmCP2 #[.ref d, .int n] h0 [] (fun v h S' => (∃ na, v = some (.ref na) ∧ OA Z h na (vs.take i)) ∧ Ext h0 h ∧ S' = []) := by
  have hEL : EW Z a0 [] := hEL0
  refine Con.enter (a0 := a0) pn_16 hEL [.val (.ref d), .val (.int n)] (fun m => by first | (simp [entryFrame, mkF, argsToLocals, Value.category]; done) | rfl) ?_
  intro K G
  refine G.aloadN d23_0 rfl rfl ?_
  refine G.iloadN d23_1 rfl ?_
  refine G.aloadN d23_2 rfl rfl ?_
  refine G.gcls d23_3 (hw 152 rfl) (hw 153 rfl) (hw 75 rfl) (hw 155 rfl) (hw 154 rfl) (hw 156 rfl) O1.2.1 hMr ?_
  refine G.callS3 d23_6 (hw 158 rfl) (hw 159 rfl) (hw 150 rfl) (hw 160 rfl) pd_9 (cCP3 K.l Z a0 hw h0 mr hMr d vs n i hn hi hv O1 hs) (fun _ q => nomatch q) ?_
  rintro _ h1 _ ⟨⟨na, rfl, O2⟩, E1, rfl⟩ -
  exact G.aret d23_9 [] (fun _ q => nomatch q) ⟨⟨na, rfl, O2⟩, E1, rfl⟩
abbrev rmATA : Room := { frames := 3, cells := 1, slots := 10, locals := 46 }
theorem cATA (l : Launch) (Z : State) (a0 : Array Value) (hw : hwT a0 Z) (h0 : Heap) (mr : Addr) (hMr : Mir Z "[Ljava/lang/Object;" mr) (a d : Addr) (vs : List Value) (m n : Int32) (i : Nat) (hn : n.toInt = (i : Int)) (hi : i ≤ 10) (hv : vs.length = 10) (B : ALs Z h0 a m n d) (O1 : OA Z h0 d vs) (hs : ∀ x ∈ vs.take i, ∃ s, x = .ref s ∧ Ob Z h0 s) :
    Con l Z [] true (⟨"java/util/ArrayList", "toArray", "()[Ljava/lang/Object;"⟩ : MethodName) jdk_38_method_16_code 1 (some (.array (.object "java/lang/Object"))) [] rmATA #[.ref a] h0 [] (fun v h S' => (∃ na, v = some (.ref na) ∧ OA Z h na (vs.take i)) ∧ Ext h0 h ∧ S' = []) := by
  have hEL : EW Z a0 [] := hEL0
  refine Con.enter (a0 := a0) pn_17 hEL [.val (.ref a)] (fun m => by first | (simp [entryFrame, mkF, argsToLocals, Value.category]; done) | rfl) ?_
  intro K G
  refine G.aloadN d22_0 rfl rfl ?_
  refine G.getF d22_1 (hw 52 rfl) B.2.2.1 ?_
  refine G.aloadN d22_4 rfl rfl ?_
  refine G.getF d22_5 (hw 86 rfl) B.2.2.2 ?_
  refine G.callS2 d22_8 (hw 148 rfl) (hw 149 rfl) (hw 150 rfl) (hw 151 rfl) pd_10 (cCP2 K.l Z a0 hw h0 mr hMr d vs n i hn hi hv O1 hs) (fun _ q => nomatch q) ?_
  rintro _ h1 _ ⟨⟨na, rfl, O2⟩, E1, rfl⟩ -
  exact G.aret d22_11 [] (fun _ q => nomatch q) ⟨⟨na, rfl, O2⟩, E1, rfl⟩
theorem cRNN (l : Launch) (Z : State) (a0 : Array Value) (hw : hwT a0 Z) (h0 : Heap) (t : Addr) : Con l Z [] true (⟨"java/util/Objects", "requireNonNull", "(Ljava/lang/Object;)Ljava/lang/Object;"⟩ : MethodName) jdk_31_method_10_code 1 (some (.object "java/lang/Object")) [] rm0 #[.ref t] h0 [] (fun v h S' => v = some (.ref t) ∧ h = h0 ∧ S' = []) := by
  have hEL : EW Z a0 [] := hEL0
  refine Con.enter (a0 := a0) pn_18 hEL [.val (.ref t)] (fun m => by first | (simp [entryFrame, mkF, argsToLocals, Value.category]; done) | rfl) ?_
  intro K G
  refine G.aloadN d28_0 rfl rfl ?_
  refine G.ifnonnullR d28_1 ?_
  refine G.aloadN d28_12 rfl rfl ?_
  exact G.aret d28_13 [] (fun _ q => nomatch q) ⟨rfl, rfl, rfl⟩
abbrev rmAIC : Room := { frames := 2, cells := 0, slots := 0, locals := 24 }
theorem cAIC (l : Launch) (Z : State) (a0 : Array Value) (hw : hwT a0 Z) (h0 : Heap) (a : Addr) : Con l Z [] true (⟨"java/util/ImmutableCollections$AbstractImmutableCollection", "<init>", "()V"⟩ : MethodName) jdk_47_method_1_code 1 (none) [] rmAIC #[.ref a] h0 [] (fun v h S' => v = none ∧ h = h0 ∧ S' = []) := by
  have hEL : EW Z a0 [] := hEL0
  refine Con.enter (a0 := a0) pn_19 hEL [.val (.ref a)] (fun m => by first | (simp [entryFrame, mkF, argsToLocals, Value.category]; done) | rfl) ?_
  intro K G
  refine G.aloadN d31_0 rfl rfl ?_
  refine G.callI0 d31_1 (hw 198 rfl) (hw 43 rfl) (hw 46 rfl) (hw 47 rfl) pd_4 (cACI K.l Z a0 hw h0 a) (fun _ q => nomatch q) ?_
  rintro _ h0 _ ⟨rfl, rfl, rfl⟩ -
  exact G.ret0 d31_4 [] (fun _ q => nomatch q) ⟨rfl, rfl, rfl⟩
abbrev rmAIL : Room := { frames := 3, cells := 0, slots := 0, locals := 36 }
theorem cAIL (l : Launch) (Z : State) (a0 : Array Value) (hw : hwT a0 Z) (h0 : Heap) (a : Addr) : Con l Z [] true (⟨"java/util/ImmutableCollections$AbstractImmutableList", "<init>", "()V"⟩ : MethodName) jdk_46_method_1_code 1 (none) [] rmAIL #[.ref a] h0 [] (fun v h S' => v = none ∧ h = h0 ∧ S' = []) := by
  have hEL : EW Z a0 [] := hEL0
  refine Con.enter (a0 := a0) pn_20 hEL [.val (.ref a)] (fun m => by first | (simp [entryFrame, mkF, argsToLocals, Value.category]; done) | rfl) ?_
  intro K G
  refine G.aloadN d30_0 rfl rfl ?_
  refine G.callI0 d30_1 (hw 192 rfl) (hw 193 rfl) (hw 196 rfl) (hw 197 rfl) pd_4 (cAIC K.l Z a0 hw h0 a) (fun _ q => nomatch q) ?_
  rintro _ h0 _ ⟨rfl, rfl, rfl⟩ -
  exact G.ret0 d30_4 [] (fun _ q => nomatch q) ⟨rfl, rfl, rfl⟩
abbrev rmLNI : Room := { frames := 4, cells := 0, slots := 0, locals := 48 }
theorem cLNI (l : Launch) (Z : State) (a0 : Array Value) (hw : hwT a0 Z) (h0 : Heap) (a d : Addr) (E : Exa Z h0 a LNN) (D : ∀ {O fn d : String} {ty : FieldType}, Laid Z a0 LNN O fn d → parseFieldDescriptor d = some ty → Fld Z h0 a O fn d (defaultValue ty)) :
    Con l Z [] true (⟨"java/util/ImmutableCollections$ListN", "<init>", "([Ljava/lang/Object;Z)V"⟩ : MethodName) jdk_45_method_1_code 3 (none) [] rmLNI #[.ref a, .ref d, .int 0] h0 [a] (fun v h S' => v = none ∧ Exa Z h a LNN ∧ Fld Z h a "java/util/ImmutableCollections$ListN" "elements" "[Ljava/lang/Object;" (.ref d) ∧ Keep h0 h [a] ∧ S' = []) := by
  have hEL : EW Z a0 [] := hEL0
  refine Con.enter (a0 := a0) pn_21 hEL [.val (.ref a), .val (.ref d), .val (.int 0)] (fun m => by first | (simp [entryFrame, mkF, argsToLocals, Value.category]; done) | rfl) ?_
  intro K G
  have F1 := D (Or.inr (hw 110 rfl)) (ty := .array (.object "java/lang/Object")) (by decide)
  have F2 := D (Or.inr (hw 201 rfl)) (ty := .boolean) (by decide)
  clear D
  refine G.aloadN d29_0 rfl rfl ?_
  refine G.callI0 d29_1 (hw 186 rfl) (hw 187 rfl) (hw 190 rfl) (hw 191 rfl) pd_4 (cAIL K.l Z a0 hw h0 a) (fun _ q => nomatch q) ?_
  rintro _ h0 _ ⟨rfl, rfl, rfl⟩ -
  refine G.aloadN d29_4 rfl rfl ?_
  refine G.aloadN d29_5 rfl rfl ?_
  refine G.putF d29_6 (hw 109 rfl) F1 E (by simp) (Or.inr ⟨(hw 110 rfl), rfl, rfl⟩) (hw 181 rfl) (ty := (.array (.object "java/lang/Object"))) (by decide) rfl rfl (fun h1 W1 F1 E1 => ?_)
  replace F2 := Fld.oth F2 W1 (Or.inr (hw 201 rfl)) (Or.inr (hw 110 rfl)) (by decide) (by decide) (by decide)
  refine G.aloadN d29_9 rfl rfl ?_
  refine G.iloadN d29_10 rfl ?_
  refine G.putF d29_11 (hw 200 rfl) F2 E1 (by simp) (Or.inr ⟨(hw 201 rfl), rfl, rfl⟩) (hw 181 rfl) (ty := .boolean) (by decide) rfl rfl (fun h2 W2 F2 E2 => ?_)
  replace F1 := Fld.oth F1 W2 (Or.inr (hw 110 rfl)) (Or.inr (hw 201 rfl)) (by decide) (by decide) (by decide)
  exact G.ret0 d29_14 [] (fun _ q => nomatch q) ⟨rfl, E2, F1, ((Keep.refl _ [a]).wr W1 (Or.inl (List.mem_singleton.mpr rfl))).wr W2 (Or.inl (List.mem_singleton.mpr rfl)), rfl⟩
abbrev rmL1 : Room := { frames := 4, cells := 0, slots := 0, locals := 48 }
theorem cL1A (l : Launch) (Z : State) (a0 : Array Value) (hw : hwT a0 Z) (h0 : Heap) (em : Addr) (hem : Sta Z Z.heap "java/util/ImmutableCollections" "EMPTY" "Ljava/lang/Object;" (.ref em)) (a s : Addr) (E : Exa Z h0 a L1N) (D : ∀ {O fn d : String} {ty : FieldType}, Laid Z a0 L1N O fn d → parseFieldDescriptor d = some ty → Fld Z h0 a O fn d (defaultValue ty)) :
    Con l Z [] true (⟨"java/util/ImmutableCollections$List12", "<init>", "(Ljava/lang/Object;)V"⟩ : MethodName) jdk_44_method_1_code 2 (none) [] rmL1 #[.ref a, .ref s] h0 [a] (fun v h S' => v = none ∧ Exa Z h a L1N ∧ Keep h0 h [a] ∧ S' = []) := by
  have hEL : EW Z a0 [] := hEL0
  refine Con.enter (a0 := a0) pn_22 hEL [.val (.ref a), .val (.ref s)] (fun m => by first | (simp [entryFrame, mkF, argsToLocals, Value.category]; done) | rfl) ?_
  intro K G
  have F1 := D (Or.inr (hw 215 rfl)) (ty := .object "java/lang/Object") (by decide)
  have F2 := D (Or.inr (hw 217 rfl)) (ty := .object "java/lang/Object") (by decide)
  clear D
  refine G.aloadN d34_0 rfl rfl ?_
  refine G.callI0 d34_1 (hw 209 rfl) (hw 187 rfl) (hw 190 rfl) (hw 191 rfl) pd_4 (cAIL K.l Z a0 hw h0 a) (fun _ q => nomatch q) ?_
  rintro _ h0 _ ⟨rfl, rfl, rfl⟩ -
  refine G.aloadN d34_4 rfl rfl ?_
  refine G.aloadN d34_5 rfl rfl ?_
  refine G.callS1 d34_6 (hw 213 rfl) (hw 178 rfl) (hw 179 rfl) (hw 180 rfl) pd_11 (cRNN K.l Z a0 hw h0 s) (fun _ q => nomatch q) ?_
  rintro _ h0 _ ⟨rfl, rfl, rfl⟩ -
  refine G.putF d34_9 (hw 214 rfl) F1 E (by simp) (Or.inr ⟨(hw 215 rfl), rfl, rfl⟩) (hw 203 rfl) (ty := (.object "java/lang/Object")) (by decide) rfl rfl (fun h1 W1 F1 E1 => ?_)
  replace F2 := Fld.oth F2 W1 (Or.inr (hw 217 rfl)) (Or.inr (hw 215 rfl)) (by decide) (by decide) (by decide)
  refine G.aloadN d34_12 rfl rfl ?_
  refine G.getSN d34_13 (hw 227 rfl) hem ?_
  refine G.putF d34_16 (hw 216 rfl) F2 E1 (by simp) (Or.inr ⟨(hw 217 rfl), rfl, rfl⟩) (hw 203 rfl) (ty := (.object "java/lang/Object")) (by decide) rfl rfl (fun h2 W2 F2 E2 => ?_)
  exact G.ret0 d34_19 [] (fun _ q => nomatch q) ⟨rfl, E2, ((Keep.refl _ [a]).wr W1 (Or.inl (List.mem_singleton.mpr rfl))).wr W2 (Or.inl (List.mem_singleton.mpr rfl)), rfl⟩
theorem cL1B (l : Launch) (Z : State) (a0 : Array Value) (hw : hwT a0 Z) (h0 : Heap) (a s t : Addr) (E : Exa Z h0 a L1N) (D : ∀ {O fn d : String} {ty : FieldType}, Laid Z a0 L1N O fn d → parseFieldDescriptor d = some ty → Fld Z h0 a O fn d (defaultValue ty)) :
    Con l Z [] true (⟨"java/util/ImmutableCollections$List12", "<init>", "(Ljava/lang/Object;Ljava/lang/Object;)V"⟩ : MethodName) jdk_44_method_2_code 3 (none) [] rmL1 #[.ref a, .ref s, .ref t] h0 [a] (fun v h S' => v = none ∧ Exa Z h a L1N ∧ Keep h0 h [a] ∧ S' = []) := by
  have hEL : EW Z a0 [] := hEL0
  refine Con.enter (a0 := a0) pn_23 hEL [.val (.ref a), .val (.ref s), .val (.ref t)] (fun m => by first | (simp [entryFrame, mkF, argsToLocals, Value.category]; done) | rfl) ?_
  intro K G
  have F1 := D (Or.inr (hw 215 rfl)) (ty := .object "java/lang/Object") (by decide)
  have F2 := D (Or.inr (hw 217 rfl)) (ty := .object "java/lang/Object") (by decide)
  clear D
  refine G.aloadN d32_0 rfl rfl ?_
  refine G.callI0 d32_1 (hw 209 rfl) (hw 187 rfl) (hw 190 rfl) (hw 191 rfl) pd_4 (cAIL K.l Z a0 hw h0 a) (fun _ q => nomatch q) ?_
  rintro _ h0 _ ⟨rfl, rfl, rfl⟩ -
  refine G.aloadN d32_4 rfl rfl ?_
  refine G.aloadN d32_5 rfl rfl ?_
  refine G.callS1 d32_6 (hw 213 rfl) (hw 178 rfl) (hw 179 rfl) (hw 180 rfl) pd_11 (cRNN K.l Z a0 hw h0 s) (fun _ q => nomatch q) ?_
  rintro _ h0 _ ⟨rfl, rfl, rfl⟩ -
  refine G.putF d32_9 (hw 214 rfl) F1 E (by simp) (Or.inr ⟨(hw 215 rfl), rfl, rfl⟩) (hw 203 rfl) (ty := (.object "java/lang/Object")) (by decide) rfl rfl (fun h1 W1 F1 E1 => ?_)
  replace F2 := Fld.oth F2 W1 (Or.inr (hw 217 rfl)) (Or.inr (hw 215 rfl)) (by decide) (by decide) (by decide)
  refine G.aloadN d32_12 rfl rfl ?_
  refine G.aloadN d32_13 rfl rfl ?_
  refine G.callS1 d32_14 (hw 213 rfl) (hw 178 rfl) (hw 179 rfl) (hw 180 rfl) pd_11 (cRNN K.l Z a0 hw h1 t) (fun _ q => nomatch q) ?_
  rintro _ h1 _ ⟨rfl, rfl, rfl⟩ -
  refine G.putF d32_17 (hw 216 rfl) F2 E1 (by simp) (Or.inr ⟨(hw 217 rfl), rfl, rfl⟩) (hw 203 rfl) (ty := (.object "java/lang/Object")) (by decide) rfl rfl (fun h2 W2 F2 E2 => ?_)
  exact G.ret0 d32_20 [] (fun _ q => nomatch q) ⟨rfl, E2, ((Keep.refl _ [a]).wr W1 (Or.inl (List.mem_singleton.mpr rfl))).wr W2 (Or.inl (List.mem_singleton.mpr rfl)), rfl⟩
/-- the lists that List.copyOf may return, not empty or empty -/
def Ls (Z : State) (h : Heap) (t : Addr) (b : Int32) : Prop := (∃ ea vs, Exa Z h t "java/util/ImmutableCollections$ListN" ∧ Fld Z h t "java/util/ImmutableCollections$ListN" "elements" "[Ljava/lang/Object;" (.ref ea) ∧ Al Z h ea (.object "java/lang/Object") vs ∧ b = (if vs.length = 0 then 1 else 0)) ∨ (Exa Z h t "java/util/ImmutableCollections$List12" ∧ b = 0)
theorem Ls.keep {Z : State} {h h' : Heap} {t : Addr} {b : Int32} (F : Ls Z h t b) (E : Ext h h') : Ls Z h' t b := by
  rcases F with ⟨ea, vs, f1, f2, f3, f4⟩ | ⟨f1, f2⟩
  · exact Or.inl ⟨ea, vs, f1.ext E, f2.ext E, f3.ext E, f4⟩
  · exact Or.inr ⟨f1.ext E, f2⟩
abbrev rmLFA : Room := { frames := 5, cells := 2, slots := 5, locals := 63 }
theorem cLFA (l : Launch) (Z : State) (a0 : Array Value) (hw : hwT a0 Z) (h0 : Heap) (d : Addr) (s0 s1 s2 : Addr) (O1 : OA Z h0 d [.ref s0, .ref s1, .ref s2]) (I0 : Ob Z h0 s0) (I1 : Ob Z h0 s1) (I2 : Ob Z h0 s2) :
    Con l Z [] true (⟨"java/util/ImmutableCollections", "listFromArray", "([Ljava/lang/Object;)Ljava/util/List;"⟩ : MethodName) jdk_56_method_4_code 3 (some (.object "java/util/List")) [] rmLFA #[.ref d] h0 [] (fun v h S' => (∃ t, v = some (.ref t) ∧ Ls Z h t 0) ∧ Ext h0 h ∧ S' = []) := by
  have hEL : EW Z a0 [] := hEL0
  refine Con.enter (a0 := a0) pn_24 hEL [.val (.ref d), .unset, .unset] (fun m => by first | (simp [entryFrame, mkF, argsToLocals, Value.category]; done) | rfl) ?_
  intro K G
  have hlen : (3 : Int32).toInt = (([.ref s0, .ref s1, .ref s2] : List Value).length : Int) := by show (3 : Int32).toInt = ((3 : Nat) : Int); decide
  refine G.aloadN d27_0 rfl rfl ?_
  refine G.alen 3 d27_1 O1.1 hlen ?_
  refine G.newRE (ad := "[Ljava/lang/Object;") 3 3 d27_2 (hw 176 rfl) (hw 138 rfl) (by first | rfl | decide) (by decide) (by decide) (fun h1 E1 L1 A1 => ?_)
  have P1 := oa_new A1
  have hne : d ≠ h0.size := Nat.ne_of_lt O1.1.lt
  have D1 := O1.ext E1
  refine G.astore1 d27_5 ?_
  refine G.iconst 0 d27_6 ?_
  refine G.istore2 d27_7 ?_
  refine G.iloadN d27_8 rfl ?_
  refine G.aloadN d27_9 rfl rfl ?_
  refine G.alen 3 d27_10 D1.1 hlen ?_
  refine G.icmp_ge d27_11 (fun q => absurd (by decide) q) (fun _ => ?_)
  refine G.aloadN d27_14 rfl rfl ?_
  refine G.iloadN d27_15 rfl ?_
  refine G.aloadN d27_16 rfl rfl ?_
  refine G.iloadN d27_17 rfl ?_
  refine G.aaload d27_18 D1.1 rfl (i := 0) (by decide) (v := .ref s0) rfl ?_
  refine G.callS1 d27_19 (hw 177 rfl) (hw 178 rfl) (hw 179 rfl) (hw 180 rfl) pd_11 (cRNN K.l Z a0 hw h1 s0) (fun _ q => nomatch q) ?_
  rintro _ h1 _ ⟨rfl, rfl, rfl⟩ -
  refine G.aastore d27_22 (by simp) P1.1 rfl (P1.sto (Ins.of_exa (I0.ext E1) (hw 139 rfl))) rfl (i := 0) (by decide) (by simp) (fun h2 W2 A2 => ?_)
  have P2 : OA Z h2 h0.size _ := ⟨A2, P1.2.1.wr W2, P1.2.2⟩
  have D2 := D1.other W2 hne
  refine G.iinc2 1 d27_23 ?_
  refine G.goto d27_26 ?_
  refine G.iloadN d27_8 rfl ?_
  refine G.aloadN d27_9 rfl rfl ?_
  refine G.alen 3 d27_10 D2.1 hlen ?_
  refine G.icmp_ge d27_11 (fun q => absurd (by decide) q) (fun _ => ?_)
  refine G.aloadN d27_14 rfl rfl ?_
  refine G.iloadN d27_15 rfl ?_
  refine G.aloadN d27_16 rfl rfl ?_
  refine G.iloadN d27_17 rfl ?_
  refine G.aaload d27_18 D2.1 rfl (i := 1) (by decide) (v := .ref s1) rfl ?_
  refine G.callS1 d27_19 (hw 177 rfl) (hw 178 rfl) (hw 179 rfl) (hw 180 rfl) pd_11 (cRNN K.l Z a0 hw h2 s1) (fun _ q => nomatch q) ?_
  rintro _ h2 _ ⟨rfl, rfl, rfl⟩ -
  refine G.aastore d27_22 (by simp) P2.1 rfl (P2.sto (Ins.of_exa ((I1.ext E1).wr W2) (hw 139 rfl))) rfl (i := 1) (by decide) (by simp) (fun h3 W3 A3 => ?_)
  have P3 : OA Z h3 h0.size _ := ⟨A3, P2.2.1.wr W3, P2.2.2⟩
  have D3 := D2.other W3 hne
  refine G.iinc2 1 d27_23 ?_
  refine G.goto d27_26 ?_
  refine G.iloadN d27_8 rfl ?_
  refine G.aloadN d27_9 rfl rfl ?_
  refine G.alen 3 d27_10 D3.1 hlen ?_
  refine G.icmp_ge d27_11 (fun q => absurd (by decide) q) (fun _ => ?_)
  refine G.aloadN d27_14 rfl rfl ?_
  refine G.iloadN d27_15 rfl ?_
  refine G.aloadN d27_16 rfl rfl ?_
  refine G.iloadN d27_17 rfl ?_
  refine G.aaload d27_18 D3.1 rfl (i := 2) (by decide) (v := .ref s2) rfl ?_
  refine G.callS1 d27_19 (hw 177 rfl) (hw 178 rfl) (hw 179 rfl) (hw 180 rfl) pd_11 (cRNN K.l Z a0 hw h3 s2) (fun _ q => nomatch q) ?_
  rintro _ h3 _ ⟨rfl, rfl, rfl⟩ -
  refine G.aastore d27_22 (by simp) P3.1 rfl (P3.sto (Ins.of_exa (((I2.ext E1).wr W2).wr W3) (hw 139 rfl))) rfl (i := 2) (by decide) (by simp) (fun h4 W4 A4 => ?_)
  have D4 := D3.other W4 hne
  refine G.iinc2 1 d27_23 ?_
  refine G.goto d27_26 ?_
  refine G.iloadN d27_8 rfl ?_
  refine G.aloadN d27_9 rfl rfl ?_
  refine G.alen 3 d27_10 D4.1 hlen ?_
  refine G.icmp_ge d27_11 (fun _ => ?_) (fun q => absurd q (by decide))
  have X4 : Keep h0 h4 [] := (((ext_keep E1 []).wr W2 (Or.inr (Nat.le_refl _))).wr W3 (Or.inr (Nat.le_refl _))).wr W4 (Or.inr (Nat.le_refl _))
  refine G.newO d27_29 (hw 76 rfl) (hw 181 rfl) (hw 107 rfl) (fun h5 E5 L5 A5 => ?_)
  refine G.dup d27_32 ?_
  refine G.aloadN d27_33 rfl rfl ?_
  refine G.iconst 0 d27_34 ?_
  refine G.callIN2 d27_35 (hw 182 rfl) (hw 183 rfl) (hw 107 rfl) (hw 185 rfl) pd_12 (cLNI K.l Z a0 hw h5 h4.size h0.size A5.1 A5.2) (by simp) ?_
  rintro _ h6 _ ⟨rfl, E6, F6, K6, rfl⟩ -
  have hn6 : h0.size ∉ [h4.size] := ninS (Nat.ne_of_lt A4.lt) nin0
  refine G.aret d27_38 [] (fun _ q => nomatch q) ⟨⟨_, rfl, Or.inl ⟨h0.size, _, E6, F6, (A4.ext E5).keep K6 hn6, by simp⟩⟩, ?_, rfl⟩
  exact keep_nil_ext ((X4.ext E5).trans K6 (fun x q => by cases List.mem_singleton.mp q; exact Or.inr X4.1))
abbrev rmLOF : Room := { frames := 6, cells := 2, slots := 5, locals := 77 }
theorem cLOF1 (l : Launch) (Z : State) (a0 : Array Value) (hw : hwT a0 Z) (h0 : Heap) (em : Addr) (hem : Sta Z Z.heap "java/util/ImmutableCollections" "EMPTY" "Ljava/lang/Object;" (.ref em)) (d s0 : Addr) (O1 : OA Z h0 d [.ref s0]) : Con l Z [] true (⟨"java/util/List", "of", "([Ljava/lang/Object;)Ljava/util/List;"⟩ : MethodName) jdk_40_method_47_code 2 (some (.object "java/util/List")) [] rmLOF #[.ref d] h0 [] (fun v h S' => (∃ t, v = some (.ref t) ∧ Ls Z h t 0) ∧ Ext h0 h ∧ S' = []) := by
  have hEL : EW Z a0 [] := hEL0
  refine Con.enter (a0 := a0) pn_25 hEL [.val (.ref d), .unset] (fun m => by first | (simp [entryFrame, mkF, argsToLocals, Value.category]; done) | rfl) ?_
  intro K G
  refine G.aloadN d26_0 rfl rfl ?_
  refine G.alen 1 d26_1 O1.1 (by show (1 : Int32).toInt = ((1 : Nat) : Int); decide) ?_
  refine G.tswIn (o := 32) (pc' := 34) d26_2.1 (by decide) (by decide) (by decide) (by decide) ?_
  refine G.newO d26_34 (hw 202 rfl) (hw 203 rfl) (hw 204 rfl) (fun h1 E1 L1 A1 => ?_)
  refine G.dup d26_37 ?_
  refine G.aloadN d26_38 rfl rfl ?_
  refine G.iconst 0 d26_39 ?_
  refine G.aaload d26_40 (O1.ext E1).1 rfl (i := 0) (by decide) (v := .ref s0) rfl ?_
  refine G.callI1 d26_41 (hw 224 rfl) (hw 225 rfl) (hw 204 rfl) (hw 226 rfl) pd_13 (cL1A K.l Z a0 hw h1 em hem h0.size s0 A1.1 A1.2) (by simp) ?_
  rintro _ h2 _ ⟨rfl, E2, K2, rfl⟩ -
  exact G.aret d26_44 [] (fun _ q => nomatch q) ⟨⟨_, rfl, Or.inr ⟨E2, rfl⟩⟩, keep_nil_ext ((ext_keep E1 []).trans K2 (fun x q => by cases List.mem_singleton.mp q; exact Or.inr (Nat.le_refl _))), rfl⟩
theorem cLOF2 (l : Launch) (Z : State) (a0 : Array Value) (hw : hwT a0 Z) (h0 : Heap) (d s0 s1 : Addr) (O1 : OA Z h0 d [.ref s0, .ref s1]) : Con l Z [] true (⟨"java/util/List", "of", "([Ljava/lang/Object;)Ljava/util/List;"⟩ : MethodName) jdk_40_method_47_code 2 (some (.object "java/util/List")) [] rmLOF #[.ref d] h0 [] (fun v h S' => (∃ t, v = some (.ref t) ∧ Ls Z h t 0) ∧ Ext h0 h ∧ S' = []) := by
  have hEL : EW Z a0 [] := hEL0
  refine Con.enter (a0 := a0) pn_25 hEL [.val (.ref d), .unset] (fun m => by first | (simp [entryFrame, mkF, argsToLocals, Value.category]; done) | rfl) ?_
  intro K G
  refine G.aloadN d26_0 rfl rfl ?_
  refine G.alen 2 d26_1 O1.1 (by show (2 : Int32).toInt = ((2 : Nat) : Int); decide) ?_
  refine G.tswIn (o := 43) (pc' := 45) d26_2.1 (by decide) (by decide) (by decide) (by decide) ?_
  refine G.newO d26_45 (hw 202 rfl) (hw 203 rfl) (hw 204 rfl) (fun h1 E1 L1 A1 => ?_)
  refine G.dup d26_48 ?_
  refine G.aloadN d26_49 rfl rfl ?_
  refine G.iconst 0 d26_50 ?_
  refine G.aaload d26_51 (O1.ext E1).1 rfl (i := 0) (by decide) (v := .ref s0) rfl ?_
  refine G.aloadN d26_52 rfl rfl ?_
  refine G.iconst 1 d26_53 ?_
  refine G.aaload d26_54 (O1.ext E1).1 rfl (i := 1) (by decide) (v := .ref s1) rfl ?_
  refine G.callI2 d26_55 (hw 205 rfl) (hw 206 rfl) (hw 204 rfl) (hw 208 rfl) pd_14 (cL1B K.l Z a0 hw h1 h0.size s0 s1 A1.1 A1.2) (by simp) ?_
  rintro _ h2 _ ⟨rfl, E2, K2, rfl⟩ -
  exact G.aret d26_58 [] (fun _ q => nomatch q) ⟨⟨_, rfl, Or.inr ⟨E2, rfl⟩⟩, keep_nil_ext ((ext_keep E1 []).trans K2 (fun x q => by cases List.mem_singleton.mp q; exact Or.inr (Nat.le_refl _))), rfl⟩
theorem cLOF3 (l : Launch) (Z : State) (a0 : Array Value) (hw : hwT a0 Z) (h0 : Heap) (d s0 s1 s2 : Addr) (O1 : OA Z h0 d [.ref s0, .ref s1, .ref s2]) (I0 : Ob Z h0 s0) (I1 : Ob Z h0 s1) (I2 : Ob Z h0 s2) : Con l Z [] true (⟨"java/util/List", "of", "([Ljava/lang/Object;)Ljava/util/List;"⟩ : MethodName) jdk_40_method_47_code 2 (some (.object "java/util/List")) [] rmLOF #[.ref d] h0 [] (fun v h S' => (∃ t, v = some (.ref t) ∧ Ls Z h t 0) ∧ Ext h0 h ∧ S' = []) := by
  have hEL : EW Z a0 [] := hEL0
  refine Con.enter (a0 := a0) pn_25 hEL [.val (.ref d), .unset] (fun m => by first | (simp [entryFrame, mkF, argsToLocals, Value.category]; done) | rfl) ?_
  intro K G
  refine G.aloadN d26_0 rfl rfl ?_
  refine G.alen 3 d26_1 O1.1 (by show (3 : Int32).toInt = ((3 : Nat) : Int); decide) ?_
  refine G.tswOut (pc' := 59) d26_2.1 (by decide) (by decide) (by decide) ?_
  refine G.aloadN d26_59 rfl rfl ?_
  refine G.callS1 d26_60 (hw 173 rfl) (hw 174 rfl) (hw 69 rfl) (hw 175 rfl) pd_15 (cLFA K.l Z a0 hw h0 d s0 s1 s2 O1 I0 I1 I2) (fun _ q => nomatch q) ?_
  rintro _ h1 _ ⟨⟨t, rfl, T1⟩, E1, rfl⟩ -
  exact G.aret d26_63 [] (fun _ q => nomatch q) ⟨⟨t, rfl, T1⟩, E1, rfl⟩
theorem cOF0 (l : Launch) (Z : State) (a0 : Array Value) (hw : hwT a0 Z) (h0 : Heap) (hA : AS Z) : Con l Z [] true (⟨"java/util/List", "of", "()Ljava/util/List;"⟩ : MethodName) jdk_40_method_36_code 0 (some (.object "java/util/List")) [] rm0 #[] h0 [] (fun v h S' => (∃ t, v = some (.ref t) ∧ Ls Z h t 1) ∧ h = h0 ∧ S' = []) := by
  have hEL : EW Z a0 [] := hEL0
  obtain ⟨-, ⟨e0, ea, S1, E1, F1, A1⟩, -⟩ := hA
  refine Con.enter (a0 := a0) pn_26 hEL [] (fun m => by first | (simp [entryFrame, mkF, argsToLocals, Value.category]; done) | rfl) ?_
  intro K G
  refine Go.oldIn (fun O => ?_)
  refine G.getS d14_0 (hw 91 rfl) S1 ?_
  exact G.aret d14_3 [] (fun _ q => nomatch q) ⟨⟨e0, rfl, Or.inl ⟨ea, [], E1.ext O, F1.ext O, A1.ext O, rfl⟩⟩, rfl, rfl⟩
/-- the ArrayList of the law with its strings -/
def Lst (Z : State) (h : Heap) (a : Addr) (ss : List Addr) : Prop := ss.length ≤ 3 ∧ (∀ s ∈ ss, Exa Z h s "java/lang/String") ∧ ∃ m n d, n.toInt = (ss.length : Int) ∧ ALs Z h a m n d ∧ (0 < ss.length → ∃ vs, OA Z h d vs ∧ vs.length = 10 ∧ vs.take ss.length = ss.map .ref)
theorem lst0 {Z : State} {h : Heap} {a d : Addr} {m : Int32} (B : ALs Z h a m 0 d) : Lst Z h a [] := ⟨Nat.zero_le _, (fun _ q => nomatch q), m, 0, d, toInt_0, B, fun z => absurd z (Nat.lt_irrefl 0)⟩
abbrev rmLCP : Room := { frames := 7, cells := 3, slots := 15, locals := 90 }
theorem cLCP (l : Launch) (Z : State) (a0 : Array Value) (hw : hwT a0 Z) (h0 : Heap) (hA : AS Z) (mr : Addr) (hMr : Mir Z "[Ljava/lang/Object;" mr) (a : Addr) (ss : List Addr) (T : Lst Z h0 a ss) : Con l Z [] true (⟨"java/util/ImmutableCollections", "listCopy", "(Ljava/util/Collection;)Ljava/util/List;"⟩ : MethodName) jdk_56_method_3_code 2 (some (.object "java/util/List")) [] rmLCP #[.ref a] h0 [] (fun v h S' => (∃ t, v = some (.ref t) ∧ Ls Z h t (if ss.length = 0 then 1 else 0)) ∧ Ext h0 h ∧ S' = []) := by
  have hEL : EW Z a0 [] := hEL0
  obtain ⟨h3, hI, m, n, d, hn, B, hO⟩ := T
  obtain ⟨em, hem⟩ := hA.2.2
  refine Con.enter (a0 := a0) pn_27 hEL [.val (.ref a), .unset] (fun m => by first | (simp [entryFrame, mkF, argsToLocals, Value.category]; done) | rfl) ?_
  intro K G
  refine G.aloadN d12_0 rfl rfl ?_
  refine G.instNo d12_1 (hw 71 rfl) B.1 (notInst3 (hw 72 rfl) (hw 73 rfl) (hw 74 rfl) (hw 75 rfl) (hw 203 rfl) (by decide) (by decide) (by decide) (by decide)) ?_
  refine G.if_ne d12_4 (fun q => absurd rfl q) (fun _ => ?_)
  refine G.aloadN d12_7 rfl rfl ?_
  refine G.instNo d12_8 (hw 76 rfl) B.1 (notInst3 (hw 72 rfl) (hw 73 rfl) (hw 74 rfl) (hw 75 rfl) (hw 181 rfl) (by decide) (by decide) (by decide) (by decide)) ?_
  refine G.if_eq d12_11 (fun _ => ?_) (fun q => absurd rfl q)
  refine G.aloadN d12_31 rfl rfl ?_
  refine G.callF0 d12_32 (hw 77 rfl) (hw 78 rfl) (hw 79 rfl) (hw 80 rfl) (hw 81 rfl) (hw 82 rfl) (hw 83 rfl) (hw 84 rfl) (hw 85 rfl) (hw 32 rfl) pd_16 B.1 (cAEM K.l Z a0 hw h0 a d m n B) (fun _ q => nomatch q) ?_
  rintro _ h0 _ ⟨rfl, rfl, rfl⟩ -
  by_cases hz : ss.length = 0
  · have n0 : n = 0 := Int32.toInt_inj.mp (by rw [hn, hz, toInt_0]; rfl)
    rw [if_pos n0, if_pos hz]
    refine G.if_eq d12_37 (fun q => absurd q (by decide)) (fun _ => ?_)
    refine G.callS0 d12_40 (hw 88 rfl) (hw 89 rfl) (hw 65 rfl) (hw 90 rfl) pd_17 (cOF0 K.l Z a0 hw h0 hA) (fun _ q => nomatch q) ?_
    rintro _ h0 _ ⟨⟨t, rfl, T1⟩, rfl, rfl⟩ -
    exact G.aret d12_43 [] (fun _ q => nomatch q) ⟨⟨t, rfl, T1⟩, ⟨Nat.le_refl _, fun _ _ q => q⟩, rfl⟩
  · have n0 : ¬ n = 0 := fun q => hz (by have z := congrArg Int32.toInt q; rw [hn, toInt_0] at z; omega)
    rw [if_neg n0, if_neg hz]
    refine G.if_eq d12_37 (fun _ => ?_) (fun q => absurd rfl q)
    obtain ⟨vs, O1, hv, ht⟩ := hO (by omega)
    have hs : ∀ x ∈ vs.take ss.length, ∃ s, x = .ref s ∧ Ob Z h0 s := by
      intro x q
      rw [ht] at q
      obtain ⟨s, z1, z2⟩ := List.mem_map.mp q
      exact ⟨s, z2.symm, hI s z1⟩
    refine G.aloadN d12_44 rfl rfl ?_
    refine G.callF0 d12_45 (hw 140 rfl) (hw 141 rfl) (hw 142 rfl) (hw 143 rfl) (hw 144 rfl) (hw 145 rfl) (hw 146 rfl) (hw 84 rfl) (hw 147 rfl) (hw 32 rfl) pd_7 B.1 (cATA K.l Z a0 hw h0 mr hMr a d vs m n ss.length hn (by omega) hv B O1 hs) (fun _ q => nomatch q) ?_
    rintro _ h1 _ ⟨⟨na, rfl, O2⟩, E1, rfl⟩ -
    rw [ht] at O2
    match ss, h3, hI, O2, hz with
    | [], _, _, _, hz => exact absurd rfl hz
    | [s0], _, hI, O2, _ =>
      refine G.callS1 d12_50 (hw 170 rfl) (hw 171 rfl) (hw 65 rfl) (hw 172 rfl) pd_15 (cLOF1 K.l Z a0 hw h1 em hem na s0 O2) (fun _ q => nomatch q) ?_
      rintro _ h2 _ ⟨⟨t, rfl, T2⟩, E2, rfl⟩ -
      exact G.aret d12_53 [] (fun _ q => nomatch q) ⟨⟨t, rfl, T2⟩, keep_nil_ext ((ext_keep E1 []).ext E2), rfl⟩
    | [s0, s1], _, hI, O2, _ =>
      refine G.callS1 d12_50 (hw 170 rfl) (hw 171 rfl) (hw 65 rfl) (hw 172 rfl) pd_15 (cLOF2 K.l Z a0 hw h1 na s0 s1 O2) (fun _ q => nomatch q) ?_
      rintro _ h2 _ ⟨⟨t, rfl, T2⟩, E2, rfl⟩ -
      exact G.aret d12_53 [] (fun _ q => nomatch q) ⟨⟨t, rfl, T2⟩, keep_nil_ext ((ext_keep E1 []).ext E2), rfl⟩
    | [s0, s1, s2], _, hI, O2, _ =>
      refine G.callS1 d12_50 (hw 170 rfl) (hw 171 rfl) (hw 65 rfl) (hw 172 rfl) pd_15 (cLOF3 K.l Z a0 hw h1 na s0 s1 s2 O2 ((hI s0 (by simp)).ext E1) ((hI s1 (by simp)).ext E1) ((hI s2 (by simp)).ext E1)) (fun _ q => nomatch q) ?_
      rintro _ h2 _ ⟨⟨t, rfl, T2⟩, E2, rfl⟩ -
      exact G.aret d12_53 [] (fun _ q => nomatch q) ⟨⟨t, rfl, T2⟩, keep_nil_ext ((ext_keep E1 []).ext E2), rfl⟩
    | _ :: _ :: _ :: _ :: _, h3, _, _, _ => simp at h3
abbrev rmCOF : Room := { frames := 8, cells := 3, slots := 15, locals := 103 }
theorem cCOF (l : Launch) (Z : State) (a0 : Array Value) (hw : hwT a0 Z) (h0 : Heap) (hA : AS Z) (mr : Addr) (hMr : Mir Z "[Ljava/lang/Object;" mr) (a : Addr) (ss : List Addr) (T : Lst Z h0 a ss) : Con l Z [] true (⟨"java/util/List", "copyOf", "(Ljava/util/Collection;)Ljava/util/List;"⟩ : MethodName) jdk_40_method_48_code 1 (some (.object "java/util/List")) [] rmCOF #[.ref a] h0 [] (fun v h S' => (∃ t, v = some (.ref t) ∧ Ls Z h t (if ss.length = 0 then 1 else 0)) ∧ Ext h0 h ∧ S' = []) := by
  have hEL : EW Z a0 [] := hEL0
  refine Con.enter (a0 := a0) pn_28 hEL [.val (.ref a)] (fun m => by first | (simp [entryFrame, mkF, argsToLocals, Value.category]; done) | rfl) ?_
  intro K G
  refine G.aloadN d11_0 rfl rfl ?_
  refine G.callS1 d11_1 (hw 67 rfl) (hw 68 rfl) (hw 69 rfl) (hw 70 rfl) pd_18 (cLCP K.l Z a0 hw h0 hA mr hMr a ss T) (fun _ q => nomatch q) ?_
  rintro _ h1 _ ⟨⟨t, rfl, T1⟩, E1, rfl⟩ -
  exact G.aret d11_4 [] (fun _ q => nomatch q) ⟨⟨t, rfl, T1⟩, E1, rfl⟩
theorem exa_ne {Z : State} {h : Heap} {t j : Addr} {C D : String} (f : Exa Z h t C) (g : Exa Z h j D) (hn : C ≠ D) : t ≠ j := fun e => by
  subst e
  obtain ⟨c1, k1, a1, a2, -⟩ := f
  obtain ⟨c2, k2, b1, b2, -⟩ := g
  cases a1.symm.trans b1
  exact ids_ne a2 b2 hn rfl
abbrev JN : String := "com/example/vestline/vestline/changeofcontrol/Judgement"
theorem Lst.other {Z : State} {h h' : Heap} {a j : Addr} {sl : Nat} {v : Value} {ss : List Addr} (F : Lst Z h a ss) (W : Wr h h' j sl v) (ha : a ≠ j) (hd : ∀ d vs, Al Z h d (.object "java/lang/Object") vs → d ≠ j) : Lst Z h' a ss := by
  obtain ⟨h1, h2, m, n, d, h3, B, hO⟩ := F
  refine ⟨h1, fun s q => (h2 s q).wr W, m, n, d, h3, ⟨B.1.wr W, B.2.1.other W (Or.inl ha), B.2.2.1.other W (Or.inl ha), B.2.2.2.other W (Or.inl ha)⟩, fun q => ?_⟩
  obtain ⟨vs, O1, hv, ht⟩ := hO q
  exact ⟨vs, O1.other W (hd d vs O1.1), hv, ht⟩
theorem Lst.ext {Z : State} {h h' : Heap} {a : Addr} {ss : List Addr} (F : Lst Z h a ss) (E : Ext h h') : Lst Z h' a ss := by
  obtain ⟨h1, h2, m, n, d, h3, B, hO⟩ := F
  refine ⟨h1, fun s q => (h2 s q).ext E, m, n, d, h3, B.ext E, fun q => ?_⟩
  obtain ⟨vs, O1, hv, ht⟩ := hO q
  exact ⟨vs, O1.ext E, hv, ht⟩
abbrev rmJI : Room := { frames := 9, cells := 3, slots := 15, locals := 116 }
theorem cJI (l : Launch) (Z : State) (a0 : Array Value) (hw : hwT a0 Z) (h0 : Heap) (hA : AS Z) (mr : Addr) (hMr : Mir Z "[Ljava/lang/Object;" mr) (j p a : Addr) (haj : a ≠ j) (ss : List Addr) (T : Lst Z h0 a ss) (E : Exa Z h0 j JN) (D : ∀ {O fn d : String} {ty : FieldType}, Laid Z a0 JN O fn d → parseFieldDescriptor d = some ty → Fld Z h0 j O fn d (defaultValue ty)) :
    Con l Z [] true (⟨"com/example/vestline/vestline/changeofcontrol/Judgement", "<init>", "(Ljava/lang/String;Ljava/util/List;)V"⟩ : MethodName) prog_8_method_1_code 3 (none) [] rmJI #[.ref j, .ref p, .ref a] h0 [j] (fun v h S' => v = none ∧ (∃ t, Exa Z h j JN ∧ Fld Z h j "com/example/vestline/vestline/changeofcontrol/Judgement" "clausesMet" "Ljava/util/List;" (.ref t) ∧ Ls Z h t (if ss.length = 0 then 1 else 0)) ∧ S' = []) := by
  have hEL : EW Z a0 [] := hEL0
  refine Con.enter (a0 := a0) pn_29 hEL [.val (.ref j), .val (.ref p), .val (.ref a)] (fun m => by first | (simp [entryFrame, mkF, argsToLocals, Value.category]; done) | rfl) ?_
  intro K G
  have F1 := D (Or.inr (hw 62 rfl)) (ty := .object "java/lang/String") (by decide)
  have F2 := D (Or.inr (hw 93 rfl)) (ty := .object "java/util/List") (by decide)
  refine G.aloadN d10_0 rfl rfl ?_
  refine G.initO d10_1 (hw 60 rfl) (hw 12 rfl) (hw 13 rfl) ?_
  refine G.aloadN d10_4 rfl rfl ?_
  refine G.aloadN d10_5 rfl rfl ?_
  refine G.putF d10_6 (hw 61 rfl) F1 E (by simp) (Or.inr ⟨(hw 62 rfl), rfl, rfl⟩) (hw 55 rfl) (ty := (.object "java/lang/String")) (by decide) rfl rfl (fun h1 W1 F1 E1 => ?_)
  replace F2 := Fld.oth F2 W1 (Or.inr (hw 93 rfl)) (Or.inr (hw 62 rfl)) (by decide) (by decide) (by decide)
  refine G.aloadN d10_9 rfl rfl ?_
  refine G.aloadN d10_10 rfl rfl ?_
  have T1 := T.other W1 haj (fun d vs q => Ne.symm (q.neExa E (hw 55 rfl)))
  refine G.callS1 d10_11 (hw 63 rfl) (hw 64 rfl) (hw 65 rfl) (hw 66 rfl) pd_18 (cCOF K.l Z a0 hw h1 hA mr hMr a ss T1) (fun _ q => nomatch q) ?_
  rintro _ h2 _ ⟨⟨t, rfl, T2⟩, E2, rfl⟩ -
  refine G.putF d10_14 (hw 92 rfl) (F2.ext E2) (E1.ext E2) (by simp) (Or.inr ⟨(hw 93 rfl), rfl, rfl⟩) (hw 55 rfl) (ty := (.object "java/util/List")) (by decide) rfl rfl (fun h3 W3 F3 E3 => ?_)
  have T3 : Ls Z h3 t (if ss.length = 0 then 1 else 0) := by
    rcases T2 with ⟨ea, vs, f1, f2, f3, f4⟩ | ⟨f1, f2⟩
    · have n1 : t ≠ j := exa_ne f1 (E1.ext E2) (by decide)
      have n2 : ea ≠ j := Ne.symm (f3.neExa (E1.ext E2) (hw 55 rfl))
      exact Or.inl ⟨ea, vs, f1.wr W3, f2.other W3 (Or.inl n1), f3.other W3 n2, f4⟩
    · exact Or.inr ⟨f1.wr W3, f2⟩
  exact G.ret0 d10_17 [] (fun _ q => nomatch q) ⟨rfl, ⟨t, E3, F3, T3⟩, rfl⟩
theorem cLNE (l : Launch) (Z : State) (a0 : Array Value) (hw : hwT a0 Z) (h0 : Heap) (t ea : Addr) (vs : List Value) (F : Fld Z h0 t "java/util/ImmutableCollections$ListN" "elements" "[Ljava/lang/Object;" (.ref ea)) (A : Al Z h0 ea (.object "java/lang/Object") vs) : Con l Z [] true (⟨"java/util/ImmutableCollections$ListN", "isEmpty", "()Z"⟩ : MethodName) jdk_45_method_2_code 1 (some .boolean) [] rm0 #[.ref t] h0 [] (fun v h S' => v = some (.int (if vs.length = 0 then 1 else 0)) ∧ h = h0 ∧ S' = []) := by
  have hEL : EW Z a0 [] := hEL0
  have hl : (Int32.ofNat vs.length).toInt = (vs.length : Int) := len_toInt A.len
  refine Con.enter (a0 := a0) pn_30 hEL [.val (.ref t)] (fun m => by first | (simp [entryFrame, mkF, argsToLocals, Value.category]; done) | rfl) ?_
  intro K G
  refine G.aloadN d16_0 rfl rfl ?_
  refine G.getF d16_1 (hw 109 rfl) F ?_
  refine G.alen (Int32.ofNat vs.length) d16_4 A hl ?_
  refine G.if_ne d16_5 (fun q => ?_) (fun q => ?_)
  · refine G.iconst 0 d16_12 ?_
    exact G.nret d16_13 (Or.inl rfl) (z' := 0) (by decide) [] (fun _ q => nomatch q) ⟨by rw [if_neg (fun z => q (Int32.toInt_inj.mp (by rw [hl, z, toInt_0]; rfl)))], rfl, rfl⟩
  · refine G.iconst 1 d16_8 ?_
    refine G.goto d16_9 ?_
    exact G.nret d16_13 (Or.inl rfl) (z' := 1) (by decide) [] (fun _ q => nomatch q) ⟨by rw [if_pos (by have z := congrArg Int32.toInt q; rw [hl, toInt_0] at z; omega)], rfl, rfl⟩
theorem cL1E (l : Launch) (Z : State) (a0 : Array Value) (hw : hwT a0 Z) (h0 : Heap) (t : Addr) : Con l Z [] true (⟨"java/util/ImmutableCollections$List12", "isEmpty", "()Z"⟩ : MethodName) jdk_44_method_4_code 1 (some .boolean) [] rm0 #[.ref t] h0 [] (fun v h S' => v = some (.int 0) ∧ h = h0 ∧ S' = []) := by
  have hEL : EW Z a0 [] := hEL0
  refine Con.enter (a0 := a0) pn_31 hEL [.val (.ref t)] (fun m => by first | (simp [entryFrame, mkF, argsToLocals, Value.category]; done) | rfl) ?_
  intro K G
  refine G.iconst 0 d33_0 ?_
  exact G.nret d33_1 (Or.inl rfl) (z' := 0) (by decide) [] (fun _ q => nomatch q) ⟨rfl, rfl, rfl⟩
abbrev rmCC : Room := { frames := 1, cells := 0, slots := 0, locals := 12 }
theorem cCC (l : Launch) (Z : State) (a0 : Array Value) (hw : hwT a0 Z) (h0 : Heap) (j t : Addr) (b : Int32) (F : Fld Z h0 j "com/example/vestline/vestline/changeofcontrol/Judgement" "clausesMet" "Ljava/util/List;" (.ref t)) (T : Ls Z h0 t b) : Con l Z [] true (⟨"com/example/vestline/vestline/changeofcontrol/Judgement", "changesControl", "()Z"⟩ : MethodName) prog_8_method_4_code 1 (some .boolean) [] rmCC #[.ref j] h0 [] (fun v h S' => v = some (.int (if b = 0 then 1 else 0))) := by
  have hEL : EW Z a0 [] := hEL0
  refine Con.enter (a0 := a0) pn_32 hEL [.val (.ref j)] (fun m => by first | (simp [entryFrame, mkF, argsToLocals, Value.category]; done) | rfl) ?_
  intro K G
  have fin : Go Z [] true rmCC (fun v h S' => v = some (.int (if b = 0 then 1 else 0))) K h0 [] 0 0 9 [.val (.ref j)] [.int b] := by
    refine G.if_ne d15_9 (fun q => ?_) (fun q => ?_)
    · refine G.iconst 0 d15_16 ?_
      exact G.nret d15_17 (Or.inl rfl) (z' := 0) (by decide) [] (fun _ q => nomatch q) (by rw [if_neg q])
    · refine G.iconst 1 d15_12 ?_
      refine G.goto d15_13 ?_
      exact G.nret d15_17 (Or.inl rfl) (z' := 1) (by decide) [] (fun _ q => nomatch q) (by rw [if_pos q])
  refine G.aloadN d15_0 rfl rfl ?_
  refine G.getF d15_1 (hw 92 rfl) F ?_
  rcases T with ⟨ea, vs, f1, f2, f3, f4⟩ | ⟨f1, f2⟩
  · refine G.callF0 d15_4 (hw 99 rfl) (hw 100 rfl) (hw 101 rfl) (hw 102 rfl) (hw 103 rfl) (hw 104 rfl) (hw 105 rfl) (hw 106 rfl) (hw 108 rfl) (hw 107 rfl) pd_16 f1 (cLNE K.l Z a0 hw h0 t ea vs f2 f3) (fun _ q => nomatch q) ?_
    rintro _ h0 _ ⟨rfl, rfl, rfl⟩ -
    rw [← f4]; exact fin
  · refine G.callF0 d15_4 (hw 99 rfl) (hw 100 rfl) (hw 101 rfl) (hw 218 rfl) (hw 219 rfl) (hw 220 rfl) (hw 221 rfl) (hw 222 rfl) (hw 223 rfl) (hw 204 rfl) pd_16 f1 (cL1E K.l Z a0 hw h0 t) (fun _ q => nomatch q) ?_
    rintro _ h0 _ ⟨rfl, rfl, rfl⟩ -
    rw [f2] at fin ⊢; exact fin
theorem arrayAt_heap {s : State} {a : Addr} {cell : Cell} (h : s.arrayAt? a = some cell) : s.heap[a]? = some cell := by
  unfold State.arrayAt? at h
  cases hc : s.heap[a]? with
  | none => simp [hc] at h
  | some c =>
    cases hk : s.vm.classes[c.cls]? with
    | none => simp [hc, hk] at h
    | some k =>
      simp only [hc, hk, Option.bind_eq_bind, Option.bind_some] at h
      split at h
      · cases h
      · split at h
        · exact h
        · cases h
theorem al_empty {args : Array Value} {s : State} {t : Term} {a : Addr} {ty : FieldType} (ev : t.eval args s none [] s = some (.ref a)) (n1 : (Jvm.Cond.arrayOf t ty).value args s none s [] = some true) (n2 : (Jvm.Cond.eq (Term.length t) (Term.int 0)).value args s none s [] = some true) : Al s s.heap a ty [] := by
  have l2 := Cond.eq_int (beq_iff_eq.mpr n2) rfl
  simp only [Term.eval, ev] at l2
  cases hc : s.arrayAt? a with
  | none => simp [hc] at l2
  | some cell =>
    simp only [hc, Option.pure_def, Option.bind_eq_bind, Option.bind_some] at l2
    split at l2
    · rename_i hlt
      have := congrArg Int32.toInt (Value.int.inj (Option.some.inj l2))
      rw [show cell.slots.size.toInt32 = Int32.ofNat cell.slots.size from rfl, len_toInt (by omega), toInt_0] at this
      obtain ⟨c, hA⟩ := Arr.start ev n1
      have e : c = cell := Option.some.inj (hA.1.symm.trans (arrayAt_heap hc))
      subst e
      exact ⟨c, hA, Array.eq_empty_of_size_eq_zero (by omega), by simp, fun _ q => nomatch q⟩
    · cases l2
theorem own_as {a0 : Array Value} {s : State} (hw : hwT a0 s) (hj : ∀ (i : Nat) (d : Jvm.Cond), jdkStatics_1[i]? = some d → d.before a0 s = true) : AS s := by
  refine ⟨?_, ?_, ?_⟩
  · have n1 := Cond.before_iff.mp (hj 15 _ rfl)
    have n2 := Cond.before_iff.mp (hj 17 _ rfl)
    obtain ⟨d0, ev⟩ := arr_v n1
    exact ⟨d0, Sta.start ev (Or.inr ⟨(hw 32 rfl), hj 11 _ rfl⟩), al_empty ev n1 n2⟩
  · have x1 := Cond.before_iff.mp (hj 20 _ rfl)
    have n1 := Cond.before_iff.mp (hj 21 _ rfl)
    have n2 := Cond.before_iff.mp (hj 23 _ rfl)
    obtain ⟨e0, ev⟩ := exa_v x1
    obtain ⟨ea, ef⟩ := arr_v n1
    have A := al_empty ef n1 n2
    refine ⟨e0, ea, Sta.start ev (Or.inl (hj 19 _ rfl)), Exa.start ev x1, Fld.start ?_, A⟩
    simp only [Term.eval] at ef ev
    simp only [ev] at ef
    exact ef
  · have x1 := Cond.before_iff.mp (hj 27 _ rfl)
    obtain ⟨em, ev⟩ := exa_v x1
    exact ⟨em, Sta.start ev (Or.inl (hj 26 _ rfl))⟩
abbrev chr (x : Int32) : Int32 := (x &&& 255).toUInt32.toUInt16.toUInt32.toInt32
theorem law1 (l : Launch) (Z : State) (a0 : Array Value) (hw : hwT a0 Z) (h0 : Heap) (hC : CS Z) (hA : AS Z) (mr : Addr) (hMr : Mir Z "[Ljava/lang/Object;" mr) (n p c0 c1 c2 : Int32) : Con l Z [] true x code maxLocals ret tables_1 room_1 #[.int n, .int p, .int c0, .int c1, .int c2] h0 [] (fun v h S' => v = some (.int 1)) := by
  have hEL : EW Z a0 [] := hEL0
  obtain ⟨d0, hd0, A0⟩ := hA.1
  refine Con.enter (a0 := a0) pn_33 hEL [.val (.int n), .val (.int p), .val (.int c0), .val (.int c1), .val (.int c2), .unset, .unset, .unset, .unset, .unset, .unset, .unset, .unset] (fun m => by first | (simp [entryFrame, mkF, argsToLocals, Value.category, maxLocals]; done) | rfl) ?_
  intro K G
  have rp : C8 (chr p) := ch255 p
  have r0 : C8 (chr c0) := ch255 c0
  have r1 : C8 (chr c1) := ch255 c1
  have r2 : C8 (chr c2) := ch255 c2
  refine G.iloadN d0_0 rfl ?_
  refine G.iconst 3 d0_1 ?_
  refine G.iand d0_2 ?_
  refine G.istore5 d0_3 ?_
  obtain ⟨k, hk, hk0, hk3⟩ : ∃ q, q = n &&& 3 ∧ 0 ≤ q.toInt ∧ q.toInt ≤ 3 := by
    refine ⟨_, rfl, ?_⟩
    have a := c_mask n 3 2 (by decide) (by decide)
    have e : ((2 ^ 2 : Nat) : Int) = 4 := by decide
    rw [e] at a
    omega
  rw [← hk]
  clear hk
  have i1 : (1 : Int32).toInt = 1 := by decide
  have i2 : (2 : Int32).toInt = 2 := by decide
  refine G.newO d0_5 (hw 0 rfl) (hw 1 rfl) (hw 2 rfl) (fun h1a E1a L1a A1a => ?_)
  refine G.dup d0_8 ?_
  refine G.iconst 1 d0_9 ?_
  refine G.newA 1 1 d0_10 (hw 3 rfl) (by decide) (by decide) (fun h1b E1b L1b B1_0 => ?_)
  refine G.dup d0_12 ?_
  refine G.iconst 0 d0_13 ?_
  refine G.iloadN d0_14 rfl ?_
  refine G.sipush 255 d0_15 ?_
  refine G.iand d0_18 ?_
  refine G.i2c d0_19 ?_
  refine G.castore d0_20 (by simp) B1_0 (i := 0) (by decide) (by simp) (fun h1c0 W1_0 B1_1 => ?_)
  rw [nar_char rp.1 (by have := rp.2; omega)] at B1_1
  have B1 : Al Z h1c0 h1a.size .char (([(chr p)] : List Int32).map .int) := B1_1
  refine G.callI1 d0_21 (hw 4 rfl) (hw 5 rfl) (hw 2 rfl) (hw 6 rfl) pd_19 (cSI K.l Z a0 hw hEL h1c0 hC h0.size h1a.size [(chr p)] (by simp) (by simp) (Lat.cons rp Lat.nil) ((A1a.1.ext E1b).wr W1_0) (fun L t => ((A1a.2 L t).ext E1b).other W1_0 (Or.inl (Nat.ne_of_lt L1a))) B1) (by simp) ?_
  rintro _ h1z _ ⟨rfl, ⟨v1, -, T1⟩, K1z, rfl⟩ -
  have K1 : Keep h0 h1z [] := (((ext_keep E1a []).ext E1b).wr W1_0 (Or.inr (Nat.le_of_lt L1a))).trans K1z (fun x q => by cases List.mem_singleton.mp q; exact Or.inr (Nat.le_refl _))
  refine G.astore6 d0_24 ?_
  refine G.newO d0_26 (hw 0 rfl) (hw 1 rfl) (hw 2 rfl) (fun h2a E2a L2a A2a => ?_)
  refine G.dup d0_29 ?_
  refine G.iconst 1 d0_30 ?_
  refine G.newA 1 1 d0_31 (hw 3 rfl) (by decide) (by decide) (fun h2b E2b L2b B2_0 => ?_)
  refine G.dup d0_33 ?_
  refine G.iconst 0 d0_34 ?_
  refine G.iloadN d0_35 rfl ?_
  refine G.sipush 255 d0_36 ?_
  refine G.iand d0_39 ?_
  refine G.i2c d0_40 ?_
  refine G.castore d0_41 (by simp) B2_0 (i := 0) (by decide) (by simp) (fun h2c0 W2_0 B2_1 => ?_)
  rw [nar_char r0.1 (by have := r0.2; omega)] at B2_1
  have B2 : Al Z h2c0 h2a.size .char (([(chr c0)] : List Int32).map .int) := B2_1
  refine G.callI1 d0_42 (hw 4 rfl) (hw 5 rfl) (hw 2 rfl) (hw 6 rfl) pd_19 (cSI K.l Z a0 hw hEL h2c0 hC h1z.size h2a.size [(chr c0)] (by simp) (by simp) (Lat.cons r0 Lat.nil) ((A2a.1.ext E2b).wr W2_0) (fun L t => ((A2a.2 L t).ext E2b).other W2_0 (Or.inl (Nat.ne_of_lt L2a))) B2) (by simp) ?_
  rintro _ h2z _ ⟨rfl, ⟨v2, -, T2⟩, K2z, rfl⟩ -
  have K2 : Keep h1z h2z [] := (((ext_keep E2a []).ext E2b).wr W2_0 (Or.inr (Nat.le_of_lt L2a))).trans K2z (fun x q => by cases List.mem_singleton.mp q; exact Or.inr (Nat.le_refl _))
  refine G.astore7 d0_45 ?_
  refine G.newO d0_47 (hw 0 rfl) (hw 1 rfl) (hw 2 rfl) (fun h3a E3a L3a A3a => ?_)
  refine G.dup d0_50 ?_
  refine G.iconst 1 d0_51 ?_
  refine G.newA 1 1 d0_52 (hw 3 rfl) (by decide) (by decide) (fun h3b E3b L3b B3_0 => ?_)
  refine G.dup d0_54 ?_
  refine G.iconst 0 d0_55 ?_
  refine G.iloadN d0_56 rfl ?_
  refine G.sipush 255 d0_57 ?_
  refine G.iand d0_60 ?_
  refine G.i2c d0_61 ?_
  refine G.castore d0_62 (by simp) B3_0 (i := 0) (by decide) (by simp) (fun h3c0 W3_0 B3_1 => ?_)
  rw [nar_char r1.1 (by have := r1.2; omega)] at B3_1
  have B3 : Al Z h3c0 h3a.size .char (([(chr c1)] : List Int32).map .int) := B3_1
  refine G.callI1 d0_63 (hw 4 rfl) (hw 5 rfl) (hw 2 rfl) (hw 6 rfl) pd_19 (cSI K.l Z a0 hw hEL h3c0 hC h2z.size h3a.size [(chr c1)] (by simp) (by simp) (Lat.cons r1 Lat.nil) ((A3a.1.ext E3b).wr W3_0) (fun L t => ((A3a.2 L t).ext E3b).other W3_0 (Or.inl (Nat.ne_of_lt L3a))) B3) (by simp) ?_
  rintro _ h3z _ ⟨rfl, ⟨v3, -, T3⟩, K3z, rfl⟩ -
  have K3 : Keep h2z h3z [] := (((ext_keep E3a []).ext E3b).wr W3_0 (Or.inr (Nat.le_of_lt L3a))).trans K3z (fun x q => by cases List.mem_singleton.mp q; exact Or.inr (Nat.le_refl _))
  refine G.astore8 d0_66 ?_
  refine G.newO d0_68 (hw 0 rfl) (hw 1 rfl) (hw 2 rfl) (fun h4a E4a L4a A4a => ?_)
  refine G.dup d0_71 ?_
  refine G.iconst 1 d0_72 ?_
  refine G.newA 1 1 d0_73 (hw 3 rfl) (by decide) (by decide) (fun h4b E4b L4b B4_0 => ?_)
  refine G.dup d0_75 ?_
  refine G.iconst 0 d0_76 ?_
  refine G.iload d0_77 rfl ?_
  refine G.sipush 255 d0_79 ?_
  refine G.iand d0_82 ?_
  refine G.i2c d0_83 ?_
  refine G.castore d0_84 (by simp) B4_0 (i := 0) (by decide) (by simp) (fun h4c0 W4_0 B4_1 => ?_)
  rw [nar_char r2.1 (by have := r2.2; omega)] at B4_1
  have B4 : Al Z h4c0 h4a.size .char (([(chr c2)] : List Int32).map .int) := B4_1
  refine G.callI1 d0_85 (hw 4 rfl) (hw 5 rfl) (hw 2 rfl) (hw 6 rfl) pd_19 (cSI K.l Z a0 hw hEL h4c0 hC h3z.size h4a.size [(chr c2)] (by simp) (by simp) (Lat.cons r2 Lat.nil) ((A4a.1.ext E4b).wr W4_0) (fun L t => ((A4a.2 L t).ext E4b).other W4_0 (Or.inl (Nat.ne_of_lt L4a))) B4) (by simp) ?_
  rintro _ h4z _ ⟨rfl, ⟨v4, -, T4⟩, K4z, rfl⟩ -
  have K4 : Keep h3z h4z [] := (((ext_keep E4a []).ext E4b).wr W4_0 (Or.inr (Nat.le_of_lt L4a))).trans K4z (fun x q => by cases List.mem_singleton.mp q; exact Or.inr (Nat.le_refl _))
  refine G.astore9 d0_88 ?_
  have X2 : Exa Z h4z h1z.size "java/lang/String" := (T2.1.keep K3).keep K4
  have X3 : Exa Z h4z h2z.size "java/lang/String" := T3.1.keep K4
  have X4 : Exa Z h4z h3z.size "java/lang/String" := T4.1
  obtain ⟨s6, h6⟩ : ∃ q, q = h0.size := ⟨_, rfl⟩
  obtain ⟨s7, h7⟩ : ∃ q, q = h1z.size := ⟨_, rfl⟩
  obtain ⟨s8, h8⟩ : ∃ q, q = h2z.size := ⟨_, rfl⟩
  obtain ⟨s9, h9⟩ : ∃ q, q = h3z.size := ⟨_, rfl⟩
  rw [← h7] at X2
  rw [← h8] at X3
  rw [← h9] at X4
  rw [← h6, ← h7, ← h8, ← h9]
  have tail140 : ∀ (h : Heap) (a : Addr) (ss : List Addr), (ss.length = 0 ↔ k.toInt = 0) → Lst Z h a ss → Go Z [] true room_1 (fun v h S' => v = some (.int 1)) K h [] 28 149 140 [.val (.int n), .val (.int p), .val (.int c0), .val (.int c1), .val (.int c2), .val (.int k), .val (.ref s6), .val (.ref s7), .val (.ref s8), .val (.ref s9), .val (.ref a), .unset, .unset] [] := by
    intro h a ss hz T
    have hlt : a < h.size := by obtain ⟨-, -, m, n, d, -, B, -⟩ := T; exact B.1.lt
    refine G.newO d0_140 (hw 54 rfl) (hw 55 rfl) (hw 56 rfl) (fun h1 E1 L1 A1 => ?_)
    refine G.dup d0_143 ?_
    refine G.aload d0_144 rfl rfl ?_
    refine G.aload d0_146 rfl rfl ?_
    refine G.callI2 d0_148 (hw 57 rfl) (hw 58 rfl) (hw 56 rfl) (hw 59 rfl) pd_20 (cJI K.l Z a0 hw h1 hA mr hMr h.size s6 a (Nat.ne_of_lt hlt) ss (T.ext E1) A1.1 A1.2) (by simp) ?_
    rintro _ h2 _ ⟨rfl, ⟨t, E2, F2, T2'⟩, rfl⟩ -
    have fin : ∀ (ex : Int32), ex = (if k.toInt = 0 then 0 else 1) → Go Z [] true room_1 (fun v h S' => v = some (.int 1)) K h2 [] 32 166 163 [.val (.int n), .val (.int p), .val (.int c0), .val (.int c1), .val (.int c2), .val (.int k), .val (.ref s6), .val (.ref s7), .val (.ref s8), .val (.ref s9), .val (.ref a), .val (.ref h.size), .unset] [.int ex] := by
      intro ex hex
      refine G.istore12 d0_163 ?_
      refine G.aload d0_165 rfl rfl ?_
      refine G.callV0 d0_167 (hw 94 rfl) (hw 95 rfl) (hw 97 rfl) (hw 96 rfl) (hw 98 rfl) (hw 56 rfl) pd_16 E2 (cCC K.l Z a0 hw h2 h.size t _ F2 T2') (fun _ q => nomatch q) ?_
      rintro _ h3 _ rfl -
      refine G.iload d0_170 rfl ?_
      have e : (if (if ss.length = 0 then (1 : Int32) else 0) = 0 then (1 : Int32) else 0) = ex := by
        rw [hex]
        by_cases q : k.toInt = 0
        · rw [if_pos q, if_pos (hz.mpr q)]; decide
        · rw [if_neg q, if_neg (fun z => q (hz.mp z))]; decide
      refine G.icmp_ne d0_172 (fun q => absurd e q) (fun _ => ?_)
      refine G.iconst 1 d0_175 ?_
      refine G.goto d0_176 ?_
      exact G.nret d0_180 (Or.inl rfl) (z' := 1) (by decide) [] (fun _ q => nomatch q) rfl
    refine Go.fewer (S' := []) ?_ (fun _ q => nomatch q)
    refine G.astore11 d0_151 ?_
    refine G.iload d0_153 rfl ?_
    refine G.if_eq d0_155 (fun q => ?_) (fun q => ?_)
    · refine G.iconst 0 d0_162 ?_
      exact fin 0 (by rw [if_pos (by rw [q, toInt_0])])
    · refine G.iconst 1 d0_158 ?_
      refine G.goto d0_159 ?_
      exact fin 1 (by rw [if_neg (fun z => q (Int32.toInt_inj.mp (by rw [z, toInt_0])))])
  refine G.newO d0_90 (hw 30 rfl) (hw 31 rfl) (hw 32 rfl) (fun h5 E5 L5 A5 => ?_)
  refine G.dup d0_93 ?_
  refine G.callI0 d0_94 (hw 33 rfl) (hw 34 rfl) (hw 32 rfl) (hw 35 rfl) pd_4 (cARI K.l Z a0 hw h5 d0 hd0 h4z.size A5.1 A5.2) (by simp) ?_
  rintro _ h6' _ ⟨rfl, B6, K6, rfl⟩ -
  replace X2 := (X2.ext E5).keep K6
  replace X3 := (X3.ext E5).keep K6
  replace X4 := (X4.ext E5).keep K6
  obtain ⟨a, ha⟩ : ∃ q, q = h4z.size := ⟨_, rfl⟩
  rw [← ha] at B6
  rw [← ha]
  refine Go.fewer (S' := [a]) ?_ (by simp [ha])
  refine Go.oldIn (fun O => ?_)
  have A0' := A0.ext O
  have hda : d0 ≠ a := Ne.symm (A0'.neExa B6.1 (hw 31 rfl))
  refine G.astore10 d0_97 ?_
  refine G.iload d0_99 rfl ?_
  refine G.if_le d0_101 (fun q => ?_) (fun q => ?_) <;> rw [Int32.lt_iff_toInt_lt, toInt_0] at q
  · refine G.iload d0_112 rfl ?_
    refine G.iconst 1 d0_114 ?_
    refine G.icmp_le d0_115 (fun _ => ?_) (fun q2 => absurd q2 (not_lt_of_toInt (by rw [i1]; omega)))
    refine G.iload d0_126 rfl ?_
    refine G.iconst 2 d0_128 ?_
    refine G.icmp_le d0_129 (fun _ => ?_) (fun q2 => absurd q2 (not_lt_of_toInt (by rw [i2]; omega)))
    refine Go.fewer (S' := []) ?_ (fun _ q => nomatch q)
    refine Go.more (k' := 28) (n' := 149) ?_ (by decide) (by decide)
    have kz : k.toInt = 0 := by omega
    exact tail140 _ a [] ⟨fun _ => kz, fun _ => rfl⟩ (lst0 B6)
  · refine G.aload d0_104 rfl rfl ?_
    refine G.aload d0_106 rfl rfl ?_
    refine G.callV1 d0_108 (hw 111 rfl) (hw 112 rfl) (hw 114 rfl) (hw 113 rfl) (hw 115 rfl) (hw 32 rfl) pd_21 B6.1 (cADDa K.l Z a0 hw _ d0 hd0 a s7 0 hda X2 B6 A0') (fun _ q => q) ?_
    rintro _ h7' _ ⟨⟨bb, rfl⟩, ⟨na, m2, hna, rfl, O7, B7⟩, K7⟩ -
    replace X2 := X2.keep K7
    replace X3 := X3.keep K7
    replace X4 := X4.keep K7
    have hne : na ≠ a := Ne.symm (O7.1.neExa B7.1 (hw 31 rfl))
    refine G.pop d0_111 ?_
    refine G.iload d0_112 rfl ?_
    refine G.iconst 1 d0_114 ?_
    refine G.icmp_le d0_115 (fun q2 => ?_) (fun q2 => ?_) <;> rw [Int32.lt_iff_toInt_lt, i1] at q2
    · refine G.iload d0_126 rfl ?_
      refine G.iconst 2 d0_128 ?_
      refine G.icmp_le d0_129 (fun _ => ?_) (fun q3 => absurd q3 (not_lt_of_toInt (by rw [i2]; omega)))
      refine Go.fewer (S' := []) ?_ (fun _ q => nomatch q)
      refine Go.more (k' := 28) (n' := 149) ?_ (by decide) (by decide)
      exact tail140 _ a [s7] ⟨fun z => by simp at z, fun z => by omega⟩ ⟨by simp, fun s z => by cases List.mem_singleton.mp z; exact X2, m2, _, na, (by show ((0 : Int32) + 1).toInt = ((1 : Nat) : Int); decide), B7, fun _ => ⟨_, O7, by simp, by rfl⟩⟩
    · refine G.aload d0_118 rfl rfl ?_
      refine G.aload d0_120 rfl rfl ?_
      refine G.callV1 d0_122 (hw 111 rfl) (hw 112 rfl) (hw 114 rfl) (hw 113 rfl) (hw 115 rfl) (hw 32 rfl) pd_21 B7.1 (cADDb K.l Z a0 hw h7' a s8 na hne m2 (0 + 1) 1 (by decide) (by decide) _ (by simp) X3 B7 O7) (fun _ q => by simpa using q) ?_
      rintro _ h8' _ ⟨⟨bb, rfl⟩, ⟨m3, O8, B8⟩, K8, rfl⟩ -
      replace X2 := X2.keep K8
      replace X3 := X3.keep K8
      replace X4 := X4.keep K8
      refine G.pop d0_125 ?_
      refine G.iload d0_126 rfl ?_
      refine G.iconst 2 d0_128 ?_
      refine G.icmp_le d0_129 (fun q3 => ?_) (fun q3 => ?_) <;> rw [Int32.lt_iff_toInt_lt, i2] at q3
      · refine Go.fewer (S' := []) ?_ (fun _ q => nomatch q)
        refine Go.more (k' := 28) (n' := 149) ?_ (by decide) (by decide)
        exact tail140 _ a [s7, s8] ⟨fun z => by simp at z, fun z => by omega⟩ ⟨by simp, fun s z => by rcases List.mem_cons.mp z with rfl | z; exact X2; cases List.mem_singleton.mp z; exact X3, m3, _, na, (by show ((0 : Int32) + 1 + 1).toInt = ((2 : Nat) : Int); decide), B8, fun _ => ⟨_, O8, by simp, by rfl⟩⟩
      · refine G.aload d0_132 rfl rfl ?_
        refine G.aload d0_134 rfl rfl ?_
        refine G.callV1 d0_136 (hw 111 rfl) (hw 112 rfl) (hw 114 rfl) (hw 113 rfl) (hw 115 rfl) (hw 32 rfl) pd_21 B8.1 (cADDb K.l Z a0 hw h8' a s9 na hne m3 (0 + 1 + 1) 2 (by decide) (by decide) _ (by simp) X4 B8 O8) (fun _ q => by simpa using q) ?_
        rintro _ h9' _ ⟨⟨bb, rfl⟩, ⟨m4, O9, B9⟩, K9, rfl⟩ -
        replace X2 := X2.keep K9
        replace X3 := X3.keep K9
        replace X4 := X4.keep K9
        refine G.pop d0_139 ?_
        refine Go.fewer (S' := []) ?_ (fun _ q => nomatch q)
        refine Go.more (k' := 28) (n' := 149) ?_ (by decide) (by decide)
        exact tail140 _ a [s7, s8, s9] ⟨fun z => by simp at z, fun z => by omega⟩ ⟨by simp, fun s z => by rcases List.mem_cons.mp z with rfl | z; exact X2; rcases List.mem_cons.mp z with rfl | z; exact X3; cases List.mem_singleton.mp z; exact X4, m4, _, na, (by show ((0 : Int32) + 1 + 1 + 1).toInt = ((3 : Nat) : Int); decide), B9, fun _ => ⟨_, O9, by simp, by rfl⟩⟩
set_option maxRecDepth 65536 in
set_option maxHeartbeats 40000000 in
theorem comes_1 {Post : Tables → Env → Array Value → State → Outcome → State → Prop} (hpost : ∀ tb e args s v u, (limb_1_1.after args s (.returned v) u = true ∧ limb_1_2.after args s (.returned v) u = true ∧ True) → FrameEnd s (.returned v) u (Jvm.fieldLocs frame_1_writes args s ++ Jvm.arrayLocs frame_1_arrays args s ++ Jvm.staticLocs frame_1_statics s) 48 192 → Post tb e args s (.returned v) u) :
    ArmFor flags0 classFile x code maxLocals ret World_1 tables_1 room_1 Calls_1 rest_1 Pre_1 Post := by
  intro l hfl _ _ p e ha hc hk s m args below hf hA hF happ hP
  obtain ⟨hcalls, hrest, hpre⟩ := hP
  obtain ⟨-, -, -, hnamed, -, -, -, hat⟩ := (Spec.applies_iff hf).mp happ
  obtain ⟨hg, hn⟩ := and_e (Cond.before_iff.mp (show (Jvm.Cond.and given_1 narrow_1).before args s = true from hpre))
  obtain ⟨h0, g0⟩ := and_e hg
  obtain ⟨p0, g1⟩ := and_e g0
  obtain ⟨p1, g2⟩ := and_e g1
  obtain ⟨p2, g3⟩ := and_e g2
  obtain ⟨p3, g4⟩ := and_e g3
  obtain ⟨w0, w1, w2, w3, w4, rfl⟩ : ∃ w0 w1 w2 w3 w4 : Value, args = #[w0, w1, w2, w3, w4] := by
    have hs : args.size = 5 := by simpa [Cond.value, given_1] using h0
    obtain ⟨L⟩ := args
    match L, hs with
    | [w0, w1, w2, w3, w4], _ => exact ⟨w0, w1, w2, w3, w4, rfl⟩
  have hw0 := fun d (hd : d ∈ tables_1) => atoms_spec (ws := Jvm.Cond.code x code maxLocals ret :: tables_1) hat d (List.mem_cons_of_mem _ hd)
  have hw : hwT #[w0, w1, w2, w3, w4] s := fun i d q => hw0 d (List.mem_of_getElem? q)
  obtain ⟨i0, e0⟩ := is_v p0
  obtain rfl : w0 = (.int i0) := Option.some.inj e0
  obtain ⟨i1, e1⟩ := is_v p1
  obtain rfl : w1 = (.int i1) := Option.some.inj e1
  obtain ⟨i2, e2⟩ := is_v p2
  obtain rfl : w2 = (.int i2) := Option.some.inj e2
  obtain ⟨i3, e3⟩ := is_v p3
  obtain rfl : w3 = (.int i3) := Option.some.inj e3
  obtain ⟨i4, e4⟩ := is_v g4
  obtain rfl : w4 = (.int i4) := Option.some.inj e4
  obtain ⟨hsets, hown0⟩ := atoms_of _ (rest_1_c_eq ▸ (show rest_1_c.before _ s = true from hrest))
  have hcw := hsets _ (List.mem_of_getElem? (i := 2) rfl)
  have nz := not_v (Cond.before_iff.mp hcw)
  obtain ⟨ic, ec⟩ := is_v (Cond.before_iff.mp (hsets _ (List.mem_of_getElem? (i := 1) rfl)))
  have hC : CS s := ⟨ic, Sta.start ec (Or.inl (hsets _ (List.mem_of_getElem? (i := 0) rfl))), gotF (Cond.eq_ints ec (Term.int_eval (0))) nz⟩
  have hA : AS s := own_as hw (fun i d q => hsets d (List.mem_of_getElem? q))
  obtain ⟨mr, hMr⟩ : ∃ mr, Mir s "[Ljava/lang/Object;" mr := by
    obtain ⟨c, k, m, h⟩ := hcalls.1
    exact ⟨m, c, k, h⟩
  obtain ⟨n, o, h1, h2, h3, v, L, S', rfl, rfl, N, -, -, hq, hnw, -⟩ := law1 l s _ hw s.heap hC hA mr hMr i0 i1 i2 i3 i4 p e ha hc hk s m _ below hf ((Spec.applies_iff_loose hf).mp happ).1 ⟨rfl, State.Warmed39.refl s, rfl, (fun _ q => nomatch q), (fun _ q => nomatch q), ⟨Nat.le_refl _, fun _ _ q => q⟩⟩ trivial
  refine ⟨n, _, h1, h2, h3, hpost _ _ _ _ _ _ ⟨Cond.after_iff.mpr rfl, Cond.after_iff.mpr (eq_i res_at (Term.int_eval (1)) rfl), trivial⟩ ⟨⟨_, rfl⟩, hnw rfl, (hq.2.2.2.sift fun y hy => Or.inr (N y hy)).mono (by decide) (by decide)⟩⟩
theorem main_1_1 : Claimed_1_1 := comes_1 fun _ _ _ _ _ _ h hF => ⟨h.1, hF⟩
theorem main_1_2 : Claimed_1_2 := comes_1 fun _ _ _ _ _ _ h hF => ⟨h.2.1, hF⟩
end Jvm.Pilot.@@N@@
namespace Jvm.Pilot.@@N@@
open Jvm Jvm.ClassFile Sem Op Lib Jvm.Free Jvm.Stand Jvm.Pilot.@@N@@.Jvm.D
/-! MADE BY PROGRAM (witnessworld.py) out of the Statement's table words and the real class files: 39 classes; the members and pool entries that the words name. The judged class is class 1, her method 1. -/
namespace start1
open Jvm.ClassFile
def u (s : String) : CpInfo := .utf8 (stringToUtf16 s)
/-- a pool by its gaps: so many unusable entries, then the entry; so many at the end -/
def gap : Nat → List CpInfo → List CpInfo
  | 0, r => r
  | n + 1, r => .unusable :: gap n r
def poolList (es : List (Nat × CpInfo)) (last : Nat) : List CpInfo := es.foldr (fun e r => gap e.1 (e.2 :: r)) (gap last [])
def pool (es : List (Nat × CpInfo)) (last : Nat) : Array CpInfo := ⟨poolList es last⟩
def fileOf (pool : Array CpInfo) (this : Nat) (attrs : Array Attribute := #[]) (ms : Array MethodInfo := #[]) (fl : Nat := 33) (sup : Nat := 0) (ifs : Array Nat := #[]) (fds : Array FieldInfo := #[]) : ClassFile where
  minorVersion := 0
  majorVersion := 65
  constantPool := pool
  accessFlags := fl
  thisClass := this
  superClass := sup
  interfaces := ifs
  fields := fds
  methods := ms
  attributes := attrs
def plain (name : String) (sup : Option ClassId) : Class where
  name := name
  kind := .ordinary
  loader := none
  accessFlags := 33
  super := sup
  interfaces := #[]
  cf := none
  fields := #[]
  methods := #[]
  instanceTypes := #[]
  staticTypes := #[]
  resolved := #[]
  callSites := []
  init := .initialized
  statics := none
  mirror := none

def pool0 : Array CpInfo := pool [(5, u "<init>"), (0, u "()V"), (1, .class_ 10), (1, u "java/lang/Object"), (0, u "getClass"), (0, u "()Ljava/lang/Class;")] 111

def k0c0 : Code := { maxStack := 0, maxLocals := 1, code := object_method_1_code, exceptionTable := #[], attributes := #[] }
def k0m0 : Method := { name := "<init>", desc := "()V", sig := { parameters := [], returnType := none }, accessFlags := 1, code := some k0c0 }
def k0m1 : Method := { name := "getClass", desc := "()Ljava/lang/Class;", sig := { parameters := [], returnType := some (.object "java/lang/Class") }, accessFlags := 273, code := none }
/-- java/lang/Object -/
def k0 : Class := { plain "java/lang/Object" none with
  accessFlags := 33
  interfaces := #[]
  cf := some (fileOf pool0 8 #[] #[{ accessFlags := 1, nameIndex := 5, descriptorIndex := 6, attributes := #[] }, { accessFlags := 273, nameIndex := 11, descriptorIndex := 12, attributes := #[] }] 33 0 #[] #[])
  fields := #[]
  methods := #[k0m0, k0m1]
  instanceTypes := #[]
  staticTypes := #[]
  resolved := Array.replicate 124 none
  statics := none }

def pool1 : Array CpInfo := pool [(2, .class_ 4), (0, .nameAndType 5 6), (0, u "java/lang/Object"), (0, u "<init>"), (0, u "()V"), (0, .class_ 8), (0, u "java/lang/String"), (0, .methodref 7 10), (0, .nameAndType 5 11), (0, u "([C)V"), (0, .class_ 13), (0, u "java/util/ArrayList"), (0, .methodref 12 3), (0, .methodref 12 16), (0, .nameAndType 17 18), (0, u "add"), (0, u "(Ljava/lang/Object;)Z"), (0, .class_ 20), (0, u "com/example/vestline/vestline/changeofcontrol/Judgement"), (0, .methodref 19 22), (0, .nameAndType 5 23), (0, u "(Ljava/lang/String;Ljava/util/List;)V"), (0, .methodref 19 25), (0, .nameAndType 26 27), (0, u "changesControl"), (0, u "()Z"), (0, .class_ 29), (0, u "com/example/vestline/vestline/changeofcontrol/JudgementChangesControlPinLaw"), (2, u "law"), (0, u "(IIIII)Z")] 3

def k1m0 : Method := { name := "<init>", desc := "()V", sig := { parameters := [], returnType := none }, accessFlags := 1, code := none }
def k1c1 : Code := { maxStack := 7, maxLocals := 13, code := code, exceptionTable := #[], attributes := #[] }
def k1m1 : Method := { name := "law", desc := "(IIIII)Z", sig := { parameters := [.int, .int, .int, .int, .int], returnType := some .boolean }, accessFlags := 9, code := some k1c1 }
/-- com/example/vestline/vestline/changeofcontrol/JudgementChangesControlPinLaw -/
def k1 : Class := { plain "com/example/vestline/vestline/changeofcontrol/JudgementChangesControlPinLaw" (some 0) with
  accessFlags := 49
  interfaces := #[]
  cf := some (fileOf pool1 28 #[] #[{ accessFlags := 1, nameIndex := 5, descriptorIndex := 6, attributes := #[] }, { accessFlags := 9, nameIndex := 32, descriptorIndex := 33, attributes := #[] }] 49 2 #[] #[])
  fields := #[]
  methods := #[k1m0, k1m1]
  instanceTypes := #[]
  staticTypes := #[]
  resolved := Array.replicate 37 none
  statics := none }

def pool2 : Array CpInfo := pool [(1, .class_ 2), (0, u "java/io/Serializable"), (0, .class_ 4), (0, u "java/lang/Object")] 2

/-- java/io/Serializable -/
def k2 : Class := { plain "java/io/Serializable" (some 0) with
  accessFlags := 1537
  interfaces := #[]
  cf := some (fileOf pool2 1 #[] #[] 1537 3 #[] #[])
  fields := #[]
  methods := #[]
  instanceTypes := #[]
  staticTypes := #[]
  resolved := Array.replicate 7 none
  statics := none }

def pool3 : Array CpInfo := pool [(1, .class_ 2), (0, u "java/lang/Comparable"), (0, .class_ 4), (0, u "java/lang/Object")] 7

/-- java/lang/Comparable -/
def k3 : Class := { plain "java/lang/Comparable" (some 0) with
  accessFlags := 1537
  interfaces := #[]
  cf := some (fileOf pool3 1 #[] #[] 1537 3 #[] #[])
  fields := #[]
  methods := #[]
  instanceTypes := #[]
  staticTypes := #[]
  resolved := Array.replicate 12 none
  statics := none }

def pool4 : Array CpInfo := pool [(2, .class_ 4), (1, u "java/lang/CharSequence"), (42, .class_ 48), (0, u "java/lang/CharSequence$1CodePointIterator"), (10, .class_ 60), (0, u "java/lang/CharSequence$1CharIterator"), (5, .class_ 67), (0, u "java/lang/Object")] 63

/-- java/lang/CharSequence -/
def k4 : Class := { plain "java/lang/CharSequence" (some 0) with
  accessFlags := 1537
  interfaces := #[]
  cf := some (fileOf pool4 2 #[.nestMembers #[47, 59]] #[] 1537 66 #[] #[])
  fields := #[]
  methods := #[]
  instanceTypes := #[]
  staticTypes := #[]
  resolved := Array.replicate 131 none
  statics := none }

def pool5 : Array CpInfo := pool [(1, .class_ 2), (0, u "java/lang/constant/Constable"), (0, .class_ 4), (0, u "java/lang/Object")] 6

/-- java/lang/constant/Constable -/
def k5 : Class := { plain "java/lang/constant/Constable" (some 0) with
  accessFlags := 1537
  interfaces := #[]
  cf := some (fileOf pool5 1 #[] #[] 1537 3 #[] #[])
  fields := #[]
  methods := #[]
  instanceTypes := #[]
  staticTypes := #[]
  resolved := Array.replicate 11 none
  statics := none }

def pool6 : Array CpInfo := pool [(1, .class_ 2), (0, u "java/lang/constant/ConstantDesc"), (0, .class_ 4), (0, u "java/lang/Object")] 32

/-- java/lang/constant/ConstantDesc -/
def k6 : Class := { plain "java/lang/constant/ConstantDesc" (some 0) with
  accessFlags := 1537
  interfaces := #[]
  cf := some (fileOf pool6 1 #[] #[] 1537 3 #[] #[])
  fields := #[]
  methods := #[]
  instanceTypes := #[]
  staticTypes := #[]
  resolved := Array.replicate 37 none
  statics := none }

def pool7 : Array CpInfo := pool [(1, .methodref 2 3), (0, .class_ 4), (0, .nameAndType 5 6), (0, u "java/lang/Object"), (0, u "<init>"), (0, u "()V"), (2, .fieldref 10 11), (0, .class_ 12), (0, .nameAndType 13 14), (0, u "java/lang/String"), (0, u "value"), (0, u "[B"), (0, .fieldref 10 16), (0, .nameAndType 17 18), (0, u "coder"), (0, u "B"), (2, u "hash"), (0, u "I"), (2, u "hashIsZero"), (0, u "Z"), (0, .methodref 10 28), (0, .nameAndType 5 29), (0, u "([CIILjava/lang/Void;)V"), (8, .fieldref 10 39), (0, .nameAndType 40 26), (0, u "COMPACT_STRINGS"), (1, .class_ 44), (1, u "java/lang/StringUTF16"), (0, u "compress"), (1, .methodref 42 48), (0, .nameAndType 49 50), (0, u "coderFromArrayLen"), (0, u "([BI)B"), (126, .methodref 42 178), (0, .nameAndType 45 179), (0, u "([CII)[B"), (395, .class_ 576), (0, u "java/lang/CharSequence"), (22, u "CASE_INSENSITIVE_ORDER"), (0, u "Ljava/util/Comparator;"), (409, u "([C)V"), (90, u "serialPersistentFields"), (0, u "[Ljava/io/ObjectStreamField;"), (0, .class_ 1104), (0, u "java/lang/String$CaseInsensitiveComparator"), (1, .class_ 1107), (0, u "java/io/Serializable"), (0, .class_ 1109), (0, u "java/lang/Comparable"), (0, .class_ 1111), (0, u "java/lang/constant/Constable"), (0, .class_ 1113), (0, u "java/lang/constant/ConstantDesc"), (2, u "serialVersionUID"), (0, u "J"), (3, u "REPL"), (0, u "C"), (2, u "LATIN1"), (1, u "UTF16")] 323

def k7m0 : Method := { name := "<init>", desc := "()V", sig := { parameters := [], returnType := none }, accessFlags := 1, code := none }
def k7c1 : Code := { maxStack := 5, maxLocals := 2, code := jdk_42_method_3_code, exceptionTable := #[], attributes := #[] }
def k7m1 : Method := { name := "<init>", desc := "([C)V", sig := { parameters := [(.array .char)], returnType := none }, accessFlags := 1, code := some k7c1 }
def k7c2 : Code := { maxStack := 4, maxLocals := 6, code := jdk_42_method_149_code, exceptionTable := #[], attributes := #[] }
def k7m2 : Method := { name := "<init>", desc := "([CIILjava/lang/Void;)V", sig := { parameters := [(.array .char), .int, .int, (.object "java/lang/Void")], returnType := none }, accessFlags := 2, code := some k7c2 }
/-- java/lang/String -/
def k7 : Class := { plain "java/lang/String" (some 0) with
  accessFlags := 49
  interfaces := #[2, 3, 4, 5, 6]
  cf := some (fileOf pool7 10 #[.nestMembers #[1103]] #[{ accessFlags := 1, nameIndex := 5, descriptorIndex := 6, attributes := #[] }, { accessFlags := 1, nameIndex := 5, descriptorIndex := 1010, attributes := #[] }, { accessFlags := 2, nameIndex := 5, descriptorIndex := 29, attributes := #[] }] 49 2 #[1106, 1108, 575, 1110, 1112] #[{ accessFlags := 18, nameIndex := 13, descriptorIndex := 14, attributes := #[] }, { accessFlags := 18, nameIndex := 17, descriptorIndex := 18, attributes := #[] }, { accessFlags := 2, nameIndex := 21, descriptorIndex := 22, attributes := #[] }, { accessFlags := 2, nameIndex := 25, descriptorIndex := 26, attributes := #[] }, { accessFlags := 26, nameIndex := 1116, descriptorIndex := 1117, attributes := #[] }, { accessFlags := 24, nameIndex := 40, descriptorIndex := 26, attributes := #[] }, { accessFlags := 26, nameIndex := 1101, descriptorIndex := 1102, attributes := #[] }, { accessFlags := 26, nameIndex := 1121, descriptorIndex := 1122, attributes := #[] }, { accessFlags := 25, nameIndex := 599, descriptorIndex := 600, attributes := #[] }, { accessFlags := 24, nameIndex := 1125, descriptorIndex := 18, attributes := #[] }, { accessFlags := 24, nameIndex := 1127, descriptorIndex := 18, attributes := #[] }])
  fields := #[{ name := "value", type := (.array .byte), accessFlags := 18, slot := 0, constantValue := 0 }, { name := "coder", type := .byte, accessFlags := 18, slot := 1, constantValue := 0 }, { name := "hash", type := .int, accessFlags := 2, slot := 2, constantValue := 0 }, { name := "hashIsZero", type := .boolean, accessFlags := 2, slot := 3, constantValue := 0 }, { name := "serialVersionUID", type := .long, accessFlags := 26, slot := 0, constantValue := 0 }, { name := "COMPACT_STRINGS", type := .boolean, accessFlags := 24, slot := 1, constantValue := 0 }, { name := "serialPersistentFields", type := (.array (.object "java/io/ObjectStreamField")), accessFlags := 26, slot := 2, constantValue := 0 }, { name := "REPL", type := .char, accessFlags := 26, slot := 3, constantValue := 0 }, { name := "CASE_INSENSITIVE_ORDER", type := (.object "java/util/Comparator"), accessFlags := 25, slot := 4, constantValue := 0 }, { name := "LATIN1", type := .byte, accessFlags := 24, slot := 5, constantValue := 0 }, { name := "UTF16", type := .byte, accessFlags := 24, slot := 6, constantValue := 0 }]
  methods := #[k7m0, k7m1, k7m2]
  instanceTypes := #[(.array .byte), .byte, .int, .boolean]
  staticTypes := #[.long, .boolean, (.array (.object "java/io/ObjectStreamField")), .char, (.object "java/util/Comparator"), .byte, .byte]
  resolved := Array.replicate 1451 none
  statics := some 0 }

def pool8 : Array CpInfo := pool [(6, .class_ 8), (1, u "java/lang/Object"), (0, u "<init>"), (0, u "()V"), (1, .class_ 14), (1, u "java/lang/StringUTF16"), (31, u "$assertionsDisabled"), (0, u "Z"), (13, u "HI_BYTE_SHIFT"), (0, u "I"), (2, u "LO_BYTE_SHIFT"), (49, .methodref 12 116), (0, .nameAndType 117 118), (0, u "compress"), (0, u "([CI[BII)I"), (3, u "([CII)[B"), (138, u "coderFromArrayLen"), (0, u "([BI)B"), (106, .class_ 371), (1, u "java/lang/StringUTF16$LinesSpliterator"), (58, u "MAX_LENGTH"), (196, .class_ 628), (0, u "java/lang/StringUTF16$CodePointsSpliterator"), (0, .class_ 630), (0, u "java/lang/StringUTF16$CharsSpliterator")] 4

def k8m0 : Method := { name := "<init>", desc := "()V", sig := { parameters := [], returnType := none }, accessFlags := 0, code := none }
def k8c1 : Code := { maxStack := 2, maxLocals := 2, code := jdk_52_method_15_code, exceptionTable := #[], attributes := #[] }
def k8m1 : Method := { name := "coderFromArrayLen", desc := "([BI)B", sig := { parameters := [(.array .byte), .int], returnType := some .byte }, accessFlags := 8, code := some k8c1 }
def k8c2 : Code := { maxStack := 5, maxLocals := 6, code := jdk_52_method_16_code, exceptionTable := #[], attributes := #[] }
def k8m2 : Method := { name := "compress", desc := "([CII)[B", sig := { parameters := [(.array .char), .int, .int], returnType := some (.array .byte) }, accessFlags := 9, code := some k8c2 }
def k8c3 : Code := { maxStack := 3, maxLocals := 7, code := jdk_52_method_21_code, exceptionTable := #[], attributes := #[] }
def k8m3 : Method := { name := "compress", desc := "([CI[BII)I", sig := { parameters := [(.array .char), .int, (.array .byte), .int, .int], returnType := some .int }, accessFlags := 9, code := some k8c3 }
/-- java/lang/StringUTF16 -/
def k8 : Class := { plain "java/lang/StringUTF16" (some 0) with
  accessFlags := 48
  interfaces := #[]
  cf := some (fileOf pool8 12 #[.nestMembers #[627, 629, 369]] #[{ accessFlags := 0, nameIndex := 9, descriptorIndex := 10, attributes := #[] }, { accessFlags := 8, nameIndex := 261, descriptorIndex := 262, attributes := #[] }, { accessFlags := 9, nameIndex := 117, descriptorIndex := 122, attributes := #[] }, { accessFlags := 9, nameIndex := 117, descriptorIndex := 118, attributes := #[] }] 48 6 #[] #[{ accessFlags := 26, nameIndex := 61, descriptorIndex := 62, attributes := #[] }, { accessFlags := 26, nameIndex := 65, descriptorIndex := 62, attributes := #[] }, { accessFlags := 24, nameIndex := 430, descriptorIndex := 62, attributes := #[] }, { accessFlags := 4120, nameIndex := 46, descriptorIndex := 47, attributes := #[] }])
  fields := #[{ name := "HI_BYTE_SHIFT", type := .int, accessFlags := 26, slot := 0, constantValue := 0 }, { name := "LO_BYTE_SHIFT", type := .int, accessFlags := 26, slot := 1, constantValue := 0 }, { name := "MAX_LENGTH", type := .int, accessFlags := 24, slot := 2, constantValue := 0 }, { name := "$assertionsDisabled", type := .boolean, accessFlags := 4120, slot := 3, constantValue := 0 }]
  methods := #[k8m0, k8m1, k8m2, k8m3]
  instanceTypes := #[]
  staticTypes := #[.int, .int, .int, .boolean]
  resolved := Array.replicate 635 none
  statics := none }

def pool9 : Array CpInfo := pool [(8, .class_ 10), (1, u "java/lang/Iterable"), (24, .class_ 36), (0, u "java/lang/Object")] 25

/-- java/lang/Iterable -/
def k9 : Class := { plain "java/lang/Iterable" (some 0) with
  accessFlags := 1537
  interfaces := #[]
  cf := some (fileOf pool9 8 #[] #[] 1537 35 #[] #[])
  fields := #[]
  methods := #[]
  instanceTypes := #[]
  staticTypes := #[]
  resolved := Array.replicate 62 none
  statics := none }

def pool10 : Array CpInfo := pool [(10, .class_ 12), (1, u "java/util/Collection"), (0, u "toArray"), (16, u "()Z"), (29, .class_ 61), (0, u "java/lang/Object"), (0, .class_ 63), (0, u "java/lang/Iterable"), (2, u "isEmpty"), (3, u "()[Ljava/lang/Object;")] 44

def k10m0 : Method := { name := "isEmpty", desc := "()Z", sig := { parameters := [], returnType := some .boolean }, accessFlags := 1025, code := none }
def k10m1 : Method := { name := "toArray", desc := "()[Ljava/lang/Object;", sig := { parameters := [], returnType := some (.array (.object "java/lang/Object")) }, accessFlags := 1025, code := none }
/-- java/util/Collection -/
def k10 : Class := { plain "java/util/Collection" (some 0) with
  accessFlags := 1537
  interfaces := #[9]
  cf := some (fileOf pool10 10 #[] #[{ accessFlags := 1025, nameIndex := 66, descriptorIndex := 30, attributes := #[] }, { accessFlags := 1025, nameIndex := 13, descriptorIndex := 70, attributes := #[] }] 1537 60 #[62] #[])
  fields := #[]
  methods := #[k10m0, k10m1]
  instanceTypes := #[]
  staticTypes := #[]
  resolved := Array.replicate 115 none
  statics := none }

def pool11 : Array CpInfo := pool [(1, .methodref 2 3), (0, .class_ 4), (0, .nameAndType 5 6), (0, u "java/lang/Object"), (0, u "<init>"), (0, u "()V"), (1, .class_ 10), (1, u "java/util/AbstractCollection"), (66, .class_ 78), (0, u "java/util/Collection")] 81

def k11c0 : Code := { maxStack := 1, maxLocals := 1, code := jdk_22_method_1_code, exceptionTable := #[], attributes := #[] }
def k11m0 : Method := { name := "<init>", desc := "()V", sig := { parameters := [], returnType := none }, accessFlags := 4, code := some k11c0 }
/-- java/util/AbstractCollection -/
def k11 : Class := { plain "java/util/AbstractCollection" (some 0) with
  accessFlags := 1057
  interfaces := #[10]
  cf := some (fileOf pool11 8 #[] #[{ accessFlags := 4, nameIndex := 5, descriptorIndex := 6, attributes := #[] }] 1057 2 #[77] #[])
  fields := #[]
  methods := #[k11m0]
  instanceTypes := #[]
  staticTypes := #[]
  resolved := Array.replicate 160 none
  statics := none }

def pool12 : Array CpInfo := pool [(8, .class_ 10), (1, u "java/util/SequencedCollection"), (15, .class_ 27), (0, u "java/lang/Object"), (0, .class_ 29), (0, u "java/util/Collection")] 27

/-- java/util/SequencedCollection -/
def k12 : Class := { plain "java/util/SequencedCollection" (some 0) with
  accessFlags := 1537
  interfaces := #[10]
  cf := some (fileOf pool12 8 #[] #[] 1537 26 #[28] #[])
  fields := #[]
  methods := #[]
  instanceTypes := #[]
  staticTypes := #[]
  resolved := Array.replicate 57 none
  statics := none }

def pool13 : Array CpInfo := pool [(8, .class_ 10), (1, u "java/util/List"), (7, u "()Z"), (12, u "(Ljava/lang/Object;)V"), (16, u "<init>"), (18, u "isEmpty"), (20, u "of"), (1, .fieldref 91 92), (0, .class_ 93), (0, .nameAndType 94 95), (0, u "java/util/ImmutableCollections"), (0, u "EMPTY_LIST"), (0, u "Ljava/util/ImmutableCollections$ListN;"), (0, .class_ 97), (0, u "java/util/ImmutableCollections$List12"), (0, .methodref 96 99), (0, .nameAndType 48 31), (0, .methodref 96 101), (0, .nameAndType 48 102), (0, u "(Ljava/lang/Object;Ljava/lang/Object;)V"), (0, .class_ 104), (0, u "java/lang/Object"), (3, u "([Ljava/lang/Object;)Ljava/util/List;"), (0, .methodref 91 110), (0, .nameAndType 111 108), (0, u "listFromArray"), (0, .methodref 91 113), (0, .nameAndType 114 115), (0, u "listCopy"), (0, u "(Ljava/util/Collection;)Ljava/util/List;"), (3, u "()Ljava/util/List;"), (0, .class_ 121), (0, u "java/util/SequencedCollection"), (112, u "copyOf")] 16

def k13m0 : Method := { name := "isEmpty", desc := "()Z", sig := { parameters := [], returnType := some .boolean }, accessFlags := 1025, code := none }
def k13c1 : Code := { maxStack := 1, maxLocals := 0, code := jdk_40_method_36_code, exceptionTable := #[], attributes := #[] }
def k13m1 : Method := { name := "of", desc := "()Ljava/util/List;", sig := { parameters := [], returnType := some (.object "java/util/List") }, accessFlags := 9, code := some k13c1 }
def k13c2 : Code := { maxStack := 5, maxLocals := 2, code := jdk_40_method_47_code, exceptionTable := #[], attributes := #[] }
def k13m2 : Method := { name := "of", desc := "([Ljava/lang/Object;)Ljava/util/List;", sig := { parameters := [(.array (.object "java/lang/Object"))], returnType := some (.object "java/util/List") }, accessFlags := 137, code := some k13c2 }
def k13c3 : Code := { maxStack := 1, maxLocals := 1, code := jdk_40_method_48_code, exceptionTable := #[], attributes := #[] }
def k13m3 : Method := { name := "copyOf", desc := "(Ljava/util/Collection;)Ljava/util/List;", sig := { parameters := [(.object "java/util/Collection")], returnType := some (.object "java/util/List") }, accessFlags := 9, code := some k13c3 }
/-- java/util/List -/
def k13 : Class := { plain "java/util/List" (some 0) with
  accessFlags := 1537
  interfaces := #[12]
  cf := some (fileOf pool13 8 #[] #[{ accessFlags := 1025, nameIndex := 67, descriptorIndex := 18, attributes := #[] }, { accessFlags := 9, nameIndex := 88, descriptorIndex := 119, attributes := #[] }, { accessFlags := 137, nameIndex := 88, descriptorIndex := 108, attributes := #[] }, { accessFlags := 9, nameIndex := 234, descriptorIndex := 115, attributes := #[] }] 1537 103 #[120] #[])
  fields := #[]
  methods := #[k13m0, k13m1, k13m2, k13m3]
  instanceTypes := #[]
  staticTypes := #[]
  resolved := Array.replicate 251 none
  statics := none }

def pool14 : Array CpInfo := pool [(1, .methodref 2 3), (0, .class_ 4), (0, .nameAndType 5 6), (0, u "java/util/AbstractCollection"), (0, u "<init>"), (0, u "()V"), (0, .fieldref 8 9), (0, .class_ 10), (0, .nameAndType 11 12), (0, u "java/util/AbstractList"), (0, u "modCount"), (0, u "I"), (64, .class_ 78), (0, u "java/util/AbstractList$Itr"), (3, .class_ 83), (0, u "java/util/AbstractList$ListItr"), (9, .class_ 94), (0, u "java/util/AbstractList$RandomAccessSubList"), (3, .class_ 99), (0, u "java/util/AbstractList$SubList"), (33, .class_ 134), (0, u "java/util/List"), (73, .class_ 209), (0, u "java/util/AbstractList$SubList$1"), (0, .class_ 211), (0, u "java/util/AbstractList$RandomAccessSpliterator")] 6

def k14c0 : Code := { maxStack := 2, maxLocals := 1, code := jdk_39_method_1_code, exceptionTable := #[], attributes := #[] }
def k14m0 : Method := { name := "<init>", desc := "()V", sig := { parameters := [], returnType := none }, accessFlags := 4, code := some k14c0 }
/-- java/util/AbstractList -/
def k14 : Class := { plain "java/util/AbstractList" (some 11) with
  accessFlags := 1057
  interfaces := #[13]
  cf := some (fileOf pool14 8 #[.nestMembers #[93, 98, 208, 210, 82, 77]] #[{ accessFlags := 4, nameIndex := 5, descriptorIndex := 6, attributes := #[] }] 1057 2 #[133] #[{ accessFlags := 132, nameIndex := 11, descriptorIndex := 12, attributes := #[] }])
  fields := #[{ name := "modCount", type := .int, accessFlags := 132, slot := 0, constantValue := 0 }]
  methods := #[k14m0]
  instanceTypes := #[.int]
  staticTypes := #[]
  resolved := Array.replicate 218 none
  statics := none }

def pool15 : Array CpInfo := pool [(1, .class_ 2), (0, u "java/util/RandomAccess"), (0, .class_ 4), (0, u "java/lang/Object")] 2

/-- java/util/RandomAccess -/
def k15 : Class := { plain "java/util/RandomAccess" (some 0) with
  accessFlags := 1537
  interfaces := #[]
  cf := some (fileOf pool15 1 #[] #[] 1537 3 #[] #[])
  fields := #[]
  methods := #[]
  instanceTypes := #[]
  staticTypes := #[]
  resolved := Array.replicate 7 none
  statics := none }

def pool16 : Array CpInfo := pool [(1, .class_ 2), (0, u "java/lang/Cloneable"), (0, .class_ 4), (0, u "java/lang/Object")] 2

/-- java/lang/Cloneable -/
def k16 : Class := { plain "java/lang/Cloneable" (some 0) with
  accessFlags := 1537
  interfaces := #[]
  cf := some (fileOf pool16 1 #[] #[] 1537 3 #[] #[])
  fields := #[]
  methods := #[]
  instanceTypes := #[]
  staticTypes := #[]
  resolved := Array.replicate 7 none
  statics := none }

def pool17 : Array CpInfo := pool [(1, .methodref 2 3), (0, .class_ 4), (0, .nameAndType 5 6), (0, u "java/util/AbstractList"), (0, u "<init>"), (0, u "()V"), (0, .class_ 8), (0, u "java/lang/Object"), (0, .fieldref 10 11), (0, .class_ 12), (0, .nameAndType 13 14), (0, u "java/util/ArrayList"), (0, u "elementData"), (0, u "[Ljava/lang/Object;"), (2, u "EMPTY_ELEMENTDATA"), (21, .fieldref 10 40), (0, .nameAndType 41 14), (0, u "DEFAULTCAPACITY_EMPTY_ELEMENTDATA"), (4, u "toArray"), (0, u "()[Ljava/lang/Object;"), (0, .fieldref 10 49), (0, .nameAndType 50 51), (0, u "size"), (0, u "I"), (6, .class_ 60), (1, u "java/util/Arrays"), (0, u "copyOf"), (1, .fieldref 10 64), (0, .nameAndType 65 51), (0, u "modCount"), (0, .methodref 58 67), (0, .nameAndType 61 68), (0, u "([Ljava/lang/Object;I)[Ljava/lang/Object;"), (0, .methodref 10 70), (0, .nameAndType 71 72), (0, u "grow"), (0, u "(I)[Ljava/lang/Object;"), (6, .methodref 80 81), (0, .class_ 82), (0, .nameAndType 83 84), (0, u "java/lang/Math"), (0, u "max"), (0, u "(II)I"), (11, u "(Ljava/lang/Object;)Z"), (32, .methodref 10 130), (0, .nameAndType 71 47), (0, .methodref 10 132), (0, .nameAndType 133 134), (0, u "add"), (0, u "(Ljava/lang/Object;[Ljava/lang/Object;I)V"), (13, .class_ 149), (0, u "java/util/List"), (23, u "()Z"), (88, .class_ 263), (0, u "java/util/ArrayList$ListItr"), (3, .class_ 268), (0, u "java/util/ArrayList$Itr"), (7, .class_ 277), (0, u "java/util/ArrayList$SubList"), (12, .class_ 291), (0, u "java/util/ArrayList$ArrayListSpliterator"), (37, .class_ 330), (0, u "java/util/RandomAccess"), (0, .class_ 332), (0, u "java/lang/Cloneable"), (0, .class_ 334), (0, u "java/io/Serializable"), (0, u "serialVersionUID"), (0, u "J"), (3, u "DEFAULT_CAPACITY"), (22, u "isEmpty"), (136, .class_ 501), (0, u "java/util/ArrayList$SubList$2"), (0, .class_ 503), (0, u "java/util/ArrayList$SubList$1")] 5

def k17c0 : Code := { maxStack := 2, maxLocals := 1, code := jdk_38_method_2_code, exceptionTable := #[], attributes := #[] }
def k17m0 : Method := { name := "<init>", desc := "()V", sig := { parameters := [], returnType := none }, accessFlags := 1, code := some k17c0 }
def k17c1 : Code := { maxStack := 4, maxLocals := 4, code := jdk_38_method_6_code, exceptionTable := #[], attributes := #[] }
def k17m1 : Method := { name := "grow", desc := "(I)[Ljava/lang/Object;", sig := { parameters := [.int], returnType := some (.array (.object "java/lang/Object")) }, accessFlags := 2, code := some k17c1 }
def k17c2 : Code := { maxStack := 3, maxLocals := 1, code := jdk_38_method_7_code, exceptionTable := #[], attributes := #[] }
def k17m2 : Method := { name := "grow", desc := "()[Ljava/lang/Object;", sig := { parameters := [], returnType := some (.array (.object "java/lang/Object")) }, accessFlags := 2, code := some k17c2 }
def k17c3 : Code := { maxStack := 1, maxLocals := 1, code := jdk_38_method_9_code, exceptionTable := #[], attributes := #[] }
def k17m3 : Method := { name := "isEmpty", desc := "()Z", sig := { parameters := [], returnType := some .boolean }, accessFlags := 1, code := some k17c3 }
def k17c4 : Code := { maxStack := 2, maxLocals := 1, code := jdk_38_method_16_code, exceptionTable := #[], attributes := #[] }
def k17m4 : Method := { name := "toArray", desc := "()[Ljava/lang/Object;", sig := { parameters := [], returnType := some (.array (.object "java/lang/Object")) }, accessFlags := 1, code := some k17c4 }
def k17c5 : Code := { maxStack := 3, maxLocals := 4, code := jdk_38_method_24_code, exceptionTable := #[], attributes := #[] }
def k17m5 : Method := { name := "add", desc := "(Ljava/lang/Object;[Ljava/lang/Object;I)V", sig := { parameters := [(.object "java/lang/Object"), (.array (.object "java/lang/Object")), .int], returnType := none }, accessFlags := 2, code := some k17c5 }
def k17c6 : Code := { maxStack := 4, maxLocals := 2, code := jdk_38_method_25_code, exceptionTable := #[], attributes := #[] }
def k17m6 : Method := { name := "add", desc := "(Ljava/lang/Object;)Z", sig := { parameters := [(.object "java/lang/Object")], returnType := some .boolean }, accessFlags := 1, code := some k17c6 }
/-- java/util/ArrayList -/
def k17 : Class := { plain "java/util/ArrayList" (some 14) with
  accessFlags := 33
  interfaces := #[13, 15, 16, 2]
  cf := some (fileOf pool17 10 #[.nestMembers #[290, 276, 500, 502, 262, 267]] #[{ accessFlags := 1, nameIndex := 5, descriptorIndex := 6, attributes := #[] }, { accessFlags := 2, nameIndex := 71, descriptorIndex := 72, attributes := #[] }, { accessFlags := 2, nameIndex := 71, descriptorIndex := 47, attributes := #[] }, { accessFlags := 1, nameIndex := 363, descriptorIndex := 173, attributes := #[] }, { accessFlags := 1, nameIndex := 46, descriptorIndex := 47, attributes := #[] }, { accessFlags := 2, nameIndex := 133, descriptorIndex := 134, attributes := #[] }, { accessFlags := 1, nameIndex := 133, descriptorIndex := 96, attributes := #[] }] 33 2 #[148, 329, 331, 333] #[{ accessFlags := 26, nameIndex := 335, descriptorIndex := 336, attributes := #[] }, { accessFlags := 26, nameIndex := 340, descriptorIndex := 51, attributes := #[] }, { accessFlags := 26, nameIndex := 17, descriptorIndex := 14, attributes := #[] }, { accessFlags := 26, nameIndex := 41, descriptorIndex := 14, attributes := #[] }, { accessFlags := 128, nameIndex := 13, descriptorIndex := 14, attributes := #[] }, { accessFlags := 2, nameIndex := 50, descriptorIndex := 51, attributes := #[] }])
  fields := #[{ name := "serialVersionUID", type := .long, accessFlags := 26, slot := 0, constantValue := 0 }, { name := "DEFAULT_CAPACITY", type := .int, accessFlags := 26, slot := 1, constantValue := 0 }, { name := "EMPTY_ELEMENTDATA", type := (.array (.object "java/lang/Object")), accessFlags := 26, slot := 2, constantValue := 0 }, { name := "DEFAULTCAPACITY_EMPTY_ELEMENTDATA", type := (.array (.object "java/lang/Object")), accessFlags := 26, slot := 3, constantValue := 0 }, { name := "elementData", type := (.array (.object "java/lang/Object")), accessFlags := 128, slot := 1, constantValue := 0 }, { name := "size", type := .int, accessFlags := 2, slot := 2, constantValue := 0 }]
  methods := #[k17m0, k17m1, k17m2, k17m3, k17m4, k17m5, k17m6]
  instanceTypes := #[.int, (.array (.object "java/lang/Object")), .int]
  staticTypes := #[.long, .int, (.array (.object "java/lang/Object")), (.array (.object "java/lang/Object"))]
  resolved := Array.replicate 509 none
  statics := some 1 }

def pool18 : Array CpInfo := pool [(1, .methodref 2 3), (0, .class_ 4), (0, .nameAndType 5 6), (0, u "java/lang/Object"), (0, u "<init>"), (0, u "()V"), (0, .fieldref 8 9), (0, .class_ 10), (0, .nameAndType 11 12), (0, u "com/example/vestline/vestline/changeofcontrol/Judgement"), (0, u "plan"), (0, u "Ljava/lang/String;"), (0, .interfaceMethodref 14 15), (0, .class_ 16), (0, .nameAndType 17 18), (0, u "java/util/List"), (0, u "copyOf"), (0, u "(Ljava/util/Collection;)Ljava/util/List;"), (0, .fieldref 8 20), (0, .nameAndType 21 22), (0, u "clausesMet"), (0, u "Ljava/util/List;"), (0, .interfaceMethodref 14 24), (0, .nameAndType 25 26), (0, u "isEmpty"), (0, u "()Z"), (2, u "(Ljava/lang/String;Ljava/util/List;)V"), (6, u "changesControl")] 3

def k18c0 : Code := { maxStack := 2, maxLocals := 3, code := prog_8_method_1_code, exceptionTable := #[], attributes := #[] }
def k18m0 : Method := { name := "<init>", desc := "(Ljava/lang/String;Ljava/util/List;)V", sig := { parameters := [(.object "java/lang/String"), (.object "java/util/List")], returnType := none }, accessFlags := 0, code := some k18c0 }
def k18c1 : Code := { maxStack := 1, maxLocals := 1, code := prog_8_method_4_code, exceptionTable := #[], attributes := #[] }
def k18m1 : Method := { name := "changesControl", desc := "()Z", sig := { parameters := [], returnType := some .boolean }, accessFlags := 1, code := some k18c1 }
/-- com/example/vestline/vestline/changeofcontrol/Judgement -/
def k18 : Class := { plain "com/example/vestline/vestline/changeofcontrol/Judgement" (some 0) with
  accessFlags := 49
  interfaces := #[]
  cf := some (fileOf pool18 8 #[] #[{ accessFlags := 0, nameIndex := 5, descriptorIndex := 29, attributes := #[] }, { accessFlags := 1, nameIndex := 36, descriptorIndex := 26, attributes := #[] }] 49 2 #[] #[{ accessFlags := 18, nameIndex := 11, descriptorIndex := 12, attributes := #[] }, { accessFlags := 18, nameIndex := 21, descriptorIndex := 22, attributes := #[] }])
  fields := #[{ name := "plan", type := (.object "java/lang/String"), accessFlags := 18, slot := 0, constantValue := 0 }, { name := "clausesMet", type := (.object "java/util/List"), accessFlags := 18, slot := 1, constantValue := 0 }]
  methods := #[k18m0, k18m1]
  instanceTypes := #[(.object "java/lang/String"), (.object "java/util/List")]
  staticTypes := #[]
  resolved := Array.replicate 40 none
  statics := none }

def pool19 : Array CpInfo := pool [(2, .class_ 4), (1, u "java/lang/Object"), (0, u "<init>"), (0, u "()V"), (3, .class_ 11), (0, u "java/util/ImmutableCollections$List12"), (0, .class_ 13), (0, u "java/util/ImmutableCollections$ListN"), (3, u "Z"), (0, .class_ 19), (0, u "java/util/List"), (0, .interfaceMethodref 21 22), (0, .class_ 23), (0, .nameAndType 24 25), (0, u "java/util/Collection"), (0, u "isEmpty"), (0, u "()Z"), (0, .interfaceMethodref 18 27), (0, .nameAndType 28 29), (0, u "of"), (0, u "()Ljava/util/List;"), (0, .interfaceMethodref 21 31), (0, .nameAndType 32 33), (0, u "toArray"), (0, u "()[Ljava/lang/Object;"), (0, .interfaceMethodref 18 35), (0, .nameAndType 28 36), (0, u "([Ljava/lang/Object;)Ljava/util/List;"), (0, .methodref 38 39), (0, .class_ 40), (0, .nameAndType 41 42), (0, u "java/util/Objects"), (0, u "requireNonNull"), (0, u "(Ljava/lang/Object;)Ljava/lang/Object;"), (0, .methodref 12 44), (0, .nameAndType 5 45), (0, u "([Ljava/lang/Object;Z)V"), (1, .class_ 49), (1, u "java/util/ImmutableCollections"), (0, u "$assertionsDisabled"), (5, u "[Ljava/lang/Object;"), (5, u "EMPTY_LIST"), (0, u "Ljava/util/ImmutableCollections$ListN;"), (8, u "EMPTY_LIST_NULLS"), (22, u "SALT32L"), (0, u "J"), (2, u "REVERSE"), (6, u "archivedObjects"), (2, u "EMPTY"), (0, u "Ljava/lang/Object;"), (0, .class_ 112), (0, u "java/util/ImmutableCollections$SetN"), (5, u "EMPTY_SET"), (0, u "Ljava/util/ImmutableCollections$SetN;"), (0, .class_ 121), (0, u "java/util/ImmutableCollections$MapN"), (3, u "EMPTY_MAP"), (0, u "Ljava/util/ImmutableCollections$MapN;"), (4, u "EXPAND_FACTOR"), (0, u "I"), (9, u "listCopy"), (0, u "(Ljava/util/Collection;)Ljava/util/List;"), (7, u "listFromArray"), (17, .class_ 170), (0, u "java/util/ImmutableCollections$MapN$MapNIterator"), (0, .class_ 172), (0, u "java/util/ImmutableCollections$MapN$1"), (0, .class_ 174), (0, u "java/util/ImmutableCollections$Map1"), (0, .class_ 176), (0, u "java/util/ImmutableCollections$AbstractImmutableMap"), (0, .class_ 178), (0, u "java/util/ImmutableCollections$SetN$SetNIterator"), (0, .class_ 180), (0, u "java/util/ImmutableCollections$Set12"), (0, .class_ 182), (0, u "java/util/ImmutableCollections$Set12$1"), (0, .class_ 184), (0, u "java/util/ImmutableCollections$AbstractImmutableSet"), (0, .class_ 186), (0, u "java/util/ImmutableCollections$SubList"), (0, .class_ 188), (0, u "java/util/ImmutableCollections$ListItr"), (0, .class_ 190), (0, u "java/util/ImmutableCollections$AbstractImmutableList"), (0, .class_ 192), (0, u "java/util/ImmutableCollections$AbstractImmutableCollection"), (0, .class_ 194), (0, u "java/util/ImmutableCollections$Access"), (0, .class_ 196), (0, u "java/util/ImmutableCollections$Access$1")] 16

def k19m0 : Method := { name := "<init>", desc := "()V", sig := { parameters := [], returnType := none }, accessFlags := 2, code := none }
def k19c1 : Code := { maxStack := 1, maxLocals := 2, code := jdk_56_method_3_code, exceptionTable := #[], attributes := #[] }
def k19m1 : Method := { name := "listCopy", desc := "(Ljava/util/Collection;)Ljava/util/List;", sig := { parameters := [(.object "java/util/Collection")], returnType := some (.object "java/util/List") }, accessFlags := 8, code := some k19c1 }
def k19c2 : Code := { maxStack := 4, maxLocals := 3, code := jdk_56_method_4_code, exceptionTable := #[], attributes := #[] }
def k19m2 : Method := { name := "listFromArray", desc := "([Ljava/lang/Object;)Ljava/util/List;", sig := { parameters := [(.array (.object "java/lang/Object"))], returnType := some (.object "java/util/List") }, accessFlags := 136, code := some k19c2 }
/-- java/util/ImmutableCollections -/
def k19 : Class := { plain "java/util/ImmutableCollections" (some 0) with
  accessFlags := 32
  interfaces := #[]
  cf := some (fileOf pool19 47 #[.nestMembers #[120, 169, 171, 173, 175, 111, 177, 179, 181, 183, 12, 10, 185, 187, 189, 191, 193, 195]] #[{ accessFlags := 2, nameIndex := 5, descriptorIndex := 6, attributes := #[] }, { accessFlags := 8, nameIndex := 142, descriptorIndex := 143, attributes := #[] }, { accessFlags := 136, nameIndex := 151, descriptorIndex := 36, attributes := #[] }] 32 2 #[] #[{ accessFlags := 26, nameIndex := 95, descriptorIndex := 96, attributes := #[] }, { accessFlags := 26, nameIndex := 99, descriptorIndex := 17, attributes := #[] }, { accessFlags := 10, nameIndex := 106, descriptorIndex := 56, attributes := #[] }, { accessFlags := 26, nameIndex := 109, descriptorIndex := 110, attributes := #[] }, { accessFlags := 24, nameIndex := 62, descriptorIndex := 63, attributes := #[] }, { accessFlags := 24, nameIndex := 72, descriptorIndex := 63, attributes := #[] }, { accessFlags := 24, nameIndex := 118, descriptorIndex := 119, attributes := #[] }, { accessFlags := 24, nameIndex := 125, descriptorIndex := 126, attributes := #[] }, { accessFlags := 24, nameIndex := 131, descriptorIndex := 132, attributes := #[] }, { accessFlags := 4120, nameIndex := 50, descriptorIndex := 17, attributes := #[] }])
  fields := #[{ name := "SALT32L", type := .long, accessFlags := 26, slot := 0, constantValue := 0 }, { name := "REVERSE", type := .boolean, accessFlags := 26, slot := 1, constantValue := 0 }, { name := "archivedObjects", type := (.array (.object "java/lang/Object")), accessFlags := 10, slot := 2, constantValue := 0 }, { name := "EMPTY", type := (.object "java/lang/Object"), accessFlags := 26, slot := 3, constantValue := 0 }, { name := "EMPTY_LIST", type := (.object "java/util/ImmutableCollections$ListN"), accessFlags := 24, slot := 4, constantValue := 0 }, { name := "EMPTY_LIST_NULLS", type := (.object "java/util/ImmutableCollections$ListN"), accessFlags := 24, slot := 5, constantValue := 0 }, { name := "EMPTY_SET", type := (.object "java/util/ImmutableCollections$SetN"), accessFlags := 24, slot := 6, constantValue := 0 }, { name := "EMPTY_MAP", type := (.object "java/util/ImmutableCollections$MapN"), accessFlags := 24, slot := 7, constantValue := 0 }, { name := "EXPAND_FACTOR", type := .int, accessFlags := 24, slot := 8, constantValue := 0 }, { name := "$assertionsDisabled", type := .boolean, accessFlags := 4120, slot := 9, constantValue := 0 }]
  methods := #[k19m0, k19m1, k19m2]
  instanceTypes := #[]
  staticTypes := #[.long, .boolean, (.array (.object "java/lang/Object")), (.object "java/lang/Object"), (.object "java/util/ImmutableCollections$ListN"), (.object "java/util/ImmutableCollections$ListN"), (.object "java/util/ImmutableCollections$SetN"), (.object "java/util/ImmutableCollections$MapN"), .int, .boolean]
  resolved := Array.replicate 213 none
  statics := some 2 }

def pool20 : Array CpInfo := pool [(1, .methodref 2 3), (0, .class_ 4), (0, .nameAndType 5 6), (0, u "java/util/AbstractCollection"), (0, u "<init>"), (0, u "()V"), (1, .class_ 10), (1, u "java/util/ImmutableCollections"), (2, .class_ 14), (0, u "java/util/ImmutableCollections$AbstractImmutableCollection")] 41

def k20c0 : Code := { maxStack := 1, maxLocals := 1, code := jdk_47_method_1_code, exceptionTable := #[], attributes := #[] }
def k20m0 : Method := { name := "<init>", desc := "()V", sig := { parameters := [], returnType := none }, accessFlags := 0, code := some k20c0 }
/-- java/util/ImmutableCollections$AbstractImmutableCollection -/
def k20 : Class := { plain "java/util/ImmutableCollections$AbstractImmutableCollection" (some 11) with
  accessFlags := 1056
  interfaces := #[]
  cf := some (fileOf pool20 13 #[.nestHost 8] #[{ accessFlags := 0, nameIndex := 5, descriptorIndex := 6, attributes := #[] }] 1056 2 #[] #[])
  fields := #[]
  methods := #[k20m0]
  instanceTypes := #[]
  staticTypes := #[]
  resolved := Array.replicate 56 none
  statics := none }

def pool21 : Array CpInfo := pool [(1, .methodref 2 3), (0, .class_ 4), (0, .nameAndType 5 6), (0, u "java/util/ImmutableCollections$AbstractImmutableCollection"), (0, u "<init>"), (0, u "()V"), (1, .class_ 10), (1, u "java/util/ImmutableCollections"), (3, .class_ 16), (1, u "java/util/ImmutableCollections$AbstractImmutableList"), (60, .class_ 78), (0, u "java/util/List"), (45, .class_ 125), (0, u "java/util/RandomAccess")] 70

def k21c0 : Code := { maxStack := 1, maxLocals := 1, code := jdk_46_method_1_code, exceptionTable := #[], attributes := #[] }
def k21m0 : Method := { name := "<init>", desc := "()V", sig := { parameters := [], returnType := none }, accessFlags := 0, code := some k21c0 }
/-- java/util/ImmutableCollections$AbstractImmutableList -/
def k21 : Class := { plain "java/util/ImmutableCollections$AbstractImmutableList" (some 20) with
  accessFlags := 1056
  interfaces := #[13, 15]
  cf := some (fileOf pool21 14 #[.nestHost 8] #[{ accessFlags := 0, nameIndex := 5, descriptorIndex := 6, attributes := #[] }] 1056 2 #[77, 124] #[])
  fields := #[]
  methods := #[k21m0]
  instanceTypes := #[]
  staticTypes := #[]
  resolved := Array.replicate 196 none
  statics := none }

def pool22 : Array CpInfo := pool [(1, .methodref 2 3), (0, .class_ 4), (0, .nameAndType 5 6), (0, u "java/util/ImmutableCollections$AbstractImmutableList"), (0, u "<init>"), (0, u "()V"), (0, .methodref 8 9), (0, .class_ 10), (0, .nameAndType 11 12), (0, u "java/util/Objects"), (0, u "requireNonNull"), (0, u "(Ljava/lang/Object;)Ljava/lang/Object;"), (0, .fieldref 14 15), (0, .class_ 16), (0, .nameAndType 17 18), (0, u "java/util/ImmutableCollections$List12"), (0, u "e0"), (0, u "Ljava/lang/Object;"), (0, .fieldref 20 21), (0, .class_ 22), (0, .nameAndType 23 18), (0, u "java/util/ImmutableCollections"), (0, u "EMPTY"), (0, .fieldref 14 25), (0, .nameAndType 26 18), (0, u "e1"), (43, .class_ 71), (0, u "java/io/Serializable"), (4, u "(Ljava/lang/Object;)V"), (8, u "(Ljava/lang/Object;Ljava/lang/Object;)V"), (2, u "isEmpty"), (0, u "()Z")] 35

def k22c0 : Code := { maxStack := 2, maxLocals := 2, code := jdk_44_method_1_code, exceptionTable := #[], attributes := #[] }
def k22m0 : Method := { name := "<init>", desc := "(Ljava/lang/Object;)V", sig := { parameters := [(.object "java/lang/Object")], returnType := none }, accessFlags := 0, code := some k22c0 }
def k22c1 : Code := { maxStack := 2, maxLocals := 3, code := jdk_44_method_2_code, exceptionTable := #[], attributes := #[] }
def k22m1 : Method := { name := "<init>", desc := "(Ljava/lang/Object;Ljava/lang/Object;)V", sig := { parameters := [(.object "java/lang/Object"), (.object "java/lang/Object")], returnType := none }, accessFlags := 0, code := some k22c1 }
def k22c2 : Code := { maxStack := 1, maxLocals := 1, code := jdk_44_method_4_code, exceptionTable := #[], attributes := #[] }
def k22m2 : Method := { name := "isEmpty", desc := "()Z", sig := { parameters := [], returnType := some .boolean }, accessFlags := 1, code := some k22c2 }
/-- java/util/ImmutableCollections$List12 -/
def k22 : Class := { plain "java/util/ImmutableCollections$List12" (some 21) with
  accessFlags := 48
  interfaces := #[2]
  cf := some (fileOf pool22 14 #[.nestHost 20] #[{ accessFlags := 0, nameIndex := 5, descriptorIndex := 76, attributes := #[] }, { accessFlags := 0, nameIndex := 5, descriptorIndex := 85, attributes := #[] }, { accessFlags := 1, nameIndex := 88, descriptorIndex := 89, attributes := #[] }] 48 2 #[70] #[{ accessFlags := 18, nameIndex := 17, descriptorIndex := 18, attributes := #[] }, { accessFlags := 18, nameIndex := 26, descriptorIndex := 18, attributes := #[] }])
  fields := #[{ name := "e0", type := (.object "java/lang/Object"), accessFlags := 18, slot := 0, constantValue := 0 }, { name := "e1", type := (.object "java/lang/Object"), accessFlags := 18, slot := 1, constantValue := 0 }]
  methods := #[k22m0, k22m1, k22m2]
  instanceTypes := #[(.object "java/lang/Object"), (.object "java/lang/Object")]
  staticTypes := #[]
  resolved := Array.replicate 125 none
  statics := none }

def pool23 : Array CpInfo := pool [(1, .methodref 2 3), (0, .class_ 4), (0, .nameAndType 5 6), (0, u "java/util/ImmutableCollections$AbstractImmutableList"), (0, u "<init>"), (0, u "()V"), (0, .fieldref 8 9), (0, .class_ 10), (0, .nameAndType 11 12), (0, u "java/util/ImmutableCollections$ListN"), (0, u "elements"), (0, u "[Ljava/lang/Object;"), (0, .fieldref 8 14), (0, .nameAndType 15 16), (0, u "allowNulls"), (0, u "Z"), (42, .class_ 60), (0, u "java/io/Serializable"), (4, u "([Ljava/lang/Object;Z)V"), (8, u "isEmpty"), (0, u "()Z"), (38, .class_ 115), (0, u "java/util/ImmutableCollections")] 3

def k23c0 : Code := { maxStack := 2, maxLocals := 3, code := jdk_45_method_1_code, exceptionTable := #[], attributes := #[] }
def k23m0 : Method := { name := "<init>", desc := "([Ljava/lang/Object;Z)V", sig := { parameters := [(.array (.object "java/lang/Object")), .boolean], returnType := none }, accessFlags := 2, code := some k23c0 }
def k23c1 : Code := { maxStack := 1, maxLocals := 1, code := jdk_45_method_2_code, exceptionTable := #[], attributes := #[] }
def k23m1 : Method := { name := "isEmpty", desc := "()Z", sig := { parameters := [], returnType := some .boolean }, accessFlags := 1, code := some k23c1 }
/-- java/util/ImmutableCollections$ListN -/
def k23 : Class := { plain "java/util/ImmutableCollections$ListN" (some 21) with
  accessFlags := 48
  interfaces := #[2]
  cf := some (fileOf pool23 8 #[.nestHost 114] #[{ accessFlags := 2, nameIndex := 5, descriptorIndex := 65, attributes := #[] }, { accessFlags := 1, nameIndex := 74, descriptorIndex := 75, attributes := #[] }] 48 2 #[59] #[{ accessFlags := 18, nameIndex := 11, descriptorIndex := 12, attributes := #[] }, { accessFlags := 18, nameIndex := 15, descriptorIndex := 16, attributes := #[] }])
  fields := #[{ name := "elements", type := (.array (.object "java/lang/Object")), accessFlags := 18, slot := 0, constantValue := 0 }, { name := "allowNulls", type := .boolean, accessFlags := 18, slot := 1, constantValue := 0 }]
  methods := #[k23m0, k23m1]
  instanceTypes := #[(.array (.object "java/lang/Object")), .boolean]
  staticTypes := #[]
  resolved := Array.replicate 119 none
  statics := none }

def pool24 : Array CpInfo := pool [(1, .class_ 2), (0, u "java/lang/Math"), (1, .class_ 6), (1, u "java/lang/Object"), (0, u "<init>"), (0, u "()V"), (89, .class_ 100), (1, u "java/lang/Math$RandomNumberGeneratorHolder"), (71, u "negativeZeroFloatBits"), (0, u "J"), (2, u "negativeZeroDoubleBits"), (21, u "max"), (2, u "min"), (43, u "$assertionsDisabled"), (0, u "Z"), (88, u "(II)I"), (2, u "twoToTheDoubleScaleDown"), (0, u "D"), (4, u "twoToTheDoubleScaleUp"), (9, u "E"), (3, u "PI"), (2, u "TAU"), (2, u "DEGREES_TO_RADIANS"), (0, u "RADIANS_TO_DEGREES")] 94

def k24m0 : Method := { name := "<init>", desc := "()V", sig := { parameters := [], returnType := none }, accessFlags := 2, code := none }
def k24c1 : Code := { maxStack := 2, maxLocals := 2, code := jdk_29_method_65_code, exceptionTable := #[], attributes := #[] }
def k24m1 : Method := { name := "max", desc := "(II)I", sig := { parameters := [.int, .int], returnType := some .int }, accessFlags := 9, code := some k24c1 }
def k24c2 : Code := { maxStack := 2, maxLocals := 2, code := jdk_29_method_69_code, exceptionTable := #[], attributes := #[] }
def k24m2 : Method := { name := "min", desc := "(II)I", sig := { parameters := [.int, .int], returnType := some .int }, accessFlags := 9, code := some k24c2 }
/-- java/lang/Math -/
def k24 : Class := { plain "java/lang/Math" (some 0) with
  accessFlags := 49
  interfaces := #[]
  cf := some (fileOf pool24 1 #[.nestMembers #[98]] #[{ accessFlags := 2, nameIndex := 7, descriptorIndex := 8, attributes := #[] }, { accessFlags := 9, nameIndex := 198, descriptorIndex := 335, attributes := #[] }, { accessFlags := 9, nameIndex := 201, descriptorIndex := 335, attributes := #[] }] 49 4 #[] #[{ accessFlags := 25, nameIndex := 354, descriptorIndex := 339, attributes := #[] }, { accessFlags := 25, nameIndex := 358, descriptorIndex := 339, attributes := #[] }, { accessFlags := 25, nameIndex := 361, descriptorIndex := 339, attributes := #[] }, { accessFlags := 26, nameIndex := 364, descriptorIndex := 339, attributes := #[] }, { accessFlags := 26, nameIndex := 365, descriptorIndex := 339, attributes := #[] }, { accessFlags := 26, nameIndex := 172, descriptorIndex := 173, attributes := #[] }, { accessFlags := 26, nameIndex := 176, descriptorIndex := 173, attributes := #[] }, { accessFlags := 8, nameIndex := 344, descriptorIndex := 339, attributes := #[] }, { accessFlags := 8, nameIndex := 338, descriptorIndex := 339, attributes := #[] }, { accessFlags := 4120, nameIndex := 245, descriptorIndex := 246, attributes := #[] }])
  fields := #[{ name := "E", type := .double, accessFlags := 25, slot := 0, constantValue := 0 }, { name := "PI", type := .double, accessFlags := 25, slot := 1, constantValue := 0 }, { name := "TAU", type := .double, accessFlags := 25, slot := 2, constantValue := 0 }, { name := "DEGREES_TO_RADIANS", type := .double, accessFlags := 26, slot := 3, constantValue := 0 }, { name := "RADIANS_TO_DEGREES", type := .double, accessFlags := 26, slot := 4, constantValue := 0 }, { name := "negativeZeroFloatBits", type := .long, accessFlags := 26, slot := 5, constantValue := 0 }, { name := "negativeZeroDoubleBits", type := .long, accessFlags := 26, slot := 6, constantValue := 0 }, { name := "twoToTheDoubleScaleUp", type := .double, accessFlags := 8, slot := 7, constantValue := 0 }, { name := "twoToTheDoubleScaleDown", type := .double, accessFlags := 8, slot := 8, constantValue := 0 }, { name := "$assertionsDisabled", type := .boolean, accessFlags := 4120, slot := 9, constantValue := 0 }]
  methods := #[k24m0, k24m1, k24m2]
  instanceTypes := #[]
  staticTypes := #[.double, .double, .double, .double, .double, .long, .long, .double, .double, .boolean]
  resolved := Array.replicate 460 none
  statics := none }

def pool25 : Array CpInfo := pool [(2, .class_ 4), (1, u "java/lang/Object"), (0, u "<init>"), (0, u "()V"), (7, .class_ 16), (1, u "java/util/Arrays"), (57, .class_ 76), (1, u "java/util/Arrays$NaturalOrder"), (9, .methodref 2 87), (0, .nameAndType 88 89), (0, u "getClass"), (0, u "()Ljava/lang/Class;"), (20, .class_ 111), (0, u "[Ljava/lang/Object;"), (1, .class_ 115), (1, u "java/util/Arrays$LegacyMergeSort"), (1, u "Z"), (32, .methodref 151 152), (0, .class_ 153), (0, .nameAndType 154 155), (0, u "java/lang/System"), (0, u "arraycopy"), (0, u "(Ljava/lang/Object;ILjava/lang/Object;II)V"), (144, .methodref 14 301), (0, .nameAndType 302 303), (0, u "copyOf"), (0, u "([Ljava/lang/Object;ILjava/lang/Class;)[Ljava/lang/Object;"), (0, .methodref 305 306), (0, .class_ 307), (0, .nameAndType 308 309), (0, u "java/lang/Math"), (0, u "min"), (0, u "(II)I"), (65, .class_ 376), (0, u "java/util/Arrays$ArrayList"), (68, u "$assertionsDisabled"), (269, u "MIN_ARRAY_SORT_GRAN"), (0, u "I"), (2, u "INSERTIONSORT_THRESHOLD"), (140, u "([Ljava/lang/Object;I)[Ljava/lang/Object;"), (114, .class_ 976), (0, u "java/util/Arrays$ArrayItr")] 52

def k25m0 : Method := { name := "<init>", desc := "()V", sig := { parameters := [], returnType := none }, accessFlags := 2, code := none }
def k25c1 : Code := { maxStack := 3, maxLocals := 2, code := jdk_65_method_119_code, exceptionTable := #[], attributes := #[] }
def k25m1 : Method := { name := "copyOf", desc := "([Ljava/lang/Object;I)[Ljava/lang/Object;", sig := { parameters := [(.array (.object "java/lang/Object")), .int], returnType := some (.array (.object "java/lang/Object")) }, accessFlags := 9, code := some k25c1 }
def k25c2 : Code := { maxStack := 6, maxLocals := 4, code := jdk_65_method_120_code, exceptionTable := #[], attributes := #[] }
def k25m2 : Method := { name := "copyOf", desc := "([Ljava/lang/Object;ILjava/lang/Class;)[Ljava/lang/Object;", sig := { parameters := [(.array (.object "java/lang/Object")), .int, (.object "java/lang/Class")], returnType := some (.array (.object "java/lang/Object")) }, accessFlags := 9, code := some k25c2 }
/-- java/util/Arrays -/
def k25 : Class := { plain "java/util/Arrays" (some 0) with
  accessFlags := 49
  interfaces := #[]
  cf := some (fileOf pool25 14 #[.nestMembers #[975, 375, 113, 74]] #[{ accessFlags := 2, nameIndex := 5, descriptorIndex := 6, attributes := #[] }, { accessFlags := 9, nameIndex := 302, descriptorIndex := 860, attributes := #[] }, { accessFlags := 9, nameIndex := 302, descriptorIndex := 303, attributes := #[] }] 49 2 #[] #[{ accessFlags := 26, nameIndex := 715, descriptorIndex := 716, attributes := #[] }, { accessFlags := 26, nameIndex := 719, descriptorIndex := 716, attributes := #[] }, { accessFlags := 4120, nameIndex := 445, descriptorIndex := 117, attributes := #[] }])
  fields := #[{ name := "MIN_ARRAY_SORT_GRAN", type := .int, accessFlags := 26, slot := 0, constantValue := 0 }, { name := "INSERTIONSORT_THRESHOLD", type := .int, accessFlags := 26, slot := 1, constantValue := 0 }, { name := "$assertionsDisabled", type := .boolean, accessFlags := 4120, slot := 2, constantValue := 0 }]
  methods := #[k25m0, k25m1, k25m2]
  instanceTypes := #[]
  staticTypes := #[.int, .int, .boolean]
  resolved := Array.replicate 1029 none
  statics := none }

def pool26 : Array CpInfo := pool [(2, .class_ 4), (1, u "java/lang/Object"), (0, u "<init>"), (0, u "()V"), (1, .class_ 10), (1, u "java/lang/System"), (0, u "allowSecurityManager"), (0, u "I"), (16, u "cons"), (0, u "Ljava/io/Console;"), (77, .class_ 110), (1, u "java/lang/System$CallersHolder"), (43, u "initialErrStream"), (0, u "Ljava/io/PrintStream;"), (19, u "security"), (0, u "Ljava/lang/SecurityManager;"), (31, .class_ 209), (0, u "java/lang/System$1"), (7, u "props"), (0, u "Ljava/util/Properties;"), (2, u "lineSeparator"), (0, u "Ljava/lang/String;"), (96, .class_ 321), (1, u "java/lang/System$LoggerFinder"), (5, .class_ 328), (0, u "java/lang/System$Logger"), (67, u "err"), (2, u "out"), (91, u "notSupportedJnuEncoding"), (15, u "in"), (17, u "initialIn"), (0, u "Ljava/io/InputStream;"), (35, u "bootLayer"), (0, u "Ljava/lang/ModuleLayer;"), (99, .class_ 664), (0, u "java/lang/System$2"), (9, u "NEVER"), (2, u "MAYBE"), (49, u "arraycopy"), (0, u "(Ljava/lang/Object;ILjava/lang/Object;II)V"), (72, .class_ 802), (0, u "java/lang/System$Logger$Level")] 31

def k26m0 : Method := { name := "<init>", desc := "()V", sig := { parameters := [], returnType := none }, accessFlags := 2, code := none }
def k26m1 : Method := { name := "arraycopy", desc := "(Ljava/lang/Object;ILjava/lang/Object;II)V", sig := { parameters := [(.object "java/lang/Object"), .int, (.object "java/lang/Object"), .int, .int], returnType := none }, accessFlags := 265, code := none }
/-- java/lang/System -/
def k26 : Class := { plain "java/lang/System" (some 0) with
  accessFlags := 49
  interfaces := #[]
  cf := some (fileOf pool26 8 #[.nestMembers #[319, 327, 801, 108, 663, 208]] #[{ accessFlags := 2, nameIndex := 5, descriptorIndex := 6, attributes := #[] }, { accessFlags := 265, nameIndex := 727, descriptorIndex := 728, attributes := #[] }] 49 2 #[] #[{ accessFlags := 25, nameIndex := 507, descriptorIndex := 526, attributes := #[] }, { accessFlags := 25, nameIndex := 399, descriptorIndex := 155, attributes := #[] }, { accessFlags := 25, nameIndex := 396, descriptorIndex := 155, attributes := #[] }, { accessFlags := 10, nameIndex := 525, descriptorIndex := 526, attributes := #[] }, { accessFlags := 26, nameIndex := 674, descriptorIndex := 12, attributes := #[] }, { accessFlags := 26, nameIndex := 677, descriptorIndex := 12, attributes := #[] }, { accessFlags := 10, nameIndex := 11, descriptorIndex := 12, attributes := #[] }, { accessFlags := 74, nameIndex := 175, descriptorIndex := 176, attributes := #[] }, { accessFlags := 10, nameIndex := 491, descriptorIndex := 222, attributes := #[] }, { accessFlags := 74, nameIndex := 29, descriptorIndex := 30, attributes := #[] }, { accessFlags := 74, nameIndex := 154, descriptorIndex := 155, attributes := #[] }, { accessFlags := 10, nameIndex := 217, descriptorIndex := 218, attributes := #[] }, { accessFlags := 10, nameIndex := 221, descriptorIndex := 222, attributes := #[] }, { accessFlags := 8, nameIndex := 562, descriptorIndex := 563, attributes := #[] }])
  fields := #[{ name := "in", type := (.object "java/io/InputStream"), accessFlags := 25, slot := 0, constantValue := 0 }, { name := "out", type := (.object "java/io/PrintStream"), accessFlags := 25, slot := 1, constantValue := 0 }, { name := "err", type := (.object "java/io/PrintStream"), accessFlags := 25, slot := 2, constantValue := 0 }, { name := "initialIn", type := (.object "java/io/InputStream"), accessFlags := 10, slot := 3, constantValue := 0 }, { name := "NEVER", type := .int, accessFlags := 26, slot := 4, constantValue := 0 }, { name := "MAYBE", type := .int, accessFlags := 26, slot := 5, constantValue := 0 }, { name := "allowSecurityManager", type := .int, accessFlags := 10, slot := 6, constantValue := 0 }, { name := "security", type := (.object "java/lang/SecurityManager"), accessFlags := 74, slot := 7, constantValue := 0 }, { name := "notSupportedJnuEncoding", type := (.object "java/lang/String"), accessFlags := 10, slot := 8, constantValue := 0 }, { name := "cons", type := (.object "java/io/Console"), accessFlags := 74, slot := 9, constantValue := 0 }, { name := "initialErrStream", type := (.object "java/io/PrintStream"), accessFlags := 74, slot := 10, constantValue := 0 }, { name := "props", type := (.object "java/util/Properties"), accessFlags := 10, slot := 11, constantValue := 0 }, { name := "lineSeparator", type := (.object "java/lang/String"), accessFlags := 10, slot := 12, constantValue := 0 }, { name := "bootLayer", type := (.object "java/lang/ModuleLayer"), accessFlags := 8, slot := 13, constantValue := 0 }]
  methods := #[k26m0, k26m1]
  instanceTypes := #[]
  staticTypes := #[(.object "java/io/InputStream"), (.object "java/io/PrintStream"), (.object "java/io/PrintStream"), (.object "java/io/InputStream"), .int, .int, .int, (.object "java/lang/SecurityManager"), (.object "java/lang/String"), (.object "java/io/Console"), (.object "java/io/PrintStream"), (.object "java/util/Properties"), (.object "java/lang/String"), (.object "java/lang/ModuleLayer")]
  resolved := Array.replicate 834 none
  statics := none }

def pool27 : Array CpInfo := pool [(2, .class_ 4), (1, u "java/lang/Object"), (0, u "<init>"), (0, u "()V"), (35, .class_ 44), (1, u "java/util/Objects"), (0, u "requireNonNull"), (0, u "(Ljava/lang/Object;)Ljava/lang/Object;")] 137

def k27m0 : Method := { name := "<init>", desc := "()V", sig := { parameters := [], returnType := none }, accessFlags := 2, code := none }
def k27c1 : Code := { maxStack := 2, maxLocals := 1, code := jdk_31_method_10_code, exceptionTable := #[], attributes := #[] }
def k27m1 : Method := { name := "requireNonNull", desc := "(Ljava/lang/Object;)Ljava/lang/Object;", sig := { parameters := [(.object "java/lang/Object")], returnType := some (.object "java/lang/Object") }, accessFlags := 9, code := some k27c1 }
/-- java/util/Objects -/
def k27 : Class := { plain "java/util/Objects" (some 0) with
  accessFlags := 49
  interfaces := #[]
  cf := some (fileOf pool27 42 #[] #[{ accessFlags := 2, nameIndex := 5, descriptorIndex := 6, attributes := #[] }, { accessFlags := 9, nameIndex := 45, descriptorIndex := 46, attributes := #[] }] 49 2 #[] #[])
  fields := #[]
  methods := #[k27m0, k27m1]
  instanceTypes := #[]
  staticTypes := #[]
  resolved := Array.replicate 184 none
  statics := none }

def pool28 : Array CpInfo := pool [(4, .class_ 6), (1, u "java/lang/Object"), (0, u "<init>"), (0, u "()V"), (5, .class_ 16), (1, u "java/lang/StringLatin1"), (104, u "$assertionsDisabled"), (0, u "Z"), (98, .class_ 223), (1, u "java/lang/StringLatin1$LinesSpliterator"), (166, .class_ 391), (0, u "java/lang/StringLatin1$CharsSpliterator")] 3

def k28m0 : Method := { name := "<init>", desc := "()V", sig := { parameters := [], returnType := none }, accessFlags := 0, code := none }
/-- java/lang/StringLatin1 -/
def k28 : Class := { plain "java/lang/StringLatin1" (some 0) with
  accessFlags := 48
  interfaces := #[]
  cf := some (fileOf pool28 14 #[.nestMembers #[390, 221]] #[{ accessFlags := 0, nameIndex := 7, descriptorIndex := 8, attributes := #[] }] 48 4 #[] #[{ accessFlags := 4120, nameIndex := 121, descriptorIndex := 122, attributes := #[] }])
  fields := #[{ name := "$assertionsDisabled", type := .boolean, accessFlags := 4120, slot := 0, constantValue := 0 }]
  methods := #[k28m0]
  instanceTypes := #[]
  staticTypes := #[.boolean]
  resolved := Array.replicate 395 none
  statics := none }

def pool29 : Array CpInfo := pool [(2, .class_ 4), (1, u "java/lang/Object"), (0, u "<init>"), (0, u "()V"), (17, .class_ 26), (1, u "jdk/internal/util/Preconditions"), (28, .class_ 56), (0, u "jdk/internal/util/Preconditions$4"), (57, .class_ 115), (0, u "jdk/internal/util/Preconditions$1"), (7, u "SIOOBE_FORMATTER"), (0, u "Ljava/util/function/BiFunction;"), (0, .class_ 126), (0, u "jdk/internal/util/Preconditions$2"), (3, u "AIOOBE_FORMATTER"), (0, .class_ 132), (0, u "jdk/internal/util/Preconditions$3"), (3, u "IOOBE_FORMATTER")] 57

def k29m0 : Method := { name := "<init>", desc := "()V", sig := { parameters := [], returnType := none }, accessFlags := 1, code := none }
/-- jdk/internal/util/Preconditions -/
def k29 : Class := { plain "jdk/internal/util/Preconditions" (some 0) with
  accessFlags := 33
  interfaces := #[]
  cf := some (fileOf pool29 24 #[.nestMembers #[55, 131, 125, 114]] #[{ accessFlags := 1, nameIndex := 5, descriptorIndex := 6, attributes := #[] }] 33 2 #[] #[{ accessFlags := 25, nameIndex := 123, descriptorIndex := 124, attributes := #[] }, { accessFlags := 25, nameIndex := 130, descriptorIndex := 124, attributes := #[] }, { accessFlags := 25, nameIndex := 136, descriptorIndex := 124, attributes := #[] }])
  fields := #[{ name := "SIOOBE_FORMATTER", type := (.object "java/util/function/BiFunction"), accessFlags := 25, slot := 0, constantValue := 0 }, { name := "AIOOBE_FORMATTER", type := (.object "java/util/function/BiFunction"), accessFlags := 25, slot := 1, constantValue := 0 }, { name := "IOOBE_FORMATTER", type := (.object "java/util/function/BiFunction"), accessFlags := 25, slot := 2, constantValue := 0 }]
  methods := #[k29m0]
  instanceTypes := #[]
  staticTypes := #[(.object "java/util/function/BiFunction"), (.object "java/util/function/BiFunction"), (.object "java/util/function/BiFunction")]
  resolved := Array.replicate 194 none
  statics := some 3 }

def pool30 : Array CpInfo := pool [(9, u "<init>"), (6, .class_ 18), (1, u "java/lang/Object"), (0, u "()V"), (1, .class_ 23), (1, u "jdk/internal/util/ArraysSupport"), (0, u "LOG2_ARRAY_LONG_INDEX_SCALE"), (0, u "I"), (2, u "U"), (0, u "Ljdk/internal/misc/Unsafe;"), (8, u "BIG_ENDIAN"), (0, u "Z"), (8, u "LOG2_BYTE_BIT_SIZE"), (4, u "LOG2_ARRAY_INT_INDEX_SCALE"), (54, u "JLA"), (0, u "Ljdk/internal/access/JavaLangAccess;"), (11, u "LOG2_ARRAY_BOOLEAN_INDEX_SCALE"), (9, u "LOG2_ARRAY_BYTE_INDEX_SCALE"), (5, u "LOG2_ARRAY_CHAR_INDEX_SCALE"), (5, u "LOG2_ARRAY_SHORT_INDEX_SCALE"), (18, u "LOG2_ARRAY_FLOAT_INDEX_SCALE"), (24, u "LOG2_ARRAY_DOUBLE_INDEX_SCALE"), (89, u "T_BOOLEAN"), (2, u "T_CHAR"), (1, u "T_FLOAT"), (1, u "T_DOUBLE"), (1, u "T_BYTE"), (1, u "T_SHORT"), (1, u "T_INT"), (1, u "T_LONG"), (1, u "SOFT_MAX_ARRAY_LENGTH")] 83

def k30m0 : Method := { name := "<init>", desc := "()V", sig := { parameters := [], returnType := none }, accessFlags := 2, code := none }
/-- jdk/internal/util/ArraysSupport -/
def k30 : Class := { plain "jdk/internal/util/ArraysSupport" (some 0) with
  accessFlags := 33
  interfaces := #[]
  cf := some (fileOf pool30 21 #[] #[{ accessFlags := 2, nameIndex := 9, descriptorIndex := 19, attributes := #[] }] 33 16 #[] #[{ accessFlags := 24, nameIndex := 28, descriptorIndex := 29, attributes := #[] }, { accessFlags := 26, nameIndex := 38, descriptorIndex := 39, attributes := #[] }, { accessFlags := 25, nameIndex := 121, descriptorIndex := 25, attributes := #[] }, { accessFlags := 25, nameIndex := 131, descriptorIndex := 25, attributes := #[] }, { accessFlags := 25, nameIndex := 137, descriptorIndex := 25, attributes := #[] }, { accessFlags := 25, nameIndex := 143, descriptorIndex := 25, attributes := #[] }, { accessFlags := 25, nameIndex := 53, descriptorIndex := 25, attributes := #[] }, { accessFlags := 25, nameIndex := 24, descriptorIndex := 25, attributes := #[] }, { accessFlags := 25, nameIndex := 162, descriptorIndex := 25, attributes := #[] }, { accessFlags := 25, nameIndex := 187, descriptorIndex := 25, attributes := #[] }, { accessFlags := 26, nameIndex := 48, descriptorIndex := 25, attributes := #[] }, { accessFlags := 25, nameIndex := 277, descriptorIndex := 25, attributes := #[] }, { accessFlags := 25, nameIndex := 280, descriptorIndex := 25, attributes := #[] }, { accessFlags := 25, nameIndex := 282, descriptorIndex := 25, attributes := #[] }, { accessFlags := 25, nameIndex := 284, descriptorIndex := 25, attributes := #[] }, { accessFlags := 25, nameIndex := 286, descriptorIndex := 25, attributes := #[] }, { accessFlags := 25, nameIndex := 288, descriptorIndex := 25, attributes := #[] }, { accessFlags := 25, nameIndex := 290, descriptorIndex := 25, attributes := #[] }, { accessFlags := 25, nameIndex := 292, descriptorIndex := 25, attributes := #[] }, { accessFlags := 26, nameIndex := 108, descriptorIndex := 109, attributes := #[] }, { accessFlags := 25, nameIndex := 294, descriptorIndex := 25, attributes := #[] }])
  fields := #[{ name := "U", type := (.object "jdk/internal/misc/Unsafe"), accessFlags := 24, slot := 0, constantValue := 0 }, { name := "BIG_ENDIAN", type := .boolean, accessFlags := 26, slot := 1, constantValue := 0 }, { name := "LOG2_ARRAY_BOOLEAN_INDEX_SCALE", type := .int, accessFlags := 25, slot := 2, constantValue := 0 }, { name := "LOG2_ARRAY_BYTE_INDEX_SCALE", type := .int, accessFlags := 25, slot := 3, constantValue := 0 }, { name := "LOG2_ARRAY_CHAR_INDEX_SCALE", type := .int, accessFlags := 25, slot := 4, constantValue := 0 }, { name := "LOG2_ARRAY_SHORT_INDEX_SCALE", type := .int, accessFlags := 25, slot := 5, constantValue := 0 }, { name := "LOG2_ARRAY_INT_INDEX_SCALE", type := .int, accessFlags := 25, slot := 6, constantValue := 0 }, { name := "LOG2_ARRAY_LONG_INDEX_SCALE", type := .int, accessFlags := 25, slot := 7, constantValue := 0 }, { name := "LOG2_ARRAY_FLOAT_INDEX_SCALE", type := .int, accessFlags := 25, slot := 8, constantValue := 0 }, { name := "LOG2_ARRAY_DOUBLE_INDEX_SCALE", type := .int, accessFlags := 25, slot := 9, constantValue := 0 }, { name := "LOG2_BYTE_BIT_SIZE", type := .int, accessFlags := 26, slot := 10, constantValue := 0 }, { name := "T_BOOLEAN", type := .int, accessFlags := 25, slot := 11, constantValue := 0 }, { name := "T_CHAR", type := .int, accessFlags := 25, slot := 12, constantValue := 0 }, { name := "T_FLOAT", type := .int, accessFlags := 25, slot := 13, constantValue := 0 }, { name := "T_DOUBLE", type := .int, accessFlags := 25, slot := 14, constantValue := 0 }, { name := "T_BYTE", type := .int, accessFlags := 25, slot := 15, constantValue := 0 }, { name := "T_SHORT", type := .int, accessFlags := 25, slot := 16, constantValue := 0 }, { name := "T_INT", type := .int, accessFlags := 25, slot := 17, constantValue := 0 }, { name := "T_LONG", type := .int, accessFlags := 25, slot := 18, constantValue := 0 }, { name := "JLA", type := (.object "jdk/internal/access/JavaLangAccess"), accessFlags := 26, slot := 19, constantValue := 0 }, { name := "SOFT_MAX_ARRAY_LENGTH", type := .int, accessFlags := 25, slot := 20, constantValue := 0 }]
  methods := #[k30m0]
  instanceTypes := #[]
  staticTypes := #[(.object "jdk/internal/misc/Unsafe"), .boolean, .int, .int, .int, .int, .int, .int, .int, .int, .int, .int, .int, .int, .int, .int, .int, .int, .int, (.object "jdk/internal/access/JavaLangAccess"), .int]
  resolved := Array.replicate 378 none
  statics := none }

def pool31 : Array CpInfo := pool [(1, u "java/lang/Class"), (0, .class_ 1), (0, u "java/lang/Object"), (0, .class_ 3)] 3

/-- java/lang/Class -/
def k31 : Class := { plain "java/lang/Class" (some 0) with
  accessFlags := 49
  interfaces := #[]
  cf := some (fileOf pool31 2 #[] #[] 49 4 #[] #[])
  fields := #[]
  methods := #[]
  instanceTypes := #[]
  staticTypes := #[]
  resolved := Array.replicate 8 none
  statics := none }

/-- the primitive byte -/
def k32 : Class := { plain "byte" none with kind := .primitive 'B', accessFlags := 0x411 }
/-- [B -/
def k33 : Class := { plain "[B" (some 0) with kind := .array 32 .byte, interfaces := #[16, 2], accessFlags := 1041 }

/-- the primitive char -/
def k34 : Class := { plain "char" none with kind := .primitive 'C', accessFlags := 0x411 }
/-- [C -/
def k35 : Class := { plain "[C" (some 0) with kind := .array 34 .char, interfaces := #[16, 2], accessFlags := 1041 }

/-- the primitive int -/
def k36 : Class := { plain "int" none with kind := .primitive 'I', accessFlags := 0x411 }
/-- [I -/
def k37 : Class := { plain "[I" (some 0) with kind := .array 36 .int, interfaces := #[16, 2], accessFlags := 1041 }

/-- [Ljava/lang/Object; -/
def k38 : Class := { plain "[Ljava/lang/Object;" (some 0) with kind := .array 0 (.object "java/lang/Object"), interfaces := #[16, 2], accessFlags := 1041, mirror := some 4 }

def heap : Heap := #[{ cls := 7, slots := #[.long 0, .int 1, .null, .int 0, .null, .int 0, .int 0], vm := .statics 7 },
  { cls := 17, slots := #[.long 0, .int 0, .ref 7, .ref 8], vm := .statics 17 },
  { cls := 19, slots := #[.long 0, .int 0, .null, .ref 9, .ref 6, .null, .null, .null, .int 0, .int 1], vm := .statics 19 },
  { cls := 29, slots := #[.null, .null, .null], vm := .statics 29 },
  { cls := 31, slots := #[], vm := .mirror 38 },
  { cls := 38, slots := #[], vm := .none },
  { cls := 23, slots := #[.ref 5, .int 0], vm := .none },
  { cls := 38, slots := #[], vm := .none },
  { cls := 38, slots := #[], vm := .none },
  { cls := 0, slots := #[], vm := .none }]
def classes : Array Class := #[k0, k1, k2, k3, k4, k5, k6, k7, k8, k9, k10, k11, k12, k13, k14, k15, k16, k17, k18, k19, k20, k21, k22, k23, k24, k25, k26, k27, k28, k29, k30, k31, k32, k33, k34, k35, k36, k37, k38]
def interned : List (Array UInt16 × Addr) := []
def slotsUsed : Nat := 26
def theMethod : MethodId := ⟨1, 1⟩
def args0 : Array Value := #[.int 5, .int 7, .int 3, .int 4, .int 9]
def aboutOver (below : List Frame) : State where
  vm := { classes := classes, interned := interned.toArray }
  heap := heap
  slotsUsed := slotsUsed
  threads := #[{ frames := .invoking theMethod args0 :: below }]
def below0 : List Frame := [.native { method := ⟨0, 0⟩, args := #[] }]
def about1 : State := aboutOver below0
def p0 : Program := .bare "" "" ""
def e0 : Env := launch0.env 0 0 0
theorem w_frames : about1.frames = Frame.invoking theMethod args0 :: below0 := rfl
set_option maxRecDepth 65536 in
theorem w_args : argsFit about1.vm theMethod args0 = true := by decide +kernel
set_option maxRecDepth 65536 in
theorem w_heap : heapFits about1 = true := by decide +kernel
set_option maxRecDepth 65536 in
theorem w_runnable : about1.curStatus? = some .runnable := by decide +kernel
set_option maxRecDepth 65536 in
theorem w_alone : about1.alone = true := by decide +kernel
set_option maxRecDepth 65536 in
theorem w_named : about1.methodNamed? x = some theMethod := by decide +kernel
set_option maxRecDepth 65536 in
theorem w_hears : about1.hears theMethod below0 = true := by decide +kernel
set_option maxRecDepth 65536 in
theorem w_ripe : about1.ripe theMethod args0 below0 = true := by decide +kernel
theorem w_running : about1.status = .running := rfl
set_option maxRecDepth 65536 in
theorem w_room : about1.hasRoom e0.platform room_1 = true :=
  launch0.hasRoom_least _ room_1 (by decide +kernel) (by decide +kernel) (by decide +kernel) (by decide +kernel) (by decide +kernel) (by decide +kernel)
theorem allAtoms_all (ts : List Jvm.Cond) (a : Array Jvm.Value) (st : Jvm.State) : (allAtoms ts).before a st = ts.all (fun c => c.before a st) := by
  induction ts with
  | nil => rfl
  | cons c t ih =>
    show (Jvm.Cond.and c (allAtoms t)).before a st = _
    rw [Jvm.Cond.before_and, ih, List.all_cons]
def words1 : List Jvm.Cond := Jvm.Cond.code x code maxLocals ret :: tables_1
/-- a 'code' word, met by the world's own term for the bytes: nothing is compared byte by byte -/
theorem code_word {y : MethodName} {bytes : ByteArray} {mx : Nat} {rt : Option FieldType} {a : Array Value} {s : State} {m : MethodId} {meth : Method} {c : Code} (h1 : s.methodNamed? y = some m) (h2 : s.vm.method? m = some meth) (h3 : meth.code = some c) (h4 : c.code = bytes)
    (h5 : (c.maxLocals == mx && c.exceptionTable.isEmpty && decide (c.maxStack ≤ mostOperands) && decide (meth.sig.returnType = rt) && !meth.locks && decide (parseMethodDescriptor y.desc = some meth.sig)) = true) : (Jvm.Cond.code y bytes mx rt).before a s = true := by
  simp only [Bool.and_eq_true, beq_iff_eq, Bool.not_eq_true', decide_eq_true_eq] at h5
  obtain ⟨⟨⟨⟨⟨g1, g2⟩, g3⟩, g4⟩, g5⟩, g6⟩ := h5
  simp [Cond.before, Cond.holds, Cond.value, h1, h2, h3, h4, g1, g2, g3, g4, g5, g6]
def isCode : Jvm.Cond → Bool
  | .code _ _ _ _ => true
  | _ => false
theorem all_split {L : List Jvm.Cond} {P : Jvm.Cond → Bool} (h1 : L.all (fun c => isCode c || P c) = true) (h2 : ∀ c ∈ L.filter isCode, P c = true) : L.all P = true := by
  refine List.all_eq_true.mpr fun c hc => ?_
  have h := List.all_eq_true.mp h1 c hc
  rcases Bool.eq_false_or_eq_true (isCode c) with hi | hi
  · exact h2 c (List.mem_filter.mpr ⟨hc, hi⟩)
  · simpa [hi] using h
set_option maxRecDepth 65536 in
theorem w_c0 : (Jvm.Cond.code x code maxLocals ret).before args0 about1 = true := code_word (m := ⟨1, 1⟩) (meth := k1m1) (c := k1c1) (by decide +kernel) rfl rfl rfl (by decide +kernel)
set_option maxRecDepth 65536 in
theorem w_c1 : (Jvm.Cond.code ({ cls := "java/lang/String", name := "<init>", desc := "([C)V" } : Jvm.MethodName) jdk_42_method_3_code (2 : Nat) (Option.none : Option Jvm.ClassFile.FieldType)).before args0 about1 = true := code_word (m := ⟨7, 1⟩) (meth := k7m1) (c := k7c1) (by decide +kernel) rfl rfl rfl (by decide +kernel)
set_option maxRecDepth 65536 in
theorem w_c2 : (Jvm.Cond.code ({ cls := "java/lang/String", name := "<init>", desc := "([CIILjava/lang/Void;)V" } : Jvm.MethodName) jdk_42_method_149_code (6 : Nat) (Option.none : Option Jvm.ClassFile.FieldType)).before args0 about1 = true := code_word (m := ⟨7, 2⟩) (meth := k7m2) (c := k7c2) (by decide +kernel) rfl rfl rfl (by decide +kernel)
set_option maxRecDepth 65536 in
theorem w_c3 : (Jvm.Cond.code ({ cls := "java/lang/Object", name := "<init>", desc := "()V" } : Jvm.MethodName) object_method_1_code (1 : Nat) (Option.none : Option Jvm.ClassFile.FieldType)).before args0 about1 = true := code_word (m := ⟨0, 0⟩) (meth := k0m0) (c := k0c0) (by decide +kernel) rfl rfl rfl (by decide +kernel)
set_option maxRecDepth 65536 in
theorem w_c4 : (Jvm.Cond.code ({ cls := "java/lang/StringUTF16", name := "compress", desc := "([CII)[B" } : Jvm.MethodName) jdk_52_method_16_code (6 : Nat) (Option.some (Jvm.ClassFile.FieldType.array Jvm.ClassFile.FieldType.byte))).before args0 about1 = true := code_word (m := ⟨8, 2⟩) (meth := k8m2) (c := k8c2) (by decide +kernel) rfl rfl rfl (by decide +kernel)
set_option maxRecDepth 65536 in
theorem w_c5 : (Jvm.Cond.code ({ cls := "java/lang/StringUTF16", name := "compress", desc := "([CI[BII)I" } : Jvm.MethodName) jdk_52_method_21_code (7 : Nat) (Option.some Jvm.ClassFile.FieldType.int)).before args0 about1 = true := code_word (m := ⟨8, 3⟩) (meth := k8m3) (c := k8c3) (by decide +kernel) rfl rfl rfl (by decide +kernel)
set_option maxRecDepth 65536 in
theorem w_c6 : (Jvm.Cond.code ({ cls := "java/lang/StringUTF16", name := "coderFromArrayLen", desc := "([BI)B" } : Jvm.MethodName) jdk_52_method_15_code (2 : Nat) (Option.some Jvm.ClassFile.FieldType.byte)).before args0 about1 = true := code_word (m := ⟨8, 1⟩) (meth := k8m1) (c := k8c1) (by decide +kernel) rfl rfl rfl (by decide +kernel)
set_option maxRecDepth 65536 in
theorem w_c7 : (Jvm.Cond.code ({ cls := "java/util/ArrayList", name := "<init>", desc := "()V" } : Jvm.MethodName) jdk_38_method_2_code (1 : Nat) (Option.none : Option Jvm.ClassFile.FieldType)).before args0 about1 = true := code_word (m := ⟨17, 0⟩) (meth := k17m0) (c := k17c0) (by decide +kernel) rfl rfl rfl (by decide +kernel)
set_option maxRecDepth 65536 in
theorem w_c8 : (Jvm.Cond.code ({ cls := "java/util/AbstractList", name := "<init>", desc := "()V" } : Jvm.MethodName) jdk_39_method_1_code (1 : Nat) (Option.none : Option Jvm.ClassFile.FieldType)).before args0 about1 = true := code_word (m := ⟨14, 0⟩) (meth := k14m0) (c := k14c0) (by decide +kernel) rfl rfl rfl (by decide +kernel)
set_option maxRecDepth 65536 in
theorem w_c9 : (Jvm.Cond.code ({ cls := "java/util/AbstractCollection", name := "<init>", desc := "()V" } : Jvm.MethodName) jdk_22_method_1_code (1 : Nat) (Option.none : Option Jvm.ClassFile.FieldType)).before args0 about1 = true := code_word (m := ⟨11, 0⟩) (meth := k11m0) (c := k11c0) (by decide +kernel) rfl rfl rfl (by decide +kernel)
set_option maxRecDepth 65536 in
theorem w_c10 : (Jvm.Cond.code ({ cls := "com/example/vestline/vestline/changeofcontrol/Judgement", name := "<init>", desc := "(Ljava/lang/String;Ljava/util/List;)V" } : Jvm.MethodName) prog_8_method_1_code (3 : Nat) (Option.none : Option Jvm.ClassFile.FieldType)).before args0 about1 = true := code_word (m := ⟨18, 0⟩) (meth := k18m0) (c := k18c0) (by decide +kernel) rfl rfl rfl (by decide +kernel)
set_option maxRecDepth 65536 in
theorem w_c11 : (Jvm.Cond.code ({ cls := "java/util/List", name := "copyOf", desc := "(Ljava/util/Collection;)Ljava/util/List;" } : Jvm.MethodName) jdk_40_method_48_code (1 : Nat) (Option.some (Jvm.ClassFile.FieldType.object "java/util/List"))).before args0 about1 = true := code_word (m := ⟨13, 3⟩) (meth := k13m3) (c := k13c3) (by decide +kernel) rfl rfl rfl (by decide +kernel)
set_option maxRecDepth 65536 in
theorem w_c12 : (Jvm.Cond.code ({ cls := "java/util/ImmutableCollections", name := "listCopy", desc := "(Ljava/util/Collection;)Ljava/util/List;" } : Jvm.MethodName) jdk_56_method_3_code (2 : Nat) (Option.some (Jvm.ClassFile.FieldType.object "java/util/List"))).before args0 about1 = true := code_word (m := ⟨19, 1⟩) (meth := k19m1) (c := k19c1) (by decide +kernel) rfl rfl rfl (by decide +kernel)
set_option maxRecDepth 65536 in
theorem w_c13 : (Jvm.Cond.code ({ cls := "java/util/ArrayList", name := "isEmpty", desc := "()Z" } : Jvm.MethodName) jdk_38_method_9_code (1 : Nat) (Option.some Jvm.ClassFile.FieldType.boolean)).before args0 about1 = true := code_word (m := ⟨17, 3⟩) (meth := k17m3) (c := k17c3) (by decide +kernel) rfl rfl rfl (by decide +kernel)
set_option maxRecDepth 65536 in
theorem w_c14 : (Jvm.Cond.code ({ cls := "java/util/List", name := "of", desc := "()Ljava/util/List;" } : Jvm.MethodName) jdk_40_method_36_code (0 : Nat) (Option.some (Jvm.ClassFile.FieldType.object "java/util/List"))).before args0 about1 = true := code_word (m := ⟨13, 1⟩) (meth := k13m1) (c := k13c1) (by decide +kernel) rfl rfl rfl (by decide +kernel)
set_option maxRecDepth 65536 in
theorem w_c15 : (Jvm.Cond.code ({ cls := "com/example/vestline/vestline/changeofcontrol/Judgement", name := "changesControl", desc := "()Z" } : Jvm.MethodName) prog_8_method_4_code (1 : Nat) (Option.some Jvm.ClassFile.FieldType.boolean)).before args0 about1 = true := code_word (m := ⟨18, 1⟩) (meth := k18m1) (c := k18c1) (by decide +kernel) rfl rfl rfl (by decide +kernel)
set_option maxRecDepth 65536 in
theorem w_c16 : (Jvm.Cond.code ({ cls := "java/util/ImmutableCollections$ListN", name := "isEmpty", desc := "()Z" } : Jvm.MethodName) jdk_45_method_2_code (1 : Nat) (Option.some Jvm.ClassFile.FieldType.boolean)).before args0 about1 = true := code_word (m := ⟨23, 1⟩) (meth := k23m1) (c := k23c1) (by decide +kernel) rfl rfl rfl (by decide +kernel)
set_option maxRecDepth 65536 in
theorem w_c17 : (Jvm.Cond.code ({ cls := "java/util/ArrayList", name := "add", desc := "(Ljava/lang/Object;)Z" } : Jvm.MethodName) jdk_38_method_25_code (2 : Nat) (Option.some Jvm.ClassFile.FieldType.boolean)).before args0 about1 = true := code_word (m := ⟨17, 6⟩) (meth := k17m6) (c := k17c6) (by decide +kernel) rfl rfl rfl (by decide +kernel)
set_option maxRecDepth 65536 in
theorem w_c18 : (Jvm.Cond.code ({ cls := "java/util/ArrayList", name := "add", desc := "(Ljava/lang/Object;[Ljava/lang/Object;I)V" } : Jvm.MethodName) jdk_38_method_24_code (4 : Nat) (Option.none : Option Jvm.ClassFile.FieldType)).before args0 about1 = true := code_word (m := ⟨17, 5⟩) (meth := k17m5) (c := k17c5) (by decide +kernel) rfl rfl rfl (by decide +kernel)
set_option maxRecDepth 65536 in
theorem w_c19 : (Jvm.Cond.code ({ cls := "java/util/ArrayList", name := "grow", desc := "()[Ljava/lang/Object;" } : Jvm.MethodName) jdk_38_method_7_code (1 : Nat) (Option.some (Jvm.ClassFile.FieldType.array (Jvm.ClassFile.FieldType.object "java/lang/Object")))).before args0 about1 = true := code_word (m := ⟨17, 2⟩) (meth := k17m2) (c := k17c2) (by decide +kernel) rfl rfl rfl (by decide +kernel)
set_option maxRecDepth 65536 in
theorem w_c20 : (Jvm.Cond.code ({ cls := "java/util/ArrayList", name := "grow", desc := "(I)[Ljava/lang/Object;" } : Jvm.MethodName) jdk_38_method_6_code (4 : Nat) (Option.some (Jvm.ClassFile.FieldType.array (Jvm.ClassFile.FieldType.object "java/lang/Object")))).before args0 about1 = true := code_word (m := ⟨17, 1⟩) (meth := k17m1) (c := k17c1) (by decide +kernel) rfl rfl rfl (by decide +kernel)
set_option maxRecDepth 65536 in
theorem w_c21 : (Jvm.Cond.code ({ cls := "java/lang/Math", name := "max", desc := "(II)I" } : Jvm.MethodName) jdk_29_method_65_code (2 : Nat) (Option.some Jvm.ClassFile.FieldType.int)).before args0 about1 = true := code_word (m := ⟨24, 1⟩) (meth := k24m1) (c := k24c1) (by decide +kernel) rfl rfl rfl (by decide +kernel)
set_option maxRecDepth 65536 in
theorem w_c22 : (Jvm.Cond.code ({ cls := "java/util/ArrayList", name := "toArray", desc := "()[Ljava/lang/Object;" } : Jvm.MethodName) jdk_38_method_16_code (1 : Nat) (Option.some (Jvm.ClassFile.FieldType.array (Jvm.ClassFile.FieldType.object "java/lang/Object")))).before args0 about1 = true := code_word (m := ⟨17, 4⟩) (meth := k17m4) (c := k17c4) (by decide +kernel) rfl rfl rfl (by decide +kernel)
set_option maxRecDepth 65536 in
theorem w_c23 : (Jvm.Cond.code ({ cls := "java/util/Arrays", name := "copyOf", desc := "([Ljava/lang/Object;I)[Ljava/lang/Object;" } : Jvm.MethodName) jdk_65_method_119_code (2 : Nat) (Option.some (Jvm.ClassFile.FieldType.array (Jvm.ClassFile.FieldType.object "java/lang/Object")))).before args0 about1 = true := code_word (m := ⟨25, 1⟩) (meth := k25m1) (c := k25c1) (by decide +kernel) rfl rfl rfl (by decide +kernel)
set_option maxRecDepth 65536 in
theorem w_c24 : (Jvm.Cond.code ({ cls := "java/util/Arrays", name := "copyOf", desc := "([Ljava/lang/Object;ILjava/lang/Class;)[Ljava/lang/Object;" } : Jvm.MethodName) jdk_65_method_120_code (4 : Nat) (Option.some (Jvm.ClassFile.FieldType.array (Jvm.ClassFile.FieldType.object "java/lang/Object")))).before args0 about1 = true := code_word (m := ⟨25, 2⟩) (meth := k25m2) (c := k25c2) (by decide +kernel) rfl rfl rfl (by decide +kernel)
set_option maxRecDepth 65536 in
theorem w_c25 : (Jvm.Cond.code ({ cls := "java/lang/Math", name := "min", desc := "(II)I" } : Jvm.MethodName) jdk_29_method_69_code (2 : Nat) (Option.some Jvm.ClassFile.FieldType.int)).before args0 about1 = true := code_word (m := ⟨24, 2⟩) (meth := k24m2) (c := k24c2) (by decide +kernel) rfl rfl rfl (by decide +kernel)
set_option maxRecDepth 65536 in
theorem w_c26 : (Jvm.Cond.code ({ cls := "java/util/List", name := "of", desc := "([Ljava/lang/Object;)Ljava/util/List;" } : Jvm.MethodName) jdk_40_method_47_code (2 : Nat) (Option.some (Jvm.ClassFile.FieldType.object "java/util/List"))).before args0 about1 = true := code_word (m := ⟨13, 2⟩) (meth := k13m2) (c := k13c2) (by decide +kernel) rfl rfl rfl (by decide +kernel)
set_option maxRecDepth 65536 in
theorem w_c27 : (Jvm.Cond.code ({ cls := "java/util/ImmutableCollections", name := "listFromArray", desc := "([Ljava/lang/Object;)Ljava/util/List;" } : Jvm.MethodName) jdk_56_method_4_code (3 : Nat) (Option.some (Jvm.ClassFile.FieldType.object "java/util/List"))).before args0 about1 = true := code_word (m := ⟨19, 2⟩) (meth := k19m2) (c := k19c2) (by decide +kernel) rfl rfl rfl (by decide +kernel)
set_option maxRecDepth 65536 in
theorem w_c28 : (Jvm.Cond.code ({ cls := "java/util/Objects", name := "requireNonNull", desc := "(Ljava/lang/Object;)Ljava/lang/Object;" } : Jvm.MethodName) jdk_31_method_10_code (1 : Nat) (Option.some (Jvm.ClassFile.FieldType.object "java/lang/Object"))).before args0 about1 = true := code_word (m := ⟨27, 1⟩) (meth := k27m1) (c := k27c1) (by decide +kernel) rfl rfl rfl (by decide +kernel)
set_option maxRecDepth 65536 in
theorem w_c29 : (Jvm.Cond.code ({ cls := "java/util/ImmutableCollections$ListN", name := "<init>", desc := "([Ljava/lang/Object;Z)V" } : Jvm.MethodName) jdk_45_method_1_code (3 : Nat) (Option.none : Option Jvm.ClassFile.FieldType)).before args0 about1 = true := code_word (m := ⟨23, 0⟩) (meth := k23m0) (c := k23c0) (by decide +kernel) rfl rfl rfl (by decide +kernel)
set_option maxRecDepth 65536 in
theorem w_c30 : (Jvm.Cond.code ({ cls := "java/util/ImmutableCollections$AbstractImmutableList", name := "<init>", desc := "()V" } : Jvm.MethodName) jdk_46_method_1_code (1 : Nat) (Option.none : Option Jvm.ClassFile.FieldType)).before args0 about1 = true := code_word (m := ⟨21, 0⟩) (meth := k21m0) (c := k21c0) (by decide +kernel) rfl rfl rfl (by decide +kernel)
set_option maxRecDepth 65536 in
theorem w_c31 : (Jvm.Cond.code ({ cls := "java/util/ImmutableCollections$AbstractImmutableCollection", name := "<init>", desc := "()V" } : Jvm.MethodName) jdk_47_method_1_code (1 : Nat) (Option.none : Option Jvm.ClassFile.FieldType)).before args0 about1 = true := code_word (m := ⟨20, 0⟩) (meth := k20m0) (c := k20c0) (by decide +kernel) rfl rfl rfl (by decide +kernel)
set_option maxRecDepth 65536 in
theorem w_c32 : (Jvm.Cond.code ({ cls := "java/util/ImmutableCollections$List12", name := "<init>", desc := "(Ljava/lang/Object;Ljava/lang/Object;)V" } : Jvm.MethodName) jdk_44_method_2_code (3 : Nat) (Option.none : Option Jvm.ClassFile.FieldType)).before args0 about1 = true := code_word (m := ⟨22, 1⟩) (meth := k22m1) (c := k22c1) (by decide +kernel) rfl rfl rfl (by decide +kernel)
set_option maxRecDepth 65536 in
theorem w_c33 : (Jvm.Cond.code ({ cls := "java/util/ImmutableCollections$List12", name := "isEmpty", desc := "()Z" } : Jvm.MethodName) jdk_44_method_4_code (1 : Nat) (Option.some Jvm.ClassFile.FieldType.boolean)).before args0 about1 = true := code_word (m := ⟨22, 2⟩) (meth := k22m2) (c := k22c2) (by decide +kernel) rfl rfl rfl (by decide +kernel)
set_option maxRecDepth 65536 in
theorem w_c34 : (Jvm.Cond.code ({ cls := "java/util/ImmutableCollections$List12", name := "<init>", desc := "(Ljava/lang/Object;)V" } : Jvm.MethodName) jdk_44_method_1_code (2 : Nat) (Option.none : Option Jvm.ClassFile.FieldType)).before args0 about1 = true := code_word (m := ⟨22, 0⟩) (meth := k22m0) (c := k22c0) (by decide +kernel) rfl rfl rfl (by decide +kernel)
def codes1 : List Jvm.Cond := [Jvm.Cond.code x code maxLocals ret, Jvm.Cond.code ({ cls := "java/lang/String", name := "<init>", desc := "([C)V" } : Jvm.MethodName) jdk_42_method_3_code (2 : Nat) (Option.none : Option Jvm.ClassFile.FieldType), Jvm.Cond.code ({ cls := "java/lang/String", name := "<init>", desc := "([CIILjava/lang/Void;)V" } : Jvm.MethodName) jdk_42_method_149_code (6 : Nat) (Option.none : Option Jvm.ClassFile.FieldType), Jvm.Cond.code ({ cls := "java/lang/Object", name := "<init>", desc := "()V" } : Jvm.MethodName) object_method_1_code (1 : Nat) (Option.none : Option Jvm.ClassFile.FieldType), Jvm.Cond.code ({ cls := "java/lang/StringUTF16", name := "compress", desc := "([CII)[B" } : Jvm.MethodName) jdk_52_method_16_code (6 : Nat) (Option.some (Jvm.ClassFile.FieldType.array Jvm.ClassFile.FieldType.byte)), Jvm.Cond.code ({ cls := "java/lang/StringUTF16", name := "compress", desc := "([CI[BII)I" } : Jvm.MethodName) jdk_52_method_21_code (7 : Nat) (Option.some Jvm.ClassFile.FieldType.int), Jvm.Cond.code ({ cls := "java/lang/StringUTF16", name := "coderFromArrayLen", desc := "([BI)B" } : Jvm.MethodName) jdk_52_method_15_code (2 : Nat) (Option.some Jvm.ClassFile.FieldType.byte), Jvm.Cond.code ({ cls := "java/util/ArrayList", name := "<init>", desc := "()V" } : Jvm.MethodName) jdk_38_method_2_code (1 : Nat) (Option.none : Option Jvm.ClassFile.FieldType), Jvm.Cond.code ({ cls := "java/util/AbstractList", name := "<init>", desc := "()V" } : Jvm.MethodName) jdk_39_method_1_code (1 : Nat) (Option.none : Option Jvm.ClassFile.FieldType), Jvm.Cond.code ({ cls := "java/util/AbstractCollection", name := "<init>", desc := "()V" } : Jvm.MethodName) jdk_22_method_1_code (1 : Nat) (Option.none : Option Jvm.ClassFile.FieldType), Jvm.Cond.code ({ cls := "com/example/vestline/vestline/changeofcontrol/Judgement", name := "<init>", desc := "(Ljava/lang/String;Ljava/util/List;)V" } : Jvm.MethodName) prog_8_method_1_code (3 : Nat) (Option.none : Option Jvm.ClassFile.FieldType), Jvm.Cond.code ({ cls := "java/util/List", name := "copyOf", desc := "(Ljava/util/Collection;)Ljava/util/List;" } : Jvm.MethodName) jdk_40_method_48_code (1 : Nat) (Option.some (Jvm.ClassFile.FieldType.object "java/util/List")), Jvm.Cond.code ({ cls := "java/util/ImmutableCollections", name := "listCopy", desc := "(Ljava/util/Collection;)Ljava/util/List;" } : Jvm.MethodName) jdk_56_method_3_code (2 : Nat) (Option.some (Jvm.ClassFile.FieldType.object "java/util/List")), Jvm.Cond.code ({ cls := "java/util/ArrayList", name := "isEmpty", desc := "()Z" } : Jvm.MethodName) jdk_38_method_9_code (1 : Nat) (Option.some Jvm.ClassFile.FieldType.boolean), Jvm.Cond.code ({ cls := "java/util/List", name := "of", desc := "()Ljava/util/List;" } : Jvm.MethodName) jdk_40_method_36_code (0 : Nat) (Option.some (Jvm.ClassFile.FieldType.object "java/util/List")), Jvm.Cond.code ({ cls := "com/example/vestline/vestline/changeofcontrol/Judgement", name := "changesControl", desc := "()Z" } : Jvm.MethodName) prog_8_method_4_code (1 : Nat) (Option.some Jvm.ClassFile.FieldType.boolean), Jvm.Cond.code ({ cls := "java/util/ImmutableCollections$ListN", name := "isEmpty", desc := "()Z" } : Jvm.MethodName) jdk_45_method_2_code (1 : Nat) (Option.some Jvm.ClassFile.FieldType.boolean), Jvm.Cond.code ({ cls := "java/util/ArrayList", name := "add", desc := "(Ljava/lang/Object;)Z" } : Jvm.MethodName) jdk_38_method_25_code (2 : Nat) (Option.some Jvm.ClassFile.FieldType.boolean), Jvm.Cond.code ({ cls := "java/util/ArrayList", name := "add", desc := "(Ljava/lang/Object;[Ljava/lang/Object;I)V" } : Jvm.MethodName) jdk_38_method_24_code (4 : Nat) (Option.none : Option Jvm.ClassFile.FieldType), Jvm.Cond.code ({ cls := "java/util/ArrayList", name := "grow", desc := "()[Ljava/lang/Object;" } : Jvm.MethodName) jdk_38_method_7_code (1 : Nat) (Option.some (Jvm.ClassFile.FieldType.array (Jvm.ClassFile.FieldType.object "java/lang/Object"))), Jvm.Cond.code ({ cls := "java/util/ArrayList", name := "grow", desc := "(I)[Ljava/lang/Object;" } : Jvm.MethodName) jdk_38_method_6_code (4 : Nat) (Option.some (Jvm.ClassFile.FieldType.array (Jvm.ClassFile.FieldType.object "java/lang/Object"))), Jvm.Cond.code ({ cls := "java/lang/Math", name := "max", desc := "(II)I" } : Jvm.MethodName) jdk_29_method_65_code (2 : Nat) (Option.some Jvm.ClassFile.FieldType.int), Jvm.Cond.code ({ cls := "java/util/ArrayList", name := "toArray", desc := "()[Ljava/lang/Object;" } : Jvm.MethodName) jdk_38_method_16_code (1 : Nat) (Option.some (Jvm.ClassFile.FieldType.array (Jvm.ClassFile.FieldType.object "java/lang/Object"))), Jvm.Cond.code ({ cls := "java/util/Arrays", name := "copyOf", desc := "([Ljava/lang/Object;I)[Ljava/lang/Object;" } : Jvm.MethodName) jdk_65_method_119_code (2 : Nat) (Option.some (Jvm.ClassFile.FieldType.array (Jvm.ClassFile.FieldType.object "java/lang/Object"))), Jvm.Cond.code ({ cls := "java/util/Arrays", name := "copyOf", desc := "([Ljava/lang/Object;ILjava/lang/Class;)[Ljava/lang/Object;" } : Jvm.MethodName) jdk_65_method_120_code (4 : Nat) (Option.some (Jvm.ClassFile.FieldType.array (Jvm.ClassFile.FieldType.object "java/lang/Object"))), Jvm.Cond.code ({ cls := "java/lang/Math", name := "min", desc := "(II)I" } : Jvm.MethodName) jdk_29_method_69_code (2 : Nat) (Option.some Jvm.ClassFile.FieldType.int), Jvm.Cond.code ({ cls := "java/util/List", name := "of", desc := "([Ljava/lang/Object;)Ljava/util/List;" } : Jvm.MethodName) jdk_40_method_47_code (2 : Nat) (Option.some (Jvm.ClassFile.FieldType.object "java/util/List")), Jvm.Cond.code ({ cls := "java/util/ImmutableCollections", name := "listFromArray", desc := "([Ljava/lang/Object;)Ljava/util/List;" } : Jvm.MethodName) jdk_56_method_4_code (3 : Nat) (Option.some (Jvm.ClassFile.FieldType.object "java/util/List")), Jvm.Cond.code ({ cls := "java/util/Objects", name := "requireNonNull", desc := "(Ljava/lang/Object;)Ljava/lang/Object;" } : Jvm.MethodName) jdk_31_method_10_code (1 : Nat) (Option.some (Jvm.ClassFile.FieldType.object "java/lang/Object")), Jvm.Cond.code ({ cls := "java/util/ImmutableCollections$ListN", name := "<init>", desc := "([Ljava/lang/Object;Z)V" } : Jvm.MethodName) jdk_45_method_1_code (3 : Nat) (Option.none : Option Jvm.ClassFile.FieldType), Jvm.Cond.code ({ cls := "java/util/ImmutableCollections$AbstractImmutableList", name := "<init>", desc := "()V" } : Jvm.MethodName) jdk_46_method_1_code (1 : Nat) (Option.none : Option Jvm.ClassFile.FieldType), Jvm.Cond.code ({ cls := "java/util/ImmutableCollections$AbstractImmutableCollection", name := "<init>", desc := "()V" } : Jvm.MethodName) jdk_47_method_1_code (1 : Nat) (Option.none : Option Jvm.ClassFile.FieldType), Jvm.Cond.code ({ cls := "java/util/ImmutableCollections$List12", name := "<init>", desc := "(Ljava/lang/Object;Ljava/lang/Object;)V" } : Jvm.MethodName) jdk_44_method_2_code (3 : Nat) (Option.none : Option Jvm.ClassFile.FieldType), Jvm.Cond.code ({ cls := "java/util/ImmutableCollections$List12", name := "isEmpty", desc := "()Z" } : Jvm.MethodName) jdk_44_method_4_code (1 : Nat) (Option.some Jvm.ClassFile.FieldType.boolean), Jvm.Cond.code ({ cls := "java/util/ImmutableCollections$List12", name := "<init>", desc := "(Ljava/lang/Object;)V" } : Jvm.MethodName) jdk_44_method_1_code (2 : Nat) (Option.none : Option Jvm.ClassFile.FieldType)]
set_option maxRecDepth 65536 in
theorem codes_eq : words1.filter isCode = codes1 := rfl
theorem w_codes : ∀ c ∈ words1.filter isCode, c.before args0 about1 = true := by
  rw [codes_eq]
  intro c hc
  simp only [codes1, List.mem_cons, List.not_mem_nil, or_false] at hc
  rcases hc with rfl | rfl | rfl | rfl | rfl | rfl | rfl | rfl | rfl | rfl | rfl | rfl | rfl | rfl | rfl | rfl | rfl | rfl | rfl | rfl | rfl | rfl | rfl | rfl | rfl | rfl | rfl | rfl | rfl | rfl | rfl | rfl | rfl | rfl | rfl
  · exact w_c0
  · exact w_c1
  · exact w_c2
  · exact w_c3
  · exact w_c4
  · exact w_c5
  · exact w_c6
  · exact w_c7
  · exact w_c8
  · exact w_c9
  · exact w_c10
  · exact w_c11
  · exact w_c12
  · exact w_c13
  · exact w_c14
  · exact w_c15
  · exact w_c16
  · exact w_c17
  · exact w_c18
  · exact w_c19
  · exact w_c20
  · exact w_c21
  · exact w_c22
  · exact w_c23
  · exact w_c24
  · exact w_c25
  · exact w_c26
  · exact w_c27
  · exact w_c28
  · exact w_c29
  · exact w_c30
  · exact w_c31
  · exact w_c32
  · exact w_c33
  · exact w_c34
set_option maxRecDepth 65536 in
theorem w_t1 : (words1.take 24).all (fun c => isCode c || c.before args0 about1) = true := by decide +kernel
set_option maxRecDepth 65536 in
theorem w_t2 : ((words1.drop 24).take 24).all (fun c => isCode c || c.before args0 about1) = true := by decide +kernel
set_option maxRecDepth 65536 in
theorem w_t3 : (((words1.drop 24).drop 24).take 24).all (fun c => isCode c || c.before args0 about1) = true := by decide +kernel
set_option maxRecDepth 65536 in
theorem w_t4 : ((((words1.drop 24).drop 24).drop 24).take 24).all (fun c => isCode c || c.before args0 about1) = true := by decide +kernel
set_option maxRecDepth 65536 in
theorem w_t5 : (((((words1.drop 24).drop 24).drop 24).drop 24).take 24).all (fun c => isCode c || c.before args0 about1) = true := by decide +kernel
set_option maxRecDepth 65536 in
theorem w_t6 : ((((((words1.drop 24).drop 24).drop 24).drop 24).drop 24).take 24).all (fun c => isCode c || c.before args0 about1) = true := by decide +kernel
set_option maxRecDepth 65536 in
theorem w_t7 : (((((((words1.drop 24).drop 24).drop 24).drop 24).drop 24).drop 24).take 24).all (fun c => isCode c || c.before args0 about1) = true := by decide +kernel
set_option maxRecDepth 65536 in
theorem w_t8 : ((((((((words1.drop 24).drop 24).drop 24).drop 24).drop 24).drop 24).drop 24).take 24).all (fun c => isCode c || c.before args0 about1) = true := by decide +kernel
set_option maxRecDepth 65536 in
theorem w_t9 : (((((((((words1.drop 24).drop 24).drop 24).drop 24).drop 24).drop 24).drop 24).drop 24).take 24).all (fun c => isCode c || c.before args0 about1) = true := by decide +kernel
set_option maxRecDepth 65536 in
theorem w_t10 : (((((((((words1.drop 24).drop 24).drop 24).drop 24).drop 24).drop 24).drop 24).drop 24).drop 24).all (fun c => isCode c || c.before args0 about1) = true := by decide +kernel
theorem w_tables : (allAtoms (Jvm.Cond.code x code maxLocals ret :: tables_1)).before args0 about1 = true := by
  rw [allAtoms_all]
  show words1.all (fun c => c.before args0 about1) = true
  refine all_split ?_ w_codes
  rw [← List.take_append_drop 24 words1, List.all_append, w_t1, ← List.take_append_drop 24 (words1.drop 24), List.all_append, w_t2, ← List.take_append_drop 24 ((words1.drop 24).drop 24), List.all_append, w_t3, ← List.take_append_drop 24 (((words1.drop 24).drop 24).drop 24), List.all_append, w_t4, ← List.take_append_drop 24 ((((words1.drop 24).drop 24).drop 24).drop 24), List.all_append, w_t5, ← List.take_append_drop 24 (((((words1.drop 24).drop 24).drop 24).drop 24).drop 24), List.all_append, w_t6, ← List.take_append_drop 24 ((((((words1.drop 24).drop 24).drop 24).drop 24).drop 24).drop 24), List.all_append, w_t7, ← List.take_append_drop 24 (((((((words1.drop 24).drop 24).drop 24).drop 24).drop 24).drop 24).drop 24), List.all_append, w_t8, ← List.take_append_drop 24 ((((((((words1.drop 24).drop 24).drop 24).drop 24).drop 24).drop 24).drop 24).drop 24), List.all_append, w_t9, w_t10]
  rfl
set_option maxRecDepth 65536 in
theorem w_rest : rest_1_c.before args0 about1 = true := by decide +kernel
set_option maxRecDepth 65536 in
theorem w_case : (Jvm.Cond.and given_1 narrow_1).before args0 about1 = true := by decide +kernel
theorem w_applies : (headSpec (Jvm.Cond.code x code maxLocals ret :: tables_1) room_1).applies x e0.platform about1 = true :=
  (Spec.applies_iff w_frames).mpr ⟨w_running, w_runnable, w_alone, w_named, w_hears, w_ripe, w_room, w_tables⟩
theorem atStart : AtStart classFile x code maxLocals ret World_1 tables_1 room_1 Calls_1 rest_1 Pre_1 launch0 p0 e0 about1 theMethod args0 below0 :=
  ⟨lists_1, trivial, launch0.admits_env _ _ _, launch0.least_env, fairChoices_fair.cas, fairChoices_fair.clock, w_frames, w_args, w_heap, w_applies, ⟨⟨38, k38, 4, by decide +kernel, rfl, rfl, _, rfl, rfl⟩, trivial⟩, w_rest, w_case⟩
end start1
theorem witness_1 : WitnessClaimed_1 := ⟨start1.p0, start1.e0, start1.about1, start1.theMethod, start1.args0, start1.below0, start1.atStart⟩
end Jvm.Pilot.@@N@@
