import JvmDerived
import JvmDerived.Pilot.@@N@@Statement
import JvmDerived.Pilot.@@N@@Code
set_option linter.unusedVariables false
set_option linter.unusedSimpArgs false
namespace Jvm.Own
open Jvm Jvm.ClassFile Sem Op Lib Jvm.Free Jvm.Stand Jvm.LawKit Jvm.RoadKit Bundle
/-! A walk in 'what is left to do' form: Go .. says that from every state that stands at this frame over this heap the body runs to its end and leaves what Post says. -/
abbrev Kx : Type := Program × Launch × Env × State × MethodId × Array Value × List Frame × Method × Code
abbrev Kx.p (K : Kx) : Program := K.1
abbrev Kx.l (K : Kx) : Launch := K.2.1
abbrev Kx.e (K : Kx) : Env := K.2.2.1
abbrev Kx.s (K : Kx) : State := K.2.2.2.1
abbrev Kx.m (K : Kx) : MethodId := K.2.2.2.2.1
abbrev Kx.as (K : Kx) : Array Value := K.2.2.2.2.2.1
abbrev Kx.below (K : Kx) : List Frame := K.2.2.2.2.2.2.1
abbrev Kx.meth (K : Kx) : Method := K.2.2.2.2.2.2.2.1
abbrev Kx.c (K : Kx) : Code := K.2.2.2.2.2.2.2.2
/-- the decode fact, with the next place -/
def Dc (code : ByteArray) (pc : Nat) (i : Instr) (n pc' : Nat) : Prop := decode code pc = .ok (i, n) ∧ pc + n = pc'
abbrev Pst : Type := Option Value → Heap → List Addr → Prop
/-- where the walk stands -/
def Inv (Z : State) (EL : List (String × Nat)) (nw : Bool) (R : Room) (K : Kx) (T : State) (h : Heap) (S : List Addr) (k n : Nat) : Prop :=
  ∃ (vm0 : Vm) (k0 : Nat) (locs : List Loc), Stand K.p K.l K.e R (K.s.setVm vm0) K.m K.as K.below K.meth K.c T locs k n ∧ K.s.Since vm0 k0 ∧ k0 ≤ h.size ∧ Z.Warmed39 vm0 ∧ T.heap = h ∧ Fr Z.heap.size locs ∧
    CHr Z EL K.s.vm K.s.heap vm0 h ∧ (∀ a ∈ S, Z.heap.size ≤ a ∧ a < h.size ∧ Safe Z EL vm0 h a) ∧ (nw = true → K.s.WarmedH vm0) ∧ Ext Z.heap h
/-- what the end must be -/
def EndQ (Z : State) (EL : List (String × Nat)) (nw : Bool) (R : Room) (Post : Pst) (s : State) (o : Outcome) (t : State) : Prop :=
  ∃ v L S', o = .returned v ∧ Post v t.heap S' ∧ Fr Z.heap.size L ∧ CHr Z EL s.vm s.heap t.vm t.heap ∧ (∀ x ∈ S', Z.heap.size ≤ x ∧ x < t.heap.size ∧ Safe Z EL t.vm t.heap x) ∧ ReturnedEndW s o t L R.cells R.slots ∧ (nw = true → s.WarmedH t.vm) ∧ Ext Z.heap t.heap
def Fin' (Z : State) (EL : List (String × Nat)) (nw : Bool) (R : Room) (Post : Pst) (K : Kx) (U : State) : Prop :=
  ∃ s₂ o, Steps K.p.tables K.e K.below U s₂ ∧ s₂.status = .running ∧ Ended s₂ K.below o ∧ EndQ Z EL nw R Post K.s o s₂
def Go (Z : State) (EL : List (String × Nat)) (nw : Bool) (R : Room) (Post : Pst) (K : Kx) (h : Heap) (S : List Addr) (k n pc : Nat) (L : List Slot) (st : List Value) : Prop :=
  ∀ T, Inv Z EL nw R K T h S k n → Fin' Z EL nw R Post K (T.setTop (mkF K.m pc L.toArray st))
def Good (Z : State) (a0 : Array Value) (EL : List (String × Nat)) (K : Kx) (own : String) (code : ByteArray) (maxL : Nat) (ret : Option FieldType) (nm : String) : Prop :=
  K.p.tables.exec = Jvm.exec ∧ K.c.code = code ∧ K.c.maxLocals = maxL ∧ K.meth.sig.returnType = ret ∧ K.meth.locks = false ∧ K.meth.name = nm ∧ K.s.vm.findClass own = some K.m.cls ∧ EW Z a0 EL
/-- a body's contract -/
def Con (l : Launch) (Z : State) (EL : List (String × Nat)) (nw : Bool) (y : MethodName) (bytes : ByteArray) (maxL : Nat) (ret : Option FieldType) (ws : List Jvm.Cond) (rm : Room) (as : Array Value) (h : Heap) (S : List Addr) (Post : Pst) : Prop :=
  MetFree l y (head1 (Jvm.Cond.code y bytes maxL ret :: ws) rm) (fun a U => a = as ∧ Z.Warmed39 U.vm ∧ U.heap = h ∧ CHv Z EL U.vm h ∧ (∀ x ∈ S, Z.heap.size ≤ x ∧ x < h.size ∧ Safe Z EL U.vm h x) ∧ Ext Z.heap h) (fun _ _ _ _ _ => True) (fun _ U o U' => EndQ Z EL nw rm Post U o U')
section Rules
variable {Z : State} {a0 : Array Value} {EL : List (String × Nat)} {nw : Bool} {R : Room} {Post : Pst} {K : Kx} {own : String} {code : ByteArray} {maxL : Nat} {ret : Option FieldType} {nm : String} {h h' : Heap} {S S' : List Addr} {k n k' n' pc pc' : Nat} {L L' : List Slot} {st : List Value} {l : Launch}
theorem Fin'.step {U U' : State} (q : ∀ target, Steps K.p.tables K.e K.below U' target → Steps K.p.tables K.e K.below U target) (f : Fin' Z EL nw R Post K U') : Fin' Z EL nw R Post K U := by
  obtain ⟨s₂, o, h1, r⟩ := f
  exact ⟨s₂, o, q _ h1, r⟩
theorem Good.hown (G : Good Z a0 EL K own code maxL ret nm) {vm0 : Vm} {k0 : Nat} (hS : K.s.Since vm0 k0) : vm0.findClass own = some K.m.cls := (hS.1.alike.findClass _ _).trans G.2.2.2.2.2.2.1
/-- entering a body -/
theorem Con.enter {y : MethodName} {bytes : ByteArray} {ws : List Jvm.Cond} {as : Array Value} (hp : plainFor y = true) (hEL : EW Z a0 EL) (L0 : List Slot) (hef : ∀ m, entryFrame m as maxL = mkF m 0 L0.toArray [])
    (body : ∀ K : Kx, Good Z a0 EL K y.cls bytes maxL ret y.name → Go Z EL nw R Post K h S 0 0 0 L0 []) : Con l Z EL nw y bytes maxL ret ws R as h S Post := by
  refine MetFree.of_bodySF hp hisR ?_
  intro p e s m args below meth c s₁ Bd hml0 hP hK
  obtain ⟨rfl, hZ, hh, hC, hSf, hO⟩ := hP
  have X0 : Stand p l e R s m args below meth c s₁ [] 0 0 := Stand.of_body Bd
  have e0 : s₁.heap = h := by rw [← hh, Bd.state]; rfl
  have G : Good Z a0 EL (p, l, e, s, m, args, below, meth, c) y.cls bytes maxL ret y.name := ⟨Bd.exec, Bd.bytes, hml0, Bd.returns, Bd.notSynchronized, (name_of_methodNamed Bd.named Bd.method).1, findClass_of_methodNamed Bd.named, hEL⟩
  have F := body (p, l, e, s, m, args, below, meth, c) G s₁ ⟨s.vm, h.size, [], X0, (State.WarmedH.refl s).since _, Nat.le_refl _, hZ, e0, Fr.nil _, by show CHr Z EL s.vm s.heap s.vm h; rw [hh]; exact CHr.refl hC, hSf, fun _ => State.WarmedH.refl s, hO⟩
  obtain ⟨s₂, o, h1, h2, h3, h4⟩ := F
  exact ⟨s₂, o, castTop (hef m) h1, h2, h3, h4⟩
/-- a plain step -/
theorem Go.plain (q : ∀ (T : State) target, At T K.m K.c K.below → Steps K.p.tables K.e K.below (T.setTop (mkF K.m pc' L'.toArray st)) target → Steps K.p.tables K.e K.below (T.setTop (mkF K.m pc L.toArray st')) target) (f : Go Z EL nw R Post K h S k n pc' L' st) : Go Z EL nw R Post K h S k n pc L st' := fun T I => by
  obtain ⟨vm0, k0, locs, X, r⟩ := I
  exact (f T ⟨vm0, k0, locs, X, r⟩).step fun t z => q T t X.here z
theorem Go.more (f : Go Z EL nw R Post K h S k' n' pc L st) (hk : k ≤ k') (hn : n ≤ n') : Go Z EL nw R Post K h S k n pc L st := fun T I => by
  obtain ⟨vm0, k0, locs, X, r⟩ := I
  exact f T ⟨vm0, k0, locs, X.mono hk hn, r⟩
theorem Go.fewer (f : Go Z EL nw R Post K h S' k n pc L st) (hs : ∀ x ∈ S', x ∈ S) : Go Z EL nw R Post K h S k n pc L st := fun T I => by
  obtain ⟨vm0, k0, locs, X, r1, r2, r3, r4, r5, r6, r7, r8⟩ := I
  exact f T ⟨vm0, k0, locs, X, r1, r2, r3, r4, r5, r6, fun a q => r7 a (hs a q), r8⟩
/-- what is known of the places in S -/
theorem Go.safeIn (f : (∀ a ∈ S, Z.heap.size ≤ a ∧ a < h.size) → Go Z EL nw R Post K h S k n pc L st) : Go Z EL nw R Post K h S k n pc L st := fun T I => by
  obtain ⟨vm0, k0, locs, X, r1, r2, r3, r4, r5, r6, r7, r8⟩ := I
  exact f (fun a q => ⟨(r7 a q).1, (r7 a q).2.1⟩) T ⟨vm0, k0, locs, X, r1, r2, r3, r4, r5, r6, r7, r8⟩
theorem Go.oldIn (f : Ext Z.heap h → Go Z EL nw R Post K h S k n pc L st) : Go Z EL nw R Post K h S k n pc L st := fun T I => by
  obtain ⟨vm0, k0, locs, X, r1, r2, r3, r4, r5, r6, r7, r8⟩ := I
  exact f r8.2 T ⟨vm0, k0, locs, X, r1, r2, r3, r4, r5, r6, r7, r8⟩
/-! ### the ends -/
theorem Good.leave (G : Good Z a0 EL K own code maxL ret nm) {v : Option Value} (hv : ret = none → v = none) (hk : k ≤ R.cells) (hn : n ≤ R.slots) (S' : List Addr) (hS' : ∀ x ∈ S', x ∈ S) (hP : Post v h S')
    (q : ∀ (T : State) (vm0 : Vm) (locs : List Loc) (fs : List Frame), Stand K.p K.l K.e R (K.s.setVm vm0) K.m K.as K.below K.meth K.c T locs k n → (∀ (f : JFrame) (acts : List Action), f.method = K.m → f.locked = none → f.entered = [] → (doReturn K.e (T.setTop f) acts v).1 = T.setFrames fs) → Steps K.p.tables K.e K.below (T.setTop (mkF K.m pc L.toArray st)) (T.setFrames fs)) :
    Go Z EL nw R Post K h S k n pc L st := fun T I => by
  obtain ⟨vm0, k0, locs, X, hS, hk0, hZ, e, N, CH, hSf, hw, hO⟩ := I
  obtain ⟨hx, hby, hml, hret, hlk, hnm, hown, hEL⟩ := G
  have hlk' : K.meth.locks = false := hlk
  obtain ⟨fs, h1, h2, h3, hE⟩ := X.leaveW hS (by rw [e]; exact hk0) (v := v) (fun z => hv (hret.symm.trans z)) hlk'
  obtain ⟨a1, a2, a3, a4⟩ := hE
  have CA := CHv.at X hZ hEL CH.1
  have eh : (T.setFrames fs).heap = h := e
  refine ⟨_, _, q T vm0 locs fs X h1, h2, h3, v, locs, S', rfl, by rw [eh]; exact hP, N, ?_, ?_, ⟨a1, a2, a3, a4.mono hk hn⟩, fun z => State.WarmedH.trans (t := K.s.setVm vm0) (hw z) X.warmed, by rw [eh]; exact hO⟩
  · show CHr Z EL K.s.vm K.s.heap T.vm (T.setFrames fs).heap
    rw [eh]; exact CH.trans CA
  · intro x hx'
    obtain ⟨b1, b2, b3⟩ := hSf x (hS' x hx')
    show Z.heap.size ≤ x ∧ x < (T.setFrames fs).heap.size ∧ Safe Z EL T.vm (T.setFrames fs).heap x
    rw [eh]; exact ⟨b1, b2, CA.safe b2 b3⟩
theorem Good.ret0 (G : Good Z a0 EL K own code maxL none nm) (hd : Dc code pc .return_ 1 pc') (S' : List Addr) (hS' : ∀ x ∈ S', x ∈ S) (hP : Post none h S') (hk : k ≤ R.cells := by decide) (hn : n ≤ R.slots := by decide) : Go Z EL nw R Post K h S k n pc L [] :=
  G.leave (fun _ => rfl) hk hn S' hS' hP fun T vm0 locs fs X hr => X.returnOut G.1 G.2.2.2.1 (hb G.2.1 hd.1) hr
theorem Good.retV {t : FieldType} (G : Good Z a0 EL K own code maxL (some t) nm) {w : Value} {i : Instr} (hd : Dc code pc i 1 pc') (hn' : narrow t w = w)
    (hi : (i = .ireturn ∧ (t = .int ∨ t = .boolean ∨ t = .byte ∨ t = .char ∨ t = .short) ∧ ∃ z, w = .int z) ∨ (i = .lreturn ∧ t = .long ∧ ∃ z, w = .long z) ∨ (i = .dreturn ∧ t = .double ∧ ∃ z, w = .double z) ∨ (i = .freturn ∧ t = .float ∧ ∃ z, w = .float z) ∨ (i = .areturn ∧ t.isReference = true ∧ w.isRef = true))
    (S' : List Addr) (hS' : ∀ x ∈ S', x ∈ S) (hP : Post (some w) h S') (hk : k ≤ R.cells := by decide) (hn : n ≤ R.slots := by decide) : Go Z EL nw R Post K h S k n pc L (w :: st) :=
  G.leave (fun z => by cases z) hk hn S' hS' hP fun T vm0 locs fs X hr => retOut X G.1 G.2.2.2.1 hn' hi (hb G.2.1 hd.1) hr
theorem Good.iret (G : Good Z a0 EL K own code maxL (some .int) nm) {z : Int32} (hd : Dc code pc .ireturn 1 pc') (S' : List Addr) (hS' : ∀ x ∈ S', x ∈ S) (hP : Post (some (.int z)) h S') (hk : k ≤ R.cells := by decide) (hn : n ≤ R.slots := by decide) : Go Z EL nw R Post K h S k n pc L (.int z :: st) :=
  G.retV hd rfl (Or.inl ⟨rfl, Or.inl rfl, z, rfl⟩) S' hS' hP hk hn
theorem Good.lret (G : Good Z a0 EL K own code maxL (some .long) nm) {z : Int64} (hd : Dc code pc .lreturn 1 pc') (S' : List Addr) (hS' : ∀ x ∈ S', x ∈ S) (hP : Post (some (.long z)) h S') (hk : k ≤ R.cells := by decide) (hn : n ≤ R.slots := by decide) : Go Z EL nw R Post K h S k n pc L (.long z :: st) :=
  G.retV hd rfl (Or.inr (Or.inl ⟨rfl, rfl, z, rfl⟩)) S' hS' hP hk hn
theorem Good.aret {t : FieldType} (G : Good Z a0 EL K own code maxL (some t) nm) {w : Value} (hd : Dc code pc .areturn 1 pc') (S' : List Addr) (hS' : ∀ x ∈ S', x ∈ S) (hP : Post (some w) h S') (hr : w.isRef = true := by rfl) (ht : t.isReference = true := by rfl) (hk : k ≤ R.cells := by decide) (hn : n ≤ R.slots := by decide) : Go Z EL nw R Post K h S k n pc L (w :: st) :=
  G.retV hd (by rcases ref_cases hr with rfl | ⟨_, rfl⟩ <;> cases t <;> first | rfl | cases ht) (Or.inr (Or.inr (Or.inr (Or.inr ⟨rfl, ht, hr⟩)))) S' hS' hP hk hn
/-- boolean, byte, char, short -/
theorem Good.nret {t : FieldType} (G : Good Z a0 EL K own code maxL (some t) nm) {z z' : Int32} (hd : Dc code pc .ireturn 1 pc') (ht : t = .boolean ∨ t = .byte ∨ t = .char ∨ t = .short) (hz : nar t z = z') (S' : List Addr) (hS' : ∀ x ∈ S', x ∈ S) (hP : Post (some (.int z')) h S') (hk : k ≤ R.cells := by decide) (hn : n ≤ R.slots := by decide) : Go Z EL nw R Post K h S k n pc L (.int z :: st) :=
  G.leave (fun z => by cases z) hk hn S' hS' hP fun T vm0 locs fs X hr => retN X G.1 G.2.2.2.1 ht (hb G.2.1 hd.1) (by rw [hz]; exact hr)
end Rules
end Jvm.Own
namespace Jvm.Own
open Jvm Jvm.ClassFile Sem Op Lib Jvm.Free Jvm.Stand Jvm.LawKit Jvm.RoadKit Bundle
/-- a branch's decode fact, with both places -/
def Dj (code : ByteArray) (pc : Nat) (i : Int → Instr) (pc' pcY : Nat) : Prop := ∃ o : Int, decode code pc = .ok (i o, 3) ∧ pc + 3 = pc' ∧ 0 ≤ (pc : Int) + o ∧ ((pc : Int) + o).toNat = pcY
section Plain
variable {Z : State} {a0 : Array Value} {EL : List (String × Nat)} {nw : Bool} {R : Room} {Post : Pst} {K : Kx} {own : String} {code : ByteArray} {maxL : Nat} {ret : Option FieldType} {nm : String} {h : Heap} {S : List Addr} {k n pc pc' pcY : Nat} {L : List Slot} {st : List Value}
theorem Good.aloadN (G : Good Z a0 EL K own code maxL ret nm) {j : Fin 4} {v : Value} (hd : Dc code pc (.aload_n j) 1 pc') (hl : L[j.val]? = some (.val v)) (hv : v.isRef = true) (f : Go Z EL nw R Post K h S k n pc' L (v :: st)) : Go Z EL nw R Post K h S k n pc L st := by
  obtain ⟨hd, rfl⟩ := hd
  exact Go.plain (fun T t X q => XS.aloadN X G.1 rfl (hb G.2.1 hd) (by simpa using hl) hv q) f
theorem Good.aload (G : Good Z a0 EL K own code maxL ret nm) {j : Nat} {v : Value} (hd : Dc code pc (.aload j) 2 pc') (hl : L[j]? = some (.val v)) (hv : v.isRef = true) (f : Go Z EL nw R Post K h S k n pc' L (v :: st)) : Go Z EL nw R Post K h S k n pc L st := by
  obtain ⟨hd, rfl⟩ := hd
  exact Go.plain (fun T t X q => XS.aload X G.1 rfl (hb G.2.1 hd) (by simpa using hl) hv q) f
theorem Good.iloadN (G : Good Z a0 EL K own code maxL ret nm) {j : Fin 4} {v : Int32} (hd : Dc code pc (.iload_n j) 1 pc') (hl : L[j.val]? = some (.val (.int v))) (f : Go Z EL nw R Post K h S k n pc' L (.int v :: st)) : Go Z EL nw R Post K h S k n pc L st := by
  obtain ⟨hd, rfl⟩ := hd
  exact Go.plain (fun T t X q => XS.iloadN X G.1 rfl (hb G.2.1 hd) (by simpa using hl) q) f
theorem Good.iload (G : Good Z a0 EL K own code maxL ret nm) {j : Nat} {v : Int32} (hd : Dc code pc (.iload j) 2 pc') (hl : L[j]? = some (.val (.int v))) (f : Go Z EL nw R Post K h S k n pc' L (.int v :: st)) : Go Z EL nw R Post K h S k n pc L st := by
  obtain ⟨hd, rfl⟩ := hd
  exact Go.plain (fun T t X q => XS.iload X G.1 rfl (hb G.2.1 hd) (by simpa using hl) q) f
theorem Good.lloadN (G : Good Z a0 EL K own code maxL ret nm) {j : Fin 4} {v : Int64} (hd : Dc code pc (.lload_n j) 1 pc') (hl : L[j.val]? = some (.val (.long v))) (f : Go Z EL nw R Post K h S k n pc' L (.long v :: st)) : Go Z EL nw R Post K h S k n pc L st := by
  obtain ⟨hd, rfl⟩ := hd
  exact Go.plain (fun T t X q => XS.lloadN X G.1 rfl (hb G.2.1 hd) (by simpa using hl) q) f
theorem Good.lload (G : Good Z a0 EL K own code maxL ret nm) {j : Nat} {v : Int64} (hd : Dc code pc (.lload j) 2 pc') (hl : L[j]? = some (.val (.long v))) (f : Go Z EL nw R Post K h S k n pc' L (.long v :: st)) : Go Z EL nw R Post K h S k n pc L st := by
  obtain ⟨hd, rfl⟩ := hd
  exact Go.plain (fun T t X q => XS.lload X G.1 rfl (hb G.2.1 hd) (by simpa using hl) q) f
theorem Good.iconst (G : Good Z a0 EL K own code maxL ret nm) (z : Int32) {i : Int} (hd : Dc code pc (.iconst i) 1 pc')  (f : Go Z EL nw R Post K h S k n pc' L (.int z :: st)) (hz : Int32.ofInt i = z := by decide) : Go Z EL nw R Post K h S k n pc L st := by
  obtain ⟨hd, rfl⟩ := hd
  exact Go.plain (fun T t X q => XS.iconst X G.1 rfl (hb G.2.1 hd) (by rw [hz]; exact q)) f
theorem Good.bipush (G : Good Z a0 EL K own code maxL ret nm) (z : Int32) {i : Int} (hd : Dc code pc (.bipush i) 2 pc')  (f : Go Z EL nw R Post K h S k n pc' L (.int z :: st)) (hz : (Int8.ofInt i).toInt32 = z := by decide) : Go Z EL nw R Post K h S k n pc L st := by
  obtain ⟨hd, rfl⟩ := hd
  exact Go.plain (fun T t X q => XS.bipush X G.1 rfl (hb G.2.1 hd) (by rw [hz]; exact q)) f
theorem Good.sipush (G : Good Z a0 EL K own code maxL ret nm) (z : Int32) {i : Int} (hd : Dc code pc (.sipush i) 3 pc')  (f : Go Z EL nw R Post K h S k n pc' L (.int z :: st)) (hz : (Int16.ofInt i).toInt32 = z := by decide) : Go Z EL nw R Post K h S k n pc L st := by
  obtain ⟨hd, rfl⟩ := hd
  exact Go.plain (fun T t X q => XS.sipush X G.1 rfl (hb G.2.1 hd) (by rw [hz]; exact q)) f
theorem Good.lconst (G : Good Z a0 EL K own code maxL ret nm) (z : Int64) {i : Fin 2} (hd : Dc code pc (.lconst i) 1 pc')  (f : Go Z EL nw R Post K h S k n pc' L (.long z :: st)) (hz : Int64.ofNat i = z := by decide) : Go Z EL nw R Post K h S k n pc L st := by
  obtain ⟨hd, rfl⟩ := hd
  exact Go.plain (fun T t X q => XS.lconst X G.1 rfl (hb G.2.1 hd) (by rw [hz]; exact q)) f
theorem Good.aconstNull (G : Good Z a0 EL K own code maxL ret nm)  (hd : Dc code pc .aconst_null 1 pc')  (f : Go Z EL nw R Post K h S k n pc' L (.null :: st)) : Go Z EL nw R Post K h S k n pc L st := by
  obtain ⟨hd, rfl⟩ := hd
  exact Go.plain (fun T t X q => XS.aconstNull X G.1 rfl (hb G.2.1 hd)  q) f
theorem Good.iadd (G : Good Z a0 EL K own code maxL ret nm) {x y : Int32} (hd : Dc code pc .iadd 1 pc')  (f : Go Z EL nw R Post K h S k n pc' L (.int (x + y) :: st)) : Go Z EL nw R Post K h S k n pc L (.int y :: .int x :: st) := by
  obtain ⟨hd, rfl⟩ := hd
  exact Go.plain (fun T t X q => XS.iadd X G.1 rfl (hb G.2.1 hd) rfl q) f
theorem Good.isub (G : Good Z a0 EL K own code maxL ret nm) {x y : Int32} (hd : Dc code pc .isub 1 pc')  (f : Go Z EL nw R Post K h S k n pc' L (.int (x - y) :: st)) : Go Z EL nw R Post K h S k n pc L (.int y :: .int x :: st) := by
  obtain ⟨hd, rfl⟩ := hd
  exact Go.plain (fun T t X q => XS.isub X G.1 rfl (hb G.2.1 hd) rfl q) f
theorem Good.imul (G : Good Z a0 EL K own code maxL ret nm) {x y : Int32} (hd : Dc code pc .imul 1 pc')  (f : Go Z EL nw R Post K h S k n pc' L (.int (x * y) :: st)) : Go Z EL nw R Post K h S k n pc L (.int y :: .int x :: st) := by
  obtain ⟨hd, rfl⟩ := hd
  exact Go.plain (fun T t X q => XS.imul X G.1 rfl (hb G.2.1 hd) rfl q) f
theorem Good.iand (G : Good Z a0 EL K own code maxL ret nm) {x y : Int32} (hd : Dc code pc .iand 1 pc')  (f : Go Z EL nw R Post K h S k n pc' L (.int (x &&& y) :: st)) : Go Z EL nw R Post K h S k n pc L (.int y :: .int x :: st) := by
  obtain ⟨hd, rfl⟩ := hd
  exact Go.plain (fun T t X q => XS.iand X G.1 rfl (hb G.2.1 hd) rfl q) f
theorem Good.ior (G : Good Z a0 EL K own code maxL ret nm) {x y : Int32} (hd : Dc code pc .ior 1 pc')  (f : Go Z EL nw R Post K h S k n pc' L (.int (x ||| y) :: st)) : Go Z EL nw R Post K h S k n pc L (.int y :: .int x :: st) := by
  obtain ⟨hd, rfl⟩ := hd
  exact Go.plain (fun T t X q => XS.ior X G.1 rfl (hb G.2.1 hd) rfl q) f
theorem Good.ixor (G : Good Z a0 EL K own code maxL ret nm) {x y : Int32} (hd : Dc code pc .ixor 1 pc')  (f : Go Z EL nw R Post K h S k n pc' L (.int (x ^^^ y) :: st)) : Go Z EL nw R Post K h S k n pc L (.int y :: .int x :: st) := by
  obtain ⟨hd, rfl⟩ := hd
  exact Go.plain (fun T t X q => XS.ixor X G.1 rfl (hb G.2.1 hd) rfl q) f
theorem Good.ishl (G : Good Z a0 EL K own code maxL ret nm) {x y : Int32} (hd : Dc code pc .ishl 1 pc')  (f : Go Z EL nw R Post K h S k n pc' L (.int (x <<< (y &&& 31)) :: st)) : Go Z EL nw R Post K h S k n pc L (.int y :: .int x :: st) := by
  obtain ⟨hd, rfl⟩ := hd
  exact Go.plain (fun T t X q => XS.ishl X G.1 rfl (hb G.2.1 hd) rfl q) f
theorem Good.ishr (G : Good Z a0 EL K own code maxL ret nm) {x y : Int32} (hd : Dc code pc .ishr 1 pc')  (f : Go Z EL nw R Post K h S k n pc' L (.int (x >>> (y &&& 31)) :: st)) : Go Z EL nw R Post K h S k n pc L (.int y :: .int x :: st) := by
  obtain ⟨hd, rfl⟩ := hd
  exact Go.plain (fun T t X q => XS.ishr X G.1 rfl (hb G.2.1 hd) rfl q) f
theorem Good.iushr (G : Good Z a0 EL K own code maxL ret nm) {x y : Int32} (hd : Dc code pc .iushr 1 pc')  (f : Go Z EL nw R Post K h S k n pc' L (.int ((x.toUInt32 >>> (y &&& 31).toUInt32).toInt32) :: st)) : Go Z EL nw R Post K h S k n pc L (.int y :: .int x :: st) := by
  obtain ⟨hd, rfl⟩ := hd
  exact Go.plain (fun T t X q => XS.iushr X G.1 rfl (hb G.2.1 hd) rfl q) f
theorem Good.idiv (G : Good Z a0 EL K own code maxL ret nm) {x y : Int32} (hd : Dc code pc .idiv 1 pc') (hy : y ≠ 0) (f : Go Z EL nw R Post K h S k n pc' L (.int (x / y) :: st)) : Go Z EL nw R Post K h S k n pc L (.int y :: .int x :: st) := by
  obtain ⟨hd, rfl⟩ := hd
  exact Go.plain (fun T t X q => XS.idiv X G.1 rfl (hb G.2.1 hd) rfl hy q) f
theorem Good.irem (G : Good Z a0 EL K own code maxL ret nm) {x y : Int32} (hd : Dc code pc .irem 1 pc') (hy : y ≠ 0) (f : Go Z EL nw R Post K h S k n pc' L (.int (x % y) :: st)) : Go Z EL nw R Post K h S k n pc L (.int y :: .int x :: st) := by
  obtain ⟨hd, rfl⟩ := hd
  exact Go.plain (fun T t X q => XS.irem X G.1 rfl (hb G.2.1 hd) rfl hy (by rw [show x - x / y * y = x % y from irem_eq_mod x y]; exact q)) f
theorem Good.ineg (G : Good Z a0 EL K own code maxL ret nm) {x : Int32} (hd : Dc code pc .ineg 1 pc')  (f : Go Z EL nw R Post K h S k n pc' L (.int (-x) :: st)) : Go Z EL nw R Post K h S k n pc L (.int x :: st) := by
  obtain ⟨hd, rfl⟩ := hd
  exact Go.plain (fun T t X q => XS.ineg X G.1 rfl (hb G.2.1 hd) rfl q) f
theorem Good.ladd (G : Good Z a0 EL K own code maxL ret nm) {x y : Int64} (hd : Dc code pc .ladd 1 pc')  (f : Go Z EL nw R Post K h S k n pc' L (.long (x + y) :: st)) : Go Z EL nw R Post K h S k n pc L (.long y :: .long x :: st) := by
  obtain ⟨hd, rfl⟩ := hd
  exact Go.plain (fun T t X q => XS.ladd X G.1 rfl (hb G.2.1 hd) rfl q) f
theorem Good.lsub (G : Good Z a0 EL K own code maxL ret nm) {x y : Int64} (hd : Dc code pc .lsub 1 pc')  (f : Go Z EL nw R Post K h S k n pc' L (.long (x - y) :: st)) : Go Z EL nw R Post K h S k n pc L (.long y :: .long x :: st) := by
  obtain ⟨hd, rfl⟩ := hd
  exact Go.plain (fun T t X q => XS.lsub X G.1 rfl (hb G.2.1 hd) rfl q) f
theorem Good.lmul (G : Good Z a0 EL K own code maxL ret nm) {x y : Int64} (hd : Dc code pc .lmul 1 pc')  (f : Go Z EL nw R Post K h S k n pc' L (.long (x * y) :: st)) : Go Z EL nw R Post K h S k n pc L (.long y :: .long x :: st) := by
  obtain ⟨hd, rfl⟩ := hd
  exact Go.plain (fun T t X q => XS.lmul X G.1 rfl (hb G.2.1 hd) rfl q) f
theorem Good.land (G : Good Z a0 EL K own code maxL ret nm) {x y : Int64} (hd : Dc code pc .land 1 pc')  (f : Go Z EL nw R Post K h S k n pc' L (.long (x &&& y) :: st)) : Go Z EL nw R Post K h S k n pc L (.long y :: .long x :: st) := by
  obtain ⟨hd, rfl⟩ := hd
  exact Go.plain (fun T t X q => XS.land X G.1 rfl (hb G.2.1 hd) rfl q) f
theorem Good.lor (G : Good Z a0 EL K own code maxL ret nm) {x y : Int64} (hd : Dc code pc .lor 1 pc')  (f : Go Z EL nw R Post K h S k n pc' L (.long (x ||| y) :: st)) : Go Z EL nw R Post K h S k n pc L (.long y :: .long x :: st) := by
  obtain ⟨hd, rfl⟩ := hd
  exact Go.plain (fun T t X q => XS.lor X G.1 rfl (hb G.2.1 hd) rfl q) f
theorem Good.lxor (G : Good Z a0 EL K own code maxL ret nm) {x y : Int64} (hd : Dc code pc .lxor 1 pc')  (f : Go Z EL nw R Post K h S k n pc' L (.long (x ^^^ y) :: st)) : Go Z EL nw R Post K h S k n pc L (.long y :: .long x :: st) := by
  obtain ⟨hd, rfl⟩ := hd
  exact Go.plain (fun T t X q => XS.lxor X G.1 rfl (hb G.2.1 hd) rfl q) f
theorem Good.lshl (G : Good Z a0 EL K own code maxL ret nm) {x : Int64} {y : Int32} (hd : Dc code pc .lshl 1 pc')  (f : Go Z EL nw R Post K h S k n pc' L (.long (x <<< (y &&& 0x3f).toInt64) :: st)) : Go Z EL nw R Post K h S k n pc L (.int y :: .long x :: st) := by
  obtain ⟨hd, rfl⟩ := hd
  exact Go.plain (fun T t X q => XS.lshl X G.1 rfl (hb G.2.1 hd) rfl q) f
theorem Good.lshr (G : Good Z a0 EL K own code maxL ret nm) {x : Int64} {y : Int32} (hd : Dc code pc .lshr 1 pc')  (f : Go Z EL nw R Post K h S k n pc' L (.long (x >>> (y &&& 0x3f).toInt64) :: st)) : Go Z EL nw R Post K h S k n pc L (.int y :: .long x :: st) := by
  obtain ⟨hd, rfl⟩ := hd
  exact Go.plain (fun T t X q => XS.lshr X G.1 rfl (hb G.2.1 hd) rfl q) f
theorem Good.lushr (G : Good Z a0 EL K own code maxL ret nm) {x : Int64} {y : Int32} (hd : Dc code pc .lushr 1 pc')  (f : Go Z EL nw R Post K h S k n pc' L (.long ((x.toUInt64 >>> (y &&& 0x3f).toInt64.toUInt64).toInt64) :: st)) : Go Z EL nw R Post K h S k n pc L (.int y :: .long x :: st) := by
  obtain ⟨hd, rfl⟩ := hd
  exact Go.plain (fun T t X q => XS.lushr X G.1 rfl (hb G.2.1 hd) rfl q) f
theorem Good.ldiv (G : Good Z a0 EL K own code maxL ret nm) {x y : Int64} (hd : Dc code pc .ldiv 1 pc') (hy : y ≠ 0) (f : Go Z EL nw R Post K h S k n pc' L (.long (x / y) :: st)) : Go Z EL nw R Post K h S k n pc L (.long y :: .long x :: st) := by
  obtain ⟨hd, rfl⟩ := hd
  exact Go.plain (fun T t X q => XS.ldiv X G.1 rfl (hb G.2.1 hd) rfl hy q) f
theorem Good.lneg (G : Good Z a0 EL K own code maxL ret nm) {x : Int64} (hd : Dc code pc .lneg 1 pc')  (f : Go Z EL nw R Post K h S k n pc' L (.long (-x) :: st)) : Go Z EL nw R Post K h S k n pc L (.long x :: st) := by
  obtain ⟨hd, rfl⟩ := hd
  exact Go.plain (fun T t X q => XS.lneg X G.1 rfl (hb G.2.1 hd) rfl q) f
theorem Good.i2b (G : Good Z a0 EL K own code maxL ret nm) {x : Int32} (hd : Dc code pc .i2b 1 pc')  (f : Go Z EL nw R Post K h S k n pc' L (.int (x.toInt8.toInt32) :: st)) : Go Z EL nw R Post K h S k n pc L (.int x :: st) := by
  obtain ⟨hd, rfl⟩ := hd
  exact Go.plain (fun T t X q => XS.i2b X G.1 rfl (hb G.2.1 hd) rfl q) f
theorem Good.i2c (G : Good Z a0 EL K own code maxL ret nm) {x : Int32} (hd : Dc code pc .i2c 1 pc')  (f : Go Z EL nw R Post K h S k n pc' L (.int (x.toUInt32.toUInt16.toUInt32.toInt32) :: st)) : Go Z EL nw R Post K h S k n pc L (.int x :: st) := by
  obtain ⟨hd, rfl⟩ := hd
  exact Go.plain (fun T t X q => XS.i2c X G.1 rfl (hb G.2.1 hd) rfl q) f
theorem Good.i2s (G : Good Z a0 EL K own code maxL ret nm) {x : Int32} (hd : Dc code pc .i2s 1 pc')  (f : Go Z EL nw R Post K h S k n pc' L (.int (x.toInt16.toInt32) :: st)) : Go Z EL nw R Post K h S k n pc L (.int x :: st) := by
  obtain ⟨hd, rfl⟩ := hd
  exact Go.plain (fun T t X q => XS.i2s X G.1 rfl (hb G.2.1 hd) rfl q) f
theorem Good.i2l (G : Good Z a0 EL K own code maxL ret nm) {x : Int32} (hd : Dc code pc .i2l 1 pc')  (f : Go Z EL nw R Post K h S k n pc' L (.long (x.toInt64) :: st)) : Go Z EL nw R Post K h S k n pc L (.int x :: st) := by
  obtain ⟨hd, rfl⟩ := hd
  exact Go.plain (fun T t X q => XS.i2l X G.1 rfl (hb G.2.1 hd) rfl q) f
theorem Good.l2i (G : Good Z a0 EL K own code maxL ret nm) {x : Int64} (hd : Dc code pc .l2i 1 pc')  (f : Go Z EL nw R Post K h S k n pc' L (.int (x.toInt32) :: st)) : Go Z EL nw R Post K h S k n pc L (.long x :: st) := by
  obtain ⟨hd, rfl⟩ := hd
  exact Go.plain (fun T t X q => XS.l2i X G.1 rfl (hb G.2.1 hd) rfl q) f
theorem Good.lcmp (G : Good Z a0 EL K own code maxL ret nm) {x y : Int64} (hd : Dc code pc .lcmp 1 pc')  (f : Go Z EL nw R Post K h S k n pc' L (.int (lcmpW x y) :: st)) : Go Z EL nw R Post K h S k n pc L (.long y :: .long x :: st) := by
  obtain ⟨hd, rfl⟩ := hd
  exact Go.plain (fun T t X q => XS.lcmp X G.1 rfl (hb G.2.1 hd) rfl q) f
theorem Good.dup (G : Good Z a0 EL K own code maxL ret nm) {x : Value} (hd : Dc code pc .dup 1 pc')  (f : Go Z EL nw R Post K h S k n pc' L (x :: x :: st)) (hc : x.category = 1 := by rfl) : Go Z EL nw R Post K h S k n pc L (x :: st) := by
  obtain ⟨hd, rfl⟩ := hd
  exact Go.plain (fun T t X q => XS.dup X G.1 rfl (hb G.2.1 hd) rfl hc q) f
theorem Good.pop (G : Good Z a0 EL K own code maxL ret nm) {x : Value} (hd : Dc code pc .pop 1 pc')  (f : Go Z EL nw R Post K h S k n pc' L st) (hc : x.category = 1 := by rfl) : Go Z EL nw R Post K h S k n pc L (x :: st) := by
  obtain ⟨hd, rfl⟩ := hd
  exact Go.plain (fun T t X q => XS.pop X G.1 rfl (hb G.2.1 hd) rfl hc q) f
theorem Good.dupX1 (G : Good Z a0 EL K own code maxL ret nm) {x y : Value} (hd : Dc code pc .dup_x1 1 pc')  (f : Go Z EL nw R Post K h S k n pc' L (x :: y :: x :: st)) (hc : x.category = 1 := by rfl) (hc2 : y.category = 1 := by rfl) : Go Z EL nw R Post K h S k n pc L (x :: y :: st) := by
  obtain ⟨hd, rfl⟩ := hd
  exact Go.plain (fun T t X q => XS.dupX1 X G.1 rfl (hb G.2.1 hd) rfl hc hc2 q) f
theorem Good.swap (G : Good Z a0 EL K own code maxL ret nm) {x y : Value} (hd : Dc code pc .swap 1 pc')  (f : Go Z EL nw R Post K h S k n pc' L (y :: x :: st)) (hc : x.category = 1 := by rfl) (hc2 : y.category = 1 := by rfl) : Go Z EL nw R Post K h S k n pc L (x :: y :: st) := by
  obtain ⟨hd, rfl⟩ := hd
  exact Go.plain (fun T t X q => XS.swap X G.1 rfl (hb G.2.1 hd) rfl hc hc2 q) f
theorem Good.pop2L (G : Good Z a0 EL K own code maxL ret nm) {x : Int64} (hd : Dc code pc .pop2 1 pc') (f : Go Z EL nw R Post K h S k n pc' L st) : Go Z EL nw R Post K h S k n pc L (.long x :: st) := by
  obtain ⟨hd, rfl⟩ := hd
  refine Go.plain (fun T t X q => ?_) f
  have hd' := hb G.2.1 hd
  have hx := G.1
  jvm_step X [X.top, hx, hd', Value.category]
  exact q
theorem Good.dup2I (G : Good Z a0 EL K own code maxL ret nm) {x y : Value} (hd : Dc code pc .dup2 1 pc') (f : Go Z EL nw R Post K h S k n pc' L (x :: y :: x :: y :: st)) (hc : x.category = 1 := by rfl) (hc2 : y.category = 1 := by rfl) : Go Z EL nw R Post K h S k n pc L (x :: y :: st) := by
  obtain ⟨hd, rfl⟩ := hd
  exact Go.plain (fun T t X q => XT.dup2 X G.1 rfl (hb G.2.1 hd) rfl hc hc2 q) f
theorem Good.goto (G : Good Z a0 EL K own code maxL ret nm) (hd : Dj code pc .goto pc' pcY) (f : Go Z EL nw R Post K h S k n pcY L st) : Go Z EL nw R Post K h S k n pc L st := by
  obtain ⟨o, hd, rfl, ho, hp⟩ := hd
  exact Go.plain (fun T t X q => XS.goto X G.1 rfl (pc0 := pc) rfl (hb G.2.1 hd) ho hp q) f
theorem Good.icmp (G : Good Z a0 EL K own code maxL ret nm) {cd : ClassFile.Cond} {x y : Int32} (hd : Dj code pc (.if_icmp cd) pc' pcY) (fY : if_icmp.holds cd x y = true → Go Z EL nw R Post K h S k n pcY L st) (fN : if_icmp.holds cd x y = false → Go Z EL nw R Post K h S k n pc' L st) : Go Z EL nw R Post K h S k n pc L (.int y :: .int x :: st) := by
  obtain ⟨o, hd, rfl, ho, hp⟩ := hd
  cases hc : if_icmp.holds cd x y
  · exact Go.plain (fun T t X q => XS.icmpNo X G.1 rfl (hb G.2.1 hd) rfl hc q) (fN hc)
  · exact Go.plain (fun T t X q => XS.icmpYes X G.1 rfl (pc0 := pc) rfl (hb G.2.1 hd) rfl hc ho hp q) (fY hc)
theorem Good.ifc (G : Good Z a0 EL K own code maxL ret nm) {cd : ClassFile.Cond} {x : Int32} (hd : Dj code pc (.ifCond cd) pc' pcY) (fY : if_icmp.holds cd x 0 = true → Go Z EL nw R Post K h S k n pcY L st) (fN : if_icmp.holds cd x 0 = false → Go Z EL nw R Post K h S k n pc' L st) : Go Z EL nw R Post K h S k n pc L (.int x :: st) := by
  obtain ⟨o, hd, rfl, ho, hp⟩ := hd
  cases hc : if_icmp.holds cd x 0
  · exact Go.plain (fun T t X q => XS.ifNo X G.1 rfl (hb G.2.1 hd) rfl ((if0 _ _).trans hc) q) (fN hc)
  · exact Go.plain (fun T t X q => XS.ifYes X G.1 rfl (pc0 := pc) rfl (hb G.2.1 hd) rfl ((if0 _ _).trans hc) ho hp q) (fY hc)
theorem hold_lt {x y : Int32} : (if_icmp.holds .lt x y = true → x < y) ∧ (if_icmp.holds .lt x y = false → ¬ x < y) := ⟨fun q => (by by_cases z : x < y; exact z; rw [(flt z).1] at q; cases q), fun q z => by rw [(tlt z).1] at q; cases q⟩
theorem hold_ge {x y : Int32} : (if_icmp.holds .ge x y = true → ¬ x < y) ∧ (if_icmp.holds .ge x y = false → x < y) := ⟨fun q z => (by rw [(tlt z).2.1] at q; cases q), fun q => by by_cases z : x < y; exact z; rw [(flt z).2.1] at q; cases q⟩
theorem hold_gt {x y : Int32} : (if_icmp.holds .gt x y = true → y < x) ∧ (if_icmp.holds .gt x y = false → ¬ y < x) := ⟨fun q => (by by_cases z : y < x; exact z; rw [(flt z).2.2.1] at q; cases q), fun q z => by rw [(tlt z).2.2.1] at q; cases q⟩
theorem hold_le {x y : Int32} : (if_icmp.holds .le x y = true → ¬ y < x) ∧ (if_icmp.holds .le x y = false → y < x) := ⟨fun q z => (by rw [(tlt z).2.2.2] at q; cases q), fun q => by by_cases z : y < x; exact z; rw [(flt z).2.2.2] at q; cases q⟩
theorem hold_eq {x y : Int32} : (if_icmp.holds .eq x y = true → x = y) ∧ (if_icmp.holds .eq x y = false → ¬ x = y) := ⟨fun q => (by by_cases z : x = y; exact z; rw [(feq z).1] at q; cases q), fun q z => by rw [(teq z).1] at q; cases q⟩
theorem hold_ne {x y : Int32} : (if_icmp.holds .ne x y = true → ¬ x = y) ∧ (if_icmp.holds .ne x y = false → x = y) := ⟨fun q z => (by rw [(teq z).2] at q; cases q), fun q => by by_cases z : x = y; exact z; rw [(feq z).2] at q; cases q⟩
theorem Good.icmp_lt (G : Good Z a0 EL K own code maxL ret nm) {x y : Int32} (hd : Dj code pc (.if_icmp .lt) pc' pcY) (fY : x < y → Go Z EL nw R Post K h S k n pcY L st) (fN : ¬ x < y → Go Z EL nw R Post K h S k n pc' L st) : Go Z EL nw R Post K h S k n pc L (.int y :: .int x :: st) := G.icmp hd (fun q => fY (hold_lt.1 q)) (fun q => fN (hold_lt.2 q))
theorem Good.if_lt (G : Good Z a0 EL K own code maxL ret nm) {x : Int32} (hd : Dj code pc (.ifCond .lt) pc' pcY) (fY : x < 0 → Go Z EL nw R Post K h S k n pcY L st) (fN : ¬ x < 0 → Go Z EL nw R Post K h S k n pc' L st) : Go Z EL nw R Post K h S k n pc L (.int x :: st) := G.ifc hd (fun q => fY (hold_lt.1 q)) (fun q => fN (hold_lt.2 q))
theorem Good.icmp_ge (G : Good Z a0 EL K own code maxL ret nm) {x y : Int32} (hd : Dj code pc (.if_icmp .ge) pc' pcY) (fY : ¬ x < y → Go Z EL nw R Post K h S k n pcY L st) (fN : x < y → Go Z EL nw R Post K h S k n pc' L st) : Go Z EL nw R Post K h S k n pc L (.int y :: .int x :: st) := G.icmp hd (fun q => fY (hold_ge.1 q)) (fun q => fN (hold_ge.2 q))
theorem Good.if_ge (G : Good Z a0 EL K own code maxL ret nm) {x : Int32} (hd : Dj code pc (.ifCond .ge) pc' pcY) (fY : ¬ x < 0 → Go Z EL nw R Post K h S k n pcY L st) (fN : x < 0 → Go Z EL nw R Post K h S k n pc' L st) : Go Z EL nw R Post K h S k n pc L (.int x :: st) := G.ifc hd (fun q => fY (hold_ge.1 q)) (fun q => fN (hold_ge.2 q))
theorem Good.icmp_gt (G : Good Z a0 EL K own code maxL ret nm) {x y : Int32} (hd : Dj code pc (.if_icmp .gt) pc' pcY) (fY : y < x → Go Z EL nw R Post K h S k n pcY L st) (fN : ¬ y < x → Go Z EL nw R Post K h S k n pc' L st) : Go Z EL nw R Post K h S k n pc L (.int y :: .int x :: st) := G.icmp hd (fun q => fY (hold_gt.1 q)) (fun q => fN (hold_gt.2 q))
theorem Good.if_gt (G : Good Z a0 EL K own code maxL ret nm) {x : Int32} (hd : Dj code pc (.ifCond .gt) pc' pcY) (fY : 0 < x → Go Z EL nw R Post K h S k n pcY L st) (fN : ¬ 0 < x → Go Z EL nw R Post K h S k n pc' L st) : Go Z EL nw R Post K h S k n pc L (.int x :: st) := G.ifc hd (fun q => fY (hold_gt.1 q)) (fun q => fN (hold_gt.2 q))
theorem Good.icmp_le (G : Good Z a0 EL K own code maxL ret nm) {x y : Int32} (hd : Dj code pc (.if_icmp .le) pc' pcY) (fY : ¬ y < x → Go Z EL nw R Post K h S k n pcY L st) (fN : y < x → Go Z EL nw R Post K h S k n pc' L st) : Go Z EL nw R Post K h S k n pc L (.int y :: .int x :: st) := G.icmp hd (fun q => fY (hold_le.1 q)) (fun q => fN (hold_le.2 q))
theorem Good.if_le (G : Good Z a0 EL K own code maxL ret nm) {x : Int32} (hd : Dj code pc (.ifCond .le) pc' pcY) (fY : ¬ 0 < x → Go Z EL nw R Post K h S k n pcY L st) (fN : 0 < x → Go Z EL nw R Post K h S k n pc' L st) : Go Z EL nw R Post K h S k n pc L (.int x :: st) := G.ifc hd (fun q => fY (hold_le.1 q)) (fun q => fN (hold_le.2 q))
theorem Good.icmp_eq (G : Good Z a0 EL K own code maxL ret nm) {x y : Int32} (hd : Dj code pc (.if_icmp .eq) pc' pcY) (fY : x = y → Go Z EL nw R Post K h S k n pcY L st) (fN : ¬ x = y → Go Z EL nw R Post K h S k n pc' L st) : Go Z EL nw R Post K h S k n pc L (.int y :: .int x :: st) := G.icmp hd (fun q => fY (hold_eq.1 q)) (fun q => fN (hold_eq.2 q))
theorem Good.if_eq (G : Good Z a0 EL K own code maxL ret nm) {x : Int32} (hd : Dj code pc (.ifCond .eq) pc' pcY) (fY : x = 0 → Go Z EL nw R Post K h S k n pcY L st) (fN : ¬ x = 0 → Go Z EL nw R Post K h S k n pc' L st) : Go Z EL nw R Post K h S k n pc L (.int x :: st) := G.ifc hd (fun q => fY (hold_eq.1 q)) (fun q => fN (hold_eq.2 q))
theorem Good.icmp_ne (G : Good Z a0 EL K own code maxL ret nm) {x y : Int32} (hd : Dj code pc (.if_icmp .ne) pc' pcY) (fY : ¬ x = y → Go Z EL nw R Post K h S k n pcY L st) (fN : x = y → Go Z EL nw R Post K h S k n pc' L st) : Go Z EL nw R Post K h S k n pc L (.int y :: .int x :: st) := G.icmp hd (fun q => fY (hold_ne.1 q)) (fun q => fN (hold_ne.2 q))
theorem Good.if_ne (G : Good Z a0 EL K own code maxL ret nm) {x : Int32} (hd : Dj code pc (.ifCond .ne) pc' pcY) (fY : ¬ x = 0 → Go Z EL nw R Post K h S k n pcY L st) (fN : x = 0 → Go Z EL nw R Post K h S k n pc' L st) : Go Z EL nw R Post K h S k n pc L (.int x :: st) := G.ifc hd (fun q => fY (hold_ne.1 q)) (fun q => fN (hold_ne.2 q))
theorem Good.ifnullR (G : Good Z a0 EL K own code maxL ret nm) {b : Addr} (hd : Dj code pc .ifnull pc' pcY) (f : Go Z EL nw R Post K h S k n pc' L st) : Go Z EL nw R Post K h S k n pc L (.ref b :: st) := by
  obtain ⟨o, hd, rfl, ho, hp⟩ := hd
  exact Go.plain (fun T t X q => XS.ifnullNo X G.1 rfl (hb G.2.1 hd) rfl q) f
theorem Good.ifnullN (G : Good Z a0 EL K own code maxL ret nm) (hd : Dj code pc .ifnull pc' pcY) (f : Go Z EL nw R Post K h S k n pcY L st) : Go Z EL nw R Post K h S k n pc L (.null :: st) := by
  obtain ⟨o, hd, rfl, ho, hp⟩ := hd
  exact Go.plain (fun T t X q => XS.ifnullYes X G.1 rfl (pc0 := pc) rfl (hb G.2.1 hd) rfl ho hp q) f
theorem Good.ifnonnullR (G : Good Z a0 EL K own code maxL ret nm) {b : Addr} (hd : Dj code pc .ifnonnull pc' pcY) (f : Go Z EL nw R Post K h S k n pcY L st) : Go Z EL nw R Post K h S k n pc L (.ref b :: st) := by
  obtain ⟨o, hd, rfl, ho, hp⟩ := hd
  exact Go.plain (fun T t X q => XS.ifnonnullYes X G.1 rfl (pc0 := pc) rfl (hb G.2.1 hd) rfl ho hp q) f
theorem Good.ifnonnullN (G : Good Z a0 EL K own code maxL ret nm) (hd : Dj code pc .ifnonnull pc' pcY) (f : Go Z EL nw R Post K h S k n pc' L st) : Go Z EL nw R Post K h S k n pc L (.null :: st) := by
  obtain ⟨o, hd, rfl, ho, hp⟩ := hd
  exact Go.plain (fun T t X q => XS.ifnonnullNo X G.1 rfl (hb G.2.1 hd) rfl q) f
theorem Good.acmp_eq (G : Good Z a0 EL K own code maxL ret nm) {x y : Value} (hd : Dj code pc (.if_acmp .eq) pc' pcY) (fY : x = y → Go Z EL nw R Post K h S k n pcY L st) (fN : ¬ x = y → Go Z EL nw R Post K h S k n pc' L st) (hx' : x.isRef = true := by rfl) (hy' : y.isRef = true := by rfl) : Go Z EL nw R Post K h S k n pc L (y :: x :: st) := by
  obtain ⟨o, hd, rfl, ho, hp⟩ := hd
  by_cases z : x = y
  · exact Go.plain (fun T t X q => XT.acmpYes X G.1 rfl (pc0 := pc) rfl (hb G.2.1 hd) rfl hx' hy' (by simp [XT.acmp, z]) ho hp q) (fY z)
  · exact Go.plain (fun T t X q => XT.acmpNo X G.1 rfl (hb G.2.1 hd) rfl hx' hy' (by simp [XT.acmp, z]) q) (fN z)
theorem Good.acmp_ne (G : Good Z a0 EL K own code maxL ret nm) {x y : Value} (hd : Dj code pc (.if_acmp .ne) pc' pcY) (fY : ¬ x = y → Go Z EL nw R Post K h S k n pcY L st) (fN : x = y → Go Z EL nw R Post K h S k n pc' L st) (hx' : x.isRef = true := by rfl) (hy' : y.isRef = true := by rfl) : Go Z EL nw R Post K h S k n pc L (y :: x :: st) := by
  obtain ⟨o, hd, rfl, ho, hp⟩ := hd
  by_cases z : x = y
  · exact Go.plain (fun T t X q => XT.acmpNo X G.1 rfl (hb G.2.1 hd) rfl hx' hy' (by simp [XT.acmp, z]) q) (fN z)
  · exact Go.plain (fun T t X q => XT.acmpYes X G.1 rfl (pc0 := pc) rfl (hb G.2.1 hd) rfl hx' hy' (by simp [XT.acmp, z]) ho hp q) (fY z)
theorem Good.istoreG (G : Good Z a0 EL K own code maxL ret nm) {L' : List Slot} {j : Nat} {x : Int32} (hd : Dc code pc (.istore j) 2 pc') (hl : storeLocals L.toArray j (.int x) = some L'.toArray) (f : Go Z EL nw R Post K h S k n pc' L' st) : Go Z EL nw R Post K h S k n pc L (.int x :: st) := by
  obtain ⟨hd, rfl⟩ := hd
  exact Go.plain (fun T t X q => XS.istore X G.1 rfl (hb G.2.1 hd) rfl hl q) f
theorem Good.istoreNG (G : Good Z a0 EL K own code maxL ret nm) {L' : List Slot} {j : Fin 4} {x : Int32} (hd : Dc code pc (.istore_n j) 1 pc') (hl : storeLocals L.toArray j.val (.int x) = some L'.toArray) (f : Go Z EL nw R Post K h S k n pc' L' st) : Go Z EL nw R Post K h S k n pc L (.int x :: st) := by
  obtain ⟨hd, rfl⟩ := hd
  exact Go.plain (fun T t X q => XS.istoreN X G.1 rfl (hb G.2.1 hd) rfl hl q) f
theorem Good.astoreG (G : Good Z a0 EL K own code maxL ret nm) {L' : List Slot} {j : Nat} {x : Value} (hd : Dc code pc (.astore j) 2 pc') (hv : x.isRef = true) (hl : storeLocals L.toArray j x = some L'.toArray) (f : Go Z EL nw R Post K h S k n pc' L' st) : Go Z EL nw R Post K h S k n pc L (x :: st) := by
  obtain ⟨hd, rfl⟩ := hd
  exact Go.plain (fun T t X q => XS.astore X G.1 rfl (hb G.2.1 hd) rfl hv hl q) f
theorem Good.astoreNG (G : Good Z a0 EL K own code maxL ret nm) {L' : List Slot} {j : Fin 4} {x : Value} (hd : Dc code pc (.astore_n j) 1 pc') (hv : x.isRef = true) (hl : storeLocals L.toArray j.val x = some L'.toArray) (f : Go Z EL nw R Post K h S k n pc' L' st) : Go Z EL nw R Post K h S k n pc L (x :: st) := by
  obtain ⟨hd, rfl⟩ := hd
  exact Go.plain (fun T t X q => XS.astoreN X G.1 rfl (hb G.2.1 hd) rfl hv hl q) f
theorem Good.lstoreG (G : Good Z a0 EL K own code maxL ret nm) {L' : List Slot} {j : Nat} {x : Int64} (hd : Dc code pc (.lstore j) 2 pc') (hl : storeLocals L.toArray j (.long x) = some L'.toArray) (f : Go Z EL nw R Post K h S k n pc' L' st) : Go Z EL nw R Post K h S k n pc L (.long x :: st) := by
  obtain ⟨hd, rfl⟩ := hd
  exact Go.plain (fun T t X q => XS.lstore X G.1 rfl (hb G.2.1 hd) rfl hl q) f
theorem Good.lstoreNG (G : Good Z a0 EL K own code maxL ret nm) {L' : List Slot} {j : Fin 4} {x : Int64} (hd : Dc code pc (.lstore_n j) 1 pc') (hl : storeLocals L.toArray j.val (.long x) = some L'.toArray) (f : Go Z EL nw R Post K h S k n pc' L' st) : Go Z EL nw R Post K h S k n pc L (.long x :: st) := by
  obtain ⟨hd, rfl⟩ := hd
  exact Go.plain (fun T t X q => XS.lstoreN X G.1 rfl (hb G.2.1 hd) rfl hl q) f
theorem Good.iincG (G : Good Z a0 EL K own code maxL ret nm) {L' : List Slot} {j : Nat} {c : Int} {x : Int32} (hd : Dc code pc (.iinc j c) 3 pc') (hx : L[j]? = some (.val (.int x))) (hl : storeLocals L.toArray j (.int (x + Int32.ofInt c)) = some L'.toArray) (f : Go Z EL nw R Post K h S k n pc' L' st) : Go Z EL nw R Post K h S k n pc L st := by
  obtain ⟨hd, rfl⟩ := hd
  exact Go.plain (fun T t X q => XS.iinc X G.1 rfl (hb G.2.1 hd) (by simpa using hx) hl q) f
theorem Good.istore0 (G : Good Z a0 EL K own code maxL ret nm) {x0 : Slot} {r : List Slot} {x : Int32} (hd : Dc code pc (.istore_n 0) 1 pc') (f : Go Z EL nw R Post K h S k n pc' (.val (.int x) :: r) st) (hl : storeLocals (x0 :: r).toArray 0 (.int x) = some (.val (.int x) :: r).toArray := by rfl) : Go Z EL nw R Post K h S k n pc (x0 :: r) (.int x :: st) := G.istoreNG hd hl f
theorem Good.astore0 (G : Good Z a0 EL K own code maxL ret nm) {x0 : Slot} {r : List Slot} {x : Value} (hd : Dc code pc (.astore_n 0) 1 pc') (f : Go Z EL nw R Post K h S k n pc' (.val x :: r) st) (hv : x.isRef = true := by rfl) (hl : storeLocals (x0 :: r).toArray 0 x = some (.val x :: r).toArray := by rfl) : Go Z EL nw R Post K h S k n pc (x0 :: r) (x :: st) := G.astoreNG hd hv hl f
theorem Good.lstore0 (G : Good Z a0 EL K own code maxL ret nm) {x0 y : Slot} {r : List Slot} {x : Int64} (hd : Dc code pc (.lstore_n 0) 1 pc') (f : Go Z EL nw R Post K h S k n pc' (.val (.long x) :: .second :: r) st) (hl : storeLocals (x0 :: y :: r).toArray 0 (.long x) = some (.val (.long x) :: .second :: r).toArray := by rfl) : Go Z EL nw R Post K h S k n pc (x0 :: y :: r) (.long x :: st) := G.lstoreNG hd hl f
theorem Good.iinc0 (G : Good Z a0 EL K own code maxL ret nm) (z : Int32) {r : List Slot} {c : Int} {x : Int32} (hd : Dc code pc (.iinc 0 c) 3 pc') (f : Go Z EL nw R Post K h S k n pc' (.val (.int (x + z)) :: r) st) (hz : Int32.ofInt c = z := by decide) : Go Z EL nw R Post K h S k n pc (.val (.int x) :: r) st := by subst hz; exact G.iincG hd rfl rfl f
theorem Good.istore1 (G : Good Z a0 EL K own code maxL ret nm) {x0 x1 : Slot} {r : List Slot} {x : Int32} (hd : Dc code pc (.istore_n 1) 1 pc') (f : Go Z EL nw R Post K h S k n pc' (x0 :: .val (.int x) :: r) st) (hl : storeLocals (x0 :: x1 :: r).toArray 1 (.int x) = some (x0 :: .val (.int x) :: r).toArray := by rfl) : Go Z EL nw R Post K h S k n pc (x0 :: x1 :: r) (.int x :: st) := G.istoreNG hd hl f
theorem Good.astore1 (G : Good Z a0 EL K own code maxL ret nm) {x0 x1 : Slot} {r : List Slot} {x : Value} (hd : Dc code pc (.astore_n 1) 1 pc') (f : Go Z EL nw R Post K h S k n pc' (x0 :: .val x :: r) st) (hv : x.isRef = true := by rfl) (hl : storeLocals (x0 :: x1 :: r).toArray 1 x = some (x0 :: .val x :: r).toArray := by rfl) : Go Z EL nw R Post K h S k n pc (x0 :: x1 :: r) (x :: st) := G.astoreNG hd hv hl f
theorem Good.lstore1 (G : Good Z a0 EL K own code maxL ret nm) {x0 x1 y : Slot} {r : List Slot} {x : Int64} (hd : Dc code pc (.lstore_n 1) 1 pc') (f : Go Z EL nw R Post K h S k n pc' (x0 :: .val (.long x) :: .second :: r) st) (hl : storeLocals (x0 :: x1 :: y :: r).toArray 1 (.long x) = some (x0 :: .val (.long x) :: .second :: r).toArray := by rfl) : Go Z EL nw R Post K h S k n pc (x0 :: x1 :: y :: r) (.long x :: st) := G.lstoreNG hd hl f
theorem Good.iinc1 (G : Good Z a0 EL K own code maxL ret nm) (z : Int32) {x0 : Slot} {r : List Slot} {c : Int} {x : Int32} (hd : Dc code pc (.iinc 1 c) 3 pc') (f : Go Z EL nw R Post K h S k n pc' (x0 :: .val (.int (x + z)) :: r) st) (hz : Int32.ofInt c = z := by decide) : Go Z EL nw R Post K h S k n pc (x0 :: .val (.int x) :: r) st := by subst hz; exact G.iincG hd rfl rfl f
theorem Good.istore2 (G : Good Z a0 EL K own code maxL ret nm) {x0 x1 x2 : Slot} {r : List Slot} {x : Int32} (hd : Dc code pc (.istore_n 2) 1 pc') (f : Go Z EL nw R Post K h S k n pc' (x0 :: x1 :: .val (.int x) :: r) st) (hl : storeLocals (x0 :: x1 :: x2 :: r).toArray 2 (.int x) = some (x0 :: x1 :: .val (.int x) :: r).toArray := by rfl) : Go Z EL nw R Post K h S k n pc (x0 :: x1 :: x2 :: r) (.int x :: st) := G.istoreNG hd hl f
theorem Good.astore2 (G : Good Z a0 EL K own code maxL ret nm) {x0 x1 x2 : Slot} {r : List Slot} {x : Value} (hd : Dc code pc (.astore_n 2) 1 pc') (f : Go Z EL nw R Post K h S k n pc' (x0 :: x1 :: .val x :: r) st) (hv : x.isRef = true := by rfl) (hl : storeLocals (x0 :: x1 :: x2 :: r).toArray 2 x = some (x0 :: x1 :: .val x :: r).toArray := by rfl) : Go Z EL nw R Post K h S k n pc (x0 :: x1 :: x2 :: r) (x :: st) := G.astoreNG hd hv hl f
theorem Good.lstore2 (G : Good Z a0 EL K own code maxL ret nm) {x0 x1 x2 y : Slot} {r : List Slot} {x : Int64} (hd : Dc code pc (.lstore_n 2) 1 pc') (f : Go Z EL nw R Post K h S k n pc' (x0 :: x1 :: .val (.long x) :: .second :: r) st) (hl : storeLocals (x0 :: x1 :: x2 :: y :: r).toArray 2 (.long x) = some (x0 :: x1 :: .val (.long x) :: .second :: r).toArray := by rfl) : Go Z EL nw R Post K h S k n pc (x0 :: x1 :: x2 :: y :: r) (.long x :: st) := G.lstoreNG hd hl f
theorem Good.iinc2 (G : Good Z a0 EL K own code maxL ret nm) (z : Int32) {x0 x1 : Slot} {r : List Slot} {c : Int} {x : Int32} (hd : Dc code pc (.iinc 2 c) 3 pc') (f : Go Z EL nw R Post K h S k n pc' (x0 :: x1 :: .val (.int (x + z)) :: r) st) (hz : Int32.ofInt c = z := by decide) : Go Z EL nw R Post K h S k n pc (x0 :: x1 :: .val (.int x) :: r) st := by subst hz; exact G.iincG hd rfl rfl f
theorem Good.istore3 (G : Good Z a0 EL K own code maxL ret nm) {x0 x1 x2 x3 : Slot} {r : List Slot} {x : Int32} (hd : Dc code pc (.istore_n 3) 1 pc') (f : Go Z EL nw R Post K h S k n pc' (x0 :: x1 :: x2 :: .val (.int x) :: r) st) (hl : storeLocals (x0 :: x1 :: x2 :: x3 :: r).toArray 3 (.int x) = some (x0 :: x1 :: x2 :: .val (.int x) :: r).toArray := by rfl) : Go Z EL nw R Post K h S k n pc (x0 :: x1 :: x2 :: x3 :: r) (.int x :: st) := G.istoreNG hd hl f
theorem Good.astore3 (G : Good Z a0 EL K own code maxL ret nm) {x0 x1 x2 x3 : Slot} {r : List Slot} {x : Value} (hd : Dc code pc (.astore_n 3) 1 pc') (f : Go Z EL nw R Post K h S k n pc' (x0 :: x1 :: x2 :: .val x :: r) st) (hv : x.isRef = true := by rfl) (hl : storeLocals (x0 :: x1 :: x2 :: x3 :: r).toArray 3 x = some (x0 :: x1 :: x2 :: .val x :: r).toArray := by rfl) : Go Z EL nw R Post K h S k n pc (x0 :: x1 :: x2 :: x3 :: r) (x :: st) := G.astoreNG hd hv hl f
theorem Good.lstore3 (G : Good Z a0 EL K own code maxL ret nm) {x0 x1 x2 x3 y : Slot} {r : List Slot} {x : Int64} (hd : Dc code pc (.lstore_n 3) 1 pc') (f : Go Z EL nw R Post K h S k n pc' (x0 :: x1 :: x2 :: .val (.long x) :: .second :: r) st) (hl : storeLocals (x0 :: x1 :: x2 :: x3 :: y :: r).toArray 3 (.long x) = some (x0 :: x1 :: x2 :: .val (.long x) :: .second :: r).toArray := by rfl) : Go Z EL nw R Post K h S k n pc (x0 :: x1 :: x2 :: x3 :: y :: r) (.long x :: st) := G.lstoreNG hd hl f
theorem Good.iinc3 (G : Good Z a0 EL K own code maxL ret nm) (z : Int32) {x0 x1 x2 : Slot} {r : List Slot} {c : Int} {x : Int32} (hd : Dc code pc (.iinc 3 c) 3 pc') (f : Go Z EL nw R Post K h S k n pc' (x0 :: x1 :: x2 :: .val (.int (x + z)) :: r) st) (hz : Int32.ofInt c = z := by decide) : Go Z EL nw R Post K h S k n pc (x0 :: x1 :: x2 :: .val (.int x) :: r) st := by subst hz; exact G.iincG hd rfl rfl f
theorem Good.istore4 (G : Good Z a0 EL K own code maxL ret nm) {x0 x1 x2 x3 x4 : Slot} {r : List Slot} {x : Int32} (hd : Dc code pc (.istore 4) 2 pc') (f : Go Z EL nw R Post K h S k n pc' (x0 :: x1 :: x2 :: x3 :: .val (.int x) :: r) st) (hl : storeLocals (x0 :: x1 :: x2 :: x3 :: x4 :: r).toArray 4 (.int x) = some (x0 :: x1 :: x2 :: x3 :: .val (.int x) :: r).toArray := by rfl) : Go Z EL nw R Post K h S k n pc (x0 :: x1 :: x2 :: x3 :: x4 :: r) (.int x :: st) := G.istoreG hd hl f
theorem Good.astore4 (G : Good Z a0 EL K own code maxL ret nm) {x0 x1 x2 x3 x4 : Slot} {r : List Slot} {x : Value} (hd : Dc code pc (.astore 4) 2 pc') (f : Go Z EL nw R Post K h S k n pc' (x0 :: x1 :: x2 :: x3 :: .val x :: r) st) (hv : x.isRef = true := by rfl) (hl : storeLocals (x0 :: x1 :: x2 :: x3 :: x4 :: r).toArray 4 x = some (x0 :: x1 :: x2 :: x3 :: .val x :: r).toArray := by rfl) : Go Z EL nw R Post K h S k n pc (x0 :: x1 :: x2 :: x3 :: x4 :: r) (x :: st) := G.astoreG hd hv hl f
theorem Good.lstore4 (G : Good Z a0 EL K own code maxL ret nm) {x0 x1 x2 x3 x4 y : Slot} {r : List Slot} {x : Int64} (hd : Dc code pc (.lstore 4) 2 pc') (f : Go Z EL nw R Post K h S k n pc' (x0 :: x1 :: x2 :: x3 :: .val (.long x) :: .second :: r) st) (hl : storeLocals (x0 :: x1 :: x2 :: x3 :: x4 :: y :: r).toArray 4 (.long x) = some (x0 :: x1 :: x2 :: x3 :: .val (.long x) :: .second :: r).toArray := by rfl) : Go Z EL nw R Post K h S k n pc (x0 :: x1 :: x2 :: x3 :: x4 :: y :: r) (.long x :: st) := G.lstoreG hd hl f
theorem Good.iinc4 (G : Good Z a0 EL K own code maxL ret nm) (z : Int32) {x0 x1 x2 x3 : Slot} {r : List Slot} {c : Int} {x : Int32} (hd : Dc code pc (.iinc 4 c) 3 pc') (f : Go Z EL nw R Post K h S k n pc' (x0 :: x1 :: x2 :: x3 :: .val (.int (x + z)) :: r) st) (hz : Int32.ofInt c = z := by decide) : Go Z EL nw R Post K h S k n pc (x0 :: x1 :: x2 :: x3 :: .val (.int x) :: r) st := by subst hz; exact G.iincG hd rfl rfl f
theorem Good.istore5 (G : Good Z a0 EL K own code maxL ret nm) {x0 x1 x2 x3 x4 x5 : Slot} {r : List Slot} {x : Int32} (hd : Dc code pc (.istore 5) 2 pc') (f : Go Z EL nw R Post K h S k n pc' (x0 :: x1 :: x2 :: x3 :: x4 :: .val (.int x) :: r) st) (hl : storeLocals (x0 :: x1 :: x2 :: x3 :: x4 :: x5 :: r).toArray 5 (.int x) = some (x0 :: x1 :: x2 :: x3 :: x4 :: .val (.int x) :: r).toArray := by rfl) : Go Z EL nw R Post K h S k n pc (x0 :: x1 :: x2 :: x3 :: x4 :: x5 :: r) (.int x :: st) := G.istoreG hd hl f
theorem Good.astore5 (G : Good Z a0 EL K own code maxL ret nm) {x0 x1 x2 x3 x4 x5 : Slot} {r : List Slot} {x : Value} (hd : Dc code pc (.astore 5) 2 pc') (f : Go Z EL nw R Post K h S k n pc' (x0 :: x1 :: x2 :: x3 :: x4 :: .val x :: r) st) (hv : x.isRef = true := by rfl) (hl : storeLocals (x0 :: x1 :: x2 :: x3 :: x4 :: x5 :: r).toArray 5 x = some (x0 :: x1 :: x2 :: x3 :: x4 :: .val x :: r).toArray := by rfl) : Go Z EL nw R Post K h S k n pc (x0 :: x1 :: x2 :: x3 :: x4 :: x5 :: r) (x :: st) := G.astoreG hd hv hl f
theorem Good.lstore5 (G : Good Z a0 EL K own code maxL ret nm) {x0 x1 x2 x3 x4 x5 y : Slot} {r : List Slot} {x : Int64} (hd : Dc code pc (.lstore 5) 2 pc') (f : Go Z EL nw R Post K h S k n pc' (x0 :: x1 :: x2 :: x3 :: x4 :: .val (.long x) :: .second :: r) st) (hl : storeLocals (x0 :: x1 :: x2 :: x3 :: x4 :: x5 :: y :: r).toArray 5 (.long x) = some (x0 :: x1 :: x2 :: x3 :: x4 :: .val (.long x) :: .second :: r).toArray := by rfl) : Go Z EL nw R Post K h S k n pc (x0 :: x1 :: x2 :: x3 :: x4 :: x5 :: y :: r) (.long x :: st) := G.lstoreG hd hl f
theorem Good.iinc5 (G : Good Z a0 EL K own code maxL ret nm) (z : Int32) {x0 x1 x2 x3 x4 : Slot} {r : List Slot} {c : Int} {x : Int32} (hd : Dc code pc (.iinc 5 c) 3 pc') (f : Go Z EL nw R Post K h S k n pc' (x0 :: x1 :: x2 :: x3 :: x4 :: .val (.int (x + z)) :: r) st) (hz : Int32.ofInt c = z := by decide) : Go Z EL nw R Post K h S k n pc (x0 :: x1 :: x2 :: x3 :: x4 :: .val (.int x) :: r) st := by subst hz; exact G.iincG hd rfl rfl f
theorem Good.istore6 (G : Good Z a0 EL K own code maxL ret nm) {x0 x1 x2 x3 x4 x5 x6 : Slot} {r : List Slot} {x : Int32} (hd : Dc code pc (.istore 6) 2 pc') (f : Go Z EL nw R Post K h S k n pc' (x0 :: x1 :: x2 :: x3 :: x4 :: x5 :: .val (.int x) :: r) st) (hl : storeLocals (x0 :: x1 :: x2 :: x3 :: x4 :: x5 :: x6 :: r).toArray 6 (.int x) = some (x0 :: x1 :: x2 :: x3 :: x4 :: x5 :: .val (.int x) :: r).toArray := by rfl) : Go Z EL nw R Post K h S k n pc (x0 :: x1 :: x2 :: x3 :: x4 :: x5 :: x6 :: r) (.int x :: st) := G.istoreG hd hl f
theorem Good.astore6 (G : Good Z a0 EL K own code maxL ret nm) {x0 x1 x2 x3 x4 x5 x6 : Slot} {r : List Slot} {x : Value} (hd : Dc code pc (.astore 6) 2 pc') (f : Go Z EL nw R Post K h S k n pc' (x0 :: x1 :: x2 :: x3 :: x4 :: x5 :: .val x :: r) st) (hv : x.isRef = true := by rfl) (hl : storeLocals (x0 :: x1 :: x2 :: x3 :: x4 :: x5 :: x6 :: r).toArray 6 x = some (x0 :: x1 :: x2 :: x3 :: x4 :: x5 :: .val x :: r).toArray := by rfl) : Go Z EL nw R Post K h S k n pc (x0 :: x1 :: x2 :: x3 :: x4 :: x5 :: x6 :: r) (x :: st) := G.astoreG hd hv hl f
theorem Good.lstore6 (G : Good Z a0 EL K own code maxL ret nm) {x0 x1 x2 x3 x4 x5 x6 y : Slot} {r : List Slot} {x : Int64} (hd : Dc code pc (.lstore 6) 2 pc') (f : Go Z EL nw R Post K h S k n pc' (x0 :: x1 :: x2 :: x3 :: x4 :: x5 :: .val (.long x) :: .second :: r) st) (hl : storeLocals (x0 :: x1 :: x2 :: x3 :: x4 :: x5 :: x6 :: y :: r).toArray 6 (.long x) = some (x0 :: x1 :: x2 :: x3 :: x4 :: x5 :: .val (.long x) :: .second :: r).toArray := by rfl) : Go Z EL nw R Post K h S k n pc (x0 :: x1 :: x2 :: x3 :: x4 :: x5 :: x6 :: y :: r) (.long x :: st) := G.lstoreG hd hl f
theorem Good.iinc6 (G : Good Z a0 EL K own code maxL ret nm) (z : Int32) {x0 x1 x2 x3 x4 x5 : Slot} {r : List Slot} {c : Int} {x : Int32} (hd : Dc code pc (.iinc 6 c) 3 pc') (f : Go Z EL nw R Post K h S k n pc' (x0 :: x1 :: x2 :: x3 :: x4 :: x5 :: .val (.int (x + z)) :: r) st) (hz : Int32.ofInt c = z := by decide) : Go Z EL nw R Post K h S k n pc (x0 :: x1 :: x2 :: x3 :: x4 :: x5 :: .val (.int x) :: r) st := by subst hz; exact G.iincG hd rfl rfl f
theorem Good.istore7 (G : Good Z a0 EL K own code maxL ret nm) {x0 x1 x2 x3 x4 x5 x6 x7 : Slot} {r : List Slot} {x : Int32} (hd : Dc code pc (.istore 7) 2 pc') (f : Go Z EL nw R Post K h S k n pc' (x0 :: x1 :: x2 :: x3 :: x4 :: x5 :: x6 :: .val (.int x) :: r) st) (hl : storeLocals (x0 :: x1 :: x2 :: x3 :: x4 :: x5 :: x6 :: x7 :: r).toArray 7 (.int x) = some (x0 :: x1 :: x2 :: x3 :: x4 :: x5 :: x6 :: .val (.int x) :: r).toArray := by rfl) : Go Z EL nw R Post K h S k n pc (x0 :: x1 :: x2 :: x3 :: x4 :: x5 :: x6 :: x7 :: r) (.int x :: st) := G.istoreG hd hl f
theorem Good.astore7 (G : Good Z a0 EL K own code maxL ret nm) {x0 x1 x2 x3 x4 x5 x6 x7 : Slot} {r : List Slot} {x : Value} (hd : Dc code pc (.astore 7) 2 pc') (f : Go Z EL nw R Post K h S k n pc' (x0 :: x1 :: x2 :: x3 :: x4 :: x5 :: x6 :: .val x :: r) st) (hv : x.isRef = true := by rfl) (hl : storeLocals (x0 :: x1 :: x2 :: x3 :: x4 :: x5 :: x6 :: x7 :: r).toArray 7 x = some (x0 :: x1 :: x2 :: x3 :: x4 :: x5 :: x6 :: .val x :: r).toArray := by rfl) : Go Z EL nw R Post K h S k n pc (x0 :: x1 :: x2 :: x3 :: x4 :: x5 :: x6 :: x7 :: r) (x :: st) := G.astoreG hd hv hl f
theorem Good.lstore7 (G : Good Z a0 EL K own code maxL ret nm) {x0 x1 x2 x3 x4 x5 x6 x7 y : Slot} {r : List Slot} {x : Int64} (hd : Dc code pc (.lstore 7) 2 pc') (f : Go Z EL nw R Post K h S k n pc' (x0 :: x1 :: x2 :: x3 :: x4 :: x5 :: x6 :: .val (.long x) :: .second :: r) st) (hl : storeLocals (x0 :: x1 :: x2 :: x3 :: x4 :: x5 :: x6 :: x7 :: y :: r).toArray 7 (.long x) = some (x0 :: x1 :: x2 :: x3 :: x4 :: x5 :: x6 :: .val (.long x) :: .second :: r).toArray := by rfl) : Go Z EL nw R Post K h S k n pc (x0 :: x1 :: x2 :: x3 :: x4 :: x5 :: x6 :: x7 :: y :: r) (.long x :: st) := G.lstoreG hd hl f
theorem Good.iinc7 (G : Good Z a0 EL K own code maxL ret nm) (z : Int32) {x0 x1 x2 x3 x4 x5 x6 : Slot} {r : List Slot} {c : Int} {x : Int32} (hd : Dc code pc (.iinc 7 c) 3 pc') (f : Go Z EL nw R Post K h S k n pc' (x0 :: x1 :: x2 :: x3 :: x4 :: x5 :: x6 :: .val (.int (x + z)) :: r) st) (hz : Int32.ofInt c = z := by decide) : Go Z EL nw R Post K h S k n pc (x0 :: x1 :: x2 :: x3 :: x4 :: x5 :: x6 :: .val (.int x) :: r) st := by subst hz; exact G.iincG hd rfl rfl f
theorem Good.istore8 (G : Good Z a0 EL K own code maxL ret nm) {x0 x1 x2 x3 x4 x5 x6 x7 x8 : Slot} {r : List Slot} {x : Int32} (hd : Dc code pc (.istore 8) 2 pc') (f : Go Z EL nw R Post K h S k n pc' (x0 :: x1 :: x2 :: x3 :: x4 :: x5 :: x6 :: x7 :: .val (.int x) :: r) st) (hl : storeLocals (x0 :: x1 :: x2 :: x3 :: x4 :: x5 :: x6 :: x7 :: x8 :: r).toArray 8 (.int x) = some (x0 :: x1 :: x2 :: x3 :: x4 :: x5 :: x6 :: x7 :: .val (.int x) :: r).toArray := by rfl) : Go Z EL nw R Post K h S k n pc (x0 :: x1 :: x2 :: x3 :: x4 :: x5 :: x6 :: x7 :: x8 :: r) (.int x :: st) := G.istoreG hd hl f
theorem Good.astore8 (G : Good Z a0 EL K own code maxL ret nm) {x0 x1 x2 x3 x4 x5 x6 x7 x8 : Slot} {r : List Slot} {x : Value} (hd : Dc code pc (.astore 8) 2 pc') (f : Go Z EL nw R Post K h S k n pc' (x0 :: x1 :: x2 :: x3 :: x4 :: x5 :: x6 :: x7 :: .val x :: r) st) (hv : x.isRef = true := by rfl) (hl : storeLocals (x0 :: x1 :: x2 :: x3 :: x4 :: x5 :: x6 :: x7 :: x8 :: r).toArray 8 x = some (x0 :: x1 :: x2 :: x3 :: x4 :: x5 :: x6 :: x7 :: .val x :: r).toArray := by rfl) : Go Z EL nw R Post K h S k n pc (x0 :: x1 :: x2 :: x3 :: x4 :: x5 :: x6 :: x7 :: x8 :: r) (x :: st) := G.astoreG hd hv hl f
theorem Good.lstore8 (G : Good Z a0 EL K own code maxL ret nm) {x0 x1 x2 x3 x4 x5 x6 x7 x8 y : Slot} {r : List Slot} {x : Int64} (hd : Dc code pc (.lstore 8) 2 pc') (f : Go Z EL nw R Post K h S k n pc' (x0 :: x1 :: x2 :: x3 :: x4 :: x5 :: x6 :: x7 :: .val (.long x) :: .second :: r) st) (hl : storeLocals (x0 :: x1 :: x2 :: x3 :: x4 :: x5 :: x6 :: x7 :: x8 :: y :: r).toArray 8 (.long x) = some (x0 :: x1 :: x2 :: x3 :: x4 :: x5 :: x6 :: x7 :: .val (.long x) :: .second :: r).toArray := by rfl) : Go Z EL nw R Post K h S k n pc (x0 :: x1 :: x2 :: x3 :: x4 :: x5 :: x6 :: x7 :: x8 :: y :: r) (.long x :: st) := G.lstoreG hd hl f
theorem Good.iinc8 (G : Good Z a0 EL K own code maxL ret nm) (z : Int32) {x0 x1 x2 x3 x4 x5 x6 x7 : Slot} {r : List Slot} {c : Int} {x : Int32} (hd : Dc code pc (.iinc 8 c) 3 pc') (f : Go Z EL nw R Post K h S k n pc' (x0 :: x1 :: x2 :: x3 :: x4 :: x5 :: x6 :: x7 :: .val (.int (x + z)) :: r) st) (hz : Int32.ofInt c = z := by decide) : Go Z EL nw R Post K h S k n pc (x0 :: x1 :: x2 :: x3 :: x4 :: x5 :: x6 :: x7 :: .val (.int x) :: r) st := by subst hz; exact G.iincG hd rfl rfl f
theorem Good.istore9 (G : Good Z a0 EL K own code maxL ret nm) {x0 x1 x2 x3 x4 x5 x6 x7 x8 x9 : Slot} {r : List Slot} {x : Int32} (hd : Dc code pc (.istore 9) 2 pc') (f : Go Z EL nw R Post K h S k n pc' (x0 :: x1 :: x2 :: x3 :: x4 :: x5 :: x6 :: x7 :: x8 :: .val (.int x) :: r) st) (hl : storeLocals (x0 :: x1 :: x2 :: x3 :: x4 :: x5 :: x6 :: x7 :: x8 :: x9 :: r).toArray 9 (.int x) = some (x0 :: x1 :: x2 :: x3 :: x4 :: x5 :: x6 :: x7 :: x8 :: .val (.int x) :: r).toArray := by rfl) : Go Z EL nw R Post K h S k n pc (x0 :: x1 :: x2 :: x3 :: x4 :: x5 :: x6 :: x7 :: x8 :: x9 :: r) (.int x :: st) := G.istoreG hd hl f
theorem Good.astore9 (G : Good Z a0 EL K own code maxL ret nm) {x0 x1 x2 x3 x4 x5 x6 x7 x8 x9 : Slot} {r : List Slot} {x : Value} (hd : Dc code pc (.astore 9) 2 pc') (f : Go Z EL nw R Post K h S k n pc' (x0 :: x1 :: x2 :: x3 :: x4 :: x5 :: x6 :: x7 :: x8 :: .val x :: r) st) (hv : x.isRef = true := by rfl) (hl : storeLocals (x0 :: x1 :: x2 :: x3 :: x4 :: x5 :: x6 :: x7 :: x8 :: x9 :: r).toArray 9 x = some (x0 :: x1 :: x2 :: x3 :: x4 :: x5 :: x6 :: x7 :: x8 :: .val x :: r).toArray := by rfl) : Go Z EL nw R Post K h S k n pc (x0 :: x1 :: x2 :: x3 :: x4 :: x5 :: x6 :: x7 :: x8 :: x9 :: r) (x :: st) := G.astoreG hd hv hl f
theorem Good.lstore9 (G : Good Z a0 EL K own code maxL ret nm) {x0 x1 x2 x3 x4 x5 x6 x7 x8 x9 y : Slot} {r : List Slot} {x : Int64} (hd : Dc code pc (.lstore 9) 2 pc') (f : Go Z EL nw R Post K h S k n pc' (x0 :: x1 :: x2 :: x3 :: x4 :: x5 :: x6 :: x7 :: x8 :: .val (.long x) :: .second :: r) st) (hl : storeLocals (x0 :: x1 :: x2 :: x3 :: x4 :: x5 :: x6 :: x7 :: x8 :: x9 :: y :: r).toArray 9 (.long x) = some (x0 :: x1 :: x2 :: x3 :: x4 :: x5 :: x6 :: x7 :: x8 :: .val (.long x) :: .second :: r).toArray := by rfl) : Go Z EL nw R Post K h S k n pc (x0 :: x1 :: x2 :: x3 :: x4 :: x5 :: x6 :: x7 :: x8 :: x9 :: y :: r) (.long x :: st) := G.lstoreG hd hl f
theorem Good.iinc9 (G : Good Z a0 EL K own code maxL ret nm) (z : Int32) {x0 x1 x2 x3 x4 x5 x6 x7 x8 : Slot} {r : List Slot} {c : Int} {x : Int32} (hd : Dc code pc (.iinc 9 c) 3 pc') (f : Go Z EL nw R Post K h S k n pc' (x0 :: x1 :: x2 :: x3 :: x4 :: x5 :: x6 :: x7 :: x8 :: .val (.int (x + z)) :: r) st) (hz : Int32.ofInt c = z := by decide) : Go Z EL nw R Post K h S k n pc (x0 :: x1 :: x2 :: x3 :: x4 :: x5 :: x6 :: x7 :: x8 :: .val (.int x) :: r) st := by subst hz; exact G.iincG hd rfl rfl f
theorem Good.istore10 (G : Good Z a0 EL K own code maxL ret nm) {x0 x1 x2 x3 x4 x5 x6 x7 x8 x9 x10 : Slot} {r : List Slot} {x : Int32} (hd : Dc code pc (.istore 10) 2 pc') (f : Go Z EL nw R Post K h S k n pc' (x0 :: x1 :: x2 :: x3 :: x4 :: x5 :: x6 :: x7 :: x8 :: x9 :: .val (.int x) :: r) st) (hl : storeLocals (x0 :: x1 :: x2 :: x3 :: x4 :: x5 :: x6 :: x7 :: x8 :: x9 :: x10 :: r).toArray 10 (.int x) = some (x0 :: x1 :: x2 :: x3 :: x4 :: x5 :: x6 :: x7 :: x8 :: x9 :: .val (.int x) :: r).toArray := by rfl) : Go Z EL nw R Post K h S k n pc (x0 :: x1 :: x2 :: x3 :: x4 :: x5 :: x6 :: x7 :: x8 :: x9 :: x10 :: r) (.int x :: st) := G.istoreG hd hl f
theorem Good.astore10 (G : Good Z a0 EL K own code maxL ret nm) {x0 x1 x2 x3 x4 x5 x6 x7 x8 x9 x10 : Slot} {r : List Slot} {x : Value} (hd : Dc code pc (.astore 10) 2 pc') (f : Go Z EL nw R Post K h S k n pc' (x0 :: x1 :: x2 :: x3 :: x4 :: x5 :: x6 :: x7 :: x8 :: x9 :: .val x :: r) st) (hv : x.isRef = true := by rfl) (hl : storeLocals (x0 :: x1 :: x2 :: x3 :: x4 :: x5 :: x6 :: x7 :: x8 :: x9 :: x10 :: r).toArray 10 x = some (x0 :: x1 :: x2 :: x3 :: x4 :: x5 :: x6 :: x7 :: x8 :: x9 :: .val x :: r).toArray := by rfl) : Go Z EL nw R Post K h S k n pc (x0 :: x1 :: x2 :: x3 :: x4 :: x5 :: x6 :: x7 :: x8 :: x9 :: x10 :: r) (x :: st) := G.astoreG hd hv hl f
theorem Good.lstore10 (G : Good Z a0 EL K own code maxL ret nm) {x0 x1 x2 x3 x4 x5 x6 x7 x8 x9 x10 y : Slot} {r : List Slot} {x : Int64} (hd : Dc code pc (.lstore 10) 2 pc') (f : Go Z EL nw R Post K h S k n pc' (x0 :: x1 :: x2 :: x3 :: x4 :: x5 :: x6 :: x7 :: x8 :: x9 :: .val (.long x) :: .second :: r) st) (hl : storeLocals (x0 :: x1 :: x2 :: x3 :: x4 :: x5 :: x6 :: x7 :: x8 :: x9 :: x10 :: y :: r).toArray 10 (.long x) = some (x0 :: x1 :: x2 :: x3 :: x4 :: x5 :: x6 :: x7 :: x8 :: x9 :: .val (.long x) :: .second :: r).toArray := by rfl) : Go Z EL nw R Post K h S k n pc (x0 :: x1 :: x2 :: x3 :: x4 :: x5 :: x6 :: x7 :: x8 :: x9 :: x10 :: y :: r) (.long x :: st) := G.lstoreG hd hl f
theorem Good.iinc10 (G : Good Z a0 EL K own code maxL ret nm) (z : Int32) {x0 x1 x2 x3 x4 x5 x6 x7 x8 x9 : Slot} {r : List Slot} {c : Int} {x : Int32} (hd : Dc code pc (.iinc 10 c) 3 pc') (f : Go Z EL nw R Post K h S k n pc' (x0 :: x1 :: x2 :: x3 :: x4 :: x5 :: x6 :: x7 :: x8 :: x9 :: .val (.int (x + z)) :: r) st) (hz : Int32.ofInt c = z := by decide) : Go Z EL nw R Post K h S k n pc (x0 :: x1 :: x2 :: x3 :: x4 :: x5 :: x6 :: x7 :: x8 :: x9 :: .val (.int x) :: r) st := by subst hz; exact G.iincG hd rfl rfl f
theorem Good.istore11 (G : Good Z a0 EL K own code maxL ret nm) {x0 x1 x2 x3 x4 x5 x6 x7 x8 x9 x10 x11 : Slot} {r : List Slot} {x : Int32} (hd : Dc code pc (.istore 11) 2 pc') (f : Go Z EL nw R Post K h S k n pc' (x0 :: x1 :: x2 :: x3 :: x4 :: x5 :: x6 :: x7 :: x8 :: x9 :: x10 :: .val (.int x) :: r) st) (hl : storeLocals (x0 :: x1 :: x2 :: x3 :: x4 :: x5 :: x6 :: x7 :: x8 :: x9 :: x10 :: x11 :: r).toArray 11 (.int x) = some (x0 :: x1 :: x2 :: x3 :: x4 :: x5 :: x6 :: x7 :: x8 :: x9 :: x10 :: .val (.int x) :: r).toArray := by rfl) : Go Z EL nw R Post K h S k n pc (x0 :: x1 :: x2 :: x3 :: x4 :: x5 :: x6 :: x7 :: x8 :: x9 :: x10 :: x11 :: r) (.int x :: st) := G.istoreG hd hl f
theorem Good.astore11 (G : Good Z a0 EL K own code maxL ret nm) {x0 x1 x2 x3 x4 x5 x6 x7 x8 x9 x10 x11 : Slot} {r : List Slot} {x : Value} (hd : Dc code pc (.astore 11) 2 pc') (f : Go Z EL nw R Post K h S k n pc' (x0 :: x1 :: x2 :: x3 :: x4 :: x5 :: x6 :: x7 :: x8 :: x9 :: x10 :: .val x :: r) st) (hv : x.isRef = true := by rfl) (hl : storeLocals (x0 :: x1 :: x2 :: x3 :: x4 :: x5 :: x6 :: x7 :: x8 :: x9 :: x10 :: x11 :: r).toArray 11 x = some (x0 :: x1 :: x2 :: x3 :: x4 :: x5 :: x6 :: x7 :: x8 :: x9 :: x10 :: .val x :: r).toArray := by rfl) : Go Z EL nw R Post K h S k n pc (x0 :: x1 :: x2 :: x3 :: x4 :: x5 :: x6 :: x7 :: x8 :: x9 :: x10 :: x11 :: r) (x :: st) := G.astoreG hd hv hl f
theorem Good.lstore11 (G : Good Z a0 EL K own code maxL ret nm) {x0 x1 x2 x3 x4 x5 x6 x7 x8 x9 x10 x11 y : Slot} {r : List Slot} {x : Int64} (hd : Dc code pc (.lstore 11) 2 pc') (f : Go Z EL nw R Post K h S k n pc' (x0 :: x1 :: x2 :: x3 :: x4 :: x5 :: x6 :: x7 :: x8 :: x9 :: x10 :: .val (.long x) :: .second :: r) st) (hl : storeLocals (x0 :: x1 :: x2 :: x3 :: x4 :: x5 :: x6 :: x7 :: x8 :: x9 :: x10 :: x11 :: y :: r).toArray 11 (.long x) = some (x0 :: x1 :: x2 :: x3 :: x4 :: x5 :: x6 :: x7 :: x8 :: x9 :: x10 :: .val (.long x) :: .second :: r).toArray := by rfl) : Go Z EL nw R Post K h S k n pc (x0 :: x1 :: x2 :: x3 :: x4 :: x5 :: x6 :: x7 :: x8 :: x9 :: x10 :: x11 :: y :: r) (.long x :: st) := G.lstoreG hd hl f
theorem Good.iinc11 (G : Good Z a0 EL K own code maxL ret nm) (z : Int32) {x0 x1 x2 x3 x4 x5 x6 x7 x8 x9 x10 : Slot} {r : List Slot} {c : Int} {x : Int32} (hd : Dc code pc (.iinc 11 c) 3 pc') (f : Go Z EL nw R Post K h S k n pc' (x0 :: x1 :: x2 :: x3 :: x4 :: x5 :: x6 :: x7 :: x8 :: x9 :: x10 :: .val (.int (x + z)) :: r) st) (hz : Int32.ofInt c = z := by decide) : Go Z EL nw R Post K h S k n pc (x0 :: x1 :: x2 :: x3 :: x4 :: x5 :: x6 :: x7 :: x8 :: x9 :: x10 :: .val (.int x) :: r) st := by subst hz; exact G.iincG hd rfl rfl f
theorem Good.istore12 (G : Good Z a0 EL K own code maxL ret nm) {x0 x1 x2 x3 x4 x5 x6 x7 x8 x9 x10 x11 x12 : Slot} {r : List Slot} {x : Int32} (hd : Dc code pc (.istore 12) 2 pc') (f : Go Z EL nw R Post K h S k n pc' (x0 :: x1 :: x2 :: x3 :: x4 :: x5 :: x6 :: x7 :: x8 :: x9 :: x10 :: x11 :: .val (.int x) :: r) st) (hl : storeLocals (x0 :: x1 :: x2 :: x3 :: x4 :: x5 :: x6 :: x7 :: x8 :: x9 :: x10 :: x11 :: x12 :: r).toArray 12 (.int x) = some (x0 :: x1 :: x2 :: x3 :: x4 :: x5 :: x6 :: x7 :: x8 :: x9 :: x10 :: x11 :: .val (.int x) :: r).toArray := by rfl) : Go Z EL nw R Post K h S k n pc (x0 :: x1 :: x2 :: x3 :: x4 :: x5 :: x6 :: x7 :: x8 :: x9 :: x10 :: x11 :: x12 :: r) (.int x :: st) := G.istoreG hd hl f
theorem Good.astore12 (G : Good Z a0 EL K own code maxL ret nm) {x0 x1 x2 x3 x4 x5 x6 x7 x8 x9 x10 x11 x12 : Slot} {r : List Slot} {x : Value} (hd : Dc code pc (.astore 12) 2 pc') (f : Go Z EL nw R Post K h S k n pc' (x0 :: x1 :: x2 :: x3 :: x4 :: x5 :: x6 :: x7 :: x8 :: x9 :: x10 :: x11 :: .val x :: r) st) (hv : x.isRef = true := by rfl) (hl : storeLocals (x0 :: x1 :: x2 :: x3 :: x4 :: x5 :: x6 :: x7 :: x8 :: x9 :: x10 :: x11 :: x12 :: r).toArray 12 x = some (x0 :: x1 :: x2 :: x3 :: x4 :: x5 :: x6 :: x7 :: x8 :: x9 :: x10 :: x11 :: .val x :: r).toArray := by rfl) : Go Z EL nw R Post K h S k n pc (x0 :: x1 :: x2 :: x3 :: x4 :: x5 :: x6 :: x7 :: x8 :: x9 :: x10 :: x11 :: x12 :: r) (x :: st) := G.astoreG hd hv hl f
theorem Good.lstore12 (G : Good Z a0 EL K own code maxL ret nm) {x0 x1 x2 x3 x4 x5 x6 x7 x8 x9 x10 x11 x12 y : Slot} {r : List Slot} {x : Int64} (hd : Dc code pc (.lstore 12) 2 pc') (f : Go Z EL nw R Post K h S k n pc' (x0 :: x1 :: x2 :: x3 :: x4 :: x5 :: x6 :: x7 :: x8 :: x9 :: x10 :: x11 :: .val (.long x) :: .second :: r) st) (hl : storeLocals (x0 :: x1 :: x2 :: x3 :: x4 :: x5 :: x6 :: x7 :: x8 :: x9 :: x10 :: x11 :: x12 :: y :: r).toArray 12 (.long x) = some (x0 :: x1 :: x2 :: x3 :: x4 :: x5 :: x6 :: x7 :: x8 :: x9 :: x10 :: x11 :: .val (.long x) :: .second :: r).toArray := by rfl) : Go Z EL nw R Post K h S k n pc (x0 :: x1 :: x2 :: x3 :: x4 :: x5 :: x6 :: x7 :: x8 :: x9 :: x10 :: x11 :: x12 :: y :: r) (.long x :: st) := G.lstoreG hd hl f
theorem Good.iinc12 (G : Good Z a0 EL K own code maxL ret nm) (z : Int32) {x0 x1 x2 x3 x4 x5 x6 x7 x8 x9 x10 x11 : Slot} {r : List Slot} {c : Int} {x : Int32} (hd : Dc code pc (.iinc 12 c) 3 pc') (f : Go Z EL nw R Post K h S k n pc' (x0 :: x1 :: x2 :: x3 :: x4 :: x5 :: x6 :: x7 :: x8 :: x9 :: x10 :: x11 :: .val (.int (x + z)) :: r) st) (hz : Int32.ofInt c = z := by decide) : Go Z EL nw R Post K h S k n pc (x0 :: x1 :: x2 :: x3 :: x4 :: x5 :: x6 :: x7 :: x8 :: x9 :: x10 :: x11 :: .val (.int x) :: r) st := by subst hz; exact G.iincG hd rfl rfl f
theorem Good.istore13 (G : Good Z a0 EL K own code maxL ret nm) {x0 x1 x2 x3 x4 x5 x6 x7 x8 x9 x10 x11 x12 x13 : Slot} {r : List Slot} {x : Int32} (hd : Dc code pc (.istore 13) 2 pc') (f : Go Z EL nw R Post K h S k n pc' (x0 :: x1 :: x2 :: x3 :: x4 :: x5 :: x6 :: x7 :: x8 :: x9 :: x10 :: x11 :: x12 :: .val (.int x) :: r) st) (hl : storeLocals (x0 :: x1 :: x2 :: x3 :: x4 :: x5 :: x6 :: x7 :: x8 :: x9 :: x10 :: x11 :: x12 :: x13 :: r).toArray 13 (.int x) = some (x0 :: x1 :: x2 :: x3 :: x4 :: x5 :: x6 :: x7 :: x8 :: x9 :: x10 :: x11 :: x12 :: .val (.int x) :: r).toArray := by rfl) : Go Z EL nw R Post K h S k n pc (x0 :: x1 :: x2 :: x3 :: x4 :: x5 :: x6 :: x7 :: x8 :: x9 :: x10 :: x11 :: x12 :: x13 :: r) (.int x :: st) := G.istoreG hd hl f
theorem Good.astore13 (G : Good Z a0 EL K own code maxL ret nm) {x0 x1 x2 x3 x4 x5 x6 x7 x8 x9 x10 x11 x12 x13 : Slot} {r : List Slot} {x : Value} (hd : Dc code pc (.astore 13) 2 pc') (f : Go Z EL nw R Post K h S k n pc' (x0 :: x1 :: x2 :: x3 :: x4 :: x5 :: x6 :: x7 :: x8 :: x9 :: x10 :: x11 :: x12 :: .val x :: r) st) (hv : x.isRef = true := by rfl) (hl : storeLocals (x0 :: x1 :: x2 :: x3 :: x4 :: x5 :: x6 :: x7 :: x8 :: x9 :: x10 :: x11 :: x12 :: x13 :: r).toArray 13 x = some (x0 :: x1 :: x2 :: x3 :: x4 :: x5 :: x6 :: x7 :: x8 :: x9 :: x10 :: x11 :: x12 :: .val x :: r).toArray := by rfl) : Go Z EL nw R Post K h S k n pc (x0 :: x1 :: x2 :: x3 :: x4 :: x5 :: x6 :: x7 :: x8 :: x9 :: x10 :: x11 :: x12 :: x13 :: r) (x :: st) := G.astoreG hd hv hl f
theorem Good.lstore13 (G : Good Z a0 EL K own code maxL ret nm) {x0 x1 x2 x3 x4 x5 x6 x7 x8 x9 x10 x11 x12 x13 y : Slot} {r : List Slot} {x : Int64} (hd : Dc code pc (.lstore 13) 2 pc') (f : Go Z EL nw R Post K h S k n pc' (x0 :: x1 :: x2 :: x3 :: x4 :: x5 :: x6 :: x7 :: x8 :: x9 :: x10 :: x11 :: x12 :: .val (.long x) :: .second :: r) st) (hl : storeLocals (x0 :: x1 :: x2 :: x3 :: x4 :: x5 :: x6 :: x7 :: x8 :: x9 :: x10 :: x11 :: x12 :: x13 :: y :: r).toArray 13 (.long x) = some (x0 :: x1 :: x2 :: x3 :: x4 :: x5 :: x6 :: x7 :: x8 :: x9 :: x10 :: x11 :: x12 :: .val (.long x) :: .second :: r).toArray := by rfl) : Go Z EL nw R Post K h S k n pc (x0 :: x1 :: x2 :: x3 :: x4 :: x5 :: x6 :: x7 :: x8 :: x9 :: x10 :: x11 :: x12 :: x13 :: y :: r) (.long x :: st) := G.lstoreG hd hl f
theorem Good.iinc13 (G : Good Z a0 EL K own code maxL ret nm) (z : Int32) {x0 x1 x2 x3 x4 x5 x6 x7 x8 x9 x10 x11 x12 : Slot} {r : List Slot} {c : Int} {x : Int32} (hd : Dc code pc (.iinc 13 c) 3 pc') (f : Go Z EL nw R Post K h S k n pc' (x0 :: x1 :: x2 :: x3 :: x4 :: x5 :: x6 :: x7 :: x8 :: x9 :: x10 :: x11 :: x12 :: .val (.int (x + z)) :: r) st) (hz : Int32.ofInt c = z := by decide) : Go Z EL nw R Post K h S k n pc (x0 :: x1 :: x2 :: x3 :: x4 :: x5 :: x6 :: x7 :: x8 :: x9 :: x10 :: x11 :: x12 :: .val (.int x) :: r) st := by subst hz; exact G.iincG hd rfl rfl f
theorem Good.istore14 (G : Good Z a0 EL K own code maxL ret nm) {x0 x1 x2 x3 x4 x5 x6 x7 x8 x9 x10 x11 x12 x13 x14 : Slot} {r : List Slot} {x : Int32} (hd : Dc code pc (.istore 14) 2 pc') (f : Go Z EL nw R Post K h S k n pc' (x0 :: x1 :: x2 :: x3 :: x4 :: x5 :: x6 :: x7 :: x8 :: x9 :: x10 :: x11 :: x12 :: x13 :: .val (.int x) :: r) st) (hl : storeLocals (x0 :: x1 :: x2 :: x3 :: x4 :: x5 :: x6 :: x7 :: x8 :: x9 :: x10 :: x11 :: x12 :: x13 :: x14 :: r).toArray 14 (.int x) = some (x0 :: x1 :: x2 :: x3 :: x4 :: x5 :: x6 :: x7 :: x8 :: x9 :: x10 :: x11 :: x12 :: x13 :: .val (.int x) :: r).toArray := by rfl) : Go Z EL nw R Post K h S k n pc (x0 :: x1 :: x2 :: x3 :: x4 :: x5 :: x6 :: x7 :: x8 :: x9 :: x10 :: x11 :: x12 :: x13 :: x14 :: r) (.int x :: st) := G.istoreG hd hl f
theorem Good.astore14 (G : Good Z a0 EL K own code maxL ret nm) {x0 x1 x2 x3 x4 x5 x6 x7 x8 x9 x10 x11 x12 x13 x14 : Slot} {r : List Slot} {x : Value} (hd : Dc code pc (.astore 14) 2 pc') (f : Go Z EL nw R Post K h S k n pc' (x0 :: x1 :: x2 :: x3 :: x4 :: x5 :: x6 :: x7 :: x8 :: x9 :: x10 :: x11 :: x12 :: x13 :: .val x :: r) st) (hv : x.isRef = true := by rfl) (hl : storeLocals (x0 :: x1 :: x2 :: x3 :: x4 :: x5 :: x6 :: x7 :: x8 :: x9 :: x10 :: x11 :: x12 :: x13 :: x14 :: r).toArray 14 x = some (x0 :: x1 :: x2 :: x3 :: x4 :: x5 :: x6 :: x7 :: x8 :: x9 :: x10 :: x11 :: x12 :: x13 :: .val x :: r).toArray := by rfl) : Go Z EL nw R Post K h S k n pc (x0 :: x1 :: x2 :: x3 :: x4 :: x5 :: x6 :: x7 :: x8 :: x9 :: x10 :: x11 :: x12 :: x13 :: x14 :: r) (x :: st) := G.astoreG hd hv hl f
theorem Good.lstore14 (G : Good Z a0 EL K own code maxL ret nm) {x0 x1 x2 x3 x4 x5 x6 x7 x8 x9 x10 x11 x12 x13 x14 y : Slot} {r : List Slot} {x : Int64} (hd : Dc code pc (.lstore 14) 2 pc') (f : Go Z EL nw R Post K h S k n pc' (x0 :: x1 :: x2 :: x3 :: x4 :: x5 :: x6 :: x7 :: x8 :: x9 :: x10 :: x11 :: x12 :: x13 :: .val (.long x) :: .second :: r) st) (hl : storeLocals (x0 :: x1 :: x2 :: x3 :: x4 :: x5 :: x6 :: x7 :: x8 :: x9 :: x10 :: x11 :: x12 :: x13 :: x14 :: y :: r).toArray 14 (.long x) = some (x0 :: x1 :: x2 :: x3 :: x4 :: x5 :: x6 :: x7 :: x8 :: x9 :: x10 :: x11 :: x12 :: x13 :: .val (.long x) :: .second :: r).toArray := by rfl) : Go Z EL nw R Post K h S k n pc (x0 :: x1 :: x2 :: x3 :: x4 :: x5 :: x6 :: x7 :: x8 :: x9 :: x10 :: x11 :: x12 :: x13 :: x14 :: y :: r) (.long x :: st) := G.lstoreG hd hl f
theorem Good.iinc14 (G : Good Z a0 EL K own code maxL ret nm) (z : Int32) {x0 x1 x2 x3 x4 x5 x6 x7 x8 x9 x10 x11 x12 x13 : Slot} {r : List Slot} {c : Int} {x : Int32} (hd : Dc code pc (.iinc 14 c) 3 pc') (f : Go Z EL nw R Post K h S k n pc' (x0 :: x1 :: x2 :: x3 :: x4 :: x5 :: x6 :: x7 :: x8 :: x9 :: x10 :: x11 :: x12 :: x13 :: .val (.int (x + z)) :: r) st) (hz : Int32.ofInt c = z := by decide) : Go Z EL nw R Post K h S k n pc (x0 :: x1 :: x2 :: x3 :: x4 :: x5 :: x6 :: x7 :: x8 :: x9 :: x10 :: x11 :: x12 :: x13 :: .val (.int x) :: r) st := by subst hz; exact G.iincG hd rfl rfl f
theorem Good.istore15 (G : Good Z a0 EL K own code maxL ret nm) {x0 x1 x2 x3 x4 x5 x6 x7 x8 x9 x10 x11 x12 x13 x14 x15 : Slot} {r : List Slot} {x : Int32} (hd : Dc code pc (.istore 15) 2 pc') (f : Go Z EL nw R Post K h S k n pc' (x0 :: x1 :: x2 :: x3 :: x4 :: x5 :: x6 :: x7 :: x8 :: x9 :: x10 :: x11 :: x12 :: x13 :: x14 :: .val (.int x) :: r) st) (hl : storeLocals (x0 :: x1 :: x2 :: x3 :: x4 :: x5 :: x6 :: x7 :: x8 :: x9 :: x10 :: x11 :: x12 :: x13 :: x14 :: x15 :: r).toArray 15 (.int x) = some (x0 :: x1 :: x2 :: x3 :: x4 :: x5 :: x6 :: x7 :: x8 :: x9 :: x10 :: x11 :: x12 :: x13 :: x14 :: .val (.int x) :: r).toArray := by rfl) : Go Z EL nw R Post K h S k n pc (x0 :: x1 :: x2 :: x3 :: x4 :: x5 :: x6 :: x7 :: x8 :: x9 :: x10 :: x11 :: x12 :: x13 :: x14 :: x15 :: r) (.int x :: st) := G.istoreG hd hl f
theorem Good.astore15 (G : Good Z a0 EL K own code maxL ret nm) {x0 x1 x2 x3 x4 x5 x6 x7 x8 x9 x10 x11 x12 x13 x14 x15 : Slot} {r : List Slot} {x : Value} (hd : Dc code pc (.astore 15) 2 pc') (f : Go Z EL nw R Post K h S k n pc' (x0 :: x1 :: x2 :: x3 :: x4 :: x5 :: x6 :: x7 :: x8 :: x9 :: x10 :: x11 :: x12 :: x13 :: x14 :: .val x :: r) st) (hv : x.isRef = true := by rfl) (hl : storeLocals (x0 :: x1 :: x2 :: x3 :: x4 :: x5 :: x6 :: x7 :: x8 :: x9 :: x10 :: x11 :: x12 :: x13 :: x14 :: x15 :: r).toArray 15 x = some (x0 :: x1 :: x2 :: x3 :: x4 :: x5 :: x6 :: x7 :: x8 :: x9 :: x10 :: x11 :: x12 :: x13 :: x14 :: .val x :: r).toArray := by rfl) : Go Z EL nw R Post K h S k n pc (x0 :: x1 :: x2 :: x3 :: x4 :: x5 :: x6 :: x7 :: x8 :: x9 :: x10 :: x11 :: x12 :: x13 :: x14 :: x15 :: r) (x :: st) := G.astoreG hd hv hl f
theorem Good.lstore15 (G : Good Z a0 EL K own code maxL ret nm) {x0 x1 x2 x3 x4 x5 x6 x7 x8 x9 x10 x11 x12 x13 x14 x15 y : Slot} {r : List Slot} {x : Int64} (hd : Dc code pc (.lstore 15) 2 pc') (f : Go Z EL nw R Post K h S k n pc' (x0 :: x1 :: x2 :: x3 :: x4 :: x5 :: x6 :: x7 :: x8 :: x9 :: x10 :: x11 :: x12 :: x13 :: x14 :: .val (.long x) :: .second :: r) st) (hl : storeLocals (x0 :: x1 :: x2 :: x3 :: x4 :: x5 :: x6 :: x7 :: x8 :: x9 :: x10 :: x11 :: x12 :: x13 :: x14 :: x15 :: y :: r).toArray 15 (.long x) = some (x0 :: x1 :: x2 :: x3 :: x4 :: x5 :: x6 :: x7 :: x8 :: x9 :: x10 :: x11 :: x12 :: x13 :: x14 :: .val (.long x) :: .second :: r).toArray := by rfl) : Go Z EL nw R Post K h S k n pc (x0 :: x1 :: x2 :: x3 :: x4 :: x5 :: x6 :: x7 :: x8 :: x9 :: x10 :: x11 :: x12 :: x13 :: x14 :: x15 :: y :: r) (.long x :: st) := G.lstoreG hd hl f
theorem Good.iinc15 (G : Good Z a0 EL K own code maxL ret nm) (z : Int32) {x0 x1 x2 x3 x4 x5 x6 x7 x8 x9 x10 x11 x12 x13 x14 : Slot} {r : List Slot} {c : Int} {x : Int32} (hd : Dc code pc (.iinc 15 c) 3 pc') (f : Go Z EL nw R Post K h S k n pc' (x0 :: x1 :: x2 :: x3 :: x4 :: x5 :: x6 :: x7 :: x8 :: x9 :: x10 :: x11 :: x12 :: x13 :: x14 :: .val (.int (x + z)) :: r) st) (hz : Int32.ofInt c = z := by decide) : Go Z EL nw R Post K h S k n pc (x0 :: x1 :: x2 :: x3 :: x4 :: x5 :: x6 :: x7 :: x8 :: x9 :: x10 :: x11 :: x12 :: x13 :: x14 :: .val (.int x) :: r) st := by subst hz; exact G.iincG hd rfl rfl f
theorem Good.istore16 (G : Good Z a0 EL K own code maxL ret nm) {x0 x1 x2 x3 x4 x5 x6 x7 x8 x9 x10 x11 x12 x13 x14 x15 x16 : Slot} {r : List Slot} {x : Int32} (hd : Dc code pc (.istore 16) 2 pc') (f : Go Z EL nw R Post K h S k n pc' (x0 :: x1 :: x2 :: x3 :: x4 :: x5 :: x6 :: x7 :: x8 :: x9 :: x10 :: x11 :: x12 :: x13 :: x14 :: x15 :: .val (.int x) :: r) st) (hl : storeLocals (x0 :: x1 :: x2 :: x3 :: x4 :: x5 :: x6 :: x7 :: x8 :: x9 :: x10 :: x11 :: x12 :: x13 :: x14 :: x15 :: x16 :: r).toArray 16 (.int x) = some (x0 :: x1 :: x2 :: x3 :: x4 :: x5 :: x6 :: x7 :: x8 :: x9 :: x10 :: x11 :: x12 :: x13 :: x14 :: x15 :: .val (.int x) :: r).toArray := by rfl) : Go Z EL nw R Post K h S k n pc (x0 :: x1 :: x2 :: x3 :: x4 :: x5 :: x6 :: x7 :: x8 :: x9 :: x10 :: x11 :: x12 :: x13 :: x14 :: x15 :: x16 :: r) (.int x :: st) := G.istoreG hd hl f
theorem Good.astore16 (G : Good Z a0 EL K own code maxL ret nm) {x0 x1 x2 x3 x4 x5 x6 x7 x8 x9 x10 x11 x12 x13 x14 x15 x16 : Slot} {r : List Slot} {x : Value} (hd : Dc code pc (.astore 16) 2 pc') (f : Go Z EL nw R Post K h S k n pc' (x0 :: x1 :: x2 :: x3 :: x4 :: x5 :: x6 :: x7 :: x8 :: x9 :: x10 :: x11 :: x12 :: x13 :: x14 :: x15 :: .val x :: r) st) (hv : x.isRef = true := by rfl) (hl : storeLocals (x0 :: x1 :: x2 :: x3 :: x4 :: x5 :: x6 :: x7 :: x8 :: x9 :: x10 :: x11 :: x12 :: x13 :: x14 :: x15 :: x16 :: r).toArray 16 x = some (x0 :: x1 :: x2 :: x3 :: x4 :: x5 :: x6 :: x7 :: x8 :: x9 :: x10 :: x11 :: x12 :: x13 :: x14 :: x15 :: .val x :: r).toArray := by rfl) : Go Z EL nw R Post K h S k n pc (x0 :: x1 :: x2 :: x3 :: x4 :: x5 :: x6 :: x7 :: x8 :: x9 :: x10 :: x11 :: x12 :: x13 :: x14 :: x15 :: x16 :: r) (x :: st) := G.astoreG hd hv hl f
theorem Good.lstore16 (G : Good Z a0 EL K own code maxL ret nm) {x0 x1 x2 x3 x4 x5 x6 x7 x8 x9 x10 x11 x12 x13 x14 x15 x16 y : Slot} {r : List Slot} {x : Int64} (hd : Dc code pc (.lstore 16) 2 pc') (f : Go Z EL nw R Post K h S k n pc' (x0 :: x1 :: x2 :: x3 :: x4 :: x5 :: x6 :: x7 :: x8 :: x9 :: x10 :: x11 :: x12 :: x13 :: x14 :: x15 :: .val (.long x) :: .second :: r) st) (hl : storeLocals (x0 :: x1 :: x2 :: x3 :: x4 :: x5 :: x6 :: x7 :: x8 :: x9 :: x10 :: x11 :: x12 :: x13 :: x14 :: x15 :: x16 :: y :: r).toArray 16 (.long x) = some (x0 :: x1 :: x2 :: x3 :: x4 :: x5 :: x6 :: x7 :: x8 :: x9 :: x10 :: x11 :: x12 :: x13 :: x14 :: x15 :: .val (.long x) :: .second :: r).toArray := by rfl) : Go Z EL nw R Post K h S k n pc (x0 :: x1 :: x2 :: x3 :: x4 :: x5 :: x6 :: x7 :: x8 :: x9 :: x10 :: x11 :: x12 :: x13 :: x14 :: x15 :: x16 :: y :: r) (.long x :: st) := G.lstoreG hd hl f
theorem Good.iinc16 (G : Good Z a0 EL K own code maxL ret nm) (z : Int32) {x0 x1 x2 x3 x4 x5 x6 x7 x8 x9 x10 x11 x12 x13 x14 x15 : Slot} {r : List Slot} {c : Int} {x : Int32} (hd : Dc code pc (.iinc 16 c) 3 pc') (f : Go Z EL nw R Post K h S k n pc' (x0 :: x1 :: x2 :: x3 :: x4 :: x5 :: x6 :: x7 :: x8 :: x9 :: x10 :: x11 :: x12 :: x13 :: x14 :: x15 :: .val (.int (x + z)) :: r) st) (hz : Int32.ofInt c = z := by decide) : Go Z EL nw R Post K h S k n pc (x0 :: x1 :: x2 :: x3 :: x4 :: x5 :: x6 :: x7 :: x8 :: x9 :: x10 :: x11 :: x12 :: x13 :: x14 :: x15 :: .val (.int x) :: r) st := by subst hz; exact G.iincG hd rfl rfl f
theorem Good.istore17 (G : Good Z a0 EL K own code maxL ret nm) {x0 x1 x2 x3 x4 x5 x6 x7 x8 x9 x10 x11 x12 x13 x14 x15 x16 x17 : Slot} {r : List Slot} {x : Int32} (hd : Dc code pc (.istore 17) 2 pc') (f : Go Z EL nw R Post K h S k n pc' (x0 :: x1 :: x2 :: x3 :: x4 :: x5 :: x6 :: x7 :: x8 :: x9 :: x10 :: x11 :: x12 :: x13 :: x14 :: x15 :: x16 :: .val (.int x) :: r) st) (hl : storeLocals (x0 :: x1 :: x2 :: x3 :: x4 :: x5 :: x6 :: x7 :: x8 :: x9 :: x10 :: x11 :: x12 :: x13 :: x14 :: x15 :: x16 :: x17 :: r).toArray 17 (.int x) = some (x0 :: x1 :: x2 :: x3 :: x4 :: x5 :: x6 :: x7 :: x8 :: x9 :: x10 :: x11 :: x12 :: x13 :: x14 :: x15 :: x16 :: .val (.int x) :: r).toArray := by rfl) : Go Z EL nw R Post K h S k n pc (x0 :: x1 :: x2 :: x3 :: x4 :: x5 :: x6 :: x7 :: x8 :: x9 :: x10 :: x11 :: x12 :: x13 :: x14 :: x15 :: x16 :: x17 :: r) (.int x :: st) := G.istoreG hd hl f
theorem Good.astore17 (G : Good Z a0 EL K own code maxL ret nm) {x0 x1 x2 x3 x4 x5 x6 x7 x8 x9 x10 x11 x12 x13 x14 x15 x16 x17 : Slot} {r : List Slot} {x : Value} (hd : Dc code pc (.astore 17) 2 pc') (f : Go Z EL nw R Post K h S k n pc' (x0 :: x1 :: x2 :: x3 :: x4 :: x5 :: x6 :: x7 :: x8 :: x9 :: x10 :: x11 :: x12 :: x13 :: x14 :: x15 :: x16 :: .val x :: r) st) (hv : x.isRef = true := by rfl) (hl : storeLocals (x0 :: x1 :: x2 :: x3 :: x4 :: x5 :: x6 :: x7 :: x8 :: x9 :: x10 :: x11 :: x12 :: x13 :: x14 :: x15 :: x16 :: x17 :: r).toArray 17 x = some (x0 :: x1 :: x2 :: x3 :: x4 :: x5 :: x6 :: x7 :: x8 :: x9 :: x10 :: x11 :: x12 :: x13 :: x14 :: x15 :: x16 :: .val x :: r).toArray := by rfl) : Go Z EL nw R Post K h S k n pc (x0 :: x1 :: x2 :: x3 :: x4 :: x5 :: x6 :: x7 :: x8 :: x9 :: x10 :: x11 :: x12 :: x13 :: x14 :: x15 :: x16 :: x17 :: r) (x :: st) := G.astoreG hd hv hl f
theorem Good.lstore17 (G : Good Z a0 EL K own code maxL ret nm) {x0 x1 x2 x3 x4 x5 x6 x7 x8 x9 x10 x11 x12 x13 x14 x15 x16 x17 y : Slot} {r : List Slot} {x : Int64} (hd : Dc code pc (.lstore 17) 2 pc') (f : Go Z EL nw R Post K h S k n pc' (x0 :: x1 :: x2 :: x3 :: x4 :: x5 :: x6 :: x7 :: x8 :: x9 :: x10 :: x11 :: x12 :: x13 :: x14 :: x15 :: x16 :: .val (.long x) :: .second :: r) st) (hl : storeLocals (x0 :: x1 :: x2 :: x3 :: x4 :: x5 :: x6 :: x7 :: x8 :: x9 :: x10 :: x11 :: x12 :: x13 :: x14 :: x15 :: x16 :: x17 :: y :: r).toArray 17 (.long x) = some (x0 :: x1 :: x2 :: x3 :: x4 :: x5 :: x6 :: x7 :: x8 :: x9 :: x10 :: x11 :: x12 :: x13 :: x14 :: x15 :: x16 :: .val (.long x) :: .second :: r).toArray := by rfl) : Go Z EL nw R Post K h S k n pc (x0 :: x1 :: x2 :: x3 :: x4 :: x5 :: x6 :: x7 :: x8 :: x9 :: x10 :: x11 :: x12 :: x13 :: x14 :: x15 :: x16 :: x17 :: y :: r) (.long x :: st) := G.lstoreG hd hl f
theorem Good.iinc17 (G : Good Z a0 EL K own code maxL ret nm) (z : Int32) {x0 x1 x2 x3 x4 x5 x6 x7 x8 x9 x10 x11 x12 x13 x14 x15 x16 : Slot} {r : List Slot} {c : Int} {x : Int32} (hd : Dc code pc (.iinc 17 c) 3 pc') (f : Go Z EL nw R Post K h S k n pc' (x0 :: x1 :: x2 :: x3 :: x4 :: x5 :: x6 :: x7 :: x8 :: x9 :: x10 :: x11 :: x12 :: x13 :: x14 :: x15 :: x16 :: .val (.int (x + z)) :: r) st) (hz : Int32.ofInt c = z := by decide) : Go Z EL nw R Post K h S k n pc (x0 :: x1 :: x2 :: x3 :: x4 :: x5 :: x6 :: x7 :: x8 :: x9 :: x10 :: x11 :: x12 :: x13 :: x14 :: x15 :: x16 :: .val (.int x) :: r) st := by subst hz; exact G.iincG hd rfl rfl f
theorem Good.istore18 (G : Good Z a0 EL K own code maxL ret nm) {x0 x1 x2 x3 x4 x5 x6 x7 x8 x9 x10 x11 x12 x13 x14 x15 x16 x17 x18 : Slot} {r : List Slot} {x : Int32} (hd : Dc code pc (.istore 18) 2 pc') (f : Go Z EL nw R Post K h S k n pc' (x0 :: x1 :: x2 :: x3 :: x4 :: x5 :: x6 :: x7 :: x8 :: x9 :: x10 :: x11 :: x12 :: x13 :: x14 :: x15 :: x16 :: x17 :: .val (.int x) :: r) st) (hl : storeLocals (x0 :: x1 :: x2 :: x3 :: x4 :: x5 :: x6 :: x7 :: x8 :: x9 :: x10 :: x11 :: x12 :: x13 :: x14 :: x15 :: x16 :: x17 :: x18 :: r).toArray 18 (.int x) = some (x0 :: x1 :: x2 :: x3 :: x4 :: x5 :: x6 :: x7 :: x8 :: x9 :: x10 :: x11 :: x12 :: x13 :: x14 :: x15 :: x16 :: x17 :: .val (.int x) :: r).toArray := by rfl) : Go Z EL nw R Post K h S k n pc (x0 :: x1 :: x2 :: x3 :: x4 :: x5 :: x6 :: x7 :: x8 :: x9 :: x10 :: x11 :: x12 :: x13 :: x14 :: x15 :: x16 :: x17 :: x18 :: r) (.int x :: st) := G.istoreG hd hl f
theorem Good.astore18 (G : Good Z a0 EL K own code maxL ret nm) {x0 x1 x2 x3 x4 x5 x6 x7 x8 x9 x10 x11 x12 x13 x14 x15 x16 x17 x18 : Slot} {r : List Slot} {x : Value} (hd : Dc code pc (.astore 18) 2 pc') (f : Go Z EL nw R Post K h S k n pc' (x0 :: x1 :: x2 :: x3 :: x4 :: x5 :: x6 :: x7 :: x8 :: x9 :: x10 :: x11 :: x12 :: x13 :: x14 :: x15 :: x16 :: x17 :: .val x :: r) st) (hv : x.isRef = true := by rfl) (hl : storeLocals (x0 :: x1 :: x2 :: x3 :: x4 :: x5 :: x6 :: x7 :: x8 :: x9 :: x10 :: x11 :: x12 :: x13 :: x14 :: x15 :: x16 :: x17 :: x18 :: r).toArray 18 x = some (x0 :: x1 :: x2 :: x3 :: x4 :: x5 :: x6 :: x7 :: x8 :: x9 :: x10 :: x11 :: x12 :: x13 :: x14 :: x15 :: x16 :: x17 :: .val x :: r).toArray := by rfl) : Go Z EL nw R Post K h S k n pc (x0 :: x1 :: x2 :: x3 :: x4 :: x5 :: x6 :: x7 :: x8 :: x9 :: x10 :: x11 :: x12 :: x13 :: x14 :: x15 :: x16 :: x17 :: x18 :: r) (x :: st) := G.astoreG hd hv hl f
theorem Good.lstore18 (G : Good Z a0 EL K own code maxL ret nm) {x0 x1 x2 x3 x4 x5 x6 x7 x8 x9 x10 x11 x12 x13 x14 x15 x16 x17 x18 y : Slot} {r : List Slot} {x : Int64} (hd : Dc code pc (.lstore 18) 2 pc') (f : Go Z EL nw R Post K h S k n pc' (x0 :: x1 :: x2 :: x3 :: x4 :: x5 :: x6 :: x7 :: x8 :: x9 :: x10 :: x11 :: x12 :: x13 :: x14 :: x15 :: x16 :: x17 :: .val (.long x) :: .second :: r) st) (hl : storeLocals (x0 :: x1 :: x2 :: x3 :: x4 :: x5 :: x6 :: x7 :: x8 :: x9 :: x10 :: x11 :: x12 :: x13 :: x14 :: x15 :: x16 :: x17 :: x18 :: y :: r).toArray 18 (.long x) = some (x0 :: x1 :: x2 :: x3 :: x4 :: x5 :: x6 :: x7 :: x8 :: x9 :: x10 :: x11 :: x12 :: x13 :: x14 :: x15 :: x16 :: x17 :: .val (.long x) :: .second :: r).toArray := by rfl) : Go Z EL nw R Post K h S k n pc (x0 :: x1 :: x2 :: x3 :: x4 :: x5 :: x6 :: x7 :: x8 :: x9 :: x10 :: x11 :: x12 :: x13 :: x14 :: x15 :: x16 :: x17 :: x18 :: y :: r) (.long x :: st) := G.lstoreG hd hl f
theorem Good.iinc18 (G : Good Z a0 EL K own code maxL ret nm) (z : Int32) {x0 x1 x2 x3 x4 x5 x6 x7 x8 x9 x10 x11 x12 x13 x14 x15 x16 x17 : Slot} {r : List Slot} {c : Int} {x : Int32} (hd : Dc code pc (.iinc 18 c) 3 pc') (f : Go Z EL nw R Post K h S k n pc' (x0 :: x1 :: x2 :: x3 :: x4 :: x5 :: x6 :: x7 :: x8 :: x9 :: x10 :: x11 :: x12 :: x13 :: x14 :: x15 :: x16 :: x17 :: .val (.int (x + z)) :: r) st) (hz : Int32.ofInt c = z := by decide) : Go Z EL nw R Post K h S k n pc (x0 :: x1 :: x2 :: x3 :: x4 :: x5 :: x6 :: x7 :: x8 :: x9 :: x10 :: x11 :: x12 :: x13 :: x14 :: x15 :: x16 :: x17 :: .val (.int x) :: r) st := by subst hz; exact G.iincG hd rfl rfl f
theorem Good.istore19 (G : Good Z a0 EL K own code maxL ret nm) {x0 x1 x2 x3 x4 x5 x6 x7 x8 x9 x10 x11 x12 x13 x14 x15 x16 x17 x18 x19 : Slot} {r : List Slot} {x : Int32} (hd : Dc code pc (.istore 19) 2 pc') (f : Go Z EL nw R Post K h S k n pc' (x0 :: x1 :: x2 :: x3 :: x4 :: x5 :: x6 :: x7 :: x8 :: x9 :: x10 :: x11 :: x12 :: x13 :: x14 :: x15 :: x16 :: x17 :: x18 :: .val (.int x) :: r) st) (hl : storeLocals (x0 :: x1 :: x2 :: x3 :: x4 :: x5 :: x6 :: x7 :: x8 :: x9 :: x10 :: x11 :: x12 :: x13 :: x14 :: x15 :: x16 :: x17 :: x18 :: x19 :: r).toArray 19 (.int x) = some (x0 :: x1 :: x2 :: x3 :: x4 :: x5 :: x6 :: x7 :: x8 :: x9 :: x10 :: x11 :: x12 :: x13 :: x14 :: x15 :: x16 :: x17 :: x18 :: .val (.int x) :: r).toArray := by rfl) : Go Z EL nw R Post K h S k n pc (x0 :: x1 :: x2 :: x3 :: x4 :: x5 :: x6 :: x7 :: x8 :: x9 :: x10 :: x11 :: x12 :: x13 :: x14 :: x15 :: x16 :: x17 :: x18 :: x19 :: r) (.int x :: st) := G.istoreG hd hl f
theorem Good.astore19 (G : Good Z a0 EL K own code maxL ret nm) {x0 x1 x2 x3 x4 x5 x6 x7 x8 x9 x10 x11 x12 x13 x14 x15 x16 x17 x18 x19 : Slot} {r : List Slot} {x : Value} (hd : Dc code pc (.astore 19) 2 pc') (f : Go Z EL nw R Post K h S k n pc' (x0 :: x1 :: x2 :: x3 :: x4 :: x5 :: x6 :: x7 :: x8 :: x9 :: x10 :: x11 :: x12 :: x13 :: x14 :: x15 :: x16 :: x17 :: x18 :: .val x :: r) st) (hv : x.isRef = true := by rfl) (hl : storeLocals (x0 :: x1 :: x2 :: x3 :: x4 :: x5 :: x6 :: x7 :: x8 :: x9 :: x10 :: x11 :: x12 :: x13 :: x14 :: x15 :: x16 :: x17 :: x18 :: x19 :: r).toArray 19 x = some (x0 :: x1 :: x2 :: x3 :: x4 :: x5 :: x6 :: x7 :: x8 :: x9 :: x10 :: x11 :: x12 :: x13 :: x14 :: x15 :: x16 :: x17 :: x18 :: .val x :: r).toArray := by rfl) : Go Z EL nw R Post K h S k n pc (x0 :: x1 :: x2 :: x3 :: x4 :: x5 :: x6 :: x7 :: x8 :: x9 :: x10 :: x11 :: x12 :: x13 :: x14 :: x15 :: x16 :: x17 :: x18 :: x19 :: r) (x :: st) := G.astoreG hd hv hl f
theorem Good.lstore19 (G : Good Z a0 EL K own code maxL ret nm) {x0 x1 x2 x3 x4 x5 x6 x7 x8 x9 x10 x11 x12 x13 x14 x15 x16 x17 x18 x19 y : Slot} {r : List Slot} {x : Int64} (hd : Dc code pc (.lstore 19) 2 pc') (f : Go Z EL nw R Post K h S k n pc' (x0 :: x1 :: x2 :: x3 :: x4 :: x5 :: x6 :: x7 :: x8 :: x9 :: x10 :: x11 :: x12 :: x13 :: x14 :: x15 :: x16 :: x17 :: x18 :: .val (.long x) :: .second :: r) st) (hl : storeLocals (x0 :: x1 :: x2 :: x3 :: x4 :: x5 :: x6 :: x7 :: x8 :: x9 :: x10 :: x11 :: x12 :: x13 :: x14 :: x15 :: x16 :: x17 :: x18 :: x19 :: y :: r).toArray 19 (.long x) = some (x0 :: x1 :: x2 :: x3 :: x4 :: x5 :: x6 :: x7 :: x8 :: x9 :: x10 :: x11 :: x12 :: x13 :: x14 :: x15 :: x16 :: x17 :: x18 :: .val (.long x) :: .second :: r).toArray := by rfl) : Go Z EL nw R Post K h S k n pc (x0 :: x1 :: x2 :: x3 :: x4 :: x5 :: x6 :: x7 :: x8 :: x9 :: x10 :: x11 :: x12 :: x13 :: x14 :: x15 :: x16 :: x17 :: x18 :: x19 :: y :: r) (.long x :: st) := G.lstoreG hd hl f
theorem Good.iinc19 (G : Good Z a0 EL K own code maxL ret nm) (z : Int32) {x0 x1 x2 x3 x4 x5 x6 x7 x8 x9 x10 x11 x12 x13 x14 x15 x16 x17 x18 : Slot} {r : List Slot} {c : Int} {x : Int32} (hd : Dc code pc (.iinc 19 c) 3 pc') (f : Go Z EL nw R Post K h S k n pc' (x0 :: x1 :: x2 :: x3 :: x4 :: x5 :: x6 :: x7 :: x8 :: x9 :: x10 :: x11 :: x12 :: x13 :: x14 :: x15 :: x16 :: x17 :: x18 :: .val (.int (x + z)) :: r) st) (hz : Int32.ofInt c = z := by decide) : Go Z EL nw R Post K h S k n pc (x0 :: x1 :: x2 :: x3 :: x4 :: x5 :: x6 :: x7 :: x8 :: x9 :: x10 :: x11 :: x12 :: x13 :: x14 :: x15 :: x16 :: x17 :: x18 :: .val (.int x) :: r) st := by subst hz; exact G.iincG hd rfl rfl f
theorem Good.istore20 (G : Good Z a0 EL K own code maxL ret nm) {x0 x1 x2 x3 x4 x5 x6 x7 x8 x9 x10 x11 x12 x13 x14 x15 x16 x17 x18 x19 x20 : Slot} {r : List Slot} {x : Int32} (hd : Dc code pc (.istore 20) 2 pc') (f : Go Z EL nw R Post K h S k n pc' (x0 :: x1 :: x2 :: x3 :: x4 :: x5 :: x6 :: x7 :: x8 :: x9 :: x10 :: x11 :: x12 :: x13 :: x14 :: x15 :: x16 :: x17 :: x18 :: x19 :: .val (.int x) :: r) st) (hl : storeLocals (x0 :: x1 :: x2 :: x3 :: x4 :: x5 :: x6 :: x7 :: x8 :: x9 :: x10 :: x11 :: x12 :: x13 :: x14 :: x15 :: x16 :: x17 :: x18 :: x19 :: x20 :: r).toArray 20 (.int x) = some (x0 :: x1 :: x2 :: x3 :: x4 :: x5 :: x6 :: x7 :: x8 :: x9 :: x10 :: x11 :: x12 :: x13 :: x14 :: x15 :: x16 :: x17 :: x18 :: x19 :: .val (.int x) :: r).toArray := by rfl) : Go Z EL nw R Post K h S k n pc (x0 :: x1 :: x2 :: x3 :: x4 :: x5 :: x6 :: x7 :: x8 :: x9 :: x10 :: x11 :: x12 :: x13 :: x14 :: x15 :: x16 :: x17 :: x18 :: x19 :: x20 :: r) (.int x :: st) := G.istoreG hd hl f
theorem Good.astore20 (G : Good Z a0 EL K own code maxL ret nm) {x0 x1 x2 x3 x4 x5 x6 x7 x8 x9 x10 x11 x12 x13 x14 x15 x16 x17 x18 x19 x20 : Slot} {r : List Slot} {x : Value} (hd : Dc code pc (.astore 20) 2 pc') (f : Go Z EL nw R Post K h S k n pc' (x0 :: x1 :: x2 :: x3 :: x4 :: x5 :: x6 :: x7 :: x8 :: x9 :: x10 :: x11 :: x12 :: x13 :: x14 :: x15 :: x16 :: x17 :: x18 :: x19 :: .val x :: r) st) (hv : x.isRef = true := by rfl) (hl : storeLocals (x0 :: x1 :: x2 :: x3 :: x4 :: x5 :: x6 :: x7 :: x8 :: x9 :: x10 :: x11 :: x12 :: x13 :: x14 :: x15 :: x16 :: x17 :: x18 :: x19 :: x20 :: r).toArray 20 x = some (x0 :: x1 :: x2 :: x3 :: x4 :: x5 :: x6 :: x7 :: x8 :: x9 :: x10 :: x11 :: x12 :: x13 :: x14 :: x15 :: x16 :: x17 :: x18 :: x19 :: .val x :: r).toArray := by rfl) : Go Z EL nw R Post K h S k n pc (x0 :: x1 :: x2 :: x3 :: x4 :: x5 :: x6 :: x7 :: x8 :: x9 :: x10 :: x11 :: x12 :: x13 :: x14 :: x15 :: x16 :: x17 :: x18 :: x19 :: x20 :: r) (x :: st) := G.astoreG hd hv hl f
theorem Good.lstore20 (G : Good Z a0 EL K own code maxL ret nm) {x0 x1 x2 x3 x4 x5 x6 x7 x8 x9 x10 x11 x12 x13 x14 x15 x16 x17 x18 x19 x20 y : Slot} {r : List Slot} {x : Int64} (hd : Dc code pc (.lstore 20) 2 pc') (f : Go Z EL nw R Post K h S k n pc' (x0 :: x1 :: x2 :: x3 :: x4 :: x5 :: x6 :: x7 :: x8 :: x9 :: x10 :: x11 :: x12 :: x13 :: x14 :: x15 :: x16 :: x17 :: x18 :: x19 :: .val (.long x) :: .second :: r) st) (hl : storeLocals (x0 :: x1 :: x2 :: x3 :: x4 :: x5 :: x6 :: x7 :: x8 :: x9 :: x10 :: x11 :: x12 :: x13 :: x14 :: x15 :: x16 :: x17 :: x18 :: x19 :: x20 :: y :: r).toArray 20 (.long x) = some (x0 :: x1 :: x2 :: x3 :: x4 :: x5 :: x6 :: x7 :: x8 :: x9 :: x10 :: x11 :: x12 :: x13 :: x14 :: x15 :: x16 :: x17 :: x18 :: x19 :: .val (.long x) :: .second :: r).toArray := by rfl) : Go Z EL nw R Post K h S k n pc (x0 :: x1 :: x2 :: x3 :: x4 :: x5 :: x6 :: x7 :: x8 :: x9 :: x10 :: x11 :: x12 :: x13 :: x14 :: x15 :: x16 :: x17 :: x18 :: x19 :: x20 :: y :: r) (.long x :: st) := G.lstoreG hd hl f
theorem Good.iinc20 (G : Good Z a0 EL K own code maxL ret nm) (z : Int32) {x0 x1 x2 x3 x4 x5 x6 x7 x8 x9 x10 x11 x12 x13 x14 x15 x16 x17 x18 x19 : Slot} {r : List Slot} {c : Int} {x : Int32} (hd : Dc code pc (.iinc 20 c) 3 pc') (f : Go Z EL nw R Post K h S k n pc' (x0 :: x1 :: x2 :: x3 :: x4 :: x5 :: x6 :: x7 :: x8 :: x9 :: x10 :: x11 :: x12 :: x13 :: x14 :: x15 :: x16 :: x17 :: x18 :: x19 :: .val (.int (x + z)) :: r) st) (hz : Int32.ofInt c = z := by decide) : Go Z EL nw R Post K h S k n pc (x0 :: x1 :: x2 :: x3 :: x4 :: x5 :: x6 :: x7 :: x8 :: x9 :: x10 :: x11 :: x12 :: x13 :: x14 :: x15 :: x16 :: x17 :: x18 :: x19 :: .val (.int x) :: r) st := by subst hz; exact G.iincG hd rfl rfl f
theorem Good.istore21 (G : Good Z a0 EL K own code maxL ret nm) {x0 x1 x2 x3 x4 x5 x6 x7 x8 x9 x10 x11 x12 x13 x14 x15 x16 x17 x18 x19 x20 x21 : Slot} {r : List Slot} {x : Int32} (hd : Dc code pc (.istore 21) 2 pc') (f : Go Z EL nw R Post K h S k n pc' (x0 :: x1 :: x2 :: x3 :: x4 :: x5 :: x6 :: x7 :: x8 :: x9 :: x10 :: x11 :: x12 :: x13 :: x14 :: x15 :: x16 :: x17 :: x18 :: x19 :: x20 :: .val (.int x) :: r) st) (hl : storeLocals (x0 :: x1 :: x2 :: x3 :: x4 :: x5 :: x6 :: x7 :: x8 :: x9 :: x10 :: x11 :: x12 :: x13 :: x14 :: x15 :: x16 :: x17 :: x18 :: x19 :: x20 :: x21 :: r).toArray 21 (.int x) = some (x0 :: x1 :: x2 :: x3 :: x4 :: x5 :: x6 :: x7 :: x8 :: x9 :: x10 :: x11 :: x12 :: x13 :: x14 :: x15 :: x16 :: x17 :: x18 :: x19 :: x20 :: .val (.int x) :: r).toArray := by rfl) : Go Z EL nw R Post K h S k n pc (x0 :: x1 :: x2 :: x3 :: x4 :: x5 :: x6 :: x7 :: x8 :: x9 :: x10 :: x11 :: x12 :: x13 :: x14 :: x15 :: x16 :: x17 :: x18 :: x19 :: x20 :: x21 :: r) (.int x :: st) := G.istoreG hd hl f
theorem Good.astore21 (G : Good Z a0 EL K own code maxL ret nm) {x0 x1 x2 x3 x4 x5 x6 x7 x8 x9 x10 x11 x12 x13 x14 x15 x16 x17 x18 x19 x20 x21 : Slot} {r : List Slot} {x : Value} (hd : Dc code pc (.astore 21) 2 pc') (f : Go Z EL nw R Post K h S k n pc' (x0 :: x1 :: x2 :: x3 :: x4 :: x5 :: x6 :: x7 :: x8 :: x9 :: x10 :: x11 :: x12 :: x13 :: x14 :: x15 :: x16 :: x17 :: x18 :: x19 :: x20 :: .val x :: r) st) (hv : x.isRef = true := by rfl) (hl : storeLocals (x0 :: x1 :: x2 :: x3 :: x4 :: x5 :: x6 :: x7 :: x8 :: x9 :: x10 :: x11 :: x12 :: x13 :: x14 :: x15 :: x16 :: x17 :: x18 :: x19 :: x20 :: x21 :: r).toArray 21 x = some (x0 :: x1 :: x2 :: x3 :: x4 :: x5 :: x6 :: x7 :: x8 :: x9 :: x10 :: x11 :: x12 :: x13 :: x14 :: x15 :: x16 :: x17 :: x18 :: x19 :: x20 :: .val x :: r).toArray := by rfl) : Go Z EL nw R Post K h S k n pc (x0 :: x1 :: x2 :: x3 :: x4 :: x5 :: x6 :: x7 :: x8 :: x9 :: x10 :: x11 :: x12 :: x13 :: x14 :: x15 :: x16 :: x17 :: x18 :: x19 :: x20 :: x21 :: r) (x :: st) := G.astoreG hd hv hl f
theorem Good.lstore21 (G : Good Z a0 EL K own code maxL ret nm) {x0 x1 x2 x3 x4 x5 x6 x7 x8 x9 x10 x11 x12 x13 x14 x15 x16 x17 x18 x19 x20 x21 y : Slot} {r : List Slot} {x : Int64} (hd : Dc code pc (.lstore 21) 2 pc') (f : Go Z EL nw R Post K h S k n pc' (x0 :: x1 :: x2 :: x3 :: x4 :: x5 :: x6 :: x7 :: x8 :: x9 :: x10 :: x11 :: x12 :: x13 :: x14 :: x15 :: x16 :: x17 :: x18 :: x19 :: x20 :: .val (.long x) :: .second :: r) st) (hl : storeLocals (x0 :: x1 :: x2 :: x3 :: x4 :: x5 :: x6 :: x7 :: x8 :: x9 :: x10 :: x11 :: x12 :: x13 :: x14 :: x15 :: x16 :: x17 :: x18 :: x19 :: x20 :: x21 :: y :: r).toArray 21 (.long x) = some (x0 :: x1 :: x2 :: x3 :: x4 :: x5 :: x6 :: x7 :: x8 :: x9 :: x10 :: x11 :: x12 :: x13 :: x14 :: x15 :: x16 :: x17 :: x18 :: x19 :: x20 :: .val (.long x) :: .second :: r).toArray := by rfl) : Go Z EL nw R Post K h S k n pc (x0 :: x1 :: x2 :: x3 :: x4 :: x5 :: x6 :: x7 :: x8 :: x9 :: x10 :: x11 :: x12 :: x13 :: x14 :: x15 :: x16 :: x17 :: x18 :: x19 :: x20 :: x21 :: y :: r) (.long x :: st) := G.lstoreG hd hl f
theorem Good.iinc21 (G : Good Z a0 EL K own code maxL ret nm) (z : Int32) {x0 x1 x2 x3 x4 x5 x6 x7 x8 x9 x10 x11 x12 x13 x14 x15 x16 x17 x18 x19 x20 : Slot} {r : List Slot} {c : Int} {x : Int32} (hd : Dc code pc (.iinc 21 c) 3 pc') (f : Go Z EL nw R Post K h S k n pc' (x0 :: x1 :: x2 :: x3 :: x4 :: x5 :: x6 :: x7 :: x8 :: x9 :: x10 :: x11 :: x12 :: x13 :: x14 :: x15 :: x16 :: x17 :: x18 :: x19 :: x20 :: .val (.int (x + z)) :: r) st) (hz : Int32.ofInt c = z := by decide) : Go Z EL nw R Post K h S k n pc (x0 :: x1 :: x2 :: x3 :: x4 :: x5 :: x6 :: x7 :: x8 :: x9 :: x10 :: x11 :: x12 :: x13 :: x14 :: x15 :: x16 :: x17 :: x18 :: x19 :: x20 :: .val (.int x) :: r) st := by subst hz; exact G.iincG hd rfl rfl f
end Plain
end Jvm.Own
namespace Jvm.Own
open Jvm Jvm.ClassFile Sem Op Lib Jvm.Free Jvm.Stand Jvm.LawKit Jvm.RoadKit Bundle
/-- the array at a holds just these values -/
def Al (Z : State) (h : Heap) (a : Addr) (ty : FieldType) (vs : List Value) : Prop := ∃ c : Cell, Arr Z h a c ty ∧ c.slots = vs.toArray ∧ vs.length < 2147483648 ∧ ∀ v ∈ vs, fits ty v = true
section AlFacts
variable {Z : State} {h h' : Heap} {a b : Addr} {ty : FieldType} {vs : List Value} {ws : List Addr} {sl : Nat} {v : Value} {C : String}
theorem Al.lt (F : Al Z h a ty vs) : a < h.size := by obtain ⟨c, A, -⟩ := F; exact A.lt
theorem Al.ext (F : Al Z h a ty vs) (E : Ext h h') : Al Z h' a ty vs := by obtain ⟨c, A, r⟩ := F; exact ⟨c, A.ext E, r⟩
theorem Al.other (F : Al Z h b ty vs) (W : Wr h h' a sl v) (q : b ≠ a) : Al Z h' b ty vs := by obtain ⟨c, A, r⟩ := F; exact ⟨c, A.other W q, r⟩
theorem Al.keep (F : Al Z h a ty vs) (K : Keep h h' ws) (q : a ∉ ws) : Al Z h' a ty vs := by obtain ⟨c, A, r⟩ := F; exact ⟨c, ⟨K.2.1 a c A.1 q, A.2⟩, r⟩
theorem Al.set (F : Al Z h a ty vs) (W : Wr h h' a sl v) (hv : fits ty v = true) : Al Z h' a ty (vs.set sl v) := by
  obtain ⟨c, A, r1, r2, r3⟩ := F
  refine ⟨_, A.same W, by simp [Cell.setSlot, r1], by simpa using r2, fun w hw => ?_⟩
  rcases List.mem_or_eq_of_mem_set hw with q | q
  · exact r3 w q
  · rw [q]; exact hv
theorem Al.len (F : Al Z h a ty vs) : vs.length < 2147483648 := by obtain ⟨c, A, r1, r2, r3⟩ := F; exact r2
theorem Al.arv (F : Al Z h a ty vs) (d : Value) : ∃ k, Arv Z h a k ty (Int32.ofNat vs.length) vs d := by
  obtain ⟨c, A, r1, r2, r3⟩ := F
  have e : (Int32.ofNat vs.length).toInt = (vs.length : Int) := len_toInt r2
  have e1 := back32 (n := Int32.ofNat vs.length) (by rw [Int32.lt_iff_toInt_lt, e]; simp)
  have e2 : (Int32.ofNat vs.length).toNatClampNeg = vs.length := by simp [Int32.toNatClampNeg, e]
  refine ⟨c.cls, c, A, rfl, by rw [r1, e2]; simp, by rw [Int32.lt_iff_toInt_lt, e]; simp, fun i hi => ?_, fun i hi => ?_⟩
  · rw [r1] at hi ⊢
    simp only [List.size_toArray] at hi
    simp [List.getD_eq_getElem?_getD, hi]
  · rw [r1] at hi
    simp only [List.size_toArray] at hi
    have : vs.getD i d = vs[i] := by simp [List.getD_eq_getElem?_getD, hi]
    rw [this]
    exact r3 _ (List.getElem_mem hi)
theorem Al.of_arv {k : ClassId} {z : Int32} {d : Value} (F : Arv Z h a k ty z vs d) (hl : z.toNatClampNeg = vs.length) : Al Z h a ty vs := by
  obtain ⟨c, A, r1, r2, r3, H, G⟩ := F
  have hs : c.slots.size = vs.length := r2.trans hl
  refine ⟨c, A, ?_, by rw [← hl]; exact (back32 r3).2, fun v hv => ?_⟩
  · apply Array.ext
    · simp [hs]
    · intro i h1 h2
      have q := H i h1
      rw [Array.getElem?_eq_getElem h1] at q
      have q' := Option.some.inj q
      rw [q']
      have h3 : i < vs.length := by rw [← hs]; exact h1
      simp [List.getD_eq_getElem?_getD, h3]
  · obtain ⟨i, hi, rfl⟩ := List.getElem_of_mem hv
    have := G i (by rw [hs]; exact hi)
    simpa [List.getD_eq_getElem?_getD, hi] using this
theorem Al.same {vs' : List Value} (F : Al Z h a ty vs) (G : Al Z h a ty vs') : vs = vs' := by
  obtain ⟨c, A, r1, -⟩ := F
  obtain ⟨c', A', r1', -⟩ := G
  have e := A.1.symm.trans A'.1
  cases e
  have := r1.symm.trans r1'
  simpa using this
theorem Al.neExa {a0 : Array Value} {cnt : Nat} (F : Al Z h b ty vs) (E : Exa Z h a C) (wi : (Cond.instantiable C cnt).before a0 Z = true) : a ≠ b := by
  obtain ⟨c, A, -⟩ := F; exact ne_arr E wi A
theorem ext_keep (E : Ext h h') (ws : List Addr) : Keep h h' ws := (Keep.refl h ws).ext E
theorem keep_nil_ext (K : Keep h h' []) : Ext h h' := ⟨K.1, fun a c q => K.2.1 a c q nin0⟩
theorem nat_idx {j : Int32} {i : Nat} (hj : j.toInt = (i : Int)) : ¬ j < 0 ∧ j.toNatClampNeg = i := by
  constructor
  · rw [Int32.lt_iff_toInt_lt, hj]; simp
  · simp [Int32.toNatClampNeg, hj]
theorem Sta.ext' {C n d : String} (E : Ext h h') (F : Sta Z h C n d v) : Sta Z h' C n d v := F.ext E
/-- a static's cell is none of the freshly made ones -/
theorem Sta.keep {C n d : String} (F : Sta Z h C n d v) (K : Keep h h' ws) (q : ∀ x ∈ ws, ∀ cell : Cell, h[x]? = some cell → cell.vm.isStatics = false) : Sta Z h' C n d v := by
  obtain ⟨cf, i, k, f, st, cell, h1, h2, h3, h4, h5, h6, r⟩ := F
  exact ⟨cf, i, k, f, st, cell, h1, h2, h3, h4, K.2.1 _ _ h5 (fun z => by have := q _ z _ h5; rw [h6] at this; cases this), h6, r⟩
/-- a static of the start stands, where all that was written is new -/
theorem Sta.old {C n d : String} (F : Sta Z Z.heap C n d v) (O : Ext Z.heap h) : Sta Z h C n d v := F.ext O
theorem Fld.oth {a0 : Array Value} {C O O' fn fn' d d' : String} {w : Value} (F : Fld Z h b O fn d w) (W : Wr h h' a (RoadKit.slotOf Z O' fn' d') v) (L1 : Laid Z a0 C O fn d) (L2 : Laid Z a0 C O' fn' d') (hn : fn ≠ fn') (h1 : (parseFieldDescriptor d).isSome = true) (h2 : (parseFieldDescriptor d').isSome = true) : Fld Z h' b O fn d w := by
  obtain ⟨t1, e1⟩ := Option.isSome_iff_exists.mp h1
  obtain ⟨t2, e2⟩ := Option.isSome_iff_exists.mp h2
  exact F.other W (Or.inr (slot_ne L1 L2 hn e1 e2))
end AlFacts
section Heap
variable {Z : State} {a0 : Array Value} {EL : List (String × Nat)} {nw : Bool} {R : Room} {Post : Pst} {K : Kx} {own : String} {code : ByteArray} {maxL : Nat} {ret : Option FieldType} {nm : String} {h h' : Heap} {S : List Addr} {k n pc pc' : Nat} {L : List Slot} {st : List Value} {l : Launch}
/-- a step that leaves the heap -/
theorem Go.calm {L' : List Slot} {st' : List Value} (G : Good Z a0 EL K own code maxL ret nm)
    (q : ∀ (T : State) (vm0 : Vm) (locs : List Loc), Stand K.p K.l K.e R (K.s.setVm vm0) K.m K.as K.below K.meth K.c T locs k n → Z.Warmed39 (K.s.setVm vm0).vm → (K.s.setVm vm0).vm.findClass own = some K.m.cls → T.heap = h →
      ∃ T', Stand K.p K.l K.e R (K.s.setVm vm0) K.m K.as K.below K.meth K.c T' locs k n ∧ T'.heap = h ∧ ∀ target, Steps K.p.tables K.e K.below (T'.setTop (mkF K.m pc' L'.toArray st')) target → Steps K.p.tables K.e K.below (T.setTop (mkF K.m pc L.toArray st)) target)
    (f : Go Z EL nw R Post K h S k n pc' L' st') : Go Z EL nw R Post K h S k n pc L st := fun T I => by
  obtain ⟨vm0, k0, locs, X, hS, hk0, hZ, e, r⟩ := I
  obtain ⟨T', X', e', stp⟩ := q T vm0 locs X hZ (G.hown hS) e
  exact (f T' ⟨vm0, k0, locs, X', hS, hk0, hZ, e', r⟩).step stp
/-- a step that makes one cell -/
theorem Go.grow {L' : List Slot} {st' : List Value} {k' n' : Nat} {P : Heap → Prop} (G : Good Z a0 EL K own code maxL ret nm)
    (q : ∀ (T : State) (vm0 : Vm) (locs : List Loc), Stand K.p K.l K.e R (K.s.setVm vm0) K.m K.as K.below K.meth K.c T locs k n → Z.Warmed39 (K.s.setVm vm0).vm → (K.s.setVm vm0).vm.findClass own = some K.m.cls → T.heap = h →
      ∃ T' h', Stand K.p K.l K.e R (K.s.setVm vm0) K.m K.as K.below K.meth K.c T' locs k' n' ∧ T'.heap = h' ∧ Ext h h' ∧ h.size < h'.size ∧ P h' ∧ ∀ target, Steps K.p.tables K.e K.below (T'.setTop (mkF K.m pc' L'.toArray st')) target → Steps K.p.tables K.e K.below (T.setTop (mkF K.m pc L.toArray st)) target)
    (f : ∀ h', Ext h h' → h.size < h'.size → P h' → Go Z EL nw R Post K h' (h.size :: S) k' n' pc' L' st') : Go Z EL nw R Post K h S k n pc L st := fun T I => by
  obtain ⟨vm0, k0, locs, X, hS, hk0, hZ, e, N, CH, hSf, hw, hO⟩ := I
  obtain ⟨T', h', X', e', E, hlt, hP, stp⟩ := q T vm0 locs X hZ (G.hown hS) e
  have hn0 : Z.heap.size ≤ h.size := hO.1
  refine (f h' E hlt hP T' ⟨vm0, k0, locs, X', hS, Nat.le_trans hk0 E.1, hZ, e', N, CH.trans (CHr.ext E CH.1), fun a ha => ?_, hw, ⟨Nat.le_trans hO.1 E.1, fun x c q => E.2 x c (hO.2 x c q)⟩⟩).step stp
  rcases List.mem_cons.mp ha with rfl | ha
  · exact ⟨hn0, hlt, Safe.ext E CH.1 (Safe.new (Nat.le_refl _))⟩
  · obtain ⟨b1, b2, b3⟩ := hSf a ha
    exact ⟨b1, Nat.lt_of_lt_of_le b2 E.1, Safe.ext E CH.1 b3⟩
/-- a step that writes one place of a cell of S -/
theorem Go.write {L' : List Slot} {st' : List Value} {a : Addr} {sl : Nat} {v : Value} (G : Good Z a0 EL K own code maxL ret nm) (ha : a ∈ S)
    (q : ∀ (T : State) (vm0 : Vm) (locs : List Loc), Stand K.p K.l K.e R (K.s.setVm vm0) K.m K.as K.below K.meth K.c T locs k n → Z.Warmed39 (K.s.setVm vm0).vm → (K.s.setVm vm0).vm.findClass own = some K.m.cls → T.heap = h →
      ∃ T' h', Stand K.p K.l K.e R (K.s.setVm vm0) K.m K.as K.below K.meth K.c T' (locs ++ [⟨a, sl⟩]) k n ∧ T'.heap = h' ∧ Wr h h' a sl v ∧ ∀ target, Steps K.p.tables K.e K.below (T'.setTop (mkF K.m pc' L'.toArray st')) target → Steps K.p.tables K.e K.below (T.setTop (mkF K.m pc L.toArray st)) target)
    (f : ∀ h', Wr h h' a sl v → Go Z EL nw R Post K h' S k n pc' L' st') : Go Z EL nw R Post K h S k n pc L st := fun T I => by
  obtain ⟨vm0, k0, locs, X, hS, hk0, hZ, e, N, CH, hSf, hw, hO⟩ := I
  obtain ⟨T', h', X', e', W, stp⟩ := q T vm0 locs X hZ (G.hown hS) e
  obtain ⟨c1, c2, c3⟩ := hSf a ha
  refine (f h' W T' ⟨vm0, k0, _, X', hS, by rw [W.size]; exact hk0, hZ, e', Fr.snoc X' N c1, CH.trans (CHr.wr W c3 CH.1), fun x hx => ?_, hw, ⟨by rw [W.size]; exact hO.1, fun x c q => (Keep.of_wr W).2.1 x c (hO.2 x c q) (fun z => by cases List.mem_singleton.mp z; exact absurd (Array.getElem?_eq_some_iff.mp q).1 (Nat.not_lt.mpr c1))⟩⟩).step stp
  obtain ⟨b1, b2, b3⟩ := hSf x hx
  exact ⟨b1, by rw [W.size]; exact b2, Safe.wr W c3 CH.1 b3⟩
theorem Good.getF (G : Good Z a0 EL K own code maxL ret nm) {R0 O fn d : String} {index : Nat} {a : Addr} {v : Value} (hd : Dc code pc (.getfield index) 3 pc') (w : (Cond.fieldLink own index R0 fn d).before a0 Z = true) (F : Fld Z h a O fn d v) (f : Go Z EL nw R Post K h S k n pc' L (v :: st)) (via : Via Z R0 O fn d := by exact Via.refl) : Go Z EL nw R Post K h S k n pc L (.ref a :: st) := by
  obtain ⟨hd, rfl⟩ := hd
  refine Go.calm G (fun T vm0 locs X hZ hown e => ?_) f
  exact getF X G.1 hZ hown (host := "") (Or.inl w) via e F (g := mkF K.m pc L.toArray (.ref a :: st)) rfl rfl (hb G.2.1 hd)
theorem Good.getS (G : Good Z a0 EL K own code maxL ret nm) {R0 O fn d : String} {index : Nat} {v : Value} (hd : Dc code pc (.getstatic index) 3 pc') (w : (Cond.fieldLink own index R0 fn d).before a0 Z = true) (F : Sta Z Z.heap O fn d v) (f : Go Z EL nw R Post K h S k n pc' L (v :: st)) (via : Via Z R0 O fn d := by exact Via.refl) : Go Z EL nw R Post K h S k n pc L st := by
  obtain ⟨hd, rfl⟩ := hd
  refine Go.oldIn fun hO => ?_
  have F := F.ext hO
  refine Go.calm G (fun T vm0 locs X hZ hown e => ?_) f
  exact getS X G.1 hZ hown (host := "") w via e F (g := mkF K.m pc L.toArray st) rfl (hb G.2.1 hd)
theorem Good.ldcI (G : Good Z a0 EL K own code maxL ret nm) {index : Nat} {v : Int32} (hd : Dc code pc (.ldc index) 2 pc') (w : (Cond.constant own index v).before a0 Z = true) (f : Go Z EL nw R Post K h S k n pc' L (.int v :: st)) : Go Z EL nw R Post K h S k n pc L st := by
  obtain ⟨hd, rfl⟩ := hd
  refine Go.calm G (fun T vm0 locs X hZ hown e => ⟨T, X, e, ?_⟩) f
  exact X.ldcInt G.1 hown (mvT hZ w) (g := mkF K.m pc L.toArray st) rfl (hb G.2.1 hd)
theorem Good.ldc2J (G : Good Z a0 EL K own code maxL ret nm) {index : Nat} {v : Int64} (hd : Dc code pc (.ldc2_w index) 3 pc') (w : (Cond.constantLong own index v).before a0 Z = true) (f : Go Z EL nw R Post K h S k n pc' L (.long v :: st)) : Go Z EL nw R Post K h S k n pc L st := by
  obtain ⟨hd, rfl⟩ := hd
  refine Go.calm G (fun T vm0 locs X hZ hown e => ⟨T, X, e, ?_⟩) f
  exact X.ldc2Long G.1 hown (mvT hZ w) (g := mkF K.m pc L.toArray st) rfl (hb G.2.1 hd)
theorem Good.castR (G : Good Z a0 EL K own code maxL ret nm) {C : String} {index : Nat} {a : Addr} (hd : Dc code pc (.checkcast index) 3 pc') (w : (Cond.classLink own index C).before a0 Z = true) (F : Ins Z h a C true) (f : Go Z EL nw R Post K h S k n pc' L (.ref a :: st)) : Go Z EL nw R Post K h S k n pc L (.ref a :: st) := by
  obtain ⟨hd, rfl⟩ := hd
  refine Go.calm G (fun T vm0 locs X hZ hown e => ?_) f
  exact castY X G.1 hZ hown w e F (g := mkF K.m pc L.toArray (.ref a :: st)) rfl rfl (hb G.2.1 hd)
theorem Good.instY (G : Good Z a0 EL K own code maxL ret nm) {C : String} {index : Nat} {a : Addr} (hd : Dc code pc (.instanceof index) 3 pc') (w : (Cond.classLink own index C).before a0 Z = true) (F : Ins Z h a C true) (f : Go Z EL nw R Post K h S k n pc' L (.int 1 :: st)) : Go Z EL nw R Post K h S k n pc L (.ref a :: st) := by
  obtain ⟨hd, rfl⟩ := hd
  refine Go.calm G (fun T vm0 locs X hZ hown e => ?_) f
  exact instY X G.1 hZ hown w e F (g := mkF K.m pc L.toArray (.ref a :: st)) rfl rfl (hb G.2.1 hd)
theorem Good.instNo (G : Good Z a0 EL K own code maxL ret nm) {C D : String} {index : Nat} {a : Addr} (hd : Dc code pc (.instanceof index) 3 pc') (w : (Cond.classLink own index C).before a0 Z = true) (E : Exa Z h a D) (F : ∃ c t, Z.vm.findClass D = some c ∧ Z.vm.findClass C = some t ∧ Z.vm.assignable c t = false) (f : Go Z EL nw R Post K h S k n pc' L (.int 0 :: st)) : Go Z EL nw R Post K h S k n pc L (.ref a :: st) := by
  obtain ⟨hd, rfl⟩ := hd
  refine Go.calm G (fun T vm0 locs X hZ hown e => ?_) f
  exact instNo X G.1 hZ hown w e E F (g := mkF K.m pc L.toArray (.ref a :: st)) rfl rfl (hb G.2.1 hd)
theorem Good.instNull (G : Good Z a0 EL K own code maxL ret nm) {index : Nat} (hd : Dc code pc (.instanceof index) 3 pc') (f : Go Z EL nw R Post K h S k n pc' L (.int 0 :: st)) : Go Z EL nw R Post K h S k n pc L (.null :: st) := by
  obtain ⟨hd, rfl⟩ := hd
  refine Go.calm G (fun T vm0 locs X hZ hown e => ⟨T, X, e, ?_⟩) f
  exact X.instanceofNull G.1 (g := mkF K.m pc L.toArray (.null :: st)) rfl rfl (hb G.2.1 hd)
theorem Good.castNull (G : Good Z a0 EL K own code maxL ret nm) {index : Nat} (hd : Dc code pc (.checkcast index) 3 pc') (f : Go Z EL nw R Post K h S k n pc' L (.null :: st)) : Go Z EL nw R Post K h S k n pc L (.null :: st) := by
  obtain ⟨hd, rfl⟩ := hd
  refine Go.calm G (fun T vm0 locs X hZ hown e => ⟨T, X, e, ?_⟩) f
  exact X.checkcastNull G.1 (g := mkF K.m pc L.toArray (.null :: st)) rfl rfl (hb G.2.1 hd)
theorem Good.alen (G : Good Z a0 EL K own code maxL ret nm) {a : Addr} {ty : FieldType} {vs : List Value} (z : Int32) (hd : Dc code pc .arraylength 1 pc') (A : Al Z h a ty vs) (hz : z.toInt = (vs.length : Int)) (f : Go Z EL nw R Post K h S k n pc' L (.int z :: st)) : Go Z EL nw R Post K h S k n pc L (.ref a :: st) := by
  obtain ⟨hd, rfl⟩ := hd
  obtain ⟨c, A1, A2, A3, A4⟩ := A
  have ez : c.slots.size.toInt32 = z := by
    apply Int32.toInt_inj.mp
    rw [hz, A2]
    simp only [List.size_toArray]
    exact len_toInt A3
  refine Go.calm G (fun T vm0 locs X hZ hown e => ⟨T, X, e, fun t q => ?_⟩) f
  refine X.arraylength G.1 (by rw [e]; exact A1.1) (State.isArrayOf_alike hZ.alike A1.2.1) (g := mkF K.m pc L.toArray (.ref a :: st)) rfl rfl (hb G.2.1 hd) t ?_
  rw [ez]; exact q
theorem Good.caload (G : Good Z a0 EL K own code maxL ret nm) {a : Addr} {vs : List Value} {j : Int32} {i : Nat} {v : Value} (hd : Dc code pc .caload 1 pc') (A : Al Z h a .char vs) (hj : j.toInt = (i : Int)) (hv : vs[i]? = some v) (f : Go Z EL nw R Post K h S k n pc' L (v :: st)) : Go Z EL nw R Post K h S k n pc L (.int j :: .ref a :: st) := by
  obtain ⟨hd, rfl⟩ := hd
  obtain ⟨c, A1, A2, A3, A4⟩ := A
  obtain ⟨j1, j2⟩ := nat_idx hj
  have hlt := (List.getElem?_eq_some_iff.mp hv).1
  refine Go.calm G (fun T vm0 locs X hZ hown e => ⟨T, X, e, fun t q => ?_⟩) f
  exact X.caload G.1 (by rw [e]; exact A1.1) (State.isArrayOf_alike hZ.alike A1.2.1) A1.2.2 (by rw [j2, A2]; simp only [List.size_toArray]; rintro (q | q); exact j1 q; omega) (by rw [j2, A2]; simpa using hv) (g := mkF K.m pc L.toArray (.int j :: .ref a :: st)) rfl rfl (hb G.2.1 hd) t q
theorem Good.baload (G : Good Z a0 EL K own code maxL ret nm) {a : Addr} {vs : List Value} {j : Int32} {i : Nat} {v : Value} (hd : Dc code pc .baload 1 pc') (A : Al Z h a .byte vs) (hj : j.toInt = (i : Int)) (hv : vs[i]? = some v) (f : Go Z EL nw R Post K h S k n pc' L (v :: st)) : Go Z EL nw R Post K h S k n pc L (.int j :: .ref a :: st) := by
  obtain ⟨hd, rfl⟩ := hd
  obtain ⟨c, A1, A2, A3, A4⟩ := A
  obtain ⟨j1, j2⟩ := nat_idx hj
  have hlt := (List.getElem?_eq_some_iff.mp hv).1
  refine Go.calm G (fun T vm0 locs X hZ hown e => ⟨T, X, e, fun t q => ?_⟩) f
  exact X.baloadBytes G.1 (by rw [e]; exact A1.1) (State.isArrayOf_alike hZ.alike A1.2.1) A1.2.2 (by rw [j2, A2]; simp only [List.size_toArray]; rintro (q | q); exact j1 q; omega) (by rw [j2, A2]; simpa using hv) (g := mkF K.m pc L.toArray (.int j :: .ref a :: st)) rfl rfl (hb G.2.1 hd) t q
theorem Good.laload (G : Good Z a0 EL K own code maxL ret nm) {a : Addr} {vs : List Value} {j : Int32} {i : Nat} {v : Value} (hd : Dc code pc .laload 1 pc') (A : Al Z h a .long vs) (hj : j.toInt = (i : Int)) (hv : vs[i]? = some v) (f : Go Z EL nw R Post K h S k n pc' L (v :: st)) : Go Z EL nw R Post K h S k n pc L (.int j :: .ref a :: st) := by
  obtain ⟨hd, rfl⟩ := hd
  obtain ⟨c, A1, A2, A3, A4⟩ := A
  obtain ⟨j1, j2⟩ := nat_idx hj
  have hlt := (List.getElem?_eq_some_iff.mp hv).1
  refine Go.calm G (fun T vm0 locs X hZ hown e => ⟨T, X, e, fun t q => ?_⟩) f
  exact X.laload G.1 (by rw [e]; exact A1.1) (State.isArrayOf_alike hZ.alike A1.2.1) A1.2.2 (by rw [j2, A2]; simp only [List.size_toArray]; rintro (q | q); exact j1 q; omega) (by rw [j2, A2]; simpa using hv) (g := mkF K.m pc L.toArray (.int j :: .ref a :: st)) rfl rfl (hb G.2.1 hd) t q
theorem Good.aaload (G : Good Z a0 EL K own code maxL ret nm) {a : Addr} {ty : FieldType} {vs : List Value} {j : Int32} {i : Nat} {v : Value} (hd : Dc code pc .aaload 1 pc') (A : Al Z h a ty vs) (hty : ty.isReference = true) (hj : j.toInt = (i : Int)) (hv : vs[i]? = some v) (f : Go Z EL nw R Post K h S k n pc' L (v :: st)) : Go Z EL nw R Post K h S k n pc L (.int j :: .ref a :: st) := by
  obtain ⟨hd, rfl⟩ := hd
  obtain ⟨c, A1, A2, A3, A4⟩ := A
  obtain ⟨j1, j2⟩ := nat_idx hj
  have hlt := (List.getElem?_eq_some_iff.mp hv).1
  refine Go.calm G (fun T vm0 locs X hZ hown e => ⟨T, X, e, fun t q => ?_⟩) f
  exact X.aaload G.1 (by rw [e]; exact A1.1) (State.isArrayOf_alike hZ.alike A1.2.1) hty A1.2.2 (by rw [j2, A2]; simp only [List.size_toArray]; rintro (q | q); exact j1 q; omega) (by rw [j2, A2]; simpa using hv) (g := mkF K.m pc L.toArray (.int j :: .ref a :: st)) rfl rfl (hb G.2.1 hd) t q
theorem Good.castore (G : Good Z a0 EL K own code maxL ret nm) {a : Addr} {vs : List Value} {j x : Int32} {i : Nat} (hd : Dc code pc .castore 1 pc') (ha : a ∈ S) (A : Al Z h a .char vs) (hj : j.toInt = (i : Int)) (hi : i < vs.length) (f : ∀ h', Wr h h' a i (.int (nar .char x)) → Al Z h' a .char (vs.set i (.int (nar .char x))) → Go Z EL nw R Post K h' S k n pc' L st) : Go Z EL nw R Post K h S k n pc L (.int x :: .int j :: .ref a :: st) := by
  obtain ⟨hd, rfl⟩ := hd
  obtain ⟨c, A1, A2, A3, A4⟩ := id A
  obtain ⟨j1, j2⟩ := nat_idx hj
  subst j2
  refine Go.write G ha (fun T vm0 locs X hZ hown e => ?_) (fun h' W => f h' W (A.set W (fits_nar_char _)))
  exact stC X G.1 hZ e A1 (by rw [A2]; simp only [List.size_toArray]; rintro (q | q); exact j1 q; omega) (g := mkF K.m pc L.toArray (.int x :: .int j :: .ref a :: st)) rfl rfl (hb G.2.1 hd)
theorem Good.bastore (G : Good Z a0 EL K own code maxL ret nm) {a : Addr} {vs : List Value} {j x : Int32} {i : Nat} (hd : Dc code pc .bastore 1 pc') (ha : a ∈ S) (A : Al Z h a .byte vs) (hj : j.toInt = (i : Int)) (hi : i < vs.length) (f : ∀ h', Wr h h' a i (.int (nar .byte x)) → Al Z h' a .byte (vs.set i (.int (nar .byte x))) → Go Z EL nw R Post K h' S k n pc' L st) : Go Z EL nw R Post K h S k n pc L (.int x :: .int j :: .ref a :: st) := by
  obtain ⟨hd, rfl⟩ := hd
  obtain ⟨c, A1, A2, A3, A4⟩ := id A
  obtain ⟨j1, j2⟩ := nat_idx hj
  subst j2
  refine Go.write G ha (fun T vm0 locs X hZ hown e => ?_) (fun h' W => f h' W (A.set W (fits_nar_byte _)))
  exact stB X G.1 hZ e A1 (by rw [A2]; simp only [List.size_toArray]; rintro (q | q); exact j1 q; omega) (g := mkF K.m pc L.toArray (.int x :: .int j :: .ref a :: st)) rfl rfl (hb G.2.1 hd)
theorem Good.lastore (G : Good Z a0 EL K own code maxL ret nm) {a : Addr} {vs : List Value} {j : Int32} {x : Int64} {i : Nat} (hd : Dc code pc .lastore 1 pc') (ha : a ∈ S) (A : Al Z h a .long vs) (hj : j.toInt = (i : Int)) (hi : i < vs.length) (f : ∀ h', Wr h h' a i (.long x) → Al Z h' a .long (vs.set i (.long x)) → Go Z EL nw R Post K h' S k n pc' L st) : Go Z EL nw R Post K h S k n pc L (.long x :: .int j :: .ref a :: st) := by
  obtain ⟨hd, rfl⟩ := hd
  obtain ⟨c, A1, A2, A3, A4⟩ := id A
  obtain ⟨j1, j2⟩ := nat_idx hj
  subst j2
  refine Go.write G ha (fun T vm0 locs X hZ hown e => ?_) (fun h' W => f h' W (A.set W rfl))
  exact stJ X G.1 hZ e A1 (by rw [A2]; simp only [List.size_toArray]; rintro (q | q); exact j1 q; omega) (g := mkF K.m pc L.toArray (.long x :: .int j :: .ref a :: st)) rfl rfl (hb G.2.1 hd)
theorem Good.aastore (G : Good Z a0 EL K own code maxL ret nm) {a : Addr} {ty : FieldType} {vs : List Value} {j : Int32} {v : Value} {i : Nat} (hd : Dc code pc .aastore 1 pc') (ha : a ∈ S) (A : Al Z h a ty vs) (hty : ty.isReference = true) (F : Sto Z h a v) (hfv : fits ty v = true) (hj : j.toInt = (i : Int)) (hi : i < vs.length) (f : ∀ h', Wr h h' a i v → Al Z h' a ty (vs.set i v) → Go Z EL nw R Post K h' S k n pc' L st) : Go Z EL nw R Post K h S k n pc L (v :: .int j :: .ref a :: st) := by
  obtain ⟨hd, rfl⟩ := hd
  obtain ⟨c, A1, A2, A3, A4⟩ := id A
  obtain ⟨j1, j2⟩ := nat_idx hj
  subst j2
  refine Go.write G ha (fun T vm0 locs X hZ hown e => ?_) (fun h' W => f h' W (A.set W hfv))
  exact stR X G.1 hZ e A1 (by rw [A2]; simp only [List.size_toArray]; rintro (q | q); exact j1 q; omega) hty F (g := mkF K.m pc L.toArray (v :: .int j :: .ref a :: st)) rfl rfl (hb G.2.1 hd)
theorem Good.putF (G : Good Z a0 EL K own code maxL ret nm) {R0 O fn d C : String} {index kk : Nat} {ty : FieldType} {a : Addr} {v old : Value} (hd : Dc code pc (.putfield index) 3 pc') (w : (Cond.fieldLink own index R0 fn d).before a0 Z = true) (F : Fld Z h a O fn d old) (E : Exa Z h a C) (ha : a ∈ S)
    (Ly : (Cond.lays C O fn d).before a0 Z = true ∨ ((Cond.laysFinal C O fn d).before a0 Z = true ∧ own = O ∧ nm = "<init>")) (wi : (Cond.instantiable C kk).before a0 Z = true) (hty : parseFieldDescriptor d = some ty) (hn : narrow ty v = v) (hf : fits ty v = true)
    (f : ∀ h', Wr h h' a (RoadKit.slotOf Z O fn d) v → Fld Z h' a O fn d v → Exa Z h' a C → Go Z EL nw R Post K h' S k n pc' L st) (via : Via Z R0 O fn d := by exact Via.refl) : Go Z EL nw R Post K h S k n pc L (v :: .ref a :: st) := by
  obtain ⟨hd, rfl⟩ := hd
  refine Go.write G ha (fun T vm0 locs X hZ hown e => ?_) (fun h' W => f h' W (F.same W) (E.wr W))
  exact putF X G.1 hZ hown (host := "") (Or.inl w) via e F E (Ly.imp id fun q => ⟨q.1, q.2.1, G.2.2.2.2.2.1.trans q.2.2⟩) wi hty hn hf (g := mkF K.m pc L.toArray (v :: .ref a :: st)) rfl rfl (hb G.2.1 hd)
theorem Good.newO (G : Good Z a0 EL K own code maxL ret nm) {C : String} {index cnt : Nat} (hd : Dc code pc (.new index) 3 pc') (w : (Cond.classLink own index C).before a0 Z = true) (wi : (Cond.instantiable C cnt).before a0 Z = true) (wz : (Cond.initialized C).before a0 Z = true)
    (f : ∀ h', Ext h h' → h.size < h'.size → (Exa Z h' h.size C ∧ ∀ {O fn d : String} {ty : FieldType}, Laid Z a0 C O fn d → parseFieldDescriptor d = some ty → Fld Z h' h.size O fn d (defaultValue ty)) → Go Z EL nw R Post K h' (h.size :: S) (k + 1) (n + cnt) pc' L (.ref h.size :: st)) (hc : k + 1 ≤ R.cells := by decide) (hl : n + cnt ≤ R.slots := by decide) : Go Z EL nw R Post K h S k n pc L st := by
  obtain ⟨hd, rfl⟩ := hd
  refine Go.grow G (fun T vm0 locs X hZ hown e => ?_) f
  obtain ⟨T', h', X', e', E, A, D, -, stp⟩ := newO X G.1 hZ hown w wi wz e (g := mkF K.m pc L.toArray st) rfl (hb G.2.1 hd) hc hl
  exact ⟨T', h', X', e', E, A.lt, ⟨A, D⟩, stp⟩
theorem Good.newA (G : Good Z a0 EL K own code maxL ret nm) {aty : ArrayType} {j : Int32} (i cap : Nat) (hd : Dc code pc (.newarray aty) 2 pc') (w : (Cond.arrayClass (newarray.typeOf aty)).before a0 Z = true) (hj : j.toInt = (i : Int)) (hi : i ≤ cap)
    (f : ∀ h', Ext h h' → h.size < h'.size → Al Z h' h.size (newarray.typeOf aty) (List.replicate i (defaultValue (newarray.typeOf aty))) → Go Z EL nw R Post K h' (h.size :: S) (k + 1) (n + cap) pc' L (.ref h.size :: st)) (hb' : cap * 8 ≤ 536870912 := by decide) (hc : k + 1 ≤ R.cells := by decide) (hl : n + cap ≤ R.slots := by decide) : Go Z EL nw R Post K h S k n pc L (.int j :: st) := by
  obtain ⟨hd, rfl⟩ := hd
  obtain ⟨j1, j2⟩ := nat_idx hj
  refine Go.grow G (fun T vm0 locs X hZ hown e => ?_) f
  obtain ⟨T', h', cA, X', e', E, A, stp⟩ := newP X G.1 hZ w e (g := mkF K.m pc L.toArray (.int j :: st)) rfl (hb G.2.1 hd) rfl j1 (by rw [j2]; exact hi) hb' hc hl
  exact ⟨T', h', X', e', E, A.lt, ⟨_, A, by simp [RoadKit.newA, j2], by simp; omega, fun v hv => by rw [List.eq_of_mem_replicate hv]; cases aty <;> rfl⟩, stp⟩
theorem Good.newR (G : Good Z a0 EL K own code maxL ret nm) {C : String} {index : Nat} {j : Int32} (i cap : Nat) (hd : Dc code pc (.anewarray index) 3 pc') (w1 : (Cond.classLink own index C).before a0 Z = true) (w2 : (Cond.arrayOver (.object C)).before a0 Z = true) (hj : j.toInt = (i : Int)) (hi : i ≤ cap)
    (f : ∀ h', Ext h h' → h.size < h'.size → (Al Z h' h.size (.object C) (List.replicate i .null) ∧ ∃ c cA, Arr Z h' h.size c (.object C) ∧ c.cls = cA ∧ Ovr Z cA C) → Go Z EL nw R Post K h' (h.size :: S) (k + 1) (n + cap) pc' L (.ref h.size :: st)) (hb' : cap * 8 ≤ 536870912 := by decide) (hc : k + 1 ≤ R.cells := by decide) (hl : n + cap ≤ R.slots := by decide) : Go Z EL nw R Post K h S k n pc L (.int j :: st) := by
  obtain ⟨hd, rfl⟩ := hd
  obtain ⟨j1, j2⟩ := nat_idx hj
  refine Go.grow G (fun T vm0 locs X hZ hown e => ?_) f
  obtain ⟨T', h', cA, X', e', E, A, O, stp⟩ := newR X G.1 hZ hown w1 w2 e (g := mkF K.m pc L.toArray (.int j :: st)) rfl (hb G.2.1 hd) rfl j1 (by rw [j2]; exact hi) hb' hc hl
  exact ⟨T', h', X', e', E, A.lt, ⟨⟨_, A, by simp [RoadKit.newA, j2, defaultValue], by simp; omega, fun v hv => by rw [List.eq_of_mem_replicate hv]; rfl⟩, _, cA, A, rfl, O⟩, stp⟩
theorem Good.initO (G : Good Z a0 EL K own code maxL ret nm) {idx : Nat} {a : Addr} (hd : Dc code pc (.invokespecial idx) 3 pc') (w1 : (Cond.methodLink own idx Lib.objectInit).before a0 Z = true) (w2 : (Cond.instanceMethod Lib.objectInit).before a0 Z = true) (w3 : (Cond.code Lib.objectInit ⟨#[0xb1]⟩ 1 none).before a0 Z = true)
    (f : Go Z EL nw R Post K h S k n pc' L st) (hL : L.length = maxL := by rfl) (hf : 1 ≤ R.frames := by decide) (hl : (st.map fun v => v.category).sum + 12 ≤ R.locals := by exact Nat.le_of_ble_eq_true rfl) : Go Z EL nw R Post K h S k n pc L (.ref a :: st) := by
  obtain ⟨hd, rfl⟩ := hd
  refine Go.calm G (fun T vm0 locs X hZ hown e => ?_) f
  exact initO X G.1 hZ hown w1 w2 w3 e (g := mkF K.m pc L.toArray (.ref a :: st)) rfl (by rw [G.2.2.1]; simpa using hL) rfl (hb G.2.1 hd) hf (W := (st.map fun v => v.category).sum) (by show 2 * 0 + _ ≤ _; omega) hl
/-- System.arraycopy of plain components, into a cell of S -/
theorem Good.acopy (G : Good Z a0 EL K own code maxL ret nm) {index : Nat} {a b : Addr} {ty : FieldType} {vs vd : List Value} {sp dp nn : Int32} (i j m : Nat) (hd : Dc code pc (.invokestatic index) 3 pc') (w1 : (Cond.methodLink own index Jvm.Stand.acN).before a0 Z = true) (w2 : (Cond.native Jvm.Stand.acN).before a0 Z = true) (w3 : (Cond.static Jvm.Stand.acN).before a0 Z = true) (w4 : (Cond.initialized "java/lang/System").before a0 Z = true)
    (A : Al Z h a ty vs) (B : Al Z h b ty vd) (hty : refKind ty = false) (hb' : b ∈ S) (hi : sp.toInt = (i : Int)) (hj : dp.toInt = (j : Int)) (hm : nn.toInt = (m : Int)) (h4 : i + m ≤ vs.length) (h5 : j + m ≤ vd.length)
    (f : ∀ h', Keep h h' [b] → Al Z h' b ty (vd.take j ++ (vs.drop i).take m ++ vd.drop (j + m)) → Go Z EL nw R Post K h' S k n pc' L st) (hL : L.length = maxL := by rfl) (hf : 1 ≤ R.frames := by decide) (hl : (st.map fun v => v.category).sum + (nativeFrameWords "java/lang/System" "arraycopy" 5 + 11) ≤ R.locals := by exact Nat.le_of_ble_eq_true rfl) :
    Go Z EL nw R Post K h S k n pc L (.int nn :: .int dp :: .ref b :: .int sp :: .ref a :: st) := fun T I => by
  obtain ⟨hd, rfl⟩ := hd
  obtain ⟨vm0, k0, locs, X, hS, hk0, hZ, e, N, CH, hSf, hw, hO⟩ := I
  obtain ⟨c1, c2, c3⟩ := hSf b hb'
  obtain ⟨ka, Av⟩ := A.arv (.int 0)
  obtain ⟨kb, Bv⟩ := B.arv (.int 0)
  obtain ⟨i1, i2⟩ := nat_idx hi
  obtain ⟨j1, j2⟩ := nat_idx hj
  obtain ⟨m1, m2⟩ := nat_idx hm
  have ea : (Int32.ofNat vs.length).toNatClampNeg = vs.length := by simp [Int32.toNatClampNeg, len_toInt A.len]
  have eb : (Int32.ofNat vd.length).toNatClampNeg = vd.length := by simp [Int32.toNatClampNeg, len_toInt B.len]
  have hus : (vs.drop i).take m = (List.range nn.toNatClampNeg).map fun q => vs.getD (sp.toNatClampNeg + q) (.int 0) := by
    rw [m2, i2]
    apply List.ext_getElem
    · simp; omega
    · intro q q1 q2
      simp only [List.length_map, List.length_range] at q2
      have : i + q < vs.length := by omega
      simp [List.getD_eq_getElem?_getD, this]
  obtain ⟨T', h', L', X', e', N', Kp, B', stp⟩ := cpA X G.1 hZ (G.hown hS) w1 w2 w3 w4 e Av Bv (Or.inl ⟨rfl, hty⟩) i1 j1 m1 (by rw [i2, m2, ea]; exact h4) (by rw [j2, m2, eb]; exact h5) hus (by rw [j2, m2]; exact h5) N c1 (g := mkF K.m pc L.toArray (.int nn :: .int dp :: .ref b :: .int sp :: .ref a :: st)) rfl (by rw [G.2.2.1]; simpa using hL) rfl (hb G.2.1 hd) hf (W := (st.map fun v => v.category).sum) (by show 2 * 0 + _ ≤ _; omega) hl
  rw [j2, m2] at B'
  have sfb : ∀ x ∈ [b], Safe Z EL vm0 h x := fun x hx => by cases List.mem_singleton.mp hx; exact c3
  have hC := CHr.keep Kp sfb CH.1
  refine (f h' Kp (Al.of_arv B' (by rw [eb]; simp; omega)) T' ⟨vm0, k0, L', X', hS, Nat.le_trans hk0 Kp.1, hZ, e', N', CH.trans hC, fun x hx => ?_, hw, ⟨Nat.le_trans hO.1 Kp.1, fun x c q => Kp.2.1 x c (hO.2 x c q) (fun z => by cases List.mem_singleton.mp z; exact absurd (Array.getElem?_eq_some_iff.mp q).1 (Nat.not_lt.mpr c1))⟩⟩).step stp
  obtain ⟨b1, b2, b3⟩ := hSf x hx
  exact ⟨b1, Nat.lt_of_lt_of_le b2 Kp.1, Safe.keep Kp sfb CH.1 b3⟩
end Heap
end Jvm.Own
namespace Jvm.Own
open Jvm Jvm.ClassFile Sem Op Lib Jvm.Free Jvm.Stand Jvm.LawKit Jvm.RoadKit Bundle
def PreB (R rm : Room) (h : Heap) (as : Array Value) (A : Pt) (a : Array Value) : Prop := a = as ∧ A.U.heap = h ∧ A.cells + rm.cells ≤ R.cells ∧ A.slots + rm.slots ≤ R.slots
def PstB (Z : State) (EL : List (String × Nat)) (nw : Bool) (rm : Room) (h : Heap) (Post' : Pst) (s : State) (vm0 : Vm) (A : Pt) (_a : Array Value) (v : Option Value) (B : Pt) : Prop :=
  ∃ L S', Post' v B.U.heap S' ∧ Fr Z.heap.size L ∧ (∀ x ∈ S', Z.heap.size ≤ x ∧ x < B.U.heap.size ∧ Safe Z EL B.U.vm B.U.heap x) ∧ B.locs = A.locs ++ L ∧ B.cells = A.cells + rm.cells ∧ B.slots = A.slots + rm.slots ∧ CHr Z EL vm0 h B.U.vm B.U.heap ∧ (nw = true → (s.setVm vm0).WarmedH B.U.vm) ∧ Ext Z.heap B.U.heap
section Calls
variable {Z : State} {a0 : Array Value} {EL : List (String × Nat)} {nw : Bool} {R : Room} {Post : Pst} {K : Kx} {own : String} {code : ByteArray} {maxL : Nat} {ret : Option FieldType} {nm : String} {h h' : Heap} {S : List Addr} {k n pc pc' : Nat} {L : List Slot} {st rest : List Value} {l : Launch}
variable {y z : MethodName} {bytes : ByteArray} {maxL' : Nat} {ret' : Option FieldType} {rm : Room} {as : Array Value} {S0 : List Addr} {Post' : Pst} {ps : List FieldType} {rr : Option FieldType} {C : String} {index : Nat} {a : Addr}
theorem Con.back {p : Program} {e : Env} {below : List Frame} {s : State} {sargs : Array Value} {len W : Nat} {vm0 : Vm} (c : Con l Z EL nw y bytes maxL' ret' [] rm as h S0 Post') (hZ : Z.Warmed39 vm0) (wc : (Cond.code y bytes maxL' ret').before a0 Z = true) (wz : (Cond.initialized y.cls).before a0 Z = true)
    (hf : rm.frames + 1 ≤ R.frames) (hl : W + (maxL' + 11) + rm.locals ≤ R.locals) (hEL : EW Z a0 EL) (H : CHv Z EL vm0 h) (hSf : ∀ x ∈ S0, Z.heap.size ≤ x ∧ x < h.size ∧ Safe Z EL vm0 h x) (hO : Ext Z.heap h) :
    BackS l R p e below (s.setVm vm0) sargs y len W (PreB R rm h as) (PstB Z EL nw rm h Post' s vm0) :=
  BackS.of_freeW (bytes := bytes) (maxL := maxL') (ret := ret') (E := fun _ first o t L k n => k = rm.cells ∧ n = rm.slots ∧ (∃ v S', o = .returned v ∧ Post' v t.heap S' ∧ Fr Z.heap.size L ∧ (∀ x ∈ S', Z.heap.size ≤ x ∧ x < t.heap.size ∧ Safe Z EL t.vm t.heap x)) ∧ CHr Z EL first.vm first.heap t.vm t.heap ∧ (nw = true → first.WarmedH t.vm) ∧ Ext Z.heap t.heap) c hf hl
    (fun m meth c A a Y hp => have hU : Z.Warmed39 A.U.vm := wtrans (s := s.setVm vm0) hZ Y.warmed
      ⟨by show (Cond.and _ .tt).before a A.U = true; rw [Cond.before_and, mv hU wc]; rfl, mv hU wc, mv hU wz, hp.2.2.1, hp.2.2.2⟩)
    (fun m meth c A a g mk Y hp => ⟨hp.1, wtrans (s := s.setVm vm0) hZ Y.warmed, hp.2.1, (CHv.at Y hZ hEL H).1, fun x hx => ⟨(hSf x hx).1, (hSf x hx).2.1, (CHv.at Y hZ hEL H).safe (hSf x hx).2.1 (hSf x hx).2.2⟩, hO⟩)
    (fun _ _ _ _ _ _ _ _ _ => trivial)
    (fun _ _ _ _ ⟨v, L, S', h1, h2, h3, h4, h5, h6, h7, h8⟩ => ⟨L, _, _, h6, rfl, rfl, ⟨v, S', h1, h2, h3, h5⟩, h4, h7, h8⟩)
    (fun m meth c A a g mk v t L k n Y hp _ _ ⟨e1, e2, ⟨v', S', e3, e4, e5, e6⟩, e7, e8, e9⟩ => by
      cases e3; subst e1 e2
      refine ⟨L, S', e4, e5, e6, rfl, rfl, rfl, (CHv.at Y hZ hEL H).trans ?_, fun z => State.WarmedH.trans (t := A.U) Y.warmed (e8 z), e9⟩
      rw [← hp.2.1]; exact e7)
/-- a call by its contract, whatever the step -/
theorem Go.callG {len : Nat} (G : Good Z a0 EL K own code maxL ret nm) (c : Con K.l Z EL nw y bytes maxL' ret' [] rm as h S0 Post') (hS0 : ∀ x ∈ S0, x ∈ S) (wc : (Cond.code y bytes maxL' ret').before a0 Z = true) (wz : (Cond.initialized y.cls).before a0 Z = true)
    (hf : rm.frames + 1 ≤ R.frames) (hl : (rest.map fun v => v.category).sum + (maxL' + 11) + rm.locals ≤ R.locals) (hcc : k + rm.cells ≤ R.cells) (hss : n + rm.slots ≤ R.slots)
    (q : ∀ (T : State) (vm0 : Vm) (locs : List Loc), Stand K.p K.l K.e R (K.s.setVm vm0) K.m K.as K.below K.meth K.c T locs k n → Z.Warmed39 (K.s.setVm vm0).vm → (K.s.setVm vm0).vm.findClass own = some K.m.cls → T.heap = h →
      BackS K.l R K.p K.e K.below (K.s.setVm vm0) K.as y len (rest.map fun v => v.category).sum (PreB R rm h as) (PstB Z EL nw rm h Post' K.s vm0) → (∀ vm₁, (K.s.setVm vm0).WarmedH vm₁ → PreB R rm h as ⟨T.setVm vm₁, locs, k, n⟩ as) →
      ∃ (v : Option Value) (vm₁ : Vm) (B : Pt), (K.s.setVm vm0).WarmedH vm₁ ∧ Stand K.p K.l K.e R ((K.s.setVm vm0).setVm B.U.vm) K.m K.as K.below K.meth K.c B.U B.locs B.cells B.slots ∧ (K.s.setVm vm0).Since B.U.vm B.U.heap.size ∧ T.heap.size ≤ B.U.heap.size ∧ PstB Z EL nw rm h Post' K.s vm0 ⟨T.setVm vm₁, locs, k, n⟩ as v B ∧
        Steps K.p.tables K.e K.below (T.setTop (mkF K.m pc L.toArray st)) (B.U.setTop (mkF K.m pc' L.toArray (v.toList ++ rest))))
    (f : ∀ v h' S', Post' v h' S' → h.size ≤ h'.size → Go Z EL nw R Post K h' (S' ++ S) (k + rm.cells) (n + rm.slots) pc' L (v.toList ++ rest)) : Go Z EL nw R Post K h S k n pc L st := fun T I => by
  obtain ⟨vm0, k0, locs, X, hS, hk0, hZ, e, N, CH, hSf, hw, hO⟩ := I
  obtain ⟨v, vm₁, ⟨U, Ls, c0, s0⟩, hW₁, X', h2, hgr, ⟨L', S', hP, hN, hS', hL, hc0, hs0, hC, hnw, hO'⟩, stp⟩ := q T vm0 locs X hZ (G.hown hS) e (c.back hZ wc wz hf hl G.2.2.2.2.2.2.2 CH.1 (fun x hx => hSf x (hS0 x hx)) hO) (fun vm₁ _ => ⟨rfl, e, hcc, hss⟩)
  dsimp only [Pt.U, Pt.locs, Pt.cells, Pt.slots] at X' h2 hgr hP hS' hL hc0 hs0 hC hnw hO' stp
  subst hL hc0 hs0
  rw [e] at hgr
  refine (f v U.heap S' hP hgr U ⟨U.vm, _, _, X', hS.trans h2 (Nat.le_trans hk0 hgr), Nat.le_refl _, State.Warmed39.trans (t := K.s.setVm vm0) hZ h2.1, rfl, N.app hN, CH.trans hC, fun x hx => ?_, fun z => State.WarmedH.trans (t := K.s.setVm vm0) (hw z) (hnw z), hO'⟩).step fun t z => stp.trans z
  rcases List.mem_append.mp hx with hx | hx
  · exact hS' x hx
  · obtain ⟨b1, b2, b3⟩ := hSf x hx
    exact ⟨b1, Nat.lt_of_lt_of_le b2 hgr, hC.safe b2 b3⟩
theorem Good.callS (G : Good Z a0 EL K own code maxL ret nm) (argsL : List Value) (hd : Dc code pc (.invokestatic index) 3 pc') (w1 : (Cond.methodLink own index y).before a0 Z = true) (w2 : (Cond.static y).before a0 Z = true) (w3 : (Cond.initialized y.cls).before a0 Z = true) (w4 : (Cond.code y bytes maxL' ret').before a0 Z = true)
    (pd : parseMethodDescriptor y.desc = some ⟨ps, rr⟩) (c : Con K.l Z EL nw y bytes maxL' ret' [] rm argsL.toArray h S0 Post') (hS0 : ∀ x ∈ S0, x ∈ S) (hst : st = argsL.reverse ++ rest) (hln : argsL.length = ps.length)
    (f : ∀ v h' S', Post' v h' S' → h.size ≤ h'.size → Go Z EL nw R Post K h' (S' ++ S) (k + rm.cells) (n + rm.slots) pc' L (v.toList ++ rest))
    (hy : y.cls ≠ "java/lang/invoke/MethodHandle" ∧ y.cls ≠ "java/lang/invoke/VarHandle") (hL : L.length = maxL) (hf : rm.frames + 1 ≤ R.frames) (hl : (rest.map fun v => v.category).sum + (maxL' + 11) + rm.locals ≤ R.locals) (hcc : k + rm.cells ≤ R.cells) (hss : n + rm.slots ≤ R.slots) : Go Z EL nw R Post K h S k n pc L st := by
  obtain ⟨hd, rfl⟩ := hd
  refine Go.callG (len := 3) G c hS0 w4 w3 hf hl hcc hss (fun T vm0 locs X hZ hown e hK hpre => ?_) f
  exact callSS X G.1 hown (mvT hZ w1) (mvT hZ w2) (mvT hZ w3) (mvT hZ w4) hy hK (g := mkF K.m pc L.toArray st) rfl (by rw [G.2.2.1]; simpa using hL) (lenOf pd hln) hst (by show 2 * 0 + _ ≤ _; omega) (hb G.2.1 hd) hpre
theorem Good.callI (G : Good Z a0 EL K own code maxL ret nm) (argsL : List Value) (hd : Dc code pc (.invokespecial index) 3 pc') (w1 : (Cond.methodLink own index y).before a0 Z = true) (w2 : (Cond.instanceMethod y).before a0 Z = true) (w3 : (Cond.initialized y.cls).before a0 Z = true) (w4 : (Cond.code y bytes maxL' none).before a0 Z = true)
    (pd : parseMethodDescriptor y.desc = some ⟨ps, rr⟩) (c : Con K.l Z EL nw y bytes maxL' none [] rm (.ref a :: argsL).toArray h S0 Post') (hS0 : ∀ x ∈ S0, x ∈ S) (hst : st = argsL.reverse ++ .ref a :: rest) (hln : argsL.length = ps.length)
    (f : ∀ v h' S', Post' v h' S' → h.size ≤ h'.size → Go Z EL nw R Post K h' (S' ++ S) (k + rm.cells) (n + rm.slots) pc' L (v.toList ++ rest))
    (hy1 : y.name = "<init>") (hy : y.cls ≠ "java/lang/invoke/MethodHandle" ∧ y.cls ≠ "java/lang/invoke/VarHandle") (hL : L.length = maxL) (hf : rm.frames + 1 ≤ R.frames) (hl : (rest.map fun v => v.category).sum + (maxL' + 11) + rm.locals ≤ R.locals) (hcc : k + rm.cells ≤ R.cells) (hss : n + rm.slots ≤ R.slots) : Go Z EL nw R Post K h S k n pc L st := by
  obtain ⟨hd, rfl⟩ := hd
  refine Go.callG (len := 3) G c hS0 w4 w3 hf hl hcc hss (fun T vm0 locs X hZ hown e hK hpre => ?_) f
  exact X.specialBackS G.1 hy1 hown (mvT hZ w1) (mvT hZ w2) (mvT hZ w4) hy hK (g := mkF K.m pc L.toArray st) rfl (by rw [G.2.2.1]; simpa using hL) (Steps.refl _) (lenOf pd hln) hst (by show 2 * 0 + _ ≤ _; omega) (hb G.2.1 hd) hpre
/-- the class that declares y is no interface: two roads -/
def Nf (Z : State) (y : MethodName) : Prop := ∀ s : State, Z.Warmed39 s.vm → NotFace s y
theorem Nf.inst {cnt : Nat} (wi : (Cond.instantiable y.cls cnt).before a0 Z = true) : Nf Z y := fun s hZ r0 h0 => by
  have w : (Cond.instantiable y.cls cnt).before #[] s = true := mvT hZ wi
  obtain ⟨c, kk, h1, h2, h3, h4, -⟩ := Cond.instantiable_spec w
  have hc := findClass_of_methodNamed h0
  cases h1.symm.trans hc
  simp only [Bool.or_eq_false_iff] at h4
  exact ⟨kk, h2, h4.1⟩
theorem Nf.super {D : String} (w : (Cond.superclass y.cls D).before a0 Z = true) : Nf Z y := fun s hZ => nf_super (args := #[]) (mvT hZ w)
theorem Nf.sel (w : (Cond.selects C y y).before a0 Z = true) : Nf Z y := fun s hZ => notFace_of_selects (args := #[]) (mvT hZ w)
theorem Nf.same (nf : Nf Z z) (w : (Cond.instanceMethod z).before a0 Z = true) (e : z.cls = y.cls) : Nf Z y := fun s hZ r0 h0 => by
  obtain ⟨mk, methM, hnamed, -⟩ := Cond.instanceMethod_spec (mvT (args := #[]) (s := s) hZ w)
  obtain ⟨kr, h1, h2⟩ := nf s hZ mk hnamed
  have c1 := findClass_of_methodNamed hnamed
  have c2 := findClass_of_methodNamed h0
  rw [e] at c1
  have c3 := Option.some.inj (c1.symm.trans c2)
  exact ⟨kr, by rw [← c3]; exact h1, h2⟩
theorem same_of_nf (nf : Nf Z y) (w : (Cond.instanceMethod y).before a0 Z = true) (hy : y.cls ≠ "java/lang/invoke/MethodHandle" ∧ y.cls ≠ "java/lang/invoke/VarHandle") : (Cond.sameMethod y.cls y.cls y.name y.desc).before a0 Z = true := by
  obtain ⟨mk, methM, hnamed, -⟩ := Cond.instanceMethod_spec w
  obtain ⟨kr, h1, h2⟩ := nf Z (State.Warmed39.refl Z) mk hnamed
  have c1 := findClass_of_methodNamed hnamed
  have f1 := State.methodFound?_of_named hnamed hy
  have hnamed' : Z.methodNamed? ⟨y.cls, y.name, y.desc⟩ = some mk := hnamed
  simp [Cond.before, Cond.holds, Cond.value, c1, f1, hnamed', h1, h2]
theorem Good.callV (G : Good Z a0 EL K own code maxL ret nm) (nf : Nf Z y) (argsL : List Value) (hd : Dc code pc (.invokevirtual index) 3 pc') (w1 : (Cond.methodLink own index y).before a0 Z = true) (w2 : (Cond.declares y).before a0 Z = true) (w3 : (Cond.selects C y z).before a0 Z = true) (w4 : (Cond.instanceMethod z).before a0 Z = true) (w5 : (Cond.code z bytes maxL' ret').before a0 Z = true) (w6 : (Cond.initialized z.cls).before a0 Z = true)
    (pd : parseMethodDescriptor y.desc = some ⟨ps, rr⟩) (E : Exa Z h a C) (c : Con K.l Z EL nw z bytes maxL' ret' [] rm (.ref a :: argsL).toArray h S0 Post') (hS0 : ∀ x ∈ S0, x ∈ S) (hst : st = argsL.reverse ++ .ref a :: rest) (hln : argsL.length = ps.length)
    (f : ∀ v h' S', Post' v h' S' → h.size ≤ h'.size → Go Z EL nw R Post K h' (S' ++ S) (k + rm.cells) (n + rm.slots) pc' L (v.toList ++ rest))
    (hy : y.cls ≠ "java/lang/invoke/MethodHandle" ∧ y.cls ≠ "java/lang/invoke/VarHandle") (hL : L.length = maxL) (hf : rm.frames + 1 ≤ R.frames) (hl : (rest.map fun v => v.category).sum + (maxL' + 11) + rm.locals ≤ R.locals) (hcc : k + rm.cells ≤ R.cells) (hss : n + rm.slots ≤ R.slots) : Go Z EL nw R Post K h S k n pc L st := by
  obtain ⟨hd, rfl⟩ := hd
  refine Go.callG (len := 3) G c hS0 w5 w6 hf hl hcc hss (fun T vm0 locs X hZ hown e hK hpre => ?_) f
  obtain ⟨cq, kq, q1, q2, q3⟩ := isOf (s := K.s.setVm vm0) hZ e E
  exact X.virtualBackS G.1 hown (mvT hZ w1) (mvT hZ w2) (nf _ hZ) (mvT hZ w3) (mvT hZ w4) hy hK q1 q3 (g := mkF K.m pc L.toArray st) rfl (by rw [G.2.2.1]; simpa using hL) (Steps.refl _) (lenOf pd hln) hst (by show 2 * 0 + _ ≤ _; omega) (hb G.2.1 hd) hpre
/-- a private method, called on an object that is there -/
theorem Good.callP (G : Good Z a0 EL K own code maxL ret nm) (argsL : List Value) (hd : Dc code pc (.invokevirtual index) 3 pc') (w1 : (Cond.methodLink own index y).before a0 Z = true) (w2 : (Cond.instanceMethod y).before a0 Z = true) (w3 : (Cond.privateMethod y).before a0 Z = true) (w4 : (Cond.code y bytes maxL' ret').before a0 Z = true) (w5 : (Cond.initialized y.cls).before a0 Z = true) (nf : Nf Z y)
    (pd : parseMethodDescriptor y.desc = some ⟨ps, rr⟩) (E : Exa Z h a C) (c : Con K.l Z EL nw y bytes maxL' ret' [] rm (.ref a :: argsL).toArray h S0 Post') (hS0 : ∀ x ∈ S0, x ∈ S) (hst : st = argsL.reverse ++ .ref a :: rest) (hln : argsL.length = ps.length)
    (f : ∀ v h' S', Post' v h' S' → h.size ≤ h'.size → Go Z EL nw R Post K h' (S' ++ S) (k + rm.cells) (n + rm.slots) pc' L (v.toList ++ rest))
    (hy : y.cls ≠ "java/lang/invoke/MethodHandle" ∧ y.cls ≠ "java/lang/invoke/VarHandle") (hL : L.length = maxL) (hf : rm.frames + 1 ≤ R.frames) (hl : (rest.map fun v => v.category).sum + (maxL' + 11) + rm.locals ≤ R.locals) (hcc : k + rm.cells ≤ R.cells) (hss : n + rm.slots ≤ R.slots) : Go Z EL nw R Post K h S k n pc L st := by
  obtain ⟨hd, rfl⟩ := hd
  refine Go.callG (len := 3) G c hS0 w4 w5 hf hl hcc hss (fun T vm0 locs X hZ hown e hK hpre => ?_) f
  obtain ⟨cell, hcell, hobj⟩ := E.cell
  obtain ⟨mk, methM, hnamed, hmethM, hstM, habM⟩ := Cond.instanceMethod_spec (mvT (args := #[]) (s := K.s.setVm vm0) hZ w2)
  obtain ⟨methM', cM, hmethM', -, -, -, -, -, -, hsigM⟩ := Cond.code_spec hnamed (mvT (args := #[]) (s := K.s.setVm vm0) hZ w4)
  cases hmethM.symm.trans hmethM'
  obtain ⟨kP, hkP, hkPi⟩ := nf (K.s.setVm vm0) hZ mk hnamed
  have hpriv := Cond.privateMethod_at (mvP (args := #[]) (s := K.s.setVm vm0) hZ w3)
  have hselP : selectMethod K.e.platform (K.s.setVm vm0).vm cell.cls mk = .method mk := selectMethod_private hmethM (hpriv mk methM hnamed hmethM)
  obtain ⟨vm₁, X₁, hstep₁⟩ := X.invokevirtual G.1 hown (mvT hZ w1) hnamed hmethM hstM hkP hkPi hy (a := a) (cell := cell) (by rw [e]; exact hcell) hobj hselP hmethM habM hkP hkPi (g := mkF K.m pc L.toArray st) rfl (argsL := argsL) (rest := rest) (lenOf pd hln _ hsigM) hst (hb G.2.1 hd)
  obtain ⟨v, B, X', hS, hgr, hpost, hsteps⟩ := hK K.m K.meth K.c ⟨T.setVm vm₁, locs, k, n⟩ (mkF K.m pc L.toArray rest) (.invokevirtual index) mk (.ref a :: argsL).toArray X₁ rfl (by rw [G.2.2.1]; simpa using hL) (hb G.2.1 hd) (by show 2 * 0 + (rest.map fun v => v.category).sum ≤ _; omega) (X₁.named hnamed) (hpre vm₁ X₁.warmed)
  exact ⟨v, vm₁, B, X₁.warmed, X', hS, hgr, hpost, (hstep₁ _ fun acts => by rw [doInvoke_state]; exact Steps.refl _).trans hsteps⟩
theorem Good.callF (G : Good Z a0 EL K own code maxL ret nm) {count : Nat} (argsL : List Value) (hd : Dc code pc (.invokeinterface index count) 5 pc') (w1 : (Cond.methodLink own index y).before a0 Z = true) (w2 : (Cond.declares y).before a0 Z = true) (w3 : (Cond.interfaceMethod y.cls y.cls y.name y.desc).before a0 Z = true) (w4 : (Cond.selects C y z).before a0 Z = true) (w5 : (Cond.instanceMethod z).before a0 Z = true) (w6 : (Cond.publicMethod z).before a0 Z = true) (w7 : (Cond.unhidden C y.name y.desc).before a0 Z = true) (w8 : (Cond.castable C y.cls).before a0 Z = true) (w9 : (Cond.code z bytes maxL' ret').before a0 Z = true) (w10 : (Cond.initialized z.cls).before a0 Z = true)
    (pd : parseMethodDescriptor y.desc = some ⟨ps, rr⟩) (E : Exa Z h a C) (c : Con K.l Z EL nw z bytes maxL' ret' [] rm (.ref a :: argsL).toArray h S0 Post') (hS0 : ∀ x ∈ S0, x ∈ S) (hst : st = argsL.reverse ++ .ref a :: rest) (hln : argsL.length = ps.length)
    (f : ∀ v h' S', Post' v h' S' → h.size ≤ h'.size → Go Z EL nw R Post K h' (S' ++ S) (k + rm.cells) (n + rm.slots) pc' L (v.toList ++ rest))
    (hy : y.cls ≠ "java/lang/invoke/MethodHandle" ∧ y.cls ≠ "java/lang/invoke/VarHandle") (hL : L.length = maxL) (hf : rm.frames + 1 ≤ R.frames) (hl : (rest.map fun v => v.category).sum + (maxL' + 11) + rm.locals ≤ R.locals) (hcc : k + rm.cells ≤ R.cells) (hss : n + rm.slots ≤ R.slots) : Go Z EL nw R Post K h S k n pc L st := by
  obtain ⟨hd, rfl⟩ := hd
  refine Go.callG (len := 5) G c hS0 w9 w10 hf hl hcc hss (fun T vm0 locs X hZ hown e hK hpre => ?_) f
  obtain ⟨cq, kq, q1, q2, q3⟩ := isOf (s := K.s.setVm vm0) hZ e E
  exact X.interfaceBackS G.1 hown (mvT hZ w1) (mvT hZ w2) (mvT hZ w3 (by simp [Cond.onTables, Cond.keepsFace, Cond.keeps, Cond.steady, Cond.faceAtom, hy.1, hy.2])) (mvT hZ w4) (mvT hZ w5) (mvT hZ w6) (mvT hZ w7) (mvT hZ w8) hy hK q1 q2 q3 (g := mkF K.m pc L.toArray st) rfl (by rw [G.2.2.1]; simpa using hL) (Steps.refl _) (lenOf pd hln) hst (by show 2 * 0 + _ ≤ _; omega) (hb G.2.1 hd) hpre
/-- invokespecial of a method of the superclass -/
theorem Good.callU (G : Good Z a0 EL K own code maxL ret nm) (argsL : List Value) (hd : Dc code pc (.invokespecial index) 3 pc') (w1 : (Cond.methodLink own index y).before a0 Z = true) (nf : Nf Z y) (w3 : (Cond.instanceMethod y).before a0 Z = true) (w4 : (Cond.superclass own y.cls).before a0 Z = true) (w5 : (Cond.code y bytes maxL' ret').before a0 Z = true) (w6 : (Cond.initialized y.cls).before a0 Z = true)
    (pd : parseMethodDescriptor y.desc = some ⟨ps, rr⟩) (E : Exa Z h a C) (c : Con K.l Z EL nw y bytes maxL' ret' [] rm (.ref a :: argsL).toArray h S0 Post') (hS0 : ∀ x ∈ S0, x ∈ S) (hst : st = argsL.reverse ++ .ref a :: rest) (hln : argsL.length = ps.length)
    (f : ∀ v h' S', Post' v h' S' → h.size ≤ h'.size → Go Z EL nw R Post K h' (S' ++ S) (k + rm.cells) (n + rm.slots) pc' L (v.toList ++ rest))
    (hy1 : y.name ≠ "<init>") (hy : y.cls ≠ "java/lang/invoke/MethodHandle" ∧ y.cls ≠ "java/lang/invoke/VarHandle") (hL : L.length = maxL) (hf : rm.frames + 1 ≤ R.frames) (hl : (rest.map fun v => v.category).sum + (maxL' + 11) + rm.locals ≤ R.locals) (hcc : k + rm.cells ≤ R.cells) (hss : n + rm.slots ≤ R.slots) : Go Z EL nw R Post K h S k n pc L st := by
  obtain ⟨hd, rfl⟩ := hd
  refine Go.callG (len := 3) G c hS0 w5 w6 hf hl hcc hss (fun T vm0 locs X hZ hown e hK hpre => ?_) f
  exact superBackS X G.1 hZ hown w1 (same_of_nf nf w3 hy) w3 w4 hy1 hK e (Ins.self E) (g := mkF K.m pc L.toArray st) rfl (by rw [G.2.2.1]; simpa using hL) w5 (lenOf pd hln) hst (by show 2 * 0 + _ ≤ _; omega) (hb G.2.1 hd) hpre
theorem Good.callS0 (G : Good Z a0 EL K own code maxL ret nm) (hd : Dc code pc (.invokestatic index) 3 pc') (w1 : (Cond.methodLink own index y).before a0 Z = true) (w2 : (Cond.static y).before a0 Z = true) (w3 : (Cond.initialized y.cls).before a0 Z = true) (w4 : (Cond.code y bytes maxL' ret').before a0 Z = true) (pd : parseMethodDescriptor y.desc = some ⟨ps, rr⟩) (c : Con K.l Z EL nw y bytes maxL' ret' [] rm #[] h S0 Post') (hS0 : ∀ x ∈ S0, x ∈ S) (f : ∀ v h' S', Post' v h' S' → h.size ≤ h'.size → Go Z EL nw R Post K h' (S' ++ S) (k + rm.cells) (n + rm.slots) pc' L (v.toList ++ rest)) (hln : 0 = ps.length := by rfl) (hy : y.cls ≠ "java/lang/invoke/MethodHandle" ∧ y.cls ≠ "java/lang/invoke/VarHandle" := by decide) (hL : L.length = maxL := by rfl) (hf : rm.frames + 1 ≤ R.frames := by decide) (hl : (rest.map fun v => v.category).sum + (maxL' + 11) + rm.locals ≤ R.locals := by exact Nat.le_of_ble_eq_true rfl) (hcc : k + rm.cells ≤ R.cells := by decide) (hss : n + rm.slots ≤ R.slots := by decide) : Go Z EL nw R Post K h S k n pc L (rest) := G.callS [] hd w1 w2 w3 w4 pd c hS0 rfl hln f hy hL hf hl hcc hss
theorem Good.callS1 (G : Good Z a0 EL K own code maxL ret nm) {v1 : Value} (hd : Dc code pc (.invokestatic index) 3 pc') (w1 : (Cond.methodLink own index y).before a0 Z = true) (w2 : (Cond.static y).before a0 Z = true) (w3 : (Cond.initialized y.cls).before a0 Z = true) (w4 : (Cond.code y bytes maxL' ret').before a0 Z = true) (pd : parseMethodDescriptor y.desc = some ⟨ps, rr⟩) (c : Con K.l Z EL nw y bytes maxL' ret' [] rm #[v1] h S0 Post') (hS0 : ∀ x ∈ S0, x ∈ S) (f : ∀ v h' S', Post' v h' S' → h.size ≤ h'.size → Go Z EL nw R Post K h' (S' ++ S) (k + rm.cells) (n + rm.slots) pc' L (v.toList ++ rest)) (hln : 1 = ps.length := by rfl) (hy : y.cls ≠ "java/lang/invoke/MethodHandle" ∧ y.cls ≠ "java/lang/invoke/VarHandle" := by decide) (hL : L.length = maxL := by rfl) (hf : rm.frames + 1 ≤ R.frames := by decide) (hl : (rest.map fun v => v.category).sum + (maxL' + 11) + rm.locals ≤ R.locals := by exact Nat.le_of_ble_eq_true rfl) (hcc : k + rm.cells ≤ R.cells := by decide) (hss : n + rm.slots ≤ R.slots := by decide) : Go Z EL nw R Post K h S k n pc L (v1 :: rest) := G.callS [v1] hd w1 w2 w3 w4 pd c hS0 rfl hln f hy hL hf hl hcc hss
theorem Good.callS2 (G : Good Z a0 EL K own code maxL ret nm) {v1 v2 : Value} (hd : Dc code pc (.invokestatic index) 3 pc') (w1 : (Cond.methodLink own index y).before a0 Z = true) (w2 : (Cond.static y).before a0 Z = true) (w3 : (Cond.initialized y.cls).before a0 Z = true) (w4 : (Cond.code y bytes maxL' ret').before a0 Z = true) (pd : parseMethodDescriptor y.desc = some ⟨ps, rr⟩) (c : Con K.l Z EL nw y bytes maxL' ret' [] rm #[v1, v2] h S0 Post') (hS0 : ∀ x ∈ S0, x ∈ S) (f : ∀ v h' S', Post' v h' S' → h.size ≤ h'.size → Go Z EL nw R Post K h' (S' ++ S) (k + rm.cells) (n + rm.slots) pc' L (v.toList ++ rest)) (hln : 2 = ps.length := by rfl) (hy : y.cls ≠ "java/lang/invoke/MethodHandle" ∧ y.cls ≠ "java/lang/invoke/VarHandle" := by decide) (hL : L.length = maxL := by rfl) (hf : rm.frames + 1 ≤ R.frames := by decide) (hl : (rest.map fun v => v.category).sum + (maxL' + 11) + rm.locals ≤ R.locals := by exact Nat.le_of_ble_eq_true rfl) (hcc : k + rm.cells ≤ R.cells := by decide) (hss : n + rm.slots ≤ R.slots := by decide) : Go Z EL nw R Post K h S k n pc L (v2 :: v1 :: rest) := G.callS [v1, v2] hd w1 w2 w3 w4 pd c hS0 rfl hln f hy hL hf hl hcc hss
theorem Good.callS3 (G : Good Z a0 EL K own code maxL ret nm) {v1 v2 v3 : Value} (hd : Dc code pc (.invokestatic index) 3 pc') (w1 : (Cond.methodLink own index y).before a0 Z = true) (w2 : (Cond.static y).before a0 Z = true) (w3 : (Cond.initialized y.cls).before a0 Z = true) (w4 : (Cond.code y bytes maxL' ret').before a0 Z = true) (pd : parseMethodDescriptor y.desc = some ⟨ps, rr⟩) (c : Con K.l Z EL nw y bytes maxL' ret' [] rm #[v1, v2, v3] h S0 Post') (hS0 : ∀ x ∈ S0, x ∈ S) (f : ∀ v h' S', Post' v h' S' → h.size ≤ h'.size → Go Z EL nw R Post K h' (S' ++ S) (k + rm.cells) (n + rm.slots) pc' L (v.toList ++ rest)) (hln : 3 = ps.length := by rfl) (hy : y.cls ≠ "java/lang/invoke/MethodHandle" ∧ y.cls ≠ "java/lang/invoke/VarHandle" := by decide) (hL : L.length = maxL := by rfl) (hf : rm.frames + 1 ≤ R.frames := by decide) (hl : (rest.map fun v => v.category).sum + (maxL' + 11) + rm.locals ≤ R.locals := by exact Nat.le_of_ble_eq_true rfl) (hcc : k + rm.cells ≤ R.cells := by decide) (hss : n + rm.slots ≤ R.slots := by decide) : Go Z EL nw R Post K h S k n pc L (v3 :: v2 :: v1 :: rest) := G.callS [v1, v2, v3] hd w1 w2 w3 w4 pd c hS0 rfl hln f hy hL hf hl hcc hss
theorem Good.callS4 (G : Good Z a0 EL K own code maxL ret nm) {v1 v2 v3 v4 : Value} (hd : Dc code pc (.invokestatic index) 3 pc') (w1 : (Cond.methodLink own index y).before a0 Z = true) (w2 : (Cond.static y).before a0 Z = true) (w3 : (Cond.initialized y.cls).before a0 Z = true) (w4 : (Cond.code y bytes maxL' ret').before a0 Z = true) (pd : parseMethodDescriptor y.desc = some ⟨ps, rr⟩) (c : Con K.l Z EL nw y bytes maxL' ret' [] rm #[v1, v2, v3, v4] h S0 Post') (hS0 : ∀ x ∈ S0, x ∈ S) (f : ∀ v h' S', Post' v h' S' → h.size ≤ h'.size → Go Z EL nw R Post K h' (S' ++ S) (k + rm.cells) (n + rm.slots) pc' L (v.toList ++ rest)) (hln : 4 = ps.length := by rfl) (hy : y.cls ≠ "java/lang/invoke/MethodHandle" ∧ y.cls ≠ "java/lang/invoke/VarHandle" := by decide) (hL : L.length = maxL := by rfl) (hf : rm.frames + 1 ≤ R.frames := by decide) (hl : (rest.map fun v => v.category).sum + (maxL' + 11) + rm.locals ≤ R.locals := by exact Nat.le_of_ble_eq_true rfl) (hcc : k + rm.cells ≤ R.cells := by decide) (hss : n + rm.slots ≤ R.slots := by decide) : Go Z EL nw R Post K h S k n pc L (v4 :: v3 :: v2 :: v1 :: rest) := G.callS [v1, v2, v3, v4] hd w1 w2 w3 w4 pd c hS0 rfl hln f hy hL hf hl hcc hss
theorem Good.callS5 (G : Good Z a0 EL K own code maxL ret nm) {v1 v2 v3 v4 v5 : Value} (hd : Dc code pc (.invokestatic index) 3 pc') (w1 : (Cond.methodLink own index y).before a0 Z = true) (w2 : (Cond.static y).before a0 Z = true) (w3 : (Cond.initialized y.cls).before a0 Z = true) (w4 : (Cond.code y bytes maxL' ret').before a0 Z = true) (pd : parseMethodDescriptor y.desc = some ⟨ps, rr⟩) (c : Con K.l Z EL nw y bytes maxL' ret' [] rm #[v1, v2, v3, v4, v5] h S0 Post') (hS0 : ∀ x ∈ S0, x ∈ S) (f : ∀ v h' S', Post' v h' S' → h.size ≤ h'.size → Go Z EL nw R Post K h' (S' ++ S) (k + rm.cells) (n + rm.slots) pc' L (v.toList ++ rest)) (hln : 5 = ps.length := by rfl) (hy : y.cls ≠ "java/lang/invoke/MethodHandle" ∧ y.cls ≠ "java/lang/invoke/VarHandle" := by decide) (hL : L.length = maxL := by rfl) (hf : rm.frames + 1 ≤ R.frames := by decide) (hl : (rest.map fun v => v.category).sum + (maxL' + 11) + rm.locals ≤ R.locals := by exact Nat.le_of_ble_eq_true rfl) (hcc : k + rm.cells ≤ R.cells := by decide) (hss : n + rm.slots ≤ R.slots := by decide) : Go Z EL nw R Post K h S k n pc L (v5 :: v4 :: v3 :: v2 :: v1 :: rest) := G.callS [v1, v2, v3, v4, v5] hd w1 w2 w3 w4 pd c hS0 rfl hln f hy hL hf hl hcc hss
theorem Good.callS6 (G : Good Z a0 EL K own code maxL ret nm) {v1 v2 v3 v4 v5 v6 : Value} (hd : Dc code pc (.invokestatic index) 3 pc') (w1 : (Cond.methodLink own index y).before a0 Z = true) (w2 : (Cond.static y).before a0 Z = true) (w3 : (Cond.initialized y.cls).before a0 Z = true) (w4 : (Cond.code y bytes maxL' ret').before a0 Z = true) (pd : parseMethodDescriptor y.desc = some ⟨ps, rr⟩) (c : Con K.l Z EL nw y bytes maxL' ret' [] rm #[v1, v2, v3, v4, v5, v6] h S0 Post') (hS0 : ∀ x ∈ S0, x ∈ S) (f : ∀ v h' S', Post' v h' S' → h.size ≤ h'.size → Go Z EL nw R Post K h' (S' ++ S) (k + rm.cells) (n + rm.slots) pc' L (v.toList ++ rest)) (hln : 6 = ps.length := by rfl) (hy : y.cls ≠ "java/lang/invoke/MethodHandle" ∧ y.cls ≠ "java/lang/invoke/VarHandle" := by decide) (hL : L.length = maxL := by rfl) (hf : rm.frames + 1 ≤ R.frames := by decide) (hl : (rest.map fun v => v.category).sum + (maxL' + 11) + rm.locals ≤ R.locals := by exact Nat.le_of_ble_eq_true rfl) (hcc : k + rm.cells ≤ R.cells := by decide) (hss : n + rm.slots ≤ R.slots := by decide) : Go Z EL nw R Post K h S k n pc L (v6 :: v5 :: v4 :: v3 :: v2 :: v1 :: rest) := G.callS [v1, v2, v3, v4, v5, v6] hd w1 w2 w3 w4 pd c hS0 rfl hln f hy hL hf hl hcc hss
theorem Good.callS7 (G : Good Z a0 EL K own code maxL ret nm) {v1 v2 v3 v4 v5 v6 v7 : Value} (hd : Dc code pc (.invokestatic index) 3 pc') (w1 : (Cond.methodLink own index y).before a0 Z = true) (w2 : (Cond.static y).before a0 Z = true) (w3 : (Cond.initialized y.cls).before a0 Z = true) (w4 : (Cond.code y bytes maxL' ret').before a0 Z = true) (pd : parseMethodDescriptor y.desc = some ⟨ps, rr⟩) (c : Con K.l Z EL nw y bytes maxL' ret' [] rm #[v1, v2, v3, v4, v5, v6, v7] h S0 Post') (hS0 : ∀ x ∈ S0, x ∈ S) (f : ∀ v h' S', Post' v h' S' → h.size ≤ h'.size → Go Z EL nw R Post K h' (S' ++ S) (k + rm.cells) (n + rm.slots) pc' L (v.toList ++ rest)) (hln : 7 = ps.length := by rfl) (hy : y.cls ≠ "java/lang/invoke/MethodHandle" ∧ y.cls ≠ "java/lang/invoke/VarHandle" := by decide) (hL : L.length = maxL := by rfl) (hf : rm.frames + 1 ≤ R.frames := by decide) (hl : (rest.map fun v => v.category).sum + (maxL' + 11) + rm.locals ≤ R.locals := by exact Nat.le_of_ble_eq_true rfl) (hcc : k + rm.cells ≤ R.cells := by decide) (hss : n + rm.slots ≤ R.slots := by decide) : Go Z EL nw R Post K h S k n pc L (v7 :: v6 :: v5 :: v4 :: v3 :: v2 :: v1 :: rest) := G.callS [v1, v2, v3, v4, v5, v6, v7] hd w1 w2 w3 w4 pd c hS0 rfl hln f hy hL hf hl hcc hss
theorem Good.callI0 (G : Good Z a0 EL K own code maxL ret nm) (hd : Dc code pc (.invokespecial index) 3 pc') (w1 : (Cond.methodLink own index y).before a0 Z = true) (w2 : (Cond.instanceMethod y).before a0 Z = true) (w3 : (Cond.initialized y.cls).before a0 Z = true) (w4 : (Cond.code y bytes maxL' none).before a0 Z = true) (pd : parseMethodDescriptor y.desc = some ⟨ps, rr⟩) (c : Con K.l Z EL nw y bytes maxL' none [] rm #[.ref a] h S0 Post') (hS0 : ∀ x ∈ S0, x ∈ S) (f : ∀ v h' S', Post' v h' S' → h.size ≤ h'.size → Go Z EL nw R Post K h' (S' ++ S) (k + rm.cells) (n + rm.slots) pc' L (v.toList ++ rest)) (hy1 : y.name = "<init>" := by rfl) (hln : 0 = ps.length := by rfl) (hy : y.cls ≠ "java/lang/invoke/MethodHandle" ∧ y.cls ≠ "java/lang/invoke/VarHandle" := by decide) (hL : L.length = maxL := by rfl) (hf : rm.frames + 1 ≤ R.frames := by decide) (hl : (rest.map fun v => v.category).sum + (maxL' + 11) + rm.locals ≤ R.locals := by exact Nat.le_of_ble_eq_true rfl) (hcc : k + rm.cells ≤ R.cells := by decide) (hss : n + rm.slots ≤ R.slots := by decide) : Go Z EL nw R Post K h S k n pc L (.ref a :: rest) := G.callI [] hd w1 w2 w3 w4 pd c hS0 rfl hln f hy1 hy hL hf hl hcc hss
theorem Good.callV0 (G : Good Z a0 EL K own code maxL ret nm) (hd : Dc code pc (.invokevirtual index) 3 pc') (w1 : (Cond.methodLink own index y).before a0 Z = true) (w2 : (Cond.declares y).before a0 Z = true) (w3 : (Cond.selects C y y).before a0 Z = true) (w4 : (Cond.instanceMethod y).before a0 Z = true) (w5 : (Cond.code y bytes maxL' ret').before a0 Z = true) (w6 : (Cond.initialized y.cls).before a0 Z = true) (pd : parseMethodDescriptor y.desc = some ⟨ps, rr⟩) (E : Exa Z h a C) (c : Con K.l Z EL nw y bytes maxL' ret' [] rm #[.ref a] h S0 Post') (hS0 : ∀ x ∈ S0, x ∈ S) (f : ∀ v h' S', Post' v h' S' → h.size ≤ h'.size → Go Z EL nw R Post K h' (S' ++ S) (k + rm.cells) (n + rm.slots) pc' L (v.toList ++ rest)) (hln : 0 = ps.length := by rfl) (hy : y.cls ≠ "java/lang/invoke/MethodHandle" ∧ y.cls ≠ "java/lang/invoke/VarHandle" := by decide) (hL : L.length = maxL := by rfl) (hf : rm.frames + 1 ≤ R.frames := by decide) (hl : (rest.map fun v => v.category).sum + (maxL' + 11) + rm.locals ≤ R.locals := by exact Nat.le_of_ble_eq_true rfl) (hcc : k + rm.cells ≤ R.cells := by decide) (hss : n + rm.slots ≤ R.slots := by decide) : Go Z EL nw R Post K h S k n pc L (.ref a :: rest) := G.callV (Nf.sel w3) [] hd w1 w2 w3 w4 w5 w6 pd E c hS0 rfl hln f hy hL hf hl hcc hss
theorem Good.callW0 (G : Good Z a0 EL K own code maxL ret nm) (nf : Nf Z y) (hd : Dc code pc (.invokevirtual index) 3 pc') (w1 : (Cond.methodLink own index y).before a0 Z = true) (w2 : (Cond.declares y).before a0 Z = true) (w3 : (Cond.selects C y z).before a0 Z = true) (w4 : (Cond.instanceMethod z).before a0 Z = true) (w5 : (Cond.code z bytes maxL' ret').before a0 Z = true) (w6 : (Cond.initialized z.cls).before a0 Z = true) (pd : parseMethodDescriptor y.desc = some ⟨ps, rr⟩) (E : Exa Z h a C) (c : Con K.l Z EL nw z bytes maxL' ret' [] rm #[.ref a] h S0 Post') (hS0 : ∀ x ∈ S0, x ∈ S) (f : ∀ v h' S', Post' v h' S' → h.size ≤ h'.size → Go Z EL nw R Post K h' (S' ++ S) (k + rm.cells) (n + rm.slots) pc' L (v.toList ++ rest)) (hln : 0 = ps.length := by rfl) (hy : y.cls ≠ "java/lang/invoke/MethodHandle" ∧ y.cls ≠ "java/lang/invoke/VarHandle" := by decide) (hL : L.length = maxL := by rfl) (hf : rm.frames + 1 ≤ R.frames := by decide) (hl : (rest.map fun v => v.category).sum + (maxL' + 11) + rm.locals ≤ R.locals := by exact Nat.le_of_ble_eq_true rfl) (hcc : k + rm.cells ≤ R.cells := by decide) (hss : n + rm.slots ≤ R.slots := by decide) : Go Z EL nw R Post K h S k n pc L (.ref a :: rest) := G.callV nf [] hd w1 w2 w3 w4 w5 w6 pd E c hS0 rfl hln f hy hL hf hl hcc hss
theorem Good.callP0 (G : Good Z a0 EL K own code maxL ret nm) (hd : Dc code pc (.invokevirtual index) 3 pc') (w1 : (Cond.methodLink own index y).before a0 Z = true) (w2 : (Cond.instanceMethod y).before a0 Z = true) (w3 : (Cond.privateMethod y).before a0 Z = true) (w4 : (Cond.code y bytes maxL' ret').before a0 Z = true) (w5 : (Cond.initialized y.cls).before a0 Z = true) (nf : Nf Z y) (pd : parseMethodDescriptor y.desc = some ⟨ps, rr⟩) (E : Exa Z h a C) (c : Con K.l Z EL nw y bytes maxL' ret' [] rm #[.ref a] h S0 Post') (hS0 : ∀ x ∈ S0, x ∈ S) (f : ∀ v h' S', Post' v h' S' → h.size ≤ h'.size → Go Z EL nw R Post K h' (S' ++ S) (k + rm.cells) (n + rm.slots) pc' L (v.toList ++ rest)) (hln : 0 = ps.length := by rfl) (hy : y.cls ≠ "java/lang/invoke/MethodHandle" ∧ y.cls ≠ "java/lang/invoke/VarHandle" := by decide) (hL : L.length = maxL := by rfl) (hf : rm.frames + 1 ≤ R.frames := by decide) (hl : (rest.map fun v => v.category).sum + (maxL' + 11) + rm.locals ≤ R.locals := by exact Nat.le_of_ble_eq_true rfl) (hcc : k + rm.cells ≤ R.cells := by decide) (hss : n + rm.slots ≤ R.slots := by decide) : Go Z EL nw R Post K h S k n pc L (.ref a :: rest) := G.callP [] hd w1 w2 w3 w4 w5 nf pd E c hS0 rfl hln f hy hL hf hl hcc hss
theorem Good.callF0 (G : Good Z a0 EL K own code maxL ret nm) {count : Nat} (hd : Dc code pc (.invokeinterface index count) 5 pc') (w1 : (Cond.methodLink own index y).before a0 Z = true) (w2 : (Cond.declares y).before a0 Z = true) (w3 : (Cond.interfaceMethod y.cls y.cls y.name y.desc).before a0 Z = true) (w4 : (Cond.selects C y z).before a0 Z = true) (w5 : (Cond.instanceMethod z).before a0 Z = true) (w6 : (Cond.publicMethod z).before a0 Z = true) (w7 : (Cond.unhidden C y.name y.desc).before a0 Z = true) (w8 : (Cond.castable C y.cls).before a0 Z = true) (w9 : (Cond.code z bytes maxL' ret').before a0 Z = true) (w10 : (Cond.initialized z.cls).before a0 Z = true) (pd : parseMethodDescriptor y.desc = some ⟨ps, rr⟩) (E : Exa Z h a C) (c : Con K.l Z EL nw z bytes maxL' ret' [] rm #[.ref a] h S0 Post') (hS0 : ∀ x ∈ S0, x ∈ S) (f : ∀ v h' S', Post' v h' S' → h.size ≤ h'.size → Go Z EL nw R Post K h' (S' ++ S) (k + rm.cells) (n + rm.slots) pc' L (v.toList ++ rest)) (hln : 0 = ps.length := by rfl) (hy : y.cls ≠ "java/lang/invoke/MethodHandle" ∧ y.cls ≠ "java/lang/invoke/VarHandle" := by decide) (hL : L.length = maxL := by rfl) (hf : rm.frames + 1 ≤ R.frames := by decide) (hl : (rest.map fun v => v.category).sum + (maxL' + 11) + rm.locals ≤ R.locals := by exact Nat.le_of_ble_eq_true rfl) (hcc : k + rm.cells ≤ R.cells := by decide) (hss : n + rm.slots ≤ R.slots := by decide) : Go Z EL nw R Post K h S k n pc L (.ref a :: rest) := G.callF [] hd w1 w2 w3 w4 w5 w6 w7 w8 w9 w10 pd E c hS0 rfl hln f hy hL hf hl hcc hss
theorem Good.callI1 (G : Good Z a0 EL K own code maxL ret nm) {v1 : Value} (hd : Dc code pc (.invokespecial index) 3 pc') (w1 : (Cond.methodLink own index y).before a0 Z = true) (w2 : (Cond.instanceMethod y).before a0 Z = true) (w3 : (Cond.initialized y.cls).before a0 Z = true) (w4 : (Cond.code y bytes maxL' none).before a0 Z = true) (pd : parseMethodDescriptor y.desc = some ⟨ps, rr⟩) (c : Con K.l Z EL nw y bytes maxL' none [] rm #[.ref a, v1] h S0 Post') (hS0 : ∀ x ∈ S0, x ∈ S) (f : ∀ v h' S', Post' v h' S' → h.size ≤ h'.size → Go Z EL nw R Post K h' (S' ++ S) (k + rm.cells) (n + rm.slots) pc' L (v.toList ++ rest)) (hy1 : y.name = "<init>" := by rfl) (hln : 1 = ps.length := by rfl) (hy : y.cls ≠ "java/lang/invoke/MethodHandle" ∧ y.cls ≠ "java/lang/invoke/VarHandle" := by decide) (hL : L.length = maxL := by rfl) (hf : rm.frames + 1 ≤ R.frames := by decide) (hl : (rest.map fun v => v.category).sum + (maxL' + 11) + rm.locals ≤ R.locals := by exact Nat.le_of_ble_eq_true rfl) (hcc : k + rm.cells ≤ R.cells := by decide) (hss : n + rm.slots ≤ R.slots := by decide) : Go Z EL nw R Post K h S k n pc L (v1 :: .ref a :: rest) := G.callI [v1] hd w1 w2 w3 w4 pd c hS0 rfl hln f hy1 hy hL hf hl hcc hss
theorem Good.callV1 (G : Good Z a0 EL K own code maxL ret nm) {v1 : Value} (hd : Dc code pc (.invokevirtual index) 3 pc') (w1 : (Cond.methodLink own index y).before a0 Z = true) (w2 : (Cond.declares y).before a0 Z = true) (w3 : (Cond.selects C y y).before a0 Z = true) (w4 : (Cond.instanceMethod y).before a0 Z = true) (w5 : (Cond.code y bytes maxL' ret').before a0 Z = true) (w6 : (Cond.initialized y.cls).before a0 Z = true) (pd : parseMethodDescriptor y.desc = some ⟨ps, rr⟩) (E : Exa Z h a C) (c : Con K.l Z EL nw y bytes maxL' ret' [] rm #[.ref a, v1] h S0 Post') (hS0 : ∀ x ∈ S0, x ∈ S) (f : ∀ v h' S', Post' v h' S' → h.size ≤ h'.size → Go Z EL nw R Post K h' (S' ++ S) (k + rm.cells) (n + rm.slots) pc' L (v.toList ++ rest)) (hln : 1 = ps.length := by rfl) (hy : y.cls ≠ "java/lang/invoke/MethodHandle" ∧ y.cls ≠ "java/lang/invoke/VarHandle" := by decide) (hL : L.length = maxL := by rfl) (hf : rm.frames + 1 ≤ R.frames := by decide) (hl : (rest.map fun v => v.category).sum + (maxL' + 11) + rm.locals ≤ R.locals := by exact Nat.le_of_ble_eq_true rfl) (hcc : k + rm.cells ≤ R.cells := by decide) (hss : n + rm.slots ≤ R.slots := by decide) : Go Z EL nw R Post K h S k n pc L (v1 :: .ref a :: rest) := G.callV (Nf.sel w3) [v1] hd w1 w2 w3 w4 w5 w6 pd E c hS0 rfl hln f hy hL hf hl hcc hss
theorem Good.callW1 (G : Good Z a0 EL K own code maxL ret nm) (nf : Nf Z y) {v1 : Value} (hd : Dc code pc (.invokevirtual index) 3 pc') (w1 : (Cond.methodLink own index y).before a0 Z = true) (w2 : (Cond.declares y).before a0 Z = true) (w3 : (Cond.selects C y z).before a0 Z = true) (w4 : (Cond.instanceMethod z).before a0 Z = true) (w5 : (Cond.code z bytes maxL' ret').before a0 Z = true) (w6 : (Cond.initialized z.cls).before a0 Z = true) (pd : parseMethodDescriptor y.desc = some ⟨ps, rr⟩) (E : Exa Z h a C) (c : Con K.l Z EL nw z bytes maxL' ret' [] rm #[.ref a, v1] h S0 Post') (hS0 : ∀ x ∈ S0, x ∈ S) (f : ∀ v h' S', Post' v h' S' → h.size ≤ h'.size → Go Z EL nw R Post K h' (S' ++ S) (k + rm.cells) (n + rm.slots) pc' L (v.toList ++ rest)) (hln : 1 = ps.length := by rfl) (hy : y.cls ≠ "java/lang/invoke/MethodHandle" ∧ y.cls ≠ "java/lang/invoke/VarHandle" := by decide) (hL : L.length = maxL := by rfl) (hf : rm.frames + 1 ≤ R.frames := by decide) (hl : (rest.map fun v => v.category).sum + (maxL' + 11) + rm.locals ≤ R.locals := by exact Nat.le_of_ble_eq_true rfl) (hcc : k + rm.cells ≤ R.cells := by decide) (hss : n + rm.slots ≤ R.slots := by decide) : Go Z EL nw R Post K h S k n pc L (v1 :: .ref a :: rest) := G.callV nf [v1] hd w1 w2 w3 w4 w5 w6 pd E c hS0 rfl hln f hy hL hf hl hcc hss
theorem Good.callP1 (G : Good Z a0 EL K own code maxL ret nm) {v1 : Value} (hd : Dc code pc (.invokevirtual index) 3 pc') (w1 : (Cond.methodLink own index y).before a0 Z = true) (w2 : (Cond.instanceMethod y).before a0 Z = true) (w3 : (Cond.privateMethod y).before a0 Z = true) (w4 : (Cond.code y bytes maxL' ret').before a0 Z = true) (w5 : (Cond.initialized y.cls).before a0 Z = true) (nf : Nf Z y) (pd : parseMethodDescriptor y.desc = some ⟨ps, rr⟩) (E : Exa Z h a C) (c : Con K.l Z EL nw y bytes maxL' ret' [] rm #[.ref a, v1] h S0 Post') (hS0 : ∀ x ∈ S0, x ∈ S) (f : ∀ v h' S', Post' v h' S' → h.size ≤ h'.size → Go Z EL nw R Post K h' (S' ++ S) (k + rm.cells) (n + rm.slots) pc' L (v.toList ++ rest)) (hln : 1 = ps.length := by rfl) (hy : y.cls ≠ "java/lang/invoke/MethodHandle" ∧ y.cls ≠ "java/lang/invoke/VarHandle" := by decide) (hL : L.length = maxL := by rfl) (hf : rm.frames + 1 ≤ R.frames := by decide) (hl : (rest.map fun v => v.category).sum + (maxL' + 11) + rm.locals ≤ R.locals := by exact Nat.le_of_ble_eq_true rfl) (hcc : k + rm.cells ≤ R.cells := by decide) (hss : n + rm.slots ≤ R.slots := by decide) : Go Z EL nw R Post K h S k n pc L (v1 :: .ref a :: rest) := G.callP [v1] hd w1 w2 w3 w4 w5 nf pd E c hS0 rfl hln f hy hL hf hl hcc hss
theorem Good.callF1 (G : Good Z a0 EL K own code maxL ret nm) {count : Nat} {v1 : Value} (hd : Dc code pc (.invokeinterface index count) 5 pc') (w1 : (Cond.methodLink own index y).before a0 Z = true) (w2 : (Cond.declares y).before a0 Z = true) (w3 : (Cond.interfaceMethod y.cls y.cls y.name y.desc).before a0 Z = true) (w4 : (Cond.selects C y z).before a0 Z = true) (w5 : (Cond.instanceMethod z).before a0 Z = true) (w6 : (Cond.publicMethod z).before a0 Z = true) (w7 : (Cond.unhidden C y.name y.desc).before a0 Z = true) (w8 : (Cond.castable C y.cls).before a0 Z = true) (w9 : (Cond.code z bytes maxL' ret').before a0 Z = true) (w10 : (Cond.initialized z.cls).before a0 Z = true) (pd : parseMethodDescriptor y.desc = some ⟨ps, rr⟩) (E : Exa Z h a C) (c : Con K.l Z EL nw z bytes maxL' ret' [] rm #[.ref a, v1] h S0 Post') (hS0 : ∀ x ∈ S0, x ∈ S) (f : ∀ v h' S', Post' v h' S' → h.size ≤ h'.size → Go Z EL nw R Post K h' (S' ++ S) (k + rm.cells) (n + rm.slots) pc' L (v.toList ++ rest)) (hln : 1 = ps.length := by rfl) (hy : y.cls ≠ "java/lang/invoke/MethodHandle" ∧ y.cls ≠ "java/lang/invoke/VarHandle" := by decide) (hL : L.length = maxL := by rfl) (hf : rm.frames + 1 ≤ R.frames := by decide) (hl : (rest.map fun v => v.category).sum + (maxL' + 11) + rm.locals ≤ R.locals := by exact Nat.le_of_ble_eq_true rfl) (hcc : k + rm.cells ≤ R.cells := by decide) (hss : n + rm.slots ≤ R.slots := by decide) : Go Z EL nw R Post K h S k n pc L (v1 :: .ref a :: rest) := G.callF [v1] hd w1 w2 w3 w4 w5 w6 w7 w8 w9 w10 pd E c hS0 rfl hln f hy hL hf hl hcc hss
theorem Good.callI2 (G : Good Z a0 EL K own code maxL ret nm) {v1 v2 : Value} (hd : Dc code pc (.invokespecial index) 3 pc') (w1 : (Cond.methodLink own index y).before a0 Z = true) (w2 : (Cond.instanceMethod y).before a0 Z = true) (w3 : (Cond.initialized y.cls).before a0 Z = true) (w4 : (Cond.code y bytes maxL' none).before a0 Z = true) (pd : parseMethodDescriptor y.desc = some ⟨ps, rr⟩) (c : Con K.l Z EL nw y bytes maxL' none [] rm #[.ref a, v1, v2] h S0 Post') (hS0 : ∀ x ∈ S0, x ∈ S) (f : ∀ v h' S', Post' v h' S' → h.size ≤ h'.size → Go Z EL nw R Post K h' (S' ++ S) (k + rm.cells) (n + rm.slots) pc' L (v.toList ++ rest)) (hy1 : y.name = "<init>" := by rfl) (hln : 2 = ps.length := by rfl) (hy : y.cls ≠ "java/lang/invoke/MethodHandle" ∧ y.cls ≠ "java/lang/invoke/VarHandle" := by decide) (hL : L.length = maxL := by rfl) (hf : rm.frames + 1 ≤ R.frames := by decide) (hl : (rest.map fun v => v.category).sum + (maxL' + 11) + rm.locals ≤ R.locals := by exact Nat.le_of_ble_eq_true rfl) (hcc : k + rm.cells ≤ R.cells := by decide) (hss : n + rm.slots ≤ R.slots := by decide) : Go Z EL nw R Post K h S k n pc L (v2 :: v1 :: .ref a :: rest) := G.callI [v1, v2] hd w1 w2 w3 w4 pd c hS0 rfl hln f hy1 hy hL hf hl hcc hss
theorem Good.callV2 (G : Good Z a0 EL K own code maxL ret nm) {v1 v2 : Value} (hd : Dc code pc (.invokevirtual index) 3 pc') (w1 : (Cond.methodLink own index y).before a0 Z = true) (w2 : (Cond.declares y).before a0 Z = true) (w3 : (Cond.selects C y y).before a0 Z = true) (w4 : (Cond.instanceMethod y).before a0 Z = true) (w5 : (Cond.code y bytes maxL' ret').before a0 Z = true) (w6 : (Cond.initialized y.cls).before a0 Z = true) (pd : parseMethodDescriptor y.desc = some ⟨ps, rr⟩) (E : Exa Z h a C) (c : Con K.l Z EL nw y bytes maxL' ret' [] rm #[.ref a, v1, v2] h S0 Post') (hS0 : ∀ x ∈ S0, x ∈ S) (f : ∀ v h' S', Post' v h' S' → h.size ≤ h'.size → Go Z EL nw R Post K h' (S' ++ S) (k + rm.cells) (n + rm.slots) pc' L (v.toList ++ rest)) (hln : 2 = ps.length := by rfl) (hy : y.cls ≠ "java/lang/invoke/MethodHandle" ∧ y.cls ≠ "java/lang/invoke/VarHandle" := by decide) (hL : L.length = maxL := by rfl) (hf : rm.frames + 1 ≤ R.frames := by decide) (hl : (rest.map fun v => v.category).sum + (maxL' + 11) + rm.locals ≤ R.locals := by exact Nat.le_of_ble_eq_true rfl) (hcc : k + rm.cells ≤ R.cells := by decide) (hss : n + rm.slots ≤ R.slots := by decide) : Go Z EL nw R Post K h S k n pc L (v2 :: v1 :: .ref a :: rest) := G.callV (Nf.sel w3) [v1, v2] hd w1 w2 w3 w4 w5 w6 pd E c hS0 rfl hln f hy hL hf hl hcc hss
theorem Good.callW2 (G : Good Z a0 EL K own code maxL ret nm) (nf : Nf Z y) {v1 v2 : Value} (hd : Dc code pc (.invokevirtual index) 3 pc') (w1 : (Cond.methodLink own index y).before a0 Z = true) (w2 : (Cond.declares y).before a0 Z = true) (w3 : (Cond.selects C y z).before a0 Z = true) (w4 : (Cond.instanceMethod z).before a0 Z = true) (w5 : (Cond.code z bytes maxL' ret').before a0 Z = true) (w6 : (Cond.initialized z.cls).before a0 Z = true) (pd : parseMethodDescriptor y.desc = some ⟨ps, rr⟩) (E : Exa Z h a C) (c : Con K.l Z EL nw z bytes maxL' ret' [] rm #[.ref a, v1, v2] h S0 Post') (hS0 : ∀ x ∈ S0, x ∈ S) (f : ∀ v h' S', Post' v h' S' → h.size ≤ h'.size → Go Z EL nw R Post K h' (S' ++ S) (k + rm.cells) (n + rm.slots) pc' L (v.toList ++ rest)) (hln : 2 = ps.length := by rfl) (hy : y.cls ≠ "java/lang/invoke/MethodHandle" ∧ y.cls ≠ "java/lang/invoke/VarHandle" := by decide) (hL : L.length = maxL := by rfl) (hf : rm.frames + 1 ≤ R.frames := by decide) (hl : (rest.map fun v => v.category).sum + (maxL' + 11) + rm.locals ≤ R.locals := by exact Nat.le_of_ble_eq_true rfl) (hcc : k + rm.cells ≤ R.cells := by decide) (hss : n + rm.slots ≤ R.slots := by decide) : Go Z EL nw R Post K h S k n pc L (v2 :: v1 :: .ref a :: rest) := G.callV nf [v1, v2] hd w1 w2 w3 w4 w5 w6 pd E c hS0 rfl hln f hy hL hf hl hcc hss
theorem Good.callP2 (G : Good Z a0 EL K own code maxL ret nm) {v1 v2 : Value} (hd : Dc code pc (.invokevirtual index) 3 pc') (w1 : (Cond.methodLink own index y).before a0 Z = true) (w2 : (Cond.instanceMethod y).before a0 Z = true) (w3 : (Cond.privateMethod y).before a0 Z = true) (w4 : (Cond.code y bytes maxL' ret').before a0 Z = true) (w5 : (Cond.initialized y.cls).before a0 Z = true) (nf : Nf Z y) (pd : parseMethodDescriptor y.desc = some ⟨ps, rr⟩) (E : Exa Z h a C) (c : Con K.l Z EL nw y bytes maxL' ret' [] rm #[.ref a, v1, v2] h S0 Post') (hS0 : ∀ x ∈ S0, x ∈ S) (f : ∀ v h' S', Post' v h' S' → h.size ≤ h'.size → Go Z EL nw R Post K h' (S' ++ S) (k + rm.cells) (n + rm.slots) pc' L (v.toList ++ rest)) (hln : 2 = ps.length := by rfl) (hy : y.cls ≠ "java/lang/invoke/MethodHandle" ∧ y.cls ≠ "java/lang/invoke/VarHandle" := by decide) (hL : L.length = maxL := by rfl) (hf : rm.frames + 1 ≤ R.frames := by decide) (hl : (rest.map fun v => v.category).sum + (maxL' + 11) + rm.locals ≤ R.locals := by exact Nat.le_of_ble_eq_true rfl) (hcc : k + rm.cells ≤ R.cells := by decide) (hss : n + rm.slots ≤ R.slots := by decide) : Go Z EL nw R Post K h S k n pc L (v2 :: v1 :: .ref a :: rest) := G.callP [v1, v2] hd w1 w2 w3 w4 w5 nf pd E c hS0 rfl hln f hy hL hf hl hcc hss
theorem Good.callF2 (G : Good Z a0 EL K own code maxL ret nm) {count : Nat} {v1 v2 : Value} (hd : Dc code pc (.invokeinterface index count) 5 pc') (w1 : (Cond.methodLink own index y).before a0 Z = true) (w2 : (Cond.declares y).before a0 Z = true) (w3 : (Cond.interfaceMethod y.cls y.cls y.name y.desc).before a0 Z = true) (w4 : (Cond.selects C y z).before a0 Z = true) (w5 : (Cond.instanceMethod z).before a0 Z = true) (w6 : (Cond.publicMethod z).before a0 Z = true) (w7 : (Cond.unhidden C y.name y.desc).before a0 Z = true) (w8 : (Cond.castable C y.cls).before a0 Z = true) (w9 : (Cond.code z bytes maxL' ret').before a0 Z = true) (w10 : (Cond.initialized z.cls).before a0 Z = true) (pd : parseMethodDescriptor y.desc = some ⟨ps, rr⟩) (E : Exa Z h a C) (c : Con K.l Z EL nw z bytes maxL' ret' [] rm #[.ref a, v1, v2] h S0 Post') (hS0 : ∀ x ∈ S0, x ∈ S) (f : ∀ v h' S', Post' v h' S' → h.size ≤ h'.size → Go Z EL nw R Post K h' (S' ++ S) (k + rm.cells) (n + rm.slots) pc' L (v.toList ++ rest)) (hln : 2 = ps.length := by rfl) (hy : y.cls ≠ "java/lang/invoke/MethodHandle" ∧ y.cls ≠ "java/lang/invoke/VarHandle" := by decide) (hL : L.length = maxL := by rfl) (hf : rm.frames + 1 ≤ R.frames := by decide) (hl : (rest.map fun v => v.category).sum + (maxL' + 11) + rm.locals ≤ R.locals := by exact Nat.le_of_ble_eq_true rfl) (hcc : k + rm.cells ≤ R.cells := by decide) (hss : n + rm.slots ≤ R.slots := by decide) : Go Z EL nw R Post K h S k n pc L (v2 :: v1 :: .ref a :: rest) := G.callF [v1, v2] hd w1 w2 w3 w4 w5 w6 w7 w8 w9 w10 pd E c hS0 rfl hln f hy hL hf hl hcc hss
theorem Good.callI3 (G : Good Z a0 EL K own code maxL ret nm) {v1 v2 v3 : Value} (hd : Dc code pc (.invokespecial index) 3 pc') (w1 : (Cond.methodLink own index y).before a0 Z = true) (w2 : (Cond.instanceMethod y).before a0 Z = true) (w3 : (Cond.initialized y.cls).before a0 Z = true) (w4 : (Cond.code y bytes maxL' none).before a0 Z = true) (pd : parseMethodDescriptor y.desc = some ⟨ps, rr⟩) (c : Con K.l Z EL nw y bytes maxL' none [] rm #[.ref a, v1, v2, v3] h S0 Post') (hS0 : ∀ x ∈ S0, x ∈ S) (f : ∀ v h' S', Post' v h' S' → h.size ≤ h'.size → Go Z EL nw R Post K h' (S' ++ S) (k + rm.cells) (n + rm.slots) pc' L (v.toList ++ rest)) (hy1 : y.name = "<init>" := by rfl) (hln : 3 = ps.length := by rfl) (hy : y.cls ≠ "java/lang/invoke/MethodHandle" ∧ y.cls ≠ "java/lang/invoke/VarHandle" := by decide) (hL : L.length = maxL := by rfl) (hf : rm.frames + 1 ≤ R.frames := by decide) (hl : (rest.map fun v => v.category).sum + (maxL' + 11) + rm.locals ≤ R.locals := by exact Nat.le_of_ble_eq_true rfl) (hcc : k + rm.cells ≤ R.cells := by decide) (hss : n + rm.slots ≤ R.slots := by decide) : Go Z EL nw R Post K h S k n pc L (v3 :: v2 :: v1 :: .ref a :: rest) := G.callI [v1, v2, v3] hd w1 w2 w3 w4 pd c hS0 rfl hln f hy1 hy hL hf hl hcc hss
theorem Good.callV3 (G : Good Z a0 EL K own code maxL ret nm) {v1 v2 v3 : Value} (hd : Dc code pc (.invokevirtual index) 3 pc') (w1 : (Cond.methodLink own index y).before a0 Z = true) (w2 : (Cond.declares y).before a0 Z = true) (w3 : (Cond.selects C y y).before a0 Z = true) (w4 : (Cond.instanceMethod y).before a0 Z = true) (w5 : (Cond.code y bytes maxL' ret').before a0 Z = true) (w6 : (Cond.initialized y.cls).before a0 Z = true) (pd : parseMethodDescriptor y.desc = some ⟨ps, rr⟩) (E : Exa Z h a C) (c : Con K.l Z EL nw y bytes maxL' ret' [] rm #[.ref a, v1, v2, v3] h S0 Post') (hS0 : ∀ x ∈ S0, x ∈ S) (f : ∀ v h' S', Post' v h' S' → h.size ≤ h'.size → Go Z EL nw R Post K h' (S' ++ S) (k + rm.cells) (n + rm.slots) pc' L (v.toList ++ rest)) (hln : 3 = ps.length := by rfl) (hy : y.cls ≠ "java/lang/invoke/MethodHandle" ∧ y.cls ≠ "java/lang/invoke/VarHandle" := by decide) (hL : L.length = maxL := by rfl) (hf : rm.frames + 1 ≤ R.frames := by decide) (hl : (rest.map fun v => v.category).sum + (maxL' + 11) + rm.locals ≤ R.locals := by exact Nat.le_of_ble_eq_true rfl) (hcc : k + rm.cells ≤ R.cells := by decide) (hss : n + rm.slots ≤ R.slots := by decide) : Go Z EL nw R Post K h S k n pc L (v3 :: v2 :: v1 :: .ref a :: rest) := G.callV (Nf.sel w3) [v1, v2, v3] hd w1 w2 w3 w4 w5 w6 pd E c hS0 rfl hln f hy hL hf hl hcc hss
theorem Good.callW3 (G : Good Z a0 EL K own code maxL ret nm) (nf : Nf Z y) {v1 v2 v3 : Value} (hd : Dc code pc (.invokevirtual index) 3 pc') (w1 : (Cond.methodLink own index y).before a0 Z = true) (w2 : (Cond.declares y).before a0 Z = true) (w3 : (Cond.selects C y z).before a0 Z = true) (w4 : (Cond.instanceMethod z).before a0 Z = true) (w5 : (Cond.code z bytes maxL' ret').before a0 Z = true) (w6 : (Cond.initialized z.cls).before a0 Z = true) (pd : parseMethodDescriptor y.desc = some ⟨ps, rr⟩) (E : Exa Z h a C) (c : Con K.l Z EL nw z bytes maxL' ret' [] rm #[.ref a, v1, v2, v3] h S0 Post') (hS0 : ∀ x ∈ S0, x ∈ S) (f : ∀ v h' S', Post' v h' S' → h.size ≤ h'.size → Go Z EL nw R Post K h' (S' ++ S) (k + rm.cells) (n + rm.slots) pc' L (v.toList ++ rest)) (hln : 3 = ps.length := by rfl) (hy : y.cls ≠ "java/lang/invoke/MethodHandle" ∧ y.cls ≠ "java/lang/invoke/VarHandle" := by decide) (hL : L.length = maxL := by rfl) (hf : rm.frames + 1 ≤ R.frames := by decide) (hl : (rest.map fun v => v.category).sum + (maxL' + 11) + rm.locals ≤ R.locals := by exact Nat.le_of_ble_eq_true rfl) (hcc : k + rm.cells ≤ R.cells := by decide) (hss : n + rm.slots ≤ R.slots := by decide) : Go Z EL nw R Post K h S k n pc L (v3 :: v2 :: v1 :: .ref a :: rest) := G.callV nf [v1, v2, v3] hd w1 w2 w3 w4 w5 w6 pd E c hS0 rfl hln f hy hL hf hl hcc hss
theorem Good.callP3 (G : Good Z a0 EL K own code maxL ret nm) {v1 v2 v3 : Value} (hd : Dc code pc (.invokevirtual index) 3 pc') (w1 : (Cond.methodLink own index y).before a0 Z = true) (w2 : (Cond.instanceMethod y).before a0 Z = true) (w3 : (Cond.privateMethod y).before a0 Z = true) (w4 : (Cond.code y bytes maxL' ret').before a0 Z = true) (w5 : (Cond.initialized y.cls).before a0 Z = true) (nf : Nf Z y) (pd : parseMethodDescriptor y.desc = some ⟨ps, rr⟩) (E : Exa Z h a C) (c : Con K.l Z EL nw y bytes maxL' ret' [] rm #[.ref a, v1, v2, v3] h S0 Post') (hS0 : ∀ x ∈ S0, x ∈ S) (f : ∀ v h' S', Post' v h' S' → h.size ≤ h'.size → Go Z EL nw R Post K h' (S' ++ S) (k + rm.cells) (n + rm.slots) pc' L (v.toList ++ rest)) (hln : 3 = ps.length := by rfl) (hy : y.cls ≠ "java/lang/invoke/MethodHandle" ∧ y.cls ≠ "java/lang/invoke/VarHandle" := by decide) (hL : L.length = maxL := by rfl) (hf : rm.frames + 1 ≤ R.frames := by decide) (hl : (rest.map fun v => v.category).sum + (maxL' + 11) + rm.locals ≤ R.locals := by exact Nat.le_of_ble_eq_true rfl) (hcc : k + rm.cells ≤ R.cells := by decide) (hss : n + rm.slots ≤ R.slots := by decide) : Go Z EL nw R Post K h S k n pc L (v3 :: v2 :: v1 :: .ref a :: rest) := G.callP [v1, v2, v3] hd w1 w2 w3 w4 w5 nf pd E c hS0 rfl hln f hy hL hf hl hcc hss
theorem Good.callF3 (G : Good Z a0 EL K own code maxL ret nm) {count : Nat} {v1 v2 v3 : Value} (hd : Dc code pc (.invokeinterface index count) 5 pc') (w1 : (Cond.methodLink own index y).before a0 Z = true) (w2 : (Cond.declares y).before a0 Z = true) (w3 : (Cond.interfaceMethod y.cls y.cls y.name y.desc).before a0 Z = true) (w4 : (Cond.selects C y z).before a0 Z = true) (w5 : (Cond.instanceMethod z).before a0 Z = true) (w6 : (Cond.publicMethod z).before a0 Z = true) (w7 : (Cond.unhidden C y.name y.desc).before a0 Z = true) (w8 : (Cond.castable C y.cls).before a0 Z = true) (w9 : (Cond.code z bytes maxL' ret').before a0 Z = true) (w10 : (Cond.initialized z.cls).before a0 Z = true) (pd : parseMethodDescriptor y.desc = some ⟨ps, rr⟩) (E : Exa Z h a C) (c : Con K.l Z EL nw z bytes maxL' ret' [] rm #[.ref a, v1, v2, v3] h S0 Post') (hS0 : ∀ x ∈ S0, x ∈ S) (f : ∀ v h' S', Post' v h' S' → h.size ≤ h'.size → Go Z EL nw R Post K h' (S' ++ S) (k + rm.cells) (n + rm.slots) pc' L (v.toList ++ rest)) (hln : 3 = ps.length := by rfl) (hy : y.cls ≠ "java/lang/invoke/MethodHandle" ∧ y.cls ≠ "java/lang/invoke/VarHandle" := by decide) (hL : L.length = maxL := by rfl) (hf : rm.frames + 1 ≤ R.frames := by decide) (hl : (rest.map fun v => v.category).sum + (maxL' + 11) + rm.locals ≤ R.locals := by exact Nat.le_of_ble_eq_true rfl) (hcc : k + rm.cells ≤ R.cells := by decide) (hss : n + rm.slots ≤ R.slots := by decide) : Go Z EL nw R Post K h S k n pc L (v3 :: v2 :: v1 :: .ref a :: rest) := G.callF [v1, v2, v3] hd w1 w2 w3 w4 w5 w6 w7 w8 w9 w10 pd E c hS0 rfl hln f hy hL hf hl hcc hss
theorem Good.callI4 (G : Good Z a0 EL K own code maxL ret nm) {v1 v2 v3 v4 : Value} (hd : Dc code pc (.invokespecial index) 3 pc') (w1 : (Cond.methodLink own index y).before a0 Z = true) (w2 : (Cond.instanceMethod y).before a0 Z = true) (w3 : (Cond.initialized y.cls).before a0 Z = true) (w4 : (Cond.code y bytes maxL' none).before a0 Z = true) (pd : parseMethodDescriptor y.desc = some ⟨ps, rr⟩) (c : Con K.l Z EL nw y bytes maxL' none [] rm #[.ref a, v1, v2, v3, v4] h S0 Post') (hS0 : ∀ x ∈ S0, x ∈ S) (f : ∀ v h' S', Post' v h' S' → h.size ≤ h'.size → Go Z EL nw R Post K h' (S' ++ S) (k + rm.cells) (n + rm.slots) pc' L (v.toList ++ rest)) (hy1 : y.name = "<init>" := by rfl) (hln : 4 = ps.length := by rfl) (hy : y.cls ≠ "java/lang/invoke/MethodHandle" ∧ y.cls ≠ "java/lang/invoke/VarHandle" := by decide) (hL : L.length = maxL := by rfl) (hf : rm.frames + 1 ≤ R.frames := by decide) (hl : (rest.map fun v => v.category).sum + (maxL' + 11) + rm.locals ≤ R.locals := by exact Nat.le_of_ble_eq_true rfl) (hcc : k + rm.cells ≤ R.cells := by decide) (hss : n + rm.slots ≤ R.slots := by decide) : Go Z EL nw R Post K h S k n pc L (v4 :: v3 :: v2 :: v1 :: .ref a :: rest) := G.callI [v1, v2, v3, v4] hd w1 w2 w3 w4 pd c hS0 rfl hln f hy1 hy hL hf hl hcc hss
theorem Good.callV4 (G : Good Z a0 EL K own code maxL ret nm) {v1 v2 v3 v4 : Value} (hd : Dc code pc (.invokevirtual index) 3 pc') (w1 : (Cond.methodLink own index y).before a0 Z = true) (w2 : (Cond.declares y).before a0 Z = true) (w3 : (Cond.selects C y y).before a0 Z = true) (w4 : (Cond.instanceMethod y).before a0 Z = true) (w5 : (Cond.code y bytes maxL' ret').before a0 Z = true) (w6 : (Cond.initialized y.cls).before a0 Z = true) (pd : parseMethodDescriptor y.desc = some ⟨ps, rr⟩) (E : Exa Z h a C) (c : Con K.l Z EL nw y bytes maxL' ret' [] rm #[.ref a, v1, v2, v3, v4] h S0 Post') (hS0 : ∀ x ∈ S0, x ∈ S) (f : ∀ v h' S', Post' v h' S' → h.size ≤ h'.size → Go Z EL nw R Post K h' (S' ++ S) (k + rm.cells) (n + rm.slots) pc' L (v.toList ++ rest)) (hln : 4 = ps.length := by rfl) (hy : y.cls ≠ "java/lang/invoke/MethodHandle" ∧ y.cls ≠ "java/lang/invoke/VarHandle" := by decide) (hL : L.length = maxL := by rfl) (hf : rm.frames + 1 ≤ R.frames := by decide) (hl : (rest.map fun v => v.category).sum + (maxL' + 11) + rm.locals ≤ R.locals := by exact Nat.le_of_ble_eq_true rfl) (hcc : k + rm.cells ≤ R.cells := by decide) (hss : n + rm.slots ≤ R.slots := by decide) : Go Z EL nw R Post K h S k n pc L (v4 :: v3 :: v2 :: v1 :: .ref a :: rest) := G.callV (Nf.sel w3) [v1, v2, v3, v4] hd w1 w2 w3 w4 w5 w6 pd E c hS0 rfl hln f hy hL hf hl hcc hss
theorem Good.callW4 (G : Good Z a0 EL K own code maxL ret nm) (nf : Nf Z y) {v1 v2 v3 v4 : Value} (hd : Dc code pc (.invokevirtual index) 3 pc') (w1 : (Cond.methodLink own index y).before a0 Z = true) (w2 : (Cond.declares y).before a0 Z = true) (w3 : (Cond.selects C y z).before a0 Z = true) (w4 : (Cond.instanceMethod z).before a0 Z = true) (w5 : (Cond.code z bytes maxL' ret').before a0 Z = true) (w6 : (Cond.initialized z.cls).before a0 Z = true) (pd : parseMethodDescriptor y.desc = some ⟨ps, rr⟩) (E : Exa Z h a C) (c : Con K.l Z EL nw z bytes maxL' ret' [] rm #[.ref a, v1, v2, v3, v4] h S0 Post') (hS0 : ∀ x ∈ S0, x ∈ S) (f : ∀ v h' S', Post' v h' S' → h.size ≤ h'.size → Go Z EL nw R Post K h' (S' ++ S) (k + rm.cells) (n + rm.slots) pc' L (v.toList ++ rest)) (hln : 4 = ps.length := by rfl) (hy : y.cls ≠ "java/lang/invoke/MethodHandle" ∧ y.cls ≠ "java/lang/invoke/VarHandle" := by decide) (hL : L.length = maxL := by rfl) (hf : rm.frames + 1 ≤ R.frames := by decide) (hl : (rest.map fun v => v.category).sum + (maxL' + 11) + rm.locals ≤ R.locals := by exact Nat.le_of_ble_eq_true rfl) (hcc : k + rm.cells ≤ R.cells := by decide) (hss : n + rm.slots ≤ R.slots := by decide) : Go Z EL nw R Post K h S k n pc L (v4 :: v3 :: v2 :: v1 :: .ref a :: rest) := G.callV nf [v1, v2, v3, v4] hd w1 w2 w3 w4 w5 w6 pd E c hS0 rfl hln f hy hL hf hl hcc hss
theorem Good.callP4 (G : Good Z a0 EL K own code maxL ret nm) {v1 v2 v3 v4 : Value} (hd : Dc code pc (.invokevirtual index) 3 pc') (w1 : (Cond.methodLink own index y).before a0 Z = true) (w2 : (Cond.instanceMethod y).before a0 Z = true) (w3 : (Cond.privateMethod y).before a0 Z = true) (w4 : (Cond.code y bytes maxL' ret').before a0 Z = true) (w5 : (Cond.initialized y.cls).before a0 Z = true) (nf : Nf Z y) (pd : parseMethodDescriptor y.desc = some ⟨ps, rr⟩) (E : Exa Z h a C) (c : Con K.l Z EL nw y bytes maxL' ret' [] rm #[.ref a, v1, v2, v3, v4] h S0 Post') (hS0 : ∀ x ∈ S0, x ∈ S) (f : ∀ v h' S', Post' v h' S' → h.size ≤ h'.size → Go Z EL nw R Post K h' (S' ++ S) (k + rm.cells) (n + rm.slots) pc' L (v.toList ++ rest)) (hln : 4 = ps.length := by rfl) (hy : y.cls ≠ "java/lang/invoke/MethodHandle" ∧ y.cls ≠ "java/lang/invoke/VarHandle" := by decide) (hL : L.length = maxL := by rfl) (hf : rm.frames + 1 ≤ R.frames := by decide) (hl : (rest.map fun v => v.category).sum + (maxL' + 11) + rm.locals ≤ R.locals := by exact Nat.le_of_ble_eq_true rfl) (hcc : k + rm.cells ≤ R.cells := by decide) (hss : n + rm.slots ≤ R.slots := by decide) : Go Z EL nw R Post K h S k n pc L (v4 :: v3 :: v2 :: v1 :: .ref a :: rest) := G.callP [v1, v2, v3, v4] hd w1 w2 w3 w4 w5 nf pd E c hS0 rfl hln f hy hL hf hl hcc hss
theorem Good.callF4 (G : Good Z a0 EL K own code maxL ret nm) {count : Nat} {v1 v2 v3 v4 : Value} (hd : Dc code pc (.invokeinterface index count) 5 pc') (w1 : (Cond.methodLink own index y).before a0 Z = true) (w2 : (Cond.declares y).before a0 Z = true) (w3 : (Cond.interfaceMethod y.cls y.cls y.name y.desc).before a0 Z = true) (w4 : (Cond.selects C y z).before a0 Z = true) (w5 : (Cond.instanceMethod z).before a0 Z = true) (w6 : (Cond.publicMethod z).before a0 Z = true) (w7 : (Cond.unhidden C y.name y.desc).before a0 Z = true) (w8 : (Cond.castable C y.cls).before a0 Z = true) (w9 : (Cond.code z bytes maxL' ret').before a0 Z = true) (w10 : (Cond.initialized z.cls).before a0 Z = true) (pd : parseMethodDescriptor y.desc = some ⟨ps, rr⟩) (E : Exa Z h a C) (c : Con K.l Z EL nw z bytes maxL' ret' [] rm #[.ref a, v1, v2, v3, v4] h S0 Post') (hS0 : ∀ x ∈ S0, x ∈ S) (f : ∀ v h' S', Post' v h' S' → h.size ≤ h'.size → Go Z EL nw R Post K h' (S' ++ S) (k + rm.cells) (n + rm.slots) pc' L (v.toList ++ rest)) (hln : 4 = ps.length := by rfl) (hy : y.cls ≠ "java/lang/invoke/MethodHandle" ∧ y.cls ≠ "java/lang/invoke/VarHandle" := by decide) (hL : L.length = maxL := by rfl) (hf : rm.frames + 1 ≤ R.frames := by decide) (hl : (rest.map fun v => v.category).sum + (maxL' + 11) + rm.locals ≤ R.locals := by exact Nat.le_of_ble_eq_true rfl) (hcc : k + rm.cells ≤ R.cells := by decide) (hss : n + rm.slots ≤ R.slots := by decide) : Go Z EL nw R Post K h S k n pc L (v4 :: v3 :: v2 :: v1 :: .ref a :: rest) := G.callF [v1, v2, v3, v4] hd w1 w2 w3 w4 w5 w6 w7 w8 w9 w10 pd E c hS0 rfl hln f hy hL hf hl hcc hss
theorem Good.callI5 (G : Good Z a0 EL K own code maxL ret nm) {v1 v2 v3 v4 v5 : Value} (hd : Dc code pc (.invokespecial index) 3 pc') (w1 : (Cond.methodLink own index y).before a0 Z = true) (w2 : (Cond.instanceMethod y).before a0 Z = true) (w3 : (Cond.initialized y.cls).before a0 Z = true) (w4 : (Cond.code y bytes maxL' none).before a0 Z = true) (pd : parseMethodDescriptor y.desc = some ⟨ps, rr⟩) (c : Con K.l Z EL nw y bytes maxL' none [] rm #[.ref a, v1, v2, v3, v4, v5] h S0 Post') (hS0 : ∀ x ∈ S0, x ∈ S) (f : ∀ v h' S', Post' v h' S' → h.size ≤ h'.size → Go Z EL nw R Post K h' (S' ++ S) (k + rm.cells) (n + rm.slots) pc' L (v.toList ++ rest)) (hy1 : y.name = "<init>" := by rfl) (hln : 5 = ps.length := by rfl) (hy : y.cls ≠ "java/lang/invoke/MethodHandle" ∧ y.cls ≠ "java/lang/invoke/VarHandle" := by decide) (hL : L.length = maxL := by rfl) (hf : rm.frames + 1 ≤ R.frames := by decide) (hl : (rest.map fun v => v.category).sum + (maxL' + 11) + rm.locals ≤ R.locals := by exact Nat.le_of_ble_eq_true rfl) (hcc : k + rm.cells ≤ R.cells := by decide) (hss : n + rm.slots ≤ R.slots := by decide) : Go Z EL nw R Post K h S k n pc L (v5 :: v4 :: v3 :: v2 :: v1 :: .ref a :: rest) := G.callI [v1, v2, v3, v4, v5] hd w1 w2 w3 w4 pd c hS0 rfl hln f hy1 hy hL hf hl hcc hss
theorem Good.callV5 (G : Good Z a0 EL K own code maxL ret nm) {v1 v2 v3 v4 v5 : Value} (hd : Dc code pc (.invokevirtual index) 3 pc') (w1 : (Cond.methodLink own index y).before a0 Z = true) (w2 : (Cond.declares y).before a0 Z = true) (w3 : (Cond.selects C y y).before a0 Z = true) (w4 : (Cond.instanceMethod y).before a0 Z = true) (w5 : (Cond.code y bytes maxL' ret').before a0 Z = true) (w6 : (Cond.initialized y.cls).before a0 Z = true) (pd : parseMethodDescriptor y.desc = some ⟨ps, rr⟩) (E : Exa Z h a C) (c : Con K.l Z EL nw y bytes maxL' ret' [] rm #[.ref a, v1, v2, v3, v4, v5] h S0 Post') (hS0 : ∀ x ∈ S0, x ∈ S) (f : ∀ v h' S', Post' v h' S' → h.size ≤ h'.size → Go Z EL nw R Post K h' (S' ++ S) (k + rm.cells) (n + rm.slots) pc' L (v.toList ++ rest)) (hln : 5 = ps.length := by rfl) (hy : y.cls ≠ "java/lang/invoke/MethodHandle" ∧ y.cls ≠ "java/lang/invoke/VarHandle" := by decide) (hL : L.length = maxL := by rfl) (hf : rm.frames + 1 ≤ R.frames := by decide) (hl : (rest.map fun v => v.category).sum + (maxL' + 11) + rm.locals ≤ R.locals := by exact Nat.le_of_ble_eq_true rfl) (hcc : k + rm.cells ≤ R.cells := by decide) (hss : n + rm.slots ≤ R.slots := by decide) : Go Z EL nw R Post K h S k n pc L (v5 :: v4 :: v3 :: v2 :: v1 :: .ref a :: rest) := G.callV (Nf.sel w3) [v1, v2, v3, v4, v5] hd w1 w2 w3 w4 w5 w6 pd E c hS0 rfl hln f hy hL hf hl hcc hss
theorem Good.callW5 (G : Good Z a0 EL K own code maxL ret nm) (nf : Nf Z y) {v1 v2 v3 v4 v5 : Value} (hd : Dc code pc (.invokevirtual index) 3 pc') (w1 : (Cond.methodLink own index y).before a0 Z = true) (w2 : (Cond.declares y).before a0 Z = true) (w3 : (Cond.selects C y z).before a0 Z = true) (w4 : (Cond.instanceMethod z).before a0 Z = true) (w5 : (Cond.code z bytes maxL' ret').before a0 Z = true) (w6 : (Cond.initialized z.cls).before a0 Z = true) (pd : parseMethodDescriptor y.desc = some ⟨ps, rr⟩) (E : Exa Z h a C) (c : Con K.l Z EL nw z bytes maxL' ret' [] rm #[.ref a, v1, v2, v3, v4, v5] h S0 Post') (hS0 : ∀ x ∈ S0, x ∈ S) (f : ∀ v h' S', Post' v h' S' → h.size ≤ h'.size → Go Z EL nw R Post K h' (S' ++ S) (k + rm.cells) (n + rm.slots) pc' L (v.toList ++ rest)) (hln : 5 = ps.length := by rfl) (hy : y.cls ≠ "java/lang/invoke/MethodHandle" ∧ y.cls ≠ "java/lang/invoke/VarHandle" := by decide) (hL : L.length = maxL := by rfl) (hf : rm.frames + 1 ≤ R.frames := by decide) (hl : (rest.map fun v => v.category).sum + (maxL' + 11) + rm.locals ≤ R.locals := by exact Nat.le_of_ble_eq_true rfl) (hcc : k + rm.cells ≤ R.cells := by decide) (hss : n + rm.slots ≤ R.slots := by decide) : Go Z EL nw R Post K h S k n pc L (v5 :: v4 :: v3 :: v2 :: v1 :: .ref a :: rest) := G.callV nf [v1, v2, v3, v4, v5] hd w1 w2 w3 w4 w5 w6 pd E c hS0 rfl hln f hy hL hf hl hcc hss
theorem Good.callP5 (G : Good Z a0 EL K own code maxL ret nm) {v1 v2 v3 v4 v5 : Value} (hd : Dc code pc (.invokevirtual index) 3 pc') (w1 : (Cond.methodLink own index y).before a0 Z = true) (w2 : (Cond.instanceMethod y).before a0 Z = true) (w3 : (Cond.privateMethod y).before a0 Z = true) (w4 : (Cond.code y bytes maxL' ret').before a0 Z = true) (w5 : (Cond.initialized y.cls).before a0 Z = true) (nf : Nf Z y) (pd : parseMethodDescriptor y.desc = some ⟨ps, rr⟩) (E : Exa Z h a C) (c : Con K.l Z EL nw y bytes maxL' ret' [] rm #[.ref a, v1, v2, v3, v4, v5] h S0 Post') (hS0 : ∀ x ∈ S0, x ∈ S) (f : ∀ v h' S', Post' v h' S' → h.size ≤ h'.size → Go Z EL nw R Post K h' (S' ++ S) (k + rm.cells) (n + rm.slots) pc' L (v.toList ++ rest)) (hln : 5 = ps.length := by rfl) (hy : y.cls ≠ "java/lang/invoke/MethodHandle" ∧ y.cls ≠ "java/lang/invoke/VarHandle" := by decide) (hL : L.length = maxL := by rfl) (hf : rm.frames + 1 ≤ R.frames := by decide) (hl : (rest.map fun v => v.category).sum + (maxL' + 11) + rm.locals ≤ R.locals := by exact Nat.le_of_ble_eq_true rfl) (hcc : k + rm.cells ≤ R.cells := by decide) (hss : n + rm.slots ≤ R.slots := by decide) : Go Z EL nw R Post K h S k n pc L (v5 :: v4 :: v3 :: v2 :: v1 :: .ref a :: rest) := G.callP [v1, v2, v3, v4, v5] hd w1 w2 w3 w4 w5 nf pd E c hS0 rfl hln f hy hL hf hl hcc hss
theorem Good.callF5 (G : Good Z a0 EL K own code maxL ret nm) {count : Nat} {v1 v2 v3 v4 v5 : Value} (hd : Dc code pc (.invokeinterface index count) 5 pc') (w1 : (Cond.methodLink own index y).before a0 Z = true) (w2 : (Cond.declares y).before a0 Z = true) (w3 : (Cond.interfaceMethod y.cls y.cls y.name y.desc).before a0 Z = true) (w4 : (Cond.selects C y z).before a0 Z = true) (w5 : (Cond.instanceMethod z).before a0 Z = true) (w6 : (Cond.publicMethod z).before a0 Z = true) (w7 : (Cond.unhidden C y.name y.desc).before a0 Z = true) (w8 : (Cond.castable C y.cls).before a0 Z = true) (w9 : (Cond.code z bytes maxL' ret').before a0 Z = true) (w10 : (Cond.initialized z.cls).before a0 Z = true) (pd : parseMethodDescriptor y.desc = some ⟨ps, rr⟩) (E : Exa Z h a C) (c : Con K.l Z EL nw z bytes maxL' ret' [] rm #[.ref a, v1, v2, v3, v4, v5] h S0 Post') (hS0 : ∀ x ∈ S0, x ∈ S) (f : ∀ v h' S', Post' v h' S' → h.size ≤ h'.size → Go Z EL nw R Post K h' (S' ++ S) (k + rm.cells) (n + rm.slots) pc' L (v.toList ++ rest)) (hln : 5 = ps.length := by rfl) (hy : y.cls ≠ "java/lang/invoke/MethodHandle" ∧ y.cls ≠ "java/lang/invoke/VarHandle" := by decide) (hL : L.length = maxL := by rfl) (hf : rm.frames + 1 ≤ R.frames := by decide) (hl : (rest.map fun v => v.category).sum + (maxL' + 11) + rm.locals ≤ R.locals := by exact Nat.le_of_ble_eq_true rfl) (hcc : k + rm.cells ≤ R.cells := by decide) (hss : n + rm.slots ≤ R.slots := by decide) : Go Z EL nw R Post K h S k n pc L (v5 :: v4 :: v3 :: v2 :: v1 :: .ref a :: rest) := G.callF [v1, v2, v3, v4, v5] hd w1 w2 w3 w4 w5 w6 w7 w8 w9 w10 pd E c hS0 rfl hln f hy hL hf hl hcc hss
theorem Good.callU0 (G : Good Z a0 EL K own code maxL ret nm) (hd : Dc code pc (.invokespecial index) 3 pc') (w1 : (Cond.methodLink own index y).before a0 Z = true) (w2 : Nf Z y) (w3 : (Cond.instanceMethod y).before a0 Z = true) (w4 : (Cond.superclass own y.cls).before a0 Z = true) (w5 : (Cond.code y bytes maxL' ret').before a0 Z = true) (w6 : (Cond.initialized y.cls).before a0 Z = true) (pd : parseMethodDescriptor y.desc = some ⟨ps, rr⟩) (E : Exa Z h a C) (c : Con K.l Z EL nw y bytes maxL' ret' [] rm #[.ref a] h S0 Post') (hS0 : ∀ x ∈ S0, x ∈ S) (f : ∀ v h' S', Post' v h' S' → h.size ≤ h'.size → Go Z EL nw R Post K h' (S' ++ S) (k + rm.cells) (n + rm.slots) pc' L (v.toList ++ rest)) (hy1 : y.name ≠ "<init>" := by decide) (hln : 0 = ps.length := by rfl) (hy : y.cls ≠ "java/lang/invoke/MethodHandle" ∧ y.cls ≠ "java/lang/invoke/VarHandle" := by decide) (hL : L.length = maxL := by rfl) (hf : rm.frames + 1 ≤ R.frames := by decide) (hl : (rest.map fun v => v.category).sum + (maxL' + 11) + rm.locals ≤ R.locals := by exact Nat.le_of_ble_eq_true rfl) (hcc : k + rm.cells ≤ R.cells := by decide) (hss : n + rm.slots ≤ R.slots := by decide) : Go Z EL nw R Post K h S k n pc L (.ref a :: rest) := G.callU [] hd w1 w2 w3 w4 w5 w6 pd E c hS0 rfl hln f hy1 hy hL hf hl hcc hss
theorem Good.callU1 (G : Good Z a0 EL K own code maxL ret nm) {v1 : Value} (hd : Dc code pc (.invokespecial index) 3 pc') (w1 : (Cond.methodLink own index y).before a0 Z = true) (w2 : Nf Z y) (w3 : (Cond.instanceMethod y).before a0 Z = true) (w4 : (Cond.superclass own y.cls).before a0 Z = true) (w5 : (Cond.code y bytes maxL' ret').before a0 Z = true) (w6 : (Cond.initialized y.cls).before a0 Z = true) (pd : parseMethodDescriptor y.desc = some ⟨ps, rr⟩) (E : Exa Z h a C) (c : Con K.l Z EL nw y bytes maxL' ret' [] rm #[.ref a, v1] h S0 Post') (hS0 : ∀ x ∈ S0, x ∈ S) (f : ∀ v h' S', Post' v h' S' → h.size ≤ h'.size → Go Z EL nw R Post K h' (S' ++ S) (k + rm.cells) (n + rm.slots) pc' L (v.toList ++ rest)) (hy1 : y.name ≠ "<init>" := by decide) (hln : 1 = ps.length := by rfl) (hy : y.cls ≠ "java/lang/invoke/MethodHandle" ∧ y.cls ≠ "java/lang/invoke/VarHandle" := by decide) (hL : L.length = maxL := by rfl) (hf : rm.frames + 1 ≤ R.frames := by decide) (hl : (rest.map fun v => v.category).sum + (maxL' + 11) + rm.locals ≤ R.locals := by exact Nat.le_of_ble_eq_true rfl) (hcc : k + rm.cells ≤ R.cells := by decide) (hss : n + rm.slots ≤ R.slots := by decide) : Go Z EL nw R Post K h S k n pc L (v1 :: .ref a :: rest) := G.callU [v1] hd w1 w2 w3 w4 w5 w6 pd E c hS0 rfl hln f hy1 hy hL hf hl hcc hss
theorem Good.callU2 (G : Good Z a0 EL K own code maxL ret nm) {v1 v2 : Value} (hd : Dc code pc (.invokespecial index) 3 pc') (w1 : (Cond.methodLink own index y).before a0 Z = true) (w2 : Nf Z y) (w3 : (Cond.instanceMethod y).before a0 Z = true) (w4 : (Cond.superclass own y.cls).before a0 Z = true) (w5 : (Cond.code y bytes maxL' ret').before a0 Z = true) (w6 : (Cond.initialized y.cls).before a0 Z = true) (pd : parseMethodDescriptor y.desc = some ⟨ps, rr⟩) (E : Exa Z h a C) (c : Con K.l Z EL nw y bytes maxL' ret' [] rm #[.ref a, v1, v2] h S0 Post') (hS0 : ∀ x ∈ S0, x ∈ S) (f : ∀ v h' S', Post' v h' S' → h.size ≤ h'.size → Go Z EL nw R Post K h' (S' ++ S) (k + rm.cells) (n + rm.slots) pc' L (v.toList ++ rest)) (hy1 : y.name ≠ "<init>" := by decide) (hln : 2 = ps.length := by rfl) (hy : y.cls ≠ "java/lang/invoke/MethodHandle" ∧ y.cls ≠ "java/lang/invoke/VarHandle" := by decide) (hL : L.length = maxL := by rfl) (hf : rm.frames + 1 ≤ R.frames := by decide) (hl : (rest.map fun v => v.category).sum + (maxL' + 11) + rm.locals ≤ R.locals := by exact Nat.le_of_ble_eq_true rfl) (hcc : k + rm.cells ≤ R.cells := by decide) (hss : n + rm.slots ≤ R.slots := by decide) : Go Z EL nw R Post K h S k n pc L (v2 :: v1 :: .ref a :: rest) := G.callU [v1, v2] hd w1 w2 w3 w4 w5 w6 pd E c hS0 rfl hln f hy1 hy hL hf hl hcc hss
theorem Good.callU3 (G : Good Z a0 EL K own code maxL ret nm) {v1 v2 v3 : Value} (hd : Dc code pc (.invokespecial index) 3 pc') (w1 : (Cond.methodLink own index y).before a0 Z = true) (w2 : Nf Z y) (w3 : (Cond.instanceMethod y).before a0 Z = true) (w4 : (Cond.superclass own y.cls).before a0 Z = true) (w5 : (Cond.code y bytes maxL' ret').before a0 Z = true) (w6 : (Cond.initialized y.cls).before a0 Z = true) (pd : parseMethodDescriptor y.desc = some ⟨ps, rr⟩) (E : Exa Z h a C) (c : Con K.l Z EL nw y bytes maxL' ret' [] rm #[.ref a, v1, v2, v3] h S0 Post') (hS0 : ∀ x ∈ S0, x ∈ S) (f : ∀ v h' S', Post' v h' S' → h.size ≤ h'.size → Go Z EL nw R Post K h' (S' ++ S) (k + rm.cells) (n + rm.slots) pc' L (v.toList ++ rest)) (hy1 : y.name ≠ "<init>" := by decide) (hln : 3 = ps.length := by rfl) (hy : y.cls ≠ "java/lang/invoke/MethodHandle" ∧ y.cls ≠ "java/lang/invoke/VarHandle" := by decide) (hL : L.length = maxL := by rfl) (hf : rm.frames + 1 ≤ R.frames := by decide) (hl : (rest.map fun v => v.category).sum + (maxL' + 11) + rm.locals ≤ R.locals := by exact Nat.le_of_ble_eq_true rfl) (hcc : k + rm.cells ≤ R.cells := by decide) (hss : n + rm.slots ≤ R.slots := by decide) : Go Z EL nw R Post K h S k n pc L (v3 :: v2 :: v1 :: .ref a :: rest) := G.callU [v1, v2, v3] hd w1 w2 w3 w4 w5 w6 pd E c hS0 rfl hln f hy1 hy hL hf hl hcc hss
end Calls
end Jvm.Own
namespace Jvm.Own
open Jvm Jvm.ClassFile Sem Op Lib Jvm.Free Jvm.Stand Jvm.LawKit Jvm.RoadKit Bundle
/-- the String at a: its coder, its byte[] b and what that holds -/
def StrB (Z : State) (h : Heap) (a : Addr) (cd : Int32) (b : Addr) (vs : List Value) : Prop := Exa Z h a "java/lang/String" ∧ Fld Z h a "java/lang/String" "coder" "B" (.int cd) ∧ Fld Z h a "java/lang/String" "value" "[B" (.ref b) ∧ Al Z h b .byte vs
section StrFacts
variable {Z : State} {h h' : Heap} {a b : Addr} {cd : Int32} {vs : List Value} {ws : List Addr}
theorem StrB.ext (F : StrB Z h a cd b vs) (E : Ext h h') : StrB Z h' a cd b vs := ⟨F.1.ext E, F.2.1.ext E, F.2.2.1.ext E, F.2.2.2.ext E⟩
theorem StrB.keep (F : StrB Z h a cd b vs) (K : Keep h h' ws) (q : a ∉ ws) (r : b ∉ ws) : StrB Z h' a cd b vs := ⟨F.1.keep K, F.2.1.keep K q, F.2.2.1.keep K q, F.2.2.2.keep K r⟩
theorem StrB.lt (F : StrB Z h a cd b vs) : a < h.size ∧ b < h.size := ⟨F.1.lt, F.2.2.2.lt⟩
/-- an object of a class right under the root is no instance of another class -/
theorem notInst {a0 : Array Value} {C O D : String} {cnt : Nat} (w : (Cond.superclass C O).before a0 Z = true) (wo : (Cond.noSuperclass O).before a0 Z = true) (wi : (Cond.instantiable D cnt).before a0 Z = true) (h1 : C ≠ D) (h2 : O ≠ D) : ∃ c t, Z.vm.findClass C = some c ∧ Z.vm.findClass D = some t ∧ Z.vm.assignable c t = false := by
  obtain ⟨t, k', g1, g2, g3, g4, -⟩ := Cond.instantiable_spec wi
  simp only [Bool.or_eq_false_iff] at g4
  obtain ⟨co, ko, o1, o2, o3, -⟩ := Cond.noSuperclass_spec wo
  obtain ⟨c, q0⟩ := found_sup w
  obtain ⟨p, kk, kp, q1, q2, q3, q4, q5, -⟩ := Cond.superclass_spec q0 w
  cases o1.symm.trans q1
  have ne := ids_ne q0 g1 h1
  have ne' := ids_ne o1 g1 h2
  have n3 : ∀ fuel, Z.vm.isSubclassAux fuel c t = false := fun fuel => by
    cases fuel with
    | zero => rfl
    | succ f => cases f with
      | zero => simp [Vm.isSubclassAux, ne, q2, q4]
      | succ f => simp [Vm.isSubclassAux, ne, ne', q2, q4, o2, o3]
  refine ⟨c, t, q0, g1, ?_⟩
  show Z.vm.assignableAux (255 + 1) c t = false
  simp [Vm.assignableAux, ne, q2, g2, q5, g3, g4.1, Vm.isSubclass, n3]
end StrFacts
section Lit
variable {Z : State} {a0 : Array Value} {EL : List (String × Nat)} {nw : Bool} {R : Room} {Post : Pst} {K : Kx} {own : String} {code : ByteArray} {maxL : Nat} {ret : Option FieldType} {nm : String} {h h' : Heap} {S : List Addr} {k n pc pc' : Nat} {L : List Slot} {st : List Value} {l : Launch}
/-- ldc of a String constant whose text is known -/
theorem Good.ldcS (G : Good Z a0 EL K own code maxL ret nm) {index : Nat} {text : String} (N : Nat) (vs : List Value) (z : Int32) (hd : Dc code pc (.ldc index) 2 pc') (w : (Cond.stringLink own index text).before a0 Z = true) (wS : ∀ a ∈ Bundle.stringAtoms, a.before a0 Z = true) (hnw : nw = false) (hmem : (own, index) ∈ EL)
    (ht : (∀ c ∈ text.toList, c.toNat < 256) ∧ text.toList.map (fun c => Value.int (Jvm.Lit.byteI c.toNat.toUInt16)) = vs) (hz : ¬ z < 0) (hl : z.toNatClampNeg = vs.length) (hn : 4 * text.toList.length ≤ N) (hbig : N ≤ 536870912)
    (f : ∀ a b h', Ext h h' → StrB Z h' a 0 b vs → (∀ x ∈ S, x ≠ a ∧ x ≠ b) → Go Z EL nw R Post K h' S (k + 2) (n + (N + 4)) pc' L (.ref a :: st)) (hc : k + 2 ≤ R.cells := by decide) (hl' : n + (N + 4) ≤ R.slots := by decide) : Go Z EL nw R Post K h S k n pc L st := fun T I => by
  obtain ⟨hd, rfl⟩ := hd
  obtain ⟨vm0, k0, locs, X, hS, hk0, hZ, e, Nf, CH, hSf, hw, hO⟩ := I
  obtain ⟨a, T', h', k1, b, kc, X', e', E, hS', hk1, hZ', hf', f1, f2, f3, f4, -, -, hC, -, hne, stp⟩ := ldcCH X G.1 hZ (G.hown hS) w wS e hS hk0 G.2.2.2.2.2.2.2 hmem CH.1 ht hz hl (g := mkF K.m pc L.toArray st) rfl (hb G.2.1 hd) hn hbig hc hl'
  have hsafe : ∀ x ∈ S, Safe Z EL T'.vm h' x := fun x hx => hC.safe (hSf x hx).2.1 (hSf x hx).2.2
  refine (f a b h' E ⟨f1, f2, f3, Al.of_arv f4 hl⟩ (fun x hx => hne x (hsafe x hx)) T' ⟨T'.vm, k1, locs, X', hS', hk1, hZ', e', Nf, CH.trans hC, fun x hx => ⟨(hSf x hx).1, Nat.lt_of_lt_of_le (hSf x hx).2.1 E.1, hsafe x hx⟩, fun q => (by rw [hnw] at q; cases q), ⟨Nat.le_trans hO.1 E.1, fun x c q => E.2 x c (hO.2 x c q)⟩⟩).step stp
/-- ldc of a String constant, what it holds unsaid -/
theorem Good.ldcO (G : Good Z a0 EL K own code maxL ret nm) {index : Nat} {text : String} (N : Nat) (hd : Dc code pc (.ldc index) 2 pc') (w : (Cond.stringLink own index text).before a0 Z = true) (wS : ∀ a ∈ Bundle.stringAtoms, a.before a0 Z = true) (hnw : nw = false) (hn : 4 * text.toList.length ≤ N) (hbig : N ≤ 536870912)
    (f : ∀ a h', Ext h h' → Go Z EL nw R Post K h' S (k + 2) (n + (N + 4)) pc' L (.ref a :: st)) (hc : k + 2 ≤ R.cells := by decide) (hl' : n + (N + 4) ≤ R.slots := by decide) : Go Z EL nw R Post K h S k n pc L st := fun T I => by
  obtain ⟨hd, rfl⟩ := hd
  obtain ⟨vm0, k0, locs, X, hS, hk0, hZ, e, Nf, CH, hSf, hw, hO⟩ := I
  obtain ⟨a, T', h', k1, X', e', E, hS', hk1, hZ', hf', hC, -, stp⟩ := ldcOH X G.1 hZ (G.hown hS) w wS e hS hk0 G.2.2.2.2.2.2.2 CH.1 (g := mkF K.m pc L.toArray st) rfl (hb G.2.1 hd) hn hbig hc hl'
  exact (f a h' E T' ⟨T'.vm, k1, locs, X', hS', hk1, hZ', e', Nf, CH.trans hC, fun x hx => ⟨(hSf x hx).1, Nat.lt_of_lt_of_le (hSf x hx).2.1 E.1, hC.safe (hSf x hx).2.1 (hSf x hx).2.2⟩, fun q => (by rw [hnw] at q; cases q), ⟨Nat.le_trans hO.1 E.1, fun x c q => E.2 x c (hO.2 x c q)⟩⟩).step stp
end Lit
end Jvm.Own
namespace Jvm.Own
open Jvm Jvm.ClassFile Sem Op Lib Jvm.Free Jvm.Stand Jvm.LawKit Jvm.RoadKit Bundle
section More
variable {Z : State} {a0 : Array Value} {EL : List (String × Nat)} {nw : Bool} {R : Room} {Post : Pst} {K : Kx} {own : String} {code : ByteArray} {maxL : Nat} {ret : Option FieldType} {nm : String} {h h' : Heap} {S : List Addr} {k n pc pc' : Nat} {L : List Slot} {st : List Value} {l : Launch}
/-- newarray, with the array's class -/
theorem Good.newAE (G : Good Z a0 EL K own code maxL ret nm) {aty : ArrayType} {j : Int32} {ad : String} (i cap : Nat) (hd : Dc code pc (.newarray aty) 2 pc') (w : (Cond.arrayClass (newarray.typeOf aty)).before a0 Z = true) (had : "[" ++ (newarray.typeOf aty).toString = ad) (hj : j.toInt = (i : Int)) (hi : i ≤ cap)
    (f : ∀ h', Ext h h' → h.size < h'.size → (Al Z h' h.size (newarray.typeOf aty) (List.replicate i (defaultValue (newarray.typeOf aty))) ∧ Exa Z h' h.size ad) → Go Z EL nw R Post K h' (h.size :: S) (k + 1) (n + cap) pc' L (.ref h.size :: st)) (hb' : cap * 8 ≤ 536870912 := by decide) (hc : k + 1 ≤ R.cells := by decide) (hl : n + cap ≤ R.slots := by decide) : Go Z EL nw R Post K h S k n pc L (.int j :: st) := by
  obtain ⟨hd, rfl⟩ := hd
  obtain ⟨j1, j2⟩ := nat_idx hj
  refine Go.grow G (fun T vm0 locs X hZ hown e => ?_) f
  obtain ⟨T', h', cA, X', e', E, A, Ex, stp⟩ := newPE X G.1 hZ w e (g := mkF K.m pc L.toArray (.int j :: st)) rfl (hb G.2.1 hd) rfl j1 (by rw [j2]; exact hi) hb' hc hl had
  exact ⟨T', h', X', e', E, A.lt, ⟨⟨_, A, by simp [RoadKit.newA, j2], by simp; omega, fun v hv => by rw [List.eq_of_mem_replicate hv]; cases aty <;> rfl⟩, Ex⟩, stp⟩
/-- baload of a boolean[] -/
theorem Good.zaload (G : Good Z a0 EL K own code maxL ret nm) {a : Addr} {vs : List Value} {j : Int32} {i : Nat} {v : Value} (hd : Dc code pc .baload 1 pc') (A : Al Z h a .boolean vs) (hj : j.toInt = (i : Int)) (hv : vs[i]? = some v) (f : Go Z EL nw R Post K h S k n pc' L (v :: st)) : Go Z EL nw R Post K h S k n pc L (.int j :: .ref a :: st) := by
  obtain ⟨hd, rfl⟩ := hd
  obtain ⟨c, A1, A2, A3, A4⟩ := A
  obtain ⟨j1, j2⟩ := nat_idx hj
  have hlt := (List.getElem?_eq_some_iff.mp hv).1
  refine Go.calm G (fun T vm0 locs X hZ hown e => ⟨T, X, e, fun t q => ?_⟩) f
  exact X.baloadBooleans G.1 (by rw [e]; exact A1.1) (State.isArrayOf_alike hZ.alike A1.2.1) A1.2.2 (by rw [j2, A2]; simp only [List.size_toArray]; rintro (q | q); exact j1 q; omega) (by rw [j2, A2]; simpa using hv) (g := mkF K.m pc L.toArray (.int j :: .ref a :: st)) rfl rfl (hb G.2.1 hd) t q
/-- clone of an array -/
theorem Good.aclone (G : Good Z a0 EL K own code maxL ret nm) {ad : String} {index : Nat} {a : Addr} {ty : FieldType} {vs : List Value} (cap : Nat) (hd : Dc code pc (.invokevirtual index) 3 pc')
    (w1 : (Cond.methodLink own index ⟨ad, "clone", "()Ljava/lang/Object;"⟩).before a0 Z = true) (w2 : (Cond.sameMethod ad "java/lang/Object" "clone" "()Ljava/lang/Object;").before a0 Z = true) (w3 : (Cond.native ⟨"java/lang/Object", "clone", "()Ljava/lang/Object;"⟩).before a0 Z = true)
    (w4 : (Cond.instanceMethod ⟨"java/lang/Object", "clone", "()Ljava/lang/Object;"⟩).before a0 Z = true) (w5 : (Cond.selects ad ⟨ad, "clone", "()Ljava/lang/Object;"⟩ ⟨"java/lang/Object", "clone", "()Ljava/lang/Object;"⟩).before a0 Z = true) (w6 : (Cond.castable ad "java/lang/Cloneable").before a0 Z = true)
    (A : Al Z h a ty vs) (E : Exa Z h a ad) (hcap : vs.length ≤ cap)
    (f : ∀ h', Ext h h' → h.size < h'.size → (Al Z h' h.size ty vs ∧ Exa Z h' h.size ad) → Go Z EL nw R Post K h' (h.size :: S) (k + 1) (n + cap) pc' L (.ref h.size :: st)) (hL : L.length = maxL := by rfl) (hf : 1 ≤ R.frames := by decide) (hl : (st.map fun v => v.category).sum + 14 ≤ R.locals := by exact Nat.le_of_ble_eq_true rfl) (hc : k + 1 ≤ R.cells := by decide) (hsl : n + cap ≤ R.slots := by decide) : Go Z EL nw R Post K h S k n pc L (.ref a :: st) := by
  obtain ⟨hd, rfl⟩ := hd
  obtain ⟨c, A1, A2, A3, A4⟩ := A
  refine Go.grow G (fun T vm0 locs X hZ hown e => ?_) f
  have FC : FitC Z c := fitC_of A1 fun i hi v hv => A4 v (by rw [A2] at hv; exact List.mem_of_getElem? (by simpa using hv))
  obtain ⟨T', h', X', e', ex, A', E', stp⟩ := cloneA X G.1 hZ hown w1 w2 w3 w4 w5 w6 e A1 E FC (g := mkF K.m pc L.toArray (.ref a :: st)) rfl (by rw [G.2.2.1]; simpa using hL) rfl (hb G.2.1 hd) hf (W := (st.map fun v => v.category).sum) (by show 2 * 0 + _ ≤ _; omega) hl (by rw [A2]; simpa using hcap) hc hsl
  exact ⟨T', h', X', e', ex, A'.lt, ⟨⟨_, A', A2, A3, A4⟩, E'⟩, stp⟩
end More
end Jvm.Own
namespace Jvm.Pilot.@@N@@
open Jvm Jvm.ClassFile Sem Op Lib Jvm.Free Jvm.Stand Jvm.LawKit Jvm.RoadKit Jvm.Own Bundle Jvm.Pilot.@@N@@.Jvm.D
set_option maxRecDepth 65536
set_option maxHeartbeats 4000000
abbrev hwT (a0 : Array Value) (Z : State) : Prop := ∀ (i : Nat) {d : Jvm.Cond}, tables_1[i]? = some d → d.before a0 Z = true
abbrev SN : String := "java/lang/String"
def CS (Z : State) : Prop := ∃ cc : Int32, Sta Z Z.heap "java/lang/String" "COMPACT_STRINGS" "Z" (.int cc) ∧ ¬ cc = 0
/-- a char's byte in a Latin-1 String -/
def bL (c : Int32) : Value := .int c.toInt8.toInt32
def Lat (cs : List Int32) : Prop := ∀ c ∈ cs, 0 ≤ c.toInt ∧ c.toInt < 256
abbrev rm0 : Room := { frames := 0, cells := 0, slots := 0, locals := 0 }
theorem inc_toInt {x : Int32} {i : Nat} (hx : x.toInt = (i : Int)) (hi : i + 1 < 2147483648) : (x + 1).toInt = ((i + 1 : Nat) : Int) := by
  have h1 := c_iadd x 1
  have h2 : (1 : Int32).toInt = 1 := by decide
  have h3 := rng32 (x + 1)
  rw [h2, hx] at h1
  omega
theorem lt_of_toInt {x y : Int32} (h : x.toInt < y.toInt) : x < y := Int32.lt_iff_toInt_lt.mpr h
theorem not_lt_of_toInt {x y : Int32} (h : y.toInt ≤ x.toInt) : ¬ x < y := fun q => by rw [Int32.lt_iff_toInt_lt] at q; omega
theorem nar8 (c : Int32) : nar .byte c.toInt8.toInt32 = c.toInt8.toInt32 := by simp [nar]
theorem set_mid {α : Type} (A B : List α) (x y : α) : (A ++ x :: B).set A.length y = A ++ y :: B := by simp
theorem get_mid {α : Type} (A B : List α) (x : α) : (A ++ x :: B)[A.length]? = some x := by simp
theorem toInt_0 : (0 : Int32).toInt = 0 := by decide
theorem byte_back {c : Int32} (h0 : 0 ≤ c.toInt) (h1 : c.toInt < 256) : (c.toInt8.toInt32 &&& 255) = c := by
  have a1 := c_i2b c
  have a2 := c_mask c.toInt8.toInt32 255 8 (by decide) (by decide)
  apply Int32.toInt_inj.mp
  have h2 : ((2 ^ 8 : Nat) : Int) = 256 := by decide
  rw [h2] at a2
  omega
theorem bL_inj {c d : Int32} (hc : 0 ≤ c.toInt ∧ c.toInt < 256) (hd : 0 ≤ d.toInt ∧ d.toInt < 256) (h : c.toInt8.toInt32 = d.toInt8.toInt32) : c = d := by
  rw [← byte_back hc.1 hc.2, ← byte_back hd.1 hd.2, h]
theorem nar_char {x : Int32} (h0 : 0 ≤ x.toInt) (h1 : x.toInt < 65536) : nar .char x = x := by
  have := c_i2c x
  apply Int32.toInt_inj.mp
  show x.toUInt32.toUInt16.toUInt32.toInt32.toInt = x.toInt
  omega
theorem ch255 (x : Int32) : 0 ≤ ((x &&& 255).toUInt32.toUInt16.toUInt32.toInt32).toInt ∧ ((x &&& 255).toUInt32.toUInt16.toUInt32.toInt32).toInt < 256 := by
  rw [i2c_mask]
  have a2 := c_mask x 255 8 (by decide) (by decide)
  have h2 : ((2 ^ 8 : Nat) : Int) = 256 := by decide
  rw [h2] at a2
  omega
/-- a char below 256 -/
abbrev C8 (c : Int32) : Prop := 0 ≤ c.toInt ∧ c.toInt < 256
theorem Lat.nil : Lat [] := fun _ q => nomatch q
theorem Lat.cons {c : Int32} {cs : List Int32} (h : C8 c) (r : Lat cs) : Lat (c :: cs) := fun x q => by rcases List.mem_cons.mp q with rfl | q; exact h; exact r x q
theorem bL_map (cs : List Int32) : cs.map bL = (cs.map fun c => c.toInt8.toInt32).map Value.int := by simp [bL]
theorem bL_maps {cs ds : List Int32} (hc : Lat cs) (hd : Lat ds) (h : (cs.map fun c => c.toInt8.toInt32) = ds.map fun c => c.toInt8.toInt32) : cs = ds := by
  induction cs generalizing ds with
  | nil => cases ds with | nil => rfl | cons y ys => cases h
  | cons x xs ih =>
    cases ds with
    | nil => cases h
    | cons y ys =>
      simp only [List.map_cons, List.cons.injEq] at h
      have e := bL_inj (hc x (by simp)) (hd y (by simp)) h.1
      rw [e, ih (fun c q => hc c (by simp [q])) (fun c q => hd c (by simp [q])) h.2]
theorem shr0' (i : Int32) : (i >>> ((0 : Int32) &&& 31)).toInt = i.toInt := by
  have a := c_ishr i 0 0 (by decide)
  have e : ((2 ^ 0 : Nat) : Int) = 1 := by decide
  rw [e] at a
  omega
theorem shl0' (i : Int32) : (i <<< ((0 : Int32) &&& 31)).toInt = i.toInt := by
  have a := c_ishl i 0 0 (by decide)
  have r := rng32 (i <<< ((0 : Int32) &&& 31))
  have r2 := rng32 i
  have e : ((2 ^ 0 : Nat) : Int) = 1 := by decide
  rw [e] at a
  omega
theorem sub0 (i : Int32) : (i - 0).toInt = i.toInt := by
  have a := c_isub i 0
  have r := rng32 (i - 0)
  have r2 := rng32 i
  rw [toInt_0] at a
  omega
abbrev EL1 : List (String × Nat) := [("java/lang/String", 7)]
theorem d0_0 : Dc code 0 (.iload_n 0) 1 1 := ⟨at_0, rfl⟩
theorem d0_1 : Dc code 1 (.ldc 7) 2 3 := ⟨at_1, rfl⟩
theorem d0_3 : Dc code 3 .iand 1 4 := ⟨at_3, rfl⟩
theorem d0_4 : Dc code 4 (.bipush 6) 2 6 := ⟨at_4, rfl⟩
theorem d0_6 : Dc code 6 .irem 1 7 := ⟨at_6, rfl⟩
theorem d0_7 : Dc code 7 (.istore 6) 2 9 := ⟨at_7, rfl⟩
theorem d0_9 : Dc code 9 (.iload_n 1) 1 10 := ⟨at_9, rfl⟩
theorem d0_10 : Dc code 10 .i2c 1 11 := ⟨at_10, rfl⟩
theorem d0_11 : Dc code 11 (.istore 7) 2 13 := ⟨at_11, rfl⟩
theorem d0_13 : Dc code 13 (.iload_n 2) 1 14 := ⟨at_13, rfl⟩
theorem d0_14 : Dc code 14 .i2c 1 15 := ⟨at_14, rfl⟩
theorem d0_15 : Dc code 15 (.istore 8) 2 17 := ⟨at_15, rfl⟩
theorem d0_17 : Dc code 17 (.iload_n 3) 1 18 := ⟨at_17, rfl⟩
theorem d0_18 : Dc code 18 .i2c 1 19 := ⟨at_18, rfl⟩
theorem d0_19 : Dc code 19 (.istore 9) 2 21 := ⟨at_19, rfl⟩
theorem d0_21 : Dc code 21 (.iload 4) 2 23 := ⟨at_21, rfl⟩
theorem d0_23 : Dc code 23 .i2c 1 24 := ⟨at_23, rfl⟩
theorem d0_24 : Dc code 24 (.istore 10) 2 26 := ⟨at_24, rfl⟩
theorem d0_26 : Dc code 26 (.iload 5) 2 28 := ⟨at_26, rfl⟩
theorem d0_28 : Dc code 28 .i2c 1 29 := ⟨at_28, rfl⟩
theorem d0_29 : Dc code 29 (.istore 11) 2 31 := ⟨at_29, rfl⟩
theorem d0_31 : Dc code 31 (.iload 6) 2 33 := ⟨at_31, rfl⟩
theorem d0_33 : Dc code 33 (.iload 7) 2 35 := ⟨at_33, rfl⟩
theorem d0_35 : Dc code 35 (.iload 8) 2 37 := ⟨at_35, rfl⟩
theorem d0_37 : Dc code 37 (.iload 9) 2 39 := ⟨at_37, rfl⟩
theorem d0_39 : Dc code 39 (.iload 10) 2 41 := ⟨at_39, rfl⟩
theorem d0_41 : Dc code 41 (.iload 11) 2 43 := ⟨at_41, rfl⟩
theorem d0_43 : Dc code 43 (.invokestatic 8) 3 46 := ⟨at_43, rfl⟩
theorem d0_46 : Dc code 46 (.astore 12) 2 48 := ⟨at_46, rfl⟩
theorem d0_48 : Dc code 48 (.new 14) 3 51 := ⟨at_48, rfl⟩
theorem d0_51 : Dc code 51 .dup 1 52 := ⟨at_51, rfl⟩
theorem d0_52 : Dc code 52 (.aload 12) 2 54 := ⟨at_52, rfl⟩
theorem d0_54 : Dc code 54 (.invokespecial 16) 3 57 := ⟨at_54, rfl⟩
theorem d0_57 : Dc code 57 (.astore 13) 2 59 := ⟨at_57, rfl⟩
theorem d0_59 : Dc code 59 (.aload 13) 2 61 := ⟨at_59, rfl⟩
theorem d0_61 : Dc code 61 (.invokestatic 19) 3 64 := ⟨at_61, rfl⟩
theorem d0_64 : Dc code 64 (.astore 14) 2 66 := ⟨at_64, rfl⟩
theorem d0_66 : Dc code 66 (.iload 6) 2 68 := ⟨at_66, rfl⟩
theorem d0_68 : Dc code 68 (.iconst 1) 1 69 := ⟨at_68, rfl⟩
theorem d0_69 : Dj code 69 (.if_icmp .lt) 72 140 := ⟨71, at_69, rfl, by decide, by decide⟩
theorem d0_72 : Dc code 72 (.iload 7) 2 74 := ⟨at_72, rfl⟩
theorem d0_74 : Dc code 74 (.invokestatic 25) 3 77 := ⟨at_74, rfl⟩
theorem d0_77 : Dj code 77 (.ifCond .eq) 80 140 := ⟨63, at_77, rfl, by decide, by decide⟩
theorem d0_80 : Dc code 80 (.iload 6) 2 82 := ⟨at_80, rfl⟩
theorem d0_82 : Dc code 82 (.iconst 2) 1 83 := ⟨at_82, rfl⟩
theorem d0_83 : Dj code 83 (.if_icmp .lt) 86 94 := ⟨11, at_83, rfl, by decide, by decide⟩
theorem d0_86 : Dc code 86 (.iload 8) 2 88 := ⟨at_86, rfl⟩
theorem d0_88 : Dc code 88 (.invokestatic 29) 3 91 := ⟨at_88, rfl⟩
theorem d0_91 : Dj code 91 (.ifCond .eq) 94 140 := ⟨49, at_91, rfl, by decide, by decide⟩
theorem d0_94 : Dc code 94 (.iload 6) 2 96 := ⟨at_94, rfl⟩
theorem d0_96 : Dc code 96 (.iconst 3) 1 97 := ⟨at_96, rfl⟩
theorem d0_97 : Dj code 97 (.if_icmp .lt) 100 108 := ⟨11, at_97, rfl, by decide, by decide⟩
theorem d0_100 : Dc code 100 (.iload 9) 2 102 := ⟨at_100, rfl⟩
theorem d0_102 : Dc code 102 (.invokestatic 29) 3 105 := ⟨at_102, rfl⟩
theorem d0_105 : Dj code 105 (.ifCond .eq) 108 140 := ⟨35, at_105, rfl, by decide, by decide⟩
theorem d0_108 : Dc code 108 (.iload 6) 2 110 := ⟨at_108, rfl⟩
theorem d0_110 : Dc code 110 (.iconst 4) 1 111 := ⟨at_110, rfl⟩
theorem d0_111 : Dj code 111 (.if_icmp .lt) 114 122 := ⟨11, at_111, rfl, by decide, by decide⟩
theorem d0_114 : Dc code 114 (.iload 10) 2 116 := ⟨at_114, rfl⟩
theorem d0_116 : Dc code 116 (.invokestatic 29) 3 119 := ⟨at_116, rfl⟩
theorem d0_119 : Dj code 119 (.ifCond .eq) 122 140 := ⟨21, at_119, rfl, by decide, by decide⟩
theorem d0_122 : Dc code 122 (.iload 6) 2 124 := ⟨at_122, rfl⟩
theorem d0_124 : Dc code 124 (.iconst 5) 1 125 := ⟨at_124, rfl⟩
theorem d0_125 : Dj code 125 (.if_icmp .lt) 128 136 := ⟨11, at_125, rfl, by decide, by decide⟩
theorem d0_128 : Dc code 128 (.iload 11) 2 130 := ⟨at_128, rfl⟩
theorem d0_130 : Dc code 130 (.invokestatic 29) 3 133 := ⟨at_130, rfl⟩
theorem d0_133 : Dj code 133 (.ifCond .eq) 136 140 := ⟨7, at_133, rfl, by decide, by decide⟩
theorem d0_136 : Dc code 136 (.iconst 1) 1 137 := ⟨at_136, rfl⟩
theorem d0_137 : Dj code 137 .goto 140 141 := ⟨4, at_137, rfl, by decide, by decide⟩
theorem d0_140 : Dc code 140 (.iconst 0) 1 141 := ⟨at_140, rfl⟩
theorem d0_141 : Dc code 141 (.istore 15) 2 143 := ⟨at_141, rfl⟩
theorem d0_143 : Dc code 143 (.iload 15) 2 145 := ⟨at_143, rfl⟩
theorem d0_145 : Dj code 145 (.ifCond .ne) 148 162 := ⟨17, at_145, rfl, by decide, by decide⟩
theorem d0_148 : Dc code 148 (.aload 14) 2 150 := ⟨at_148, rfl⟩
theorem d0_150 : Dc code 150 (.invokevirtual 32) 3 153 := ⟨at_150, rfl⟩
theorem d0_153 : Dj code 153 (.ifCond .ne) 156 160 := ⟨7, at_153, rfl, by decide, by decide⟩
theorem d0_156 : Dc code 156 (.iconst 1) 1 157 := ⟨at_156, rfl⟩
theorem d0_157 : Dj code 157 .goto 160 161 := ⟨4, at_157, rfl, by decide, by decide⟩
theorem d0_161 : Dc code 161 .ireturn 1 162 := ⟨at_161, rfl⟩
theorem d0_162 : Dc code 162 (.aload 14) 2 164 := ⟨at_162, rfl⟩
theorem d0_164 : Dc code 164 (.invokevirtual 32) 3 167 := ⟨at_164, rfl⟩
theorem d0_167 : Dj code 167 (.ifCond .ne) 170 172 := ⟨5, at_167, rfl, by decide, by decide⟩
theorem d0_172 : Dc code 172 (.aload 14) 2 174 := ⟨at_172, rfl⟩
theorem d0_174 : Dc code 174 (.invokevirtual 38) 3 177 := ⟨at_174, rfl⟩
theorem d0_177 : Dc code 177 (.checkcast 14) 3 180 := ⟨at_177, rfl⟩
theorem d0_180 : Dc code 180 (.astore 16) 2 182 := ⟨at_180, rfl⟩
theorem d0_182 : Dc code 182 (.aload 16) 2 184 := ⟨at_182, rfl⟩
theorem d0_184 : Dc code 184 (.invokevirtual 42) 3 187 := ⟨at_184, rfl⟩
theorem d0_187 : Dc code 187 (.iload 6) 2 189 := ⟨at_187, rfl⟩
theorem d0_189 : Dj code 189 (.if_icmp .eq) 192 194 := ⟨5, at_189, rfl, by decide, by decide⟩
theorem d0_194 : Dc code 194 (.aload 16) 2 196 := ⟨at_194, rfl⟩
theorem d0_196 : Dc code 196 (.iconst 0) 1 197 := ⟨at_196, rfl⟩
theorem d0_197 : Dc code 197 (.invokevirtual 46) 3 200 := ⟨at_197, rfl⟩
theorem d0_200 : Dc code 200 (.iload 7) 2 202 := ⟨at_200, rfl⟩
theorem d0_202 : Dc code 202 (.invokestatic 50) 3 205 := ⟨at_202, rfl⟩
theorem d0_205 : Dj code 205 (.if_icmp .ne) 208 292 := ⟨87, at_205, rfl, by decide, by decide⟩
theorem d0_208 : Dc code 208 (.iload 6) 2 210 := ⟨at_208, rfl⟩
theorem d0_210 : Dc code 210 (.iconst 2) 1 211 := ⟨at_210, rfl⟩
theorem d0_211 : Dj code 211 (.if_icmp .lt) 214 228 := ⟨17, at_211, rfl, by decide, by decide⟩
theorem d0_214 : Dc code 214 (.aload 16) 2 216 := ⟨at_214, rfl⟩
theorem d0_216 : Dc code 216 (.iconst 1) 1 217 := ⟨at_216, rfl⟩
theorem d0_217 : Dc code 217 (.invokevirtual 46) 3 220 := ⟨at_217, rfl⟩
theorem d0_220 : Dc code 220 (.iload 8) 2 222 := ⟨at_220, rfl⟩
theorem d0_222 : Dc code 222 (.invokestatic 50) 3 225 := ⟨at_222, rfl⟩
theorem d0_225 : Dj code 225 (.if_icmp .ne) 228 292 := ⟨67, at_225, rfl, by decide, by decide⟩
theorem d0_228 : Dc code 228 (.iload 6) 2 230 := ⟨at_228, rfl⟩
theorem d0_230 : Dc code 230 (.iconst 3) 1 231 := ⟨at_230, rfl⟩
theorem d0_231 : Dj code 231 (.if_icmp .lt) 234 248 := ⟨17, at_231, rfl, by decide, by decide⟩
theorem d0_234 : Dc code 234 (.aload 16) 2 236 := ⟨at_234, rfl⟩
theorem d0_236 : Dc code 236 (.iconst 2) 1 237 := ⟨at_236, rfl⟩
theorem d0_237 : Dc code 237 (.invokevirtual 46) 3 240 := ⟨at_237, rfl⟩
theorem d0_240 : Dc code 240 (.iload 9) 2 242 := ⟨at_240, rfl⟩
theorem d0_242 : Dc code 242 (.invokestatic 50) 3 245 := ⟨at_242, rfl⟩
theorem d0_245 : Dj code 245 (.if_icmp .ne) 248 292 := ⟨47, at_245, rfl, by decide, by decide⟩
theorem d0_248 : Dc code 248 (.iload 6) 2 250 := ⟨at_248, rfl⟩
theorem d0_250 : Dc code 250 (.iconst 4) 1 251 := ⟨at_250, rfl⟩
theorem d0_251 : Dj code 251 (.if_icmp .lt) 254 268 := ⟨17, at_251, rfl, by decide, by decide⟩
theorem d0_254 : Dc code 254 (.aload 16) 2 256 := ⟨at_254, rfl⟩
theorem d0_256 : Dc code 256 (.iconst 3) 1 257 := ⟨at_256, rfl⟩
theorem d0_257 : Dc code 257 (.invokevirtual 46) 3 260 := ⟨at_257, rfl⟩
theorem d0_260 : Dc code 260 (.iload 10) 2 262 := ⟨at_260, rfl⟩
theorem d0_262 : Dc code 262 (.invokestatic 50) 3 265 := ⟨at_262, rfl⟩
theorem d0_265 : Dj code 265 (.if_icmp .ne) 268 292 := ⟨27, at_265, rfl, by decide, by decide⟩
theorem d0_268 : Dc code 268 (.iload 6) 2 270 := ⟨at_268, rfl⟩
theorem d0_270 : Dc code 270 (.iconst 5) 1 271 := ⟨at_270, rfl⟩
theorem d0_271 : Dj code 271 (.if_icmp .lt) 274 288 := ⟨17, at_271, rfl, by decide, by decide⟩
theorem d0_274 : Dc code 274 (.aload 16) 2 276 := ⟨at_274, rfl⟩
theorem d0_276 : Dc code 276 (.iconst 4) 1 277 := ⟨at_276, rfl⟩
theorem d0_277 : Dc code 277 (.invokevirtual 46) 3 280 := ⟨at_277, rfl⟩
theorem d0_280 : Dc code 280 (.iload 11) 2 282 := ⟨at_280, rfl⟩
theorem d0_282 : Dc code 282 (.invokestatic 50) 3 285 := ⟨at_282, rfl⟩
theorem d0_285 : Dj code 285 (.if_icmp .ne) 288 292 := ⟨7, at_285, rfl, by decide, by decide⟩
theorem d0_288 : Dc code 288 (.iconst 1) 1 289 := ⟨at_288, rfl⟩
theorem d0_289 : Dj code 289 .goto 292 293 := ⟨4, at_289, rfl, by decide, by decide⟩
theorem d0_293 : Dc code 293 .ireturn 1 294 := ⟨at_293, rfl⟩
theorem d1_0 : Dc method_3_code 0 (.iload_n 0) 1 1 := ⟨by decide +kernel, rfl⟩
theorem d1_1 : Dj method_3_code 1 (.ifCond .ne) 4 8 := ⟨7, by decide +kernel, rfl, by decide, by decide⟩
theorem d1_4 : Dc method_3_code 4 (.iconst 0) 1 5 := ⟨by decide +kernel, rfl⟩
theorem d1_5 : Dc method_3_code 5 (.newarray .char) 2 7 := ⟨by decide +kernel, rfl⟩
theorem d1_7 : Dc method_3_code 7 .areturn 1 8 := ⟨by decide +kernel, rfl⟩
theorem d1_8 : Dc method_3_code 8 (.iload_n 0) 1 9 := ⟨by decide +kernel, rfl⟩
theorem d1_9 : Dc method_3_code 9 (.iconst 1) 1 10 := ⟨by decide +kernel, rfl⟩
theorem d1_10 : Dj method_3_code 10 (.if_icmp .ne) 13 21 := ⟨11, by decide +kernel, rfl, by decide, by decide⟩
theorem d1_13 : Dc method_3_code 13 (.iconst 1) 1 14 := ⟨by decide +kernel, rfl⟩
theorem d1_14 : Dc method_3_code 14 (.newarray .char) 2 16 := ⟨by decide +kernel, rfl⟩
theorem d1_16 : Dc method_3_code 16 .dup 1 17 := ⟨by decide +kernel, rfl⟩
theorem d1_17 : Dc method_3_code 17 (.iconst 0) 1 18 := ⟨by decide +kernel, rfl⟩
theorem d1_18 : Dc method_3_code 18 (.iload_n 1) 1 19 := ⟨by decide +kernel, rfl⟩
theorem d1_19 : Dc method_3_code 19 .castore 1 20 := ⟨by decide +kernel, rfl⟩
theorem d1_20 : Dc method_3_code 20 .areturn 1 21 := ⟨by decide +kernel, rfl⟩
theorem d1_21 : Dc method_3_code 21 (.iload_n 0) 1 22 := ⟨by decide +kernel, rfl⟩
theorem d1_22 : Dc method_3_code 22 (.iconst 2) 1 23 := ⟨by decide +kernel, rfl⟩
theorem d1_23 : Dj method_3_code 23 (.if_icmp .ne) 26 38 := ⟨15, by decide +kernel, rfl, by decide, by decide⟩
theorem d1_26 : Dc method_3_code 26 (.iconst 2) 1 27 := ⟨by decide +kernel, rfl⟩
theorem d1_27 : Dc method_3_code 27 (.newarray .char) 2 29 := ⟨by decide +kernel, rfl⟩
theorem d1_29 : Dc method_3_code 29 .dup 1 30 := ⟨by decide +kernel, rfl⟩
theorem d1_30 : Dc method_3_code 30 (.iconst 0) 1 31 := ⟨by decide +kernel, rfl⟩
theorem d1_31 : Dc method_3_code 31 (.iload_n 1) 1 32 := ⟨by decide +kernel, rfl⟩
theorem d1_32 : Dc method_3_code 32 .castore 1 33 := ⟨by decide +kernel, rfl⟩
theorem d1_33 : Dc method_3_code 33 .dup 1 34 := ⟨by decide +kernel, rfl⟩
theorem d1_34 : Dc method_3_code 34 (.iconst 1) 1 35 := ⟨by decide +kernel, rfl⟩
theorem d1_35 : Dc method_3_code 35 (.iload_n 2) 1 36 := ⟨by decide +kernel, rfl⟩
theorem d1_36 : Dc method_3_code 36 .castore 1 37 := ⟨by decide +kernel, rfl⟩
theorem d1_37 : Dc method_3_code 37 .areturn 1 38 := ⟨by decide +kernel, rfl⟩
theorem d1_38 : Dc method_3_code 38 (.iload_n 0) 1 39 := ⟨by decide +kernel, rfl⟩
theorem d1_39 : Dc method_3_code 39 (.iconst 3) 1 40 := ⟨by decide +kernel, rfl⟩
theorem d1_40 : Dj method_3_code 40 (.if_icmp .ne) 43 59 := ⟨19, by decide +kernel, rfl, by decide, by decide⟩
theorem d1_43 : Dc method_3_code 43 (.iconst 3) 1 44 := ⟨by decide +kernel, rfl⟩
theorem d1_44 : Dc method_3_code 44 (.newarray .char) 2 46 := ⟨by decide +kernel, rfl⟩
theorem d1_46 : Dc method_3_code 46 .dup 1 47 := ⟨by decide +kernel, rfl⟩
theorem d1_47 : Dc method_3_code 47 (.iconst 0) 1 48 := ⟨by decide +kernel, rfl⟩
theorem d1_48 : Dc method_3_code 48 (.iload_n 1) 1 49 := ⟨by decide +kernel, rfl⟩
theorem d1_49 : Dc method_3_code 49 .castore 1 50 := ⟨by decide +kernel, rfl⟩
theorem d1_50 : Dc method_3_code 50 .dup 1 51 := ⟨by decide +kernel, rfl⟩
theorem d1_51 : Dc method_3_code 51 (.iconst 1) 1 52 := ⟨by decide +kernel, rfl⟩
theorem d1_52 : Dc method_3_code 52 (.iload_n 2) 1 53 := ⟨by decide +kernel, rfl⟩
theorem d1_53 : Dc method_3_code 53 .castore 1 54 := ⟨by decide +kernel, rfl⟩
theorem d1_54 : Dc method_3_code 54 .dup 1 55 := ⟨by decide +kernel, rfl⟩
theorem d1_55 : Dc method_3_code 55 (.iconst 2) 1 56 := ⟨by decide +kernel, rfl⟩
theorem d1_56 : Dc method_3_code 56 (.iload_n 3) 1 57 := ⟨by decide +kernel, rfl⟩
theorem d1_57 : Dc method_3_code 57 .castore 1 58 := ⟨by decide +kernel, rfl⟩
theorem d1_58 : Dc method_3_code 58 .areturn 1 59 := ⟨by decide +kernel, rfl⟩
theorem d1_59 : Dc method_3_code 59 (.iload_n 0) 1 60 := ⟨by decide +kernel, rfl⟩
theorem d1_60 : Dc method_3_code 60 (.iconst 4) 1 61 := ⟨by decide +kernel, rfl⟩
theorem d1_61 : Dj method_3_code 61 (.if_icmp .ne) 64 85 := ⟨24, by decide +kernel, rfl, by decide, by decide⟩
theorem d1_64 : Dc method_3_code 64 (.iconst 4) 1 65 := ⟨by decide +kernel, rfl⟩
theorem d1_65 : Dc method_3_code 65 (.newarray .char) 2 67 := ⟨by decide +kernel, rfl⟩
theorem d1_67 : Dc method_3_code 67 .dup 1 68 := ⟨by decide +kernel, rfl⟩
theorem d1_68 : Dc method_3_code 68 (.iconst 0) 1 69 := ⟨by decide +kernel, rfl⟩
theorem d1_69 : Dc method_3_code 69 (.iload_n 1) 1 70 := ⟨by decide +kernel, rfl⟩
theorem d1_70 : Dc method_3_code 70 .castore 1 71 := ⟨by decide +kernel, rfl⟩
theorem d1_71 : Dc method_3_code 71 .dup 1 72 := ⟨by decide +kernel, rfl⟩
theorem d1_72 : Dc method_3_code 72 (.iconst 1) 1 73 := ⟨by decide +kernel, rfl⟩
theorem d1_73 : Dc method_3_code 73 (.iload_n 2) 1 74 := ⟨by decide +kernel, rfl⟩
theorem d1_74 : Dc method_3_code 74 .castore 1 75 := ⟨by decide +kernel, rfl⟩
theorem d1_75 : Dc method_3_code 75 .dup 1 76 := ⟨by decide +kernel, rfl⟩
theorem d1_76 : Dc method_3_code 76 (.iconst 2) 1 77 := ⟨by decide +kernel, rfl⟩
theorem d1_77 : Dc method_3_code 77 (.iload_n 3) 1 78 := ⟨by decide +kernel, rfl⟩
theorem d1_78 : Dc method_3_code 78 .castore 1 79 := ⟨by decide +kernel, rfl⟩
theorem d1_79 : Dc method_3_code 79 .dup 1 80 := ⟨by decide +kernel, rfl⟩
theorem d1_80 : Dc method_3_code 80 (.iconst 3) 1 81 := ⟨by decide +kernel, rfl⟩
theorem d1_81 : Dc method_3_code 81 (.iload 4) 2 83 := ⟨by decide +kernel, rfl⟩
theorem d1_83 : Dc method_3_code 83 .castore 1 84 := ⟨by decide +kernel, rfl⟩
theorem d1_84 : Dc method_3_code 84 .areturn 1 85 := ⟨by decide +kernel, rfl⟩
theorem d1_85 : Dc method_3_code 85 (.iconst 5) 1 86 := ⟨by decide +kernel, rfl⟩
theorem d1_86 : Dc method_3_code 86 (.newarray .char) 2 88 := ⟨by decide +kernel, rfl⟩
theorem d1_88 : Dc method_3_code 88 .dup 1 89 := ⟨by decide +kernel, rfl⟩
theorem d1_89 : Dc method_3_code 89 (.iconst 0) 1 90 := ⟨by decide +kernel, rfl⟩
theorem d1_90 : Dc method_3_code 90 (.iload_n 1) 1 91 := ⟨by decide +kernel, rfl⟩
theorem d1_91 : Dc method_3_code 91 .castore 1 92 := ⟨by decide +kernel, rfl⟩
theorem d1_92 : Dc method_3_code 92 .dup 1 93 := ⟨by decide +kernel, rfl⟩
theorem d1_93 : Dc method_3_code 93 (.iconst 1) 1 94 := ⟨by decide +kernel, rfl⟩
theorem d1_94 : Dc method_3_code 94 (.iload_n 2) 1 95 := ⟨by decide +kernel, rfl⟩
theorem d1_95 : Dc method_3_code 95 .castore 1 96 := ⟨by decide +kernel, rfl⟩
theorem d1_96 : Dc method_3_code 96 .dup 1 97 := ⟨by decide +kernel, rfl⟩
theorem d1_97 : Dc method_3_code 97 (.iconst 2) 1 98 := ⟨by decide +kernel, rfl⟩
theorem d1_98 : Dc method_3_code 98 (.iload_n 3) 1 99 := ⟨by decide +kernel, rfl⟩
theorem d1_99 : Dc method_3_code 99 .castore 1 100 := ⟨by decide +kernel, rfl⟩
theorem d1_100 : Dc method_3_code 100 .dup 1 101 := ⟨by decide +kernel, rfl⟩
theorem d1_101 : Dc method_3_code 101 (.iconst 3) 1 102 := ⟨by decide +kernel, rfl⟩
theorem d1_102 : Dc method_3_code 102 (.iload 4) 2 104 := ⟨by decide +kernel, rfl⟩
theorem d1_104 : Dc method_3_code 104 .castore 1 105 := ⟨by decide +kernel, rfl⟩
theorem d1_105 : Dc method_3_code 105 .dup 1 106 := ⟨by decide +kernel, rfl⟩
theorem d1_106 : Dc method_3_code 106 (.iconst 4) 1 107 := ⟨by decide +kernel, rfl⟩
theorem d1_107 : Dc method_3_code 107 (.iload 5) 2 109 := ⟨by decide +kernel, rfl⟩
theorem d1_109 : Dc method_3_code 109 .castore 1 110 := ⟨by decide +kernel, rfl⟩
theorem d1_110 : Dc method_3_code 110 .areturn 1 111 := ⟨by decide +kernel, rfl⟩
theorem d2_0 : Dc jdk_42_method_3_code 0 (.aload_n 0) 1 1 := ⟨by decide +kernel, rfl⟩
theorem d2_1 : Dc jdk_42_method_3_code 1 (.aload_n 1) 1 2 := ⟨by decide +kernel, rfl⟩
theorem d2_2 : Dc jdk_42_method_3_code 2 (.iconst 0) 1 3 := ⟨by decide +kernel, rfl⟩
theorem d2_3 : Dc jdk_42_method_3_code 3 (.aload_n 1) 1 4 := ⟨by decide +kernel, rfl⟩
theorem d2_4 : Dc jdk_42_method_3_code 4 .arraylength 1 5 := ⟨by decide +kernel, rfl⟩
theorem d2_5 : Dc jdk_42_method_3_code 5 .aconst_null 1 6 := ⟨by decide +kernel, rfl⟩
theorem d2_6 : Dc jdk_42_method_3_code 6 (.invokespecial 27) 3 9 := ⟨by decide +kernel, rfl⟩
theorem d2_9 : Dc jdk_42_method_3_code 9 .return_ 1 10 := ⟨by decide +kernel, rfl⟩
theorem d3_0 : Dc jdk_42_method_149_code 0 (.aload_n 0) 1 1 := ⟨by decide +kernel, rfl⟩
theorem d3_1 : Dc jdk_42_method_149_code 1 (.invokespecial 1) 3 4 := ⟨by decide +kernel, rfl⟩
theorem d3_4 : Dc jdk_42_method_149_code 4 (.iload_n 3) 1 5 := ⟨by decide +kernel, rfl⟩
theorem d3_5 : Dj jdk_42_method_149_code 5 (.ifCond .ne) 8 27 := ⟨22, by decide +kernel, rfl, by decide, by decide⟩
theorem d3_8 : Dc jdk_42_method_149_code 8 (.aload_n 0) 1 9 := ⟨by decide +kernel, rfl⟩
theorem d3_9 : Dc jdk_42_method_149_code 9 (.ldc 7) 2 11 := ⟨by decide +kernel, rfl⟩
theorem d3_11 : Dc jdk_42_method_149_code 11 (.getfield 9) 3 14 := ⟨by decide +kernel, rfl⟩
theorem d3_14 : Dc jdk_42_method_149_code 14 (.putfield 9) 3 17 := ⟨by decide +kernel, rfl⟩
theorem d3_17 : Dc jdk_42_method_149_code 17 (.aload_n 0) 1 18 := ⟨by decide +kernel, rfl⟩
theorem d3_18 : Dc jdk_42_method_149_code 18 (.ldc 7) 2 20 := ⟨by decide +kernel, rfl⟩
theorem d3_20 : Dc jdk_42_method_149_code 20 (.getfield 15) 3 23 := ⟨by decide +kernel, rfl⟩
theorem d3_23 : Dc jdk_42_method_149_code 23 (.putfield 15) 3 26 := ⟨by decide +kernel, rfl⟩
theorem d3_26 : Dc jdk_42_method_149_code 26 .return_ 1 27 := ⟨by decide +kernel, rfl⟩
theorem d3_27 : Dc jdk_42_method_149_code 27 (.getstatic 38) 3 30 := ⟨by decide +kernel, rfl⟩
theorem d3_30 : Dj jdk_42_method_149_code 30 (.ifCond .eq) 33 58 := ⟨28, by decide +kernel, rfl, by decide, by decide⟩
theorem d3_33 : Dc jdk_42_method_149_code 33 (.aload_n 1) 1 34 := ⟨by decide +kernel, rfl⟩
theorem d3_34 : Dc jdk_42_method_149_code 34 (.iload_n 2) 1 35 := ⟨by decide +kernel, rfl⟩
theorem d3_35 : Dc jdk_42_method_149_code 35 (.iload_n 3) 1 36 := ⟨by decide +kernel, rfl⟩
theorem d3_36 : Dc jdk_42_method_149_code 36 (.invokestatic 177) 3 39 := ⟨by decide +kernel, rfl⟩
theorem d3_39 : Dc jdk_42_method_149_code 39 (.astore 5) 2 41 := ⟨by decide +kernel, rfl⟩
theorem d3_41 : Dc jdk_42_method_149_code 41 (.aload_n 0) 1 42 := ⟨by decide +kernel, rfl⟩
theorem d3_42 : Dc jdk_42_method_149_code 42 (.aload 5) 2 44 := ⟨by decide +kernel, rfl⟩
theorem d3_44 : Dc jdk_42_method_149_code 44 (.iload_n 3) 1 45 := ⟨by decide +kernel, rfl⟩
theorem d3_45 : Dc jdk_42_method_149_code 45 (.invokestatic 47) 3 48 := ⟨by decide +kernel, rfl⟩
theorem d3_48 : Dc jdk_42_method_149_code 48 (.putfield 15) 3 51 := ⟨by decide +kernel, rfl⟩
theorem d3_51 : Dc jdk_42_method_149_code 51 (.aload_n 0) 1 52 := ⟨by decide +kernel, rfl⟩
theorem d3_52 : Dc jdk_42_method_149_code 52 (.aload 5) 2 54 := ⟨by decide +kernel, rfl⟩
theorem d3_54 : Dc jdk_42_method_149_code 54 (.putfield 9) 3 57 := ⟨by decide +kernel, rfl⟩
theorem d3_57 : Dc jdk_42_method_149_code 57 .return_ 1 58 := ⟨by decide +kernel, rfl⟩
theorem d5_0 : Dc prog_62_method_3_code 0 (.aload_n 0) 1 1 := ⟨by decide +kernel, rfl⟩
theorem d5_1 : Dc prog_62_method_3_code 1 (.invokeinterface 20 1) 5 6 := ⟨by decide +kernel, rfl⟩
theorem d5_6 : Dj prog_62_method_3_code 6 (.ifCond .eq) 9 22 := ⟨16, by decide +kernel, rfl, by decide, by decide⟩
theorem d5_9 : Dc prog_62_method_3_code 9 (.aload_n 0) 1 10 := ⟨by decide +kernel, rfl⟩
theorem d5_10 : Dc prog_62_method_3_code 10 (.iconst 0) 1 11 := ⟨by decide +kernel, rfl⟩
theorem d5_11 : Dc prog_62_method_3_code 11 (.invokeinterface 46 2) 5 16 := ⟨by decide +kernel, rfl⟩
theorem d5_16 : Dc prog_62_method_3_code 16 (.invokestatic 54) 3 19 := ⟨by decide +kernel, rfl⟩
theorem d5_19 : Dj prog_62_method_3_code 19 (.ifCond .ne) 22 26 := ⟨7, by decide +kernel, rfl, by decide, by decide⟩
theorem d5_22 : Dc prog_62_method_3_code 22 (.invokestatic 95) 3 25 := ⟨by decide +kernel, rfl⟩
theorem d5_25 : Dc prog_62_method_3_code 25 .areturn 1 26 := ⟨by decide +kernel, rfl⟩
theorem d5_26 : Dc prog_62_method_3_code 26 (.new 101) 3 29 := ⟨by decide +kernel, rfl⟩
theorem d5_29 : Dc prog_62_method_3_code 29 .dup 1 30 := ⟨by decide +kernel, rfl⟩
theorem d5_30 : Dc prog_62_method_3_code 30 (.aload_n 0) 1 31 := ⟨by decide +kernel, rfl⟩
theorem d5_31 : Dc prog_62_method_3_code 31 (.invokeinterface 20 1) 5 36 := ⟨by decide +kernel, rfl⟩
theorem d5_36 : Dc prog_62_method_3_code 36 (.invokespecial 103) 3 39 := ⟨by decide +kernel, rfl⟩
theorem d5_39 : Dc prog_62_method_3_code 39 (.astore_n 1) 1 40 := ⟨by decide +kernel, rfl⟩
theorem d5_40 : Dc prog_62_method_3_code 40 (.iconst 0) 1 41 := ⟨by decide +kernel, rfl⟩
theorem d5_41 : Dc prog_62_method_3_code 41 (.istore_n 2) 1 42 := ⟨by decide +kernel, rfl⟩
theorem d5_42 : Dc prog_62_method_3_code 42 (.iload_n 2) 1 43 := ⟨by decide +kernel, rfl⟩
theorem d5_43 : Dc prog_62_method_3_code 43 (.aload_n 0) 1 44 := ⟨by decide +kernel, rfl⟩
theorem d5_44 : Dc prog_62_method_3_code 44 (.invokeinterface 20 1) 5 49 := ⟨by decide +kernel, rfl⟩
theorem d5_49 : Dj prog_62_method_3_code 49 (.if_icmp .ge) 52 87 := ⟨38, by decide +kernel, rfl, by decide, by decide⟩
theorem d5_52 : Dc prog_62_method_3_code 52 (.aload_n 0) 1 53 := ⟨by decide +kernel, rfl⟩
theorem d5_53 : Dc prog_62_method_3_code 53 (.iload_n 2) 1 54 := ⟨by decide +kernel, rfl⟩
theorem d5_54 : Dc prog_62_method_3_code 54 (.invokeinterface 46 2) 5 59 := ⟨by decide +kernel, rfl⟩
theorem d5_59 : Dc prog_62_method_3_code 59 (.istore_n 3) 1 60 := ⟨by decide +kernel, rfl⟩
theorem d5_60 : Dc prog_62_method_3_code 60 (.iload_n 3) 1 61 := ⟨by decide +kernel, rfl⟩
theorem d5_61 : Dc prog_62_method_3_code 61 (.invokestatic 60) 3 64 := ⟨by decide +kernel, rfl⟩
theorem d5_64 : Dj prog_62_method_3_code 64 (.ifCond .ne) 67 71 := ⟨7, by decide +kernel, rfl, by decide, by decide⟩
theorem d5_67 : Dc prog_62_method_3_code 67 (.invokestatic 95) 3 70 := ⟨by decide +kernel, rfl⟩
theorem d5_70 : Dc prog_62_method_3_code 70 .areturn 1 71 := ⟨by decide +kernel, rfl⟩
theorem d5_71 : Dc prog_62_method_3_code 71 (.aload_n 1) 1 72 := ⟨by decide +kernel, rfl⟩
theorem d5_72 : Dc prog_62_method_3_code 72 (.iload_n 3) 1 73 := ⟨by decide +kernel, rfl⟩
theorem d5_73 : Dc prog_62_method_3_code 73 (.invokestatic 69) 3 76 := ⟨by decide +kernel, rfl⟩
theorem d5_76 : Dc prog_62_method_3_code 76 .i2c 1 77 := ⟨by decide +kernel, rfl⟩
theorem d5_77 : Dc prog_62_method_3_code 77 (.invokevirtual 106) 3 80 := ⟨by decide +kernel, rfl⟩
theorem d5_80 : Dc prog_62_method_3_code 80 .pop 1 81 := ⟨by decide +kernel, rfl⟩
theorem d5_81 : Dc prog_62_method_3_code 81 (.iinc 2 1) 3 84 := ⟨by decide +kernel, rfl⟩
theorem d5_84 : Dj prog_62_method_3_code 84 .goto 87 42 := ⟨(-42), by decide +kernel, rfl, by decide, by decide⟩
theorem d5_87 : Dc prog_62_method_3_code 87 (.aload_n 1) 1 88 := ⟨by decide +kernel, rfl⟩
theorem d5_88 : Dc prog_62_method_3_code 88 (.invokevirtual 110) 3 91 := ⟨by decide +kernel, rfl⟩
theorem d5_91 : Dc prog_62_method_3_code 91 (.invokestatic 114) 3 94 := ⟨by decide +kernel, rfl⟩
theorem d5_94 : Dc prog_62_method_3_code 94 .areturn 1 95 := ⟨by decide +kernel, rfl⟩
theorem d6_0 : Dc jdk_42_method_54_code 0 (.aload_n 0) 1 1 := ⟨by decide +kernel, rfl⟩
theorem d6_1 : Dc jdk_42_method_54_code 1 (.getfield 9) 3 4 := ⟨by decide +kernel, rfl⟩
theorem d6_4 : Dc jdk_42_method_54_code 4 .arraylength 1 5 := ⟨by decide +kernel, rfl⟩
theorem d6_5 : Dc jdk_42_method_54_code 5 (.aload_n 0) 1 6 := ⟨by decide +kernel, rfl⟩
theorem d6_6 : Dc jdk_42_method_54_code 6 (.invokevirtual 335) 3 9 := ⟨by decide +kernel, rfl⟩
theorem d6_9 : Dc jdk_42_method_54_code 9 .ishr 1 10 := ⟨by decide +kernel, rfl⟩
theorem d6_10 : Dc jdk_42_method_54_code 10 .ireturn 1 11 := ⟨by decide +kernel, rfl⟩
theorem d7_0 : Dc jdk_42_method_152_code 0 (.getstatic 38) 3 3 := ⟨by decide +kernel, rfl⟩
theorem d7_3 : Dj jdk_42_method_152_code 3 (.ifCond .eq) 6 13 := ⟨10, by decide +kernel, rfl, by decide, by decide⟩
theorem d7_6 : Dc jdk_42_method_152_code 6 (.aload_n 0) 1 7 := ⟨by decide +kernel, rfl⟩
theorem d7_7 : Dc jdk_42_method_152_code 7 (.getfield 15) 3 10 := ⟨by decide +kernel, rfl⟩
theorem d7_10 : Dj jdk_42_method_152_code 10 .goto 13 14 := ⟨4, by decide +kernel, rfl, by decide, by decide⟩
theorem d7_14 : Dc jdk_42_method_152_code 14 .ireturn 1 15 := ⟨by decide +kernel, rfl⟩
theorem d8_0 : Dc jdk_32_method_1_code 0 (.getstatic 1) 3 3 := ⟨by decide +kernel, rfl⟩
theorem d8_3 : Dc jdk_32_method_1_code 3 (.astore_n 0) 1 4 := ⟨by decide +kernel, rfl⟩
theorem d8_4 : Dc jdk_32_method_1_code 4 (.aload_n 0) 1 5 := ⟨by decide +kernel, rfl⟩
theorem d8_5 : Dc jdk_32_method_1_code 5 .areturn 1 6 := ⟨by decide +kernel, rfl⟩
theorem d9_0 : Dc jdk_32_method_6_code 0 (.aload_n 0) 1 1 := ⟨by decide +kernel, rfl⟩
theorem d9_1 : Dc jdk_32_method_6_code 1 (.getfield 13) 3 4 := ⟨by decide +kernel, rfl⟩
theorem d9_4 : Dj jdk_32_method_6_code 4 .ifnull 7 11 := ⟨7, by decide +kernel, rfl, by decide, by decide⟩
theorem d9_7 : Dc jdk_32_method_6_code 7 (.iconst 1) 1 8 := ⟨by decide +kernel, rfl⟩
theorem d9_8 : Dj jdk_32_method_6_code 8 .goto 11 12 := ⟨4, by decide +kernel, rfl, by decide, by decide⟩
theorem d9_11 : Dc jdk_32_method_6_code 11 (.iconst 0) 1 12 := ⟨by decide +kernel, rfl⟩
theorem d9_12 : Dc jdk_32_method_6_code 12 .ireturn 1 13 := ⟨by decide +kernel, rfl⟩
theorem d10_0 : Dc jdk_52_method_16_code 0 (.iload_n 2) 1 1 := ⟨by decide +kernel, rfl⟩
theorem d10_1 : Dc jdk_52_method_16_code 1 (.newarray .byte) 2 3 := ⟨by decide +kernel, rfl⟩
theorem d10_3 : Dc jdk_52_method_16_code 3 (.astore_n 3) 1 4 := ⟨by decide +kernel, rfl⟩
theorem d10_4 : Dc jdk_52_method_16_code 4 (.aload_n 0) 1 5 := ⟨by decide +kernel, rfl⟩
theorem d10_5 : Dc jdk_52_method_16_code 5 (.iload_n 1) 1 6 := ⟨by decide +kernel, rfl⟩
theorem d10_6 : Dc jdk_52_method_16_code 6 (.aload_n 3) 1 7 := ⟨by decide +kernel, rfl⟩
theorem d10_7 : Dc jdk_52_method_16_code 7 (.iconst 0) 1 8 := ⟨by decide +kernel, rfl⟩
theorem d10_8 : Dc jdk_52_method_16_code 8 (.iload_n 2) 1 9 := ⟨by decide +kernel, rfl⟩
theorem d10_9 : Dc jdk_52_method_16_code 9 (.invokestatic 115) 3 12 := ⟨by decide +kernel, rfl⟩
theorem d10_12 : Dc jdk_52_method_16_code 12 (.istore 4) 2 14 := ⟨by decide +kernel, rfl⟩
theorem d10_14 : Dc jdk_52_method_16_code 14 (.iload 4) 2 16 := ⟨by decide +kernel, rfl⟩
theorem d10_16 : Dc jdk_52_method_16_code 16 (.iload_n 2) 1 17 := ⟨by decide +kernel, rfl⟩
theorem d10_17 : Dj jdk_52_method_16_code 17 (.if_icmp .eq) 20 57 := ⟨40, by decide +kernel, rfl, by decide, by decide⟩
theorem d10_20 : Dc jdk_52_method_16_code 20 (.aload_n 0) 1 21 := ⟨by decide +kernel, rfl⟩
theorem d10_21 : Dc jdk_52_method_16_code 21 (.iload_n 1) 1 22 := ⟨by decide +kernel, rfl⟩
theorem d10_22 : Dc jdk_52_method_16_code 22 (.iload_n 2) 1 23 := ⟨by decide +kernel, rfl⟩
theorem d10_23 : Dc jdk_52_method_16_code 23 (.invokestatic 119) 3 26 := ⟨by decide +kernel, rfl⟩
theorem d10_26 : Dc jdk_52_method_16_code 26 (.astore 5) 2 28 := ⟨by decide +kernel, rfl⟩
theorem d10_28 : Dc jdk_52_method_16_code 28 (.aload 5) 2 30 := ⟨by decide +kernel, rfl⟩
theorem d10_30 : Dc jdk_52_method_16_code 30 (.iload 4) 2 32 := ⟨by decide +kernel, rfl⟩
theorem d10_32 : Dc jdk_52_method_16_code 32 (.invokestatic 71) 3 35 := ⟨by decide +kernel, rfl⟩
theorem d10_35 : Dc jdk_52_method_16_code 35 (.sipush 255) 3 38 := ⟨by decide +kernel, rfl⟩
theorem d10_38 : Dj jdk_52_method_16_code 38 (.if_icmp .gt) 41 54 := ⟨16, by decide +kernel, rfl, by decide, by decide⟩
theorem d10_54 : Dc jdk_52_method_16_code 54 (.aload 5) 2 56 := ⟨by decide +kernel, rfl⟩
theorem d10_56 : Dc jdk_52_method_16_code 56 .areturn 1 57 := ⟨by decide +kernel, rfl⟩
theorem d10_57 : Dc jdk_52_method_16_code 57 (.aload_n 3) 1 58 := ⟨by decide +kernel, rfl⟩
theorem d10_58 : Dc jdk_52_method_16_code 58 .areturn 1 59 := ⟨by decide +kernel, rfl⟩
theorem d11_0 : Dc jdk_52_method_21_code 0 (.iconst 0) 1 1 := ⟨by decide +kernel, rfl⟩
theorem d11_1 : Dc jdk_52_method_21_code 1 (.istore 5) 2 3 := ⟨by decide +kernel, rfl⟩
theorem d11_3 : Dc jdk_52_method_21_code 3 (.iload 5) 2 5 := ⟨by decide +kernel, rfl⟩
theorem d11_5 : Dc jdk_52_method_21_code 5 (.iload 4) 2 7 := ⟨by decide +kernel, rfl⟩
theorem d11_7 : Dj jdk_52_method_21_code 7 (.if_icmp .ge) 10 44 := ⟨37, by decide +kernel, rfl, by decide, by decide⟩
theorem d11_10 : Dc jdk_52_method_21_code 10 (.aload_n 0) 1 11 := ⟨by decide +kernel, rfl⟩
theorem d11_11 : Dc jdk_52_method_21_code 11 (.iload_n 1) 1 12 := ⟨by decide +kernel, rfl⟩
theorem d11_12 : Dc jdk_52_method_21_code 12 .caload 1 13 := ⟨by decide +kernel, rfl⟩
theorem d11_13 : Dc jdk_52_method_21_code 13 (.istore 6) 2 15 := ⟨by decide +kernel, rfl⟩
theorem d11_15 : Dc jdk_52_method_21_code 15 (.iload 6) 2 17 := ⟨by decide +kernel, rfl⟩
theorem d11_17 : Dc jdk_52_method_21_code 17 (.sipush 255) 3 20 := ⟨by decide +kernel, rfl⟩
theorem d11_20 : Dj jdk_52_method_21_code 20 (.if_icmp .le) 23 26 := ⟨6, by decide +kernel, rfl, by decide, by decide⟩
theorem d11_23 : Dc jdk_52_method_21_code 23 (.iload 5) 2 25 := ⟨by decide +kernel, rfl⟩
theorem d11_25 : Dc jdk_52_method_21_code 25 .ireturn 1 26 := ⟨by decide +kernel, rfl⟩
theorem d11_26 : Dc jdk_52_method_21_code 26 (.aload_n 2) 1 27 := ⟨by decide +kernel, rfl⟩
theorem d11_27 : Dc jdk_52_method_21_code 27 (.iload_n 3) 1 28 := ⟨by decide +kernel, rfl⟩
theorem d11_28 : Dc jdk_52_method_21_code 28 (.iload 6) 2 30 := ⟨by decide +kernel, rfl⟩
theorem d11_30 : Dc jdk_52_method_21_code 30 .i2b 1 31 := ⟨by decide +kernel, rfl⟩
theorem d11_31 : Dc jdk_52_method_21_code 31 .bastore 1 32 := ⟨by decide +kernel, rfl⟩
theorem d11_32 : Dc jdk_52_method_21_code 32 (.iinc 1 1) 3 35 := ⟨by decide +kernel, rfl⟩
theorem d11_35 : Dc jdk_52_method_21_code 35 (.iinc 3 1) 3 38 := ⟨by decide +kernel, rfl⟩
theorem d11_38 : Dc jdk_52_method_21_code 38 (.iinc 5 1) 3 41 := ⟨by decide +kernel, rfl⟩
theorem d11_41 : Dj jdk_52_method_21_code 41 .goto 44 3 := ⟨(-38), by decide +kernel, rfl, by decide, by decide⟩
theorem d11_44 : Dc jdk_52_method_21_code 44 (.iload 4) 2 46 := ⟨by decide +kernel, rfl⟩
theorem d11_46 : Dc jdk_52_method_21_code 46 .ireturn 1 47 := ⟨by decide +kernel, rfl⟩
theorem d12_0 : Dc jdk_52_method_15_code 0 (.iload_n 1) 1 1 := ⟨by decide +kernel, rfl⟩
theorem d12_1 : Dc jdk_52_method_15_code 1 (.aload_n 0) 1 2 := ⟨by decide +kernel, rfl⟩
theorem d12_2 : Dc jdk_52_method_15_code 2 .arraylength 1 3 := ⟨by decide +kernel, rfl⟩
theorem d12_3 : Dc jdk_52_method_15_code 3 .isub 1 4 := ⟨by decide +kernel, rfl⟩
theorem d12_4 : Dc jdk_52_method_15_code 4 (.bipush 31) 2 6 := ⟨by decide +kernel, rfl⟩
theorem d12_6 : Dc jdk_52_method_15_code 6 .iushr 1 7 := ⟨by decide +kernel, rfl⟩
theorem d12_7 : Dc jdk_52_method_15_code 7 .i2b 1 8 := ⟨by decide +kernel, rfl⟩
theorem d12_8 : Dc jdk_52_method_15_code 8 .ireturn 1 9 := ⟨by decide +kernel, rfl⟩
theorem d13_0 : Dc jdk_42_method_56_code 0 (.aload_n 0) 1 1 := ⟨by decide +kernel, rfl⟩
theorem d13_1 : Dc jdk_42_method_56_code 1 (.invokevirtual 492) 3 4 := ⟨by decide +kernel, rfl⟩
theorem d13_4 : Dj jdk_42_method_56_code 4 (.ifCond .eq) 7 16 := ⟨12, by decide +kernel, rfl, by decide, by decide⟩
theorem d13_7 : Dc jdk_42_method_56_code 7 (.aload_n 0) 1 8 := ⟨by decide +kernel, rfl⟩
theorem d13_8 : Dc jdk_42_method_56_code 8 (.getfield 9) 3 11 := ⟨by decide +kernel, rfl⟩
theorem d13_11 : Dc jdk_42_method_56_code 11 (.iload_n 1) 1 12 := ⟨by decide +kernel, rfl⟩
theorem d13_12 : Dc jdk_42_method_56_code 12 (.invokestatic 495) 3 15 := ⟨by decide +kernel, rfl⟩
theorem d13_15 : Dc jdk_42_method_56_code 15 .ireturn 1 16 := ⟨by decide +kernel, rfl⟩
theorem d13_16 : Dc jdk_42_method_56_code 16 (.aload_n 0) 1 17 := ⟨by decide +kernel, rfl⟩
theorem d13_17 : Dc jdk_42_method_56_code 17 (.getfield 9) 3 20 := ⟨by decide +kernel, rfl⟩
theorem d13_20 : Dc jdk_42_method_56_code 20 (.iload_n 1) 1 21 := ⟨by decide +kernel, rfl⟩
theorem d13_21 : Dc jdk_42_method_56_code 21 (.invokestatic 498) 3 24 := ⟨by decide +kernel, rfl⟩
theorem d13_24 : Dc jdk_42_method_56_code 24 .ireturn 1 25 := ⟨by decide +kernel, rfl⟩
theorem d14_0 : Dc jdk_42_method_154_code 0 (.getstatic 38) 3 3 := ⟨by decide +kernel, rfl⟩
theorem d14_3 : Dj jdk_42_method_154_code 3 (.ifCond .eq) 6 17 := ⟨14, by decide +kernel, rfl, by decide, by decide⟩
theorem d14_6 : Dc jdk_42_method_154_code 6 (.aload_n 0) 1 7 := ⟨by decide +kernel, rfl⟩
theorem d14_7 : Dc jdk_42_method_154_code 7 (.getfield 15) 3 10 := ⟨by decide +kernel, rfl⟩
theorem d14_10 : Dj jdk_42_method_154_code 10 (.ifCond .ne) 13 17 := ⟨7, by decide +kernel, rfl, by decide, by decide⟩
theorem d14_13 : Dc jdk_42_method_154_code 13 (.iconst 1) 1 14 := ⟨by decide +kernel, rfl⟩
theorem d14_14 : Dj jdk_42_method_154_code 14 .goto 17 18 := ⟨4, by decide +kernel, rfl, by decide, by decide⟩
theorem d14_17 : Dc jdk_42_method_154_code 17 (.iconst 0) 1 18 := ⟨by decide +kernel, rfl⟩
theorem d14_18 : Dc jdk_42_method_154_code 18 .ireturn 1 19 := ⟨by decide +kernel, rfl⟩
theorem d15_0 : Dc jdk_43_method_2_code 0 (.iload_n 1) 1 1 := ⟨by decide +kernel, rfl⟩
theorem d15_1 : Dc jdk_43_method_2_code 1 (.aload_n 0) 1 2 := ⟨by decide +kernel, rfl⟩
theorem d15_2 : Dc jdk_43_method_2_code 2 .arraylength 1 3 := ⟨by decide +kernel, rfl⟩
theorem d15_3 : Dc jdk_43_method_2_code 3 (.invokestatic 9) 3 6 := ⟨by decide +kernel, rfl⟩
theorem d15_6 : Dc jdk_43_method_2_code 6 (.aload_n 0) 1 7 := ⟨by decide +kernel, rfl⟩
theorem d15_7 : Dc jdk_43_method_2_code 7 (.iload_n 1) 1 8 := ⟨by decide +kernel, rfl⟩
theorem d15_8 : Dc jdk_43_method_2_code 8 .baload 1 9 := ⟨by decide +kernel, rfl⟩
theorem d15_9 : Dc jdk_43_method_2_code 9 (.sipush 255) 3 12 := ⟨by decide +kernel, rfl⟩
theorem d15_12 : Dc jdk_43_method_2_code 12 .iand 1 13 := ⟨by decide +kernel, rfl⟩
theorem d15_13 : Dc jdk_43_method_2_code 13 .i2c 1 14 := ⟨by decide +kernel, rfl⟩
theorem d15_14 : Dc jdk_43_method_2_code 14 .ireturn 1 15 := ⟨by decide +kernel, rfl⟩
theorem d16_0 : Dc jdk_42_method_155_code 0 (.iload_n 0) 1 1 := ⟨by decide +kernel, rfl⟩
theorem d16_1 : Dc jdk_42_method_155_code 1 (.iload_n 1) 1 2 := ⟨by decide +kernel, rfl⟩
theorem d16_2 : Dc jdk_42_method_155_code 2 (.getstatic 1053) 3 5 := ⟨by decide +kernel, rfl⟩
theorem d16_5 : Dc jdk_42_method_155_code 5 (.invokestatic 1059) 3 8 := ⟨by decide +kernel, rfl⟩
theorem d16_8 : Dc jdk_42_method_155_code 8 .pop 1 9 := ⟨by decide +kernel, rfl⟩
theorem d16_9 : Dc jdk_42_method_155_code 9 .return_ 1 10 := ⟨by decide +kernel, rfl⟩
theorem d17_0 : Dc jdk_41_method_11_code 0 (.iload_n 0) 1 1 := ⟨by decide +kernel, rfl⟩
theorem d17_1 : Dj jdk_41_method_11_code 1 (.ifCond .lt) 4 9 := ⟨8, by decide +kernel, rfl, by decide, by decide⟩
theorem d17_4 : Dc jdk_41_method_11_code 4 (.iload_n 0) 1 5 := ⟨by decide +kernel, rfl⟩
theorem d17_5 : Dc jdk_41_method_11_code 5 (.iload_n 1) 1 6 := ⟨by decide +kernel, rfl⟩
theorem d17_6 : Dj jdk_41_method_11_code 6 (.if_icmp .lt) 9 16 := ⟨10, by decide +kernel, rfl, by decide, by decide⟩
theorem d17_16 : Dc jdk_41_method_11_code 16 (.iload_n 0) 1 17 := ⟨by decide +kernel, rfl⟩
theorem d17_17 : Dc jdk_41_method_11_code 17 .ireturn 1 18 := ⟨by decide +kernel, rfl⟩
theorem d18_0 : Dc prog_62_method_19_code 0 (.iload_n 0) 1 1 := ⟨by decide +kernel, rfl⟩
theorem d18_1 : Dc prog_62_method_19_code 1 (.bipush 65) 2 3 := ⟨by decide +kernel, rfl⟩
theorem d18_3 : Dj prog_62_method_19_code 3 (.if_icmp .lt) 6 12 := ⟨9, by decide +kernel, rfl, by decide, by decide⟩
theorem d18_6 : Dc prog_62_method_19_code 6 (.iload_n 0) 1 7 := ⟨by decide +kernel, rfl⟩
theorem d18_7 : Dc prog_62_method_19_code 7 (.bipush 90) 2 9 := ⟨by decide +kernel, rfl⟩
theorem d18_9 : Dj prog_62_method_19_code 9 (.if_icmp .le) 12 24 := ⟨15, by decide +kernel, rfl, by decide, by decide⟩
theorem d18_12 : Dc prog_62_method_19_code 12 (.iload_n 0) 1 13 := ⟨by decide +kernel, rfl⟩
theorem d18_13 : Dc prog_62_method_19_code 13 (.bipush 97) 2 15 := ⟨by decide +kernel, rfl⟩
theorem d18_15 : Dj prog_62_method_19_code 15 (.if_icmp .lt) 18 28 := ⟨13, by decide +kernel, rfl, by decide, by decide⟩
theorem d18_18 : Dc prog_62_method_19_code 18 (.iload_n 0) 1 19 := ⟨by decide +kernel, rfl⟩
theorem d18_19 : Dc prog_62_method_19_code 19 (.bipush 122) 2 21 := ⟨by decide +kernel, rfl⟩
theorem d18_21 : Dj prog_62_method_19_code 21 (.if_icmp .gt) 24 28 := ⟨7, by decide +kernel, rfl, by decide, by decide⟩
theorem d18_24 : Dc prog_62_method_19_code 24 (.iconst 1) 1 25 := ⟨by decide +kernel, rfl⟩
theorem d18_25 : Dj prog_62_method_19_code 25 .goto 28 29 := ⟨4, by decide +kernel, rfl, by decide, by decide⟩
theorem d18_28 : Dc prog_62_method_19_code 28 (.iconst 0) 1 29 := ⟨by decide +kernel, rfl⟩
theorem d18_29 : Dc prog_62_method_19_code 29 .ireturn 1 30 := ⟨by decide +kernel, rfl⟩
theorem d19_0 : Dc method_4_code 0 (.iload_n 0) 1 1 := ⟨by decide +kernel, rfl⟩
theorem d19_1 : Dc method_4_code 1 (.bipush 97) 2 3 := ⟨by decide +kernel, rfl⟩
theorem d19_3 : Dj method_4_code 3 (.if_icmp .lt) 6 12 := ⟨9, by decide +kernel, rfl, by decide, by decide⟩
theorem d19_6 : Dc method_4_code 6 (.iload_n 0) 1 7 := ⟨by decide +kernel, rfl⟩
theorem d19_7 : Dc method_4_code 7 (.bipush 122) 2 9 := ⟨by decide +kernel, rfl⟩
theorem d19_9 : Dj method_4_code 9 (.if_icmp .le) 12 24 := ⟨15, by decide +kernel, rfl, by decide, by decide⟩
theorem d19_12 : Dc method_4_code 12 (.iload_n 0) 1 13 := ⟨by decide +kernel, rfl⟩
theorem d19_13 : Dc method_4_code 13 (.bipush 65) 2 15 := ⟨by decide +kernel, rfl⟩
theorem d19_15 : Dj method_4_code 15 (.if_icmp .lt) 18 28 := ⟨13, by decide +kernel, rfl, by decide, by decide⟩
theorem d19_18 : Dc method_4_code 18 (.iload_n 0) 1 19 := ⟨by decide +kernel, rfl⟩
theorem d19_19 : Dc method_4_code 19 (.bipush 90) 2 21 := ⟨by decide +kernel, rfl⟩
theorem d19_21 : Dj method_4_code 21 (.if_icmp .gt) 24 28 := ⟨7, by decide +kernel, rfl, by decide, by decide⟩
theorem d19_24 : Dc method_4_code 24 (.iconst 1) 1 25 := ⟨by decide +kernel, rfl⟩
theorem d19_25 : Dj method_4_code 25 .goto 28 29 := ⟨4, by decide +kernel, rfl, by decide, by decide⟩
theorem d19_28 : Dc method_4_code 28 (.iconst 0) 1 29 := ⟨by decide +kernel, rfl⟩
theorem d19_29 : Dc method_4_code 29 .ireturn 1 30 := ⟨by decide +kernel, rfl⟩
theorem d20_0 : Dc jdk_52_method_14_code 0 (.iload_n 2) 1 1 := ⟨by decide +kernel, rfl⟩
theorem d20_1 : Dc jdk_52_method_14_code 1 (.invokestatic 107) 3 4 := ⟨by decide +kernel, rfl⟩
theorem d20_4 : Dc jdk_52_method_14_code 4 (.astore_n 3) 1 5 := ⟨by decide +kernel, rfl⟩
theorem d20_5 : Dc jdk_52_method_14_code 5 (.iconst 0) 1 6 := ⟨by decide +kernel, rfl⟩
theorem d20_6 : Dc jdk_52_method_14_code 6 (.istore 4) 2 8 := ⟨by decide +kernel, rfl⟩
theorem d20_8 : Dc jdk_52_method_14_code 8 (.iload 4) 2 10 := ⟨by decide +kernel, rfl⟩
theorem d20_10 : Dc jdk_52_method_14_code 10 (.iload_n 2) 1 11 := ⟨by decide +kernel, rfl⟩
theorem d20_11 : Dj jdk_52_method_14_code 11 (.if_icmp .ge) 14 32 := ⟨21, by decide +kernel, rfl, by decide, by decide⟩
theorem d20_14 : Dc jdk_52_method_14_code 14 (.aload_n 3) 1 15 := ⟨by decide +kernel, rfl⟩
theorem d20_15 : Dc jdk_52_method_14_code 15 (.iload 4) 2 17 := ⟨by decide +kernel, rfl⟩
theorem d20_17 : Dc jdk_52_method_14_code 17 (.aload_n 0) 1 18 := ⟨by decide +kernel, rfl⟩
theorem d20_18 : Dc jdk_52_method_14_code 18 (.iload_n 1) 1 19 := ⟨by decide +kernel, rfl⟩
theorem d20_19 : Dc jdk_52_method_14_code 19 .caload 1 20 := ⟨by decide +kernel, rfl⟩
theorem d20_20 : Dc jdk_52_method_14_code 20 (.invokestatic 111) 3 23 := ⟨by decide +kernel, rfl⟩
theorem d20_23 : Dc jdk_52_method_14_code 23 (.iinc 1 1) 3 26 := ⟨by decide +kernel, rfl⟩
theorem d20_26 : Dc jdk_52_method_14_code 26 (.iinc 4 1) 3 29 := ⟨by decide +kernel, rfl⟩
theorem d20_29 : Dj jdk_52_method_14_code 29 .goto 32 8 := ⟨(-21), by decide +kernel, rfl, by decide, by decide⟩
theorem d20_32 : Dc jdk_52_method_14_code 32 (.aload_n 3) 1 33 := ⟨by decide +kernel, rfl⟩
theorem d20_33 : Dc jdk_52_method_14_code 33 .areturn 1 34 := ⟨by decide +kernel, rfl⟩
theorem d21_0 : Dc jdk_52_method_2_code 0 (.iload_n 0) 1 1 := ⟨by decide +kernel, rfl⟩
theorem d21_1 : Dc jdk_52_method_2_code 1 (.invokestatic 11) 3 4 := ⟨by decide +kernel, rfl⟩
theorem d21_4 : Dc jdk_52_method_2_code 4 (.newarray .byte) 2 6 := ⟨by decide +kernel, rfl⟩
theorem d21_6 : Dc jdk_52_method_2_code 6 .areturn 1 7 := ⟨by decide +kernel, rfl⟩
theorem d22_0 : Dc jdk_52_method_3_code 0 (.iload_n 0) 1 1 := ⟨by decide +kernel, rfl⟩
theorem d22_1 : Dj jdk_52_method_3_code 1 (.ifCond .ge) 4 12 := ⟨11, by decide +kernel, rfl, by decide, by decide⟩
theorem d22_12 : Dc jdk_52_method_3_code 12 (.iload_n 0) 1 13 := ⟨by decide +kernel, rfl⟩
theorem d22_13 : Dc jdk_52_method_3_code 13 (.ldc 20) 2 15 := ⟨by decide +kernel, rfl⟩
theorem d22_15 : Dj jdk_52_method_3_code 15 (.if_icmp .lt) 18 55 := ⟨40, by decide +kernel, rfl, by decide, by decide⟩
theorem d22_55 : Dc jdk_52_method_3_code 55 (.iload_n 0) 1 56 := ⟨by decide +kernel, rfl⟩
theorem d22_56 : Dc jdk_52_method_3_code 56 (.iconst 1) 1 57 := ⟨by decide +kernel, rfl⟩
theorem d22_57 : Dc jdk_52_method_3_code 57 .ishl 1 58 := ⟨by decide +kernel, rfl⟩
theorem d22_58 : Dc jdk_52_method_3_code 58 .ireturn 1 59 := ⟨by decide +kernel, rfl⟩
theorem d23_0 : Dc jdk_52_method_4_code 0 (.getstatic 44) 3 3 := ⟨by decide +kernel, rfl⟩
theorem d23_3 : Dj jdk_52_method_4_code 3 (.ifCond .ne) 6 28 := ⟨25, by decide +kernel, rfl, by decide, by decide⟩
theorem d23_28 : Dc jdk_52_method_4_code 28 (.iload_n 1) 1 29 := ⟨by decide +kernel, rfl⟩
theorem d23_29 : Dc jdk_52_method_4_code 29 (.iconst 1) 1 30 := ⟨by decide +kernel, rfl⟩
theorem d23_30 : Dc jdk_52_method_4_code 30 .ishl 1 31 := ⟨by decide +kernel, rfl⟩
theorem d23_31 : Dc jdk_52_method_4_code 31 (.istore_n 1) 1 32 := ⟨by decide +kernel, rfl⟩
theorem d23_32 : Dc jdk_52_method_4_code 32 (.aload_n 0) 1 33 := ⟨by decide +kernel, rfl⟩
theorem d23_33 : Dc jdk_52_method_4_code 33 (.iload_n 1) 1 34 := ⟨by decide +kernel, rfl⟩
theorem d23_34 : Dc jdk_52_method_4_code 34 (.iinc 1 1) 3 37 := ⟨by decide +kernel, rfl⟩
theorem d23_37 : Dc jdk_52_method_4_code 37 (.iload_n 2) 1 38 := ⟨by decide +kernel, rfl⟩
theorem d23_38 : Dc jdk_52_method_4_code 38 (.getstatic 59) 3 41 := ⟨by decide +kernel, rfl⟩
theorem d23_41 : Dc jdk_52_method_4_code 41 .ishr 1 42 := ⟨by decide +kernel, rfl⟩
theorem d23_42 : Dc jdk_52_method_4_code 42 .i2b 1 43 := ⟨by decide +kernel, rfl⟩
theorem d23_43 : Dc jdk_52_method_4_code 43 .bastore 1 44 := ⟨by decide +kernel, rfl⟩
theorem d23_44 : Dc jdk_52_method_4_code 44 (.aload_n 0) 1 45 := ⟨by decide +kernel, rfl⟩
theorem d23_45 : Dc jdk_52_method_4_code 45 (.iload_n 1) 1 46 := ⟨by decide +kernel, rfl⟩
theorem d23_46 : Dc jdk_52_method_4_code 46 (.iload_n 2) 1 47 := ⟨by decide +kernel, rfl⟩
theorem d23_47 : Dc jdk_52_method_4_code 47 (.getstatic 63) 3 50 := ⟨by decide +kernel, rfl⟩
theorem d23_50 : Dc jdk_52_method_4_code 50 .ishr 1 51 := ⟨by decide +kernel, rfl⟩
theorem d23_51 : Dc jdk_52_method_4_code 51 .i2b 1 52 := ⟨by decide +kernel, rfl⟩
theorem d23_52 : Dc jdk_52_method_4_code 52 .bastore 1 53 := ⟨by decide +kernel, rfl⟩
theorem d23_53 : Dc jdk_52_method_4_code 53 .return_ 1 54 := ⟨by decide +kernel, rfl⟩
theorem d24_0 : Dc jdk_52_method_5_code 0 (.getstatic 44) 3 3 := ⟨by decide +kernel, rfl⟩
theorem d24_3 : Dj jdk_52_method_5_code 3 (.ifCond .ne) 6 28 := ⟨25, by decide +kernel, rfl, by decide, by decide⟩
theorem d24_28 : Dc jdk_52_method_5_code 28 (.iload_n 1) 1 29 := ⟨by decide +kernel, rfl⟩
theorem d24_29 : Dc jdk_52_method_5_code 29 (.iconst 1) 1 30 := ⟨by decide +kernel, rfl⟩
theorem d24_30 : Dc jdk_52_method_5_code 30 .ishl 1 31 := ⟨by decide +kernel, rfl⟩
theorem d24_31 : Dc jdk_52_method_5_code 31 (.istore_n 1) 1 32 := ⟨by decide +kernel, rfl⟩
theorem d24_32 : Dc jdk_52_method_5_code 32 (.aload_n 0) 1 33 := ⟨by decide +kernel, rfl⟩
theorem d24_33 : Dc jdk_52_method_5_code 33 (.iload_n 1) 1 34 := ⟨by decide +kernel, rfl⟩
theorem d24_34 : Dc jdk_52_method_5_code 34 (.iinc 1 1) 3 37 := ⟨by decide +kernel, rfl⟩
theorem d24_37 : Dc jdk_52_method_5_code 37 .baload 1 38 := ⟨by decide +kernel, rfl⟩
theorem d24_38 : Dc jdk_52_method_5_code 38 (.sipush 255) 3 41 := ⟨by decide +kernel, rfl⟩
theorem d24_41 : Dc jdk_52_method_5_code 41 .iand 1 42 := ⟨by decide +kernel, rfl⟩
theorem d24_42 : Dc jdk_52_method_5_code 42 (.getstatic 59) 3 45 := ⟨by decide +kernel, rfl⟩
theorem d24_45 : Dc jdk_52_method_5_code 45 .ishl 1 46 := ⟨by decide +kernel, rfl⟩
theorem d24_46 : Dc jdk_52_method_5_code 46 (.aload_n 0) 1 47 := ⟨by decide +kernel, rfl⟩
theorem d24_47 : Dc jdk_52_method_5_code 47 (.iload_n 1) 1 48 := ⟨by decide +kernel, rfl⟩
theorem d24_48 : Dc jdk_52_method_5_code 48 .baload 1 49 := ⟨by decide +kernel, rfl⟩
theorem d24_49 : Dc jdk_52_method_5_code 49 (.sipush 255) 3 52 := ⟨by decide +kernel, rfl⟩
theorem d24_52 : Dc jdk_52_method_5_code 52 .iand 1 53 := ⟨by decide +kernel, rfl⟩
theorem d24_53 : Dc jdk_52_method_5_code 53 (.getstatic 63) 3 56 := ⟨by decide +kernel, rfl⟩
theorem d24_56 : Dc jdk_52_method_5_code 56 .ishl 1 57 := ⟨by decide +kernel, rfl⟩
theorem d24_57 : Dc jdk_52_method_5_code 57 .ior 1 58 := ⟨by decide +kernel, rfl⟩
theorem d24_58 : Dc jdk_52_method_5_code 58 .i2c 1 59 := ⟨by decide +kernel, rfl⟩
theorem d24_59 : Dc jdk_52_method_5_code 59 .ireturn 1 60 := ⟨by decide +kernel, rfl⟩
theorem d25_0 : Dc jdk_52_method_83_code 0 (.iload_n 1) 1 1 := ⟨by decide +kernel, rfl⟩
theorem d25_1 : Dc jdk_52_method_83_code 1 (.aload_n 0) 1 2 := ⟨by decide +kernel, rfl⟩
theorem d25_2 : Dc jdk_52_method_83_code 2 (.invokestatic 67) 3 5 := ⟨by decide +kernel, rfl⟩
theorem d25_5 : Dc jdk_52_method_83_code 5 (.aload_n 0) 1 6 := ⟨by decide +kernel, rfl⟩
theorem d25_6 : Dc jdk_52_method_83_code 6 (.iload_n 1) 1 7 := ⟨by decide +kernel, rfl⟩
theorem d25_7 : Dc jdk_52_method_83_code 7 (.invokestatic 71) 3 10 := ⟨by decide +kernel, rfl⟩
theorem d25_10 : Dc jdk_52_method_83_code 10 .ireturn 1 11 := ⟨by decide +kernel, rfl⟩
theorem d26_0 : Dc jdk_52_method_91_code 0 (.iload_n 0) 1 1 := ⟨by decide +kernel, rfl⟩
theorem d26_1 : Dc jdk_52_method_91_code 1 (.aload_n 1) 1 2 := ⟨by decide +kernel, rfl⟩
theorem d26_2 : Dc jdk_52_method_91_code 2 (.invokestatic 48) 3 5 := ⟨by decide +kernel, rfl⟩
theorem d26_5 : Dc jdk_52_method_91_code 5 (.invokestatic 414) 3 8 := ⟨by decide +kernel, rfl⟩
theorem d26_8 : Dc jdk_52_method_91_code 8 .return_ 1 9 := ⟨by decide +kernel, rfl⟩
theorem d27_0 : Dc jdk_52_method_6_code 0 (.aload_n 0) 1 1 := ⟨by decide +kernel, rfl⟩
theorem d27_1 : Dc jdk_52_method_6_code 1 .arraylength 1 2 := ⟨by decide +kernel, rfl⟩
theorem d27_2 : Dc jdk_52_method_6_code 2 (.iconst 1) 1 3 := ⟨by decide +kernel, rfl⟩
theorem d27_3 : Dc jdk_52_method_6_code 3 .ishr 1 4 := ⟨by decide +kernel, rfl⟩
theorem d27_4 : Dc jdk_52_method_6_code 4 .ireturn 1 5 := ⟨by decide +kernel, rfl⟩
theorem d28_0 : Dc jdk_67_method_2_code 0 (.aload_n 0) 1 1 := ⟨by decide +kernel, rfl⟩
theorem d28_1 : Dc jdk_67_method_2_code 1 (.iload_n 1) 1 2 := ⟨by decide +kernel, rfl⟩
theorem d28_2 : Dc jdk_67_method_2_code 2 (.invokespecial 1) 3 5 := ⟨by decide +kernel, rfl⟩
theorem d28_5 : Dc jdk_67_method_2_code 5 .return_ 1 6 := ⟨by decide +kernel, rfl⟩
theorem d29_0 : Dc jdk_68_method_2_code 0 (.aload_n 0) 1 1 := ⟨by decide +kernel, rfl⟩
theorem d29_1 : Dc jdk_68_method_2_code 1 (.invokespecial 3) 3 4 := ⟨by decide +kernel, rfl⟩
theorem d29_4 : Dc jdk_68_method_2_code 4 (.getstatic 18) 3 7 := ⟨by decide +kernel, rfl⟩
theorem d29_7 : Dj jdk_68_method_2_code 7 (.ifCond .eq) 10 25 := ⟨18, by decide +kernel, rfl, by decide, by decide⟩
theorem d29_10 : Dc jdk_68_method_2_code 10 (.aload_n 0) 1 11 := ⟨by decide +kernel, rfl⟩
theorem d29_11 : Dc jdk_68_method_2_code 11 (.iload_n 1) 1 12 := ⟨by decide +kernel, rfl⟩
theorem d29_12 : Dc jdk_68_method_2_code 12 (.newarray .byte) 2 14 := ⟨by decide +kernel, rfl⟩
theorem d29_14 : Dc jdk_68_method_2_code 14 (.putfield 15) 3 17 := ⟨by decide +kernel, rfl⟩
theorem d29_17 : Dc jdk_68_method_2_code 17 (.aload_n 0) 1 18 := ⟨by decide +kernel, rfl⟩
theorem d29_18 : Dc jdk_68_method_2_code 18 (.iconst 0) 1 19 := ⟨by decide +kernel, rfl⟩
theorem d29_19 : Dc jdk_68_method_2_code 19 (.putfield 22) 3 22 := ⟨by decide +kernel, rfl⟩
theorem d29_22 : Dj jdk_68_method_2_code 22 .goto 25 38 := ⟨16, by decide +kernel, rfl, by decide, by decide⟩
theorem d29_38 : Dc jdk_68_method_2_code 38 .return_ 1 39 := ⟨by decide +kernel, rfl⟩
theorem d30_0 : Dc prog_62_method_18_code 0 (.iload_n 0) 1 1 := ⟨by decide +kernel, rfl⟩
theorem d30_1 : Dc prog_62_method_18_code 1 (.sipush 128) 3 4 := ⟨by decide +kernel, rfl⟩
theorem d30_4 : Dj prog_62_method_18_code 4 (.if_icmp .ge) 7 19 := ⟨15, by decide +kernel, rfl, by decide, by decide⟩
theorem d30_7 : Dc prog_62_method_18_code 7 (.getstatic 267) 3 10 := ⟨by decide +kernel, rfl⟩
theorem d30_10 : Dc prog_62_method_18_code 10 (.iload_n 0) 1 11 := ⟨by decide +kernel, rfl⟩
theorem d30_11 : Dc prog_62_method_18_code 11 .baload 1 12 := ⟨by decide +kernel, rfl⟩
theorem d30_12 : Dj prog_62_method_18_code 12 (.ifCond .eq) 15 19 := ⟨7, by decide +kernel, rfl, by decide, by decide⟩
theorem d30_15 : Dc prog_62_method_18_code 15 (.iconst 1) 1 16 := ⟨by decide +kernel, rfl⟩
theorem d30_16 : Dj prog_62_method_18_code 16 .goto 19 20 := ⟨4, by decide +kernel, rfl, by decide, by decide⟩
theorem d30_19 : Dc prog_62_method_18_code 19 (.iconst 0) 1 20 := ⟨by decide +kernel, rfl⟩
theorem d30_20 : Dc prog_62_method_18_code 20 .ireturn 1 21 := ⟨by decide +kernel, rfl⟩
theorem d31_0 : Dc prog_62_method_20_code 0 (.iload_n 0) 1 1 := ⟨by decide +kernel, rfl⟩
theorem d31_1 : Dc prog_62_method_20_code 1 (.invokestatic 54) 3 4 := ⟨by decide +kernel, rfl⟩
theorem d31_4 : Dj prog_62_method_20_code 4 (.ifCond .eq) 7 14 := ⟨10, by decide +kernel, rfl, by decide, by decide⟩
theorem d31_7 : Dc prog_62_method_20_code 7 (.iload_n 0) 1 8 := ⟨by decide +kernel, rfl⟩
theorem d31_8 : Dc prog_62_method_20_code 8 (.bipush 32) 2 10 := ⟨by decide +kernel, rfl⟩
theorem d31_10 : Dc prog_62_method_20_code 10 .ior 1 11 := ⟨by decide +kernel, rfl⟩
theorem d31_11 : Dj prog_62_method_20_code 11 .goto 14 15 := ⟨4, by decide +kernel, rfl, by decide, by decide⟩
theorem d31_14 : Dc prog_62_method_20_code 14 (.iload_n 0) 1 15 := ⟨by decide +kernel, rfl⟩
theorem d31_15 : Dc prog_62_method_20_code 15 .ireturn 1 16 := ⟨by decide +kernel, rfl⟩
theorem d32_0 : Dc jdk_67_method_14_code 0 (.aload_n 0) 1 1 := ⟨by decide +kernel, rfl⟩
theorem d32_1 : Dc jdk_67_method_14_code 1 (.iload_n 1) 1 2 := ⟨by decide +kernel, rfl⟩
theorem d32_2 : Dc jdk_67_method_14_code 2 (.invokespecial 50) 3 5 := ⟨by decide +kernel, rfl⟩
theorem d32_5 : Dc jdk_67_method_14_code 5 .pop 1 6 := ⟨by decide +kernel, rfl⟩
theorem d32_6 : Dc jdk_67_method_14_code 6 (.aload_n 0) 1 7 := ⟨by decide +kernel, rfl⟩
theorem d32_7 : Dc jdk_67_method_14_code 7 .areturn 1 8 := ⟨by decide +kernel, rfl⟩
theorem d33_0 : Dc jdk_68_method_31_code 0 (.aload_n 0) 1 1 := ⟨by decide +kernel, rfl⟩
theorem d33_1 : Dc jdk_68_method_31_code 1 (.aload_n 0) 1 2 := ⟨by decide +kernel, rfl⟩
theorem d33_2 : Dc jdk_68_method_31_code 2 (.getfield 79) 3 5 := ⟨by decide +kernel, rfl⟩
theorem d33_5 : Dc jdk_68_method_31_code 5 (.iconst 1) 1 6 := ⟨by decide +kernel, rfl⟩
theorem d33_6 : Dc jdk_68_method_31_code 6 .iadd 1 7 := ⟨by decide +kernel, rfl⟩
theorem d33_7 : Dc jdk_68_method_31_code 7 (.invokevirtual 100) 3 10 := ⟨by decide +kernel, rfl⟩
theorem d33_10 : Dc jdk_68_method_31_code 10 (.aload_n 0) 1 11 := ⟨by decide +kernel, rfl⟩
theorem d33_11 : Dc jdk_68_method_31_code 11 (.invokevirtual 83) 3 14 := ⟨by decide +kernel, rfl⟩
theorem d33_14 : Dj jdk_68_method_31_code 14 (.ifCond .eq) 17 45 := ⟨31, by decide +kernel, rfl, by decide, by decide⟩
theorem d33_17 : Dc jdk_68_method_31_code 17 (.iload_n 1) 1 18 := ⟨by decide +kernel, rfl⟩
theorem d33_18 : Dc jdk_68_method_31_code 18 (.invokestatic 191) 3 21 := ⟨by decide +kernel, rfl⟩
theorem d33_21 : Dj jdk_68_method_31_code 21 (.ifCond .eq) 24 45 := ⟨24, by decide +kernel, rfl, by decide, by decide⟩
theorem d33_24 : Dc jdk_68_method_31_code 24 (.aload_n 0) 1 25 := ⟨by decide +kernel, rfl⟩
theorem d33_25 : Dc jdk_68_method_31_code 25 (.getfield 15) 3 28 := ⟨by decide +kernel, rfl⟩
theorem d33_28 : Dc jdk_68_method_31_code 28 (.aload_n 0) 1 29 := ⟨by decide +kernel, rfl⟩
theorem d33_29 : Dc jdk_68_method_31_code 29 .dup 1 30 := ⟨by decide +kernel, rfl⟩
theorem d33_30 : Dc jdk_68_method_31_code 30 (.getfield 79) 3 33 := ⟨by decide +kernel, rfl⟩
theorem d33_33 : Dc jdk_68_method_31_code 33 .dup_x1 1 34 := ⟨by decide +kernel, rfl⟩
theorem d33_34 : Dc jdk_68_method_31_code 34 (.iconst 1) 1 35 := ⟨by decide +kernel, rfl⟩
theorem d33_35 : Dc jdk_68_method_31_code 35 .iadd 1 36 := ⟨by decide +kernel, rfl⟩
theorem d33_36 : Dc jdk_68_method_31_code 36 (.putfield 79) 3 39 := ⟨by decide +kernel, rfl⟩
theorem d33_39 : Dc jdk_68_method_31_code 39 (.iload_n 1) 1 40 := ⟨by decide +kernel, rfl⟩
theorem d33_40 : Dc jdk_68_method_31_code 40 .i2b 1 41 := ⟨by decide +kernel, rfl⟩
theorem d33_41 : Dc jdk_68_method_31_code 41 .bastore 1 42 := ⟨by decide +kernel, rfl⟩
theorem d33_42 : Dj jdk_68_method_31_code 42 .goto 45 75 := ⟨33, by decide +kernel, rfl, by decide, by decide⟩
theorem d33_75 : Dc jdk_68_method_31_code 75 (.aload_n 0) 1 76 := ⟨by decide +kernel, rfl⟩
theorem d33_76 : Dc jdk_68_method_31_code 76 .areturn 1 77 := ⟨by decide +kernel, rfl⟩
theorem d34_0 : Dc jdk_68_method_9_code 0 (.aload_n 0) 1 1 := ⟨by decide +kernel, rfl⟩
theorem d34_1 : Dc jdk_68_method_9_code 1 (.getfield 15) 3 4 := ⟨by decide +kernel, rfl⟩
theorem d34_4 : Dc jdk_68_method_9_code 4 .arraylength 1 5 := ⟨by decide +kernel, rfl⟩
theorem d34_5 : Dc jdk_68_method_9_code 5 (.aload_n 0) 1 6 := ⟨by decide +kernel, rfl⟩
theorem d34_6 : Dc jdk_68_method_9_code 6 (.getfield 22) 3 9 := ⟨by decide +kernel, rfl⟩
theorem d34_9 : Dc jdk_68_method_9_code 9 .ishr 1 10 := ⟨by decide +kernel, rfl⟩
theorem d34_10 : Dc jdk_68_method_9_code 10 (.istore_n 2) 1 11 := ⟨by decide +kernel, rfl⟩
theorem d34_11 : Dc jdk_68_method_9_code 11 (.iload_n 1) 1 12 := ⟨by decide +kernel, rfl⟩
theorem d34_12 : Dc jdk_68_method_9_code 12 (.iload_n 2) 1 13 := ⟨by decide +kernel, rfl⟩
theorem d34_13 : Dc jdk_68_method_9_code 13 .isub 1 14 := ⟨by decide +kernel, rfl⟩
theorem d34_14 : Dj jdk_68_method_9_code 14 (.ifCond .le) 17 38 := ⟨24, by decide +kernel, rfl, by decide, by decide⟩
theorem d34_38 : Dc jdk_68_method_9_code 38 .return_ 1 39 := ⟨by decide +kernel, rfl⟩
theorem d35_0 : Dc jdk_68_method_68_code 0 (.getstatic 18) 3 3 := ⟨by decide +kernel, rfl⟩
theorem d35_3 : Dj jdk_68_method_68_code 3 (.ifCond .eq) 6 17 := ⟨14, by decide +kernel, rfl, by decide, by decide⟩
theorem d35_6 : Dc jdk_68_method_68_code 6 (.aload_n 0) 1 7 := ⟨by decide +kernel, rfl⟩
theorem d35_7 : Dc jdk_68_method_68_code 7 (.getfield 22) 3 10 := ⟨by decide +kernel, rfl⟩
theorem d35_10 : Dj jdk_68_method_68_code 10 (.ifCond .ne) 13 17 := ⟨7, by decide +kernel, rfl, by decide, by decide⟩
theorem d35_13 : Dc jdk_68_method_68_code 13 (.iconst 1) 1 14 := ⟨by decide +kernel, rfl⟩
theorem d35_14 : Dj jdk_68_method_68_code 14 .goto 17 18 := ⟨4, by decide +kernel, rfl, by decide, by decide⟩
theorem d35_17 : Dc jdk_68_method_68_code 17 (.iconst 0) 1 18 := ⟨by decide +kernel, rfl⟩
theorem d35_18 : Dc jdk_68_method_68_code 18 .ireturn 1 19 := ⟨by decide +kernel, rfl⟩
theorem d36_0 : Dc jdk_43_method_3_code 0 (.iload_n 0) 1 1 := ⟨by decide +kernel, rfl⟩
theorem d36_1 : Dc jdk_43_method_3_code 1 (.sipush 255) 3 4 := ⟨by decide +kernel, rfl⟩
theorem d36_4 : Dj jdk_43_method_3_code 4 (.if_icmp .gt) 7 11 := ⟨7, by decide +kernel, rfl, by decide, by decide⟩
theorem d36_7 : Dc jdk_43_method_3_code 7 (.iconst 1) 1 8 := ⟨by decide +kernel, rfl⟩
theorem d36_8 : Dj jdk_43_method_3_code 8 .goto 11 12 := ⟨4, by decide +kernel, rfl, by decide, by decide⟩
theorem d36_11 : Dc jdk_43_method_3_code 11 (.iconst 0) 1 12 := ⟨by decide +kernel, rfl⟩
theorem d36_12 : Dc jdk_43_method_3_code 12 .ireturn 1 13 := ⟨by decide +kernel, rfl⟩
theorem d37_0 : Dc jdk_67_method_42_code 0 (.new 18) 3 3 := ⟨by decide +kernel, rfl⟩
theorem d37_3 : Dc jdk_67_method_42_code 3 .dup 1 4 := ⟨by decide +kernel, rfl⟩
theorem d37_4 : Dc jdk_67_method_42_code 4 (.aload_n 0) 1 5 := ⟨by decide +kernel, rfl⟩
theorem d37_5 : Dc jdk_67_method_42_code 5 (.invokespecial 137) 3 8 := ⟨by decide +kernel, rfl⟩
theorem d37_8 : Dc jdk_67_method_42_code 8 .areturn 1 9 := ⟨by decide +kernel, rfl⟩
theorem d38_0 : Dc jdk_42_method_53_code 0 (.aload_n 0) 1 1 := ⟨by decide +kernel, rfl⟩
theorem d38_1 : Dc jdk_42_method_53_code 1 (.aload_n 1) 1 2 := ⟨by decide +kernel, rfl⟩
theorem d38_2 : Dc jdk_42_method_53_code 2 .aconst_null 1 3 := ⟨by decide +kernel, rfl⟩
theorem d38_3 : Dc jdk_42_method_53_code 3 (.invokespecial 489) 3 6 := ⟨by decide +kernel, rfl⟩
theorem d38_6 : Dc jdk_42_method_53_code 6 .return_ 1 7 := ⟨by decide +kernel, rfl⟩
theorem d39_0 : Dc jdk_42_method_150_code 0 (.aload_n 0) 1 1 := ⟨by decide +kernel, rfl⟩
theorem d39_1 : Dc jdk_42_method_150_code 1 (.invokespecial 1) 3 4 := ⟨by decide +kernel, rfl⟩
theorem d39_4 : Dc jdk_42_method_150_code 4 (.aload_n 1) 1 5 := ⟨by decide +kernel, rfl⟩
theorem d39_5 : Dc jdk_42_method_150_code 5 (.invokevirtual 552) 3 8 := ⟨by decide +kernel, rfl⟩
theorem d39_8 : Dc jdk_42_method_150_code 8 (.astore_n 3) 1 9 := ⟨by decide +kernel, rfl⟩
theorem d39_9 : Dc jdk_42_method_150_code 9 (.aload_n 1) 1 10 := ⟨by decide +kernel, rfl⟩
theorem d39_10 : Dc jdk_42_method_150_code 10 (.invokevirtual 549) 3 13 := ⟨by decide +kernel, rfl⟩
theorem d39_13 : Dc jdk_42_method_150_code 13 (.istore 4) 2 15 := ⟨by decide +kernel, rfl⟩
theorem d39_15 : Dc jdk_42_method_150_code 15 (.aload_n 1) 1 16 := ⟨by decide +kernel, rfl⟩
theorem d39_16 : Dc jdk_42_method_150_code 16 (.invokevirtual 1047) 3 19 := ⟨by decide +kernel, rfl⟩
theorem d39_19 : Dj jdk_42_method_150_code 19 (.ifCond .eq) 22 41 := ⟨22, by decide +kernel, rfl, by decide, by decide⟩
theorem d39_22 : Dc jdk_42_method_150_code 22 (.aload_n 0) 1 23 := ⟨by decide +kernel, rfl⟩
theorem d39_23 : Dc jdk_42_method_150_code 23 (.iconst 0) 1 24 := ⟨by decide +kernel, rfl⟩
theorem d39_24 : Dc jdk_42_method_150_code 24 (.putfield 15) 3 27 := ⟨by decide +kernel, rfl⟩
theorem d39_27 : Dc jdk_42_method_150_code 27 (.aload_n 0) 1 28 := ⟨by decide +kernel, rfl⟩
theorem d39_28 : Dc jdk_42_method_150_code 28 (.aload_n 3) 1 29 := ⟨by decide +kernel, rfl⟩
theorem d39_29 : Dc jdk_42_method_150_code 29 (.iconst 0) 1 30 := ⟨by decide +kernel, rfl⟩
theorem d39_30 : Dc jdk_42_method_150_code 30 (.iload 4) 2 32 := ⟨by decide +kernel, rfl⟩
theorem d39_32 : Dc jdk_42_method_150_code 32 (.invokestatic 54) 3 35 := ⟨by decide +kernel, rfl⟩
theorem d39_35 : Dc jdk_42_method_150_code 35 (.putfield 9) 3 38 := ⟨by decide +kernel, rfl⟩
theorem d39_38 : Dj jdk_42_method_150_code 38 .goto 41 97 := ⟨59, by decide +kernel, rfl, by decide, by decide⟩
theorem d39_97 : Dc jdk_42_method_150_code 97 .return_ 1 98 := ⟨by decide +kernel, rfl⟩
theorem d40_0 : Dc jdk_68_method_64_code 0 (.aload_n 0) 1 1 := ⟨by decide +kernel, rfl⟩
theorem d40_1 : Dc jdk_68_method_64_code 1 (.getfield 15) 3 4 := ⟨by decide +kernel, rfl⟩
theorem d40_4 : Dc jdk_68_method_64_code 4 .areturn 1 5 := ⟨by decide +kernel, rfl⟩
theorem d41_0 : Dc jdk_67_method_93_code 0 (.aload_n 0) 1 1 := ⟨by decide +kernel, rfl⟩
theorem d41_1 : Dc jdk_67_method_93_code 1 (.invokespecial 343) 3 4 := ⟨by decide +kernel, rfl⟩
theorem d41_4 : Dc jdk_67_method_93_code 4 .ireturn 1 5 := ⟨by decide +kernel, rfl⟩
theorem d42_0 : Dc jdk_68_method_6_code 0 (.aload_n 0) 1 1 := ⟨by decide +kernel, rfl⟩
theorem d42_1 : Dc jdk_68_method_6_code 1 (.getfield 79) 3 4 := ⟨by decide +kernel, rfl⟩
theorem d42_4 : Dc jdk_68_method_6_code 4 .ireturn 1 5 := ⟨by decide +kernel, rfl⟩
theorem d43_0 : Dc jdk_65_method_132_code 0 (.iload_n 1) 1 1 := ⟨by decide +kernel, rfl⟩
theorem d43_1 : Dj jdk_65_method_132_code 1 (.ifCond .ne) 4 10 := ⟨9, by decide +kernel, rfl, by decide, by decide⟩
theorem d43_4 : Dc jdk_65_method_132_code 4 (.iload_n 2) 1 5 := ⟨by decide +kernel, rfl⟩
theorem d43_5 : Dc jdk_65_method_132_code 5 (.aload_n 0) 1 6 := ⟨by decide +kernel, rfl⟩
theorem d43_6 : Dc jdk_65_method_132_code 6 .arraylength 1 7 := ⟨by decide +kernel, rfl⟩
theorem d43_7 : Dj jdk_65_method_132_code 7 (.if_icmp .eq) 10 17 := ⟨10, by decide +kernel, rfl, by decide, by decide⟩
theorem d43_17 : Dc jdk_65_method_132_code 17 (.aload_n 0) 1 18 := ⟨by decide +kernel, rfl⟩
theorem d43_18 : Dc jdk_65_method_132_code 18 (.invokevirtual 310) 3 21 := ⟨by decide +kernel, rfl⟩
theorem d43_21 : Dc jdk_65_method_132_code 21 (.checkcast 311) 3 24 := ⟨by decide +kernel, rfl⟩
theorem d43_24 : Dc jdk_65_method_132_code 24 .areturn 1 25 := ⟨by decide +kernel, rfl⟩
theorem d44_0 : Dc jdk_32_method_3_code 0 (.new 2) 3 3 := ⟨by decide +kernel, rfl⟩
theorem d44_3 : Dc jdk_32_method_3_code 3 .dup 1 4 := ⟨by decide +kernel, rfl⟩
theorem d44_4 : Dc jdk_32_method_3_code 4 (.aload_n 0) 1 5 := ⟨by decide +kernel, rfl⟩
theorem d44_5 : Dc jdk_32_method_3_code 5 (.invokestatic 17) 3 8 := ⟨by decide +kernel, rfl⟩
theorem d44_8 : Dc jdk_32_method_3_code 8 (.invokespecial 23) 3 11 := ⟨by decide +kernel, rfl⟩
theorem d44_11 : Dc jdk_32_method_3_code 11 .areturn 1 12 := ⟨by decide +kernel, rfl⟩
theorem d45_0 : Dc jdk_31_method_10_code 0 (.aload_n 0) 1 1 := ⟨by decide +kernel, rfl⟩
theorem d45_1 : Dj jdk_31_method_10_code 1 .ifnonnull 4 12 := ⟨11, by decide +kernel, rfl, by decide, by decide⟩
theorem d45_12 : Dc jdk_31_method_10_code 12 (.aload_n 0) 1 13 := ⟨by decide +kernel, rfl⟩
theorem d45_13 : Dc jdk_31_method_10_code 13 .areturn 1 14 := ⟨by decide +kernel, rfl⟩
theorem d46_0 : Dc jdk_32_method_2_code 0 (.aload_n 0) 1 1 := ⟨by decide +kernel, rfl⟩
theorem d46_1 : Dc jdk_32_method_2_code 1 (.invokespecial 7) 3 4 := ⟨by decide +kernel, rfl⟩
theorem d46_4 : Dc jdk_32_method_2_code 4 (.aload_n 0) 1 5 := ⟨by decide +kernel, rfl⟩
theorem d46_5 : Dc jdk_32_method_2_code 5 (.aload_n 1) 1 6 := ⟨by decide +kernel, rfl⟩
theorem d46_6 : Dc jdk_32_method_2_code 6 (.putfield 13) 3 9 := ⟨by decide +kernel, rfl⟩
theorem d46_9 : Dc jdk_32_method_2_code 9 .return_ 1 10 := ⟨by decide +kernel, rfl⟩
theorem d47_0 : Dc jdk_32_method_5_code 0 (.aload_n 0) 1 1 := ⟨by decide +kernel, rfl⟩
theorem d47_1 : Dc jdk_32_method_5_code 1 (.getfield 13) 3 4 := ⟨by decide +kernel, rfl⟩
theorem d47_4 : Dj jdk_32_method_5_code 4 .ifnonnull 7 17 := ⟨13, by decide +kernel, rfl, by decide, by decide⟩
theorem d47_17 : Dc jdk_32_method_5_code 17 (.aload_n 0) 1 18 := ⟨by decide +kernel, rfl⟩
theorem d47_18 : Dc jdk_32_method_5_code 18 (.getfield 13) 3 21 := ⟨by decide +kernel, rfl⟩
theorem d47_21 : Dc jdk_32_method_5_code 21 .areturn 1 22 := ⟨by decide +kernel, rfl⟩
theorem d48_0 : Dc method_6_code 0 (.iload_n 0) 1 1 := ⟨by decide +kernel, rfl⟩
theorem d48_1 : Dc method_6_code 1 (.bipush 65) 2 3 := ⟨by decide +kernel, rfl⟩
theorem d48_3 : Dj method_6_code 3 (.if_icmp .lt) 6 18 := ⟨15, by decide +kernel, rfl, by decide, by decide⟩
theorem d48_6 : Dc method_6_code 6 (.iload_n 0) 1 7 := ⟨by decide +kernel, rfl⟩
theorem d48_7 : Dc method_6_code 7 (.bipush 90) 2 9 := ⟨by decide +kernel, rfl⟩
theorem d48_9 : Dj method_6_code 9 (.if_icmp .gt) 12 18 := ⟨9, by decide +kernel, rfl, by decide, by decide⟩
theorem d48_12 : Dc method_6_code 12 (.iload_n 0) 1 13 := ⟨by decide +kernel, rfl⟩
theorem d48_13 : Dc method_6_code 13 (.bipush 32) 2 15 := ⟨by decide +kernel, rfl⟩
theorem d48_15 : Dc method_6_code 15 .iadd 1 16 := ⟨by decide +kernel, rfl⟩
theorem d48_16 : Dc method_6_code 16 .i2c 1 17 := ⟨by decide +kernel, rfl⟩
theorem d48_17 : Dc method_6_code 17 .ireturn 1 18 := ⟨by decide +kernel, rfl⟩
theorem d48_18 : Dc method_6_code 18 (.iload_n 0) 1 19 := ⟨by decide +kernel, rfl⟩
theorem d48_19 : Dc method_6_code 19 .ireturn 1 20 := ⟨by decide +kernel, rfl⟩
theorem d49_0 : Dc method_5_code 0 (.iload_n 0) 1 1 := ⟨by decide +kernel, rfl⟩
theorem d49_1 : Dc method_5_code 1 (.invokestatic 25) 3 4 := ⟨by decide +kernel, rfl⟩
theorem d49_4 : Dj method_5_code 4 (.ifCond .ne) 7 37 := ⟨33, by decide +kernel, rfl, by decide, by decide⟩
theorem d49_7 : Dc method_5_code 7 (.iload_n 0) 1 8 := ⟨by decide +kernel, rfl⟩
theorem d49_8 : Dc method_5_code 8 (.bipush 48) 2 10 := ⟨by decide +kernel, rfl⟩
theorem d49_10 : Dj method_5_code 10 (.if_icmp .lt) 13 19 := ⟨9, by decide +kernel, rfl, by decide, by decide⟩
theorem d49_13 : Dc method_5_code 13 (.iload_n 0) 1 14 := ⟨by decide +kernel, rfl⟩
theorem d49_14 : Dc method_5_code 14 (.bipush 57) 2 16 := ⟨by decide +kernel, rfl⟩
theorem d49_16 : Dj method_5_code 16 (.if_icmp .le) 19 37 := ⟨21, by decide +kernel, rfl, by decide, by decide⟩
theorem d49_19 : Dc method_5_code 19 (.iload_n 0) 1 20 := ⟨by decide +kernel, rfl⟩
theorem d49_20 : Dc method_5_code 20 (.bipush 43) 2 22 := ⟨by decide +kernel, rfl⟩
theorem d49_22 : Dj method_5_code 22 (.if_icmp .eq) 25 37 := ⟨15, by decide +kernel, rfl, by decide, by decide⟩
theorem d49_25 : Dc method_5_code 25 (.iload_n 0) 1 26 := ⟨by decide +kernel, rfl⟩
theorem d49_26 : Dc method_5_code 26 (.bipush 45) 2 28 := ⟨by decide +kernel, rfl⟩
theorem d49_28 : Dj method_5_code 28 (.if_icmp .eq) 31 37 := ⟨9, by decide +kernel, rfl, by decide, by decide⟩
theorem d49_31 : Dc method_5_code 31 (.iload_n 0) 1 32 := ⟨by decide +kernel, rfl⟩
theorem d49_32 : Dc method_5_code 32 (.bipush 46) 2 34 := ⟨by decide +kernel, rfl⟩
theorem d49_34 : Dj method_5_code 34 (.if_icmp .ne) 37 41 := ⟨7, by decide +kernel, rfl, by decide, by decide⟩
theorem d49_37 : Dc method_5_code 37 (.iconst 1) 1 38 := ⟨by decide +kernel, rfl⟩
theorem d49_38 : Dj method_5_code 38 .goto 41 42 := ⟨4, by decide +kernel, rfl, by decide, by decide⟩
theorem d49_41 : Dc method_5_code 41 (.iconst 0) 1 42 := ⟨by decide +kernel, rfl⟩
theorem d49_42 : Dc method_5_code 42 .ireturn 1 43 := ⟨by decide +kernel, rfl⟩
theorem pn_0 : plainFor (⟨"java/lang/StringUTF16", "compress", "([CI[BII)I"⟩ : MethodName) = true := by first | (apply plainFor_of_name; simp [plainName, overriddenIn]; done) | decide +kernel
theorem pn_1 : plainFor (⟨"java/lang/StringUTF16", "compress", "([CII)[B"⟩ : MethodName) = true := by first | (apply plainFor_of_name; simp [plainName, overriddenIn]; done) | decide +kernel
theorem pn_2 : plainFor (⟨"java/lang/StringUTF16", "coderFromArrayLen", "([BI)B"⟩ : MethodName) = true := by first | (apply plainFor_of_name; simp [plainName, overriddenIn]; done) | decide +kernel
theorem pn_3 : plainFor (⟨"java/lang/String", "<init>", "([CIILjava/lang/Void;)V"⟩ : MethodName) = true := by first | (apply plainFor_of_name; simp [plainName, overriddenIn]; done) | decide +kernel
theorem pn_4 : plainFor (⟨"java/lang/String", "<init>", "([C)V"⟩ : MethodName) = true := by first | (apply plainFor_of_name; simp [plainName, overriddenIn]; done) | decide +kernel
theorem pn_5 : plainFor (⟨"java/lang/StringUTF16", "putChar", "([BII)V"⟩ : MethodName) = true := by first | (apply plainFor_of_name; simp [plainName, overriddenIn]; done) | decide +kernel
theorem pn_6 : plainFor (⟨"java/lang/StringUTF16", "getChar", "([BI)C"⟩ : MethodName) = true := by first | (apply plainFor_of_name; simp [plainName, overriddenIn]; done) | decide +kernel
theorem pn_7 : plainFor (⟨"java/lang/StringUTF16", "newBytesLength", "(I)I"⟩ : MethodName) = true := by first | (apply plainFor_of_name; simp [plainName, overriddenIn]; done) | decide +kernel
theorem pn_8 : plainFor (⟨"java/lang/StringUTF16", "newBytesFor", "(I)[B"⟩ : MethodName) = true := by first | (apply plainFor_of_name; simp [plainName, overriddenIn]; done) | decide +kernel
theorem pn_9 : plainFor (⟨"java/lang/StringUTF16", "toBytes", "([CII)[B"⟩ : MethodName) = true := by first | (apply plainFor_of_name; simp [plainName, overriddenIn]; done) | decide +kernel
theorem pn_10 : plainFor (⟨"jdk/internal/util/Preconditions", "checkIndex", "(IILjava/util/function/BiFunction;)I"⟩ : MethodName) = true := by first | (apply plainFor_of_name; simp [plainName, overriddenIn]; done) | decide +kernel
theorem pn_11 : plainFor (⟨"java/lang/String", "checkIndex", "(II)V"⟩ : MethodName) = true := by first | (apply plainFor_of_name; simp [plainName, overriddenIn]; done) | decide +kernel
theorem pn_12 : plainFor (⟨"java/lang/StringLatin1", "charAt", "([BI)C"⟩ : MethodName) = true := by first | (apply plainFor_of_name; simp [plainName, overriddenIn]; done) | decide +kernel
theorem pn_13 : plainFor (⟨"java/lang/StringUTF16", "length", "([B)I"⟩ : MethodName) = true := by first | (apply plainFor_of_name; simp [plainName, overriddenIn]; done) | decide +kernel
theorem pn_14 : plainFor (⟨"java/lang/StringUTF16", "checkIndex", "(I[B)V"⟩ : MethodName) = true := by first | (apply plainFor_of_name; simp [plainName, overriddenIn]; done) | decide +kernel
theorem pn_15 : plainFor (⟨"java/lang/StringUTF16", "charAt", "([BI)C"⟩ : MethodName) = true := by first | (apply plainFor_of_name; simp [plainName, overriddenIn]; done) | decide +kernel
theorem pn_16 : plainFor (⟨"java/lang/String", "isLatin1", "()Z"⟩ : MethodName) = true := by first | (apply plainFor_of_name; simp [plainName, overriddenIn]; done) | decide +kernel
theorem pn_17 : plainFor (⟨"java/lang/String", "charAt", "(I)C"⟩ : MethodName) = true := by first | (apply plainFor_of_name; simp [plainName, overriddenIn]; done) | decide +kernel
theorem pn_18 : plainFor (⟨"java/lang/String", "coder", "()B"⟩ : MethodName) = true := by first | (apply plainFor_of_name; simp [plainName, overriddenIn]; done) | decide +kernel
theorem pn_19 : plainFor (⟨"java/lang/String", "length", "()I"⟩ : MethodName) = true := by first | (apply plainFor_of_name; simp [plainName, overriddenIn]; done) | decide +kernel
theorem pn_20 : plainFor (⟨"java/lang/AbstractStringBuilder", "getValue", "()[B"⟩ : MethodName) = true := by first | (apply plainFor_of_name; simp [plainName, overriddenIn]; done) | decide +kernel
theorem pn_21 : plainFor (⟨"java/lang/AbstractStringBuilder", "length", "()I"⟩ : MethodName) = true := by first | (apply plainFor_of_name; simp [plainName, overriddenIn]; done) | decide +kernel
theorem pn_22 : plainFor (⟨"java/lang/StringBuilder", "length", "()I"⟩ : MethodName) = true := by first | (apply plainFor_of_name; simp [plainName, overriddenIn]; done) | decide +kernel
theorem pn_23 : plainFor (⟨"java/lang/AbstractStringBuilder", "isLatin1", "()Z"⟩ : MethodName) = true := by first | (apply plainFor_of_name; simp [plainName, overriddenIn]; done) | decide +kernel
theorem pn_24 : plainFor (⟨"java/lang/StringLatin1", "canEncode", "(C)Z"⟩ : MethodName) = true := by first | (apply plainFor_of_name; simp [plainName, overriddenIn]; done) | decide +kernel
theorem pn_25 : plainFor (⟨"java/lang/AbstractStringBuilder", "<init>", "(I)V"⟩ : MethodName) = true := by first | (apply plainFor_of_name; simp [plainName, overriddenIn]; done) | decide +kernel
theorem pn_26 : plainFor (⟨"java/lang/StringBuilder", "<init>", "(I)V"⟩ : MethodName) = true := by first | (apply plainFor_of_name; simp [plainName, overriddenIn]; done) | decide +kernel
theorem pn_27 : plainFor (⟨"java/lang/AbstractStringBuilder", "ensureCapacityInternal", "(I)V"⟩ : MethodName) = true := by first | (apply plainFor_of_name; simp [plainName, overriddenIn]; done) | decide +kernel
theorem pn_28 : plainFor (⟨"java/lang/AbstractStringBuilder", "append", "(C)Ljava/lang/AbstractStringBuilder;"⟩ : MethodName) = true := by first | (apply plainFor_of_name; simp [plainName, overriddenIn]; done) | decide +kernel
theorem pn_29 : plainFor (⟨"java/lang/StringBuilder", "append", "(C)Ljava/lang/StringBuilder;"⟩ : MethodName) = true := by first | (apply plainFor_of_name; simp [plainName, overriddenIn]; done) | decide +kernel
theorem pn_30 : plainFor (⟨"java/util/Arrays", "copyOfRange", "([BII)[B"⟩ : MethodName) = true := by first | (apply plainFor_of_name; simp [plainName, overriddenIn]; done) | decide +kernel
theorem pn_31 : plainFor (⟨"java/lang/String", "<init>", "(Ljava/lang/AbstractStringBuilder;Ljava/lang/Void;)V"⟩ : MethodName) = true := by first | (apply plainFor_of_name; simp [plainName, overriddenIn]; done) | decide +kernel
theorem pn_32 : plainFor (⟨"java/lang/String", "<init>", "(Ljava/lang/StringBuilder;)V"⟩ : MethodName) = true := by first | (apply plainFor_of_name; simp [plainName, overriddenIn]; done) | decide +kernel
theorem pn_33 : plainFor (⟨"java/lang/StringBuilder", "toString", "()Ljava/lang/String;"⟩ : MethodName) = true := by first | (apply plainFor_of_name; simp [plainName, overriddenIn]; done) | decide +kernel
theorem pn_34 : plainFor (⟨"com/example/nameshelf/nameshelf/uri/InfoUri", "isLetter", "(I)Z"⟩ : MethodName) = true := by first | (apply plainFor_of_name; simp [plainName, overriddenIn]; done) | decide +kernel
theorem pn_35 : plainFor (⟨"com/example/nameshelf/nameshelf/uri/InfoUriNormalNamespacePinLaw", "isLetter", "(C)Z"⟩ : MethodName) = true := by first | (apply plainFor_of_name; simp [plainName, overriddenIn]; done) | decide +kernel
theorem pn_36 : plainFor (⟨"com/example/nameshelf/nameshelf/uri/InfoUriNormalNamespacePinLaw", "isNs", "(C)Z"⟩ : MethodName) = true := by first | (apply plainFor_of_name; simp [plainName, overriddenIn]; done) | decide +kernel
theorem pn_37 : plainFor (⟨"com/example/nameshelf/nameshelf/uri/InfoUriNormalNamespacePinLaw", "lower", "(C)C"⟩ : MethodName) = true := by first | (apply plainFor_of_name; simp [plainName, overriddenIn]; done) | decide +kernel
theorem pn_38 : plainFor (⟨"com/example/nameshelf/nameshelf/uri/InfoUri", "isNamespaceCharacter", "(I)Z"⟩ : MethodName) = true := by first | (apply plainFor_of_name; simp [plainName, overriddenIn]; done) | decide +kernel
theorem pn_39 : plainFor (⟨"com/example/nameshelf/nameshelf/uri/InfoUri", "lowerAscii", "(I)I"⟩ : MethodName) = true := by first | (apply plainFor_of_name; simp [plainName, overriddenIn]; done) | decide +kernel
theorem pn_40 : plainFor (⟨"com/example/nameshelf/nameshelf/uri/InfoUriNormalNamespacePinLaw", "make", "(ICCCCC)[C"⟩ : MethodName) = true := by first | (apply plainFor_of_name; simp [plainName, overriddenIn]; done) | decide +kernel
theorem pn_41 : plainFor (⟨"java/util/Objects", "requireNonNull", "(Ljava/lang/Object;)Ljava/lang/Object;"⟩ : MethodName) = true := by first | (apply plainFor_of_name; simp [plainName, overriddenIn]; done) | decide +kernel
theorem pn_42 : plainFor (⟨"java/util/Optional", "<init>", "(Ljava/lang/Object;)V"⟩ : MethodName) = true := by first | (apply plainFor_of_name; simp [plainName, overriddenIn]; done) | decide +kernel
theorem pn_43 : plainFor (⟨"java/util/Optional", "of", "(Ljava/lang/Object;)Ljava/util/Optional;"⟩ : MethodName) = true := by first | (apply plainFor_of_name; simp [plainName, overriddenIn]; done) | decide +kernel
theorem pn_44 : plainFor (⟨"java/util/Optional", "empty", "()Ljava/util/Optional;"⟩ : MethodName) = true := by first | (apply plainFor_of_name; simp [plainName, overriddenIn]; done) | decide +kernel
theorem pn_45 : plainFor (⟨"java/util/Optional", "isPresent", "()Z"⟩ : MethodName) = true := by first | (apply plainFor_of_name; simp [plainName, overriddenIn]; done) | decide +kernel
theorem pn_46 : plainFor (⟨"java/util/Optional", "get", "()Ljava/lang/Object;"⟩ : MethodName) = true := by first | (apply plainFor_of_name; simp [plainName, overriddenIn]; done) | decide +kernel
theorem pn_47 : plainFor (⟨"com/example/nameshelf/nameshelf/uri/InfoUri", "normalNamespace", "(Ljava/lang/CharSequence;)Ljava/util/Optional;"⟩ : MethodName) = true := by first | (apply plainFor_of_name; simp [plainName, overriddenIn]; done) | decide +kernel
theorem pn_48 : plainFor (⟨"com/example/nameshelf/nameshelf/uri/InfoUriNormalNamespacePinLaw", "law", "(IIIIII)Z"⟩ : MethodName) = true := by first | (apply plainFor_of_name; simp [plainName, overriddenIn]; done) | decide +kernel
theorem pd_0 : parseMethodDescriptor "([CI[BII)I" = some ⟨[(.array .char), .int, (.array .byte), .int, .int], some .int⟩ := by decide +kernel
theorem pd_1 : parseMethodDescriptor "([CII)[B" = some ⟨[(.array .char), .int, .int], some (.array .byte)⟩ := by decide +kernel
theorem pd_2 : parseMethodDescriptor "([BI)B" = some ⟨[(.array .byte), .int], some .byte⟩ := by decide +kernel
theorem pd_3 : parseMethodDescriptor "([CIILjava/lang/Void;)V" = some ⟨[(.array .char), .int, .int, (.object "java/lang/Void")], none⟩ := by decide +kernel
theorem pd_4 : parseMethodDescriptor "(I)I" = some ⟨[.int], some .int⟩ := by decide +kernel
theorem pd_5 : parseMethodDescriptor "(I)[B" = some ⟨[.int], some (.array .byte)⟩ := by decide +kernel
theorem pd_6 : parseMethodDescriptor "([BII)V" = some ⟨[(.array .byte), .int, .int], none⟩ := by decide +kernel
theorem pd_7 : parseMethodDescriptor "([BI)C" = some ⟨[(.array .byte), .int], some .char⟩ := by decide +kernel
theorem pd_8 : parseMethodDescriptor "(IILjava/util/function/BiFunction;)I" = some ⟨[.int, .int, (.object "java/util/function/BiFunction")], some .int⟩ := by decide +kernel
theorem pd_9 : parseMethodDescriptor "(II)V" = some ⟨[.int, .int], none⟩ := by decide +kernel
theorem pd_10 : parseMethodDescriptor "([B)I" = some ⟨[(.array .byte)], some .int⟩ := by decide +kernel
theorem pd_11 : parseMethodDescriptor "(I[B)V" = some ⟨[.int, (.array .byte)], none⟩ := by decide +kernel
theorem pd_12 : parseMethodDescriptor "()Z" = some ⟨[], some .boolean⟩ := by decide +kernel
theorem pd_13 : parseMethodDescriptor "()B" = some ⟨[], some .byte⟩ := by decide +kernel
theorem pd_14 : parseMethodDescriptor "()I" = some ⟨[], some .int⟩ := by decide +kernel
theorem pd_15 : parseMethodDescriptor "(I)V" = some ⟨[.int], none⟩ := by decide +kernel
theorem pd_16 : parseMethodDescriptor "(C)Z" = some ⟨[.char], some .boolean⟩ := by decide +kernel
theorem pd_17 : parseMethodDescriptor "(C)Ljava/lang/AbstractStringBuilder;" = some ⟨[.char], some (.object "java/lang/AbstractStringBuilder")⟩ := by decide +kernel
theorem pd_18 : parseMethodDescriptor "()[B" = some ⟨[], some (.array .byte)⟩ := by decide +kernel
theorem pd_19 : parseMethodDescriptor "([BII)[B" = some ⟨[(.array .byte), .int, .int], some (.array .byte)⟩ := by decide +kernel
theorem pd_20 : parseMethodDescriptor "(Ljava/lang/AbstractStringBuilder;Ljava/lang/Void;)V" = some ⟨[(.object "java/lang/AbstractStringBuilder"), (.object "java/lang/Void")], none⟩ := by decide +kernel
theorem pd_21 : parseMethodDescriptor "(Ljava/lang/StringBuilder;)V" = some ⟨[(.object "java/lang/StringBuilder")], none⟩ := by decide +kernel
theorem pd_22 : parseMethodDescriptor "(I)Z" = some ⟨[.int], some .boolean⟩ := by decide +kernel
theorem pd_23 : parseMethodDescriptor "(Ljava/lang/Object;)Ljava/lang/Object;" = some ⟨[(.object "java/lang/Object")], some (.object "java/lang/Object")⟩ := by decide +kernel
theorem pd_24 : parseMethodDescriptor "(Ljava/lang/Object;)V" = some ⟨[(.object "java/lang/Object")], none⟩ := by decide +kernel
theorem pd_25 : parseMethodDescriptor "()Ljava/util/Optional;" = some ⟨[], some (.object "java/util/Optional")⟩ := by decide +kernel
theorem pd_26 : parseMethodDescriptor "(I)C" = some ⟨[.int], some .char⟩ := by decide +kernel
theorem pd_27 : parseMethodDescriptor "()Ljava/lang/String;" = some ⟨[], some (.object "java/lang/String")⟩ := by decide +kernel
theorem pd_28 : parseMethodDescriptor "(Ljava/lang/Object;)Ljava/util/Optional;" = some ⟨[(.object "java/lang/Object")], some (.object "java/util/Optional")⟩ := by decide +kernel
theorem pd_29 : parseMethodDescriptor "(C)Ljava/lang/StringBuilder;" = some ⟨[.char], some (.object "java/lang/StringBuilder")⟩ := by decide +kernel
theorem pd_30 : parseMethodDescriptor "()Ljava/lang/Object;" = some ⟨[], some (.object "java/lang/Object")⟩ := by decide +kernel
theorem pd_31 : parseMethodDescriptor "(C)C" = some ⟨[.char], some .char⟩ := by decide +kernel
theorem pd_32 : parseMethodDescriptor "(ICCCCC)[C" = some ⟨[.int, .char, .char, .char, .char, .char], some (.array .char)⟩ := by decide +kernel
theorem pd_33 : parseMethodDescriptor "(Ljava/lang/CharSequence;)Ljava/util/Optional;" = some ⟨[(.object "java/lang/CharSequence")], some (.object "java/util/Optional")⟩ := by decide +kernel
theorem pd_34 : parseMethodDescriptor "([C)V" = some ⟨[(.array .char)], none⟩ := by decide +kernel
theorem hEL1 {Z : State} {a0 : Array Value} (hw : hwT a0 Z) : EW Z a0 EL1 := EW.cons (hw 19 rfl) (by decide) EW.nil
theorem cCMPL (l : Launch) (Z : State) (a0 : Array Value) (hw : hwT a0 Z) {EL : List (String × Nat)} {nw : Bool} (hEL : EW Z a0 EL) (h0 : Heap) (a b : Addr) (cs : List Int32) (n : Int32) (hn : n.toInt = (cs.length : Int)) (hb : cs.length < 2147483648) (hlat : Lat cs) (A : Al Z h0 a .char (cs.map .int)) (B : Al Z h0 b .byte (List.replicate cs.length (.int 0))) (hab : a ≠ b) :
    Con l Z EL nw (⟨"java/lang/StringUTF16", "compress", "([CI[BII)I"⟩ : MethodName) jdk_52_method_21_code 7 (some .int) [] rm0 #[.ref a, .int 0, .ref b, .int 0, .int n] h0 [b] (fun v h S' => v = some (.int n) ∧ Al Z h b .byte (cs.map bL) ∧ Keep h0 h [b] ∧ S' = []) := by
  refine Con.enter (a0 := a0) pn_0 hEL [.val (.ref a), .val (.int 0), .val (.ref b), .val (.int 0), .val (.int n), .unset, .unset] (fun m => by first | (simp [entryFrame, mkF, argsToLocals, Value.category]; done) | rfl) ?_
  intro K G
  refine G.iconst 0 d11_0 ?_
  refine G.istore5 d11_1 ?_
  have loop : ∀ (rest done : List Int32) (h : Heap) (i : Int32) (x6 : Slot) (_ : x6 = .unset ∨ ∃ q : Int32, x6 = .val (.int q)), done ++ rest = cs → i.toInt = (done.length : Int) → Al Z h b .byte (done.map bL ++ List.replicate rest.length (.int 0)) → Keep h0 h [b] →
      Go Z EL nw rm0 (fun v h S' => v = some (.int n) ∧ Al Z h b .byte (cs.map bL) ∧ Keep h0 h [b] ∧ S' = []) K h [b] 0 0 3 [.val (.ref a), .val (.int i), .val (.ref b), .val (.int i), .val (.int n), .val (.int i), x6] [] := by
    intro rest
    induction rest with
    | nil =>
      intro done h i x6 h6 hd hi hB hK
      refine G.iload d11_3 rfl ?_
      refine G.iload d11_5 rfl ?_
      refine G.icmp_ge d11_7 (fun _ => ?_) (fun q => absurd q (not_lt_of_toInt (by rw [hi, hn, ← hd]; simp)))
      refine G.iload d11_44 rfl ?_
      exact G.iret d11_46 [] (fun _ q => nomatch q) ⟨rfl, by rw [← hd]; simpa using hB, hK, rfl⟩
    | cons x rest ih =>
      intro done h i x6 h6 hd hi hB hK
      have hlen : cs.length = done.length + (rest.length + 1) := by rw [← hd]; simp
      have hx : x ∈ cs := by rw [← hd]; simp
      refine G.iload d11_3 rfl ?_
      refine G.iload d11_5 rfl ?_
      refine G.icmp_ge d11_7 (fun q => absurd (lt_of_toInt (by rw [hi, hn, hlen]; omega)) q) (fun _ => ?_)
      refine G.aloadN d11_10 rfl rfl ?_
      refine G.iloadN d11_11 rfl ?_
      refine G.caload d11_12 (A.keep hK (ninS hab nin0)) hi (v := .int x) (by rw [← hd]; simp) ?_
      rcases h6 with rfl | ⟨w6, rfl⟩
      all_goals
        refine G.istore6 d11_13 ?_
        refine G.iload d11_15 rfl ?_
        refine G.sipush 255 d11_17 ?_
        refine G.icmp_le d11_20 (fun _ => ?_) (fun q => absurd q (not_lt_of_toInt (by have := (hlat x hx).2; have e : (255 : Int32).toInt = 255 := (by decide); omega)))
        refine G.aloadN d11_26 rfl rfl ?_
        refine G.iloadN d11_27 rfl ?_
        refine G.iload d11_28 rfl ?_
        refine G.i2b d11_30 ?_
        refine G.bastore d11_31 (List.mem_singleton.mpr rfl) hB hi (by simp) (fun h' W hB' => ?_)
        refine G.iinc1 1 d11_32 ?_
        refine G.iinc3 1 d11_35 ?_
        refine G.iinc5 1 d11_38 ?_
        refine G.goto d11_41 ?_
        refine ih (done ++ [x]) h' (i + 1) _ (Or.inr ⟨_, rfl⟩) (by simp [hd]) (by rw [inc_toInt hi (by omega)]; simp) ?_ (hK.wr W (Or.inl (List.mem_singleton.mpr rfl)))
        have e : (done.map bL ++ List.replicate (x :: rest).length (Value.int 0)).set done.length (.int (nar .byte x.toInt8.toInt32)) = (done ++ [x]).map bL ++ List.replicate rest.length (.int 0) := by
          have := set_mid (done.map bL) (List.replicate rest.length (Value.int 0)) (.int 0) (.int (nar .byte x.toInt8.toInt32))
          rw [List.length_map] at this
          simp only [List.length_cons, List.replicate_succ]
          rw [this, nar8]; simp [bL]
        rw [← e]; exact hB'
  exact loop cs [] h0 0 _ (Or.inl rfl) rfl toInt_0 (by simpa using B) (Keep.refl _ _)
theorem cCMP (l : Launch) (Z : State) (a0 : Array Value) (hw : hwT a0 Z) {EL : List (String × Nat)} {nw : Bool} (hEL : EW Z a0 EL) (h0 : Heap) (a : Addr) (cs : List Int32) (n : Int32) (hn : n.toInt = (cs.length : Int)) (hm : cs.length ≤ 16) (hlat : Lat cs) (A : Al Z h0 a .char (cs.map .int)) :
    Con l Z EL nw (⟨"java/lang/StringUTF16", "compress", "([CII)[B"⟩ : MethodName) jdk_52_method_16_code 6 (some (.array .byte)) [] { frames := 1, cells := 1, slots := 16, locals := 18 } #[.ref a, .int 0, .int n] h0 [] (fun v h S' => (∃ b, v = some (.ref b) ∧ h0.size ≤ b ∧ Al Z h b .byte (cs.map bL) ∧ S' = [b]) ∧ Ext h0 h) := by
  refine Con.enter (a0 := a0) pn_1 hEL [.val (.ref a), .val (.int 0), .val (.int n), .unset, .unset, .unset] (fun m => by first | (simp [entryFrame, mkF, argsToLocals, Value.category]; done) | rfl) ?_
  intro K G
  refine G.iloadN d10_0 rfl ?_
  refine G.newA cs.length 16 d10_1 (hw 20 rfl) hn hm (fun h1 E1 L1 A1 => ?_)
  refine G.astore3 d10_3 ?_
  refine G.aloadN d10_4 rfl rfl ?_
  refine G.iloadN d10_5 rfl ?_
  refine G.aloadN d10_6 rfl rfl ?_
  refine G.iconst 0 d10_7 ?_
  refine G.iloadN d10_8 rfl ?_
  have hne : a ≠ h0.size := Nat.ne_of_lt A.lt
  refine G.callS5 d10_9 (hw 62 rfl) (hw 63 rfl) (hw 60 rfl) (hw 64 rfl) pd_0 (cCMPL K.l Z a0 hw hEL h1 a h0.size cs n hn (by omega) hlat (A.ext E1) A1 hne) (fun _ q => by simpa using q) ?_
  rintro _ h2 _ ⟨rfl, B2, K2, rfl⟩ -
  refine G.istore4 d10_12 ?_
  refine G.iload d10_14 rfl ?_
  refine G.iloadN d10_16 rfl ?_
  refine G.icmp_eq d10_17 (fun _ => ?_) (fun q => absurd rfl q)
  refine G.aloadN d10_57 rfl rfl ?_
  refine G.aret d10_58 [h0.size] (by simp) ⟨⟨_, rfl, Nat.le_refl _, B2, rfl⟩, ?_⟩
  exact keep_nil_ext ((ext_keep E1 []).trans K2 (fun x q => by cases List.mem_singleton.mp q; exact Or.inr (Nat.le_refl _)))
theorem cCFA (l : Launch) (Z : State) (a0 : Array Value) (hw : hwT a0 Z) {EL : List (String × Nat)} {nw : Bool} (hEL : EW Z a0 EL) (h0 : Heap) (b : Addr) (vs : List Value) (n : Int32) (hn : n.toInt = (vs.length : Int)) (B : Al Z h0 b .byte vs) :
    Con l Z EL nw (⟨"java/lang/StringUTF16", "coderFromArrayLen", "([BI)B"⟩ : MethodName) jdk_52_method_15_code 2 (some .byte) [] rm0 #[.ref b, .int n] h0 [] (fun v h S' => v = some (.int 0) ∧ h = h0 ∧ S' = []) := by
  refine Con.enter (a0 := a0) pn_2 hEL [.val (.ref b), .val (.int n)] (fun m => by first | (simp [entryFrame, mkF, argsToLocals, Value.category]; done) | rfl) ?_
  intro K G
  refine G.iloadN d12_0 rfl ?_
  refine G.aloadN d12_1 rfl rfl ?_
  refine G.alen n d12_2 B hn ?_
  refine G.isub d12_3 ?_
  refine G.bipush 31 d12_4 ?_
  refine G.iushr d12_6 ?_
  refine G.i2b d12_7 ?_
  have e : n - n = 0 := by
    apply Int32.toInt_inj.mp
    have := c_isub n n
    have := rng32 (n - n)
    have e0 : (0 : Int32).toInt = 0 := by decide
    omega
  exact G.nret d12_8 (Or.inr (Or.inl rfl)) (z' := 0) (by rw [e]; decide) [] (fun _ q => nomatch q) ⟨rfl, rfl, rfl⟩
abbrev rmSI4 : Room := { frames := 2, cells := 4, slots := 24, locals := 40 }
abbrev rmSI : Room := { frames := 3, cells := 4, slots := 24, locals := 60 }
/-- new String(char[]), one char at the least, each below 256 -/
theorem cSI4 (l : Launch) (Z : State) (a0 : Array Value) (hw : hwT a0 Z) {EL : List (String × Nat)} {nw : Bool} (hEL : EW Z a0 EL) (h0 : Heap) (hC : CS Z) (a b : Addr) (cs : List Int32) (n : Int32) (hn : n.toInt = (cs.length : Int)) (hm : cs.length ≤ 16) (h1 : 0 < cs.length) (hlat : Lat cs) (E : Exa Z h0 a SN) (D : ∀ {O fn d : String} {ty : FieldType}, Laid Z a0 SN O fn d → parseFieldDescriptor d = some ty → Fld Z h0 a O fn d (defaultValue ty)) (A : Al Z h0 b .char (cs.map .int)) :
    Con l Z EL nw (⟨"java/lang/String", "<init>", "([CIILjava/lang/Void;)V"⟩ : MethodName) jdk_42_method_149_code 6 (none) [] rmSI4 #[.ref a, .ref b, .int 0, .int n, .null] h0 [a] (fun v h S' => v = none ∧ (∃ vb, h0.size ≤ vb ∧ StrB Z h a 0 vb (cs.map bL)) ∧ Keep h0 h [a] ∧ S' = []) := by
  obtain ⟨cc, hC, hcc⟩ := hC
  refine Con.enter (a0 := a0) pn_3 hEL [.val (.ref a), .val (.ref b), .val (.int 0), .val (.int n), .val (.null), .unset] (fun m => by first | (simp [entryFrame, mkF, argsToLocals, Value.category]; done) | rfl) ?_
  intro K G
  have F1 := D (Or.inr (hw 22 rfl)) (ty := .byte) (by decide)
  have F2 := D (Or.inr (hw 21 rfl)) (ty := .array .byte) (by decide)
  refine G.aloadN d3_0 rfl rfl ?_
  refine G.initO d3_1 (hw 16 rfl) (hw 17 rfl) (hw 18 rfl) ?_
  refine G.iloadN d3_4 rfl ?_
  refine G.if_ne d3_5 (fun _ => ?_) (fun q => absurd (congrArg Int32.toInt q) (by rw [hn, toInt_0]; omega))
  refine G.getS d3_27 (hw 45 rfl) hC ?_
  refine G.if_eq d3_30 (fun q => absurd q hcc) (fun _ => ?_)
  refine G.aloadN d3_33 rfl rfl ?_
  refine G.iloadN d3_34 rfl ?_
  refine G.iloadN d3_35 rfl ?_
  refine G.callS3 d3_36 (hw 58 rfl) (hw 59 rfl) (hw 60 rfl) (hw 61 rfl) pd_1 (cCMP K.l Z a0 hw hEL h0 b cs n hn hm hlat A) (fun _ q => nomatch q) ?_
  rintro _ h2 _ ⟨⟨vb, rfl, hvb, B, rfl⟩, E2⟩ hs2
  refine G.astore5 d3_39 ?_
  refine G.aloadN d3_41 rfl rfl ?_
  refine G.aload d3_42 rfl rfl ?_
  refine G.iloadN d3_44 rfl ?_
  refine G.callS2 d3_45 (hw 65 rfl) (hw 66 rfl) (hw 60 rfl) (hw 67 rfl) pd_2 (cCFA K.l Z a0 hw hEL h2 vb (cs.map bL) n (by simpa using hn) B) (fun _ q => nomatch q) ?_
  rintro _ _ _ ⟨rfl, rfl, rfl⟩ -
  have hne : vb ≠ a := fun q => Nat.lt_irrefl _ (Nat.lt_of_lt_of_le E.lt (q ▸ hvb))
  refine G.putF d3_48 (hw 26 rfl) (F1.ext E2) (E.ext E2) (by simp) (Or.inr ⟨(hw 22 rfl), rfl, rfl⟩) (hw 7 rfl) (ty := .byte) (by decide) rfl rfl (fun h3 W3 F1 E => ?_)
  refine G.aloadN d3_51 rfl rfl ?_
  refine G.aload d3_52 rfl rfl ?_
  have F2' := Fld.oth (F2.ext E2) W3 (Or.inr (hw 21 rfl)) (Or.inr (hw 22 rfl)) (by decide) (by decide) (by decide)
  refine G.putF d3_54 (hw 25 rfl) F2' E (by simp) (Or.inr ⟨(hw 21 rfl), rfl, rfl⟩) (hw 7 rfl) (ty := (.array .byte)) (by decide) rfl rfl (fun h4 W4 F2 E => ?_)
  replace F1 := Fld.oth F1 W4 (Or.inr (hw 22 rfl)) (Or.inr (hw 21 rfl)) (by decide) (by decide) (by decide)
  refine G.ret0 d3_57 [] (fun _ q => nomatch q) ⟨rfl, ⟨vb, hvb, E, F1, F2, (B.other W3 hne).other W4 hne⟩, ?_, rfl⟩
  exact (((ext_keep E2 [a]).wr W3 (Or.inl (List.mem_singleton.mpr rfl))).wr W4 (Or.inl (List.mem_singleton.mpr rfl)))
theorem cSI (l : Launch) (Z : State) (a0 : Array Value) (hw : hwT a0 Z) {EL : List (String × Nat)} {nw : Bool} (hEL : EW Z a0 EL) (h0 : Heap) (hC : CS Z) (a b : Addr) (cs : List Int32) (hm : cs.length ≤ 16) (h1 : 0 < cs.length) (hlat : Lat cs) (E : Exa Z h0 a SN) (D : ∀ {O fn d : String} {ty : FieldType}, Laid Z a0 SN O fn d → parseFieldDescriptor d = some ty → Fld Z h0 a O fn d (defaultValue ty)) (A : Al Z h0 b .char (cs.map .int)) :
    Con l Z EL nw (⟨"java/lang/String", "<init>", "([C)V"⟩ : MethodName) jdk_42_method_3_code 2 (none) [] rmSI #[.ref a, .ref b] h0 [a] (fun v h S' => v = none ∧ (∃ vb, h0.size ≤ vb ∧ StrB Z h a 0 vb (cs.map bL)) ∧ Keep h0 h [a] ∧ S' = []) := by
  refine Con.enter (a0 := a0) pn_4 hEL [.val (.ref a), .val (.ref b)] (fun m => by first | (simp [entryFrame, mkF, argsToLocals, Value.category]; done) | rfl) ?_
  intro K G
  refine G.aloadN d2_0 rfl rfl ?_
  refine G.aloadN d2_1 rfl rfl ?_
  refine G.iconst 0 d2_2 ?_
  refine G.aloadN d2_3 rfl rfl ?_
  have hn : (Int32.ofNat cs.length).toInt = (cs.length : Int) := len_toInt (by omega)
  refine G.alen (Int32.ofNat cs.length) d2_4 A (by simpa using hn) ?_
  refine G.aconstNull d2_5 ?_
  refine G.callI4 d2_6 (hw 12 rfl) (hw 13 rfl) (hw 8 rfl) (hw 15 rfl) pd_3 (cSI4 K.l Z a0 hw hEL h0 hC a b cs _ hn hm h1 hlat E D A) (fun _ q => q) ?_
  rintro _ h2 _ ⟨rfl, B2, K2, rfl⟩ -
  exact G.ret0 d2_9 [] (fun _ q => nomatch q) ⟨rfl, B2, K2, rfl⟩
theorem hSA (Z : State) (a0 : Array Value) (hw : hwT a0 Z) : ∀ a ∈ Bundle.stringAtoms, a.before a0 Z = true := by
  intro a ha
  simp only [Bundle.stringAtoms, List.mem_cons, List.not_mem_nil, or_false] at ha
  rcases ha with rfl | rfl | rfl | rfl | rfl | rfl | rfl
  · exact (hw 8 rfl)
  · exact (hw 7 rfl)
  · exact (hw 20 rfl)
  · exact (hw 21 rfl)
  · exact (hw 22 rfl)
  · exact (hw 23 rfl)
  · exact (hw 24 rfl)
theorem cSI4E (l : Launch) (Z : State) (a0 : Array Value) (hw : hwT a0 Z) {EL : List (String × Nat)} (hEL : EW Z a0 EL) (h0 : Heap) (hmem : (SN, 7) ∈ EL) (a b : Addr) (E : Exa Z h0 a SN) (D : ∀ {O fn d : String} {ty : FieldType}, Laid Z a0 SN O fn d → parseFieldDescriptor d = some ty → Fld Z h0 a O fn d (defaultValue ty)) :
    Con l Z EL false (⟨"java/lang/String", "<init>", "([CIILjava/lang/Void;)V"⟩ : MethodName) jdk_42_method_149_code 6 (none) [] rmSI4 #[.ref a, .ref b, .int 0, .int 0, .null] h0 [a] (fun v h S' => v = none ∧ (∃ vb, StrB Z h a 0 vb []) ∧ Keep h0 h [a] ∧ S' = []) := by
  refine Con.enter (a0 := a0) pn_3 hEL [.val (.ref a), .val (.ref b), .val (.int 0), .val (.int 0), .val (.null), .unset] (fun m => by first | (simp [entryFrame, mkF, argsToLocals, Value.category]; done) | rfl) ?_
  intro K G
  have F1 := D (Or.inr (hw 22 rfl)) (ty := .byte) (by decide)
  have F2 := D (Or.inr (hw 21 rfl)) (ty := .array .byte) (by decide)
  refine G.aloadN d3_0 rfl rfl ?_
  refine G.initO d3_1 (hw 16 rfl) (hw 17 rfl) (hw 18 rfl) ?_
  refine G.iloadN d3_4 rfl ?_
  refine G.if_ne d3_5 (fun q => absurd rfl q) (fun _ => ?_)
  refine G.aloadN d3_8 rfl rfl ?_
  refine G.ldcS 0 [] 0 d3_9 (hw 19 rfl) (hSA Z a0 hw) rfl hmem ⟨by decide, rfl⟩ (by decide) (by decide) (by decide) (by decide) (fun sa sb h1 E1 B1 N1 => ?_)
  refine G.getF d3_11 (hw 25 rfl) B1.2.2.1 ?_
  have n1 := N1 a (List.mem_singleton.mpr rfl)
  refine G.putF d3_14 (hw 25 rfl) (F2.ext E1) (E.ext E1) (by simp) (Or.inr ⟨(hw 21 rfl), rfl, rfl⟩) (hw 7 rfl) (ty := (.array .byte)) (by decide) rfl rfl (fun h2 W2 F2 E => ?_)
  have F1' := Fld.oth (F1.ext E1) W2 (Or.inr (hw 22 rfl)) (Or.inr (hw 21 rfl)) (by decide) (by decide) (by decide)
  have A2 := B1.2.2.2.other W2 (Ne.symm n1.2)
  refine G.aloadN d3_17 rfl rfl ?_
  refine G.ldcS 0 [] 0 d3_18 (hw 19 rfl) (hSA Z a0 hw) rfl hmem ⟨by decide, rfl⟩ (by decide) (by decide) (by decide) (by decide) (fun sa2 sb2 h3 E3 B3 N3 => ?_)
  refine G.getF d3_20 (hw 26 rfl) B3.2.1 ?_
  refine G.putF d3_23 (hw 26 rfl) (F1'.ext E3) (E.ext E3) (by simp) (Or.inr ⟨(hw 22 rfl), rfl, rfl⟩) (hw 7 rfl) (ty := .byte) (by decide) rfl rfl (fun h4 W4 F1 E => ?_)
  have F2' := Fld.oth (F2.ext E3) W4 (Or.inr (hw 21 rfl)) (Or.inr (hw 22 rfl)) (by decide) (by decide) (by decide)
  refine G.ret0 d3_26 [] (fun _ q => nomatch q) ⟨rfl, ⟨sb, E, F1, F2', (A2.ext E3).other W4 (Ne.symm n1.2)⟩, ?_, rfl⟩
  exact (((ext_keep E1 [a]).wr W2 (Or.inl (List.mem_singleton.mpr rfl))).ext E3).wr W4 (Or.inl (List.mem_singleton.mpr rfl))
/-- new String(char[]): up to 16 chars below 256, none too -/
theorem cSIA (l : Launch) (Z : State) (a0 : Array Value) (hw : hwT a0 Z) {EL : List (String × Nat)} (hEL : EW Z a0 EL) (h0 : Heap) (hC : CS Z) (hmem : (SN, 7) ∈ EL) (a b : Addr) (cs : List Int32) (hm : cs.length ≤ 16) (hlat : Lat cs) (E : Exa Z h0 a SN) (D : ∀ {O fn d : String} {ty : FieldType}, Laid Z a0 SN O fn d → parseFieldDescriptor d = some ty → Fld Z h0 a O fn d (defaultValue ty)) (A : Al Z h0 b .char (cs.map .int)) :
    Con l Z EL false (⟨"java/lang/String", "<init>", "([C)V"⟩ : MethodName) jdk_42_method_3_code 2 (none) [] rmSI #[.ref a, .ref b] h0 [a] (fun v h S' => v = none ∧ (∃ vb, StrB Z h a 0 vb (cs.map bL)) ∧ Keep h0 h [a] ∧ S' = []) := by
  refine Con.enter (a0 := a0) pn_4 hEL [.val (.ref a), .val (.ref b)] (fun m => by first | (simp [entryFrame, mkF, argsToLocals, Value.category]; done) | rfl) ?_
  intro K G
  refine G.aloadN d2_0 rfl rfl ?_
  refine G.aloadN d2_1 rfl rfl ?_
  refine G.iconst 0 d2_2 ?_
  refine G.aloadN d2_3 rfl rfl ?_
  have hn : (Int32.ofNat cs.length).toInt = (cs.length : Int) := len_toInt (by omega)
  refine G.alen (Int32.ofNat cs.length) d2_4 A (by simpa using hn) ?_
  refine G.aconstNull d2_5 ?_
  by_cases h1 : 0 < cs.length
  · refine G.callI4 d2_6 (hw 12 rfl) (hw 13 rfl) (hw 8 rfl) (hw 15 rfl) pd_3 (cSI4 K.l Z a0 hw hEL h0 hC a b cs _ hn hm h1 hlat E D A) (fun _ q => q) ?_
    rintro _ h2 _ ⟨rfl, ⟨vb, -, B2⟩, K2, rfl⟩ -
    exact G.ret0 d2_9 [] (fun _ q => nomatch q) ⟨rfl, ⟨vb, B2⟩, K2, rfl⟩
  · have e : cs = [] := by cases cs with | nil => rfl | cons x r => simp at h1
    subst e
    refine G.callI4 d2_6 (hw 12 rfl) (hw 13 rfl) (hw 8 rfl) (hw 15 rfl) pd_3 (cSI4E K.l Z a0 hw hEL h0 hmem a b E D) (fun _ q => q) ?_
    rintro _ h2 _ ⟨rfl, ⟨vb, B2⟩, K2, rfl⟩ -
    exact G.ret0 d2_9 [] (fun _ q => nomatch q) ⟨rfl, ⟨vb, B2⟩, K2, rfl⟩
abbrev C16 (c : Int32) : Prop := 0 ≤ c.toInt ∧ c.toInt < 65536
def Ch (cs : List Int32) : Prop := ∀ c ∈ cs, C16 c
def uLo (c : Int32) : Value := .int (c >>> ((0 : Int32) &&& 31)).toInt8.toInt32
def uHi (c : Int32) : Value := .int (c >>> ((8 : Int32) &&& 31)).toInt8.toInt32
def u2 (cs : List Int32) : List Value := cs.flatMap fun c => [uLo c, uHi c]
theorem u2_nil : u2 [] = [] := rfl
theorem u2_cons (c : Int32) (cs : List Int32) : u2 (c :: cs) = uLo c :: uHi c :: u2 cs := by simp [u2]
theorem u2_app (as bs : List Int32) : u2 (as ++ bs) = u2 as ++ u2 bs := by simp [u2]
theorem u2_len (cs : List Int32) : (u2 cs).length = 2 * cs.length := by
  induction cs with
  | nil => rfl
  | cons c cs ih => rw [u2_cons]; simp only [List.length_cons, ih]; omega
theorem u2_get {cs : List Int32} {i : Nat} {c : Int32} (h : cs[i]? = some c) : (u2 cs)[2 * i]? = some (uLo c) ∧ (u2 cs)[2 * i + 1]? = some (uHi c) := by
  induction cs generalizing i with
  | nil => simp at h
  | cons d cs ih =>
    rw [u2_cons]
    cases i with
    | zero => simp only [List.getElem?_cons_zero, Option.some.injEq] at h; subst h; exact ⟨rfl, rfl⟩
    | succ i =>
      simp only [List.getElem?_cons_succ] at h
      have := ih h
      have e1 : 2 * (i + 1) = 2 * i + 2 := by omega
      rw [e1]
      exact this
def US (Z : State) : Prop := Sta Z Z.heap "java/lang/StringUTF16" "$assertionsDisabled" "Z" (.int 1) ∧ Sta Z Z.heap "java/lang/StringUTF16" "HI_BYTE_SHIFT" "I" (.int 0) ∧ Sta Z Z.heap "java/lang/StringUTF16" "LO_BYTE_SHIFT" "I" (.int 8)
theorem shl1 {i : Int32} {n : Nat} (hi : i.toInt = (n : Int)) (hn : 2 * n < 2147483648) : (i <<< ((1 : Int32) &&& 31)).toInt = ((2 * n : Nat) : Int) := by
  have a := c_ishl i 1 1 (by decide)
  have b := rng32 (i <<< ((1 : Int32) &&& 31))
  have e : ((2 ^ 1 : Nat) : Int) = 2 := by decide
  rw [e, hi] at a
  omega
theorem chr2 {c : Int32} (h : C16 c) : ((((c >>> ((0 : Int32) &&& 31)).toInt8.toInt32 &&& 255) <<< ((0 : Int32) &&& 31)) ||| (((c >>> ((8 : Int32) &&& 31)).toInt8.toInt32 &&& 255) <<< ((8 : Int32) &&& 31))).toUInt32.toUInt16.toUInt32.toInt32 = c := by
  have s0 := c_ishr c 0 0 (by decide)
  have s8 := c_ishr c 8 8 (by decide)
  have b0 := c_i2b (c >>> ((0 : Int32) &&& 31))
  have b8 := c_i2b (c >>> ((8 : Int32) &&& 31))
  have m0 := c_mask (c >>> ((0 : Int32) &&& 31)).toInt8.toInt32 255 8 (by decide) (by decide)
  have m8 := c_mask (c >>> ((8 : Int32) &&& 31)).toInt8.toInt32 255 8 (by decide) (by decide)
  have l0 := c_ishl ((c >>> ((0 : Int32) &&& 31)).toInt8.toInt32 &&& 255) 0 0 (by decide)
  have l8 := c_ishl ((c >>> ((8 : Int32) &&& 31)).toInt8.toInt32 &&& 255) 8 8 (by decide)
  have r0 := rng32 (((c >>> ((0 : Int32) &&& 31)).toInt8.toInt32 &&& 255) <<< ((0 : Int32) &&& 31))
  have r8 := rng32 (((c >>> ((8 : Int32) &&& 31)).toInt8.toInt32 &&& 255) <<< ((8 : Int32) &&& 31))
  have e0 : ((2 ^ 0 : Nat) : Int) = 1 := by decide
  have e8 : ((2 ^ 8 : Nat) : Int) = 256 := by decide
  rw [e0] at s0 l0
  rw [e8] at s8 m0 m8 l8
  obtain ⟨c0, c1⟩ := h
  generalize (((c >>> ((0 : Int32) &&& 31)).toInt8.toInt32 &&& 255) <<< ((0 : Int32) &&& 31)) = x at *
  generalize (((c >>> ((8 : Int32) &&& 31)).toInt8.toInt32 &&& 255) <<< ((8 : Int32) &&& 31)) = y at *
  have hx : x.toInt = c.toInt % 256 := by omega
  have hy : y.toInt = c.toInt / 256 * 256 := by omega
  have o := c_or' x y 8 (by decide) 256 (by decide) (by omega) (by omega) (by omega)
  have ro := rng32 (x ||| y)
  have i := c_i2c (x ||| y)
  apply Int32.toInt_inj.mp
  omega
theorem cPC (l : Launch) (Z : State) (a0 : Array Value) (hw : hwT a0 Z) {EL : List (String × Nat)} {nw : Bool} (hEL : EW Z a0 EL) (h0 : Heap) (hU : US Z) (b : Addr) (i c : Int32) (n : Nat) (hi : i.toInt = (n : Int)) (vs : List Value) (hn : 2 * n + 1 < vs.length) (B : Al Z h0 b .byte vs) :
    Con l Z EL nw (⟨"java/lang/StringUTF16", "putChar", "([BII)V"⟩ : MethodName) jdk_52_method_4_code 3 (none) [] rm0 #[.ref b, .int i, .int c] h0 [b] (fun v h S' => v = none ∧ Al Z h b .byte ((vs.set (2 * n) (uLo c)).set (2 * n + 1) (uHi c)) ∧ Keep h0 h [b] ∧ S' = []) := by
  obtain ⟨U1, U2, U3⟩ := hU
  obtain ⟨cB, B1, B2, B3, -⟩ := id B
  refine Con.enter (a0 := a0) pn_5 hEL [.val (.ref b), .val (.int i), .val (.int c)] (fun m => by first | (simp [entryFrame, mkF, argsToLocals, Value.category]; done) | rfl) ?_
  intro K G
  refine G.getS d23_0 (hw 112 rfl) U1 ?_
  refine G.if_ne d23_3 (fun _ => ?_) (fun q => absurd q (by decide))
  refine G.iloadN d23_28 rfl ?_
  refine G.iconst 1 d23_29 ?_
  refine G.ishl d23_30 ?_
  refine G.istore1 d23_31 ?_
  refine G.aloadN d23_32 rfl rfl ?_
  refine G.iloadN d23_33 rfl ?_
  refine G.iinc1 1 d23_34 ?_
  refine G.iloadN d23_37 rfl ?_
  have hj := shl1 hi (by omega)
  refine G.getS d23_38 (hw 113 rfl) U2 ?_
  refine G.ishr d23_41 ?_
  refine G.i2b d23_42 ?_
  refine G.bastore d23_43 (List.mem_singleton.mpr rfl) B hj (by omega) (fun h1 W1 A1 => ?_)
  rw [nar8] at A1
  refine G.aloadN d23_44 rfl rfl ?_
  refine G.iloadN d23_45 rfl ?_
  refine G.iloadN d23_46 rfl ?_
  refine G.getS d23_47 (hw 114 rfl) U3 ?_
  refine G.ishr d23_50 ?_
  refine G.i2b d23_51 ?_
  refine G.bastore d23_52 (List.mem_singleton.mpr rfl) A1 (inc_toInt hj (by omega)) (by simp; omega) (fun h2 W2 A2 => ?_)
  rw [nar8] at A2
  have hm : b ∈ [b] ∨ h0.size ≤ b := Or.inl (List.mem_singleton.mpr rfl)
  exact G.ret0 d23_53 [] (fun _ q => nomatch q) ⟨rfl, A2, ((Keep.refl h0 [b]).wr W1 hm).wr W2 hm, rfl⟩
theorem cGC (l : Launch) (Z : State) (a0 : Array Value) (hw : hwT a0 Z) {EL : List (String × Nat)} {nw : Bool} (hEL : EW Z a0 EL) (h0 : Heap) (hU : US Z) (b : Addr) (i c : Int32) (n : Nat) (hi : i.toInt = (n : Int)) (hc : C16 c) (vs : List Value) (h1 : vs[2 * n]? = some (uLo c)) (h2 : vs[2 * n + 1]? = some (uHi c)) (B : Al Z h0 b .byte vs) :
    Con l Z EL nw (⟨"java/lang/StringUTF16", "getChar", "([BI)C"⟩ : MethodName) jdk_52_method_5_code 2 (some .char) [] rm0 #[.ref b, .int i] h0 [] (fun v h S' => v = some (.int c) ∧ h = h0 ∧ S' = []) := by
  obtain ⟨U1, U2, U3⟩ := hU
  obtain ⟨cB, B1, B2, B3, -⟩ := id B
  have hlt := (List.getElem?_eq_some_iff.mp h2).1
  refine Con.enter (a0 := a0) pn_6 hEL [.val (.ref b), .val (.int i)] (fun m => by first | (simp [entryFrame, mkF, argsToLocals, Value.category]; done) | rfl) ?_
  intro K G
  refine G.getS d24_0 (hw 112 rfl) U1 ?_
  refine G.if_ne d24_3 (fun _ => ?_) (fun q => absurd q (by decide))
  refine G.iloadN d24_28 rfl ?_
  refine G.iconst 1 d24_29 ?_
  refine G.ishl d24_30 ?_
  refine G.istore1 d24_31 ?_
  refine G.aloadN d24_32 rfl rfl ?_
  refine G.iloadN d24_33 rfl ?_
  refine G.iinc1 1 d24_34 ?_
  have hj := shl1 hi (by omega)
  refine G.baload d24_37 B hj h1 ?_
  refine G.sipush 255 d24_38 ?_
  refine G.iand d24_41 ?_
  refine G.getS d24_42 (hw 113 rfl) U2 ?_
  refine G.ishl d24_45 ?_
  refine G.aloadN d24_46 rfl rfl ?_
  refine G.iloadN d24_47 rfl ?_
  refine G.baload d24_48 B (inc_toInt hj (by omega)) h2 ?_
  refine G.sipush 255 d24_49 ?_
  refine G.iand d24_52 ?_
  refine G.getS d24_53 (hw 114 rfl) U3 ?_
  refine G.ishl d24_56 ?_
  refine G.ior d24_57 ?_
  refine G.i2c d24_58 ?_
  rw [chr2 hc]
  exact G.nret d24_59 (Or.inr (Or.inr (Or.inl rfl))) (z' := c) (nar_char hc.1 hc.2) [] (fun _ q => nomatch q) ⟨rfl, rfl, rfl⟩
theorem cNBL (l : Launch) (Z : State) (a0 : Array Value) (hw : hwT a0 Z) {EL : List (String × Nat)} {nw : Bool} (hEL : EW Z a0 EL) (h0 : Heap) (n : Int32) (i : Nat) (hn : n.toInt = (i : Int)) (hi : i ≤ 16) : Con l Z EL nw (⟨"java/lang/StringUTF16", "newBytesLength", "(I)I"⟩ : MethodName) jdk_52_method_3_code 1 (some .int) [] rm0 #[.int n] h0 [] (fun v h S' => (∃ m : Int32, v = some (.int m) ∧ m.toInt = ((2 * i : Nat) : Int)) ∧ h = h0 ∧ S' = []) := by
  refine Con.enter (a0 := a0) pn_7 hEL [.val (.int n)] (fun m => by first | (simp [entryFrame, mkF, argsToLocals, Value.category]; done) | rfl) ?_
  intro K G
  refine G.iloadN d22_0 rfl ?_
  refine G.if_ge d22_1 (fun _ => ?_) (fun q => absurd q (not_lt_of_toInt (by rw [hn, toInt_0]; omega)))
  refine G.iloadN d22_12 rfl ?_
  refine G.ldcI d22_13 (hw 108 rfl) ?_
  refine G.icmp_lt d22_15 (fun _ => ?_) (fun q => absurd (lt_of_toInt (by rw [hn]; have : (1073741823 : Int32).toInt = 1073741823 := (by decide); omega)) q)
  refine G.iloadN d22_55 rfl ?_
  refine G.iconst 1 d22_56 ?_
  refine G.ishl d22_57 ?_
  exact G.iret d22_58 [] (fun _ q => nomatch q) ⟨⟨_, rfl, shl1 hn (by omega)⟩, rfl, rfl⟩
theorem cNBF (l : Launch) (Z : State) (a0 : Array Value) (hw : hwT a0 Z) {EL : List (String × Nat)} {nw : Bool} (hEL : EW Z a0 EL) (h0 : Heap) (n : Int32) (i : Nat) (hn : n.toInt = (i : Int)) (hi : i ≤ 16) : Con l Z EL nw (⟨"java/lang/StringUTF16", "newBytesFor", "(I)[B"⟩ : MethodName) jdk_52_method_2_code 1 (some (.array .byte)) [] { frames := 1, cells := 1, slots := 32, locals := 12 } #[.int n] h0 [] (fun v h S' => v = some (.ref h0.size) ∧ Al Z h h0.size .byte (List.replicate (2 * i) (.int 0)) ∧ Ext h0 h ∧ S' = [h0.size]) := by
  refine Con.enter (a0 := a0) pn_8 hEL [.val (.int n)] (fun m => by first | (simp [entryFrame, mkF, argsToLocals, Value.category]; done) | rfl) ?_
  intro K G
  refine G.iloadN d21_0 rfl ?_
  refine G.callS1 d21_1 (hw 105 rfl) (hw 106 rfl) (hw 60 rfl) (hw 107 rfl) pd_4 (cNBL K.l Z a0 hw hEL h0 n i hn hi) (fun _ q => nomatch q) ?_
  rintro _ _ _ ⟨⟨m, rfl, hm⟩, rfl, rfl⟩ -
  refine G.newA (2*i) 32 d21_4 (hw 20 rfl) hm (by omega) (fun h1 E1 L1 A1 => ?_)
  exact G.aret d21_6 [_] (fun _ q => by simpa using q) ⟨rfl, A1, E1, rfl⟩
abbrev rmTB : Room := { frames := 2, cells := 1, slots := 32, locals := 24 }
theorem cTB (l : Launch) (Z : State) (a0 : Array Value) (hw : hwT a0 Z) {EL : List (String × Nat)} {nw : Bool} (hEL : EW Z a0 EL) (h0 : Heap) (hU : US Z) (a : Addr) (cs : List Int32) (n : Int32) (hn : n.toInt = (cs.length : Int)) (hm : cs.length ≤ 16) (A : Al Z h0 a .char (cs.map .int)) :
    Con l Z EL nw (⟨"java/lang/StringUTF16", "toBytes", "([CII)[B"⟩ : MethodName) jdk_52_method_14_code 5 (some (.array .byte)) [] rmTB #[.ref a, .int 0, .int n] h0 [] (fun v h S' => (∃ b, v = some (.ref b) ∧ h0.size ≤ b ∧ Al Z h b .byte (u2 cs) ∧ S' = [b]) ∧ Ext h0 h) := by
  refine Con.enter (a0 := a0) pn_9 hEL [.val (.ref a), .val (.int 0), .val (.int n), .unset, .unset] (fun m => by first | (simp [entryFrame, mkF, argsToLocals, Value.category]; done) | rfl) ?_
  intro K G
  refine G.iloadN d20_0 rfl ?_
  refine G.callS1 d20_1 (hw 102 rfl) (hw 103 rfl) (hw 60 rfl) (hw 104 rfl) pd_5 (cNBF K.l Z a0 hw hEL h0 n cs.length hn hm) (fun _ q => nomatch q) ?_
  rintro _ h1 _ ⟨rfl, B, E1, rfl⟩ -
  refine G.astore3 d20_4 ?_
  refine G.iconst 0 d20_5 ?_
  refine G.istore4 d20_6 ?_
  have hne : a ≠ h0.size := Nat.ne_of_lt A.lt
  refine Go.fewer (S' := [h0.size]) ?_ (by simp)
  have loop : ∀ (rest done : List Int32) (h : Heap) (i : Int32), done ++ rest = cs → i.toInt = (done.length : Int) → Al Z h h0.size .byte (u2 done ++ List.replicate (2 * rest.length) (.int 0)) → Keep h1 h [h0.size] →
      Go Z EL nw rmTB (fun v h S' => (∃ b, v = some (.ref b) ∧ h0.size ≤ b ∧ Al Z h b .byte (u2 cs) ∧ S' = [b]) ∧ Ext h0 h) K h [h0.size] 1 32 8 [.val (.ref a), .val (.int i), .val (.int n), .val (.ref h0.size), .val (.int i)] [] := by
    intro rest
    induction rest with
    | nil =>
      intro done h i hd hi hB hK
      refine G.iload d20_8 rfl ?_
      refine G.iloadN d20_10 rfl ?_
      refine G.icmp_ge d20_11 (fun _ => ?_) (fun q => absurd q (not_lt_of_toInt (by rw [hi, hn, ← hd]; simp)))
      refine G.aloadN d20_32 rfl rfl ?_
      refine G.aret d20_33 [h0.size] (fun _ q => q) ⟨⟨_, rfl, Nat.le_refl _, by rw [← hd]; simpa using hB, rfl⟩, ?_⟩
      exact keep_nil_ext ((ext_keep E1 []).trans hK (fun x q => by cases List.mem_singleton.mp q; exact Or.inr (Nat.le_refl _)))
    | cons x rest ih =>
      intro done h i hd hi hB hK
      have hlen : cs.length = done.length + (rest.length + 1) := by rw [← hd]; simp
      refine G.iload d20_8 rfl ?_
      refine G.iloadN d20_10 rfl ?_
      refine G.icmp_ge d20_11 (fun q => absurd (lt_of_toInt (by rw [hi, hn, hlen]; omega)) q) (fun _ => ?_)
      refine G.aloadN d20_14 rfl rfl ?_
      refine G.iload d20_15 rfl ?_
      refine G.aloadN d20_17 rfl rfl ?_
      refine G.iloadN d20_18 rfl ?_
      refine G.caload d20_19 ((A.ext E1).keep hK (ninS hne nin0)) hi (v := .int x) (by rw [← hd]; simp) ?_
      refine G.callS3 d20_20 (hw 109 rfl) (hw 110 rfl) (hw 60 rfl) (hw 111 rfl) pd_6 (cPC K.l Z a0 hw hEL h hU h0.size i x done.length hi _ (by simp [u2_len]; omega) hB) (fun _ q => q) ?_
      rintro _ h2 _ ⟨rfl, B2, K2, rfl⟩ -
      refine G.iinc1 1 d20_23 ?_
      refine G.iinc4 1 d20_26 ?_
      refine G.goto d20_29 ?_
      refine ih (done ++ [x]) h2 (i + 1) (by simp [hd]) (by rw [inc_toInt hi (by omega)]; simp) ?_ (hK.trans K2 (fun x q => Or.inl q))
      have e : ((u2 done ++ List.replicate (2 * (x :: rest).length) (Value.int 0)).set (2 * done.length) (uLo x)).set (2 * done.length + 1) (uHi x) = u2 (done ++ [x]) ++ List.replicate (2 * rest.length) (.int 0) := by
        have e1 : 2 * (x :: rest).length = 2 * rest.length + 1 + 1 := by simp only [List.length_cons]; omega
        rw [e1, List.replicate_succ, List.replicate_succ, ← u2_len done, set_mid]
        have := set_mid (u2 done ++ [uLo x]) (List.replicate (2 * rest.length) (Value.int 0)) (.int 0) (uHi x)
        simp only [List.append_assoc, List.cons_append, List.nil_append, List.length_append, List.length_cons, List.length_nil] at this
        rw [this, u2_app, u2_cons, u2_nil]
        simp
      rw [← e]; exact B2
  exact loop cs [] h1 0 rfl toInt_0 (by simpa [u2_nil] using B) (Keep.refl _ _)
/-- the compressing loop over any chars: how far it comes -/
theorem cCMPLg (l : Launch) (Z : State) (a0 : Array Value) (hw : hwT a0 Z) {EL : List (String × Nat)} {nw : Bool} (hEL : EW Z a0 EL) (h0 : Heap) (a b : Addr) (cs : List Int32) (n : Int32) (hn : n.toInt = (cs.length : Int)) (hb : cs.length < 2147483648) (hch : Ch cs) (A : Al Z h0 a .char (cs.map .int)) (B : Al Z h0 b .byte (List.replicate cs.length (.int 0))) (hab : a ≠ b) :
    Con l Z EL nw (⟨"java/lang/StringUTF16", "compress", "([CI[BII)I"⟩ : MethodName) jdk_52_method_21_code 7 (some .int) [] rm0 #[.ref a, .int 0, .ref b, .int 0, .int n] h0 [b] (fun v h S' => (∃ p : Int32, v = some (.int p) ∧ ((p = n ∧ Lat cs ∧ Al Z h b .byte (cs.map bL)) ∨ (∃ (j : Nat) (c : Int32), p.toInt = (j : Int) ∧ cs[j]? = some c ∧ 256 ≤ c.toInt))) ∧ Keep h0 h [b] ∧ S' = []) := by
  refine Con.enter (a0 := a0) pn_0 hEL [.val (.ref a), .val (.int 0), .val (.ref b), .val (.int 0), .val (.int n), .unset, .unset] (fun m => by first | (simp [entryFrame, mkF, argsToLocals, Value.category]; done) | rfl) ?_
  intro K G
  refine G.iconst 0 d11_0 ?_
  refine G.istore5 d11_1 ?_
  have e255 : (255 : Int32).toInt = 255 := by decide
  have loop : ∀ (rest done : List Int32) (h : Heap) (i : Int32) (x6 : Slot) (_ : x6 = .unset ∨ ∃ q : Int32, x6 = .val (.int q)), done ++ rest = cs → Lat done → i.toInt = (done.length : Int) → Al Z h b .byte (done.map bL ++ List.replicate rest.length (.int 0)) → Keep h0 h [b] →
      Go Z EL nw rm0 (fun v h S' => (∃ p : Int32, v = some (.int p) ∧ ((p = n ∧ Lat cs ∧ Al Z h b .byte (cs.map bL)) ∨ (∃ (j : Nat) (c : Int32), p.toInt = (j : Int) ∧ cs[j]? = some c ∧ 256 ≤ c.toInt))) ∧ Keep h0 h [b] ∧ S' = []) K h [b] 0 0 3 [.val (.ref a), .val (.int i), .val (.ref b), .val (.int i), .val (.int n), .val (.int i), x6] [] := by
    intro rest
    induction rest with
    | nil =>
      intro done h i x6 h6 hd hl hi hB hK
      refine G.iload d11_3 rfl ?_
      refine G.iload d11_5 rfl ?_
      refine G.icmp_ge d11_7 (fun _ => ?_) (fun q => absurd q (not_lt_of_toInt (by rw [hi, hn, ← hd]; simp)))
      refine G.iload d11_44 rfl ?_
      have hd' : done = cs := by simpa using hd
      subst hd'
      exact G.iret d11_46 [] (fun _ q => nomatch q) ⟨⟨_, rfl, Or.inl ⟨rfl, hl, by simpa using hB⟩⟩, hK, rfl⟩
    | cons x rest ih =>
      intro done h i x6 h6 hd hl hi hB hK
      have hlen : cs.length = done.length + (rest.length + 1) := by rw [← hd]; simp
      have hx : x ∈ cs := by rw [← hd]; simp
      have hg : cs[done.length]? = some x := by rw [← hd]; simp
      refine G.iload d11_3 rfl ?_
      refine G.iload d11_5 rfl ?_
      refine G.icmp_ge d11_7 (fun q => absurd (lt_of_toInt (by rw [hi, hn, hlen]; omega)) q) (fun _ => ?_)
      refine G.aloadN d11_10 rfl rfl ?_
      refine G.iloadN d11_11 rfl ?_
      refine G.caload d11_12 (A.keep hK (ninS hab nin0)) hi (v := .int x) (by rw [← hd]; simp) ?_
      rcases h6 with rfl | ⟨w6, rfl⟩
      all_goals
        refine G.istore6 d11_13 ?_
        refine G.iload d11_15 rfl ?_
        refine G.sipush 255 d11_17 ?_
        refine G.icmp_le d11_20 (fun q => ?_) (fun q => ?_)
        · rw [Int32.lt_iff_toInt_lt, e255] at q
          refine G.aloadN d11_26 rfl rfl ?_
          refine G.iloadN d11_27 rfl ?_
          refine G.iload d11_28 rfl ?_
          refine G.i2b d11_30 ?_
          refine G.bastore d11_31 (List.mem_singleton.mpr rfl) hB hi (by simp) (fun h' W hB' => ?_)
          refine G.iinc1 1 d11_32 ?_
          refine G.iinc3 1 d11_35 ?_
          refine G.iinc5 1 d11_38 ?_
          refine G.goto d11_41 ?_
          refine ih (done ++ [x]) h' (i + 1) _ (Or.inr ⟨_, rfl⟩) (by simp [hd]) ?_ (by rw [inc_toInt hi (by omega)]; simp) ?_ (hK.wr W (Or.inl (List.mem_singleton.mpr rfl)))
          · intro c hc
            rcases List.mem_append.mp hc with hc | hc
            · exact hl c hc
            · cases List.mem_singleton.mp hc; exact ⟨(hch x hx).1, by omega⟩
          · have e : (done.map bL ++ List.replicate (x :: rest).length (Value.int 0)).set done.length (.int (nar .byte x.toInt8.toInt32)) = (done ++ [x]).map bL ++ List.replicate rest.length (.int 0) := by
              have := set_mid (done.map bL) (List.replicate rest.length (Value.int 0)) (.int 0) (.int (nar .byte x.toInt8.toInt32))
              rw [List.length_map] at this
              simp only [List.length_cons, List.replicate_succ]
              rw [this, nar8]; simp [bL]
            rw [← e]; exact hB'
        · rw [Int32.lt_iff_toInt_lt, e255] at q
          refine G.iload d11_23 rfl ?_
          exact G.iret d11_25 [] (fun _ q => nomatch q) ⟨⟨_, rfl, Or.inr ⟨_, _, hi, hg, by omega⟩⟩, hK, rfl⟩
  exact loop cs [] h0 0 _ (Or.inl rfl) rfl Lat.nil toInt_0 (by simpa using B) (Keep.refl _ _)
abbrev rmCMPg : Room := { frames := 3, cells := 2, slots := 48, locals := 41 }
theorem cCMPg (l : Launch) (Z : State) (a0 : Array Value) (hw : hwT a0 Z) {EL : List (String × Nat)} {nw : Bool} (hEL : EW Z a0 EL) (h0 : Heap) (hU : US Z) (a : Addr) (cs : List Int32) (n : Int32) (hn : n.toInt = (cs.length : Int)) (hm : cs.length ≤ 16) (hch : Ch cs) (A : Al Z h0 a .char (cs.map .int)) :
    Con l Z EL nw (⟨"java/lang/StringUTF16", "compress", "([CII)[B"⟩ : MethodName) jdk_52_method_16_code 6 (some (.array .byte)) [] rmCMPg #[.ref a, .int 0, .int n] h0 [] (fun v h S' => (∃ b, v = some (.ref b) ∧ h0.size ≤ b ∧ ((Lat cs ∧ Al Z h b .byte (cs.map bL)) ∨ (¬ Lat cs ∧ Al Z h b .byte (u2 cs)))) ∧ Ext h0 h ∧ S' = []) := by
  have e255 : (255 : Int32).toInt = 255 := by decide
  refine Con.enter (a0 := a0) pn_1 hEL [.val (.ref a), .val (.int 0), .val (.int n), .unset, .unset, .unset] (fun m => by first | (simp [entryFrame, mkF, argsToLocals, Value.category]; done) | rfl) ?_
  intro K G
  refine G.iloadN d10_0 rfl ?_
  refine G.newA cs.length 16 d10_1 (hw 20 rfl) hn hm (fun h1 E1 L1 A1 => ?_)
  refine G.astore3 d10_3 ?_
  refine G.aloadN d10_4 rfl rfl ?_
  refine G.iloadN d10_5 rfl ?_
  refine G.aloadN d10_6 rfl rfl ?_
  refine G.iconst 0 d10_7 ?_
  refine G.iloadN d10_8 rfl ?_
  have hne : a ≠ h0.size := Nat.ne_of_lt A.lt
  refine G.callS5 d10_9 (hw 62 rfl) (hw 63 rfl) (hw 60 rfl) (hw 64 rfl) pd_0 (cCMPLg K.l Z a0 hw hEL h1 a h0.size cs n hn (by omega) hch (A.ext E1) A1 hne) (fun _ q => by simpa using q) ?_
  rintro _ h2 _ ⟨⟨p, rfl, hp⟩, K2, rfl⟩ -
  have X2 : Keep h0 h2 [] := (ext_keep E1 []).trans K2 (fun x q => by cases List.mem_singleton.mp q; exact Or.inr (Nat.le_refl _))
  refine G.istore4 d10_12 ?_
  refine G.iload d10_14 rfl ?_
  refine G.iloadN d10_16 rfl ?_
  rcases hp with ⟨rfl, hl, B2⟩ | ⟨j, c, hj, hg, hc⟩
  · refine G.icmp_eq d10_17 (fun _ => ?_) (fun q => absurd rfl q)
    refine G.aloadN d10_57 rfl rfl ?_
    exact G.aret d10_58 [] (fun _ q => nomatch q) ⟨⟨_, rfl, Nat.le_refl _, Or.inl ⟨hl, B2⟩⟩, keep_nil_ext X2, rfl⟩
  · have hlt := (List.getElem?_eq_some_iff.mp hg).1
    have nl : ¬ Lat cs := fun q => by have := (q c (List.mem_of_getElem? hg)).2; omega
    refine G.icmp_eq d10_17 (fun q => absurd (congrArg Int32.toInt q) (by rw [hj, hn]; omega)) (fun _ => ?_)
    refine G.aloadN d10_20 rfl rfl ?_
    refine G.iloadN d10_21 rfl ?_
    refine G.iloadN d10_22 rfl ?_
    refine G.callS3 d10_23 (hw 99 rfl) (hw 100 rfl) (hw 60 rfl) (hw 101 rfl) pd_1 (cTB K.l Z a0 hw hEL h2 hU a cs n hn hm (A.keep X2 nin0)) (fun _ q => nomatch q) ?_
    rintro _ h3 _ ⟨⟨b, rfl, hb, B3, rfl⟩, E3⟩ -
    refine G.astore5 d10_26 ?_
    refine G.aload d10_28 rfl rfl ?_
    refine G.iload d10_30 rfl ?_
    refine G.callS2 d10_32 (hw 115 rfl) (hw 116 rfl) (hw 60 rfl) (hw 117 rfl) pd_7 (cGC K.l Z a0 hw hEL h3 hU b p c j hj (hch c (List.mem_of_getElem? hg)) (u2 cs) (u2_get hg).1 (u2_get hg).2 B3) (fun _ q => nomatch q) ?_
    rintro _ _ _ ⟨rfl, rfl, rfl⟩ -
    refine G.sipush 255 d10_35 ?_
    refine G.icmp_gt d10_38 (fun _ => ?_) (fun q => absurd (lt_of_toInt (by rw [e255]; omega)) q)
    refine G.aload d10_54 rfl rfl ?_
    exact G.aret d10_56 [] (fun _ q => nomatch q) ⟨⟨_, rfl, Nat.le_trans X2.1 hb, Or.inr ⟨nl, B3⟩⟩, keep_nil_ext (X2.ext E3), rfl⟩
theorem cCFAg (l : Launch) (Z : State) (a0 : Array Value) (hw : hwT a0 Z) {EL : List (String × Nat)} {nw : Bool} (hEL : EW Z a0 EL) (h0 : Heap) (b : Addr) (vs : List Value) (n : Int32) (i : Nat) (hn : n.toInt = (i : Int)) (hv : vs.length = 2 * i) (h1 : 0 < i) (hm : i ≤ 16) (B : Al Z h0 b .byte vs) :
    Con l Z EL nw (⟨"java/lang/StringUTF16", "coderFromArrayLen", "([BI)B"⟩ : MethodName) jdk_52_method_15_code 2 (some .byte) [] rm0 #[.ref b, .int n] h0 [] (fun v h S' => v = some (.int 1) ∧ h = h0 ∧ S' = []) := by
  refine Con.enter (a0 := a0) pn_2 hEL [.val (.ref b), .val (.int n)] (fun m => by first | (simp [entryFrame, mkF, argsToLocals, Value.category]; done) | rfl) ?_
  intro K G
  have hk : (Int32.ofNat vs.length).toInt = (vs.length : Int) := len_toInt (by omega)
  refine G.iloadN d12_0 rfl ?_
  refine G.aloadN d12_1 rfl rfl ?_
  refine G.alen (Int32.ofNat vs.length) d12_2 B hk ?_
  refine G.isub d12_3 ?_
  refine G.bipush 31 d12_4 ?_
  refine G.iushr d12_6 ?_
  refine G.i2b d12_7 ?_
  have e : ((n - Int32.ofNat vs.length).toUInt32 >>> ((31 : Int32) &&& 31).toUInt32).toInt32 = 1 := by
    apply Int32.toInt_inj.mp
    have a1 := c_isub n (Int32.ofNat vs.length)
    have a2 := rng32 (n - Int32.ofNat vs.length)
    have a3 := c_iushr (n - Int32.ofNat vs.length) 31 31 (by decide) (by decide)
    have e0 : (1 : Int32).toInt = 1 := by decide
    have e1 : ((2 ^ 31 : Nat) : Int) = 2147483648 := by decide
    rw [e1] at a3
    rw [hn, hk] at a1
    omega
  exact G.nret d12_8 (Or.inr (Or.inl rfl)) (z' := 1) (by rw [e]; decide) [] (fun _ q => nomatch q) ⟨rfl, rfl, rfl⟩
/-- a String of these chars -/
def Str (Z : State) (h : Heap) (a : Addr) (cs : List Int32) : Prop := Ch cs ∧ ∃ vb, (Lat cs ∧ StrB Z h a 0 vb (cs.map bL)) ∨ (¬ Lat cs ∧ StrB Z h a 1 vb (u2 cs))
theorem Str.ext {Z : State} {h h' : Heap} {a : Addr} {cs : List Int32} (F : Str Z h a cs) (E : Ext h h') : Str Z h' a cs := by
  obtain ⟨c, vb, q⟩ := F
  exact ⟨c, vb, q.imp (fun z => ⟨z.1, z.2.ext E⟩) (fun z => ⟨z.1, z.2.ext E⟩)⟩
theorem Str.keep {Z : State} {h h' : Heap} {a : Addr} {cs : List Int32} (F : Str Z h a cs) (K : Keep h h' []) : Str Z h' a cs := F.ext (keep_nil_ext K)
theorem Str.exa {Z : State} {h : Heap} {a : Addr} {cs : List Int32} (F : Str Z h a cs) : Exa Z h a "java/lang/String" := by
  obtain ⟨c, vb, q | q⟩ := F
  · exact q.2.1
  · exact q.2.1
abbrev rmSI4g : Room := { frames := 4, cells := 4, slots := 48, locals := 58 }
abbrev rmSIg : Room := { frames := 5, cells := 4, slots := 48, locals := 75 }
theorem cSI4g (l : Launch) (Z : State) (a0 : Array Value) (hw : hwT a0 Z) {EL : List (String × Nat)} {nw : Bool} (hEL : EW Z a0 EL) (h0 : Heap) (hC : CS Z) (hU : US Z) (a b : Addr) (cs : List Int32) (n : Int32) (hn : n.toInt = (cs.length : Int)) (hm : cs.length ≤ 16) (h1 : 0 < cs.length) (hch : Ch cs) (E : Exa Z h0 a SN) (D : ∀ {O fn d : String} {ty : FieldType}, Laid Z a0 SN O fn d → parseFieldDescriptor d = some ty → Fld Z h0 a O fn d (defaultValue ty)) (A : Al Z h0 b .char (cs.map .int)) :
    Con l Z EL nw (⟨"java/lang/String", "<init>", "([CIILjava/lang/Void;)V"⟩ : MethodName) jdk_42_method_149_code 6 (none) [] rmSI4g #[.ref a, .ref b, .int 0, .int n, .null] h0 [a] (fun v h S' => v = none ∧ Str Z h a cs ∧ Keep h0 h [a] ∧ S' = []) := by
  obtain ⟨cc, hC, hcc⟩ := hC
  refine Con.enter (a0 := a0) pn_3 hEL [.val (.ref a), .val (.ref b), .val (.int 0), .val (.int n), .val (.null), .unset] (fun m => by first | (simp [entryFrame, mkF, argsToLocals, Value.category]; done) | rfl) ?_
  intro K G
  have F1 := D (Or.inr (hw 22 rfl)) (ty := .byte) (by decide)
  have F2 := D (Or.inr (hw 21 rfl)) (ty := .array .byte) (by decide)
  refine G.aloadN d3_0 rfl rfl ?_
  refine G.initO d3_1 (hw 16 rfl) (hw 17 rfl) (hw 18 rfl) ?_
  refine G.iloadN d3_4 rfl ?_
  refine G.if_ne d3_5 (fun _ => ?_) (fun q => absurd (congrArg Int32.toInt q) (by rw [hn, toInt_0]; omega))
  refine G.getS d3_27 (hw 45 rfl) hC ?_
  refine G.if_eq d3_30 (fun q => absurd q hcc) (fun _ => ?_)
  refine G.aloadN d3_33 rfl rfl ?_
  refine G.iloadN d3_34 rfl ?_
  refine G.iloadN d3_35 rfl ?_
  refine G.callS3 d3_36 (hw 58 rfl) (hw 59 rfl) (hw 60 rfl) (hw 61 rfl) pd_1 (cCMPg K.l Z a0 hw hEL h0 hU b cs n hn hm hch A) (fun _ q => nomatch q) ?_
  rintro _ h2 _ ⟨⟨vb, rfl, hvb, hB⟩, E2, rfl⟩ -
  refine G.astore5 d3_39 ?_
  refine G.aloadN d3_41 rfl rfl ?_
  refine G.aload d3_42 rfl rfl ?_
  refine G.iloadN d3_44 rfl ?_
  have hne : vb ≠ a := fun q => Nat.lt_irrefl _ (Nat.lt_of_lt_of_le E.lt (q ▸ hvb))
  rcases hB with ⟨hl, B⟩ | ⟨hl, B⟩
  · refine G.callS2 d3_45 (hw 65 rfl) (hw 66 rfl) (hw 60 rfl) (hw 67 rfl) pd_2 (cCFA K.l Z a0 hw hEL h2 vb (cs.map bL) n (by simpa using hn) B) (fun _ q => nomatch q) ?_
    rintro _ _ _ ⟨rfl, rfl, rfl⟩ -
    refine G.putF d3_48 (hw 26 rfl) (F1.ext E2) (E.ext E2) (by simp) (Or.inr ⟨(hw 22 rfl), rfl, rfl⟩) (hw 7 rfl) (ty := .byte) (by decide) rfl rfl (fun h3 W3 F1 E => ?_)
    refine G.aloadN d3_51 rfl rfl ?_
    refine G.aload d3_52 rfl rfl ?_
    have F2' := Fld.oth (F2.ext E2) W3 (Or.inr (hw 21 rfl)) (Or.inr (hw 22 rfl)) (by decide) (by decide) (by decide)
    refine G.putF d3_54 (hw 25 rfl) F2' E (by simp) (Or.inr ⟨(hw 21 rfl), rfl, rfl⟩) (hw 7 rfl) (ty := (.array .byte)) (by decide) rfl rfl (fun h4 W4 F2 E => ?_)
    replace F1 := Fld.oth F1 W4 (Or.inr (hw 22 rfl)) (Or.inr (hw 21 rfl)) (by decide) (by decide) (by decide)
    refine G.ret0 d3_57 [] (fun _ q => nomatch q) ⟨rfl, ⟨hch, vb, Or.inl ⟨hl, E, F1, F2, (B.other W3 hne).other W4 hne⟩⟩, ?_, rfl⟩
    exact (((ext_keep E2 [a]).wr W3 (Or.inl (List.mem_singleton.mpr rfl))).wr W4 (Or.inl (List.mem_singleton.mpr rfl)))
  · refine G.callS2 d3_45 (hw 65 rfl) (hw 66 rfl) (hw 60 rfl) (hw 67 rfl) pd_2 (cCFAg K.l Z a0 hw hEL h2 vb (u2 cs) n cs.length hn (u2_len cs) h1 hm B) (fun _ q => nomatch q) ?_
    rintro _ _ _ ⟨rfl, rfl, rfl⟩ -
    refine G.putF d3_48 (hw 26 rfl) (F1.ext E2) (E.ext E2) (by simp) (Or.inr ⟨(hw 22 rfl), rfl, rfl⟩) (hw 7 rfl) (ty := .byte) (by decide) rfl rfl (fun h3 W3 F1 E => ?_)
    refine G.aloadN d3_51 rfl rfl ?_
    refine G.aload d3_52 rfl rfl ?_
    have F2' := Fld.oth (F2.ext E2) W3 (Or.inr (hw 21 rfl)) (Or.inr (hw 22 rfl)) (by decide) (by decide) (by decide)
    refine G.putF d3_54 (hw 25 rfl) F2' E (by simp) (Or.inr ⟨(hw 21 rfl), rfl, rfl⟩) (hw 7 rfl) (ty := (.array .byte)) (by decide) rfl rfl (fun h4 W4 F2 E => ?_)
    replace F1 := Fld.oth F1 W4 (Or.inr (hw 22 rfl)) (Or.inr (hw 21 rfl)) (by decide) (by decide) (by decide)
    refine G.ret0 d3_57 [] (fun _ q => nomatch q) ⟨rfl, ⟨hch, vb, Or.inr ⟨hl, E, F1, F2, (B.other W3 hne).other W4 hne⟩⟩, ?_, rfl⟩
    exact (((ext_keep E2 [a]).wr W3 (Or.inl (List.mem_singleton.mpr rfl))).wr W4 (Or.inl (List.mem_singleton.mpr rfl)))
/-- new String(char[]), one char at the least -/
theorem cSIg (l : Launch) (Z : State) (a0 : Array Value) (hw : hwT a0 Z) {EL : List (String × Nat)} {nw : Bool} (hEL : EW Z a0 EL) (h0 : Heap) (hC : CS Z) (hU : US Z) (a b : Addr) (cs : List Int32) (hm : cs.length ≤ 16) (h1 : 0 < cs.length) (hch : Ch cs) (E : Exa Z h0 a SN) (D : ∀ {O fn d : String} {ty : FieldType}, Laid Z a0 SN O fn d → parseFieldDescriptor d = some ty → Fld Z h0 a O fn d (defaultValue ty)) (A : Al Z h0 b .char (cs.map .int)) :
    Con l Z EL nw (⟨"java/lang/String", "<init>", "([C)V"⟩ : MethodName) jdk_42_method_3_code 2 (none) [] rmSIg #[.ref a, .ref b] h0 [a] (fun v h S' => v = none ∧ Str Z h a cs ∧ Keep h0 h [a] ∧ S' = []) := by
  refine Con.enter (a0 := a0) pn_4 hEL [.val (.ref a), .val (.ref b)] (fun m => by first | (simp [entryFrame, mkF, argsToLocals, Value.category]; done) | rfl) ?_
  intro K G
  refine G.aloadN d2_0 rfl rfl ?_
  refine G.aloadN d2_1 rfl rfl ?_
  refine G.iconst 0 d2_2 ?_
  refine G.aloadN d2_3 rfl rfl ?_
  have hn : (Int32.ofNat cs.length).toInt = (cs.length : Int) := len_toInt (by omega)
  refine G.alen (Int32.ofNat cs.length) d2_4 A (by simpa using hn) ?_
  refine G.aconstNull d2_5 ?_
  refine G.callI4 d2_6 (hw 12 rfl) (hw 13 rfl) (hw 8 rfl) (hw 15 rfl) pd_3 (cSI4g K.l Z a0 hw hEL h0 hC hU a b cs _ hn hm h1 hch E D A) (fun _ q => q) ?_
  rintro _ h2 _ ⟨rfl, B2, K2, rfl⟩ -
  exact G.ret0 d2_9 [] (fun _ q => nomatch q) ⟨rfl, B2, K2, rfl⟩
theorem Ch.nil : Ch [] := fun _ q => nomatch q
theorem Ch.cons {c : Int32} {cs : List Int32} (h : C16 c) (r : Ch cs) : Ch (c :: cs) := fun x q => by rcases List.mem_cons.mp q with rfl | q; exact h; exact r x q
theorem Str.empty {Z : State} {h : Heap} {a vb : Addr} (F : StrB Z h a 0 vb (([] : List Int32).map bL)) : Str Z h a [] := ⟨Ch.nil, vb, Or.inl ⟨Lat.nil, F⟩⟩
theorem ch16 (x : Int32) : C16 (x.toUInt32.toUInt16.toUInt32.toInt32) := by
  have := c_i2c x
  exact ⟨by omega, by omega⟩
def SF (Z : State) : Prop := ∃ v : Value, Sta Z Z.heap "jdk/internal/util/Preconditions" "SIOOBE_FORMATTER" "Ljava/util/function/BiFunction;" v ∧ v.isRef = true
theorem cPCI (l : Launch) (Z : State) (a0 : Array Value) (hw : hwT a0 Z) {EL : List (String × Nat)} {nw : Bool} (hEL : EW Z a0 EL) (h0 : Heap) (i n : Int32) (v : Value) (hv : v.isRef = true) (h1 : 0 ≤ i.toInt) (h2 : i.toInt < n.toInt) : Con l Z EL nw (⟨"jdk/internal/util/Preconditions", "checkIndex", "(IILjava/util/function/BiFunction;)I"⟩ : MethodName) jdk_41_method_11_code 3 (some .int) [] rm0 #[.int i, .int n, v] h0 [] (fun v h S' => v = some (.int i) ∧ h = h0 ∧ S' = []) := by
  rcases ref_cases hv with rfl | ⟨m, rfl⟩
  · refine Con.enter (a0 := a0) pn_10 hEL [.val (.int i), .val (.int n), .val (.null)] (fun m => by first | (simp [entryFrame, mkF, argsToLocals, Value.category]; done) | rfl) ?_
    intro K G
    refine G.iloadN d17_0 rfl ?_
    refine G.if_lt d17_1 (fun q => absurd q (not_lt_of_toInt (by rw [toInt_0]; exact h1))) (fun _ => ?_)
    refine G.iloadN d17_4 rfl ?_
    refine G.iloadN d17_5 rfl ?_
    refine G.icmp_lt d17_6 (fun _ => ?_) (fun q => absurd (lt_of_toInt h2) q)
    refine G.iloadN d17_16 rfl ?_
    exact G.iret d17_17 [] (fun _ q => nomatch q) ⟨rfl, rfl, rfl⟩
  · refine Con.enter (a0 := a0) pn_10 hEL [.val (.int i), .val (.int n), .val (.ref m)] (fun m => by first | (simp [entryFrame, mkF, argsToLocals, Value.category]; done) | rfl) ?_
    intro K G
    refine G.iloadN d17_0 rfl ?_
    refine G.if_lt d17_1 (fun q => absurd q (not_lt_of_toInt (by rw [toInt_0]; exact h1))) (fun _ => ?_)
    refine G.iloadN d17_4 rfl ?_
    refine G.iloadN d17_5 rfl ?_
    refine G.icmp_lt d17_6 (fun _ => ?_) (fun q => absurd (lt_of_toInt h2) q)
    refine G.iloadN d17_16 rfl ?_
    exact G.iret d17_17 [] (fun _ q => nomatch q) ⟨rfl, rfl, rfl⟩
abbrev rmSCI : Room := { frames := 1, cells := 0, slots := 0, locals := 14 }
theorem cSCI (l : Launch) (Z : State) (a0 : Array Value) (hw : hwT a0 Z) {EL : List (String × Nat)} {nw : Bool} (hEL : EW Z a0 EL) (h0 : Heap) (hF : SF Z) (i n : Int32) (h1 : 0 ≤ i.toInt) (h2 : i.toInt < n.toInt) : Con l Z EL nw (⟨"java/lang/String", "checkIndex", "(II)V"⟩ : MethodName) jdk_42_method_155_code 2 (none) [] rmSCI #[.int i, .int n] h0 [] (fun v h S' => v = none ∧ h = h0 ∧ S' = []) := by
  obtain ⟨v, hF, hv⟩ := hF
  refine Con.enter (a0 := a0) pn_11 hEL [.val (.int i), .val (.int n)] (fun m => by first | (simp [entryFrame, mkF, argsToLocals, Value.category]; done) | rfl) ?_
  intro K G
  refine G.iloadN d16_0 rfl ?_
  refine G.iloadN d16_1 rfl ?_
  refine G.getS d16_2 (hw 88 rfl) hF ?_
  refine G.callS3 d16_5 (hw 90 rfl) (hw 91 rfl) (hw 89 rfl) (hw 92 rfl) pd_8 (cPCI K.l Z a0 hw hEL h0 i n v hv h1 h2) (fun _ q => nomatch q) ?_
  rintro _ _ _ ⟨rfl, rfl, rfl⟩ -
  refine G.pop d16_8 ?_
  exact G.ret0 d16_9 [] (fun _ q => nomatch q) ⟨rfl, rfl, rfl⟩
abbrev rmLCA : Room := { frames := 2, cells := 0, slots := 0, locals := 27 }
theorem cLCA (l : Launch) (Z : State) (a0 : Array Value) (hw : hwT a0 Z) {EL : List (String × Nat)} {nw : Bool} (hEL : EW Z a0 EL) (h0 : Heap) (hF : SF Z) (b : Addr) (cs : List Int32) (hc : Lat cs) (i : Int32) (j : Nat) (hi : i.toInt = (j : Int)) (c : Int32) (hg : cs[j]? = some c) (B : Al Z h0 b .byte (cs.map bL)) : Con l Z EL nw (⟨"java/lang/StringLatin1", "charAt", "([BI)C"⟩ : MethodName) jdk_43_method_2_code 2 (some .char) [] rmLCA #[.ref b, .int i] h0 [] (fun v h S' => v = some (.int c) ∧ h = h0 ∧ S' = []) := by
  have hlt := (List.getElem?_eq_some_iff.mp hg).1
  have r := hc c (List.mem_of_getElem? hg)
  have hB := B.len
  rw [List.length_map] at hB
  have hn : (Int32.ofNat cs.length).toInt = (cs.length : Int) := len_toInt hB
  refine Con.enter (a0 := a0) pn_12 hEL [.val (.ref b), .val (.int i)] (fun m => by first | (simp [entryFrame, mkF, argsToLocals, Value.category]; done) | rfl) ?_
  intro K G
  refine G.iloadN d15_0 rfl ?_
  refine G.aloadN d15_1 rfl rfl ?_
  refine G.alen (Int32.ofNat cs.length) d15_2 B (by simpa using hn) ?_
  refine G.callS2 d15_3 (hw 85 rfl) (hw 86 rfl) (hw 8 rfl) (hw 87 rfl) pd_9 (cSCI K.l Z a0 hw hEL h0 hF i _ (by omega) (by rw [hi, hn]; omega)) (fun _ q => nomatch q) ?_
  rintro _ _ _ ⟨rfl, rfl, rfl⟩ -
  refine G.aloadN d15_6 rfl rfl ?_
  refine G.iloadN d15_7 rfl ?_
  refine G.baload d15_8 B hi (v := bL c) (by simp [hg]) ?_
  refine G.sipush 255 d15_9 ?_
  refine G.iand (x := c.toInt8.toInt32) d15_12 ?_
  rw [byte_back r.1 r.2]
  refine G.i2c d15_13 ?_
  have e : c.toUInt32.toUInt16.toUInt32.toInt32 = c := nar_char r.1 (by omega)
  rw [e]
  exact G.nret d15_14 (Or.inr (Or.inr (Or.inl rfl))) (z' := c) (nar_char r.1 (by omega)) [] (fun _ q => nomatch q) ⟨rfl, rfl, rfl⟩
theorem shr1 {i : Int32} {n : Nat} (hi : i.toInt = ((2 * n : Nat) : Int)) : (i >>> ((1 : Int32) &&& 31)).toInt = (n : Int) := by
  have a := c_ishr i 1 1 (by decide)
  have e : ((2 ^ 1 : Nat) : Int) = 2 := by decide
  rw [e, hi] at a
  omega
theorem shr0 (i : Int32) : (i >>> ((0 : Int32) &&& 31)).toInt = i.toInt := by
  have a := c_ishr i 0 0 (by decide)
  have e : ((2 ^ 0 : Nat) : Int) = 1 := by decide
  rw [e] at a
  omega
theorem cULN (l : Launch) (Z : State) (a0 : Array Value) (hw : hwT a0 Z) {EL : List (String × Nat)} {nw : Bool} (hEL : EW Z a0 EL) (h0 : Heap) (b : Addr) (vs : List Value) (n : Nat) (hn : vs.length = 2 * n) (B : Al Z h0 b .byte vs) : Con l Z EL nw (⟨"java/lang/StringUTF16", "length", "([B)I"⟩ : MethodName) jdk_52_method_6_code 1 (some .int) [] rm0 #[.ref b] h0 [] (fun v h S' => (∃ m : Int32, v = some (.int m) ∧ m.toInt = (n : Int)) ∧ h = h0 ∧ S' = []) := by
  have hk : (Int32.ofNat vs.length).toInt = (vs.length : Int) := len_toInt B.len
  refine Con.enter (a0 := a0) pn_13 hEL [.val (.ref b)] (fun m => by first | (simp [entryFrame, mkF, argsToLocals, Value.category]; done) | rfl) ?_
  intro K G
  refine G.aloadN d27_0 rfl rfl ?_
  refine G.alen (Int32.ofNat vs.length) d27_1 B hk ?_
  refine G.iconst 1 d27_2 ?_
  refine G.ishr d27_3 ?_
  exact G.iret d27_4 [] (fun _ q => nomatch q) ⟨⟨_, rfl, shr1 (by rw [hk, hn])⟩, rfl, rfl⟩
abbrev rmUCI : Room := { frames := 2, cells := 0, slots := 0, locals := 27 }
theorem cUCI (l : Launch) (Z : State) (a0 : Array Value) (hw : hwT a0 Z) {EL : List (String × Nat)} {nw : Bool} (hEL : EW Z a0 EL) (h0 : Heap) (hF : SF Z) (b : Addr) (vs : List Value) (n : Nat) (hn : vs.length = 2 * n) (i : Int32) (h1 : 0 ≤ i.toInt) (h2 : i.toInt < (n : Int)) (B : Al Z h0 b .byte vs) : Con l Z EL nw (⟨"java/lang/StringUTF16", "checkIndex", "(I[B)V"⟩ : MethodName) jdk_52_method_91_code 2 (none) [] rmUCI #[.int i, .ref b] h0 [] (fun v h S' => v = none ∧ h = h0 ∧ S' = []) := by
  refine Con.enter (a0 := a0) pn_14 hEL [.val (.int i), .val (.ref b)] (fun m => by first | (simp [entryFrame, mkF, argsToLocals, Value.category]; done) | rfl) ?_
  intro K G
  refine G.iloadN d26_0 rfl ?_
  refine G.aloadN d26_1 rfl rfl ?_
  refine G.callS1 d26_2 (hw 124 rfl) (hw 125 rfl) (hw 60 rfl) (hw 126 rfl) pd_10 (cULN K.l Z a0 hw hEL h0 b vs n hn B) (fun _ q => nomatch q) ?_
  rintro _ _ _ ⟨⟨m, rfl, hm⟩, rfl, rfl⟩ -
  refine G.callS2 d26_5 (hw 127 rfl) (hw 86 rfl) (hw 8 rfl) (hw 87 rfl) pd_9 (cSCI K.l Z a0 hw hEL _ hF i m h1 (by rw [hm]; exact h2)) (fun _ q => nomatch q) ?_
  rintro _ _ _ ⟨rfl, rfl, rfl⟩ -
  exact G.ret0 d26_8 [] (fun _ q => nomatch q) ⟨rfl, rfl, rfl⟩
abbrev rmUCA : Room := { frames := 3, cells := 0, slots := 0, locals := 40 }
theorem cUCA (l : Launch) (Z : State) (a0 : Array Value) (hw : hwT a0 Z) {EL : List (String × Nat)} {nw : Bool} (hEL : EW Z a0 EL) (h0 : Heap) (hF : SF Z) (hU : US Z) (b : Addr) (cs : List Int32) (hc : Ch cs) (i : Int32) (j : Nat) (hi : i.toInt = (j : Int)) (c : Int32) (hg : cs[j]? = some c) (B : Al Z h0 b .byte (u2 cs)) : Con l Z EL nw (⟨"java/lang/StringUTF16", "charAt", "([BI)C"⟩ : MethodName) jdk_52_method_83_code 2 (some .char) [] rmUCA #[.ref b, .int i] h0 [] (fun v h S' => v = some (.int c) ∧ h = h0 ∧ S' = []) := by
  have hlt := (List.getElem?_eq_some_iff.mp hg).1
  have r := hc c (List.mem_of_getElem? hg)
  refine Con.enter (a0 := a0) pn_15 hEL [.val (.ref b), .val (.int i)] (fun m => by first | (simp [entryFrame, mkF, argsToLocals, Value.category]; done) | rfl) ?_
  intro K G
  refine G.iloadN d25_0 rfl ?_
  refine G.aloadN d25_1 rfl rfl ?_
  refine G.callS2 d25_2 (hw 121 rfl) (hw 122 rfl) (hw 60 rfl) (hw 123 rfl) pd_11 (cUCI K.l Z a0 hw hEL h0 hF b (u2 cs) cs.length (u2_len cs) i (by omega) (by omega) B) (fun _ q => nomatch q) ?_
  rintro _ _ _ ⟨rfl, rfl, rfl⟩ -
  refine G.aloadN d25_5 rfl rfl ?_
  refine G.iloadN d25_6 rfl ?_
  refine G.callS2 d25_7 (hw 115 rfl) (hw 116 rfl) (hw 60 rfl) (hw 117 rfl) pd_7 (cGC K.l Z a0 hw hEL _ hU b i c j hi r (u2 cs) (u2_get hg).1 (u2_get hg).2 B) (fun _ q => nomatch q) ?_
  rintro _ _ _ ⟨rfl, rfl, rfl⟩ -
  exact G.nret d25_10 (Or.inr (Or.inr (Or.inl rfl))) (z' := c) (nar_char r.1 r.2) [] (fun _ q => nomatch q) ⟨rfl, rfl, rfl⟩
theorem cISL (l : Launch) (Z : State) (a0 : Array Value) (hw : hwT a0 Z) {EL : List (String × Nat)} {nw : Bool} (hEL : EW Z a0 EL) (h0 : Heap) (hC : CS Z) (s vb : Addr) (cd : Int32) (vs : List Value) (A : StrB Z h0 s cd vb vs) : Con l Z EL nw (⟨"java/lang/String", "isLatin1", "()Z"⟩ : MethodName) jdk_42_method_154_code 1 (some .boolean) [] rm0 #[.ref s] h0 [] (fun v h S' => v = some (.int (if cd = 0 then 1 else 0)) ∧ h = h0 ∧ S' = []) := by
  obtain ⟨cc, hC, hcc⟩ := hC
  refine Con.enter (a0 := a0) pn_16 hEL [.val (.ref s)] (fun m => by first | (simp [entryFrame, mkF, argsToLocals, Value.category]; done) | rfl) ?_
  intro K G
  refine G.getS d14_0 (hw 45 rfl) hC ?_
  refine G.if_eq d14_3 (fun q => absurd q hcc) (fun _ => ?_)
  refine G.aloadN d14_6 rfl rfl ?_
  refine G.getF d14_7 (hw 26 rfl) A.2.1 ?_
  refine G.if_ne d14_10 (fun q => ?_) (fun q => ?_)
  · refine G.iconst 0 d14_17 ?_
    exact G.nret d14_18 (Or.inl rfl) (z' := 0) (by decide) [] (fun _ q => nomatch q) ⟨by rw [if_neg q], rfl, rfl⟩
  · refine G.iconst 1 d14_13 ?_
    refine G.goto d14_14 ?_
    exact G.nret d14_18 (Or.inl rfl) (z' := 1) (by decide) [] (fun _ q => nomatch q) ⟨by rw [if_pos q], rfl, rfl⟩
abbrev rmSCA : Room := { frames := 4, cells := 0, slots := 0, locals := 53 }
/-- charAt within the bounds -/
theorem cSCA (l : Launch) (Z : State) (a0 : Array Value) (hw : hwT a0 Z) {EL : List (String × Nat)} {nw : Bool} (hEL : EW Z a0 EL) (h0 : Heap) (hC : CS Z) (hF : SF Z) (hU : US Z) (s : Addr) (cs : List Int32) (i : Int32) (j : Nat) (hi : i.toInt = (j : Int)) (c : Int32) (hg : cs[j]? = some c) (A : Str Z h0 s cs) : Con l Z EL nw (⟨"java/lang/String", "charAt", "(I)C"⟩ : MethodName) jdk_42_method_56_code 2 (some .char) [] rmSCA #[.ref s, .int i] h0 [] (fun v h S' => v = some (.int c) ∧ h = h0 ∧ S' = []) := by
  obtain ⟨hch, vb, ⟨hl, B⟩ | ⟨hl, B⟩⟩ := A
  · refine Con.enter (a0 := a0) pn_17 hEL [.val (.ref s), .val (.int i)] (fun m => by first | (simp [entryFrame, mkF, argsToLocals, Value.category]; done) | rfl) ?_
    intro K G
    refine G.aloadN d13_0 rfl rfl ?_
    refine G.callV0 d13_1 (hw 76 rfl) (hw 77 rfl) (hw 79 rfl) (hw 78 rfl) (hw 80 rfl) (hw 8 rfl) pd_12 B.1 (cISL K.l Z a0 hw hEL h0 hC s vb 0 _ B) (fun _ q => nomatch q) ?_
    rintro _ _ _ ⟨rfl, rfl, rfl⟩ -
    refine G.if_eq d13_4 (fun q => absurd q (by decide)) (fun _ => ?_)
    refine G.aloadN d13_7 rfl rfl ?_
    refine G.getF d13_8 (hw 25 rfl) B.2.2.1 ?_
    refine G.iloadN d13_11 rfl ?_
    refine G.callS2 d13_12 (hw 81 rfl) (hw 82 rfl) (hw 83 rfl) (hw 84 rfl) pd_7 (cLCA K.l Z a0 hw hEL _ hF vb cs hl i j hi c hg B.2.2.2) (fun _ q => nomatch q) ?_
    rintro _ _ _ ⟨rfl, rfl, rfl⟩ -
    have r := hch c (List.mem_of_getElem? hg)
    exact G.nret d13_15 (Or.inr (Or.inr (Or.inl rfl))) (z' := c) (nar_char r.1 r.2) [] (fun _ q => nomatch q) ⟨rfl, rfl, rfl⟩
  · refine Con.enter (a0 := a0) pn_17 hEL [.val (.ref s), .val (.int i)] (fun m => by first | (simp [entryFrame, mkF, argsToLocals, Value.category]; done) | rfl) ?_
    intro K G
    refine G.aloadN d13_0 rfl rfl ?_
    refine G.callV0 d13_1 (hw 76 rfl) (hw 77 rfl) (hw 79 rfl) (hw 78 rfl) (hw 80 rfl) (hw 8 rfl) pd_12 B.1 (cISL K.l Z a0 hw hEL h0 hC s vb 1 _ B) (fun _ q => nomatch q) ?_
    rintro _ _ _ ⟨rfl, rfl, rfl⟩ -
    refine G.if_eq d13_4 (fun _ => ?_) (fun q => absurd (by decide) q)
    refine G.aloadN d13_16 rfl rfl ?_
    refine G.getF d13_17 (hw 25 rfl) B.2.2.1 ?_
    refine G.iloadN d13_20 rfl ?_
    refine G.callS2 d13_21 (hw 118 rfl) (hw 119 rfl) (hw 60 rfl) (hw 120 rfl) pd_7 (cUCA K.l Z a0 hw hEL _ hF hU vb cs hch i j hi c hg B.2.2.2) (fun _ q => nomatch q) ?_
    rintro _ _ _ ⟨rfl, rfl, rfl⟩ -
    have r := hch c (List.mem_of_getElem? hg)
    exact G.nret d13_24 (Or.inr (Or.inr (Or.inl rfl))) (z' := c) (nar_char r.1 r.2) [] (fun _ q => nomatch q) ⟨rfl, rfl, rfl⟩
theorem cCOD (l : Launch) (Z : State) (a0 : Array Value) (hw : hwT a0 Z) {EL : List (String × Nat)} {nw : Bool} (hEL : EW Z a0 EL) (h0 : Heap) (hC : CS Z) (s vb : Addr) (cd : Int32) (hcd : cd = 0 ∨ cd = 1) (vs : List Value) (A : StrB Z h0 s cd vb vs) : Con l Z EL nw (⟨"java/lang/String", "coder", "()B"⟩ : MethodName) jdk_42_method_152_code 1 (some .byte) [] rm0 #[.ref s] h0 [] (fun v h S' => v = some (.int cd) ∧ h = h0 ∧ S' = []) := by
  obtain ⟨cc, hC, hcc⟩ := hC
  refine Con.enter (a0 := a0) pn_18 hEL [.val (.ref s)] (fun m => by first | (simp [entryFrame, mkF, argsToLocals, Value.category]; done) | rfl) ?_
  intro K G
  refine G.getS d7_0 (hw 45 rfl) hC ?_
  refine G.if_eq d7_3 (fun q => absurd q hcc) (fun _ => ?_)
  refine G.aloadN d7_6 rfl rfl ?_
  refine G.getF d7_7 (hw 26 rfl) A.2.1 ?_
  refine G.goto d7_10 ?_
  exact G.nret d7_14 (Or.inr (Or.inl rfl)) (z' := cd) (by rcases hcd with rfl | rfl <;> decide) [] (fun _ q => nomatch q) ⟨rfl, rfl, rfl⟩
abbrev rmLEN : Room := { frames := 1, cells := 0, slots := 0, locals := 13 }
theorem cLEN (l : Launch) (Z : State) (a0 : Array Value) (hw : hwT a0 Z) {EL : List (String × Nat)} {nw : Bool} (hEL : EW Z a0 EL) (h0 : Heap) (hC : CS Z) (s : Addr) (cs : List Int32) (A : Str Z h0 s cs) : Con l Z EL nw (⟨"java/lang/String", "length", "()I"⟩ : MethodName) jdk_42_method_54_code 1 (some .int) [] rmLEN #[.ref s] h0 [] (fun v h S' => (∃ m : Int32, v = some (.int m) ∧ m.toInt = (cs.length : Int)) ∧ h = h0 ∧ S' = []) := by
  obtain ⟨hch, vb, ⟨hl, B⟩ | ⟨hl, B⟩⟩ := A
  · have hk : (Int32.ofNat (cs.map bL).length).toInt = ((cs.map bL).length : Int) := len_toInt B.2.2.2.len
    refine Con.enter (a0 := a0) pn_19 hEL [.val (.ref s)] (fun m => by first | (simp [entryFrame, mkF, argsToLocals, Value.category]; done) | rfl) ?_
    intro K G
    refine G.aloadN d6_0 rfl rfl ?_
    refine G.getF d6_1 (hw 25 rfl) B.2.2.1 ?_
    refine G.alen _ d6_4 B.2.2.2 hk ?_
    refine G.aloadN d6_5 rfl rfl ?_
    refine G.callV0 d6_6 (hw 40 rfl) (hw 41 rfl) (hw 43 rfl) (hw 42 rfl) (hw 44 rfl) (hw 8 rfl) pd_13 B.1 (cCOD K.l Z a0 hw hEL h0 hC s vb 0 (Or.inl rfl) _ B) (fun _ q => nomatch q) ?_
    rintro _ _ _ ⟨rfl, rfl, rfl⟩ -
    refine G.ishr d6_9 ?_
    exact G.iret d6_10 [] (fun _ q => nomatch q) ⟨⟨_, rfl, by rw [shr0, hk]; simp⟩, rfl, rfl⟩
  · have hk : (Int32.ofNat (u2 cs).length).toInt = ((u2 cs).length : Int) := len_toInt B.2.2.2.len
    refine Con.enter (a0 := a0) pn_19 hEL [.val (.ref s)] (fun m => by first | (simp [entryFrame, mkF, argsToLocals, Value.category]; done) | rfl) ?_
    intro K G
    refine G.aloadN d6_0 rfl rfl ?_
    refine G.getF d6_1 (hw 25 rfl) B.2.2.1 ?_
    refine G.alen _ d6_4 B.2.2.2 hk ?_
    refine G.aloadN d6_5 rfl rfl ?_
    refine G.callV0 d6_6 (hw 40 rfl) (hw 41 rfl) (hw 43 rfl) (hw 42 rfl) (hw 44 rfl) (hw 8 rfl) pd_13 B.1 (cCOD K.l Z a0 hw hEL h0 hC s vb 1 (Or.inr rfl) _ B) (fun _ q => nomatch q) ?_
    rintro _ _ _ ⟨rfl, rfl, rfl⟩ -
    refine G.ishr d6_9 ?_
    exact G.iret d6_10 [] (fun _ q => nomatch q) ⟨⟨_, rfl, shr1 (by rw [hk, u2_len])⟩, rfl, rfl⟩
abbrev SBN : String := "java/lang/StringBuilder"
abbrev ABN : String := "java/lang/AbstractStringBuilder"
/-- a StringBuilder -/
def Sb (Z : State) (h : Heap) (a : Addr) (cd n : Int32) (vb : Addr) (vs : List Value) : Prop := Exa Z h a "java/lang/StringBuilder" ∧ Fld Z h a "java/lang/AbstractStringBuilder" "coder" "B" (.int cd) ∧ Fld Z h a "java/lang/AbstractStringBuilder" "value" "[B" (.ref vb) ∧ Fld Z h a "java/lang/AbstractStringBuilder" "count" "I" (.int n) ∧ Al Z h vb .byte vs
theorem Sb.ext {Z : State} {h h' : Heap} {a vb : Addr} {cd n : Int32} {vs : List Value} (F : Sb Z h a cd n vb vs) (E : Ext h h') : Sb Z h' a cd n vb vs := ⟨F.1.ext E, F.2.1.ext E, F.2.2.1.ext E, F.2.2.2.1.ext E, F.2.2.2.2.ext E⟩
theorem cGVL (l : Launch) (Z : State) (a0 : Array Value) (hw : hwT a0 Z) {EL : List (String × Nat)} {nw : Bool} (hEL : EW Z a0 EL) (h0 : Heap) (a vb : Addr) (cd n : Int32) (vs : List Value) (B : Sb Z h0 a cd n vb vs) : Con l Z EL nw (⟨"java/lang/AbstractStringBuilder", "getValue", "()[B"⟩ : MethodName) jdk_68_method_64_code 1 (some (.array .byte)) [] rm0 #[.ref a] h0 [] (fun v h S' => v = some (.ref vb) ∧ h = h0 ∧ S' = []) := by
  refine Con.enter (a0 := a0) pn_20 hEL [.val (.ref a)] (fun m => by first | (simp [entryFrame, mkF, argsToLocals, Value.category]; done) | rfl) ?_
  intro K G
  refine G.aloadN d40_0 rfl rfl ?_
  refine G.getF d40_1 (hw 142 rfl) B.2.2.1 ?_
  exact G.aret d40_4 [] (fun _ q => nomatch q) ⟨rfl, rfl, rfl⟩
theorem cABL (l : Launch) (Z : State) (a0 : Array Value) (hw : hwT a0 Z) {EL : List (String × Nat)} {nw : Bool} (hEL : EW Z a0 EL) (h0 : Heap) (a vb : Addr) (cd n : Int32) (vs : List Value) (B : Sb Z h0 a cd n vb vs) : Con l Z EL nw (⟨"java/lang/AbstractStringBuilder", "length", "()I"⟩ : MethodName) jdk_68_method_6_code 1 (some .int) [] rm0 #[.ref a] h0 [] (fun v h S' => v = some (.int n) ∧ h = h0 ∧ S' = []) := by
  refine Con.enter (a0 := a0) pn_21 hEL [.val (.ref a)] (fun m => by first | (simp [entryFrame, mkF, argsToLocals, Value.category]; done) | rfl) ?_
  intro K G
  refine G.aloadN d42_0 rfl rfl ?_
  refine G.getF d42_1 (hw 164 rfl) B.2.2.2.1 ?_
  exact G.iret d42_4 [] (fun _ q => nomatch q) ⟨rfl, rfl, rfl⟩
abbrev rmSBL : Room := { frames := 1, cells := 0, slots := 0, locals := 12 }
theorem cSBL (l : Launch) (Z : State) (a0 : Array Value) (hw : hwT a0 Z) {EL : List (String × Nat)} {nw : Bool} (hEL : EW Z a0 EL) (h0 : Heap) (a vb : Addr) (cd n : Int32) (vs : List Value) (B : Sb Z h0 a cd n vb vs) : Con l Z EL nw (⟨"java/lang/StringBuilder", "length", "()I"⟩ : MethodName) jdk_67_method_93_code 1 (some .int) [] rmSBL #[.ref a] h0 [] (fun v h S' => v = some (.int n) ∧ h = h0 ∧ S' = []) := by
  refine Con.enter (a0 := a0) pn_22 hEL [.val (.ref a)] (fun m => by first | (simp [entryFrame, mkF, argsToLocals, Value.category]; done) | rfl) ?_
  intro K G
  refine G.aloadN d41_0 rfl rfl ?_
  refine G.callU0 d41_1 (hw 202 rfl) (Nf.same (y := (⟨"java/lang/AbstractStringBuilder", "length", "()I"⟩ : MethodName)) (Nf.sel (hw 169 rfl)) (hw 167 rfl) rfl) (hw 198 rfl) (hw 161 rfl) (hw 203 rfl) (hw 138 rfl) pd_14 B.1 (cABL K.l Z a0 hw hEL h0 a vb cd n vs B) (fun _ q => nomatch q) ?_
  rintro _ h0 _ ⟨rfl, rfl, rfl⟩ -
  exact G.iret d41_4 [] (fun _ q => nomatch q) ⟨rfl, rfl, rfl⟩
theorem cABIL (l : Launch) (Z : State) (a0 : Array Value) (hw : hwT a0 Z) {EL : List (String × Nat)} {nw : Bool} (hEL : EW Z a0 EL) (h0 : Heap) (hC : CS Z) (a vb : Addr) (cd n : Int32) (vs : List Value) (B : Sb Z h0 a cd n vb vs) : Con l Z EL nw (⟨"java/lang/AbstractStringBuilder", "isLatin1", "()Z"⟩ : MethodName) jdk_68_method_68_code 1 (some .boolean) [] rm0 #[.ref a] h0 [] (fun v h S' => v = some (.int (if cd = 0 then 1 else 0)) ∧ h = h0 ∧ S' = []) := by
  obtain ⟨cc, hC, hcc⟩ := hC
  refine Con.enter (a0 := a0) pn_23 hEL [.val (.ref a)] (fun m => by first | (simp [entryFrame, mkF, argsToLocals, Value.category]; done) | rfl) ?_
  intro K G
  refine G.getS d35_0 (hw 141 rfl) hC ?_
  refine G.if_eq d35_3 (fun q => absurd q hcc) (fun _ => ?_)
  refine G.aloadN d35_6 rfl rfl ?_
  refine G.getF d35_7 (hw 144 rfl) B.2.1 ?_
  refine G.if_ne d35_10 (fun q => ?_) (fun q => ?_)
  · refine G.iconst 0 d35_17 ?_
    exact G.nret d35_18 (Or.inl rfl) (z' := 0) (by decide) [] (fun _ q => nomatch q) ⟨by rw [if_neg q], rfl, rfl⟩
  · refine G.iconst 1 d35_13 ?_
    refine G.goto d35_14 ?_
    exact G.nret d35_18 (Or.inl rfl) (z' := 1) (by decide) [] (fun _ q => nomatch q) ⟨by rw [if_pos q], rfl, rfl⟩
theorem cCE (l : Launch) (Z : State) (a0 : Array Value) (hw : hwT a0 Z) {EL : List (String × Nat)} {nw : Bool} (hEL : EW Z a0 EL) (h0 : Heap) (c : Int32) (hc : 0 ≤ c.toInt) : Con l Z EL nw (⟨"java/lang/StringLatin1", "canEncode", "(C)Z"⟩ : MethodName) jdk_43_method_3_code 1 (some .boolean) [] rm0 #[.int c] h0 [] (fun v h S' => v = some (.int (if c.toInt < 256 then 1 else 0)) ∧ h = h0 ∧ S' = []) := by
  refine Con.enter (a0 := a0) pn_24 hEL [.val (.int c)] (fun m => by first | (simp [entryFrame, mkF, argsToLocals, Value.category]; done) | rfl) ?_
  intro K G
  have e : (255 : Int32).toInt = 255 := by decide
  refine G.iloadN d36_0 rfl ?_
  refine G.sipush 255 d36_1 ?_
  refine G.icmp_gt d36_4 (fun q => ?_) (fun q => ?_)
  · rw [Int32.lt_iff_toInt_lt, e] at q
    refine G.iconst 0 d36_11 ?_
    exact G.nret d36_12 (Or.inl rfl) (z' := 0) (by decide) [] (fun _ q => nomatch q) ⟨by rw [if_neg (by omega)], rfl, rfl⟩
  · rw [Int32.lt_iff_toInt_lt, e] at q
    refine G.iconst 1 d36_7 ?_
    refine G.goto d36_8 ?_
    exact G.nret d36_12 (Or.inl rfl) (z' := 1) (by decide) [] (fun _ q => nomatch q) ⟨by rw [if_pos (by omega)], rfl, rfl⟩
def Sbx (Z : State) (h : Heap) (a : Addr) (n : Int32) (vb : Addr) (vs : List Value) : Prop := Sb Z h a 0 n vb vs ∧ Exa Z h vb "[B"
abbrev rmASBIn : Room := { frames := 1, cells := 1, slots := 8, locals := 12 }
theorem cASBIn (l : Launch) (Z : State) (a0 : Array Value) (hw : hwT a0 Z) {EL : List (String × Nat)} {nw : Bool} (hEL : EW Z a0 EL) (h0 : Heap) (hC : CS Z) (a : Addr) (n : Int32) (i : Nat) (hn : n.toInt = (i : Int)) (hi : i ≤ 8) (E : Exa Z h0 a SBN) (D : ∀ {O fn d : String} {ty : FieldType}, Laid Z a0 SBN O fn d → parseFieldDescriptor d = some ty → Fld Z h0 a O fn d (defaultValue ty)) :
    Con l Z EL nw (⟨"java/lang/AbstractStringBuilder", "<init>", "(I)V"⟩ : MethodName) jdk_68_method_2_code 2 (none) [] rmASBIn #[.ref a, .int n] h0 [a] (fun v h S' => v = none ∧ (∃ vb, h0.size ≤ vb ∧ S' = [vb] ∧ Sbx Z h a 0 vb (List.replicate i (.int 0))) ∧ Keep h0 h [a]) := by
  obtain ⟨cc, hC, hcc⟩ := hC
  refine Con.enter (a0 := a0) pn_25 hEL [.val (.ref a), .val (.int n)] (fun m => by first | (simp [entryFrame, mkF, argsToLocals, Value.category]; done) | rfl) ?_
  intro K G
  have F1 := D (Or.inl (hw 145 rfl)) (ty := .byte) (by decide)
  have F2 := D (Or.inl (hw 143 rfl)) (ty := .array .byte) (by decide)
  have F3 := D (Or.inl (hw 165 rfl)) (ty := .int) (by decide)
  refine G.aloadN d29_0 rfl rfl ?_
  refine G.initO d29_1 (hw 140 rfl) (hw 17 rfl) (hw 18 rfl) ?_
  refine G.getS d29_4 (hw 141 rfl) hC ?_
  refine G.if_eq d29_7 (fun q => absurd q hcc) (fun _ => ?_)
  refine G.aloadN d29_10 rfl rfl ?_
  refine G.iloadN d29_11 rfl ?_
  refine G.newAE (ad := "[B") i 8 d29_12 (hw 20 rfl) (by first | rfl | decide) hn hi (fun h1 E1 L1 A1 => ?_)
  have hne : h0.size ≠ a := fun q => absurd E.lt (by rw [← q]; exact Nat.lt_irrefl _)
  refine G.putF d29_14 (hw 142 rfl) (F2.ext E1) (E.ext E1) (by simp) (Or.inl (hw 143 rfl)) (hw 129 rfl) (ty := (.array .byte)) (by decide) rfl rfl (fun h2 W2 F2 E => ?_)
  have F1' := Fld.oth (F1.ext E1) W2 (Or.inl (hw 145 rfl)) (Or.inl (hw 143 rfl)) (by decide) (by decide) (by decide)
  have F3' := Fld.oth (F3.ext E1) W2 (Or.inl (hw 165 rfl)) (Or.inl (hw 143 rfl)) (by decide) (by decide) (by decide)
  refine G.aloadN d29_17 rfl rfl ?_
  refine G.iconst 0 d29_18 ?_
  refine G.putF d29_19 (hw 144 rfl) F1' E (by simp) (Or.inl (hw 145 rfl)) (hw 129 rfl) (ty := .byte) (by decide) rfl rfl (fun h3 W3 F1 E => ?_)
  have F2' := Fld.oth F2 W3 (Or.inl (hw 143 rfl)) (Or.inl (hw 145 rfl)) (by decide) (by decide) (by decide)
  have F3'' := Fld.oth F3' W3 (Or.inl (hw 165 rfl)) (Or.inl (hw 145 rfl)) (by decide) (by decide) (by decide)
  refine G.goto d29_22 ?_
  refine G.ret0 d29_38 [h0.size] (by simp) ⟨rfl, ⟨_, Nat.le_refl _, rfl, ⟨E, F1, F2', F3'', (A1.1.other W2 hne).other W3 hne⟩, (A1.2.wr W2).wr W3⟩, ?_⟩
  exact (((ext_keep E1 [a]).wr W2 (Or.inl (List.mem_singleton.mpr rfl))).wr W3 (Or.inl (List.mem_singleton.mpr rfl)))
abbrev rmSBIn : Room := { frames := 2, cells := 1, slots := 8, locals := 25 }
theorem cSBIn (l : Launch) (Z : State) (a0 : Array Value) (hw : hwT a0 Z) {EL : List (String × Nat)} {nw : Bool} (hEL : EW Z a0 EL) (h0 : Heap) (hC : CS Z) (a : Addr) (n : Int32) (i : Nat) (hn : n.toInt = (i : Int)) (hi : i ≤ 8) (E : Exa Z h0 a SBN) (D : ∀ {O fn d : String} {ty : FieldType}, Laid Z a0 SBN O fn d → parseFieldDescriptor d = some ty → Fld Z h0 a O fn d (defaultValue ty)) :
    Con l Z EL nw (⟨"java/lang/StringBuilder", "<init>", "(I)V"⟩ : MethodName) jdk_67_method_2_code 2 (none) [] rmSBIn #[.ref a, .int n] h0 [a] (fun v h S' => v = none ∧ (∃ vb, h0.size ≤ vb ∧ S' = [vb] ∧ Sbx Z h a 0 vb (List.replicate i (.int 0))) ∧ Keep h0 h [a]) := by
  refine Con.enter (a0 := a0) pn_26 hEL [.val (.ref a), .val (.int n)] (fun m => by first | (simp [entryFrame, mkF, argsToLocals, Value.category]; done) | rfl) ?_
  intro K G
  refine G.aloadN d28_0 rfl rfl ?_
  refine G.iloadN d28_1 rfl ?_
  refine G.callI1 d28_2 (hw 134 rfl) (hw 135 rfl) (hw 138 rfl) (hw 139 rfl) pd_15 (cASBIn K.l Z a0 hw hEL h0 hC a n i hn hi E D) (fun _ q => q) ?_
  rintro _ h2 _ ⟨rfl, ⟨vb, hvb, rfl, B2⟩, K2⟩ -
  exact G.ret0 d28_5 [vb] (by simp) ⟨rfl, ⟨vb, hvb, rfl, B2⟩, K2⟩
theorem cENSn (l : Launch) (Z : State) (a0 : Array Value) (hw : hwT a0 Z) {EL : List (String × Nat)} {nw : Bool} (hEL : EW Z a0 EL) (h0 : Heap) (a vb : Addr) (n m : Int32) (vs : List Value) (hm : 0 ≤ m.toInt ∧ m.toInt ≤ (vs.length : Int)) (B : Sb Z h0 a 0 n vb vs) : Con l Z EL nw (⟨"java/lang/AbstractStringBuilder", "ensureCapacityInternal", "(I)V"⟩ : MethodName) jdk_68_method_9_code 3 (none) [] rm0 #[.ref a, .int m] h0 [] (fun v h S' => v = none ∧ h = h0 ∧ S' = []) := by
  refine Con.enter (a0 := a0) pn_27 hEL [.val (.ref a), .val (.int m), .unset] (fun m => by first | (simp [entryFrame, mkF, argsToLocals, Value.category]; done) | rfl) ?_
  intro K G
  have hl : (Int32.ofNat vs.length).toInt = (vs.length : Int) := len_toInt B.2.2.2.2.len
  refine G.aloadN d34_0 rfl rfl ?_
  refine G.getF d34_1 (hw 142 rfl) B.2.2.1 ?_
  refine G.alen (Int32.ofNat vs.length) d34_4 B.2.2.2.2 hl ?_
  refine G.aloadN d34_5 rfl rfl ?_
  refine G.getF d34_6 (hw 144 rfl) B.2.1 ?_
  refine G.ishr d34_9 ?_
  refine G.istore2 d34_10 ?_
  refine G.iloadN d34_11 rfl ?_
  refine G.iloadN d34_12 rfl ?_
  refine G.isub d34_13 ?_
  refine G.if_le d34_14 (fun _ => ?_) (fun q => absurd q (not_lt_of_toInt (by
    have a0' := shr0' (Int32.ofNat vs.length)
    have a1 := c_isub m (Int32.ofNat vs.length >>> ((0 : Int32) &&& 31))
    have a2 := rng32 (m - (Int32.ofNat vs.length >>> ((0 : Int32) &&& 31)))
    have a3 := rng32 (Int32.ofNat vs.length)
    rw [toInt_0]
    omega)))
  exact G.ret0 d34_38 [] (fun _ q => nomatch q) ⟨rfl, rfl, rfl⟩
abbrev rmABAC : Room := { frames := 1, cells := 0, slots := 0, locals := 14 }
/-- append(char), a char below 256, to a Latin-1 builder with room -/
theorem cABAC (l : Launch) (Z : State) (a0 : Array Value) (hw : hwT a0 Z) {EL : List (String × Nat)} {nw : Bool} (hEL : EW Z a0 EL) (h0 : Heap) (hC : CS Z) (a vb : Addr) (n c : Int32) (hc : C8 c) (A : List Value) (y : Value) (R : List Value) (hi : n.toInt = (A.length : Int)) (hs : A.length < 1000000) (B : Sbx Z h0 a n vb (A ++ y :: R)) :
    Con l Z EL nw (⟨"java/lang/AbstractStringBuilder", "append", "(C)Ljava/lang/AbstractStringBuilder;"⟩ : MethodName) jdk_68_method_31_code 2 (some (.object "java/lang/AbstractStringBuilder")) [] rmABAC #[.ref a, .int c] h0 [vb, a] (fun v h S' => v = some (.ref a) ∧ (∃ m : Int32, m.toInt = ((A.length + 1 : Nat) : Int) ∧ Sbx Z h a m vb (A ++ bL c :: R)) ∧ Keep h0 h [vb, a] ∧ S' = []) := by
  obtain ⟨B, X⟩ := B
  have hne : a ≠ vb := B.2.2.2.2.neExa B.1 (hw 129 rfl)
  have hn1 := inc_toInt hi (by omega)
  refine Con.enter (a0 := a0) pn_28 hEL [.val (.ref a), .val (.int c)] (fun m => by first | (simp [entryFrame, mkF, argsToLocals, Value.category]; done) | rfl) ?_
  intro K G
  refine G.aloadN d33_0 rfl rfl ?_
  refine G.aloadN d33_1 rfl rfl ?_
  refine G.getF d33_2 (hw 164 rfl) B.2.2.2.1 ?_
  refine G.iconst 1 d33_5 ?_
  refine G.iadd d33_6 ?_
  refine G.callP1 d33_7 (hw 166 rfl) (hw 167 rfl) (hw 168 rfl) (hw 170 rfl) (hw 138 rfl) (Nf.same (y := (⟨"java/lang/AbstractStringBuilder", "ensureCapacityInternal", "(I)V"⟩ : MethodName)) (Nf.sel (hw 169 rfl)) (hw 167 rfl) rfl) pd_15 B.1 (cENSn K.l Z a0 hw hEL h0 a vb n (n + 1) _ (by rw [hn1]; simp; omega) B) (fun _ q => nomatch q) ?_
  rintro _ h0 _ ⟨rfl, rfl, rfl⟩ -
  refine G.aloadN d33_10 rfl rfl ?_
  refine G.callV0 d33_11 (hw 171 rfl) (hw 172 rfl) (hw 174 rfl) (hw 173 rfl) (hw 175 rfl) (hw 138 rfl) pd_12 B.1 (cABIL K.l Z a0 hw hEL h0 hC a vb 0 n _ B) (fun _ q => nomatch q) ?_
  rintro _ h0 _ ⟨rfl, rfl, rfl⟩ -
  refine G.if_eq d33_14 (fun q => absurd q (by decide)) (fun _ => ?_)
  refine G.iloadN d33_17 rfl ?_
  refine G.callS1 d33_18 (hw 176 rfl) (hw 177 rfl) (hw 83 rfl) (hw 178 rfl) pd_16 (cCE K.l Z a0 hw hEL h0 c hc.1) (fun _ q => nomatch q) ?_
  rintro _ h0 _ ⟨rfl, rfl, rfl⟩ -
  rw [if_pos hc.2]
  refine G.if_eq d33_21 (fun q => absurd q (by decide)) (fun _ => ?_)
  refine G.aloadN d33_24 rfl rfl ?_
  refine G.getF d33_25 (hw 142 rfl) B.2.2.1 ?_
  refine G.aloadN d33_28 rfl rfl ?_
  refine G.dup d33_29 ?_
  refine G.getF d33_30 (hw 164 rfl) B.2.2.2.1 ?_
  refine G.dupX1 d33_33 ?_
  refine G.iconst 1 d33_34 ?_
  refine G.iadd d33_35 ?_
  refine G.putF d33_36 (hw 164 rfl) B.2.2.2.1 B.1 (by simp) (Or.inl (hw 165 rfl)) (hw 129 rfl) (ty := .int) (by decide) rfl rfl (fun h1 W1 F3 E1 => ?_)
  have F1 := Fld.oth B.2.1 W1 (Or.inl (hw 145 rfl)) (Or.inl (hw 165 rfl)) (by decide) (by decide) (by decide)
  have F2 := Fld.oth B.2.2.1 W1 (Or.inl (hw 143 rfl)) (Or.inl (hw 165 rfl)) (by decide) (by decide) (by decide)
  refine G.iloadN d33_39 rfl ?_
  refine G.i2b d33_40 ?_
  refine G.bastore d33_41 (by simp) (B.2.2.2.2.other W1 (Ne.symm hne)) hi (by simp) (fun h2 W2 A2 => ?_)
  rw [nar8, set_mid] at A2
  refine G.goto d33_42 ?_
  refine G.aloadN d33_75 rfl rfl ?_
  refine G.aret d33_76 [] (fun _ q => nomatch q) ⟨rfl, ⟨_, hn1, ⟨E1.wr W2, F1.other W2 (Or.inl hne), F2.other W2 (Or.inl hne), F3.other W2 (Or.inl hne), A2⟩, (X.wr W1).wr W2⟩, ?_, rfl⟩
  exact ((Keep.refl _ _).wr W1 (Or.inl (by simp))).wr W2 (Or.inl (by simp))
abbrev rmSBAC : Room := { frames := 2, cells := 0, slots := 0, locals := 27 }
theorem cSBAC (l : Launch) (Z : State) (a0 : Array Value) (hw : hwT a0 Z) {EL : List (String × Nat)} {nw : Bool} (hEL : EW Z a0 EL) (h0 : Heap) (hC : CS Z) (a vb : Addr) (n c : Int32) (hc : C8 c) (A : List Value) (y : Value) (R : List Value) (hi : n.toInt = (A.length : Int)) (hs : A.length < 1000000) (B : Sbx Z h0 a n vb (A ++ y :: R)) :
    Con l Z EL nw (⟨"java/lang/StringBuilder", "append", "(C)Ljava/lang/StringBuilder;"⟩ : MethodName) jdk_67_method_14_code 2 (some (.object "java/lang/StringBuilder")) [] rmSBAC #[.ref a, .int c] h0 [vb, a] (fun v h S' => v = some (.ref a) ∧ (∃ m : Int32, m.toInt = ((A.length + 1 : Nat) : Int) ∧ Sbx Z h a m vb (A ++ bL c :: R)) ∧ Keep h0 h [vb, a] ∧ S' = []) := by
  refine Con.enter (a0 := a0) pn_29 hEL [.val (.ref a), .val (.int c)] (fun m => by first | (simp [entryFrame, mkF, argsToLocals, Value.category]; done) | rfl) ?_
  intro K G
  refine G.aloadN d32_0 rfl rfl ?_
  refine G.iloadN d32_1 rfl ?_
  refine G.callU1 d32_2 (hw 159 rfl) (Nf.same (y := (⟨"java/lang/AbstractStringBuilder", "append", "(C)Ljava/lang/AbstractStringBuilder;"⟩ : MethodName)) (Nf.sel (hw 169 rfl)) (hw 167 rfl) rfl) (hw 160 rfl) (hw 161 rfl) (hw 163 rfl) (hw 138 rfl) pd_17 B.1.1 (cABAC K.l Z a0 hw hEL h0 hC a vb n c hc A y R hi hs B) (fun _ q => q) ?_
  rintro _ h1 _ ⟨rfl, B1, K1, rfl⟩ -
  refine G.pop d32_5 ?_
  refine G.aloadN d32_6 rfl rfl ?_
  exact G.aret d32_7 [] (fun _ q => nomatch q) ⟨rfl, B1, K1, rfl⟩
abbrev rmCORc : Room := { frames := 1, cells := 1, slots := 8, locals := 14 }
theorem cCORc (l : Launch) (Z : State) (a0 : Array Value) (hw : hwT a0 Z) {EL : List (String × Nat)} {nw : Bool} (hEL : EW Z a0 EL) (h0 : Heap) (b : Addr) (vs : List Value) (n : Int32) (hn : n.toInt = (vs.length : Int)) (h8 : vs.length ≤ 8) (B : Al Z h0 b .byte vs) (X : Exa Z h0 b "[B") :
    Con l Z EL nw (⟨"java/util/Arrays", "copyOfRange", "([BII)[B"⟩ : MethodName) jdk_65_method_132_code 3 (some (.array .byte)) [] rmCORc #[.ref b, .int 0, .int n] h0 [] (fun v h S' => (∃ c, v = some (.ref c) ∧ h0.size ≤ c ∧ Al Z h c .byte vs) ∧ Ext h0 h ∧ S' = []) := by
  refine Con.enter (a0 := a0) pn_30 hEL [.val (.ref b), .val (.int 0), .val (.int n)] (fun m => by first | (simp [entryFrame, mkF, argsToLocals, Value.category]; done) | rfl) ?_
  intro K G
  refine G.iloadN d43_0 rfl ?_
  refine G.if_ne d43_1 (fun q => absurd rfl q) (fun _ => ?_)
  refine G.iloadN d43_4 rfl ?_
  refine G.aloadN d43_5 rfl rfl ?_
  refine G.alen n d43_6 B hn ?_
  refine G.icmp_eq d43_7 (fun _ => ?_) (fun q => absurd rfl q)
  refine G.aloadN d43_17 rfl rfl ?_
  refine G.aclone 8 d43_18 (hw 209 rfl) (hw 210 rfl) (hw 214 rfl) (hw 212 rfl) (hw 213 rfl) (hw 215 rfl) B X h8 (fun h1 E1 L1 A1 => ?_)
  refine G.castR d43_21 (hw 216 rfl) (Ins.self A1.2) ?_
  exact G.aret d43_24 [] (fun _ q => nomatch q) ⟨⟨_, rfl, Nat.le_refl _, A1.1⟩, E1, rfl⟩
abbrev rmSIABc : Room := { frames := 2, cells := 1, slots := 8, locals := 29 }
theorem cSIABc (l : Launch) (Z : State) (a0 : Array Value) (hw : hwT a0 Z) {EL : List (String × Nat)} {nw : Bool} (hEL : EW Z a0 EL) (h0 : Heap) (hC : CS Z) (t a vb : Addr) (n : Int32) (vs : List Value) (hn : n.toInt = (vs.length : Int)) (h8 : vs.length ≤ 8) (E : Exa Z h0 t SN) (D : ∀ {O fn d : String} {ty : FieldType}, Laid Z a0 SN O fn d → parseFieldDescriptor d = some ty → Fld Z h0 t O fn d (defaultValue ty)) (B : Sbx Z h0 a n vb vs) :
    Con l Z EL nw (⟨"java/lang/String", "<init>", "(Ljava/lang/AbstractStringBuilder;Ljava/lang/Void;)V"⟩ : MethodName) jdk_42_method_150_code 5 (none) [] rmSIABc #[.ref t, .ref a, .null] h0 [t] (fun v h S' => v = none ∧ (∃ c, StrB Z h t 0 c vs) ∧ Keep h0 h [t] ∧ S' = []) := by
  obtain ⟨B, X⟩ := B
  have hne : t ≠ vb := B.2.2.2.2.neExa E (hw 7 rfl)
  refine Con.enter (a0 := a0) pn_31 hEL [.val (.ref t), .val (.ref a), .val (.null), .unset, .unset] (fun m => by first | (simp [entryFrame, mkF, argsToLocals, Value.category]; done) | rfl) ?_
  intro K G
  have F1 := D (Or.inr (hw 22 rfl)) (ty := .byte) (by decide)
  have F2 := D (Or.inr (hw 21 rfl)) (ty := .array .byte) (by decide)
  clear D
  refine G.aloadN d39_0 rfl rfl ?_
  refine G.initO d39_1 (hw 16 rfl) (hw 17 rfl) (hw 18 rfl) ?_
  refine G.aloadN d39_4 rfl rfl ?_
  refine G.callV0 d39_5 (hw 191 rfl) (hw 192 rfl) (hw 194 rfl) (hw 193 rfl) (hw 195 rfl) (hw 138 rfl) pd_18 B.1 (cGVL K.l Z a0 hw hEL h0 a vb 0 n vs B) (fun _ q => nomatch q) ?_
  rintro _ h0 _ ⟨rfl, rfl, rfl⟩ -
  refine G.astore3 d39_8 ?_
  refine G.aloadN d39_9 rfl rfl ?_
  refine G.callW0 (Nf.same (y := (⟨"java/lang/AbstractStringBuilder", "length", "()I"⟩ : MethodName)) (Nf.sel (hw 169 rfl)) (hw 167 rfl) rfl) d39_10 (hw 196 rfl) (hw 197 rfl) (hw 199 rfl) (hw 200 rfl) (hw 201 rfl) (hw 130 rfl) pd_14 B.1 (cSBL K.l Z a0 hw hEL h0 a vb 0 n vs B) (fun _ q => nomatch q) ?_
  rintro _ h0 _ ⟨rfl, rfl, rfl⟩ -
  refine G.istore4 d39_13 ?_
  refine G.aloadN d39_15 rfl rfl ?_
  refine G.callV0 d39_16 (hw 204 rfl) (hw 172 rfl) (hw 174 rfl) (hw 173 rfl) (hw 175 rfl) (hw 138 rfl) pd_12 B.1 (cABIL K.l Z a0 hw hEL h0 hC a vb 0 n vs B) (fun _ q => nomatch q) ?_
  rintro _ h0 _ ⟨rfl, rfl, rfl⟩ -
  refine G.if_eq d39_19 (fun q => absurd q (by decide)) (fun _ => ?_)
  refine G.aloadN d39_22 rfl rfl ?_
  refine G.iconst 0 d39_23 ?_
  refine G.putF d39_24 (hw 26 rfl) F1 E (by simp) (Or.inr ⟨(hw 22 rfl), rfl, rfl⟩) (hw 7 rfl) (ty := .byte) (by decide) rfl rfl (fun h1 W1 F1 E => ?_)
  have F2' := Fld.oth F2 W1 (Or.inr (hw 21 rfl)) (Or.inr (hw 22 rfl)) (by decide) (by decide) (by decide)
  refine G.aloadN d39_27 rfl rfl ?_
  refine G.aloadN d39_28 rfl rfl ?_
  refine G.iconst 0 d39_29 ?_
  refine G.iload d39_30 rfl ?_
  refine G.callS3 d39_32 (hw 205 rfl) (hw 206 rfl) (hw 207 rfl) (hw 208 rfl) pd_19 (cCORc K.l Z a0 hw hEL h1 vb vs n hn h8 (B.2.2.2.2.other W1 (Ne.symm hne)) (X.wr W1)) (fun _ q => nomatch q) ?_
  rintro _ h2 _ ⟨⟨c, rfl, hc, B2⟩, E2, rfl⟩ -
  have hct : c ≠ t := fun q => Nat.lt_irrefl _ (Nat.lt_of_lt_of_le E.lt (q ▸ hc))
  refine G.putF d39_35 (hw 25 rfl) (F2'.ext E2) (E.ext E2) (by simp) (Or.inr ⟨(hw 21 rfl), rfl, rfl⟩) (hw 7 rfl) (ty := (.array .byte)) (by decide) rfl rfl (fun h3 W3 F2 E => ?_)
  have F1' := Fld.oth (F1.ext E2) W3 (Or.inr (hw 22 rfl)) (Or.inr (hw 21 rfl)) (by decide) (by decide) (by decide)
  refine G.goto d39_38 ?_
  refine G.ret0 d39_97 [] (fun _ q => nomatch q) ⟨rfl, ⟨c, E, F1', F2, B2.other W3 hct⟩, ?_, rfl⟩
  exact ((((Keep.refl _ [t]).wr W1 (Or.inl (List.mem_singleton.mpr rfl))).ext E2).wr W3 (Or.inl (List.mem_singleton.mpr rfl)))
abbrev rmSISBc : Room := { frames := 3, cells := 1, slots := 8, locals := 45 }
theorem cSISBc (l : Launch) (Z : State) (a0 : Array Value) (hw : hwT a0 Z) {EL : List (String × Nat)} {nw : Bool} (hEL : EW Z a0 EL) (h0 : Heap) (hC : CS Z) (t a vb : Addr) (n : Int32) (vs : List Value) (hn : n.toInt = (vs.length : Int)) (h8 : vs.length ≤ 8) (E : Exa Z h0 t SN) (D : ∀ {O fn d : String} {ty : FieldType}, Laid Z a0 SN O fn d → parseFieldDescriptor d = some ty → Fld Z h0 t O fn d (defaultValue ty)) (B : Sbx Z h0 a n vb vs) :
    Con l Z EL nw (⟨"java/lang/String", "<init>", "(Ljava/lang/StringBuilder;)V"⟩ : MethodName) jdk_42_method_53_code 2 (none) [] rmSISBc #[.ref t, .ref a] h0 [t] (fun v h S' => v = none ∧ (∃ c, StrB Z h t 0 c vs) ∧ Keep h0 h [t] ∧ S' = []) := by
  refine Con.enter (a0 := a0) pn_32 hEL [.val (.ref t), .val (.ref a)] (fun m => by first | (simp [entryFrame, mkF, argsToLocals, Value.category]; done) | rfl) ?_
  intro K G
  refine G.aloadN d38_0 rfl rfl ?_
  refine G.aloadN d38_1 rfl rfl ?_
  refine G.aconstNull d38_2 ?_
  refine G.callI2 d38_3 (hw 188 rfl) (hw 189 rfl) (hw 8 rfl) (hw 190 rfl) pd_20 (cSIABc K.l Z a0 hw hEL h0 hC t a vb n vs hn h8 E D B) (fun _ q => q) ?_
  rintro _ h1 _ ⟨rfl, B1, K1, rfl⟩ -
  exact G.ret0 d38_6 [] (fun _ q => nomatch q) ⟨rfl, B1, K1, rfl⟩
abbrev rmTOSc : Room := { frames := 4, cells := 2, slots := 12, locals := 59 }
theorem cTOSc (l : Launch) (Z : State) (a0 : Array Value) (hw : hwT a0 Z) {EL : List (String × Nat)} {nw : Bool} (hEL : EW Z a0 EL) (h0 : Heap) (hC : CS Z) (a vb : Addr) (n : Int32) (vs : List Value) (hn : n.toInt = (vs.length : Int)) (h8 : vs.length ≤ 8) (B : Sbx Z h0 a n vb vs) :
    Con l Z EL nw (⟨"java/lang/StringBuilder", "toString", "()Ljava/lang/String;"⟩ : MethodName) jdk_67_method_42_code 1 (some (.object "java/lang/String")) [] rmTOSc #[.ref a] h0 [] (fun v h S' => (∃ t c, v = some (.ref t) ∧ StrB Z h t 0 c vs) ∧ Ext h0 h ∧ S' = []) := by
  refine Con.enter (a0 := a0) pn_33 hEL [.val (.ref a)] (fun m => by first | (simp [entryFrame, mkF, argsToLocals, Value.category]; done) | rfl) ?_
  intro K G
  refine G.newO d37_0 (hw 184 rfl) (hw 7 rfl) (hw 8 rfl) (fun h1 E1 L1 A1 => ?_)
  refine G.dup d37_3 ?_
  refine G.aloadN d37_4 rfl rfl ?_
  refine G.callI1 d37_5 (hw 185 rfl) (hw 186 rfl) (hw 8 rfl) (hw 187 rfl) pd_21 (cSISBc K.l Z a0 hw hEL h1 hC h0.size a vb n vs hn h8 A1.1 A1.2 ⟨B.1.ext E1, B.2.ext E1⟩) (by simp) ?_
  rintro _ h2 _ ⟨rfl, ⟨c, T2⟩, K2, rfl⟩ -
  refine G.aret d37_8 [] (fun _ q => nomatch q) ⟨⟨_, c, rfl, T2⟩, ?_, rfl⟩
  exact keep_nil_ext ((ext_keep E1 []).trans K2 (fun x q => by cases List.mem_singleton.mp q; exact Or.inr (Nat.le_refl _)))
abbrev ON : String := "java/util/Optional"
def Opt (Z : State) (h : Heap) (o : Addr) (v : Value) : Prop := Exa Z h o "java/util/Optional" ∧ Fld Z h o "java/util/Optional" "value" "Ljava/lang/Object;" v
theorem Opt.ext {Z : State} {h h' : Heap} {o : Addr} {v : Value} (F : Opt Z h o v) (E : Ext h h') : Opt Z h' o v := ⟨F.1.ext E, F.2.ext E⟩
def OS (Z : State) : Prop := ∃ e, Sta Z Z.heap "java/util/Optional" "EMPTY" "Ljava/util/Optional;" (.ref e) ∧ Opt Z Z.heap e .null
def NsN (i : Nat) : Prop := i = 43 ∨ i = 45 ∨ i = 46 ∨ (48 ≤ i ∧ i < 58) ∨ (65 ≤ i ∧ i < 91) ∨ (97 ≤ i ∧ i < 123)
def NS (Z : State) : Prop := ∃ na vs, Sta Z Z.heap "com/example/nameshelf/nameshelf/uri/InfoUri" "NAMESPACE" "[Z" (.ref na) ∧ Al Z Z.heap na .boolean vs ∧ ∀ i, i < 128 → ∃ b : Int32, vs[i]? = some (.int b) ∧ (b = 0 ∨ b = 1) ∧ (b ≠ 0 ↔ NsN i)
abbrev Let (c : Int32) : Prop := (65 ≤ c.toInt ∧ c.toInt ≤ 90) ∨ (97 ≤ c.toInt ∧ c.toInt ≤ 122)
abbrev Ns (c : Int32) : Prop := Let c ∨ (48 ≤ c.toInt ∧ c.toInt ≤ 57) ∨ c.toInt = 43 ∨ c.toInt = 45 ∨ c.toInt = 46
def low (c : Int32) : Int32 := if 65 ≤ c.toInt ∧ c.toInt ≤ 90 then c + 32 else c
theorem ns8 {c : Int32} (h : Ns c) : 43 ≤ c.toInt ∧ c.toInt ≤ 122 := by
  rcases h with (h | h) | h | h | h | h <;> omega
theorem low_toInt {c : Int32} (h : Ns c) : C8 (low c) ∧ ((65 ≤ c.toInt ∧ c.toInt ≤ 90) → (low c).toInt = c.toInt + 32) := by
  have := ns8 h
  unfold low
  by_cases q : 65 ≤ c.toInt ∧ c.toInt ≤ 90
  · rw [if_pos q]
    have a1 := c_iadd c 32
    have a2 := rng32 (c + 32)
    have a3 : (32 : Int32).toInt = 32 := by decide
    rw [a3] at a1
    exact ⟨⟨by omega, by omega⟩, fun _ => by omega⟩
  · rw [if_neg q]
    exact ⟨⟨by omega, by omega⟩, fun z => absurd z q⟩
theorem or32_all : ∀ m, m < 128 → (65 ≤ m ∧ m ≤ 90 → (Int32.ofNat m ||| 32) = Int32.ofNat m + 32) ∧ (97 ≤ m ∧ m ≤ 122 → (Int32.ofNat m ||| 32) = Int32.ofNat m) := by decide
theorem or32 {c : Int32} (h : Let c) : (c ||| 32) = low c := by
  have e : c = Int32.ofNat c.toInt.toNat := by
    apply Int32.toInt_inj.mp
    rw [len_toInt (by rcases h with h | h <;> omega)]
    rcases h with h | h <;> omega
  have k := or32_all c.toInt.toNat (by rcases h with h | h <;> omega)
  rw [← e] at k
  unfold low
  rcases h with h | h
  · rw [if_pos h]; exact k.1 ⟨by omega, by omega⟩
  · rw [if_neg (fun z => by have := z.2; have := h.1; omega)]; exact k.2 ⟨by omega, by omega⟩
theorem i65 : (65 : Int32).toInt = 65 := by decide
theorem i90 : (90 : Int32).toInt = 90 := by decide
theorem i97 : (97 : Int32).toInt = 97 := by decide
theorem i122 : (122 : Int32).toInt = 122 := by decide
theorem i48 : (48 : Int32).toInt = 48 := by decide
theorem i57 : (57 : Int32).toInt = 57 := by decide
theorem i128 : (128 : Int32).toInt = 128 := by decide
theorem eqI {c d : Int32} {z : Int} (hd : d.toInt = z) : c = d ↔ c.toInt = z := ⟨fun q => by rw [q, hd], fun q => Int32.toInt_inj.mp (by rw [q, hd])⟩
theorem cIIL (l : Launch) (Z : State) (a0 : Array Value) (hw : hwT a0 Z) (h0 : Heap) (c : Int32) : Con l Z EL1 false (⟨"com/example/nameshelf/nameshelf/uri/InfoUri", "isLetter", "(I)Z"⟩ : MethodName) prog_62_method_19_code 1 (some .boolean) [] rm0 #[.int c] h0 [] (fun v h S' => (∃ b : Int32, v = some (.int b) ∧ (b = 0 ∨ b = 1) ∧ (b ≠ 0 ↔ Let c)) ∧ h = h0 ∧ S' = []) := by
  have hEL := hEL1 hw
  refine Con.enter (a0 := a0) pn_34 hEL [.val (.int c)] (fun m => by first | (simp [entryFrame, mkF, argsToLocals, Value.category]; done) | rfl) ?_
  intro K G
  have yes : Let c → Go Z EL1 false rm0 (fun v h S' => (∃ b : Int32, v = some (.int b) ∧ (b = 0 ∨ b = 1) ∧ (b ≠ 0 ↔ Let c)) ∧ h = h0 ∧ S' = []) K h0 [] 0 0 24 [.val (.int c)] [] := by
    intro hl
    refine G.iconst 1 d18_24 ?_
    refine G.goto d18_25 ?_
    exact G.nret d18_29 (Or.inl rfl) (z' := 1) (by decide) [] (fun _ q => nomatch q) ⟨⟨_, rfl, Or.inr rfl, ⟨fun _ => hl, fun _ => by decide⟩⟩, rfl, rfl⟩
  have no : ¬ Let c → Go Z EL1 false rm0 (fun v h S' => (∃ b : Int32, v = some (.int b) ∧ (b = 0 ∨ b = 1) ∧ (b ≠ 0 ↔ Let c)) ∧ h = h0 ∧ S' = []) K h0 [] 0 0 28 [.val (.int c)] [] := by
    intro hl
    refine G.iconst 0 d18_28 ?_
    exact G.nret d18_29 (Or.inl rfl) (z' := 0) (by decide) [] (fun _ q => nomatch q) ⟨⟨_, rfl, Or.inl rfl, ⟨fun z => absurd rfl z, fun z => absurd z hl⟩⟩, rfl, rfl⟩
  have t12 : ¬ (65 ≤ c.toInt ∧ c.toInt ≤ 90) → Go Z EL1 false rm0 (fun v h S' => (∃ b : Int32, v = some (.int b) ∧ (b = 0 ∨ b = 1) ∧ (b ≠ 0 ↔ Let c)) ∧ h = h0 ∧ S' = []) K h0 [] 0 0 12 [.val (.int c)] [] := by
    intro hn
    refine G.iloadN d18_12 rfl ?_
    refine G.bipush 97 d18_13 ?_
    refine G.icmp_lt d18_15 (fun q => ?_) (fun q => ?_) <;> rw [Int32.lt_iff_toInt_lt, i97] at q
    · exact no (fun z => by rcases z with z | z; exact hn z; omega)
    · refine G.iloadN d18_18 rfl ?_
      refine G.bipush 122 d18_19 ?_
      refine G.icmp_gt d18_21 (fun q2 => ?_) (fun q2 => ?_) <;> rw [Int32.lt_iff_toInt_lt, i122] at q2
      · exact no (fun z => by rcases z with z | z; exact hn z; omega)
      · exact yes (Or.inr ⟨by omega, by omega⟩)
  refine G.iloadN d18_0 rfl ?_
  refine G.bipush 65 d18_1 ?_
  refine G.icmp_lt d18_3 (fun q => ?_) (fun q => ?_) <;> rw [Int32.lt_iff_toInt_lt, i65] at q
  · exact t12 (fun z => by omega)
  · refine G.iloadN d18_6 rfl ?_
    refine G.bipush 90 d18_7 ?_
    refine G.icmp_le d18_9 (fun q2 => ?_) (fun q2 => ?_) <;> rw [Int32.lt_iff_toInt_lt, i90] at q2
    · exact yes (Or.inl ⟨by omega, by omega⟩)
    · exact t12 (fun z => by omega)
theorem cLIL (l : Launch) (Z : State) (a0 : Array Value) (hw : hwT a0 Z) (h0 : Heap) (c : Int32) : Con l Z EL1 false (⟨"com/example/nameshelf/nameshelf/uri/InfoUriNormalNamespacePinLaw", "isLetter", "(C)Z"⟩ : MethodName) method_4_code 1 (some .boolean) [] rm0 #[.int c] h0 [] (fun v h S' => (∃ b : Int32, v = some (.int b) ∧ (b = 0 ∨ b = 1) ∧ (b ≠ 0 ↔ Let c)) ∧ h = h0 ∧ S' = []) := by
  have hEL := hEL1 hw
  refine Con.enter (a0 := a0) pn_35 hEL [.val (.int c)] (fun m => by first | (simp [entryFrame, mkF, argsToLocals, Value.category]; done) | rfl) ?_
  intro K G
  have yes : Let c → Go Z EL1 false rm0 (fun v h S' => (∃ b : Int32, v = some (.int b) ∧ (b = 0 ∨ b = 1) ∧ (b ≠ 0 ↔ Let c)) ∧ h = h0 ∧ S' = []) K h0 [] 0 0 24 [.val (.int c)] [] := by
    intro hl
    refine G.iconst 1 d19_24 ?_
    refine G.goto d19_25 ?_
    exact G.nret d19_29 (Or.inl rfl) (z' := 1) (by decide) [] (fun _ q => nomatch q) ⟨⟨_, rfl, Or.inr rfl, ⟨fun _ => hl, fun _ => by decide⟩⟩, rfl, rfl⟩
  have no : ¬ Let c → Go Z EL1 false rm0 (fun v h S' => (∃ b : Int32, v = some (.int b) ∧ (b = 0 ∨ b = 1) ∧ (b ≠ 0 ↔ Let c)) ∧ h = h0 ∧ S' = []) K h0 [] 0 0 28 [.val (.int c)] [] := by
    intro hl
    refine G.iconst 0 d19_28 ?_
    exact G.nret d19_29 (Or.inl rfl) (z' := 0) (by decide) [] (fun _ q => nomatch q) ⟨⟨_, rfl, Or.inl rfl, ⟨fun z => absurd rfl z, fun z => absurd z hl⟩⟩, rfl, rfl⟩
  have t12 : ¬ (97 ≤ c.toInt ∧ c.toInt ≤ 122) → Go Z EL1 false rm0 (fun v h S' => (∃ b : Int32, v = some (.int b) ∧ (b = 0 ∨ b = 1) ∧ (b ≠ 0 ↔ Let c)) ∧ h = h0 ∧ S' = []) K h0 [] 0 0 12 [.val (.int c)] [] := by
    intro hn
    refine G.iloadN d19_12 rfl ?_
    refine G.bipush 65 d19_13 ?_
    refine G.icmp_lt d19_15 (fun q => ?_) (fun q => ?_) <;> rw [Int32.lt_iff_toInt_lt, i65] at q
    · exact no (fun z => by rcases z with z | z; omega; exact hn z)
    · refine G.iloadN d19_18 rfl ?_
      refine G.bipush 90 d19_19 ?_
      refine G.icmp_gt d19_21 (fun q2 => ?_) (fun q2 => ?_) <;> rw [Int32.lt_iff_toInt_lt, i90] at q2
      · exact no (fun z => by rcases z with z | z; omega; exact hn z)
      · exact yes (Or.inl ⟨by omega, by omega⟩)
  refine G.iloadN d19_0 rfl ?_
  refine G.bipush 97 d19_1 ?_
  refine G.icmp_lt d19_3 (fun q => ?_) (fun q => ?_) <;> rw [Int32.lt_iff_toInt_lt, i97] at q
  · exact t12 (fun z => by omega)
  · refine G.iloadN d19_6 rfl ?_
    refine G.bipush 122 d19_7 ?_
    refine G.icmp_le d19_9 (fun q2 => ?_) (fun q2 => ?_) <;> rw [Int32.lt_iff_toInt_lt, i122] at q2
    · exact yes (Or.inr ⟨by omega, by omega⟩)
    · exact t12 (fun z => by omega)
abbrev rm1 : Room := { frames := 1, cells := 0, slots := 0, locals := 12 }
theorem cLNS (l : Launch) (Z : State) (a0 : Array Value) (hw : hwT a0 Z) (h0 : Heap) (c : Int32) : Con l Z EL1 false (⟨"com/example/nameshelf/nameshelf/uri/InfoUriNormalNamespacePinLaw", "isNs", "(C)Z"⟩ : MethodName) method_5_code 1 (some .boolean) [] rm1 #[.int c] h0 [] (fun v h S' => (∃ b : Int32, v = some (.int b) ∧ (b ≠ 0 ↔ Ns c)) ∧ h = h0 ∧ S' = []) := by
  have hEL := hEL1 hw
  refine Con.enter (a0 := a0) pn_36 hEL [.val (.int c)] (fun m => by first | (simp [entryFrame, mkF, argsToLocals, Value.category]; done) | rfl) ?_
  intro K G
  have yes : Ns c → Go Z EL1 false rm1 (fun v h S' => (∃ b : Int32, v = some (.int b) ∧ (b ≠ 0 ↔ Ns c)) ∧ h = h0 ∧ S' = []) K h0 [] 0 0 37 [.val (.int c)] [] := by
    intro hl
    refine G.iconst 1 d49_37 ?_
    refine G.goto d49_38 ?_
    exact G.nret d49_42 (Or.inl rfl) (z' := 1) (by decide) [] (fun _ q => nomatch q) ⟨⟨_, rfl, ⟨fun _ => hl, fun _ => by decide⟩⟩, rfl, rfl⟩
  have t19 : ¬ Let c → ¬ (48 ≤ c.toInt ∧ c.toInt ≤ 57) → Go Z EL1 false rm1 (fun v h S' => (∃ b : Int32, v = some (.int b) ∧ (b ≠ 0 ↔ Ns c)) ∧ h = h0 ∧ S' = []) K h0 [] 0 0 19 [.val (.int c)] [] := by
    intro h1 h2
    refine G.iloadN d49_19 rfl ?_
    refine G.bipush 43 d49_20 ?_
    refine G.icmp_eq d49_22 (fun q => ?_) (fun q3 => ?_)
    · exact yes (Or.inr (Or.inr (Or.inl ((eqI (by decide)).mp q))))
    refine G.iloadN d49_25 rfl ?_
    refine G.bipush 45 d49_26 ?_
    refine G.icmp_eq d49_28 (fun q => ?_) (fun q4 => ?_)
    · exact yes (Or.inr (Or.inr (Or.inr (Or.inl ((eqI (by decide)).mp q)))))
    refine G.iloadN d49_31 rfl ?_
    refine G.bipush 46 d49_32 ?_
    refine G.icmp_ne d49_34 (fun q5 => ?_) (fun q => ?_)
    · have hn : ¬ Ns c := by
        rintro (z | z | z | z | z)
        · exact h1 z
        · exact h2 z
        · exact q3 ((eqI (by decide)).mpr z)
        · exact q4 ((eqI (by decide)).mpr z)
        · exact q5 ((eqI (by decide)).mpr z)
      refine G.iconst 0 d49_41 ?_
      exact G.nret d49_42 (Or.inl rfl) (z' := 0) (by decide) [] (fun _ q => nomatch q) ⟨⟨_, rfl, ⟨fun z => absurd rfl z, fun z => absurd z hn⟩⟩, rfl, rfl⟩
    · exact yes (Or.inr (Or.inr (Or.inr (Or.inr ((eqI (by decide)).mp q)))))
  refine G.iloadN d49_0 rfl ?_
  refine G.callS1 d49_1 (hw 96 rfl) (hw 97 rfl) (hw 3 rfl) (hw 98 rfl) pd_16 (cLIL K.l Z a0 hw h0 c) (fun _ q => nomatch q) ?_
  rintro _ h0 _ ⟨⟨b, rfl, b01, hb⟩, rfl, rfl⟩ -
  refine G.if_ne d49_4 (fun q => yes (Or.inl (hb.mp q))) (fun q0 => ?_)
  have h1 : ¬ Let c := fun z => (hb.mpr z) q0
  refine G.iloadN d49_7 rfl ?_
  refine G.bipush 48 d49_8 ?_
  refine G.icmp_lt d49_10 (fun q => ?_) (fun q => ?_) <;> rw [Int32.lt_iff_toInt_lt, i48] at q
  · exact t19 h1 (fun z => by omega)
  · refine G.iloadN d49_13 rfl ?_
    refine G.bipush 57 d49_14 ?_
    refine G.icmp_le d49_16 (fun q2 => ?_) (fun q2 => ?_) <;> rw [Int32.lt_iff_toInt_lt, i57] at q2
    · exact yes (Or.inr (Or.inl ⟨by omega, by omega⟩))
    · exact t19 h1 (fun z => by omega)
theorem cLLW (l : Launch) (Z : State) (a0 : Array Value) (hw : hwT a0 Z) (h0 : Heap) (c : Int32) (hc : C16 c) : Con l Z EL1 false (⟨"com/example/nameshelf/nameshelf/uri/InfoUriNormalNamespacePinLaw", "lower", "(C)C"⟩ : MethodName) method_6_code 1 (some .char) [] rm0 #[.int c] h0 [] (fun v h S' => v = some (.int (low c)) ∧ h = h0 ∧ S' = []) := by
  have hEL := hEL1 hw
  refine Con.enter (a0 := a0) pn_37 hEL [.val (.int c)] (fun m => by first | (simp [entryFrame, mkF, argsToLocals, Value.category]; done) | rfl) ?_
  intro K G
  have no : ¬ (65 ≤ c.toInt ∧ c.toInt ≤ 90) → Go Z EL1 false rm0 (fun v h S' => v = some (.int (low c)) ∧ h = h0 ∧ S' = []) K h0 [] 0 0 18 [.val (.int c)] [] := by
    intro hn
    refine G.iloadN d48_18 rfl ?_
    exact G.nret d48_19 (Or.inr (Or.inr (Or.inl rfl))) (z' := c) (nar_char hc.1 hc.2) [] (fun _ q => nomatch q) ⟨by unfold low; rw [if_neg hn], rfl, rfl⟩
  refine G.iloadN d48_0 rfl ?_
  refine G.bipush 65 d48_1 ?_
  refine G.icmp_lt d48_3 (fun q => ?_) (fun q => ?_) <;> rw [Int32.lt_iff_toInt_lt, i65] at q
  · exact no (fun z => by omega)
  · refine G.iloadN d48_6 rfl ?_
    refine G.bipush 90 d48_7 ?_
    refine G.icmp_gt d48_9 (fun q2 => ?_) (fun q2 => ?_) <;> rw [Int32.lt_iff_toInt_lt, i90] at q2
    · exact no (fun z => by omega)
    · have hl : Ns c := Or.inl (Or.inl ⟨by omega, by omega⟩)
      have e : low c = c + 32 := by unfold low; rw [if_pos ⟨by omega, by omega⟩]
      have r := (low_toInt hl).1
      rw [e] at r
      refine G.iloadN d48_12 rfl ?_
      refine G.bipush 32 d48_13 ?_
      refine G.iadd d48_15 ?_
      refine G.i2c d48_16 ?_
      have e2 : (c + 32).toUInt32.toUInt16.toUInt32.toInt32 = c + 32 := nar_char r.1 (by have := r.2; omega)
      rw [e2]
      exact G.nret d48_17 (Or.inr (Or.inr (Or.inl rfl))) (z' := c + 32) (nar_char r.1 (by have := r.2; omega)) [] (fun _ q => nomatch q) ⟨by rw [e], rfl, rfl⟩
theorem cINC (l : Launch) (Z : State) (a0 : Array Value) (hw : hwT a0 Z) (h0 : Heap) (hN : NS Z) (c : Int32) (hc : C16 c) : Con l Z EL1 false (⟨"com/example/nameshelf/nameshelf/uri/InfoUri", "isNamespaceCharacter", "(I)Z"⟩ : MethodName) prog_62_method_18_code 1 (some .boolean) [] rm0 #[.int c] h0 [] (fun v h S' => (∃ b : Int32, v = some (.int b) ∧ (b = 0 ∨ b = 1) ∧ (b ≠ 0 ↔ Ns c)) ∧ h = h0 ∧ S' = []) := by
  have hEL := hEL1 hw
  obtain ⟨na, vs, S1, A1, H1⟩ := hN
  refine Con.enter (a0 := a0) pn_38 hEL [.val (.int c)] (fun m => by first | (simp [entryFrame, mkF, argsToLocals, Value.category]; done) | rfl) ?_
  intro K G
  refine G.iloadN d30_0 rfl ?_
  refine G.sipush 128 d30_1 ?_
  refine G.icmp_ge d30_4 (fun q => ?_) (fun q => ?_) <;> rw [Int32.lt_iff_toInt_lt, i128] at q
  · have hn : ¬ Ns c := fun z => by have := ns8 z; omega
    refine G.iconst 0 d30_19 ?_
    exact G.nret d30_20 (Or.inl rfl) (z' := 0) (by decide) [] (fun _ q => nomatch q) ⟨⟨_, rfl, Or.inl rfl, ⟨fun z => absurd rfl z, fun z => absurd z hn⟩⟩, rfl, rfl⟩
  · obtain ⟨b, hv, b01, hb⟩ := H1 c.toInt.toNat (by omega)
    have hns : NsN c.toInt.toNat ↔ Ns c := by
      constructor
      · rintro (z | z | z | z | z | z)
        · exact Or.inr (Or.inr (Or.inl (by omega)))
        · exact Or.inr (Or.inr (Or.inr (Or.inl (by omega))))
        · exact Or.inr (Or.inr (Or.inr (Or.inr (by omega))))
        · exact Or.inr (Or.inl (by omega))
        · exact Or.inl (Or.inl (by omega))
        · exact Or.inl (Or.inr (by omega))
      · rintro ((z | z) | z | z | z | z)
        · exact Or.inr (Or.inr (Or.inr (Or.inr (Or.inl (by omega)))))
        · exact Or.inr (Or.inr (Or.inr (Or.inr (Or.inr (by omega)))))
        · exact Or.inr (Or.inr (Or.inr (Or.inl (by omega))))
        · exact Or.inl (by omega)
        · exact Or.inr (Or.inl (by omega))
        · exact Or.inr (Or.inr (Or.inl (by omega)))
    rw [hns] at hb
    refine G.getS d30_7 (hw 149 rfl) S1 ?_
    refine G.iloadN d30_10 rfl ?_
    refine Go.oldIn (fun O => ?_)
    refine G.zaload d30_11 (A1.ext O) (i := c.toInt.toNat) (by omega) hv ?_
    refine G.if_eq d30_12 (fun q => ?_) (fun q => ?_)
    · refine G.iconst 0 d30_19 ?_
      exact G.nret d30_20 (Or.inl rfl) (z' := 0) (by decide) [] (fun _ q => nomatch q) ⟨⟨_, rfl, Or.inl rfl, ⟨fun z => absurd rfl z, fun z => absurd q (hb.mpr z)⟩⟩, rfl, rfl⟩
    · refine G.iconst 1 d30_15 ?_
      refine G.goto d30_16 ?_
      exact G.nret d30_20 (Or.inl rfl) (z' := 1) (by decide) [] (fun _ q => nomatch q) ⟨⟨_, rfl, Or.inr rfl, ⟨fun _ => hb.mp q, fun _ => by decide⟩⟩, rfl, rfl⟩
theorem cILW (l : Launch) (Z : State) (a0 : Array Value) (hw : hwT a0 Z) (h0 : Heap) (c : Int32) (hc : Ns c) : Con l Z EL1 false (⟨"com/example/nameshelf/nameshelf/uri/InfoUri", "lowerAscii", "(I)I"⟩ : MethodName) prog_62_method_20_code 1 (some .int) [] rm1 #[.int c] h0 [] (fun v h S' => v = some (.int (low c)) ∧ h = h0 ∧ S' = []) := by
  have hEL := hEL1 hw
  refine Con.enter (a0 := a0) pn_39 hEL [.val (.int c)] (fun m => by first | (simp [entryFrame, mkF, argsToLocals, Value.category]; done) | rfl) ?_
  intro K G
  refine G.iloadN d31_0 rfl ?_
  refine G.callS1 d31_1 (hw 93 rfl) (hw 94 rfl) (hw 29 rfl) (hw 95 rfl) pd_22 (cIIL K.l Z a0 hw h0 c) (fun _ q => nomatch q) ?_
  rintro _ h0 _ ⟨⟨b, rfl, b01, hb⟩, rfl, rfl⟩ -
  refine G.if_eq d31_4 (fun q => ?_) (fun q => ?_)
  · have hn : ¬ Let c := fun z => (hb.mpr z) q
    refine G.iloadN d31_14 rfl ?_
    exact G.iret d31_15 [] (fun _ q => nomatch q) ⟨by unfold low; rw [if_neg (fun z => hn (Or.inl z))], rfl, rfl⟩
  · refine G.iloadN d31_7 rfl ?_
    refine G.bipush 32 d31_8 ?_
    refine G.ior d31_10 ?_
    refine G.goto d31_11 ?_
    rw [or32 (hb.mp q)]
    exact G.iret d31_15 [] (fun _ q => nomatch q) ⟨rfl, rfl, rfl⟩
abbrev rmMAKE : Room := { frames := 0, cells := 1, slots := 5, locals := 0 }
theorem cMAKE (l : Launch) (Z : State) (a0 : Array Value) (hw : hwT a0 Z) (h0 : Heap) (n c0 c1 c2 c3 c4 : Int32) (k : Nat) (hn : n.toInt = (k : Int)) (hk : k ≤ 5) (r0 : C16 c0) (r1 : C16 c1) (r2 : C16 c2) (r3 : C16 c3) (r4 : C16 c4) : Con l Z EL1 false (⟨"com/example/nameshelf/nameshelf/uri/InfoUriNormalNamespacePinLaw", "make", "(ICCCCC)[C"⟩ : MethodName) method_3_code 6 (some (.array .char)) [] rmMAKE #[.int n, .int c0, .int c1, .int c2, .int c3, .int c4] h0 [] (fun v h S' => (∃ b, v = some (.ref b) ∧ h0.size ≤ b ∧ Al Z h b .char (([c0, c1, c2, c3, c4].take k).map .int)) ∧ Ext h0 h ∧ S' = []) := by
  have hEL := hEL1 hw
  refine Con.enter (a0 := a0) pn_40 hEL [.val (.int n), .val (.int c0), .val (.int c1), .val (.int c2), .val (.int c3), .val (.int c4)] (fun m => by first | (simp [entryFrame, mkF, argsToLocals, Value.category]; done) | rfl) ?_
  intro K G
  refine G.iloadN d1_0 rfl ?_
  refine G.if_ne d1_1 (fun q0 => ?_) (fun q0 => ?_)
  · have m0 : k ≠ 0 := fun z => q0 (Int32.toInt_inj.mp (by rw [hn, z]; rfl))
    refine G.iloadN d1_8 rfl ?_
    refine G.iconst 1 d1_9 ?_
    refine G.icmp_ne d1_10 (fun q1 => ?_) (fun q1 => ?_)
    · have m1 : k ≠ 1 := fun z => q1 (Int32.toInt_inj.mp (by rw [hn, z]; rfl))
      refine G.iloadN d1_21 rfl ?_
      refine G.iconst 2 d1_22 ?_
      refine G.icmp_ne d1_23 (fun q2 => ?_) (fun q2 => ?_)
      · have m2 : k ≠ 2 := fun z => q2 (Int32.toInt_inj.mp (by rw [hn, z]; rfl))
        refine G.iloadN d1_38 rfl ?_
        refine G.iconst 3 d1_39 ?_
        refine G.icmp_ne d1_40 (fun q3 => ?_) (fun q3 => ?_)
        · have m3 : k ≠ 3 := fun z => q3 (Int32.toInt_inj.mp (by rw [hn, z]; rfl))
          refine G.iloadN d1_59 rfl ?_
          refine G.iconst 4 d1_60 ?_
          refine G.icmp_ne d1_61 (fun q4 => ?_) (fun q4 => ?_)
          · have m4 : k ≠ 4 := fun z => q4 (Int32.toInt_inj.mp (by rw [hn, z]; rfl))
            obtain rfl : k = 5 := by omega
            refine G.iconst 5 d1_85 ?_
            refine G.newA 5 5 d1_86 (hw 5 rfl) (by decide) (by decide) (fun h1 E1 L1 B0 => ?_)
            refine G.dup d1_88 ?_
            refine G.iconst 0 d1_89 ?_
            refine G.iloadN d1_90 rfl ?_
            refine G.castore d1_91 (by simp) B0 (i := 0) (by decide) (by simp) (fun g0 W0 B1 => ?_)
            refine G.dup d1_92 ?_
            refine G.iconst 1 d1_93 ?_
            refine G.iloadN d1_94 rfl ?_
            refine G.castore d1_95 (by simp) B1 (i := 1) (by decide) (by simp) (fun g1 W1 B2 => ?_)
            refine G.dup d1_96 ?_
            refine G.iconst 2 d1_97 ?_
            refine G.iloadN d1_98 rfl ?_
            refine G.castore d1_99 (by simp) B2 (i := 2) (by decide) (by simp) (fun g2 W2 B3 => ?_)
            refine G.dup d1_100 ?_
            refine G.iconst 3 d1_101 ?_
            refine G.iload d1_102 rfl ?_
            refine G.castore d1_104 (by simp) B3 (i := 3) (by decide) (by simp) (fun g3 W3 B4 => ?_)
            refine G.dup d1_105 ?_
            refine G.iconst 4 d1_106 ?_
            refine G.iload d1_107 rfl ?_
            refine G.castore d1_109 (by simp) B4 (i := 4) (by decide) (by simp) (fun g4 W4 B5 => ?_)
            rw [nar_char r0.1 r0.2, nar_char r1.1 r1.2, nar_char r2.1 r2.2, nar_char r3.1 r3.2, nar_char r4.1 r4.2] at B5
            exact G.aret d1_110 [] (fun _ q => nomatch q) ⟨⟨_, rfl, Nat.le_refl _, B5⟩, keep_nil_ext ((((((ext_keep E1 []).wr W0 (Or.inr (Nat.le_refl _))).wr W1 (Or.inr (Nat.le_refl _))).wr W2 (Or.inr (Nat.le_refl _))).wr W3 (Or.inr (Nat.le_refl _))).wr W4 (Or.inr (Nat.le_refl _))), rfl⟩
          · obtain rfl : k = 4 := by have z := congrArg Int32.toInt q4; rw [hn, show (4 : Int32).toInt = 4 from by decide] at z; omega
            refine G.iconst 4 d1_64 ?_
            refine G.newA 4 5 d1_65 (hw 5 rfl) (by decide) (by decide) (fun h1 E1 L1 B0 => ?_)
            refine G.dup d1_67 ?_
            refine G.iconst 0 d1_68 ?_
            refine G.iloadN d1_69 rfl ?_
            refine G.castore d1_70 (by simp) B0 (i := 0) (by decide) (by simp) (fun g0 W0 B1 => ?_)
            refine G.dup d1_71 ?_
            refine G.iconst 1 d1_72 ?_
            refine G.iloadN d1_73 rfl ?_
            refine G.castore d1_74 (by simp) B1 (i := 1) (by decide) (by simp) (fun g1 W1 B2 => ?_)
            refine G.dup d1_75 ?_
            refine G.iconst 2 d1_76 ?_
            refine G.iloadN d1_77 rfl ?_
            refine G.castore d1_78 (by simp) B2 (i := 2) (by decide) (by simp) (fun g2 W2 B3 => ?_)
            refine G.dup d1_79 ?_
            refine G.iconst 3 d1_80 ?_
            refine G.iload d1_81 rfl ?_
            refine G.castore d1_83 (by simp) B3 (i := 3) (by decide) (by simp) (fun g3 W3 B4 => ?_)
            rw [nar_char r0.1 r0.2, nar_char r1.1 r1.2, nar_char r2.1 r2.2, nar_char r3.1 r3.2] at B4
            exact G.aret d1_84 [] (fun _ q => nomatch q) ⟨⟨_, rfl, Nat.le_refl _, B4⟩, keep_nil_ext (((((ext_keep E1 []).wr W0 (Or.inr (Nat.le_refl _))).wr W1 (Or.inr (Nat.le_refl _))).wr W2 (Or.inr (Nat.le_refl _))).wr W3 (Or.inr (Nat.le_refl _))), rfl⟩
        · obtain rfl : k = 3 := by have z := congrArg Int32.toInt q3; rw [hn, show (3 : Int32).toInt = 3 from by decide] at z; omega
          refine G.iconst 3 d1_43 ?_
          refine G.newA 3 5 d1_44 (hw 5 rfl) (by decide) (by decide) (fun h1 E1 L1 B0 => ?_)
          refine G.dup d1_46 ?_
          refine G.iconst 0 d1_47 ?_
          refine G.iloadN d1_48 rfl ?_
          refine G.castore d1_49 (by simp) B0 (i := 0) (by decide) (by simp) (fun g0 W0 B1 => ?_)
          refine G.dup d1_50 ?_
          refine G.iconst 1 d1_51 ?_
          refine G.iloadN d1_52 rfl ?_
          refine G.castore d1_53 (by simp) B1 (i := 1) (by decide) (by simp) (fun g1 W1 B2 => ?_)
          refine G.dup d1_54 ?_
          refine G.iconst 2 d1_55 ?_
          refine G.iloadN d1_56 rfl ?_
          refine G.castore d1_57 (by simp) B2 (i := 2) (by decide) (by simp) (fun g2 W2 B3 => ?_)
          rw [nar_char r0.1 r0.2, nar_char r1.1 r1.2, nar_char r2.1 r2.2] at B3
          exact G.aret d1_58 [] (fun _ q => nomatch q) ⟨⟨_, rfl, Nat.le_refl _, B3⟩, keep_nil_ext ((((ext_keep E1 []).wr W0 (Or.inr (Nat.le_refl _))).wr W1 (Or.inr (Nat.le_refl _))).wr W2 (Or.inr (Nat.le_refl _))), rfl⟩
      · obtain rfl : k = 2 := by have z := congrArg Int32.toInt q2; rw [hn, show (2 : Int32).toInt = 2 from by decide] at z; omega
        refine G.iconst 2 d1_26 ?_
        refine G.newA 2 5 d1_27 (hw 5 rfl) (by decide) (by decide) (fun h1 E1 L1 B0 => ?_)
        refine G.dup d1_29 ?_
        refine G.iconst 0 d1_30 ?_
        refine G.iloadN d1_31 rfl ?_
        refine G.castore d1_32 (by simp) B0 (i := 0) (by decide) (by simp) (fun g0 W0 B1 => ?_)
        refine G.dup d1_33 ?_
        refine G.iconst 1 d1_34 ?_
        refine G.iloadN d1_35 rfl ?_
        refine G.castore d1_36 (by simp) B1 (i := 1) (by decide) (by simp) (fun g1 W1 B2 => ?_)
        rw [nar_char r0.1 r0.2, nar_char r1.1 r1.2] at B2
        exact G.aret d1_37 [] (fun _ q => nomatch q) ⟨⟨_, rfl, Nat.le_refl _, B2⟩, keep_nil_ext (((ext_keep E1 []).wr W0 (Or.inr (Nat.le_refl _))).wr W1 (Or.inr (Nat.le_refl _))), rfl⟩
    · obtain rfl : k = 1 := by have z := congrArg Int32.toInt q1; rw [hn, show (1 : Int32).toInt = 1 from by decide] at z; omega
      refine G.iconst 1 d1_13 ?_
      refine G.newA 1 5 d1_14 (hw 5 rfl) (by decide) (by decide) (fun h1 E1 L1 B0 => ?_)
      refine G.dup d1_16 ?_
      refine G.iconst 0 d1_17 ?_
      refine G.iloadN d1_18 rfl ?_
      refine G.castore d1_19 (by simp) B0 (i := 0) (by decide) (by simp) (fun g0 W0 B1 => ?_)
      rw [nar_char r0.1 r0.2] at B1
      exact G.aret d1_20 [] (fun _ q => nomatch q) ⟨⟨_, rfl, Nat.le_refl _, B1⟩, keep_nil_ext ((ext_keep E1 []).wr W0 (Or.inr (Nat.le_refl _))), rfl⟩
  · obtain rfl : k = 0 := by have z := congrArg Int32.toInt q0; rw [hn, toInt_0] at z; omega
    refine G.iconst 0 d1_4 ?_
    refine G.newA 0 5 d1_5 (hw 5 rfl) (by decide) (by decide) (fun h1 E1 L1 B0 => ?_)
    exact G.aret d1_7 [] (fun _ q => nomatch q) ⟨⟨_, rfl, Nat.le_refl _, B0⟩, keep_nil_ext (ext_keep E1 []), rfl⟩
theorem cRNN (l : Launch) (Z : State) (a0 : Array Value) (hw : hwT a0 Z) (h0 : Heap) (t : Addr) : Con l Z EL1 false (⟨"java/util/Objects", "requireNonNull", "(Ljava/lang/Object;)Ljava/lang/Object;"⟩ : MethodName) jdk_31_method_10_code 1 (some (.object "java/lang/Object")) [] rm0 #[.ref t] h0 [] (fun v h S' => v = some (.ref t) ∧ h = h0 ∧ S' = []) := by
  have hEL := hEL1 hw
  refine Con.enter (a0 := a0) pn_41 hEL [.val (.ref t)] (fun m => by first | (simp [entryFrame, mkF, argsToLocals, Value.category]; done) | rfl) ?_
  intro K G
  refine G.aloadN d45_0 rfl rfl ?_
  refine G.ifnonnullR d45_1 ?_
  refine G.aloadN d45_12 rfl rfl ?_
  exact G.aret d45_13 [] (fun _ q => nomatch q) ⟨rfl, rfl, rfl⟩
abbrev rmOI : Room := { frames := 1, cells := 0, slots := 0, locals := 12 }
theorem cOI (l : Launch) (Z : State) (a0 : Array Value) (hw : hwT a0 Z) (h0 : Heap) (a t : Addr) (E : Exa Z h0 a ON) (F : Fld Z h0 a "java/util/Optional" "value" "Ljava/lang/Object;" .null) :
    Con l Z EL1 false (⟨"java/util/Optional", "<init>", "(Ljava/lang/Object;)V"⟩ : MethodName) jdk_32_method_2_code 2 (none) [] rmOI #[.ref a, .ref t] h0 [a] (fun v h S' => v = none ∧ Opt Z h a (.ref t) ∧ Keep h0 h [a] ∧ S' = []) := by
  have hEL := hEL1 hw
  refine Con.enter (a0 := a0) pn_42 hEL [.val (.ref a), .val (.ref t)] (fun m => by first | (simp [entryFrame, mkF, argsToLocals, Value.category]; done) | rfl) ?_
  intro K G
  refine G.aloadN d46_0 rfl rfl ?_
  refine G.initO d46_1 (hw 231 rfl) (hw 17 rfl) (hw 18 rfl) ?_
  refine G.aloadN d46_4 rfl rfl ?_
  refine G.aloadN d46_5 rfl rfl ?_
  refine G.putF d46_6 (hw 56 rfl) F E (by simp) (Or.inr ⟨(hw 57 rfl), rfl, rfl⟩) (hw 222 rfl) (ty := (.object "java/lang/Object")) (by decide) rfl rfl (fun h1 W1 F1 E1 => ?_)
  exact G.ret0 d46_9 [] (fun _ q => nomatch q) ⟨rfl, ⟨E1, F1⟩, (Keep.refl _ [a]).wr W1 (Or.inl (List.mem_singleton.mpr rfl)), rfl⟩
abbrev rmOO : Room := { frames := 2, cells := 1, slots := 1, locals := 26 }
theorem cOO (l : Launch) (Z : State) (a0 : Array Value) (hw : hwT a0 Z) (h0 : Heap) (t : Addr) : Con l Z EL1 false (⟨"java/util/Optional", "of", "(Ljava/lang/Object;)Ljava/util/Optional;"⟩ : MethodName) jdk_32_method_3_code 1 (some (.object "java/util/Optional")) [] rmOO #[.ref t] h0 [] (fun v h S' => (∃ o, v = some (.ref o) ∧ Opt Z h o (.ref t)) ∧ Ext h0 h ∧ S' = []) := by
  have hEL := hEL1 hw
  refine Con.enter (a0 := a0) pn_43 hEL [.val (.ref t)] (fun m => by first | (simp [entryFrame, mkF, argsToLocals, Value.category]; done) | rfl) ?_
  intro K G
  refine G.newO d44_0 (hw 221 rfl) (hw 222 rfl) (hw 48 rfl) (fun h1 E1 L1 A1 => ?_)
  have F1 := A1.2 (Or.inr (hw 57 rfl)) (ty := .object "java/lang/Object") (by decide)
  refine G.dup d44_3 ?_
  refine G.aloadN d44_4 rfl rfl ?_
  refine G.callS1 d44_5 (hw 223 rfl) (hw 224 rfl) (hw 225 rfl) (hw 226 rfl) pd_23 (cRNN K.l Z a0 hw h1 t) (fun _ q => nomatch q) ?_
  rintro _ h1 _ ⟨rfl, rfl, rfl⟩ -
  refine G.callI1 d44_8 (hw 227 rfl) (hw 228 rfl) (hw 48 rfl) (hw 230 rfl) pd_24 (cOI K.l Z a0 hw h1 h0.size t A1.1 F1) (by simp) ?_
  rintro _ h2 _ ⟨rfl, O2, K2, rfl⟩ -
  exact G.aret d44_11 [] (fun _ q => nomatch q) ⟨⟨_, rfl, O2⟩, keep_nil_ext ((ext_keep E1 []).trans K2 (fun x q => by cases List.mem_singleton.mp q; exact Or.inr (Nat.le_refl _))), rfl⟩
theorem cOE (l : Launch) (Z : State) (a0 : Array Value) (hw : hwT a0 Z) (h0 : Heap) (hO : OS Z) : Con l Z EL1 false (⟨"java/util/Optional", "empty", "()Ljava/util/Optional;"⟩ : MethodName) jdk_32_method_1_code 1 (some (.object "java/util/Optional")) [] rm0 #[] h0 [] (fun v h S' => (∃ o, v = some (.ref o) ∧ Opt Z h o .null) ∧ h = h0 ∧ S' = []) := by
  have hEL := hEL1 hw
  obtain ⟨e, S1, O1⟩ := hO
  refine Con.enter (a0 := a0) pn_44 hEL [.unset] (fun m => by first | (simp [entryFrame, mkF, argsToLocals, Value.category]; done) | rfl) ?_
  intro K G
  refine Go.oldIn (fun O => ?_)
  refine G.getS d8_0 (hw 50 rfl) S1 ?_
  refine G.astore0 d8_3 ?_
  refine G.aloadN d8_4 rfl rfl ?_
  exact G.aret d8_5 [] (fun _ q => nomatch q) ⟨⟨e, rfl, O1.ext O⟩, rfl, rfl⟩
theorem cOPn (l : Launch) (Z : State) (a0 : Array Value) (hw : hwT a0 Z) (h0 : Heap) (o : Addr) (F : Opt Z h0 o .null) : Con l Z EL1 false (⟨"java/util/Optional", "isPresent", "()Z"⟩ : MethodName) jdk_32_method_6_code 1 (some .boolean) [] rm0 #[.ref o] h0 [] (fun v h S' => v = some (.int 0) ∧ h = h0 ∧ S' = []) := by
  have hEL := hEL1 hw
  refine Con.enter (a0 := a0) pn_45 hEL [.val (.ref o)] (fun m => by first | (simp [entryFrame, mkF, argsToLocals, Value.category]; done) | rfl) ?_
  intro K G
  refine G.aloadN d9_0 rfl rfl ?_
  refine G.getF d9_1 (hw 56 rfl) F.2 ?_
  refine G.ifnullN d9_4 ?_
  refine G.iconst 0 d9_11 ?_
  exact G.nret d9_12 (Or.inl rfl) (z' := 0) (by decide) [] (fun _ q => nomatch q) ⟨rfl, rfl, rfl⟩
theorem cOPr (l : Launch) (Z : State) (a0 : Array Value) (hw : hwT a0 Z) (h0 : Heap) (o t : Addr) (F : Opt Z h0 o (.ref t)) : Con l Z EL1 false (⟨"java/util/Optional", "isPresent", "()Z"⟩ : MethodName) jdk_32_method_6_code 1 (some .boolean) [] rm0 #[.ref o] h0 [] (fun v h S' => v = some (.int 1) ∧ h = h0 ∧ S' = []) := by
  have hEL := hEL1 hw
  refine Con.enter (a0 := a0) pn_45 hEL [.val (.ref o)] (fun m => by first | (simp [entryFrame, mkF, argsToLocals, Value.category]; done) | rfl) ?_
  intro K G
  refine G.aloadN d9_0 rfl rfl ?_
  refine G.getF d9_1 (hw 56 rfl) F.2 ?_
  refine G.ifnullR d9_4 ?_
  refine G.iconst 1 d9_7 ?_
  refine G.goto d9_8 ?_
  exact G.nret d9_12 (Or.inl rfl) (z' := 1) (by decide) [] (fun _ q => nomatch q) ⟨rfl, rfl, rfl⟩
theorem cOG (l : Launch) (Z : State) (a0 : Array Value) (hw : hwT a0 Z) (h0 : Heap) (o t : Addr) (F : Opt Z h0 o (.ref t)) : Con l Z EL1 false (⟨"java/util/Optional", "get", "()Ljava/lang/Object;"⟩ : MethodName) jdk_32_method_5_code 1 (some (.object "java/lang/Object")) [] rm0 #[.ref o] h0 [] (fun v h S' => v = some (.ref t) ∧ h = h0 ∧ S' = []) := by
  have hEL := hEL1 hw
  refine Con.enter (a0 := a0) pn_46 hEL [.val (.ref o)] (fun m => by first | (simp [entryFrame, mkF, argsToLocals, Value.category]; done) | rfl) ?_
  intro K G
  refine G.aloadN d47_0 rfl rfl ?_
  refine G.getF d47_1 (hw 56 rfl) F.2 ?_
  refine G.ifnonnullR d47_4 ?_
  refine G.aloadN d47_17 rfl rfl ?_
  refine G.getF d47_18 (hw 56 rfl) F.2 ?_
  exact G.aret d47_21 [] (fun _ q => nomatch q) ⟨rfl, rfl, rfl⟩
def Vld (cs : List Int32) : Prop := ∃ c r, cs = c :: r ∧ Let c ∧ ∀ x ∈ cs, Ns x
abbrev rmNN : Room := { frames := 5, cells := 5, slots := 25, locals := 82 }
def QN (Z : State) (h0 : Heap) (cs : List Int32) : Pst := fun v h S' => (∃ o, v = some (.ref o) ∧ ((¬ Vld cs ∧ Opt Z h o .null) ∨ (Vld cs ∧ ∃ t tb, Opt Z h o (.ref t) ∧ StrB Z h t 0 tb ((cs.map low).map bL)))) ∧ Ext h0 h ∧ S' = []
theorem cNN (l : Launch) (Z : State) (a0 : Array Value) (hw : hwT a0 Z) (h0 : Heap) (hC : CS Z) (hF : SF Z) (hU : US Z) (hO : OS Z) (hN : NS Z) (s : Addr) (cs : List Int32) (h5 : cs.length ≤ 5) (A : Str Z h0 s cs) : Con l Z EL1 false (⟨"com/example/nameshelf/nameshelf/uri/InfoUri", "normalNamespace", "(Ljava/lang/CharSequence;)Ljava/util/Optional;"⟩ : MethodName) prog_62_method_3_code 4 (some (.object "java/util/Optional")) [] rmNN #[.ref s] h0 [] (QN Z h0 cs) := by
  have hEL := hEL1 hw
  refine Con.enter (a0 := a0) pn_47 hEL [.val (.ref s), .unset, .unset, .unset] (fun m => by first | (simp [entryFrame, mkF, argsToLocals, Value.category]; done) | rfl) ?_
  intro K G
  have hch := A.1
  refine G.aloadN d5_0 rfl rfl ?_
  refine G.callF0 d5_1 (hw 31 rfl) (hw 32 rfl) (hw 33 rfl) (hw 34 rfl) (hw 35 rfl) (hw 36 rfl) (hw 37 rfl) (hw 38 rfl) (hw 39 rfl) (hw 8 rfl) pd_14 A.exa (cLEN K.l Z a0 hw hEL h0 hC s cs A) (fun _ q => nomatch q) ?_
  rintro _ h0 _ ⟨⟨n, rfl, hn⟩, rfl, rfl⟩ -
  have t22 : ¬ Vld cs → Go Z EL1 false rmNN (QN Z h0 cs) K h0 [] 0 0 22 [.val (.ref s), .unset, .unset, .unset] [] := by
    intro hv
    refine G.callS0 d5_22 (hw 46 rfl) (hw 47 rfl) (hw 48 rfl) (hw 49 rfl) pd_25 (cOE K.l Z a0 hw h0 hO) (fun _ q => nomatch q) ?_
    rintro _ h0 _ ⟨⟨o, rfl, O1⟩, rfl, rfl⟩ -
    exact G.aret d5_25 [] (fun _ q => nomatch q) ⟨⟨o, rfl, Or.inl ⟨hv, O1⟩⟩, ⟨Nat.le_refl _, fun _ _ q => q⟩, rfl⟩
  cases cs with
  | nil =>
    refine G.if_eq d5_6 (fun _ => ?_) (fun q => absurd (Int32.toInt_inj.mp (by rw [hn, toInt_0]; rfl)) q)
    exact t22 (fun ⟨c, r, e, _⟩ => by cases e)
  | cons c r =>
    refine G.if_eq d5_6 (fun q => absurd (congrArg Int32.toInt q) (by rw [hn, toInt_0]; simp; omega)) (fun _ => ?_)
    refine G.aloadN d5_9 rfl rfl ?_
    refine G.iconst 0 d5_10 ?_
    refine G.callF1 d5_11 (hw 68 rfl) (hw 69 rfl) (hw 70 rfl) (hw 71 rfl) (hw 72 rfl) (hw 73 rfl) (hw 74 rfl) (hw 38 rfl) (hw 75 rfl) (hw 8 rfl) pd_26 A.exa (cSCA K.l Z a0 hw hEL h0 hC hF hU s (c :: r) 0 0 (by decide) c rfl A) (fun _ q => nomatch q) ?_
    rintro _ h0 _ ⟨rfl, rfl, rfl⟩ -
    refine G.callS1 d5_16 (hw 93 rfl) (hw 94 rfl) (hw 29 rfl) (hw 95 rfl) pd_22 (cIIL K.l Z a0 hw h0 c) (fun _ q => nomatch q) ?_
    rintro _ h0 _ ⟨⟨b, rfl, b01, hb⟩, rfl, rfl⟩ -
    refine G.if_ne d5_19 (fun q => ?_) (fun q => t22 (fun ⟨c', r', e, hl, _⟩ => by cases e; exact (hb.mpr hl) q))
    have hlet := hb.mp q
    refine G.newO d5_26 (hw 128 rfl) (hw 129 rfl) (hw 130 rfl) (fun h1 E1 L1 A1 => ?_)
    refine G.dup d5_29 ?_
    refine G.aloadN d5_30 rfl rfl ?_
    refine G.callF0 d5_31 (hw 31 rfl) (hw 32 rfl) (hw 33 rfl) (hw 34 rfl) (hw 35 rfl) (hw 36 rfl) (hw 37 rfl) (hw 38 rfl) (hw 39 rfl) (hw 8 rfl) pd_14 (A.ext E1).exa (cLEN K.l Z a0 hw hEL h1 hC s (c :: r) (A.ext E1)) (fun _ q => nomatch q) ?_
    rintro _ h1 _ ⟨⟨n2, rfl, hn2⟩, rfl, rfl⟩ -
    refine G.callI1 d5_36 (hw 131 rfl) (hw 132 rfl) (hw 130 rfl) (hw 133 rfl) pd_15 (cSBIn K.l Z a0 hw hEL h1 hC h0.size n2 (c :: r).length hn2 (by omega) A1.1 A1.2) (by simp) ?_
    rintro _ h2 _ ⟨rfl, ⟨vb, hvb, rfl, B2⟩, K2⟩ -
    have X2 : Keep h0 h2 [] := (ext_keep E1 []).trans K2 (fun x q => by cases List.mem_singleton.mp q; exact Or.inr (Nat.le_refl _))
    have hvb0 : h0.size ≤ vb := Nat.le_trans (Nat.le_of_lt L1) hvb
    refine Go.fewer (S' := [vb, h0.size]) ?_ (by simp)
    refine G.astore1 d5_39 ?_
    refine G.iconst 0 d5_40 ?_
    refine G.istore2 d5_41 ?_
    have loop : ∀ (rest done : List Int32) (h : Heap) (i m : Int32) (x3 : Slot) (_ : x3 = .unset ∨ ∃ q : Int32, x3 = .val (.int q)), done ++ rest = c :: r → (∀ x ∈ done, Ns x) → i.toInt = (done.length : Int) → m.toInt = (done.length : Int) → Keep h0 h [] → Sbx Z h h0.size m vb ((done.map low).map bL ++ List.replicate rest.length (.int 0)) →
        Go Z EL1 false rmNN (QN Z h0 (c :: r)) K h [vb, h0.size] 2 12 42 [.val (.ref s), .val (.ref h0.size), .val (.int i), x3] [] := by
      intro rest
      induction rest with
      | nil =>
        intro done h i m x3 h3 hd hns hi hm hK B
        have Ah := A.keep hK
        refine G.iloadN d5_42 rfl ?_
        refine G.aloadN d5_43 rfl rfl ?_
        refine G.callF0 d5_44 (hw 31 rfl) (hw 32 rfl) (hw 33 rfl) (hw 34 rfl) (hw 35 rfl) (hw 36 rfl) (hw 37 rfl) (hw 38 rfl) (hw 39 rfl) (hw 8 rfl) pd_14 Ah.exa (cLEN K.l Z a0 hw hEL h hC s (c :: r) Ah) (fun _ q => nomatch q) ?_
        rintro _ h _ ⟨⟨n3, rfl, hn3⟩, rfl, rfl⟩ -
        have hl : (c :: r).length = done.length := by rw [← hd]; simp
        refine G.icmp_ge d5_49 (fun _ => ?_) (fun q => absurd q (not_lt_of_toInt (by rw [hi, hn3, hl]; omega)))
        have ed : done = c :: r := by rw [← hd]; simp
        rw [ed] at B hns hm
        have B' : Sbx Z h h0.size m vb (((c :: r).map low).map bL) := by simpa using B
        refine G.aloadN d5_87 rfl rfl ?_
        refine G.callV0 d5_88 (hw 179 rfl) (hw 180 rfl) (hw 182 rfl) (hw 181 rfl) (hw 183 rfl) (hw 130 rfl) pd_27 B'.1.1 (cTOSc K.l Z a0 hw hEL h hC h0.size vb m _ (by rw [hm]; simp) (by simp at h5 ⊢; omega) B') (fun _ q => nomatch q) ?_
        rintro _ h4 _ ⟨⟨t, tb, rfl, T4⟩, E4, rfl⟩ -
        refine G.callS1 d5_91 (hw 218 rfl) (hw 219 rfl) (hw 48 rfl) (hw 220 rfl) pd_28 (cOO K.l Z a0 hw h4 t) (fun _ q => nomatch q) ?_
        rintro _ h5' _ ⟨⟨o, rfl, O5⟩, E5, rfl⟩ -
        refine G.aret d5_94 [] (fun _ q => nomatch q) ⟨⟨o, rfl, Or.inr ⟨⟨c, r, rfl, hlet, hns⟩, t, tb, O5, T4.ext E5⟩⟩, keep_nil_ext ((hK.ext E4).ext E5), rfl⟩
      | cons x rest ih =>
        intro done h i m x3 h3 hd hns hi hm hK B
        have Ah := A.keep hK
        have hl : (c :: r).length = done.length + (rest.length + 1) := by rw [← hd]; simp
        have hg : (c :: r)[done.length]? = some x := by rw [← hd]; simp
        have hx := hch x (List.mem_of_getElem? hg)
        refine G.iloadN d5_42 rfl ?_
        refine G.aloadN d5_43 rfl rfl ?_
        refine G.callF0 d5_44 (hw 31 rfl) (hw 32 rfl) (hw 33 rfl) (hw 34 rfl) (hw 35 rfl) (hw 36 rfl) (hw 37 rfl) (hw 38 rfl) (hw 39 rfl) (hw 8 rfl) pd_14 Ah.exa (cLEN K.l Z a0 hw hEL h hC s (c :: r) Ah) (fun _ q => nomatch q) ?_
        rintro _ h _ ⟨⟨n3, rfl, hn3⟩, rfl, rfl⟩ -
        refine G.icmp_ge d5_49 (fun q => absurd (lt_of_toInt (by rw [hi, hn3, hl]; omega)) q) (fun _ => ?_)
        refine G.aloadN d5_52 rfl rfl ?_
        refine G.iloadN d5_53 rfl ?_
        refine G.callF1 d5_54 (hw 68 rfl) (hw 69 rfl) (hw 70 rfl) (hw 71 rfl) (hw 72 rfl) (hw 73 rfl) (hw 74 rfl) (hw 38 rfl) (hw 75 rfl) (hw 8 rfl) pd_26 Ah.exa (cSCA K.l Z a0 hw hEL h hC hF hU s (c :: r) i done.length hi x hg Ah) (fun _ q => nomatch q) ?_
        rintro _ h _ ⟨rfl, rfl, rfl⟩ -
        have fin : Go Z EL1 false rmNN (QN Z h0 (c :: r)) K h [vb, h0.size] 2 12 60 [.val (.ref s), .val (.ref h0.size), .val (.int i), .val (.int x)] [] := by
          refine G.iloadN d5_60 rfl ?_
          refine G.callS1 d5_61 (hw 146 rfl) (hw 147 rfl) (hw 29 rfl) (hw 148 rfl) pd_22 (cINC K.l Z a0 hw h hN x hx) (fun _ q => nomatch q) ?_
          rintro _ h _ ⟨⟨b, rfl, b01, hb⟩, rfl, rfl⟩ -
          refine G.if_ne d5_64 (fun q => ?_) (fun q => ?_)
          · have hnx := hb.mp q
            have r8 := (low_toInt hnx).1
            refine G.aloadN d5_71 rfl rfl ?_
            refine G.iloadN d5_72 rfl ?_
            refine G.callS1 d5_73 (hw 151 rfl) (hw 152 rfl) (hw 29 rfl) (hw 153 rfl) pd_4 (cILW K.l Z a0 hw h x hnx) (fun _ q => nomatch q) ?_
            rintro _ h _ ⟨rfl, rfl, rfl⟩ -
            refine G.i2c d5_76 ?_
            have e2 : (low x).toUInt32.toUInt16.toUInt32.toInt32 = low x := nar_char r8.1 (by have := r8.2; omega)
            rw [e2]
            refine G.callV1 d5_77 (hw 154 rfl) (hw 155 rfl) (hw 157 rfl) (hw 156 rfl) (hw 158 rfl) (hw 130 rfl) pd_29 B.1.1 (cSBAC K.l Z a0 hw hEL h hC h0.size vb m (low x) r8 ((done.map low).map bL) (.int 0) (List.replicate rest.length (.int 0)) (by simpa using hm) (by simp at h5 hl ⊢; omega) B) (fun _ q => q) ?_
            rintro _ h4 _ ⟨rfl, ⟨m2, hm2, B4⟩, K4, rfl⟩ -
            refine G.pop d5_80 ?_
            refine G.iinc2 1 d5_81 ?_
            refine G.goto d5_84 ?_
            refine ih (done ++ [x]) h4 (i + 1) m2 _ (Or.inr ⟨_, rfl⟩) (by simp [hd]) (fun y z => by rcases List.mem_append.mp z with z | z; exact hns y z; cases List.mem_singleton.mp z; exact hnx) (by rw [inc_toInt hi (by omega)]; simp) (by rw [hm2]; simp) (hK.trans K4 (fun y z => by rcases List.mem_cons.mp z with rfl | z; exact Or.inr hvb0; cases List.mem_singleton.mp z; exact Or.inr (Nat.le_refl _))) ?_
            have e : ((done ++ [x]).map low).map bL ++ List.replicate rest.length (Value.int 0) = (done.map low).map bL ++ bL (low x) :: List.replicate rest.length (.int 0) := by simp
            rw [e]; exact B4
          · refine G.callS0 d5_67 (hw 46 rfl) (hw 47 rfl) (hw 48 rfl) (hw 49 rfl) pd_25 (cOE K.l Z a0 hw h hO) (fun _ q => nomatch q) ?_
            rintro _ h _ ⟨⟨o, rfl, O1⟩, rfl, rfl⟩ -
            exact G.aret d5_70 [] (fun _ q => nomatch q) ⟨⟨o, rfl, Or.inl ⟨fun ⟨c', r', _, _, hall⟩ => (hb.mpr (hall x (List.mem_of_getElem? hg))) q, O1⟩⟩, keep_nil_ext hK, rfl⟩
        rcases h3 with rfl | ⟨w3, rfl⟩
        · refine G.istore3 d5_59 ?_
          exact fin
        · refine G.istore3 d5_59 ?_
          exact fin
    exact loop (c :: r) [] h2 0 0 _ (Or.inl rfl) rfl (fun _ q => nomatch q) toInt_0 toInt_0 X2 (by simpa using B2)
theorem own_os {a0 : Array Value} {s : State} (hj : ∀ (i : Nat) (d : Jvm.Cond), jdkStatics_1[i]? = some d → d.before a0 s = true) : OS s := by
  have x1 := Cond.before_iff.mp (hj 11 _ rfl)
  obtain ⟨e, ev⟩ := exa_v x1
  have nv := null_v (Cond.before_iff.mp (hj 12 _ rfl))
  refine ⟨e, Sta.start ev (Or.inl (hj 10 _ rfl)), Exa.start ev x1, Fld.start ?_⟩
  simp only [Term.eval] at nv ev
  simp only [ev] at nv
  exact nv
theorem or_e {args : Array Value} {first s : State} {o : Option Outcome} {idx : List Nat} {c d : Jvm.Cond} (h : (Jvm.Cond.or c d).value args first o s idx = some true) : c.value args first o s idx = some true ∨ (c.value args first o s idx = some false ∧ d.value args first o s idx = some true) := by
  simp only [Cond.value] at h
  cases hc : c.value args first o s idx with
  | none => simp [hc] at h
  | some q => cases q <;> simp [hc] at h ⊢; exact h
abbrev NT : Term := Term.static "com/example/nameshelf/nameshelf/uri/InfoUri" "NAMESPACE" "[Z"
theorem ix_eval {args : Array Value} {first s : State} {o : Option Outcome} (i : Nat) : (Term.index 0).eval args first o [i] s = some (.int i.toInt32) := by simp [Term.eval]
theorem i32n {i : Nat} (h : i < 128) : (i.toInt32).toInt = (i : Int) := len_toInt (n := i) (by omega)
theorem arrayAt_heap {s : State} {a : Addr} {cell : Cell} (h : s.arrayAt? a = some cell) : s.heap[a]? = some cell := by
  unfold State.arrayAt? at h
  cases hc : s.heap[a]? with
  | none => simp [hc] at h
  | some c =>
    cases hk : s.vm.classes[c.cls]? with
    | none => simp [hc, hk] at h
    | some k =>
      simp only [hc, hk, Option.bind_eq_bind, Option.bind_some] at h
      split at h
      · cases h
      · split at h
        · exact h
        · cases h
theorem le_ix {args : Array Value} {first s : State} {o : Option Outcome} {k : Int32} {i : Nat} (hi : i < 128) (h : (Jvm.Cond.le (Term.int k) (Term.index 0)).value args first o s [i] = some true) : k.toInt ≤ (i : Int) := by
  have e := Cond.le_ints (Term.int_eval k) (ix_eval (args := args) (first := first) (o := o) (s := s) i)
  have d := of_decide_eq_true (Option.some.inj (e.symm.trans h))
  rw [Int32.le_iff_toInt_le, i32n hi] at d
  exact d
theorem lt_ix {args : Array Value} {first s : State} {o : Option Outcome} {k : Int32} {i : Nat} (hi : i < 128) (h : (Jvm.Cond.lt (Term.index 0) (Term.int k)).value args first o s [i] = some true) : (i : Int) < k.toInt := by
  have e := Cond.lt_ints (ix_eval (args := args) (first := first) (o := o) (s := s) i) (Term.int_eval k)
  have d := of_decide_eq_true (Option.some.inj (e.symm.trans h))
  rw [Int32.lt_iff_toInt_lt, i32n hi] at d
  exact d
theorem own_ns {args : Array Value} {s : State} (hw : hwT args s) (hn : narrow_1.value args s none s [] = some true) : NS s := by
  obtain ⟨n1, hn⟩ := and_e hn
  obtain ⟨n2, hn⟩ := and_e hn
  obtain ⟨n3, hn⟩ := and_e hn
  obtain ⟨n4, hn⟩ := and_e hn
  obtain ⟨n5, hn⟩ := and_e hn
  obtain ⟨n6, hn⟩ := and_e hn
  obtain ⟨n7, hn⟩ := and_e hn
  obtain ⟨n8, hn⟩ := and_e hn
  obtain ⟨n9, hn⟩ := and_e hn
  obtain ⟨n10, hn⟩ := and_e hn
  obtain ⟨n11, hn⟩ := and_e hn
  obtain ⟨n12, hn⟩ := and_e hn
  obtain ⟨n13, n14⟩ := and_e hn
  obtain ⟨na, ev⟩ := arr_v n1
  have l2 := Cond.eq_int (beq_iff_eq.mpr n2) rfl
  obtain ⟨cell, hcell, hsz⟩ : ∃ cell, s.arrayAt? na = some cell ∧ cell.slots.size = 128 := by
    have ev' := ev
    simp only [Term.eval] at l2 ev'
    simp only [ev'] at l2
    cases hc : s.arrayAt? na with
    | none => simp [hc] at l2
    | some cell =>
      refine ⟨cell, rfl, ?_⟩
      simp only [hc, Option.pure_def, Option.bind_eq_bind, Option.bind_some] at l2
      split at l2
      · rename_i hlt
        have := congrArg Int32.toInt (Value.int.inj (Option.some.inj l2))
        rw [show cell.slots.size.toInt32 = Int32.ofNat cell.slots.size from rfl, len_toInt (by omega), show (128 : Int32).toInt = 128 from by decide] at this
        omega
      · cases l2
  have elem : ∀ (t : Term) (i : Nat) (idx : List Nat) (b : Int32), t.eval args s none idx s = some (.int (Int32.ofNat i)) → i < 128 → (Cond.eq (Term.elem NT t) (Term.int b)).value args s none s idx = some true → cell.slots[i]? = some (.int b) := by
    intro t i idx b ht hi hv
    have h1 := Cond.eq_int (beq_iff_eq.mpr hv) rfl
    have hz : (Int32.ofNat i).toInt = (i : Int) := len_toInt (by omega)
    obtain ⟨z1, z2⟩ := nat_idx hz
    have ev2 : NT.eval args s none idx s = some (.ref na) := ev
    simp only [Term.eval] at h1 ev2
    simp only [ev2, ht] at h1
    simp only [hcell, Option.pure_def, Option.bind_eq_bind, Option.bind_some, if_neg z1, z2] at h1
    exact h1
  have E : ∀ (i : Nat) (b : Int32), i < 128 → (Cond.eq (Term.elem NT (Term.index 0)) (Term.int b)).value args s none s [i] = some true → cell.slots[i]? = some (.int b) := fun i b hi hv => elem _ i [i] b (ix_eval i) hi hv
  have L : ∀ (z b : Int32) (i : Nat), (Cond.eq (Term.elem NT (Term.int z)) (Term.int b)).value args s none s [] = some true → z = Int32.ofNat i → i < 128 → cell.slots[i]? = some (.int b) := fun z b i hv hz hi => elem _ i [] b (by rw [Term.int_eval, hz]) hi hv
  have R : ∀ (lo hi' b : Int32) (i : Nat), i < 128 → lo.toInt ≤ (i : Int) → (i : Int) < hi'.toInt → (Cond.all NT (Cond.or (Cond.lt (Term.index 0) (Term.int lo)) (Cond.or (Cond.le (Term.int hi') (Term.index 0)) (Cond.eq (Term.elem NT (Term.index 0)) (Term.int b))))).value args s none s [] = some true → cell.slots[i]? = some (.int b) := by
    intro lo hi' b i hi h1 h2 hv
    have := Cond.all_elim ev hcell hv i (by omega)
    rcases or_e this with q | ⟨-, q⟩
    · have := lt_ix hi q; omega
    · rcases or_e q with q | ⟨-, q⟩
      · have := le_ix hi q; omega
      · exact E i b hi q
  have V : ∀ i, i < 128 → ∃ b : Int32, cell.slots[i]? = some (.int b) ∧ (b = 0 ∨ b = 1) ∧ (b ≠ 0 ↔ NsN i) := by
    intro i hi
    have k0 : (0 : Int32) = 0 ∨ (0 : Int32) = 1 := Or.inl rfl
    have k1 : (1 : Int32) = 0 ∨ (1 : Int32) = 1 := Or.inr rfl
    have no : ¬ NsN i → ((0 : Int32) ≠ 0 ↔ NsN i) := fun q => ⟨fun z => absurd rfl z, fun z => absurd z q⟩
    have yes : NsN i → ((1 : Int32) ≠ 0 ↔ NsN i) := fun q => ⟨fun _ => q, fun _ => by decide⟩
    by_cases q1 : i < 43
    · have := Cond.all_elim ev hcell n3 i (by omega)
      rcases or_e this with q | ⟨-, q⟩
      · have := le_ix hi q
        rw [show (43 : Int32).toInt = 43 from by decide] at this
        omega
      · exact ⟨0, E i 0 hi q, k0, no (fun z => by unfold NsN at z; omega)⟩
    by_cases q2 : i = 43
    · subst q2; exact ⟨1, L 43 1 43 n4 (by decide) (by decide), k1, yes (by unfold NsN; omega)⟩
    by_cases q3 : i = 44
    · subst q3; exact ⟨0, L 44 0 44 n5 (by decide) (by decide), k0, no (fun z => by unfold NsN at z; omega)⟩
    by_cases q4 : i = 45
    · subst q4; exact ⟨1, L 45 1 45 n6 (by decide) (by decide), k1, yes (by unfold NsN; omega)⟩
    by_cases q5 : i = 46
    · subst q5; exact ⟨1, L 46 1 46 n7 (by decide) (by decide), k1, yes (by unfold NsN; omega)⟩
    by_cases q6 : i = 47
    · subst q6; exact ⟨0, L 47 0 47 n8 (by decide) (by decide), k0, no (fun z => by unfold NsN at z; omega)⟩
    have t48 : (48 : Int32).toInt = 48 := by decide
    have t58 : (58 : Int32).toInt = 58 := by decide
    have t65 : (65 : Int32).toInt = 65 := by decide
    have t91 : (91 : Int32).toInt = 91 := by decide
    have t97 : (97 : Int32).toInt = 97 := by decide
    have t123 : (123 : Int32).toInt = 123 := by decide
    by_cases q7 : i < 58
    · exact ⟨1, R 48 58 1 i hi (by omega) (by omega) n9, k1, yes (by unfold NsN; omega)⟩
    by_cases q8 : i < 65
    · exact ⟨0, R 58 65 0 i hi (by omega) (by omega) n10, k0, no (fun z => by unfold NsN at z; omega)⟩
    by_cases q9 : i < 91
    · exact ⟨1, R 65 91 1 i hi (by omega) (by omega) n11, k1, yes (by unfold NsN; omega)⟩
    by_cases q10 : i < 97
    · exact ⟨0, R 91 97 0 i hi (by omega) (by omega) n12, k0, no (fun z => by unfold NsN at z; omega)⟩
    by_cases q11 : i < 123
    · exact ⟨1, R 97 123 1 i hi (by omega) (by omega) n13, k1, yes (by unfold NsN; omega)⟩
    · have := Cond.all_elim ev hcell n14 i (by omega)
      rcases or_e this with q | ⟨-, q⟩
      · have := lt_ix hi q; omega
      · exact ⟨0, E i 0 hi q, k0, no (fun z => by unfold NsN at z; omega)⟩
  refine ⟨na, cell.slots.toList, Sta.start ev (Or.inr ⟨(hw 29 rfl), (hw 150 rfl)⟩), ?_, ?_⟩
  · obtain ⟨c, hA⟩ := Arr.start ev n1
    have e : c = cell := Option.some.inj (hA.1.symm.trans (arrayAt_heap hcell))
    subst e
    refine ⟨c, hA, by simp, by simp [hsz], fun v hv => ?_⟩
    obtain ⟨i, hi⟩ := List.getElem?_of_mem hv
    have hlt : i < 128 := by
      have := (List.getElem?_eq_some_iff.mp hi).1
      simpa [hsz] using this
    obtain ⟨b, hb, b01, -⟩ := V i hlt
    have : v = .int b := Option.some.inj (hi.symm.trans (by simpa using hb))
    subst this
    rcases b01 with rfl | rfl <;> decide
  · intro i hi
    obtain ⟨b, hb, r⟩ := V i hi
    exact ⟨b, by simpa using hb, r⟩
theorem vld_iff (c0 c1 c2 c3 c4 : Int32) (k : Nat) (hk : k ≤ 5) : Vld ([c0, c1, c2, c3, c4].take k) ↔ (1 ≤ k ∧ Let c0 ∧ (k < 2 ∨ Ns c1) ∧ (k < 3 ∨ Ns c2) ∧ (k < 4 ∨ Ns c3) ∧ (k < 5 ∨ Ns c4)) := by
  have hk' : k = 0 ∨ k = 1 ∨ k = 2 ∨ k = 3 ∨ k = 4 ∨ k = 5 := by omega
  constructor
  · rintro ⟨c, r, e, hl, hall⟩
    rcases hk' with rfl | rfl | rfl | rfl | rfl | rfl
    · cases e
    · cases e; exact ⟨by omega, hl, Or.inl (by omega), Or.inl (by omega), Or.inl (by omega), Or.inl (by omega)⟩
    · cases e; exact ⟨by omega, hl, Or.inr (hall _ (by simp)), Or.inl (by omega), Or.inl (by omega), Or.inl (by omega)⟩
    · cases e; exact ⟨by omega, hl, Or.inr (hall _ (by simp)), Or.inr (hall _ (by simp)), Or.inl (by omega), Or.inl (by omega)⟩
    · cases e; exact ⟨by omega, hl, Or.inr (hall _ (by simp)), Or.inr (hall _ (by simp)), Or.inr (hall _ (by simp)), Or.inl (by omega)⟩
    · cases e; exact ⟨by omega, hl, Or.inr (hall _ (by simp)), Or.inr (hall _ (by simp)), Or.inr (hall _ (by simp)), Or.inr (hall _ (by simp))⟩
  · rintro ⟨h1, hl, h2, h3, h4, h5⟩
    have g1 : 2 ≤ k → Ns c1 := fun z => by rcases h2 with q | q; omega; exact q
    have g2 : 3 ≤ k → Ns c2 := fun z => by rcases h3 with q | q; omega; exact q
    have g3 : 4 ≤ k → Ns c3 := fun z => by rcases h4 with q | q; omega; exact q
    have g4 : 5 ≤ k → Ns c4 := fun z => by rcases h5 with q | q; omega; exact q
    have A : ∀ {x y : Int32} {l : List Int32}, Ns y → (∀ z ∈ l, Ns z) → ∀ z ∈ y :: l, Ns z := fun hy hl z q => by rcases List.mem_cons.mp q with rfl | q; exact hy; exact hl z q
    have N0 : ∀ z ∈ ([] : List Int32), Ns z := fun _ q => nomatch q
    rcases hk' with rfl | rfl | rfl | rfl | rfl | rfl
    · omega
    · exact ⟨c0, [], rfl, hl, A (x := c0) (Or.inl hl) N0⟩
    · exact ⟨c0, [c1], rfl, hl, A (x := c0) (Or.inl hl) (A (x := c0) (g1 (by omega)) N0)⟩
    · exact ⟨c0, [c1, c2], rfl, hl, A (x := c0) (Or.inl hl) (A (x := c0) (g1 (by omega)) (A (x := c0) (g2 (by omega)) N0))⟩
    · exact ⟨c0, [c1, c2, c3], rfl, hl, A (x := c0) (Or.inl hl) (A (x := c0) (g1 (by omega)) (A (x := c0) (g2 (by omega)) (A (x := c0) (g3 (by omega)) N0)))⟩
    · exact ⟨c0, [c1, c2, c3, c4], rfl, hl, A (x := c0) (Or.inl hl) (A (x := c0) (g1 (by omega)) (A (x := c0) (g2 (by omega)) (A (x := c0) (g3 (by omega)) (A (x := c0) (g4 (by omega)) N0))))⟩
theorem n6 (x : Int32) : 0 ≤ ((x &&& 2147483647) % 6).toInt ∧ ((x &&& 2147483647) % 6).toInt < 6 := by
  have a1 := c_mask x 2147483647 31 (by decide) (by decide)
  have e : ((2 ^ 31 : Nat) : Int) = 2147483648 := by decide
  rw [e] at a1
  have a2 := (c_irem (x &&& 2147483647) 6 6 (by decide)).1 (by omega)
  omega
theorem law1 (l : Launch) (Z : State) (a0 : Array Value) (hw : hwT a0 Z) (h0 : Heap) (hC : CS Z) (hF : SF Z) (hU : US Z) (hO : OS Z) (hN : NS Z) (n a b c d e : Int32) : Con l Z EL1 false x code maxLocals ret tables_1 room_1 #[.int n, .int a, .int b, .int c, .int d, .int e] h0 [] (fun v h S' => v = some (.int 1)) := by
  have hEL := hEL1 hw
  refine Con.enter (a0 := a0) pn_48 hEL [.val (.int n), .val (.int a), .val (.int b), .val (.int c), .val (.int d), .val (.int e), .unset, .unset, .unset, .unset, .unset, .unset, .unset, .unset, .unset, .unset, .unset] (fun m => by first | (simp [entryFrame, mkF, argsToLocals, Value.category, maxLocals]; done) | rfl) ?_
  intro K G
  refine G.iloadN d0_0 rfl ?_
  refine G.ldcI d0_1 (hw 0 rfl) ?_
  refine G.iand d0_3 ?_
  refine G.bipush 6 d0_4 ?_
  refine G.irem d0_6 (by decide) ?_
  refine G.istore6 d0_7 ?_
  refine G.iloadN d0_9 rfl ?_
  refine G.i2c d0_10 ?_
  refine G.istore7 d0_11 ?_
  refine G.iloadN d0_13 rfl ?_
  refine G.i2c d0_14 ?_
  refine G.istore8 d0_15 ?_
  refine G.iloadN d0_17 rfl ?_
  refine G.i2c d0_18 ?_
  refine G.istore9 d0_19 ?_
  refine G.iload d0_21 rfl ?_
  refine G.i2c d0_23 ?_
  refine G.istore10 d0_24 ?_
  refine G.iload d0_26 rfl ?_
  refine G.i2c d0_28 ?_
  refine G.istore11 d0_29 ?_
  refine G.iload d0_31 rfl ?_
  refine G.iload d0_33 rfl ?_
  refine G.iload d0_35 rfl ?_
  refine G.iload d0_37 rfl ?_
  refine G.iload d0_39 rfl ?_
  refine G.iload d0_41 rfl ?_
  obtain ⟨len, hlen, k, hk, hk5⟩ : ∃ q, q = (n &&& 2147483647) % 6 ∧ ∃ k : Nat, q.toInt = (k : Int) ∧ k ≤ 5 := ⟨_, rfl, ((n &&& 2147483647) % 6).toInt.toNat, by have := n6 n; omega, by have := n6 n; omega⟩
  obtain ⟨c0, h0', r0⟩ : ∃ q, q = a.toUInt32.toUInt16.toUInt32.toInt32 ∧ C16 q := ⟨_, rfl, ch16 _⟩
  obtain ⟨c1, h1', r1⟩ : ∃ q, q = b.toUInt32.toUInt16.toUInt32.toInt32 ∧ C16 q := ⟨_, rfl, ch16 _⟩
  obtain ⟨c2, h2', r2⟩ : ∃ q, q = c.toUInt32.toUInt16.toUInt32.toInt32 ∧ C16 q := ⟨_, rfl, ch16 _⟩
  obtain ⟨c3, h3', r3⟩ : ∃ q, q = d.toUInt32.toUInt16.toUInt32.toInt32 ∧ C16 q := ⟨_, rfl, ch16 _⟩
  obtain ⟨c4, h4', r4⟩ : ∃ q, q = e.toUInt32.toUInt16.toUInt32.toInt32 ∧ C16 q := ⟨_, rfl, ch16 _⟩
  rw [← hlen, ← h0', ← h1', ← h2', ← h3', ← h4']
  clear hlen h0' h1' h2' h3' h4'
  have i1 : (1 : Int32).toInt = 1 := by decide
  have i2 : (2 : Int32).toInt = 2 := by decide
  have i3 : (3 : Int32).toInt = 3 := by decide
  have i4 : (4 : Int32).toInt = 4 := by decide
  have i5 : (5 : Int32).toInt = 5 := by decide
  have hcl : ([c0, c1, c2, c3, c4].take k).length = k := by simp; omega
  have hch : Ch ([c0, c1, c2, c3, c4].take k) := fun z q => (Ch.cons r0 (Ch.cons r1 (Ch.cons r2 (Ch.cons r3 (Ch.cons r4 Ch.nil))))) z (List.mem_of_mem_take q)
  have VI := vld_iff c0 c1 c2 c3 c4 k hk5
  have tail66 : ∀ (h : Heap) (ar s o : Addr), ((¬ Vld ([c0, c1, c2, c3, c4].take k) ∧ Opt Z h o .null) ∨ (Vld ([c0, c1, c2, c3, c4].take k) ∧ ∃ t tb, Opt Z h o (.ref t) ∧ StrB Z h t 0 tb ((([c0, c1, c2, c3, c4].take k).map low).map bL))) →
      Go Z EL1 false room_1 (fun v h S' => v = some (.int 1)) K h [] 12 120 66 [.val (.int n), .val (.int a), .val (.int b), .val (.int c), .val (.int d), .val (.int e), .val (.int len), .val (.int c0), .val (.int c1), .val (.int c2), .val (.int c3), .val (.int c4), .val (.ref ar), .val (.ref s), .val (.ref o), .unset, .unset] [] := by
    intro h ar s o hgot
    have hOe : Exa Z h o "java/util/Optional" := by rcases hgot with q | ⟨-, t, tb, q, -⟩; exact q.2.1; exact q.1
    have tail141 : ∀ (b15 : Int32), (b15 ≠ 0 ↔ Vld ([c0, c1, c2, c3, c4].take k)) → Go Z EL1 false room_1 (fun v h S' => v = some (.int 1)) K h [] 12 120 141 [.val (.int n), .val (.int a), .val (.int b), .val (.int c), .val (.int d), .val (.int e), .val (.int len), .val (.int c0), .val (.int c1), .val (.int c2), .val (.int c3), .val (.int c4), .val (.ref ar), .val (.ref s), .val (.ref o), .unset, .unset] [.int b15] := by
      intro b15 hb
      refine G.istore15 d0_141 ?_
      refine G.iload d0_143 rfl ?_
      refine G.if_ne d0_145 (fun q => ?_) (fun q => ?_)
      · have hv := hb.mp q
        rcases hgot with ⟨z, -⟩ | ⟨-, t, tb, O1, T1⟩
        · exact absurd hv z
        obtain ⟨y0, y1, hy, hy2, hall⟩ := hv
        have hlat : Lat (([c0, c1, c2, c3, c4].take k).map low) := fun z w => by
          obtain ⟨y, h1, h2⟩ := List.mem_map.mp w
          rw [← h2]; exact (low_toInt (hall y h1)).1
        have T : Str Z h t (([c0, c1, c2, c3, c4].take k).map low) := ⟨fun z w => ⟨(hlat z w).1, by have := (hlat z w).2; omega⟩, tb, Or.inl ⟨hlat, T1⟩⟩
        refine G.aload d0_162 rfl rfl ?_
        refine G.callV0 d0_164 (hw 51 rfl) (hw 52 rfl) (hw 54 rfl) (hw 53 rfl) (hw 55 rfl) (hw 48 rfl) pd_12 hOe (cOPr K.l Z a0 hw h o t O1) (fun _ q => nomatch q) ?_
        rintro _ h _ ⟨rfl, rfl, rfl⟩ -
        refine G.if_ne d0_167 (fun _ => ?_) (fun q => absurd q (by decide))
        refine G.aload d0_172 rfl rfl ?_
        refine G.callV0 d0_174 (hw 232 rfl) (hw 233 rfl) (hw 235 rfl) (hw 234 rfl) (hw 236 rfl) (hw 48 rfl) pd_30 hOe (cOG K.l Z a0 hw h o t O1) (fun _ q => nomatch q) ?_
        rintro _ h _ ⟨rfl, rfl, rfl⟩ -
        refine G.castR d0_177 (hw 6 rfl) (Ins.self T1.1) ?_
        refine G.astore16 d0_180 ?_
        refine G.aload d0_182 rfl rfl ?_
        refine G.callV0 d0_184 (hw 237 rfl) (hw 238 rfl) (hw 239 rfl) (hw 35 rfl) (hw 39 rfl) (hw 8 rfl) pd_14 T.exa (cLEN K.l Z a0 hw hEL h hC t _ T) (fun _ q => nomatch q) ?_
        rintro _ h _ ⟨⟨j, rfl, hj⟩, rfl, rfl⟩ -
        rw [List.length_map, hcl] at hj
        refine G.iload d0_187 rfl ?_
        refine G.icmp_eq d0_189 (fun _ => ?_) (fun q => absurd (Int32.toInt_inj.mp (by rw [hj, hk])) q)
        have gi : ∀ (i : Nat) (y : Int32), i < k → [c0, c1, c2, c3, c4][i]? = some y → (([c0, c1, c2, c3, c4].take k).map low)[i]? = some (low y) := by
          intro i y hi hy
          rw [List.getElem?_map, List.getElem?_take, if_pos hi, hy]; rfl
        have k1 : 1 ≤ k := (VI.mp ⟨y0, y1, hy, hy2, hall⟩).1
        have t288 : Go Z EL1 false room_1 (fun v h S' => v = some (.int 1)) K h [] 12 120 288 [.val (.int n), .val (.int a), .val (.int b), .val (.int c), .val (.int d), .val (.int e), .val (.int len), .val (.int c0), .val (.int c1), .val (.int c2), .val (.int c3), .val (.int c4), .val (.ref ar), .val (.ref s), .val (.ref o), .val (.int b15), .val (.ref t)] [] := by
          refine G.iconst 1 d0_288 ?_
          refine G.goto d0_289 ?_
          exact G.nret d0_293 (Or.inl rfl) (z' := 1) (by decide) [] (fun _ q => nomatch q) rfl
        have t268 : Go Z EL1 false room_1 (fun v h S' => v = some (.int 1)) K h [] 12 120 268 [.val (.int n), .val (.int a), .val (.int b), .val (.int c), .val (.int d), .val (.int e), .val (.int len), .val (.int c0), .val (.int c1), .val (.int c2), .val (.int c3), .val (.int c4), .val (.ref ar), .val (.ref s), .val (.ref o), .val (.int b15), .val (.ref t)] [] := by
          refine G.iload d0_268 rfl ?_
          refine G.iconst 5 d0_270 ?_
          refine G.icmp_lt d0_271 (fun _ => t288) (fun q => ?_)
          rw [Int32.lt_iff_toInt_lt, hk, i5] at q
          refine G.aload d0_274 rfl rfl ?_
          refine G.iconst 4 d0_276 ?_
          refine G.callV1 d0_277 (hw 240 rfl) (hw 241 rfl) (hw 242 rfl) (hw 72 rfl) (hw 75 rfl) (hw 8 rfl) pd_26 T.exa (cSCA K.l Z a0 hw hEL h hC hF hU t _ 4 4 (by decide) (low c4) (gi 4 c4 (by omega) rfl) T) (fun _ q => nomatch q) ?_
          rintro _ h _ ⟨rfl, rfl, rfl⟩ -
          refine G.iload d0_280 rfl ?_
          refine G.callS1 d0_282 (hw 243 rfl) (hw 244 rfl) (hw 3 rfl) (hw 245 rfl) pd_31 (cLLW K.l Z a0 hw h c4 r4) (fun _ q => nomatch q) ?_
          rintro _ h _ ⟨rfl, rfl, rfl⟩ -
          exact G.icmp_ne d0_285 (fun q => absurd rfl q) (fun _ => t288)
        have t248 : Go Z EL1 false room_1 (fun v h S' => v = some (.int 1)) K h [] 12 120 248 [.val (.int n), .val (.int a), .val (.int b), .val (.int c), .val (.int d), .val (.int e), .val (.int len), .val (.int c0), .val (.int c1), .val (.int c2), .val (.int c3), .val (.int c4), .val (.ref ar), .val (.ref s), .val (.ref o), .val (.int b15), .val (.ref t)] [] := by
          refine G.iload d0_248 rfl ?_
          refine G.iconst 4 d0_250 ?_
          refine G.icmp_lt d0_251 (fun _ => t268) (fun q => ?_)
          rw [Int32.lt_iff_toInt_lt, hk, i4] at q
          refine G.aload d0_254 rfl rfl ?_
          refine G.iconst 3 d0_256 ?_
          refine G.callV1 d0_257 (hw 240 rfl) (hw 241 rfl) (hw 242 rfl) (hw 72 rfl) (hw 75 rfl) (hw 8 rfl) pd_26 T.exa (cSCA K.l Z a0 hw hEL h hC hF hU t _ 3 3 (by decide) (low c3) (gi 3 c3 (by omega) rfl) T) (fun _ q => nomatch q) ?_
          rintro _ h _ ⟨rfl, rfl, rfl⟩ -
          refine G.iload d0_260 rfl ?_
          refine G.callS1 d0_262 (hw 243 rfl) (hw 244 rfl) (hw 3 rfl) (hw 245 rfl) pd_31 (cLLW K.l Z a0 hw h c3 r3) (fun _ q => nomatch q) ?_
          rintro _ h _ ⟨rfl, rfl, rfl⟩ -
          exact G.icmp_ne d0_265 (fun q => absurd rfl q) (fun _ => t268)
        have t228 : Go Z EL1 false room_1 (fun v h S' => v = some (.int 1)) K h [] 12 120 228 [.val (.int n), .val (.int a), .val (.int b), .val (.int c), .val (.int d), .val (.int e), .val (.int len), .val (.int c0), .val (.int c1), .val (.int c2), .val (.int c3), .val (.int c4), .val (.ref ar), .val (.ref s), .val (.ref o), .val (.int b15), .val (.ref t)] [] := by
          refine G.iload d0_228 rfl ?_
          refine G.iconst 3 d0_230 ?_
          refine G.icmp_lt d0_231 (fun _ => t248) (fun q => ?_)
          rw [Int32.lt_iff_toInt_lt, hk, i3] at q
          refine G.aload d0_234 rfl rfl ?_
          refine G.iconst 2 d0_236 ?_
          refine G.callV1 d0_237 (hw 240 rfl) (hw 241 rfl) (hw 242 rfl) (hw 72 rfl) (hw 75 rfl) (hw 8 rfl) pd_26 T.exa (cSCA K.l Z a0 hw hEL h hC hF hU t _ 2 2 (by decide) (low c2) (gi 2 c2 (by omega) rfl) T) (fun _ q => nomatch q) ?_
          rintro _ h _ ⟨rfl, rfl, rfl⟩ -
          refine G.iload d0_240 rfl ?_
          refine G.callS1 d0_242 (hw 243 rfl) (hw 244 rfl) (hw 3 rfl) (hw 245 rfl) pd_31 (cLLW K.l Z a0 hw h c2 r2) (fun _ q => nomatch q) ?_
          rintro _ h _ ⟨rfl, rfl, rfl⟩ -
          exact G.icmp_ne d0_245 (fun q => absurd rfl q) (fun _ => t248)
        have t208 : Go Z EL1 false room_1 (fun v h S' => v = some (.int 1)) K h [] 12 120 208 [.val (.int n), .val (.int a), .val (.int b), .val (.int c), .val (.int d), .val (.int e), .val (.int len), .val (.int c0), .val (.int c1), .val (.int c2), .val (.int c3), .val (.int c4), .val (.ref ar), .val (.ref s), .val (.ref o), .val (.int b15), .val (.ref t)] [] := by
          refine G.iload d0_208 rfl ?_
          refine G.iconst 2 d0_210 ?_
          refine G.icmp_lt d0_211 (fun _ => t228) (fun q => ?_)
          rw [Int32.lt_iff_toInt_lt, hk, i2] at q
          refine G.aload d0_214 rfl rfl ?_
          refine G.iconst 1 d0_216 ?_
          refine G.callV1 d0_217 (hw 240 rfl) (hw 241 rfl) (hw 242 rfl) (hw 72 rfl) (hw 75 rfl) (hw 8 rfl) pd_26 T.exa (cSCA K.l Z a0 hw hEL h hC hF hU t _ 1 1 (by decide) (low c1) (gi 1 c1 (by omega) rfl) T) (fun _ q => nomatch q) ?_
          rintro _ h _ ⟨rfl, rfl, rfl⟩ -
          refine G.iload d0_220 rfl ?_
          refine G.callS1 d0_222 (hw 243 rfl) (hw 244 rfl) (hw 3 rfl) (hw 245 rfl) pd_31 (cLLW K.l Z a0 hw h c1 r1) (fun _ q => nomatch q) ?_
          rintro _ h _ ⟨rfl, rfl, rfl⟩ -
          exact G.icmp_ne d0_225 (fun q => absurd rfl q) (fun _ => t228)
        refine G.aload d0_194 rfl rfl ?_
        refine G.iconst 0 d0_196 ?_
        refine G.callV1 d0_197 (hw 240 rfl) (hw 241 rfl) (hw 242 rfl) (hw 72 rfl) (hw 75 rfl) (hw 8 rfl) pd_26 T.exa (cSCA K.l Z a0 hw hEL h hC hF hU t _ 0 0 (by decide) (low c0) (gi 0 c0 (by omega) rfl) T) (fun _ q => nomatch q) ?_
        rintro _ h _ ⟨rfl, rfl, rfl⟩ -
        refine G.iload d0_200 rfl ?_
        refine G.callS1 d0_202 (hw 243 rfl) (hw 244 rfl) (hw 3 rfl) (hw 245 rfl) pd_31 (cLLW K.l Z a0 hw h c0 r0) (fun _ q => nomatch q) ?_
        rintro _ h _ ⟨rfl, rfl, rfl⟩ -
        exact G.icmp_ne d0_205 (fun q => absurd rfl q) (fun _ => t208)
      · have hv : ¬ Vld ([c0, c1, c2, c3, c4].take k) := fun z => (hb.mpr z) q
        rcases hgot with ⟨-, O1⟩ | ⟨z, -⟩
        · refine G.aload d0_148 rfl rfl ?_
          refine G.callV0 d0_150 (hw 51 rfl) (hw 52 rfl) (hw 54 rfl) (hw 53 rfl) (hw 55 rfl) (hw 48 rfl) pd_12 hOe (cOPn K.l Z a0 hw h o O1) (fun _ q => nomatch q) ?_
          rintro _ h _ ⟨rfl, rfl, rfl⟩ -
          refine G.if_ne d0_153 (fun q => absurd rfl q) (fun _ => ?_)
          refine G.iconst 1 d0_156 ?_
          refine G.goto d0_157 ?_
          exact G.nret d0_161 (Or.inl rfl) (z' := 1) (by decide) [] (fun _ q => nomatch q) rfl
        · exact absurd z hv
    have t140 : ¬ Vld ([c0, c1, c2, c3, c4].take k) → Go Z EL1 false room_1 (fun v h S' => v = some (.int 1)) K h [] 12 120 140 [.val (.int n), .val (.int a), .val (.int b), .val (.int c), .val (.int d), .val (.int e), .val (.int len), .val (.int c0), .val (.int c1), .val (.int c2), .val (.int c3), .val (.int c4), .val (.ref ar), .val (.ref s), .val (.ref o), .unset, .unset] [] := by
      intro hv
      refine G.iconst 0 d0_140 ?_
      exact tail141 0 ⟨fun z => absurd rfl z, fun z => absurd z hv⟩
    have t136 : Vld ([c0, c1, c2, c3, c4].take k) → Go Z EL1 false room_1 (fun v h S' => v = some (.int 1)) K h [] 12 120 136 [.val (.int n), .val (.int a), .val (.int b), .val (.int c), .val (.int d), .val (.int e), .val (.int len), .val (.int c0), .val (.int c1), .val (.int c2), .val (.int c3), .val (.int c4), .val (.ref ar), .val (.ref s), .val (.ref o), .unset, .unset] [] := by
      intro hv
      refine G.iconst 1 d0_136 ?_
      refine G.goto d0_137 ?_
      exact tail141 1 ⟨fun _ => hv, fun _ => by decide⟩
    have t122 : 1 ≤ k → Let c0 → (k < 2 ∨ Ns c1) → (k < 3 ∨ Ns c2) → (k < 4 ∨ Ns c3) → Go Z EL1 false room_1 (fun v h S' => v = some (.int 1)) K h [] 12 120 122 [.val (.int n), .val (.int a), .val (.int b), .val (.int c), .val (.int d), .val (.int e), .val (.int len), .val (.int c0), .val (.int c1), .val (.int c2), .val (.int c3), .val (.int c4), .val (.ref ar), .val (.ref s), .val (.ref o), .unset, .unset] [] := by
      intro g0 g1 g2 g3 g4
      refine G.iload d0_122 rfl ?_
      refine G.iconst 5 d0_124 ?_
      refine G.icmp_lt d0_125 (fun q => ?_) (fun q => ?_) <;> rw [Int32.lt_iff_toInt_lt, hk, i5] at q
      · exact t136 (VI.mpr ⟨g0, g1, g2, g3, g4, Or.inl (by omega)⟩)
      · refine G.iload d0_128 rfl ?_
        refine G.callS1 d0_130 (hw 246 rfl) (hw 247 rfl) (hw 3 rfl) (hw 248 rfl) pd_16 (cLNS K.l Z a0 hw h c4) (fun _ q => nomatch q) ?_
        rintro _ h _ ⟨⟨bb, rfl, hbb⟩, rfl, rfl⟩ -
        exact G.if_eq d0_133 (fun z => t140 (fun w => by rcases (VI.mp w).2.2.2.2.2 with u | u; omega; exact (hbb.mpr u) z)) (fun z => t136 (VI.mpr ⟨g0, g1, g2, g3, g4, Or.inr (hbb.mp z)⟩))
    have t108 : 1 ≤ k → Let c0 → (k < 2 ∨ Ns c1) → (k < 3 ∨ Ns c2) → Go Z EL1 false room_1 (fun v h S' => v = some (.int 1)) K h [] 12 120 108 [.val (.int n), .val (.int a), .val (.int b), .val (.int c), .val (.int d), .val (.int e), .val (.int len), .val (.int c0), .val (.int c1), .val (.int c2), .val (.int c3), .val (.int c4), .val (.ref ar), .val (.ref s), .val (.ref o), .unset, .unset] [] := by
      intro g0 g1 g2 g3
      refine G.iload d0_108 rfl ?_
      refine G.iconst 4 d0_110 ?_
      refine G.icmp_lt d0_111 (fun q => ?_) (fun q => ?_) <;> rw [Int32.lt_iff_toInt_lt, hk, i4] at q
      · exact t122 g0 g1 g2 g3 (Or.inl (by omega))
      · refine G.iload d0_114 rfl ?_
        refine G.callS1 d0_116 (hw 246 rfl) (hw 247 rfl) (hw 3 rfl) (hw 248 rfl) pd_16 (cLNS K.l Z a0 hw h c3) (fun _ q => nomatch q) ?_
        rintro _ h _ ⟨⟨bb, rfl, hbb⟩, rfl, rfl⟩ -
        exact G.if_eq d0_119 (fun z => t140 (fun w => by rcases (VI.mp w).2.2.2.2.1 with u | u; omega; exact (hbb.mpr u) z)) (fun z => t122 g0 g1 g2 g3 (Or.inr (hbb.mp z)))
    have t94 : 1 ≤ k → Let c0 → (k < 2 ∨ Ns c1) → Go Z EL1 false room_1 (fun v h S' => v = some (.int 1)) K h [] 12 120 94 [.val (.int n), .val (.int a), .val (.int b), .val (.int c), .val (.int d), .val (.int e), .val (.int len), .val (.int c0), .val (.int c1), .val (.int c2), .val (.int c3), .val (.int c4), .val (.ref ar), .val (.ref s), .val (.ref o), .unset, .unset] [] := by
      intro g0 g1 g2
      refine G.iload d0_94 rfl ?_
      refine G.iconst 3 d0_96 ?_
      refine G.icmp_lt d0_97 (fun q => ?_) (fun q => ?_) <;> rw [Int32.lt_iff_toInt_lt, hk, i3] at q
      · exact t108 g0 g1 g2 (Or.inl (by omega))
      · refine G.iload d0_100 rfl ?_
        refine G.callS1 d0_102 (hw 246 rfl) (hw 247 rfl) (hw 3 rfl) (hw 248 rfl) pd_16 (cLNS K.l Z a0 hw h c2) (fun _ q => nomatch q) ?_
        rintro _ h _ ⟨⟨bb, rfl, hbb⟩, rfl, rfl⟩ -
        exact G.if_eq d0_105 (fun z => t140 (fun w => by rcases (VI.mp w).2.2.2.1 with u | u; omega; exact (hbb.mpr u) z)) (fun z => t108 g0 g1 g2 (Or.inr (hbb.mp z)))
    have t80 : 1 ≤ k → Let c0 → Go Z EL1 false room_1 (fun v h S' => v = some (.int 1)) K h [] 12 120 80 [.val (.int n), .val (.int a), .val (.int b), .val (.int c), .val (.int d), .val (.int e), .val (.int len), .val (.int c0), .val (.int c1), .val (.int c2), .val (.int c3), .val (.int c4), .val (.ref ar), .val (.ref s), .val (.ref o), .unset, .unset] [] := by
      intro g0 g1
      refine G.iload d0_80 rfl ?_
      refine G.iconst 2 d0_82 ?_
      refine G.icmp_lt d0_83 (fun q => ?_) (fun q => ?_) <;> rw [Int32.lt_iff_toInt_lt, hk, i2] at q
      · exact t94 g0 g1 (Or.inl (by omega))
      · refine G.iload d0_86 rfl ?_
        refine G.callS1 d0_88 (hw 246 rfl) (hw 247 rfl) (hw 3 rfl) (hw 248 rfl) pd_16 (cLNS K.l Z a0 hw h c1) (fun _ q => nomatch q) ?_
        rintro _ h _ ⟨⟨bb, rfl, hbb⟩, rfl, rfl⟩ -
        exact G.if_eq d0_91 (fun z => t140 (fun w => by rcases (VI.mp w).2.2.1 with u | u; omega; exact (hbb.mpr u) z)) (fun z => t94 g0 g1 (Or.inr (hbb.mp z)))
    refine G.iload d0_66 rfl ?_
    refine G.iconst 1 d0_68 ?_
    refine G.icmp_lt d0_69 (fun q => ?_) (fun q => ?_) <;> rw [Int32.lt_iff_toInt_lt, hk, i1] at q
    · exact t140 (fun w => by have := (VI.mp w).1; omega)
    · refine G.iload d0_72 rfl ?_
      refine G.callS1 d0_74 (hw 96 rfl) (hw 97 rfl) (hw 3 rfl) (hw 98 rfl) pd_16 (cLIL K.l Z a0 hw h c0) (fun _ q => nomatch q) ?_
      rintro _ h _ ⟨⟨bb, rfl, b01, hbb⟩, rfl, rfl⟩ -
      exact G.if_eq d0_77 (fun z => t140 (fun w => (hbb.mpr (VI.mp w).2.1) z)) (fun z => t80 (by omega) (hbb.mp z))
  refine G.callS6 d0_43 (hw 1 rfl) (hw 2 rfl) (hw 3 rfl) (hw 4 rfl) pd_32 (cMAKE K.l Z a0 hw h0 len c0 c1 c2 c3 c4 k hk hk5 r0 r1 r2 r3 r4) (fun _ q => nomatch q) ?_
  rintro _ h1 _ ⟨⟨ar, rfl, har, A1⟩, E1, rfl⟩ -
  refine G.astore12 d0_46 ?_
  refine G.newO d0_48 (hw 6 rfl) (hw 7 rfl) (hw 8 rfl) (fun h2 E2 L2 A2 => ?_)
  refine G.dup d0_51 ?_
  refine G.aload d0_52 rfl rfl ?_
  have fin : ∀ (h3 : Heap), Str Z h3 h1.size ([c0, c1, c2, c3, c4].take k) → Go Z EL1 false room_1 (fun v h S' => v = some (.int 1)) K h3 [] 7 60 57 [.val (.int n), .val (.int a), .val (.int b), .val (.int c), .val (.int d), .val (.int e), .val (.int len), .val (.int c0), .val (.int c1), .val (.int c2), .val (.int c3), .val (.int c4), .val (.ref ar), .unset, .unset, .unset, .unset] [.ref h1.size] := by
    intro h3 T
    refine G.astore13 d0_57 ?_
    refine G.aload d0_59 rfl rfl ?_
    refine G.callS1 d0_61 (hw 27 rfl) (hw 28 rfl) (hw 29 rfl) (hw 30 rfl) pd_33 (cNN K.l Z a0 hw h3 hC hF hU hO hN h1.size _ (by omega) T) (fun _ q => nomatch q) ?_
    rintro _ h4 _ ⟨⟨o, rfl, hgot⟩, E4, rfl⟩ -
    refine G.astore14 d0_64 ?_
    refine Go.more (k' := 12) (n' := 120) ?_ (by decide) (by decide)
    exact tail66 h4 ar h1.size o hgot
  by_cases hk0 : k = 0
  · subst hk0
    refine G.callI1 d0_54 (hw 9 rfl) (hw 10 rfl) (hw 8 rfl) (hw 11 rfl) pd_34 (cSIA K.l Z a0 hw hEL h2 hC (by simp) h1.size ar [] (by simp) Lat.nil A2.1 A2.2 (A1.ext E2)) (by simp) ?_
    rintro _ h3 _ ⟨rfl, ⟨vb, T3⟩, K3, rfl⟩ -
    refine Go.fewer (S' := []) ?_ (fun _ q => nomatch q)
    refine Go.more (k' := 7) (n' := 60) ?_ (by decide) (by decide)
    exact fin h3 (Str.empty T3)
  · refine G.callI1 d0_54 (hw 9 rfl) (hw 10 rfl) (hw 8 rfl) (hw 11 rfl) pd_34 (cSIg K.l Z a0 hw hEL h2 hC hU h1.size ar ([c0, c1, c2, c3, c4].take k) (by omega) (by omega) hch A2.1 A2.2 (A1.ext E2)) (by simp) ?_
    rintro _ h3 _ ⟨rfl, T3, K3, rfl⟩ -
    refine Go.fewer (S' := []) ?_ (fun _ q => nomatch q)
    refine Go.more (k' := 7) (n' := 60) ?_ (by decide) (by decide)
    exact fin h3 T3
set_option maxRecDepth 65536 in
set_option maxHeartbeats 40000000 in
theorem comes_1 {Post : Tables → Env → Array Value → State → Outcome → State → Prop} (hpost : ∀ tb e args s v u, (limb_1_1.after args s (.returned v) u = true ∧ limb_1_2.after args s (.returned v) u = true ∧ True) → ReturnedEndW s (.returned v) u (Jvm.fieldLocs frame_1_writes args s ++ Jvm.arrayLocs frame_1_arrays args s ++ Jvm.staticLocs frame_1_statics s) 32 1216 → Post tb e args s (.returned v) u) :
    ArmFor flags0 classFile x code maxLocals ret World_1 tables_1 room_1 Calls_1 rest_1 Pre_1 Post := by
  intro l hfl _ _ p e ha hc hk s m args below hf hA hF happ hP
  obtain ⟨hcalls, hrest, hpre⟩ := hP
  obtain ⟨-, -, -, hnamed, -, -, -, hat⟩ := (Spec.applies_iff hf).mp happ
  obtain ⟨hg, hn⟩ := and_e (Cond.before_iff.mp (show (Jvm.Cond.and given_1 narrow_1).before args s = true from hpre))
  obtain ⟨h0, g0⟩ := and_e hg
  obtain ⟨p0, g1⟩ := and_e g0
  obtain ⟨p1, g2⟩ := and_e g1
  obtain ⟨p2, g3⟩ := and_e g2
  obtain ⟨p3, g4⟩ := and_e g3
  obtain ⟨p4, g5⟩ := and_e g4
  obtain ⟨w0, w1, w2, w3, w4, w5, rfl⟩ : ∃ w0 w1 w2 w3 w4 w5 : Value, args = #[w0, w1, w2, w3, w4, w5] := by
    have hs : args.size = 6 := by simpa [Cond.value, given_1] using h0
    obtain ⟨L⟩ := args
    match L, hs with
    | [w0, w1, w2, w3, w4, w5], _ => exact ⟨w0, w1, w2, w3, w4, w5, rfl⟩
  have hw0 := fun d (hd : d ∈ tables_1) => atoms_spec (ws := Jvm.Cond.code x code maxLocals ret :: tables_1) hat d (List.mem_cons_of_mem _ hd)
  have hw : hwT #[w0, w1, w2, w3, w4, w5] s := fun i d q => hw0 d (List.mem_of_getElem? q)
  obtain ⟨i0, e0⟩ := is_v p0
  obtain rfl : w0 = (.int i0) := Option.some.inj e0
  obtain ⟨i1, e1⟩ := is_v p1
  obtain rfl : w1 = (.int i1) := Option.some.inj e1
  obtain ⟨i2, e2⟩ := is_v p2
  obtain rfl : w2 = (.int i2) := Option.some.inj e2
  obtain ⟨i3, e3⟩ := is_v p3
  obtain rfl : w3 = (.int i3) := Option.some.inj e3
  obtain ⟨i4, e4⟩ := is_v p4
  obtain rfl : w4 = (.int i4) := Option.some.inj e4
  obtain ⟨i5, e5⟩ := is_v g5
  obtain rfl : w5 = (.int i5) := Option.some.inj e5
  obtain ⟨hsets, hown0⟩ := atoms_of _ (rest_1_c_eq ▸ (show rest_1_c.before _ s = true from hrest))
  have hcw := hsets _ (List.mem_of_getElem? (i := 2) rfl)
  have nz := not_v (Cond.before_iff.mp hcw)
  obtain ⟨ic, ec⟩ := is_v (Cond.before_iff.mp (hsets _ (List.mem_of_getElem? (i := 1) rfl)))
  have hC : CS s := ⟨ic, Sta.start ec (Or.inl (hsets _ (List.mem_of_getElem? (i := 0) rfl))), gotF (Cond.eq_ints ec (Term.int_eval (0))) nz⟩
  have hU : US s := ⟨Sta.start (Cond.eq_int (hsets _ (List.mem_of_getElem? (i := 16) rfl)) rfl) (Or.inl (hsets _ (List.mem_of_getElem? (i := 15) rfl))), Sta.start (Cond.eq_int (hsets _ (List.mem_of_getElem? (i := 19) rfl)) rfl) (Or.inl (hsets _ (List.mem_of_getElem? (i := 18) rfl))), Sta.start (Cond.eq_int (hsets _ (List.mem_of_getElem? (i := 22) rfl)) rfl) (Or.inl (hsets _ (List.mem_of_getElem? (i := 21) rfl)))⟩
  obtain ⟨vf, ef, rf⟩ := isR_v (Cond.before_iff.mp (hsets _ (List.mem_of_getElem? (i := 8) rfl)))
  have hF' : SF s := ⟨vf, Sta.start ef (Or.inl (hsets _ (List.mem_of_getElem? (i := 7) rfl))), rf⟩
  have hO : OS s := own_os (fun i d q => hsets d (List.mem_of_getElem? q))
  have hN : NS s := own_ns hw hn
  obtain ⟨n, o, h1, h2, h3, v, L, S', rfl, rfl, N, -, -, hq, hnw, -⟩ := law1 l s _ hw s.heap hC hF' hU hO hN i0 i1 i2 i3 i4 i5 p e ha hc hk s m _ below hf ((Spec.applies_iff_loose hf).mp happ).1 ⟨rfl, State.Warmed39.refl s, rfl, CHv.start (hEL1 hw) (fun p hp => hcalls.1 p hp) hcw (hw 20 rfl) (hw 7 rfl), (fun _ q => nomatch q), ⟨Nat.le_refl _, fun _ _ q => q⟩⟩ trivial
  refine ⟨n, _, h1, h2, h3, hpost _ _ _ _ _ _ ⟨Cond.after_iff.mpr rfl, Cond.after_iff.mpr (eq_i res_at (Term.int_eval (1)) rfl), trivial⟩ ⟨⟨_, rfl⟩, hq.2.1, hq.2.2.1, (hq.2.2.2.sift fun y hy => Or.inr (N y hy)).mono (by decide) (by decide)⟩⟩
theorem main_1_1 : Claimed_1_1 := comes_1 fun _ _ _ _ _ _ h hF => ⟨h.1, hF⟩
theorem main_1_2 : Claimed_1_2 := comes_1 fun _ _ _ _ _ _ h hF => ⟨h.2.1, hF⟩
end Jvm.Pilot.@@N@@
namespace Jvm.Pilot.@@N@@
open Jvm Jvm.ClassFile Sem Op Lib Jvm.Free Jvm.Stand Jvm.Pilot.@@N@@.Jvm.D
/-! MADE BY PROGRAM (witnessworld.py) out of the Statement's table words and the real class files: 28 classes; the members and pool entries that the words name. The judged class is class 1, her method 1. -/
namespace start1
open Jvm.ClassFile
def u (s : String) : CpInfo := .utf8 (stringToUtf16 s)
/-- a pool by its gaps: so many unusable entries, then the entry; so many at the end -/
def gap : Nat → List CpInfo → List CpInfo
  | 0, r => r
  | n + 1, r => .unusable :: gap n r
def poolList (es : List (Nat × CpInfo)) (last : Nat) : List CpInfo := es.foldr (fun e r => gap e.1 (e.2 :: r)) (gap last [])
def pool (es : List (Nat × CpInfo)) (last : Nat) : Array CpInfo := ⟨poolList es last⟩
def fileOf (pool : Array CpInfo) (this : Nat) (attrs : Array Attribute := #[]) (ms : Array MethodInfo := #[]) (fl : Nat := 33) (sup : Nat := 0) (ifs : Array Nat := #[]) (fds : Array FieldInfo := #[]) : ClassFile where
  minorVersion := 0
  majorVersion := 65
  constantPool := pool
  accessFlags := fl
  thisClass := this
  superClass := sup
  interfaces := ifs
  fields := fds
  methods := ms
  attributes := attrs
def plain (name : String) (sup : Option ClassId) : Class where
  name := name
  kind := .ordinary
  loader := none
  accessFlags := 33
  super := sup
  interfaces := #[]
  cf := none
  fields := #[]
  methods := #[]
  instanceTypes := #[]
  staticTypes := #[]
  resolved := #[]
  callSites := []
  init := .initialized
  statics := none
  mirror := none

def pool0 : Array CpInfo := pool [(5, u "<init>"), (0, u "()V"), (1, .class_ 10), (1, u "java/lang/Object"), (85, u "clone"), (0, u "()Ljava/lang/Object;")] 26

def k0c0 : Code := { maxStack := 0, maxLocals := 1, code := object_method_1_code, exceptionTable := #[], attributes := #[] }
def k0m0 : Method := { name := "<init>", desc := "()V", sig := { parameters := [], returnType := none }, accessFlags := 1, code := some k0c0 }
def k0m1 : Method := { name := "clone", desc := "()Ljava/lang/Object;", sig := { parameters := [], returnType := some (.object "java/lang/Object") }, accessFlags := 260, code := none }
/-- java/lang/Object -/
def k0 : Class := { plain "java/lang/Object" none with
  accessFlags := 33
  interfaces := #[]
  cf := some (fileOf pool0 8 #[] #[{ accessFlags := 1, nameIndex := 5, descriptorIndex := 6, attributes := #[] }, { accessFlags := 260, nameIndex := 96, descriptorIndex := 97, attributes := #[] }] 33 0 #[] #[])
  fields := #[]
  methods := #[k0m0, k0m1]
  instanceTypes := #[]
  staticTypes := #[]
  resolved := Array.replicate 124 none
  statics := none }

def pool1 : Array CpInfo := pool [(2, .class_ 4), (1, u "java/lang/Object"), (0, u "<init>"), (0, u "()V"), (0, .integer 2147483647), (0, .methodref 9 10), (0, .class_ 11), (0, .nameAndType 12 13), (0, u "com/example/nameshelf/nameshelf/uri/InfoUriNormalNamespacePinLaw"), (0, u "make"), (0, u "(ICCCCC)[C"), (0, .class_ 15), (0, u "java/lang/String"), (0, .methodref 14 17), (0, .nameAndType 5 18), (0, u "([C)V"), (0, .methodref 20 21), (0, .class_ 22), (0, .nameAndType 23 24), (0, u "com/example/nameshelf/nameshelf/uri/InfoUri"), (0, u "normalNamespace"), (0, u "(Ljava/lang/CharSequence;)Ljava/util/Optional;"), (0, .methodref 9 26), (0, .nameAndType 27 28), (0, u "isLetter"), (0, u "(C)Z"), (0, .methodref 9 30), (0, .nameAndType 31 28), (0, u "isNs"), (0, .methodref 33 34), (0, .class_ 35), (0, .nameAndType 36 37), (0, u "java/util/Optional"), (0, u "isPresent"), (0, u "()Z"), (0, .methodref 33 39), (0, .nameAndType 40 41), (0, u "get"), (0, u "()Ljava/lang/Object;"), (0, .methodref 14 43), (0, .nameAndType 44 45), (0, u "length"), (0, u "()I"), (0, .methodref 14 47), (0, .nameAndType 48 49), (0, u "charAt"), (0, u "(I)C"), (0, .methodref 9 51), (0, .nameAndType 52 53), (0, u "lower"), (0, u "(C)C"), (2, u "law"), (0, u "(IIIIII)Z")] 5

def k1m0 : Method := { name := "<init>", desc := "()V", sig := { parameters := [], returnType := none }, accessFlags := 1, code := none }
def k1c1 : Code := { maxStack := 6, maxLocals := 17, code := code, exceptionTable := #[], attributes := #[] }
def k1m1 : Method := { name := "law", desc := "(IIIIII)Z", sig := { parameters := [.int, .int, .int, .int, .int, .int], returnType := some .boolean }, accessFlags := 9, code := some k1c1 }
def k1c2 : Code := { maxStack := 4, maxLocals := 6, code := method_3_code, exceptionTable := #[], attributes := #[] }
def k1m2 : Method := { name := "make", desc := "(ICCCCC)[C", sig := { parameters := [.int, .char, .char, .char, .char, .char], returnType := some (.array .char) }, accessFlags := 10, code := some k1c2 }
def k1c3 : Code := { maxStack := 2, maxLocals := 1, code := method_4_code, exceptionTable := #[], attributes := #[] }
def k1m3 : Method := { name := "isLetter", desc := "(C)Z", sig := { parameters := [.char], returnType := some .boolean }, accessFlags := 10, code := some k1c3 }
def k1c4 : Code := { maxStack := 2, maxLocals := 1, code := method_5_code, exceptionTable := #[], attributes := #[] }
def k1m4 : Method := { name := "isNs", desc := "(C)Z", sig := { parameters := [.char], returnType := some .boolean }, accessFlags := 10, code := some k1c4 }
def k1c5 : Code := { maxStack := 2, maxLocals := 1, code := method_6_code, exceptionTable := #[], attributes := #[] }
def k1m5 : Method := { name := "lower", desc := "(C)C", sig := { parameters := [.char], returnType := some .char }, accessFlags := 10, code := some k1c5 }
/-- com/example/nameshelf/nameshelf/uri/InfoUriNormalNamespacePinLaw -/
def k1 : Class := { plain "com/example/nameshelf/nameshelf/uri/InfoUriNormalNamespacePinLaw" (some 0) with
  accessFlags := 49
  interfaces := #[]
  cf := some (fileOf pool1 9 #[] #[{ accessFlags := 1, nameIndex := 5, descriptorIndex := 6, attributes := #[] }, { accessFlags := 9, nameIndex := 56, descriptorIndex := 57, attributes := #[] }, { accessFlags := 10, nameIndex := 12, descriptorIndex := 13, attributes := #[] }, { accessFlags := 10, nameIndex := 27, descriptorIndex := 28, attributes := #[] }, { accessFlags := 10, nameIndex := 31, descriptorIndex := 28, attributes := #[] }, { accessFlags := 10, nameIndex := 52, descriptorIndex := 53, attributes := #[] }] 49 2 #[] #[])
  fields := #[]
  methods := #[k1m0, k1m1, k1m2, k1m3, k1m4, k1m5]
  instanceTypes := #[]
  staticTypes := #[]
  resolved := Array.replicate 63 none
  statics := none }

def pool2 : Array CpInfo := pool [(1, .class_ 2), (0, u "java/io/Serializable"), (0, .class_ 4), (0, u "java/lang/Object")] 2

/-- java/io/Serializable -/
def k2 : Class := { plain "java/io/Serializable" (some 0) with
  accessFlags := 1537
  interfaces := #[]
  cf := some (fileOf pool2 1 #[] #[] 1537 3 #[] #[])
  fields := #[]
  methods := #[]
  instanceTypes := #[]
  staticTypes := #[]
  resolved := Array.replicate 7 none
  statics := none }

def pool3 : Array CpInfo := pool [(1, .class_ 2), (0, u "java/lang/Comparable"), (0, .class_ 4), (0, u "java/lang/Object")] 7

/-- java/lang/Comparable -/
def k3 : Class := { plain "java/lang/Comparable" (some 0) with
  accessFlags := 1537
  interfaces := #[]
  cf := some (fileOf pool3 1 #[] #[] 1537 3 #[] #[])
  fields := #[]
  methods := #[]
  instanceTypes := #[]
  staticTypes := #[]
  resolved := Array.replicate 12 none
  statics := none }

def pool4 : Array CpInfo := pool [(2, .class_ 4), (1, u "java/lang/CharSequence"), (0, u "length"), (0, u "()I"), (38, u "charAt"), (0, u "(I)C"), (0, .class_ 48), (0, u "java/lang/CharSequence$1CodePointIterator"), (10, .class_ 60), (0, u "java/lang/CharSequence$1CharIterator"), (5, .class_ 67), (0, u "java/lang/Object")] 63

def k4m0 : Method := { name := "length", desc := "()I", sig := { parameters := [], returnType := some .int }, accessFlags := 1025, code := none }
def k4m1 : Method := { name := "charAt", desc := "(I)C", sig := { parameters := [.int], returnType := some .char }, accessFlags := 1025, code := none }
/-- java/lang/CharSequence -/
def k4 : Class := { plain "java/lang/CharSequence" (some 0) with
  accessFlags := 1537
  interfaces := #[]
  cf := some (fileOf pool4 2 #[.nestMembers #[47, 59]] #[{ accessFlags := 1025, nameIndex := 5, descriptorIndex := 6, attributes := #[] }, { accessFlags := 1025, nameIndex := 45, descriptorIndex := 46, attributes := #[] }] 1537 66 #[] #[])
  fields := #[]
  methods := #[k4m0, k4m1]
  instanceTypes := #[]
  staticTypes := #[]
  resolved := Array.replicate 131 none
  statics := none }

def pool5 : Array CpInfo := pool [(1, .class_ 2), (0, u "java/lang/constant/Constable"), (0, .class_ 4), (0, u "java/lang/Object")] 6

/-- java/lang/constant/Constable -/
def k5 : Class := { plain "java/lang/constant/Constable" (some 0) with
  accessFlags := 1537
  interfaces := #[]
  cf := some (fileOf pool5 1 #[] #[] 1537 3 #[] #[])
  fields := #[]
  methods := #[]
  instanceTypes := #[]
  staticTypes := #[]
  resolved := Array.replicate 11 none
  statics := none }

def pool6 : Array CpInfo := pool [(1, .class_ 2), (0, u "java/lang/constant/ConstantDesc"), (0, .class_ 4), (0, u "java/lang/Object")] 32

/-- java/lang/constant/ConstantDesc -/
def k6 : Class := { plain "java/lang/constant/ConstantDesc" (some 0) with
  accessFlags := 1537
  interfaces := #[]
  cf := some (fileOf pool6 1 #[] #[] 1537 3 #[] #[])
  fields := #[]
  methods := #[]
  instanceTypes := #[]
  staticTypes := #[]
  resolved := Array.replicate 37 none
  statics := none }

def pool7 : Array CpInfo := pool [(1, .methodref 2 3), (0, .class_ 4), (0, .nameAndType 5 6), (0, u "java/lang/Object"), (0, u "<init>"), (0, u "()V"), (0, .string 8), (0, u ""), (0, .fieldref 10 11), (0, .class_ 12), (0, .nameAndType 13 14), (0, u "java/lang/String"), (0, u "value"), (0, u "[B"), (0, .fieldref 10 16), (0, .nameAndType 17 18), (0, u "coder"), (0, u "B"), (2, u "hash"), (0, u "I"), (2, u "hashIsZero"), (0, u "Z"), (0, .methodref 10 28), (0, .nameAndType 5 29), (0, u "([CIILjava/lang/Void;)V"), (8, .fieldref 10 39), (0, .nameAndType 40 26), (0, u "COMPACT_STRINGS"), (1, .class_ 44), (1, u "java/lang/StringUTF16"), (0, u "compress"), (1, .methodref 42 48), (0, .nameAndType 49 50), (0, u "coderFromArrayLen"), (0, u "([BI)B"), (3, .methodref 55 56), (0, .class_ 57), (0, .nameAndType 58 59), (0, u "java/util/Arrays"), (0, u "copyOfRange"), (0, u "([BII)[B"), (47, .class_ 109), (1, u "java/lang/StringLatin1"), (32, u "()Z"), (34, .methodref 42 178), (0, .nameAndType 45 179), (0, u "([CII)[B"), (154, u "()I"), (0, .methodref 10 336), (0, .nameAndType 17 337), (0, u "()B"), (2, u "()[B"), (22, u "([BI)C"), (27, u "(II)V"), (35, u "(I)C"), (61, .methodref 10 490), (0, .nameAndType 5 491), (0, u "(Ljava/lang/AbstractStringBuilder;Ljava/lang/Void;)V"), (0, .methodref 10 493), (0, .nameAndType 494 142), (0, u "isLatin1"), (0, .methodref 107 496), (0, .nameAndType 497 363), (0, u "charAt"), (0, .methodref 42 496), (2, u "checkIndex"), (4, .nameAndType 507 334), (0, u "length"), (41, .methodref 550 506), (0, .class_ 551), (0, u "java/lang/AbstractStringBuilder"), (0, .methodref 550 553), (0, .nameAndType 554 340), (0, u "getValue"), (20, .class_ 576), (0, u "java/lang/CharSequence"), (22, u "CASE_INSENSITIVE_ORDER"), (0, u "Ljava/util/Comparator;"), (409, u "([C)V"), (36, .methodref 550 493), (5, .fieldref 1054 1055), (0, .class_ 1056), (0, .nameAndType 1057 1058), (0, u "jdk/internal/util/Preconditions"), (0, u "SIOOBE_FORMATTER"), (0, u "Ljava/util/function/BiFunction;"), (0, .methodref 1054 1060), (0, .nameAndType 501 1061), (0, u "(IILjava/util/function/BiFunction;)I"), (39, u "serialPersistentFields"), (0, u "[Ljava/io/ObjectStreamField;"), (0, .class_ 1104), (0, u "java/lang/String$CaseInsensitiveComparator"), (1, .class_ 1107), (0, u "java/io/Serializable"), (0, .class_ 1109), (0, u "java/lang/Comparable"), (0, .class_ 1111), (0, u "java/lang/constant/Constable"), (0, .class_ 1113), (0, u "java/lang/constant/ConstantDesc"), (2, u "serialVersionUID"), (0, u "J"), (3, u "REPL"), (0, u "C"), (2, u "LATIN1"), (1, u "UTF16"), (105, u "(Ljava/lang/StringBuilder;)V")] 217

def k7m0 : Method := { name := "<init>", desc := "()V", sig := { parameters := [], returnType := none }, accessFlags := 1, code := none }
def k7c1 : Code := { maxStack := 5, maxLocals := 2, code := jdk_42_method_3_code, exceptionTable := #[], attributes := #[] }
def k7m1 : Method := { name := "<init>", desc := "([C)V", sig := { parameters := [(.array .char)], returnType := none }, accessFlags := 1, code := some k7c1 }
def k7c2 : Code := { maxStack := 3, maxLocals := 2, code := jdk_42_method_53_code, exceptionTable := #[], attributes := #[] }
def k7m2 : Method := { name := "<init>", desc := "(Ljava/lang/StringBuilder;)V", sig := { parameters := [(.object "java/lang/StringBuilder")], returnType := none }, accessFlags := 1, code := some k7c2 }
def k7c3 : Code := { maxStack := 2, maxLocals := 1, code := jdk_42_method_54_code, exceptionTable := #[], attributes := #[] }
def k7m3 : Method := { name := "length", desc := "()I", sig := { parameters := [], returnType := some .int }, accessFlags := 1, code := some k7c3 }
def k7c4 : Code := { maxStack := 2, maxLocals := 2, code := jdk_42_method_56_code, exceptionTable := #[], attributes := #[] }
def k7m4 : Method := { name := "charAt", desc := "(I)C", sig := { parameters := [.int], returnType := some .char }, accessFlags := 1, code := some k7c4 }
def k7c5 : Code := { maxStack := 4, maxLocals := 6, code := jdk_42_method_149_code, exceptionTable := #[], attributes := #[] }
def k7m5 : Method := { name := "<init>", desc := "([CIILjava/lang/Void;)V", sig := { parameters := [(.array .char), .int, .int, (.object "java/lang/Void")], returnType := none }, accessFlags := 2, code := some k7c5 }
def k7c6 : Code := { maxStack := 5, maxLocals := 5, code := jdk_42_method_150_code, exceptionTable := #[], attributes := #[] }
def k7m6 : Method := { name := "<init>", desc := "(Ljava/lang/AbstractStringBuilder;Ljava/lang/Void;)V", sig := { parameters := [(.object "java/lang/AbstractStringBuilder"), (.object "java/lang/Void")], returnType := none }, accessFlags := 0, code := some k7c6 }
def k7c7 : Code := { maxStack := 1, maxLocals := 1, code := jdk_42_method_152_code, exceptionTable := #[], attributes := #[] }
def k7m7 : Method := { name := "coder", desc := "()B", sig := { parameters := [], returnType := some .byte }, accessFlags := 0, code := some k7c7 }
def k7c8 : Code := { maxStack := 1, maxLocals := 1, code := jdk_42_method_154_code, exceptionTable := #[], attributes := #[] }
def k7m8 : Method := { name := "isLatin1", desc := "()Z", sig := { parameters := [], returnType := some .boolean }, accessFlags := 0, code := some k7c8 }
def k7c9 : Code := { maxStack := 3, maxLocals := 2, code := jdk_42_method_155_code, exceptionTable := #[], attributes := #[] }
def k7m9 : Method := { name := "checkIndex", desc := "(II)V", sig := { parameters := [.int, .int], returnType := none }, accessFlags := 8, code := some k7c9 }
/-- java/lang/String -/
def k7 : Class := { plain "java/lang/String" (some 0) with
  accessFlags := 49
  interfaces := #[2, 3, 4, 5, 6]
  cf := some (fileOf pool7 10 #[.nestMembers #[1103]] #[{ accessFlags := 1, nameIndex := 5, descriptorIndex := 6, attributes := #[] }, { accessFlags := 1, nameIndex := 5, descriptorIndex := 1010, attributes := #[] }, { accessFlags := 1, nameIndex := 5, descriptorIndex := 1233, attributes := #[] }, { accessFlags := 1, nameIndex := 507, descriptorIndex := 334, attributes := #[] }, { accessFlags := 1, nameIndex := 497, descriptorIndex := 427, attributes := #[] }, { accessFlags := 2, nameIndex := 5, descriptorIndex := 29, attributes := #[] }, { accessFlags := 0, nameIndex := 5, descriptorIndex := 491, attributes := #[] }, { accessFlags := 0, nameIndex := 17, descriptorIndex := 337, attributes := #[] }, { accessFlags := 0, nameIndex := 494, descriptorIndex := 142, attributes := #[] }, { accessFlags := 8, nameIndex := 501, descriptorIndex := 391, attributes := #[] }] 49 2 #[1106, 1108, 575, 1110, 1112] #[{ accessFlags := 18, nameIndex := 13, descriptorIndex := 14, attributes := #[] }, { accessFlags := 18, nameIndex := 17, descriptorIndex := 18, attributes := #[] }, { accessFlags := 2, nameIndex := 21, descriptorIndex := 22, attributes := #[] }, { accessFlags := 2, nameIndex := 25, descriptorIndex := 26, attributes := #[] }, { accessFlags := 26, nameIndex := 1116, descriptorIndex := 1117, attributes := #[] }, { accessFlags := 24, nameIndex := 40, descriptorIndex := 26, attributes := #[] }, { accessFlags := 26, nameIndex := 1101, descriptorIndex := 1102, attributes := #[] }, { accessFlags := 26, nameIndex := 1121, descriptorIndex := 1122, attributes := #[] }, { accessFlags := 25, nameIndex := 599, descriptorIndex := 600, attributes := #[] }, { accessFlags := 24, nameIndex := 1125, descriptorIndex := 18, attributes := #[] }, { accessFlags := 24, nameIndex := 1127, descriptorIndex := 18, attributes := #[] }])
  fields := #[{ name := "value", type := (.array .byte), accessFlags := 18, slot := 0, constantValue := 0 }, { name := "coder", type := .byte, accessFlags := 18, slot := 1, constantValue := 0 }, { name := "hash", type := .int, accessFlags := 2, slot := 2, constantValue := 0 }, { name := "hashIsZero", type := .boolean, accessFlags := 2, slot := 3, constantValue := 0 }, { name := "serialVersionUID", type := .long, accessFlags := 26, slot := 0, constantValue := 0 }, { name := "COMPACT_STRINGS", type := .boolean, accessFlags := 24, slot := 1, constantValue := 0 }, { name := "serialPersistentFields", type := (.array (.object "java/io/ObjectStreamField")), accessFlags := 26, slot := 2, constantValue := 0 }, { name := "REPL", type := .char, accessFlags := 26, slot := 3, constantValue := 0 }, { name := "CASE_INSENSITIVE_ORDER", type := (.object "java/util/Comparator"), accessFlags := 25, slot := 4, constantValue := 0 }, { name := "LATIN1", type := .byte, accessFlags := 24, slot := 5, constantValue := 0 }, { name := "UTF16", type := .byte, accessFlags := 24, slot := 6, constantValue := 0 }]
  methods := #[k7m0, k7m1, k7m2, k7m3, k7m4, k7m5, k7m6, k7m7, k7m8, k7m9]
  instanceTypes := #[(.array .byte), .byte, .int, .boolean]
  staticTypes := #[.long, .boolean, (.array (.object "java/io/ObjectStreamField")), .char, (.object "java/util/Comparator"), .byte, .byte]
  resolved := Array.replicate 1451 none
  statics := some 0 }

def pool8 : Array CpInfo := pool [(2, .class_ 4), (1, u "java/lang/Object"), (0, u "<init>"), (2, .class_ 10), (1, u "com/example/nameshelf/nameshelf/uri/InfoUri"), (0, u "normal"), (0, u "Ljava/lang/String;"), (2, u "slash"), (0, u "I"), (2, u "hash"), (0, .interfaceMethodref 21 22), (0, .class_ 23), (0, .nameAndType 24 25), (0, u "java/lang/CharSequence"), (0, u "length"), (0, u "()I"), (20, .interfaceMethodref 21 47), (0, .nameAndType 48 49), (0, u "charAt"), (0, u "(I)C"), (4, .methodref 8 55), (0, .nameAndType 56 57), (0, u "isLetter"), (0, u "(I)Z"), (2, .methodref 8 61), (0, .nameAndType 62 57), (0, u "isNamespaceCharacter"), (6, .methodref 8 70), (0, .nameAndType 71 72), (0, u "lowerAscii"), (0, u "(I)I"), (10, u "PCHAR"), (0, u "[Z"), (10, .methodref 96 97), (0, .class_ 98), (0, .nameAndType 99 100), (0, u "java/util/Optional"), (0, u "empty"), (0, u "()Ljava/util/Optional;"), (0, .class_ 102), (0, u "java/lang/StringBuilder"), (0, .methodref 101 104), (0, .nameAndType 5 105), (0, u "(I)V"), (0, .methodref 101 107), (0, .nameAndType 108 109), (0, u "append"), (0, u "(C)Ljava/lang/StringBuilder;"), (0, .methodref 101 111), (0, .nameAndType 112 113), (0, u "toString"), (0, u "()Ljava/lang/String;"), (0, .methodref 96 115), (0, .nameAndType 116 117), (0, u "of"), (0, u "(Ljava/lang/Object;)Ljava/util/Optional;"), (2, u "normalNamespace"), (0, u "(Ljava/lang/CharSequence;)Ljava/util/Optional;"), (107, u "HEX"), (0, u "[C"), (36, .fieldref 8 268), (0, .nameAndType 269 84), (0, u "NAMESPACE"), (17, u "SCHEME")] 46

def k8c0 : Code := { maxStack := 3, maxLocals := 4, code := prog_62_method_3_code, exceptionTable := #[], attributes := #[] }
def k8m0 : Method := { name := "normalNamespace", desc := "(Ljava/lang/CharSequence;)Ljava/util/Optional;", sig := { parameters := [(.object "java/lang/CharSequence")], returnType := some (.object "java/util/Optional") }, accessFlags := 9, code := some k8c0 }
def k8c1 : Code := { maxStack := 2, maxLocals := 1, code := prog_62_method_18_code, exceptionTable := #[], attributes := #[] }
def k8m1 : Method := { name := "isNamespaceCharacter", desc := "(I)Z", sig := { parameters := [.int], returnType := some .boolean }, accessFlags := 10, code := some k8c1 }
def k8c2 : Code := { maxStack := 2, maxLocals := 1, code := prog_62_method_19_code, exceptionTable := #[], attributes := #[] }
def k8m2 : Method := { name := "isLetter", desc := "(I)Z", sig := { parameters := [.int], returnType := some .boolean }, accessFlags := 10, code := some k8c2 }
def k8c3 : Code := { maxStack := 2, maxLocals := 1, code := prog_62_method_20_code, exceptionTable := #[], attributes := #[] }
def k8m3 : Method := { name := "lowerAscii", desc := "(I)I", sig := { parameters := [.int], returnType := some .int }, accessFlags := 10, code := some k8c3 }
/-- com/example/nameshelf/nameshelf/uri/InfoUri -/
def k8 : Class := { plain "com/example/nameshelf/nameshelf/uri/InfoUri" (some 0) with
  accessFlags := 49
  interfaces := #[]
  cf := some (fileOf pool8 8 #[] #[{ accessFlags := 9, nameIndex := 120, descriptorIndex := 121, attributes := #[] }, { accessFlags := 10, nameIndex := 62, descriptorIndex := 57, attributes := #[] }, { accessFlags := 10, nameIndex := 56, descriptorIndex := 57, attributes := #[] }, { accessFlags := 10, nameIndex := 71, descriptorIndex := 72, attributes := #[] }] 49 2 #[] #[{ accessFlags := 26, nameIndex := 287, descriptorIndex := 12, attributes := #[] }, { accessFlags := 26, nameIndex := 229, descriptorIndex := 230, attributes := #[] }, { accessFlags := 26, nameIndex := 83, descriptorIndex := 84, attributes := #[] }, { accessFlags := 26, nameIndex := 269, descriptorIndex := 84, attributes := #[] }, { accessFlags := 18, nameIndex := 11, descriptorIndex := 12, attributes := #[] }, { accessFlags := 18, nameIndex := 15, descriptorIndex := 16, attributes := #[] }, { accessFlags := 18, nameIndex := 19, descriptorIndex := 16, attributes := #[] }])
  fields := #[{ name := "SCHEME", type := (.object "java/lang/String"), accessFlags := 26, slot := 0, constantValue := 0 }, { name := "HEX", type := (.array .char), accessFlags := 26, slot := 1, constantValue := 0 }, { name := "PCHAR", type := (.array .boolean), accessFlags := 26, slot := 2, constantValue := 0 }, { name := "NAMESPACE", type := (.array .boolean), accessFlags := 26, slot := 3, constantValue := 0 }, { name := "normal", type := (.object "java/lang/String"), accessFlags := 18, slot := 0, constantValue := 0 }, { name := "slash", type := .int, accessFlags := 18, slot := 1, constantValue := 0 }, { name := "hash", type := .int, accessFlags := 18, slot := 2, constantValue := 0 }]
  methods := #[k8m0, k8m1, k8m2, k8m3]
  instanceTypes := #[(.object "java/lang/String"), .int, .int]
  staticTypes := #[(.object "java/lang/String"), (.array .char), (.array .boolean), (.array .boolean)]
  resolved := Array.replicate 334 none
  statics := some 1 }

def pool9 : Array CpInfo := pool [(1, .fieldref 2 3), (0, .class_ 4), (0, .nameAndType 5 6), (0, u "java/util/Optional"), (0, u "EMPTY"), (0, u "Ljava/util/Optional;"), (0, .methodref 8 9), (0, .class_ 10), (0, .nameAndType 11 12), (0, u "java/lang/Object"), (0, u "<init>"), (0, u "()V"), (0, .fieldref 2 14), (0, .nameAndType 15 16), (0, u "value"), (0, u "Ljava/lang/Object;"), (0, .methodref 18 19), (0, .class_ 20), (0, .nameAndType 21 22), (0, u "java/util/Objects"), (0, u "requireNonNull"), (0, u "(Ljava/lang/Object;)Ljava/lang/Object;"), (0, .methodref 2 24), (0, .nameAndType 11 25), (0, u "(Ljava/lang/Object;)V"), (20, u "()Z"), (8, u "empty"), (0, u "()Ljava/util/Optional;"), (8, u "(Ljava/lang/Object;)Ljava/util/Optional;"), (2, u "isPresent"), (4, u "get"), (0, u "()Ljava/lang/Object;"), (7, u "of")] 104

def k9c0 : Code := { maxStack := 1, maxLocals := 1, code := jdk_32_method_1_code, exceptionTable := #[], attributes := #[] }
def k9m0 : Method := { name := "empty", desc := "()Ljava/util/Optional;", sig := { parameters := [], returnType := some (.object "java/util/Optional") }, accessFlags := 9, code := some k9c0 }
def k9c1 : Code := { maxStack := 2, maxLocals := 2, code := jdk_32_method_2_code, exceptionTable := #[], attributes := #[] }
def k9m1 : Method := { name := "<init>", desc := "(Ljava/lang/Object;)V", sig := { parameters := [(.object "java/lang/Object")], returnType := none }, accessFlags := 2, code := some k9c1 }
def k9c2 : Code := { maxStack := 3, maxLocals := 1, code := jdk_32_method_3_code, exceptionTable := #[], attributes := #[] }
def k9m2 : Method := { name := "of", desc := "(Ljava/lang/Object;)Ljava/util/Optional;", sig := { parameters := [(.object "java/lang/Object")], returnType := some (.object "java/util/Optional") }, accessFlags := 9, code := some k9c2 }
def k9c3 : Code := { maxStack := 3, maxLocals := 1, code := jdk_32_method_5_code, exceptionTable := #[], attributes := #[] }
def k9m3 : Method := { name := "get", desc := "()Ljava/lang/Object;", sig := { parameters := [], returnType := some (.object "java/lang/Object") }, accessFlags := 1, code := some k9c3 }
def k9c4 : Code := { maxStack := 1, maxLocals := 1, code := jdk_32_method_6_code, exceptionTable := #[], attributes := #[] }
def k9m4 : Method := { name := "isPresent", desc := "()Z", sig := { parameters := [], returnType := some .boolean }, accessFlags := 1, code := some k9c4 }
/-- java/util/Optional -/
def k9 : Class := { plain "java/util/Optional" (some 0) with
  accessFlags := 49
  interfaces := #[]
  cf := some (fileOf pool9 2 #[] #[{ accessFlags := 9, nameIndex := 55, descriptorIndex := 56, attributes := #[] }, { accessFlags := 2, nameIndex := 11, descriptorIndex := 25, attributes := #[] }, { accessFlags := 9, nameIndex := 82, descriptorIndex := 65, attributes := #[] }, { accessFlags := 1, nameIndex := 73, descriptorIndex := 74, attributes := #[] }, { accessFlags := 1, nameIndex := 68, descriptorIndex := 46, attributes := #[] }] 49 8 #[] #[{ accessFlags := 26, nameIndex := 5, descriptorIndex := 6, attributes := #[] }, { accessFlags := 18, nameIndex := 15, descriptorIndex := 16, attributes := #[] }])
  fields := #[{ name := "EMPTY", type := (.object "java/util/Optional"), accessFlags := 26, slot := 0, constantValue := 0 }, { name := "value", type := (.object "java/lang/Object"), accessFlags := 18, slot := 0, constantValue := 0 }]
  methods := #[k9m0, k9m1, k9m2, k9m3, k9m4]
  instanceTypes := #[(.object "java/lang/Object")]
  staticTypes := #[(.object "java/util/Optional")]
  resolved := Array.replicate 187 none
  statics := some 2 }

def pool10 : Array CpInfo := pool [(3, .class_ 4), (0, u "java/lang/String"), (1, .class_ 8), (1, u "java/lang/Object"), (0, u "<init>"), (0, u "()V"), (0, .methodref 12 13), (0, .class_ 14), (0, .nameAndType 15 16), (0, u "java/lang/StringUTF16"), (0, u "newBytesLength"), (0, u "(I)I"), (3, .integer 1073741823), (23, .fieldref 12 45), (0, .nameAndType 46 47), (0, u "$assertionsDisabled"), (0, u "Z"), (0, .methodref 12 49), (0, .nameAndType 50 51), (0, u "length"), (0, u "([B)I"), (7, .fieldref 12 60), (0, .nameAndType 61 62), (0, u "HI_BYTE_SHIFT"), (0, u "I"), (0, .fieldref 12 64), (0, .nameAndType 65 62), (0, u "LO_BYTE_SHIFT"), (1, .methodref 12 68), (0, .nameAndType 69 70), (0, u "checkIndex"), (0, u "(I[B)V"), (0, .methodref 12 72), (0, .nameAndType 73 74), (0, u "getChar"), (0, u "([BI)C"), (32, .methodref 12 108), (0, .nameAndType 109 110), (0, u "newBytesFor"), (0, u "(I)[B"), (0, .methodref 12 112), (0, .nameAndType 113 114), (0, u "putChar"), (0, u "([BII)V"), (0, .methodref 12 116), (0, .nameAndType 117 118), (0, u "compress"), (0, u "([CI[BII)I"), (0, .methodref 12 120), (0, .nameAndType 121 122), (0, u "toBytes"), (0, u "([CII)[B"), (138, u "coderFromArrayLen"), (0, u "([BI)B"), (106, .class_ 371), (1, u "java/lang/StringUTF16$LinesSpliterator"), (20, u "charAt"), (21, .methodref 3 415), (0, .nameAndType 69 416), (0, u "(II)V"), (13, u "MAX_LENGTH"), (196, .class_ 628), (0, u "java/lang/StringUTF16$CodePointsSpliterator"), (0, .class_ 630), (0, u "java/lang/StringUTF16$CharsSpliterator")] 4

def k10m0 : Method := { name := "<init>", desc := "()V", sig := { parameters := [], returnType := none }, accessFlags := 0, code := none }
def k10c1 : Code := { maxStack := 1, maxLocals := 1, code := jdk_52_method_2_code, exceptionTable := #[], attributes := #[] }
def k10m1 : Method := { name := "newBytesFor", desc := "(I)[B", sig := { parameters := [.int], returnType := some (.array .byte) }, accessFlags := 9, code := some k10c1 }
def k10c2 : Code := { maxStack := 4, maxLocals := 1, code := jdk_52_method_3_code, exceptionTable := #[], attributes := #[] }
def k10m2 : Method := { name := "newBytesLength", desc := "(I)I", sig := { parameters := [.int], returnType := some .int }, accessFlags := 9, code := some k10c2 }
def k10c3 : Code := { maxStack := 4, maxLocals := 3, code := jdk_52_method_4_code, exceptionTable := #[], attributes := #[] }
def k10m3 : Method := { name := "putChar", desc := "([BII)V", sig := { parameters := [(.array .byte), .int, .int], returnType := none }, accessFlags := 8, code := some k10c3 }
def k10c4 : Code := { maxStack := 3, maxLocals := 2, code := jdk_52_method_5_code, exceptionTable := #[], attributes := #[] }
def k10m4 : Method := { name := "getChar", desc := "([BI)C", sig := { parameters := [(.array .byte), .int], returnType := some .char }, accessFlags := 8, code := some k10c4 }
def k10c5 : Code := { maxStack := 2, maxLocals := 1, code := jdk_52_method_6_code, exceptionTable := #[], attributes := #[] }
def k10m5 : Method := { name := "length", desc := "([B)I", sig := { parameters := [(.array .byte)], returnType := some .int }, accessFlags := 9, code := some k10c5 }
def k10c6 : Code := { maxStack := 4, maxLocals := 5, code := jdk_52_method_14_code, exceptionTable := #[], attributes := #[] }
def k10m6 : Method := { name := "toBytes", desc := "([CII)[B", sig := { parameters := [(.array .char), .int, .int], returnType := some (.array .byte) }, accessFlags := 9, code := some k10c6 }
def k10c7 : Code := { maxStack := 2, maxLocals := 2, code := jdk_52_method_15_code, exceptionTable := #[], attributes := #[] }
def k10m7 : Method := { name := "coderFromArrayLen", desc := "([BI)B", sig := { parameters := [(.array .byte), .int], returnType := some .byte }, accessFlags := 8, code := some k10c7 }
def k10c8 : Code := { maxStack := 5, maxLocals := 6, code := jdk_52_method_16_code, exceptionTable := #[], attributes := #[] }
def k10m8 : Method := { name := "compress", desc := "([CII)[B", sig := { parameters := [(.array .char), .int, .int], returnType := some (.array .byte) }, accessFlags := 9, code := some k10c8 }
def k10c9 : Code := { maxStack := 3, maxLocals := 7, code := jdk_52_method_21_code, exceptionTable := #[], attributes := #[] }
def k10m9 : Method := { name := "compress", desc := "([CI[BII)I", sig := { parameters := [(.array .char), .int, (.array .byte), .int, .int], returnType := some .int }, accessFlags := 9, code := some k10c9 }
def k10c10 : Code := { maxStack := 2, maxLocals := 2, code := jdk_52_method_83_code, exceptionTable := #[], attributes := #[] }
def k10m10 : Method := { name := "charAt", desc := "([BI)C", sig := { parameters := [(.array .byte), .int], returnType := some .char }, accessFlags := 9, code := some k10c10 }
def k10c11 : Code := { maxStack := 2, maxLocals := 2, code := jdk_52_method_91_code, exceptionTable := #[], attributes := #[] }
def k10m11 : Method := { name := "checkIndex", desc := "(I[B)V", sig := { parameters := [.int, (.array .byte)], returnType := none }, accessFlags := 9, code := some k10c11 }
/-- java/lang/StringUTF16 -/
def k10 : Class := { plain "java/lang/StringUTF16" (some 0) with
  accessFlags := 48
  interfaces := #[]
  cf := some (fileOf pool10 12 #[.nestMembers #[627, 629, 369]] #[{ accessFlags := 0, nameIndex := 9, descriptorIndex := 10, attributes := #[] }, { accessFlags := 9, nameIndex := 109, descriptorIndex := 110, attributes := #[] }, { accessFlags := 9, nameIndex := 15, descriptorIndex := 16, attributes := #[] }, { accessFlags := 8, nameIndex := 113, descriptorIndex := 114, attributes := #[] }, { accessFlags := 8, nameIndex := 73, descriptorIndex := 74, attributes := #[] }, { accessFlags := 9, nameIndex := 50, descriptorIndex := 51, attributes := #[] }, { accessFlags := 9, nameIndex := 121, descriptorIndex := 122, attributes := #[] }, { accessFlags := 8, nameIndex := 261, descriptorIndex := 262, attributes := #[] }, { accessFlags := 9, nameIndex := 117, descriptorIndex := 122, attributes := #[] }, { accessFlags := 9, nameIndex := 117, descriptorIndex := 118, attributes := #[] }, { accessFlags := 9, nameIndex := 392, descriptorIndex := 74, attributes := #[] }, { accessFlags := 9, nameIndex := 69, descriptorIndex := 70, attributes := #[] }] 48 6 #[] #[{ accessFlags := 26, nameIndex := 61, descriptorIndex := 62, attributes := #[] }, { accessFlags := 26, nameIndex := 65, descriptorIndex := 62, attributes := #[] }, { accessFlags := 24, nameIndex := 430, descriptorIndex := 62, attributes := #[] }, { accessFlags := 4120, nameIndex := 46, descriptorIndex := 47, attributes := #[] }])
  fields := #[{ name := "HI_BYTE_SHIFT", type := .int, accessFlags := 26, slot := 0, constantValue := 0 }, { name := "LO_BYTE_SHIFT", type := .int, accessFlags := 26, slot := 1, constantValue := 0 }, { name := "MAX_LENGTH", type := .int, accessFlags := 24, slot := 2, constantValue := 0 }, { name := "$assertionsDisabled", type := .boolean, accessFlags := 4120, slot := 3, constantValue := 0 }]
  methods := #[k10m0, k10m1, k10m2, k10m3, k10m4, k10m5, k10m6, k10m7, k10m8, k10m9, k10m10, k10m11]
  instanceTypes := #[]
  staticTypes := #[.int, .int, .int, .boolean]
  resolved := Array.replicate 635 none
  statics := some 3 }

def pool11 : Array CpInfo := pool [(1, .class_ 2), (0, u "java/lang/String"), (1, .class_ 6), (1, u "java/lang/Object"), (0, u "<init>"), (0, u "()V"), (0, .methodref 1 10), (0, .nameAndType 11 12), (0, u "checkIndex"), (0, u "(II)V"), (1, .class_ 16), (1, u "java/lang/StringLatin1"), (36, u "([BI)C"), (36, u "canEncode"), (14, u "(C)Z"), (15, u "$assertionsDisabled"), (0, u "Z"), (98, .class_ 223), (1, u "java/lang/StringLatin1$LinesSpliterator"), (28, u "charAt"), (137, .class_ 391), (0, u "java/lang/StringLatin1$CharsSpliterator")] 3

def k11m0 : Method := { name := "<init>", desc := "()V", sig := { parameters := [], returnType := none }, accessFlags := 0, code := none }
def k11c1 : Code := { maxStack := 2, maxLocals := 2, code := jdk_43_method_2_code, exceptionTable := #[], attributes := #[] }
def k11m1 : Method := { name := "charAt", desc := "([BI)C", sig := { parameters := [(.array .byte), .int], returnType := some .char }, accessFlags := 9, code := some k11c1 }
def k11c2 : Code := { maxStack := 2, maxLocals := 1, code := jdk_43_method_3_code, exceptionTable := #[], attributes := #[] }
def k11m2 : Method := { name := "canEncode", desc := "(C)Z", sig := { parameters := [.char], returnType := some .boolean }, accessFlags := 9, code := some k11c2 }
/-- java/lang/StringLatin1 -/
def k11 : Class := { plain "java/lang/StringLatin1" (some 0) with
  accessFlags := 48
  interfaces := #[]
  cf := some (fileOf pool11 14 #[.nestMembers #[390, 221]] #[{ accessFlags := 0, nameIndex := 7, descriptorIndex := 8, attributes := #[] }, { accessFlags := 9, nameIndex := 252, descriptorIndex := 53, attributes := #[] }, { accessFlags := 9, nameIndex := 90, descriptorIndex := 105, attributes := #[] }] 48 4 #[] #[{ accessFlags := 4120, nameIndex := 121, descriptorIndex := 122, attributes := #[] }])
  fields := #[{ name := "$assertionsDisabled", type := .boolean, accessFlags := 4120, slot := 0, constantValue := 0 }]
  methods := #[k11m0, k11m1, k11m2]
  instanceTypes := #[]
  staticTypes := #[.boolean]
  resolved := Array.replicate 395 none
  statics := none }

def pool12 : Array CpInfo := pool [(2, .class_ 4), (1, u "java/lang/Object"), (0, u "<init>"), (0, u "()V"), (17, .class_ 26), (1, u "jdk/internal/util/Preconditions"), (6, u "checkIndex"), (21, .class_ 56), (0, u "jdk/internal/util/Preconditions$4"), (57, .class_ 115), (0, u "jdk/internal/util/Preconditions$1"), (7, u "SIOOBE_FORMATTER"), (0, u "Ljava/util/function/BiFunction;"), (0, .class_ 126), (0, u "jdk/internal/util/Preconditions$2"), (3, u "AIOOBE_FORMATTER"), (0, .class_ 132), (0, u "jdk/internal/util/Preconditions$3"), (3, u "IOOBE_FORMATTER"), (41, u "(IILjava/util/function/BiFunction;)I")] 15

def k12m0 : Method := { name := "<init>", desc := "()V", sig := { parameters := [], returnType := none }, accessFlags := 1, code := none }
def k12c1 : Code := { maxStack := 3, maxLocals := 3, code := jdk_41_method_11_code, exceptionTable := #[], attributes := #[] }
def k12m1 : Method := { name := "checkIndex", desc := "(IILjava/util/function/BiFunction;)I", sig := { parameters := [.int, .int, (.object "java/util/function/BiFunction")], returnType := some .int }, accessFlags := 9, code := some k12c1 }
/-- jdk/internal/util/Preconditions -/
def k12 : Class := { plain "jdk/internal/util/Preconditions" (some 0) with
  accessFlags := 33
  interfaces := #[]
  cf := some (fileOf pool12 24 #[.nestMembers #[55, 131, 125, 114]] #[{ accessFlags := 1, nameIndex := 5, descriptorIndex := 6, attributes := #[] }, { accessFlags := 9, nameIndex := 33, descriptorIndex := 178, attributes := #[] }] 33 2 #[] #[{ accessFlags := 25, nameIndex := 123, descriptorIndex := 124, attributes := #[] }, { accessFlags := 25, nameIndex := 130, descriptorIndex := 124, attributes := #[] }, { accessFlags := 25, nameIndex := 136, descriptorIndex := 124, attributes := #[] }])
  fields := #[{ name := "SIOOBE_FORMATTER", type := (.object "java/util/function/BiFunction"), accessFlags := 25, slot := 0, constantValue := 0 }, { name := "AIOOBE_FORMATTER", type := (.object "java/util/function/BiFunction"), accessFlags := 25, slot := 1, constantValue := 0 }, { name := "IOOBE_FORMATTER", type := (.object "java/util/function/BiFunction"), accessFlags := 25, slot := 2, constantValue := 0 }]
  methods := #[k12m0, k12m1]
  instanceTypes := #[]
  staticTypes := #[(.object "java/util/function/BiFunction"), (.object "java/util/function/BiFunction"), (.object "java/util/function/BiFunction")]
  resolved := Array.replicate 194 none
  statics := some 4 }

def pool13 : Array CpInfo := pool [(1, .class_ 2), (0, u "java/lang/Appendable"), (0, .class_ 4), (0, u "java/lang/Object")] 9

/-- java/lang/Appendable -/
def k13 : Class := { plain "java/lang/Appendable" (some 0) with
  accessFlags := 1537
  interfaces := #[]
  cf := some (fileOf pool13 1 #[] #[] 1537 3 #[] #[])
  fields := #[]
  methods := #[]
  instanceTypes := #[]
  staticTypes := #[]
  resolved := Array.replicate 14 none
  statics := none }

def pool14 : Array CpInfo := pool [(1, .class_ 2), (0, u "java/lang/String"), (0, .methodref 4 5), (0, .class_ 6), (0, .nameAndType 7 8), (0, u "java/lang/Object"), (0, u "<init>"), (0, u "()V"), (1, .class_ 12), (1, u "java/lang/AbstractStringBuilder"), (0, u "EMPTYVALUE"), (0, u "[B"), (0, .fieldref 10 16), (0, .nameAndType 17 14), (0, u "value"), (0, .fieldref 1 19), (0, .nameAndType 20 21), (0, u "COMPACT_STRINGS"), (0, u "Z"), (0, .fieldref 10 23), (0, .nameAndType 24 25), (0, u "coder"), (0, u "B"), (8, u "length"), (0, u "()I"), (9, u "append"), (2, .class_ 49), (0, u "java/lang/CharSequence"), (25, u "maybeLatin1"), (3, .fieldref 10 80), (0, .nameAndType 81 82), (0, u "count"), (0, u "I"), (0, .methodref 10 84), (0, .nameAndType 85 86), (0, u "isLatin1"), (0, u "()Z"), (1, .class_ 90), (1, u "java/lang/StringLatin1"), (9, .methodref 10 101), (0, .nameAndType 102 103), (0, u "ensureCapacityInternal"), (0, u "(I)V"), (87, .methodref 88 192), (0, .nameAndType 193 194), (0, u "canEncode"), (0, u "(C)Z"), (97, u "(C)Ljava/lang/AbstractStringBuilder;"), (110, u "()[B"), (40, .class_ 445), (0, u "java/lang/Appendable"), (106, u "getValue")] 56

def k14m0 : Method := { name := "<init>", desc := "()V", sig := { parameters := [], returnType := none }, accessFlags := 0, code := none }
def k14c1 : Code := { maxStack := 2, maxLocals := 2, code := jdk_68_method_2_code, exceptionTable := #[], attributes := #[] }
def k14m1 : Method := { name := "<init>", desc := "(I)V", sig := { parameters := [.int], returnType := none }, accessFlags := 0, code := some k14c1 }
def k14c2 : Code := { maxStack := 1, maxLocals := 1, code := jdk_68_method_6_code, exceptionTable := #[], attributes := #[] }
def k14m2 : Method := { name := "length", desc := "()I", sig := { parameters := [], returnType := some .int }, accessFlags := 1, code := some k14c2 }
def k14c3 : Code := { maxStack := 4, maxLocals := 3, code := jdk_68_method_9_code, exceptionTable := #[], attributes := #[] }
def k14m3 : Method := { name := "ensureCapacityInternal", desc := "(I)V", sig := { parameters := [.int], returnType := none }, accessFlags := 2, code := some k14c3 }
def k14c4 : Code := { maxStack := 5, maxLocals := 2, code := jdk_68_method_31_code, exceptionTable := #[], attributes := #[] }
def k14m4 : Method := { name := "append", desc := "(C)Ljava/lang/AbstractStringBuilder;", sig := { parameters := [.char], returnType := some (.object "java/lang/AbstractStringBuilder") }, accessFlags := 1, code := some k14c4 }
def k14c5 : Code := { maxStack := 1, maxLocals := 1, code := jdk_68_method_64_code, exceptionTable := #[], attributes := #[] }
def k14m5 : Method := { name := "getValue", desc := "()[B", sig := { parameters := [], returnType := some (.array .byte) }, accessFlags := 16, code := some k14c5 }
def k14c6 : Code := { maxStack := 1, maxLocals := 1, code := jdk_68_method_68_code, exceptionTable := #[], attributes := #[] }
def k14m6 : Method := { name := "isLatin1", desc := "()Z", sig := { parameters := [], returnType := some .boolean }, accessFlags := 16, code := some k14c6 }
/-- java/lang/AbstractStringBuilder -/
def k14 : Class := { plain "java/lang/AbstractStringBuilder" (some 0) with
  accessFlags := 1056
  interfaces := #[13, 4]
  cf := some (fileOf pool14 10 #[] #[{ accessFlags := 0, nameIndex := 7, descriptorIndex := 8, attributes := #[] }, { accessFlags := 0, nameIndex := 7, descriptorIndex := 103, attributes := #[] }, { accessFlags := 1, nameIndex := 34, descriptorIndex := 35, attributes := #[] }, { accessFlags := 2, nameIndex := 102, descriptorIndex := 103, attributes := #[] }, { accessFlags := 1, nameIndex := 45, descriptorIndex := 292, attributes := #[] }, { accessFlags := 16, nameIndex := 552, descriptorIndex := 403, attributes := #[] }, { accessFlags := 16, nameIndex := 85, descriptorIndex := 86, attributes := #[] }] 1056 4 #[444, 48] #[{ accessFlags := 0, nameIndex := 17, descriptorIndex := 14, attributes := #[] }, { accessFlags := 0, nameIndex := 24, descriptorIndex := 25, attributes := #[] }, { accessFlags := 0, nameIndex := 75, descriptorIndex := 21, attributes := #[] }, { accessFlags := 0, nameIndex := 81, descriptorIndex := 82, attributes := #[] }, { accessFlags := 26, nameIndex := 13, descriptorIndex := 14, attributes := #[] }])
  fields := #[{ name := "value", type := (.array .byte), accessFlags := 0, slot := 0, constantValue := 0 }, { name := "coder", type := .byte, accessFlags := 0, slot := 1, constantValue := 0 }, { name := "maybeLatin1", type := .boolean, accessFlags := 0, slot := 2, constantValue := 0 }, { name := "count", type := .int, accessFlags := 0, slot := 3, constantValue := 0 }, { name := "EMPTYVALUE", type := (.array .byte), accessFlags := 26, slot := 0, constantValue := 0 }]
  methods := #[k14m0, k14m1, k14m2, k14m3, k14m4, k14m5, k14m6]
  instanceTypes := #[(.array .byte), .byte, .boolean, .int]
  staticTypes := #[(.array .byte)]
  resolved := Array.replicate 609 none
  statics := none }

def pool15 : Array CpInfo := pool [(1, .methodref 2 3), (0, .class_ 4), (0, .nameAndType 5 6), (0, u "java/lang/AbstractStringBuilder"), (0, u "<init>"), (0, u "(I)V"), (11, .class_ 20), (1, u "java/lang/String"), (3, .class_ 26), (1, u "java/lang/StringBuilder"), (0, u "append"), (22, .methodref 2 51), (0, .nameAndType 27 52), (0, u "(C)Ljava/lang/AbstractStringBuilder;"), (84, .methodref 18 138), (0, .nameAndType 5 139), (0, u "(Ljava/lang/StringBuilder;)V"), (5, u "()V"), (10, u "()I"), (129, u "(C)Ljava/lang/StringBuilder;"), (56, .methodref 2 344), (0, .nameAndType 345 156), (0, u "length"), (3, .class_ 350), (0, u "java/lang/Appendable"), (0, .class_ 352), (0, u "java/io/Serializable"), (0, .class_ 354), (0, u "java/lang/Comparable"), (0, .class_ 356), (0, u "java/lang/CharSequence"), (0, u "serialVersionUID"), (0, u "J"), (40, u "toString"), (0, u "()Ljava/lang/String;")] 21

def k15m0 : Method := { name := "<init>", desc := "()V", sig := { parameters := [], returnType := none }, accessFlags := 1, code := none }
def k15c1 : Code := { maxStack := 2, maxLocals := 2, code := jdk_67_method_2_code, exceptionTable := #[], attributes := #[] }
def k15m1 : Method := { name := "<init>", desc := "(I)V", sig := { parameters := [.int], returnType := none }, accessFlags := 1, code := some k15c1 }
def k15c2 : Code := { maxStack := 2, maxLocals := 2, code := jdk_67_method_14_code, exceptionTable := #[], attributes := #[] }
def k15m2 : Method := { name := "append", desc := "(C)Ljava/lang/StringBuilder;", sig := { parameters := [.char], returnType := some (.object "java/lang/StringBuilder") }, accessFlags := 1, code := some k15c2 }
def k15c3 : Code := { maxStack := 3, maxLocals := 1, code := jdk_67_method_42_code, exceptionTable := #[], attributes := #[] }
def k15m3 : Method := { name := "toString", desc := "()Ljava/lang/String;", sig := { parameters := [], returnType := some (.object "java/lang/String") }, accessFlags := 1, code := some k15c3 }
def k15c4 : Code := { maxStack := 1, maxLocals := 1, code := jdk_67_method_93_code, exceptionTable := #[], attributes := #[] }
def k15m4 : Method := { name := "length", desc := "()I", sig := { parameters := [], returnType := some .int }, accessFlags := 4161, code := some k15c4 }
/-- java/lang/StringBuilder -/
def k15 : Class := { plain "java/lang/StringBuilder" (some 14) with
  accessFlags := 49
  interfaces := #[13, 2, 3, 4]
  cf := some (fileOf pool15 24 #[] #[{ accessFlags := 1, nameIndex := 5, descriptorIndex := 145, attributes := #[] }, { accessFlags := 1, nameIndex := 5, descriptorIndex := 6, attributes := #[] }, { accessFlags := 1, nameIndex := 27, descriptorIndex := 286, attributes := #[] }, { accessFlags := 1, nameIndex := 399, descriptorIndex := 400, attributes := #[] }, { accessFlags := 4161, nameIndex := 345, descriptorIndex := 156, attributes := #[] }] 49 2 #[349, 351, 353, 355] #[{ accessFlags := 24, nameIndex := 357, descriptorIndex := 358, attributes := #[] }])
  fields := #[{ name := "serialVersionUID", type := .long, accessFlags := 24, slot := 0, constantValue := 0 }]
  methods := #[k15m0, k15m1, k15m2, k15m3, k15m4]
  instanceTypes := #[(.array .byte), .byte, .boolean, .int]
  staticTypes := #[.long]
  resolved := Array.replicate 422 none
  statics := none }

def pool16 : Array CpInfo := pool [(2, .class_ 4), (1, u "java/lang/Object"), (0, u "<init>"), (0, u "()V"), (7, .class_ 16), (1, u "java/util/Arrays"), (57, .class_ 76), (1, u "java/util/Arrays$NaturalOrder"), (32, u "()Ljava/lang/Object;"), (3, .class_ 115), (1, u "java/util/Arrays$LegacyMergeSort"), (1, u "Z"), (10, .nameAndType 129 109), (0, u "clone"), (9, u "copyOfRange"), (170, .methodref 311 128), (0, .class_ 312), (0, u "[B"), (29, u "([BII)[B"), (32, .class_ 376), (0, u "java/util/Arrays$ArrayList"), (68, u "$assertionsDisabled"), (269, u "MIN_ARRAY_SORT_GRAN"), (0, u "I"), (2, u "INSERTIONSORT_THRESHOLD"), (255, .class_ 976), (0, u "java/util/Arrays$ArrayItr")] 52

def k16m0 : Method := { name := "<init>", desc := "()V", sig := { parameters := [], returnType := none }, accessFlags := 2, code := none }
def k16c1 : Code := { maxStack := 3, maxLocals := 3, code := jdk_65_method_132_code, exceptionTable := #[], attributes := #[] }
def k16m1 : Method := { name := "copyOfRange", desc := "([BII)[B", sig := { parameters := [(.array .byte), .int, .int], returnType := some (.array .byte) }, accessFlags := 9, code := some k16c1 }
/-- java/util/Arrays -/
def k16 : Class := { plain "java/util/Arrays" (some 0) with
  accessFlags := 49
  interfaces := #[]
  cf := some (fileOf pool16 14 #[.nestMembers #[975, 375, 113, 74]] #[{ accessFlags := 2, nameIndex := 5, descriptorIndex := 6, attributes := #[] }, { accessFlags := 9, nameIndex := 139, descriptorIndex := 342, attributes := #[] }] 49 2 #[] #[{ accessFlags := 26, nameIndex := 715, descriptorIndex := 716, attributes := #[] }, { accessFlags := 26, nameIndex := 719, descriptorIndex := 716, attributes := #[] }, { accessFlags := 4120, nameIndex := 445, descriptorIndex := 117, attributes := #[] }])
  fields := #[{ name := "MIN_ARRAY_SORT_GRAN", type := .int, accessFlags := 26, slot := 0, constantValue := 0 }, { name := "INSERTIONSORT_THRESHOLD", type := .int, accessFlags := 26, slot := 1, constantValue := 0 }, { name := "$assertionsDisabled", type := .boolean, accessFlags := 4120, slot := 2, constantValue := 0 }]
  methods := #[k16m0, k16m1]
  instanceTypes := #[]
  staticTypes := #[.int, .int, .boolean]
  resolved := Array.replicate 1029 none
  statics := none }

def pool17 : Array CpInfo := pool [(1, .class_ 2), (0, u "java/lang/Cloneable"), (0, .class_ 4), (0, u "java/lang/Object")] 2

/-- java/lang/Cloneable -/
def k17 : Class := { plain "java/lang/Cloneable" (some 0) with
  accessFlags := 1537
  interfaces := #[]
  cf := some (fileOf pool17 1 #[] #[] 1537 3 #[] #[])
  fields := #[]
  methods := #[]
  instanceTypes := #[]
  staticTypes := #[]
  resolved := Array.replicate 7 none
  statics := none }

def pool18 : Array CpInfo := pool [(2, .class_ 4), (1, u "java/lang/Object"), (0, u "<init>"), (0, u "()V"), (35, .class_ 44), (1, u "java/util/Objects"), (0, u "requireNonNull"), (0, u "(Ljava/lang/Object;)Ljava/lang/Object;")] 137

def k18m0 : Method := { name := "<init>", desc := "()V", sig := { parameters := [], returnType := none }, accessFlags := 2, code := none }
def k18c1 : Code := { maxStack := 2, maxLocals := 1, code := jdk_31_method_10_code, exceptionTable := #[], attributes := #[] }
def k18m1 : Method := { name := "requireNonNull", desc := "(Ljava/lang/Object;)Ljava/lang/Object;", sig := { parameters := [(.object "java/lang/Object")], returnType := some (.object "java/lang/Object") }, accessFlags := 9, code := some k18c1 }
/-- java/util/Objects -/
def k18 : Class := { plain "java/util/Objects" (some 0) with
  accessFlags := 49
  interfaces := #[]
  cf := some (fileOf pool18 42 #[] #[{ accessFlags := 2, nameIndex := 5, descriptorIndex := 6, attributes := #[] }, { accessFlags := 9, nameIndex := 45, descriptorIndex := 46, attributes := #[] }] 49 2 #[] #[])
  fields := #[]
  methods := #[k18m0, k18m1]
  instanceTypes := #[]
  staticTypes := #[]
  resolved := Array.replicate 184 none
  statics := none }

def pool19 : Array CpInfo := pool [(9, u "<init>"), (6, .class_ 18), (1, u "java/lang/Object"), (0, u "()V"), (1, .class_ 23), (1, u "jdk/internal/util/ArraysSupport"), (0, u "LOG2_ARRAY_LONG_INDEX_SCALE"), (0, u "I"), (2, u "U"), (0, u "Ljdk/internal/misc/Unsafe;"), (8, u "BIG_ENDIAN"), (0, u "Z"), (8, u "LOG2_BYTE_BIT_SIZE"), (4, u "LOG2_ARRAY_INT_INDEX_SCALE"), (54, u "JLA"), (0, u "Ljdk/internal/access/JavaLangAccess;"), (11, u "LOG2_ARRAY_BOOLEAN_INDEX_SCALE"), (9, u "LOG2_ARRAY_BYTE_INDEX_SCALE"), (5, u "LOG2_ARRAY_CHAR_INDEX_SCALE"), (5, u "LOG2_ARRAY_SHORT_INDEX_SCALE"), (18, u "LOG2_ARRAY_FLOAT_INDEX_SCALE"), (24, u "LOG2_ARRAY_DOUBLE_INDEX_SCALE"), (89, u "T_BOOLEAN"), (2, u "T_CHAR"), (1, u "T_FLOAT"), (1, u "T_DOUBLE"), (1, u "T_BYTE"), (1, u "T_SHORT"), (1, u "T_INT"), (1, u "T_LONG"), (1, u "SOFT_MAX_ARRAY_LENGTH")] 83

def k19m0 : Method := { name := "<init>", desc := "()V", sig := { parameters := [], returnType := none }, accessFlags := 2, code := none }
/-- jdk/internal/util/ArraysSupport -/
def k19 : Class := { plain "jdk/internal/util/ArraysSupport" (some 0) with
  accessFlags := 33
  interfaces := #[]
  cf := some (fileOf pool19 21 #[] #[{ accessFlags := 2, nameIndex := 9, descriptorIndex := 19, attributes := #[] }] 33 16 #[] #[{ accessFlags := 24, nameIndex := 28, descriptorIndex := 29, attributes := #[] }, { accessFlags := 26, nameIndex := 38, descriptorIndex := 39, attributes := #[] }, { accessFlags := 25, nameIndex := 121, descriptorIndex := 25, attributes := #[] }, { accessFlags := 25, nameIndex := 131, descriptorIndex := 25, attributes := #[] }, { accessFlags := 25, nameIndex := 137, descriptorIndex := 25, attributes := #[] }, { accessFlags := 25, nameIndex := 143, descriptorIndex := 25, attributes := #[] }, { accessFlags := 25, nameIndex := 53, descriptorIndex := 25, attributes := #[] }, { accessFlags := 25, nameIndex := 24, descriptorIndex := 25, attributes := #[] }, { accessFlags := 25, nameIndex := 162, descriptorIndex := 25, attributes := #[] }, { accessFlags := 25, nameIndex := 187, descriptorIndex := 25, attributes := #[] }, { accessFlags := 26, nameIndex := 48, descriptorIndex := 25, attributes := #[] }, { accessFlags := 25, nameIndex := 277, descriptorIndex := 25, attributes := #[] }, { accessFlags := 25, nameIndex := 280, descriptorIndex := 25, attributes := #[] }, { accessFlags := 25, nameIndex := 282, descriptorIndex := 25, attributes := #[] }, { accessFlags := 25, nameIndex := 284, descriptorIndex := 25, attributes := #[] }, { accessFlags := 25, nameIndex := 286, descriptorIndex := 25, attributes := #[] }, { accessFlags := 25, nameIndex := 288, descriptorIndex := 25, attributes := #[] }, { accessFlags := 25, nameIndex := 290, descriptorIndex := 25, attributes := #[] }, { accessFlags := 25, nameIndex := 292, descriptorIndex := 25, attributes := #[] }, { accessFlags := 26, nameIndex := 108, descriptorIndex := 109, attributes := #[] }, { accessFlags := 25, nameIndex := 294, descriptorIndex := 25, attributes := #[] }])
  fields := #[{ name := "U", type := (.object "jdk/internal/misc/Unsafe"), accessFlags := 24, slot := 0, constantValue := 0 }, { name := "BIG_ENDIAN", type := .boolean, accessFlags := 26, slot := 1, constantValue := 0 }, { name := "LOG2_ARRAY_BOOLEAN_INDEX_SCALE", type := .int, accessFlags := 25, slot := 2, constantValue := 0 }, { name := "LOG2_ARRAY_BYTE_INDEX_SCALE", type := .int, accessFlags := 25, slot := 3, constantValue := 0 }, { name := "LOG2_ARRAY_CHAR_INDEX_SCALE", type := .int, accessFlags := 25, slot := 4, constantValue := 0 }, { name := "LOG2_ARRAY_SHORT_INDEX_SCALE", type := .int, accessFlags := 25, slot := 5, constantValue := 0 }, { name := "LOG2_ARRAY_INT_INDEX_SCALE", type := .int, accessFlags := 25, slot := 6, constantValue := 0 }, { name := "LOG2_ARRAY_LONG_INDEX_SCALE", type := .int, accessFlags := 25, slot := 7, constantValue := 0 }, { name := "LOG2_ARRAY_FLOAT_INDEX_SCALE", type := .int, accessFlags := 25, slot := 8, constantValue := 0 }, { name := "LOG2_ARRAY_DOUBLE_INDEX_SCALE", type := .int, accessFlags := 25, slot := 9, constantValue := 0 }, { name := "LOG2_BYTE_BIT_SIZE", type := .int, accessFlags := 26, slot := 10, constantValue := 0 }, { name := "T_BOOLEAN", type := .int, accessFlags := 25, slot := 11, constantValue := 0 }, { name := "T_CHAR", type := .int, accessFlags := 25, slot := 12, constantValue := 0 }, { name := "T_FLOAT", type := .int, accessFlags := 25, slot := 13, constantValue := 0 }, { name := "T_DOUBLE", type := .int, accessFlags := 25, slot := 14, constantValue := 0 }, { name := "T_BYTE", type := .int, accessFlags := 25, slot := 15, constantValue := 0 }, { name := "T_SHORT", type := .int, accessFlags := 25, slot := 16, constantValue := 0 }, { name := "T_INT", type := .int, accessFlags := 25, slot := 17, constantValue := 0 }, { name := "T_LONG", type := .int, accessFlags := 25, slot := 18, constantValue := 0 }, { name := "JLA", type := (.object "jdk/internal/access/JavaLangAccess"), accessFlags := 26, slot := 19, constantValue := 0 }, { name := "SOFT_MAX_ARRAY_LENGTH", type := .int, accessFlags := 25, slot := 20, constantValue := 0 }]
  methods := #[k19m0]
  instanceTypes := #[]
  staticTypes := #[(.object "jdk/internal/misc/Unsafe"), .boolean, .int, .int, .int, .int, .int, .int, .int, .int, .int, .int, .int, .int, .int, .int, .int, .int, .int, (.object "jdk/internal/access/JavaLangAccess"), .int]
  resolved := Array.replicate 378 none
  statics := none }

/-- the primitive boolean -/
def k20 : Class := { plain "boolean" none with kind := .primitive 'Z', accessFlags := 0x411 }
/-- [Z -/
def k21 : Class := { plain "[Z" (some 0) with kind := .array 20 .boolean, interfaces := #[17, 2], accessFlags := 1041 }

/-- the primitive byte -/
def k22 : Class := { plain "byte" none with kind := .primitive 'B', accessFlags := 0x411 }
/-- [B -/
def k23 : Class := { plain "[B" (some 0) with kind := .array 22 .byte, interfaces := #[17, 2], accessFlags := 1041 }

/-- the primitive char -/
def k24 : Class := { plain "char" none with kind := .primitive 'C', accessFlags := 0x411 }
/-- [C -/
def k25 : Class := { plain "[C" (some 0) with kind := .array 24 .char, interfaces := #[17, 2], accessFlags := 1041 }

/-- the primitive int -/
def k26 : Class := { plain "int" none with kind := .primitive 'I', accessFlags := 0x411 }
/-- [I -/
def k27 : Class := { plain "[I" (some 0) with kind := .array 26 .int, interfaces := #[17, 2], accessFlags := 1041 }

def heap : Heap := #[{ cls := 7, slots := #[.long 0, .int 1, .null, .int 0, .null, .int 0, .int 0], vm := .statics 7 },
  { cls := 8, slots := #[.null, .null, .null, .ref 5], vm := .statics 8 },
  { cls := 9, slots := #[.ref 6], vm := .statics 9 },
  { cls := 10, slots := #[.int 0, .int 8, .int 0, .int 1], vm := .statics 10 },
  { cls := 12, slots := #[.null, .null, .null], vm := .statics 12 },
  { cls := 21, slots := #[.int 0, .int 0, .int 0, .int 0, .int 0, .int 0, .int 0, .int 0, .int 0, .int 0, .int 0, .int 0, .int 0, .int 0, .int 0, .int 0, .int 0, .int 0, .int 0, .int 0, .int 0, .int 0, .int 0, .int 0, .int 0, .int 0, .int 0, .int 0, .int 0, .int 0, .int 0, .int 0, .int 0, .int 0, .int 0, .int 0, .int 0, .int 0, .int 0, .int 0, .int 0, .int 0, .int 0, .int 1, .int 0, .int 1, .int 1, .int 0, .int 1, .int 1, .int 1, .int 1, .int 1, .int 1, .int 1, .int 1, .int 1, .int 1, .int 0, .int 0, .int 0, .int 0, .int 0, .int 0, .int 0, .int 1, .int 1, .int 1, .int 1, .int 1, .int 1, .int 1, .int 1, .int 1, .int 1, .int 1, .int 1, .int 1, .int 1, .int 1, .int 1, .int 1, .int 1, .int 1, .int 1, .int 1, .int 1, .int 1, .int 1, .int 1, .int 1, .int 0, .int 0, .int 0, .int 0, .int 0, .int 0, .int 1, .int 1, .int 1, .int 1, .int 1, .int 1, .int 1, .int 1, .int 1, .int 1, .int 1, .int 1, .int 1, .int 1, .int 1, .int 1, .int 1, .int 1, .int 1, .int 1, .int 1, .int 1, .int 1, .int 1, .int 1, .int 1, .int 0, .int 0, .int 0, .int 0, .int 0], vm := .none },
  { cls := 9, slots := #[.null], vm := .none }]
def classes : Array Class := #[k0, k1, k2, k3, k4, k5, k6, k7, k8, k9, k10, k11, k12, k13, k14, k15, k16, k17, k18, k19, k20, k21, k22, k23, k24, k25, k26, k27]
def interned : List (Array UInt16 × Addr) := []
def slotsUsed : Nat := 148
def theMethod : MethodId := ⟨1, 1⟩
def args0 : Array Value := #[.int 5, .int 7, .int 3, .int 4, .int 9, .int 6]
def aboutOver (below : List Frame) : State where
  vm := { classes := classes, interned := interned.toArray }
  heap := heap
  slotsUsed := slotsUsed
  threads := #[{ frames := .invoking theMethod args0 :: below }]
def below0 : List Frame := [.native { method := ⟨0, 0⟩, args := #[] }]
def about1 : State := aboutOver below0
def p0 : Program := .bare "" "" ""
def e0 : Env := launch0.env 0 0 0
theorem w_frames : about1.frames = Frame.invoking theMethod args0 :: below0 := rfl
set_option maxRecDepth 65536 in
theorem w_args : argsFit about1.vm theMethod args0 = true := by decide +kernel
set_option maxRecDepth 65536 in
theorem w_heap : heapFits about1 = true := by decide +kernel
set_option maxRecDepth 65536 in
theorem w_runnable : about1.curStatus? = some .runnable := by decide +kernel
set_option maxRecDepth 65536 in
theorem w_alone : about1.alone = true := by decide +kernel
set_option maxRecDepth 65536 in
theorem w_named : about1.methodNamed? x = some theMethod := by decide +kernel
set_option maxRecDepth 65536 in
theorem w_hears : about1.hears theMethod below0 = true := by decide +kernel
set_option maxRecDepth 65536 in
theorem w_ripe : about1.ripe theMethod args0 below0 = true := by decide +kernel
theorem w_running : about1.status = .running := rfl
set_option maxRecDepth 65536 in
theorem w_room : about1.hasRoom e0.platform room_1 = true :=
  launch0.hasRoom_least _ room_1 (by decide +kernel) (by decide +kernel) (by decide +kernel) (by decide +kernel) (by decide +kernel) (by decide +kernel)
theorem allAtoms_all (ts : List Jvm.Cond) (a : Array Jvm.Value) (st : Jvm.State) : (allAtoms ts).before a st = ts.all (fun c => c.before a st) := by
  induction ts with
  | nil => rfl
  | cons c t ih =>
    show (Jvm.Cond.and c (allAtoms t)).before a st = _
    rw [Jvm.Cond.before_and, ih, List.all_cons]
def words1 : List Jvm.Cond := Jvm.Cond.code x code maxLocals ret :: tables_1
/-- a 'code' word, met by the world's own term for the bytes: nothing is compared byte by byte -/
theorem code_word {y : MethodName} {bytes : ByteArray} {mx : Nat} {rt : Option FieldType} {a : Array Value} {s : State} {m : MethodId} {meth : Method} {c : Code} (h1 : s.methodNamed? y = some m) (h2 : s.vm.method? m = some meth) (h3 : meth.code = some c) (h4 : c.code = bytes)
    (h5 : (c.maxLocals == mx && c.exceptionTable.isEmpty && decide (c.maxStack ≤ mostOperands) && decide (meth.sig.returnType = rt) && !meth.locks && decide (parseMethodDescriptor y.desc = some meth.sig)) = true) : (Jvm.Cond.code y bytes mx rt).before a s = true := by
  simp only [Bool.and_eq_true, beq_iff_eq, Bool.not_eq_true', decide_eq_true_eq] at h5
  obtain ⟨⟨⟨⟨⟨g1, g2⟩, g3⟩, g4⟩, g5⟩, g6⟩ := h5
  simp [Cond.before, Cond.holds, Cond.value, h1, h2, h3, h4, g1, g2, g3, g4, g5, g6]
def isCode : Jvm.Cond → Bool
  | .code _ _ _ _ => true
  | _ => false
theorem all_split {L : List Jvm.Cond} {P : Jvm.Cond → Bool} (h1 : L.all (fun c => isCode c || P c) = true) (h2 : ∀ c ∈ L.filter isCode, P c = true) : L.all P = true := by
  refine List.all_eq_true.mpr fun c hc => ?_
  have h := List.all_eq_true.mp h1 c hc
  rcases Bool.eq_false_or_eq_true (isCode c) with hi | hi
  · exact h2 c (List.mem_filter.mpr ⟨hc, hi⟩)
  · simpa [hi] using h
set_option maxRecDepth 65536 in
theorem w_c0 : (Jvm.Cond.code x code maxLocals ret).before args0 about1 = true := code_word (m := ⟨1, 1⟩) (meth := k1m1) (c := k1c1) (by decide +kernel) rfl rfl rfl (by decide +kernel)
set_option maxRecDepth 65536 in
theorem w_c1 : (Jvm.Cond.code ({ cls := "com/example/nameshelf/nameshelf/uri/InfoUriNormalNamespacePinLaw", name := "make", desc := "(ICCCCC)[C" } : Jvm.MethodName) method_3_code (6 : Nat) (Option.some (Jvm.ClassFile.FieldType.array Jvm.ClassFile.FieldType.char))).before args0 about1 = true := code_word (m := ⟨1, 2⟩) (meth := k1m2) (c := k1c2) (by decide +kernel) rfl rfl rfl (by decide +kernel)
set_option maxRecDepth 65536 in
theorem w_c2 : (Jvm.Cond.code ({ cls := "java/lang/String", name := "<init>", desc := "([C)V" } : Jvm.MethodName) jdk_42_method_3_code (2 : Nat) (Option.none : Option Jvm.ClassFile.FieldType)).before args0 about1 = true := code_word (m := ⟨7, 1⟩) (meth := k7m1) (c := k7c1) (by decide +kernel) rfl rfl rfl (by decide +kernel)
set_option maxRecDepth 65536 in
theorem w_c3 : (Jvm.Cond.code ({ cls := "java/lang/String", name := "<init>", desc := "([CIILjava/lang/Void;)V" } : Jvm.MethodName) jdk_42_method_149_code (6 : Nat) (Option.none : Option Jvm.ClassFile.FieldType)).before args0 about1 = true := code_word (m := ⟨7, 5⟩) (meth := k7m5) (c := k7c5) (by decide +kernel) rfl rfl rfl (by decide +kernel)
set_option maxRecDepth 65536 in
theorem w_c4 : (Jvm.Cond.code ({ cls := "java/lang/Object", name := "<init>", desc := "()V" } : Jvm.MethodName) object_method_1_code (1 : Nat) (Option.none : Option Jvm.ClassFile.FieldType)).before args0 about1 = true := code_word (m := ⟨0, 0⟩) (meth := k0m0) (c := k0c0) (by decide +kernel) rfl rfl rfl (by decide +kernel)
set_option maxRecDepth 65536 in
theorem w_c5 : (Jvm.Cond.code ({ cls := "com/example/nameshelf/nameshelf/uri/InfoUri", name := "normalNamespace", desc := "(Ljava/lang/CharSequence;)Ljava/util/Optional;" } : Jvm.MethodName) prog_62_method_3_code (4 : Nat) (Option.some (Jvm.ClassFile.FieldType.object "java/util/Optional"))).before args0 about1 = true := code_word (m := ⟨8, 0⟩) (meth := k8m0) (c := k8c0) (by decide +kernel) rfl rfl rfl (by decide +kernel)
set_option maxRecDepth 65536 in
theorem w_c6 : (Jvm.Cond.code ({ cls := "java/lang/String", name := "length", desc := "()I" } : Jvm.MethodName) jdk_42_method_54_code (1 : Nat) (Option.some Jvm.ClassFile.FieldType.int)).before args0 about1 = true := code_word (m := ⟨7, 3⟩) (meth := k7m3) (c := k7c3) (by decide +kernel) rfl rfl rfl (by decide +kernel)
set_option maxRecDepth 65536 in
theorem w_c7 : (Jvm.Cond.code ({ cls := "java/lang/String", name := "coder", desc := "()B" } : Jvm.MethodName) jdk_42_method_152_code (1 : Nat) (Option.some Jvm.ClassFile.FieldType.byte)).before args0 about1 = true := code_word (m := ⟨7, 7⟩) (meth := k7m7) (c := k7c7) (by decide +kernel) rfl rfl rfl (by decide +kernel)
set_option maxRecDepth 65536 in
theorem w_c8 : (Jvm.Cond.code ({ cls := "java/util/Optional", name := "empty", desc := "()Ljava/util/Optional;" } : Jvm.MethodName) jdk_32_method_1_code (1 : Nat) (Option.some (Jvm.ClassFile.FieldType.object "java/util/Optional"))).before args0 about1 = true := code_word (m := ⟨9, 0⟩) (meth := k9m0) (c := k9c0) (by decide +kernel) rfl rfl rfl (by decide +kernel)
set_option maxRecDepth 65536 in
theorem w_c9 : (Jvm.Cond.code ({ cls := "java/util/Optional", name := "isPresent", desc := "()Z" } : Jvm.MethodName) jdk_32_method_6_code (1 : Nat) (Option.some Jvm.ClassFile.FieldType.boolean)).before args0 about1 = true := code_word (m := ⟨9, 4⟩) (meth := k9m4) (c := k9c4) (by decide +kernel) rfl rfl rfl (by decide +kernel)
set_option maxRecDepth 65536 in
theorem w_c10 : (Jvm.Cond.code ({ cls := "java/lang/StringUTF16", name := "compress", desc := "([CII)[B" } : Jvm.MethodName) jdk_52_method_16_code (6 : Nat) (Option.some (Jvm.ClassFile.FieldType.array Jvm.ClassFile.FieldType.byte))).before args0 about1 = true := code_word (m := ⟨10, 8⟩) (meth := k10m8) (c := k10c8) (by decide +kernel) rfl rfl rfl (by decide +kernel)
set_option maxRecDepth 65536 in
theorem w_c11 : (Jvm.Cond.code ({ cls := "java/lang/StringUTF16", name := "compress", desc := "([CI[BII)I" } : Jvm.MethodName) jdk_52_method_21_code (7 : Nat) (Option.some Jvm.ClassFile.FieldType.int)).before args0 about1 = true := code_word (m := ⟨10, 9⟩) (meth := k10m9) (c := k10c9) (by decide +kernel) rfl rfl rfl (by decide +kernel)
set_option maxRecDepth 65536 in
theorem w_c12 : (Jvm.Cond.code ({ cls := "java/lang/StringUTF16", name := "coderFromArrayLen", desc := "([BI)B" } : Jvm.MethodName) jdk_52_method_15_code (2 : Nat) (Option.some Jvm.ClassFile.FieldType.byte)).before args0 about1 = true := code_word (m := ⟨10, 7⟩) (meth := k10m7) (c := k10c7) (by decide +kernel) rfl rfl rfl (by decide +kernel)
set_option maxRecDepth 65536 in
theorem w_c13 : (Jvm.Cond.code ({ cls := "java/lang/String", name := "charAt", desc := "(I)C" } : Jvm.MethodName) jdk_42_method_56_code (2 : Nat) (Option.some Jvm.ClassFile.FieldType.char)).before args0 about1 = true := code_word (m := ⟨7, 4⟩) (meth := k7m4) (c := k7c4) (by decide +kernel) rfl rfl rfl (by decide +kernel)
set_option maxRecDepth 65536 in
theorem w_c14 : (Jvm.Cond.code ({ cls := "java/lang/String", name := "isLatin1", desc := "()Z" } : Jvm.MethodName) jdk_42_method_154_code (1 : Nat) (Option.some Jvm.ClassFile.FieldType.boolean)).before args0 about1 = true := code_word (m := ⟨7, 8⟩) (meth := k7m8) (c := k7c8) (by decide +kernel) rfl rfl rfl (by decide +kernel)
set_option maxRecDepth 65536 in
theorem w_c15 : (Jvm.Cond.code ({ cls := "java/lang/StringLatin1", name := "charAt", desc := "([BI)C" } : Jvm.MethodName) jdk_43_method_2_code (2 : Nat) (Option.some Jvm.ClassFile.FieldType.char)).before args0 about1 = true := code_word (m := ⟨11, 1⟩) (meth := k11m1) (c := k11c1) (by decide +kernel) rfl rfl rfl (by decide +kernel)
set_option maxRecDepth 65536 in
theorem w_c16 : (Jvm.Cond.code ({ cls := "java/lang/String", name := "checkIndex", desc := "(II)V" } : Jvm.MethodName) jdk_42_method_155_code (2 : Nat) (Option.none : Option Jvm.ClassFile.FieldType)).before args0 about1 = true := code_word (m := ⟨7, 9⟩) (meth := k7m9) (c := k7c9) (by decide +kernel) rfl rfl rfl (by decide +kernel)
set_option maxRecDepth 65536 in
theorem w_c17 : (Jvm.Cond.code ({ cls := "jdk/internal/util/Preconditions", name := "checkIndex", desc := "(IILjava/util/function/BiFunction;)I" } : Jvm.MethodName) jdk_41_method_11_code (3 : Nat) (Option.some Jvm.ClassFile.FieldType.int)).before args0 about1 = true := code_word (m := ⟨12, 1⟩) (meth := k12m1) (c := k12c1) (by decide +kernel) rfl rfl rfl (by decide +kernel)
set_option maxRecDepth 65536 in
theorem w_c18 : (Jvm.Cond.code ({ cls := "com/example/nameshelf/nameshelf/uri/InfoUri", name := "isLetter", desc := "(I)Z" } : Jvm.MethodName) prog_62_method_19_code (1 : Nat) (Option.some Jvm.ClassFile.FieldType.boolean)).before args0 about1 = true := code_word (m := ⟨8, 2⟩) (meth := k8m2) (c := k8c2) (by decide +kernel) rfl rfl rfl (by decide +kernel)
set_option maxRecDepth 65536 in
theorem w_c19 : (Jvm.Cond.code ({ cls := "com/example/nameshelf/nameshelf/uri/InfoUriNormalNamespacePinLaw", name := "isLetter", desc := "(C)Z" } : Jvm.MethodName) method_4_code (1 : Nat) (Option.some Jvm.ClassFile.FieldType.boolean)).before args0 about1 = true := code_word (m := ⟨1, 3⟩) (meth := k1m3) (c := k1c3) (by decide +kernel) rfl rfl rfl (by decide +kernel)
set_option maxRecDepth 65536 in
theorem w_c20 : (Jvm.Cond.code ({ cls := "java/lang/StringUTF16", name := "toBytes", desc := "([CII)[B" } : Jvm.MethodName) jdk_52_method_14_code (5 : Nat) (Option.some (Jvm.ClassFile.FieldType.array Jvm.ClassFile.FieldType.byte))).before args0 about1 = true := code_word (m := ⟨10, 6⟩) (meth := k10m6) (c := k10c6) (by decide +kernel) rfl rfl rfl (by decide +kernel)
set_option maxRecDepth 65536 in
theorem w_c21 : (Jvm.Cond.code ({ cls := "java/lang/StringUTF16", name := "newBytesFor", desc := "(I)[B" } : Jvm.MethodName) jdk_52_method_2_code (1 : Nat) (Option.some (Jvm.ClassFile.FieldType.array Jvm.ClassFile.FieldType.byte))).before args0 about1 = true := code_word (m := ⟨10, 1⟩) (meth := k10m1) (c := k10c1) (by decide +kernel) rfl rfl rfl (by decide +kernel)
set_option maxRecDepth 65536 in
theorem w_c22 : (Jvm.Cond.code ({ cls := "java/lang/StringUTF16", name := "newBytesLength", desc := "(I)I" } : Jvm.MethodName) jdk_52_method_3_code (1 : Nat) (Option.some Jvm.ClassFile.FieldType.int)).before args0 about1 = true := code_word (m := ⟨10, 2⟩) (meth := k10m2) (c := k10c2) (by decide +kernel) rfl rfl rfl (by decide +kernel)
set_option maxRecDepth 65536 in
theorem w_c23 : (Jvm.Cond.code ({ cls := "java/lang/StringUTF16", name := "putChar", desc := "([BII)V" } : Jvm.MethodName) jdk_52_method_4_code (3 : Nat) (Option.none : Option Jvm.ClassFile.FieldType)).before args0 about1 = true := code_word (m := ⟨10, 3⟩) (meth := k10m3) (c := k10c3) (by decide +kernel) rfl rfl rfl (by decide +kernel)
set_option maxRecDepth 65536 in
theorem w_c24 : (Jvm.Cond.code ({ cls := "java/lang/StringUTF16", name := "getChar", desc := "([BI)C" } : Jvm.MethodName) jdk_52_method_5_code (2 : Nat) (Option.some Jvm.ClassFile.FieldType.char)).before args0 about1 = true := code_word (m := ⟨10, 4⟩) (meth := k10m4) (c := k10c4) (by decide +kernel) rfl rfl rfl (by decide +kernel)
set_option maxRecDepth 65536 in
theorem w_c25 : (Jvm.Cond.code ({ cls := "java/lang/StringUTF16", name := "charAt", desc := "([BI)C" } : Jvm.MethodName) jdk_52_method_83_code (2 : Nat) (Option.some Jvm.ClassFile.FieldType.char)).before args0 about1 = true := code_word (m := ⟨10, 10⟩) (meth := k10m10) (c := k10c10) (by decide +kernel) rfl rfl rfl (by decide +kernel)
set_option maxRecDepth 65536 in
theorem w_c26 : (Jvm.Cond.code ({ cls := "java/lang/StringUTF16", name := "checkIndex", desc := "(I[B)V" } : Jvm.MethodName) jdk_52_method_91_code (2 : Nat) (Option.none : Option Jvm.ClassFile.FieldType)).before args0 about1 = true := code_word (m := ⟨10, 11⟩) (meth := k10m11) (c := k10c11) (by decide +kernel) rfl rfl rfl (by decide +kernel)
set_option maxRecDepth 65536 in
theorem w_c27 : (Jvm.Cond.code ({ cls := "java/lang/StringUTF16", name := "length", desc := "([B)I" } : Jvm.MethodName) jdk_52_method_6_code (1 : Nat) (Option.some Jvm.ClassFile.FieldType.int)).before args0 about1 = true := code_word (m := ⟨10, 5⟩) (meth := k10m5) (c := k10c5) (by decide +kernel) rfl rfl rfl (by decide +kernel)
set_option maxRecDepth 65536 in
theorem w_c28 : (Jvm.Cond.code ({ cls := "java/lang/StringBuilder", name := "<init>", desc := "(I)V" } : Jvm.MethodName) jdk_67_method_2_code (2 : Nat) (Option.none : Option Jvm.ClassFile.FieldType)).before args0 about1 = true := code_word (m := ⟨15, 1⟩) (meth := k15m1) (c := k15c1) (by decide +kernel) rfl rfl rfl (by decide +kernel)
set_option maxRecDepth 65536 in
theorem w_c29 : (Jvm.Cond.code ({ cls := "java/lang/AbstractStringBuilder", name := "<init>", desc := "(I)V" } : Jvm.MethodName) jdk_68_method_2_code (2 : Nat) (Option.none : Option Jvm.ClassFile.FieldType)).before args0 about1 = true := code_word (m := ⟨14, 1⟩) (meth := k14m1) (c := k14c1) (by decide +kernel) rfl rfl rfl (by decide +kernel)
set_option maxRecDepth 65536 in
theorem w_c30 : (Jvm.Cond.code ({ cls := "com/example/nameshelf/nameshelf/uri/InfoUri", name := "isNamespaceCharacter", desc := "(I)Z" } : Jvm.MethodName) prog_62_method_18_code (1 : Nat) (Option.some Jvm.ClassFile.FieldType.boolean)).before args0 about1 = true := code_word (m := ⟨8, 1⟩) (meth := k8m1) (c := k8c1) (by decide +kernel) rfl rfl rfl (by decide +kernel)
set_option maxRecDepth 65536 in
theorem w_c31 : (Jvm.Cond.code ({ cls := "com/example/nameshelf/nameshelf/uri/InfoUri", name := "lowerAscii", desc := "(I)I" } : Jvm.MethodName) prog_62_method_20_code (1 : Nat) (Option.some Jvm.ClassFile.FieldType.int)).before args0 about1 = true := code_word (m := ⟨8, 3⟩) (meth := k8m3) (c := k8c3) (by decide +kernel) rfl rfl rfl (by decide +kernel)
set_option maxRecDepth 65536 in
theorem w_c32 : (Jvm.Cond.code ({ cls := "java/lang/StringBuilder", name := "append", desc := "(C)Ljava/lang/StringBuilder;" } : Jvm.MethodName) jdk_67_method_14_code (2 : Nat) (Option.some (Jvm.ClassFile.FieldType.object "java/lang/StringBuilder"))).before args0 about1 = true := code_word (m := ⟨15, 2⟩) (meth := k15m2) (c := k15c2) (by decide +kernel) rfl rfl rfl (by decide +kernel)
set_option maxRecDepth 65536 in
theorem w_c33 : (Jvm.Cond.code ({ cls := "java/lang/AbstractStringBuilder", name := "append", desc := "(C)Ljava/lang/AbstractStringBuilder;" } : Jvm.MethodName) jdk_68_method_31_code (2 : Nat) (Option.some (Jvm.ClassFile.FieldType.object "java/lang/AbstractStringBuilder"))).before args0 about1 = true := code_word (m := ⟨14, 4⟩) (meth := k14m4) (c := k14c4) (by decide +kernel) rfl rfl rfl (by decide +kernel)
set_option maxRecDepth 65536 in
theorem w_c34 : (Jvm.Cond.code ({ cls := "java/lang/AbstractStringBuilder", name := "ensureCapacityInternal", desc := "(I)V" } : Jvm.MethodName) jdk_68_method_9_code (3 : Nat) (Option.none : Option Jvm.ClassFile.FieldType)).before args0 about1 = true := code_word (m := ⟨14, 3⟩) (meth := k14m3) (c := k14c3) (by decide +kernel) rfl rfl rfl (by decide +kernel)
set_option maxRecDepth 65536 in
theorem w_c35 : (Jvm.Cond.code ({ cls := "java/lang/AbstractStringBuilder", name := "isLatin1", desc := "()Z" } : Jvm.MethodName) jdk_68_method_68_code (1 : Nat) (Option.some Jvm.ClassFile.FieldType.boolean)).before args0 about1 = true := code_word (m := ⟨14, 6⟩) (meth := k14m6) (c := k14c6) (by decide +kernel) rfl rfl rfl (by decide +kernel)
set_option maxRecDepth 65536 in
theorem w_c36 : (Jvm.Cond.code ({ cls := "java/lang/StringLatin1", name := "canEncode", desc := "(C)Z" } : Jvm.MethodName) jdk_43_method_3_code (1 : Nat) (Option.some Jvm.ClassFile.FieldType.boolean)).before args0 about1 = true := code_word (m := ⟨11, 2⟩) (meth := k11m2) (c := k11c2) (by decide +kernel) rfl rfl rfl (by decide +kernel)
set_option maxRecDepth 65536 in
theorem w_c37 : (Jvm.Cond.code ({ cls := "java/lang/StringBuilder", name := "toString", desc := "()Ljava/lang/String;" } : Jvm.MethodName) jdk_67_method_42_code (1 : Nat) (Option.some (Jvm.ClassFile.FieldType.object "java/lang/String"))).before args0 about1 = true := code_word (m := ⟨15, 3⟩) (meth := k15m3) (c := k15c3) (by decide +kernel) rfl rfl rfl (by decide +kernel)
set_option maxRecDepth 65536 in
theorem w_c38 : (Jvm.Cond.code ({ cls := "java/lang/String", name := "<init>", desc := "(Ljava/lang/StringBuilder;)V" } : Jvm.MethodName) jdk_42_method_53_code (2 : Nat) (Option.none : Option Jvm.ClassFile.FieldType)).before args0 about1 = true := code_word (m := ⟨7, 2⟩) (meth := k7m2) (c := k7c2) (by decide +kernel) rfl rfl rfl (by decide +kernel)
set_option maxRecDepth 65536 in
theorem w_c39 : (Jvm.Cond.code ({ cls := "java/lang/String", name := "<init>", desc := "(Ljava/lang/AbstractStringBuilder;Ljava/lang/Void;)V" } : Jvm.MethodName) jdk_42_method_150_code (5 : Nat) (Option.none : Option Jvm.ClassFile.FieldType)).before args0 about1 = true := code_word (m := ⟨7, 6⟩) (meth := k7m6) (c := k7c6) (by decide +kernel) rfl rfl rfl (by decide +kernel)
set_option maxRecDepth 65536 in
theorem w_c40 : (Jvm.Cond.code ({ cls := "java/lang/AbstractStringBuilder", name := "getValue", desc := "()[B" } : Jvm.MethodName) jdk_68_method_64_code (1 : Nat) (Option.some (Jvm.ClassFile.FieldType.array Jvm.ClassFile.FieldType.byte))).before args0 about1 = true := code_word (m := ⟨14, 5⟩) (meth := k14m5) (c := k14c5) (by decide +kernel) rfl rfl rfl (by decide +kernel)
set_option maxRecDepth 65536 in
theorem w_c41 : (Jvm.Cond.code ({ cls := "java/lang/StringBuilder", name := "length", desc := "()I" } : Jvm.MethodName) jdk_67_method_93_code (1 : Nat) (Option.some Jvm.ClassFile.FieldType.int)).before args0 about1 = true := code_word (m := ⟨15, 4⟩) (meth := k15m4) (c := k15c4) (by decide +kernel) rfl rfl rfl (by decide +kernel)
set_option maxRecDepth 65536 in
theorem w_c42 : (Jvm.Cond.code ({ cls := "java/lang/AbstractStringBuilder", name := "length", desc := "()I" } : Jvm.MethodName) jdk_68_method_6_code (1 : Nat) (Option.some Jvm.ClassFile.FieldType.int)).before args0 about1 = true := code_word (m := ⟨14, 2⟩) (meth := k14m2) (c := k14c2) (by decide +kernel) rfl rfl rfl (by decide +kernel)
set_option maxRecDepth 65536 in
theorem w_c43 : (Jvm.Cond.code ({ cls := "java/util/Arrays", name := "copyOfRange", desc := "([BII)[B" } : Jvm.MethodName) jdk_65_method_132_code (3 : Nat) (Option.some (Jvm.ClassFile.FieldType.array Jvm.ClassFile.FieldType.byte))).before args0 about1 = true := code_word (m := ⟨16, 1⟩) (meth := k16m1) (c := k16c1) (by decide +kernel) rfl rfl rfl (by decide +kernel)
set_option maxRecDepth 65536 in
theorem w_c44 : (Jvm.Cond.code ({ cls := "java/util/Optional", name := "of", desc := "(Ljava/lang/Object;)Ljava/util/Optional;" } : Jvm.MethodName) jdk_32_method_3_code (1 : Nat) (Option.some (Jvm.ClassFile.FieldType.object "java/util/Optional"))).before args0 about1 = true := code_word (m := ⟨9, 2⟩) (meth := k9m2) (c := k9c2) (by decide +kernel) rfl rfl rfl (by decide +kernel)
set_option maxRecDepth 65536 in
theorem w_c45 : (Jvm.Cond.code ({ cls := "java/util/Objects", name := "requireNonNull", desc := "(Ljava/lang/Object;)Ljava/lang/Object;" } : Jvm.MethodName) jdk_31_method_10_code (1 : Nat) (Option.some (Jvm.ClassFile.FieldType.object "java/lang/Object"))).before args0 about1 = true := code_word (m := ⟨18, 1⟩) (meth := k18m1) (c := k18c1) (by decide +kernel) rfl rfl rfl (by decide +kernel)
set_option maxRecDepth 65536 in
theorem w_c46 : (Jvm.Cond.code ({ cls := "java/util/Optional", name := "<init>", desc := "(Ljava/lang/Object;)V" } : Jvm.MethodName) jdk_32_method_2_code (2 : Nat) (Option.none : Option Jvm.ClassFile.FieldType)).before args0 about1 = true := code_word (m := ⟨9, 1⟩) (meth := k9m1) (c := k9c1) (by decide +kernel) rfl rfl rfl (by decide +kernel)
set_option maxRecDepth 65536 in
theorem w_c47 : (Jvm.Cond.code ({ cls := "java/util/Optional", name := "get", desc := "()Ljava/lang/Object;" } : Jvm.MethodName) jdk_32_method_5_code (1 : Nat) (Option.some (Jvm.ClassFile.FieldType.object "java/lang/Object"))).before args0 about1 = true := code_word (m := ⟨9, 3⟩) (meth := k9m3) (c := k9c3) (by decide +kernel) rfl rfl rfl (by decide +kernel)
set_option maxRecDepth 65536 in
theorem w_c48 : (Jvm.Cond.code ({ cls := "com/example/nameshelf/nameshelf/uri/InfoUriNormalNamespacePinLaw", name := "lower", desc := "(C)C" } : Jvm.MethodName) method_6_code (1 : Nat) (Option.some Jvm.ClassFile.FieldType.char)).before args0 about1 = true := code_word (m := ⟨1, 5⟩) (meth := k1m5) (c := k1c5) (by decide +kernel) rfl rfl rfl (by decide +kernel)
set_option maxRecDepth 65536 in
theorem w_c49 : (Jvm.Cond.code ({ cls := "com/example/nameshelf/nameshelf/uri/InfoUriNormalNamespacePinLaw", name := "isNs", desc := "(C)Z" } : Jvm.MethodName) method_5_code (1 : Nat) (Option.some Jvm.ClassFile.FieldType.boolean)).before args0 about1 = true := code_word (m := ⟨1, 4⟩) (meth := k1m4) (c := k1c4) (by decide +kernel) rfl rfl rfl (by decide +kernel)
def codes1 : List Jvm.Cond := [Jvm.Cond.code x code maxLocals ret, Jvm.Cond.code ({ cls := "com/example/nameshelf/nameshelf/uri/InfoUriNormalNamespacePinLaw", name := "make", desc := "(ICCCCC)[C" } : Jvm.MethodName) method_3_code (6 : Nat) (Option.some (Jvm.ClassFile.FieldType.array Jvm.ClassFile.FieldType.char)), Jvm.Cond.code ({ cls := "java/lang/String", name := "<init>", desc := "([C)V" } : Jvm.MethodName) jdk_42_method_3_code (2 : Nat) (Option.none : Option Jvm.ClassFile.FieldType), Jvm.Cond.code ({ cls := "java/lang/String", name := "<init>", desc := "([CIILjava/lang/Void;)V" } : Jvm.MethodName) jdk_42_method_149_code (6 : Nat) (Option.none : Option Jvm.ClassFile.FieldType), Jvm.Cond.code ({ cls := "java/lang/Object", name := "<init>", desc := "()V" } : Jvm.MethodName) object_method_1_code (1 : Nat) (Option.none : Option Jvm.ClassFile.FieldType), Jvm.Cond.code ({ cls := "com/example/nameshelf/nameshelf/uri/InfoUri", name := "normalNamespace", desc := "(Ljava/lang/CharSequence;)Ljava/util/Optional;" } : Jvm.MethodName) prog_62_method_3_code (4 : Nat) (Option.some (Jvm.ClassFile.FieldType.object "java/util/Optional")), Jvm.Cond.code ({ cls := "java/lang/String", name := "length", desc := "()I" } : Jvm.MethodName) jdk_42_method_54_code (1 : Nat) (Option.some Jvm.ClassFile.FieldType.int), Jvm.Cond.code ({ cls := "java/lang/String", name := "coder", desc := "()B" } : Jvm.MethodName) jdk_42_method_152_code (1 : Nat) (Option.some Jvm.ClassFile.FieldType.byte), Jvm.Cond.code ({ cls := "java/util/Optional", name := "empty", desc := "()Ljava/util/Optional;" } : Jvm.MethodName) jdk_32_method_1_code (1 : Nat) (Option.some (Jvm.ClassFile.FieldType.object "java/util/Optional")), Jvm.Cond.code ({ cls := "java/util/Optional", name := "isPresent", desc := "()Z" } : Jvm.MethodName) jdk_32_method_6_code (1 : Nat) (Option.some Jvm.ClassFile.FieldType.boolean), Jvm.Cond.code ({ cls := "java/lang/StringUTF16", name := "compress", desc := "([CII)[B" } : Jvm.MethodName) jdk_52_method_16_code (6 : Nat) (Option.some (Jvm.ClassFile.FieldType.array Jvm.ClassFile.FieldType.byte)), Jvm.Cond.code ({ cls := "java/lang/StringUTF16", name := "compress", desc := "([CI[BII)I" } : Jvm.MethodName) jdk_52_method_21_code (7 : Nat) (Option.some Jvm.ClassFile.FieldType.int), Jvm.Cond.code ({ cls := "java/lang/StringUTF16", name := "coderFromArrayLen", desc := "([BI)B" } : Jvm.MethodName) jdk_52_method_15_code (2 : Nat) (Option.some Jvm.ClassFile.FieldType.byte), Jvm.Cond.code ({ cls := "java/lang/String", name := "charAt", desc := "(I)C" } : Jvm.MethodName) jdk_42_method_56_code (2 : Nat) (Option.some Jvm.ClassFile.FieldType.char), Jvm.Cond.code ({ cls := "java/lang/String", name := "isLatin1", desc := "()Z" } : Jvm.MethodName) jdk_42_method_154_code (1 : Nat) (Option.some Jvm.ClassFile.FieldType.boolean), Jvm.Cond.code ({ cls := "java/lang/StringLatin1", name := "charAt", desc := "([BI)C" } : Jvm.MethodName) jdk_43_method_2_code (2 : Nat) (Option.some Jvm.ClassFile.FieldType.char), Jvm.Cond.code ({ cls := "java/lang/String", name := "checkIndex", desc := "(II)V" } : Jvm.MethodName) jdk_42_method_155_code (2 : Nat) (Option.none : Option Jvm.ClassFile.FieldType), Jvm.Cond.code ({ cls := "jdk/internal/util/Preconditions", name := "checkIndex", desc := "(IILjava/util/function/BiFunction;)I" } : Jvm.MethodName) jdk_41_method_11_code (3 : Nat) (Option.some Jvm.ClassFile.FieldType.int), Jvm.Cond.code ({ cls := "com/example/nameshelf/nameshelf/uri/InfoUri", name := "isLetter", desc := "(I)Z" } : Jvm.MethodName) prog_62_method_19_code (1 : Nat) (Option.some Jvm.ClassFile.FieldType.boolean), Jvm.Cond.code ({ cls := "com/example/nameshelf/nameshelf/uri/InfoUriNormalNamespacePinLaw", name := "isLetter", desc := "(C)Z" } : Jvm.MethodName) method_4_code (1 : Nat) (Option.some Jvm.ClassFile.FieldType.boolean), Jvm.Cond.code ({ cls := "java/lang/StringUTF16", name := "toBytes", desc := "([CII)[B" } : Jvm.MethodName) jdk_52_method_14_code (5 : Nat) (Option.some (Jvm.ClassFile.FieldType.array Jvm.ClassFile.FieldType.byte)), Jvm.Cond.code ({ cls := "java/lang/StringUTF16", name := "newBytesFor", desc := "(I)[B" } : Jvm.MethodName) jdk_52_method_2_code (1 : Nat) (Option.some (Jvm.ClassFile.FieldType.array Jvm.ClassFile.FieldType.byte)), Jvm.Cond.code ({ cls := "java/lang/StringUTF16", name := "newBytesLength", desc := "(I)I" } : Jvm.MethodName) jdk_52_method_3_code (1 : Nat) (Option.some Jvm.ClassFile.FieldType.int), Jvm.Cond.code ({ cls := "java/lang/StringUTF16", name := "putChar", desc := "([BII)V" } : Jvm.MethodName) jdk_52_method_4_code (3 : Nat) (Option.none : Option Jvm.ClassFile.FieldType), Jvm.Cond.code ({ cls := "java/lang/StringUTF16", name := "getChar", desc := "([BI)C" } : Jvm.MethodName) jdk_52_method_5_code (2 : Nat) (Option.some Jvm.ClassFile.FieldType.char), Jvm.Cond.code ({ cls := "java/lang/StringUTF16", name := "charAt", desc := "([BI)C" } : Jvm.MethodName) jdk_52_method_83_code (2 : Nat) (Option.some Jvm.ClassFile.FieldType.char), Jvm.Cond.code ({ cls := "java/lang/StringUTF16", name := "checkIndex", desc := "(I[B)V" } : Jvm.MethodName) jdk_52_method_91_code (2 : Nat) (Option.none : Option Jvm.ClassFile.FieldType), Jvm.Cond.code ({ cls := "java/lang/StringUTF16", name := "length", desc := "([B)I" } : Jvm.MethodName) jdk_52_method_6_code (1 : Nat) (Option.some Jvm.ClassFile.FieldType.int), Jvm.Cond.code ({ cls := "java/lang/StringBuilder", name := "<init>", desc := "(I)V" } : Jvm.MethodName) jdk_67_method_2_code (2 : Nat) (Option.none : Option Jvm.ClassFile.FieldType), Jvm.Cond.code ({ cls := "java/lang/AbstractStringBuilder", name := "<init>", desc := "(I)V" } : Jvm.MethodName) jdk_68_method_2_code (2 : Nat) (Option.none : Option Jvm.ClassFile.FieldType), Jvm.Cond.code ({ cls := "com/example/nameshelf/nameshelf/uri/InfoUri", name := "isNamespaceCharacter", desc := "(I)Z" } : Jvm.MethodName) prog_62_method_18_code (1 : Nat) (Option.some Jvm.ClassFile.FieldType.boolean), Jvm.Cond.code ({ cls := "com/example/nameshelf/nameshelf/uri/InfoUri", name := "lowerAscii", desc := "(I)I" } : Jvm.MethodName) prog_62_method_20_code (1 : Nat) (Option.some Jvm.ClassFile.FieldType.int), Jvm.Cond.code ({ cls := "java/lang/StringBuilder", name := "append", desc := "(C)Ljava/lang/StringBuilder;" } : Jvm.MethodName) jdk_67_method_14_code (2 : Nat) (Option.some (Jvm.ClassFile.FieldType.object "java/lang/StringBuilder")), Jvm.Cond.code ({ cls := "java/lang/AbstractStringBuilder", name := "append", desc := "(C)Ljava/lang/AbstractStringBuilder;" } : Jvm.MethodName) jdk_68_method_31_code (2 : Nat) (Option.some (Jvm.ClassFile.FieldType.object "java/lang/AbstractStringBuilder")), Jvm.Cond.code ({ cls := "java/lang/AbstractStringBuilder", name := "ensureCapacityInternal", desc := "(I)V" } : Jvm.MethodName) jdk_68_method_9_code (3 : Nat) (Option.none : Option Jvm.ClassFile.FieldType), Jvm.Cond.code ({ cls := "java/lang/AbstractStringBuilder", name := "isLatin1", desc := "()Z" } : Jvm.MethodName) jdk_68_method_68_code (1 : Nat) (Option.some Jvm.ClassFile.FieldType.boolean), Jvm.Cond.code ({ cls := "java/lang/StringLatin1", name := "canEncode", desc := "(C)Z" } : Jvm.MethodName) jdk_43_method_3_code (1 : Nat) (Option.some Jvm.ClassFile.FieldType.boolean), Jvm.Cond.code ({ cls := "java/lang/StringBuilder", name := "toString", desc := "()Ljava/lang/String;" } : Jvm.MethodName) jdk_67_method_42_code (1 : Nat) (Option.some (Jvm.ClassFile.FieldType.object "java/lang/String")), Jvm.Cond.code ({ cls := "java/lang/String", name := "<init>", desc := "(Ljava/lang/StringBuilder;)V" } : Jvm.MethodName) jdk_42_method_53_code (2 : Nat) (Option.none : Option Jvm.ClassFile.FieldType), Jvm.Cond.code ({ cls := "java/lang/String", name := "<init>", desc := "(Ljava/lang/AbstractStringBuilder;Ljava/lang/Void;)V" } : Jvm.MethodName) jdk_42_method_150_code (5 : Nat) (Option.none : Option Jvm.ClassFile.FieldType), Jvm.Cond.code ({ cls := "java/lang/AbstractStringBuilder", name := "getValue", desc := "()[B" } : Jvm.MethodName) jdk_68_method_64_code (1 : Nat) (Option.some (Jvm.ClassFile.FieldType.array Jvm.ClassFile.FieldType.byte)), Jvm.Cond.code ({ cls := "java/lang/StringBuilder", name := "length", desc := "()I" } : Jvm.MethodName) jdk_67_method_93_code (1 : Nat) (Option.some Jvm.ClassFile.FieldType.int), Jvm.Cond.code ({ cls := "java/lang/AbstractStringBuilder", name := "length", desc := "()I" } : Jvm.MethodName) jdk_68_method_6_code (1 : Nat) (Option.some Jvm.ClassFile.FieldType.int), Jvm.Cond.code ({ cls := "java/util/Arrays", name := "copyOfRange", desc := "([BII)[B" } : Jvm.MethodName) jdk_65_method_132_code (3 : Nat) (Option.some (Jvm.ClassFile.FieldType.array Jvm.ClassFile.FieldType.byte)), Jvm.Cond.code ({ cls := "java/util/Optional", name := "of", desc := "(Ljava/lang/Object;)Ljava/util/Optional;" } : Jvm.MethodName) jdk_32_method_3_code (1 : Nat) (Option.some (Jvm.ClassFile.FieldType.object "java/util/Optional")), Jvm.Cond.code ({ cls := "java/util/Objects", name := "requireNonNull", desc := "(Ljava/lang/Object;)Ljava/lang/Object;" } : Jvm.MethodName) jdk_31_method_10_code (1 : Nat) (Option.some (Jvm.ClassFile.FieldType.object "java/lang/Object")), Jvm.Cond.code ({ cls := "java/util/Optional", name := "<init>", desc := "(Ljava/lang/Object;)V" } : Jvm.MethodName) jdk_32_method_2_code (2 : Nat) (Option.none : Option Jvm.ClassFile.FieldType), Jvm.Cond.code ({ cls := "java/util/Optional", name := "get", desc := "()Ljava/lang/Object;" } : Jvm.MethodName) jdk_32_method_5_code (1 : Nat) (Option.some (Jvm.ClassFile.FieldType.object "java/lang/Object")), Jvm.Cond.code ({ cls := "com/example/nameshelf/nameshelf/uri/InfoUriNormalNamespacePinLaw", name := "lower", desc := "(C)C" } : Jvm.MethodName) method_6_code (1 : Nat) (Option.some Jvm.ClassFile.FieldType.char), Jvm.Cond.code ({ cls := "com/example/nameshelf/nameshelf/uri/InfoUriNormalNamespacePinLaw", name := "isNs", desc := "(C)Z" } : Jvm.MethodName) method_5_code (1 : Nat) (Option.some Jvm.ClassFile.FieldType.boolean)]
set_option maxRecDepth 65536 in
theorem codes_eq : words1.filter isCode = codes1 := rfl
theorem w_codes : ∀ c ∈ words1.filter isCode, c.before args0 about1 = true := by
  rw [codes_eq]
  intro c hc
  simp only [codes1, List.mem_cons, List.not_mem_nil, or_false] at hc
  rcases hc with rfl | rfl | rfl | rfl | rfl | rfl | rfl | rfl | rfl | rfl | rfl | rfl | rfl | rfl | rfl | rfl | rfl | rfl | rfl | rfl | rfl | rfl | rfl | rfl | rfl | rfl | rfl | rfl | rfl | rfl | rfl | rfl | rfl | rfl | rfl | rfl | rfl | rfl | rfl | rfl | rfl | rfl | rfl | rfl | rfl | rfl | rfl | rfl | rfl | rfl
  · exact w_c0
  · exact w_c1
  · exact w_c2
  · exact w_c3
  · exact w_c4
  · exact w_c5
  · exact w_c6
  · exact w_c7
  · exact w_c8
  · exact w_c9
  · exact w_c10
  · exact w_c11
  · exact w_c12
  · exact w_c13
  · exact w_c14
  · exact w_c15
  · exact w_c16
  · exact w_c17
  · exact w_c18
  · exact w_c19
  · exact w_c20
  · exact w_c21
  · exact w_c22
  · exact w_c23
  · exact w_c24
  · exact w_c25
  · exact w_c26
  · exact w_c27
  · exact w_c28
  · exact w_c29
  · exact w_c30
  · exact w_c31
  · exact w_c32
  · exact w_c33
  · exact w_c34
  · exact w_c35
  · exact w_c36
  · exact w_c37
  · exact w_c38
  · exact w_c39
  · exact w_c40
  · exact w_c41
  · exact w_c42
  · exact w_c43
  · exact w_c44
  · exact w_c45
  · exact w_c46
  · exact w_c47
  · exact w_c48
  · exact w_c49
set_option maxRecDepth 65536 in
theorem w_t1 : (words1.take 24).all (fun c => isCode c || c.before args0 about1) = true := by decide +kernel
set_option maxRecDepth 65536 in
theorem w_t2 : ((words1.drop 24).take 24).all (fun c => isCode c || c.before args0 about1) = true := by decide +kernel
set_option maxRecDepth 65536 in
theorem w_t3 : (((words1.drop 24).drop 24).take 24).all (fun c => isCode c || c.before args0 about1) = true := by decide +kernel
set_option maxRecDepth 65536 in
theorem w_t4 : ((((words1.drop 24).drop 24).drop 24).take 24).all (fun c => isCode c || c.before args0 about1) = true := by decide +kernel
set_option maxRecDepth 65536 in
theorem w_t5 : (((((words1.drop 24).drop 24).drop 24).drop 24).take 24).all (fun c => isCode c || c.before args0 about1) = true := by decide +kernel
set_option maxRecDepth 65536 in
theorem w_t6 : ((((((words1.drop 24).drop 24).drop 24).drop 24).drop 24).take 24).all (fun c => isCode c || c.before args0 about1) = true := by decide +kernel
set_option maxRecDepth 65536 in
theorem w_t7 : (((((((words1.drop 24).drop 24).drop 24).drop 24).drop 24).drop 24).take 24).all (fun c => isCode c || c.before args0 about1) = true := by decide +kernel
set_option maxRecDepth 65536 in
theorem w_t8 : ((((((((words1.drop 24).drop 24).drop 24).drop 24).drop 24).drop 24).drop 24).take 24).all (fun c => isCode c || c.before args0 about1) = true := by decide +kernel
set_option maxRecDepth 65536 in
theorem w_t9 : (((((((((words1.drop 24).drop 24).drop 24).drop 24).drop 24).drop 24).drop 24).drop 24).take 24).all (fun c => isCode c || c.before args0 about1) = true := by decide +kernel
set_option maxRecDepth 65536 in
theorem w_t10 : ((((((((((words1.drop 24).drop 24).drop 24).drop 24).drop 24).drop 24).drop 24).drop 24).drop 24).take 24).all (fun c => isCode c || c.before args0 about1) = true := by decide +kernel
set_option maxRecDepth 65536 in
theorem w_t11 : ((((((((((words1.drop 24).drop 24).drop 24).drop 24).drop 24).drop 24).drop 24).drop 24).drop 24).drop 24).all (fun c => isCode c || c.before args0 about1) = true := by decide +kernel
theorem w_tables : (allAtoms (Jvm.Cond.code x code maxLocals ret :: tables_1)).before args0 about1 = true := by
  rw [allAtoms_all]
  show words1.all (fun c => c.before args0 about1) = true
  refine all_split ?_ w_codes
  rw [← List.take_append_drop 24 words1, List.all_append, w_t1, ← List.take_append_drop 24 (words1.drop 24), List.all_append, w_t2, ← List.take_append_drop 24 ((words1.drop 24).drop 24), List.all_append, w_t3, ← List.take_append_drop 24 (((words1.drop 24).drop 24).drop 24), List.all_append, w_t4, ← List.take_append_drop 24 ((((words1.drop 24).drop 24).drop 24).drop 24), List.all_append, w_t5, ← List.take_append_drop 24 (((((words1.drop 24).drop 24).drop 24).drop 24).drop 24), List.all_append, w_t6, ← List.take_append_drop 24 ((((((words1.drop 24).drop 24).drop 24).drop 24).drop 24).drop 24), List.all_append, w_t7, ← List.take_append_drop 24 (((((((words1.drop 24).drop 24).drop 24).drop 24).drop 24).drop 24).drop 24), List.all_append, w_t8, ← List.take_append_drop 24 ((((((((words1.drop 24).drop 24).drop 24).drop 24).drop 24).drop 24).drop 24).drop 24), List.all_append, w_t9, ← List.take_append_drop 24 (((((((((words1.drop 24).drop 24).drop 24).drop 24).drop 24).drop 24).drop 24).drop 24).drop 24), List.all_append, w_t10, w_t11]
  rfl
set_option maxRecDepth 65536 in
theorem w_rest : rest_1_c.before args0 about1 = true := by decide +kernel
set_option maxRecDepth 65536 in
theorem w_case : (Jvm.Cond.and given_1 narrow_1).before args0 about1 = true := by decide +kernel
set_option maxRecDepth 65536 in
theorem w_consts : constsHeld consts_1 about1 := Jvm.Lit.constsHeldB_iff.mp (by decide +kernel)
theorem w_applies : (headSpec (Jvm.Cond.code x code maxLocals ret :: tables_1) room_1).applies x e0.platform about1 = true :=
  (Spec.applies_iff w_frames).mpr ⟨w_running, w_runnable, w_alone, w_named, w_hears, w_ripe, w_room, w_tables⟩
theorem atStart : AtStart classFile x code maxLocals ret World_1 tables_1 room_1 Calls_1 rest_1 Pre_1 launch0 p0 e0 about1 theMethod args0 below0 :=
  ⟨lists_1, trivial, launch0.admits_env _ _ _, launch0.least_env, fairChoices_fair.cas, fairChoices_fair.clock, w_frames, w_args, w_heap, w_applies, ⟨w_consts, trivial⟩, w_rest, w_case⟩
end start1
theorem witness_1 : WitnessClaimed_1 := ⟨start1.p0, start1.e0, start1.about1, start1.theMethod, start1.args0, start1.below0, start1.atStart⟩
end Jvm.Pilot.@@N@@
