import JvmDerived
import JvmDerived.Pilot.@@N@@Statement
import JvmDerived.Pilot.@@N@@Code
set_option linter.unusedVariables false
set_option linter.unusedSimpArgs false
namespace Jvm.Own
open Jvm Jvm.ClassFile Sem Op Lib Jvm.Free Jvm.Stand Jvm.LawKit Jvm.RoadKit Bundle
/-! A walk in 'what is left to do' form: Go .. says that from every state that stands at this frame over this heap the body runs to its end and leaves what Post says. -/
abbrev Kx : Type := Program × Launch × Env × State × MethodId × Array Value × List Frame × Method × Code
abbrev Kx.p (K : Kx) : Program := K.1
abbrev Kx.l (K : Kx) : Launch := K.2.1
abbrev Kx.e (K : Kx) : Env := K.2.2.1
abbrev Kx.s (K : Kx) : State := K.2.2.2.1
abbrev Kx.m (K : Kx) : MethodId := K.2.2.2.2.1
abbrev Kx.as (K : Kx) : Array Value := K.2.2.2.2.2.1
abbrev Kx.below (K : Kx) : List Frame := K.2.2.2.2.2.2.1
abbrev Kx.meth (K : Kx) : Method := K.2.2.2.2.2.2.2.1
abbrev Kx.c (K : Kx) : Code := K.2.2.2.2.2.2.2.2
/-- the decode fact, with the next place -/
def Dc (code : ByteArray) (pc : Nat) (i : Instr) (n pc' : Nat) : Prop := decode code pc = .ok (i, n) ∧ pc + n = pc'
abbrev Pst : Type := Option Value → Heap → List Addr → Prop
/-- where the walk stands -/
def Inv (Z : State) (EL : List (String × Nat)) (nw : Bool) (R : Room) (K : Kx) (T : State) (h : Heap) (S : List Addr) (k n : Nat) : Prop :=
  ∃ (vm0 : Vm) (k0 : Nat) (locs : List Loc), Stand K.p K.l K.e R (K.s.setVm vm0) K.m K.as K.below K.meth K.c T locs k n ∧ K.s.Since vm0 k0 ∧ k0 ≤ h.size ∧ Z.Warmed39 vm0 ∧ T.heap = h ∧ Fr Z.heap.size locs ∧
    CHr Z EL K.s.vm K.s.heap vm0 h ∧ (∀ a ∈ S, Z.heap.size ≤ a ∧ a < h.size ∧ Safe Z EL vm0 h a) ∧ (nw = true → K.s.WarmedH vm0) ∧ Ext Z.heap h
/-- what the end must be -/
def EndQ (Z : State) (EL : List (String × Nat)) (nw : Bool) (R : Room) (Post : Pst) (s : State) (o : Outcome) (t : State) : Prop :=
  ∃ v L S', o = .returned v ∧ Post v t.heap S' ∧ Fr Z.heap.size L ∧ CHr Z EL s.vm s.heap t.vm t.heap ∧ (∀ x ∈ S', Z.heap.size ≤ x ∧ x < t.heap.size ∧ Safe Z EL t.vm t.heap x) ∧ ReturnedEndW s o t L R.cells R.slots ∧ (nw = true → s.WarmedH t.vm) ∧ Ext Z.heap t.heap
def Fin' (Z : State) (EL : List (String × Nat)) (nw : Bool) (R : Room) (Post : Pst) (K : Kx) (U : State) : Prop :=
  ∃ s₂ o, Steps K.p.tables K.e K.below U s₂ ∧ s₂.status = .running ∧ Ended s₂ K.below o ∧ EndQ Z EL nw R Post K.s o s₂
def Go (Z : State) (EL : List (String × Nat)) (nw : Bool) (R : Room) (Post : Pst) (K : Kx) (h : Heap) (S : List Addr) (k n pc : Nat) (L : List Slot) (st : List Value) : Prop :=
  ∀ T, Inv Z EL nw R K T h S k n → Fin' Z EL nw R Post K (T.setTop (mkF K.m pc L.toArray st))
def Good (Z : State) (a0 : Array Value) (EL : List (String × Nat)) (K : Kx) (own : String) (code : ByteArray) (maxL : Nat) (ret : Option FieldType) (nm : String) : Prop :=
  K.p.tables.exec = Jvm.exec ∧ K.c.code = code ∧ K.c.maxLocals = maxL ∧ K.meth.sig.returnType = ret ∧ K.meth.locks = false ∧ K.meth.name = nm ∧ K.s.vm.findClass own = some K.m.cls ∧ EW Z a0 EL
/-- a body's contract -/
def Con (l : Launch) (Z : State) (EL : List (String × Nat)) (nw : Bool) (y : MethodName) (bytes : ByteArray) (maxL : Nat) (ret : Option FieldType) (ws : List Jvm.Cond) (rm : Room) (as : Array Value) (h : Heap) (S : List Addr) (Post : Pst) : Prop :=
  MetFree l y (head1 (Jvm.Cond.code y bytes maxL ret :: ws) rm) (fun a U => a = as ∧ Z.Warmed39 U.vm ∧ U.heap = h ∧ CHv Z EL U.vm h ∧ (∀ x ∈ S, Z.heap.size ≤ x ∧ x < h.size ∧ Safe Z EL U.vm h x) ∧ Ext Z.heap h) (fun _ _ _ _ _ => True) (fun _ U o U' => EndQ Z EL nw rm Post U o U')
section Rules
variable {Z : State} {a0 : Array Value} {EL : List (String × Nat)} {nw : Bool} {R : Room} {Post : Pst} {K : Kx} {own : String} {code : ByteArray} {maxL : Nat} {ret : Option FieldType} {nm : String} {h h' : Heap} {S S' : List Addr} {k n k' n' pc pc' : Nat} {L L' : List Slot} {st : List Value} {l : Launch}
theorem Fin'.step {U U' : State} (q : ∀ target, Steps K.p.tables K.e K.below U' target → Steps K.p.tables K.e K.below U target) (f : Fin' Z EL nw R Post K U') : Fin' Z EL nw R Post K U := by
  obtain ⟨s₂, o, h1, r⟩ := f
  exact ⟨s₂, o, q _ h1, r⟩
theorem Good.hown (G : Good Z a0 EL K own code maxL ret nm) {vm0 : Vm} {k0 : Nat} (hS : K.s.Since vm0 k0) : vm0.findClass own = some K.m.cls := (hS.1.alike.findClass _ _).trans G.2.2.2.2.2.2.1
/-- entering a body -/
theorem Con.enter {y : MethodName} {bytes : ByteArray} {ws : List Jvm.Cond} {as : Array Value} (hp : plainFor y = true) (hEL : EW Z a0 EL) (L0 : List Slot) (hef : ∀ m, entryFrame m as maxL = mkF m 0 L0.toArray [])
    (body : ∀ K : Kx, Good Z a0 EL K y.cls bytes maxL ret y.name → Go Z EL nw R Post K h S 0 0 0 L0 []) : Con l Z EL nw y bytes maxL ret ws R as h S Post := by
  refine MetFree.of_bodySF hp hisR ?_
  intro p e s m args below meth c s₁ Bd hml0 hP hK
  obtain ⟨rfl, hZ, hh, hC, hSf, hO⟩ := hP
  have X0 : Stand p l e R s m args below meth c s₁ [] 0 0 := Stand.of_body Bd
  have e0 : s₁.heap = h := by rw [← hh, Bd.state]; rfl
  have G : Good Z a0 EL (p, l, e, s, m, args, below, meth, c) y.cls bytes maxL ret y.name := ⟨Bd.exec, Bd.bytes, hml0, Bd.returns, Bd.notSynchronized, (name_of_methodNamed Bd.named Bd.method).1, findClass_of_methodNamed Bd.named, hEL⟩
  have F := body (p, l, e, s, m, args, below, meth, c) G s₁ ⟨s.vm, h.size, [], X0, (State.WarmedH.refl s).since _, Nat.le_refl _, hZ, e0, Fr.nil _, by show CHr Z EL s.vm s.heap s.vm h; rw [hh]; exact CHr.refl hC, hSf, fun _ => State.WarmedH.refl s, hO⟩
  obtain ⟨s₂, o, h1, h2, h3, h4⟩ := F
  exact ⟨s₂, o, castTop (hef m) h1, h2, h3, h4⟩
/-- a plain step -/
theorem Go.plain (q : ∀ (T : State) target, At T K.m K.c K.below → Steps K.p.tables K.e K.below (T.setTop (mkF K.m pc' L'.toArray st)) target → Steps K.p.tables K.e K.below (T.setTop (mkF K.m pc L.toArray st')) target) (f : Go Z EL nw R Post K h S k n pc' L' st) : Go Z EL nw R Post K h S k n pc L st' := fun T I => by
  obtain ⟨vm0, k0, locs, X, r⟩ := I
  exact (f T ⟨vm0, k0, locs, X, r⟩).step fun t z => q T t X.here z
theorem Go.more (f : Go Z EL nw R Post K h S k' n' pc L st) (hk : k ≤ k') (hn : n ≤ n') : Go Z EL nw R Post K h S k n pc L st := fun T I => by
  obtain ⟨vm0, k0, locs, X, r⟩ := I
  exact f T ⟨vm0, k0, locs, X.mono hk hn, r⟩
theorem Go.fewer (f : Go Z EL nw R Post K h S' k n pc L st) (hs : ∀ x ∈ S', x ∈ S) : Go Z EL nw R Post K h S k n pc L st := fun T I => by
  obtain ⟨vm0, k0, locs, X, r1, r2, r3, r4, r5, r6, r7, r8⟩ := I
  exact f T ⟨vm0, k0, locs, X, r1, r2, r3, r4, r5, r6, fun a q => r7 a (hs a q), r8⟩
/-- what is known of the places in S -/
theorem Go.safeIn (f : (∀ a ∈ S, Z.heap.size ≤ a ∧ a < h.size) → Go Z EL nw R Post K h S k n pc L st) : Go Z EL nw R Post K h S k n pc L st := fun T I => by
  obtain ⟨vm0, k0, locs, X, r1, r2, r3, r4, r5, r6, r7, r8⟩ := I
  exact f (fun a q => ⟨(r7 a q).1, (r7 a q).2.1⟩) T ⟨vm0, k0, locs, X, r1, r2, r3, r4, r5, r6, r7, r8⟩
theorem Go.oldIn (f : Ext Z.heap h → Go Z EL nw R Post K h S k n pc L st) : Go Z EL nw R Post K h S k n pc L st := fun T I => by
  obtain ⟨vm0, k0, locs, X, r1, r2, r3, r4, r5, r6, r7, r8⟩ := I
  exact f r8.2 T ⟨vm0, k0, locs, X, r1, r2, r3, r4, r5, r6, r7, r8⟩
/-! ### the ends -/
theorem Good.leave (G : Good Z a0 EL K own code maxL ret nm) {v : Option Value} (hv : ret = none → v = none) (hk : k ≤ R.cells) (hn : n ≤ R.slots) (S' : List Addr) (hS' : ∀ x ∈ S', x ∈ S) (hP : Post v h S')
    (q : ∀ (T : State) (vm0 : Vm) (locs : List Loc) (fs : List Frame), Stand K.p K.l K.e R (K.s.setVm vm0) K.m K.as K.below K.meth K.c T locs k n → (∀ (f : JFrame) (acts : List Action), f.method = K.m → f.locked = none → f.entered = [] → (doReturn K.e (T.setTop f) acts v).1 = T.setFrames fs) → Steps K.p.tables K.e K.below (T.setTop (mkF K.m pc L.toArray st)) (T.setFrames fs)) :
    Go Z EL nw R Post K h S k n pc L st := fun T I => by
  obtain ⟨vm0, k0, locs, X, hS, hk0, hZ, e, N, CH, hSf, hw, hO⟩ := I
  obtain ⟨hx, hby, hml, hret, hlk, hnm, hown, hEL⟩ := G
  have hlk' : K.meth.locks = false := hlk
  obtain ⟨fs, h1, h2, h3, hE⟩ := X.leaveW hS (by rw [e]; exact hk0) (v := v) (fun z => hv (hret.symm.trans z)) hlk'
  obtain ⟨a1, a2, a3, a4⟩ := hE
  have CA := CHv.at X hZ hEL CH.1
  have eh : (T.setFrames fs).heap = h := e
  refine ⟨_, _, q T vm0 locs fs X h1, h2, h3, v, locs, S', rfl, by rw [eh]; exact hP, N, ?_, ?_, ⟨a1, a2, a3, a4.mono hk hn⟩, fun z => State.WarmedH.trans (t := K.s.setVm vm0) (hw z) X.warmed, by rw [eh]; exact hO⟩
  · show CHr Z EL K.s.vm K.s.heap T.vm (T.setFrames fs).heap
    rw [eh]; exact CH.trans CA
  · intro x hx'
    obtain ⟨b1, b2, b3⟩ := hSf x (hS' x hx')
    show Z.heap.size ≤ x ∧ x < (T.setFrames fs).heap.size ∧ Safe Z EL T.vm (T.setFrames fs).heap x
    rw [eh]; exact ⟨b1, b2, CA.safe b2 b3⟩
theorem Good.ret0 (G : Good Z a0 EL K own code maxL none nm) (hd : Dc code pc .return_ 1 pc') (S' : List Addr) (hS' : ∀ x ∈ S', x ∈ S) (hP : Post none h S') (hk : k ≤ R.cells := by decide) (hn : n ≤ R.slots := by decide) : Go Z EL nw R Post K h S k n pc L [] :=
  G.leave (fun _ => rfl) hk hn S' hS' hP fun T vm0 locs fs X hr => X.returnOut G.1 G.2.2.2.1 (hb G.2.1 hd.1) hr
theorem Good.retV {t : FieldType} (G : Good Z a0 EL K own code maxL (some t) nm) {w : Value} {i : Instr} (hd : Dc code pc i 1 pc') (hn' : narrow t w = w)
    (hi : (i = .ireturn ∧ (t = .int ∨ t = .boolean ∨ t = .byte ∨ t = .char ∨ t = .short) ∧ ∃ z, w = .int z) ∨ (i = .lreturn ∧ t = .long ∧ ∃ z, w = .long z) ∨ (i = .dreturn ∧ t = .double ∧ ∃ z, w = .double z) ∨ (i = .freturn ∧ t = .float ∧ ∃ z, w = .float z) ∨ (i = .areturn ∧ t.isReference = true ∧ w.isRef = true))
    (S' : List Addr) (hS' : ∀ x ∈ S', x ∈ S) (hP : Post (some w) h S') (hk : k ≤ R.cells := by decide) (hn : n ≤ R.slots := by decide) : Go Z EL nw R Post K h S k n pc L (w :: st) :=
  G.leave (fun z => by cases z) hk hn S' hS' hP fun T vm0 locs fs X hr => retOut X G.1 G.2.2.2.1 hn' hi (hb G.2.1 hd.1) hr
theorem Good.iret (G : Good Z a0 EL K own code maxL (some .int) nm) {z : Int32} (hd : Dc code pc .ireturn 1 pc') (S' : List Addr) (hS' : ∀ x ∈ S', x ∈ S) (hP : Post (some (.int z)) h S') (hk : k ≤ R.cells := by decide) (hn : n ≤ R.slots := by decide) : Go Z EL nw R Post K h S k n pc L (.int z :: st) :=
  G.retV hd rfl (Or.inl ⟨rfl, Or.inl rfl, z, rfl⟩) S' hS' hP hk hn
theorem Good.lret (G : Good Z a0 EL K own code maxL (some .long) nm) {z : Int64} (hd : Dc code pc .lreturn 1 pc') (S' : List Addr) (hS' : ∀ x ∈ S', x ∈ S) (hP : Post (some (.long z)) h S') (hk : k ≤ R.cells := by decide) (hn : n ≤ R.slots := by decide) : Go Z EL nw R Post K h S k n pc L (.long z :: st) :=
  G.retV hd rfl (Or.inr (Or.inl ⟨rfl, rfl, z, rfl⟩)) S' hS' hP hk hn
theorem Good.aret {t : FieldType} (G : Good Z a0 EL K own code maxL (some t) nm) {w : Value} (hd : Dc code pc .areturn 1 pc') (S' : List Addr) (hS' : ∀ x ∈ S', x ∈ S) (hP : Post (some w) h S') (hr : w.isRef = true := by rfl) (ht : t.isReference = true := by rfl) (hk : k ≤ R.cells := by decide) (hn : n ≤ R.slots := by decide) : Go Z EL nw R Post K h S k n pc L (w :: st) :=
  G.retV hd (by rcases ref_cases hr with rfl | ⟨_, rfl⟩ <;> cases t <;> first | rfl | cases ht) (Or.inr (Or.inr (Or.inr (Or.inr ⟨rfl, ht, hr⟩)))) S' hS' hP hk hn
/-- boolean, byte, char, short -/
theorem Good.nret {t : FieldType} (G : Good Z a0 EL K own code maxL (some t) nm) {z z' : Int32} (hd : Dc code pc .ireturn 1 pc') (ht : t = .boolean ∨ t = .byte ∨ t = .char ∨ t = .short) (hz : nar t z = z') (S' : List Addr) (hS' : ∀ x ∈ S', x ∈ S) (hP : Post (some (.int z')) h S') (hk : k ≤ R.cells := by decide) (hn : n ≤ R.slots := by decide) : Go Z EL nw R Post K h S k n pc L (.int z :: st) :=
  G.leave (fun z => by cases z) hk hn S' hS' hP fun T vm0 locs fs X hr => retN X G.1 G.2.2.2.1 ht (hb G.2.1 hd.1) (by rw [hz]; exact hr)
end Rules
end Jvm.Own
namespace Jvm.Own
open Jvm Jvm.ClassFile Sem Op Lib Jvm.Free Jvm.Stand Jvm.LawKit Jvm.RoadKit Bundle
/-- a branch's decode fact, with both places -/
def Dj (code : ByteArray) (pc : Nat) (i : Int → Instr) (pc' pcY : Nat) : Prop := ∃ o : Int, decode code pc = .ok (i o, 3) ∧ pc + 3 = pc' ∧ 0 ≤ (pc : Int) + o ∧ ((pc : Int) + o).toNat = pcY
section Plain
variable {Z : State} {a0 : Array Value} {EL : List (String × Nat)} {nw : Bool} {R : Room} {Post : Pst} {K : Kx} {own : String} {code : ByteArray} {maxL : Nat} {ret : Option FieldType} {nm : String} {h : Heap} {S : List Addr} {k n pc pc' pcY : Nat} {L : List Slot} {st : List Value}
theorem Good.aloadN (G : Good Z a0 EL K own code maxL ret nm) {j : Fin 4} {v : Value} (hd : Dc code pc (.aload_n j) 1 pc') (hl : L[j.val]? = some (.val v)) (hv : v.isRef = true) (f : Go Z EL nw R Post K h S k n pc' L (v :: st)) : Go Z EL nw R Post K h S k n pc L st := by
  obtain ⟨hd, rfl⟩ := hd
  exact Go.plain (fun T t X q => XS.aloadN X G.1 rfl (hb G.2.1 hd) (by simpa using hl) hv q) f
theorem Good.aload (G : Good Z a0 EL K own code maxL ret nm) {j : Nat} {v : Value} (hd : Dc code pc (.aload j) 2 pc') (hl : L[j]? = some (.val v)) (hv : v.isRef = true) (f : Go Z EL nw R Post K h S k n pc' L (v :: st)) : Go Z EL nw R Post K h S k n pc L st := by
  obtain ⟨hd, rfl⟩ := hd
  exact Go.plain (fun T t X q => XS.aload X G.1 rfl (hb G.2.1 hd) (by simpa using hl) hv q) f
theorem Good.iloadN (G : Good Z a0 EL K own code maxL ret nm) {j : Fin 4} {v : Int32} (hd : Dc code pc (.iload_n j) 1 pc') (hl : L[j.val]? = some (.val (.int v))) (f : Go Z EL nw R Post K h S k n pc' L (.int v :: st)) : Go Z EL nw R Post K h S k n pc L st := by
  obtain ⟨hd, rfl⟩ := hd
  exact Go.plain (fun T t X q => XS.iloadN X G.1 rfl (hb G.2.1 hd) (by simpa using hl) q) f
theorem Good.iload (G : Good Z a0 EL K own code maxL ret nm) {j : Nat} {v : Int32} (hd : Dc code pc (.iload j) 2 pc') (hl : L[j]? = some (.val (.int v))) (f : Go Z EL nw R Post K h S k n pc' L (.int v :: st)) : Go Z EL nw R Post K h S k n pc L st := by
  obtain ⟨hd, rfl⟩ := hd
  exact Go.plain (fun T t X q => XS.iload X G.1 rfl (hb G.2.1 hd) (by simpa using hl) q) f
theorem Good.lloadN (G : Good Z a0 EL K own code maxL ret nm) {j : Fin 4} {v : Int64} (hd : Dc code pc (.lload_n j) 1 pc') (hl : L[j.val]? = some (.val (.long v))) (f : Go Z EL nw R Post K h S k n pc' L (.long v :: st)) : Go Z EL nw R Post K h S k n pc L st := by
  obtain ⟨hd, rfl⟩ := hd
  exact Go.plain (fun T t X q => XS.lloadN X G.1 rfl (hb G.2.1 hd) (by simpa using hl) q) f
theorem Good.lload (G : Good Z a0 EL K own code maxL ret nm) {j : Nat} {v : Int64} (hd : Dc code pc (.lload j) 2 pc') (hl : L[j]? = some (.val (.long v))) (f : Go Z EL nw R Post K h S k n pc' L (.long v :: st)) : Go Z EL nw R Post K h S k n pc L st := by
  obtain ⟨hd, rfl⟩ := hd
  exact Go.plain (fun T t X q => XS.lload X G.1 rfl (hb G.2.1 hd) (by simpa using hl) q) f
theorem Good.iconst (G : Good Z a0 EL K own code maxL ret nm) (z : Int32) {i : Int} (hd : Dc code pc (.iconst i) 1 pc')  (f : Go Z EL nw R Post K h S k n pc' L (.int z :: st)) (hz : Int32.ofInt i = z := by decide) : Go Z EL nw R Post K h S k n pc L st := by
  obtain ⟨hd, rfl⟩ := hd
  exact Go.plain (fun T t X q => XS.iconst X G.1 rfl (hb G.2.1 hd) (by rw [hz]; exact q)) f
theorem Good.bipush (G : Good Z a0 EL K own code maxL ret nm) (z : Int32) {i : Int} (hd : Dc code pc (.bipush i) 2 pc')  (f : Go Z EL nw R Post K h S k n pc' L (.int z :: st)) (hz : (Int8.ofInt i).toInt32 = z := by decide) : Go Z EL nw R Post K h S k n pc L st := by
  obtain ⟨hd, rfl⟩ := hd
  exact Go.plain (fun T t X q => XS.bipush X G.1 rfl (hb G.2.1 hd) (by rw [hz]; exact q)) f
theorem Good.sipush (G : Good Z a0 EL K own code maxL ret nm) (z : Int32) {i : Int} (hd : Dc code pc (.sipush i) 3 pc')  (f : Go Z EL nw R Post K h S k n pc' L (.int z :: st)) (hz : (Int16.ofInt i).toInt32 = z := by decide) : Go Z EL nw R Post K h S k n pc L st := by
  obtain ⟨hd, rfl⟩ := hd
  exact Go.plain (fun T t X q => XS.sipush X G.1 rfl (hb G.2.1 hd) (by rw [hz]; exact q)) f
theorem Good.lconst (G : Good Z a0 EL K own code maxL ret nm) (z : Int64) {i : Fin 2} (hd : Dc code pc (.lconst i) 1 pc')  (f : Go Z EL nw R Post K h S k n pc' L (.long z :: st)) (hz : Int64.ofNat i = z := by decide) : Go Z EL nw R Post K h S k n pc L st := by
  obtain ⟨hd, rfl⟩ := hd
  exact Go.plain (fun T t X q => XS.lconst X G.1 rfl (hb G.2.1 hd) (by rw [hz]; exact q)) f
theorem Good.aconstNull (G : Good Z a0 EL K own code maxL ret nm)  (hd : Dc code pc .aconst_null 1 pc')  (f : Go Z EL nw R Post K h S k n pc' L (.null :: st)) : Go Z EL nw R Post K h S k n pc L st := by
  obtain ⟨hd, rfl⟩ := hd
  exact Go.plain (fun T t X q => XS.aconstNull X G.1 rfl (hb G.2.1 hd)  q) f
theorem Good.iadd (G : Good Z a0 EL K own code maxL ret nm) {x y : Int32} (hd : Dc code pc .iadd 1 pc')  (f : Go Z EL nw R Post K h S k n pc' L (.int (x + y) :: st)) : Go Z EL nw R Post K h S k n pc L (.int y :: .int x :: st) := by
  obtain ⟨hd, rfl⟩ := hd
  exact Go.plain (fun T t X q => XS.iadd X G.1 rfl (hb G.2.1 hd) rfl q) f
theorem Good.isub (G : Good Z a0 EL K own code maxL ret nm) {x y : Int32} (hd : Dc code pc .isub 1 pc')  (f : Go Z EL nw R Post K h S k n pc' L (.int (x - y) :: st)) : Go Z EL nw R Post K h S k n pc L (.int y :: .int x :: st) := by
  obtain ⟨hd, rfl⟩ := hd
  exact Go.plain (fun T t X q => XS.isub X G.1 rfl (hb G.2.1 hd) rfl q) f
theorem Good.imul (G : Good Z a0 EL K own code maxL ret nm) {x y : Int32} (hd : Dc code pc .imul 1 pc')  (f : Go Z EL nw R Post K h S k n pc' L (.int (x * y) :: st)) : Go Z EL nw R Post K h S k n pc L (.int y :: .int x :: st) := by
  obtain ⟨hd, rfl⟩ := hd
  exact Go.plain (fun T t X q => XS.imul X G.1 rfl (hb G.2.1 hd) rfl q) f
theorem Good.iand (G : Good Z a0 EL K own code maxL ret nm) {x y : Int32} (hd : Dc code pc .iand 1 pc')  (f : Go Z EL nw R Post K h S k n pc' L (.int (x &&& y) :: st)) : Go Z EL nw R Post K h S k n pc L (.int y :: .int x :: st) := by
  obtain ⟨hd, rfl⟩ := hd
  exact Go.plain (fun T t X q => XS.iand X G.1 rfl (hb G.2.1 hd) rfl q) f
theorem Good.ior (G : Good Z a0 EL K own code maxL ret nm) {x y : Int32} (hd : Dc code pc .ior 1 pc')  (f : Go Z EL nw R Post K h S k n pc' L (.int (x ||| y) :: st)) : Go Z EL nw R Post K h S k n pc L (.int y :: .int x :: st) := by
  obtain ⟨hd, rfl⟩ := hd
  exact Go.plain (fun T t X q => XS.ior X G.1 rfl (hb G.2.1 hd) rfl q) f
theorem Good.ixor (G : Good Z a0 EL K own code maxL ret nm) {x y : Int32} (hd : Dc code pc .ixor 1 pc')  (f : Go Z EL nw R Post K h S k n pc' L (.int (x ^^^ y) :: st)) : Go Z EL nw R Post K h S k n pc L (.int y :: .int x :: st) := by
  obtain ⟨hd, rfl⟩ := hd
  exact Go.plain (fun T t X q => XS.ixor X G.1 rfl (hb G.2.1 hd) rfl q) f
theorem Good.ishl (G : Good Z a0 EL K own code maxL ret nm) {x y : Int32} (hd : Dc code pc .ishl 1 pc')  (f : Go Z EL nw R Post K h S k n pc' L (.int (x <<< (y &&& 31)) :: st)) : Go Z EL nw R Post K h S k n pc L (.int y :: .int x :: st) := by
  obtain ⟨hd, rfl⟩ := hd
  exact Go.plain (fun T t X q => XS.ishl X G.1 rfl (hb G.2.1 hd) rfl q) f
theorem Good.ishr (G : Good Z a0 EL K own code maxL ret nm) {x y : Int32} (hd : Dc code pc .ishr 1 pc')  (f : Go Z EL nw R Post K h S k n pc' L (.int (x >>> (y &&& 31)) :: st)) : Go Z EL nw R Post K h S k n pc L (.int y :: .int x :: st) := by
  obtain ⟨hd, rfl⟩ := hd
  exact Go.plain (fun T t X q => XS.ishr X G.1 rfl (hb G.2.1 hd) rfl q) f
theorem Good.iushr (G : Good Z a0 EL K own code maxL ret nm) {x y : Int32} (hd : Dc code pc .iushr 1 pc')  (f : Go Z EL nw R Post K h S k n pc' L (.int ((x.toUInt32 >>> (y &&& 31).toUInt32).toInt32) :: st)) : Go Z EL nw R Post K h S k n pc L (.int y :: .int x :: st) := by
  obtain ⟨hd, rfl⟩ := hd
  exact Go.plain (fun T t X q => XS.iushr X G.1 rfl (hb G.2.1 hd) rfl q) f
theorem Good.idiv (G : Good Z a0 EL K own code maxL ret nm) {x y : Int32} (hd : Dc code pc .idiv 1 pc') (hy : y ≠ 0) (f : Go Z EL nw R Post K h S k n pc' L (.int (x / y) :: st)) : Go Z EL nw R Post K h S k n pc L (.int y :: .int x :: st) := by
  obtain ⟨hd, rfl⟩ := hd
  exact Go.plain (fun T t X q => XS.idiv X G.1 rfl (hb G.2.1 hd) rfl hy q) f
theorem Good.irem (G : Good Z a0 EL K own code maxL ret nm) {x y : Int32} (hd : Dc code pc .irem 1 pc') (hy : y ≠ 0) (f : Go Z EL nw R Post K h S k n pc' L (.int (x % y) :: st)) : Go Z EL nw R Post K h S k n pc L (.int y :: .int x :: st) := by
  obtain ⟨hd, rfl⟩ := hd
  exact Go.plain (fun T t X q => XS.irem X G.1 rfl (hb G.2.1 hd) rfl hy (by rw [show x - x / y * y = x % y from irem_eq_mod x y]; exact q)) f
theorem Good.ineg (G : Good Z a0 EL K own code maxL ret nm) {x : Int32} (hd : Dc code pc .ineg 1 pc')  (f : Go Z EL nw R Post K h S k n pc' L (.int (-x) :: st)) : Go Z EL nw R Post K h S k n pc L (.int x :: st) := by
  obtain ⟨hd, rfl⟩ := hd
  exact Go.plain (fun T t X q => XS.ineg X G.1 rfl (hb G.2.1 hd) rfl q) f
theorem Good.ladd (G : Good Z a0 EL K own code maxL ret nm) {x y : Int64} (hd : Dc code pc .ladd 1 pc')  (f : Go Z EL nw R Post K h S k n pc' L (.long (x + y) :: st)) : Go Z EL nw R Post K h S k n pc L (.long y :: .long x :: st) := by
  obtain ⟨hd, rfl⟩ := hd
  exact Go.plain (fun T t X q => XS.ladd X G.1 rfl (hb G.2.1 hd) rfl q) f
theorem Good.lsub (G : Good Z a0 EL K own code maxL ret nm) {x y : Int64} (hd : Dc code pc .lsub 1 pc')  (f : Go Z EL nw R Post K h S k n pc' L (.long (x - y) :: st)) : Go Z EL nw R Post K h S k n pc L (.long y :: .long x :: st) := by
  obtain ⟨hd, rfl⟩ := hd
  exact Go.plain (fun T t X q => XS.lsub X G.1 rfl (hb G.2.1 hd) rfl q) f
theorem Good.lmul (G : Good Z a0 EL K own code maxL ret nm) {x y : Int64} (hd : Dc code pc .lmul 1 pc')  (f : Go Z EL nw R Post K h S k n pc' L (.long (x * y) :: st)) : Go Z EL nw R Post K h S k n pc L (.long y :: .long x :: st) := by
  obtain ⟨hd, rfl⟩ := hd
  exact Go.plain (fun T t X q => XS.lmul X G.1 rfl (hb G.2.1 hd) rfl q) f
theorem Good.land (G : Good Z a0 EL K own code maxL ret nm) {x y : Int64} (hd : Dc code pc .land 1 pc')  (f : Go Z EL nw R Post K h S k n pc' L (.long (x &&& y) :: st)) : Go Z EL nw R Post K h S k n pc L (.long y :: .long x :: st) := by
  obtain ⟨hd, rfl⟩ := hd
  exact Go.plain (fun T t X q => XS.land X G.1 rfl (hb G.2.1 hd) rfl q) f
theorem Good.lor (G : Good Z a0 EL K own code maxL ret nm) {x y : Int64} (hd : Dc code pc .lor 1 pc')  (f : Go Z EL nw R Post K h S k n pc' L (.long (x ||| y) :: st)) : Go Z EL nw R Post K h S k n pc L (.long y :: .long x :: st) := by
  obtain ⟨hd, rfl⟩ := hd
  exact Go.plain (fun T t X q => XS.lor X G.1 rfl (hb G.2.1 hd) rfl q) f
theorem Good.lxor (G : Good Z a0 EL K own code maxL ret nm) {x y : Int64} (hd : Dc code pc .lxor 1 pc')  (f : Go Z EL nw R Post K h S k n pc' L (.long (x ^^^ y) :: st)) : Go Z EL nw R Post K h S k n pc L (.long y :: .long x :: st) := by
  obtain ⟨hd, rfl⟩ := hd
  exact Go.plain (fun T t X q => XS.lxor X G.1 rfl (hb G.2.1 hd) rfl q) f
theorem Good.lshl (G : Good Z a0 EL K own code maxL ret nm) {x : Int64} {y : Int32} (hd : Dc code pc .lshl 1 pc')  (f : Go Z EL nw R Post K h S k n pc' L (.long (x <<< (y &&& 0x3f).toInt64) :: st)) : Go Z EL nw R Post K h S k n pc L (.int y :: .long x :: st) := by
  obtain ⟨hd, rfl⟩ := hd
  exact Go.plain (fun T t X q => XS.lshl X G.1 rfl (hb G.2.1 hd) rfl q) f
theorem Good.lshr (G : Good Z a0 EL K own code maxL ret nm) {x : Int64} {y : Int32} (hd : Dc code pc .lshr 1 pc')  (f : Go Z EL nw R Post K h S k n pc' L (.long (x >>> (y &&& 0x3f).toInt64) :: st)) : Go Z EL nw R Post K h S k n pc L (.int y :: .long x :: st) := by
  obtain ⟨hd, rfl⟩ := hd
  exact Go.plain (fun T t X q => XS.lshr X G.1 rfl (hb G.2.1 hd) rfl q) f
theorem Good.lushr (G : Good Z a0 EL K own code maxL ret nm) {x : Int64} {y : Int32} (hd : Dc code pc .lushr 1 pc')  (f : Go Z EL nw R Post K h S k n pc' L (.long ((x.toUInt64 >>> (y &&& 0x3f).toInt64.toUInt64).toInt64) :: st)) : Go Z EL nw R Post K h S k n pc L (.int y :: .long x :: st) := by
  obtain ⟨hd, rfl⟩ := hd
  exact Go.plain (fun T t X q => XS.lushr X G.1 rfl (hb G.2.1 hd) rfl q) f
theorem Good.ldiv (G : Good Z a0 EL K own code maxL ret nm) {x y : Int64} (hd : Dc code pc .ldiv 1 pc') (hy : y ≠ 0) (f : Go Z EL nw R Post K h S k n pc' L (.long (x / y) :: st)) : Go Z EL nw R Post K h S k n pc L (.long y :: .long x :: st) := by
  obtain ⟨hd, rfl⟩ := hd
  exact Go.plain (fun T t X q => XS.ldiv X G.1 rfl (hb G.2.1 hd) rfl hy q) f
theorem Good.lneg (G : Good Z a0 EL K own code maxL ret nm) {x : Int64} (hd : Dc code pc .lneg 1 pc')  (f : Go Z EL nw R Post K h S k n pc' L (.long (-x) :: st)) : Go Z EL nw R Post K h S k n pc L (.long x :: st) := by
  obtain ⟨hd, rfl⟩ := hd
  exact Go.plain (fun T t X q => XS.lneg X G.1 rfl (hb G.2.1 hd) rfl q) f
theorem Good.i2b (G : Good Z a0 EL K own code maxL ret nm) {x : Int32} (hd : Dc code pc .i2b 1 pc')  (f : Go Z EL nw R Post K h S k n pc' L (.int (x.toInt8.toInt32) :: st)) : Go Z EL nw R Post K h S k n pc L (.int x :: st) := by
  obtain ⟨hd, rfl⟩ := hd
  exact Go.plain (fun T t X q => XS.i2b X G.1 rfl (hb G.2.1 hd) rfl q) f
theorem Good.i2c (G : Good Z a0 EL K own code maxL ret nm) {x : Int32} (hd : Dc code pc .i2c 1 pc')  (f : Go Z EL nw R Post K h S k n pc' L (.int (x.toUInt32.toUInt16.toUInt32.toInt32) :: st)) : Go Z EL nw R Post K h S k n pc L (.int x :: st) := by
  obtain ⟨hd, rfl⟩ := hd
  exact Go.plain (fun T t X q => XS.i2c X G.1 rfl (hb G.2.1 hd) rfl q) f
theorem Good.i2s (G : Good Z a0 EL K own code maxL ret nm) {x : Int32} (hd : Dc code pc .i2s 1 pc')  (f : Go Z EL nw R Post K h S k n pc' L (.int (x.toInt16.toInt32) :: st)) : Go Z EL nw R Post K h S k n pc L (.int x :: st) := by
  obtain ⟨hd, rfl⟩ := hd
  exact Go.plain (fun T t X q => XS.i2s X G.1 rfl (hb G.2.1 hd) rfl q) f
theorem Good.i2l (G : Good Z a0 EL K own code maxL ret nm) {x : Int32} (hd : Dc code pc .i2l 1 pc')  (f : Go Z EL nw R Post K h S k n pc' L (.long (x.toInt64) :: st)) : Go Z EL nw R Post K h S k n pc L (.int x :: st) := by
  obtain ⟨hd, rfl⟩ := hd
  exact Go.plain (fun T t X q => XS.i2l X G.1 rfl (hb G.2.1 hd) rfl q) f
theorem Good.l2i (G : Good Z a0 EL K own code maxL ret nm) {x : Int64} (hd : Dc code pc .l2i 1 pc')  (f : Go Z EL nw R Post K h S k n pc' L (.int (x.toInt32) :: st)) : Go Z EL nw R Post K h S k n pc L (.long x :: st) := by
  obtain ⟨hd, rfl⟩ := hd
  exact Go.plain (fun T t X q => XS.l2i X G.1 rfl (hb G.2.1 hd) rfl q) f
theorem Good.lcmp (G : Good Z a0 EL K own code maxL ret nm) {x y : Int64} (hd : Dc code pc .lcmp 1 pc')  (f : Go Z EL nw R Post K h S k n pc' L (.int (lcmpW x y) :: st)) : Go Z EL nw R Post K h S k n pc L (.long y :: .long x :: st) := by
  obtain ⟨hd, rfl⟩ := hd
  exact Go.plain (fun T t X q => XS.lcmp X G.1 rfl (hb G.2.1 hd) rfl q) f
theorem Good.dup (G : Good Z a0 EL K own code maxL ret nm) {x : Value} (hd : Dc code pc .dup 1 pc')  (f : Go Z EL nw R Post K h S k n pc' L (x :: x :: st)) (hc : x.category = 1 := by rfl) : Go Z EL nw R Post K h S k n pc L (x :: st) := by
  obtain ⟨hd, rfl⟩ := hd
  exact Go.plain (fun T t X q => XS.dup X G.1 rfl (hb G.2.1 hd) rfl hc q) f
theorem Good.pop (G : Good Z a0 EL K own code maxL ret nm) {x : Value} (hd : Dc code pc .pop 1 pc')  (f : Go Z EL nw R Post K h S k n pc' L st) (hc : x.category = 1 := by rfl) : Go Z EL nw R Post K h S k n pc L (x :: st) := by
  obtain ⟨hd, rfl⟩ := hd
  exact Go.plain (fun T t X q => XS.pop X G.1 rfl (hb G.2.1 hd) rfl hc q) f
theorem Good.dupX1 (G : Good Z a0 EL K own code maxL ret nm) {x y : Value} (hd : Dc code pc .dup_x1 1 pc')  (f : Go Z EL nw R Post K h S k n pc' L (x :: y :: x :: st)) (hc : x.category = 1 := by rfl) (hc2 : y.category = 1 := by rfl) : Go Z EL nw R Post K h S k n pc L (x :: y :: st) := by
  obtain ⟨hd, rfl⟩ := hd
  exact Go.plain (fun T t X q => XS.dupX1 X G.1 rfl (hb G.2.1 hd) rfl hc hc2 q) f
theorem Good.swap (G : Good Z a0 EL K own code maxL ret nm) {x y : Value} (hd : Dc code pc .swap 1 pc')  (f : Go Z EL nw R Post K h S k n pc' L (y :: x :: st)) (hc : x.category = 1 := by rfl) (hc2 : y.category = 1 := by rfl) : Go Z EL nw R Post K h S k n pc L (x :: y :: st) := by
  obtain ⟨hd, rfl⟩ := hd
  exact Go.plain (fun T t X q => XS.swap X G.1 rfl (hb G.2.1 hd) rfl hc hc2 q) f
theorem Good.pop2L (G : Good Z a0 EL K own code maxL ret nm) {x : Int64} (hd : Dc code pc .pop2 1 pc') (f : Go Z EL nw R Post K h S k n pc' L st) : Go Z EL nw R Post K h S k n pc L (.long x :: st) := by
  obtain ⟨hd, rfl⟩ := hd
  refine Go.plain (fun T t X q => ?_) f
  have hd' := hb G.2.1 hd
  have hx := G.1
  jvm_step X [X.top, hx, hd', Value.category]
  exact q
theorem Good.dup2I (G : Good Z a0 EL K own code maxL ret nm) {x y : Value} (hd : Dc code pc .dup2 1 pc') (f : Go Z EL nw R Post K h S k n pc' L (x :: y :: x :: y :: st)) (hc : x.category = 1 := by rfl) (hc2 : y.category = 1 := by rfl) : Go Z EL nw R Post K h S k n pc L (x :: y :: st) := by
  obtain ⟨hd, rfl⟩ := hd
  exact Go.plain (fun T t X q => XT.dup2 X G.1 rfl (hb G.2.1 hd) rfl hc hc2 q) f
theorem Good.goto (G : Good Z a0 EL K own code maxL ret nm) (hd : Dj code pc .goto pc' pcY) (f : Go Z EL nw R Post K h S k n pcY L st) : Go Z EL nw R Post K h S k n pc L st := by
  obtain ⟨o, hd, rfl, ho, hp⟩ := hd
  exact Go.plain (fun T t X q => XS.goto X G.1 rfl (pc0 := pc) rfl (hb G.2.1 hd) ho hp q) f
theorem Good.icmp (G : Good Z a0 EL K own code maxL ret nm) {cd : ClassFile.Cond} {x y : Int32} (hd : Dj code pc (.if_icmp cd) pc' pcY) (fY : if_icmp.holds cd x y = true → Go Z EL nw R Post K h S k n pcY L st) (fN : if_icmp.holds cd x y = false → Go Z EL nw R Post K h S k n pc' L st) : Go Z EL nw R Post K h S k n pc L (.int y :: .int x :: st) := by
  obtain ⟨o, hd, rfl, ho, hp⟩ := hd
  cases hc : if_icmp.holds cd x y
  · exact Go.plain (fun T t X q => XS.icmpNo X G.1 rfl (hb G.2.1 hd) rfl hc q) (fN hc)
  · exact Go.plain (fun T t X q => XS.icmpYes X G.1 rfl (pc0 := pc) rfl (hb G.2.1 hd) rfl hc ho hp q) (fY hc)
theorem Good.ifc (G : Good Z a0 EL K own code maxL ret nm) {cd : ClassFile.Cond} {x : Int32} (hd : Dj code pc (.ifCond cd) pc' pcY) (fY : if_icmp.holds cd x 0 = true → Go Z EL nw R Post K h S k n pcY L st) (fN : if_icmp.holds cd x 0 = false → Go Z EL nw R Post K h S k n pc' L st) : Go Z EL nw R Post K h S k n pc L (.int x :: st) := by
  obtain ⟨o, hd, rfl, ho, hp⟩ := hd
  cases hc : if_icmp.holds cd x 0
  · exact Go.plain (fun T t X q => XS.ifNo X G.1 rfl (hb G.2.1 hd) rfl ((if0 _ _).trans hc) q) (fN hc)
  · exact Go.plain (fun T t X q => XS.ifYes X G.1 rfl (pc0 := pc) rfl (hb G.2.1 hd) rfl ((if0 _ _).trans hc) ho hp q) (fY hc)
theorem hold_lt {x y : Int32} : (if_icmp.holds .lt x y = true → x < y) ∧ (if_icmp.holds .lt x y = false → ¬ x < y) := ⟨fun q => (by by_cases z : x < y; exact z; rw [(flt z).1] at q; cases q), fun q z => by rw [(tlt z).1] at q; cases q⟩
theorem hold_ge {x y : Int32} : (if_icmp.holds .ge x y = true → ¬ x < y) ∧ (if_icmp.holds .ge x y = false → x < y) := ⟨fun q z => (by rw [(tlt z).2.1] at q; cases q), fun q => by by_cases z : x < y; exact z; rw [(flt z).2.1] at q; cases q⟩
theorem hold_gt {x y : Int32} : (if_icmp.holds .gt x y = true → y < x) ∧ (if_icmp.holds .gt x y = false → ¬ y < x) := ⟨fun q => (by by_cases z : y < x; exact z; rw [(flt z).2.2.1] at q; cases q), fun q z => by rw [(tlt z).2.2.1] at q; cases q⟩
theorem hold_le {x y : Int32} : (if_icmp.holds .le x y = true → ¬ y < x) ∧ (if_icmp.holds .le x y = false → y < x) := ⟨fun q z => (by rw [(tlt z).2.2.2] at q; cases q), fun q => by by_cases z : y < x; exact z; rw [(flt z).2.2.2] at q; cases q⟩
theorem hold_eq {x y : Int32} : (if_icmp.holds .eq x y = true → x = y) ∧ (if_icmp.holds .eq x y = false → ¬ x = y) := ⟨fun q => (by by_cases z : x = y; exact z; rw [(feq z).1] at q; cases q), fun q z => by rw [(teq z).1] at q; cases q⟩
theorem hold_ne {x y : Int32} : (if_icmp.holds .ne x y = true → ¬ x = y) ∧ (if_icmp.holds .ne x y = false → x = y) := ⟨fun q z => (by rw [(teq z).2] at q; cases q), fun q => by by_cases z : x = y; exact z; rw [(feq z).2] at q; cases q⟩
theorem Good.icmp_lt (G : Good Z a0 EL K own code maxL ret nm) {x y : Int32} (hd : Dj code pc (.if_icmp .lt) pc' pcY) (fY : x < y → Go Z EL nw R Post K h S k n pcY L st) (fN : ¬ x < y → Go Z EL nw R Post K h S k n pc' L st) : Go Z EL nw R Post K h S k n pc L (.int y :: .int x :: st) := G.icmp hd (fun q => fY (hold_lt.1 q)) (fun q => fN (hold_lt.2 q))
theorem Good.if_lt (G : Good Z a0 EL K own code maxL ret nm) {x : Int32} (hd : Dj code pc (.ifCond .lt) pc' pcY) (fY : x < 0 → Go Z EL nw R Post K h S k n pcY L st) (fN : ¬ x < 0 → Go Z EL nw R Post K h S k n pc' L st) : Go Z EL nw R Post K h S k n pc L (.int x :: st) := G.ifc hd (fun q => fY (hold_lt.1 q)) (fun q => fN (hold_lt.2 q))
theorem Good.icmp_ge (G : Good Z a0 EL K own code maxL ret nm) {x y : Int32} (hd : Dj code pc (.if_icmp .ge) pc' pcY) (fY : ¬ x < y → Go Z EL nw R Post K h S k n pcY L st) (fN : x < y → Go Z EL nw R Post K h S k n pc' L st) : Go Z EL nw R Post K h S k n pc L (.int y :: .int x :: st) := G.icmp hd (fun q => fY (hold_ge.1 q)) (fun q => fN (hold_ge.2 q))
theorem Good.if_ge (G : Good Z a0 EL K own code maxL ret nm) {x : Int32} (hd : Dj code pc (.ifCond .ge) pc' pcY) (fY : ¬ x < 0 → Go Z EL nw R Post K h S k n pcY L st) (fN : x < 0 → Go Z EL nw R Post K h S k n pc' L st) : Go Z EL nw R Post K h S k n pc L (.int x :: st) := G.ifc hd (fun q => fY (hold_ge.1 q)) (fun q => fN (hold_ge.2 q))
theorem Good.icmp_gt (G : Good Z a0 EL K own code maxL ret nm) {x y : Int32} (hd : Dj code pc (.if_icmp .gt) pc' pcY) (fY : y < x → Go Z EL nw R Post K h S k n pcY L st) (fN : ¬ y < x → Go Z EL nw R Post K h S k n pc' L st) : Go Z EL nw R Post K h S k n pc L (.int y :: .int x :: st) := G.icmp hd (fun q => fY (hold_gt.1 q)) (fun q => fN (hold_gt.2 q))
theorem Good.if_gt (G : Good Z a0 EL K own code maxL ret nm) {x : Int32} (hd : Dj code pc (.ifCond .gt) pc' pcY) (fY : 0 < x → Go Z EL nw R Post K h S k n pcY L st) (fN : ¬ 0 < x → Go Z EL nw R Post K h S k n pc' L st) : Go Z EL nw R Post K h S k n pc L (.int x :: st) := G.ifc hd (fun q => fY (hold_gt.1 q)) (fun q => fN (hold_gt.2 q))
theorem Good.icmp_le (G : Good Z a0 EL K own code maxL ret nm) {x y : Int32} (hd : Dj code pc (.if_icmp .le) pc' pcY) (fY : ¬ y < x → Go Z EL nw R Post K h S k n pcY L st) (fN : y < x → Go Z EL nw R Post K h S k n pc' L st) : Go Z EL nw R Post K h S k n pc L (.int y :: .int x :: st) := G.icmp hd (fun q => fY (hold_le.1 q)) (fun q => fN (hold_le.2 q))
theorem Good.if_le (G : Good Z a0 EL K own code maxL ret nm) {x : Int32} (hd : Dj code pc (.ifCond .le) pc' pcY) (fY : ¬ 0 < x → Go Z EL nw R Post K h S k n pcY L st) (fN : 0 < x → Go Z EL nw R Post K h S k n pc' L st) : Go Z EL nw R Post K h S k n pc L (.int x :: st) := G.ifc hd (fun q => fY (hold_le.1 q)) (fun q => fN (hold_le.2 q))
theorem Good.icmp_eq (G : Good Z a0 EL K own code maxL ret nm) {x y : Int32} (hd : Dj code pc (.if_icmp .eq) pc' pcY) (fY : x = y → Go Z EL nw R Post K h S k n pcY L st) (fN : ¬ x = y → Go Z EL nw R Post K h S k n pc' L st) : Go Z EL nw R Post K h S k n pc L (.int y :: .int x :: st) := G.icmp hd (fun q => fY (hold_eq.1 q)) (fun q => fN (hold_eq.2 q))
theorem Good.if_eq (G : Good Z a0 EL K own code maxL ret nm) {x : Int32} (hd : Dj code pc (.ifCond .eq) pc' pcY) (fY : x = 0 → Go Z EL nw R Post K h S k n pcY L st) (fN : ¬ x = 0 → Go Z EL nw R Post K h S k n pc' L st) : Go Z EL nw R Post K h S k n pc L (.int x :: st) := G.ifc hd (fun q => fY (hold_eq.1 q)) (fun q => fN (hold_eq.2 q))
theorem Good.icmp_ne (G : Good Z a0 EL K own code maxL ret nm) {x y : Int32} (hd : Dj code pc (.if_icmp .ne) pc' pcY) (fY : ¬ x = y → Go Z EL nw R Post K h S k n pcY L st) (fN : x = y → Go Z EL nw R Post K h S k n pc' L st) : Go Z EL nw R Post K h S k n pc L (.int y :: .int x :: st) := G.icmp hd (fun q => fY (hold_ne.1 q)) (fun q => fN (hold_ne.2 q))
theorem Good.if_ne (G : Good Z a0 EL K own code maxL ret nm) {x : Int32} (hd : Dj code pc (.ifCond .ne) pc' pcY) (fY : ¬ x = 0 → Go Z EL nw R Post K h S k n pcY L st) (fN : x = 0 → Go Z EL nw R Post K h S k n pc' L st) : Go Z EL nw R Post K h S k n pc L (.int x :: st) := G.ifc hd (fun q => fY (hold_ne.1 q)) (fun q => fN (hold_ne.2 q))
theorem Good.ifnullR (G : Good Z a0 EL K own code maxL ret nm) {b : Addr} (hd : Dj code pc .ifnull pc' pcY) (f : Go Z EL nw R Post K h S k n pc' L st) : Go Z EL nw R Post K h S k n pc L (.ref b :: st) := by
  obtain ⟨o, hd, rfl, ho, hp⟩ := hd
  exact Go.plain (fun T t X q => XS.ifnullNo X G.1 rfl (hb G.2.1 hd) rfl q) f
theorem Good.ifnullN (G : Good Z a0 EL K own code maxL ret nm) (hd : Dj code pc .ifnull pc' pcY) (f : Go Z EL nw R Post K h S k n pcY L st) : Go Z EL nw R Post K h S k n pc L (.null :: st) := by
  obtain ⟨o, hd, rfl, ho, hp⟩ := hd
  exact Go.plain (fun T t X q => XS.ifnullYes X G.1 rfl (pc0 := pc) rfl (hb G.2.1 hd) rfl ho hp q) f
theorem Good.ifnonnullR (G : Good Z a0 EL K own code maxL ret nm) {b : Addr} (hd : Dj code pc .ifnonnull pc' pcY) (f : Go Z EL nw R Post K h S k n pcY L st) : Go Z EL nw R Post K h S k n pc L (.ref b :: st) := by
  obtain ⟨o, hd, rfl, ho, hp⟩ := hd
  exact Go.plain (fun T t X q => XS.ifnonnullYes X G.1 rfl (pc0 := pc) rfl (hb G.2.1 hd) rfl ho hp q) f
theorem Good.ifnonnullN (G : Good Z a0 EL K own code maxL ret nm) (hd : Dj code pc .ifnonnull pc' pcY) (f : Go Z EL nw R Post K h S k n pc' L st) : Go Z EL nw R Post K h S k n pc L (.null :: st) := by
  obtain ⟨o, hd, rfl, ho, hp⟩ := hd
  exact Go.plain (fun T t X q => XS.ifnonnullNo X G.1 rfl (hb G.2.1 hd) rfl q) f
theorem Good.acmp_eq (G : Good Z a0 EL K own code maxL ret nm) {x y : Value} (hd : Dj code pc (.if_acmp .eq) pc' pcY) (fY : x = y → Go Z EL nw R Post K h S k n pcY L st) (fN : ¬ x = y → Go Z EL nw R Post K h S k n pc' L st) (hx' : x.isRef = true := by rfl) (hy' : y.isRef = true := by rfl) : Go Z EL nw R Post K h S k n pc L (y :: x :: st) := by
  obtain ⟨o, hd, rfl, ho, hp⟩ := hd
  by_cases z : x = y
  · exact Go.plain (fun T t X q => XT.acmpYes X G.1 rfl (pc0 := pc) rfl (hb G.2.1 hd) rfl hx' hy' (by simp [XT.acmp, z]) ho hp q) (fY z)
  · exact Go.plain (fun T t X q => XT.acmpNo X G.1 rfl (hb G.2.1 hd) rfl hx' hy' (by simp [XT.acmp, z]) q) (fN z)
theorem Good.acmp_ne (G : Good Z a0 EL K own code maxL ret nm) {x y : Value} (hd : Dj code pc (.if_acmp .ne) pc' pcY) (fY : ¬ x = y → Go Z EL nw R Post K h S k n pcY L st) (fN : x = y → Go Z EL nw R Post K h S k n pc' L st) (hx' : x.isRef = true := by rfl) (hy' : y.isRef = true := by rfl) : Go Z EL nw R Post K h S k n pc L (y :: x :: st) := by
  obtain ⟨o, hd, rfl, ho, hp⟩ := hd
  by_cases z : x = y
  · exact Go.plain (fun T t X q => XT.acmpNo X G.1 rfl (hb G.2.1 hd) rfl hx' hy' (by simp [XT.acmp, z]) q) (fN z)
  · exact Go.plain (fun T t X q => XT.acmpYes X G.1 rfl (pc0 := pc) rfl (hb G.2.1 hd) rfl hx' hy' (by simp [XT.acmp, z]) ho hp q) (fY z)
theorem Good.istoreG (G : Good Z a0 EL K own code maxL ret nm) {L' : List Slot} {j : Nat} {x : Int32} (hd : Dc code pc (.istore j) 2 pc') (hl : storeLocals L.toArray j (.int x) = some L'.toArray) (f : Go Z EL nw R Post K h S k n pc' L' st) : Go Z EL nw R Post K h S k n pc L (.int x :: st) := by
  obtain ⟨hd, rfl⟩ := hd
  exact Go.plain (fun T t X q => XS.istore X G.1 rfl (hb G.2.1 hd) rfl hl q) f
theorem Good.istoreNG (G : Good Z a0 EL K own code maxL ret nm) {L' : List Slot} {j : Fin 4} {x : Int32} (hd : Dc code pc (.istore_n j) 1 pc') (hl : storeLocals L.toArray j.val (.int x) = some L'.toArray) (f : Go Z EL nw R Post K h S k n pc' L' st) : Go Z EL nw R Post K h S k n pc L (.int x :: st) := by
  obtain ⟨hd, rfl⟩ := hd
  exact Go.plain (fun T t X q => XS.istoreN X G.1 rfl (hb G.2.1 hd) rfl hl q) f
theorem Good.astoreG (G : Good Z a0 EL K own code maxL ret nm) {L' : List Slot} {j : Nat} {x : Value} (hd : Dc code pc (.astore j) 2 pc') (hv : x.isRef = true) (hl : storeLocals L.toArray j x = some L'.toArray) (f : Go Z EL nw R Post K h S k n pc' L' st) : Go Z EL nw R Post K h S k n pc L (x :: st) := by
  obtain ⟨hd, rfl⟩ := hd
  exact Go.plain (fun T t X q => XS.astore X G.1 rfl (hb G.2.1 hd) rfl hv hl q) f
theorem Good.astoreNG (G : Good Z a0 EL K own code maxL ret nm) {L' : List Slot} {j : Fin 4} {x : Value} (hd : Dc code pc (.astore_n j) 1 pc') (hv : x.isRef = true) (hl : storeLocals L.toArray j.val x = some L'.toArray) (f : Go Z EL nw R Post K h S k n pc' L' st) : Go Z EL nw R Post K h S k n pc L (x :: st) := by
  obtain ⟨hd, rfl⟩ := hd
  exact Go.plain (fun T t X q => XS.astoreN X G.1 rfl (hb G.2.1 hd) rfl hv hl q) f
theorem Good.lstoreG (G : Good Z a0 EL K own code maxL ret nm) {L' : List Slot} {j : Nat} {x : Int64} (hd : Dc code pc (.lstore j) 2 pc') (hl : storeLocals L.toArray j (.long x) = some L'.toArray) (f : Go Z EL nw R Post K h S k n pc' L' st) : Go Z EL nw R Post K h S k n pc L (.long x :: st) := by
  obtain ⟨hd, rfl⟩ := hd
  exact Go.plain (fun T t X q => XS.lstore X G.1 rfl (hb G.2.1 hd) rfl hl q) f
theorem Good.lstoreNG (G : Good Z a0 EL K own code maxL ret nm) {L' : List Slot} {j : Fin 4} {x : Int64} (hd : Dc code pc (.lstore_n j) 1 pc') (hl : storeLocals L.toArray j.val (.long x) = some L'.toArray) (f : Go Z EL nw R Post K h S k n pc' L' st) : Go Z EL nw R Post K h S k n pc L (.long x :: st) := by
  obtain ⟨hd, rfl⟩ := hd
  exact Go.plain (fun T t X q => XS.lstoreN X G.1 rfl (hb G.2.1 hd) rfl hl q) f
theorem Good.iincG (G : Good Z a0 EL K own code maxL ret nm) {L' : List Slot} {j : Nat} {c : Int} {x : Int32} (hd : Dc code pc (.iinc j c) 3 pc') (hx : L[j]? = some (.val (.int x))) (hl : storeLocals L.toArray j (.int (x + Int32.ofInt c)) = some L'.toArray) (f : Go Z EL nw R Post K h S k n pc' L' st) : Go Z EL nw R Post K h S k n pc L st := by
  obtain ⟨hd, rfl⟩ := hd
  exact Go.plain (fun T t X q => XS.iinc X G.1 rfl (hb G.2.1 hd) (by simpa using hx) hl q) f
theorem Good.istore0 (G : Good Z a0 EL K own code maxL ret nm) {x0 : Slot} {r : List Slot} {x : Int32} (hd : Dc code pc (.istore_n 0) 1 pc') (f : Go Z EL nw R Post K h S k n pc' (.val (.int x) :: r) st) (hl : storeLocals (x0 :: r).toArray 0 (.int x) = some (.val (.int x) :: r).toArray := by rfl) : Go Z EL nw R Post K h S k n pc (x0 :: r) (.int x :: st) := G.istoreNG hd hl f
theorem Good.astore0 (G : Good Z a0 EL K own code maxL ret nm) {x0 : Slot} {r : List Slot} {x : Value} (hd : Dc code pc (.astore_n 0) 1 pc') (f : Go Z EL nw R Post K h S k n pc' (.val x :: r) st) (hv : x.isRef = true := by rfl) (hl : storeLocals (x0 :: r).toArray 0 x = some (.val x :: r).toArray := by rfl) : Go Z EL nw R Post K h S k n pc (x0 :: r) (x :: st) := G.astoreNG hd hv hl f
theorem Good.lstore0 (G : Good Z a0 EL K own code maxL ret nm) {x0 y : Slot} {r : List Slot} {x : Int64} (hd : Dc code pc (.lstore_n 0) 1 pc') (f : Go Z EL nw R Post K h S k n pc' (.val (.long x) :: .second :: r) st) (hl : storeLocals (x0 :: y :: r).toArray 0 (.long x) = some (.val (.long x) :: .second :: r).toArray := by rfl) : Go Z EL nw R Post K h S k n pc (x0 :: y :: r) (.long x :: st) := G.lstoreNG hd hl f
theorem Good.iinc0 (G : Good Z a0 EL K own code maxL ret nm) (z : Int32) {r : List Slot} {c : Int} {x : Int32} (hd : Dc code pc (.iinc 0 c) 3 pc') (f : Go Z EL nw R Post K h S k n pc' (.val (.int (x + z)) :: r) st) (hz : Int32.ofInt c = z := by decide) : Go Z EL nw R Post K h S k n pc (.val (.int x) :: r) st := by subst hz; exact G.iincG hd rfl rfl f
theorem Good.istore1 (G : Good Z a0 EL K own code maxL ret nm) {x0 x1 : Slot} {r : List Slot} {x : Int32} (hd : Dc code pc (.istore_n 1) 1 pc') (f : Go Z EL nw R Post K h S k n pc' (x0 :: .val (.int x) :: r) st) (hl : storeLocals (x0 :: x1 :: r).toArray 1 (.int x) = some (x0 :: .val (.int x) :: r).toArray := by rfl) : Go Z EL nw R Post K h S k n pc (x0 :: x1 :: r) (.int x :: st) := G.istoreNG hd hl f
theorem Good.astore1 (G : Good Z a0 EL K own code maxL ret nm) {x0 x1 : Slot} {r : List Slot} {x : Value} (hd : Dc code pc (.astore_n 1) 1 pc') (f : Go Z EL nw R Post K h S k n pc' (x0 :: .val x :: r) st) (hv : x.isRef = true := by rfl) (hl : storeLocals (x0 :: x1 :: r).toArray 1 x = some (x0 :: .val x :: r).toArray := by rfl) : Go Z EL nw R Post K h S k n pc (x0 :: x1 :: r) (x :: st) := G.astoreNG hd hv hl f
theorem Good.lstore1 (G : Good Z a0 EL K own code maxL ret nm) {x0 x1 y : Slot} {r : List Slot} {x : Int64} (hd : Dc code pc (.lstore_n 1) 1 pc') (f : Go Z EL nw R Post K h S k n pc' (x0 :: .val (.long x) :: .second :: r) st) (hl : storeLocals (x0 :: x1 :: y :: r).toArray 1 (.long x) = some (x0 :: .val (.long x) :: .second :: r).toArray := by rfl) : Go Z EL nw R Post K h S k n pc (x0 :: x1 :: y :: r) (.long x :: st) := G.lstoreNG hd hl f
theorem Good.iinc1 (G : Good Z a0 EL K own code maxL ret nm) (z : Int32) {x0 : Slot} {r : List Slot} {c : Int} {x : Int32} (hd : Dc code pc (.iinc 1 c) 3 pc') (f : Go Z EL nw R Post K h S k n pc' (x0 :: .val (.int (x + z)) :: r) st) (hz : Int32.ofInt c = z := by decide) : Go Z EL nw R Post K h S k n pc (x0 :: .val (.int x) :: r) st := by subst hz; exact G.iincG hd rfl rfl f
theorem Good.istore2 (G : Good Z a0 EL K own code maxL ret nm) {x0 x1 x2 : Slot} {r : List Slot} {x : Int32} (hd : Dc code pc (.istore_n 2) 1 pc') (f : Go Z EL nw R Post K h S k n pc' (x0 :: x1 :: .val (.int x) :: r) st) (hl : storeLocals (x0 :: x1 :: x2 :: r).toArray 2 (.int x) = some (x0 :: x1 :: .val (.int x) :: r).toArray := by rfl) : Go Z EL nw R Post K h S k n pc (x0 :: x1 :: x2 :: r) (.int x :: st) := G.istoreNG hd hl f
theorem Good.astore2 (G : Good Z a0 EL K own code maxL ret nm) {x0 x1 x2 : Slot} {r : List Slot} {x : Value} (hd : Dc code pc (.astore_n 2) 1 pc') (f : Go Z EL nw R Post K h S k n pc' (x0 :: x1 :: .val x :: r) st) (hv : x.isRef = true := by rfl) (hl : storeLocals (x0 :: x1 :: x2 :: r).toArray 2 x = some (x0 :: x1 :: .val x :: r).toArray := by rfl) : Go Z EL nw R Post K h S k n pc (x0 :: x1 :: x2 :: r) (x :: st) := G.astoreNG hd hv hl f
theorem Good.lstore2 (G : Good Z a0 EL K own code maxL ret nm) {x0 x1 x2 y : Slot} {r : List Slot} {x : Int64} (hd : Dc code pc (.lstore_n 2) 1 pc') (f : Go Z EL nw R Post K h S k n pc' (x0 :: x1 :: .val (.long x) :: .second :: r) st) (hl : storeLocals (x0 :: x1 :: x2 :: y :: r).toArray 2 (.long x) = some (x0 :: x1 :: .val (.long x) :: .second :: r).toArray := by rfl) : Go Z EL nw R Post K h S k n pc (x0 :: x1 :: x2 :: y :: r) (.long x :: st) := G.lstoreNG hd hl f
theorem Good.iinc2 (G : Good Z a0 EL K own code maxL ret nm) (z : Int32) {x0 x1 : Slot} {r : List Slot} {c : Int} {x : Int32} (hd : Dc code pc (.iinc 2 c) 3 pc') (f : Go Z EL nw R Post K h S k n pc' (x0 :: x1 :: .val (.int (x + z)) :: r) st) (hz : Int32.ofInt c = z := by decide) : Go Z EL nw R Post K h S k n pc (x0 :: x1 :: .val (.int x) :: r) st := by subst hz; exact G.iincG hd rfl rfl f
theorem Good.istore3 (G : Good Z a0 EL K own code maxL ret nm) {x0 x1 x2 x3 : Slot} {r : List Slot} {x : Int32} (hd : Dc code pc (.istore_n 3) 1 pc') (f : Go Z EL nw R Post K h S k n pc' (x0 :: x1 :: x2 :: .val (.int x) :: r) st) (hl : storeLocals (x0 :: x1 :: x2 :: x3 :: r).toArray 3 (.int x) = some (x0 :: x1 :: x2 :: .val (.int x) :: r).toArray := by rfl) : Go Z EL nw R Post K h S k n pc (x0 :: x1 :: x2 :: x3 :: r) (.int x :: st) := G.istoreNG hd hl f
theorem Good.astore3 (G : Good Z a0 EL K own code maxL ret nm) {x0 x1 x2 x3 : Slot} {r : List Slot} {x : Value} (hd : Dc code pc (.astore_n 3) 1 pc') (f : Go Z EL nw R Post K h S k n pc' (x0 :: x1 :: x2 :: .val x :: r) st) (hv : x.isRef = true := by rfl) (hl : storeLocals (x0 :: x1 :: x2 :: x3 :: r).toArray 3 x = some (x0 :: x1 :: x2 :: .val x :: r).toArray := by rfl) : Go Z EL nw R Post K h S k n pc (x0 :: x1 :: x2 :: x3 :: r) (x :: st) := G.astoreNG hd hv hl f
theorem Good.lstore3 (G : Good Z a0 EL K own code maxL ret nm) {x0 x1 x2 x3 y : Slot} {r : List Slot} {x : Int64} (hd : Dc code pc (.lstore_n 3) 1 pc') (f : Go Z EL nw R Post K h S k n pc' (x0 :: x1 :: x2 :: .val (.long x) :: .second :: r) st) (hl : storeLocals (x0 :: x1 :: x2 :: x3 :: y :: r).toArray 3 (.long x) = some (x0 :: x1 :: x2 :: .val (.long x) :: .second :: r).toArray := by rfl) : Go Z EL nw R Post K h S k n pc (x0 :: x1 :: x2 :: x3 :: y :: r) (.long x :: st) := G.lstoreNG hd hl f
theorem Good.iinc3 (G : Good Z a0 EL K own code maxL ret nm) (z : Int32) {x0 x1 x2 : Slot} {r : List Slot} {c : Int} {x : Int32} (hd : Dc code pc (.iinc 3 c) 3 pc') (f : Go Z EL nw R Post K h S k n pc' (x0 :: x1 :: x2 :: .val (.int (x + z)) :: r) st) (hz : Int32.ofInt c = z := by decide) : Go Z EL nw R Post K h S k n pc (x0 :: x1 :: x2 :: .val (.int x) :: r) st := by subst hz; exact G.iincG hd rfl rfl f
theorem Good.istore4 (G : Good Z a0 EL K own code maxL ret nm) {x0 x1 x2 x3 x4 : Slot} {r : List Slot} {x : Int32} (hd : Dc code pc (.istore 4) 2 pc') (f : Go Z EL nw R Post K h S k n pc' (x0 :: x1 :: x2 :: x3 :: .val (.int x) :: r) st) (hl : storeLocals (x0 :: x1 :: x2 :: x3 :: x4 :: r).toArray 4 (.int x) = some (x0 :: x1 :: x2 :: x3 :: .val (.int x) :: r).toArray := by rfl) : Go Z EL nw R Post K h S k n pc (x0 :: x1 :: x2 :: x3 :: x4 :: r) (.int x :: st) := G.istoreG hd hl f
theorem Good.astore4 (G : Good Z a0 EL K own code maxL ret nm) {x0 x1 x2 x3 x4 : Slot} {r : List Slot} {x : Value} (hd : Dc code pc (.astore 4) 2 pc') (f : Go Z EL nw R Post K h S k n pc' (x0 :: x1 :: x2 :: x3 :: .val x :: r) st) (hv : x.isRef = true := by rfl) (hl : storeLocals (x0 :: x1 :: x2 :: x3 :: x4 :: r).toArray 4 x = some (x0 :: x1 :: x2 :: x3 :: .val x :: r).toArray := by rfl) : Go Z EL nw R Post K h S k n pc (x0 :: x1 :: x2 :: x3 :: x4 :: r) (x :: st) := G.astoreG hd hv hl f
theorem Good.lstore4 (G : Good Z a0 EL K own code maxL ret nm) {x0 x1 x2 x3 x4 y : Slot} {r : List Slot} {x : Int64} (hd : Dc code pc (.lstore 4) 2 pc') (f : Go Z EL nw R Post K h S k n pc' (x0 :: x1 :: x2 :: x3 :: .val (.long x) :: .second :: r) st) (hl : storeLocals (x0 :: x1 :: x2 :: x3 :: x4 :: y :: r).toArray 4 (.long x) = some (x0 :: x1 :: x2 :: x3 :: .val (.long x) :: .second :: r).toArray := by rfl) : Go Z EL nw R Post K h S k n pc (x0 :: x1 :: x2 :: x3 :: x4 :: y :: r) (.long x :: st) := G.lstoreG hd hl f
theorem Good.iinc4 (G : Good Z a0 EL K own code maxL ret nm) (z : Int32) {x0 x1 x2 x3 : Slot} {r : List Slot} {c : Int} {x : Int32} (hd : Dc code pc (.iinc 4 c) 3 pc') (f : Go Z EL nw R Post K h S k n pc' (x0 :: x1 :: x2 :: x3 :: .val (.int (x + z)) :: r) st) (hz : Int32.ofInt c = z := by decide) : Go Z EL nw R Post K h S k n pc (x0 :: x1 :: x2 :: x3 :: .val (.int x) :: r) st := by subst hz; exact G.iincG hd rfl rfl f
theorem Good.istore5 (G : Good Z a0 EL K own code maxL ret nm) {x0 x1 x2 x3 x4 x5 : Slot} {r : List Slot} {x : Int32} (hd : Dc code pc (.istore 5) 2 pc') (f : Go Z EL nw R Post K h S k n pc' (x0 :: x1 :: x2 :: x3 :: x4 :: .val (.int x) :: r) st) (hl : storeLocals (x0 :: x1 :: x2 :: x3 :: x4 :: x5 :: r).toArray 5 (.int x) = some (x0 :: x1 :: x2 :: x3 :: x4 :: .val (.int x) :: r).toArray := by rfl) : Go Z EL nw R Post K h S k n pc (x0 :: x1 :: x2 :: x3 :: x4 :: x5 :: r) (.int x :: st) := G.istoreG hd hl f
theorem Good.astore5 (G : Good Z a0 EL K own code maxL ret nm) {x0 x1 x2 x3 x4 x5 : Slot} {r : List Slot} {x : Value} (hd : Dc code pc (.astore 5) 2 pc') (f : Go Z EL nw R Post K h S k n pc' (x0 :: x1 :: x2 :: x3 :: x4 :: .val x :: r) st) (hv : x.isRef = true := by rfl) (hl : storeLocals (x0 :: x1 :: x2 :: x3 :: x4 :: x5 :: r).toArray 5 x = some (x0 :: x1 :: x2 :: x3 :: x4 :: .val x :: r).toArray := by rfl) : Go Z EL nw R Post K h S k n pc (x0 :: x1 :: x2 :: x3 :: x4 :: x5 :: r) (x :: st) := G.astoreG hd hv hl f
theorem Good.lstore5 (G : Good Z a0 EL K own code maxL ret nm) {x0 x1 x2 x3 x4 x5 y : Slot} {r : List Slot} {x : Int64} (hd : Dc code pc (.lstore 5) 2 pc') (f : Go Z EL nw R Post K h S k n pc' (x0 :: x1 :: x2 :: x3 :: x4 :: .val (.long x) :: .second :: r) st) (hl : storeLocals (x0 :: x1 :: x2 :: x3 :: x4 :: x5 :: y :: r).toArray 5 (.long x) = some (x0 :: x1 :: x2 :: x3 :: x4 :: .val (.long x) :: .second :: r).toArray := by rfl) : Go Z EL nw R Post K h S k n pc (x0 :: x1 :: x2 :: x3 :: x4 :: x5 :: y :: r) (.long x :: st) := G.lstoreG hd hl f
theorem Good.iinc5 (G : Good Z a0 EL K own code maxL ret nm) (z : Int32) {x0 x1 x2 x3 x4 : Slot} {r : List Slot} {c : Int} {x : Int32} (hd : Dc code pc (.iinc 5 c) 3 pc') (f : Go Z EL nw R Post K h S k n pc' (x0 :: x1 :: x2 :: x3 :: x4 :: .val (.int (x + z)) :: r) st) (hz : Int32.ofInt c = z := by decide) : Go Z EL nw R Post K h S k n pc (x0 :: x1 :: x2 :: x3 :: x4 :: .val (.int x) :: r) st := by subst hz; exact G.iincG hd rfl rfl f
theorem Good.istore6 (G : Good Z a0 EL K own code maxL ret nm) {x0 x1 x2 x3 x4 x5 x6 : Slot} {r : List Slot} {x : Int32} (hd : Dc code pc (.istore 6) 2 pc') (f : Go Z EL nw R Post K h S k n pc' (x0 :: x1 :: x2 :: x3 :: x4 :: x5 :: .val (.int x) :: r) st) (hl : storeLocals (x0 :: x1 :: x2 :: x3 :: x4 :: x5 :: x6 :: r).toArray 6 (.int x) = some (x0 :: x1 :: x2 :: x3 :: x4 :: x5 :: .val (.int x) :: r).toArray := by rfl) : Go Z EL nw R Post K h S k n pc (x0 :: x1 :: x2 :: x3 :: x4 :: x5 :: x6 :: r) (.int x :: st) := G.istoreG hd hl f
theorem Good.astore6 (G : Good Z a0 EL K own code maxL ret nm) {x0 x1 x2 x3 x4 x5 x6 : Slot} {r : List Slot} {x : Value} (hd : Dc code pc (.astore 6) 2 pc') (f : Go Z EL nw R Post K h S k n pc' (x0 :: x1 :: x2 :: x3 :: x4 :: x5 :: .val x :: r) st) (hv : x.isRef = true := by rfl) (hl : storeLocals (x0 :: x1 :: x2 :: x3 :: x4 :: x5 :: x6 :: r).toArray 6 x = some (x0 :: x1 :: x2 :: x3 :: x4 :: x5 :: .val x :: r).toArray := by rfl) : Go Z EL nw R Post K h S k n pc (x0 :: x1 :: x2 :: x3 :: x4 :: x5 :: x6 :: r) (x :: st) := G.astoreG hd hv hl f
theorem Good.lstore6 (G : Good Z a0 EL K own code maxL ret nm) {x0 x1 x2 x3 x4 x5 x6 y : Slot} {r : List Slot} {x : Int64} (hd : Dc code pc (.lstore 6) 2 pc') (f : Go Z EL nw R Post K h S k n pc' (x0 :: x1 :: x2 :: x3 :: x4 :: x5 :: .val (.long x) :: .second :: r) st) (hl : storeLocals (x0 :: x1 :: x2 :: x3 :: x4 :: x5 :: x6 :: y :: r).toArray 6 (.long x) = some (x0 :: x1 :: x2 :: x3 :: x4 :: x5 :: .val (.long x) :: .second :: r).toArray := by rfl) : Go Z EL nw R Post K h S k n pc (x0 :: x1 :: x2 :: x3 :: x4 :: x5 :: x6 :: y :: r) (.long x :: st) := G.lstoreG hd hl f
theorem Good.iinc6 (G : Good Z a0 EL K own code maxL ret nm) (z : Int32) {x0 x1 x2 x3 x4 x5 : Slot} {r : List Slot} {c : Int} {x : Int32} (hd : Dc code pc (.iinc 6 c) 3 pc') (f : Go Z EL nw R Post K h S k n pc' (x0 :: x1 :: x2 :: x3 :: x4 :: x5 :: .val (.int (x + z)) :: r) st) (hz : Int32.ofInt c = z := by decide) : Go Z EL nw R Post K h S k n pc (x0 :: x1 :: x2 :: x3 :: x4 :: x5 :: .val (.int x) :: r) st := by subst hz; exact G.iincG hd rfl rfl f
theorem Good.istore7 (G : Good Z a0 EL K own code maxL ret nm) {x0 x1 x2 x3 x4 x5 x6 x7 : Slot} {r : List Slot} {x : Int32} (hd : Dc code pc (.istore 7) 2 pc') (f : Go Z EL nw R Post K h S k n pc' (x0 :: x1 :: x2 :: x3 :: x4 :: x5 :: x6 :: .val (.int x) :: r) st) (hl : storeLocals (x0 :: x1 :: x2 :: x3 :: x4 :: x5 :: x6 :: x7 :: r).toArray 7 (.int x) = some (x0 :: x1 :: x2 :: x3 :: x4 :: x5 :: x6 :: .val (.int x) :: r).toArray := by rfl) : Go Z EL nw R Post K h S k n pc (x0 :: x1 :: x2 :: x3 :: x4 :: x5 :: x6 :: x7 :: r) (.int x :: st) := G.istoreG hd hl f
theorem Good.astore7 (G : Good Z a0 EL K own code maxL ret nm) {x0 x1 x2 x3 x4 x5 x6 x7 : Slot} {r : List Slot} {x : Value} (hd : Dc code pc (.astore 7) 2 pc') (f : Go Z EL nw R Post K h S k n pc' (x0 :: x1 :: x2 :: x3 :: x4 :: x5 :: x6 :: .val x :: r) st) (hv : x.isRef = true := by rfl) (hl : storeLocals (x0 :: x1 :: x2 :: x3 :: x4 :: x5 :: x6 :: x7 :: r).toArray 7 x = some (x0 :: x1 :: x2 :: x3 :: x4 :: x5 :: x6 :: .val x :: r).toArray := by rfl) : Go Z EL nw R Post K h S k n pc (x0 :: x1 :: x2 :: x3 :: x4 :: x5 :: x6 :: x7 :: r) (x :: st) := G.astoreG hd hv hl f
theorem Good.lstore7 (G : Good Z a0 EL K own code maxL ret nm) {x0 x1 x2 x3 x4 x5 x6 x7 y : Slot} {r : List Slot} {x : Int64} (hd : Dc code pc (.lstore 7) 2 pc') (f : Go Z EL nw R Post K h S k n pc' (x0 :: x1 :: x2 :: x3 :: x4 :: x5 :: x6 :: .val (.long x) :: .second :: r) st) (hl : storeLocals (x0 :: x1 :: x2 :: x3 :: x4 :: x5 :: x6 :: x7 :: y :: r).toArray 7 (.long x) = some (x0 :: x1 :: x2 :: x3 :: x4 :: x5 :: x6 :: .val (.long x) :: .second :: r).toArray := by rfl) : Go Z EL nw R Post K h S k n pc (x0 :: x1 :: x2 :: x3 :: x4 :: x5 :: x6 :: x7 :: y :: r) (.long x :: st) := G.lstoreG hd hl f
theorem Good.iinc7 (G : Good Z a0 EL K own code maxL ret nm) (z : Int32) {x0 x1 x2 x3 x4 x5 x6 : Slot} {r : List Slot} {c : Int} {x : Int32} (hd : Dc code pc (.iinc 7 c) 3 pc') (f : Go Z EL nw R Post K h S k n pc' (x0 :: x1 :: x2 :: x3 :: x4 :: x5 :: x6 :: .val (.int (x + z)) :: r) st) (hz : Int32.ofInt c = z := by decide) : Go Z EL nw R Post K h S k n pc (x0 :: x1 :: x2 :: x3 :: x4 :: x5 :: x6 :: .val (.int x) :: r) st := by subst hz; exact G.iincG hd rfl rfl f
theorem Good.istore8 (G : Good Z a0 EL K own code maxL ret nm) {x0 x1 x2 x3 x4 x5 x6 x7 x8 : Slot} {r : List Slot} {x : Int32} (hd : Dc code pc (.istore 8) 2 pc') (f : Go Z EL nw R Post K h S k n pc' (x0 :: x1 :: x2 :: x3 :: x4 :: x5 :: x6 :: x7 :: .val (.int x) :: r) st) (hl : storeLocals (x0 :: x1 :: x2 :: x3 :: x4 :: x5 :: x6 :: x7 :: x8 :: r).toArray 8 (.int x) = some (x0 :: x1 :: x2 :: x3 :: x4 :: x5 :: x6 :: x7 :: .val (.int x) :: r).toArray := by rfl) : Go Z EL nw R Post K h S k n pc (x0 :: x1 :: x2 :: x3 :: x4 :: x5 :: x6 :: x7 :: x8 :: r) (.int x :: st) := G.istoreG hd hl f
theorem Good.astore8 (G : Good Z a0 EL K own code maxL ret nm) {x0 x1 x2 x3 x4 x5 x6 x7 x8 : Slot} {r : List Slot} {x : Value} (hd : Dc code pc (.astore 8) 2 pc') (f : Go Z EL nw R Post K h S k n pc' (x0 :: x1 :: x2 :: x3 :: x4 :: x5 :: x6 :: x7 :: .val x :: r) st) (hv : x.isRef = true := by rfl) (hl : storeLocals (x0 :: x1 :: x2 :: x3 :: x4 :: x5 :: x6 :: x7 :: x8 :: r).toArray 8 x = some (x0 :: x1 :: x2 :: x3 :: x4 :: x5 :: x6 :: x7 :: .val x :: r).toArray := by rfl) : Go Z EL nw R Post K h S k n pc (x0 :: x1 :: x2 :: x3 :: x4 :: x5 :: x6 :: x7 :: x8 :: r) (x :: st) := G.astoreG hd hv hl f
theorem Good.lstore8 (G : Good Z a0 EL K own code maxL ret nm) {x0 x1 x2 x3 x4 x5 x6 x7 x8 y : Slot} {r : List Slot} {x : Int64} (hd : Dc code pc (.lstore 8) 2 pc') (f : Go Z EL nw R Post K h S k n pc' (x0 :: x1 :: x2 :: x3 :: x4 :: x5 :: x6 :: x7 :: .val (.long x) :: .second :: r) st) (hl : storeLocals (x0 :: x1 :: x2 :: x3 :: x4 :: x5 :: x6 :: x7 :: x8 :: y :: r).toArray 8 (.long x) = some (x0 :: x1 :: x2 :: x3 :: x4 :: x5 :: x6 :: x7 :: .val (.long x) :: .second :: r).toArray := by rfl) : Go Z EL nw R Post K h S k n pc (x0 :: x1 :: x2 :: x3 :: x4 :: x5 :: x6 :: x7 :: x8 :: y :: r) (.long x :: st) := G.lstoreG hd hl f
theorem Good.iinc8 (G : Good Z a0 EL K own code maxL ret nm) (z : Int32) {x0 x1 x2 x3 x4 x5 x6 x7 : Slot} {r : List Slot} {c : Int} {x : Int32} (hd : Dc code pc (.iinc 8 c) 3 pc') (f : Go Z EL nw R Post K h S k n pc' (x0 :: x1 :: x2 :: x3 :: x4 :: x5 :: x6 :: x7 :: .val (.int (x + z)) :: r) st) (hz : Int32.ofInt c = z := by decide) : Go Z EL nw R Post K h S k n pc (x0 :: x1 :: x2 :: x3 :: x4 :: x5 :: x6 :: x7 :: .val (.int x) :: r) st := by subst hz; exact G.iincG hd rfl rfl f
theorem Good.istore9 (G : Good Z a0 EL K own code maxL ret nm) {x0 x1 x2 x3 x4 x5 x6 x7 x8 x9 : Slot} {r : List Slot} {x : Int32} (hd : Dc code pc (.istore 9) 2 pc') (f : Go Z EL nw R Post K h S k n pc' (x0 :: x1 :: x2 :: x3 :: x4 :: x5 :: x6 :: x7 :: x8 :: .val (.int x) :: r) st) (hl : storeLocals (x0 :: x1 :: x2 :: x3 :: x4 :: x5 :: x6 :: x7 :: x8 :: x9 :: r).toArray 9 (.int x) = some (x0 :: x1 :: x2 :: x3 :: x4 :: x5 :: x6 :: x7 :: x8 :: .val (.int x) :: r).toArray := by rfl) : Go Z EL nw R Post K h S k n pc (x0 :: x1 :: x2 :: x3 :: x4 :: x5 :: x6 :: x7 :: x8 :: x9 :: r) (.int x :: st) := G.istoreG hd hl f
theorem Good.astore9 (G : Good Z a0 EL K own code maxL ret nm) {x0 x1 x2 x3 x4 x5 x6 x7 x8 x9 : Slot} {r : List Slot} {x : Value} (hd : Dc code pc (.astore 9) 2 pc') (f : Go Z EL nw R Post K h S k n pc' (x0 :: x1 :: x2 :: x3 :: x4 :: x5 :: x6 :: x7 :: x8 :: .val x :: r) st) (hv : x.isRef = true := by rfl) (hl : storeLocals (x0 :: x1 :: x2 :: x3 :: x4 :: x5 :: x6 :: x7 :: x8 :: x9 :: r).toArray 9 x = some (x0 :: x1 :: x2 :: x3 :: x4 :: x5 :: x6 :: x7 :: x8 :: .val x :: r).toArray := by rfl) : Go Z EL nw R Post K h S k n pc (x0 :: x1 :: x2 :: x3 :: x4 :: x5 :: x6 :: x7 :: x8 :: x9 :: r) (x :: st) := G.astoreG hd hv hl f
theorem Good.lstore9 (G : Good Z a0 EL K own code maxL ret nm) {x0 x1 x2 x3 x4 x5 x6 x7 x8 x9 y : Slot} {r : List Slot} {x : Int64} (hd : Dc code pc (.lstore 9) 2 pc') (f : Go Z EL nw R Post K h S k n pc' (x0 :: x1 :: x2 :: x3 :: x4 :: x5 :: x6 :: x7 :: x8 :: .val (.long x) :: .second :: r) st) (hl : storeLocals (x0 :: x1 :: x2 :: x3 :: x4 :: x5 :: x6 :: x7 :: x8 :: x9 :: y :: r).toArray 9 (.long x) = some (x0 :: x1 :: x2 :: x3 :: x4 :: x5 :: x6 :: x7 :: x8 :: .val (.long x) :: .second :: r).toArray := by rfl) : Go Z EL nw R Post K h S k n pc (x0 :: x1 :: x2 :: x3 :: x4 :: x5 :: x6 :: x7 :: x8 :: x9 :: y :: r) (.long x :: st) := G.lstoreG hd hl f
theorem Good.iinc9 (G : Good Z a0 EL K own code maxL ret nm) (z : Int32) {x0 x1 x2 x3 x4 x5 x6 x7 x8 : Slot} {r : List Slot} {c : Int} {x : Int32} (hd : Dc code pc (.iinc 9 c) 3 pc') (f : Go Z EL nw R Post K h S k n pc' (x0 :: x1 :: x2 :: x3 :: x4 :: x5 :: x6 :: x7 :: x8 :: .val (.int (x + z)) :: r) st) (hz : Int32.ofInt c = z := by decide) : Go Z EL nw R Post K h S k n pc (x0 :: x1 :: x2 :: x3 :: x4 :: x5 :: x6 :: x7 :: x8 :: .val (.int x) :: r) st := by subst hz; exact G.iincG hd rfl rfl f
theorem Good.istore10 (G : Good Z a0 EL K own code maxL ret nm) {x0 x1 x2 x3 x4 x5 x6 x7 x8 x9 x10 : Slot} {r : List Slot} {x : Int32} (hd : Dc code pc (.istore 10) 2 pc') (f : Go Z EL nw R Post K h S k n pc' (x0 :: x1 :: x2 :: x3 :: x4 :: x5 :: x6 :: x7 :: x8 :: x9 :: .val (.int x) :: r) st) (hl : storeLocals (x0 :: x1 :: x2 :: x3 :: x4 :: x5 :: x6 :: x7 :: x8 :: x9 :: x10 :: r).toArray 10 (.int x) = some (x0 :: x1 :: x2 :: x3 :: x4 :: x5 :: x6 :: x7 :: x8 :: x9 :: .val (.int x) :: r).toArray := by rfl) : Go Z EL nw R Post K h S k n pc (x0 :: x1 :: x2 :: x3 :: x4 :: x5 :: x6 :: x7 :: x8 :: x9 :: x10 :: r) (.int x :: st) := G.istoreG hd hl f
theorem Good.astore10 (G : Good Z a0 EL K own code maxL ret nm) {x0 x1 x2 x3 x4 x5 x6 x7 x8 x9 x10 : Slot} {r : List Slot} {x : Value} (hd : Dc code pc (.astore 10) 2 pc') (f : Go Z EL nw R Post K h S k n pc' (x0 :: x1 :: x2 :: x3 :: x4 :: x5 :: x6 :: x7 :: x8 :: x9 :: .val x :: r) st) (hv : x.isRef = true := by rfl) (hl : storeLocals (x0 :: x1 :: x2 :: x3 :: x4 :: x5 :: x6 :: x7 :: x8 :: x9 :: x10 :: r).toArray 10 x = some (x0 :: x1 :: x2 :: x3 :: x4 :: x5 :: x6 :: x7 :: x8 :: x9 :: .val x :: r).toArray := by rfl) : Go Z EL nw R Post K h S k n pc (x0 :: x1 :: x2 :: x3 :: x4 :: x5 :: x6 :: x7 :: x8 :: x9 :: x10 :: r) (x :: st) := G.astoreG hd hv hl f
theorem Good.lstore10 (G : Good Z a0 EL K own code maxL ret nm) {x0 x1 x2 x3 x4 x5 x6 x7 x8 x9 x10 y : Slot} {r : List Slot} {x : Int64} (hd : Dc code pc (.lstore 10) 2 pc') (f : Go Z EL nw R Post K h S k n pc' (x0 :: x1 :: x2 :: x3 :: x4 :: x5 :: x6 :: x7 :: x8 :: x9 :: .val (.long x) :: .second :: r) st) (hl : storeLocals (x0 :: x1 :: x2 :: x3 :: x4 :: x5 :: x6 :: x7 :: x8 :: x9 :: x10 :: y :: r).toArray 10 (.long x) = some (x0 :: x1 :: x2 :: x3 :: x4 :: x5 :: x6 :: x7 :: x8 :: x9 :: .val (.long x) :: .second :: r).toArray := by rfl) : Go Z EL nw R Post K h S k n pc (x0 :: x1 :: x2 :: x3 :: x4 :: x5 :: x6 :: x7 :: x8 :: x9 :: x10 :: y :: r) (.long x :: st) := G.lstoreG hd hl f
theorem Good.iinc10 (G : Good Z a0 EL K own code maxL ret nm) (z : Int32) {x0 x1 x2 x3 x4 x5 x6 x7 x8 x9 : Slot} {r : List Slot} {c : Int} {x : Int32} (hd : Dc code pc (.iinc 10 c) 3 pc') (f : Go Z EL nw R Post K h S k n pc' (x0 :: x1 :: x2 :: x3 :: x4 :: x5 :: x6 :: x7 :: x8 :: x9 :: .val (.int (x + z)) :: r) st) (hz : Int32.ofInt c = z := by decide) : Go Z EL nw R Post K h S k n pc (x0 :: x1 :: x2 :: x3 :: x4 :: x5 :: x6 :: x7 :: x8 :: x9 :: .val (.int x) :: r) st := by subst hz; exact G.iincG hd rfl rfl f
theorem Good.istore11 (G : Good Z a0 EL K own code maxL ret nm) {x0 x1 x2 x3 x4 x5 x6 x7 x8 x9 x10 x11 : Slot} {r : List Slot} {x : Int32} (hd : Dc code pc (.istore 11) 2 pc') (f : Go Z EL nw R Post K h S k n pc' (x0 :: x1 :: x2 :: x3 :: x4 :: x5 :: x6 :: x7 :: x8 :: x9 :: x10 :: .val (.int x) :: r) st) (hl : storeLocals (x0 :: x1 :: x2 :: x3 :: x4 :: x5 :: x6 :: x7 :: x8 :: x9 :: x10 :: x11 :: r).toArray 11 (.int x) = some (x0 :: x1 :: x2 :: x3 :: x4 :: x5 :: x6 :: x7 :: x8 :: x9 :: x10 :: .val (.int x) :: r).toArray := by rfl) : Go Z EL nw R Post K h S k n pc (x0 :: x1 :: x2 :: x3 :: x4 :: x5 :: x6 :: x7 :: x8 :: x9 :: x10 :: x11 :: r) (.int x :: st) := G.istoreG hd hl f
theorem Good.astore11 (G : Good Z a0 EL K own code maxL ret nm) {x0 x1 x2 x3 x4 x5 x6 x7 x8 x9 x10 x11 : Slot} {r : List Slot} {x : Value} (hd : Dc code pc (.astore 11) 2 pc') (f : Go Z EL nw R Post K h S k n pc' (x0 :: x1 :: x2 :: x3 :: x4 :: x5 :: x6 :: x7 :: x8 :: x9 :: x10 :: .val x :: r) st) (hv : x.isRef = true := by rfl) (hl : storeLocals (x0 :: x1 :: x2 :: x3 :: x4 :: x5 :: x6 :: x7 :: x8 :: x9 :: x10 :: x11 :: r).toArray 11 x = some (x0 :: x1 :: x2 :: x3 :: x4 :: x5 :: x6 :: x7 :: x8 :: x9 :: x10 :: .val x :: r).toArray := by rfl) : Go Z EL nw R Post K h S k n pc (x0 :: x1 :: x2 :: x3 :: x4 :: x5 :: x6 :: x7 :: x8 :: x9 :: x10 :: x11 :: r) (x :: st) := G.astoreG hd hv hl f
theorem Good.lstore11 (G : Good Z a0 EL K own code maxL ret nm) {x0 x1 x2 x3 x4 x5 x6 x7 x8 x9 x10 x11 y : Slot} {r : List Slot} {x : Int64} (hd : Dc code pc (.lstore 11) 2 pc') (f : Go Z EL nw R Post K h S k n pc' (x0 :: x1 :: x2 :: x3 :: x4 :: x5 :: x6 :: x7 :: x8 :: x9 :: x10 :: .val (.long x) :: .second :: r) st) (hl : storeLocals (x0 :: x1 :: x2 :: x3 :: x4 :: x5 :: x6 :: x7 :: x8 :: x9 :: x10 :: x11 :: y :: r).toArray 11 (.long x) = some (x0 :: x1 :: x2 :: x3 :: x4 :: x5 :: x6 :: x7 :: x8 :: x9 :: x10 :: .val (.long x) :: .second :: r).toArray := by rfl) : Go Z EL nw R Post K h S k n pc (x0 :: x1 :: x2 :: x3 :: x4 :: x5 :: x6 :: x7 :: x8 :: x9 :: x10 :: x11 :: y :: r) (.long x :: st) := G.lstoreG hd hl f
theorem Good.iinc11 (G : Good Z a0 EL K own code maxL ret nm) (z : Int32) {x0 x1 x2 x3 x4 x5 x6 x7 x8 x9 x10 : Slot} {r : List Slot} {c : Int} {x : Int32} (hd : Dc code pc (.iinc 11 c) 3 pc') (f : Go Z EL nw R Post K h S k n pc' (x0 :: x1 :: x2 :: x3 :: x4 :: x5 :: x6 :: x7 :: x8 :: x9 :: x10 :: .val (.int (x + z)) :: r) st) (hz : Int32.ofInt c = z := by decide) : Go Z EL nw R Post K h S k n pc (x0 :: x1 :: x2 :: x3 :: x4 :: x5 :: x6 :: x7 :: x8 :: x9 :: x10 :: .val (.int x) :: r) st := by subst hz; exact G.iincG hd rfl rfl f
theorem Good.istore12 (G : Good Z a0 EL K own code maxL ret nm) {x0 x1 x2 x3 x4 x5 x6 x7 x8 x9 x10 x11 x12 : Slot} {r : List Slot} {x : Int32} (hd : Dc code pc (.istore 12) 2 pc') (f : Go Z EL nw R Post K h S k n pc' (x0 :: x1 :: x2 :: x3 :: x4 :: x5 :: x6 :: x7 :: x8 :: x9 :: x10 :: x11 :: .val (.int x) :: r) st) (hl : storeLocals (x0 :: x1 :: x2 :: x3 :: x4 :: x5 :: x6 :: x7 :: x8 :: x9 :: x10 :: x11 :: x12 :: r).toArray 12 (.int x) = some (x0 :: x1 :: x2 :: x3 :: x4 :: x5 :: x6 :: x7 :: x8 :: x9 :: x10 :: x11 :: .val (.int x) :: r).toArray := by rfl) : Go Z EL nw R Post K h S k n pc (x0 :: x1 :: x2 :: x3 :: x4 :: x5 :: x6 :: x7 :: x8 :: x9 :: x10 :: x11 :: x12 :: r) (.int x :: st) := G.istoreG hd hl f
theorem Good.astore12 (G : Good Z a0 EL K own code maxL ret nm) {x0 x1 x2 x3 x4 x5 x6 x7 x8 x9 x10 x11 x12 : Slot} {r : List Slot} {x : Value} (hd : Dc code pc (.astore 12) 2 pc') (f : Go Z EL nw R Post K h S k n pc' (x0 :: x1 :: x2 :: x3 :: x4 :: x5 :: x6 :: x7 :: x8 :: x9 :: x10 :: x11 :: .val x :: r) st) (hv : x.isRef = true := by rfl) (hl : storeLocals (x0 :: x1 :: x2 :: x3 :: x4 :: x5 :: x6 :: x7 :: x8 :: x9 :: x10 :: x11 :: x12 :: r).toArray 12 x = some (x0 :: x1 :: x2 :: x3 :: x4 :: x5 :: x6 :: x7 :: x8 :: x9 :: x10 :: x11 :: .val x :: r).toArray := by rfl) : Go Z EL nw R Post K h S k n pc (x0 :: x1 :: x2 :: x3 :: x4 :: x5 :: x6 :: x7 :: x8 :: x9 :: x10 :: x11 :: x12 :: r) (x :: st) := G.astoreG hd hv hl f
theorem Good.lstore12 (G : Good Z a0 EL K own code maxL ret nm) {x0 x1 x2 x3 x4 x5 x6 x7 x8 x9 x10 x11 x12 y : Slot} {r : List Slot} {x : Int64} (hd : Dc code pc (.lstore 12) 2 pc') (f : Go Z EL nw R Post K h S k n pc' (x0 :: x1 :: x2 :: x3 :: x4 :: x5 :: x6 :: x7 :: x8 :: x9 :: x10 :: x11 :: .val (.long x) :: .second :: r) st) (hl : storeLocals (x0 :: x1 :: x2 :: x3 :: x4 :: x5 :: x6 :: x7 :: x8 :: x9 :: x10 :: x11 :: x12 :: y :: r).toArray 12 (.long x) = some (x0 :: x1 :: x2 :: x3 :: x4 :: x5 :: x6 :: x7 :: x8 :: x9 :: x10 :: x11 :: .val (.long x) :: .second :: r).toArray := by rfl) : Go Z EL nw R Post K h S k n pc (x0 :: x1 :: x2 :: x3 :: x4 :: x5 :: x6 :: x7 :: x8 :: x9 :: x10 :: x11 :: x12 :: y :: r) (.long x :: st) := G.lstoreG hd hl f
theorem Good.iinc12 (G : Good Z a0 EL K own code maxL ret nm) (z : Int32) {x0 x1 x2 x3 x4 x5 x6 x7 x8 x9 x10 x11 : Slot} {r : List Slot} {c : Int} {x : Int32} (hd : Dc code pc (.iinc 12 c) 3 pc') (f : Go Z EL nw R Post K h S k n pc' (x0 :: x1 :: x2 :: x3 :: x4 :: x5 :: x6 :: x7 :: x8 :: x9 :: x10 :: x11 :: .val (.int (x + z)) :: r) st) (hz : Int32.ofInt c = z := by decide) : Go Z EL nw R Post K h S k n pc (x0 :: x1 :: x2 :: x3 :: x4 :: x5 :: x6 :: x7 :: x8 :: x9 :: x10 :: x11 :: .val (.int x) :: r) st := by subst hz; exact G.iincG hd rfl rfl f
theorem Good.istore13 (G : Good Z a0 EL K own code maxL ret nm) {x0 x1 x2 x3 x4 x5 x6 x7 x8 x9 x10 x11 x12 x13 : Slot} {r : List Slot} {x : Int32} (hd : Dc code pc (.istore 13) 2 pc') (f : Go Z EL nw R Post K h S k n pc' (x0 :: x1 :: x2 :: x3 :: x4 :: x5 :: x6 :: x7 :: x8 :: x9 :: x10 :: x11 :: x12 :: .val (.int x) :: r) st) (hl : storeLocals (x0 :: x1 :: x2 :: x3 :: x4 :: x5 :: x6 :: x7 :: x8 :: x9 :: x10 :: x11 :: x12 :: x13 :: r).toArray 13 (.int x) = some (x0 :: x1 :: x2 :: x3 :: x4 :: x5 :: x6 :: x7 :: x8 :: x9 :: x10 :: x11 :: x12 :: .val (.int x) :: r).toArray := by rfl) : Go Z EL nw R Post K h S k n pc (x0 :: x1 :: x2 :: x3 :: x4 :: x5 :: x6 :: x7 :: x8 :: x9 :: x10 :: x11 :: x12 :: x13 :: r) (.int x :: st) := G.istoreG hd hl f
theorem Good.astore13 (G : Good Z a0 EL K own code maxL ret nm) {x0 x1 x2 x3 x4 x5 x6 x7 x8 x9 x10 x11 x12 x13 : Slot} {r : List Slot} {x : Value} (hd : Dc code pc (.astore 13) 2 pc') (f : Go Z EL nw R Post K h S k n pc' (x0 :: x1 :: x2 :: x3 :: x4 :: x5 :: x6 :: x7 :: x8 :: x9 :: x10 :: x11 :: x12 :: .val x :: r) st) (hv : x.isRef = true := by rfl) (hl : storeLocals (x0 :: x1 :: x2 :: x3 :: x4 :: x5 :: x6 :: x7 :: x8 :: x9 :: x10 :: x11 :: x12 :: x13 :: r).toArray 13 x = some (x0 :: x1 :: x2 :: x3 :: x4 :: x5 :: x6 :: x7 :: x8 :: x9 :: x10 :: x11 :: x12 :: .val x :: r).toArray := by rfl) : Go Z EL nw R Post K h S k n pc (x0 :: x1 :: x2 :: x3 :: x4 :: x5 :: x6 :: x7 :: x8 :: x9 :: x10 :: x11 :: x12 :: x13 :: r) (x :: st) := G.astoreG hd hv hl f
theorem Good.lstore13 (G : Good Z a0 EL K own code maxL ret nm) {x0 x1 x2 x3 x4 x5 x6 x7 x8 x9 x10 x11 x12 x13 y : Slot} {r : List Slot} {x : Int64} (hd : Dc code pc (.lstore 13) 2 pc') (f : Go Z EL nw R Post K h S k n pc' (x0 :: x1 :: x2 :: x3 :: x4 :: x5 :: x6 :: x7 :: x8 :: x9 :: x10 :: x11 :: x12 :: .val (.long x) :: .second :: r) st) (hl : storeLocals (x0 :: x1 :: x2 :: x3 :: x4 :: x5 :: x6 :: x7 :: x8 :: x9 :: x10 :: x11 :: x12 :: x13 :: y :: r).toArray 13 (.long x) = some (x0 :: x1 :: x2 :: x3 :: x4 :: x5 :: x6 :: x7 :: x8 :: x9 :: x10 :: x11 :: x12 :: .val (.long x) :: .second :: r).toArray := by rfl) : Go Z EL nw R Post K h S k n pc (x0 :: x1 :: x2 :: x3 :: x4 :: x5 :: x6 :: x7 :: x8 :: x9 :: x10 :: x11 :: x12 :: x13 :: y :: r) (.long x :: st) := G.lstoreG hd hl f
theorem Good.iinc13 (G : Good Z a0 EL K own code maxL ret nm) (z : Int32) {x0 x1 x2 x3 x4 x5 x6 x7 x8 x9 x10 x11 x12 : Slot} {r : List Slot} {c : Int} {x : Int32} (hd : Dc code pc (.iinc 13 c) 3 pc') (f : Go Z EL nw R Post K h S k n pc' (x0 :: x1 :: x2 :: x3 :: x4 :: x5 :: x6 :: x7 :: x8 :: x9 :: x10 :: x11 :: x12 :: .val (.int (x + z)) :: r) st) (hz : Int32.ofInt c = z := by decide) : Go Z EL nw R Post K h S k n pc (x0 :: x1 :: x2 :: x3 :: x4 :: x5 :: x6 :: x7 :: x8 :: x9 :: x10 :: x11 :: x12 :: .val (.int x) :: r) st := by subst hz; exact G.iincG hd rfl rfl f
theorem Good.istore14 (G : Good Z a0 EL K own code maxL ret nm) {x0 x1 x2 x3 x4 x5 x6 x7 x8 x9 x10 x11 x12 x13 x14 : Slot} {r : List Slot} {x : Int32} (hd : Dc code pc (.istore 14) 2 pc') (f : Go Z EL nw R Post K h S k n pc' (x0 :: x1 :: x2 :: x3 :: x4 :: x5 :: x6 :: x7 :: x8 :: x9 :: x10 :: x11 :: x12 :: x13 :: .val (.int x) :: r) st) (hl : storeLocals (x0 :: x1 :: x2 :: x3 :: x4 :: x5 :: x6 :: x7 :: x8 :: x9 :: x10 :: x11 :: x12 :: x13 :: x14 :: r).toArray 14 (.int x) = some (x0 :: x1 :: x2 :: x3 :: x4 :: x5 :: x6 :: x7 :: x8 :: x9 :: x10 :: x11 :: x12 :: x13 :: .val (.int x) :: r).toArray := by rfl) : Go Z EL nw R Post K h S k n pc (x0 :: x1 :: x2 :: x3 :: x4 :: x5 :: x6 :: x7 :: x8 :: x9 :: x10 :: x11 :: x12 :: x13 :: x14 :: r) (.int x :: st) := G.istoreG hd hl f
theorem Good.astore14 (G : Good Z a0 EL K own code maxL ret nm) {x0 x1 x2 x3 x4 x5 x6 x7 x8 x9 x10 x11 x12 x13 x14 : Slot} {r : List Slot} {x : Value} (hd : Dc code pc (.astore 14) 2 pc') (f : Go Z EL nw R Post K h S k n pc' (x0 :: x1 :: x2 :: x3 :: x4 :: x5 :: x6 :: x7 :: x8 :: x9 :: x10 :: x11 :: x12 :: x13 :: .val x :: r) st) (hv : x.isRef = true := by rfl) (hl : storeLocals (x0 :: x1 :: x2 :: x3 :: x4 :: x5 :: x6 :: x7 :: x8 :: x9 :: x10 :: x11 :: x12 :: x13 :: x14 :: r).toArray 14 x = some (x0 :: x1 :: x2 :: x3 :: x4 :: x5 :: x6 :: x7 :: x8 :: x9 :: x10 :: x11 :: x12 :: x13 :: .val x :: r).toArray := by rfl) : Go Z EL nw R Post K h S k n pc (x0 :: x1 :: x2 :: x3 :: x4 :: x5 :: x6 :: x7 :: x8 :: x9 :: x10 :: x11 :: x12 :: x13 :: x14 :: r) (x :: st) := G.astoreG hd hv hl f
theorem Good.lstore14 (G : Good Z a0 EL K own code maxL ret nm) {x0 x1 x2 x3 x4 x5 x6 x7 x8 x9 x10 x11 x12 x13 x14 y : Slot} {r : List Slot} {x : Int64} (hd : Dc code pc (.lstore 14) 2 pc') (f : Go Z EL nw R Post K h S k n pc' (x0 :: x1 :: x2 :: x3 :: x4 :: x5 :: x6 :: x7 :: x8 :: x9 :: x10 :: x11 :: x12 :: x13 :: .val (.long x) :: .second :: r) st) (hl : storeLocals (x0 :: x1 :: x2 :: x3 :: x4 :: x5 :: x6 :: x7 :: x8 :: x9 :: x10 :: x11 :: x12 :: x13 :: x14 :: y :: r).toArray 14 (.long x) = some (x0 :: x1 :: x2 :: x3 :: x4 :: x5 :: x6 :: x7 :: x8 :: x9 :: x10 :: x11 :: x12 :: x13 :: .val (.long x) :: .second :: r).toArray := by rfl) : Go Z EL nw R Post K h S k n pc (x0 :: x1 :: x2 :: x3 :: x4 :: x5 :: x6 :: x7 :: x8 :: x9 :: x10 :: x11 :: x12 :: x13 :: x14 :: y :: r) (.long x :: st) := G.lstoreG hd hl f
theorem Good.iinc14 (G : Good Z a0 EL K own code maxL ret nm) (z : Int32) {x0 x1 x2 x3 x4 x5 x6 x7 x8 x9 x10 x11 x12 x13 : Slot} {r : List Slot} {c : Int} {x : Int32} (hd : Dc code pc (.iinc 14 c) 3 pc') (f : Go Z EL nw R Post K h S k n pc' (x0 :: x1 :: x2 :: x3 :: x4 :: x5 :: x6 :: x7 :: x8 :: x9 :: x10 :: x11 :: x12 :: x13 :: .val (.int (x + z)) :: r) st) (hz : Int32.ofInt c = z := by decide) : Go Z EL nw R Post K h S k n pc (x0 :: x1 :: x2 :: x3 :: x4 :: x5 :: x6 :: x7 :: x8 :: x9 :: x10 :: x11 :: x12 :: x13 :: .val (.int x) :: r) st := by subst hz; exact G.iincG hd rfl rfl f
theorem Good.istore15 (G : Good Z a0 EL K own code maxL ret nm) {x0 x1 x2 x3 x4 x5 x6 x7 x8 x9 x10 x11 x12 x13 x14 x15 : Slot} {r : List Slot} {x : Int32} (hd : Dc code pc (.istore 15) 2 pc') (f : Go Z EL nw R Post K h S k n pc' (x0 :: x1 :: x2 :: x3 :: x4 :: x5 :: x6 :: x7 :: x8 :: x9 :: x10 :: x11 :: x12 :: x13 :: x14 :: .val (.int x) :: r) st) (hl : storeLocals (x0 :: x1 :: x2 :: x3 :: x4 :: x5 :: x6 :: x7 :: x8 :: x9 :: x10 :: x11 :: x12 :: x13 :: x14 :: x15 :: r).toArray 15 (.int x) = some (x0 :: x1 :: x2 :: x3 :: x4 :: x5 :: x6 :: x7 :: x8 :: x9 :: x10 :: x11 :: x12 :: x13 :: x14 :: .val (.int x) :: r).toArray := by rfl) : Go Z EL nw R Post K h S k n pc (x0 :: x1 :: x2 :: x3 :: x4 :: x5 :: x6 :: x7 :: x8 :: x9 :: x10 :: x11 :: x12 :: x13 :: x14 :: x15 :: r) (.int x :: st) := G.istoreG hd hl f
theorem Good.astore15 (G : Good Z a0 EL K own code maxL ret nm) {x0 x1 x2 x3 x4 x5 x6 x7 x8 x9 x10 x11 x12 x13 x14 x15 : Slot} {r : List Slot} {x : Value} (hd : Dc code pc (.astore 15) 2 pc') (f : Go Z EL nw R Post K h S k n pc' (x0 :: x1 :: x2 :: x3 :: x4 :: x5 :: x6 :: x7 :: x8 :: x9 :: x10 :: x11 :: x12 :: x13 :: x14 :: .val x :: r) st) (hv : x.isRef = true := by rfl) (hl : storeLocals (x0 :: x1 :: x2 :: x3 :: x4 :: x5 :: x6 :: x7 :: x8 :: x9 :: x10 :: x11 :: x12 :: x13 :: x14 :: x15 :: r).toArray 15 x = some (x0 :: x1 :: x2 :: x3 :: x4 :: x5 :: x6 :: x7 :: x8 :: x9 :: x10 :: x11 :: x12 :: x13 :: x14 :: .val x :: r).toArray := by rfl) : Go Z EL nw R Post K h S k n pc (x0 :: x1 :: x2 :: x3 :: x4 :: x5 :: x6 :: x7 :: x8 :: x9 :: x10 :: x11 :: x12 :: x13 :: x14 :: x15 :: r) (x :: st) := G.astoreG hd hv hl f
theorem Good.lstore15 (G : Good Z a0 EL K own code maxL ret nm) {x0 x1 x2 x3 x4 x5 x6 x7 x8 x9 x10 x11 x12 x13 x14 x15 y : Slot} {r : List Slot} {x : Int64} (hd : Dc code pc (.lstore 15) 2 pc') (f : Go Z EL nw R Post K h S k n pc' (x0 :: x1 :: x2 :: x3 :: x4 :: x5 :: x6 :: x7 :: x8 :: x9 :: x10 :: x11 :: x12 :: x13 :: x14 :: .val (.long x) :: .second :: r) st) (hl : storeLocals (x0 :: x1 :: x2 :: x3 :: x4 :: x5 :: x6 :: x7 :: x8 :: x9 :: x10 :: x11 :: x12 :: x13 :: x14 :: x15 :: y :: r).toArray 15 (.long x) = some (x0 :: x1 :: x2 :: x3 :: x4 :: x5 :: x6 :: x7 :: x8 :: x9 :: x10 :: x11 :: x12 :: x13 :: x14 :: .val (.long x) :: .second :: r).toArray := by rfl) : Go Z EL nw R Post K h S k n pc (x0 :: x1 :: x2 :: x3 :: x4 :: x5 :: x6 :: x7 :: x8 :: x9 :: x10 :: x11 :: x12 :: x13 :: x14 :: x15 :: y :: r) (.long x :: st) := G.lstoreG hd hl f
theorem Good.iinc15 (G : Good Z a0 EL K own code maxL ret nm) (z : Int32) {x0 x1 x2 x3 x4 x5 x6 x7 x8 x9 x10 x11 x12 x13 x14 : Slot} {r : List Slot} {c : Int} {x : Int32} (hd : Dc code pc (.iinc 15 c) 3 pc') (f : Go Z EL nw R Post K h S k n pc' (x0 :: x1 :: x2 :: x3 :: x4 :: x5 :: x6 :: x7 :: x8 :: x9 :: x10 :: x11 :: x12 :: x13 :: x14 :: .val (.int (x + z)) :: r) st) (hz : Int32.ofInt c = z := by decide) : Go Z EL nw R Post K h S k n pc (x0 :: x1 :: x2 :: x3 :: x4 :: x5 :: x6 :: x7 :: x8 :: x9 :: x10 :: x11 :: x12 :: x13 :: x14 :: .val (.int x) :: r) st := by subst hz; exact G.iincG hd rfl rfl f
theorem Good.istore16 (G : Good Z a0 EL K own code maxL ret nm) {x0 x1 x2 x3 x4 x5 x6 x7 x8 x9 x10 x11 x12 x13 x14 x15 x16 : Slot} {r : List Slot} {x : Int32} (hd : Dc code pc (.istore 16) 2 pc') (f : Go Z EL nw R Post K h S k n pc' (x0 :: x1 :: x2 :: x3 :: x4 :: x5 :: x6 :: x7 :: x8 :: x9 :: x10 :: x11 :: x12 :: x13 :: x14 :: x15 :: .val (.int x) :: r) st) (hl : storeLocals (x0 :: x1 :: x2 :: x3 :: x4 :: x5 :: x6 :: x7 :: x8 :: x9 :: x10 :: x11 :: x12 :: x13 :: x14 :: x15 :: x16 :: r).toArray 16 (.int x) = some (x0 :: x1 :: x2 :: x3 :: x4 :: x5 :: x6 :: x7 :: x8 :: x9 :: x10 :: x11 :: x12 :: x13 :: x14 :: x15 :: .val (.int x) :: r).toArray := by rfl) : Go Z EL nw R Post K h S k n pc (x0 :: x1 :: x2 :: x3 :: x4 :: x5 :: x6 :: x7 :: x8 :: x9 :: x10 :: x11 :: x12 :: x13 :: x14 :: x15 :: x16 :: r) (.int x :: st) := G.istoreG hd hl f
theorem Good.astore16 (G : Good Z a0 EL K own code maxL ret nm) {x0 x1 x2 x3 x4 x5 x6 x7 x8 x9 x10 x11 x12 x13 x14 x15 x16 : Slot} {r : List Slot} {x : Value} (hd : Dc code pc (.astore 16) 2 pc') (f : Go Z EL nw R Post K h S k n pc' (x0 :: x1 :: x2 :: x3 :: x4 :: x5 :: x6 :: x7 :: x8 :: x9 :: x10 :: x11 :: x12 :: x13 :: x14 :: x15 :: .val x :: r) st) (hv : x.isRef = true := by rfl) (hl : storeLocals (x0 :: x1 :: x2 :: x3 :: x4 :: x5 :: x6 :: x7 :: x8 :: x9 :: x10 :: x11 :: x12 :: x13 :: x14 :: x15 :: x16 :: r).toArray 16 x = some (x0 :: x1 :: x2 :: x3 :: x4 :: x5 :: x6 :: x7 :: x8 :: x9 :: x10 :: x11 :: x12 :: x13 :: x14 :: x15 :: .val x :: r).toArray := by rfl) : Go Z EL nw R Post K h S k n pc (x0 :: x1 :: x2 :: x3 :: x4 :: x5 :: x6 :: x7 :: x8 :: x9 :: x10 :: x11 :: x12 :: x13 :: x14 :: x15 :: x16 :: r) (x :: st) := G.astoreG hd hv hl f
theorem Good.lstore16 (G : Good Z a0 EL K own code maxL ret nm) {x0 x1 x2 x3 x4 x5 x6 x7 x8 x9 x10 x11 x12 x13 x14 x15 x16 y : Slot} {r : List Slot} {x : Int64} (hd : Dc code pc (.lstore 16) 2 pc') (f : Go Z EL nw R Post K h S k n pc' (x0 :: x1 :: x2 :: x3 :: x4 :: x5 :: x6 :: x7 :: x8 :: x9 :: x10 :: x11 :: x12 :: x13 :: x14 :: x15 :: .val (.long x) :: .second :: r) st) (hl : storeLocals (x0 :: x1 :: x2 :: x3 :: x4 :: x5 :: x6 :: x7 :: x8 :: x9 :: x10 :: x11 :: x12 :: x13 :: x14 :: x15 :: x16 :: y :: r).toArray 16 (.long x) = some (x0 :: x1 :: x2 :: x3 :: x4 :: x5 :: x6 :: x7 :: x8 :: x9 :: x10 :: x11 :: x12 :: x13 :: x14 :: x15 :: .val (.long x) :: .second :: r).toArray := by rfl) : Go Z EL nw R Post K h S k n pc (x0 :: x1 :: x2 :: x3 :: x4 :: x5 :: x6 :: x7 :: x8 :: x9 :: x10 :: x11 :: x12 :: x13 :: x14 :: x15 :: x16 :: y :: r) (.long x :: st) := G.lstoreG hd hl f
theorem Good.iinc16 (G : Good Z a0 EL K own code maxL ret nm) (z : Int32) {x0 x1 x2 x3 x4 x5 x6 x7 x8 x9 x10 x11 x12 x13 x14 x15 : Slot} {r : List Slot} {c : Int} {x : Int32} (hd : Dc code pc (.iinc 16 c) 3 pc') (f : Go Z EL nw R Post K h S k n pc' (x0 :: x1 :: x2 :: x3 :: x4 :: x5 :: x6 :: x7 :: x8 :: x9 :: x10 :: x11 :: x12 :: x13 :: x14 :: x15 :: .val (.int (x + z)) :: r) st) (hz : Int32.ofInt c = z := by decide) : Go Z EL nw R Post K h S k n pc (x0 :: x1 :: x2 :: x3 :: x4 :: x5 :: x6 :: x7 :: x8 :: x9 :: x10 :: x11 :: x12 :: x13 :: x14 :: x15 :: .val (.int x) :: r) st := by subst hz; exact G.iincG hd rfl rfl f
theorem Good.istore17 (G : Good Z a0 EL K own code maxL ret nm) {x0 x1 x2 x3 x4 x5 x6 x7 x8 x9 x10 x11 x12 x13 x14 x15 x16 x17 : Slot} {r : List Slot} {x : Int32} (hd : Dc code pc (.istore 17) 2 pc') (f : Go Z EL nw R Post K h S k n pc' (x0 :: x1 :: x2 :: x3 :: x4 :: x5 :: x6 :: x7 :: x8 :: x9 :: x10 :: x11 :: x12 :: x13 :: x14 :: x15 :: x16 :: .val (.int x) :: r) st) (hl : storeLocals (x0 :: x1 :: x2 :: x3 :: x4 :: x5 :: x6 :: x7 :: x8 :: x9 :: x10 :: x11 :: x12 :: x13 :: x14 :: x15 :: x16 :: x17 :: r).toArray 17 (.int x) = some (x0 :: x1 :: x2 :: x3 :: x4 :: x5 :: x6 :: x7 :: x8 :: x9 :: x10 :: x11 :: x12 :: x13 :: x14 :: x15 :: x16 :: .val (.int x) :: r).toArray := by rfl) : Go Z EL nw R Post K h S k n pc (x0 :: x1 :: x2 :: x3 :: x4 :: x5 :: x6 :: x7 :: x8 :: x9 :: x10 :: x11 :: x12 :: x13 :: x14 :: x15 :: x16 :: x17 :: r) (.int x :: st) := G.istoreG hd hl f
theorem Good.astore17 (G : Good Z a0 EL K own code maxL ret nm) {x0 x1 x2 x3 x4 x5 x6 x7 x8 x9 x10 x11 x12 x13 x14 x15 x16 x17 : Slot} {r : List Slot} {x : Value} (hd : Dc code pc (.astore 17) 2 pc') (f : Go Z EL nw R Post K h S k n pc' (x0 :: x1 :: x2 :: x3 :: x4 :: x5 :: x6 :: x7 :: x8 :: x9 :: x10 :: x11 :: x12 :: x13 :: x14 :: x15 :: x16 :: .val x :: r) st) (hv : x.isRef = true := by rfl) (hl : storeLocals (x0 :: x1 :: x2 :: x3 :: x4 :: x5 :: x6 :: x7 :: x8 :: x9 :: x10 :: x11 :: x12 :: x13 :: x14 :: x15 :: x16 :: x17 :: r).toArray 17 x = some (x0 :: x1 :: x2 :: x3 :: x4 :: x5 :: x6 :: x7 :: x8 :: x9 :: x10 :: x11 :: x12 :: x13 :: x14 :: x15 :: x16 :: .val x :: r).toArray := by rfl) : Go Z EL nw R Post K h S k n pc (x0 :: x1 :: x2 :: x3 :: x4 :: x5 :: x6 :: x7 :: x8 :: x9 :: x10 :: x11 :: x12 :: x13 :: x14 :: x15 :: x16 :: x17 :: r) (x :: st) := G.astoreG hd hv hl f
theorem Good.lstore17 (G : Good Z a0 EL K own code maxL ret nm) {x0 x1 x2 x3 x4 x5 x6 x7 x8 x9 x10 x11 x12 x13 x14 x15 x16 x17 y : Slot} {r : List Slot} {x : Int64} (hd : Dc code pc (.lstore 17) 2 pc') (f : Go Z EL nw R Post K h S k n pc' (x0 :: x1 :: x2 :: x3 :: x4 :: x5 :: x6 :: x7 :: x8 :: x9 :: x10 :: x11 :: x12 :: x13 :: x14 :: x15 :: x16 :: .val (.long x) :: .second :: r) st) (hl : storeLocals (x0 :: x1 :: x2 :: x3 :: x4 :: x5 :: x6 :: x7 :: x8 :: x9 :: x10 :: x11 :: x12 :: x13 :: x14 :: x15 :: x16 :: x17 :: y :: r).toArray 17 (.long x) = some (x0 :: x1 :: x2 :: x3 :: x4 :: x5 :: x6 :: x7 :: x8 :: x9 :: x10 :: x11 :: x12 :: x13 :: x14 :: x15 :: x16 :: .val (.long x) :: .second :: r).toArray := by rfl) : Go Z EL nw R Post K h S k n pc (x0 :: x1 :: x2 :: x3 :: x4 :: x5 :: x6 :: x7 :: x8 :: x9 :: x10 :: x11 :: x12 :: x13 :: x14 :: x15 :: x16 :: x17 :: y :: r) (.long x :: st) := G.lstoreG hd hl f
theorem Good.iinc17 (G : Good Z a0 EL K own code maxL ret nm) (z : Int32) {x0 x1 x2 x3 x4 x5 x6 x7 x8 x9 x10 x11 x12 x13 x14 x15 x16 : Slot} {r : List Slot} {c : Int} {x : Int32} (hd : Dc code pc (.iinc 17 c) 3 pc') (f : Go Z EL nw R Post K h S k n pc' (x0 :: x1 :: x2 :: x3 :: x4 :: x5 :: x6 :: x7 :: x8 :: x9 :: x10 :: x11 :: x12 :: x13 :: x14 :: x15 :: x16 :: .val (.int (x + z)) :: r) st) (hz : Int32.ofInt c = z := by decide) : Go Z EL nw R Post K h S k n pc (x0 :: x1 :: x2 :: x3 :: x4 :: x5 :: x6 :: x7 :: x8 :: x9 :: x10 :: x11 :: x12 :: x13 :: x14 :: x15 :: x16 :: .val (.int x) :: r) st := by subst hz; exact G.iincG hd rfl rfl f
theorem Good.istore18 (G : Good Z a0 EL K own code maxL ret nm) {x0 x1 x2 x3 x4 x5 x6 x7 x8 x9 x10 x11 x12 x13 x14 x15 x16 x17 x18 : Slot} {r : List Slot} {x : Int32} (hd : Dc code pc (.istore 18) 2 pc') (f : Go Z EL nw R Post K h S k n pc' (x0 :: x1 :: x2 :: x3 :: x4 :: x5 :: x6 :: x7 :: x8 :: x9 :: x10 :: x11 :: x12 :: x13 :: x14 :: x15 :: x16 :: x17 :: .val (.int x) :: r) st) (hl : storeLocals (x0 :: x1 :: x2 :: x3 :: x4 :: x5 :: x6 :: x7 :: x8 :: x9 :: x10 :: x11 :: x12 :: x13 :: x14 :: x15 :: x16 :: x17 :: x18 :: r).toArray 18 (.int x) = some (x0 :: x1 :: x2 :: x3 :: x4 :: x5 :: x6 :: x7 :: x8 :: x9 :: x10 :: x11 :: x12 :: x13 :: x14 :: x15 :: x16 :: x17 :: .val (.int x) :: r).toArray := by rfl) : Go Z EL nw R Post K h S k n pc (x0 :: x1 :: x2 :: x3 :: x4 :: x5 :: x6 :: x7 :: x8 :: x9 :: x10 :: x11 :: x12 :: x13 :: x14 :: x15 :: x16 :: x17 :: x18 :: r) (.int x :: st) := G.istoreG hd hl f
theorem Good.astore18 (G : Good Z a0 EL K own code maxL ret nm) {x0 x1 x2 x3 x4 x5 x6 x7 x8 x9 x10 x11 x12 x13 x14 x15 x16 x17 x18 : Slot} {r : List Slot} {x : Value} (hd : Dc code pc (.astore 18) 2 pc') (f : Go Z EL nw R Post K h S k n pc' (x0 :: x1 :: x2 :: x3 :: x4 :: x5 :: x6 :: x7 :: x8 :: x9 :: x10 :: x11 :: x12 :: x13 :: x14 :: x15 :: x16 :: x17 :: .val x :: r) st) (hv : x.isRef = true := by rfl) (hl : storeLocals (x0 :: x1 :: x2 :: x3 :: x4 :: x5 :: x6 :: x7 :: x8 :: x9 :: x10 :: x11 :: x12 :: x13 :: x14 :: x15 :: x16 :: x17 :: x18 :: r).toArray 18 x = some (x0 :: x1 :: x2 :: x3 :: x4 :: x5 :: x6 :: x7 :: x8 :: x9 :: x10 :: x11 :: x12 :: x13 :: x14 :: x15 :: x16 :: x17 :: .val x :: r).toArray := by rfl) : Go Z EL nw R Post K h S k n pc (x0 :: x1 :: x2 :: x3 :: x4 :: x5 :: x6 :: x7 :: x8 :: x9 :: x10 :: x11 :: x12 :: x13 :: x14 :: x15 :: x16 :: x17 :: x18 :: r) (x :: st) := G.astoreG hd hv hl f
theorem Good.lstore18 (G : Good Z a0 EL K own code maxL ret nm) {x0 x1 x2 x3 x4 x5 x6 x7 x8 x9 x10 x11 x12 x13 x14 x15 x16 x17 x18 y : Slot} {r : List Slot} {x : Int64} (hd : Dc code pc (.lstore 18) 2 pc') (f : Go Z EL nw R Post K h S k n pc' (x0 :: x1 :: x2 :: x3 :: x4 :: x5 :: x6 :: x7 :: x8 :: x9 :: x10 :: x11 :: x12 :: x13 :: x14 :: x15 :: x16 :: x17 :: .val (.long x) :: .second :: r) st) (hl : storeLocals (x0 :: x1 :: x2 :: x3 :: x4 :: x5 :: x6 :: x7 :: x8 :: x9 :: x10 :: x11 :: x12 :: x13 :: x14 :: x15 :: x16 :: x17 :: x18 :: y :: r).toArray 18 (.long x) = some (x0 :: x1 :: x2 :: x3 :: x4 :: x5 :: x6 :: x7 :: x8 :: x9 :: x10 :: x11 :: x12 :: x13 :: x14 :: x15 :: x16 :: x17 :: .val (.long x) :: .second :: r).toArray := by rfl) : Go Z EL nw R Post K h S k n pc (x0 :: x1 :: x2 :: x3 :: x4 :: x5 :: x6 :: x7 :: x8 :: x9 :: x10 :: x11 :: x12 :: x13 :: x14 :: x15 :: x16 :: x17 :: x18 :: y :: r) (.long x :: st) := G.lstoreG hd hl f
theorem Good.iinc18 (G : Good Z a0 EL K own code maxL ret nm) (z : Int32) {x0 x1 x2 x3 x4 x5 x6 x7 x8 x9 x10 x11 x12 x13 x14 x15 x16 x17 : Slot} {r : List Slot} {c : Int} {x : Int32} (hd : Dc code pc (.iinc 18 c) 3 pc') (f : Go Z EL nw R Post K h S k n pc' (x0 :: x1 :: x2 :: x3 :: x4 :: x5 :: x6 :: x7 :: x8 :: x9 :: x10 :: x11 :: x12 :: x13 :: x14 :: x15 :: x16 :: x17 :: .val (.int (x + z)) :: r) st) (hz : Int32.ofInt c = z := by decide) : Go Z EL nw R Post K h S k n pc (x0 :: x1 :: x2 :: x3 :: x4 :: x5 :: x6 :: x7 :: x8 :: x9 :: x10 :: x11 :: x12 :: x13 :: x14 :: x15 :: x16 :: x17 :: .val (.int x) :: r) st := by subst hz; exact G.iincG hd rfl rfl f
theorem Good.istore19 (G : Good Z a0 EL K own code maxL ret nm) {x0 x1 x2 x3 x4 x5 x6 x7 x8 x9 x10 x11 x12 x13 x14 x15 x16 x17 x18 x19 : Slot} {r : List Slot} {x : Int32} (hd : Dc code pc (.istore 19) 2 pc') (f : Go Z EL nw R Post K h S k n pc' (x0 :: x1 :: x2 :: x3 :: x4 :: x5 :: x6 :: x7 :: x8 :: x9 :: x10 :: x11 :: x12 :: x13 :: x14 :: x15 :: x16 :: x17 :: x18 :: .val (.int x) :: r) st) (hl : storeLocals (x0 :: x1 :: x2 :: x3 :: x4 :: x5 :: x6 :: x7 :: x8 :: x9 :: x10 :: x11 :: x12 :: x13 :: x14 :: x15 :: x16 :: x17 :: x18 :: x19 :: r).toArray 19 (.int x) = some (x0 :: x1 :: x2 :: x3 :: x4 :: x5 :: x6 :: x7 :: x8 :: x9 :: x10 :: x11 :: x12 :: x13 :: x14 :: x15 :: x16 :: x17 :: x18 :: .val (.int x) :: r).toArray := by rfl) : Go Z EL nw R Post K h S k n pc (x0 :: x1 :: x2 :: x3 :: x4 :: x5 :: x6 :: x7 :: x8 :: x9 :: x10 :: x11 :: x12 :: x13 :: x14 :: x15 :: x16 :: x17 :: x18 :: x19 :: r) (.int x :: st) := G.istoreG hd hl f
theorem Good.astore19 (G : Good Z a0 EL K own code maxL ret nm) {x0 x1 x2 x3 x4 x5 x6 x7 x8 x9 x10 x11 x12 x13 x14 x15 x16 x17 x18 x19 : Slot} {r : List Slot} {x : Value} (hd : Dc code pc (.astore 19) 2 pc') (f : Go Z EL nw R Post K h S k n pc' (x0 :: x1 :: x2 :: x3 :: x4 :: x5 :: x6 :: x7 :: x8 :: x9 :: x10 :: x11 :: x12 :: x13 :: x14 :: x15 :: x16 :: x17 :: x18 :: .val x :: r) st) (hv : x.isRef = true := by rfl) (hl : storeLocals (x0 :: x1 :: x2 :: x3 :: x4 :: x5 :: x6 :: x7 :: x8 :: x9 :: x10 :: x11 :: x12 :: x13 :: x14 :: x15 :: x16 :: x17 :: x18 :: x19 :: r).toArray 19 x = some (x0 :: x1 :: x2 :: x3 :: x4 :: x5 :: x6 :: x7 :: x8 :: x9 :: x10 :: x11 :: x12 :: x13 :: x14 :: x15 :: x16 :: x17 :: x18 :: .val x :: r).toArray := by rfl) : Go Z EL nw R Post K h S k n pc (x0 :: x1 :: x2 :: x3 :: x4 :: x5 :: x6 :: x7 :: x8 :: x9 :: x10 :: x11 :: x12 :: x13 :: x14 :: x15 :: x16 :: x17 :: x18 :: x19 :: r) (x :: st) := G.astoreG hd hv hl f
theorem Good.lstore19 (G : Good Z a0 EL K own code maxL ret nm) {x0 x1 x2 x3 x4 x5 x6 x7 x8 x9 x10 x11 x12 x13 x14 x15 x16 x17 x18 x19 y : Slot} {r : List Slot} {x : Int64} (hd : Dc code pc (.lstore 19) 2 pc') (f : Go Z EL nw R Post K h S k n pc' (x0 :: x1 :: x2 :: x3 :: x4 :: x5 :: x6 :: x7 :: x8 :: x9 :: x10 :: x11 :: x12 :: x13 :: x14 :: x15 :: x16 :: x17 :: x18 :: .val (.long x) :: .second :: r) st) (hl : storeLocals (x0 :: x1 :: x2 :: x3 :: x4 :: x5 :: x6 :: x7 :: x8 :: x9 :: x10 :: x11 :: x12 :: x13 :: x14 :: x15 :: x16 :: x17 :: x18 :: x19 :: y :: r).toArray 19 (.long x) = some (x0 :: x1 :: x2 :: x3 :: x4 :: x5 :: x6 :: x7 :: x8 :: x9 :: x10 :: x11 :: x12 :: x13 :: x14 :: x15 :: x16 :: x17 :: x18 :: .val (.long x) :: .second :: r).toArray := by rfl) : Go Z EL nw R Post K h S k n pc (x0 :: x1 :: x2 :: x3 :: x4 :: x5 :: x6 :: x7 :: x8 :: x9 :: x10 :: x11 :: x12 :: x13 :: x14 :: x15 :: x16 :: x17 :: x18 :: x19 :: y :: r) (.long x :: st) := G.lstoreG hd hl f
theorem Good.iinc19 (G : Good Z a0 EL K own code maxL ret nm) (z : Int32) {x0 x1 x2 x3 x4 x5 x6 x7 x8 x9 x10 x11 x12 x13 x14 x15 x16 x17 x18 : Slot} {r : List Slot} {c : Int} {x : Int32} (hd : Dc code pc (.iinc 19 c) 3 pc') (f : Go Z EL nw R Post K h S k n pc' (x0 :: x1 :: x2 :: x3 :: x4 :: x5 :: x6 :: x7 :: x8 :: x9 :: x10 :: x11 :: x12 :: x13 :: x14 :: x15 :: x16 :: x17 :: x18 :: .val (.int (x + z)) :: r) st) (hz : Int32.ofInt c = z := by decide) : Go Z EL nw R Post K h S k n pc (x0 :: x1 :: x2 :: x3 :: x4 :: x5 :: x6 :: x7 :: x8 :: x9 :: x10 :: x11 :: x12 :: x13 :: x14 :: x15 :: x16 :: x17 :: x18 :: .val (.int x) :: r) st := by subst hz; exact G.iincG hd rfl rfl f
theorem Good.istore20 (G : Good Z a0 EL K own code maxL ret nm) {x0 x1 x2 x3 x4 x5 x6 x7 x8 x9 x10 x11 x12 x13 x14 x15 x16 x17 x18 x19 x20 : Slot} {r : List Slot} {x : Int32} (hd : Dc code pc (.istore 20) 2 pc') (f : Go Z EL nw R Post K h S k n pc' (x0 :: x1 :: x2 :: x3 :: x4 :: x5 :: x6 :: x7 :: x8 :: x9 :: x10 :: x11 :: x12 :: x13 :: x14 :: x15 :: x16 :: x17 :: x18 :: x19 :: .val (.int x) :: r) st) (hl : storeLocals (x0 :: x1 :: x2 :: x3 :: x4 :: x5 :: x6 :: x7 :: x8 :: x9 :: x10 :: x11 :: x12 :: x13 :: x14 :: x15 :: x16 :: x17 :: x18 :: x19 :: x20 :: r).toArray 20 (.int x) = some (x0 :: x1 :: x2 :: x3 :: x4 :: x5 :: x6 :: x7 :: x8 :: x9 :: x10 :: x11 :: x12 :: x13 :: x14 :: x15 :: x16 :: x17 :: x18 :: x19 :: .val (.int x) :: r).toArray := by rfl) : Go Z EL nw R Post K h S k n pc (x0 :: x1 :: x2 :: x3 :: x4 :: x5 :: x6 :: x7 :: x8 :: x9 :: x10 :: x11 :: x12 :: x13 :: x14 :: x15 :: x16 :: x17 :: x18 :: x19 :: x20 :: r) (.int x :: st) := G.istoreG hd hl f
theorem Good.astore20 (G : Good Z a0 EL K own code maxL ret nm) {x0 x1 x2 x3 x4 x5 x6 x7 x8 x9 x10 x11 x12 x13 x14 x15 x16 x17 x18 x19 x20 : Slot} {r : List Slot} {x : Value} (hd : Dc code pc (.astore 20) 2 pc') (f : Go Z EL nw R Post K h S k n pc' (x0 :: x1 :: x2 :: x3 :: x4 :: x5 :: x6 :: x7 :: x8 :: x9 :: x10 :: x11 :: x12 :: x13 :: x14 :: x15 :: x16 :: x17 :: x18 :: x19 :: .val x :: r) st) (hv : x.isRef = true := by rfl) (hl : storeLocals (x0 :: x1 :: x2 :: x3 :: x4 :: x5 :: x6 :: x7 :: x8 :: x9 :: x10 :: x11 :: x12 :: x13 :: x14 :: x15 :: x16 :: x17 :: x18 :: x19 :: x20 :: r).toArray 20 x = some (x0 :: x1 :: x2 :: x3 :: x4 :: x5 :: x6 :: x7 :: x8 :: x9 :: x10 :: x11 :: x12 :: x13 :: x14 :: x15 :: x16 :: x17 :: x18 :: x19 :: .val x :: r).toArray := by rfl) : Go Z EL nw R Post K h S k n pc (x0 :: x1 :: x2 :: x3 :: x4 :: x5 :: x6 :: x7 :: x8 :: x9 :: x10 :: x11 :: x12 :: x13 :: x14 :: x15 :: x16 :: x17 :: x18 :: x19 :: x20 :: r) (x :: st) := G.astoreG hd hv hl f
theorem Good.lstore20 (G : Good Z a0 EL K own code maxL ret nm) {x0 x1 x2 x3 x4 x5 x6 x7 x8 x9 x10 x11 x12 x13 x14 x15 x16 x17 x18 x19 x20 y : Slot} {r : List Slot} {x : Int64} (hd : Dc code pc (.lstore 20) 2 pc') (f : Go Z EL nw R Post K h S k n pc' (x0 :: x1 :: x2 :: x3 :: x4 :: x5 :: x6 :: x7 :: x8 :: x9 :: x10 :: x11 :: x12 :: x13 :: x14 :: x15 :: x16 :: x17 :: x18 :: x19 :: .val (.long x) :: .second :: r) st) (hl : storeLocals (x0 :: x1 :: x2 :: x3 :: x4 :: x5 :: x6 :: x7 :: x8 :: x9 :: x10 :: x11 :: x12 :: x13 :: x14 :: x15 :: x16 :: x17 :: x18 :: x19 :: x20 :: y :: r).toArray 20 (.long x) = some (x0 :: x1 :: x2 :: x3 :: x4 :: x5 :: x6 :: x7 :: x8 :: x9 :: x10 :: x11 :: x12 :: x13 :: x14 :: x15 :: x16 :: x17 :: x18 :: x19 :: .val (.long x) :: .second :: r).toArray := by rfl) : Go Z EL nw R Post K h S k n pc (x0 :: x1 :: x2 :: x3 :: x4 :: x5 :: x6 :: x7 :: x8 :: x9 :: x10 :: x11 :: x12 :: x13 :: x14 :: x15 :: x16 :: x17 :: x18 :: x19 :: x20 :: y :: r) (.long x :: st) := G.lstoreG hd hl f
theorem Good.iinc20 (G : Good Z a0 EL K own code maxL ret nm) (z : Int32) {x0 x1 x2 x3 x4 x5 x6 x7 x8 x9 x10 x11 x12 x13 x14 x15 x16 x17 x18 x19 : Slot} {r : List Slot} {c : Int} {x : Int32} (hd : Dc code pc (.iinc 20 c) 3 pc') (f : Go Z EL nw R Post K h S k n pc' (x0 :: x1 :: x2 :: x3 :: x4 :: x5 :: x6 :: x7 :: x8 :: x9 :: x10 :: x11 :: x12 :: x13 :: x14 :: x15 :: x16 :: x17 :: x18 :: x19 :: .val (.int (x + z)) :: r) st) (hz : Int32.ofInt c = z := by decide) : Go Z EL nw R Post K h S k n pc (x0 :: x1 :: x2 :: x3 :: x4 :: x5 :: x6 :: x7 :: x8 :: x9 :: x10 :: x11 :: x12 :: x13 :: x14 :: x15 :: x16 :: x17 :: x18 :: x19 :: .val (.int x) :: r) st := by subst hz; exact G.iincG hd rfl rfl f
theorem Good.istore21 (G : Good Z a0 EL K own code maxL ret nm) {x0 x1 x2 x3 x4 x5 x6 x7 x8 x9 x10 x11 x12 x13 x14 x15 x16 x17 x18 x19 x20 x21 : Slot} {r : List Slot} {x : Int32} (hd : Dc code pc (.istore 21) 2 pc') (f : Go Z EL nw R Post K h S k n pc' (x0 :: x1 :: x2 :: x3 :: x4 :: x5 :: x6 :: x7 :: x8 :: x9 :: x10 :: x11 :: x12 :: x13 :: x14 :: x15 :: x16 :: x17 :: x18 :: x19 :: x20 :: .val (.int x) :: r) st) (hl : storeLocals (x0 :: x1 :: x2 :: x3 :: x4 :: x5 :: x6 :: x7 :: x8 :: x9 :: x10 :: x11 :: x12 :: x13 :: x14 :: x15 :: x16 :: x17 :: x18 :: x19 :: x20 :: x21 :: r).toArray 21 (.int x) = some (x0 :: x1 :: x2 :: x3 :: x4 :: x5 :: x6 :: x7 :: x8 :: x9 :: x10 :: x11 :: x12 :: x13 :: x14 :: x15 :: x16 :: x17 :: x18 :: x19 :: x20 :: .val (.int x) :: r).toArray := by rfl) : Go Z EL nw R Post K h S k n pc (x0 :: x1 :: x2 :: x3 :: x4 :: x5 :: x6 :: x7 :: x8 :: x9 :: x10 :: x11 :: x12 :: x13 :: x14 :: x15 :: x16 :: x17 :: x18 :: x19 :: x20 :: x21 :: r) (.int x :: st) := G.istoreG hd hl f
theorem Good.astore21 (G : Good Z a0 EL K own code maxL ret nm) {x0 x1 x2 x3 x4 x5 x6 x7 x8 x9 x10 x11 x12 x13 x14 x15 x16 x17 x18 x19 x20 x21 : Slot} {r : List Slot} {x : Value} (hd : Dc code pc (.astore 21) 2 pc') (f : Go Z EL nw R Post K h S k n pc' (x0 :: x1 :: x2 :: x3 :: x4 :: x5 :: x6 :: x7 :: x8 :: x9 :: x10 :: x11 :: x12 :: x13 :: x14 :: x15 :: x16 :: x17 :: x18 :: x19 :: x20 :: .val x :: r) st) (hv : x.isRef = true := by rfl) (hl : storeLocals (x0 :: x1 :: x2 :: x3 :: x4 :: x5 :: x6 :: x7 :: x8 :: x9 :: x10 :: x11 :: x12 :: x13 :: x14 :: x15 :: x16 :: x17 :: x18 :: x19 :: x20 :: x21 :: r).toArray 21 x = some (x0 :: x1 :: x2 :: x3 :: x4 :: x5 :: x6 :: x7 :: x8 :: x9 :: x10 :: x11 :: x12 :: x13 :: x14 :: x15 :: x16 :: x17 :: x18 :: x19 :: x20 :: .val x :: r).toArray := by rfl) : Go Z EL nw R Post K h S k n pc (x0 :: x1 :: x2 :: x3 :: x4 :: x5 :: x6 :: x7 :: x8 :: x9 :: x10 :: x11 :: x12 :: x13 :: x14 :: x15 :: x16 :: x17 :: x18 :: x19 :: x20 :: x21 :: r) (x :: st) := G.astoreG hd hv hl f
theorem Good.lstore21 (G : Good Z a0 EL K own code maxL ret nm) {x0 x1 x2 x3 x4 x5 x6 x7 x8 x9 x10 x11 x12 x13 x14 x15 x16 x17 x18 x19 x20 x21 y : Slot} {r : List Slot} {x : Int64} (hd : Dc code pc (.lstore 21) 2 pc') (f : Go Z EL nw R Post K h S k n pc' (x0 :: x1 :: x2 :: x3 :: x4 :: x5 :: x6 :: x7 :: x8 :: x9 :: x10 :: x11 :: x12 :: x13 :: x14 :: x15 :: x16 :: x17 :: x18 :: x19 :: x20 :: .val (.long x) :: .second :: r) st) (hl : storeLocals (x0 :: x1 :: x2 :: x3 :: x4 :: x5 :: x6 :: x7 :: x8 :: x9 :: x10 :: x11 :: x12 :: x13 :: x14 :: x15 :: x16 :: x17 :: x18 :: x19 :: x20 :: x21 :: y :: r).toArray 21 (.long x) = some (x0 :: x1 :: x2 :: x3 :: x4 :: x5 :: x6 :: x7 :: x8 :: x9 :: x10 :: x11 :: x12 :: x13 :: x14 :: x15 :: x16 :: x17 :: x18 :: x19 :: x20 :: .val (.long x) :: .second :: r).toArray := by rfl) : Go Z EL nw R Post K h S k n pc (x0 :: x1 :: x2 :: x3 :: x4 :: x5 :: x6 :: x7 :: x8 :: x9 :: x10 :: x11 :: x12 :: x13 :: x14 :: x15 :: x16 :: x17 :: x18 :: x19 :: x20 :: x21 :: y :: r) (.long x :: st) := G.lstoreG hd hl f
theorem Good.iinc21 (G : Good Z a0 EL K own code maxL ret nm) (z : Int32) {x0 x1 x2 x3 x4 x5 x6 x7 x8 x9 x10 x11 x12 x13 x14 x15 x16 x17 x18 x19 x20 : Slot} {r : List Slot} {c : Int} {x : Int32} (hd : Dc code pc (.iinc 21 c) 3 pc') (f : Go Z EL nw R Post K h S k n pc' (x0 :: x1 :: x2 :: x3 :: x4 :: x5 :: x6 :: x7 :: x8 :: x9 :: x10 :: x11 :: x12 :: x13 :: x14 :: x15 :: x16 :: x17 :: x18 :: x19 :: x20 :: .val (.int (x + z)) :: r) st) (hz : Int32.ofInt c = z := by decide) : Go Z EL nw R Post K h S k n pc (x0 :: x1 :: x2 :: x3 :: x4 :: x5 :: x6 :: x7 :: x8 :: x9 :: x10 :: x11 :: x12 :: x13 :: x14 :: x15 :: x16 :: x17 :: x18 :: x19 :: x20 :: .val (.int x) :: r) st := by subst hz; exact G.iincG hd rfl rfl f
end Plain
end Jvm.Own
namespace Jvm.Own
open Jvm Jvm.ClassFile Sem Op Lib Jvm.Free Jvm.Stand Jvm.LawKit Jvm.RoadKit Bundle
/-- the array at a holds just these values -/
def Al (Z : State) (h : Heap) (a : Addr) (ty : FieldType) (vs : List Value) : Prop := ∃ c : Cell, Arr Z h a c ty ∧ c.slots = vs.toArray ∧ vs.length < 2147483648 ∧ ∀ v ∈ vs, fits ty v = true
section AlFacts
variable {Z : State} {h h' : Heap} {a b : Addr} {ty : FieldType} {vs : List Value} {ws : List Addr} {sl : Nat} {v : Value} {C : String}
theorem Al.lt (F : Al Z h a ty vs) : a < h.size := by obtain ⟨c, A, -⟩ := F; exact A.lt
theorem Al.ext (F : Al Z h a ty vs) (E : Ext h h') : Al Z h' a ty vs := by obtain ⟨c, A, r⟩ := F; exact ⟨c, A.ext E, r⟩
theorem Al.other (F : Al Z h b ty vs) (W : Wr h h' a sl v) (q : b ≠ a) : Al Z h' b ty vs := by obtain ⟨c, A, r⟩ := F; exact ⟨c, A.other W q, r⟩
theorem Al.keep (F : Al Z h a ty vs) (K : Keep h h' ws) (q : a ∉ ws) : Al Z h' a ty vs := by obtain ⟨c, A, r⟩ := F; exact ⟨c, ⟨K.2.1 a c A.1 q, A.2⟩, r⟩
theorem Al.set (F : Al Z h a ty vs) (W : Wr h h' a sl v) (hv : fits ty v = true) : Al Z h' a ty (vs.set sl v) := by
  obtain ⟨c, A, r1, r2, r3⟩ := F
  refine ⟨_, A.same W, by simp [Cell.setSlot, r1], by simpa using r2, fun w hw => ?_⟩
  rcases List.mem_or_eq_of_mem_set hw with q | q
  · exact r3 w q
  · rw [q]; exact hv
theorem Al.len (F : Al Z h a ty vs) : vs.length < 2147483648 := by obtain ⟨c, A, r1, r2, r3⟩ := F; exact r2
theorem Al.arv (F : Al Z h a ty vs) (d : Value) : ∃ k, Arv Z h a k ty (Int32.ofNat vs.length) vs d := by
  obtain ⟨c, A, r1, r2, r3⟩ := F
  have e : (Int32.ofNat vs.length).toInt = (vs.length : Int) := len_toInt r2
  have e1 := back32 (n := Int32.ofNat vs.length) (by rw [Int32.lt_iff_toInt_lt, e]; simp)
  have e2 : (Int32.ofNat vs.length).toNatClampNeg = vs.length := by simp [Int32.toNatClampNeg, e]
  refine ⟨c.cls, c, A, rfl, by rw [r1, e2]; simp, by rw [Int32.lt_iff_toInt_lt, e]; simp, fun i hi => ?_, fun i hi => ?_⟩
  · rw [r1] at hi ⊢
    simp only [List.size_toArray] at hi
    simp [List.getD_eq_getElem?_getD, hi]
  · rw [r1] at hi
    simp only [List.size_toArray] at hi
    have : vs.getD i d = vs[i] := by simp [List.getD_eq_getElem?_getD, hi]
    rw [this]
    exact r3 _ (List.getElem_mem hi)
theorem Al.of_arv {k : ClassId} {z : Int32} {d : Value} (F : Arv Z h a k ty z vs d) (hl : z.toNatClampNeg = vs.length) : Al Z h a ty vs := by
  obtain ⟨c, A, r1, r2, r3, H, G⟩ := F
  have hs : c.slots.size = vs.length := r2.trans hl
  refine ⟨c, A, ?_, by rw [← hl]; exact (back32 r3).2, fun v hv => ?_⟩
  · apply Array.ext
    · simp [hs]
    · intro i h1 h2
      have q := H i h1
      rw [Array.getElem?_eq_getElem h1] at q
      have q' := Option.some.inj q
      rw [q']
      have h3 : i < vs.length := by rw [← hs]; exact h1
      simp [List.getD_eq_getElem?_getD, h3]
  · obtain ⟨i, hi, rfl⟩ := List.getElem_of_mem hv
    have := G i (by rw [hs]; exact hi)
    simpa [List.getD_eq_getElem?_getD, hi] using this
theorem Al.same {vs' : List Value} (F : Al Z h a ty vs) (G : Al Z h a ty vs') : vs = vs' := by
  obtain ⟨c, A, r1, -⟩ := F
  obtain ⟨c', A', r1', -⟩ := G
  have e := A.1.symm.trans A'.1
  cases e
  have := r1.symm.trans r1'
  simpa using this
theorem Al.neExa {a0 : Array Value} {cnt : Nat} (F : Al Z h b ty vs) (E : Exa Z h a C) (wi : (Cond.instantiable C cnt).before a0 Z = true) : a ≠ b := by
  obtain ⟨c, A, -⟩ := F; exact ne_arr E wi A
theorem ext_keep (E : Ext h h') (ws : List Addr) : Keep h h' ws := (Keep.refl h ws).ext E
theorem keep_nil_ext (K : Keep h h' []) : Ext h h' := ⟨K.1, fun a c q => K.2.1 a c q nin0⟩
theorem nat_idx {j : Int32} {i : Nat} (hj : j.toInt = (i : Int)) : ¬ j < 0 ∧ j.toNatClampNeg = i := by
  constructor
  · rw [Int32.lt_iff_toInt_lt, hj]; simp
  · simp [Int32.toNatClampNeg, hj]
theorem Sta.ext' {C n d : String} (E : Ext h h') (F : Sta Z h C n d v) : Sta Z h' C n d v := F.ext E
/-- a static's cell is none of the freshly made ones -/
theorem Sta.keep {C n d : String} (F : Sta Z h C n d v) (K : Keep h h' ws) (q : ∀ x ∈ ws, ∀ cell : Cell, h[x]? = some cell → cell.vm.isStatics = false) : Sta Z h' C n d v := by
  obtain ⟨cf, i, k, f, st, cell, h1, h2, h3, h4, h5, h6, r⟩ := F
  exact ⟨cf, i, k, f, st, cell, h1, h2, h3, h4, K.2.1 _ _ h5 (fun z => by have := q _ z _ h5; rw [h6] at this; cases this), h6, r⟩
/-- a static of the start stands, where all that was written is new -/
theorem Sta.old {C n d : String} (F : Sta Z Z.heap C n d v) (O : Ext Z.heap h) : Sta Z h C n d v := F.ext O
theorem Fld.oth {a0 : Array Value} {C O O' fn fn' d d' : String} {w : Value} (F : Fld Z h b O fn d w) (W : Wr h h' a (RoadKit.slotOf Z O' fn' d') v) (L1 : Laid Z a0 C O fn d) (L2 : Laid Z a0 C O' fn' d') (hn : fn ≠ fn') (h1 : (parseFieldDescriptor d).isSome = true) (h2 : (parseFieldDescriptor d').isSome = true) : Fld Z h' b O fn d w := by
  obtain ⟨t1, e1⟩ := Option.isSome_iff_exists.mp h1
  obtain ⟨t2, e2⟩ := Option.isSome_iff_exists.mp h2
  exact F.other W (Or.inr (slot_ne L1 L2 hn e1 e2))
end AlFacts
section Heap
variable {Z : State} {a0 : Array Value} {EL : List (String × Nat)} {nw : Bool} {R : Room} {Post : Pst} {K : Kx} {own : String} {code : ByteArray} {maxL : Nat} {ret : Option FieldType} {nm : String} {h h' : Heap} {S : List Addr} {k n pc pc' : Nat} {L : List Slot} {st : List Value} {l : Launch}
/-- a step that leaves the heap -/
theorem Go.calm {L' : List Slot} {st' : List Value} (G : Good Z a0 EL K own code maxL ret nm)
    (q : ∀ (T : State) (vm0 : Vm) (locs : List Loc), Stand K.p K.l K.e R (K.s.setVm vm0) K.m K.as K.below K.meth K.c T locs k n → Z.Warmed39 (K.s.setVm vm0).vm → (K.s.setVm vm0).vm.findClass own = some K.m.cls → T.heap = h →
      ∃ T', Stand K.p K.l K.e R (K.s.setVm vm0) K.m K.as K.below K.meth K.c T' locs k n ∧ T'.heap = h ∧ ∀ target, Steps K.p.tables K.e K.below (T'.setTop (mkF K.m pc' L'.toArray st')) target → Steps K.p.tables K.e K.below (T.setTop (mkF K.m pc L.toArray st)) target)
    (f : Go Z EL nw R Post K h S k n pc' L' st') : Go Z EL nw R Post K h S k n pc L st := fun T I => by
  obtain ⟨vm0, k0, locs, X, hS, hk0, hZ, e, r⟩ := I
  obtain ⟨T', X', e', stp⟩ := q T vm0 locs X hZ (G.hown hS) e
  exact (f T' ⟨vm0, k0, locs, X', hS, hk0, hZ, e', r⟩).step stp
/-- a step that makes one cell -/
theorem Go.grow {L' : List Slot} {st' : List Value} {k' n' : Nat} {P : Heap → Prop} (G : Good Z a0 EL K own code maxL ret nm)
    (q : ∀ (T : State) (vm0 : Vm) (locs : List Loc), Stand K.p K.l K.e R (K.s.setVm vm0) K.m K.as K.below K.meth K.c T locs k n → Z.Warmed39 (K.s.setVm vm0).vm → (K.s.setVm vm0).vm.findClass own = some K.m.cls → T.heap = h →
      ∃ T' h', Stand K.p K.l K.e R (K.s.setVm vm0) K.m K.as K.below K.meth K.c T' locs k' n' ∧ T'.heap = h' ∧ Ext h h' ∧ h.size < h'.size ∧ P h' ∧ ∀ target, Steps K.p.tables K.e K.below (T'.setTop (mkF K.m pc' L'.toArray st')) target → Steps K.p.tables K.e K.below (T.setTop (mkF K.m pc L.toArray st)) target)
    (f : ∀ h', Ext h h' → h.size < h'.size → P h' → Go Z EL nw R Post K h' (h.size :: S) k' n' pc' L' st') : Go Z EL nw R Post K h S k n pc L st := fun T I => by
  obtain ⟨vm0, k0, locs, X, hS, hk0, hZ, e, N, CH, hSf, hw, hO⟩ := I
  obtain ⟨T', h', X', e', E, hlt, hP, stp⟩ := q T vm0 locs X hZ (G.hown hS) e
  have hn0 : Z.heap.size ≤ h.size := hO.1
  refine (f h' E hlt hP T' ⟨vm0, k0, locs, X', hS, Nat.le_trans hk0 E.1, hZ, e', N, CH.trans (CHr.ext E CH.1), fun a ha => ?_, hw, ⟨Nat.le_trans hO.1 E.1, fun x c q => E.2 x c (hO.2 x c q)⟩⟩).step stp
  rcases List.mem_cons.mp ha with rfl | ha
  · exact ⟨hn0, hlt, Safe.ext E CH.1 (Safe.new (Nat.le_refl _))⟩
  · obtain ⟨b1, b2, b3⟩ := hSf a ha
    exact ⟨b1, Nat.lt_of_lt_of_le b2 E.1, Safe.ext E CH.1 b3⟩
/-- a step that writes one place of a cell of S -/
theorem Go.write {L' : List Slot} {st' : List Value} {a : Addr} {sl : Nat} {v : Value} (G : Good Z a0 EL K own code maxL ret nm) (ha : a ∈ S)
    (q : ∀ (T : State) (vm0 : Vm) (locs : List Loc), Stand K.p K.l K.e R (K.s.setVm vm0) K.m K.as K.below K.meth K.c T locs k n → Z.Warmed39 (K.s.setVm vm0).vm → (K.s.setVm vm0).vm.findClass own = some K.m.cls → T.heap = h →
      ∃ T' h', Stand K.p K.l K.e R (K.s.setVm vm0) K.m K.as K.below K.meth K.c T' (locs ++ [⟨a, sl⟩]) k n ∧ T'.heap = h' ∧ Wr h h' a sl v ∧ ∀ target, Steps K.p.tables K.e K.below (T'.setTop (mkF K.m pc' L'.toArray st')) target → Steps K.p.tables K.e K.below (T.setTop (mkF K.m pc L.toArray st)) target)
    (f : ∀ h', Wr h h' a sl v → Go Z EL nw R Post K h' S k n pc' L' st') : Go Z EL nw R Post K h S k n pc L st := fun T I => by
  obtain ⟨vm0, k0, locs, X, hS, hk0, hZ, e, N, CH, hSf, hw, hO⟩ := I
  obtain ⟨T', h', X', e', W, stp⟩ := q T vm0 locs X hZ (G.hown hS) e
  obtain ⟨c1, c2, c3⟩ := hSf a ha
  refine (f h' W T' ⟨vm0, k0, _, X', hS, by rw [W.size]; exact hk0, hZ, e', Fr.snoc X' N c1, CH.trans (CHr.wr W c3 CH.1), fun x hx => ?_, hw, ⟨by rw [W.size]; exact hO.1, fun x c q => (Keep.of_wr W).2.1 x c (hO.2 x c q) (fun z => by cases List.mem_singleton.mp z; exact absurd (Array.getElem?_eq_some_iff.mp q).1 (Nat.not_lt.mpr c1))⟩⟩).step stp
  obtain ⟨b1, b2, b3⟩ := hSf x hx
  exact ⟨b1, by rw [W.size]; exact b2, Safe.wr W c3 CH.1 b3⟩
theorem Good.getF (G : Good Z a0 EL K own code maxL ret nm) {R0 O fn d : String} {index : Nat} {a : Addr} {v : Value} (hd : Dc code pc (.getfield index) 3 pc') (w : (Cond.fieldLink own index R0 fn d).before a0 Z = true) (F : Fld Z h a O fn d v) (f : Go Z EL nw R Post K h S k n pc' L (v :: st)) (via : Via Z R0 O fn d := by exact Via.refl) : Go Z EL nw R Post K h S k n pc L (.ref a :: st) := by
  obtain ⟨hd, rfl⟩ := hd
  refine Go.calm G (fun T vm0 locs X hZ hown e => ?_) f
  exact getF X G.1 hZ hown (host := "") (Or.inl w) via e F (g := mkF K.m pc L.toArray (.ref a :: st)) rfl rfl (hb G.2.1 hd)
theorem Good.getS (G : Good Z a0 EL K own code maxL ret nm) {R0 O fn d : String} {index : Nat} {v : Value} (hd : Dc code pc (.getstatic index) 3 pc') (w : (Cond.fieldLink own index R0 fn d).before a0 Z = true) (F : Sta Z Z.heap O fn d v) (f : Go Z EL nw R Post K h S k n pc' L (v :: st)) (via : Via Z R0 O fn d := by exact Via.refl) : Go Z EL nw R Post K h S k n pc L st := by
  obtain ⟨hd, rfl⟩ := hd
  refine Go.oldIn fun hO => ?_
  have F := F.ext hO
  refine Go.calm G (fun T vm0 locs X hZ hown e => ?_) f
  exact getS X G.1 hZ hown (host := "") w via e F (g := mkF K.m pc L.toArray st) rfl (hb G.2.1 hd)
theorem Good.ldcI (G : Good Z a0 EL K own code maxL ret nm) {index : Nat} {v : Int32} (hd : Dc code pc (.ldc index) 2 pc') (w : (Cond.constant own index v).before a0 Z = true) (f : Go Z EL nw R Post K h S k n pc' L (.int v :: st)) : Go Z EL nw R Post K h S k n pc L st := by
  obtain ⟨hd, rfl⟩ := hd
  refine Go.calm G (fun T vm0 locs X hZ hown e => ⟨T, X, e, ?_⟩) f
  exact X.ldcInt G.1 hown (mvT hZ w) (g := mkF K.m pc L.toArray st) rfl (hb G.2.1 hd)
theorem Good.ldc2J (G : Good Z a0 EL K own code maxL ret nm) {index : Nat} {v : Int64} (hd : Dc code pc (.ldc2_w index) 3 pc') (w : (Cond.constantLong own index v).before a0 Z = true) (f : Go Z EL nw R Post K h S k n pc' L (.long v :: st)) : Go Z EL nw R Post K h S k n pc L st := by
  obtain ⟨hd, rfl⟩ := hd
  refine Go.calm G (fun T vm0 locs X hZ hown e => ⟨T, X, e, ?_⟩) f
  exact X.ldc2Long G.1 hown (mvT hZ w) (g := mkF K.m pc L.toArray st) rfl (hb G.2.1 hd)
theorem Good.castR (G : Good Z a0 EL K own code maxL ret nm) {C : String} {index : Nat} {a : Addr} (hd : Dc code pc (.checkcast index) 3 pc') (w : (Cond.classLink own index C).before a0 Z = true) (F : Ins Z h a C true) (f : Go Z EL nw R Post K h S k n pc' L (.ref a :: st)) : Go Z EL nw R Post K h S k n pc L (.ref a :: st) := by
  obtain ⟨hd, rfl⟩ := hd
  refine Go.calm G (fun T vm0 locs X hZ hown e => ?_) f
  exact castY X G.1 hZ hown w e F (g := mkF K.m pc L.toArray (.ref a :: st)) rfl rfl (hb G.2.1 hd)
theorem Good.instY (G : Good Z a0 EL K own code maxL ret nm) {C : String} {index : Nat} {a : Addr} (hd : Dc code pc (.instanceof index) 3 pc') (w : (Cond.classLink own index C).before a0 Z = true) (F : Ins Z h a C true) (f : Go Z EL nw R Post K h S k n pc' L (.int 1 :: st)) : Go Z EL nw R Post K h S k n pc L (.ref a :: st) := by
  obtain ⟨hd, rfl⟩ := hd
  refine Go.calm G (fun T vm0 locs X hZ hown e => ?_) f
  exact instY X G.1 hZ hown w e F (g := mkF K.m pc L.toArray (.ref a :: st)) rfl rfl (hb G.2.1 hd)
theorem Good.instNo (G : Good Z a0 EL K own code maxL ret nm) {C D : String} {index : Nat} {a : Addr} (hd : Dc code pc (.instanceof index) 3 pc') (w : (Cond.classLink own index C).before a0 Z = true) (E : Exa Z h a D) (F : ∃ c t, Z.vm.findClass D = some c ∧ Z.vm.findClass C = some t ∧ Z.vm.assignable c t = false) (f : Go Z EL nw R Post K h S k n pc' L (.int 0 :: st)) : Go Z EL nw R Post K h S k n pc L (.ref a :: st) := by
  obtain ⟨hd, rfl⟩ := hd
  refine Go.calm G (fun T vm0 locs X hZ hown e => ?_) f
  exact instNo X G.1 hZ hown w e E F (g := mkF K.m pc L.toArray (.ref a :: st)) rfl rfl (hb G.2.1 hd)
theorem Good.instNull (G : Good Z a0 EL K own code maxL ret nm) {index : Nat} (hd : Dc code pc (.instanceof index) 3 pc') (f : Go Z EL nw R Post K h S k n pc' L (.int 0 :: st)) : Go Z EL nw R Post K h S k n pc L (.null :: st) := by
  obtain ⟨hd, rfl⟩ := hd
  refine Go.calm G (fun T vm0 locs X hZ hown e => ⟨T, X, e, ?_⟩) f
  exact X.instanceofNull G.1 (g := mkF K.m pc L.toArray (.null :: st)) rfl rfl (hb G.2.1 hd)
theorem Good.castNull (G : Good Z a0 EL K own code maxL ret nm) {index : Nat} (hd : Dc code pc (.checkcast index) 3 pc') (f : Go Z EL nw R Post K h S k n pc' L (.null :: st)) : Go Z EL nw R Post K h S k n pc L (.null :: st) := by
  obtain ⟨hd, rfl⟩ := hd
  refine Go.calm G (fun T vm0 locs X hZ hown e => ⟨T, X, e, ?_⟩) f
  exact X.checkcastNull G.1 (g := mkF K.m pc L.toArray (.null :: st)) rfl rfl (hb G.2.1 hd)
theorem Good.alen (G : Good Z a0 EL K own code maxL ret nm) {a : Addr} {ty : FieldType} {vs : List Value} (z : Int32) (hd : Dc code pc .arraylength 1 pc') (A : Al Z h a ty vs) (hz : z.toInt = (vs.length : Int)) (f : Go Z EL nw R Post K h S k n pc' L (.int z :: st)) : Go Z EL nw R Post K h S k n pc L (.ref a :: st) := by
  obtain ⟨hd, rfl⟩ := hd
  obtain ⟨c, A1, A2, A3, A4⟩ := A
  have ez : c.slots.size.toInt32 = z := by
    apply Int32.toInt_inj.mp
    rw [hz, A2]
    simp only [List.size_toArray]
    exact len_toInt A3
  refine Go.calm G (fun T vm0 locs X hZ hown e => ⟨T, X, e, fun t q => ?_⟩) f
  refine X.arraylength G.1 (by rw [e]; exact A1.1) (State.isArrayOf_alike hZ.alike A1.2.1) (g := mkF K.m pc L.toArray (.ref a :: st)) rfl rfl (hb G.2.1 hd) t ?_
  rw [ez]; exact q
theorem Good.caload (G : Good Z a0 EL K own code maxL ret nm) {a : Addr} {vs : List Value} {j : Int32} {i : Nat} {v : Value} (hd : Dc code pc .caload 1 pc') (A : Al Z h a .char vs) (hj : j.toInt = (i : Int)) (hv : vs[i]? = some v) (f : Go Z EL nw R Post K h S k n pc' L (v :: st)) : Go Z EL nw R Post K h S k n pc L (.int j :: .ref a :: st) := by
  obtain ⟨hd, rfl⟩ := hd
  obtain ⟨c, A1, A2, A3, A4⟩ := A
  obtain ⟨j1, j2⟩ := nat_idx hj
  have hlt := (List.getElem?_eq_some_iff.mp hv).1
  refine Go.calm G (fun T vm0 locs X hZ hown e => ⟨T, X, e, fun t q => ?_⟩) f
  exact X.caload G.1 (by rw [e]; exact A1.1) (State.isArrayOf_alike hZ.alike A1.2.1) A1.2.2 (by rw [j2, A2]; simp only [List.size_toArray]; rintro (q | q); exact j1 q; omega) (by rw [j2, A2]; simpa using hv) (g := mkF K.m pc L.toArray (.int j :: .ref a :: st)) rfl rfl (hb G.2.1 hd) t q
theorem Good.baload (G : Good Z a0 EL K own code maxL ret nm) {a : Addr} {vs : List Value} {j : Int32} {i : Nat} {v : Value} (hd : Dc code pc .baload 1 pc') (A : Al Z h a .byte vs) (hj : j.toInt = (i : Int)) (hv : vs[i]? = some v) (f : Go Z EL nw R Post K h S k n pc' L (v :: st)) : Go Z EL nw R Post K h S k n pc L (.int j :: .ref a :: st) := by
  obtain ⟨hd, rfl⟩ := hd
  obtain ⟨c, A1, A2, A3, A4⟩ := A
  obtain ⟨j1, j2⟩ := nat_idx hj
  have hlt := (List.getElem?_eq_some_iff.mp hv).1
  refine Go.calm G (fun T vm0 locs X hZ hown e => ⟨T, X, e, fun t q => ?_⟩) f
  exact X.baloadBytes G.1 (by rw [e]; exact A1.1) (State.isArrayOf_alike hZ.alike A1.2.1) A1.2.2 (by rw [j2, A2]; simp only [List.size_toArray]; rintro (q | q); exact j1 q; omega) (by rw [j2, A2]; simpa using hv) (g := mkF K.m pc L.toArray (.int j :: .ref a :: st)) rfl rfl (hb G.2.1 hd) t q
theorem Good.laload (G : Good Z a0 EL K own code maxL ret nm) {a : Addr} {vs : List Value} {j : Int32} {i : Nat} {v : Value} (hd : Dc code pc .laload 1 pc') (A : Al Z h a .long vs) (hj : j.toInt = (i : Int)) (hv : vs[i]? = some v) (f : Go Z EL nw R Post K h S k n pc' L (v :: st)) : Go Z EL nw R Post K h S k n pc L (.int j :: .ref a :: st) := by
  obtain ⟨hd, rfl⟩ := hd
  obtain ⟨c, A1, A2, A3, A4⟩ := A
  obtain ⟨j1, j2⟩ := nat_idx hj
  have hlt := (List.getElem?_eq_some_iff.mp hv).1
  refine Go.calm G (fun T vm0 locs X hZ hown e => ⟨T, X, e, fun t q => ?_⟩) f
  exact X.laload G.1 (by rw [e]; exact A1.1) (State.isArrayOf_alike hZ.alike A1.2.1) A1.2.2 (by rw [j2, A2]; simp only [List.size_toArray]; rintro (q | q); exact j1 q; omega) (by rw [j2, A2]; simpa using hv) (g := mkF K.m pc L.toArray (.int j :: .ref a :: st)) rfl rfl (hb G.2.1 hd) t q
theorem Good.aaload (G : Good Z a0 EL K own code maxL ret nm) {a : Addr} {ty : FieldType} {vs : List Value} {j : Int32} {i : Nat} {v : Value} (hd : Dc code pc .aaload 1 pc') (A : Al Z h a ty vs) (hty : ty.isReference = true) (hj : j.toInt = (i : Int)) (hv : vs[i]? = some v) (f : Go Z EL nw R Post K h S k n pc' L (v :: st)) : Go Z EL nw R Post K h S k n pc L (.int j :: .ref a :: st) := by
  obtain ⟨hd, rfl⟩ := hd
  obtain ⟨c, A1, A2, A3, A4⟩ := A
  obtain ⟨j1, j2⟩ := nat_idx hj
  have hlt := (List.getElem?_eq_some_iff.mp hv).1
  refine Go.calm G (fun T vm0 locs X hZ hown e => ⟨T, X, e, fun t q => ?_⟩) f
  exact X.aaload G.1 (by rw [e]; exact A1.1) (State.isArrayOf_alike hZ.alike A1.2.1) hty A1.2.2 (by rw [j2, A2]; simp only [List.size_toArray]; rintro (q | q); exact j1 q; omega) (by rw [j2, A2]; simpa using hv) (g := mkF K.m pc L.toArray (.int j :: .ref a :: st)) rfl rfl (hb G.2.1 hd) t q
theorem Good.castore (G : Good Z a0 EL K own code maxL ret nm) {a : Addr} {vs : List Value} {j x : Int32} {i : Nat} (hd : Dc code pc .castore 1 pc') (ha : a ∈ S) (A : Al Z h a .char vs) (hj : j.toInt = (i : Int)) (hi : i < vs.length) (f : ∀ h', Wr h h' a i (.int (nar .char x)) → Al Z h' a .char (vs.set i (.int (nar .char x))) → Go Z EL nw R Post K h' S k n pc' L st) : Go Z EL nw R Post K h S k n pc L (.int x :: .int j :: .ref a :: st) := by
  obtain ⟨hd, rfl⟩ := hd
  obtain ⟨c, A1, A2, A3, A4⟩ := id A
  obtain ⟨j1, j2⟩ := nat_idx hj
  subst j2
  refine Go.write G ha (fun T vm0 locs X hZ hown e => ?_) (fun h' W => f h' W (A.set W (fits_nar_char _)))
  exact stC X G.1 hZ e A1 (by rw [A2]; simp only [List.size_toArray]; rintro (q | q); exact j1 q; omega) (g := mkF K.m pc L.toArray (.int x :: .int j :: .ref a :: st)) rfl rfl (hb G.2.1 hd)
theorem Good.bastore (G : Good Z a0 EL K own code maxL ret nm) {a : Addr} {vs : List Value} {j x : Int32} {i : Nat} (hd : Dc code pc .bastore 1 pc') (ha : a ∈ S) (A : Al Z h a .byte vs) (hj : j.toInt = (i : Int)) (hi : i < vs.length) (f : ∀ h', Wr h h' a i (.int (nar .byte x)) → Al Z h' a .byte (vs.set i (.int (nar .byte x))) → Go Z EL nw R Post K h' S k n pc' L st) : Go Z EL nw R Post K h S k n pc L (.int x :: .int j :: .ref a :: st) := by
  obtain ⟨hd, rfl⟩ := hd
  obtain ⟨c, A1, A2, A3, A4⟩ := id A
  obtain ⟨j1, j2⟩ := nat_idx hj
  subst j2
  refine Go.write G ha (fun T vm0 locs X hZ hown e => ?_) (fun h' W => f h' W (A.set W (fits_nar_byte _)))
  exact stB X G.1 hZ e A1 (by rw [A2]; simp only [List.size_toArray]; rintro (q | q); exact j1 q; omega) (g := mkF K.m pc L.toArray (.int x :: .int j :: .ref a :: st)) rfl rfl (hb G.2.1 hd)
theorem Good.lastore (G : Good Z a0 EL K own code maxL ret nm) {a : Addr} {vs : List Value} {j : Int32} {x : Int64} {i : Nat} (hd : Dc code pc .lastore 1 pc') (ha : a ∈ S) (A : Al Z h a .long vs) (hj : j.toInt = (i : Int)) (hi : i < vs.length) (f : ∀ h', Wr h h' a i (.long x) → Al Z h' a .long (vs.set i (.long x)) → Go Z EL nw R Post K h' S k n pc' L st) : Go Z EL nw R Post K h S k n pc L (.long x :: .int j :: .ref a :: st) := by
  obtain ⟨hd, rfl⟩ := hd
  obtain ⟨c, A1, A2, A3, A4⟩ := id A
  obtain ⟨j1, j2⟩ := nat_idx hj
  subst j2
  refine Go.write G ha (fun T vm0 locs X hZ hown e => ?_) (fun h' W => f h' W (A.set W rfl))
  exact stJ X G.1 hZ e A1 (by rw [A2]; simp only [List.size_toArray]; rintro (q | q); exact j1 q; omega) (g := mkF K.m pc L.toArray (.long x :: .int j :: .ref a :: st)) rfl rfl (hb G.2.1 hd)
theorem Good.aastore (G : Good Z a0 EL K own code maxL ret nm) {a : Addr} {ty : FieldType} {vs : List Value} {j : Int32} {v : Value} {i : Nat} (hd : Dc code pc .aastore 1 pc') (ha : a ∈ S) (A : Al Z h a ty vs) (hty : ty.isReference = true) (F : Sto Z h a v) (hfv : fits ty v = true) (hj : j.toInt = (i : Int)) (hi : i < vs.length) (f : ∀ h', Wr h h' a i v → Al Z h' a ty (vs.set i v) → Go Z EL nw R Post K h' S k n pc' L st) : Go Z EL nw R Post K h S k n pc L (v :: .int j :: .ref a :: st) := by
  obtain ⟨hd, rfl⟩ := hd
  obtain ⟨c, A1, A2, A3, A4⟩ := id A
  obtain ⟨j1, j2⟩ := nat_idx hj
  subst j2
  refine Go.write G ha (fun T vm0 locs X hZ hown e => ?_) (fun h' W => f h' W (A.set W hfv))
  exact stR X G.1 hZ e A1 (by rw [A2]; simp only [List.size_toArray]; rintro (q | q); exact j1 q; omega) hty F (g := mkF K.m pc L.toArray (v :: .int j :: .ref a :: st)) rfl rfl (hb G.2.1 hd)
theorem Good.putF (G : Good Z a0 EL K own code maxL ret nm) {R0 O fn d C : String} {index kk : Nat} {ty : FieldType} {a : Addr} {v old : Value} (hd : Dc code pc (.putfield index) 3 pc') (w : (Cond.fieldLink own index R0 fn d).before a0 Z = true) (F : Fld Z h a O fn d old) (E : Exa Z h a C) (ha : a ∈ S)
    (Ly : (Cond.lays C O fn d).before a0 Z = true ∨ ((Cond.laysFinal C O fn d).before a0 Z = true ∧ own = O ∧ nm = "<init>")) (wi : (Cond.instantiable C kk).before a0 Z = true) (hty : parseFieldDescriptor d = some ty) (hn : narrow ty v = v) (hf : fits ty v = true)
    (f : ∀ h', Wr h h' a (RoadKit.slotOf Z O fn d) v → Fld Z h' a O fn d v → Exa Z h' a C → Go Z EL nw R Post K h' S k n pc' L st) (via : Via Z R0 O fn d := by exact Via.refl) : Go Z EL nw R Post K h S k n pc L (v :: .ref a :: st) := by
  obtain ⟨hd, rfl⟩ := hd
  refine Go.write G ha (fun T vm0 locs X hZ hown e => ?_) (fun h' W => f h' W (F.same W) (E.wr W))
  exact putF X G.1 hZ hown (host := "") (Or.inl w) via e F E (Ly.imp id fun q => ⟨q.1, q.2.1, G.2.2.2.2.2.1.trans q.2.2⟩) wi hty hn hf (g := mkF K.m pc L.toArray (v :: .ref a :: st)) rfl rfl (hb G.2.1 hd)
theorem Good.newO (G : Good Z a0 EL K own code maxL ret nm) {C : String} {index cnt : Nat} (hd : Dc code pc (.new index) 3 pc') (w : (Cond.classLink own index C).before a0 Z = true) (wi : (Cond.instantiable C cnt).before a0 Z = true) (wz : (Cond.initialized C).before a0 Z = true)
    (f : ∀ h', Ext h h' → h.size < h'.size → (Exa Z h' h.size C ∧ ∀ {O fn d : String} {ty : FieldType}, Laid Z a0 C O fn d → parseFieldDescriptor d = some ty → Fld Z h' h.size O fn d (defaultValue ty)) → Go Z EL nw R Post K h' (h.size :: S) (k + 1) (n + cnt) pc' L (.ref h.size :: st)) (hc : k + 1 ≤ R.cells := by decide) (hl : n + cnt ≤ R.slots := by decide) : Go Z EL nw R Post K h S k n pc L st := by
  obtain ⟨hd, rfl⟩ := hd
  refine Go.grow G (fun T vm0 locs X hZ hown e => ?_) f
  obtain ⟨T', h', X', e', E, A, D, -, stp⟩ := newO X G.1 hZ hown w wi wz e (g := mkF K.m pc L.toArray st) rfl (hb G.2.1 hd) hc hl
  exact ⟨T', h', X', e', E, A.lt, ⟨A, D⟩, stp⟩
theorem Good.newA (G : Good Z a0 EL K own code maxL ret nm) {aty : ArrayType} {j : Int32} (i cap : Nat) (hd : Dc code pc (.newarray aty) 2 pc') (w : (Cond.arrayClass (newarray.typeOf aty)).before a0 Z = true) (hj : j.toInt = (i : Int)) (hi : i ≤ cap)
    (f : ∀ h', Ext h h' → h.size < h'.size → Al Z h' h.size (newarray.typeOf aty) (List.replicate i (defaultValue (newarray.typeOf aty))) → Go Z EL nw R Post K h' (h.size :: S) (k + 1) (n + cap) pc' L (.ref h.size :: st)) (hb' : cap * 8 ≤ 536870912 := by decide) (hc : k + 1 ≤ R.cells := by decide) (hl : n + cap ≤ R.slots := by decide) : Go Z EL nw R Post K h S k n pc L (.int j :: st) := by
  obtain ⟨hd, rfl⟩ := hd
  obtain ⟨j1, j2⟩ := nat_idx hj
  refine Go.grow G (fun T vm0 locs X hZ hown e => ?_) f
  obtain ⟨T', h', cA, X', e', E, A, stp⟩ := newP X G.1 hZ w e (g := mkF K.m pc L.toArray (.int j :: st)) rfl (hb G.2.1 hd) rfl j1 (by rw [j2]; exact hi) hb' hc hl
  exact ⟨T', h', X', e', E, A.lt, ⟨_, A, by simp [RoadKit.newA, j2], by simp; omega, fun v hv => by rw [List.eq_of_mem_replicate hv]; cases aty <;> rfl⟩, stp⟩
theorem Good.newR (G : Good Z a0 EL K own code maxL ret nm) {C : String} {index : Nat} {j : Int32} (i cap : Nat) (hd : Dc code pc (.anewarray index) 3 pc') (w1 : (Cond.classLink own index C).before a0 Z = true) (w2 : (Cond.arrayOver (.object C)).before a0 Z = true) (hj : j.toInt = (i : Int)) (hi : i ≤ cap)
    (f : ∀ h', Ext h h' → h.size < h'.size → (Al Z h' h.size (.object C) (List.replicate i .null) ∧ ∃ c cA, Arr Z h' h.size c (.object C) ∧ c.cls = cA ∧ Ovr Z cA C) → Go Z EL nw R Post K h' (h.size :: S) (k + 1) (n + cap) pc' L (.ref h.size :: st)) (hb' : cap * 8 ≤ 536870912 := by decide) (hc : k + 1 ≤ R.cells := by decide) (hl : n + cap ≤ R.slots := by decide) : Go Z EL nw R Post K h S k n pc L (.int j :: st) := by
  obtain ⟨hd, rfl⟩ := hd
  obtain ⟨j1, j2⟩ := nat_idx hj
  refine Go.grow G (fun T vm0 locs X hZ hown e => ?_) f
  obtain ⟨T', h', cA, X', e', E, A, O, stp⟩ := newR X G.1 hZ hown w1 w2 e (g := mkF K.m pc L.toArray (.int j :: st)) rfl (hb G.2.1 hd) rfl j1 (by rw [j2]; exact hi) hb' hc hl
  exact ⟨T', h', X', e', E, A.lt, ⟨⟨_, A, by simp [RoadKit.newA, j2, defaultValue], by simp; omega, fun v hv => by rw [List.eq_of_mem_replicate hv]; rfl⟩, _, cA, A, rfl, O⟩, stp⟩
theorem Good.initO (G : Good Z a0 EL K own code maxL ret nm) {idx : Nat} {a : Addr} (hd : Dc code pc (.invokespecial idx) 3 pc') (w1 : (Cond.methodLink own idx Lib.objectInit).before a0 Z = true) (w2 : (Cond.instanceMethod Lib.objectInit).before a0 Z = true) (w3 : (Cond.code Lib.objectInit ⟨#[0xb1]⟩ 1 none).before a0 Z = true)
    (f : Go Z EL nw R Post K h S k n pc' L st) (hL : L.length = maxL := by rfl) (hf : 1 ≤ R.frames := by decide) (hl : (st.map fun v => v.category).sum + 12 ≤ R.locals := by exact Nat.le_of_ble_eq_true rfl) : Go Z EL nw R Post K h S k n pc L (.ref a :: st) := by
  obtain ⟨hd, rfl⟩ := hd
  refine Go.calm G (fun T vm0 locs X hZ hown e => ?_) f
  exact initO X G.1 hZ hown w1 w2 w3 e (g := mkF K.m pc L.toArray (.ref a :: st)) rfl (by rw [G.2.2.1]; simpa using hL) rfl (hb G.2.1 hd) hf (W := (st.map fun v => v.category).sum) (by show 2 * 0 + _ ≤ _; omega) hl
/-- System.arraycopy of plain components, into a cell of S -/
theorem Good.acopy (G : Good Z a0 EL K own code maxL ret nm) {index : Nat} {a b : Addr} {ty : FieldType} {vs vd : List Value} {sp dp nn : Int32} (i j m : Nat) (hd : Dc code pc (.invokestatic index) 3 pc') (w1 : (Cond.methodLink own index Jvm.Stand.acN).before a0 Z = true) (w2 : (Cond.native Jvm.Stand.acN).before a0 Z = true) (w3 : (Cond.static Jvm.Stand.acN).before a0 Z = true) (w4 : (Cond.initialized "java/lang/System").before a0 Z = true)
    (A : Al Z h a ty vs) (B : Al Z h b ty vd) (hty : refKind ty = false) (hb' : b ∈ S) (hi : sp.toInt = (i : Int)) (hj : dp.toInt = (j : Int)) (hm : nn.toInt = (m : Int)) (h4 : i + m ≤ vs.length) (h5 : j + m ≤ vd.length)
    (f : ∀ h', Keep h h' [b] → Al Z h' b ty (vd.take j ++ (vs.drop i).take m ++ vd.drop (j + m)) → Go Z EL nw R Post K h' S k n pc' L st) (hL : L.length = maxL := by rfl) (hf : 1 ≤ R.frames := by decide) (hl : (st.map fun v => v.category).sum + (nativeFrameWords "java/lang/System" "arraycopy" 5 + 11) ≤ R.locals := by exact Nat.le_of_ble_eq_true rfl) :
    Go Z EL nw R Post K h S k n pc L (.int nn :: .int dp :: .ref b :: .int sp :: .ref a :: st) := fun T I => by
  obtain ⟨hd, rfl⟩ := hd
  obtain ⟨vm0, k0, locs, X, hS, hk0, hZ, e, N, CH, hSf, hw, hO⟩ := I
  obtain ⟨c1, c2, c3⟩ := hSf b hb'
  obtain ⟨ka, Av⟩ := A.arv (.int 0)
  obtain ⟨kb, Bv⟩ := B.arv (.int 0)
  obtain ⟨i1, i2⟩ := nat_idx hi
  obtain ⟨j1, j2⟩ := nat_idx hj
  obtain ⟨m1, m2⟩ := nat_idx hm
  have ea : (Int32.ofNat vs.length).toNatClampNeg = vs.length := by simp [Int32.toNatClampNeg, len_toInt A.len]
  have eb : (Int32.ofNat vd.length).toNatClampNeg = vd.length := by simp [Int32.toNatClampNeg, len_toInt B.len]
  have hus : (vs.drop i).take m = (List.range nn.toNatClampNeg).map fun q => vs.getD (sp.toNatClampNeg + q) (.int 0) := by
    rw [m2, i2]
    apply List.ext_getElem
    · simp; omega
    · intro q q1 q2
      simp only [List.length_map, List.length_range] at q2
      have : i + q < vs.length := by omega
      simp [List.getD_eq_getElem?_getD, this]
  obtain ⟨T', h', L', X', e', N', Kp, B', stp⟩ := cpA X G.1 hZ (G.hown hS) w1 w2 w3 w4 e Av Bv (Or.inl ⟨rfl, hty⟩) i1 j1 m1 (by rw [i2, m2, ea]; exact h4) (by rw [j2, m2, eb]; exact h5) hus (by rw [j2, m2]; exact h5) N c1 (g := mkF K.m pc L.toArray (.int nn :: .int dp :: .ref b :: .int sp :: .ref a :: st)) rfl (by rw [G.2.2.1]; simpa using hL) rfl (hb G.2.1 hd) hf (W := (st.map fun v => v.category).sum) (by show 2 * 0 + _ ≤ _; omega) hl
  rw [j2, m2] at B'
  have sfb : ∀ x ∈ [b], Safe Z EL vm0 h x := fun x hx => by cases List.mem_singleton.mp hx; exact c3
  have hC := CHr.keep Kp sfb CH.1
  refine (f h' Kp (Al.of_arv B' (by rw [eb]; simp; omega)) T' ⟨vm0, k0, L', X', hS, Nat.le_trans hk0 Kp.1, hZ, e', N', CH.trans hC, fun x hx => ?_, hw, ⟨Nat.le_trans hO.1 Kp.1, fun x c q => Kp.2.1 x c (hO.2 x c q) (fun z => by cases List.mem_singleton.mp z; exact absurd (Array.getElem?_eq_some_iff.mp q).1 (Nat.not_lt.mpr c1))⟩⟩).step stp
  obtain ⟨b1, b2, b3⟩ := hSf x hx
  exact ⟨b1, Nat.lt_of_lt_of_le b2 Kp.1, Safe.keep Kp sfb CH.1 b3⟩
end Heap
end Jvm.Own
namespace Jvm.Own
open Jvm Jvm.ClassFile Sem Op Lib Jvm.Free Jvm.Stand Jvm.LawKit Jvm.RoadKit Bundle
def PreB (R rm : Room) (h : Heap) (as : Array Value) (A : Pt) (a : Array Value) : Prop := a = as ∧ A.U.heap = h ∧ A.cells + rm.cells ≤ R.cells ∧ A.slots + rm.slots ≤ R.slots
def PstB (Z : State) (EL : List (String × Nat)) (nw : Bool) (rm : Room) (h : Heap) (Post' : Pst) (s : State) (vm0 : Vm) (A : Pt) (_a : Array Value) (v : Option Value) (B : Pt) : Prop :=
  ∃ L S', Post' v B.U.heap S' ∧ Fr Z.heap.size L ∧ (∀ x ∈ S', Z.heap.size ≤ x ∧ x < B.U.heap.size ∧ Safe Z EL B.U.vm B.U.heap x) ∧ B.locs = A.locs ++ L ∧ B.cells = A.cells + rm.cells ∧ B.slots = A.slots + rm.slots ∧ CHr Z EL vm0 h B.U.vm B.U.heap ∧ (nw = true → (s.setVm vm0).WarmedH B.U.vm) ∧ Ext Z.heap B.U.heap
section Calls
variable {Z : State} {a0 : Array Value} {EL : List (String × Nat)} {nw : Bool} {R : Room} {Post : Pst} {K : Kx} {own : String} {code : ByteArray} {maxL : Nat} {ret : Option FieldType} {nm : String} {h h' : Heap} {S : List Addr} {k n pc pc' : Nat} {L : List Slot} {st rest : List Value} {l : Launch}
variable {y z : MethodName} {bytes : ByteArray} {maxL' : Nat} {ret' : Option FieldType} {rm : Room} {as : Array Value} {S0 : List Addr} {Post' : Pst} {ps : List FieldType} {rr : Option FieldType} {C : String} {index : Nat} {a : Addr}
theorem Con.back {p : Program} {e : Env} {below : List Frame} {s : State} {sargs : Array Value} {len W : Nat} {vm0 : Vm} (c : Con l Z EL nw y bytes maxL' ret' [] rm as h S0 Post') (hZ : Z.Warmed39 vm0) (wc : (Cond.code y bytes maxL' ret').before a0 Z = true) (wz : (Cond.initialized y.cls).before a0 Z = true)
    (hf : rm.frames + 1 ≤ R.frames) (hl : W + (maxL' + 11) + rm.locals ≤ R.locals) (hEL : EW Z a0 EL) (H : CHv Z EL vm0 h) (hSf : ∀ x ∈ S0, Z.heap.size ≤ x ∧ x < h.size ∧ Safe Z EL vm0 h x) (hO : Ext Z.heap h) :
    BackS l R p e below (s.setVm vm0) sargs y len W (PreB R rm h as) (PstB Z EL nw rm h Post' s vm0) :=
  BackS.of_freeW (bytes := bytes) (maxL := maxL') (ret := ret') (E := fun _ first o t L k n => k = rm.cells ∧ n = rm.slots ∧ (∃ v S', o = .returned v ∧ Post' v t.heap S' ∧ Fr Z.heap.size L ∧ (∀ x ∈ S', Z.heap.size ≤ x ∧ x < t.heap.size ∧ Safe Z EL t.vm t.heap x)) ∧ CHr Z EL first.vm first.heap t.vm t.heap ∧ (nw = true → first.WarmedH t.vm) ∧ Ext Z.heap t.heap) c hf hl
    (fun m meth c A a Y hp => have hU : Z.Warmed39 A.U.vm := wtrans (s := s.setVm vm0) hZ Y.warmed
      ⟨by show (Cond.and _ .tt).before a A.U = true; rw [Cond.before_and, mv hU wc]; rfl, mv hU wc, mv hU wz, hp.2.2.1, hp.2.2.2⟩)
    (fun m meth c A a g mk Y hp => ⟨hp.1, wtrans (s := s.setVm vm0) hZ Y.warmed, hp.2.1, (CHv.at Y hZ hEL H).1, fun x hx => ⟨(hSf x hx).1, (hSf x hx).2.1, (CHv.at Y hZ hEL H).safe (hSf x hx).2.1 (hSf x hx).2.2⟩, hO⟩)
    (fun _ _ _ _ _ _ _ _ _ => trivial)
    (fun _ _ _ _ ⟨v, L, S', h1, h2, h3, h4, h5, h6, h7, h8⟩ => ⟨L, _, _, h6, rfl, rfl, ⟨v, S', h1, h2, h3, h5⟩, h4, h7, h8⟩)
    (fun m meth c A a g mk v t L k n Y hp _ _ ⟨e1, e2, ⟨v', S', e3, e4, e5, e6⟩, e7, e8, e9⟩ => by
      cases e3; subst e1 e2
      refine ⟨L, S', e4, e5, e6, rfl, rfl, rfl, (CHv.at Y hZ hEL H).trans ?_, fun z => State.WarmedH.trans (t := A.U) Y.warmed (e8 z), e9⟩
      rw [← hp.2.1]; exact e7)
/-- a call by its contract, whatever the step -/
theorem Go.callG {len : Nat} (G : Good Z a0 EL K own code maxL ret nm) (c : Con K.l Z EL nw y bytes maxL' ret' [] rm as h S0 Post') (hS0 : ∀ x ∈ S0, x ∈ S) (wc : (Cond.code y bytes maxL' ret').before a0 Z = true) (wz : (Cond.initialized y.cls).before a0 Z = true)
    (hf : rm.frames + 1 ≤ R.frames) (hl : (rest.map fun v => v.category).sum + (maxL' + 11) + rm.locals ≤ R.locals) (hcc : k + rm.cells ≤ R.cells) (hss : n + rm.slots ≤ R.slots)
    (q : ∀ (T : State) (vm0 : Vm) (locs : List Loc), Stand K.p K.l K.e R (K.s.setVm vm0) K.m K.as K.below K.meth K.c T locs k n → Z.Warmed39 (K.s.setVm vm0).vm → (K.s.setVm vm0).vm.findClass own = some K.m.cls → T.heap = h →
      BackS K.l R K.p K.e K.below (K.s.setVm vm0) K.as y len (rest.map fun v => v.category).sum (PreB R rm h as) (PstB Z EL nw rm h Post' K.s vm0) → (∀ vm₁, (K.s.setVm vm0).WarmedH vm₁ → PreB R rm h as ⟨T.setVm vm₁, locs, k, n⟩ as) →
      ∃ (v : Option Value) (vm₁ : Vm) (B : Pt), (K.s.setVm vm0).WarmedH vm₁ ∧ Stand K.p K.l K.e R ((K.s.setVm vm0).setVm B.U.vm) K.m K.as K.below K.meth K.c B.U B.locs B.cells B.slots ∧ (K.s.setVm vm0).Since B.U.vm B.U.heap.size ∧ T.heap.size ≤ B.U.heap.size ∧ PstB Z EL nw rm h Post' K.s vm0 ⟨T.setVm vm₁, locs, k, n⟩ as v B ∧
        Steps K.p.tables K.e K.below (T.setTop (mkF K.m pc L.toArray st)) (B.U.setTop (mkF K.m pc' L.toArray (v.toList ++ rest))))
    (f : ∀ v h' S', Post' v h' S' → h.size ≤ h'.size → Go Z EL nw R Post K h' (S' ++ S) (k + rm.cells) (n + rm.slots) pc' L (v.toList ++ rest)) : Go Z EL nw R Post K h S k n pc L st := fun T I => by
  obtain ⟨vm0, k0, locs, X, hS, hk0, hZ, e, N, CH, hSf, hw, hO⟩ := I
  obtain ⟨v, vm₁, ⟨U, Ls, c0, s0⟩, hW₁, X', h2, hgr, ⟨L', S', hP, hN, hS', hL, hc0, hs0, hC, hnw, hO'⟩, stp⟩ := q T vm0 locs X hZ (G.hown hS) e (c.back hZ wc wz hf hl G.2.2.2.2.2.2.2 CH.1 (fun x hx => hSf x (hS0 x hx)) hO) (fun vm₁ _ => ⟨rfl, e, hcc, hss⟩)
  dsimp only [Pt.U, Pt.locs, Pt.cells, Pt.slots] at X' h2 hgr hP hS' hL hc0 hs0 hC hnw hO' stp
  subst hL hc0 hs0
  rw [e] at hgr
  refine (f v U.heap S' hP hgr U ⟨U.vm, _, _, X', hS.trans h2 (Nat.le_trans hk0 hgr), Nat.le_refl _, State.Warmed39.trans (t := K.s.setVm vm0) hZ h2.1, rfl, N.app hN, CH.trans hC, fun x hx => ?_, fun z => State.WarmedH.trans (t := K.s.setVm vm0) (hw z) (hnw z), hO'⟩).step fun t z => stp.trans z
  rcases List.mem_append.mp hx with hx | hx
  · exact hS' x hx
  · obtain ⟨b1, b2, b3⟩ := hSf x hx
    exact ⟨b1, Nat.lt_of_lt_of_le b2 hgr, hC.safe b2 b3⟩
theorem Good.callS (G : Good Z a0 EL K own code maxL ret nm) (argsL : List Value) (hd : Dc code pc (.invokestatic index) 3 pc') (w1 : (Cond.methodLink own index y).before a0 Z = true) (w2 : (Cond.static y).before a0 Z = true) (w3 : (Cond.initialized y.cls).before a0 Z = true) (w4 : (Cond.code y bytes maxL' ret').before a0 Z = true)
    (pd : parseMethodDescriptor y.desc = some ⟨ps, rr⟩) (c : Con K.l Z EL nw y bytes maxL' ret' [] rm argsL.toArray h S0 Post') (hS0 : ∀ x ∈ S0, x ∈ S) (hst : st = argsL.reverse ++ rest) (hln : argsL.length = ps.length)
    (f : ∀ v h' S', Post' v h' S' → h.size ≤ h'.size → Go Z EL nw R Post K h' (S' ++ S) (k + rm.cells) (n + rm.slots) pc' L (v.toList ++ rest))
    (hy : y.cls ≠ "java/lang/invoke/MethodHandle" ∧ y.cls ≠ "java/lang/invoke/VarHandle") (hL : L.length = maxL) (hf : rm.frames + 1 ≤ R.frames) (hl : (rest.map fun v => v.category).sum + (maxL' + 11) + rm.locals ≤ R.locals) (hcc : k + rm.cells ≤ R.cells) (hss : n + rm.slots ≤ R.slots) : Go Z EL nw R Post K h S k n pc L st := by
  obtain ⟨hd, rfl⟩ := hd
  refine Go.callG (len := 3) G c hS0 w4 w3 hf hl hcc hss (fun T vm0 locs X hZ hown e hK hpre => ?_) f
  exact callSS X G.1 hown (mvT hZ w1) (mvT hZ w2) (mvT hZ w3) (mvT hZ w4) hy hK (g := mkF K.m pc L.toArray st) rfl (by rw [G.2.2.1]; simpa using hL) (lenOf pd hln) hst (by show 2 * 0 + _ ≤ _; omega) (hb G.2.1 hd) hpre
theorem Good.callI (G : Good Z a0 EL K own code maxL ret nm) (argsL : List Value) (hd : Dc code pc (.invokespecial index) 3 pc') (w1 : (Cond.methodLink own index y).before a0 Z = true) (w2 : (Cond.instanceMethod y).before a0 Z = true) (w3 : (Cond.initialized y.cls).before a0 Z = true) (w4 : (Cond.code y bytes maxL' none).before a0 Z = true)
    (pd : parseMethodDescriptor y.desc = some ⟨ps, rr⟩) (c : Con K.l Z EL nw y bytes maxL' none [] rm (.ref a :: argsL).toArray h S0 Post') (hS0 : ∀ x ∈ S0, x ∈ S) (hst : st = argsL.reverse ++ .ref a :: rest) (hln : argsL.length = ps.length)
    (f : ∀ v h' S', Post' v h' S' → h.size ≤ h'.size → Go Z EL nw R Post K h' (S' ++ S) (k + rm.cells) (n + rm.slots) pc' L (v.toList ++ rest))
    (hy1 : y.name = "<init>") (hy : y.cls ≠ "java/lang/invoke/MethodHandle" ∧ y.cls ≠ "java/lang/invoke/VarHandle") (hL : L.length = maxL) (hf : rm.frames + 1 ≤ R.frames) (hl : (rest.map fun v => v.category).sum + (maxL' + 11) + rm.locals ≤ R.locals) (hcc : k + rm.cells ≤ R.cells) (hss : n + rm.slots ≤ R.slots) : Go Z EL nw R Post K h S k n pc L st := by
  obtain ⟨hd, rfl⟩ := hd
  refine Go.callG (len := 3) G c hS0 w4 w3 hf hl hcc hss (fun T vm0 locs X hZ hown e hK hpre => ?_) f
  exact X.specialBackS G.1 hy1 hown (mvT hZ w1) (mvT hZ w2) (mvT hZ w4) hy hK (g := mkF K.m pc L.toArray st) rfl (by rw [G.2.2.1]; simpa using hL) (Steps.refl _) (lenOf pd hln) hst (by show 2 * 0 + _ ≤ _; omega) (hb G.2.1 hd) hpre
/-- the class that declares y is no interface: two roads -/
def Nf (Z : State) (y : MethodName) : Prop := ∀ s : State, Z.Warmed39 s.vm → NotFace s y
theorem Nf.inst {cnt : Nat} (wi : (Cond.instantiable y.cls cnt).before a0 Z = true) : Nf Z y := fun s hZ r0 h0 => by
  have w : (Cond.instantiable y.cls cnt).before #[] s = true := mvT hZ wi
  obtain ⟨c, kk, h1, h2, h3, h4, -⟩ := Cond.instantiable_spec w
  have hc := findClass_of_methodNamed h0
  cases h1.symm.trans hc
  simp only [Bool.or_eq_false_iff] at h4
  exact ⟨kk, h2, h4.1⟩
theorem Nf.super {D : String} (w : (Cond.superclass y.cls D).before a0 Z = true) : Nf Z y := fun s hZ => nf_super (args := #[]) (mvT hZ w)
theorem Nf.sel (w : (Cond.selects C y y).before a0 Z = true) : Nf Z y := fun s hZ => notFace_of_selects (args := #[]) (mvT hZ w)
theorem Nf.same (nf : Nf Z z) (w : (Cond.instanceMethod z).before a0 Z = true) (e : z.cls = y.cls) : Nf Z y := fun s hZ r0 h0 => by
  obtain ⟨mk, methM, hnamed, -⟩ := Cond.instanceMethod_spec (mvT (args := #[]) (s := s) hZ w)
  obtain ⟨kr, h1, h2⟩ := nf s hZ mk hnamed
  have c1 := findClass_of_methodNamed hnamed
  have c2 := findClass_of_methodNamed h0
  rw [e] at c1
  have c3 := Option.some.inj (c1.symm.trans c2)
  exact ⟨kr, by rw [← c3]; exact h1, h2⟩
theorem same_of_nf (nf : Nf Z y) (w : (Cond.instanceMethod y).before a0 Z = true) (hy : y.cls ≠ "java/lang/invoke/MethodHandle" ∧ y.cls ≠ "java/lang/invoke/VarHandle") : (Cond.sameMethod y.cls y.cls y.name y.desc).before a0 Z = true := by
  obtain ⟨mk, methM, hnamed, -⟩ := Cond.instanceMethod_spec w
  obtain ⟨kr, h1, h2⟩ := nf Z (State.Warmed39.refl Z) mk hnamed
  have c1 := findClass_of_methodNamed hnamed
  have f1 := State.methodFound?_of_named hnamed hy
  have hnamed' : Z.methodNamed? ⟨y.cls, y.name, y.desc⟩ = some mk := hnamed
  simp [Cond.before, Cond.holds, Cond.value, c1, f1, hnamed', h1, h2]
theorem Good.callV (G : Good Z a0 EL K own code maxL ret nm) (nf : Nf Z y) (argsL : List Value) (hd : Dc code pc (.invokevirtual index) 3 pc') (w1 : (Cond.methodLink own index y).before a0 Z = true) (w2 : (Cond.declares y).before a0 Z = true) (w3 : (Cond.selects C y z).before a0 Z = true) (w4 : (Cond.instanceMethod z).before a0 Z = true) (w5 : (Cond.code z bytes maxL' ret').before a0 Z = true) (w6 : (Cond.initialized z.cls).before a0 Z = true)
    (pd : parseMethodDescriptor y.desc = some ⟨ps, rr⟩) (E : Exa Z h a C) (c : Con K.l Z EL nw z bytes maxL' ret' [] rm (.ref a :: argsL).toArray h S0 Post') (hS0 : ∀ x ∈ S0, x ∈ S) (hst : st = argsL.reverse ++ .ref a :: rest) (hln : argsL.length = ps.length)
    (f : ∀ v h' S', Post' v h' S' → h.size ≤ h'.size → Go Z EL nw R Post K h' (S' ++ S) (k + rm.cells) (n + rm.slots) pc' L (v.toList ++ rest))
    (hy : y.cls ≠ "java/lang/invoke/MethodHandle" ∧ y.cls ≠ "java/lang/invoke/VarHandle") (hL : L.length = maxL) (hf : rm.frames + 1 ≤ R.frames) (hl : (rest.map fun v => v.category).sum + (maxL' + 11) + rm.locals ≤ R.locals) (hcc : k + rm.cells ≤ R.cells) (hss : n + rm.slots ≤ R.slots) : Go Z EL nw R Post K h S k n pc L st := by
  obtain ⟨hd, rfl⟩ := hd
  refine Go.callG (len := 3) G c hS0 w5 w6 hf hl hcc hss (fun T vm0 locs X hZ hown e hK hpre => ?_) f
  obtain ⟨cq, kq, q1, q2, q3⟩ := isOf (s := K.s.setVm vm0) hZ e E
  exact X.virtualBackS G.1 hown (mvT hZ w1) (mvT hZ w2) (nf _ hZ) (mvT hZ w3) (mvT hZ w4) hy hK q1 q3 (g := mkF K.m pc L.toArray st) rfl (by rw [G.2.2.1]; simpa using hL) (Steps.refl _) (lenOf pd hln) hst (by show 2 * 0 + _ ≤ _; omega) (hb G.2.1 hd) hpre
/-- a private method, called on an object that is there -/
theorem Good.callP (G : Good Z a0 EL K own code maxL ret nm) (argsL : List Value) (hd : Dc code pc (.invokevirtual index) 3 pc') (w1 : (Cond.methodLink own index y).before a0 Z = true) (w2 : (Cond.instanceMethod y).before a0 Z = true) (w3 : (Cond.privateMethod y).before a0 Z = true) (w4 : (Cond.code y bytes maxL' ret').before a0 Z = true) (w5 : (Cond.initialized y.cls).before a0 Z = true) (nf : Nf Z y)
    (pd : parseMethodDescriptor y.desc = some ⟨ps, rr⟩) (E : Exa Z h a C) (c : Con K.l Z EL nw y bytes maxL' ret' [] rm (.ref a :: argsL).toArray h S0 Post') (hS0 : ∀ x ∈ S0, x ∈ S) (hst : st = argsL.reverse ++ .ref a :: rest) (hln : argsL.length = ps.length)
    (f : ∀ v h' S', Post' v h' S' → h.size ≤ h'.size → Go Z EL nw R Post K h' (S' ++ S) (k + rm.cells) (n + rm.slots) pc' L (v.toList ++ rest))
    (hy : y.cls ≠ "java/lang/invoke/MethodHandle" ∧ y.cls ≠ "java/lang/invoke/VarHandle") (hL : L.length = maxL) (hf : rm.frames + 1 ≤ R.frames) (hl : (rest.map fun v => v.category).sum + (maxL' + 11) + rm.locals ≤ R.locals) (hcc : k + rm.cells ≤ R.cells) (hss : n + rm.slots ≤ R.slots) : Go Z EL nw R Post K h S k n pc L st := by
  obtain ⟨hd, rfl⟩ := hd
  refine Go.callG (len := 3) G c hS0 w4 w5 hf hl hcc hss (fun T vm0 locs X hZ hown e hK hpre => ?_) f
  obtain ⟨cell, hcell, hobj⟩ := E.cell
  obtain ⟨mk, methM, hnamed, hmethM, hstM, habM⟩ := Cond.instanceMethod_spec (mvT (args := #[]) (s := K.s.setVm vm0) hZ w2)
  obtain ⟨methM', cM, hmethM', -, -, -, -, -, -, hsigM⟩ := Cond.code_spec hnamed (mvT (args := #[]) (s := K.s.setVm vm0) hZ w4)
  cases hmethM.symm.trans hmethM'
  obtain ⟨kP, hkP, hkPi⟩ := nf (K.s.setVm vm0) hZ mk hnamed
  have hpriv := Cond.privateMethod_at (mvP (args := #[]) (s := K.s.setVm vm0) hZ w3)
  have hselP : selectMethod K.e.platform (K.s.setVm vm0).vm cell.cls mk = .method mk := selectMethod_private hmethM (hpriv mk methM hnamed hmethM)
  obtain ⟨vm₁, X₁, hstep₁⟩ := X.invokevirtual G.1 hown (mvT hZ w1) hnamed hmethM hstM hkP hkPi hy (a := a) (cell := cell) (by rw [e]; exact hcell) hobj hselP hmethM habM hkP hkPi (g := mkF K.m pc L.toArray st) rfl (argsL := argsL) (rest := rest) (lenOf pd hln _ hsigM) hst (hb G.2.1 hd)
  obtain ⟨v, B, X', hS, hgr, hpost, hsteps⟩ := hK K.m K.meth K.c ⟨T.setVm vm₁, locs, k, n⟩ (mkF K.m pc L.toArray rest) (.invokevirtual index) mk (.ref a :: argsL).toArray X₁ rfl (by rw [G.2.2.1]; simpa using hL) (hb G.2.1 hd) (by show 2 * 0 + (rest.map fun v => v.category).sum ≤ _; omega) (X₁.named hnamed) (hpre vm₁ X₁.warmed)
  exact ⟨v, vm₁, B, X₁.warmed, X', hS, hgr, hpost, (hstep₁ _ fun acts => by rw [doInvoke_state]; exact Steps.refl _).trans hsteps⟩
theorem Good.callF (G : Good Z a0 EL K own code maxL ret nm) {count : Nat} (argsL : List Value) (hd : Dc code pc (.invokeinterface index count) 5 pc') (w1 : (Cond.methodLink own index y).before a0 Z = true) (w2 : (Cond.declares y).before a0 Z = true) (w3 : (Cond.interfaceMethod y.cls y.cls y.name y.desc).before a0 Z = true) (w4 : (Cond.selects C y z).before a0 Z = true) (w5 : (Cond.instanceMethod z).before a0 Z = true) (w6 : (Cond.publicMethod z).before a0 Z = true) (w7 : (Cond.unhidden C y.name y.desc).before a0 Z = true) (w8 : (Cond.castable C y.cls).before a0 Z = true) (w9 : (Cond.code z bytes maxL' ret').before a0 Z = true) (w10 : (Cond.initialized z.cls).before a0 Z = true)
    (pd : parseMethodDescriptor y.desc = some ⟨ps, rr⟩) (E : Exa Z h a C) (c : Con K.l Z EL nw z bytes maxL' ret' [] rm (.ref a :: argsL).toArray h S0 Post') (hS0 : ∀ x ∈ S0, x ∈ S) (hst : st = argsL.reverse ++ .ref a :: rest) (hln : argsL.length = ps.length)
    (f : ∀ v h' S', Post' v h' S' → h.size ≤ h'.size → Go Z EL nw R Post K h' (S' ++ S) (k + rm.cells) (n + rm.slots) pc' L (v.toList ++ rest))
    (hy : y.cls ≠ "java/lang/invoke/MethodHandle" ∧ y.cls ≠ "java/lang/invoke/VarHandle") (hL : L.length = maxL) (hf : rm.frames + 1 ≤ R.frames) (hl : (rest.map fun v => v.category).sum + (maxL' + 11) + rm.locals ≤ R.locals) (hcc : k + rm.cells ≤ R.cells) (hss : n + rm.slots ≤ R.slots) : Go Z EL nw R Post K h S k n pc L st := by
  obtain ⟨hd, rfl⟩ := hd
  refine Go.callG (len := 5) G c hS0 w9 w10 hf hl hcc hss (fun T vm0 locs X hZ hown e hK hpre => ?_) f
  obtain ⟨cq, kq, q1, q2, q3⟩ := isOf (s := K.s.setVm vm0) hZ e E
  exact X.interfaceBackS G.1 hown (mvT hZ w1) (mvT hZ w2) (mvT hZ w3 (by simp [Cond.onTables, Cond.keepsFace, Cond.keeps, Cond.steady, Cond.faceAtom, hy.1, hy.2])) (mvT hZ w4) (mvT hZ w5) (mvT hZ w6) (mvT hZ w7) (mvT hZ w8) hy hK q1 q2 q3 (g := mkF K.m pc L.toArray st) rfl (by rw [G.2.2.1]; simpa using hL) (Steps.refl _) (lenOf pd hln) hst (by show 2 * 0 + _ ≤ _; omega) (hb G.2.1 hd) hpre
/-- invokespecial of a method of the superclass -/
theorem Good.callU (G : Good Z a0 EL K own code maxL ret nm) (argsL : List Value) (hd : Dc code pc (.invokespecial index) 3 pc') (w1 : (Cond.methodLink own index y).before a0 Z = true) (nf : Nf Z y) (w3 : (Cond.instanceMethod y).before a0 Z = true) (w4 : (Cond.superclass own y.cls).before a0 Z = true) (w5 : (Cond.code y bytes maxL' ret').before a0 Z = true) (w6 : (Cond.initialized y.cls).before a0 Z = true)
    (pd : parseMethodDescriptor y.desc = some ⟨ps, rr⟩) (E : Exa Z h a C) (c : Con K.l Z EL nw y bytes maxL' ret' [] rm (.ref a :: argsL).toArray h S0 Post') (hS0 : ∀ x ∈ S0, x ∈ S) (hst : st = argsL.reverse ++ .ref a :: rest) (hln : argsL.length = ps.length)
    (f : ∀ v h' S', Post' v h' S' → h.size ≤ h'.size → Go Z EL nw R Post K h' (S' ++ S) (k + rm.cells) (n + rm.slots) pc' L (v.toList ++ rest))
    (hy1 : y.name ≠ "<init>") (hy : y.cls ≠ "java/lang/invoke/MethodHandle" ∧ y.cls ≠ "java/lang/invoke/VarHandle") (hL : L.length = maxL) (hf : rm.frames + 1 ≤ R.frames) (hl : (rest.map fun v => v.category).sum + (maxL' + 11) + rm.locals ≤ R.locals) (hcc : k + rm.cells ≤ R.cells) (hss : n + rm.slots ≤ R.slots) : Go Z EL nw R Post K h S k n pc L st := by
  obtain ⟨hd, rfl⟩ := hd
  refine Go.callG (len := 3) G c hS0 w5 w6 hf hl hcc hss (fun T vm0 locs X hZ hown e hK hpre => ?_) f
  exact superBackS X G.1 hZ hown w1 (same_of_nf nf w3 hy) w3 w4 hy1 hK e (Ins.self E) (g := mkF K.m pc L.toArray st) rfl (by rw [G.2.2.1]; simpa using hL) w5 (lenOf pd hln) hst (by show 2 * 0 + _ ≤ _; omega) (hb G.2.1 hd) hpre
theorem Good.callS0 (G : Good Z a0 EL K own code maxL ret nm) (hd : Dc code pc (.invokestatic index) 3 pc') (w1 : (Cond.methodLink own index y).before a0 Z = true) (w2 : (Cond.static y).before a0 Z = true) (w3 : (Cond.initialized y.cls).before a0 Z = true) (w4 : (Cond.code y bytes maxL' ret').before a0 Z = true) (pd : parseMethodDescriptor y.desc = some ⟨ps, rr⟩) (c : Con K.l Z EL nw y bytes maxL' ret' [] rm #[] h S0 Post') (hS0 : ∀ x ∈ S0, x ∈ S) (f : ∀ v h' S', Post' v h' S' → h.size ≤ h'.size → Go Z EL nw R Post K h' (S' ++ S) (k + rm.cells) (n + rm.slots) pc' L (v.toList ++ rest)) (hln : 0 = ps.length := by rfl) (hy : y.cls ≠ "java/lang/invoke/MethodHandle" ∧ y.cls ≠ "java/lang/invoke/VarHandle" := by decide) (hL : L.length = maxL := by rfl) (hf : rm.frames + 1 ≤ R.frames := by decide) (hl : (rest.map fun v => v.category).sum + (maxL' + 11) + rm.locals ≤ R.locals := by exact Nat.le_of_ble_eq_true rfl) (hcc : k + rm.cells ≤ R.cells := by decide) (hss : n + rm.slots ≤ R.slots := by decide) : Go Z EL nw R Post K h S k n pc L (rest) := G.callS [] hd w1 w2 w3 w4 pd c hS0 rfl hln f hy hL hf hl hcc hss
theorem Good.callS1 (G : Good Z a0 EL K own code maxL ret nm) {v1 : Value} (hd : Dc code pc (.invokestatic index) 3 pc') (w1 : (Cond.methodLink own index y).before a0 Z = true) (w2 : (Cond.static y).before a0 Z = true) (w3 : (Cond.initialized y.cls).before a0 Z = true) (w4 : (Cond.code y bytes maxL' ret').before a0 Z = true) (pd : parseMethodDescriptor y.desc = some ⟨ps, rr⟩) (c : Con K.l Z EL nw y bytes maxL' ret' [] rm #[v1] h S0 Post') (hS0 : ∀ x ∈ S0, x ∈ S) (f : ∀ v h' S', Post' v h' S' → h.size ≤ h'.size → Go Z EL nw R Post K h' (S' ++ S) (k + rm.cells) (n + rm.slots) pc' L (v.toList ++ rest)) (hln : 1 = ps.length := by rfl) (hy : y.cls ≠ "java/lang/invoke/MethodHandle" ∧ y.cls ≠ "java/lang/invoke/VarHandle" := by decide) (hL : L.length = maxL := by rfl) (hf : rm.frames + 1 ≤ R.frames := by decide) (hl : (rest.map fun v => v.category).sum + (maxL' + 11) + rm.locals ≤ R.locals := by exact Nat.le_of_ble_eq_true rfl) (hcc : k + rm.cells ≤ R.cells := by decide) (hss : n + rm.slots ≤ R.slots := by decide) : Go Z EL nw R Post K h S k n pc L (v1 :: rest) := G.callS [v1] hd w1 w2 w3 w4 pd c hS0 rfl hln f hy hL hf hl hcc hss
theorem Good.callS2 (G : Good Z a0 EL K own code maxL ret nm) {v1 v2 : Value} (hd : Dc code pc (.invokestatic index) 3 pc') (w1 : (Cond.methodLink own index y).before a0 Z = true) (w2 : (Cond.static y).before a0 Z = true) (w3 : (Cond.initialized y.cls).before a0 Z = true) (w4 : (Cond.code y bytes maxL' ret').before a0 Z = true) (pd : parseMethodDescriptor y.desc = some ⟨ps, rr⟩) (c : Con K.l Z EL nw y bytes maxL' ret' [] rm #[v1, v2] h S0 Post') (hS0 : ∀ x ∈ S0, x ∈ S) (f : ∀ v h' S', Post' v h' S' → h.size ≤ h'.size → Go Z EL nw R Post K h' (S' ++ S) (k + rm.cells) (n + rm.slots) pc' L (v.toList ++ rest)) (hln : 2 = ps.length := by rfl) (hy : y.cls ≠ "java/lang/invoke/MethodHandle" ∧ y.cls ≠ "java/lang/invoke/VarHandle" := by decide) (hL : L.length = maxL := by rfl) (hf : rm.frames + 1 ≤ R.frames := by decide) (hl : (rest.map fun v => v.category).sum + (maxL' + 11) + rm.locals ≤ R.locals := by exact Nat.le_of_ble_eq_true rfl) (hcc : k + rm.cells ≤ R.cells := by decide) (hss : n + rm.slots ≤ R.slots := by decide) : Go Z EL nw R Post K h S k n pc L (v2 :: v1 :: rest) := G.callS [v1, v2] hd w1 w2 w3 w4 pd c hS0 rfl hln f hy hL hf hl hcc hss
theorem Good.callS3 (G : Good Z a0 EL K own code maxL ret nm) {v1 v2 v3 : Value} (hd : Dc code pc (.invokestatic index) 3 pc') (w1 : (Cond.methodLink own index y).before a0 Z = true) (w2 : (Cond.static y).before a0 Z = true) (w3 : (Cond.initialized y.cls).before a0 Z = true) (w4 : (Cond.code y bytes maxL' ret').before a0 Z = true) (pd : parseMethodDescriptor y.desc = some ⟨ps, rr⟩) (c : Con K.l Z EL nw y bytes maxL' ret' [] rm #[v1, v2, v3] h S0 Post') (hS0 : ∀ x ∈ S0, x ∈ S) (f : ∀ v h' S', Post' v h' S' → h.size ≤ h'.size → Go Z EL nw R Post K h' (S' ++ S) (k + rm.cells) (n + rm.slots) pc' L (v.toList ++ rest)) (hln : 3 = ps.length := by rfl) (hy : y.cls ≠ "java/lang/invoke/MethodHandle" ∧ y.cls ≠ "java/lang/invoke/VarHandle" := by decide) (hL : L.length = maxL := by rfl) (hf : rm.frames + 1 ≤ R.frames := by decide) (hl : (rest.map fun v => v.category).sum + (maxL' + 11) + rm.locals ≤ R.locals := by exact Nat.le_of_ble_eq_true rfl) (hcc : k + rm.cells ≤ R.cells := by decide) (hss : n + rm.slots ≤ R.slots := by decide) : Go Z EL nw R Post K h S k n pc L (v3 :: v2 :: v1 :: rest) := G.callS [v1, v2, v3] hd w1 w2 w3 w4 pd c hS0 rfl hln f hy hL hf hl hcc hss
theorem Good.callS4 (G : Good Z a0 EL K own code maxL ret nm) {v1 v2 v3 v4 : Value} (hd : Dc code pc (.invokestatic index) 3 pc') (w1 : (Cond.methodLink own index y).before a0 Z = true) (w2 : (Cond.static y).before a0 Z = true) (w3 : (Cond.initialized y.cls).before a0 Z = true) (w4 : (Cond.code y bytes maxL' ret').before a0 Z = true) (pd : parseMethodDescriptor y.desc = some ⟨ps, rr⟩) (c : Con K.l Z EL nw y bytes maxL' ret' [] rm #[v1, v2, v3, v4] h S0 Post') (hS0 : ∀ x ∈ S0, x ∈ S) (f : ∀ v h' S', Post' v h' S' → h.size ≤ h'.size → Go Z EL nw R Post K h' (S' ++ S) (k + rm.cells) (n + rm.slots) pc' L (v.toList ++ rest)) (hln : 4 = ps.length := by rfl) (hy : y.cls ≠ "java/lang/invoke/MethodHandle" ∧ y.cls ≠ "java/lang/invoke/VarHandle" := by decide) (hL : L.length = maxL := by rfl) (hf : rm.frames + 1 ≤ R.frames := by decide) (hl : (rest.map fun v => v.category).sum + (maxL' + 11) + rm.locals ≤ R.locals := by exact Nat.le_of_ble_eq_true rfl) (hcc : k + rm.cells ≤ R.cells := by decide) (hss : n + rm.slots ≤ R.slots := by decide) : Go Z EL nw R Post K h S k n pc L (v4 :: v3 :: v2 :: v1 :: rest) := G.callS [v1, v2, v3, v4] hd w1 w2 w3 w4 pd c hS0 rfl hln f hy hL hf hl hcc hss
theorem Good.callS5 (G : Good Z a0 EL K own code maxL ret nm) {v1 v2 v3 v4 v5 : Value} (hd : Dc code pc (.invokestatic index) 3 pc') (w1 : (Cond.methodLink own index y).before a0 Z = true) (w2 : (Cond.static y).before a0 Z = true) (w3 : (Cond.initialized y.cls).before a0 Z = true) (w4 : (Cond.code y bytes maxL' ret').before a0 Z = true) (pd : parseMethodDescriptor y.desc = some ⟨ps, rr⟩) (c : Con K.l Z EL nw y bytes maxL' ret' [] rm #[v1, v2, v3, v4, v5] h S0 Post') (hS0 : ∀ x ∈ S0, x ∈ S) (f : ∀ v h' S', Post' v h' S' → h.size ≤ h'.size → Go Z EL nw R Post K h' (S' ++ S) (k + rm.cells) (n + rm.slots) pc' L (v.toList ++ rest)) (hln : 5 = ps.length := by rfl) (hy : y.cls ≠ "java/lang/invoke/MethodHandle" ∧ y.cls ≠ "java/lang/invoke/VarHandle" := by decide) (hL : L.length = maxL := by rfl) (hf : rm.frames + 1 ≤ R.frames := by decide) (hl : (rest.map fun v => v.category).sum + (maxL' + 11) + rm.locals ≤ R.locals := by exact Nat.le_of_ble_eq_true rfl) (hcc : k + rm.cells ≤ R.cells := by decide) (hss : n + rm.slots ≤ R.slots := by decide) : Go Z EL nw R Post K h S k n pc L (v5 :: v4 :: v3 :: v2 :: v1 :: rest) := G.callS [v1, v2, v3, v4, v5] hd w1 w2 w3 w4 pd c hS0 rfl hln f hy hL hf hl hcc hss
theorem Good.callS6 (G : Good Z a0 EL K own code maxL ret nm) {v1 v2 v3 v4 v5 v6 : Value} (hd : Dc code pc (.invokestatic index) 3 pc') (w1 : (Cond.methodLink own index y).before a0 Z = true) (w2 : (Cond.static y).before a0 Z = true) (w3 : (Cond.initialized y.cls).before a0 Z = true) (w4 : (Cond.code y bytes maxL' ret').before a0 Z = true) (pd : parseMethodDescriptor y.desc = some ⟨ps, rr⟩) (c : Con K.l Z EL nw y bytes maxL' ret' [] rm #[v1, v2, v3, v4, v5, v6] h S0 Post') (hS0 : ∀ x ∈ S0, x ∈ S) (f : ∀ v h' S', Post' v h' S' → h.size ≤ h'.size → Go Z EL nw R Post K h' (S' ++ S) (k + rm.cells) (n + rm.slots) pc' L (v.toList ++ rest)) (hln : 6 = ps.length := by rfl) (hy : y.cls ≠ "java/lang/invoke/MethodHandle" ∧ y.cls ≠ "java/lang/invoke/VarHandle" := by decide) (hL : L.length = maxL := by rfl) (hf : rm.frames + 1 ≤ R.frames := by decide) (hl : (rest.map fun v => v.category).sum + (maxL' + 11) + rm.locals ≤ R.locals := by exact Nat.le_of_ble_eq_true rfl) (hcc : k + rm.cells ≤ R.cells := by decide) (hss : n + rm.slots ≤ R.slots := by decide) : Go Z EL nw R Post K h S k n pc L (v6 :: v5 :: v4 :: v3 :: v2 :: v1 :: rest) := G.callS [v1, v2, v3, v4, v5, v6] hd w1 w2 w3 w4 pd c hS0 rfl hln f hy hL hf hl hcc hss
theorem Good.callS7 (G : Good Z a0 EL K own code maxL ret nm) {v1 v2 v3 v4 v5 v6 v7 : Value} (hd : Dc code pc (.invokestatic index) 3 pc') (w1 : (Cond.methodLink own index y).before a0 Z = true) (w2 : (Cond.static y).before a0 Z = true) (w3 : (Cond.initialized y.cls).before a0 Z = true) (w4 : (Cond.code y bytes maxL' ret').before a0 Z = true) (pd : parseMethodDescriptor y.desc = some ⟨ps, rr⟩) (c : Con K.l Z EL nw y bytes maxL' ret' [] rm #[v1, v2, v3, v4, v5, v6, v7] h S0 Post') (hS0 : ∀ x ∈ S0, x ∈ S) (f : ∀ v h' S', Post' v h' S' → h.size ≤ h'.size → Go Z EL nw R Post K h' (S' ++ S) (k + rm.cells) (n + rm.slots) pc' L (v.toList ++ rest)) (hln : 7 = ps.length := by rfl) (hy : y.cls ≠ "java/lang/invoke/MethodHandle" ∧ y.cls ≠ "java/lang/invoke/VarHandle" := by decide) (hL : L.length = maxL := by rfl) (hf : rm.frames + 1 ≤ R.frames := by decide) (hl : (rest.map fun v => v.category).sum + (maxL' + 11) + rm.locals ≤ R.locals := by exact Nat.le_of_ble_eq_true rfl) (hcc : k + rm.cells ≤ R.cells := by decide) (hss : n + rm.slots ≤ R.slots := by decide) : Go Z EL nw R Post K h S k n pc L (v7 :: v6 :: v5 :: v4 :: v3 :: v2 :: v1 :: rest) := G.callS [v1, v2, v3, v4, v5, v6, v7] hd w1 w2 w3 w4 pd c hS0 rfl hln f hy hL hf hl hcc hss
theorem Good.callI0 (G : Good Z a0 EL K own code maxL ret nm) (hd : Dc code pc (.invokespecial index) 3 pc') (w1 : (Cond.methodLink own index y).before a0 Z = true) (w2 : (Cond.instanceMethod y).before a0 Z = true) (w3 : (Cond.initialized y.cls).before a0 Z = true) (w4 : (Cond.code y bytes maxL' none).before a0 Z = true) (pd : parseMethodDescriptor y.desc = some ⟨ps, rr⟩) (c : Con K.l Z EL nw y bytes maxL' none [] rm #[.ref a] h S0 Post') (hS0 : ∀ x ∈ S0, x ∈ S) (f : ∀ v h' S', Post' v h' S' → h.size ≤ h'.size → Go Z EL nw R Post K h' (S' ++ S) (k + rm.cells) (n + rm.slots) pc' L (v.toList ++ rest)) (hy1 : y.name = "<init>" := by rfl) (hln : 0 = ps.length := by rfl) (hy : y.cls ≠ "java/lang/invoke/MethodHandle" ∧ y.cls ≠ "java/lang/invoke/VarHandle" := by decide) (hL : L.length = maxL := by rfl) (hf : rm.frames + 1 ≤ R.frames := by decide) (hl : (rest.map fun v => v.category).sum + (maxL' + 11) + rm.locals ≤ R.locals := by exact Nat.le_of_ble_eq_true rfl) (hcc : k + rm.cells ≤ R.cells := by decide) (hss : n + rm.slots ≤ R.slots := by decide) : Go Z EL nw R Post K h S k n pc L (.ref a :: rest) := G.callI [] hd w1 w2 w3 w4 pd c hS0 rfl hln f hy1 hy hL hf hl hcc hss
theorem Good.callV0 (G : Good Z a0 EL K own code maxL ret nm) (hd : Dc code pc (.invokevirtual index) 3 pc') (w1 : (Cond.methodLink own index y).before a0 Z = true) (w2 : (Cond.declares y).before a0 Z = true) (w3 : (Cond.selects C y y).before a0 Z = true) (w4 : (Cond.instanceMethod y).before a0 Z = true) (w5 : (Cond.code y bytes maxL' ret').before a0 Z = true) (w6 : (Cond.initialized y.cls).before a0 Z = true) (pd : parseMethodDescriptor y.desc = some ⟨ps, rr⟩) (E : Exa Z h a C) (c : Con K.l Z EL nw y bytes maxL' ret' [] rm #[.ref a] h S0 Post') (hS0 : ∀ x ∈ S0, x ∈ S) (f : ∀ v h' S', Post' v h' S' → h.size ≤ h'.size → Go Z EL nw R Post K h' (S' ++ S) (k + rm.cells) (n + rm.slots) pc' L (v.toList ++ rest)) (hln : 0 = ps.length := by rfl) (hy : y.cls ≠ "java/lang/invoke/MethodHandle" ∧ y.cls ≠ "java/lang/invoke/VarHandle" := by decide) (hL : L.length = maxL := by rfl) (hf : rm.frames + 1 ≤ R.frames := by decide) (hl : (rest.map fun v => v.category).sum + (maxL' + 11) + rm.locals ≤ R.locals := by exact Nat.le_of_ble_eq_true rfl) (hcc : k + rm.cells ≤ R.cells := by decide) (hss : n + rm.slots ≤ R.slots := by decide) : Go Z EL nw R Post K h S k n pc L (.ref a :: rest) := G.callV (Nf.sel w3) [] hd w1 w2 w3 w4 w5 w6 pd E c hS0 rfl hln f hy hL hf hl hcc hss
theorem Good.callW0 (G : Good Z a0 EL K own code maxL ret nm) (nf : Nf Z y) (hd : Dc code pc (.invokevirtual index) 3 pc') (w1 : (Cond.methodLink own index y).before a0 Z = true) (w2 : (Cond.declares y).before a0 Z = true) (w3 : (Cond.selects C y z).before a0 Z = true) (w4 : (Cond.instanceMethod z).before a0 Z = true) (w5 : (Cond.code z bytes maxL' ret').before a0 Z = true) (w6 : (Cond.initialized z.cls).before a0 Z = true) (pd : parseMethodDescriptor y.desc = some ⟨ps, rr⟩) (E : Exa Z h a C) (c : Con K.l Z EL nw z bytes maxL' ret' [] rm #[.ref a] h S0 Post') (hS0 : ∀ x ∈ S0, x ∈ S) (f : ∀ v h' S', Post' v h' S' → h.size ≤ h'.size → Go Z EL nw R Post K h' (S' ++ S) (k + rm.cells) (n + rm.slots) pc' L (v.toList ++ rest)) (hln : 0 = ps.length := by rfl) (hy : y.cls ≠ "java/lang/invoke/MethodHandle" ∧ y.cls ≠ "java/lang/invoke/VarHandle" := by decide) (hL : L.length = maxL := by rfl) (hf : rm.frames + 1 ≤ R.frames := by decide) (hl : (rest.map fun v => v.category).sum + (maxL' + 11) + rm.locals ≤ R.locals := by exact Nat.le_of_ble_eq_true rfl) (hcc : k + rm.cells ≤ R.cells := by decide) (hss : n + rm.slots ≤ R.slots := by decide) : Go Z EL nw R Post K h S k n pc L (.ref a :: rest) := G.callV nf [] hd w1 w2 w3 w4 w5 w6 pd E c hS0 rfl hln f hy hL hf hl hcc hss
theorem Good.callP0 (G : Good Z a0 EL K own code maxL ret nm) (hd : Dc code pc (.invokevirtual index) 3 pc') (w1 : (Cond.methodLink own index y).before a0 Z = true) (w2 : (Cond.instanceMethod y).before a0 Z = true) (w3 : (Cond.privateMethod y).before a0 Z = true) (w4 : (Cond.code y bytes maxL' ret').before a0 Z = true) (w5 : (Cond.initialized y.cls).before a0 Z = true) (nf : Nf Z y) (pd : parseMethodDescriptor y.desc = some ⟨ps, rr⟩) (E : Exa Z h a C) (c : Con K.l Z EL nw y bytes maxL' ret' [] rm #[.ref a] h S0 Post') (hS0 : ∀ x ∈ S0, x ∈ S) (f : ∀ v h' S', Post' v h' S' → h.size ≤ h'.size → Go Z EL nw R Post K h' (S' ++ S) (k + rm.cells) (n + rm.slots) pc' L (v.toList ++ rest)) (hln : 0 = ps.length := by rfl) (hy : y.cls ≠ "java/lang/invoke/MethodHandle" ∧ y.cls ≠ "java/lang/invoke/VarHandle" := by decide) (hL : L.length = maxL := by rfl) (hf : rm.frames + 1 ≤ R.frames := by decide) (hl : (rest.map fun v => v.category).sum + (maxL' + 11) + rm.locals ≤ R.locals := by exact Nat.le_of_ble_eq_true rfl) (hcc : k + rm.cells ≤ R.cells := by decide) (hss : n + rm.slots ≤ R.slots := by decide) : Go Z EL nw R Post K h S k n pc L (.ref a :: rest) := G.callP [] hd w1 w2 w3 w4 w5 nf pd E c hS0 rfl hln f hy hL hf hl hcc hss
theorem Good.callF0 (G : Good Z a0 EL K own code maxL ret nm) {count : Nat} (hd : Dc code pc (.invokeinterface index count) 5 pc') (w1 : (Cond.methodLink own index y).before a0 Z = true) (w2 : (Cond.declares y).before a0 Z = true) (w3 : (Cond.interfaceMethod y.cls y.cls y.name y.desc).before a0 Z = true) (w4 : (Cond.selects C y z).before a0 Z = true) (w5 : (Cond.instanceMethod z).before a0 Z = true) (w6 : (Cond.publicMethod z).before a0 Z = true) (w7 : (Cond.unhidden C y.name y.desc).before a0 Z = true) (w8 : (Cond.castable C y.cls).before a0 Z = true) (w9 : (Cond.code z bytes maxL' ret').before a0 Z = true) (w10 : (Cond.initialized z.cls).before a0 Z = true) (pd : parseMethodDescriptor y.desc = some ⟨ps, rr⟩) (E : Exa Z h a C) (c : Con K.l Z EL nw z bytes maxL' ret' [] rm #[.ref a] h S0 Post') (hS0 : ∀ x ∈ S0, x ∈ S) (f : ∀ v h' S', Post' v h' S' → h.size ≤ h'.size → Go Z EL nw R Post K h' (S' ++ S) (k + rm.cells) (n + rm.slots) pc' L (v.toList ++ rest)) (hln : 0 = ps.length := by rfl) (hy : y.cls ≠ "java/lang/invoke/MethodHandle" ∧ y.cls ≠ "java/lang/invoke/VarHandle" := by decide) (hL : L.length = maxL := by rfl) (hf : rm.frames + 1 ≤ R.frames := by decide) (hl : (rest.map fun v => v.category).sum + (maxL' + 11) + rm.locals ≤ R.locals := by exact Nat.le_of_ble_eq_true rfl) (hcc : k + rm.cells ≤ R.cells := by decide) (hss : n + rm.slots ≤ R.slots := by decide) : Go Z EL nw R Post K h S k n pc L (.ref a :: rest) := G.callF [] hd w1 w2 w3 w4 w5 w6 w7 w8 w9 w10 pd E c hS0 rfl hln f hy hL hf hl hcc hss
theorem Good.callI1 (G : Good Z a0 EL K own code maxL ret nm) {v1 : Value} (hd : Dc code pc (.invokespecial index) 3 pc') (w1 : (Cond.methodLink own index y).before a0 Z = true) (w2 : (Cond.instanceMethod y).before a0 Z = true) (w3 : (Cond.initialized y.cls).before a0 Z = true) (w4 : (Cond.code y bytes maxL' none).before a0 Z = true) (pd : parseMethodDescriptor y.desc = some ⟨ps, rr⟩) (c : Con K.l Z EL nw y bytes maxL' none [] rm #[.ref a, v1] h S0 Post') (hS0 : ∀ x ∈ S0, x ∈ S) (f : ∀ v h' S', Post' v h' S' → h.size ≤ h'.size → Go Z EL nw R Post K h' (S' ++ S) (k + rm.cells) (n + rm.slots) pc' L (v.toList ++ rest)) (hy1 : y.name = "<init>" := by rfl) (hln : 1 = ps.length := by rfl) (hy : y.cls ≠ "java/lang/invoke/MethodHandle" ∧ y.cls ≠ "java/lang/invoke/VarHandle" := by decide) (hL : L.length = maxL := by rfl) (hf : rm.frames + 1 ≤ R.frames := by decide) (hl : (rest.map fun v => v.category).sum + (maxL' + 11) + rm.locals ≤ R.locals := by exact Nat.le_of_ble_eq_true rfl) (hcc : k + rm.cells ≤ R.cells := by decide) (hss : n + rm.slots ≤ R.slots := by decide) : Go Z EL nw R Post K h S k n pc L (v1 :: .ref a :: rest) := G.callI [v1] hd w1 w2 w3 w4 pd c hS0 rfl hln f hy1 hy hL hf hl hcc hss
theorem Good.callV1 (G : Good Z a0 EL K own code maxL ret nm) {v1 : Value} (hd : Dc code pc (.invokevirtual index) 3 pc') (w1 : (Cond.methodLink own index y).before a0 Z = true) (w2 : (Cond.declares y).before a0 Z = true) (w3 : (Cond.selects C y y).before a0 Z = true) (w4 : (Cond.instanceMethod y).before a0 Z = true) (w5 : (Cond.code y bytes maxL' ret').before a0 Z = true) (w6 : (Cond.initialized y.cls).before a0 Z = true) (pd : parseMethodDescriptor y.desc = some ⟨ps, rr⟩) (E : Exa Z h a C) (c : Con K.l Z EL nw y bytes maxL' ret' [] rm #[.ref a, v1] h S0 Post') (hS0 : ∀ x ∈ S0, x ∈ S) (f : ∀ v h' S', Post' v h' S' → h.size ≤ h'.size → Go Z EL nw R Post K h' (S' ++ S) (k + rm.cells) (n + rm.slots) pc' L (v.toList ++ rest)) (hln : 1 = ps.length := by rfl) (hy : y.cls ≠ "java/lang/invoke/MethodHandle" ∧ y.cls ≠ "java/lang/invoke/VarHandle" := by decide) (hL : L.length = maxL := by rfl) (hf : rm.frames + 1 ≤ R.frames := by decide) (hl : (rest.map fun v => v.category).sum + (maxL' + 11) + rm.locals ≤ R.locals := by exact Nat.le_of_ble_eq_true rfl) (hcc : k + rm.cells ≤ R.cells := by decide) (hss : n + rm.slots ≤ R.slots := by decide) : Go Z EL nw R Post K h S k n pc L (v1 :: .ref a :: rest) := G.callV (Nf.sel w3) [v1] hd w1 w2 w3 w4 w5 w6 pd E c hS0 rfl hln f hy hL hf hl hcc hss
theorem Good.callW1 (G : Good Z a0 EL K own code maxL ret nm) (nf : Nf Z y) {v1 : Value} (hd : Dc code pc (.invokevirtual index) 3 pc') (w1 : (Cond.methodLink own index y).before a0 Z = true) (w2 : (Cond.declares y).before a0 Z = true) (w3 : (Cond.selects C y z).before a0 Z = true) (w4 : (Cond.instanceMethod z).before a0 Z = true) (w5 : (Cond.code z bytes maxL' ret').before a0 Z = true) (w6 : (Cond.initialized z.cls).before a0 Z = true) (pd : parseMethodDescriptor y.desc = some ⟨ps, rr⟩) (E : Exa Z h a C) (c : Con K.l Z EL nw z bytes maxL' ret' [] rm #[.ref a, v1] h S0 Post') (hS0 : ∀ x ∈ S0, x ∈ S) (f : ∀ v h' S', Post' v h' S' → h.size ≤ h'.size → Go Z EL nw R Post K h' (S' ++ S) (k + rm.cells) (n + rm.slots) pc' L (v.toList ++ rest)) (hln : 1 = ps.length := by rfl) (hy : y.cls ≠ "java/lang/invoke/MethodHandle" ∧ y.cls ≠ "java/lang/invoke/VarHandle" := by decide) (hL : L.length = maxL := by rfl) (hf : rm.frames + 1 ≤ R.frames := by decide) (hl : (rest.map fun v => v.category).sum + (maxL' + 11) + rm.locals ≤ R.locals := by exact Nat.le_of_ble_eq_true rfl) (hcc : k + rm.cells ≤ R.cells := by decide) (hss : n + rm.slots ≤ R.slots := by decide) : Go Z EL nw R Post K h S k n pc L (v1 :: .ref a :: rest) := G.callV nf [v1] hd w1 w2 w3 w4 w5 w6 pd E c hS0 rfl hln f hy hL hf hl hcc hss
theorem Good.callP1 (G : Good Z a0 EL K own code maxL ret nm) {v1 : Value} (hd : Dc code pc (.invokevirtual index) 3 pc') (w1 : (Cond.methodLink own index y).before a0 Z = true) (w2 : (Cond.instanceMethod y).before a0 Z = true) (w3 : (Cond.privateMethod y).before a0 Z = true) (w4 : (Cond.code y bytes maxL' ret').before a0 Z = true) (w5 : (Cond.initialized y.cls).before a0 Z = true) (nf : Nf Z y) (pd : parseMethodDescriptor y.desc = some ⟨ps, rr⟩) (E : Exa Z h a C) (c : Con K.l Z EL nw y bytes maxL' ret' [] rm #[.ref a, v1] h S0 Post') (hS0 : ∀ x ∈ S0, x ∈ S) (f : ∀ v h' S', Post' v h' S' → h.size ≤ h'.size → Go Z EL nw R Post K h' (S' ++ S) (k + rm.cells) (n + rm.slots) pc' L (v.toList ++ rest)) (hln : 1 = ps.length := by rfl) (hy : y.cls ≠ "java/lang/invoke/MethodHandle" ∧ y.cls ≠ "java/lang/invoke/VarHandle" := by decide) (hL : L.length = maxL := by rfl) (hf : rm.frames + 1 ≤ R.frames := by decide) (hl : (rest.map fun v => v.category).sum + (maxL' + 11) + rm.locals ≤ R.locals := by exact Nat.le_of_ble_eq_true rfl) (hcc : k + rm.cells ≤ R.cells := by decide) (hss : n + rm.slots ≤ R.slots := by decide) : Go Z EL nw R Post K h S k n pc L (v1 :: .ref a :: rest) := G.callP [v1] hd w1 w2 w3 w4 w5 nf pd E c hS0 rfl hln f hy hL hf hl hcc hss
theorem Good.callF1 (G : Good Z a0 EL K own code maxL ret nm) {count : Nat} {v1 : Value} (hd : Dc code pc (.invokeinterface index count) 5 pc') (w1 : (Cond.methodLink own index y).before a0 Z = true) (w2 : (Cond.declares y).before a0 Z = true) (w3 : (Cond.interfaceMethod y.cls y.cls y.name y.desc).before a0 Z = true) (w4 : (Cond.selects C y z).before a0 Z = true) (w5 : (Cond.instanceMethod z).before a0 Z = true) (w6 : (Cond.publicMethod z).before a0 Z = true) (w7 : (Cond.unhidden C y.name y.desc).before a0 Z = true) (w8 : (Cond.castable C y.cls).before a0 Z = true) (w9 : (Cond.code z bytes maxL' ret').before a0 Z = true) (w10 : (Cond.initialized z.cls).before a0 Z = true) (pd : parseMethodDescriptor y.desc = some ⟨ps, rr⟩) (E : Exa Z h a C) (c : Con K.l Z EL nw z bytes maxL' ret' [] rm #[.ref a, v1] h S0 Post') (hS0 : ∀ x ∈ S0, x ∈ S) (f : ∀ v h' S', Post' v h' S' → h.size ≤ h'.size → Go Z EL nw R Post K h' (S' ++ S) (k + rm.cells) (n + rm.slots) pc' L (v.toList ++ rest)) (hln : 1 = ps.length := by rfl) (hy : y.cls ≠ "java/lang/invoke/MethodHandle" ∧ y.cls ≠ "java/lang/invoke/VarHandle" := by decide) (hL : L.length = maxL := by rfl) (hf : rm.frames + 1 ≤ R.frames := by decide) (hl : (rest.map fun v => v.category).sum + (maxL' + 11) + rm.locals ≤ R.locals := by exact Nat.le_of_ble_eq_true rfl) (hcc : k + rm.cells ≤ R.cells := by decide) (hss : n + rm.slots ≤ R.slots := by decide) : Go Z EL nw R Post K h S k n pc L (v1 :: .ref a :: rest) := G.callF [v1] hd w1 w2 w3 w4 w5 w6 w7 w8 w9 w10 pd E c hS0 rfl hln f hy hL hf hl hcc hss
theorem Good.callI2 (G : Good Z a0 EL K own code maxL ret nm) {v1 v2 : Value} (hd : Dc code pc (.invokespecial index) 3 pc') (w1 : (Cond.methodLink own index y).before a0 Z = true) (w2 : (Cond.instanceMethod y).before a0 Z = true) (w3 : (Cond.initialized y.cls).before a0 Z = true) (w4 : (Cond.code y bytes maxL' none).before a0 Z = true) (pd : parseMethodDescriptor y.desc = some ⟨ps, rr⟩) (c : Con K.l Z EL nw y bytes maxL' none [] rm #[.ref a, v1, v2] h S0 Post') (hS0 : ∀ x ∈ S0, x ∈ S) (f : ∀ v h' S', Post' v h' S' → h.size ≤ h'.size → Go Z EL nw R Post K h' (S' ++ S) (k + rm.cells) (n + rm.slots) pc' L (v.toList ++ rest)) (hy1 : y.name = "<init>" := by rfl) (hln : 2 = ps.length := by rfl) (hy : y.cls ≠ "java/lang/invoke/MethodHandle" ∧ y.cls ≠ "java/lang/invoke/VarHandle" := by decide) (hL : L.length = maxL := by rfl) (hf : rm.frames + 1 ≤ R.frames := by decide) (hl : (rest.map fun v => v.category).sum + (maxL' + 11) + rm.locals ≤ R.locals := by exact Nat.le_of_ble_eq_true rfl) (hcc : k + rm.cells ≤ R.cells := by decide) (hss : n + rm.slots ≤ R.slots := by decide) : Go Z EL nw R Post K h S k n pc L (v2 :: v1 :: .ref a :: rest) := G.callI [v1, v2] hd w1 w2 w3 w4 pd c hS0 rfl hln f hy1 hy hL hf hl hcc hss
theorem Good.callV2 (G : Good Z a0 EL K own code maxL ret nm) {v1 v2 : Value} (hd : Dc code pc (.invokevirtual index) 3 pc') (w1 : (Cond.methodLink own index y).before a0 Z = true) (w2 : (Cond.declares y).before a0 Z = true) (w3 : (Cond.selects C y y).before a0 Z = true) (w4 : (Cond.instanceMethod y).before a0 Z = true) (w5 : (Cond.code y bytes maxL' ret').before a0 Z = true) (w6 : (Cond.initialized y.cls).before a0 Z = true) (pd : parseMethodDescriptor y.desc = some ⟨ps, rr⟩) (E : Exa Z h a C) (c : Con K.l Z EL nw y bytes maxL' ret' [] rm #[.ref a, v1, v2] h S0 Post') (hS0 : ∀ x ∈ S0, x ∈ S) (f : ∀ v h' S', Post' v h' S' → h.size ≤ h'.size → Go Z EL nw R Post K h' (S' ++ S) (k + rm.cells) (n + rm.slots) pc' L (v.toList ++ rest)) (hln : 2 = ps.length := by rfl) (hy : y.cls ≠ "java/lang/invoke/MethodHandle" ∧ y.cls ≠ "java/lang/invoke/VarHandle" := by decide) (hL : L.length = maxL := by rfl) (hf : rm.frames + 1 ≤ R.frames := by decide) (hl : (rest.map fun v => v.category).sum + (maxL' + 11) + rm.locals ≤ R.locals := by exact Nat.le_of_ble_eq_true rfl) (hcc : k + rm.cells ≤ R.cells := by decide) (hss : n + rm.slots ≤ R.slots := by decide) : Go Z EL nw R Post K h S k n pc L (v2 :: v1 :: .ref a :: rest) := G.callV (Nf.sel w3) [v1, v2] hd w1 w2 w3 w4 w5 w6 pd E c hS0 rfl hln f hy hL hf hl hcc hss
theorem Good.callW2 (G : Good Z a0 EL K own code maxL ret nm) (nf : Nf Z y) {v1 v2 : Value} (hd : Dc code pc (.invokevirtual index) 3 pc') (w1 : (Cond.methodLink own index y).before a0 Z = true) (w2 : (Cond.declares y).before a0 Z = true) (w3 : (Cond.selects C y z).before a0 Z = true) (w4 : (Cond.instanceMethod z).before a0 Z = true) (w5 : (Cond.code z bytes maxL' ret').before a0 Z = true) (w6 : (Cond.initialized z.cls).before a0 Z = true) (pd : parseMethodDescriptor y.desc = some ⟨ps, rr⟩) (E : Exa Z h a C) (c : Con K.l Z EL nw z bytes maxL' ret' [] rm #[.ref a, v1, v2] h S0 Post') (hS0 : ∀ x ∈ S0, x ∈ S) (f : ∀ v h' S', Post' v h' S' → h.size ≤ h'.size → Go Z EL nw R Post K h' (S' ++ S) (k + rm.cells) (n + rm.slots) pc' L (v.toList ++ rest)) (hln : 2 = ps.length := by rfl) (hy : y.cls ≠ "java/lang/invoke/MethodHandle" ∧ y.cls ≠ "java/lang/invoke/VarHandle" := by decide) (hL : L.length = maxL := by rfl) (hf : rm.frames + 1 ≤ R.frames := by decide) (hl : (rest.map fun v => v.category).sum + (maxL' + 11) + rm.locals ≤ R.locals := by exact Nat.le_of_ble_eq_true rfl) (hcc : k + rm.cells ≤ R.cells := by decide) (hss : n + rm.slots ≤ R.slots := by decide) : Go Z EL nw R Post K h S k n pc L (v2 :: v1 :: .ref a :: rest) := G.callV nf [v1, v2] hd w1 w2 w3 w4 w5 w6 pd E c hS0 rfl hln f hy hL hf hl hcc hss
theorem Good.callP2 (G : Good Z a0 EL K own code maxL ret nm) {v1 v2 : Value} (hd : Dc code pc (.invokevirtual index) 3 pc') (w1 : (Cond.methodLink own index y).before a0 Z = true) (w2 : (Cond.instanceMethod y).before a0 Z = true) (w3 : (Cond.privateMethod y).before a0 Z = true) (w4 : (Cond.code y bytes maxL' ret').before a0 Z = true) (w5 : (Cond.initialized y.cls).before a0 Z = true) (nf : Nf Z y) (pd : parseMethodDescriptor y.desc = some ⟨ps, rr⟩) (E : Exa Z h a C) (c : Con K.l Z EL nw y bytes maxL' ret' [] rm #[.ref a, v1, v2] h S0 Post') (hS0 : ∀ x ∈ S0, x ∈ S) (f : ∀ v h' S', Post' v h' S' → h.size ≤ h'.size → Go Z EL nw R Post K h' (S' ++ S) (k + rm.cells) (n + rm.slots) pc' L (v.toList ++ rest)) (hln : 2 = ps.length := by rfl) (hy : y.cls ≠ "java/lang/invoke/MethodHandle" ∧ y.cls ≠ "java/lang/invoke/VarHandle" := by decide) (hL : L.length = maxL := by rfl) (hf : rm.frames + 1 ≤ R.frames := by decide) (hl : (rest.map fun v => v.category).sum + (maxL' + 11) + rm.locals ≤ R.locals := by exact Nat.le_of_ble_eq_true rfl) (hcc : k + rm.cells ≤ R.cells := by decide) (hss : n + rm.slots ≤ R.slots := by decide) : Go Z EL nw R Post K h S k n pc L (v2 :: v1 :: .ref a :: rest) := G.callP [v1, v2] hd w1 w2 w3 w4 w5 nf pd E c hS0 rfl hln f hy hL hf hl hcc hss
theorem Good.callF2 (G : Good Z a0 EL K own code maxL ret nm) {count : Nat} {v1 v2 : Value} (hd : Dc code pc (.invokeinterface index count) 5 pc') (w1 : (Cond.methodLink own index y).before a0 Z = true) (w2 : (Cond.declares y).before a0 Z = true) (w3 : (Cond.interfaceMethod y.cls y.cls y.name y.desc).before a0 Z = true) (w4 : (Cond.selects C y z).before a0 Z = true) (w5 : (Cond.instanceMethod z).before a0 Z = true) (w6 : (Cond.publicMethod z).before a0 Z = true) (w7 : (Cond.unhidden C y.name y.desc).before a0 Z = true) (w8 : (Cond.castable C y.cls).before a0 Z = true) (w9 : (Cond.code z bytes maxL' ret').before a0 Z = true) (w10 : (Cond.initialized z.cls).before a0 Z = true) (pd : parseMethodDescriptor y.desc = some ⟨ps, rr⟩) (E : Exa Z h a C) (c : Con K.l Z EL nw z bytes maxL' ret' [] rm #[.ref a, v1, v2] h S0 Post') (hS0 : ∀ x ∈ S0, x ∈ S) (f : ∀ v h' S', Post' v h' S' → h.size ≤ h'.size → Go Z EL nw R Post K h' (S' ++ S) (k + rm.cells) (n + rm.slots) pc' L (v.toList ++ rest)) (hln : 2 = ps.length := by rfl) (hy : y.cls ≠ "java/lang/invoke/MethodHandle" ∧ y.cls ≠ "java/lang/invoke/VarHandle" := by decide) (hL : L.length = maxL := by rfl) (hf : rm.frames + 1 ≤ R.frames := by decide) (hl : (rest.map fun v => v.category).sum + (maxL' + 11) + rm.locals ≤ R.locals := by exact Nat.le_of_ble_eq_true rfl) (hcc : k + rm.cells ≤ R.cells := by decide) (hss : n + rm.slots ≤ R.slots := by decide) : Go Z EL nw R Post K h S k n pc L (v2 :: v1 :: .ref a :: rest) := G.callF [v1, v2] hd w1 w2 w3 w4 w5 w6 w7 w8 w9 w10 pd E c hS0 rfl hln f hy hL hf hl hcc hss
theorem Good.callI3 (G : Good Z a0 EL K own code maxL ret nm) {v1 v2 v3 : Value} (hd : Dc code pc (.invokespecial index) 3 pc') (w1 : (Cond.methodLink own index y).before a0 Z = true) (w2 : (Cond.instanceMethod y).before a0 Z = true) (w3 : (Cond.initialized y.cls).before a0 Z = true) (w4 : (Cond.code y bytes maxL' none).before a0 Z = true) (pd : parseMethodDescriptor y.desc = some ⟨ps, rr⟩) (c : Con K.l Z EL nw y bytes maxL' none [] rm #[.ref a, v1, v2, v3] h S0 Post') (hS0 : ∀ x ∈ S0, x ∈ S) (f : ∀ v h' S', Post' v h' S' → h.size ≤ h'.size → Go Z EL nw R Post K h' (S' ++ S) (k + rm.cells) (n + rm.slots) pc' L (v.toList ++ rest)) (hy1 : y.name = "<init>" := by rfl) (hln : 3 = ps.length := by rfl) (hy : y.cls ≠ "java/lang/invoke/MethodHandle" ∧ y.cls ≠ "java/lang/invoke/VarHandle" := by decide) (hL : L.length = maxL := by rfl) (hf : rm.frames + 1 ≤ R.frames := by decide) (hl : (rest.map fun v => v.category).sum + (maxL' + 11) + rm.locals ≤ R.locals := by exact Nat.le_of_ble_eq_true rfl) (hcc : k + rm.cells ≤ R.cells := by decide) (hss : n + rm.slots ≤ R.slots := by decide) : Go Z EL nw R Post K h S k n pc L (v3 :: v2 :: v1 :: .ref a :: rest) := G.callI [v1, v2, v3] hd w1 w2 w3 w4 pd c hS0 rfl hln f hy1 hy hL hf hl hcc hss
theorem Good.callV3 (G : Good Z a0 EL K own code maxL ret nm) {v1 v2 v3 : Value} (hd : Dc code pc (.invokevirtual index) 3 pc') (w1 : (Cond.methodLink own index y).before a0 Z = true) (w2 : (Cond.declares y).before a0 Z = true) (w3 : (Cond.selects C y y).before a0 Z = true) (w4 : (Cond.instanceMethod y).before a0 Z = true) (w5 : (Cond.code y bytes maxL' ret').before a0 Z = true) (w6 : (Cond.initialized y.cls).before a0 Z = true) (pd : parseMethodDescriptor y.desc = some ⟨ps, rr⟩) (E : Exa Z h a C) (c : Con K.l Z EL nw y bytes maxL' ret' [] rm #[.ref a, v1, v2, v3] h S0 Post') (hS0 : ∀ x ∈ S0, x ∈ S) (f : ∀ v h' S', Post' v h' S' → h.size ≤ h'.size → Go Z EL nw R Post K h' (S' ++ S) (k + rm.cells) (n + rm.slots) pc' L (v.toList ++ rest)) (hln : 3 = ps.length := by rfl) (hy : y.cls ≠ "java/lang/invoke/MethodHandle" ∧ y.cls ≠ "java/lang/invoke/VarHandle" := by decide) (hL : L.length = maxL := by rfl) (hf : rm.frames + 1 ≤ R.frames := by decide) (hl : (rest.map fun v => v.category).sum + (maxL' + 11) + rm.locals ≤ R.locals := by exact Nat.le_of_ble_eq_true rfl) (hcc : k + rm.cells ≤ R.cells := by decide) (hss : n + rm.slots ≤ R.slots := by decide) : Go Z EL nw R Post K h S k n pc L (v3 :: v2 :: v1 :: .ref a :: rest) := G.callV (Nf.sel w3) [v1, v2, v3] hd w1 w2 w3 w4 w5 w6 pd E c hS0 rfl hln f hy hL hf hl hcc hss
theorem Good.callW3 (G : Good Z a0 EL K own code maxL ret nm) (nf : Nf Z y) {v1 v2 v3 : Value} (hd : Dc code pc (.invokevirtual index) 3 pc') (w1 : (Cond.methodLink own index y).before a0 Z = true) (w2 : (Cond.declares y).before a0 Z = true) (w3 : (Cond.selects C y z).before a0 Z = true) (w4 : (Cond.instanceMethod z).before a0 Z = true) (w5 : (Cond.code z bytes maxL' ret').before a0 Z = true) (w6 : (Cond.initialized z.cls).before a0 Z = true) (pd : parseMethodDescriptor y.desc = some ⟨ps, rr⟩) (E : Exa Z h a C) (c : Con K.l Z EL nw z bytes maxL' ret' [] rm #[.ref a, v1, v2, v3] h S0 Post') (hS0 : ∀ x ∈ S0, x ∈ S) (f : ∀ v h' S', Post' v h' S' → h.size ≤ h'.size → Go Z EL nw R Post K h' (S' ++ S) (k + rm.cells) (n + rm.slots) pc' L (v.toList ++ rest)) (hln : 3 = ps.length := by rfl) (hy : y.cls ≠ "java/lang/invoke/MethodHandle" ∧ y.cls ≠ "java/lang/invoke/VarHandle" := by decide) (hL : L.length = maxL := by rfl) (hf : rm.frames + 1 ≤ R.frames := by decide) (hl : (rest.map fun v => v.category).sum + (maxL' + 11) + rm.locals ≤ R.locals := by exact Nat.le_of_ble_eq_true rfl) (hcc : k + rm.cells ≤ R.cells := by decide) (hss : n + rm.slots ≤ R.slots := by decide) : Go Z EL nw R Post K h S k n pc L (v3 :: v2 :: v1 :: .ref a :: rest) := G.callV nf [v1, v2, v3] hd w1 w2 w3 w4 w5 w6 pd E c hS0 rfl hln f hy hL hf hl hcc hss
theorem Good.callP3 (G : Good Z a0 EL K own code maxL ret nm) {v1 v2 v3 : Value} (hd : Dc code pc (.invokevirtual index) 3 pc') (w1 : (Cond.methodLink own index y).before a0 Z = true) (w2 : (Cond.instanceMethod y).before a0 Z = true) (w3 : (Cond.privateMethod y).before a0 Z = true) (w4 : (Cond.code y bytes maxL' ret').before a0 Z = true) (w5 : (Cond.initialized y.cls).before a0 Z = true) (nf : Nf Z y) (pd : parseMethodDescriptor y.desc = some ⟨ps, rr⟩) (E : Exa Z h a C) (c : Con K.l Z EL nw y bytes maxL' ret' [] rm #[.ref a, v1, v2, v3] h S0 Post') (hS0 : ∀ x ∈ S0, x ∈ S) (f : ∀ v h' S', Post' v h' S' → h.size ≤ h'.size → Go Z EL nw R Post K h' (S' ++ S) (k + rm.cells) (n + rm.slots) pc' L (v.toList ++ rest)) (hln : 3 = ps.length := by rfl) (hy : y.cls ≠ "java/lang/invoke/MethodHandle" ∧ y.cls ≠ "java/lang/invoke/VarHandle" := by decide) (hL : L.length = maxL := by rfl) (hf : rm.frames + 1 ≤ R.frames := by decide) (hl : (rest.map fun v => v.category).sum + (maxL' + 11) + rm.locals ≤ R.locals := by exact Nat.le_of_ble_eq_true rfl) (hcc : k + rm.cells ≤ R.cells := by decide) (hss : n + rm.slots ≤ R.slots := by decide) : Go Z EL nw R Post K h S k n pc L (v3 :: v2 :: v1 :: .ref a :: rest) := G.callP [v1, v2, v3] hd w1 w2 w3 w4 w5 nf pd E c hS0 rfl hln f hy hL hf hl hcc hss
theorem Good.callF3 (G : Good Z a0 EL K own code maxL ret nm) {count : Nat} {v1 v2 v3 : Value} (hd : Dc code pc (.invokeinterface index count) 5 pc') (w1 : (Cond.methodLink own index y).before a0 Z = true) (w2 : (Cond.declares y).before a0 Z = true) (w3 : (Cond.interfaceMethod y.cls y.cls y.name y.desc).before a0 Z = true) (w4 : (Cond.selects C y z).before a0 Z = true) (w5 : (Cond.instanceMethod z).before a0 Z = true) (w6 : (Cond.publicMethod z).before a0 Z = true) (w7 : (Cond.unhidden C y.name y.desc).before a0 Z = true) (w8 : (Cond.castable C y.cls).before a0 Z = true) (w9 : (Cond.code z bytes maxL' ret').before a0 Z = true) (w10 : (Cond.initialized z.cls).before a0 Z = true) (pd : parseMethodDescriptor y.desc = some ⟨ps, rr⟩) (E : Exa Z h a C) (c : Con K.l Z EL nw z bytes maxL' ret' [] rm #[.ref a, v1, v2, v3] h S0 Post') (hS0 : ∀ x ∈ S0, x ∈ S) (f : ∀ v h' S', Post' v h' S' → h.size ≤ h'.size → Go Z EL nw R Post K h' (S' ++ S) (k + rm.cells) (n + rm.slots) pc' L (v.toList ++ rest)) (hln : 3 = ps.length := by rfl) (hy : y.cls ≠ "java/lang/invoke/MethodHandle" ∧ y.cls ≠ "java/lang/invoke/VarHandle" := by decide) (hL : L.length = maxL := by rfl) (hf : rm.frames + 1 ≤ R.frames := by decide) (hl : (rest.map fun v => v.category).sum + (maxL' + 11) + rm.locals ≤ R.locals := by exact Nat.le_of_ble_eq_true rfl) (hcc : k + rm.cells ≤ R.cells := by decide) (hss : n + rm.slots ≤ R.slots := by decide) : Go Z EL nw R Post K h S k n pc L (v3 :: v2 :: v1 :: .ref a :: rest) := G.callF [v1, v2, v3] hd w1 w2 w3 w4 w5 w6 w7 w8 w9 w10 pd E c hS0 rfl hln f hy hL hf hl hcc hss
theorem Good.callI4 (G : Good Z a0 EL K own code maxL ret nm) {v1 v2 v3 v4 : Value} (hd : Dc code pc (.invokespecial index) 3 pc') (w1 : (Cond.methodLink own index y).before a0 Z = true) (w2 : (Cond.instanceMethod y).before a0 Z = true) (w3 : (Cond.initialized y.cls).before a0 Z = true) (w4 : (Cond.code y bytes maxL' none).before a0 Z = true) (pd : parseMethodDescriptor y.desc = some ⟨ps, rr⟩) (c : Con K.l Z EL nw y bytes maxL' none [] rm #[.ref a, v1, v2, v3, v4] h S0 Post') (hS0 : ∀ x ∈ S0, x ∈ S) (f : ∀ v h' S', Post' v h' S' → h.size ≤ h'.size → Go Z EL nw R Post K h' (S' ++ S) (k + rm.cells) (n + rm.slots) pc' L (v.toList ++ rest)) (hy1 : y.name = "<init>" := by rfl) (hln : 4 = ps.length := by rfl) (hy : y.cls ≠ "java/lang/invoke/MethodHandle" ∧ y.cls ≠ "java/lang/invoke/VarHandle" := by decide) (hL : L.length = maxL := by rfl) (hf : rm.frames + 1 ≤ R.frames := by decide) (hl : (rest.map fun v => v.category).sum + (maxL' + 11) + rm.locals ≤ R.locals := by exact Nat.le_of_ble_eq_true rfl) (hcc : k + rm.cells ≤ R.cells := by decide) (hss : n + rm.slots ≤ R.slots := by decide) : Go Z EL nw R Post K h S k n pc L (v4 :: v3 :: v2 :: v1 :: .ref a :: rest) := G.callI [v1, v2, v3, v4] hd w1 w2 w3 w4 pd c hS0 rfl hln f hy1 hy hL hf hl hcc hss
theorem Good.callV4 (G : Good Z a0 EL K own code maxL ret nm) {v1 v2 v3 v4 : Value} (hd : Dc code pc (.invokevirtual index) 3 pc') (w1 : (Cond.methodLink own index y).before a0 Z = true) (w2 : (Cond.declares y).before a0 Z = true) (w3 : (Cond.selects C y y).before a0 Z = true) (w4 : (Cond.instanceMethod y).before a0 Z = true) (w5 : (Cond.code y bytes maxL' ret').before a0 Z = true) (w6 : (Cond.initialized y.cls).before a0 Z = true) (pd : parseMethodDescriptor y.desc = some ⟨ps, rr⟩) (E : Exa Z h a C) (c : Con K.l Z EL nw y bytes maxL' ret' [] rm #[.ref a, v1, v2, v3, v4] h S0 Post') (hS0 : ∀ x ∈ S0, x ∈ S) (f : ∀ v h' S', Post' v h' S' → h.size ≤ h'.size → Go Z EL nw R Post K h' (S' ++ S) (k + rm.cells) (n + rm.slots) pc' L (v.toList ++ rest)) (hln : 4 = ps.length := by rfl) (hy : y.cls ≠ "java/lang/invoke/MethodHandle" ∧ y.cls ≠ "java/lang/invoke/VarHandle" := by decide) (hL : L.length = maxL := by rfl) (hf : rm.frames + 1 ≤ R.frames := by decide) (hl : (rest.map fun v => v.category).sum + (maxL' + 11) + rm.locals ≤ R.locals := by exact Nat.le_of_ble_eq_true rfl) (hcc : k + rm.cells ≤ R.cells := by decide) (hss : n + rm.slots ≤ R.slots := by decide) : Go Z EL nw R Post K h S k n pc L (v4 :: v3 :: v2 :: v1 :: .ref a :: rest) := G.callV (Nf.sel w3) [v1, v2, v3, v4] hd w1 w2 w3 w4 w5 w6 pd E c hS0 rfl hln f hy hL hf hl hcc hss
theorem Good.callW4 (G : Good Z a0 EL K own code maxL ret nm) (nf : Nf Z y) {v1 v2 v3 v4 : Value} (hd : Dc code pc (.invokevirtual index) 3 pc') (w1 : (Cond.methodLink own index y).before a0 Z = true) (w2 : (Cond.declares y).before a0 Z = true) (w3 : (Cond.selects C y z).before a0 Z = true) (w4 : (Cond.instanceMethod z).before a0 Z = true) (w5 : (Cond.code z bytes maxL' ret').before a0 Z = true) (w6 : (Cond.initialized z.cls).before a0 Z = true) (pd : parseMethodDescriptor y.desc = some ⟨ps, rr⟩) (E : Exa Z h a C) (c : Con K.l Z EL nw z bytes maxL' ret' [] rm #[.ref a, v1, v2, v3, v4] h S0 Post') (hS0 : ∀ x ∈ S0, x ∈ S) (f : ∀ v h' S', Post' v h' S' → h.size ≤ h'.size → Go Z EL nw R Post K h' (S' ++ S) (k + rm.cells) (n + rm.slots) pc' L (v.toList ++ rest)) (hln : 4 = ps.length := by rfl) (hy : y.cls ≠ "java/lang/invoke/MethodHandle" ∧ y.cls ≠ "java/lang/invoke/VarHandle" := by decide) (hL : L.length = maxL := by rfl) (hf : rm.frames + 1 ≤ R.frames := by decide) (hl : (rest.map fun v => v.category).sum + (maxL' + 11) + rm.locals ≤ R.locals := by exact Nat.le_of_ble_eq_true rfl) (hcc : k + rm.cells ≤ R.cells := by decide) (hss : n + rm.slots ≤ R.slots := by decide) : Go Z EL nw R Post K h S k n pc L (v4 :: v3 :: v2 :: v1 :: .ref a :: rest) := G.callV nf [v1, v2, v3, v4] hd w1 w2 w3 w4 w5 w6 pd E c hS0 rfl hln f hy hL hf hl hcc hss
theorem Good.callP4 (G : Good Z a0 EL K own code maxL ret nm) {v1 v2 v3 v4 : Value} (hd : Dc code pc (.invokevirtual index) 3 pc') (w1 : (Cond.methodLink own index y).before a0 Z = true) (w2 : (Cond.instanceMethod y).before a0 Z = true) (w3 : (Cond.privateMethod y).before a0 Z = true) (w4 : (Cond.code y bytes maxL' ret').before a0 Z = true) (w5 : (Cond.initialized y.cls).before a0 Z = true) (nf : Nf Z y) (pd : parseMethodDescriptor y.desc = some ⟨ps, rr⟩) (E : Exa Z h a C) (c : Con K.l Z EL nw y bytes maxL' ret' [] rm #[.ref a, v1, v2, v3, v4] h S0 Post') (hS0 : ∀ x ∈ S0, x ∈ S) (f : ∀ v h' S', Post' v h' S' → h.size ≤ h'.size → Go Z EL nw R Post K h' (S' ++ S) (k + rm.cells) (n + rm.slots) pc' L (v.toList ++ rest)) (hln : 4 = ps.length := by rfl) (hy : y.cls ≠ "java/lang/invoke/MethodHandle" ∧ y.cls ≠ "java/lang/invoke/VarHandle" := by decide) (hL : L.length = maxL := by rfl) (hf : rm.frames + 1 ≤ R.frames := by decide) (hl : (rest.map fun v => v.category).sum + (maxL' + 11) + rm.locals ≤ R.locals := by exact Nat.le_of_ble_eq_true rfl) (hcc : k + rm.cells ≤ R.cells := by decide) (hss : n + rm.slots ≤ R.slots := by decide) : Go Z EL nw R Post K h S k n pc L (v4 :: v3 :: v2 :: v1 :: .ref a :: rest) := G.callP [v1, v2, v3, v4] hd w1 w2 w3 w4 w5 nf pd E c hS0 rfl hln f hy hL hf hl hcc hss
theorem Good.callF4 (G : Good Z a0 EL K own code maxL ret nm) {count : Nat} {v1 v2 v3 v4 : Value} (hd : Dc code pc (.invokeinterface index count) 5 pc') (w1 : (Cond.methodLink own index y).before a0 Z = true) (w2 : (Cond.declares y).before a0 Z = true) (w3 : (Cond.interfaceMethod y.cls y.cls y.name y.desc).before a0 Z = true) (w4 : (Cond.selects C y z).before a0 Z = true) (w5 : (Cond.instanceMethod z).before a0 Z = true) (w6 : (Cond.publicMethod z).before a0 Z = true) (w7 : (Cond.unhidden C y.name y.desc).before a0 Z = true) (w8 : (Cond.castable C y.cls).before a0 Z = true) (w9 : (Cond.code z bytes maxL' ret').before a0 Z = true) (w10 : (Cond.initialized z.cls).before a0 Z = true) (pd : parseMethodDescriptor y.desc = some ⟨ps, rr⟩) (E : Exa Z h a C) (c : Con K.l Z EL nw z bytes maxL' ret' [] rm #[.ref a, v1, v2, v3, v4] h S0 Post') (hS0 : ∀ x ∈ S0, x ∈ S) (f : ∀ v h' S', Post' v h' S' → h.size ≤ h'.size → Go Z EL nw R Post K h' (S' ++ S) (k + rm.cells) (n + rm.slots) pc' L (v.toList ++ rest)) (hln : 4 = ps.length := by rfl) (hy : y.cls ≠ "java/lang/invoke/MethodHandle" ∧ y.cls ≠ "java/lang/invoke/VarHandle" := by decide) (hL : L.length = maxL := by rfl) (hf : rm.frames + 1 ≤ R.frames := by decide) (hl : (rest.map fun v => v.category).sum + (maxL' + 11) + rm.locals ≤ R.locals := by exact Nat.le_of_ble_eq_true rfl) (hcc : k + rm.cells ≤ R.cells := by decide) (hss : n + rm.slots ≤ R.slots := by decide) : Go Z EL nw R Post K h S k n pc L (v4 :: v3 :: v2 :: v1 :: .ref a :: rest) := G.callF [v1, v2, v3, v4] hd w1 w2 w3 w4 w5 w6 w7 w8 w9 w10 pd E c hS0 rfl hln f hy hL hf hl hcc hss
theorem Good.callI5 (G : Good Z a0 EL K own code maxL ret nm) {v1 v2 v3 v4 v5 : Value} (hd : Dc code pc (.invokespecial index) 3 pc') (w1 : (Cond.methodLink own index y).before a0 Z = true) (w2 : (Cond.instanceMethod y).before a0 Z = true) (w3 : (Cond.initialized y.cls).before a0 Z = true) (w4 : (Cond.code y bytes maxL' none).before a0 Z = true) (pd : parseMethodDescriptor y.desc = some ⟨ps, rr⟩) (c : Con K.l Z EL nw y bytes maxL' none [] rm #[.ref a, v1, v2, v3, v4, v5] h S0 Post') (hS0 : ∀ x ∈ S0, x ∈ S) (f : ∀ v h' S', Post' v h' S' → h.size ≤ h'.size → Go Z EL nw R Post K h' (S' ++ S) (k + rm.cells) (n + rm.slots) pc' L (v.toList ++ rest)) (hy1 : y.name = "<init>" := by rfl) (hln : 5 = ps.length := by rfl) (hy : y.cls ≠ "java/lang/invoke/MethodHandle" ∧ y.cls ≠ "java/lang/invoke/VarHandle" := by decide) (hL : L.length = maxL := by rfl) (hf : rm.frames + 1 ≤ R.frames := by decide) (hl : (rest.map fun v => v.category).sum + (maxL' + 11) + rm.locals ≤ R.locals := by exact Nat.le_of_ble_eq_true rfl) (hcc : k + rm.cells ≤ R.cells := by decide) (hss : n + rm.slots ≤ R.slots := by decide) : Go Z EL nw R Post K h S k n pc L (v5 :: v4 :: v3 :: v2 :: v1 :: .ref a :: rest) := G.callI [v1, v2, v3, v4, v5] hd w1 w2 w3 w4 pd c hS0 rfl hln f hy1 hy hL hf hl hcc hss
theorem Good.callV5 (G : Good Z a0 EL K own code maxL ret nm) {v1 v2 v3 v4 v5 : Value} (hd : Dc code pc (.invokevirtual index) 3 pc') (w1 : (Cond.methodLink own index y).before a0 Z = true) (w2 : (Cond.declares y).before a0 Z = true) (w3 : (Cond.selects C y y).before a0 Z = true) (w4 : (Cond.instanceMethod y).before a0 Z = true) (w5 : (Cond.code y bytes maxL' ret').before a0 Z = true) (w6 : (Cond.initialized y.cls).before a0 Z = true) (pd : parseMethodDescriptor y.desc = some ⟨ps, rr⟩) (E : Exa Z h a C) (c : Con K.l Z EL nw y bytes maxL' ret' [] rm #[.ref a, v1, v2, v3, v4, v5] h S0 Post') (hS0 : ∀ x ∈ S0, x ∈ S) (f : ∀ v h' S', Post' v h' S' → h.size ≤ h'.size → Go Z EL nw R Post K h' (S' ++ S) (k + rm.cells) (n + rm.slots) pc' L (v.toList ++ rest)) (hln : 5 = ps.length := by rfl) (hy : y.cls ≠ "java/lang/invoke/MethodHandle" ∧ y.cls ≠ "java/lang/invoke/VarHandle" := by decide) (hL : L.length = maxL := by rfl) (hf : rm.frames + 1 ≤ R.frames := by decide) (hl : (rest.map fun v => v.category).sum + (maxL' + 11) + rm.locals ≤ R.locals := by exact Nat.le_of_ble_eq_true rfl) (hcc : k + rm.cells ≤ R.cells := by decide) (hss : n + rm.slots ≤ R.slots := by decide) : Go Z EL nw R Post K h S k n pc L (v5 :: v4 :: v3 :: v2 :: v1 :: .ref a :: rest) := G.callV (Nf.sel w3) [v1, v2, v3, v4, v5] hd w1 w2 w3 w4 w5 w6 pd E c hS0 rfl hln f hy hL hf hl hcc hss
theorem Good.callW5 (G : Good Z a0 EL K own code maxL ret nm) (nf : Nf Z y) {v1 v2 v3 v4 v5 : Value} (hd : Dc code pc (.invokevirtual index) 3 pc') (w1 : (Cond.methodLink own index y).before a0 Z = true) (w2 : (Cond.declares y).before a0 Z = true) (w3 : (Cond.selects C y z).before a0 Z = true) (w4 : (Cond.instanceMethod z).before a0 Z = true) (w5 : (Cond.code z bytes maxL' ret').before a0 Z = true) (w6 : (Cond.initialized z.cls).before a0 Z = true) (pd : parseMethodDescriptor y.desc = some ⟨ps, rr⟩) (E : Exa Z h a C) (c : Con K.l Z EL nw z bytes maxL' ret' [] rm #[.ref a, v1, v2, v3, v4, v5] h S0 Post') (hS0 : ∀ x ∈ S0, x ∈ S) (f : ∀ v h' S', Post' v h' S' → h.size ≤ h'.size → Go Z EL nw R Post K h' (S' ++ S) (k + rm.cells) (n + rm.slots) pc' L (v.toList ++ rest)) (hln : 5 = ps.length := by rfl) (hy : y.cls ≠ "java/lang/invoke/MethodHandle" ∧ y.cls ≠ "java/lang/invoke/VarHandle" := by decide) (hL : L.length = maxL := by rfl) (hf : rm.frames + 1 ≤ R.frames := by decide) (hl : (rest.map fun v => v.category).sum + (maxL' + 11) + rm.locals ≤ R.locals := by exact Nat.le_of_ble_eq_true rfl) (hcc : k + rm.cells ≤ R.cells := by decide) (hss : n + rm.slots ≤ R.slots := by decide) : Go Z EL nw R Post K h S k n pc L (v5 :: v4 :: v3 :: v2 :: v1 :: .ref a :: rest) := G.callV nf [v1, v2, v3, v4, v5] hd w1 w2 w3 w4 w5 w6 pd E c hS0 rfl hln f hy hL hf hl hcc hss
theorem Good.callP5 (G : Good Z a0 EL K own code maxL ret nm) {v1 v2 v3 v4 v5 : Value} (hd : Dc code pc (.invokevirtual index) 3 pc') (w1 : (Cond.methodLink own index y).before a0 Z = true) (w2 : (Cond.instanceMethod y).before a0 Z = true) (w3 : (Cond.privateMethod y).before a0 Z = true) (w4 : (Cond.code y bytes maxL' ret').before a0 Z = true) (w5 : (Cond.initialized y.cls).before a0 Z = true) (nf : Nf Z y) (pd : parseMethodDescriptor y.desc = some ⟨ps, rr⟩) (E : Exa Z h a C) (c : Con K.l Z EL nw y bytes maxL' ret' [] rm #[.ref a, v1, v2, v3, v4, v5] h S0 Post') (hS0 : ∀ x ∈ S0, x ∈ S) (f : ∀ v h' S', Post' v h' S' → h.size ≤ h'.size → Go Z EL nw R Post K h' (S' ++ S) (k + rm.cells) (n + rm.slots) pc' L (v.toList ++ rest)) (hln : 5 = ps.length := by rfl) (hy : y.cls ≠ "java/lang/invoke/MethodHandle" ∧ y.cls ≠ "java/lang/invoke/VarHandle" := by decide) (hL : L.length = maxL := by rfl) (hf : rm.frames + 1 ≤ R.frames := by decide) (hl : (rest.map fun v => v.category).sum + (maxL' + 11) + rm.locals ≤ R.locals := by exact Nat.le_of_ble_eq_true rfl) (hcc : k + rm.cells ≤ R.cells := by decide) (hss : n + rm.slots ≤ R.slots := by decide) : Go Z EL nw R Post K h S k n pc L (v5 :: v4 :: v3 :: v2 :: v1 :: .ref a :: rest) := G.callP [v1, v2, v3, v4, v5] hd w1 w2 w3 w4 w5 nf pd E c hS0 rfl hln f hy hL hf hl hcc hss
theorem Good.callF5 (G : Good Z a0 EL K own code maxL ret nm) {count : Nat} {v1 v2 v3 v4 v5 : Value} (hd : Dc code pc (.invokeinterface index count) 5 pc') (w1 : (Cond.methodLink own index y).before a0 Z = true) (w2 : (Cond.declares y).before a0 Z = true) (w3 : (Cond.interfaceMethod y.cls y.cls y.name y.desc).before a0 Z = true) (w4 : (Cond.selects C y z).before a0 Z = true) (w5 : (Cond.instanceMethod z).before a0 Z = true) (w6 : (Cond.publicMethod z).before a0 Z = true) (w7 : (Cond.unhidden C y.name y.desc).before a0 Z = true) (w8 : (Cond.castable C y.cls).before a0 Z = true) (w9 : (Cond.code z bytes maxL' ret').before a0 Z = true) (w10 : (Cond.initialized z.cls).before a0 Z = true) (pd : parseMethodDescriptor y.desc = some ⟨ps, rr⟩) (E : Exa Z h a C) (c : Con K.l Z EL nw z bytes maxL' ret' [] rm #[.ref a, v1, v2, v3, v4, v5] h S0 Post') (hS0 : ∀ x ∈ S0, x ∈ S) (f : ∀ v h' S', Post' v h' S' → h.size ≤ h'.size → Go Z EL nw R Post K h' (S' ++ S) (k + rm.cells) (n + rm.slots) pc' L (v.toList ++ rest)) (hln : 5 = ps.length := by rfl) (hy : y.cls ≠ "java/lang/invoke/MethodHandle" ∧ y.cls ≠ "java/lang/invoke/VarHandle" := by decide) (hL : L.length = maxL := by rfl) (hf : rm.frames + 1 ≤ R.frames := by decide) (hl : (rest.map fun v => v.category).sum + (maxL' + 11) + rm.locals ≤ R.locals := by exact Nat.le_of_ble_eq_true rfl) (hcc : k + rm.cells ≤ R.cells := by decide) (hss : n + rm.slots ≤ R.slots := by decide) : Go Z EL nw R Post K h S k n pc L (v5 :: v4 :: v3 :: v2 :: v1 :: .ref a :: rest) := G.callF [v1, v2, v3, v4, v5] hd w1 w2 w3 w4 w5 w6 w7 w8 w9 w10 pd E c hS0 rfl hln f hy hL hf hl hcc hss
theorem Good.callU0 (G : Good Z a0 EL K own code maxL ret nm) (hd : Dc code pc (.invokespecial index) 3 pc') (w1 : (Cond.methodLink own index y).before a0 Z = true) (w2 : Nf Z y) (w3 : (Cond.instanceMethod y).before a0 Z = true) (w4 : (Cond.superclass own y.cls).before a0 Z = true) (w5 : (Cond.code y bytes maxL' ret').before a0 Z = true) (w6 : (Cond.initialized y.cls).before a0 Z = true) (pd : parseMethodDescriptor y.desc = some ⟨ps, rr⟩) (E : Exa Z h a C) (c : Con K.l Z EL nw y bytes maxL' ret' [] rm #[.ref a] h S0 Post') (hS0 : ∀ x ∈ S0, x ∈ S) (f : ∀ v h' S', Post' v h' S' → h.size ≤ h'.size → Go Z EL nw R Post K h' (S' ++ S) (k + rm.cells) (n + rm.slots) pc' L (v.toList ++ rest)) (hy1 : y.name ≠ "<init>" := by decide) (hln : 0 = ps.length := by rfl) (hy : y.cls ≠ "java/lang/invoke/MethodHandle" ∧ y.cls ≠ "java/lang/invoke/VarHandle" := by decide) (hL : L.length = maxL := by rfl) (hf : rm.frames + 1 ≤ R.frames := by decide) (hl : (rest.map fun v => v.category).sum + (maxL' + 11) + rm.locals ≤ R.locals := by exact Nat.le_of_ble_eq_true rfl) (hcc : k + rm.cells ≤ R.cells := by decide) (hss : n + rm.slots ≤ R.slots := by decide) : Go Z EL nw R Post K h S k n pc L (.ref a :: rest) := G.callU [] hd w1 w2 w3 w4 w5 w6 pd E c hS0 rfl hln f hy1 hy hL hf hl hcc hss
theorem Good.callU1 (G : Good Z a0 EL K own code maxL ret nm) {v1 : Value} (hd : Dc code pc (.invokespecial index) 3 pc') (w1 : (Cond.methodLink own index y).before a0 Z = true) (w2 : Nf Z y) (w3 : (Cond.instanceMethod y).before a0 Z = true) (w4 : (Cond.superclass own y.cls).before a0 Z = true) (w5 : (Cond.code y bytes maxL' ret').before a0 Z = true) (w6 : (Cond.initialized y.cls).before a0 Z = true) (pd : parseMethodDescriptor y.desc = some ⟨ps, rr⟩) (E : Exa Z h a C) (c : Con K.l Z EL nw y bytes maxL' ret' [] rm #[.ref a, v1] h S0 Post') (hS0 : ∀ x ∈ S0, x ∈ S) (f : ∀ v h' S', Post' v h' S' → h.size ≤ h'.size → Go Z EL nw R Post K h' (S' ++ S) (k + rm.cells) (n + rm.slots) pc' L (v.toList ++ rest)) (hy1 : y.name ≠ "<init>" := by decide) (hln : 1 = ps.length := by rfl) (hy : y.cls ≠ "java/lang/invoke/MethodHandle" ∧ y.cls ≠ "java/lang/invoke/VarHandle" := by decide) (hL : L.length = maxL := by rfl) (hf : rm.frames + 1 ≤ R.frames := by decide) (hl : (rest.map fun v => v.category).sum + (maxL' + 11) + rm.locals ≤ R.locals := by exact Nat.le_of_ble_eq_true rfl) (hcc : k + rm.cells ≤ R.cells := by decide) (hss : n + rm.slots ≤ R.slots := by decide) : Go Z EL nw R Post K h S k n pc L (v1 :: .ref a :: rest) := G.callU [v1] hd w1 w2 w3 w4 w5 w6 pd E c hS0 rfl hln f hy1 hy hL hf hl hcc hss
theorem Good.callU2 (G : Good Z a0 EL K own code maxL ret nm) {v1 v2 : Value} (hd : Dc code pc (.invokespecial index) 3 pc') (w1 : (Cond.methodLink own index y).before a0 Z = true) (w2 : Nf Z y) (w3 : (Cond.instanceMethod y).before a0 Z = true) (w4 : (Cond.superclass own y.cls).before a0 Z = true) (w5 : (Cond.code y bytes maxL' ret').before a0 Z = true) (w6 : (Cond.initialized y.cls).before a0 Z = true) (pd : parseMethodDescriptor y.desc = some ⟨ps, rr⟩) (E : Exa Z h a C) (c : Con K.l Z EL nw y bytes maxL' ret' [] rm #[.ref a, v1, v2] h S0 Post') (hS0 : ∀ x ∈ S0, x ∈ S) (f : ∀ v h' S', Post' v h' S' → h.size ≤ h'.size → Go Z EL nw R Post K h' (S' ++ S) (k + rm.cells) (n + rm.slots) pc' L (v.toList ++ rest)) (hy1 : y.name ≠ "<init>" := by decide) (hln : 2 = ps.length := by rfl) (hy : y.cls ≠ "java/lang/invoke/MethodHandle" ∧ y.cls ≠ "java/lang/invoke/VarHandle" := by decide) (hL : L.length = maxL := by rfl) (hf : rm.frames + 1 ≤ R.frames := by decide) (hl : (rest.map fun v => v.category).sum + (maxL' + 11) + rm.locals ≤ R.locals := by exact Nat.le_of_ble_eq_true rfl) (hcc : k + rm.cells ≤ R.cells := by decide) (hss : n + rm.slots ≤ R.slots := by decide) : Go Z EL nw R Post K h S k n pc L (v2 :: v1 :: .ref a :: rest) := G.callU [v1, v2] hd w1 w2 w3 w4 w5 w6 pd E c hS0 rfl hln f hy1 hy hL hf hl hcc hss
theorem Good.callU3 (G : Good Z a0 EL K own code maxL ret nm) {v1 v2 v3 : Value} (hd : Dc code pc (.invokespecial index) 3 pc') (w1 : (Cond.methodLink own index y).before a0 Z = true) (w2 : Nf Z y) (w3 : (Cond.instanceMethod y).before a0 Z = true) (w4 : (Cond.superclass own y.cls).before a0 Z = true) (w5 : (Cond.code y bytes maxL' ret').before a0 Z = true) (w6 : (Cond.initialized y.cls).before a0 Z = true) (pd : parseMethodDescriptor y.desc = some ⟨ps, rr⟩) (E : Exa Z h a C) (c : Con K.l Z EL nw y bytes maxL' ret' [] rm #[.ref a, v1, v2, v3] h S0 Post') (hS0 : ∀ x ∈ S0, x ∈ S) (f : ∀ v h' S', Post' v h' S' → h.size ≤ h'.size → Go Z EL nw R Post K h' (S' ++ S) (k + rm.cells) (n + rm.slots) pc' L (v.toList ++ rest)) (hy1 : y.name ≠ "<init>" := by decide) (hln : 3 = ps.length := by rfl) (hy : y.cls ≠ "java/lang/invoke/MethodHandle" ∧ y.cls ≠ "java/lang/invoke/VarHandle" := by decide) (hL : L.length = maxL := by rfl) (hf : rm.frames + 1 ≤ R.frames := by decide) (hl : (rest.map fun v => v.category).sum + (maxL' + 11) + rm.locals ≤ R.locals := by exact Nat.le_of_ble_eq_true rfl) (hcc : k + rm.cells ≤ R.cells := by decide) (hss : n + rm.slots ≤ R.slots := by decide) : Go Z EL nw R Post K h S k n pc L (v3 :: v2 :: v1 :: .ref a :: rest) := G.callU [v1, v2, v3] hd w1 w2 w3 w4 w5 w6 pd E c hS0 rfl hln f hy1 hy hL hf hl hcc hss
end Calls
end Jvm.Own
namespace Jvm.Own
open Jvm Jvm.ClassFile Sem Op Lib Jvm.Free Jvm.Stand Jvm.LawKit Jvm.RoadKit Bundle
/-- the String at a: its coder, its byte[] b and what that holds -/
def StrB (Z : State) (h : Heap) (a : Addr) (cd : Int32) (b : Addr) (vs : List Value) : Prop := Exa Z h a "java/lang/String" ∧ Fld Z h a "java/lang/String" "coder" "B" (.int cd) ∧ Fld Z h a "java/lang/String" "value" "[B" (.ref b) ∧ Al Z h b .byte vs
section StrFacts
variable {Z : State} {h h' : Heap} {a b : Addr} {cd : Int32} {vs : List Value} {ws : List Addr}
theorem StrB.ext (F : StrB Z h a cd b vs) (E : Ext h h') : StrB Z h' a cd b vs := ⟨F.1.ext E, F.2.1.ext E, F.2.2.1.ext E, F.2.2.2.ext E⟩
theorem StrB.keep (F : StrB Z h a cd b vs) (K : Keep h h' ws) (q : a ∉ ws) (r : b ∉ ws) : StrB Z h' a cd b vs := ⟨F.1.keep K, F.2.1.keep K q, F.2.2.1.keep K q, F.2.2.2.keep K r⟩
theorem StrB.lt (F : StrB Z h a cd b vs) : a < h.size ∧ b < h.size := ⟨F.1.lt, F.2.2.2.lt⟩
/-- an object of a class right under the root is no instance of another class -/
theorem notInst {a0 : Array Value} {C O D : String} {cnt : Nat} (w : (Cond.superclass C O).before a0 Z = true) (wo : (Cond.noSuperclass O).before a0 Z = true) (wi : (Cond.instantiable D cnt).before a0 Z = true) (h1 : C ≠ D) (h2 : O ≠ D) : ∃ c t, Z.vm.findClass C = some c ∧ Z.vm.findClass D = some t ∧ Z.vm.assignable c t = false := by
  obtain ⟨t, k', g1, g2, g3, g4, -⟩ := Cond.instantiable_spec wi
  simp only [Bool.or_eq_false_iff] at g4
  obtain ⟨co, ko, o1, o2, o3, -⟩ := Cond.noSuperclass_spec wo
  obtain ⟨c, q0⟩ := found_sup w
  obtain ⟨p, kk, kp, q1, q2, q3, q4, q5, -⟩ := Cond.superclass_spec q0 w
  cases o1.symm.trans q1
  have ne := ids_ne q0 g1 h1
  have ne' := ids_ne o1 g1 h2
  have n3 : ∀ fuel, Z.vm.isSubclassAux fuel c t = false := fun fuel => by
    cases fuel with
    | zero => rfl
    | succ f => cases f with
      | zero => simp [Vm.isSubclassAux, ne, q2, q4]
      | succ f => simp [Vm.isSubclassAux, ne, ne', q2, q4, o2, o3]
  refine ⟨c, t, q0, g1, ?_⟩
  show Z.vm.assignableAux (255 + 1) c t = false
  simp [Vm.assignableAux, ne, q2, g2, q5, g3, g4.1, Vm.isSubclass, n3]
end StrFacts
section Lit
variable {Z : State} {a0 : Array Value} {EL : List (String × Nat)} {nw : Bool} {R : Room} {Post : Pst} {K : Kx} {own : String} {code : ByteArray} {maxL : Nat} {ret : Option FieldType} {nm : String} {h h' : Heap} {S : List Addr} {k n pc pc' : Nat} {L : List Slot} {st : List Value} {l : Launch}
/-- ldc of a String constant whose text is known -/
theorem Good.ldcS (G : Good Z a0 EL K own code maxL ret nm) {index : Nat} {text : String} (N : Nat) (vs : List Value) (z : Int32) (hd : Dc code pc (.ldc index) 2 pc') (w : (Cond.stringLink own index text).before a0 Z = true) (wS : ∀ a ∈ Bundle.stringAtoms, a.before a0 Z = true) (hnw : nw = false) (hmem : (own, index) ∈ EL)
    (ht : (∀ c ∈ text.toList, c.toNat < 256) ∧ text.toList.map (fun c => Value.int (Jvm.Lit.byteI c.toNat.toUInt16)) = vs) (hz : ¬ z < 0) (hl : z.toNatClampNeg = vs.length) (hn : 4 * text.toList.length ≤ N) (hbig : N ≤ 536870912)
    (f : ∀ a b h', Ext h h' → StrB Z h' a 0 b vs → (∀ x ∈ S, x ≠ a ∧ x ≠ b) → Go Z EL nw R Post K h' S (k + 2) (n + (N + 4)) pc' L (.ref a :: st)) (hc : k + 2 ≤ R.cells := by decide) (hl' : n + (N + 4) ≤ R.slots := by decide) : Go Z EL nw R Post K h S k n pc L st := fun T I => by
  obtain ⟨hd, rfl⟩ := hd
  obtain ⟨vm0, k0, locs, X, hS, hk0, hZ, e, Nf, CH, hSf, hw, hO⟩ := I
  obtain ⟨a, T', h', k1, b, kc, X', e', E, hS', hk1, hZ', hf', f1, f2, f3, f4, -, -, hC, -, hne, stp⟩ := ldcCH X G.1 hZ (G.hown hS) w wS e hS hk0 G.2.2.2.2.2.2.2 hmem CH.1 ht hz hl (g := mkF K.m pc L.toArray st) rfl (hb G.2.1 hd) hn hbig hc hl'
  have hsafe : ∀ x ∈ S, Safe Z EL T'.vm h' x := fun x hx => hC.safe (hSf x hx).2.1 (hSf x hx).2.2
  refine (f a b h' E ⟨f1, f2, f3, Al.of_arv f4 hl⟩ (fun x hx => hne x (hsafe x hx)) T' ⟨T'.vm, k1, locs, X', hS', hk1, hZ', e', Nf, CH.trans hC, fun x hx => ⟨(hSf x hx).1, Nat.lt_of_lt_of_le (hSf x hx).2.1 E.1, hsafe x hx⟩, fun q => (by rw [hnw] at q; cases q), ⟨Nat.le_trans hO.1 E.1, fun x c q => E.2 x c (hO.2 x c q)⟩⟩).step stp
/-- ldc of a String constant, what it holds unsaid -/
theorem Good.ldcO (G : Good Z a0 EL K own code maxL ret nm) {index : Nat} {text : String} (N : Nat) (hd : Dc code pc (.ldc index) 2 pc') (w : (Cond.stringLink own index text).before a0 Z = true) (wS : ∀ a ∈ Bundle.stringAtoms, a.before a0 Z = true) (hnw : nw = false) (hn : 4 * text.toList.length ≤ N) (hbig : N ≤ 536870912)
    (f : ∀ a h', Ext h h' → Go Z EL nw R Post K h' S (k + 2) (n + (N + 4)) pc' L (.ref a :: st)) (hc : k + 2 ≤ R.cells := by decide) (hl' : n + (N + 4) ≤ R.slots := by decide) : Go Z EL nw R Post K h S k n pc L st := fun T I => by
  obtain ⟨hd, rfl⟩ := hd
  obtain ⟨vm0, k0, locs, X, hS, hk0, hZ, e, Nf, CH, hSf, hw, hO⟩ := I
  obtain ⟨a, T', h', k1, X', e', E, hS', hk1, hZ', hf', hC, -, stp⟩ := ldcOH X G.1 hZ (G.hown hS) w wS e hS hk0 G.2.2.2.2.2.2.2 CH.1 (g := mkF K.m pc L.toArray st) rfl (hb G.2.1 hd) hn hbig hc hl'
  exact (f a h' E T' ⟨T'.vm, k1, locs, X', hS', hk1, hZ', e', Nf, CH.trans hC, fun x hx => ⟨(hSf x hx).1, Nat.lt_of_lt_of_le (hSf x hx).2.1 E.1, hC.safe (hSf x hx).2.1 (hSf x hx).2.2⟩, fun q => (by rw [hnw] at q; cases q), ⟨Nat.le_trans hO.1 E.1, fun x c q => E.2 x c (hO.2 x c q)⟩⟩).step stp
end Lit
end Jvm.Own
namespace Jvm.Own
open Jvm Jvm.ClassFile Sem Op Lib Jvm.Free Jvm.Stand Jvm.LawKit Jvm.RoadKit Bundle
section More
variable {Z : State} {a0 : Array Value} {EL : List (String × Nat)} {nw : Bool} {R : Room} {Post : Pst} {K : Kx} {own : String} {code : ByteArray} {maxL : Nat} {ret : Option FieldType} {nm : String} {h h' : Heap} {S : List Addr} {k n pc pc' : Nat} {L : List Slot} {st : List Value} {l : Launch}
/-- newarray, with the array's class -/
theorem Good.newAE (G : Good Z a0 EL K own code maxL ret nm) {aty : ArrayType} {j : Int32} {ad : String} (i cap : Nat) (hd : Dc code pc (.newarray aty) 2 pc') (w : (Cond.arrayClass (newarray.typeOf aty)).before a0 Z = true) (had : "[" ++ (newarray.typeOf aty).toString = ad) (hj : j.toInt = (i : Int)) (hi : i ≤ cap)
    (f : ∀ h', Ext h h' → h.size < h'.size → (Al Z h' h.size (newarray.typeOf aty) (List.replicate i (defaultValue (newarray.typeOf aty))) ∧ Exa Z h' h.size ad) → Go Z EL nw R Post K h' (h.size :: S) (k + 1) (n + cap) pc' L (.ref h.size :: st)) (hb' : cap * 8 ≤ 536870912 := by decide) (hc : k + 1 ≤ R.cells := by decide) (hl : n + cap ≤ R.slots := by decide) : Go Z EL nw R Post K h S k n pc L (.int j :: st) := by
  obtain ⟨hd, rfl⟩ := hd
  obtain ⟨j1, j2⟩ := nat_idx hj
  refine Go.grow G (fun T vm0 locs X hZ hown e => ?_) f
  obtain ⟨T', h', cA, X', e', E, A, Ex, stp⟩ := newPE X G.1 hZ w e (g := mkF K.m pc L.toArray (.int j :: st)) rfl (hb G.2.1 hd) rfl j1 (by rw [j2]; exact hi) hb' hc hl had
  exact ⟨T', h', X', e', E, A.lt, ⟨⟨_, A, by simp [RoadKit.newA, j2], by simp; omega, fun v hv => by rw [List.eq_of_mem_replicate hv]; cases aty <;> rfl⟩, Ex⟩, stp⟩
/-- baload of a boolean[] -/
theorem Good.zaload (G : Good Z a0 EL K own code maxL ret nm) {a : Addr} {vs : List Value} {j : Int32} {i : Nat} {v : Value} (hd : Dc code pc .baload 1 pc') (A : Al Z h a .boolean vs) (hj : j.toInt = (i : Int)) (hv : vs[i]? = some v) (f : Go Z EL nw R Post K h S k n pc' L (v :: st)) : Go Z EL nw R Post K h S k n pc L (.int j :: .ref a :: st) := by
  obtain ⟨hd, rfl⟩ := hd
  obtain ⟨c, A1, A2, A3, A4⟩ := A
  obtain ⟨j1, j2⟩ := nat_idx hj
  have hlt := (List.getElem?_eq_some_iff.mp hv).1
  refine Go.calm G (fun T vm0 locs X hZ hown e => ⟨T, X, e, fun t q => ?_⟩) f
  exact X.baloadBooleans G.1 (by rw [e]; exact A1.1) (State.isArrayOf_alike hZ.alike A1.2.1) A1.2.2 (by rw [j2, A2]; simp only [List.size_toArray]; rintro (q | q); exact j1 q; omega) (by rw [j2, A2]; simpa using hv) (g := mkF K.m pc L.toArray (.int j :: .ref a :: st)) rfl rfl (hb G.2.1 hd) t q
/-- clone of an array -/
theorem Good.aclone (G : Good Z a0 EL K own code maxL ret nm) {ad : String} {index : Nat} {a : Addr} {ty : FieldType} {vs : List Value} (cap : Nat) (hd : Dc code pc (.invokevirtual index) 3 pc')
    (w1 : (Cond.methodLink own index ⟨ad, "clone", "()Ljava/lang/Object;"⟩).before a0 Z = true) (w2 : (Cond.sameMethod ad "java/lang/Object" "clone" "()Ljava/lang/Object;").before a0 Z = true) (w3 : (Cond.native ⟨"java/lang/Object", "clone", "()Ljava/lang/Object;"⟩).before a0 Z = true)
    (w4 : (Cond.instanceMethod ⟨"java/lang/Object", "clone", "()Ljava/lang/Object;"⟩).before a0 Z = true) (w5 : (Cond.selects ad ⟨ad, "clone", "()Ljava/lang/Object;"⟩ ⟨"java/lang/Object", "clone", "()Ljava/lang/Object;"⟩).before a0 Z = true) (w6 : (Cond.castable ad "java/lang/Cloneable").before a0 Z = true)
    (A : Al Z h a ty vs) (E : Exa Z h a ad) (hcap : vs.length ≤ cap)
    (f : ∀ h', Ext h h' → h.size < h'.size → (Al Z h' h.size ty vs ∧ Exa Z h' h.size ad) → Go Z EL nw R Post K h' (h.size :: S) (k + 1) (n + cap) pc' L (.ref h.size :: st)) (hL : L.length = maxL := by rfl) (hf : 1 ≤ R.frames := by decide) (hl : (st.map fun v => v.category).sum + 14 ≤ R.locals := by exact Nat.le_of_ble_eq_true rfl) (hc : k + 1 ≤ R.cells := by decide) (hsl : n + cap ≤ R.slots := by decide) : Go Z EL nw R Post K h S k n pc L (.ref a :: st) := by
  obtain ⟨hd, rfl⟩ := hd
  obtain ⟨c, A1, A2, A3, A4⟩ := A
  refine Go.grow G (fun T vm0 locs X hZ hown e => ?_) f
  have FC : FitC Z c := fitC_of A1 fun i hi v hv => A4 v (by rw [A2] at hv; exact List.mem_of_getElem? (by simpa using hv))
  obtain ⟨T', h', X', e', ex, A', E', stp⟩ := cloneA X G.1 hZ hown w1 w2 w3 w4 w5 w6 e A1 E FC (g := mkF K.m pc L.toArray (.ref a :: st)) rfl (by rw [G.2.2.1]; simpa using hL) rfl (hb G.2.1 hd) hf (W := (st.map fun v => v.category).sum) (by show 2 * 0 + _ ≤ _; omega) hl (by rw [A2]; simpa using hcap) hc hsl
  exact ⟨T', h', X', e', ex, A'.lt, ⟨⟨_, A', A2, A3, A4⟩, E'⟩, stp⟩
end More
end Jvm.Own
namespace Jvm.Pilot.@@N@@
open Jvm Jvm.ClassFile Sem Op Lib Jvm.Free Jvm.Stand Jvm.LawKit Jvm.RoadKit Jvm.Own Bundle Jvm.Pilot.@@N@@.Jvm.D
set_option maxRecDepth 65536
set_option maxHeartbeats 4000000
abbrev hwT (a0 : Array Value) (Z : State) : Prop := ∀ (i : Nat) {d : Jvm.Cond}, tables_1[i]? = some d → d.before a0 Z = true
abbrev SN : String := "java/lang/String"
def CS (Z : State) : Prop := ∃ cc : Int32, Sta Z Z.heap "java/lang/String" "COMPACT_STRINGS" "Z" (.int cc) ∧ ¬ cc = 0
/-- a char's byte in a Latin-1 String -/
def bL (c : Int32) : Value := .int c.toInt8.toInt32
def Lat (cs : List Int32) : Prop := ∀ c ∈ cs, 0 ≤ c.toInt ∧ c.toInt < 256
abbrev rm0 : Room := { frames := 0, cells := 0, slots := 0, locals := 0 }
theorem inc_toInt {x : Int32} {i : Nat} (hx : x.toInt = (i : Int)) (hi : i + 1 < 2147483648) : (x + 1).toInt = ((i + 1 : Nat) : Int) := by
  have h1 := c_iadd x 1
  have h2 : (1 : Int32).toInt = 1 := by decide
  have h3 := rng32 (x + 1)
  rw [h2, hx] at h1
  omega
theorem lt_of_toInt {x y : Int32} (h : x.toInt < y.toInt) : x < y := Int32.lt_iff_toInt_lt.mpr h
theorem not_lt_of_toInt {x y : Int32} (h : y.toInt ≤ x.toInt) : ¬ x < y := fun q => by rw [Int32.lt_iff_toInt_lt] at q; omega
theorem nar8 (c : Int32) : nar .byte c.toInt8.toInt32 = c.toInt8.toInt32 := by simp [nar]
theorem set_mid {α : Type} (A B : List α) (x y : α) : (A ++ x :: B).set A.length y = A ++ y :: B := by simp
theorem get_mid {α : Type} (A B : List α) (x : α) : (A ++ x :: B)[A.length]? = some x := by simp
theorem toInt_0 : (0 : Int32).toInt = 0 := by decide
theorem byte_back {c : Int32} (h0 : 0 ≤ c.toInt) (h1 : c.toInt < 256) : (c.toInt8.toInt32 &&& 255) = c := by
  have a1 := c_i2b c
  have a2 := c_mask c.toInt8.toInt32 255 8 (by decide) (by decide)
  apply Int32.toInt_inj.mp
  have h2 : ((2 ^ 8 : Nat) : Int) = 256 := by decide
  rw [h2] at a2
  omega
theorem bL_inj {c d : Int32} (hc : 0 ≤ c.toInt ∧ c.toInt < 256) (hd : 0 ≤ d.toInt ∧ d.toInt < 256) (h : c.toInt8.toInt32 = d.toInt8.toInt32) : c = d := by
  rw [← byte_back hc.1 hc.2, ← byte_back hd.1 hd.2, h]
theorem nar_char {x : Int32} (h0 : 0 ≤ x.toInt) (h1 : x.toInt < 65536) : nar .char x = x := by
  have := c_i2c x
  apply Int32.toInt_inj.mp
  show x.toUInt32.toUInt16.toUInt32.toInt32.toInt = x.toInt
  omega
theorem ch255 (x : Int32) : 0 ≤ ((x &&& 255).toUInt32.toUInt16.toUInt32.toInt32).toInt ∧ ((x &&& 255).toUInt32.toUInt16.toUInt32.toInt32).toInt < 256 := by
  rw [i2c_mask]
  have a2 := c_mask x 255 8 (by decide) (by decide)
  have h2 : ((2 ^ 8 : Nat) : Int) = 256 := by decide
  rw [h2] at a2
  omega
/-- a char below 256 -/
abbrev C8 (c : Int32) : Prop := 0 ≤ c.toInt ∧ c.toInt < 256
theorem Lat.nil : Lat [] := fun _ q => nomatch q
theorem Lat.cons {c : Int32} {cs : List Int32} (h : C8 c) (r : Lat cs) : Lat (c :: cs) := fun x q => by rcases List.mem_cons.mp q with rfl | q; exact h; exact r x q
theorem bL_map (cs : List Int32) : cs.map bL = (cs.map fun c => c.toInt8.toInt32).map Value.int := by simp [bL]
theorem bL_maps {cs ds : List Int32} (hc : Lat cs) (hd : Lat ds) (h : (cs.map fun c => c.toInt8.toInt32) = ds.map fun c => c.toInt8.toInt32) : cs = ds := by
  induction cs generalizing ds with
  | nil => cases ds with | nil => rfl | cons y ys => cases h
  | cons x xs ih =>
    cases ds with
    | nil => cases h
    | cons y ys =>
      simp only [List.map_cons, List.cons.injEq] at h
      have e := bL_inj (hc x (by simp)) (hd y (by simp)) h.1
      rw [e, ih (fun c q => hc c (by simp [q])) (fun c q => hd c (by simp [q])) h.2]
theorem shr0' (i : Int32) : (i >>> ((0 : Int32) &&& 31)).toInt = i.toInt := by
  have a := c_ishr i 0 0 (by decide)
  have e : ((2 ^ 0 : Nat) : Int) = 1 := by decide
  rw [e] at a
  omega
theorem shl0' (i : Int32) : (i <<< ((0 : Int32) &&& 31)).toInt = i.toInt := by
  have a := c_ishl i 0 0 (by decide)
  have r := rng32 (i <<< ((0 : Int32) &&& 31))
  have r2 := rng32 i
  have e : ((2 ^ 0 : Nat) : Int) = 1 := by decide
  rw [e] at a
  omega
theorem sub0 (i : Int32) : (i - 0).toInt = i.toInt := by
  have a := c_isub i 0
  have r := rng32 (i - 0)
  have r2 := rng32 i
  rw [toInt_0] at a
  omega
abbrev EL1 : List (String × Nat) := [("com/example/claim/claim/service/LeaseTermsRequireNamePinLaw", 17), ("java/lang/String", 7)]
theorem d0_0 : Dc code 0 (.iload_n 0) 1 1 := ⟨at_0, rfl⟩
theorem d0_1 : Dc code 1 (.ldc 7) 2 3 := ⟨at_1, rfl⟩
theorem d0_3 : Dc code 3 .iand 1 4 := ⟨at_3, rfl⟩
theorem d0_4 : Dc code 4 .i2c 1 5 := ⟨at_4, rfl⟩
theorem d0_5 : Dc code 5 (.istore 4) 2 7 := ⟨at_5, rfl⟩
theorem d0_7 : Dc code 7 (.iload_n 0) 1 8 := ⟨at_7, rfl⟩
theorem d0_8 : Dc code 8 (.bipush 16) 2 10 := ⟨at_8, rfl⟩
theorem d0_10 : Dc code 10 .iushr 1 11 := ⟨at_10, rfl⟩
theorem d0_11 : Dc code 11 (.ldc 7) 2 13 := ⟨at_11, rfl⟩
theorem d0_13 : Dc code 13 .iand 1 14 := ⟨at_13, rfl⟩
theorem d0_14 : Dc code 14 .i2c 1 15 := ⟨at_14, rfl⟩
theorem d0_15 : Dc code 15 (.istore 5) 2 17 := ⟨at_15, rfl⟩
theorem d0_17 : Dc code 17 (.iload_n 1) 1 18 := ⟨at_17, rfl⟩
theorem d0_18 : Dc code 18 (.ldc 7) 2 20 := ⟨at_18, rfl⟩
theorem d0_20 : Dc code 20 .iand 1 21 := ⟨at_20, rfl⟩
theorem d0_21 : Dc code 21 .i2c 1 22 := ⟨at_21, rfl⟩
theorem d0_22 : Dc code 22 (.istore 6) 2 24 := ⟨at_22, rfl⟩
theorem d0_24 : Dc code 24 (.iload_n 1) 1 25 := ⟨at_24, rfl⟩
theorem d0_25 : Dc code 25 (.bipush 16) 2 27 := ⟨at_25, rfl⟩
theorem d0_27 : Dc code 27 .iushr 1 28 := ⟨at_27, rfl⟩
theorem d0_28 : Dc code 28 (.ldc 7) 2 30 := ⟨at_28, rfl⟩
theorem d0_30 : Dc code 30 .iand 1 31 := ⟨at_30, rfl⟩
theorem d0_31 : Dc code 31 .i2c 1 32 := ⟨at_31, rfl⟩
theorem d0_32 : Dc code 32 (.istore 7) 2 34 := ⟨at_32, rfl⟩
theorem d0_34 : Dc code 34 (.iconst 1) 1 35 := ⟨at_34, rfl⟩
theorem d0_35 : Dc code 35 (.iload_n 2) 1 36 := ⟨at_35, rfl⟩
theorem d0_36 : Dc code 36 (.iconst 3) 1 37 := ⟨at_36, rfl⟩
theorem d0_37 : Dc code 37 .iand 1 38 := ⟨at_37, rfl⟩
theorem d0_38 : Dc code 38 .iadd 1 39 := ⟨at_38, rfl⟩
theorem d0_39 : Dc code 39 (.istore 8) 2 41 := ⟨at_39, rfl⟩
theorem d0_41 : Dc code 41 (.iload 8) 2 43 := ⟨at_41, rfl⟩
theorem d0_43 : Dc code 43 (.iconst 1) 1 44 := ⟨at_43, rfl⟩
theorem d0_44 : Dj code 44 (.if_icmp .ne) 47 67 := ⟨23, at_44, rfl, by decide, by decide⟩
theorem d0_47 : Dc code 47 (.new 8) 3 50 := ⟨at_47, rfl⟩
theorem d0_50 : Dc code 50 .dup 1 51 := ⟨at_50, rfl⟩
theorem d0_51 : Dc code 51 (.iconst 1) 1 52 := ⟨at_51, rfl⟩
theorem d0_52 : Dc code 52 (.newarray .char) 2 54 := ⟨at_52, rfl⟩
theorem d0_54 : Dc code 54 .dup 1 55 := ⟨at_54, rfl⟩
theorem d0_55 : Dc code 55 (.iconst 0) 1 56 := ⟨at_55, rfl⟩
theorem d0_56 : Dc code 56 (.iload 4) 2 58 := ⟨at_56, rfl⟩
theorem d0_58 : Dc code 58 .castore 1 59 := ⟨at_58, rfl⟩
theorem d0_59 : Dc code 59 (.invokespecial 10) 3 62 := ⟨at_59, rfl⟩
theorem d0_62 : Dc code 62 (.astore 9) 2 64 := ⟨at_62, rfl⟩
theorem d0_64 : Dj code 64 .goto 67 166 := ⟨102, at_64, rfl, by decide, by decide⟩
theorem d0_67 : Dc code 67 (.iload 8) 2 69 := ⟨at_67, rfl⟩
theorem d0_69 : Dc code 69 (.iconst 2) 1 70 := ⟨at_69, rfl⟩
theorem d0_70 : Dj code 70 (.if_icmp .ne) 73 98 := ⟨28, at_70, rfl, by decide, by decide⟩
theorem d0_73 : Dc code 73 (.new 8) 3 76 := ⟨at_73, rfl⟩
theorem d0_76 : Dc code 76 .dup 1 77 := ⟨at_76, rfl⟩
theorem d0_77 : Dc code 77 (.iconst 2) 1 78 := ⟨at_77, rfl⟩
theorem d0_78 : Dc code 78 (.newarray .char) 2 80 := ⟨at_78, rfl⟩
theorem d0_80 : Dc code 80 .dup 1 81 := ⟨at_80, rfl⟩
theorem d0_81 : Dc code 81 (.iconst 0) 1 82 := ⟨at_81, rfl⟩
theorem d0_82 : Dc code 82 (.iload 4) 2 84 := ⟨at_82, rfl⟩
theorem d0_84 : Dc code 84 .castore 1 85 := ⟨at_84, rfl⟩
theorem d0_85 : Dc code 85 .dup 1 86 := ⟨at_85, rfl⟩
theorem d0_86 : Dc code 86 (.iconst 1) 1 87 := ⟨at_86, rfl⟩
theorem d0_87 : Dc code 87 (.iload 5) 2 89 := ⟨at_87, rfl⟩
theorem d0_89 : Dc code 89 .castore 1 90 := ⟨at_89, rfl⟩
theorem d0_90 : Dc code 90 (.invokespecial 10) 3 93 := ⟨at_90, rfl⟩
theorem d0_93 : Dc code 93 (.astore 9) 2 95 := ⟨at_93, rfl⟩
theorem d0_95 : Dj code 95 .goto 98 166 := ⟨71, at_95, rfl, by decide, by decide⟩
theorem d0_98 : Dc code 98 (.iload 8) 2 100 := ⟨at_98, rfl⟩
theorem d0_100 : Dc code 100 (.iconst 3) 1 101 := ⟨at_100, rfl⟩
theorem d0_101 : Dj code 101 (.if_icmp .ne) 104 134 := ⟨33, at_101, rfl, by decide, by decide⟩
theorem d0_104 : Dc code 104 (.new 8) 3 107 := ⟨at_104, rfl⟩
theorem d0_107 : Dc code 107 .dup 1 108 := ⟨at_107, rfl⟩
theorem d0_108 : Dc code 108 (.iconst 3) 1 109 := ⟨at_108, rfl⟩
theorem d0_109 : Dc code 109 (.newarray .char) 2 111 := ⟨at_109, rfl⟩
theorem d0_111 : Dc code 111 .dup 1 112 := ⟨at_111, rfl⟩
theorem d0_112 : Dc code 112 (.iconst 0) 1 113 := ⟨at_112, rfl⟩
theorem d0_113 : Dc code 113 (.iload 4) 2 115 := ⟨at_113, rfl⟩
theorem d0_115 : Dc code 115 .castore 1 116 := ⟨at_115, rfl⟩
theorem d0_116 : Dc code 116 .dup 1 117 := ⟨at_116, rfl⟩
theorem d0_117 : Dc code 117 (.iconst 1) 1 118 := ⟨at_117, rfl⟩
theorem d0_118 : Dc code 118 (.iload 5) 2 120 := ⟨at_118, rfl⟩
theorem d0_120 : Dc code 120 .castore 1 121 := ⟨at_120, rfl⟩
theorem d0_121 : Dc code 121 .dup 1 122 := ⟨at_121, rfl⟩
theorem d0_122 : Dc code 122 (.iconst 2) 1 123 := ⟨at_122, rfl⟩
theorem d0_123 : Dc code 123 (.iload 6) 2 125 := ⟨at_123, rfl⟩
theorem d0_125 : Dc code 125 .castore 1 126 := ⟨at_125, rfl⟩
theorem d0_126 : Dc code 126 (.invokespecial 10) 3 129 := ⟨at_126, rfl⟩
theorem d0_129 : Dc code 129 (.astore 9) 2 131 := ⟨at_129, rfl⟩
theorem d0_131 : Dj code 131 .goto 134 166 := ⟨35, at_131, rfl, by decide, by decide⟩
theorem d0_134 : Dc code 134 (.new 8) 3 137 := ⟨at_134, rfl⟩
theorem d0_137 : Dc code 137 .dup 1 138 := ⟨at_137, rfl⟩
theorem d0_138 : Dc code 138 (.iconst 4) 1 139 := ⟨at_138, rfl⟩
theorem d0_139 : Dc code 139 (.newarray .char) 2 141 := ⟨at_139, rfl⟩
theorem d0_141 : Dc code 141 .dup 1 142 := ⟨at_141, rfl⟩
theorem d0_142 : Dc code 142 (.iconst 0) 1 143 := ⟨at_142, rfl⟩
theorem d0_143 : Dc code 143 (.iload 4) 2 145 := ⟨at_143, rfl⟩
theorem d0_145 : Dc code 145 .castore 1 146 := ⟨at_145, rfl⟩
theorem d0_146 : Dc code 146 .dup 1 147 := ⟨at_146, rfl⟩
theorem d0_147 : Dc code 147 (.iconst 1) 1 148 := ⟨at_147, rfl⟩
theorem d0_148 : Dc code 148 (.iload 5) 2 150 := ⟨at_148, rfl⟩
theorem d0_150 : Dc code 150 .castore 1 151 := ⟨at_150, rfl⟩
theorem d0_151 : Dc code 151 .dup 1 152 := ⟨at_151, rfl⟩
theorem d0_152 : Dc code 152 (.iconst 2) 1 153 := ⟨at_152, rfl⟩
theorem d0_153 : Dc code 153 (.iload 6) 2 155 := ⟨at_153, rfl⟩
theorem d0_155 : Dc code 155 .castore 1 156 := ⟨at_155, rfl⟩
theorem d0_156 : Dc code 156 .dup 1 157 := ⟨at_156, rfl⟩
theorem d0_157 : Dc code 157 (.iconst 3) 1 158 := ⟨at_157, rfl⟩
theorem d0_158 : Dc code 158 (.iload 7) 2 160 := ⟨at_158, rfl⟩
theorem d0_160 : Dc code 160 .castore 1 161 := ⟨at_160, rfl⟩
theorem d0_161 : Dc code 161 (.invokespecial 10) 3 164 := ⟨at_161, rfl⟩
theorem d0_164 : Dc code 164 (.astore 9) 2 166 := ⟨at_164, rfl⟩
theorem d0_166 : Dc code 166 (.iload_n 2) 1 167 := ⟨at_166, rfl⟩
theorem d0_167 : Dc code 167 (.iconst 2) 1 168 := ⟨at_167, rfl⟩
theorem d0_168 : Dc code 168 .iushr 1 169 := ⟨at_168, rfl⟩
theorem d0_169 : Dc code 169 (.iconst 3) 1 170 := ⟨at_169, rfl⟩
theorem d0_170 : Dc code 170 .iand 1 171 := ⟨at_170, rfl⟩
theorem d0_171 : Dc code 171 (.istore 10) 2 173 := ⟨at_171, rfl⟩
theorem d0_173 : Dc code 173 (.iload 10) 2 175 := ⟨at_173, rfl⟩
theorem d0_175 : Dj code 175 (.ifCond .ne) 178 184 := ⟨9, at_175, rfl, by decide, by decide⟩
theorem d0_178 : Dc code 178 .aconst_null 1 179 := ⟨at_178, rfl⟩
theorem d0_179 : Dc code 179 (.astore 11) 2 181 := ⟨at_179, rfl⟩
theorem d0_181 : Dj code 181 .goto 184 228 := ⟨47, at_181, rfl, by decide, by decide⟩
theorem d0_184 : Dc code 184 (.iload 10) 2 186 := ⟨at_184, rfl⟩
theorem d0_186 : Dc code 186 (.iconst 1) 1 187 := ⟨at_186, rfl⟩
theorem d0_187 : Dj code 187 (.if_icmp .ne) 190 205 := ⟨18, at_187, rfl, by decide, by decide⟩
theorem d0_190 : Dc code 190 (.new 8) 3 193 := ⟨at_190, rfl⟩
theorem d0_193 : Dc code 193 .dup 1 194 := ⟨at_193, rfl⟩
theorem d0_194 : Dc code 194 (.iconst 0) 1 195 := ⟨at_194, rfl⟩
theorem d0_195 : Dc code 195 (.newarray .char) 2 197 := ⟨at_195, rfl⟩
theorem d0_197 : Dc code 197 (.invokespecial 10) 3 200 := ⟨at_197, rfl⟩
theorem d0_200 : Dc code 200 (.astore 11) 2 202 := ⟨at_200, rfl⟩
theorem d0_202 : Dj code 202 .goto 205 228 := ⟨26, at_202, rfl, by decide, by decide⟩
theorem d0_205 : Dc code 205 (.iload 10) 2 207 := ⟨at_205, rfl⟩
theorem d0_207 : Dc code 207 (.iconst 2) 1 208 := ⟨at_207, rfl⟩
theorem d0_208 : Dj code 208 (.if_icmp .ne) 211 224 := ⟨16, at_208, rfl, by decide, by decide⟩
theorem d0_211 : Dc code 211 (.iload_n 3) 1 212 := ⟨at_211, rfl⟩
theorem d0_212 : Dc code 212 (.ldc 7) 2 214 := ⟨at_212, rfl⟩
theorem d0_214 : Dc code 214 .iand 1 215 := ⟨at_214, rfl⟩
theorem d0_215 : Dc code 215 .i2c 1 216 := ⟨at_215, rfl⟩
theorem d0_216 : Dc code 216 (.invokestatic 13) 3 219 := ⟨at_216, rfl⟩
theorem d0_219 : Dc code 219 (.astore 11) 2 221 := ⟨at_219, rfl⟩
theorem d0_221 : Dj code 221 .goto 224 228 := ⟨7, at_221, rfl, by decide, by decide⟩
theorem d0_224 : Dc code 224 (.ldc 17) 2 226 := ⟨at_224, rfl⟩
theorem d0_226 : Dc code 226 (.astore 11) 2 228 := ⟨at_226, rfl⟩
theorem d0_228 : Dc code 228 (.aload 11) 2 230 := ⟨at_228, rfl⟩
theorem d0_230 : Dc code 230 (.aload 9) 2 232 := ⟨at_230, rfl⟩
theorem d0_232 : Dc code 232 (.invokestatic 19) 3 235 := ⟨at_232, rfl⟩
theorem d0_235 : Dc code 235 (.astore 12) 2 237 := ⟨at_235, rfl⟩
theorem d0_237 : Dc code 237 (.aload 12) 2 239 := ⟨at_237, rfl⟩
theorem d0_239 : Dc code 239 (.aload 9) 2 241 := ⟨at_239, rfl⟩
theorem d0_241 : Dj code 241 (.if_acmp .ne) 244 248 := ⟨7, at_241, rfl, by decide, by decide⟩
theorem d0_244 : Dc code 244 (.iconst 1) 1 245 := ⟨at_244, rfl⟩
theorem d0_245 : Dj code 245 .goto 248 249 := ⟨4, at_245, rfl, by decide, by decide⟩
theorem d0_249 : Dc code 249 .ireturn 1 250 := ⟨at_249, rfl⟩
theorem d1_0 : Dc jdk_42_method_3_code 0 (.aload_n 0) 1 1 := ⟨by decide +kernel, rfl⟩
theorem d1_1 : Dc jdk_42_method_3_code 1 (.aload_n 1) 1 2 := ⟨by decide +kernel, rfl⟩
theorem d1_2 : Dc jdk_42_method_3_code 2 (.iconst 0) 1 3 := ⟨by decide +kernel, rfl⟩
theorem d1_3 : Dc jdk_42_method_3_code 3 (.aload_n 1) 1 4 := ⟨by decide +kernel, rfl⟩
theorem d1_4 : Dc jdk_42_method_3_code 4 .arraylength 1 5 := ⟨by decide +kernel, rfl⟩
theorem d1_5 : Dc jdk_42_method_3_code 5 .aconst_null 1 6 := ⟨by decide +kernel, rfl⟩
theorem d1_6 : Dc jdk_42_method_3_code 6 (.invokespecial 27) 3 9 := ⟨by decide +kernel, rfl⟩
theorem d1_9 : Dc jdk_42_method_3_code 9 .return_ 1 10 := ⟨by decide +kernel, rfl⟩
theorem d2_0 : Dc jdk_42_method_149_code 0 (.aload_n 0) 1 1 := ⟨by decide +kernel, rfl⟩
theorem d2_1 : Dc jdk_42_method_149_code 1 (.invokespecial 1) 3 4 := ⟨by decide +kernel, rfl⟩
theorem d2_4 : Dc jdk_42_method_149_code 4 (.iload_n 3) 1 5 := ⟨by decide +kernel, rfl⟩
theorem d2_5 : Dj jdk_42_method_149_code 5 (.ifCond .ne) 8 27 := ⟨22, by decide +kernel, rfl, by decide, by decide⟩
theorem d2_8 : Dc jdk_42_method_149_code 8 (.aload_n 0) 1 9 := ⟨by decide +kernel, rfl⟩
theorem d2_9 : Dc jdk_42_method_149_code 9 (.ldc 7) 2 11 := ⟨by decide +kernel, rfl⟩
theorem d2_11 : Dc jdk_42_method_149_code 11 (.getfield 9) 3 14 := ⟨by decide +kernel, rfl⟩
theorem d2_14 : Dc jdk_42_method_149_code 14 (.putfield 9) 3 17 := ⟨by decide +kernel, rfl⟩
theorem d2_17 : Dc jdk_42_method_149_code 17 (.aload_n 0) 1 18 := ⟨by decide +kernel, rfl⟩
theorem d2_18 : Dc jdk_42_method_149_code 18 (.ldc 7) 2 20 := ⟨by decide +kernel, rfl⟩
theorem d2_20 : Dc jdk_42_method_149_code 20 (.getfield 15) 3 23 := ⟨by decide +kernel, rfl⟩
theorem d2_23 : Dc jdk_42_method_149_code 23 (.putfield 15) 3 26 := ⟨by decide +kernel, rfl⟩
theorem d2_26 : Dc jdk_42_method_149_code 26 .return_ 1 27 := ⟨by decide +kernel, rfl⟩
theorem d2_27 : Dc jdk_42_method_149_code 27 (.getstatic 38) 3 30 := ⟨by decide +kernel, rfl⟩
theorem d2_30 : Dj jdk_42_method_149_code 30 (.ifCond .eq) 33 58 := ⟨28, by decide +kernel, rfl, by decide, by decide⟩
theorem d2_33 : Dc jdk_42_method_149_code 33 (.aload_n 1) 1 34 := ⟨by decide +kernel, rfl⟩
theorem d2_34 : Dc jdk_42_method_149_code 34 (.iload_n 2) 1 35 := ⟨by decide +kernel, rfl⟩
theorem d2_35 : Dc jdk_42_method_149_code 35 (.iload_n 3) 1 36 := ⟨by decide +kernel, rfl⟩
theorem d2_36 : Dc jdk_42_method_149_code 36 (.invokestatic 177) 3 39 := ⟨by decide +kernel, rfl⟩
theorem d2_39 : Dc jdk_42_method_149_code 39 (.astore 5) 2 41 := ⟨by decide +kernel, rfl⟩
theorem d2_41 : Dc jdk_42_method_149_code 41 (.aload_n 0) 1 42 := ⟨by decide +kernel, rfl⟩
theorem d2_42 : Dc jdk_42_method_149_code 42 (.aload 5) 2 44 := ⟨by decide +kernel, rfl⟩
theorem d2_44 : Dc jdk_42_method_149_code 44 (.iload_n 3) 1 45 := ⟨by decide +kernel, rfl⟩
theorem d2_45 : Dc jdk_42_method_149_code 45 (.invokestatic 47) 3 48 := ⟨by decide +kernel, rfl⟩
theorem d2_48 : Dc jdk_42_method_149_code 48 (.putfield 15) 3 51 := ⟨by decide +kernel, rfl⟩
theorem d2_51 : Dc jdk_42_method_149_code 51 (.aload_n 0) 1 52 := ⟨by decide +kernel, rfl⟩
theorem d2_52 : Dc jdk_42_method_149_code 52 (.aload 5) 2 54 := ⟨by decide +kernel, rfl⟩
theorem d2_54 : Dc jdk_42_method_149_code 54 (.putfield 9) 3 57 := ⟨by decide +kernel, rfl⟩
theorem d2_57 : Dc jdk_42_method_149_code 57 .return_ 1 58 := ⟨by decide +kernel, rfl⟩
theorem d4_0 : Dc jdk_52_method_16_code 0 (.iload_n 2) 1 1 := ⟨by decide +kernel, rfl⟩
theorem d4_1 : Dc jdk_52_method_16_code 1 (.newarray .byte) 2 3 := ⟨by decide +kernel, rfl⟩
theorem d4_3 : Dc jdk_52_method_16_code 3 (.astore_n 3) 1 4 := ⟨by decide +kernel, rfl⟩
theorem d4_4 : Dc jdk_52_method_16_code 4 (.aload_n 0) 1 5 := ⟨by decide +kernel, rfl⟩
theorem d4_5 : Dc jdk_52_method_16_code 5 (.iload_n 1) 1 6 := ⟨by decide +kernel, rfl⟩
theorem d4_6 : Dc jdk_52_method_16_code 6 (.aload_n 3) 1 7 := ⟨by decide +kernel, rfl⟩
theorem d4_7 : Dc jdk_52_method_16_code 7 (.iconst 0) 1 8 := ⟨by decide +kernel, rfl⟩
theorem d4_8 : Dc jdk_52_method_16_code 8 (.iload_n 2) 1 9 := ⟨by decide +kernel, rfl⟩
theorem d4_9 : Dc jdk_52_method_16_code 9 (.invokestatic 115) 3 12 := ⟨by decide +kernel, rfl⟩
theorem d4_12 : Dc jdk_52_method_16_code 12 (.istore 4) 2 14 := ⟨by decide +kernel, rfl⟩
theorem d4_14 : Dc jdk_52_method_16_code 14 (.iload 4) 2 16 := ⟨by decide +kernel, rfl⟩
theorem d4_16 : Dc jdk_52_method_16_code 16 (.iload_n 2) 1 17 := ⟨by decide +kernel, rfl⟩
theorem d4_17 : Dj jdk_52_method_16_code 17 (.if_icmp .eq) 20 57 := ⟨40, by decide +kernel, rfl, by decide, by decide⟩
theorem d4_20 : Dc jdk_52_method_16_code 20 (.aload_n 0) 1 21 := ⟨by decide +kernel, rfl⟩
theorem d4_21 : Dc jdk_52_method_16_code 21 (.iload_n 1) 1 22 := ⟨by decide +kernel, rfl⟩
theorem d4_22 : Dc jdk_52_method_16_code 22 (.iload_n 2) 1 23 := ⟨by decide +kernel, rfl⟩
theorem d4_23 : Dc jdk_52_method_16_code 23 (.invokestatic 119) 3 26 := ⟨by decide +kernel, rfl⟩
theorem d4_26 : Dc jdk_52_method_16_code 26 (.astore 5) 2 28 := ⟨by decide +kernel, rfl⟩
theorem d4_28 : Dc jdk_52_method_16_code 28 (.aload 5) 2 30 := ⟨by decide +kernel, rfl⟩
theorem d4_30 : Dc jdk_52_method_16_code 30 (.iload 4) 2 32 := ⟨by decide +kernel, rfl⟩
theorem d4_32 : Dc jdk_52_method_16_code 32 (.invokestatic 71) 3 35 := ⟨by decide +kernel, rfl⟩
theorem d4_35 : Dc jdk_52_method_16_code 35 (.sipush 255) 3 38 := ⟨by decide +kernel, rfl⟩
theorem d4_38 : Dj jdk_52_method_16_code 38 (.if_icmp .gt) 41 54 := ⟨16, by decide +kernel, rfl, by decide, by decide⟩
theorem d4_54 : Dc jdk_52_method_16_code 54 (.aload 5) 2 56 := ⟨by decide +kernel, rfl⟩
theorem d4_56 : Dc jdk_52_method_16_code 56 .areturn 1 57 := ⟨by decide +kernel, rfl⟩
theorem d4_57 : Dc jdk_52_method_16_code 57 (.aload_n 3) 1 58 := ⟨by decide +kernel, rfl⟩
theorem d4_58 : Dc jdk_52_method_16_code 58 .areturn 1 59 := ⟨by decide +kernel, rfl⟩
theorem d5_0 : Dc jdk_52_method_21_code 0 (.iconst 0) 1 1 := ⟨by decide +kernel, rfl⟩
theorem d5_1 : Dc jdk_52_method_21_code 1 (.istore 5) 2 3 := ⟨by decide +kernel, rfl⟩
theorem d5_3 : Dc jdk_52_method_21_code 3 (.iload 5) 2 5 := ⟨by decide +kernel, rfl⟩
theorem d5_5 : Dc jdk_52_method_21_code 5 (.iload 4) 2 7 := ⟨by decide +kernel, rfl⟩
theorem d5_7 : Dj jdk_52_method_21_code 7 (.if_icmp .ge) 10 44 := ⟨37, by decide +kernel, rfl, by decide, by decide⟩
theorem d5_10 : Dc jdk_52_method_21_code 10 (.aload_n 0) 1 11 := ⟨by decide +kernel, rfl⟩
theorem d5_11 : Dc jdk_52_method_21_code 11 (.iload_n 1) 1 12 := ⟨by decide +kernel, rfl⟩
theorem d5_12 : Dc jdk_52_method_21_code 12 .caload 1 13 := ⟨by decide +kernel, rfl⟩
theorem d5_13 : Dc jdk_52_method_21_code 13 (.istore 6) 2 15 := ⟨by decide +kernel, rfl⟩
theorem d5_15 : Dc jdk_52_method_21_code 15 (.iload 6) 2 17 := ⟨by decide +kernel, rfl⟩
theorem d5_17 : Dc jdk_52_method_21_code 17 (.sipush 255) 3 20 := ⟨by decide +kernel, rfl⟩
theorem d5_20 : Dj jdk_52_method_21_code 20 (.if_icmp .le) 23 26 := ⟨6, by decide +kernel, rfl, by decide, by decide⟩
theorem d5_23 : Dc jdk_52_method_21_code 23 (.iload 5) 2 25 := ⟨by decide +kernel, rfl⟩
theorem d5_25 : Dc jdk_52_method_21_code 25 .ireturn 1 26 := ⟨by decide +kernel, rfl⟩
theorem d5_26 : Dc jdk_52_method_21_code 26 (.aload_n 2) 1 27 := ⟨by decide +kernel, rfl⟩
theorem d5_27 : Dc jdk_52_method_21_code 27 (.iload_n 3) 1 28 := ⟨by decide +kernel, rfl⟩
theorem d5_28 : Dc jdk_52_method_21_code 28 (.iload 6) 2 30 := ⟨by decide +kernel, rfl⟩
theorem d5_30 : Dc jdk_52_method_21_code 30 .i2b 1 31 := ⟨by decide +kernel, rfl⟩
theorem d5_31 : Dc jdk_52_method_21_code 31 .bastore 1 32 := ⟨by decide +kernel, rfl⟩
theorem d5_32 : Dc jdk_52_method_21_code 32 (.iinc 1 1) 3 35 := ⟨by decide +kernel, rfl⟩
theorem d5_35 : Dc jdk_52_method_21_code 35 (.iinc 3 1) 3 38 := ⟨by decide +kernel, rfl⟩
theorem d5_38 : Dc jdk_52_method_21_code 38 (.iinc 5 1) 3 41 := ⟨by decide +kernel, rfl⟩
theorem d5_41 : Dj jdk_52_method_21_code 41 .goto 44 3 := ⟨(-38), by decide +kernel, rfl, by decide, by decide⟩
theorem d5_44 : Dc jdk_52_method_21_code 44 (.iload 4) 2 46 := ⟨by decide +kernel, rfl⟩
theorem d5_46 : Dc jdk_52_method_21_code 46 .ireturn 1 47 := ⟨by decide +kernel, rfl⟩
theorem d6_0 : Dc jdk_52_method_15_code 0 (.iload_n 1) 1 1 := ⟨by decide +kernel, rfl⟩
theorem d6_1 : Dc jdk_52_method_15_code 1 (.aload_n 0) 1 2 := ⟨by decide +kernel, rfl⟩
theorem d6_2 : Dc jdk_52_method_15_code 2 .arraylength 1 3 := ⟨by decide +kernel, rfl⟩
theorem d6_3 : Dc jdk_52_method_15_code 3 .isub 1 4 := ⟨by decide +kernel, rfl⟩
theorem d6_4 : Dc jdk_52_method_15_code 4 (.bipush 31) 2 6 := ⟨by decide +kernel, rfl⟩
theorem d6_6 : Dc jdk_52_method_15_code 6 .iushr 1 7 := ⟨by decide +kernel, rfl⟩
theorem d6_7 : Dc jdk_52_method_15_code 7 .i2b 1 8 := ⟨by decide +kernel, rfl⟩
theorem d6_8 : Dc jdk_52_method_15_code 8 .ireturn 1 9 := ⟨by decide +kernel, rfl⟩
theorem d7_0 : Dc prog_7_method_3_code 0 (.aload_n 1) 1 1 := ⟨by decide +kernel, rfl⟩
theorem d7_1 : Dj prog_7_method_3_code 1 .ifnull 4 11 := ⟨10, by decide +kernel, rfl, by decide, by decide⟩
theorem d7_4 : Dc prog_7_method_3_code 4 (.aload_n 1) 1 5 := ⟨by decide +kernel, rfl⟩
theorem d7_5 : Dc prog_7_method_3_code 5 (.invokevirtual 30) 3 8 := ⟨by decide +kernel, rfl⟩
theorem d7_8 : Dj prog_7_method_3_code 8 (.ifCond .eq) 11 25 := ⟨17, by decide +kernel, rfl, by decide, by decide⟩
theorem d7_25 : Dc prog_7_method_3_code 25 (.aload_n 1) 1 26 := ⟨by decide +kernel, rfl⟩
theorem d7_26 : Dc prog_7_method_3_code 26 .areturn 1 27 := ⟨by decide +kernel, rfl⟩
theorem d8_0 : Dc jdk_42_method_55_code 0 (.aload_n 0) 1 1 := ⟨by decide +kernel, rfl⟩
theorem d8_1 : Dc jdk_42_method_55_code 1 (.getfield 9) 3 4 := ⟨by decide +kernel, rfl⟩
theorem d8_4 : Dc jdk_42_method_55_code 4 .arraylength 1 5 := ⟨by decide +kernel, rfl⟩
theorem d8_5 : Dj jdk_42_method_55_code 5 (.ifCond .ne) 8 12 := ⟨7, by decide +kernel, rfl, by decide, by decide⟩
theorem d8_8 : Dc jdk_42_method_55_code 8 (.iconst 1) 1 9 := ⟨by decide +kernel, rfl⟩
theorem d8_9 : Dj jdk_42_method_55_code 9 .goto 12 13 := ⟨4, by decide +kernel, rfl, by decide, by decide⟩
theorem d8_12 : Dc jdk_42_method_55_code 12 (.iconst 0) 1 13 := ⟨by decide +kernel, rfl⟩
theorem d8_13 : Dc jdk_42_method_55_code 13 .ireturn 1 14 := ⟨by decide +kernel, rfl⟩
theorem d9_0 : Dc jdk_42_method_139_code 0 (.getstatic 38) 3 3 := ⟨by decide +kernel, rfl⟩
theorem d9_3 : Dj jdk_42_method_139_code 3 (.ifCond .eq) 6 26 := ⟨23, by decide +kernel, rfl, by decide, by decide⟩
theorem d9_6 : Dc jdk_42_method_139_code 6 (.iload_n 0) 1 7 := ⟨by decide +kernel, rfl⟩
theorem d9_7 : Dc jdk_42_method_139_code 7 (.invokestatic 1015) 3 10 := ⟨by decide +kernel, rfl⟩
theorem d9_10 : Dj jdk_42_method_139_code 10 (.ifCond .eq) 13 26 := ⟨16, by decide +kernel, rfl, by decide, by decide⟩
theorem d9_13 : Dc jdk_42_method_139_code 13 (.new 10) 3 16 := ⟨by decide +kernel, rfl⟩
theorem d9_16 : Dc jdk_42_method_139_code 16 .dup 1 17 := ⟨by decide +kernel, rfl⟩
theorem d9_17 : Dc jdk_42_method_139_code 17 (.iload_n 0) 1 18 := ⟨by decide +kernel, rfl⟩
theorem d9_18 : Dc jdk_42_method_139_code 18 (.invokestatic 1018) 3 21 := ⟨by decide +kernel, rfl⟩
theorem d9_21 : Dc jdk_42_method_139_code 21 (.iconst 0) 1 22 := ⟨by decide +kernel, rfl⟩
theorem d9_22 : Dc jdk_42_method_139_code 22 (.invokespecial 209) 3 25 := ⟨by decide +kernel, rfl⟩
theorem d9_25 : Dc jdk_42_method_139_code 25 .areturn 1 26 := ⟨by decide +kernel, rfl⟩
theorem d9_26 : Dc jdk_42_method_139_code 26 (.new 10) 3 29 := ⟨by decide +kernel, rfl⟩
theorem d9_29 : Dc jdk_42_method_139_code 29 .dup 1 30 := ⟨by decide +kernel, rfl⟩
theorem d9_30 : Dc jdk_42_method_139_code 30 (.iload_n 0) 1 31 := ⟨by decide +kernel, rfl⟩
theorem d9_31 : Dc jdk_42_method_139_code 31 (.invokestatic 1021) 3 34 := ⟨by decide +kernel, rfl⟩
theorem d9_34 : Dc jdk_42_method_139_code 34 (.iconst 1) 1 35 := ⟨by decide +kernel, rfl⟩
theorem d9_35 : Dc jdk_42_method_139_code 35 (.invokespecial 209) 3 38 := ⟨by decide +kernel, rfl⟩
theorem d9_38 : Dc jdk_42_method_139_code 38 .areturn 1 39 := ⟨by decide +kernel, rfl⟩
theorem d10_0 : Dc jdk_43_method_3_code 0 (.iload_n 0) 1 1 := ⟨by decide +kernel, rfl⟩
theorem d10_1 : Dc jdk_43_method_3_code 1 (.sipush 255) 3 4 := ⟨by decide +kernel, rfl⟩
theorem d10_4 : Dj jdk_43_method_3_code 4 (.if_icmp .gt) 7 11 := ⟨7, by decide +kernel, rfl, by decide, by decide⟩
theorem d10_7 : Dc jdk_43_method_3_code 7 (.iconst 1) 1 8 := ⟨by decide +kernel, rfl⟩
theorem d10_8 : Dj jdk_43_method_3_code 8 .goto 11 12 := ⟨4, by decide +kernel, rfl, by decide, by decide⟩
theorem d10_11 : Dc jdk_43_method_3_code 11 (.iconst 0) 1 12 := ⟨by decide +kernel, rfl⟩
theorem d10_12 : Dc jdk_43_method_3_code 12 .ireturn 1 13 := ⟨by decide +kernel, rfl⟩
theorem d11_0 : Dc jdk_43_method_46_code 0 (.iconst 1) 1 1 := ⟨by decide +kernel, rfl⟩
theorem d11_1 : Dc jdk_43_method_46_code 1 (.newarray .byte) 2 3 := ⟨by decide +kernel, rfl⟩
theorem d11_3 : Dc jdk_43_method_46_code 3 .dup 1 4 := ⟨by decide +kernel, rfl⟩
theorem d11_4 : Dc jdk_43_method_46_code 4 (.iconst 0) 1 5 := ⟨by decide +kernel, rfl⟩
theorem d11_5 : Dc jdk_43_method_46_code 5 (.iload_n 0) 1 6 := ⟨by decide +kernel, rfl⟩
theorem d11_6 : Dc jdk_43_method_46_code 6 .i2b 1 7 := ⟨by decide +kernel, rfl⟩
theorem d11_7 : Dc jdk_43_method_46_code 7 .bastore 1 8 := ⟨by decide +kernel, rfl⟩
theorem d11_8 : Dc jdk_43_method_46_code 8 .areturn 1 9 := ⟨by decide +kernel, rfl⟩
theorem d12_0 : Dc jdk_42_method_151_code 0 (.aload_n 0) 1 1 := ⟨by decide +kernel, rfl⟩
theorem d12_1 : Dc jdk_42_method_151_code 1 (.invokespecial 1) 3 4 := ⟨by decide +kernel, rfl⟩
theorem d12_4 : Dc jdk_42_method_151_code 4 (.aload_n 0) 1 5 := ⟨by decide +kernel, rfl⟩
theorem d12_5 : Dc jdk_42_method_151_code 5 (.aload_n 1) 1 6 := ⟨by decide +kernel, rfl⟩
theorem d12_6 : Dc jdk_42_method_151_code 6 (.putfield 9) 3 9 := ⟨by decide +kernel, rfl⟩
theorem d12_9 : Dc jdk_42_method_151_code 9 (.aload_n 0) 1 10 := ⟨by decide +kernel, rfl⟩
theorem d12_10 : Dc jdk_42_method_151_code 10 (.iload_n 2) 1 11 := ⟨by decide +kernel, rfl⟩
theorem d12_11 : Dc jdk_42_method_151_code 11 (.putfield 15) 3 14 := ⟨by decide +kernel, rfl⟩
theorem d12_14 : Dc jdk_42_method_151_code 14 .return_ 1 15 := ⟨by decide +kernel, rfl⟩
theorem d13_0 : Dc jdk_52_method_14_code 0 (.iload_n 2) 1 1 := ⟨by decide +kernel, rfl⟩
theorem d13_1 : Dc jdk_52_method_14_code 1 (.invokestatic 107) 3 4 := ⟨by decide +kernel, rfl⟩
theorem d13_4 : Dc jdk_52_method_14_code 4 (.astore_n 3) 1 5 := ⟨by decide +kernel, rfl⟩
theorem d13_5 : Dc jdk_52_method_14_code 5 (.iconst 0) 1 6 := ⟨by decide +kernel, rfl⟩
theorem d13_6 : Dc jdk_52_method_14_code 6 (.istore 4) 2 8 := ⟨by decide +kernel, rfl⟩
theorem d13_8 : Dc jdk_52_method_14_code 8 (.iload 4) 2 10 := ⟨by decide +kernel, rfl⟩
theorem d13_10 : Dc jdk_52_method_14_code 10 (.iload_n 2) 1 11 := ⟨by decide +kernel, rfl⟩
theorem d13_11 : Dj jdk_52_method_14_code 11 (.if_icmp .ge) 14 32 := ⟨21, by decide +kernel, rfl, by decide, by decide⟩
theorem d13_14 : Dc jdk_52_method_14_code 14 (.aload_n 3) 1 15 := ⟨by decide +kernel, rfl⟩
theorem d13_15 : Dc jdk_52_method_14_code 15 (.iload 4) 2 17 := ⟨by decide +kernel, rfl⟩
theorem d13_17 : Dc jdk_52_method_14_code 17 (.aload_n 0) 1 18 := ⟨by decide +kernel, rfl⟩
theorem d13_18 : Dc jdk_52_method_14_code 18 (.iload_n 1) 1 19 := ⟨by decide +kernel, rfl⟩
theorem d13_19 : Dc jdk_52_method_14_code 19 .caload 1 20 := ⟨by decide +kernel, rfl⟩
theorem d13_20 : Dc jdk_52_method_14_code 20 (.invokestatic 111) 3 23 := ⟨by decide +kernel, rfl⟩
theorem d13_23 : Dc jdk_52_method_14_code 23 (.iinc 1 1) 3 26 := ⟨by decide +kernel, rfl⟩
theorem d13_26 : Dc jdk_52_method_14_code 26 (.iinc 4 1) 3 29 := ⟨by decide +kernel, rfl⟩
theorem d13_29 : Dj jdk_52_method_14_code 29 .goto 32 8 := ⟨(-21), by decide +kernel, rfl, by decide, by decide⟩
theorem d13_32 : Dc jdk_52_method_14_code 32 (.aload_n 3) 1 33 := ⟨by decide +kernel, rfl⟩
theorem d13_33 : Dc jdk_52_method_14_code 33 .areturn 1 34 := ⟨by decide +kernel, rfl⟩
theorem d14_0 : Dc jdk_52_method_2_code 0 (.iload_n 0) 1 1 := ⟨by decide +kernel, rfl⟩
theorem d14_1 : Dc jdk_52_method_2_code 1 (.invokestatic 11) 3 4 := ⟨by decide +kernel, rfl⟩
theorem d14_4 : Dc jdk_52_method_2_code 4 (.newarray .byte) 2 6 := ⟨by decide +kernel, rfl⟩
theorem d14_6 : Dc jdk_52_method_2_code 6 .areturn 1 7 := ⟨by decide +kernel, rfl⟩
theorem d15_0 : Dc jdk_52_method_3_code 0 (.iload_n 0) 1 1 := ⟨by decide +kernel, rfl⟩
theorem d15_1 : Dj jdk_52_method_3_code 1 (.ifCond .ge) 4 12 := ⟨11, by decide +kernel, rfl, by decide, by decide⟩
theorem d15_12 : Dc jdk_52_method_3_code 12 (.iload_n 0) 1 13 := ⟨by decide +kernel, rfl⟩
theorem d15_13 : Dc jdk_52_method_3_code 13 (.ldc 20) 2 15 := ⟨by decide +kernel, rfl⟩
theorem d15_15 : Dj jdk_52_method_3_code 15 (.if_icmp .lt) 18 55 := ⟨40, by decide +kernel, rfl, by decide, by decide⟩
theorem d15_55 : Dc jdk_52_method_3_code 55 (.iload_n 0) 1 56 := ⟨by decide +kernel, rfl⟩
theorem d15_56 : Dc jdk_52_method_3_code 56 (.iconst 1) 1 57 := ⟨by decide +kernel, rfl⟩
theorem d15_57 : Dc jdk_52_method_3_code 57 .ishl 1 58 := ⟨by decide +kernel, rfl⟩
theorem d15_58 : Dc jdk_52_method_3_code 58 .ireturn 1 59 := ⟨by decide +kernel, rfl⟩
theorem d16_0 : Dc jdk_52_method_4_code 0 (.getstatic 44) 3 3 := ⟨by decide +kernel, rfl⟩
theorem d16_3 : Dj jdk_52_method_4_code 3 (.ifCond .ne) 6 28 := ⟨25, by decide +kernel, rfl, by decide, by decide⟩
theorem d16_28 : Dc jdk_52_method_4_code 28 (.iload_n 1) 1 29 := ⟨by decide +kernel, rfl⟩
theorem d16_29 : Dc jdk_52_method_4_code 29 (.iconst 1) 1 30 := ⟨by decide +kernel, rfl⟩
theorem d16_30 : Dc jdk_52_method_4_code 30 .ishl 1 31 := ⟨by decide +kernel, rfl⟩
theorem d16_31 : Dc jdk_52_method_4_code 31 (.istore_n 1) 1 32 := ⟨by decide +kernel, rfl⟩
theorem d16_32 : Dc jdk_52_method_4_code 32 (.aload_n 0) 1 33 := ⟨by decide +kernel, rfl⟩
theorem d16_33 : Dc jdk_52_method_4_code 33 (.iload_n 1) 1 34 := ⟨by decide +kernel, rfl⟩
theorem d16_34 : Dc jdk_52_method_4_code 34 (.iinc 1 1) 3 37 := ⟨by decide +kernel, rfl⟩
theorem d16_37 : Dc jdk_52_method_4_code 37 (.iload_n 2) 1 38 := ⟨by decide +kernel, rfl⟩
theorem d16_38 : Dc jdk_52_method_4_code 38 (.getstatic 59) 3 41 := ⟨by decide +kernel, rfl⟩
theorem d16_41 : Dc jdk_52_method_4_code 41 .ishr 1 42 := ⟨by decide +kernel, rfl⟩
theorem d16_42 : Dc jdk_52_method_4_code 42 .i2b 1 43 := ⟨by decide +kernel, rfl⟩
theorem d16_43 : Dc jdk_52_method_4_code 43 .bastore 1 44 := ⟨by decide +kernel, rfl⟩
theorem d16_44 : Dc jdk_52_method_4_code 44 (.aload_n 0) 1 45 := ⟨by decide +kernel, rfl⟩
theorem d16_45 : Dc jdk_52_method_4_code 45 (.iload_n 1) 1 46 := ⟨by decide +kernel, rfl⟩
theorem d16_46 : Dc jdk_52_method_4_code 46 (.iload_n 2) 1 47 := ⟨by decide +kernel, rfl⟩
theorem d16_47 : Dc jdk_52_method_4_code 47 (.getstatic 63) 3 50 := ⟨by decide +kernel, rfl⟩
theorem d16_50 : Dc jdk_52_method_4_code 50 .ishr 1 51 := ⟨by decide +kernel, rfl⟩
theorem d16_51 : Dc jdk_52_method_4_code 51 .i2b 1 52 := ⟨by decide +kernel, rfl⟩
theorem d16_52 : Dc jdk_52_method_4_code 52 .bastore 1 53 := ⟨by decide +kernel, rfl⟩
theorem d16_53 : Dc jdk_52_method_4_code 53 .return_ 1 54 := ⟨by decide +kernel, rfl⟩
theorem d17_0 : Dc jdk_52_method_5_code 0 (.getstatic 44) 3 3 := ⟨by decide +kernel, rfl⟩
theorem d17_3 : Dj jdk_52_method_5_code 3 (.ifCond .ne) 6 28 := ⟨25, by decide +kernel, rfl, by decide, by decide⟩
theorem d17_28 : Dc jdk_52_method_5_code 28 (.iload_n 1) 1 29 := ⟨by decide +kernel, rfl⟩
theorem d17_29 : Dc jdk_52_method_5_code 29 (.iconst 1) 1 30 := ⟨by decide +kernel, rfl⟩
theorem d17_30 : Dc jdk_52_method_5_code 30 .ishl 1 31 := ⟨by decide +kernel, rfl⟩
theorem d17_31 : Dc jdk_52_method_5_code 31 (.istore_n 1) 1 32 := ⟨by decide +kernel, rfl⟩
theorem d17_32 : Dc jdk_52_method_5_code 32 (.aload_n 0) 1 33 := ⟨by decide +kernel, rfl⟩
theorem d17_33 : Dc jdk_52_method_5_code 33 (.iload_n 1) 1 34 := ⟨by decide +kernel, rfl⟩
theorem d17_34 : Dc jdk_52_method_5_code 34 (.iinc 1 1) 3 37 := ⟨by decide +kernel, rfl⟩
theorem d17_37 : Dc jdk_52_method_5_code 37 .baload 1 38 := ⟨by decide +kernel, rfl⟩
theorem d17_38 : Dc jdk_52_method_5_code 38 (.sipush 255) 3 41 := ⟨by decide +kernel, rfl⟩
theorem d17_41 : Dc jdk_52_method_5_code 41 .iand 1 42 := ⟨by decide +kernel, rfl⟩
theorem d17_42 : Dc jdk_52_method_5_code 42 (.getstatic 59) 3 45 := ⟨by decide +kernel, rfl⟩
theorem d17_45 : Dc jdk_52_method_5_code 45 .ishl 1 46 := ⟨by decide +kernel, rfl⟩
theorem d17_46 : Dc jdk_52_method_5_code 46 (.aload_n 0) 1 47 := ⟨by decide +kernel, rfl⟩
theorem d17_47 : Dc jdk_52_method_5_code 47 (.iload_n 1) 1 48 := ⟨by decide +kernel, rfl⟩
theorem d17_48 : Dc jdk_52_method_5_code 48 .baload 1 49 := ⟨by decide +kernel, rfl⟩
theorem d17_49 : Dc jdk_52_method_5_code 49 (.sipush 255) 3 52 := ⟨by decide +kernel, rfl⟩
theorem d17_52 : Dc jdk_52_method_5_code 52 .iand 1 53 := ⟨by decide +kernel, rfl⟩
theorem d17_53 : Dc jdk_52_method_5_code 53 (.getstatic 63) 3 56 := ⟨by decide +kernel, rfl⟩
theorem d17_56 : Dc jdk_52_method_5_code 56 .ishl 1 57 := ⟨by decide +kernel, rfl⟩
theorem d17_57 : Dc jdk_52_method_5_code 57 .ior 1 58 := ⟨by decide +kernel, rfl⟩
theorem d17_58 : Dc jdk_52_method_5_code 58 .i2c 1 59 := ⟨by decide +kernel, rfl⟩
theorem d17_59 : Dc jdk_52_method_5_code 59 .ireturn 1 60 := ⟨by decide +kernel, rfl⟩
theorem d18_0 : Dc jdk_52_method_24_code 0 (.iconst 2) 1 1 := ⟨by decide +kernel, rfl⟩
theorem d18_1 : Dc jdk_52_method_24_code 1 (.newarray .byte) 2 3 := ⟨by decide +kernel, rfl⟩
theorem d18_3 : Dc jdk_52_method_24_code 3 (.astore_n 1) 1 4 := ⟨by decide +kernel, rfl⟩
theorem d18_4 : Dc jdk_52_method_24_code 4 (.aload_n 1) 1 5 := ⟨by decide +kernel, rfl⟩
theorem d18_5 : Dc jdk_52_method_24_code 5 (.iconst 0) 1 6 := ⟨by decide +kernel, rfl⟩
theorem d18_6 : Dc jdk_52_method_24_code 6 (.iload_n 0) 1 7 := ⟨by decide +kernel, rfl⟩
theorem d18_7 : Dc jdk_52_method_24_code 7 (.invokestatic 111) 3 10 := ⟨by decide +kernel, rfl⟩
theorem d18_10 : Dc jdk_52_method_24_code 10 (.aload_n 1) 1 11 := ⟨by decide +kernel, rfl⟩
theorem d18_11 : Dc jdk_52_method_24_code 11 .areturn 1 12 := ⟨by decide +kernel, rfl⟩
theorem pn_0 : plainFor (⟨"java/lang/StringUTF16", "compress", "([CI[BII)I"⟩ : MethodName) = true := by first | (apply plainFor_of_name; simp [plainName, overriddenIn]; done) | decide +kernel
theorem pn_1 : plainFor (⟨"java/lang/StringUTF16", "compress", "([CII)[B"⟩ : MethodName) = true := by first | (apply plainFor_of_name; simp [plainName, overriddenIn]; done) | decide +kernel
theorem pn_2 : plainFor (⟨"java/lang/StringUTF16", "coderFromArrayLen", "([BI)B"⟩ : MethodName) = true := by first | (apply plainFor_of_name; simp [plainName, overriddenIn]; done) | decide +kernel
theorem pn_3 : plainFor (⟨"java/lang/String", "<init>", "([CIILjava/lang/Void;)V"⟩ : MethodName) = true := by first | (apply plainFor_of_name; simp [plainName, overriddenIn]; done) | decide +kernel
theorem pn_4 : plainFor (⟨"java/lang/String", "<init>", "([C)V"⟩ : MethodName) = true := by first | (apply plainFor_of_name; simp [plainName, overriddenIn]; done) | decide +kernel
theorem pn_5 : plainFor (⟨"java/lang/StringUTF16", "putChar", "([BII)V"⟩ : MethodName) = true := by first | (apply plainFor_of_name; simp [plainName, overriddenIn]; done) | decide +kernel
theorem pn_6 : plainFor (⟨"java/lang/StringUTF16", "getChar", "([BI)C"⟩ : MethodName) = true := by first | (apply plainFor_of_name; simp [plainName, overriddenIn]; done) | decide +kernel
theorem pn_7 : plainFor (⟨"java/lang/StringUTF16", "newBytesLength", "(I)I"⟩ : MethodName) = true := by first | (apply plainFor_of_name; simp [plainName, overriddenIn]; done) | decide +kernel
theorem pn_8 : plainFor (⟨"java/lang/StringUTF16", "newBytesFor", "(I)[B"⟩ : MethodName) = true := by first | (apply plainFor_of_name; simp [plainName, overriddenIn]; done) | decide +kernel
theorem pn_9 : plainFor (⟨"java/lang/StringUTF16", "toBytes", "([CII)[B"⟩ : MethodName) = true := by first | (apply plainFor_of_name; simp [plainName, overriddenIn]; done) | decide +kernel
theorem pn_10 : plainFor (⟨"java/lang/String", "isEmpty", "()Z"⟩ : MethodName) = true := by first | (apply plainFor_of_name; simp [plainName, overriddenIn]; done) | decide +kernel
theorem pn_11 : plainFor (⟨"java/lang/String", "<init>", "([BB)V"⟩ : MethodName) = true := by first | (apply plainFor_of_name; simp [plainName, overriddenIn]; done) | decide +kernel
theorem pn_12 : plainFor (⟨"java/lang/StringLatin1", "canEncode", "(C)Z"⟩ : MethodName) = true := by first | (apply plainFor_of_name; simp [plainName, overriddenIn]; done) | decide +kernel
theorem pn_13 : plainFor (⟨"java/lang/StringLatin1", "toBytes", "(C)[B"⟩ : MethodName) = true := by first | (apply plainFor_of_name; simp [plainName, overriddenIn]; done) | decide +kernel
theorem pn_14 : plainFor (⟨"java/lang/String", "valueOf", "(C)Ljava/lang/String;"⟩ : MethodName) = true := by first | (apply plainFor_of_name; simp [plainName, overriddenIn]; done) | decide +kernel
theorem pn_15 : plainFor (⟨"java/lang/StringUTF16", "toBytes", "(C)[B"⟩ : MethodName) = true := by first | (apply plainFor_of_name; simp [plainName, overriddenIn]; done) | decide +kernel
theorem pn_16 : plainFor (⟨"com/example/claim/claim/service/LeaseTerms", "requireName", "(Ljava/lang/String;Ljava/lang/String;)Ljava/lang/String;"⟩ : MethodName) = true := by first | (apply plainFor_of_name; simp [plainName, overriddenIn]; done) | decide +kernel
theorem pn_17 : plainFor (⟨"com/example/claim/claim/service/LeaseTermsRequireNamePinLaw", "law", "(IIII)Z"⟩ : MethodName) = true := by first | (apply plainFor_of_name; simp [plainName, overriddenIn]; done) | decide +kernel
theorem pd_0 : parseMethodDescriptor "([CI[BII)I" = some ⟨[(.array .char), .int, (.array .byte), .int, .int], some .int⟩ := by decide +kernel
theorem pd_1 : parseMethodDescriptor "([CII)[B" = some ⟨[(.array .char), .int, .int], some (.array .byte)⟩ := by decide +kernel
theorem pd_2 : parseMethodDescriptor "([BI)B" = some ⟨[(.array .byte), .int], some .byte⟩ := by decide +kernel
theorem pd_3 : parseMethodDescriptor "([CIILjava/lang/Void;)V" = some ⟨[(.array .char), .int, .int, (.object "java/lang/Void")], none⟩ := by decide +kernel
theorem pd_4 : parseMethodDescriptor "(I)I" = some ⟨[.int], some .int⟩ := by decide +kernel
theorem pd_5 : parseMethodDescriptor "(I)[B" = some ⟨[.int], some (.array .byte)⟩ := by decide +kernel
theorem pd_6 : parseMethodDescriptor "([BII)V" = some ⟨[(.array .byte), .int, .int], none⟩ := by decide +kernel
theorem pd_7 : parseMethodDescriptor "([BI)C" = some ⟨[(.array .byte), .int], some .char⟩ := by decide +kernel
theorem pd_8 : parseMethodDescriptor "(C)Z" = some ⟨[.char], some .boolean⟩ := by decide +kernel
theorem pd_9 : parseMethodDescriptor "(C)[B" = some ⟨[.char], some (.array .byte)⟩ := by decide +kernel
theorem pd_10 : parseMethodDescriptor "([BB)V" = some ⟨[(.array .byte), .byte], none⟩ := by decide +kernel
theorem pd_11 : parseMethodDescriptor "()Z" = some ⟨[], some .boolean⟩ := by decide +kernel
theorem pd_12 : parseMethodDescriptor "(Ljava/lang/String;Ljava/lang/String;)Ljava/lang/String;" = some ⟨[(.object "java/lang/String"), (.object "java/lang/String")], some (.object "java/lang/String")⟩ := by decide +kernel
theorem pd_13 : parseMethodDescriptor "(C)Ljava/lang/String;" = some ⟨[.char], some (.object "java/lang/String")⟩ := by decide +kernel
theorem pd_14 : parseMethodDescriptor "([C)V" = some ⟨[(.array .char)], none⟩ := by decide +kernel
theorem hEL1 {Z : State} {a0 : Array Value} (hw : hwT a0 Z) : EW Z a0 EL1 := EW.cons (hw 76 rfl) (by decide) (EW.cons (hw 40 rfl) (by decide) EW.nil)
theorem cCMPL (l : Launch) (Z : State) (a0 : Array Value) (hw : hwT a0 Z) {EL : List (String × Nat)} {nw : Bool} (hEL : EW Z a0 EL) (h0 : Heap) (a b : Addr) (cs : List Int32) (n : Int32) (hn : n.toInt = (cs.length : Int)) (hb : cs.length < 2147483648) (hlat : Lat cs) (A : Al Z h0 a .char (cs.map .int)) (B : Al Z h0 b .byte (List.replicate cs.length (.int 0))) (hab : a ≠ b) :
    Con l Z EL nw (⟨"java/lang/StringUTF16", "compress", "([CI[BII)I"⟩ : MethodName) jdk_52_method_21_code 7 (some .int) [] rm0 #[.ref a, .int 0, .ref b, .int 0, .int n] h0 [b] (fun v h S' => v = some (.int n) ∧ Al Z h b .byte (cs.map bL) ∧ Keep h0 h [b] ∧ S' = []) := by
  refine Con.enter (a0 := a0) pn_0 hEL [.val (.ref a), .val (.int 0), .val (.ref b), .val (.int 0), .val (.int n), .unset, .unset] (fun m => by first | (simp [entryFrame, mkF, argsToLocals, Value.category]; done) | rfl) ?_
  intro K G
  refine G.iconst 0 d5_0 ?_
  refine G.istore5 d5_1 ?_
  have loop : ∀ (rest done : List Int32) (h : Heap) (i : Int32) (x6 : Slot) (_ : x6 = .unset ∨ ∃ q : Int32, x6 = .val (.int q)), done ++ rest = cs → i.toInt = (done.length : Int) → Al Z h b .byte (done.map bL ++ List.replicate rest.length (.int 0)) → Keep h0 h [b] →
      Go Z EL nw rm0 (fun v h S' => v = some (.int n) ∧ Al Z h b .byte (cs.map bL) ∧ Keep h0 h [b] ∧ S' = []) K h [b] 0 0 3 [.val (.ref a), .val (.int i), .val (.ref b), .val (.int i), .val (.int n), .val (.int i), x6] [] := by
    intro rest
    induction rest with
    | nil =>
      intro done h i x6 h6 hd hi hB hK
      refine G.iload d5_3 rfl ?_
      refine G.iload d5_5 rfl ?_
      refine G.icmp_ge d5_7 (fun _ => ?_) (fun q => absurd q (not_lt_of_toInt (by rw [hi, hn, ← hd]; simp)))
      refine G.iload d5_44 rfl ?_
      exact G.iret d5_46 [] (fun _ q => nomatch q) ⟨rfl, by rw [← hd]; simpa using hB, hK, rfl⟩
    | cons x rest ih =>
      intro done h i x6 h6 hd hi hB hK
      have hlen : cs.length = done.length + (rest.length + 1) := by rw [← hd]; simp
      have hx : x ∈ cs := by rw [← hd]; simp
      refine G.iload d5_3 rfl ?_
      refine G.iload d5_5 rfl ?_
      refine G.icmp_ge d5_7 (fun q => absurd (lt_of_toInt (by rw [hi, hn, hlen]; omega)) q) (fun _ => ?_)
      refine G.aloadN d5_10 rfl rfl ?_
      refine G.iloadN d5_11 rfl ?_
      refine G.caload d5_12 (A.keep hK (ninS hab nin0)) hi (v := .int x) (by rw [← hd]; simp) ?_
      rcases h6 with rfl | ⟨w6, rfl⟩
      all_goals
        refine G.istore6 d5_13 ?_
        refine G.iload d5_15 rfl ?_
        refine G.sipush 255 d5_17 ?_
        refine G.icmp_le d5_20 (fun _ => ?_) (fun q => absurd q (not_lt_of_toInt (by have := (hlat x hx).2; have e : (255 : Int32).toInt = 255 := (by decide); omega)))
        refine G.aloadN d5_26 rfl rfl ?_
        refine G.iloadN d5_27 rfl ?_
        refine G.iload d5_28 rfl ?_
        refine G.i2b d5_30 ?_
        refine G.bastore d5_31 (List.mem_singleton.mpr rfl) hB hi (by simp) (fun h' W hB' => ?_)
        refine G.iinc1 1 d5_32 ?_
        refine G.iinc3 1 d5_35 ?_
        refine G.iinc5 1 d5_38 ?_
        refine G.goto d5_41 ?_
        refine ih (done ++ [x]) h' (i + 1) _ (Or.inr ⟨_, rfl⟩) (by simp [hd]) (by rw [inc_toInt hi (by omega)]; simp) ?_ (hK.wr W (Or.inl (List.mem_singleton.mpr rfl)))
        have e : (done.map bL ++ List.replicate (x :: rest).length (Value.int 0)).set done.length (.int (nar .byte x.toInt8.toInt32)) = (done ++ [x]).map bL ++ List.replicate rest.length (.int 0) := by
          have := set_mid (done.map bL) (List.replicate rest.length (Value.int 0)) (.int 0) (.int (nar .byte x.toInt8.toInt32))
          rw [List.length_map] at this
          simp only [List.length_cons, List.replicate_succ]
          rw [this, nar8]; simp [bL]
        rw [← e]; exact hB'
  exact loop cs [] h0 0 _ (Or.inl rfl) rfl toInt_0 (by simpa using B) (Keep.refl _ _)
theorem cCMP (l : Launch) (Z : State) (a0 : Array Value) (hw : hwT a0 Z) {EL : List (String × Nat)} {nw : Bool} (hEL : EW Z a0 EL) (h0 : Heap) (a : Addr) (cs : List Int32) (n : Int32) (hn : n.toInt = (cs.length : Int)) (hm : cs.length ≤ 16) (hlat : Lat cs) (A : Al Z h0 a .char (cs.map .int)) :
    Con l Z EL nw (⟨"java/lang/StringUTF16", "compress", "([CII)[B"⟩ : MethodName) jdk_52_method_16_code 6 (some (.array .byte)) [] { frames := 1, cells := 1, slots := 16, locals := 18 } #[.ref a, .int 0, .int n] h0 [] (fun v h S' => (∃ b, v = some (.ref b) ∧ h0.size ≤ b ∧ Al Z h b .byte (cs.map bL) ∧ S' = [b]) ∧ Ext h0 h) := by
  refine Con.enter (a0 := a0) pn_1 hEL [.val (.ref a), .val (.int 0), .val (.int n), .unset, .unset, .unset] (fun m => by first | (simp [entryFrame, mkF, argsToLocals, Value.category]; done) | rfl) ?_
  intro K G
  refine G.iloadN d4_0 rfl ?_
  refine G.newA cs.length 16 d4_1 (hw 20 rfl) hn hm (fun h1 E1 L1 A1 => ?_)
  refine G.astore3 d4_3 ?_
  refine G.aloadN d4_4 rfl rfl ?_
  refine G.iloadN d4_5 rfl ?_
  refine G.aloadN d4_6 rfl rfl ?_
  refine G.iconst 0 d4_7 ?_
  refine G.iloadN d4_8 rfl ?_
  have hne : a ≠ h0.size := Nat.ne_of_lt A.lt
  refine G.callS5 d4_9 (hw 21 rfl) (hw 22 rfl) (hw 18 rfl) (hw 23 rfl) pd_0 (cCMPL K.l Z a0 hw hEL h1 a h0.size cs n hn (by omega) hlat (A.ext E1) A1 hne) (fun _ q => by simpa using q) ?_
  rintro _ h2 _ ⟨rfl, B2, K2, rfl⟩ -
  refine G.istore4 d4_12 ?_
  refine G.iload d4_14 rfl ?_
  refine G.iloadN d4_16 rfl ?_
  refine G.icmp_eq d4_17 (fun _ => ?_) (fun q => absurd rfl q)
  refine G.aloadN d4_57 rfl rfl ?_
  refine G.aret d4_58 [h0.size] (by simp) ⟨⟨_, rfl, Nat.le_refl _, B2, rfl⟩, ?_⟩
  exact keep_nil_ext ((ext_keep E1 []).trans K2 (fun x q => by cases List.mem_singleton.mp q; exact Or.inr (Nat.le_refl _)))
theorem cCFA (l : Launch) (Z : State) (a0 : Array Value) (hw : hwT a0 Z) {EL : List (String × Nat)} {nw : Bool} (hEL : EW Z a0 EL) (h0 : Heap) (b : Addr) (vs : List Value) (n : Int32) (hn : n.toInt = (vs.length : Int)) (B : Al Z h0 b .byte vs) :
    Con l Z EL nw (⟨"java/lang/StringUTF16", "coderFromArrayLen", "([BI)B"⟩ : MethodName) jdk_52_method_15_code 2 (some .byte) [] rm0 #[.ref b, .int n] h0 [] (fun v h S' => v = some (.int 0) ∧ h = h0 ∧ S' = []) := by
  refine Con.enter (a0 := a0) pn_2 hEL [.val (.ref b), .val (.int n)] (fun m => by first | (simp [entryFrame, mkF, argsToLocals, Value.category]; done) | rfl) ?_
  intro K G
  refine G.iloadN d6_0 rfl ?_
  refine G.aloadN d6_1 rfl rfl ?_
  refine G.alen n d6_2 B hn ?_
  refine G.isub d6_3 ?_
  refine G.bipush 31 d6_4 ?_
  refine G.iushr d6_6 ?_
  refine G.i2b d6_7 ?_
  have e : n - n = 0 := by
    apply Int32.toInt_inj.mp
    have := c_isub n n
    have := rng32 (n - n)
    have e0 : (0 : Int32).toInt = 0 := by decide
    omega
  exact G.nret d6_8 (Or.inr (Or.inl rfl)) (z' := 0) (by rw [e]; decide) [] (fun _ q => nomatch q) ⟨rfl, rfl, rfl⟩
abbrev rmSI4 : Room := { frames := 2, cells := 4, slots := 24, locals := 40 }
abbrev rmSI : Room := { frames := 3, cells := 4, slots := 24, locals := 60 }
/-- new String(char[]), one char at the least, each below 256 -/
theorem cSI4 (l : Launch) (Z : State) (a0 : Array Value) (hw : hwT a0 Z) {EL : List (String × Nat)} {nw : Bool} (hEL : EW Z a0 EL) (h0 : Heap) (hC : CS Z) (a b : Addr) (cs : List Int32) (n : Int32) (hn : n.toInt = (cs.length : Int)) (hm : cs.length ≤ 16) (h1 : 0 < cs.length) (hlat : Lat cs) (E : Exa Z h0 a SN) (D : ∀ {O fn d : String} {ty : FieldType}, Laid Z a0 SN O fn d → parseFieldDescriptor d = some ty → Fld Z h0 a O fn d (defaultValue ty)) (A : Al Z h0 b .char (cs.map .int)) :
    Con l Z EL nw (⟨"java/lang/String", "<init>", "([CIILjava/lang/Void;)V"⟩ : MethodName) jdk_42_method_149_code 6 (none) [] rmSI4 #[.ref a, .ref b, .int 0, .int n, .null] h0 [a] (fun v h S' => v = none ∧ (∃ vb, h0.size ≤ vb ∧ StrB Z h a 0 vb (cs.map bL)) ∧ Keep h0 h [a] ∧ S' = []) := by
  obtain ⟨cc, hC, hcc⟩ := hC
  refine Con.enter (a0 := a0) pn_3 hEL [.val (.ref a), .val (.ref b), .val (.int 0), .val (.int n), .val (.null), .unset] (fun m => by first | (simp [entryFrame, mkF, argsToLocals, Value.category]; done) | rfl) ?_
  intro K G
  have F1 := D (Or.inr (hw 28 rfl)) (ty := .byte) (by decide)
  have F2 := D (Or.inr (hw 30 rfl)) (ty := .array .byte) (by decide)
  refine G.aloadN d2_0 rfl rfl ?_
  refine G.initO d2_1 (hw 12 rfl) (hw 13 rfl) (hw 14 rfl) ?_
  refine G.iloadN d2_4 rfl ?_
  refine G.if_ne d2_5 (fun _ => ?_) (fun q => absurd (congrArg Int32.toInt q) (by rw [hn, toInt_0]; omega))
  refine G.getS d2_27 (hw 15 rfl) hC ?_
  refine G.if_eq d2_30 (fun q => absurd q hcc) (fun _ => ?_)
  refine G.aloadN d2_33 rfl rfl ?_
  refine G.iloadN d2_34 rfl ?_
  refine G.iloadN d2_35 rfl ?_
  refine G.callS3 d2_36 (hw 16 rfl) (hw 17 rfl) (hw 18 rfl) (hw 19 rfl) pd_1 (cCMP K.l Z a0 hw hEL h0 b cs n hn hm hlat A) (fun _ q => nomatch q) ?_
  rintro _ h2 _ ⟨⟨vb, rfl, hvb, B, rfl⟩, E2⟩ hs2
  refine G.astore5 d2_39 ?_
  refine G.aloadN d2_41 rfl rfl ?_
  refine G.aload d2_42 rfl rfl ?_
  refine G.iloadN d2_44 rfl ?_
  refine G.callS2 d2_45 (hw 24 rfl) (hw 25 rfl) (hw 18 rfl) (hw 26 rfl) pd_2 (cCFA K.l Z a0 hw hEL h2 vb (cs.map bL) n (by simpa using hn) B) (fun _ q => nomatch q) ?_
  rintro _ _ _ ⟨rfl, rfl, rfl⟩ -
  have hne : vb ≠ a := fun q => Nat.lt_irrefl _ (Nat.lt_of_lt_of_le E.lt (q ▸ hvb))
  refine G.putF d2_48 (hw 27 rfl) (F1.ext E2) (E.ext E2) (by simp) (Or.inr ⟨(hw 28 rfl), rfl, rfl⟩) (hw 2 rfl) (ty := .byte) (by decide) rfl rfl (fun h3 W3 F1 E => ?_)
  refine G.aloadN d2_51 rfl rfl ?_
  refine G.aload d2_52 rfl rfl ?_
  have F2' := Fld.oth (F2.ext E2) W3 (Or.inr (hw 30 rfl)) (Or.inr (hw 28 rfl)) (by decide) (by decide) (by decide)
  refine G.putF d2_54 (hw 29 rfl) F2' E (by simp) (Or.inr ⟨(hw 30 rfl), rfl, rfl⟩) (hw 2 rfl) (ty := (.array .byte)) (by decide) rfl rfl (fun h4 W4 F2 E => ?_)
  replace F1 := Fld.oth F1 W4 (Or.inr (hw 28 rfl)) (Or.inr (hw 30 rfl)) (by decide) (by decide) (by decide)
  refine G.ret0 d2_57 [] (fun _ q => nomatch q) ⟨rfl, ⟨vb, hvb, E, F1, F2, (B.other W3 hne).other W4 hne⟩, ?_, rfl⟩
  exact (((ext_keep E2 [a]).wr W3 (Or.inl (List.mem_singleton.mpr rfl))).wr W4 (Or.inl (List.mem_singleton.mpr rfl)))
theorem cSI (l : Launch) (Z : State) (a0 : Array Value) (hw : hwT a0 Z) {EL : List (String × Nat)} {nw : Bool} (hEL : EW Z a0 EL) (h0 : Heap) (hC : CS Z) (a b : Addr) (cs : List Int32) (hm : cs.length ≤ 16) (h1 : 0 < cs.length) (hlat : Lat cs) (E : Exa Z h0 a SN) (D : ∀ {O fn d : String} {ty : FieldType}, Laid Z a0 SN O fn d → parseFieldDescriptor d = some ty → Fld Z h0 a O fn d (defaultValue ty)) (A : Al Z h0 b .char (cs.map .int)) :
    Con l Z EL nw (⟨"java/lang/String", "<init>", "([C)V"⟩ : MethodName) jdk_42_method_3_code 2 (none) [] rmSI #[.ref a, .ref b] h0 [a] (fun v h S' => v = none ∧ (∃ vb, h0.size ≤ vb ∧ StrB Z h a 0 vb (cs.map bL)) ∧ Keep h0 h [a] ∧ S' = []) := by
  refine Con.enter (a0 := a0) pn_4 hEL [.val (.ref a), .val (.ref b)] (fun m => by first | (simp [entryFrame, mkF, argsToLocals, Value.category]; done) | rfl) ?_
  intro K G
  refine G.aloadN d1_0 rfl rfl ?_
  refine G.aloadN d1_1 rfl rfl ?_
  refine G.iconst 0 d1_2 ?_
  refine G.aloadN d1_3 rfl rfl ?_
  have hn : (Int32.ofNat cs.length).toInt = (cs.length : Int) := len_toInt (by omega)
  refine G.alen (Int32.ofNat cs.length) d1_4 A (by simpa using hn) ?_
  refine G.aconstNull d1_5 ?_
  refine G.callI4 d1_6 (hw 8 rfl) (hw 9 rfl) (hw 3 rfl) (hw 11 rfl) pd_3 (cSI4 K.l Z a0 hw hEL h0 hC a b cs _ hn hm h1 hlat E D A) (fun _ q => q) ?_
  rintro _ h2 _ ⟨rfl, B2, K2, rfl⟩ -
  exact G.ret0 d1_9 [] (fun _ q => nomatch q) ⟨rfl, B2, K2, rfl⟩
theorem hSA (Z : State) (a0 : Array Value) (hw : hwT a0 Z) : ∀ a ∈ Bundle.stringAtoms, a.before a0 Z = true := by
  intro a ha
  simp only [Bundle.stringAtoms, List.mem_cons, List.not_mem_nil, or_false] at ha
  rcases ha with rfl | rfl | rfl | rfl | rfl | rfl | rfl
  · exact (hw 3 rfl)
  · exact (hw 2 rfl)
  · exact (hw 20 rfl)
  · exact (hw 30 rfl)
  · exact (hw 28 rfl)
  · exact (hw 41 rfl)
  · exact (hw 42 rfl)
theorem cSI4E (l : Launch) (Z : State) (a0 : Array Value) (hw : hwT a0 Z) {EL : List (String × Nat)} (hEL : EW Z a0 EL) (h0 : Heap) (hmem : (SN, 7) ∈ EL) (a b : Addr) (E : Exa Z h0 a SN) (D : ∀ {O fn d : String} {ty : FieldType}, Laid Z a0 SN O fn d → parseFieldDescriptor d = some ty → Fld Z h0 a O fn d (defaultValue ty)) :
    Con l Z EL false (⟨"java/lang/String", "<init>", "([CIILjava/lang/Void;)V"⟩ : MethodName) jdk_42_method_149_code 6 (none) [] rmSI4 #[.ref a, .ref b, .int 0, .int 0, .null] h0 [a] (fun v h S' => v = none ∧ (∃ vb, StrB Z h a 0 vb []) ∧ Keep h0 h [a] ∧ S' = []) := by
  refine Con.enter (a0 := a0) pn_3 hEL [.val (.ref a), .val (.ref b), .val (.int 0), .val (.int 0), .val (.null), .unset] (fun m => by first | (simp [entryFrame, mkF, argsToLocals, Value.category]; done) | rfl) ?_
  intro K G
  have F1 := D (Or.inr (hw 28 rfl)) (ty := .byte) (by decide)
  have F2 := D (Or.inr (hw 30 rfl)) (ty := .array .byte) (by decide)
  refine G.aloadN d2_0 rfl rfl ?_
  refine G.initO d2_1 (hw 12 rfl) (hw 13 rfl) (hw 14 rfl) ?_
  refine G.iloadN d2_4 rfl ?_
  refine G.if_ne d2_5 (fun q => absurd rfl q) (fun _ => ?_)
  refine G.aloadN d2_8 rfl rfl ?_
  refine G.ldcS 0 [] 0 d2_9 (hw 40 rfl) (hSA Z a0 hw) rfl hmem ⟨by decide, rfl⟩ (by decide) (by decide) (by decide) (by decide) (fun sa sb h1 E1 B1 N1 => ?_)
  refine G.getF d2_11 (hw 29 rfl) B1.2.2.1 ?_
  have n1 := N1 a (List.mem_singleton.mpr rfl)
  refine G.putF d2_14 (hw 29 rfl) (F2.ext E1) (E.ext E1) (by simp) (Or.inr ⟨(hw 30 rfl), rfl, rfl⟩) (hw 2 rfl) (ty := (.array .byte)) (by decide) rfl rfl (fun h2 W2 F2 E => ?_)
  have F1' := Fld.oth (F1.ext E1) W2 (Or.inr (hw 28 rfl)) (Or.inr (hw 30 rfl)) (by decide) (by decide) (by decide)
  have A2 := B1.2.2.2.other W2 (Ne.symm n1.2)
  refine G.aloadN d2_17 rfl rfl ?_
  refine G.ldcS 0 [] 0 d2_18 (hw 40 rfl) (hSA Z a0 hw) rfl hmem ⟨by decide, rfl⟩ (by decide) (by decide) (by decide) (by decide) (fun sa2 sb2 h3 E3 B3 N3 => ?_)
  refine G.getF d2_20 (hw 27 rfl) B3.2.1 ?_
  refine G.putF d2_23 (hw 27 rfl) (F1'.ext E3) (E.ext E3) (by simp) (Or.inr ⟨(hw 28 rfl), rfl, rfl⟩) (hw 2 rfl) (ty := .byte) (by decide) rfl rfl (fun h4 W4 F1 E => ?_)
  have F2' := Fld.oth (F2.ext E3) W4 (Or.inr (hw 30 rfl)) (Or.inr (hw 28 rfl)) (by decide) (by decide) (by decide)
  refine G.ret0 d2_26 [] (fun _ q => nomatch q) ⟨rfl, ⟨sb, E, F1, F2', (A2.ext E3).other W4 (Ne.symm n1.2)⟩, ?_, rfl⟩
  exact (((ext_keep E1 [a]).wr W2 (Or.inl (List.mem_singleton.mpr rfl))).ext E3).wr W4 (Or.inl (List.mem_singleton.mpr rfl))
/-- new String(char[]): up to 16 chars below 256, none too -/
theorem cSIA (l : Launch) (Z : State) (a0 : Array Value) (hw : hwT a0 Z) {EL : List (String × Nat)} (hEL : EW Z a0 EL) (h0 : Heap) (hC : CS Z) (hmem : (SN, 7) ∈ EL) (a b : Addr) (cs : List Int32) (hm : cs.length ≤ 16) (hlat : Lat cs) (E : Exa Z h0 a SN) (D : ∀ {O fn d : String} {ty : FieldType}, Laid Z a0 SN O fn d → parseFieldDescriptor d = some ty → Fld Z h0 a O fn d (defaultValue ty)) (A : Al Z h0 b .char (cs.map .int)) :
    Con l Z EL false (⟨"java/lang/String", "<init>", "([C)V"⟩ : MethodName) jdk_42_method_3_code 2 (none) [] rmSI #[.ref a, .ref b] h0 [a] (fun v h S' => v = none ∧ (∃ vb, StrB Z h a 0 vb (cs.map bL)) ∧ Keep h0 h [a] ∧ S' = []) := by
  refine Con.enter (a0 := a0) pn_4 hEL [.val (.ref a), .val (.ref b)] (fun m => by first | (simp [entryFrame, mkF, argsToLocals, Value.category]; done) | rfl) ?_
  intro K G
  refine G.aloadN d1_0 rfl rfl ?_
  refine G.aloadN d1_1 rfl rfl ?_
  refine G.iconst 0 d1_2 ?_
  refine G.aloadN d1_3 rfl rfl ?_
  have hn : (Int32.ofNat cs.length).toInt = (cs.length : Int) := len_toInt (by omega)
  refine G.alen (Int32.ofNat cs.length) d1_4 A (by simpa using hn) ?_
  refine G.aconstNull d1_5 ?_
  by_cases h1 : 0 < cs.length
  · refine G.callI4 d1_6 (hw 8 rfl) (hw 9 rfl) (hw 3 rfl) (hw 11 rfl) pd_3 (cSI4 K.l Z a0 hw hEL h0 hC a b cs _ hn hm h1 hlat E D A) (fun _ q => q) ?_
    rintro _ h2 _ ⟨rfl, ⟨vb, -, B2⟩, K2, rfl⟩ -
    exact G.ret0 d1_9 [] (fun _ q => nomatch q) ⟨rfl, ⟨vb, B2⟩, K2, rfl⟩
  · have e : cs = [] := by cases cs with | nil => rfl | cons x r => simp at h1
    subst e
    refine G.callI4 d1_6 (hw 8 rfl) (hw 9 rfl) (hw 3 rfl) (hw 11 rfl) pd_3 (cSI4E K.l Z a0 hw hEL h0 hmem a b E D) (fun _ q => q) ?_
    rintro _ h2 _ ⟨rfl, ⟨vb, B2⟩, K2, rfl⟩ -
    exact G.ret0 d1_9 [] (fun _ q => nomatch q) ⟨rfl, ⟨vb, B2⟩, K2, rfl⟩
abbrev C16 (c : Int32) : Prop := 0 ≤ c.toInt ∧ c.toInt < 65536
def Ch (cs : List Int32) : Prop := ∀ c ∈ cs, C16 c
def uLo (c : Int32) : Value := .int (c >>> ((0 : Int32) &&& 31)).toInt8.toInt32
def uHi (c : Int32) : Value := .int (c >>> ((8 : Int32) &&& 31)).toInt8.toInt32
def u2 (cs : List Int32) : List Value := cs.flatMap fun c => [uLo c, uHi c]
theorem u2_nil : u2 [] = [] := rfl
theorem u2_cons (c : Int32) (cs : List Int32) : u2 (c :: cs) = uLo c :: uHi c :: u2 cs := by simp [u2]
theorem u2_app (as bs : List Int32) : u2 (as ++ bs) = u2 as ++ u2 bs := by simp [u2]
theorem u2_len (cs : List Int32) : (u2 cs).length = 2 * cs.length := by
  induction cs with
  | nil => rfl
  | cons c cs ih => rw [u2_cons]; simp only [List.length_cons, ih]; omega
theorem u2_get {cs : List Int32} {i : Nat} {c : Int32} (h : cs[i]? = some c) : (u2 cs)[2 * i]? = some (uLo c) ∧ (u2 cs)[2 * i + 1]? = some (uHi c) := by
  induction cs generalizing i with
  | nil => simp at h
  | cons d cs ih =>
    rw [u2_cons]
    cases i with
    | zero => simp only [List.getElem?_cons_zero, Option.some.injEq] at h; subst h; exact ⟨rfl, rfl⟩
    | succ i =>
      simp only [List.getElem?_cons_succ] at h
      have := ih h
      have e1 : 2 * (i + 1) = 2 * i + 2 := by omega
      rw [e1]
      exact this
def US (Z : State) : Prop := Sta Z Z.heap "java/lang/StringUTF16" "$assertionsDisabled" "Z" (.int 1) ∧ Sta Z Z.heap "java/lang/StringUTF16" "HI_BYTE_SHIFT" "I" (.int 0) ∧ Sta Z Z.heap "java/lang/StringUTF16" "LO_BYTE_SHIFT" "I" (.int 8)
theorem shl1 {i : Int32} {n : Nat} (hi : i.toInt = (n : Int)) (hn : 2 * n < 2147483648) : (i <<< ((1 : Int32) &&& 31)).toInt = ((2 * n : Nat) : Int) := by
  have a := c_ishl i 1 1 (by decide)
  have b := rng32 (i <<< ((1 : Int32) &&& 31))
  have e : ((2 ^ 1 : Nat) : Int) = 2 := by decide
  rw [e, hi] at a
  omega
theorem chr2 {c : Int32} (h : C16 c) : ((((c >>> ((0 : Int32) &&& 31)).toInt8.toInt32 &&& 255) <<< ((0 : Int32) &&& 31)) ||| (((c >>> ((8 : Int32) &&& 31)).toInt8.toInt32 &&& 255) <<< ((8 : Int32) &&& 31))).toUInt32.toUInt16.toUInt32.toInt32 = c := by
  have s0 := c_ishr c 0 0 (by decide)
  have s8 := c_ishr c 8 8 (by decide)
  have b0 := c_i2b (c >>> ((0 : Int32) &&& 31))
  have b8 := c_i2b (c >>> ((8 : Int32) &&& 31))
  have m0 := c_mask (c >>> ((0 : Int32) &&& 31)).toInt8.toInt32 255 8 (by decide) (by decide)
  have m8 := c_mask (c >>> ((8 : Int32) &&& 31)).toInt8.toInt32 255 8 (by decide) (by decide)
  have l0 := c_ishl ((c >>> ((0 : Int32) &&& 31)).toInt8.toInt32 &&& 255) 0 0 (by decide)
  have l8 := c_ishl ((c >>> ((8 : Int32) &&& 31)).toInt8.toInt32 &&& 255) 8 8 (by decide)
  have r0 := rng32 (((c >>> ((0 : Int32) &&& 31)).toInt8.toInt32 &&& 255) <<< ((0 : Int32) &&& 31))
  have r8 := rng32 (((c >>> ((8 : Int32) &&& 31)).toInt8.toInt32 &&& 255) <<< ((8 : Int32) &&& 31))
  have e0 : ((2 ^ 0 : Nat) : Int) = 1 := by decide
  have e8 : ((2 ^ 8 : Nat) : Int) = 256 := by decide
  rw [e0] at s0 l0
  rw [e8] at s8 m0 m8 l8
  obtain ⟨c0, c1⟩ := h
  generalize (((c >>> ((0 : Int32) &&& 31)).toInt8.toInt32 &&& 255) <<< ((0 : Int32) &&& 31)) = x at *
  generalize (((c >>> ((8 : Int32) &&& 31)).toInt8.toInt32 &&& 255) <<< ((8 : Int32) &&& 31)) = y at *
  have hx : x.toInt = c.toInt % 256 := by omega
  have hy : y.toInt = c.toInt / 256 * 256 := by omega
  have o := c_or' x y 8 (by decide) 256 (by decide) (by omega) (by omega) (by omega)
  have ro := rng32 (x ||| y)
  have i := c_i2c (x ||| y)
  apply Int32.toInt_inj.mp
  omega
theorem cPC (l : Launch) (Z : State) (a0 : Array Value) (hw : hwT a0 Z) {EL : List (String × Nat)} {nw : Bool} (hEL : EW Z a0 EL) (h0 : Heap) (hU : US Z) (b : Addr) (i c : Int32) (n : Nat) (hi : i.toInt = (n : Int)) (vs : List Value) (hn : 2 * n + 1 < vs.length) (B : Al Z h0 b .byte vs) :
    Con l Z EL nw (⟨"java/lang/StringUTF16", "putChar", "([BII)V"⟩ : MethodName) jdk_52_method_4_code 3 (none) [] rm0 #[.ref b, .int i, .int c] h0 [b] (fun v h S' => v = none ∧ Al Z h b .byte ((vs.set (2 * n) (uLo c)).set (2 * n + 1) (uHi c)) ∧ Keep h0 h [b] ∧ S' = []) := by
  obtain ⟨U1, U2, U3⟩ := hU
  obtain ⟨cB, B1, B2, B3, -⟩ := id B
  refine Con.enter (a0 := a0) pn_5 hEL [.val (.ref b), .val (.int i), .val (.int c)] (fun m => by first | (simp [entryFrame, mkF, argsToLocals, Value.category]; done) | rfl) ?_
  intro K G
  refine G.getS d16_0 (hw 70 rfl) U1 ?_
  refine G.if_ne d16_3 (fun _ => ?_) (fun q => absurd q (by decide))
  refine G.iloadN d16_28 rfl ?_
  refine G.iconst 1 d16_29 ?_
  refine G.ishl d16_30 ?_
  refine G.istore1 d16_31 ?_
  refine G.aloadN d16_32 rfl rfl ?_
  refine G.iloadN d16_33 rfl ?_
  refine G.iinc1 1 d16_34 ?_
  refine G.iloadN d16_37 rfl ?_
  have hj := shl1 hi (by omega)
  refine G.getS d16_38 (hw 71 rfl) U2 ?_
  refine G.ishr d16_41 ?_
  refine G.i2b d16_42 ?_
  refine G.bastore d16_43 (List.mem_singleton.mpr rfl) B hj (by omega) (fun h1 W1 A1 => ?_)
  rw [nar8] at A1
  refine G.aloadN d16_44 rfl rfl ?_
  refine G.iloadN d16_45 rfl ?_
  refine G.iloadN d16_46 rfl ?_
  refine G.getS d16_47 (hw 72 rfl) U3 ?_
  refine G.ishr d16_50 ?_
  refine G.i2b d16_51 ?_
  refine G.bastore d16_52 (List.mem_singleton.mpr rfl) A1 (inc_toInt hj (by omega)) (by simp; omega) (fun h2 W2 A2 => ?_)
  rw [nar8] at A2
  have hm : b ∈ [b] ∨ h0.size ≤ b := Or.inl (List.mem_singleton.mpr rfl)
  exact G.ret0 d16_53 [] (fun _ q => nomatch q) ⟨rfl, A2, ((Keep.refl h0 [b]).wr W1 hm).wr W2 hm, rfl⟩
theorem cGC (l : Launch) (Z : State) (a0 : Array Value) (hw : hwT a0 Z) {EL : List (String × Nat)} {nw : Bool} (hEL : EW Z a0 EL) (h0 : Heap) (hU : US Z) (b : Addr) (i c : Int32) (n : Nat) (hi : i.toInt = (n : Int)) (hc : C16 c) (vs : List Value) (h1 : vs[2 * n]? = some (uLo c)) (h2 : vs[2 * n + 1]? = some (uHi c)) (B : Al Z h0 b .byte vs) :
    Con l Z EL nw (⟨"java/lang/StringUTF16", "getChar", "([BI)C"⟩ : MethodName) jdk_52_method_5_code 2 (some .char) [] rm0 #[.ref b, .int i] h0 [] (fun v h S' => v = some (.int c) ∧ h = h0 ∧ S' = []) := by
  obtain ⟨U1, U2, U3⟩ := hU
  obtain ⟨cB, B1, B2, B3, -⟩ := id B
  have hlt := (List.getElem?_eq_some_iff.mp h2).1
  refine Con.enter (a0 := a0) pn_6 hEL [.val (.ref b), .val (.int i)] (fun m => by first | (simp [entryFrame, mkF, argsToLocals, Value.category]; done) | rfl) ?_
  intro K G
  refine G.getS d17_0 (hw 70 rfl) U1 ?_
  refine G.if_ne d17_3 (fun _ => ?_) (fun q => absurd q (by decide))
  refine G.iloadN d17_28 rfl ?_
  refine G.iconst 1 d17_29 ?_
  refine G.ishl d17_30 ?_
  refine G.istore1 d17_31 ?_
  refine G.aloadN d17_32 rfl rfl ?_
  refine G.iloadN d17_33 rfl ?_
  refine G.iinc1 1 d17_34 ?_
  have hj := shl1 hi (by omega)
  refine G.baload d17_37 B hj h1 ?_
  refine G.sipush 255 d17_38 ?_
  refine G.iand d17_41 ?_
  refine G.getS d17_42 (hw 71 rfl) U2 ?_
  refine G.ishl d17_45 ?_
  refine G.aloadN d17_46 rfl rfl ?_
  refine G.iloadN d17_47 rfl ?_
  refine G.baload d17_48 B (inc_toInt hj (by omega)) h2 ?_
  refine G.sipush 255 d17_49 ?_
  refine G.iand d17_52 ?_
  refine G.getS d17_53 (hw 72 rfl) U3 ?_
  refine G.ishl d17_56 ?_
  refine G.ior d17_57 ?_
  refine G.i2c d17_58 ?_
  rw [chr2 hc]
  exact G.nret d17_59 (Or.inr (Or.inr (Or.inl rfl))) (z' := c) (nar_char hc.1 hc.2) [] (fun _ q => nomatch q) ⟨rfl, rfl, rfl⟩
theorem cNBL (l : Launch) (Z : State) (a0 : Array Value) (hw : hwT a0 Z) {EL : List (String × Nat)} {nw : Bool} (hEL : EW Z a0 EL) (h0 : Heap) (n : Int32) (i : Nat) (hn : n.toInt = (i : Int)) (hi : i ≤ 16) : Con l Z EL nw (⟨"java/lang/StringUTF16", "newBytesLength", "(I)I"⟩ : MethodName) jdk_52_method_3_code 1 (some .int) [] rm0 #[.int n] h0 [] (fun v h S' => (∃ m : Int32, v = some (.int m) ∧ m.toInt = ((2 * i : Nat) : Int)) ∧ h = h0 ∧ S' = []) := by
  refine Con.enter (a0 := a0) pn_7 hEL [.val (.int n)] (fun m => by first | (simp [entryFrame, mkF, argsToLocals, Value.category]; done) | rfl) ?_
  intro K G
  refine G.iloadN d15_0 rfl ?_
  refine G.if_ge d15_1 (fun _ => ?_) (fun q => absurd q (not_lt_of_toInt (by rw [hn, toInt_0]; omega)))
  refine G.iloadN d15_12 rfl ?_
  refine G.ldcI d15_13 (hw 66 rfl) ?_
  refine G.icmp_lt d15_15 (fun _ => ?_) (fun q => absurd (lt_of_toInt (by rw [hn]; have : (1073741823 : Int32).toInt = 1073741823 := (by decide); omega)) q)
  refine G.iloadN d15_55 rfl ?_
  refine G.iconst 1 d15_56 ?_
  refine G.ishl d15_57 ?_
  exact G.iret d15_58 [] (fun _ q => nomatch q) ⟨⟨_, rfl, shl1 hn (by omega)⟩, rfl, rfl⟩
theorem cNBF (l : Launch) (Z : State) (a0 : Array Value) (hw : hwT a0 Z) {EL : List (String × Nat)} {nw : Bool} (hEL : EW Z a0 EL) (h0 : Heap) (n : Int32) (i : Nat) (hn : n.toInt = (i : Int)) (hi : i ≤ 16) : Con l Z EL nw (⟨"java/lang/StringUTF16", "newBytesFor", "(I)[B"⟩ : MethodName) jdk_52_method_2_code 1 (some (.array .byte)) [] { frames := 1, cells := 1, slots := 32, locals := 12 } #[.int n] h0 [] (fun v h S' => v = some (.ref h0.size) ∧ Al Z h h0.size .byte (List.replicate (2 * i) (.int 0)) ∧ Ext h0 h ∧ S' = [h0.size]) := by
  refine Con.enter (a0 := a0) pn_8 hEL [.val (.int n)] (fun m => by first | (simp [entryFrame, mkF, argsToLocals, Value.category]; done) | rfl) ?_
  intro K G
  refine G.iloadN d14_0 rfl ?_
  refine G.callS1 d14_1 (hw 63 rfl) (hw 64 rfl) (hw 18 rfl) (hw 65 rfl) pd_4 (cNBL K.l Z a0 hw hEL h0 n i hn hi) (fun _ q => nomatch q) ?_
  rintro _ _ _ ⟨⟨m, rfl, hm⟩, rfl, rfl⟩ -
  refine G.newA (2*i) 32 d14_4 (hw 20 rfl) hm (by omega) (fun h1 E1 L1 A1 => ?_)
  exact G.aret d14_6 [_] (fun _ q => by simpa using q) ⟨rfl, A1, E1, rfl⟩
abbrev rmTB : Room := { frames := 2, cells := 1, slots := 32, locals := 24 }
theorem cTB (l : Launch) (Z : State) (a0 : Array Value) (hw : hwT a0 Z) {EL : List (String × Nat)} {nw : Bool} (hEL : EW Z a0 EL) (h0 : Heap) (hU : US Z) (a : Addr) (cs : List Int32) (n : Int32) (hn : n.toInt = (cs.length : Int)) (hm : cs.length ≤ 16) (A : Al Z h0 a .char (cs.map .int)) :
    Con l Z EL nw (⟨"java/lang/StringUTF16", "toBytes", "([CII)[B"⟩ : MethodName) jdk_52_method_14_code 5 (some (.array .byte)) [] rmTB #[.ref a, .int 0, .int n] h0 [] (fun v h S' => (∃ b, v = some (.ref b) ∧ h0.size ≤ b ∧ Al Z h b .byte (u2 cs) ∧ S' = [b]) ∧ Ext h0 h) := by
  refine Con.enter (a0 := a0) pn_9 hEL [.val (.ref a), .val (.int 0), .val (.int n), .unset, .unset] (fun m => by first | (simp [entryFrame, mkF, argsToLocals, Value.category]; done) | rfl) ?_
  intro K G
  refine G.iloadN d13_0 rfl ?_
  refine G.callS1 d13_1 (hw 60 rfl) (hw 61 rfl) (hw 18 rfl) (hw 62 rfl) pd_5 (cNBF K.l Z a0 hw hEL h0 n cs.length hn hm) (fun _ q => nomatch q) ?_
  rintro _ h1 _ ⟨rfl, B, E1, rfl⟩ -
  refine G.astore3 d13_4 ?_
  refine G.iconst 0 d13_5 ?_
  refine G.istore4 d13_6 ?_
  have hne : a ≠ h0.size := Nat.ne_of_lt A.lt
  refine Go.fewer (S' := [h0.size]) ?_ (by simp)
  have loop : ∀ (rest done : List Int32) (h : Heap) (i : Int32), done ++ rest = cs → i.toInt = (done.length : Int) → Al Z h h0.size .byte (u2 done ++ List.replicate (2 * rest.length) (.int 0)) → Keep h1 h [h0.size] →
      Go Z EL nw rmTB (fun v h S' => (∃ b, v = some (.ref b) ∧ h0.size ≤ b ∧ Al Z h b .byte (u2 cs) ∧ S' = [b]) ∧ Ext h0 h) K h [h0.size] 1 32 8 [.val (.ref a), .val (.int i), .val (.int n), .val (.ref h0.size), .val (.int i)] [] := by
    intro rest
    induction rest with
    | nil =>
      intro done h i hd hi hB hK
      refine G.iload d13_8 rfl ?_
      refine G.iloadN d13_10 rfl ?_
      refine G.icmp_ge d13_11 (fun _ => ?_) (fun q => absurd q (not_lt_of_toInt (by rw [hi, hn, ← hd]; simp)))
      refine G.aloadN d13_32 rfl rfl ?_
      refine G.aret d13_33 [h0.size] (fun _ q => q) ⟨⟨_, rfl, Nat.le_refl _, by rw [← hd]; simpa using hB, rfl⟩, ?_⟩
      exact keep_nil_ext ((ext_keep E1 []).trans hK (fun x q => by cases List.mem_singleton.mp q; exact Or.inr (Nat.le_refl _)))
    | cons x rest ih =>
      intro done h i hd hi hB hK
      have hlen : cs.length = done.length + (rest.length + 1) := by rw [← hd]; simp
      refine G.iload d13_8 rfl ?_
      refine G.iloadN d13_10 rfl ?_
      refine G.icmp_ge d13_11 (fun q => absurd (lt_of_toInt (by rw [hi, hn, hlen]; omega)) q) (fun _ => ?_)
      refine G.aloadN d13_14 rfl rfl ?_
      refine G.iload d13_15 rfl ?_
      refine G.aloadN d13_17 rfl rfl ?_
      refine G.iloadN d13_18 rfl ?_
      refine G.caload d13_19 ((A.ext E1).keep hK (ninS hne nin0)) hi (v := .int x) (by rw [← hd]; simp) ?_
      refine G.callS3 d13_20 (hw 67 rfl) (hw 68 rfl) (hw 18 rfl) (hw 69 rfl) pd_6 (cPC K.l Z a0 hw hEL h hU h0.size i x done.length hi _ (by simp [u2_len]; omega) hB) (fun _ q => q) ?_
      rintro _ h2 _ ⟨rfl, B2, K2, rfl⟩ -
      refine G.iinc1 1 d13_23 ?_
      refine G.iinc4 1 d13_26 ?_
      refine G.goto d13_29 ?_
      refine ih (done ++ [x]) h2 (i + 1) (by simp [hd]) (by rw [inc_toInt hi (by omega)]; simp) ?_ (hK.trans K2 (fun x q => Or.inl q))
      have e : ((u2 done ++ List.replicate (2 * (x :: rest).length) (Value.int 0)).set (2 * done.length) (uLo x)).set (2 * done.length + 1) (uHi x) = u2 (done ++ [x]) ++ List.replicate (2 * rest.length) (.int 0) := by
        have e1 : 2 * (x :: rest).length = 2 * rest.length + 1 + 1 := by simp only [List.length_cons]; omega
        rw [e1, List.replicate_succ, List.replicate_succ, ← u2_len done, set_mid]
        have := set_mid (u2 done ++ [uLo x]) (List.replicate (2 * rest.length) (Value.int 0)) (.int 0) (uHi x)
        simp only [List.append_assoc, List.cons_append, List.nil_append, List.length_append, List.length_cons, List.length_nil] at this
        rw [this, u2_app, u2_cons, u2_nil]
        simp
      rw [← e]; exact B2
  exact loop cs [] h1 0 rfl toInt_0 (by simpa [u2_nil] using B) (Keep.refl _ _)
/-- the compressing loop over any chars: how far it comes -/
theorem cCMPLg (l : Launch) (Z : State) (a0 : Array Value) (hw : hwT a0 Z) {EL : List (String × Nat)} {nw : Bool} (hEL : EW Z a0 EL) (h0 : Heap) (a b : Addr) (cs : List Int32) (n : Int32) (hn : n.toInt = (cs.length : Int)) (hb : cs.length < 2147483648) (hch : Ch cs) (A : Al Z h0 a .char (cs.map .int)) (B : Al Z h0 b .byte (List.replicate cs.length (.int 0))) (hab : a ≠ b) :
    Con l Z EL nw (⟨"java/lang/StringUTF16", "compress", "([CI[BII)I"⟩ : MethodName) jdk_52_method_21_code 7 (some .int) [] rm0 #[.ref a, .int 0, .ref b, .int 0, .int n] h0 [b] (fun v h S' => (∃ p : Int32, v = some (.int p) ∧ ((p = n ∧ Lat cs ∧ Al Z h b .byte (cs.map bL)) ∨ (∃ (j : Nat) (c : Int32), p.toInt = (j : Int) ∧ cs[j]? = some c ∧ 256 ≤ c.toInt))) ∧ Keep h0 h [b] ∧ S' = []) := by
  refine Con.enter (a0 := a0) pn_0 hEL [.val (.ref a), .val (.int 0), .val (.ref b), .val (.int 0), .val (.int n), .unset, .unset] (fun m => by first | (simp [entryFrame, mkF, argsToLocals, Value.category]; done) | rfl) ?_
  intro K G
  refine G.iconst 0 d5_0 ?_
  refine G.istore5 d5_1 ?_
  have e255 : (255 : Int32).toInt = 255 := by decide
  have loop : ∀ (rest done : List Int32) (h : Heap) (i : Int32) (x6 : Slot) (_ : x6 = .unset ∨ ∃ q : Int32, x6 = .val (.int q)), done ++ rest = cs → Lat done → i.toInt = (done.length : Int) → Al Z h b .byte (done.map bL ++ List.replicate rest.length (.int 0)) → Keep h0 h [b] →
      Go Z EL nw rm0 (fun v h S' => (∃ p : Int32, v = some (.int p) ∧ ((p = n ∧ Lat cs ∧ Al Z h b .byte (cs.map bL)) ∨ (∃ (j : Nat) (c : Int32), p.toInt = (j : Int) ∧ cs[j]? = some c ∧ 256 ≤ c.toInt))) ∧ Keep h0 h [b] ∧ S' = []) K h [b] 0 0 3 [.val (.ref a), .val (.int i), .val (.ref b), .val (.int i), .val (.int n), .val (.int i), x6] [] := by
    intro rest
    induction rest with
    | nil =>
      intro done h i x6 h6 hd hl hi hB hK
      refine G.iload d5_3 rfl ?_
      refine G.iload d5_5 rfl ?_
      refine G.icmp_ge d5_7 (fun _ => ?_) (fun q => absurd q (not_lt_of_toInt (by rw [hi, hn, ← hd]; simp)))
      refine G.iload d5_44 rfl ?_
      have hd' : done = cs := by simpa using hd
      subst hd'
      exact G.iret d5_46 [] (fun _ q => nomatch q) ⟨⟨_, rfl, Or.inl ⟨rfl, hl, by simpa using hB⟩⟩, hK, rfl⟩
    | cons x rest ih =>
      intro done h i x6 h6 hd hl hi hB hK
      have hlen : cs.length = done.length + (rest.length + 1) := by rw [← hd]; simp
      have hx : x ∈ cs := by rw [← hd]; simp
      have hg : cs[done.length]? = some x := by rw [← hd]; simp
      refine G.iload d5_3 rfl ?_
      refine G.iload d5_5 rfl ?_
      refine G.icmp_ge d5_7 (fun q => absurd (lt_of_toInt (by rw [hi, hn, hlen]; omega)) q) (fun _ => ?_)
      refine G.aloadN d5_10 rfl rfl ?_
      refine G.iloadN d5_11 rfl ?_
      refine G.caload d5_12 (A.keep hK (ninS hab nin0)) hi (v := .int x) (by rw [← hd]; simp) ?_
      rcases h6 with rfl | ⟨w6, rfl⟩
      all_goals
        refine G.istore6 d5_13 ?_
        refine G.iload d5_15 rfl ?_
        refine G.sipush 255 d5_17 ?_
        refine G.icmp_le d5_20 (fun q => ?_) (fun q => ?_)
        · rw [Int32.lt_iff_toInt_lt, e255] at q
          refine G.aloadN d5_26 rfl rfl ?_
          refine G.iloadN d5_27 rfl ?_
          refine G.iload d5_28 rfl ?_
          refine G.i2b d5_30 ?_
          refine G.bastore d5_31 (List.mem_singleton.mpr rfl) hB hi (by simp) (fun h' W hB' => ?_)
          refine G.iinc1 1 d5_32 ?_
          refine G.iinc3 1 d5_35 ?_
          refine G.iinc5 1 d5_38 ?_
          refine G.goto d5_41 ?_
          refine ih (done ++ [x]) h' (i + 1) _ (Or.inr ⟨_, rfl⟩) (by simp [hd]) ?_ (by rw [inc_toInt hi (by omega)]; simp) ?_ (hK.wr W (Or.inl (List.mem_singleton.mpr rfl)))
          · intro c hc
            rcases List.mem_append.mp hc with hc | hc
            · exact hl c hc
            · cases List.mem_singleton.mp hc; exact ⟨(hch x hx).1, by omega⟩
          · have e : (done.map bL ++ List.replicate (x :: rest).length (Value.int 0)).set done.length (.int (nar .byte x.toInt8.toInt32)) = (done ++ [x]).map bL ++ List.replicate rest.length (.int 0) := by
              have := set_mid (done.map bL) (List.replicate rest.length (Value.int 0)) (.int 0) (.int (nar .byte x.toInt8.toInt32))
              rw [List.length_map] at this
              simp only [List.length_cons, List.replicate_succ]
              rw [this, nar8]; simp [bL]
            rw [← e]; exact hB'
        · rw [Int32.lt_iff_toInt_lt, e255] at q
          refine G.iload d5_23 rfl ?_
          exact G.iret d5_25 [] (fun _ q => nomatch q) ⟨⟨_, rfl, Or.inr ⟨_, _, hi, hg, by omega⟩⟩, hK, rfl⟩
  exact loop cs [] h0 0 _ (Or.inl rfl) rfl Lat.nil toInt_0 (by simpa using B) (Keep.refl _ _)
abbrev rmCMPg : Room := { frames := 3, cells := 2, slots := 48, locals := 41 }
theorem cCMPg (l : Launch) (Z : State) (a0 : Array Value) (hw : hwT a0 Z) {EL : List (String × Nat)} {nw : Bool} (hEL : EW Z a0 EL) (h0 : Heap) (hU : US Z) (a : Addr) (cs : List Int32) (n : Int32) (hn : n.toInt = (cs.length : Int)) (hm : cs.length ≤ 16) (hch : Ch cs) (A : Al Z h0 a .char (cs.map .int)) :
    Con l Z EL nw (⟨"java/lang/StringUTF16", "compress", "([CII)[B"⟩ : MethodName) jdk_52_method_16_code 6 (some (.array .byte)) [] rmCMPg #[.ref a, .int 0, .int n] h0 [] (fun v h S' => (∃ b, v = some (.ref b) ∧ h0.size ≤ b ∧ ((Lat cs ∧ Al Z h b .byte (cs.map bL)) ∨ (¬ Lat cs ∧ Al Z h b .byte (u2 cs)))) ∧ Ext h0 h ∧ S' = []) := by
  have e255 : (255 : Int32).toInt = 255 := by decide
  refine Con.enter (a0 := a0) pn_1 hEL [.val (.ref a), .val (.int 0), .val (.int n), .unset, .unset, .unset] (fun m => by first | (simp [entryFrame, mkF, argsToLocals, Value.category]; done) | rfl) ?_
  intro K G
  refine G.iloadN d4_0 rfl ?_
  refine G.newA cs.length 16 d4_1 (hw 20 rfl) hn hm (fun h1 E1 L1 A1 => ?_)
  refine G.astore3 d4_3 ?_
  refine G.aloadN d4_4 rfl rfl ?_
  refine G.iloadN d4_5 rfl ?_
  refine G.aloadN d4_6 rfl rfl ?_
  refine G.iconst 0 d4_7 ?_
  refine G.iloadN d4_8 rfl ?_
  have hne : a ≠ h0.size := Nat.ne_of_lt A.lt
  refine G.callS5 d4_9 (hw 21 rfl) (hw 22 rfl) (hw 18 rfl) (hw 23 rfl) pd_0 (cCMPLg K.l Z a0 hw hEL h1 a h0.size cs n hn (by omega) hch (A.ext E1) A1 hne) (fun _ q => by simpa using q) ?_
  rintro _ h2 _ ⟨⟨p, rfl, hp⟩, K2, rfl⟩ -
  have X2 : Keep h0 h2 [] := (ext_keep E1 []).trans K2 (fun x q => by cases List.mem_singleton.mp q; exact Or.inr (Nat.le_refl _))
  refine G.istore4 d4_12 ?_
  refine G.iload d4_14 rfl ?_
  refine G.iloadN d4_16 rfl ?_
  rcases hp with ⟨rfl, hl, B2⟩ | ⟨j, c, hj, hg, hc⟩
  · refine G.icmp_eq d4_17 (fun _ => ?_) (fun q => absurd rfl q)
    refine G.aloadN d4_57 rfl rfl ?_
    exact G.aret d4_58 [] (fun _ q => nomatch q) ⟨⟨_, rfl, Nat.le_refl _, Or.inl ⟨hl, B2⟩⟩, keep_nil_ext X2, rfl⟩
  · have hlt := (List.getElem?_eq_some_iff.mp hg).1
    have nl : ¬ Lat cs := fun q => by have := (q c (List.mem_of_getElem? hg)).2; omega
    refine G.icmp_eq d4_17 (fun q => absurd (congrArg Int32.toInt q) (by rw [hj, hn]; omega)) (fun _ => ?_)
    refine G.aloadN d4_20 rfl rfl ?_
    refine G.iloadN d4_21 rfl ?_
    refine G.iloadN d4_22 rfl ?_
    refine G.callS3 d4_23 (hw 57 rfl) (hw 58 rfl) (hw 18 rfl) (hw 59 rfl) pd_1 (cTB K.l Z a0 hw hEL h2 hU a cs n hn hm (A.keep X2 nin0)) (fun _ q => nomatch q) ?_
    rintro _ h3 _ ⟨⟨b, rfl, hb, B3, rfl⟩, E3⟩ -
    refine G.astore5 d4_26 ?_
    refine G.aload d4_28 rfl rfl ?_
    refine G.iload d4_30 rfl ?_
    refine G.callS2 d4_32 (hw 73 rfl) (hw 74 rfl) (hw 18 rfl) (hw 75 rfl) pd_7 (cGC K.l Z a0 hw hEL h3 hU b p c j hj (hch c (List.mem_of_getElem? hg)) (u2 cs) (u2_get hg).1 (u2_get hg).2 B3) (fun _ q => nomatch q) ?_
    rintro _ _ _ ⟨rfl, rfl, rfl⟩ -
    refine G.sipush 255 d4_35 ?_
    refine G.icmp_gt d4_38 (fun _ => ?_) (fun q => absurd (lt_of_toInt (by rw [e255]; omega)) q)
    refine G.aload d4_54 rfl rfl ?_
    exact G.aret d4_56 [] (fun _ q => nomatch q) ⟨⟨_, rfl, Nat.le_trans X2.1 hb, Or.inr ⟨nl, B3⟩⟩, keep_nil_ext (X2.ext E3), rfl⟩
theorem cCFAg (l : Launch) (Z : State) (a0 : Array Value) (hw : hwT a0 Z) {EL : List (String × Nat)} {nw : Bool} (hEL : EW Z a0 EL) (h0 : Heap) (b : Addr) (vs : List Value) (n : Int32) (i : Nat) (hn : n.toInt = (i : Int)) (hv : vs.length = 2 * i) (h1 : 0 < i) (hm : i ≤ 16) (B : Al Z h0 b .byte vs) :
    Con l Z EL nw (⟨"java/lang/StringUTF16", "coderFromArrayLen", "([BI)B"⟩ : MethodName) jdk_52_method_15_code 2 (some .byte) [] rm0 #[.ref b, .int n] h0 [] (fun v h S' => v = some (.int 1) ∧ h = h0 ∧ S' = []) := by
  refine Con.enter (a0 := a0) pn_2 hEL [.val (.ref b), .val (.int n)] (fun m => by first | (simp [entryFrame, mkF, argsToLocals, Value.category]; done) | rfl) ?_
  intro K G
  have hk : (Int32.ofNat vs.length).toInt = (vs.length : Int) := len_toInt (by omega)
  refine G.iloadN d6_0 rfl ?_
  refine G.aloadN d6_1 rfl rfl ?_
  refine G.alen (Int32.ofNat vs.length) d6_2 B hk ?_
  refine G.isub d6_3 ?_
  refine G.bipush 31 d6_4 ?_
  refine G.iushr d6_6 ?_
  refine G.i2b d6_7 ?_
  have e : ((n - Int32.ofNat vs.length).toUInt32 >>> ((31 : Int32) &&& 31).toUInt32).toInt32 = 1 := by
    apply Int32.toInt_inj.mp
    have a1 := c_isub n (Int32.ofNat vs.length)
    have a2 := rng32 (n - Int32.ofNat vs.length)
    have a3 := c_iushr (n - Int32.ofNat vs.length) 31 31 (by decide) (by decide)
    have e0 : (1 : Int32).toInt = 1 := by decide
    have e1 : ((2 ^ 31 : Nat) : Int) = 2147483648 := by decide
    rw [e1] at a3
    rw [hn, hk] at a1
    omega
  exact G.nret d6_8 (Or.inr (Or.inl rfl)) (z' := 1) (by rw [e]; decide) [] (fun _ q => nomatch q) ⟨rfl, rfl, rfl⟩
/-- a String of these chars -/
def Str (Z : State) (h : Heap) (a : Addr) (cs : List Int32) : Prop := Ch cs ∧ ∃ vb, (Lat cs ∧ StrB Z h a 0 vb (cs.map bL)) ∨ (¬ Lat cs ∧ StrB Z h a 1 vb (u2 cs))
theorem Str.ext {Z : State} {h h' : Heap} {a : Addr} {cs : List Int32} (F : Str Z h a cs) (E : Ext h h') : Str Z h' a cs := by
  obtain ⟨c, vb, q⟩ := F
  exact ⟨c, vb, q.imp (fun z => ⟨z.1, z.2.ext E⟩) (fun z => ⟨z.1, z.2.ext E⟩)⟩
theorem Str.keep {Z : State} {h h' : Heap} {a : Addr} {cs : List Int32} (F : Str Z h a cs) (K : Keep h h' []) : Str Z h' a cs := F.ext (keep_nil_ext K)
theorem Str.exa {Z : State} {h : Heap} {a : Addr} {cs : List Int32} (F : Str Z h a cs) : Exa Z h a "java/lang/String" := by
  obtain ⟨c, vb, q | q⟩ := F
  · exact q.2.1
  · exact q.2.1
abbrev rmSI4g : Room := { frames := 4, cells := 4, slots := 48, locals := 58 }
abbrev rmSIg : Room := { frames := 5, cells := 4, slots := 48, locals := 75 }
theorem cSI4g (l : Launch) (Z : State) (a0 : Array Value) (hw : hwT a0 Z) {EL : List (String × Nat)} {nw : Bool} (hEL : EW Z a0 EL) (h0 : Heap) (hC : CS Z) (hU : US Z) (a b : Addr) (cs : List Int32) (n : Int32) (hn : n.toInt = (cs.length : Int)) (hm : cs.length ≤ 16) (h1 : 0 < cs.length) (hch : Ch cs) (E : Exa Z h0 a SN) (D : ∀ {O fn d : String} {ty : FieldType}, Laid Z a0 SN O fn d → parseFieldDescriptor d = some ty → Fld Z h0 a O fn d (defaultValue ty)) (A : Al Z h0 b .char (cs.map .int)) :
    Con l Z EL nw (⟨"java/lang/String", "<init>", "([CIILjava/lang/Void;)V"⟩ : MethodName) jdk_42_method_149_code 6 (none) [] rmSI4g #[.ref a, .ref b, .int 0, .int n, .null] h0 [a] (fun v h S' => v = none ∧ Str Z h a cs ∧ Keep h0 h [a] ∧ S' = []) := by
  obtain ⟨cc, hC, hcc⟩ := hC
  refine Con.enter (a0 := a0) pn_3 hEL [.val (.ref a), .val (.ref b), .val (.int 0), .val (.int n), .val (.null), .unset] (fun m => by first | (simp [entryFrame, mkF, argsToLocals, Value.category]; done) | rfl) ?_
  intro K G
  have F1 := D (Or.inr (hw 28 rfl)) (ty := .byte) (by decide)
  have F2 := D (Or.inr (hw 30 rfl)) (ty := .array .byte) (by decide)
  refine G.aloadN d2_0 rfl rfl ?_
  refine G.initO d2_1 (hw 12 rfl) (hw 13 rfl) (hw 14 rfl) ?_
  refine G.iloadN d2_4 rfl ?_
  refine G.if_ne d2_5 (fun _ => ?_) (fun q => absurd (congrArg Int32.toInt q) (by rw [hn, toInt_0]; omega))
  refine G.getS d2_27 (hw 15 rfl) hC ?_
  refine G.if_eq d2_30 (fun q => absurd q hcc) (fun _ => ?_)
  refine G.aloadN d2_33 rfl rfl ?_
  refine G.iloadN d2_34 rfl ?_
  refine G.iloadN d2_35 rfl ?_
  refine G.callS3 d2_36 (hw 16 rfl) (hw 17 rfl) (hw 18 rfl) (hw 19 rfl) pd_1 (cCMPg K.l Z a0 hw hEL h0 hU b cs n hn hm hch A) (fun _ q => nomatch q) ?_
  rintro _ h2 _ ⟨⟨vb, rfl, hvb, hB⟩, E2, rfl⟩ -
  refine G.astore5 d2_39 ?_
  refine G.aloadN d2_41 rfl rfl ?_
  refine G.aload d2_42 rfl rfl ?_
  refine G.iloadN d2_44 rfl ?_
  have hne : vb ≠ a := fun q => Nat.lt_irrefl _ (Nat.lt_of_lt_of_le E.lt (q ▸ hvb))
  rcases hB with ⟨hl, B⟩ | ⟨hl, B⟩
  · refine G.callS2 d2_45 (hw 24 rfl) (hw 25 rfl) (hw 18 rfl) (hw 26 rfl) pd_2 (cCFA K.l Z a0 hw hEL h2 vb (cs.map bL) n (by simpa using hn) B) (fun _ q => nomatch q) ?_
    rintro _ _ _ ⟨rfl, rfl, rfl⟩ -
    refine G.putF d2_48 (hw 27 rfl) (F1.ext E2) (E.ext E2) (by simp) (Or.inr ⟨(hw 28 rfl), rfl, rfl⟩) (hw 2 rfl) (ty := .byte) (by decide) rfl rfl (fun h3 W3 F1 E => ?_)
    refine G.aloadN d2_51 rfl rfl ?_
    refine G.aload d2_52 rfl rfl ?_
    have F2' := Fld.oth (F2.ext E2) W3 (Or.inr (hw 30 rfl)) (Or.inr (hw 28 rfl)) (by decide) (by decide) (by decide)
    refine G.putF d2_54 (hw 29 rfl) F2' E (by simp) (Or.inr ⟨(hw 30 rfl), rfl, rfl⟩) (hw 2 rfl) (ty := (.array .byte)) (by decide) rfl rfl (fun h4 W4 F2 E => ?_)
    replace F1 := Fld.oth F1 W4 (Or.inr (hw 28 rfl)) (Or.inr (hw 30 rfl)) (by decide) (by decide) (by decide)
    refine G.ret0 d2_57 [] (fun _ q => nomatch q) ⟨rfl, ⟨hch, vb, Or.inl ⟨hl, E, F1, F2, (B.other W3 hne).other W4 hne⟩⟩, ?_, rfl⟩
    exact (((ext_keep E2 [a]).wr W3 (Or.inl (List.mem_singleton.mpr rfl))).wr W4 (Or.inl (List.mem_singleton.mpr rfl)))
  · refine G.callS2 d2_45 (hw 24 rfl) (hw 25 rfl) (hw 18 rfl) (hw 26 rfl) pd_2 (cCFAg K.l Z a0 hw hEL h2 vb (u2 cs) n cs.length hn (u2_len cs) h1 hm B) (fun _ q => nomatch q) ?_
    rintro _ _ _ ⟨rfl, rfl, rfl⟩ -
    refine G.putF d2_48 (hw 27 rfl) (F1.ext E2) (E.ext E2) (by simp) (Or.inr ⟨(hw 28 rfl), rfl, rfl⟩) (hw 2 rfl) (ty := .byte) (by decide) rfl rfl (fun h3 W3 F1 E => ?_)
    refine G.aloadN d2_51 rfl rfl ?_
    refine G.aload d2_52 rfl rfl ?_
    have F2' := Fld.oth (F2.ext E2) W3 (Or.inr (hw 30 rfl)) (Or.inr (hw 28 rfl)) (by decide) (by decide) (by decide)
    refine G.putF d2_54 (hw 29 rfl) F2' E (by simp) (Or.inr ⟨(hw 30 rfl), rfl, rfl⟩) (hw 2 rfl) (ty := (.array .byte)) (by decide) rfl rfl (fun h4 W4 F2 E => ?_)
    replace F1 := Fld.oth F1 W4 (Or.inr (hw 28 rfl)) (Or.inr (hw 30 rfl)) (by decide) (by decide) (by decide)
    refine G.ret0 d2_57 [] (fun _ q => nomatch q) ⟨rfl, ⟨hch, vb, Or.inr ⟨hl, E, F1, F2, (B.other W3 hne).other W4 hne⟩⟩, ?_, rfl⟩
    exact (((ext_keep E2 [a]).wr W3 (Or.inl (List.mem_singleton.mpr rfl))).wr W4 (Or.inl (List.mem_singleton.mpr rfl)))
/-- new String(char[]), one char at the least -/
theorem cSIg (l : Launch) (Z : State) (a0 : Array Value) (hw : hwT a0 Z) {EL : List (String × Nat)} {nw : Bool} (hEL : EW Z a0 EL) (h0 : Heap) (hC : CS Z) (hU : US Z) (a b : Addr) (cs : List Int32) (hm : cs.length ≤ 16) (h1 : 0 < cs.length) (hch : Ch cs) (E : Exa Z h0 a SN) (D : ∀ {O fn d : String} {ty : FieldType}, Laid Z a0 SN O fn d → parseFieldDescriptor d = some ty → Fld Z h0 a O fn d (defaultValue ty)) (A : Al Z h0 b .char (cs.map .int)) :
    Con l Z EL nw (⟨"java/lang/String", "<init>", "([C)V"⟩ : MethodName) jdk_42_method_3_code 2 (none) [] rmSIg #[.ref a, .ref b] h0 [a] (fun v h S' => v = none ∧ Str Z h a cs ∧ Keep h0 h [a] ∧ S' = []) := by
  refine Con.enter (a0 := a0) pn_4 hEL [.val (.ref a), .val (.ref b)] (fun m => by first | (simp [entryFrame, mkF, argsToLocals, Value.category]; done) | rfl) ?_
  intro K G
  refine G.aloadN d1_0 rfl rfl ?_
  refine G.aloadN d1_1 rfl rfl ?_
  refine G.iconst 0 d1_2 ?_
  refine G.aloadN d1_3 rfl rfl ?_
  have hn : (Int32.ofNat cs.length).toInt = (cs.length : Int) := len_toInt (by omega)
  refine G.alen (Int32.ofNat cs.length) d1_4 A (by simpa using hn) ?_
  refine G.aconstNull d1_5 ?_
  refine G.callI4 d1_6 (hw 8 rfl) (hw 9 rfl) (hw 3 rfl) (hw 11 rfl) pd_3 (cSI4g K.l Z a0 hw hEL h0 hC hU a b cs _ hn hm h1 hch E D A) (fun _ q => q) ?_
  rintro _ h2 _ ⟨rfl, B2, K2, rfl⟩ -
  exact G.ret0 d1_9 [] (fun _ q => nomatch q) ⟨rfl, B2, K2, rfl⟩
theorem Ch.nil : Ch [] := fun _ q => nomatch q
theorem Ch.cons {c : Int32} {cs : List Int32} (h : C16 c) (r : Ch cs) : Ch (c :: cs) := fun x q => by rcases List.mem_cons.mp q with rfl | q; exact h; exact r x q
theorem Str.empty {Z : State} {h : Heap} {a vb : Addr} (F : StrB Z h a 0 vb (([] : List Int32).map bL)) : Str Z h a [] := ⟨Ch.nil, vb, Or.inl ⟨Lat.nil, F⟩⟩
theorem ch16 (x : Int32) : C16 (x.toUInt32.toUInt16.toUInt32.toInt32) := by
  have := c_i2c x
  exact ⟨by omega, by omega⟩
theorem cEMP (l : Launch) (Z : State) (a0 : Array Value) (hw : hwT a0 Z) {EL : List (String × Nat)} {nw : Bool} (hEL : EW Z a0 EL) (h0 : Heap) (a vb : Addr) (cd : Int32) (vs : List Value) (A : StrB Z h0 a cd vb vs) :
    Con l Z EL nw (⟨"java/lang/String", "isEmpty", "()Z"⟩ : MethodName) jdk_42_method_55_code 1 (some .boolean) [] rm0 #[.ref a] h0 [] (fun v h S' => v = some (.int (if vs.length = 0 then 1 else 0)) ∧ h = h0 ∧ S' = []) := by
  refine Con.enter (a0 := a0) pn_10 hEL [.val (.ref a)] (fun m => by first | (simp [entryFrame, mkF, argsToLocals, Value.category]; done) | rfl) ?_
  intro K G
  obtain ⟨c1, A1, A2, A3, -⟩ := id A.2.2.2
  have hn : (Int32.ofNat vs.length).toInt = (vs.length : Int) := len_toInt A3
  refine G.aloadN d8_0 rfl rfl ?_
  refine G.getF d8_1 (hw 29 rfl) A.2.2.1 ?_
  refine G.alen (Int32.ofNat vs.length) d8_4 A.2.2.2 hn ?_
  refine G.if_ne d8_5 (fun q => ?_) (fun q => ?_)
  · refine G.iconst 0 d8_12 ?_
    exact G.nret d8_13 (Or.inl rfl) (z' := 0) (by decide) [] (fun _ q => nomatch q) ⟨by rw [if_neg (fun e => q (Int32.toInt_inj.mp (by rw [hn, e, toInt_0]; rfl)))], rfl, rfl⟩
  · refine G.iconst 1 d8_8 ?_
    refine G.goto d8_9 ?_
    exact G.nret d8_13 (Or.inl rfl) (z' := 1) (by decide) [] (fun _ q => nomatch q) ⟨by rw [if_pos (by have := congrArg Int32.toInt q; rw [hn, toInt_0] at this; omega)], rfl, rfl⟩
theorem cSBB (l : Launch) (Z : State) (a0 : Array Value) (hw : hwT a0 Z) {EL : List (String × Nat)} {nw : Bool} (hEL : EW Z a0 EL) (h0 : Heap) (a b : Addr) (cd : Int32) (hcd : cd = 0 ∨ cd = 1) (vs : List Value) (E : Exa Z h0 a SN) (D : ∀ {O fn d : String} {ty : FieldType}, Laid Z a0 SN O fn d → parseFieldDescriptor d = some ty → Fld Z h0 a O fn d (defaultValue ty)) (B : Al Z h0 b .byte vs) (hne : b ≠ a) :
    Con l Z EL nw (⟨"java/lang/String", "<init>", "([BB)V"⟩ : MethodName) jdk_42_method_151_code 3 (none) [] { frames := 1, cells := 0, slots := 0, locals := 13 } #[.ref a, .ref b, .int cd] h0 [a] (fun v h S' => v = none ∧ StrB Z h a cd b vs ∧ Keep h0 h [a] ∧ S' = []) := by
  refine Con.enter (a0 := a0) pn_11 hEL [.val (.ref a), .val (.ref b), .val (.int cd)] (fun m => by first | (simp [entryFrame, mkF, argsToLocals, Value.category]; done) | rfl) ?_
  intro K G
  have F1 := D (Or.inr (hw 28 rfl)) (ty := .byte) (by decide)
  have F2 := D (Or.inr (hw 30 rfl)) (ty := .array .byte) (by decide)
  refine G.aloadN d12_0 rfl rfl ?_
  refine G.initO d12_1 (hw 12 rfl) (hw 13 rfl) (hw 14 rfl) ?_
  refine G.aloadN d12_4 rfl rfl ?_
  refine G.aloadN d12_5 rfl rfl ?_
  refine G.putF d12_6 (hw 29 rfl) F2 E (by simp) (Or.inr ⟨(hw 30 rfl), rfl, rfl⟩) (hw 2 rfl) (ty := (.array .byte)) (by decide) rfl rfl (fun h2 W2 F2 E => ?_)
  have F1' := Fld.oth F1 W2 (Or.inr (hw 28 rfl)) (Or.inr (hw 30 rfl)) (by decide) (by decide) (by decide)
  refine G.aloadN d12_9 rfl rfl ?_
  refine G.iloadN d12_10 rfl ?_
  have hput : narrow .byte (.int cd) = .int cd ∧ fits .byte (.int cd) = true := by rcases hcd with rfl | rfl <;> exact ⟨rfl, rfl⟩
  refine G.putF d12_11 (hw 27 rfl) F1' E (by simp) (Or.inr ⟨(hw 28 rfl), rfl, rfl⟩) (hw 2 rfl) (ty := .byte) (by decide) hput.1 hput.2 (fun h4 W4 F1 E => ?_)
  have F2' := Fld.oth F2 W4 (Or.inr (hw 30 rfl)) (Or.inr (hw 28 rfl)) (by decide) (by decide) (by decide)
  refine G.ret0 d12_14 [] (fun _ q => nomatch q) ⟨rfl, ⟨E, F1, F2', (B.other W2 hne).other W4 hne⟩, ?_, rfl⟩
  exact ((Keep.refl h0 [a]).wr W2 (Or.inl (List.mem_singleton.mpr rfl))).wr W4 (Or.inl (List.mem_singleton.mpr rfl))
theorem cCE (l : Launch) (Z : State) (a0 : Array Value) (hw : hwT a0 Z) {EL : List (String × Nat)} {nw : Bool} (hEL : EW Z a0 EL) (h0 : Heap) (c : Int32) (hc : 0 ≤ c.toInt) : Con l Z EL nw (⟨"java/lang/StringLatin1", "canEncode", "(C)Z"⟩ : MethodName) jdk_43_method_3_code 1 (some .boolean) [] rm0 #[.int c] h0 [] (fun v h S' => v = some (.int (if c.toInt < 256 then 1 else 0)) ∧ h = h0 ∧ S' = []) := by
  refine Con.enter (a0 := a0) pn_12 hEL [.val (.int c)] (fun m => by first | (simp [entryFrame, mkF, argsToLocals, Value.category]; done) | rfl) ?_
  intro K G
  have e : (255 : Int32).toInt = 255 := by decide
  refine G.iloadN d10_0 rfl ?_
  refine G.sipush 255 d10_1 ?_
  refine G.icmp_gt d10_4 (fun q => ?_) (fun q => ?_)
  · rw [Int32.lt_iff_toInt_lt, e] at q
    refine G.iconst 0 d10_11 ?_
    exact G.nret d10_12 (Or.inl rfl) (z' := 0) (by decide) [] (fun _ q => nomatch q) ⟨by rw [if_neg (by omega)], rfl, rfl⟩
  · rw [Int32.lt_iff_toInt_lt, e] at q
    refine G.iconst 1 d10_7 ?_
    refine G.goto d10_8 ?_
    exact G.nret d10_12 (Or.inl rfl) (z' := 1) (by decide) [] (fun _ q => nomatch q) ⟨by rw [if_pos (by omega)], rfl, rfl⟩
theorem cLTB (l : Launch) (Z : State) (a0 : Array Value) (hw : hwT a0 Z) {EL : List (String × Nat)} {nw : Bool} (hEL : EW Z a0 EL) (h0 : Heap) (c : Int32) : Con l Z EL nw (⟨"java/lang/StringLatin1", "toBytes", "(C)[B"⟩ : MethodName) jdk_43_method_46_code 1 (some (.array .byte)) [] { frames := 0, cells := 1, slots := 1, locals := 0 } #[.int c] h0 [] (fun v h S' => (∃ b, v = some (.ref b) ∧ h0.size ≤ b ∧ Al Z h b .byte [bL c]) ∧ Ext h0 h ∧ S' = []) := by
  refine Con.enter (a0 := a0) pn_13 hEL [.val (.int c)] (fun m => by first | (simp [entryFrame, mkF, argsToLocals, Value.category]; done) | rfl) ?_
  intro K G
  refine G.iconst 1 d11_0 ?_
  refine G.newA 1 1 d11_1 (hw 20 rfl) (by decide) (by decide) (fun h1 E1 L1 A1 => ?_)
  refine G.dup d11_3 ?_
  refine G.iconst 0 d11_4 ?_
  refine G.iloadN d11_5 rfl ?_
  refine G.i2b d11_6 ?_
  refine G.bastore d11_7 (by simp) A1 (i := 0) (by decide) (by simp) (fun h2 W2 A2 => ?_)
  rw [nar8] at A2
  exact G.aret d11_8 [] (fun _ q => nomatch q) ⟨⟨_, rfl, Nat.le_refl _, A2⟩, keep_nil_ext ((ext_keep E1 []).wr W2 (Or.inr (Nat.le_refl _))), rfl⟩
abbrev rmVO : Room := { frames := 2, cells := 3, slots := 16, locals := 48 }
/-- String.valueOf(char), a char below 256 -/
theorem cVO (l : Launch) (Z : State) (a0 : Array Value) (hw : hwT a0 Z) {EL : List (String × Nat)} {nw : Bool} (hEL : EW Z a0 EL) (h0 : Heap) (hC : CS Z) (c : Int32) (hc : C8 c) : Con l Z EL nw (⟨"java/lang/String", "valueOf", "(C)Ljava/lang/String;"⟩ : MethodName) jdk_42_method_139_code 1 (some (.object "java/lang/String")) [] rmVO #[.int c] h0 [] (fun v h S' => (∃ s vb, v = some (.ref s) ∧ StrB Z h s 0 vb [bL c]) ∧ Ext h0 h ∧ S' = []) := by
  obtain ⟨cc, hC, hcc⟩ := hC
  refine Con.enter (a0 := a0) pn_14 hEL [.val (.int c)] (fun m => by first | (simp [entryFrame, mkF, argsToLocals, Value.category]; done) | rfl) ?_
  intro K G
  refine G.getS d9_0 (hw 15 rfl) hC ?_
  refine G.if_eq d9_3 (fun q => absurd q hcc) (fun _ => ?_)
  refine G.iloadN d9_6 rfl ?_
  refine G.callS1 d9_7 (hw 46 rfl) (hw 47 rfl) (hw 48 rfl) (hw 49 rfl) pd_8 (cCE K.l Z a0 hw hEL h0 c hc.1) (fun _ q => nomatch q) ?_
  rintro _ _ _ ⟨rfl, rfl, rfl⟩ -
  rw [if_pos hc.2]
  refine G.if_eq d9_10 (fun q => absurd q (by decide)) (fun _ => ?_)
  refine G.newO d9_13 (hw 50 rfl) (hw 2 rfl) (hw 3 rfl) (fun h1 E1 L1 A1 => ?_)
  refine G.dup d9_16 ?_
  refine G.iloadN d9_17 rfl ?_
  refine G.callS1 d9_18 (hw 51 rfl) (hw 52 rfl) (hw 48 rfl) (hw 53 rfl) pd_9 (cLTB K.l Z a0 hw hEL h1 c) (fun _ q => nomatch q) ?_
  rintro _ h2 _ ⟨⟨b, rfl, hb, B⟩, E2, rfl⟩ -
  refine G.iconst 0 d9_21 ?_
  refine G.callI2 d9_22 (hw 54 rfl) (hw 55 rfl) (hw 3 rfl) (hw 56 rfl) pd_10 (cSBB K.l Z a0 hw hEL h2 _ b 0 (Or.inl rfl) [bL c] (A1.1.ext E2) (fun L t => (A1.2 L t).ext E2) B (Nat.ne_of_gt (Nat.lt_of_lt_of_le L1 hb))) (by simp) ?_
  rintro _ h3 _ ⟨rfl, S3, K3, rfl⟩ -
  exact G.aret d9_25 [] (fun _ q => nomatch q) ⟨⟨_, _, rfl, S3⟩, keep_nil_ext (((ext_keep E1 []).ext E2).trans K3 (fun x q => by cases List.mem_singleton.mp q; exact Or.inr (Nat.le_refl _))), rfl⟩
theorem cUTB (l : Launch) (Z : State) (a0 : Array Value) (hw : hwT a0 Z) {EL : List (String × Nat)} {nw : Bool} (hEL : EW Z a0 EL) (h0 : Heap) (hU : US Z) (c : Int32) : Con l Z EL nw (⟨"java/lang/StringUTF16", "toBytes", "(C)[B"⟩ : MethodName) jdk_52_method_24_code 2 (some (.array .byte)) [] { frames := 1, cells := 1, slots := 2, locals := 14 } #[.int c] h0 [] (fun v h S' => (∃ b, v = some (.ref b) ∧ h0.size ≤ b ∧ Al Z h b .byte (u2 [c])) ∧ Ext h0 h ∧ S' = []) := by
  refine Con.enter (a0 := a0) pn_15 hEL [.val (.int c), .unset] (fun m => by first | (simp [entryFrame, mkF, argsToLocals, Value.category]; done) | rfl) ?_
  intro K G
  refine G.iconst 2 d18_0 ?_
  refine G.newA 2 2 d18_1 (hw 20 rfl) (by decide) (by decide) (fun h1 E1 L1 A1 => ?_)
  refine G.astore1 d18_3 ?_
  refine G.aloadN d18_4 rfl rfl ?_
  refine G.iconst 0 d18_5 ?_
  refine G.iloadN d18_6 rfl ?_
  refine G.callS3 d18_7 (hw 67 rfl) (hw 68 rfl) (hw 18 rfl) (hw 69 rfl) pd_6 (cPC K.l Z a0 hw hEL h1 hU h0.size 0 c 0 toInt_0 _ (by simp) A1) (by simp) ?_
  rintro _ h2 _ ⟨rfl, B2, K2, rfl⟩ -
  refine G.aloadN d18_10 rfl rfl ?_
  exact G.aret d18_11 [] (fun _ q => nomatch q) ⟨⟨_, rfl, Nat.le_refl _, B2⟩, keep_nil_ext ((ext_keep E1 []).trans K2 (fun x q => by cases List.mem_singleton.mp q; exact Or.inr (Nat.le_refl _))), rfl⟩
/-- String.valueOf(char) -/
theorem cVOg (l : Launch) (Z : State) (a0 : Array Value) (hw : hwT a0 Z) {EL : List (String × Nat)} {nw : Bool} (hEL : EW Z a0 EL) (h0 : Heap) (hC : CS Z) (hU : US Z) (c : Int32) (hc : C16 c) : Con l Z EL nw (⟨"java/lang/String", "valueOf", "(C)Ljava/lang/String;"⟩ : MethodName) jdk_42_method_139_code 1 (some (.object "java/lang/String")) [] rmVO #[.int c] h0 [] (fun v h S' => (∃ s, v = some (.ref s) ∧ Str Z h s [c]) ∧ Ext h0 h ∧ S' = []) := by
  obtain ⟨cc, hC, hcc⟩ := hC
  refine Con.enter (a0 := a0) pn_14 hEL [.val (.int c)] (fun m => by first | (simp [entryFrame, mkF, argsToLocals, Value.category]; done) | rfl) ?_
  intro K G
  refine G.getS d9_0 (hw 15 rfl) hC ?_
  refine G.if_eq d9_3 (fun q => absurd q hcc) (fun _ => ?_)
  refine G.iloadN d9_6 rfl ?_
  refine G.callS1 d9_7 (hw 46 rfl) (hw 47 rfl) (hw 48 rfl) (hw 49 rfl) pd_8 (cCE K.l Z a0 hw hEL h0 c hc.1) (fun _ q => nomatch q) ?_
  rintro _ _ _ ⟨rfl, rfl, rfl⟩ -
  by_cases h8 : c.toInt < 256
  · rw [if_pos h8]
    refine G.if_eq d9_10 (fun q => absurd q (by decide)) (fun _ => ?_)
    refine G.newO d9_13 (hw 50 rfl) (hw 2 rfl) (hw 3 rfl) (fun h1 E1 L1 A1 => ?_)
    refine G.dup d9_16 ?_
    refine G.iloadN d9_17 rfl ?_
    refine G.callS1 d9_18 (hw 51 rfl) (hw 52 rfl) (hw 48 rfl) (hw 53 rfl) pd_9 (cLTB K.l Z a0 hw hEL h1 c) (fun _ q => nomatch q) ?_
    rintro _ h2 _ ⟨⟨b, rfl, hb, B⟩, E2, rfl⟩ -
    refine G.iconst 0 d9_21 ?_
    refine G.callI2 d9_22 (hw 54 rfl) (hw 55 rfl) (hw 3 rfl) (hw 56 rfl) pd_10 (cSBB K.l Z a0 hw hEL h2 _ b 0 (Or.inl rfl) [bL c] (A1.1.ext E2) (fun L t => (A1.2 L t).ext E2) B (Nat.ne_of_gt (Nat.lt_of_lt_of_le L1 hb))) (by simp) ?_
    rintro _ h3 _ ⟨rfl, S3, K3, rfl⟩ -
    exact G.aret d9_25 [] (fun _ q => nomatch q) ⟨⟨_, rfl, Ch.cons hc Ch.nil, b, Or.inl ⟨Lat.cons ⟨hc.1, h8⟩ Lat.nil, S3⟩⟩, keep_nil_ext (((ext_keep E1 []).ext E2).trans K3 (fun x q => by cases List.mem_singleton.mp q; exact Or.inr (Nat.le_refl _))), rfl⟩
  · rw [if_neg h8]
    refine G.if_eq d9_10 (fun _ => ?_) (fun q => absurd rfl q)
    refine G.newO d9_26 (hw 50 rfl) (hw 2 rfl) (hw 3 rfl) (fun h1 E1 L1 A1 => ?_)
    refine G.dup d9_29 ?_
    refine G.iloadN d9_30 rfl ?_
    refine G.callS1 d9_31 (hw 77 rfl) (hw 78 rfl) (hw 18 rfl) (hw 79 rfl) pd_9 (cUTB K.l Z a0 hw hEL h1 hU c) (fun _ q => nomatch q) ?_
    rintro _ h2 _ ⟨⟨b, rfl, hb, B⟩, E2, rfl⟩ -
    refine G.iconst 1 d9_34 ?_
    refine G.callI2 d9_35 (hw 54 rfl) (hw 55 rfl) (hw 3 rfl) (hw 56 rfl) pd_10 (cSBB K.l Z a0 hw hEL h2 _ b 1 (Or.inr rfl) (u2 [c]) (A1.1.ext E2) (fun L t => (A1.2 L t).ext E2) B (Nat.ne_of_gt (Nat.lt_of_lt_of_le L1 hb))) (by simp) ?_
    rintro _ h3 _ ⟨rfl, S3, K3, rfl⟩ -
    exact G.aret d9_38 [] (fun _ q => nomatch q) ⟨⟨_, rfl, Ch.cons hc Ch.nil, b, Or.inr ⟨fun q => h8 (q c (by simp)).2, S3⟩⟩, keep_nil_ext (((ext_keep E1 []).ext E2).trans K3 (fun x q => by cases List.mem_singleton.mp q; exact Or.inr (Nat.le_refl _))), rfl⟩
theorem Str.bytes {Z : State} {h : Heap} {s : Addr} {cs : List Int32} (F : Str Z h s cs) (hp : 0 < cs.length) : ∃ cd vb vs, StrB Z h s cd vb vs ∧ ¬ vs.length = 0 := by
  obtain ⟨c, vb, ⟨-, q⟩ | ⟨-, q⟩⟩ := F
  · exact ⟨_, _, _, q, by rw [List.length_map]; omega⟩
  · exact ⟨_, _, _, q, by rw [u2_len]; omega⟩
abbrev rmRN : Room := { frames := 1, cells := 0, slots := 0, locals := 12 }
theorem cRN (l : Launch) (Z : State) (a0 : Array Value) (hw : hwT a0 Z) (h0 : Heap) (wv : Value) (hr : wv.isRef = true) (s : Addr) (cs : List Int32) (hp : 0 < cs.length) (A : Str Z h0 s cs) : Con l Z EL1 false (⟨"com/example/claim/claim/service/LeaseTerms", "requireName", "(Ljava/lang/String;Ljava/lang/String;)Ljava/lang/String;"⟩ : MethodName) prog_7_method_3_code 2 (some (.object "java/lang/String")) [] rmRN #[wv, .ref s] h0 [] (fun v h S' => v = some (.ref s) ∧ h = h0 ∧ S' = []) := by
  have hEL := hEL1 hw
  obtain ⟨cd, vb, vs, B, hl⟩ := A.bytes hp
  rcases ref_cases hr with rfl | ⟨m, rfl⟩
  · refine Con.enter (a0 := a0) pn_16 hEL [.val (.null), .val (.ref s)] (fun m => by first | (simp [entryFrame, mkF, argsToLocals, Value.category]; done) | rfl) ?_
    intro K G
    refine G.aloadN d7_0 rfl rfl ?_
    refine G.ifnullR d7_1 ?_
    refine G.aloadN d7_4 rfl rfl ?_
    refine G.callV0 d7_5 (hw 35 rfl) (hw 36 rfl) (hw 38 rfl) (hw 37 rfl) (hw 39 rfl) (hw 3 rfl) pd_11 B.1 (cEMP K.l Z a0 hw hEL h0 s vb cd vs B) (fun _ q => nomatch q) ?_
    rintro _ _ _ ⟨rfl, rfl, rfl⟩ -
    rw [if_neg hl]
    refine G.if_eq d7_8 (fun _ => ?_) (fun q => absurd rfl q)
    refine G.aloadN d7_25 rfl rfl ?_
    exact G.aret d7_26 [] (fun _ q => nomatch q) ⟨rfl, rfl, rfl⟩
  · refine Con.enter (a0 := a0) pn_16 hEL [.val (.ref m), .val (.ref s)] (fun m => by first | (simp [entryFrame, mkF, argsToLocals, Value.category]; done) | rfl) ?_
    intro K G
    refine G.aloadN d7_0 rfl rfl ?_
    refine G.ifnullR d7_1 ?_
    refine G.aloadN d7_4 rfl rfl ?_
    refine G.callV0 d7_5 (hw 35 rfl) (hw 36 rfl) (hw 38 rfl) (hw 37 rfl) (hw 39 rfl) (hw 3 rfl) pd_11 B.1 (cEMP K.l Z a0 hw hEL h0 s vb cd vs B) (fun _ q => nomatch q) ?_
    rintro _ _ _ ⟨rfl, rfl, rfl⟩ -
    rw [if_neg hl]
    refine G.if_eq d7_8 (fun _ => ?_) (fun q => absurd rfl q)
    refine G.aloadN d7_25 rfl rfl ?_
    exact G.aret d7_26 [] (fun _ q => nomatch q) ⟨rfl, rfl, rfl⟩
theorem law1 (l : Launch) (Z : State) (a0 : Array Value) (hw : hwT a0 Z) (h0 : Heap) (hC : CS Z) (hU : US Z) (a b sel w : Int32) : Con l Z EL1 false x code maxLocals ret tables_1 room_1 #[.int a, .int b, .int sel, .int w] h0 [] (fun v h S' => v = some (.int 1)) := by
  have hEL := hEL1 hw
  refine Con.enter (a0 := a0) pn_17 hEL [.val (.int a), .val (.int b), .val (.int sel), .val (.int w), .unset, .unset, .unset, .unset, .unset, .unset, .unset, .unset, .unset] (fun m => by first | (simp [entryFrame, mkF, argsToLocals, Value.category, maxLocals]; done) | rfl) ?_
  intro K G
  refine G.iloadN d0_0 rfl ?_
  refine G.ldcI d0_1 (hw 0 rfl) ?_
  refine G.iand d0_3 ?_
  refine G.i2c d0_4 ?_
  refine G.istore4 d0_5 ?_
  refine G.iloadN d0_7 rfl ?_
  refine G.bipush 16 d0_8 ?_
  refine G.iushr d0_10 ?_
  refine G.ldcI d0_11 (hw 0 rfl) ?_
  refine G.iand d0_13 ?_
  refine G.i2c d0_14 ?_
  refine G.istore5 d0_15 ?_
  refine G.iloadN d0_17 rfl ?_
  refine G.ldcI d0_18 (hw 0 rfl) ?_
  refine G.iand d0_20 ?_
  refine G.i2c d0_21 ?_
  refine G.istore6 d0_22 ?_
  refine G.iloadN d0_24 rfl ?_
  refine G.bipush 16 d0_25 ?_
  refine G.iushr d0_27 ?_
  refine G.ldcI d0_28 (hw 0 rfl) ?_
  refine G.iand d0_30 ?_
  refine G.i2c d0_31 ?_
  refine G.istore7 d0_32 ?_
  refine G.iconst 1 d0_34 ?_
  refine G.iloadN d0_35 rfl ?_
  refine G.iconst 3 d0_36 ?_
  refine G.iand d0_37 ?_
  refine G.iadd d0_38 ?_
  refine G.istore8 d0_39 ?_
  obtain ⟨c4, h4, r4⟩ : ∃ q, q = (a &&& 65535).toUInt32.toUInt16.toUInt32.toInt32 ∧ C16 q := ⟨_, rfl, ch16 _⟩
  obtain ⟨c5, h5, r5⟩ : ∃ q, q = ((a.toUInt32 >>> ((16 : Int32) &&& 31).toUInt32).toInt32 &&& 65535).toUInt32.toUInt16.toUInt32.toInt32 ∧ C16 q := ⟨_, rfl, ch16 _⟩
  obtain ⟨c6, h6, r6⟩ : ∃ q, q = (b &&& 65535).toUInt32.toUInt16.toUInt32.toInt32 ∧ C16 q := ⟨_, rfl, ch16 _⟩
  obtain ⟨c7, h7, r7⟩ : ∃ q, q = ((b.toUInt32 >>> ((16 : Int32) &&& 31).toUInt32).toInt32 &&& 65535).toUInt32.toUInt16.toUInt32.toInt32 ∧ C16 q := ⟨_, rfl, ch16 _⟩
  obtain ⟨nn, hnn⟩ : ∃ q, q = 1 + (sel &&& 3) := ⟨_, rfl⟩
  rw [← h4, ← h5, ← h6, ← h7, ← hnn]
  clear h4 h5 h6 h7 hnn
  have tail166 : ∀ (h : Heap) (s : Addr) (cs : List Int32), 0 < cs.length → Str Z h s cs → Go Z EL1 false room_1 (fun v h S' => v = some (.int 1)) K h [] 6 60 166 [.val (.int a), .val (.int b), .val (.int sel), .val (.int w), .val (.int c4), .val (.int c5), .val (.int c6), .val (.int c7), .val (.int nn), .val (.ref s), .unset, .unset, .unset] [] := by
    intro h s cs hp A
    refine G.iloadN d0_166 rfl ?_
    refine G.iconst 2 d0_167 ?_
    refine G.iushr d0_168 ?_
    refine G.iconst 3 d0_169 ?_
    refine G.iand d0_170 ?_
    refine G.istore10 d0_171 ?_
    obtain ⟨wk, hwk⟩ : ∃ q, q = (sel.toUInt32 >>> ((2 : Int32) &&& 31).toUInt32).toInt32 &&& 3 := ⟨_, rfl⟩
    rw [← hwk]
    clear hwk
    have tail228 : ∀ (h : Heap) (wv : Value), wv.isRef = true → Str Z h s cs → Go Z EL1 false room_1 (fun v h S' => v = some (.int 1)) K h [] 16 200 228 [.val (.int a), .val (.int b), .val (.int sel), .val (.int w), .val (.int c4), .val (.int c5), .val (.int c6), .val (.int c7), .val (.int nn), .val (.ref s), .val (.int wk), .val wv, .unset] [] := by
      intro h wv hr A
      refine G.aload d0_228 rfl hr ?_
      refine G.aload d0_230 rfl rfl ?_
      refine G.callS2 d0_232 (hw 31 rfl) (hw 32 rfl) (hw 33 rfl) (hw 34 rfl) pd_12 (cRN K.l Z a0 hw h wv hr s cs hp A) (fun _ q => nomatch q) ?_
      rintro _ _ _ ⟨rfl, rfl, rfl⟩ -
      refine G.astore12 d0_235 ?_
      refine G.aload d0_237 rfl rfl ?_
      refine G.aload d0_239 rfl rfl ?_
      refine G.acmp_ne d0_241 (fun q => absurd rfl q) (fun _ => ?_)
      refine G.iconst 1 d0_244 ?_
      refine G.goto d0_245 ?_
      exact G.nret d0_249 (Or.inl rfl) (z' := 1) (by decide) [] (fun _ q => nomatch q) rfl
    refine G.iload d0_173 rfl ?_
    refine G.if_ne d0_175 (fun _ => ?_) (fun _ => ?_)
    · refine G.iload d0_184 rfl ?_
      refine G.iconst 1 d0_186 ?_
      refine G.icmp_ne d0_187 (fun _ => ?_) (fun _ => ?_)
      · refine G.iload d0_205 rfl ?_
        refine G.iconst 2 d0_207 ?_
        refine G.icmp_ne d0_208 (fun _ => ?_) (fun _ => ?_)
        · refine G.ldcO 52 d0_224 (hw 76 rfl) (hSA Z a0 hw) rfl (by decide) (by decide) (fun ma h1 E1 => ?_)
          refine G.astore11 d0_226 ?_
          refine Go.more (k' := 16) (n' := 200) ?_ (by decide) (by decide)
          exact tail228 _ _ rfl (A.ext E1)
        · refine G.iloadN d0_211 rfl ?_
          refine G.ldcI d0_212 (hw 0 rfl) ?_
          refine G.iand d0_214 ?_
          refine G.i2c d0_215 ?_
          refine G.callS1 d0_216 (hw 43 rfl) (hw 44 rfl) (hw 3 rfl) (hw 45 rfl) pd_13 (cVOg K.l Z a0 hw hEL h hC hU _ (ch16 _)) (fun _ q => nomatch q) ?_
          rintro _ h1 _ ⟨⟨s', rfl, S1⟩, E1, rfl⟩ -
          refine G.astore11 d0_219 ?_
          refine G.goto d0_221 ?_
          refine Go.more (k' := 16) (n' := 200) ?_ (by decide) (by decide)
          exact tail228 _ _ rfl (A.ext E1)
      · refine G.newO d0_190 (hw 1 rfl) (hw 2 rfl) (hw 3 rfl) (fun h1a E1a L1a A1a => ?_)
        refine G.dup d0_193 ?_
        refine G.iconst 0 d0_194 ?_
        refine G.newA 0 0 d0_195 (hw 4 rfl) (by decide) (by decide) (fun h1b E1b L1b B1_0 => ?_)
        have B1 : Al Z h1b h1a.size .char (([] : List Int32).map .int) := B1_0
        refine G.callI1 d0_197 (hw 5 rfl) (hw 6 rfl) (hw 3 rfl) (hw 7 rfl) pd_14 (cSIA K.l Z a0 hw hEL h1b hC (by simp) h.size h1a.size [] (by simp) Lat.nil (A1a.1.ext E1b) (fun L t => (A1a.2 L t).ext E1b) B1) (by simp) ?_
        rintro _ h1z _ ⟨rfl, ⟨v1, T1⟩, K1z, rfl⟩ -
        have K1 : Keep h h1z [] := ((ext_keep E1a []).ext E1b).trans K1z (fun x q => by cases List.mem_singleton.mp q; exact Or.inr (Nat.le_refl _))
        refine G.astore11 d0_200 ?_
        refine G.goto d0_202 ?_
        refine Go.fewer (S' := []) ?_ (fun _ q => nomatch q)
        refine Go.more (k' := 16) (n' := 200) ?_ (by decide) (by decide)
        exact tail228 _ _ rfl (A.keep K1)
    · refine G.aconstNull d0_178 ?_
      refine G.astore11 d0_179 ?_
      refine G.goto d0_181 ?_
      refine Go.more (k' := 16) (n' := 200) ?_ (by decide) (by decide)
      exact tail228 _ _ rfl A
  refine G.iload d0_41 rfl ?_
  refine G.iconst 1 d0_43 ?_
  refine G.icmp_ne d0_44 (fun _ => ?_) (fun _ => ?_)
  · refine G.iload d0_67 rfl ?_
    refine G.iconst 2 d0_69 ?_
    refine G.icmp_ne d0_70 (fun _ => ?_) (fun _ => ?_)
    · refine G.iload d0_98 rfl ?_
      refine G.iconst 3 d0_100 ?_
      refine G.icmp_ne d0_101 (fun _ => ?_) (fun _ => ?_)
      · refine G.newO d0_134 (hw 1 rfl) (hw 2 rfl) (hw 3 rfl) (fun h1a E1a L1a A1a => ?_)
        refine G.dup d0_137 ?_
        refine G.iconst 4 d0_138 ?_
        refine G.newA 4 4 d0_139 (hw 4 rfl) (by decide) (by decide) (fun h1b E1b L1b B1_0 => ?_)
        refine G.dup d0_141 ?_
        refine G.iconst 0 d0_142 ?_
        refine G.iload d0_143 rfl ?_
        refine G.castore d0_145 (by simp) B1_0 (i := 0) (by decide) (by simp) (fun h1c0 W1_0 B1_1 => ?_)
        refine G.dup d0_146 ?_
        refine G.iconst 1 d0_147 ?_
        refine G.iload d0_148 rfl ?_
        refine G.castore d0_150 (by simp) B1_1 (i := 1) (by decide) (by simp) (fun h1c1 W1_1 B1_2 => ?_)
        refine G.dup d0_151 ?_
        refine G.iconst 2 d0_152 ?_
        refine G.iload d0_153 rfl ?_
        refine G.castore d0_155 (by simp) B1_2 (i := 2) (by decide) (by simp) (fun h1c2 W1_2 B1_3 => ?_)
        refine G.dup d0_156 ?_
        refine G.iconst 3 d0_157 ?_
        refine G.iload d0_158 rfl ?_
        refine G.castore d0_160 (by simp) B1_3 (i := 3) (by decide) (by simp) (fun h1c3 W1_3 B1_4 => ?_)
        rw [nar_char r4.1 (by have := r4.2; omega), nar_char r5.1 (by have := r5.2; omega), nar_char r6.1 (by have := r6.2; omega), nar_char r7.1 (by have := r7.2; omega)] at B1_4
        have B1 : Al Z h1c3 h1a.size .char (([c4, c5, c6, c7] : List Int32).map .int) := B1_4
        refine G.callI1 d0_161 (hw 5 rfl) (hw 6 rfl) (hw 3 rfl) (hw 7 rfl) pd_14 (cSIg K.l Z a0 hw hEL h1c3 hC hU h0.size h1a.size [c4, c5, c6, c7] (by simp) (by simp) (Ch.cons r4 (Ch.cons r5 (Ch.cons r6 (Ch.cons r7 Ch.nil)))) (((((A1a.1.ext E1b).wr W1_0).wr W1_1).wr W1_2).wr W1_3) (fun L t => (((((A1a.2 L t).ext E1b).other W1_0 (Or.inl (Nat.ne_of_lt L1a))).other W1_1 (Or.inl (Nat.ne_of_lt L1a))).other W1_2 (Or.inl (Nat.ne_of_lt L1a))).other W1_3 (Or.inl (Nat.ne_of_lt L1a))) B1) (by simp) ?_
        rintro _ h1z _ ⟨rfl, T1, K1z, rfl⟩ -
        have K1 : Keep h0 h1z [] := ((((((ext_keep E1a []).ext E1b).wr W1_0 (Or.inr (Nat.le_of_lt L1a))).wr W1_1 (Or.inr (Nat.le_of_lt L1a))).wr W1_2 (Or.inr (Nat.le_of_lt L1a))).wr W1_3 (Or.inr (Nat.le_of_lt L1a))).trans K1z (fun x q => by cases List.mem_singleton.mp q; exact Or.inr (Nat.le_refl _))
        refine G.astore9 d0_164 ?_
        refine Go.fewer (S' := []) ?_ (fun _ q => nomatch q)
        refine Go.more (k' := 6) (n' := 60) ?_ (by decide) (by decide)
        exact tail166 _ _ _ (by simp) T1
      · refine G.newO d0_104 (hw 1 rfl) (hw 2 rfl) (hw 3 rfl) (fun h1a E1a L1a A1a => ?_)
        refine G.dup d0_107 ?_
        refine G.iconst 3 d0_108 ?_
        refine G.newA 3 3 d0_109 (hw 4 rfl) (by decide) (by decide) (fun h1b E1b L1b B1_0 => ?_)
        refine G.dup d0_111 ?_
        refine G.iconst 0 d0_112 ?_
        refine G.iload d0_113 rfl ?_
        refine G.castore d0_115 (by simp) B1_0 (i := 0) (by decide) (by simp) (fun h1c0 W1_0 B1_1 => ?_)
        refine G.dup d0_116 ?_
        refine G.iconst 1 d0_117 ?_
        refine G.iload d0_118 rfl ?_
        refine G.castore d0_120 (by simp) B1_1 (i := 1) (by decide) (by simp) (fun h1c1 W1_1 B1_2 => ?_)
        refine G.dup d0_121 ?_
        refine G.iconst 2 d0_122 ?_
        refine G.iload d0_123 rfl ?_
        refine G.castore d0_125 (by simp) B1_2 (i := 2) (by decide) (by simp) (fun h1c2 W1_2 B1_3 => ?_)
        rw [nar_char r4.1 (by have := r4.2; omega), nar_char r5.1 (by have := r5.2; omega), nar_char r6.1 (by have := r6.2; omega)] at B1_3
        have B1 : Al Z h1c2 h1a.size .char (([c4, c5, c6] : List Int32).map .int) := B1_3
        refine G.callI1 d0_126 (hw 5 rfl) (hw 6 rfl) (hw 3 rfl) (hw 7 rfl) pd_14 (cSIg K.l Z a0 hw hEL h1c2 hC hU h0.size h1a.size [c4, c5, c6] (by simp) (by simp) (Ch.cons r4 (Ch.cons r5 (Ch.cons r6 Ch.nil))) ((((A1a.1.ext E1b).wr W1_0).wr W1_1).wr W1_2) (fun L t => ((((A1a.2 L t).ext E1b).other W1_0 (Or.inl (Nat.ne_of_lt L1a))).other W1_1 (Or.inl (Nat.ne_of_lt L1a))).other W1_2 (Or.inl (Nat.ne_of_lt L1a))) B1) (by simp) ?_
        rintro _ h1z _ ⟨rfl, T1, K1z, rfl⟩ -
        have K1 : Keep h0 h1z [] := (((((ext_keep E1a []).ext E1b).wr W1_0 (Or.inr (Nat.le_of_lt L1a))).wr W1_1 (Or.inr (Nat.le_of_lt L1a))).wr W1_2 (Or.inr (Nat.le_of_lt L1a))).trans K1z (fun x q => by cases List.mem_singleton.mp q; exact Or.inr (Nat.le_refl _))
        refine G.astore9 d0_129 ?_
        refine G.goto d0_131 ?_
        refine Go.fewer (S' := []) ?_ (fun _ q => nomatch q)
        refine Go.more (k' := 6) (n' := 60) ?_ (by decide) (by decide)
        exact tail166 _ _ _ (by simp) T1
    · refine G.newO d0_73 (hw 1 rfl) (hw 2 rfl) (hw 3 rfl) (fun h1a E1a L1a A1a => ?_)
      refine G.dup d0_76 ?_
      refine G.iconst 2 d0_77 ?_
      refine G.newA 2 2 d0_78 (hw 4 rfl) (by decide) (by decide) (fun h1b E1b L1b B1_0 => ?_)
      refine G.dup d0_80 ?_
      refine G.iconst 0 d0_81 ?_
      refine G.iload d0_82 rfl ?_
      refine G.castore d0_84 (by simp) B1_0 (i := 0) (by decide) (by simp) (fun h1c0 W1_0 B1_1 => ?_)
      refine G.dup d0_85 ?_
      refine G.iconst 1 d0_86 ?_
      refine G.iload d0_87 rfl ?_
      refine G.castore d0_89 (by simp) B1_1 (i := 1) (by decide) (by simp) (fun h1c1 W1_1 B1_2 => ?_)
      rw [nar_char r4.1 (by have := r4.2; omega), nar_char r5.1 (by have := r5.2; omega)] at B1_2
      have B1 : Al Z h1c1 h1a.size .char (([c4, c5] : List Int32).map .int) := B1_2
      refine G.callI1 d0_90 (hw 5 rfl) (hw 6 rfl) (hw 3 rfl) (hw 7 rfl) pd_14 (cSIg K.l Z a0 hw hEL h1c1 hC hU h0.size h1a.size [c4, c5] (by simp) (by simp) (Ch.cons r4 (Ch.cons r5 Ch.nil)) (((A1a.1.ext E1b).wr W1_0).wr W1_1) (fun L t => (((A1a.2 L t).ext E1b).other W1_0 (Or.inl (Nat.ne_of_lt L1a))).other W1_1 (Or.inl (Nat.ne_of_lt L1a))) B1) (by simp) ?_
      rintro _ h1z _ ⟨rfl, T1, K1z, rfl⟩ -
      have K1 : Keep h0 h1z [] := ((((ext_keep E1a []).ext E1b).wr W1_0 (Or.inr (Nat.le_of_lt L1a))).wr W1_1 (Or.inr (Nat.le_of_lt L1a))).trans K1z (fun x q => by cases List.mem_singleton.mp q; exact Or.inr (Nat.le_refl _))
      refine G.astore9 d0_93 ?_
      refine G.goto d0_95 ?_
      refine Go.fewer (S' := []) ?_ (fun _ q => nomatch q)
      refine Go.more (k' := 6) (n' := 60) ?_ (by decide) (by decide)
      exact tail166 _ _ _ (by simp) T1
  · refine G.newO d0_47 (hw 1 rfl) (hw 2 rfl) (hw 3 rfl) (fun h1a E1a L1a A1a => ?_)
    refine G.dup d0_50 ?_
    refine G.iconst 1 d0_51 ?_
    refine G.newA 1 1 d0_52 (hw 4 rfl) (by decide) (by decide) (fun h1b E1b L1b B1_0 => ?_)
    refine G.dup d0_54 ?_
    refine G.iconst 0 d0_55 ?_
    refine G.iload d0_56 rfl ?_
    refine G.castore d0_58 (by simp) B1_0 (i := 0) (by decide) (by simp) (fun h1c0 W1_0 B1_1 => ?_)
    rw [nar_char r4.1 (by have := r4.2; omega)] at B1_1
    have B1 : Al Z h1c0 h1a.size .char (([c4] : List Int32).map .int) := B1_1
    refine G.callI1 d0_59 (hw 5 rfl) (hw 6 rfl) (hw 3 rfl) (hw 7 rfl) pd_14 (cSIg K.l Z a0 hw hEL h1c0 hC hU h0.size h1a.size [c4] (by simp) (by simp) (Ch.cons r4 Ch.nil) ((A1a.1.ext E1b).wr W1_0) (fun L t => ((A1a.2 L t).ext E1b).other W1_0 (Or.inl (Nat.ne_of_lt L1a))) B1) (by simp) ?_
    rintro _ h1z _ ⟨rfl, T1, K1z, rfl⟩ -
    have K1 : Keep h0 h1z [] := (((ext_keep E1a []).ext E1b).wr W1_0 (Or.inr (Nat.le_of_lt L1a))).trans K1z (fun x q => by cases List.mem_singleton.mp q; exact Or.inr (Nat.le_refl _))
    refine G.astore9 d0_62 ?_
    refine G.goto d0_64 ?_
    refine Go.fewer (S' := []) ?_ (fun _ q => nomatch q)
    refine Go.more (k' := 6) (n' := 60) ?_ (by decide) (by decide)
    exact tail166 _ _ _ (by simp) T1
set_option maxRecDepth 65536 in
set_option maxHeartbeats 40000000 in
theorem comes_1 {Post : Tables → Env → Array Value → State → Outcome → State → Prop} (hpost : ∀ tb e args s v u, (limb_1_1.after args s (.returned v) u = true ∧ limb_1_2.after args s (.returned v) u = true ∧ True) → ReturnedEndW s (.returned v) u (Jvm.fieldLocs frame_1_writes args s ++ Jvm.arrayLocs frame_1_arrays args s ++ Jvm.staticLocs frame_1_statics s) 24 2176 → Post tb e args s (.returned v) u) :
    ArmFor flags0 classFile x code maxLocals ret World_1 tables_1 room_1 Calls_1 rest_1 Pre_1 Post := by
  intro l hfl _ _ p e ha hc hk s m args below hf hA hF happ hP
  obtain ⟨hcalls, hrest, hpre⟩ := hP
  obtain ⟨-, -, -, hnamed, -, -, -, hat⟩ := (Spec.applies_iff hf).mp happ
  obtain ⟨hg, hn⟩ := and_e (Cond.before_iff.mp (show (Jvm.Cond.and given_1 narrow_1).before args s = true from hpre))
  obtain ⟨h0, g0⟩ := and_e hg
  obtain ⟨p0, g1⟩ := and_e g0
  obtain ⟨p1, g2⟩ := and_e g1
  obtain ⟨p2, g3⟩ := and_e g2
  obtain ⟨w0, w1, w2, w3, rfl⟩ : ∃ w0 w1 w2 w3 : Value, args = #[w0, w1, w2, w3] := by
    have hs : args.size = 4 := by simpa [Cond.value, given_1] using h0
    obtain ⟨L⟩ := args
    match L, hs with
    | [w0, w1, w2, w3], _ => exact ⟨w0, w1, w2, w3, rfl⟩
  have hw0 := fun d (hd : d ∈ tables_1) => atoms_spec (ws := Jvm.Cond.code x code maxLocals ret :: tables_1) hat d (List.mem_cons_of_mem _ hd)
  have hw : hwT #[w0, w1, w2, w3] s := fun i d q => hw0 d (List.mem_of_getElem? q)
  obtain ⟨i0, e0⟩ := is_v p0
  obtain rfl : w0 = (.int i0) := Option.some.inj e0
  obtain ⟨i1, e1⟩ := is_v p1
  obtain rfl : w1 = (.int i1) := Option.some.inj e1
  obtain ⟨i2, e2⟩ := is_v p2
  obtain rfl : w2 = (.int i2) := Option.some.inj e2
  obtain ⟨i3, e3⟩ := is_v g3
  obtain rfl : w3 = (.int i3) := Option.some.inj e3
  obtain ⟨hsets, hown0⟩ := atoms_of _ (rest_1_c_eq ▸ (show rest_1_c.before _ s = true from hrest))
  have hcw := hsets _ (List.mem_of_getElem? (i := 2) rfl)
  have nz := not_v (Cond.before_iff.mp hcw)
  obtain ⟨ic, ec⟩ := is_v (Cond.before_iff.mp (hsets _ (List.mem_of_getElem? (i := 1) rfl)))
  have hC : CS s := ⟨ic, Sta.start ec (Or.inl (hsets _ (List.mem_of_getElem? (i := 0) rfl))), gotF (Cond.eq_ints ec (Term.int_eval (0))) nz⟩
  have hU : US s := ⟨Sta.start (Cond.eq_int (hsets _ (List.mem_of_getElem? (i := 12) rfl)) rfl) (Or.inl (hsets _ (List.mem_of_getElem? (i := 11) rfl))), Sta.start (Cond.eq_int (hsets _ (List.mem_of_getElem? (i := 15) rfl)) rfl) (Or.inl (hsets _ (List.mem_of_getElem? (i := 14) rfl))), Sta.start (Cond.eq_int (hsets _ (List.mem_of_getElem? (i := 18) rfl)) rfl) (Or.inl (hsets _ (List.mem_of_getElem? (i := 17) rfl)))⟩
  obtain ⟨n, o, h1, h2, h3, v, L, S', rfl, rfl, N, -, -, hq, hnw, -⟩ := law1 l s _ hw s.heap hC hU i0 i1 i2 i3 p e ha hc hk s m _ below hf ((Spec.applies_iff_loose hf).mp happ).1 ⟨rfl, State.Warmed39.refl s, rfl, CHv.start (hEL1 hw) (fun p hp => hcalls.1 p hp) hcw (hw 20 rfl) (hw 2 rfl), (fun _ q => nomatch q), ⟨Nat.le_refl _, fun _ _ q => q⟩⟩ trivial
  refine ⟨n, _, h1, h2, h3, hpost _ _ _ _ _ _ ⟨Cond.after_iff.mpr rfl, Cond.after_iff.mpr (eq_i res_at (Term.int_eval (1)) rfl), trivial⟩ ⟨⟨_, rfl⟩, hq.2.1, hq.2.2.1, (hq.2.2.2.sift fun y hy => Or.inr (N y hy)).mono (by decide) (by decide)⟩⟩
theorem main_1_1 : Claimed_1_1 := comes_1 fun _ _ _ _ _ _ h hF => ⟨h.1, hF⟩
theorem main_1_2 : Claimed_1_2 := comes_1 fun _ _ _ _ _ _ h hF => ⟨h.2.1, hF⟩
end Jvm.Pilot.@@N@@
namespace Jvm.Pilot.@@N@@
open Jvm Jvm.ClassFile Sem Op Lib Jvm.Free Jvm.Stand Jvm.Pilot.@@N@@.Jvm.D
/-! MADE BY PROGRAM (witnessworld.py) out of the Statement's table words and the real class files: 20 classes; the members and pool entries that the words name. The judged class is class 1, her method 1. -/
namespace start1
open Jvm.ClassFile
def u (s : String) : CpInfo := .utf8 (stringToUtf16 s)
/-- a pool by its gaps: so many unusable entries, then the entry; so many at the end -/
def gap : Nat → List CpInfo → List CpInfo
  | 0, r => r
  | n + 1, r => .unusable :: gap n r
def poolList (es : List (Nat × CpInfo)) (last : Nat) : List CpInfo := es.foldr (fun e r => gap e.1 (e.2 :: r)) (gap last [])
def pool (es : List (Nat × CpInfo)) (last : Nat) : Array CpInfo := ⟨poolList es last⟩
def fileOf (pool : Array CpInfo) (this : Nat) (attrs : Array Attribute := #[]) (ms : Array MethodInfo := #[]) (fl : Nat := 33) (sup : Nat := 0) (ifs : Array Nat := #[]) (fds : Array FieldInfo := #[]) : ClassFile where
  minorVersion := 0
  majorVersion := 65
  constantPool := pool
  accessFlags := fl
  thisClass := this
  superClass := sup
  interfaces := ifs
  fields := fds
  methods := ms
  attributes := attrs
def plain (name : String) (sup : Option ClassId) : Class where
  name := name
  kind := .ordinary
  loader := none
  accessFlags := 33
  super := sup
  interfaces := #[]
  cf := none
  fields := #[]
  methods := #[]
  instanceTypes := #[]
  staticTypes := #[]
  resolved := #[]
  callSites := []
  init := .initialized
  statics := none
  mirror := none

def pool0 : Array CpInfo := pool [(5, u "<init>"), (0, u "()V"), (1, .class_ 10), (1, u "java/lang/Object")] 113

def k0c0 : Code := { maxStack := 0, maxLocals := 1, code := object_method_1_code, exceptionTable := #[], attributes := #[] }
def k0m0 : Method := { name := "<init>", desc := "()V", sig := { parameters := [], returnType := none }, accessFlags := 1, code := some k0c0 }
/-- java/lang/Object -/
def k0 : Class := { plain "java/lang/Object" none with
  accessFlags := 33
  interfaces := #[]
  cf := some (fileOf pool0 8 #[] #[{ accessFlags := 1, nameIndex := 5, descriptorIndex := 6, attributes := #[] }] 33 0 #[] #[])
  fields := #[]
  methods := #[k0m0]
  instanceTypes := #[]
  staticTypes := #[]
  resolved := Array.replicate 124 none
  statics := none }

def pool1 : Array CpInfo := pool [(2, .class_ 4), (1, u "java/lang/Object"), (0, u "<init>"), (0, u "()V"), (0, .integer 65535), (0, .class_ 9), (0, u "java/lang/String"), (0, .methodref 8 11), (0, .nameAndType 5 12), (0, u "([C)V"), (0, .methodref 8 14), (0, .nameAndType 15 16), (0, u "valueOf"), (0, u "(C)Ljava/lang/String;"), (0, .string 18), (0, u "A lease's key"), (0, .methodref 20 21), (0, .class_ 22), (0, .nameAndType 23 24), (0, u "com/example/claim/claim/service/LeaseTerms"), (0, u "requireName"), (0, u "(Ljava/lang/String;Ljava/lang/String;)Ljava/lang/String;"), (0, .class_ 26), (0, u "com/example/claim/claim/service/LeaseTermsRequireNamePinLaw"), (2, u "law"), (0, u "(IIII)Z")] 3

def k1m0 : Method := { name := "<init>", desc := "()V", sig := { parameters := [], returnType := none }, accessFlags := 2, code := none }
def k1c1 : Code := { maxStack := 6, maxLocals := 13, code := code, exceptionTable := #[], attributes := #[] }
def k1m1 : Method := { name := "law", desc := "(IIII)Z", sig := { parameters := [.int, .int, .int, .int], returnType := some .boolean }, accessFlags := 9, code := some k1c1 }
/-- com/example/claim/claim/service/LeaseTermsRequireNamePinLaw -/
def k1 : Class := { plain "com/example/claim/claim/service/LeaseTermsRequireNamePinLaw" (some 0) with
  accessFlags := 49
  interfaces := #[]
  cf := some (fileOf pool1 25 #[] #[{ accessFlags := 2, nameIndex := 5, descriptorIndex := 6, attributes := #[] }, { accessFlags := 9, nameIndex := 29, descriptorIndex := 30, attributes := #[] }] 49 2 #[] #[])
  fields := #[]
  methods := #[k1m0, k1m1]
  instanceTypes := #[]
  staticTypes := #[]
  resolved := Array.replicate 34 none
  statics := none }

def pool2 : Array CpInfo := pool [(1, .class_ 2), (0, u "java/io/Serializable"), (0, .class_ 4), (0, u "java/lang/Object")] 2

/-- java/io/Serializable -/
def k2 : Class := { plain "java/io/Serializable" (some 0) with
  accessFlags := 1537
  interfaces := #[]
  cf := some (fileOf pool2 1 #[] #[] 1537 3 #[] #[])
  fields := #[]
  methods := #[]
  instanceTypes := #[]
  staticTypes := #[]
  resolved := Array.replicate 7 none
  statics := none }

def pool3 : Array CpInfo := pool [(1, .class_ 2), (0, u "java/lang/Comparable"), (0, .class_ 4), (0, u "java/lang/Object")] 7

/-- java/lang/Comparable -/
def k3 : Class := { plain "java/lang/Comparable" (some 0) with
  accessFlags := 1537
  interfaces := #[]
  cf := some (fileOf pool3 1 #[] #[] 1537 3 #[] #[])
  fields := #[]
  methods := #[]
  instanceTypes := #[]
  staticTypes := #[]
  resolved := Array.replicate 12 none
  statics := none }

def pool4 : Array CpInfo := pool [(2, .class_ 4), (1, u "java/lang/CharSequence"), (42, .class_ 48), (0, u "java/lang/CharSequence$1CodePointIterator"), (10, .class_ 60), (0, u "java/lang/CharSequence$1CharIterator"), (5, .class_ 67), (0, u "java/lang/Object")] 63

/-- java/lang/CharSequence -/
def k4 : Class := { plain "java/lang/CharSequence" (some 0) with
  accessFlags := 1537
  interfaces := #[]
  cf := some (fileOf pool4 2 #[.nestMembers #[47, 59]] #[] 1537 66 #[] #[])
  fields := #[]
  methods := #[]
  instanceTypes := #[]
  staticTypes := #[]
  resolved := Array.replicate 131 none
  statics := none }

def pool5 : Array CpInfo := pool [(1, .class_ 2), (0, u "java/lang/constant/Constable"), (0, .class_ 4), (0, u "java/lang/Object")] 6

/-- java/lang/constant/Constable -/
def k5 : Class := { plain "java/lang/constant/Constable" (some 0) with
  accessFlags := 1537
  interfaces := #[]
  cf := some (fileOf pool5 1 #[] #[] 1537 3 #[] #[])
  fields := #[]
  methods := #[]
  instanceTypes := #[]
  staticTypes := #[]
  resolved := Array.replicate 11 none
  statics := none }

def pool6 : Array CpInfo := pool [(1, .class_ 2), (0, u "java/lang/constant/ConstantDesc"), (0, .class_ 4), (0, u "java/lang/Object")] 32

/-- java/lang/constant/ConstantDesc -/
def k6 : Class := { plain "java/lang/constant/ConstantDesc" (some 0) with
  accessFlags := 1537
  interfaces := #[]
  cf := some (fileOf pool6 1 #[] #[] 1537 3 #[] #[])
  fields := #[]
  methods := #[]
  instanceTypes := #[]
  staticTypes := #[]
  resolved := Array.replicate 37 none
  statics := none }

def pool7 : Array CpInfo := pool [(1, .methodref 2 3), (0, .class_ 4), (0, .nameAndType 5 6), (0, u "java/lang/Object"), (0, u "<init>"), (0, u "()V"), (0, .string 8), (0, u ""), (0, .fieldref 10 11), (0, .class_ 12), (0, .nameAndType 13 14), (0, u "java/lang/String"), (0, u "value"), (0, u "[B"), (0, .fieldref 10 16), (0, .nameAndType 17 18), (0, u "coder"), (0, u "B"), (2, u "hash"), (0, u "I"), (2, u "hashIsZero"), (0, u "Z"), (0, .methodref 10 28), (0, .nameAndType 5 29), (0, u "([CIILjava/lang/Void;)V"), (8, .fieldref 10 39), (0, .nameAndType 40 26), (0, u "COMPACT_STRINGS"), (1, .class_ 44), (1, u "java/lang/StringUTF16"), (0, u "compress"), (1, .methodref 42 48), (0, .nameAndType 49 50), (0, u "coderFromArrayLen"), (0, u "([BI)B"), (2, u "toBytes"), (53, .class_ 109), (1, u "java/lang/StringLatin1"), (32, u "()Z"), (34, .methodref 42 178), (0, .nameAndType 45 179), (0, u "([CII)[B"), (29, .methodref 10 210), (0, .nameAndType 5 211), (0, u "([BB)V"), (157, u "(C)Z"), (205, .class_ 576), (0, u "java/lang/CharSequence"), (22, u "CASE_INSENSITIVE_ORDER"), (0, u "Ljava/util/Comparator;"), (91, u "isEmpty"), (89, u "valueOf"), (0, u "(C)Ljava/lang/String;"), (226, u "([C)V"), (4, .methodref 107 1016), (0, .nameAndType 1017 369), (0, u "canEncode"), (0, .methodref 107 1019), (0, .nameAndType 53 1020), (0, u "(C)[B"), (0, .methodref 42 1019), (79, u "serialPersistentFields"), (0, u "[Ljava/io/ObjectStreamField;"), (0, .class_ 1104), (0, u "java/lang/String$CaseInsensitiveComparator"), (1, .class_ 1107), (0, u "java/io/Serializable"), (0, .class_ 1109), (0, u "java/lang/Comparable"), (0, .class_ 1111), (0, u "java/lang/constant/Constable"), (0, .class_ 1113), (0, u "java/lang/constant/ConstantDesc"), (2, u "serialVersionUID"), (0, u "J"), (3, u "REPL"), (0, u "C"), (2, u "LATIN1"), (1, u "UTF16")] 323

def k7m0 : Method := { name := "<init>", desc := "()V", sig := { parameters := [], returnType := none }, accessFlags := 1, code := none }
def k7c1 : Code := { maxStack := 5, maxLocals := 2, code := jdk_42_method_3_code, exceptionTable := #[], attributes := #[] }
def k7m1 : Method := { name := "<init>", desc := "([C)V", sig := { parameters := [(.array .char)], returnType := none }, accessFlags := 1, code := some k7c1 }
def k7c2 : Code := { maxStack := 1, maxLocals := 1, code := jdk_42_method_55_code, exceptionTable := #[], attributes := #[] }
def k7m2 : Method := { name := "isEmpty", desc := "()Z", sig := { parameters := [], returnType := some .boolean }, accessFlags := 1, code := some k7c2 }
def k7c3 : Code := { maxStack := 4, maxLocals := 1, code := jdk_42_method_139_code, exceptionTable := #[], attributes := #[] }
def k7m3 : Method := { name := "valueOf", desc := "(C)Ljava/lang/String;", sig := { parameters := [.char], returnType := some (.object "java/lang/String") }, accessFlags := 9, code := some k7c3 }
def k7c4 : Code := { maxStack := 4, maxLocals := 6, code := jdk_42_method_149_code, exceptionTable := #[], attributes := #[] }
def k7m4 : Method := { name := "<init>", desc := "([CIILjava/lang/Void;)V", sig := { parameters := [(.array .char), .int, .int, (.object "java/lang/Void")], returnType := none }, accessFlags := 2, code := some k7c4 }
def k7c5 : Code := { maxStack := 2, maxLocals := 3, code := jdk_42_method_151_code, exceptionTable := #[], attributes := #[] }
def k7m5 : Method := { name := "<init>", desc := "([BB)V", sig := { parameters := [(.array .byte), .byte], returnType := none }, accessFlags := 0, code := some k7c5 }
/-- java/lang/String -/
def k7 : Class := { plain "java/lang/String" (some 0) with
  accessFlags := 49
  interfaces := #[2, 3, 4, 5, 6]
  cf := some (fileOf pool7 10 #[.nestMembers #[1103]] #[{ accessFlags := 1, nameIndex := 5, descriptorIndex := 6, attributes := #[] }, { accessFlags := 1, nameIndex := 5, descriptorIndex := 1010, attributes := #[] }, { accessFlags := 1, nameIndex := 692, descriptorIndex := 142, attributes := #[] }, { accessFlags := 9, nameIndex := 782, descriptorIndex := 783, attributes := #[] }, { accessFlags := 2, nameIndex := 5, descriptorIndex := 29, attributes := #[] }, { accessFlags := 0, nameIndex := 5, descriptorIndex := 211, attributes := #[] }] 49 2 #[1106, 1108, 575, 1110, 1112] #[{ accessFlags := 18, nameIndex := 13, descriptorIndex := 14, attributes := #[] }, { accessFlags := 18, nameIndex := 17, descriptorIndex := 18, attributes := #[] }, { accessFlags := 2, nameIndex := 21, descriptorIndex := 22, attributes := #[] }, { accessFlags := 2, nameIndex := 25, descriptorIndex := 26, attributes := #[] }, { accessFlags := 26, nameIndex := 1116, descriptorIndex := 1117, attributes := #[] }, { accessFlags := 24, nameIndex := 40, descriptorIndex := 26, attributes := #[] }, { accessFlags := 26, nameIndex := 1101, descriptorIndex := 1102, attributes := #[] }, { accessFlags := 26, nameIndex := 1121, descriptorIndex := 1122, attributes := #[] }, { accessFlags := 25, nameIndex := 599, descriptorIndex := 600, attributes := #[] }, { accessFlags := 24, nameIndex := 1125, descriptorIndex := 18, attributes := #[] }, { accessFlags := 24, nameIndex := 1127, descriptorIndex := 18, attributes := #[] }])
  fields := #[{ name := "value", type := (.array .byte), accessFlags := 18, slot := 0, constantValue := 0 }, { name := "coder", type := .byte, accessFlags := 18, slot := 1, constantValue := 0 }, { name := "hash", type := .int, accessFlags := 2, slot := 2, constantValue := 0 }, { name := "hashIsZero", type := .boolean, accessFlags := 2, slot := 3, constantValue := 0 }, { name := "serialVersionUID", type := .long, accessFlags := 26, slot := 0, constantValue := 0 }, { name := "COMPACT_STRINGS", type := .boolean, accessFlags := 24, slot := 1, constantValue := 0 }, { name := "serialPersistentFields", type := (.array (.object "java/io/ObjectStreamField")), accessFlags := 26, slot := 2, constantValue := 0 }, { name := "REPL", type := .char, accessFlags := 26, slot := 3, constantValue := 0 }, { name := "CASE_INSENSITIVE_ORDER", type := (.object "java/util/Comparator"), accessFlags := 25, slot := 4, constantValue := 0 }, { name := "LATIN1", type := .byte, accessFlags := 24, slot := 5, constantValue := 0 }, { name := "UTF16", type := .byte, accessFlags := 24, slot := 6, constantValue := 0 }]
  methods := #[k7m0, k7m1, k7m2, k7m3, k7m4, k7m5]
  instanceTypes := #[(.array .byte), .byte, .int, .boolean]
  staticTypes := #[.long, .boolean, (.array (.object "java/io/ObjectStreamField")), .char, (.object "java/util/Comparator"), .byte, .byte]
  resolved := Array.replicate 1451 none
  statics := some 0 }

def pool8 : Array CpInfo := pool [(6, .class_ 8), (1, u "java/lang/Object"), (0, u "<init>"), (0, u "()V"), (0, .methodref 12 13), (0, .class_ 14), (0, .nameAndType 15 16), (0, u "java/lang/StringUTF16"), (0, u "newBytesLength"), (0, u "(I)I"), (3, .integer 1073741823), (23, .fieldref 12 45), (0, .nameAndType 46 47), (0, u "$assertionsDisabled"), (0, u "Z"), (11, .fieldref 12 60), (0, .nameAndType 61 62), (0, u "HI_BYTE_SHIFT"), (0, u "I"), (0, .fieldref 12 64), (0, .nameAndType 65 62), (0, u "LO_BYTE_SHIFT"), (5, .methodref 12 72), (0, .nameAndType 73 74), (0, u "getChar"), (0, u "([BI)C"), (32, .methodref 12 108), (0, .nameAndType 109 110), (0, u "newBytesFor"), (0, u "(I)[B"), (0, .methodref 12 112), (0, .nameAndType 113 114), (0, u "putChar"), (0, u "([BII)V"), (0, .methodref 12 116), (0, .nameAndType 117 118), (0, u "compress"), (0, u "([CI[BII)I"), (0, .methodref 12 120), (0, .nameAndType 121 122), (0, u "toBytes"), (0, u "([CII)[B"), (138, u "coderFromArrayLen"), (0, u "([BI)B"), (106, .class_ 371), (1, u "java/lang/StringUTF16$LinesSpliterator"), (58, u "MAX_LENGTH"), (44, u "(C)[B"), (151, .class_ 628), (0, u "java/lang/StringUTF16$CodePointsSpliterator"), (0, .class_ 630), (0, u "java/lang/StringUTF16$CharsSpliterator")] 4

def k8m0 : Method := { name := "<init>", desc := "()V", sig := { parameters := [], returnType := none }, accessFlags := 0, code := none }
def k8c1 : Code := { maxStack := 1, maxLocals := 1, code := jdk_52_method_2_code, exceptionTable := #[], attributes := #[] }
def k8m1 : Method := { name := "newBytesFor", desc := "(I)[B", sig := { parameters := [.int], returnType := some (.array .byte) }, accessFlags := 9, code := some k8c1 }
def k8c2 : Code := { maxStack := 4, maxLocals := 1, code := jdk_52_method_3_code, exceptionTable := #[], attributes := #[] }
def k8m2 : Method := { name := "newBytesLength", desc := "(I)I", sig := { parameters := [.int], returnType := some .int }, accessFlags := 9, code := some k8c2 }
def k8c3 : Code := { maxStack := 4, maxLocals := 3, code := jdk_52_method_4_code, exceptionTable := #[], attributes := #[] }
def k8m3 : Method := { name := "putChar", desc := "([BII)V", sig := { parameters := [(.array .byte), .int, .int], returnType := none }, accessFlags := 8, code := some k8c3 }
def k8c4 : Code := { maxStack := 3, maxLocals := 2, code := jdk_52_method_5_code, exceptionTable := #[], attributes := #[] }
def k8m4 : Method := { name := "getChar", desc := "([BI)C", sig := { parameters := [(.array .byte), .int], returnType := some .char }, accessFlags := 8, code := some k8c4 }
def k8c5 : Code := { maxStack := 4, maxLocals := 5, code := jdk_52_method_14_code, exceptionTable := #[], attributes := #[] }
def k8m5 : Method := { name := "toBytes", desc := "([CII)[B", sig := { parameters := [(.array .char), .int, .int], returnType := some (.array .byte) }, accessFlags := 9, code := some k8c5 }
def k8c6 : Code := { maxStack := 2, maxLocals := 2, code := jdk_52_method_15_code, exceptionTable := #[], attributes := #[] }
def k8m6 : Method := { name := "coderFromArrayLen", desc := "([BI)B", sig := { parameters := [(.array .byte), .int], returnType := some .byte }, accessFlags := 8, code := some k8c6 }
def k8c7 : Code := { maxStack := 5, maxLocals := 6, code := jdk_52_method_16_code, exceptionTable := #[], attributes := #[] }
def k8m7 : Method := { name := "compress", desc := "([CII)[B", sig := { parameters := [(.array .char), .int, .int], returnType := some (.array .byte) }, accessFlags := 9, code := some k8c7 }
def k8c8 : Code := { maxStack := 3, maxLocals := 7, code := jdk_52_method_21_code, exceptionTable := #[], attributes := #[] }
def k8m8 : Method := { name := "compress", desc := "([CI[BII)I", sig := { parameters := [(.array .char), .int, (.array .byte), .int, .int], returnType := some .int }, accessFlags := 9, code := some k8c8 }
def k8c9 : Code := { maxStack := 3, maxLocals := 2, code := jdk_52_method_24_code, exceptionTable := #[], attributes := #[] }
def k8m9 : Method := { name := "toBytes", desc := "(C)[B", sig := { parameters := [.char], returnType := some (.array .byte) }, accessFlags := 9, code := some k8c9 }
/-- java/lang/StringUTF16 -/
def k8 : Class := { plain "java/lang/StringUTF16" (some 0) with
  accessFlags := 48
  interfaces := #[]
  cf := some (fileOf pool8 12 #[.nestMembers #[627, 629, 369]] #[{ accessFlags := 0, nameIndex := 9, descriptorIndex := 10, attributes := #[] }, { accessFlags := 9, nameIndex := 109, descriptorIndex := 110, attributes := #[] }, { accessFlags := 9, nameIndex := 15, descriptorIndex := 16, attributes := #[] }, { accessFlags := 8, nameIndex := 113, descriptorIndex := 114, attributes := #[] }, { accessFlags := 8, nameIndex := 73, descriptorIndex := 74, attributes := #[] }, { accessFlags := 9, nameIndex := 121, descriptorIndex := 122, attributes := #[] }, { accessFlags := 8, nameIndex := 261, descriptorIndex := 262, attributes := #[] }, { accessFlags := 9, nameIndex := 117, descriptorIndex := 122, attributes := #[] }, { accessFlags := 9, nameIndex := 117, descriptorIndex := 118, attributes := #[] }, { accessFlags := 9, nameIndex := 121, descriptorIndex := 475, attributes := #[] }] 48 6 #[] #[{ accessFlags := 26, nameIndex := 61, descriptorIndex := 62, attributes := #[] }, { accessFlags := 26, nameIndex := 65, descriptorIndex := 62, attributes := #[] }, { accessFlags := 24, nameIndex := 430, descriptorIndex := 62, attributes := #[] }, { accessFlags := 4120, nameIndex := 46, descriptorIndex := 47, attributes := #[] }])
  fields := #[{ name := "HI_BYTE_SHIFT", type := .int, accessFlags := 26, slot := 0, constantValue := 0 }, { name := "LO_BYTE_SHIFT", type := .int, accessFlags := 26, slot := 1, constantValue := 0 }, { name := "MAX_LENGTH", type := .int, accessFlags := 24, slot := 2, constantValue := 0 }, { name := "$assertionsDisabled", type := .boolean, accessFlags := 4120, slot := 3, constantValue := 0 }]
  methods := #[k8m0, k8m1, k8m2, k8m3, k8m4, k8m5, k8m6, k8m7, k8m8, k8m9]
  instanceTypes := #[]
  staticTypes := #[.int, .int, .int, .boolean]
  resolved := Array.replicate 635 none
  statics := some 1 }

def pool9 : Array CpInfo := pool [(2, .class_ 4), (1, u "java/lang/Object"), (0, u "<init>"), (0, u "()V"), (3, .class_ 12), (1, u "com/example/claim/claim/service/LeaseTerms"), (0, u "requireName"), (0, u "(Ljava/lang/String;Ljava/lang/String;)Ljava/lang/String;"), (1, .class_ 18), (1, u "java/lang/String"), (11, .methodref 16 31), (0, .nameAndType 32 33), (0, u "isEmpty"), (0, u "()Z"), (5, u "SHORTEST_DURATION"), (0, u "Ljava/time/Duration;")] 68

def k9m0 : Method := { name := "<init>", desc := "()V", sig := { parameters := [], returnType := none }, accessFlags := 2, code := none }
def k9c1 : Code := { maxStack := 3, maxLocals := 2, code := prog_7_method_3_code, exceptionTable := #[], attributes := #[] }
def k9m1 : Method := { name := "requireName", desc := "(Ljava/lang/String;Ljava/lang/String;)Ljava/lang/String;", sig := { parameters := [(.object "java/lang/String"), (.object "java/lang/String")], returnType := some (.object "java/lang/String") }, accessFlags := 9, code := some k9c1 }
/-- com/example/claim/claim/service/LeaseTerms -/
def k9 : Class := { plain "com/example/claim/claim/service/LeaseTerms" (some 0) with
  accessFlags := 49
  interfaces := #[]
  cf := some (fileOf pool9 10 #[] #[{ accessFlags := 2, nameIndex := 5, descriptorIndex := 6, attributes := #[] }, { accessFlags := 9, nameIndex := 13, descriptorIndex := 14, attributes := #[] }] 49 2 #[] #[{ accessFlags := 25, nameIndex := 39, descriptorIndex := 40, attributes := #[] }])
  fields := #[{ name := "SHORTEST_DURATION", type := (.object "java/time/Duration"), accessFlags := 25, slot := 0, constantValue := 0 }]
  methods := #[k9m0, k9m1]
  instanceTypes := #[]
  staticTypes := #[(.object "java/time/Duration")]
  resolved := Array.replicate 109 none
  statics := none }

def pool10 : Array CpInfo := pool [(4, .class_ 6), (1, u "java/lang/Object"), (0, u "<init>"), (0, u "()V"), (5, .class_ 16), (1, u "java/lang/StringLatin1"), (73, u "canEncode"), (14, u "(C)Z"), (15, u "$assertionsDisabled"), (0, u "Z"), (98, .class_ 223), (1, u "java/lang/StringLatin1$LinesSpliterator"), (156, u "toBytes"), (1, u "(C)[B"), (7, .class_ 391), (0, u "java/lang/StringLatin1$CharsSpliterator")] 3

def k10m0 : Method := { name := "<init>", desc := "()V", sig := { parameters := [], returnType := none }, accessFlags := 0, code := none }
def k10c1 : Code := { maxStack := 2, maxLocals := 1, code := jdk_43_method_3_code, exceptionTable := #[], attributes := #[] }
def k10m1 : Method := { name := "canEncode", desc := "(C)Z", sig := { parameters := [.char], returnType := some .boolean }, accessFlags := 9, code := some k10c1 }
def k10c2 : Code := { maxStack := 4, maxLocals := 1, code := jdk_43_method_46_code, exceptionTable := #[], attributes := #[] }
def k10m2 : Method := { name := "toBytes", desc := "(C)[B", sig := { parameters := [.char], returnType := some (.array .byte) }, accessFlags := 9, code := some k10c2 }
/-- java/lang/StringLatin1 -/
def k10 : Class := { plain "java/lang/StringLatin1" (some 0) with
  accessFlags := 48
  interfaces := #[]
  cf := some (fileOf pool10 14 #[.nestMembers #[390, 221]] #[{ accessFlags := 0, nameIndex := 7, descriptorIndex := 8, attributes := #[] }, { accessFlags := 9, nameIndex := 90, descriptorIndex := 105, attributes := #[] }, { accessFlags := 9, nameIndex := 380, descriptorIndex := 382, attributes := #[] }] 48 4 #[] #[{ accessFlags := 4120, nameIndex := 121, descriptorIndex := 122, attributes := #[] }])
  fields := #[{ name := "$assertionsDisabled", type := .boolean, accessFlags := 4120, slot := 0, constantValue := 0 }]
  methods := #[k10m0, k10m1, k10m2]
  instanceTypes := #[]
  staticTypes := #[.boolean]
  resolved := Array.replicate 395 none
  statics := none }

def pool11 : Array CpInfo := pool [(2, .class_ 4), (1, u "java/lang/Object"), (0, u "<init>"), (0, u "()V"), (17, .class_ 26), (1, u "jdk/internal/util/Preconditions"), (28, .class_ 56), (0, u "jdk/internal/util/Preconditions$4"), (57, .class_ 115), (0, u "jdk/internal/util/Preconditions$1"), (7, u "SIOOBE_FORMATTER"), (0, u "Ljava/util/function/BiFunction;"), (0, .class_ 126), (0, u "jdk/internal/util/Preconditions$2"), (3, u "AIOOBE_FORMATTER"), (0, .class_ 132), (0, u "jdk/internal/util/Preconditions$3"), (3, u "IOOBE_FORMATTER")] 57

def k11m0 : Method := { name := "<init>", desc := "()V", sig := { parameters := [], returnType := none }, accessFlags := 1, code := none }
/-- jdk/internal/util/Preconditions -/
def k11 : Class := { plain "jdk/internal/util/Preconditions" (some 0) with
  accessFlags := 33
  interfaces := #[]
  cf := some (fileOf pool11 24 #[.nestMembers #[55, 131, 125, 114]] #[{ accessFlags := 1, nameIndex := 5, descriptorIndex := 6, attributes := #[] }] 33 2 #[] #[{ accessFlags := 25, nameIndex := 123, descriptorIndex := 124, attributes := #[] }, { accessFlags := 25, nameIndex := 130, descriptorIndex := 124, attributes := #[] }, { accessFlags := 25, nameIndex := 136, descriptorIndex := 124, attributes := #[] }])
  fields := #[{ name := "SIOOBE_FORMATTER", type := (.object "java/util/function/BiFunction"), accessFlags := 25, slot := 0, constantValue := 0 }, { name := "AIOOBE_FORMATTER", type := (.object "java/util/function/BiFunction"), accessFlags := 25, slot := 1, constantValue := 0 }, { name := "IOOBE_FORMATTER", type := (.object "java/util/function/BiFunction"), accessFlags := 25, slot := 2, constantValue := 0 }]
  methods := #[k11m0]
  instanceTypes := #[]
  staticTypes := #[(.object "java/util/function/BiFunction"), (.object "java/util/function/BiFunction"), (.object "java/util/function/BiFunction")]
  resolved := Array.replicate 194 none
  statics := some 2 }

def pool12 : Array CpInfo := pool [(9, u "<init>"), (6, .class_ 18), (1, u "java/lang/Object"), (0, u "()V"), (1, .class_ 23), (1, u "jdk/internal/util/ArraysSupport"), (0, u "LOG2_ARRAY_LONG_INDEX_SCALE"), (0, u "I"), (2, u "U"), (0, u "Ljdk/internal/misc/Unsafe;"), (8, u "BIG_ENDIAN"), (0, u "Z"), (8, u "LOG2_BYTE_BIT_SIZE"), (4, u "LOG2_ARRAY_INT_INDEX_SCALE"), (54, u "JLA"), (0, u "Ljdk/internal/access/JavaLangAccess;"), (11, u "LOG2_ARRAY_BOOLEAN_INDEX_SCALE"), (9, u "LOG2_ARRAY_BYTE_INDEX_SCALE"), (5, u "LOG2_ARRAY_CHAR_INDEX_SCALE"), (5, u "LOG2_ARRAY_SHORT_INDEX_SCALE"), (18, u "LOG2_ARRAY_FLOAT_INDEX_SCALE"), (24, u "LOG2_ARRAY_DOUBLE_INDEX_SCALE"), (89, u "T_BOOLEAN"), (2, u "T_CHAR"), (1, u "T_FLOAT"), (1, u "T_DOUBLE"), (1, u "T_BYTE"), (1, u "T_SHORT"), (1, u "T_INT"), (1, u "T_LONG"), (1, u "SOFT_MAX_ARRAY_LENGTH")] 83

def k12m0 : Method := { name := "<init>", desc := "()V", sig := { parameters := [], returnType := none }, accessFlags := 2, code := none }
/-- jdk/internal/util/ArraysSupport -/
def k12 : Class := { plain "jdk/internal/util/ArraysSupport" (some 0) with
  accessFlags := 33
  interfaces := #[]
  cf := some (fileOf pool12 21 #[] #[{ accessFlags := 2, nameIndex := 9, descriptorIndex := 19, attributes := #[] }] 33 16 #[] #[{ accessFlags := 24, nameIndex := 28, descriptorIndex := 29, attributes := #[] }, { accessFlags := 26, nameIndex := 38, descriptorIndex := 39, attributes := #[] }, { accessFlags := 25, nameIndex := 121, descriptorIndex := 25, attributes := #[] }, { accessFlags := 25, nameIndex := 131, descriptorIndex := 25, attributes := #[] }, { accessFlags := 25, nameIndex := 137, descriptorIndex := 25, attributes := #[] }, { accessFlags := 25, nameIndex := 143, descriptorIndex := 25, attributes := #[] }, { accessFlags := 25, nameIndex := 53, descriptorIndex := 25, attributes := #[] }, { accessFlags := 25, nameIndex := 24, descriptorIndex := 25, attributes := #[] }, { accessFlags := 25, nameIndex := 162, descriptorIndex := 25, attributes := #[] }, { accessFlags := 25, nameIndex := 187, descriptorIndex := 25, attributes := #[] }, { accessFlags := 26, nameIndex := 48, descriptorIndex := 25, attributes := #[] }, { accessFlags := 25, nameIndex := 277, descriptorIndex := 25, attributes := #[] }, { accessFlags := 25, nameIndex := 280, descriptorIndex := 25, attributes := #[] }, { accessFlags := 25, nameIndex := 282, descriptorIndex := 25, attributes := #[] }, { accessFlags := 25, nameIndex := 284, descriptorIndex := 25, attributes := #[] }, { accessFlags := 25, nameIndex := 286, descriptorIndex := 25, attributes := #[] }, { accessFlags := 25, nameIndex := 288, descriptorIndex := 25, attributes := #[] }, { accessFlags := 25, nameIndex := 290, descriptorIndex := 25, attributes := #[] }, { accessFlags := 25, nameIndex := 292, descriptorIndex := 25, attributes := #[] }, { accessFlags := 26, nameIndex := 108, descriptorIndex := 109, attributes := #[] }, { accessFlags := 25, nameIndex := 294, descriptorIndex := 25, attributes := #[] }])
  fields := #[{ name := "U", type := (.object "jdk/internal/misc/Unsafe"), accessFlags := 24, slot := 0, constantValue := 0 }, { name := "BIG_ENDIAN", type := .boolean, accessFlags := 26, slot := 1, constantValue := 0 }, { name := "LOG2_ARRAY_BOOLEAN_INDEX_SCALE", type := .int, accessFlags := 25, slot := 2, constantValue := 0 }, { name := "LOG2_ARRAY_BYTE_INDEX_SCALE", type := .int, accessFlags := 25, slot := 3, constantValue := 0 }, { name := "LOG2_ARRAY_CHAR_INDEX_SCALE", type := .int, accessFlags := 25, slot := 4, constantValue := 0 }, { name := "LOG2_ARRAY_SHORT_INDEX_SCALE", type := .int, accessFlags := 25, slot := 5, constantValue := 0 }, { name := "LOG2_ARRAY_INT_INDEX_SCALE", type := .int, accessFlags := 25, slot := 6, constantValue := 0 }, { name := "LOG2_ARRAY_LONG_INDEX_SCALE", type := .int, accessFlags := 25, slot := 7, constantValue := 0 }, { name := "LOG2_ARRAY_FLOAT_INDEX_SCALE", type := .int, accessFlags := 25, slot := 8, constantValue := 0 }, { name := "LOG2_ARRAY_DOUBLE_INDEX_SCALE", type := .int, accessFlags := 25, slot := 9, constantValue := 0 }, { name := "LOG2_BYTE_BIT_SIZE", type := .int, accessFlags := 26, slot := 10, constantValue := 0 }, { name := "T_BOOLEAN", type := .int, accessFlags := 25, slot := 11, constantValue := 0 }, { name := "T_CHAR", type := .int, accessFlags := 25, slot := 12, constantValue := 0 }, { name := "T_FLOAT", type := .int, accessFlags := 25, slot := 13, constantValue := 0 }, { name := "T_DOUBLE", type := .int, accessFlags := 25, slot := 14, constantValue := 0 }, { name := "T_BYTE", type := .int, accessFlags := 25, slot := 15, constantValue := 0 }, { name := "T_SHORT", type := .int, accessFlags := 25, slot := 16, constantValue := 0 }, { name := "T_INT", type := .int, accessFlags := 25, slot := 17, constantValue := 0 }, { name := "T_LONG", type := .int, accessFlags := 25, slot := 18, constantValue := 0 }, { name := "JLA", type := (.object "jdk/internal/access/JavaLangAccess"), accessFlags := 26, slot := 19, constantValue := 0 }, { name := "SOFT_MAX_ARRAY_LENGTH", type := .int, accessFlags := 25, slot := 20, constantValue := 0 }]
  methods := #[k12m0]
  instanceTypes := #[]
  staticTypes := #[(.object "jdk/internal/misc/Unsafe"), .boolean, .int, .int, .int, .int, .int, .int, .int, .int, .int, .int, .int, .int, .int, .int, .int, .int, .int, (.object "jdk/internal/access/JavaLangAccess"), .int]
  resolved := Array.replicate 378 none
  statics := none }

def pool13 : Array CpInfo := pool [(1, u "java/lang/Cloneable"), (0, .class_ 1), (0, u "java/lang/Object"), (0, .class_ 3)] 3

/-- java/lang/Cloneable -/
def k13 : Class := { plain "java/lang/Cloneable" (some 0) with
  accessFlags := 1537
  interfaces := #[]
  cf := some (fileOf pool13 2 #[] #[] 1537 4 #[] #[])
  fields := #[]
  methods := #[]
  instanceTypes := #[]
  staticTypes := #[]
  resolved := Array.replicate 8 none
  statics := none }

/-- the primitive byte -/
def k14 : Class := { plain "byte" none with kind := .primitive 'B', accessFlags := 0x411 }
/-- [B -/
def k15 : Class := { plain "[B" (some 0) with kind := .array 14 .byte, interfaces := #[13, 2], accessFlags := 1041 }

/-- the primitive char -/
def k16 : Class := { plain "char" none with kind := .primitive 'C', accessFlags := 0x411 }
/-- [C -/
def k17 : Class := { plain "[C" (some 0) with kind := .array 16 .char, interfaces := #[13, 2], accessFlags := 1041 }

/-- the primitive int -/
def k18 : Class := { plain "int" none with kind := .primitive 'I', accessFlags := 0x411 }
/-- [I -/
def k19 : Class := { plain "[I" (some 0) with kind := .array 18 .int, interfaces := #[13, 2], accessFlags := 1041 }

def heap : Heap := #[{ cls := 7, slots := #[.long 0, .int 1, .null, .int 0, .null, .int 0, .int 0], vm := .statics 7 },
  { cls := 8, slots := #[.int 0, .int 8, .int 0, .int 1], vm := .statics 8 },
  { cls := 11, slots := #[.null, .null, .null], vm := .statics 11 }]
def classes : Array Class := #[k0, k1, k2, k3, k4, k5, k6, k7, k8, k9, k10, k11, k12, k13, k14, k15, k16, k17, k18, k19]
def interned : List (Array UInt16 × Addr) := []
def slotsUsed : Nat := 14
def theMethod : MethodId := ⟨1, 1⟩
def args0 : Array Value := #[.int 5, .int 7, .int 3, .int 4]
def aboutOver (below : List Frame) : State where
  vm := { classes := classes, interned := interned.toArray }
  heap := heap
  slotsUsed := slotsUsed
  threads := #[{ frames := .invoking theMethod args0 :: below }]
def below0 : List Frame := [.native { method := ⟨0, 0⟩, args := #[] }]
def about1 : State := aboutOver below0
def p0 : Program := .bare "" "" ""
def e0 : Env := launch0.env 0 0 0
theorem w_frames : about1.frames = Frame.invoking theMethod args0 :: below0 := rfl
set_option maxRecDepth 65536 in
theorem w_args : argsFit about1.vm theMethod args0 = true := by decide +kernel
set_option maxRecDepth 65536 in
theorem w_heap : heapFits about1 = true := by decide +kernel
set_option maxRecDepth 65536 in
theorem w_runnable : about1.curStatus? = some .runnable := by decide +kernel
set_option maxRecDepth 65536 in
theorem w_alone : about1.alone = true := by decide +kernel
set_option maxRecDepth 65536 in
theorem w_named : about1.methodNamed? x = some theMethod := by decide +kernel
set_option maxRecDepth 65536 in
theorem w_hears : about1.hears theMethod below0 = true := by decide +kernel
set_option maxRecDepth 65536 in
theorem w_ripe : about1.ripe theMethod args0 below0 = true := by decide +kernel
theorem w_running : about1.status = .running := rfl
set_option maxRecDepth 65536 in
theorem w_room : about1.hasRoom e0.platform room_1 = true :=
  launch0.hasRoom_least _ room_1 (by decide +kernel) (by decide +kernel) (by decide +kernel) (by decide +kernel) (by decide +kernel) (by decide +kernel)
theorem allAtoms_all (ts : List Jvm.Cond) (a : Array Jvm.Value) (st : Jvm.State) : (allAtoms ts).before a st = ts.all (fun c => c.before a st) := by
  induction ts with
  | nil => rfl
  | cons c t ih =>
    show (Jvm.Cond.and c (allAtoms t)).before a st = _
    rw [Jvm.Cond.before_and, ih, List.all_cons]
def words1 : List Jvm.Cond := Jvm.Cond.code x code maxLocals ret :: tables_1
/-- a 'code' word, met by the world's own term for the bytes: nothing is compared byte by byte -/
theorem code_word {y : MethodName} {bytes : ByteArray} {mx : Nat} {rt : Option FieldType} {a : Array Value} {s : State} {m : MethodId} {meth : Method} {c : Code} (h1 : s.methodNamed? y = some m) (h2 : s.vm.method? m = some meth) (h3 : meth.code = some c) (h4 : c.code = bytes)
    (h5 : (c.maxLocals == mx && c.exceptionTable.isEmpty && decide (c.maxStack ≤ mostOperands) && decide (meth.sig.returnType = rt) && !meth.locks && decide (parseMethodDescriptor y.desc = some meth.sig)) = true) : (Jvm.Cond.code y bytes mx rt).before a s = true := by
  simp only [Bool.and_eq_true, beq_iff_eq, Bool.not_eq_true', decide_eq_true_eq] at h5
  obtain ⟨⟨⟨⟨⟨g1, g2⟩, g3⟩, g4⟩, g5⟩, g6⟩ := h5
  simp [Cond.before, Cond.holds, Cond.value, h1, h2, h3, h4, g1, g2, g3, g4, g5, g6]
def isCode : Jvm.Cond → Bool
  | .code _ _ _ _ => true
  | _ => false
theorem all_split {L : List Jvm.Cond} {P : Jvm.Cond → Bool} (h1 : L.all (fun c => isCode c || P c) = true) (h2 : ∀ c ∈ L.filter isCode, P c = true) : L.all P = true := by
  refine List.all_eq_true.mpr fun c hc => ?_
  have h := List.all_eq_true.mp h1 c hc
  rcases Bool.eq_false_or_eq_true (isCode c) with hi | hi
  · exact h2 c (List.mem_filter.mpr ⟨hc, hi⟩)
  · simpa [hi] using h
set_option maxRecDepth 65536 in
theorem w_c0 : (Jvm.Cond.code x code maxLocals ret).before args0 about1 = true := code_word (m := ⟨1, 1⟩) (meth := k1m1) (c := k1c1) (by decide +kernel) rfl rfl rfl (by decide +kernel)
set_option maxRecDepth 65536 in
theorem w_c1 : (Jvm.Cond.code ({ cls := "java/lang/String", name := "<init>", desc := "([C)V" } : Jvm.MethodName) jdk_42_method_3_code (2 : Nat) (Option.none : Option Jvm.ClassFile.FieldType)).before args0 about1 = true := code_word (m := ⟨7, 1⟩) (meth := k7m1) (c := k7c1) (by decide +kernel) rfl rfl rfl (by decide +kernel)
set_option maxRecDepth 65536 in
theorem w_c2 : (Jvm.Cond.code ({ cls := "java/lang/String", name := "<init>", desc := "([CIILjava/lang/Void;)V" } : Jvm.MethodName) jdk_42_method_149_code (6 : Nat) (Option.none : Option Jvm.ClassFile.FieldType)).before args0 about1 = true := code_word (m := ⟨7, 4⟩) (meth := k7m4) (c := k7c4) (by decide +kernel) rfl rfl rfl (by decide +kernel)
set_option maxRecDepth 65536 in
theorem w_c3 : (Jvm.Cond.code ({ cls := "java/lang/Object", name := "<init>", desc := "()V" } : Jvm.MethodName) object_method_1_code (1 : Nat) (Option.none : Option Jvm.ClassFile.FieldType)).before args0 about1 = true := code_word (m := ⟨0, 0⟩) (meth := k0m0) (c := k0c0) (by decide +kernel) rfl rfl rfl (by decide +kernel)
set_option maxRecDepth 65536 in
theorem w_c4 : (Jvm.Cond.code ({ cls := "java/lang/StringUTF16", name := "compress", desc := "([CII)[B" } : Jvm.MethodName) jdk_52_method_16_code (6 : Nat) (Option.some (Jvm.ClassFile.FieldType.array Jvm.ClassFile.FieldType.byte))).before args0 about1 = true := code_word (m := ⟨8, 7⟩) (meth := k8m7) (c := k8c7) (by decide +kernel) rfl rfl rfl (by decide +kernel)
set_option maxRecDepth 65536 in
theorem w_c5 : (Jvm.Cond.code ({ cls := "java/lang/StringUTF16", name := "compress", desc := "([CI[BII)I" } : Jvm.MethodName) jdk_52_method_21_code (7 : Nat) (Option.some Jvm.ClassFile.FieldType.int)).before args0 about1 = true := code_word (m := ⟨8, 8⟩) (meth := k8m8) (c := k8c8) (by decide +kernel) rfl rfl rfl (by decide +kernel)
set_option maxRecDepth 65536 in
theorem w_c6 : (Jvm.Cond.code ({ cls := "java/lang/StringUTF16", name := "coderFromArrayLen", desc := "([BI)B" } : Jvm.MethodName) jdk_52_method_15_code (2 : Nat) (Option.some Jvm.ClassFile.FieldType.byte)).before args0 about1 = true := code_word (m := ⟨8, 6⟩) (meth := k8m6) (c := k8c6) (by decide +kernel) rfl rfl rfl (by decide +kernel)
set_option maxRecDepth 65536 in
theorem w_c7 : (Jvm.Cond.code ({ cls := "com/example/claim/claim/service/LeaseTerms", name := "requireName", desc := "(Ljava/lang/String;Ljava/lang/String;)Ljava/lang/String;" } : Jvm.MethodName) prog_7_method_3_code (2 : Nat) (Option.some (Jvm.ClassFile.FieldType.object "java/lang/String"))).before args0 about1 = true := code_word (m := ⟨9, 1⟩) (meth := k9m1) (c := k9c1) (by decide +kernel) rfl rfl rfl (by decide +kernel)
set_option maxRecDepth 65536 in
theorem w_c8 : (Jvm.Cond.code ({ cls := "java/lang/String", name := "isEmpty", desc := "()Z" } : Jvm.MethodName) jdk_42_method_55_code (1 : Nat) (Option.some Jvm.ClassFile.FieldType.boolean)).before args0 about1 = true := code_word (m := ⟨7, 2⟩) (meth := k7m2) (c := k7c2) (by decide +kernel) rfl rfl rfl (by decide +kernel)
set_option maxRecDepth 65536 in
theorem w_c9 : (Jvm.Cond.code ({ cls := "java/lang/String", name := "valueOf", desc := "(C)Ljava/lang/String;" } : Jvm.MethodName) jdk_42_method_139_code (1 : Nat) (Option.some (Jvm.ClassFile.FieldType.object "java/lang/String"))).before args0 about1 = true := code_word (m := ⟨7, 3⟩) (meth := k7m3) (c := k7c3) (by decide +kernel) rfl rfl rfl (by decide +kernel)
set_option maxRecDepth 65536 in
theorem w_c10 : (Jvm.Cond.code ({ cls := "java/lang/StringLatin1", name := "canEncode", desc := "(C)Z" } : Jvm.MethodName) jdk_43_method_3_code (1 : Nat) (Option.some Jvm.ClassFile.FieldType.boolean)).before args0 about1 = true := code_word (m := ⟨10, 1⟩) (meth := k10m1) (c := k10c1) (by decide +kernel) rfl rfl rfl (by decide +kernel)
set_option maxRecDepth 65536 in
theorem w_c11 : (Jvm.Cond.code ({ cls := "java/lang/StringLatin1", name := "toBytes", desc := "(C)[B" } : Jvm.MethodName) jdk_43_method_46_code (1 : Nat) (Option.some (Jvm.ClassFile.FieldType.array Jvm.ClassFile.FieldType.byte))).before args0 about1 = true := code_word (m := ⟨10, 2⟩) (meth := k10m2) (c := k10c2) (by decide +kernel) rfl rfl rfl (by decide +kernel)
set_option maxRecDepth 65536 in
theorem w_c12 : (Jvm.Cond.code ({ cls := "java/lang/String", name := "<init>", desc := "([BB)V" } : Jvm.MethodName) jdk_42_method_151_code (3 : Nat) (Option.none : Option Jvm.ClassFile.FieldType)).before args0 about1 = true := code_word (m := ⟨7, 5⟩) (meth := k7m5) (c := k7c5) (by decide +kernel) rfl rfl rfl (by decide +kernel)
set_option maxRecDepth 65536 in
theorem w_c13 : (Jvm.Cond.code ({ cls := "java/lang/StringUTF16", name := "toBytes", desc := "([CII)[B" } : Jvm.MethodName) jdk_52_method_14_code (5 : Nat) (Option.some (Jvm.ClassFile.FieldType.array Jvm.ClassFile.FieldType.byte))).before args0 about1 = true := code_word (m := ⟨8, 5⟩) (meth := k8m5) (c := k8c5) (by decide +kernel) rfl rfl rfl (by decide +kernel)
set_option maxRecDepth 65536 in
theorem w_c14 : (Jvm.Cond.code ({ cls := "java/lang/StringUTF16", name := "newBytesFor", desc := "(I)[B" } : Jvm.MethodName) jdk_52_method_2_code (1 : Nat) (Option.some (Jvm.ClassFile.FieldType.array Jvm.ClassFile.FieldType.byte))).before args0 about1 = true := code_word (m := ⟨8, 1⟩) (meth := k8m1) (c := k8c1) (by decide +kernel) rfl rfl rfl (by decide +kernel)
set_option maxRecDepth 65536 in
theorem w_c15 : (Jvm.Cond.code ({ cls := "java/lang/StringUTF16", name := "newBytesLength", desc := "(I)I" } : Jvm.MethodName) jdk_52_method_3_code (1 : Nat) (Option.some Jvm.ClassFile.FieldType.int)).before args0 about1 = true := code_word (m := ⟨8, 2⟩) (meth := k8m2) (c := k8c2) (by decide +kernel) rfl rfl rfl (by decide +kernel)
set_option maxRecDepth 65536 in
theorem w_c16 : (Jvm.Cond.code ({ cls := "java/lang/StringUTF16", name := "putChar", desc := "([BII)V" } : Jvm.MethodName) jdk_52_method_4_code (3 : Nat) (Option.none : Option Jvm.ClassFile.FieldType)).before args0 about1 = true := code_word (m := ⟨8, 3⟩) (meth := k8m3) (c := k8c3) (by decide +kernel) rfl rfl rfl (by decide +kernel)
set_option maxRecDepth 65536 in
theorem w_c17 : (Jvm.Cond.code ({ cls := "java/lang/StringUTF16", name := "getChar", desc := "([BI)C" } : Jvm.MethodName) jdk_52_method_5_code (2 : Nat) (Option.some Jvm.ClassFile.FieldType.char)).before args0 about1 = true := code_word (m := ⟨8, 4⟩) (meth := k8m4) (c := k8c4) (by decide +kernel) rfl rfl rfl (by decide +kernel)
set_option maxRecDepth 65536 in
theorem w_c18 : (Jvm.Cond.code ({ cls := "java/lang/StringUTF16", name := "toBytes", desc := "(C)[B" } : Jvm.MethodName) jdk_52_method_24_code (2 : Nat) (Option.some (Jvm.ClassFile.FieldType.array Jvm.ClassFile.FieldType.byte))).before args0 about1 = true := code_word (m := ⟨8, 9⟩) (meth := k8m9) (c := k8c9) (by decide +kernel) rfl rfl rfl (by decide +kernel)
def codes1 : List Jvm.Cond := [Jvm.Cond.code x code maxLocals ret, Jvm.Cond.code ({ cls := "java/lang/String", name := "<init>", desc := "([C)V" } : Jvm.MethodName) jdk_42_method_3_code (2 : Nat) (Option.none : Option Jvm.ClassFile.FieldType), Jvm.Cond.code ({ cls := "java/lang/String", name := "<init>", desc := "([CIILjava/lang/Void;)V" } : Jvm.MethodName) jdk_42_method_149_code (6 : Nat) (Option.none : Option Jvm.ClassFile.FieldType), Jvm.Cond.code ({ cls := "java/lang/Object", name := "<init>", desc := "()V" } : Jvm.MethodName) object_method_1_code (1 : Nat) (Option.none : Option Jvm.ClassFile.FieldType), Jvm.Cond.code ({ cls := "java/lang/StringUTF16", name := "compress", desc := "([CII)[B" } : Jvm.MethodName) jdk_52_method_16_code (6 : Nat) (Option.some (Jvm.ClassFile.FieldType.array Jvm.ClassFile.FieldType.byte)), Jvm.Cond.code ({ cls := "java/lang/StringUTF16", name := "compress", desc := "([CI[BII)I" } : Jvm.MethodName) jdk_52_method_21_code (7 : Nat) (Option.some Jvm.ClassFile.FieldType.int), Jvm.Cond.code ({ cls := "java/lang/StringUTF16", name := "coderFromArrayLen", desc := "([BI)B" } : Jvm.MethodName) jdk_52_method_15_code (2 : Nat) (Option.some Jvm.ClassFile.FieldType.byte), Jvm.Cond.code ({ cls := "com/example/claim/claim/service/LeaseTerms", name := "requireName", desc := "(Ljava/lang/String;Ljava/lang/String;)Ljava/lang/String;" } : Jvm.MethodName) prog_7_method_3_code (2 : Nat) (Option.some (Jvm.ClassFile.FieldType.object "java/lang/String")), Jvm.Cond.code ({ cls := "java/lang/String", name := "isEmpty", desc := "()Z" } : Jvm.MethodName) jdk_42_method_55_code (1 : Nat) (Option.some Jvm.ClassFile.FieldType.boolean), Jvm.Cond.code ({ cls := "java/lang/String", name := "valueOf", desc := "(C)Ljava/lang/String;" } : Jvm.MethodName) jdk_42_method_139_code (1 : Nat) (Option.some (Jvm.ClassFile.FieldType.object "java/lang/String")), Jvm.Cond.code ({ cls := "java/lang/StringLatin1", name := "canEncode", desc := "(C)Z" } : Jvm.MethodName) jdk_43_method_3_code (1 : Nat) (Option.some Jvm.ClassFile.FieldType.boolean), Jvm.Cond.code ({ cls := "java/lang/StringLatin1", name := "toBytes", desc := "(C)[B" } : Jvm.MethodName) jdk_43_method_46_code (1 : Nat) (Option.some (Jvm.ClassFile.FieldType.array Jvm.ClassFile.FieldType.byte)), Jvm.Cond.code ({ cls := "java/lang/String", name := "<init>", desc := "([BB)V" } : Jvm.MethodName) jdk_42_method_151_code (3 : Nat) (Option.none : Option Jvm.ClassFile.FieldType), Jvm.Cond.code ({ cls := "java/lang/StringUTF16", name := "toBytes", desc := "([CII)[B" } : Jvm.MethodName) jdk_52_method_14_code (5 : Nat) (Option.some (Jvm.ClassFile.FieldType.array Jvm.ClassFile.FieldType.byte)), Jvm.Cond.code ({ cls := "java/lang/StringUTF16", name := "newBytesFor", desc := "(I)[B" } : Jvm.MethodName) jdk_52_method_2_code (1 : Nat) (Option.some (Jvm.ClassFile.FieldType.array Jvm.ClassFile.FieldType.byte)), Jvm.Cond.code ({ cls := "java/lang/StringUTF16", name := "newBytesLength", desc := "(I)I" } : Jvm.MethodName) jdk_52_method_3_code (1 : Nat) (Option.some Jvm.ClassFile.FieldType.int), Jvm.Cond.code ({ cls := "java/lang/StringUTF16", name := "putChar", desc := "([BII)V" } : Jvm.MethodName) jdk_52_method_4_code (3 : Nat) (Option.none : Option Jvm.ClassFile.FieldType), Jvm.Cond.code ({ cls := "java/lang/StringUTF16", name := "getChar", desc := "([BI)C" } : Jvm.MethodName) jdk_52_method_5_code (2 : Nat) (Option.some Jvm.ClassFile.FieldType.char), Jvm.Cond.code ({ cls := "java/lang/StringUTF16", name := "toBytes", desc := "(C)[B" } : Jvm.MethodName) jdk_52_method_24_code (2 : Nat) (Option.some (Jvm.ClassFile.FieldType.array Jvm.ClassFile.FieldType.byte))]
set_option maxRecDepth 65536 in
theorem codes_eq : words1.filter isCode = codes1 := rfl
theorem w_codes : ∀ c ∈ words1.filter isCode, c.before args0 about1 = true := by
  rw [codes_eq]
  intro c hc
  simp only [codes1, List.mem_cons, List.not_mem_nil, or_false] at hc
  rcases hc with rfl | rfl | rfl | rfl | rfl | rfl | rfl | rfl | rfl | rfl | rfl | rfl | rfl | rfl | rfl | rfl | rfl | rfl | rfl
  · exact w_c0
  · exact w_c1
  · exact w_c2
  · exact w_c3
  · exact w_c4
  · exact w_c5
  · exact w_c6
  · exact w_c7
  · exact w_c8
  · exact w_c9
  · exact w_c10
  · exact w_c11
  · exact w_c12
  · exact w_c13
  · exact w_c14
  · exact w_c15
  · exact w_c16
  · exact w_c17
  · exact w_c18
set_option maxRecDepth 65536 in
theorem w_t1 : (words1.take 24).all (fun c => isCode c || c.before args0 about1) = true := by decide +kernel
set_option maxRecDepth 65536 in
theorem w_t2 : ((words1.drop 24).take 24).all (fun c => isCode c || c.before args0 about1) = true := by decide +kernel
set_option maxRecDepth 65536 in
theorem w_t3 : (((words1.drop 24).drop 24).take 24).all (fun c => isCode c || c.before args0 about1) = true := by decide +kernel
set_option maxRecDepth 65536 in
theorem w_t4 : (((words1.drop 24).drop 24).drop 24).all (fun c => isCode c || c.before args0 about1) = true := by decide +kernel
theorem w_tables : (allAtoms (Jvm.Cond.code x code maxLocals ret :: tables_1)).before args0 about1 = true := by
  rw [allAtoms_all]
  show words1.all (fun c => c.before args0 about1) = true
  refine all_split ?_ w_codes
  rw [← List.take_append_drop 24 words1, List.all_append, w_t1, ← List.take_append_drop 24 (words1.drop 24), List.all_append, w_t2, ← List.take_append_drop 24 ((words1.drop 24).drop 24), List.all_append, w_t3, w_t4]
  rfl
set_option maxRecDepth 65536 in
theorem w_rest : rest_1_c.before args0 about1 = true := by decide +kernel
set_option maxRecDepth 65536 in
theorem w_case : (Jvm.Cond.and given_1 narrow_1).before args0 about1 = true := by decide +kernel
set_option maxRecDepth 65536 in
theorem w_consts : constsHeld consts_1 about1 := Jvm.Lit.constsHeldB_iff.mp (by decide +kernel)
theorem w_applies : (headSpec (Jvm.Cond.code x code maxLocals ret :: tables_1) room_1).applies x e0.platform about1 = true :=
  (Spec.applies_iff w_frames).mpr ⟨w_running, w_runnable, w_alone, w_named, w_hears, w_ripe, w_room, w_tables⟩
theorem atStart : AtStart classFile x code maxLocals ret World_1 tables_1 room_1 Calls_1 rest_1 Pre_1 launch0 p0 e0 about1 theMethod args0 below0 :=
  ⟨lists_1, trivial, launch0.admits_env _ _ _, launch0.least_env, fairChoices_fair.cas, fairChoices_fair.clock, w_frames, w_args, w_heap, w_applies, ⟨w_consts, trivial⟩, w_rest, w_case⟩
end start1
theorem witness_1 : WitnessClaimed_1 := ⟨start1.p0, start1.e0, start1.about1, start1.theMethod, start1.args0, start1.below0, start1.atStart⟩
end Jvm.Pilot.@@N@@
