import JvmDerived
import JvmDerived.Pilot.@@N@@Statement
import JvmDerived.Pilot.@@N@@Code
set_option linter.unusedVariables false
set_option linter.unusedSimpArgs false
namespace Jvm.Own
open Jvm Jvm.ClassFile Sem Op Lib Jvm.Free Jvm.Stand Jvm.LawKit Jvm.RoadKit Bundle
/-! A walk in 'what is left to do' form: Go .. says that from every state that stands at this frame over this heap the body runs to its end and leaves what Post says. -/
abbrev Kx : Type := Program × Launch × Env × State × MethodId × Array Value × List Frame × Method × Code
abbrev Kx.p (K : Kx) : Program := K.1
abbrev Kx.l (K : Kx) : Launch := K.2.1
abbrev Kx.e (K : Kx) : Env := K.2.2.1
abbrev Kx.s (K : Kx) : State := K.2.2.2.1
abbrev Kx.m (K : Kx) : MethodId := K.2.2.2.2.1
abbrev Kx.as (K : Kx) : Array Value := K.2.2.2.2.2.1
abbrev Kx.below (K : Kx) : List Frame := K.2.2.2.2.2.2.1
abbrev Kx.meth (K : Kx) : Method := K.2.2.2.2.2.2.2.1
abbrev Kx.c (K : Kx) : Code := K.2.2.2.2.2.2.2.2
/-- the decode fact, with the next place -/
def Dc (code : ByteArray) (pc : Nat) (i : Instr) (n pc' : Nat) : Prop := decode code pc = .ok (i, n) ∧ pc + n = pc'
abbrev Pst : Type := Option Value → Heap → List Addr → Prop
/-- where the walk stands -/
def Inv (Z : State) (EL : List (String × Nat)) (nw : Bool) (R : Room) (K : Kx) (T : State) (h : Heap) (S : List Addr) (k n : Nat) : Prop :=
  ∃ (vm0 : Vm) (k0 : Nat) (locs : List Loc), Stand K.p K.l K.e R (K.s.setVm vm0) K.m K.as K.below K.meth K.c T locs k n ∧ K.s.Since vm0 k0 ∧ k0 ≤ h.size ∧ Z.Warmed39 vm0 ∧ T.heap = h ∧ Fr Z.heap.size locs ∧
    CHr Z EL K.s.vm K.s.heap vm0 h ∧ (∀ a ∈ S, Z.heap.size ≤ a ∧ a < h.size ∧ Safe Z EL vm0 h a) ∧ (nw = true → K.s.WarmedH vm0) ∧ Ext Z.heap h
/-- what the end must be -/
def EndQ (Z : State) (EL : List (String × Nat)) (nw : Bool) (R : Room) (Post : Pst) (s : State) (o : Outcome) (t : State) : Prop :=
  ∃ v L S', o = .returned v ∧ Post v t.heap S' ∧ Fr Z.heap.size L ∧ CHr Z EL s.vm s.heap t.vm t.heap ∧ (∀ x ∈ S', Z.heap.size ≤ x ∧ x < t.heap.size ∧ Safe Z EL t.vm t.heap x) ∧ ReturnedEndW s o t L R.cells R.slots ∧ (nw = true → s.WarmedH t.vm) ∧ Ext Z.heap t.heap
def Fin' (Z : State) (EL : List (String × Nat)) (nw : Bool) (R : Room) (Post : Pst) (K : Kx) (U : State) : Prop :=
  ∃ s₂ o, Steps K.p.tables K.e K.below U s₂ ∧ s₂.status = .running ∧ Ended s₂ K.below o ∧ EndQ Z EL nw R Post K.s o s₂
def Go (Z : State) (EL : List (String × Nat)) (nw : Bool) (R : Room) (Post : Pst) (K : Kx) (h : Heap) (S : List Addr) (k n pc : Nat) (L : List Slot) (st : List Value) : Prop :=
  ∀ T, Inv Z EL nw R K T h S k n → Fin' Z EL nw R Post K (T.setTop (mkF K.m pc L.toArray st))
def Good (Z : State) (a0 : Array Value) (EL : List (String × Nat)) (K : Kx) (own : String) (code : ByteArray) (maxL : Nat) (ret : Option FieldType) (nm : String) : Prop :=
  K.p.tables.exec = Jvm.exec ∧ K.c.code = code ∧ K.c.maxLocals = maxL ∧ K.meth.sig.returnType = ret ∧ K.meth.locks = false ∧ K.meth.name = nm ∧ K.s.vm.findClass own = some K.m.cls ∧ EW Z a0 EL
/-- a body's contract -/
def Con (l : Launch) (Z : State) (EL : List (String × Nat)) (nw : Bool) (y : MethodName) (bytes : ByteArray) (maxL : Nat) (ret : Option FieldType) (ws : List Jvm.Cond) (rm : Room) (as : Array Value) (h : Heap) (S : List Addr) (Post : Pst) : Prop :=
  MetFree l y (head1 (Jvm.Cond.code y bytes maxL ret :: ws) rm) (fun a U => a = as ∧ Z.Warmed39 U.vm ∧ U.heap = h ∧ CHv Z EL U.vm h ∧ (∀ x ∈ S, Z.heap.size ≤ x ∧ x < h.size ∧ Safe Z EL U.vm h x) ∧ Ext Z.heap h) (fun _ _ _ _ _ => True) (fun _ U o U' => EndQ Z EL nw rm Post U o U')
section Rules
variable {Z : State} {a0 : Array Value} {EL : List (String × Nat)} {nw : Bool} {R : Room} {Post : Pst} {K : Kx} {own : String} {code : ByteArray} {maxL : Nat} {ret : Option FieldType} {nm : String} {h h' : Heap} {S S' : List Addr} {k n k' n' pc pc' : Nat} {L L' : List Slot} {st : List Value} {l : Launch}
theorem Fin'.step {U U' : State} (q : ∀ target, Steps K.p.tables K.e K.below U' target → Steps K.p.tables K.e K.below U target) (f : Fin' Z EL nw R Post K U') : Fin' Z EL nw R Post K U := by
  obtain ⟨s₂, o, h1, r⟩ := f
  exact ⟨s₂, o, q _ h1, r⟩
theorem Good.hown (G : Good Z a0 EL K own code maxL ret nm) {vm0 : Vm} {k0 : Nat} (hS : K.s.Since vm0 k0) : vm0.findClass own = some K.m.cls := (hS.1.alike.findClass _ _).trans G.2.2.2.2.2.2.1
/-- entering a body -/
theorem Con.enter {y : MethodName} {bytes : ByteArray} {ws : List Jvm.Cond} {as : Array Value} (hp : plainFor y = true) (hEL : EW Z a0 EL) (L0 : List Slot) (hef : ∀ m, entryFrame m as maxL = mkF m 0 L0.toArray [])
    (body : ∀ K : Kx, Good Z a0 EL K y.cls bytes maxL ret y.name → Go Z EL nw R Post K h S 0 0 0 L0 []) : Con l Z EL nw y bytes maxL ret ws R as h S Post := by
  refine MetFree.of_bodySF hp hisR ?_
  intro p e s m args below meth c s₁ Bd hml0 hP hK
  obtain ⟨rfl, hZ, hh, hC, hSf, hO⟩ := hP
  have X0 : Stand p l e R s m args below meth c s₁ [] 0 0 := Stand.of_body Bd
  have e0 : s₁.heap = h := by rw [← hh, Bd.state]; rfl
  have G : Good Z a0 EL (p, l, e, s, m, args, below, meth, c) y.cls bytes maxL ret y.name := ⟨Bd.exec, Bd.bytes, hml0, Bd.returns, Bd.notSynchronized, (name_of_methodNamed Bd.named Bd.method).1, findClass_of_methodNamed Bd.named, hEL⟩
  have F := body (p, l, e, s, m, args, below, meth, c) G s₁ ⟨s.vm, h.size, [], X0, (State.WarmedH.refl s).since _, Nat.le_refl _, hZ, e0, Fr.nil _, by show CHr Z EL s.vm s.heap s.vm h; rw [hh]; exact CHr.refl hC, hSf, fun _ => State.WarmedH.refl s, hO⟩
  obtain ⟨s₂, o, h1, h2, h3, h4⟩ := F
  exact ⟨s₂, o, castTop (hef m) h1, h2, h3, h4⟩
/-- a plain step -/
theorem Go.plain (q : ∀ (T : State) target, At T K.m K.c K.below → Steps K.p.tables K.e K.below (T.setTop (mkF K.m pc' L'.toArray st)) target → Steps K.p.tables K.e K.below (T.setTop (mkF K.m pc L.toArray st')) target) (f : Go Z EL nw R Post K h S k n pc' L' st) : Go Z EL nw R Post K h S k n pc L st' := fun T I => by
  obtain ⟨vm0, k0, locs, X, r⟩ := I
  exact (f T ⟨vm0, k0, locs, X, r⟩).step fun t z => q T t X.here z
theorem Go.more (f : Go Z EL nw R Post K h S k' n' pc L st) (hk : k ≤ k') (hn : n ≤ n') : Go Z EL nw R Post K h S k n pc L st := fun T I => by
  obtain ⟨vm0, k0, locs, X, r⟩ := I
  exact f T ⟨vm0, k0, locs, X.mono hk hn, r⟩
theorem Go.fewer (f : Go Z EL nw R Post K h S' k n pc L st) (hs : ∀ x ∈ S', x ∈ S) : Go Z EL nw R Post K h S k n pc L st := fun T I => by
  obtain ⟨vm0, k0, locs, X, r1, r2, r3, r4, r5, r6, r7, r8⟩ := I
  exact f T ⟨vm0, k0, locs, X, r1, r2, r3, r4, r5, r6, fun a q => r7 a (hs a q), r8⟩
/-- what is known of the places in S -/
theorem Go.safeIn (f : (∀ a ∈ S, Z.heap.size ≤ a ∧ a < h.size) → Go Z EL nw R Post K h S k n pc L st) : Go Z EL nw R Post K h S k n pc L st := fun T I => by
  obtain ⟨vm0, k0, locs, X, r1, r2, r3, r4, r5, r6, r7, r8⟩ := I
  exact f (fun a q => ⟨(r7 a q).1, (r7 a q).2.1⟩) T ⟨vm0, k0, locs, X, r1, r2, r3, r4, r5, r6, r7, r8⟩
theorem Go.oldIn (f : Ext Z.heap h → Go Z EL nw R Post K h S k n pc L st) : Go Z EL nw R Post K h S k n pc L st := fun T I => by
  obtain ⟨vm0, k0, locs, X, r1, r2, r3, r4, r5, r6, r7, r8⟩ := I
  exact f r8.2 T ⟨vm0, k0, locs, X, r1, r2, r3, r4, r5, r6, r7, r8⟩
/-! ### the ends -/
theorem Good.leave (G : Good Z a0 EL K own code maxL ret nm) {v : Option Value} (hv : ret = none → v = none) (hk : k ≤ R.cells) (hn : n ≤ R.slots) (S' : List Addr) (hS' : ∀ x ∈ S', x ∈ S) (hP : Post v h S')
    (q : ∀ (T : State) (vm0 : Vm) (locs : List Loc) (fs : List Frame), Stand K.p K.l K.e R (K.s.setVm vm0) K.m K.as K.below K.meth K.c T locs k n → (∀ (f : JFrame) (acts : List Action), f.method = K.m → f.locked = none → f.entered = [] → (doReturn K.e (T.setTop f) acts v).1 = T.setFrames fs) → Steps K.p.tables K.e K.below (T.setTop (mkF K.m pc L.toArray st)) (T.setFrames fs)) :
    Go Z EL nw R Post K h S k n pc L st := fun T I => by
  obtain ⟨vm0, k0, locs, X, hS, hk0, hZ, e, N, CH, hSf, hw, hO⟩ := I
  obtain ⟨hx, hby, hml, hret, hlk, hnm, hown, hEL⟩ := G
  have hlk' : K.meth.locks = false := hlk
  obtain ⟨fs, h1, h2, h3, hE⟩ := X.leaveW hS (by rw [e]; exact hk0) (v := v) (fun z => hv (hret.symm.trans z)) hlk'
  obtain ⟨a1, a2, a3, a4⟩ := hE
  have CA := CHv.at X hZ hEL CH.1
  have eh : (T.setFrames fs).heap = h := e
  refine ⟨_, _, q T vm0 locs fs X h1, h2, h3, v, locs, S', rfl, by rw [eh]; exact hP, N, ?_, ?_, ⟨a1, a2, a3, a4.mono hk hn⟩, fun z => State.WarmedH.trans (t := K.s.setVm vm0) (hw z) X.warmed, by rw [eh]; exact hO⟩
  · show CHr Z EL K.s.vm K.s.heap T.vm (T.setFrames fs).heap
    rw [eh]; exact CH.trans CA
  · intro x hx'
    obtain ⟨b1, b2, b3⟩ := hSf x (hS' x hx')
    show Z.heap.size ≤ x ∧ x < (T.setFrames fs).heap.size ∧ Safe Z EL T.vm (T.setFrames fs).heap x
    rw [eh]; exact ⟨b1, b2, CA.safe b2 b3⟩
theorem Good.ret0 (G : Good Z a0 EL K own code maxL none nm) (hd : Dc code pc .return_ 1 pc') (S' : List Addr) (hS' : ∀ x ∈ S', x ∈ S) (hP : Post none h S') (hk : k ≤ R.cells := by decide) (hn : n ≤ R.slots := by decide) : Go Z EL nw R Post K h S k n pc L [] :=
  G.leave (fun _ => rfl) hk hn S' hS' hP fun T vm0 locs fs X hr => X.returnOut G.1 G.2.2.2.1 (hb G.2.1 hd.1) hr
theorem Good.retV {t : FieldType} (G : Good Z a0 EL K own code maxL (some t) nm) {w : Value} {i : Instr} (hd : Dc code pc i 1 pc') (hn' : narrow t w = w)
    (hi : (i = .ireturn ∧ (t = .int ∨ t = .boolean ∨ t = .byte ∨ t = .char ∨ t = .short) ∧ ∃ z, w = .int z) ∨ (i = .lreturn ∧ t = .long ∧ ∃ z, w = .long z) ∨ (i = .dreturn ∧ t = .double ∧ ∃ z, w = .double z) ∨ (i = .freturn ∧ t = .float ∧ ∃ z, w = .float z) ∨ (i = .areturn ∧ t.isReference = true ∧ w.isRef = true))
    (S' : List Addr) (hS' : ∀ x ∈ S', x ∈ S) (hP : Post (some w) h S') (hk : k ≤ R.cells := by decide) (hn : n ≤ R.slots := by decide) : Go Z EL nw R Post K h S k n pc L (w :: st) :=
  G.leave (fun z => by cases z) hk hn S' hS' hP fun T vm0 locs fs X hr => retOut X G.1 G.2.2.2.1 hn' hi (hb G.2.1 hd.1) hr
theorem Good.iret (G : Good Z a0 EL K own code maxL (some .int) nm) {z : Int32} (hd : Dc code pc .ireturn 1 pc') (S' : List Addr) (hS' : ∀ x ∈ S', x ∈ S) (hP : Post (some (.int z)) h S') (hk : k ≤ R.cells := by decide) (hn : n ≤ R.slots := by decide) : Go Z EL nw R Post K h S k n pc L (.int z :: st) :=
  G.retV hd rfl (Or.inl ⟨rfl, Or.inl rfl, z, rfl⟩) S' hS' hP hk hn
theorem Good.lret (G : Good Z a0 EL K own code maxL (some .long) nm) {z : Int64} (hd : Dc code pc .lreturn 1 pc') (S' : List Addr) (hS' : ∀ x ∈ S', x ∈ S) (hP : Post (some (.long z)) h S') (hk : k ≤ R.cells := by decide) (hn : n ≤ R.slots := by decide) : Go Z EL nw R Post K h S k n pc L (.long z :: st) :=
  G.retV hd rfl (Or.inr (Or.inl ⟨rfl, rfl, z, rfl⟩)) S' hS' hP hk hn
theorem Good.aret {t : FieldType} (G : Good Z a0 EL K own code maxL (some t) nm) {w : Value} (hd : Dc code pc .areturn 1 pc') (S' : List Addr) (hS' : ∀ x ∈ S', x ∈ S) (hP : Post (some w) h S') (hr : w.isRef = true := by rfl) (ht : t.isReference = true := by rfl) (hk : k ≤ R.cells := by decide) (hn : n ≤ R.slots := by decide) : Go Z EL nw R Post K h S k n pc L (w :: st) :=
  G.retV hd (by rcases ref_cases hr with rfl | ⟨_, rfl⟩ <;> cases t <;> first | rfl | cases ht) (Or.inr (Or.inr (Or.inr (Or.inr ⟨rfl, ht, hr⟩)))) S' hS' hP hk hn
/-- boolean, byte, char, short -/
theorem Good.nret {t : FieldType} (G : Good Z a0 EL K own code maxL (some t) nm) {z z' : Int32} (hd : Dc code pc .ireturn 1 pc') (ht : t = .boolean ∨ t = .byte ∨ t = .char ∨ t = .short) (hz : nar t z = z') (S' : List Addr) (hS' : ∀ x ∈ S', x ∈ S) (hP : Post (some (.int z')) h S') (hk : k ≤ R.cells := by decide) (hn : n ≤ R.slots := by decide) : Go Z EL nw R Post K h S k n pc L (.int z :: st) :=
  G.leave (fun z => by cases z) hk hn S' hS' hP fun T vm0 locs fs X hr => retN X G.1 G.2.2.2.1 ht (hb G.2.1 hd.1) (by rw [hz]; exact hr)
end Rules
end Jvm.Own
namespace Jvm.Own
open Jvm Jvm.ClassFile Sem Op Lib Jvm.Free Jvm.Stand Jvm.LawKit Jvm.RoadKit Bundle
/-- a branch's decode fact, with both places -/
def Dj (code : ByteArray) (pc : Nat) (i : Int → Instr) (pc' pcY : Nat) : Prop := ∃ o : Int, decode code pc = .ok (i o, 3) ∧ pc + 3 = pc' ∧ 0 ≤ (pc : Int) + o ∧ ((pc : Int) + o).toNat = pcY
section Plain
variable {Z : State} {a0 : Array Value} {EL : List (String × Nat)} {nw : Bool} {R : Room} {Post : Pst} {K : Kx} {own : String} {code : ByteArray} {maxL : Nat} {ret : Option FieldType} {nm : String} {h : Heap} {S : List Addr} {k n pc pc' pcY : Nat} {L : List Slot} {st : List Value}
theorem Good.aloadN (G : Good Z a0 EL K own code maxL ret nm) {j : Fin 4} {v : Value} (hd : Dc code pc (.aload_n j) 1 pc') (hl : L[j.val]? = some (.val v)) (hv : v.isRef = true) (f : Go Z EL nw R Post K h S k n pc' L (v :: st)) : Go Z EL nw R Post K h S k n pc L st := by
  obtain ⟨hd, rfl⟩ := hd
  exact Go.plain (fun T t X q => XS.aloadN X G.1 rfl (hb G.2.1 hd) (by simpa using hl) hv q) f
theorem Good.aload (G : Good Z a0 EL K own code maxL ret nm) {j : Nat} {v : Value} (hd : Dc code pc (.aload j) 2 pc') (hl : L[j]? = some (.val v)) (hv : v.isRef = true) (f : Go Z EL nw R Post K h S k n pc' L (v :: st)) : Go Z EL nw R Post K h S k n pc L st := by
  obtain ⟨hd, rfl⟩ := hd
  exact Go.plain (fun T t X q => XS.aload X G.1 rfl (hb G.2.1 hd) (by simpa using hl) hv q) f
theorem Good.iloadN (G : Good Z a0 EL K own code maxL ret nm) {j : Fin 4} {v : Int32} (hd : Dc code pc (.iload_n j) 1 pc') (hl : L[j.val]? = some (.val (.int v))) (f : Go Z EL nw R Post K h S k n pc' L (.int v :: st)) : Go Z EL nw R Post K h S k n pc L st := by
  obtain ⟨hd, rfl⟩ := hd
  exact Go.plain (fun T t X q => XS.iloadN X G.1 rfl (hb G.2.1 hd) (by simpa using hl) q) f
theorem Good.iload (G : Good Z a0 EL K own code maxL ret nm) {j : Nat} {v : Int32} (hd : Dc code pc (.iload j) 2 pc') (hl : L[j]? = some (.val (.int v))) (f : Go Z EL nw R Post K h S k n pc' L (.int v :: st)) : Go Z EL nw R Post K h S k n pc L st := by
  obtain ⟨hd, rfl⟩ := hd
  exact Go.plain (fun T t X q => XS.iload X G.1 rfl (hb G.2.1 hd) (by simpa using hl) q) f
theorem Good.lloadN (G : Good Z a0 EL K own code maxL ret nm) {j : Fin 4} {v : Int64} (hd : Dc code pc (.lload_n j) 1 pc') (hl : L[j.val]? = some (.val (.long v))) (f : Go Z EL nw R Post K h S k n pc' L (.long v :: st)) : Go Z EL nw R Post K h S k n pc L st := by
  obtain ⟨hd, rfl⟩ := hd
  exact Go.plain (fun T t X q => XS.lloadN X G.1 rfl (hb G.2.1 hd) (by simpa using hl) q) f
theorem Good.lload (G : Good Z a0 EL K own code maxL ret nm) {j : Nat} {v : Int64} (hd : Dc code pc (.lload j) 2 pc') (hl : L[j]? = some (.val (.long v))) (f : Go Z EL nw R Post K h S k n pc' L (.long v :: st)) : Go Z EL nw R Post K h S k n pc L st := by
  obtain ⟨hd, rfl⟩ := hd
  exact Go.plain (fun T t X q => XS.lload X G.1 rfl (hb G.2.1 hd) (by simpa using hl) q) f
theorem Good.iconst (G : Good Z a0 EL K own code maxL ret nm) (z : Int32) {i : Int} (hd : Dc code pc (.iconst i) 1 pc')  (f : Go Z EL nw R Post K h S k n pc' L (.int z :: st)) (hz : Int32.ofInt i = z := by decide) : Go Z EL nw R Post K h S k n pc L st := by
  obtain ⟨hd, rfl⟩ := hd
  exact Go.plain (fun T t X q => XS.iconst X G.1 rfl (hb G.2.1 hd) (by rw [hz]; exact q)) f
theorem Good.bipush (G : Good Z a0 EL K own code maxL ret nm) (z : Int32) {i : Int} (hd : Dc code pc (.bipush i) 2 pc')  (f : Go Z EL nw R Post K h S k n pc' L (.int z :: st)) (hz : (Int8.ofInt i).toInt32 = z := by decide) : Go Z EL nw R Post K h S k n pc L st := by
  obtain ⟨hd, rfl⟩ := hd
  exact Go.plain (fun T t X q => XS.bipush X G.1 rfl (hb G.2.1 hd) (by rw [hz]; exact q)) f
theorem Good.sipush (G : Good Z a0 EL K own code maxL ret nm) (z : Int32) {i : Int} (hd : Dc code pc (.sipush i) 3 pc')  (f : Go Z EL nw R Post K h S k n pc' L (.int z :: st)) (hz : (Int16.ofInt i).toInt32 = z := by decide) : Go Z EL nw R Post K h S k n pc L st := by
  obtain ⟨hd, rfl⟩ := hd
  exact Go.plain (fun T t X q => XS.sipush X G.1 rfl (hb G.2.1 hd) (by rw [hz]; exact q)) f
theorem Good.lconst (G : Good Z a0 EL K own code maxL ret nm) (z : Int64) {i : Fin 2} (hd : Dc code pc (.lconst i) 1 pc')  (f : Go Z EL nw R Post K h S k n pc' L (.long z :: st)) (hz : Int64.ofNat i = z := by decide) : Go Z EL nw R Post K h S k n pc L st := by
  obtain ⟨hd, rfl⟩ := hd
  exact Go.plain (fun T t X q => XS.lconst X G.1 rfl (hb G.2.1 hd) (by rw [hz]; exact q)) f
theorem Good.aconstNull (G : Good Z a0 EL K own code maxL ret nm)  (hd : Dc code pc .aconst_null 1 pc')  (f : Go Z EL nw R Post K h S k n pc' L (.null :: st)) : Go Z EL nw R Post K h S k n pc L st := by
  obtain ⟨hd, rfl⟩ := hd
  exact Go.plain (fun T t X q => XS.aconstNull X G.1 rfl (hb G.2.1 hd)  q) f
theorem Good.iadd (G : Good Z a0 EL K own code maxL ret nm) {x y : Int32} (hd : Dc code pc .iadd 1 pc')  (f : Go Z EL nw R Post K h S k n pc' L (.int (x + y) :: st)) : Go Z EL nw R Post K h S k n pc L (.int y :: .int x :: st) := by
  obtain ⟨hd, rfl⟩ := hd
  exact Go.plain (fun T t X q => XS.iadd X G.1 rfl (hb G.2.1 hd) rfl q) f
theorem Good.isub (G : Good Z a0 EL K own code maxL ret nm) {x y : Int32} (hd : Dc code pc .isub 1 pc')  (f : Go Z EL nw R Post K h S k n pc' L (.int (x - y) :: st)) : Go Z EL nw R Post K h S k n pc L (.int y :: .int x :: st) := by
  obtain ⟨hd, rfl⟩ := hd
  exact Go.plain (fun T t X q => XS.isub X G.1 rfl (hb G.2.1 hd) rfl q) f
theorem Good.imul (G : Good Z a0 EL K own code maxL ret nm) {x y : Int32} (hd : Dc code pc .imul 1 pc')  (f : Go Z EL nw R Post K h S k n pc' L (.int (x * y) :: st)) : Go Z EL nw R Post K h S k n pc L (.int y :: .int x :: st) := by
  obtain ⟨hd, rfl⟩ := hd
  exact Go.plain (fun T t X q => XS.imul X G.1 rfl (hb G.2.1 hd) rfl q) f
theorem Good.iand (G : Good Z a0 EL K own code maxL ret nm) {x y : Int32} (hd : Dc code pc .iand 1 pc')  (f : Go Z EL nw R Post K h S k n pc' L (.int (x &&& y) :: st)) : Go Z EL nw R Post K h S k n pc L (.int y :: .int x :: st) := by
  obtain ⟨hd, rfl⟩ := hd
  exact Go.plain (fun T t X q => XS.iand X G.1 rfl (hb G.2.1 hd) rfl q) f
theorem Good.ior (G : Good Z a0 EL K own code maxL ret nm) {x y : Int32} (hd : Dc code pc .ior 1 pc')  (f : Go Z EL nw R Post K h S k n pc' L (.int (x ||| y) :: st)) : Go Z EL nw R Post K h S k n pc L (.int y :: .int x :: st) := by
  obtain ⟨hd, rfl⟩ := hd
  exact Go.plain (fun T t X q => XS.ior X G.1 rfl (hb G.2.1 hd) rfl q) f
theorem Good.ixor (G : Good Z a0 EL K own code maxL ret nm) {x y : Int32} (hd : Dc code pc .ixor 1 pc')  (f : Go Z EL nw R Post K h S k n pc' L (.int (x ^^^ y) :: st)) : Go Z EL nw R Post K h S k n pc L (.int y :: .int x :: st) := by
  obtain ⟨hd, rfl⟩ := hd
  exact Go.plain (fun T t X q => XS.ixor X G.1 rfl (hb G.2.1 hd) rfl q) f
theorem Good.ishl (G : Good Z a0 EL K own code maxL ret nm) {x y : Int32} (hd : Dc code pc .ishl 1 pc')  (f : Go Z EL nw R Post K h S k n pc' L (.int (x <<< (y &&& 31)) :: st)) : Go Z EL nw R Post K h S k n pc L (.int y :: .int x :: st) := by
  obtain ⟨hd, rfl⟩ := hd
  exact Go.plain (fun T t X q => XS.ishl X G.1 rfl (hb G.2.1 hd) rfl q) f
theorem Good.ishr (G : Good Z a0 EL K own code maxL ret nm) {x y : Int32} (hd : Dc code pc .ishr 1 pc')  (f : Go Z EL nw R Post K h S k n pc' L (.int (x >>> (y &&& 31)) :: st)) : Go Z EL nw R Post K h S k n pc L (.int y :: .int x :: st) := by
  obtain ⟨hd, rfl⟩ := hd
  exact Go.plain (fun T t X q => XS.ishr X G.1 rfl (hb G.2.1 hd) rfl q) f
theorem Good.iushr (G : Good Z a0 EL K own code maxL ret nm) {x y : Int32} (hd : Dc code pc .iushr 1 pc')  (f : Go Z EL nw R Post K h S k n pc' L (.int ((x.toUInt32 >>> (y &&& 31).toUInt32).toInt32) :: st)) : Go Z EL nw R Post K h S k n pc L (.int y :: .int x :: st) := by
  obtain ⟨hd, rfl⟩ := hd
  exact Go.plain (fun T t X q => XS.iushr X G.1 rfl (hb G.2.1 hd) rfl q) f
theorem Good.idiv (G : Good Z a0 EL K own code maxL ret nm) {x y : Int32} (hd : Dc code pc .idiv 1 pc') (hy : y ≠ 0) (f : Go Z EL nw R Post K h S k n pc' L (.int (x / y) :: st)) : Go Z EL nw R Post K h S k n pc L (.int y :: .int x :: st) := by
  obtain ⟨hd, rfl⟩ := hd
  exact Go.plain (fun T t X q => XS.idiv X G.1 rfl (hb G.2.1 hd) rfl hy q) f
theorem Good.irem (G : Good Z a0 EL K own code maxL ret nm) {x y : Int32} (hd : Dc code pc .irem 1 pc') (hy : y ≠ 0) (f : Go Z EL nw R Post K h S k n pc' L (.int (x % y) :: st)) : Go Z EL nw R Post K h S k n pc L (.int y :: .int x :: st) := by
  obtain ⟨hd, rfl⟩ := hd
  exact Go.plain (fun T t X q => XS.irem X G.1 rfl (hb G.2.1 hd) rfl hy (by rw [show x - x / y * y = x % y from irem_eq_mod x y]; exact q)) f
theorem Good.ineg (G : Good Z a0 EL K own code maxL ret nm) {x : Int32} (hd : Dc code pc .ineg 1 pc')  (f : Go Z EL nw R Post K h S k n pc' L (.int (-x) :: st)) : Go Z EL nw R Post K h S k n pc L (.int x :: st) := by
  obtain ⟨hd, rfl⟩ := hd
  exact Go.plain (fun T t X q => XS.ineg X G.1 rfl (hb G.2.1 hd) rfl q) f
theorem Good.ladd (G : Good Z a0 EL K own code maxL ret nm) {x y : Int64} (hd : Dc code pc .ladd 1 pc')  (f : Go Z EL nw R Post K h S k n pc' L (.long (x + y) :: st)) : Go Z EL nw R Post K h S k n pc L (.long y :: .long x :: st) := by
  obtain ⟨hd, rfl⟩ := hd
  exact Go.plain (fun T t X q => XS.ladd X G.1 rfl (hb G.2.1 hd) rfl q) f
theorem Good.lsub (G : Good Z a0 EL K own code maxL ret nm) {x y : Int64} (hd : Dc code pc .lsub 1 pc')  (f : Go Z EL nw R Post K h S k n pc' L (.long (x - y) :: st)) : Go Z EL nw R Post K h S k n pc L (.long y :: .long x :: st) := by
  obtain ⟨hd, rfl⟩ := hd
  exact Go.plain (fun T t X q => XS.lsub X G.1 rfl (hb G.2.1 hd) rfl q) f
theorem Good.lmul (G : Good Z a0 EL K own code maxL ret nm) {x y : Int64} (hd : Dc code pc .lmul 1 pc')  (f : Go Z EL nw R Post K h S k n pc' L (.long (x * y) :: st)) : Go Z EL nw R Post K h S k n pc L (.long y :: .long x :: st) := by
  obtain ⟨hd, rfl⟩ := hd
  exact Go.plain (fun T t X q => XS.lmul X G.1 rfl (hb G.2.1 hd) rfl q) f
theorem Good.land (G : Good Z a0 EL K own code maxL ret nm) {x y : Int64} (hd : Dc code pc .land 1 pc')  (f : Go Z EL nw R Post K h S k n pc' L (.long (x &&& y) :: st)) : Go Z EL nw R Post K h S k n pc L (.long y :: .long x :: st) := by
  obtain ⟨hd, rfl⟩ := hd
  exact Go.plain (fun T t X q => XS.land X G.1 rfl (hb G.2.1 hd) rfl q) f
theorem Good.lor (G : Good Z a0 EL K own code maxL ret nm) {x y : Int64} (hd : Dc code pc .lor 1 pc')  (f : Go Z EL nw R Post K h S k n pc' L (.long (x ||| y) :: st)) : Go Z EL nw R Post K h S k n pc L (.long y :: .long x :: st) := by
  obtain ⟨hd, rfl⟩ := hd
  exact Go.plain (fun T t X q => XS.lor X G.1 rfl (hb G.2.1 hd) rfl q) f
theorem Good.lxor (G : Good Z a0 EL K own code maxL ret nm) {x y : Int64} (hd : Dc code pc .lxor 1 pc')  (f : Go Z EL nw R Post K h S k n pc' L (.long (x ^^^ y) :: st)) : Go Z EL nw R Post K h S k n pc L (.long y :: .long x :: st) := by
  obtain ⟨hd, rfl⟩ := hd
  exact Go.plain (fun T t X q => XS.lxor X G.1 rfl (hb G.2.1 hd) rfl q) f
theorem Good.lshl (G : Good Z a0 EL K own code maxL ret nm) {x : Int64} {y : Int32} (hd : Dc code pc .lshl 1 pc')  (f : Go Z EL nw R Post K h S k n pc' L (.long (x <<< (y &&& 0x3f).toInt64) :: st)) : Go Z EL nw R Post K h S k n pc L (.int y :: .long x :: st) := by
  obtain ⟨hd, rfl⟩ := hd
  exact Go.plain (fun T t X q => XS.lshl X G.1 rfl (hb G.2.1 hd) rfl q) f
theorem Good.lshr (G : Good Z a0 EL K own code maxL ret nm) {x : Int64} {y : Int32} (hd : Dc code pc .lshr 1 pc')  (f : Go Z EL nw R Post K h S k n pc' L (.long (x >>> (y &&& 0x3f).toInt64) :: st)) : Go Z EL nw R Post K h S k n pc L (.int y :: .long x :: st) := by
  obtain ⟨hd, rfl⟩ := hd
  exact Go.plain (fun T t X q => XS.lshr X G.1 rfl (hb G.2.1 hd) rfl q) f
theorem Good.lushr (G : Good Z a0 EL K own code maxL ret nm) {x : Int64} {y : Int32} (hd : Dc code pc .lushr 1 pc')  (f : Go Z EL nw R Post K h S k n pc' L (.long ((x.toUInt64 >>> (y &&& 0x3f).toInt64.toUInt64).toInt64) :: st)) : Go Z EL nw R Post K h S k n pc L (.int y :: .long x :: st) := by
  obtain ⟨hd, rfl⟩ := hd
  exact Go.plain (fun T t X q => XS.lushr X G.1 rfl (hb G.2.1 hd) rfl q) f
theorem Good.ldiv (G : Good Z a0 EL K own code maxL ret nm) {x y : Int64} (hd : Dc code pc .ldiv 1 pc') (hy : y ≠ 0) (f : Go Z EL nw R Post K h S k n pc' L (.long (x / y) :: st)) : Go Z EL nw R Post K h S k n pc L (.long y :: .long x :: st) := by
  obtain ⟨hd, rfl⟩ := hd
  exact Go.plain (fun T t X q => XS.ldiv X G.1 rfl (hb G.2.1 hd) rfl hy q) f
theorem Good.lneg (G : Good Z a0 EL K own code maxL ret nm) {x : Int64} (hd : Dc code pc .lneg 1 pc')  (f : Go Z EL nw R Post K h S k n pc' L (.long (-x) :: st)) : Go Z EL nw R Post K h S k n pc L (.long x :: st) := by
  obtain ⟨hd, rfl⟩ := hd
  exact Go.plain (fun T t X q => XS.lneg X G.1 rfl (hb G.2.1 hd) rfl q) f
theorem Good.i2b (G : Good Z a0 EL K own code maxL ret nm) {x : Int32} (hd : Dc code pc .i2b 1 pc')  (f : Go Z EL nw R Post K h S k n pc' L (.int (x.toInt8.toInt32) :: st)) : Go Z EL nw R Post K h S k n pc L (.int x :: st) := by
  obtain ⟨hd, rfl⟩ := hd
  exact Go.plain (fun T t X q => XS.i2b X G.1 rfl (hb G.2.1 hd) rfl q) f
theorem Good.i2c (G : Good Z a0 EL K own code maxL ret nm) {x : Int32} (hd : Dc code pc .i2c 1 pc')  (f : Go Z EL nw R Post K h S k n pc' L (.int (x.toUInt32.toUInt16.toUInt32.toInt32) :: st)) : Go Z EL nw R Post K h S k n pc L (.int x :: st) := by
  obtain ⟨hd, rfl⟩ := hd
  exact Go.plain (fun T t X q => XS.i2c X G.1 rfl (hb G.2.1 hd) rfl q) f
theorem Good.i2s (G : Good Z a0 EL K own code maxL ret nm) {x : Int32} (hd : Dc code pc .i2s 1 pc')  (f : Go Z EL nw R Post K h S k n pc' L (.int (x.toInt16.toInt32) :: st)) : Go Z EL nw R Post K h S k n pc L (.int x :: st) := by
  obtain ⟨hd, rfl⟩ := hd
  exact Go.plain (fun T t X q => XS.i2s X G.1 rfl (hb G.2.1 hd) rfl q) f
theorem Good.i2l (G : Good Z a0 EL K own code maxL ret nm) {x : Int32} (hd : Dc code pc .i2l 1 pc')  (f : Go Z EL nw R Post K h S k n pc' L (.long (x.toInt64) :: st)) : Go Z EL nw R Post K h S k n pc L (.int x :: st) := by
  obtain ⟨hd, rfl⟩ := hd
  exact Go.plain (fun T t X q => XS.i2l X G.1 rfl (hb G.2.1 hd) rfl q) f
theorem Good.l2i (G : Good Z a0 EL K own code maxL ret nm) {x : Int64} (hd : Dc code pc .l2i 1 pc')  (f : Go Z EL nw R Post K h S k n pc' L (.int (x.toInt32) :: st)) : Go Z EL nw R Post K h S k n pc L (.long x :: st) := by
  obtain ⟨hd, rfl⟩ := hd
  exact Go.plain (fun T t X q => XS.l2i X G.1 rfl (hb G.2.1 hd) rfl q) f
theorem Good.lcmp (G : Good Z a0 EL K own code maxL ret nm) {x y : Int64} (hd : Dc code pc .lcmp 1 pc')  (f : Go Z EL nw R Post K h S k n pc' L (.int (lcmpW x y) :: st)) : Go Z EL nw R Post K h S k n pc L (.long y :: .long x :: st) := by
  obtain ⟨hd, rfl⟩ := hd
  exact Go.plain (fun T t X q => XS.lcmp X G.1 rfl (hb G.2.1 hd) rfl q) f
theorem Good.dup (G : Good Z a0 EL K own code maxL ret nm) {x : Value} (hd : Dc code pc .dup 1 pc')  (f : Go Z EL nw R Post K h S k n pc' L (x :: x :: st)) (hc : x.category = 1 := by rfl) : Go Z EL nw R Post K h S k n pc L (x :: st) := by
  obtain ⟨hd, rfl⟩ := hd
  exact Go.plain (fun T t X q => XS.dup X G.1 rfl (hb G.2.1 hd) rfl hc q) f
theorem Good.pop (G : Good Z a0 EL K own code maxL ret nm) {x : Value} (hd : Dc code pc .pop 1 pc')  (f : Go Z EL nw R Post K h S k n pc' L st) (hc : x.category = 1 := by rfl) : Go Z EL nw R Post K h S k n pc L (x :: st) := by
  obtain ⟨hd, rfl⟩ := hd
  exact Go.plain (fun T t X q => XS.pop X G.1 rfl (hb G.2.1 hd) rfl hc q) f
theorem Good.dupX1 (G : Good Z a0 EL K own code maxL ret nm) {x y : Value} (hd : Dc code pc .dup_x1 1 pc')  (f : Go Z EL nw R Post K h S k n pc' L (x :: y :: x :: st)) (hc : x.category = 1 := by rfl) (hc2 : y.category = 1 := by rfl) : Go Z EL nw R Post K h S k n pc L (x :: y :: st) := by
  obtain ⟨hd, rfl⟩ := hd
  exact Go.plain (fun T t X q => XS.dupX1 X G.1 rfl (hb G.2.1 hd) rfl hc hc2 q) f
theorem Good.swap (G : Good Z a0 EL K own code maxL ret nm) {x y : Value} (hd : Dc code pc .swap 1 pc')  (f : Go Z EL nw R Post K h S k n pc' L (y :: x :: st)) (hc : x.category = 1 := by rfl) (hc2 : y.category = 1 := by rfl) : Go Z EL nw R Post K h S k n pc L (x :: y :: st) := by
  obtain ⟨hd, rfl⟩ := hd
  exact Go.plain (fun T t X q => XS.swap X G.1 rfl (hb G.2.1 hd) rfl hc hc2 q) f
theorem Good.pop2L (G : Good Z a0 EL K own code maxL ret nm) {x : Int64} (hd : Dc code pc .pop2 1 pc') (f : Go Z EL nw R Post K h S k n pc' L st) : Go Z EL nw R Post K h S k n pc L (.long x :: st) := by
  obtain ⟨hd, rfl⟩ := hd
  refine Go.plain (fun T t X q => ?_) f
  have hd' := hb G.2.1 hd
  have hx := G.1
  jvm_step X [X.top, hx, hd', Value.category]
  exact q
theorem Good.dup2I (G : Good Z a0 EL K own code maxL ret nm) {x y : Value} (hd : Dc code pc .dup2 1 pc') (f : Go Z EL nw R Post K h S k n pc' L (x :: y :: x :: y :: st)) (hc : x.category = 1 := by rfl) (hc2 : y.category = 1 := by rfl) : Go Z EL nw R Post K h S k n pc L (x :: y :: st) := by
  obtain ⟨hd, rfl⟩ := hd
  exact Go.plain (fun T t X q => XT.dup2 X G.1 rfl (hb G.2.1 hd) rfl hc hc2 q) f
theorem Good.goto (G : Good Z a0 EL K own code maxL ret nm) (hd : Dj code pc .goto pc' pcY) (f : Go Z EL nw R Post K h S k n pcY L st) : Go Z EL nw R Post K h S k n pc L st := by
  obtain ⟨o, hd, rfl, ho, hp⟩ := hd
  exact Go.plain (fun T t X q => XS.goto X G.1 rfl (pc0 := pc) rfl (hb G.2.1 hd) ho hp q) f
theorem Good.icmp (G : Good Z a0 EL K own code maxL ret nm) {cd : ClassFile.Cond} {x y : Int32} (hd : Dj code pc (.if_icmp cd) pc' pcY) (fY : if_icmp.holds cd x y = true → Go Z EL nw R Post K h S k n pcY L st) (fN : if_icmp.holds cd x y = false → Go Z EL nw R Post K h S k n pc' L st) : Go Z EL nw R Post K h S k n pc L (.int y :: .int x :: st) := by
  obtain ⟨o, hd, rfl, ho, hp⟩ := hd
  cases hc : if_icmp.holds cd x y
  · exact Go.plain (fun T t X q => XS.icmpNo X G.1 rfl (hb G.2.1 hd) rfl hc q) (fN hc)
  · exact Go.plain (fun T t X q => XS.icmpYes X G.1 rfl (pc0 := pc) rfl (hb G.2.1 hd) rfl hc ho hp q) (fY hc)
theorem Good.ifc (G : Good Z a0 EL K own code maxL ret nm) {cd : ClassFile.Cond} {x : Int32} (hd : Dj code pc (.ifCond cd) pc' pcY) (fY : if_icmp.holds cd x 0 = true → Go Z EL nw R Post K h S k n pcY L st) (fN : if_icmp.holds cd x 0 = false → Go Z EL nw R Post K h S k n pc' L st) : Go Z EL nw R Post K h S k n pc L (.int x :: st) := by
  obtain ⟨o, hd, rfl, ho, hp⟩ := hd
  cases hc : if_icmp.holds cd x 0
  · exact Go.plain (fun T t X q => XS.ifNo X G.1 rfl (hb G.2.1 hd) rfl ((if0 _ _).trans hc) q) (fN hc)
  · exact Go.plain (fun T t X q => XS.ifYes X G.1 rfl (pc0 := pc) rfl (hb G.2.1 hd) rfl ((if0 _ _).trans hc) ho hp q) (fY hc)
theorem hold_lt {x y : Int32} : (if_icmp.holds .lt x y = true → x < y) ∧ (if_icmp.holds .lt x y = false → ¬ x < y) := ⟨fun q => (by by_cases z : x < y; exact z; rw [(flt z).1] at q; cases q), fun q z => by rw [(tlt z).1] at q; cases q⟩
theorem hold_ge {x y : Int32} : (if_icmp.holds .ge x y = true → ¬ x < y) ∧ (if_icmp.holds .ge x y = false → x < y) := ⟨fun q z => (by rw [(tlt z).2.1] at q; cases q), fun q => by by_cases z : x < y; exact z; rw [(flt z).2.1] at q; cases q⟩
theorem hold_gt {x y : Int32} : (if_icmp.holds .gt x y = true → y < x) ∧ (if_icmp.holds .gt x y = false → ¬ y < x) := ⟨fun q => (by by_cases z : y < x; exact z; rw [(flt z).2.2.1] at q; cases q), fun q z => by rw [(tlt z).2.2.1] at q; cases q⟩
theorem hold_le {x y : Int32} : (if_icmp.holds .le x y = true → ¬ y < x) ∧ (if_icmp.holds .le x y = false → y < x) := ⟨fun q z => (by rw [(tlt z).2.2.2] at q; cases q), fun q => by by_cases z : y < x; exact z; rw [(flt z).2.2.2] at q; cases q⟩
theorem hold_eq {x y : Int32} : (if_icmp.holds .eq x y = true → x = y) ∧ (if_icmp.holds .eq x y = false → ¬ x = y) := ⟨fun q => (by by_cases z : x = y; exact z; rw [(feq z).1] at q; cases q), fun q z => by rw [(teq z).1] at q; cases q⟩
theorem hold_ne {x y : Int32} : (if_icmp.holds .ne x y = true → ¬ x = y) ∧ (if_icmp.holds .ne x y = false → x = y) := ⟨fun q z => (by rw [(teq z).2] at q; cases q), fun q => by by_cases z : x = y; exact z; rw [(feq z).2] at q; cases q⟩
theorem Good.icmp_lt (G : Good Z a0 EL K own code maxL ret nm) {x y : Int32} (hd : Dj code pc (.if_icmp .lt) pc' pcY) (fY : x < y → Go Z EL nw R Post K h S k n pcY L st) (fN : ¬ x < y → Go Z EL nw R Post K h S k n pc' L st) : Go Z EL nw R Post K h S k n pc L (.int y :: .int x :: st) := G.icmp hd (fun q => fY (hold_lt.1 q)) (fun q => fN (hold_lt.2 q))
theorem Good.if_lt (G : Good Z a0 EL K own code maxL ret nm) {x : Int32} (hd : Dj code pc (.ifCond .lt) pc' pcY) (fY : x < 0 → Go Z EL nw R Post K h S k n pcY L st) (fN : ¬ x < 0 → Go Z EL nw R Post K h S k n pc' L st) : Go Z EL nw R Post K h S k n pc L (.int x :: st) := G.ifc hd (fun q => fY (hold_lt.1 q)) (fun q => fN (hold_lt.2 q))
theorem Good.icmp_ge (G : Good Z a0 EL K own code maxL ret nm) {x y : Int32} (hd : Dj code pc (.if_icmp .ge) pc' pcY) (fY : ¬ x < y → Go Z EL nw R Post K h S k n pcY L st) (fN : x < y → Go Z EL nw R Post K h S k n pc' L st) : Go Z EL nw R Post K h S k n pc L (.int y :: .int x :: st) := G.icmp hd (fun q => fY (hold_ge.1 q)) (fun q => fN (hold_ge.2 q))
theorem Good.if_ge (G : Good Z a0 EL K own code maxL ret nm) {x : Int32} (hd : Dj code pc (.ifCond .ge) pc' pcY) (fY : ¬ x < 0 → Go Z EL nw R Post K h S k n pcY L st) (fN : x < 0 → Go Z EL nw R Post K h S k n pc' L st) : Go Z EL nw R Post K h S k n pc L (.int x :: st) := G.ifc hd (fun q => fY (hold_ge.1 q)) (fun q => fN (hold_ge.2 q))
theorem Good.icmp_gt (G : Good Z a0 EL K own code maxL ret nm) {x y : Int32} (hd : Dj code pc (.if_icmp .gt) pc' pcY) (fY : y < x → Go Z EL nw R Post K h S k n pcY L st) (fN : ¬ y < x → Go Z EL nw R Post K h S k n pc' L st) : Go Z EL nw R Post K h S k n pc L (.int y :: .int x :: st) := G.icmp hd (fun q => fY (hold_gt.1 q)) (fun q => fN (hold_gt.2 q))
theorem Good.if_gt (G : Good Z a0 EL K own code maxL ret nm) {x : Int32} (hd : Dj code pc (.ifCond .gt) pc' pcY) (fY : 0 < x → Go Z EL nw R Post K h S k n pcY L st) (fN : ¬ 0 < x → Go Z EL nw R Post K h S k n pc' L st) : Go Z EL nw R Post K h S k n pc L (.int x :: st) := G.ifc hd (fun q => fY (hold_gt.1 q)) (fun q => fN (hold_gt.2 q))
theorem Good.icmp_le (G : Good Z a0 EL K own code maxL ret nm) {x y : Int32} (hd : Dj code pc (.if_icmp .le) pc' pcY) (fY : ¬ y < x → Go Z EL nw R Post K h S k n pcY L st) (fN : y < x → Go Z EL nw R Post K h S k n pc' L st) : Go Z EL nw R Post K h S k n pc L (.int y :: .int x :: st) := G.icmp hd (fun q => fY (hold_le.1 q)) (fun q => fN (hold_le.2 q))
theorem Good.if_le (G : Good Z a0 EL K own code maxL ret nm) {x : Int32} (hd : Dj code pc (.ifCond .le) pc' pcY) (fY : ¬ 0 < x → Go Z EL nw R Post K h S k n pcY L st) (fN : 0 < x → Go Z EL nw R Post K h S k n pc' L st) : Go Z EL nw R Post K h S k n pc L (.int x :: st) := G.ifc hd (fun q => fY (hold_le.1 q)) (fun q => fN (hold_le.2 q))
theorem Good.icmp_eq (G : Good Z a0 EL K own code maxL ret nm) {x y : Int32} (hd : Dj code pc (.if_icmp .eq) pc' pcY) (fY : x = y → Go Z EL nw R Post K h S k n pcY L st) (fN : ¬ x = y → Go Z EL nw R Post K h S k n pc' L st) : Go Z EL nw R Post K h S k n pc L (.int y :: .int x :: st) := G.icmp hd (fun q => fY (hold_eq.1 q)) (fun q => fN (hold_eq.2 q))
theorem Good.if_eq (G : Good Z a0 EL K own code maxL ret nm) {x : Int32} (hd : Dj code pc (.ifCond .eq) pc' pcY) (fY : x = 0 → Go Z EL nw R Post K h S k n pcY L st) (fN : ¬ x = 0 → Go Z EL nw R Post K h S k n pc' L st) : Go Z EL nw R Post K h S k n pc L (.int x :: st) := G.ifc hd (fun q => fY (hold_eq.1 q)) (fun q => fN (hold_eq.2 q))
theorem Good.icmp_ne (G : Good Z a0 EL K own code maxL ret nm) {x y : Int32} (hd : Dj code pc (.if_icmp .ne) pc' pcY) (fY : ¬ x = y → Go Z EL nw R Post K h S k n pcY L st) (fN : x = y → Go Z EL nw R Post K h S k n pc' L st) : Go Z EL nw R Post K h S k n pc L (.int y :: .int x :: st) := G.icmp hd (fun q => fY (hold_ne.1 q)) (fun q => fN (hold_ne.2 q))
theorem Good.if_ne (G : Good Z a0 EL K own code maxL ret nm) {x : Int32} (hd : Dj code pc (.ifCond .ne) pc' pcY) (fY : ¬ x = 0 → Go Z EL nw R Post K h S k n pcY L st) (fN : x = 0 → Go Z EL nw R Post K h S k n pc' L st) : Go Z EL nw R Post K h S k n pc L (.int x :: st) := G.ifc hd (fun q => fY (hold_ne.1 q)) (fun q => fN (hold_ne.2 q))
theorem Good.ifnullR (G : Good Z a0 EL K own code maxL ret nm) {b : Addr} (hd : Dj code pc .ifnull pc' pcY) (f : Go Z EL nw R Post K h S k n pc' L st) : Go Z EL nw R Post K h S k n pc L (.ref b :: st) := by
  obtain ⟨o, hd, rfl, ho, hp⟩ := hd
  exact Go.plain (fun T t X q => XS.ifnullNo X G.1 rfl (hb G.2.1 hd) rfl q) f
theorem Good.ifnullN (G : Good Z a0 EL K own code maxL ret nm) (hd : Dj code pc .ifnull pc' pcY) (f : Go Z EL nw R Post K h S k n pcY L st) : Go Z EL nw R Post K h S k n pc L (.null :: st) := by
  obtain ⟨o, hd, rfl, ho, hp⟩ := hd
  exact Go.plain (fun T t X q => XS.ifnullYes X G.1 rfl (pc0 := pc) rfl (hb G.2.1 hd) rfl ho hp q) f
theorem Good.ifnonnullR (G : Good Z a0 EL K own code maxL ret nm) {b : Addr} (hd : Dj code pc .ifnonnull pc' pcY) (f : Go Z EL nw R Post K h S k n pcY L st) : Go Z EL nw R Post K h S k n pc L (.ref b :: st) := by
  obtain ⟨o, hd, rfl, ho, hp⟩ := hd
  exact Go.plain (fun T t X q => XS.ifnonnullYes X G.1 rfl (pc0 := pc) rfl (hb G.2.1 hd) rfl ho hp q) f
theorem Good.ifnonnullN (G : Good Z a0 EL K own code maxL ret nm) (hd : Dj code pc .ifnonnull pc' pcY) (f : Go Z EL nw R Post K h S k n pc' L st) : Go Z EL nw R Post K h S k n pc L (.null :: st) := by
  obtain ⟨o, hd, rfl, ho, hp⟩ := hd
  exact Go.plain (fun T t X q => XS.ifnonnullNo X G.1 rfl (hb G.2.1 hd) rfl q) f
theorem Good.acmp_eq (G : Good Z a0 EL K own code maxL ret nm) {x y : Value} (hd : Dj code pc (.if_acmp .eq) pc' pcY) (fY : x = y → Go Z EL nw R Post K h S k n pcY L st) (fN : ¬ x = y → Go Z EL nw R Post K h S k n pc' L st) (hx' : x.isRef = true := by rfl) (hy' : y.isRef = true := by rfl) : Go Z EL nw R Post K h S k n pc L (y :: x :: st) := by
  obtain ⟨o, hd, rfl, ho, hp⟩ := hd
  by_cases z : x = y
  · exact Go.plain (fun T t X q => XT.acmpYes X G.1 rfl (pc0 := pc) rfl (hb G.2.1 hd) rfl hx' hy' (by simp [XT.acmp, z]) ho hp q) (fY z)
  · exact Go.plain (fun T t X q => XT.acmpNo X G.1 rfl (hb G.2.1 hd) rfl hx' hy' (by simp [XT.acmp, z]) q) (fN z)
theorem Good.acmp_ne (G : Good Z a0 EL K own code maxL ret nm) {x y : Value} (hd : Dj code pc (.if_acmp .ne) pc' pcY) (fY : ¬ x = y → Go Z EL nw R Post K h S k n pcY L st) (fN : x = y → Go Z EL nw R Post K h S k n pc' L st) (hx' : x.isRef = true := by rfl) (hy' : y.isRef = true := by rfl) : Go Z EL nw R Post K h S k n pc L (y :: x :: st) := by
  obtain ⟨o, hd, rfl, ho, hp⟩ := hd
  by_cases z : x = y
  · exact Go.plain (fun T t X q => XT.acmpNo X G.1 rfl (hb G.2.1 hd) rfl hx' hy' (by simp [XT.acmp, z]) q) (fN z)
  · exact Go.plain (fun T t X q => XT.acmpYes X G.1 rfl (pc0 := pc) rfl (hb G.2.1 hd) rfl hx' hy' (by simp [XT.acmp, z]) ho hp q) (fY z)
theorem Good.istoreG (G : Good Z a0 EL K own code maxL ret nm) {L' : List Slot} {j : Nat} {x : Int32} (hd : Dc code pc (.istore j) 2 pc') (hl : storeLocals L.toArray j (.int x) = some L'.toArray) (f : Go Z EL nw R Post K h S k n pc' L' st) : Go Z EL nw R Post K h S k n pc L (.int x :: st) := by
  obtain ⟨hd, rfl⟩ := hd
  exact Go.plain (fun T t X q => XS.istore X G.1 rfl (hb G.2.1 hd) rfl hl q) f
theorem Good.istoreNG (G : Good Z a0 EL K own code maxL ret nm) {L' : List Slot} {j : Fin 4} {x : Int32} (hd : Dc code pc (.istore_n j) 1 pc') (hl : storeLocals L.toArray j.val (.int x) = some L'.toArray) (f : Go Z EL nw R Post K h S k n pc' L' st) : Go Z EL nw R Post K h S k n pc L (.int x :: st) := by
  obtain ⟨hd, rfl⟩ := hd
  exact Go.plain (fun T t X q => XS.istoreN X G.1 rfl (hb G.2.1 hd) rfl hl q) f
theorem Good.astoreG (G : Good Z a0 EL K own code maxL ret nm) {L' : List Slot} {j : Nat} {x : Value} (hd : Dc code pc (.astore j) 2 pc') (hv : x.isRef = true) (hl : storeLocals L.toArray j x = some L'.toArray) (f : Go Z EL nw R Post K h S k n pc' L' st) : Go Z EL nw R Post K h S k n pc L (x :: st) := by
  obtain ⟨hd, rfl⟩ := hd
  exact Go.plain (fun T t X q => XS.astore X G.1 rfl (hb G.2.1 hd) rfl hv hl q) f
theorem Good.astoreNG (G : Good Z a0 EL K own code maxL ret nm) {L' : List Slot} {j : Fin 4} {x : Value} (hd : Dc code pc (.astore_n j) 1 pc') (hv : x.isRef = true) (hl : storeLocals L.toArray j.val x = some L'.toArray) (f : Go Z EL nw R Post K h S k n pc' L' st) : Go Z EL nw R Post K h S k n pc L (x :: st) := by
  obtain ⟨hd, rfl⟩ := hd
  exact Go.plain (fun T t X q => XS.astoreN X G.1 rfl (hb G.2.1 hd) rfl hv hl q) f
theorem Good.lstoreG (G : Good Z a0 EL K own code maxL ret nm) {L' : List Slot} {j : Nat} {x : Int64} (hd : Dc code pc (.lstore j) 2 pc') (hl : storeLocals L.toArray j (.long x) = some L'.toArray) (f : Go Z EL nw R Post K h S k n pc' L' st) : Go Z EL nw R Post K h S k n pc L (.long x :: st) := by
  obtain ⟨hd, rfl⟩ := hd
  exact Go.plain (fun T t X q => XS.lstore X G.1 rfl (hb G.2.1 hd) rfl hl q) f
theorem Good.lstoreNG (G : Good Z a0 EL K own code maxL ret nm) {L' : List Slot} {j : Fin 4} {x : Int64} (hd : Dc code pc (.lstore_n j) 1 pc') (hl : storeLocals L.toArray j.val (.long x) = some L'.toArray) (f : Go Z EL nw R Post K h S k n pc' L' st) : Go Z EL nw R Post K h S k n pc L (.long x :: st) := by
  obtain ⟨hd, rfl⟩ := hd
  exact Go.plain (fun T t X q => XS.lstoreN X G.1 rfl (hb G.2.1 hd) rfl hl q) f
theorem Good.iincG (G : Good Z a0 EL K own code maxL ret nm) {L' : List Slot} {j : Nat} {c : Int} {x : Int32} (hd : Dc code pc (.iinc j c) 3 pc') (hx : L[j]? = some (.val (.int x))) (hl : storeLocals L.toArray j (.int (x + Int32.ofInt c)) = some L'.toArray) (f : Go Z EL nw R Post K h S k n pc' L' st) : Go Z EL nw R Post K h S k n pc L st := by
  obtain ⟨hd, rfl⟩ := hd
  exact Go.plain (fun T t X q => XS.iinc X G.1 rfl (hb G.2.1 hd) (by simpa using hx) hl q) f
theorem Good.istore0 (G : Good Z a0 EL K own code maxL ret nm) {x0 : Slot} {r : List Slot} {x : Int32} (hd : Dc code pc (.istore_n 0) 1 pc') (f : Go Z EL nw R Post K h S k n pc' (.val (.int x) :: r) st) (hl : storeLocals (x0 :: r).toArray 0 (.int x) = some (.val (.int x) :: r).toArray := by rfl) : Go Z EL nw R Post K h S k n pc (x0 :: r) (.int x :: st) := G.istoreNG hd hl f
theorem Good.astore0 (G : Good Z a0 EL K own code maxL ret nm) {x0 : Slot} {r : List Slot} {x : Value} (hd : Dc code pc (.astore_n 0) 1 pc') (f : Go Z EL nw R Post K h S k n pc' (.val x :: r) st) (hv : x.isRef = true := by rfl) (hl : storeLocals (x0 :: r).toArray 0 x = some (.val x :: r).toArray := by rfl) : Go Z EL nw R Post K h S k n pc (x0 :: r) (x :: st) := G.astoreNG hd hv hl f
theorem Good.lstore0 (G : Good Z a0 EL K own code maxL ret nm) {x0 y : Slot} {r : List Slot} {x : Int64} (hd : Dc code pc (.lstore_n 0) 1 pc') (f : Go Z EL nw R Post K h S k n pc' (.val (.long x) :: .second :: r) st) (hl : storeLocals (x0 :: y :: r).toArray 0 (.long x) = some (.val (.long x) :: .second :: r).toArray := by rfl) : Go Z EL nw R Post K h S k n pc (x0 :: y :: r) (.long x :: st) := G.lstoreNG hd hl f
theorem Good.iinc0 (G : Good Z a0 EL K own code maxL ret nm) (z : Int32) {r : List Slot} {c : Int} {x : Int32} (hd : Dc code pc (.iinc 0 c) 3 pc') (f : Go Z EL nw R Post K h S k n pc' (.val (.int (x + z)) :: r) st) (hz : Int32.ofInt c = z := by decide) : Go Z EL nw R Post K h S k n pc (.val (.int x) :: r) st := by subst hz; exact G.iincG hd rfl rfl f
theorem Good.istore1 (G : Good Z a0 EL K own code maxL ret nm) {x0 x1 : Slot} {r : List Slot} {x : Int32} (hd : Dc code pc (.istore_n 1) 1 pc') (f : Go Z EL nw R Post K h S k n pc' (x0 :: .val (.int x) :: r) st) (hl : storeLocals (x0 :: x1 :: r).toArray 1 (.int x) = some (x0 :: .val (.int x) :: r).toArray := by rfl) : Go Z EL nw R Post K h S k n pc (x0 :: x1 :: r) (.int x :: st) := G.istoreNG hd hl f
theorem Good.astore1 (G : Good Z a0 EL K own code maxL ret nm) {x0 x1 : Slot} {r : List Slot} {x : Value} (hd : Dc code pc (.astore_n 1) 1 pc') (f : Go Z EL nw R Post K h S k n pc' (x0 :: .val x :: r) st) (hv : x.isRef = true := by rfl) (hl : storeLocals (x0 :: x1 :: r).toArray 1 x = some (x0 :: .val x :: r).toArray := by rfl) : Go Z EL nw R Post K h S k n pc (x0 :: x1 :: r) (x :: st) := G.astoreNG hd hv hl f
theorem Good.lstore1 (G : Good Z a0 EL K own code maxL ret nm) {x0 x1 y : Slot} {r : List Slot} {x : Int64} (hd : Dc code pc (.lstore_n 1) 1 pc') (f : Go Z EL nw R Post K h S k n pc' (x0 :: .val (.long x) :: .second :: r) st) (hl : storeLocals (x0 :: x1 :: y :: r).toArray 1 (.long x) = some (x0 :: .val (.long x) :: .second :: r).toArray := by rfl) : Go Z EL nw R Post K h S k n pc (x0 :: x1 :: y :: r) (.long x :: st) := G.lstoreNG hd hl f
theorem Good.iinc1 (G : Good Z a0 EL K own code maxL ret nm) (z : Int32) {x0 : Slot} {r : List Slot} {c : Int} {x : Int32} (hd : Dc code pc (.iinc 1 c) 3 pc') (f : Go Z EL nw R Post K h S k n pc' (x0 :: .val (.int (x + z)) :: r) st) (hz : Int32.ofInt c = z := by decide) : Go Z EL nw R Post K h S k n pc (x0 :: .val (.int x) :: r) st := by subst hz; exact G.iincG hd rfl rfl f
theorem Good.istore2 (G : Good Z a0 EL K own code maxL ret nm) {x0 x1 x2 : Slot} {r : List Slot} {x : Int32} (hd : Dc code pc (.istore_n 2) 1 pc') (f : Go Z EL nw R Post K h S k n pc' (x0 :: x1 :: .val (.int x) :: r) st) (hl : storeLocals (x0 :: x1 :: x2 :: r).toArray 2 (.int x) = some (x0 :: x1 :: .val (.int x) :: r).toArray := by rfl) : Go Z EL nw R Post K h S k n pc (x0 :: x1 :: x2 :: r) (.int x :: st) := G.istoreNG hd hl f
theorem Good.astore2 (G : Good Z a0 EL K own code maxL ret nm) {x0 x1 x2 : Slot} {r : List Slot} {x : Value} (hd : Dc code pc (.astore_n 2) 1 pc') (f : Go Z EL nw R Post K h S k n pc' (x0 :: x1 :: .val x :: r) st) (hv : x.isRef = true := by rfl) (hl : storeLocals (x0 :: x1 :: x2 :: r).toArray 2 x = some (x0 :: x1 :: .val x :: r).toArray := by rfl) : Go Z EL nw R Post K h S k n pc (x0 :: x1 :: x2 :: r) (x :: st) := G.astoreNG hd hv hl f
theorem Good.lstore2 (G : Good Z a0 EL K own code maxL ret nm) {x0 x1 x2 y : Slot} {r : List Slot} {x : Int64} (hd : Dc code pc (.lstore_n 2) 1 pc') (f : Go Z EL nw R Post K h S k n pc' (x0 :: x1 :: .val (.long x) :: .second :: r) st) (hl : storeLocals (x0 :: x1 :: x2 :: y :: r).toArray 2 (.long x) = some (x0 :: x1 :: .val (.long x) :: .second :: r).toArray := by rfl) : Go Z EL nw R Post K h S k n pc (x0 :: x1 :: x2 :: y :: r) (.long x :: st) := G.lstoreNG hd hl f
theorem Good.iinc2 (G : Good Z a0 EL K own code maxL ret nm) (z : Int32) {x0 x1 : Slot} {r : List Slot} {c : Int} {x : Int32} (hd : Dc code pc (.iinc 2 c) 3 pc') (f : Go Z EL nw R Post K h S k n pc' (x0 :: x1 :: .val (.int (x + z)) :: r) st) (hz : Int32.ofInt c = z := by decide) : Go Z EL nw R Post K h S k n pc (x0 :: x1 :: .val (.int x) :: r) st := by subst hz; exact G.iincG hd rfl rfl f
theorem Good.istore3 (G : Good Z a0 EL K own code maxL ret nm) {x0 x1 x2 x3 : Slot} {r : List Slot} {x : Int32} (hd : Dc code pc (.istore_n 3) 1 pc') (f : Go Z EL nw R Post K h S k n pc' (x0 :: x1 :: x2 :: .val (.int x) :: r) st) (hl : storeLocals (x0 :: x1 :: x2 :: x3 :: r).toArray 3 (.int x) = some (x0 :: x1 :: x2 :: .val (.int x) :: r).toArray := by rfl) : Go Z EL nw R Post K h S k n pc (x0 :: x1 :: x2 :: x3 :: r) (.int x :: st) := G.istoreNG hd hl f
theorem Good.astore3 (G : Good Z a0 EL K own code maxL ret nm) {x0 x1 x2 x3 : Slot} {r : List Slot} {x : Value} (hd : Dc code pc (.astore_n 3) 1 pc') (f : Go Z EL nw R Post K h S k n pc' (x0 :: x1 :: x2 :: .val x :: r) st) (hv : x.isRef = true := by rfl) (hl : storeLocals (x0 :: x1 :: x2 :: x3 :: r).toArray 3 x = some (x0 :: x1 :: x2 :: .val x :: r).toArray := by rfl) : Go Z EL nw R Post K h S k n pc (x0 :: x1 :: x2 :: x3 :: r) (x :: st) := G.astoreNG hd hv hl f
theorem Good.lstore3 (G : Good Z a0 EL K own code maxL ret nm) {x0 x1 x2 x3 y : Slot} {r : List Slot} {x : Int64} (hd : Dc code pc (.lstore_n 3) 1 pc') (f : Go Z EL nw R Post K h S k n pc' (x0 :: x1 :: x2 :: .val (.long x) :: .second :: r) st) (hl : storeLocals (x0 :: x1 :: x2 :: x3 :: y :: r).toArray 3 (.long x) = some (x0 :: x1 :: x2 :: .val (.long x) :: .second :: r).toArray := by rfl) : Go Z EL nw R Post K h S k n pc (x0 :: x1 :: x2 :: x3 :: y :: r) (.long x :: st) := G.lstoreNG hd hl f
theorem Good.iinc3 (G : Good Z a0 EL K own code maxL ret nm) (z : Int32) {x0 x1 x2 : Slot} {r : List Slot} {c : Int} {x : Int32} (hd : Dc code pc (.iinc 3 c) 3 pc') (f : Go Z EL nw R Post K h S k n pc' (x0 :: x1 :: x2 :: .val (.int (x + z)) :: r) st) (hz : Int32.ofInt c = z := by decide) : Go Z EL nw R Post K h S k n pc (x0 :: x1 :: x2 :: .val (.int x) :: r) st := by subst hz; exact G.iincG hd rfl rfl f
theorem Good.istore4 (G : Good Z a0 EL K own code maxL ret nm) {x0 x1 x2 x3 x4 : Slot} {r : List Slot} {x : Int32} (hd : Dc code pc (.istore 4) 2 pc') (f : Go Z EL nw R Post K h S k n pc' (x0 :: x1 :: x2 :: x3 :: .val (.int x) :: r) st) (hl : storeLocals (x0 :: x1 :: x2 :: x3 :: x4 :: r).toArray 4 (.int x) = some (x0 :: x1 :: x2 :: x3 :: .val (.int x) :: r).toArray := by rfl) : Go Z EL nw R Post K h S k n pc (x0 :: x1 :: x2 :: x3 :: x4 :: r) (.int x :: st) := G.istoreG hd hl f
theorem Good.astore4 (G : Good Z a0 EL K own code maxL ret nm) {x0 x1 x2 x3 x4 : Slot} {r : List Slot} {x : Value} (hd : Dc code pc (.astore 4) 2 pc') (f : Go Z EL nw R Post K h S k n pc' (x0 :: x1 :: x2 :: x3 :: .val x :: r) st) (hv : x.isRef = true := by rfl) (hl : storeLocals (x0 :: x1 :: x2 :: x3 :: x4 :: r).toArray 4 x = some (x0 :: x1 :: x2 :: x3 :: .val x :: r).toArray := by rfl) : Go Z EL nw R Post K h S k n pc (x0 :: x1 :: x2 :: x3 :: x4 :: r) (x :: st) := G.astoreG hd hv hl f
theorem Good.lstore4 (G : Good Z a0 EL K own code maxL ret nm) {x0 x1 x2 x3 x4 y : Slot} {r : List Slot} {x : Int64} (hd : Dc code pc (.lstore 4) 2 pc') (f : Go Z EL nw R Post K h S k n pc' (x0 :: x1 :: x2 :: x3 :: .val (.long x) :: .second :: r) st) (hl : storeLocals (x0 :: x1 :: x2 :: x3 :: x4 :: y :: r).toArray 4 (.long x) = some (x0 :: x1 :: x2 :: x3 :: .val (.long x) :: .second :: r).toArray := by rfl) : Go Z EL nw R Post K h S k n pc (x0 :: x1 :: x2 :: x3 :: x4 :: y :: r) (.long x :: st) := G.lstoreG hd hl f
theorem Good.iinc4 (G : Good Z a0 EL K own code maxL ret nm) (z : Int32) {x0 x1 x2 x3 : Slot} {r : List Slot} {c : Int} {x : Int32} (hd : Dc code pc (.iinc 4 c) 3 pc') (f : Go Z EL nw R Post K h S k n pc' (x0 :: x1 :: x2 :: x3 :: .val (.int (x + z)) :: r) st) (hz : Int32.ofInt c = z := by decide) : Go Z EL nw R Post K h S k n pc (x0 :: x1 :: x2 :: x3 :: .val (.int x) :: r) st := by subst hz; exact G.iincG hd rfl rfl f
theorem Good.istore5 (G : Good Z a0 EL K own code maxL ret nm) {x0 x1 x2 x3 x4 x5 : Slot} {r : List Slot} {x : Int32} (hd : Dc code pc (.istore 5) 2 pc') (f : Go Z EL nw R Post K h S k n pc' (x0 :: x1 :: x2 :: x3 :: x4 :: .val (.int x) :: r) st) (hl : storeLocals (x0 :: x1 :: x2 :: x3 :: x4 :: x5 :: r).toArray 5 (.int x) = some (x0 :: x1 :: x2 :: x3 :: x4 :: .val (.int x) :: r).toArray := by rfl) : Go Z EL nw R Post K h S k n pc (x0 :: x1 :: x2 :: x3 :: x4 :: x5 :: r) (.int x :: st) := G.istoreG hd hl f
theorem Good.astore5 (G : Good Z a0 EL K own code maxL ret nm) {x0 x1 x2 x3 x4 x5 : Slot} {r : List Slot} {x : Value} (hd : Dc code pc (.astore 5) 2 pc') (f : Go Z EL nw R Post K h S k n pc' (x0 :: x1 :: x2 :: x3 :: x4 :: .val x :: r) st) (hv : x.isRef = true := by rfl) (hl : storeLocals (x0 :: x1 :: x2 :: x3 :: x4 :: x5 :: r).toArray 5 x = some (x0 :: x1 :: x2 :: x3 :: x4 :: .val x :: r).toArray := by rfl) : Go Z EL nw R Post K h S k n pc (x0 :: x1 :: x2 :: x3 :: x4 :: x5 :: r) (x :: st) := G.astoreG hd hv hl f
theorem Good.lstore5 (G : Good Z a0 EL K own code maxL ret nm) {x0 x1 x2 x3 x4 x5 y : Slot} {r : List Slot} {x : Int64} (hd : Dc code pc (.lstore 5) 2 pc') (f : Go Z EL nw R Post K h S k n pc' (x0 :: x1 :: x2 :: x3 :: x4 :: .val (.long x) :: .second :: r) st) (hl : storeLocals (x0 :: x1 :: x2 :: x3 :: x4 :: x5 :: y :: r).toArray 5 (.long x) = some (x0 :: x1 :: x2 :: x3 :: x4 :: .val (.long x) :: .second :: r).toArray := by rfl) : Go Z EL nw R Post K h S k n pc (x0 :: x1 :: x2 :: x3 :: x4 :: x5 :: y :: r) (.long x :: st) := G.lstoreG hd hl f
theorem Good.iinc5 (G : Good Z a0 EL K own code maxL ret nm) (z : Int32) {x0 x1 x2 x3 x4 : Slot} {r : List Slot} {c : Int} {x : Int32} (hd : Dc code pc (.iinc 5 c) 3 pc') (f : Go Z EL nw R Post K h S k n pc' (x0 :: x1 :: x2 :: x3 :: x4 :: .val (.int (x + z)) :: r) st) (hz : Int32.ofInt c = z := by decide) : Go Z EL nw R Post K h S k n pc (x0 :: x1 :: x2 :: x3 :: x4 :: .val (.int x) :: r) st := by subst hz; exact G.iincG hd rfl rfl f
theorem Good.istore6 (G : Good Z a0 EL K own code maxL ret nm) {x0 x1 x2 x3 x4 x5 x6 : Slot} {r : List Slot} {x : Int32} (hd : Dc code pc (.istore 6) 2 pc') (f : Go Z EL nw R Post K h S k n pc' (x0 :: x1 :: x2 :: x3 :: x4 :: x5 :: .val (.int x) :: r) st) (hl : storeLocals (x0 :: x1 :: x2 :: x3 :: x4 :: x5 :: x6 :: r).toArray 6 (.int x) = some (x0 :: x1 :: x2 :: x3 :: x4 :: x5 :: .val (.int x) :: r).toArray := by rfl) : Go Z EL nw R Post K h S k n pc (x0 :: x1 :: x2 :: x3 :: x4 :: x5 :: x6 :: r) (.int x :: st) := G.istoreG hd hl f
theorem Good.astore6 (G : Good Z a0 EL K own code maxL ret nm) {x0 x1 x2 x3 x4 x5 x6 : Slot} {r : List Slot} {x : Value} (hd : Dc code pc (.astore 6) 2 pc') (f : Go Z EL nw R Post K h S k n pc' (x0 :: x1 :: x2 :: x3 :: x4 :: x5 :: .val x :: r) st) (hv : x.isRef = true := by rfl) (hl : storeLocals (x0 :: x1 :: x2 :: x3 :: x4 :: x5 :: x6 :: r).toArray 6 x = some (x0 :: x1 :: x2 :: x3 :: x4 :: x5 :: .val x :: r).toArray := by rfl) : Go Z EL nw R Post K h S k n pc (x0 :: x1 :: x2 :: x3 :: x4 :: x5 :: x6 :: r) (x :: st) := G.astoreG hd hv hl f
theorem Good.lstore6 (G : Good Z a0 EL K own code maxL ret nm) {x0 x1 x2 x3 x4 x5 x6 y : Slot} {r : List Slot} {x : Int64} (hd : Dc code pc (.lstore 6) 2 pc') (f : Go Z EL nw R Post K h S k n pc' (x0 :: x1 :: x2 :: x3 :: x4 :: x5 :: .val (.long x) :: .second :: r) st) (hl : storeLocals (x0 :: x1 :: x2 :: x3 :: x4 :: x5 :: x6 :: y :: r).toArray 6 (.long x) = some (x0 :: x1 :: x2 :: x3 :: x4 :: x5 :: .val (.long x) :: .second :: r).toArray := by rfl) : Go Z EL nw R Post K h S k n pc (x0 :: x1 :: x2 :: x3 :: x4 :: x5 :: x6 :: y :: r) (.long x :: st) := G.lstoreG hd hl f
theorem Good.iinc6 (G : Good Z a0 EL K own code maxL ret nm) (z : Int32) {x0 x1 x2 x3 x4 x5 : Slot} {r : List Slot} {c : Int} {x : Int32} (hd : Dc code pc (.iinc 6 c) 3 pc') (f : Go Z EL nw R Post K h S k n pc' (x0 :: x1 :: x2 :: x3 :: x4 :: x5 :: .val (.int (x + z)) :: r) st) (hz : Int32.ofInt c = z := by decide) : Go Z EL nw R Post K h S k n pc (x0 :: x1 :: x2 :: x3 :: x4 :: x5 :: .val (.int x) :: r) st := by subst hz; exact G.iincG hd rfl rfl f
theorem Good.istore7 (G : Good Z a0 EL K own code maxL ret nm) {x0 x1 x2 x3 x4 x5 x6 x7 : Slot} {r : List Slot} {x : Int32} (hd : Dc code pc (.istore 7) 2 pc') (f : Go Z EL nw R Post K h S k n pc' (x0 :: x1 :: x2 :: x3 :: x4 :: x5 :: x6 :: .val (.int x) :: r) st) (hl : storeLocals (x0 :: x1 :: x2 :: x3 :: x4 :: x5 :: x6 :: x7 :: r).toArray 7 (.int x) = some (x0 :: x1 :: x2 :: x3 :: x4 :: x5 :: x6 :: .val (.int x) :: r).toArray := by rfl) : Go Z EL nw R Post K h S k n pc (x0 :: x1 :: x2 :: x3 :: x4 :: x5 :: x6 :: x7 :: r) (.int x :: st) := G.istoreG hd hl f
theorem Good.astore7 (G : Good Z a0 EL K own code maxL ret nm) {x0 x1 x2 x3 x4 x5 x6 x7 : Slot} {r : List Slot} {x : Value} (hd : Dc code pc (.astore 7) 2 pc') (f : Go Z EL nw R Post K h S k n pc' (x0 :: x1 :: x2 :: x3 :: x4 :: x5 :: x6 :: .val x :: r) st) (hv : x.isRef = true := by rfl) (hl : storeLocals (x0 :: x1 :: x2 :: x3 :: x4 :: x5 :: x6 :: x7 :: r).toArray 7 x = some (x0 :: x1 :: x2 :: x3 :: x4 :: x5 :: x6 :: .val x :: r).toArray := by rfl) : Go Z EL nw R Post K h S k n pc (x0 :: x1 :: x2 :: x3 :: x4 :: x5 :: x6 :: x7 :: r) (x :: st) := G.astoreG hd hv hl f
theorem Good.lstore7 (G : Good Z a0 EL K own code maxL ret nm) {x0 x1 x2 x3 x4 x5 x6 x7 y : Slot} {r : List Slot} {x : Int64} (hd : Dc code pc (.lstore 7) 2 pc') (f : Go Z EL nw R Post K h S k n pc' (x0 :: x1 :: x2 :: x3 :: x4 :: x5 :: x6 :: .val (.long x) :: .second :: r) st) (hl : storeLocals (x0 :: x1 :: x2 :: x3 :: x4 :: x5 :: x6 :: x7 :: y :: r).toArray 7 (.long x) = some (x0 :: x1 :: x2 :: x3 :: x4 :: x5 :: x6 :: .val (.long x) :: .second :: r).toArray := by rfl) : Go Z EL nw R Post K h S k n pc (x0 :: x1 :: x2 :: x3 :: x4 :: x5 :: x6 :: x7 :: y :: r) (.long x :: st) := G.lstoreG hd hl f
theorem Good.iinc7 (G : Good Z a0 EL K own code maxL ret nm) (z : Int32) {x0 x1 x2 x3 x4 x5 x6 : Slot} {r : List Slot} {c : Int} {x : Int32} (hd : Dc code pc (.iinc 7 c) 3 pc') (f : Go Z EL nw R Post K h S k n pc' (x0 :: x1 :: x2 :: x3 :: x4 :: x5 :: x6 :: .val (.int (x + z)) :: r) st) (hz : Int32.ofInt c = z := by decide) : Go Z EL nw R Post K h S k n pc (x0 :: x1 :: x2 :: x3 :: x4 :: x5 :: x6 :: .val (.int x) :: r) st := by subst hz; exact G.iincG hd rfl rfl f
theorem Good.istore8 (G : Good Z a0 EL K own code maxL ret nm) {x0 x1 x2 x3 x4 x5 x6 x7 x8 : Slot} {r : List Slot} {x : Int32} (hd : Dc code pc (.istore 8) 2 pc') (f : Go Z EL nw R Post K h S k n pc' (x0 :: x1 :: x2 :: x3 :: x4 :: x5 :: x6 :: x7 :: .val (.int x) :: r) st) (hl : storeLocals (x0 :: x1 :: x2 :: x3 :: x4 :: x5 :: x6 :: x7 :: x8 :: r).toArray 8 (.int x) = some (x0 :: x1 :: x2 :: x3 :: x4 :: x5 :: x6 :: x7 :: .val (.int x) :: r).toArray := by rfl) : Go Z EL nw R Post K h S k n pc (x0 :: x1 :: x2 :: x3 :: x4 :: x5 :: x6 :: x7 :: x8 :: r) (.int x :: st) := G.istoreG hd hl f
theorem Good.astore8 (G : Good Z a0 EL K own code maxL ret nm) {x0 x1 x2 x3 x4 x5 x6 x7 x8 : Slot} {r : List Slot} {x : Value} (hd : Dc code pc (.astore 8) 2 pc') (f : Go Z EL nw R Post K h S k n pc' (x0 :: x1 :: x2 :: x3 :: x4 :: x5 :: x6 :: x7 :: .val x :: r) st) (hv : x.isRef = true := by rfl) (hl : storeLocals (x0 :: x1 :: x2 :: x3 :: x4 :: x5 :: x6 :: x7 :: x8 :: r).toArray 8 x = some (x0 :: x1 :: x2 :: x3 :: x4 :: x5 :: x6 :: x7 :: .val x :: r).toArray := by rfl) : Go Z EL nw R Post K h S k n pc (x0 :: x1 :: x2 :: x3 :: x4 :: x5 :: x6 :: x7 :: x8 :: r) (x :: st) := G.astoreG hd hv hl f
theorem Good.lstore8 (G : Good Z a0 EL K own code maxL ret nm) {x0 x1 x2 x3 x4 x5 x6 x7 x8 y : Slot} {r : List Slot} {x : Int64} (hd : Dc code pc (.lstore 8) 2 pc') (f : Go Z EL nw R Post K h S k n pc' (x0 :: x1 :: x2 :: x3 :: x4 :: x5 :: x6 :: x7 :: .val (.long x) :: .second :: r) st) (hl : storeLocals (x0 :: x1 :: x2 :: x3 :: x4 :: x5 :: x6 :: x7 :: x8 :: y :: r).toArray 8 (.long x) = some (x0 :: x1 :: x2 :: x3 :: x4 :: x5 :: x6 :: x7 :: .val (.long x) :: .second :: r).toArray := by rfl) : Go Z EL nw R Post K h S k n pc (x0 :: x1 :: x2 :: x3 :: x4 :: x5 :: x6 :: x7 :: x8 :: y :: r) (.long x :: st) := G.lstoreG hd hl f
theorem Good.iinc8 (G : Good Z a0 EL K own code maxL ret nm) (z : Int32) {x0 x1 x2 x3 x4 x5 x6 x7 : Slot} {r : List Slot} {c : Int} {x : Int32} (hd : Dc code pc (.iinc 8 c) 3 pc') (f : Go Z EL nw R Post K h S k n pc' (x0 :: x1 :: x2 :: x3 :: x4 :: x5 :: x6 :: x7 :: .val (.int (x + z)) :: r) st) (hz : Int32.ofInt c = z := by decide) : Go Z EL nw R Post K h S k n pc (x0 :: x1 :: x2 :: x3 :: x4 :: x5 :: x6 :: x7 :: .val (.int x) :: r) st := by subst hz; exact G.iincG hd rfl rfl f
theorem Good.istore9 (G : Good Z a0 EL K own code maxL ret nm) {x0 x1 x2 x3 x4 x5 x6 x7 x8 x9 : Slot} {r : List Slot} {x : Int32} (hd : Dc code pc (.istore 9) 2 pc') (f : Go Z EL nw R Post K h S k n pc' (x0 :: x1 :: x2 :: x3 :: x4 :: x5 :: x6 :: x7 :: x8 :: .val (.int x) :: r) st) (hl : storeLocals (x0 :: x1 :: x2 :: x3 :: x4 :: x5 :: x6 :: x7 :: x8 :: x9 :: r).toArray 9 (.int x) = some (x0 :: x1 :: x2 :: x3 :: x4 :: x5 :: x6 :: x7 :: x8 :: .val (.int x) :: r).toArray := by rfl) : Go Z EL nw R Post K h S k n pc (x0 :: x1 :: x2 :: x3 :: x4 :: x5 :: x6 :: x7 :: x8 :: x9 :: r) (.int x :: st) := G.istoreG hd hl f
theorem Good.astore9 (G : Good Z a0 EL K own code maxL ret nm) {x0 x1 x2 x3 x4 x5 x6 x7 x8 x9 : Slot} {r : List Slot} {x : Value} (hd : Dc code pc (.astore 9) 2 pc') (f : Go Z EL nw R Post K h S k n pc' (x0 :: x1 :: x2 :: x3 :: x4 :: x5 :: x6 :: x7 :: x8 :: .val x :: r) st) (hv : x.isRef = true := by rfl) (hl : storeLocals (x0 :: x1 :: x2 :: x3 :: x4 :: x5 :: x6 :: x7 :: x8 :: x9 :: r).toArray 9 x = some (x0 :: x1 :: x2 :: x3 :: x4 :: x5 :: x6 :: x7 :: x8 :: .val x :: r).toArray := by rfl) : Go Z EL nw R Post K h S k n pc (x0 :: x1 :: x2 :: x3 :: x4 :: x5 :: x6 :: x7 :: x8 :: x9 :: r) (x :: st) := G.astoreG hd hv hl f
theorem Good.lstore9 (G : Good Z a0 EL K own code maxL ret nm) {x0 x1 x2 x3 x4 x5 x6 x7 x8 x9 y : Slot} {r : List Slot} {x : Int64} (hd : Dc code pc (.lstore 9) 2 pc') (f : Go Z EL nw R Post K h S k n pc' (x0 :: x1 :: x2 :: x3 :: x4 :: x5 :: x6 :: x7 :: x8 :: .val (.long x) :: .second :: r) st) (hl : storeLocals (x0 :: x1 :: x2 :: x3 :: x4 :: x5 :: x6 :: x7 :: x8 :: x9 :: y :: r).toArray 9 (.long x) = some (x0 :: x1 :: x2 :: x3 :: x4 :: x5 :: x6 :: x7 :: x8 :: .val (.long x) :: .second :: r).toArray := by rfl) : Go Z EL nw R Post K h S k n pc (x0 :: x1 :: x2 :: x3 :: x4 :: x5 :: x6 :: x7 :: x8 :: x9 :: y :: r) (.long x :: st) := G.lstoreG hd hl f
theorem Good.iinc9 (G : Good Z a0 EL K own code maxL ret nm) (z : Int32) {x0 x1 x2 x3 x4 x5 x6 x7 x8 : Slot} {r : List Slot} {c : Int} {x : Int32} (hd : Dc code pc (.iinc 9 c) 3 pc') (f : Go Z EL nw R Post K h S k n pc' (x0 :: x1 :: x2 :: x3 :: x4 :: x5 :: x6 :: x7 :: x8 :: .val (.int (x + z)) :: r) st) (hz : Int32.ofInt c = z := by decide) : Go Z EL nw R Post K h S k n pc (x0 :: x1 :: x2 :: x3 :: x4 :: x5 :: x6 :: x7 :: x8 :: .val (.int x) :: r) st := by subst hz; exact G.iincG hd rfl rfl f
theorem Good.istore10 (G : Good Z a0 EL K own code maxL ret nm) {x0 x1 x2 x3 x4 x5 x6 x7 x8 x9 x10 : Slot} {r : List Slot} {x : Int32} (hd : Dc code pc (.istore 10) 2 pc') (f : Go Z EL nw R Post K h S k n pc' (x0 :: x1 :: x2 :: x3 :: x4 :: x5 :: x6 :: x7 :: x8 :: x9 :: .val (.int x) :: r) st) (hl : storeLocals (x0 :: x1 :: x2 :: x3 :: x4 :: x5 :: x6 :: x7 :: x8 :: x9 :: x10 :: r).toArray 10 (.int x) = some (x0 :: x1 :: x2 :: x3 :: x4 :: x5 :: x6 :: x7 :: x8 :: x9 :: .val (.int x) :: r).toArray := by rfl) : Go Z EL nw R Post K h S k n pc (x0 :: x1 :: x2 :: x3 :: x4 :: x5 :: x6 :: x7 :: x8 :: x9 :: x10 :: r) (.int x :: st) := G.istoreG hd hl f
theorem Good.astore10 (G : Good Z a0 EL K own code maxL ret nm) {x0 x1 x2 x3 x4 x5 x6 x7 x8 x9 x10 : Slot} {r : List Slot} {x : Value} (hd : Dc code pc (.astore 10) 2 pc') (f : Go Z EL nw R Post K h S k n pc' (x0 :: x1 :: x2 :: x3 :: x4 :: x5 :: x6 :: x7 :: x8 :: x9 :: .val x :: r) st) (hv : x.isRef = true := by rfl) (hl : storeLocals (x0 :: x1 :: x2 :: x3 :: x4 :: x5 :: x6 :: x7 :: x8 :: x9 :: x10 :: r).toArray 10 x = some (x0 :: x1 :: x2 :: x3 :: x4 :: x5 :: x6 :: x7 :: x8 :: x9 :: .val x :: r).toArray := by rfl) : Go Z EL nw R Post K h S k n pc (x0 :: x1 :: x2 :: x3 :: x4 :: x5 :: x6 :: x7 :: x8 :: x9 :: x10 :: r) (x :: st) := G.astoreG hd hv hl f
theorem Good.lstore10 (G : Good Z a0 EL K own code maxL ret nm) {x0 x1 x2 x3 x4 x5 x6 x7 x8 x9 x10 y : Slot} {r : List Slot} {x : Int64} (hd : Dc code pc (.lstore 10) 2 pc') (f : Go Z EL nw R Post K h S k n pc' (x0 :: x1 :: x2 :: x3 :: x4 :: x5 :: x6 :: x7 :: x8 :: x9 :: .val (.long x) :: .second :: r) st) (hl : storeLocals (x0 :: x1 :: x2 :: x3 :: x4 :: x5 :: x6 :: x7 :: x8 :: x9 :: x10 :: y :: r).toArray 10 (.long x) = some (x0 :: x1 :: x2 :: x3 :: x4 :: x5 :: x6 :: x7 :: x8 :: x9 :: .val (.long x) :: .second :: r).toArray := by rfl) : Go Z EL nw R Post K h S k n pc (x0 :: x1 :: x2 :: x3 :: x4 :: x5 :: x6 :: x7 :: x8 :: x9 :: x10 :: y :: r) (.long x :: st) := G.lstoreG hd hl f
theorem Good.iinc10 (G : Good Z a0 EL K own code maxL ret nm) (z : Int32) {x0 x1 x2 x3 x4 x5 x6 x7 x8 x9 : Slot} {r : List Slot} {c : Int} {x : Int32} (hd : Dc code pc (.iinc 10 c) 3 pc') (f : Go Z EL nw R Post K h S k n pc' (x0 :: x1 :: x2 :: x3 :: x4 :: x5 :: x6 :: x7 :: x8 :: x9 :: .val (.int (x + z)) :: r) st) (hz : Int32.ofInt c = z := by decide) : Go Z EL nw R Post K h S k n pc (x0 :: x1 :: x2 :: x3 :: x4 :: x5 :: x6 :: x7 :: x8 :: x9 :: .val (.int x) :: r) st := by subst hz; exact G.iincG hd rfl rfl f
theorem Good.istore11 (G : Good Z a0 EL K own code maxL ret nm) {x0 x1 x2 x3 x4 x5 x6 x7 x8 x9 x10 x11 : Slot} {r : List Slot} {x : Int32} (hd : Dc code pc (.istore 11) 2 pc') (f : Go Z EL nw R Post K h S k n pc' (x0 :: x1 :: x2 :: x3 :: x4 :: x5 :: x6 :: x7 :: x8 :: x9 :: x10 :: .val (.int x) :: r) st) (hl : storeLocals (x0 :: x1 :: x2 :: x3 :: x4 :: x5 :: x6 :: x7 :: x8 :: x9 :: x10 :: x11 :: r).toArray 11 (.int x) = some (x0 :: x1 :: x2 :: x3 :: x4 :: x5 :: x6 :: x7 :: x8 :: x9 :: x10 :: .val (.int x) :: r).toArray := by rfl) : Go Z EL nw R Post K h S k n pc (x0 :: x1 :: x2 :: x3 :: x4 :: x5 :: x6 :: x7 :: x8 :: x9 :: x10 :: x11 :: r) (.int x :: st) := G.istoreG hd hl f
theorem Good.astore11 (G : Good Z a0 EL K own code maxL ret nm) {x0 x1 x2 x3 x4 x5 x6 x7 x8 x9 x10 x11 : Slot} {r : List Slot} {x : Value} (hd : Dc code pc (.astore 11) 2 pc') (f : Go Z EL nw R Post K h S k n pc' (x0 :: x1 :: x2 :: x3 :: x4 :: x5 :: x6 :: x7 :: x8 :: x9 :: x10 :: .val x :: r) st) (hv : x.isRef = true := by rfl) (hl : storeLocals (x0 :: x1 :: x2 :: x3 :: x4 :: x5 :: x6 :: x7 :: x8 :: x9 :: x10 :: x11 :: r).toArray 11 x = some (x0 :: x1 :: x2 :: x3 :: x4 :: x5 :: x6 :: x7 :: x8 :: x9 :: x10 :: .val x :: r).toArray := by rfl) : Go Z EL nw R Post K h S k n pc (x0 :: x1 :: x2 :: x3 :: x4 :: x5 :: x6 :: x7 :: x8 :: x9 :: x10 :: x11 :: r) (x :: st) := G.astoreG hd hv hl f
theorem Good.lstore11 (G : Good Z a0 EL K own code maxL ret nm) {x0 x1 x2 x3 x4 x5 x6 x7 x8 x9 x10 x11 y : Slot} {r : List Slot} {x : Int64} (hd : Dc code pc (.lstore 11) 2 pc') (f : Go Z EL nw R Post K h S k n pc' (x0 :: x1 :: x2 :: x3 :: x4 :: x5 :: x6 :: x7 :: x8 :: x9 :: x10 :: .val (.long x) :: .second :: r) st) (hl : storeLocals (x0 :: x1 :: x2 :: x3 :: x4 :: x5 :: x6 :: x7 :: x8 :: x9 :: x10 :: x11 :: y :: r).toArray 11 (.long x) = some (x0 :: x1 :: x2 :: x3 :: x4 :: x5 :: x6 :: x7 :: x8 :: x9 :: x10 :: .val (.long x) :: .second :: r).toArray := by rfl) : Go Z EL nw R Post K h S k n pc (x0 :: x1 :: x2 :: x3 :: x4 :: x5 :: x6 :: x7 :: x8 :: x9 :: x10 :: x11 :: y :: r) (.long x :: st) := G.lstoreG hd hl f
theorem Good.iinc11 (G : Good Z a0 EL K own code maxL ret nm) (z : Int32) {x0 x1 x2 x3 x4 x5 x6 x7 x8 x9 x10 : Slot} {r : List Slot} {c : Int} {x : Int32} (hd : Dc code pc (.iinc 11 c) 3 pc') (f : Go Z EL nw R Post K h S k n pc' (x0 :: x1 :: x2 :: x3 :: x4 :: x5 :: x6 :: x7 :: x8 :: x9 :: x10 :: .val (.int (x + z)) :: r) st) (hz : Int32.ofInt c = z := by decide) : Go Z EL nw R Post K h S k n pc (x0 :: x1 :: x2 :: x3 :: x4 :: x5 :: x6 :: x7 :: x8 :: x9 :: x10 :: .val (.int x) :: r) st := by subst hz; exact G.iincG hd rfl rfl f
theorem Good.istore12 (G : Good Z a0 EL K own code maxL ret nm) {x0 x1 x2 x3 x4 x5 x6 x7 x8 x9 x10 x11 x12 : Slot} {r : List Slot} {x : Int32} (hd : Dc code pc (.istore 12) 2 pc') (f : Go Z EL nw R Post K h S k n pc' (x0 :: x1 :: x2 :: x3 :: x4 :: x5 :: x6 :: x7 :: x8 :: x9 :: x10 :: x11 :: .val (.int x) :: r) st) (hl : storeLocals (x0 :: x1 :: x2 :: x3 :: x4 :: x5 :: x6 :: x7 :: x8 :: x9 :: x10 :: x11 :: x12 :: r).toArray 12 (.int x) = some (x0 :: x1 :: x2 :: x3 :: x4 :: x5 :: x6 :: x7 :: x8 :: x9 :: x10 :: x11 :: .val (.int x) :: r).toArray := by rfl) : Go Z EL nw R Post K h S k n pc (x0 :: x1 :: x2 :: x3 :: x4 :: x5 :: x6 :: x7 :: x8 :: x9 :: x10 :: x11 :: x12 :: r) (.int x :: st) := G.istoreG hd hl f
theorem Good.astore12 (G : Good Z a0 EL K own code maxL ret nm) {x0 x1 x2 x3 x4 x5 x6 x7 x8 x9 x10 x11 x12 : Slot} {r : List Slot} {x : Value} (hd : Dc code pc (.astore 12) 2 pc') (f : Go Z EL nw R Post K h S k n pc' (x0 :: x1 :: x2 :: x3 :: x4 :: x5 :: x6 :: x7 :: x8 :: x9 :: x10 :: x11 :: .val x :: r) st) (hv : x.isRef = true := by rfl) (hl : storeLocals (x0 :: x1 :: x2 :: x3 :: x4 :: x5 :: x6 :: x7 :: x8 :: x9 :: x10 :: x11 :: x12 :: r).toArray 12 x = some (x0 :: x1 :: x2 :: x3 :: x4 :: x5 :: x6 :: x7 :: x8 :: x9 :: x10 :: x11 :: .val x :: r).toArray := by rfl) : Go Z EL nw R Post K h S k n pc (x0 :: x1 :: x2 :: x3 :: x4 :: x5 :: x6 :: x7 :: x8 :: x9 :: x10 :: x11 :: x12 :: r) (x :: st) := G.astoreG hd hv hl f
theorem Good.lstore12 (G : Good Z a0 EL K own code maxL ret nm) {x0 x1 x2 x3 x4 x5 x6 x7 x8 x9 x10 x11 x12 y : Slot} {r : List Slot} {x : Int64} (hd : Dc code pc (.lstore 12) 2 pc') (f : Go Z EL nw R Post K h S k n pc' (x0 :: x1 :: x2 :: x3 :: x4 :: x5 :: x6 :: x7 :: x8 :: x9 :: x10 :: x11 :: .val (.long x) :: .second :: r) st) (hl : storeLocals (x0 :: x1 :: x2 :: x3 :: x4 :: x5 :: x6 :: x7 :: x8 :: x9 :: x10 :: x11 :: x12 :: y :: r).toArray 12 (.long x) = some (x0 :: x1 :: x2 :: x3 :: x4 :: x5 :: x6 :: x7 :: x8 :: x9 :: x10 :: x11 :: .val (.long x) :: .second :: r).toArray := by rfl) : Go Z EL nw R Post K h S k n pc (x0 :: x1 :: x2 :: x3 :: x4 :: x5 :: x6 :: x7 :: x8 :: x9 :: x10 :: x11 :: x12 :: y :: r) (.long x :: st) := G.lstoreG hd hl f
theorem Good.iinc12 (G : Good Z a0 EL K own code maxL ret nm) (z : Int32) {x0 x1 x2 x3 x4 x5 x6 x7 x8 x9 x10 x11 : Slot} {r : List Slot} {c : Int} {x : Int32} (hd : Dc code pc (.iinc 12 c) 3 pc') (f : Go Z EL nw R Post K h S k n pc' (x0 :: x1 :: x2 :: x3 :: x4 :: x5 :: x6 :: x7 :: x8 :: x9 :: x10 :: x11 :: .val (.int (x + z)) :: r) st) (hz : Int32.ofInt c = z := by decide) : Go Z EL nw R Post K h S k n pc (x0 :: x1 :: x2 :: x3 :: x4 :: x5 :: x6 :: x7 :: x8 :: x9 :: x10 :: x11 :: .val (.int x) :: r) st := by subst hz; exact G.iincG hd rfl rfl f
theorem Good.istore13 (G : Good Z a0 EL K own code maxL ret nm) {x0 x1 x2 x3 x4 x5 x6 x7 x8 x9 x10 x11 x12 x13 : Slot} {r : List Slot} {x : Int32} (hd : Dc code pc (.istore 13) 2 pc') (f : Go Z EL nw R Post K h S k n pc' (x0 :: x1 :: x2 :: x3 :: x4 :: x5 :: x6 :: x7 :: x8 :: x9 :: x10 :: x11 :: x12 :: .val (.int x) :: r) st) (hl : storeLocals (x0 :: x1 :: x2 :: x3 :: x4 :: x5 :: x6 :: x7 :: x8 :: x9 :: x10 :: x11 :: x12 :: x13 :: r).toArray 13 (.int x) = some (x0 :: x1 :: x2 :: x3 :: x4 :: x5 :: x6 :: x7 :: x8 :: x9 :: x10 :: x11 :: x12 :: .val (.int x) :: r).toArray := by rfl) : Go Z EL nw R Post K h S k n pc (x0 :: x1 :: x2 :: x3 :: x4 :: x5 :: x6 :: x7 :: x8 :: x9 :: x10 :: x11 :: x12 :: x13 :: r) (.int x :: st) := G.istoreG hd hl f
theorem Good.astore13 (G : Good Z a0 EL K own code maxL ret nm) {x0 x1 x2 x3 x4 x5 x6 x7 x8 x9 x10 x11 x12 x13 : Slot} {r : List Slot} {x : Value} (hd : Dc code pc (.astore 13) 2 pc') (f : Go Z EL nw R Post K h S k n pc' (x0 :: x1 :: x2 :: x3 :: x4 :: x5 :: x6 :: x7 :: x8 :: x9 :: x10 :: x11 :: x12 :: .val x :: r) st) (hv : x.isRef = true := by rfl) (hl : storeLocals (x0 :: x1 :: x2 :: x3 :: x4 :: x5 :: x6 :: x7 :: x8 :: x9 :: x10 :: x11 :: x12 :: x13 :: r).toArray 13 x = some (x0 :: x1 :: x2 :: x3 :: x4 :: x5 :: x6 :: x7 :: x8 :: x9 :: x10 :: x11 :: x12 :: .val x :: r).toArray := by rfl) : Go Z EL nw R Post K h S k n pc (x0 :: x1 :: x2 :: x3 :: x4 :: x5 :: x6 :: x7 :: x8 :: x9 :: x10 :: x11 :: x12 :: x13 :: r) (x :: st) := G.astoreG hd hv hl f
theorem Good.lstore13 (G : Good Z a0 EL K own code maxL ret nm) {x0 x1 x2 x3 x4 x5 x6 x7 x8 x9 x10 x11 x12 x13 y : Slot} {r : List Slot} {x : Int64} (hd : Dc code pc (.lstore 13) 2 pc') (f : Go Z EL nw R Post K h S k n pc' (x0 :: x1 :: x2 :: x3 :: x4 :: x5 :: x6 :: x7 :: x8 :: x9 :: x10 :: x11 :: x12 :: .val (.long x) :: .second :: r) st) (hl : storeLocals (x0 :: x1 :: x2 :: x3 :: x4 :: x5 :: x6 :: x7 :: x8 :: x9 :: x10 :: x11 :: x12 :: x13 :: y :: r).toArray 13 (.long x) = some (x0 :: x1 :: x2 :: x3 :: x4 :: x5 :: x6 :: x7 :: x8 :: x9 :: x10 :: x11 :: x12 :: .val (.long x) :: .second :: r).toArray := by rfl) : Go Z EL nw R Post K h S k n pc (x0 :: x1 :: x2 :: x3 :: x4 :: x5 :: x6 :: x7 :: x8 :: x9 :: x10 :: x11 :: x12 :: x13 :: y :: r) (.long x :: st) := G.lstoreG hd hl f
theorem Good.iinc13 (G : Good Z a0 EL K own code maxL ret nm) (z : Int32) {x0 x1 x2 x3 x4 x5 x6 x7 x8 x9 x10 x11 x12 : Slot} {r : List Slot} {c : Int} {x : Int32} (hd : Dc code pc (.iinc 13 c) 3 pc') (f : Go Z EL nw R Post K h S k n pc' (x0 :: x1 :: x2 :: x3 :: x4 :: x5 :: x6 :: x7 :: x8 :: x9 :: x10 :: x11 :: x12 :: .val (.int (x + z)) :: r) st) (hz : Int32.ofInt c = z := by decide) : Go Z EL nw R Post K h S k n pc (x0 :: x1 :: x2 :: x3 :: x4 :: x5 :: x6 :: x7 :: x8 :: x9 :: x10 :: x11 :: x12 :: .val (.int x) :: r) st := by subst hz; exact G.iincG hd rfl rfl f
theorem Good.istore14 (G : Good Z a0 EL K own code maxL ret nm) {x0 x1 x2 x3 x4 x5 x6 x7 x8 x9 x10 x11 x12 x13 x14 : Slot} {r : List Slot} {x : Int32} (hd : Dc code pc (.istore 14) 2 pc') (f : Go Z EL nw R Post K h S k n pc' (x0 :: x1 :: x2 :: x3 :: x4 :: x5 :: x6 :: x7 :: x8 :: x9 :: x10 :: x11 :: x12 :: x13 :: .val (.int x) :: r) st) (hl : storeLocals (x0 :: x1 :: x2 :: x3 :: x4 :: x5 :: x6 :: x7 :: x8 :: x9 :: x10 :: x11 :: x12 :: x13 :: x14 :: r).toArray 14 (.int x) = some (x0 :: x1 :: x2 :: x3 :: x4 :: x5 :: x6 :: x7 :: x8 :: x9 :: x10 :: x11 :: x12 :: x13 :: .val (.int x) :: r).toArray := by rfl) : Go Z EL nw R Post K h S k n pc (x0 :: x1 :: x2 :: x3 :: x4 :: x5 :: x6 :: x7 :: x8 :: x9 :: x10 :: x11 :: x12 :: x13 :: x14 :: r) (.int x :: st) := G.istoreG hd hl f
theorem Good.astore14 (G : Good Z a0 EL K own code maxL ret nm) {x0 x1 x2 x3 x4 x5 x6 x7 x8 x9 x10 x11 x12 x13 x14 : Slot} {r : List Slot} {x : Value} (hd : Dc code pc (.astore 14) 2 pc') (f : Go Z EL nw R Post K h S k n pc' (x0 :: x1 :: x2 :: x3 :: x4 :: x5 :: x6 :: x7 :: x8 :: x9 :: x10 :: x11 :: x12 :: x13 :: .val x :: r) st) (hv : x.isRef = true := by rfl) (hl : storeLocals (x0 :: x1 :: x2 :: x3 :: x4 :: x5 :: x6 :: x7 :: x8 :: x9 :: x10 :: x11 :: x12 :: x13 :: x14 :: r).toArray 14 x = some (x0 :: x1 :: x2 :: x3 :: x4 :: x5 :: x6 :: x7 :: x8 :: x9 :: x10 :: x11 :: x12 :: x13 :: .val x :: r).toArray := by rfl) : Go Z EL nw R Post K h S k n pc (x0 :: x1 :: x2 :: x3 :: x4 :: x5 :: x6 :: x7 :: x8 :: x9 :: x10 :: x11 :: x12 :: x13 :: x14 :: r) (x :: st) := G.astoreG hd hv hl f
theorem Good.lstore14 (G : Good Z a0 EL K own code maxL ret nm) {x0 x1 x2 x3 x4 x5 x6 x7 x8 x9 x10 x11 x12 x13 x14 y : Slot} {r : List Slot} {x : Int64} (hd : Dc code pc (.lstore 14) 2 pc') (f : Go Z EL nw R Post K h S k n pc' (x0 :: x1 :: x2 :: x3 :: x4 :: x5 :: x6 :: x7 :: x8 :: x9 :: x10 :: x11 :: x12 :: x13 :: .val (.long x) :: .second :: r) st) (hl : storeLocals (x0 :: x1 :: x2 :: x3 :: x4 :: x5 :: x6 :: x7 :: x8 :: x9 :: x10 :: x11 :: x12 :: x13 :: x14 :: y :: r).toArray 14 (.long x) = some (x0 :: x1 :: x2 :: x3 :: x4 :: x5 :: x6 :: x7 :: x8 :: x9 :: x10 :: x11 :: x12 :: x13 :: .val (.long x) :: .second :: r).toArray := by rfl) : Go Z EL nw R Post K h S k n pc (x0 :: x1 :: x2 :: x3 :: x4 :: x5 :: x6 :: x7 :: x8 :: x9 :: x10 :: x11 :: x12 :: x13 :: x14 :: y :: r) (.long x :: st) := G.lstoreG hd hl f
theorem Good.iinc14 (G : Good Z a0 EL K own code maxL ret nm) (z : Int32) {x0 x1 x2 x3 x4 x5 x6 x7 x8 x9 x10 x11 x12 x13 : Slot} {r : List Slot} {c : Int} {x : Int32} (hd : Dc code pc (.iinc 14 c) 3 pc') (f : Go Z EL nw R Post K h S k n pc' (x0 :: x1 :: x2 :: x3 :: x4 :: x5 :: x6 :: x7 :: x8 :: x9 :: x10 :: x11 :: x12 :: x13 :: .val (.int (x + z)) :: r) st) (hz : Int32.ofInt c = z := by decide) : Go Z EL nw R Post K h S k n pc (x0 :: x1 :: x2 :: x3 :: x4 :: x5 :: x6 :: x7 :: x8 :: x9 :: x10 :: x11 :: x12 :: x13 :: .val (.int x) :: r) st := by subst hz; exact G.iincG hd rfl rfl f
theorem Good.istore15 (G : Good Z a0 EL K own code maxL ret nm) {x0 x1 x2 x3 x4 x5 x6 x7 x8 x9 x10 x11 x12 x13 x14 x15 : Slot} {r : List Slot} {x : Int32} (hd : Dc code pc (.istore 15) 2 pc') (f : Go Z EL nw R Post K h S k n pc' (x0 :: x1 :: x2 :: x3 :: x4 :: x5 :: x6 :: x7 :: x8 :: x9 :: x10 :: x11 :: x12 :: x13 :: x14 :: .val (.int x) :: r) st) (hl : storeLocals (x0 :: x1 :: x2 :: x3 :: x4 :: x5 :: x6 :: x7 :: x8 :: x9 :: x10 :: x11 :: x12 :: x13 :: x14 :: x15 :: r).toArray 15 (.int x) = some (x0 :: x1 :: x2 :: x3 :: x4 :: x5 :: x6 :: x7 :: x8 :: x9 :: x10 :: x11 :: x12 :: x13 :: x14 :: .val (.int x) :: r).toArray := by rfl) : Go Z EL nw R Post K h S k n pc (x0 :: x1 :: x2 :: x3 :: x4 :: x5 :: x6 :: x7 :: x8 :: x9 :: x10 :: x11 :: x12 :: x13 :: x14 :: x15 :: r) (.int x :: st) := G.istoreG hd hl f
theorem Good.astore15 (G : Good Z a0 EL K own code maxL ret nm) {x0 x1 x2 x3 x4 x5 x6 x7 x8 x9 x10 x11 x12 x13 x14 x15 : Slot} {r : List Slot} {x : Value} (hd : Dc code pc (.astore 15) 2 pc') (f : Go Z EL nw R Post K h S k n pc' (x0 :: x1 :: x2 :: x3 :: x4 :: x5 :: x6 :: x7 :: x8 :: x9 :: x10 :: x11 :: x12 :: x13 :: x14 :: .val x :: r) st) (hv : x.isRef = true := by rfl) (hl : storeLocals (x0 :: x1 :: x2 :: x3 :: x4 :: x5 :: x6 :: x7 :: x8 :: x9 :: x10 :: x11 :: x12 :: x13 :: x14 :: x15 :: r).toArray 15 x = some (x0 :: x1 :: x2 :: x3 :: x4 :: x5 :: x6 :: x7 :: x8 :: x9 :: x10 :: x11 :: x12 :: x13 :: x14 :: .val x :: r).toArray := by rfl) : Go Z EL nw R Post K h S k n pc (x0 :: x1 :: x2 :: x3 :: x4 :: x5 :: x6 :: x7 :: x8 :: x9 :: x10 :: x11 :: x12 :: x13 :: x14 :: x15 :: r) (x :: st) := G.astoreG hd hv hl f
theorem Good.lstore15 (G : Good Z a0 EL K own code maxL ret nm) {x0 x1 x2 x3 x4 x5 x6 x7 x8 x9 x10 x11 x12 x13 x14 x15 y : Slot} {r : List Slot} {x : Int64} (hd : Dc code pc (.lstore 15) 2 pc') (f : Go Z EL nw R Post K h S k n pc' (x0 :: x1 :: x2 :: x3 :: x4 :: x5 :: x6 :: x7 :: x8 :: x9 :: x10 :: x11 :: x12 :: x13 :: x14 :: .val (.long x) :: .second :: r) st) (hl : storeLocals (x0 :: x1 :: x2 :: x3 :: x4 :: x5 :: x6 :: x7 :: x8 :: x9 :: x10 :: x11 :: x12 :: x13 :: x14 :: x15 :: y :: r).toArray 15 (.long x) = some (x0 :: x1 :: x2 :: x3 :: x4 :: x5 :: x6 :: x7 :: x8 :: x9 :: x10 :: x11 :: x12 :: x13 :: x14 :: .val (.long x) :: .second :: r).toArray := by rfl) : Go Z EL nw R Post K h S k n pc (x0 :: x1 :: x2 :: x3 :: x4 :: x5 :: x6 :: x7 :: x8 :: x9 :: x10 :: x11 :: x12 :: x13 :: x14 :: x15 :: y :: r) (.long x :: st) := G.lstoreG hd hl f
theorem Good.iinc15 (G : Good Z a0 EL K own code maxL ret nm) (z : Int32) {x0 x1 x2 x3 x4 x5 x6 x7 x8 x9 x10 x11 x12 x13 x14 : Slot} {r : List Slot} {c : Int} {x : Int32} (hd : Dc code pc (.iinc 15 c) 3 pc') (f : Go Z EL nw R Post K h S k n pc' (x0 :: x1 :: x2 :: x3 :: x4 :: x5 :: x6 :: x7 :: x8 :: x9 :: x10 :: x11 :: x12 :: x13 :: x14 :: .val (.int (x + z)) :: r) st) (hz : Int32.ofInt c = z := by decide) : Go Z EL nw R Post K h S k n pc (x0 :: x1 :: x2 :: x3 :: x4 :: x5 :: x6 :: x7 :: x8 :: x9 :: x10 :: x11 :: x12 :: x13 :: x14 :: .val (.int x) :: r) st := by subst hz; exact G.iincG hd rfl rfl f
theorem Good.istore16 (G : Good Z a0 EL K own code maxL ret nm) {x0 x1 x2 x3 x4 x5 x6 x7 x8 x9 x10 x11 x12 x13 x14 x15 x16 : Slot} {r : List Slot} {x : Int32} (hd : Dc code pc (.istore 16) 2 pc') (f : Go Z EL nw R Post K h S k n pc' (x0 :: x1 :: x2 :: x3 :: x4 :: x5 :: x6 :: x7 :: x8 :: x9 :: x10 :: x11 :: x12 :: x13 :: x14 :: x15 :: .val (.int x) :: r) st) (hl : storeLocals (x0 :: x1 :: x2 :: x3 :: x4 :: x5 :: x6 :: x7 :: x8 :: x9 :: x10 :: x11 :: x12 :: x13 :: x14 :: x15 :: x16 :: r).toArray 16 (.int x) = some (x0 :: x1 :: x2 :: x3 :: x4 :: x5 :: x6 :: x7 :: x8 :: x9 :: x10 :: x11 :: x12 :: x13 :: x14 :: x15 :: .val (.int x) :: r).toArray := by rfl) : Go Z EL nw R Post K h S k n pc (x0 :: x1 :: x2 :: x3 :: x4 :: x5 :: x6 :: x7 :: x8 :: x9 :: x10 :: x11 :: x12 :: x13 :: x14 :: x15 :: x16 :: r) (.int x :: st) := G.istoreG hd hl f
theorem Good.astore16 (G : Good Z a0 EL K own code maxL ret nm) {x0 x1 x2 x3 x4 x5 x6 x7 x8 x9 x10 x11 x12 x13 x14 x15 x16 : Slot} {r : List Slot} {x : Value} (hd : Dc code pc (.astore 16) 2 pc') (f : Go Z EL nw R Post K h S k n pc' (x0 :: x1 :: x2 :: x3 :: x4 :: x5 :: x6 :: x7 :: x8 :: x9 :: x10 :: x11 :: x12 :: x13 :: x14 :: x15 :: .val x :: r) st) (hv : x.isRef = true := by rfl) (hl : storeLocals (x0 :: x1 :: x2 :: x3 :: x4 :: x5 :: x6 :: x7 :: x8 :: x9 :: x10 :: x11 :: x12 :: x13 :: x14 :: x15 :: x16 :: r).toArray 16 x = some (x0 :: x1 :: x2 :: x3 :: x4 :: x5 :: x6 :: x7 :: x8 :: x9 :: x10 :: x11 :: x12 :: x13 :: x14 :: x15 :: .val x :: r).toArray := by rfl) : Go Z EL nw R Post K h S k n pc (x0 :: x1 :: x2 :: x3 :: x4 :: x5 :: x6 :: x7 :: x8 :: x9 :: x10 :: x11 :: x12 :: x13 :: x14 :: x15 :: x16 :: r) (x :: st) := G.astoreG hd hv hl f
theorem Good.lstore16 (G : Good Z a0 EL K own code maxL ret nm) {x0 x1 x2 x3 x4 x5 x6 x7 x8 x9 x10 x11 x12 x13 x14 x15 x16 y : Slot} {r : List Slot} {x : Int64} (hd : Dc code pc (.lstore 16) 2 pc') (f : Go Z EL nw R Post K h S k n pc' (x0 :: x1 :: x2 :: x3 :: x4 :: x5 :: x6 :: x7 :: x8 :: x9 :: x10 :: x11 :: x12 :: x13 :: x14 :: x15 :: .val (.long x) :: .second :: r) st) (hl : storeLocals (x0 :: x1 :: x2 :: x3 :: x4 :: x5 :: x6 :: x7 :: x8 :: x9 :: x10 :: x11 :: x12 :: x13 :: x14 :: x15 :: x16 :: y :: r).toArray 16 (.long x) = some (x0 :: x1 :: x2 :: x3 :: x4 :: x5 :: x6 :: x7 :: x8 :: x9 :: x10 :: x11 :: x12 :: x13 :: x14 :: x15 :: .val (.long x) :: .second :: r).toArray := by rfl) : Go Z EL nw R Post K h S k n pc (x0 :: x1 :: x2 :: x3 :: x4 :: x5 :: x6 :: x7 :: x8 :: x9 :: x10 :: x11 :: x12 :: x13 :: x14 :: x15 :: x16 :: y :: r) (.long x :: st) := G.lstoreG hd hl f
theorem Good.iinc16 (G : Good Z a0 EL K own code maxL ret nm) (z : Int32) {x0 x1 x2 x3 x4 x5 x6 x7 x8 x9 x10 x11 x12 x13 x14 x15 : Slot} {r : List Slot} {c : Int} {x : Int32} (hd : Dc code pc (.iinc 16 c) 3 pc') (f : Go Z EL nw R Post K h S k n pc' (x0 :: x1 :: x2 :: x3 :: x4 :: x5 :: x6 :: x7 :: x8 :: x9 :: x10 :: x11 :: x12 :: x13 :: x14 :: x15 :: .val (.int (x + z)) :: r) st) (hz : Int32.ofInt c = z := by decide) : Go Z EL nw R Post K h S k n pc (x0 :: x1 :: x2 :: x3 :: x4 :: x5 :: x6 :: x7 :: x8 :: x9 :: x10 :: x11 :: x12 :: x13 :: x14 :: x15 :: .val (.int x) :: r) st := by subst hz; exact G.iincG hd rfl rfl f
theorem Good.istore17 (G : Good Z a0 EL K own code maxL ret nm) {x0 x1 x2 x3 x4 x5 x6 x7 x8 x9 x10 x11 x12 x13 x14 x15 x16 x17 : Slot} {r : List Slot} {x : Int32} (hd : Dc code pc (.istore 17) 2 pc') (f : Go Z EL nw R Post K h S k n pc' (x0 :: x1 :: x2 :: x3 :: x4 :: x5 :: x6 :: x7 :: x8 :: x9 :: x10 :: x11 :: x12 :: x13 :: x14 :: x15 :: x16 :: .val (.int x) :: r) st) (hl : storeLocals (x0 :: x1 :: x2 :: x3 :: x4 :: x5 :: x6 :: x7 :: x8 :: x9 :: x10 :: x11 :: x12 :: x13 :: x14 :: x15 :: x16 :: x17 :: r).toArray 17 (.int x) = some (x0 :: x1 :: x2 :: x3 :: x4 :: x5 :: x6 :: x7 :: x8 :: x9 :: x10 :: x11 :: x12 :: x13 :: x14 :: x15 :: x16 :: .val (.int x) :: r).toArray := by rfl) : Go Z EL nw R Post K h S k n pc (x0 :: x1 :: x2 :: x3 :: x4 :: x5 :: x6 :: x7 :: x8 :: x9 :: x10 :: x11 :: x12 :: x13 :: x14 :: x15 :: x16 :: x17 :: r) (.int x :: st) := G.istoreG hd hl f
theorem Good.astore17 (G : Good Z a0 EL K own code maxL ret nm) {x0 x1 x2 x3 x4 x5 x6 x7 x8 x9 x10 x11 x12 x13 x14 x15 x16 x17 : Slot} {r : List Slot} {x : Value} (hd : Dc code pc (.astore 17) 2 pc') (f : Go Z EL nw R Post K h S k n pc' (x0 :: x1 :: x2 :: x3 :: x4 :: x5 :: x6 :: x7 :: x8 :: x9 :: x10 :: x11 :: x12 :: x13 :: x14 :: x15 :: x16 :: .val x :: r) st) (hv : x.isRef = true := by rfl) (hl : storeLocals (x0 :: x1 :: x2 :: x3 :: x4 :: x5 :: x6 :: x7 :: x8 :: x9 :: x10 :: x11 :: x12 :: x13 :: x14 :: x15 :: x16 :: x17 :: r).toArray 17 x = some (x0 :: x1 :: x2 :: x3 :: x4 :: x5 :: x6 :: x7 :: x8 :: x9 :: x10 :: x11 :: x12 :: x13 :: x14 :: x15 :: x16 :: .val x :: r).toArray := by rfl) : Go Z EL nw R Post K h S k n pc (x0 :: x1 :: x2 :: x3 :: x4 :: x5 :: x6 :: x7 :: x8 :: x9 :: x10 :: x11 :: x12 :: x13 :: x14 :: x15 :: x16 :: x17 :: r) (x :: st) := G.astoreG hd hv hl f
theorem Good.lstore17 (G : Good Z a0 EL K own code maxL ret nm) {x0 x1 x2 x3 x4 x5 x6 x7 x8 x9 x10 x11 x12 x13 x14 x15 x16 x17 y : Slot} {r : List Slot} {x : Int64} (hd : Dc code pc (.lstore 17) 2 pc') (f : Go Z EL nw R Post K h S k n pc' (x0 :: x1 :: x2 :: x3 :: x4 :: x5 :: x6 :: x7 :: x8 :: x9 :: x10 :: x11 :: x12 :: x13 :: x14 :: x15 :: x16 :: .val (.long x) :: .second :: r) st) (hl : storeLocals (x0 :: x1 :: x2 :: x3 :: x4 :: x5 :: x6 :: x7 :: x8 :: x9 :: x10 :: x11 :: x12 :: x13 :: x14 :: x15 :: x16 :: x17 :: y :: r).toArray 17 (.long x) = some (x0 :: x1 :: x2 :: x3 :: x4 :: x5 :: x6 :: x7 :: x8 :: x9 :: x10 :: x11 :: x12 :: x13 :: x14 :: x15 :: x16 :: .val (.long x) :: .second :: r).toArray := by rfl) : Go Z EL nw R Post K h S k n pc (x0 :: x1 :: x2 :: x3 :: x4 :: x5 :: x6 :: x7 :: x8 :: x9 :: x10 :: x11 :: x12 :: x13 :: x14 :: x15 :: x16 :: x17 :: y :: r) (.long x :: st) := G.lstoreG hd hl f
theorem Good.iinc17 (G : Good Z a0 EL K own code maxL ret nm) (z : Int32) {x0 x1 x2 x3 x4 x5 x6 x7 x8 x9 x10 x11 x12 x13 x14 x15 x16 : Slot} {r : List Slot} {c : Int} {x : Int32} (hd : Dc code pc (.iinc 17 c) 3 pc') (f : Go Z EL nw R Post K h S k n pc' (x0 :: x1 :: x2 :: x3 :: x4 :: x5 :: x6 :: x7 :: x8 :: x9 :: x10 :: x11 :: x12 :: x13 :: x14 :: x15 :: x16 :: .val (.int (x + z)) :: r) st) (hz : Int32.ofInt c = z := by decide) : Go Z EL nw R Post K h S k n pc (x0 :: x1 :: x2 :: x3 :: x4 :: x5 :: x6 :: x7 :: x8 :: x9 :: x10 :: x11 :: x12 :: x13 :: x14 :: x15 :: x16 :: .val (.int x) :: r) st := by subst hz; exact G.iincG hd rfl rfl f
theorem Good.istore18 (G : Good Z a0 EL K own code maxL ret nm) {x0 x1 x2 x3 x4 x5 x6 x7 x8 x9 x10 x11 x12 x13 x14 x15 x16 x17 x18 : Slot} {r : List Slot} {x : Int32} (hd : Dc code pc (.istore 18) 2 pc') (f : Go Z EL nw R Post K h S k n pc' (x0 :: x1 :: x2 :: x3 :: x4 :: x5 :: x6 :: x7 :: x8 :: x9 :: x10 :: x11 :: x12 :: x13 :: x14 :: x15 :: x16 :: x17 :: .val (.int x) :: r) st) (hl : storeLocals (x0 :: x1 :: x2 :: x3 :: x4 :: x5 :: x6 :: x7 :: x8 :: x9 :: x10 :: x11 :: x12 :: x13 :: x14 :: x15 :: x16 :: x17 :: x18 :: r).toArray 18 (.int x) = some (x0 :: x1 :: x2 :: x3 :: x4 :: x5 :: x6 :: x7 :: x8 :: x9 :: x10 :: x11 :: x12 :: x13 :: x14 :: x15 :: x16 :: x17 :: .val (.int x) :: r).toArray := by rfl) : Go Z EL nw R Post K h S k n pc (x0 :: x1 :: x2 :: x3 :: x4 :: x5 :: x6 :: x7 :: x8 :: x9 :: x10 :: x11 :: x12 :: x13 :: x14 :: x15 :: x16 :: x17 :: x18 :: r) (.int x :: st) := G.istoreG hd hl f
theorem Good.astore18 (G : Good Z a0 EL K own code maxL ret nm) {x0 x1 x2 x3 x4 x5 x6 x7 x8 x9 x10 x11 x12 x13 x14 x15 x16 x17 x18 : Slot} {r : List Slot} {x : Value} (hd : Dc code pc (.astore 18) 2 pc') (f : Go Z EL nw R Post K h S k n pc' (x0 :: x1 :: x2 :: x3 :: x4 :: x5 :: x6 :: x7 :: x8 :: x9 :: x10 :: x11 :: x12 :: x13 :: x14 :: x15 :: x16 :: x17 :: .val x :: r) st) (hv : x.isRef = true := by rfl) (hl : storeLocals (x0 :: x1 :: x2 :: x3 :: x4 :: x5 :: x6 :: x7 :: x8 :: x9 :: x10 :: x11 :: x12 :: x13 :: x14 :: x15 :: x16 :: x17 :: x18 :: r).toArray 18 x = some (x0 :: x1 :: x2 :: x3 :: x4 :: x5 :: x6 :: x7 :: x8 :: x9 :: x10 :: x11 :: x12 :: x13 :: x14 :: x15 :: x16 :: x17 :: .val x :: r).toArray := by rfl) : Go Z EL nw R Post K h S k n pc (x0 :: x1 :: x2 :: x3 :: x4 :: x5 :: x6 :: x7 :: x8 :: x9 :: x10 :: x11 :: x12 :: x13 :: x14 :: x15 :: x16 :: x17 :: x18 :: r) (x :: st) := G.astoreG hd hv hl f
theorem Good.lstore18 (G : Good Z a0 EL K own code maxL ret nm) {x0 x1 x2 x3 x4 x5 x6 x7 x8 x9 x10 x11 x12 x13 x14 x15 x16 x17 x18 y : Slot} {r : List Slot} {x : Int64} (hd : Dc code pc (.lstore 18) 2 pc') (f : Go Z EL nw R Post K h S k n pc' (x0 :: x1 :: x2 :: x3 :: x4 :: x5 :: x6 :: x7 :: x8 :: x9 :: x10 :: x11 :: x12 :: x13 :: x14 :: x15 :: x16 :: x17 :: .val (.long x) :: .second :: r) st) (hl : storeLocals (x0 :: x1 :: x2 :: x3 :: x4 :: x5 :: x6 :: x7 :: x8 :: x9 :: x10 :: x11 :: x12 :: x13 :: x14 :: x15 :: x16 :: x17 :: x18 :: y :: r).toArray 18 (.long x) = some (x0 :: x1 :: x2 :: x3 :: x4 :: x5 :: x6 :: x7 :: x8 :: x9 :: x10 :: x11 :: x12 :: x13 :: x14 :: x15 :: x16 :: x17 :: .val (.long x) :: .second :: r).toArray := by rfl) : Go Z EL nw R Post K h S k n pc (x0 :: x1 :: x2 :: x3 :: x4 :: x5 :: x6 :: x7 :: x8 :: x9 :: x10 :: x11 :: x12 :: x13 :: x14 :: x15 :: x16 :: x17 :: x18 :: y :: r) (.long x :: st) := G.lstoreG hd hl f
theorem Good.iinc18 (G : Good Z a0 EL K own code maxL ret nm) (z : Int32) {x0 x1 x2 x3 x4 x5 x6 x7 x8 x9 x10 x11 x12 x13 x14 x15 x16 x17 : Slot} {r : List Slot} {c : Int} {x : Int32} (hd : Dc code pc (.iinc 18 c) 3 pc') (f : Go Z EL nw R Post K h S k n pc' (x0 :: x1 :: x2 :: x3 :: x4 :: x5 :: x6 :: x7 :: x8 :: x9 :: x10 :: x11 :: x12 :: x13 :: x14 :: x15 :: x16 :: x17 :: .val (.int (x + z)) :: r) st) (hz : Int32.ofInt c = z := by decide) : Go Z EL nw R Post K h S k n pc (x0 :: x1 :: x2 :: x3 :: x4 :: x5 :: x6 :: x7 :: x8 :: x9 :: x10 :: x11 :: x12 :: x13 :: x14 :: x15 :: x16 :: x17 :: .val (.int x) :: r) st := by subst hz; exact G.iincG hd rfl rfl f
theorem Good.istore19 (G : Good Z a0 EL K own code maxL ret nm) {x0 x1 x2 x3 x4 x5 x6 x7 x8 x9 x10 x11 x12 x13 x14 x15 x16 x17 x18 x19 : Slot} {r : List Slot} {x : Int32} (hd : Dc code pc (.istore 19) 2 pc') (f : Go Z EL nw R Post K h S k n pc' (x0 :: x1 :: x2 :: x3 :: x4 :: x5 :: x6 :: x7 :: x8 :: x9 :: x10 :: x11 :: x12 :: x13 :: x14 :: x15 :: x16 :: x17 :: x18 :: .val (.int x) :: r) st) (hl : storeLocals (x0 :: x1 :: x2 :: x3 :: x4 :: x5 :: x6 :: x7 :: x8 :: x9 :: x10 :: x11 :: x12 :: x13 :: x14 :: x15 :: x16 :: x17 :: x18 :: x19 :: r).toArray 19 (.int x) = some (x0 :: x1 :: x2 :: x3 :: x4 :: x5 :: x6 :: x7 :: x8 :: x9 :: x10 :: x11 :: x12 :: x13 :: x14 :: x15 :: x16 :: x17 :: x18 :: .val (.int x) :: r).toArray := by rfl) : Go Z EL nw R Post K h S k n pc (x0 :: x1 :: x2 :: x3 :: x4 :: x5 :: x6 :: x7 :: x8 :: x9 :: x10 :: x11 :: x12 :: x13 :: x14 :: x15 :: x16 :: x17 :: x18 :: x19 :: r) (.int x :: st) := G.istoreG hd hl f
theorem Good.astore19 (G : Good Z a0 EL K own code maxL ret nm) {x0 x1 x2 x3 x4 x5 x6 x7 x8 x9 x10 x11 x12 x13 x14 x15 x16 x17 x18 x19 : Slot} {r : List Slot} {x : Value} (hd : Dc code pc (.astore 19) 2 pc') (f : Go Z EL nw R Post K h S k n pc' (x0 :: x1 :: x2 :: x3 :: x4 :: x5 :: x6 :: x7 :: x8 :: x9 :: x10 :: x11 :: x12 :: x13 :: x14 :: x15 :: x16 :: x17 :: x18 :: .val x :: r) st) (hv : x.isRef = true := by rfl) (hl : storeLocals (x0 :: x1 :: x2 :: x3 :: x4 :: x5 :: x6 :: x7 :: x8 :: x9 :: x10 :: x11 :: x12 :: x13 :: x14 :: x15 :: x16 :: x17 :: x18 :: x19 :: r).toArray 19 x = some (x0 :: x1 :: x2 :: x3 :: x4 :: x5 :: x6 :: x7 :: x8 :: x9 :: x10 :: x11 :: x12 :: x13 :: x14 :: x15 :: x16 :: x17 :: x18 :: .val x :: r).toArray := by rfl) : Go Z EL nw R Post K h S k n pc (x0 :: x1 :: x2 :: x3 :: x4 :: x5 :: x6 :: x7 :: x8 :: x9 :: x10 :: x11 :: x12 :: x13 :: x14 :: x15 :: x16 :: x17 :: x18 :: x19 :: r) (x :: st) := G.astoreG hd hv hl f
theorem Good.lstore19 (G : Good Z a0 EL K own code maxL ret nm) {x0 x1 x2 x3 x4 x5 x6 x7 x8 x9 x10 x11 x12 x13 x14 x15 x16 x17 x18 x19 y : Slot} {r : List Slot} {x : Int64} (hd : Dc code pc (.lstore 19) 2 pc') (f : Go Z EL nw R Post K h S k n pc' (x0 :: x1 :: x2 :: x3 :: x4 :: x5 :: x6 :: x7 :: x8 :: x9 :: x10 :: x11 :: x12 :: x13 :: x14 :: x15 :: x16 :: x17 :: x18 :: .val (.long x) :: .second :: r) st) (hl : storeLocals (x0 :: x1 :: x2 :: x3 :: x4 :: x5 :: x6 :: x7 :: x8 :: x9 :: x10 :: x11 :: x12 :: x13 :: x14 :: x15 :: x16 :: x17 :: x18 :: x19 :: y :: r).toArray 19 (.long x) = some (x0 :: x1 :: x2 :: x3 :: x4 :: x5 :: x6 :: x7 :: x8 :: x9 :: x10 :: x11 :: x12 :: x13 :: x14 :: x15 :: x16 :: x17 :: x18 :: .val (.long x) :: .second :: r).toArray := by rfl) : Go Z EL nw R Post K h S k n pc (x0 :: x1 :: x2 :: x3 :: x4 :: x5 :: x6 :: x7 :: x8 :: x9 :: x10 :: x11 :: x12 :: x13 :: x14 :: x15 :: x16 :: x17 :: x18 :: x19 :: y :: r) (.long x :: st) := G.lstoreG hd hl f
theorem Good.iinc19 (G : Good Z a0 EL K own code maxL ret nm) (z : Int32) {x0 x1 x2 x3 x4 x5 x6 x7 x8 x9 x10 x11 x12 x13 x14 x15 x16 x17 x18 : Slot} {r : List Slot} {c : Int} {x : Int32} (hd : Dc code pc (.iinc 19 c) 3 pc') (f : Go Z EL nw R Post K h S k n pc' (x0 :: x1 :: x2 :: x3 :: x4 :: x5 :: x6 :: x7 :: x8 :: x9 :: x10 :: x11 :: x12 :: x13 :: x14 :: x15 :: x16 :: x17 :: x18 :: .val (.int (x + z)) :: r) st) (hz : Int32.ofInt c = z := by decide) : Go Z EL nw R Post K h S k n pc (x0 :: x1 :: x2 :: x3 :: x4 :: x5 :: x6 :: x7 :: x8 :: x9 :: x10 :: x11 :: x12 :: x13 :: x14 :: x15 :: x16 :: x17 :: x18 :: .val (.int x) :: r) st := by subst hz; exact G.iincG hd rfl rfl f
theorem Good.istore20 (G : Good Z a0 EL K own code maxL ret nm) {x0 x1 x2 x3 x4 x5 x6 x7 x8 x9 x10 x11 x12 x13 x14 x15 x16 x17 x18 x19 x20 : Slot} {r : List Slot} {x : Int32} (hd : Dc code pc (.istore 20) 2 pc') (f : Go Z EL nw R Post K h S k n pc' (x0 :: x1 :: x2 :: x3 :: x4 :: x5 :: x6 :: x7 :: x8 :: x9 :: x10 :: x11 :: x12 :: x13 :: x14 :: x15 :: x16 :: x17 :: x18 :: x19 :: .val (.int x) :: r) st) (hl : storeLocals (x0 :: x1 :: x2 :: x3 :: x4 :: x5 :: x6 :: x7 :: x8 :: x9 :: x10 :: x11 :: x12 :: x13 :: x14 :: x15 :: x16 :: x17 :: x18 :: x19 :: x20 :: r).toArray 20 (.int x) = some (x0 :: x1 :: x2 :: x3 :: x4 :: x5 :: x6 :: x7 :: x8 :: x9 :: x10 :: x11 :: x12 :: x13 :: x14 :: x15 :: x16 :: x17 :: x18 :: x19 :: .val (.int x) :: r).toArray := by rfl) : Go Z EL nw R Post K h S k n pc (x0 :: x1 :: x2 :: x3 :: x4 :: x5 :: x6 :: x7 :: x8 :: x9 :: x10 :: x11 :: x12 :: x13 :: x14 :: x15 :: x16 :: x17 :: x18 :: x19 :: x20 :: r) (.int x :: st) := G.istoreG hd hl f
theorem Good.astore20 (G : Good Z a0 EL K own code maxL ret nm) {x0 x1 x2 x3 x4 x5 x6 x7 x8 x9 x10 x11 x12 x13 x14 x15 x16 x17 x18 x19 x20 : Slot} {r : List Slot} {x : Value} (hd : Dc code pc (.astore 20) 2 pc') (f : Go Z EL nw R Post K h S k n pc' (x0 :: x1 :: x2 :: x3 :: x4 :: x5 :: x6 :: x7 :: x8 :: x9 :: x10 :: x11 :: x12 :: x13 :: x14 :: x15 :: x16 :: x17 :: x18 :: x19 :: .val x :: r) st) (hv : x.isRef = true := by rfl) (hl : storeLocals (x0 :: x1 :: x2 :: x3 :: x4 :: x5 :: x6 :: x7 :: x8 :: x9 :: x10 :: x11 :: x12 :: x13 :: x14 :: x15 :: x16 :: x17 :: x18 :: x19 :: x20 :: r).toArray 20 x = some (x0 :: x1 :: x2 :: x3 :: x4 :: x5 :: x6 :: x7 :: x8 :: x9 :: x10 :: x11 :: x12 :: x13 :: x14 :: x15 :: x16 :: x17 :: x18 :: x19 :: .val x :: r).toArray := by rfl) : Go Z EL nw R Post K h S k n pc (x0 :: x1 :: x2 :: x3 :: x4 :: x5 :: x6 :: x7 :: x8 :: x9 :: x10 :: x11 :: x12 :: x13 :: x14 :: x15 :: x16 :: x17 :: x18 :: x19 :: x20 :: r) (x :: st) := G.astoreG hd hv hl f
theorem Good.lstore20 (G : Good Z a0 EL K own code maxL ret nm) {x0 x1 x2 x3 x4 x5 x6 x7 x8 x9 x10 x11 x12 x13 x14 x15 x16 x17 x18 x19 x20 y : Slot} {r : List Slot} {x : Int64} (hd : Dc code pc (.lstore 20) 2 pc') (f : Go Z EL nw R Post K h S k n pc' (x0 :: x1 :: x2 :: x3 :: x4 :: x5 :: x6 :: x7 :: x8 :: x9 :: x10 :: x11 :: x12 :: x13 :: x14 :: x15 :: x16 :: x17 :: x18 :: x19 :: .val (.long x) :: .second :: r) st) (hl : storeLocals (x0 :: x1 :: x2 :: x3 :: x4 :: x5 :: x6 :: x7 :: x8 :: x9 :: x10 :: x11 :: x12 :: x13 :: x14 :: x15 :: x16 :: x17 :: x18 :: x19 :: x20 :: y :: r).toArray 20 (.long x) = some (x0 :: x1 :: x2 :: x3 :: x4 :: x5 :: x6 :: x7 :: x8 :: x9 :: x10 :: x11 :: x12 :: x13 :: x14 :: x15 :: x16 :: x17 :: x18 :: x19 :: .val (.long x) :: .second :: r).toArray := by rfl) : Go Z EL nw R Post K h S k n pc (x0 :: x1 :: x2 :: x3 :: x4 :: x5 :: x6 :: x7 :: x8 :: x9 :: x10 :: x11 :: x12 :: x13 :: x14 :: x15 :: x16 :: x17 :: x18 :: x19 :: x20 :: y :: r) (.long x :: st) := G.lstoreG hd hl f
theorem Good.iinc20 (G : Good Z a0 EL K own code maxL ret nm) (z : Int32) {x0 x1 x2 x3 x4 x5 x6 x7 x8 x9 x10 x11 x12 x13 x14 x15 x16 x17 x18 x19 : Slot} {r : List Slot} {c : Int} {x : Int32} (hd : Dc code pc (.iinc 20 c) 3 pc') (f : Go Z EL nw R Post K h S k n pc' (x0 :: x1 :: x2 :: x3 :: x4 :: x5 :: x6 :: x7 :: x8 :: x9 :: x10 :: x11 :: x12 :: x13 :: x14 :: x15 :: x16 :: x17 :: x18 :: x19 :: .val (.int (x + z)) :: r) st) (hz : Int32.ofInt c = z := by decide) : Go Z EL nw R Post K h S k n pc (x0 :: x1 :: x2 :: x3 :: x4 :: x5 :: x6 :: x7 :: x8 :: x9 :: x10 :: x11 :: x12 :: x13 :: x14 :: x15 :: x16 :: x17 :: x18 :: x19 :: .val (.int x) :: r) st := by subst hz; exact G.iincG hd rfl rfl f
theorem Good.istore21 (G : Good Z a0 EL K own code maxL ret nm) {x0 x1 x2 x3 x4 x5 x6 x7 x8 x9 x10 x11 x12 x13 x14 x15 x16 x17 x18 x19 x20 x21 : Slot} {r : List Slot} {x : Int32} (hd : Dc code pc (.istore 21) 2 pc') (f : Go Z EL nw R Post K h S k n pc' (x0 :: x1 :: x2 :: x3 :: x4 :: x5 :: x6 :: x7 :: x8 :: x9 :: x10 :: x11 :: x12 :: x13 :: x14 :: x15 :: x16 :: x17 :: x18 :: x19 :: x20 :: .val (.int x) :: r) st) (hl : storeLocals (x0 :: x1 :: x2 :: x3 :: x4 :: x5 :: x6 :: x7 :: x8 :: x9 :: x10 :: x11 :: x12 :: x13 :: x14 :: x15 :: x16 :: x17 :: x18 :: x19 :: x20 :: x21 :: r).toArray 21 (.int x) = some (x0 :: x1 :: x2 :: x3 :: x4 :: x5 :: x6 :: x7 :: x8 :: x9 :: x10 :: x11 :: x12 :: x13 :: x14 :: x15 :: x16 :: x17 :: x18 :: x19 :: x20 :: .val (.int x) :: r).toArray := by rfl) : Go Z EL nw R Post K h S k n pc (x0 :: x1 :: x2 :: x3 :: x4 :: x5 :: x6 :: x7 :: x8 :: x9 :: x10 :: x11 :: x12 :: x13 :: x14 :: x15 :: x16 :: x17 :: x18 :: x19 :: x20 :: x21 :: r) (.int x :: st) := G.istoreG hd hl f
theorem Good.astore21 (G : Good Z a0 EL K own code maxL ret nm) {x0 x1 x2 x3 x4 x5 x6 x7 x8 x9 x10 x11 x12 x13 x14 x15 x16 x17 x18 x19 x20 x21 : Slot} {r : List Slot} {x : Value} (hd : Dc code pc (.astore 21) 2 pc') (f : Go Z EL nw R Post K h S k n pc' (x0 :: x1 :: x2 :: x3 :: x4 :: x5 :: x6 :: x7 :: x8 :: x9 :: x10 :: x11 :: x12 :: x13 :: x14 :: x15 :: x16 :: x17 :: x18 :: x19 :: x20 :: .val x :: r) st) (hv : x.isRef = true := by rfl) (hl : storeLocals (x0 :: x1 :: x2 :: x3 :: x4 :: x5 :: x6 :: x7 :: x8 :: x9 :: x10 :: x11 :: x12 :: x13 :: x14 :: x15 :: x16 :: x17 :: x18 :: x19 :: x20 :: x21 :: r).toArray 21 x = some (x0 :: x1 :: x2 :: x3 :: x4 :: x5 :: x6 :: x7 :: x8 :: x9 :: x10 :: x11 :: x12 :: x13 :: x14 :: x15 :: x16 :: x17 :: x18 :: x19 :: x20 :: .val x :: r).toArray := by rfl) : Go Z EL nw R Post K h S k n pc (x0 :: x1 :: x2 :: x3 :: x4 :: x5 :: x6 :: x7 :: x8 :: x9 :: x10 :: x11 :: x12 :: x13 :: x14 :: x15 :: x16 :: x17 :: x18 :: x19 :: x20 :: x21 :: r) (x :: st) := G.astoreG hd hv hl f
theorem Good.lstore21 (G : Good Z a0 EL K own code maxL ret nm) {x0 x1 x2 x3 x4 x5 x6 x7 x8 x9 x10 x11 x12 x13 x14 x15 x16 x17 x18 x19 x20 x21 y : Slot} {r : List Slot} {x : Int64} (hd : Dc code pc (.lstore 21) 2 pc') (f : Go Z EL nw R Post K h S k n pc' (x0 :: x1 :: x2 :: x3 :: x4 :: x5 :: x6 :: x7 :: x8 :: x9 :: x10 :: x11 :: x12 :: x13 :: x14 :: x15 :: x16 :: x17 :: x18 :: x19 :: x20 :: .val (.long x) :: .second :: r) st) (hl : storeLocals (x0 :: x1 :: x2 :: x3 :: x4 :: x5 :: x6 :: x7 :: x8 :: x9 :: x10 :: x11 :: x12 :: x13 :: x14 :: x15 :: x16 :: x17 :: x18 :: x19 :: x20 :: x21 :: y :: r).toArray 21 (.long x) = some (x0 :: x1 :: x2 :: x3 :: x4 :: x5 :: x6 :: x7 :: x8 :: x9 :: x10 :: x11 :: x12 :: x13 :: x14 :: x15 :: x16 :: x17 :: x18 :: x19 :: x20 :: .val (.long x) :: .second :: r).toArray := by rfl) : Go Z EL nw R Post K h S k n pc (x0 :: x1 :: x2 :: x3 :: x4 :: x5 :: x6 :: x7 :: x8 :: x9 :: x10 :: x11 :: x12 :: x13 :: x14 :: x15 :: x16 :: x17 :: x18 :: x19 :: x20 :: x21 :: y :: r) (.long x :: st) := G.lstoreG hd hl f
theorem Good.iinc21 (G : Good Z a0 EL K own code maxL ret nm) (z : Int32) {x0 x1 x2 x3 x4 x5 x6 x7 x8 x9 x10 x11 x12 x13 x14 x15 x16 x17 x18 x19 x20 : Slot} {r : List Slot} {c : Int} {x : Int32} (hd : Dc code pc (.iinc 21 c) 3 pc') (f : Go Z EL nw R Post K h S k n pc' (x0 :: x1 :: x2 :: x3 :: x4 :: x5 :: x6 :: x7 :: x8 :: x9 :: x10 :: x11 :: x12 :: x13 :: x14 :: x15 :: x16 :: x17 :: x18 :: x19 :: x20 :: .val (.int (x + z)) :: r) st) (hz : Int32.ofInt c = z := by decide) : Go Z EL nw R Post K h S k n pc (x0 :: x1 :: x2 :: x3 :: x4 :: x5 :: x6 :: x7 :: x8 :: x9 :: x10 :: x11 :: x12 :: x13 :: x14 :: x15 :: x16 :: x17 :: x18 :: x19 :: x20 :: .val (.int x) :: r) st := by subst hz; exact G.iincG hd rfl rfl f
end Plain
end Jvm.Own
namespace Jvm.Own
open Jvm Jvm.ClassFile Sem Op Lib Jvm.Free Jvm.Stand Jvm.LawKit Jvm.RoadKit Bundle
/-- the array at a holds just these values -/
def Al (Z : State) (h : Heap) (a : Addr) (ty : FieldType) (vs : List Value) : Prop := ∃ c : Cell, Arr Z h a c ty ∧ c.slots = vs.toArray ∧ vs.length < 2147483648 ∧ ∀ v ∈ vs, fits ty v = true
section AlFacts
variable {Z : State} {h h' : Heap} {a b : Addr} {ty : FieldType} {vs : List Value} {ws : List Addr} {sl : Nat} {v : Value} {C : String}
theorem Al.lt (F : Al Z h a ty vs) : a < h.size := by obtain ⟨c, A, -⟩ := F; exact A.lt
theorem Al.ext (F : Al Z h a ty vs) (E : Ext h h') : Al Z h' a ty vs := by obtain ⟨c, A, r⟩ := F; exact ⟨c, A.ext E, r⟩
theorem Al.other (F : Al Z h b ty vs) (W : Wr h h' a sl v) (q : b ≠ a) : Al Z h' b ty vs := by obtain ⟨c, A, r⟩ := F; exact ⟨c, A.other W q, r⟩
theorem Al.keep (F : Al Z h a ty vs) (K : Keep h h' ws) (q : a ∉ ws) : Al Z h' a ty vs := by obtain ⟨c, A, r⟩ := F; exact ⟨c, ⟨K.2.1 a c A.1 q, A.2⟩, r⟩
theorem Al.set (F : Al Z h a ty vs) (W : Wr h h' a sl v) (hv : fits ty v = true) : Al Z h' a ty (vs.set sl v) := by
  obtain ⟨c, A, r1, r2, r3⟩ := F
  refine ⟨_, A.same W, by simp [Cell.setSlot, r1], by simpa using r2, fun w hw => ?_⟩
  rcases List.mem_or_eq_of_mem_set hw with q | q
  · exact r3 w q
  · rw [q]; exact hv
theorem Al.len (F : Al Z h a ty vs) : vs.length < 2147483648 := by obtain ⟨c, A, r1, r2, r3⟩ := F; exact r2
theorem Al.arv (F : Al Z h a ty vs) (d : Value) : ∃ k, Arv Z h a k ty (Int32.ofNat vs.length) vs d := by
  obtain ⟨c, A, r1, r2, r3⟩ := F
  have e : (Int32.ofNat vs.length).toInt = (vs.length : Int) := len_toInt r2
  have e1 := back32 (n := Int32.ofNat vs.length) (by rw [Int32.lt_iff_toInt_lt, e]; simp)
  have e2 : (Int32.ofNat vs.length).toNatClampNeg = vs.length := by simp [Int32.toNatClampNeg, e]
  refine ⟨c.cls, c, A, rfl, by rw [r1, e2]; simp, by rw [Int32.lt_iff_toInt_lt, e]; simp, fun i hi => ?_, fun i hi => ?_⟩
  · rw [r1] at hi ⊢
    simp only [List.size_toArray] at hi
    simp [List.getD_eq_getElem?_getD, hi]
  · rw [r1] at hi
    simp only [List.size_toArray] at hi
    have : vs.getD i d = vs[i] := by simp [List.getD_eq_getElem?_getD, hi]
    rw [this]
    exact r3 _ (List.getElem_mem hi)
theorem Al.of_arv {k : ClassId} {z : Int32} {d : Value} (F : Arv Z h a k ty z vs d) (hl : z.toNatClampNeg = vs.length) : Al Z h a ty vs := by
  obtain ⟨c, A, r1, r2, r3, H, G⟩ := F
  have hs : c.slots.size = vs.length := r2.trans hl
  refine ⟨c, A, ?_, by rw [← hl]; exact (back32 r3).2, fun v hv => ?_⟩
  · apply Array.ext
    · simp [hs]
    · intro i h1 h2
      have q := H i h1
      rw [Array.getElem?_eq_getElem h1] at q
      have q' := Option.some.inj q
      rw [q']
      have h3 : i < vs.length := by rw [← hs]; exact h1
      simp [List.getD_eq_getElem?_getD, h3]
  · obtain ⟨i, hi, rfl⟩ := List.getElem_of_mem hv
    have := G i (by rw [hs]; exact hi)
    simpa [List.getD_eq_getElem?_getD, hi] using this
theorem Al.same {vs' : List Value} (F : Al Z h a ty vs) (G : Al Z h a ty vs') : vs = vs' := by
  obtain ⟨c, A, r1, -⟩ := F
  obtain ⟨c', A', r1', -⟩ := G
  have e := A.1.symm.trans A'.1
  cases e
  have := r1.symm.trans r1'
  simpa using this
theorem Al.neExa {a0 : Array Value} {cnt : Nat} (F : Al Z h b ty vs) (E : Exa Z h a C) (wi : (Cond.instantiable C cnt).before a0 Z = true) : a ≠ b := by
  obtain ⟨c, A, -⟩ := F; exact ne_arr E wi A
theorem ext_keep (E : Ext h h') (ws : List Addr) : Keep h h' ws := (Keep.refl h ws).ext E
theorem keep_nil_ext (K : Keep h h' []) : Ext h h' := ⟨K.1, fun a c q => K.2.1 a c q nin0⟩
theorem nat_idx {j : Int32} {i : Nat} (hj : j.toInt = (i : Int)) : ¬ j < 0 ∧ j.toNatClampNeg = i := by
  constructor
  · rw [Int32.lt_iff_toInt_lt, hj]; simp
  · simp [Int32.toNatClampNeg, hj]
theorem Sta.ext' {C n d : String} (E : Ext h h') (F : Sta Z h C n d v) : Sta Z h' C n d v := F.ext E
/-- a static's cell is none of the freshly made ones -/
theorem Sta.keep {C n d : String} (F : Sta Z h C n d v) (K : Keep h h' ws) (q : ∀ x ∈ ws, ∀ cell : Cell, h[x]? = some cell → cell.vm.isStatics = false) : Sta Z h' C n d v := by
  obtain ⟨cf, i, k, f, st, cell, h1, h2, h3, h4, h5, h6, r⟩ := F
  exact ⟨cf, i, k, f, st, cell, h1, h2, h3, h4, K.2.1 _ _ h5 (fun z => by have := q _ z _ h5; rw [h6] at this; cases this), h6, r⟩
/-- a static of the start stands, where all that was written is new -/
theorem Sta.old {C n d : String} (F : Sta Z Z.heap C n d v) (O : Ext Z.heap h) : Sta Z h C n d v := F.ext O
theorem Fld.oth {a0 : Array Value} {C O O' fn fn' d d' : String} {w : Value} (F : Fld Z h b O fn d w) (W : Wr h h' a (RoadKit.slotOf Z O' fn' d') v) (L1 : Laid Z a0 C O fn d) (L2 : Laid Z a0 C O' fn' d') (hn : fn ≠ fn') (h1 : (parseFieldDescriptor d).isSome = true) (h2 : (parseFieldDescriptor d').isSome = true) : Fld Z h' b O fn d w := by
  obtain ⟨t1, e1⟩ := Option.isSome_iff_exists.mp h1
  obtain ⟨t2, e2⟩ := Option.isSome_iff_exists.mp h2
  exact F.other W (Or.inr (slot_ne L1 L2 hn e1 e2))
end AlFacts
section Heap
variable {Z : State} {a0 : Array Value} {EL : List (String × Nat)} {nw : Bool} {R : Room} {Post : Pst} {K : Kx} {own : String} {code : ByteArray} {maxL : Nat} {ret : Option FieldType} {nm : String} {h h' : Heap} {S : List Addr} {k n pc pc' : Nat} {L : List Slot} {st : List Value} {l : Launch}
/-- a step that leaves the heap -/
theorem Go.calm {L' : List Slot} {st' : List Value} (G : Good Z a0 EL K own code maxL ret nm)
    (q : ∀ (T : State) (vm0 : Vm) (locs : List Loc), Stand K.p K.l K.e R (K.s.setVm vm0) K.m K.as K.below K.meth K.c T locs k n → Z.Warmed39 (K.s.setVm vm0).vm → (K.s.setVm vm0).vm.findClass own = some K.m.cls → T.heap = h →
      ∃ T', Stand K.p K.l K.e R (K.s.setVm vm0) K.m K.as K.below K.meth K.c T' locs k n ∧ T'.heap = h ∧ ∀ target, Steps K.p.tables K.e K.below (T'.setTop (mkF K.m pc' L'.toArray st')) target → Steps K.p.tables K.e K.below (T.setTop (mkF K.m pc L.toArray st)) target)
    (f : Go Z EL nw R Post K h S k n pc' L' st') : Go Z EL nw R Post K h S k n pc L st := fun T I => by
  obtain ⟨vm0, k0, locs, X, hS, hk0, hZ, e, r⟩ := I
  obtain ⟨T', X', e', stp⟩ := q T vm0 locs X hZ (G.hown hS) e
  exact (f T' ⟨vm0, k0, locs, X', hS, hk0, hZ, e', r⟩).step stp
/-- a step that makes one cell -/
theorem Go.grow {L' : List Slot} {st' : List Value} {k' n' : Nat} {P : Heap → Prop} (G : Good Z a0 EL K own code maxL ret nm)
    (q : ∀ (T : State) (vm0 : Vm) (locs : List Loc), Stand K.p K.l K.e R (K.s.setVm vm0) K.m K.as K.below K.meth K.c T locs k n → Z.Warmed39 (K.s.setVm vm0).vm → (K.s.setVm vm0).vm.findClass own = some K.m.cls → T.heap = h →
      ∃ T' h', Stand K.p K.l K.e R (K.s.setVm vm0) K.m K.as K.below K.meth K.c T' locs k' n' ∧ T'.heap = h' ∧ Ext h h' ∧ h.size < h'.size ∧ P h' ∧ ∀ target, Steps K.p.tables K.e K.below (T'.setTop (mkF K.m pc' L'.toArray st')) target → Steps K.p.tables K.e K.below (T.setTop (mkF K.m pc L.toArray st)) target)
    (f : ∀ h', Ext h h' → h.size < h'.size → P h' → Go Z EL nw R Post K h' (h.size :: S) k' n' pc' L' st') : Go Z EL nw R Post K h S k n pc L st := fun T I => by
  obtain ⟨vm0, k0, locs, X, hS, hk0, hZ, e, N, CH, hSf, hw, hO⟩ := I
  obtain ⟨T', h', X', e', E, hlt, hP, stp⟩ := q T vm0 locs X hZ (G.hown hS) e
  have hn0 : Z.heap.size ≤ h.size := hO.1
  refine (f h' E hlt hP T' ⟨vm0, k0, locs, X', hS, Nat.le_trans hk0 E.1, hZ, e', N, CH.trans (CHr.ext E CH.1), fun a ha => ?_, hw, ⟨Nat.le_trans hO.1 E.1, fun x c q => E.2 x c (hO.2 x c q)⟩⟩).step stp
  rcases List.mem_cons.mp ha with rfl | ha
  · exact ⟨hn0, hlt, Safe.ext E CH.1 (Safe.new (Nat.le_refl _))⟩
  · obtain ⟨b1, b2, b3⟩ := hSf a ha
    exact ⟨b1, Nat.lt_of_lt_of_le b2 E.1, Safe.ext E CH.1 b3⟩
/-- a step that writes one place of a cell of S -/
theorem Go.write {L' : List Slot} {st' : List Value} {a : Addr} {sl : Nat} {v : Value} (G : Good Z a0 EL K own code maxL ret nm) (ha : a ∈ S)
    (q : ∀ (T : State) (vm0 : Vm) (locs : List Loc), Stand K.p K.l K.e R (K.s.setVm vm0) K.m K.as K.below K.meth K.c T locs k n → Z.Warmed39 (K.s.setVm vm0).vm → (K.s.setVm vm0).vm.findClass own = some K.m.cls → T.heap = h →
      ∃ T' h', Stand K.p K.l K.e R (K.s.setVm vm0) K.m K.as K.below K.meth K.c T' (locs ++ [⟨a, sl⟩]) k n ∧ T'.heap = h' ∧ Wr h h' a sl v ∧ ∀ target, Steps K.p.tables K.e K.below (T'.setTop (mkF K.m pc' L'.toArray st')) target → Steps K.p.tables K.e K.below (T.setTop (mkF K.m pc L.toArray st)) target)
    (f : ∀ h', Wr h h' a sl v → Go Z EL nw R Post K h' S k n pc' L' st') : Go Z EL nw R Post K h S k n pc L st := fun T I => by
  obtain ⟨vm0, k0, locs, X, hS, hk0, hZ, e, N, CH, hSf, hw, hO⟩ := I
  obtain ⟨T', h', X', e', W, stp⟩ := q T vm0 locs X hZ (G.hown hS) e
  obtain ⟨c1, c2, c3⟩ := hSf a ha
  refine (f h' W T' ⟨vm0, k0, _, X', hS, by rw [W.size]; exact hk0, hZ, e', Fr.snoc X' N c1, CH.trans (CHr.wr W c3 CH.1), fun x hx => ?_, hw, ⟨by rw [W.size]; exact hO.1, fun x c q => (Keep.of_wr W).2.1 x c (hO.2 x c q) (fun z => by cases List.mem_singleton.mp z; exact absurd (Array.getElem?_eq_some_iff.mp q).1 (Nat.not_lt.mpr c1))⟩⟩).step stp
  obtain ⟨b1, b2, b3⟩ := hSf x hx
  exact ⟨b1, by rw [W.size]; exact b2, Safe.wr W c3 CH.1 b3⟩
theorem Good.getF (G : Good Z a0 EL K own code maxL ret nm) {R0 O fn d : String} {index : Nat} {a : Addr} {v : Value} (hd : Dc code pc (.getfield index) 3 pc') (w : (Cond.fieldLink own index R0 fn d).before a0 Z = true) (F : Fld Z h a O fn d v) (f : Go Z EL nw R Post K h S k n pc' L (v :: st)) (via : Via Z R0 O fn d := by exact Via.refl) : Go Z EL nw R Post K h S k n pc L (.ref a :: st) := by
  obtain ⟨hd, rfl⟩ := hd
  refine Go.calm G (fun T vm0 locs X hZ hown e => ?_) f
  exact getF X G.1 hZ hown (host := "") (Or.inl w) via e F (g := mkF K.m pc L.toArray (.ref a :: st)) rfl rfl (hb G.2.1 hd)
theorem Good.getS (G : Good Z a0 EL K own code maxL ret nm) {R0 O fn d : String} {index : Nat} {v : Value} (hd : Dc code pc (.getstatic index) 3 pc') (w : (Cond.fieldLink own index R0 fn d).before a0 Z = true) (F : Sta Z Z.heap O fn d v) (f : Go Z EL nw R Post K h S k n pc' L (v :: st)) (via : Via Z R0 O fn d := by exact Via.refl) : Go Z EL nw R Post K h S k n pc L st := by
  obtain ⟨hd, rfl⟩ := hd
  refine Go.oldIn fun hO => ?_
  have F := F.ext hO
  refine Go.calm G (fun T vm0 locs X hZ hown e => ?_) f
  exact getS X G.1 hZ hown (host := "") w via e F (g := mkF K.m pc L.toArray st) rfl (hb G.2.1 hd)
theorem Good.ldcI (G : Good Z a0 EL K own code maxL ret nm) {index : Nat} {v : Int32} (hd : Dc code pc (.ldc index) 2 pc') (w : (Cond.constant own index v).before a0 Z = true) (f : Go Z EL nw R Post K h S k n pc' L (.int v :: st)) : Go Z EL nw R Post K h S k n pc L st := by
  obtain ⟨hd, rfl⟩ := hd
  refine Go.calm G (fun T vm0 locs X hZ hown e => ⟨T, X, e, ?_⟩) f
  exact X.ldcInt G.1 hown (mvT hZ w) (g := mkF K.m pc L.toArray st) rfl (hb G.2.1 hd)
theorem Good.ldc2J (G : Good Z a0 EL K own code maxL ret nm) {index : Nat} {v : Int64} (hd : Dc code pc (.ldc2_w index) 3 pc') (w : (Cond.constantLong own index v).before a0 Z = true) (f : Go Z EL nw R Post K h S k n pc' L (.long v :: st)) : Go Z EL nw R Post K h S k n pc L st := by
  obtain ⟨hd, rfl⟩ := hd
  refine Go.calm G (fun T vm0 locs X hZ hown e => ⟨T, X, e, ?_⟩) f
  exact X.ldc2Long G.1 hown (mvT hZ w) (g := mkF K.m pc L.toArray st) rfl (hb G.2.1 hd)
theorem Good.castR (G : Good Z a0 EL K own code maxL ret nm) {C : String} {index : Nat} {a : Addr} (hd : Dc code pc (.checkcast index) 3 pc') (w : (Cond.classLink own index C).before a0 Z = true) (F : Ins Z h a C true) (f : Go Z EL nw R Post K h S k n pc' L (.ref a :: st)) : Go Z EL nw R Post K h S k n pc L (.ref a :: st) := by
  obtain ⟨hd, rfl⟩ := hd
  refine Go.calm G (fun T vm0 locs X hZ hown e => ?_) f
  exact castY X G.1 hZ hown w e F (g := mkF K.m pc L.toArray (.ref a :: st)) rfl rfl (hb G.2.1 hd)
theorem Good.instY (G : Good Z a0 EL K own code maxL ret nm) {C : String} {index : Nat} {a : Addr} (hd : Dc code pc (.instanceof index) 3 pc') (w : (Cond.classLink own index C).before a0 Z = true) (F : Ins Z h a C true) (f : Go Z EL nw R Post K h S k n pc' L (.int 1 :: st)) : Go Z EL nw R Post K h S k n pc L (.ref a :: st) := by
  obtain ⟨hd, rfl⟩ := hd
  refine Go.calm G (fun T vm0 locs X hZ hown e => ?_) f
  exact instY X G.1 hZ hown w e F (g := mkF K.m pc L.toArray (.ref a :: st)) rfl rfl (hb G.2.1 hd)
theorem Good.instNo (G : Good Z a0 EL K own code maxL ret nm) {C D : String} {index : Nat} {a : Addr} (hd : Dc code pc (.instanceof index) 3 pc') (w : (Cond.classLink own index C).before a0 Z = true) (E : Exa Z h a D) (F : ∃ c t, Z.vm.findClass D = some c ∧ Z.vm.findClass C = some t ∧ Z.vm.assignable c t = false) (f : Go Z EL nw R Post K h S k n pc' L (.int 0 :: st)) : Go Z EL nw R Post K h S k n pc L (.ref a :: st) := by
  obtain ⟨hd, rfl⟩ := hd
  refine Go.calm G (fun T vm0 locs X hZ hown e => ?_) f
  exact instNo X G.1 hZ hown w e E F (g := mkF K.m pc L.toArray (.ref a :: st)) rfl rfl (hb G.2.1 hd)
theorem Good.instNull (G : Good Z a0 EL K own code maxL ret nm) {index : Nat} (hd : Dc code pc (.instanceof index) 3 pc') (f : Go Z EL nw R Post K h S k n pc' L (.int 0 :: st)) : Go Z EL nw R Post K h S k n pc L (.null :: st) := by
  obtain ⟨hd, rfl⟩ := hd
  refine Go.calm G (fun T vm0 locs X hZ hown e => ⟨T, X, e, ?_⟩) f
  exact X.instanceofNull G.1 (g := mkF K.m pc L.toArray (.null :: st)) rfl rfl (hb G.2.1 hd)
theorem Good.castNull (G : Good Z a0 EL K own code maxL ret nm) {index : Nat} (hd : Dc code pc (.checkcast index) 3 pc') (f : Go Z EL nw R Post K h S k n pc' L (.null :: st)) : Go Z EL nw R Post K h S k n pc L (.null :: st) := by
  obtain ⟨hd, rfl⟩ := hd
  refine Go.calm G (fun T vm0 locs X hZ hown e => ⟨T, X, e, ?_⟩) f
  exact X.checkcastNull G.1 (g := mkF K.m pc L.toArray (.null :: st)) rfl rfl (hb G.2.1 hd)
theorem Good.alen (G : Good Z a0 EL K own code maxL ret nm) {a : Addr} {ty : FieldType} {vs : List Value} (z : Int32) (hd : Dc code pc .arraylength 1 pc') (A : Al Z h a ty vs) (hz : z.toInt = (vs.length : Int)) (f : Go Z EL nw R Post K h S k n pc' L (.int z :: st)) : Go Z EL nw R Post K h S k n pc L (.ref a :: st) := by
  obtain ⟨hd, rfl⟩ := hd
  obtain ⟨c, A1, A2, A3, A4⟩ := A
  have ez : c.slots.size.toInt32 = z := by
    apply Int32.toInt_inj.mp
    rw [hz, A2]
    simp only [List.size_toArray]
    exact len_toInt A3
  refine Go.calm G (fun T vm0 locs X hZ hown e => ⟨T, X, e, fun t q => ?_⟩) f
  refine X.arraylength G.1 (by rw [e]; exact A1.1) (State.isArrayOf_alike hZ.alike A1.2.1) (g := mkF K.m pc L.toArray (.ref a :: st)) rfl rfl (hb G.2.1 hd) t ?_
  rw [ez]; exact q
theorem Good.caload (G : Good Z a0 EL K own code maxL ret nm) {a : Addr} {vs : List Value} {j : Int32} {i : Nat} {v : Value} (hd : Dc code pc .caload 1 pc') (A : Al Z h a .char vs) (hj : j.toInt = (i : Int)) (hv : vs[i]? = some v) (f : Go Z EL nw R Post K h S k n pc' L (v :: st)) : Go Z EL nw R Post K h S k n pc L (.int j :: .ref a :: st) := by
  obtain ⟨hd, rfl⟩ := hd
  obtain ⟨c, A1, A2, A3, A4⟩ := A
  obtain ⟨j1, j2⟩ := nat_idx hj
  have hlt := (List.getElem?_eq_some_iff.mp hv).1
  refine Go.calm G (fun T vm0 locs X hZ hown e => ⟨T, X, e, fun t q => ?_⟩) f
  exact X.caload G.1 (by rw [e]; exact A1.1) (State.isArrayOf_alike hZ.alike A1.2.1) A1.2.2 (by rw [j2, A2]; simp only [List.size_toArray]; rintro (q | q); exact j1 q; omega) (by rw [j2, A2]; simpa using hv) (g := mkF K.m pc L.toArray (.int j :: .ref a :: st)) rfl rfl (hb G.2.1 hd) t q
theorem Good.baload (G : Good Z a0 EL K own code maxL ret nm) {a : Addr} {vs : List Value} {j : Int32} {i : Nat} {v : Value} (hd : Dc code pc .baload 1 pc') (A : Al Z h a .byte vs) (hj : j.toInt = (i : Int)) (hv : vs[i]? = some v) (f : Go Z EL nw R Post K h S k n pc' L (v :: st)) : Go Z EL nw R Post K h S k n pc L (.int j :: .ref a :: st) := by
  obtain ⟨hd, rfl⟩ := hd
  obtain ⟨c, A1, A2, A3, A4⟩ := A
  obtain ⟨j1, j2⟩ := nat_idx hj
  have hlt := (List.getElem?_eq_some_iff.mp hv).1
  refine Go.calm G (fun T vm0 locs X hZ hown e => ⟨T, X, e, fun t q => ?_⟩) f
  exact X.baloadBytes G.1 (by rw [e]; exact A1.1) (State.isArrayOf_alike hZ.alike A1.2.1) A1.2.2 (by rw [j2, A2]; simp only [List.size_toArray]; rintro (q | q); exact j1 q; omega) (by rw [j2, A2]; simpa using hv) (g := mkF K.m pc L.toArray (.int j :: .ref a :: st)) rfl rfl (hb G.2.1 hd) t q
theorem Good.laload (G : Good Z a0 EL K own code maxL ret nm) {a : Addr} {vs : List Value} {j : Int32} {i : Nat} {v : Value} (hd : Dc code pc .laload 1 pc') (A : Al Z h a .long vs) (hj : j.toInt = (i : Int)) (hv : vs[i]? = some v) (f : Go Z EL nw R Post K h S k n pc' L (v :: st)) : Go Z EL nw R Post K h S k n pc L (.int j :: .ref a :: st) := by
  obtain ⟨hd, rfl⟩ := hd
  obtain ⟨c, A1, A2, A3, A4⟩ := A
  obtain ⟨j1, j2⟩ := nat_idx hj
  have hlt := (List.getElem?_eq_some_iff.mp hv).1
  refine Go.calm G (fun T vm0 locs X hZ hown e => ⟨T, X, e, fun t q => ?_⟩) f
  exact X.laload G.1 (by rw [e]; exact A1.1) (State.isArrayOf_alike hZ.alike A1.2.1) A1.2.2 (by rw [j2, A2]; simp only [List.size_toArray]; rintro (q | q); exact j1 q; omega) (by rw [j2, A2]; simpa using hv) (g := mkF K.m pc L.toArray (.int j :: .ref a :: st)) rfl rfl (hb G.2.1 hd) t q
theorem Good.aaload (G : Good Z a0 EL K own code maxL ret nm) {a : Addr} {ty : FieldType} {vs : List Value} {j : Int32} {i : Nat} {v : Value} (hd : Dc code pc .aaload 1 pc') (A : Al Z h a ty vs) (hty : ty.isReference = true) (hj : j.toInt = (i : Int)) (hv : vs[i]? = some v) (f : Go Z EL nw R Post K h S k n pc' L (v :: st)) : Go Z EL nw R Post K h S k n pc L (.int j :: .ref a :: st) := by
  obtain ⟨hd, rfl⟩ := hd
  obtain ⟨c, A1, A2, A3, A4⟩ := A
  obtain ⟨j1, j2⟩ := nat_idx hj
  have hlt := (List.getElem?_eq_some_iff.mp hv).1
  refine Go.calm G (fun T vm0 locs X hZ hown e => ⟨T, X, e, fun t q => ?_⟩) f
  exact X.aaload G.1 (by rw [e]; exact A1.1) (State.isArrayOf_alike hZ.alike A1.2.1) hty A1.2.2 (by rw [j2, A2]; simp only [List.size_toArray]; rintro (q | q); exact j1 q; omega) (by rw [j2, A2]; simpa using hv) (g := mkF K.m pc L.toArray (.int j :: .ref a :: st)) rfl rfl (hb G.2.1 hd) t q
theorem Good.castore (G : Good Z a0 EL K own code maxL ret nm) {a : Addr} {vs : List Value} {j x : Int32} {i : Nat} (hd : Dc code pc .castore 1 pc') (ha : a ∈ S) (A : Al Z h a .char vs) (hj : j.toInt = (i : Int)) (hi : i < vs.length) (f : ∀ h', Wr h h' a i (.int (nar .char x)) → Al Z h' a .char (vs.set i (.int (nar .char x))) → Go Z EL nw R Post K h' S k n pc' L st) : Go Z EL nw R Post K h S k n pc L (.int x :: .int j :: .ref a :: st) := by
  obtain ⟨hd, rfl⟩ := hd
  obtain ⟨c, A1, A2, A3, A4⟩ := id A
  obtain ⟨j1, j2⟩ := nat_idx hj
  subst j2
  refine Go.write G ha (fun T vm0 locs X hZ hown e => ?_) (fun h' W => f h' W (A.set W (fits_nar_char _)))
  exact stC X G.1 hZ e A1 (by rw [A2]; simp only [List.size_toArray]; rintro (q | q); exact j1 q; omega) (g := mkF K.m pc L.toArray (.int x :: .int j :: .ref a :: st)) rfl rfl (hb G.2.1 hd)
theorem Good.bastore (G : Good Z a0 EL K own code maxL ret nm) {a : Addr} {vs : List Value} {j x : Int32} {i : Nat} (hd : Dc code pc .bastore 1 pc') (ha : a ∈ S) (A : Al Z h a .byte vs) (hj : j.toInt = (i : Int)) (hi : i < vs.length) (f : ∀ h', Wr h h' a i (.int (nar .byte x)) → Al Z h' a .byte (vs.set i (.int (nar .byte x))) → Go Z EL nw R Post K h' S k n pc' L st) : Go Z EL nw R Post K h S k n pc L (.int x :: .int j :: .ref a :: st) := by
  obtain ⟨hd, rfl⟩ := hd
  obtain ⟨c, A1, A2, A3, A4⟩ := id A
  obtain ⟨j1, j2⟩ := nat_idx hj
  subst j2
  refine Go.write G ha (fun T vm0 locs X hZ hown e => ?_) (fun h' W => f h' W (A.set W (fits_nar_byte _)))
  exact stB X G.1 hZ e A1 (by rw [A2]; simp only [List.size_toArray]; rintro (q | q); exact j1 q; omega) (g := mkF K.m pc L.toArray (.int x :: .int j :: .ref a :: st)) rfl rfl (hb G.2.1 hd)
theorem Good.lastore (G : Good Z a0 EL K own code maxL ret nm) {a : Addr} {vs : List Value} {j : Int32} {x : Int64} {i : Nat} (hd : Dc code pc .lastore 1 pc') (ha : a ∈ S) (A : Al Z h a .long vs) (hj : j.toInt = (i : Int)) (hi : i < vs.length) (f : ∀ h', Wr h h' a i (.long x) → Al Z h' a .long (vs.set i (.long x)) → Go Z EL nw R Post K h' S k n pc' L st) : Go Z EL nw R Post K h S k n pc L (.long x :: .int j :: .ref a :: st) := by
  obtain ⟨hd, rfl⟩ := hd
  obtain ⟨c, A1, A2, A3, A4⟩ := id A
  obtain ⟨j1, j2⟩ := nat_idx hj
  subst j2
  refine Go.write G ha (fun T vm0 locs X hZ hown e => ?_) (fun h' W => f h' W (A.set W rfl))
  exact stJ X G.1 hZ e A1 (by rw [A2]; simp only [List.size_toArray]; rintro (q | q); exact j1 q; omega) (g := mkF K.m pc L.toArray (.long x :: .int j :: .ref a :: st)) rfl rfl (hb G.2.1 hd)
theorem Good.aastore (G : Good Z a0 EL K own code maxL ret nm) {a : Addr} {ty : FieldType} {vs : List Value} {j : Int32} {v : Value} {i : Nat} (hd : Dc code pc .aastore 1 pc') (ha : a ∈ S) (A : Al Z h a ty vs) (hty : ty.isReference = true) (F : Sto Z h a v) (hfv : fits ty v = true) (hj : j.toInt = (i : Int)) (hi : i < vs.length) (f : ∀ h', Wr h h' a i v → Al Z h' a ty (vs.set i v) → Go Z EL nw R Post K h' S k n pc' L st) : Go Z EL nw R Post K h S k n pc L (v :: .int j :: .ref a :: st) := by
  obtain ⟨hd, rfl⟩ := hd
  obtain ⟨c, A1, A2, A3, A4⟩ := id A
  obtain ⟨j1, j2⟩ := nat_idx hj
  subst j2
  refine Go.write G ha (fun T vm0 locs X hZ hown e => ?_) (fun h' W => f h' W (A.set W hfv))
  exact stR X G.1 hZ e A1 (by rw [A2]; simp only [List.size_toArray]; rintro (q | q); exact j1 q; omega) hty F (g := mkF K.m pc L.toArray (v :: .int j :: .ref a :: st)) rfl rfl (hb G.2.1 hd)
theorem Good.putF (G : Good Z a0 EL K own code maxL ret nm) {R0 O fn d C : String} {index kk : Nat} {ty : FieldType} {a : Addr} {v old : Value} (hd : Dc code pc (.putfield index) 3 pc') (w : (Cond.fieldLink own index R0 fn d).before a0 Z = true) (F : Fld Z h a O fn d old) (E : Exa Z h a C) (ha : a ∈ S)
    (Ly : (Cond.lays C O fn d).before a0 Z = true ∨ ((Cond.laysFinal C O fn d).before a0 Z = true ∧ own = O ∧ nm = "<init>")) (wi : (Cond.instantiable C kk).before a0 Z = true) (hty : parseFieldDescriptor d = some ty) (hn : narrow ty v = v) (hf : fits ty v = true)
    (f : ∀ h', Wr h h' a (RoadKit.slotOf Z O fn d) v → Fld Z h' a O fn d v → Exa Z h' a C → Go Z EL nw R Post K h' S k n pc' L st) (via : Via Z R0 O fn d := by exact Via.refl) : Go Z EL nw R Post K h S k n pc L (v :: .ref a :: st) := by
  obtain ⟨hd, rfl⟩ := hd
  refine Go.write G ha (fun T vm0 locs X hZ hown e => ?_) (fun h' W => f h' W (F.same W) (E.wr W))
  exact putF X G.1 hZ hown (host := "") (Or.inl w) via e F E (Ly.imp id fun q => ⟨q.1, q.2.1, G.2.2.2.2.2.1.trans q.2.2⟩) wi hty hn hf (g := mkF K.m pc L.toArray (v :: .ref a :: st)) rfl rfl (hb G.2.1 hd)
theorem Good.newO (G : Good Z a0 EL K own code maxL ret nm) {C : String} {index cnt : Nat} (hd : Dc code pc (.new index) 3 pc') (w : (Cond.classLink own index C).before a0 Z = true) (wi : (Cond.instantiable C cnt).before a0 Z = true) (wz : (Cond.initialized C).before a0 Z = true)
    (f : ∀ h', Ext h h' → h.size < h'.size → (Exa Z h' h.size C ∧ ∀ {O fn d : String} {ty : FieldType}, Laid Z a0 C O fn d → parseFieldDescriptor d = some ty → Fld Z h' h.size O fn d (defaultValue ty)) → Go Z EL nw R Post K h' (h.size :: S) (k + 1) (n + cnt) pc' L (.ref h.size :: st)) (hc : k + 1 ≤ R.cells := by decide) (hl : n + cnt ≤ R.slots := by decide) : Go Z EL nw R Post K h S k n pc L st := by
  obtain ⟨hd, rfl⟩ := hd
  refine Go.grow G (fun T vm0 locs X hZ hown e => ?_) f
  obtain ⟨T', h', X', e', E, A, D, -, stp⟩ := newO X G.1 hZ hown w wi wz e (g := mkF K.m pc L.toArray st) rfl (hb G.2.1 hd) hc hl
  exact ⟨T', h', X', e', E, A.lt, ⟨A, D⟩, stp⟩
theorem Good.newA (G : Good Z a0 EL K own code maxL ret nm) {aty : ArrayType} {j : Int32} (i cap : Nat) (hd : Dc code pc (.newarray aty) 2 pc') (w : (Cond.arrayClass (newarray.typeOf aty)).before a0 Z = true) (hj : j.toInt = (i : Int)) (hi : i ≤ cap)
    (f : ∀ h', Ext h h' → h.size < h'.size → Al Z h' h.size (newarray.typeOf aty) (List.replicate i (defaultValue (newarray.typeOf aty))) → Go Z EL nw R Post K h' (h.size :: S) (k + 1) (n + cap) pc' L (.ref h.size :: st)) (hb' : cap * 8 ≤ 536870912 := by decide) (hc : k + 1 ≤ R.cells := by decide) (hl : n + cap ≤ R.slots := by decide) : Go Z EL nw R Post K h S k n pc L (.int j :: st) := by
  obtain ⟨hd, rfl⟩ := hd
  obtain ⟨j1, j2⟩ := nat_idx hj
  refine Go.grow G (fun T vm0 locs X hZ hown e => ?_) f
  obtain ⟨T', h', cA, X', e', E, A, stp⟩ := newP X G.1 hZ w e (g := mkF K.m pc L.toArray (.int j :: st)) rfl (hb G.2.1 hd) rfl j1 (by rw [j2]; exact hi) hb' hc hl
  exact ⟨T', h', X', e', E, A.lt, ⟨_, A, by simp [RoadKit.newA, j2], by simp; omega, fun v hv => by rw [List.eq_of_mem_replicate hv]; cases aty <;> rfl⟩, stp⟩
theorem Good.newR (G : Good Z a0 EL K own code maxL ret nm) {C : String} {index : Nat} {j : Int32} (i cap : Nat) (hd : Dc code pc (.anewarray index) 3 pc') (w1 : (Cond.classLink own index C).before a0 Z = true) (w2 : (Cond.arrayOver (.object C)).before a0 Z = true) (hj : j.toInt = (i : Int)) (hi : i ≤ cap)
    (f : ∀ h', Ext h h' → h.size < h'.size → (Al Z h' h.size (.object C) (List.replicate i .null) ∧ ∃ c cA, Arr Z h' h.size c (.object C) ∧ c.cls = cA ∧ Ovr Z cA C) → Go Z EL nw R Post K h' (h.size :: S) (k + 1) (n + cap) pc' L (.ref h.size :: st)) (hb' : cap * 8 ≤ 536870912 := by decide) (hc : k + 1 ≤ R.cells := by decide) (hl : n + cap ≤ R.slots := by decide) : Go Z EL nw R Post K h S k n pc L (.int j :: st) := by
  obtain ⟨hd, rfl⟩ := hd
  obtain ⟨j1, j2⟩ := nat_idx hj
  refine Go.grow G (fun T vm0 locs X hZ hown e => ?_) f
  obtain ⟨T', h', cA, X', e', E, A, O, stp⟩ := newR X G.1 hZ hown w1 w2 e (g := mkF K.m pc L.toArray (.int j :: st)) rfl (hb G.2.1 hd) rfl j1 (by rw [j2]; exact hi) hb' hc hl
  exact ⟨T', h', X', e', E, A.lt, ⟨⟨_, A, by simp [RoadKit.newA, j2, defaultValue], by simp; omega, fun v hv => by rw [List.eq_of_mem_replicate hv]; rfl⟩, _, cA, A, rfl, O⟩, stp⟩
theorem Good.initO (G : Good Z a0 EL K own code maxL ret nm) {idx : Nat} {a : Addr} (hd : Dc code pc (.invokespecial idx) 3 pc') (w1 : (Cond.methodLink own idx Lib.objectInit).before a0 Z = true) (w2 : (Cond.instanceMethod Lib.objectInit).before a0 Z = true) (w3 : (Cond.code Lib.objectInit ⟨#[0xb1]⟩ 1 none).before a0 Z = true)
    (f : Go Z EL nw R Post K h S k n pc' L st) (hL : L.length = maxL := by rfl) (hf : 1 ≤ R.frames := by decide) (hl : (st.map fun v => v.category).sum + 12 ≤ R.locals := by exact Nat.le_of_ble_eq_true rfl) : Go Z EL nw R Post K h S k n pc L (.ref a :: st) := by
  obtain ⟨hd, rfl⟩ := hd
  refine Go.calm G (fun T vm0 locs X hZ hown e => ?_) f
  exact initO X G.1 hZ hown w1 w2 w3 e (g := mkF K.m pc L.toArray (.ref a :: st)) rfl (by rw [G.2.2.1]; simpa using hL) rfl (hb G.2.1 hd) hf (W := (st.map fun v => v.category).sum) (by show 2 * 0 + _ ≤ _; omega) hl
/-- System.arraycopy of plain components, into a cell of S -/
theorem Good.acopy (G : Good Z a0 EL K own code maxL ret nm) {index : Nat} {a b : Addr} {ty : FieldType} {vs vd : List Value} {sp dp nn : Int32} (i j m : Nat) (hd : Dc code pc (.invokestatic index) 3 pc') (w1 : (Cond.methodLink own index Jvm.Stand.acN).before a0 Z = true) (w2 : (Cond.native Jvm.Stand.acN).before a0 Z = true) (w3 : (Cond.static Jvm.Stand.acN).before a0 Z = true) (w4 : (Cond.initialized "java/lang/System").before a0 Z = true)
    (A : Al Z h a ty vs) (B : Al Z h b ty vd) (hty : refKind ty = false) (hb' : b ∈ S) (hi : sp.toInt = (i : Int)) (hj : dp.toInt = (j : Int)) (hm : nn.toInt = (m : Int)) (h4 : i + m ≤ vs.length) (h5 : j + m ≤ vd.length)
    (f : ∀ h', Keep h h' [b] → Al Z h' b ty (vd.take j ++ (vs.drop i).take m ++ vd.drop (j + m)) → Go Z EL nw R Post K h' S k n pc' L st) (hL : L.length = maxL := by rfl) (hf : 1 ≤ R.frames := by decide) (hl : (st.map fun v => v.category).sum + (nativeFrameWords "java/lang/System" "arraycopy" 5 + 11) ≤ R.locals := by exact Nat.le_of_ble_eq_true rfl) :
    Go Z EL nw R Post K h S k n pc L (.int nn :: .int dp :: .ref b :: .int sp :: .ref a :: st) := fun T I => by
  obtain ⟨hd, rfl⟩ := hd
  obtain ⟨vm0, k0, locs, X, hS, hk0, hZ, e, N, CH, hSf, hw, hO⟩ := I
  obtain ⟨c1, c2, c3⟩ := hSf b hb'
  obtain ⟨ka, Av⟩ := A.arv (.int 0)
  obtain ⟨kb, Bv⟩ := B.arv (.int 0)
  obtain ⟨i1, i2⟩ := nat_idx hi
  obtain ⟨j1, j2⟩ := nat_idx hj
  obtain ⟨m1, m2⟩ := nat_idx hm
  have ea : (Int32.ofNat vs.length).toNatClampNeg = vs.length := by simp [Int32.toNatClampNeg, len_toInt A.len]
  have eb : (Int32.ofNat vd.length).toNatClampNeg = vd.length := by simp [Int32.toNatClampNeg, len_toInt B.len]
  have hus : (vs.drop i).take m = (List.range nn.toNatClampNeg).map fun q => vs.getD (sp.toNatClampNeg + q) (.int 0) := by
    rw [m2, i2]
    apply List.ext_getElem
    · simp; omega
    · intro q q1 q2
      simp only [List.length_map, List.length_range] at q2
      have : i + q < vs.length := by omega
      simp [List.getD_eq_getElem?_getD, this]
  obtain ⟨T', h', L', X', e', N', Kp, B', stp⟩ := cpA X G.1 hZ (G.hown hS) w1 w2 w3 w4 e Av Bv (Or.inl ⟨rfl, hty⟩) i1 j1 m1 (by rw [i2, m2, ea]; exact h4) (by rw [j2, m2, eb]; exact h5) hus (by rw [j2, m2]; exact h5) N c1 (g := mkF K.m pc L.toArray (.int nn :: .int dp :: .ref b :: .int sp :: .ref a :: st)) rfl (by rw [G.2.2.1]; simpa using hL) rfl (hb G.2.1 hd) hf (W := (st.map fun v => v.category).sum) (by show 2 * 0 + _ ≤ _; omega) hl
  rw [j2, m2] at B'
  have sfb : ∀ x ∈ [b], Safe Z EL vm0 h x := fun x hx => by cases List.mem_singleton.mp hx; exact c3
  have hC := CHr.keep Kp sfb CH.1
  refine (f h' Kp (Al.of_arv B' (by rw [eb]; simp; omega)) T' ⟨vm0, k0, L', X', hS, Nat.le_trans hk0 Kp.1, hZ, e', N', CH.trans hC, fun x hx => ?_, hw, ⟨Nat.le_trans hO.1 Kp.1, fun x c q => Kp.2.1 x c (hO.2 x c q) (fun z => by cases List.mem_singleton.mp z; exact absurd (Array.getElem?_eq_some_iff.mp q).1 (Nat.not_lt.mpr c1))⟩⟩).step stp
  obtain ⟨b1, b2, b3⟩ := hSf x hx
  exact ⟨b1, Nat.lt_of_lt_of_le b2 Kp.1, Safe.keep Kp sfb CH.1 b3⟩
end Heap
end Jvm.Own
namespace Jvm.Own
open Jvm Jvm.ClassFile Sem Op Lib Jvm.Free Jvm.Stand Jvm.LawKit Jvm.RoadKit Bundle
def PreB (R rm : Room) (h : Heap) (as : Array Value) (A : Pt) (a : Array Value) : Prop := a = as ∧ A.U.heap = h ∧ A.cells + rm.cells ≤ R.cells ∧ A.slots + rm.slots ≤ R.slots
def PstB (Z : State) (EL : List (String × Nat)) (nw : Bool) (rm : Room) (h : Heap) (Post' : Pst) (s : State) (vm0 : Vm) (A : Pt) (_a : Array Value) (v : Option Value) (B : Pt) : Prop :=
  ∃ L S', Post' v B.U.heap S' ∧ Fr Z.heap.size L ∧ (∀ x ∈ S', Z.heap.size ≤ x ∧ x < B.U.heap.size ∧ Safe Z EL B.U.vm B.U.heap x) ∧ B.locs = A.locs ++ L ∧ B.cells = A.cells + rm.cells ∧ B.slots = A.slots + rm.slots ∧ CHr Z EL vm0 h B.U.vm B.U.heap ∧ (nw = true → (s.setVm vm0).WarmedH B.U.vm) ∧ Ext Z.heap B.U.heap
section Calls
variable {Z : State} {a0 : Array Value} {EL : List (String × Nat)} {nw : Bool} {R : Room} {Post : Pst} {K : Kx} {own : String} {code : ByteArray} {maxL : Nat} {ret : Option FieldType} {nm : String} {h h' : Heap} {S : List Addr} {k n pc pc' : Nat} {L : List Slot} {st rest : List Value} {l : Launch}
variable {y z : MethodName} {bytes : ByteArray} {maxL' : Nat} {ret' : Option FieldType} {rm : Room} {as : Array Value} {S0 : List Addr} {Post' : Pst} {ps : List FieldType} {rr : Option FieldType} {C : String} {index : Nat} {a : Addr}
theorem Con.back {p : Program} {e : Env} {below : List Frame} {s : State} {sargs : Array Value} {len W : Nat} {vm0 : Vm} (c : Con l Z EL nw y bytes maxL' ret' [] rm as h S0 Post') (hZ : Z.Warmed39 vm0) (wc : (Cond.code y bytes maxL' ret').before a0 Z = true) (wz : (Cond.initialized y.cls).before a0 Z = true)
    (hf : rm.frames + 1 ≤ R.frames) (hl : W + (maxL' + 11) + rm.locals ≤ R.locals) (hEL : EW Z a0 EL) (H : CHv Z EL vm0 h) (hSf : ∀ x ∈ S0, Z.heap.size ≤ x ∧ x < h.size ∧ Safe Z EL vm0 h x) (hO : Ext Z.heap h) :
    BackS l R p e below (s.setVm vm0) sargs y len W (PreB R rm h as) (PstB Z EL nw rm h Post' s vm0) :=
  BackS.of_freeW (bytes := bytes) (maxL := maxL') (ret := ret') (E := fun _ first o t L k n => k = rm.cells ∧ n = rm.slots ∧ (∃ v S', o = .returned v ∧ Post' v t.heap S' ∧ Fr Z.heap.size L ∧ (∀ x ∈ S', Z.heap.size ≤ x ∧ x < t.heap.size ∧ Safe Z EL t.vm t.heap x)) ∧ CHr Z EL first.vm first.heap t.vm t.heap ∧ (nw = true → first.WarmedH t.vm) ∧ Ext Z.heap t.heap) c hf hl
    (fun m meth c A a Y hp => have hU : Z.Warmed39 A.U.vm := wtrans (s := s.setVm vm0) hZ Y.warmed
      ⟨by show (Cond.and _ .tt).before a A.U = true; rw [Cond.before_and, mv hU wc]; rfl, mv hU wc, mv hU wz, hp.2.2.1, hp.2.2.2⟩)
    (fun m meth c A a g mk Y hp => ⟨hp.1, wtrans (s := s.setVm vm0) hZ Y.warmed, hp.2.1, (CHv.at Y hZ hEL H).1, fun x hx => ⟨(hSf x hx).1, (hSf x hx).2.1, (CHv.at Y hZ hEL H).safe (hSf x hx).2.1 (hSf x hx).2.2⟩, hO⟩)
    (fun _ _ _ _ _ _ _ _ _ => trivial)
    (fun _ _ _ _ ⟨v, L, S', h1, h2, h3, h4, h5, h6, h7, h8⟩ => ⟨L, _, _, h6, rfl, rfl, ⟨v, S', h1, h2, h3, h5⟩, h4, h7, h8⟩)
    (fun m meth c A a g mk v t L k n Y hp _ _ ⟨e1, e2, ⟨v', S', e3, e4, e5, e6⟩, e7, e8, e9⟩ => by
      cases e3; subst e1 e2
      refine ⟨L, S', e4, e5, e6, rfl, rfl, rfl, (CHv.at Y hZ hEL H).trans ?_, fun z => State.WarmedH.trans (t := A.U) Y.warmed (e8 z), e9⟩
      rw [← hp.2.1]; exact e7)
/-- a call by its contract, whatever the step -/
theorem Go.callG {len : Nat} (G : Good Z a0 EL K own code maxL ret nm) (c : Con K.l Z EL nw y bytes maxL' ret' [] rm as h S0 Post') (hS0 : ∀ x ∈ S0, x ∈ S) (wc : (Cond.code y bytes maxL' ret').before a0 Z = true) (wz : (Cond.initialized y.cls).before a0 Z = true)
    (hf : rm.frames + 1 ≤ R.frames) (hl : (rest.map fun v => v.category).sum + (maxL' + 11) + rm.locals ≤ R.locals) (hcc : k + rm.cells ≤ R.cells) (hss : n + rm.slots ≤ R.slots)
    (q : ∀ (T : State) (vm0 : Vm) (locs : List Loc), Stand K.p K.l K.e R (K.s.setVm vm0) K.m K.as K.below K.meth K.c T locs k n → Z.Warmed39 (K.s.setVm vm0).vm → (K.s.setVm vm0).vm.findClass own = some K.m.cls → T.heap = h →
      BackS K.l R K.p K.e K.below (K.s.setVm vm0) K.as y len (rest.map fun v => v.category).sum (PreB R rm h as) (PstB Z EL nw rm h Post' K.s vm0) → (∀ vm₁, (K.s.setVm vm0).WarmedH vm₁ → PreB R rm h as ⟨T.setVm vm₁, locs, k, n⟩ as) →
      ∃ (v : Option Value) (vm₁ : Vm) (B : Pt), (K.s.setVm vm0).WarmedH vm₁ ∧ Stand K.p K.l K.e R ((K.s.setVm vm0).setVm B.U.vm) K.m K.as K.below K.meth K.c B.U B.locs B.cells B.slots ∧ (K.s.setVm vm0).Since B.U.vm B.U.heap.size ∧ T.heap.size ≤ B.U.heap.size ∧ PstB Z EL nw rm h Post' K.s vm0 ⟨T.setVm vm₁, locs, k, n⟩ as v B ∧
        Steps K.p.tables K.e K.below (T.setTop (mkF K.m pc L.toArray st)) (B.U.setTop (mkF K.m pc' L.toArray (v.toList ++ rest))))
    (f : ∀ v h' S', Post' v h' S' → h.size ≤ h'.size → Go Z EL nw R Post K h' (S' ++ S) (k + rm.cells) (n + rm.slots) pc' L (v.toList ++ rest)) : Go Z EL nw R Post K h S k n pc L st := fun T I => by
  obtain ⟨vm0, k0, locs, X, hS, hk0, hZ, e, N, CH, hSf, hw, hO⟩ := I
  obtain ⟨v, vm₁, ⟨U, Ls, c0, s0⟩, hW₁, X', h2, hgr, ⟨L', S', hP, hN, hS', hL, hc0, hs0, hC, hnw, hO'⟩, stp⟩ := q T vm0 locs X hZ (G.hown hS) e (c.back hZ wc wz hf hl G.2.2.2.2.2.2.2 CH.1 (fun x hx => hSf x (hS0 x hx)) hO) (fun vm₁ _ => ⟨rfl, e, hcc, hss⟩)
  dsimp only [Pt.U, Pt.locs, Pt.cells, Pt.slots] at X' h2 hgr hP hS' hL hc0 hs0 hC hnw hO' stp
  subst hL hc0 hs0
  rw [e] at hgr
  refine (f v U.heap S' hP hgr U ⟨U.vm, _, _, X', hS.trans h2 (Nat.le_trans hk0 hgr), Nat.le_refl _, State.Warmed39.trans (t := K.s.setVm vm0) hZ h2.1, rfl, N.app hN, CH.trans hC, fun x hx => ?_, fun z => State.WarmedH.trans (t := K.s.setVm vm0) (hw z) (hnw z), hO'⟩).step fun t z => stp.trans z
  rcases List.mem_append.mp hx with hx | hx
  · exact hS' x hx
  · obtain ⟨b1, b2, b3⟩ := hSf x hx
    exact ⟨b1, Nat.lt_of_lt_of_le b2 hgr, hC.safe b2 b3⟩
theorem Good.callS (G : Good Z a0 EL K own code maxL ret nm) (argsL : List Value) (hd : Dc code pc (.invokestatic index) 3 pc') (w1 : (Cond.methodLink own index y).before a0 Z = true) (w2 : (Cond.static y).before a0 Z = true) (w3 : (Cond.initialized y.cls).before a0 Z = true) (w4 : (Cond.code y bytes maxL' ret').before a0 Z = true)
    (pd : parseMethodDescriptor y.desc = some ⟨ps, rr⟩) (c : Con K.l Z EL nw y bytes maxL' ret' [] rm argsL.toArray h S0 Post') (hS0 : ∀ x ∈ S0, x ∈ S) (hst : st = argsL.reverse ++ rest) (hln : argsL.length = ps.length)
    (f : ∀ v h' S', Post' v h' S' → h.size ≤ h'.size → Go Z EL nw R Post K h' (S' ++ S) (k + rm.cells) (n + rm.slots) pc' L (v.toList ++ rest))
    (hy : y.cls ≠ "java/lang/invoke/MethodHandle" ∧ y.cls ≠ "java/lang/invoke/VarHandle") (hL : L.length = maxL) (hf : rm.frames + 1 ≤ R.frames) (hl : (rest.map fun v => v.category).sum + (maxL' + 11) + rm.locals ≤ R.locals) (hcc : k + rm.cells ≤ R.cells) (hss : n + rm.slots ≤ R.slots) : Go Z EL nw R Post K h S k n pc L st := by
  obtain ⟨hd, rfl⟩ := hd
  refine Go.callG (len := 3) G c hS0 w4 w3 hf hl hcc hss (fun T vm0 locs X hZ hown e hK hpre => ?_) f
  exact callSS X G.1 hown (mvT hZ w1) (mvT hZ w2) (mvT hZ w3) (mvT hZ w4) hy hK (g := mkF K.m pc L.toArray st) rfl (by rw [G.2.2.1]; simpa using hL) (lenOf pd hln) hst (by show 2 * 0 + _ ≤ _; omega) (hb G.2.1 hd) hpre
theorem Good.callI (G : Good Z a0 EL K own code maxL ret nm) (argsL : List Value) (hd : Dc code pc (.invokespecial index) 3 pc') (w1 : (Cond.methodLink own index y).before a0 Z = true) (w2 : (Cond.instanceMethod y).before a0 Z = true) (w3 : (Cond.initialized y.cls).before a0 Z = true) (w4 : (Cond.code y bytes maxL' none).before a0 Z = true)
    (pd : parseMethodDescriptor y.desc = some ⟨ps, rr⟩) (c : Con K.l Z EL nw y bytes maxL' none [] rm (.ref a :: argsL).toArray h S0 Post') (hS0 : ∀ x ∈ S0, x ∈ S) (hst : st = argsL.reverse ++ .ref a :: rest) (hln : argsL.length = ps.length)
    (f : ∀ v h' S', Post' v h' S' → h.size ≤ h'.size → Go Z EL nw R Post K h' (S' ++ S) (k + rm.cells) (n + rm.slots) pc' L (v.toList ++ rest))
    (hy1 : y.name = "<init>") (hy : y.cls ≠ "java/lang/invoke/MethodHandle" ∧ y.cls ≠ "java/lang/invoke/VarHandle") (hL : L.length = maxL) (hf : rm.frames + 1 ≤ R.frames) (hl : (rest.map fun v => v.category).sum + (maxL' + 11) + rm.locals ≤ R.locals) (hcc : k + rm.cells ≤ R.cells) (hss : n + rm.slots ≤ R.slots) : Go Z EL nw R Post K h S k n pc L st := by
  obtain ⟨hd, rfl⟩ := hd
  refine Go.callG (len := 3) G c hS0 w4 w3 hf hl hcc hss (fun T vm0 locs X hZ hown e hK hpre => ?_) f
  exact X.specialBackS G.1 hy1 hown (mvT hZ w1) (mvT hZ w2) (mvT hZ w4) hy hK (g := mkF K.m pc L.toArray st) rfl (by rw [G.2.2.1]; simpa using hL) (Steps.refl _) (lenOf pd hln) hst (by show 2 * 0 + _ ≤ _; omega) (hb G.2.1 hd) hpre
/-- the class that declares y is no interface: two roads -/
def Nf (Z : State) (y : MethodName) : Prop := ∀ s : State, Z.Warmed39 s.vm → NotFace s y
theorem Nf.inst {cnt : Nat} (wi : (Cond.instantiable y.cls cnt).before a0 Z = true) : Nf Z y := fun s hZ r0 h0 => by
  have w : (Cond.instantiable y.cls cnt).before #[] s = true := mvT hZ wi
  obtain ⟨c, kk, h1, h2, h3, h4, -⟩ := Cond.instantiable_spec w
  have hc := findClass_of_methodNamed h0
  cases h1.symm.trans hc
  simp only [Bool.or_eq_false_iff] at h4
  exact ⟨kk, h2, h4.1⟩
theorem Nf.super {D : String} (w : (Cond.superclass y.cls D).before a0 Z = true) : Nf Z y := fun s hZ => nf_super (args := #[]) (mvT hZ w)
theorem Nf.sel (w : (Cond.selects C y y).before a0 Z = true) : Nf Z y := fun s hZ => notFace_of_selects (args := #[]) (mvT hZ w)
theorem Nf.same (nf : Nf Z z) (w : (Cond.instanceMethod z).before a0 Z = true) (e : z.cls = y.cls) : Nf Z y := fun s hZ r0 h0 => by
  obtain ⟨mk, methM, hnamed, -⟩ := Cond.instanceMethod_spec (mvT (args := #[]) (s := s) hZ w)
  obtain ⟨kr, h1, h2⟩ := nf s hZ mk hnamed
  have c1 := findClass_of_methodNamed hnamed
  have c2 := findClass_of_methodNamed h0
  rw [e] at c1
  have c3 := Option.some.inj (c1.symm.trans c2)
  exact ⟨kr, by rw [← c3]; exact h1, h2⟩
theorem same_of_nf (nf : Nf Z y) (w : (Cond.instanceMethod y).before a0 Z = true) (hy : y.cls ≠ "java/lang/invoke/MethodHandle" ∧ y.cls ≠ "java/lang/invoke/VarHandle") : (Cond.sameMethod y.cls y.cls y.name y.desc).before a0 Z = true := by
  obtain ⟨mk, methM, hnamed, -⟩ := Cond.instanceMethod_spec w
  obtain ⟨kr, h1, h2⟩ := nf Z (State.Warmed39.refl Z) mk hnamed
  have c1 := findClass_of_methodNamed hnamed
  have f1 := State.methodFound?_of_named hnamed hy
  have hnamed' : Z.methodNamed? ⟨y.cls, y.name, y.desc⟩ = some mk := hnamed
  simp [Cond.before, Cond.holds, Cond.value, c1, f1, hnamed', h1, h2]
theorem Good.callV (G : Good Z a0 EL K own code maxL ret nm) (nf : Nf Z y) (argsL : List Value) (hd : Dc code pc (.invokevirtual index) 3 pc') (w1 : (Cond.methodLink own index y).before a0 Z = true) (w2 : (Cond.declares y).before a0 Z = true) (w3 : (Cond.selects C y z).before a0 Z = true) (w4 : (Cond.instanceMethod z).before a0 Z = true) (w5 : (Cond.code z bytes maxL' ret').before a0 Z = true) (w6 : (Cond.initialized z.cls).before a0 Z = true)
    (pd : parseMethodDescriptor y.desc = some ⟨ps, rr⟩) (E : Exa Z h a C) (c : Con K.l Z EL nw z bytes maxL' ret' [] rm (.ref a :: argsL).toArray h S0 Post') (hS0 : ∀ x ∈ S0, x ∈ S) (hst : st = argsL.reverse ++ .ref a :: rest) (hln : argsL.length = ps.length)
    (f : ∀ v h' S', Post' v h' S' → h.size ≤ h'.size → Go Z EL nw R Post K h' (S' ++ S) (k + rm.cells) (n + rm.slots) pc' L (v.toList ++ rest))
    (hy : y.cls ≠ "java/lang/invoke/MethodHandle" ∧ y.cls ≠ "java/lang/invoke/VarHandle") (hL : L.length = maxL) (hf : rm.frames + 1 ≤ R.frames) (hl : (rest.map fun v => v.category).sum + (maxL' + 11) + rm.locals ≤ R.locals) (hcc : k + rm.cells ≤ R.cells) (hss : n + rm.slots ≤ R.slots) : Go Z EL nw R Post K h S k n pc L st := by
  obtain ⟨hd, rfl⟩ := hd
  refine Go.callG (len := 3) G c hS0 w5 w6 hf hl hcc hss (fun T vm0 locs X hZ hown e hK hpre => ?_) f
  obtain ⟨cq, kq, q1, q2, q3⟩ := isOf (s := K.s.setVm vm0) hZ e E
  exact X.virtualBackS G.1 hown (mvT hZ w1) (mvT hZ w2) (nf _ hZ) (mvT hZ w3) (mvT hZ w4) hy hK q1 q3 (g := mkF K.m pc L.toArray st) rfl (by rw [G.2.2.1]; simpa using hL) (Steps.refl _) (lenOf pd hln) hst (by show 2 * 0 + _ ≤ _; omega) (hb G.2.1 hd) hpre
/-- a private method, called on an object that is there -/
theorem Good.callP (G : Good Z a0 EL K own code maxL ret nm) (argsL : List Value) (hd : Dc code pc (.invokevirtual index) 3 pc') (w1 : (Cond.methodLink own index y).before a0 Z = true) (w2 : (Cond.instanceMethod y).before a0 Z = true) (w3 : (Cond.privateMethod y).before a0 Z = true) (w4 : (Cond.code y bytes maxL' ret').before a0 Z = true) (w5 : (Cond.initialized y.cls).before a0 Z = true) (nf : Nf Z y)
    (pd : parseMethodDescriptor y.desc = some ⟨ps, rr⟩) (E : Exa Z h a C) (c : Con K.l Z EL nw y bytes maxL' ret' [] rm (.ref a :: argsL).toArray h S0 Post') (hS0 : ∀ x ∈ S0, x ∈ S) (hst : st = argsL.reverse ++ .ref a :: rest) (hln : argsL.length = ps.length)
    (f : ∀ v h' S', Post' v h' S' → h.size ≤ h'.size → Go Z EL nw R Post K h' (S' ++ S) (k + rm.cells) (n + rm.slots) pc' L (v.toList ++ rest))
    (hy : y.cls ≠ "java/lang/invoke/MethodHandle" ∧ y.cls ≠ "java/lang/invoke/VarHandle") (hL : L.length = maxL) (hf : rm.frames + 1 ≤ R.frames) (hl : (rest.map fun v => v.category).sum + (maxL' + 11) + rm.locals ≤ R.locals) (hcc : k + rm.cells ≤ R.cells) (hss : n + rm.slots ≤ R.slots) : Go Z EL nw R Post K h S k n pc L st := by
  obtain ⟨hd, rfl⟩ := hd
  refine Go.callG (len := 3) G c hS0 w4 w5 hf hl hcc hss (fun T vm0 locs X hZ hown e hK hpre => ?_) f
  obtain ⟨cell, hcell, hobj⟩ := E.cell
  obtain ⟨mk, methM, hnamed, hmethM, hstM, habM⟩ := Cond.instanceMethod_spec (mvT (args := #[]) (s := K.s.setVm vm0) hZ w2)
  obtain ⟨methM', cM, hmethM', -, -, -, -, -, -, hsigM⟩ := Cond.code_spec hnamed (mvT (args := #[]) (s := K.s.setVm vm0) hZ w4)
  cases hmethM.symm.trans hmethM'
  obtain ⟨kP, hkP, hkPi⟩ := nf (K.s.setVm vm0) hZ mk hnamed
  have hpriv := Cond.privateMethod_at (mvP (args := #[]) (s := K.s.setVm vm0) hZ w3)
  have hselP : selectMethod K.e.platform (K.s.setVm vm0).vm cell.cls mk = .method mk := selectMethod_private hmethM (hpriv mk methM hnamed hmethM)
  obtain ⟨vm₁, X₁, hstep₁⟩ := X.invokevirtual G.1 hown (mvT hZ w1) hnamed hmethM hstM hkP hkPi hy (a := a) (cell := cell) (by rw [e]; exact hcell) hobj hselP hmethM habM hkP hkPi (g := mkF K.m pc L.toArray st) rfl (argsL := argsL) (rest := rest) (lenOf pd hln _ hsigM) hst (hb G.2.1 hd)
  obtain ⟨v, B, X', hS, hgr, hpost, hsteps⟩ := hK K.m K.meth K.c ⟨T.setVm vm₁, locs, k, n⟩ (mkF K.m pc L.toArray rest) (.invokevirtual index) mk (.ref a :: argsL).toArray X₁ rfl (by rw [G.2.2.1]; simpa using hL) (hb G.2.1 hd) (by show 2 * 0 + (rest.map fun v => v.category).sum ≤ _; omega) (X₁.named hnamed) (hpre vm₁ X₁.warmed)
  exact ⟨v, vm₁, B, X₁.warmed, X', hS, hgr, hpost, (hstep₁ _ fun acts => by rw [doInvoke_state]; exact Steps.refl _).trans hsteps⟩
theorem Good.callF (G : Good Z a0 EL K own code maxL ret nm) {count : Nat} (argsL : List Value) (hd : Dc code pc (.invokeinterface index count) 5 pc') (w1 : (Cond.methodLink own index y).before a0 Z = true) (w2 : (Cond.declares y).before a0 Z = true) (w3 : (Cond.interfaceMethod y.cls y.cls y.name y.desc).before a0 Z = true) (w4 : (Cond.selects C y z).before a0 Z = true) (w5 : (Cond.instanceMethod z).before a0 Z = true) (w6 : (Cond.publicMethod z).before a0 Z = true) (w7 : (Cond.unhidden C y.name y.desc).before a0 Z = true) (w8 : (Cond.castable C y.cls).before a0 Z = true) (w9 : (Cond.code z bytes maxL' ret').before a0 Z = true) (w10 : (Cond.initialized z.cls).before a0 Z = true)
    (pd : parseMethodDescriptor y.desc = some ⟨ps, rr⟩) (E : Exa Z h a C) (c : Con K.l Z EL nw z bytes maxL' ret' [] rm (.ref a :: argsL).toArray h S0 Post') (hS0 : ∀ x ∈ S0, x ∈ S) (hst : st = argsL.reverse ++ .ref a :: rest) (hln : argsL.length = ps.length)
    (f : ∀ v h' S', Post' v h' S' → h.size ≤ h'.size → Go Z EL nw R Post K h' (S' ++ S) (k + rm.cells) (n + rm.slots) pc' L (v.toList ++ rest))
    (hy : y.cls ≠ "java/lang/invoke/MethodHandle" ∧ y.cls ≠ "java/lang/invoke/VarHandle") (hL : L.length = maxL) (hf : rm.frames + 1 ≤ R.frames) (hl : (rest.map fun v => v.category).sum + (maxL' + 11) + rm.locals ≤ R.locals) (hcc : k + rm.cells ≤ R.cells) (hss : n + rm.slots ≤ R.slots) : Go Z EL nw R Post K h S k n pc L st := by
  obtain ⟨hd, rfl⟩ := hd
  refine Go.callG (len := 5) G c hS0 w9 w10 hf hl hcc hss (fun T vm0 locs X hZ hown e hK hpre => ?_) f
  obtain ⟨cq, kq, q1, q2, q3⟩ := isOf (s := K.s.setVm vm0) hZ e E
  exact X.interfaceBackS G.1 hown (mvT hZ w1) (mvT hZ w2) (mvT hZ w3 (by simp [Cond.onTables, Cond.keepsFace, Cond.keeps, Cond.steady, Cond.faceAtom, hy.1, hy.2])) (mvT hZ w4) (mvT hZ w5) (mvT hZ w6) (mvT hZ w7) (mvT hZ w8) hy hK q1 q2 q3 (g := mkF K.m pc L.toArray st) rfl (by rw [G.2.2.1]; simpa using hL) (Steps.refl _) (lenOf pd hln) hst (by show 2 * 0 + _ ≤ _; omega) (hb G.2.1 hd) hpre
/-- invokespecial of a method of the superclass -/
theorem Good.callU (G : Good Z a0 EL K own code maxL ret nm) (argsL : List Value) (hd : Dc code pc (.invokespecial index) 3 pc') (w1 : (Cond.methodLink own index y).before a0 Z = true) (nf : Nf Z y) (w3 : (Cond.instanceMethod y).before a0 Z = true) (w4 : (Cond.superclass own y.cls).before a0 Z = true) (w5 : (Cond.code y bytes maxL' ret').before a0 Z = true) (w6 : (Cond.initialized y.cls).before a0 Z = true)
    (pd : parseMethodDescriptor y.desc = some ⟨ps, rr⟩) (E : Exa Z h a C) (c : Con K.l Z EL nw y bytes maxL' ret' [] rm (.ref a :: argsL).toArray h S0 Post') (hS0 : ∀ x ∈ S0, x ∈ S) (hst : st = argsL.reverse ++ .ref a :: rest) (hln : argsL.length = ps.length)
    (f : ∀ v h' S', Post' v h' S' → h.size ≤ h'.size → Go Z EL nw R Post K h' (S' ++ S) (k + rm.cells) (n + rm.slots) pc' L (v.toList ++ rest))
    (hy1 : y.name ≠ "<init>") (hy : y.cls ≠ "java/lang/invoke/MethodHandle" ∧ y.cls ≠ "java/lang/invoke/VarHandle") (hL : L.length = maxL) (hf : rm.frames + 1 ≤ R.frames) (hl : (rest.map fun v => v.category).sum + (maxL' + 11) + rm.locals ≤ R.locals) (hcc : k + rm.cells ≤ R.cells) (hss : n + rm.slots ≤ R.slots) : Go Z EL nw R Post K h S k n pc L st := by
  obtain ⟨hd, rfl⟩ := hd
  refine Go.callG (len := 3) G c hS0 w5 w6 hf hl hcc hss (fun T vm0 locs X hZ hown e hK hpre => ?_) f
  exact superBackS X G.1 hZ hown w1 (same_of_nf nf w3 hy) w3 w4 hy1 hK e (Ins.self E) (g := mkF K.m pc L.toArray st) rfl (by rw [G.2.2.1]; simpa using hL) w5 (lenOf pd hln) hst (by show 2 * 0 + _ ≤ _; omega) (hb G.2.1 hd) hpre
theorem Good.callS0 (G : Good Z a0 EL K own code maxL ret nm) (hd : Dc code pc (.invokestatic index) 3 pc') (w1 : (Cond.methodLink own index y).before a0 Z = true) (w2 : (Cond.static y).before a0 Z = true) (w3 : (Cond.initialized y.cls).before a0 Z = true) (w4 : (Cond.code y bytes maxL' ret').before a0 Z = true) (pd : parseMethodDescriptor y.desc = some ⟨ps, rr⟩) (c : Con K.l Z EL nw y bytes maxL' ret' [] rm #[] h S0 Post') (hS0 : ∀ x ∈ S0, x ∈ S) (f : ∀ v h' S', Post' v h' S' → h.size ≤ h'.size → Go Z EL nw R Post K h' (S' ++ S) (k + rm.cells) (n + rm.slots) pc' L (v.toList ++ rest)) (hln : 0 = ps.length := by rfl) (hy : y.cls ≠ "java/lang/invoke/MethodHandle" ∧ y.cls ≠ "java/lang/invoke/VarHandle" := by decide) (hL : L.length = maxL := by rfl) (hf : rm.frames + 1 ≤ R.frames := by decide) (hl : (rest.map fun v => v.category).sum + (maxL' + 11) + rm.locals ≤ R.locals := by exact Nat.le_of_ble_eq_true rfl) (hcc : k + rm.cells ≤ R.cells := by decide) (hss : n + rm.slots ≤ R.slots := by decide) : Go Z EL nw R Post K h S k n pc L (rest) := G.callS [] hd w1 w2 w3 w4 pd c hS0 rfl hln f hy hL hf hl hcc hss
theorem Good.callS1 (G : Good Z a0 EL K own code maxL ret nm) {v1 : Value} (hd : Dc code pc (.invokestatic index) 3 pc') (w1 : (Cond.methodLink own index y).before a0 Z = true) (w2 : (Cond.static y).before a0 Z = true) (w3 : (Cond.initialized y.cls).before a0 Z = true) (w4 : (Cond.code y bytes maxL' ret').before a0 Z = true) (pd : parseMethodDescriptor y.desc = some ⟨ps, rr⟩) (c : Con K.l Z EL nw y bytes maxL' ret' [] rm #[v1] h S0 Post') (hS0 : ∀ x ∈ S0, x ∈ S) (f : ∀ v h' S', Post' v h' S' → h.size ≤ h'.size → Go Z EL nw R Post K h' (S' ++ S) (k + rm.cells) (n + rm.slots) pc' L (v.toList ++ rest)) (hln : 1 = ps.length := by rfl) (hy : y.cls ≠ "java/lang/invoke/MethodHandle" ∧ y.cls ≠ "java/lang/invoke/VarHandle" := by decide) (hL : L.length = maxL := by rfl) (hf : rm.frames + 1 ≤ R.frames := by decide) (hl : (rest.map fun v => v.category).sum + (maxL' + 11) + rm.locals ≤ R.locals := by exact Nat.le_of_ble_eq_true rfl) (hcc : k + rm.cells ≤ R.cells := by decide) (hss : n + rm.slots ≤ R.slots := by decide) : Go Z EL nw R Post K h S k n pc L (v1 :: rest) := G.callS [v1] hd w1 w2 w3 w4 pd c hS0 rfl hln f hy hL hf hl hcc hss
theorem Good.callS2 (G : Good Z a0 EL K own code maxL ret nm) {v1 v2 : Value} (hd : Dc code pc (.invokestatic index) 3 pc') (w1 : (Cond.methodLink own index y).before a0 Z = true) (w2 : (Cond.static y).before a0 Z = true) (w3 : (Cond.initialized y.cls).before a0 Z = true) (w4 : (Cond.code y bytes maxL' ret').before a0 Z = true) (pd : parseMethodDescriptor y.desc = some ⟨ps, rr⟩) (c : Con K.l Z EL nw y bytes maxL' ret' [] rm #[v1, v2] h S0 Post') (hS0 : ∀ x ∈ S0, x ∈ S) (f : ∀ v h' S', Post' v h' S' → h.size ≤ h'.size → Go Z EL nw R Post K h' (S' ++ S) (k + rm.cells) (n + rm.slots) pc' L (v.toList ++ rest)) (hln : 2 = ps.length := by rfl) (hy : y.cls ≠ "java/lang/invoke/MethodHandle" ∧ y.cls ≠ "java/lang/invoke/VarHandle" := by decide) (hL : L.length = maxL := by rfl) (hf : rm.frames + 1 ≤ R.frames := by decide) (hl : (rest.map fun v => v.category).sum + (maxL' + 11) + rm.locals ≤ R.locals := by exact Nat.le_of_ble_eq_true rfl) (hcc : k + rm.cells ≤ R.cells := by decide) (hss : n + rm.slots ≤ R.slots := by decide) : Go Z EL nw R Post K h S k n pc L (v2 :: v1 :: rest) := G.callS [v1, v2] hd w1 w2 w3 w4 pd c hS0 rfl hln f hy hL hf hl hcc hss
theorem Good.callS3 (G : Good Z a0 EL K own code maxL ret nm) {v1 v2 v3 : Value} (hd : Dc code pc (.invokestatic index) 3 pc') (w1 : (Cond.methodLink own index y).before a0 Z = true) (w2 : (Cond.static y).before a0 Z = true) (w3 : (Cond.initialized y.cls).before a0 Z = true) (w4 : (Cond.code y bytes maxL' ret').before a0 Z = true) (pd : parseMethodDescriptor y.desc = some ⟨ps, rr⟩) (c : Con K.l Z EL nw y bytes maxL' ret' [] rm #[v1, v2, v3] h S0 Post') (hS0 : ∀ x ∈ S0, x ∈ S) (f : ∀ v h' S', Post' v h' S' → h.size ≤ h'.size → Go Z EL nw R Post K h' (S' ++ S) (k + rm.cells) (n + rm.slots) pc' L (v.toList ++ rest)) (hln : 3 = ps.length := by rfl) (hy : y.cls ≠ "java/lang/invoke/MethodHandle" ∧ y.cls ≠ "java/lang/invoke/VarHandle" := by decide) (hL : L.length = maxL := by rfl) (hf : rm.frames + 1 ≤ R.frames := by decide) (hl : (rest.map fun v => v.category).sum + (maxL' + 11) + rm.locals ≤ R.locals := by exact Nat.le_of_ble_eq_true rfl) (hcc : k + rm.cells ≤ R.cells := by decide) (hss : n + rm.slots ≤ R.slots := by decide) : Go Z EL nw R Post K h S k n pc L (v3 :: v2 :: v1 :: rest) := G.callS [v1, v2, v3] hd w1 w2 w3 w4 pd c hS0 rfl hln f hy hL hf hl hcc hss
theorem Good.callS4 (G : Good Z a0 EL K own code maxL ret nm) {v1 v2 v3 v4 : Value} (hd : Dc code pc (.invokestatic index) 3 pc') (w1 : (Cond.methodLink own index y).before a0 Z = true) (w2 : (Cond.static y).before a0 Z = true) (w3 : (Cond.initialized y.cls).before a0 Z = true) (w4 : (Cond.code y bytes maxL' ret').before a0 Z = true) (pd : parseMethodDescriptor y.desc = some ⟨ps, rr⟩) (c : Con K.l Z EL nw y bytes maxL' ret' [] rm #[v1, v2, v3, v4] h S0 Post') (hS0 : ∀ x ∈ S0, x ∈ S) (f : ∀ v h' S', Post' v h' S' → h.size ≤ h'.size → Go Z EL nw R Post K h' (S' ++ S) (k + rm.cells) (n + rm.slots) pc' L (v.toList ++ rest)) (hln : 4 = ps.length := by rfl) (hy : y.cls ≠ "java/lang/invoke/MethodHandle" ∧ y.cls ≠ "java/lang/invoke/VarHandle" := by decide) (hL : L.length = maxL := by rfl) (hf : rm.frames + 1 ≤ R.frames := by decide) (hl : (rest.map fun v => v.category).sum + (maxL' + 11) + rm.locals ≤ R.locals := by exact Nat.le_of_ble_eq_true rfl) (hcc : k + rm.cells ≤ R.cells := by decide) (hss : n + rm.slots ≤ R.slots := by decide) : Go Z EL nw R Post K h S k n pc L (v4 :: v3 :: v2 :: v1 :: rest) := G.callS [v1, v2, v3, v4] hd w1 w2 w3 w4 pd c hS0 rfl hln f hy hL hf hl hcc hss
theorem Good.callS5 (G : Good Z a0 EL K own code maxL ret nm) {v1 v2 v3 v4 v5 : Value} (hd : Dc code pc (.invokestatic index) 3 pc') (w1 : (Cond.methodLink own index y).before a0 Z = true) (w2 : (Cond.static y).before a0 Z = true) (w3 : (Cond.initialized y.cls).before a0 Z = true) (w4 : (Cond.code y bytes maxL' ret').before a0 Z = true) (pd : parseMethodDescriptor y.desc = some ⟨ps, rr⟩) (c : Con K.l Z EL nw y bytes maxL' ret' [] rm #[v1, v2, v3, v4, v5] h S0 Post') (hS0 : ∀ x ∈ S0, x ∈ S) (f : ∀ v h' S', Post' v h' S' → h.size ≤ h'.size → Go Z EL nw R Post K h' (S' ++ S) (k + rm.cells) (n + rm.slots) pc' L (v.toList ++ rest)) (hln : 5 = ps.length := by rfl) (hy : y.cls ≠ "java/lang/invoke/MethodHandle" ∧ y.cls ≠ "java/lang/invoke/VarHandle" := by decide) (hL : L.length = maxL := by rfl) (hf : rm.frames + 1 ≤ R.frames := by decide) (hl : (rest.map fun v => v.category).sum + (maxL' + 11) + rm.locals ≤ R.locals := by exact Nat.le_of_ble_eq_true rfl) (hcc : k + rm.cells ≤ R.cells := by decide) (hss : n + rm.slots ≤ R.slots := by decide) : Go Z EL nw R Post K h S k n pc L (v5 :: v4 :: v3 :: v2 :: v1 :: rest) := G.callS [v1, v2, v3, v4, v5] hd w1 w2 w3 w4 pd c hS0 rfl hln f hy hL hf hl hcc hss
theorem Good.callS6 (G : Good Z a0 EL K own code maxL ret nm) {v1 v2 v3 v4 v5 v6 : Value} (hd : Dc code pc (.invokestatic index) 3 pc') (w1 : (Cond.methodLink own index y).before a0 Z = true) (w2 : (Cond.static y).before a0 Z = true) (w3 : (Cond.initialized y.cls).before a0 Z = true) (w4 : (Cond.code y bytes maxL' ret').before a0 Z = true) (pd : parseMethodDescriptor y.desc = some ⟨ps, rr⟩) (c : Con K.l Z EL nw y bytes maxL' ret' [] rm #[v1, v2, v3, v4, v5, v6] h S0 Post') (hS0 : ∀ x ∈ S0, x ∈ S) (f : ∀ v h' S', Post' v h' S' → h.size ≤ h'.size → Go Z EL nw R Post K h' (S' ++ S) (k + rm.cells) (n + rm.slots) pc' L (v.toList ++ rest)) (hln : 6 = ps.length := by rfl) (hy : y.cls ≠ "java/lang/invoke/MethodHandle" ∧ y.cls ≠ "java/lang/invoke/VarHandle" := by decide) (hL : L.length = maxL := by rfl) (hf : rm.frames + 1 ≤ R.frames := by decide) (hl : (rest.map fun v => v.category).sum + (maxL' + 11) + rm.locals ≤ R.locals := by exact Nat.le_of_ble_eq_true rfl) (hcc : k + rm.cells ≤ R.cells := by decide) (hss : n + rm.slots ≤ R.slots := by decide) : Go Z EL nw R Post K h S k n pc L (v6 :: v5 :: v4 :: v3 :: v2 :: v1 :: rest) := G.callS [v1, v2, v3, v4, v5, v6] hd w1 w2 w3 w4 pd c hS0 rfl hln f hy hL hf hl hcc hss
theorem Good.callS7 (G : Good Z a0 EL K own code maxL ret nm) {v1 v2 v3 v4 v5 v6 v7 : Value} (hd : Dc code pc (.invokestatic index) 3 pc') (w1 : (Cond.methodLink own index y).before a0 Z = true) (w2 : (Cond.static y).before a0 Z = true) (w3 : (Cond.initialized y.cls).before a0 Z = true) (w4 : (Cond.code y bytes maxL' ret').before a0 Z = true) (pd : parseMethodDescriptor y.desc = some ⟨ps, rr⟩) (c : Con K.l Z EL nw y bytes maxL' ret' [] rm #[v1, v2, v3, v4, v5, v6, v7] h S0 Post') (hS0 : ∀ x ∈ S0, x ∈ S) (f : ∀ v h' S', Post' v h' S' → h.size ≤ h'.size → Go Z EL nw R Post K h' (S' ++ S) (k + rm.cells) (n + rm.slots) pc' L (v.toList ++ rest)) (hln : 7 = ps.length := by rfl) (hy : y.cls ≠ "java/lang/invoke/MethodHandle" ∧ y.cls ≠ "java/lang/invoke/VarHandle" := by decide) (hL : L.length = maxL := by rfl) (hf : rm.frames + 1 ≤ R.frames := by decide) (hl : (rest.map fun v => v.category).sum + (maxL' + 11) + rm.locals ≤ R.locals := by exact Nat.le_of_ble_eq_true rfl) (hcc : k + rm.cells ≤ R.cells := by decide) (hss : n + rm.slots ≤ R.slots := by decide) : Go Z EL nw R Post K h S k n pc L (v7 :: v6 :: v5 :: v4 :: v3 :: v2 :: v1 :: rest) := G.callS [v1, v2, v3, v4, v5, v6, v7] hd w1 w2 w3 w4 pd c hS0 rfl hln f hy hL hf hl hcc hss
theorem Good.callI0 (G : Good Z a0 EL K own code maxL ret nm) (hd : Dc code pc (.invokespecial index) 3 pc') (w1 : (Cond.methodLink own index y).before a0 Z = true) (w2 : (Cond.instanceMethod y).before a0 Z = true) (w3 : (Cond.initialized y.cls).before a0 Z = true) (w4 : (Cond.code y bytes maxL' none).before a0 Z = true) (pd : parseMethodDescriptor y.desc = some ⟨ps, rr⟩) (c : Con K.l Z EL nw y bytes maxL' none [] rm #[.ref a] h S0 Post') (hS0 : ∀ x ∈ S0, x ∈ S) (f : ∀ v h' S', Post' v h' S' → h.size ≤ h'.size → Go Z EL nw R Post K h' (S' ++ S) (k + rm.cells) (n + rm.slots) pc' L (v.toList ++ rest)) (hy1 : y.name = "<init>" := by rfl) (hln : 0 = ps.length := by rfl) (hy : y.cls ≠ "java/lang/invoke/MethodHandle" ∧ y.cls ≠ "java/lang/invoke/VarHandle" := by decide) (hL : L.length = maxL := by rfl) (hf : rm.frames + 1 ≤ R.frames := by decide) (hl : (rest.map fun v => v.category).sum + (maxL' + 11) + rm.locals ≤ R.locals := by exact Nat.le_of_ble_eq_true rfl) (hcc : k + rm.cells ≤ R.cells := by decide) (hss : n + rm.slots ≤ R.slots := by decide) : Go Z EL nw R Post K h S k n pc L (.ref a :: rest) := G.callI [] hd w1 w2 w3 w4 pd c hS0 rfl hln f hy1 hy hL hf hl hcc hss
theorem Good.callV0 (G : Good Z a0 EL K own code maxL ret nm) (hd : Dc code pc (.invokevirtual index) 3 pc') (w1 : (Cond.methodLink own index y).before a0 Z = true) (w2 : (Cond.declares y).before a0 Z = true) (w3 : (Cond.selects C y y).before a0 Z = true) (w4 : (Cond.instanceMethod y).before a0 Z = true) (w5 : (Cond.code y bytes maxL' ret').before a0 Z = true) (w6 : (Cond.initialized y.cls).before a0 Z = true) (pd : parseMethodDescriptor y.desc = some ⟨ps, rr⟩) (E : Exa Z h a C) (c : Con K.l Z EL nw y bytes maxL' ret' [] rm #[.ref a] h S0 Post') (hS0 : ∀ x ∈ S0, x ∈ S) (f : ∀ v h' S', Post' v h' S' → h.size ≤ h'.size → Go Z EL nw R Post K h' (S' ++ S) (k + rm.cells) (n + rm.slots) pc' L (v.toList ++ rest)) (hln : 0 = ps.length := by rfl) (hy : y.cls ≠ "java/lang/invoke/MethodHandle" ∧ y.cls ≠ "java/lang/invoke/VarHandle" := by decide) (hL : L.length = maxL := by rfl) (hf : rm.frames + 1 ≤ R.frames := by decide) (hl : (rest.map fun v => v.category).sum + (maxL' + 11) + rm.locals ≤ R.locals := by exact Nat.le_of_ble_eq_true rfl) (hcc : k + rm.cells ≤ R.cells := by decide) (hss : n + rm.slots ≤ R.slots := by decide) : Go Z EL nw R Post K h S k n pc L (.ref a :: rest) := G.callV (Nf.sel w3) [] hd w1 w2 w3 w4 w5 w6 pd E c hS0 rfl hln f hy hL hf hl hcc hss
theorem Good.callW0 (G : Good Z a0 EL K own code maxL ret nm) (nf : Nf Z y) (hd : Dc code pc (.invokevirtual index) 3 pc') (w1 : (Cond.methodLink own index y).before a0 Z = true) (w2 : (Cond.declares y).before a0 Z = true) (w3 : (Cond.selects C y z).before a0 Z = true) (w4 : (Cond.instanceMethod z).before a0 Z = true) (w5 : (Cond.code z bytes maxL' ret').before a0 Z = true) (w6 : (Cond.initialized z.cls).before a0 Z = true) (pd : parseMethodDescriptor y.desc = some ⟨ps, rr⟩) (E : Exa Z h a C) (c : Con K.l Z EL nw z bytes maxL' ret' [] rm #[.ref a] h S0 Post') (hS0 : ∀ x ∈ S0, x ∈ S) (f : ∀ v h' S', Post' v h' S' → h.size ≤ h'.size → Go Z EL nw R Post K h' (S' ++ S) (k + rm.cells) (n + rm.slots) pc' L (v.toList ++ rest)) (hln : 0 = ps.length := by rfl) (hy : y.cls ≠ "java/lang/invoke/MethodHandle" ∧ y.cls ≠ "java/lang/invoke/VarHandle" := by decide) (hL : L.length = maxL := by rfl) (hf : rm.frames + 1 ≤ R.frames := by decide) (hl : (rest.map fun v => v.category).sum + (maxL' + 11) + rm.locals ≤ R.locals := by exact Nat.le_of_ble_eq_true rfl) (hcc : k + rm.cells ≤ R.cells := by decide) (hss : n + rm.slots ≤ R.slots := by decide) : Go Z EL nw R Post K h S k n pc L (.ref a :: rest) := G.callV nf [] hd w1 w2 w3 w4 w5 w6 pd E c hS0 rfl hln f hy hL hf hl hcc hss
theorem Good.callP0 (G : Good Z a0 EL K own code maxL ret nm) (hd : Dc code pc (.invokevirtual index) 3 pc') (w1 : (Cond.methodLink own index y).before a0 Z = true) (w2 : (Cond.instanceMethod y).before a0 Z = true) (w3 : (Cond.privateMethod y).before a0 Z = true) (w4 : (Cond.code y bytes maxL' ret').before a0 Z = true) (w5 : (Cond.initialized y.cls).before a0 Z = true) (nf : Nf Z y) (pd : parseMethodDescriptor y.desc = some ⟨ps, rr⟩) (E : Exa Z h a C) (c : Con K.l Z EL nw y bytes maxL' ret' [] rm #[.ref a] h S0 Post') (hS0 : ∀ x ∈ S0, x ∈ S) (f : ∀ v h' S', Post' v h' S' → h.size ≤ h'.size → Go Z EL nw R Post K h' (S' ++ S) (k + rm.cells) (n + rm.slots) pc' L (v.toList ++ rest)) (hln : 0 = ps.length := by rfl) (hy : y.cls ≠ "java/lang/invoke/MethodHandle" ∧ y.cls ≠ "java/lang/invoke/VarHandle" := by decide) (hL : L.length = maxL := by rfl) (hf : rm.frames + 1 ≤ R.frames := by decide) (hl : (rest.map fun v => v.category).sum + (maxL' + 11) + rm.locals ≤ R.locals := by exact Nat.le_of_ble_eq_true rfl) (hcc : k + rm.cells ≤ R.cells := by decide) (hss : n + rm.slots ≤ R.slots := by decide) : Go Z EL nw R Post K h S k n pc L (.ref a :: rest) := G.callP [] hd w1 w2 w3 w4 w5 nf pd E c hS0 rfl hln f hy hL hf hl hcc hss
theorem Good.callF0 (G : Good Z a0 EL K own code maxL ret nm) {count : Nat} (hd : Dc code pc (.invokeinterface index count) 5 pc') (w1 : (Cond.methodLink own index y).before a0 Z = true) (w2 : (Cond.declares y).before a0 Z = true) (w3 : (Cond.interfaceMethod y.cls y.cls y.name y.desc).before a0 Z = true) (w4 : (Cond.selects C y z).before a0 Z = true) (w5 : (Cond.instanceMethod z).before a0 Z = true) (w6 : (Cond.publicMethod z).before a0 Z = true) (w7 : (Cond.unhidden C y.name y.desc).before a0 Z = true) (w8 : (Cond.castable C y.cls).before a0 Z = true) (w9 : (Cond.code z bytes maxL' ret').before a0 Z = true) (w10 : (Cond.initialized z.cls).before a0 Z = true) (pd : parseMethodDescriptor y.desc = some ⟨ps, rr⟩) (E : Exa Z h a C) (c : Con K.l Z EL nw z bytes maxL' ret' [] rm #[.ref a] h S0 Post') (hS0 : ∀ x ∈ S0, x ∈ S) (f : ∀ v h' S', Post' v h' S' → h.size ≤ h'.size → Go Z EL nw R Post K h' (S' ++ S) (k + rm.cells) (n + rm.slots) pc' L (v.toList ++ rest)) (hln : 0 = ps.length := by rfl) (hy : y.cls ≠ "java/lang/invoke/MethodHandle" ∧ y.cls ≠ "java/lang/invoke/VarHandle" := by decide) (hL : L.length = maxL := by rfl) (hf : rm.frames + 1 ≤ R.frames := by decide) (hl : (rest.map fun v => v.category).sum + (maxL' + 11) + rm.locals ≤ R.locals := by exact Nat.le_of_ble_eq_true rfl) (hcc : k + rm.cells ≤ R.cells := by decide) (hss : n + rm.slots ≤ R.slots := by decide) : Go Z EL nw R Post K h S k n pc L (.ref a :: rest) := G.callF [] hd w1 w2 w3 w4 w5 w6 w7 w8 w9 w10 pd E c hS0 rfl hln f hy hL hf hl hcc hss
theorem Good.callI1 (G : Good Z a0 EL K own code maxL ret nm) {v1 : Value} (hd : Dc code pc (.invokespecial index) 3 pc') (w1 : (Cond.methodLink own index y).before a0 Z = true) (w2 : (Cond.instanceMethod y).before a0 Z = true) (w3 : (Cond.initialized y.cls).before a0 Z = true) (w4 : (Cond.code y bytes maxL' none).before a0 Z = true) (pd : parseMethodDescriptor y.desc = some ⟨ps, rr⟩) (c : Con K.l Z EL nw y bytes maxL' none [] rm #[.ref a, v1] h S0 Post') (hS0 : ∀ x ∈ S0, x ∈ S) (f : ∀ v h' S', Post' v h' S' → h.size ≤ h'.size → Go Z EL nw R Post K h' (S' ++ S) (k + rm.cells) (n + rm.slots) pc' L (v.toList ++ rest)) (hy1 : y.name = "<init>" := by rfl) (hln : 1 = ps.length := by rfl) (hy : y.cls ≠ "java/lang/invoke/MethodHandle" ∧ y.cls ≠ "java/lang/invoke/VarHandle" := by decide) (hL : L.length = maxL := by rfl) (hf : rm.frames + 1 ≤ R.frames := by decide) (hl : (rest.map fun v => v.category).sum + (maxL' + 11) + rm.locals ≤ R.locals := by exact Nat.le_of_ble_eq_true rfl) (hcc : k + rm.cells ≤ R.cells := by decide) (hss : n + rm.slots ≤ R.slots := by decide) : Go Z EL nw R Post K h S k n pc L (v1 :: .ref a :: rest) := G.callI [v1] hd w1 w2 w3 w4 pd c hS0 rfl hln f hy1 hy hL hf hl hcc hss
theorem Good.callV1 (G : Good Z a0 EL K own code maxL ret nm) {v1 : Value} (hd : Dc code pc (.invokevirtual index) 3 pc') (w1 : (Cond.methodLink own index y).before a0 Z = true) (w2 : (Cond.declares y).before a0 Z = true) (w3 : (Cond.selects C y y).before a0 Z = true) (w4 : (Cond.instanceMethod y).before a0 Z = true) (w5 : (Cond.code y bytes maxL' ret').before a0 Z = true) (w6 : (Cond.initialized y.cls).before a0 Z = true) (pd : parseMethodDescriptor y.desc = some ⟨ps, rr⟩) (E : Exa Z h a C) (c : Con K.l Z EL nw y bytes maxL' ret' [] rm #[.ref a, v1] h S0 Post') (hS0 : ∀ x ∈ S0, x ∈ S) (f : ∀ v h' S', Post' v h' S' → h.size ≤ h'.size → Go Z EL nw R Post K h' (S' ++ S) (k + rm.cells) (n + rm.slots) pc' L (v.toList ++ rest)) (hln : 1 = ps.length := by rfl) (hy : y.cls ≠ "java/lang/invoke/MethodHandle" ∧ y.cls ≠ "java/lang/invoke/VarHandle" := by decide) (hL : L.length = maxL := by rfl) (hf : rm.frames + 1 ≤ R.frames := by decide) (hl : (rest.map fun v => v.category).sum + (maxL' + 11) + rm.locals ≤ R.locals := by exact Nat.le_of_ble_eq_true rfl) (hcc : k + rm.cells ≤ R.cells := by decide) (hss : n + rm.slots ≤ R.slots := by decide) : Go Z EL nw R Post K h S k n pc L (v1 :: .ref a :: rest) := G.callV (Nf.sel w3) [v1] hd w1 w2 w3 w4 w5 w6 pd E c hS0 rfl hln f hy hL hf hl hcc hss
theorem Good.callW1 (G : Good Z a0 EL K own code maxL ret nm) (nf : Nf Z y) {v1 : Value} (hd : Dc code pc (.invokevirtual index) 3 pc') (w1 : (Cond.methodLink own index y).before a0 Z = true) (w2 : (Cond.declares y).before a0 Z = true) (w3 : (Cond.selects C y z).before a0 Z = true) (w4 : (Cond.instanceMethod z).before a0 Z = true) (w5 : (Cond.code z bytes maxL' ret').before a0 Z = true) (w6 : (Cond.initialized z.cls).before a0 Z = true) (pd : parseMethodDescriptor y.desc = some ⟨ps, rr⟩) (E : Exa Z h a C) (c : Con K.l Z EL nw z bytes maxL' ret' [] rm #[.ref a, v1] h S0 Post') (hS0 : ∀ x ∈ S0, x ∈ S) (f : ∀ v h' S', Post' v h' S' → h.size ≤ h'.size → Go Z EL nw R Post K h' (S' ++ S) (k + rm.cells) (n + rm.slots) pc' L (v.toList ++ rest)) (hln : 1 = ps.length := by rfl) (hy : y.cls ≠ "java/lang/invoke/MethodHandle" ∧ y.cls ≠ "java/lang/invoke/VarHandle" := by decide) (hL : L.length = maxL := by rfl) (hf : rm.frames + 1 ≤ R.frames := by decide) (hl : (rest.map fun v => v.category).sum + (maxL' + 11) + rm.locals ≤ R.locals := by exact Nat.le_of_ble_eq_true rfl) (hcc : k + rm.cells ≤ R.cells := by decide) (hss : n + rm.slots ≤ R.slots := by decide) : Go Z EL nw R Post K h S k n pc L (v1 :: .ref a :: rest) := G.callV nf [v1] hd w1 w2 w3 w4 w5 w6 pd E c hS0 rfl hln f hy hL hf hl hcc hss
theorem Good.callP1 (G : Good Z a0 EL K own code maxL ret nm) {v1 : Value} (hd : Dc code pc (.invokevirtual index) 3 pc') (w1 : (Cond.methodLink own index y).before a0 Z = true) (w2 : (Cond.instanceMethod y).before a0 Z = true) (w3 : (Cond.privateMethod y).before a0 Z = true) (w4 : (Cond.code y bytes maxL' ret').before a0 Z = true) (w5 : (Cond.initialized y.cls).before a0 Z = true) (nf : Nf Z y) (pd : parseMethodDescriptor y.desc = some ⟨ps, rr⟩) (E : Exa Z h a C) (c : Con K.l Z EL nw y bytes maxL' ret' [] rm #[.ref a, v1] h S0 Post') (hS0 : ∀ x ∈ S0, x ∈ S) (f : ∀ v h' S', Post' v h' S' → h.size ≤ h'.size → Go Z EL nw R Post K h' (S' ++ S) (k + rm.cells) (n + rm.slots) pc' L (v.toList ++ rest)) (hln : 1 = ps.length := by rfl) (hy : y.cls ≠ "java/lang/invoke/MethodHandle" ∧ y.cls ≠ "java/lang/invoke/VarHandle" := by decide) (hL : L.length = maxL := by rfl) (hf : rm.frames + 1 ≤ R.frames := by decide) (hl : (rest.map fun v => v.category).sum + (maxL' + 11) + rm.locals ≤ R.locals := by exact Nat.le_of_ble_eq_true rfl) (hcc : k + rm.cells ≤ R.cells := by decide) (hss : n + rm.slots ≤ R.slots := by decide) : Go Z EL nw R Post K h S k n pc L (v1 :: .ref a :: rest) := G.callP [v1] hd w1 w2 w3 w4 w5 nf pd E c hS0 rfl hln f hy hL hf hl hcc hss
theorem Good.callF1 (G : Good Z a0 EL K own code maxL ret nm) {count : Nat} {v1 : Value} (hd : Dc code pc (.invokeinterface index count) 5 pc') (w1 : (Cond.methodLink own index y).before a0 Z = true) (w2 : (Cond.declares y).before a0 Z = true) (w3 : (Cond.interfaceMethod y.cls y.cls y.name y.desc).before a0 Z = true) (w4 : (Cond.selects C y z).before a0 Z = true) (w5 : (Cond.instanceMethod z).before a0 Z = true) (w6 : (Cond.publicMethod z).before a0 Z = true) (w7 : (Cond.unhidden C y.name y.desc).before a0 Z = true) (w8 : (Cond.castable C y.cls).before a0 Z = true) (w9 : (Cond.code z bytes maxL' ret').before a0 Z = true) (w10 : (Cond.initialized z.cls).before a0 Z = true) (pd : parseMethodDescriptor y.desc = some ⟨ps, rr⟩) (E : Exa Z h a C) (c : Con K.l Z EL nw z bytes maxL' ret' [] rm #[.ref a, v1] h S0 Post') (hS0 : ∀ x ∈ S0, x ∈ S) (f : ∀ v h' S', Post' v h' S' → h.size ≤ h'.size → Go Z EL nw R Post K h' (S' ++ S) (k + rm.cells) (n + rm.slots) pc' L (v.toList ++ rest)) (hln : 1 = ps.length := by rfl) (hy : y.cls ≠ "java/lang/invoke/MethodHandle" ∧ y.cls ≠ "java/lang/invoke/VarHandle" := by decide) (hL : L.length = maxL := by rfl) (hf : rm.frames + 1 ≤ R.frames := by decide) (hl : (rest.map fun v => v.category).sum + (maxL' + 11) + rm.locals ≤ R.locals := by exact Nat.le_of_ble_eq_true rfl) (hcc : k + rm.cells ≤ R.cells := by decide) (hss : n + rm.slots ≤ R.slots := by decide) : Go Z EL nw R Post K h S k n pc L (v1 :: .ref a :: rest) := G.callF [v1] hd w1 w2 w3 w4 w5 w6 w7 w8 w9 w10 pd E c hS0 rfl hln f hy hL hf hl hcc hss
theorem Good.callI2 (G : Good Z a0 EL K own code maxL ret nm) {v1 v2 : Value} (hd : Dc code pc (.invokespecial index) 3 pc') (w1 : (Cond.methodLink own index y).before a0 Z = true) (w2 : (Cond.instanceMethod y).before a0 Z = true) (w3 : (Cond.initialized y.cls).before a0 Z = true) (w4 : (Cond.code y bytes maxL' none).before a0 Z = true) (pd : parseMethodDescriptor y.desc = some ⟨ps, rr⟩) (c : Con K.l Z EL nw y bytes maxL' none [] rm #[.ref a, v1, v2] h S0 Post') (hS0 : ∀ x ∈ S0, x ∈ S) (f : ∀ v h' S', Post' v h' S' → h.size ≤ h'.size → Go Z EL nw R Post K h' (S' ++ S) (k + rm.cells) (n + rm.slots) pc' L (v.toList ++ rest)) (hy1 : y.name = "<init>" := by rfl) (hln : 2 = ps.length := by rfl) (hy : y.cls ≠ "java/lang/invoke/MethodHandle" ∧ y.cls ≠ "java/lang/invoke/VarHandle" := by decide) (hL : L.length = maxL := by rfl) (hf : rm.frames + 1 ≤ R.frames := by decide) (hl : (rest.map fun v => v.category).sum + (maxL' + 11) + rm.locals ≤ R.locals := by exact Nat.le_of_ble_eq_true rfl) (hcc : k + rm.cells ≤ R.cells := by decide) (hss : n + rm.slots ≤ R.slots := by decide) : Go Z EL nw R Post K h S k n pc L (v2 :: v1 :: .ref a :: rest) := G.callI [v1, v2] hd w1 w2 w3 w4 pd c hS0 rfl hln f hy1 hy hL hf hl hcc hss
theorem Good.callV2 (G : Good Z a0 EL K own code maxL ret nm) {v1 v2 : Value} (hd : Dc code pc (.invokevirtual index) 3 pc') (w1 : (Cond.methodLink own index y).before a0 Z = true) (w2 : (Cond.declares y).before a0 Z = true) (w3 : (Cond.selects C y y).before a0 Z = true) (w4 : (Cond.instanceMethod y).before a0 Z = true) (w5 : (Cond.code y bytes maxL' ret').before a0 Z = true) (w6 : (Cond.initialized y.cls).before a0 Z = true) (pd : parseMethodDescriptor y.desc = some ⟨ps, rr⟩) (E : Exa Z h a C) (c : Con K.l Z EL nw y bytes maxL' ret' [] rm #[.ref a, v1, v2] h S0 Post') (hS0 : ∀ x ∈ S0, x ∈ S) (f : ∀ v h' S', Post' v h' S' → h.size ≤ h'.size → Go Z EL nw R Post K h' (S' ++ S) (k + rm.cells) (n + rm.slots) pc' L (v.toList ++ rest)) (hln : 2 = ps.length := by rfl) (hy : y.cls ≠ "java/lang/invoke/MethodHandle" ∧ y.cls ≠ "java/lang/invoke/VarHandle" := by decide) (hL : L.length = maxL := by rfl) (hf : rm.frames + 1 ≤ R.frames := by decide) (hl : (rest.map fun v => v.category).sum + (maxL' + 11) + rm.locals ≤ R.locals := by exact Nat.le_of_ble_eq_true rfl) (hcc : k + rm.cells ≤ R.cells := by decide) (hss : n + rm.slots ≤ R.slots := by decide) : Go Z EL nw R Post K h S k n pc L (v2 :: v1 :: .ref a :: rest) := G.callV (Nf.sel w3) [v1, v2] hd w1 w2 w3 w4 w5 w6 pd E c hS0 rfl hln f hy hL hf hl hcc hss
theorem Good.callW2 (G : Good Z a0 EL K own code maxL ret nm) (nf : Nf Z y) {v1 v2 : Value} (hd : Dc code pc (.invokevirtual index) 3 pc') (w1 : (Cond.methodLink own index y).before a0 Z = true) (w2 : (Cond.declares y).before a0 Z = true) (w3 : (Cond.selects C y z).before a0 Z = true) (w4 : (Cond.instanceMethod z).before a0 Z = true) (w5 : (Cond.code z bytes maxL' ret').before a0 Z = true) (w6 : (Cond.initialized z.cls).before a0 Z = true) (pd : parseMethodDescriptor y.desc = some ⟨ps, rr⟩) (E : Exa Z h a C) (c : Con K.l Z EL nw z bytes maxL' ret' [] rm #[.ref a, v1, v2] h S0 Post') (hS0 : ∀ x ∈ S0, x ∈ S) (f : ∀ v h' S', Post' v h' S' → h.size ≤ h'.size → Go Z EL nw R Post K h' (S' ++ S) (k + rm.cells) (n + rm.slots) pc' L (v.toList ++ rest)) (hln : 2 = ps.length := by rfl) (hy : y.cls ≠ "java/lang/invoke/MethodHandle" ∧ y.cls ≠ "java/lang/invoke/VarHandle" := by decide) (hL : L.length = maxL := by rfl) (hf : rm.frames + 1 ≤ R.frames := by decide) (hl : (rest.map fun v => v.category).sum + (maxL' + 11) + rm.locals ≤ R.locals := by exact Nat.le_of_ble_eq_true rfl) (hcc : k + rm.cells ≤ R.cells := by decide) (hss : n + rm.slots ≤ R.slots := by decide) : Go Z EL nw R Post K h S k n pc L (v2 :: v1 :: .ref a :: rest) := G.callV nf [v1, v2] hd w1 w2 w3 w4 w5 w6 pd E c hS0 rfl hln f hy hL hf hl hcc hss
theorem Good.callP2 (G : Good Z a0 EL K own code maxL ret nm) {v1 v2 : Value} (hd : Dc code pc (.invokevirtual index) 3 pc') (w1 : (Cond.methodLink own index y).before a0 Z = true) (w2 : (Cond.instanceMethod y).before a0 Z = true) (w3 : (Cond.privateMethod y).before a0 Z = true) (w4 : (Cond.code y bytes maxL' ret').before a0 Z = true) (w5 : (Cond.initialized y.cls).before a0 Z = true) (nf : Nf Z y) (pd : parseMethodDescriptor y.desc = some ⟨ps, rr⟩) (E : Exa Z h a C) (c : Con K.l Z EL nw y bytes maxL' ret' [] rm #[.ref a, v1, v2] h S0 Post') (hS0 : ∀ x ∈ S0, x ∈ S) (f : ∀ v h' S', Post' v h' S' → h.size ≤ h'.size → Go Z EL nw R Post K h' (S' ++ S) (k + rm.cells) (n + rm.slots) pc' L (v.toList ++ rest)) (hln : 2 = ps.length := by rfl) (hy : y.cls ≠ "java/lang/invoke/MethodHandle" ∧ y.cls ≠ "java/lang/invoke/VarHandle" := by decide) (hL : L.length = maxL := by rfl) (hf : rm.frames + 1 ≤ R.frames := by decide) (hl : (rest.map fun v => v.category).sum + (maxL' + 11) + rm.locals ≤ R.locals := by exact Nat.le_of_ble_eq_true rfl) (hcc : k + rm.cells ≤ R.cells := by decide) (hss : n + rm.slots ≤ R.slots := by decide) : Go Z EL nw R Post K h S k n pc L (v2 :: v1 :: .ref a :: rest) := G.callP [v1, v2] hd w1 w2 w3 w4 w5 nf pd E c hS0 rfl hln f hy hL hf hl hcc hss
theorem Good.callF2 (G : Good Z a0 EL K own code maxL ret nm) {count : Nat} {v1 v2 : Value} (hd : Dc code pc (.invokeinterface index count) 5 pc') (w1 : (Cond.methodLink own index y).before a0 Z = true) (w2 : (Cond.declares y).before a0 Z = true) (w3 : (Cond.interfaceMethod y.cls y.cls y.name y.desc).before a0 Z = true) (w4 : (Cond.selects C y z).before a0 Z = true) (w5 : (Cond.instanceMethod z).before a0 Z = true) (w6 : (Cond.publicMethod z).before a0 Z = true) (w7 : (Cond.unhidden C y.name y.desc).before a0 Z = true) (w8 : (Cond.castable C y.cls).before a0 Z = true) (w9 : (Cond.code z bytes maxL' ret').before a0 Z = true) (w10 : (Cond.initialized z.cls).before a0 Z = true) (pd : parseMethodDescriptor y.desc = some ⟨ps, rr⟩) (E : Exa Z h a C) (c : Con K.l Z EL nw z bytes maxL' ret' [] rm #[.ref a, v1, v2] h S0 Post') (hS0 : ∀ x ∈ S0, x ∈ S) (f : ∀ v h' S', Post' v h' S' → h.size ≤ h'.size → Go Z EL nw R Post K h' (S' ++ S) (k + rm.cells) (n + rm.slots) pc' L (v.toList ++ rest)) (hln : 2 = ps.length := by rfl) (hy : y.cls ≠ "java/lang/invoke/MethodHandle" ∧ y.cls ≠ "java/lang/invoke/VarHandle" := by decide) (hL : L.length = maxL := by rfl) (hf : rm.frames + 1 ≤ R.frames := by decide) (hl : (rest.map fun v => v.category).sum + (maxL' + 11) + rm.locals ≤ R.locals := by exact Nat.le_of_ble_eq_true rfl) (hcc : k + rm.cells ≤ R.cells := by decide) (hss : n + rm.slots ≤ R.slots := by decide) : Go Z EL nw R Post K h S k n pc L (v2 :: v1 :: .ref a :: rest) := G.callF [v1, v2] hd w1 w2 w3 w4 w5 w6 w7 w8 w9 w10 pd E c hS0 rfl hln f hy hL hf hl hcc hss
theorem Good.callI3 (G : Good Z a0 EL K own code maxL ret nm) {v1 v2 v3 : Value} (hd : Dc code pc (.invokespecial index) 3 pc') (w1 : (Cond.methodLink own index y).before a0 Z = true) (w2 : (Cond.instanceMethod y).before a0 Z = true) (w3 : (Cond.initialized y.cls).before a0 Z = true) (w4 : (Cond.code y bytes maxL' none).before a0 Z = true) (pd : parseMethodDescriptor y.desc = some ⟨ps, rr⟩) (c : Con K.l Z EL nw y bytes maxL' none [] rm #[.ref a, v1, v2, v3] h S0 Post') (hS0 : ∀ x ∈ S0, x ∈ S) (f : ∀ v h' S', Post' v h' S' → h.size ≤ h'.size → Go Z EL nw R Post K h' (S' ++ S) (k + rm.cells) (n + rm.slots) pc' L (v.toList ++ rest)) (hy1 : y.name = "<init>" := by rfl) (hln : 3 = ps.length := by rfl) (hy : y.cls ≠ "java/lang/invoke/MethodHandle" ∧ y.cls ≠ "java/lang/invoke/VarHandle" := by decide) (hL : L.length = maxL := by rfl) (hf : rm.frames + 1 ≤ R.frames := by decide) (hl : (rest.map fun v => v.category).sum + (maxL' + 11) + rm.locals ≤ R.locals := by exact Nat.le_of_ble_eq_true rfl) (hcc : k + rm.cells ≤ R.cells := by decide) (hss : n + rm.slots ≤ R.slots := by decide) : Go Z EL nw R Post K h S k n pc L (v3 :: v2 :: v1 :: .ref a :: rest) := G.callI [v1, v2, v3] hd w1 w2 w3 w4 pd c hS0 rfl hln f hy1 hy hL hf hl hcc hss
theorem Good.callV3 (G : Good Z a0 EL K own code maxL ret nm) {v1 v2 v3 : Value} (hd : Dc code pc (.invokevirtual index) 3 pc') (w1 : (Cond.methodLink own index y).before a0 Z = true) (w2 : (Cond.declares y).before a0 Z = true) (w3 : (Cond.selects C y y).before a0 Z = true) (w4 : (Cond.instanceMethod y).before a0 Z = true) (w5 : (Cond.code y bytes maxL' ret').before a0 Z = true) (w6 : (Cond.initialized y.cls).before a0 Z = true) (pd : parseMethodDescriptor y.desc = some ⟨ps, rr⟩) (E : Exa Z h a C) (c : Con K.l Z EL nw y bytes maxL' ret' [] rm #[.ref a, v1, v2, v3] h S0 Post') (hS0 : ∀ x ∈ S0, x ∈ S) (f : ∀ v h' S', Post' v h' S' → h.size ≤ h'.size → Go Z EL nw R Post K h' (S' ++ S) (k + rm.cells) (n + rm.slots) pc' L (v.toList ++ rest)) (hln : 3 = ps.length := by rfl) (hy : y.cls ≠ "java/lang/invoke/MethodHandle" ∧ y.cls ≠ "java/lang/invoke/VarHandle" := by decide) (hL : L.length = maxL := by rfl) (hf : rm.frames + 1 ≤ R.frames := by decide) (hl : (rest.map fun v => v.category).sum + (maxL' + 11) + rm.locals ≤ R.locals := by exact Nat.le_of_ble_eq_true rfl) (hcc : k + rm.cells ≤ R.cells := by decide) (hss : n + rm.slots ≤ R.slots := by decide) : Go Z EL nw R Post K h S k n pc L (v3 :: v2 :: v1 :: .ref a :: rest) := G.callV (Nf.sel w3) [v1, v2, v3] hd w1 w2 w3 w4 w5 w6 pd E c hS0 rfl hln f hy hL hf hl hcc hss
theorem Good.callW3 (G : Good Z a0 EL K own code maxL ret nm) (nf : Nf Z y) {v1 v2 v3 : Value} (hd : Dc code pc (.invokevirtual index) 3 pc') (w1 : (Cond.methodLink own index y).before a0 Z = true) (w2 : (Cond.declares y).before a0 Z = true) (w3 : (Cond.selects C y z).before a0 Z = true) (w4 : (Cond.instanceMethod z).before a0 Z = true) (w5 : (Cond.code z bytes maxL' ret').before a0 Z = true) (w6 : (Cond.initialized z.cls).before a0 Z = true) (pd : parseMethodDescriptor y.desc = some ⟨ps, rr⟩) (E : Exa Z h a C) (c : Con K.l Z EL nw z bytes maxL' ret' [] rm #[.ref a, v1, v2, v3] h S0 Post') (hS0 : ∀ x ∈ S0, x ∈ S) (f : ∀ v h' S', Post' v h' S' → h.size ≤ h'.size → Go Z EL nw R Post K h' (S' ++ S) (k + rm.cells) (n + rm.slots) pc' L (v.toList ++ rest)) (hln : 3 = ps.length := by rfl) (hy : y.cls ≠ "java/lang/invoke/MethodHandle" ∧ y.cls ≠ "java/lang/invoke/VarHandle" := by decide) (hL : L.length = maxL := by rfl) (hf : rm.frames + 1 ≤ R.frames := by decide) (hl : (rest.map fun v => v.category).sum + (maxL' + 11) + rm.locals ≤ R.locals := by exact Nat.le_of_ble_eq_true rfl) (hcc : k + rm.cells ≤ R.cells := by decide) (hss : n + rm.slots ≤ R.slots := by decide) : Go Z EL nw R Post K h S k n pc L (v3 :: v2 :: v1 :: .ref a :: rest) := G.callV nf [v1, v2, v3] hd w1 w2 w3 w4 w5 w6 pd E c hS0 rfl hln f hy hL hf hl hcc hss
theorem Good.callP3 (G : Good Z a0 EL K own code maxL ret nm) {v1 v2 v3 : Value} (hd : Dc code pc (.invokevirtual index) 3 pc') (w1 : (Cond.methodLink own index y).before a0 Z = true) (w2 : (Cond.instanceMethod y).before a0 Z = true) (w3 : (Cond.privateMethod y).before a0 Z = true) (w4 : (Cond.code y bytes maxL' ret').before a0 Z = true) (w5 : (Cond.initialized y.cls).before a0 Z = true) (nf : Nf Z y) (pd : parseMethodDescriptor y.desc = some ⟨ps, rr⟩) (E : Exa Z h a C) (c : Con K.l Z EL nw y bytes maxL' ret' [] rm #[.ref a, v1, v2, v3] h S0 Post') (hS0 : ∀ x ∈ S0, x ∈ S) (f : ∀ v h' S', Post' v h' S' → h.size ≤ h'.size → Go Z EL nw R Post K h' (S' ++ S) (k + rm.cells) (n + rm.slots) pc' L (v.toList ++ rest)) (hln : 3 = ps.length := by rfl) (hy : y.cls ≠ "java/lang/invoke/MethodHandle" ∧ y.cls ≠ "java/lang/invoke/VarHandle" := by decide) (hL : L.length = maxL := by rfl) (hf : rm.frames + 1 ≤ R.frames := by decide) (hl : (rest.map fun v => v.category).sum + (maxL' + 11) + rm.locals ≤ R.locals := by exact Nat.le_of_ble_eq_true rfl) (hcc : k + rm.cells ≤ R.cells := by decide) (hss : n + rm.slots ≤ R.slots := by decide) : Go Z EL nw R Post K h S k n pc L (v3 :: v2 :: v1 :: .ref a :: rest) := G.callP [v1, v2, v3] hd w1 w2 w3 w4 w5 nf pd E c hS0 rfl hln f hy hL hf hl hcc hss
theorem Good.callF3 (G : Good Z a0 EL K own code maxL ret nm) {count : Nat} {v1 v2 v3 : Value} (hd : Dc code pc (.invokeinterface index count) 5 pc') (w1 : (Cond.methodLink own index y).before a0 Z = true) (w2 : (Cond.declares y).before a0 Z = true) (w3 : (Cond.interfaceMethod y.cls y.cls y.name y.desc).before a0 Z = true) (w4 : (Cond.selects C y z).before a0 Z = true) (w5 : (Cond.instanceMethod z).before a0 Z = true) (w6 : (Cond.publicMethod z).before a0 Z = true) (w7 : (Cond.unhidden C y.name y.desc).before a0 Z = true) (w8 : (Cond.castable C y.cls).before a0 Z = true) (w9 : (Cond.code z bytes maxL' ret').before a0 Z = true) (w10 : (Cond.initialized z.cls).before a0 Z = true) (pd : parseMethodDescriptor y.desc = some ⟨ps, rr⟩) (E : Exa Z h a C) (c : Con K.l Z EL nw z bytes maxL' ret' [] rm #[.ref a, v1, v2, v3] h S0 Post') (hS0 : ∀ x ∈ S0, x ∈ S) (f : ∀ v h' S', Post' v h' S' → h.size ≤ h'.size → Go Z EL nw R Post K h' (S' ++ S) (k + rm.cells) (n + rm.slots) pc' L (v.toList ++ rest)) (hln : 3 = ps.length := by rfl) (hy : y.cls ≠ "java/lang/invoke/MethodHandle" ∧ y.cls ≠ "java/lang/invoke/VarHandle" := by decide) (hL : L.length = maxL := by rfl) (hf : rm.frames + 1 ≤ R.frames := by decide) (hl : (rest.map fun v => v.category).sum + (maxL' + 11) + rm.locals ≤ R.locals := by exact Nat.le_of_ble_eq_true rfl) (hcc : k + rm.cells ≤ R.cells := by decide) (hss : n + rm.slots ≤ R.slots := by decide) : Go Z EL nw R Post K h S k n pc L (v3 :: v2 :: v1 :: .ref a :: rest) := G.callF [v1, v2, v3] hd w1 w2 w3 w4 w5 w6 w7 w8 w9 w10 pd E c hS0 rfl hln f hy hL hf hl hcc hss
theorem Good.callI4 (G : Good Z a0 EL K own code maxL ret nm) {v1 v2 v3 v4 : Value} (hd : Dc code pc (.invokespecial index) 3 pc') (w1 : (Cond.methodLink own index y).before a0 Z = true) (w2 : (Cond.instanceMethod y).before a0 Z = true) (w3 : (Cond.initialized y.cls).before a0 Z = true) (w4 : (Cond.code y bytes maxL' none).before a0 Z = true) (pd : parseMethodDescriptor y.desc = some ⟨ps, rr⟩) (c : Con K.l Z EL nw y bytes maxL' none [] rm #[.ref a, v1, v2, v3, v4] h S0 Post') (hS0 : ∀ x ∈ S0, x ∈ S) (f : ∀ v h' S', Post' v h' S' → h.size ≤ h'.size → Go Z EL nw R Post K h' (S' ++ S) (k + rm.cells) (n + rm.slots) pc' L (v.toList ++ rest)) (hy1 : y.name = "<init>" := by rfl) (hln : 4 = ps.length := by rfl) (hy : y.cls ≠ "java/lang/invoke/MethodHandle" ∧ y.cls ≠ "java/lang/invoke/VarHandle" := by decide) (hL : L.length = maxL := by rfl) (hf : rm.frames + 1 ≤ R.frames := by decide) (hl : (rest.map fun v => v.category).sum + (maxL' + 11) + rm.locals ≤ R.locals := by exact Nat.le_of_ble_eq_true rfl) (hcc : k + rm.cells ≤ R.cells := by decide) (hss : n + rm.slots ≤ R.slots := by decide) : Go Z EL nw R Post K h S k n pc L (v4 :: v3 :: v2 :: v1 :: .ref a :: rest) := G.callI [v1, v2, v3, v4] hd w1 w2 w3 w4 pd c hS0 rfl hln f hy1 hy hL hf hl hcc hss
theorem Good.callV4 (G : Good Z a0 EL K own code maxL ret nm) {v1 v2 v3 v4 : Value} (hd : Dc code pc (.invokevirtual index) 3 pc') (w1 : (Cond.methodLink own index y).before a0 Z = true) (w2 : (Cond.declares y).before a0 Z = true) (w3 : (Cond.selects C y y).before a0 Z = true) (w4 : (Cond.instanceMethod y).before a0 Z = true) (w5 : (Cond.code y bytes maxL' ret').before a0 Z = true) (w6 : (Cond.initialized y.cls).before a0 Z = true) (pd : parseMethodDescriptor y.desc = some ⟨ps, rr⟩) (E : Exa Z h a C) (c : Con K.l Z EL nw y bytes maxL' ret' [] rm #[.ref a, v1, v2, v3, v4] h S0 Post') (hS0 : ∀ x ∈ S0, x ∈ S) (f : ∀ v h' S', Post' v h' S' → h.size ≤ h'.size → Go Z EL nw R Post K h' (S' ++ S) (k + rm.cells) (n + rm.slots) pc' L (v.toList ++ rest)) (hln : 4 = ps.length := by rfl) (hy : y.cls ≠ "java/lang/invoke/MethodHandle" ∧ y.cls ≠ "java/lang/invoke/VarHandle" := by decide) (hL : L.length = maxL := by rfl) (hf : rm.frames + 1 ≤ R.frames := by decide) (hl : (rest.map fun v => v.category).sum + (maxL' + 11) + rm.locals ≤ R.locals := by exact Nat.le_of_ble_eq_true rfl) (hcc : k + rm.cells ≤ R.cells := by decide) (hss : n + rm.slots ≤ R.slots := by decide) : Go Z EL nw R Post K h S k n pc L (v4 :: v3 :: v2 :: v1 :: .ref a :: rest) := G.callV (Nf.sel w3) [v1, v2, v3, v4] hd w1 w2 w3 w4 w5 w6 pd E c hS0 rfl hln f hy hL hf hl hcc hss
theorem Good.callW4 (G : Good Z a0 EL K own code maxL ret nm) (nf : Nf Z y) {v1 v2 v3 v4 : Value} (hd : Dc code pc (.invokevirtual index) 3 pc') (w1 : (Cond.methodLink own index y).before a0 Z = true) (w2 : (Cond.declares y).before a0 Z = true) (w3 : (Cond.selects C y z).before a0 Z = true) (w4 : (Cond.instanceMethod z).before a0 Z = true) (w5 : (Cond.code z bytes maxL' ret').before a0 Z = true) (w6 : (Cond.initialized z.cls).before a0 Z = true) (pd : parseMethodDescriptor y.desc = some ⟨ps, rr⟩) (E : Exa Z h a C) (c : Con K.l Z EL nw z bytes maxL' ret' [] rm #[.ref a, v1, v2, v3, v4] h S0 Post') (hS0 : ∀ x ∈ S0, x ∈ S) (f : ∀ v h' S', Post' v h' S' → h.size ≤ h'.size → Go Z EL nw R Post K h' (S' ++ S) (k + rm.cells) (n + rm.slots) pc' L (v.toList ++ rest)) (hln : 4 = ps.length := by rfl) (hy : y.cls ≠ "java/lang/invoke/MethodHandle" ∧ y.cls ≠ "java/lang/invoke/VarHandle" := by decide) (hL : L.length = maxL := by rfl) (hf : rm.frames + 1 ≤ R.frames := by decide) (hl : (rest.map fun v => v.category).sum + (maxL' + 11) + rm.locals ≤ R.locals := by exact Nat.le_of_ble_eq_true rfl) (hcc : k + rm.cells ≤ R.cells := by decide) (hss : n + rm.slots ≤ R.slots := by decide) : Go Z EL nw R Post K h S k n pc L (v4 :: v3 :: v2 :: v1 :: .ref a :: rest) := G.callV nf [v1, v2, v3, v4] hd w1 w2 w3 w4 w5 w6 pd E c hS0 rfl hln f hy hL hf hl hcc hss
theorem Good.callP4 (G : Good Z a0 EL K own code maxL ret nm) {v1 v2 v3 v4 : Value} (hd : Dc code pc (.invokevirtual index) 3 pc') (w1 : (Cond.methodLink own index y).before a0 Z = true) (w2 : (Cond.instanceMethod y).before a0 Z = true) (w3 : (Cond.privateMethod y).before a0 Z = true) (w4 : (Cond.code y bytes maxL' ret').before a0 Z = true) (w5 : (Cond.initialized y.cls).before a0 Z = true) (nf : Nf Z y) (pd : parseMethodDescriptor y.desc = some ⟨ps, rr⟩) (E : Exa Z h a C) (c : Con K.l Z EL nw y bytes maxL' ret' [] rm #[.ref a, v1, v2, v3, v4] h S0 Post') (hS0 : ∀ x ∈ S0, x ∈ S) (f : ∀ v h' S', Post' v h' S' → h.size ≤ h'.size → Go Z EL nw R Post K h' (S' ++ S) (k + rm.cells) (n + rm.slots) pc' L (v.toList ++ rest)) (hln : 4 = ps.length := by rfl) (hy : y.cls ≠ "java/lang/invoke/MethodHandle" ∧ y.cls ≠ "java/lang/invoke/VarHandle" := by decide) (hL : L.length = maxL := by rfl) (hf : rm.frames + 1 ≤ R.frames := by decide) (hl : (rest.map fun v => v.category).sum + (maxL' + 11) + rm.locals ≤ R.locals := by exact Nat.le_of_ble_eq_true rfl) (hcc : k + rm.cells ≤ R.cells := by decide) (hss : n + rm.slots ≤ R.slots := by decide) : Go Z EL nw R Post K h S k n pc L (v4 :: v3 :: v2 :: v1 :: .ref a :: rest) := G.callP [v1, v2, v3, v4] hd w1 w2 w3 w4 w5 nf pd E c hS0 rfl hln f hy hL hf hl hcc hss
theorem Good.callF4 (G : Good Z a0 EL K own code maxL ret nm) {count : Nat} {v1 v2 v3 v4 : Value} (hd : Dc code pc (.invokeinterface index count) 5 pc') (w1 : (Cond.methodLink own index y).before a0 Z = true) (w2 : (Cond.declares y).before a0 Z = true) (w3 : (Cond.interfaceMethod y.cls y.cls y.name y.desc).before a0 Z = true) (w4 : (Cond.selects C y z).before a0 Z = true) (w5 : (Cond.instanceMethod z).before a0 Z = true) (w6 : (Cond.publicMethod z).before a0 Z = true) (w7 : (Cond.unhidden C y.name y.desc).before a0 Z = true) (w8 : (Cond.castable C y.cls).before a0 Z = true) (w9 : (Cond.code z bytes maxL' ret').before a0 Z = true) (w10 : (Cond.initialized z.cls).before a0 Z = true) (pd : parseMethodDescriptor y.desc = some ⟨ps, rr⟩) (E : Exa Z h a C) (c : Con K.l Z EL nw z bytes maxL' ret' [] rm #[.ref a, v1, v2, v3, v4] h S0 Post') (hS0 : ∀ x ∈ S0, x ∈ S) (f : ∀ v h' S', Post' v h' S' → h.size ≤ h'.size → Go Z EL nw R Post K h' (S' ++ S) (k + rm.cells) (n + rm.slots) pc' L (v.toList ++ rest)) (hln : 4 = ps.length := by rfl) (hy : y.cls ≠ "java/lang/invoke/MethodHandle" ∧ y.cls ≠ "java/lang/invoke/VarHandle" := by decide) (hL : L.length = maxL := by rfl) (hf : rm.frames + 1 ≤ R.frames := by decide) (hl : (rest.map fun v => v.category).sum + (maxL' + 11) + rm.locals ≤ R.locals := by exact Nat.le_of_ble_eq_true rfl) (hcc : k + rm.cells ≤ R.cells := by decide) (hss : n + rm.slots ≤ R.slots := by decide) : Go Z EL nw R Post K h S k n pc L (v4 :: v3 :: v2 :: v1 :: .ref a :: rest) := G.callF [v1, v2, v3, v4] hd w1 w2 w3 w4 w5 w6 w7 w8 w9 w10 pd E c hS0 rfl hln f hy hL hf hl hcc hss
theorem Good.callI5 (G : Good Z a0 EL K own code maxL ret nm) {v1 v2 v3 v4 v5 : Value} (hd : Dc code pc (.invokespecial index) 3 pc') (w1 : (Cond.methodLink own index y).before a0 Z = true) (w2 : (Cond.instanceMethod y).before a0 Z = true) (w3 : (Cond.initialized y.cls).before a0 Z = true) (w4 : (Cond.code y bytes maxL' none).before a0 Z = true) (pd : parseMethodDescriptor y.desc = some ⟨ps, rr⟩) (c : Con K.l Z EL nw y bytes maxL' none [] rm #[.ref a, v1, v2, v3, v4, v5] h S0 Post') (hS0 : ∀ x ∈ S0, x ∈ S) (f : ∀ v h' S', Post' v h' S' → h.size ≤ h'.size → Go Z EL nw R Post K h' (S' ++ S) (k + rm.cells) (n + rm.slots) pc' L (v.toList ++ rest)) (hy1 : y.name = "<init>" := by rfl) (hln : 5 = ps.length := by rfl) (hy : y.cls ≠ "java/lang/invoke/MethodHandle" ∧ y.cls ≠ "java/lang/invoke/VarHandle" := by decide) (hL : L.length = maxL := by rfl) (hf : rm.frames + 1 ≤ R.frames := by decide) (hl : (rest.map fun v => v.category).sum + (maxL' + 11) + rm.locals ≤ R.locals := by exact Nat.le_of_ble_eq_true rfl) (hcc : k + rm.cells ≤ R.cells := by decide) (hss : n + rm.slots ≤ R.slots := by decide) : Go Z EL nw R Post K h S k n pc L (v5 :: v4 :: v3 :: v2 :: v1 :: .ref a :: rest) := G.callI [v1, v2, v3, v4, v5] hd w1 w2 w3 w4 pd c hS0 rfl hln f hy1 hy hL hf hl hcc hss
theorem Good.callV5 (G : Good Z a0 EL K own code maxL ret nm) {v1 v2 v3 v4 v5 : Value} (hd : Dc code pc (.invokevirtual index) 3 pc') (w1 : (Cond.methodLink own index y).before a0 Z = true) (w2 : (Cond.declares y).before a0 Z = true) (w3 : (Cond.selects C y y).before a0 Z = true) (w4 : (Cond.instanceMethod y).before a0 Z = true) (w5 : (Cond.code y bytes maxL' ret').before a0 Z = true) (w6 : (Cond.initialized y.cls).before a0 Z = true) (pd : parseMethodDescriptor y.desc = some ⟨ps, rr⟩) (E : Exa Z h a C) (c : Con K.l Z EL nw y bytes maxL' ret' [] rm #[.ref a, v1, v2, v3, v4, v5] h S0 Post') (hS0 : ∀ x ∈ S0, x ∈ S) (f : ∀ v h' S', Post' v h' S' → h.size ≤ h'.size → Go Z EL nw R Post K h' (S' ++ S) (k + rm.cells) (n + rm.slots) pc' L (v.toList ++ rest)) (hln : 5 = ps.length := by rfl) (hy : y.cls ≠ "java/lang/invoke/MethodHandle" ∧ y.cls ≠ "java/lang/invoke/VarHandle" := by decide) (hL : L.length = maxL := by rfl) (hf : rm.frames + 1 ≤ R.frames := by decide) (hl : (rest.map fun v => v.category).sum + (maxL' + 11) + rm.locals ≤ R.locals := by exact Nat.le_of_ble_eq_true rfl) (hcc : k + rm.cells ≤ R.cells := by decide) (hss : n + rm.slots ≤ R.slots := by decide) : Go Z EL nw R Post K h S k n pc L (v5 :: v4 :: v3 :: v2 :: v1 :: .ref a :: rest) := G.callV (Nf.sel w3) [v1, v2, v3, v4, v5] hd w1 w2 w3 w4 w5 w6 pd E c hS0 rfl hln f hy hL hf hl hcc hss
theorem Good.callW5 (G : Good Z a0 EL K own code maxL ret nm) (nf : Nf Z y) {v1 v2 v3 v4 v5 : Value} (hd : Dc code pc (.invokevirtual index) 3 pc') (w1 : (Cond.methodLink own index y).before a0 Z = true) (w2 : (Cond.declares y).before a0 Z = true) (w3 : (Cond.selects C y z).before a0 Z = true) (w4 : (Cond.instanceMethod z).before a0 Z = true) (w5 : (Cond.code z bytes maxL' ret').before a0 Z = true) (w6 : (Cond.initialized z.cls).before a0 Z = true) (pd : parseMethodDescriptor y.desc = some ⟨ps, rr⟩) (E : Exa Z h a C) (c : Con K.l Z EL nw z bytes maxL' ret' [] rm #[.ref a, v1, v2, v3, v4, v5] h S0 Post') (hS0 : ∀ x ∈ S0, x ∈ S) (f : ∀ v h' S', Post' v h' S' → h.size ≤ h'.size → Go Z EL nw R Post K h' (S' ++ S) (k + rm.cells) (n + rm.slots) pc' L (v.toList ++ rest)) (hln : 5 = ps.length := by rfl) (hy : y.cls ≠ "java/lang/invoke/MethodHandle" ∧ y.cls ≠ "java/lang/invoke/VarHandle" := by decide) (hL : L.length = maxL := by rfl) (hf : rm.frames + 1 ≤ R.frames := by decide) (hl : (rest.map fun v => v.category).sum + (maxL' + 11) + rm.locals ≤ R.locals := by exact Nat.le_of_ble_eq_true rfl) (hcc : k + rm.cells ≤ R.cells := by decide) (hss : n + rm.slots ≤ R.slots := by decide) : Go Z EL nw R Post K h S k n pc L (v5 :: v4 :: v3 :: v2 :: v1 :: .ref a :: rest) := G.callV nf [v1, v2, v3, v4, v5] hd w1 w2 w3 w4 w5 w6 pd E c hS0 rfl hln f hy hL hf hl hcc hss
theorem Good.callP5 (G : Good Z a0 EL K own code maxL ret nm) {v1 v2 v3 v4 v5 : Value} (hd : Dc code pc (.invokevirtual index) 3 pc') (w1 : (Cond.methodLink own index y).before a0 Z = true) (w2 : (Cond.instanceMethod y).before a0 Z = true) (w3 : (Cond.privateMethod y).before a0 Z = true) (w4 : (Cond.code y bytes maxL' ret').before a0 Z = true) (w5 : (Cond.initialized y.cls).before a0 Z = true) (nf : Nf Z y) (pd : parseMethodDescriptor y.desc = some ⟨ps, rr⟩) (E : Exa Z h a C) (c : Con K.l Z EL nw y bytes maxL' ret' [] rm #[.ref a, v1, v2, v3, v4, v5] h S0 Post') (hS0 : ∀ x ∈ S0, x ∈ S) (f : ∀ v h' S', Post' v h' S' → h.size ≤ h'.size → Go Z EL nw R Post K h' (S' ++ S) (k + rm.cells) (n + rm.slots) pc' L (v.toList ++ rest)) (hln : 5 = ps.length := by rfl) (hy : y.cls ≠ "java/lang/invoke/MethodHandle" ∧ y.cls ≠ "java/lang/invoke/VarHandle" := by decide) (hL : L.length = maxL := by rfl) (hf : rm.frames + 1 ≤ R.frames := by decide) (hl : (rest.map fun v => v.category).sum + (maxL' + 11) + rm.locals ≤ R.locals := by exact Nat.le_of_ble_eq_true rfl) (hcc : k + rm.cells ≤ R.cells := by decide) (hss : n + rm.slots ≤ R.slots := by decide) : Go Z EL nw R Post K h S k n pc L (v5 :: v4 :: v3 :: v2 :: v1 :: .ref a :: rest) := G.callP [v1, v2, v3, v4, v5] hd w1 w2 w3 w4 w5 nf pd E c hS0 rfl hln f hy hL hf hl hcc hss
theorem Good.callF5 (G : Good Z a0 EL K own code maxL ret nm) {count : Nat} {v1 v2 v3 v4 v5 : Value} (hd : Dc code pc (.invokeinterface index count) 5 pc') (w1 : (Cond.methodLink own index y).before a0 Z = true) (w2 : (Cond.declares y).before a0 Z = true) (w3 : (Cond.interfaceMethod y.cls y.cls y.name y.desc).before a0 Z = true) (w4 : (Cond.selects C y z).before a0 Z = true) (w5 : (Cond.instanceMethod z).before a0 Z = true) (w6 : (Cond.publicMethod z).before a0 Z = true) (w7 : (Cond.unhidden C y.name y.desc).before a0 Z = true) (w8 : (Cond.castable C y.cls).before a0 Z = true) (w9 : (Cond.code z bytes maxL' ret').before a0 Z = true) (w10 : (Cond.initialized z.cls).before a0 Z = true) (pd : parseMethodDescriptor y.desc = some ⟨ps, rr⟩) (E : Exa Z h a C) (c : Con K.l Z EL nw z bytes maxL' ret' [] rm #[.ref a, v1, v2, v3, v4, v5] h S0 Post') (hS0 : ∀ x ∈ S0, x ∈ S) (f : ∀ v h' S', Post' v h' S' → h.size ≤ h'.size → Go Z EL nw R Post K h' (S' ++ S) (k + rm.cells) (n + rm.slots) pc' L (v.toList ++ rest)) (hln : 5 = ps.length := by rfl) (hy : y.cls ≠ "java/lang/invoke/MethodHandle" ∧ y.cls ≠ "java/lang/invoke/VarHandle" := by decide) (hL : L.length = maxL := by rfl) (hf : rm.frames + 1 ≤ R.frames := by decide) (hl : (rest.map fun v => v.category).sum + (maxL' + 11) + rm.locals ≤ R.locals := by exact Nat.le_of_ble_eq_true rfl) (hcc : k + rm.cells ≤ R.cells := by decide) (hss : n + rm.slots ≤ R.slots := by decide) : Go Z EL nw R Post K h S k n pc L (v5 :: v4 :: v3 :: v2 :: v1 :: .ref a :: rest) := G.callF [v1, v2, v3, v4, v5] hd w1 w2 w3 w4 w5 w6 w7 w8 w9 w10 pd E c hS0 rfl hln f hy hL hf hl hcc hss
theorem Good.callU0 (G : Good Z a0 EL K own code maxL ret nm) (hd : Dc code pc (.invokespecial index) 3 pc') (w1 : (Cond.methodLink own index y).before a0 Z = true) (w2 : Nf Z y) (w3 : (Cond.instanceMethod y).before a0 Z = true) (w4 : (Cond.superclass own y.cls).before a0 Z = true) (w5 : (Cond.code y bytes maxL' ret').before a0 Z = true) (w6 : (Cond.initialized y.cls).before a0 Z = true) (pd : parseMethodDescriptor y.desc = some ⟨ps, rr⟩) (E : Exa Z h a C) (c : Con K.l Z EL nw y bytes maxL' ret' [] rm #[.ref a] h S0 Post') (hS0 : ∀ x ∈ S0, x ∈ S) (f : ∀ v h' S', Post' v h' S' → h.size ≤ h'.size → Go Z EL nw R Post K h' (S' ++ S) (k + rm.cells) (n + rm.slots) pc' L (v.toList ++ rest)) (hy1 : y.name ≠ "<init>" := by decide) (hln : 0 = ps.length := by rfl) (hy : y.cls ≠ "java/lang/invoke/MethodHandle" ∧ y.cls ≠ "java/lang/invoke/VarHandle" := by decide) (hL : L.length = maxL := by rfl) (hf : rm.frames + 1 ≤ R.frames := by decide) (hl : (rest.map fun v => v.category).sum + (maxL' + 11) + rm.locals ≤ R.locals := by exact Nat.le_of_ble_eq_true rfl) (hcc : k + rm.cells ≤ R.cells := by decide) (hss : n + rm.slots ≤ R.slots := by decide) : Go Z EL nw R Post K h S k n pc L (.ref a :: rest) := G.callU [] hd w1 w2 w3 w4 w5 w6 pd E c hS0 rfl hln f hy1 hy hL hf hl hcc hss
theorem Good.callU1 (G : Good Z a0 EL K own code maxL ret nm) {v1 : Value} (hd : Dc code pc (.invokespecial index) 3 pc') (w1 : (Cond.methodLink own index y).before a0 Z = true) (w2 : Nf Z y) (w3 : (Cond.instanceMethod y).before a0 Z = true) (w4 : (Cond.superclass own y.cls).before a0 Z = true) (w5 : (Cond.code y bytes maxL' ret').before a0 Z = true) (w6 : (Cond.initialized y.cls).before a0 Z = true) (pd : parseMethodDescriptor y.desc = some ⟨ps, rr⟩) (E : Exa Z h a C) (c : Con K.l Z EL nw y bytes maxL' ret' [] rm #[.ref a, v1] h S0 Post') (hS0 : ∀ x ∈ S0, x ∈ S) (f : ∀ v h' S', Post' v h' S' → h.size ≤ h'.size → Go Z EL nw R Post K h' (S' ++ S) (k + rm.cells) (n + rm.slots) pc' L (v.toList ++ rest)) (hy1 : y.name ≠ "<init>" := by decide) (hln : 1 = ps.length := by rfl) (hy : y.cls ≠ "java/lang/invoke/MethodHandle" ∧ y.cls ≠ "java/lang/invoke/VarHandle" := by decide) (hL : L.length = maxL := by rfl) (hf : rm.frames + 1 ≤ R.frames := by decide) (hl : (rest.map fun v => v.category).sum + (maxL' + 11) + rm.locals ≤ R.locals := by exact Nat.le_of_ble_eq_true rfl) (hcc : k + rm.cells ≤ R.cells := by decide) (hss : n + rm.slots ≤ R.slots := by decide) : Go Z EL nw R Post K h S k n pc L (v1 :: .ref a :: rest) := G.callU [v1] hd w1 w2 w3 w4 w5 w6 pd E c hS0 rfl hln f hy1 hy hL hf hl hcc hss
theorem Good.callU2 (G : Good Z a0 EL K own code maxL ret nm) {v1 v2 : Value} (hd : Dc code pc (.invokespecial index) 3 pc') (w1 : (Cond.methodLink own index y).before a0 Z = true) (w2 : Nf Z y) (w3 : (Cond.instanceMethod y).before a0 Z = true) (w4 : (Cond.superclass own y.cls).before a0 Z = true) (w5 : (Cond.code y bytes maxL' ret').before a0 Z = true) (w6 : (Cond.initialized y.cls).before a0 Z = true) (pd : parseMethodDescriptor y.desc = some ⟨ps, rr⟩) (E : Exa Z h a C) (c : Con K.l Z EL nw y bytes maxL' ret' [] rm #[.ref a, v1, v2] h S0 Post') (hS0 : ∀ x ∈ S0, x ∈ S) (f : ∀ v h' S', Post' v h' S' → h.size ≤ h'.size → Go Z EL nw R Post K h' (S' ++ S) (k + rm.cells) (n + rm.slots) pc' L (v.toList ++ rest)) (hy1 : y.name ≠ "<init>" := by decide) (hln : 2 = ps.length := by rfl) (hy : y.cls ≠ "java/lang/invoke/MethodHandle" ∧ y.cls ≠ "java/lang/invoke/VarHandle" := by decide) (hL : L.length = maxL := by rfl) (hf : rm.frames + 1 ≤ R.frames := by decide) (hl : (rest.map fun v => v.category).sum + (maxL' + 11) + rm.locals ≤ R.locals := by exact Nat.le_of_ble_eq_true rfl) (hcc : k + rm.cells ≤ R.cells := by decide) (hss : n + rm.slots ≤ R.slots := by decide) : Go Z EL nw R Post K h S k n pc L (v2 :: v1 :: .ref a :: rest) := G.callU [v1, v2] hd w1 w2 w3 w4 w5 w6 pd E c hS0 rfl hln f hy1 hy hL hf hl hcc hss
theorem Good.callU3 (G : Good Z a0 EL K own code maxL ret nm) {v1 v2 v3 : Value} (hd : Dc code pc (.invokespecial index) 3 pc') (w1 : (Cond.methodLink own index y).before a0 Z = true) (w2 : Nf Z y) (w3 : (Cond.instanceMethod y).before a0 Z = true) (w4 : (Cond.superclass own y.cls).before a0 Z = true) (w5 : (Cond.code y bytes maxL' ret').before a0 Z = true) (w6 : (Cond.initialized y.cls).before a0 Z = true) (pd : parseMethodDescriptor y.desc = some ⟨ps, rr⟩) (E : Exa Z h a C) (c : Con K.l Z EL nw y bytes maxL' ret' [] rm #[.ref a, v1, v2, v3] h S0 Post') (hS0 : ∀ x ∈ S0, x ∈ S) (f : ∀ v h' S', Post' v h' S' → h.size ≤ h'.size → Go Z EL nw R Post K h' (S' ++ S) (k + rm.cells) (n + rm.slots) pc' L (v.toList ++ rest)) (hy1 : y.name ≠ "<init>" := by decide) (hln : 3 = ps.length := by rfl) (hy : y.cls ≠ "java/lang/invoke/MethodHandle" ∧ y.cls ≠ "java/lang/invoke/VarHandle" := by decide) (hL : L.length = maxL := by rfl) (hf : rm.frames + 1 ≤ R.frames := by decide) (hl : (rest.map fun v => v.category).sum + (maxL' + 11) + rm.locals ≤ R.locals := by exact Nat.le_of_ble_eq_true rfl) (hcc : k + rm.cells ≤ R.cells := by decide) (hss : n + rm.slots ≤ R.slots := by decide) : Go Z EL nw R Post K h S k n pc L (v3 :: v2 :: v1 :: .ref a :: rest) := G.callU [v1, v2, v3] hd w1 w2 w3 w4 w5 w6 pd E c hS0 rfl hln f hy1 hy hL hf hl hcc hss
end Calls
end Jvm.Own
namespace Jvm.Own
open Jvm Jvm.ClassFile Sem Op Lib Jvm.Free Jvm.Stand Jvm.LawKit Jvm.RoadKit Bundle
/-- the String at a: its coder, its byte[] b and what that holds -/
def StrB (Z : State) (h : Heap) (a : Addr) (cd : Int32) (b : Addr) (vs : List Value) : Prop := Exa Z h a "java/lang/String" ∧ Fld Z h a "java/lang/String" "coder" "B" (.int cd) ∧ Fld Z h a "java/lang/String" "value" "[B" (.ref b) ∧ Al Z h b .byte vs
section StrFacts
variable {Z : State} {h h' : Heap} {a b : Addr} {cd : Int32} {vs : List Value} {ws : List Addr}
theorem StrB.ext (F : StrB Z h a cd b vs) (E : Ext h h') : StrB Z h' a cd b vs := ⟨F.1.ext E, F.2.1.ext E, F.2.2.1.ext E, F.2.2.2.ext E⟩
theorem StrB.keep (F : StrB Z h a cd b vs) (K : Keep h h' ws) (q : a ∉ ws) (r : b ∉ ws) : StrB Z h' a cd b vs := ⟨F.1.keep K, F.2.1.keep K q, F.2.2.1.keep K q, F.2.2.2.keep K r⟩
theorem StrB.lt (F : StrB Z h a cd b vs) : a < h.size ∧ b < h.size := ⟨F.1.lt, F.2.2.2.lt⟩
/-- an object of a class right under the root is no instance of another class -/
theorem notInst {a0 : Array Value} {C O D : String} {cnt : Nat} (w : (Cond.superclass C O).before a0 Z = true) (wo : (Cond.noSuperclass O).before a0 Z = true) (wi : (Cond.instantiable D cnt).before a0 Z = true) (h1 : C ≠ D) (h2 : O ≠ D) : ∃ c t, Z.vm.findClass C = some c ∧ Z.vm.findClass D = some t ∧ Z.vm.assignable c t = false := by
  obtain ⟨t, k', g1, g2, g3, g4, -⟩ := Cond.instantiable_spec wi
  simp only [Bool.or_eq_false_iff] at g4
  obtain ⟨co, ko, o1, o2, o3, -⟩ := Cond.noSuperclass_spec wo
  obtain ⟨c, q0⟩ := found_sup w
  obtain ⟨p, kk, kp, q1, q2, q3, q4, q5, -⟩ := Cond.superclass_spec q0 w
  cases o1.symm.trans q1
  have ne := ids_ne q0 g1 h1
  have ne' := ids_ne o1 g1 h2
  have n3 : ∀ fuel, Z.vm.isSubclassAux fuel c t = false := fun fuel => by
    cases fuel with
    | zero => rfl
    | succ f => cases f with
      | zero => simp [Vm.isSubclassAux, ne, q2, q4]
      | succ f => simp [Vm.isSubclassAux, ne, ne', q2, q4, o2, o3]
  refine ⟨c, t, q0, g1, ?_⟩
  show Z.vm.assignableAux (255 + 1) c t = false
  simp [Vm.assignableAux, ne, q2, g2, q5, g3, g4.1, Vm.isSubclass, n3]
end StrFacts
section Lit
variable {Z : State} {a0 : Array Value} {EL : List (String × Nat)} {nw : Bool} {R : Room} {Post : Pst} {K : Kx} {own : String} {code : ByteArray} {maxL : Nat} {ret : Option FieldType} {nm : String} {h h' : Heap} {S : List Addr} {k n pc pc' : Nat} {L : List Slot} {st : List Value} {l : Launch}
/-- ldc of a String constant whose text is known -/
theorem Good.ldcS (G : Good Z a0 EL K own code maxL ret nm) {index : Nat} {text : String} (N : Nat) (vs : List Value) (z : Int32) (hd : Dc code pc (.ldc index) 2 pc') (w : (Cond.stringLink own index text).before a0 Z = true) (wS : ∀ a ∈ Bundle.stringAtoms, a.before a0 Z = true) (hnw : nw = false) (hmem : (own, index) ∈ EL)
    (ht : (∀ c ∈ text.toList, c.toNat < 256) ∧ text.toList.map (fun c => Value.int (Jvm.Lit.byteI c.toNat.toUInt16)) = vs) (hz : ¬ z < 0) (hl : z.toNatClampNeg = vs.length) (hn : 4 * text.toList.length ≤ N) (hbig : N ≤ 536870912)
    (f : ∀ a b h', Ext h h' → StrB Z h' a 0 b vs → (∀ x ∈ S, x ≠ a ∧ x ≠ b) → Go Z EL nw R Post K h' S (k + 2) (n + (N + 4)) pc' L (.ref a :: st)) (hc : k + 2 ≤ R.cells := by decide) (hl' : n + (N + 4) ≤ R.slots := by decide) : Go Z EL nw R Post K h S k n pc L st := fun T I => by
  obtain ⟨hd, rfl⟩ := hd
  obtain ⟨vm0, k0, locs, X, hS, hk0, hZ, e, Nf, CH, hSf, hw, hO⟩ := I
  obtain ⟨a, T', h', k1, b, kc, X', e', E, hS', hk1, hZ', hf', f1, f2, f3, f4, -, -, hC, -, hne, stp⟩ := ldcCH X G.1 hZ (G.hown hS) w wS e hS hk0 G.2.2.2.2.2.2.2 hmem CH.1 ht hz hl (g := mkF K.m pc L.toArray st) rfl (hb G.2.1 hd) hn hbig hc hl'
  have hsafe : ∀ x ∈ S, Safe Z EL T'.vm h' x := fun x hx => hC.safe (hSf x hx).2.1 (hSf x hx).2.2
  refine (f a b h' E ⟨f1, f2, f3, Al.of_arv f4 hl⟩ (fun x hx => hne x (hsafe x hx)) T' ⟨T'.vm, k1, locs, X', hS', hk1, hZ', e', Nf, CH.trans hC, fun x hx => ⟨(hSf x hx).1, Nat.lt_of_lt_of_le (hSf x hx).2.1 E.1, hsafe x hx⟩, fun q => (by rw [hnw] at q; cases q), ⟨Nat.le_trans hO.1 E.1, fun x c q => E.2 x c (hO.2 x c q)⟩⟩).step stp
/-- ldc of a String constant, what it holds unsaid -/
theorem Good.ldcO (G : Good Z a0 EL K own code maxL ret nm) {index : Nat} {text : String} (N : Nat) (hd : Dc code pc (.ldc index) 2 pc') (w : (Cond.stringLink own index text).before a0 Z = true) (wS : ∀ a ∈ Bundle.stringAtoms, a.before a0 Z = true) (hnw : nw = false) (hn : 4 * text.toList.length ≤ N) (hbig : N ≤ 536870912)
    (f : ∀ a h', Ext h h' → Go Z EL nw R Post K h' S (k + 2) (n + (N + 4)) pc' L (.ref a :: st)) (hc : k + 2 ≤ R.cells := by decide) (hl' : n + (N + 4) ≤ R.slots := by decide) : Go Z EL nw R Post K h S k n pc L st := fun T I => by
  obtain ⟨hd, rfl⟩ := hd
  obtain ⟨vm0, k0, locs, X, hS, hk0, hZ, e, Nf, CH, hSf, hw, hO⟩ := I
  obtain ⟨a, T', h', k1, X', e', E, hS', hk1, hZ', hf', hC, -, stp⟩ := ldcOH X G.1 hZ (G.hown hS) w wS e hS hk0 G.2.2.2.2.2.2.2 CH.1 (g := mkF K.m pc L.toArray st) rfl (hb G.2.1 hd) hn hbig hc hl'
  exact (f a h' E T' ⟨T'.vm, k1, locs, X', hS', hk1, hZ', e', Nf, CH.trans hC, fun x hx => ⟨(hSf x hx).1, Nat.lt_of_lt_of_le (hSf x hx).2.1 E.1, hC.safe (hSf x hx).2.1 (hSf x hx).2.2⟩, fun q => (by rw [hnw] at q; cases q), ⟨Nat.le_trans hO.1 E.1, fun x c q => E.2 x c (hO.2 x c q)⟩⟩).step stp
end Lit
end Jvm.Own
namespace Jvm.Own
open Jvm Jvm.ClassFile Sem Op Lib Jvm.Free Jvm.Stand Jvm.LawKit Jvm.RoadKit Bundle
section More
variable {Z : State} {a0 : Array Value} {EL : List (String × Nat)} {nw : Bool} {R : Room} {Post : Pst} {K : Kx} {own : String} {code : ByteArray} {maxL : Nat} {ret : Option FieldType} {nm : String} {h h' : Heap} {S : List Addr} {k n pc pc' : Nat} {L : List Slot} {st : List Value} {l : Launch}
/-- newarray, with the array's class -/
theorem Good.newAE (G : Good Z a0 EL K own code maxL ret nm) {aty : ArrayType} {j : Int32} {ad : String} (i cap : Nat) (hd : Dc code pc (.newarray aty) 2 pc') (w : (Cond.arrayClass (newarray.typeOf aty)).before a0 Z = true) (had : "[" ++ (newarray.typeOf aty).toString = ad) (hj : j.toInt = (i : Int)) (hi : i ≤ cap)
    (f : ∀ h', Ext h h' → h.size < h'.size → (Al Z h' h.size (newarray.typeOf aty) (List.replicate i (defaultValue (newarray.typeOf aty))) ∧ Exa Z h' h.size ad) → Go Z EL nw R Post K h' (h.size :: S) (k + 1) (n + cap) pc' L (.ref h.size :: st)) (hb' : cap * 8 ≤ 536870912 := by decide) (hc : k + 1 ≤ R.cells := by decide) (hl : n + cap ≤ R.slots := by decide) : Go Z EL nw R Post K h S k n pc L (.int j :: st) := by
  obtain ⟨hd, rfl⟩ := hd
  obtain ⟨j1, j2⟩ := nat_idx hj
  refine Go.grow G (fun T vm0 locs X hZ hown e => ?_) f
  obtain ⟨T', h', cA, X', e', E, A, Ex, stp⟩ := newPE X G.1 hZ w e (g := mkF K.m pc L.toArray (.int j :: st)) rfl (hb G.2.1 hd) rfl j1 (by rw [j2]; exact hi) hb' hc hl had
  exact ⟨T', h', X', e', E, A.lt, ⟨⟨_, A, by simp [RoadKit.newA, j2], by simp; omega, fun v hv => by rw [List.eq_of_mem_replicate hv]; cases aty <;> rfl⟩, Ex⟩, stp⟩
/-- baload of a boolean[] -/
theorem Good.zaload (G : Good Z a0 EL K own code maxL ret nm) {a : Addr} {vs : List Value} {j : Int32} {i : Nat} {v : Value} (hd : Dc code pc .baload 1 pc') (A : Al Z h a .boolean vs) (hj : j.toInt = (i : Int)) (hv : vs[i]? = some v) (f : Go Z EL nw R Post K h S k n pc' L (v :: st)) : Go Z EL nw R Post K h S k n pc L (.int j :: .ref a :: st) := by
  obtain ⟨hd, rfl⟩ := hd
  obtain ⟨c, A1, A2, A3, A4⟩ := A
  obtain ⟨j1, j2⟩ := nat_idx hj
  have hlt := (List.getElem?_eq_some_iff.mp hv).1
  refine Go.calm G (fun T vm0 locs X hZ hown e => ⟨T, X, e, fun t q => ?_⟩) f
  exact X.baloadBooleans G.1 (by rw [e]; exact A1.1) (State.isArrayOf_alike hZ.alike A1.2.1) A1.2.2 (by rw [j2, A2]; simp only [List.size_toArray]; rintro (q | q); exact j1 q; omega) (by rw [j2, A2]; simpa using hv) (g := mkF K.m pc L.toArray (.int j :: .ref a :: st)) rfl rfl (hb G.2.1 hd) t q
/-- clone of an array -/
theorem Good.aclone (G : Good Z a0 EL K own code maxL ret nm) {ad : String} {index : Nat} {a : Addr} {ty : FieldType} {vs : List Value} (cap : Nat) (hd : Dc code pc (.invokevirtual index) 3 pc')
    (w1 : (Cond.methodLink own index ⟨ad, "clone", "()Ljava/lang/Object;"⟩).before a0 Z = true) (w2 : (Cond.sameMethod ad "java/lang/Object" "clone" "()Ljava/lang/Object;").before a0 Z = true) (w3 : (Cond.native ⟨"java/lang/Object", "clone", "()Ljava/lang/Object;"⟩).before a0 Z = true)
    (w4 : (Cond.instanceMethod ⟨"java/lang/Object", "clone", "()Ljava/lang/Object;"⟩).before a0 Z = true) (w5 : (Cond.selects ad ⟨ad, "clone", "()Ljava/lang/Object;"⟩ ⟨"java/lang/Object", "clone", "()Ljava/lang/Object;"⟩).before a0 Z = true) (w6 : (Cond.castable ad "java/lang/Cloneable").before a0 Z = true)
    (A : Al Z h a ty vs) (E : Exa Z h a ad) (hcap : vs.length ≤ cap)
    (f : ∀ h', Ext h h' → h.size < h'.size → (Al Z h' h.size ty vs ∧ Exa Z h' h.size ad) → Go Z EL nw R Post K h' (h.size :: S) (k + 1) (n + cap) pc' L (.ref h.size :: st)) (hL : L.length = maxL := by rfl) (hf : 1 ≤ R.frames := by decide) (hl : (st.map fun v => v.category).sum + 14 ≤ R.locals := by exact Nat.le_of_ble_eq_true rfl) (hc : k + 1 ≤ R.cells := by decide) (hsl : n + cap ≤ R.slots := by decide) : Go Z EL nw R Post K h S k n pc L (.ref a :: st) := by
  obtain ⟨hd, rfl⟩ := hd
  obtain ⟨c, A1, A2, A3, A4⟩ := A
  refine Go.grow G (fun T vm0 locs X hZ hown e => ?_) f
  have FC : FitC Z c := fitC_of A1 fun i hi v hv => A4 v (by rw [A2] at hv; exact List.mem_of_getElem? (by simpa using hv))
  obtain ⟨T', h', X', e', ex, A', E', stp⟩ := cloneA X G.1 hZ hown w1 w2 w3 w4 w5 w6 e A1 E FC (g := mkF K.m pc L.toArray (.ref a :: st)) rfl (by rw [G.2.2.1]; simpa using hL) rfl (hb G.2.1 hd) hf (W := (st.map fun v => v.category).sum) (by show 2 * 0 + _ ≤ _; omega) hl (by rw [A2]; simpa using hcap) hc hsl
  exact ⟨T', h', X', e', ex, A'.lt, ⟨⟨_, A', A2, A3, A4⟩, E'⟩, stp⟩
end More
end Jvm.Own
namespace Jvm.Pilot.@@N@@
open Jvm Jvm.ClassFile Sem Op Lib Jvm.Free Jvm.Stand Jvm.LawKit Jvm.RoadKit Jvm.Own Bundle Jvm.Pilot.@@N@@.Jvm.D
set_option maxRecDepth 65536
set_option maxHeartbeats 4000000
abbrev hwT (a0 : Array Value) (Z : State) : Prop := ∀ (i : Nat) {d : Jvm.Cond}, tables_1[i]? = some d → d.before a0 Z = true
abbrev MO : String := "com/example/libabsent/libabsent/Modulus"
abbrev PO : String := "com/example/libabsent/libabsent/Positions"
theorem hEL0 {Z : State} {a0 : Array Value} : EW Z a0 [] := EW.nil
def mhF (q1 q2 : Int64) : Int64 := (((q1 >>> ((32 : Int32) &&& 0x3f).toInt64) * (q2 >>> ((32 : Int32) &&& 0x3f).toInt64)) + ((((q1 >>> ((32 : Int32) &&& 0x3f).toInt64) * (q2 &&& (4294967295 : Int64))) + ((((q1 &&& (4294967295 : Int64)) * (q2 &&& (4294967295 : Int64))).toUInt64 >>> ((32 : Int32) &&& 0x3f).toInt64.toUInt64).toInt64)) >>> ((32 : Int32) &&& 0x3f).toInt64)) + ((((((q1 >>> ((32 : Int32) &&& 0x3f).toInt64) * (q2 &&& (4294967295 : Int64))) + ((((q1 &&& (4294967295 : Int64)) * (q2 &&& (4294967295 : Int64))).toUInt64 >>> ((32 : Int32) &&& 0x3f).toInt64.toUInt64).toInt64)) &&& (4294967295 : Int64)) + ((q1 &&& (4294967295 : Int64)) * (q2 >>> ((32 : Int32) &&& 0x3f).toInt64))) >>> ((32 : Int32) &&& 0x3f).toInt64)
def mrF (r x : Int64) : Int64 := mhF x r + ((x >>> ((63 : Int32) &&& 0x3f).toInt64) &&& r)
def rmF (d r m x : Int64) : Int64 := (((x &&& m) - (mrF r (x &&& m) * d)) - d) + (d &&& ((((x &&& m) - (mrF r (x &&& m) * d)) - d) >>> ((63 : Int32) &&& 0x3f).toInt64))
def ModObj (Z : State) (h : Heap) (a : Addr) (d r m : Int64) : Prop := Exa Z h a MO ∧ Fld Z h a MO "divisor" "J" (.long d) ∧ Fld Z h a MO "reciprocal" "J" (.long r) ∧ Fld Z h a MO "dividendMask" "J" (.long m)
def PosObj (Z : State) (h : Heap) (a : Addr) (u w : Int64) (c : Int32) (m : Addr) (p s : Int64) (i : Int32) : Prop :=
  Exa Z h a PO ∧ Fld Z h a PO "h1" "J" (.long u) ∧ Fld Z h a PO "h2" "J" (.long w) ∧ Fld Z h a PO "hashCount" "I" (.int c) ∧ Fld Z h a PO "modulus" "Lcom/example/libabsent/libabsent/Modulus;" (.ref m) ∧ Fld Z h a PO "position" "J" (.long p) ∧ Fld Z h a PO "step" "J" (.long s) ∧ Fld Z h a PO "index" "I" (.int i)
theorem ModObj.keep {Z : State} {h h' : Heap} {a : Addr} {d r m : Int64} {ws : List Addr} (F : ModObj Z h a d r m) (K : Keep h h' ws) (q : a ∉ ws) : ModObj Z h' a d r m := ⟨F.1.keep K, F.2.1.keep K q, F.2.2.1.keep K q, F.2.2.2.keep K q⟩
theorem ModObj.ne {Z : State} {h : Heap} {a b : Addr} {d r m : Int64} (F : ModObj Z h a d r m) (E : Exa Z h b PO) : a ∉ [b] := ninS (ne_exa F.1 E (by decide)) nin0
abbrev rm0 : Room := { frames := 0, cells := 0, slots := 0, locals := 0 }
abbrev rm8 : Room := { frames := 1, cells := 0, slots := 0, locals := 31 }
abbrev rm7 : Room := { frames := 2, cells := 0, slots := 0, locals := 47 }
abbrev rm6 : Room := { frames := 3, cells := 0, slots := 0, locals := 69 }
abbrev rm1' : Room := { frames := 1, cells := 0, slots := 0, locals := 20 }
abbrev rm4' : Room := { frames := 1, cells := 0, slots := 0, locals := 12 }
theorem d0_0 : Dc code 0 (.lload 5) 2 2 := ⟨at_0, rfl⟩
theorem d0_2 : Dc code 2 (.ldc2_w 7) 3 5 := ⟨at_2, rfl⟩
theorem d0_5 : Dc code 5 .land 1 6 := ⟨at_5, rfl⟩
theorem d0_6 : Dc code 6 (.lconst 1) 1 7 := ⟨at_6, rfl⟩
theorem d0_7 : Dc code 7 .ladd 1 8 := ⟨at_7, rfl⟩
theorem d0_8 : Dc code 8 (.lstore 7) 2 10 := ⟨at_8, rfl⟩
theorem d0_10 : Dc code 10 (.new 9) 3 13 := ⟨at_10, rfl⟩
theorem d0_13 : Dc code 13 .dup 1 14 := ⟨at_13, rfl⟩
theorem d0_14 : Dc code 14 (.lload 7) 2 16 := ⟨at_14, rfl⟩
theorem d0_16 : Dc code 16 (.invokespecial 11) 3 19 := ⟨at_16, rfl⟩
theorem d0_19 : Dc code 19 (.astore 9) 2 21 := ⟨at_19, rfl⟩
theorem d0_21 : Dc code 21 (.iconst 2) 1 22 := ⟨at_21, rfl⟩
theorem d0_22 : Dc code 22 (.newarray .long) 2 24 := ⟨at_22, rfl⟩
theorem d0_24 : Dc code 24 .dup 1 25 := ⟨at_24, rfl⟩
theorem d0_25 : Dc code 25 (.iconst 0) 1 26 := ⟨at_25, rfl⟩
theorem d0_26 : Dc code 26 (.lload_n 0) 1 27 := ⟨at_26, rfl⟩
theorem d0_27 : Dc code 27 .lastore 1 28 := ⟨at_27, rfl⟩
theorem d0_28 : Dc code 28 .dup 1 29 := ⟨at_28, rfl⟩
theorem d0_29 : Dc code 29 (.iconst 1) 1 30 := ⟨at_29, rfl⟩
theorem d0_30 : Dc code 30 (.lload_n 2) 1 31 := ⟨at_30, rfl⟩
theorem d0_31 : Dc code 31 .lastore 1 32 := ⟨at_31, rfl⟩
theorem d0_32 : Dc code 32 (.astore 10) 2 34 := ⟨at_32, rfl⟩
theorem d0_34 : Dc code 34 (.new 14) 3 37 := ⟨at_34, rfl⟩
theorem d0_37 : Dc code 37 .dup 1 38 := ⟨at_37, rfl⟩
theorem d0_38 : Dc code 38 (.aload 10) 2 40 := ⟨at_38, rfl⟩
theorem d0_40 : Dc code 40 (.iload 4) 2 42 := ⟨at_40, rfl⟩
theorem d0_42 : Dc code 42 (.aload 9) 2 44 := ⟨at_42, rfl⟩
theorem d0_44 : Dc code 44 (.invokespecial 16) 3 47 := ⟨at_44, rfl⟩
theorem d0_47 : Dc code 47 (.astore 11) 2 49 := ⟨at_47, rfl⟩
theorem d0_49 : Dc code 49 (.aload 11) 2 51 := ⟨at_49, rfl⟩
theorem d0_51 : Dc code 51 (.invokevirtual 19) 3 54 := ⟨at_51, rfl⟩
theorem d0_54 : Dc code 54 (.istore 12) 2 56 := ⟨at_54, rfl⟩
theorem d0_56 : Dc code 56 (.iload 12) 2 58 := ⟨at_56, rfl⟩
theorem d0_58 : Dc code 58 (.iconst 0) 1 59 := ⟨at_58, rfl⟩
theorem d0_59 : Dc code 59 (.iload 4) 2 61 := ⟨at_59, rfl⟩
theorem d0_61 : Dj code 61 (.if_icmp .ge) 64 68 := ⟨7, at_61, rfl, by decide, by decide⟩
theorem d0_64 : Dc code 64 (.iconst 1) 1 65 := ⟨at_64, rfl⟩
theorem d0_65 : Dj code 65 .goto 68 69 := ⟨4, at_65, rfl, by decide, by decide⟩
theorem d0_68 : Dc code 68 (.iconst 0) 1 69 := ⟨at_68, rfl⟩
theorem d0_69 : Dj code 69 (.if_icmp .eq) 72 74 := ⟨5, at_69, rfl, by decide, by decide⟩
theorem d0_74 : Dc code 74 (.aload 11) 2 76 := ⟨at_74, rfl⟩
theorem d0_76 : Dc code 76 (.invokevirtual 19) 3 79 := ⟨at_76, rfl⟩
theorem d0_79 : Dc code 79 (.iload 12) 2 81 := ⟨at_79, rfl⟩
theorem d0_81 : Dj code 81 (.if_icmp .eq) 84 86 := ⟨5, at_81, rfl, by decide, by decide⟩
theorem d0_86 : Dc code 86 (.iload 12) 2 88 := ⟨at_86, rfl⟩
theorem d0_88 : Dj code 88 (.ifCond .eq) 91 194 := ⟨106, at_88, rfl, by decide, by decide⟩
theorem d0_91 : Dc code 91 (.aload 11) 2 93 := ⟨at_91, rfl⟩
theorem d0_93 : Dc code 93 (.invokevirtual 23) 3 96 := ⟨at_93, rfl⟩
theorem d0_96 : Dc code 96 .pop2 1 97 := ⟨at_96, rfl⟩
theorem d0_97 : Dc code 97 (.aload 11) 2 99 := ⟨at_97, rfl⟩
theorem d0_99 : Dc code 99 (.invokevirtual 19) 3 102 := ⟨at_99, rfl⟩
theorem d0_102 : Dc code 102 (.istore 13) 2 104 := ⟨at_102, rfl⟩
theorem d0_104 : Dc code 104 (.iload 13) 2 106 := ⟨at_104, rfl⟩
theorem d0_106 : Dc code 106 (.iconst 1) 1 107 := ⟨at_106, rfl⟩
theorem d0_107 : Dc code 107 (.iload 4) 2 109 := ⟨at_107, rfl⟩
theorem d0_109 : Dj code 109 (.if_icmp .ge) 112 116 := ⟨7, at_109, rfl, by decide, by decide⟩
theorem d0_112 : Dc code 112 (.iconst 1) 1 113 := ⟨at_112, rfl⟩
theorem d0_113 : Dj code 113 .goto 116 117 := ⟨4, at_113, rfl, by decide, by decide⟩
theorem d0_116 : Dc code 116 (.iconst 0) 1 117 := ⟨at_116, rfl⟩
theorem d0_117 : Dj code 117 (.if_icmp .eq) 120 122 := ⟨5, at_117, rfl, by decide, by decide⟩
theorem d0_122 : Dc code 122 (.iload 13) 2 124 := ⟨at_122, rfl⟩
theorem d0_124 : Dj code 124 (.ifCond .eq) 127 194 := ⟨70, at_124, rfl, by decide, by decide⟩
theorem d0_127 : Dc code 127 (.aload 11) 2 129 := ⟨at_127, rfl⟩
theorem d0_129 : Dc code 129 (.invokevirtual 23) 3 132 := ⟨at_129, rfl⟩
theorem d0_132 : Dc code 132 .pop2 1 133 := ⟨at_132, rfl⟩
theorem d0_133 : Dc code 133 (.aload 11) 2 135 := ⟨at_133, rfl⟩
theorem d0_135 : Dc code 135 (.invokevirtual 19) 3 138 := ⟨at_135, rfl⟩
theorem d0_138 : Dc code 138 (.istore 14) 2 140 := ⟨at_138, rfl⟩
theorem d0_140 : Dc code 140 (.iload 14) 2 142 := ⟨at_140, rfl⟩
theorem d0_142 : Dc code 142 (.iconst 2) 1 143 := ⟨at_142, rfl⟩
theorem d0_143 : Dc code 143 (.iload 4) 2 145 := ⟨at_143, rfl⟩
theorem d0_145 : Dj code 145 (.if_icmp .ge) 148 152 := ⟨7, at_145, rfl, by decide, by decide⟩
theorem d0_148 : Dc code 148 (.iconst 1) 1 149 := ⟨at_148, rfl⟩
theorem d0_149 : Dj code 149 .goto 152 153 := ⟨4, at_149, rfl, by decide, by decide⟩
theorem d0_152 : Dc code 152 (.iconst 0) 1 153 := ⟨at_152, rfl⟩
theorem d0_153 : Dj code 153 (.if_icmp .eq) 156 158 := ⟨5, at_153, rfl, by decide, by decide⟩
theorem d0_158 : Dc code 158 (.iload 14) 2 160 := ⟨at_158, rfl⟩
theorem d0_160 : Dj code 160 (.ifCond .eq) 163 194 := ⟨34, at_160, rfl, by decide, by decide⟩
theorem d0_163 : Dc code 163 (.aload 11) 2 165 := ⟨at_163, rfl⟩
theorem d0_165 : Dc code 165 (.invokevirtual 23) 3 168 := ⟨at_165, rfl⟩
theorem d0_168 : Dc code 168 .pop2 1 169 := ⟨at_168, rfl⟩
theorem d0_169 : Dc code 169 (.aload 11) 2 171 := ⟨at_169, rfl⟩
theorem d0_171 : Dc code 171 (.invokevirtual 19) 3 174 := ⟨at_171, rfl⟩
theorem d0_174 : Dc code 174 (.istore 15) 2 176 := ⟨at_174, rfl⟩
theorem d0_176 : Dc code 176 (.iload 15) 2 178 := ⟨at_176, rfl⟩
theorem d0_178 : Dc code 178 (.iconst 3) 1 179 := ⟨at_178, rfl⟩
theorem d0_179 : Dc code 179 (.iload 4) 2 181 := ⟨at_179, rfl⟩
theorem d0_181 : Dj code 181 (.if_icmp .ge) 184 188 := ⟨7, at_181, rfl, by decide, by decide⟩
theorem d0_184 : Dc code 184 (.iconst 1) 1 185 := ⟨at_184, rfl⟩
theorem d0_185 : Dj code 185 .goto 188 189 := ⟨4, at_185, rfl, by decide, by decide⟩
theorem d0_188 : Dc code 188 (.iconst 0) 1 189 := ⟨at_188, rfl⟩
theorem d0_189 : Dj code 189 (.if_icmp .eq) 192 194 := ⟨5, at_189, rfl, by decide, by decide⟩
theorem d0_194 : Dc code 194 (.aload 11) 2 196 := ⟨at_194, rfl⟩
theorem d0_196 : Dc code 196 (.invokevirtual 27) 3 199 := ⟨at_196, rfl⟩
theorem d0_199 : Dc code 199 (.aload 11) 2 201 := ⟨at_199, rfl⟩
theorem d0_201 : Dc code 201 (.invokevirtual 19) 3 204 := ⟨at_201, rfl⟩
theorem d0_204 : Dc code 204 (.iconst 0) 1 205 := ⟨at_204, rfl⟩
theorem d0_205 : Dc code 205 (.iload 4) 2 207 := ⟨at_205, rfl⟩
theorem d0_207 : Dj code 207 (.if_icmp .ge) 210 214 := ⟨7, at_207, rfl, by decide, by decide⟩
theorem d0_210 : Dc code 210 (.iconst 1) 1 211 := ⟨at_210, rfl⟩
theorem d0_211 : Dj code 211 .goto 214 215 := ⟨4, at_211, rfl, by decide, by decide⟩
theorem d0_214 : Dc code 214 (.iconst 0) 1 215 := ⟨at_214, rfl⟩
theorem d0_215 : Dj code 215 (.if_icmp .ne) 218 222 := ⟨7, at_215, rfl, by decide, by decide⟩
theorem d0_218 : Dc code 218 (.iconst 1) 1 219 := ⟨at_218, rfl⟩
theorem d0_219 : Dj code 219 .goto 222 223 := ⟨4, at_219, rfl, by decide, by decide⟩
theorem d0_223 : Dc code 223 .ireturn 1 224 := ⟨at_223, rfl⟩
theorem d1_0 : Dc prog_7_method_1_code 0 (.aload_n 0) 1 1 := ⟨by decide +kernel, rfl⟩
theorem d1_1 : Dc prog_7_method_1_code 1 (.invokespecial 1) 3 4 := ⟨by decide +kernel, rfl⟩
theorem d1_4 : Dc prog_7_method_1_code 4 (.lload_n 1) 1 5 := ⟨by decide +kernel, rfl⟩
theorem d1_5 : Dc prog_7_method_1_code 5 (.lconst 1) 1 6 := ⟨by decide +kernel, rfl⟩
theorem d1_6 : Dc prog_7_method_1_code 6 .lcmp 1 7 := ⟨by decide +kernel, rfl⟩
theorem d1_7 : Dj prog_7_method_1_code 7 (.ifCond .lt) 10 18 := ⟨11, by decide +kernel, rfl, by decide, by decide⟩
theorem d1_10 : Dc prog_7_method_1_code 10 (.lload_n 1) 1 11 := ⟨by decide +kernel, rfl⟩
theorem d1_11 : Dc prog_7_method_1_code 11 (.ldc2_w 9) 3 14 := ⟨by decide +kernel, rfl⟩
theorem d1_14 : Dc prog_7_method_1_code 14 .lcmp 1 15 := ⟨by decide +kernel, rfl⟩
theorem d1_15 : Dj prog_7_method_1_code 15 (.ifCond .le) 18 32 := ⟨17, by decide +kernel, rfl, by decide, by decide⟩
theorem d1_32 : Dc prog_7_method_1_code 32 (.aload_n 0) 1 33 := ⟨by decide +kernel, rfl⟩
theorem d1_33 : Dc prog_7_method_1_code 33 (.lload_n 1) 1 34 := ⟨by decide +kernel, rfl⟩
theorem d1_34 : Dc prog_7_method_1_code 34 (.putfield 20) 3 37 := ⟨by decide +kernel, rfl⟩
theorem d1_37 : Dc prog_7_method_1_code 37 (.aload_n 0) 1 38 := ⟨by decide +kernel, rfl⟩
theorem d1_38 : Dc prog_7_method_1_code 38 (.ldc2_w 24) 3 41 := ⟨by decide +kernel, rfl⟩
theorem d1_41 : Dc prog_7_method_1_code 41 (.lload_n 1) 1 42 := ⟨by decide +kernel, rfl⟩
theorem d1_42 : Dc prog_7_method_1_code 42 (.invokestatic 26) 3 45 := ⟨by decide +kernel, rfl⟩
theorem d1_45 : Dc prog_7_method_1_code 45 (.putfield 32) 3 48 := ⟨by decide +kernel, rfl⟩
theorem d1_48 : Dc prog_7_method_1_code 48 (.aload_n 0) 1 49 := ⟨by decide +kernel, rfl⟩
theorem d1_49 : Dc prog_7_method_1_code 49 (.lload_n 1) 1 50 := ⟨by decide +kernel, rfl⟩
theorem d1_50 : Dc prog_7_method_1_code 50 (.lconst 1) 1 51 := ⟨by decide +kernel, rfl⟩
theorem d1_51 : Dc prog_7_method_1_code 51 .lcmp 1 52 := ⟨by decide +kernel, rfl⟩
theorem d1_52 : Dj prog_7_method_1_code 52 (.ifCond .ne) 55 59 := ⟨7, by decide +kernel, rfl, by decide, by decide⟩
theorem d1_55 : Dc prog_7_method_1_code 55 (.lconst 0) 1 56 := ⟨by decide +kernel, rfl⟩
theorem d1_56 : Dj prog_7_method_1_code 56 .goto 59 62 := ⟨6, by decide +kernel, rfl, by decide, by decide⟩
theorem d1_59 : Dc prog_7_method_1_code 59 (.ldc2_w 24) 3 62 := ⟨by decide +kernel, rfl⟩
theorem d1_62 : Dc prog_7_method_1_code 62 (.putfield 35) 3 65 := ⟨by decide +kernel, rfl⟩
theorem d1_65 : Dc prog_7_method_1_code 65 .return_ 1 66 := ⟨by decide +kernel, rfl⟩
theorem d3_0 : Dc jdk_35_method_44_code 0 (.lload_n 2) 1 1 := ⟨by decide +kernel, rfl⟩
theorem d3_1 : Dc jdk_35_method_44_code 1 (.lconst 0) 1 2 := ⟨by decide +kernel, rfl⟩
theorem d3_2 : Dc jdk_35_method_44_code 2 .lcmp 1 3 := ⟨by decide +kernel, rfl⟩
theorem d3_3 : Dj jdk_35_method_44_code 3 (.ifCond .lt) 6 41 := ⟨38, by decide +kernel, rfl, by decide, by decide⟩
theorem d3_6 : Dc jdk_35_method_44_code 6 (.lload_n 0) 1 7 := ⟨by decide +kernel, rfl⟩
theorem d3_7 : Dc jdk_35_method_44_code 7 (.iconst 1) 1 8 := ⟨by decide +kernel, rfl⟩
theorem d3_8 : Dc jdk_35_method_44_code 8 .lushr 1 9 := ⟨by decide +kernel, rfl⟩
theorem d3_9 : Dc jdk_35_method_44_code 9 (.lload_n 2) 1 10 := ⟨by decide +kernel, rfl⟩
theorem d3_10 : Dc jdk_35_method_44_code 10 .ldiv 1 11 := ⟨by decide +kernel, rfl⟩
theorem d3_11 : Dc jdk_35_method_44_code 11 (.iconst 1) 1 12 := ⟨by decide +kernel, rfl⟩
theorem d3_12 : Dc jdk_35_method_44_code 12 .lshl 1 13 := ⟨by decide +kernel, rfl⟩
theorem d3_13 : Dc jdk_35_method_44_code 13 (.lstore 4) 2 15 := ⟨by decide +kernel, rfl⟩
theorem d3_15 : Dc jdk_35_method_44_code 15 (.lload_n 0) 1 16 := ⟨by decide +kernel, rfl⟩
theorem d3_16 : Dc jdk_35_method_44_code 16 (.lload 4) 2 18 := ⟨by decide +kernel, rfl⟩
theorem d3_18 : Dc jdk_35_method_44_code 18 (.lload_n 2) 1 19 := ⟨by decide +kernel, rfl⟩
theorem d3_19 : Dc jdk_35_method_44_code 19 .lmul 1 20 := ⟨by decide +kernel, rfl⟩
theorem d3_20 : Dc jdk_35_method_44_code 20 .lsub 1 21 := ⟨by decide +kernel, rfl⟩
theorem d3_21 : Dc jdk_35_method_44_code 21 (.lstore 6) 2 23 := ⟨by decide +kernel, rfl⟩
theorem d3_23 : Dc jdk_35_method_44_code 23 (.lload 4) 2 25 := ⟨by decide +kernel, rfl⟩
theorem d3_25 : Dc jdk_35_method_44_code 25 (.lload 6) 2 27 := ⟨by decide +kernel, rfl⟩
theorem d3_27 : Dc jdk_35_method_44_code 27 (.lload 6) 2 29 := ⟨by decide +kernel, rfl⟩
theorem d3_29 : Dc jdk_35_method_44_code 29 (.lload_n 2) 1 30 := ⟨by decide +kernel, rfl⟩
theorem d3_30 : Dc jdk_35_method_44_code 30 .lsub 1 31 := ⟨by decide +kernel, rfl⟩
theorem d3_31 : Dc jdk_35_method_44_code 31 (.ldc2_w 306) 3 34 := ⟨by decide +kernel, rfl⟩
theorem d3_34 : Dc jdk_35_method_44_code 34 .lxor 1 35 := ⟨by decide +kernel, rfl⟩
theorem d3_35 : Dc jdk_35_method_44_code 35 .lor 1 36 := ⟨by decide +kernel, rfl⟩
theorem d3_36 : Dc jdk_35_method_44_code 36 (.bipush 63) 2 38 := ⟨by decide +kernel, rfl⟩
theorem d3_38 : Dc jdk_35_method_44_code 38 .lushr 1 39 := ⟨by decide +kernel, rfl⟩
theorem d3_39 : Dc jdk_35_method_44_code 39 .ladd 1 40 := ⟨by decide +kernel, rfl⟩
theorem d3_40 : Dc jdk_35_method_44_code 40 .lreturn 1 41 := ⟨by decide +kernel, rfl⟩
theorem d4_0 : Dc prog_11_method_1_code 0 (.aload_n 0) 1 1 := ⟨by decide +kernel, rfl⟩
theorem d4_1 : Dc prog_11_method_1_code 1 (.invokespecial 1) 3 4 := ⟨by decide +kernel, rfl⟩
theorem d4_4 : Dc prog_11_method_1_code 4 (.aload_n 0) 1 5 := ⟨by decide +kernel, rfl⟩
theorem d4_5 : Dc prog_11_method_1_code 5 (.aload_n 1) 1 6 := ⟨by decide +kernel, rfl⟩
theorem d4_6 : Dc prog_11_method_1_code 6 (.iconst 0) 1 7 := ⟨by decide +kernel, rfl⟩
theorem d4_7 : Dc prog_11_method_1_code 7 .laload 1 8 := ⟨by decide +kernel, rfl⟩
theorem d4_8 : Dc prog_11_method_1_code 8 (.putfield 7) 3 11 := ⟨by decide +kernel, rfl⟩
theorem d4_11 : Dc prog_11_method_1_code 11 (.aload_n 0) 1 12 := ⟨by decide +kernel, rfl⟩
theorem d4_12 : Dc prog_11_method_1_code 12 (.aload_n 1) 1 13 := ⟨by decide +kernel, rfl⟩
theorem d4_13 : Dc prog_11_method_1_code 13 (.iconst 1) 1 14 := ⟨by decide +kernel, rfl⟩
theorem d4_14 : Dc prog_11_method_1_code 14 .laload 1 15 := ⟨by decide +kernel, rfl⟩
theorem d4_15 : Dc prog_11_method_1_code 15 (.putfield 13) 3 18 := ⟨by decide +kernel, rfl⟩
theorem d4_18 : Dc prog_11_method_1_code 18 (.aload_n 0) 1 19 := ⟨by decide +kernel, rfl⟩
theorem d4_19 : Dc prog_11_method_1_code 19 (.iload_n 2) 1 20 := ⟨by decide +kernel, rfl⟩
theorem d4_20 : Dc prog_11_method_1_code 20 (.putfield 16) 3 23 := ⟨by decide +kernel, rfl⟩
theorem d4_23 : Dc prog_11_method_1_code 23 (.aload_n 0) 1 24 := ⟨by decide +kernel, rfl⟩
theorem d4_24 : Dc prog_11_method_1_code 24 (.aload_n 3) 1 25 := ⟨by decide +kernel, rfl⟩
theorem d4_25 : Dc prog_11_method_1_code 25 (.putfield 20) 3 28 := ⟨by decide +kernel, rfl⟩
theorem d4_28 : Dc prog_11_method_1_code 28 (.aload_n 0) 1 29 := ⟨by decide +kernel, rfl⟩
theorem d4_29 : Dc prog_11_method_1_code 29 (.invokevirtual 24) 3 32 := ⟨by decide +kernel, rfl⟩
theorem d4_32 : Dc prog_11_method_1_code 32 .return_ 1 33 := ⟨by decide +kernel, rfl⟩
theorem d5_0 : Dc prog_11_method_2_code 0 (.aload_n 0) 1 1 := ⟨by decide +kernel, rfl⟩
theorem d5_1 : Dc prog_11_method_2_code 1 (.aload_n 0) 1 2 := ⟨by decide +kernel, rfl⟩
theorem d5_2 : Dc prog_11_method_2_code 2 (.getfield 7) 3 5 := ⟨by decide +kernel, rfl⟩
theorem d5_5 : Dc prog_11_method_2_code 5 (.putfield 27) 3 8 := ⟨by decide +kernel, rfl⟩
theorem d5_8 : Dc prog_11_method_2_code 8 (.aload_n 0) 1 9 := ⟨by decide +kernel, rfl⟩
theorem d5_9 : Dc prog_11_method_2_code 9 (.aload_n 0) 1 10 := ⟨by decide +kernel, rfl⟩
theorem d5_10 : Dc prog_11_method_2_code 10 (.getfield 13) 3 13 := ⟨by decide +kernel, rfl⟩
theorem d5_13 : Dc prog_11_method_2_code 13 (.putfield 30) 3 16 := ⟨by decide +kernel, rfl⟩
theorem d5_16 : Dc prog_11_method_2_code 16 (.aload_n 0) 1 17 := ⟨by decide +kernel, rfl⟩
theorem d5_17 : Dc prog_11_method_2_code 17 (.iconst 0) 1 18 := ⟨by decide +kernel, rfl⟩
theorem d5_18 : Dc prog_11_method_2_code 18 (.putfield 33) 3 21 := ⟨by decide +kernel, rfl⟩
theorem d5_21 : Dc prog_11_method_2_code 21 .return_ 1 22 := ⟨by decide +kernel, rfl⟩
theorem d6_0 : Dc prog_11_method_3_code 0 (.aload_n 0) 1 1 := ⟨by decide +kernel, rfl⟩
theorem d6_1 : Dc prog_11_method_3_code 1 (.getfield 33) 3 4 := ⟨by decide +kernel, rfl⟩
theorem d6_4 : Dc prog_11_method_3_code 4 (.aload_n 0) 1 5 := ⟨by decide +kernel, rfl⟩
theorem d6_5 : Dc prog_11_method_3_code 5 (.getfield 16) 3 8 := ⟨by decide +kernel, rfl⟩
theorem d6_8 : Dj prog_11_method_3_code 8 (.if_icmp .ge) 11 15 := ⟨7, by decide +kernel, rfl, by decide, by decide⟩
theorem d6_11 : Dc prog_11_method_3_code 11 (.iconst 1) 1 12 := ⟨by decide +kernel, rfl⟩
theorem d6_12 : Dj prog_11_method_3_code 12 .goto 15 16 := ⟨4, by decide +kernel, rfl, by decide, by decide⟩
theorem d6_15 : Dc prog_11_method_3_code 15 (.iconst 0) 1 16 := ⟨by decide +kernel, rfl⟩
theorem d6_16 : Dc prog_11_method_3_code 16 .ireturn 1 17 := ⟨by decide +kernel, rfl⟩
theorem d7_0 : Dc prog_11_method_4_code 0 (.aload_n 0) 1 1 := ⟨by decide +kernel, rfl⟩
theorem d7_1 : Dc prog_11_method_4_code 1 (.getfield 20) 3 4 := ⟨by decide +kernel, rfl⟩
theorem d7_4 : Dc prog_11_method_4_code 4 (.aload_n 0) 1 5 := ⟨by decide +kernel, rfl⟩
theorem d7_5 : Dc prog_11_method_4_code 5 (.getfield 27) 3 8 := ⟨by decide +kernel, rfl⟩
theorem d7_8 : Dc prog_11_method_4_code 8 (.invokevirtual 36) 3 11 := ⟨by decide +kernel, rfl⟩
theorem d7_11 : Dc prog_11_method_4_code 11 (.lstore_n 1) 1 12 := ⟨by decide +kernel, rfl⟩
theorem d7_12 : Dc prog_11_method_4_code 12 (.aload_n 0) 1 13 := ⟨by decide +kernel, rfl⟩
theorem d7_13 : Dc prog_11_method_4_code 13 .dup 1 14 := ⟨by decide +kernel, rfl⟩
theorem d7_14 : Dc prog_11_method_4_code 14 (.getfield 33) 3 17 := ⟨by decide +kernel, rfl⟩
theorem d7_17 : Dc prog_11_method_4_code 17 (.iconst 1) 1 18 := ⟨by decide +kernel, rfl⟩
theorem d7_18 : Dc prog_11_method_4_code 18 .iadd 1 19 := ⟨by decide +kernel, rfl⟩
theorem d7_19 : Dc prog_11_method_4_code 19 (.putfield 33) 3 22 := ⟨by decide +kernel, rfl⟩
theorem d7_22 : Dc prog_11_method_4_code 22 (.aload_n 0) 1 23 := ⟨by decide +kernel, rfl⟩
theorem d7_23 : Dc prog_11_method_4_code 23 .dup 1 24 := ⟨by decide +kernel, rfl⟩
theorem d7_24 : Dc prog_11_method_4_code 24 (.getfield 27) 3 27 := ⟨by decide +kernel, rfl⟩
theorem d7_27 : Dc prog_11_method_4_code 27 (.aload_n 0) 1 28 := ⟨by decide +kernel, rfl⟩
theorem d7_28 : Dc prog_11_method_4_code 28 (.getfield 30) 3 31 := ⟨by decide +kernel, rfl⟩
theorem d7_31 : Dc prog_11_method_4_code 31 .ladd 1 32 := ⟨by decide +kernel, rfl⟩
theorem d7_32 : Dc prog_11_method_4_code 32 (.putfield 27) 3 35 := ⟨by decide +kernel, rfl⟩
theorem d7_35 : Dc prog_11_method_4_code 35 (.aload_n 0) 1 36 := ⟨by decide +kernel, rfl⟩
theorem d7_36 : Dc prog_11_method_4_code 36 .dup 1 37 := ⟨by decide +kernel, rfl⟩
theorem d7_37 : Dc prog_11_method_4_code 37 (.getfield 30) 3 40 := ⟨by decide +kernel, rfl⟩
theorem d7_40 : Dc prog_11_method_4_code 40 (.aload_n 0) 1 41 := ⟨by decide +kernel, rfl⟩
theorem d7_41 : Dc prog_11_method_4_code 41 (.getfield 33) 3 44 := ⟨by decide +kernel, rfl⟩
theorem d7_44 : Dc prog_11_method_4_code 44 .i2l 1 45 := ⟨by decide +kernel, rfl⟩
theorem d7_45 : Dc prog_11_method_4_code 45 .ladd 1 46 := ⟨by decide +kernel, rfl⟩
theorem d7_46 : Dc prog_11_method_4_code 46 (.putfield 30) 3 49 := ⟨by decide +kernel, rfl⟩
theorem d7_49 : Dc prog_11_method_4_code 49 (.lload_n 1) 1 50 := ⟨by decide +kernel, rfl⟩
theorem d7_50 : Dc prog_11_method_4_code 50 .lreturn 1 51 := ⟨by decide +kernel, rfl⟩
theorem d8_0 : Dc prog_7_method_2_code 0 (.lload_n 1) 1 1 := ⟨by decide +kernel, rfl⟩
theorem d8_1 : Dc prog_7_method_2_code 1 (.aload_n 0) 1 2 := ⟨by decide +kernel, rfl⟩
theorem d8_2 : Dc prog_7_method_2_code 2 (.getfield 35) 3 5 := ⟨by decide +kernel, rfl⟩
theorem d8_5 : Dc prog_7_method_2_code 5 .land 1 6 := ⟨by decide +kernel, rfl⟩
theorem d8_6 : Dc prog_7_method_2_code 6 (.lstore_n 3) 1 7 := ⟨by decide +kernel, rfl⟩
theorem d8_7 : Dc prog_7_method_2_code 7 (.aload_n 0) 1 8 := ⟨by decide +kernel, rfl⟩
theorem d8_8 : Dc prog_7_method_2_code 8 (.lload_n 3) 1 9 := ⟨by decide +kernel, rfl⟩
theorem d8_9 : Dc prog_7_method_2_code 9 (.invokevirtual 38) 3 12 := ⟨by decide +kernel, rfl⟩
theorem d8_12 : Dc prog_7_method_2_code 12 (.lstore 5) 2 14 := ⟨by decide +kernel, rfl⟩
theorem d8_14 : Dc prog_7_method_2_code 14 (.lload_n 3) 1 15 := ⟨by decide +kernel, rfl⟩
theorem d8_15 : Dc prog_7_method_2_code 15 (.lload 5) 2 17 := ⟨by decide +kernel, rfl⟩
theorem d8_17 : Dc prog_7_method_2_code 17 (.aload_n 0) 1 18 := ⟨by decide +kernel, rfl⟩
theorem d8_18 : Dc prog_7_method_2_code 18 (.getfield 20) 3 21 := ⟨by decide +kernel, rfl⟩
theorem d8_21 : Dc prog_7_method_2_code 21 .lmul 1 22 := ⟨by decide +kernel, rfl⟩
theorem d8_22 : Dc prog_7_method_2_code 22 .lsub 1 23 := ⟨by decide +kernel, rfl⟩
theorem d8_23 : Dc prog_7_method_2_code 23 (.lstore 7) 2 25 := ⟨by decide +kernel, rfl⟩
theorem d8_25 : Dc prog_7_method_2_code 25 (.lload 7) 2 27 := ⟨by decide +kernel, rfl⟩
theorem d8_27 : Dc prog_7_method_2_code 27 (.aload_n 0) 1 28 := ⟨by decide +kernel, rfl⟩
theorem d8_28 : Dc prog_7_method_2_code 28 (.getfield 20) 3 31 := ⟨by decide +kernel, rfl⟩
theorem d8_31 : Dc prog_7_method_2_code 31 .lsub 1 32 := ⟨by decide +kernel, rfl⟩
theorem d8_32 : Dc prog_7_method_2_code 32 (.lstore 9) 2 34 := ⟨by decide +kernel, rfl⟩
theorem d8_34 : Dc prog_7_method_2_code 34 (.lload 9) 2 36 := ⟨by decide +kernel, rfl⟩
theorem d8_36 : Dc prog_7_method_2_code 36 (.aload_n 0) 1 37 := ⟨by decide +kernel, rfl⟩
theorem d8_37 : Dc prog_7_method_2_code 37 (.getfield 20) 3 40 := ⟨by decide +kernel, rfl⟩
theorem d8_40 : Dc prog_7_method_2_code 40 (.lload 9) 2 42 := ⟨by decide +kernel, rfl⟩
theorem d8_42 : Dc prog_7_method_2_code 42 (.bipush 63) 2 44 := ⟨by decide +kernel, rfl⟩
theorem d8_44 : Dc prog_7_method_2_code 44 .lshr 1 45 := ⟨by decide +kernel, rfl⟩
theorem d8_45 : Dc prog_7_method_2_code 45 .land 1 46 := ⟨by decide +kernel, rfl⟩
theorem d8_46 : Dc prog_7_method_2_code 46 .ladd 1 47 := ⟨by decide +kernel, rfl⟩
theorem d8_47 : Dc prog_7_method_2_code 47 .lreturn 1 48 := ⟨by decide +kernel, rfl⟩
theorem d9_0 : Dc prog_7_method_3_code 0 (.lload_n 1) 1 1 := ⟨by decide +kernel, rfl⟩
theorem d9_1 : Dc prog_7_method_3_code 1 (.aload_n 0) 1 2 := ⟨by decide +kernel, rfl⟩
theorem d9_2 : Dc prog_7_method_3_code 2 (.getfield 32) 3 5 := ⟨by decide +kernel, rfl⟩
theorem d9_5 : Dc prog_7_method_3_code 5 (.invokestatic 42) 3 8 := ⟨by decide +kernel, rfl⟩
theorem d9_8 : Dc prog_7_method_3_code 8 (.lload_n 1) 1 9 := ⟨by decide +kernel, rfl⟩
theorem d9_9 : Dc prog_7_method_3_code 9 (.bipush 63) 2 11 := ⟨by decide +kernel, rfl⟩
theorem d9_11 : Dc prog_7_method_3_code 11 .lshr 1 12 := ⟨by decide +kernel, rfl⟩
theorem d9_12 : Dc prog_7_method_3_code 12 (.aload_n 0) 1 13 := ⟨by decide +kernel, rfl⟩
theorem d9_13 : Dc prog_7_method_3_code 13 (.getfield 32) 3 16 := ⟨by decide +kernel, rfl⟩
theorem d9_16 : Dc prog_7_method_3_code 16 .land 1 17 := ⟨by decide +kernel, rfl⟩
theorem d9_17 : Dc prog_7_method_3_code 17 .ladd 1 18 := ⟨by decide +kernel, rfl⟩
theorem d9_18 : Dc prog_7_method_3_code 18 .lreturn 1 19 := ⟨by decide +kernel, rfl⟩
theorem d10_0 : Dc jdk_29_method_45_code 0 (.lload_n 0) 1 1 := ⟨by decide +kernel, rfl⟩
theorem d10_1 : Dc jdk_29_method_45_code 1 (.bipush 32) 2 3 := ⟨by decide +kernel, rfl⟩
theorem d10_3 : Dc jdk_29_method_45_code 3 .lshr 1 4 := ⟨by decide +kernel, rfl⟩
theorem d10_4 : Dc jdk_29_method_45_code 4 (.lstore 4) 2 6 := ⟨by decide +kernel, rfl⟩
theorem d10_6 : Dc jdk_29_method_45_code 6 (.lload_n 0) 1 7 := ⟨by decide +kernel, rfl⟩
theorem d10_7 : Dc jdk_29_method_45_code 7 (.ldc2_w 138) 3 10 := ⟨by decide +kernel, rfl⟩
theorem d10_10 : Dc jdk_29_method_45_code 10 .land 1 11 := ⟨by decide +kernel, rfl⟩
theorem d10_11 : Dc jdk_29_method_45_code 11 (.lstore 6) 2 13 := ⟨by decide +kernel, rfl⟩
theorem d10_13 : Dc jdk_29_method_45_code 13 (.lload_n 2) 1 14 := ⟨by decide +kernel, rfl⟩
theorem d10_14 : Dc jdk_29_method_45_code 14 (.bipush 32) 2 16 := ⟨by decide +kernel, rfl⟩
theorem d10_16 : Dc jdk_29_method_45_code 16 .lshr 1 17 := ⟨by decide +kernel, rfl⟩
theorem d10_17 : Dc jdk_29_method_45_code 17 (.lstore 8) 2 19 := ⟨by decide +kernel, rfl⟩
theorem d10_19 : Dc jdk_29_method_45_code 19 (.lload_n 2) 1 20 := ⟨by decide +kernel, rfl⟩
theorem d10_20 : Dc jdk_29_method_45_code 20 (.ldc2_w 138) 3 23 := ⟨by decide +kernel, rfl⟩
theorem d10_23 : Dc jdk_29_method_45_code 23 .land 1 24 := ⟨by decide +kernel, rfl⟩
theorem d10_24 : Dc jdk_29_method_45_code 24 (.lstore 10) 2 26 := ⟨by decide +kernel, rfl⟩
theorem d10_26 : Dc jdk_29_method_45_code 26 (.lload 6) 2 28 := ⟨by decide +kernel, rfl⟩
theorem d10_28 : Dc jdk_29_method_45_code 28 (.lload 10) 2 30 := ⟨by decide +kernel, rfl⟩
theorem d10_30 : Dc jdk_29_method_45_code 30 .lmul 1 31 := ⟨by decide +kernel, rfl⟩
theorem d10_31 : Dc jdk_29_method_45_code 31 (.lstore 12) 2 33 := ⟨by decide +kernel, rfl⟩
theorem d10_33 : Dc jdk_29_method_45_code 33 (.lload 4) 2 35 := ⟨by decide +kernel, rfl⟩
theorem d10_35 : Dc jdk_29_method_45_code 35 (.lload 10) 2 37 := ⟨by decide +kernel, rfl⟩
theorem d10_37 : Dc jdk_29_method_45_code 37 .lmul 1 38 := ⟨by decide +kernel, rfl⟩
theorem d10_38 : Dc jdk_29_method_45_code 38 (.lload 12) 2 40 := ⟨by decide +kernel, rfl⟩
theorem d10_40 : Dc jdk_29_method_45_code 40 (.bipush 32) 2 42 := ⟨by decide +kernel, rfl⟩
theorem d10_42 : Dc jdk_29_method_45_code 42 .lushr 1 43 := ⟨by decide +kernel, rfl⟩
theorem d10_43 : Dc jdk_29_method_45_code 43 .ladd 1 44 := ⟨by decide +kernel, rfl⟩
theorem d10_44 : Dc jdk_29_method_45_code 44 (.lstore 14) 2 46 := ⟨by decide +kernel, rfl⟩
theorem d10_46 : Dc jdk_29_method_45_code 46 (.lload 14) 2 48 := ⟨by decide +kernel, rfl⟩
theorem d10_48 : Dc jdk_29_method_45_code 48 (.ldc2_w 138) 3 51 := ⟨by decide +kernel, rfl⟩
theorem d10_51 : Dc jdk_29_method_45_code 51 .land 1 52 := ⟨by decide +kernel, rfl⟩
theorem d10_52 : Dc jdk_29_method_45_code 52 (.lstore 16) 2 54 := ⟨by decide +kernel, rfl⟩
theorem d10_54 : Dc jdk_29_method_45_code 54 (.lload 14) 2 56 := ⟨by decide +kernel, rfl⟩
theorem d10_56 : Dc jdk_29_method_45_code 56 (.bipush 32) 2 58 := ⟨by decide +kernel, rfl⟩
theorem d10_58 : Dc jdk_29_method_45_code 58 .lshr 1 59 := ⟨by decide +kernel, rfl⟩
theorem d10_59 : Dc jdk_29_method_45_code 59 (.lstore 18) 2 61 := ⟨by decide +kernel, rfl⟩
theorem d10_61 : Dc jdk_29_method_45_code 61 (.lload 16) 2 63 := ⟨by decide +kernel, rfl⟩
theorem d10_63 : Dc jdk_29_method_45_code 63 (.lload 6) 2 65 := ⟨by decide +kernel, rfl⟩
theorem d10_65 : Dc jdk_29_method_45_code 65 (.lload 8) 2 67 := ⟨by decide +kernel, rfl⟩
theorem d10_67 : Dc jdk_29_method_45_code 67 .lmul 1 68 := ⟨by decide +kernel, rfl⟩
theorem d10_68 : Dc jdk_29_method_45_code 68 .ladd 1 69 := ⟨by decide +kernel, rfl⟩
theorem d10_69 : Dc jdk_29_method_45_code 69 (.lstore 16) 2 71 := ⟨by decide +kernel, rfl⟩
theorem d10_71 : Dc jdk_29_method_45_code 71 (.lload 4) 2 73 := ⟨by decide +kernel, rfl⟩
theorem d10_73 : Dc jdk_29_method_45_code 73 (.lload 8) 2 75 := ⟨by decide +kernel, rfl⟩
theorem d10_75 : Dc jdk_29_method_45_code 75 .lmul 1 76 := ⟨by decide +kernel, rfl⟩
theorem d10_76 : Dc jdk_29_method_45_code 76 (.lload 18) 2 78 := ⟨by decide +kernel, rfl⟩
theorem d10_78 : Dc jdk_29_method_45_code 78 .ladd 1 79 := ⟨by decide +kernel, rfl⟩
theorem d10_79 : Dc jdk_29_method_45_code 79 (.lload 16) 2 81 := ⟨by decide +kernel, rfl⟩
theorem d10_81 : Dc jdk_29_method_45_code 81 (.bipush 32) 2 83 := ⟨by decide +kernel, rfl⟩
theorem d10_83 : Dc jdk_29_method_45_code 83 .lshr 1 84 := ⟨by decide +kernel, rfl⟩
theorem d10_84 : Dc jdk_29_method_45_code 84 .ladd 1 85 := ⟨by decide +kernel, rfl⟩
theorem d10_85 : Dc jdk_29_method_45_code 85 .lreturn 1 86 := ⟨by decide +kernel, rfl⟩
theorem pn_0 : plainFor (⟨"java/lang/Math", "multiplyHigh", "(JJ)J"⟩ : MethodName) = true := by first | (apply plainFor_of_name; simp [plainName, overriddenIn]; done) | decide +kernel
theorem pn_1 : plainFor (⟨"com/example/libabsent/libabsent/Modulus", "multiplyHighByReciprocal", "(J)J"⟩ : MethodName) = true := by first | (apply plainFor_of_name; simp [plainName, overriddenIn]; done) | decide +kernel
theorem pn_2 : plainFor (⟨"com/example/libabsent/libabsent/Modulus", "remainder", "(J)J"⟩ : MethodName) = true := by first | (apply plainFor_of_name; simp [plainName, overriddenIn]; done) | decide +kernel
theorem pn_3 : plainFor (⟨"com/example/libabsent/libabsent/Positions", "hasNext", "()Z"⟩ : MethodName) = true := by first | (apply plainFor_of_name; simp [plainName, overriddenIn]; done) | decide +kernel
theorem pn_4 : plainFor (⟨"com/example/libabsent/libabsent/Positions", "restart", "()V"⟩ : MethodName) = true := by first | (apply plainFor_of_name; simp [plainName, overriddenIn]; done) | decide +kernel
theorem pn_5 : plainFor (⟨"com/example/libabsent/libabsent/Positions", "next", "()J"⟩ : MethodName) = true := by first | (apply plainFor_of_name; simp [plainName, overriddenIn]; done) | decide +kernel
theorem pn_6 : plainFor (⟨"com/example/libabsent/libabsent/Positions", "<init>", "([JILcom/example/libabsent/libabsent/Modulus;)V"⟩ : MethodName) = true := by first | (apply plainFor_of_name; simp [plainName, overriddenIn]; done) | decide +kernel
theorem pn_7 : plainFor (⟨"java/lang/Long", "divideUnsigned", "(JJ)J"⟩ : MethodName) = true := by first | (apply plainFor_of_name; simp [plainName, overriddenIn]; done) | decide +kernel
theorem pn_8 : plainFor (⟨"com/example/libabsent/libabsent/Modulus", "<init>", "(J)V"⟩ : MethodName) = true := by first | (apply plainFor_of_name; simp [plainName, overriddenIn]; done) | decide +kernel
theorem pn_9 : plainFor (⟨"com/example/libabsent/libabsent/PositionsHasNextPinLaw", "law", "(JJIJ)Z"⟩ : MethodName) = true := by first | (apply plainFor_of_name; simp [plainName, overriddenIn]; done) | decide +kernel
theorem pd_0 : parseMethodDescriptor "(JJ)J" = some ⟨[.long, .long], some .long⟩ := by decide +kernel
theorem pd_1 : parseMethodDescriptor "(J)J" = some ⟨[.long], some .long⟩ := by decide +kernel
theorem pd_2 : parseMethodDescriptor "()V" = some ⟨[], none⟩ := by decide +kernel
theorem pd_3 : parseMethodDescriptor "(J)V" = some ⟨[.long], none⟩ := by decide +kernel
theorem pd_4 : parseMethodDescriptor "([JILcom/example/libabsent/libabsent/Modulus;)V" = some ⟨[(.array .long), .int, (.object "com/example/libabsent/libabsent/Modulus")], none⟩ := by decide +kernel
theorem pd_5 : parseMethodDescriptor "()Z" = some ⟨[], some .boolean⟩ := by decide +kernel
theorem pd_6 : parseMethodDescriptor "()J" = some ⟨[], some .long⟩ := by decide +kernel
theorem cMH (l : Launch) (Z : State) (a0 : Array Value) (hw : hwT a0 Z) (h0 : Heap) (x y : Int64) : Con l Z [] true (⟨"java/lang/Math", "multiplyHigh", "(JJ)J"⟩ : MethodName) jdk_29_method_45_code 20 (some .long) [] rm0 #[.long x, .long y] h0 [] (fun v h S' => v = some (.long (mhF x y)) ∧ h = h0 ∧ S' = []) := by
  have hEL : EW Z a0 [] := hEL0
  refine Con.enter (a0 := a0) pn_0 hEL [.val (.long x), .second, .val (.long y), .second, .unset, .unset, .unset, .unset, .unset, .unset, .unset, .unset, .unset, .unset, .unset, .unset, .unset, .unset, .unset, .unset] (fun m => by first | (simp [entryFrame, mkF, argsToLocals, Value.category]; done) | rfl) ?_
  intro K G
  refine G.lloadN d10_0 rfl ?_
  refine G.bipush 32 d10_1 ?_
  refine G.lshr d10_3 ?_
  refine G.lstore4 d10_4 ?_
  refine G.lloadN d10_6 rfl ?_
  refine G.ldc2J d10_7 (hw 74 rfl) ?_
  refine G.land d10_10 ?_
  refine G.lstore6 d10_11 ?_
  refine G.lloadN d10_13 rfl ?_
  refine G.bipush 32 d10_14 ?_
  refine G.lshr d10_16 ?_
  refine G.lstore8 d10_17 ?_
  refine G.lloadN d10_19 rfl ?_
  refine G.ldc2J d10_20 (hw 74 rfl) ?_
  refine G.land d10_23 ?_
  refine G.lstore10 d10_24 ?_
  refine G.lload d10_26 rfl ?_
  refine G.lload d10_28 rfl ?_
  refine G.lmul d10_30 ?_
  refine G.lstore12 d10_31 ?_
  refine G.lload d10_33 rfl ?_
  refine G.lload d10_35 rfl ?_
  refine G.lmul d10_37 ?_
  refine G.lload d10_38 rfl ?_
  refine G.bipush 32 d10_40 ?_
  refine G.lushr d10_42 ?_
  refine G.ladd d10_43 ?_
  refine G.lstore14 d10_44 ?_
  refine G.lload d10_46 rfl ?_
  refine G.ldc2J d10_48 (hw 74 rfl) ?_
  refine G.land d10_51 ?_
  refine G.lstore16 d10_52 ?_
  refine G.lload d10_54 rfl ?_
  refine G.bipush 32 d10_56 ?_
  refine G.lshr d10_58 ?_
  refine G.lstore18 d10_59 ?_
  refine G.lload d10_61 rfl ?_
  refine G.lload d10_63 rfl ?_
  refine G.lload d10_65 rfl ?_
  refine G.lmul d10_67 ?_
  refine G.ladd d10_68 ?_
  refine G.lstore16 d10_69 ?_
  refine G.lload d10_71 rfl ?_
  refine G.lload d10_73 rfl ?_
  refine G.lmul d10_75 ?_
  refine G.lload d10_76 rfl ?_
  refine G.ladd d10_78 ?_
  refine G.lload d10_79 rfl ?_
  refine G.bipush 32 d10_81 ?_
  refine G.lshr d10_83 ?_
  refine G.ladd d10_84 ?_
  exact G.lret d10_85 [] (fun _ q => nomatch q) ⟨rfl, rfl, rfl⟩
theorem cMR (l : Launch) (Z : State) (a0 : Array Value) (hw : hwT a0 Z) (h0 : Heap) (a : Addr) (x r : Int64) (F : Fld Z h0 a MO "reciprocal" "J" (.long r)) : Con l Z [] true (⟨"com/example/libabsent/libabsent/Modulus", "multiplyHighByReciprocal", "(J)J"⟩ : MethodName) prog_7_method_3_code 3 (some .long) [] rm8 #[.ref a, .long x] h0 [] (fun v h S' => v = some (.long (mrF r x)) ∧ h = h0 ∧ S' = []) := by
  have hEL : EW Z a0 [] := hEL0
  refine Con.enter (a0 := a0) pn_1 hEL [.val (.ref a), .val (.long x), .second] (fun m => by first | (simp [entryFrame, mkF, argsToLocals, Value.category]; done) | rfl) ?_
  intro K G
  refine G.lloadN d9_0 rfl ?_
  refine G.aloadN d9_1 rfl rfl ?_
  refine G.getF d9_2 (hw 19 rfl) F ?_
  refine G.callS2 d9_5 (hw 70 rfl) (hw 71 rfl) (hw 72 rfl) (hw 73 rfl) pd_0 (cMH K.l Z a0 hw h0 x r) (fun _ q => nomatch q) ?_
  rintro _ _ _ ⟨rfl, rfl, rfl⟩ -
  refine G.lloadN d9_8 rfl ?_
  refine G.bipush 63 d9_9 ?_
  refine G.lshr d9_11 ?_
  refine G.aloadN d9_12 rfl rfl ?_
  refine G.getF d9_13 (hw 19 rfl) F ?_
  refine G.land d9_16 ?_
  refine G.ladd d9_17 ?_
  exact G.lret d9_18 [] (fun _ q => nomatch q) ⟨rfl, rfl, rfl⟩
theorem cREM (l : Launch) (Z : State) (a0 : Array Value) (hw : hwT a0 Z) (h0 : Heap) (a : Addr) (x d r m : Int64) (F : ModObj Z h0 a d r m) : Con l Z [] true (⟨"com/example/libabsent/libabsent/Modulus", "remainder", "(J)J"⟩ : MethodName) prog_7_method_2_code 11 (some .long) [] rm7 #[.ref a, .long x] h0 [] (fun v h S' => v = some (.long (rmF d r m x)) ∧ h = h0 ∧ S' = []) := by
  have hEL : EW Z a0 [] := hEL0
  refine Con.enter (a0 := a0) pn_2 hEL [.val (.ref a), .val (.long x), .second, .unset, .unset, .unset, .unset, .unset, .unset, .unset, .unset] (fun m => by first | (simp [entryFrame, mkF, argsToLocals, Value.category]; done) | rfl) ?_
  intro K G
  refine G.lloadN d8_0 rfl ?_
  refine G.aloadN d8_1 rfl rfl ?_
  refine G.getF d8_2 (hw 21 rfl) F.2.2.2 ?_
  refine G.land d8_5 ?_
  refine G.lstore3 d8_6 ?_
  refine G.aloadN d8_7 rfl rfl ?_
  refine G.lloadN d8_8 rfl ?_
  refine G.callP1 d8_9 (hw 66 rfl) (hw 67 rfl) (hw 68 rfl) (hw 69 rfl) (hw 3 rfl) (Nf.same (Nf.sel (hw 64 rfl)) (hw 63 rfl) rfl) pd_1 F.1 (cMR K.l Z a0 hw h0 a (x &&& m) r F.2.2.1) (fun _ q => nomatch q) ?_
  rintro _ _ _ ⟨rfl, rfl, rfl⟩ -
  refine G.lstore5 d8_12 ?_
  refine G.lloadN d8_14 rfl ?_
  refine G.lload d8_15 rfl ?_
  refine G.aloadN d8_17 rfl rfl ?_
  refine G.getF d8_18 (hw 11 rfl) F.2.1 ?_
  refine G.lmul d8_21 ?_
  refine G.lsub d8_22 ?_
  refine G.lstore7 d8_23 ?_
  refine G.lload d8_25 rfl ?_
  refine G.aloadN d8_27 rfl rfl ?_
  refine G.getF d8_28 (hw 11 rfl) F.2.1 ?_
  refine G.lsub d8_31 ?_
  refine G.lstore9 d8_32 ?_
  refine G.lload d8_34 rfl ?_
  refine G.aloadN d8_36 rfl rfl ?_
  refine G.getF d8_37 (hw 11 rfl) F.2.1 ?_
  refine G.lload d8_40 rfl ?_
  refine G.bipush 63 d8_42 ?_
  refine G.lshr d8_44 ?_
  refine G.land d8_45 ?_
  refine G.ladd d8_46 ?_
  exact G.lret d8_47 [] (fun _ q => nomatch q) ⟨rfl, rfl, rfl⟩
theorem cHN (l : Launch) (Z : State) (a0 : Array Value) (hw : hwT a0 Z) (h0 : Heap) (a : Addr) (c i : Int32) (F : Fld Z h0 a PO "index" "I" (.int i)) (F2 : Fld Z h0 a PO "hashCount" "I" (.int c)) : Con l Z [] true (⟨"com/example/libabsent/libabsent/Positions", "hasNext", "()Z"⟩ : MethodName) prog_11_method_3_code 1 (some .boolean) [] rm0 #[.ref a] h0 [] (fun v h S' => v = some (.int (if i < c then 1 else 0)) ∧ h = h0 ∧ S' = []) := by
  have hEL : EW Z a0 [] := hEL0
  refine Con.enter (a0 := a0) pn_3 hEL [.val (.ref a)] (fun m => by first | (simp [entryFrame, mkF, argsToLocals, Value.category]; done) | rfl) ?_
  intro K G
  refine G.aloadN d6_0 rfl rfl ?_
  refine G.getF d6_1 (hw 48 rfl) F ?_
  refine G.aloadN d6_4 rfl rfl ?_
  refine G.getF d6_5 (hw 35 rfl) F2 ?_
  refine G.icmp_ge d6_8 (fun hc => ?_) (fun hc => ?_)
  · refine G.iconst 0 d6_15 ?_
    exact G.nret d6_16 (Or.inl rfl) (z' := 0) (by decide) [] (fun _ q => nomatch q) ⟨by rw [if_neg hc], rfl, rfl⟩
  · refine G.iconst 1 d6_11 ?_
    refine G.goto d6_12 ?_
    exact G.nret d6_16 (Or.inl rfl) (z' := 1) (by decide) [] (fun _ q => nomatch q) ⟨by rw [if_pos hc], rfl, rfl⟩
theorem cRS (l : Launch) (Z : State) (a0 : Array Value) (hw : hwT a0 Z) (h0 : Heap) (a : Addr) (u w : Int64) (c : Int32) (m : Addr) (p s : Int64) (i : Int32) (P : PosObj Z h0 a u w c m p s i) : Con l Z [] true (⟨"com/example/libabsent/libabsent/Positions", "restart", "()V"⟩ : MethodName) prog_11_method_2_code 1 (none) [] rm0 #[.ref a] h0 [a] (fun v h S' => v = none ∧ PosObj Z h a u w c m u w 0 ∧ Keep h0 h [a] ∧ S' = []) := by
  have hEL : EW Z a0 [] := hEL0
  refine Con.enter (a0 := a0) pn_4 hEL [.val (.ref a)] (fun m => by first | (simp [entryFrame, mkF, argsToLocals, Value.category]; done) | rfl) ?_
  intro K G
  obtain ⟨E, F1, F2, F3, F4, F5, F6, F7⟩ := P
  refine G.aloadN d5_0 rfl rfl ?_
  refine G.aloadN d5_1 rfl rfl ?_
  refine G.getF d5_2 (hw 31 rfl) F1 ?_
  refine G.putF d5_5 (hw 44 rfl) F5 E (List.mem_singleton.mpr rfl) (Or.inl (hw 45 rfl)) (hw 25 rfl) (ty := .long) (by decide) rfl rfl (fun h1 W1 F5 E => ?_)
  replace F1 := Fld.oth F1 W1 (Or.inr (hw 32 rfl)) (Or.inl (hw 45 rfl)) (by decide) (by decide) (by decide)
  replace F2 := Fld.oth F2 W1 (Or.inr (hw 34 rfl)) (Or.inl (hw 45 rfl)) (by decide) (by decide) (by decide)
  replace F3 := Fld.oth F3 W1 (Or.inr (hw 36 rfl)) (Or.inl (hw 45 rfl)) (by decide) (by decide) (by decide)
  replace F4 := Fld.oth F4 W1 (Or.inr (hw 38 rfl)) (Or.inl (hw 45 rfl)) (by decide) (by decide) (by decide)
  replace F6 := Fld.oth F6 W1 (Or.inl (hw 47 rfl)) (Or.inl (hw 45 rfl)) (by decide) (by decide) (by decide)
  replace F7 := Fld.oth F7 W1 (Or.inl (hw 49 rfl)) (Or.inl (hw 45 rfl)) (by decide) (by decide) (by decide)
  refine G.aloadN d5_8 rfl rfl ?_
  refine G.aloadN d5_9 rfl rfl ?_
  refine G.getF d5_10 (hw 33 rfl) F2 ?_
  refine G.putF d5_13 (hw 46 rfl) F6 E (List.mem_singleton.mpr rfl) (Or.inl (hw 47 rfl)) (hw 25 rfl) (ty := .long) (by decide) rfl rfl (fun h2 W2 F6 E => ?_)
  replace F1 := Fld.oth F1 W2 (Or.inr (hw 32 rfl)) (Or.inl (hw 47 rfl)) (by decide) (by decide) (by decide)
  replace F2 := Fld.oth F2 W2 (Or.inr (hw 34 rfl)) (Or.inl (hw 47 rfl)) (by decide) (by decide) (by decide)
  replace F3 := Fld.oth F3 W2 (Or.inr (hw 36 rfl)) (Or.inl (hw 47 rfl)) (by decide) (by decide) (by decide)
  replace F4 := Fld.oth F4 W2 (Or.inr (hw 38 rfl)) (Or.inl (hw 47 rfl)) (by decide) (by decide) (by decide)
  replace F5 := Fld.oth F5 W2 (Or.inl (hw 45 rfl)) (Or.inl (hw 47 rfl)) (by decide) (by decide) (by decide)
  replace F7 := Fld.oth F7 W2 (Or.inl (hw 49 rfl)) (Or.inl (hw 47 rfl)) (by decide) (by decide) (by decide)
  refine G.aloadN d5_16 rfl rfl ?_
  refine G.iconst 0 d5_17 ?_
  refine G.putF d5_18 (hw 48 rfl) F7 E (List.mem_singleton.mpr rfl) (Or.inl (hw 49 rfl)) (hw 25 rfl) (ty := .int) (by decide) rfl rfl (fun h3 W3 F7 E => ?_)
  replace F1 := Fld.oth F1 W3 (Or.inr (hw 32 rfl)) (Or.inl (hw 49 rfl)) (by decide) (by decide) (by decide)
  replace F2 := Fld.oth F2 W3 (Or.inr (hw 34 rfl)) (Or.inl (hw 49 rfl)) (by decide) (by decide) (by decide)
  replace F3 := Fld.oth F3 W3 (Or.inr (hw 36 rfl)) (Or.inl (hw 49 rfl)) (by decide) (by decide) (by decide)
  replace F4 := Fld.oth F4 W3 (Or.inr (hw 38 rfl)) (Or.inl (hw 49 rfl)) (by decide) (by decide) (by decide)
  replace F5 := Fld.oth F5 W3 (Or.inl (hw 45 rfl)) (Or.inl (hw 49 rfl)) (by decide) (by decide) (by decide)
  replace F6 := Fld.oth F6 W3 (Or.inl (hw 47 rfl)) (Or.inl (hw 49 rfl)) (by decide) (by decide) (by decide)
  have hm : a ∈ [a] ∨ h0.size ≤ a := Or.inl (List.mem_singleton.mpr rfl)
  exact G.ret0 d5_21 [] (fun _ q => nomatch q) ⟨rfl, ⟨E, F1, F2, F3, F4, F5, F6, F7⟩, (((Keep.refl h0 [a]).wr W1 hm).wr W2 hm).wr W3 hm, rfl⟩
theorem cNX (l : Launch) (Z : State) (a0 : Array Value) (hw : hwT a0 Z) (h0 : Heap) (a : Addr) (u w : Int64) (c : Int32) (m : Addr) (p s : Int64) (i : Int32) (d r mk : Int64) (P : PosObj Z h0 a u w c m p s i) (M : ModObj Z h0 m d r mk) : Con l Z [] true (⟨"com/example/libabsent/libabsent/Positions", "next", "()J"⟩ : MethodName) prog_11_method_4_code 3 (some .long) [] rm6 #[.ref a] h0 [a] (fun v h S' => v = some (.long (rmF d r mk p)) ∧ PosObj Z h a u w c m (p + s) (s + (i + 1).toInt64) (i + 1) ∧ Keep h0 h [a] ∧ S' = []) := by
  have hEL : EW Z a0 [] := hEL0
  refine Con.enter (a0 := a0) pn_5 hEL [.val (.ref a), .unset, .unset] (fun m => by first | (simp [entryFrame, mkF, argsToLocals, Value.category]; done) | rfl) ?_
  intro K G
  obtain ⟨E, F1, F2, F3, F4, F5, F6, F7⟩ := P
  refine G.aloadN d7_0 rfl rfl ?_
  refine G.getF d7_1 (hw 37 rfl) F4 ?_
  refine G.aloadN d7_4 rfl rfl ?_
  refine G.getF d7_5 (hw 44 rfl) F5 ?_
  refine G.callV1 d7_8 (hw 61 rfl) (hw 62 rfl) (hw 64 rfl) (hw 63 rfl) (hw 65 rfl) (hw 3 rfl) pd_1 M.1 (cREM K.l Z a0 hw h0 m p d r mk M) (fun _ q => nomatch q) ?_
  rintro _ _ _ ⟨rfl, rfl, rfl⟩ -
  refine G.lstore1 d7_11 ?_
  refine G.aloadN d7_12 rfl rfl ?_
  refine G.dup d7_13 ?_
  refine G.getF d7_14 (hw 48 rfl) F7 ?_
  refine G.iconst 1 d7_17 ?_
  refine G.iadd d7_18 ?_
  refine G.putF d7_19 (hw 48 rfl) F7 E (List.mem_singleton.mpr rfl) (Or.inl (hw 49 rfl)) (hw 25 rfl) (ty := .int) (by decide) rfl rfl (fun h1 W1 F7 E => ?_)
  replace F1 := Fld.oth F1 W1 (Or.inr (hw 32 rfl)) (Or.inl (hw 49 rfl)) (by decide) (by decide) (by decide)
  replace F2 := Fld.oth F2 W1 (Or.inr (hw 34 rfl)) (Or.inl (hw 49 rfl)) (by decide) (by decide) (by decide)
  replace F3 := Fld.oth F3 W1 (Or.inr (hw 36 rfl)) (Or.inl (hw 49 rfl)) (by decide) (by decide) (by decide)
  replace F4 := Fld.oth F4 W1 (Or.inr (hw 38 rfl)) (Or.inl (hw 49 rfl)) (by decide) (by decide) (by decide)
  replace F5 := Fld.oth F5 W1 (Or.inl (hw 45 rfl)) (Or.inl (hw 49 rfl)) (by decide) (by decide) (by decide)
  replace F6 := Fld.oth F6 W1 (Or.inl (hw 47 rfl)) (Or.inl (hw 49 rfl)) (by decide) (by decide) (by decide)
  refine G.aloadN d7_22 rfl rfl ?_
  refine G.dup d7_23 ?_
  refine G.getF d7_24 (hw 44 rfl) F5 ?_
  refine G.aloadN d7_27 rfl rfl ?_
  refine G.getF d7_28 (hw 46 rfl) F6 ?_
  refine G.ladd d7_31 ?_
  refine G.putF d7_32 (hw 44 rfl) F5 E (List.mem_singleton.mpr rfl) (Or.inl (hw 45 rfl)) (hw 25 rfl) (ty := .long) (by decide) rfl rfl (fun h2 W2 F5 E => ?_)
  replace F1 := Fld.oth F1 W2 (Or.inr (hw 32 rfl)) (Or.inl (hw 45 rfl)) (by decide) (by decide) (by decide)
  replace F2 := Fld.oth F2 W2 (Or.inr (hw 34 rfl)) (Or.inl (hw 45 rfl)) (by decide) (by decide) (by decide)
  replace F3 := Fld.oth F3 W2 (Or.inr (hw 36 rfl)) (Or.inl (hw 45 rfl)) (by decide) (by decide) (by decide)
  replace F4 := Fld.oth F4 W2 (Or.inr (hw 38 rfl)) (Or.inl (hw 45 rfl)) (by decide) (by decide) (by decide)
  replace F6 := Fld.oth F6 W2 (Or.inl (hw 47 rfl)) (Or.inl (hw 45 rfl)) (by decide) (by decide) (by decide)
  replace F7 := Fld.oth F7 W2 (Or.inl (hw 49 rfl)) (Or.inl (hw 45 rfl)) (by decide) (by decide) (by decide)
  refine G.aloadN d7_35 rfl rfl ?_
  refine G.dup d7_36 ?_
  refine G.getF d7_37 (hw 46 rfl) F6 ?_
  refine G.aloadN d7_40 rfl rfl ?_
  refine G.getF d7_41 (hw 48 rfl) F7 ?_
  refine G.i2l d7_44 ?_
  refine G.ladd d7_45 ?_
  refine G.putF d7_46 (hw 46 rfl) F6 E (List.mem_singleton.mpr rfl) (Or.inl (hw 47 rfl)) (hw 25 rfl) (ty := .long) (by decide) rfl rfl (fun h3 W3 F6 E => ?_)
  replace F1 := Fld.oth F1 W3 (Or.inr (hw 32 rfl)) (Or.inl (hw 47 rfl)) (by decide) (by decide) (by decide)
  replace F2 := Fld.oth F2 W3 (Or.inr (hw 34 rfl)) (Or.inl (hw 47 rfl)) (by decide) (by decide) (by decide)
  replace F3 := Fld.oth F3 W3 (Or.inr (hw 36 rfl)) (Or.inl (hw 47 rfl)) (by decide) (by decide) (by decide)
  replace F4 := Fld.oth F4 W3 (Or.inr (hw 38 rfl)) (Or.inl (hw 47 rfl)) (by decide) (by decide) (by decide)
  replace F5 := Fld.oth F5 W3 (Or.inl (hw 45 rfl)) (Or.inl (hw 47 rfl)) (by decide) (by decide) (by decide)
  replace F7 := Fld.oth F7 W3 (Or.inl (hw 49 rfl)) (Or.inl (hw 47 rfl)) (by decide) (by decide) (by decide)
  refine G.lloadN d7_49 rfl ?_
  have hm : ∀ hh : Heap, a ∈ [a] ∨ hh.size ≤ a := fun _ => Or.inl (List.mem_singleton.mpr rfl)
  exact G.lret d7_50 [] (fun _ q => nomatch q) ⟨rfl, ⟨E, F1, F2, F3, F4, F5, F6, F7⟩, (((Keep.refl _ [a]).wr W1 (hm _)).wr W2 (hm _)).wr W3 (hm _), rfl⟩
theorem cPI (l : Launch) (Z : State) (a0 : Array Value) (hw : hwT a0 Z) (h0 : Heap) (a b m : Addr) (u w : Int64) (c : Int32) (E : Exa Z h0 a PO) (D : ∀ {O fn d : String} {ty : FieldType}, Laid Z a0 PO O fn d → parseFieldDescriptor d = some ty → Fld Z h0 a O fn d (defaultValue ty)) (A : Al Z h0 b .long [.long u, .long w]) : Con l Z [] true (⟨"com/example/libabsent/libabsent/Positions", "<init>", "([JILcom/example/libabsent/libabsent/Modulus;)V"⟩ : MethodName) prog_11_method_1_code 4 (none) [] rm4' #[.ref a, .ref b, .int c, .ref m] h0 [a] (fun v h S' => v = none ∧ PosObj Z h a u w c m u w 0 ∧ Keep h0 h [a] ∧ S' = []) := by
  have hEL : EW Z a0 [] := hEL0
  refine Con.enter (a0 := a0) pn_6 hEL [.val (.ref a), .val (.ref b), .val (.int c), .val (.ref m)] (fun m => by first | (simp [entryFrame, mkF, argsToLocals, Value.category]; done) | rfl) ?_
  intro K G
  have F1 := D (Or.inr (hw 32 rfl)) (ty := .long) (by decide)
  have F2 := D (Or.inr (hw 34 rfl)) (ty := .long) (by decide)
  have F3 := D (Or.inr (hw 36 rfl)) (ty := .int) (by decide)
  have F4 := D (Or.inr (hw 38 rfl)) (ty := .object "com/example/libabsent/libabsent/Modulus") (by decide)
  have F5 := D (Or.inl (hw 45 rfl)) (ty := .long) (by decide)
  have F6 := D (Or.inl (hw 47 rfl)) (ty := .long) (by decide)
  have F7 := D (Or.inl (hw 49 rfl)) (ty := .int) (by decide)
  have hba : b ≠ a := fun q => Al.neExa A E (hw 25 rfl) q.symm
  refine G.aloadN d4_0 rfl rfl ?_
  refine G.initO d4_1 (hw 30 rfl) (hw 8 rfl) (hw 9 rfl) ?_
  refine G.aloadN d4_4 rfl rfl ?_
  refine G.aloadN d4_5 rfl rfl ?_
  refine G.iconst 0 d4_6 ?_
  refine G.laload d4_7 A (i := 0) (by decide) rfl ?_
  refine G.putF d4_8 (hw 31 rfl) F1 E (List.mem_singleton.mpr rfl) (Or.inr ⟨(hw 32 rfl), rfl, rfl⟩) (hw 25 rfl) (ty := .long) (by decide) rfl rfl (fun h1 W1 F1 E => ?_)
  replace A := A.other W1 hba
  replace F2 := Fld.oth F2 W1 (Or.inr (hw 34 rfl)) (Or.inr (hw 32 rfl)) (by decide) (by decide) (by decide)
  replace F3 := Fld.oth F3 W1 (Or.inr (hw 36 rfl)) (Or.inr (hw 32 rfl)) (by decide) (by decide) (by decide)
  replace F4 := Fld.oth F4 W1 (Or.inr (hw 38 rfl)) (Or.inr (hw 32 rfl)) (by decide) (by decide) (by decide)
  replace F5 := Fld.oth F5 W1 (Or.inl (hw 45 rfl)) (Or.inr (hw 32 rfl)) (by decide) (by decide) (by decide)
  replace F6 := Fld.oth F6 W1 (Or.inl (hw 47 rfl)) (Or.inr (hw 32 rfl)) (by decide) (by decide) (by decide)
  replace F7 := Fld.oth F7 W1 (Or.inl (hw 49 rfl)) (Or.inr (hw 32 rfl)) (by decide) (by decide) (by decide)
  refine G.aloadN d4_11 rfl rfl ?_
  refine G.aloadN d4_12 rfl rfl ?_
  refine G.iconst 1 d4_13 ?_
  refine G.laload d4_14 A (i := 1) (by decide) rfl ?_
  refine G.putF d4_15 (hw 33 rfl) F2 E (List.mem_singleton.mpr rfl) (Or.inr ⟨(hw 34 rfl), rfl, rfl⟩) (hw 25 rfl) (ty := .long) (by decide) rfl rfl (fun h2 W2 F2 E => ?_)
  replace F1 := Fld.oth F1 W2 (Or.inr (hw 32 rfl)) (Or.inr (hw 34 rfl)) (by decide) (by decide) (by decide)
  replace F3 := Fld.oth F3 W2 (Or.inr (hw 36 rfl)) (Or.inr (hw 34 rfl)) (by decide) (by decide) (by decide)
  replace F4 := Fld.oth F4 W2 (Or.inr (hw 38 rfl)) (Or.inr (hw 34 rfl)) (by decide) (by decide) (by decide)
  replace F5 := Fld.oth F5 W2 (Or.inl (hw 45 rfl)) (Or.inr (hw 34 rfl)) (by decide) (by decide) (by decide)
  replace F6 := Fld.oth F6 W2 (Or.inl (hw 47 rfl)) (Or.inr (hw 34 rfl)) (by decide) (by decide) (by decide)
  replace F7 := Fld.oth F7 W2 (Or.inl (hw 49 rfl)) (Or.inr (hw 34 rfl)) (by decide) (by decide) (by decide)
  refine G.aloadN d4_18 rfl rfl ?_
  refine G.iloadN d4_19 rfl ?_
  refine G.putF d4_20 (hw 35 rfl) F3 E (List.mem_singleton.mpr rfl) (Or.inr ⟨(hw 36 rfl), rfl, rfl⟩) (hw 25 rfl) (ty := .int) (by decide) rfl rfl (fun h3 W3 F3 E => ?_)
  replace F1 := Fld.oth F1 W3 (Or.inr (hw 32 rfl)) (Or.inr (hw 36 rfl)) (by decide) (by decide) (by decide)
  replace F2 := Fld.oth F2 W3 (Or.inr (hw 34 rfl)) (Or.inr (hw 36 rfl)) (by decide) (by decide) (by decide)
  replace F4 := Fld.oth F4 W3 (Or.inr (hw 38 rfl)) (Or.inr (hw 36 rfl)) (by decide) (by decide) (by decide)
  replace F5 := Fld.oth F5 W3 (Or.inl (hw 45 rfl)) (Or.inr (hw 36 rfl)) (by decide) (by decide) (by decide)
  replace F6 := Fld.oth F6 W3 (Or.inl (hw 47 rfl)) (Or.inr (hw 36 rfl)) (by decide) (by decide) (by decide)
  replace F7 := Fld.oth F7 W3 (Or.inl (hw 49 rfl)) (Or.inr (hw 36 rfl)) (by decide) (by decide) (by decide)
  refine G.aloadN d4_23 rfl rfl ?_
  refine G.aloadN d4_24 rfl rfl ?_
  refine G.putF d4_25 (hw 37 rfl) F4 E (List.mem_singleton.mpr rfl) (Or.inr ⟨(hw 38 rfl), rfl, rfl⟩) (hw 25 rfl) (ty := (.object "com/example/libabsent/libabsent/Modulus")) (by decide) rfl rfl (fun h4 W4 F4 E => ?_)
  replace F1 := Fld.oth F1 W4 (Or.inr (hw 32 rfl)) (Or.inr (hw 38 rfl)) (by decide) (by decide) (by decide)
  replace F2 := Fld.oth F2 W4 (Or.inr (hw 34 rfl)) (Or.inr (hw 38 rfl)) (by decide) (by decide) (by decide)
  replace F3 := Fld.oth F3 W4 (Or.inr (hw 36 rfl)) (Or.inr (hw 38 rfl)) (by decide) (by decide) (by decide)
  replace F5 := Fld.oth F5 W4 (Or.inl (hw 45 rfl)) (Or.inr (hw 38 rfl)) (by decide) (by decide) (by decide)
  replace F6 := Fld.oth F6 W4 (Or.inl (hw 47 rfl)) (Or.inr (hw 38 rfl)) (by decide) (by decide) (by decide)
  replace F7 := Fld.oth F7 W4 (Or.inl (hw 49 rfl)) (Or.inr (hw 38 rfl)) (by decide) (by decide) (by decide)
  refine G.aloadN d4_28 rfl rfl ?_
  have hm : ∀ hh : Heap, a ∈ [a] ∨ hh.size ≤ a := fun _ => Or.inl (List.mem_singleton.mpr rfl)
  have Kp := ((((Keep.refl h0 [a]).wr W1 (hm _)).wr W2 (hm _)).wr W3 (hm _)).wr W4 (hm _)
  refine G.callV0 d4_29 (hw 39 rfl) (hw 40 rfl) (hw 42 rfl) (hw 41 rfl) (hw 43 rfl) (hw 26 rfl) pd_2 E (cRS K.l Z a0 hw h4 a u w c m _ _ _ ⟨E, F1, F2, F3, F4, F5, F6, F7⟩) (fun _ q => q) ?_
  rintro _ h5 _ ⟨rfl, P5, K5, rfl⟩ -
  exact G.ret0 d4_32 [] (fun _ q => nomatch q) ⟨rfl, P5, Kp.trans K5 (fun x q => Or.inl q), rfl⟩
theorem cDU (l : Launch) (Z : State) (a0 : Array Value) (hw : hwT a0 Z) (h0 : Heap) (x y : Int64) (hc : ¬ lcmpW y 0 < 0) (hy : y ≠ 0) : Con l Z [] true (⟨"java/lang/Long", "divideUnsigned", "(JJ)J"⟩ : MethodName) jdk_35_method_44_code 8 (some .long) [] rm0 #[.long x, .long y] h0 [] (fun v h S' => (∃ r : Int64, v = some (.long r)) ∧ h = h0 ∧ S' = []) := by
  have hEL : EW Z a0 [] := hEL0
  refine Con.enter (a0 := a0) pn_7 hEL [.val (.long x), .second, .val (.long y), .second, .unset, .unset, .unset, .unset] (fun m => by first | (simp [entryFrame, mkF, argsToLocals, Value.category]; done) | rfl) ?_
  intro K G
  refine G.lloadN d3_0 rfl ?_
  refine G.lconst 0 d3_1 ?_
  refine G.lcmp d3_2 ?_
  refine G.if_lt d3_3 (fun q => absurd q hc) (fun _ => ?_)
  refine G.lloadN d3_6 rfl ?_
  refine G.iconst 1 d3_7 ?_
  refine G.lushr d3_8 ?_
  refine G.lloadN d3_9 rfl ?_
  refine G.ldiv d3_10 hy ?_
  refine G.iconst 1 d3_11 ?_
  refine G.lshl d3_12 ?_
  refine G.lstore4 d3_13 ?_
  refine G.lloadN d3_15 rfl ?_
  refine G.lload d3_16 rfl ?_
  refine G.lloadN d3_18 rfl ?_
  refine G.lmul d3_19 ?_
  refine G.lsub d3_20 ?_
  refine G.lstore6 d3_21 ?_
  refine G.lload d3_23 rfl ?_
  refine G.lload d3_25 rfl ?_
  refine G.lload d3_27 rfl ?_
  refine G.lloadN d3_29 rfl ?_
  refine G.lsub d3_30 ?_
  refine G.ldc2J d3_31 (hw 18 rfl) ?_
  refine G.lxor d3_34 ?_
  refine G.lor d3_35 ?_
  refine G.bipush 63 d3_36 ?_
  refine G.lushr d3_38 ?_
  refine G.ladd d3_39 ?_
  exact G.lret d3_40 [] (fun _ q => nomatch q) ⟨⟨_, rfl⟩, rfl, rfl⟩
theorem cMI (l : Launch) (Z : State) (a0 : Array Value) (hw : hwT a0 Z) (h0 : Heap) (a : Addr) (d : Int64) (E : Exa Z h0 a MO) (D : ∀ {O fn d : String} {ty : FieldType}, Laid Z a0 MO O fn d → parseFieldDescriptor d = some ty → Fld Z h0 a O fn d (defaultValue ty)) (hc7 : ¬ lcmpW d 1 < 0) (hc15 : ¬ 0 < lcmpW d 4611686018427387904) (hz : d ≠ 0) (hz' : ¬ lcmpW d 0 < 0) : Con l Z [] true (⟨"com/example/libabsent/libabsent/Modulus", "<init>", "(J)V"⟩ : MethodName) prog_7_method_1_code 3 (none) [] rm1' #[.ref a, .long d] h0 [a] (fun v h S' => v = none ∧ (∃ r m, ModObj Z h a d r m) ∧ Keep h0 h [a] ∧ S' = []) := by
  have hEL : EW Z a0 [] := hEL0
  refine Con.enter (a0 := a0) pn_8 hEL [.val (.ref a), .val (.long d), .second] (fun m => by first | (simp [entryFrame, mkF, argsToLocals, Value.category]; done) | rfl) ?_
  intro K G
  have F1 := D (Or.inr (hw 12 rfl)) (ty := .long) (by decide)
  have F2 := D (Or.inr (hw 20 rfl)) (ty := .long) (by decide)
  have F3 := D (Or.inr (hw 22 rfl)) (ty := .long) (by decide)
  have hm : ∀ hh : Heap, a ∈ [a] ∨ hh.size ≤ a := fun _ => Or.inl (List.mem_singleton.mpr rfl)
  refine G.aloadN d1_0 rfl rfl ?_
  refine G.initO d1_1 (hw 7 rfl) (hw 8 rfl) (hw 9 rfl) ?_
  refine G.lloadN d1_4 rfl ?_
  refine G.lconst 1 d1_5 ?_
  refine G.lcmp d1_6 ?_
  refine G.if_lt d1_7 (fun q => absurd q hc7) (fun _ => ?_)
  refine G.lloadN d1_10 rfl ?_
  refine G.ldc2J d1_11 (hw 10 rfl) ?_
  refine G.lcmp d1_14 ?_
  refine G.if_le d1_15 (fun _ => ?_) (fun q => absurd q hc15)
  refine G.aloadN d1_32 rfl rfl ?_
  refine G.lloadN d1_33 rfl ?_
  refine G.putF d1_34 (hw 11 rfl) F1 E (List.mem_singleton.mpr rfl) (Or.inr ⟨(hw 12 rfl), rfl, rfl⟩) (hw 2 rfl) (ty := .long) (by decide) rfl rfl (fun h1 W1 F1 E => ?_)
  replace F2 := Fld.oth F2 W1 (Or.inr (hw 20 rfl)) (Or.inr (hw 12 rfl)) (by decide) (by decide) (by decide)
  replace F3 := Fld.oth F3 W1 (Or.inr (hw 22 rfl)) (Or.inr (hw 12 rfl)) (by decide) (by decide) (by decide)
  refine G.aloadN d1_37 rfl rfl ?_
  refine G.ldc2J d1_38 (hw 13 rfl) ?_
  refine G.lloadN d1_41 rfl ?_
  refine G.callS2 d1_42 (hw 14 rfl) (hw 15 rfl) (hw 16 rfl) (hw 17 rfl) pd_0 (cDU K.l Z a0 hw h1 (-1) d hz' hz) (fun _ q => nomatch q) ?_
  rintro _ _ _ ⟨⟨r, rfl⟩, rfl, rfl⟩ -
  refine G.putF d1_45 (hw 19 rfl) F2 E (List.mem_singleton.mpr rfl) (Or.inr ⟨(hw 20 rfl), rfl, rfl⟩) (hw 2 rfl) (ty := .long) (by decide) rfl rfl (fun h2 W2 F2 E => ?_)
  replace F1 := Fld.oth F1 W2 (Or.inr (hw 12 rfl)) (Or.inr (hw 20 rfl)) (by decide) (by decide) (by decide)
  replace F3 := Fld.oth F3 W2 (Or.inr (hw 22 rfl)) (Or.inr (hw 20 rfl)) (by decide) (by decide) (by decide)
  have tail : ∀ m : Int64, Go Z [] true rm1' (fun v h S' => v = none ∧ (∃ r m, ModObj Z h a d r m) ∧ Keep h0 h [a] ∧ S' = []) K h2 [a] (0 + rm0.cells) (0 + rm0.slots) 62 [.val (.ref a), .val (.long d), .second] [.long m, .ref a] := fun m => by
    refine G.putF d1_62 (hw 21 rfl) F3 E (List.mem_singleton.mpr rfl) (Or.inr ⟨(hw 22 rfl), rfl, rfl⟩) (hw 2 rfl) (ty := .long) (by decide) rfl rfl (fun h3 W3 F3 E => ?_)
    replace F1 := Fld.oth F1 W3 (Or.inr (hw 12 rfl)) (Or.inr (hw 22 rfl)) (by decide) (by decide) (by decide)
    replace F2 := Fld.oth F2 W3 (Or.inr (hw 20 rfl)) (Or.inr (hw 22 rfl)) (by decide) (by decide) (by decide)
    exact G.ret0 d1_65 [] (fun _ q => nomatch q) ⟨rfl, ⟨r, m, E, F1, F2, F3⟩, (((Keep.refl _ [a]).wr W1 (hm _)).wr W2 (hm _)).wr W3 (hm _), rfl⟩
  refine G.aloadN d1_48 rfl rfl ?_
  refine G.lloadN d1_49 rfl ?_
  refine G.lconst 1 d1_50 ?_
  refine G.lcmp d1_51 ?_
  refine G.if_ne d1_52 (fun _ => ?_) (fun _ => ?_)
  · refine G.ldc2J d1_59 (hw 13 rfl) ?_
    exact tail _
  · refine G.lconst 0 d1_55 ?_
    refine G.goto d1_56 ?_
    exact tail _
theorem dBounds (dr : Int64) : 1 ≤ ((dr &&& 4611686018427387903) + 1).toInt ∧ ((dr &&& 4611686018427387903) + 1).toInt ≤ 4611686018427387904 := by
  have h1 := c_maskL dr 4611686018427387903 62 (by decide) (by decide)
  have h2 := c_ladd (dr &&& 4611686018427387903) 1
  have h3 : (1 : Int64).toInt = 1 := by decide
  have h4 := rng64 ((dr &&& 4611686018427387903) + 1)
  rw [h3] at h2
  have h5 : ((2 ^ 62 : Nat) : Int) = 4611686018427387904 := by decide
  rw [h5] at h1
  omega
theorem law1 (l : Launch) (Z : State) (a0 : Array Value) (hw : hwT a0 Z) (h0 : Heap) (u w : Int64) (kk : Int32) (dr : Int64) : Con l Z [] true x code maxLocals ret tables_1 room_1 #[.long u, .long w, .int kk, .long dr] h0 [] (fun v h S' => v = some (.int 1)) := by
  have hEL : EW Z a0 [] := hEL0
  refine Con.enter (a0 := a0) pn_9 hEL [.val (.long u), .second, .val (.long w), .second, .val (.int kk), .val (.long dr), .second, .unset, .unset, .unset, .unset, .unset, .unset, .unset, .unset, .unset] (fun m => by first | (simp [entryFrame, mkF, argsToLocals, Value.category, maxLocals]; done) | rfl) ?_
  intro K G
  refine G.lload d0_0 rfl ?_
  refine G.ldc2J d0_2 (hw 0 rfl) ?_
  refine G.land d0_5 ?_
  refine G.lconst 1 d0_6 ?_
  refine G.ladd d0_7 ?_
  refine G.lstore7 d0_8 ?_
  obtain ⟨d, hd⟩ : ∃ d, d = (dr &&& 4611686018427387903) + 1 := ⟨_, rfl⟩
  rw [← hd]
  have hb1 := dBounds dr
  rw [← hd] at hb1
  have q1 : ¬ lcmpW d 1 < 0 := fun q => by rw [lw_lt, Int64.lt_iff_toInt_lt] at q; have : (1 : Int64).toInt = 1 := (by decide); omega
  have q2 : ¬ 0 < lcmpW d 4611686018427387904 := fun q => by rw [lw_gt, Int64.lt_iff_toInt_lt] at q; have : (4611686018427387904 : Int64).toInt = 4611686018427387904 := (by decide); omega
  have q3 : d ≠ 0 := fun q => by rw [q] at hb1; have : (0 : Int64).toInt = 0 := (by decide); omega
  have q4 : ¬ lcmpW d 0 < 0 := fun q => by rw [lw_lt, Int64.lt_iff_toInt_lt] at q; have : (0 : Int64).toInt = 0 := (by decide); omega
  refine G.newO d0_10 (hw 1 rfl) (hw 2 rfl) (hw 3 rfl) (fun h1 E1 L1 A1 => ?_)
  refine G.dup d0_13 ?_
  refine G.lload d0_14 rfl ?_
  refine G.callI1 d0_16 (hw 4 rfl) (hw 5 rfl) (hw 3 rfl) (hw 6 rfl) pd_3 (cMI K.l Z a0 hw h1 h0.size d A1.1 A1.2 q1 q2 q3 q4) (by simp) ?_
  rintro _ h2 _ ⟨rfl, ⟨r, mk, M⟩, K2, rfl⟩ -
  refine G.astore9 d0_19 ?_
  refine G.iconst 2 d0_21 ?_
  refine G.newA 2 2 d0_22 (hw 23 rfl) (by decide) (by decide) (fun h4 E4 L4 A4 => ?_)
  refine G.dup d0_24 ?_
  refine G.iconst 0 d0_25 ?_
  refine G.lloadN d0_26 rfl ?_
  refine G.lastore d0_27 (by simp) A4 (i := 0) (by decide) (by simp) (fun h5 W5 A5 => ?_)
  refine G.dup d0_28 ?_
  refine G.iconst 1 d0_29 ?_
  refine G.lloadN d0_30 rfl ?_
  refine G.lastore d0_31 (by simp) A5 (i := 1) (by decide) (by simp) (fun h6 W6 A6 => ?_)
  refine G.astore10 d0_32 ?_
  refine G.newO d0_34 (hw 24 rfl) (hw 25 rfl) (hw 26 rfl) (fun h3 E3 L3 A3 => ?_)
  refine G.dup d0_37 ?_
  refine G.aload d0_38 rfl rfl ?_
  refine G.iload d0_40 rfl ?_
  refine G.aload d0_42 rfl rfl ?_
  have M6 : ModObj Z h3 h0.size d r mk := M.keep ((((ext_keep E4 []).wr W5 (Or.inr (Nat.le_refl _))).wr W6 (Or.inr (Nat.le_refl _))).ext E3) nin0
  refine G.callI3 d0_44 (hw 27 rfl) (hw 28 rfl) (hw 26 rfl) (hw 29 rfl) pd_4 (cPI K.l Z a0 hw h3 h6.size h2.size h0.size u w kk A3.1 A3.2 (A6.ext E3)) (by simp) ?_
  rintro _ h7 _ ⟨rfl, P7, K7, rfl⟩ -
  have M7 := M6.keep K7 (M6.ne A3.1)
  refine G.astore11 d0_47 ?_
  refine Go.fewer (S' := [h6.size]) ?_ (by simp)
  refine Go.more (k' := 3) (n' := 12) ?_ (by decide) (by decide)
  obtain ⟨pa, hpa⟩ : ∃ q, q = h6.size := ⟨_, rfl⟩
  obtain ⟨ma, hma⟩ : ∃ q, q = h0.size := ⟨_, rfl⟩
  obtain ⟨ar, har⟩ : ∃ q, q = h2.size := ⟨_, rfl⟩
  rw [← hpa, ← hma] at P7
  rw [← hma] at M7
  rw [← hpa, ← hma, ← har]
  clear M6 A6 A5 A4 W6 W5 E4 A3 E3 M K2 A1 E1 K7
  have e1 : (0 : Int32) + 1 = 1 := by decide
  have e2 : (1 : Int32) + 1 = 2 := by decide
  have e3 : (2 : Int32) + 1 = 3 := by decide
  have tail194 : ∀ (h : Heap) (p s : Int64) (i : Int32) (x12 x13 x14 x15 : Slot), PosObj Z h pa u w kk ma p s i → Go Z [] true room_1 (fun v h S' => v = some (.int 1)) K h [pa] 3 12 194 [.val (.long u), .second, .val (.long w), .second, .val (.int kk), .val (.long dr), .second, .val (.long d), .second, .val (.ref ma), .val (.ref ar), .val (.ref pa), x12, x13, x14, x15] [] := fun h p s i x12 x13 x14 x15 P => by
    refine G.aload d0_194 rfl rfl ?_
    refine G.callV0 d0_196 (hw 55 rfl) (hw 40 rfl) (hw 42 rfl) (hw 41 rfl) (hw 43 rfl) (hw 26 rfl) pd_2 P.1 (cRS K.l Z a0 hw h pa u w kk ma p s i P) (fun _ q => q) ?_
    rintro _ h1 _ ⟨rfl, P1, K1, rfl⟩ -
    refine G.aload d0_199 rfl rfl ?_
    refine G.callV0 d0_201 (hw 50 rfl) (hw 51 rfl) (hw 53 rfl) (hw 52 rfl) (hw 54 rfl) (hw 26 rfl) pd_5 P1.1 (cHN K.l Z a0 hw h1 pa kk 0 P1.2.2.2.2.2.2.2 P1.2.2.2.1) (fun _ q => nomatch q) ?_
    rintro _ _ _ ⟨rfl, rfl, rfl⟩ -
    refine G.iconst 0 d0_204 ?_
    refine G.iload d0_205 rfl ?_
    refine G.icmp_ge d0_207 (fun hc => ?_) (fun hc => ?_)
    · rw [if_neg hc]
      refine G.iconst 0 d0_214 ?_
      refine G.icmp_ne d0_215 (fun q => absurd rfl q) (fun _ => ?_)
      refine G.iconst 1 d0_218 ?_
      refine G.goto d0_219 ?_
      exact G.nret d0_223 (Or.inl rfl) (z' := 1) (by decide) [] (fun _ q => nomatch q) rfl
    · rw [if_pos hc]
      refine G.iconst 1 d0_210 ?_
      refine G.goto d0_211 ?_
      refine G.icmp_ne d0_215 (fun q => absurd rfl q) (fun _ => ?_)
      refine G.iconst 1 d0_218 ?_
      refine G.goto d0_219 ?_
      exact G.nret d0_223 (Or.inl rfl) (z' := 1) (by decide) [] (fun _ q => nomatch q) rfl
  refine G.aload d0_49 rfl rfl ?_
  refine G.callV0 d0_51 (hw 50 rfl) (hw 51 rfl) (hw 53 rfl) (hw 52 rfl) (hw 54 rfl) (hw 26 rfl) pd_5 P7.1 (cHN K.l Z a0 hw h7 pa kk 0 P7.2.2.2.2.2.2.2 P7.2.2.2.1) (fun _ q => nomatch q) ?_
  rintro _ _ _ ⟨rfl, rfl, rfl⟩ -
  refine G.istore12 d0_54 ?_
  refine G.iload d0_56 rfl ?_
  refine G.iconst 0 d0_58 ?_
  refine G.iload d0_59 rfl ?_
  refine G.icmp_ge d0_61 (fun hc => ?_) (fun hc => ?_)
  · rw [if_neg hc]
    refine G.iconst 0 d0_68 ?_
    refine G.icmp_eq d0_69 (fun _ => ?_) (fun q => absurd rfl q)
    refine G.aload d0_74 rfl rfl ?_
    refine G.callV0 d0_76 (hw 50 rfl) (hw 51 rfl) (hw 53 rfl) (hw 52 rfl) (hw 54 rfl) (hw 26 rfl) pd_5 P7.1 (cHN K.l Z a0 hw _ pa kk 0 P7.2.2.2.2.2.2.2 P7.2.2.2.1) (fun _ q => nomatch q) ?_
    rintro _ _ _ ⟨rfl, rfl, rfl⟩ -
    rw [if_neg hc]
    refine G.iload d0_79 rfl ?_
    refine G.icmp_eq d0_81 (fun _ => ?_) (fun q => absurd rfl q)
    refine G.iload d0_86 rfl ?_
    refine G.if_eq d0_88 (fun _ => ?_) (fun q => absurd rfl q)
    exact tail194 _ _ _ _ _ _ _ _ P7
  · rw [if_pos hc]
    refine G.iconst 1 d0_64 ?_
    refine G.goto d0_65 ?_
    refine G.icmp_eq d0_69 (fun _ => ?_) (fun q => absurd rfl q)
    refine G.aload d0_74 rfl rfl ?_
    refine G.callV0 d0_76 (hw 50 rfl) (hw 51 rfl) (hw 53 rfl) (hw 52 rfl) (hw 54 rfl) (hw 26 rfl) pd_5 P7.1 (cHN K.l Z a0 hw _ pa kk 0 P7.2.2.2.2.2.2.2 P7.2.2.2.1) (fun _ q => nomatch q) ?_
    rintro _ _ _ ⟨rfl, rfl, rfl⟩ -
    rw [if_pos hc]
    refine G.iload d0_79 rfl ?_
    refine G.icmp_eq d0_81 (fun _ => ?_) (fun q => absurd rfl q)
    refine G.iload d0_86 rfl ?_
    refine G.if_eq d0_88 (fun q => absurd q (by decide)) (fun _ => ?_)
    refine G.aload d0_91 rfl rfl ?_
    refine G.callV0 d0_93 (hw 56 rfl) (hw 57 rfl) (hw 59 rfl) (hw 58 rfl) (hw 60 rfl) (hw 26 rfl) pd_6 P7.1 (cNX K.l Z a0 hw _ pa u w kk ma _ _ _ d r mk P7 M7) (fun _ q => q) ?_
    rintro _ h8 _ ⟨rfl, P8, K8, rfl⟩ -
    have M8 := M7.keep K8 (M7.ne P7.1)
    rw [e1] at P8
    refine G.pop2L d0_96 ?_
    refine G.aload d0_97 rfl rfl ?_
    refine G.callV0 d0_99 (hw 50 rfl) (hw 51 rfl) (hw 53 rfl) (hw 52 rfl) (hw 54 rfl) (hw 26 rfl) pd_5 P8.1 (cHN K.l Z a0 hw _ pa kk 1 P8.2.2.2.2.2.2.2 P8.2.2.2.1) (fun _ q => nomatch q) ?_
    rintro _ _ _ ⟨rfl, rfl, rfl⟩ -
    refine G.istore13 d0_102 ?_
    refine G.iload d0_104 rfl ?_
    refine G.iconst 1 d0_106 ?_
    refine G.iload d0_107 rfl ?_
    refine G.icmp_ge d0_109 (fun hc => ?_) (fun hc => ?_)
    · rw [if_neg hc]
      refine G.iconst 0 d0_116 ?_
      refine G.icmp_eq d0_117 (fun _ => ?_) (fun q => absurd rfl q)
      refine G.iload d0_122 rfl ?_
      refine G.if_eq d0_124 (fun _ => ?_) (fun q => absurd rfl q)
      exact tail194 _ _ _ _ _ _ _ _ P8
    · rw [if_pos hc]
      refine G.iconst 1 d0_112 ?_
      refine G.goto d0_113 ?_
      refine G.icmp_eq d0_117 (fun _ => ?_) (fun q => absurd rfl q)
      refine G.iload d0_122 rfl ?_
      refine G.if_eq d0_124 (fun q => absurd q (by decide)) (fun _ => ?_)
      refine G.aload d0_127 rfl rfl ?_
      refine G.callV0 d0_129 (hw 56 rfl) (hw 57 rfl) (hw 59 rfl) (hw 58 rfl) (hw 60 rfl) (hw 26 rfl) pd_6 P8.1 (cNX K.l Z a0 hw _ pa u w kk ma _ _ _ d r mk P8 M8) (fun _ q => q) ?_
      rintro _ h9 _ ⟨rfl, P9, K9, rfl⟩ -
      have M9 := M8.keep K9 (M8.ne P8.1)
      rw [e2] at P9
      refine G.pop2L d0_132 ?_
      refine G.aload d0_133 rfl rfl ?_
      refine G.callV0 d0_135 (hw 50 rfl) (hw 51 rfl) (hw 53 rfl) (hw 52 rfl) (hw 54 rfl) (hw 26 rfl) pd_5 P9.1 (cHN K.l Z a0 hw _ pa kk 2 P9.2.2.2.2.2.2.2 P9.2.2.2.1) (fun _ q => nomatch q) ?_
      rintro _ _ _ ⟨rfl, rfl, rfl⟩ -
      refine G.istore14 d0_138 ?_
      refine G.iload d0_140 rfl ?_
      refine G.iconst 2 d0_142 ?_
      refine G.iload d0_143 rfl ?_
      refine G.icmp_ge d0_145 (fun hc => ?_) (fun hc => ?_)
      · rw [if_neg hc]
        refine G.iconst 0 d0_152 ?_
        refine G.icmp_eq d0_153 (fun _ => ?_) (fun q => absurd rfl q)
        refine G.iload d0_158 rfl ?_
        refine G.if_eq d0_160 (fun _ => ?_) (fun q => absurd rfl q)
        exact tail194 _ _ _ _ _ _ _ _ P9
      · rw [if_pos hc]
        refine G.iconst 1 d0_148 ?_
        refine G.goto d0_149 ?_
        refine G.icmp_eq d0_153 (fun _ => ?_) (fun q => absurd rfl q)
        refine G.iload d0_158 rfl ?_
        refine G.if_eq d0_160 (fun q => absurd q (by decide)) (fun _ => ?_)
        refine G.aload d0_163 rfl rfl ?_
        refine G.callV0 d0_165 (hw 56 rfl) (hw 57 rfl) (hw 59 rfl) (hw 58 rfl) (hw 60 rfl) (hw 26 rfl) pd_6 P9.1 (cNX K.l Z a0 hw _ pa u w kk ma _ _ _ d r mk P9 M9) (fun _ q => q) ?_
        rintro _ h10 _ ⟨rfl, P10, K10, rfl⟩ -
        rw [e3] at P10
        refine G.pop2L d0_168 ?_
        refine G.aload d0_169 rfl rfl ?_
        refine G.callV0 d0_171 (hw 50 rfl) (hw 51 rfl) (hw 53 rfl) (hw 52 rfl) (hw 54 rfl) (hw 26 rfl) pd_5 P10.1 (cHN K.l Z a0 hw _ pa kk 3 P10.2.2.2.2.2.2.2 P10.2.2.2.1) (fun _ q => nomatch q) ?_
        rintro _ _ _ ⟨rfl, rfl, rfl⟩ -
        refine G.istore15 d0_174 ?_
        refine G.iload d0_176 rfl ?_
        refine G.iconst 3 d0_178 ?_
        refine G.iload d0_179 rfl ?_
        refine G.icmp_ge d0_181 (fun hc => ?_) (fun hc => ?_)
        · rw [if_neg hc]
          refine G.iconst 0 d0_188 ?_
          refine G.icmp_eq d0_189 (fun _ => ?_) (fun q => absurd rfl q)
          exact tail194 _ _ _ _ _ _ _ _ P10
        · rw [if_pos hc]
          refine G.iconst 1 d0_184 ?_
          refine G.goto d0_185 ?_
          refine G.icmp_eq d0_189 (fun _ => ?_) (fun q => absurd rfl q)
          exact tail194 _ _ _ _ _ _ _ _ P10
set_option maxRecDepth 65536 in
set_option maxHeartbeats 40000000 in
theorem comes_1 {Post : Tables → Env → Array Value → State → Outcome → State → Prop} (hpost : ∀ tb e args s v u, (limb_1_1.after args s (.returned v) u = true ∧ limb_1_2.after args s (.returned v) u = true ∧ True) → FrameEnd s (.returned v) u (Jvm.fieldLocs frame_1_writes args s ++ Jvm.arrayLocs frame_1_arrays args s ++ Jvm.staticLocs frame_1_statics s) 16 128 → Post tb e args s (.returned v) u) :
    ArmFor flags0 classFile x code maxLocals ret World_1 tables_1 room_1 Calls_1 rest_1 Pre_1 Post := by
  intro l hfl _ _ p e ha hc hk s m args below hf hA hF happ hP
  obtain ⟨hcalls, hrest, hpre⟩ := hP
  obtain ⟨-, -, -, hnamed, -, -, -, hat⟩ := (Spec.applies_iff hf).mp happ
  obtain ⟨hg, hn⟩ := and_e (Cond.before_iff.mp (show (Jvm.Cond.and given_1 narrow_1).before args s = true from hpre))
  obtain ⟨h0, g0⟩ := and_e hg
  obtain ⟨p0, g1⟩ := and_e g0
  obtain ⟨p1, g2⟩ := and_e g1
  obtain ⟨p2, g3⟩ := and_e g2
  obtain ⟨w0, w1, w2, w3, rfl⟩ : ∃ w0 w1 w2 w3 : Value, args = #[w0, w1, w2, w3] := by
    have hs : args.size = 4 := by simpa [Cond.value, given_1] using h0
    obtain ⟨L⟩ := args
    match L, hs with
    | [w0, w1, w2, w3], _ => exact ⟨w0, w1, w2, w3, rfl⟩
  have hw0 := fun d (hd : d ∈ tables_1) => atoms_spec (ws := Jvm.Cond.code x code maxLocals ret :: tables_1) hat d (List.mem_cons_of_mem _ hd)
  have hw : hwT #[w0, w1, w2, w3] s := fun i d q => hw0 d (List.mem_of_getElem? q)
  obtain ⟨i0, e0⟩ := isL_v p0
  obtain rfl : w0 = (.long i0) := Option.some.inj e0
  obtain ⟨i1, e1⟩ := isL_v p1
  obtain rfl : w1 = (.long i1) := Option.some.inj e1
  obtain ⟨i2, e2⟩ := is_v p2
  obtain rfl : w2 = (.int i2) := Option.some.inj e2
  obtain ⟨i3, e3⟩ := isL_v g3
  obtain rfl : w3 = (.long i3) := Option.some.inj e3
  obtain ⟨n, o, h1, h2, h3, v, L, S', rfl, rfl, N, -, -, hq, hnw, -⟩ := law1 l s _ hw s.heap i0 i1 i2 i3 p e ha hc hk s m _ below hf ((Spec.applies_iff_loose hf).mp happ).1 ⟨rfl, State.Warmed39.refl s, rfl, (fun _ q => nomatch q), (fun _ q => nomatch q), ⟨Nat.le_refl _, fun _ _ q => q⟩⟩ trivial
  refine ⟨n, _, h1, h2, h3, hpost _ _ _ _ _ _ ⟨Cond.after_iff.mpr rfl, Cond.after_iff.mpr (eq_i res_at (Term.int_eval (1)) rfl), trivial⟩ ⟨⟨_, rfl⟩, hnw rfl, (hq.2.2.2.sift fun y hy => Or.inr (N y hy)).mono (by decide) (by decide)⟩⟩
theorem main_1_1 : Claimed_1_1 := comes_1 fun _ _ _ _ _ _ h hF => ⟨h.1, hF⟩
theorem main_1_2 : Claimed_1_2 := comes_1 fun _ _ _ _ _ _ h hF => ⟨h.2.1, hF⟩
end Jvm.Pilot.@@N@@
namespace Jvm.Pilot.@@N@@
open Jvm Jvm.ClassFile Sem Op Lib Jvm.Free Jvm.Stand Jvm.Pilot.@@N@@.Jvm.D
/-! MADE BY PROGRAM (witnessworld.py) out of the Statement's table words and the real class files: 18 classes; the members and pool entries that the words name. The judged class is class 1, her method 1. -/
namespace start1
open Jvm.ClassFile
def u (s : String) : CpInfo := .utf8 (stringToUtf16 s)
/-- a pool by its gaps: so many unusable entries, then the entry; so many at the end -/
def gap : Nat → List CpInfo → List CpInfo
  | 0, r => r
  | n + 1, r => .unusable :: gap n r
def poolList (es : List (Nat × CpInfo)) (last : Nat) : List CpInfo := es.foldr (fun e r => gap e.1 (e.2 :: r)) (gap last [])
def pool (es : List (Nat × CpInfo)) (last : Nat) : Array CpInfo := ⟨poolList es last⟩
def fileOf (pool : Array CpInfo) (this : Nat) (attrs : Array Attribute := #[]) (ms : Array MethodInfo := #[]) (fl : Nat := 33) (sup : Nat := 0) (ifs : Array Nat := #[]) (fds : Array FieldInfo := #[]) : ClassFile where
  minorVersion := 0
  majorVersion := 65
  constantPool := pool
  accessFlags := fl
  thisClass := this
  superClass := sup
  interfaces := ifs
  fields := fds
  methods := ms
  attributes := attrs
def plain (name : String) (sup : Option ClassId) : Class where
  name := name
  kind := .ordinary
  loader := none
  accessFlags := 33
  super := sup
  interfaces := #[]
  cf := none
  fields := #[]
  methods := #[]
  instanceTypes := #[]
  staticTypes := #[]
  resolved := #[]
  callSites := []
  init := .initialized
  statics := none
  mirror := none

def pool0 : Array CpInfo := pool [(5, u "<init>"), (0, u "()V"), (1, .class_ 10), (1, u "java/lang/Object")] 113

def k0c0 : Code := { maxStack := 0, maxLocals := 1, code := object_method_1_code, exceptionTable := #[], attributes := #[] }
def k0m0 : Method := { name := "<init>", desc := "()V", sig := { parameters := [], returnType := none }, accessFlags := 1, code := some k0c0 }
/-- java/lang/Object -/
def k0 : Class := { plain "java/lang/Object" none with
  accessFlags := 33
  interfaces := #[]
  cf := some (fileOf pool0 8 #[] #[{ accessFlags := 1, nameIndex := 5, descriptorIndex := 6, attributes := #[] }] 33 0 #[] #[])
  fields := #[]
  methods := #[k0m0]
  instanceTypes := #[]
  staticTypes := #[]
  resolved := Array.replicate 124 none
  statics := none }

def pool1 : Array CpInfo := pool [(2, .class_ 4), (1, u "java/lang/Object"), (0, u "<init>"), (0, u "()V"), (0, .long 4611686018427387903), (1, .class_ 10), (0, u "com/example/libabsent/libabsent/Modulus"), (0, .methodref 9 12), (0, .nameAndType 5 13), (0, u "(J)V"), (0, .class_ 15), (0, u "com/example/libabsent/libabsent/Positions"), (0, .methodref 14 17), (0, .nameAndType 5 18), (0, u "([JILcom/example/libabsent/libabsent/Modulus;)V"), (0, .methodref 14 20), (0, .nameAndType 21 22), (0, u "hasNext"), (0, u "()Z"), (0, .methodref 14 24), (0, .nameAndType 25 26), (0, u "next"), (0, u "()J"), (0, .methodref 14 28), (0, .nameAndType 29 6), (0, u "restart"), (0, .class_ 31), (0, u "com/example/libabsent/libabsent/PositionsHasNextPinLaw"), (2, u "law"), (0, u "(JJIJ)Z")] 5

def k1m0 : Method := { name := "<init>", desc := "()V", sig := { parameters := [], returnType := none }, accessFlags := 1, code := none }
def k1c1 : Code := { maxStack := 5, maxLocals := 16, code := code, exceptionTable := #[], attributes := #[] }
def k1m1 : Method := { name := "law", desc := "(JJIJ)Z", sig := { parameters := [.long, .long, .int, .long], returnType := some .boolean }, accessFlags := 9, code := some k1c1 }
/-- com/example/libabsent/libabsent/PositionsHasNextPinLaw -/
def k1 : Class := { plain "com/example/libabsent/libabsent/PositionsHasNextPinLaw" (some 0) with
  accessFlags := 49
  interfaces := #[]
  cf := some (fileOf pool1 30 #[] #[{ accessFlags := 1, nameIndex := 5, descriptorIndex := 6, attributes := #[] }, { accessFlags := 9, nameIndex := 34, descriptorIndex := 35, attributes := #[] }] 49 2 #[] #[])
  fields := #[]
  methods := #[k1m0, k1m1]
  instanceTypes := #[]
  staticTypes := #[]
  resolved := Array.replicate 41 none
  statics := none }

def pool2 : Array CpInfo := pool [(1, .methodref 2 3), (0, .class_ 4), (0, .nameAndType 5 6), (0, u "java/lang/Object"), (0, u "<init>"), (0, u "()V"), (0, .class_ 8), (0, u "com/example/libabsent/libabsent/Modulus"), (0, .long 4611686018427387904), (10, .fieldref 7 21), (0, .nameAndType 22 23), (0, u "divisor"), (0, u "J"), (0, .long 18446744073709551615), (1, .methodref 27 28), (0, .class_ 29), (0, .nameAndType 30 31), (0, u "java/lang/Long"), (0, u "divideUnsigned"), (0, u "(JJ)J"), (0, .fieldref 7 33), (0, .nameAndType 34 23), (0, u "reciprocal"), (0, .fieldref 7 36), (0, .nameAndType 37 23), (0, u "dividendMask"), (0, .methodref 7 39), (0, .nameAndType 40 41), (0, u "multiplyHighByReciprocal"), (0, u "(J)J"), (0, .methodref 43 44), (0, .class_ 45), (0, .nameAndType 46 31), (0, u "java/lang/Math"), (0, u "multiplyHigh"), (0, u "MAX_DIVISOR"), (1, u "(J)V"), (3, u "remainder")] 17

def k2c0 : Code := { maxStack := 5, maxLocals := 3, code := prog_7_method_1_code, exceptionTable := #[], attributes := #[] }
def k2m0 : Method := { name := "<init>", desc := "(J)V", sig := { parameters := [.long], returnType := none }, accessFlags := 0, code := some k2c0 }
def k2c1 : Code := { maxStack := 7, maxLocals := 11, code := prog_7_method_2_code, exceptionTable := #[], attributes := #[] }
def k2m1 : Method := { name := "remainder", desc := "(J)J", sig := { parameters := [.long], returnType := some .long }, accessFlags := 0, code := some k2c1 }
def k2c2 : Code := { maxStack := 6, maxLocals := 3, code := prog_7_method_3_code, exceptionTable := #[], attributes := #[] }
def k2m2 : Method := { name := "multiplyHighByReciprocal", desc := "(J)J", sig := { parameters := [.long], returnType := some .long }, accessFlags := 2, code := some k2c2 }
/-- com/example/libabsent/libabsent/Modulus -/
def k2 : Class := { plain "com/example/libabsent/libabsent/Modulus" (some 0) with
  accessFlags := 48
  interfaces := #[]
  cf := some (fileOf pool2 7 #[] #[{ accessFlags := 0, nameIndex := 5, descriptorIndex := 49, attributes := #[] }, { accessFlags := 0, nameIndex := 53, descriptorIndex := 41, attributes := #[] }, { accessFlags := 2, nameIndex := 40, descriptorIndex := 41, attributes := #[] }] 48 2 #[] #[{ accessFlags := 24, nameIndex := 47, descriptorIndex := 23, attributes := #[] }, { accessFlags := 18, nameIndex := 22, descriptorIndex := 23, attributes := #[] }, { accessFlags := 18, nameIndex := 34, descriptorIndex := 23, attributes := #[] }, { accessFlags := 18, nameIndex := 37, descriptorIndex := 23, attributes := #[] }])
  fields := #[{ name := "MAX_DIVISOR", type := .long, accessFlags := 24, slot := 0, constantValue := 0 }, { name := "divisor", type := .long, accessFlags := 18, slot := 0, constantValue := 0 }, { name := "reciprocal", type := .long, accessFlags := 18, slot := 1, constantValue := 0 }, { name := "dividendMask", type := .long, accessFlags := 18, slot := 2, constantValue := 0 }]
  methods := #[k2m0, k2m1, k2m2]
  instanceTypes := #[.long, .long, .long]
  staticTypes := #[.long]
  resolved := Array.replicate 71 none
  statics := none }

def pool3 : Array CpInfo := pool [(1, .class_ 2), (0, u "java/io/Serializable"), (0, .class_ 4), (0, u "java/lang/Object")] 2

/-- java/io/Serializable -/
def k3 : Class := { plain "java/io/Serializable" (some 0) with
  accessFlags := 1537
  interfaces := #[]
  cf := some (fileOf pool3 1 #[] #[] 1537 3 #[] #[])
  fields := #[]
  methods := #[]
  instanceTypes := #[]
  staticTypes := #[]
  resolved := Array.replicate 7 none
  statics := none }

def pool4 : Array CpInfo := pool [(2, .class_ 4), (1, u "java/lang/Object"), (0, u "<init>"), (0, u "()V"), (1, .class_ 10), (1, u "java/lang/Number"), (2, .class_ 14), (0, u "java/io/Serializable"), (0, u "serialVersionUID"), (0, u "J")] 20

def k4m0 : Method := { name := "<init>", desc := "()V", sig := { parameters := [], returnType := none }, accessFlags := 1, code := none }
/-- java/lang/Number -/
def k4 : Class := { plain "java/lang/Number" (some 0) with
  accessFlags := 1057
  interfaces := #[3]
  cf := some (fileOf pool4 8 #[] #[{ accessFlags := 1, nameIndex := 5, descriptorIndex := 6, attributes := #[] }] 1057 2 #[13] #[{ accessFlags := 26, nameIndex := 15, descriptorIndex := 16, attributes := #[] }])
  fields := #[{ name := "serialVersionUID", type := .long, accessFlags := 26, slot := 0, constantValue := 0 }]
  methods := #[k4m0]
  instanceTypes := #[]
  staticTypes := #[.long]
  resolved := Array.replicate 37 none
  statics := none }

def pool5 : Array CpInfo := pool [(1, .class_ 2), (0, u "java/lang/Comparable"), (0, .class_ 4), (0, u "java/lang/Object")] 7

/-- java/lang/Comparable -/
def k5 : Class := { plain "java/lang/Comparable" (some 0) with
  accessFlags := 1537
  interfaces := #[]
  cf := some (fileOf pool5 1 #[] #[] 1537 3 #[] #[])
  fields := #[]
  methods := #[]
  instanceTypes := #[]
  staticTypes := #[]
  resolved := Array.replicate 12 none
  statics := none }

def pool6 : Array CpInfo := pool [(1, .class_ 2), (0, u "java/lang/constant/Constable"), (0, .class_ 4), (0, u "java/lang/Object")] 6

/-- java/lang/constant/Constable -/
def k6 : Class := { plain "java/lang/constant/Constable" (some 0) with
  accessFlags := 1537
  interfaces := #[]
  cf := some (fileOf pool6 1 #[] #[] 1537 3 #[] #[])
  fields := #[]
  methods := #[]
  instanceTypes := #[]
  staticTypes := #[]
  resolved := Array.replicate 11 none
  statics := none }

def pool7 : Array CpInfo := pool [(1, .class_ 2), (0, u "java/lang/constant/ConstantDesc"), (0, .class_ 4), (0, u "java/lang/Object")] 32

/-- java/lang/constant/ConstantDesc -/
def k7 : Class := { plain "java/lang/constant/ConstantDesc" (some 0) with
  accessFlags := 1537
  interfaces := #[]
  cf := some (fileOf pool7 1 #[] #[] 1537 3 #[] #[])
  fields := #[]
  methods := #[]
  instanceTypes := #[]
  staticTypes := #[]
  resolved := Array.replicate 37 none
  statics := none }

def pool8 : Array CpInfo := pool [(1, .class_ 2), (0, u "java/lang/Long"), (232, .class_ 237), (1, u "java/lang/Long$LongCache"), (33, .class_ 272), (0, u "java/lang/Number"), (2, u "value"), (0, u "J"), (29, .long 18446744073709551615), (26, u "(JJ)J"), (27, u "TYPE"), (0, u "Ljava/lang/Class;"), (0, .class_ 364), (0, u "java/lang/Comparable"), (0, .class_ 366), (0, u "java/lang/constant/Constable"), (0, .class_ 368), (0, u "java/lang/constant/ConstantDesc"), (0, u "MIN_VALUE"), (1, u "MAX_VALUE"), (4, u "SIZE"), (0, u "I"), (1, u "BYTES"), (1, u "serialVersionUID"), (88, u "divideUnsigned")] 53

def k8c0 : Code := { maxStack := 8, maxLocals := 8, code := jdk_35_method_44_code, exceptionTable := #[], attributes := #[] }
def k8m0 : Method := { name := "divideUnsigned", desc := "(JJ)J", sig := { parameters := [.long, .long], returnType := some .long }, accessFlags := 9, code := some k8c0 }
/-- java/lang/Long -/
def k8 : Class := { plain "java/lang/Long" (some 4) with
  accessFlags := 49
  interfaces := #[5, 6, 7]
  cf := some (fileOf pool8 1 #[.nestMembers #[235]] #[{ accessFlags := 9, nameIndex := 470, descriptorIndex := 333, attributes := #[] }] 49 271 #[363, 365, 367] #[{ accessFlags := 25, nameIndex := 369, descriptorIndex := 276, attributes := #[] }, { accessFlags := 25, nameIndex := 371, descriptorIndex := 276, attributes := #[] }, { accessFlags := 25, nameIndex := 361, descriptorIndex := 362, attributes := #[] }, { accessFlags := 18, nameIndex := 275, descriptorIndex := 276, attributes := #[] }, { accessFlags := 25, nameIndex := 376, descriptorIndex := 377, attributes := #[] }, { accessFlags := 25, nameIndex := 379, descriptorIndex := 377, attributes := #[] }, { accessFlags := 26, nameIndex := 381, descriptorIndex := 276, attributes := #[] }])
  fields := #[{ name := "MIN_VALUE", type := .long, accessFlags := 25, slot := 0, constantValue := 0 }, { name := "MAX_VALUE", type := .long, accessFlags := 25, slot := 1, constantValue := 0 }, { name := "TYPE", type := (.object "java/lang/Class"), accessFlags := 25, slot := 2, constantValue := 0 }, { name := "value", type := .long, accessFlags := 18, slot := 0, constantValue := 0 }, { name := "SIZE", type := .int, accessFlags := 25, slot := 3, constantValue := 0 }, { name := "BYTES", type := .int, accessFlags := 25, slot := 4, constantValue := 0 }, { name := "serialVersionUID", type := .long, accessFlags := 26, slot := 5, constantValue := 0 }]
  methods := #[k8m0]
  instanceTypes := #[.long]
  staticTypes := #[.long, .long, (.object "java/lang/Class"), .int, .int, .long]
  resolved := Array.replicate 524 none
  statics := none }

def pool9 : Array CpInfo := pool [(1, .methodref 2 3), (0, .class_ 4), (0, .nameAndType 5 6), (0, u "java/lang/Object"), (0, u "<init>"), (0, u "()V"), (0, .fieldref 8 9), (0, .class_ 10), (0, .nameAndType 11 12), (0, u "com/example/libabsent/libabsent/Positions"), (0, u "h1"), (0, u "J"), (0, .fieldref 8 14), (0, .nameAndType 15 12), (0, u "h2"), (0, .fieldref 8 17), (0, .nameAndType 18 19), (0, u "hashCount"), (0, u "I"), (0, .fieldref 8 21), (0, .nameAndType 22 23), (0, u "modulus"), (0, u "Lcom/example/libabsent/libabsent/Modulus;"), (0, .methodref 8 25), (0, .nameAndType 26 6), (0, u "restart"), (0, .fieldref 8 28), (0, .nameAndType 29 12), (0, u "position"), (0, .fieldref 8 31), (0, .nameAndType 32 12), (0, u "step"), (0, .fieldref 8 34), (0, .nameAndType 35 19), (0, u "index"), (0, .methodref 37 38), (0, .class_ 39), (0, .nameAndType 40 41), (0, u "com/example/libabsent/libabsent/Modulus"), (0, u "remainder"), (0, u "(J)J"), (0, u "([JILcom/example/libabsent/libabsent/Modulus;)V"), (2, u "hasNext"), (0, u "()Z"), (1, u "next"), (0, u "()J")] 2

def k9c0 : Code := { maxStack := 3, maxLocals := 4, code := prog_11_method_1_code, exceptionTable := #[], attributes := #[] }
def k9m0 : Method := { name := "<init>", desc := "([JILcom/example/libabsent/libabsent/Modulus;)V", sig := { parameters := [(.array .long), .int, (.object "com/example/libabsent/libabsent/Modulus")], returnType := none }, accessFlags := 0, code := some k9c0 }
def k9c1 : Code := { maxStack := 3, maxLocals := 1, code := prog_11_method_2_code, exceptionTable := #[], attributes := #[] }
def k9m1 : Method := { name := "restart", desc := "()V", sig := { parameters := [], returnType := none }, accessFlags := 0, code := some k9c1 }
def k9c2 : Code := { maxStack := 2, maxLocals := 1, code := prog_11_method_3_code, exceptionTable := #[], attributes := #[] }
def k9m2 : Method := { name := "hasNext", desc := "()Z", sig := { parameters := [], returnType := some .boolean }, accessFlags := 0, code := some k9c2 }
def k9c3 : Code := { maxStack := 5, maxLocals := 3, code := prog_11_method_4_code, exceptionTable := #[], attributes := #[] }
def k9m3 : Method := { name := "next", desc := "()J", sig := { parameters := [], returnType := some .long }, accessFlags := 0, code := some k9c3 }
/-- com/example/libabsent/libabsent/Positions -/
def k9 : Class := { plain "com/example/libabsent/libabsent/Positions" (some 0) with
  accessFlags := 48
  interfaces := #[]
  cf := some (fileOf pool9 8 #[] #[{ accessFlags := 0, nameIndex := 5, descriptorIndex := 42, attributes := #[] }, { accessFlags := 0, nameIndex := 26, descriptorIndex := 6, attributes := #[] }, { accessFlags := 0, nameIndex := 45, descriptorIndex := 46, attributes := #[] }, { accessFlags := 0, nameIndex := 48, descriptorIndex := 49, attributes := #[] }] 48 2 #[] #[{ accessFlags := 18, nameIndex := 11, descriptorIndex := 12, attributes := #[] }, { accessFlags := 18, nameIndex := 15, descriptorIndex := 12, attributes := #[] }, { accessFlags := 18, nameIndex := 18, descriptorIndex := 19, attributes := #[] }, { accessFlags := 18, nameIndex := 22, descriptorIndex := 23, attributes := #[] }, { accessFlags := 2, nameIndex := 29, descriptorIndex := 12, attributes := #[] }, { accessFlags := 2, nameIndex := 32, descriptorIndex := 12, attributes := #[] }, { accessFlags := 2, nameIndex := 35, descriptorIndex := 19, attributes := #[] }])
  fields := #[{ name := "h1", type := .long, accessFlags := 18, slot := 0, constantValue := 0 }, { name := "h2", type := .long, accessFlags := 18, slot := 1, constantValue := 0 }, { name := "hashCount", type := .int, accessFlags := 18, slot := 2, constantValue := 0 }, { name := "modulus", type := (.object "com/example/libabsent/libabsent/Modulus"), accessFlags := 18, slot := 3, constantValue := 0 }, { name := "position", type := .long, accessFlags := 2, slot := 4, constantValue := 0 }, { name := "step", type := .long, accessFlags := 2, slot := 5, constantValue := 0 }, { name := "index", type := .int, accessFlags := 2, slot := 6, constantValue := 0 }]
  methods := #[k9m0, k9m1, k9m2, k9m3]
  instanceTypes := #[.long, .long, .int, (.object "com/example/libabsent/libabsent/Modulus"), .long, .long, .int]
  staticTypes := #[]
  resolved := Array.replicate 52 none
  statics := none }

def pool10 : Array CpInfo := pool [(1, .class_ 2), (0, u "java/lang/Math"), (1, .class_ 6), (1, u "java/lang/Object"), (0, u "<init>"), (0, u "()V"), (89, .class_ 100), (1, u "java/lang/Math$RandomNumberGeneratorHolder"), (20, u "(JJ)J"), (16, .long 4294967295), (3, u "multiplyHigh"), (29, u "negativeZeroFloatBits"), (0, u "J"), (2, u "negativeZeroDoubleBits"), (68, u "$assertionsDisabled"), (0, u "Z"), (91, u "twoToTheDoubleScaleDown"), (0, u "D"), (4, u "twoToTheDoubleScaleUp"), (9, u "E"), (3, u "PI"), (2, u "TAU"), (2, u "DEGREES_TO_RADIANS"), (0, u "RADIANS_TO_DEGREES")] 94

def k10m0 : Method := { name := "<init>", desc := "()V", sig := { parameters := [], returnType := none }, accessFlags := 2, code := none }
def k10c1 : Code := { maxStack := 6, maxLocals := 20, code := jdk_29_method_45_code, exceptionTable := #[], attributes := #[] }
def k10m1 : Method := { name := "multiplyHigh", desc := "(JJ)J", sig := { parameters := [.long, .long], returnType := some .long }, accessFlags := 9, code := some k10c1 }
/-- java/lang/Math -/
def k10 : Class := { plain "java/lang/Math" (some 0) with
  accessFlags := 49
  interfaces := #[]
  cf := some (fileOf pool10 1 #[.nestMembers #[98]] #[{ accessFlags := 2, nameIndex := 7, descriptorIndex := 8, attributes := #[] }, { accessFlags := 9, nameIndex := 142, descriptorIndex := 121, attributes := #[] }] 49 4 #[] #[{ accessFlags := 25, nameIndex := 354, descriptorIndex := 339, attributes := #[] }, { accessFlags := 25, nameIndex := 358, descriptorIndex := 339, attributes := #[] }, { accessFlags := 25, nameIndex := 361, descriptorIndex := 339, attributes := #[] }, { accessFlags := 26, nameIndex := 364, descriptorIndex := 339, attributes := #[] }, { accessFlags := 26, nameIndex := 365, descriptorIndex := 339, attributes := #[] }, { accessFlags := 26, nameIndex := 172, descriptorIndex := 173, attributes := #[] }, { accessFlags := 26, nameIndex := 176, descriptorIndex := 173, attributes := #[] }, { accessFlags := 8, nameIndex := 344, descriptorIndex := 339, attributes := #[] }, { accessFlags := 8, nameIndex := 338, descriptorIndex := 339, attributes := #[] }, { accessFlags := 4120, nameIndex := 245, descriptorIndex := 246, attributes := #[] }])
  fields := #[{ name := "E", type := .double, accessFlags := 25, slot := 0, constantValue := 0 }, { name := "PI", type := .double, accessFlags := 25, slot := 1, constantValue := 0 }, { name := "TAU", type := .double, accessFlags := 25, slot := 2, constantValue := 0 }, { name := "DEGREES_TO_RADIANS", type := .double, accessFlags := 26, slot := 3, constantValue := 0 }, { name := "RADIANS_TO_DEGREES", type := .double, accessFlags := 26, slot := 4, constantValue := 0 }, { name := "negativeZeroFloatBits", type := .long, accessFlags := 26, slot := 5, constantValue := 0 }, { name := "negativeZeroDoubleBits", type := .long, accessFlags := 26, slot := 6, constantValue := 0 }, { name := "twoToTheDoubleScaleUp", type := .double, accessFlags := 8, slot := 7, constantValue := 0 }, { name := "twoToTheDoubleScaleDown", type := .double, accessFlags := 8, slot := 8, constantValue := 0 }, { name := "$assertionsDisabled", type := .boolean, accessFlags := 4120, slot := 9, constantValue := 0 }]
  methods := #[k10m0, k10m1]
  instanceTypes := #[]
  staticTypes := #[.double, .double, .double, .double, .double, .long, .long, .double, .double, .boolean]
  resolved := Array.replicate 460 none
  statics := none }

def pool11 : Array CpInfo := pool [(1, u "java/lang/Cloneable"), (0, .class_ 1), (0, u "java/lang/Object"), (0, .class_ 3)] 3

/-- java/lang/Cloneable -/
def k11 : Class := { plain "java/lang/Cloneable" (some 0) with
  accessFlags := 1537
  interfaces := #[]
  cf := some (fileOf pool11 2 #[] #[] 1537 4 #[] #[])
  fields := #[]
  methods := #[]
  instanceTypes := #[]
  staticTypes := #[]
  resolved := Array.replicate 8 none
  statics := none }

/-- the primitive byte -/
def k12 : Class := { plain "byte" none with kind := .primitive 'B', accessFlags := 0x411 }
/-- [B -/
def k13 : Class := { plain "[B" (some 0) with kind := .array 12 .byte, interfaces := #[11, 3], accessFlags := 1041 }

/-- the primitive int -/
def k14 : Class := { plain "int" none with kind := .primitive 'I', accessFlags := 0x411 }
/-- [I -/
def k15 : Class := { plain "[I" (some 0) with kind := .array 14 .int, interfaces := #[11, 3], accessFlags := 1041 }

/-- the primitive long -/
def k16 : Class := { plain "long" none with kind := .primitive 'J', accessFlags := 0x411 }
/-- [J -/
def k17 : Class := { plain "[J" (some 0) with kind := .array 16 .long, interfaces := #[11, 3], accessFlags := 1041 }

def heap : Heap := #[]
def classes : Array Class := #[k0, k1, k2, k3, k4, k5, k6, k7, k8, k9, k10, k11, k12, k13, k14, k15, k16, k17]
def interned : List (Array UInt16 × Addr) := []
def slotsUsed : Nat := 0
def theMethod : MethodId := ⟨1, 1⟩
def args0 : Array Value := #[.long 5, .long 7, .int 3, .long 9]
def aboutOver (below : List Frame) : State where
  vm := { classes := classes, interned := interned.toArray }
  heap := heap
  slotsUsed := slotsUsed
  threads := #[{ frames := .invoking theMethod args0 :: below }]
def below0 : List Frame := [.native { method := ⟨0, 0⟩, args := #[] }]
def about1 : State := aboutOver below0
def p0 : Program := .bare "" "" ""
def e0 : Env := launch0.env 0 0 0
theorem w_frames : about1.frames = Frame.invoking theMethod args0 :: below0 := rfl
set_option maxRecDepth 65536 in
theorem w_args : argsFit about1.vm theMethod args0 = true := by decide +kernel
set_option maxRecDepth 65536 in
theorem w_heap : heapFits about1 = true := by decide +kernel
set_option maxRecDepth 65536 in
theorem w_runnable : about1.curStatus? = some .runnable := by decide +kernel
set_option maxRecDepth 65536 in
theorem w_alone : about1.alone = true := by decide +kernel
set_option maxRecDepth 65536 in
theorem w_named : about1.methodNamed? x = some theMethod := by decide +kernel
set_option maxRecDepth 65536 in
theorem w_hears : about1.hears theMethod below0 = true := by decide +kernel
set_option maxRecDepth 65536 in
theorem w_ripe : about1.ripe theMethod args0 below0 = true := by decide +kernel
theorem w_running : about1.status = .running := rfl
set_option maxRecDepth 65536 in
theorem w_room : about1.hasRoom e0.platform room_1 = true :=
  launch0.hasRoom_least _ room_1 (by decide +kernel) (by decide +kernel) (by decide +kernel) (by decide +kernel) (by decide +kernel) (by decide +kernel)
theorem allAtoms_all (ts : List Jvm.Cond) (a : Array Jvm.Value) (st : Jvm.State) : (allAtoms ts).before a st = ts.all (fun c => c.before a st) := by
  induction ts with
  | nil => rfl
  | cons c t ih =>
    show (Jvm.Cond.and c (allAtoms t)).before a st = _
    rw [Jvm.Cond.before_and, ih, List.all_cons]
def words1 : List Jvm.Cond := Jvm.Cond.code x code maxLocals ret :: tables_1
/-- a 'code' word, met by the world's own term for the bytes: nothing is compared byte by byte -/
theorem code_word {y : MethodName} {bytes : ByteArray} {mx : Nat} {rt : Option FieldType} {a : Array Value} {s : State} {m : MethodId} {meth : Method} {c : Code} (h1 : s.methodNamed? y = some m) (h2 : s.vm.method? m = some meth) (h3 : meth.code = some c) (h4 : c.code = bytes)
    (h5 : (c.maxLocals == mx && c.exceptionTable.isEmpty && decide (c.maxStack ≤ mostOperands) && decide (meth.sig.returnType = rt) && !meth.locks && decide (parseMethodDescriptor y.desc = some meth.sig)) = true) : (Jvm.Cond.code y bytes mx rt).before a s = true := by
  simp only [Bool.and_eq_true, beq_iff_eq, Bool.not_eq_true', decide_eq_true_eq] at h5
  obtain ⟨⟨⟨⟨⟨g1, g2⟩, g3⟩, g4⟩, g5⟩, g6⟩ := h5
  simp [Cond.before, Cond.holds, Cond.value, h1, h2, h3, h4, g1, g2, g3, g4, g5, g6]
def isCode : Jvm.Cond → Bool
  | .code _ _ _ _ => true
  | _ => false
theorem all_split {L : List Jvm.Cond} {P : Jvm.Cond → Bool} (h1 : L.all (fun c => isCode c || P c) = true) (h2 : ∀ c ∈ L.filter isCode, P c = true) : L.all P = true := by
  refine List.all_eq_true.mpr fun c hc => ?_
  have h := List.all_eq_true.mp h1 c hc
  rcases Bool.eq_false_or_eq_true (isCode c) with hi | hi
  · exact h2 c (List.mem_filter.mpr ⟨hc, hi⟩)
  · simpa [hi] using h
set_option maxRecDepth 65536 in
theorem w_c0 : (Jvm.Cond.code x code maxLocals ret).before args0 about1 = true := code_word (m := ⟨1, 1⟩) (meth := k1m1) (c := k1c1) (by decide +kernel) rfl rfl rfl (by decide +kernel)
set_option maxRecDepth 65536 in
theorem w_c1 : (Jvm.Cond.code ({ cls := "com/example/libabsent/libabsent/Modulus", name := "<init>", desc := "(J)V" } : Jvm.MethodName) prog_7_method_1_code (3 : Nat) (Option.none : Option Jvm.ClassFile.FieldType)).before args0 about1 = true := code_word (m := ⟨2, 0⟩) (meth := k2m0) (c := k2c0) (by decide +kernel) rfl rfl rfl (by decide +kernel)
set_option maxRecDepth 65536 in
theorem w_c2 : (Jvm.Cond.code ({ cls := "java/lang/Object", name := "<init>", desc := "()V" } : Jvm.MethodName) object_method_1_code (1 : Nat) (Option.none : Option Jvm.ClassFile.FieldType)).before args0 about1 = true := code_word (m := ⟨0, 0⟩) (meth := k0m0) (c := k0c0) (by decide +kernel) rfl rfl rfl (by decide +kernel)
set_option maxRecDepth 65536 in
theorem w_c3 : (Jvm.Cond.code ({ cls := "java/lang/Long", name := "divideUnsigned", desc := "(JJ)J" } : Jvm.MethodName) jdk_35_method_44_code (8 : Nat) (Option.some Jvm.ClassFile.FieldType.long)).before args0 about1 = true := code_word (m := ⟨8, 0⟩) (meth := k8m0) (c := k8c0) (by decide +kernel) rfl rfl rfl (by decide +kernel)
set_option maxRecDepth 65536 in
theorem w_c4 : (Jvm.Cond.code ({ cls := "com/example/libabsent/libabsent/Positions", name := "<init>", desc := "([JILcom/example/libabsent/libabsent/Modulus;)V" } : Jvm.MethodName) prog_11_method_1_code (4 : Nat) (Option.none : Option Jvm.ClassFile.FieldType)).before args0 about1 = true := code_word (m := ⟨9, 0⟩) (meth := k9m0) (c := k9c0) (by decide +kernel) rfl rfl rfl (by decide +kernel)
set_option maxRecDepth 65536 in
theorem w_c5 : (Jvm.Cond.code ({ cls := "com/example/libabsent/libabsent/Positions", name := "restart", desc := "()V" } : Jvm.MethodName) prog_11_method_2_code (1 : Nat) (Option.none : Option Jvm.ClassFile.FieldType)).before args0 about1 = true := code_word (m := ⟨9, 1⟩) (meth := k9m1) (c := k9c1) (by decide +kernel) rfl rfl rfl (by decide +kernel)
set_option maxRecDepth 65536 in
theorem w_c6 : (Jvm.Cond.code ({ cls := "com/example/libabsent/libabsent/Positions", name := "hasNext", desc := "()Z" } : Jvm.MethodName) prog_11_method_3_code (1 : Nat) (Option.some Jvm.ClassFile.FieldType.boolean)).before args0 about1 = true := code_word (m := ⟨9, 2⟩) (meth := k9m2) (c := k9c2) (by decide +kernel) rfl rfl rfl (by decide +kernel)
set_option maxRecDepth 65536 in
theorem w_c7 : (Jvm.Cond.code ({ cls := "com/example/libabsent/libabsent/Positions", name := "next", desc := "()J" } : Jvm.MethodName) prog_11_method_4_code (3 : Nat) (Option.some Jvm.ClassFile.FieldType.long)).before args0 about1 = true := code_word (m := ⟨9, 3⟩) (meth := k9m3) (c := k9c3) (by decide +kernel) rfl rfl rfl (by decide +kernel)
set_option maxRecDepth 65536 in
theorem w_c8 : (Jvm.Cond.code ({ cls := "com/example/libabsent/libabsent/Modulus", name := "remainder", desc := "(J)J" } : Jvm.MethodName) prog_7_method_2_code (11 : Nat) (Option.some Jvm.ClassFile.FieldType.long)).before args0 about1 = true := code_word (m := ⟨2, 1⟩) (meth := k2m1) (c := k2c1) (by decide +kernel) rfl rfl rfl (by decide +kernel)
set_option maxRecDepth 65536 in
theorem w_c9 : (Jvm.Cond.code ({ cls := "com/example/libabsent/libabsent/Modulus", name := "multiplyHighByReciprocal", desc := "(J)J" } : Jvm.MethodName) prog_7_method_3_code (3 : Nat) (Option.some Jvm.ClassFile.FieldType.long)).before args0 about1 = true := code_word (m := ⟨2, 2⟩) (meth := k2m2) (c := k2c2) (by decide +kernel) rfl rfl rfl (by decide +kernel)
set_option maxRecDepth 65536 in
theorem w_c10 : (Jvm.Cond.code ({ cls := "java/lang/Math", name := "multiplyHigh", desc := "(JJ)J" } : Jvm.MethodName) jdk_29_method_45_code (20 : Nat) (Option.some Jvm.ClassFile.FieldType.long)).before args0 about1 = true := code_word (m := ⟨10, 1⟩) (meth := k10m1) (c := k10c1) (by decide +kernel) rfl rfl rfl (by decide +kernel)
def codes1 : List Jvm.Cond := [Jvm.Cond.code x code maxLocals ret, Jvm.Cond.code ({ cls := "com/example/libabsent/libabsent/Modulus", name := "<init>", desc := "(J)V" } : Jvm.MethodName) prog_7_method_1_code (3 : Nat) (Option.none : Option Jvm.ClassFile.FieldType), Jvm.Cond.code ({ cls := "java/lang/Object", name := "<init>", desc := "()V" } : Jvm.MethodName) object_method_1_code (1 : Nat) (Option.none : Option Jvm.ClassFile.FieldType), Jvm.Cond.code ({ cls := "java/lang/Long", name := "divideUnsigned", desc := "(JJ)J" } : Jvm.MethodName) jdk_35_method_44_code (8 : Nat) (Option.some Jvm.ClassFile.FieldType.long), Jvm.Cond.code ({ cls := "com/example/libabsent/libabsent/Positions", name := "<init>", desc := "([JILcom/example/libabsent/libabsent/Modulus;)V" } : Jvm.MethodName) prog_11_method_1_code (4 : Nat) (Option.none : Option Jvm.ClassFile.FieldType), Jvm.Cond.code ({ cls := "com/example/libabsent/libabsent/Positions", name := "restart", desc := "()V" } : Jvm.MethodName) prog_11_method_2_code (1 : Nat) (Option.none : Option Jvm.ClassFile.FieldType), Jvm.Cond.code ({ cls := "com/example/libabsent/libabsent/Positions", name := "hasNext", desc := "()Z" } : Jvm.MethodName) prog_11_method_3_code (1 : Nat) (Option.some Jvm.ClassFile.FieldType.boolean), Jvm.Cond.code ({ cls := "com/example/libabsent/libabsent/Positions", name := "next", desc := "()J" } : Jvm.MethodName) prog_11_method_4_code (3 : Nat) (Option.some Jvm.ClassFile.FieldType.long), Jvm.Cond.code ({ cls := "com/example/libabsent/libabsent/Modulus", name := "remainder", desc := "(J)J" } : Jvm.MethodName) prog_7_method_2_code (11 : Nat) (Option.some Jvm.ClassFile.FieldType.long), Jvm.Cond.code ({ cls := "com/example/libabsent/libabsent/Modulus", name := "multiplyHighByReciprocal", desc := "(J)J" } : Jvm.MethodName) prog_7_method_3_code (3 : Nat) (Option.some Jvm.ClassFile.FieldType.long), Jvm.Cond.code ({ cls := "java/lang/Math", name := "multiplyHigh", desc := "(JJ)J" } : Jvm.MethodName) jdk_29_method_45_code (20 : Nat) (Option.some Jvm.ClassFile.FieldType.long)]
set_option maxRecDepth 65536 in
theorem codes_eq : words1.filter isCode = codes1 := rfl
theorem w_codes : ∀ c ∈ words1.filter isCode, c.before args0 about1 = true := by
  rw [codes_eq]
  intro c hc
  simp only [codes1, List.mem_cons, List.not_mem_nil, or_false] at hc
  rcases hc with rfl | rfl | rfl | rfl | rfl | rfl | rfl | rfl | rfl | rfl | rfl
  · exact w_c0
  · exact w_c1
  · exact w_c2
  · exact w_c3
  · exact w_c4
  · exact w_c5
  · exact w_c6
  · exact w_c7
  · exact w_c8
  · exact w_c9
  · exact w_c10
set_option maxRecDepth 65536 in
theorem w_t1 : (words1.take 24).all (fun c => isCode c || c.before args0 about1) = true := by decide +kernel
set_option maxRecDepth 65536 in
theorem w_t2 : ((words1.drop 24).take 24).all (fun c => isCode c || c.before args0 about1) = true := by decide +kernel
set_option maxRecDepth 65536 in
theorem w_t3 : (((words1.drop 24).drop 24).take 24).all (fun c => isCode c || c.before args0 about1) = true := by decide +kernel
set_option maxRecDepth 65536 in
theorem w_t4 : (((words1.drop 24).drop 24).drop 24).all (fun c => isCode c || c.before args0 about1) = true := by decide +kernel
theorem w_tables : (allAtoms (Jvm.Cond.code x code maxLocals ret :: tables_1)).before args0 about1 = true := by
  rw [allAtoms_all]
  show words1.all (fun c => c.before args0 about1) = true
  refine all_split ?_ w_codes
  rw [← List.take_append_drop 24 words1, List.all_append, w_t1, ← List.take_append_drop 24 (words1.drop 24), List.all_append, w_t2, ← List.take_append_drop 24 ((words1.drop 24).drop 24), List.all_append, w_t3, w_t4]
  rfl
set_option maxRecDepth 65536 in
theorem w_case : (Jvm.Cond.and given_1 narrow_1).before args0 about1 = true := by decide +kernel
theorem w_applies : (headSpec (Jvm.Cond.code x code maxLocals ret :: tables_1) room_1).applies x e0.platform about1 = true :=
  (Spec.applies_iff w_frames).mpr ⟨w_running, w_runnable, w_alone, w_named, w_hears, w_ripe, w_room, w_tables⟩
theorem atStart : AtStart classFile x code maxLocals ret World_1 tables_1 room_1 Calls_1 rest_1 Pre_1 launch0 p0 e0 about1 theMethod args0 below0 :=
  ⟨lists_1, trivial, launch0.admits_env _ _ _, launch0.least_env, fairChoices_fair.cas, fairChoices_fair.clock, w_frames, w_args, w_heap, w_applies, trivial, trivial, w_case⟩
end start1
theorem witness_1 : WitnessClaimed_1 := ⟨start1.p0, start1.e0, start1.about1, start1.theMethod, start1.args0, start1.below0, start1.atStart⟩
end Jvm.Pilot.@@N@@
