import JvmDerived
import JvmDerived.Pilot.@@N@@Statement
import JvmDerived.Pilot.@@N@@Code
set_option linter.unusedVariables false
set_option linter.unusedSimpArgs false
namespace Jvm.Own
open Jvm Jvm.ClassFile Sem Op Lib Jvm.Free Jvm.Stand Jvm.LawKit Jvm.RoadKit Bundle
/-! A walk in 'what is left to do' form: Go .. says that from every state that stands at this frame over this heap the body runs to its end and leaves what Post says. -/
abbrev Kx : Type := Program × Launch × Env × State × MethodId × Array Value × List Frame × Method × Code
abbrev Kx.p (K : Kx) : Program := K.1
abbrev Kx.l (K : Kx) : Launch := K.2.1
abbrev Kx.e (K : Kx) : Env := K.2.2.1
abbrev Kx.s (K : Kx) : State := K.2.2.2.1
abbrev Kx.m (K : Kx) : MethodId := K.2.2.2.2.1
abbrev Kx.as (K : Kx) : Array Value := K.2.2.2.2.2.1
abbrev Kx.below (K : Kx) : List Frame := K.2.2.2.2.2.2.1
abbrev Kx.meth (K : Kx) : Method := K.2.2.2.2.2.2.2.1
abbrev Kx.c (K : Kx) : Code := K.2.2.2.2.2.2.2.2
/-- the decode fact, with the next place -/
def Dc (code : ByteArray) (pc : Nat) (i : Instr) (n pc' : Nat) : Prop := decode code pc = .ok (i, n) ∧ pc + n = pc'
abbrev Pst : Type := Option Value → Heap → List Addr → Prop
/-- where the walk stands -/
def Inv (Z : State) (EL : List (String × Nat)) (nw : Bool) (R : Room) (K : Kx) (T : State) (h : Heap) (S : List Addr) (k n : Nat) : Prop :=
  ∃ (vm0 : Vm) (k0 : Nat) (locs : List Loc), Stand K.p K.l K.e R (K.s.setVm vm0) K.m K.as K.below K.meth K.c T locs k n ∧ K.s.Since vm0 k0 ∧ k0 ≤ h.size ∧ Z.Warmed39 vm0 ∧ T.heap = h ∧ Fr Z.heap.size locs ∧
    CHr Z EL K.s.vm K.s.heap vm0 h ∧ (∀ a ∈ S, Z.heap.size ≤ a ∧ a < h.size ∧ Safe Z EL vm0 h a) ∧ (nw = true → K.s.WarmedH vm0) ∧ Ext Z.heap h
/-- what the end must be -/
def EndQ (Z : State) (EL : List (String × Nat)) (nw : Bool) (R : Room) (Post : Pst) (s : State) (o : Outcome) (t : State) : Prop :=
  ∃ v L S', o = .returned v ∧ Post v t.heap S' ∧ Fr Z.heap.size L ∧ CHr Z EL s.vm s.heap t.vm t.heap ∧ (∀ x ∈ S', Z.heap.size ≤ x ∧ x < t.heap.size ∧ Safe Z EL t.vm t.heap x) ∧ ReturnedEndW s o t L R.cells R.slots ∧ (nw = true → s.WarmedH t.vm) ∧ Ext Z.heap t.heap
def Fin' (Z : State) (EL : List (String × Nat)) (nw : Bool) (R : Room) (Post : Pst) (K : Kx) (U : State) : Prop :=
  ∃ s₂ o, Steps K.p.tables K.e K.below U s₂ ∧ s₂.status = .running ∧ Ended s₂ K.below o ∧ EndQ Z EL nw R Post K.s o s₂
def Go (Z : State) (EL : List (String × Nat)) (nw : Bool) (R : Room) (Post : Pst) (K : Kx) (h : Heap) (S : List Addr) (k n pc : Nat) (L : List Slot) (st : List Value) : Prop :=
  ∀ T, Inv Z EL nw R K T h S k n → Fin' Z EL nw R Post K (T.setTop (mkF K.m pc L.toArray st))
def Good (Z : State) (a0 : Array Value) (EL : List (String × Nat)) (K : Kx) (own : String) (code : ByteArray) (maxL : Nat) (ret : Option FieldType) (nm : String) : Prop :=
  K.p.tables.exec = Jvm.exec ∧ K.c.code = code ∧ K.c.maxLocals = maxL ∧ K.meth.sig.returnType = ret ∧ K.meth.locks = false ∧ K.meth.name = nm ∧ K.s.vm.findClass own = some K.m.cls ∧ EW Z a0 EL
/-- a body's contract -/
def Con (l : Launch) (Z : State) (EL : List (String × Nat)) (nw : Bool) (y : MethodName) (bytes : ByteArray) (maxL : Nat) (ret : Option FieldType) (ws : List Jvm.Cond) (rm : Room) (as : Array Value) (h : Heap) (S : List Addr) (Post : Pst) : Prop :=
  MetFree l y (head1 (Jvm.Cond.code y bytes maxL ret :: ws) rm) (fun a U => a = as ∧ Z.Warmed39 U.vm ∧ U.heap = h ∧ CHv Z EL U.vm h ∧ (∀ x ∈ S, Z.heap.size ≤ x ∧ x < h.size ∧ Safe Z EL U.vm h x) ∧ Ext Z.heap h) (fun _ _ _ _ _ => True) (fun _ U o U' => EndQ Z EL nw rm Post U o U')
section Rules
variable {Z : State} {a0 : Array Value} {EL : List (String × Nat)} {nw : Bool} {R : Room} {Post : Pst} {K : Kx} {own : String} {code : ByteArray} {maxL : Nat} {ret : Option FieldType} {nm : String} {h h' : Heap} {S S' : List Addr} {k n k' n' pc pc' : Nat} {L L' : List Slot} {st : List Value} {l : Launch}
theorem Fin'.step {U U' : State} (q : ∀ target, Steps K.p.tables K.e K.below U' target → Steps K.p.tables K.e K.below U target) (f : Fin' Z EL nw R Post K U') : Fin' Z EL nw R Post K U := by
  obtain ⟨s₂, o, h1, r⟩ := f
  exact ⟨s₂, o, q _ h1, r⟩
theorem Good.hown (G : Good Z a0 EL K own code maxL ret nm) {vm0 : Vm} {k0 : Nat} (hS : K.s.Since vm0 k0) : vm0.findClass own = some K.m.cls := (hS.1.alike.findClass _ _).trans G.2.2.2.2.2.2.1
/-- entering a body -/
theorem Con.enter {y : MethodName} {bytes : ByteArray} {ws : List Jvm.Cond} {as : Array Value} (hp : plainFor y = true) (hEL : EW Z a0 EL) (L0 : List Slot) (hef : ∀ m, entryFrame m as maxL = mkF m 0 L0.toArray [])
    (body : ∀ K : Kx, Good Z a0 EL K y.cls bytes maxL ret y.name → Go Z EL nw R Post K h S 0 0 0 L0 []) : Con l Z EL nw y bytes maxL ret ws R as h S Post := by
  refine MetFree.of_bodySF hp hisR ?_
  intro p e s m args below meth c s₁ Bd hml0 hP hK
  obtain ⟨rfl, hZ, hh, hC, hSf, hO⟩ := hP
  have X0 : Stand p l e R s m args below meth c s₁ [] 0 0 := Stand.of_body Bd
  have e0 : s₁.heap = h := by rw [← hh, Bd.state]; rfl
  have G : Good Z a0 EL (p, l, e, s, m, args, below, meth, c) y.cls bytes maxL ret y.name := ⟨Bd.exec, Bd.bytes, hml0, Bd.returns, Bd.notSynchronized, (name_of_methodNamed Bd.named Bd.method).1, findClass_of_methodNamed Bd.named, hEL⟩
  have F := body (p, l, e, s, m, args, below, meth, c) G s₁ ⟨s.vm, h.size, [], X0, (State.WarmedH.refl s).since _, Nat.le_refl _, hZ, e0, Fr.nil _, by show CHr Z EL s.vm s.heap s.vm h; rw [hh]; exact CHr.refl hC, hSf, fun _ => State.WarmedH.refl s, hO⟩
  obtain ⟨s₂, o, h1, h2, h3, h4⟩ := F
  exact ⟨s₂, o, castTop (hef m) h1, h2, h3, h4⟩
/-- a plain step -/
theorem Go.plain (q : ∀ (T : State) target, At T K.m K.c K.below → Steps K.p.tables K.e K.below (T.setTop (mkF K.m pc' L'.toArray st)) target → Steps K.p.tables K.e K.below (T.setTop (mkF K.m pc L.toArray st')) target) (f : Go Z EL nw R Post K h S k n pc' L' st) : Go Z EL nw R Post K h S k n pc L st' := fun T I => by
  obtain ⟨vm0, k0, locs, X, r⟩ := I
  exact (f T ⟨vm0, k0, locs, X, r⟩).step fun t z => q T t X.here z
theorem Go.more (f : Go Z EL nw R Post K h S k' n' pc L st) (hk : k ≤ k') (hn : n ≤ n') : Go Z EL nw R Post K h S k n pc L st := fun T I => by
  obtain ⟨vm0, k0, locs, X, r⟩ := I
  exact f T ⟨vm0, k0, locs, X.mono hk hn, r⟩
theorem Go.fewer (f : Go Z EL nw R Post K h S' k n pc L st) (hs : ∀ x ∈ S', x ∈ S) : Go Z EL nw R Post K h S k n pc L st := fun T I => by
  obtain ⟨vm0, k0, locs, X, r1, r2, r3, r4, r5, r6, r7, r8⟩ := I
  exact f T ⟨vm0, k0, locs, X, r1, r2, r3, r4, r5, r6, fun a q => r7 a (hs a q), r8⟩
/-- what is known of the places in S -/
theorem Go.safeIn (f : (∀ a ∈ S, Z.heap.size ≤ a ∧ a < h.size) → Go Z EL nw R Post K h S k n pc L st) : Go Z EL nw R Post K h S k n pc L st := fun T I => by
  obtain ⟨vm0, k0, locs, X, r1, r2, r3, r4, r5, r6, r7, r8⟩ := I
  exact f (fun a q => ⟨(r7 a q).1, (r7 a q).2.1⟩) T ⟨vm0, k0, locs, X, r1, r2, r3, r4, r5, r6, r7, r8⟩
theorem Go.oldIn (f : Ext Z.heap h → Go Z EL nw R Post K h S k n pc L st) : Go Z EL nw R Post K h S k n pc L st := fun T I => by
  obtain ⟨vm0, k0, locs, X, r1, r2, r3, r4, r5, r6, r7, r8⟩ := I
  exact f r8.2 T ⟨vm0, k0, locs, X, r1, r2, r3, r4, r5, r6, r7, r8⟩
/-! ### the ends -/
theorem Good.leave (G : Good Z a0 EL K own code maxL ret nm) {v : Option Value} (hv : ret = none → v = none) (hk : k ≤ R.cells) (hn : n ≤ R.slots) (S' : List Addr) (hS' : ∀ x ∈ S', x ∈ S) (hP : Post v h S')
    (q : ∀ (T : State) (vm0 : Vm) (locs : List Loc) (fs : List Frame), Stand K.p K.l K.e R (K.s.setVm vm0) K.m K.as K.below K.meth K.c T locs k n → (∀ (f : JFrame) (acts : List Action), f.method = K.m → f.locked = none → f.entered = [] → (doReturn K.e (T.setTop f) acts v).1 = T.setFrames fs) → Steps K.p.tables K.e K.below (T.setTop (mkF K.m pc L.toArray st)) (T.setFrames fs)) :
    Go Z EL nw R Post K h S k n pc L st := fun T I => by
  obtain ⟨vm0, k0, locs, X, hS, hk0, hZ, e, N, CH, hSf, hw, hO⟩ := I
  obtain ⟨hx, hby, hml, hret, hlk, hnm, hown, hEL⟩ := G
  have hlk' : K.meth.locks = false := hlk
  obtain ⟨fs, h1, h2, h3, hE⟩ := X.leaveW hS (by rw [e]; exact hk0) (v := v) (fun z => hv (hret.symm.trans z)) hlk'
  obtain ⟨a1, a2, a3, a4⟩ := hE
  have CA := CHv.at X hZ hEL CH.1
  have eh : (T.setFrames fs).heap = h := e
  refine ⟨_, _, q T vm0 locs fs X h1, h2, h3, v, locs, S', rfl, by rw [eh]; exact hP, N, ?_, ?_, ⟨a1, a2, a3, a4.mono hk hn⟩, fun z => State.WarmedH.trans (t := K.s.setVm vm0) (hw z) X.warmed, by rw [eh]; exact hO⟩
  · show CHr Z EL K.s.vm K.s.heap T.vm (T.setFrames fs).heap
    rw [eh]; exact CH.trans CA
  · intro x hx'
    obtain ⟨b1, b2, b3⟩ := hSf x (hS' x hx')
    show Z.heap.size ≤ x ∧ x < (T.setFrames fs).heap.size ∧ Safe Z EL T.vm (T.setFrames fs).heap x
    rw [eh]; exact ⟨b1, b2, CA.safe b2 b3⟩
theorem Good.ret0 (G : Good Z a0 EL K own code maxL none nm) (hd : Dc code pc .return_ 1 pc') (S' : List Addr) (hS' : ∀ x ∈ S', x ∈ S) (hP : Post none h S') (hk : k ≤ R.cells := by decide) (hn : n ≤ R.slots := by decide) : Go Z EL nw R Post K h S k n pc L [] :=
  G.leave (fun _ => rfl) hk hn S' hS' hP fun T vm0 locs fs X hr => X.returnOut G.1 G.2.2.2.1 (hb G.2.1 hd.1) hr
theorem Good.retV {t : FieldType} (G : Good Z a0 EL K own code maxL (some t) nm) {w : Value} {i : Instr} (hd : Dc code pc i 1 pc') (hn' : narrow t w = w)
    (hi : (i = .ireturn ∧ (t = .int ∨ t = .boolean ∨ t = .byte ∨ t = .char ∨ t = .short) ∧ ∃ z, w = .int z) ∨ (i = .lreturn ∧ t = .long ∧ ∃ z, w = .long z) ∨ (i = .dreturn ∧ t = .double ∧ ∃ z, w = .double z) ∨ (i = .freturn ∧ t = .float ∧ ∃ z, w = .float z) ∨ (i = .areturn ∧ t.isReference = true ∧ w.isRef = true))
    (S' : List Addr) (hS' : ∀ x ∈ S', x ∈ S) (hP : Post (some w) h S') (hk : k ≤ R.cells := by decide) (hn : n ≤ R.slots := by decide) : Go Z EL nw R Post K h S k n pc L (w :: st) :=
  G.leave (fun z => by cases z) hk hn S' hS' hP fun T vm0 locs fs X hr => retOut X G.1 G.2.2.2.1 hn' hi (hb G.2.1 hd.1) hr
theorem Good.iret (G : Good Z a0 EL K own code maxL (some .int) nm) {z : Int32} (hd : Dc code pc .ireturn 1 pc') (S' : List Addr) (hS' : ∀ x ∈ S', x ∈ S) (hP : Post (some (.int z)) h S') (hk : k ≤ R.cells := by decide) (hn : n ≤ R.slots := by decide) : Go Z EL nw R Post K h S k n pc L (.int z :: st) :=
  G.retV hd rfl (Or.inl ⟨rfl, Or.inl rfl, z, rfl⟩) S' hS' hP hk hn
theorem Good.lret (G : Good Z a0 EL K own code maxL (some .long) nm) {z : Int64} (hd : Dc code pc .lreturn 1 pc') (S' : List Addr) (hS' : ∀ x ∈ S', x ∈ S) (hP : Post (some (.long z)) h S') (hk : k ≤ R.cells := by decide) (hn : n ≤ R.slots := by decide) : Go Z EL nw R Post K h S k n pc L (.long z :: st) :=
  G.retV hd rfl (Or.inr (Or.inl ⟨rfl, rfl, z, rfl⟩)) S' hS' hP hk hn
theorem Good.aret {t : FieldType} (G : Good Z a0 EL K own code maxL (some t) nm) {w : Value} (hd : Dc code pc .areturn 1 pc') (S' : List Addr) (hS' : ∀ x ∈ S', x ∈ S) (hP : Post (some w) h S') (hr : w.isRef = true := by rfl) (ht : t.isReference = true := by rfl) (hk : k ≤ R.cells := by decide) (hn : n ≤ R.slots := by decide) : Go Z EL nw R Post K h S k n pc L (w :: st) :=
  G.retV hd (by rcases ref_cases hr with rfl | ⟨_, rfl⟩ <;> cases t <;> first | rfl | cases ht) (Or.inr (Or.inr (Or.inr (Or.inr ⟨rfl, ht, hr⟩)))) S' hS' hP hk hn
/-- boolean, byte, char, short -/
theorem Good.nret {t : FieldType} (G : Good Z a0 EL K own code maxL (some t) nm) {z z' : Int32} (hd : Dc code pc .ireturn 1 pc') (ht : t = .boolean ∨ t = .byte ∨ t = .char ∨ t = .short) (hz : nar t z = z') (S' : List Addr) (hS' : ∀ x ∈ S', x ∈ S) (hP : Post (some (.int z')) h S') (hk : k ≤ R.cells := by decide) (hn : n ≤ R.slots := by decide) : Go Z EL nw R Post K h S k n pc L (.int z :: st) :=
  G.leave (fun z => by cases z) hk hn S' hS' hP fun T vm0 locs fs X hr => retN X G.1 G.2.2.2.1 ht (hb G.2.1 hd.1) (by rw [hz]; exact hr)
end Rules
end Jvm.Own
namespace Jvm.Own
open Jvm Jvm.ClassFile Sem Op Lib Jvm.Free Jvm.Stand Jvm.LawKit Jvm.RoadKit Bundle
/-- a branch's decode fact, with both places -/
def Dj (code : ByteArray) (pc : Nat) (i : Int → Instr) (pc' pcY : Nat) : Prop := ∃ o : Int, decode code pc = .ok (i o, 3) ∧ pc + 3 = pc' ∧ 0 ≤ (pc : Int) + o ∧ ((pc : Int) + o).toNat = pcY
section Plain
variable {Z : State} {a0 : Array Value} {EL : List (String × Nat)} {nw : Bool} {R : Room} {Post : Pst} {K : Kx} {own : String} {code : ByteArray} {maxL : Nat} {ret : Option FieldType} {nm : String} {h : Heap} {S : List Addr} {k n pc pc' pcY : Nat} {L : List Slot} {st : List Value}
theorem Good.aloadN (G : Good Z a0 EL K own code maxL ret nm) {j : Fin 4} {v : Value} (hd : Dc code pc (.aload_n j) 1 pc') (hl : L[j.val]? = some (.val v)) (hv : v.isRef = true) (f : Go Z EL nw R Post K h S k n pc' L (v :: st)) : Go Z EL nw R Post K h S k n pc L st := by
  obtain ⟨hd, rfl⟩ := hd
  exact Go.plain (fun T t X q => XS.aloadN X G.1 rfl (hb G.2.1 hd) (by simpa using hl) hv q) f
theorem Good.aload (G : Good Z a0 EL K own code maxL ret nm) {j : Nat} {v : Value} (hd : Dc code pc (.aload j) 2 pc') (hl : L[j]? = some (.val v)) (hv : v.isRef = true) (f : Go Z EL nw R Post K h S k n pc' L (v :: st)) : Go Z EL nw R Post K h S k n pc L st := by
  obtain ⟨hd, rfl⟩ := hd
  exact Go.plain (fun T t X q => XS.aload X G.1 rfl (hb G.2.1 hd) (by simpa using hl) hv q) f
theorem Good.iloadN (G : Good Z a0 EL K own code maxL ret nm) {j : Fin 4} {v : Int32} (hd : Dc code pc (.iload_n j) 1 pc') (hl : L[j.val]? = some (.val (.int v))) (f : Go Z EL nw R Post K h S k n pc' L (.int v :: st)) : Go Z EL nw R Post K h S k n pc L st := by
  obtain ⟨hd, rfl⟩ := hd
  exact Go.plain (fun T t X q => XS.iloadN X G.1 rfl (hb G.2.1 hd) (by simpa using hl) q) f
theorem Good.iload (G : Good Z a0 EL K own code maxL ret nm) {j : Nat} {v : Int32} (hd : Dc code pc (.iload j) 2 pc') (hl : L[j]? = some (.val (.int v))) (f : Go Z EL nw R Post K h S k n pc' L (.int v :: st)) : Go Z EL nw R Post K h S k n pc L st := by
  obtain ⟨hd, rfl⟩ := hd
  exact Go.plain (fun T t X q => XS.iload X G.1 rfl (hb G.2.1 hd) (by simpa using hl) q) f
theorem Good.lloadN (G : Good Z a0 EL K own code maxL ret nm) {j : Fin 4} {v : Int64} (hd : Dc code pc (.lload_n j) 1 pc') (hl : L[j.val]? = some (.val (.long v))) (f : Go Z EL nw R Post K h S k n pc' L (.long v :: st)) : Go Z EL nw R Post K h S k n pc L st := by
  obtain ⟨hd, rfl⟩ := hd
  exact Go.plain (fun T t X q => XS.lloadN X G.1 rfl (hb G.2.1 hd) (by simpa using hl) q) f
theorem Good.lload (G : Good Z a0 EL K own code maxL ret nm) {j : Nat} {v : Int64} (hd : Dc code pc (.lload j) 2 pc') (hl : L[j]? = some (.val (.long v))) (f : Go Z EL nw R Post K h S k n pc' L (.long v :: st)) : Go Z EL nw R Post K h S k n pc L st := by
  obtain ⟨hd, rfl⟩ := hd
  exact Go.plain (fun T t X q => XS.lload X G.1 rfl (hb G.2.1 hd) (by simpa using hl) q) f
theorem Good.iconst (G : Good Z a0 EL K own code maxL ret nm) (z : Int32) {i : Int} (hd : Dc code pc (.iconst i) 1 pc')  (f : Go Z EL nw R Post K h S k n pc' L (.int z :: st)) (hz : Int32.ofInt i = z := by decide) : Go Z EL nw R Post K h S k n pc L st := by
  obtain ⟨hd, rfl⟩ := hd
  exact Go.plain (fun T t X q => XS.iconst X G.1 rfl (hb G.2.1 hd) (by rw [hz]; exact q)) f
theorem Good.bipush (G : Good Z a0 EL K own code maxL ret nm) (z : Int32) {i : Int} (hd : Dc code pc (.bipush i) 2 pc')  (f : Go Z EL nw R Post K h S k n pc' L (.int z :: st)) (hz : (Int8.ofInt i).toInt32 = z := by decide) : Go Z EL nw R Post K h S k n pc L st := by
  obtain ⟨hd, rfl⟩ := hd
  exact Go.plain (fun T t X q => XS.bipush X G.1 rfl (hb G.2.1 hd) (by rw [hz]; exact q)) f
theorem Good.sipush (G : Good Z a0 EL K own code maxL ret nm) (z : Int32) {i : Int} (hd : Dc code pc (.sipush i) 3 pc')  (f : Go Z EL nw R Post K h S k n pc' L (.int z :: st)) (hz : (Int16.ofInt i).toInt32 = z := by decide) : Go Z EL nw R Post K h S k n pc L st := by
  obtain ⟨hd, rfl⟩ := hd
  exact Go.plain (fun T t X q => XS.sipush X G.1 rfl (hb G.2.1 hd) (by rw [hz]; exact q)) f
theorem Good.lconst (G : Good Z a0 EL K own code maxL ret nm) (z : Int64) {i : Fin 2} (hd : Dc code pc (.lconst i) 1 pc')  (f : Go Z EL nw R Post K h S k n pc' L (.long z :: st)) (hz : Int64.ofNat i = z := by decide) : Go Z EL nw R Post K h S k n pc L st := by
  obtain ⟨hd, rfl⟩ := hd
  exact Go.plain (fun T t X q => XS.lconst X G.1 rfl (hb G.2.1 hd) (by rw [hz]; exact q)) f
theorem Good.aconstNull (G : Good Z a0 EL K own code maxL ret nm)  (hd : Dc code pc .aconst_null 1 pc')  (f : Go Z EL nw R Post K h S k n pc' L (.null :: st)) : Go Z EL nw R Post K h S k n pc L st := by
  obtain ⟨hd, rfl⟩ := hd
  exact Go.plain (fun T t X q => XS.aconstNull X G.1 rfl (hb G.2.1 hd)  q) f
theorem Good.iadd (G : Good Z a0 EL K own code maxL ret nm) {x y : Int32} (hd : Dc code pc .iadd 1 pc')  (f : Go Z EL nw R Post K h S k n pc' L (.int (x + y) :: st)) : Go Z EL nw R Post K h S k n pc L (.int y :: .int x :: st) := by
  obtain ⟨hd, rfl⟩ := hd
  exact Go.plain (fun T t X q => XS.iadd X G.1 rfl (hb G.2.1 hd) rfl q) f
theorem Good.isub (G : Good Z a0 EL K own code maxL ret nm) {x y : Int32} (hd : Dc code pc .isub 1 pc')  (f : Go Z EL nw R Post K h S k n pc' L (.int (x - y) :: st)) : Go Z EL nw R Post K h S k n pc L (.int y :: .int x :: st) := by
  obtain ⟨hd, rfl⟩ := hd
  exact Go.plain (fun T t X q => XS.isub X G.1 rfl (hb G.2.1 hd) rfl q) f
theorem Good.imul (G : Good Z a0 EL K own code maxL ret nm) {x y : Int32} (hd : Dc code pc .imul 1 pc')  (f : Go Z EL nw R Post K h S k n pc' L (.int (x * y) :: st)) : Go Z EL nw R Post K h S k n pc L (.int y :: .int x :: st) := by
  obtain ⟨hd, rfl⟩ := hd
  exact Go.plain (fun T t X q => XS.imul X G.1 rfl (hb G.2.1 hd) rfl q) f
theorem Good.iand (G : Good Z a0 EL K own code maxL ret nm) {x y : Int32} (hd : Dc code pc .iand 1 pc')  (f : Go Z EL nw R Post K h S k n pc' L (.int (x &&& y) :: st)) : Go Z EL nw R Post K h S k n pc L (.int y :: .int x :: st) := by
  obtain ⟨hd, rfl⟩ := hd
  exact Go.plain (fun T t X q => XS.iand X G.1 rfl (hb G.2.1 hd) rfl q) f
theorem Good.ior (G : Good Z a0 EL K own code maxL ret nm) {x y : Int32} (hd : Dc code pc .ior 1 pc')  (f : Go Z EL nw R Post K h S k n pc' L (.int (x ||| y) :: st)) : Go Z EL nw R Post K h S k n pc L (.int y :: .int x :: st) := by
  obtain ⟨hd, rfl⟩ := hd
  exact Go.plain (fun T t X q => XS.ior X G.1 rfl (hb G.2.1 hd) rfl q) f
theorem Good.ixor (G : Good Z a0 EL K own code maxL ret nm) {x y : Int32} (hd : Dc code pc .ixor 1 pc')  (f : Go Z EL nw R Post K h S k n pc' L (.int (x ^^^ y) :: st)) : Go Z EL nw R Post K h S k n pc L (.int y :: .int x :: st) := by
  obtain ⟨hd, rfl⟩ := hd
  exact Go.plain (fun T t X q => XS.ixor X G.1 rfl (hb G.2.1 hd) rfl q) f
theorem Good.ishl (G : Good Z a0 EL K own code maxL ret nm) {x y : Int32} (hd : Dc code pc .ishl 1 pc')  (f : Go Z EL nw R Post K h S k n pc' L (.int (x <<< (y &&& 31)) :: st)) : Go Z EL nw R Post K h S k n pc L (.int y :: .int x :: st) := by
  obtain ⟨hd, rfl⟩ := hd
  exact Go.plain (fun T t X q => XS.ishl X G.1 rfl (hb G.2.1 hd) rfl q) f
theorem Good.ishr (G : Good Z a0 EL K own code maxL ret nm) {x y : Int32} (hd : Dc code pc .ishr 1 pc')  (f : Go Z EL nw R Post K h S k n pc' L (.int (x >>> (y &&& 31)) :: st)) : Go Z EL nw R Post K h S k n pc L (.int y :: .int x :: st) := by
  obtain ⟨hd, rfl⟩ := hd
  exact Go.plain (fun T t X q => XS.ishr X G.1 rfl (hb G.2.1 hd) rfl q) f
theorem Good.iushr (G : Good Z a0 EL K own code maxL ret nm) {x y : Int32} (hd : Dc code pc .iushr 1 pc')  (f : Go Z EL nw R Post K h S k n pc' L (.int ((x.toUInt32 >>> (y &&& 31).toUInt32).toInt32) :: st)) : Go Z EL nw R Post K h S k n pc L (.int y :: .int x :: st) := by
  obtain ⟨hd, rfl⟩ := hd
  exact Go.plain (fun T t X q => XS.iushr X G.1 rfl (hb G.2.1 hd) rfl q) f
theorem Good.idiv (G : Good Z a0 EL K own code maxL ret nm) {x y : Int32} (hd : Dc code pc .idiv 1 pc') (hy : y ≠ 0) (f : Go Z EL nw R Post K h S k n pc' L (.int (x / y) :: st)) : Go Z EL nw R Post K h S k n pc L (.int y :: .int x :: st) := by
  obtain ⟨hd, rfl⟩ := hd
  exact Go.plain (fun T t X q => XS.idiv X G.1 rfl (hb G.2.1 hd) rfl hy q) f
theorem Good.irem (G : Good Z a0 EL K own code maxL ret nm) {x y : Int32} (hd : Dc code pc .irem 1 pc') (hy : y ≠ 0) (f : Go Z EL nw R Post K h S k n pc' L (.int (x % y) :: st)) : Go Z EL nw R Post K h S k n pc L (.int y :: .int x :: st) := by
  obtain ⟨hd, rfl⟩ := hd
  exact Go.plain (fun T t X q => XS.irem X G.1 rfl (hb G.2.1 hd) rfl hy (by rw [show x - x / y * y = x % y from irem_eq_mod x y]; exact q)) f
theorem Good.ineg (G : Good Z a0 EL K own code maxL ret nm) {x : Int32} (hd : Dc code pc .ineg 1 pc')  (f : Go Z EL nw R Post K h S k n pc' L (.int (-x) :: st)) : Go Z EL nw R Post K h S k n pc L (.int x :: st) := by
  obtain ⟨hd, rfl⟩ := hd
  exact Go.plain (fun T t X q => XS.ineg X G.1 rfl (hb G.2.1 hd) rfl q) f
theorem Good.ladd (G : Good Z a0 EL K own code maxL ret nm) {x y : Int64} (hd : Dc code pc .ladd 1 pc')  (f : Go Z EL nw R Post K h S k n pc' L (.long (x + y) :: st)) : Go Z EL nw R Post K h S k n pc L (.long y :: .long x :: st) := by
  obtain ⟨hd, rfl⟩ := hd
  exact Go.plain (fun T t X q => XS.ladd X G.1 rfl (hb G.2.1 hd) rfl q) f
theorem Good.lsub (G : Good Z a0 EL K own code maxL ret nm) {x y : Int64} (hd : Dc code pc .lsub 1 pc')  (f : Go Z EL nw R Post K h S k n pc' L (.long (x - y) :: st)) : Go Z EL nw R Post K h S k n pc L (.long y :: .long x :: st) := by
  obtain ⟨hd, rfl⟩ := hd
  exact Go.plain (fun T t X q => XS.lsub X G.1 rfl (hb G.2.1 hd) rfl q) f
theorem Good.lmul (G : Good Z a0 EL K own code maxL ret nm) {x y : Int64} (hd : Dc code pc .lmul 1 pc')  (f : Go Z EL nw R Post K h S k n pc' L (.long (x * y) :: st)) : Go Z EL nw R Post K h S k n pc L (.long y :: .long x :: st) := by
  obtain ⟨hd, rfl⟩ := hd
  exact Go.plain (fun T t X q => XS.lmul X G.1 rfl (hb G.2.1 hd) rfl q) f
theorem Good.land (G : Good Z a0 EL K own code maxL ret nm) {x y : Int64} (hd : Dc code pc .land 1 pc')  (f : Go Z EL nw R Post K h S k n pc' L (.long (x &&& y) :: st)) : Go Z EL nw R Post K h S k n pc L (.long y :: .long x :: st) := by
  obtain ⟨hd, rfl⟩ := hd
  exact Go.plain (fun T t X q => XS.land X G.1 rfl (hb G.2.1 hd) rfl q) f
theorem Good.lor (G : Good Z a0 EL K own code maxL ret nm) {x y : Int64} (hd : Dc code pc .lor 1 pc')  (f : Go Z EL nw R Post K h S k n pc' L (.long (x ||| y) :: st)) : Go Z EL nw R Post K h S k n pc L (.long y :: .long x :: st) := by
  obtain ⟨hd, rfl⟩ := hd
  exact Go.plain (fun T t X q => XS.lor X G.1 rfl (hb G.2.1 hd) rfl q) f
theorem Good.lxor (G : Good Z a0 EL K own code maxL ret nm) {x y : Int64} (hd : Dc code pc .lxor 1 pc')  (f : Go Z EL nw R Post K h S k n pc' L (.long (x ^^^ y) :: st)) : Go Z EL nw R Post K h S k n pc L (.long y :: .long x :: st) := by
  obtain ⟨hd, rfl⟩ := hd
  exact Go.plain (fun T t X q => XS.lxor X G.1 rfl (hb G.2.1 hd) rfl q) f
theorem Good.lshl (G : Good Z a0 EL K own code maxL ret nm) {x : Int64} {y : Int32} (hd : Dc code pc .lshl 1 pc')  (f : Go Z EL nw R Post K h S k n pc' L (.long (x <<< (y &&& 0x3f).toInt64) :: st)) : Go Z EL nw R Post K h S k n pc L (.int y :: .long x :: st) := by
  obtain ⟨hd, rfl⟩ := hd
  exact Go.plain (fun T t X q => XS.lshl X G.1 rfl (hb G.2.1 hd) rfl q) f
theorem Good.lshr (G : Good Z a0 EL K own code maxL ret nm) {x : Int64} {y : Int32} (hd : Dc code pc .lshr 1 pc')  (f : Go Z EL nw R Post K h S k n pc' L (.long (x >>> (y &&& 0x3f).toInt64) :: st)) : Go Z EL nw R Post K h S k n pc L (.int y :: .long x :: st) := by
  obtain ⟨hd, rfl⟩ := hd
  exact Go.plain (fun T t X q => XS.lshr X G.1 rfl (hb G.2.1 hd) rfl q) f
theorem Good.lushr (G : Good Z a0 EL K own code maxL ret nm) {x : Int64} {y : Int32} (hd : Dc code pc .lushr 1 pc')  (f : Go Z EL nw R Post K h S k n pc' L (.long ((x.toUInt64 >>> (y &&& 0x3f).toInt64.toUInt64).toInt64) :: st)) : Go Z EL nw R Post K h S k n pc L (.int y :: .long x :: st) := by
  obtain ⟨hd, rfl⟩ := hd
  exact Go.plain (fun T t X q => XS.lushr X G.1 rfl (hb G.2.1 hd) rfl q) f
theorem Good.ldiv (G : Good Z a0 EL K own code maxL ret nm) {x y : Int64} (hd : Dc code pc .ldiv 1 pc') (hy : y ≠ 0) (f : Go Z EL nw R Post K h S k n pc' L (.long (x / y) :: st)) : Go Z EL nw R Post K h S k n pc L (.long y :: .long x :: st) := by
  obtain ⟨hd, rfl⟩ := hd
  exact Go.plain (fun T t X q => XS.ldiv X G.1 rfl (hb G.2.1 hd) rfl hy q) f
theorem Good.lneg (G : Good Z a0 EL K own code maxL ret nm) {x : Int64} (hd : Dc code pc .lneg 1 pc')  (f : Go Z EL nw R Post K h S k n pc' L (.long (-x) :: st)) : Go Z EL nw R Post K h S k n pc L (.long x :: st) := by
  obtain ⟨hd, rfl⟩ := hd
  exact Go.plain (fun T t X q => XS.lneg X G.1 rfl (hb G.2.1 hd) rfl q) f
theorem Good.i2b (G : Good Z a0 EL K own code maxL ret nm) {x : Int32} (hd : Dc code pc .i2b 1 pc')  (f : Go Z EL nw R Post K h S k n pc' L (.int (x.toInt8.toInt32) :: st)) : Go Z EL nw R Post K h S k n pc L (.int x :: st) := by
  obtain ⟨hd, rfl⟩ := hd
  exact Go.plain (fun T t X q => XS.i2b X G.1 rfl (hb G.2.1 hd) rfl q) f
theorem Good.i2c (G : Good Z a0 EL K own code maxL ret nm) {x : Int32} (hd : Dc code pc .i2c 1 pc')  (f : Go Z EL nw R Post K h S k n pc' L (.int (x.toUInt32.toUInt16.toUInt32.toInt32) :: st)) : Go Z EL nw R Post K h S k n pc L (.int x :: st) := by
  obtain ⟨hd, rfl⟩ := hd
  exact Go.plain (fun T t X q => XS.i2c X G.1 rfl (hb G.2.1 hd) rfl q) f
theorem Good.i2s (G : Good Z a0 EL K own code maxL ret nm) {x : Int32} (hd : Dc code pc .i2s 1 pc')  (f : Go Z EL nw R Post K h S k n pc' L (.int (x.toInt16.toInt32) :: st)) : Go Z EL nw R Post K h S k n pc L (.int x :: st) := by
  obtain ⟨hd, rfl⟩ := hd
  exact Go.plain (fun T t X q => XS.i2s X G.1 rfl (hb G.2.1 hd) rfl q) f
theorem Good.i2l (G : Good Z a0 EL K own code maxL ret nm) {x : Int32} (hd : Dc code pc .i2l 1 pc')  (f : Go Z EL nw R Post K h S k n pc' L (.long (x.toInt64) :: st)) : Go Z EL nw R Post K h S k n pc L (.int x :: st) := by
  obtain ⟨hd, rfl⟩ := hd
  exact Go.plain (fun T t X q => XS.i2l X G.1 rfl (hb G.2.1 hd) rfl q) f
theorem Good.l2i (G : Good Z a0 EL K own code maxL ret nm) {x : Int64} (hd : Dc code pc .l2i 1 pc')  (f : Go Z EL nw R Post K h S k n pc' L (.int (x.toInt32) :: st)) : Go Z EL nw R Post K h S k n pc L (.long x :: st) := by
  obtain ⟨hd, rfl⟩ := hd
  exact Go.plain (fun T t X q => XS.l2i X G.1 rfl (hb G.2.1 hd) rfl q) f
theorem Good.lcmp (G : Good Z a0 EL K own code maxL ret nm) {x y : Int64} (hd : Dc code pc .lcmp 1 pc')  (f : Go Z EL nw R Post K h S k n pc' L (.int (lcmpW x y) :: st)) : Go Z EL nw R Post K h S k n pc L (.long y :: .long x :: st) := by
  obtain ⟨hd, rfl⟩ := hd
  exact Go.plain (fun T t X q => XS.lcmp X G.1 rfl (hb G.2.1 hd) rfl q) f
theorem Good.dup (G : Good Z a0 EL K own code maxL ret nm) {x : Value} (hd : Dc code pc .dup 1 pc')  (f : Go Z EL nw R Post K h S k n pc' L (x :: x :: st)) (hc : x.category = 1 := by rfl) : Go Z EL nw R Post K h S k n pc L (x :: st) := by
  obtain ⟨hd, rfl⟩ := hd
  exact Go.plain (fun T t X q => XS.dup X G.1 rfl (hb G.2.1 hd) rfl hc q) f
theorem Good.pop (G : Good Z a0 EL K own code maxL ret nm) {x : Value} (hd : Dc code pc .pop 1 pc')  (f : Go Z EL nw R Post K h S k n pc' L st) (hc : x.category = 1 := by rfl) : Go Z EL nw R Post K h S k n pc L (x :: st) := by
  obtain ⟨hd, rfl⟩ := hd
  exact Go.plain (fun T t X q => XS.pop X G.1 rfl (hb G.2.1 hd) rfl hc q) f
theorem Good.dupX1 (G : Good Z a0 EL K own code maxL ret nm) {x y : Value} (hd : Dc code pc .dup_x1 1 pc')  (f : Go Z EL nw R Post K h S k n pc' L (x :: y :: x :: st)) (hc : x.category = 1 := by rfl) (hc2 : y.category = 1 := by rfl) : Go Z EL nw R Post K h S k n pc L (x :: y :: st) := by
  obtain ⟨hd, rfl⟩ := hd
  exact Go.plain (fun T t X q => XS.dupX1 X G.1 rfl (hb G.2.1 hd) rfl hc hc2 q) f
theorem Good.swap (G : Good Z a0 EL K own code maxL ret nm) {x y : Value} (hd : Dc code pc .swap 1 pc')  (f : Go Z EL nw R Post K h S k n pc' L (y :: x :: st)) (hc : x.category = 1 := by rfl) (hc2 : y.category = 1 := by rfl) : Go Z EL nw R Post K h S k n pc L (x :: y :: st) := by
  obtain ⟨hd, rfl⟩ := hd
  exact Go.plain (fun T t X q => XS.swap X G.1 rfl (hb G.2.1 hd) rfl hc hc2 q) f
theorem Good.pop2L (G : Good Z a0 EL K own code maxL ret nm) {x : Int64} (hd : Dc code pc .pop2 1 pc') (f : Go Z EL nw R Post K h S k n pc' L st) : Go Z EL nw R Post K h S k n pc L (.long x :: st) := by
  obtain ⟨hd, rfl⟩ := hd
  refine Go.plain (fun T t X q => ?_) f
  have hd' := hb G.2.1 hd
  have hx := G.1
  jvm_step X [X.top, hx, hd', Value.category]
  exact q
theorem Good.dup2I (G : Good Z a0 EL K own code maxL ret nm) {x y : Value} (hd : Dc code pc .dup2 1 pc') (f : Go Z EL nw R Post K h S k n pc' L (x :: y :: x :: y :: st)) (hc : x.category = 1 := by rfl) (hc2 : y.category = 1 := by rfl) : Go Z EL nw R Post K h S k n pc L (x :: y :: st) := by
  obtain ⟨hd, rfl⟩ := hd
  exact Go.plain (fun T t X q => XT.dup2 X G.1 rfl (hb G.2.1 hd) rfl hc hc2 q) f
theorem Good.goto (G : Good Z a0 EL K own code maxL ret nm) (hd : Dj code pc .goto pc' pcY) (f : Go Z EL nw R Post K h S k n pcY L st) : Go Z EL nw R Post K h S k n pc L st := by
  obtain ⟨o, hd, rfl, ho, hp⟩ := hd
  exact Go.plain (fun T t X q => XS.goto X G.1 rfl (pc0 := pc) rfl (hb G.2.1 hd) ho hp q) f
theorem Good.icmp (G : Good Z a0 EL K own code maxL ret nm) {cd : ClassFile.Cond} {x y : Int32} (hd : Dj code pc (.if_icmp cd) pc' pcY) (fY : if_icmp.holds cd x y = true → Go Z EL nw R Post K h S k n pcY L st) (fN : if_icmp.holds cd x y = false → Go Z EL nw R Post K h S k n pc' L st) : Go Z EL nw R Post K h S k n pc L (.int y :: .int x :: st) := by
  obtain ⟨o, hd, rfl, ho, hp⟩ := hd
  cases hc : if_icmp.holds cd x y
  · exact Go.plain (fun T t X q => XS.icmpNo X G.1 rfl (hb G.2.1 hd) rfl hc q) (fN hc)
  · exact Go.plain (fun T t X q => XS.icmpYes X G.1 rfl (pc0 := pc) rfl (hb G.2.1 hd) rfl hc ho hp q) (fY hc)
theorem Good.ifc (G : Good Z a0 EL K own code maxL ret nm) {cd : ClassFile.Cond} {x : Int32} (hd : Dj code pc (.ifCond cd) pc' pcY) (fY : if_icmp.holds cd x 0 = true → Go Z EL nw R Post K h S k n pcY L st) (fN : if_icmp.holds cd x 0 = false → Go Z EL nw R Post K h S k n pc' L st) : Go Z EL nw R Post K h S k n pc L (.int x :: st) := by
  obtain ⟨o, hd, rfl, ho, hp⟩ := hd
  cases hc : if_icmp.holds cd x 0
  · exact Go.plain (fun T t X q => XS.ifNo X G.1 rfl (hb G.2.1 hd) rfl ((if0 _ _).trans hc) q) (fN hc)
  · exact Go.plain (fun T t X q => XS.ifYes X G.1 rfl (pc0 := pc) rfl (hb G.2.1 hd) rfl ((if0 _ _).trans hc) ho hp q) (fY hc)
theorem hold_lt {x y : Int32} : (if_icmp.holds .lt x y = true → x < y) ∧ (if_icmp.holds .lt x y = false → ¬ x < y) := ⟨fun q => (by by_cases z : x < y; exact z; rw [(flt z).1] at q; cases q), fun q z => by rw [(tlt z).1] at q; cases q⟩
theorem hold_ge {x y : Int32} : (if_icmp.holds .ge x y = true → ¬ x < y) ∧ (if_icmp.holds .ge x y = false → x < y) := ⟨fun q z => (by rw [(tlt z).2.1] at q; cases q), fun q => by by_cases z : x < y; exact z; rw [(flt z).2.1] at q; cases q⟩
theorem hold_gt {x y : Int32} : (if_icmp.holds .gt x y = true → y < x) ∧ (if_icmp.holds .gt x y = false → ¬ y < x) := ⟨fun q => (by by_cases z : y < x; exact z; rw [(flt z).2.2.1] at q; cases q), fun q z => by rw [(tlt z).2.2.1] at q; cases q⟩
theorem hold_le {x y : Int32} : (if_icmp.holds .le x y = true → ¬ y < x) ∧ (if_icmp.holds .le x y = false → y < x) := ⟨fun q z => (by rw [(tlt z).2.2.2] at q; cases q), fun q => by by_cases z : y < x; exact z; rw [(flt z).2.2.2] at q; cases q⟩
theorem hold_eq {x y : Int32} : (if_icmp.holds .eq x y = true → x = y) ∧ (if_icmp.holds .eq x y = false → ¬ x = y) := ⟨fun q => (by by_cases z : x = y; exact z; rw [(feq z).1] at q; cases q), fun q z => by rw [(teq z).1] at q; cases q⟩
theorem hold_ne {x y : Int32} : (if_icmp.holds .ne x y = true → ¬ x = y) ∧ (if_icmp.holds .ne x y = false → x = y) := ⟨fun q z => (by rw [(teq z).2] at q; cases q), fun q => by by_cases z : x = y; exact z; rw [(feq z).2] at q; cases q⟩
theorem Good.icmp_lt (G : Good Z a0 EL K own code maxL ret nm) {x y : Int32} (hd : Dj code pc (.if_icmp .lt) pc' pcY) (fY : x < y → Go Z EL nw R Post K h S k n pcY L st) (fN : ¬ x < y → Go Z EL nw R Post K h S k n pc' L st) : Go Z EL nw R Post K h S k n pc L (.int y :: .int x :: st) := G.icmp hd (fun q => fY (hold_lt.1 q)) (fun q => fN (hold_lt.2 q))
theorem Good.if_lt (G : Good Z a0 EL K own code maxL ret nm) {x : Int32} (hd : Dj code pc (.ifCond .lt) pc' pcY) (fY : x < 0 → Go Z EL nw R Post K h S k n pcY L st) (fN : ¬ x < 0 → Go Z EL nw R Post K h S k n pc' L st) : Go Z EL nw R Post K h S k n pc L (.int x :: st) := G.ifc hd (fun q => fY (hold_lt.1 q)) (fun q => fN (hold_lt.2 q))
theorem Good.icmp_ge (G : Good Z a0 EL K own code maxL ret nm) {x y : Int32} (hd : Dj code pc (.if_icmp .ge) pc' pcY) (fY : ¬ x < y → Go Z EL nw R Post K h S k n pcY L st) (fN : x < y → Go Z EL nw R Post K h S k n pc' L st) : Go Z EL nw R Post K h S k n pc L (.int y :: .int x :: st) := G.icmp hd (fun q => fY (hold_ge.1 q)) (fun q => fN (hold_ge.2 q))
theorem Good.if_ge (G : Good Z a0 EL K own code maxL ret nm) {x : Int32} (hd : Dj code pc (.ifCond .ge) pc' pcY) (fY : ¬ x < 0 → Go Z EL nw R Post K h S k n pcY L st) (fN : x < 0 → Go Z EL nw R Post K h S k n pc' L st) : Go Z EL nw R Post K h S k n pc L (.int x :: st) := G.ifc hd (fun q => fY (hold_ge.1 q)) (fun q => fN (hold_ge.2 q))
theorem Good.icmp_gt (G : Good Z a0 EL K own code maxL ret nm) {x y : Int32} (hd : Dj code pc (.if_icmp .gt) pc' pcY) (fY : y < x → Go Z EL nw R Post K h S k n pcY L st) (fN : ¬ y < x → Go Z EL nw R Post K h S k n pc' L st) : Go Z EL nw R Post K h S k n pc L (.int y :: .int x :: st) := G.icmp hd (fun q => fY (hold_gt.1 q)) (fun q => fN (hold_gt.2 q))
theorem Good.if_gt (G : Good Z a0 EL K own code maxL ret nm) {x : Int32} (hd : Dj code pc (.ifCond .gt) pc' pcY) (fY : 0 < x → Go Z EL nw R Post K h S k n pcY L st) (fN : ¬ 0 < x → Go Z EL nw R Post K h S k n pc' L st) : Go Z EL nw R Post K h S k n pc L (.int x :: st) := G.ifc hd (fun q => fY (hold_gt.1 q)) (fun q => fN (hold_gt.2 q))
theorem Good.icmp_le (G : Good Z a0 EL K own code maxL ret nm) {x y : Int32} (hd : Dj code pc (.if_icmp .le) pc' pcY) (fY : ¬ y < x → Go Z EL nw R Post K h S k n pcY L st) (fN : y < x → Go Z EL nw R Post K h S k n pc' L st) : Go Z EL nw R Post K h S k n pc L (.int y :: .int x :: st) := G.icmp hd (fun q => fY (hold_le.1 q)) (fun q => fN (hold_le.2 q))
theorem Good.if_le (G : Good Z a0 EL K own code maxL ret nm) {x : Int32} (hd : Dj code pc (.ifCond .le) pc' pcY) (fY : ¬ 0 < x → Go Z EL nw R Post K h S k n pcY L st) (fN : 0 < x → Go Z EL nw R Post K h S k n pc' L st) : Go Z EL nw R Post K h S k n pc L (.int x :: st) := G.ifc hd (fun q => fY (hold_le.1 q)) (fun q => fN (hold_le.2 q))
theorem Good.icmp_eq (G : Good Z a0 EL K own code maxL ret nm) {x y : Int32} (hd : Dj code pc (.if_icmp .eq) pc' pcY) (fY : x = y → Go Z EL nw R Post K h S k n pcY L st) (fN : ¬ x = y → Go Z EL nw R Post K h S k n pc' L st) : Go Z EL nw R Post K h S k n pc L (.int y :: .int x :: st) := G.icmp hd (fun q => fY (hold_eq.1 q)) (fun q => fN (hold_eq.2 q))
theorem Good.if_eq (G : Good Z a0 EL K own code maxL ret nm) {x : Int32} (hd : Dj code pc (.ifCond .eq) pc' pcY) (fY : x = 0 → Go Z EL nw R Post K h S k n pcY L st) (fN : ¬ x = 0 → Go Z EL nw R Post K h S k n pc' L st) : Go Z EL nw R Post K h S k n pc L (.int x :: st) := G.ifc hd (fun q => fY (hold_eq.1 q)) (fun q => fN (hold_eq.2 q))
theorem Good.icmp_ne (G : Good Z a0 EL K own code maxL ret nm) {x y : Int32} (hd : Dj code pc (.if_icmp .ne) pc' pcY) (fY : ¬ x = y → Go Z EL nw R Post K h S k n pcY L st) (fN : x = y → Go Z EL nw R Post K h S k n pc' L st) : Go Z EL nw R Post K h S k n pc L (.int y :: .int x :: st) := G.icmp hd (fun q => fY (hold_ne.1 q)) (fun q => fN (hold_ne.2 q))
theorem Good.if_ne (G : Good Z a0 EL K own code maxL ret nm) {x : Int32} (hd : Dj code pc (.ifCond .ne) pc' pcY) (fY : ¬ x = 0 → Go Z EL nw R Post K h S k n pcY L st) (fN : x = 0 → Go Z EL nw R Post K h S k n pc' L st) : Go Z EL nw R Post K h S k n pc L (.int x :: st) := G.ifc hd (fun q => fY (hold_ne.1 q)) (fun q => fN (hold_ne.2 q))
theorem Good.ifnullR (G : Good Z a0 EL K own code maxL ret nm) {b : Addr} (hd : Dj code pc .ifnull pc' pcY) (f : Go Z EL nw R Post K h S k n pc' L st) : Go Z EL nw R Post K h S k n pc L (.ref b :: st) := by
  obtain ⟨o, hd, rfl, ho, hp⟩ := hd
  exact Go.plain (fun T t X q => XS.ifnullNo X G.1 rfl (hb G.2.1 hd) rfl q) f
theorem Good.ifnullN (G : Good Z a0 EL K own code maxL ret nm) (hd : Dj code pc .ifnull pc' pcY) (f : Go Z EL nw R Post K h S k n pcY L st) : Go Z EL nw R Post K h S k n pc L (.null :: st) := by
  obtain ⟨o, hd, rfl, ho, hp⟩ := hd
  exact Go.plain (fun T t X q => XS.ifnullYes X G.1 rfl (pc0 := pc) rfl (hb G.2.1 hd) rfl ho hp q) f
theorem Good.ifnonnullR (G : Good Z a0 EL K own code maxL ret nm) {b : Addr} (hd : Dj code pc .ifnonnull pc' pcY) (f : Go Z EL nw R Post K h S k n pcY L st) : Go Z EL nw R Post K h S k n pc L (.ref b :: st) := by
  obtain ⟨o, hd, rfl, ho, hp⟩ := hd
  exact Go.plain (fun T t X q => XS.ifnonnullYes X G.1 rfl (pc0 := pc) rfl (hb G.2.1 hd) rfl ho hp q) f
theorem Good.ifnonnullN (G : Good Z a0 EL K own code maxL ret nm) (hd : Dj code pc .ifnonnull pc' pcY) (f : Go Z EL nw R Post K h S k n pc' L st) : Go Z EL nw R Post K h S k n pc L (.null :: st) := by
  obtain ⟨o, hd, rfl, ho, hp⟩ := hd
  exact Go.plain (fun T t X q => XS.ifnonnullNo X G.1 rfl (hb G.2.1 hd) rfl q) f
theorem Good.acmp_eq (G : Good Z a0 EL K own code maxL ret nm) {x y : Value} (hd : Dj code pc (.if_acmp .eq) pc' pcY) (fY : x = y → Go Z EL nw R Post K h S k n pcY L st) (fN : ¬ x = y → Go Z EL nw R Post K h S k n pc' L st) (hx' : x.isRef = true := by rfl) (hy' : y.isRef = true := by rfl) : Go Z EL nw R Post K h S k n pc L (y :: x :: st) := by
  obtain ⟨o, hd, rfl, ho, hp⟩ := hd
  by_cases z : x = y
  · exact Go.plain (fun T t X q => XT.acmpYes X G.1 rfl (pc0 := pc) rfl (hb G.2.1 hd) rfl hx' hy' (by simp [XT.acmp, z]) ho hp q) (fY z)
  · exact Go.plain (fun T t X q => XT.acmpNo X G.1 rfl (hb G.2.1 hd) rfl hx' hy' (by simp [XT.acmp, z]) q) (fN z)
theorem Good.acmp_ne (G : Good Z a0 EL K own code maxL ret nm) {x y : Value} (hd : Dj code pc (.if_acmp .ne) pc' pcY) (fY : ¬ x = y → Go Z EL nw R Post K h S k n pcY L st) (fN : x = y → Go Z EL nw R Post K h S k n pc' L st) (hx' : x.isRef = true := by rfl) (hy' : y.isRef = true := by rfl) : Go Z EL nw R Post K h S k n pc L (y :: x :: st) := by
  obtain ⟨o, hd, rfl, ho, hp⟩ := hd
  by_cases z : x = y
  · exact Go.plain (fun T t X q => XT.acmpNo X G.1 rfl (hb G.2.1 hd) rfl hx' hy' (by simp [XT.acmp, z]) q) (fN z)
  · exact Go.plain (fun T t X q => XT.acmpYes X G.1 rfl (pc0 := pc) rfl (hb G.2.1 hd) rfl hx' hy' (by simp [XT.acmp, z]) ho hp q) (fY z)
theorem Good.istoreG (G : Good Z a0 EL K own code maxL ret nm) {L' : List Slot} {j : Nat} {x : Int32} (hd : Dc code pc (.istore j) 2 pc') (hl : storeLocals L.toArray j (.int x) = some L'.toArray) (f : Go Z EL nw R Post K h S k n pc' L' st) : Go Z EL nw R Post K h S k n pc L (.int x :: st) := by
  obtain ⟨hd, rfl⟩ := hd
  exact Go.plain (fun T t X q => XS.istore X G.1 rfl (hb G.2.1 hd) rfl hl q) f
theorem Good.istoreNG (G : Good Z a0 EL K own code maxL ret nm) {L' : List Slot} {j : Fin 4} {x : Int32} (hd : Dc code pc (.istore_n j) 1 pc') (hl : storeLocals L.toArray j.val (.int x) = some L'.toArray) (f : Go Z EL nw R Post K h S k n pc' L' st) : Go Z EL nw R Post K h S k n pc L (.int x :: st) := by
  obtain ⟨hd, rfl⟩ := hd
  exact Go.plain (fun T t X q => XS.istoreN X G.1 rfl (hb G.2.1 hd) rfl hl q) f
theorem Good.astoreG (G : Good Z a0 EL K own code maxL ret nm) {L' : List Slot} {j : Nat} {x : Value} (hd : Dc code pc (.astore j) 2 pc') (hv : x.isRef = true) (hl : storeLocals L.toArray j x = some L'.toArray) (f : Go Z EL nw R Post K h S k n pc' L' st) : Go Z EL nw R Post K h S k n pc L (x :: st) := by
  obtain ⟨hd, rfl⟩ := hd
  exact Go.plain (fun T t X q => XS.astore X G.1 rfl (hb G.2.1 hd) rfl hv hl q) f
theorem Good.astoreNG (G : Good Z a0 EL K own code maxL ret nm) {L' : List Slot} {j : Fin 4} {x : Value} (hd : Dc code pc (.astore_n j) 1 pc') (hv : x.isRef = true) (hl : storeLocals L.toArray j.val x = some L'.toArray) (f : Go Z EL nw R Post K h S k n pc' L' st) : Go Z EL nw R Post K h S k n pc L (x :: st) := by
  obtain ⟨hd, rfl⟩ := hd
  exact Go.plain (fun T t X q => XS.astoreN X G.1 rfl (hb G.2.1 hd) rfl hv hl q) f
theorem Good.lstoreG (G : Good Z a0 EL K own code maxL ret nm) {L' : List Slot} {j : Nat} {x : Int64} (hd : Dc code pc (.lstore j) 2 pc') (hl : storeLocals L.toArray j (.long x) = some L'.toArray) (f : Go Z EL nw R Post K h S k n pc' L' st) : Go Z EL nw R Post K h S k n pc L (.long x :: st) := by
  obtain ⟨hd, rfl⟩ := hd
  exact Go.plain (fun T t X q => XS.lstore X G.1 rfl (hb G.2.1 hd) rfl hl q) f
theorem Good.lstoreNG (G : Good Z a0 EL K own code maxL ret nm) {L' : List Slot} {j : Fin 4} {x : Int64} (hd : Dc code pc (.lstore_n j) 1 pc') (hl : storeLocals L.toArray j.val (.long x) = some L'.toArray) (f : Go Z EL nw R Post K h S k n pc' L' st) : Go Z EL nw R Post K h S k n pc L (.long x :: st) := by
  obtain ⟨hd, rfl⟩ := hd
  exact Go.plain (fun T t X q => XS.lstoreN X G.1 rfl (hb G.2.1 hd) rfl hl q) f
theorem Good.iincG (G : Good Z a0 EL K own code maxL ret nm) {L' : List Slot} {j : Nat} {c : Int} {x : Int32} (hd : Dc code pc (.iinc j c) 3 pc') (hx : L[j]? = some (.val (.int x))) (hl : storeLocals L.toArray j (.int (x + Int32.ofInt c)) = some L'.toArray) (f : Go Z EL nw R Post K h S k n pc' L' st) : Go Z EL nw R Post K h S k n pc L st := by
  obtain ⟨hd, rfl⟩ := hd
  exact Go.plain (fun T t X q => XS.iinc X G.1 rfl (hb G.2.1 hd) (by simpa using hx) hl q) f
theorem Good.istore0 (G : Good Z a0 EL K own code maxL ret nm) {x0 : Slot} {r : List Slot} {x : Int32} (hd : Dc code pc (.istore_n 0) 1 pc') (f : Go Z EL nw R Post K h S k n pc' (.val (.int x) :: r) st) (hl : storeLocals (x0 :: r).toArray 0 (.int x) = some (.val (.int x) :: r).toArray := by rfl) : Go Z EL nw R Post K h S k n pc (x0 :: r) (.int x :: st) := G.istoreNG hd hl f
theorem Good.astore0 (G : Good Z a0 EL K own code maxL ret nm) {x0 : Slot} {r : List Slot} {x : Value} (hd : Dc code pc (.astore_n 0) 1 pc') (f : Go Z EL nw R Post K h S k n pc' (.val x :: r) st) (hv : x.isRef = true := by rfl) (hl : storeLocals (x0 :: r).toArray 0 x = some (.val x :: r).toArray := by rfl) : Go Z EL nw R Post K h S k n pc (x0 :: r) (x :: st) := G.astoreNG hd hv hl f
theorem Good.lstore0 (G : Good Z a0 EL K own code maxL ret nm) {x0 y : Slot} {r : List Slot} {x : Int64} (hd : Dc code pc (.lstore_n 0) 1 pc') (f : Go Z EL nw R Post K h S k n pc' (.val (.long x) :: .second :: r) st) (hl : storeLocals (x0 :: y :: r).toArray 0 (.long x) = some (.val (.long x) :: .second :: r).toArray := by rfl) : Go Z EL nw R Post K h S k n pc (x0 :: y :: r) (.long x :: st) := G.lstoreNG hd hl f
theorem Good.iinc0 (G : Good Z a0 EL K own code maxL ret nm) (z : Int32) {r : List Slot} {c : Int} {x : Int32} (hd : Dc code pc (.iinc 0 c) 3 pc') (f : Go Z EL nw R Post K h S k n pc' (.val (.int (x + z)) :: r) st) (hz : Int32.ofInt c = z := by decide) : Go Z EL nw R Post K h S k n pc (.val (.int x) :: r) st := by subst hz; exact G.iincG hd rfl rfl f
theorem Good.istore1 (G : Good Z a0 EL K own code maxL ret nm) {x0 x1 : Slot} {r : List Slot} {x : Int32} (hd : Dc code pc (.istore_n 1) 1 pc') (f : Go Z EL nw R Post K h S k n pc' (x0 :: .val (.int x) :: r) st) (hl : storeLocals (x0 :: x1 :: r).toArray 1 (.int x) = some (x0 :: .val (.int x) :: r).toArray := by rfl) : Go Z EL nw R Post K h S k n pc (x0 :: x1 :: r) (.int x :: st) := G.istoreNG hd hl f
theorem Good.astore1 (G : Good Z a0 EL K own code maxL ret nm) {x0 x1 : Slot} {r : List Slot} {x : Value} (hd : Dc code pc (.astore_n 1) 1 pc') (f : Go Z EL nw R Post K h S k n pc' (x0 :: .val x :: r) st) (hv : x.isRef = true := by rfl) (hl : storeLocals (x0 :: x1 :: r).toArray 1 x = some (x0 :: .val x :: r).toArray := by rfl) : Go Z EL nw R Post K h S k n pc (x0 :: x1 :: r) (x :: st) := G.astoreNG hd hv hl f
theorem Good.lstore1 (G : Good Z a0 EL K own code maxL ret nm) {x0 x1 y : Slot} {r : List Slot} {x : Int64} (hd : Dc code pc (.lstore_n 1) 1 pc') (f : Go Z EL nw R Post K h S k n pc' (x0 :: .val (.long x) :: .second :: r) st) (hl : storeLocals (x0 :: x1 :: y :: r).toArray 1 (.long x) = some (x0 :: .val (.long x) :: .second :: r).toArray := by rfl) : Go Z EL nw R Post K h S k n pc (x0 :: x1 :: y :: r) (.long x :: st) := G.lstoreNG hd hl f
theorem Good.iinc1 (G : Good Z a0 EL K own code maxL ret nm) (z : Int32) {x0 : Slot} {r : List Slot} {c : Int} {x : Int32} (hd : Dc code pc (.iinc 1 c) 3 pc') (f : Go Z EL nw R Post K h S k n pc' (x0 :: .val (.int (x + z)) :: r) st) (hz : Int32.ofInt c = z := by decide) : Go Z EL nw R Post K h S k n pc (x0 :: .val (.int x) :: r) st := by subst hz; exact G.iincG hd rfl rfl f
theorem Good.istore2 (G : Good Z a0 EL K own code maxL ret nm) {x0 x1 x2 : Slot} {r : List Slot} {x : Int32} (hd : Dc code pc (.istore_n 2) 1 pc') (f : Go Z EL nw R Post K h S k n pc' (x0 :: x1 :: .val (.int x) :: r) st) (hl : storeLocals (x0 :: x1 :: x2 :: r).toArray 2 (.int x) = some (x0 :: x1 :: .val (.int x) :: r).toArray := by rfl) : Go Z EL nw R Post K h S k n pc (x0 :: x1 :: x2 :: r) (.int x :: st) := G.istoreNG hd hl f
theorem Good.astore2 (G : Good Z a0 EL K own code maxL ret nm) {x0 x1 x2 : Slot} {r : List Slot} {x : Value} (hd : Dc code pc (.astore_n 2) 1 pc') (f : Go Z EL nw R Post K h S k n pc' (x0 :: x1 :: .val x :: r) st) (hv : x.isRef = true := by rfl) (hl : storeLocals (x0 :: x1 :: x2 :: r).toArray 2 x = some (x0 :: x1 :: .val x :: r).toArray := by rfl) : Go Z EL nw R Post K h S k n pc (x0 :: x1 :: x2 :: r) (x :: st) := G.astoreNG hd hv hl f
theorem Good.lstore2 (G : Good Z a0 EL K own code maxL ret nm) {x0 x1 x2 y : Slot} {r : List Slot} {x : Int64} (hd : Dc code pc (.lstore_n 2) 1 pc') (f : Go Z EL nw R Post K h S k n pc' (x0 :: x1 :: .val (.long x) :: .second :: r) st) (hl : storeLocals (x0 :: x1 :: x2 :: y :: r).toArray 2 (.long x) = some (x0 :: x1 :: .val (.long x) :: .second :: r).toArray := by rfl) : Go Z EL nw R Post K h S k n pc (x0 :: x1 :: x2 :: y :: r) (.long x :: st) := G.lstoreNG hd hl f
theorem Good.iinc2 (G : Good Z a0 EL K own code maxL ret nm) (z : Int32) {x0 x1 : Slot} {r : List Slot} {c : Int} {x : Int32} (hd : Dc code pc (.iinc 2 c) 3 pc') (f : Go Z EL nw R Post K h S k n pc' (x0 :: x1 :: .val (.int (x + z)) :: r) st) (hz : Int32.ofInt c = z := by decide) : Go Z EL nw R Post K h S k n pc (x0 :: x1 :: .val (.int x) :: r) st := by subst hz; exact G.iincG hd rfl rfl f
theorem Good.istore3 (G : Good Z a0 EL K own code maxL ret nm) {x0 x1 x2 x3 : Slot} {r : List Slot} {x : Int32} (hd : Dc code pc (.istore_n 3) 1 pc') (f : Go Z EL nw R Post K h S k n pc' (x0 :: x1 :: x2 :: .val (.int x) :: r) st) (hl : storeLocals (x0 :: x1 :: x2 :: x3 :: r).toArray 3 (.int x) = some (x0 :: x1 :: x2 :: .val (.int x) :: r).toArray := by rfl) : Go Z EL nw R Post K h S k n pc (x0 :: x1 :: x2 :: x3 :: r) (.int x :: st) := G.istoreNG hd hl f
theorem Good.astore3 (G : Good Z a0 EL K own code maxL ret nm) {x0 x1 x2 x3 : Slot} {r : List Slot} {x : Value} (hd : Dc code pc (.astore_n 3) 1 pc') (f : Go Z EL nw R Post K h S k n pc' (x0 :: x1 :: x2 :: .val x :: r) st) (hv : x.isRef = true := by rfl) (hl : storeLocals (x0 :: x1 :: x2 :: x3 :: r).toArray 3 x = some (x0 :: x1 :: x2 :: .val x :: r).toArray := by rfl) : Go Z EL nw R Post K h S k n pc (x0 :: x1 :: x2 :: x3 :: r) (x :: st) := G.astoreNG hd hv hl f
theorem Good.lstore3 (G : Good Z a0 EL K own code maxL ret nm) {x0 x1 x2 x3 y : Slot} {r : List Slot} {x : Int64} (hd : Dc code pc (.lstore_n 3) 1 pc') (f : Go Z EL nw R Post K h S k n pc' (x0 :: x1 :: x2 :: .val (.long x) :: .second :: r) st) (hl : storeLocals (x0 :: x1 :: x2 :: x3 :: y :: r).toArray 3 (.long x) = some (x0 :: x1 :: x2 :: .val (.long x) :: .second :: r).toArray := by rfl) : Go Z EL nw R Post K h S k n pc (x0 :: x1 :: x2 :: x3 :: y :: r) (.long x :: st) := G.lstoreNG hd hl f
theorem Good.iinc3 (G : Good Z a0 EL K own code maxL ret nm) (z : Int32) {x0 x1 x2 : Slot} {r : List Slot} {c : Int} {x : Int32} (hd : Dc code pc (.iinc 3 c) 3 pc') (f : Go Z EL nw R Post K h S k n pc' (x0 :: x1 :: x2 :: .val (.int (x + z)) :: r) st) (hz : Int32.ofInt c = z := by decide) : Go Z EL nw R Post K h S k n pc (x0 :: x1 :: x2 :: .val (.int x) :: r) st := by subst hz; exact G.iincG hd rfl rfl f
theorem Good.istore4 (G : Good Z a0 EL K own code maxL ret nm) {x0 x1 x2 x3 x4 : Slot} {r : List Slot} {x : Int32} (hd : Dc code pc (.istore 4) 2 pc') (f : Go Z EL nw R Post K h S k n pc' (x0 :: x1 :: x2 :: x3 :: .val (.int x) :: r) st) (hl : storeLocals (x0 :: x1 :: x2 :: x3 :: x4 :: r).toArray 4 (.int x) = some (x0 :: x1 :: x2 :: x3 :: .val (.int x) :: r).toArray := by rfl) : Go Z EL nw R Post K h S k n pc (x0 :: x1 :: x2 :: x3 :: x4 :: r) (.int x :: st) := G.istoreG hd hl f
theorem Good.astore4 (G : Good Z a0 EL K own code maxL ret nm) {x0 x1 x2 x3 x4 : Slot} {r : List Slot} {x : Value} (hd : Dc code pc (.astore 4) 2 pc') (f : Go Z EL nw R Post K h S k n pc' (x0 :: x1 :: x2 :: x3 :: .val x :: r) st) (hv : x.isRef = true := by rfl) (hl : storeLocals (x0 :: x1 :: x2 :: x3 :: x4 :: r).toArray 4 x = some (x0 :: x1 :: x2 :: x3 :: .val x :: r).toArray := by rfl) : Go Z EL nw R Post K h S k n pc (x0 :: x1 :: x2 :: x3 :: x4 :: r) (x :: st) := G.astoreG hd hv hl f
theorem Good.lstore4 (G : Good Z a0 EL K own code maxL ret nm) {x0 x1 x2 x3 x4 y : Slot} {r : List Slot} {x : Int64} (hd : Dc code pc (.lstore 4) 2 pc') (f : Go Z EL nw R Post K h S k n pc' (x0 :: x1 :: x2 :: x3 :: .val (.long x) :: .second :: r) st) (hl : storeLocals (x0 :: x1 :: x2 :: x3 :: x4 :: y :: r).toArray 4 (.long x) = some (x0 :: x1 :: x2 :: x3 :: .val (.long x) :: .second :: r).toArray := by rfl) : Go Z EL nw R Post K h S k n pc (x0 :: x1 :: x2 :: x3 :: x4 :: y :: r) (.long x :: st) := G.lstoreG hd hl f
theorem Good.iinc4 (G : Good Z a0 EL K own code maxL ret nm) (z : Int32) {x0 x1 x2 x3 : Slot} {r : List Slot} {c : Int} {x : Int32} (hd : Dc code pc (.iinc 4 c) 3 pc') (f : Go Z EL nw R Post K h S k n pc' (x0 :: x1 :: x2 :: x3 :: .val (.int (x + z)) :: r) st) (hz : Int32.ofInt c = z := by decide) : Go Z EL nw R Post K h S k n pc (x0 :: x1 :: x2 :: x3 :: .val (.int x) :: r) st := by subst hz; exact G.iincG hd rfl rfl f
theorem Good.istore5 (G : Good Z a0 EL K own code maxL ret nm) {x0 x1 x2 x3 x4 x5 : Slot} {r : List Slot} {x : Int32} (hd : Dc code pc (.istore 5) 2 pc') (f : Go Z EL nw R Post K h S k n pc' (x0 :: x1 :: x2 :: x3 :: x4 :: .val (.int x) :: r) st) (hl : storeLocals (x0 :: x1 :: x2 :: x3 :: x4 :: x5 :: r).toArray 5 (.int x) = some (x0 :: x1 :: x2 :: x3 :: x4 :: .val (.int x) :: r).toArray := by rfl) : Go Z EL nw R Post K h S k n pc (x0 :: x1 :: x2 :: x3 :: x4 :: x5 :: r) (.int x :: st) := G.istoreG hd hl f
theorem Good.astore5 (G : Good Z a0 EL K own code maxL ret nm) {x0 x1 x2 x3 x4 x5 : Slot} {r : List Slot} {x : Value} (hd : Dc code pc (.astore 5) 2 pc') (f : Go Z EL nw R Post K h S k n pc' (x0 :: x1 :: x2 :: x3 :: x4 :: .val x :: r) st) (hv : x.isRef = true := by rfl) (hl : storeLocals (x0 :: x1 :: x2 :: x3 :: x4 :: x5 :: r).toArray 5 x = some (x0 :: x1 :: x2 :: x3 :: x4 :: .val x :: r).toArray := by rfl) : Go Z EL nw R Post K h S k n pc (x0 :: x1 :: x2 :: x3 :: x4 :: x5 :: r) (x :: st) := G.astoreG hd hv hl f
theorem Good.lstore5 (G : Good Z a0 EL K own code maxL ret nm) {x0 x1 x2 x3 x4 x5 y : Slot} {r : List Slot} {x : Int64} (hd : Dc code pc (.lstore 5) 2 pc') (f : Go Z EL nw R Post K h S k n pc' (x0 :: x1 :: x2 :: x3 :: x4 :: .val (.long x) :: .second :: r) st) (hl : storeLocals (x0 :: x1 :: x2 :: x3 :: x4 :: x5 :: y :: r).toArray 5 (.long x) = some (x0 :: x1 :: x2 :: x3 :: x4 :: .val (.long x) :: .second :: r).toArray := by rfl) : Go Z EL nw R Post K h S k n pc (x0 :: x1 :: x2 :: x3 :: x4 :: x5 :: y :: r) (.long x :: st) := G.lstoreG hd hl f
theorem Good.iinc5 (G : Good Z a0 EL K own code maxL ret nm) (z : Int32) {x0 x1 x2 x3 x4 : Slot} {r : List Slot} {c : Int} {x : Int32} (hd : Dc code pc (.iinc 5 c) 3 pc') (f : Go Z EL nw R Post K h S k n pc' (x0 :: x1 :: x2 :: x3 :: x4 :: .val (.int (x + z)) :: r) st) (hz : Int32.ofInt c = z := by decide) : Go Z EL nw R Post K h S k n pc (x0 :: x1 :: x2 :: x3 :: x4 :: .val (.int x) :: r) st := by subst hz; exact G.iincG hd rfl rfl f
theorem Good.istore6 (G : Good Z a0 EL K own code maxL ret nm) {x0 x1 x2 x3 x4 x5 x6 : Slot} {r : List Slot} {x : Int32} (hd : Dc code pc (.istore 6) 2 pc') (f : Go Z EL nw R Post K h S k n pc' (x0 :: x1 :: x2 :: x3 :: x4 :: x5 :: .val (.int x) :: r) st) (hl : storeLocals (x0 :: x1 :: x2 :: x3 :: x4 :: x5 :: x6 :: r).toArray 6 (.int x) = some (x0 :: x1 :: x2 :: x3 :: x4 :: x5 :: .val (.int x) :: r).toArray := by rfl) : Go Z EL nw R Post K h S k n pc (x0 :: x1 :: x2 :: x3 :: x4 :: x5 :: x6 :: r) (.int x :: st) := G.istoreG hd hl f
theorem Good.astore6 (G : Good Z a0 EL K own code maxL ret nm) {x0 x1 x2 x3 x4 x5 x6 : Slot} {r : List Slot} {x : Value} (hd : Dc code pc (.astore 6) 2 pc') (f : Go Z EL nw R Post K h S k n pc' (x0 :: x1 :: x2 :: x3 :: x4 :: x5 :: .val x :: r) st) (hv : x.isRef = true := by rfl) (hl : storeLocals (x0 :: x1 :: x2 :: x3 :: x4 :: x5 :: x6 :: r).toArray 6 x = some (x0 :: x1 :: x2 :: x3 :: x4 :: x5 :: .val x :: r).toArray := by rfl) : Go Z EL nw R Post K h S k n pc (x0 :: x1 :: x2 :: x3 :: x4 :: x5 :: x6 :: r) (x :: st) := G.astoreG hd hv hl f
theorem Good.lstore6 (G : Good Z a0 EL K own code maxL ret nm) {x0 x1 x2 x3 x4 x5 x6 y : Slot} {r : List Slot} {x : Int64} (hd : Dc code pc (.lstore 6) 2 pc') (f : Go Z EL nw R Post K h S k n pc' (x0 :: x1 :: x2 :: x3 :: x4 :: x5 :: .val (.long x) :: .second :: r) st) (hl : storeLocals (x0 :: x1 :: x2 :: x3 :: x4 :: x5 :: x6 :: y :: r).toArray 6 (.long x) = some (x0 :: x1 :: x2 :: x3 :: x4 :: x5 :: .val (.long x) :: .second :: r).toArray := by rfl) : Go Z EL nw R Post K h S k n pc (x0 :: x1 :: x2 :: x3 :: x4 :: x5 :: x6 :: y :: r) (.long x :: st) := G.lstoreG hd hl f
theorem Good.iinc6 (G : Good Z a0 EL K own code maxL ret nm) (z : Int32) {x0 x1 x2 x3 x4 x5 : Slot} {r : List Slot} {c : Int} {x : Int32} (hd : Dc code pc (.iinc 6 c) 3 pc') (f : Go Z EL nw R Post K h S k n pc' (x0 :: x1 :: x2 :: x3 :: x4 :: x5 :: .val (.int (x + z)) :: r) st) (hz : Int32.ofInt c = z := by decide) : Go Z EL nw R Post K h S k n pc (x0 :: x1 :: x2 :: x3 :: x4 :: x5 :: .val (.int x) :: r) st := by subst hz; exact G.iincG hd rfl rfl f
theorem Good.istore7 (G : Good Z a0 EL K own code maxL ret nm) {x0 x1 x2 x3 x4 x5 x6 x7 : Slot} {r : List Slot} {x : Int32} (hd : Dc code pc (.istore 7) 2 pc') (f : Go Z EL nw R Post K h S k n pc' (x0 :: x1 :: x2 :: x3 :: x4 :: x5 :: x6 :: .val (.int x) :: r) st) (hl : storeLocals (x0 :: x1 :: x2 :: x3 :: x4 :: x5 :: x6 :: x7 :: r).toArray 7 (.int x) = some (x0 :: x1 :: x2 :: x3 :: x4 :: x5 :: x6 :: .val (.int x) :: r).toArray := by rfl) : Go Z EL nw R Post K h S k n pc (x0 :: x1 :: x2 :: x3 :: x4 :: x5 :: x6 :: x7 :: r) (.int x :: st) := G.istoreG hd hl f
theorem Good.astore7 (G : Good Z a0 EL K own code maxL ret nm) {x0 x1 x2 x3 x4 x5 x6 x7 : Slot} {r : List Slot} {x : Value} (hd : Dc code pc (.astore 7) 2 pc') (f : Go Z EL nw R Post K h S k n pc' (x0 :: x1 :: x2 :: x3 :: x4 :: x5 :: x6 :: .val x :: r) st) (hv : x.isRef = true := by rfl) (hl : storeLocals (x0 :: x1 :: x2 :: x3 :: x4 :: x5 :: x6 :: x7 :: r).toArray 7 x = some (x0 :: x1 :: x2 :: x3 :: x4 :: x5 :: x6 :: .val x :: r).toArray := by rfl) : Go Z EL nw R Post K h S k n pc (x0 :: x1 :: x2 :: x3 :: x4 :: x5 :: x6 :: x7 :: r) (x :: st) := G.astoreG hd hv hl f
theorem Good.lstore7 (G : Good Z a0 EL K own code maxL ret nm) {x0 x1 x2 x3 x4 x5 x6 x7 y : Slot} {r : List Slot} {x : Int64} (hd : Dc code pc (.lstore 7) 2 pc') (f : Go Z EL nw R Post K h S k n pc' (x0 :: x1 :: x2 :: x3 :: x4 :: x5 :: x6 :: .val (.long x) :: .second :: r) st) (hl : storeLocals (x0 :: x1 :: x2 :: x3 :: x4 :: x5 :: x6 :: x7 :: y :: r).toArray 7 (.long x) = some (x0 :: x1 :: x2 :: x3 :: x4 :: x5 :: x6 :: .val (.long x) :: .second :: r).toArray := by rfl) : Go Z EL nw R Post K h S k n pc (x0 :: x1 :: x2 :: x3 :: x4 :: x5 :: x6 :: x7 :: y :: r) (.long x :: st) := G.lstoreG hd hl f
theorem Good.iinc7 (G : Good Z a0 EL K own code maxL ret nm) (z : Int32) {x0 x1 x2 x3 x4 x5 x6 : Slot} {r : List Slot} {c : Int} {x : Int32} (hd : Dc code pc (.iinc 7 c) 3 pc') (f : Go Z EL nw R Post K h S k n pc' (x0 :: x1 :: x2 :: x3 :: x4 :: x5 :: x6 :: .val (.int (x + z)) :: r) st) (hz : Int32.ofInt c = z := by decide) : Go Z EL nw R Post K h S k n pc (x0 :: x1 :: x2 :: x3 :: x4 :: x5 :: x6 :: .val (.int x) :: r) st := by subst hz; exact G.iincG hd rfl rfl f
theorem Good.istore8 (G : Good Z a0 EL K own code maxL ret nm) {x0 x1 x2 x3 x4 x5 x6 x7 x8 : Slot} {r : List Slot} {x : Int32} (hd : Dc code pc (.istore 8) 2 pc') (f : Go Z EL nw R Post K h S k n pc' (x0 :: x1 :: x2 :: x3 :: x4 :: x5 :: x6 :: x7 :: .val (.int x) :: r) st) (hl : storeLocals (x0 :: x1 :: x2 :: x3 :: x4 :: x5 :: x6 :: x7 :: x8 :: r).toArray 8 (.int x) = some (x0 :: x1 :: x2 :: x3 :: x4 :: x5 :: x6 :: x7 :: .val (.int x) :: r).toArray := by rfl) : Go Z EL nw R Post K h S k n pc (x0 :: x1 :: x2 :: x3 :: x4 :: x5 :: x6 :: x7 :: x8 :: r) (.int x :: st) := G.istoreG hd hl f
theorem Good.astore8 (G : Good Z a0 EL K own code maxL ret nm) {x0 x1 x2 x3 x4 x5 x6 x7 x8 : Slot} {r : List Slot} {x : Value} (hd : Dc code pc (.astore 8) 2 pc') (f : Go Z EL nw R Post K h S k n pc' (x0 :: x1 :: x2 :: x3 :: x4 :: x5 :: x6 :: x7 :: .val x :: r) st) (hv : x.isRef = true := by rfl) (hl : storeLocals (x0 :: x1 :: x2 :: x3 :: x4 :: x5 :: x6 :: x7 :: x8 :: r).toArray 8 x = some (x0 :: x1 :: x2 :: x3 :: x4 :: x5 :: x6 :: x7 :: .val x :: r).toArray := by rfl) : Go Z EL nw R Post K h S k n pc (x0 :: x1 :: x2 :: x3 :: x4 :: x5 :: x6 :: x7 :: x8 :: r) (x :: st) := G.astoreG hd hv hl f
theorem Good.lstore8 (G : Good Z a0 EL K own code maxL ret nm) {x0 x1 x2 x3 x4 x5 x6 x7 x8 y : Slot} {r : List Slot} {x : Int64} (hd : Dc code pc (.lstore 8) 2 pc') (f : Go Z EL nw R Post K h S k n pc' (x0 :: x1 :: x2 :: x3 :: x4 :: x5 :: x6 :: x7 :: .val (.long x) :: .second :: r) st) (hl : storeLocals (x0 :: x1 :: x2 :: x3 :: x4 :: x5 :: x6 :: x7 :: x8 :: y :: r).toArray 8 (.long x) = some (x0 :: x1 :: x2 :: x3 :: x4 :: x5 :: x6 :: x7 :: .val (.long x) :: .second :: r).toArray := by rfl) : Go Z EL nw R Post K h S k n pc (x0 :: x1 :: x2 :: x3 :: x4 :: x5 :: x6 :: x7 :: x8 :: y :: r) (.long x :: st) := G.lstoreG hd hl f
theorem Good.iinc8 (G : Good Z a0 EL K own code maxL ret nm) (z : Int32) {x0 x1 x2 x3 x4 x5 x6 x7 : Slot} {r : List Slot} {c : Int} {x : Int32} (hd : Dc code pc (.iinc 8 c) 3 pc') (f : Go Z EL nw R Post K h S k n pc' (x0 :: x1 :: x2 :: x3 :: x4 :: x5 :: x6 :: x7 :: .val (.int (x + z)) :: r) st) (hz : Int32.ofInt c = z := by decide) : Go Z EL nw R Post K h S k n pc (x0 :: x1 :: x2 :: x3 :: x4 :: x5 :: x6 :: x7 :: .val (.int x) :: r) st := by subst hz; exact G.iincG hd rfl rfl f
theorem Good.istore9 (G : Good Z a0 EL K own code maxL ret nm) {x0 x1 x2 x3 x4 x5 x6 x7 x8 x9 : Slot} {r : List Slot} {x : Int32} (hd : Dc code pc (.istore 9) 2 pc') (f : Go Z EL nw R Post K h S k n pc' (x0 :: x1 :: x2 :: x3 :: x4 :: x5 :: x6 :: x7 :: x8 :: .val (.int x) :: r) st) (hl : storeLocals (x0 :: x1 :: x2 :: x3 :: x4 :: x5 :: x6 :: x7 :: x8 :: x9 :: r).toArray 9 (.int x) = some (x0 :: x1 :: x2 :: x3 :: x4 :: x5 :: x6 :: x7 :: x8 :: .val (.int x) :: r).toArray := by rfl) : Go Z EL nw R Post K h S k n pc (x0 :: x1 :: x2 :: x3 :: x4 :: x5 :: x6 :: x7 :: x8 :: x9 :: r) (.int x :: st) := G.istoreG hd hl f
theorem Good.astore9 (G : Good Z a0 EL K own code maxL ret nm) {x0 x1 x2 x3 x4 x5 x6 x7 x8 x9 : Slot} {r : List Slot} {x : Value} (hd : Dc code pc (.astore 9) 2 pc') (f : Go Z EL nw R Post K h S k n pc' (x0 :: x1 :: x2 :: x3 :: x4 :: x5 :: x6 :: x7 :: x8 :: .val x :: r) st) (hv : x.isRef = true := by rfl) (hl : storeLocals (x0 :: x1 :: x2 :: x3 :: x4 :: x5 :: x6 :: x7 :: x8 :: x9 :: r).toArray 9 x = some (x0 :: x1 :: x2 :: x3 :: x4 :: x5 :: x6 :: x7 :: x8 :: .val x :: r).toArray := by rfl) : Go Z EL nw R Post K h S k n pc (x0 :: x1 :: x2 :: x3 :: x4 :: x5 :: x6 :: x7 :: x8 :: x9 :: r) (x :: st) := G.astoreG hd hv hl f
theorem Good.lstore9 (G : Good Z a0 EL K own code maxL ret nm) {x0 x1 x2 x3 x4 x5 x6 x7 x8 x9 y : Slot} {r : List Slot} {x : Int64} (hd : Dc code pc (.lstore 9) 2 pc') (f : Go Z EL nw R Post K h S k n pc' (x0 :: x1 :: x2 :: x3 :: x4 :: x5 :: x6 :: x7 :: x8 :: .val (.long x) :: .second :: r) st) (hl : storeLocals (x0 :: x1 :: x2 :: x3 :: x4 :: x5 :: x6 :: x7 :: x8 :: x9 :: y :: r).toArray 9 (.long x) = some (x0 :: x1 :: x2 :: x3 :: x4 :: x5 :: x6 :: x7 :: x8 :: .val (.long x) :: .second :: r).toArray := by rfl) : Go Z EL nw R Post K h S k n pc (x0 :: x1 :: x2 :: x3 :: x4 :: x5 :: x6 :: x7 :: x8 :: x9 :: y :: r) (.long x :: st) := G.lstoreG hd hl f
theorem Good.iinc9 (G : Good Z a0 EL K own code maxL ret nm) (z : Int32) {x0 x1 x2 x3 x4 x5 x6 x7 x8 : Slot} {r : List Slot} {c : Int} {x : Int32} (hd : Dc code pc (.iinc 9 c) 3 pc') (f : Go Z EL nw R Post K h S k n pc' (x0 :: x1 :: x2 :: x3 :: x4 :: x5 :: x6 :: x7 :: x8 :: .val (.int (x + z)) :: r) st) (hz : Int32.ofInt c = z := by decide) : Go Z EL nw R Post K h S k n pc (x0 :: x1 :: x2 :: x3 :: x4 :: x5 :: x6 :: x7 :: x8 :: .val (.int x) :: r) st := by subst hz; exact G.iincG hd rfl rfl f
theorem Good.istore10 (G : Good Z a0 EL K own code maxL ret nm) {x0 x1 x2 x3 x4 x5 x6 x7 x8 x9 x10 : Slot} {r : List Slot} {x : Int32} (hd : Dc code pc (.istore 10) 2 pc') (f : Go Z EL nw R Post K h S k n pc' (x0 :: x1 :: x2 :: x3 :: x4 :: x5 :: x6 :: x7 :: x8 :: x9 :: .val (.int x) :: r) st) (hl : storeLocals (x0 :: x1 :: x2 :: x3 :: x4 :: x5 :: x6 :: x7 :: x8 :: x9 :: x10 :: r).toArray 10 (.int x) = some (x0 :: x1 :: x2 :: x3 :: x4 :: x5 :: x6 :: x7 :: x8 :: x9 :: .val (.int x) :: r).toArray := by rfl) : Go Z EL nw R Post K h S k n pc (x0 :: x1 :: x2 :: x3 :: x4 :: x5 :: x6 :: x7 :: x8 :: x9 :: x10 :: r) (.int x :: st) := G.istoreG hd hl f
theorem Good.astore10 (G : Good Z a0 EL K own code maxL ret nm) {x0 x1 x2 x3 x4 x5 x6 x7 x8 x9 x10 : Slot} {r : List Slot} {x : Value} (hd : Dc code pc (.astore 10) 2 pc') (f : Go Z EL nw R Post K h S k n pc' (x0 :: x1 :: x2 :: x3 :: x4 :: x5 :: x6 :: x7 :: x8 :: x9 :: .val x :: r) st) (hv : x.isRef = true := by rfl) (hl : storeLocals (x0 :: x1 :: x2 :: x3 :: x4 :: x5 :: x6 :: x7 :: x8 :: x9 :: x10 :: r).toArray 10 x = some (x0 :: x1 :: x2 :: x3 :: x4 :: x5 :: x6 :: x7 :: x8 :: x9 :: .val x :: r).toArray := by rfl) : Go Z EL nw R Post K h S k n pc (x0 :: x1 :: x2 :: x3 :: x4 :: x5 :: x6 :: x7 :: x8 :: x9 :: x10 :: r) (x :: st) := G.astoreG hd hv hl f
theorem Good.lstore10 (G : Good Z a0 EL K own code maxL ret nm) {x0 x1 x2 x3 x4 x5 x6 x7 x8 x9 x10 y : Slot} {r : List Slot} {x : Int64} (hd : Dc code pc (.lstore 10) 2 pc') (f : Go Z EL nw R Post K h S k n pc' (x0 :: x1 :: x2 :: x3 :: x4 :: x5 :: x6 :: x7 :: x8 :: x9 :: .val (.long x) :: .second :: r) st) (hl : storeLocals (x0 :: x1 :: x2 :: x3 :: x4 :: x5 :: x6 :: x7 :: x8 :: x9 :: x10 :: y :: r).toArray 10 (.long x) = some (x0 :: x1 :: x2 :: x3 :: x4 :: x5 :: x6 :: x7 :: x8 :: x9 :: .val (.long x) :: .second :: r).toArray := by rfl) : Go Z EL nw R Post K h S k n pc (x0 :: x1 :: x2 :: x3 :: x4 :: x5 :: x6 :: x7 :: x8 :: x9 :: x10 :: y :: r) (.long x :: st) := G.lstoreG hd hl f
theorem Good.iinc10 (G : Good Z a0 EL K own code maxL ret nm) (z : Int32) {x0 x1 x2 x3 x4 x5 x6 x7 x8 x9 : Slot} {r : List Slot} {c : Int} {x : Int32} (hd : Dc code pc (.iinc 10 c) 3 pc') (f : Go Z EL nw R Post K h S k n pc' (x0 :: x1 :: x2 :: x3 :: x4 :: x5 :: x6 :: x7 :: x8 :: x9 :: .val (.int (x + z)) :: r) st) (hz : Int32.ofInt c = z := by decide) : Go Z EL nw R Post K h S k n pc (x0 :: x1 :: x2 :: x3 :: x4 :: x5 :: x6 :: x7 :: x8 :: x9 :: .val (.int x) :: r) st := by subst hz; exact G.iincG hd rfl rfl f
theorem Good.istore11 (G : Good Z a0 EL K own code maxL ret nm) {x0 x1 x2 x3 x4 x5 x6 x7 x8 x9 x10 x11 : Slot} {r : List Slot} {x : Int32} (hd : Dc code pc (.istore 11) 2 pc') (f : Go Z EL nw R Post K h S k n pc' (x0 :: x1 :: x2 :: x3 :: x4 :: x5 :: x6 :: x7 :: x8 :: x9 :: x10 :: .val (.int x) :: r) st) (hl : storeLocals (x0 :: x1 :: x2 :: x3 :: x4 :: x5 :: x6 :: x7 :: x8 :: x9 :: x10 :: x11 :: r).toArray 11 (.int x) = some (x0 :: x1 :: x2 :: x3 :: x4 :: x5 :: x6 :: x7 :: x8 :: x9 :: x10 :: .val (.int x) :: r).toArray := by rfl) : Go Z EL nw R Post K h S k n pc (x0 :: x1 :: x2 :: x3 :: x4 :: x5 :: x6 :: x7 :: x8 :: x9 :: x10 :: x11 :: r) (.int x :: st) := G.istoreG hd hl f
theorem Good.astore11 (G : Good Z a0 EL K own code maxL ret nm) {x0 x1 x2 x3 x4 x5 x6 x7 x8 x9 x10 x11 : Slot} {r : List Slot} {x : Value} (hd : Dc code pc (.astore 11) 2 pc') (f : Go Z EL nw R Post K h S k n pc' (x0 :: x1 :: x2 :: x3 :: x4 :: x5 :: x6 :: x7 :: x8 :: x9 :: x10 :: .val x :: r) st) (hv : x.isRef = true := by rfl) (hl : storeLocals (x0 :: x1 :: x2 :: x3 :: x4 :: x5 :: x6 :: x7 :: x8 :: x9 :: x10 :: x11 :: r).toArray 11 x = some (x0 :: x1 :: x2 :: x3 :: x4 :: x5 :: x6 :: x7 :: x8 :: x9 :: x10 :: .val x :: r).toArray := by rfl) : Go Z EL nw R Post K h S k n pc (x0 :: x1 :: x2 :: x3 :: x4 :: x5 :: x6 :: x7 :: x8 :: x9 :: x10 :: x11 :: r) (x :: st) := G.astoreG hd hv hl f
theorem Good.lstore11 (G : Good Z a0 EL K own code maxL ret nm) {x0 x1 x2 x3 x4 x5 x6 x7 x8 x9 x10 x11 y : Slot} {r : List Slot} {x : Int64} (hd : Dc code pc (.lstore 11) 2 pc') (f : Go Z EL nw R Post K h S k n pc' (x0 :: x1 :: x2 :: x3 :: x4 :: x5 :: x6 :: x7 :: x8 :: x9 :: x10 :: .val (.long x) :: .second :: r) st) (hl : storeLocals (x0 :: x1 :: x2 :: x3 :: x4 :: x5 :: x6 :: x7 :: x8 :: x9 :: x10 :: x11 :: y :: r).toArray 11 (.long x) = some (x0 :: x1 :: x2 :: x3 :: x4 :: x5 :: x6 :: x7 :: x8 :: x9 :: x10 :: .val (.long x) :: .second :: r).toArray := by rfl) : Go Z EL nw R Post K h S k n pc (x0 :: x1 :: x2 :: x3 :: x4 :: x5 :: x6 :: x7 :: x8 :: x9 :: x10 :: x11 :: y :: r) (.long x :: st) := G.lstoreG hd hl f
theorem Good.iinc11 (G : Good Z a0 EL K own code maxL ret nm) (z : Int32) {x0 x1 x2 x3 x4 x5 x6 x7 x8 x9 x10 : Slot} {r : List Slot} {c : Int} {x : Int32} (hd : Dc code pc (.iinc 11 c) 3 pc') (f : Go Z EL nw R Post K h S k n pc' (x0 :: x1 :: x2 :: x3 :: x4 :: x5 :: x6 :: x7 :: x8 :: x9 :: x10 :: .val (.int (x + z)) :: r) st) (hz : Int32.ofInt c = z := by decide) : Go Z EL nw R Post K h S k n pc (x0 :: x1 :: x2 :: x3 :: x4 :: x5 :: x6 :: x7 :: x8 :: x9 :: x10 :: .val (.int x) :: r) st := by subst hz; exact G.iincG hd rfl rfl f
theorem Good.istore12 (G : Good Z a0 EL K own code maxL ret nm) {x0 x1 x2 x3 x4 x5 x6 x7 x8 x9 x10 x11 x12 : Slot} {r : List Slot} {x : Int32} (hd : Dc code pc (.istore 12) 2 pc') (f : Go Z EL nw R Post K h S k n pc' (x0 :: x1 :: x2 :: x3 :: x4 :: x5 :: x6 :: x7 :: x8 :: x9 :: x10 :: x11 :: .val (.int x) :: r) st) (hl : storeLocals (x0 :: x1 :: x2 :: x3 :: x4 :: x5 :: x6 :: x7 :: x8 :: x9 :: x10 :: x11 :: x12 :: r).toArray 12 (.int x) = some (x0 :: x1 :: x2 :: x3 :: x4 :: x5 :: x6 :: x7 :: x8 :: x9 :: x10 :: x11 :: .val (.int x) :: r).toArray := by rfl) : Go Z EL nw R Post K h S k n pc (x0 :: x1 :: x2 :: x3 :: x4 :: x5 :: x6 :: x7 :: x8 :: x9 :: x10 :: x11 :: x12 :: r) (.int x :: st) := G.istoreG hd hl f
theorem Good.astore12 (G : Good Z a0 EL K own code maxL ret nm) {x0 x1 x2 x3 x4 x5 x6 x7 x8 x9 x10 x11 x12 : Slot} {r : List Slot} {x : Value} (hd : Dc code pc (.astore 12) 2 pc') (f : Go Z EL nw R Post K h S k n pc' (x0 :: x1 :: x2 :: x3 :: x4 :: x5 :: x6 :: x7 :: x8 :: x9 :: x10 :: x11 :: .val x :: r) st) (hv : x.isRef = true := by rfl) (hl : storeLocals (x0 :: x1 :: x2 :: x3 :: x4 :: x5 :: x6 :: x7 :: x8 :: x9 :: x10 :: x11 :: x12 :: r).toArray 12 x = some (x0 :: x1 :: x2 :: x3 :: x4 :: x5 :: x6 :: x7 :: x8 :: x9 :: x10 :: x11 :: .val x :: r).toArray := by rfl) : Go Z EL nw R Post K h S k n pc (x0 :: x1 :: x2 :: x3 :: x4 :: x5 :: x6 :: x7 :: x8 :: x9 :: x10 :: x11 :: x12 :: r) (x :: st) := G.astoreG hd hv hl f
theorem Good.lstore12 (G : Good Z a0 EL K own code maxL ret nm) {x0 x1 x2 x3 x4 x5 x6 x7 x8 x9 x10 x11 x12 y : Slot} {r : List Slot} {x : Int64} (hd : Dc code pc (.lstore 12) 2 pc') (f : Go Z EL nw R Post K h S k n pc' (x0 :: x1 :: x2 :: x3 :: x4 :: x5 :: x6 :: x7 :: x8 :: x9 :: x10 :: x11 :: .val (.long x) :: .second :: r) st) (hl : storeLocals (x0 :: x1 :: x2 :: x3 :: x4 :: x5 :: x6 :: x7 :: x8 :: x9 :: x10 :: x11 :: x12 :: y :: r).toArray 12 (.long x) = some (x0 :: x1 :: x2 :: x3 :: x4 :: x5 :: x6 :: x7 :: x8 :: x9 :: x10 :: x11 :: .val (.long x) :: .second :: r).toArray := by rfl) : Go Z EL nw R Post K h S k n pc (x0 :: x1 :: x2 :: x3 :: x4 :: x5 :: x6 :: x7 :: x8 :: x9 :: x10 :: x11 :: x12 :: y :: r) (.long x :: st) := G.lstoreG hd hl f
theorem Good.iinc12 (G : Good Z a0 EL K own code maxL ret nm) (z : Int32) {x0 x1 x2 x3 x4 x5 x6 x7 x8 x9 x10 x11 : Slot} {r : List Slot} {c : Int} {x : Int32} (hd : Dc code pc (.iinc 12 c) 3 pc') (f : Go Z EL nw R Post K h S k n pc' (x0 :: x1 :: x2 :: x3 :: x4 :: x5 :: x6 :: x7 :: x8 :: x9 :: x10 :: x11 :: .val (.int (x + z)) :: r) st) (hz : Int32.ofInt c = z := by decide) : Go Z EL nw R Post K h S k n pc (x0 :: x1 :: x2 :: x3 :: x4 :: x5 :: x6 :: x7 :: x8 :: x9 :: x10 :: x11 :: .val (.int x) :: r) st := by subst hz; exact G.iincG hd rfl rfl f
theorem Good.istore13 (G : Good Z a0 EL K own code maxL ret nm) {x0 x1 x2 x3 x4 x5 x6 x7 x8 x9 x10 x11 x12 x13 : Slot} {r : List Slot} {x : Int32} (hd : Dc code pc (.istore 13) 2 pc') (f : Go Z EL nw R Post K h S k n pc' (x0 :: x1 :: x2 :: x3 :: x4 :: x5 :: x6 :: x7 :: x8 :: x9 :: x10 :: x11 :: x12 :: .val (.int x) :: r) st) (hl : storeLocals (x0 :: x1 :: x2 :: x3 :: x4 :: x5 :: x6 :: x7 :: x8 :: x9 :: x10 :: x11 :: x12 :: x13 :: r).toArray 13 (.int x) = some (x0 :: x1 :: x2 :: x3 :: x4 :: x5 :: x6 :: x7 :: x8 :: x9 :: x10 :: x11 :: x12 :: .val (.int x) :: r).toArray := by rfl) : Go Z EL nw R Post K h S k n pc (x0 :: x1 :: x2 :: x3 :: x4 :: x5 :: x6 :: x7 :: x8 :: x9 :: x10 :: x11 :: x12 :: x13 :: r) (.int x :: st) := G.istoreG hd hl f
theorem Good.astore13 (G : Good Z a0 EL K own code maxL ret nm) {x0 x1 x2 x3 x4 x5 x6 x7 x8 x9 x10 x11 x12 x13 : Slot} {r : List Slot} {x : Value} (hd : Dc code pc (.astore 13) 2 pc') (f : Go Z EL nw R Post K h S k n pc' (x0 :: x1 :: x2 :: x3 :: x4 :: x5 :: x6 :: x7 :: x8 :: x9 :: x10 :: x11 :: x12 :: .val x :: r) st) (hv : x.isRef = true := by rfl) (hl : storeLocals (x0 :: x1 :: x2 :: x3 :: x4 :: x5 :: x6 :: x7 :: x8 :: x9 :: x10 :: x11 :: x12 :: x13 :: r).toArray 13 x = some (x0 :: x1 :: x2 :: x3 :: x4 :: x5 :: x6 :: x7 :: x8 :: x9 :: x10 :: x11 :: x12 :: .val x :: r).toArray := by rfl) : Go Z EL nw R Post K h S k n pc (x0 :: x1 :: x2 :: x3 :: x4 :: x5 :: x6 :: x7 :: x8 :: x9 :: x10 :: x11 :: x12 :: x13 :: r) (x :: st) := G.astoreG hd hv hl f
theorem Good.lstore13 (G : Good Z a0 EL K own code maxL ret nm) {x0 x1 x2 x3 x4 x5 x6 x7 x8 x9 x10 x11 x12 x13 y : Slot} {r : List Slot} {x : Int64} (hd : Dc code pc (.lstore 13) 2 pc') (f : Go Z EL nw R Post K h S k n pc' (x0 :: x1 :: x2 :: x3 :: x4 :: x5 :: x6 :: x7 :: x8 :: x9 :: x10 :: x11 :: x12 :: .val (.long x) :: .second :: r) st) (hl : storeLocals (x0 :: x1 :: x2 :: x3 :: x4 :: x5 :: x6 :: x7 :: x8 :: x9 :: x10 :: x11 :: x12 :: x13 :: y :: r).toArray 13 (.long x) = some (x0 :: x1 :: x2 :: x3 :: x4 :: x5 :: x6 :: x7 :: x8 :: x9 :: x10 :: x11 :: x12 :: .val (.long x) :: .second :: r).toArray := by rfl) : Go Z EL nw R Post K h S k n pc (x0 :: x1 :: x2 :: x3 :: x4 :: x5 :: x6 :: x7 :: x8 :: x9 :: x10 :: x11 :: x12 :: x13 :: y :: r) (.long x :: st) := G.lstoreG hd hl f
theorem Good.iinc13 (G : Good Z a0 EL K own code maxL ret nm) (z : Int32) {x0 x1 x2 x3 x4 x5 x6 x7 x8 x9 x10 x11 x12 : Slot} {r : List Slot} {c : Int} {x : Int32} (hd : Dc code pc (.iinc 13 c) 3 pc') (f : Go Z EL nw R Post K h S k n pc' (x0 :: x1 :: x2 :: x3 :: x4 :: x5 :: x6 :: x7 :: x8 :: x9 :: x10 :: x11 :: x12 :: .val (.int (x + z)) :: r) st) (hz : Int32.ofInt c = z := by decide) : Go Z EL nw R Post K h S k n pc (x0 :: x1 :: x2 :: x3 :: x4 :: x5 :: x6 :: x7 :: x8 :: x9 :: x10 :: x11 :: x12 :: .val (.int x) :: r) st := by subst hz; exact G.iincG hd rfl rfl f
theorem Good.istore14 (G : Good Z a0 EL K own code maxL ret nm) {x0 x1 x2 x3 x4 x5 x6 x7 x8 x9 x10 x11 x12 x13 x14 : Slot} {r : List Slot} {x : Int32} (hd : Dc code pc (.istore 14) 2 pc') (f : Go Z EL nw R Post K h S k n pc' (x0 :: x1 :: x2 :: x3 :: x4 :: x5 :: x6 :: x7 :: x8 :: x9 :: x10 :: x11 :: x12 :: x13 :: .val (.int x) :: r) st) (hl : storeLocals (x0 :: x1 :: x2 :: x3 :: x4 :: x5 :: x6 :: x7 :: x8 :: x9 :: x10 :: x11 :: x12 :: x13 :: x14 :: r).toArray 14 (.int x) = some (x0 :: x1 :: x2 :: x3 :: x4 :: x5 :: x6 :: x7 :: x8 :: x9 :: x10 :: x11 :: x12 :: x13 :: .val (.int x) :: r).toArray := by rfl) : Go Z EL nw R Post K h S k n pc (x0 :: x1 :: x2 :: x3 :: x4 :: x5 :: x6 :: x7 :: x8 :: x9 :: x10 :: x11 :: x12 :: x13 :: x14 :: r) (.int x :: st) := G.istoreG hd hl f
theorem Good.astore14 (G : Good Z a0 EL K own code maxL ret nm) {x0 x1 x2 x3 x4 x5 x6 x7 x8 x9 x10 x11 x12 x13 x14 : Slot} {r : List Slot} {x : Value} (hd : Dc code pc (.astore 14) 2 pc') (f : Go Z EL nw R Post K h S k n pc' (x0 :: x1 :: x2 :: x3 :: x4 :: x5 :: x6 :: x7 :: x8 :: x9 :: x10 :: x11 :: x12 :: x13 :: .val x :: r) st) (hv : x.isRef = true := by rfl) (hl : storeLocals (x0 :: x1 :: x2 :: x3 :: x4 :: x5 :: x6 :: x7 :: x8 :: x9 :: x10 :: x11 :: x12 :: x13 :: x14 :: r).toArray 14 x = some (x0 :: x1 :: x2 :: x3 :: x4 :: x5 :: x6 :: x7 :: x8 :: x9 :: x10 :: x11 :: x12 :: x13 :: .val x :: r).toArray := by rfl) : Go Z EL nw R Post K h S k n pc (x0 :: x1 :: x2 :: x3 :: x4 :: x5 :: x6 :: x7 :: x8 :: x9 :: x10 :: x11 :: x12 :: x13 :: x14 :: r) (x :: st) := G.astoreG hd hv hl f
theorem Good.lstore14 (G : Good Z a0 EL K own code maxL ret nm) {x0 x1 x2 x3 x4 x5 x6 x7 x8 x9 x10 x11 x12 x13 x14 y : Slot} {r : List Slot} {x : Int64} (hd : Dc code pc (.lstore 14) 2 pc') (f : Go Z EL nw R Post K h S k n pc' (x0 :: x1 :: x2 :: x3 :: x4 :: x5 :: x6 :: x7 :: x8 :: x9 :: x10 :: x11 :: x12 :: x13 :: .val (.long x) :: .second :: r) st) (hl : storeLocals (x0 :: x1 :: x2 :: x3 :: x4 :: x5 :: x6 :: x7 :: x8 :: x9 :: x10 :: x11 :: x12 :: x13 :: x14 :: y :: r).toArray 14 (.long x) = some (x0 :: x1 :: x2 :: x3 :: x4 :: x5 :: x6 :: x7 :: x8 :: x9 :: x10 :: x11 :: x12 :: x13 :: .val (.long x) :: .second :: r).toArray := by rfl) : Go Z EL nw R Post K h S k n pc (x0 :: x1 :: x2 :: x3 :: x4 :: x5 :: x6 :: x7 :: x8 :: x9 :: x10 :: x11 :: x12 :: x13 :: x14 :: y :: r) (.long x :: st) := G.lstoreG hd hl f
theorem Good.iinc14 (G : Good Z a0 EL K own code maxL ret nm) (z : Int32) {x0 x1 x2 x3 x4 x5 x6 x7 x8 x9 x10 x11 x12 x13 : Slot} {r : List Slot} {c : Int} {x : Int32} (hd : Dc code pc (.iinc 14 c) 3 pc') (f : Go Z EL nw R Post K h S k n pc' (x0 :: x1 :: x2 :: x3 :: x4 :: x5 :: x6 :: x7 :: x8 :: x9 :: x10 :: x11 :: x12 :: x13 :: .val (.int (x + z)) :: r) st) (hz : Int32.ofInt c = z := by decide) : Go Z EL nw R Post K h S k n pc (x0 :: x1 :: x2 :: x3 :: x4 :: x5 :: x6 :: x7 :: x8 :: x9 :: x10 :: x11 :: x12 :: x13 :: .val (.int x) :: r) st := by subst hz; exact G.iincG hd rfl rfl f
theorem Good.istore15 (G : Good Z a0 EL K own code maxL ret nm) {x0 x1 x2 x3 x4 x5 x6 x7 x8 x9 x10 x11 x12 x13 x14 x15 : Slot} {r : List Slot} {x : Int32} (hd : Dc code pc (.istore 15) 2 pc') (f : Go Z EL nw R Post K h S k n pc' (x0 :: x1 :: x2 :: x3 :: x4 :: x5 :: x6 :: x7 :: x8 :: x9 :: x10 :: x11 :: x12 :: x13 :: x14 :: .val (.int x) :: r) st) (hl : storeLocals (x0 :: x1 :: x2 :: x3 :: x4 :: x5 :: x6 :: x7 :: x8 :: x9 :: x10 :: x11 :: x12 :: x13 :: x14 :: x15 :: r).toArray 15 (.int x) = some (x0 :: x1 :: x2 :: x3 :: x4 :: x5 :: x6 :: x7 :: x8 :: x9 :: x10 :: x11 :: x12 :: x13 :: x14 :: .val (.int x) :: r).toArray := by rfl) : Go Z EL nw R Post K h S k n pc (x0 :: x1 :: x2 :: x3 :: x4 :: x5 :: x6 :: x7 :: x8 :: x9 :: x10 :: x11 :: x12 :: x13 :: x14 :: x15 :: r) (.int x :: st) := G.istoreG hd hl f
theorem Good.astore15 (G : Good Z a0 EL K own code maxL ret nm) {x0 x1 x2 x3 x4 x5 x6 x7 x8 x9 x10 x11 x12 x13 x14 x15 : Slot} {r : List Slot} {x : Value} (hd : Dc code pc (.astore 15) 2 pc') (f : Go Z EL nw R Post K h S k n pc' (x0 :: x1 :: x2 :: x3 :: x4 :: x5 :: x6 :: x7 :: x8 :: x9 :: x10 :: x11 :: x12 :: x13 :: x14 :: .val x :: r) st) (hv : x.isRef = true := by rfl) (hl : storeLocals (x0 :: x1 :: x2 :: x3 :: x4 :: x5 :: x6 :: x7 :: x8 :: x9 :: x10 :: x11 :: x12 :: x13 :: x14 :: x15 :: r).toArray 15 x = some (x0 :: x1 :: x2 :: x3 :: x4 :: x5 :: x6 :: x7 :: x8 :: x9 :: x10 :: x11 :: x12 :: x13 :: x14 :: .val x :: r).toArray := by rfl) : Go Z EL nw R Post K h S k n pc (x0 :: x1 :: x2 :: x3 :: x4 :: x5 :: x6 :: x7 :: x8 :: x9 :: x10 :: x11 :: x12 :: x13 :: x14 :: x15 :: r) (x :: st) := G.astoreG hd hv hl f
theorem Good.lstore15 (G : Good Z a0 EL K own code maxL ret nm) {x0 x1 x2 x3 x4 x5 x6 x7 x8 x9 x10 x11 x12 x13 x14 x15 y : Slot} {r : List Slot} {x : Int64} (hd : Dc code pc (.lstore 15) 2 pc') (f : Go Z EL nw R Post K h S k n pc' (x0 :: x1 :: x2 :: x3 :: x4 :: x5 :: x6 :: x7 :: x8 :: x9 :: x10 :: x11 :: x12 :: x13 :: x14 :: .val (.long x) :: .second :: r) st) (hl : storeLocals (x0 :: x1 :: x2 :: x3 :: x4 :: x5 :: x6 :: x7 :: x8 :: x9 :: x10 :: x11 :: x12 :: x13 :: x14 :: x15 :: y :: r).toArray 15 (.long x) = some (x0 :: x1 :: x2 :: x3 :: x4 :: x5 :: x6 :: x7 :: x8 :: x9 :: x10 :: x11 :: x12 :: x13 :: x14 :: .val (.long x) :: .second :: r).toArray := by rfl) : Go Z EL nw R Post K h S k n pc (x0 :: x1 :: x2 :: x3 :: x4 :: x5 :: x6 :: x7 :: x8 :: x9 :: x10 :: x11 :: x12 :: x13 :: x14 :: x15 :: y :: r) (.long x :: st) := G.lstoreG hd hl f
theorem Good.iinc15 (G : Good Z a0 EL K own code maxL ret nm) (z : Int32) {x0 x1 x2 x3 x4 x5 x6 x7 x8 x9 x10 x11 x12 x13 x14 : Slot} {r : List Slot} {c : Int} {x : Int32} (hd : Dc code pc (.iinc 15 c) 3 pc') (f : Go Z EL nw R Post K h S k n pc' (x0 :: x1 :: x2 :: x3 :: x4 :: x5 :: x6 :: x7 :: x8 :: x9 :: x10 :: x11 :: x12 :: x13 :: x14 :: .val (.int (x + z)) :: r) st) (hz : Int32.ofInt c = z := by decide) : Go Z EL nw R Post K h S k n pc (x0 :: x1 :: x2 :: x3 :: x4 :: x5 :: x6 :: x7 :: x8 :: x9 :: x10 :: x11 :: x12 :: x13 :: x14 :: .val (.int x) :: r) st := by subst hz; exact G.iincG hd rfl rfl f
theorem Good.istore16 (G : Good Z a0 EL K own code maxL ret nm) {x0 x1 x2 x3 x4 x5 x6 x7 x8 x9 x10 x11 x12 x13 x14 x15 x16 : Slot} {r : List Slot} {x : Int32} (hd : Dc code pc (.istore 16) 2 pc') (f : Go Z EL nw R Post K h S k n pc' (x0 :: x1 :: x2 :: x3 :: x4 :: x5 :: x6 :: x7 :: x8 :: x9 :: x10 :: x11 :: x12 :: x13 :: x14 :: x15 :: .val (.int x) :: r) st) (hl : storeLocals (x0 :: x1 :: x2 :: x3 :: x4 :: x5 :: x6 :: x7 :: x8 :: x9 :: x10 :: x11 :: x12 :: x13 :: x14 :: x15 :: x16 :: r).toArray 16 (.int x) = some (x0 :: x1 :: x2 :: x3 :: x4 :: x5 :: x6 :: x7 :: x8 :: x9 :: x10 :: x11 :: x12 :: x13 :: x14 :: x15 :: .val (.int x) :: r).toArray := by rfl) : Go Z EL nw R Post K h S k n pc (x0 :: x1 :: x2 :: x3 :: x4 :: x5 :: x6 :: x7 :: x8 :: x9 :: x10 :: x11 :: x12 :: x13 :: x14 :: x15 :: x16 :: r) (.int x :: st) := G.istoreG hd hl f
theorem Good.astore16 (G : Good Z a0 EL K own code maxL ret nm) {x0 x1 x2 x3 x4 x5 x6 x7 x8 x9 x10 x11 x12 x13 x14 x15 x16 : Slot} {r : List Slot} {x : Value} (hd : Dc code pc (.astore 16) 2 pc') (f : Go Z EL nw R Post K h S k n pc' (x0 :: x1 :: x2 :: x3 :: x4 :: x5 :: x6 :: x7 :: x8 :: x9 :: x10 :: x11 :: x12 :: x13 :: x14 :: x15 :: .val x :: r) st) (hv : x.isRef = true := by rfl) (hl : storeLocals (x0 :: x1 :: x2 :: x3 :: x4 :: x5 :: x6 :: x7 :: x8 :: x9 :: x10 :: x11 :: x12 :: x13 :: x14 :: x15 :: x16 :: r).toArray 16 x = some (x0 :: x1 :: x2 :: x3 :: x4 :: x5 :: x6 :: x7 :: x8 :: x9 :: x10 :: x11 :: x12 :: x13 :: x14 :: x15 :: .val x :: r).toArray := by rfl) : Go Z EL nw R Post K h S k n pc (x0 :: x1 :: x2 :: x3 :: x4 :: x5 :: x6 :: x7 :: x8 :: x9 :: x10 :: x11 :: x12 :: x13 :: x14 :: x15 :: x16 :: r) (x :: st) := G.astoreG hd hv hl f
theorem Good.lstore16 (G : Good Z a0 EL K own code maxL ret nm) {x0 x1 x2 x3 x4 x5 x6 x7 x8 x9 x10 x11 x12 x13 x14 x15 x16 y : Slot} {r : List Slot} {x : Int64} (hd : Dc code pc (.lstore 16) 2 pc') (f : Go Z EL nw R Post K h S k n pc' (x0 :: x1 :: x2 :: x3 :: x4 :: x5 :: x6 :: x7 :: x8 :: x9 :: x10 :: x11 :: x12 :: x13 :: x14 :: x15 :: .val (.long x) :: .second :: r) st) (hl : storeLocals (x0 :: x1 :: x2 :: x3 :: x4 :: x5 :: x6 :: x7 :: x8 :: x9 :: x10 :: x11 :: x12 :: x13 :: x14 :: x15 :: x16 :: y :: r).toArray 16 (.long x) = some (x0 :: x1 :: x2 :: x3 :: x4 :: x5 :: x6 :: x7 :: x8 :: x9 :: x10 :: x11 :: x12 :: x13 :: x14 :: x15 :: .val (.long x) :: .second :: r).toArray := by rfl) : Go Z EL nw R Post K h S k n pc (x0 :: x1 :: x2 :: x3 :: x4 :: x5 :: x6 :: x7 :: x8 :: x9 :: x10 :: x11 :: x12 :: x13 :: x14 :: x15 :: x16 :: y :: r) (.long x :: st) := G.lstoreG hd hl f
theorem Good.iinc16 (G : Good Z a0 EL K own code maxL ret nm) (z : Int32) {x0 x1 x2 x3 x4 x5 x6 x7 x8 x9 x10 x11 x12 x13 x14 x15 : Slot} {r : List Slot} {c : Int} {x : Int32} (hd : Dc code pc (.iinc 16 c) 3 pc') (f : Go Z EL nw R Post K h S k n pc' (x0 :: x1 :: x2 :: x3 :: x4 :: x5 :: x6 :: x7 :: x8 :: x9 :: x10 :: x11 :: x12 :: x13 :: x14 :: x15 :: .val (.int (x + z)) :: r) st) (hz : Int32.ofInt c = z := by decide) : Go Z EL nw R Post K h S k n pc (x0 :: x1 :: x2 :: x3 :: x4 :: x5 :: x6 :: x7 :: x8 :: x9 :: x10 :: x11 :: x12 :: x13 :: x14 :: x15 :: .val (.int x) :: r) st := by subst hz; exact G.iincG hd rfl rfl f
theorem Good.istore17 (G : Good Z a0 EL K own code maxL ret nm) {x0 x1 x2 x3 x4 x5 x6 x7 x8 x9 x10 x11 x12 x13 x14 x15 x16 x17 : Slot} {r : List Slot} {x : Int32} (hd : Dc code pc (.istore 17) 2 pc') (f : Go Z EL nw R Post K h S k n pc' (x0 :: x1 :: x2 :: x3 :: x4 :: x5 :: x6 :: x7 :: x8 :: x9 :: x10 :: x11 :: x12 :: x13 :: x14 :: x15 :: x16 :: .val (.int x) :: r) st) (hl : storeLocals (x0 :: x1 :: x2 :: x3 :: x4 :: x5 :: x6 :: x7 :: x8 :: x9 :: x10 :: x11 :: x12 :: x13 :: x14 :: x15 :: x16 :: x17 :: r).toArray 17 (.int x) = some (x0 :: x1 :: x2 :: x3 :: x4 :: x5 :: x6 :: x7 :: x8 :: x9 :: x10 :: x11 :: x12 :: x13 :: x14 :: x15 :: x16 :: .val (.int x) :: r).toArray := by rfl) : Go Z EL nw R Post K h S k n pc (x0 :: x1 :: x2 :: x3 :: x4 :: x5 :: x6 :: x7 :: x8 :: x9 :: x10 :: x11 :: x12 :: x13 :: x14 :: x15 :: x16 :: x17 :: r) (.int x :: st) := G.istoreG hd hl f
theorem Good.astore17 (G : Good Z a0 EL K own code maxL ret nm) {x0 x1 x2 x3 x4 x5 x6 x7 x8 x9 x10 x11 x12 x13 x14 x15 x16 x17 : Slot} {r : List Slot} {x : Value} (hd : Dc code pc (.astore 17) 2 pc') (f : Go Z EL nw R Post K h S k n pc' (x0 :: x1 :: x2 :: x3 :: x4 :: x5 :: x6 :: x7 :: x8 :: x9 :: x10 :: x11 :: x12 :: x13 :: x14 :: x15 :: x16 :: .val x :: r) st) (hv : x.isRef = true := by rfl) (hl : storeLocals (x0 :: x1 :: x2 :: x3 :: x4 :: x5 :: x6 :: x7 :: x8 :: x9 :: x10 :: x11 :: x12 :: x13 :: x14 :: x15 :: x16 :: x17 :: r).toArray 17 x = some (x0 :: x1 :: x2 :: x3 :: x4 :: x5 :: x6 :: x7 :: x8 :: x9 :: x10 :: x11 :: x12 :: x13 :: x14 :: x15 :: x16 :: .val x :: r).toArray := by rfl) : Go Z EL nw R Post K h S k n pc (x0 :: x1 :: x2 :: x3 :: x4 :: x5 :: x6 :: x7 :: x8 :: x9 :: x10 :: x11 :: x12 :: x13 :: x14 :: x15 :: x16 :: x17 :: r) (x :: st) := G.astoreG hd hv hl f
theorem Good.lstore17 (G : Good Z a0 EL K own code maxL ret nm) {x0 x1 x2 x3 x4 x5 x6 x7 x8 x9 x10 x11 x12 x13 x14 x15 x16 x17 y : Slot} {r : List Slot} {x : Int64} (hd : Dc code pc (.lstore 17) 2 pc') (f : Go Z EL nw R Post K h S k n pc' (x0 :: x1 :: x2 :: x3 :: x4 :: x5 :: x6 :: x7 :: x8 :: x9 :: x10 :: x11 :: x12 :: x13 :: x14 :: x15 :: x16 :: .val (.long x) :: .second :: r) st) (hl : storeLocals (x0 :: x1 :: x2 :: x3 :: x4 :: x5 :: x6 :: x7 :: x8 :: x9 :: x10 :: x11 :: x12 :: x13 :: x14 :: x15 :: x16 :: x17 :: y :: r).toArray 17 (.long x) = some (x0 :: x1 :: x2 :: x3 :: x4 :: x5 :: x6 :: x7 :: x8 :: x9 :: x10 :: x11 :: x12 :: x13 :: x14 :: x15 :: x16 :: .val (.long x) :: .second :: r).toArray := by rfl) : Go Z EL nw R Post K h S k n pc (x0 :: x1 :: x2 :: x3 :: x4 :: x5 :: x6 :: x7 :: x8 :: x9 :: x10 :: x11 :: x12 :: x13 :: x14 :: x15 :: x16 :: x17 :: y :: r) (.long x :: st) := G.lstoreG hd hl f
theorem Good.iinc17 (G : Good Z a0 EL K own code maxL ret nm) (z : Int32) {x0 x1 x2 x3 x4 x5 x6 x7 x8 x9 x10 x11 x12 x13 x14 x15 x16 : Slot} {r : List Slot} {c : Int} {x : Int32} (hd : Dc code pc (.iinc 17 c) 3 pc') (f : Go Z EL nw R Post K h S k n pc' (x0 :: x1 :: x2 :: x3 :: x4 :: x5 :: x6 :: x7 :: x8 :: x9 :: x10 :: x11 :: x12 :: x13 :: x14 :: x15 :: x16 :: .val (.int (x + z)) :: r) st) (hz : Int32.ofInt c = z := by decide) : Go Z EL nw R Post K h S k n pc (x0 :: x1 :: x2 :: x3 :: x4 :: x5 :: x6 :: x7 :: x8 :: x9 :: x10 :: x11 :: x12 :: x13 :: x14 :: x15 :: x16 :: .val (.int x) :: r) st := by subst hz; exact G.iincG hd rfl rfl f
theorem Good.istore18 (G : Good Z a0 EL K own code maxL ret nm) {x0 x1 x2 x3 x4 x5 x6 x7 x8 x9 x10 x11 x12 x13 x14 x15 x16 x17 x18 : Slot} {r : List Slot} {x : Int32} (hd : Dc code pc (.istore 18) 2 pc') (f : Go Z EL nw R Post K h S k n pc' (x0 :: x1 :: x2 :: x3 :: x4 :: x5 :: x6 :: x7 :: x8 :: x9 :: x10 :: x11 :: x12 :: x13 :: x14 :: x15 :: x16 :: x17 :: .val (.int x) :: r) st) (hl : storeLocals (x0 :: x1 :: x2 :: x3 :: x4 :: x5 :: x6 :: x7 :: x8 :: x9 :: x10 :: x11 :: x12 :: x13 :: x14 :: x15 :: x16 :: x17 :: x18 :: r).toArray 18 (.int x) = some (x0 :: x1 :: x2 :: x3 :: x4 :: x5 :: x6 :: x7 :: x8 :: x9 :: x10 :: x11 :: x12 :: x13 :: x14 :: x15 :: x16 :: x17 :: .val (.int x) :: r).toArray := by rfl) : Go Z EL nw R Post K h S k n pc (x0 :: x1 :: x2 :: x3 :: x4 :: x5 :: x6 :: x7 :: x8 :: x9 :: x10 :: x11 :: x12 :: x13 :: x14 :: x15 :: x16 :: x17 :: x18 :: r) (.int x :: st) := G.istoreG hd hl f
theorem Good.astore18 (G : Good Z a0 EL K own code maxL ret nm) {x0 x1 x2 x3 x4 x5 x6 x7 x8 x9 x10 x11 x12 x13 x14 x15 x16 x17 x18 : Slot} {r : List Slot} {x : Value} (hd : Dc code pc (.astore 18) 2 pc') (f : Go Z EL nw R Post K h S k n pc' (x0 :: x1 :: x2 :: x3 :: x4 :: x5 :: x6 :: x7 :: x8 :: x9 :: x10 :: x11 :: x12 :: x13 :: x14 :: x15 :: x16 :: x17 :: .val x :: r) st) (hv : x.isRef = true := by rfl) (hl : storeLocals (x0 :: x1 :: x2 :: x3 :: x4 :: x5 :: x6 :: x7 :: x8 :: x9 :: x10 :: x11 :: x12 :: x13 :: x14 :: x15 :: x16 :: x17 :: x18 :: r).toArray 18 x = some (x0 :: x1 :: x2 :: x3 :: x4 :: x5 :: x6 :: x7 :: x8 :: x9 :: x10 :: x11 :: x12 :: x13 :: x14 :: x15 :: x16 :: x17 :: .val x :: r).toArray := by rfl) : Go Z EL nw R Post K h S k n pc (x0 :: x1 :: x2 :: x3 :: x4 :: x5 :: x6 :: x7 :: x8 :: x9 :: x10 :: x11 :: x12 :: x13 :: x14 :: x15 :: x16 :: x17 :: x18 :: r) (x :: st) := G.astoreG hd hv hl f
theorem Good.lstore18 (G : Good Z a0 EL K own code maxL ret nm) {x0 x1 x2 x3 x4 x5 x6 x7 x8 x9 x10 x11 x12 x13 x14 x15 x16 x17 x18 y : Slot} {r : List Slot} {x : Int64} (hd : Dc code pc (.lstore 18) 2 pc') (f : Go Z EL nw R Post K h S k n pc' (x0 :: x1 :: x2 :: x3 :: x4 :: x5 :: x6 :: x7 :: x8 :: x9 :: x10 :: x11 :: x12 :: x13 :: x14 :: x15 :: x16 :: x17 :: .val (.long x) :: .second :: r) st) (hl : storeLocals (x0 :: x1 :: x2 :: x3 :: x4 :: x5 :: x6 :: x7 :: x8 :: x9 :: x10 :: x11 :: x12 :: x13 :: x14 :: x15 :: x16 :: x17 :: x18 :: y :: r).toArray 18 (.long x) = some (x0 :: x1 :: x2 :: x3 :: x4 :: x5 :: x6 :: x7 :: x8 :: x9 :: x10 :: x11 :: x12 :: x13 :: x14 :: x15 :: x16 :: x17 :: .val (.long x) :: .second :: r).toArray := by rfl) : Go Z EL nw R Post K h S k n pc (x0 :: x1 :: x2 :: x3 :: x4 :: x5 :: x6 :: x7 :: x8 :: x9 :: x10 :: x11 :: x12 :: x13 :: x14 :: x15 :: x16 :: x17 :: x18 :: y :: r) (.long x :: st) := G.lstoreG hd hl f
theorem Good.iinc18 (G : Good Z a0 EL K own code maxL ret nm) (z : Int32) {x0 x1 x2 x3 x4 x5 x6 x7 x8 x9 x10 x11 x12 x13 x14 x15 x16 x17 : Slot} {r : List Slot} {c : Int} {x : Int32} (hd : Dc code pc (.iinc 18 c) 3 pc') (f : Go Z EL nw R Post K h S k n pc' (x0 :: x1 :: x2 :: x3 :: x4 :: x5 :: x6 :: x7 :: x8 :: x9 :: x10 :: x11 :: x12 :: x13 :: x14 :: x15 :: x16 :: x17 :: .val (.int (x + z)) :: r) st) (hz : Int32.ofInt c = z := by decide) : Go Z EL nw R Post K h S k n pc (x0 :: x1 :: x2 :: x3 :: x4 :: x5 :: x6 :: x7 :: x8 :: x9 :: x10 :: x11 :: x12 :: x13 :: x14 :: x15 :: x16 :: x17 :: .val (.int x) :: r) st := by subst hz; exact G.iincG hd rfl rfl f
theorem Good.istore19 (G : Good Z a0 EL K own code maxL ret nm) {x0 x1 x2 x3 x4 x5 x6 x7 x8 x9 x10 x11 x12 x13 x14 x15 x16 x17 x18 x19 : Slot} {r : List Slot} {x : Int32} (hd : Dc code pc (.istore 19) 2 pc') (f : Go Z EL nw R Post K h S k n pc' (x0 :: x1 :: x2 :: x3 :: x4 :: x5 :: x6 :: x7 :: x8 :: x9 :: x10 :: x11 :: x12 :: x13 :: x14 :: x15 :: x16 :: x17 :: x18 :: .val (.int x) :: r) st) (hl : storeLocals (x0 :: x1 :: x2 :: x3 :: x4 :: x5 :: x6 :: x7 :: x8 :: x9 :: x10 :: x11 :: x12 :: x13 :: x14 :: x15 :: x16 :: x17 :: x18 :: x19 :: r).toArray 19 (.int x) = some (x0 :: x1 :: x2 :: x3 :: x4 :: x5 :: x6 :: x7 :: x8 :: x9 :: x10 :: x11 :: x12 :: x13 :: x14 :: x15 :: x16 :: x17 :: x18 :: .val (.int x) :: r).toArray := by rfl) : Go Z EL nw R Post K h S k n pc (x0 :: x1 :: x2 :: x3 :: x4 :: x5 :: x6 :: x7 :: x8 :: x9 :: x10 :: x11 :: x12 :: x13 :: x14 :: x15 :: x16 :: x17 :: x18 :: x19 :: r) (.int x :: st) := G.istoreG hd hl f
theorem Good.astore19 (G : Good Z a0 EL K own code maxL ret nm) {x0 x1 x2 x3 x4 x5 x6 x7 x8 x9 x10 x11 x12 x13 x14 x15 x16 x17 x18 x19 : Slot} {r : List Slot} {x : Value} (hd : Dc code pc (.astore 19) 2 pc') (f : Go Z EL nw R Post K h S k n pc' (x0 :: x1 :: x2 :: x3 :: x4 :: x5 :: x6 :: x7 :: x8 :: x9 :: x10 :: x11 :: x12 :: x13 :: x14 :: x15 :: x16 :: x17 :: x18 :: .val x :: r) st) (hv : x.isRef = true := by rfl) (hl : storeLocals (x0 :: x1 :: x2 :: x3 :: x4 :: x5 :: x6 :: x7 :: x8 :: x9 :: x10 :: x11 :: x12 :: x13 :: x14 :: x15 :: x16 :: x17 :: x18 :: x19 :: r).toArray 19 x = some (x0 :: x1 :: x2 :: x3 :: x4 :: x5 :: x6 :: x7 :: x8 :: x9 :: x10 :: x11 :: x12 :: x13 :: x14 :: x15 :: x16 :: x17 :: x18 :: .val x :: r).toArray := by rfl) : Go Z EL nw R Post K h S k n pc (x0 :: x1 :: x2 :: x3 :: x4 :: x5 :: x6 :: x7 :: x8 :: x9 :: x10 :: x11 :: x12 :: x13 :: x14 :: x15 :: x16 :: x17 :: x18 :: x19 :: r) (x :: st) := G.astoreG hd hv hl f
theorem Good.lstore19 (G : Good Z a0 EL K own code maxL ret nm) {x0 x1 x2 x3 x4 x5 x6 x7 x8 x9 x10 x11 x12 x13 x14 x15 x16 x17 x18 x19 y : Slot} {r : List Slot} {x : Int64} (hd : Dc code pc (.lstore 19) 2 pc') (f : Go Z EL nw R Post K h S k n pc' (x0 :: x1 :: x2 :: x3 :: x4 :: x5 :: x6 :: x7 :: x8 :: x9 :: x10 :: x11 :: x12 :: x13 :: x14 :: x15 :: x16 :: x17 :: x18 :: .val (.long x) :: .second :: r) st) (hl : storeLocals (x0 :: x1 :: x2 :: x3 :: x4 :: x5 :: x6 :: x7 :: x8 :: x9 :: x10 :: x11 :: x12 :: x13 :: x14 :: x15 :: x16 :: x17 :: x18 :: x19 :: y :: r).toArray 19 (.long x) = some (x0 :: x1 :: x2 :: x3 :: x4 :: x5 :: x6 :: x7 :: x8 :: x9 :: x10 :: x11 :: x12 :: x13 :: x14 :: x15 :: x16 :: x17 :: x18 :: .val (.long x) :: .second :: r).toArray := by rfl) : Go Z EL nw R Post K h S k n pc (x0 :: x1 :: x2 :: x3 :: x4 :: x5 :: x6 :: x7 :: x8 :: x9 :: x10 :: x11 :: x12 :: x13 :: x14 :: x15 :: x16 :: x17 :: x18 :: x19 :: y :: r) (.long x :: st) := G.lstoreG hd hl f
theorem Good.iinc19 (G : Good Z a0 EL K own code maxL ret nm) (z : Int32) {x0 x1 x2 x3 x4 x5 x6 x7 x8 x9 x10 x11 x12 x13 x14 x15 x16 x17 x18 : Slot} {r : List Slot} {c : Int} {x : Int32} (hd : Dc code pc (.iinc 19 c) 3 pc') (f : Go Z EL nw R Post K h S k n pc' (x0 :: x1 :: x2 :: x3 :: x4 :: x5 :: x6 :: x7 :: x8 :: x9 :: x10 :: x11 :: x12 :: x13 :: x14 :: x15 :: x16 :: x17 :: x18 :: .val (.int (x + z)) :: r) st) (hz : Int32.ofInt c = z := by decide) : Go Z EL nw R Post K h S k n pc (x0 :: x1 :: x2 :: x3 :: x4 :: x5 :: x6 :: x7 :: x8 :: x9 :: x10 :: x11 :: x12 :: x13 :: x14 :: x15 :: x16 :: x17 :: x18 :: .val (.int x) :: r) st := by subst hz; exact G.iincG hd rfl rfl f
theorem Good.istore20 (G : Good Z a0 EL K own code maxL ret nm) {x0 x1 x2 x3 x4 x5 x6 x7 x8 x9 x10 x11 x12 x13 x14 x15 x16 x17 x18 x19 x20 : Slot} {r : List Slot} {x : Int32} (hd : Dc code pc (.istore 20) 2 pc') (f : Go Z EL nw R Post K h S k n pc' (x0 :: x1 :: x2 :: x3 :: x4 :: x5 :: x6 :: x7 :: x8 :: x9 :: x10 :: x11 :: x12 :: x13 :: x14 :: x15 :: x16 :: x17 :: x18 :: x19 :: .val (.int x) :: r) st) (hl : storeLocals (x0 :: x1 :: x2 :: x3 :: x4 :: x5 :: x6 :: x7 :: x8 :: x9 :: x10 :: x11 :: x12 :: x13 :: x14 :: x15 :: x16 :: x17 :: x18 :: x19 :: x20 :: r).toArray 20 (.int x) = some (x0 :: x1 :: x2 :: x3 :: x4 :: x5 :: x6 :: x7 :: x8 :: x9 :: x10 :: x11 :: x12 :: x13 :: x14 :: x15 :: x16 :: x17 :: x18 :: x19 :: .val (.int x) :: r).toArray := by rfl) : Go Z EL nw R Post K h S k n pc (x0 :: x1 :: x2 :: x3 :: x4 :: x5 :: x6 :: x7 :: x8 :: x9 :: x10 :: x11 :: x12 :: x13 :: x14 :: x15 :: x16 :: x17 :: x18 :: x19 :: x20 :: r) (.int x :: st) := G.istoreG hd hl f
theorem Good.astore20 (G : Good Z a0 EL K own code maxL ret nm) {x0 x1 x2 x3 x4 x5 x6 x7 x8 x9 x10 x11 x12 x13 x14 x15 x16 x17 x18 x19 x20 : Slot} {r : List Slot} {x : Value} (hd : Dc code pc (.astore 20) 2 pc') (f : Go Z EL nw R Post K h S k n pc' (x0 :: x1 :: x2 :: x3 :: x4 :: x5 :: x6 :: x7 :: x8 :: x9 :: x10 :: x11 :: x12 :: x13 :: x14 :: x15 :: x16 :: x17 :: x18 :: x19 :: .val x :: r) st) (hv : x.isRef = true := by rfl) (hl : storeLocals (x0 :: x1 :: x2 :: x3 :: x4 :: x5 :: x6 :: x7 :: x8 :: x9 :: x10 :: x11 :: x12 :: x13 :: x14 :: x15 :: x16 :: x17 :: x18 :: x19 :: x20 :: r).toArray 20 x = some (x0 :: x1 :: x2 :: x3 :: x4 :: x5 :: x6 :: x7 :: x8 :: x9 :: x10 :: x11 :: x12 :: x13 :: x14 :: x15 :: x16 :: x17 :: x18 :: x19 :: .val x :: r).toArray := by rfl) : Go Z EL nw R Post K h S k n pc (x0 :: x1 :: x2 :: x3 :: x4 :: x5 :: x6 :: x7 :: x8 :: x9 :: x10 :: x11 :: x12 :: x13 :: x14 :: x15 :: x16 :: x17 :: x18 :: x19 :: x20 :: r) (x :: st) := G.astoreG hd hv hl f
theorem Good.lstore20 (G : Good Z a0 EL K own code maxL ret nm) {x0 x1 x2 x3 x4 x5 x6 x7 x8 x9 x10 x11 x12 x13 x14 x15 x16 x17 x18 x19 x20 y : Slot} {r : List Slot} {x : Int64} (hd : Dc code pc (.lstore 20) 2 pc') (f : Go Z EL nw R Post K h S k n pc' (x0 :: x1 :: x2 :: x3 :: x4 :: x5 :: x6 :: x7 :: x8 :: x9 :: x10 :: x11 :: x12 :: x13 :: x14 :: x15 :: x16 :: x17 :: x18 :: x19 :: .val (.long x) :: .second :: r) st) (hl : storeLocals (x0 :: x1 :: x2 :: x3 :: x4 :: x5 :: x6 :: x7 :: x8 :: x9 :: x10 :: x11 :: x12 :: x13 :: x14 :: x15 :: x16 :: x17 :: x18 :: x19 :: x20 :: y :: r).toArray 20 (.long x) = some (x0 :: x1 :: x2 :: x3 :: x4 :: x5 :: x6 :: x7 :: x8 :: x9 :: x10 :: x11 :: x12 :: x13 :: x14 :: x15 :: x16 :: x17 :: x18 :: x19 :: .val (.long x) :: .second :: r).toArray := by rfl) : Go Z EL nw R Post K h S k n pc (x0 :: x1 :: x2 :: x3 :: x4 :: x5 :: x6 :: x7 :: x8 :: x9 :: x10 :: x11 :: x12 :: x13 :: x14 :: x15 :: x16 :: x17 :: x18 :: x19 :: x20 :: y :: r) (.long x :: st) := G.lstoreG hd hl f
theorem Good.iinc20 (G : Good Z a0 EL K own code maxL ret nm) (z : Int32) {x0 x1 x2 x3 x4 x5 x6 x7 x8 x9 x10 x11 x12 x13 x14 x15 x16 x17 x18 x19 : Slot} {r : List Slot} {c : Int} {x : Int32} (hd : Dc code pc (.iinc 20 c) 3 pc') (f : Go Z EL nw R Post K h S k n pc' (x0 :: x1 :: x2 :: x3 :: x4 :: x5 :: x6 :: x7 :: x8 :: x9 :: x10 :: x11 :: x12 :: x13 :: x14 :: x15 :: x16 :: x17 :: x18 :: x19 :: .val (.int (x + z)) :: r) st) (hz : Int32.ofInt c = z := by decide) : Go Z EL nw R Post K h S k n pc (x0 :: x1 :: x2 :: x3 :: x4 :: x5 :: x6 :: x7 :: x8 :: x9 :: x10 :: x11 :: x12 :: x13 :: x14 :: x15 :: x16 :: x17 :: x18 :: x19 :: .val (.int x) :: r) st := by subst hz; exact G.iincG hd rfl rfl f
theorem Good.istore21 (G : Good Z a0 EL K own code maxL ret nm) {x0 x1 x2 x3 x4 x5 x6 x7 x8 x9 x10 x11 x12 x13 x14 x15 x16 x17 x18 x19 x20 x21 : Slot} {r : List Slot} {x : Int32} (hd : Dc code pc (.istore 21) 2 pc') (f : Go Z EL nw R Post K h S k n pc' (x0 :: x1 :: x2 :: x3 :: x4 :: x5 :: x6 :: x7 :: x8 :: x9 :: x10 :: x11 :: x12 :: x13 :: x14 :: x15 :: x16 :: x17 :: x18 :: x19 :: x20 :: .val (.int x) :: r) st) (hl : storeLocals (x0 :: x1 :: x2 :: x3 :: x4 :: x5 :: x6 :: x7 :: x8 :: x9 :: x10 :: x11 :: x12 :: x13 :: x14 :: x15 :: x16 :: x17 :: x18 :: x19 :: x20 :: x21 :: r).toArray 21 (.int x) = some (x0 :: x1 :: x2 :: x3 :: x4 :: x5 :: x6 :: x7 :: x8 :: x9 :: x10 :: x11 :: x12 :: x13 :: x14 :: x15 :: x16 :: x17 :: x18 :: x19 :: x20 :: .val (.int x) :: r).toArray := by rfl) : Go Z EL nw R Post K h S k n pc (x0 :: x1 :: x2 :: x3 :: x4 :: x5 :: x6 :: x7 :: x8 :: x9 :: x10 :: x11 :: x12 :: x13 :: x14 :: x15 :: x16 :: x17 :: x18 :: x19 :: x20 :: x21 :: r) (.int x :: st) := G.istoreG hd hl f
theorem Good.astore21 (G : Good Z a0 EL K own code maxL ret nm) {x0 x1 x2 x3 x4 x5 x6 x7 x8 x9 x10 x11 x12 x13 x14 x15 x16 x17 x18 x19 x20 x21 : Slot} {r : List Slot} {x : Value} (hd : Dc code pc (.astore 21) 2 pc') (f : Go Z EL nw R Post K h S k n pc' (x0 :: x1 :: x2 :: x3 :: x4 :: x5 :: x6 :: x7 :: x8 :: x9 :: x10 :: x11 :: x12 :: x13 :: x14 :: x15 :: x16 :: x17 :: x18 :: x19 :: x20 :: .val x :: r) st) (hv : x.isRef = true := by rfl) (hl : storeLocals (x0 :: x1 :: x2 :: x3 :: x4 :: x5 :: x6 :: x7 :: x8 :: x9 :: x10 :: x11 :: x12 :: x13 :: x14 :: x15 :: x16 :: x17 :: x18 :: x19 :: x20 :: x21 :: r).toArray 21 x = some (x0 :: x1 :: x2 :: x3 :: x4 :: x5 :: x6 :: x7 :: x8 :: x9 :: x10 :: x11 :: x12 :: x13 :: x14 :: x15 :: x16 :: x17 :: x18 :: x19 :: x20 :: .val x :: r).toArray := by rfl) : Go Z EL nw R Post K h S k n pc (x0 :: x1 :: x2 :: x3 :: x4 :: x5 :: x6 :: x7 :: x8 :: x9 :: x10 :: x11 :: x12 :: x13 :: x14 :: x15 :: x16 :: x17 :: x18 :: x19 :: x20 :: x21 :: r) (x :: st) := G.astoreG hd hv hl f
theorem Good.lstore21 (G : Good Z a0 EL K own code maxL ret nm) {x0 x1 x2 x3 x4 x5 x6 x7 x8 x9 x10 x11 x12 x13 x14 x15 x16 x17 x18 x19 x20 x21 y : Slot} {r : List Slot} {x : Int64} (hd : Dc code pc (.lstore 21) 2 pc') (f : Go Z EL nw R Post K h S k n pc' (x0 :: x1 :: x2 :: x3 :: x4 :: x5 :: x6 :: x7 :: x8 :: x9 :: x10 :: x11 :: x12 :: x13 :: x14 :: x15 :: x16 :: x17 :: x18 :: x19 :: x20 :: .val (.long x) :: .second :: r) st) (hl : storeLocals (x0 :: x1 :: x2 :: x3 :: x4 :: x5 :: x6 :: x7 :: x8 :: x9 :: x10 :: x11 :: x12 :: x13 :: x14 :: x15 :: x16 :: x17 :: x18 :: x19 :: x20 :: x21 :: y :: r).toArray 21 (.long x) = some (x0 :: x1 :: x2 :: x3 :: x4 :: x5 :: x6 :: x7 :: x8 :: x9 :: x10 :: x11 :: x12 :: x13 :: x14 :: x15 :: x16 :: x17 :: x18 :: x19 :: x20 :: .val (.long x) :: .second :: r).toArray := by rfl) : Go Z EL nw R Post K h S k n pc (x0 :: x1 :: x2 :: x3 :: x4 :: x5 :: x6 :: x7 :: x8 :: x9 :: x10 :: x11 :: x12 :: x13 :: x14 :: x15 :: x16 :: x17 :: x18 :: x19 :: x20 :: x21 :: y :: r) (.long x :: st) := G.lstoreG hd hl f
theorem Good.iinc21 (G : Good Z a0 EL K own code maxL ret nm) (z : Int32) {x0 x1 x2 x3 x4 x5 x6 x7 x8 x9 x10 x11 x12 x13 x14 x15 x16 x17 x18 x19 x20 : Slot} {r : List Slot} {c : Int} {x : Int32} (hd : Dc code pc (.iinc 21 c) 3 pc') (f : Go Z EL nw R Post K h S k n pc' (x0 :: x1 :: x2 :: x3 :: x4 :: x5 :: x6 :: x7 :: x8 :: x9 :: x10 :: x11 :: x12 :: x13 :: x14 :: x15 :: x16 :: x17 :: x18 :: x19 :: x20 :: .val (.int (x + z)) :: r) st) (hz : Int32.ofInt c = z := by decide) : Go Z EL nw R Post K h S k n pc (x0 :: x1 :: x2 :: x3 :: x4 :: x5 :: x6 :: x7 :: x8 :: x9 :: x10 :: x11 :: x12 :: x13 :: x14 :: x15 :: x16 :: x17 :: x18 :: x19 :: x20 :: .val (.int x) :: r) st := by subst hz; exact G.iincG hd rfl rfl f
end Plain
end Jvm.Own
namespace Jvm.Own
open Jvm Jvm.ClassFile Sem Op Lib Jvm.Free Jvm.Stand Jvm.LawKit Jvm.RoadKit Bundle
/-- the array at a holds just these values -/
def Al (Z : State) (h : Heap) (a : Addr) (ty : FieldType) (vs : List Value) : Prop := ∃ c : Cell, Arr Z h a c ty ∧ c.slots = vs.toArray ∧ vs.length < 2147483648 ∧ ∀ v ∈ vs, fits ty v = true
section AlFacts
variable {Z : State} {h h' : Heap} {a b : Addr} {ty : FieldType} {vs : List Value} {ws : List Addr} {sl : Nat} {v : Value} {C : String}
theorem Al.lt (F : Al Z h a ty vs) : a < h.size := by obtain ⟨c, A, -⟩ := F; exact A.lt
theorem Al.ext (F : Al Z h a ty vs) (E : Ext h h') : Al Z h' a ty vs := by obtain ⟨c, A, r⟩ := F; exact ⟨c, A.ext E, r⟩
theorem Al.other (F : Al Z h b ty vs) (W : Wr h h' a sl v) (q : b ≠ a) : Al Z h' b ty vs := by obtain ⟨c, A, r⟩ := F; exact ⟨c, A.other W q, r⟩
theorem Al.keep (F : Al Z h a ty vs) (K : Keep h h' ws) (q : a ∉ ws) : Al Z h' a ty vs := by obtain ⟨c, A, r⟩ := F; exact ⟨c, ⟨K.2.1 a c A.1 q, A.2⟩, r⟩
theorem Al.set (F : Al Z h a ty vs) (W : Wr h h' a sl v) (hv : fits ty v = true) : Al Z h' a ty (vs.set sl v) := by
  obtain ⟨c, A, r1, r2, r3⟩ := F
  refine ⟨_, A.same W, by simp [Cell.setSlot, r1], by simpa using r2, fun w hw => ?_⟩
  rcases List.mem_or_eq_of_mem_set hw with q | q
  · exact r3 w q
  · rw [q]; exact hv
theorem Al.len (F : Al Z h a ty vs) : vs.length < 2147483648 := by obtain ⟨c, A, r1, r2, r3⟩ := F; exact r2
theorem Al.arv (F : Al Z h a ty vs) (d : Value) : ∃ k, Arv Z h a k ty (Int32.ofNat vs.length) vs d := by
  obtain ⟨c, A, r1, r2, r3⟩ := F
  have e : (Int32.ofNat vs.length).toInt = (vs.length : Int) := len_toInt r2
  have e1 := back32 (n := Int32.ofNat vs.length) (by rw [Int32.lt_iff_toInt_lt, e]; simp)
  have e2 : (Int32.ofNat vs.length).toNatClampNeg = vs.length := by simp [Int32.toNatClampNeg, e]
  refine ⟨c.cls, c, A, rfl, by rw [r1, e2]; simp, by rw [Int32.lt_iff_toInt_lt, e]; simp, fun i hi => ?_, fun i hi => ?_⟩
  · rw [r1] at hi ⊢
    simp only [List.size_toArray] at hi
    simp [List.getD_eq_getElem?_getD, hi]
  · rw [r1] at hi
    simp only [List.size_toArray] at hi
    have : vs.getD i d = vs[i] := by simp [List.getD_eq_getElem?_getD, hi]
    rw [this]
    exact r3 _ (List.getElem_mem hi)
theorem Al.of_arv {k : ClassId} {z : Int32} {d : Value} (F : Arv Z h a k ty z vs d) (hl : z.toNatClampNeg = vs.length) : Al Z h a ty vs := by
  obtain ⟨c, A, r1, r2, r3, H, G⟩ := F
  have hs : c.slots.size = vs.length := r2.trans hl
  refine ⟨c, A, ?_, by rw [← hl]; exact (back32 r3).2, fun v hv => ?_⟩
  · apply Array.ext
    · simp [hs]
    · intro i h1 h2
      have q := H i h1
      rw [Array.getElem?_eq_getElem h1] at q
      have q' := Option.some.inj q
      rw [q']
      have h3 : i < vs.length := by rw [← hs]; exact h1
      simp [List.getD_eq_getElem?_getD, h3]
  · obtain ⟨i, hi, rfl⟩ := List.getElem_of_mem hv
    have := G i (by rw [hs]; exact hi)
    simpa [List.getD_eq_getElem?_getD, hi] using this
theorem Al.same {vs' : List Value} (F : Al Z h a ty vs) (G : Al Z h a ty vs') : vs = vs' := by
  obtain ⟨c, A, r1, -⟩ := F
  obtain ⟨c', A', r1', -⟩ := G
  have e := A.1.symm.trans A'.1
  cases e
  have := r1.symm.trans r1'
  simpa using this
theorem Al.neExa {a0 : Array Value} {cnt : Nat} (F : Al Z h b ty vs) (E : Exa Z h a C) (wi : (Cond.instantiable C cnt).before a0 Z = true) : a ≠ b := by
  obtain ⟨c, A, -⟩ := F; exact ne_arr E wi A
theorem ext_keep (E : Ext h h') (ws : List Addr) : Keep h h' ws := (Keep.refl h ws).ext E
theorem keep_nil_ext (K : Keep h h' []) : Ext h h' := ⟨K.1, fun a c q => K.2.1 a c q nin0⟩
theorem nat_idx {j : Int32} {i : Nat} (hj : j.toInt = (i : Int)) : ¬ j < 0 ∧ j.toNatClampNeg = i := by
  constructor
  · rw [Int32.lt_iff_toInt_lt, hj]; simp
  · simp [Int32.toNatClampNeg, hj]
theorem Sta.ext' {C n d : String} (E : Ext h h') (F : Sta Z h C n d v) : Sta Z h' C n d v := F.ext E
/-- a static's cell is none of the freshly made ones -/
theorem Sta.keep {C n d : String} (F : Sta Z h C n d v) (K : Keep h h' ws) (q : ∀ x ∈ ws, ∀ cell : Cell, h[x]? = some cell → cell.vm.isStatics = false) : Sta Z h' C n d v := by
  obtain ⟨cf, i, k, f, st, cell, h1, h2, h3, h4, h5, h6, r⟩ := F
  exact ⟨cf, i, k, f, st, cell, h1, h2, h3, h4, K.2.1 _ _ h5 (fun z => by have := q _ z _ h5; rw [h6] at this; cases this), h6, r⟩
/-- a static of the start stands, where all that was written is new -/
theorem Sta.old {C n d : String} (F : Sta Z Z.heap C n d v) (O : Ext Z.heap h) : Sta Z h C n d v := F.ext O
theorem Fld.oth {a0 : Array Value} {C O O' fn fn' d d' : String} {w : Value} (F : Fld Z h b O fn d w) (W : Wr h h' a (RoadKit.slotOf Z O' fn' d') v) (L1 : Laid Z a0 C O fn d) (L2 : Laid Z a0 C O' fn' d') (hn : fn ≠ fn') (h1 : (parseFieldDescriptor d).isSome = true) (h2 : (parseFieldDescriptor d').isSome = true) : Fld Z h' b O fn d w := by
  obtain ⟨t1, e1⟩ := Option.isSome_iff_exists.mp h1
  obtain ⟨t2, e2⟩ := Option.isSome_iff_exists.mp h2
  exact F.other W (Or.inr (slot_ne L1 L2 hn e1 e2))
end AlFacts
section Heap
variable {Z : State} {a0 : Array Value} {EL : List (String × Nat)} {nw : Bool} {R : Room} {Post : Pst} {K : Kx} {own : String} {code : ByteArray} {maxL : Nat} {ret : Option FieldType} {nm : String} {h h' : Heap} {S : List Addr} {k n pc pc' : Nat} {L : List Slot} {st : List Value} {l : Launch}
/-- a step that leaves the heap -/
theorem Go.calm {L' : List Slot} {st' : List Value} (G : Good Z a0 EL K own code maxL ret nm)
    (q : ∀ (T : State) (vm0 : Vm) (locs : List Loc), Stand K.p K.l K.e R (K.s.setVm vm0) K.m K.as K.below K.meth K.c T locs k n → Z.Warmed39 (K.s.setVm vm0).vm → (K.s.setVm vm0).vm.findClass own = some K.m.cls → T.heap = h →
      ∃ T', Stand K.p K.l K.e R (K.s.setVm vm0) K.m K.as K.below K.meth K.c T' locs k n ∧ T'.heap = h ∧ ∀ target, Steps K.p.tables K.e K.below (T'.setTop (mkF K.m pc' L'.toArray st')) target → Steps K.p.tables K.e K.below (T.setTop (mkF K.m pc L.toArray st)) target)
    (f : Go Z EL nw R Post K h S k n pc' L' st') : Go Z EL nw R Post K h S k n pc L st := fun T I => by
  obtain ⟨vm0, k0, locs, X, hS, hk0, hZ, e, r⟩ := I
  obtain ⟨T', X', e', stp⟩ := q T vm0 locs X hZ (G.hown hS) e
  exact (f T' ⟨vm0, k0, locs, X', hS, hk0, hZ, e', r⟩).step stp
/-- a step that makes one cell -/
theorem Go.grow {L' : List Slot} {st' : List Value} {k' n' : Nat} {P : Heap → Prop} (G : Good Z a0 EL K own code maxL ret nm)
    (q : ∀ (T : State) (vm0 : Vm) (locs : List Loc), Stand K.p K.l K.e R (K.s.setVm vm0) K.m K.as K.below K.meth K.c T locs k n → Z.Warmed39 (K.s.setVm vm0).vm → (K.s.setVm vm0).vm.findClass own = some K.m.cls → T.heap = h →
      ∃ T' h', Stand K.p K.l K.e R (K.s.setVm vm0) K.m K.as K.below K.meth K.c T' locs k' n' ∧ T'.heap = h' ∧ Ext h h' ∧ h.size < h'.size ∧ P h' ∧ ∀ target, Steps K.p.tables K.e K.below (T'.setTop (mkF K.m pc' L'.toArray st')) target → Steps K.p.tables K.e K.below (T.setTop (mkF K.m pc L.toArray st)) target)
    (f : ∀ h', Ext h h' → h.size < h'.size → P h' → Go Z EL nw R Post K h' (h.size :: S) k' n' pc' L' st') : Go Z EL nw R Post K h S k n pc L st := fun T I => by
  obtain ⟨vm0, k0, locs, X, hS, hk0, hZ, e, N, CH, hSf, hw, hO⟩ := I
  obtain ⟨T', h', X', e', E, hlt, hP, stp⟩ := q T vm0 locs X hZ (G.hown hS) e
  have hn0 : Z.heap.size ≤ h.size := hO.1
  refine (f h' E hlt hP T' ⟨vm0, k0, locs, X', hS, Nat.le_trans hk0 E.1, hZ, e', N, CH.trans (CHr.ext E CH.1), fun a ha => ?_, hw, ⟨Nat.le_trans hO.1 E.1, fun x c q => E.2 x c (hO.2 x c q)⟩⟩).step stp
  rcases List.mem_cons.mp ha with rfl | ha
  · exact ⟨hn0, hlt, Safe.ext E CH.1 (Safe.new (Nat.le_refl _))⟩
  · obtain ⟨b1, b2, b3⟩ := hSf a ha
    exact ⟨b1, Nat.lt_of_lt_of_le b2 E.1, Safe.ext E CH.1 b3⟩
/-- a step that writes one place of a cell of S -/
theorem Go.write {L' : List Slot} {st' : List Value} {a : Addr} {sl : Nat} {v : Value} (G : Good Z a0 EL K own code maxL ret nm) (ha : a ∈ S)
    (q : ∀ (T : State) (vm0 : Vm) (locs : List Loc), Stand K.p K.l K.e R (K.s.setVm vm0) K.m K.as K.below K.meth K.c T locs k n → Z.Warmed39 (K.s.setVm vm0).vm → (K.s.setVm vm0).vm.findClass own = some K.m.cls → T.heap = h →
      ∃ T' h', Stand K.p K.l K.e R (K.s.setVm vm0) K.m K.as K.below K.meth K.c T' (locs ++ [⟨a, sl⟩]) k n ∧ T'.heap = h' ∧ Wr h h' a sl v ∧ ∀ target, Steps K.p.tables K.e K.below (T'.setTop (mkF K.m pc' L'.toArray st')) target → Steps K.p.tables K.e K.below (T.setTop (mkF K.m pc L.toArray st)) target)
    (f : ∀ h', Wr h h' a sl v → Go Z EL nw R Post K h' S k n pc' L' st') : Go Z EL nw R Post K h S k n pc L st := fun T I => by
  obtain ⟨vm0, k0, locs, X, hS, hk0, hZ, e, N, CH, hSf, hw, hO⟩ := I
  obtain ⟨T', h', X', e', W, stp⟩ := q T vm0 locs X hZ (G.hown hS) e
  obtain ⟨c1, c2, c3⟩ := hSf a ha
  refine (f h' W T' ⟨vm0, k0, _, X', hS, by rw [W.size]; exact hk0, hZ, e', Fr.snoc X' N c1, CH.trans (CHr.wr W c3 CH.1), fun x hx => ?_, hw, ⟨by rw [W.size]; exact hO.1, fun x c q => (Keep.of_wr W).2.1 x c (hO.2 x c q) (fun z => by cases List.mem_singleton.mp z; exact absurd (Array.getElem?_eq_some_iff.mp q).1 (Nat.not_lt.mpr c1))⟩⟩).step stp
  obtain ⟨b1, b2, b3⟩ := hSf x hx
  exact ⟨b1, by rw [W.size]; exact b2, Safe.wr W c3 CH.1 b3⟩
theorem Good.getF (G : Good Z a0 EL K own code maxL ret nm) {R0 O fn d : String} {index : Nat} {a : Addr} {v : Value} (hd : Dc code pc (.getfield index) 3 pc') (w : (Cond.fieldLink own index R0 fn d).before a0 Z = true) (F : Fld Z h a O fn d v) (f : Go Z EL nw R Post K h S k n pc' L (v :: st)) (via : Via Z R0 O fn d := by exact Via.refl) : Go Z EL nw R Post K h S k n pc L (.ref a :: st) := by
  obtain ⟨hd, rfl⟩ := hd
  refine Go.calm G (fun T vm0 locs X hZ hown e => ?_) f
  exact getF X G.1 hZ hown (host := "") (Or.inl w) via e F (g := mkF K.m pc L.toArray (.ref a :: st)) rfl rfl (hb G.2.1 hd)
theorem Good.getS (G : Good Z a0 EL K own code maxL ret nm) {R0 O fn d : String} {index : Nat} {v : Value} (hd : Dc code pc (.getstatic index) 3 pc') (w : (Cond.fieldLink own index R0 fn d).before a0 Z = true) (F : Sta Z Z.heap O fn d v) (f : Go Z EL nw R Post K h S k n pc' L (v :: st)) (via : Via Z R0 O fn d := by exact Via.refl) : Go Z EL nw R Post K h S k n pc L st := by
  obtain ⟨hd, rfl⟩ := hd
  refine Go.oldIn fun hO => ?_
  have F := F.ext hO
  refine Go.calm G (fun T vm0 locs X hZ hown e => ?_) f
  exact getS X G.1 hZ hown (host := "") w via e F (g := mkF K.m pc L.toArray st) rfl (hb G.2.1 hd)
theorem Good.ldcI (G : Good Z a0 EL K own code maxL ret nm) {index : Nat} {v : Int32} (hd : Dc code pc (.ldc index) 2 pc') (w : (Cond.constant own index v).before a0 Z = true) (f : Go Z EL nw R Post K h S k n pc' L (.int v :: st)) : Go Z EL nw R Post K h S k n pc L st := by
  obtain ⟨hd, rfl⟩ := hd
  refine Go.calm G (fun T vm0 locs X hZ hown e => ⟨T, X, e, ?_⟩) f
  exact X.ldcInt G.1 hown (mvT hZ w) (g := mkF K.m pc L.toArray st) rfl (hb G.2.1 hd)
theorem Good.ldc2J (G : Good Z a0 EL K own code maxL ret nm) {index : Nat} {v : Int64} (hd : Dc code pc (.ldc2_w index) 3 pc') (w : (Cond.constantLong own index v).before a0 Z = true) (f : Go Z EL nw R Post K h S k n pc' L (.long v :: st)) : Go Z EL nw R Post K h S k n pc L st := by
  obtain ⟨hd, rfl⟩ := hd
  refine Go.calm G (fun T vm0 locs X hZ hown e => ⟨T, X, e, ?_⟩) f
  exact X.ldc2Long G.1 hown (mvT hZ w) (g := mkF K.m pc L.toArray st) rfl (hb G.2.1 hd)
theorem Good.castR (G : Good Z a0 EL K own code maxL ret nm) {C : String} {index : Nat} {a : Addr} (hd : Dc code pc (.checkcast index) 3 pc') (w : (Cond.classLink own index C).before a0 Z = true) (F : Ins Z h a C true) (f : Go Z EL nw R Post K h S k n pc' L (.ref a :: st)) : Go Z EL nw R Post K h S k n pc L (.ref a :: st) := by
  obtain ⟨hd, rfl⟩ := hd
  refine Go.calm G (fun T vm0 locs X hZ hown e => ?_) f
  exact castY X G.1 hZ hown w e F (g := mkF K.m pc L.toArray (.ref a :: st)) rfl rfl (hb G.2.1 hd)
theorem Good.instY (G : Good Z a0 EL K own code maxL ret nm) {C : String} {index : Nat} {a : Addr} (hd : Dc code pc (.instanceof index) 3 pc') (w : (Cond.classLink own index C).before a0 Z = true) (F : Ins Z h a C true) (f : Go Z EL nw R Post K h S k n pc' L (.int 1 :: st)) : Go Z EL nw R Post K h S k n pc L (.ref a :: st) := by
  obtain ⟨hd, rfl⟩ := hd
  refine Go.calm G (fun T vm0 locs X hZ hown e => ?_) f
  exact instY X G.1 hZ hown w e F (g := mkF K.m pc L.toArray (.ref a :: st)) rfl rfl (hb G.2.1 hd)
theorem Good.instNo (G : Good Z a0 EL K own code maxL ret nm) {C D : String} {index : Nat} {a : Addr} (hd : Dc code pc (.instanceof index) 3 pc') (w : (Cond.classLink own index C).before a0 Z = true) (E : Exa Z h a D) (F : ∃ c t, Z.vm.findClass D = some c ∧ Z.vm.findClass C = some t ∧ Z.vm.assignable c t = false) (f : Go Z EL nw R Post K h S k n pc' L (.int 0 :: st)) : Go Z EL nw R Post K h S k n pc L (.ref a :: st) := by
  obtain ⟨hd, rfl⟩ := hd
  refine Go.calm G (fun T vm0 locs X hZ hown e => ?_) f
  exact instNo X G.1 hZ hown w e E F (g := mkF K.m pc L.toArray (.ref a :: st)) rfl rfl (hb G.2.1 hd)
theorem Good.instNull (G : Good Z a0 EL K own code maxL ret nm) {index : Nat} (hd : Dc code pc (.instanceof index) 3 pc') (f : Go Z EL nw R Post K h S k n pc' L (.int 0 :: st)) : Go Z EL nw R Post K h S k n pc L (.null :: st) := by
  obtain ⟨hd, rfl⟩ := hd
  refine Go.calm G (fun T vm0 locs X hZ hown e => ⟨T, X, e, ?_⟩) f
  exact X.instanceofNull G.1 (g := mkF K.m pc L.toArray (.null :: st)) rfl rfl (hb G.2.1 hd)
theorem Good.castNull (G : Good Z a0 EL K own code maxL ret nm) {index : Nat} (hd : Dc code pc (.checkcast index) 3 pc') (f : Go Z EL nw R Post K h S k n pc' L (.null :: st)) : Go Z EL nw R Post K h S k n pc L (.null :: st) := by
  obtain ⟨hd, rfl⟩ := hd
  refine Go.calm G (fun T vm0 locs X hZ hown e => ⟨T, X, e, ?_⟩) f
  exact X.checkcastNull G.1 (g := mkF K.m pc L.toArray (.null :: st)) rfl rfl (hb G.2.1 hd)
theorem Good.alen (G : Good Z a0 EL K own code maxL ret nm) {a : Addr} {ty : FieldType} {vs : List Value} (z : Int32) (hd : Dc code pc .arraylength 1 pc') (A : Al Z h a ty vs) (hz : z.toInt = (vs.length : Int)) (f : Go Z EL nw R Post K h S k n pc' L (.int z :: st)) : Go Z EL nw R Post K h S k n pc L (.ref a :: st) := by
  obtain ⟨hd, rfl⟩ := hd
  obtain ⟨c, A1, A2, A3, A4⟩ := A
  have ez : c.slots.size.toInt32 = z := by
    apply Int32.toInt_inj.mp
    rw [hz, A2]
    simp only [List.size_toArray]
    exact len_toInt A3
  refine Go.calm G (fun T vm0 locs X hZ hown e => ⟨T, X, e, fun t q => ?_⟩) f
  refine X.arraylength G.1 (by rw [e]; exact A1.1) (State.isArrayOf_alike hZ.alike A1.2.1) (g := mkF K.m pc L.toArray (.ref a :: st)) rfl rfl (hb G.2.1 hd) t ?_
  rw [ez]; exact q
theorem Good.caload (G : Good Z a0 EL K own code maxL ret nm) {a : Addr} {vs : List Value} {j : Int32} {i : Nat} {v : Value} (hd : Dc code pc .caload 1 pc') (A : Al Z h a .char vs) (hj : j.toInt = (i : Int)) (hv : vs[i]? = some v) (f : Go Z EL nw R Post K h S k n pc' L (v :: st)) : Go Z EL nw R Post K h S k n pc L (.int j :: .ref a :: st) := by
  obtain ⟨hd, rfl⟩ := hd
  obtain ⟨c, A1, A2, A3, A4⟩ := A
  obtain ⟨j1, j2⟩ := nat_idx hj
  have hlt := (List.getElem?_eq_some_iff.mp hv).1
  refine Go.calm G (fun T vm0 locs X hZ hown e => ⟨T, X, e, fun t q => ?_⟩) f
  exact X.caload G.1 (by rw [e]; exact A1.1) (State.isArrayOf_alike hZ.alike A1.2.1) A1.2.2 (by rw [j2, A2]; simp only [List.size_toArray]; rintro (q | q); exact j1 q; omega) (by rw [j2, A2]; simpa using hv) (g := mkF K.m pc L.toArray (.int j :: .ref a :: st)) rfl rfl (hb G.2.1 hd) t q
theorem Good.baload (G : Good Z a0 EL K own code maxL ret nm) {a : Addr} {vs : List Value} {j : Int32} {i : Nat} {v : Value} (hd : Dc code pc .baload 1 pc') (A : Al Z h a .byte vs) (hj : j.toInt = (i : Int)) (hv : vs[i]? = some v) (f : Go Z EL nw R Post K h S k n pc' L (v :: st)) : Go Z EL nw R Post K h S k n pc L (.int j :: .ref a :: st) := by
  obtain ⟨hd, rfl⟩ := hd
  obtain ⟨c, A1, A2, A3, A4⟩ := A
  obtain ⟨j1, j2⟩ := nat_idx hj
  have hlt := (List.getElem?_eq_some_iff.mp hv).1
  refine Go.calm G (fun T vm0 locs X hZ hown e => ⟨T, X, e, fun t q => ?_⟩) f
  exact X.baloadBytes G.1 (by rw [e]; exact A1.1) (State.isArrayOf_alike hZ.alike A1.2.1) A1.2.2 (by rw [j2, A2]; simp only [List.size_toArray]; rintro (q | q); exact j1 q; omega) (by rw [j2, A2]; simpa using hv) (g := mkF K.m pc L.toArray (.int j :: .ref a :: st)) rfl rfl (hb G.2.1 hd) t q
theorem Good.laload (G : Good Z a0 EL K own code maxL ret nm) {a : Addr} {vs : List Value} {j : Int32} {i : Nat} {v : Value} (hd : Dc code pc .laload 1 pc') (A : Al Z h a .long vs) (hj : j.toInt = (i : Int)) (hv : vs[i]? = some v) (f : Go Z EL nw R Post K h S k n pc' L (v :: st)) : Go Z EL nw R Post K h S k n pc L (.int j :: .ref a :: st) := by
  obtain ⟨hd, rfl⟩ := hd
  obtain ⟨c, A1, A2, A3, A4⟩ := A
  obtain ⟨j1, j2⟩ := nat_idx hj
  have hlt := (List.getElem?_eq_some_iff.mp hv).1
  refine Go.calm G (fun T vm0 locs X hZ hown e => ⟨T, X, e, fun t q => ?_⟩) f
  exact X.laload G.1 (by rw [e]; exact A1.1) (State.isArrayOf_alike hZ.alike A1.2.1) A1.2.2 (by rw [j2, A2]; simp only [List.size_toArray]; rintro (q | q); exact j1 q; omega) (by rw [j2, A2]; simpa using hv) (g := mkF K.m pc L.toArray (.int j :: .ref a :: st)) rfl rfl (hb G.2.1 hd) t q
theorem Good.aaload (G : Good Z a0 EL K own code maxL ret nm) {a : Addr} {ty : FieldType} {vs : List Value} {j : Int32} {i : Nat} {v : Value} (hd : Dc code pc .aaload 1 pc') (A : Al Z h a ty vs) (hty : ty.isReference = true) (hj : j.toInt = (i : Int)) (hv : vs[i]? = some v) (f : Go Z EL nw R Post K h S k n pc' L (v :: st)) : Go Z EL nw R Post K h S k n pc L (.int j :: .ref a :: st) := by
  obtain ⟨hd, rfl⟩ := hd
  obtain ⟨c, A1, A2, A3, A4⟩ := A
  obtain ⟨j1, j2⟩ := nat_idx hj
  have hlt := (List.getElem?_eq_some_iff.mp hv).1
  refine Go.calm G (fun T vm0 locs X hZ hown e => ⟨T, X, e, fun t q => ?_⟩) f
  exact X.aaload G.1 (by rw [e]; exact A1.1) (State.isArrayOf_alike hZ.alike A1.2.1) hty A1.2.2 (by rw [j2, A2]; simp only [List.size_toArray]; rintro (q | q); exact j1 q; omega) (by rw [j2, A2]; simpa using hv) (g := mkF K.m pc L.toArray (.int j :: .ref a :: st)) rfl rfl (hb G.2.1 hd) t q
theorem Good.castore (G : Good Z a0 EL K own code maxL ret nm) {a : Addr} {vs : List Value} {j x : Int32} {i : Nat} (hd : Dc code pc .castore 1 pc') (ha : a ∈ S) (A : Al Z h a .char vs) (hj : j.toInt = (i : Int)) (hi : i < vs.length) (f : ∀ h', Wr h h' a i (.int (nar .char x)) → Al Z h' a .char (vs.set i (.int (nar .char x))) → Go Z EL nw R Post K h' S k n pc' L st) : Go Z EL nw R Post K h S k n pc L (.int x :: .int j :: .ref a :: st) := by
  obtain ⟨hd, rfl⟩ := hd
  obtain ⟨c, A1, A2, A3, A4⟩ := id A
  obtain ⟨j1, j2⟩ := nat_idx hj
  subst j2
  refine Go.write G ha (fun T vm0 locs X hZ hown e => ?_) (fun h' W => f h' W (A.set W (fits_nar_char _)))
  exact stC X G.1 hZ e A1 (by rw [A2]; simp only [List.size_toArray]; rintro (q | q); exact j1 q; omega) (g := mkF K.m pc L.toArray (.int x :: .int j :: .ref a :: st)) rfl rfl (hb G.2.1 hd)
theorem Good.bastore (G : Good Z a0 EL K own code maxL ret nm) {a : Addr} {vs : List Value} {j x : Int32} {i : Nat} (hd : Dc code pc .bastore 1 pc') (ha : a ∈ S) (A : Al Z h a .byte vs) (hj : j.toInt = (i : Int)) (hi : i < vs.length) (f : ∀ h', Wr h h' a i (.int (nar .byte x)) → Al Z h' a .byte (vs.set i (.int (nar .byte x))) → Go Z EL nw R Post K h' S k n pc' L st) : Go Z EL nw R Post K h S k n pc L (.int x :: .int j :: .ref a :: st) := by
  obtain ⟨hd, rfl⟩ := hd
  obtain ⟨c, A1, A2, A3, A4⟩ := id A
  obtain ⟨j1, j2⟩ := nat_idx hj
  subst j2
  refine Go.write G ha (fun T vm0 locs X hZ hown e => ?_) (fun h' W => f h' W (A.set W (fits_nar_byte _)))
  exact stB X G.1 hZ e A1 (by rw [A2]; simp only [List.size_toArray]; rintro (q | q); exact j1 q; omega) (g := mkF K.m pc L.toArray (.int x :: .int j :: .ref a :: st)) rfl rfl (hb G.2.1 hd)
theorem Good.lastore (G : Good Z a0 EL K own code maxL ret nm) {a : Addr} {vs : List Value} {j : Int32} {x : Int64} {i : Nat} (hd : Dc code pc .lastore 1 pc') (ha : a ∈ S) (A : Al Z h a .long vs) (hj : j.toInt = (i : Int)) (hi : i < vs.length) (f : ∀ h', Wr h h' a i (.long x) → Al Z h' a .long (vs.set i (.long x)) → Go Z EL nw R Post K h' S k n pc' L st) : Go Z EL nw R Post K h S k n pc L (.long x :: .int j :: .ref a :: st) := by
  obtain ⟨hd, rfl⟩ := hd
  obtain ⟨c, A1, A2, A3, A4⟩ := id A
  obtain ⟨j1, j2⟩ := nat_idx hj
  subst j2
  refine Go.write G ha (fun T vm0 locs X hZ hown e => ?_) (fun h' W => f h' W (A.set W rfl))
  exact stJ X G.1 hZ e A1 (by rw [A2]; simp only [List.size_toArray]; rintro (q | q); exact j1 q; omega) (g := mkF K.m pc L.toArray (.long x :: .int j :: .ref a :: st)) rfl rfl (hb G.2.1 hd)
theorem Good.aastore (G : Good Z a0 EL K own code maxL ret nm) {a : Addr} {ty : FieldType} {vs : List Value} {j : Int32} {v : Value} {i : Nat} (hd : Dc code pc .aastore 1 pc') (ha : a ∈ S) (A : Al Z h a ty vs) (hty : ty.isReference = true) (F : Sto Z h a v) (hfv : fits ty v = true) (hj : j.toInt = (i : Int)) (hi : i < vs.length) (f : ∀ h', Wr h h' a i v → Al Z h' a ty (vs.set i v) → Go Z EL nw R Post K h' S k n pc' L st) : Go Z EL nw R Post K h S k n pc L (v :: .int j :: .ref a :: st) := by
  obtain ⟨hd, rfl⟩ := hd
  obtain ⟨c, A1, A2, A3, A4⟩ := id A
  obtain ⟨j1, j2⟩ := nat_idx hj
  subst j2
  refine Go.write G ha (fun T vm0 locs X hZ hown e => ?_) (fun h' W => f h' W (A.set W hfv))
  exact stR X G.1 hZ e A1 (by rw [A2]; simp only [List.size_toArray]; rintro (q | q); exact j1 q; omega) hty F (g := mkF K.m pc L.toArray (v :: .int j :: .ref a :: st)) rfl rfl (hb G.2.1 hd)
theorem Good.putF (G : Good Z a0 EL K own code maxL ret nm) {R0 O fn d C : String} {index kk : Nat} {ty : FieldType} {a : Addr} {v old : Value} (hd : Dc code pc (.putfield index) 3 pc') (w : (Cond.fieldLink own index R0 fn d).before a0 Z = true) (F : Fld Z h a O fn d old) (E : Exa Z h a C) (ha : a ∈ S)
    (Ly : (Cond.lays C O fn d).before a0 Z = true ∨ ((Cond.laysFinal C O fn d).before a0 Z = true ∧ own = O ∧ nm = "<init>")) (wi : (Cond.instantiable C kk).before a0 Z = true) (hty : parseFieldDescriptor d = some ty) (hn : narrow ty v = v) (hf : fits ty v = true)
    (f : ∀ h', Wr h h' a (RoadKit.slotOf Z O fn d) v → Fld Z h' a O fn d v → Exa Z h' a C → Go Z EL nw R Post K h' S k n pc' L st) (via : Via Z R0 O fn d := by exact Via.refl) : Go Z EL nw R Post K h S k n pc L (v :: .ref a :: st) := by
  obtain ⟨hd, rfl⟩ := hd
  refine Go.write G ha (fun T vm0 locs X hZ hown e => ?_) (fun h' W => f h' W (F.same W) (E.wr W))
  exact putF X G.1 hZ hown (host := "") (Or.inl w) via e F E (Ly.imp id fun q => ⟨q.1, q.2.1, G.2.2.2.2.2.1.trans q.2.2⟩) wi hty hn hf (g := mkF K.m pc L.toArray (v :: .ref a :: st)) rfl rfl (hb G.2.1 hd)
theorem Good.newO (G : Good Z a0 EL K own code maxL ret nm) {C : String} {index cnt : Nat} (hd : Dc code pc (.new index) 3 pc') (w : (Cond.classLink own index C).before a0 Z = true) (wi : (Cond.instantiable C cnt).before a0 Z = true) (wz : (Cond.initialized C).before a0 Z = true)
    (f : ∀ h', Ext h h' → h.size < h'.size → (Exa Z h' h.size C ∧ ∀ {O fn d : String} {ty : FieldType}, Laid Z a0 C O fn d → parseFieldDescriptor d = some ty → Fld Z h' h.size O fn d (defaultValue ty)) → Go Z EL nw R Post K h' (h.size :: S) (k + 1) (n + cnt) pc' L (.ref h.size :: st)) (hc : k + 1 ≤ R.cells := by decide) (hl : n + cnt ≤ R.slots := by decide) : Go Z EL nw R Post K h S k n pc L st := by
  obtain ⟨hd, rfl⟩ := hd
  refine Go.grow G (fun T vm0 locs X hZ hown e => ?_) f
  obtain ⟨T', h', X', e', E, A, D, -, stp⟩ := newO X G.1 hZ hown w wi wz e (g := mkF K.m pc L.toArray st) rfl (hb G.2.1 hd) hc hl
  exact ⟨T', h', X', e', E, A.lt, ⟨A, D⟩, stp⟩
theorem Good.newA (G : Good Z a0 EL K own code maxL ret nm) {aty : ArrayType} {j : Int32} (i cap : Nat) (hd : Dc code pc (.newarray aty) 2 pc') (w : (Cond.arrayClass (newarray.typeOf aty)).before a0 Z = true) (hj : j.toInt = (i : Int)) (hi : i ≤ cap)
    (f : ∀ h', Ext h h' → h.size < h'.size → Al Z h' h.size (newarray.typeOf aty) (List.replicate i (defaultValue (newarray.typeOf aty))) → Go Z EL nw R Post K h' (h.size :: S) (k + 1) (n + cap) pc' L (.ref h.size :: st)) (hb' : cap * 8 ≤ 536870912 := by decide) (hc : k + 1 ≤ R.cells := by decide) (hl : n + cap ≤ R.slots := by decide) : Go Z EL nw R Post K h S k n pc L (.int j :: st) := by
  obtain ⟨hd, rfl⟩ := hd
  obtain ⟨j1, j2⟩ := nat_idx hj
  refine Go.grow G (fun T vm0 locs X hZ hown e => ?_) f
  obtain ⟨T', h', cA, X', e', E, A, stp⟩ := newP X G.1 hZ w e (g := mkF K.m pc L.toArray (.int j :: st)) rfl (hb G.2.1 hd) rfl j1 (by rw [j2]; exact hi) hb' hc hl
  exact ⟨T', h', X', e', E, A.lt, ⟨_, A, by simp [RoadKit.newA, j2], by simp; omega, fun v hv => by rw [List.eq_of_mem_replicate hv]; cases aty <;> rfl⟩, stp⟩
theorem Good.newR (G : Good Z a0 EL K own code maxL ret nm) {C : String} {index : Nat} {j : Int32} (i cap : Nat) (hd : Dc code pc (.anewarray index) 3 pc') (w1 : (Cond.classLink own index C).before a0 Z = true) (w2 : (Cond.arrayOver (.object C)).before a0 Z = true) (hj : j.toInt = (i : Int)) (hi : i ≤ cap)
    (f : ∀ h', Ext h h' → h.size < h'.size → (Al Z h' h.size (.object C) (List.replicate i .null) ∧ ∃ c cA, Arr Z h' h.size c (.object C) ∧ c.cls = cA ∧ Ovr Z cA C) → Go Z EL nw R Post K h' (h.size :: S) (k + 1) (n + cap) pc' L (.ref h.size :: st)) (hb' : cap * 8 ≤ 536870912 := by decide) (hc : k + 1 ≤ R.cells := by decide) (hl : n + cap ≤ R.slots := by decide) : Go Z EL nw R Post K h S k n pc L (.int j :: st) := by
  obtain ⟨hd, rfl⟩ := hd
  obtain ⟨j1, j2⟩ := nat_idx hj
  refine Go.grow G (fun T vm0 locs X hZ hown e => ?_) f
  obtain ⟨T', h', cA, X', e', E, A, O, stp⟩ := newR X G.1 hZ hown w1 w2 e (g := mkF K.m pc L.toArray (.int j :: st)) rfl (hb G.2.1 hd) rfl j1 (by rw [j2]; exact hi) hb' hc hl
  exact ⟨T', h', X', e', E, A.lt, ⟨⟨_, A, by simp [RoadKit.newA, j2, defaultValue], by simp; omega, fun v hv => by rw [List.eq_of_mem_replicate hv]; rfl⟩, _, cA, A, rfl, O⟩, stp⟩
theorem Good.initO (G : Good Z a0 EL K own code maxL ret nm) {idx : Nat} {a : Addr} (hd : Dc code pc (.invokespecial idx) 3 pc') (w1 : (Cond.methodLink own idx Lib.objectInit).before a0 Z = true) (w2 : (Cond.instanceMethod Lib.objectInit).before a0 Z = true) (w3 : (Cond.code Lib.objectInit ⟨#[0xb1]⟩ 1 none).before a0 Z = true)
    (f : Go Z EL nw R Post K h S k n pc' L st) (hL : L.length = maxL := by rfl) (hf : 1 ≤ R.frames := by decide) (hl : (st.map fun v => v.category).sum + 12 ≤ R.locals := by exact Nat.le_of_ble_eq_true rfl) : Go Z EL nw R Post K h S k n pc L (.ref a :: st) := by
  obtain ⟨hd, rfl⟩ := hd
  refine Go.calm G (fun T vm0 locs X hZ hown e => ?_) f
  exact initO X G.1 hZ hown w1 w2 w3 e (g := mkF K.m pc L.toArray (.ref a :: st)) rfl (by rw [G.2.2.1]; simpa using hL) rfl (hb G.2.1 hd) hf (W := (st.map fun v => v.category).sum) (by show 2 * 0 + _ ≤ _; omega) hl
/-- System.arraycopy of plain components, into a cell of S -/
theorem Good.acopy (G : Good Z a0 EL K own code maxL ret nm) {index : Nat} {a b : Addr} {ty : FieldType} {vs vd : List Value} {sp dp nn : Int32} (i j m : Nat) (hd : Dc code pc (.invokestatic index) 3 pc') (w1 : (Cond.methodLink own index Jvm.Stand.acN).before a0 Z = true) (w2 : (Cond.native Jvm.Stand.acN).before a0 Z = true) (w3 : (Cond.static Jvm.Stand.acN).before a0 Z = true) (w4 : (Cond.initialized "java/lang/System").before a0 Z = true)
    (A : Al Z h a ty vs) (B : Al Z h b ty vd) (hty : refKind ty = false) (hb' : b ∈ S) (hi : sp.toInt = (i : Int)) (hj : dp.toInt = (j : Int)) (hm : nn.toInt = (m : Int)) (h4 : i + m ≤ vs.length) (h5 : j + m ≤ vd.length)
    (f : ∀ h', Keep h h' [b] → Al Z h' b ty (vd.take j ++ (vs.drop i).take m ++ vd.drop (j + m)) → Go Z EL nw R Post K h' S k n pc' L st) (hL : L.length = maxL := by rfl) (hf : 1 ≤ R.frames := by decide) (hl : (st.map fun v => v.category).sum + (nativeFrameWords "java/lang/System" "arraycopy" 5 + 11) ≤ R.locals := by exact Nat.le_of_ble_eq_true rfl) :
    Go Z EL nw R Post K h S k n pc L (.int nn :: .int dp :: .ref b :: .int sp :: .ref a :: st) := fun T I => by
  obtain ⟨hd, rfl⟩ := hd
  obtain ⟨vm0, k0, locs, X, hS, hk0, hZ, e, N, CH, hSf, hw, hO⟩ := I
  obtain ⟨c1, c2, c3⟩ := hSf b hb'
  obtain ⟨ka, Av⟩ := A.arv (.int 0)
  obtain ⟨kb, Bv⟩ := B.arv (.int 0)
  obtain ⟨i1, i2⟩ := nat_idx hi
  obtain ⟨j1, j2⟩ := nat_idx hj
  obtain ⟨m1, m2⟩ := nat_idx hm
  have ea : (Int32.ofNat vs.length).toNatClampNeg = vs.length := by simp [Int32.toNatClampNeg, len_toInt A.len]
  have eb : (Int32.ofNat vd.length).toNatClampNeg = vd.length := by simp [Int32.toNatClampNeg, len_toInt B.len]
  have hus : (vs.drop i).take m = (List.range nn.toNatClampNeg).map fun q => vs.getD (sp.toNatClampNeg + q) (.int 0) := by
    rw [m2, i2]
    apply List.ext_getElem
    · simp; omega
    · intro q q1 q2
      simp only [List.length_map, List.length_range] at q2
      have : i + q < vs.length := by omega
      simp [List.getD_eq_getElem?_getD, this]
  obtain ⟨T', h', L', X', e', N', Kp, B', stp⟩ := cpA X G.1 hZ (G.hown hS) w1 w2 w3 w4 e Av Bv (Or.inl ⟨rfl, hty⟩) i1 j1 m1 (by rw [i2, m2, ea]; exact h4) (by rw [j2, m2, eb]; exact h5) hus (by rw [j2, m2]; exact h5) N c1 (g := mkF K.m pc L.toArray (.int nn :: .int dp :: .ref b :: .int sp :: .ref a :: st)) rfl (by rw [G.2.2.1]; simpa using hL) rfl (hb G.2.1 hd) hf (W := (st.map fun v => v.category).sum) (by show 2 * 0 + _ ≤ _; omega) hl
  rw [j2, m2] at B'
  have sfb : ∀ x ∈ [b], Safe Z EL vm0 h x := fun x hx => by cases List.mem_singleton.mp hx; exact c3
  have hC := CHr.keep Kp sfb CH.1
  refine (f h' Kp (Al.of_arv B' (by rw [eb]; simp; omega)) T' ⟨vm0, k0, L', X', hS, Nat.le_trans hk0 Kp.1, hZ, e', N', CH.trans hC, fun x hx => ?_, hw, ⟨Nat.le_trans hO.1 Kp.1, fun x c q => Kp.2.1 x c (hO.2 x c q) (fun z => by cases List.mem_singleton.mp z; exact absurd (Array.getElem?_eq_some_iff.mp q).1 (Nat.not_lt.mpr c1))⟩⟩).step stp
  obtain ⟨b1, b2, b3⟩ := hSf x hx
  exact ⟨b1, Nat.lt_of_lt_of_le b2 Kp.1, Safe.keep Kp sfb CH.1 b3⟩
end Heap
end Jvm.Own
namespace Jvm.Own
open Jvm Jvm.ClassFile Sem Op Lib Jvm.Free Jvm.Stand Jvm.LawKit Jvm.RoadKit Bundle
def PreB (R rm : Room) (h : Heap) (as : Array Value) (A : Pt) (a : Array Value) : Prop := a = as ∧ A.U.heap = h ∧ A.cells + rm.cells ≤ R.cells ∧ A.slots + rm.slots ≤ R.slots
def PstB (Z : State) (EL : List (String × Nat)) (nw : Bool) (rm : Room) (h : Heap) (Post' : Pst) (s : State) (vm0 : Vm) (A : Pt) (_a : Array Value) (v : Option Value) (B : Pt) : Prop :=
  ∃ L S', Post' v B.U.heap S' ∧ Fr Z.heap.size L ∧ (∀ x ∈ S', Z.heap.size ≤ x ∧ x < B.U.heap.size ∧ Safe Z EL B.U.vm B.U.heap x) ∧ B.locs = A.locs ++ L ∧ B.cells = A.cells + rm.cells ∧ B.slots = A.slots + rm.slots ∧ CHr Z EL vm0 h B.U.vm B.U.heap ∧ (nw = true → (s.setVm vm0).WarmedH B.U.vm) ∧ Ext Z.heap B.U.heap
section Calls
variable {Z : State} {a0 : Array Value} {EL : List (String × Nat)} {nw : Bool} {R : Room} {Post : Pst} {K : Kx} {own : String} {code : ByteArray} {maxL : Nat} {ret : Option FieldType} {nm : String} {h h' : Heap} {S : List Addr} {k n pc pc' : Nat} {L : List Slot} {st rest : List Value} {l : Launch}
variable {y z : MethodName} {bytes : ByteArray} {maxL' : Nat} {ret' : Option FieldType} {rm : Room} {as : Array Value} {S0 : List Addr} {Post' : Pst} {ps : List FieldType} {rr : Option FieldType} {C : String} {index : Nat} {a : Addr}
theorem Con.back {p : Program} {e : Env} {below : List Frame} {s : State} {sargs : Array Value} {len W : Nat} {vm0 : Vm} (c : Con l Z EL nw y bytes maxL' ret' [] rm as h S0 Post') (hZ : Z.Warmed39 vm0) (wc : (Cond.code y bytes maxL' ret').before a0 Z = true) (wz : (Cond.initialized y.cls).before a0 Z = true)
    (hf : rm.frames + 1 ≤ R.frames) (hl : W + (maxL' + 11) + rm.locals ≤ R.locals) (hEL : EW Z a0 EL) (H : CHv Z EL vm0 h) (hSf : ∀ x ∈ S0, Z.heap.size ≤ x ∧ x < h.size ∧ Safe Z EL vm0 h x) (hO : Ext Z.heap h) :
    BackS l R p e below (s.setVm vm0) sargs y len W (PreB R rm h as) (PstB Z EL nw rm h Post' s vm0) :=
  BackS.of_freeW (bytes := bytes) (maxL := maxL') (ret := ret') (E := fun _ first o t L k n => k = rm.cells ∧ n = rm.slots ∧ (∃ v S', o = .returned v ∧ Post' v t.heap S' ∧ Fr Z.heap.size L ∧ (∀ x ∈ S', Z.heap.size ≤ x ∧ x < t.heap.size ∧ Safe Z EL t.vm t.heap x)) ∧ CHr Z EL first.vm first.heap t.vm t.heap ∧ (nw = true → first.WarmedH t.vm) ∧ Ext Z.heap t.heap) c hf hl
    (fun m meth c A a Y hp => have hU : Z.Warmed39 A.U.vm := wtrans (s := s.setVm vm0) hZ Y.warmed
      ⟨by show (Cond.and _ .tt).before a A.U = true; rw [Cond.before_and, mv hU wc]; rfl, mv hU wc, mv hU wz, hp.2.2.1, hp.2.2.2⟩)
    (fun m meth c A a g mk Y hp => ⟨hp.1, wtrans (s := s.setVm vm0) hZ Y.warmed, hp.2.1, (CHv.at Y hZ hEL H).1, fun x hx => ⟨(hSf x hx).1, (hSf x hx).2.1, (CHv.at Y hZ hEL H).safe (hSf x hx).2.1 (hSf x hx).2.2⟩, hO⟩)
    (fun _ _ _ _ _ _ _ _ _ => trivial)
    (fun _ _ _ _ ⟨v, L, S', h1, h2, h3, h4, h5, h6, h7, h8⟩ => ⟨L, _, _, h6, rfl, rfl, ⟨v, S', h1, h2, h3, h5⟩, h4, h7, h8⟩)
    (fun m meth c A a g mk v t L k n Y hp _ _ ⟨e1, e2, ⟨v', S', e3, e4, e5, e6⟩, e7, e8, e9⟩ => by
      cases e3; subst e1 e2
      refine ⟨L, S', e4, e5, e6, rfl, rfl, rfl, (CHv.at Y hZ hEL H).trans ?_, fun z => State.WarmedH.trans (t := A.U) Y.warmed (e8 z), e9⟩
      rw [← hp.2.1]; exact e7)
/-- a call by its contract, whatever the step -/
theorem Go.callG {len : Nat} (G : Good Z a0 EL K own code maxL ret nm) (c : Con K.l Z EL nw y bytes maxL' ret' [] rm as h S0 Post') (hS0 : ∀ x ∈ S0, x ∈ S) (wc : (Cond.code y bytes maxL' ret').before a0 Z = true) (wz : (Cond.initialized y.cls).before a0 Z = true)
    (hf : rm.frames + 1 ≤ R.frames) (hl : (rest.map fun v => v.category).sum + (maxL' + 11) + rm.locals ≤ R.locals) (hcc : k + rm.cells ≤ R.cells) (hss : n + rm.slots ≤ R.slots)
    (q : ∀ (T : State) (vm0 : Vm) (locs : List Loc), Stand K.p K.l K.e R (K.s.setVm vm0) K.m K.as K.below K.meth K.c T locs k n → Z.Warmed39 (K.s.setVm vm0).vm → (K.s.setVm vm0).vm.findClass own = some K.m.cls → T.heap = h →
      BackS K.l R K.p K.e K.below (K.s.setVm vm0) K.as y len (rest.map fun v => v.category).sum (PreB R rm h as) (PstB Z EL nw rm h Post' K.s vm0) → (∀ vm₁, (K.s.setVm vm0).WarmedH vm₁ → PreB R rm h as ⟨T.setVm vm₁, locs, k, n⟩ as) →
      ∃ (v : Option Value) (vm₁ : Vm) (B : Pt), (K.s.setVm vm0).WarmedH vm₁ ∧ Stand K.p K.l K.e R ((K.s.setVm vm0).setVm B.U.vm) K.m K.as K.below K.meth K.c B.U B.locs B.cells B.slots ∧ (K.s.setVm vm0).Since B.U.vm B.U.heap.size ∧ T.heap.size ≤ B.U.heap.size ∧ PstB Z EL nw rm h Post' K.s vm0 ⟨T.setVm vm₁, locs, k, n⟩ as v B ∧
        Steps K.p.tables K.e K.below (T.setTop (mkF K.m pc L.toArray st)) (B.U.setTop (mkF K.m pc' L.toArray (v.toList ++ rest))))
    (f : ∀ v h' S', Post' v h' S' → h.size ≤ h'.size → Go Z EL nw R Post K h' (S' ++ S) (k + rm.cells) (n + rm.slots) pc' L (v.toList ++ rest)) : Go Z EL nw R Post K h S k n pc L st := fun T I => by
  obtain ⟨vm0, k0, locs, X, hS, hk0, hZ, e, N, CH, hSf, hw, hO⟩ := I
  obtain ⟨v, vm₁, ⟨U, Ls, c0, s0⟩, hW₁, X', h2, hgr, ⟨L', S', hP, hN, hS', hL, hc0, hs0, hC, hnw, hO'⟩, stp⟩ := q T vm0 locs X hZ (G.hown hS) e (c.back hZ wc wz hf hl G.2.2.2.2.2.2.2 CH.1 (fun x hx => hSf x (hS0 x hx)) hO) (fun vm₁ _ => ⟨rfl, e, hcc, hss⟩)
  dsimp only [Pt.U, Pt.locs, Pt.cells, Pt.slots] at X' h2 hgr hP hS' hL hc0 hs0 hC hnw hO' stp
  subst hL hc0 hs0
  rw [e] at hgr
  refine (f v U.heap S' hP hgr U ⟨U.vm, _, _, X', hS.trans h2 (Nat.le_trans hk0 hgr), Nat.le_refl _, State.Warmed39.trans (t := K.s.setVm vm0) hZ h2.1, rfl, N.app hN, CH.trans hC, fun x hx => ?_, fun z => State.WarmedH.trans (t := K.s.setVm vm0) (hw z) (hnw z), hO'⟩).step fun t z => stp.trans z
  rcases List.mem_append.mp hx with hx | hx
  · exact hS' x hx
  · obtain ⟨b1, b2, b3⟩ := hSf x hx
    exact ⟨b1, Nat.lt_of_lt_of_le b2 hgr, hC.safe b2 b3⟩
theorem Good.callS (G : Good Z a0 EL K own code maxL ret nm) (argsL : List Value) (hd : Dc code pc (.invokestatic index) 3 pc') (w1 : (Cond.methodLink own index y).before a0 Z = true) (w2 : (Cond.static y).before a0 Z = true) (w3 : (Cond.initialized y.cls).before a0 Z = true) (w4 : (Cond.code y bytes maxL' ret').before a0 Z = true)
    (pd : parseMethodDescriptor y.desc = some ⟨ps, rr⟩) (c : Con K.l Z EL nw y bytes maxL' ret' [] rm argsL.toArray h S0 Post') (hS0 : ∀ x ∈ S0, x ∈ S) (hst : st = argsL.reverse ++ rest) (hln : argsL.length = ps.length)
    (f : ∀ v h' S', Post' v h' S' → h.size ≤ h'.size → Go Z EL nw R Post K h' (S' ++ S) (k + rm.cells) (n + rm.slots) pc' L (v.toList ++ rest))
    (hy : y.cls ≠ "java/lang/invoke/MethodHandle" ∧ y.cls ≠ "java/lang/invoke/VarHandle") (hL : L.length = maxL) (hf : rm.frames + 1 ≤ R.frames) (hl : (rest.map fun v => v.category).sum + (maxL' + 11) + rm.locals ≤ R.locals) (hcc : k + rm.cells ≤ R.cells) (hss : n + rm.slots ≤ R.slots) : Go Z EL nw R Post K h S k n pc L st := by
  obtain ⟨hd, rfl⟩ := hd
  refine Go.callG (len := 3) G c hS0 w4 w3 hf hl hcc hss (fun T vm0 locs X hZ hown e hK hpre => ?_) f
  exact callSS X G.1 hown (mvT hZ w1) (mvT hZ w2) (mvT hZ w3) (mvT hZ w4) hy hK (g := mkF K.m pc L.toArray st) rfl (by rw [G.2.2.1]; simpa using hL) (lenOf pd hln) hst (by show 2 * 0 + _ ≤ _; omega) (hb G.2.1 hd) hpre
theorem Good.callI (G : Good Z a0 EL K own code maxL ret nm) (argsL : List Value) (hd : Dc code pc (.invokespecial index) 3 pc') (w1 : (Cond.methodLink own index y).before a0 Z = true) (w2 : (Cond.instanceMethod y).before a0 Z = true) (w3 : (Cond.initialized y.cls).before a0 Z = true) (w4 : (Cond.code y bytes maxL' none).before a0 Z = true)
    (pd : parseMethodDescriptor y.desc = some ⟨ps, rr⟩) (c : Con K.l Z EL nw y bytes maxL' none [] rm (.ref a :: argsL).toArray h S0 Post') (hS0 : ∀ x ∈ S0, x ∈ S) (hst : st = argsL.reverse ++ .ref a :: rest) (hln : argsL.length = ps.length)
    (f : ∀ v h' S', Post' v h' S' → h.size ≤ h'.size → Go Z EL nw R Post K h' (S' ++ S) (k + rm.cells) (n + rm.slots) pc' L (v.toList ++ rest))
    (hy1 : y.name = "<init>") (hy : y.cls ≠ "java/lang/invoke/MethodHandle" ∧ y.cls ≠ "java/lang/invoke/VarHandle") (hL : L.length = maxL) (hf : rm.frames + 1 ≤ R.frames) (hl : (rest.map fun v => v.category).sum + (maxL' + 11) + rm.locals ≤ R.locals) (hcc : k + rm.cells ≤ R.cells) (hss : n + rm.slots ≤ R.slots) : Go Z EL nw R Post K h S k n pc L st := by
  obtain ⟨hd, rfl⟩ := hd
  refine Go.callG (len := 3) G c hS0 w4 w3 hf hl hcc hss (fun T vm0 locs X hZ hown e hK hpre => ?_) f
  exact X.specialBackS G.1 hy1 hown (mvT hZ w1) (mvT hZ w2) (mvT hZ w4) hy hK (g := mkF K.m pc L.toArray st) rfl (by rw [G.2.2.1]; simpa using hL) (Steps.refl _) (lenOf pd hln) hst (by show 2 * 0 + _ ≤ _; omega) (hb G.2.1 hd) hpre
/-- the class that declares y is no interface: two roads -/
def Nf (Z : State) (y : MethodName) : Prop := ∀ s : State, Z.Warmed39 s.vm → NotFace s y
theorem Nf.inst {cnt : Nat} (wi : (Cond.instantiable y.cls cnt).before a0 Z = true) : Nf Z y := fun s hZ r0 h0 => by
  have w : (Cond.instantiable y.cls cnt).before #[] s = true := mvT hZ wi
  obtain ⟨c, kk, h1, h2, h3, h4, -⟩ := Cond.instantiable_spec w
  have hc := findClass_of_methodNamed h0
  cases h1.symm.trans hc
  simp only [Bool.or_eq_false_iff] at h4
  exact ⟨kk, h2, h4.1⟩
theorem Nf.super {D : String} (w : (Cond.superclass y.cls D).before a0 Z = true) : Nf Z y := fun s hZ => nf_super (args := #[]) (mvT hZ w)
theorem Nf.sel (w : (Cond.selects C y y).before a0 Z = true) : Nf Z y := fun s hZ => notFace_of_selects (args := #[]) (mvT hZ w)
theorem Nf.same (nf : Nf Z z) (w : (Cond.instanceMethod z).before a0 Z = true) (e : z.cls = y.cls) : Nf Z y := fun s hZ r0 h0 => by
  obtain ⟨mk, methM, hnamed, -⟩ := Cond.instanceMethod_spec (mvT (args := #[]) (s := s) hZ w)
  obtain ⟨kr, h1, h2⟩ := nf s hZ mk hnamed
  have c1 := findClass_of_methodNamed hnamed
  have c2 := findClass_of_methodNamed h0
  rw [e] at c1
  have c3 := Option.some.inj (c1.symm.trans c2)
  exact ⟨kr, by rw [← c3]; exact h1, h2⟩
theorem same_of_nf (nf : Nf Z y) (w : (Cond.instanceMethod y).before a0 Z = true) (hy : y.cls ≠ "java/lang/invoke/MethodHandle" ∧ y.cls ≠ "java/lang/invoke/VarHandle") : (Cond.sameMethod y.cls y.cls y.name y.desc).before a0 Z = true := by
  obtain ⟨mk, methM, hnamed, -⟩ := Cond.instanceMethod_spec w
  obtain ⟨kr, h1, h2⟩ := nf Z (State.Warmed39.refl Z) mk hnamed
  have c1 := findClass_of_methodNamed hnamed
  have f1 := State.methodFound?_of_named hnamed hy
  have hnamed' : Z.methodNamed? ⟨y.cls, y.name, y.desc⟩ = some mk := hnamed
  simp [Cond.before, Cond.holds, Cond.value, c1, f1, hnamed', h1, h2]
theorem Good.callV (G : Good Z a0 EL K own code maxL ret nm) (nf : Nf Z y) (argsL : List Value) (hd : Dc code pc (.invokevirtual index) 3 pc') (w1 : (Cond.methodLink own index y).before a0 Z = true) (w2 : (Cond.declares y).before a0 Z = true) (w3 : (Cond.selects C y z).before a0 Z = true) (w4 : (Cond.instanceMethod z).before a0 Z = true) (w5 : (Cond.code z bytes maxL' ret').before a0 Z = true) (w6 : (Cond.initialized z.cls).before a0 Z = true)
    (pd : parseMethodDescriptor y.desc = some ⟨ps, rr⟩) (E : Exa Z h a C) (c : Con K.l Z EL nw z bytes maxL' ret' [] rm (.ref a :: argsL).toArray h S0 Post') (hS0 : ∀ x ∈ S0, x ∈ S) (hst : st = argsL.reverse ++ .ref a :: rest) (hln : argsL.length = ps.length)
    (f : ∀ v h' S', Post' v h' S' → h.size ≤ h'.size → Go Z EL nw R Post K h' (S' ++ S) (k + rm.cells) (n + rm.slots) pc' L (v.toList ++ rest))
    (hy : y.cls ≠ "java/lang/invoke/MethodHandle" ∧ y.cls ≠ "java/lang/invoke/VarHandle") (hL : L.length = maxL) (hf : rm.frames + 1 ≤ R.frames) (hl : (rest.map fun v => v.category).sum + (maxL' + 11) + rm.locals ≤ R.locals) (hcc : k + rm.cells ≤ R.cells) (hss : n + rm.slots ≤ R.slots) : Go Z EL nw R Post K h S k n pc L st := by
  obtain ⟨hd, rfl⟩ := hd
  refine Go.callG (len := 3) G c hS0 w5 w6 hf hl hcc hss (fun T vm0 locs X hZ hown e hK hpre => ?_) f
  obtain ⟨cq, kq, q1, q2, q3⟩ := isOf (s := K.s.setVm vm0) hZ e E
  exact X.virtualBackS G.1 hown (mvT hZ w1) (mvT hZ w2) (nf _ hZ) (mvT hZ w3) (mvT hZ w4) hy hK q1 q3 (g := mkF K.m pc L.toArray st) rfl (by rw [G.2.2.1]; simpa using hL) (Steps.refl _) (lenOf pd hln) hst (by show 2 * 0 + _ ≤ _; omega) (hb G.2.1 hd) hpre
/-- a private method, called on an object that is there -/
theorem Good.callP (G : Good Z a0 EL K own code maxL ret nm) (argsL : List Value) (hd : Dc code pc (.invokevirtual index) 3 pc') (w1 : (Cond.methodLink own index y).before a0 Z = true) (w2 : (Cond.instanceMethod y).before a0 Z = true) (w3 : (Cond.privateMethod y).before a0 Z = true) (w4 : (Cond.code y bytes maxL' ret').before a0 Z = true) (w5 : (Cond.initialized y.cls).before a0 Z = true) (nf : Nf Z y)
    (pd : parseMethodDescriptor y.desc = some ⟨ps, rr⟩) (E : Exa Z h a C) (c : Con K.l Z EL nw y bytes maxL' ret' [] rm (.ref a :: argsL).toArray h S0 Post') (hS0 : ∀ x ∈ S0, x ∈ S) (hst : st = argsL.reverse ++ .ref a :: rest) (hln : argsL.length = ps.length)
    (f : ∀ v h' S', Post' v h' S' → h.size ≤ h'.size → Go Z EL nw R Post K h' (S' ++ S) (k + rm.cells) (n + rm.slots) pc' L (v.toList ++ rest))
    (hy : y.cls ≠ "java/lang/invoke/MethodHandle" ∧ y.cls ≠ "java/lang/invoke/VarHandle") (hL : L.length = maxL) (hf : rm.frames + 1 ≤ R.frames) (hl : (rest.map fun v => v.category).sum + (maxL' + 11) + rm.locals ≤ R.locals) (hcc : k + rm.cells ≤ R.cells) (hss : n + rm.slots ≤ R.slots) : Go Z EL nw R Post K h S k n pc L st := by
  obtain ⟨hd, rfl⟩ := hd
  refine Go.callG (len := 3) G c hS0 w4 w5 hf hl hcc hss (fun T vm0 locs X hZ hown e hK hpre => ?_) f
  obtain ⟨cell, hcell, hobj⟩ := E.cell
  obtain ⟨mk, methM, hnamed, hmethM, hstM, habM⟩ := Cond.instanceMethod_spec (mvT (args := #[]) (s := K.s.setVm vm0) hZ w2)
  obtain ⟨methM', cM, hmethM', -, -, -, -, -, -, hsigM⟩ := Cond.code_spec hnamed (mvT (args := #[]) (s := K.s.setVm vm0) hZ w4)
  cases hmethM.symm.trans hmethM'
  obtain ⟨kP, hkP, hkPi⟩ := nf (K.s.setVm vm0) hZ mk hnamed
  have hpriv := Cond.privateMethod_at (mvP (args := #[]) (s := K.s.setVm vm0) hZ w3)
  have hselP : selectMethod K.e.platform (K.s.setVm vm0).vm cell.cls mk = .method mk := selectMethod_private hmethM (hpriv mk methM hnamed hmethM)
  obtain ⟨vm₁, X₁, hstep₁⟩ := X.invokevirtual G.1 hown (mvT hZ w1) hnamed hmethM hstM hkP hkPi hy (a := a) (cell := cell) (by rw [e]; exact hcell) hobj hselP hmethM habM hkP hkPi (g := mkF K.m pc L.toArray st) rfl (argsL := argsL) (rest := rest) (lenOf pd hln _ hsigM) hst (hb G.2.1 hd)
  obtain ⟨v, B, X', hS, hgr, hpost, hsteps⟩ := hK K.m K.meth K.c ⟨T.setVm vm₁, locs, k, n⟩ (mkF K.m pc L.toArray rest) (.invokevirtual index) mk (.ref a :: argsL).toArray X₁ rfl (by rw [G.2.2.1]; simpa using hL) (hb G.2.1 hd) (by show 2 * 0 + (rest.map fun v => v.category).sum ≤ _; omega) (X₁.named hnamed) (hpre vm₁ X₁.warmed)
  exact ⟨v, vm₁, B, X₁.warmed, X', hS, hgr, hpost, (hstep₁ _ fun acts => by rw [doInvoke_state]; exact Steps.refl _).trans hsteps⟩
theorem Good.callF (G : Good Z a0 EL K own code maxL ret nm) {count : Nat} (argsL : List Value) (hd : Dc code pc (.invokeinterface index count) 5 pc') (w1 : (Cond.methodLink own index y).before a0 Z = true) (w2 : (Cond.declares y).before a0 Z = true) (w3 : (Cond.interfaceMethod y.cls y.cls y.name y.desc).before a0 Z = true) (w4 : (Cond.selects C y z).before a0 Z = true) (w5 : (Cond.instanceMethod z).before a0 Z = true) (w6 : (Cond.publicMethod z).before a0 Z = true) (w7 : (Cond.unhidden C y.name y.desc).before a0 Z = true) (w8 : (Cond.castable C y.cls).before a0 Z = true) (w9 : (Cond.code z bytes maxL' ret').before a0 Z = true) (w10 : (Cond.initialized z.cls).before a0 Z = true)
    (pd : parseMethodDescriptor y.desc = some ⟨ps, rr⟩) (E : Exa Z h a C) (c : Con K.l Z EL nw z bytes maxL' ret' [] rm (.ref a :: argsL).toArray h S0 Post') (hS0 : ∀ x ∈ S0, x ∈ S) (hst : st = argsL.reverse ++ .ref a :: rest) (hln : argsL.length = ps.length)
    (f : ∀ v h' S', Post' v h' S' → h.size ≤ h'.size → Go Z EL nw R Post K h' (S' ++ S) (k + rm.cells) (n + rm.slots) pc' L (v.toList ++ rest))
    (hy : y.cls ≠ "java/lang/invoke/MethodHandle" ∧ y.cls ≠ "java/lang/invoke/VarHandle") (hL : L.length = maxL) (hf : rm.frames + 1 ≤ R.frames) (hl : (rest.map fun v => v.category).sum + (maxL' + 11) + rm.locals ≤ R.locals) (hcc : k + rm.cells ≤ R.cells) (hss : n + rm.slots ≤ R.slots) : Go Z EL nw R Post K h S k n pc L st := by
  obtain ⟨hd, rfl⟩ := hd
  refine Go.callG (len := 5) G c hS0 w9 w10 hf hl hcc hss (fun T vm0 locs X hZ hown e hK hpre => ?_) f
  obtain ⟨cq, kq, q1, q2, q3⟩ := isOf (s := K.s.setVm vm0) hZ e E
  exact X.interfaceBackS G.1 hown (mvT hZ w1) (mvT hZ w2) (mvT hZ w3 (by simp [Cond.onTables, Cond.keepsFace, Cond.keeps, Cond.steady, Cond.faceAtom, hy.1, hy.2])) (mvT hZ w4) (mvT hZ w5) (mvT hZ w6) (mvT hZ w7) (mvT hZ w8) hy hK q1 q2 q3 (g := mkF K.m pc L.toArray st) rfl (by rw [G.2.2.1]; simpa using hL) (Steps.refl _) (lenOf pd hln) hst (by show 2 * 0 + _ ≤ _; omega) (hb G.2.1 hd) hpre
/-- invokespecial of a method of the superclass -/
theorem Good.callU (G : Good Z a0 EL K own code maxL ret nm) (argsL : List Value) (hd : Dc code pc (.invokespecial index) 3 pc') (w1 : (Cond.methodLink own index y).before a0 Z = true) (nf : Nf Z y) (w3 : (Cond.instanceMethod y).before a0 Z = true) (w4 : (Cond.superclass own y.cls).before a0 Z = true) (w5 : (Cond.code y bytes maxL' ret').before a0 Z = true) (w6 : (Cond.initialized y.cls).before a0 Z = true)
    (pd : parseMethodDescriptor y.desc = some ⟨ps, rr⟩) (E : Exa Z h a C) (c : Con K.l Z EL nw y bytes maxL' ret' [] rm (.ref a :: argsL).toArray h S0 Post') (hS0 : ∀ x ∈ S0, x ∈ S) (hst : st = argsL.reverse ++ .ref a :: rest) (hln : argsL.length = ps.length)
    (f : ∀ v h' S', Post' v h' S' → h.size ≤ h'.size → Go Z EL nw R Post K h' (S' ++ S) (k + rm.cells) (n + rm.slots) pc' L (v.toList ++ rest))
    (hy1 : y.name ≠ "<init>") (hy : y.cls ≠ "java/lang/invoke/MethodHandle" ∧ y.cls ≠ "java/lang/invoke/VarHandle") (hL : L.length = maxL) (hf : rm.frames + 1 ≤ R.frames) (hl : (rest.map fun v => v.category).sum + (maxL' + 11) + rm.locals ≤ R.locals) (hcc : k + rm.cells ≤ R.cells) (hss : n + rm.slots ≤ R.slots) : Go Z EL nw R Post K h S k n pc L st := by
  obtain ⟨hd, rfl⟩ := hd
  refine Go.callG (len := 3) G c hS0 w5 w6 hf hl hcc hss (fun T vm0 locs X hZ hown e hK hpre => ?_) f
  exact superBackS X G.1 hZ hown w1 (same_of_nf nf w3 hy) w3 w4 hy1 hK e (Ins.self E) (g := mkF K.m pc L.toArray st) rfl (by rw [G.2.2.1]; simpa using hL) w5 (lenOf pd hln) hst (by show 2 * 0 + _ ≤ _; omega) (hb G.2.1 hd) hpre
theorem Good.callS0 (G : Good Z a0 EL K own code maxL ret nm) (hd : Dc code pc (.invokestatic index) 3 pc') (w1 : (Cond.methodLink own index y).before a0 Z = true) (w2 : (Cond.static y).before a0 Z = true) (w3 : (Cond.initialized y.cls).before a0 Z = true) (w4 : (Cond.code y bytes maxL' ret').before a0 Z = true) (pd : parseMethodDescriptor y.desc = some ⟨ps, rr⟩) (c : Con K.l Z EL nw y bytes maxL' ret' [] rm #[] h S0 Post') (hS0 : ∀ x ∈ S0, x ∈ S) (f : ∀ v h' S', Post' v h' S' → h.size ≤ h'.size → Go Z EL nw R Post K h' (S' ++ S) (k + rm.cells) (n + rm.slots) pc' L (v.toList ++ rest)) (hln : 0 = ps.length := by rfl) (hy : y.cls ≠ "java/lang/invoke/MethodHandle" ∧ y.cls ≠ "java/lang/invoke/VarHandle" := by decide) (hL : L.length = maxL := by rfl) (hf : rm.frames + 1 ≤ R.frames := by decide) (hl : (rest.map fun v => v.category).sum + (maxL' + 11) + rm.locals ≤ R.locals := by exact Nat.le_of_ble_eq_true rfl) (hcc : k + rm.cells ≤ R.cells := by decide) (hss : n + rm.slots ≤ R.slots := by decide) : Go Z EL nw R Post K h S k n pc L (rest) := G.callS [] hd w1 w2 w3 w4 pd c hS0 rfl hln f hy hL hf hl hcc hss
theorem Good.callS1 (G : Good Z a0 EL K own code maxL ret nm) {v1 : Value} (hd : Dc code pc (.invokestatic index) 3 pc') (w1 : (Cond.methodLink own index y).before a0 Z = true) (w2 : (Cond.static y).before a0 Z = true) (w3 : (Cond.initialized y.cls).before a0 Z = true) (w4 : (Cond.code y bytes maxL' ret').before a0 Z = true) (pd : parseMethodDescriptor y.desc = some ⟨ps, rr⟩) (c : Con K.l Z EL nw y bytes maxL' ret' [] rm #[v1] h S0 Post') (hS0 : ∀ x ∈ S0, x ∈ S) (f : ∀ v h' S', Post' v h' S' → h.size ≤ h'.size → Go Z EL nw R Post K h' (S' ++ S) (k + rm.cells) (n + rm.slots) pc' L (v.toList ++ rest)) (hln : 1 = ps.length := by rfl) (hy : y.cls ≠ "java/lang/invoke/MethodHandle" ∧ y.cls ≠ "java/lang/invoke/VarHandle" := by decide) (hL : L.length = maxL := by rfl) (hf : rm.frames + 1 ≤ R.frames := by decide) (hl : (rest.map fun v => v.category).sum + (maxL' + 11) + rm.locals ≤ R.locals := by exact Nat.le_of_ble_eq_true rfl) (hcc : k + rm.cells ≤ R.cells := by decide) (hss : n + rm.slots ≤ R.slots := by decide) : Go Z EL nw R Post K h S k n pc L (v1 :: rest) := G.callS [v1] hd w1 w2 w3 w4 pd c hS0 rfl hln f hy hL hf hl hcc hss
theorem Good.callS2 (G : Good Z a0 EL K own code maxL ret nm) {v1 v2 : Value} (hd : Dc code pc (.invokestatic index) 3 pc') (w1 : (Cond.methodLink own index y).before a0 Z = true) (w2 : (Cond.static y).before a0 Z = true) (w3 : (Cond.initialized y.cls).before a0 Z = true) (w4 : (Cond.code y bytes maxL' ret').before a0 Z = true) (pd : parseMethodDescriptor y.desc = some ⟨ps, rr⟩) (c : Con K.l Z EL nw y bytes maxL' ret' [] rm #[v1, v2] h S0 Post') (hS0 : ∀ x ∈ S0, x ∈ S) (f : ∀ v h' S', Post' v h' S' → h.size ≤ h'.size → Go Z EL nw R Post K h' (S' ++ S) (k + rm.cells) (n + rm.slots) pc' L (v.toList ++ rest)) (hln : 2 = ps.length := by rfl) (hy : y.cls ≠ "java/lang/invoke/MethodHandle" ∧ y.cls ≠ "java/lang/invoke/VarHandle" := by decide) (hL : L.length = maxL := by rfl) (hf : rm.frames + 1 ≤ R.frames := by decide) (hl : (rest.map fun v => v.category).sum + (maxL' + 11) + rm.locals ≤ R.locals := by exact Nat.le_of_ble_eq_true rfl) (hcc : k + rm.cells ≤ R.cells := by decide) (hss : n + rm.slots ≤ R.slots := by decide) : Go Z EL nw R Post K h S k n pc L (v2 :: v1 :: rest) := G.callS [v1, v2] hd w1 w2 w3 w4 pd c hS0 rfl hln f hy hL hf hl hcc hss
theorem Good.callS3 (G : Good Z a0 EL K own code maxL ret nm) {v1 v2 v3 : Value} (hd : Dc code pc (.invokestatic index) 3 pc') (w1 : (Cond.methodLink own index y).before a0 Z = true) (w2 : (Cond.static y).before a0 Z = true) (w3 : (Cond.initialized y.cls).before a0 Z = true) (w4 : (Cond.code y bytes maxL' ret').before a0 Z = true) (pd : parseMethodDescriptor y.desc = some ⟨ps, rr⟩) (c : Con K.l Z EL nw y bytes maxL' ret' [] rm #[v1, v2, v3] h S0 Post') (hS0 : ∀ x ∈ S0, x ∈ S) (f : ∀ v h' S', Post' v h' S' → h.size ≤ h'.size → Go Z EL nw R Post K h' (S' ++ S) (k + rm.cells) (n + rm.slots) pc' L (v.toList ++ rest)) (hln : 3 = ps.length := by rfl) (hy : y.cls ≠ "java/lang/invoke/MethodHandle" ∧ y.cls ≠ "java/lang/invoke/VarHandle" := by decide) (hL : L.length = maxL := by rfl) (hf : rm.frames + 1 ≤ R.frames := by decide) (hl : (rest.map fun v => v.category).sum + (maxL' + 11) + rm.locals ≤ R.locals := by exact Nat.le_of_ble_eq_true rfl) (hcc : k + rm.cells ≤ R.cells := by decide) (hss : n + rm.slots ≤ R.slots := by decide) : Go Z EL nw R Post K h S k n pc L (v3 :: v2 :: v1 :: rest) := G.callS [v1, v2, v3] hd w1 w2 w3 w4 pd c hS0 rfl hln f hy hL hf hl hcc hss
theorem Good.callS4 (G : Good Z a0 EL K own code maxL ret nm) {v1 v2 v3 v4 : Value} (hd : Dc code pc (.invokestatic index) 3 pc') (w1 : (Cond.methodLink own index y).before a0 Z = true) (w2 : (Cond.static y).before a0 Z = true) (w3 : (Cond.initialized y.cls).before a0 Z = true) (w4 : (Cond.code y bytes maxL' ret').before a0 Z = true) (pd : parseMethodDescriptor y.desc = some ⟨ps, rr⟩) (c : Con K.l Z EL nw y bytes maxL' ret' [] rm #[v1, v2, v3, v4] h S0 Post') (hS0 : ∀ x ∈ S0, x ∈ S) (f : ∀ v h' S', Post' v h' S' → h.size ≤ h'.size → Go Z EL nw R Post K h' (S' ++ S) (k + rm.cells) (n + rm.slots) pc' L (v.toList ++ rest)) (hln : 4 = ps.length := by rfl) (hy : y.cls ≠ "java/lang/invoke/MethodHandle" ∧ y.cls ≠ "java/lang/invoke/VarHandle" := by decide) (hL : L.length = maxL := by rfl) (hf : rm.frames + 1 ≤ R.frames := by decide) (hl : (rest.map fun v => v.category).sum + (maxL' + 11) + rm.locals ≤ R.locals := by exact Nat.le_of_ble_eq_true rfl) (hcc : k + rm.cells ≤ R.cells := by decide) (hss : n + rm.slots ≤ R.slots := by decide) : Go Z EL nw R Post K h S k n pc L (v4 :: v3 :: v2 :: v1 :: rest) := G.callS [v1, v2, v3, v4] hd w1 w2 w3 w4 pd c hS0 rfl hln f hy hL hf hl hcc hss
theorem Good.callS5 (G : Good Z a0 EL K own code maxL ret nm) {v1 v2 v3 v4 v5 : Value} (hd : Dc code pc (.invokestatic index) 3 pc') (w1 : (Cond.methodLink own index y).before a0 Z = true) (w2 : (Cond.static y).before a0 Z = true) (w3 : (Cond.initialized y.cls).before a0 Z = true) (w4 : (Cond.code y bytes maxL' ret').before a0 Z = true) (pd : parseMethodDescriptor y.desc = some ⟨ps, rr⟩) (c : Con K.l Z EL nw y bytes maxL' ret' [] rm #[v1, v2, v3, v4, v5] h S0 Post') (hS0 : ∀ x ∈ S0, x ∈ S) (f : ∀ v h' S', Post' v h' S' → h.size ≤ h'.size → Go Z EL nw R Post K h' (S' ++ S) (k + rm.cells) (n + rm.slots) pc' L (v.toList ++ rest)) (hln : 5 = ps.length := by rfl) (hy : y.cls ≠ "java/lang/invoke/MethodHandle" ∧ y.cls ≠ "java/lang/invoke/VarHandle" := by decide) (hL : L.length = maxL := by rfl) (hf : rm.frames + 1 ≤ R.frames := by decide) (hl : (rest.map fun v => v.category).sum + (maxL' + 11) + rm.locals ≤ R.locals := by exact Nat.le_of_ble_eq_true rfl) (hcc : k + rm.cells ≤ R.cells := by decide) (hss : n + rm.slots ≤ R.slots := by decide) : Go Z EL nw R Post K h S k n pc L (v5 :: v4 :: v3 :: v2 :: v1 :: rest) := G.callS [v1, v2, v3, v4, v5] hd w1 w2 w3 w4 pd c hS0 rfl hln f hy hL hf hl hcc hss
theorem Good.callS6 (G : Good Z a0 EL K own code maxL ret nm) {v1 v2 v3 v4 v5 v6 : Value} (hd : Dc code pc (.invokestatic index) 3 pc') (w1 : (Cond.methodLink own index y).before a0 Z = true) (w2 : (Cond.static y).before a0 Z = true) (w3 : (Cond.initialized y.cls).before a0 Z = true) (w4 : (Cond.code y bytes maxL' ret').before a0 Z = true) (pd : parseMethodDescriptor y.desc = some ⟨ps, rr⟩) (c : Con K.l Z EL nw y bytes maxL' ret' [] rm #[v1, v2, v3, v4, v5, v6] h S0 Post') (hS0 : ∀ x ∈ S0, x ∈ S) (f : ∀ v h' S', Post' v h' S' → h.size ≤ h'.size → Go Z EL nw R Post K h' (S' ++ S) (k + rm.cells) (n + rm.slots) pc' L (v.toList ++ rest)) (hln : 6 = ps.length := by rfl) (hy : y.cls ≠ "java/lang/invoke/MethodHandle" ∧ y.cls ≠ "java/lang/invoke/VarHandle" := by decide) (hL : L.length = maxL := by rfl) (hf : rm.frames + 1 ≤ R.frames := by decide) (hl : (rest.map fun v => v.category).sum + (maxL' + 11) + rm.locals ≤ R.locals := by exact Nat.le_of_ble_eq_true rfl) (hcc : k + rm.cells ≤ R.cells := by decide) (hss : n + rm.slots ≤ R.slots := by decide) : Go Z EL nw R Post K h S k n pc L (v6 :: v5 :: v4 :: v3 :: v2 :: v1 :: rest) := G.callS [v1, v2, v3, v4, v5, v6] hd w1 w2 w3 w4 pd c hS0 rfl hln f hy hL hf hl hcc hss
theorem Good.callS7 (G : Good Z a0 EL K own code maxL ret nm) {v1 v2 v3 v4 v5 v6 v7 : Value} (hd : Dc code pc (.invokestatic index) 3 pc') (w1 : (Cond.methodLink own index y).before a0 Z = true) (w2 : (Cond.static y).before a0 Z = true) (w3 : (Cond.initialized y.cls).before a0 Z = true) (w4 : (Cond.code y bytes maxL' ret').before a0 Z = true) (pd : parseMethodDescriptor y.desc = some ⟨ps, rr⟩) (c : Con K.l Z EL nw y bytes maxL' ret' [] rm #[v1, v2, v3, v4, v5, v6, v7] h S0 Post') (hS0 : ∀ x ∈ S0, x ∈ S) (f : ∀ v h' S', Post' v h' S' → h.size ≤ h'.size → Go Z EL nw R Post K h' (S' ++ S) (k + rm.cells) (n + rm.slots) pc' L (v.toList ++ rest)) (hln : 7 = ps.length := by rfl) (hy : y.cls ≠ "java/lang/invoke/MethodHandle" ∧ y.cls ≠ "java/lang/invoke/VarHandle" := by decide) (hL : L.length = maxL := by rfl) (hf : rm.frames + 1 ≤ R.frames := by decide) (hl : (rest.map fun v => v.category).sum + (maxL' + 11) + rm.locals ≤ R.locals := by exact Nat.le_of_ble_eq_true rfl) (hcc : k + rm.cells ≤ R.cells := by decide) (hss : n + rm.slots ≤ R.slots := by decide) : Go Z EL nw R Post K h S k n pc L (v7 :: v6 :: v5 :: v4 :: v3 :: v2 :: v1 :: rest) := G.callS [v1, v2, v3, v4, v5, v6, v7] hd w1 w2 w3 w4 pd c hS0 rfl hln f hy hL hf hl hcc hss
theorem Good.callI0 (G : Good Z a0 EL K own code maxL ret nm) (hd : Dc code pc (.invokespecial index) 3 pc') (w1 : (Cond.methodLink own index y).before a0 Z = true) (w2 : (Cond.instanceMethod y).before a0 Z = true) (w3 : (Cond.initialized y.cls).before a0 Z = true) (w4 : (Cond.code y bytes maxL' none).before a0 Z = true) (pd : parseMethodDescriptor y.desc = some ⟨ps, rr⟩) (c : Con K.l Z EL nw y bytes maxL' none [] rm #[.ref a] h S0 Post') (hS0 : ∀ x ∈ S0, x ∈ S) (f : ∀ v h' S', Post' v h' S' → h.size ≤ h'.size → Go Z EL nw R Post K h' (S' ++ S) (k + rm.cells) (n + rm.slots) pc' L (v.toList ++ rest)) (hy1 : y.name = "<init>" := by rfl) (hln : 0 = ps.length := by rfl) (hy : y.cls ≠ "java/lang/invoke/MethodHandle" ∧ y.cls ≠ "java/lang/invoke/VarHandle" := by decide) (hL : L.length = maxL := by rfl) (hf : rm.frames + 1 ≤ R.frames := by decide) (hl : (rest.map fun v => v.category).sum + (maxL' + 11) + rm.locals ≤ R.locals := by exact Nat.le_of_ble_eq_true rfl) (hcc : k + rm.cells ≤ R.cells := by decide) (hss : n + rm.slots ≤ R.slots := by decide) : Go Z EL nw R Post K h S k n pc L (.ref a :: rest) := G.callI [] hd w1 w2 w3 w4 pd c hS0 rfl hln f hy1 hy hL hf hl hcc hss
theorem Good.callV0 (G : Good Z a0 EL K own code maxL ret nm) (hd : Dc code pc (.invokevirtual index) 3 pc') (w1 : (Cond.methodLink own index y).before a0 Z = true) (w2 : (Cond.declares y).before a0 Z = true) (w3 : (Cond.selects C y y).before a0 Z = true) (w4 : (Cond.instanceMethod y).before a0 Z = true) (w5 : (Cond.code y bytes maxL' ret').before a0 Z = true) (w6 : (Cond.initialized y.cls).before a0 Z = true) (pd : parseMethodDescriptor y.desc = some ⟨ps, rr⟩) (E : Exa Z h a C) (c : Con K.l Z EL nw y bytes maxL' ret' [] rm #[.ref a] h S0 Post') (hS0 : ∀ x ∈ S0, x ∈ S) (f : ∀ v h' S', Post' v h' S' → h.size ≤ h'.size → Go Z EL nw R Post K h' (S' ++ S) (k + rm.cells) (n + rm.slots) pc' L (v.toList ++ rest)) (hln : 0 = ps.length := by rfl) (hy : y.cls ≠ "java/lang/invoke/MethodHandle" ∧ y.cls ≠ "java/lang/invoke/VarHandle" := by decide) (hL : L.length = maxL := by rfl) (hf : rm.frames + 1 ≤ R.frames := by decide) (hl : (rest.map fun v => v.category).sum + (maxL' + 11) + rm.locals ≤ R.locals := by exact Nat.le_of_ble_eq_true rfl) (hcc : k + rm.cells ≤ R.cells := by decide) (hss : n + rm.slots ≤ R.slots := by decide) : Go Z EL nw R Post K h S k n pc L (.ref a :: rest) := G.callV (Nf.sel w3) [] hd w1 w2 w3 w4 w5 w6 pd E c hS0 rfl hln f hy hL hf hl hcc hss
theorem Good.callW0 (G : Good Z a0 EL K own code maxL ret nm) (nf : Nf Z y) (hd : Dc code pc (.invokevirtual index) 3 pc') (w1 : (Cond.methodLink own index y).before a0 Z = true) (w2 : (Cond.declares y).before a0 Z = true) (w3 : (Cond.selects C y z).before a0 Z = true) (w4 : (Cond.instanceMethod z).before a0 Z = true) (w5 : (Cond.code z bytes maxL' ret').before a0 Z = true) (w6 : (Cond.initialized z.cls).before a0 Z = true) (pd : parseMethodDescriptor y.desc = some ⟨ps, rr⟩) (E : Exa Z h a C) (c : Con K.l Z EL nw z bytes maxL' ret' [] rm #[.ref a] h S0 Post') (hS0 : ∀ x ∈ S0, x ∈ S) (f : ∀ v h' S', Post' v h' S' → h.size ≤ h'.size → Go Z EL nw R Post K h' (S' ++ S) (k + rm.cells) (n + rm.slots) pc' L (v.toList ++ rest)) (hln : 0 = ps.length := by rfl) (hy : y.cls ≠ "java/lang/invoke/MethodHandle" ∧ y.cls ≠ "java/lang/invoke/VarHandle" := by decide) (hL : L.length = maxL := by rfl) (hf : rm.frames + 1 ≤ R.frames := by decide) (hl : (rest.map fun v => v.category).sum + (maxL' + 11) + rm.locals ≤ R.locals := by exact Nat.le_of_ble_eq_true rfl) (hcc : k + rm.cells ≤ R.cells := by decide) (hss : n + rm.slots ≤ R.slots := by decide) : Go Z EL nw R Post K h S k n pc L (.ref a :: rest) := G.callV nf [] hd w1 w2 w3 w4 w5 w6 pd E c hS0 rfl hln f hy hL hf hl hcc hss
theorem Good.callP0 (G : Good Z a0 EL K own code maxL ret nm) (hd : Dc code pc (.invokevirtual index) 3 pc') (w1 : (Cond.methodLink own index y).before a0 Z = true) (w2 : (Cond.instanceMethod y).before a0 Z = true) (w3 : (Cond.privateMethod y).before a0 Z = true) (w4 : (Cond.code y bytes maxL' ret').before a0 Z = true) (w5 : (Cond.initialized y.cls).before a0 Z = true) (nf : Nf Z y) (pd : parseMethodDescriptor y.desc = some ⟨ps, rr⟩) (E : Exa Z h a C) (c : Con K.l Z EL nw y bytes maxL' ret' [] rm #[.ref a] h S0 Post') (hS0 : ∀ x ∈ S0, x ∈ S) (f : ∀ v h' S', Post' v h' S' → h.size ≤ h'.size → Go Z EL nw R Post K h' (S' ++ S) (k + rm.cells) (n + rm.slots) pc' L (v.toList ++ rest)) (hln : 0 = ps.length := by rfl) (hy : y.cls ≠ "java/lang/invoke/MethodHandle" ∧ y.cls ≠ "java/lang/invoke/VarHandle" := by decide) (hL : L.length = maxL := by rfl) (hf : rm.frames + 1 ≤ R.frames := by decide) (hl : (rest.map fun v => v.category).sum + (maxL' + 11) + rm.locals ≤ R.locals := by exact Nat.le_of_ble_eq_true rfl) (hcc : k + rm.cells ≤ R.cells := by decide) (hss : n + rm.slots ≤ R.slots := by decide) : Go Z EL nw R Post K h S k n pc L (.ref a :: rest) := G.callP [] hd w1 w2 w3 w4 w5 nf pd E c hS0 rfl hln f hy hL hf hl hcc hss
theorem Good.callF0 (G : Good Z a0 EL K own code maxL ret nm) {count : Nat} (hd : Dc code pc (.invokeinterface index count) 5 pc') (w1 : (Cond.methodLink own index y).before a0 Z = true) (w2 : (Cond.declares y).before a0 Z = true) (w3 : (Cond.interfaceMethod y.cls y.cls y.name y.desc).before a0 Z = true) (w4 : (Cond.selects C y z).before a0 Z = true) (w5 : (Cond.instanceMethod z).before a0 Z = true) (w6 : (Cond.publicMethod z).before a0 Z = true) (w7 : (Cond.unhidden C y.name y.desc).before a0 Z = true) (w8 : (Cond.castable C y.cls).before a0 Z = true) (w9 : (Cond.code z bytes maxL' ret').before a0 Z = true) (w10 : (Cond.initialized z.cls).before a0 Z = true) (pd : parseMethodDescriptor y.desc = some ⟨ps, rr⟩) (E : Exa Z h a C) (c : Con K.l Z EL nw z bytes maxL' ret' [] rm #[.ref a] h S0 Post') (hS0 : ∀ x ∈ S0, x ∈ S) (f : ∀ v h' S', Post' v h' S' → h.size ≤ h'.size → Go Z EL nw R Post K h' (S' ++ S) (k + rm.cells) (n + rm.slots) pc' L (v.toList ++ rest)) (hln : 0 = ps.length := by rfl) (hy : y.cls ≠ "java/lang/invoke/MethodHandle" ∧ y.cls ≠ "java/lang/invoke/VarHandle" := by decide) (hL : L.length = maxL := by rfl) (hf : rm.frames + 1 ≤ R.frames := by decide) (hl : (rest.map fun v => v.category).sum + (maxL' + 11) + rm.locals ≤ R.locals := by exact Nat.le_of_ble_eq_true rfl) (hcc : k + rm.cells ≤ R.cells := by decide) (hss : n + rm.slots ≤ R.slots := by decide) : Go Z EL nw R Post K h S k n pc L (.ref a :: rest) := G.callF [] hd w1 w2 w3 w4 w5 w6 w7 w8 w9 w10 pd E c hS0 rfl hln f hy hL hf hl hcc hss
theorem Good.callI1 (G : Good Z a0 EL K own code maxL ret nm) {v1 : Value} (hd : Dc code pc (.invokespecial index) 3 pc') (w1 : (Cond.methodLink own index y).before a0 Z = true) (w2 : (Cond.instanceMethod y).before a0 Z = true) (w3 : (Cond.initialized y.cls).before a0 Z = true) (w4 : (Cond.code y bytes maxL' none).before a0 Z = true) (pd : parseMethodDescriptor y.desc = some ⟨ps, rr⟩) (c : Con K.l Z EL nw y bytes maxL' none [] rm #[.ref a, v1] h S0 Post') (hS0 : ∀ x ∈ S0, x ∈ S) (f : ∀ v h' S', Post' v h' S' → h.size ≤ h'.size → Go Z EL nw R Post K h' (S' ++ S) (k + rm.cells) (n + rm.slots) pc' L (v.toList ++ rest)) (hy1 : y.name = "<init>" := by rfl) (hln : 1 = ps.length := by rfl) (hy : y.cls ≠ "java/lang/invoke/MethodHandle" ∧ y.cls ≠ "java/lang/invoke/VarHandle" := by decide) (hL : L.length = maxL := by rfl) (hf : rm.frames + 1 ≤ R.frames := by decide) (hl : (rest.map fun v => v.category).sum + (maxL' + 11) + rm.locals ≤ R.locals := by exact Nat.le_of_ble_eq_true rfl) (hcc : k + rm.cells ≤ R.cells := by decide) (hss : n + rm.slots ≤ R.slots := by decide) : Go Z EL nw R Post K h S k n pc L (v1 :: .ref a :: rest) := G.callI [v1] hd w1 w2 w3 w4 pd c hS0 rfl hln f hy1 hy hL hf hl hcc hss
theorem Good.callV1 (G : Good Z a0 EL K own code maxL ret nm) {v1 : Value} (hd : Dc code pc (.invokevirtual index) 3 pc') (w1 : (Cond.methodLink own index y).before a0 Z = true) (w2 : (Cond.declares y).before a0 Z = true) (w3 : (Cond.selects C y y).before a0 Z = true) (w4 : (Cond.instanceMethod y).before a0 Z = true) (w5 : (Cond.code y bytes maxL' ret').before a0 Z = true) (w6 : (Cond.initialized y.cls).before a0 Z = true) (pd : parseMethodDescriptor y.desc = some ⟨ps, rr⟩) (E : Exa Z h a C) (c : Con K.l Z EL nw y bytes maxL' ret' [] rm #[.ref a, v1] h S0 Post') (hS0 : ∀ x ∈ S0, x ∈ S) (f : ∀ v h' S', Post' v h' S' → h.size ≤ h'.size → Go Z EL nw R Post K h' (S' ++ S) (k + rm.cells) (n + rm.slots) pc' L (v.toList ++ rest)) (hln : 1 = ps.length := by rfl) (hy : y.cls ≠ "java/lang/invoke/MethodHandle" ∧ y.cls ≠ "java/lang/invoke/VarHandle" := by decide) (hL : L.length = maxL := by rfl) (hf : rm.frames + 1 ≤ R.frames := by decide) (hl : (rest.map fun v => v.category).sum + (maxL' + 11) + rm.locals ≤ R.locals := by exact Nat.le_of_ble_eq_true rfl) (hcc : k + rm.cells ≤ R.cells := by decide) (hss : n + rm.slots ≤ R.slots := by decide) : Go Z EL nw R Post K h S k n pc L (v1 :: .ref a :: rest) := G.callV (Nf.sel w3) [v1] hd w1 w2 w3 w4 w5 w6 pd E c hS0 rfl hln f hy hL hf hl hcc hss
theorem Good.callW1 (G : Good Z a0 EL K own code maxL ret nm) (nf : Nf Z y) {v1 : Value} (hd : Dc code pc (.invokevirtual index) 3 pc') (w1 : (Cond.methodLink own index y).before a0 Z = true) (w2 : (Cond.declares y).before a0 Z = true) (w3 : (Cond.selects C y z).before a0 Z = true) (w4 : (Cond.instanceMethod z).before a0 Z = true) (w5 : (Cond.code z bytes maxL' ret').before a0 Z = true) (w6 : (Cond.initialized z.cls).before a0 Z = true) (pd : parseMethodDescriptor y.desc = some ⟨ps, rr⟩) (E : Exa Z h a C) (c : Con K.l Z EL nw z bytes maxL' ret' [] rm #[.ref a, v1] h S0 Post') (hS0 : ∀ x ∈ S0, x ∈ S) (f : ∀ v h' S', Post' v h' S' → h.size ≤ h'.size → Go Z EL nw R Post K h' (S' ++ S) (k + rm.cells) (n + rm.slots) pc' L (v.toList ++ rest)) (hln : 1 = ps.length := by rfl) (hy : y.cls ≠ "java/lang/invoke/MethodHandle" ∧ y.cls ≠ "java/lang/invoke/VarHandle" := by decide) (hL : L.length = maxL := by rfl) (hf : rm.frames + 1 ≤ R.frames := by decide) (hl : (rest.map fun v => v.category).sum + (maxL' + 11) + rm.locals ≤ R.locals := by exact Nat.le_of_ble_eq_true rfl) (hcc : k + rm.cells ≤ R.cells := by decide) (hss : n + rm.slots ≤ R.slots := by decide) : Go Z EL nw R Post K h S k n pc L (v1 :: .ref a :: rest) := G.callV nf [v1] hd w1 w2 w3 w4 w5 w6 pd E c hS0 rfl hln f hy hL hf hl hcc hss
theorem Good.callP1 (G : Good Z a0 EL K own code maxL ret nm) {v1 : Value} (hd : Dc code pc (.invokevirtual index) 3 pc') (w1 : (Cond.methodLink own index y).before a0 Z = true) (w2 : (Cond.instanceMethod y).before a0 Z = true) (w3 : (Cond.privateMethod y).before a0 Z = true) (w4 : (Cond.code y bytes maxL' ret').before a0 Z = true) (w5 : (Cond.initialized y.cls).before a0 Z = true) (nf : Nf Z y) (pd : parseMethodDescriptor y.desc = some ⟨ps, rr⟩) (E : Exa Z h a C) (c : Con K.l Z EL nw y bytes maxL' ret' [] rm #[.ref a, v1] h S0 Post') (hS0 : ∀ x ∈ S0, x ∈ S) (f : ∀ v h' S', Post' v h' S' → h.size ≤ h'.size → Go Z EL nw R Post K h' (S' ++ S) (k + rm.cells) (n + rm.slots) pc' L (v.toList ++ rest)) (hln : 1 = ps.length := by rfl) (hy : y.cls ≠ "java/lang/invoke/MethodHandle" ∧ y.cls ≠ "java/lang/invoke/VarHandle" := by decide) (hL : L.length = maxL := by rfl) (hf : rm.frames + 1 ≤ R.frames := by decide) (hl : (rest.map fun v => v.category).sum + (maxL' + 11) + rm.locals ≤ R.locals := by exact Nat.le_of_ble_eq_true rfl) (hcc : k + rm.cells ≤ R.cells := by decide) (hss : n + rm.slots ≤ R.slots := by decide) : Go Z EL nw R Post K h S k n pc L (v1 :: .ref a :: rest) := G.callP [v1] hd w1 w2 w3 w4 w5 nf pd E c hS0 rfl hln f hy hL hf hl hcc hss
theorem Good.callF1 (G : Good Z a0 EL K own code maxL ret nm) {count : Nat} {v1 : Value} (hd : Dc code pc (.invokeinterface index count) 5 pc') (w1 : (Cond.methodLink own index y).before a0 Z = true) (w2 : (Cond.declares y).before a0 Z = true) (w3 : (Cond.interfaceMethod y.cls y.cls y.name y.desc).before a0 Z = true) (w4 : (Cond.selects C y z).before a0 Z = true) (w5 : (Cond.instanceMethod z).before a0 Z = true) (w6 : (Cond.publicMethod z).before a0 Z = true) (w7 : (Cond.unhidden C y.name y.desc).before a0 Z = true) (w8 : (Cond.castable C y.cls).before a0 Z = true) (w9 : (Cond.code z bytes maxL' ret').before a0 Z = true) (w10 : (Cond.initialized z.cls).before a0 Z = true) (pd : parseMethodDescriptor y.desc = some ⟨ps, rr⟩) (E : Exa Z h a C) (c : Con K.l Z EL nw z bytes maxL' ret' [] rm #[.ref a, v1] h S0 Post') (hS0 : ∀ x ∈ S0, x ∈ S) (f : ∀ v h' S', Post' v h' S' → h.size ≤ h'.size → Go Z EL nw R Post K h' (S' ++ S) (k + rm.cells) (n + rm.slots) pc' L (v.toList ++ rest)) (hln : 1 = ps.length := by rfl) (hy : y.cls ≠ "java/lang/invoke/MethodHandle" ∧ y.cls ≠ "java/lang/invoke/VarHandle" := by decide) (hL : L.length = maxL := by rfl) (hf : rm.frames + 1 ≤ R.frames := by decide) (hl : (rest.map fun v => v.category).sum + (maxL' + 11) + rm.locals ≤ R.locals := by exact Nat.le_of_ble_eq_true rfl) (hcc : k + rm.cells ≤ R.cells := by decide) (hss : n + rm.slots ≤ R.slots := by decide) : Go Z EL nw R Post K h S k n pc L (v1 :: .ref a :: rest) := G.callF [v1] hd w1 w2 w3 w4 w5 w6 w7 w8 w9 w10 pd E c hS0 rfl hln f hy hL hf hl hcc hss
theorem Good.callI2 (G : Good Z a0 EL K own code maxL ret nm) {v1 v2 : Value} (hd : Dc code pc (.invokespecial index) 3 pc') (w1 : (Cond.methodLink own index y).before a0 Z = true) (w2 : (Cond.instanceMethod y).before a0 Z = true) (w3 : (Cond.initialized y.cls).before a0 Z = true) (w4 : (Cond.code y bytes maxL' none).before a0 Z = true) (pd : parseMethodDescriptor y.desc = some ⟨ps, rr⟩) (c : Con K.l Z EL nw y bytes maxL' none [] rm #[.ref a, v1, v2] h S0 Post') (hS0 : ∀ x ∈ S0, x ∈ S) (f : ∀ v h' S', Post' v h' S' → h.size ≤ h'.size → Go Z EL nw R Post K h' (S' ++ S) (k + rm.cells) (n + rm.slots) pc' L (v.toList ++ rest)) (hy1 : y.name = "<init>" := by rfl) (hln : 2 = ps.length := by rfl) (hy : y.cls ≠ "java/lang/invoke/MethodHandle" ∧ y.cls ≠ "java/lang/invoke/VarHandle" := by decide) (hL : L.length = maxL := by rfl) (hf : rm.frames + 1 ≤ R.frames := by decide) (hl : (rest.map fun v => v.category).sum + (maxL' + 11) + rm.locals ≤ R.locals := by exact Nat.le_of_ble_eq_true rfl) (hcc : k + rm.cells ≤ R.cells := by decide) (hss : n + rm.slots ≤ R.slots := by decide) : Go Z EL nw R Post K h S k n pc L (v2 :: v1 :: .ref a :: rest) := G.callI [v1, v2] hd w1 w2 w3 w4 pd c hS0 rfl hln f hy1 hy hL hf hl hcc hss
theorem Good.callV2 (G : Good Z a0 EL K own code maxL ret nm) {v1 v2 : Value} (hd : Dc code pc (.invokevirtual index) 3 pc') (w1 : (Cond.methodLink own index y).before a0 Z = true) (w2 : (Cond.declares y).before a0 Z = true) (w3 : (Cond.selects C y y).before a0 Z = true) (w4 : (Cond.instanceMethod y).before a0 Z = true) (w5 : (Cond.code y bytes maxL' ret').before a0 Z = true) (w6 : (Cond.initialized y.cls).before a0 Z = true) (pd : parseMethodDescriptor y.desc = some ⟨ps, rr⟩) (E : Exa Z h a C) (c : Con K.l Z EL nw y bytes maxL' ret' [] rm #[.ref a, v1, v2] h S0 Post') (hS0 : ∀ x ∈ S0, x ∈ S) (f : ∀ v h' S', Post' v h' S' → h.size ≤ h'.size → Go Z EL nw R Post K h' (S' ++ S) (k + rm.cells) (n + rm.slots) pc' L (v.toList ++ rest)) (hln : 2 = ps.length := by rfl) (hy : y.cls ≠ "java/lang/invoke/MethodHandle" ∧ y.cls ≠ "java/lang/invoke/VarHandle" := by decide) (hL : L.length = maxL := by rfl) (hf : rm.frames + 1 ≤ R.frames := by decide) (hl : (rest.map fun v => v.category).sum + (maxL' + 11) + rm.locals ≤ R.locals := by exact Nat.le_of_ble_eq_true rfl) (hcc : k + rm.cells ≤ R.cells := by decide) (hss : n + rm.slots ≤ R.slots := by decide) : Go Z EL nw R Post K h S k n pc L (v2 :: v1 :: .ref a :: rest) := G.callV (Nf.sel w3) [v1, v2] hd w1 w2 w3 w4 w5 w6 pd E c hS0 rfl hln f hy hL hf hl hcc hss
theorem Good.callW2 (G : Good Z a0 EL K own code maxL ret nm) (nf : Nf Z y) {v1 v2 : Value} (hd : Dc code pc (.invokevirtual index) 3 pc') (w1 : (Cond.methodLink own index y).before a0 Z = true) (w2 : (Cond.declares y).before a0 Z = true) (w3 : (Cond.selects C y z).before a0 Z = true) (w4 : (Cond.instanceMethod z).before a0 Z = true) (w5 : (Cond.code z bytes maxL' ret').before a0 Z = true) (w6 : (Cond.initialized z.cls).before a0 Z = true) (pd : parseMethodDescriptor y.desc = some ⟨ps, rr⟩) (E : Exa Z h a C) (c : Con K.l Z EL nw z bytes maxL' ret' [] rm #[.ref a, v1, v2] h S0 Post') (hS0 : ∀ x ∈ S0, x ∈ S) (f : ∀ v h' S', Post' v h' S' → h.size ≤ h'.size → Go Z EL nw R Post K h' (S' ++ S) (k + rm.cells) (n + rm.slots) pc' L (v.toList ++ rest)) (hln : 2 = ps.length := by rfl) (hy : y.cls ≠ "java/lang/invoke/MethodHandle" ∧ y.cls ≠ "java/lang/invoke/VarHandle" := by decide) (hL : L.length = maxL := by rfl) (hf : rm.frames + 1 ≤ R.frames := by decide) (hl : (rest.map fun v => v.category).sum + (maxL' + 11) + rm.locals ≤ R.locals := by exact Nat.le_of_ble_eq_true rfl) (hcc : k + rm.cells ≤ R.cells := by decide) (hss : n + rm.slots ≤ R.slots := by decide) : Go Z EL nw R Post K h S k n pc L (v2 :: v1 :: .ref a :: rest) := G.callV nf [v1, v2] hd w1 w2 w3 w4 w5 w6 pd E c hS0 rfl hln f hy hL hf hl hcc hss
theorem Good.callP2 (G : Good Z a0 EL K own code maxL ret nm) {v1 v2 : Value} (hd : Dc code pc (.invokevirtual index) 3 pc') (w1 : (Cond.methodLink own index y).before a0 Z = true) (w2 : (Cond.instanceMethod y).before a0 Z = true) (w3 : (Cond.privateMethod y).before a0 Z = true) (w4 : (Cond.code y bytes maxL' ret').before a0 Z = true) (w5 : (Cond.initialized y.cls).before a0 Z = true) (nf : Nf Z y) (pd : parseMethodDescriptor y.desc = some ⟨ps, rr⟩) (E : Exa Z h a C) (c : Con K.l Z EL nw y bytes maxL' ret' [] rm #[.ref a, v1, v2] h S0 Post') (hS0 : ∀ x ∈ S0, x ∈ S) (f : ∀ v h' S', Post' v h' S' → h.size ≤ h'.size → Go Z EL nw R Post K h' (S' ++ S) (k + rm.cells) (n + rm.slots) pc' L (v.toList ++ rest)) (hln : 2 = ps.length := by rfl) (hy : y.cls ≠ "java/lang/invoke/MethodHandle" ∧ y.cls ≠ "java/lang/invoke/VarHandle" := by decide) (hL : L.length = maxL := by rfl) (hf : rm.frames + 1 ≤ R.frames := by decide) (hl : (rest.map fun v => v.category).sum + (maxL' + 11) + rm.locals ≤ R.locals := by exact Nat.le_of_ble_eq_true rfl) (hcc : k + rm.cells ≤ R.cells := by decide) (hss : n + rm.slots ≤ R.slots := by decide) : Go Z EL nw R Post K h S k n pc L (v2 :: v1 :: .ref a :: rest) := G.callP [v1, v2] hd w1 w2 w3 w4 w5 nf pd E c hS0 rfl hln f hy hL hf hl hcc hss
theorem Good.callF2 (G : Good Z a0 EL K own code maxL ret nm) {count : Nat} {v1 v2 : Value} (hd : Dc code pc (.invokeinterface index count) 5 pc') (w1 : (Cond.methodLink own index y).before a0 Z = true) (w2 : (Cond.declares y).before a0 Z = true) (w3 : (Cond.interfaceMethod y.cls y.cls y.name y.desc).before a0 Z = true) (w4 : (Cond.selects C y z).before a0 Z = true) (w5 : (Cond.instanceMethod z).before a0 Z = true) (w6 : (Cond.publicMethod z).before a0 Z = true) (w7 : (Cond.unhidden C y.name y.desc).before a0 Z = true) (w8 : (Cond.castable C y.cls).before a0 Z = true) (w9 : (Cond.code z bytes maxL' ret').before a0 Z = true) (w10 : (Cond.initialized z.cls).before a0 Z = true) (pd : parseMethodDescriptor y.desc = some ⟨ps, rr⟩) (E : Exa Z h a C) (c : Con K.l Z EL nw z bytes maxL' ret' [] rm #[.ref a, v1, v2] h S0 Post') (hS0 : ∀ x ∈ S0, x ∈ S) (f : ∀ v h' S', Post' v h' S' → h.size ≤ h'.size → Go Z EL nw R Post K h' (S' ++ S) (k + rm.cells) (n + rm.slots) pc' L (v.toList ++ rest)) (hln : 2 = ps.length := by rfl) (hy : y.cls ≠ "java/lang/invoke/MethodHandle" ∧ y.cls ≠ "java/lang/invoke/VarHandle" := by decide) (hL : L.length = maxL := by rfl) (hf : rm.frames + 1 ≤ R.frames := by decide) (hl : (rest.map fun v => v.category).sum + (maxL' + 11) + rm.locals ≤ R.locals := by exact Nat.le_of_ble_eq_true rfl) (hcc : k + rm.cells ≤ R.cells := by decide) (hss : n + rm.slots ≤ R.slots := by decide) : Go Z EL nw R Post K h S k n pc L (v2 :: v1 :: .ref a :: rest) := G.callF [v1, v2] hd w1 w2 w3 w4 w5 w6 w7 w8 w9 w10 pd E c hS0 rfl hln f hy hL hf hl hcc hss
theorem Good.callI3 (G : Good Z a0 EL K own code maxL ret nm) {v1 v2 v3 : Value} (hd : Dc code pc (.invokespecial index) 3 pc') (w1 : (Cond.methodLink own index y).before a0 Z = true) (w2 : (Cond.instanceMethod y).before a0 Z = true) (w3 : (Cond.initialized y.cls).before a0 Z = true) (w4 : (Cond.code y bytes maxL' none).before a0 Z = true) (pd : parseMethodDescriptor y.desc = some ⟨ps, rr⟩) (c : Con K.l Z EL nw y bytes maxL' none [] rm #[.ref a, v1, v2, v3] h S0 Post') (hS0 : ∀ x ∈ S0, x ∈ S) (f : ∀ v h' S', Post' v h' S' → h.size ≤ h'.size → Go Z EL nw R Post K h' (S' ++ S) (k + rm.cells) (n + rm.slots) pc' L (v.toList ++ rest)) (hy1 : y.name = "<init>" := by rfl) (hln : 3 = ps.length := by rfl) (hy : y.cls ≠ "java/lang/invoke/MethodHandle" ∧ y.cls ≠ "java/lang/invoke/VarHandle" := by decide) (hL : L.length = maxL := by rfl) (hf : rm.frames + 1 ≤ R.frames := by decide) (hl : (rest.map fun v => v.category).sum + (maxL' + 11) + rm.locals ≤ R.locals := by exact Nat.le_of_ble_eq_true rfl) (hcc : k + rm.cells ≤ R.cells := by decide) (hss : n + rm.slots ≤ R.slots := by decide) : Go Z EL nw R Post K h S k n pc L (v3 :: v2 :: v1 :: .ref a :: rest) := G.callI [v1, v2, v3] hd w1 w2 w3 w4 pd c hS0 rfl hln f hy1 hy hL hf hl hcc hss
theorem Good.callV3 (G : Good Z a0 EL K own code maxL ret nm) {v1 v2 v3 : Value} (hd : Dc code pc (.invokevirtual index) 3 pc') (w1 : (Cond.methodLink own index y).before a0 Z = true) (w2 : (Cond.declares y).before a0 Z = true) (w3 : (Cond.selects C y y).before a0 Z = true) (w4 : (Cond.instanceMethod y).before a0 Z = true) (w5 : (Cond.code y bytes maxL' ret').before a0 Z = true) (w6 : (Cond.initialized y.cls).before a0 Z = true) (pd : parseMethodDescriptor y.desc = some ⟨ps, rr⟩) (E : Exa Z h a C) (c : Con K.l Z EL nw y bytes maxL' ret' [] rm #[.ref a, v1, v2, v3] h S0 Post') (hS0 : ∀ x ∈ S0, x ∈ S) (f : ∀ v h' S', Post' v h' S' → h.size ≤ h'.size → Go Z EL nw R Post K h' (S' ++ S) (k + rm.cells) (n + rm.slots) pc' L (v.toList ++ rest)) (hln : 3 = ps.length := by rfl) (hy : y.cls ≠ "java/lang/invoke/MethodHandle" ∧ y.cls ≠ "java/lang/invoke/VarHandle" := by decide) (hL : L.length = maxL := by rfl) (hf : rm.frames + 1 ≤ R.frames := by decide) (hl : (rest.map fun v => v.category).sum + (maxL' + 11) + rm.locals ≤ R.locals := by exact Nat.le_of_ble_eq_true rfl) (hcc : k + rm.cells ≤ R.cells := by decide) (hss : n + rm.slots ≤ R.slots := by decide) : Go Z EL nw R Post K h S k n pc L (v3 :: v2 :: v1 :: .ref a :: rest) := G.callV (Nf.sel w3) [v1, v2, v3] hd w1 w2 w3 w4 w5 w6 pd E c hS0 rfl hln f hy hL hf hl hcc hss
theorem Good.callW3 (G : Good Z a0 EL K own code maxL ret nm) (nf : Nf Z y) {v1 v2 v3 : Value} (hd : Dc code pc (.invokevirtual index) 3 pc') (w1 : (Cond.methodLink own index y).before a0 Z = true) (w2 : (Cond.declares y).before a0 Z = true) (w3 : (Cond.selects C y z).before a0 Z = true) (w4 : (Cond.instanceMethod z).before a0 Z = true) (w5 : (Cond.code z bytes maxL' ret').before a0 Z = true) (w6 : (Cond.initialized z.cls).before a0 Z = true) (pd : parseMethodDescriptor y.desc = some ⟨ps, rr⟩) (E : Exa Z h a C) (c : Con K.l Z EL nw z bytes maxL' ret' [] rm #[.ref a, v1, v2, v3] h S0 Post') (hS0 : ∀ x ∈ S0, x ∈ S) (f : ∀ v h' S', Post' v h' S' → h.size ≤ h'.size → Go Z EL nw R Post K h' (S' ++ S) (k + rm.cells) (n + rm.slots) pc' L (v.toList ++ rest)) (hln : 3 = ps.length := by rfl) (hy : y.cls ≠ "java/lang/invoke/MethodHandle" ∧ y.cls ≠ "java/lang/invoke/VarHandle" := by decide) (hL : L.length = maxL := by rfl) (hf : rm.frames + 1 ≤ R.frames := by decide) (hl : (rest.map fun v => v.category).sum + (maxL' + 11) + rm.locals ≤ R.locals := by exact Nat.le_of_ble_eq_true rfl) (hcc : k + rm.cells ≤ R.cells := by decide) (hss : n + rm.slots ≤ R.slots := by decide) : Go Z EL nw R Post K h S k n pc L (v3 :: v2 :: v1 :: .ref a :: rest) := G.callV nf [v1, v2, v3] hd w1 w2 w3 w4 w5 w6 pd E c hS0 rfl hln f hy hL hf hl hcc hss
theorem Good.callP3 (G : Good Z a0 EL K own code maxL ret nm) {v1 v2 v3 : Value} (hd : Dc code pc (.invokevirtual index) 3 pc') (w1 : (Cond.methodLink own index y).before a0 Z = true) (w2 : (Cond.instanceMethod y).before a0 Z = true) (w3 : (Cond.privateMethod y).before a0 Z = true) (w4 : (Cond.code y bytes maxL' ret').before a0 Z = true) (w5 : (Cond.initialized y.cls).before a0 Z = true) (nf : Nf Z y) (pd : parseMethodDescriptor y.desc = some ⟨ps, rr⟩) (E : Exa Z h a C) (c : Con K.l Z EL nw y bytes maxL' ret' [] rm #[.ref a, v1, v2, v3] h S0 Post') (hS0 : ∀ x ∈ S0, x ∈ S) (f : ∀ v h' S', Post' v h' S' → h.size ≤ h'.size → Go Z EL nw R Post K h' (S' ++ S) (k + rm.cells) (n + rm.slots) pc' L (v.toList ++ rest)) (hln : 3 = ps.length := by rfl) (hy : y.cls ≠ "java/lang/invoke/MethodHandle" ∧ y.cls ≠ "java/lang/invoke/VarHandle" := by decide) (hL : L.length = maxL := by rfl) (hf : rm.frames + 1 ≤ R.frames := by decide) (hl : (rest.map fun v => v.category).sum + (maxL' + 11) + rm.locals ≤ R.locals := by exact Nat.le_of_ble_eq_true rfl) (hcc : k + rm.cells ≤ R.cells := by decide) (hss : n + rm.slots ≤ R.slots := by decide) : Go Z EL nw R Post K h S k n pc L (v3 :: v2 :: v1 :: .ref a :: rest) := G.callP [v1, v2, v3] hd w1 w2 w3 w4 w5 nf pd E c hS0 rfl hln f hy hL hf hl hcc hss
theorem Good.callF3 (G : Good Z a0 EL K own code maxL ret nm) {count : Nat} {v1 v2 v3 : Value} (hd : Dc code pc (.invokeinterface index count) 5 pc') (w1 : (Cond.methodLink own index y).before a0 Z = true) (w2 : (Cond.declares y).before a0 Z = true) (w3 : (Cond.interfaceMethod y.cls y.cls y.name y.desc).before a0 Z = true) (w4 : (Cond.selects C y z).before a0 Z = true) (w5 : (Cond.instanceMethod z).before a0 Z = true) (w6 : (Cond.publicMethod z).before a0 Z = true) (w7 : (Cond.unhidden C y.name y.desc).before a0 Z = true) (w8 : (Cond.castable C y.cls).before a0 Z = true) (w9 : (Cond.code z bytes maxL' ret').before a0 Z = true) (w10 : (Cond.initialized z.cls).before a0 Z = true) (pd : parseMethodDescriptor y.desc = some ⟨ps, rr⟩) (E : Exa Z h a C) (c : Con K.l Z EL nw z bytes maxL' ret' [] rm #[.ref a, v1, v2, v3] h S0 Post') (hS0 : ∀ x ∈ S0, x ∈ S) (f : ∀ v h' S', Post' v h' S' → h.size ≤ h'.size → Go Z EL nw R Post K h' (S' ++ S) (k + rm.cells) (n + rm.slots) pc' L (v.toList ++ rest)) (hln : 3 = ps.length := by rfl) (hy : y.cls ≠ "java/lang/invoke/MethodHandle" ∧ y.cls ≠ "java/lang/invoke/VarHandle" := by decide) (hL : L.length = maxL := by rfl) (hf : rm.frames + 1 ≤ R.frames := by decide) (hl : (rest.map fun v => v.category).sum + (maxL' + 11) + rm.locals ≤ R.locals := by exact Nat.le_of_ble_eq_true rfl) (hcc : k + rm.cells ≤ R.cells := by decide) (hss : n + rm.slots ≤ R.slots := by decide) : Go Z EL nw R Post K h S k n pc L (v3 :: v2 :: v1 :: .ref a :: rest) := G.callF [v1, v2, v3] hd w1 w2 w3 w4 w5 w6 w7 w8 w9 w10 pd E c hS0 rfl hln f hy hL hf hl hcc hss
theorem Good.callI4 (G : Good Z a0 EL K own code maxL ret nm) {v1 v2 v3 v4 : Value} (hd : Dc code pc (.invokespecial index) 3 pc') (w1 : (Cond.methodLink own index y).before a0 Z = true) (w2 : (Cond.instanceMethod y).before a0 Z = true) (w3 : (Cond.initialized y.cls).before a0 Z = true) (w4 : (Cond.code y bytes maxL' none).before a0 Z = true) (pd : parseMethodDescriptor y.desc = some ⟨ps, rr⟩) (c : Con K.l Z EL nw y bytes maxL' none [] rm #[.ref a, v1, v2, v3, v4] h S0 Post') (hS0 : ∀ x ∈ S0, x ∈ S) (f : ∀ v h' S', Post' v h' S' → h.size ≤ h'.size → Go Z EL nw R Post K h' (S' ++ S) (k + rm.cells) (n + rm.slots) pc' L (v.toList ++ rest)) (hy1 : y.name = "<init>" := by rfl) (hln : 4 = ps.length := by rfl) (hy : y.cls ≠ "java/lang/invoke/MethodHandle" ∧ y.cls ≠ "java/lang/invoke/VarHandle" := by decide) (hL : L.length = maxL := by rfl) (hf : rm.frames + 1 ≤ R.frames := by decide) (hl : (rest.map fun v => v.category).sum + (maxL' + 11) + rm.locals ≤ R.locals := by exact Nat.le_of_ble_eq_true rfl) (hcc : k + rm.cells ≤ R.cells := by decide) (hss : n + rm.slots ≤ R.slots := by decide) : Go Z EL nw R Post K h S k n pc L (v4 :: v3 :: v2 :: v1 :: .ref a :: rest) := G.callI [v1, v2, v3, v4] hd w1 w2 w3 w4 pd c hS0 rfl hln f hy1 hy hL hf hl hcc hss
theorem Good.callV4 (G : Good Z a0 EL K own code maxL ret nm) {v1 v2 v3 v4 : Value} (hd : Dc code pc (.invokevirtual index) 3 pc') (w1 : (Cond.methodLink own index y).before a0 Z = true) (w2 : (Cond.declares y).before a0 Z = true) (w3 : (Cond.selects C y y).before a0 Z = true) (w4 : (Cond.instanceMethod y).before a0 Z = true) (w5 : (Cond.code y bytes maxL' ret').before a0 Z = true) (w6 : (Cond.initialized y.cls).before a0 Z = true) (pd : parseMethodDescriptor y.desc = some ⟨ps, rr⟩) (E : Exa Z h a C) (c : Con K.l Z EL nw y bytes maxL' ret' [] rm #[.ref a, v1, v2, v3, v4] h S0 Post') (hS0 : ∀ x ∈ S0, x ∈ S) (f : ∀ v h' S', Post' v h' S' → h.size ≤ h'.size → Go Z EL nw R Post K h' (S' ++ S) (k + rm.cells) (n + rm.slots) pc' L (v.toList ++ rest)) (hln : 4 = ps.length := by rfl) (hy : y.cls ≠ "java/lang/invoke/MethodHandle" ∧ y.cls ≠ "java/lang/invoke/VarHandle" := by decide) (hL : L.length = maxL := by rfl) (hf : rm.frames + 1 ≤ R.frames := by decide) (hl : (rest.map fun v => v.category).sum + (maxL' + 11) + rm.locals ≤ R.locals := by exact Nat.le_of_ble_eq_true rfl) (hcc : k + rm.cells ≤ R.cells := by decide) (hss : n + rm.slots ≤ R.slots := by decide) : Go Z EL nw R Post K h S k n pc L (v4 :: v3 :: v2 :: v1 :: .ref a :: rest) := G.callV (Nf.sel w3) [v1, v2, v3, v4] hd w1 w2 w3 w4 w5 w6 pd E c hS0 rfl hln f hy hL hf hl hcc hss
theorem Good.callW4 (G : Good Z a0 EL K own code maxL ret nm) (nf : Nf Z y) {v1 v2 v3 v4 : Value} (hd : Dc code pc (.invokevirtual index) 3 pc') (w1 : (Cond.methodLink own index y).before a0 Z = true) (w2 : (Cond.declares y).before a0 Z = true) (w3 : (Cond.selects C y z).before a0 Z = true) (w4 : (Cond.instanceMethod z).before a0 Z = true) (w5 : (Cond.code z bytes maxL' ret').before a0 Z = true) (w6 : (Cond.initialized z.cls).before a0 Z = true) (pd : parseMethodDescriptor y.desc = some ⟨ps, rr⟩) (E : Exa Z h a C) (c : Con K.l Z EL nw z bytes maxL' ret' [] rm #[.ref a, v1, v2, v3, v4] h S0 Post') (hS0 : ∀ x ∈ S0, x ∈ S) (f : ∀ v h' S', Post' v h' S' → h.size ≤ h'.size → Go Z EL nw R Post K h' (S' ++ S) (k + rm.cells) (n + rm.slots) pc' L (v.toList ++ rest)) (hln : 4 = ps.length := by rfl) (hy : y.cls ≠ "java/lang/invoke/MethodHandle" ∧ y.cls ≠ "java/lang/invoke/VarHandle" := by decide) (hL : L.length = maxL := by rfl) (hf : rm.frames + 1 ≤ R.frames := by decide) (hl : (rest.map fun v => v.category).sum + (maxL' + 11) + rm.locals ≤ R.locals := by exact Nat.le_of_ble_eq_true rfl) (hcc : k + rm.cells ≤ R.cells := by decide) (hss : n + rm.slots ≤ R.slots := by decide) : Go Z EL nw R Post K h S k n pc L (v4 :: v3 :: v2 :: v1 :: .ref a :: rest) := G.callV nf [v1, v2, v3, v4] hd w1 w2 w3 w4 w5 w6 pd E c hS0 rfl hln f hy hL hf hl hcc hss
theorem Good.callP4 (G : Good Z a0 EL K own code maxL ret nm) {v1 v2 v3 v4 : Value} (hd : Dc code pc (.invokevirtual index) 3 pc') (w1 : (Cond.methodLink own index y).before a0 Z = true) (w2 : (Cond.instanceMethod y).before a0 Z = true) (w3 : (Cond.privateMethod y).before a0 Z = true) (w4 : (Cond.code y bytes maxL' ret').before a0 Z = true) (w5 : (Cond.initialized y.cls).before a0 Z = true) (nf : Nf Z y) (pd : parseMethodDescriptor y.desc = some ⟨ps, rr⟩) (E : Exa Z h a C) (c : Con K.l Z EL nw y bytes maxL' ret' [] rm #[.ref a, v1, v2, v3, v4] h S0 Post') (hS0 : ∀ x ∈ S0, x ∈ S) (f : ∀ v h' S', Post' v h' S' → h.size ≤ h'.size → Go Z EL nw R Post K h' (S' ++ S) (k + rm.cells) (n + rm.slots) pc' L (v.toList ++ rest)) (hln : 4 = ps.length := by rfl) (hy : y.cls ≠ "java/lang/invoke/MethodHandle" ∧ y.cls ≠ "java/lang/invoke/VarHandle" := by decide) (hL : L.length = maxL := by rfl) (hf : rm.frames + 1 ≤ R.frames := by decide) (hl : (rest.map fun v => v.category).sum + (maxL' + 11) + rm.locals ≤ R.locals := by exact Nat.le_of_ble_eq_true rfl) (hcc : k + rm.cells ≤ R.cells := by decide) (hss : n + rm.slots ≤ R.slots := by decide) : Go Z EL nw R Post K h S k n pc L (v4 :: v3 :: v2 :: v1 :: .ref a :: rest) := G.callP [v1, v2, v3, v4] hd w1 w2 w3 w4 w5 nf pd E c hS0 rfl hln f hy hL hf hl hcc hss
theorem Good.callF4 (G : Good Z a0 EL K own code maxL ret nm) {count : Nat} {v1 v2 v3 v4 : Value} (hd : Dc code pc (.invokeinterface index count) 5 pc') (w1 : (Cond.methodLink own index y).before a0 Z = true) (w2 : (Cond.declares y).before a0 Z = true) (w3 : (Cond.interfaceMethod y.cls y.cls y.name y.desc).before a0 Z = true) (w4 : (Cond.selects C y z).before a0 Z = true) (w5 : (Cond.instanceMethod z).before a0 Z = true) (w6 : (Cond.publicMethod z).before a0 Z = true) (w7 : (Cond.unhidden C y.name y.desc).before a0 Z = true) (w8 : (Cond.castable C y.cls).before a0 Z = true) (w9 : (Cond.code z bytes maxL' ret').before a0 Z = true) (w10 : (Cond.initialized z.cls).before a0 Z = true) (pd : parseMethodDescriptor y.desc = some ⟨ps, rr⟩) (E : Exa Z h a C) (c : Con K.l Z EL nw z bytes maxL' ret' [] rm #[.ref a, v1, v2, v3, v4] h S0 Post') (hS0 : ∀ x ∈ S0, x ∈ S) (f : ∀ v h' S', Post' v h' S' → h.size ≤ h'.size → Go Z EL nw R Post K h' (S' ++ S) (k + rm.cells) (n + rm.slots) pc' L (v.toList ++ rest)) (hln : 4 = ps.length := by rfl) (hy : y.cls ≠ "java/lang/invoke/MethodHandle" ∧ y.cls ≠ "java/lang/invoke/VarHandle" := by decide) (hL : L.length = maxL := by rfl) (hf : rm.frames + 1 ≤ R.frames := by decide) (hl : (rest.map fun v => v.category).sum + (maxL' + 11) + rm.locals ≤ R.locals := by exact Nat.le_of_ble_eq_true rfl) (hcc : k + rm.cells ≤ R.cells := by decide) (hss : n + rm.slots ≤ R.slots := by decide) : Go Z EL nw R Post K h S k n pc L (v4 :: v3 :: v2 :: v1 :: .ref a :: rest) := G.callF [v1, v2, v3, v4] hd w1 w2 w3 w4 w5 w6 w7 w8 w9 w10 pd E c hS0 rfl hln f hy hL hf hl hcc hss
theorem Good.callI5 (G : Good Z a0 EL K own code maxL ret nm) {v1 v2 v3 v4 v5 : Value} (hd : Dc code pc (.invokespecial index) 3 pc') (w1 : (Cond.methodLink own index y).before a0 Z = true) (w2 : (Cond.instanceMethod y).before a0 Z = true) (w3 : (Cond.initialized y.cls).before a0 Z = true) (w4 : (Cond.code y bytes maxL' none).before a0 Z = true) (pd : parseMethodDescriptor y.desc = some ⟨ps, rr⟩) (c : Con K.l Z EL nw y bytes maxL' none [] rm #[.ref a, v1, v2, v3, v4, v5] h S0 Post') (hS0 : ∀ x ∈ S0, x ∈ S) (f : ∀ v h' S', Post' v h' S' → h.size ≤ h'.size → Go Z EL nw R Post K h' (S' ++ S) (k + rm.cells) (n + rm.slots) pc' L (v.toList ++ rest)) (hy1 : y.name = "<init>" := by rfl) (hln : 5 = ps.length := by rfl) (hy : y.cls ≠ "java/lang/invoke/MethodHandle" ∧ y.cls ≠ "java/lang/invoke/VarHandle" := by decide) (hL : L.length = maxL := by rfl) (hf : rm.frames + 1 ≤ R.frames := by decide) (hl : (rest.map fun v => v.category).sum + (maxL' + 11) + rm.locals ≤ R.locals := by exact Nat.le_of_ble_eq_true rfl) (hcc : k + rm.cells ≤ R.cells := by decide) (hss : n + rm.slots ≤ R.slots := by decide) : Go Z EL nw R Post K h S k n pc L (v5 :: v4 :: v3 :: v2 :: v1 :: .ref a :: rest) := G.callI [v1, v2, v3, v4, v5] hd w1 w2 w3 w4 pd c hS0 rfl hln f hy1 hy hL hf hl hcc hss
theorem Good.callV5 (G : Good Z a0 EL K own code maxL ret nm) {v1 v2 v3 v4 v5 : Value} (hd : Dc code pc (.invokevirtual index) 3 pc') (w1 : (Cond.methodLink own index y).before a0 Z = true) (w2 : (Cond.declares y).before a0 Z = true) (w3 : (Cond.selects C y y).before a0 Z = true) (w4 : (Cond.instanceMethod y).before a0 Z = true) (w5 : (Cond.code y bytes maxL' ret').before a0 Z = true) (w6 : (Cond.initialized y.cls).before a0 Z = true) (pd : parseMethodDescriptor y.desc = some ⟨ps, rr⟩) (E : Exa Z h a C) (c : Con K.l Z EL nw y bytes maxL' ret' [] rm #[.ref a, v1, v2, v3, v4, v5] h S0 Post') (hS0 : ∀ x ∈ S0, x ∈ S) (f : ∀ v h' S', Post' v h' S' → h.size ≤ h'.size → Go Z EL nw R Post K h' (S' ++ S) (k + rm.cells) (n + rm.slots) pc' L (v.toList ++ rest)) (hln : 5 = ps.length := by rfl) (hy : y.cls ≠ "java/lang/invoke/MethodHandle" ∧ y.cls ≠ "java/lang/invoke/VarHandle" := by decide) (hL : L.length = maxL := by rfl) (hf : rm.frames + 1 ≤ R.frames := by decide) (hl : (rest.map fun v => v.category).sum + (maxL' + 11) + rm.locals ≤ R.locals := by exact Nat.le_of_ble_eq_true rfl) (hcc : k + rm.cells ≤ R.cells := by decide) (hss : n + rm.slots ≤ R.slots := by decide) : Go Z EL nw R Post K h S k n pc L (v5 :: v4 :: v3 :: v2 :: v1 :: .ref a :: rest) := G.callV (Nf.sel w3) [v1, v2, v3, v4, v5] hd w1 w2 w3 w4 w5 w6 pd E c hS0 rfl hln f hy hL hf hl hcc hss
theorem Good.callW5 (G : Good Z a0 EL K own code maxL ret nm) (nf : Nf Z y) {v1 v2 v3 v4 v5 : Value} (hd : Dc code pc (.invokevirtual index) 3 pc') (w1 : (Cond.methodLink own index y).before a0 Z = true) (w2 : (Cond.declares y).before a0 Z = true) (w3 : (Cond.selects C y z).before a0 Z = true) (w4 : (Cond.instanceMethod z).before a0 Z = true) (w5 : (Cond.code z bytes maxL' ret').before a0 Z = true) (w6 : (Cond.initialized z.cls).before a0 Z = true) (pd : parseMethodDescriptor y.desc = some ⟨ps, rr⟩) (E : Exa Z h a C) (c : Con K.l Z EL nw z bytes maxL' ret' [] rm #[.ref a, v1, v2, v3, v4, v5] h S0 Post') (hS0 : ∀ x ∈ S0, x ∈ S) (f : ∀ v h' S', Post' v h' S' → h.size ≤ h'.size → Go Z EL nw R Post K h' (S' ++ S) (k + rm.cells) (n + rm.slots) pc' L (v.toList ++ rest)) (hln : 5 = ps.length := by rfl) (hy : y.cls ≠ "java/lang/invoke/MethodHandle" ∧ y.cls ≠ "java/lang/invoke/VarHandle" := by decide) (hL : L.length = maxL := by rfl) (hf : rm.frames + 1 ≤ R.frames := by decide) (hl : (rest.map fun v => v.category).sum + (maxL' + 11) + rm.locals ≤ R.locals := by exact Nat.le_of_ble_eq_true rfl) (hcc : k + rm.cells ≤ R.cells := by decide) (hss : n + rm.slots ≤ R.slots := by decide) : Go Z EL nw R Post K h S k n pc L (v5 :: v4 :: v3 :: v2 :: v1 :: .ref a :: rest) := G.callV nf [v1, v2, v3, v4, v5] hd w1 w2 w3 w4 w5 w6 pd E c hS0 rfl hln f hy hL hf hl hcc hss
theorem Good.callP5 (G : Good Z a0 EL K own code maxL ret nm) {v1 v2 v3 v4 v5 : Value} (hd : Dc code pc (.invokevirtual index) 3 pc') (w1 : (Cond.methodLink own index y).before a0 Z = true) (w2 : (Cond.instanceMethod y).before a0 Z = true) (w3 : (Cond.privateMethod y).before a0 Z = true) (w4 : (Cond.code y bytes maxL' ret').before a0 Z = true) (w5 : (Cond.initialized y.cls).before a0 Z = true) (nf : Nf Z y) (pd : parseMethodDescriptor y.desc = some ⟨ps, rr⟩) (E : Exa Z h a C) (c : Con K.l Z EL nw y bytes maxL' ret' [] rm #[.ref a, v1, v2, v3, v4, v5] h S0 Post') (hS0 : ∀ x ∈ S0, x ∈ S) (f : ∀ v h' S', Post' v h' S' → h.size ≤ h'.size → Go Z EL nw R Post K h' (S' ++ S) (k + rm.cells) (n + rm.slots) pc' L (v.toList ++ rest)) (hln : 5 = ps.length := by rfl) (hy : y.cls ≠ "java/lang/invoke/MethodHandle" ∧ y.cls ≠ "java/lang/invoke/VarHandle" := by decide) (hL : L.length = maxL := by rfl) (hf : rm.frames + 1 ≤ R.frames := by decide) (hl : (rest.map fun v => v.category).sum + (maxL' + 11) + rm.locals ≤ R.locals := by exact Nat.le_of_ble_eq_true rfl) (hcc : k + rm.cells ≤ R.cells := by decide) (hss : n + rm.slots ≤ R.slots := by decide) : Go Z EL nw R Post K h S k n pc L (v5 :: v4 :: v3 :: v2 :: v1 :: .ref a :: rest) := G.callP [v1, v2, v3, v4, v5] hd w1 w2 w3 w4 w5 nf pd E c hS0 rfl hln f hy hL hf hl hcc hss
theorem Good.callF5 (G : Good Z a0 EL K own code maxL ret nm) {count : Nat} {v1 v2 v3 v4 v5 : Value} (hd : Dc code pc (.invokeinterface index count) 5 pc') (w1 : (Cond.methodLink own index y).before a0 Z = true) (w2 : (Cond.declares y).before a0 Z = true) (w3 : (Cond.interfaceMethod y.cls y.cls y.name y.desc).before a0 Z = true) (w4 : (Cond.selects C y z).before a0 Z = true) (w5 : (Cond.instanceMethod z).before a0 Z = true) (w6 : (Cond.publicMethod z).before a0 Z = true) (w7 : (Cond.unhidden C y.name y.desc).before a0 Z = true) (w8 : (Cond.castable C y.cls).before a0 Z = true) (w9 : (Cond.code z bytes maxL' ret').before a0 Z = true) (w10 : (Cond.initialized z.cls).before a0 Z = true) (pd : parseMethodDescriptor y.desc = some ⟨ps, rr⟩) (E : Exa Z h a C) (c : Con K.l Z EL nw z bytes maxL' ret' [] rm #[.ref a, v1, v2, v3, v4, v5] h S0 Post') (hS0 : ∀ x ∈ S0, x ∈ S) (f : ∀ v h' S', Post' v h' S' → h.size ≤ h'.size → Go Z EL nw R Post K h' (S' ++ S) (k + rm.cells) (n + rm.slots) pc' L (v.toList ++ rest)) (hln : 5 = ps.length := by rfl) (hy : y.cls ≠ "java/lang/invoke/MethodHandle" ∧ y.cls ≠ "java/lang/invoke/VarHandle" := by decide) (hL : L.length = maxL := by rfl) (hf : rm.frames + 1 ≤ R.frames := by decide) (hl : (rest.map fun v => v.category).sum + (maxL' + 11) + rm.locals ≤ R.locals := by exact Nat.le_of_ble_eq_true rfl) (hcc : k + rm.cells ≤ R.cells := by decide) (hss : n + rm.slots ≤ R.slots := by decide) : Go Z EL nw R Post K h S k n pc L (v5 :: v4 :: v3 :: v2 :: v1 :: .ref a :: rest) := G.callF [v1, v2, v3, v4, v5] hd w1 w2 w3 w4 w5 w6 w7 w8 w9 w10 pd E c hS0 rfl hln f hy hL hf hl hcc hss
theorem Good.callU0 (G : Good Z a0 EL K own code maxL ret nm) (hd : Dc code pc (.invokespecial index) 3 pc') (w1 : (Cond.methodLink own index y).before a0 Z = true) (w2 : Nf Z y) (w3 : (Cond.instanceMethod y).before a0 Z = true) (w4 : (Cond.superclass own y.cls).before a0 Z = true) (w5 : (Cond.code y bytes maxL' ret').before a0 Z = true) (w6 : (Cond.initialized y.cls).before a0 Z = true) (pd : parseMethodDescriptor y.desc = some ⟨ps, rr⟩) (E : Exa Z h a C) (c : Con K.l Z EL nw y bytes maxL' ret' [] rm #[.ref a] h S0 Post') (hS0 : ∀ x ∈ S0, x ∈ S) (f : ∀ v h' S', Post' v h' S' → h.size ≤ h'.size → Go Z EL nw R Post K h' (S' ++ S) (k + rm.cells) (n + rm.slots) pc' L (v.toList ++ rest)) (hy1 : y.name ≠ "<init>" := by decide) (hln : 0 = ps.length := by rfl) (hy : y.cls ≠ "java/lang/invoke/MethodHandle" ∧ y.cls ≠ "java/lang/invoke/VarHandle" := by decide) (hL : L.length = maxL := by rfl) (hf : rm.frames + 1 ≤ R.frames := by decide) (hl : (rest.map fun v => v.category).sum + (maxL' + 11) + rm.locals ≤ R.locals := by exact Nat.le_of_ble_eq_true rfl) (hcc : k + rm.cells ≤ R.cells := by decide) (hss : n + rm.slots ≤ R.slots := by decide) : Go Z EL nw R Post K h S k n pc L (.ref a :: rest) := G.callU [] hd w1 w2 w3 w4 w5 w6 pd E c hS0 rfl hln f hy1 hy hL hf hl hcc hss
theorem Good.callU1 (G : Good Z a0 EL K own code maxL ret nm) {v1 : Value} (hd : Dc code pc (.invokespecial index) 3 pc') (w1 : (Cond.methodLink own index y).before a0 Z = true) (w2 : Nf Z y) (w3 : (Cond.instanceMethod y).before a0 Z = true) (w4 : (Cond.superclass own y.cls).before a0 Z = true) (w5 : (Cond.code y bytes maxL' ret').before a0 Z = true) (w6 : (Cond.initialized y.cls).before a0 Z = true) (pd : parseMethodDescriptor y.desc = some ⟨ps, rr⟩) (E : Exa Z h a C) (c : Con K.l Z EL nw y bytes maxL' ret' [] rm #[.ref a, v1] h S0 Post') (hS0 : ∀ x ∈ S0, x ∈ S) (f : ∀ v h' S', Post' v h' S' → h.size ≤ h'.size → Go Z EL nw R Post K h' (S' ++ S) (k + rm.cells) (n + rm.slots) pc' L (v.toList ++ rest)) (hy1 : y.name ≠ "<init>" := by decide) (hln : 1 = ps.length := by rfl) (hy : y.cls ≠ "java/lang/invoke/MethodHandle" ∧ y.cls ≠ "java/lang/invoke/VarHandle" := by decide) (hL : L.length = maxL := by rfl) (hf : rm.frames + 1 ≤ R.frames := by decide) (hl : (rest.map fun v => v.category).sum + (maxL' + 11) + rm.locals ≤ R.locals := by exact Nat.le_of_ble_eq_true rfl) (hcc : k + rm.cells ≤ R.cells := by decide) (hss : n + rm.slots ≤ R.slots := by decide) : Go Z EL nw R Post K h S k n pc L (v1 :: .ref a :: rest) := G.callU [v1] hd w1 w2 w3 w4 w5 w6 pd E c hS0 rfl hln f hy1 hy hL hf hl hcc hss
theorem Good.callU2 (G : Good Z a0 EL K own code maxL ret nm) {v1 v2 : Value} (hd : Dc code pc (.invokespecial index) 3 pc') (w1 : (Cond.methodLink own index y).before a0 Z = true) (w2 : Nf Z y) (w3 : (Cond.instanceMethod y).before a0 Z = true) (w4 : (Cond.superclass own y.cls).before a0 Z = true) (w5 : (Cond.code y bytes maxL' ret').before a0 Z = true) (w6 : (Cond.initialized y.cls).before a0 Z = true) (pd : parseMethodDescriptor y.desc = some ⟨ps, rr⟩) (E : Exa Z h a C) (c : Con K.l Z EL nw y bytes maxL' ret' [] rm #[.ref a, v1, v2] h S0 Post') (hS0 : ∀ x ∈ S0, x ∈ S) (f : ∀ v h' S', Post' v h' S' → h.size ≤ h'.size → Go Z EL nw R Post K h' (S' ++ S) (k + rm.cells) (n + rm.slots) pc' L (v.toList ++ rest)) (hy1 : y.name ≠ "<init>" := by decide) (hln : 2 = ps.length := by rfl) (hy : y.cls ≠ "java/lang/invoke/MethodHandle" ∧ y.cls ≠ "java/lang/invoke/VarHandle" := by decide) (hL : L.length = maxL := by rfl) (hf : rm.frames + 1 ≤ R.frames := by decide) (hl : (rest.map fun v => v.category).sum + (maxL' + 11) + rm.locals ≤ R.locals := by exact Nat.le_of_ble_eq_true rfl) (hcc : k + rm.cells ≤ R.cells := by decide) (hss : n + rm.slots ≤ R.slots := by decide) : Go Z EL nw R Post K h S k n pc L (v2 :: v1 :: .ref a :: rest) := G.callU [v1, v2] hd w1 w2 w3 w4 w5 w6 pd E c hS0 rfl hln f hy1 hy hL hf hl hcc hss
theorem Good.callU3 (G : Good Z a0 EL K own code maxL ret nm) {v1 v2 v3 : Value} (hd : Dc code pc (.invokespecial index) 3 pc') (w1 : (Cond.methodLink own index y).before a0 Z = true) (w2 : Nf Z y) (w3 : (Cond.instanceMethod y).before a0 Z = true) (w4 : (Cond.superclass own y.cls).before a0 Z = true) (w5 : (Cond.code y bytes maxL' ret').before a0 Z = true) (w6 : (Cond.initialized y.cls).before a0 Z = true) (pd : parseMethodDescriptor y.desc = some ⟨ps, rr⟩) (E : Exa Z h a C) (c : Con K.l Z EL nw y bytes maxL' ret' [] rm #[.ref a, v1, v2, v3] h S0 Post') (hS0 : ∀ x ∈ S0, x ∈ S) (f : ∀ v h' S', Post' v h' S' → h.size ≤ h'.size → Go Z EL nw R Post K h' (S' ++ S) (k + rm.cells) (n + rm.slots) pc' L (v.toList ++ rest)) (hy1 : y.name ≠ "<init>" := by decide) (hln : 3 = ps.length := by rfl) (hy : y.cls ≠ "java/lang/invoke/MethodHandle" ∧ y.cls ≠ "java/lang/invoke/VarHandle" := by decide) (hL : L.length = maxL := by rfl) (hf : rm.frames + 1 ≤ R.frames := by decide) (hl : (rest.map fun v => v.category).sum + (maxL' + 11) + rm.locals ≤ R.locals := by exact Nat.le_of_ble_eq_true rfl) (hcc : k + rm.cells ≤ R.cells := by decide) (hss : n + rm.slots ≤ R.slots := by decide) : Go Z EL nw R Post K h S k n pc L (v3 :: v2 :: v1 :: .ref a :: rest) := G.callU [v1, v2, v3] hd w1 w2 w3 w4 w5 w6 pd E c hS0 rfl hln f hy1 hy hL hf hl hcc hss
end Calls
end Jvm.Own
namespace Jvm.Own
open Jvm Jvm.ClassFile Sem Op Lib Jvm.Free Jvm.Stand Jvm.LawKit Jvm.RoadKit Bundle
/-- the String at a: its coder, its byte[] b and what that holds -/
def StrB (Z : State) (h : Heap) (a : Addr) (cd : Int32) (b : Addr) (vs : List Value) : Prop := Exa Z h a "java/lang/String" ∧ Fld Z h a "java/lang/String" "coder" "B" (.int cd) ∧ Fld Z h a "java/lang/String" "value" "[B" (.ref b) ∧ Al Z h b .byte vs
section StrFacts
variable {Z : State} {h h' : Heap} {a b : Addr} {cd : Int32} {vs : List Value} {ws : List Addr}
theorem StrB.ext (F : StrB Z h a cd b vs) (E : Ext h h') : StrB Z h' a cd b vs := ⟨F.1.ext E, F.2.1.ext E, F.2.2.1.ext E, F.2.2.2.ext E⟩
theorem StrB.keep (F : StrB Z h a cd b vs) (K : Keep h h' ws) (q : a ∉ ws) (r : b ∉ ws) : StrB Z h' a cd b vs := ⟨F.1.keep K, F.2.1.keep K q, F.2.2.1.keep K q, F.2.2.2.keep K r⟩
theorem StrB.lt (F : StrB Z h a cd b vs) : a < h.size ∧ b < h.size := ⟨F.1.lt, F.2.2.2.lt⟩
/-- an object of a class right under the root is no instance of another class -/
theorem notInst {a0 : Array Value} {C O D : String} {cnt : Nat} (w : (Cond.superclass C O).before a0 Z = true) (wo : (Cond.noSuperclass O).before a0 Z = true) (wi : (Cond.instantiable D cnt).before a0 Z = true) (h1 : C ≠ D) (h2 : O ≠ D) : ∃ c t, Z.vm.findClass C = some c ∧ Z.vm.findClass D = some t ∧ Z.vm.assignable c t = false := by
  obtain ⟨t, k', g1, g2, g3, g4, -⟩ := Cond.instantiable_spec wi
  simp only [Bool.or_eq_false_iff] at g4
  obtain ⟨co, ko, o1, o2, o3, -⟩ := Cond.noSuperclass_spec wo
  obtain ⟨c, q0⟩ := found_sup w
  obtain ⟨p, kk, kp, q1, q2, q3, q4, q5, -⟩ := Cond.superclass_spec q0 w
  cases o1.symm.trans q1
  have ne := ids_ne q0 g1 h1
  have ne' := ids_ne o1 g1 h2
  have n3 : ∀ fuel, Z.vm.isSubclassAux fuel c t = false := fun fuel => by
    cases fuel with
    | zero => rfl
    | succ f => cases f with
      | zero => simp [Vm.isSubclassAux, ne, q2, q4]
      | succ f => simp [Vm.isSubclassAux, ne, ne', q2, q4, o2, o3]
  refine ⟨c, t, q0, g1, ?_⟩
  show Z.vm.assignableAux (255 + 1) c t = false
  simp [Vm.assignableAux, ne, q2, g2, q5, g3, g4.1, Vm.isSubclass, n3]
end StrFacts
section Lit
variable {Z : State} {a0 : Array Value} {EL : List (String × Nat)} {nw : Bool} {R : Room} {Post : Pst} {K : Kx} {own : String} {code : ByteArray} {maxL : Nat} {ret : Option FieldType} {nm : String} {h h' : Heap} {S : List Addr} {k n pc pc' : Nat} {L : List Slot} {st : List Value} {l : Launch}
/-- ldc of a String constant whose text is known -/
theorem Good.ldcS (G : Good Z a0 EL K own code maxL ret nm) {index : Nat} {text : String} (N : Nat) (vs : List Value) (z : Int32) (hd : Dc code pc (.ldc index) 2 pc') (w : (Cond.stringLink own index text).before a0 Z = true) (wS : ∀ a ∈ Bundle.stringAtoms, a.before a0 Z = true) (hnw : nw = false) (hmem : (own, index) ∈ EL)
    (ht : (∀ c ∈ text.toList, c.toNat < 256) ∧ text.toList.map (fun c => Value.int (Jvm.Lit.byteI c.toNat.toUInt16)) = vs) (hz : ¬ z < 0) (hl : z.toNatClampNeg = vs.length) (hn : 4 * text.toList.length ≤ N) (hbig : N ≤ 536870912)
    (f : ∀ a b h', Ext h h' → StrB Z h' a 0 b vs → (∀ x ∈ S, x ≠ a ∧ x ≠ b) → Go Z EL nw R Post K h' S (k + 2) (n + (N + 4)) pc' L (.ref a :: st)) (hc : k + 2 ≤ R.cells := by decide) (hl' : n + (N + 4) ≤ R.slots := by decide) : Go Z EL nw R Post K h S k n pc L st := fun T I => by
  obtain ⟨hd, rfl⟩ := hd
  obtain ⟨vm0, k0, locs, X, hS, hk0, hZ, e, Nf, CH, hSf, hw, hO⟩ := I
  obtain ⟨a, T', h', k1, b, kc, X', e', E, hS', hk1, hZ', hf', f1, f2, f3, f4, -, -, hC, -, hne, stp⟩ := ldcCH X G.1 hZ (G.hown hS) w wS e hS hk0 G.2.2.2.2.2.2.2 hmem CH.1 ht hz hl (g := mkF K.m pc L.toArray st) rfl (hb G.2.1 hd) hn hbig hc hl'
  have hsafe : ∀ x ∈ S, Safe Z EL T'.vm h' x := fun x hx => hC.safe (hSf x hx).2.1 (hSf x hx).2.2
  refine (f a b h' E ⟨f1, f2, f3, Al.of_arv f4 hl⟩ (fun x hx => hne x (hsafe x hx)) T' ⟨T'.vm, k1, locs, X', hS', hk1, hZ', e', Nf, CH.trans hC, fun x hx => ⟨(hSf x hx).1, Nat.lt_of_lt_of_le (hSf x hx).2.1 E.1, hsafe x hx⟩, fun q => (by rw [hnw] at q; cases q), ⟨Nat.le_trans hO.1 E.1, fun x c q => E.2 x c (hO.2 x c q)⟩⟩).step stp
/-- ldc of a String constant, what it holds unsaid -/
theorem Good.ldcO (G : Good Z a0 EL K own code maxL ret nm) {index : Nat} {text : String} (N : Nat) (hd : Dc code pc (.ldc index) 2 pc') (w : (Cond.stringLink own index text).before a0 Z = true) (wS : ∀ a ∈ Bundle.stringAtoms, a.before a0 Z = true) (hnw : nw = false) (hn : 4 * text.toList.length ≤ N) (hbig : N ≤ 536870912)
    (f : ∀ a h', Ext h h' → Go Z EL nw R Post K h' S (k + 2) (n + (N + 4)) pc' L (.ref a :: st)) (hc : k + 2 ≤ R.cells := by decide) (hl' : n + (N + 4) ≤ R.slots := by decide) : Go Z EL nw R Post K h S k n pc L st := fun T I => by
  obtain ⟨hd, rfl⟩ := hd
  obtain ⟨vm0, k0, locs, X, hS, hk0, hZ, e, Nf, CH, hSf, hw, hO⟩ := I
  obtain ⟨a, T', h', k1, X', e', E, hS', hk1, hZ', hf', hC, -, stp⟩ := ldcOH X G.1 hZ (G.hown hS) w wS e hS hk0 G.2.2.2.2.2.2.2 CH.1 (g := mkF K.m pc L.toArray st) rfl (hb G.2.1 hd) hn hbig hc hl'
  exact (f a h' E T' ⟨T'.vm, k1, locs, X', hS', hk1, hZ', e', Nf, CH.trans hC, fun x hx => ⟨(hSf x hx).1, Nat.lt_of_lt_of_le (hSf x hx).2.1 E.1, hC.safe (hSf x hx).2.1 (hSf x hx).2.2⟩, fun q => (by rw [hnw] at q; cases q), ⟨Nat.le_trans hO.1 E.1, fun x c q => E.2 x c (hO.2 x c q)⟩⟩).step stp
end Lit
end Jvm.Own
namespace Jvm.Own
open Jvm Jvm.ClassFile Sem Op Lib Jvm.Free Jvm.Stand Jvm.LawKit Jvm.RoadKit Bundle
section More
variable {Z : State} {a0 : Array Value} {EL : List (String × Nat)} {nw : Bool} {R : Room} {Post : Pst} {K : Kx} {own : String} {code : ByteArray} {maxL : Nat} {ret : Option FieldType} {nm : String} {h h' : Heap} {S : List Addr} {k n pc pc' : Nat} {L : List Slot} {st : List Value} {l : Launch}
/-- newarray, with the array's class -/
theorem Good.newAE (G : Good Z a0 EL K own code maxL ret nm) {aty : ArrayType} {j : Int32} {ad : String} (i cap : Nat) (hd : Dc code pc (.newarray aty) 2 pc') (w : (Cond.arrayClass (newarray.typeOf aty)).before a0 Z = true) (had : "[" ++ (newarray.typeOf aty).toString = ad) (hj : j.toInt = (i : Int)) (hi : i ≤ cap)
    (f : ∀ h', Ext h h' → h.size < h'.size → (Al Z h' h.size (newarray.typeOf aty) (List.replicate i (defaultValue (newarray.typeOf aty))) ∧ Exa Z h' h.size ad) → Go Z EL nw R Post K h' (h.size :: S) (k + 1) (n + cap) pc' L (.ref h.size :: st)) (hb' : cap * 8 ≤ 536870912 := by decide) (hc : k + 1 ≤ R.cells := by decide) (hl : n + cap ≤ R.slots := by decide) : Go Z EL nw R Post K h S k n pc L (.int j :: st) := by
  obtain ⟨hd, rfl⟩ := hd
  obtain ⟨j1, j2⟩ := nat_idx hj
  refine Go.grow G (fun T vm0 locs X hZ hown e => ?_) f
  obtain ⟨T', h', cA, X', e', E, A, Ex, stp⟩ := newPE X G.1 hZ w e (g := mkF K.m pc L.toArray (.int j :: st)) rfl (hb G.2.1 hd) rfl j1 (by rw [j2]; exact hi) hb' hc hl had
  exact ⟨T', h', X', e', E, A.lt, ⟨⟨_, A, by simp [RoadKit.newA, j2], by simp; omega, fun v hv => by rw [List.eq_of_mem_replicate hv]; cases aty <;> rfl⟩, Ex⟩, stp⟩
/-- baload of a boolean[] -/
theorem Good.zaload (G : Good Z a0 EL K own code maxL ret nm) {a : Addr} {vs : List Value} {j : Int32} {i : Nat} {v : Value} (hd : Dc code pc .baload 1 pc') (A : Al Z h a .boolean vs) (hj : j.toInt = (i : Int)) (hv : vs[i]? = some v) (f : Go Z EL nw R Post K h S k n pc' L (v :: st)) : Go Z EL nw R Post K h S k n pc L (.int j :: .ref a :: st) := by
  obtain ⟨hd, rfl⟩ := hd
  obtain ⟨c, A1, A2, A3, A4⟩ := A
  obtain ⟨j1, j2⟩ := nat_idx hj
  have hlt := (List.getElem?_eq_some_iff.mp hv).1
  refine Go.calm G (fun T vm0 locs X hZ hown e => ⟨T, X, e, fun t q => ?_⟩) f
  exact X.baloadBooleans G.1 (by rw [e]; exact A1.1) (State.isArrayOf_alike hZ.alike A1.2.1) A1.2.2 (by rw [j2, A2]; simp only [List.size_toArray]; rintro (q | q); exact j1 q; omega) (by rw [j2, A2]; simpa using hv) (g := mkF K.m pc L.toArray (.int j :: .ref a :: st)) rfl rfl (hb G.2.1 hd) t q
/-- clone of an array -/
theorem Good.aclone (G : Good Z a0 EL K own code maxL ret nm) {ad : String} {index : Nat} {a : Addr} {ty : FieldType} {vs : List Value} (cap : Nat) (hd : Dc code pc (.invokevirtual index) 3 pc')
    (w1 : (Cond.methodLink own index ⟨ad, "clone", "()Ljava/lang/Object;"⟩).before a0 Z = true) (w2 : (Cond.sameMethod ad "java/lang/Object" "clone" "()Ljava/lang/Object;").before a0 Z = true) (w3 : (Cond.native ⟨"java/lang/Object", "clone", "()Ljava/lang/Object;"⟩).before a0 Z = true)
    (w4 : (Cond.instanceMethod ⟨"java/lang/Object", "clone", "()Ljava/lang/Object;"⟩).before a0 Z = true) (w5 : (Cond.selects ad ⟨ad, "clone", "()Ljava/lang/Object;"⟩ ⟨"java/lang/Object", "clone", "()Ljava/lang/Object;"⟩).before a0 Z = true) (w6 : (Cond.castable ad "java/lang/Cloneable").before a0 Z = true)
    (A : Al Z h a ty vs) (E : Exa Z h a ad) (hcap : vs.length ≤ cap)
    (f : ∀ h', Ext h h' → h.size < h'.size → (Al Z h' h.size ty vs ∧ Exa Z h' h.size ad) → Go Z EL nw R Post K h' (h.size :: S) (k + 1) (n + cap) pc' L (.ref h.size :: st)) (hL : L.length = maxL := by rfl) (hf : 1 ≤ R.frames := by decide) (hl : (st.map fun v => v.category).sum + 14 ≤ R.locals := by exact Nat.le_of_ble_eq_true rfl) (hc : k + 1 ≤ R.cells := by decide) (hsl : n + cap ≤ R.slots := by decide) : Go Z EL nw R Post K h S k n pc L (.ref a :: st) := by
  obtain ⟨hd, rfl⟩ := hd
  obtain ⟨c, A1, A2, A3, A4⟩ := A
  refine Go.grow G (fun T vm0 locs X hZ hown e => ?_) f
  have FC : FitC Z c := fitC_of A1 fun i hi v hv => A4 v (by rw [A2] at hv; exact List.mem_of_getElem? (by simpa using hv))
  obtain ⟨T', h', X', e', ex, A', E', stp⟩ := cloneA X G.1 hZ hown w1 w2 w3 w4 w5 w6 e A1 E FC (g := mkF K.m pc L.toArray (.ref a :: st)) rfl (by rw [G.2.2.1]; simpa using hL) rfl (hb G.2.1 hd) hf (W := (st.map fun v => v.category).sum) (by show 2 * 0 + _ ≤ _; omega) hl (by rw [A2]; simpa using hcap) hc hsl
  exact ⟨T', h', X', e', ex, A'.lt, ⟨⟨_, A', A2, A3, A4⟩, E'⟩, stp⟩
end More
end Jvm.Own
namespace Jvm.Pilot.@@N@@
open Jvm Jvm.ClassFile Sem Op Lib Jvm.Free Jvm.Stand Jvm.LawKit Jvm.RoadKit Jvm.Own Bundle Jvm.Pilot.@@N@@.Jvm.D
set_option maxRecDepth 65536
set_option maxHeartbeats 4000000
abbrev hwT (a0 : Array Value) (Z : State) : Prop := ∀ (i : Nat) {d : Jvm.Cond}, tables_1[i]? = some d → d.before a0 Z = true
abbrev SN : String := "java/lang/String"
def CS (Z : State) : Prop := ∃ cc : Int32, Sta Z Z.heap "java/lang/String" "COMPACT_STRINGS" "Z" (.int cc) ∧ ¬ cc = 0
/-- a char's byte in a Latin-1 String -/
def bL (c : Int32) : Value := .int c.toInt8.toInt32
def Lat (cs : List Int32) : Prop := ∀ c ∈ cs, 0 ≤ c.toInt ∧ c.toInt < 256
abbrev rm0 : Room := { frames := 0, cells := 0, slots := 0, locals := 0 }
theorem inc_toInt {x : Int32} {i : Nat} (hx : x.toInt = (i : Int)) (hi : i + 1 < 2147483648) : (x + 1).toInt = ((i + 1 : Nat) : Int) := by
  have h1 := c_iadd x 1
  have h2 : (1 : Int32).toInt = 1 := by decide
  have h3 := rng32 (x + 1)
  rw [h2, hx] at h1
  omega
theorem lt_of_toInt {x y : Int32} (h : x.toInt < y.toInt) : x < y := Int32.lt_iff_toInt_lt.mpr h
theorem not_lt_of_toInt {x y : Int32} (h : y.toInt ≤ x.toInt) : ¬ x < y := fun q => by rw [Int32.lt_iff_toInt_lt] at q; omega
theorem nar8 (c : Int32) : nar .byte c.toInt8.toInt32 = c.toInt8.toInt32 := by simp [nar]
theorem set_mid {α : Type} (A B : List α) (x y : α) : (A ++ x :: B).set A.length y = A ++ y :: B := by simp
theorem get_mid {α : Type} (A B : List α) (x : α) : (A ++ x :: B)[A.length]? = some x := by simp
theorem toInt_0 : (0 : Int32).toInt = 0 := by decide
theorem byte_back {c : Int32} (h0 : 0 ≤ c.toInt) (h1 : c.toInt < 256) : (c.toInt8.toInt32 &&& 255) = c := by
  have a1 := c_i2b c
  have a2 := c_mask c.toInt8.toInt32 255 8 (by decide) (by decide)
  apply Int32.toInt_inj.mp
  have h2 : ((2 ^ 8 : Nat) : Int) = 256 := by decide
  rw [h2] at a2
  omega
theorem bL_inj {c d : Int32} (hc : 0 ≤ c.toInt ∧ c.toInt < 256) (hd : 0 ≤ d.toInt ∧ d.toInt < 256) (h : c.toInt8.toInt32 = d.toInt8.toInt32) : c = d := by
  rw [← byte_back hc.1 hc.2, ← byte_back hd.1 hd.2, h]
theorem nar_char {x : Int32} (h0 : 0 ≤ x.toInt) (h1 : x.toInt < 65536) : nar .char x = x := by
  have := c_i2c x
  apply Int32.toInt_inj.mp
  show x.toUInt32.toUInt16.toUInt32.toInt32.toInt = x.toInt
  omega
theorem ch255 (x : Int32) : 0 ≤ ((x &&& 255).toUInt32.toUInt16.toUInt32.toInt32).toInt ∧ ((x &&& 255).toUInt32.toUInt16.toUInt32.toInt32).toInt < 256 := by
  rw [i2c_mask]
  have a2 := c_mask x 255 8 (by decide) (by decide)
  have h2 : ((2 ^ 8 : Nat) : Int) = 256 := by decide
  rw [h2] at a2
  omega
/-- a char below 256 -/
abbrev C8 (c : Int32) : Prop := 0 ≤ c.toInt ∧ c.toInt < 256
theorem Lat.nil : Lat [] := fun _ q => nomatch q
theorem Lat.cons {c : Int32} {cs : List Int32} (h : C8 c) (r : Lat cs) : Lat (c :: cs) := fun x q => by rcases List.mem_cons.mp q with rfl | q; exact h; exact r x q
theorem bL_map (cs : List Int32) : cs.map bL = (cs.map fun c => c.toInt8.toInt32).map Value.int := by simp [bL]
theorem bL_maps {cs ds : List Int32} (hc : Lat cs) (hd : Lat ds) (h : (cs.map fun c => c.toInt8.toInt32) = ds.map fun c => c.toInt8.toInt32) : cs = ds := by
  induction cs generalizing ds with
  | nil => cases ds with | nil => rfl | cons y ys => cases h
  | cons x xs ih =>
    cases ds with
    | nil => cases h
    | cons y ys =>
      simp only [List.map_cons, List.cons.injEq] at h
      have e := bL_inj (hc x (by simp)) (hd y (by simp)) h.1
      rw [e, ih (fun c q => hc c (by simp [q])) (fun c q => hd c (by simp [q])) h.2]
theorem shr0' (i : Int32) : (i >>> ((0 : Int32) &&& 31)).toInt = i.toInt := by
  have a := c_ishr i 0 0 (by decide)
  have e : ((2 ^ 0 : Nat) : Int) = 1 := by decide
  rw [e] at a
  omega
theorem shl0' (i : Int32) : (i <<< ((0 : Int32) &&& 31)).toInt = i.toInt := by
  have a := c_ishl i 0 0 (by decide)
  have r := rng32 (i <<< ((0 : Int32) &&& 31))
  have r2 := rng32 i
  have e : ((2 ^ 0 : Nat) : Int) = 1 := by decide
  rw [e] at a
  omega
theorem sub0 (i : Int32) : (i - 0).toInt = i.toInt := by
  have a := c_isub i 0
  have r := rng32 (i - 0)
  have r2 := rng32 i
  rw [toInt_0] at a
  omega
abbrev RN : String := "com/example/bounded_lock/boundedlock/zookeeper/RequestNode"
abbrev MD : String := "com/example/bounded_lock/boundedlock/Mode"
abbrev EL1 : List (String × Nat) := [("com/example/bounded_lock/boundedlock/zookeeper/RequestNode", 83), ("com/example/bounded_lock/boundedlock/zookeeper/RequestNode", 85), ("java/lang/String", 7)]
theorem d0_0 : Dc code 0 (.iload_n 3) 1 1 := ⟨at_0, rfl⟩
theorem d0_1 : Dc code 1 (.iconst 3) 1 2 := ⟨at_1, rfl⟩
theorem d0_2 : Dc code 2 .iand 1 3 := ⟨at_2, rfl⟩
theorem d0_3 : Dc code 3 (.istore 4) 2 5 := ⟨at_3, rfl⟩
theorem d0_5 : Dc code 5 (.iload_n 3) 1 6 := ⟨at_5, rfl⟩
theorem d0_6 : Dc code 6 (.iconst 2) 1 7 := ⟨at_6, rfl⟩
theorem d0_7 : Dc code 7 .iushr 1 8 := ⟨at_7, rfl⟩
theorem d0_8 : Dc code 8 (.bipush 7) 2 10 := ⟨at_8, rfl⟩
theorem d0_10 : Dc code 10 .iand 1 11 := ⟨at_10, rfl⟩
theorem d0_11 : Dc code 11 (.istore 5) 2 13 := ⟨at_11, rfl⟩
theorem d0_13 : Dc code 13 (.iload_n 3) 1 14 := ⟨at_13, rfl⟩
theorem d0_14 : Dc code 14 (.iconst 5) 1 15 := ⟨at_14, rfl⟩
theorem d0_15 : Dc code 15 .iushr 1 16 := ⟨at_15, rfl⟩
theorem d0_16 : Dc code 16 (.iconst 1) 1 17 := ⟨at_16, rfl⟩
theorem d0_17 : Dc code 17 .iand 1 18 := ⟨at_17, rfl⟩
theorem d0_18 : Dj code 18 (.ifCond .eq) 21 25 := ⟨7, at_18, rfl, by decide, by decide⟩
theorem d0_21 : Dc code 21 (.iconst 1) 1 22 := ⟨at_21, rfl⟩
theorem d0_22 : Dj code 22 .goto 25 26 := ⟨4, at_22, rfl, by decide, by decide⟩
theorem d0_25 : Dc code 25 (.iconst 0) 1 26 := ⟨at_25, rfl⟩
theorem d0_26 : Dc code 26 (.istore 6) 2 28 := ⟨at_26, rfl⟩
theorem d0_28 : Dc code 28 (.iconst 3) 1 29 := ⟨at_28, rfl⟩
theorem d0_29 : Dc code 29 (.newarray .char) 2 31 := ⟨at_29, rfl⟩
theorem d0_31 : Dc code 31 (.astore 7) 2 33 := ⟨at_31, rfl⟩
theorem d0_33 : Dc code 33 (.aload 7) 2 35 := ⟨at_33, rfl⟩
theorem d0_35 : Dc code 35 (.iconst 0) 1 36 := ⟨at_35, rfl⟩
theorem d0_36 : Dc code 36 (.iload_n 0) 1 37 := ⟨at_36, rfl⟩
theorem d0_37 : Dc code 37 (.invokestatic 12) 3 40 := ⟨at_37, rfl⟩
theorem d0_40 : Dc code 40 .castore 1 41 := ⟨at_40, rfl⟩
theorem d0_41 : Dc code 41 (.aload 7) 2 43 := ⟨at_41, rfl⟩
theorem d0_43 : Dc code 43 (.iconst 1) 1 44 := ⟨at_43, rfl⟩
theorem d0_44 : Dc code 44 (.iload_n 0) 1 45 := ⟨at_44, rfl⟩
theorem d0_45 : Dc code 45 (.bipush 10) 2 47 := ⟨at_45, rfl⟩
theorem d0_47 : Dc code 47 .iushr 1 48 := ⟨at_47, rfl⟩
theorem d0_48 : Dc code 48 (.invokestatic 12) 3 51 := ⟨at_48, rfl⟩
theorem d0_51 : Dc code 51 .castore 1 52 := ⟨at_51, rfl⟩
theorem d0_52 : Dc code 52 (.aload 7) 2 54 := ⟨at_52, rfl⟩
theorem d0_54 : Dc code 54 (.iconst 2) 1 55 := ⟨at_54, rfl⟩
theorem d0_55 : Dc code 55 (.iload_n 0) 1 56 := ⟨at_55, rfl⟩
theorem d0_56 : Dc code 56 (.bipush 20) 2 58 := ⟨at_56, rfl⟩
theorem d0_58 : Dc code 58 .iushr 1 59 := ⟨at_58, rfl⟩
theorem d0_59 : Dc code 59 (.invokestatic 12) 3 62 := ⟨at_59, rfl⟩
theorem d0_62 : Dc code 62 .castore 1 63 := ⟨at_62, rfl⟩
theorem d0_63 : Dc code 63 (.bipush 7) 2 65 := ⟨at_63, rfl⟩
theorem d0_65 : Dc code 65 (.newarray .char) 2 67 := ⟨at_65, rfl⟩
theorem d0_67 : Dc code 67 (.astore 8) 2 69 := ⟨at_67, rfl⟩
theorem d0_69 : Dc code 69 (.aload 8) 2 71 := ⟨at_69, rfl⟩
theorem d0_71 : Dc code 71 (.iconst 0) 1 72 := ⟨at_71, rfl⟩
theorem d0_72 : Dc code 72 (.lload_n 1) 1 73 := ⟨at_72, rfl⟩
theorem d0_73 : Dc code 73 .l2i 1 74 := ⟨at_73, rfl⟩
theorem d0_74 : Dc code 74 (.invokestatic 12) 3 77 := ⟨at_74, rfl⟩
theorem d0_77 : Dc code 77 .castore 1 78 := ⟨at_77, rfl⟩
theorem d0_78 : Dc code 78 (.aload 8) 2 80 := ⟨at_78, rfl⟩
theorem d0_80 : Dc code 80 (.iconst 1) 1 81 := ⟨at_80, rfl⟩
theorem d0_81 : Dc code 81 (.lload_n 1) 1 82 := ⟨at_81, rfl⟩
theorem d0_82 : Dc code 82 (.bipush 10) 2 84 := ⟨at_82, rfl⟩
theorem d0_84 : Dc code 84 .lushr 1 85 := ⟨at_84, rfl⟩
theorem d0_85 : Dc code 85 .l2i 1 86 := ⟨at_85, rfl⟩
theorem d0_86 : Dc code 86 (.invokestatic 12) 3 89 := ⟨at_86, rfl⟩
theorem d0_89 : Dc code 89 .castore 1 90 := ⟨at_89, rfl⟩
theorem d0_90 : Dc code 90 (.aload 8) 2 92 := ⟨at_90, rfl⟩
theorem d0_92 : Dc code 92 (.iconst 2) 1 93 := ⟨at_92, rfl⟩
theorem d0_93 : Dc code 93 (.lload_n 1) 1 94 := ⟨at_93, rfl⟩
theorem d0_94 : Dc code 94 (.bipush 20) 2 96 := ⟨at_94, rfl⟩
theorem d0_96 : Dc code 96 .lushr 1 97 := ⟨at_96, rfl⟩
theorem d0_97 : Dc code 97 .l2i 1 98 := ⟨at_97, rfl⟩
theorem d0_98 : Dc code 98 (.invokestatic 12) 3 101 := ⟨at_98, rfl⟩
theorem d0_101 : Dc code 101 .castore 1 102 := ⟨at_101, rfl⟩
theorem d0_102 : Dc code 102 (.aload 8) 2 104 := ⟨at_102, rfl⟩
theorem d0_104 : Dc code 104 (.iconst 3) 1 105 := ⟨at_104, rfl⟩
theorem d0_105 : Dc code 105 (.lload_n 1) 1 106 := ⟨at_105, rfl⟩
theorem d0_106 : Dc code 106 (.bipush 30) 2 108 := ⟨at_106, rfl⟩
theorem d0_108 : Dc code 108 .lushr 1 109 := ⟨at_108, rfl⟩
theorem d0_109 : Dc code 109 .l2i 1 110 := ⟨at_109, rfl⟩
theorem d0_110 : Dc code 110 (.invokestatic 12) 3 113 := ⟨at_110, rfl⟩
theorem d0_113 : Dc code 113 .castore 1 114 := ⟨at_113, rfl⟩
theorem d0_114 : Dc code 114 (.aload 8) 2 116 := ⟨at_114, rfl⟩
theorem d0_116 : Dc code 116 (.iconst 4) 1 117 := ⟨at_116, rfl⟩
theorem d0_117 : Dc code 117 (.lload_n 1) 1 118 := ⟨at_117, rfl⟩
theorem d0_118 : Dc code 118 (.bipush 40) 2 120 := ⟨at_118, rfl⟩
theorem d0_120 : Dc code 120 .lushr 1 121 := ⟨at_120, rfl⟩
theorem d0_121 : Dc code 121 .l2i 1 122 := ⟨at_121, rfl⟩
theorem d0_122 : Dc code 122 (.invokestatic 12) 3 125 := ⟨at_122, rfl⟩
theorem d0_125 : Dc code 125 .castore 1 126 := ⟨at_125, rfl⟩
theorem d0_126 : Dc code 126 (.aload 8) 2 128 := ⟨at_126, rfl⟩
theorem d0_128 : Dc code 128 (.iconst 5) 1 129 := ⟨at_128, rfl⟩
theorem d0_129 : Dc code 129 (.lload_n 1) 1 130 := ⟨at_129, rfl⟩
theorem d0_130 : Dc code 130 (.bipush 50) 2 132 := ⟨at_130, rfl⟩
theorem d0_132 : Dc code 132 .lushr 1 133 := ⟨at_132, rfl⟩
theorem d0_133 : Dc code 133 .l2i 1 134 := ⟨at_133, rfl⟩
theorem d0_134 : Dc code 134 (.invokestatic 12) 3 137 := ⟨at_134, rfl⟩
theorem d0_137 : Dc code 137 .castore 1 138 := ⟨at_137, rfl⟩
theorem d0_138 : Dc code 138 (.aload 8) 2 140 := ⟨at_138, rfl⟩
theorem d0_140 : Dc code 140 (.bipush 6) 2 142 := ⟨at_140, rfl⟩
theorem d0_142 : Dc code 142 (.iload_n 3) 1 143 := ⟨at_142, rfl⟩
theorem d0_143 : Dc code 143 (.bipush 6) 2 145 := ⟨at_143, rfl⟩
theorem d0_145 : Dc code 145 .iushr 1 146 := ⟨at_145, rfl⟩
theorem d0_146 : Dc code 146 (.invokestatic 12) 3 149 := ⟨at_146, rfl⟩
theorem d0_149 : Dc code 149 .castore 1 150 := ⟨at_149, rfl⟩
theorem d0_150 : Dc code 150 (.iload 6) 2 152 := ⟨at_150, rfl⟩
theorem d0_152 : Dj code 152 (.ifCond .eq) 155 196 := ⟨44, at_152, rfl, by decide, by decide⟩
theorem d0_155 : Dc code 155 (.iload 4) 2 157 := ⟨at_155, rfl⟩
theorem d0_157 : Dj code 157 (.ifCond .le) 160 168 := ⟨11, at_157, rfl, by decide, by decide⟩
theorem d0_160 : Dc code 160 (.aload 8) 2 162 := ⟨at_160, rfl⟩
theorem d0_162 : Dc code 162 (.iconst 0) 1 163 := ⟨at_162, rfl⟩
theorem d0_163 : Dc code 163 (.aload 7) 2 165 := ⟨at_163, rfl⟩
theorem d0_165 : Dc code 165 (.iconst 0) 1 166 := ⟨at_165, rfl⟩
theorem d0_166 : Dc code 166 .caload 1 167 := ⟨at_166, rfl⟩
theorem d0_167 : Dc code 167 .castore 1 168 := ⟨at_167, rfl⟩
theorem d0_168 : Dc code 168 (.iload 4) 2 170 := ⟨at_168, rfl⟩
theorem d0_170 : Dc code 170 (.iconst 1) 1 171 := ⟨at_170, rfl⟩
theorem d0_171 : Dj code 171 (.if_icmp .le) 174 182 := ⟨11, at_171, rfl, by decide, by decide⟩
theorem d0_174 : Dc code 174 (.aload 8) 2 176 := ⟨at_174, rfl⟩
theorem d0_176 : Dc code 176 (.iconst 1) 1 177 := ⟨at_176, rfl⟩
theorem d0_177 : Dc code 177 (.aload 7) 2 179 := ⟨at_177, rfl⟩
theorem d0_179 : Dc code 179 (.iconst 1) 1 180 := ⟨at_179, rfl⟩
theorem d0_180 : Dc code 180 .caload 1 181 := ⟨at_180, rfl⟩
theorem d0_181 : Dc code 181 .castore 1 182 := ⟨at_181, rfl⟩
theorem d0_182 : Dc code 182 (.iload 4) 2 184 := ⟨at_182, rfl⟩
theorem d0_184 : Dc code 184 (.iconst 2) 1 185 := ⟨at_184, rfl⟩
theorem d0_185 : Dj code 185 (.if_icmp .le) 188 196 := ⟨11, at_185, rfl, by decide, by decide⟩
theorem d0_188 : Dc code 188 (.aload 8) 2 190 := ⟨at_188, rfl⟩
theorem d0_190 : Dc code 190 (.iconst 2) 1 191 := ⟨at_190, rfl⟩
theorem d0_191 : Dc code 191 (.aload 7) 2 193 := ⟨at_191, rfl⟩
theorem d0_193 : Dc code 193 (.iconst 2) 1 194 := ⟨at_193, rfl⟩
theorem d0_194 : Dc code 194 .caload 1 195 := ⟨at_194, rfl⟩
theorem d0_195 : Dc code 195 .castore 1 196 := ⟨at_195, rfl⟩
theorem d0_196 : Dc code 196 (.aload 7) 2 198 := ⟨at_196, rfl⟩
theorem d0_198 : Dc code 198 (.iload 4) 2 200 := ⟨at_198, rfl⟩
theorem d0_200 : Dc code 200 (.invokestatic 18) 3 203 := ⟨at_200, rfl⟩
theorem d0_203 : Dc code 203 (.astore 9) 2 205 := ⟨at_203, rfl⟩
theorem d0_205 : Dc code 205 (.aload 8) 2 207 := ⟨at_205, rfl⟩
theorem d0_207 : Dc code 207 (.iload 5) 2 209 := ⟨at_207, rfl⟩
theorem d0_209 : Dc code 209 (.invokestatic 18) 3 212 := ⟨at_209, rfl⟩
theorem d0_212 : Dc code 212 (.astore 10) 2 214 := ⟨at_212, rfl⟩
theorem d0_214 : Dc code 214 (.iload 5) 2 216 := ⟨at_214, rfl⟩
theorem d0_216 : Dc code 216 (.iload 4) 2 218 := ⟨at_216, rfl⟩
theorem d0_218 : Dc code 218 (.iconst 3) 1 219 := ⟨at_218, rfl⟩
theorem d0_219 : Dc code 219 .iadd 1 220 := ⟨at_219, rfl⟩
theorem d0_220 : Dj code 220 (.if_icmp .ge) 223 229 := ⟨9, at_220, rfl, by decide, by decide⟩
theorem d0_223 : Dc code 223 (.iconst 0) 1 224 := ⟨at_223, rfl⟩
theorem d0_224 : Dc code 224 (.istore 11) 2 226 := ⟨at_224, rfl⟩
theorem d0_226 : Dj code 226 .goto 229 368 := ⟨142, at_226, rfl, by decide, by decide⟩
theorem d0_229 : Dc code 229 (.iload 4) 2 231 := ⟨at_229, rfl⟩
theorem d0_231 : Dc code 231 (.iconst 1) 1 232 := ⟨at_231, rfl⟩
theorem d0_232 : Dj code 232 (.if_icmp .lt) 235 246 := ⟨14, at_232, rfl, by decide, by decide⟩
theorem d0_235 : Dc code 235 (.aload 8) 2 237 := ⟨at_235, rfl⟩
theorem d0_237 : Dc code 237 (.iconst 0) 1 238 := ⟨at_237, rfl⟩
theorem d0_238 : Dc code 238 .caload 1 239 := ⟨at_238, rfl⟩
theorem d0_239 : Dc code 239 (.aload 7) 2 241 := ⟨at_239, rfl⟩
theorem d0_241 : Dc code 241 (.iconst 0) 1 242 := ⟨at_241, rfl⟩
theorem d0_242 : Dc code 242 .caload 1 243 := ⟨at_242, rfl⟩
theorem d0_243 : Dj code 243 (.if_icmp .ne) 246 250 := ⟨7, at_243, rfl, by decide, by decide⟩
theorem d0_246 : Dc code 246 (.iconst 1) 1 247 := ⟨at_246, rfl⟩
theorem d0_247 : Dj code 247 .goto 250 251 := ⟨4, at_247, rfl, by decide, by decide⟩
theorem d0_250 : Dc code 250 (.iconst 0) 1 251 := ⟨at_250, rfl⟩
theorem d0_251 : Dc code 251 (.istore 12) 2 253 := ⟨at_251, rfl⟩
theorem d0_253 : Dc code 253 (.iload 4) 2 255 := ⟨at_253, rfl⟩
theorem d0_255 : Dc code 255 (.iconst 2) 1 256 := ⟨at_255, rfl⟩
theorem d0_256 : Dj code 256 (.if_icmp .lt) 259 270 := ⟨14, at_256, rfl, by decide, by decide⟩
theorem d0_259 : Dc code 259 (.aload 8) 2 261 := ⟨at_259, rfl⟩
theorem d0_261 : Dc code 261 (.iconst 1) 1 262 := ⟨at_261, rfl⟩
theorem d0_262 : Dc code 262 .caload 1 263 := ⟨at_262, rfl⟩
theorem d0_263 : Dc code 263 (.aload 7) 2 265 := ⟨at_263, rfl⟩
theorem d0_265 : Dc code 265 (.iconst 1) 1 266 := ⟨at_265, rfl⟩
theorem d0_266 : Dc code 266 .caload 1 267 := ⟨at_266, rfl⟩
theorem d0_267 : Dj code 267 (.if_icmp .ne) 270 274 := ⟨7, at_267, rfl, by decide, by decide⟩
theorem d0_270 : Dc code 270 (.iconst 1) 1 271 := ⟨at_270, rfl⟩
theorem d0_271 : Dj code 271 .goto 274 275 := ⟨4, at_271, rfl, by decide, by decide⟩
theorem d0_274 : Dc code 274 (.iconst 0) 1 275 := ⟨at_274, rfl⟩
theorem d0_275 : Dc code 275 (.istore 13) 2 277 := ⟨at_275, rfl⟩
theorem d0_277 : Dc code 277 (.iload 4) 2 279 := ⟨at_277, rfl⟩
theorem d0_279 : Dc code 279 (.iconst 3) 1 280 := ⟨at_279, rfl⟩
theorem d0_280 : Dj code 280 (.if_icmp .lt) 283 294 := ⟨14, at_280, rfl, by decide, by decide⟩
theorem d0_283 : Dc code 283 (.aload 8) 2 285 := ⟨at_283, rfl⟩
theorem d0_285 : Dc code 285 (.iconst 2) 1 286 := ⟨at_285, rfl⟩
theorem d0_286 : Dc code 286 .caload 1 287 := ⟨at_286, rfl⟩
theorem d0_287 : Dc code 287 (.aload 7) 2 289 := ⟨at_287, rfl⟩
theorem d0_289 : Dc code 289 (.iconst 2) 1 290 := ⟨at_289, rfl⟩
theorem d0_290 : Dc code 290 .caload 1 291 := ⟨at_290, rfl⟩
theorem d0_291 : Dj code 291 (.if_icmp .ne) 294 298 := ⟨7, at_291, rfl, by decide, by decide⟩
theorem d0_294 : Dc code 294 (.iconst 1) 1 295 := ⟨at_294, rfl⟩
theorem d0_295 : Dj code 295 .goto 298 299 := ⟨4, at_295, rfl, by decide, by decide⟩
theorem d0_298 : Dc code 298 (.iconst 0) 1 299 := ⟨at_298, rfl⟩
theorem d0_299 : Dc code 299 (.istore 14) 2 301 := ⟨at_299, rfl⟩
theorem d0_301 : Dc code 301 (.aload 8) 2 303 := ⟨at_301, rfl⟩
theorem d0_303 : Dc code 303 (.iload 4) 2 305 := ⟨at_303, rfl⟩
theorem d0_305 : Dc code 305 (.iconst 1) 1 306 := ⟨at_305, rfl⟩
theorem d0_306 : Dc code 306 .iadd 1 307 := ⟨at_306, rfl⟩
theorem d0_307 : Dc code 307 .caload 1 308 := ⟨at_307, rfl⟩
theorem d0_308 : Dc code 308 (.istore 15) 2 310 := ⟨at_308, rfl⟩
theorem d0_310 : Dc code 310 (.iload 12) 2 312 := ⟨at_310, rfl⟩
theorem d0_312 : Dj code 312 (.ifCond .eq) 315 365 := ⟨53, at_312, rfl, by decide, by decide⟩
theorem d0_315 : Dc code 315 (.iload 13) 2 317 := ⟨at_315, rfl⟩
theorem d0_317 : Dj code 317 (.ifCond .eq) 320 365 := ⟨48, at_317, rfl, by decide, by decide⟩
theorem d0_320 : Dc code 320 (.iload 14) 2 322 := ⟨at_320, rfl⟩
theorem d0_322 : Dj code 322 (.ifCond .eq) 325 365 := ⟨43, at_322, rfl, by decide, by decide⟩
theorem d0_325 : Dc code 325 (.aload 8) 2 327 := ⟨at_325, rfl⟩
theorem d0_327 : Dc code 327 (.iload 4) 2 329 := ⟨at_327, rfl⟩
theorem d0_329 : Dc code 329 .caload 1 330 := ⟨at_329, rfl⟩
theorem d0_330 : Dc code 330 (.bipush 45) 2 332 := ⟨at_330, rfl⟩
theorem d0_332 : Dj code 332 (.if_icmp .ne) 335 365 := ⟨33, at_332, rfl, by decide, by decide⟩
theorem d0_335 : Dc code 335 (.iload 15) 2 337 := ⟨at_335, rfl⟩
theorem d0_337 : Dc code 337 (.bipush 82) 2 339 := ⟨at_337, rfl⟩
theorem d0_339 : Dj code 339 (.if_icmp .eq) 342 349 := ⟨10, at_339, rfl, by decide, by decide⟩
theorem d0_342 : Dc code 342 (.iload 15) 2 344 := ⟨at_342, rfl⟩
theorem d0_344 : Dc code 344 (.bipush 87) 2 346 := ⟨at_344, rfl⟩
theorem d0_346 : Dj code 346 (.if_icmp .ne) 349 365 := ⟨19, at_346, rfl, by decide, by decide⟩
theorem d0_349 : Dc code 349 (.aload 8) 2 351 := ⟨at_349, rfl⟩
theorem d0_351 : Dc code 351 (.iload 4) 2 353 := ⟨at_351, rfl⟩
theorem d0_353 : Dc code 353 (.iconst 2) 1 354 := ⟨at_353, rfl⟩
theorem d0_354 : Dc code 354 .iadd 1 355 := ⟨at_354, rfl⟩
theorem d0_355 : Dc code 355 .caload 1 356 := ⟨at_355, rfl⟩
theorem d0_356 : Dc code 356 (.bipush 45) 2 358 := ⟨at_356, rfl⟩
theorem d0_358 : Dj code 358 (.if_icmp .ne) 361 365 := ⟨7, at_358, rfl, by decide, by decide⟩
theorem d0_361 : Dc code 361 (.iconst 1) 1 362 := ⟨at_361, rfl⟩
theorem d0_362 : Dj code 362 .goto 365 366 := ⟨4, at_362, rfl, by decide, by decide⟩
theorem d0_365 : Dc code 365 (.iconst 0) 1 366 := ⟨at_365, rfl⟩
theorem d0_366 : Dc code 366 (.istore 11) 2 368 := ⟨at_366, rfl⟩
theorem d0_368 : Dc code 368 (.aload 10) 2 370 := ⟨at_368, rfl⟩
theorem d0_370 : Dc code 370 (.aload 9) 2 372 := ⟨at_370, rfl⟩
theorem d0_372 : Dc code 372 (.invokestatic 22) 3 375 := ⟨at_372, rfl⟩
theorem d0_375 : Dc code 375 (.iload 11) 2 377 := ⟨at_375, rfl⟩
theorem d0_377 : Dj code 377 (.if_icmp .ne) 380 384 := ⟨7, at_377, rfl, by decide, by decide⟩
theorem d0_380 : Dc code 380 (.iconst 1) 1 381 := ⟨at_380, rfl⟩
theorem d0_381 : Dj code 381 .goto 384 385 := ⟨4, at_381, rfl, by decide, by decide⟩
theorem d0_385 : Dc code 385 .ireturn 1 386 := ⟨at_385, rfl⟩
theorem d1_0 : Dc method_2_code 0 (.iload_n 0) 1 1 := ⟨by decide +kernel, rfl⟩
theorem d1_1 : Dc method_2_code 1 (.iconst 3) 1 2 := ⟨by decide +kernel, rfl⟩
theorem d1_2 : Dc method_2_code 2 .iand 1 3 := ⟨by decide +kernel, rfl⟩
theorem d1_3 : Dc method_2_code 3 (.istore_n 1) 1 4 := ⟨by decide +kernel, rfl⟩
theorem d1_4 : Dc method_2_code 4 (.iload_n 1) 1 5 := ⟨by decide +kernel, rfl⟩
theorem d1_5 : Dj method_2_code 5 (.ifCond .ne) 8 11 := ⟨6, by decide +kernel, rfl, by decide, by decide⟩
theorem d1_8 : Dc method_2_code 8 (.bipush 45) 2 10 := ⟨by decide +kernel, rfl⟩
theorem d1_10 : Dc method_2_code 10 .ireturn 1 11 := ⟨by decide +kernel, rfl⟩
theorem d1_11 : Dc method_2_code 11 (.iload_n 1) 1 12 := ⟨by decide +kernel, rfl⟩
theorem d1_12 : Dc method_2_code 12 (.iconst 1) 1 13 := ⟨by decide +kernel, rfl⟩
theorem d1_13 : Dj method_2_code 13 (.if_icmp .ne) 16 19 := ⟨6, by decide +kernel, rfl, by decide, by decide⟩
theorem d1_16 : Dc method_2_code 16 (.bipush 82) 2 18 := ⟨by decide +kernel, rfl⟩
theorem d1_18 : Dc method_2_code 18 .ireturn 1 19 := ⟨by decide +kernel, rfl⟩
theorem d1_19 : Dc method_2_code 19 (.iload_n 1) 1 20 := ⟨by decide +kernel, rfl⟩
theorem d1_20 : Dc method_2_code 20 (.iconst 2) 1 21 := ⟨by decide +kernel, rfl⟩
theorem d1_21 : Dj method_2_code 21 (.if_icmp .ne) 24 27 := ⟨6, by decide +kernel, rfl, by decide, by decide⟩
theorem d1_24 : Dc method_2_code 24 (.bipush 87) 2 26 := ⟨by decide +kernel, rfl⟩
theorem d1_26 : Dc method_2_code 26 .ireturn 1 27 := ⟨by decide +kernel, rfl⟩
theorem d1_27 : Dc method_2_code 27 (.iload_n 0) 1 28 := ⟨by decide +kernel, rfl⟩
theorem d1_28 : Dc method_2_code 28 (.iconst 2) 1 29 := ⟨by decide +kernel, rfl⟩
theorem d1_29 : Dc method_2_code 29 .iushr 1 30 := ⟨by decide +kernel, rfl⟩
theorem d1_30 : Dc method_2_code 30 (.sipush 255) 3 33 := ⟨by decide +kernel, rfl⟩
theorem d1_33 : Dc method_2_code 33 .iand 1 34 := ⟨by decide +kernel, rfl⟩
theorem d1_34 : Dc method_2_code 34 .i2c 1 35 := ⟨by decide +kernel, rfl⟩
theorem d1_35 : Dc method_2_code 35 .ireturn 1 36 := ⟨by decide +kernel, rfl⟩
theorem d2_0 : Dc method_3_code 0 (.iload_n 1) 1 1 := ⟨by decide +kernel, rfl⟩
theorem d2_1 : Dj method_3_code 1 (.ifCond .gt) 4 15 := ⟨14, by decide +kernel, rfl, by decide, by decide⟩
theorem d2_4 : Dc method_3_code 4 (.new 7) 3 7 := ⟨by decide +kernel, rfl⟩
theorem d2_7 : Dc method_3_code 7 .dup 1 8 := ⟨by decide +kernel, rfl⟩
theorem d2_8 : Dc method_3_code 8 (.iconst 0) 1 9 := ⟨by decide +kernel, rfl⟩
theorem d2_9 : Dc method_3_code 9 (.newarray .char) 2 11 := ⟨by decide +kernel, rfl⟩
theorem d2_11 : Dc method_3_code 11 (.invokespecial 9) 3 14 := ⟨by decide +kernel, rfl⟩
theorem d2_14 : Dc method_3_code 14 .areturn 1 15 := ⟨by decide +kernel, rfl⟩
theorem d2_15 : Dc method_3_code 15 (.iload_n 1) 1 16 := ⟨by decide +kernel, rfl⟩
theorem d2_16 : Dc method_3_code 16 (.iconst 1) 1 17 := ⟨by decide +kernel, rfl⟩
theorem d2_17 : Dj method_3_code 17 (.if_icmp .ne) 20 37 := ⟨20, by decide +kernel, rfl, by decide, by decide⟩
theorem d2_20 : Dc method_3_code 20 (.new 7) 3 23 := ⟨by decide +kernel, rfl⟩
theorem d2_23 : Dc method_3_code 23 .dup 1 24 := ⟨by decide +kernel, rfl⟩
theorem d2_24 : Dc method_3_code 24 (.iconst 1) 1 25 := ⟨by decide +kernel, rfl⟩
theorem d2_25 : Dc method_3_code 25 (.newarray .char) 2 27 := ⟨by decide +kernel, rfl⟩
theorem d2_27 : Dc method_3_code 27 .dup 1 28 := ⟨by decide +kernel, rfl⟩
theorem d2_28 : Dc method_3_code 28 (.iconst 0) 1 29 := ⟨by decide +kernel, rfl⟩
theorem d2_29 : Dc method_3_code 29 (.aload_n 0) 1 30 := ⟨by decide +kernel, rfl⟩
theorem d2_30 : Dc method_3_code 30 (.iconst 0) 1 31 := ⟨by decide +kernel, rfl⟩
theorem d2_31 : Dc method_3_code 31 .caload 1 32 := ⟨by decide +kernel, rfl⟩
theorem d2_32 : Dc method_3_code 32 .castore 1 33 := ⟨by decide +kernel, rfl⟩
theorem d2_33 : Dc method_3_code 33 (.invokespecial 9) 3 36 := ⟨by decide +kernel, rfl⟩
theorem d2_36 : Dc method_3_code 36 .areturn 1 37 := ⟨by decide +kernel, rfl⟩
theorem d2_37 : Dc method_3_code 37 (.iload_n 1) 1 38 := ⟨by decide +kernel, rfl⟩
theorem d2_38 : Dc method_3_code 38 (.iconst 2) 1 39 := ⟨by decide +kernel, rfl⟩
theorem d2_39 : Dj method_3_code 39 (.if_icmp .ne) 42 65 := ⟨26, by decide +kernel, rfl, by decide, by decide⟩
theorem d2_42 : Dc method_3_code 42 (.new 7) 3 45 := ⟨by decide +kernel, rfl⟩
theorem d2_45 : Dc method_3_code 45 .dup 1 46 := ⟨by decide +kernel, rfl⟩
theorem d2_46 : Dc method_3_code 46 (.iconst 2) 1 47 := ⟨by decide +kernel, rfl⟩
theorem d2_47 : Dc method_3_code 47 (.newarray .char) 2 49 := ⟨by decide +kernel, rfl⟩
theorem d2_49 : Dc method_3_code 49 .dup 1 50 := ⟨by decide +kernel, rfl⟩
theorem d2_50 : Dc method_3_code 50 (.iconst 0) 1 51 := ⟨by decide +kernel, rfl⟩
theorem d2_51 : Dc method_3_code 51 (.aload_n 0) 1 52 := ⟨by decide +kernel, rfl⟩
theorem d2_52 : Dc method_3_code 52 (.iconst 0) 1 53 := ⟨by decide +kernel, rfl⟩
theorem d2_53 : Dc method_3_code 53 .caload 1 54 := ⟨by decide +kernel, rfl⟩
theorem d2_54 : Dc method_3_code 54 .castore 1 55 := ⟨by decide +kernel, rfl⟩
theorem d2_55 : Dc method_3_code 55 .dup 1 56 := ⟨by decide +kernel, rfl⟩
theorem d2_56 : Dc method_3_code 56 (.iconst 1) 1 57 := ⟨by decide +kernel, rfl⟩
theorem d2_57 : Dc method_3_code 57 (.aload_n 0) 1 58 := ⟨by decide +kernel, rfl⟩
theorem d2_58 : Dc method_3_code 58 (.iconst 1) 1 59 := ⟨by decide +kernel, rfl⟩
theorem d2_59 : Dc method_3_code 59 .caload 1 60 := ⟨by decide +kernel, rfl⟩
theorem d2_60 : Dc method_3_code 60 .castore 1 61 := ⟨by decide +kernel, rfl⟩
theorem d2_61 : Dc method_3_code 61 (.invokespecial 9) 3 64 := ⟨by decide +kernel, rfl⟩
theorem d2_64 : Dc method_3_code 64 .areturn 1 65 := ⟨by decide +kernel, rfl⟩
theorem d2_65 : Dc method_3_code 65 (.iload_n 1) 1 66 := ⟨by decide +kernel, rfl⟩
theorem d2_66 : Dc method_3_code 66 (.iconst 3) 1 67 := ⟨by decide +kernel, rfl⟩
theorem d2_67 : Dj method_3_code 67 (.if_icmp .ne) 70 99 := ⟨32, by decide +kernel, rfl, by decide, by decide⟩
theorem d2_70 : Dc method_3_code 70 (.new 7) 3 73 := ⟨by decide +kernel, rfl⟩
theorem d2_73 : Dc method_3_code 73 .dup 1 74 := ⟨by decide +kernel, rfl⟩
theorem d2_74 : Dc method_3_code 74 (.iconst 3) 1 75 := ⟨by decide +kernel, rfl⟩
theorem d2_75 : Dc method_3_code 75 (.newarray .char) 2 77 := ⟨by decide +kernel, rfl⟩
theorem d2_77 : Dc method_3_code 77 .dup 1 78 := ⟨by decide +kernel, rfl⟩
theorem d2_78 : Dc method_3_code 78 (.iconst 0) 1 79 := ⟨by decide +kernel, rfl⟩
theorem d2_79 : Dc method_3_code 79 (.aload_n 0) 1 80 := ⟨by decide +kernel, rfl⟩
theorem d2_80 : Dc method_3_code 80 (.iconst 0) 1 81 := ⟨by decide +kernel, rfl⟩
theorem d2_81 : Dc method_3_code 81 .caload 1 82 := ⟨by decide +kernel, rfl⟩
theorem d2_82 : Dc method_3_code 82 .castore 1 83 := ⟨by decide +kernel, rfl⟩
theorem d2_83 : Dc method_3_code 83 .dup 1 84 := ⟨by decide +kernel, rfl⟩
theorem d2_84 : Dc method_3_code 84 (.iconst 1) 1 85 := ⟨by decide +kernel, rfl⟩
theorem d2_85 : Dc method_3_code 85 (.aload_n 0) 1 86 := ⟨by decide +kernel, rfl⟩
theorem d2_86 : Dc method_3_code 86 (.iconst 1) 1 87 := ⟨by decide +kernel, rfl⟩
theorem d2_87 : Dc method_3_code 87 .caload 1 88 := ⟨by decide +kernel, rfl⟩
theorem d2_88 : Dc method_3_code 88 .castore 1 89 := ⟨by decide +kernel, rfl⟩
theorem d2_89 : Dc method_3_code 89 .dup 1 90 := ⟨by decide +kernel, rfl⟩
theorem d2_90 : Dc method_3_code 90 (.iconst 2) 1 91 := ⟨by decide +kernel, rfl⟩
theorem d2_91 : Dc method_3_code 91 (.aload_n 0) 1 92 := ⟨by decide +kernel, rfl⟩
theorem d2_92 : Dc method_3_code 92 (.iconst 2) 1 93 := ⟨by decide +kernel, rfl⟩
theorem d2_93 : Dc method_3_code 93 .caload 1 94 := ⟨by decide +kernel, rfl⟩
theorem d2_94 : Dc method_3_code 94 .castore 1 95 := ⟨by decide +kernel, rfl⟩
theorem d2_95 : Dc method_3_code 95 (.invokespecial 9) 3 98 := ⟨by decide +kernel, rfl⟩
theorem d2_98 : Dc method_3_code 98 .areturn 1 99 := ⟨by decide +kernel, rfl⟩
theorem d2_99 : Dc method_3_code 99 (.iload_n 1) 1 100 := ⟨by decide +kernel, rfl⟩
theorem d2_100 : Dc method_3_code 100 (.iconst 4) 1 101 := ⟨by decide +kernel, rfl⟩
theorem d2_101 : Dj method_3_code 101 (.if_icmp .ne) 104 139 := ⟨38, by decide +kernel, rfl, by decide, by decide⟩
theorem d2_104 : Dc method_3_code 104 (.new 7) 3 107 := ⟨by decide +kernel, rfl⟩
theorem d2_107 : Dc method_3_code 107 .dup 1 108 := ⟨by decide +kernel, rfl⟩
theorem d2_108 : Dc method_3_code 108 (.iconst 4) 1 109 := ⟨by decide +kernel, rfl⟩
theorem d2_109 : Dc method_3_code 109 (.newarray .char) 2 111 := ⟨by decide +kernel, rfl⟩
theorem d2_111 : Dc method_3_code 111 .dup 1 112 := ⟨by decide +kernel, rfl⟩
theorem d2_112 : Dc method_3_code 112 (.iconst 0) 1 113 := ⟨by decide +kernel, rfl⟩
theorem d2_113 : Dc method_3_code 113 (.aload_n 0) 1 114 := ⟨by decide +kernel, rfl⟩
theorem d2_114 : Dc method_3_code 114 (.iconst 0) 1 115 := ⟨by decide +kernel, rfl⟩
theorem d2_115 : Dc method_3_code 115 .caload 1 116 := ⟨by decide +kernel, rfl⟩
theorem d2_116 : Dc method_3_code 116 .castore 1 117 := ⟨by decide +kernel, rfl⟩
theorem d2_117 : Dc method_3_code 117 .dup 1 118 := ⟨by decide +kernel, rfl⟩
theorem d2_118 : Dc method_3_code 118 (.iconst 1) 1 119 := ⟨by decide +kernel, rfl⟩
theorem d2_119 : Dc method_3_code 119 (.aload_n 0) 1 120 := ⟨by decide +kernel, rfl⟩
theorem d2_120 : Dc method_3_code 120 (.iconst 1) 1 121 := ⟨by decide +kernel, rfl⟩
theorem d2_121 : Dc method_3_code 121 .caload 1 122 := ⟨by decide +kernel, rfl⟩
theorem d2_122 : Dc method_3_code 122 .castore 1 123 := ⟨by decide +kernel, rfl⟩
theorem d2_123 : Dc method_3_code 123 .dup 1 124 := ⟨by decide +kernel, rfl⟩
theorem d2_124 : Dc method_3_code 124 (.iconst 2) 1 125 := ⟨by decide +kernel, rfl⟩
theorem d2_125 : Dc method_3_code 125 (.aload_n 0) 1 126 := ⟨by decide +kernel, rfl⟩
theorem d2_126 : Dc method_3_code 126 (.iconst 2) 1 127 := ⟨by decide +kernel, rfl⟩
theorem d2_127 : Dc method_3_code 127 .caload 1 128 := ⟨by decide +kernel, rfl⟩
theorem d2_128 : Dc method_3_code 128 .castore 1 129 := ⟨by decide +kernel, rfl⟩
theorem d2_129 : Dc method_3_code 129 .dup 1 130 := ⟨by decide +kernel, rfl⟩
theorem d2_130 : Dc method_3_code 130 (.iconst 3) 1 131 := ⟨by decide +kernel, rfl⟩
theorem d2_131 : Dc method_3_code 131 (.aload_n 0) 1 132 := ⟨by decide +kernel, rfl⟩
theorem d2_132 : Dc method_3_code 132 (.iconst 3) 1 133 := ⟨by decide +kernel, rfl⟩
theorem d2_133 : Dc method_3_code 133 .caload 1 134 := ⟨by decide +kernel, rfl⟩
theorem d2_134 : Dc method_3_code 134 .castore 1 135 := ⟨by decide +kernel, rfl⟩
theorem d2_135 : Dc method_3_code 135 (.invokespecial 9) 3 138 := ⟨by decide +kernel, rfl⟩
theorem d2_138 : Dc method_3_code 138 .areturn 1 139 := ⟨by decide +kernel, rfl⟩
theorem d2_139 : Dc method_3_code 139 (.iload_n 1) 1 140 := ⟨by decide +kernel, rfl⟩
theorem d2_140 : Dc method_3_code 140 (.iconst 5) 1 141 := ⟨by decide +kernel, rfl⟩
theorem d2_141 : Dj method_3_code 141 (.if_icmp .ne) 144 185 := ⟨44, by decide +kernel, rfl, by decide, by decide⟩
theorem d2_144 : Dc method_3_code 144 (.new 7) 3 147 := ⟨by decide +kernel, rfl⟩
theorem d2_147 : Dc method_3_code 147 .dup 1 148 := ⟨by decide +kernel, rfl⟩
theorem d2_148 : Dc method_3_code 148 (.iconst 5) 1 149 := ⟨by decide +kernel, rfl⟩
theorem d2_149 : Dc method_3_code 149 (.newarray .char) 2 151 := ⟨by decide +kernel, rfl⟩
theorem d2_151 : Dc method_3_code 151 .dup 1 152 := ⟨by decide +kernel, rfl⟩
theorem d2_152 : Dc method_3_code 152 (.iconst 0) 1 153 := ⟨by decide +kernel, rfl⟩
theorem d2_153 : Dc method_3_code 153 (.aload_n 0) 1 154 := ⟨by decide +kernel, rfl⟩
theorem d2_154 : Dc method_3_code 154 (.iconst 0) 1 155 := ⟨by decide +kernel, rfl⟩
theorem d2_155 : Dc method_3_code 155 .caload 1 156 := ⟨by decide +kernel, rfl⟩
theorem d2_156 : Dc method_3_code 156 .castore 1 157 := ⟨by decide +kernel, rfl⟩
theorem d2_157 : Dc method_3_code 157 .dup 1 158 := ⟨by decide +kernel, rfl⟩
theorem d2_158 : Dc method_3_code 158 (.iconst 1) 1 159 := ⟨by decide +kernel, rfl⟩
theorem d2_159 : Dc method_3_code 159 (.aload_n 0) 1 160 := ⟨by decide +kernel, rfl⟩
theorem d2_160 : Dc method_3_code 160 (.iconst 1) 1 161 := ⟨by decide +kernel, rfl⟩
theorem d2_161 : Dc method_3_code 161 .caload 1 162 := ⟨by decide +kernel, rfl⟩
theorem d2_162 : Dc method_3_code 162 .castore 1 163 := ⟨by decide +kernel, rfl⟩
theorem d2_163 : Dc method_3_code 163 .dup 1 164 := ⟨by decide +kernel, rfl⟩
theorem d2_164 : Dc method_3_code 164 (.iconst 2) 1 165 := ⟨by decide +kernel, rfl⟩
theorem d2_165 : Dc method_3_code 165 (.aload_n 0) 1 166 := ⟨by decide +kernel, rfl⟩
theorem d2_166 : Dc method_3_code 166 (.iconst 2) 1 167 := ⟨by decide +kernel, rfl⟩
theorem d2_167 : Dc method_3_code 167 .caload 1 168 := ⟨by decide +kernel, rfl⟩
theorem d2_168 : Dc method_3_code 168 .castore 1 169 := ⟨by decide +kernel, rfl⟩
theorem d2_169 : Dc method_3_code 169 .dup 1 170 := ⟨by decide +kernel, rfl⟩
theorem d2_170 : Dc method_3_code 170 (.iconst 3) 1 171 := ⟨by decide +kernel, rfl⟩
theorem d2_171 : Dc method_3_code 171 (.aload_n 0) 1 172 := ⟨by decide +kernel, rfl⟩
theorem d2_172 : Dc method_3_code 172 (.iconst 3) 1 173 := ⟨by decide +kernel, rfl⟩
theorem d2_173 : Dc method_3_code 173 .caload 1 174 := ⟨by decide +kernel, rfl⟩
theorem d2_174 : Dc method_3_code 174 .castore 1 175 := ⟨by decide +kernel, rfl⟩
theorem d2_175 : Dc method_3_code 175 .dup 1 176 := ⟨by decide +kernel, rfl⟩
theorem d2_176 : Dc method_3_code 176 (.iconst 4) 1 177 := ⟨by decide +kernel, rfl⟩
theorem d2_177 : Dc method_3_code 177 (.aload_n 0) 1 178 := ⟨by decide +kernel, rfl⟩
theorem d2_178 : Dc method_3_code 178 (.iconst 4) 1 179 := ⟨by decide +kernel, rfl⟩
theorem d2_179 : Dc method_3_code 179 .caload 1 180 := ⟨by decide +kernel, rfl⟩
theorem d2_180 : Dc method_3_code 180 .castore 1 181 := ⟨by decide +kernel, rfl⟩
theorem d2_181 : Dc method_3_code 181 (.invokespecial 9) 3 184 := ⟨by decide +kernel, rfl⟩
theorem d2_184 : Dc method_3_code 184 .areturn 1 185 := ⟨by decide +kernel, rfl⟩
theorem d2_185 : Dc method_3_code 185 (.iload_n 1) 1 186 := ⟨by decide +kernel, rfl⟩
theorem d2_186 : Dc method_3_code 186 (.bipush 6) 2 188 := ⟨by decide +kernel, rfl⟩
theorem d2_188 : Dj method_3_code 188 (.if_icmp .ne) 191 239 := ⟨51, by decide +kernel, rfl, by decide, by decide⟩
theorem d2_191 : Dc method_3_code 191 (.new 7) 3 194 := ⟨by decide +kernel, rfl⟩
theorem d2_194 : Dc method_3_code 194 .dup 1 195 := ⟨by decide +kernel, rfl⟩
theorem d2_195 : Dc method_3_code 195 (.bipush 6) 2 197 := ⟨by decide +kernel, rfl⟩
theorem d2_197 : Dc method_3_code 197 (.newarray .char) 2 199 := ⟨by decide +kernel, rfl⟩
theorem d2_199 : Dc method_3_code 199 .dup 1 200 := ⟨by decide +kernel, rfl⟩
theorem d2_200 : Dc method_3_code 200 (.iconst 0) 1 201 := ⟨by decide +kernel, rfl⟩
theorem d2_201 : Dc method_3_code 201 (.aload_n 0) 1 202 := ⟨by decide +kernel, rfl⟩
theorem d2_202 : Dc method_3_code 202 (.iconst 0) 1 203 := ⟨by decide +kernel, rfl⟩
theorem d2_203 : Dc method_3_code 203 .caload 1 204 := ⟨by decide +kernel, rfl⟩
theorem d2_204 : Dc method_3_code 204 .castore 1 205 := ⟨by decide +kernel, rfl⟩
theorem d2_205 : Dc method_3_code 205 .dup 1 206 := ⟨by decide +kernel, rfl⟩
theorem d2_206 : Dc method_3_code 206 (.iconst 1) 1 207 := ⟨by decide +kernel, rfl⟩
theorem d2_207 : Dc method_3_code 207 (.aload_n 0) 1 208 := ⟨by decide +kernel, rfl⟩
theorem d2_208 : Dc method_3_code 208 (.iconst 1) 1 209 := ⟨by decide +kernel, rfl⟩
theorem d2_209 : Dc method_3_code 209 .caload 1 210 := ⟨by decide +kernel, rfl⟩
theorem d2_210 : Dc method_3_code 210 .castore 1 211 := ⟨by decide +kernel, rfl⟩
theorem d2_211 : Dc method_3_code 211 .dup 1 212 := ⟨by decide +kernel, rfl⟩
theorem d2_212 : Dc method_3_code 212 (.iconst 2) 1 213 := ⟨by decide +kernel, rfl⟩
theorem d2_213 : Dc method_3_code 213 (.aload_n 0) 1 214 := ⟨by decide +kernel, rfl⟩
theorem d2_214 : Dc method_3_code 214 (.iconst 2) 1 215 := ⟨by decide +kernel, rfl⟩
theorem d2_215 : Dc method_3_code 215 .caload 1 216 := ⟨by decide +kernel, rfl⟩
theorem d2_216 : Dc method_3_code 216 .castore 1 217 := ⟨by decide +kernel, rfl⟩
theorem d2_217 : Dc method_3_code 217 .dup 1 218 := ⟨by decide +kernel, rfl⟩
theorem d2_218 : Dc method_3_code 218 (.iconst 3) 1 219 := ⟨by decide +kernel, rfl⟩
theorem d2_219 : Dc method_3_code 219 (.aload_n 0) 1 220 := ⟨by decide +kernel, rfl⟩
theorem d2_220 : Dc method_3_code 220 (.iconst 3) 1 221 := ⟨by decide +kernel, rfl⟩
theorem d2_221 : Dc method_3_code 221 .caload 1 222 := ⟨by decide +kernel, rfl⟩
theorem d2_222 : Dc method_3_code 222 .castore 1 223 := ⟨by decide +kernel, rfl⟩
theorem d2_223 : Dc method_3_code 223 .dup 1 224 := ⟨by decide +kernel, rfl⟩
theorem d2_224 : Dc method_3_code 224 (.iconst 4) 1 225 := ⟨by decide +kernel, rfl⟩
theorem d2_225 : Dc method_3_code 225 (.aload_n 0) 1 226 := ⟨by decide +kernel, rfl⟩
theorem d2_226 : Dc method_3_code 226 (.iconst 4) 1 227 := ⟨by decide +kernel, rfl⟩
theorem d2_227 : Dc method_3_code 227 .caload 1 228 := ⟨by decide +kernel, rfl⟩
theorem d2_228 : Dc method_3_code 228 .castore 1 229 := ⟨by decide +kernel, rfl⟩
theorem d2_229 : Dc method_3_code 229 .dup 1 230 := ⟨by decide +kernel, rfl⟩
theorem d2_230 : Dc method_3_code 230 (.iconst 5) 1 231 := ⟨by decide +kernel, rfl⟩
theorem d2_231 : Dc method_3_code 231 (.aload_n 0) 1 232 := ⟨by decide +kernel, rfl⟩
theorem d2_232 : Dc method_3_code 232 (.iconst 5) 1 233 := ⟨by decide +kernel, rfl⟩
theorem d2_233 : Dc method_3_code 233 .caload 1 234 := ⟨by decide +kernel, rfl⟩
theorem d2_234 : Dc method_3_code 234 .castore 1 235 := ⟨by decide +kernel, rfl⟩
theorem d2_235 : Dc method_3_code 235 (.invokespecial 9) 3 238 := ⟨by decide +kernel, rfl⟩
theorem d2_238 : Dc method_3_code 238 .areturn 1 239 := ⟨by decide +kernel, rfl⟩
theorem d2_239 : Dc method_3_code 239 (.new 7) 3 242 := ⟨by decide +kernel, rfl⟩
theorem d2_242 : Dc method_3_code 242 .dup 1 243 := ⟨by decide +kernel, rfl⟩
theorem d2_243 : Dc method_3_code 243 (.bipush 7) 2 245 := ⟨by decide +kernel, rfl⟩
theorem d2_245 : Dc method_3_code 245 (.newarray .char) 2 247 := ⟨by decide +kernel, rfl⟩
theorem d2_247 : Dc method_3_code 247 .dup 1 248 := ⟨by decide +kernel, rfl⟩
theorem d2_248 : Dc method_3_code 248 (.iconst 0) 1 249 := ⟨by decide +kernel, rfl⟩
theorem d2_249 : Dc method_3_code 249 (.aload_n 0) 1 250 := ⟨by decide +kernel, rfl⟩
theorem d2_250 : Dc method_3_code 250 (.iconst 0) 1 251 := ⟨by decide +kernel, rfl⟩
theorem d2_251 : Dc method_3_code 251 .caload 1 252 := ⟨by decide +kernel, rfl⟩
theorem d2_252 : Dc method_3_code 252 .castore 1 253 := ⟨by decide +kernel, rfl⟩
theorem d2_253 : Dc method_3_code 253 .dup 1 254 := ⟨by decide +kernel, rfl⟩
theorem d2_254 : Dc method_3_code 254 (.iconst 1) 1 255 := ⟨by decide +kernel, rfl⟩
theorem d2_255 : Dc method_3_code 255 (.aload_n 0) 1 256 := ⟨by decide +kernel, rfl⟩
theorem d2_256 : Dc method_3_code 256 (.iconst 1) 1 257 := ⟨by decide +kernel, rfl⟩
theorem d2_257 : Dc method_3_code 257 .caload 1 258 := ⟨by decide +kernel, rfl⟩
theorem d2_258 : Dc method_3_code 258 .castore 1 259 := ⟨by decide +kernel, rfl⟩
theorem d2_259 : Dc method_3_code 259 .dup 1 260 := ⟨by decide +kernel, rfl⟩
theorem d2_260 : Dc method_3_code 260 (.iconst 2) 1 261 := ⟨by decide +kernel, rfl⟩
theorem d2_261 : Dc method_3_code 261 (.aload_n 0) 1 262 := ⟨by decide +kernel, rfl⟩
theorem d2_262 : Dc method_3_code 262 (.iconst 2) 1 263 := ⟨by decide +kernel, rfl⟩
theorem d2_263 : Dc method_3_code 263 .caload 1 264 := ⟨by decide +kernel, rfl⟩
theorem d2_264 : Dc method_3_code 264 .castore 1 265 := ⟨by decide +kernel, rfl⟩
theorem d2_265 : Dc method_3_code 265 .dup 1 266 := ⟨by decide +kernel, rfl⟩
theorem d2_266 : Dc method_3_code 266 (.iconst 3) 1 267 := ⟨by decide +kernel, rfl⟩
theorem d2_267 : Dc method_3_code 267 (.aload_n 0) 1 268 := ⟨by decide +kernel, rfl⟩
theorem d2_268 : Dc method_3_code 268 (.iconst 3) 1 269 := ⟨by decide +kernel, rfl⟩
theorem d2_269 : Dc method_3_code 269 .caload 1 270 := ⟨by decide +kernel, rfl⟩
theorem d2_270 : Dc method_3_code 270 .castore 1 271 := ⟨by decide +kernel, rfl⟩
theorem d2_271 : Dc method_3_code 271 .dup 1 272 := ⟨by decide +kernel, rfl⟩
theorem d2_272 : Dc method_3_code 272 (.iconst 4) 1 273 := ⟨by decide +kernel, rfl⟩
theorem d2_273 : Dc method_3_code 273 (.aload_n 0) 1 274 := ⟨by decide +kernel, rfl⟩
theorem d2_274 : Dc method_3_code 274 (.iconst 4) 1 275 := ⟨by decide +kernel, rfl⟩
theorem d2_275 : Dc method_3_code 275 .caload 1 276 := ⟨by decide +kernel, rfl⟩
theorem d2_276 : Dc method_3_code 276 .castore 1 277 := ⟨by decide +kernel, rfl⟩
theorem d2_277 : Dc method_3_code 277 .dup 1 278 := ⟨by decide +kernel, rfl⟩
theorem d2_278 : Dc method_3_code 278 (.iconst 5) 1 279 := ⟨by decide +kernel, rfl⟩
theorem d2_279 : Dc method_3_code 279 (.aload_n 0) 1 280 := ⟨by decide +kernel, rfl⟩
theorem d2_280 : Dc method_3_code 280 (.iconst 5) 1 281 := ⟨by decide +kernel, rfl⟩
theorem d2_281 : Dc method_3_code 281 .caload 1 282 := ⟨by decide +kernel, rfl⟩
theorem d2_282 : Dc method_3_code 282 .castore 1 283 := ⟨by decide +kernel, rfl⟩
theorem d2_283 : Dc method_3_code 283 .dup 1 284 := ⟨by decide +kernel, rfl⟩
theorem d2_284 : Dc method_3_code 284 (.bipush 6) 2 286 := ⟨by decide +kernel, rfl⟩
theorem d2_286 : Dc method_3_code 286 (.aload_n 0) 1 287 := ⟨by decide +kernel, rfl⟩
theorem d2_287 : Dc method_3_code 287 (.bipush 6) 2 289 := ⟨by decide +kernel, rfl⟩
theorem d2_289 : Dc method_3_code 289 .caload 1 290 := ⟨by decide +kernel, rfl⟩
theorem d2_290 : Dc method_3_code 290 .castore 1 291 := ⟨by decide +kernel, rfl⟩
theorem d2_291 : Dc method_3_code 291 (.invokespecial 9) 3 294 := ⟨by decide +kernel, rfl⟩
theorem d2_294 : Dc method_3_code 294 .areturn 1 295 := ⟨by decide +kernel, rfl⟩
theorem d3_0 : Dc jdk_42_method_3_code 0 (.aload_n 0) 1 1 := ⟨by decide +kernel, rfl⟩
theorem d3_1 : Dc jdk_42_method_3_code 1 (.aload_n 1) 1 2 := ⟨by decide +kernel, rfl⟩
theorem d3_2 : Dc jdk_42_method_3_code 2 (.iconst 0) 1 3 := ⟨by decide +kernel, rfl⟩
theorem d3_3 : Dc jdk_42_method_3_code 3 (.aload_n 1) 1 4 := ⟨by decide +kernel, rfl⟩
theorem d3_4 : Dc jdk_42_method_3_code 4 .arraylength 1 5 := ⟨by decide +kernel, rfl⟩
theorem d3_5 : Dc jdk_42_method_3_code 5 .aconst_null 1 6 := ⟨by decide +kernel, rfl⟩
theorem d3_6 : Dc jdk_42_method_3_code 6 (.invokespecial 27) 3 9 := ⟨by decide +kernel, rfl⟩
theorem d3_9 : Dc jdk_42_method_3_code 9 .return_ 1 10 := ⟨by decide +kernel, rfl⟩
theorem d4_0 : Dc jdk_42_method_149_code 0 (.aload_n 0) 1 1 := ⟨by decide +kernel, rfl⟩
theorem d4_1 : Dc jdk_42_method_149_code 1 (.invokespecial 1) 3 4 := ⟨by decide +kernel, rfl⟩
theorem d4_4 : Dc jdk_42_method_149_code 4 (.iload_n 3) 1 5 := ⟨by decide +kernel, rfl⟩
theorem d4_5 : Dj jdk_42_method_149_code 5 (.ifCond .ne) 8 27 := ⟨22, by decide +kernel, rfl, by decide, by decide⟩
theorem d4_8 : Dc jdk_42_method_149_code 8 (.aload_n 0) 1 9 := ⟨by decide +kernel, rfl⟩
theorem d4_9 : Dc jdk_42_method_149_code 9 (.ldc 7) 2 11 := ⟨by decide +kernel, rfl⟩
theorem d4_11 : Dc jdk_42_method_149_code 11 (.getfield 9) 3 14 := ⟨by decide +kernel, rfl⟩
theorem d4_14 : Dc jdk_42_method_149_code 14 (.putfield 9) 3 17 := ⟨by decide +kernel, rfl⟩
theorem d4_17 : Dc jdk_42_method_149_code 17 (.aload_n 0) 1 18 := ⟨by decide +kernel, rfl⟩
theorem d4_18 : Dc jdk_42_method_149_code 18 (.ldc 7) 2 20 := ⟨by decide +kernel, rfl⟩
theorem d4_20 : Dc jdk_42_method_149_code 20 (.getfield 15) 3 23 := ⟨by decide +kernel, rfl⟩
theorem d4_23 : Dc jdk_42_method_149_code 23 (.putfield 15) 3 26 := ⟨by decide +kernel, rfl⟩
theorem d4_26 : Dc jdk_42_method_149_code 26 .return_ 1 27 := ⟨by decide +kernel, rfl⟩
theorem d4_27 : Dc jdk_42_method_149_code 27 (.getstatic 38) 3 30 := ⟨by decide +kernel, rfl⟩
theorem d4_30 : Dj jdk_42_method_149_code 30 (.ifCond .eq) 33 58 := ⟨28, by decide +kernel, rfl, by decide, by decide⟩
theorem d4_33 : Dc jdk_42_method_149_code 33 (.aload_n 1) 1 34 := ⟨by decide +kernel, rfl⟩
theorem d4_34 : Dc jdk_42_method_149_code 34 (.iload_n 2) 1 35 := ⟨by decide +kernel, rfl⟩
theorem d4_35 : Dc jdk_42_method_149_code 35 (.iload_n 3) 1 36 := ⟨by decide +kernel, rfl⟩
theorem d4_36 : Dc jdk_42_method_149_code 36 (.invokestatic 177) 3 39 := ⟨by decide +kernel, rfl⟩
theorem d4_39 : Dc jdk_42_method_149_code 39 (.astore 5) 2 41 := ⟨by decide +kernel, rfl⟩
theorem d4_41 : Dc jdk_42_method_149_code 41 (.aload_n 0) 1 42 := ⟨by decide +kernel, rfl⟩
theorem d4_42 : Dc jdk_42_method_149_code 42 (.aload 5) 2 44 := ⟨by decide +kernel, rfl⟩
theorem d4_44 : Dc jdk_42_method_149_code 44 (.iload_n 3) 1 45 := ⟨by decide +kernel, rfl⟩
theorem d4_45 : Dc jdk_42_method_149_code 45 (.invokestatic 47) 3 48 := ⟨by decide +kernel, rfl⟩
theorem d4_48 : Dc jdk_42_method_149_code 48 (.putfield 15) 3 51 := ⟨by decide +kernel, rfl⟩
theorem d4_51 : Dc jdk_42_method_149_code 51 (.aload_n 0) 1 52 := ⟨by decide +kernel, rfl⟩
theorem d4_52 : Dc jdk_42_method_149_code 52 (.aload 5) 2 54 := ⟨by decide +kernel, rfl⟩
theorem d4_54 : Dc jdk_42_method_149_code 54 (.putfield 9) 3 57 := ⟨by decide +kernel, rfl⟩
theorem d4_57 : Dc jdk_42_method_149_code 57 .return_ 1 58 := ⟨by decide +kernel, rfl⟩
theorem d6_0 : Dc jdk_52_method_16_code 0 (.iload_n 2) 1 1 := ⟨by decide +kernel, rfl⟩
theorem d6_1 : Dc jdk_52_method_16_code 1 (.newarray .byte) 2 3 := ⟨by decide +kernel, rfl⟩
theorem d6_3 : Dc jdk_52_method_16_code 3 (.astore_n 3) 1 4 := ⟨by decide +kernel, rfl⟩
theorem d6_4 : Dc jdk_52_method_16_code 4 (.aload_n 0) 1 5 := ⟨by decide +kernel, rfl⟩
theorem d6_5 : Dc jdk_52_method_16_code 5 (.iload_n 1) 1 6 := ⟨by decide +kernel, rfl⟩
theorem d6_6 : Dc jdk_52_method_16_code 6 (.aload_n 3) 1 7 := ⟨by decide +kernel, rfl⟩
theorem d6_7 : Dc jdk_52_method_16_code 7 (.iconst 0) 1 8 := ⟨by decide +kernel, rfl⟩
theorem d6_8 : Dc jdk_52_method_16_code 8 (.iload_n 2) 1 9 := ⟨by decide +kernel, rfl⟩
theorem d6_9 : Dc jdk_52_method_16_code 9 (.invokestatic 115) 3 12 := ⟨by decide +kernel, rfl⟩
theorem d6_12 : Dc jdk_52_method_16_code 12 (.istore 4) 2 14 := ⟨by decide +kernel, rfl⟩
theorem d6_14 : Dc jdk_52_method_16_code 14 (.iload 4) 2 16 := ⟨by decide +kernel, rfl⟩
theorem d6_16 : Dc jdk_52_method_16_code 16 (.iload_n 2) 1 17 := ⟨by decide +kernel, rfl⟩
theorem d6_17 : Dj jdk_52_method_16_code 17 (.if_icmp .eq) 20 57 := ⟨40, by decide +kernel, rfl, by decide, by decide⟩
theorem d6_57 : Dc jdk_52_method_16_code 57 (.aload_n 3) 1 58 := ⟨by decide +kernel, rfl⟩
theorem d6_58 : Dc jdk_52_method_16_code 58 .areturn 1 59 := ⟨by decide +kernel, rfl⟩
theorem d7_0 : Dc jdk_52_method_21_code 0 (.iconst 0) 1 1 := ⟨by decide +kernel, rfl⟩
theorem d7_1 : Dc jdk_52_method_21_code 1 (.istore 5) 2 3 := ⟨by decide +kernel, rfl⟩
theorem d7_3 : Dc jdk_52_method_21_code 3 (.iload 5) 2 5 := ⟨by decide +kernel, rfl⟩
theorem d7_5 : Dc jdk_52_method_21_code 5 (.iload 4) 2 7 := ⟨by decide +kernel, rfl⟩
theorem d7_7 : Dj jdk_52_method_21_code 7 (.if_icmp .ge) 10 44 := ⟨37, by decide +kernel, rfl, by decide, by decide⟩
theorem d7_10 : Dc jdk_52_method_21_code 10 (.aload_n 0) 1 11 := ⟨by decide +kernel, rfl⟩
theorem d7_11 : Dc jdk_52_method_21_code 11 (.iload_n 1) 1 12 := ⟨by decide +kernel, rfl⟩
theorem d7_12 : Dc jdk_52_method_21_code 12 .caload 1 13 := ⟨by decide +kernel, rfl⟩
theorem d7_13 : Dc jdk_52_method_21_code 13 (.istore 6) 2 15 := ⟨by decide +kernel, rfl⟩
theorem d7_15 : Dc jdk_52_method_21_code 15 (.iload 6) 2 17 := ⟨by decide +kernel, rfl⟩
theorem d7_17 : Dc jdk_52_method_21_code 17 (.sipush 255) 3 20 := ⟨by decide +kernel, rfl⟩
theorem d7_20 : Dj jdk_52_method_21_code 20 (.if_icmp .le) 23 26 := ⟨6, by decide +kernel, rfl, by decide, by decide⟩
theorem d7_26 : Dc jdk_52_method_21_code 26 (.aload_n 2) 1 27 := ⟨by decide +kernel, rfl⟩
theorem d7_27 : Dc jdk_52_method_21_code 27 (.iload_n 3) 1 28 := ⟨by decide +kernel, rfl⟩
theorem d7_28 : Dc jdk_52_method_21_code 28 (.iload 6) 2 30 := ⟨by decide +kernel, rfl⟩
theorem d7_30 : Dc jdk_52_method_21_code 30 .i2b 1 31 := ⟨by decide +kernel, rfl⟩
theorem d7_31 : Dc jdk_52_method_21_code 31 .bastore 1 32 := ⟨by decide +kernel, rfl⟩
theorem d7_32 : Dc jdk_52_method_21_code 32 (.iinc 1 1) 3 35 := ⟨by decide +kernel, rfl⟩
theorem d7_35 : Dc jdk_52_method_21_code 35 (.iinc 3 1) 3 38 := ⟨by decide +kernel, rfl⟩
theorem d7_38 : Dc jdk_52_method_21_code 38 (.iinc 5 1) 3 41 := ⟨by decide +kernel, rfl⟩
theorem d7_41 : Dj jdk_52_method_21_code 41 .goto 44 3 := ⟨(-38), by decide +kernel, rfl, by decide, by decide⟩
theorem d7_44 : Dc jdk_52_method_21_code 44 (.iload 4) 2 46 := ⟨by decide +kernel, rfl⟩
theorem d7_46 : Dc jdk_52_method_21_code 46 .ireturn 1 47 := ⟨by decide +kernel, rfl⟩
theorem d8_0 : Dc jdk_52_method_15_code 0 (.iload_n 1) 1 1 := ⟨by decide +kernel, rfl⟩
theorem d8_1 : Dc jdk_52_method_15_code 1 (.aload_n 0) 1 2 := ⟨by decide +kernel, rfl⟩
theorem d8_2 : Dc jdk_52_method_15_code 2 .arraylength 1 3 := ⟨by decide +kernel, rfl⟩
theorem d8_3 : Dc jdk_52_method_15_code 3 .isub 1 4 := ⟨by decide +kernel, rfl⟩
theorem d8_4 : Dc jdk_52_method_15_code 4 (.bipush 31) 2 6 := ⟨by decide +kernel, rfl⟩
theorem d8_6 : Dc jdk_52_method_15_code 6 .iushr 1 7 := ⟨by decide +kernel, rfl⟩
theorem d8_7 : Dc jdk_52_method_15_code 7 .i2b 1 8 := ⟨by decide +kernel, rfl⟩
theorem d8_8 : Dc jdk_52_method_15_code 8 .ireturn 1 9 := ⟨by decide +kernel, rfl⟩
theorem d9_0 : Dc prog_21_method_4_code 0 (.aload_n 0) 1 1 := ⟨by decide +kernel, rfl⟩
theorem d9_1 : Dc prog_21_method_4_code 1 (.aload_n 1) 1 2 := ⟨by decide +kernel, rfl⟩
theorem d9_2 : Dc prog_21_method_4_code 2 (.getstatic 60) 3 5 := ⟨by decide +kernel, rfl⟩
theorem d9_5 : Dc prog_21_method_4_code 5 (.invokestatic 91) 3 8 := ⟨by decide +kernel, rfl⟩
theorem d9_8 : Dc prog_21_method_4_code 8 (.invokevirtual 95) 3 11 := ⟨by decide +kernel, rfl⟩
theorem d9_11 : Dj prog_21_method_4_code 11 (.ifCond .ne) 14 28 := ⟨17, by decide +kernel, rfl, by decide, by decide⟩
theorem d9_14 : Dc prog_21_method_4_code 14 (.aload_n 0) 1 15 := ⟨by decide +kernel, rfl⟩
theorem d9_15 : Dc prog_21_method_4_code 15 (.aload_n 1) 1 16 := ⟨by decide +kernel, rfl⟩
theorem d9_16 : Dc prog_21_method_4_code 16 (.getstatic 55) 3 19 := ⟨by decide +kernel, rfl⟩
theorem d9_19 : Dc prog_21_method_4_code 19 (.invokestatic 91) 3 22 := ⟨by decide +kernel, rfl⟩
theorem d9_22 : Dc prog_21_method_4_code 22 (.invokevirtual 95) 3 25 := ⟨by decide +kernel, rfl⟩
theorem d9_25 : Dj prog_21_method_4_code 25 (.ifCond .eq) 28 32 := ⟨7, by decide +kernel, rfl, by decide, by decide⟩
theorem d9_28 : Dc prog_21_method_4_code 28 (.iconst 1) 1 29 := ⟨by decide +kernel, rfl⟩
theorem d9_29 : Dj prog_21_method_4_code 29 .goto 32 33 := ⟨4, by decide +kernel, rfl, by decide, by decide⟩
theorem d9_32 : Dc prog_21_method_4_code 32 (.iconst 0) 1 33 := ⟨by decide +kernel, rfl⟩
theorem d9_33 : Dc prog_21_method_4_code 33 .ireturn 1 34 := ⟨by decide +kernel, rfl⟩
theorem d10_0 : Dc prog_21_method_3_code 0 (.new 76) 3 3 := ⟨by decide +kernel, rfl⟩
theorem d10_3 : Dc prog_21_method_3_code 3 .dup 1 4 := ⟨by decide +kernel, rfl⟩
theorem d10_4 : Dc prog_21_method_3_code 4 (.invokespecial 78) 3 7 := ⟨by decide +kernel, rfl⟩
theorem d10_7 : Dc prog_21_method_3_code 7 (.aload_n 0) 1 8 := ⟨by decide +kernel, rfl⟩
theorem d10_8 : Dc prog_21_method_3_code 8 (.invokevirtual 79) 3 11 := ⟨by decide +kernel, rfl⟩
theorem d10_11 : Dc prog_21_method_3_code 11 (.aload_n 1) 1 12 := ⟨by decide +kernel, rfl⟩
theorem d10_12 : Dc prog_21_method_3_code 12 (.getstatic 55) 3 15 := ⟨by decide +kernel, rfl⟩
theorem d10_15 : Dj prog_21_method_3_code 15 (.if_acmp .ne) 18 23 := ⟨8, by decide +kernel, rfl, by decide, by decide⟩
theorem d10_18 : Dc prog_21_method_3_code 18 (.ldc 83) 2 20 := ⟨by decide +kernel, rfl⟩
theorem d10_20 : Dj prog_21_method_3_code 20 .goto 23 25 := ⟨5, by decide +kernel, rfl, by decide, by decide⟩
theorem d10_23 : Dc prog_21_method_3_code 23 (.ldc 85) 2 25 := ⟨by decide +kernel, rfl⟩
theorem d10_25 : Dc prog_21_method_3_code 25 (.invokevirtual 79) 3 28 := ⟨by decide +kernel, rfl⟩
theorem d10_28 : Dc prog_21_method_3_code 28 (.invokevirtual 87) 3 31 := ⟨by decide +kernel, rfl⟩
theorem d10_31 : Dc prog_21_method_3_code 31 .areturn 1 32 := ⟨by decide +kernel, rfl⟩
theorem d11_0 : Dc jdk_67_method_1_code 0 (.aload_n 0) 1 1 := ⟨by decide +kernel, rfl⟩
theorem d11_1 : Dc jdk_67_method_1_code 1 (.bipush 16) 2 3 := ⟨by decide +kernel, rfl⟩
theorem d11_3 : Dc jdk_67_method_1_code 3 (.invokespecial 1) 3 6 := ⟨by decide +kernel, rfl⟩
theorem d11_6 : Dc jdk_67_method_1_code 6 .return_ 1 7 := ⟨by decide +kernel, rfl⟩
theorem d12_0 : Dc jdk_68_method_2_code 0 (.aload_n 0) 1 1 := ⟨by decide +kernel, rfl⟩
theorem d12_1 : Dc jdk_68_method_2_code 1 (.invokespecial 3) 3 4 := ⟨by decide +kernel, rfl⟩
theorem d12_4 : Dc jdk_68_method_2_code 4 (.getstatic 18) 3 7 := ⟨by decide +kernel, rfl⟩
theorem d12_7 : Dj jdk_68_method_2_code 7 (.ifCond .eq) 10 25 := ⟨18, by decide +kernel, rfl, by decide, by decide⟩
theorem d12_10 : Dc jdk_68_method_2_code 10 (.aload_n 0) 1 11 := ⟨by decide +kernel, rfl⟩
theorem d12_11 : Dc jdk_68_method_2_code 11 (.iload_n 1) 1 12 := ⟨by decide +kernel, rfl⟩
theorem d12_12 : Dc jdk_68_method_2_code 12 (.newarray .byte) 2 14 := ⟨by decide +kernel, rfl⟩
theorem d12_14 : Dc jdk_68_method_2_code 14 (.putfield 15) 3 17 := ⟨by decide +kernel, rfl⟩
theorem d12_17 : Dc jdk_68_method_2_code 17 (.aload_n 0) 1 18 := ⟨by decide +kernel, rfl⟩
theorem d12_18 : Dc jdk_68_method_2_code 18 (.iconst 0) 1 19 := ⟨by decide +kernel, rfl⟩
theorem d12_19 : Dc jdk_68_method_2_code 19 (.putfield 22) 3 22 := ⟨by decide +kernel, rfl⟩
theorem d12_22 : Dj jdk_68_method_2_code 22 .goto 25 38 := ⟨16, by decide +kernel, rfl, by decide, by decide⟩
theorem d12_38 : Dc jdk_68_method_2_code 38 .return_ 1 39 := ⟨by decide +kernel, rfl⟩
theorem d13_0 : Dc jdk_67_method_7_code 0 (.aload_n 0) 1 1 := ⟨by decide +kernel, rfl⟩
theorem d13_1 : Dc jdk_67_method_7_code 1 (.aload_n 1) 1 2 := ⟨by decide +kernel, rfl⟩
theorem d13_2 : Dc jdk_67_method_7_code 2 (.invokespecial 29) 3 5 := ⟨by decide +kernel, rfl⟩
theorem d13_5 : Dc jdk_67_method_7_code 5 .pop 1 6 := ⟨by decide +kernel, rfl⟩
theorem d13_6 : Dc jdk_67_method_7_code 6 (.aload_n 0) 1 7 := ⟨by decide +kernel, rfl⟩
theorem d13_7 : Dc jdk_67_method_7_code 7 .areturn 1 8 := ⟨by decide +kernel, rfl⟩
theorem d14_0 : Dc jdk_68_method_22_code 0 (.aload_n 1) 1 1 := ⟨by decide +kernel, rfl⟩
theorem d14_1 : Dj jdk_68_method_22_code 1 .ifnonnull 4 9 := ⟨8, by decide +kernel, rfl, by decide, by decide⟩
theorem d14_9 : Dc jdk_68_method_22_code 9 (.aload_n 1) 1 10 := ⟨by decide +kernel, rfl⟩
theorem d14_10 : Dc jdk_68_method_22_code 10 (.invokevirtual 32) 3 13 := ⟨by decide +kernel, rfl⟩
theorem d14_13 : Dc jdk_68_method_22_code 13 (.istore_n 2) 1 14 := ⟨by decide +kernel, rfl⟩
theorem d14_14 : Dc jdk_68_method_22_code 14 (.aload_n 0) 1 15 := ⟨by decide +kernel, rfl⟩
theorem d14_15 : Dc jdk_68_method_22_code 15 (.aload_n 0) 1 16 := ⟨by decide +kernel, rfl⟩
theorem d14_16 : Dc jdk_68_method_22_code 16 (.getfield 79) 3 19 := ⟨by decide +kernel, rfl⟩
theorem d14_19 : Dc jdk_68_method_22_code 19 (.iload_n 2) 1 20 := ⟨by decide +kernel, rfl⟩
theorem d14_20 : Dc jdk_68_method_22_code 20 .iadd 1 21 := ⟨by decide +kernel, rfl⟩
theorem d14_21 : Dc jdk_68_method_22_code 21 (.invokevirtual 100) 3 24 := ⟨by decide +kernel, rfl⟩
theorem d14_24 : Dc jdk_68_method_22_code 24 (.aload_n 0) 1 25 := ⟨by decide +kernel, rfl⟩
theorem d14_25 : Dc jdk_68_method_22_code 25 (.aload_n 0) 1 26 := ⟨by decide +kernel, rfl⟩
theorem d14_26 : Dc jdk_68_method_22_code 26 (.getfield 79) 3 29 := ⟨by decide +kernel, rfl⟩
theorem d14_29 : Dc jdk_68_method_22_code 29 (.aload_n 1) 1 30 := ⟨by decide +kernel, rfl⟩
theorem d14_30 : Dc jdk_68_method_22_code 30 (.invokevirtual 208) 3 33 := ⟨by decide +kernel, rfl⟩
theorem d14_33 : Dc jdk_68_method_22_code 33 (.aload_n 0) 1 34 := ⟨by decide +kernel, rfl⟩
theorem d14_34 : Dc jdk_68_method_22_code 34 .dup 1 35 := ⟨by decide +kernel, rfl⟩
theorem d14_35 : Dc jdk_68_method_22_code 35 (.getfield 79) 3 38 := ⟨by decide +kernel, rfl⟩
theorem d14_38 : Dc jdk_68_method_22_code 38 (.iload_n 2) 1 39 := ⟨by decide +kernel, rfl⟩
theorem d14_39 : Dc jdk_68_method_22_code 39 .iadd 1 40 := ⟨by decide +kernel, rfl⟩
theorem d14_40 : Dc jdk_68_method_22_code 40 (.putfield 79) 3 43 := ⟨by decide +kernel, rfl⟩
theorem d14_43 : Dc jdk_68_method_22_code 43 (.aload_n 0) 1 44 := ⟨by decide +kernel, rfl⟩
theorem d14_44 : Dc jdk_68_method_22_code 44 .areturn 1 45 := ⟨by decide +kernel, rfl⟩
theorem d15_0 : Dc jdk_42_method_54_code 0 (.aload_n 0) 1 1 := ⟨by decide +kernel, rfl⟩
theorem d15_1 : Dc jdk_42_method_54_code 1 (.getfield 9) 3 4 := ⟨by decide +kernel, rfl⟩
theorem d15_4 : Dc jdk_42_method_54_code 4 .arraylength 1 5 := ⟨by decide +kernel, rfl⟩
theorem d15_5 : Dc jdk_42_method_54_code 5 (.aload_n 0) 1 6 := ⟨by decide +kernel, rfl⟩
theorem d15_6 : Dc jdk_42_method_54_code 6 (.invokevirtual 335) 3 9 := ⟨by decide +kernel, rfl⟩
theorem d15_9 : Dc jdk_42_method_54_code 9 .ishr 1 10 := ⟨by decide +kernel, rfl⟩
theorem d15_10 : Dc jdk_42_method_54_code 10 .ireturn 1 11 := ⟨by decide +kernel, rfl⟩
theorem d16_0 : Dc jdk_42_method_152_code 0 (.getstatic 38) 3 3 := ⟨by decide +kernel, rfl⟩
theorem d16_3 : Dj jdk_42_method_152_code 3 (.ifCond .eq) 6 13 := ⟨10, by decide +kernel, rfl, by decide, by decide⟩
theorem d16_6 : Dc jdk_42_method_152_code 6 (.aload_n 0) 1 7 := ⟨by decide +kernel, rfl⟩
theorem d16_7 : Dc jdk_42_method_152_code 7 (.getfield 15) 3 10 := ⟨by decide +kernel, rfl⟩
theorem d16_10 : Dj jdk_42_method_152_code 10 .goto 13 14 := ⟨4, by decide +kernel, rfl, by decide, by decide⟩
theorem d16_14 : Dc jdk_42_method_152_code 14 .ireturn 1 15 := ⟨by decide +kernel, rfl⟩
theorem d17_0 : Dc jdk_68_method_9_code 0 (.aload_n 0) 1 1 := ⟨by decide +kernel, rfl⟩
theorem d17_1 : Dc jdk_68_method_9_code 1 (.getfield 15) 3 4 := ⟨by decide +kernel, rfl⟩
theorem d17_4 : Dc jdk_68_method_9_code 4 .arraylength 1 5 := ⟨by decide +kernel, rfl⟩
theorem d17_5 : Dc jdk_68_method_9_code 5 (.aload_n 0) 1 6 := ⟨by decide +kernel, rfl⟩
theorem d17_6 : Dc jdk_68_method_9_code 6 (.getfield 22) 3 9 := ⟨by decide +kernel, rfl⟩
theorem d17_9 : Dc jdk_68_method_9_code 9 .ishr 1 10 := ⟨by decide +kernel, rfl⟩
theorem d17_10 : Dc jdk_68_method_9_code 10 (.istore_n 2) 1 11 := ⟨by decide +kernel, rfl⟩
theorem d17_11 : Dc jdk_68_method_9_code 11 (.iload_n 1) 1 12 := ⟨by decide +kernel, rfl⟩
theorem d17_12 : Dc jdk_68_method_9_code 12 (.iload_n 2) 1 13 := ⟨by decide +kernel, rfl⟩
theorem d17_13 : Dc jdk_68_method_9_code 13 .isub 1 14 := ⟨by decide +kernel, rfl⟩
theorem d17_14 : Dj jdk_68_method_9_code 14 (.ifCond .le) 17 38 := ⟨24, by decide +kernel, rfl, by decide, by decide⟩
theorem d17_38 : Dc jdk_68_method_9_code 38 .return_ 1 39 := ⟨by decide +kernel, rfl⟩
theorem d18_0 : Dc jdk_68_method_73_code 0 (.aload_n 0) 1 1 := ⟨by decide +kernel, rfl⟩
theorem d18_1 : Dc jdk_68_method_73_code 1 (.aload_n 2) 1 2 := ⟨by decide +kernel, rfl⟩
theorem d18_2 : Dc jdk_68_method_73_code 2 (.invokevirtual 397) 3 5 := ⟨by decide +kernel, rfl⟩
theorem d18_5 : Dc jdk_68_method_73_code 5 (.aload_n 2) 1 6 := ⟨by decide +kernel, rfl⟩
theorem d18_6 : Dc jdk_68_method_73_code 6 (.aload_n 0) 1 7 := ⟨by decide +kernel, rfl⟩
theorem d18_7 : Dc jdk_68_method_73_code 7 (.getfield 15) 3 10 := ⟨by decide +kernel, rfl⟩
theorem d18_10 : Dc jdk_68_method_73_code 10 (.iload_n 1) 1 11 := ⟨by decide +kernel, rfl⟩
theorem d18_11 : Dc jdk_68_method_73_code 11 (.aload_n 0) 1 12 := ⟨by decide +kernel, rfl⟩
theorem d18_12 : Dc jdk_68_method_73_code 12 (.getfield 22) 3 15 := ⟨by decide +kernel, rfl⟩
theorem d18_15 : Dc jdk_68_method_73_code 15 (.invokevirtual 399) 3 18 := ⟨by decide +kernel, rfl⟩
theorem d18_18 : Dc jdk_68_method_73_code 18 .return_ 1 19 := ⟨by decide +kernel, rfl⟩
theorem d19_0 : Dc jdk_68_method_71_code 0 (.getstatic 18) 3 3 := ⟨by decide +kernel, rfl⟩
theorem d19_3 : Dj jdk_68_method_71_code 3 (.ifCond .eq) 6 21 := ⟨18, by decide +kernel, rfl, by decide, by decide⟩
theorem d19_6 : Dc jdk_68_method_71_code 6 (.aload_n 0) 1 7 := ⟨by decide +kernel, rfl⟩
theorem d19_7 : Dc jdk_68_method_71_code 7 (.getfield 22) 3 10 := ⟨by decide +kernel, rfl⟩
theorem d19_10 : Dc jdk_68_method_71_code 10 (.aload_n 1) 1 11 := ⟨by decide +kernel, rfl⟩
theorem d19_11 : Dc jdk_68_method_71_code 11 (.invokevirtual 40) 3 14 := ⟨by decide +kernel, rfl⟩
theorem d19_14 : Dj jdk_68_method_71_code 14 (.if_icmp .eq) 17 21 := ⟨7, by decide +kernel, rfl, by decide, by decide⟩
theorem d19_21 : Dc jdk_68_method_71_code 21 .return_ 1 22 := ⟨by decide +kernel, rfl⟩
theorem d20_0 : Dc jdk_42_method_147_code 0 (.aload_n 0) 1 1 := ⟨by decide +kernel, rfl⟩
theorem d20_1 : Dc jdk_42_method_147_code 1 (.invokevirtual 335) 3 4 := ⟨by decide +kernel, rfl⟩
theorem d20_4 : Dc jdk_42_method_147_code 4 (.iload_n 3) 1 5 := ⟨by decide +kernel, rfl⟩
theorem d20_5 : Dj jdk_42_method_147_code 5 (.if_icmp .ne) 8 28 := ⟨23, by decide +kernel, rfl, by decide, by decide⟩
theorem d20_8 : Dc jdk_42_method_147_code 8 (.aload_n 0) 1 9 := ⟨by decide +kernel, rfl⟩
theorem d20_9 : Dc jdk_42_method_147_code 9 (.getfield 9) 3 12 := ⟨by decide +kernel, rfl⟩
theorem d20_12 : Dc jdk_42_method_147_code 12 (.iconst 0) 1 13 := ⟨by decide +kernel, rfl⟩
theorem d20_13 : Dc jdk_42_method_147_code 13 (.aload_n 1) 1 14 := ⟨by decide +kernel, rfl⟩
theorem d20_14 : Dc jdk_42_method_147_code 14 (.iload_n 2) 1 15 := ⟨by decide +kernel, rfl⟩
theorem d20_15 : Dc jdk_42_method_147_code 15 (.iload_n 3) 1 16 := ⟨by decide +kernel, rfl⟩
theorem d20_16 : Dc jdk_42_method_147_code 16 .ishl 1 17 := ⟨by decide +kernel, rfl⟩
theorem d20_17 : Dc jdk_42_method_147_code 17 (.aload_n 0) 1 18 := ⟨by decide +kernel, rfl⟩
theorem d20_18 : Dc jdk_42_method_147_code 18 (.getfield 9) 3 21 := ⟨by decide +kernel, rfl⟩
theorem d20_21 : Dc jdk_42_method_147_code 21 .arraylength 1 22 := ⟨by decide +kernel, rfl⟩
theorem d20_22 : Dc jdk_42_method_147_code 22 (.invokestatic 212) 3 25 := ⟨by decide +kernel, rfl⟩
theorem d20_25 : Dj jdk_42_method_147_code 25 .goto 28 43 := ⟨18, by decide +kernel, rfl, by decide, by decide⟩
theorem d20_43 : Dc jdk_42_method_147_code 43 .return_ 1 44 := ⟨by decide +kernel, rfl⟩
theorem d21_0 : Dc jdk_67_method_42_code 0 (.new 18) 3 3 := ⟨by decide +kernel, rfl⟩
theorem d21_3 : Dc jdk_67_method_42_code 3 .dup 1 4 := ⟨by decide +kernel, rfl⟩
theorem d21_4 : Dc jdk_67_method_42_code 4 (.aload_n 0) 1 5 := ⟨by decide +kernel, rfl⟩
theorem d21_5 : Dc jdk_67_method_42_code 5 (.invokespecial 137) 3 8 := ⟨by decide +kernel, rfl⟩
theorem d21_8 : Dc jdk_67_method_42_code 8 .areturn 1 9 := ⟨by decide +kernel, rfl⟩
theorem d22_0 : Dc jdk_42_method_53_code 0 (.aload_n 0) 1 1 := ⟨by decide +kernel, rfl⟩
theorem d22_1 : Dc jdk_42_method_53_code 1 (.aload_n 1) 1 2 := ⟨by decide +kernel, rfl⟩
theorem d22_2 : Dc jdk_42_method_53_code 2 .aconst_null 1 3 := ⟨by decide +kernel, rfl⟩
theorem d22_3 : Dc jdk_42_method_53_code 3 (.invokespecial 489) 3 6 := ⟨by decide +kernel, rfl⟩
theorem d22_6 : Dc jdk_42_method_53_code 6 .return_ 1 7 := ⟨by decide +kernel, rfl⟩
theorem d23_0 : Dc jdk_42_method_150_code 0 (.aload_n 0) 1 1 := ⟨by decide +kernel, rfl⟩
theorem d23_1 : Dc jdk_42_method_150_code 1 (.invokespecial 1) 3 4 := ⟨by decide +kernel, rfl⟩
theorem d23_4 : Dc jdk_42_method_150_code 4 (.aload_n 1) 1 5 := ⟨by decide +kernel, rfl⟩
theorem d23_5 : Dc jdk_42_method_150_code 5 (.invokevirtual 552) 3 8 := ⟨by decide +kernel, rfl⟩
theorem d23_8 : Dc jdk_42_method_150_code 8 (.astore_n 3) 1 9 := ⟨by decide +kernel, rfl⟩
theorem d23_9 : Dc jdk_42_method_150_code 9 (.aload_n 1) 1 10 := ⟨by decide +kernel, rfl⟩
theorem d23_10 : Dc jdk_42_method_150_code 10 (.invokevirtual 549) 3 13 := ⟨by decide +kernel, rfl⟩
theorem d23_13 : Dc jdk_42_method_150_code 13 (.istore 4) 2 15 := ⟨by decide +kernel, rfl⟩
theorem d23_15 : Dc jdk_42_method_150_code 15 (.aload_n 1) 1 16 := ⟨by decide +kernel, rfl⟩
theorem d23_16 : Dc jdk_42_method_150_code 16 (.invokevirtual 1047) 3 19 := ⟨by decide +kernel, rfl⟩
theorem d23_19 : Dj jdk_42_method_150_code 19 (.ifCond .eq) 22 41 := ⟨22, by decide +kernel, rfl, by decide, by decide⟩
theorem d23_22 : Dc jdk_42_method_150_code 22 (.aload_n 0) 1 23 := ⟨by decide +kernel, rfl⟩
theorem d23_23 : Dc jdk_42_method_150_code 23 (.iconst 0) 1 24 := ⟨by decide +kernel, rfl⟩
theorem d23_24 : Dc jdk_42_method_150_code 24 (.putfield 15) 3 27 := ⟨by decide +kernel, rfl⟩
theorem d23_27 : Dc jdk_42_method_150_code 27 (.aload_n 0) 1 28 := ⟨by decide +kernel, rfl⟩
theorem d23_28 : Dc jdk_42_method_150_code 28 (.aload_n 3) 1 29 := ⟨by decide +kernel, rfl⟩
theorem d23_29 : Dc jdk_42_method_150_code 29 (.iconst 0) 1 30 := ⟨by decide +kernel, rfl⟩
theorem d23_30 : Dc jdk_42_method_150_code 30 (.iload 4) 2 32 := ⟨by decide +kernel, rfl⟩
theorem d23_32 : Dc jdk_42_method_150_code 32 (.invokestatic 54) 3 35 := ⟨by decide +kernel, rfl⟩
theorem d23_35 : Dc jdk_42_method_150_code 35 (.putfield 9) 3 38 := ⟨by decide +kernel, rfl⟩
theorem d23_38 : Dj jdk_42_method_150_code 38 .goto 41 97 := ⟨59, by decide +kernel, rfl, by decide, by decide⟩
theorem d23_97 : Dc jdk_42_method_150_code 97 .return_ 1 98 := ⟨by decide +kernel, rfl⟩
theorem d24_0 : Dc jdk_68_method_64_code 0 (.aload_n 0) 1 1 := ⟨by decide +kernel, rfl⟩
theorem d24_1 : Dc jdk_68_method_64_code 1 (.getfield 15) 3 4 := ⟨by decide +kernel, rfl⟩
theorem d24_4 : Dc jdk_68_method_64_code 4 .areturn 1 5 := ⟨by decide +kernel, rfl⟩
theorem d25_0 : Dc jdk_67_method_93_code 0 (.aload_n 0) 1 1 := ⟨by decide +kernel, rfl⟩
theorem d25_1 : Dc jdk_67_method_93_code 1 (.invokespecial 343) 3 4 := ⟨by decide +kernel, rfl⟩
theorem d25_4 : Dc jdk_67_method_93_code 4 .ireturn 1 5 := ⟨by decide +kernel, rfl⟩
theorem d26_0 : Dc jdk_68_method_6_code 0 (.aload_n 0) 1 1 := ⟨by decide +kernel, rfl⟩
theorem d26_1 : Dc jdk_68_method_6_code 1 (.getfield 79) 3 4 := ⟨by decide +kernel, rfl⟩
theorem d26_4 : Dc jdk_68_method_6_code 4 .ireturn 1 5 := ⟨by decide +kernel, rfl⟩
theorem d27_0 : Dc jdk_68_method_68_code 0 (.getstatic 18) 3 3 := ⟨by decide +kernel, rfl⟩
theorem d27_3 : Dj jdk_68_method_68_code 3 (.ifCond .eq) 6 17 := ⟨14, by decide +kernel, rfl, by decide, by decide⟩
theorem d27_6 : Dc jdk_68_method_68_code 6 (.aload_n 0) 1 7 := ⟨by decide +kernel, rfl⟩
theorem d27_7 : Dc jdk_68_method_68_code 7 (.getfield 22) 3 10 := ⟨by decide +kernel, rfl⟩
theorem d27_10 : Dj jdk_68_method_68_code 10 (.ifCond .ne) 13 17 := ⟨7, by decide +kernel, rfl, by decide, by decide⟩
theorem d27_13 : Dc jdk_68_method_68_code 13 (.iconst 1) 1 14 := ⟨by decide +kernel, rfl⟩
theorem d27_14 : Dj jdk_68_method_68_code 14 .goto 17 18 := ⟨4, by decide +kernel, rfl, by decide, by decide⟩
theorem d27_17 : Dc jdk_68_method_68_code 17 (.iconst 0) 1 18 := ⟨by decide +kernel, rfl⟩
theorem d27_18 : Dc jdk_68_method_68_code 18 .ireturn 1 19 := ⟨by decide +kernel, rfl⟩
theorem d28_0 : Dc jdk_65_method_132_code 0 (.iload_n 1) 1 1 := ⟨by decide +kernel, rfl⟩
theorem d28_1 : Dj jdk_65_method_132_code 1 (.ifCond .ne) 4 10 := ⟨9, by decide +kernel, rfl, by decide, by decide⟩
theorem d28_4 : Dc jdk_65_method_132_code 4 (.iload_n 2) 1 5 := ⟨by decide +kernel, rfl⟩
theorem d28_5 : Dc jdk_65_method_132_code 5 (.aload_n 0) 1 6 := ⟨by decide +kernel, rfl⟩
theorem d28_6 : Dc jdk_65_method_132_code 6 .arraylength 1 7 := ⟨by decide +kernel, rfl⟩
theorem d28_7 : Dj jdk_65_method_132_code 7 (.if_icmp .eq) 10 17 := ⟨10, by decide +kernel, rfl, by decide, by decide⟩
theorem d28_10 : Dc jdk_65_method_132_code 10 (.aload_n 0) 1 11 := ⟨by decide +kernel, rfl⟩
theorem d28_11 : Dc jdk_65_method_132_code 11 (.iload_n 1) 1 12 := ⟨by decide +kernel, rfl⟩
theorem d28_12 : Dc jdk_65_method_132_code 12 (.iload_n 2) 1 13 := ⟨by decide +kernel, rfl⟩
theorem d28_13 : Dc jdk_65_method_132_code 13 (.invokestatic 339) 3 16 := ⟨by decide +kernel, rfl⟩
theorem d28_16 : Dc jdk_65_method_132_code 16 .areturn 1 17 := ⟨by decide +kernel, rfl⟩
theorem d29_0 : Dc jdk_65_method_133_code 0 (.iload_n 1) 1 1 := ⟨by decide +kernel, rfl⟩
theorem d29_1 : Dc jdk_65_method_133_code 1 (.iload_n 2) 1 2 := ⟨by decide +kernel, rfl⟩
theorem d29_2 : Dc jdk_65_method_133_code 2 (.invokestatic 343) 3 5 := ⟨by decide +kernel, rfl⟩
theorem d29_5 : Dc jdk_65_method_133_code 5 (.iload_n 2) 1 6 := ⟨by decide +kernel, rfl⟩
theorem d29_6 : Dc jdk_65_method_133_code 6 (.iload_n 1) 1 7 := ⟨by decide +kernel, rfl⟩
theorem d29_7 : Dc jdk_65_method_133_code 7 .isub 1 8 := ⟨by decide +kernel, rfl⟩
theorem d29_8 : Dc jdk_65_method_133_code 8 (.istore_n 3) 1 9 := ⟨by decide +kernel, rfl⟩
theorem d29_9 : Dc jdk_65_method_133_code 9 (.iload_n 3) 1 10 := ⟨by decide +kernel, rfl⟩
theorem d29_10 : Dc jdk_65_method_133_code 10 (.newarray .byte) 2 12 := ⟨by decide +kernel, rfl⟩
theorem d29_12 : Dc jdk_65_method_133_code 12 (.astore 4) 2 14 := ⟨by decide +kernel, rfl⟩
theorem d29_14 : Dc jdk_65_method_133_code 14 (.aload_n 0) 1 15 := ⟨by decide +kernel, rfl⟩
theorem d29_15 : Dc jdk_65_method_133_code 15 (.iload_n 1) 1 16 := ⟨by decide +kernel, rfl⟩
theorem d29_16 : Dc jdk_65_method_133_code 16 (.aload 4) 2 18 := ⟨by decide +kernel, rfl⟩
theorem d29_18 : Dc jdk_65_method_133_code 18 (.iconst 0) 1 19 := ⟨by decide +kernel, rfl⟩
theorem d29_19 : Dc jdk_65_method_133_code 19 (.aload_n 0) 1 20 := ⟨by decide +kernel, rfl⟩
theorem d29_20 : Dc jdk_65_method_133_code 20 .arraylength 1 21 := ⟨by decide +kernel, rfl⟩
theorem d29_21 : Dc jdk_65_method_133_code 21 (.iload_n 1) 1 22 := ⟨by decide +kernel, rfl⟩
theorem d29_22 : Dc jdk_65_method_133_code 22 .isub 1 23 := ⟨by decide +kernel, rfl⟩
theorem d29_23 : Dc jdk_65_method_133_code 23 (.iload_n 3) 1 24 := ⟨by decide +kernel, rfl⟩
theorem d29_24 : Dc jdk_65_method_133_code 24 (.invokestatic 304) 3 27 := ⟨by decide +kernel, rfl⟩
theorem d29_27 : Dc jdk_65_method_133_code 27 (.invokestatic 150) 3 30 := ⟨by decide +kernel, rfl⟩
theorem d29_30 : Dc jdk_65_method_133_code 30 (.aload 4) 2 32 := ⟨by decide +kernel, rfl⟩
theorem d29_32 : Dc jdk_65_method_133_code 32 .areturn 1 33 := ⟨by decide +kernel, rfl⟩
theorem d30_0 : Dc jdk_65_method_131_code 0 (.iload_n 1) 1 1 := ⟨by decide +kernel, rfl⟩
theorem d30_1 : Dc jdk_65_method_131_code 1 (.iload_n 0) 1 2 := ⟨by decide +kernel, rfl⟩
theorem d30_2 : Dj jdk_65_method_131_code 2 (.if_icmp .ge) 5 37 := ⟨35, by decide +kernel, rfl, by decide, by decide⟩
theorem d30_37 : Dc jdk_65_method_131_code 37 .return_ 1 38 := ⟨by decide +kernel, rfl⟩
theorem d31_0 : Dc jdk_29_method_69_code 0 (.iload_n 0) 1 1 := ⟨by decide +kernel, rfl⟩
theorem d31_1 : Dc jdk_29_method_69_code 1 (.iload_n 1) 1 2 := ⟨by decide +kernel, rfl⟩
theorem d31_2 : Dj jdk_29_method_69_code 2 (.if_icmp .gt) 5 9 := ⟨7, by decide +kernel, rfl, by decide, by decide⟩
theorem d31_5 : Dc jdk_29_method_69_code 5 (.iload_n 0) 1 6 := ⟨by decide +kernel, rfl⟩
theorem d31_6 : Dj jdk_29_method_69_code 6 .goto 9 10 := ⟨4, by decide +kernel, rfl, by decide, by decide⟩
theorem d31_9 : Dc jdk_29_method_69_code 9 (.iload_n 1) 1 10 := ⟨by decide +kernel, rfl⟩
theorem d31_10 : Dc jdk_29_method_69_code 10 .ireturn 1 11 := ⟨by decide +kernel, rfl⟩
theorem d32_0 : Dc jdk_42_method_76_code 0 (.aload_n 0) 1 1 := ⟨by decide +kernel, rfl⟩
theorem d32_1 : Dc jdk_42_method_76_code 1 (.aload_n 1) 1 2 := ⟨by decide +kernel, rfl⟩
theorem d32_2 : Dc jdk_42_method_76_code 2 (.iconst 0) 1 3 := ⟨by decide +kernel, rfl⟩
theorem d32_3 : Dc jdk_42_method_76_code 3 (.invokevirtual 624) 3 6 := ⟨by decide +kernel, rfl⟩
theorem d32_6 : Dc jdk_42_method_76_code 6 .ireturn 1 7 := ⟨by decide +kernel, rfl⟩
theorem d33_0 : Dc jdk_42_method_75_code 0 (.iload_n 2) 1 1 := ⟨by decide +kernel, rfl⟩
theorem d33_1 : Dj jdk_42_method_75_code 1 (.ifCond .lt) 4 17 := ⟨16, by decide +kernel, rfl, by decide, by decide⟩
theorem d33_4 : Dc jdk_42_method_75_code 4 (.iload_n 2) 1 5 := ⟨by decide +kernel, rfl⟩
theorem d33_5 : Dc jdk_42_method_75_code 5 (.aload_n 0) 1 6 := ⟨by decide +kernel, rfl⟩
theorem d33_6 : Dc jdk_42_method_75_code 6 (.invokevirtual 505) 3 9 := ⟨by decide +kernel, rfl⟩
theorem d33_9 : Dc jdk_42_method_75_code 9 (.aload_n 1) 1 10 := ⟨by decide +kernel, rfl⟩
theorem d33_10 : Dc jdk_42_method_75_code 10 (.invokevirtual 505) 3 13 := ⟨by decide +kernel, rfl⟩
theorem d33_13 : Dc jdk_42_method_75_code 13 .isub 1 14 := ⟨by decide +kernel, rfl⟩
theorem d33_14 : Dj jdk_42_method_75_code 14 (.if_icmp .le) 17 19 := ⟨5, by decide +kernel, rfl, by decide, by decide⟩
theorem d33_17 : Dc jdk_42_method_75_code 17 (.iconst 0) 1 18 := ⟨by decide +kernel, rfl⟩
theorem d33_18 : Dc jdk_42_method_75_code 18 .ireturn 1 19 := ⟨by decide +kernel, rfl⟩
theorem d33_19 : Dc jdk_42_method_75_code 19 (.aload_n 0) 1 20 := ⟨by decide +kernel, rfl⟩
theorem d33_20 : Dc jdk_42_method_75_code 20 (.getfield 9) 3 23 := ⟨by decide +kernel, rfl⟩
theorem d33_23 : Dc jdk_42_method_75_code 23 (.astore_n 3) 1 24 := ⟨by decide +kernel, rfl⟩
theorem d33_24 : Dc jdk_42_method_75_code 24 (.aload_n 1) 1 25 := ⟨by decide +kernel, rfl⟩
theorem d33_25 : Dc jdk_42_method_75_code 25 (.getfield 9) 3 28 := ⟨by decide +kernel, rfl⟩
theorem d33_28 : Dc jdk_42_method_75_code 28 (.astore 4) 2 30 := ⟨by decide +kernel, rfl⟩
theorem d33_30 : Dc jdk_42_method_75_code 30 (.iconst 0) 1 31 := ⟨by decide +kernel, rfl⟩
theorem d33_31 : Dc jdk_42_method_75_code 31 (.istore 5) 2 33 := ⟨by decide +kernel, rfl⟩
theorem d33_33 : Dc jdk_42_method_75_code 33 (.aload 4) 2 35 := ⟨by decide +kernel, rfl⟩
theorem d33_35 : Dc jdk_42_method_75_code 35 .arraylength 1 36 := ⟨by decide +kernel, rfl⟩
theorem d33_36 : Dc jdk_42_method_75_code 36 (.istore 6) 2 38 := ⟨by decide +kernel, rfl⟩
theorem d33_38 : Dc jdk_42_method_75_code 38 (.aload_n 0) 1 39 := ⟨by decide +kernel, rfl⟩
theorem d33_39 : Dc jdk_42_method_75_code 39 (.invokevirtual 335) 3 42 := ⟨by decide +kernel, rfl⟩
theorem d33_42 : Dc jdk_42_method_75_code 42 (.istore 7) 2 44 := ⟨by decide +kernel, rfl⟩
theorem d33_44 : Dc jdk_42_method_75_code 44 (.iload 7) 2 46 := ⟨by decide +kernel, rfl⟩
theorem d33_46 : Dc jdk_42_method_75_code 46 (.aload_n 1) 1 47 := ⟨by decide +kernel, rfl⟩
theorem d33_47 : Dc jdk_42_method_75_code 47 (.invokevirtual 335) 3 50 := ⟨by decide +kernel, rfl⟩
theorem d33_50 : Dj jdk_42_method_75_code 50 (.if_icmp .ne) 53 82 := ⟨32, by decide +kernel, rfl, by decide, by decide⟩
theorem d33_53 : Dc jdk_42_method_75_code 53 (.iload 7) 2 55 := ⟨by decide +kernel, rfl⟩
theorem d33_55 : Dc jdk_42_method_75_code 55 (.iconst 1) 1 56 := ⟨by decide +kernel, rfl⟩
theorem d33_56 : Dj jdk_42_method_75_code 56 (.if_icmp .ne) 59 63 := ⟨7, by decide +kernel, rfl, by decide, by decide⟩
theorem d33_63 : Dc jdk_42_method_75_code 63 (.aload_n 3) 1 64 := ⟨by decide +kernel, rfl⟩
theorem d33_64 : Dc jdk_42_method_75_code 64 (.iload_n 2) 1 65 := ⟨by decide +kernel, rfl⟩
theorem d33_65 : Dc jdk_42_method_75_code 65 (.aload 4) 2 67 := ⟨by decide +kernel, rfl⟩
theorem d33_67 : Dc jdk_42_method_75_code 67 (.iconst 0) 1 68 := ⟨by decide +kernel, rfl⟩
theorem d33_68 : Dc jdk_42_method_75_code 68 (.iload 6) 2 70 := ⟨by decide +kernel, rfl⟩
theorem d33_70 : Dc jdk_42_method_75_code 70 (.invokestatic 607) 3 73 := ⟨by decide +kernel, rfl⟩
theorem d33_73 : Dj jdk_42_method_75_code 73 (.ifCond .ge) 76 80 := ⟨7, by decide +kernel, rfl, by decide, by decide⟩
theorem d33_76 : Dc jdk_42_method_75_code 76 (.iconst 1) 1 77 := ⟨by decide +kernel, rfl⟩
theorem d33_77 : Dj jdk_42_method_75_code 77 .goto 80 81 := ⟨4, by decide +kernel, rfl, by decide, by decide⟩
theorem d33_80 : Dc jdk_42_method_75_code 80 (.iconst 0) 1 81 := ⟨by decide +kernel, rfl⟩
theorem d33_81 : Dc jdk_42_method_75_code 81 .ireturn 1 82 := ⟨by decide +kernel, rfl⟩
theorem d34_0 : Dc jdk_48_method_14_code 0 (.iconst 0) 1 1 := ⟨by decide +kernel, rfl⟩
theorem d34_1 : Dc jdk_48_method_14_code 1 (.istore 5) 2 3 := ⟨by decide +kernel, rfl⟩
theorem d34_3 : Dc jdk_48_method_14_code 3 (.iload 4) 2 5 := ⟨by decide +kernel, rfl⟩
theorem d34_5 : Dc jdk_48_method_14_code 5 (.bipush 7) 2 7 := ⟨by decide +kernel, rfl⟩
theorem d34_7 : Dj jdk_48_method_14_code 7 (.if_icmp .le) 10 70 := ⟨63, by decide +kernel, rfl, by decide, by decide⟩
theorem d34_70 : Dc jdk_48_method_14_code 70 (.iload 5) 2 72 := ⟨by decide +kernel, rfl⟩
theorem d34_72 : Dc jdk_48_method_14_code 72 (.iload 4) 2 74 := ⟨by decide +kernel, rfl⟩
theorem d34_74 : Dj jdk_48_method_14_code 74 (.if_icmp .ge) 77 101 := ⟨27, by decide +kernel, rfl, by decide, by decide⟩
theorem d34_77 : Dc jdk_48_method_14_code 77 (.aload_n 0) 1 78 := ⟨by decide +kernel, rfl⟩
theorem d34_78 : Dc jdk_48_method_14_code 78 (.iload_n 1) 1 79 := ⟨by decide +kernel, rfl⟩
theorem d34_79 : Dc jdk_48_method_14_code 79 (.iload 5) 2 81 := ⟨by decide +kernel, rfl⟩
theorem d34_81 : Dc jdk_48_method_14_code 81 .iadd 1 82 := ⟨by decide +kernel, rfl⟩
theorem d34_82 : Dc jdk_48_method_14_code 82 .baload 1 83 := ⟨by decide +kernel, rfl⟩
theorem d34_83 : Dc jdk_48_method_14_code 83 (.aload_n 2) 1 84 := ⟨by decide +kernel, rfl⟩
theorem d34_84 : Dc jdk_48_method_14_code 84 (.iload_n 3) 1 85 := ⟨by decide +kernel, rfl⟩
theorem d34_85 : Dc jdk_48_method_14_code 85 (.iload 5) 2 87 := ⟨by decide +kernel, rfl⟩
theorem d34_87 : Dc jdk_48_method_14_code 87 .iadd 1 88 := ⟨by decide +kernel, rfl⟩
theorem d34_88 : Dc jdk_48_method_14_code 88 .baload 1 89 := ⟨by decide +kernel, rfl⟩
theorem d34_89 : Dj jdk_48_method_14_code 89 (.if_icmp .eq) 92 95 := ⟨6, by decide +kernel, rfl, by decide, by decide⟩
theorem d34_92 : Dc jdk_48_method_14_code 92 (.iload 5) 2 94 := ⟨by decide +kernel, rfl⟩
theorem d34_94 : Dc jdk_48_method_14_code 94 .ireturn 1 95 := ⟨by decide +kernel, rfl⟩
theorem d34_95 : Dc jdk_48_method_14_code 95 (.iinc 5 1) 3 98 := ⟨by decide +kernel, rfl⟩
theorem d34_98 : Dj jdk_48_method_14_code 98 .goto 101 70 := ⟨(-28), by decide +kernel, rfl, by decide, by decide⟩
theorem d34_101 : Dc jdk_48_method_14_code 101 (.iconst (-1)) 1 102 := ⟨by decide +kernel, rfl⟩
theorem d34_102 : Dc jdk_48_method_14_code 102 .ireturn 1 103 := ⟨by decide +kernel, rfl⟩
theorem pn_0 : plainFor (⟨"java/lang/StringUTF16", "compress", "([CI[BII)I"⟩ : MethodName) = true := by first | (apply plainFor_of_name; simp [plainName, overriddenIn]; done) | decide +kernel
theorem pn_1 : plainFor (⟨"java/lang/StringUTF16", "compress", "([CII)[B"⟩ : MethodName) = true := by first | (apply plainFor_of_name; simp [plainName, overriddenIn]; done) | decide +kernel
theorem pn_2 : plainFor (⟨"java/lang/StringUTF16", "coderFromArrayLen", "([BI)B"⟩ : MethodName) = true := by first | (apply plainFor_of_name; simp [plainName, overriddenIn]; done) | decide +kernel
theorem pn_3 : plainFor (⟨"java/lang/String", "<init>", "([CIILjava/lang/Void;)V"⟩ : MethodName) = true := by first | (apply plainFor_of_name; simp [plainName, overriddenIn]; done) | decide +kernel
theorem pn_4 : plainFor (⟨"java/lang/String", "<init>", "([C)V"⟩ : MethodName) = true := by first | (apply plainFor_of_name; simp [plainName, overriddenIn]; done) | decide +kernel
theorem pn_5 : plainFor (⟨"java/lang/String", "coder", "()B"⟩ : MethodName) = true := by first | (apply plainFor_of_name; simp [plainName, overriddenIn]; done) | decide +kernel
theorem pn_6 : plainFor (⟨"java/lang/String", "length", "()I"⟩ : MethodName) = true := by first | (apply plainFor_of_name; simp [plainName, overriddenIn]; done) | decide +kernel
theorem pn_7 : plainFor (⟨"java/lang/AbstractStringBuilder", "getValue", "()[B"⟩ : MethodName) = true := by first | (apply plainFor_of_name; simp [plainName, overriddenIn]; done) | decide +kernel
theorem pn_8 : plainFor (⟨"java/lang/AbstractStringBuilder", "length", "()I"⟩ : MethodName) = true := by first | (apply plainFor_of_name; simp [plainName, overriddenIn]; done) | decide +kernel
theorem pn_9 : plainFor (⟨"java/lang/StringBuilder", "length", "()I"⟩ : MethodName) = true := by first | (apply plainFor_of_name; simp [plainName, overriddenIn]; done) | decide +kernel
theorem pn_10 : plainFor (⟨"java/lang/AbstractStringBuilder", "isLatin1", "()Z"⟩ : MethodName) = true := by first | (apply plainFor_of_name; simp [plainName, overriddenIn]; done) | decide +kernel
theorem pn_11 : plainFor (⟨"java/lang/AbstractStringBuilder", "<init>", "(I)V"⟩ : MethodName) = true := by first | (apply plainFor_of_name; simp [plainName, overriddenIn]; done) | decide +kernel
theorem pn_12 : plainFor (⟨"java/lang/StringBuilder", "<init>", "()V"⟩ : MethodName) = true := by first | (apply plainFor_of_name; simp [plainName, overriddenIn]; done) | decide +kernel
theorem pn_13 : plainFor (⟨"java/lang/AbstractStringBuilder", "ensureCapacityInternal", "(I)V"⟩ : MethodName) = true := by first | (apply plainFor_of_name; simp [plainName, overriddenIn]; done) | decide +kernel
theorem pn_14 : plainFor (⟨"java/lang/AbstractStringBuilder", "inflateIfNeededFor", "(Ljava/lang/String;)V"⟩ : MethodName) = true := by first | (apply plainFor_of_name; simp [plainName, overriddenIn]; done) | decide +kernel
theorem pn_15 : plainFor (⟨"java/lang/String", "getBytes", "([BIB)V"⟩ : MethodName) = true := by first | (apply plainFor_of_name; simp [plainName, overriddenIn]; done) | decide +kernel
theorem pn_16 : plainFor (⟨"java/lang/AbstractStringBuilder", "putStringAt", "(ILjava/lang/String;)V"⟩ : MethodName) = true := by first | (apply plainFor_of_name; simp [plainName, overriddenIn]; done) | decide +kernel
theorem pn_17 : plainFor (⟨"java/lang/AbstractStringBuilder", "append", "(Ljava/lang/String;)Ljava/lang/AbstractStringBuilder;"⟩ : MethodName) = true := by first | (apply plainFor_of_name; simp [plainName, overriddenIn]; done) | decide +kernel
theorem pn_18 : plainFor (⟨"java/lang/StringBuilder", "append", "(Ljava/lang/String;)Ljava/lang/StringBuilder;"⟩ : MethodName) = true := by first | (apply plainFor_of_name; simp [plainName, overriddenIn]; done) | decide +kernel
theorem pn_19 : plainFor (⟨"java/util/Arrays", "checkLength", "(II)V"⟩ : MethodName) = true := by first | (apply plainFor_of_name; simp [plainName, overriddenIn]; done) | decide +kernel
theorem pn_20 : plainFor (⟨"java/lang/Math", "min", "(II)I"⟩ : MethodName) = true := by first | (apply plainFor_of_name; simp [plainName, overriddenIn]; done) | decide +kernel
theorem pn_21 : plainFor (⟨"java/util/Arrays", "copyOfRangeByte", "([BII)[B"⟩ : MethodName) = true := by first | (apply plainFor_of_name; simp [plainName, overriddenIn]; done) | decide +kernel
theorem pn_22 : plainFor (⟨"java/util/Arrays", "copyOfRange", "([BII)[B"⟩ : MethodName) = true := by first | (apply plainFor_of_name; simp [plainName, overriddenIn]; done) | decide +kernel
theorem pn_23 : plainFor (⟨"java/lang/String", "<init>", "(Ljava/lang/AbstractStringBuilder;Ljava/lang/Void;)V"⟩ : MethodName) = true := by first | (apply plainFor_of_name; simp [plainName, overriddenIn]; done) | decide +kernel
theorem pn_24 : plainFor (⟨"java/lang/String", "<init>", "(Ljava/lang/StringBuilder;)V"⟩ : MethodName) = true := by first | (apply plainFor_of_name; simp [plainName, overriddenIn]; done) | decide +kernel
theorem pn_25 : plainFor (⟨"java/lang/StringBuilder", "toString", "()Ljava/lang/String;"⟩ : MethodName) = true := by first | (apply plainFor_of_name; simp [plainName, overriddenIn]; done) | decide +kernel
theorem pn_26 : plainFor (⟨"com/example/bounded_lock/boundedlock/zookeeper/RequestNode", "prefix", "(Ljava/lang/String;Lcom/example/bounded_lock/boundedlock/Mode;)Ljava/lang/String;"⟩ : MethodName) = true := by first | (apply plainFor_of_name; simp [plainName, overriddenIn]; done) | decide +kernel
theorem pn_27 : plainFor (⟨"jdk/internal/util/ArraysSupport", "mismatch", "([BI[BII)I"⟩ : MethodName) = true := by first | (apply plainFor_of_name; simp [plainName, overriddenIn]; done) | decide +kernel
theorem pn_28 : plainFor (⟨"java/lang/String", "startsWith", "(Ljava/lang/String;I)Z"⟩ : MethodName) = true := by first | (apply plainFor_of_name; simp [plainName, overriddenIn]; done) | decide +kernel
theorem pn_29 : plainFor (⟨"java/lang/String", "startsWith", "(Ljava/lang/String;)Z"⟩ : MethodName) = true := by first | (apply plainFor_of_name; simp [plainName, overriddenIn]; done) | decide +kernel
theorem pn_30 : plainFor (⟨"com/example/bounded_lock/boundedlock/zookeeper/RequestNode", "isMadeBy", "(Ljava/lang/String;Ljava/lang/String;)Z"⟩ : MethodName) = true := by first | (apply plainFor_of_name; simp [plainName, overriddenIn]; done) | decide +kernel
theorem pn_31 : plainFor (⟨"com/example/bounded_lock/boundedlock/zookeeper/RequestNodeIsMadeByPinLaw", "pick", "(I)C"⟩ : MethodName) = true := by first | (apply plainFor_of_name; simp [plainName, overriddenIn]; done) | decide +kernel
theorem pn_32 : plainFor (⟨"com/example/bounded_lock/boundedlock/zookeeper/RequestNodeIsMadeByPinLaw", "str", "([CI)Ljava/lang/String;"⟩ : MethodName) = true := by first | (apply plainFor_of_name; simp [plainName, overriddenIn]; done) | decide +kernel
theorem pn_33 : plainFor (⟨"com/example/bounded_lock/boundedlock/zookeeper/RequestNodeIsMadeByPinLaw", "law", "(IJI)Z"⟩ : MethodName) = true := by first | (apply plainFor_of_name; simp [plainName, overriddenIn]; done) | decide +kernel
theorem pd_0 : parseMethodDescriptor "([CI[BII)I" = some ⟨[(.array .char), .int, (.array .byte), .int, .int], some .int⟩ := by decide +kernel
theorem pd_1 : parseMethodDescriptor "([CII)[B" = some ⟨[(.array .char), .int, .int], some (.array .byte)⟩ := by decide +kernel
theorem pd_2 : parseMethodDescriptor "([BI)B" = some ⟨[(.array .byte), .int], some .byte⟩ := by decide +kernel
theorem pd_3 : parseMethodDescriptor "([CIILjava/lang/Void;)V" = some ⟨[(.array .char), .int, .int, (.object "java/lang/Void")], none⟩ := by decide +kernel
theorem pd_4 : parseMethodDescriptor "()B" = some ⟨[], some .byte⟩ := by decide +kernel
theorem pd_5 : parseMethodDescriptor "()I" = some ⟨[], some .int⟩ := by decide +kernel
theorem pd_6 : parseMethodDescriptor "(I)V" = some ⟨[.int], none⟩ := by decide +kernel
theorem pd_7 : parseMethodDescriptor "(Ljava/lang/String;)V" = some ⟨[(.object "java/lang/String")], none⟩ := by decide +kernel
theorem pd_8 : parseMethodDescriptor "([BIB)V" = some ⟨[(.array .byte), .int, .byte], none⟩ := by decide +kernel
theorem pd_9 : parseMethodDescriptor "(ILjava/lang/String;)V" = some ⟨[.int, (.object "java/lang/String")], none⟩ := by decide +kernel
theorem pd_10 : parseMethodDescriptor "(Ljava/lang/String;)Ljava/lang/AbstractStringBuilder;" = some ⟨[(.object "java/lang/String")], some (.object "java/lang/AbstractStringBuilder")⟩ := by decide +kernel
theorem pd_11 : parseMethodDescriptor "(II)V" = some ⟨[.int, .int], none⟩ := by decide +kernel
theorem pd_12 : parseMethodDescriptor "(II)I" = some ⟨[.int, .int], some .int⟩ := by decide +kernel
theorem pd_13 : parseMethodDescriptor "([BII)[B" = some ⟨[(.array .byte), .int, .int], some (.array .byte)⟩ := by decide +kernel
theorem pd_14 : parseMethodDescriptor "()[B" = some ⟨[], some (.array .byte)⟩ := by decide +kernel
theorem pd_15 : parseMethodDescriptor "()Z" = some ⟨[], some .boolean⟩ := by decide +kernel
theorem pd_16 : parseMethodDescriptor "(Ljava/lang/AbstractStringBuilder;Ljava/lang/Void;)V" = some ⟨[(.object "java/lang/AbstractStringBuilder"), (.object "java/lang/Void")], none⟩ := by decide +kernel
theorem pd_17 : parseMethodDescriptor "(Ljava/lang/StringBuilder;)V" = some ⟨[(.object "java/lang/StringBuilder")], none⟩ := by decide +kernel
theorem pd_18 : parseMethodDescriptor "()V" = some ⟨[], none⟩ := by decide +kernel
theorem pd_19 : parseMethodDescriptor "(Ljava/lang/String;)Ljava/lang/StringBuilder;" = some ⟨[(.object "java/lang/String")], some (.object "java/lang/StringBuilder")⟩ := by decide +kernel
theorem pd_20 : parseMethodDescriptor "()Ljava/lang/String;" = some ⟨[], some (.object "java/lang/String")⟩ := by decide +kernel
theorem pd_21 : parseMethodDescriptor "([BI[BII)I" = some ⟨[(.array .byte), .int, (.array .byte), .int, .int], some .int⟩ := by decide +kernel
theorem pd_22 : parseMethodDescriptor "(Ljava/lang/String;I)Z" = some ⟨[(.object "java/lang/String"), .int], some .boolean⟩ := by decide +kernel
theorem pd_23 : parseMethodDescriptor "(Ljava/lang/String;Lcom/example/bounded_lock/boundedlock/Mode;)Ljava/lang/String;" = some ⟨[(.object "java/lang/String"), (.object "com/example/bounded_lock/boundedlock/Mode")], some (.object "java/lang/String")⟩ := by decide +kernel
theorem pd_24 : parseMethodDescriptor "(Ljava/lang/String;)Z" = some ⟨[(.object "java/lang/String")], some .boolean⟩ := by decide +kernel
theorem pd_25 : parseMethodDescriptor "([C)V" = some ⟨[(.array .char)], none⟩ := by decide +kernel
theorem pd_26 : parseMethodDescriptor "([CI)Ljava/lang/String;" = some ⟨[(.array .char), .int], some (.object "java/lang/String")⟩ := by decide +kernel
theorem pd_27 : parseMethodDescriptor "(Ljava/lang/String;Ljava/lang/String;)Z" = some ⟨[(.object "java/lang/String"), (.object "java/lang/String")], some .boolean⟩ := by decide +kernel
theorem pd_28 : parseMethodDescriptor "(I)C" = some ⟨[.int], some .char⟩ := by decide +kernel
theorem hEL1 {Z : State} {a0 : Array Value} (hw : hwT a0 Z) : EW Z a0 EL1 := EW.cons (hw 174 rfl) (by decide) (EW.cons (hw 117 rfl) (by decide) (EW.cons (hw 37 rfl) (by decide) EW.nil))
/-- Mode's two constants -/
def MS (Z : State) (rd wr : Addr) : Prop := Sta Z Z.heap "com/example/bounded_lock/boundedlock/Mode" "READ" "Lcom/example/bounded_lock/boundedlock/Mode;" (.ref rd) ∧ Sta Z Z.heap "com/example/bounded_lock/boundedlock/Mode" "WRITE" "Lcom/example/bounded_lock/boundedlock/Mode;" (.ref wr) ∧ rd ≠ wr
theorem cCMPL (l : Launch) (Z : State) (a0 : Array Value) (hw : hwT a0 Z) {EL : List (String × Nat)} {nw : Bool} (hEL : EW Z a0 EL) (h0 : Heap) (a b : Addr) (cs : List Int32) (n : Int32) (hn : n.toInt = (cs.length : Int)) (hb : cs.length < 2147483648) (hlat : Lat cs) (A : Al Z h0 a .char (cs.map .int)) (B : Al Z h0 b .byte (List.replicate cs.length (.int 0))) (hab : a ≠ b) :
    Con l Z EL nw (⟨"java/lang/StringUTF16", "compress", "([CI[BII)I"⟩ : MethodName) jdk_52_method_21_code 7 (some .int) [] rm0 #[.ref a, .int 0, .ref b, .int 0, .int n] h0 [b] (fun v h S' => v = some (.int n) ∧ Al Z h b .byte (cs.map bL) ∧ Keep h0 h [b] ∧ S' = []) := by
  refine Con.enter (a0 := a0) pn_0 hEL [.val (.ref a), .val (.int 0), .val (.ref b), .val (.int 0), .val (.int n), .unset, .unset] (fun m => by first | (simp [entryFrame, mkF, argsToLocals, Value.category]; done) | rfl) ?_
  intro K G
  refine G.iconst 0 d7_0 ?_
  refine G.istore5 d7_1 ?_
  have loop : ∀ (rest done : List Int32) (h : Heap) (i : Int32) (x6 : Slot) (_ : x6 = .unset ∨ ∃ q : Int32, x6 = .val (.int q)), done ++ rest = cs → i.toInt = (done.length : Int) → Al Z h b .byte (done.map bL ++ List.replicate rest.length (.int 0)) → Keep h0 h [b] →
      Go Z EL nw rm0 (fun v h S' => v = some (.int n) ∧ Al Z h b .byte (cs.map bL) ∧ Keep h0 h [b] ∧ S' = []) K h [b] 0 0 3 [.val (.ref a), .val (.int i), .val (.ref b), .val (.int i), .val (.int n), .val (.int i), x6] [] := by
    intro rest
    induction rest with
    | nil =>
      intro done h i x6 h6 hd hi hB hK
      refine G.iload d7_3 rfl ?_
      refine G.iload d7_5 rfl ?_
      refine G.icmp_ge d7_7 (fun _ => ?_) (fun q => absurd q (not_lt_of_toInt (by rw [hi, hn, ← hd]; simp)))
      refine G.iload d7_44 rfl ?_
      exact G.iret d7_46 [] (fun _ q => nomatch q) ⟨rfl, by rw [← hd]; simpa using hB, hK, rfl⟩
    | cons x rest ih =>
      intro done h i x6 h6 hd hi hB hK
      have hlen : cs.length = done.length + (rest.length + 1) := by rw [← hd]; simp
      have hx : x ∈ cs := by rw [← hd]; simp
      refine G.iload d7_3 rfl ?_
      refine G.iload d7_5 rfl ?_
      refine G.icmp_ge d7_7 (fun q => absurd (lt_of_toInt (by rw [hi, hn, hlen]; omega)) q) (fun _ => ?_)
      refine G.aloadN d7_10 rfl rfl ?_
      refine G.iloadN d7_11 rfl ?_
      refine G.caload d7_12 (A.keep hK (ninS hab nin0)) hi (v := .int x) (by rw [← hd]; simp) ?_
      rcases h6 with rfl | ⟨w6, rfl⟩
      all_goals
        refine G.istore6 d7_13 ?_
        refine G.iload d7_15 rfl ?_
        refine G.sipush 255 d7_17 ?_
        refine G.icmp_le d7_20 (fun _ => ?_) (fun q => absurd q (not_lt_of_toInt (by have := (hlat x hx).2; have e : (255 : Int32).toInt = 255 := (by decide); omega)))
        refine G.aloadN d7_26 rfl rfl ?_
        refine G.iloadN d7_27 rfl ?_
        refine G.iload d7_28 rfl ?_
        refine G.i2b d7_30 ?_
        refine G.bastore d7_31 (List.mem_singleton.mpr rfl) hB hi (by simp) (fun h' W hB' => ?_)
        refine G.iinc1 1 d7_32 ?_
        refine G.iinc3 1 d7_35 ?_
        refine G.iinc5 1 d7_38 ?_
        refine G.goto d7_41 ?_
        refine ih (done ++ [x]) h' (i + 1) _ (Or.inr ⟨_, rfl⟩) (by simp [hd]) (by rw [inc_toInt hi (by omega)]; simp) ?_ (hK.wr W (Or.inl (List.mem_singleton.mpr rfl)))
        have e : (done.map bL ++ List.replicate (x :: rest).length (Value.int 0)).set done.length (.int (nar .byte x.toInt8.toInt32)) = (done ++ [x]).map bL ++ List.replicate rest.length (.int 0) := by
          have := set_mid (done.map bL) (List.replicate rest.length (Value.int 0)) (.int 0) (.int (nar .byte x.toInt8.toInt32))
          rw [List.length_map] at this
          simp only [List.length_cons, List.replicate_succ]
          rw [this, nar8]; simp [bL]
        rw [← e]; exact hB'
  exact loop cs [] h0 0 _ (Or.inl rfl) rfl toInt_0 (by simpa using B) (Keep.refl _ _)
theorem cCMP (l : Launch) (Z : State) (a0 : Array Value) (hw : hwT a0 Z) {EL : List (String × Nat)} {nw : Bool} (hEL : EW Z a0 EL) (h0 : Heap) (a : Addr) (cs : List Int32) (n : Int32) (hn : n.toInt = (cs.length : Int)) (hm : cs.length ≤ 16) (hlat : Lat cs) (A : Al Z h0 a .char (cs.map .int)) :
    Con l Z EL nw (⟨"java/lang/StringUTF16", "compress", "([CII)[B"⟩ : MethodName) jdk_52_method_16_code 6 (some (.array .byte)) [] { frames := 1, cells := 1, slots := 16, locals := 18 } #[.ref a, .int 0, .int n] h0 [] (fun v h S' => (∃ b, v = some (.ref b) ∧ h0.size ≤ b ∧ Al Z h b .byte (cs.map bL) ∧ S' = [b]) ∧ Ext h0 h) := by
  refine Con.enter (a0 := a0) pn_1 hEL [.val (.ref a), .val (.int 0), .val (.int n), .unset, .unset, .unset] (fun m => by first | (simp [entryFrame, mkF, argsToLocals, Value.category]; done) | rfl) ?_
  intro K G
  refine G.iloadN d6_0 rfl ?_
  refine G.newA cs.length 16 d6_1 (hw 26 rfl) hn hm (fun h1 E1 L1 A1 => ?_)
  refine G.astore3 d6_3 ?_
  refine G.aloadN d6_4 rfl rfl ?_
  refine G.iloadN d6_5 rfl ?_
  refine G.aloadN d6_6 rfl rfl ?_
  refine G.iconst 0 d6_7 ?_
  refine G.iloadN d6_8 rfl ?_
  have hne : a ≠ h0.size := Nat.ne_of_lt A.lt
  refine G.callS5 d6_9 (hw 27 rfl) (hw 28 rfl) (hw 24 rfl) (hw 29 rfl) pd_0 (cCMPL K.l Z a0 hw hEL h1 a h0.size cs n hn (by omega) hlat (A.ext E1) A1 hne) (fun _ q => by simpa using q) ?_
  rintro _ h2 _ ⟨rfl, B2, K2, rfl⟩ -
  refine G.istore4 d6_12 ?_
  refine G.iload d6_14 rfl ?_
  refine G.iloadN d6_16 rfl ?_
  refine G.icmp_eq d6_17 (fun _ => ?_) (fun q => absurd rfl q)
  refine G.aloadN d6_57 rfl rfl ?_
  refine G.aret d6_58 [h0.size] (by simp) ⟨⟨_, rfl, Nat.le_refl _, B2, rfl⟩, ?_⟩
  exact keep_nil_ext ((ext_keep E1 []).trans K2 (fun x q => by cases List.mem_singleton.mp q; exact Or.inr (Nat.le_refl _)))
theorem cCFA (l : Launch) (Z : State) (a0 : Array Value) (hw : hwT a0 Z) {EL : List (String × Nat)} {nw : Bool} (hEL : EW Z a0 EL) (h0 : Heap) (b : Addr) (vs : List Value) (n : Int32) (hn : n.toInt = (vs.length : Int)) (B : Al Z h0 b .byte vs) :
    Con l Z EL nw (⟨"java/lang/StringUTF16", "coderFromArrayLen", "([BI)B"⟩ : MethodName) jdk_52_method_15_code 2 (some .byte) [] rm0 #[.ref b, .int n] h0 [] (fun v h S' => v = some (.int 0) ∧ h = h0 ∧ S' = []) := by
  refine Con.enter (a0 := a0) pn_2 hEL [.val (.ref b), .val (.int n)] (fun m => by first | (simp [entryFrame, mkF, argsToLocals, Value.category]; done) | rfl) ?_
  intro K G
  refine G.iloadN d8_0 rfl ?_
  refine G.aloadN d8_1 rfl rfl ?_
  refine G.alen n d8_2 B hn ?_
  refine G.isub d8_3 ?_
  refine G.bipush 31 d8_4 ?_
  refine G.iushr d8_6 ?_
  refine G.i2b d8_7 ?_
  have e : n - n = 0 := by
    apply Int32.toInt_inj.mp
    have := c_isub n n
    have := rng32 (n - n)
    have e0 : (0 : Int32).toInt = 0 := by decide
    omega
  exact G.nret d8_8 (Or.inr (Or.inl rfl)) (z' := 0) (by rw [e]; decide) [] (fun _ q => nomatch q) ⟨rfl, rfl, rfl⟩
abbrev rmSI4 : Room := { frames := 2, cells := 4, slots := 24, locals := 40 }
abbrev rmSI : Room := { frames := 3, cells := 4, slots := 24, locals := 60 }
/-- new String(char[]), one char at the least, each below 256 -/
theorem cSI4 (l : Launch) (Z : State) (a0 : Array Value) (hw : hwT a0 Z) {EL : List (String × Nat)} {nw : Bool} (hEL : EW Z a0 EL) (h0 : Heap) (hC : CS Z) (a b : Addr) (cs : List Int32) (n : Int32) (hn : n.toInt = (cs.length : Int)) (hm : cs.length ≤ 16) (h1 : 0 < cs.length) (hlat : Lat cs) (E : Exa Z h0 a SN) (D : ∀ {O fn d : String} {ty : FieldType}, Laid Z a0 SN O fn d → parseFieldDescriptor d = some ty → Fld Z h0 a O fn d (defaultValue ty)) (A : Al Z h0 b .char (cs.map .int)) :
    Con l Z EL nw (⟨"java/lang/String", "<init>", "([CIILjava/lang/Void;)V"⟩ : MethodName) jdk_42_method_149_code 6 (none) [] rmSI4 #[.ref a, .ref b, .int 0, .int n, .null] h0 [a] (fun v h S' => v = none ∧ (∃ vb, h0.size ≤ vb ∧ StrB Z h a 0 vb (cs.map bL)) ∧ Keep h0 h [a] ∧ S' = []) := by
  obtain ⟨cc, hC, hcc⟩ := hC
  refine Con.enter (a0 := a0) pn_3 hEL [.val (.ref a), .val (.ref b), .val (.int 0), .val (.int n), .val (.null), .unset] (fun m => by first | (simp [entryFrame, mkF, argsToLocals, Value.category]; done) | rfl) ?_
  intro K G
  have F1 := D (Or.inr (hw 34 rfl)) (ty := .byte) (by decide)
  have F2 := D (Or.inr (hw 36 rfl)) (ty := .array .byte) (by decide)
  refine G.aloadN d4_0 rfl rfl ?_
  refine G.initO d4_1 (hw 18 rfl) (hw 19 rfl) (hw 20 rfl) ?_
  refine G.iloadN d4_4 rfl ?_
  refine G.if_ne d4_5 (fun _ => ?_) (fun q => absurd (congrArg Int32.toInt q) (by rw [hn, toInt_0]; omega))
  refine G.getS d4_27 (hw 21 rfl) hC ?_
  refine G.if_eq d4_30 (fun q => absurd q hcc) (fun _ => ?_)
  refine G.aloadN d4_33 rfl rfl ?_
  refine G.iloadN d4_34 rfl ?_
  refine G.iloadN d4_35 rfl ?_
  refine G.callS3 d4_36 (hw 22 rfl) (hw 23 rfl) (hw 24 rfl) (hw 25 rfl) pd_1 (cCMP K.l Z a0 hw hEL h0 b cs n hn hm hlat A) (fun _ q => nomatch q) ?_
  rintro _ h2 _ ⟨⟨vb, rfl, hvb, B, rfl⟩, E2⟩ hs2
  refine G.astore5 d4_39 ?_
  refine G.aloadN d4_41 rfl rfl ?_
  refine G.aload d4_42 rfl rfl ?_
  refine G.iloadN d4_44 rfl ?_
  refine G.callS2 d4_45 (hw 30 rfl) (hw 31 rfl) (hw 24 rfl) (hw 32 rfl) pd_2 (cCFA K.l Z a0 hw hEL h2 vb (cs.map bL) n (by simpa using hn) B) (fun _ q => nomatch q) ?_
  rintro _ _ _ ⟨rfl, rfl, rfl⟩ -
  have hne : vb ≠ a := fun q => Nat.lt_irrefl _ (Nat.lt_of_lt_of_le E.lt (q ▸ hvb))
  refine G.putF d4_48 (hw 33 rfl) (F1.ext E2) (E.ext E2) (by simp) (Or.inr ⟨(hw 34 rfl), rfl, rfl⟩) (hw 9 rfl) (ty := .byte) (by decide) rfl rfl (fun h3 W3 F1 E => ?_)
  refine G.aloadN d4_51 rfl rfl ?_
  refine G.aload d4_52 rfl rfl ?_
  have F2' := Fld.oth (F2.ext E2) W3 (Or.inr (hw 36 rfl)) (Or.inr (hw 34 rfl)) (by decide) (by decide) (by decide)
  refine G.putF d4_54 (hw 35 rfl) F2' E (by simp) (Or.inr ⟨(hw 36 rfl), rfl, rfl⟩) (hw 9 rfl) (ty := (.array .byte)) (by decide) rfl rfl (fun h4 W4 F2 E => ?_)
  replace F1 := Fld.oth F1 W4 (Or.inr (hw 34 rfl)) (Or.inr (hw 36 rfl)) (by decide) (by decide) (by decide)
  refine G.ret0 d4_57 [] (fun _ q => nomatch q) ⟨rfl, ⟨vb, hvb, E, F1, F2, (B.other W3 hne).other W4 hne⟩, ?_, rfl⟩
  exact (((ext_keep E2 [a]).wr W3 (Or.inl (List.mem_singleton.mpr rfl))).wr W4 (Or.inl (List.mem_singleton.mpr rfl)))
theorem cSI (l : Launch) (Z : State) (a0 : Array Value) (hw : hwT a0 Z) {EL : List (String × Nat)} {nw : Bool} (hEL : EW Z a0 EL) (h0 : Heap) (hC : CS Z) (a b : Addr) (cs : List Int32) (hm : cs.length ≤ 16) (h1 : 0 < cs.length) (hlat : Lat cs) (E : Exa Z h0 a SN) (D : ∀ {O fn d : String} {ty : FieldType}, Laid Z a0 SN O fn d → parseFieldDescriptor d = some ty → Fld Z h0 a O fn d (defaultValue ty)) (A : Al Z h0 b .char (cs.map .int)) :
    Con l Z EL nw (⟨"java/lang/String", "<init>", "([C)V"⟩ : MethodName) jdk_42_method_3_code 2 (none) [] rmSI #[.ref a, .ref b] h0 [a] (fun v h S' => v = none ∧ (∃ vb, h0.size ≤ vb ∧ StrB Z h a 0 vb (cs.map bL)) ∧ Keep h0 h [a] ∧ S' = []) := by
  refine Con.enter (a0 := a0) pn_4 hEL [.val (.ref a), .val (.ref b)] (fun m => by first | (simp [entryFrame, mkF, argsToLocals, Value.category]; done) | rfl) ?_
  intro K G
  refine G.aloadN d3_0 rfl rfl ?_
  refine G.aloadN d3_1 rfl rfl ?_
  refine G.iconst 0 d3_2 ?_
  refine G.aloadN d3_3 rfl rfl ?_
  have hn : (Int32.ofNat cs.length).toInt = (cs.length : Int) := len_toInt (by omega)
  refine G.alen (Int32.ofNat cs.length) d3_4 A (by simpa using hn) ?_
  refine G.aconstNull d3_5 ?_
  refine G.callI4 d3_6 (hw 14 rfl) (hw 15 rfl) (hw 10 rfl) (hw 17 rfl) pd_3 (cSI4 K.l Z a0 hw hEL h0 hC a b cs _ hn hm h1 hlat E D A) (fun _ q => q) ?_
  rintro _ h2 _ ⟨rfl, B2, K2, rfl⟩ -
  exact G.ret0 d3_9 [] (fun _ q => nomatch q) ⟨rfl, B2, K2, rfl⟩
theorem hSA (Z : State) (a0 : Array Value) (hw : hwT a0 Z) : ∀ a ∈ Bundle.stringAtoms, a.before a0 Z = true := by
  intro a ha
  simp only [Bundle.stringAtoms, List.mem_cons, List.not_mem_nil, or_false] at ha
  rcases ha with rfl | rfl | rfl | rfl | rfl | rfl | rfl
  · exact (hw 10 rfl)
  · exact (hw 9 rfl)
  · exact (hw 26 rfl)
  · exact (hw 36 rfl)
  · exact (hw 34 rfl)
  · exact (hw 38 rfl)
  · exact (hw 39 rfl)
theorem cSI4E (l : Launch) (Z : State) (a0 : Array Value) (hw : hwT a0 Z) {EL : List (String × Nat)} (hEL : EW Z a0 EL) (h0 : Heap) (hmem : (SN, 7) ∈ EL) (a b : Addr) (E : Exa Z h0 a SN) (D : ∀ {O fn d : String} {ty : FieldType}, Laid Z a0 SN O fn d → parseFieldDescriptor d = some ty → Fld Z h0 a O fn d (defaultValue ty)) :
    Con l Z EL false (⟨"java/lang/String", "<init>", "([CIILjava/lang/Void;)V"⟩ : MethodName) jdk_42_method_149_code 6 (none) [] rmSI4 #[.ref a, .ref b, .int 0, .int 0, .null] h0 [a] (fun v h S' => v = none ∧ (∃ vb, StrB Z h a 0 vb []) ∧ Keep h0 h [a] ∧ S' = []) := by
  refine Con.enter (a0 := a0) pn_3 hEL [.val (.ref a), .val (.ref b), .val (.int 0), .val (.int 0), .val (.null), .unset] (fun m => by first | (simp [entryFrame, mkF, argsToLocals, Value.category]; done) | rfl) ?_
  intro K G
  have F1 := D (Or.inr (hw 34 rfl)) (ty := .byte) (by decide)
  have F2 := D (Or.inr (hw 36 rfl)) (ty := .array .byte) (by decide)
  refine G.aloadN d4_0 rfl rfl ?_
  refine G.initO d4_1 (hw 18 rfl) (hw 19 rfl) (hw 20 rfl) ?_
  refine G.iloadN d4_4 rfl ?_
  refine G.if_ne d4_5 (fun q => absurd rfl q) (fun _ => ?_)
  refine G.aloadN d4_8 rfl rfl ?_
  refine G.ldcS 0 [] 0 d4_9 (hw 37 rfl) (hSA Z a0 hw) rfl hmem ⟨by decide, rfl⟩ (by decide) (by decide) (by decide) (by decide) (fun sa sb h1 E1 B1 N1 => ?_)
  refine G.getF d4_11 (hw 35 rfl) B1.2.2.1 ?_
  have n1 := N1 a (List.mem_singleton.mpr rfl)
  refine G.putF d4_14 (hw 35 rfl) (F2.ext E1) (E.ext E1) (by simp) (Or.inr ⟨(hw 36 rfl), rfl, rfl⟩) (hw 9 rfl) (ty := (.array .byte)) (by decide) rfl rfl (fun h2 W2 F2 E => ?_)
  have F1' := Fld.oth (F1.ext E1) W2 (Or.inr (hw 34 rfl)) (Or.inr (hw 36 rfl)) (by decide) (by decide) (by decide)
  have A2 := B1.2.2.2.other W2 (Ne.symm n1.2)
  refine G.aloadN d4_17 rfl rfl ?_
  refine G.ldcS 0 [] 0 d4_18 (hw 37 rfl) (hSA Z a0 hw) rfl hmem ⟨by decide, rfl⟩ (by decide) (by decide) (by decide) (by decide) (fun sa2 sb2 h3 E3 B3 N3 => ?_)
  refine G.getF d4_20 (hw 33 rfl) B3.2.1 ?_
  refine G.putF d4_23 (hw 33 rfl) (F1'.ext E3) (E.ext E3) (by simp) (Or.inr ⟨(hw 34 rfl), rfl, rfl⟩) (hw 9 rfl) (ty := .byte) (by decide) rfl rfl (fun h4 W4 F1 E => ?_)
  have F2' := Fld.oth (F2.ext E3) W4 (Or.inr (hw 36 rfl)) (Or.inr (hw 34 rfl)) (by decide) (by decide) (by decide)
  refine G.ret0 d4_26 [] (fun _ q => nomatch q) ⟨rfl, ⟨sb, E, F1, F2', (A2.ext E3).other W4 (Ne.symm n1.2)⟩, ?_, rfl⟩
  exact (((ext_keep E1 [a]).wr W2 (Or.inl (List.mem_singleton.mpr rfl))).ext E3).wr W4 (Or.inl (List.mem_singleton.mpr rfl))
/-- new String(char[]): up to 16 chars below 256, none too -/
theorem cSIA (l : Launch) (Z : State) (a0 : Array Value) (hw : hwT a0 Z) {EL : List (String × Nat)} (hEL : EW Z a0 EL) (h0 : Heap) (hC : CS Z) (hmem : (SN, 7) ∈ EL) (a b : Addr) (cs : List Int32) (hm : cs.length ≤ 16) (hlat : Lat cs) (E : Exa Z h0 a SN) (D : ∀ {O fn d : String} {ty : FieldType}, Laid Z a0 SN O fn d → parseFieldDescriptor d = some ty → Fld Z h0 a O fn d (defaultValue ty)) (A : Al Z h0 b .char (cs.map .int)) :
    Con l Z EL false (⟨"java/lang/String", "<init>", "([C)V"⟩ : MethodName) jdk_42_method_3_code 2 (none) [] rmSI #[.ref a, .ref b] h0 [a] (fun v h S' => v = none ∧ (∃ vb, StrB Z h a 0 vb (cs.map bL)) ∧ Keep h0 h [a] ∧ S' = []) := by
  refine Con.enter (a0 := a0) pn_4 hEL [.val (.ref a), .val (.ref b)] (fun m => by first | (simp [entryFrame, mkF, argsToLocals, Value.category]; done) | rfl) ?_
  intro K G
  refine G.aloadN d3_0 rfl rfl ?_
  refine G.aloadN d3_1 rfl rfl ?_
  refine G.iconst 0 d3_2 ?_
  refine G.aloadN d3_3 rfl rfl ?_
  have hn : (Int32.ofNat cs.length).toInt = (cs.length : Int) := len_toInt (by omega)
  refine G.alen (Int32.ofNat cs.length) d3_4 A (by simpa using hn) ?_
  refine G.aconstNull d3_5 ?_
  by_cases h1 : 0 < cs.length
  · refine G.callI4 d3_6 (hw 14 rfl) (hw 15 rfl) (hw 10 rfl) (hw 17 rfl) pd_3 (cSI4 K.l Z a0 hw hEL h0 hC a b cs _ hn hm h1 hlat E D A) (fun _ q => q) ?_
    rintro _ h2 _ ⟨rfl, ⟨vb, -, B2⟩, K2, rfl⟩ -
    exact G.ret0 d3_9 [] (fun _ q => nomatch q) ⟨rfl, ⟨vb, B2⟩, K2, rfl⟩
  · have e : cs = [] := by cases cs with | nil => rfl | cons x r => simp at h1
    subst e
    refine G.callI4 d3_6 (hw 14 rfl) (hw 15 rfl) (hw 10 rfl) (hw 17 rfl) pd_3 (cSI4E K.l Z a0 hw hEL h0 hmem a b E D) (fun _ q => q) ?_
    rintro _ h2 _ ⟨rfl, ⟨vb, B2⟩, K2, rfl⟩ -
    exact G.ret0 d3_9 [] (fun _ q => nomatch q) ⟨rfl, ⟨vb, B2⟩, K2, rfl⟩
theorem own_ms {args : Array Value} {s : State} (hw : hwT args s) (hn : narrow_1.value args s none s [] = some true) : ∃ rd wr, MS s rd wr := by
  obtain ⟨n1, n2⟩ := and_e hn
  obtain ⟨n2, n3⟩ := and_e n2
  obtain ⟨n3, n4⟩ := and_e n3
  obtain ⟨r1, e1⟩ := exa_v n1
  obtain ⟨r2, e2⟩ := exa_v n2
  have f3 := Cond.eq_int (beq_iff_eq.mpr n3) rfl
  have f4 := Cond.eq_int (beq_iff_eq.mpr n4) rfl
  have hne : r1 ≠ r2 := fun q => by
    simp only [Term.eval] at f3 f4 e1 e2
    subst q
    simp only [e1] at f3 f4
    simp only [e2] at f3 f4
    rw [f3] at f4
    cases f4
  have s1 := Sta.start e1 (Or.inr ⟨(hw 45 rfl), (hw 46 rfl)⟩)
  have s2 := Sta.start e2 (Or.inr ⟨(hw 45 rfl), (hw 116 rfl)⟩)
  exact ⟨r1, r2, s1, s2, hne⟩
theorem cCOD (l : Launch) (Z : State) (a0 : Array Value) (hw : hwT a0 Z) {EL : List (String × Nat)} {nw : Bool} (hEL : EW Z a0 EL) (h0 : Heap) (hC : CS Z) (s vb : Addr) (cd : Int32) (hcd : cd = 0 ∨ cd = 1) (vs : List Value) (A : StrB Z h0 s cd vb vs) : Con l Z EL nw (⟨"java/lang/String", "coder", "()B"⟩ : MethodName) jdk_42_method_152_code 1 (some .byte) [] rm0 #[.ref s] h0 [] (fun v h S' => v = some (.int cd) ∧ h = h0 ∧ S' = []) := by
  obtain ⟨cc, hC, hcc⟩ := hC
  refine Con.enter (a0 := a0) pn_5 hEL [.val (.ref s)] (fun m => by first | (simp [entryFrame, mkF, argsToLocals, Value.category]; done) | rfl) ?_
  intro K G
  refine G.getS d16_0 (hw 21 rfl) hC ?_
  refine G.if_eq d16_3 (fun q => absurd q hcc) (fun _ => ?_)
  refine G.aloadN d16_6 rfl rfl ?_
  refine G.getF d16_7 (hw 33 rfl) A.2.1 ?_
  refine G.goto d16_10 ?_
  exact G.nret d16_14 (Or.inr (Or.inl rfl)) (z' := cd) (by rcases hcd with rfl | rfl <;> decide) [] (fun _ q => nomatch q) ⟨rfl, rfl, rfl⟩
abbrev rmLEN8 : Room := { frames := 1, cells := 0, slots := 0, locals := 13 }
theorem cLEN8 (l : Launch) (Z : State) (a0 : Array Value) (hw : hwT a0 Z) {EL : List (String × Nat)} {nw : Bool} (hEL : EW Z a0 EL) (h0 : Heap) (hC : CS Z) (s vb : Addr) (vs : List Value) (B : StrB Z h0 s 0 vb vs) : Con l Z EL nw (⟨"java/lang/String", "length", "()I"⟩ : MethodName) jdk_42_method_54_code 1 (some .int) [] rmLEN8 #[.ref s] h0 [] (fun v h S' => (∃ m : Int32, v = some (.int m) ∧ m.toInt = (vs.length : Int)) ∧ h = h0 ∧ S' = []) := by
  have hk : (Int32.ofNat vs.length).toInt = (vs.length : Int) := len_toInt B.2.2.2.len
  refine Con.enter (a0 := a0) pn_6 hEL [.val (.ref s)] (fun m => by first | (simp [entryFrame, mkF, argsToLocals, Value.category]; done) | rfl) ?_
  intro K G
  refine G.aloadN d15_0 rfl rfl ?_
  refine G.getF d15_1 (hw 35 rfl) B.2.2.1 ?_
  refine G.alen _ d15_4 B.2.2.2 hk ?_
  refine G.aloadN d15_5 rfl rfl ?_
  refine G.callV0 d15_6 (hw 83 rfl) (hw 84 rfl) (hw 86 rfl) (hw 85 rfl) (hw 87 rfl) (hw 10 rfl) pd_4 B.1 (cCOD K.l Z a0 hw hEL h0 hC s vb 0 (Or.inl rfl) _ B) (fun _ q => nomatch q) ?_
  rintro _ _ _ ⟨rfl, rfl, rfl⟩ -
  refine G.ishr d15_9 ?_
  exact G.iret d15_10 [] (fun _ q => nomatch q) ⟨⟨_, rfl, by rw [shr0', hk]⟩, rfl, rfl⟩
abbrev SBN : String := "java/lang/StringBuilder"
abbrev ABN : String := "java/lang/AbstractStringBuilder"
/-- a StringBuilder -/
def Sb (Z : State) (h : Heap) (a : Addr) (cd n : Int32) (vb : Addr) (vs : List Value) : Prop := Exa Z h a "java/lang/StringBuilder" ∧ Fld Z h a "java/lang/AbstractStringBuilder" "coder" "B" (.int cd) ∧ Fld Z h a "java/lang/AbstractStringBuilder" "value" "[B" (.ref vb) ∧ Fld Z h a "java/lang/AbstractStringBuilder" "count" "I" (.int n) ∧ Al Z h vb .byte vs
theorem Sb.ext {Z : State} {h h' : Heap} {a vb : Addr} {cd n : Int32} {vs : List Value} (F : Sb Z h a cd n vb vs) (E : Ext h h') : Sb Z h' a cd n vb vs := ⟨F.1.ext E, F.2.1.ext E, F.2.2.1.ext E, F.2.2.2.1.ext E, F.2.2.2.2.ext E⟩
theorem cGVL (l : Launch) (Z : State) (a0 : Array Value) (hw : hwT a0 Z) {EL : List (String × Nat)} {nw : Bool} (hEL : EW Z a0 EL) (h0 : Heap) (a vb : Addr) (cd n : Int32) (vs : List Value) (B : Sb Z h0 a cd n vb vs) : Con l Z EL nw (⟨"java/lang/AbstractStringBuilder", "getValue", "()[B"⟩ : MethodName) jdk_68_method_64_code 1 (some (.array .byte)) [] rm0 #[.ref a] h0 [] (fun v h S' => v = some (.ref vb) ∧ h = h0 ∧ S' = []) := by
  refine Con.enter (a0 := a0) pn_7 hEL [.val (.ref a)] (fun m => by first | (simp [entryFrame, mkF, argsToLocals, Value.category]; done) | rfl) ?_
  intro K G
  refine G.aloadN d24_0 rfl rfl ?_
  refine G.getF d24_1 (hw 64 rfl) B.2.2.1 ?_
  exact G.aret d24_4 [] (fun _ q => nomatch q) ⟨rfl, rfl, rfl⟩
theorem cABL (l : Launch) (Z : State) (a0 : Array Value) (hw : hwT a0 Z) {EL : List (String × Nat)} {nw : Bool} (hEL : EW Z a0 EL) (h0 : Heap) (a vb : Addr) (cd n : Int32) (vs : List Value) (B : Sb Z h0 a cd n vb vs) : Con l Z EL nw (⟨"java/lang/AbstractStringBuilder", "length", "()I"⟩ : MethodName) jdk_68_method_6_code 1 (some .int) [] rm0 #[.ref a] h0 [] (fun v h S' => v = some (.int n) ∧ h = h0 ∧ S' = []) := by
  refine Con.enter (a0 := a0) pn_8 hEL [.val (.ref a)] (fun m => by first | (simp [entryFrame, mkF, argsToLocals, Value.category]; done) | rfl) ?_
  intro K G
  refine G.aloadN d26_0 rfl rfl ?_
  refine G.getF d26_1 (hw 88 rfl) B.2.2.2.1 ?_
  exact G.iret d26_4 [] (fun _ q => nomatch q) ⟨rfl, rfl, rfl⟩
abbrev rmSBL : Room := { frames := 1, cells := 0, slots := 0, locals := 12 }
theorem cSBL (l : Launch) (Z : State) (a0 : Array Value) (hw : hwT a0 Z) {EL : List (String × Nat)} {nw : Bool} (hEL : EW Z a0 EL) (h0 : Heap) (a vb : Addr) (cd n : Int32) (vs : List Value) (B : Sb Z h0 a cd n vb vs) : Con l Z EL nw (⟨"java/lang/StringBuilder", "length", "()I"⟩ : MethodName) jdk_67_method_93_code 1 (some .int) [] rmSBL #[.ref a] h0 [] (fun v h S' => v = some (.int n) ∧ h = h0 ∧ S' = []) := by
  refine Con.enter (a0 := a0) pn_9 hEL [.val (.ref a)] (fun m => by first | (simp [entryFrame, mkF, argsToLocals, Value.category]; done) | rfl) ?_
  intro K G
  refine G.aloadN d25_0 rfl rfl ?_
  refine G.callU0 d25_1 (hw 141 rfl) (Nf.same (y := (⟨"java/lang/AbstractStringBuilder", "length", "()I"⟩ : MethodName)) (Nf.sel (hw 93 rfl)) (hw 91 rfl) rfl) (hw 137 rfl) (hw 75 rfl) (hw 142 rfl) (hw 60 rfl) pd_5 B.1 (cABL K.l Z a0 hw hEL h0 a vb cd n vs B) (fun _ q => nomatch q) ?_
  rintro _ h0 _ ⟨rfl, rfl, rfl⟩ -
  exact G.iret d25_4 [] (fun _ q => nomatch q) ⟨rfl, rfl, rfl⟩
theorem cABIL (l : Launch) (Z : State) (a0 : Array Value) (hw : hwT a0 Z) {EL : List (String × Nat)} {nw : Bool} (hEL : EW Z a0 EL) (h0 : Heap) (hC : CS Z) (a vb : Addr) (cd n : Int32) (vs : List Value) (B : Sb Z h0 a cd n vb vs) : Con l Z EL nw (⟨"java/lang/AbstractStringBuilder", "isLatin1", "()Z"⟩ : MethodName) jdk_68_method_68_code 1 (some .boolean) [] rm0 #[.ref a] h0 [] (fun v h S' => v = some (.int (if cd = 0 then 1 else 0)) ∧ h = h0 ∧ S' = []) := by
  obtain ⟨cc, hC, hcc⟩ := hC
  refine Con.enter (a0 := a0) pn_10 hEL [.val (.ref a)] (fun m => by first | (simp [entryFrame, mkF, argsToLocals, Value.category]; done) | rfl) ?_
  intro K G
  refine G.getS d27_0 (hw 63 rfl) hC ?_
  refine G.if_eq d27_3 (fun q => absurd q hcc) (fun _ => ?_)
  refine G.aloadN d27_6 rfl rfl ?_
  refine G.getF d27_7 (hw 66 rfl) B.2.1 ?_
  refine G.if_ne d27_10 (fun q => ?_) (fun q => ?_)
  · refine G.iconst 0 d27_17 ?_
    exact G.nret d27_18 (Or.inl rfl) (z' := 0) (by decide) [] (fun _ q => nomatch q) ⟨by rw [if_neg q], rfl, rfl⟩
  · refine G.iconst 1 d27_13 ?_
    refine G.goto d27_14 ?_
    exact G.nret d27_18 (Or.inl rfl) (z' := 1) (by decide) [] (fun _ q => nomatch q) ⟨by rw [if_pos q], rfl, rfl⟩
abbrev rmASBI : Room := { frames := 1, cells := 1, slots := 16, locals := 12 }
theorem cASBI (l : Launch) (Z : State) (a0 : Array Value) (hw : hwT a0 Z) {EL : List (String × Nat)} {nw : Bool} (hEL : EW Z a0 EL) (h0 : Heap) (hC : CS Z) (a : Addr) (E : Exa Z h0 a SBN) (D : ∀ {O fn d : String} {ty : FieldType}, Laid Z a0 SBN O fn d → parseFieldDescriptor d = some ty → Fld Z h0 a O fn d (defaultValue ty)) :
    Con l Z EL nw (⟨"java/lang/AbstractStringBuilder", "<init>", "(I)V"⟩ : MethodName) jdk_68_method_2_code 2 (none) [] rmASBI #[.ref a, .int 16] h0 [a] (fun v h S' => v = none ∧ (∃ vb, h0.size ≤ vb ∧ S' = [vb] ∧ Sb Z h a 0 0 vb (List.replicate 16 (.int 0))) ∧ Keep h0 h [a]) := by
  obtain ⟨cc, hC, hcc⟩ := hC
  refine Con.enter (a0 := a0) pn_11 hEL [.val (.ref a), .val (.int 16)] (fun m => by first | (simp [entryFrame, mkF, argsToLocals, Value.category]; done) | rfl) ?_
  intro K G
  have F1 := D (Or.inl (hw 67 rfl)) (ty := .byte) (by decide)
  have F2 := D (Or.inl (hw 65 rfl)) (ty := .array .byte) (by decide)
  have F3 := D (Or.inl (hw 89 rfl)) (ty := .int) (by decide)
  refine G.aloadN d12_0 rfl rfl ?_
  refine G.initO d12_1 (hw 62 rfl) (hw 19 rfl) (hw 20 rfl) ?_
  refine G.getS d12_4 (hw 63 rfl) hC ?_
  refine G.if_eq d12_7 (fun q => absurd q hcc) (fun _ => ?_)
  refine G.aloadN d12_10 rfl rfl ?_
  refine G.iloadN d12_11 rfl ?_
  refine G.newA 16 16 d12_12 (hw 26 rfl) (by decide) (by decide) (fun h1 E1 L1 A1 => ?_)
  have hne : h0.size ≠ a := fun q => absurd E.lt (by rw [← q]; exact Nat.lt_irrefl _)
  refine G.putF d12_14 (hw 64 rfl) (F2.ext E1) (E.ext E1) (by simp) (Or.inl (hw 65 rfl)) (hw 51 rfl) (ty := (.array .byte)) (by decide) rfl rfl (fun h2 W2 F2 E => ?_)
  have F1' := Fld.oth (F1.ext E1) W2 (Or.inl (hw 67 rfl)) (Or.inl (hw 65 rfl)) (by decide) (by decide) (by decide)
  have F3' := Fld.oth (F3.ext E1) W2 (Or.inl (hw 89 rfl)) (Or.inl (hw 65 rfl)) (by decide) (by decide) (by decide)
  refine G.aloadN d12_17 rfl rfl ?_
  refine G.iconst 0 d12_18 ?_
  refine G.putF d12_19 (hw 66 rfl) F1' E (by simp) (Or.inl (hw 67 rfl)) (hw 51 rfl) (ty := .byte) (by decide) rfl rfl (fun h3 W3 F1 E => ?_)
  have F2' := Fld.oth F2 W3 (Or.inl (hw 65 rfl)) (Or.inl (hw 67 rfl)) (by decide) (by decide) (by decide)
  have F3'' := Fld.oth F3' W3 (Or.inl (hw 89 rfl)) (Or.inl (hw 67 rfl)) (by decide) (by decide) (by decide)
  refine G.goto d12_22 ?_
  refine G.ret0 d12_38 [h0.size] (by simp) ⟨rfl, ⟨_, Nat.le_refl _, rfl, E, F1, F2', F3'', (A1.other W2 hne).other W3 hne⟩, ?_⟩
  exact (((ext_keep E1 [a]).wr W2 (Or.inl (List.mem_singleton.mpr rfl))).wr W3 (Or.inl (List.mem_singleton.mpr rfl)))
abbrev rmSBI : Room := { frames := 2, cells := 1, slots := 16, locals := 25 }
theorem cSBI (l : Launch) (Z : State) (a0 : Array Value) (hw : hwT a0 Z) {EL : List (String × Nat)} {nw : Bool} (hEL : EW Z a0 EL) (h0 : Heap) (hC : CS Z) (a : Addr) (E : Exa Z h0 a SBN) (D : ∀ {O fn d : String} {ty : FieldType}, Laid Z a0 SBN O fn d → parseFieldDescriptor d = some ty → Fld Z h0 a O fn d (defaultValue ty)) :
    Con l Z EL nw (⟨"java/lang/StringBuilder", "<init>", "()V"⟩ : MethodName) jdk_67_method_1_code 1 (none) [] rmSBI #[.ref a] h0 [a] (fun v h S' => v = none ∧ (∃ vb, h0.size ≤ vb ∧ S' = [vb] ∧ Sb Z h a 0 0 vb (List.replicate 16 (.int 0))) ∧ Keep h0 h [a]) := by
  refine Con.enter (a0 := a0) pn_12 hEL [.val (.ref a)] (fun m => by first | (simp [entryFrame, mkF, argsToLocals, Value.category]; done) | rfl) ?_
  intro K G
  refine G.aloadN d11_0 rfl rfl ?_
  refine G.bipush 16 d11_1 ?_
  refine G.callI1 d11_3 (hw 56 rfl) (hw 57 rfl) (hw 60 rfl) (hw 61 rfl) pd_6 (cASBI K.l Z a0 hw hEL h0 hC a E D) (fun _ q => q) ?_
  rintro _ h2 _ ⟨rfl, ⟨vb, hvb, rfl, B2⟩, K2⟩ -
  exact G.ret0 d11_6 [vb] (by simp) ⟨rfl, ⟨vb, hvb, rfl, B2⟩, K2⟩
theorem cENS (l : Launch) (Z : State) (a0 : Array Value) (hw : hwT a0 Z) {EL : List (String × Nat)} {nw : Bool} (hEL : EW Z a0 EL) (h0 : Heap) (a vb : Addr) (cd n m : Int32) (vs : List Value) (hcap : (Int32.ofNat vs.length >>> (cd &&& 31)).toInt = 16) (hm : 0 ≤ m.toInt ∧ m.toInt ≤ 16) (B : Sb Z h0 a cd n vb vs) : Con l Z EL nw (⟨"java/lang/AbstractStringBuilder", "ensureCapacityInternal", "(I)V"⟩ : MethodName) jdk_68_method_9_code 3 (none) [] rm0 #[.ref a, .int m] h0 [] (fun v h S' => v = none ∧ h = h0 ∧ S' = []) := by
  refine Con.enter (a0 := a0) pn_13 hEL [.val (.ref a), .val (.int m), .unset] (fun m => by first | (simp [entryFrame, mkF, argsToLocals, Value.category]; done) | rfl) ?_
  intro K G
  refine G.aloadN d17_0 rfl rfl ?_
  refine G.getF d17_1 (hw 64 rfl) B.2.2.1 ?_
  refine G.alen (Int32.ofNat vs.length) d17_4 B.2.2.2.2 (len_toInt B.2.2.2.2.len) ?_
  refine G.aloadN d17_5 rfl rfl ?_
  refine G.getF d17_6 (hw 66 rfl) B.2.1 ?_
  refine G.ishr d17_9 ?_
  refine G.istore2 d17_10 ?_
  refine G.iloadN d17_11 rfl ?_
  refine G.iloadN d17_12 rfl ?_
  refine G.isub d17_13 ?_
  refine G.if_le d17_14 (fun _ => ?_) (fun q => absurd q (not_lt_of_toInt (by
    have a1 := c_isub m (Int32.ofNat vs.length >>> (cd &&& 31))
    have a2 := rng32 (m - (Int32.ofNat vs.length >>> (cd &&& 31)))
    rw [toInt_0]
    omega)))
  exact G.ret0 d17_38 [] (fun _ q => nomatch q) ⟨rfl, rfl, rfl⟩
abbrev rmINF : Room := { frames := 1, cells := 0, slots := 0, locals := 13 }
theorem cINF (l : Launch) (Z : State) (a0 : Array Value) (hw : hwT a0 Z) {EL : List (String × Nat)} {nw : Bool} (hEL : EW Z a0 EL) (h0 : Heap) (hC : CS Z) (a vb s sb : Addr) (cd n : Int32) (hcd : cd = 0 ∨ cd = 1) (vs ws : List Value) (B : Sb Z h0 a cd n vb vs) (A : StrB Z h0 s cd sb ws) : Con l Z EL nw (⟨"java/lang/AbstractStringBuilder", "inflateIfNeededFor", "(Ljava/lang/String;)V"⟩ : MethodName) jdk_68_method_71_code 2 (none) [] rmINF #[.ref a, .ref s] h0 [] (fun v h S' => v = none ∧ h = h0 ∧ S' = []) := by
  have hC' := hC
  obtain ⟨cc, hC, hcc⟩ := hC
  refine Con.enter (a0 := a0) pn_14 hEL [.val (.ref a), .val (.ref s)] (fun m => by first | (simp [entryFrame, mkF, argsToLocals, Value.category]; done) | rfl) ?_
  intro K G
  refine G.getS d19_0 (hw 63 rfl) hC ?_
  refine G.if_eq d19_3 (fun q => absurd q hcc) (fun _ => ?_)
  refine G.aloadN d19_6 rfl rfl ?_
  refine G.getF d19_7 (hw 66 rfl) B.2.1 ?_
  refine G.aloadN d19_10 rfl rfl ?_
  refine G.callV0 d19_11 (hw 105 rfl) (hw 84 rfl) (hw 86 rfl) (hw 85 rfl) (hw 87 rfl) (hw 10 rfl) pd_4 A.1 (cCOD K.l Z a0 hw hEL h0 hC' s sb cd hcd _ A) (fun _ q => nomatch q) ?_
  rintro _ _ _ ⟨rfl, rfl, rfl⟩ -
  refine G.icmp_eq d19_14 (fun _ => ?_) (fun q => absurd rfl q)
  exact G.ret0 d19_21 [] (fun _ q => nomatch q) ⟨rfl, rfl, rfl⟩
abbrev rmGBY : Room := { frames := 1, cells := 0, slots := 0, locals := 18 }
theorem cGBY (l : Launch) (Z : State) (a0 : Array Value) (hw : hwT a0 Z) {EL : List (String × Nat)} {nw : Bool} (hEL : EW Z a0 EL) (h0 : Heap) (hC : CS Z) (s sb vb : Addr) (cd n : Int32) (hcd : cd = 0 ∨ cd = 1) (vs ws : List Value) (j : Nat) (hj : (n <<< (cd &&& 31)).toInt = (j : Int)) (hfit : j + ws.length ≤ vs.length) (A : StrB Z h0 s cd sb ws) (B : Al Z h0 vb .byte vs) :
    Con l Z EL nw (⟨"java/lang/String", "getBytes", "([BIB)V"⟩ : MethodName) jdk_42_method_147_code 4 (none) [] rmGBY #[.ref s, .ref vb, .int n, .int cd] h0 [vb] (fun v h S' => v = none ∧ Al Z h vb .byte (vs.take j ++ ws ++ vs.drop (j + ws.length)) ∧ Keep h0 h [vb] ∧ S' = []) := by
  refine Con.enter (a0 := a0) pn_15 hEL [.val (.ref s), .val (.ref vb), .val (.int n), .val (.int cd)] (fun m => by first | (simp [entryFrame, mkF, argsToLocals, Value.category]; done) | rfl) ?_
  intro K G
  refine G.aloadN d20_0 rfl rfl ?_
  refine G.callV0 d20_1 (hw 83 rfl) (hw 84 rfl) (hw 86 rfl) (hw 85 rfl) (hw 87 rfl) (hw 10 rfl) pd_4 A.1 (cCOD K.l Z a0 hw hEL h0 hC s sb cd hcd _ A) (fun _ q => nomatch q) ?_
  rintro _ h0 _ ⟨rfl, rfl, rfl⟩ -
  refine G.iloadN d20_4 rfl ?_
  refine G.icmp_ne d20_5 (fun q => absurd rfl q) (fun _ => ?_)
  refine G.aloadN d20_8 rfl rfl ?_
  refine G.getF d20_9 (hw 35 rfl) A.2.2.1 ?_
  refine G.iconst 0 d20_12 ?_
  refine G.aloadN d20_13 rfl rfl ?_
  refine G.iloadN d20_14 rfl ?_
  refine G.iloadN d20_15 rfl ?_
  refine G.ishl d20_16 ?_
  refine G.aloadN d20_17 rfl rfl ?_
  refine G.getF d20_18 (hw 35 rfl) A.2.2.1 ?_
  refine G.alen (Int32.ofNat ws.length) d20_21 A.2.2.2 (len_toInt A.2.2.2.len) ?_
  refine G.acopy 0 j ws.length d20_22 (hw 111 rfl) (hw 114 rfl) (hw 112 rfl) (hw 113 rfl) A.2.2.2 B rfl (by simp) (by decide) hj (len_toInt A.2.2.2.len) (by omega) hfit (fun h1 K1 B1 => ?_)
  rw [List.drop_zero, List.take_length] at B1
  refine G.goto d20_25 ?_
  exact G.ret0 d20_43 [] (fun _ q => nomatch q) ⟨rfl, B1, K1, rfl⟩
abbrev rmPSA : Room := { frames := 2, cells := 0, slots := 0, locals := 33 }
theorem cPSA (l : Launch) (Z : State) (a0 : Array Value) (hw : hwT a0 Z) {EL : List (String × Nat)} {nw : Bool} (hEL : EW Z a0 EL) (h0 : Heap) (hC : CS Z) (a vb s sb : Addr) (cd n c : Int32) (hcd : cd = 0 ∨ cd = 1) (vs ws : List Value) (j : Nat) (hj : (n <<< (cd &&& 31)).toInt = (j : Int)) (hfit : j + ws.length ≤ vs.length) (B : Sb Z h0 a cd c vb vs) (A : StrB Z h0 s cd sb ws) :
    Con l Z EL nw (⟨"java/lang/AbstractStringBuilder", "putStringAt", "(ILjava/lang/String;)V"⟩ : MethodName) jdk_68_method_73_code 3 (none) [] rmPSA #[.ref a, .int n, .ref s] h0 [vb] (fun v h S' => v = none ∧ Al Z h vb .byte (vs.take j ++ ws ++ vs.drop (j + ws.length)) ∧ Keep h0 h [vb] ∧ S' = []) := by
  refine Con.enter (a0 := a0) pn_16 hEL [.val (.ref a), .val (.int n), .val (.ref s)] (fun m => by first | (simp [entryFrame, mkF, argsToLocals, Value.category]; done) | rfl) ?_
  intro K G
  refine G.aloadN d18_0 rfl rfl ?_
  refine G.aloadN d18_1 rfl rfl ?_
  refine G.callP1 d18_2 (hw 100 rfl) (hw 101 rfl) (hw 102 rfl) (hw 104 rfl) (hw 60 rfl) (Nf.same (y := (⟨"java/lang/AbstractStringBuilder", "inflateIfNeededFor", "(Ljava/lang/String;)V"⟩ : MethodName)) (Nf.sel (hw 93 rfl)) (hw 91 rfl) rfl) pd_7 B.1 (cINF K.l Z a0 hw hEL h0 hC a vb s sb cd c hcd vs ws B A) (fun _ q => nomatch q) ?_
  rintro _ h0 _ ⟨rfl, rfl, rfl⟩ -
  refine G.aloadN d18_5 rfl rfl ?_
  refine G.aloadN d18_6 rfl rfl ?_
  refine G.getF d18_7 (hw 64 rfl) B.2.2.1 ?_
  refine G.iloadN d18_10 rfl ?_
  refine G.aloadN d18_11 rfl rfl ?_
  refine G.getF d18_12 (hw 66 rfl) B.2.1 ?_
  refine G.callV3 d18_15 (hw 106 rfl) (hw 107 rfl) (hw 109 rfl) (hw 108 rfl) (hw 110 rfl) (hw 10 rfl) pd_8 A.1 (cGBY K.l Z a0 hw hEL h0 hC s sb vb cd n hcd vs ws j hj hfit A B.2.2.2.2) (fun _ q => by simpa using q) ?_
  rintro _ h1 _ ⟨rfl, B1, K1, rfl⟩ -
  exact G.ret0 d18_18 [] (fun _ q => nomatch q) ⟨rfl, B1, K1, rfl⟩
abbrev rmABA : Room := { frames := 3, cells := 0, slots := 0, locals := 47 }
/-- append of a Latin-1 String to a Latin-1 builder with room -/
theorem cABA (l : Launch) (Z : State) (a0 : Array Value) (hw : hwT a0 Z) {EL : List (String × Nat)} {nw : Bool} (hEL : EW Z a0 EL) (h0 : Heap) (hC : CS Z) (a vb s sb : Addr) (n : Int32) (vs ws : List Value) (i : Nat) (hi : n.toInt = (i : Int)) (hv : vs.length = 16) (hfit : i + ws.length ≤ 16) (B : Sb Z h0 a 0 n vb vs) (A : StrB Z h0 s 0 sb ws) :
    Con l Z EL nw (⟨"java/lang/AbstractStringBuilder", "append", "(Ljava/lang/String;)Ljava/lang/AbstractStringBuilder;"⟩ : MethodName) jdk_68_method_22_code 3 (some (.object "java/lang/AbstractStringBuilder")) [] rmABA #[.ref a, .ref s] h0 [vb, a] (fun v h S' => v = some (.ref a) ∧ (∃ m : Int32, m.toInt = ((i + ws.length : Nat) : Int) ∧ Sb Z h a 0 m vb (vs.take i ++ ws ++ vs.drop (i + ws.length))) ∧ Keep h0 h [vb, a] ∧ S' = []) := by
  have hne : a ≠ vb := B.2.2.2.2.neExa B.1 (hw 51 rfl)
  refine Con.enter (a0 := a0) pn_17 hEL [.val (.ref a), .val (.ref s), .unset] (fun m => by first | (simp [entryFrame, mkF, argsToLocals, Value.category]; done) | rfl) ?_
  intro K G
  refine G.aloadN d14_0 rfl rfl ?_
  refine G.ifnonnullR d14_1 ?_
  refine G.aloadN d14_9 rfl rfl ?_
  refine G.callV0 d14_10 (hw 78 rfl) (hw 79 rfl) (hw 81 rfl) (hw 80 rfl) (hw 82 rfl) (hw 10 rfl) pd_5 A.1 (cLEN8 K.l Z a0 hw hEL h0 hC s sb ws A) (fun _ q => nomatch q) ?_
  rintro _ h0 _ ⟨⟨m, rfl, hm⟩, rfl, rfl⟩ -
  have hnm : (n + m).toInt = ((i + ws.length : Nat) : Int) := by
    have a1 := c_iadd n m
    have a2 := rng32 (n + m)
    omega
  refine G.istore2 d14_13 ?_
  refine G.aloadN d14_14 rfl rfl ?_
  refine G.aloadN d14_15 rfl rfl ?_
  refine G.getF d14_16 (hw 88 rfl) B.2.2.2.1 ?_
  refine G.iloadN d14_19 rfl ?_
  refine G.iadd d14_20 ?_
  refine G.callP1 d14_21 (hw 90 rfl) (hw 91 rfl) (hw 92 rfl) (hw 94 rfl) (hw 60 rfl) (Nf.same (y := (⟨"java/lang/AbstractStringBuilder", "ensureCapacityInternal", "(I)V"⟩ : MethodName)) (Nf.sel (hw 93 rfl)) (hw 91 rfl) rfl) pd_6 B.1 (cENS K.l Z a0 hw hEL h0 a vb 0 n (n + m) vs (by rw [shr0', len_toInt B.2.2.2.2.len, hv]; rfl) (by omega) B) (fun _ q => nomatch q) ?_
  rintro _ h0 _ ⟨rfl, rfl, rfl⟩ -
  refine G.aloadN d14_24 rfl rfl ?_
  refine G.aloadN d14_25 rfl rfl ?_
  refine G.getF d14_26 (hw 88 rfl) B.2.2.2.1 ?_
  refine G.aloadN d14_29 rfl rfl ?_
  refine G.callP2 d14_30 (hw 95 rfl) (hw 96 rfl) (hw 97 rfl) (hw 99 rfl) (hw 60 rfl) (Nf.same (y := (⟨"java/lang/AbstractStringBuilder", "putStringAt", "(ILjava/lang/String;)V"⟩ : MethodName)) (Nf.sel (hw 93 rfl)) (hw 91 rfl) rfl) pd_9 B.1 (cPSA K.l Z a0 hw hEL h0 hC a vb s sb 0 n n (Or.inl rfl) vs ws i (by rw [shl0']; exact hi) (by omega) B A) (fun _ q => by simp at q ⊢; exact Or.inl q) ?_
  rintro _ h1 _ ⟨rfl, B1, K1, rfl⟩ -
  have na : a ∉ [vb] := ninS hne nin0
  have F3 := B.2.2.2.1.keep K1 na
  have E1 := B.1.keep K1
  refine G.aloadN d14_33 rfl rfl ?_
  refine G.dup d14_34 ?_
  refine G.getF d14_35 (hw 88 rfl) F3 ?_
  refine G.iloadN d14_38 rfl ?_
  refine G.iadd d14_39 ?_
  refine G.putF d14_40 (hw 88 rfl) F3 E1 (by simp) (Or.inl (hw 89 rfl)) (hw 51 rfl) (ty := .int) (by decide) rfl rfl (fun h2 W2 F3 E2 => ?_)
  have F1 := Fld.oth (B.2.1.keep K1 na) W2 (Or.inl (hw 67 rfl)) (Or.inl (hw 89 rfl)) (by decide) (by decide) (by decide)
  have F2 := Fld.oth (B.2.2.1.keep K1 na) W2 (Or.inl (hw 65 rfl)) (Or.inl (hw 89 rfl)) (by decide) (by decide) (by decide)
  refine G.aloadN d14_43 rfl rfl ?_
  refine G.aret d14_44 [] (fun _ q => nomatch q) ⟨rfl, ⟨_, hnm, E2, F1, F2, F3, B1.other W2 (Ne.symm hne)⟩, ?_, rfl⟩
  exact ((Keep.refl _ _).trans K1 (fun x q => Or.inl (by cases List.mem_singleton.mp q; simp))).wr W2 (Or.inl (by simp))
abbrev rmSBA : Room := { frames := 4, cells := 0, slots := 0, locals := 61 }
theorem cSBA (l : Launch) (Z : State) (a0 : Array Value) (hw : hwT a0 Z) {EL : List (String × Nat)} {nw : Bool} (hEL : EW Z a0 EL) (h0 : Heap) (hC : CS Z) (a vb s sb : Addr) (n : Int32) (vs ws : List Value) (i : Nat) (hi : n.toInt = (i : Int)) (hv : vs.length = 16) (hfit : i + ws.length ≤ 16) (B : Sb Z h0 a 0 n vb vs) (A : StrB Z h0 s 0 sb ws) :
    Con l Z EL nw (⟨"java/lang/StringBuilder", "append", "(Ljava/lang/String;)Ljava/lang/StringBuilder;"⟩ : MethodName) jdk_67_method_7_code 2 (some (.object "java/lang/StringBuilder")) [] rmSBA #[.ref a, .ref s] h0 [vb, a] (fun v h S' => v = some (.ref a) ∧ (∃ m : Int32, m.toInt = ((i + ws.length : Nat) : Int) ∧ Sb Z h a 0 m vb (vs.take i ++ ws ++ vs.drop (i + ws.length))) ∧ Keep h0 h [vb, a] ∧ S' = []) := by
  refine Con.enter (a0 := a0) pn_18 hEL [.val (.ref a), .val (.ref s)] (fun m => by first | (simp [entryFrame, mkF, argsToLocals, Value.category]; done) | rfl) ?_
  intro K G
  refine G.aloadN d13_0 rfl rfl ?_
  refine G.aloadN d13_1 rfl rfl ?_
  refine G.callU1 d13_2 (hw 73 rfl) (Nf.same (y := (⟨"java/lang/AbstractStringBuilder", "append", "(Ljava/lang/String;)Ljava/lang/AbstractStringBuilder;"⟩ : MethodName)) (Nf.sel (hw 93 rfl)) (hw 91 rfl) rfl) (hw 74 rfl) (hw 75 rfl) (hw 77 rfl) (hw 60 rfl) pd_10 B.1 (cABA K.l Z a0 hw hEL h0 hC a vb s sb n vs ws i hi hv hfit B A) (fun _ q => q) ?_
  rintro _ h1 _ ⟨rfl, B1, K1, rfl⟩ -
  refine G.pop d13_5 ?_
  refine G.aloadN d13_6 rfl rfl ?_
  exact G.aret d13_7 [] (fun _ q => nomatch q) ⟨rfl, B1, K1, rfl⟩
theorem cCKL (l : Launch) (Z : State) (a0 : Array Value) (hw : hwT a0 Z) {EL : List (String × Nat)} {nw : Bool} (hEL : EW Z a0 EL) (h0 : Heap) (n : Int32) (hn : 0 ≤ n.toInt) : Con l Z EL nw (⟨"java/util/Arrays", "checkLength", "(II)V"⟩ : MethodName) jdk_65_method_131_code 2 (none) [] rm0 #[.int 0, .int n] h0 [] (fun v h S' => v = none ∧ h = h0 ∧ S' = []) := by
  refine Con.enter (a0 := a0) pn_19 hEL [.val (.int 0), .val (.int n)] (fun m => by first | (simp [entryFrame, mkF, argsToLocals, Value.category]; done) | rfl) ?_
  intro K G
  refine G.iloadN d30_0 rfl ?_
  refine G.iloadN d30_1 rfl ?_
  refine G.icmp_ge d30_2 (fun _ => ?_) (fun q => absurd q (not_lt_of_toInt (by rw [toInt_0]; exact hn)))
  exact G.ret0 d30_37 [] (fun _ q => nomatch q) ⟨rfl, rfl, rfl⟩
theorem cMIN (l : Launch) (Z : State) (a0 : Array Value) (hw : hwT a0 Z) {EL : List (String × Nat)} {nw : Bool} (hEL : EW Z a0 EL) (h0 : Heap) (x y : Int32) (hxy : y.toInt ≤ x.toInt) : Con l Z EL nw (⟨"java/lang/Math", "min", "(II)I"⟩ : MethodName) jdk_29_method_69_code 2 (some .int) [] rm0 #[.int x, .int y] h0 [] (fun v h S' => (∃ m : Int32, v = some (.int m) ∧ m.toInt = y.toInt) ∧ h = h0 ∧ S' = []) := by
  refine Con.enter (a0 := a0) pn_20 hEL [.val (.int x), .val (.int y)] (fun m => by first | (simp [entryFrame, mkF, argsToLocals, Value.category]; done) | rfl) ?_
  intro K G
  refine G.iloadN d31_0 rfl ?_
  refine G.iloadN d31_1 rfl ?_
  refine G.icmp_gt d31_2 (fun _ => ?_) (fun q => ?_)
  · refine G.iloadN d31_9 rfl ?_
    exact G.iret d31_10 [] (fun _ q => nomatch q) ⟨⟨_, rfl, rfl⟩, rfl, rfl⟩
  · rw [Int32.lt_iff_toInt_lt] at q
    refine G.iloadN d31_5 rfl ?_
    refine G.goto d31_6 ?_
    exact G.iret d31_10 [] (fun _ q => nomatch q) ⟨⟨_, rfl, by omega⟩, rfl, rfl⟩
abbrev rmCORB : Room := { frames := 1, cells := 1, slots := 32, locals := 18 }
theorem cCORB (l : Launch) (Z : State) (a0 : Array Value) (hw : hwT a0 Z) {EL : List (String × Nat)} {nw : Bool} (hEL : EW Z a0 EL) (h0 : Heap) (b : Addr) (vs : List Value) (n : Int32) (i : Nat) (hn : n.toInt = (i : Int)) (hi : i ≤ 32) (hv : i ≤ vs.length) (B : Al Z h0 b .byte vs) :
    Con l Z EL nw (⟨"java/util/Arrays", "copyOfRangeByte", "([BII)[B"⟩ : MethodName) jdk_65_method_133_code 5 (some (.array .byte)) [] rmCORB #[.ref b, .int 0, .int n] h0 [] (fun v h S' => (∃ c, v = some (.ref c) ∧ h0.size ≤ c ∧ Al Z h c .byte (vs.take i)) ∧ Ext h0 h ∧ S' = []) := by
  refine Con.enter (a0 := a0) pn_21 hEL [.val (.ref b), .val (.int 0), .val (.int n), .unset, .unset] (fun m => by first | (simp [entryFrame, mkF, argsToLocals, Value.category]; done) | rfl) ?_
  intro K G
  refine G.iloadN d29_0 rfl ?_
  refine G.iloadN d29_1 rfl ?_
  refine G.callS2 d29_2 (hw 155 rfl) (hw 156 rfl) (hw 150 rfl) (hw 157 rfl) pd_11 (cCKL K.l Z a0 hw hEL h0 n (by omega)) (fun _ q => nomatch q) ?_
  rintro _ h0 _ ⟨rfl, rfl, rfl⟩ -
  refine G.iloadN d29_5 rfl ?_
  refine G.iloadN d29_6 rfl ?_
  refine G.isub d29_7 ?_
  refine G.istore3 d29_8 ?_
  refine G.iloadN d29_9 rfl ?_
  have e := sub0 n
  refine G.newA i 32 d29_10 (hw 26 rfl) (by rw [e]; exact hn) hi (fun h1 E1 L1 A1 => ?_)
  refine G.astore4 d29_12 ?_
  refine G.aloadN d29_14 rfl rfl ?_
  refine G.iloadN d29_15 rfl ?_
  refine G.aload d29_16 rfl rfl ?_
  refine G.iconst 0 d29_18 ?_
  refine G.aloadN d29_19 rfl rfl ?_
  refine G.alen (Int32.ofNat vs.length) d29_20 (B.ext E1) (len_toInt B.len) ?_
  refine G.iloadN d29_21 rfl ?_
  refine G.isub d29_22 ?_
  refine G.iloadN d29_23 rfl ?_
  refine G.callS2 d29_24 (hw 158 rfl) (hw 159 rfl) (hw 160 rfl) (hw 161 rfl) pd_12 (cMIN K.l Z a0 hw hEL h1 _ _ (by rw [sub0, sub0, len_toInt B.len, hn]; omega)) (fun _ q => nomatch q) ?_
  rintro _ h1' _ ⟨⟨m, rfl, hm⟩, rfl, rfl⟩ -
  refine G.acopy 0 0 i d29_27 (hw 162 rfl) (hw 114 rfl) (hw 112 rfl) (hw 113 rfl) (B.ext E1) A1 rfl (by simp) (by decide) (by decide) (by rw [hm, e, hn]) (by omega) (by simp) (fun h2 K2 B2 => ?_)
  refine G.aload d29_30 rfl rfl ?_
  refine G.aret d29_32 [] (fun _ q => nomatch q) ⟨⟨_, rfl, Nat.le_refl _, by simpa using B2⟩, ?_, rfl⟩
  exact keep_nil_ext ((ext_keep E1 []).trans K2 (fun x q => by cases List.mem_singleton.mp q; exact Or.inr (Nat.le_refl _)))
abbrev rmCOR : Room := { frames := 2, cells := 1, slots := 32, locals := 34 }
theorem cCOR (l : Launch) (Z : State) (a0 : Array Value) (hw : hwT a0 Z) {EL : List (String × Nat)} {nw : Bool} (hEL : EW Z a0 EL) (h0 : Heap) (b : Addr) (vs : List Value) (n : Int32) (i : Nat) (hn : n.toInt = (i : Int)) (hi : i ≤ 32) (hv : i < vs.length) (B : Al Z h0 b .byte vs) :
    Con l Z EL nw (⟨"java/util/Arrays", "copyOfRange", "([BII)[B"⟩ : MethodName) jdk_65_method_132_code 3 (some (.array .byte)) [] rmCOR #[.ref b, .int 0, .int n] h0 [] (fun v h S' => (∃ c, v = some (.ref c) ∧ h0.size ≤ c ∧ Al Z h c .byte (vs.take i)) ∧ Ext h0 h ∧ S' = []) := by
  refine Con.enter (a0 := a0) pn_22 hEL [.val (.ref b), .val (.int 0), .val (.int n)] (fun m => by first | (simp [entryFrame, mkF, argsToLocals, Value.category]; done) | rfl) ?_
  intro K G
  refine G.iloadN d28_0 rfl ?_
  refine G.if_ne d28_1 (fun q => absurd rfl q) (fun _ => ?_)
  refine G.iloadN d28_4 rfl ?_
  refine G.aloadN d28_5 rfl rfl ?_
  refine G.alen (Int32.ofNat vs.length) d28_6 B (len_toInt B.len) ?_
  refine G.icmp_eq d28_7 (fun q => absurd (congrArg Int32.toInt q) (by rw [hn, len_toInt B.len]; omega)) (fun _ => ?_)
  refine G.aloadN d28_10 rfl rfl ?_
  refine G.iloadN d28_11 rfl ?_
  refine G.iloadN d28_12 rfl ?_
  refine G.callS3 d28_13 (hw 152 rfl) (hw 153 rfl) (hw 150 rfl) (hw 154 rfl) pd_13 (cCORB K.l Z a0 hw hEL h0 b vs n i hn hi (by omega) B) (fun _ q => nomatch q) ?_
  rintro _ h1 _ ⟨⟨c, rfl, hc, B1⟩, E1, rfl⟩ -
  exact G.aret d28_16 [] (fun _ q => nomatch q) ⟨⟨c, rfl, hc, B1⟩, E1, rfl⟩
abbrev rmSIAB : Room := { frames := 3, cells := 1, slots := 32, locals := 49 }
theorem cSIAB (l : Launch) (Z : State) (a0 : Array Value) (hw : hwT a0 Z) {EL : List (String × Nat)} {nw : Bool} (hEL : EW Z a0 EL) (h0 : Heap) (hC : CS Z) (t a vb : Addr) (n : Int32) (i : Nat) (hn : n.toInt = (i : Int)) (vs : List Value) (hi : i < vs.length) (hv : vs.length ≤ 32) (E : Exa Z h0 t SN) (D : ∀ {O fn d : String} {ty : FieldType}, Laid Z a0 SN O fn d → parseFieldDescriptor d = some ty → Fld Z h0 t O fn d (defaultValue ty)) (B : Sb Z h0 a 0 n vb vs) :
    Con l Z EL nw (⟨"java/lang/String", "<init>", "(Ljava/lang/AbstractStringBuilder;Ljava/lang/Void;)V"⟩ : MethodName) jdk_42_method_150_code 5 (none) [] rmSIAB #[.ref t, .ref a, .null] h0 [t] (fun v h S' => v = none ∧ (∃ c, StrB Z h t 0 c (vs.take i)) ∧ Keep h0 h [t] ∧ S' = []) := by
  have hne : t ≠ vb := B.2.2.2.2.neExa E (hw 9 rfl)
  refine Con.enter (a0 := a0) pn_23 hEL [.val (.ref t), .val (.ref a), .val (.null), .unset, .unset] (fun m => by first | (simp [entryFrame, mkF, argsToLocals, Value.category]; done) | rfl) ?_
  intro K G
  have F1 := D (Or.inr (hw 34 rfl)) (ty := .byte) (by decide)
  have F2 := D (Or.inr (hw 36 rfl)) (ty := .array .byte) (by decide)
  clear D
  refine G.aloadN d23_0 rfl rfl ?_
  refine G.initO d23_1 (hw 18 rfl) (hw 19 rfl) (hw 20 rfl) ?_
  refine G.aloadN d23_4 rfl rfl ?_
  refine G.callV0 d23_5 (hw 130 rfl) (hw 131 rfl) (hw 133 rfl) (hw 132 rfl) (hw 134 rfl) (hw 60 rfl) pd_14 B.1 (cGVL K.l Z a0 hw hEL h0 a vb 0 n vs B) (fun _ q => nomatch q) ?_
  rintro _ h0 _ ⟨rfl, rfl, rfl⟩ -
  refine G.astore3 d23_8 ?_
  refine G.aloadN d23_9 rfl rfl ?_
  refine G.callW0 (Nf.same (y := (⟨"java/lang/AbstractStringBuilder", "length", "()I"⟩ : MethodName)) (Nf.sel (hw 93 rfl)) (hw 91 rfl) rfl) d23_10 (hw 135 rfl) (hw 136 rfl) (hw 138 rfl) (hw 139 rfl) (hw 140 rfl) (hw 52 rfl) pd_5 B.1 (cSBL K.l Z a0 hw hEL h0 a vb 0 n vs B) (fun _ q => nomatch q) ?_
  rintro _ h0 _ ⟨rfl, rfl, rfl⟩ -
  refine G.istore4 d23_13 ?_
  refine G.aloadN d23_15 rfl rfl ?_
  refine G.callV0 d23_16 (hw 143 rfl) (hw 144 rfl) (hw 146 rfl) (hw 145 rfl) (hw 147 rfl) (hw 60 rfl) pd_15 B.1 (cABIL K.l Z a0 hw hEL h0 hC a vb 0 n vs B) (fun _ q => nomatch q) ?_
  rintro _ h0 _ ⟨rfl, rfl, rfl⟩ -
  refine G.if_eq d23_19 (fun q => absurd q (by decide)) (fun _ => ?_)
  refine G.aloadN d23_22 rfl rfl ?_
  refine G.iconst 0 d23_23 ?_
  refine G.putF d23_24 (hw 33 rfl) F1 E (by simp) (Or.inr ⟨(hw 34 rfl), rfl, rfl⟩) (hw 9 rfl) (ty := .byte) (by decide) rfl rfl (fun h1 W1 F1 E => ?_)
  have F2' := Fld.oth F2 W1 (Or.inr (hw 36 rfl)) (Or.inr (hw 34 rfl)) (by decide) (by decide) (by decide)
  refine G.aloadN d23_27 rfl rfl ?_
  refine G.aloadN d23_28 rfl rfl ?_
  refine G.iconst 0 d23_29 ?_
  refine G.iload d23_30 rfl ?_
  refine G.callS3 d23_32 (hw 148 rfl) (hw 149 rfl) (hw 150 rfl) (hw 151 rfl) pd_13 (cCOR K.l Z a0 hw hEL h1 vb vs n i hn (by omega) hi (B.2.2.2.2.other W1 (Ne.symm hne))) (fun _ q => nomatch q) ?_
  rintro _ h2 _ ⟨⟨c, rfl, hc, B2⟩, E2, rfl⟩ -
  have hct : c ≠ t := fun q => Nat.lt_irrefl _ (Nat.lt_of_lt_of_le E.lt (q ▸ hc))
  refine G.putF d23_35 (hw 35 rfl) (F2'.ext E2) (E.ext E2) (by simp) (Or.inr ⟨(hw 36 rfl), rfl, rfl⟩) (hw 9 rfl) (ty := (.array .byte)) (by decide) rfl rfl (fun h3 W3 F2 E => ?_)
  have F1' := Fld.oth (F1.ext E2) W3 (Or.inr (hw 34 rfl)) (Or.inr (hw 36 rfl)) (by decide) (by decide) (by decide)
  refine G.goto d23_38 ?_
  refine G.ret0 d23_97 [] (fun _ q => nomatch q) ⟨rfl, ⟨c, E, F1', F2, B2.other W3 hct⟩, ?_, rfl⟩
  exact ((((Keep.refl _ [t]).wr W1 (Or.inl (List.mem_singleton.mpr rfl))).ext E2).wr W3 (Or.inl (List.mem_singleton.mpr rfl)))
abbrev rmSISB : Room := { frames := 4, cells := 1, slots := 32, locals := 65 }
theorem cSISB (l : Launch) (Z : State) (a0 : Array Value) (hw : hwT a0 Z) {EL : List (String × Nat)} {nw : Bool} (hEL : EW Z a0 EL) (h0 : Heap) (hC : CS Z) (t a vb : Addr) (n : Int32) (i : Nat) (hn : n.toInt = (i : Int)) (vs : List Value) (hi : i < vs.length) (hv : vs.length ≤ 32) (E : Exa Z h0 t SN) (D : ∀ {O fn d : String} {ty : FieldType}, Laid Z a0 SN O fn d → parseFieldDescriptor d = some ty → Fld Z h0 t O fn d (defaultValue ty)) (B : Sb Z h0 a 0 n vb vs) :
    Con l Z EL nw (⟨"java/lang/String", "<init>", "(Ljava/lang/StringBuilder;)V"⟩ : MethodName) jdk_42_method_53_code 2 (none) [] rmSISB #[.ref t, .ref a] h0 [t] (fun v h S' => v = none ∧ (∃ c, StrB Z h t 0 c (vs.take i)) ∧ Keep h0 h [t] ∧ S' = []) := by
  refine Con.enter (a0 := a0) pn_24 hEL [.val (.ref t), .val (.ref a)] (fun m => by first | (simp [entryFrame, mkF, argsToLocals, Value.category]; done) | rfl) ?_
  intro K G
  refine G.aloadN d22_0 rfl rfl ?_
  refine G.aloadN d22_1 rfl rfl ?_
  refine G.aconstNull d22_2 ?_
  refine G.callI2 d22_3 (hw 127 rfl) (hw 128 rfl) (hw 10 rfl) (hw 129 rfl) pd_16 (cSIAB K.l Z a0 hw hEL h0 hC t a vb n i hn vs hi hv E D B) (fun _ q => q) ?_
  rintro _ h1 _ ⟨rfl, B1, K1, rfl⟩ -
  exact G.ret0 d22_6 [] (fun _ q => nomatch q) ⟨rfl, B1, K1, rfl⟩
abbrev rmTOS : Room := { frames := 5, cells := 2, slots := 36, locals := 79 }
theorem cTOS (l : Launch) (Z : State) (a0 : Array Value) (hw : hwT a0 Z) {EL : List (String × Nat)} {nw : Bool} (hEL : EW Z a0 EL) (h0 : Heap) (hC : CS Z) (a vb : Addr) (n : Int32) (i : Nat) (hn : n.toInt = (i : Int)) (vs : List Value) (hi : i < vs.length) (hv : vs.length ≤ 32) (B : Sb Z h0 a 0 n vb vs) :
    Con l Z EL nw (⟨"java/lang/StringBuilder", "toString", "()Ljava/lang/String;"⟩ : MethodName) jdk_67_method_42_code 1 (some (.object "java/lang/String")) [] rmTOS #[.ref a] h0 [] (fun v h S' => (∃ t c, v = some (.ref t) ∧ StrB Z h t 0 c (vs.take i)) ∧ Ext h0 h ∧ S' = []) := by
  refine Con.enter (a0 := a0) pn_25 hEL [.val (.ref a)] (fun m => by first | (simp [entryFrame, mkF, argsToLocals, Value.category]; done) | rfl) ?_
  intro K G
  refine G.newO d21_0 (hw 123 rfl) (hw 9 rfl) (hw 10 rfl) (fun h1 E1 L1 A1 => ?_)
  refine G.dup d21_3 ?_
  refine G.aloadN d21_4 rfl rfl ?_
  refine G.callI1 d21_5 (hw 124 rfl) (hw 125 rfl) (hw 10 rfl) (hw 126 rfl) pd_17 (cSISB K.l Z a0 hw hEL h1 hC h0.size a vb n i hn vs hi hv A1.1 A1.2 (B.ext E1)) (by simp) ?_
  rintro _ h2 _ ⟨rfl, ⟨c, T2⟩, K2, rfl⟩ -
  refine G.aret d21_8 [] (fun _ q => nomatch q) ⟨⟨_, c, rfl, T2⟩, ?_, rfl⟩
  exact keep_nil_ext ((ext_keep E1 []).trans K2 (fun x q => by cases List.mem_singleton.mp q; exact Or.inr (Nat.le_refl _)))
theorem take_len_app {α : Type} (A B : List α) : (A ++ B).take A.length = A := by simp
abbrev rmPRE : Room := { frames := 6, cells := 6, slots := 72, locals := 91 }
theorem cPRE (l : Launch) (Z : State) (a0 : Array Value) (hw : hwT a0 Z) (h0 : Heap) (hC : CS Z) (rd wr : Addr) (hM : MS Z rd wr) (o ob m : Addr) (cs : List Int32) (hl : cs.length ≤ 12) (A : StrB Z h0 o 0 ob (cs.map bL)) :
    Con l Z EL1 false (⟨"com/example/bounded_lock/boundedlock/zookeeper/RequestNode", "prefix", "(Ljava/lang/String;Lcom/example/bounded_lock/boundedlock/Mode;)Ljava/lang/String;"⟩ : MethodName) prog_21_method_3_code 2 (some (.object "java/lang/String")) [] rmPRE #[.ref o, .ref m] h0 [] (fun v h S' => (∃ t c, v = some (.ref t) ∧ (m = wr → StrB Z h t 0 c ((cs ++ [45, 87, 45]).map bL)) ∧ (m ≠ wr → StrB Z h t 0 c ((cs ++ [45, 82, 45]).map bL))) ∧ Ext h0 h ∧ S' = []) := by
  have hEL := hEL1 hw
  obtain ⟨M1, M2, M3⟩ := hM
  refine Con.enter (a0 := a0) pn_26 hEL [.val (.ref o), .val (.ref m)] (fun m => by first | (simp [entryFrame, mkF, argsToLocals, Value.category]; done) | rfl) ?_
  intro K G
  refine G.newO d10_0 (hw 50 rfl) (hw 51 rfl) (hw 52 rfl) (fun h1 E1 L1 A1 => ?_)
  refine G.dup d10_3 ?_
  refine G.callI0 d10_4 (hw 53 rfl) (hw 54 rfl) (hw 52 rfl) (hw 55 rfl) pd_18 (cSBI K.l Z a0 hw hEL h1 hC h0.size A1.1 A1.2) (by simp) ?_
  rintro _ h2 _ ⟨rfl, ⟨vb, hvb, rfl, B2⟩, K2⟩ -
  have X2 : Keep h0 h2 [] := (ext_keep E1 []).trans K2 (fun x q => by cases List.mem_singleton.mp q; exact Or.inr (Nat.le_refl _))
  have hvb0 : h0.size ≤ vb := Nat.le_trans (Nat.le_of_lt L1) hvb
  refine G.aloadN d10_7 rfl rfl ?_
  refine G.callV1 d10_8 (hw 68 rfl) (hw 69 rfl) (hw 71 rfl) (hw 70 rfl) (hw 72 rfl) (hw 52 rfl) pd_19 B2.1 (cSBA K.l Z a0 hw hEL h2 hC h0.size vb o ob 0 (List.replicate 16 (.int 0)) (cs.map bL) 0 (by decide) (by simp) (by simp; omega) B2 (A.keep X2 nin0 nin0)) (fun _ q => by simpa using q) ?_
  rintro _ h3 _ ⟨rfl, ⟨n3, hn3, B3⟩, K3, rfl⟩ -
  have e3 : (List.replicate 16 (Value.int 0)).take 0 ++ cs.map bL ++ (List.replicate 16 (Value.int 0)).drop (0 + (cs.map bL).length) = cs.map bL ++ List.replicate (16 - cs.length) (.int 0) := by rw [List.take_zero, List.nil_append, Nat.zero_add, List.length_map, List.drop_replicate]
  rw [e3] at B3
  rw [List.length_map, Nat.zero_add] at hn3
  have X3 : Keep h0 h3 [] := X2.trans K3 (fun x q => by rcases List.mem_cons.mp q with rfl | q; exact Or.inr hvb0; cases List.mem_singleton.mp q; exact Or.inr (Nat.le_refl _))
  have fin : ∀ (h : Heap) (s sb : Addr) (d : Int32), Ext h3 h → StrB Z h s 0 sb (([45, d, 45] : List Int32).map bL) → ((m = wr ∧ d = 87) ∨ (m ≠ wr ∧ d = 82)) → Go Z EL1 false rmPRE (fun v h S' => (∃ t c, v = some (.ref t) ∧ (m = wr → StrB Z h t 0 c ((cs ++ [45, 87, 45]).map bL)) ∧ (m ≠ wr → StrB Z h t 0 c ((cs ++ [45, 82, 45]).map bL))) ∧ Ext h0 h ∧ S' = []) K h [vb, h0.size] 4 36 25 [.val (.ref o), .val (.ref m)] [.ref s, .ref h0.size] := by
    intro h s sb d E4 T4 hd
    refine G.callV1 d10_25 (hw 68 rfl) (hw 69 rfl) (hw 71 rfl) (hw 70 rfl) (hw 72 rfl) (hw 52 rfl) pd_19 (B3.ext E4).1 (cSBA K.l Z a0 hw hEL h hC h0.size vb s sb n3 _ (([45, d, 45] : List Int32).map bL) cs.length hn3 (by simp; omega) (by simp; omega) (B3.ext E4) T4) (fun _ q => q) ?_
    rintro _ h5 _ ⟨rfl, ⟨n5, hn5, B5⟩, K5, rfl⟩ -
    have X5 : Keep h0 h5 [] := (X3.ext E4).trans K5 (fun x q => by rcases List.mem_cons.mp q with rfl | q; exact Or.inr hvb0; cases List.mem_singleton.mp q; exact Or.inr (Nat.le_refl _))
    refine G.callV0 d10_28 (hw 118 rfl) (hw 119 rfl) (hw 121 rfl) (hw 120 rfl) (hw 122 rfl) (hw 52 rfl) pd_20 B5.1 (cTOS K.l Z a0 hw hEL h5 hC h0.size vb n5 (cs.length + 3) (by rw [hn5]; simp) _ (by simp; omega) (by simp; omega) B5) (fun _ q => nomatch q) ?_
    rintro _ h6 _ ⟨⟨t, c, rfl, T6⟩, E6, rfl⟩ -
    have e6 : ((cs.map bL ++ List.replicate (16 - cs.length) (Value.int 0)).take cs.length ++ ([45, d, 45] : List Int32).map bL ++ (cs.map bL ++ List.replicate (16 - cs.length) (Value.int 0)).drop (cs.length + (([45, d, 45] : List Int32).map bL).length)).take (cs.length + 3) = (cs ++ [45, d, 45]).map bL := by
      have e1 : (cs.map bL ++ List.replicate (16 - cs.length) (Value.int 0)).take cs.length = cs.map bL := by
        have := take_len_app (cs.map bL) (List.replicate (16 - cs.length) (Value.int 0))
        rwa [List.length_map] at this
      rw [e1, ← List.map_append]
      have := take_len_app ((cs ++ [45, d, 45]).map bL) ((cs.map bL ++ List.replicate (16 - cs.length) (Value.int 0)).drop (cs.length + (([45, d, 45] : List Int32).map bL).length))
      rwa [List.length_map, List.length_append, show ([45, d, 45] : List Int32).length = 3 from rfl] at this
    rw [e6] at T6
    refine G.aret d10_31 [] (fun _ q => nomatch q) ⟨⟨t, c, rfl, ?_, ?_⟩, keep_nil_ext (X5.ext E6), rfl⟩
    · intro q
      rcases hd with ⟨-, rfl⟩ | ⟨q2, -⟩
      · exact T6
      · exact absurd q q2
    · intro q
      rcases hd with ⟨q2, -⟩ | ⟨-, rfl⟩
      · exact absurd q2 q
      · exact T6
  refine G.aloadN d10_11 rfl rfl ?_
  refine G.getS d10_12 (hw 115 rfl) M2 ?_
  refine G.acmp_ne d10_15 (fun q => ?_) (fun q => ?_)
  · refine G.ldcS 12 (([45, 82, 45] : List Int32).map bL) 3 d10_23 (hw 117 rfl) (hSA Z a0 hw) rfl (by simp) ⟨by decide, by decide⟩ (by decide) (by decide) (by decide) (by decide) (fun sa sb h4 E4 T4 N4 => ?_)
    refine Go.fewer (S' := [vb, h0.size]) ?_ (by simp)
    exact fin h4 sa sb 82 E4 T4 (Or.inr ⟨fun z => q (by rw [z]), rfl⟩)
  · refine G.ldcS 12 (([45, 87, 45] : List Int32).map bL) 3 d10_18 (hw 174 rfl) (hSA Z a0 hw) rfl (by simp) ⟨by decide, by decide⟩ (by decide) (by decide) (by decide) (by decide) (fun sa sb h4 E4 T4 N4 => ?_)
    refine G.goto d10_20 ?_
    refine Go.fewer (S' := [vb, h0.size]) ?_ (by simp)
    exact fin h4 sa sb 87 E4 T4 (Or.inl ⟨by injection q, rfl⟩)
theorem cMIS (l : Launch) (Z : State) (a0 : Array Value) (hw : hwT a0 Z) (h0 : Heap) (a b : Addr) (xs ys : List Int32) (n : Int32) (hn : n.toInt = (ys.length : Int)) (hm : ys.length ≤ 7) (hxy : ys.length ≤ xs.length) (A : Al Z h0 a .byte (xs.map .int)) (B : Al Z h0 b .byte (ys.map .int)) :
    Con l Z EL1 false (⟨"jdk/internal/util/ArraysSupport", "mismatch", "([BI[BII)I"⟩ : MethodName) jdk_48_method_14_code 8 (some .int) [] rm0 #[.ref a, .int 0, .ref b, .int 0, .int n] h0 [] (fun v h S' => (∃ r : Int32, v = some (.int r) ∧ (r.toInt < 0 ↔ ys <+: xs)) ∧ h = h0 ∧ S' = []) := by
  have hEL := hEL1 hw
  refine Con.enter (a0 := a0) pn_27 hEL [.val (.ref a), .val (.int 0), .val (.ref b), .val (.int 0), .val (.int n), .unset, .unset, .unset] (fun m => by first | (simp [entryFrame, mkF, argsToLocals, Value.category]; done) | rfl) ?_
  intro K G
  have k7 : (7 : Int32).toInt = 7 := by decide
  refine G.iconst 0 d34_0 ?_
  refine G.istore5 d34_1 ?_
  refine G.iload d34_3 rfl ?_
  refine G.bipush 7 d34_5 ?_
  refine G.icmp_le d34_7 (fun _ => ?_) (fun q => absurd q (not_lt_of_toInt (by rw [hn, k7]; omega)))
  have loop : ∀ (rest xr done : List Int32) (i : Int32), done ++ rest = ys → done ++ xr = xs → rest.length ≤ xr.length → i.toInt = (done.length : Int) →
      Go Z EL1 false rm0 (fun v h S' => (∃ r : Int32, v = some (.int r) ∧ (r.toInt < 0 ↔ ys <+: xs)) ∧ h = h0 ∧ S' = []) K h0 [] 0 0 70 [.val (.ref a), .val (.int 0), .val (.ref b), .val (.int 0), .val (.int n), .val (.int i), .unset, .unset] [] := by
    intro rest
    induction rest with
    | nil =>
      intro xr done i hd hx hl hi
      refine G.iload d34_70 rfl ?_
      refine G.iload d34_72 rfl ?_
      refine G.icmp_ge d34_74 (fun _ => ?_) (fun q => absurd q (not_lt_of_toInt (by rw [hi, hn, ← hd]; simp)))
      refine G.iconst (-1) d34_101 ?_
      refine G.iret d34_102 [] (fun _ q => nomatch q) ⟨⟨_, rfl, ⟨fun _ => ?_, fun _ => by decide⟩⟩, rfl, rfl⟩
      rw [← hd, ← hx, List.append_nil]
      exact List.prefix_append _ _
    | cons y rest ih =>
      intro xr done i hd hx hl hi
      cases xr with
      | nil => simp at hl
      | cons x xr =>
        have hlen : ys.length = done.length + (rest.length + 1) := by rw [← hd]; simp
        have hi0 : (0 + i).toInt = (done.length : Int) := by
          have a1 := c_iadd 0 i
          have a2 := rng32 (0 + i)
          rw [toInt_0] at a1
          omega
        refine G.iload d34_70 rfl ?_
        refine G.iload d34_72 rfl ?_
        refine G.icmp_ge d34_74 (fun q => absurd (lt_of_toInt (by rw [hi, hn, hlen]; omega)) q) (fun _ => ?_)
        refine G.aloadN d34_77 rfl rfl ?_
        refine G.iloadN d34_78 rfl ?_
        refine G.iload d34_79 rfl ?_
        refine G.iadd d34_81 ?_
        refine G.baload d34_82 A hi0 (v := .int x) (by rw [← hx]; simp) ?_
        refine G.aloadN d34_83 rfl rfl ?_
        refine G.iloadN d34_84 rfl ?_
        refine G.iload d34_85 rfl ?_
        refine G.iadd d34_87 ?_
        refine G.baload d34_88 B hi0 (v := .int y) (by rw [← hd]; simp) ?_
        refine G.icmp_eq d34_89 (fun q => ?_) (fun q => ?_)
        · subst q
          refine G.iinc5 1 d34_95 ?_
          refine G.goto d34_98 ?_
          exact ih xr (done ++ [x]) (i + 1) (by simp [hd]) (by simp [hx]) (by simp at hl; omega) (by rw [inc_toInt hi (by omega)]; simp)
        · refine G.iload d34_92 rfl ?_
          refine G.iret d34_94 [] (fun _ q => nomatch q) ⟨⟨_, rfl, ⟨fun z => by omega, fun z => ?_⟩⟩, rfl, rfl⟩
          rw [← hd, ← hx, List.prefix_append_right_inj] at z
          exact absurd (List.cons_prefix_cons.mp z).1.symm q
  exact loop ys xs [] 0 rfl rfl hxy toInt_0
theorem map8_prefix {cs ds : List Int32} (hc : Lat cs) (hd : Lat ds) : (ds.map fun c => c.toInt8.toInt32) <+: (cs.map fun c => c.toInt8.toInt32) ↔ ds <+: cs := by
  constructor
  · intro q
    induction ds generalizing cs with
    | nil => exact List.nil_prefix
    | cons y ys ih =>
      cases cs with
      | nil => simp at q
      | cons x xs =>
        simp only [List.map_cons, List.cons_prefix_cons] at q
        have e := bL_inj (hd y (by simp)) (hc x (by simp)) q.1
        rw [e]
        exact List.cons_prefix_cons.mpr ⟨rfl, ih (fun c z => hc c (by simp [z])) (fun c z => hd c (by simp [z])) q.2⟩
  · rintro ⟨r, rfl⟩
    exact ⟨r.map fun c => c.toInt8.toInt32, by simp⟩
abbrev rmSW2 : Room := { frames := 2, cells := 0, slots := 0, locals := 27 }
theorem cSW2 (l : Launch) (Z : State) (a0 : Array Value) (hw : hwT a0 Z) (h0 : Heap) (hC : CS Z) (s sb t tb : Addr) (cs ds : List Int32) (hc : Lat cs) (hd : Lat ds) (h7 : ds.length ≤ 7) (A : StrB Z h0 s 0 sb (cs.map bL)) (B : StrB Z h0 t 0 tb (ds.map bL)) :
    Con l Z EL1 false (⟨"java/lang/String", "startsWith", "(Ljava/lang/String;I)Z"⟩ : MethodName) jdk_42_method_75_code 8 (some .boolean) [] rmSW2 #[.ref s, .ref t, .int 0] h0 [] (fun v h S' => (∃ r : Int32, v = some (.int r) ∧ (r = 0 ∨ r = 1) ∧ (r ≠ 0 ↔ ds <+: cs)) ∧ h = h0 ∧ S' = []) := by
  have hEL := hEL1 hw
  refine Con.enter (a0 := a0) pn_28 hEL [.val (.ref s), .val (.ref t), .val (.int 0), .unset, .unset, .unset, .unset, .unset] (fun m => by first | (simp [entryFrame, mkF, argsToLocals, Value.category]; done) | rfl) ?_
  intro K G
  have hcl := A.2.2.2.len
  have hdl := B.2.2.2.len
  rw [List.length_map] at hcl hdl
  refine G.iloadN d33_0 rfl ?_
  refine G.if_lt d33_1 (fun q => absurd q (by decide)) (fun _ => ?_)
  refine G.iloadN d33_4 rfl ?_
  refine G.aloadN d33_5 rfl rfl ?_
  refine G.callV0 d33_6 (hw 173 rfl) (hw 79 rfl) (hw 81 rfl) (hw 80 rfl) (hw 82 rfl) (hw 10 rfl) pd_5 A.1 (cLEN8 K.l Z a0 hw hEL h0 hC s sb _ A) (fun _ q => nomatch q) ?_
  rintro _ h0 _ ⟨⟨m, rfl, hm⟩, rfl, rfl⟩ -
  refine G.aloadN d33_9 rfl rfl ?_
  refine G.callV0 d33_10 (hw 173 rfl) (hw 79 rfl) (hw 81 rfl) (hw 80 rfl) (hw 82 rfl) (hw 10 rfl) pd_5 B.1 (cLEN8 K.l Z a0 hw hEL h0 hC t tb _ B) (fun _ q => nomatch q) ?_
  rintro _ h0 _ ⟨⟨j, rfl, hj⟩, rfl, rfl⟩ -
  rw [List.length_map] at hm hj
  have hs : (m - j).toInt = (cs.length : Int) - ds.length := by
    have a1 := c_isub m j
    have a2 := rng32 (m - j)
    omega
  refine G.isub d33_13 ?_
  refine G.icmp_le d33_14 (fun q => ?_) (fun q => ?_) <;> rw [Int32.lt_iff_toInt_lt, toInt_0, hs] at q
  · refine G.aloadN d33_19 rfl rfl ?_
    refine G.getF d33_20 (hw 35 rfl) A.2.2.1 ?_
    refine G.astore3 d33_23 ?_
    refine G.aloadN d33_24 rfl rfl ?_
    refine G.getF d33_25 (hw 35 rfl) B.2.2.1 ?_
    refine G.astore4 d33_28 ?_
    refine G.iconst 0 d33_30 ?_
    refine G.istore5 d33_31 ?_
    refine G.aload d33_33 rfl rfl ?_
    refine G.alen (Int32.ofNat ds.length) d33_35 B.2.2.2 (by rw [len_toInt hdl]; simp) ?_
    refine G.istore6 d33_36 ?_
    refine G.aloadN d33_38 rfl rfl ?_
    refine G.callV0 d33_39 (hw 83 rfl) (hw 84 rfl) (hw 86 rfl) (hw 85 rfl) (hw 87 rfl) (hw 10 rfl) pd_4 A.1 (cCOD K.l Z a0 hw hEL h0 hC s sb 0 (Or.inl rfl) _ A) (fun _ q => nomatch q) ?_
    rintro _ h0 _ ⟨rfl, rfl, rfl⟩ -
    refine G.istore7 d33_42 ?_
    refine G.iload d33_44 rfl ?_
    refine G.aloadN d33_46 rfl rfl ?_
    refine G.callV0 d33_47 (hw 83 rfl) (hw 84 rfl) (hw 86 rfl) (hw 85 rfl) (hw 87 rfl) (hw 10 rfl) pd_4 B.1 (cCOD K.l Z a0 hw hEL h0 hC t tb 0 (Or.inl rfl) _ B) (fun _ q => nomatch q) ?_
    rintro _ h0 _ ⟨rfl, rfl, rfl⟩ -
    refine G.icmp_ne d33_50 (fun q => absurd rfl q) (fun _ => ?_)
    refine G.iload d33_53 rfl ?_
    refine G.iconst 1 d33_55 ?_
    refine G.icmp_ne d33_56 (fun _ => ?_) (fun q => absurd q (by decide))
    refine G.aloadN d33_63 rfl rfl ?_
    refine G.iloadN d33_64 rfl ?_
    refine G.aload d33_65 rfl rfl ?_
    refine G.iconst 0 d33_67 ?_
    refine G.iload d33_68 rfl ?_
    refine G.callS5 d33_70 (hw 175 rfl) (hw 176 rfl) (hw 177 rfl) (hw 178 rfl) pd_21 (cMIS K.l Z a0 hw h0 sb tb (cs.map fun c => c.toInt8.toInt32) (ds.map fun c => c.toInt8.toInt32) _ (by rw [len_toInt hdl]; simp) (by simpa using h7) (by simp; omega) (by rw [← bL_map]; exact A.2.2.2) (by rw [← bL_map]; exact B.2.2.2)) (fun _ q => nomatch q) ?_
    rintro _ h0 _ ⟨⟨r, rfl, hr⟩, rfl, rfl⟩ -
    rw [map8_prefix hc hd] at hr
    refine G.if_ge d33_73 (fun z => ?_) (fun z => ?_) <;> rw [Int32.lt_iff_toInt_lt, toInt_0] at z
    · refine G.iconst 0 d33_80 ?_
      exact G.nret d33_81 (Or.inl rfl) (z' := 0) (by decide) [] (fun _ q => nomatch q) ⟨⟨_, rfl, Or.inl rfl, ⟨fun u => absurd rfl u, fun u => absurd (hr.mpr u) z⟩⟩, rfl, rfl⟩
    · refine G.iconst 1 d33_76 ?_
      refine G.goto d33_77 ?_
      exact G.nret d33_81 (Or.inl rfl) (z' := 1) (by decide) [] (fun _ q => nomatch q) ⟨⟨_, rfl, Or.inr rfl, ⟨fun _ => hr.mp z, fun _ => by decide⟩⟩, rfl, rfl⟩
  · refine G.iconst 0 d33_17 ?_
    exact G.nret d33_18 (Or.inl rfl) (z' := 0) (by decide) [] (fun _ q => nomatch q) ⟨⟨_, rfl, Or.inl rfl, ⟨fun u => absurd rfl u, fun u => absurd u.length_le (by omega)⟩⟩, rfl, rfl⟩
abbrev rmSW1 : Room := { frames := 3, cells := 0, slots := 0, locals := 46 }
theorem cSW1 (l : Launch) (Z : State) (a0 : Array Value) (hw : hwT a0 Z) (h0 : Heap) (hC : CS Z) (s sb t tb : Addr) (cs ds : List Int32) (hc : Lat cs) (hd : Lat ds) (h7 : ds.length ≤ 7) (A : StrB Z h0 s 0 sb (cs.map bL)) (B : StrB Z h0 t 0 tb (ds.map bL)) :
    Con l Z EL1 false (⟨"java/lang/String", "startsWith", "(Ljava/lang/String;)Z"⟩ : MethodName) jdk_42_method_76_code 2 (some .boolean) [] rmSW1 #[.ref s, .ref t] h0 [] (fun v h S' => (∃ r : Int32, v = some (.int r) ∧ (r = 0 ∨ r = 1) ∧ (r ≠ 0 ↔ ds <+: cs)) ∧ h = h0 ∧ S' = []) := by
  have hEL := hEL1 hw
  refine Con.enter (a0 := a0) pn_29 hEL [.val (.ref s), .val (.ref t)] (fun m => by first | (simp [entryFrame, mkF, argsToLocals, Value.category]; done) | rfl) ?_
  intro K G
  refine G.aloadN d32_0 rfl rfl ?_
  refine G.aloadN d32_1 rfl rfl ?_
  refine G.iconst 0 d32_2 ?_
  refine G.callV2 d32_3 (hw 168 rfl) (hw 169 rfl) (hw 171 rfl) (hw 170 rfl) (hw 172 rfl) (hw 10 rfl) pd_22 A.1 (cSW2 K.l Z a0 hw h0 hC s sb t tb cs ds hc hd h7 A B) (fun _ q => nomatch q) ?_
  rintro _ h0 _ ⟨⟨r, rfl, h1, h2⟩, rfl, rfl⟩ -
  exact G.nret d32_6 (Or.inl rfl) (z' := r) (by rcases h1 with rfl | rfl <;> decide) [] (fun _ q => nomatch q) ⟨⟨r, rfl, h1, h2⟩, rfl, rfl⟩
theorem Lat.app {a b : List Int32} (h : Lat a) (k : Lat b) : Lat (a ++ b) := fun x q => by rcases List.mem_append.mp q with q | q; exact h x q; exact k x q
theorem latRW (d : Int32) (hd : d = 82 ∨ d = 87) : Lat [45, d, 45] := by
  have e : C8 45 := ⟨by decide, by decide⟩
  exact Lat.cons e (Lat.cons (by rcases hd with rfl | rfl <;> exact ⟨by decide, by decide⟩) (Lat.cons e Lat.nil))
abbrev rmIMB : Room := { frames := 7, cells := 12, slots := 144, locals := 105 }
theorem cIMB (l : Launch) (Z : State) (a0 : Array Value) (hw : hwT a0 Z) (h0 : Heap) (hC : CS Z) (rd wr : Addr) (hM : MS Z rd wr) (c cb o ob : Addr) (cs os : List Int32) (hc : Lat cs) (ho : Lat os) (h4 : os.length ≤ 4) (A : StrB Z h0 c 0 cb (cs.map bL)) (B : StrB Z h0 o 0 ob (os.map bL)) :
    Con l Z EL1 false (⟨"com/example/bounded_lock/boundedlock/zookeeper/RequestNode", "isMadeBy", "(Ljava/lang/String;Ljava/lang/String;)Z"⟩ : MethodName) prog_21_method_4_code 2 (some .boolean) [] rmIMB #[.ref c, .ref o] h0 [] (fun v h S' => (∃ r : Int32, v = some (.int r) ∧ (r = 0 ∨ r = 1) ∧ (r ≠ 0 ↔ (os ++ [45, 82, 45] <+: cs ∨ os ++ [45, 87, 45] <+: cs))) ∧ Ext h0 h ∧ S' = []) := by
  have hEL := hEL1 hw
  refine Con.enter (a0 := a0) pn_30 hEL [.val (.ref c), .val (.ref o)] (fun m => by first | (simp [entryFrame, mkF, argsToLocals, Value.category]; done) | rfl) ?_
  intro K G
  refine G.aloadN d9_0 rfl rfl ?_
  refine G.aloadN d9_1 rfl rfl ?_
  refine G.getS d9_2 (hw 44 rfl) hM.1 ?_
  refine G.callS2 d9_5 (hw 47 rfl) (hw 48 rfl) (hw 42 rfl) (hw 49 rfl) pd_23 (cPRE K.l Z a0 hw h0 hC rd wr hM o ob rd os (by omega) B) (fun _ q => nomatch q) ?_
  rintro _ h1 _ ⟨⟨t, tb, rfl, -, T1⟩, E1, rfl⟩ -
  replace T1 := T1 hM.2.2
  refine G.callV1 d9_8 (hw 163 rfl) (hw 164 rfl) (hw 166 rfl) (hw 165 rfl) (hw 167 rfl) (hw 10 rfl) pd_24 (A.ext E1).1 (cSW1 K.l Z a0 hw h1 hC c cb t tb cs _ hc (ho.app (latRW 82 (Or.inl rfl))) (by simp; omega) (A.ext E1) T1) (fun _ q => nomatch q) ?_
  rintro _ h1' _ ⟨⟨r1, rfl, r2, r3⟩, rfl, rfl⟩ -
  refine G.if_ne d9_11 (fun q => ?_) (fun q => ?_)
  · refine G.iconst 1 d9_28 ?_
    refine G.goto d9_29 ?_
    exact G.nret d9_33 (Or.inl rfl) (z' := 1) (by decide) [] (fun _ q => nomatch q) ⟨⟨_, rfl, Or.inr rfl, ⟨fun _ => Or.inl (r3.mp q), fun _ => by decide⟩⟩, E1, rfl⟩
  · refine G.aloadN d9_14 rfl rfl ?_
    refine G.aloadN d9_15 rfl rfl ?_
    refine G.getS d9_16 (hw 115 rfl) hM.2.1 ?_
    refine G.callS2 d9_19 (hw 47 rfl) (hw 48 rfl) (hw 42 rfl) (hw 49 rfl) pd_23 (cPRE K.l Z a0 hw _ hC rd wr hM o ob wr os (by omega) (B.ext E1)) (fun _ q => nomatch q) ?_
    rintro _ h2 _ ⟨⟨t2, tb2, rfl, T2, -⟩, E2, rfl⟩ -
    replace T2 := T2 rfl
    refine G.callV1 d9_22 (hw 163 rfl) (hw 164 rfl) (hw 166 rfl) (hw 165 rfl) (hw 167 rfl) (hw 10 rfl) pd_24 ((A.ext E1).ext E2).1 (cSW1 K.l Z a0 hw h2 hC c cb t2 tb2 cs _ hc (ho.app (latRW 87 (Or.inr rfl))) (by simp; omega) ((A.ext E1).ext E2) T2) (fun _ q => nomatch q) ?_
    rintro _ h2' _ ⟨⟨q1, rfl, q2, q3⟩, rfl, rfl⟩ -
    have n1 : ¬ os ++ [45, 82, 45] <+: cs := fun z => (r3.mpr z) q
    have E12 := keep_nil_ext (((ext_keep E1 [])).ext E2)
    refine G.if_eq d9_25 (fun z => ?_) (fun z => ?_)
    · refine G.iconst 0 d9_32 ?_
      exact G.nret d9_33 (Or.inl rfl) (z' := 0) (by decide) [] (fun _ q => nomatch q) ⟨⟨_, rfl, Or.inl rfl, ⟨fun u => absurd rfl u, fun u => by rcases u with u | u; exact absurd u n1; exact absurd z (q3.mpr u)⟩⟩, E12, rfl⟩
    · refine G.iconst 1 d9_28 ?_
      refine G.goto d9_29 ?_
      exact G.nret d9_33 (Or.inl rfl) (z' := 1) (by decide) [] (fun _ q => nomatch q) ⟨⟨_, rfl, Or.inr rfl, ⟨fun _ => Or.inr (q3.mp z), fun _ => by decide⟩⟩, E12, rfl⟩
theorem cPICK (l : Launch) (Z : State) (a0 : Array Value) (hw : hwT a0 Z) (h0 : Heap) (k : Int32) : Con l Z EL1 false (⟨"com/example/bounded_lock/boundedlock/zookeeper/RequestNodeIsMadeByPinLaw", "pick", "(I)C"⟩ : MethodName) method_2_code 2 (some .char) [] rm0 #[.int k] h0 [] (fun v h S' => (∃ c : Int32, v = some (.int c) ∧ C8 c) ∧ h = h0 ∧ S' = []) := by
  have hEL := hEL1 hw
  refine Con.enter (a0 := a0) pn_31 hEL [.val (.int k), .unset] (fun m => by first | (simp [entryFrame, mkF, argsToLocals, Value.category]; done) | rfl) ?_
  intro K G
  refine G.iloadN d1_0 rfl ?_
  refine G.iconst 3 d1_1 ?_
  refine G.iand d1_2 ?_
  refine G.istore1 d1_3 ?_
  refine G.iloadN d1_4 rfl ?_
  refine G.if_ne d1_5 (fun _ => ?_) (fun _ => ?_)
  · refine G.iloadN d1_11 rfl ?_
    refine G.iconst 1 d1_12 ?_
    refine G.icmp_ne d1_13 (fun _ => ?_) (fun _ => ?_)
    · refine G.iloadN d1_19 rfl ?_
      refine G.iconst 2 d1_20 ?_
      refine G.icmp_ne d1_21 (fun _ => ?_) (fun _ => ?_)
      · refine G.iloadN d1_27 rfl ?_
        refine G.iconst 2 d1_28 ?_
        refine G.iushr d1_29 ?_
        refine G.sipush 255 d1_30 ?_
        refine G.iand d1_33 ?_
        refine G.i2c d1_34 ?_
        exact G.nret d1_35 (Or.inr (Or.inr (Or.inl rfl))) (nar_char (ch255 _).1 (by have := (ch255 ((k.toUInt32 >>> ((2 : Int32) &&& 31).toUInt32).toInt32)).2; omega)) [] (fun _ q => nomatch q) ⟨⟨_, rfl, ch255 _⟩, rfl, rfl⟩
      · refine G.bipush 87 d1_24 ?_
        exact G.nret d1_26 (Or.inr (Or.inr (Or.inl rfl))) (z' := 87) (by decide) [] (fun _ q => nomatch q) ⟨⟨_, rfl, by decide, by decide⟩, rfl, rfl⟩
    · refine G.bipush 82 d1_16 ?_
      exact G.nret d1_18 (Or.inr (Or.inr (Or.inl rfl))) (z' := 82) (by decide) [] (fun _ q => nomatch q) ⟨⟨_, rfl, by decide, by decide⟩, rfl, rfl⟩
  · refine G.bipush 45 d1_8 ?_
    exact G.nret d1_10 (Or.inr (Or.inr (Or.inl rfl))) (z' := 45) (by decide) [] (fun _ q => nomatch q) ⟨⟨_, rfl, by decide, by decide⟩, rfl, rfl⟩
abbrev rmSTR : Room := { frames := 4, cells := 6, slots := 35, locals := 74 }
theorem len_cons {n : Nat} {cs : List Int32} (h : n + 1 ≤ cs.length) : ∃ c r, cs = c :: r ∧ n ≤ r.length := by
  cases cs with
  | nil => simp at h
  | cons c r => exact ⟨c, r, rfl, by simpa using h⟩
theorem cSTR (l : Launch) (Z : State) (a0 : Array Value) (hw : hwT a0 Z) (h0 : Heap) (hC : CS Z) (a : Addr) (cs : List Int32) (n : Int32) (k : Nat) (hn : n.toInt = (k : Int)) (hk : k ≤ 7) (hk2 : k ≤ cs.length) (hl : Lat cs) (A : Al Z h0 a .char (cs.map .int)) : Con l Z EL1 false (⟨"com/example/bounded_lock/boundedlock/zookeeper/RequestNodeIsMadeByPinLaw", "str", "([CI)Ljava/lang/String;"⟩ : MethodName) method_3_code 2 (some (.object "java/lang/String")) [] rmSTR #[.ref a, .int n] h0 [] (fun v h S' => (∃ s vb, v = some (.ref s) ∧ StrB Z h s 0 vb ((cs.take k).map bL)) ∧ Ext h0 h ∧ S' = []) := by
  have hEL := hEL1 hw
  refine Con.enter (a0 := a0) pn_32 hEL [.val (.ref a), .val (.int n)] (fun m => by first | (simp [entryFrame, mkF, argsToLocals, Value.category]; done) | rfl) ?_
  intro K G
  refine G.iloadN d2_0 rfl ?_
  refine G.if_gt d2_1 (fun q => ?_) (fun q => ?_)
  · have m0 : k ≠ 0 := fun z => by rw [Int32.lt_iff_toInt_lt, toInt_0, hn] at q; omega
    refine G.iloadN d2_15 rfl ?_
    refine G.iconst 1 d2_16 ?_
    refine G.icmp_ne d2_17 (fun q1 => ?_) (fun q1 => ?_)
    · have m1 : k ≠ 1 := fun z => q1 (Int32.toInt_inj.mp (by rw [hn, z]; rfl))
      refine G.iloadN d2_37 rfl ?_
      refine G.iconst 2 d2_38 ?_
      refine G.icmp_ne d2_39 (fun q2 => ?_) (fun q2 => ?_)
      · have m2 : k ≠ 2 := fun z => q2 (Int32.toInt_inj.mp (by rw [hn, z]; rfl))
        refine G.iloadN d2_65 rfl ?_
        refine G.iconst 3 d2_66 ?_
        refine G.icmp_ne d2_67 (fun q3 => ?_) (fun q3 => ?_)
        · have m3 : k ≠ 3 := fun z => q3 (Int32.toInt_inj.mp (by rw [hn, z]; rfl))
          refine G.iloadN d2_99 rfl ?_
          refine G.iconst 4 d2_100 ?_
          refine G.icmp_ne d2_101 (fun q4 => ?_) (fun q4 => ?_)
          · have m4 : k ≠ 4 := fun z => q4 (Int32.toInt_inj.mp (by rw [hn, z]; rfl))
            refine G.iloadN d2_139 rfl ?_
            refine G.iconst 5 d2_140 ?_
            refine G.icmp_ne d2_141 (fun q5 => ?_) (fun q5 => ?_)
            · have m5 : k ≠ 5 := fun z => q5 (Int32.toInt_inj.mp (by rw [hn, z]; rfl))
              refine G.iloadN d2_185 rfl ?_
              refine G.bipush 6 d2_186 ?_
              refine G.icmp_ne d2_188 (fun q6 => ?_) (fun q6 => ?_)
              · have m6 : k ≠ 6 := fun z => q6 (Int32.toInt_inj.mp (by rw [hn, z]; rfl))
                obtain rfl : k = 7 := by omega
                obtain ⟨c0, t0, rfl, z0⟩ := len_cons hk2
                obtain ⟨c1, t1, rfl, z1⟩ := len_cons z0
                obtain ⟨c2, t2, rfl, z2⟩ := len_cons z1
                obtain ⟨c3, t3, rfl, z3⟩ := len_cons z2
                obtain ⟨c4, t4, rfl, z4⟩ := len_cons z3
                obtain ⟨c5, t5, rfl, z5⟩ := len_cons z4
                obtain ⟨c6, t6, rfl, z6⟩ := len_cons z5
                have r0 : C8 c0 := hl c0 (by simp)
                have r1 : C8 c1 := hl c1 (by simp)
                have r2 : C8 c2 := hl c2 (by simp)
                have r3 : C8 c3 := hl c3 (by simp)
                have r4 : C8 c4 := hl c4 (by simp)
                have r5 : C8 c5 := hl c5 (by simp)
                have r6 : C8 c6 := hl c6 (by simp)
                refine G.newO d2_239 (hw 8 rfl) (hw 9 rfl) (hw 10 rfl) (fun h1a E1a L1a A1a => ?_)
                refine G.dup d2_242 ?_
                refine G.bipush 7 d2_243 ?_
                refine G.newA 7 7 d2_245 (hw 0 rfl) (by decide) (by decide) (fun h1b E1b L1b B1_0 => ?_)
                have Q1_0 := ((A).ext E1a).ext E1b
                have nq1 := Nat.ne_of_lt ((A).ext E1a).lt
                refine G.dup d2_247 ?_
                refine G.iconst 0 d2_248 ?_
                refine G.aloadN d2_249 rfl rfl ?_
                refine G.iconst 0 d2_250 ?_
                refine G.caload d2_251 Q1_0 (i := 0) (by decide) (v := .int c0) rfl ?_
                refine G.castore d2_252 (by simp) B1_0 (i := 0) (by decide) (by simp) (fun h1c0 W1_0 B1_1 => ?_)
                have Q1_1 := Q1_0.other W1_0 nq1
                refine G.dup d2_253 ?_
                refine G.iconst 1 d2_254 ?_
                refine G.aloadN d2_255 rfl rfl ?_
                refine G.iconst 1 d2_256 ?_
                refine G.caload d2_257 Q1_1 (i := 1) (by decide) (v := .int c1) rfl ?_
                refine G.castore d2_258 (by simp) B1_1 (i := 1) (by decide) (by simp) (fun h1c1 W1_1 B1_2 => ?_)
                have Q1_2 := Q1_1.other W1_1 nq1
                refine G.dup d2_259 ?_
                refine G.iconst 2 d2_260 ?_
                refine G.aloadN d2_261 rfl rfl ?_
                refine G.iconst 2 d2_262 ?_
                refine G.caload d2_263 Q1_2 (i := 2) (by decide) (v := .int c2) rfl ?_
                refine G.castore d2_264 (by simp) B1_2 (i := 2) (by decide) (by simp) (fun h1c2 W1_2 B1_3 => ?_)
                have Q1_3 := Q1_2.other W1_2 nq1
                refine G.dup d2_265 ?_
                refine G.iconst 3 d2_266 ?_
                refine G.aloadN d2_267 rfl rfl ?_
                refine G.iconst 3 d2_268 ?_
                refine G.caload d2_269 Q1_3 (i := 3) (by decide) (v := .int c3) rfl ?_
                refine G.castore d2_270 (by simp) B1_3 (i := 3) (by decide) (by simp) (fun h1c3 W1_3 B1_4 => ?_)
                have Q1_4 := Q1_3.other W1_3 nq1
                refine G.dup d2_271 ?_
                refine G.iconst 4 d2_272 ?_
                refine G.aloadN d2_273 rfl rfl ?_
                refine G.iconst 4 d2_274 ?_
                refine G.caload d2_275 Q1_4 (i := 4) (by decide) (v := .int c4) rfl ?_
                refine G.castore d2_276 (by simp) B1_4 (i := 4) (by decide) (by simp) (fun h1c4 W1_4 B1_5 => ?_)
                have Q1_5 := Q1_4.other W1_4 nq1
                refine G.dup d2_277 ?_
                refine G.iconst 5 d2_278 ?_
                refine G.aloadN d2_279 rfl rfl ?_
                refine G.iconst 5 d2_280 ?_
                refine G.caload d2_281 Q1_5 (i := 5) (by decide) (v := .int c5) rfl ?_
                refine G.castore d2_282 (by simp) B1_5 (i := 5) (by decide) (by simp) (fun h1c5 W1_5 B1_6 => ?_)
                have Q1_6 := Q1_5.other W1_5 nq1
                refine G.dup d2_283 ?_
                refine G.bipush 6 d2_284 ?_
                refine G.aloadN d2_286 rfl rfl ?_
                refine G.bipush 6 d2_287 ?_
                refine G.caload d2_289 Q1_6 (i := 6) (by decide) (v := .int c6) rfl ?_
                refine G.castore d2_290 (by simp) B1_6 (i := 6) (by decide) (by simp) (fun h1c6 W1_6 B1_7 => ?_)
                have Q1_7 := Q1_6.other W1_6 nq1
                rw [nar_char r0.1 (by have := r0.2; omega), nar_char r1.1 (by have := r1.2; omega), nar_char r2.1 (by have := r2.2; omega), nar_char r3.1 (by have := r3.2; omega), nar_char r4.1 (by have := r4.2; omega), nar_char r5.1 (by have := r5.2; omega), nar_char r6.1 (by have := r6.2; omega)] at B1_7
                have B1 : Al Z h1c6 h1a.size .char (([c0, c1, c2, c3, c4, c5, c6] : List Int32).map .int) := B1_7
                refine G.callI1 d2_291 (hw 11 rfl) (hw 12 rfl) (hw 10 rfl) (hw 13 rfl) pd_25 (cSIA K.l Z a0 hw hEL h1c6 hC (by simp) h0.size h1a.size [c0, c1, c2, c3, c4, c5, c6] (by simp) (Lat.cons r0 (Lat.cons r1 (Lat.cons r2 (Lat.cons r3 (Lat.cons r4 (Lat.cons r5 (Lat.cons r6 Lat.nil))))))) ((((((((A1a.1.ext E1b).wr W1_0).wr W1_1).wr W1_2).wr W1_3).wr W1_4).wr W1_5).wr W1_6) (fun L t => ((((((((A1a.2 L t).ext E1b).other W1_0 (Or.inl (Nat.ne_of_lt L1a))).other W1_1 (Or.inl (Nat.ne_of_lt L1a))).other W1_2 (Or.inl (Nat.ne_of_lt L1a))).other W1_3 (Or.inl (Nat.ne_of_lt L1a))).other W1_4 (Or.inl (Nat.ne_of_lt L1a))).other W1_5 (Or.inl (Nat.ne_of_lt L1a))).other W1_6 (Or.inl (Nat.ne_of_lt L1a))) B1) (by simp) ?_
                rintro _ h1z _ ⟨rfl, ⟨v1, T1⟩, K1z, rfl⟩ -
                have K1 : Keep h0 h1z [] := (((((((((ext_keep E1a []).ext E1b).wr W1_0 (Or.inr (Nat.le_of_lt L1a))).wr W1_1 (Or.inr (Nat.le_of_lt L1a))).wr W1_2 (Or.inr (Nat.le_of_lt L1a))).wr W1_3 (Or.inr (Nat.le_of_lt L1a))).wr W1_4 (Or.inr (Nat.le_of_lt L1a))).wr W1_5 (Or.inr (Nat.le_of_lt L1a))).wr W1_6 (Or.inr (Nat.le_of_lt L1a))).trans K1z (fun x q => by cases List.mem_singleton.mp q; exact Or.inr (Nat.le_refl _))
                exact G.aret d2_294 [] (fun _ q => nomatch q) ⟨⟨_, _, rfl, T1⟩, keep_nil_ext K1, rfl⟩
              · obtain rfl : k = 6 := by have z := congrArg Int32.toInt q6; rw [hn, show (6 : Int32).toInt = 6 from by decide] at z; omega
                obtain ⟨c0, t0, rfl, z0⟩ := len_cons hk2
                obtain ⟨c1, t1, rfl, z1⟩ := len_cons z0
                obtain ⟨c2, t2, rfl, z2⟩ := len_cons z1
                obtain ⟨c3, t3, rfl, z3⟩ := len_cons z2
                obtain ⟨c4, t4, rfl, z4⟩ := len_cons z3
                obtain ⟨c5, t5, rfl, z5⟩ := len_cons z4
                have r0 : C8 c0 := hl c0 (by simp)
                have r1 : C8 c1 := hl c1 (by simp)
                have r2 : C8 c2 := hl c2 (by simp)
                have r3 : C8 c3 := hl c3 (by simp)
                have r4 : C8 c4 := hl c4 (by simp)
                have r5 : C8 c5 := hl c5 (by simp)
                refine G.newO d2_191 (hw 8 rfl) (hw 9 rfl) (hw 10 rfl) (fun h1a E1a L1a A1a => ?_)
                refine G.dup d2_194 ?_
                refine G.bipush 6 d2_195 ?_
                refine G.newA 6 6 d2_197 (hw 0 rfl) (by decide) (by decide) (fun h1b E1b L1b B1_0 => ?_)
                have Q1_0 := ((A).ext E1a).ext E1b
                have nq1 := Nat.ne_of_lt ((A).ext E1a).lt
                refine G.dup d2_199 ?_
                refine G.iconst 0 d2_200 ?_
                refine G.aloadN d2_201 rfl rfl ?_
                refine G.iconst 0 d2_202 ?_
                refine G.caload d2_203 Q1_0 (i := 0) (by decide) (v := .int c0) rfl ?_
                refine G.castore d2_204 (by simp) B1_0 (i := 0) (by decide) (by simp) (fun h1c0 W1_0 B1_1 => ?_)
                have Q1_1 := Q1_0.other W1_0 nq1
                refine G.dup d2_205 ?_
                refine G.iconst 1 d2_206 ?_
                refine G.aloadN d2_207 rfl rfl ?_
                refine G.iconst 1 d2_208 ?_
                refine G.caload d2_209 Q1_1 (i := 1) (by decide) (v := .int c1) rfl ?_
                refine G.castore d2_210 (by simp) B1_1 (i := 1) (by decide) (by simp) (fun h1c1 W1_1 B1_2 => ?_)
                have Q1_2 := Q1_1.other W1_1 nq1
                refine G.dup d2_211 ?_
                refine G.iconst 2 d2_212 ?_
                refine G.aloadN d2_213 rfl rfl ?_
                refine G.iconst 2 d2_214 ?_
                refine G.caload d2_215 Q1_2 (i := 2) (by decide) (v := .int c2) rfl ?_
                refine G.castore d2_216 (by simp) B1_2 (i := 2) (by decide) (by simp) (fun h1c2 W1_2 B1_3 => ?_)
                have Q1_3 := Q1_2.other W1_2 nq1
                refine G.dup d2_217 ?_
                refine G.iconst 3 d2_218 ?_
                refine G.aloadN d2_219 rfl rfl ?_
                refine G.iconst 3 d2_220 ?_
                refine G.caload d2_221 Q1_3 (i := 3) (by decide) (v := .int c3) rfl ?_
                refine G.castore d2_222 (by simp) B1_3 (i := 3) (by decide) (by simp) (fun h1c3 W1_3 B1_4 => ?_)
                have Q1_4 := Q1_3.other W1_3 nq1
                refine G.dup d2_223 ?_
                refine G.iconst 4 d2_224 ?_
                refine G.aloadN d2_225 rfl rfl ?_
                refine G.iconst 4 d2_226 ?_
                refine G.caload d2_227 Q1_4 (i := 4) (by decide) (v := .int c4) rfl ?_
                refine G.castore d2_228 (by simp) B1_4 (i := 4) (by decide) (by simp) (fun h1c4 W1_4 B1_5 => ?_)
                have Q1_5 := Q1_4.other W1_4 nq1
                refine G.dup d2_229 ?_
                refine G.iconst 5 d2_230 ?_
                refine G.aloadN d2_231 rfl rfl ?_
                refine G.iconst 5 d2_232 ?_
                refine G.caload d2_233 Q1_5 (i := 5) (by decide) (v := .int c5) rfl ?_
                refine G.castore d2_234 (by simp) B1_5 (i := 5) (by decide) (by simp) (fun h1c5 W1_5 B1_6 => ?_)
                have Q1_6 := Q1_5.other W1_5 nq1
                rw [nar_char r0.1 (by have := r0.2; omega), nar_char r1.1 (by have := r1.2; omega), nar_char r2.1 (by have := r2.2; omega), nar_char r3.1 (by have := r3.2; omega), nar_char r4.1 (by have := r4.2; omega), nar_char r5.1 (by have := r5.2; omega)] at B1_6
                have B1 : Al Z h1c5 h1a.size .char (([c0, c1, c2, c3, c4, c5] : List Int32).map .int) := B1_6
                refine G.callI1 d2_235 (hw 11 rfl) (hw 12 rfl) (hw 10 rfl) (hw 13 rfl) pd_25 (cSIA K.l Z a0 hw hEL h1c5 hC (by simp) h0.size h1a.size [c0, c1, c2, c3, c4, c5] (by simp) (Lat.cons r0 (Lat.cons r1 (Lat.cons r2 (Lat.cons r3 (Lat.cons r4 (Lat.cons r5 Lat.nil)))))) (((((((A1a.1.ext E1b).wr W1_0).wr W1_1).wr W1_2).wr W1_3).wr W1_4).wr W1_5) (fun L t => (((((((A1a.2 L t).ext E1b).other W1_0 (Or.inl (Nat.ne_of_lt L1a))).other W1_1 (Or.inl (Nat.ne_of_lt L1a))).other W1_2 (Or.inl (Nat.ne_of_lt L1a))).other W1_3 (Or.inl (Nat.ne_of_lt L1a))).other W1_4 (Or.inl (Nat.ne_of_lt L1a))).other W1_5 (Or.inl (Nat.ne_of_lt L1a))) B1) (by simp) ?_
                rintro _ h1z _ ⟨rfl, ⟨v1, T1⟩, K1z, rfl⟩ -
                have K1 : Keep h0 h1z [] := ((((((((ext_keep E1a []).ext E1b).wr W1_0 (Or.inr (Nat.le_of_lt L1a))).wr W1_1 (Or.inr (Nat.le_of_lt L1a))).wr W1_2 (Or.inr (Nat.le_of_lt L1a))).wr W1_3 (Or.inr (Nat.le_of_lt L1a))).wr W1_4 (Or.inr (Nat.le_of_lt L1a))).wr W1_5 (Or.inr (Nat.le_of_lt L1a))).trans K1z (fun x q => by cases List.mem_singleton.mp q; exact Or.inr (Nat.le_refl _))
                exact G.aret d2_238 [] (fun _ q => nomatch q) ⟨⟨_, _, rfl, T1⟩, keep_nil_ext K1, rfl⟩
            · obtain rfl : k = 5 := by have z := congrArg Int32.toInt q5; rw [hn, show (5 : Int32).toInt = 5 from by decide] at z; omega
              obtain ⟨c0, t0, rfl, z0⟩ := len_cons hk2
              obtain ⟨c1, t1, rfl, z1⟩ := len_cons z0
              obtain ⟨c2, t2, rfl, z2⟩ := len_cons z1
              obtain ⟨c3, t3, rfl, z3⟩ := len_cons z2
              obtain ⟨c4, t4, rfl, z4⟩ := len_cons z3
              have r0 : C8 c0 := hl c0 (by simp)
              have r1 : C8 c1 := hl c1 (by simp)
              have r2 : C8 c2 := hl c2 (by simp)
              have r3 : C8 c3 := hl c3 (by simp)
              have r4 : C8 c4 := hl c4 (by simp)
              refine G.newO d2_144 (hw 8 rfl) (hw 9 rfl) (hw 10 rfl) (fun h1a E1a L1a A1a => ?_)
              refine G.dup d2_147 ?_
              refine G.iconst 5 d2_148 ?_
              refine G.newA 5 5 d2_149 (hw 0 rfl) (by decide) (by decide) (fun h1b E1b L1b B1_0 => ?_)
              have Q1_0 := ((A).ext E1a).ext E1b
              have nq1 := Nat.ne_of_lt ((A).ext E1a).lt
              refine G.dup d2_151 ?_
              refine G.iconst 0 d2_152 ?_
              refine G.aloadN d2_153 rfl rfl ?_
              refine G.iconst 0 d2_154 ?_
              refine G.caload d2_155 Q1_0 (i := 0) (by decide) (v := .int c0) rfl ?_
              refine G.castore d2_156 (by simp) B1_0 (i := 0) (by decide) (by simp) (fun h1c0 W1_0 B1_1 => ?_)
              have Q1_1 := Q1_0.other W1_0 nq1
              refine G.dup d2_157 ?_
              refine G.iconst 1 d2_158 ?_
              refine G.aloadN d2_159 rfl rfl ?_
              refine G.iconst 1 d2_160 ?_
              refine G.caload d2_161 Q1_1 (i := 1) (by decide) (v := .int c1) rfl ?_
              refine G.castore d2_162 (by simp) B1_1 (i := 1) (by decide) (by simp) (fun h1c1 W1_1 B1_2 => ?_)
              have Q1_2 := Q1_1.other W1_1 nq1
              refine G.dup d2_163 ?_
              refine G.iconst 2 d2_164 ?_
              refine G.aloadN d2_165 rfl rfl ?_
              refine G.iconst 2 d2_166 ?_
              refine G.caload d2_167 Q1_2 (i := 2) (by decide) (v := .int c2) rfl ?_
              refine G.castore d2_168 (by simp) B1_2 (i := 2) (by decide) (by simp) (fun h1c2 W1_2 B1_3 => ?_)
              have Q1_3 := Q1_2.other W1_2 nq1
              refine G.dup d2_169 ?_
              refine G.iconst 3 d2_170 ?_
              refine G.aloadN d2_171 rfl rfl ?_
              refine G.iconst 3 d2_172 ?_
              refine G.caload d2_173 Q1_3 (i := 3) (by decide) (v := .int c3) rfl ?_
              refine G.castore d2_174 (by simp) B1_3 (i := 3) (by decide) (by simp) (fun h1c3 W1_3 B1_4 => ?_)
              have Q1_4 := Q1_3.other W1_3 nq1
              refine G.dup d2_175 ?_
              refine G.iconst 4 d2_176 ?_
              refine G.aloadN d2_177 rfl rfl ?_
              refine G.iconst 4 d2_178 ?_
              refine G.caload d2_179 Q1_4 (i := 4) (by decide) (v := .int c4) rfl ?_
              refine G.castore d2_180 (by simp) B1_4 (i := 4) (by decide) (by simp) (fun h1c4 W1_4 B1_5 => ?_)
              have Q1_5 := Q1_4.other W1_4 nq1
              rw [nar_char r0.1 (by have := r0.2; omega), nar_char r1.1 (by have := r1.2; omega), nar_char r2.1 (by have := r2.2; omega), nar_char r3.1 (by have := r3.2; omega), nar_char r4.1 (by have := r4.2; omega)] at B1_5
              have B1 : Al Z h1c4 h1a.size .char (([c0, c1, c2, c3, c4] : List Int32).map .int) := B1_5
              refine G.callI1 d2_181 (hw 11 rfl) (hw 12 rfl) (hw 10 rfl) (hw 13 rfl) pd_25 (cSIA K.l Z a0 hw hEL h1c4 hC (by simp) h0.size h1a.size [c0, c1, c2, c3, c4] (by simp) (Lat.cons r0 (Lat.cons r1 (Lat.cons r2 (Lat.cons r3 (Lat.cons r4 Lat.nil))))) ((((((A1a.1.ext E1b).wr W1_0).wr W1_1).wr W1_2).wr W1_3).wr W1_4) (fun L t => ((((((A1a.2 L t).ext E1b).other W1_0 (Or.inl (Nat.ne_of_lt L1a))).other W1_1 (Or.inl (Nat.ne_of_lt L1a))).other W1_2 (Or.inl (Nat.ne_of_lt L1a))).other W1_3 (Or.inl (Nat.ne_of_lt L1a))).other W1_4 (Or.inl (Nat.ne_of_lt L1a))) B1) (by simp) ?_
              rintro _ h1z _ ⟨rfl, ⟨v1, T1⟩, K1z, rfl⟩ -
              have K1 : Keep h0 h1z [] := (((((((ext_keep E1a []).ext E1b).wr W1_0 (Or.inr (Nat.le_of_lt L1a))).wr W1_1 (Or.inr (Nat.le_of_lt L1a))).wr W1_2 (Or.inr (Nat.le_of_lt L1a))).wr W1_3 (Or.inr (Nat.le_of_lt L1a))).wr W1_4 (Or.inr (Nat.le_of_lt L1a))).trans K1z (fun x q => by cases List.mem_singleton.mp q; exact Or.inr (Nat.le_refl _))
              exact G.aret d2_184 [] (fun _ q => nomatch q) ⟨⟨_, _, rfl, T1⟩, keep_nil_ext K1, rfl⟩
          · obtain rfl : k = 4 := by have z := congrArg Int32.toInt q4; rw [hn, show (4 : Int32).toInt = 4 from by decide] at z; omega
            obtain ⟨c0, t0, rfl, z0⟩ := len_cons hk2
            obtain ⟨c1, t1, rfl, z1⟩ := len_cons z0
            obtain ⟨c2, t2, rfl, z2⟩ := len_cons z1
            obtain ⟨c3, t3, rfl, z3⟩ := len_cons z2
            have r0 : C8 c0 := hl c0 (by simp)
            have r1 : C8 c1 := hl c1 (by simp)
            have r2 : C8 c2 := hl c2 (by simp)
            have r3 : C8 c3 := hl c3 (by simp)
            refine G.newO d2_104 (hw 8 rfl) (hw 9 rfl) (hw 10 rfl) (fun h1a E1a L1a A1a => ?_)
            refine G.dup d2_107 ?_
            refine G.iconst 4 d2_108 ?_
            refine G.newA 4 4 d2_109 (hw 0 rfl) (by decide) (by decide) (fun h1b E1b L1b B1_0 => ?_)
            have Q1_0 := ((A).ext E1a).ext E1b
            have nq1 := Nat.ne_of_lt ((A).ext E1a).lt
            refine G.dup d2_111 ?_
            refine G.iconst 0 d2_112 ?_
            refine G.aloadN d2_113 rfl rfl ?_
            refine G.iconst 0 d2_114 ?_
            refine G.caload d2_115 Q1_0 (i := 0) (by decide) (v := .int c0) rfl ?_
            refine G.castore d2_116 (by simp) B1_0 (i := 0) (by decide) (by simp) (fun h1c0 W1_0 B1_1 => ?_)
            have Q1_1 := Q1_0.other W1_0 nq1
            refine G.dup d2_117 ?_
            refine G.iconst 1 d2_118 ?_
            refine G.aloadN d2_119 rfl rfl ?_
            refine G.iconst 1 d2_120 ?_
            refine G.caload d2_121 Q1_1 (i := 1) (by decide) (v := .int c1) rfl ?_
            refine G.castore d2_122 (by simp) B1_1 (i := 1) (by decide) (by simp) (fun h1c1 W1_1 B1_2 => ?_)
            have Q1_2 := Q1_1.other W1_1 nq1
            refine G.dup d2_123 ?_
            refine G.iconst 2 d2_124 ?_
            refine G.aloadN d2_125 rfl rfl ?_
            refine G.iconst 2 d2_126 ?_
            refine G.caload d2_127 Q1_2 (i := 2) (by decide) (v := .int c2) rfl ?_
            refine G.castore d2_128 (by simp) B1_2 (i := 2) (by decide) (by simp) (fun h1c2 W1_2 B1_3 => ?_)
            have Q1_3 := Q1_2.other W1_2 nq1
            refine G.dup d2_129 ?_
            refine G.iconst 3 d2_130 ?_
            refine G.aloadN d2_131 rfl rfl ?_
            refine G.iconst 3 d2_132 ?_
            refine G.caload d2_133 Q1_3 (i := 3) (by decide) (v := .int c3) rfl ?_
            refine G.castore d2_134 (by simp) B1_3 (i := 3) (by decide) (by simp) (fun h1c3 W1_3 B1_4 => ?_)
            have Q1_4 := Q1_3.other W1_3 nq1
            rw [nar_char r0.1 (by have := r0.2; omega), nar_char r1.1 (by have := r1.2; omega), nar_char r2.1 (by have := r2.2; omega), nar_char r3.1 (by have := r3.2; omega)] at B1_4
            have B1 : Al Z h1c3 h1a.size .char (([c0, c1, c2, c3] : List Int32).map .int) := B1_4
            refine G.callI1 d2_135 (hw 11 rfl) (hw 12 rfl) (hw 10 rfl) (hw 13 rfl) pd_25 (cSIA K.l Z a0 hw hEL h1c3 hC (by simp) h0.size h1a.size [c0, c1, c2, c3] (by simp) (Lat.cons r0 (Lat.cons r1 (Lat.cons r2 (Lat.cons r3 Lat.nil)))) (((((A1a.1.ext E1b).wr W1_0).wr W1_1).wr W1_2).wr W1_3) (fun L t => (((((A1a.2 L t).ext E1b).other W1_0 (Or.inl (Nat.ne_of_lt L1a))).other W1_1 (Or.inl (Nat.ne_of_lt L1a))).other W1_2 (Or.inl (Nat.ne_of_lt L1a))).other W1_3 (Or.inl (Nat.ne_of_lt L1a))) B1) (by simp) ?_
            rintro _ h1z _ ⟨rfl, ⟨v1, T1⟩, K1z, rfl⟩ -
            have K1 : Keep h0 h1z [] := ((((((ext_keep E1a []).ext E1b).wr W1_0 (Or.inr (Nat.le_of_lt L1a))).wr W1_1 (Or.inr (Nat.le_of_lt L1a))).wr W1_2 (Or.inr (Nat.le_of_lt L1a))).wr W1_3 (Or.inr (Nat.le_of_lt L1a))).trans K1z (fun x q => by cases List.mem_singleton.mp q; exact Or.inr (Nat.le_refl _))
            exact G.aret d2_138 [] (fun _ q => nomatch q) ⟨⟨_, _, rfl, T1⟩, keep_nil_ext K1, rfl⟩
        · obtain rfl : k = 3 := by have z := congrArg Int32.toInt q3; rw [hn, show (3 : Int32).toInt = 3 from by decide] at z; omega
          obtain ⟨c0, t0, rfl, z0⟩ := len_cons hk2
          obtain ⟨c1, t1, rfl, z1⟩ := len_cons z0
          obtain ⟨c2, t2, rfl, z2⟩ := len_cons z1
          have r0 : C8 c0 := hl c0 (by simp)
          have r1 : C8 c1 := hl c1 (by simp)
          have r2 : C8 c2 := hl c2 (by simp)
          refine G.newO d2_70 (hw 8 rfl) (hw 9 rfl) (hw 10 rfl) (fun h1a E1a L1a A1a => ?_)
          refine G.dup d2_73 ?_
          refine G.iconst 3 d2_74 ?_
          refine G.newA 3 3 d2_75 (hw 0 rfl) (by decide) (by decide) (fun h1b E1b L1b B1_0 => ?_)
          have Q1_0 := ((A).ext E1a).ext E1b
          have nq1 := Nat.ne_of_lt ((A).ext E1a).lt
          refine G.dup d2_77 ?_
          refine G.iconst 0 d2_78 ?_
          refine G.aloadN d2_79 rfl rfl ?_
          refine G.iconst 0 d2_80 ?_
          refine G.caload d2_81 Q1_0 (i := 0) (by decide) (v := .int c0) rfl ?_
          refine G.castore d2_82 (by simp) B1_0 (i := 0) (by decide) (by simp) (fun h1c0 W1_0 B1_1 => ?_)
          have Q1_1 := Q1_0.other W1_0 nq1
          refine G.dup d2_83 ?_
          refine G.iconst 1 d2_84 ?_
          refine G.aloadN d2_85 rfl rfl ?_
          refine G.iconst 1 d2_86 ?_
          refine G.caload d2_87 Q1_1 (i := 1) (by decide) (v := .int c1) rfl ?_
          refine G.castore d2_88 (by simp) B1_1 (i := 1) (by decide) (by simp) (fun h1c1 W1_1 B1_2 => ?_)
          have Q1_2 := Q1_1.other W1_1 nq1
          refine G.dup d2_89 ?_
          refine G.iconst 2 d2_90 ?_
          refine G.aloadN d2_91 rfl rfl ?_
          refine G.iconst 2 d2_92 ?_
          refine G.caload d2_93 Q1_2 (i := 2) (by decide) (v := .int c2) rfl ?_
          refine G.castore d2_94 (by simp) B1_2 (i := 2) (by decide) (by simp) (fun h1c2 W1_2 B1_3 => ?_)
          have Q1_3 := Q1_2.other W1_2 nq1
          rw [nar_char r0.1 (by have := r0.2; omega), nar_char r1.1 (by have := r1.2; omega), nar_char r2.1 (by have := r2.2; omega)] at B1_3
          have B1 : Al Z h1c2 h1a.size .char (([c0, c1, c2] : List Int32).map .int) := B1_3
          refine G.callI1 d2_95 (hw 11 rfl) (hw 12 rfl) (hw 10 rfl) (hw 13 rfl) pd_25 (cSIA K.l Z a0 hw hEL h1c2 hC (by simp) h0.size h1a.size [c0, c1, c2] (by simp) (Lat.cons r0 (Lat.cons r1 (Lat.cons r2 Lat.nil))) ((((A1a.1.ext E1b).wr W1_0).wr W1_1).wr W1_2) (fun L t => ((((A1a.2 L t).ext E1b).other W1_0 (Or.inl (Nat.ne_of_lt L1a))).other W1_1 (Or.inl (Nat.ne_of_lt L1a))).other W1_2 (Or.inl (Nat.ne_of_lt L1a))) B1) (by simp) ?_
          rintro _ h1z _ ⟨rfl, ⟨v1, T1⟩, K1z, rfl⟩ -
          have K1 : Keep h0 h1z [] := (((((ext_keep E1a []).ext E1b).wr W1_0 (Or.inr (Nat.le_of_lt L1a))).wr W1_1 (Or.inr (Nat.le_of_lt L1a))).wr W1_2 (Or.inr (Nat.le_of_lt L1a))).trans K1z (fun x q => by cases List.mem_singleton.mp q; exact Or.inr (Nat.le_refl _))
          exact G.aret d2_98 [] (fun _ q => nomatch q) ⟨⟨_, _, rfl, T1⟩, keep_nil_ext K1, rfl⟩
      · obtain rfl : k = 2 := by have z := congrArg Int32.toInt q2; rw [hn, show (2 : Int32).toInt = 2 from by decide] at z; omega
        obtain ⟨c0, t0, rfl, z0⟩ := len_cons hk2
        obtain ⟨c1, t1, rfl, z1⟩ := len_cons z0
        have r0 : C8 c0 := hl c0 (by simp)
        have r1 : C8 c1 := hl c1 (by simp)
        refine G.newO d2_42 (hw 8 rfl) (hw 9 rfl) (hw 10 rfl) (fun h1a E1a L1a A1a => ?_)
        refine G.dup d2_45 ?_
        refine G.iconst 2 d2_46 ?_
        refine G.newA 2 2 d2_47 (hw 0 rfl) (by decide) (by decide) (fun h1b E1b L1b B1_0 => ?_)
        have Q1_0 := ((A).ext E1a).ext E1b
        have nq1 := Nat.ne_of_lt ((A).ext E1a).lt
        refine G.dup d2_49 ?_
        refine G.iconst 0 d2_50 ?_
        refine G.aloadN d2_51 rfl rfl ?_
        refine G.iconst 0 d2_52 ?_
        refine G.caload d2_53 Q1_0 (i := 0) (by decide) (v := .int c0) rfl ?_
        refine G.castore d2_54 (by simp) B1_0 (i := 0) (by decide) (by simp) (fun h1c0 W1_0 B1_1 => ?_)
        have Q1_1 := Q1_0.other W1_0 nq1
        refine G.dup d2_55 ?_
        refine G.iconst 1 d2_56 ?_
        refine G.aloadN d2_57 rfl rfl ?_
        refine G.iconst 1 d2_58 ?_
        refine G.caload d2_59 Q1_1 (i := 1) (by decide) (v := .int c1) rfl ?_
        refine G.castore d2_60 (by simp) B1_1 (i := 1) (by decide) (by simp) (fun h1c1 W1_1 B1_2 => ?_)
        have Q1_2 := Q1_1.other W1_1 nq1
        rw [nar_char r0.1 (by have := r0.2; omega), nar_char r1.1 (by have := r1.2; omega)] at B1_2
        have B1 : Al Z h1c1 h1a.size .char (([c0, c1] : List Int32).map .int) := B1_2
        refine G.callI1 d2_61 (hw 11 rfl) (hw 12 rfl) (hw 10 rfl) (hw 13 rfl) pd_25 (cSIA K.l Z a0 hw hEL h1c1 hC (by simp) h0.size h1a.size [c0, c1] (by simp) (Lat.cons r0 (Lat.cons r1 Lat.nil)) (((A1a.1.ext E1b).wr W1_0).wr W1_1) (fun L t => (((A1a.2 L t).ext E1b).other W1_0 (Or.inl (Nat.ne_of_lt L1a))).other W1_1 (Or.inl (Nat.ne_of_lt L1a))) B1) (by simp) ?_
        rintro _ h1z _ ⟨rfl, ⟨v1, T1⟩, K1z, rfl⟩ -
        have K1 : Keep h0 h1z [] := ((((ext_keep E1a []).ext E1b).wr W1_0 (Or.inr (Nat.le_of_lt L1a))).wr W1_1 (Or.inr (Nat.le_of_lt L1a))).trans K1z (fun x q => by cases List.mem_singleton.mp q; exact Or.inr (Nat.le_refl _))
        exact G.aret d2_64 [] (fun _ q => nomatch q) ⟨⟨_, _, rfl, T1⟩, keep_nil_ext K1, rfl⟩
    · obtain rfl : k = 1 := by have z := congrArg Int32.toInt q1; rw [hn, show (1 : Int32).toInt = 1 from by decide] at z; omega
      obtain ⟨c0, t0, rfl, z0⟩ := len_cons hk2
      have r0 : C8 c0 := hl c0 (by simp)
      refine G.newO d2_20 (hw 8 rfl) (hw 9 rfl) (hw 10 rfl) (fun h1a E1a L1a A1a => ?_)
      refine G.dup d2_23 ?_
      refine G.iconst 1 d2_24 ?_
      refine G.newA 1 1 d2_25 (hw 0 rfl) (by decide) (by decide) (fun h1b E1b L1b B1_0 => ?_)
      have Q1_0 := ((A).ext E1a).ext E1b
      have nq1 := Nat.ne_of_lt ((A).ext E1a).lt
      refine G.dup d2_27 ?_
      refine G.iconst 0 d2_28 ?_
      refine G.aloadN d2_29 rfl rfl ?_
      refine G.iconst 0 d2_30 ?_
      refine G.caload d2_31 Q1_0 (i := 0) (by decide) (v := .int c0) rfl ?_
      refine G.castore d2_32 (by simp) B1_0 (i := 0) (by decide) (by simp) (fun h1c0 W1_0 B1_1 => ?_)
      have Q1_1 := Q1_0.other W1_0 nq1
      rw [nar_char r0.1 (by have := r0.2; omega)] at B1_1
      have B1 : Al Z h1c0 h1a.size .char (([c0] : List Int32).map .int) := B1_1
      refine G.callI1 d2_33 (hw 11 rfl) (hw 12 rfl) (hw 10 rfl) (hw 13 rfl) pd_25 (cSIA K.l Z a0 hw hEL h1c0 hC (by simp) h0.size h1a.size [c0] (by simp) (Lat.cons r0 Lat.nil) ((A1a.1.ext E1b).wr W1_0) (fun L t => ((A1a.2 L t).ext E1b).other W1_0 (Or.inl (Nat.ne_of_lt L1a))) B1) (by simp) ?_
      rintro _ h1z _ ⟨rfl, ⟨v1, T1⟩, K1z, rfl⟩ -
      have K1 : Keep h0 h1z [] := (((ext_keep E1a []).ext E1b).wr W1_0 (Or.inr (Nat.le_of_lt L1a))).trans K1z (fun x q => by cases List.mem_singleton.mp q; exact Or.inr (Nat.le_refl _))
      exact G.aret d2_36 [] (fun _ q => nomatch q) ⟨⟨_, _, rfl, T1⟩, keep_nil_ext K1, rfl⟩
  · obtain rfl : k = 0 := by rw [Int32.lt_iff_toInt_lt, toInt_0, hn] at q; omega
    refine G.newO d2_4 (hw 8 rfl) (hw 9 rfl) (hw 10 rfl) (fun h1a E1a L1a A1a => ?_)
    refine G.dup d2_7 ?_
    refine G.iconst 0 d2_8 ?_
    refine G.newA 0 0 d2_9 (hw 0 rfl) (by decide) (by decide) (fun h1b E1b L1b B1_0 => ?_)
    have B1 : Al Z h1b h1a.size .char (([] : List Int32).map .int) := B1_0
    refine G.callI1 d2_11 (hw 11 rfl) (hw 12 rfl) (hw 10 rfl) (hw 13 rfl) pd_25 (cSIA K.l Z a0 hw hEL h1b hC (by simp) h0.size h1a.size [] (by simp) Lat.nil (A1a.1.ext E1b) (fun L t => (A1a.2 L t).ext E1b) B1) (by simp) ?_
    rintro _ h1z _ ⟨rfl, ⟨v1, T1⟩, K1z, rfl⟩ -
    have K1 : Keep h0 h1z [] := ((ext_keep E1a []).ext E1b).trans K1z (fun x q => by cases List.mem_singleton.mp q; exact Or.inr (Nat.le_refl _))
    exact G.aret d2_14 [] (fun _ q => nomatch q) ⟨⟨_, _, rfl, T1⟩, keep_nil_ext K1, rfl⟩
theorem pf_law (x0 x1 x2 y0 y1 y2 y3 y4 y5 y6 p m q d : Int32) (k j : Nat) (hk : k ≤ 3) (hp : [y0, y1, y2, y3, y4, y5, y6][k]? = some p) (hm : [y0, y1, y2, y3, y4, y5, y6][k + 1]? = some m) (hq : [y0, y1, y2, y3, y4, y5, y6][k + 2]? = some q) :
    ([x0, x1, x2].take k ++ [45, d, 45] <+: [y0, y1, y2, y3, y4, y5, y6].take j) ↔ (k + 3 ≤ j ∧ (k < 1 ∨ y0 = x0) ∧ (k < 2 ∨ y1 = x1) ∧ (k < 3 ∨ y2 = x2) ∧ p = 45 ∧ m = d ∧ q = 45) := by
  rw [List.prefix_take_iff]
  have hk' : k = 0 ∨ k = 1 ∨ k = 2 ∨ k = 3 := by omega
  rcases hk' with rfl | rfl | rfl | rfl <;> simp at hp hm hq <;> subst hp hm hq <;> simp [List.cons_prefix_cons] <;> constructor <;> intro hh <;> first | grind | (simp_all; done)
theorem law1 (l : Launch) (Z : State) (a0 : Array Value) (hw : hwT a0 Z) (h0 : Heap) (hC : CS Z) (rd wr : Addr) (hM : MS Z rd wr) (o : Int32) (c : Int64) (m : Int32) : Con l Z EL1 false x code maxLocals ret tables_1 room_1 #[.int o, .long c, .int m] h0 [] (fun v h S' => v = some (.int 1)) := by
  have hEL := hEL1 hw
  refine Con.enter (a0 := a0) pn_33 hEL [.val (.int o), .val (.long c), .second, .val (.int m), .unset, .unset, .unset, .unset, .unset, .unset, .unset, .unset, .unset, .unset, .unset, .unset] (fun m => by first | (simp [entryFrame, mkF, argsToLocals, Value.category, maxLocals]; done) | rfl) ?_
  intro K G
  refine G.iloadN d0_0 rfl ?_
  refine G.iconst 3 d0_1 ?_
  refine G.iand d0_2 ?_
  refine G.istore4 d0_3 ?_
  refine G.iloadN d0_5 rfl ?_
  refine G.iconst 2 d0_6 ?_
  refine G.iushr d0_7 ?_
  refine G.bipush 7 d0_8 ?_
  refine G.iand d0_10 ?_
  refine G.istore5 d0_11 ?_
  obtain ⟨lo, hlo, k, hk, hk3⟩ : ∃ q, q = m &&& 3 ∧ ∃ k : Nat, q.toInt = (k : Int) ∧ k ≤ 3 := by
    refine ⟨_, rfl, (m &&& 3).toInt.toNat, ?_⟩
    have a := c_mask m 3 2 (by decide) (by decide)
    have e : ((2 ^ 2 : Nat) : Int) = 4 := by decide
    rw [e] at a
    omega
  obtain ⟨lc, hlc, j, hj, hj7⟩ : ∃ q, q = (m.toUInt32 >>> ((2 : Int32) &&& 31).toUInt32).toInt32 &&& 7 ∧ ∃ k : Nat, q.toInt = (k : Int) ∧ k ≤ 7 := by
    refine ⟨_, rfl, ((m.toUInt32 >>> ((2 : Int32) &&& 31).toUInt32).toInt32 &&& 7).toInt.toNat, ?_⟩
    have a := c_mask ((m.toUInt32 >>> ((2 : Int32) &&& 31).toUInt32).toInt32) 7 3 (by decide) (by decide)
    have e : ((2 ^ 3 : Nat) : Int) = 8 := by decide
    rw [e] at a
    omega
  rw [← hlo, ← hlc]
  clear hlo hlc
  have lo3 : (lo + 3).toInt = ((k + 3 : Nat) : Int) := by
    have a1 := c_iadd lo 3
    have a2 := rng32 (lo + 3)
    have a3 : (3 : Int32).toInt = 3 := by decide
    rw [a3] at a1
    omega
  have lo1 : (lo + 1).toInt = ((k + 1 : Nat) : Int) := inc_toInt hk (by omega)
  have lo2 : (lo + 2).toInt = ((k + 2 : Nat) : Int) := by
    have a1 := c_iadd lo 2
    have a2 := rng32 (lo + 2)
    have a3 : (2 : Int32).toInt = 2 := by decide
    rw [a3] at a1
    omega
  have i1 : (1 : Int32).toInt = 1 := by decide
  have i2 : (2 : Int32).toInt = 2 := by decide
  have i3 : (3 : Int32).toInt = 3 := by decide
  have tail196 : ∀ (h : Heap) (b6 : Int32) (u v : Addr) (x0 x1 x2 y0 y1 y2 y3 y4 y5 y6 : Int32), Lat [x0, x1, x2] → Lat [y0, y1, y2, y3, y4, y5, y6] → Al Z h u .char ([x0, x1, x2].map .int) → Al Z h v .char ([y0, y1, y2, y3, y4, y5, y6].map .int) →
      Go Z EL1 false room_1 (fun v h S' => v = some (.int 1)) K h [] 2 10 196 [.val (.int o), .val (.long c), .second, .val (.int m), .val (.int lo), .val (.int lc), .val (.int b6), .val (.ref u), .val (.ref v), .unset, .unset, .unset, .unset, .unset, .unset, .unset] [] := by
    intro h b6 u v x0 x1 x2 y0 y1 y2 y3 y4 y5 y6 lx ly Au Av
    refine G.aload d0_196 rfl rfl ?_
    refine G.iload d0_198 rfl ?_
    refine G.callS2 d0_200 (hw 5 rfl) (hw 6 rfl) (hw 3 rfl) (hw 7 rfl) pd_26 (cSTR K.l Z a0 hw h hC u [x0, x1, x2] lo k hk (by omega) (by simpa using hk3) lx Au) (fun _ q => nomatch q) ?_
    rintro _ h1 _ ⟨⟨s9, b9, rfl, T9⟩, E1, rfl⟩ -
    refine G.astore9 d0_203 ?_
    refine G.aload d0_205 rfl rfl ?_
    refine G.iload d0_207 rfl ?_
    refine G.callS2 d0_209 (hw 5 rfl) (hw 6 rfl) (hw 3 rfl) (hw 7 rfl) pd_26 (cSTR K.l Z a0 hw h1 hC v [y0, y1, y2, y3, y4, y5, y6] lc j hj hj7 (by simpa using hj7) ly (Av.ext E1)) (fun _ q => nomatch q) ?_
    rintro _ h2 _ ⟨⟨s10, b10, rfl, T10⟩, E2, rfl⟩ -
    replace T9 := T9.ext E2
    replace Au := (Au.ext E1).ext E2
    replace Av := (Av.ext E1).ext E2
    obtain ⟨p, hp⟩ : ∃ p, [y0, y1, y2, y3, y4, y5, y6][k]? = some p := ⟨_, List.getElem?_eq_getElem (by simp; omega)⟩
    obtain ⟨d, hd⟩ : ∃ p, [y0, y1, y2, y3, y4, y5, y6][k + 1]? = some p := ⟨_, List.getElem?_eq_getElem (by simp; omega)⟩
    obtain ⟨e, he⟩ : ∃ p, [y0, y1, y2, y3, y4, y5, y6][k + 2]? = some p := ⟨_, List.getElem?_eq_getElem (by simp; omega)⟩
    have P1 := pf_law x0 x1 x2 y0 y1 y2 y3 y4 y5 y6 p d e 82 k j hk3 hp hd he
    have P2 := pf_law x0 x1 x2 y0 y1 y2 y3 y4 y5 y6 p d e 87 k j hk3 hp hd he
    have tail368 : ∀ (ex : Int32) (t12 t13 t14 t15 : Slot), (ex = 0 ∨ ex = 1) → (ex ≠ 0 ↔ (k + 3 ≤ j ∧ (k < 1 ∨ y0 = x0) ∧ (k < 2 ∨ y1 = x1) ∧ (k < 3 ∨ y2 = x2) ∧ p = 45 ∧ (d = 82 ∨ d = 87) ∧ e = 45)) →
        Go Z EL1 false room_1 (fun v h S' => v = some (.int 1)) K h2 [] 14 80 368 [.val (.int o), .val (.long c), .second, .val (.int m), .val (.int lo), .val (.int lc), .val (.int b6), .val (.ref u), .val (.ref v), .val (.ref s9), .val (.ref s10), .val (.int ex), t12, t13, t14, t15] [] := by
      intro ex t12 t13 t14 t15 h01 hex
      refine G.aload d0_368 rfl rfl ?_
      refine G.aload d0_370 rfl rfl ?_
      refine G.callS2 d0_372 (hw 40 rfl) (hw 41 rfl) (hw 42 rfl) (hw 43 rfl) pd_27 (cIMB K.l Z a0 hw h2 hC rd wr hM s10 b10 s9 b9 _ _ (fun z q => ly z (List.mem_of_mem_take q)) (fun z q => lx z (List.mem_of_mem_take q)) (by simp; omega) T10 T9) (fun _ q => nomatch q) ?_
      rintro _ h3 _ ⟨⟨r, rfl, r01, hr⟩, E3, rfl⟩ -
      rw [P1, P2] at hr
      have e1 : r = ex := by
        have : (r ≠ 0) ↔ (ex ≠ 0) := by
          rw [hr, hex]
          constructor
          · rintro (⟨q1, q2, q3, q4, q5, q6, q7⟩ | ⟨q1, q2, q3, q4, q5, q6, q7⟩)
            · exact ⟨q1, q2, q3, q4, q5, Or.inl q6, q7⟩
            · exact ⟨q1, q2, q3, q4, q5, Or.inr q6, q7⟩
          · rintro ⟨q1, q2, q3, q4, q5, q6 | q6, q7⟩
            · exact Or.inl ⟨q1, q2, q3, q4, q5, q6, q7⟩
            · exact Or.inr ⟨q1, q2, q3, q4, q5, q6, q7⟩
        rcases r01 with rfl | rfl <;> rcases h01 with rfl | rfl
        · rfl
        · exact absurd rfl (this.mpr (by decide))
        · exact absurd rfl (this.mp (by decide))
        · rfl
      refine G.iload d0_375 rfl ?_
      refine G.icmp_ne d0_377 (fun q => absurd e1 q) (fun _ => ?_)
      refine G.iconst 1 d0_380 ?_
      refine G.goto d0_381 ?_
      exact G.nret d0_385 (Or.inl rfl) (z' := 1) (by decide) [] (fun _ q => nomatch q) rfl
    refine G.astore10 d0_212 ?_
    refine G.iload d0_214 rfl ?_
    refine G.iload d0_216 rfl ?_
    refine G.iconst 3 d0_218 ?_
    refine G.iadd d0_219 ?_
    refine G.icmp_ge d0_220 (fun q => ?_) (fun q => ?_) <;> rw [Int32.lt_iff_toInt_lt, hj, lo3] at q
    · have hkj : k + 3 ≤ j := by omega
      have tail301 : ∀ (b12 b13 b14 : Int32), (¬ b12 = 0 ↔ (k < 1 ∨ y0 = x0)) → (¬ b13 = 0 ↔ (k < 2 ∨ y1 = x1)) → (¬ b14 = 0 ↔ (k < 3 ∨ y2 = x2)) → Go Z EL1 false room_1 (fun v h S' => v = some (.int 1)) K h2 [] 14 80 301 [.val (.int o), .val (.long c), .second, .val (.int m), .val (.int lo), .val (.int lc), .val (.int b6), .val (.ref u), .val (.ref v), .val (.ref s9), .val (.ref s10), .unset, .val (.int b12), .val (.int b13), .val (.int b14), .unset] [] := by
        intro b12 b13 b14 g12 g13 g14
        refine G.aload d0_301 rfl rfl ?_
        refine G.iload d0_303 rfl ?_
        refine G.iconst 1 d0_305 ?_
        refine G.iadd d0_306 ?_
        refine G.caload d0_307 Av lo1 (v := .int d) (by rw [List.getElem?_map, hd]; rfl) ?_
        have t365 : ¬ (k + 3 ≤ j ∧ (k < 1 ∨ y0 = x0) ∧ (k < 2 ∨ y1 = x1) ∧ (k < 3 ∨ y2 = x2) ∧ p = 45 ∧ (d = 82 ∨ d = 87) ∧ e = 45) → Go Z EL1 false room_1 (fun v h S' => v = some (.int 1)) K h2 [] 14 80 365 [.val (.int o), .val (.long c), .second, .val (.int m), .val (.int lo), .val (.int lc), .val (.int b6), .val (.ref u), .val (.ref v), .val (.ref s9), .val (.ref s10), .unset, .val (.int b12), .val (.int b13), .val (.int b14), .val (.int d)] [] := by
          intro hn
          refine G.iconst 0 d0_365 ?_
          refine G.istore11 d0_366 ?_
          exact tail368 0 _ _ _ _ (Or.inl rfl) ⟨fun z => absurd rfl z, fun z => absurd z hn⟩
        refine G.istore15 d0_308 ?_
        refine G.iload d0_310 rfl ?_
        refine G.if_eq d0_312 (fun z => t365 (fun w => absurd z (g12.mpr w.2.1))) (fun z12 => ?_)
        refine G.iload d0_315 rfl ?_
        refine G.if_eq d0_317 (fun z => t365 (fun w => absurd z (g13.mpr w.2.2.1))) (fun z13 => ?_)
        refine G.iload d0_320 rfl ?_
        refine G.if_eq d0_322 (fun z => t365 (fun w => absurd z (g14.mpr w.2.2.2.1))) (fun z14 => ?_)
        refine G.aload d0_325 rfl rfl ?_
        refine G.iload d0_327 rfl ?_
        refine G.caload d0_329 Av hk (v := .int p) (by rw [List.getElem?_map, hp]; rfl) ?_
        refine G.bipush 45 d0_330 ?_
        refine G.icmp_ne d0_332 (fun z => t365 (fun w => absurd w.2.2.2.2.1 z)) (fun zp => ?_)
        have t349 : (d = 82 ∨ d = 87) → Go Z EL1 false room_1 (fun v h S' => v = some (.int 1)) K h2 [] 14 80 349 [.val (.int o), .val (.long c), .second, .val (.int m), .val (.int lo), .val (.int lc), .val (.int b6), .val (.ref u), .val (.ref v), .val (.ref s9), .val (.ref s10), .unset, .val (.int b12), .val (.int b13), .val (.int b14), .val (.int d)] [] := by
          intro zd
          refine G.aload d0_349 rfl rfl ?_
          refine G.iload d0_351 rfl ?_
          refine G.iconst 2 d0_353 ?_
          refine G.iadd d0_354 ?_
          refine G.caload d0_355 Av lo2 (v := .int e) (by rw [List.getElem?_map, he]; rfl) ?_
          refine G.bipush 45 d0_356 ?_
          refine G.icmp_ne d0_358 (fun z => t365 (fun w => absurd w.2.2.2.2.2.2 z)) (fun ze => ?_)
          refine G.iconst 1 d0_361 ?_
          refine G.goto d0_362 ?_
          refine G.istore11 d0_366 ?_
          exact tail368 1 _ _ _ _ (Or.inr rfl) ⟨fun _ => ⟨hkj, g12.mp z12, g13.mp z13, g14.mp z14, zp, zd, ze⟩, fun _ => by decide⟩
        refine G.iload d0_335 rfl ?_
        refine G.bipush 82 d0_337 ?_
        refine G.icmp_eq d0_339 (fun z => t349 (Or.inl z)) (fun zR => ?_)
        refine G.iload d0_342 rfl ?_
        refine G.bipush 87 d0_344 ?_
        refine G.icmp_ne d0_346 (fun zW => t365 (fun w => by rcases w.2.2.2.2.2.1 with r | r; exact absurd r zR; exact absurd r zW)) (fun z => t349 (Or.inr z))
      have tail277 : ∀ (b12 b13 : Int32), (¬ b12 = 0 ↔ (k < 1 ∨ y0 = x0)) → (¬ b13 = 0 ↔ (k < 2 ∨ y1 = x1)) → Go Z EL1 false room_1 (fun v h S' => v = some (.int 1)) K h2 [] 14 80 277 [.val (.int o), .val (.long c), .second, .val (.int m), .val (.int lo), .val (.int lc), .val (.int b6), .val (.ref u), .val (.ref v), .val (.ref s9), .val (.ref s10), .unset, .val (.int b12), .val (.int b13), .unset, .unset] [] := by
        intro b12 b13 g12 g13
        refine G.iload d0_277 rfl ?_
        refine G.iconst 3 d0_279 ?_
        refine G.icmp_lt d0_280 (fun z => ?_) (fun z => ?_) <;> rw [Int32.lt_iff_toInt_lt, hk, i3] at z
        · refine G.iconst 1 d0_294 ?_
          refine G.goto d0_295 ?_
          refine G.istore14 d0_299 ?_
          exact tail301 b12 b13 1 g12 g13 ⟨fun _ => Or.inl (by omega), fun _ => by decide⟩
        · refine G.aload d0_283 rfl rfl ?_
          refine G.iconst 2 d0_285 ?_
          refine G.caload d0_286 Av (i := 2) (by decide) (v := .int y2) rfl ?_
          refine G.aload d0_287 rfl rfl ?_
          refine G.iconst 2 d0_289 ?_
          refine G.caload d0_290 Au (i := 2) (by decide) (v := .int x2) rfl ?_
          refine G.icmp_ne d0_291 (fun w => ?_) (fun w => ?_)
          · refine G.iconst 0 d0_298 ?_
            refine G.istore14 d0_299 ?_
            exact tail301 b12 b13 0 g12 g13 ⟨fun t => absurd rfl t, fun t => by rcases t with t | t; omega; exact absurd t w⟩
          · refine G.iconst 1 d0_294 ?_
            refine G.goto d0_295 ?_
            refine G.istore14 d0_299 ?_
            exact tail301 b12 b13 1 g12 g13 ⟨fun _ => Or.inr w, fun _ => by decide⟩
      have tail253 : ∀ (b12 : Int32), (¬ b12 = 0 ↔ (k < 1 ∨ y0 = x0)) → Go Z EL1 false room_1 (fun v h S' => v = some (.int 1)) K h2 [] 14 80 253 [.val (.int o), .val (.long c), .second, .val (.int m), .val (.int lo), .val (.int lc), .val (.int b6), .val (.ref u), .val (.ref v), .val (.ref s9), .val (.ref s10), .unset, .val (.int b12), .unset, .unset, .unset] [] := by
        intro b12 g12
        refine G.iload d0_253 rfl ?_
        refine G.iconst 2 d0_255 ?_
        refine G.icmp_lt d0_256 (fun z => ?_) (fun z => ?_) <;> rw [Int32.lt_iff_toInt_lt, hk, i2] at z
        · refine G.iconst 1 d0_270 ?_
          refine G.goto d0_271 ?_
          refine G.istore13 d0_275 ?_
          exact tail277 b12 1 g12 ⟨fun _ => Or.inl (by omega), fun _ => by decide⟩
        · refine G.aload d0_259 rfl rfl ?_
          refine G.iconst 1 d0_261 ?_
          refine G.caload d0_262 Av (i := 1) (by decide) (v := .int y1) rfl ?_
          refine G.aload d0_263 rfl rfl ?_
          refine G.iconst 1 d0_265 ?_
          refine G.caload d0_266 Au (i := 1) (by decide) (v := .int x1) rfl ?_
          refine G.icmp_ne d0_267 (fun w => ?_) (fun w => ?_)
          · refine G.iconst 0 d0_274 ?_
            refine G.istore13 d0_275 ?_
            exact tail277 b12 0 g12 ⟨fun t => absurd rfl t, fun t => by rcases t with t | t; omega; exact absurd t w⟩
          · refine G.iconst 1 d0_270 ?_
            refine G.goto d0_271 ?_
            refine G.istore13 d0_275 ?_
            exact tail277 b12 1 g12 ⟨fun _ => Or.inr w, fun _ => by decide⟩
      refine G.iload d0_229 rfl ?_
      refine G.iconst 1 d0_231 ?_
      refine G.icmp_lt d0_232 (fun z => ?_) (fun z => ?_) <;> rw [Int32.lt_iff_toInt_lt, hk, i1] at z
      · refine G.iconst 1 d0_246 ?_
        refine G.goto d0_247 ?_
        refine G.istore12 d0_251 ?_
        exact tail253 1 ⟨fun _ => Or.inl (by omega), fun _ => by decide⟩
      · refine G.aload d0_235 rfl rfl ?_
        refine G.iconst 0 d0_237 ?_
        refine G.caload d0_238 Av (i := 0) (by decide) (v := .int y0) rfl ?_
        refine G.aload d0_239 rfl rfl ?_
        refine G.iconst 0 d0_241 ?_
        refine G.caload d0_242 Au (i := 0) (by decide) (v := .int x0) rfl ?_
        refine G.icmp_ne d0_243 (fun w => ?_) (fun w => ?_)
        · refine G.iconst 0 d0_250 ?_
          refine G.istore12 d0_251 ?_
          exact tail253 0 ⟨fun t => absurd rfl t, fun t => by rcases t with t | t; omega; exact absurd t w⟩
        · refine G.iconst 1 d0_246 ?_
          refine G.goto d0_247 ?_
          refine G.istore12 d0_251 ?_
          exact tail253 1 ⟨fun _ => Or.inr w, fun _ => by decide⟩
    · refine G.iconst 0 d0_223 ?_
      refine G.istore11 d0_224 ?_
      refine G.goto d0_226 ?_
      exact tail368 0 _ _ _ _ (Or.inl rfl) ⟨fun z => absurd rfl z, fun z => absurd z.1 (by omega)⟩
  have tail26 : ∀ b6 : Int32, Go Z EL1 false room_1 (fun v h S' => v = some (.int 1)) K h0 [] 0 0 26 [.val (.int o), .val (.long c), .second, .val (.int m), .val (.int lo), .val (.int lc), .unset, .unset, .unset, .unset, .unset, .unset, .unset, .unset, .unset, .unset] [.int b6] := by
    intro b6
    refine G.istore6 d0_26 ?_
    refine G.iconst 3 d0_28 ?_
    refine G.newA 3 3 d0_29 (hw 0 rfl) (by decide) (by decide) (fun h1 E1 L1 A1 => ?_)
    obtain ⟨u, hu⟩ : ∃ q, q = h0.size := ⟨_, rfl⟩
    rw [← hu] at A1
    rw [← hu]
    clear hu
    refine G.astore7 d0_31 ?_
    refine G.aload d0_33 rfl rfl ?_
    refine G.iconst 0 d0_35 ?_
    refine G.iloadN d0_36 rfl ?_
    refine G.callS1 d0_37 (hw 1 rfl) (hw 2 rfl) (hw 3 rfl) (hw 4 rfl) pd_28 (cPICK K.l Z a0 hw h1 _) (fun _ q => nomatch q) ?_
    rintro _ h1 _ ⟨⟨x0, rfl, rx0⟩, rfl, rfl⟩ -
    refine G.castore d0_40 (by simp) A1 (i := 0) (by decide) (by simp) (fun h2 W2 A2 => ?_)
    refine G.aload d0_41 rfl rfl ?_
    refine G.iconst 1 d0_43 ?_
    refine G.iloadN d0_44 rfl ?_
    refine G.bipush 10 d0_45 ?_
    refine G.iushr d0_47 ?_
    refine G.callS1 d0_48 (hw 1 rfl) (hw 2 rfl) (hw 3 rfl) (hw 4 rfl) pd_28 (cPICK K.l Z a0 hw h2 _) (fun _ q => nomatch q) ?_
    rintro _ h2 _ ⟨⟨x1, rfl, rx1⟩, rfl, rfl⟩ -
    refine G.castore d0_51 (by simp) A2 (i := 1) (by decide) (by simp) (fun h3 W3 A3 => ?_)
    refine G.aload d0_52 rfl rfl ?_
    refine G.iconst 2 d0_54 ?_
    refine G.iloadN d0_55 rfl ?_
    refine G.bipush 20 d0_56 ?_
    refine G.iushr d0_58 ?_
    refine G.callS1 d0_59 (hw 1 rfl) (hw 2 rfl) (hw 3 rfl) (hw 4 rfl) pd_28 (cPICK K.l Z a0 hw h3 _) (fun _ q => nomatch q) ?_
    rintro _ h3 _ ⟨⟨x2, rfl, rx2⟩, rfl, rfl⟩ -
    refine G.castore d0_62 (by simp) A3 (i := 2) (by decide) (by simp) (fun h4 W4 A4 => ?_)
    rw [nar_char rx0.1 (by have := rx0.2; omega), nar_char rx1.1 (by have := rx1.2; omega), nar_char rx2.1 (by have := rx2.2; omega)] at A4
    have Au : Al Z h4 u .char ([x0, x1, x2].map .int) := A4
    clear A1 A2 A3 A4 W2 W3 W4 E1 L1
    refine G.bipush 7 d0_63 ?_
    refine G.newA 7 7 d0_65 (hw 0 rfl) (by decide) (by decide) (fun h5 E5 L5 B0 => ?_)
    have hne : u ≠ h4.size := Nat.ne_of_lt Au.lt
    replace Au := Au.ext E5
    obtain ⟨v, hv⟩ : ∃ q, q = h4.size := ⟨_, rfl⟩
    rw [← hv] at B0 hne
    rw [← hv]
    clear hv E5 L5
    refine G.astore8 d0_67 ?_
    refine G.aload d0_69 rfl rfl ?_
    refine G.iconst 0 d0_71 ?_
    refine G.lloadN d0_72 rfl ?_
    refine G.l2i d0_73 ?_
    refine G.callS1 d0_74 (hw 1 rfl) (hw 2 rfl) (hw 3 rfl) (hw 4 rfl) pd_28 (cPICK K.l Z a0 hw h5 _) (fun _ q => nomatch q) ?_
    rintro _ h5 _ ⟨⟨y0, rfl, ry0⟩, rfl, rfl⟩ -
    refine G.castore d0_77 (by simp) B0 (i := 0) (by decide) (by simp) (fun h6 W6 B1 => ?_)
    replace Au := Au.other W6 hne
    refine G.aload d0_78 rfl rfl ?_
    refine G.iconst 1 d0_80 ?_
    refine G.lloadN d0_81 rfl ?_
    refine G.bipush 10 d0_82 ?_
    refine G.lushr d0_84 ?_
    refine G.l2i d0_85 ?_
    refine G.callS1 d0_86 (hw 1 rfl) (hw 2 rfl) (hw 3 rfl) (hw 4 rfl) pd_28 (cPICK K.l Z a0 hw h6 _) (fun _ q => nomatch q) ?_
    rintro _ h6 _ ⟨⟨y1, rfl, ry1⟩, rfl, rfl⟩ -
    refine G.castore d0_89 (by simp) B1 (i := 1) (by decide) (by simp) (fun h7 W7 B2 => ?_)
    replace Au := Au.other W7 hne
    refine G.aload d0_90 rfl rfl ?_
    refine G.iconst 2 d0_92 ?_
    refine G.lloadN d0_93 rfl ?_
    refine G.bipush 20 d0_94 ?_
    refine G.lushr d0_96 ?_
    refine G.l2i d0_97 ?_
    refine G.callS1 d0_98 (hw 1 rfl) (hw 2 rfl) (hw 3 rfl) (hw 4 rfl) pd_28 (cPICK K.l Z a0 hw h7 _) (fun _ q => nomatch q) ?_
    rintro _ h7 _ ⟨⟨y2, rfl, ry2⟩, rfl, rfl⟩ -
    refine G.castore d0_101 (by simp) B2 (i := 2) (by decide) (by simp) (fun h8 W8 B3 => ?_)
    replace Au := Au.other W8 hne
    refine G.aload d0_102 rfl rfl ?_
    refine G.iconst 3 d0_104 ?_
    refine G.lloadN d0_105 rfl ?_
    refine G.bipush 30 d0_106 ?_
    refine G.lushr d0_108 ?_
    refine G.l2i d0_109 ?_
    refine G.callS1 d0_110 (hw 1 rfl) (hw 2 rfl) (hw 3 rfl) (hw 4 rfl) pd_28 (cPICK K.l Z a0 hw h8 _) (fun _ q => nomatch q) ?_
    rintro _ h8 _ ⟨⟨y3, rfl, ry3⟩, rfl, rfl⟩ -
    refine G.castore d0_113 (by simp) B3 (i := 3) (by decide) (by simp) (fun h9 W9 B4 => ?_)
    replace Au := Au.other W9 hne
    refine G.aload d0_114 rfl rfl ?_
    refine G.iconst 4 d0_116 ?_
    refine G.lloadN d0_117 rfl ?_
    refine G.bipush 40 d0_118 ?_
    refine G.lushr d0_120 ?_
    refine G.l2i d0_121 ?_
    refine G.callS1 d0_122 (hw 1 rfl) (hw 2 rfl) (hw 3 rfl) (hw 4 rfl) pd_28 (cPICK K.l Z a0 hw h9 _) (fun _ q => nomatch q) ?_
    rintro _ h9 _ ⟨⟨y4, rfl, ry4⟩, rfl, rfl⟩ -
    refine G.castore d0_125 (by simp) B4 (i := 4) (by decide) (by simp) (fun h10 W10 B5 => ?_)
    replace Au := Au.other W10 hne
    refine G.aload d0_126 rfl rfl ?_
    refine G.iconst 5 d0_128 ?_
    refine G.lloadN d0_129 rfl ?_
    refine G.bipush 50 d0_130 ?_
    refine G.lushr d0_132 ?_
    refine G.l2i d0_133 ?_
    refine G.callS1 d0_134 (hw 1 rfl) (hw 2 rfl) (hw 3 rfl) (hw 4 rfl) pd_28 (cPICK K.l Z a0 hw h10 _) (fun _ q => nomatch q) ?_
    rintro _ h10 _ ⟨⟨y5, rfl, ry5⟩, rfl, rfl⟩ -
    refine G.castore d0_137 (by simp) B5 (i := 5) (by decide) (by simp) (fun h11 W11 B6 => ?_)
    replace Au := Au.other W11 hne
    refine G.aload d0_138 rfl rfl ?_
    refine G.bipush 6 d0_140 ?_
    refine G.iloadN d0_142 rfl ?_
    refine G.bipush 6 d0_143 ?_
    refine G.iushr d0_145 ?_
    refine G.callS1 d0_146 (hw 1 rfl) (hw 2 rfl) (hw 3 rfl) (hw 4 rfl) pd_28 (cPICK K.l Z a0 hw h11 _) (fun _ q => nomatch q) ?_
    rintro _ h11 _ ⟨⟨y6, rfl, ry6⟩, rfl, rfl⟩ -
    refine G.castore d0_149 (by simp) B6 (i := 6) (by decide) (by simp) (fun h12 W12 B7 => ?_)
    replace Au := Au.other W12 hne
    rw [nar_char ry0.1 (by have := ry0.2; omega), nar_char ry1.1 (by have := ry1.2; omega), nar_char ry2.1 (by have := ry2.2; omega), nar_char ry3.1 (by have := ry3.2; omega), nar_char ry4.1 (by have := ry4.2; omega), nar_char ry5.1 (by have := ry5.2; omega), nar_char ry6.1 (by have := ry6.2; omega)] at B7
    have Av : Al Z h12 v .char ([y0, y1, y2, y3, y4, y5, y6].map .int) := B7
    clear B0 B1 B2 B3 B4 B5 B6 B7
    have lx : Lat [x0, x1, x2] := Lat.cons rx0 (Lat.cons rx1 (Lat.cons rx2 Lat.nil))
    have t182 : ∀ (h : Heap) (z0 z1 : Int32), C8 z0 → C8 z1 → Al Z h u .char ([x0, x1, x2].map .int) → Al Z h v .char ([z0, z1, y2, y3, y4, y5, y6].map .int) → Go Z EL1 false room_1 (fun v h S' => v = some (.int 1)) K h [v, u] 2 10 182 [.val (.int o), .val (.long c), .second, .val (.int m), .val (.int lo), .val (.int lc), .val (.int b6), .val (.ref u), .val (.ref v), .unset, .unset, .unset, .unset, .unset, .unset, .unset] [] := by
      intro h z0 z1 q0 q1 Au Av
      refine G.iload d0_182 rfl ?_
      refine G.iconst 2 d0_184 ?_
      refine G.icmp_le d0_185 (fun _ => ?_) (fun _ => ?_)
      · refine Go.fewer (S' := []) ?_ (fun _ q => nomatch q)
        exact tail196 h b6 u v x0 x1 x2 z0 z1 y2 y3 y4 y5 y6 lx (Lat.cons q0 (Lat.cons q1 (Lat.cons ry2 (Lat.cons ry3 (Lat.cons ry4 (Lat.cons ry5 (Lat.cons ry6 Lat.nil))))))) Au Av
      · refine G.aload d0_188 rfl rfl ?_
        refine G.iconst 2 d0_190 ?_
        refine G.aload d0_191 rfl rfl ?_
        refine G.iconst 2 d0_193 ?_
        refine G.caload d0_194 Au (i := 2) (by decide) (v := .int x2) rfl ?_
        refine G.castore d0_195 (by simp) Av (i := 2) (by decide) (by simp) (fun h' W B => ?_)
        rw [nar_char rx2.1 (by have := rx2.2; omega)] at B
        refine Go.fewer (S' := []) ?_ (fun _ q => nomatch q)
        exact tail196 h' b6 u v x0 x1 x2 z0 z1 x2 y3 y4 y5 y6 lx (Lat.cons q0 (Lat.cons q1 (Lat.cons rx2 (Lat.cons ry3 (Lat.cons ry4 (Lat.cons ry5 (Lat.cons ry6 Lat.nil))))))) (Au.other W hne) B
    have t168 : ∀ (h : Heap) (z0 : Int32), C8 z0 → Al Z h u .char ([x0, x1, x2].map .int) → Al Z h v .char ([z0, y1, y2, y3, y4, y5, y6].map .int) → Go Z EL1 false room_1 (fun v h S' => v = some (.int 1)) K h [v, u] 2 10 168 [.val (.int o), .val (.long c), .second, .val (.int m), .val (.int lo), .val (.int lc), .val (.int b6), .val (.ref u), .val (.ref v), .unset, .unset, .unset, .unset, .unset, .unset, .unset] [] := by
      intro h z0 q0 Au Av
      refine G.iload d0_168 rfl ?_
      refine G.iconst 1 d0_170 ?_
      refine G.icmp_le d0_171 (fun _ => ?_) (fun _ => ?_)
      · exact t182 h z0 y1 q0 ry1 Au Av
      · refine G.aload d0_174 rfl rfl ?_
        refine G.iconst 1 d0_176 ?_
        refine G.aload d0_177 rfl rfl ?_
        refine G.iconst 1 d0_179 ?_
        refine G.caload d0_180 Au (i := 1) (by decide) (v := .int x1) rfl ?_
        refine G.castore d0_181 (by simp) Av (i := 1) (by decide) (by simp) (fun h' W B => ?_)
        rw [nar_char rx1.1 (by have := rx1.2; omega)] at B
        exact t182 h' z0 x1 q0 rx1 (Au.other W hne) B
    refine G.iload d0_150 rfl ?_
    refine G.if_eq d0_152 (fun _ => ?_) (fun _ => ?_)
    · refine Go.fewer (S' := []) ?_ (fun _ q => nomatch q)
      exact tail196 h12 b6 u v x0 x1 x2 y0 y1 y2 y3 y4 y5 y6 lx (Lat.cons ry0 (Lat.cons ry1 (Lat.cons ry2 (Lat.cons ry3 (Lat.cons ry4 (Lat.cons ry5 (Lat.cons ry6 Lat.nil))))))) Au Av
    · refine G.iload d0_155 rfl ?_
      refine G.if_le d0_157 (fun _ => ?_) (fun _ => ?_)
      · exact t168 h12 y0 ry0 Au Av
      · refine G.aload d0_160 rfl rfl ?_
        refine G.iconst 0 d0_162 ?_
        refine G.aload d0_163 rfl rfl ?_
        refine G.iconst 0 d0_165 ?_
        refine G.caload d0_166 Au (i := 0) (by decide) (v := .int x0) rfl ?_
        refine G.castore d0_167 (by simp) Av (i := 0) (by decide) (by simp) (fun h' W B => ?_)
        rw [nar_char rx0.1 (by have := rx0.2; omega)] at B
        exact t168 h' x0 rx0 (Au.other W hne) B
  refine G.iloadN d0_13 rfl ?_
  refine G.iconst 5 d0_14 ?_
  refine G.iushr d0_15 ?_
  refine G.iconst 1 d0_16 ?_
  refine G.iand d0_17 ?_
  refine G.if_eq d0_18 (fun _ => ?_) (fun _ => ?_)
  · refine G.iconst 0 d0_25 ?_
    exact tail26 _
  · refine G.iconst 1 d0_21 ?_
    refine G.goto d0_22 ?_
    exact tail26 _
set_option maxRecDepth 65536 in
set_option maxHeartbeats 40000000 in
theorem comes_1 {Post : Tables → Env → Array Value → State → Outcome → State → Prop} (hpost : ∀ tb e args s v u, (limb_1_1.after args s (.returned v) u = true ∧ limb_1_2.after args s (.returned v) u = true ∧ True) → ReturnedEndW s (.returned v) u (Jvm.fieldLocs frame_1_writes args s ++ Jvm.arrayLocs frame_1_arrays args s ++ Jvm.staticLocs frame_1_statics s) 48 3392 → Post tb e args s (.returned v) u) :
    ArmFor flags0 classFile x code maxLocals ret World_1 tables_1 room_1 Calls_1 rest_1 Pre_1 Post := by
  intro l hfl _ _ p e ha hc hk s m args below hf hA hF happ hP
  obtain ⟨hcalls, hrest, hpre⟩ := hP
  obtain ⟨-, -, -, hnamed, -, -, -, hat⟩ := (Spec.applies_iff hf).mp happ
  obtain ⟨hg, hn⟩ := and_e (Cond.before_iff.mp (show (Jvm.Cond.and given_1 narrow_1).before args s = true from hpre))
  obtain ⟨h0, g0⟩ := and_e hg
  obtain ⟨p0, g1⟩ := and_e g0
  obtain ⟨p1, g2⟩ := and_e g1
  obtain ⟨w0, w1, w2, rfl⟩ : ∃ w0 w1 w2 : Value, args = #[w0, w1, w2] := by
    have hs : args.size = 3 := by simpa [Cond.value, given_1] using h0
    obtain ⟨L⟩ := args
    match L, hs with
    | [w0, w1, w2], _ => exact ⟨w0, w1, w2, rfl⟩
  have hw0 := fun d (hd : d ∈ tables_1) => atoms_spec (ws := Jvm.Cond.code x code maxLocals ret :: tables_1) hat d (List.mem_cons_of_mem _ hd)
  have hw : hwT #[w0, w1, w2] s := fun i d q => hw0 d (List.mem_of_getElem? q)
  obtain ⟨i0, e0⟩ := is_v p0
  obtain rfl : w0 = (.int i0) := Option.some.inj e0
  obtain ⟨i1, e1⟩ := isL_v p1
  obtain rfl : w1 = (.long i1) := Option.some.inj e1
  obtain ⟨i2, e2⟩ := is_v g2
  obtain rfl : w2 = (.int i2) := Option.some.inj e2
  obtain ⟨hsets, hown0⟩ := atoms_of _ (rest_1_c_eq ▸ (show rest_1_c.before _ s = true from hrest))
  have hcw := hsets _ (List.mem_of_getElem? (i := 2) rfl)
  have nz := not_v (Cond.before_iff.mp hcw)
  obtain ⟨ic, ec⟩ := is_v (Cond.before_iff.mp (hsets _ (List.mem_of_getElem? (i := 1) rfl)))
  have hC : CS s := ⟨ic, Sta.start ec (Or.inl (hsets _ (List.mem_of_getElem? (i := 0) rfl))), gotF (Cond.eq_ints ec (Term.int_eval (0))) nz⟩
  obtain ⟨rd, wr, hM⟩ : ∃ rd wr, MS s rd wr := own_ms hw hn
  obtain ⟨n, o, h1, h2, h3, v, L, S', rfl, rfl, N, -, -, hq, hnw, -⟩ := law1 l s _ hw s.heap hC rd wr hM i0 i1 i2 p e ha hc hk s m _ below hf ((Spec.applies_iff_loose hf).mp happ).1 ⟨rfl, State.Warmed39.refl s, rfl, CHv.start (hEL1 hw) (fun p hp => hcalls.1 p hp) hcw (hw 26 rfl) (hw 9 rfl), (fun _ q => nomatch q), ⟨Nat.le_refl _, fun _ _ q => q⟩⟩ trivial
  refine ⟨n, _, h1, h2, h3, hpost _ _ _ _ _ _ ⟨Cond.after_iff.mpr rfl, Cond.after_iff.mpr (eq_i res_at (Term.int_eval (1)) rfl), trivial⟩ ⟨⟨_, rfl⟩, hq.2.1, hq.2.2.1, (hq.2.2.2.sift fun y hy => Or.inr (N y hy)).mono (by decide) (by decide)⟩⟩
theorem main_1_1 : Claimed_1_1 := comes_1 fun _ _ _ _ _ _ h hF => ⟨h.1, hF⟩
theorem main_1_2 : Claimed_1_2 := comes_1 fun _ _ _ _ _ _ h hF => ⟨h.2.1, hF⟩
end Jvm.Pilot.@@N@@
namespace Jvm.Pilot.@@N@@
open Jvm Jvm.ClassFile Sem Op Lib Jvm.Free Jvm.Stand Jvm.Pilot.@@N@@.Jvm.D
/-! MADE BY PROGRAM (witnessworld.py) out of the Statement's table words and the real class files: 29 classes; the members and pool entries that the words name. The judged class is class 1, her method 3. -/
namespace start1
open Jvm.ClassFile
def u (s : String) : CpInfo := .utf8 (stringToUtf16 s)
/-- a pool by its gaps: so many unusable entries, then the entry; so many at the end -/
def gap : Nat → List CpInfo → List CpInfo
  | 0, r => r
  | n + 1, r => .unusable :: gap n r
def poolList (es : List (Nat × CpInfo)) (last : Nat) : List CpInfo := es.foldr (fun e r => gap e.1 (e.2 :: r)) (gap last [])
def pool (es : List (Nat × CpInfo)) (last : Nat) : Array CpInfo := ⟨poolList es last⟩
def fileOf (pool : Array CpInfo) (this : Nat) (attrs : Array Attribute := #[]) (ms : Array MethodInfo := #[]) (fl : Nat := 33) (sup : Nat := 0) (ifs : Array Nat := #[]) (fds : Array FieldInfo := #[]) : ClassFile where
  minorVersion := 0
  majorVersion := 65
  constantPool := pool
  accessFlags := fl
  thisClass := this
  superClass := sup
  interfaces := ifs
  fields := fds
  methods := ms
  attributes := attrs
def plain (name : String) (sup : Option ClassId) : Class where
  name := name
  kind := .ordinary
  loader := none
  accessFlags := 33
  super := sup
  interfaces := #[]
  cf := none
  fields := #[]
  methods := #[]
  instanceTypes := #[]
  staticTypes := #[]
  resolved := #[]
  callSites := []
  init := .initialized
  statics := none
  mirror := none

def pool0 : Array CpInfo := pool [(5, u "<init>"), (0, u "()V"), (1, .class_ 10), (1, u "java/lang/Object")] 113

def k0c0 : Code := { maxStack := 0, maxLocals := 1, code := object_method_1_code, exceptionTable := #[], attributes := #[] }
def k0m0 : Method := { name := "<init>", desc := "()V", sig := { parameters := [], returnType := none }, accessFlags := 1, code := some k0c0 }
/-- java/lang/Object -/
def k0 : Class := { plain "java/lang/Object" none with
  accessFlags := 33
  interfaces := #[]
  cf := some (fileOf pool0 8 #[] #[{ accessFlags := 1, nameIndex := 5, descriptorIndex := 6, attributes := #[] }] 33 0 #[] #[])
  fields := #[]
  methods := #[k0m0]
  instanceTypes := #[]
  staticTypes := #[]
  resolved := Array.replicate 124 none
  statics := none }

def pool1 : Array CpInfo := pool [(2, .class_ 4), (1, u "java/lang/Object"), (0, u "<init>"), (0, u "()V"), (0, .class_ 8), (0, u "java/lang/String"), (0, .methodref 7 10), (0, .nameAndType 5 11), (0, u "([C)V"), (0, .methodref 13 14), (0, .class_ 15), (0, .nameAndType 16 17), (0, u "com/example/bounded_lock/boundedlock/zookeeper/RequestNodeIsMadeByPinLaw"), (0, u "pick"), (0, u "(I)C"), (0, .methodref 13 19), (0, .nameAndType 20 21), (0, u "str"), (0, u "([CI)Ljava/lang/String;"), (0, .methodref 23 24), (0, .class_ 25), (0, .nameAndType 26 27), (0, u "com/example/bounded_lock/boundedlock/zookeeper/RequestNode"), (0, u "isMadeBy"), (0, u "(Ljava/lang/String;Ljava/lang/String;)Z"), (3, u "law"), (0, u "(IJI)Z")] 4

def k1m0 : Method := { name := "<init>", desc := "()V", sig := { parameters := [], returnType := none }, accessFlags := 1, code := none }
def k1c1 : Code := { maxStack := 2, maxLocals := 2, code := method_2_code, exceptionTable := #[], attributes := #[] }
def k1m1 : Method := { name := "pick", desc := "(I)C", sig := { parameters := [.int], returnType := some .char }, accessFlags := 10, code := some k1c1 }
def k1c2 : Code := { maxStack := 7, maxLocals := 2, code := method_3_code, exceptionTable := #[], attributes := #[] }
def k1m2 : Method := { name := "str", desc := "([CI)Ljava/lang/String;", sig := { parameters := [(.array .char), .int], returnType := some (.object "java/lang/String") }, accessFlags := 10, code := some k1c2 }
def k1c3 : Code := { maxStack := 5, maxLocals := 16, code := code, exceptionTable := #[], attributes := #[] }
def k1m3 : Method := { name := "law", desc := "(IJI)Z", sig := { parameters := [.int, .long, .int], returnType := some .boolean }, accessFlags := 9, code := some k1c3 }
/-- com/example/bounded_lock/boundedlock/zookeeper/RequestNodeIsMadeByPinLaw -/
def k1 : Class := { plain "com/example/bounded_lock/boundedlock/zookeeper/RequestNodeIsMadeByPinLaw" (some 0) with
  accessFlags := 49
  interfaces := #[]
  cf := some (fileOf pool1 13 #[] #[{ accessFlags := 1, nameIndex := 5, descriptorIndex := 6, attributes := #[] }, { accessFlags := 10, nameIndex := 16, descriptorIndex := 17, attributes := #[] }, { accessFlags := 10, nameIndex := 20, descriptorIndex := 21, attributes := #[] }, { accessFlags := 9, nameIndex := 31, descriptorIndex := 32, attributes := #[] }] 49 2 #[] #[])
  fields := #[]
  methods := #[k1m0, k1m1, k1m2, k1m3]
  instanceTypes := #[]
  staticTypes := #[]
  resolved := Array.replicate 37 none
  statics := none }

def pool2 : Array CpInfo := pool [(1, .class_ 2), (0, u "java/io/Serializable"), (0, .class_ 4), (0, u "java/lang/Object")] 2

/-- java/io/Serializable -/
def k2 : Class := { plain "java/io/Serializable" (some 0) with
  accessFlags := 1537
  interfaces := #[]
  cf := some (fileOf pool2 1 #[] #[] 1537 3 #[] #[])
  fields := #[]
  methods := #[]
  instanceTypes := #[]
  staticTypes := #[]
  resolved := Array.replicate 7 none
  statics := none }

def pool3 : Array CpInfo := pool [(1, .class_ 2), (0, u "java/lang/Comparable"), (0, .class_ 4), (0, u "java/lang/Object")] 7

/-- java/lang/Comparable -/
def k3 : Class := { plain "java/lang/Comparable" (some 0) with
  accessFlags := 1537
  interfaces := #[]
  cf := some (fileOf pool3 1 #[] #[] 1537 3 #[] #[])
  fields := #[]
  methods := #[]
  instanceTypes := #[]
  staticTypes := #[]
  resolved := Array.replicate 12 none
  statics := none }

def pool4 : Array CpInfo := pool [(2, .class_ 4), (1, u "java/lang/CharSequence"), (42, .class_ 48), (0, u "java/lang/CharSequence$1CodePointIterator"), (10, .class_ 60), (0, u "java/lang/CharSequence$1CharIterator"), (5, .class_ 67), (0, u "java/lang/Object")] 63

/-- java/lang/CharSequence -/
def k4 : Class := { plain "java/lang/CharSequence" (some 0) with
  accessFlags := 1537
  interfaces := #[]
  cf := some (fileOf pool4 2 #[.nestMembers #[47, 59]] #[] 1537 66 #[] #[])
  fields := #[]
  methods := #[]
  instanceTypes := #[]
  staticTypes := #[]
  resolved := Array.replicate 131 none
  statics := none }

def pool5 : Array CpInfo := pool [(1, .class_ 2), (0, u "java/lang/constant/Constable"), (0, .class_ 4), (0, u "java/lang/Object")] 6

/-- java/lang/constant/Constable -/
def k5 : Class := { plain "java/lang/constant/Constable" (some 0) with
  accessFlags := 1537
  interfaces := #[]
  cf := some (fileOf pool5 1 #[] #[] 1537 3 #[] #[])
  fields := #[]
  methods := #[]
  instanceTypes := #[]
  staticTypes := #[]
  resolved := Array.replicate 11 none
  statics := none }

def pool6 : Array CpInfo := pool [(1, .class_ 2), (0, u "java/lang/constant/ConstantDesc"), (0, .class_ 4), (0, u "java/lang/Object")] 32

/-- java/lang/constant/ConstantDesc -/
def k6 : Class := { plain "java/lang/constant/ConstantDesc" (some 0) with
  accessFlags := 1537
  interfaces := #[]
  cf := some (fileOf pool6 1 #[] #[] 1537 3 #[] #[])
  fields := #[]
  methods := #[]
  instanceTypes := #[]
  staticTypes := #[]
  resolved := Array.replicate 37 none
  statics := none }

def pool7 : Array CpInfo := pool [(1, .methodref 2 3), (0, .class_ 4), (0, .nameAndType 5 6), (0, u "java/lang/Object"), (0, u "<init>"), (0, u "()V"), (0, .string 8), (0, u ""), (0, .fieldref 10 11), (0, .class_ 12), (0, .nameAndType 13 14), (0, u "java/lang/String"), (0, u "value"), (0, u "[B"), (0, .fieldref 10 16), (0, .nameAndType 17 18), (0, u "coder"), (0, u "B"), (2, u "hash"), (0, u "I"), (2, u "hashIsZero"), (0, u "Z"), (0, .methodref 10 28), (0, .nameAndType 5 29), (0, u "([CIILjava/lang/Void;)V"), (8, .fieldref 10 39), (0, .nameAndType 40 26), (0, u "COMPACT_STRINGS"), (1, .class_ 44), (1, u "java/lang/StringUTF16"), (0, u "compress"), (1, .methodref 42 48), (0, .nameAndType 49 50), (0, u "coderFromArrayLen"), (0, u "([BI)B"), (3, .methodref 55 56), (0, .class_ 57), (0, .nameAndType 58 59), (0, u "java/util/Arrays"), (0, u "copyOfRange"), (0, u "([BII)[B"), (82, u "()Z"), (34, .methodref 42 178), (0, .nameAndType 45 179), (0, u "([CII)[B"), (13, .class_ 195), (1, u "java/lang/System"), (16, .methodref 193 213), (0, .nameAndType 214 215), (0, u "arraycopy"), (0, u "(Ljava/lang/Object;ILjava/lang/Object;II)V"), (118, u "()I"), (0, .methodref 10 336), (0, .nameAndType 17 337), (0, u "()B"), (2, u "()[B"), (35, u "([BI[BII)I"), (112, .methodref 10 490), (0, .nameAndType 5 491), (0, u "(Ljava/lang/AbstractStringBuilder;Ljava/lang/Void;)V"), (1, .nameAndType 494 142), (0, u "isLatin1"), (10, .methodref 10 506), (0, .nameAndType 507 334), (0, u "length"), (24, u "getBytes"), (16, .methodref 550 506), (0, .class_ 551), (0, u "java/lang/AbstractStringBuilder"), (0, .methodref 550 553), (0, .nameAndType 554 340), (0, u "getValue"), (4, .class_ 561), (1, u "jdk/internal/util/ArraysSupport"), (0, u "mismatch"), (12, .class_ 576), (0, u "java/lang/CharSequence"), (22, u "CASE_INSENSITIVE_ORDER"), (0, u "Ljava/util/Comparator;"), (6, .methodref 559 608), (0, .nameAndType 562 376), (15, .methodref 10 625), (0, .nameAndType 626 627), (0, u "startsWith"), (0, u "(Ljava/lang/String;I)Z"), (193, u "([BIB)V"), (188, u "([C)V"), (36, .methodref 550 493), (53, u "serialPersistentFields"), (0, u "[Ljava/io/ObjectStreamField;"), (0, .class_ 1104), (0, u "java/lang/String$CaseInsensitiveComparator"), (1, .class_ 1107), (0, u "java/io/Serializable"), (0, .class_ 1109), (0, u "java/lang/Comparable"), (0, .class_ 1111), (0, u "java/lang/constant/Constable"), (0, .class_ 1113), (0, u "java/lang/constant/ConstantDesc"), (2, u "serialVersionUID"), (0, u "J"), (3, u "REPL"), (0, u "C"), (2, u "LATIN1"), (1, u "UTF16"), (105, u "(Ljava/lang/StringBuilder;)V"), (23, u "(Ljava/lang/String;)Z")] 193

def k7m0 : Method := { name := "<init>", desc := "()V", sig := { parameters := [], returnType := none }, accessFlags := 1, code := none }
def k7c1 : Code := { maxStack := 5, maxLocals := 2, code := jdk_42_method_3_code, exceptionTable := #[], attributes := #[] }
def k7m1 : Method := { name := "<init>", desc := "([C)V", sig := { parameters := [(.array .char)], returnType := none }, accessFlags := 1, code := some k7c1 }
def k7c2 : Code := { maxStack := 3, maxLocals := 2, code := jdk_42_method_53_code, exceptionTable := #[], attributes := #[] }
def k7m2 : Method := { name := "<init>", desc := "(Ljava/lang/StringBuilder;)V", sig := { parameters := [(.object "java/lang/StringBuilder")], returnType := none }, accessFlags := 1, code := some k7c2 }
def k7c3 : Code := { maxStack := 2, maxLocals := 1, code := jdk_42_method_54_code, exceptionTable := #[], attributes := #[] }
def k7m3 : Method := { name := "length", desc := "()I", sig := { parameters := [], returnType := some .int }, accessFlags := 1, code := some k7c3 }
def k7c4 : Code := { maxStack := 5, maxLocals := 8, code := jdk_42_method_75_code, exceptionTable := #[], attributes := #[] }
def k7m4 : Method := { name := "startsWith", desc := "(Ljava/lang/String;I)Z", sig := { parameters := [(.object "java/lang/String"), .int], returnType := some .boolean }, accessFlags := 1, code := some k7c4 }
def k7c5 : Code := { maxStack := 3, maxLocals := 2, code := jdk_42_method_76_code, exceptionTable := #[], attributes := #[] }
def k7m5 : Method := { name := "startsWith", desc := "(Ljava/lang/String;)Z", sig := { parameters := [(.object "java/lang/String")], returnType := some .boolean }, accessFlags := 1, code := some k7c5 }
def k7c6 : Code := { maxStack := 5, maxLocals := 4, code := jdk_42_method_147_code, exceptionTable := #[], attributes := #[] }
def k7m6 : Method := { name := "getBytes", desc := "([BIB)V", sig := { parameters := [(.array .byte), .int, .byte], returnType := none }, accessFlags := 0, code := some k7c6 }
def k7c7 : Code := { maxStack := 4, maxLocals := 6, code := jdk_42_method_149_code, exceptionTable := #[], attributes := #[] }
def k7m7 : Method := { name := "<init>", desc := "([CIILjava/lang/Void;)V", sig := { parameters := [(.array .char), .int, .int, (.object "java/lang/Void")], returnType := none }, accessFlags := 2, code := some k7c7 }
def k7c8 : Code := { maxStack := 5, maxLocals := 5, code := jdk_42_method_150_code, exceptionTable := #[], attributes := #[] }
def k7m8 : Method := { name := "<init>", desc := "(Ljava/lang/AbstractStringBuilder;Ljava/lang/Void;)V", sig := { parameters := [(.object "java/lang/AbstractStringBuilder"), (.object "java/lang/Void")], returnType := none }, accessFlags := 0, code := some k7c8 }
def k7c9 : Code := { maxStack := 1, maxLocals := 1, code := jdk_42_method_152_code, exceptionTable := #[], attributes := #[] }
def k7m9 : Method := { name := "coder", desc := "()B", sig := { parameters := [], returnType := some .byte }, accessFlags := 0, code := some k7c9 }
/-- java/lang/String -/
def k7 : Class := { plain "java/lang/String" (some 0) with
  accessFlags := 49
  interfaces := #[2, 3, 4, 5, 6]
  cf := some (fileOf pool7 10 #[.nestMembers #[1103]] #[{ accessFlags := 1, nameIndex := 5, descriptorIndex := 6, attributes := #[] }, { accessFlags := 1, nameIndex := 5, descriptorIndex := 1010, attributes := #[] }, { accessFlags := 1, nameIndex := 5, descriptorIndex := 1233, attributes := #[] }, { accessFlags := 1, nameIndex := 507, descriptorIndex := 334, attributes := #[] }, { accessFlags := 1, nameIndex := 626, descriptorIndex := 627, attributes := #[] }, { accessFlags := 1, nameIndex := 626, descriptorIndex := 1257, attributes := #[] }, { accessFlags := 0, nameIndex := 532, descriptorIndex := 821, attributes := #[] }, { accessFlags := 2, nameIndex := 5, descriptorIndex := 29, attributes := #[] }, { accessFlags := 0, nameIndex := 5, descriptorIndex := 491, attributes := #[] }, { accessFlags := 0, nameIndex := 17, descriptorIndex := 337, attributes := #[] }] 49 2 #[1106, 1108, 575, 1110, 1112] #[{ accessFlags := 18, nameIndex := 13, descriptorIndex := 14, attributes := #[] }, { accessFlags := 18, nameIndex := 17, descriptorIndex := 18, attributes := #[] }, { accessFlags := 2, nameIndex := 21, descriptorIndex := 22, attributes := #[] }, { accessFlags := 2, nameIndex := 25, descriptorIndex := 26, attributes := #[] }, { accessFlags := 26, nameIndex := 1116, descriptorIndex := 1117, attributes := #[] }, { accessFlags := 24, nameIndex := 40, descriptorIndex := 26, attributes := #[] }, { accessFlags := 26, nameIndex := 1101, descriptorIndex := 1102, attributes := #[] }, { accessFlags := 26, nameIndex := 1121, descriptorIndex := 1122, attributes := #[] }, { accessFlags := 25, nameIndex := 599, descriptorIndex := 600, attributes := #[] }, { accessFlags := 24, nameIndex := 1125, descriptorIndex := 18, attributes := #[] }, { accessFlags := 24, nameIndex := 1127, descriptorIndex := 18, attributes := #[] }])
  fields := #[{ name := "value", type := (.array .byte), accessFlags := 18, slot := 0, constantValue := 0 }, { name := "coder", type := .byte, accessFlags := 18, slot := 1, constantValue := 0 }, { name := "hash", type := .int, accessFlags := 2, slot := 2, constantValue := 0 }, { name := "hashIsZero", type := .boolean, accessFlags := 2, slot := 3, constantValue := 0 }, { name := "serialVersionUID", type := .long, accessFlags := 26, slot := 0, constantValue := 0 }, { name := "COMPACT_STRINGS", type := .boolean, accessFlags := 24, slot := 1, constantValue := 0 }, { name := "serialPersistentFields", type := (.array (.object "java/io/ObjectStreamField")), accessFlags := 26, slot := 2, constantValue := 0 }, { name := "REPL", type := .char, accessFlags := 26, slot := 3, constantValue := 0 }, { name := "CASE_INSENSITIVE_ORDER", type := (.object "java/util/Comparator"), accessFlags := 25, slot := 4, constantValue := 0 }, { name := "LATIN1", type := .byte, accessFlags := 24, slot := 5, constantValue := 0 }, { name := "UTF16", type := .byte, accessFlags := 24, slot := 6, constantValue := 0 }]
  methods := #[k7m0, k7m1, k7m2, k7m3, k7m4, k7m5, k7m6, k7m7, k7m8, k7m9]
  instanceTypes := #[(.array .byte), .byte, .int, .boolean]
  staticTypes := #[.long, .boolean, (.array (.object "java/io/ObjectStreamField")), .char, (.object "java/util/Comparator"), .byte, .byte]
  resolved := Array.replicate 1451 none
  statics := some 0 }

def pool8 : Array CpInfo := pool [(6, .class_ 8), (1, u "java/lang/Object"), (0, u "<init>"), (0, u "()V"), (1, .class_ 14), (1, u "java/lang/StringUTF16"), (31, u "$assertionsDisabled"), (0, u "Z"), (13, u "HI_BYTE_SHIFT"), (0, u "I"), (2, u "LO_BYTE_SHIFT"), (49, .methodref 12 116), (0, .nameAndType 117 118), (0, u "compress"), (0, u "([CI[BII)I"), (3, u "([CII)[B"), (138, u "coderFromArrayLen"), (0, u "([BI)B"), (106, .class_ 371), (1, u "java/lang/StringUTF16$LinesSpliterator"), (58, u "MAX_LENGTH"), (196, .class_ 628), (0, u "java/lang/StringUTF16$CodePointsSpliterator"), (0, .class_ 630), (0, u "java/lang/StringUTF16$CharsSpliterator")] 4

def k8m0 : Method := { name := "<init>", desc := "()V", sig := { parameters := [], returnType := none }, accessFlags := 0, code := none }
def k8c1 : Code := { maxStack := 2, maxLocals := 2, code := jdk_52_method_15_code, exceptionTable := #[], attributes := #[] }
def k8m1 : Method := { name := "coderFromArrayLen", desc := "([BI)B", sig := { parameters := [(.array .byte), .int], returnType := some .byte }, accessFlags := 8, code := some k8c1 }
def k8c2 : Code := { maxStack := 5, maxLocals := 6, code := jdk_52_method_16_code, exceptionTable := #[], attributes := #[] }
def k8m2 : Method := { name := "compress", desc := "([CII)[B", sig := { parameters := [(.array .char), .int, .int], returnType := some (.array .byte) }, accessFlags := 9, code := some k8c2 }
def k8c3 : Code := { maxStack := 3, maxLocals := 7, code := jdk_52_method_21_code, exceptionTable := #[], attributes := #[] }
def k8m3 : Method := { name := "compress", desc := "([CI[BII)I", sig := { parameters := [(.array .char), .int, (.array .byte), .int, .int], returnType := some .int }, accessFlags := 9, code := some k8c3 }
/-- java/lang/StringUTF16 -/
def k8 : Class := { plain "java/lang/StringUTF16" (some 0) with
  accessFlags := 48
  interfaces := #[]
  cf := some (fileOf pool8 12 #[.nestMembers #[627, 629, 369]] #[{ accessFlags := 0, nameIndex := 9, descriptorIndex := 10, attributes := #[] }, { accessFlags := 8, nameIndex := 261, descriptorIndex := 262, attributes := #[] }, { accessFlags := 9, nameIndex := 117, descriptorIndex := 122, attributes := #[] }, { accessFlags := 9, nameIndex := 117, descriptorIndex := 118, attributes := #[] }] 48 6 #[] #[{ accessFlags := 26, nameIndex := 61, descriptorIndex := 62, attributes := #[] }, { accessFlags := 26, nameIndex := 65, descriptorIndex := 62, attributes := #[] }, { accessFlags := 24, nameIndex := 430, descriptorIndex := 62, attributes := #[] }, { accessFlags := 4120, nameIndex := 46, descriptorIndex := 47, attributes := #[] }])
  fields := #[{ name := "HI_BYTE_SHIFT", type := .int, accessFlags := 26, slot := 0, constantValue := 0 }, { name := "LO_BYTE_SHIFT", type := .int, accessFlags := 26, slot := 1, constantValue := 0 }, { name := "MAX_LENGTH", type := .int, accessFlags := 24, slot := 2, constantValue := 0 }, { name := "$assertionsDisabled", type := .boolean, accessFlags := 4120, slot := 3, constantValue := 0 }]
  methods := #[k8m0, k8m1, k8m2, k8m3]
  instanceTypes := #[]
  staticTypes := #[.int, .int, .int, .boolean]
  resolved := Array.replicate 635 none
  statics := none }

def pool9 : Array CpInfo := pool [(2, .class_ 4), (1, u "java/lang/Object"), (0, u "<init>"), (0, u "()V"), (0, .class_ 8), (0, u "java/lang/Record")] 13

def k9m0 : Method := { name := "<init>", desc := "()V", sig := { parameters := [], returnType := none }, accessFlags := 4, code := none }
/-- java/lang/Record -/
def k9 : Class := { plain "java/lang/Record" (some 0) with
  accessFlags := 1057
  interfaces := #[]
  cf := some (fileOf pool9 7 #[] #[{ accessFlags := 4, nameIndex := 5, descriptorIndex := 6, attributes := #[] }] 1057 2 #[] #[])
  fields := #[]
  methods := #[k9m0]
  instanceTypes := #[]
  staticTypes := #[]
  resolved := Array.replicate 22 none
  statics := none }

def pool10 : Array CpInfo := pool [(2, .class_ 4), (0, .nameAndType 5 6), (0, u "java/lang/Record"), (0, u "<init>"), (0, u "()V"), (1, .class_ 10), (1, u "com/example/bounded_lock/boundedlock/zookeeper/RequestNode"), (0, u "name"), (0, u "Ljava/lang/String;"), (2, u "mode"), (0, u "Lcom/example/bounded_lock/boundedlock/Mode;"), (2, u "number"), (0, u "J"), (2, u "REQUEST"), (0, u "Ljava/util/regex/Pattern;"), (25, .class_ 52), (1, u "java/lang/String"), (2, .fieldref 56 57), (0, .class_ 58), (0, .nameAndType 59 16), (0, u "com/example/bounded_lock/boundedlock/Mode"), (0, u "WRITE"), (0, .fieldref 56 61), (0, .nameAndType 62 16), (0, u "READ"), (13, .class_ 77), (0, u "java/lang/StringBuilder"), (0, .methodref 76 3), (0, .methodref 76 80), (0, .nameAndType 81 82), (0, u "append"), (0, u "(Ljava/lang/String;)Ljava/lang/StringBuilder;"), (0, .string 84), (0, u "-W-"), (0, .string 86), (0, u "-R-"), (0, .methodref 76 88), (0, .nameAndType 89 90), (0, u "toString"), (0, u "()Ljava/lang/String;"), (0, .methodref 8 92), (0, .nameAndType 93 94), (0, u "prefix"), (0, u "(Ljava/lang/String;Lcom/example/bounded_lock/boundedlock/Mode;)Ljava/lang/String;"), (0, .methodref 50 96), (0, .nameAndType 97 98), (0, u "startsWith"), (0, u "(Ljava/lang/String;)Z"), (32, u "SEQUENCE"), (0, u "Ljava/util/Comparator;"), (58, u "isMadeBy"), (0, u "(Ljava/lang/String;Ljava/lang/String;)Z")] 46

def k10c0 : Code := { maxStack := 3, maxLocals := 2, code := prog_21_method_3_code, exceptionTable := #[], attributes := #[] }
def k10m0 : Method := { name := "prefix", desc := "(Ljava/lang/String;Lcom/example/bounded_lock/boundedlock/Mode;)Ljava/lang/String;", sig := { parameters := [(.object "java/lang/String"), (.object "com/example/bounded_lock/boundedlock/Mode")], returnType := some (.object "java/lang/String") }, accessFlags := 8, code := some k10c0 }
def k10c1 : Code := { maxStack := 3, maxLocals := 2, code := prog_21_method_4_code, exceptionTable := #[], attributes := #[] }
def k10m1 : Method := { name := "isMadeBy", desc := "(Ljava/lang/String;Ljava/lang/String;)Z", sig := { parameters := [(.object "java/lang/String"), (.object "java/lang/String")], returnType := some .boolean }, accessFlags := 8, code := some k10c1 }
/-- com/example/bounded_lock/boundedlock/zookeeper/RequestNode -/
def k10 : Class := { plain "com/example/bounded_lock/boundedlock/zookeeper/RequestNode" (some 9) with
  accessFlags := 48
  interfaces := #[]
  cf := some (fileOf pool10 8 #[] #[{ accessFlags := 8, nameIndex := 93, descriptorIndex := 94, attributes := #[] }, { accessFlags := 8, nameIndex := 191, descriptorIndex := 192, attributes := #[] }] 48 2 #[] #[{ accessFlags := 18, nameIndex := 11, descriptorIndex := 12, attributes := #[] }, { accessFlags := 18, nameIndex := 15, descriptorIndex := 16, attributes := #[] }, { accessFlags := 18, nameIndex := 19, descriptorIndex := 20, attributes := #[] }, { accessFlags := 26, nameIndex := 23, descriptorIndex := 24, attributes := #[] }, { accessFlags := 26, nameIndex := 131, descriptorIndex := 132, attributes := #[] }])
  fields := #[{ name := "name", type := (.object "java/lang/String"), accessFlags := 18, slot := 0, constantValue := 0 }, { name := "mode", type := (.object "com/example/bounded_lock/boundedlock/Mode"), accessFlags := 18, slot := 1, constantValue := 0 }, { name := "number", type := .long, accessFlags := 18, slot := 2, constantValue := 0 }, { name := "REQUEST", type := (.object "java/util/regex/Pattern"), accessFlags := 26, slot := 0, constantValue := 0 }, { name := "SEQUENCE", type := (.object "java/util/Comparator"), accessFlags := 26, slot := 1, constantValue := 0 }]
  methods := #[k10m0, k10m1]
  instanceTypes := #[(.object "java/lang/String"), (.object "com/example/bounded_lock/boundedlock/Mode"), .long]
  staticTypes := #[(.object "java/util/regex/Pattern"), (.object "java/util/Comparator")]
  resolved := Array.replicate 239 none
  statics := none }

def pool11 : Array CpInfo := pool [(2, .class_ 4), (1, u "java/lang/Enum"), (0, u "name"), (0, u "Ljava/lang/String;"), (2, u "ordinal"), (0, u "I"), (1, .class_ 14), (1, u "java/lang/Object"), (4, u "hash"), (86, .class_ 108), (1, u "java/lang/Enum$EnumDesc"), (2, .class_ 112), (0, u "java/lang/constant/Constable"), (0, .class_ 114), (0, u "java/lang/Comparable"), (0, .class_ 116), (0, u "java/io/Serializable")] 87

/-- java/lang/Enum -/
def k11 : Class := { plain "java/lang/Enum" (some 0) with
  accessFlags := 1057
  interfaces := #[5, 3, 2]
  cf := some (fileOf pool11 2 #[.nestMembers #[106]] #[] 1057 12 #[111, 113, 115] #[{ accessFlags := 18, nameIndex := 5, descriptorIndex := 6, attributes := #[] }, { accessFlags := 18, nameIndex := 9, descriptorIndex := 10, attributes := #[] }, { accessFlags := 2, nameIndex := 19, descriptorIndex := 10, attributes := #[] }])
  fields := #[{ name := "name", type := (.object "java/lang/String"), accessFlags := 18, slot := 0, constantValue := 0 }, { name := "ordinal", type := .int, accessFlags := 18, slot := 1, constantValue := 0 }, { name := "hash", type := .int, accessFlags := 2, slot := 2, constantValue := 0 }]
  methods := #[]
  instanceTypes := #[(.object "java/lang/String"), .int, .int]
  staticTypes := #[]
  resolved := Array.replicate 204 none
  statics := none }

def pool12 : Array CpInfo := pool [(1, .class_ 2), (0, u "com/example/bounded_lock/boundedlock/Mode"), (2, u "READ"), (0, u "Lcom/example/bounded_lock/boundedlock/Mode;"), (2, u "WRITE"), (2, u "$VALUES"), (0, u "[Lcom/example/bounded_lock/boundedlock/Mode;"), (6, .class_ 22), (1, u "java/lang/Enum")] 41

/-- com/example/bounded_lock/boundedlock/Mode -/
def k12 : Class := { plain "com/example/bounded_lock/boundedlock/Mode" (some 11) with
  accessFlags := 16433
  interfaces := #[]
  cf := some (fileOf pool12 1 #[] #[] 16433 20 #[] #[{ accessFlags := 16409, nameIndex := 5, descriptorIndex := 6, attributes := #[] }, { accessFlags := 16409, nameIndex := 9, descriptorIndex := 6, attributes := #[] }, { accessFlags := 4122, nameIndex := 12, descriptorIndex := 13, attributes := #[] }])
  fields := #[{ name := "READ", type := (.object "com/example/bounded_lock/boundedlock/Mode"), accessFlags := 16409, slot := 0, constantValue := 0 }, { name := "WRITE", type := (.object "com/example/bounded_lock/boundedlock/Mode"), accessFlags := 16409, slot := 1, constantValue := 0 }, { name := "$VALUES", type := (.array (.object "com/example/bounded_lock/boundedlock/Mode")), accessFlags := 4122, slot := 2, constantValue := 0 }]
  methods := #[]
  instanceTypes := #[(.object "java/lang/String"), .int, .int]
  staticTypes := #[(.object "com/example/bounded_lock/boundedlock/Mode"), (.object "com/example/bounded_lock/boundedlock/Mode"), (.array (.object "com/example/bounded_lock/boundedlock/Mode"))]
  resolved := Array.replicate 64 none
  statics := some 1 }

def pool13 : Array CpInfo := pool [(1, .class_ 2), (0, u "java/lang/Appendable"), (0, .class_ 4), (0, u "java/lang/Object")] 9

/-- java/lang/Appendable -/
def k13 : Class := { plain "java/lang/Appendable" (some 0) with
  accessFlags := 1537
  interfaces := #[]
  cf := some (fileOf pool13 1 #[] #[] 1537 3 #[] #[])
  fields := #[]
  methods := #[]
  instanceTypes := #[]
  staticTypes := #[]
  resolved := Array.replicate 14 none
  statics := none }

def pool14 : Array CpInfo := pool [(1, .class_ 2), (0, u "java/lang/String"), (0, .methodref 4 5), (0, .class_ 6), (0, .nameAndType 7 8), (0, u "java/lang/Object"), (0, u "<init>"), (0, u "()V"), (1, .class_ 12), (1, u "java/lang/AbstractStringBuilder"), (0, u "EMPTYVALUE"), (0, u "[B"), (0, .fieldref 10 16), (0, .nameAndType 17 14), (0, u "value"), (0, .fieldref 1 19), (0, .nameAndType 20 21), (0, u "COMPACT_STRINGS"), (0, u "Z"), (0, .fieldref 10 23), (0, .nameAndType 24 25), (0, u "coder"), (0, u "B"), (6, .methodref 1 33), (0, .nameAndType 34 35), (0, u "length"), (0, u "()I"), (4, .methodref 1 41), (0, .nameAndType 24 42), (0, u "()B"), (2, u "append"), (0, u "(Ljava/lang/String;)Ljava/lang/AbstractStringBuilder;"), (1, .class_ 49), (0, u "java/lang/CharSequence"), (19, u "(Ljava/lang/String;)V"), (5, u "maybeLatin1"), (3, .fieldref 10 80), (0, .nameAndType 81 82), (0, u "count"), (0, u "I"), (2, u "isLatin1"), (0, u "()Z"), (13, .methodref 10 101), (0, .nameAndType 102 103), (0, u "ensureCapacityInternal"), (0, u "(I)V"), (104, .methodref 10 209), (0, .nameAndType 210 211), (0, u "putStringAt"), (0, u "(ILjava/lang/String;)V"), (5, u "inflateIfNeededFor"), (2, .nameAndType 221 222), (0, u "getBytes"), (0, u "([BIB)V"), (174, .methodref 10 398), (0, .nameAndType 217 69), (0, .methodref 1 220), (3, u "()[B"), (40, .class_ 445), (0, u "java/lang/Appendable"), (106, u "getValue")] 56

def k14m0 : Method := { name := "<init>", desc := "()V", sig := { parameters := [], returnType := none }, accessFlags := 0, code := none }
def k14c1 : Code := { maxStack := 2, maxLocals := 2, code := jdk_68_method_2_code, exceptionTable := #[], attributes := #[] }
def k14m1 : Method := { name := "<init>", desc := "(I)V", sig := { parameters := [.int], returnType := none }, accessFlags := 0, code := some k14c1 }
def k14c2 : Code := { maxStack := 1, maxLocals := 1, code := jdk_68_method_6_code, exceptionTable := #[], attributes := #[] }
def k14m2 : Method := { name := "length", desc := "()I", sig := { parameters := [], returnType := some .int }, accessFlags := 1, code := some k14c2 }
def k14c3 : Code := { maxStack := 4, maxLocals := 3, code := jdk_68_method_9_code, exceptionTable := #[], attributes := #[] }
def k14m3 : Method := { name := "ensureCapacityInternal", desc := "(I)V", sig := { parameters := [.int], returnType := none }, accessFlags := 2, code := some k14c3 }
def k14c4 : Code := { maxStack := 3, maxLocals := 3, code := jdk_68_method_22_code, exceptionTable := #[], attributes := #[] }
def k14m4 : Method := { name := "append", desc := "(Ljava/lang/String;)Ljava/lang/AbstractStringBuilder;", sig := { parameters := [(.object "java/lang/String")], returnType := some (.object "java/lang/AbstractStringBuilder") }, accessFlags := 1, code := some k14c4 }
def k14c5 : Code := { maxStack := 1, maxLocals := 1, code := jdk_68_method_64_code, exceptionTable := #[], attributes := #[] }
def k14m5 : Method := { name := "getValue", desc := "()[B", sig := { parameters := [], returnType := some (.array .byte) }, accessFlags := 16, code := some k14c5 }
def k14c6 : Code := { maxStack := 1, maxLocals := 1, code := jdk_68_method_68_code, exceptionTable := #[], attributes := #[] }
def k14m6 : Method := { name := "isLatin1", desc := "()Z", sig := { parameters := [], returnType := some .boolean }, accessFlags := 16, code := some k14c6 }
def k14c7 : Code := { maxStack := 2, maxLocals := 2, code := jdk_68_method_71_code, exceptionTable := #[], attributes := #[] }
def k14m7 : Method := { name := "inflateIfNeededFor", desc := "(Ljava/lang/String;)V", sig := { parameters := [(.object "java/lang/String")], returnType := none }, accessFlags := 2, code := some k14c7 }
def k14c8 : Code := { maxStack := 4, maxLocals := 3, code := jdk_68_method_73_code, exceptionTable := #[], attributes := #[] }
def k14m8 : Method := { name := "putStringAt", desc := "(ILjava/lang/String;)V", sig := { parameters := [.int, (.object "java/lang/String")], returnType := none }, accessFlags := 2, code := some k14c8 }
/-- java/lang/AbstractStringBuilder -/
def k14 : Class := { plain "java/lang/AbstractStringBuilder" (some 0) with
  accessFlags := 1056
  interfaces := #[13, 4]
  cf := some (fileOf pool14 10 #[] #[{ accessFlags := 0, nameIndex := 7, descriptorIndex := 8, attributes := #[] }, { accessFlags := 0, nameIndex := 7, descriptorIndex := 103, attributes := #[] }, { accessFlags := 1, nameIndex := 34, descriptorIndex := 35, attributes := #[] }, { accessFlags := 2, nameIndex := 102, descriptorIndex := 103, attributes := #[] }, { accessFlags := 1, nameIndex := 45, descriptorIndex := 46, attributes := #[] }, { accessFlags := 16, nameIndex := 552, descriptorIndex := 403, attributes := #[] }, { accessFlags := 16, nameIndex := 85, descriptorIndex := 86, attributes := #[] }, { accessFlags := 2, nameIndex := 217, descriptorIndex := 69, attributes := #[] }, { accessFlags := 2, nameIndex := 210, descriptorIndex := 211, attributes := #[] }] 1056 4 #[444, 48] #[{ accessFlags := 0, nameIndex := 17, descriptorIndex := 14, attributes := #[] }, { accessFlags := 0, nameIndex := 24, descriptorIndex := 25, attributes := #[] }, { accessFlags := 0, nameIndex := 75, descriptorIndex := 21, attributes := #[] }, { accessFlags := 0, nameIndex := 81, descriptorIndex := 82, attributes := #[] }, { accessFlags := 26, nameIndex := 13, descriptorIndex := 14, attributes := #[] }])
  fields := #[{ name := "value", type := (.array .byte), accessFlags := 0, slot := 0, constantValue := 0 }, { name := "coder", type := .byte, accessFlags := 0, slot := 1, constantValue := 0 }, { name := "maybeLatin1", type := .boolean, accessFlags := 0, slot := 2, constantValue := 0 }, { name := "count", type := .int, accessFlags := 0, slot := 3, constantValue := 0 }, { name := "EMPTYVALUE", type := (.array .byte), accessFlags := 26, slot := 0, constantValue := 0 }]
  methods := #[k14m0, k14m1, k14m2, k14m3, k14m4, k14m5, k14m6, k14m7, k14m8]
  instanceTypes := #[(.array .byte), .byte, .boolean, .int]
  staticTypes := #[(.array .byte)]
  resolved := Array.replicate 609 none
  statics := none }

def pool15 : Array CpInfo := pool [(1, .methodref 2 3), (0, .class_ 4), (0, .nameAndType 5 6), (0, u "java/lang/AbstractStringBuilder"), (0, u "<init>"), (0, u "(I)V"), (11, .class_ 20), (1, u "java/lang/String"), (3, .class_ 26), (1, u "java/lang/StringBuilder"), (0, u "append"), (0, u "(Ljava/lang/String;)Ljava/lang/StringBuilder;"), (0, .methodref 2 30), (0, .nameAndType 27 31), (0, u "(Ljava/lang/String;)Ljava/lang/AbstractStringBuilder;"), (105, .methodref 18 138), (0, .nameAndType 5 139), (0, u "(Ljava/lang/StringBuilder;)V"), (5, u "()V"), (10, u "()I"), (186, .methodref 2 344), (0, .nameAndType 345 156), (0, u "length"), (3, .class_ 350), (0, u "java/lang/Appendable"), (0, .class_ 352), (0, u "java/io/Serializable"), (0, .class_ 354), (0, u "java/lang/Comparable"), (0, .class_ 356), (0, u "java/lang/CharSequence"), (0, u "serialVersionUID"), (0, u "J"), (40, u "toString"), (0, u "()Ljava/lang/String;")] 21

def k15c0 : Code := { maxStack := 2, maxLocals := 1, code := jdk_67_method_1_code, exceptionTable := #[], attributes := #[] }
def k15m0 : Method := { name := "<init>", desc := "()V", sig := { parameters := [], returnType := none }, accessFlags := 1, code := some k15c0 }
def k15c1 : Code := { maxStack := 2, maxLocals := 2, code := jdk_67_method_7_code, exceptionTable := #[], attributes := #[] }
def k15m1 : Method := { name := "append", desc := "(Ljava/lang/String;)Ljava/lang/StringBuilder;", sig := { parameters := [(.object "java/lang/String")], returnType := some (.object "java/lang/StringBuilder") }, accessFlags := 1, code := some k15c1 }
def k15c2 : Code := { maxStack := 3, maxLocals := 1, code := jdk_67_method_42_code, exceptionTable := #[], attributes := #[] }
def k15m2 : Method := { name := "toString", desc := "()Ljava/lang/String;", sig := { parameters := [], returnType := some (.object "java/lang/String") }, accessFlags := 1, code := some k15c2 }
def k15c3 : Code := { maxStack := 1, maxLocals := 1, code := jdk_67_method_93_code, exceptionTable := #[], attributes := #[] }
def k15m3 : Method := { name := "length", desc := "()I", sig := { parameters := [], returnType := some .int }, accessFlags := 4161, code := some k15c3 }
/-- java/lang/StringBuilder -/
def k15 : Class := { plain "java/lang/StringBuilder" (some 14) with
  accessFlags := 49
  interfaces := #[13, 2, 3, 4]
  cf := some (fileOf pool15 24 #[] #[{ accessFlags := 1, nameIndex := 5, descriptorIndex := 145, attributes := #[] }, { accessFlags := 1, nameIndex := 27, descriptorIndex := 28, attributes := #[] }, { accessFlags := 1, nameIndex := 399, descriptorIndex := 400, attributes := #[] }, { accessFlags := 4161, nameIndex := 345, descriptorIndex := 156, attributes := #[] }] 49 2 #[349, 351, 353, 355] #[{ accessFlags := 24, nameIndex := 357, descriptorIndex := 358, attributes := #[] }])
  fields := #[{ name := "serialVersionUID", type := .long, accessFlags := 24, slot := 0, constantValue := 0 }]
  methods := #[k15m0, k15m1, k15m2, k15m3]
  instanceTypes := #[(.array .byte), .byte, .boolean, .int]
  staticTypes := #[.long]
  resolved := Array.replicate 422 none
  statics := none }

def pool16 : Array CpInfo := pool [(2, .class_ 4), (1, u "java/lang/Object"), (0, u "<init>"), (0, u "()V"), (1, .class_ 10), (1, u "java/lang/System"), (0, u "allowSecurityManager"), (0, u "I"), (16, u "cons"), (0, u "Ljava/io/Console;"), (77, .class_ 110), (1, u "java/lang/System$CallersHolder"), (43, u "initialErrStream"), (0, u "Ljava/io/PrintStream;"), (19, u "security"), (0, u "Ljava/lang/SecurityManager;"), (31, .class_ 209), (0, u "java/lang/System$1"), (7, u "props"), (0, u "Ljava/util/Properties;"), (2, u "lineSeparator"), (0, u "Ljava/lang/String;"), (96, .class_ 321), (1, u "java/lang/System$LoggerFinder"), (5, .class_ 328), (0, u "java/lang/System$Logger"), (67, u "err"), (2, u "out"), (91, u "notSupportedJnuEncoding"), (15, u "in"), (17, u "initialIn"), (0, u "Ljava/io/InputStream;"), (35, u "bootLayer"), (0, u "Ljava/lang/ModuleLayer;"), (99, .class_ 664), (0, u "java/lang/System$2"), (9, u "NEVER"), (2, u "MAYBE"), (49, u "arraycopy"), (0, u "(Ljava/lang/Object;ILjava/lang/Object;II)V"), (72, .class_ 802), (0, u "java/lang/System$Logger$Level")] 31

def k16m0 : Method := { name := "<init>", desc := "()V", sig := { parameters := [], returnType := none }, accessFlags := 2, code := none }
def k16m1 : Method := { name := "arraycopy", desc := "(Ljava/lang/Object;ILjava/lang/Object;II)V", sig := { parameters := [(.object "java/lang/Object"), .int, (.object "java/lang/Object"), .int, .int], returnType := none }, accessFlags := 265, code := none }
/-- java/lang/System -/
def k16 : Class := { plain "java/lang/System" (some 0) with
  accessFlags := 49
  interfaces := #[]
  cf := some (fileOf pool16 8 #[.nestMembers #[319, 327, 801, 108, 663, 208]] #[{ accessFlags := 2, nameIndex := 5, descriptorIndex := 6, attributes := #[] }, { accessFlags := 265, nameIndex := 727, descriptorIndex := 728, attributes := #[] }] 49 2 #[] #[{ accessFlags := 25, nameIndex := 507, descriptorIndex := 526, attributes := #[] }, { accessFlags := 25, nameIndex := 399, descriptorIndex := 155, attributes := #[] }, { accessFlags := 25, nameIndex := 396, descriptorIndex := 155, attributes := #[] }, { accessFlags := 10, nameIndex := 525, descriptorIndex := 526, attributes := #[] }, { accessFlags := 26, nameIndex := 674, descriptorIndex := 12, attributes := #[] }, { accessFlags := 26, nameIndex := 677, descriptorIndex := 12, attributes := #[] }, { accessFlags := 10, nameIndex := 11, descriptorIndex := 12, attributes := #[] }, { accessFlags := 74, nameIndex := 175, descriptorIndex := 176, attributes := #[] }, { accessFlags := 10, nameIndex := 491, descriptorIndex := 222, attributes := #[] }, { accessFlags := 74, nameIndex := 29, descriptorIndex := 30, attributes := #[] }, { accessFlags := 74, nameIndex := 154, descriptorIndex := 155, attributes := #[] }, { accessFlags := 10, nameIndex := 217, descriptorIndex := 218, attributes := #[] }, { accessFlags := 10, nameIndex := 221, descriptorIndex := 222, attributes := #[] }, { accessFlags := 8, nameIndex := 562, descriptorIndex := 563, attributes := #[] }])
  fields := #[{ name := "in", type := (.object "java/io/InputStream"), accessFlags := 25, slot := 0, constantValue := 0 }, { name := "out", type := (.object "java/io/PrintStream"), accessFlags := 25, slot := 1, constantValue := 0 }, { name := "err", type := (.object "java/io/PrintStream"), accessFlags := 25, slot := 2, constantValue := 0 }, { name := "initialIn", type := (.object "java/io/InputStream"), accessFlags := 10, slot := 3, constantValue := 0 }, { name := "NEVER", type := .int, accessFlags := 26, slot := 4, constantValue := 0 }, { name := "MAYBE", type := .int, accessFlags := 26, slot := 5, constantValue := 0 }, { name := "allowSecurityManager", type := .int, accessFlags := 10, slot := 6, constantValue := 0 }, { name := "security", type := (.object "java/lang/SecurityManager"), accessFlags := 74, slot := 7, constantValue := 0 }, { name := "notSupportedJnuEncoding", type := (.object "java/lang/String"), accessFlags := 10, slot := 8, constantValue := 0 }, { name := "cons", type := (.object "java/io/Console"), accessFlags := 74, slot := 9, constantValue := 0 }, { name := "initialErrStream", type := (.object "java/io/PrintStream"), accessFlags := 74, slot := 10, constantValue := 0 }, { name := "props", type := (.object "java/util/Properties"), accessFlags := 10, slot := 11, constantValue := 0 }, { name := "lineSeparator", type := (.object "java/lang/String"), accessFlags := 10, slot := 12, constantValue := 0 }, { name := "bootLayer", type := (.object "java/lang/ModuleLayer"), accessFlags := 8, slot := 13, constantValue := 0 }]
  methods := #[k16m0, k16m1]
  instanceTypes := #[]
  staticTypes := #[(.object "java/io/InputStream"), (.object "java/io/PrintStream"), (.object "java/io/PrintStream"), (.object "java/io/InputStream"), .int, .int, .int, (.object "java/lang/SecurityManager"), (.object "java/lang/String"), (.object "java/io/Console"), (.object "java/io/PrintStream"), (.object "java/util/Properties"), (.object "java/lang/String"), (.object "java/lang/ModuleLayer")]
  resolved := Array.replicate 834 none
  statics := none }

def pool17 : Array CpInfo := pool [(2, .class_ 4), (1, u "java/lang/Object"), (0, u "<init>"), (0, u "()V"), (7, .class_ 16), (1, u "java/util/Arrays"), (57, .class_ 76), (1, u "java/util/Arrays$NaturalOrder"), (36, .class_ 115), (1, u "java/util/Arrays$LegacyMergeSort"), (1, u "Z"), (21, u "copyOfRange"), (10, .methodref 151 152), (0, .class_ 153), (0, .nameAndType 154 155), (0, u "java/lang/System"), (0, u "arraycopy"), (0, u "(Ljava/lang/Object;ILjava/lang/Object;II)V"), (148, .methodref 305 306), (0, .class_ 307), (0, .nameAndType 308 309), (0, u "java/lang/Math"), (0, u "min"), (0, u "(II)I"), (29, .methodref 14 340), (0, .nameAndType 341 342), (0, u "copyOfRangeByte"), (0, u "([BII)[B"), (0, .methodref 14 344), (0, .nameAndType 345 346), (0, u "checkLength"), (0, u "(II)V"), (28, .class_ 376), (0, u "java/util/Arrays$ArrayList"), (68, u "$assertionsDisabled"), (269, u "MIN_ARRAY_SORT_GRAN"), (0, u "I"), (2, u "INSERTIONSORT_THRESHOLD"), (255, .class_ 976), (0, u "java/util/Arrays$ArrayItr")] 52

def k17m0 : Method := { name := "<init>", desc := "()V", sig := { parameters := [], returnType := none }, accessFlags := 2, code := none }
def k17c1 : Code := { maxStack := 4, maxLocals := 2, code := jdk_65_method_131_code, exceptionTable := #[], attributes := #[] }
def k17m1 : Method := { name := "checkLength", desc := "(II)V", sig := { parameters := [.int, .int], returnType := none }, accessFlags := 10, code := some k17c1 }
def k17c2 : Code := { maxStack := 3, maxLocals := 3, code := jdk_65_method_132_code, exceptionTable := #[], attributes := #[] }
def k17m2 : Method := { name := "copyOfRange", desc := "([BII)[B", sig := { parameters := [(.array .byte), .int, .int], returnType := some (.array .byte) }, accessFlags := 9, code := some k17c2 }
def k17c3 : Code := { maxStack := 6, maxLocals := 5, code := jdk_65_method_133_code, exceptionTable := #[], attributes := #[] }
def k17m3 : Method := { name := "copyOfRangeByte", desc := "([BII)[B", sig := { parameters := [(.array .byte), .int, .int], returnType := some (.array .byte) }, accessFlags := 10, code := some k17c3 }
/-- java/util/Arrays -/
def k17 : Class := { plain "java/util/Arrays" (some 0) with
  accessFlags := 49
  interfaces := #[]
  cf := some (fileOf pool17 14 #[.nestMembers #[975, 375, 113, 74]] #[{ accessFlags := 2, nameIndex := 5, descriptorIndex := 6, attributes := #[] }, { accessFlags := 10, nameIndex := 345, descriptorIndex := 346, attributes := #[] }, { accessFlags := 9, nameIndex := 139, descriptorIndex := 342, attributes := #[] }, { accessFlags := 10, nameIndex := 341, descriptorIndex := 342, attributes := #[] }] 49 2 #[] #[{ accessFlags := 26, nameIndex := 715, descriptorIndex := 716, attributes := #[] }, { accessFlags := 26, nameIndex := 719, descriptorIndex := 716, attributes := #[] }, { accessFlags := 4120, nameIndex := 445, descriptorIndex := 117, attributes := #[] }])
  fields := #[{ name := "MIN_ARRAY_SORT_GRAN", type := .int, accessFlags := 26, slot := 0, constantValue := 0 }, { name := "INSERTIONSORT_THRESHOLD", type := .int, accessFlags := 26, slot := 1, constantValue := 0 }, { name := "$assertionsDisabled", type := .boolean, accessFlags := 4120, slot := 2, constantValue := 0 }]
  methods := #[k17m0, k17m1, k17m2, k17m3]
  instanceTypes := #[]
  staticTypes := #[.int, .int, .boolean]
  resolved := Array.replicate 1029 none
  statics := none }

def pool18 : Array CpInfo := pool [(1, .class_ 2), (0, u "java/lang/Math"), (1, .class_ 6), (1, u "java/lang/Object"), (0, u "<init>"), (0, u "()V"), (89, .class_ 100), (1, u "java/lang/Math$RandomNumberGeneratorHolder"), (71, u "negativeZeroFloatBits"), (0, u "J"), (2, u "negativeZeroDoubleBits"), (24, u "min"), (43, u "$assertionsDisabled"), (0, u "Z"), (88, u "(II)I"), (2, u "twoToTheDoubleScaleDown"), (0, u "D"), (4, u "twoToTheDoubleScaleUp"), (9, u "E"), (3, u "PI"), (2, u "TAU"), (2, u "DEGREES_TO_RADIANS"), (0, u "RADIANS_TO_DEGREES")] 94

def k18m0 : Method := { name := "<init>", desc := "()V", sig := { parameters := [], returnType := none }, accessFlags := 2, code := none }
def k18c1 : Code := { maxStack := 2, maxLocals := 2, code := jdk_29_method_69_code, exceptionTable := #[], attributes := #[] }
def k18m1 : Method := { name := "min", desc := "(II)I", sig := { parameters := [.int, .int], returnType := some .int }, accessFlags := 9, code := some k18c1 }
/-- java/lang/Math -/
def k18 : Class := { plain "java/lang/Math" (some 0) with
  accessFlags := 49
  interfaces := #[]
  cf := some (fileOf pool18 1 #[.nestMembers #[98]] #[{ accessFlags := 2, nameIndex := 7, descriptorIndex := 8, attributes := #[] }, { accessFlags := 9, nameIndex := 201, descriptorIndex := 335, attributes := #[] }] 49 4 #[] #[{ accessFlags := 25, nameIndex := 354, descriptorIndex := 339, attributes := #[] }, { accessFlags := 25, nameIndex := 358, descriptorIndex := 339, attributes := #[] }, { accessFlags := 25, nameIndex := 361, descriptorIndex := 339, attributes := #[] }, { accessFlags := 26, nameIndex := 364, descriptorIndex := 339, attributes := #[] }, { accessFlags := 26, nameIndex := 365, descriptorIndex := 339, attributes := #[] }, { accessFlags := 26, nameIndex := 172, descriptorIndex := 173, attributes := #[] }, { accessFlags := 26, nameIndex := 176, descriptorIndex := 173, attributes := #[] }, { accessFlags := 8, nameIndex := 344, descriptorIndex := 339, attributes := #[] }, { accessFlags := 8, nameIndex := 338, descriptorIndex := 339, attributes := #[] }, { accessFlags := 4120, nameIndex := 245, descriptorIndex := 246, attributes := #[] }])
  fields := #[{ name := "E", type := .double, accessFlags := 25, slot := 0, constantValue := 0 }, { name := "PI", type := .double, accessFlags := 25, slot := 1, constantValue := 0 }, { name := "TAU", type := .double, accessFlags := 25, slot := 2, constantValue := 0 }, { name := "DEGREES_TO_RADIANS", type := .double, accessFlags := 26, slot := 3, constantValue := 0 }, { name := "RADIANS_TO_DEGREES", type := .double, accessFlags := 26, slot := 4, constantValue := 0 }, { name := "negativeZeroFloatBits", type := .long, accessFlags := 26, slot := 5, constantValue := 0 }, { name := "negativeZeroDoubleBits", type := .long, accessFlags := 26, slot := 6, constantValue := 0 }, { name := "twoToTheDoubleScaleUp", type := .double, accessFlags := 8, slot := 7, constantValue := 0 }, { name := "twoToTheDoubleScaleDown", type := .double, accessFlags := 8, slot := 8, constantValue := 0 }, { name := "$assertionsDisabled", type := .boolean, accessFlags := 4120, slot := 9, constantValue := 0 }]
  methods := #[k18m0, k18m1]
  instanceTypes := #[]
  staticTypes := #[.double, .double, .double, .double, .double, .long, .long, .double, .double, .boolean]
  resolved := Array.replicate 460 none
  statics := none }

def pool19 : Array CpInfo := pool [(9, u "<init>"), (6, .class_ 18), (1, u "java/lang/Object"), (0, u "()V"), (1, .class_ 23), (1, u "jdk/internal/util/ArraysSupport"), (0, u "LOG2_ARRAY_LONG_INDEX_SCALE"), (0, u "I"), (2, u "U"), (0, u "Ljdk/internal/misc/Unsafe;"), (8, u "BIG_ENDIAN"), (0, u "Z"), (8, u "LOG2_BYTE_BIT_SIZE"), (4, u "LOG2_ARRAY_INT_INDEX_SCALE"), (54, u "JLA"), (0, u "Ljdk/internal/access/JavaLangAccess;"), (11, u "LOG2_ARRAY_BOOLEAN_INDEX_SCALE"), (9, u "LOG2_ARRAY_BYTE_INDEX_SCALE"), (5, u "LOG2_ARRAY_CHAR_INDEX_SCALE"), (5, u "LOG2_ARRAY_SHORT_INDEX_SCALE"), (5, u "mismatch"), (12, u "LOG2_ARRAY_FLOAT_INDEX_SCALE"), (24, u "LOG2_ARRAY_DOUBLE_INDEX_SCALE"), (89, u "T_BOOLEAN"), (2, u "T_CHAR"), (1, u "T_FLOAT"), (1, u "T_DOUBLE"), (1, u "T_BYTE"), (1, u "T_SHORT"), (1, u "T_INT"), (1, u "T_LONG"), (1, u "SOFT_MAX_ARRAY_LENGTH"), (42, u "([BI[BII)I")] 40

def k19m0 : Method := { name := "<init>", desc := "()V", sig := { parameters := [], returnType := none }, accessFlags := 2, code := none }
def k19c1 : Code := { maxStack := 8, maxLocals := 8, code := jdk_48_method_14_code, exceptionTable := #[], attributes := #[] }
def k19m1 : Method := { name := "mismatch", desc := "([BI[BII)I", sig := { parameters := [(.array .byte), .int, (.array .byte), .int, .int], returnType := some .int }, accessFlags := 9, code := some k19c1 }
/-- jdk/internal/util/ArraysSupport -/
def k19 : Class := { plain "jdk/internal/util/ArraysSupport" (some 0) with
  accessFlags := 33
  interfaces := #[]
  cf := some (fileOf pool19 21 #[] #[{ accessFlags := 2, nameIndex := 9, descriptorIndex := 19, attributes := #[] }, { accessFlags := 9, nameIndex := 149, descriptorIndex := 337, attributes := #[] }] 33 16 #[] #[{ accessFlags := 24, nameIndex := 28, descriptorIndex := 29, attributes := #[] }, { accessFlags := 26, nameIndex := 38, descriptorIndex := 39, attributes := #[] }, { accessFlags := 25, nameIndex := 121, descriptorIndex := 25, attributes := #[] }, { accessFlags := 25, nameIndex := 131, descriptorIndex := 25, attributes := #[] }, { accessFlags := 25, nameIndex := 137, descriptorIndex := 25, attributes := #[] }, { accessFlags := 25, nameIndex := 143, descriptorIndex := 25, attributes := #[] }, { accessFlags := 25, nameIndex := 53, descriptorIndex := 25, attributes := #[] }, { accessFlags := 25, nameIndex := 24, descriptorIndex := 25, attributes := #[] }, { accessFlags := 25, nameIndex := 162, descriptorIndex := 25, attributes := #[] }, { accessFlags := 25, nameIndex := 187, descriptorIndex := 25, attributes := #[] }, { accessFlags := 26, nameIndex := 48, descriptorIndex := 25, attributes := #[] }, { accessFlags := 25, nameIndex := 277, descriptorIndex := 25, attributes := #[] }, { accessFlags := 25, nameIndex := 280, descriptorIndex := 25, attributes := #[] }, { accessFlags := 25, nameIndex := 282, descriptorIndex := 25, attributes := #[] }, { accessFlags := 25, nameIndex := 284, descriptorIndex := 25, attributes := #[] }, { accessFlags := 25, nameIndex := 286, descriptorIndex := 25, attributes := #[] }, { accessFlags := 25, nameIndex := 288, descriptorIndex := 25, attributes := #[] }, { accessFlags := 25, nameIndex := 290, descriptorIndex := 25, attributes := #[] }, { accessFlags := 25, nameIndex := 292, descriptorIndex := 25, attributes := #[] }, { accessFlags := 26, nameIndex := 108, descriptorIndex := 109, attributes := #[] }, { accessFlags := 25, nameIndex := 294, descriptorIndex := 25, attributes := #[] }])
  fields := #[{ name := "U", type := (.object "jdk/internal/misc/Unsafe"), accessFlags := 24, slot := 0, constantValue := 0 }, { name := "BIG_ENDIAN", type := .boolean, accessFlags := 26, slot := 1, constantValue := 0 }, { name := "LOG2_ARRAY_BOOLEAN_INDEX_SCALE", type := .int, accessFlags := 25, slot := 2, constantValue := 0 }, { name := "LOG2_ARRAY_BYTE_INDEX_SCALE", type := .int, accessFlags := 25, slot := 3, constantValue := 0 }, { name := "LOG2_ARRAY_CHAR_INDEX_SCALE", type := .int, accessFlags := 25, slot := 4, constantValue := 0 }, { name := "LOG2_ARRAY_SHORT_INDEX_SCALE", type := .int, accessFlags := 25, slot := 5, constantValue := 0 }, { name := "LOG2_ARRAY_INT_INDEX_SCALE", type := .int, accessFlags := 25, slot := 6, constantValue := 0 }, { name := "LOG2_ARRAY_LONG_INDEX_SCALE", type := .int, accessFlags := 25, slot := 7, constantValue := 0 }, { name := "LOG2_ARRAY_FLOAT_INDEX_SCALE", type := .int, accessFlags := 25, slot := 8, constantValue := 0 }, { name := "LOG2_ARRAY_DOUBLE_INDEX_SCALE", type := .int, accessFlags := 25, slot := 9, constantValue := 0 }, { name := "LOG2_BYTE_BIT_SIZE", type := .int, accessFlags := 26, slot := 10, constantValue := 0 }, { name := "T_BOOLEAN", type := .int, accessFlags := 25, slot := 11, constantValue := 0 }, { name := "T_CHAR", type := .int, accessFlags := 25, slot := 12, constantValue := 0 }, { name := "T_FLOAT", type := .int, accessFlags := 25, slot := 13, constantValue := 0 }, { name := "T_DOUBLE", type := .int, accessFlags := 25, slot := 14, constantValue := 0 }, { name := "T_BYTE", type := .int, accessFlags := 25, slot := 15, constantValue := 0 }, { name := "T_SHORT", type := .int, accessFlags := 25, slot := 16, constantValue := 0 }, { name := "T_INT", type := .int, accessFlags := 25, slot := 17, constantValue := 0 }, { name := "T_LONG", type := .int, accessFlags := 25, slot := 18, constantValue := 0 }, { name := "JLA", type := (.object "jdk/internal/access/JavaLangAccess"), accessFlags := 26, slot := 19, constantValue := 0 }, { name := "SOFT_MAX_ARRAY_LENGTH", type := .int, accessFlags := 25, slot := 20, constantValue := 0 }]
  methods := #[k19m0, k19m1]
  instanceTypes := #[]
  staticTypes := #[(.object "jdk/internal/misc/Unsafe"), .boolean, .int, .int, .int, .int, .int, .int, .int, .int, .int, .int, .int, .int, .int, .int, .int, .int, .int, (.object "jdk/internal/access/JavaLangAccess"), .int]
  resolved := Array.replicate 378 none
  statics := none }

def pool20 : Array CpInfo := pool [(4, .class_ 6), (1, u "java/lang/Object"), (0, u "<init>"), (0, u "()V"), (5, .class_ 16), (1, u "java/lang/StringLatin1"), (104, u "$assertionsDisabled"), (0, u "Z"), (98, .class_ 223), (1, u "java/lang/StringLatin1$LinesSpliterator"), (166, .class_ 391), (0, u "java/lang/StringLatin1$CharsSpliterator")] 3

def k20m0 : Method := { name := "<init>", desc := "()V", sig := { parameters := [], returnType := none }, accessFlags := 0, code := none }
/-- java/lang/StringLatin1 -/
def k20 : Class := { plain "java/lang/StringLatin1" (some 0) with
  accessFlags := 48
  interfaces := #[]
  cf := some (fileOf pool20 14 #[.nestMembers #[390, 221]] #[{ accessFlags := 0, nameIndex := 7, descriptorIndex := 8, attributes := #[] }] 48 4 #[] #[{ accessFlags := 4120, nameIndex := 121, descriptorIndex := 122, attributes := #[] }])
  fields := #[{ name := "$assertionsDisabled", type := .boolean, accessFlags := 4120, slot := 0, constantValue := 0 }]
  methods := #[k20m0]
  instanceTypes := #[]
  staticTypes := #[.boolean]
  resolved := Array.replicate 395 none
  statics := none }

def pool21 : Array CpInfo := pool [(2, .class_ 4), (1, u "java/lang/Object"), (0, u "<init>"), (0, u "()V"), (17, .class_ 26), (1, u "jdk/internal/util/Preconditions"), (28, .class_ 56), (0, u "jdk/internal/util/Preconditions$4"), (57, .class_ 115), (0, u "jdk/internal/util/Preconditions$1"), (7, u "SIOOBE_FORMATTER"), (0, u "Ljava/util/function/BiFunction;"), (0, .class_ 126), (0, u "jdk/internal/util/Preconditions$2"), (3, u "AIOOBE_FORMATTER"), (0, .class_ 132), (0, u "jdk/internal/util/Preconditions$3"), (3, u "IOOBE_FORMATTER")] 57

def k21m0 : Method := { name := "<init>", desc := "()V", sig := { parameters := [], returnType := none }, accessFlags := 1, code := none }
/-- jdk/internal/util/Preconditions -/
def k21 : Class := { plain "jdk/internal/util/Preconditions" (some 0) with
  accessFlags := 33
  interfaces := #[]
  cf := some (fileOf pool21 24 #[.nestMembers #[55, 131, 125, 114]] #[{ accessFlags := 1, nameIndex := 5, descriptorIndex := 6, attributes := #[] }] 33 2 #[] #[{ accessFlags := 25, nameIndex := 123, descriptorIndex := 124, attributes := #[] }, { accessFlags := 25, nameIndex := 130, descriptorIndex := 124, attributes := #[] }, { accessFlags := 25, nameIndex := 136, descriptorIndex := 124, attributes := #[] }])
  fields := #[{ name := "SIOOBE_FORMATTER", type := (.object "java/util/function/BiFunction"), accessFlags := 25, slot := 0, constantValue := 0 }, { name := "AIOOBE_FORMATTER", type := (.object "java/util/function/BiFunction"), accessFlags := 25, slot := 1, constantValue := 0 }, { name := "IOOBE_FORMATTER", type := (.object "java/util/function/BiFunction"), accessFlags := 25, slot := 2, constantValue := 0 }]
  methods := #[k21m0]
  instanceTypes := #[]
  staticTypes := #[(.object "java/util/function/BiFunction"), (.object "java/util/function/BiFunction"), (.object "java/util/function/BiFunction")]
  resolved := Array.replicate 194 none
  statics := some 2 }

def pool22 : Array CpInfo := pool [(1, u "java/lang/Cloneable"), (0, .class_ 1), (0, u "java/lang/Object"), (0, .class_ 3)] 3

/-- java/lang/Cloneable -/
def k22 : Class := { plain "java/lang/Cloneable" (some 0) with
  accessFlags := 1537
  interfaces := #[]
  cf := some (fileOf pool22 2 #[] #[] 1537 4 #[] #[])
  fields := #[]
  methods := #[]
  instanceTypes := #[]
  staticTypes := #[]
  resolved := Array.replicate 8 none
  statics := none }

/-- the primitive byte -/
def k23 : Class := { plain "byte" none with kind := .primitive 'B', accessFlags := 0x411 }
/-- [B -/
def k24 : Class := { plain "[B" (some 0) with kind := .array 23 .byte, interfaces := #[22, 2], accessFlags := 1041 }

/-- the primitive char -/
def k25 : Class := { plain "char" none with kind := .primitive 'C', accessFlags := 0x411 }
/-- [C -/
def k26 : Class := { plain "[C" (some 0) with kind := .array 25 .char, interfaces := #[22, 2], accessFlags := 1041 }

/-- the primitive int -/
def k27 : Class := { plain "int" none with kind := .primitive 'I', accessFlags := 0x411 }
/-- [I -/
def k28 : Class := { plain "[I" (some 0) with kind := .array 27 .int, interfaces := #[22, 2], accessFlags := 1041 }

def heap : Heap := #[{ cls := 7, slots := #[.long 0, .int 1, .null, .int 0, .null, .int 0, .int 0], vm := .statics 7 },
  { cls := 12, slots := #[.ref 3, .ref 4, .null], vm := .statics 12 },
  { cls := 21, slots := #[.null, .null, .null], vm := .statics 21 },
  { cls := 12, slots := #[.null, .int 0, .int 0], vm := .none },
  { cls := 12, slots := #[.null, .int 1, .int 0], vm := .none }]
def classes : Array Class := #[k0, k1, k2, k3, k4, k5, k6, k7, k8, k9, k10, k11, k12, k13, k14, k15, k16, k17, k18, k19, k20, k21, k22, k23, k24, k25, k26, k27, k28]
def interned : List (Array UInt16 × Addr) := []
def slotsUsed : Nat := 19
def theMethod : MethodId := ⟨1, 3⟩
def args0 : Array Value := #[.int 5, .long 7, .int 3]
def aboutOver (below : List Frame) : State where
  vm := { classes := classes, interned := interned.toArray }
  heap := heap
  slotsUsed := slotsUsed
  threads := #[{ frames := .invoking theMethod args0 :: below }]
def below0 : List Frame := [.native { method := ⟨0, 0⟩, args := #[] }]
def about1 : State := aboutOver below0
def p0 : Program := .bare "" "" ""
def e0 : Env := launch0.env 0 0 0
theorem w_frames : about1.frames = Frame.invoking theMethod args0 :: below0 := rfl
set_option maxRecDepth 65536 in
theorem w_args : argsFit about1.vm theMethod args0 = true := by decide +kernel
set_option maxRecDepth 65536 in
theorem w_heap : heapFits about1 = true := by decide +kernel
set_option maxRecDepth 65536 in
theorem w_runnable : about1.curStatus? = some .runnable := by decide +kernel
set_option maxRecDepth 65536 in
theorem w_alone : about1.alone = true := by decide +kernel
set_option maxRecDepth 65536 in
theorem w_named : about1.methodNamed? x = some theMethod := by decide +kernel
set_option maxRecDepth 65536 in
theorem w_hears : about1.hears theMethod below0 = true := by decide +kernel
set_option maxRecDepth 65536 in
theorem w_ripe : about1.ripe theMethod args0 below0 = true := by decide +kernel
theorem w_running : about1.status = .running := rfl
set_option maxRecDepth 65536 in
theorem w_room : about1.hasRoom e0.platform room_1 = true :=
  launch0.hasRoom_least _ room_1 (by decide +kernel) (by decide +kernel) (by decide +kernel) (by decide +kernel) (by decide +kernel) (by decide +kernel)
theorem allAtoms_all (ts : List Jvm.Cond) (a : Array Jvm.Value) (st : Jvm.State) : (allAtoms ts).before a st = ts.all (fun c => c.before a st) := by
  induction ts with
  | nil => rfl
  | cons c t ih =>
    show (Jvm.Cond.and c (allAtoms t)).before a st = _
    rw [Jvm.Cond.before_and, ih, List.all_cons]
def words1 : List Jvm.Cond := Jvm.Cond.code x code maxLocals ret :: tables_1
/-- a 'code' word, met by the world's own term for the bytes: nothing is compared byte by byte -/
theorem code_word {y : MethodName} {bytes : ByteArray} {mx : Nat} {rt : Option FieldType} {a : Array Value} {s : State} {m : MethodId} {meth : Method} {c : Code} (h1 : s.methodNamed? y = some m) (h2 : s.vm.method? m = some meth) (h3 : meth.code = some c) (h4 : c.code = bytes)
    (h5 : (c.maxLocals == mx && c.exceptionTable.isEmpty && decide (c.maxStack ≤ mostOperands) && decide (meth.sig.returnType = rt) && !meth.locks && decide (parseMethodDescriptor y.desc = some meth.sig)) = true) : (Jvm.Cond.code y bytes mx rt).before a s = true := by
  simp only [Bool.and_eq_true, beq_iff_eq, Bool.not_eq_true', decide_eq_true_eq] at h5
  obtain ⟨⟨⟨⟨⟨g1, g2⟩, g3⟩, g4⟩, g5⟩, g6⟩ := h5
  simp [Cond.before, Cond.holds, Cond.value, h1, h2, h3, h4, g1, g2, g3, g4, g5, g6]
def isCode : Jvm.Cond → Bool
  | .code _ _ _ _ => true
  | _ => false
theorem all_split {L : List Jvm.Cond} {P : Jvm.Cond → Bool} (h1 : L.all (fun c => isCode c || P c) = true) (h2 : ∀ c ∈ L.filter isCode, P c = true) : L.all P = true := by
  refine List.all_eq_true.mpr fun c hc => ?_
  have h := List.all_eq_true.mp h1 c hc
  rcases Bool.eq_false_or_eq_true (isCode c) with hi | hi
  · exact h2 c (List.mem_filter.mpr ⟨hc, hi⟩)
  · simpa [hi] using h
set_option maxRecDepth 65536 in
theorem w_c0 : (Jvm.Cond.code x code maxLocals ret).before args0 about1 = true := code_word (m := ⟨1, 3⟩) (meth := k1m3) (c := k1c3) (by decide +kernel) rfl rfl rfl (by decide +kernel)
set_option maxRecDepth 65536 in
theorem w_c1 : (Jvm.Cond.code ({ cls := "com/example/bounded_lock/boundedlock/zookeeper/RequestNodeIsMadeByPinLaw", name := "pick", desc := "(I)C" } : Jvm.MethodName) method_2_code (2 : Nat) (Option.some Jvm.ClassFile.FieldType.char)).before args0 about1 = true := code_word (m := ⟨1, 1⟩) (meth := k1m1) (c := k1c1) (by decide +kernel) rfl rfl rfl (by decide +kernel)
set_option maxRecDepth 65536 in
theorem w_c2 : (Jvm.Cond.code ({ cls := "com/example/bounded_lock/boundedlock/zookeeper/RequestNodeIsMadeByPinLaw", name := "str", desc := "([CI)Ljava/lang/String;" } : Jvm.MethodName) method_3_code (2 : Nat) (Option.some (Jvm.ClassFile.FieldType.object "java/lang/String"))).before args0 about1 = true := code_word (m := ⟨1, 2⟩) (meth := k1m2) (c := k1c2) (by decide +kernel) rfl rfl rfl (by decide +kernel)
set_option maxRecDepth 65536 in
theorem w_c3 : (Jvm.Cond.code ({ cls := "java/lang/String", name := "<init>", desc := "([C)V" } : Jvm.MethodName) jdk_42_method_3_code (2 : Nat) (Option.none : Option Jvm.ClassFile.FieldType)).before args0 about1 = true := code_word (m := ⟨7, 1⟩) (meth := k7m1) (c := k7c1) (by decide +kernel) rfl rfl rfl (by decide +kernel)
set_option maxRecDepth 65536 in
theorem w_c4 : (Jvm.Cond.code ({ cls := "java/lang/String", name := "<init>", desc := "([CIILjava/lang/Void;)V" } : Jvm.MethodName) jdk_42_method_149_code (6 : Nat) (Option.none : Option Jvm.ClassFile.FieldType)).before args0 about1 = true := code_word (m := ⟨7, 7⟩) (meth := k7m7) (c := k7c7) (by decide +kernel) rfl rfl rfl (by decide +kernel)
set_option maxRecDepth 65536 in
theorem w_c5 : (Jvm.Cond.code ({ cls := "java/lang/Object", name := "<init>", desc := "()V" } : Jvm.MethodName) object_method_1_code (1 : Nat) (Option.none : Option Jvm.ClassFile.FieldType)).before args0 about1 = true := code_word (m := ⟨0, 0⟩) (meth := k0m0) (c := k0c0) (by decide +kernel) rfl rfl rfl (by decide +kernel)
set_option maxRecDepth 65536 in
theorem w_c6 : (Jvm.Cond.code ({ cls := "java/lang/StringUTF16", name := "compress", desc := "([CII)[B" } : Jvm.MethodName) jdk_52_method_16_code (6 : Nat) (Option.some (Jvm.ClassFile.FieldType.array Jvm.ClassFile.FieldType.byte))).before args0 about1 = true := code_word (m := ⟨8, 2⟩) (meth := k8m2) (c := k8c2) (by decide +kernel) rfl rfl rfl (by decide +kernel)
set_option maxRecDepth 65536 in
theorem w_c7 : (Jvm.Cond.code ({ cls := "java/lang/StringUTF16", name := "compress", desc := "([CI[BII)I" } : Jvm.MethodName) jdk_52_method_21_code (7 : Nat) (Option.some Jvm.ClassFile.FieldType.int)).before args0 about1 = true := code_word (m := ⟨8, 3⟩) (meth := k8m3) (c := k8c3) (by decide +kernel) rfl rfl rfl (by decide +kernel)
set_option maxRecDepth 65536 in
theorem w_c8 : (Jvm.Cond.code ({ cls := "java/lang/StringUTF16", name := "coderFromArrayLen", desc := "([BI)B" } : Jvm.MethodName) jdk_52_method_15_code (2 : Nat) (Option.some Jvm.ClassFile.FieldType.byte)).before args0 about1 = true := code_word (m := ⟨8, 1⟩) (meth := k8m1) (c := k8c1) (by decide +kernel) rfl rfl rfl (by decide +kernel)
set_option maxRecDepth 65536 in
theorem w_c9 : (Jvm.Cond.code ({ cls := "com/example/bounded_lock/boundedlock/zookeeper/RequestNode", name := "isMadeBy", desc := "(Ljava/lang/String;Ljava/lang/String;)Z" } : Jvm.MethodName) prog_21_method_4_code (2 : Nat) (Option.some Jvm.ClassFile.FieldType.boolean)).before args0 about1 = true := code_word (m := ⟨10, 1⟩) (meth := k10m1) (c := k10c1) (by decide +kernel) rfl rfl rfl (by decide +kernel)
set_option maxRecDepth 65536 in
theorem w_c10 : (Jvm.Cond.code ({ cls := "com/example/bounded_lock/boundedlock/zookeeper/RequestNode", name := "prefix", desc := "(Ljava/lang/String;Lcom/example/bounded_lock/boundedlock/Mode;)Ljava/lang/String;" } : Jvm.MethodName) prog_21_method_3_code (2 : Nat) (Option.some (Jvm.ClassFile.FieldType.object "java/lang/String"))).before args0 about1 = true := code_word (m := ⟨10, 0⟩) (meth := k10m0) (c := k10c0) (by decide +kernel) rfl rfl rfl (by decide +kernel)
set_option maxRecDepth 65536 in
theorem w_c11 : (Jvm.Cond.code ({ cls := "java/lang/StringBuilder", name := "<init>", desc := "()V" } : Jvm.MethodName) jdk_67_method_1_code (1 : Nat) (Option.none : Option Jvm.ClassFile.FieldType)).before args0 about1 = true := code_word (m := ⟨15, 0⟩) (meth := k15m0) (c := k15c0) (by decide +kernel) rfl rfl rfl (by decide +kernel)
set_option maxRecDepth 65536 in
theorem w_c12 : (Jvm.Cond.code ({ cls := "java/lang/AbstractStringBuilder", name := "<init>", desc := "(I)V" } : Jvm.MethodName) jdk_68_method_2_code (2 : Nat) (Option.none : Option Jvm.ClassFile.FieldType)).before args0 about1 = true := code_word (m := ⟨14, 1⟩) (meth := k14m1) (c := k14c1) (by decide +kernel) rfl rfl rfl (by decide +kernel)
set_option maxRecDepth 65536 in
theorem w_c13 : (Jvm.Cond.code ({ cls := "java/lang/StringBuilder", name := "append", desc := "(Ljava/lang/String;)Ljava/lang/StringBuilder;" } : Jvm.MethodName) jdk_67_method_7_code (2 : Nat) (Option.some (Jvm.ClassFile.FieldType.object "java/lang/StringBuilder"))).before args0 about1 = true := code_word (m := ⟨15, 1⟩) (meth := k15m1) (c := k15c1) (by decide +kernel) rfl rfl rfl (by decide +kernel)
set_option maxRecDepth 65536 in
theorem w_c14 : (Jvm.Cond.code ({ cls := "java/lang/AbstractStringBuilder", name := "append", desc := "(Ljava/lang/String;)Ljava/lang/AbstractStringBuilder;" } : Jvm.MethodName) jdk_68_method_22_code (3 : Nat) (Option.some (Jvm.ClassFile.FieldType.object "java/lang/AbstractStringBuilder"))).before args0 about1 = true := code_word (m := ⟨14, 4⟩) (meth := k14m4) (c := k14c4) (by decide +kernel) rfl rfl rfl (by decide +kernel)
set_option maxRecDepth 65536 in
theorem w_c15 : (Jvm.Cond.code ({ cls := "java/lang/String", name := "length", desc := "()I" } : Jvm.MethodName) jdk_42_method_54_code (1 : Nat) (Option.some Jvm.ClassFile.FieldType.int)).before args0 about1 = true := code_word (m := ⟨7, 3⟩) (meth := k7m3) (c := k7c3) (by decide +kernel) rfl rfl rfl (by decide +kernel)
set_option maxRecDepth 65536 in
theorem w_c16 : (Jvm.Cond.code ({ cls := "java/lang/String", name := "coder", desc := "()B" } : Jvm.MethodName) jdk_42_method_152_code (1 : Nat) (Option.some Jvm.ClassFile.FieldType.byte)).before args0 about1 = true := code_word (m := ⟨7, 9⟩) (meth := k7m9) (c := k7c9) (by decide +kernel) rfl rfl rfl (by decide +kernel)
set_option maxRecDepth 65536 in
theorem w_c17 : (Jvm.Cond.code ({ cls := "java/lang/AbstractStringBuilder", name := "ensureCapacityInternal", desc := "(I)V" } : Jvm.MethodName) jdk_68_method_9_code (3 : Nat) (Option.none : Option Jvm.ClassFile.FieldType)).before args0 about1 = true := code_word (m := ⟨14, 3⟩) (meth := k14m3) (c := k14c3) (by decide +kernel) rfl rfl rfl (by decide +kernel)
set_option maxRecDepth 65536 in
theorem w_c18 : (Jvm.Cond.code ({ cls := "java/lang/AbstractStringBuilder", name := "putStringAt", desc := "(ILjava/lang/String;)V" } : Jvm.MethodName) jdk_68_method_73_code (3 : Nat) (Option.none : Option Jvm.ClassFile.FieldType)).before args0 about1 = true := code_word (m := ⟨14, 8⟩) (meth := k14m8) (c := k14c8) (by decide +kernel) rfl rfl rfl (by decide +kernel)
set_option maxRecDepth 65536 in
theorem w_c19 : (Jvm.Cond.code ({ cls := "java/lang/AbstractStringBuilder", name := "inflateIfNeededFor", desc := "(Ljava/lang/String;)V" } : Jvm.MethodName) jdk_68_method_71_code (2 : Nat) (Option.none : Option Jvm.ClassFile.FieldType)).before args0 about1 = true := code_word (m := ⟨14, 7⟩) (meth := k14m7) (c := k14c7) (by decide +kernel) rfl rfl rfl (by decide +kernel)
set_option maxRecDepth 65536 in
theorem w_c20 : (Jvm.Cond.code ({ cls := "java/lang/String", name := "getBytes", desc := "([BIB)V" } : Jvm.MethodName) jdk_42_method_147_code (4 : Nat) (Option.none : Option Jvm.ClassFile.FieldType)).before args0 about1 = true := code_word (m := ⟨7, 6⟩) (meth := k7m6) (c := k7c6) (by decide +kernel) rfl rfl rfl (by decide +kernel)
set_option maxRecDepth 65536 in
theorem w_c21 : (Jvm.Cond.code ({ cls := "java/lang/StringBuilder", name := "toString", desc := "()Ljava/lang/String;" } : Jvm.MethodName) jdk_67_method_42_code (1 : Nat) (Option.some (Jvm.ClassFile.FieldType.object "java/lang/String"))).before args0 about1 = true := code_word (m := ⟨15, 2⟩) (meth := k15m2) (c := k15c2) (by decide +kernel) rfl rfl rfl (by decide +kernel)
set_option maxRecDepth 65536 in
theorem w_c22 : (Jvm.Cond.code ({ cls := "java/lang/String", name := "<init>", desc := "(Ljava/lang/StringBuilder;)V" } : Jvm.MethodName) jdk_42_method_53_code (2 : Nat) (Option.none : Option Jvm.ClassFile.FieldType)).before args0 about1 = true := code_word (m := ⟨7, 2⟩) (meth := k7m2) (c := k7c2) (by decide +kernel) rfl rfl rfl (by decide +kernel)
set_option maxRecDepth 65536 in
theorem w_c23 : (Jvm.Cond.code ({ cls := "java/lang/String", name := "<init>", desc := "(Ljava/lang/AbstractStringBuilder;Ljava/lang/Void;)V" } : Jvm.MethodName) jdk_42_method_150_code (5 : Nat) (Option.none : Option Jvm.ClassFile.FieldType)).before args0 about1 = true := code_word (m := ⟨7, 8⟩) (meth := k7m8) (c := k7c8) (by decide +kernel) rfl rfl rfl (by decide +kernel)
set_option maxRecDepth 65536 in
theorem w_c24 : (Jvm.Cond.code ({ cls := "java/lang/AbstractStringBuilder", name := "getValue", desc := "()[B" } : Jvm.MethodName) jdk_68_method_64_code (1 : Nat) (Option.some (Jvm.ClassFile.FieldType.array Jvm.ClassFile.FieldType.byte))).before args0 about1 = true := code_word (m := ⟨14, 5⟩) (meth := k14m5) (c := k14c5) (by decide +kernel) rfl rfl rfl (by decide +kernel)
set_option maxRecDepth 65536 in
theorem w_c25 : (Jvm.Cond.code ({ cls := "java/lang/StringBuilder", name := "length", desc := "()I" } : Jvm.MethodName) jdk_67_method_93_code (1 : Nat) (Option.some Jvm.ClassFile.FieldType.int)).before args0 about1 = true := code_word (m := ⟨15, 3⟩) (meth := k15m3) (c := k15c3) (by decide +kernel) rfl rfl rfl (by decide +kernel)
set_option maxRecDepth 65536 in
theorem w_c26 : (Jvm.Cond.code ({ cls := "java/lang/AbstractStringBuilder", name := "length", desc := "()I" } : Jvm.MethodName) jdk_68_method_6_code (1 : Nat) (Option.some Jvm.ClassFile.FieldType.int)).before args0 about1 = true := code_word (m := ⟨14, 2⟩) (meth := k14m2) (c := k14c2) (by decide +kernel) rfl rfl rfl (by decide +kernel)
set_option maxRecDepth 65536 in
theorem w_c27 : (Jvm.Cond.code ({ cls := "java/lang/AbstractStringBuilder", name := "isLatin1", desc := "()Z" } : Jvm.MethodName) jdk_68_method_68_code (1 : Nat) (Option.some Jvm.ClassFile.FieldType.boolean)).before args0 about1 = true := code_word (m := ⟨14, 6⟩) (meth := k14m6) (c := k14c6) (by decide +kernel) rfl rfl rfl (by decide +kernel)
set_option maxRecDepth 65536 in
theorem w_c28 : (Jvm.Cond.code ({ cls := "java/util/Arrays", name := "copyOfRange", desc := "([BII)[B" } : Jvm.MethodName) jdk_65_method_132_code (3 : Nat) (Option.some (Jvm.ClassFile.FieldType.array Jvm.ClassFile.FieldType.byte))).before args0 about1 = true := code_word (m := ⟨17, 2⟩) (meth := k17m2) (c := k17c2) (by decide +kernel) rfl rfl rfl (by decide +kernel)
set_option maxRecDepth 65536 in
theorem w_c29 : (Jvm.Cond.code ({ cls := "java/util/Arrays", name := "copyOfRangeByte", desc := "([BII)[B" } : Jvm.MethodName) jdk_65_method_133_code (5 : Nat) (Option.some (Jvm.ClassFile.FieldType.array Jvm.ClassFile.FieldType.byte))).before args0 about1 = true := code_word (m := ⟨17, 3⟩) (meth := k17m3) (c := k17c3) (by decide +kernel) rfl rfl rfl (by decide +kernel)
set_option maxRecDepth 65536 in
theorem w_c30 : (Jvm.Cond.code ({ cls := "java/util/Arrays", name := "checkLength", desc := "(II)V" } : Jvm.MethodName) jdk_65_method_131_code (2 : Nat) (Option.none : Option Jvm.ClassFile.FieldType)).before args0 about1 = true := code_word (m := ⟨17, 1⟩) (meth := k17m1) (c := k17c1) (by decide +kernel) rfl rfl rfl (by decide +kernel)
set_option maxRecDepth 65536 in
theorem w_c31 : (Jvm.Cond.code ({ cls := "java/lang/Math", name := "min", desc := "(II)I" } : Jvm.MethodName) jdk_29_method_69_code (2 : Nat) (Option.some Jvm.ClassFile.FieldType.int)).before args0 about1 = true := code_word (m := ⟨18, 1⟩) (meth := k18m1) (c := k18c1) (by decide +kernel) rfl rfl rfl (by decide +kernel)
set_option maxRecDepth 65536 in
theorem w_c32 : (Jvm.Cond.code ({ cls := "java/lang/String", name := "startsWith", desc := "(Ljava/lang/String;)Z" } : Jvm.MethodName) jdk_42_method_76_code (2 : Nat) (Option.some Jvm.ClassFile.FieldType.boolean)).before args0 about1 = true := code_word (m := ⟨7, 5⟩) (meth := k7m5) (c := k7c5) (by decide +kernel) rfl rfl rfl (by decide +kernel)
set_option maxRecDepth 65536 in
theorem w_c33 : (Jvm.Cond.code ({ cls := "java/lang/String", name := "startsWith", desc := "(Ljava/lang/String;I)Z" } : Jvm.MethodName) jdk_42_method_75_code (8 : Nat) (Option.some Jvm.ClassFile.FieldType.boolean)).before args0 about1 = true := code_word (m := ⟨7, 4⟩) (meth := k7m4) (c := k7c4) (by decide +kernel) rfl rfl rfl (by decide +kernel)
set_option maxRecDepth 65536 in
theorem w_c34 : (Jvm.Cond.code ({ cls := "jdk/internal/util/ArraysSupport", name := "mismatch", desc := "([BI[BII)I" } : Jvm.MethodName) jdk_48_method_14_code (8 : Nat) (Option.some Jvm.ClassFile.FieldType.int)).before args0 about1 = true := code_word (m := ⟨19, 1⟩) (meth := k19m1) (c := k19c1) (by decide +kernel) rfl rfl rfl (by decide +kernel)
def codes1 : List Jvm.Cond := [Jvm.Cond.code x code maxLocals ret, Jvm.Cond.code ({ cls := "com/example/bounded_lock/boundedlock/zookeeper/RequestNodeIsMadeByPinLaw", name := "pick", desc := "(I)C" } : Jvm.MethodName) method_2_code (2 : Nat) (Option.some Jvm.ClassFile.FieldType.char), Jvm.Cond.code ({ cls := "com/example/bounded_lock/boundedlock/zookeeper/RequestNodeIsMadeByPinLaw", name := "str", desc := "([CI)Ljava/lang/String;" } : Jvm.MethodName) method_3_code (2 : Nat) (Option.some (Jvm.ClassFile.FieldType.object "java/lang/String")), Jvm.Cond.code ({ cls := "java/lang/String", name := "<init>", desc := "([C)V" } : Jvm.MethodName) jdk_42_method_3_code (2 : Nat) (Option.none : Option Jvm.ClassFile.FieldType), Jvm.Cond.code ({ cls := "java/lang/String", name := "<init>", desc := "([CIILjava/lang/Void;)V" } : Jvm.MethodName) jdk_42_method_149_code (6 : Nat) (Option.none : Option Jvm.ClassFile.FieldType), Jvm.Cond.code ({ cls := "java/lang/Object", name := "<init>", desc := "()V" } : Jvm.MethodName) object_method_1_code (1 : Nat) (Option.none : Option Jvm.ClassFile.FieldType), Jvm.Cond.code ({ cls := "java/lang/StringUTF16", name := "compress", desc := "([CII)[B" } : Jvm.MethodName) jdk_52_method_16_code (6 : Nat) (Option.some (Jvm.ClassFile.FieldType.array Jvm.ClassFile.FieldType.byte)), Jvm.Cond.code ({ cls := "java/lang/StringUTF16", name := "compress", desc := "([CI[BII)I" } : Jvm.MethodName) jdk_52_method_21_code (7 : Nat) (Option.some Jvm.ClassFile.FieldType.int), Jvm.Cond.code ({ cls := "java/lang/StringUTF16", name := "coderFromArrayLen", desc := "([BI)B" } : Jvm.MethodName) jdk_52_method_15_code (2 : Nat) (Option.some Jvm.ClassFile.FieldType.byte), Jvm.Cond.code ({ cls := "com/example/bounded_lock/boundedlock/zookeeper/RequestNode", name := "isMadeBy", desc := "(Ljava/lang/String;Ljava/lang/String;)Z" } : Jvm.MethodName) prog_21_method_4_code (2 : Nat) (Option.some Jvm.ClassFile.FieldType.boolean), Jvm.Cond.code ({ cls := "com/example/bounded_lock/boundedlock/zookeeper/RequestNode", name := "prefix", desc := "(Ljava/lang/String;Lcom/example/bounded_lock/boundedlock/Mode;)Ljava/lang/String;" } : Jvm.MethodName) prog_21_method_3_code (2 : Nat) (Option.some (Jvm.ClassFile.FieldType.object "java/lang/String")), Jvm.Cond.code ({ cls := "java/lang/StringBuilder", name := "<init>", desc := "()V" } : Jvm.MethodName) jdk_67_method_1_code (1 : Nat) (Option.none : Option Jvm.ClassFile.FieldType), Jvm.Cond.code ({ cls := "java/lang/AbstractStringBuilder", name := "<init>", desc := "(I)V" } : Jvm.MethodName) jdk_68_method_2_code (2 : Nat) (Option.none : Option Jvm.ClassFile.FieldType), Jvm.Cond.code ({ cls := "java/lang/StringBuilder", name := "append", desc := "(Ljava/lang/String;)Ljava/lang/StringBuilder;" } : Jvm.MethodName) jdk_67_method_7_code (2 : Nat) (Option.some (Jvm.ClassFile.FieldType.object "java/lang/StringBuilder")), Jvm.Cond.code ({ cls := "java/lang/AbstractStringBuilder", name := "append", desc := "(Ljava/lang/String;)Ljava/lang/AbstractStringBuilder;" } : Jvm.MethodName) jdk_68_method_22_code (3 : Nat) (Option.some (Jvm.ClassFile.FieldType.object "java/lang/AbstractStringBuilder")), Jvm.Cond.code ({ cls := "java/lang/String", name := "length", desc := "()I" } : Jvm.MethodName) jdk_42_method_54_code (1 : Nat) (Option.some Jvm.ClassFile.FieldType.int), Jvm.Cond.code ({ cls := "java/lang/String", name := "coder", desc := "()B" } : Jvm.MethodName) jdk_42_method_152_code (1 : Nat) (Option.some Jvm.ClassFile.FieldType.byte), Jvm.Cond.code ({ cls := "java/lang/AbstractStringBuilder", name := "ensureCapacityInternal", desc := "(I)V" } : Jvm.MethodName) jdk_68_method_9_code (3 : Nat) (Option.none : Option Jvm.ClassFile.FieldType), Jvm.Cond.code ({ cls := "java/lang/AbstractStringBuilder", name := "putStringAt", desc := "(ILjava/lang/String;)V" } : Jvm.MethodName) jdk_68_method_73_code (3 : Nat) (Option.none : Option Jvm.ClassFile.FieldType), Jvm.Cond.code ({ cls := "java/lang/AbstractStringBuilder", name := "inflateIfNeededFor", desc := "(Ljava/lang/String;)V" } : Jvm.MethodName) jdk_68_method_71_code (2 : Nat) (Option.none : Option Jvm.ClassFile.FieldType), Jvm.Cond.code ({ cls := "java/lang/String", name := "getBytes", desc := "([BIB)V" } : Jvm.MethodName) jdk_42_method_147_code (4 : Nat) (Option.none : Option Jvm.ClassFile.FieldType), Jvm.Cond.code ({ cls := "java/lang/StringBuilder", name := "toString", desc := "()Ljava/lang/String;" } : Jvm.MethodName) jdk_67_method_42_code (1 : Nat) (Option.some (Jvm.ClassFile.FieldType.object "java/lang/String")), Jvm.Cond.code ({ cls := "java/lang/String", name := "<init>", desc := "(Ljava/lang/StringBuilder;)V" } : Jvm.MethodName) jdk_42_method_53_code (2 : Nat) (Option.none : Option Jvm.ClassFile.FieldType), Jvm.Cond.code ({ cls := "java/lang/String", name := "<init>", desc := "(Ljava/lang/AbstractStringBuilder;Ljava/lang/Void;)V" } : Jvm.MethodName) jdk_42_method_150_code (5 : Nat) (Option.none : Option Jvm.ClassFile.FieldType), Jvm.Cond.code ({ cls := "java/lang/AbstractStringBuilder", name := "getValue", desc := "()[B" } : Jvm.MethodName) jdk_68_method_64_code (1 : Nat) (Option.some (Jvm.ClassFile.FieldType.array Jvm.ClassFile.FieldType.byte)), Jvm.Cond.code ({ cls := "java/lang/StringBuilder", name := "length", desc := "()I" } : Jvm.MethodName) jdk_67_method_93_code (1 : Nat) (Option.some Jvm.ClassFile.FieldType.int), Jvm.Cond.code ({ cls := "java/lang/AbstractStringBuilder", name := "length", desc := "()I" } : Jvm.MethodName) jdk_68_method_6_code (1 : Nat) (Option.some Jvm.ClassFile.FieldType.int), Jvm.Cond.code ({ cls := "java/lang/AbstractStringBuilder", name := "isLatin1", desc := "()Z" } : Jvm.MethodName) jdk_68_method_68_code (1 : Nat) (Option.some Jvm.ClassFile.FieldType.boolean), Jvm.Cond.code ({ cls := "java/util/Arrays", name := "copyOfRange", desc := "([BII)[B" } : Jvm.MethodName) jdk_65_method_132_code (3 : Nat) (Option.some (Jvm.ClassFile.FieldType.array Jvm.ClassFile.FieldType.byte)), Jvm.Cond.code ({ cls := "java/util/Arrays", name := "copyOfRangeByte", desc := "([BII)[B" } : Jvm.MethodName) jdk_65_method_133_code (5 : Nat) (Option.some (Jvm.ClassFile.FieldType.array Jvm.ClassFile.FieldType.byte)), Jvm.Cond.code ({ cls := "java/util/Arrays", name := "checkLength", desc := "(II)V" } : Jvm.MethodName) jdk_65_method_131_code (2 : Nat) (Option.none : Option Jvm.ClassFile.FieldType), Jvm.Cond.code ({ cls := "java/lang/Math", name := "min", desc := "(II)I" } : Jvm.MethodName) jdk_29_method_69_code (2 : Nat) (Option.some Jvm.ClassFile.FieldType.int), Jvm.Cond.code ({ cls := "java/lang/String", name := "startsWith", desc := "(Ljava/lang/String;)Z" } : Jvm.MethodName) jdk_42_method_76_code (2 : Nat) (Option.some Jvm.ClassFile.FieldType.boolean), Jvm.Cond.code ({ cls := "java/lang/String", name := "startsWith", desc := "(Ljava/lang/String;I)Z" } : Jvm.MethodName) jdk_42_method_75_code (8 : Nat) (Option.some Jvm.ClassFile.FieldType.boolean), Jvm.Cond.code ({ cls := "jdk/internal/util/ArraysSupport", name := "mismatch", desc := "([BI[BII)I" } : Jvm.MethodName) jdk_48_method_14_code (8 : Nat) (Option.some Jvm.ClassFile.FieldType.int)]
set_option maxRecDepth 65536 in
theorem codes_eq : words1.filter isCode = codes1 := rfl
theorem w_codes : ∀ c ∈ words1.filter isCode, c.before args0 about1 = true := by
  rw [codes_eq]
  intro c hc
  simp only [codes1, List.mem_cons, List.not_mem_nil, or_false] at hc
  rcases hc with rfl | rfl | rfl | rfl | rfl | rfl | rfl | rfl | rfl | rfl | rfl | rfl | rfl | rfl | rfl | rfl | rfl | rfl | rfl | rfl | rfl | rfl | rfl | rfl | rfl | rfl | rfl | rfl | rfl | rfl | rfl | rfl | rfl | rfl | rfl
  · exact w_c0
  · exact w_c1
  · exact w_c2
  · exact w_c3
  · exact w_c4
  · exact w_c5
  · exact w_c6
  · exact w_c7
  · exact w_c8
  · exact w_c9
  · exact w_c10
  · exact w_c11
  · exact w_c12
  · exact w_c13
  · exact w_c14
  · exact w_c15
  · exact w_c16
  · exact w_c17
  · exact w_c18
  · exact w_c19
  · exact w_c20
  · exact w_c21
  · exact w_c22
  · exact w_c23
  · exact w_c24
  · exact w_c25
  · exact w_c26
  · exact w_c27
  · exact w_c28
  · exact w_c29
  · exact w_c30
  · exact w_c31
  · exact w_c32
  · exact w_c33
  · exact w_c34
set_option maxRecDepth 65536 in
theorem w_t1 : (words1.take 24).all (fun c => isCode c || c.before args0 about1) = true := by decide +kernel
set_option maxRecDepth 65536 in
theorem w_t2 : ((words1.drop 24).take 24).all (fun c => isCode c || c.before args0 about1) = true := by decide +kernel
set_option maxRecDepth 65536 in
theorem w_t3 : (((words1.drop 24).drop 24).take 24).all (fun c => isCode c || c.before args0 about1) = true := by decide +kernel
set_option maxRecDepth 65536 in
theorem w_t4 : ((((words1.drop 24).drop 24).drop 24).take 24).all (fun c => isCode c || c.before args0 about1) = true := by decide +kernel
set_option maxRecDepth 65536 in
theorem w_t5 : (((((words1.drop 24).drop 24).drop 24).drop 24).take 24).all (fun c => isCode c || c.before args0 about1) = true := by decide +kernel
set_option maxRecDepth 65536 in
theorem w_t6 : ((((((words1.drop 24).drop 24).drop 24).drop 24).drop 24).take 24).all (fun c => isCode c || c.before args0 about1) = true := by decide +kernel
set_option maxRecDepth 65536 in
theorem w_t7 : (((((((words1.drop 24).drop 24).drop 24).drop 24).drop 24).drop 24).take 24).all (fun c => isCode c || c.before args0 about1) = true := by decide +kernel
set_option maxRecDepth 65536 in
theorem w_t8 : (((((((words1.drop 24).drop 24).drop 24).drop 24).drop 24).drop 24).drop 24).all (fun c => isCode c || c.before args0 about1) = true := by decide +kernel
theorem w_tables : (allAtoms (Jvm.Cond.code x code maxLocals ret :: tables_1)).before args0 about1 = true := by
  rw [allAtoms_all]
  show words1.all (fun c => c.before args0 about1) = true
  refine all_split ?_ w_codes
  rw [← List.take_append_drop 24 words1, List.all_append, w_t1, ← List.take_append_drop 24 (words1.drop 24), List.all_append, w_t2, ← List.take_append_drop 24 ((words1.drop 24).drop 24), List.all_append, w_t3, ← List.take_append_drop 24 (((words1.drop 24).drop 24).drop 24), List.all_append, w_t4, ← List.take_append_drop 24 ((((words1.drop 24).drop 24).drop 24).drop 24), List.all_append, w_t5, ← List.take_append_drop 24 (((((words1.drop 24).drop 24).drop 24).drop 24).drop 24), List.all_append, w_t6, ← List.take_append_drop 24 ((((((words1.drop 24).drop 24).drop 24).drop 24).drop 24).drop 24), List.all_append, w_t7, w_t8]
  rfl
set_option maxRecDepth 65536 in
theorem w_rest : rest_1_c.before args0 about1 = true := by decide +kernel
set_option maxRecDepth 65536 in
theorem w_case : (Jvm.Cond.and given_1 narrow_1).before args0 about1 = true := by decide +kernel
set_option maxRecDepth 65536 in
theorem w_consts : constsHeld consts_1 about1 := Jvm.Lit.constsHeldB_iff.mp (by decide +kernel)
theorem w_applies : (headSpec (Jvm.Cond.code x code maxLocals ret :: tables_1) room_1).applies x e0.platform about1 = true :=
  (Spec.applies_iff w_frames).mpr ⟨w_running, w_runnable, w_alone, w_named, w_hears, w_ripe, w_room, w_tables⟩
theorem atStart : AtStart classFile x code maxLocals ret World_1 tables_1 room_1 Calls_1 rest_1 Pre_1 launch0 p0 e0 about1 theMethod args0 below0 :=
  ⟨lists_1, trivial, launch0.admits_env _ _ _, launch0.least_env, fairChoices_fair.cas, fairChoices_fair.clock, w_frames, w_args, w_heap, w_applies, ⟨w_consts, trivial⟩, w_rest, w_case⟩
end start1
theorem witness_1 : WitnessClaimed_1 := ⟨start1.p0, start1.e0, start1.about1, start1.theMethod, start1.args0, start1.below0, start1.atStart⟩
end Jvm.Pilot.@@N@@
