import JvmDerived
import JvmDerived.Pilot.@@N@@Statement
import JvmDerived.Pilot.@@N@@Code
set_option linter.unusedVariables false
set_option linter.unusedSimpArgs false
namespace Jvm.RoadKit
open Sem ClassFile Op Lib Jvm.Stand Jvm.Free Jvm.LawKit
section OwnK
variable {p : Program} {l : Launch} {e : Env} {R : Room} {s : State} {m : MethodId} {args : Array Value} {below : List Frame} {meth : Method} {c : Code} {T : State} {cells slots cells' slots' : Nat} {Z : State} {a0 : Array Value} {h : Heap} {n0 : Nat} {D : State → Prop} {pc pc' : Nat} {Ls : Array Slot} {St : List Value}
/-- the run goes from the frame g at T to a state that is done -/
def GoK (p : Program) (e : Env) (below : List Frame) (D : State → Prop) (T : State) (g : JFrame) : Prop := ∃ u, Steps p.tables e below (T.setTop g) u ∧ D u
/-- where the walk stands: the state, its heap, what was made; all that was written is new -/
def OnK (p : Program) (l : Launch) (e : Env) (R : Room) (s : State) (m : MethodId) (args : Array Value) (below : List Frame) (meth : Method) (c : Code) (n0 : Nat) (T : State) (h : Heap) (cells slots : Nat) : Prop := ∃ locs, Stand p l e R s m args below meth c T locs cells slots ∧ T.heap = h ∧ Fr n0 locs
/-- the call has returned -/
def DoneK (s : State) (below : List Frame) (n0 C S : Nat) (Q : Option Value → Heap → Prop) (u : State) : Prop := u.status = .running ∧ ∃ v L, Ended u below (.returned v) ∧ Q v u.heap ∧ Fr n0 L ∧ FrameEnd s (.returned v) u L C S
def QI (P : Int32 → Heap → Prop) (v : Option Value) (h : Heap) : Prop := ∃ z, v = some (.int z) ∧ P z h
def QJ (P : Int64 → Heap → Prop) (v : Option Value) (h : Heap) : Prop := ∃ z, v = some (.long z) ∧ P z h
def QA (P : Addr → Heap → Prop) (v : Option Value) (h : Heap) : Prop := ∃ z, v = some (.ref z) ∧ P z h
def QV (P : Heap → Prop) (v : Option Value) (h : Heap) : Prop := v = none ∧ P h
/-- a body's contract -/
def CtK (l : Launch) (Z : State) (y : MethodName) (bytes : ByteArray) (maxL : Nat) (ret : Option FieldType) (rm : Room) (as' : Array Value) (h0 : Heap) (n0 : Nat) (Q : Option Value → Heap → Prop) : Prop :=
  ∀ ws : List Jvm.Cond, MetFree l y (head1 (Jvm.Cond.code y bytes maxL ret :: ws) rm) (fun a U => a = as' ∧ Z.Warmed39 U.vm ∧ U.heap = h0) (fun _ _ _ _ _ => True) (fun _ U o U' => ∃ v L, o = .returned v ∧ (Q v U'.heap ∧ Fr n0 L) ∧ FrameEnd U o U' L rm.cells rm.slots)
theorem GoK.by {T' : State} {g g' : JFrame} (st : ∀ t, Steps p.tables e below (T'.setTop g') t → Steps p.tables e below (T.setTop g) t) (G : GoK p e below D T' g') : GoK p e below D T g := by
  obtain ⟨u, hu, hD⟩ := G
  exact ⟨u, st _ hu, hD⟩
theorem OnK.at (X : OnK p l e R s m args below meth c n0 T h cells slots) : Jvm.At T m c below := by
  obtain ⟨_, X, -, -⟩ := X
  exact X.here
theorem CtK.of {y : MethodName} {bytes : ByteArray} {maxL : Nat} {ret : Option FieldType} {rm : Room} {as' : Array Value} {h0 : Heap} {Q : Option Value → Heap → Prop} (hp : plainFor y = true)
    (body : ∀ {p : Program} {e : Env} {s : State} {m : MethodId} {below : List Frame} {meth : Method} {c : Code} {T : State}, OnK p l e rm s m as' below meth c n0 T h0 0 0 → p.tables.exec = Jvm.exec → Z.Warmed39 s.vm → c.code = bytes → c.maxLocals = maxL → s.vm.findClass y.cls = some m.cls → meth.name = y.name → meth.sig.returnType = ret → meth.locks = false →
      GoK p e below (DoneK s below n0 rm.cells rm.slots Q) T (entryFrame m as' maxL)) : CtK l Z y bytes maxL ret rm as' h0 n0 Q := by
  intro ws
  refine MetFree.of_bodySF hp hisR ?_
  intro p e s m args below meth c s₁ Bd hml0 hP hK
  obtain ⟨rfl, hZ, hh⟩ := hP
  have hown : s.vm.findClass y.cls = some m.cls := findClass_of_methodNamed Bd.named
  have hnm := (name_of_methodNamed Bd.named Bd.method).1
  have X0 : Stand p l e rm s m args below meth c s₁ [] 0 0 := Stand.of_body Bd
  have e0 : s₁.heap = h0 := by rw [← hh, Bd.state]; rfl
  obtain ⟨u, hu, hrun, v, L, hen, hQ, hN, hF⟩ := body ⟨[], X0, e0, Fr.nil n0⟩ Bd.exec hZ Bd.bytes hml0 hown hnm Bd.returns (BodyLoose.notSynchronized Bd)
  exact ⟨u, _, hu, hrun, hen, v, L, rfl, ⟨hQ, hN⟩, hF⟩
theorem GoK.entry {as' : Array Value} {n : Nat} (q : entryFrame m as' n = mkF m 0 Ls []) (G : GoK p e below D T (mkF m 0 Ls [])) : GoK p e below D T (entryFrame m as' n) := q ▸ G
theorem go_nameI {x : Int32} (G : ∀ z : Int32, z = x → GoK p e below D T (mkF m pc Ls (.int z :: St))) : GoK p e below D T (mkF m pc Ls (.int x :: St)) := G x rfl
theorem go_nameJ {x : Int64} (G : ∀ z : Int64, z = x → GoK p e below D T (mkF m pc Ls (.long z :: St))) : GoK p e below D T (mkF m pc Ls (.long x :: St)) := G x rfl
/-- the end: what every return has in common -/
theorem go_end {C S : Nat} {Q : Option Value → Heap → Prop} {v : Option Value} {g : JFrame} (X : OnK p l e R s m args below meth c n0 T h cells slots) (hlk : meth.locks = false) (hv : meth.sig.returnType = none → v = none) (hc : cells ≤ C) (hs : slots ≤ S) (q : Q v h)
    (st : ∀ {locs : List Loc}, Stand p l e R s m args below meth c T locs cells slots → ∀ {fs : List Frame}, (∀ (f : JFrame) (acts : List Action), f.method = m → f.locked = none → f.entered = [] → (doReturn e (T.setTop f) acts v).1 = T.setFrames fs) → Steps p.tables e below (T.setTop g) (T.setFrames fs)) :
    GoK p e below (DoneK s below n0 C S Q) T g := by
  obtain ⟨locs, X, rfl, N⟩ := X
  obtain ⟨fs, hr, hrun, hended, hW, hsame⟩ := X.leave (v := v) hv hlk
  exact ⟨_, st X hr, hrun, v, locs, hended, q, N, ⟨_, rfl⟩, hW, hsame.mono hc hs⟩
theorem go_retI {C S : Nat} {P : Int32 → Heap → Prop} {x : Int32} (X : OnK p l e R s m args below meth c n0 T h cells slots) (hx : p.tables.exec = Jvm.exec) (hret : meth.sig.returnType = some .int) (hlk : meth.locks = false) (hd : decode c.code pc = .ok (.ireturn, 1)) (hc : cells ≤ C) (hs : slots ≤ S) (q : P x h) : GoK p e below (DoneK s below n0 C S (QI P)) T (mkF m pc Ls (.int x :: St)) := by
  refine go_end (v := some (.int x)) X hlk (fun q => by rw [hret] at q; cases q) hc hs ⟨_, rfl, q⟩ ?_
  intro locs Y fs hr
  have hm' : T.vm.method? m = some meth := Y.method'
  have hn : narrow .int (.int x) = .int x := rfl
  show Steps p.tables e below (T.setTop { method := m, pc := pc, locals := Ls, stack := _ :: St, locked := none }) _
  jvm_step Y.here [Y.here.top, hx, hd, hm', hret, hn]
  first | (intro acts; rw [hr _ acts rfl rfl rfl]) | rw [hr _ _ rfl rfl rfl]
  exact Steps.refl _
theorem go_retN {C S : Nat} {P : Int32 → Heap → Prop} {x : Int32} {t : FieldType} (X : OnK p l e R s m args below meth c n0 T h cells slots) (hx : p.tables.exec = Jvm.exec) (hret : meth.sig.returnType = some t) (ht : t = .boolean ∨ t = .byte ∨ t = .char ∨ t = .short) (hlk : meth.locks = false) (hd : decode c.code pc = .ok (.ireturn, 1)) (hc : cells ≤ C) (hs : slots ≤ S) (q : P (nar t x) h) : GoK p e below (DoneK s below n0 C S (QI P)) T (mkF m pc Ls (.int x :: St)) := by
  refine go_end (v := some (.int (nar t x))) X hlk (fun q => by rw [hret] at q; cases q) hc hs ⟨_, rfl, q⟩ ?_
  intro locs Y fs hr
  exact retN Y hx hret ht hd hr
theorem go_retV {C S : Nat} {P : Heap → Prop} (X : OnK p l e R s m args below meth c n0 T h cells slots) (hx : p.tables.exec = Jvm.exec) (hret : meth.sig.returnType = none) (hlk : meth.locks = false) (hd : decode c.code pc = .ok (.return_, 1)) (hc : cells ≤ C) (hs : slots ≤ S) (q : P h) : GoK p e below (DoneK s below n0 C S (QV P)) T (mkF m pc Ls []) := by
  refine go_end (v := none) X hlk (fun _ => rfl) hc hs ⟨rfl, q⟩ ?_
  intro locs Y fs hr
  exact Y.returnOut hx hret hd hr
theorem go_retJ {C S : Nat} {P : Int64 → Heap → Prop} {x : Int64} (X : OnK p l e R s m args below meth c n0 T h cells slots) (hx : p.tables.exec = Jvm.exec) (hret : meth.sig.returnType = some .long) (hlk : meth.locks = false) (hd : decode c.code pc = .ok (.lreturn, 1)) (hc : cells ≤ C) (hs : slots ≤ S) (q : P x h) : GoK p e below (DoneK s below n0 C S (QJ P)) T (mkF m pc Ls (.long x :: St)) := by
  refine go_end (v := some (.long x)) X hlk (fun q => by rw [hret] at q; cases q) hc hs ⟨_, rfl, q⟩ ?_
  intro locs Y fs hr
  exact retOut Y hx hret rfl (Or.inr (Or.inl ⟨rfl, rfl, _, rfl⟩)) hd hr
theorem go_retA {C S : Nat} {P : Addr → Heap → Prop} {x : Addr} {t : FieldType} (X : OnK p l e R s m args below meth c n0 T h cells slots) (hx : p.tables.exec = Jvm.exec) (hret : meth.sig.returnType = some t) (ht : t.isReference = true) (hnr : narrow t (.ref x) = .ref x) (hlk : meth.locks = false) (hd : decode c.code pc = .ok (.areturn, 1)) (hc : cells ≤ C) (hs : slots ≤ S) (q : P x h) : GoK p e below (DoneK s below n0 C S (QA P)) T (mkF m pc Ls (.ref x :: St)) := by
  refine go_end (v := some (.ref x)) X hlk (fun q => by rw [hret] at q; cases q) hc hs ⟨_, rfl, q⟩ ?_
  intro locs Y fs hr
  exact retOut Y hx hret hnr (Or.inr (Or.inr (Or.inr (Or.inr ⟨rfl, ht, rfl⟩)))) hd hr
theorem go_iadd (X : OnK p l e R s m args below meth c n0 T h cells slots) (hx : p.tables.exec = Jvm.exec) {x y : Int32} (hd : decode c.code pc = .ok (.iadd, 1)) (hp : pc + 1 = pc') (G : GoK p e below D T (mkF m pc' Ls (.int (x + y) :: St))) : GoK p e below D T (mkF m pc Ls (.int y :: .int x :: St)) := by
  subst hp
  exact GoK.by (fun t k => XS.iadd X.at hx rfl hd rfl k) G
theorem go_isub (X : OnK p l e R s m args below meth c n0 T h cells slots) (hx : p.tables.exec = Jvm.exec) {x y : Int32} (hd : decode c.code pc = .ok (.isub, 1)) (hp : pc + 1 = pc') (G : GoK p e below D T (mkF m pc' Ls (.int (x - y) :: St))) : GoK p e below D T (mkF m pc Ls (.int y :: .int x :: St)) := by
  subst hp
  exact GoK.by (fun t k => XS.isub X.at hx rfl hd rfl k) G
theorem go_imul (X : OnK p l e R s m args below meth c n0 T h cells slots) (hx : p.tables.exec = Jvm.exec) {x y : Int32} (hd : decode c.code pc = .ok (.imul, 1)) (hp : pc + 1 = pc') (G : GoK p e below D T (mkF m pc' Ls (.int (x * y) :: St))) : GoK p e below D T (mkF m pc Ls (.int y :: .int x :: St)) := by
  subst hp
  exact GoK.by (fun t k => XS.imul X.at hx rfl hd rfl k) G
theorem go_iand (X : OnK p l e R s m args below meth c n0 T h cells slots) (hx : p.tables.exec = Jvm.exec) {x y : Int32} (hd : decode c.code pc = .ok (.iand, 1)) (hp : pc + 1 = pc') (G : GoK p e below D T (mkF m pc' Ls (.int (x &&& y) :: St))) : GoK p e below D T (mkF m pc Ls (.int y :: .int x :: St)) := by
  subst hp
  exact GoK.by (fun t k => XS.iand X.at hx rfl hd rfl k) G
theorem go_ior (X : OnK p l e R s m args below meth c n0 T h cells slots) (hx : p.tables.exec = Jvm.exec) {x y : Int32} (hd : decode c.code pc = .ok (.ior, 1)) (hp : pc + 1 = pc') (G : GoK p e below D T (mkF m pc' Ls (.int (x ||| y) :: St))) : GoK p e below D T (mkF m pc Ls (.int y :: .int x :: St)) := by
  subst hp
  exact GoK.by (fun t k => XS.ior X.at hx rfl hd rfl k) G
theorem go_ixor (X : OnK p l e R s m args below meth c n0 T h cells slots) (hx : p.tables.exec = Jvm.exec) {x y : Int32} (hd : decode c.code pc = .ok (.ixor, 1)) (hp : pc + 1 = pc') (G : GoK p e below D T (mkF m pc' Ls (.int (x ^^^ y) :: St))) : GoK p e below D T (mkF m pc Ls (.int y :: .int x :: St)) := by
  subst hp
  exact GoK.by (fun t k => XS.ixor X.at hx rfl hd rfl k) G
theorem go_ishl (X : OnK p l e R s m args below meth c n0 T h cells slots) (hx : p.tables.exec = Jvm.exec) {x y : Int32} (hd : decode c.code pc = .ok (.ishl, 1)) (hp : pc + 1 = pc') (G : GoK p e below D T (mkF m pc' Ls (.int (x <<< (y &&& 31)) :: St))) : GoK p e below D T (mkF m pc Ls (.int y :: .int x :: St)) := by
  subst hp
  exact GoK.by (fun t k => XS.ishl X.at hx rfl hd rfl k) G
theorem go_ishr (X : OnK p l e R s m args below meth c n0 T h cells slots) (hx : p.tables.exec = Jvm.exec) {x y : Int32} (hd : decode c.code pc = .ok (.ishr, 1)) (hp : pc + 1 = pc') (G : GoK p e below D T (mkF m pc' Ls (.int (x >>> (y &&& 31)) :: St))) : GoK p e below D T (mkF m pc Ls (.int y :: .int x :: St)) := by
  subst hp
  exact GoK.by (fun t k => XS.ishr X.at hx rfl hd rfl k) G
theorem go_iushr (X : OnK p l e R s m args below meth c n0 T h cells slots) (hx : p.tables.exec = Jvm.exec) {x y : Int32} (hd : decode c.code pc = .ok (.iushr, 1)) (hp : pc + 1 = pc') (G : GoK p e below D T (mkF m pc' Ls (.int ((x.toUInt32 >>> (y &&& 31).toUInt32).toInt32) :: St))) : GoK p e below D T (mkF m pc Ls (.int y :: .int x :: St)) := by
  subst hp
  exact GoK.by (fun t k => XS.iushr X.at hx rfl hd rfl k) G
theorem go_ladd (X : OnK p l e R s m args below meth c n0 T h cells slots) (hx : p.tables.exec = Jvm.exec) {x y : Int64} (hd : decode c.code pc = .ok (.ladd, 1)) (hp : pc + 1 = pc') (G : GoK p e below D T (mkF m pc' Ls (.long (x + y) :: St))) : GoK p e below D T (mkF m pc Ls (.long y :: .long x :: St)) := by
  subst hp
  exact GoK.by (fun t k => XS.ladd X.at hx rfl hd rfl k) G
theorem go_lsub (X : OnK p l e R s m args below meth c n0 T h cells slots) (hx : p.tables.exec = Jvm.exec) {x y : Int64} (hd : decode c.code pc = .ok (.lsub, 1)) (hp : pc + 1 = pc') (G : GoK p e below D T (mkF m pc' Ls (.long (x - y) :: St))) : GoK p e below D T (mkF m pc Ls (.long y :: .long x :: St)) := by
  subst hp
  exact GoK.by (fun t k => XS.lsub X.at hx rfl hd rfl k) G
theorem go_lmul (X : OnK p l e R s m args below meth c n0 T h cells slots) (hx : p.tables.exec = Jvm.exec) {x y : Int64} (hd : decode c.code pc = .ok (.lmul, 1)) (hp : pc + 1 = pc') (G : GoK p e below D T (mkF m pc' Ls (.long (x * y) :: St))) : GoK p e below D T (mkF m pc Ls (.long y :: .long x :: St)) := by
  subst hp
  exact GoK.by (fun t k => XS.lmul X.at hx rfl hd rfl k) G
theorem go_land (X : OnK p l e R s m args below meth c n0 T h cells slots) (hx : p.tables.exec = Jvm.exec) {x y : Int64} (hd : decode c.code pc = .ok (.land, 1)) (hp : pc + 1 = pc') (G : GoK p e below D T (mkF m pc' Ls (.long (x &&& y) :: St))) : GoK p e below D T (mkF m pc Ls (.long y :: .long x :: St)) := by
  subst hp
  exact GoK.by (fun t k => XS.land X.at hx rfl hd rfl k) G
theorem go_lor (X : OnK p l e R s m args below meth c n0 T h cells slots) (hx : p.tables.exec = Jvm.exec) {x y : Int64} (hd : decode c.code pc = .ok (.lor, 1)) (hp : pc + 1 = pc') (G : GoK p e below D T (mkF m pc' Ls (.long (x ||| y) :: St))) : GoK p e below D T (mkF m pc Ls (.long y :: .long x :: St)) := by
  subst hp
  exact GoK.by (fun t k => XS.lor X.at hx rfl hd rfl k) G
theorem go_lxor (X : OnK p l e R s m args below meth c n0 T h cells slots) (hx : p.tables.exec = Jvm.exec) {x y : Int64} (hd : decode c.code pc = .ok (.lxor, 1)) (hp : pc + 1 = pc') (G : GoK p e below D T (mkF m pc' Ls (.long (x ^^^ y) :: St))) : GoK p e below D T (mkF m pc Ls (.long y :: .long x :: St)) := by
  subst hp
  exact GoK.by (fun t k => XS.lxor X.at hx rfl hd rfl k) G
theorem go_lshl (X : OnK p l e R s m args below meth c n0 T h cells slots) (hx : p.tables.exec = Jvm.exec) {x : Int64} {y : Int32} (hd : decode c.code pc = .ok (.lshl, 1)) (hp : pc + 1 = pc') (G : GoK p e below D T (mkF m pc' Ls (.long (x <<< (y &&& 0x3f).toInt64) :: St))) : GoK p e below D T (mkF m pc Ls (.int y :: .long x :: St)) := by
  subst hp
  exact GoK.by (fun t k => XS.lshl X.at hx rfl hd rfl k) G
theorem go_lshr (X : OnK p l e R s m args below meth c n0 T h cells slots) (hx : p.tables.exec = Jvm.exec) {x : Int64} {y : Int32} (hd : decode c.code pc = .ok (.lshr, 1)) (hp : pc + 1 = pc') (G : GoK p e below D T (mkF m pc' Ls (.long (x >>> (y &&& 0x3f).toInt64) :: St))) : GoK p e below D T (mkF m pc Ls (.int y :: .long x :: St)) := by
  subst hp
  exact GoK.by (fun t k => XS.lshr X.at hx rfl hd rfl k) G
theorem go_lushr (X : OnK p l e R s m args below meth c n0 T h cells slots) (hx : p.tables.exec = Jvm.exec) {x : Int64} {y : Int32} (hd : decode c.code pc = .ok (.lushr, 1)) (hp : pc + 1 = pc') (G : GoK p e below D T (mkF m pc' Ls (.long ((x.toUInt64 >>> (y &&& 0x3f).toInt64.toUInt64).toInt64) :: St))) : GoK p e below D T (mkF m pc Ls (.int y :: .long x :: St)) := by
  subst hp
  exact GoK.by (fun t k => XS.lushr X.at hx rfl hd rfl k) G
theorem go_idiv (X : OnK p l e R s m args below meth c n0 T h cells slots) (hx : p.tables.exec = Jvm.exec) {x y : Int32} (hd : decode c.code pc = .ok (.idiv, 1)) (hp : pc + 1 = pc') (hy : y ≠ 0) (G : GoK p e below D T (mkF m pc' Ls (.int (x / y) :: St))) : GoK p e below D T (mkF m pc Ls (.int y :: .int x :: St)) := by
  subst hp
  exact GoK.by (fun t k => XS.idiv X.at hx rfl hd rfl hy k) G
theorem go_ldiv (X : OnK p l e R s m args below meth c n0 T h cells slots) (hx : p.tables.exec = Jvm.exec) {x y : Int64} (hd : decode c.code pc = .ok (.ldiv, 1)) (hp : pc + 1 = pc') (hy : y ≠ 0) (G : GoK p e below D T (mkF m pc' Ls (.long (x / y) :: St))) : GoK p e below D T (mkF m pc Ls (.long y :: .long x :: St)) := by
  subst hp
  exact GoK.by (fun t k => XS.ldiv X.at hx rfl hd rfl hy k) G
theorem go_irem (X : OnK p l e R s m args below meth c n0 T h cells slots) (hx : p.tables.exec = Jvm.exec) {x y : Int32} (hd : decode c.code pc = .ok (.irem, 1)) (hp : pc + 1 = pc') (hy : y ≠ 0) (G : GoK p e below D T (mkF m pc' Ls (.int (x % y) :: St))) : GoK p e below D T (mkF m pc Ls (.int y :: .int x :: St)) := by
  subst hp
  obtain ⟨_, Y, -, -⟩ := X
  exact GoK.by (fun t k => iremM Y hx rfl hd rfl hy k) G
theorem go_lrem (X : OnK p l e R s m args below meth c n0 T h cells slots) (hx : p.tables.exec = Jvm.exec) {x y : Int64} (hd : decode c.code pc = .ok (.lrem, 1)) (hp : pc + 1 = pc') (hy : y ≠ 0) (G : GoK p e below D T (mkF m pc' Ls (.long (x % y) :: St))) : GoK p e below D T (mkF m pc Ls (.long y :: .long x :: St)) := by
  subst hp
  rw [← lrem_mod] at G
  exact GoK.by (fun t k => XS.lrem X.at hx rfl hd rfl hy k) G
theorem go_ineg (X : OnK p l e R s m args below meth c n0 T h cells slots) (hx : p.tables.exec = Jvm.exec) {x : Int32} (hd : decode c.code pc = .ok (.ineg, 1)) (hp : pc + 1 = pc') (G : GoK p e below D T (mkF m pc' Ls (.int (-x) :: St))) : GoK p e below D T (mkF m pc Ls (.int x :: St)) := by
  subst hp
  exact GoK.by (fun t k => XS.ineg X.at hx rfl hd rfl k) G
theorem go_lneg (X : OnK p l e R s m args below meth c n0 T h cells slots) (hx : p.tables.exec = Jvm.exec) {x : Int64} (hd : decode c.code pc = .ok (.lneg, 1)) (hp : pc + 1 = pc') (G : GoK p e below D T (mkF m pc' Ls (.long (-x) :: St))) : GoK p e below D T (mkF m pc Ls (.long x :: St)) := by
  subst hp
  exact GoK.by (fun t k => XS.lneg X.at hx rfl hd rfl k) G
theorem go_i2l (X : OnK p l e R s m args below meth c n0 T h cells slots) (hx : p.tables.exec = Jvm.exec) {x : Int32} (hd : decode c.code pc = .ok (.i2l, 1)) (hp : pc + 1 = pc') (G : GoK p e below D T (mkF m pc' Ls (.long (x.toInt64) :: St))) : GoK p e below D T (mkF m pc Ls (.int x :: St)) := by
  subst hp
  exact GoK.by (fun t k => XS.i2l X.at hx rfl hd rfl k) G
theorem go_l2i (X : OnK p l e R s m args below meth c n0 T h cells slots) (hx : p.tables.exec = Jvm.exec) {x : Int64} (hd : decode c.code pc = .ok (.l2i, 1)) (hp : pc + 1 = pc') (G : GoK p e below D T (mkF m pc' Ls (.int (x.toInt32) :: St))) : GoK p e below D T (mkF m pc Ls (.long x :: St)) := by
  subst hp
  exact GoK.by (fun t k => XS.l2i X.at hx rfl hd rfl k) G
theorem go_i2b (X : OnK p l e R s m args below meth c n0 T h cells slots) (hx : p.tables.exec = Jvm.exec) {x : Int32} (hd : decode c.code pc = .ok (.i2b, 1)) (hp : pc + 1 = pc') (G : GoK p e below D T (mkF m pc' Ls (.int (x.toInt8.toInt32) :: St))) : GoK p e below D T (mkF m pc Ls (.int x :: St)) := by
  subst hp
  exact GoK.by (fun t k => XS.i2b X.at hx rfl hd rfl k) G
theorem go_i2s (X : OnK p l e R s m args below meth c n0 T h cells slots) (hx : p.tables.exec = Jvm.exec) {x : Int32} (hd : decode c.code pc = .ok (.i2s, 1)) (hp : pc + 1 = pc') (G : GoK p e below D T (mkF m pc' Ls (.int (x.toInt16.toInt32) :: St))) : GoK p e below D T (mkF m pc Ls (.int x :: St)) := by
  subst hp
  exact GoK.by (fun t k => XS.i2s X.at hx rfl hd rfl k) G
theorem go_i2c (X : OnK p l e R s m args below meth c n0 T h cells slots) (hx : p.tables.exec = Jvm.exec) {x : Int32} (hd : decode c.code pc = .ok (.i2c, 1)) (hp : pc + 1 = pc') (G : GoK p e below D T (mkF m pc' Ls (.int (x.toUInt32.toUInt16.toUInt32.toInt32) :: St))) : GoK p e below D T (mkF m pc Ls (.int x :: St)) := by
  subst hp
  exact GoK.by (fun t k => XS.i2c X.at hx rfl hd rfl k) G
theorem go_dup (X : OnK p l e R s m args below meth c n0 T h cells slots) (hx : p.tables.exec = Jvm.exec) {v : Value} (hd : decode c.code pc = .ok (.dup, 1)) (hp : pc + 1 = pc') (hv : v.category = 1) (G : GoK p e below D T (mkF m pc' Ls (v :: v :: St))) : GoK p e below D T (mkF m pc Ls (v :: St)) := by
  subst hp
  exact GoK.by (fun t k => XS.dup X.at hx rfl hd rfl hv k) G
theorem go_pop (X : OnK p l e R s m args below meth c n0 T h cells slots) (hx : p.tables.exec = Jvm.exec) {v : Value} (hd : decode c.code pc = .ok (.pop, 1)) (hp : pc + 1 = pc') (hv : v.category = 1) (G : GoK p e below D T (mkF m pc' Ls St)) : GoK p e below D T (mkF m pc Ls (v :: St)) := by
  subst hp
  exact GoK.by (fun t k => XS.pop X.at hx rfl hd rfl hv k) G
theorem go_iload (X : OnK p l e R s m args below meth c n0 T h cells slots) (hx : p.tables.exec = Jvm.exec) {k : Nat} {v : Int32} (hd : decode c.code pc = .ok (.iload k, 2)) (hp : pc + 2 = pc') (hl : Ls[k]? = some (.val (.int v))) (G : GoK p e below D T (mkF m pc' Ls (.int v :: St))) : GoK p e below D T (mkF m pc Ls St) := by
  subst hp
  exact GoK.by (fun t k => XS.iload X.at hx rfl hd hl k) G
theorem go_lload (X : OnK p l e R s m args below meth c n0 T h cells slots) (hx : p.tables.exec = Jvm.exec) {k : Nat} {v : Int64} (hd : decode c.code pc = .ok (.lload k, 2)) (hp : pc + 2 = pc') (hl : Ls[k]? = some (.val (.long v))) (G : GoK p e below D T (mkF m pc' Ls (.long v :: St))) : GoK p e below D T (mkF m pc Ls St) := by
  subst hp
  exact GoK.by (fun t k => XS.lload X.at hx rfl hd hl k) G
theorem go_aload (X : OnK p l e R s m args below meth c n0 T h cells slots) (hx : p.tables.exec = Jvm.exec) {k : Nat} {v : Addr} (hd : decode c.code pc = .ok (.aload k, 2)) (hp : pc + 2 = pc') (hl : Ls[k]? = some (.val (.ref v))) (G : GoK p e below D T (mkF m pc' Ls (.ref v :: St))) : GoK p e below D T (mkF m pc Ls St) := by
  subst hp
  exact GoK.by (fun t k => XS.aload X.at hx rfl hd hl rfl k) G
theorem go_istore (X : OnK p l e R s m args below meth c n0 T h cells slots) (hx : p.tables.exec = Jvm.exec) {k : Nat} {v : Int32} {L' : Array Slot} (hd : decode c.code pc = .ok (.istore k, 2)) (hp : pc + 2 = pc') (hl : storeLocals Ls k (.int v) = some L') (G : GoK p e below D T (mkF m pc' L' St)) : GoK p e below D T (mkF m pc Ls (.int v :: St)) := by
  subst hp
  exact GoK.by (fun t k => XS.istore X.at hx rfl hd rfl hl k) G
theorem go_lstore (X : OnK p l e R s m args below meth c n0 T h cells slots) (hx : p.tables.exec = Jvm.exec) {k : Nat} {v : Int64} {L' : Array Slot} (hd : decode c.code pc = .ok (.lstore k, 2)) (hp : pc + 2 = pc') (hl : storeLocals Ls k (.long v) = some L') (G : GoK p e below D T (mkF m pc' L' St)) : GoK p e below D T (mkF m pc Ls (.long v :: St)) := by
  subst hp
  exact GoK.by (fun t k => XS.lstore X.at hx rfl hd rfl hl k) G
theorem go_astore (X : OnK p l e R s m args below meth c n0 T h cells slots) (hx : p.tables.exec = Jvm.exec) {k : Nat} {v : Addr} {L' : Array Slot} (hd : decode c.code pc = .ok (.astore k, 2)) (hp : pc + 2 = pc') (hl : storeLocals Ls k (.ref v) = some L') (G : GoK p e below D T (mkF m pc' L' St)) : GoK p e below D T (mkF m pc Ls (.ref v :: St)) := by
  subst hp
  exact GoK.by (fun t k => XS.astore X.at hx rfl hd rfl rfl hl k) G
theorem go_iloadN (X : OnK p l e R s m args below meth c n0 T h cells slots) (hx : p.tables.exec = Jvm.exec) {k : Fin 4} {v : Int32} (hd : decode c.code pc = .ok (.iload_n k, 1)) (hp : pc + 1 = pc') (hl : Ls[k.val]? = some (.val (.int v))) (G : GoK p e below D T (mkF m pc' Ls (.int v :: St))) : GoK p e below D T (mkF m pc Ls St) := by
  subst hp
  exact GoK.by (fun t k => XS.iloadN X.at hx rfl hd hl k) G
theorem go_lloadN (X : OnK p l e R s m args below meth c n0 T h cells slots) (hx : p.tables.exec = Jvm.exec) {k : Fin 4} {v : Int64} (hd : decode c.code pc = .ok (.lload_n k, 1)) (hp : pc + 1 = pc') (hl : Ls[k.val]? = some (.val (.long v))) (G : GoK p e below D T (mkF m pc' Ls (.long v :: St))) : GoK p e below D T (mkF m pc Ls St) := by
  subst hp
  exact GoK.by (fun t k => XS.lloadN X.at hx rfl hd hl k) G
theorem go_aloadN (X : OnK p l e R s m args below meth c n0 T h cells slots) (hx : p.tables.exec = Jvm.exec) {k : Fin 4} {v : Addr} (hd : decode c.code pc = .ok (.aload_n k, 1)) (hp : pc + 1 = pc') (hl : Ls[k.val]? = some (.val (.ref v))) (G : GoK p e below D T (mkF m pc' Ls (.ref v :: St))) : GoK p e below D T (mkF m pc Ls St) := by
  subst hp
  exact GoK.by (fun t k => XS.aloadN X.at hx rfl hd hl rfl k) G
theorem go_istoreN (X : OnK p l e R s m args below meth c n0 T h cells slots) (hx : p.tables.exec = Jvm.exec) {k : Fin 4} {v : Int32} {L' : Array Slot} (hd : decode c.code pc = .ok (.istore_n k, 1)) (hp : pc + 1 = pc') (hl : storeLocals Ls k.val (.int v) = some L') (G : GoK p e below D T (mkF m pc' L' St)) : GoK p e below D T (mkF m pc Ls (.int v :: St)) := by
  subst hp
  exact GoK.by (fun t k => XS.istoreN X.at hx rfl hd rfl hl k) G
theorem go_lstoreN (X : OnK p l e R s m args below meth c n0 T h cells slots) (hx : p.tables.exec = Jvm.exec) {k : Fin 4} {v : Int64} {L' : Array Slot} (hd : decode c.code pc = .ok (.lstore_n k, 1)) (hp : pc + 1 = pc') (hl : storeLocals Ls k.val (.long v) = some L') (G : GoK p e below D T (mkF m pc' L' St)) : GoK p e below D T (mkF m pc Ls (.long v :: St)) := by
  subst hp
  exact GoK.by (fun t k => XS.lstoreN X.at hx rfl hd rfl hl k) G
theorem go_astoreN (X : OnK p l e R s m args below meth c n0 T h cells slots) (hx : p.tables.exec = Jvm.exec) {k : Fin 4} {v : Addr} {L' : Array Slot} (hd : decode c.code pc = .ok (.astore_n k, 1)) (hp : pc + 1 = pc') (hl : storeLocals Ls k.val (.ref v) = some L') (G : GoK p e below D T (mkF m pc' L' St)) : GoK p e below D T (mkF m pc Ls (.ref v :: St)) := by
  subst hp
  exact GoK.by (fun t k => XS.astoreN X.at hx rfl hd rfl rfl hl k) G
theorem go_iinc (X : OnK p l e R s m args below meth c n0 T h cells slots) (hx : p.tables.exec = Jvm.exec) {k : Nat} {i : Int} {v w : Int32} {L' : Array Slot} (hd : decode c.code pc = .ok (.iinc k i, 3)) (hp : pc + 3 = pc') (hl : Ls[k]? = some (.val (.int v))) (hi : v + Int32.ofInt i = w) (hs : storeLocals Ls k (.int w) = some L') (G : GoK p e below D T (mkF m pc' L' St)) : GoK p e below D T (mkF m pc Ls St) := by
  subst hp
  exact GoK.by (fun t k => XS.iinc X.at hx rfl hd hl (hi.symm ▸ hs) k) G
theorem go_iconst (X : OnK p l e R s m args below meth c n0 T h cells slots) (hx : p.tables.exec = Jvm.exec) {i : Int} {v : Int32} (hd : decode c.code pc = .ok (.iconst i, 1)) (hp : pc + 1 = pc') (hv : Int32.ofInt i = v) (G : GoK p e below D T (mkF m pc' Ls (.int v :: St))) : GoK p e below D T (mkF m pc Ls St) := by
  subst hp
  exact GoK.by (fun t k => Jvm.Free.XT.iconstV X.at hx rfl v hd hv k) G
theorem go_bipush (X : OnK p l e R s m args below meth c n0 T h cells slots) (hx : p.tables.exec = Jvm.exec) {i : Int} {v : Int32} (hd : decode c.code pc = .ok (.bipush i, 2)) (hp : pc + 2 = pc') (hv : (Int8.ofInt i).toInt32 = v) (G : GoK p e below D T (mkF m pc' Ls (.int v :: St))) : GoK p e below D T (mkF m pc Ls St) := by
  subst hp
  exact GoK.by (fun t k => Jvm.Free.XT.bipushV X.at hx rfl v hd hv k) G
theorem go_sipush (X : OnK p l e R s m args below meth c n0 T h cells slots) (hx : p.tables.exec = Jvm.exec) {i : Int} {v : Int32} (hd : decode c.code pc = .ok (.sipush i, 3)) (hp : pc + 3 = pc') (hv : (Int16.ofInt i).toInt32 = v) (G : GoK p e below D T (mkF m pc' Ls (.int v :: St))) : GoK p e below D T (mkF m pc Ls St) := by
  subst hp
  exact GoK.by (fun t k => Jvm.Free.XT.sipushV X.at hx rfl v hd hv k) G
theorem go_lconst (X : OnK p l e R s m args below meth c n0 T h cells slots) (hx : p.tables.exec = Jvm.exec) {i : Fin 2} {v : Int64} (hd : decode c.code pc = .ok (.lconst i, 1)) (hp : pc + 1 = pc') (hv : Int64.ofNat i = v) (G : GoK p e below D T (mkF m pc' Ls (.long v :: St))) : GoK p e below D T (mkF m pc Ls St) := by
  subst hp
  exact GoK.by (fun t k => Jvm.Free.XT.lconstV X.at hx rfl v hd hv k) G
theorem go_goto (X : OnK p l e R s m args below meth c n0 T h cells slots) (hx : p.tables.exec = Jvm.exec) {o : Int} (hd : decode c.code pc = .ok (.goto o, 3)) (ho : 0 ≤ (pc : Int) + o) (hp : ((pc : Int) + o).toNat = pc') (G : GoK p e below D T (mkF m pc' Ls St)) : GoK p e below D T (mkF m pc Ls St) :=
  GoK.by (fun t k => XS.goto X.at hx rfl rfl hd ho hp k) G
theorem go_dup2 (X : OnK p l e R s m args below meth c n0 T h cells slots) (hx : p.tables.exec = Jvm.exec) {j : Int32} {a : Addr} (hd : decode c.code pc = .ok (.dup2, 1)) (hp : pc + 1 = pc') (G : GoK p e below D T (mkF m pc' Ls (.int j :: .ref a :: .int j :: .ref a :: St))) : GoK p e below D T (mkF m pc Ls (.int j :: .ref a :: St)) := by
  subst hp
  refine GoK.by (fun t k => ?_) G
  jvm_step X.at [X.at.top, hx, hd, Value.category]
  exact k
theorem go_ldcI (X : OnK p l e R s m args below meth c n0 T h cells slots) (hx : p.tables.exec = Jvm.exec) (hZ : Z.Warmed39 s.vm) {own : String} {i : Nat} {v : Int32} (hown : s.vm.findClass own = some m.cls) (wd : (Jvm.Cond.constant own i v).before a0 Z = true) (hd : decode c.code pc = .ok (.ldc i, 2)) (hp : pc + 2 = pc') (G : GoK p e below D T (mkF m pc' Ls (.int v :: St))) : GoK p e below D T (mkF m pc Ls St) := by
  subst hp
  obtain ⟨_, Y, -, -⟩ := X
  exact GoK.by (fun t k => Y.ldcInt hx hown (mvT hZ wd) (g := mkF m pc Ls St) rfl hd t k) G
theorem go_ldcwI (X : OnK p l e R s m args below meth c n0 T h cells slots) (hx : p.tables.exec = Jvm.exec) (hZ : Z.Warmed39 s.vm) {own : String} {i : Nat} {v : Int32} (hown : s.vm.findClass own = some m.cls) (wd : (Jvm.Cond.constant own i v).before a0 Z = true) (hd : decode c.code pc = .ok (.ldc_w i, 3)) (hp : pc + 3 = pc') (G : GoK p e below D T (mkF m pc' Ls (.int v :: St))) : GoK p e below D T (mkF m pc Ls St) := by
  subst hp
  obtain ⟨_, Y, -, -⟩ := X
  exact GoK.by (fun t k => Y.ldcwInt hx hown (mvT hZ wd) (g := mkF m pc Ls St) rfl hd t k) G
theorem go_ldc2 (X : OnK p l e R s m args below meth c n0 T h cells slots) (hx : p.tables.exec = Jvm.exec) (hZ : Z.Warmed39 s.vm) {own : String} {i : Nat} {v : Int64} (hown : s.vm.findClass own = some m.cls) (wd : (Jvm.Cond.constantLong own i v).before a0 Z = true) (hd : decode c.code pc = .ok (.ldc2_w i, 3)) (hp : pc + 3 = pc') (G : GoK p e below D T (mkF m pc' Ls (.long v :: St))) : GoK p e below D T (mkF m pc Ls St) := by
  subst hp
  obtain ⟨_, Y, -, -⟩ := X
  exact GoK.by (fun t k => Y.ldc2Long hx hown (mvT hZ wd) (g := mkF m pc Ls St) rfl hd t k) G
theorem go_ifeq (X : OnK p l e R s m args below meth c n0 T h cells slots) (hx : p.tables.exec = Jvm.exec) {x : Int32} {o : Int} {pcT : Nat} (hd : decode c.code pc = .ok (.ifCond .eq o, 3)) (hp : pc + 3 = pc') (ho : 0 ≤ (pc : Int) + o) (ht : ((pc : Int) + o).toNat = pcT) (G1 : x = 0 → GoK p e below D T (mkF m pcT Ls St)) (G2 : ¬ x = 0 → GoK p e below D T (mkF m pc' Ls St)) : GoK p e below D T (mkF m pc Ls (.int x :: St)) := by
  subst hp
  by_cases q : x = 0
  · exact GoK.by (fun t k => XS.ifYes X.at hx rfl rfl hd rfl ((if0 _ _).trans (teq q).1) ho ht k) (G1 q)
  · exact GoK.by (fun t k => XS.ifNo X.at hx rfl hd rfl ((if0 _ _).trans (feq q).1) k) (G2 q)
theorem go_icmpeq (X : OnK p l e R s m args below meth c n0 T h cells slots) (hx : p.tables.exec = Jvm.exec) {x y : Int32} {o : Int} {pcT : Nat} (hd : decode c.code pc = .ok (.if_icmp .eq o, 3)) (hp : pc + 3 = pc') (ho : 0 ≤ (pc : Int) + o) (ht : ((pc : Int) + o).toNat = pcT) (G1 : x = y → GoK p e below D T (mkF m pcT Ls St)) (G2 : ¬ x = y → GoK p e below D T (mkF m pc' Ls St)) : GoK p e below D T (mkF m pc Ls (.int y :: .int x :: St)) := by
  subst hp
  by_cases q : x = y
  · exact GoK.by (fun t k => XS.icmpYes X.at hx rfl rfl hd rfl (teq q).1 ho ht k) (G1 q)
  · exact GoK.by (fun t k => XS.icmpNo X.at hx rfl hd rfl (feq q).1 k) (G2 q)
theorem go_lifeq (X : OnK p l e R s m args below meth c n0 T h cells slots) (hx : p.tables.exec = Jvm.exec) {x y : Int64} {o : Int} {pc1 pcT : Nat} (hd1 : decode c.code pc = .ok (.lcmp, 1)) (hp1 : pc + 1 = pc1) (hd : decode c.code pc1 = .ok (.ifCond .eq o, 3)) (hp : pc1 + 3 = pc') (ho : 0 ≤ (pc1 : Int) + o) (ht : ((pc1 : Int) + o).toNat = pcT) (G1 : x = y → GoK p e below D T (mkF m pcT Ls St)) (G2 : ¬ x = y → GoK p e below D T (mkF m pc' Ls St)) : GoK p e below D T (mkF m pc Ls (.long y :: .long x :: St)) := by
  subst hp1
  refine GoK.by (fun t k => XS.lcmp X.at hx rfl hd1 rfl k) ?_
  exact go_ifeq X hx hd hp ho ht (fun q => G1 ((lw_eq x y).mp q)) (fun q => G2 ((not_congr (lw_eq x y)).mp q))
theorem go_ifne (X : OnK p l e R s m args below meth c n0 T h cells slots) (hx : p.tables.exec = Jvm.exec) {x : Int32} {o : Int} {pcT : Nat} (hd : decode c.code pc = .ok (.ifCond .ne o, 3)) (hp : pc + 3 = pc') (ho : 0 ≤ (pc : Int) + o) (ht : ((pc : Int) + o).toNat = pcT) (G1 : ¬ x = 0 → GoK p e below D T (mkF m pcT Ls St)) (G2 : x = 0 → GoK p e below D T (mkF m pc' Ls St)) : GoK p e below D T (mkF m pc Ls (.int x :: St)) := by
  subst hp
  by_cases q : ¬ x = 0
  · exact GoK.by (fun t k => XS.ifYes X.at hx rfl rfl hd rfl ((if0 _ _).trans (feq q).2) ho ht k) (G1 q)
  · exact GoK.by (fun t k => XS.ifNo X.at hx rfl hd rfl ((if0 _ _).trans (teq (Classical.not_not.mp q)).2) k) (G2 (Classical.not_not.mp q))
theorem go_icmpne (X : OnK p l e R s m args below meth c n0 T h cells slots) (hx : p.tables.exec = Jvm.exec) {x y : Int32} {o : Int} {pcT : Nat} (hd : decode c.code pc = .ok (.if_icmp .ne o, 3)) (hp : pc + 3 = pc') (ho : 0 ≤ (pc : Int) + o) (ht : ((pc : Int) + o).toNat = pcT) (G1 : ¬ x = y → GoK p e below D T (mkF m pcT Ls St)) (G2 : x = y → GoK p e below D T (mkF m pc' Ls St)) : GoK p e below D T (mkF m pc Ls (.int y :: .int x :: St)) := by
  subst hp
  by_cases q : ¬ x = y
  · exact GoK.by (fun t k => XS.icmpYes X.at hx rfl rfl hd rfl (feq q).2 ho ht k) (G1 q)
  · exact GoK.by (fun t k => XS.icmpNo X.at hx rfl hd rfl (teq (Classical.not_not.mp q)).2 k) (G2 (Classical.not_not.mp q))
theorem go_lifne (X : OnK p l e R s m args below meth c n0 T h cells slots) (hx : p.tables.exec = Jvm.exec) {x y : Int64} {o : Int} {pc1 pcT : Nat} (hd1 : decode c.code pc = .ok (.lcmp, 1)) (hp1 : pc + 1 = pc1) (hd : decode c.code pc1 = .ok (.ifCond .ne o, 3)) (hp : pc1 + 3 = pc') (ho : 0 ≤ (pc1 : Int) + o) (ht : ((pc1 : Int) + o).toNat = pcT) (G1 : ¬ x = y → GoK p e below D T (mkF m pcT Ls St)) (G2 : x = y → GoK p e below D T (mkF m pc' Ls St)) : GoK p e below D T (mkF m pc Ls (.long y :: .long x :: St)) := by
  subst hp1
  refine GoK.by (fun t k => XS.lcmp X.at hx rfl hd1 rfl k) ?_
  exact go_ifne X hx hd hp ho ht (fun q => G1 ((not_congr (lw_eq x y)).mp q)) (fun q => G2 ((lw_eq x y).mp q))
theorem go_iflt (X : OnK p l e R s m args below meth c n0 T h cells slots) (hx : p.tables.exec = Jvm.exec) {x : Int32} {o : Int} {pcT : Nat} (hd : decode c.code pc = .ok (.ifCond .lt o, 3)) (hp : pc + 3 = pc') (ho : 0 ≤ (pc : Int) + o) (ht : ((pc : Int) + o).toNat = pcT) (G1 : x < 0 → GoK p e below D T (mkF m pcT Ls St)) (G2 : ¬ x < 0 → GoK p e below D T (mkF m pc' Ls St)) : GoK p e below D T (mkF m pc Ls (.int x :: St)) := by
  subst hp
  by_cases q : x < 0
  · exact GoK.by (fun t k => XS.ifYes X.at hx rfl rfl hd rfl ((if0 _ _).trans (tlt q).1) ho ht k) (G1 q)
  · exact GoK.by (fun t k => XS.ifNo X.at hx rfl hd rfl ((if0 _ _).trans (flt q).1) k) (G2 q)
theorem go_icmplt (X : OnK p l e R s m args below meth c n0 T h cells slots) (hx : p.tables.exec = Jvm.exec) {x y : Int32} {o : Int} {pcT : Nat} (hd : decode c.code pc = .ok (.if_icmp .lt o, 3)) (hp : pc + 3 = pc') (ho : 0 ≤ (pc : Int) + o) (ht : ((pc : Int) + o).toNat = pcT) (G1 : x < y → GoK p e below D T (mkF m pcT Ls St)) (G2 : ¬ x < y → GoK p e below D T (mkF m pc' Ls St)) : GoK p e below D T (mkF m pc Ls (.int y :: .int x :: St)) := by
  subst hp
  by_cases q : x < y
  · exact GoK.by (fun t k => XS.icmpYes X.at hx rfl rfl hd rfl (tlt q).1 ho ht k) (G1 q)
  · exact GoK.by (fun t k => XS.icmpNo X.at hx rfl hd rfl (flt q).1 k) (G2 q)
theorem go_liflt (X : OnK p l e R s m args below meth c n0 T h cells slots) (hx : p.tables.exec = Jvm.exec) {x y : Int64} {o : Int} {pc1 pcT : Nat} (hd1 : decode c.code pc = .ok (.lcmp, 1)) (hp1 : pc + 1 = pc1) (hd : decode c.code pc1 = .ok (.ifCond .lt o, 3)) (hp : pc1 + 3 = pc') (ho : 0 ≤ (pc1 : Int) + o) (ht : ((pc1 : Int) + o).toNat = pcT) (G1 : x < y → GoK p e below D T (mkF m pcT Ls St)) (G2 : ¬ x < y → GoK p e below D T (mkF m pc' Ls St)) : GoK p e below D T (mkF m pc Ls (.long y :: .long x :: St)) := by
  subst hp1
  refine GoK.by (fun t k => XS.lcmp X.at hx rfl hd1 rfl k) ?_
  exact go_iflt X hx hd hp ho ht (fun q => G1 ((lw_lt x y).mp q)) (fun q => G2 ((not_congr (lw_lt x y)).mp q))
theorem go_ifge (X : OnK p l e R s m args below meth c n0 T h cells slots) (hx : p.tables.exec = Jvm.exec) {x : Int32} {o : Int} {pcT : Nat} (hd : decode c.code pc = .ok (.ifCond .ge o, 3)) (hp : pc + 3 = pc') (ho : 0 ≤ (pc : Int) + o) (ht : ((pc : Int) + o).toNat = pcT) (G1 : ¬ x < 0 → GoK p e below D T (mkF m pcT Ls St)) (G2 : x < 0 → GoK p e below D T (mkF m pc' Ls St)) : GoK p e below D T (mkF m pc Ls (.int x :: St)) := by
  subst hp
  by_cases q : ¬ x < 0
  · exact GoK.by (fun t k => XS.ifYes X.at hx rfl rfl hd rfl ((if0 _ _).trans (flt q).2.1) ho ht k) (G1 q)
  · exact GoK.by (fun t k => XS.ifNo X.at hx rfl hd rfl ((if0 _ _).trans (tlt (Classical.not_not.mp q)).2.1) k) (G2 (Classical.not_not.mp q))
theorem go_icmpge (X : OnK p l e R s m args below meth c n0 T h cells slots) (hx : p.tables.exec = Jvm.exec) {x y : Int32} {o : Int} {pcT : Nat} (hd : decode c.code pc = .ok (.if_icmp .ge o, 3)) (hp : pc + 3 = pc') (ho : 0 ≤ (pc : Int) + o) (ht : ((pc : Int) + o).toNat = pcT) (G1 : ¬ x < y → GoK p e below D T (mkF m pcT Ls St)) (G2 : x < y → GoK p e below D T (mkF m pc' Ls St)) : GoK p e below D T (mkF m pc Ls (.int y :: .int x :: St)) := by
  subst hp
  by_cases q : ¬ x < y
  · exact GoK.by (fun t k => XS.icmpYes X.at hx rfl rfl hd rfl (flt q).2.1 ho ht k) (G1 q)
  · exact GoK.by (fun t k => XS.icmpNo X.at hx rfl hd rfl (tlt (Classical.not_not.mp q)).2.1 k) (G2 (Classical.not_not.mp q))
theorem go_lifge (X : OnK p l e R s m args below meth c n0 T h cells slots) (hx : p.tables.exec = Jvm.exec) {x y : Int64} {o : Int} {pc1 pcT : Nat} (hd1 : decode c.code pc = .ok (.lcmp, 1)) (hp1 : pc + 1 = pc1) (hd : decode c.code pc1 = .ok (.ifCond .ge o, 3)) (hp : pc1 + 3 = pc') (ho : 0 ≤ (pc1 : Int) + o) (ht : ((pc1 : Int) + o).toNat = pcT) (G1 : ¬ x < y → GoK p e below D T (mkF m pcT Ls St)) (G2 : x < y → GoK p e below D T (mkF m pc' Ls St)) : GoK p e below D T (mkF m pc Ls (.long y :: .long x :: St)) := by
  subst hp1
  refine GoK.by (fun t k => XS.lcmp X.at hx rfl hd1 rfl k) ?_
  exact go_ifge X hx hd hp ho ht (fun q => G1 ((not_congr (lw_lt x y)).mp q)) (fun q => G2 ((lw_lt x y).mp q))
theorem go_ifgt (X : OnK p l e R s m args below meth c n0 T h cells slots) (hx : p.tables.exec = Jvm.exec) {x : Int32} {o : Int} {pcT : Nat} (hd : decode c.code pc = .ok (.ifCond .gt o, 3)) (hp : pc + 3 = pc') (ho : 0 ≤ (pc : Int) + o) (ht : ((pc : Int) + o).toNat = pcT) (G1 : 0 < x → GoK p e below D T (mkF m pcT Ls St)) (G2 : ¬ 0 < x → GoK p e below D T (mkF m pc' Ls St)) : GoK p e below D T (mkF m pc Ls (.int x :: St)) := by
  subst hp
  by_cases q : 0 < x
  · exact GoK.by (fun t k => XS.ifYes X.at hx rfl rfl hd rfl ((if0 _ _).trans (tlt q).2.2.1) ho ht k) (G1 q)
  · exact GoK.by (fun t k => XS.ifNo X.at hx rfl hd rfl ((if0 _ _).trans (flt q).2.2.1) k) (G2 q)
theorem go_icmpgt (X : OnK p l e R s m args below meth c n0 T h cells slots) (hx : p.tables.exec = Jvm.exec) {x y : Int32} {o : Int} {pcT : Nat} (hd : decode c.code pc = .ok (.if_icmp .gt o, 3)) (hp : pc + 3 = pc') (ho : 0 ≤ (pc : Int) + o) (ht : ((pc : Int) + o).toNat = pcT) (G1 : y < x → GoK p e below D T (mkF m pcT Ls St)) (G2 : ¬ y < x → GoK p e below D T (mkF m pc' Ls St)) : GoK p e below D T (mkF m pc Ls (.int y :: .int x :: St)) := by
  subst hp
  by_cases q : y < x
  · exact GoK.by (fun t k => XS.icmpYes X.at hx rfl rfl hd rfl (tlt q).2.2.1 ho ht k) (G1 q)
  · exact GoK.by (fun t k => XS.icmpNo X.at hx rfl hd rfl (flt q).2.2.1 k) (G2 q)
theorem go_lifgt (X : OnK p l e R s m args below meth c n0 T h cells slots) (hx : p.tables.exec = Jvm.exec) {x y : Int64} {o : Int} {pc1 pcT : Nat} (hd1 : decode c.code pc = .ok (.lcmp, 1)) (hp1 : pc + 1 = pc1) (hd : decode c.code pc1 = .ok (.ifCond .gt o, 3)) (hp : pc1 + 3 = pc') (ho : 0 ≤ (pc1 : Int) + o) (ht : ((pc1 : Int) + o).toNat = pcT) (G1 : y < x → GoK p e below D T (mkF m pcT Ls St)) (G2 : ¬ y < x → GoK p e below D T (mkF m pc' Ls St)) : GoK p e below D T (mkF m pc Ls (.long y :: .long x :: St)) := by
  subst hp1
  refine GoK.by (fun t k => XS.lcmp X.at hx rfl hd1 rfl k) ?_
  exact go_ifgt X hx hd hp ho ht (fun q => G1 ((lw_gt x y).mp q)) (fun q => G2 ((not_congr (lw_gt x y)).mp q))
theorem go_ifle (X : OnK p l e R s m args below meth c n0 T h cells slots) (hx : p.tables.exec = Jvm.exec) {x : Int32} {o : Int} {pcT : Nat} (hd : decode c.code pc = .ok (.ifCond .le o, 3)) (hp : pc + 3 = pc') (ho : 0 ≤ (pc : Int) + o) (ht : ((pc : Int) + o).toNat = pcT) (G1 : ¬ 0 < x → GoK p e below D T (mkF m pcT Ls St)) (G2 : 0 < x → GoK p e below D T (mkF m pc' Ls St)) : GoK p e below D T (mkF m pc Ls (.int x :: St)) := by
  subst hp
  by_cases q : ¬ 0 < x
  · exact GoK.by (fun t k => XS.ifYes X.at hx rfl rfl hd rfl ((if0 _ _).trans (flt q).2.2.2) ho ht k) (G1 q)
  · exact GoK.by (fun t k => XS.ifNo X.at hx rfl hd rfl ((if0 _ _).trans (tlt (Classical.not_not.mp q)).2.2.2) k) (G2 (Classical.not_not.mp q))
theorem go_icmple (X : OnK p l e R s m args below meth c n0 T h cells slots) (hx : p.tables.exec = Jvm.exec) {x y : Int32} {o : Int} {pcT : Nat} (hd : decode c.code pc = .ok (.if_icmp .le o, 3)) (hp : pc + 3 = pc') (ho : 0 ≤ (pc : Int) + o) (ht : ((pc : Int) + o).toNat = pcT) (G1 : ¬ y < x → GoK p e below D T (mkF m pcT Ls St)) (G2 : y < x → GoK p e below D T (mkF m pc' Ls St)) : GoK p e below D T (mkF m pc Ls (.int y :: .int x :: St)) := by
  subst hp
  by_cases q : ¬ y < x
  · exact GoK.by (fun t k => XS.icmpYes X.at hx rfl rfl hd rfl (flt q).2.2.2 ho ht k) (G1 q)
  · exact GoK.by (fun t k => XS.icmpNo X.at hx rfl hd rfl (tlt (Classical.not_not.mp q)).2.2.2 k) (G2 (Classical.not_not.mp q))
theorem go_lifle (X : OnK p l e R s m args below meth c n0 T h cells slots) (hx : p.tables.exec = Jvm.exec) {x y : Int64} {o : Int} {pc1 pcT : Nat} (hd1 : decode c.code pc = .ok (.lcmp, 1)) (hp1 : pc + 1 = pc1) (hd : decode c.code pc1 = .ok (.ifCond .le o, 3)) (hp : pc1 + 3 = pc') (ho : 0 ≤ (pc1 : Int) + o) (ht : ((pc1 : Int) + o).toNat = pcT) (G1 : ¬ y < x → GoK p e below D T (mkF m pcT Ls St)) (G2 : y < x → GoK p e below D T (mkF m pc' Ls St)) : GoK p e below D T (mkF m pc Ls (.long y :: .long x :: St)) := by
  subst hp1
  refine GoK.by (fun t k => XS.lcmp X.at hx rfl hd1 rfl k) ?_
  exact go_ifle X hx hd hp ho ht (fun q => G1 ((not_congr (lw_gt x y)).mp q)) (fun q => G2 ((lw_gt x y).mp q))
/-- the array at a: of n places, place i holds the int f i -/
def AIK (Z : State) (h : Heap) (a : Addr) (ty : FieldType) (n : Int) (f : Int → Int32) : Prop := ∃ c : Cell, Arr Z h a c ty ∧ (c.slots.size : Int) = n ∧ n < 2147483648 ∧ ∀ i : Nat, (i : Int) < n → c.slots[i]? = some (.int (f i))
def AJK (Z : State) (h : Heap) (a : Addr) (n : Int) (f : Int → Int64) : Prop := ∃ c : Cell, Arr Z h a c .long ∧ (c.slots.size : Int) = n ∧ n < 2147483648 ∧ ∀ i : Nat, (i : Int) < n → c.slots[i]? = some (.long (f i))
theorem AIK.lt {a : Addr} {ty : FieldType} {n : Int} {f : Int → Int32} (F : AIK Z h a ty n f) : a < h.size := by obtain ⟨c, A, -⟩ := F; exact A.lt
theorem AIK.nn {a : Addr} {ty : FieldType} {n : Int} {f : Int → Int32} (F : AIK Z h a ty n f) : 0 ≤ n ∧ n < 2147483648 := by obtain ⟨c, -, S, q, -⟩ := F; exact ⟨by omega, q⟩
theorem AIK.ext {h' : Heap} {a : Addr} {ty : FieldType} {n : Int} {f : Int → Int32} (F : AIK Z h a ty n f) (E : Ext h h') : AIK Z h' a ty n f := by obtain ⟨c, A, r⟩ := F; exact ⟨c, A.ext E, r⟩
theorem AIK.other {h' : Heap} {a b : Addr} {sl : Nat} {v : Value} {ty : FieldType} {n : Int} {f : Int → Int32} (F : AIK Z h b ty n f) (W : Wr h h' a sl v) (q : b ≠ a) : AIK Z h' b ty n f := by obtain ⟨c, A, r⟩ := F; exact ⟨c, A.other W q, r⟩
theorem AIK.keep {h' : Heap} {a : Addr} {ws : List Addr} {ty : FieldType} {n : Int} {f : Int → Int32} (F : AIK Z h a ty n f) (K : Keep h h' ws) (q : a ∉ ws) : AIK Z h' a ty n f := by obtain ⟨c, A, r⟩ := F; exact ⟨c, ⟨K.2.1 a c A.1 q, A.2⟩, r⟩
theorem AIK.of_arv {a : Addr} {k : ClassId} {ty : FieldType} {z : Int32} {n : Int} {x : Int32} (F : Arv Z h a k ty z [] (.int x)) (q : z.toInt = n) : AIK Z h a ty n (fun _ => x) := by
  obtain ⟨c, A, -, S, M, H, -⟩ := F
  rw [Int32.lt_iff_toInt_lt] at M
  have hz : (0 : Int32).toInt = 0 := rfl
  have hr := rng32 z
  have S' : c.slots.size = z.toInt.toNat := S
  refine ⟨c, A, by omega, by omega, fun i hi => ?_⟩
  exact (H i (by omega)).trans rfl
theorem AIK.set {h' : Heap} {a : Addr} {j : Int32} {ty : FieldType} {n : Int} {f : Int → Int32} {x : Int32} (F : AIK Z h a ty n f) (W : Wr h h' a j.toNatClampNeg (.int x)) (h1 : 0 ≤ j.toInt) (h2 : j.toInt < n) : AIK Z h' a ty n (fun i => if i = j.toInt then x else f i) := by
  obtain ⟨c, A, S, M, H⟩ := F
  have hj : j.toNatClampNeg = j.toInt.toNat := rfl
  refine ⟨_, A.same W, ?_, M, fun i hi => ?_⟩
  · show (((c.slots.setIfInBounds j.toNatClampNeg (Value.int x)).size : Nat) : Int) = n
    rw [Array.size_setIfInBounds]; exact S
  · show (c.slots.setIfInBounds j.toNatClampNeg (Value.int x))[i]? = _
    rw [Array.getElem?_setIfInBounds]
    by_cases q : j.toNatClampNeg = i
    · have hi' : (i : Int) = j.toInt := by omega
      rw [if_pos q, if_pos (by omega)]
      show some (Value.int x) = some (Value.int (if (i : Int) = j.toInt then x else f i))
      rw [if_pos hi']
    · have hi' : ¬ (i : Int) = j.toInt := by omega
      rw [if_neg q]
      show _ = some (Value.int (if (i : Int) = j.toInt then x else f i))
      rw [if_neg hi']; exact H i hi
theorem AIK.get {a : Addr} {j : Int32} {ty : FieldType} {n : Int} {f : Int → Int32} (F : AIK Z h a ty n f) (h1 : 0 ≤ j.toInt) (h2 : j.toInt < n) : ∃ c : Cell, Arr Z h a c ty ∧ ¬ (j < 0 ∨ c.slots.size ≤ j.toNatClampNeg) ∧ c.slots[j.toNatClampNeg]? = some (.int (f j.toInt)) := by
  obtain ⟨c, A, S, M, H⟩ := F
  have hj : j.toNatClampNeg = j.toInt.toNat := rfl
  refine ⟨c, A, ?_, ?_⟩
  · rw [Int32.lt_iff_toInt_lt]
    have hz : (0 : Int32).toInt = 0 := rfl
    omega
  · rw [hj, H j.toInt.toNat (by omega), Int.toNat_of_nonneg h1]
theorem AIK.congr {a : Addr} {ty : FieldType} {n : Int} {f g : Int → Int32} (F : AIK Z h a ty n f) (q : ∀ i : Int, 0 ≤ i → i < n → f i = g i) : AIK Z h a ty n g := by
  obtain ⟨c, A, S, M, H⟩ := F
  exact ⟨c, A, S, M, fun i hi => by rw [H i hi, q i (by omega) hi]⟩
theorem AJK.lt {a : Addr} {n : Int} {f : Int → Int64} (F : AJK Z h a n f) : a < h.size := by obtain ⟨c, A, -⟩ := F; exact A.lt
theorem AJK.nn {a : Addr} {n : Int} {f : Int → Int64} (F : AJK Z h a n f) : 0 ≤ n ∧ n < 2147483648 := by obtain ⟨c, -, S, q, -⟩ := F; exact ⟨by omega, q⟩
theorem AJK.ext {h' : Heap} {a : Addr} {n : Int} {f : Int → Int64} (F : AJK Z h a n f) (E : Ext h h') : AJK Z h' a n f := by obtain ⟨c, A, r⟩ := F; exact ⟨c, A.ext E, r⟩
theorem AJK.other {h' : Heap} {a b : Addr} {sl : Nat} {v : Value} {n : Int} {f : Int → Int64} (F : AJK Z h b n f) (W : Wr h h' a sl v) (q : b ≠ a) : AJK Z h' b n f := by obtain ⟨c, A, r⟩ := F; exact ⟨c, A.other W q, r⟩
theorem AJK.keep {h' : Heap} {a : Addr} {ws : List Addr} {n : Int} {f : Int → Int64} (F : AJK Z h a n f) (K : Keep h h' ws) (q : a ∉ ws) : AJK Z h' a n f := by obtain ⟨c, A, r⟩ := F; exact ⟨c, ⟨K.2.1 a c A.1 q, A.2⟩, r⟩
theorem AJK.of_arv {a : Addr} {k : ClassId} {z : Int32} {n : Int} {x : Int64} (F : Arv Z h a k .long z [] (.long x)) (q : z.toInt = n) : AJK Z h a n (fun _ => x) := by
  obtain ⟨c, A, -, S, M, H, -⟩ := F
  rw [Int32.lt_iff_toInt_lt] at M
  have hz : (0 : Int32).toInt = 0 := rfl
  have hr := rng32 z
  have S' : c.slots.size = z.toInt.toNat := S
  refine ⟨c, A, by omega, by omega, fun i hi => ?_⟩
  exact (H i (by omega)).trans rfl
theorem AJK.set {h' : Heap} {a : Addr} {j : Int32} {n : Int} {f : Int → Int64} {x : Int64} (F : AJK Z h a n f) (W : Wr h h' a j.toNatClampNeg (.long x)) (h1 : 0 ≤ j.toInt) (h2 : j.toInt < n) : AJK Z h' a n (fun i => if i = j.toInt then x else f i) := by
  obtain ⟨c, A, S, M, H⟩ := F
  have hj : j.toNatClampNeg = j.toInt.toNat := rfl
  refine ⟨_, A.same W, ?_, M, fun i hi => ?_⟩
  · show (((c.slots.setIfInBounds j.toNatClampNeg (Value.long x)).size : Nat) : Int) = n
    rw [Array.size_setIfInBounds]; exact S
  · show (c.slots.setIfInBounds j.toNatClampNeg (Value.long x))[i]? = _
    rw [Array.getElem?_setIfInBounds]
    by_cases q : j.toNatClampNeg = i
    · have hi' : (i : Int) = j.toInt := by omega
      rw [if_pos q, if_pos (by omega)]
      show some (Value.long x) = some (Value.long (if (i : Int) = j.toInt then x else f i))
      rw [if_pos hi']
    · have hi' : ¬ (i : Int) = j.toInt := by omega
      rw [if_neg q]
      show _ = some (Value.long (if (i : Int) = j.toInt then x else f i))
      rw [if_neg hi']; exact H i hi
theorem AJK.get {a : Addr} {j : Int32} {n : Int} {f : Int → Int64} (F : AJK Z h a n f) (h1 : 0 ≤ j.toInt) (h2 : j.toInt < n) : ∃ c : Cell, Arr Z h a c .long ∧ ¬ (j < 0 ∨ c.slots.size ≤ j.toNatClampNeg) ∧ c.slots[j.toNatClampNeg]? = some (.long (f j.toInt)) := by
  obtain ⟨c, A, S, M, H⟩ := F
  have hj : j.toNatClampNeg = j.toInt.toNat := rfl
  refine ⟨c, A, ?_, ?_⟩
  · rw [Int32.lt_iff_toInt_lt]
    have hz : (0 : Int32).toInt = 0 := rfl
    omega
  · rw [hj, H j.toInt.toNat (by omega), Int.toNat_of_nonneg h1]
theorem AJK.congr {a : Addr} {n : Int} {f g : Int → Int64} (F : AJK Z h a n f) (q : ∀ i : Int, 0 ≤ i → i < n → f i = g i) : AJK Z h a n g := by
  obtain ⟨c, A, S, M, H⟩ := F
  exact ⟨c, A, S, M, fun i hi => by rw [H i hi, q i (by omega) hi]⟩
theorem go_newI (X : OnK p l e R s m args below meth c n0 T h cells slots) (hx : p.tables.exec = Jvm.exec) (hZ : Z.Warmed39 s.vm) {x : Int32} {cap : Nat} {n : Int} (wd : (Jvm.Cond.arrayClass .int).before a0 Z = true) (hd : decode c.code pc = .ok (.newarray .int, 2)) (hp : pc + 2 = pc') (hn : x.toInt = n) (h1 : 0 ≤ n) (h2 : n ≤ cap) (hb : cap * 8 ≤ 536870912) (hc : cells + 1 ≤ R.cells) (hs : slots + cap ≤ R.slots) (hc' : cells + 1 = cells') (hs' : slots + cap = slots') (G : ∀ (T' : State) (h' : Heap) (a : Addr), a = h.size → OnK p l e R s m args below meth c n0 T' h' cells' slots' → Ext h h' → AIK Z h' a .int n (fun _ => 0) → GoK p e below D T' (mkF m (pc') Ls (.ref a :: St))) : GoK p e below D T (mkF m pc Ls (.int x :: St)) := by
  subst hp hc' hs'
  obtain ⟨_, Y, e0, N⟩ := X
  have hz : (0 : Int32).toInt = 0 := rfl
  have q : ¬ x < 0 := by rw [Int32.lt_iff_toInt_lt]; omega
  obtain ⟨T', h', k, Y', e', E, A, st⟩ := newP Y hx hZ (aty := .int) wd e0 (g := mkF m pc Ls (.int x :: St)) rfl hd rfl q (cap := cap) (by show x.toInt.toNat ≤ cap; omega) hb hc hs
  refine GoK.by st (G T' h' _ rfl ⟨_, Y', e', N⟩ E ?_)
  exact AIK.of_arv (Arv.new A q) hn
theorem go_newB (X : OnK p l e R s m args below meth c n0 T h cells slots) (hx : p.tables.exec = Jvm.exec) (hZ : Z.Warmed39 s.vm) {x : Int32} {cap : Nat} {n : Int} (wd : (Jvm.Cond.arrayClass .byte).before a0 Z = true) (hd : decode c.code pc = .ok (.newarray .byte, 2)) (hp : pc + 2 = pc') (hn : x.toInt = n) (h1 : 0 ≤ n) (h2 : n ≤ cap) (hb : cap * 8 ≤ 536870912) (hc : cells + 1 ≤ R.cells) (hs : slots + cap ≤ R.slots) (hc' : cells + 1 = cells') (hs' : slots + cap = slots') (G : ∀ (T' : State) (h' : Heap) (a : Addr), a = h.size → OnK p l e R s m args below meth c n0 T' h' cells' slots' → Ext h h' → AIK Z h' a .byte n (fun _ => 0) → GoK p e below D T' (mkF m (pc') Ls (.ref a :: St))) : GoK p e below D T (mkF m pc Ls (.int x :: St)) := by
  subst hp hc' hs'
  obtain ⟨_, Y, e0, N⟩ := X
  have hz : (0 : Int32).toInt = 0 := rfl
  have q : ¬ x < 0 := by rw [Int32.lt_iff_toInt_lt]; omega
  obtain ⟨T', h', k, Y', e', E, A, st⟩ := newP Y hx hZ (aty := .byte) wd e0 (g := mkF m pc Ls (.int x :: St)) rfl hd rfl q (cap := cap) (by show x.toInt.toNat ≤ cap; omega) hb hc hs
  refine GoK.by st (G T' h' _ rfl ⟨_, Y', e', N⟩ E ?_)
  exact AIK.of_arv (Arv.new A q) hn
theorem go_newC (X : OnK p l e R s m args below meth c n0 T h cells slots) (hx : p.tables.exec = Jvm.exec) (hZ : Z.Warmed39 s.vm) {x : Int32} {cap : Nat} {n : Int} (wd : (Jvm.Cond.arrayClass .char).before a0 Z = true) (hd : decode c.code pc = .ok (.newarray .char, 2)) (hp : pc + 2 = pc') (hn : x.toInt = n) (h1 : 0 ≤ n) (h2 : n ≤ cap) (hb : cap * 8 ≤ 536870912) (hc : cells + 1 ≤ R.cells) (hs : slots + cap ≤ R.slots) (hc' : cells + 1 = cells') (hs' : slots + cap = slots') (G : ∀ (T' : State) (h' : Heap) (a : Addr), a = h.size → OnK p l e R s m args below meth c n0 T' h' cells' slots' → Ext h h' → AIK Z h' a .char n (fun _ => 0) → GoK p e below D T' (mkF m (pc') Ls (.ref a :: St))) : GoK p e below D T (mkF m pc Ls (.int x :: St)) := by
  subst hp hc' hs'
  obtain ⟨_, Y, e0, N⟩ := X
  have hz : (0 : Int32).toInt = 0 := rfl
  have q : ¬ x < 0 := by rw [Int32.lt_iff_toInt_lt]; omega
  obtain ⟨T', h', k, Y', e', E, A, st⟩ := newP Y hx hZ (aty := .char) wd e0 (g := mkF m pc Ls (.int x :: St)) rfl hd rfl q (cap := cap) (by show x.toInt.toNat ≤ cap; omega) hb hc hs
  refine GoK.by st (G T' h' _ rfl ⟨_, Y', e', N⟩ E ?_)
  exact AIK.of_arv (Arv.new A q) hn
theorem go_newZ (X : OnK p l e R s m args below meth c n0 T h cells slots) (hx : p.tables.exec = Jvm.exec) (hZ : Z.Warmed39 s.vm) {x : Int32} {cap : Nat} {n : Int} (wd : (Jvm.Cond.arrayClass .boolean).before a0 Z = true) (hd : decode c.code pc = .ok (.newarray .boolean, 2)) (hp : pc + 2 = pc') (hn : x.toInt = n) (h1 : 0 ≤ n) (h2 : n ≤ cap) (hb : cap * 8 ≤ 536870912) (hc : cells + 1 ≤ R.cells) (hs : slots + cap ≤ R.slots) (hc' : cells + 1 = cells') (hs' : slots + cap = slots') (G : ∀ (T' : State) (h' : Heap) (a : Addr), a = h.size → OnK p l e R s m args below meth c n0 T' h' cells' slots' → Ext h h' → AIK Z h' a .boolean n (fun _ => 0) → GoK p e below D T' (mkF m (pc') Ls (.ref a :: St))) : GoK p e below D T (mkF m pc Ls (.int x :: St)) := by
  subst hp hc' hs'
  obtain ⟨_, Y, e0, N⟩ := X
  have hz : (0 : Int32).toInt = 0 := rfl
  have q : ¬ x < 0 := by rw [Int32.lt_iff_toInt_lt]; omega
  obtain ⟨T', h', k, Y', e', E, A, st⟩ := newP Y hx hZ (aty := .boolean) wd e0 (g := mkF m pc Ls (.int x :: St)) rfl hd rfl q (cap := cap) (by show x.toInt.toNat ≤ cap; omega) hb hc hs
  refine GoK.by st (G T' h' _ rfl ⟨_, Y', e', N⟩ E ?_)
  exact AIK.of_arv (Arv.new A q) hn
theorem go_newJ (X : OnK p l e R s m args below meth c n0 T h cells slots) (hx : p.tables.exec = Jvm.exec) (hZ : Z.Warmed39 s.vm) {x : Int32} {cap : Nat} {n : Int} (wd : (Jvm.Cond.arrayClass .long).before a0 Z = true) (hd : decode c.code pc = .ok (.newarray .long, 2)) (hp : pc + 2 = pc') (hn : x.toInt = n) (h1 : 0 ≤ n) (h2 : n ≤ cap) (hb : cap * 8 ≤ 536870912) (hc : cells + 1 ≤ R.cells) (hs : slots + cap ≤ R.slots) (hc' : cells + 1 = cells') (hs' : slots + cap = slots') (G : ∀ (T' : State) (h' : Heap) (a : Addr), a = h.size → OnK p l e R s m args below meth c n0 T' h' cells' slots' → Ext h h' → AJK Z h' a n (fun _ => 0) → GoK p e below D T' (mkF m (pc') Ls (.ref a :: St))) : GoK p e below D T (mkF m pc Ls (.int x :: St)) := by
  subst hp hc' hs'
  obtain ⟨_, Y, e0, N⟩ := X
  have hz : (0 : Int32).toInt = 0 := rfl
  have q : ¬ x < 0 := by rw [Int32.lt_iff_toInt_lt]; omega
  obtain ⟨T', h', k, Y', e', E, A, st⟩ := newP Y hx hZ (aty := .long) wd e0 (g := mkF m pc Ls (.int x :: St)) rfl hd rfl q (cap := cap) (by show x.toInt.toNat ≤ cap; omega) hb hc hs
  refine GoK.by st (G T' h' _ rfl ⟨_, Y', e', N⟩ E ?_)
  exact AJK.of_arv (Arv.new A q) hn
theorem go_iastore (X : OnK p l e R s m args below meth c n0 T h cells slots) (hx : p.tables.exec = Jvm.exec) (hZ : Z.Warmed39 s.vm) {x : Int32} {j : Int32} {a : Addr} {n : Int} {f : Int → Int32} (A : AIK Z h a .int n f) (ga : n0 ≤ a) (h1 : 0 ≤ j.toInt) (h2 : j.toInt < n) (hd : decode c.code pc = .ok (.iastore, 1)) (hp : pc + 1 = pc') (G : ∀ (T' : State) (h' : Heap), OnK p l e R s m args below meth c n0 T' h' cells slots → Wr h h' a j.toNatClampNeg (.int (x)) → AIK Z h' a .int n (fun i => if i = j.toInt then x else f i) → GoK p e below D T' (mkF m pc' Ls St)) : GoK p e below D T (mkF m pc Ls (.int x :: .int j :: .ref a :: St)) := by
  subst hp
  obtain ⟨_, Y, e0, N⟩ := X
  obtain ⟨cl, Ar, hin, -⟩ := A.get h1 h2
  obtain ⟨T', h', Y', e', W, st⟩ := stI Y hx hZ e0 Ar (j := j) (x := x) hin (g := mkF m pc Ls (.int x :: .int j :: .ref a :: St)) rfl rfl hd
  exact GoK.by st (G T' h' ⟨_, Y', e', Fr.snoc Y' N ga⟩ W (A.set W h1 h2))
theorem go_castore (X : OnK p l e R s m args below meth c n0 T h cells slots) (hx : p.tables.exec = Jvm.exec) (hZ : Z.Warmed39 s.vm) {x : Int32} {j : Int32} {a : Addr} {n : Int} {f : Int → Int32} (A : AIK Z h a .char n f) (ga : n0 ≤ a) (h1 : 0 ≤ j.toInt) (h2 : j.toInt < n) (hd : decode c.code pc = .ok (.castore, 1)) (hp : pc + 1 = pc') (G : ∀ (T' : State) (h' : Heap), OnK p l e R s m args below meth c n0 T' h' cells slots → Wr h h' a j.toNatClampNeg (.int (nar .char x)) → AIK Z h' a .char n (fun i => if i = j.toInt then nar .char x else f i) → GoK p e below D T' (mkF m pc' Ls St)) : GoK p e below D T (mkF m pc Ls (.int x :: .int j :: .ref a :: St)) := by
  subst hp
  obtain ⟨_, Y, e0, N⟩ := X
  obtain ⟨cl, Ar, hin, -⟩ := A.get h1 h2
  obtain ⟨T', h', Y', e', W, st⟩ := stC Y hx hZ e0 Ar (j := j) (x := x) hin (g := mkF m pc Ls (.int x :: .int j :: .ref a :: St)) rfl rfl hd
  exact GoK.by st (G T' h' ⟨_, Y', e', Fr.snoc Y' N ga⟩ W (A.set W h1 h2))
theorem go_bastoreB (X : OnK p l e R s m args below meth c n0 T h cells slots) (hx : p.tables.exec = Jvm.exec) (hZ : Z.Warmed39 s.vm) {x : Int32} {j : Int32} {a : Addr} {n : Int} {f : Int → Int32} (A : AIK Z h a .byte n f) (ga : n0 ≤ a) (h1 : 0 ≤ j.toInt) (h2 : j.toInt < n) (hd : decode c.code pc = .ok (.bastore, 1)) (hp : pc + 1 = pc') (G : ∀ (T' : State) (h' : Heap), OnK p l e R s m args below meth c n0 T' h' cells slots → Wr h h' a j.toNatClampNeg (.int (nar .byte x)) → AIK Z h' a .byte n (fun i => if i = j.toInt then nar .byte x else f i) → GoK p e below D T' (mkF m pc' Ls St)) : GoK p e below D T (mkF m pc Ls (.int x :: .int j :: .ref a :: St)) := by
  subst hp
  obtain ⟨_, Y, e0, N⟩ := X
  obtain ⟨cl, Ar, hin, -⟩ := A.get h1 h2
  obtain ⟨T', h', Y', e', W, st⟩ := stB Y hx hZ e0 Ar (j := j) (x := x) hin (g := mkF m pc Ls (.int x :: .int j :: .ref a :: St)) rfl rfl hd
  exact GoK.by st (G T' h' ⟨_, Y', e', Fr.snoc Y' N ga⟩ W (A.set W h1 h2))
theorem go_bastoreZ (X : OnK p l e R s m args below meth c n0 T h cells slots) (hx : p.tables.exec = Jvm.exec) (hZ : Z.Warmed39 s.vm) {x : Int32} {j : Int32} {a : Addr} {n : Int} {f : Int → Int32} (A : AIK Z h a .boolean n f) (ga : n0 ≤ a) (h1 : 0 ≤ j.toInt) (h2 : j.toInt < n) (hd : decode c.code pc = .ok (.bastore, 1)) (hp : pc + 1 = pc') (G : ∀ (T' : State) (h' : Heap), OnK p l e R s m args below meth c n0 T' h' cells slots → Wr h h' a j.toNatClampNeg (.int (nar .boolean x)) → AIK Z h' a .boolean n (fun i => if i = j.toInt then nar .boolean x else f i) → GoK p e below D T' (mkF m pc' Ls St)) : GoK p e below D T (mkF m pc Ls (.int x :: .int j :: .ref a :: St)) := by
  subst hp
  obtain ⟨_, Y, e0, N⟩ := X
  obtain ⟨cl, Ar, hin, -⟩ := A.get h1 h2
  obtain ⟨T', h', Y', e', W, st⟩ := stZ Y hx hZ e0 Ar (j := j) (x := x) hin (g := mkF m pc Ls (.int x :: .int j :: .ref a :: St)) rfl rfl hd
  exact GoK.by st (G T' h' ⟨_, Y', e', Fr.snoc Y' N ga⟩ W (A.set W h1 h2))
theorem go_lastore (X : OnK p l e R s m args below meth c n0 T h cells slots) (hx : p.tables.exec = Jvm.exec) (hZ : Z.Warmed39 s.vm) {x : Int64} {j : Int32} {a : Addr} {n : Int} {f : Int → Int64} (A : AJK Z h a n f) (ga : n0 ≤ a) (h1 : 0 ≤ j.toInt) (h2 : j.toInt < n) (hd : decode c.code pc = .ok (.lastore, 1)) (hp : pc + 1 = pc') (G : ∀ (T' : State) (h' : Heap), OnK p l e R s m args below meth c n0 T' h' cells slots → Wr h h' a j.toNatClampNeg (.long (x)) → AJK Z h' a n (fun i => if i = j.toInt then x else f i) → GoK p e below D T' (mkF m pc' Ls St)) : GoK p e below D T (mkF m pc Ls (.long x :: .int j :: .ref a :: St)) := by
  subst hp
  obtain ⟨_, Y, e0, N⟩ := X
  obtain ⟨cl, Ar, hin, -⟩ := A.get h1 h2
  obtain ⟨T', h', Y', e', W, st⟩ := stJ Y hx hZ e0 Ar (j := j) (x := x) hin (g := mkF m pc Ls (.long x :: .int j :: .ref a :: St)) rfl rfl hd
  exact GoK.by st (G T' h' ⟨_, Y', e', Fr.snoc Y' N ga⟩ W (A.set W h1 h2))
theorem go_iaload (X : OnK p l e R s m args below meth c n0 T h cells slots) (hx : p.tables.exec = Jvm.exec) (hZ : Z.Warmed39 s.vm) {j : Int32} {a : Addr} {n : Int} {f : Int → Int32} (A : AIK Z h a .int n f) (h1 : 0 ≤ j.toInt) (h2 : j.toInt < n) (hd : decode c.code pc = .ok (.iaload, 1)) (hp : pc + 1 = pc') (G : ∀ z : Int32, z = f j.toInt → GoK p e below D T (mkF m pc' Ls (.int z :: St))) : GoK p e below D T (mkF m pc Ls (.int j :: .ref a :: St)) := by
  subst hp
  obtain ⟨_, Y, e0, N⟩ := X
  obtain ⟨cl, Ar, hin, hv⟩ := A.get h1 h2
  exact GoK.by (fun t k => Y.iaload hx (j := j) (v := .int (f j.toInt)) (by rw [e0]; exact Ar.1) (State.isArrayOf_alike hZ.alike Ar.2.1) Ar.2.2 hin hv (g := mkF m pc Ls (.int j :: .ref a :: St)) rfl rfl hd t k) (G _ rfl)
theorem go_caload (X : OnK p l e R s m args below meth c n0 T h cells slots) (hx : p.tables.exec = Jvm.exec) (hZ : Z.Warmed39 s.vm) {j : Int32} {a : Addr} {n : Int} {f : Int → Int32} (A : AIK Z h a .char n f) (h1 : 0 ≤ j.toInt) (h2 : j.toInt < n) (hd : decode c.code pc = .ok (.caload, 1)) (hp : pc + 1 = pc') (G : ∀ z : Int32, z = f j.toInt → GoK p e below D T (mkF m pc' Ls (.int z :: St))) : GoK p e below D T (mkF m pc Ls (.int j :: .ref a :: St)) := by
  subst hp
  obtain ⟨_, Y, e0, N⟩ := X
  obtain ⟨cl, Ar, hin, hv⟩ := A.get h1 h2
  exact GoK.by (fun t k => Y.caload hx (j := j) (v := .int (f j.toInt)) (by rw [e0]; exact Ar.1) (State.isArrayOf_alike hZ.alike Ar.2.1) Ar.2.2 hin hv (g := mkF m pc Ls (.int j :: .ref a :: St)) rfl rfl hd t k) (G _ rfl)
theorem go_baloadB (X : OnK p l e R s m args below meth c n0 T h cells slots) (hx : p.tables.exec = Jvm.exec) (hZ : Z.Warmed39 s.vm) {j : Int32} {a : Addr} {n : Int} {f : Int → Int32} (A : AIK Z h a .byte n f) (h1 : 0 ≤ j.toInt) (h2 : j.toInt < n) (hd : decode c.code pc = .ok (.baload, 1)) (hp : pc + 1 = pc') (G : ∀ z : Int32, z = f j.toInt → GoK p e below D T (mkF m pc' Ls (.int z :: St))) : GoK p e below D T (mkF m pc Ls (.int j :: .ref a :: St)) := by
  subst hp
  obtain ⟨_, Y, e0, N⟩ := X
  obtain ⟨cl, Ar, hin, hv⟩ := A.get h1 h2
  exact GoK.by (fun t k => Y.baloadBytes hx (j := j) (v := .int (f j.toInt)) (by rw [e0]; exact Ar.1) (State.isArrayOf_alike hZ.alike Ar.2.1) Ar.2.2 hin hv (g := mkF m pc Ls (.int j :: .ref a :: St)) rfl rfl hd t k) (G _ rfl)
theorem go_baloadZ (X : OnK p l e R s m args below meth c n0 T h cells slots) (hx : p.tables.exec = Jvm.exec) (hZ : Z.Warmed39 s.vm) {j : Int32} {a : Addr} {n : Int} {f : Int → Int32} (A : AIK Z h a .boolean n f) (h1 : 0 ≤ j.toInt) (h2 : j.toInt < n) (hd : decode c.code pc = .ok (.baload, 1)) (hp : pc + 1 = pc') (G : ∀ z : Int32, z = f j.toInt → GoK p e below D T (mkF m pc' Ls (.int z :: St))) : GoK p e below D T (mkF m pc Ls (.int j :: .ref a :: St)) := by
  subst hp
  obtain ⟨_, Y, e0, N⟩ := X
  obtain ⟨cl, Ar, hin, hv⟩ := A.get h1 h2
  exact GoK.by (fun t k => Y.baloadBooleans hx (j := j) (v := .int (f j.toInt)) (by rw [e0]; exact Ar.1) (State.isArrayOf_alike hZ.alike Ar.2.1) Ar.2.2 hin hv (g := mkF m pc Ls (.int j :: .ref a :: St)) rfl rfl hd t k) (G _ rfl)
theorem go_laload (X : OnK p l e R s m args below meth c n0 T h cells slots) (hx : p.tables.exec = Jvm.exec) (hZ : Z.Warmed39 s.vm) {j : Int32} {a : Addr} {n : Int} {f : Int → Int64} (A : AJK Z h a n f) (h1 : 0 ≤ j.toInt) (h2 : j.toInt < n) (hd : decode c.code pc = .ok (.laload, 1)) (hp : pc + 1 = pc') (G : ∀ z : Int64, z = f j.toInt → GoK p e below D T (mkF m pc' Ls (.long z :: St))) : GoK p e below D T (mkF m pc Ls (.int j :: .ref a :: St)) := by
  subst hp
  obtain ⟨_, Y, e0, N⟩ := X
  obtain ⟨cl, Ar, hin, hv⟩ := A.get h1 h2
  exact GoK.by (fun t k => Y.laload hx (j := j) (v := .long (f j.toInt)) (by rw [e0]; exact Ar.1) (State.isArrayOf_alike hZ.alike Ar.2.1) Ar.2.2 hin hv (g := mkF m pc Ls (.int j :: .ref a :: St)) rfl rfl hd t k) (G _ rfl)
theorem own_len {k : Nat} {n : Int} (S : (k : Int) = n) (M : n < 2147483648) : (k.toInt32).toInt = n := by
  have e : (k.toInt32).toInt = ((k : Int)).bmod (2 ^ 32) := by
    show (Int32.ofNat k).toInt = _
    exact Int32.toInt_ofNat
  rw [e, Int.bmod_eq_of_le (by omega) (by omega)]; exact S
theorem go_lenI (X : OnK p l e R s m args below meth c n0 T h cells slots) (hx : p.tables.exec = Jvm.exec) (hZ : Z.Warmed39 s.vm) {a : Addr} {n : Int} {ty : FieldType} {f : Int → Int32} (A : AIK Z h a ty n f) (hd : decode c.code pc = .ok (.arraylength, 1)) (hp : pc + 1 = pc') (G : ∀ z : Int32, z.toInt = n → GoK p e below D T (mkF m pc' Ls (.int z :: St))) : GoK p e below D T (mkF m pc Ls (.ref a :: St)) := by
  subst hp
  obtain ⟨_, Y, e0, N⟩ := X
  obtain ⟨cl, Ar, S, M, -⟩ := A
  refine GoK.by (fun t k => Y.arraylength hx (by rw [e0]; exact Ar.1) (State.isArrayOf_alike hZ.alike Ar.2.1) (g := mkF m pc Ls (.ref a :: St)) rfl rfl hd t k) (G _ ?_)
  exact own_len S M
theorem go_lenJ (X : OnK p l e R s m args below meth c n0 T h cells slots) (hx : p.tables.exec = Jvm.exec) (hZ : Z.Warmed39 s.vm) {a : Addr} {n : Int} {f : Int → Int64} (A : AJK Z h a n f) (hd : decode c.code pc = .ok (.arraylength, 1)) (hp : pc + 1 = pc') (G : ∀ z : Int32, z.toInt = n → GoK p e below D T (mkF m pc' Ls (.int z :: St))) : GoK p e below D T (mkF m pc Ls (.ref a :: St)) := by
  subst hp
  obtain ⟨_, Y, e0, N⟩ := X
  obtain ⟨cl, Ar, S, M, -⟩ := A
  refine GoK.by (fun t k => Y.arraylength hx (by rw [e0]; exact Ar.1) (State.isArrayOf_alike hZ.alike Ar.2.1) (g := mkF m pc Ls (.ref a :: St)) rfl rfl hd t k) (G _ ?_)
  exact own_len S M
theorem go_getfield (X : OnK p l e R s m args below meth c n0 T h cells slots) (hx : p.tables.exec = Jvm.exec) (hZ : Z.Warmed39 s.vm) {own O n d : String} {i : Nat} {a : Addr} {v : Value} (hown : s.vm.findClass own = some m.cls) (wd : (Jvm.Cond.fieldLink own i O n d).before a0 Z = true) (F : Fld Z h a O n d v) (hd : decode c.code pc = .ok (.getfield i, 3)) (hp : pc + 3 = pc') (G : ∀ T' : State, OnK p l e R s m args below meth c n0 T' h cells slots → GoK p e below D T' (mkF m pc' Ls (v :: St))) : GoK p e below D T (mkF m pc Ls (.ref a :: St)) := by
  subst hp
  obtain ⟨_, Y, e0, N⟩ := X
  obtain ⟨T', Y', e', st⟩ := getF Y hx hZ hown (host := "") (Or.inl wd) Via.refl e0 F (g := mkF m pc Ls (.ref a :: St)) rfl rfl hd
  exact GoK.by st (G T' ⟨_, Y', e', N⟩)
theorem go_putfield (X : OnK p l e R s m args below meth c n0 T h cells slots) (hx : p.tables.exec = Jvm.exec) (hZ : Z.Warmed39 s.vm) {own O n d C : String} {i kk : Nat} {ty : FieldType} {a : Addr} {v v' old : Value} (hown : s.vm.findClass own = some m.cls) (wd : (Jvm.Cond.fieldLink own i O n d).before a0 Z = true) (F : Fld Z h a O n d old) (E : Exa Z h a C) (L : (Jvm.Cond.lays C O n d).before a0 Z = true ∨ ((Jvm.Cond.laysFinal C O n d).before a0 Z = true ∧ own = O ∧ meth.name = "<init>")) (wi : (Jvm.Cond.instantiable C kk).before a0 Z = true) (ga : n0 ≤ a) (hty : parseFieldDescriptor d = some ty) (hn : narrow ty v = v') (hf : fits ty v' = true) (hd : decode c.code pc = .ok (.putfield i, 3)) (hp : pc + 3 = pc') (G : ∀ (T' : State) (h' : Heap), OnK p l e R s m args below meth c n0 T' h' cells slots → Wr h h' a (slotOf Z O n d) v' → Fld Z h' a O n d v' → GoK p e below D T' (mkF m pc' Ls St)) : GoK p e below D T (mkF m pc Ls (v :: .ref a :: St)) := by
  subst hp
  obtain ⟨_, Y, e0, N⟩ := X
  obtain ⟨T', h', Y', e', W, st⟩ := putFN Y hx hZ hown wd Via.refl e0 F E L wi hty hn hf (g := mkF m pc Ls (v :: .ref a :: St)) rfl rfl hd
  exact GoK.by st (G T' h' ⟨_, Y', e', Fr.snoc Y' N ga⟩ W (F.same W))
theorem go_new (X : OnK p l e R s m args below meth c n0 T h cells slots) (hx : p.tables.exec = Jvm.exec) (hZ : Z.Warmed39 s.vm) {own C : String} {i n : Nat} (hown : s.vm.findClass own = some m.cls) (w1 : (Jvm.Cond.classLink own i C).before a0 Z = true) (w2 : (Jvm.Cond.instantiable C n).before a0 Z = true) (w3 : (Jvm.Cond.initialized C).before a0 Z = true) (hd : decode c.code pc = .ok (.new i, 3)) (hp : pc + 3 = pc') (hc : cells + 1 ≤ R.cells) (hs : slots + n ≤ R.slots) (hc' : cells + 1 = cells') (hs' : slots + n = slots')
    (G : ∀ (T' : State) (h' : Heap) (a : Addr), a = h.size → OnK p l e R s m args below meth c n0 T' h' cells' slots' → Ext h h' → Exa Z h' a C → (∀ {O nm d : String} {ty : FieldType}, Laid Z a0 C O nm d → parseFieldDescriptor d = some ty → Fld Z h' a O nm d (defaultValue ty)) → GoK p e below D T' (mkF m pc' Ls (.ref a :: St))) : GoK p e below D T (mkF m pc Ls St) := by
  subst hp hc' hs'
  obtain ⟨_, Y, e0, N⟩ := X
  obtain ⟨T', h', Y', e', E, A, Dv, -, st⟩ := newO Y hx hZ hown w1 w2 w3 e0 (g := mkF m pc Ls St) rfl hd hc hs
  exact GoK.by st (G T' h' _ rfl ⟨_, Y', e', N⟩ E A Dv)
theorem go_initO (X : OnK p l e R s m args below meth c n0 T h cells slots) (hx : p.tables.exec = Jvm.exec) (hZ : Z.Warmed39 s.vm) {own : String} {i W : Nat} {a : Addr} (hown : s.vm.findClass own = some m.cls) (hml : Ls.size = c.maxLocals) (w1 : (Jvm.Cond.methodLink own i Lib.objectInit).before a0 Z = true) (w2 : (Jvm.Cond.instanceMethod Lib.objectInit).before a0 Z = true) (w3 : (Jvm.Cond.code Lib.objectInit ⟨#[0xb1]⟩ 1 none).before a0 Z = true) (hd : decode c.code pc = .ok (.invokespecial i, 3)) (hp : pc + 3 = pc') (hf : 1 ≤ R.frames) (hW : (St.map fun v => v.category).sum ≤ W) (hl : W + 12 ≤ R.locals) (G : ∀ T' : State, OnK p l e R s m args below meth c n0 T' h cells slots → GoK p e below D T' (mkF m pc' Ls St)) : GoK p e below D T (mkF m pc Ls (.ref a :: St)) := by
  subst hp
  obtain ⟨_, Y, e0, N⟩ := X
  obtain ⟨T', Y', e', st⟩ := initO Y hx hZ hown w1 w2 w3 e0 (g := mkF m pc Ls (.ref a :: St)) rfl hml rfl hd hf (W := W) (by show 2 * 0 + _ ≤ _; omega) hl
  exact GoK.by st (G T' ⟨_, Y', e', N⟩)
theorem go_callS (X : OnK p l e R s m args below meth c n0 T h cells slots) (hx : p.tables.exec = Jvm.exec) (hZ : Z.Warmed39 s.vm) {own : String} {i W ml : Nat} {y : MethodName} {bytes : ByteArray} {ret : Option FieldType} {rm : Room} {Q : Option Value → Heap → Prop} {aL : List Value} {ps : List FieldType} {rt : Option FieldType} (hown : s.vm.findClass own = some m.cls) (hml : Ls.size = c.maxLocals) (wl : (Jvm.Cond.methodLink own i y).before a0 Z = true) (ws : (Jvm.Cond.static y).before a0 Z = true) (wz : (Jvm.Cond.initialized y.cls).before a0 Z = true) (wc : (Jvm.Cond.code y bytes ml ret).before a0 Z = true) (hy : y.cls ≠ "java/lang/invoke/MethodHandle" ∧ y.cls ≠ "java/lang/invoke/VarHandle") (pd : parseMethodDescriptor y.desc = some ⟨ps, rt⟩) (hlen : aL.length = ps.length) (ct : CtK l Z y bytes ml ret rm aL.toArray h n0 Q) (hd : decode c.code pc = .ok (.invokestatic i, 3)) (hp : pc + 3 = pc') (hf : rm.frames + 1 ≤ R.frames) (hW : (St.map fun v => v.category).sum ≤ W) (hlo : W + (ml + 11) + rm.locals ≤ R.locals) (hc : cells + rm.cells ≤ R.cells) (hs : slots + rm.slots ≤ R.slots) (hc' : cells + rm.cells = cells') (hs' : slots + rm.slots = slots') (G : ∀ (T' : State) (h' : Heap) (v : Option Value), OnK p l e R s m args below meth c n0 T' h' cells' slots' → Q v h' → GoK p e below D T' (mkF m pc' Ls (v.toList ++ St))) {S0 : List Value} (hS : S0 = aL.reverse ++ St) : GoK p e below D T (mkF m pc Ls S0) := by
  subst hp hc' hs' hS
  obtain ⟨_, Y, e0, N⟩ := X
  obtain ⟨v, _, ⟨B, L, k, n⟩, -, Y', ⟨Lc, ⟨hQ, hN⟩, el, ec, es⟩, st⟩ := Jvm.LawKit.callS Y hx (y := y) hown (mvT hZ wl) (mvT hZ ws) (mvT hZ wz) (mvT hZ wc) hy (backOf (W := W) (Q := fun v h L => Q v h ∧ Fr n0 L) (ct []) hZ wc wz hf hlo) (g := mkF m pc Ls (aL.reverse ++ St)) rfl hml (argsL := aL) (rest := St) (lenOf pd hlen) rfl (by show 2 * 0 + _ ≤ _; omega) hd (fun _ _ => ⟨rfl, e0, hc, hs⟩)
  dsimp only [Pt.U, Pt.locs, Pt.cells, Pt.slots] at Y' el ec es st hQ
  subst el ec es
  exact GoK.by st (G B _ v ⟨_, Y', rfl, N.app hN⟩ hQ)
theorem go_callC (X : OnK p l e R s m args below meth c n0 T h cells slots) (hx : p.tables.exec = Jvm.exec) (hZ : Z.Warmed39 s.vm) {own : String} {i W ml : Nat} {y : MethodName} {bytes : ByteArray} {rm : Room} {Q : Option Value → Heap → Prop} {aL : List Value} {ps : List FieldType} {rt : Option FieldType} {a : Addr} (hown : s.vm.findClass own = some m.cls) (hml : Ls.size = c.maxLocals) (hi : y.name = "<init>") (wl : (Jvm.Cond.methodLink own i y).before a0 Z = true) (wi : (Jvm.Cond.instanceMethod y).before a0 Z = true) (wz : (Jvm.Cond.initialized y.cls).before a0 Z = true) (wc : (Jvm.Cond.code y bytes ml none).before a0 Z = true) (hy : y.cls ≠ "java/lang/invoke/MethodHandle" ∧ y.cls ≠ "java/lang/invoke/VarHandle") (pd : parseMethodDescriptor y.desc = some ⟨ps, rt⟩) (hlen : aL.length = ps.length) (ct : CtK l Z y bytes ml none rm (.ref a :: aL).toArray h n0 Q) (hd : decode c.code pc = .ok (.invokespecial i, 3)) (hp : pc + 3 = pc') (hf : rm.frames + 1 ≤ R.frames) (hW : (St.map fun v => v.category).sum ≤ W) (hlo : W + (ml + 11) + rm.locals ≤ R.locals) (hc : cells + rm.cells ≤ R.cells) (hs : slots + rm.slots ≤ R.slots) (hc' : cells + rm.cells = cells') (hs' : slots + rm.slots = slots') (G : ∀ (T' : State) (h' : Heap) (v : Option Value), OnK p l e R s m args below meth c n0 T' h' cells' slots' → Q v h' → GoK p e below D T' (mkF m pc' Ls (v.toList ++ St))) {S0 : List Value} (hS : S0 = aL.reverse ++ .ref a :: St) : GoK p e below D T (mkF m pc Ls S0) := by
  subst hp hc' hs' hS
  obtain ⟨_, Y, e0, N⟩ := X
  obtain ⟨v, _, ⟨B, L, k, n⟩, -, Y', ⟨Lc, ⟨hQ, hN⟩, el, ec, es⟩, st⟩ := Y.specialBack hx (y := y) hi hown (mvT hZ wl) (mvT hZ wi) (mvT hZ wc) hy (backOf (W := W) (Q := fun v h L => Q v h ∧ Fr n0 L) (ct []) hZ wc wz hf hlo) (g := mkF m pc Ls (aL.reverse ++ .ref a :: St)) rfl hml (Steps.refl _) (a := a) (argsL := aL) (rest := St) (lenOf pd hlen) rfl (by show 2 * 0 + _ ≤ _; omega) hd (fun _ _ => ⟨rfl, e0, hc, hs⟩)
  dsimp only [Pt.U, Pt.locs, Pt.cells, Pt.slots] at Y' el ec es st hQ
  subst el ec es
  exact GoK.by (fun t k => st.trans k) (G B _ v ⟨_, Y', rfl, N.app hN⟩ hQ)
theorem go_callV (X : OnK p l e R s m args below meth c n0 T h cells slots) (hx : p.tables.exec = Jvm.exec) (hZ : Z.Warmed39 s.vm) {own : String} {i W ml : Nat} {y : MethodName} {bytes : ByteArray} {ret : Option FieldType} {rm : Room} {Q : Option Value → Heap → Prop} {aL : List Value} {ps : List FieldType} {rt : Option FieldType} {a : Addr} (hown : s.vm.findClass own = some m.cls) (hml : Ls.size = c.maxLocals) (E : Exa Z h a y.cls) (wl : (Jvm.Cond.methodLink own i y).before a0 Z = true) (wd : (Jvm.Cond.declares y).before a0 Z = true) (ws : (Jvm.Cond.selects y.cls y y).before a0 Z = true) (wi : (Jvm.Cond.instanceMethod y).before a0 Z = true) (wz : (Jvm.Cond.initialized y.cls).before a0 Z = true) (wc : (Jvm.Cond.code y bytes ml ret).before a0 Z = true) (hy : y.cls ≠ "java/lang/invoke/MethodHandle" ∧ y.cls ≠ "java/lang/invoke/VarHandle") (pd : parseMethodDescriptor y.desc = some ⟨ps, rt⟩) (hlen : aL.length = ps.length) (ct : CtK l Z y bytes ml ret rm (.ref a :: aL).toArray h n0 Q) (hd : decode c.code pc = .ok (.invokevirtual i, 3)) (hp : pc + 3 = pc') (hf : rm.frames + 1 ≤ R.frames) (hW : (St.map fun v => v.category).sum ≤ W) (hlo : W + (ml + 11) + rm.locals ≤ R.locals) (hc : cells + rm.cells ≤ R.cells) (hs : slots + rm.slots ≤ R.slots) (hc' : cells + rm.cells = cells') (hs' : slots + rm.slots = slots') (G : ∀ (T' : State) (h' : Heap) (v : Option Value), OnK p l e R s m args below meth c n0 T' h' cells' slots' → Q v h' → GoK p e below D T' (mkF m pc' Ls (v.toList ++ St))) {S0 : List Value} (hS : S0 = aL.reverse ++ .ref a :: St) : GoK p e below D T (mkF m pc Ls S0) := by
  subst hp hc' hs' hS
  obtain ⟨_, Y, e0, N⟩ := X
  obtain ⟨cq, kq, qa, qb, qc⟩ := isOf hZ e0 E
  obtain ⟨v, _, ⟨B, L, k, n⟩, -, Y', ⟨Lc, ⟨hQ, hN⟩, el, ec, es⟩, st⟩ := Y.virtualBack hx (y := y) (z := y) hown (mvT hZ wl) (mvT hZ wd) (notFace_of_selects (args := #[]) (mvT hZ ws)) (mvT hZ ws) (mvT hZ wi) hy (backOf (W := W) (Q := fun v h L => Q v h ∧ Fr n0 L) (ct []) hZ wc wz hf hlo) qa qc (g := mkF m pc Ls (aL.reverse ++ .ref a :: St)) rfl hml (Steps.refl _) (argsL := aL) (rest := St) (lenOf pd hlen) rfl (by show 2 * 0 + _ ≤ _; omega) hd (fun _ _ => ⟨rfl, e0, hc, hs⟩)
  dsimp only [Pt.U, Pt.locs, Pt.cells, Pt.slots] at Y' el ec es st hQ
  subst el ec es
  exact GoK.by (fun t k => st.trans k) (G B _ v ⟨_, Y', rfl, N.app hN⟩ hQ)
def TwoK (a b : Slot) : Prop := (a = .unset ∧ b = .unset) ∨ ∃ x : Int64, a = .val (.long x) ∧ b = .second
end OwnK
end Jvm.RoadKit
namespace Jvm.Pilot.@@N@@
open Jvm Jvm.ClassFile Sem Op Lib Jvm.Free Jvm.Stand Jvm.LawKit Jvm.RoadKit Bundle Jvm.Pilot.@@N@@.Jvm.D
def own_a3 (x0 x1 x2 : Int32) (i : Int) : Int32 := if i = 0 then x0 else if i = 1 then x1 else x2
def own_mem (f : Int → Int32) (n : Int) (x : Int32) : Prop := ∃ i : Int, 0 ≤ i ∧ i < n ∧ f i = x
theorem own_and3 (x : Int32) : 0 ≤ (x &&& 3).toInt ∧ (x &&& 3).toInt ≤ 3 := by
  rw [c_mask x 3 2 (by decide) (by decide)]; omega
theorem own_inc {v x : Int32} (h : v = x + 1) (hx : x.toInt < 2147483647) : v.toInt = x.toInt + 1 := by
  have h1 : (1 : Int32).toInt = 1 := rfl
  have := rng32 x
  rw [h, Jvm.Free.XT.add32 ⟨by omega, by omega⟩, h1]
theorem own_ltI {a b : Int32} (h : a < b) : a.toInt < b.toInt := Int32.lt_iff_toInt_lt.mp h
theorem own_geI {a b : Int32} (h : ¬ a < b) : ¬ a.toInt < b.toInt := fun w => h (Int32.lt_iff_toInt_lt.mpr w)
theorem own_k0 : (0 : Int32).toInt = 0 := rfl
theorem own_k1 : (1 : Int32).toInt = 1 := rfl
theorem own_k2 : (2 : Int32).toInt = 2 := rfl
theorem own_no {a b c x : Int32} {n : Int} (h3 : n ≤ 3) (h0 : 0 < n → ¬ x = a) (h1 : 1 < n → ¬ x = b) (h2 : 2 < n → ¬ x = c) : ¬ own_mem (own_a3 a b c) n x := by
  rintro ⟨i, i1, i2, q⟩
  unfold own_a3 at q
  by_cases e0 : i = 0
  · rw [if_pos e0] at q; exact h0 (by omega) q.symm
  rw [if_neg e0] at q
  by_cases e1 : i = 1
  · rw [if_pos e1] at q; exact h1 (by omega) q.symm
  rw [if_neg e1] at q
  exact h2 (by omega) q.symm
theorem own_y0 {a b c x : Int32} {n : Int} (h : 0 < n) (q : x = a) : own_mem (own_a3 a b c) n x := ⟨0, by omega, h, q.symm⟩
theorem own_y1 {a b c x : Int32} {n : Int} (h : 1 < n) (q : x = b) : own_mem (own_a3 a b c) n x := ⟨1, by omega, h, q.symm⟩
theorem own_y2 {a b c x : Int32} {n : Int} (h : 2 < n) (q : x = c) : own_mem (own_a3 a b c) n x := ⟨2, by omega, h, q.symm⟩
theorem own_same {z w : Int32} {P : Prop} (h : (z = 1 ∧ P) ∨ (z = 0 ∧ ¬ P)) (k : (w = 1 ∧ P) ∨ (w = 0 ∧ ¬ P)) : z = w := by
  rcases h with ⟨a, p⟩ | ⟨a, p⟩ <;> rcases k with ⟨b, q⟩ | ⟨b, q⟩
  · rw [a, b]
  · exact absurd p q
  · exact absurd q p
  · rw [a, b]

theorem pd_0 : parseMethodDescriptor "()V" = some ⟨[], none⟩ := by decide +kernel
theorem pd_1 : parseMethodDescriptor "([I[I[I[I)V" = some ⟨[(.array .int), (.array .int), (.array .int), (.array .int)], none⟩ := by decide +kernel
theorem pd_2 : parseMethodDescriptor "(I)Z" = some ⟨[.int], some .boolean⟩ := by decide +kernel
theorem d2_0 : decode jdk_30_method_1_code 0 = .ok (.aload_n 0, 1) := by decide +kernel
theorem d2_1 : decode jdk_30_method_1_code 1 = .ok (.invokespecial 1, 3) := by decide +kernel
theorem d2_4 : decode jdk_30_method_1_code 4 = .ok (.return_, 1) := by decide +kernel
theorem pn_2 : plainName "java/lang/Record" = true := by first | (simp [plainName, overriddenIn]; done) | decide +kernel
theorem ef_2 (m : MethodId) (r0 : Addr) : entryFrame m #[.ref r0] 1 = mkF m 0 #[.val (.ref r0)] [] := by first | (simp [entryFrame, mkF, argsToLocals, Value.category]; done) | rfl
set_option maxRecDepth 65536 in
set_option maxHeartbeats 40000000 in
theorem ct_2 (l : Launch) (Z : State) (a0 : Array Value) (hw : ∀ d ∈ tables_1, d.before a0 Z = true) {h0 : Heap} {n0 : Nat} (zs : n0 ≤ h0.size) (r0 : Addr)  :
    CtK l Z (⟨"java/lang/Record", "<init>", "()V"⟩ : MethodName) jdk_30_method_1_code 1 none ({ frames := 1, cells := 0, slots := 0, locals := 12 } : Room) #[.ref r0] h0 n0 (QV (fun h => h = h0)) := by
  refine CtK.of (plainFor_of_name pn_2) ?_
  intro p e s m below meth c T0 X0 hx hZ hby hml hown hnm hret hlk
  refine GoK.entry (ef_2 m r0) ?_
  replace hown : s.vm.findClass "java/lang/Record" = some m.cls := hown
  refine go_aloadN (pc' := 1) X0 hx (hb hby d2_0) rfl rfl ?_
  refine go_initO (pc' := 4) (W := 0) X0 hx hZ hown (by rw [hml]; rfl) (hw _ (List.mem_of_getElem? (i := 13) rfl)) (hw _ (List.mem_of_getElem? (i := 14) rfl)) (hw _ (List.mem_of_getElem? (i := 15) rfl)) (hb hby d2_1) rfl (by decide) (Nat.le_of_eq rfl) (by decide) (fun T1 X1 => ?_)
  refine go_retV X1 hx hret hlk (hb hby d2_4) (by decide) (by decide) ?_
  exact rfl
theorem d1_0 : decode prog_46_method_1_code 0 = .ok (.aload_n 0, 1) := by decide +kernel
theorem d1_1 : decode prog_46_method_1_code 1 = .ok (.invokespecial 1, 3) := by decide +kernel
theorem d1_4 : decode prog_46_method_1_code 4 = .ok (.aload_n 0, 1) := by decide +kernel
theorem d1_5 : decode prog_46_method_1_code 5 = .ok (.aload_n 1, 1) := by decide +kernel
theorem d1_6 : decode prog_46_method_1_code 6 = .ok (.putfield 7, 3) := by decide +kernel
theorem d1_9 : decode prog_46_method_1_code 9 = .ok (.aload_n 0, 1) := by decide +kernel
theorem d1_10 : decode prog_46_method_1_code 10 = .ok (.aload_n 2, 1) := by decide +kernel
theorem d1_11 : decode prog_46_method_1_code 11 = .ok (.putfield 13, 3) := by decide +kernel
theorem d1_14 : decode prog_46_method_1_code 14 = .ok (.aload_n 0, 1) := by decide +kernel
theorem d1_15 : decode prog_46_method_1_code 15 = .ok (.aload_n 3, 1) := by decide +kernel
theorem d1_16 : decode prog_46_method_1_code 16 = .ok (.putfield 16, 3) := by decide +kernel
theorem d1_19 : decode prog_46_method_1_code 19 = .ok (.aload_n 0, 1) := by decide +kernel
theorem d1_20 : decode prog_46_method_1_code 20 = .ok (.aload 4, 2) := by decide +kernel
theorem d1_22 : decode prog_46_method_1_code 22 = .ok (.putfield 19, 3) := by decide +kernel
theorem d1_25 : decode prog_46_method_1_code 25 = .ok (.return_, 1) := by decide +kernel
theorem pn_1 : plainName "com/example/denary/denary/analysis/DigitChanges" = true := by first | (simp [plainName, overriddenIn]; done) | decide +kernel
theorem ef_1 (m : MethodId) (r0 : Addr) (r1 : Addr) (r2 : Addr) (r3 : Addr) (r4 : Addr) : entryFrame m #[.ref r0, .ref r1, .ref r2, .ref r3, .ref r4] 5 = mkF m 0 #[.val (.ref r0), .val (.ref r1), .val (.ref r2), .val (.ref r3), .val (.ref r4)] [] := by first | (simp [entryFrame, mkF, argsToLocals, Value.category]; done) | rfl
set_option maxRecDepth 65536 in
set_option maxHeartbeats 40000000 in
theorem ct_1 (l : Launch) (Z : State) (a0 : Array Value) (hw : ∀ d ∈ tables_1, d.before a0 Z = true) {h0 : Heap} {n0 : Nat} (zs : n0 ≤ h0.size) (r0 : Addr) (r1 : Addr) (r2 : Addr) (r3 : Addr) (r4 : Addr) (u_rewritten : Value) (u_strings : Value) (u_from : Value) (u_to : Value) (E_r0 : Exa Z h0 r0 "com/example/denary/denary/analysis/DigitChanges") (g_r0 : n0 ≤ r0) (F_r0_rewritten : Fld Z h0 r0 "com/example/denary/denary/analysis/DigitChanges" "rewritten" "[I" u_rewritten) (F_r0_strings : Fld Z h0 r0 "com/example/denary/denary/analysis/DigitChanges" "strings" "[I" u_strings) (F_r0_from : Fld Z h0 r0 "com/example/denary/denary/analysis/DigitChanges" "from" "[I" u_from) (F_r0_to : Fld Z h0 r0 "com/example/denary/denary/analysis/DigitChanges" "to" "[I" u_to) :
    CtK l Z (⟨"com/example/denary/denary/analysis/DigitChanges", "<init>", "([I[I[I[I)V"⟩ : MethodName) prog_46_method_1_code 5 none ({ frames := 2, cells := 0, slots := 0, locals := 24 } : Room) #[.ref r0, .ref r1, .ref r2, .ref r3, .ref r4] h0 n0 (QV (fun h => Keep h0 h [r0] ∧ Exa Z h r0 "com/example/denary/denary/analysis/DigitChanges" ∧ Fld Z h r0 "com/example/denary/denary/analysis/DigitChanges" "rewritten" "[I" (.ref r1))) := by
  refine CtK.of (plainFor_of_name pn_1) ?_
  intro p e s m below meth c T0 X0 hx hZ hby hml hown hnm hret hlk
  refine GoK.entry (ef_1 m r0 r1 r2 r3 r4) ?_
  replace hown : s.vm.findClass "com/example/denary/denary/analysis/DigitChanges" = some m.cls := hown
  have K := Keep.refl h0 [r0]
  refine go_aloadN (pc' := 1) X0 hx (hb hby d1_0) rfl rfl ?_
  refine go_callC (pc' := 4) (W := 0) (cells' := 0) (slots' := 0) (rm := ({ frames := 1, cells := 0, slots := 0, locals := 12 } : Room)) (aL := []) (St := []) X0 hx hZ hown (by rw [hml]; rfl) rfl (hw _ (List.mem_of_getElem? (i := 8) rfl)) (hw _ (List.mem_of_getElem? (i := 9) rfl)) (hw _ (List.mem_of_getElem? (i := 11) rfl)) (hw _ (List.mem_of_getElem? (i := 12) rfl)) (by decide) pd_0 rfl (ct_2 l Z a0 hw zs r0) (hb hby d1_1) rfl (by decide) (Nat.le_of_eq rfl) (by decide) (by decide) (by decide) rfl rfl (fun T1 h1 v1 X1 Q1 => ?_) rfl
  obtain ⟨rfl, eh1⟩ := Q1
  subst h1
  show GoK p e below _ T1 (mkF m 4 #[.val (.ref r0), .val (.ref r1), .val (.ref r2), .val (.ref r3), .val (.ref r4)] [])
  refine go_aloadN (pc' := 5) X1 hx (hb hby d1_4) rfl rfl ?_
  refine go_aloadN (pc' := 6) X1 hx (hb hby d1_5) rfl rfl ?_
  refine go_putfield (pc' := 9) (ty := (.array .int)) (v' := .ref r1) X1 hx hZ hown (hw _ (List.mem_of_getElem? (i := 16) rfl)) F_r0_rewritten E_r0 (Or.inr ⟨(hw _ (List.mem_of_getElem? (i := 17) rfl)), rfl, hnm⟩) (hw _ (List.mem_of_getElem? (i := 3) rfl)) g_r0 (by decide) rfl rfl (hb hby d1_6) rfl (fun T2 h2 X2 W2 F_r0_rewritten => ?_)
  have E_r0 := E_r0.wr W2
  have F_r0_strings := Fld.other W2 F_r0_strings (Or.inr (slot_ne (Or.inr (hw _ (List.mem_of_getElem? (i := 19) rfl))) (Or.inr (hw _ (List.mem_of_getElem? (i := 17) rfl))) (by decide) (t := (.array .int)) (t' := (.array .int)) (by decide) (by decide)))
  have F_r0_from := Fld.other W2 F_r0_from (Or.inr (slot_ne (Or.inr (hw _ (List.mem_of_getElem? (i := 21) rfl))) (Or.inr (hw _ (List.mem_of_getElem? (i := 17) rfl))) (by decide) (t := (.array .int)) (t' := (.array .int)) (by decide) (by decide)))
  have F_r0_to := Fld.other W2 F_r0_to (Or.inr (slot_ne (Or.inr (hw _ (List.mem_of_getElem? (i := 23) rfl))) (Or.inr (hw _ (List.mem_of_getElem? (i := 17) rfl))) (by decide) (t := (.array .int)) (t' := (.array .int)) (by decide) (by decide)))
  have zs := Nat.le_trans zs (Nat.le_of_eq W2.size.symm)
  have K := K.wr W2 (Or.inl (by simp))
  refine go_aloadN (pc' := 10) X2 hx (hb hby d1_9) rfl rfl ?_
  refine go_aloadN (pc' := 11) X2 hx (hb hby d1_10) rfl rfl ?_
  refine go_putfield (pc' := 14) (ty := (.array .int)) (v' := .ref r2) X2 hx hZ hown (hw _ (List.mem_of_getElem? (i := 18) rfl)) F_r0_strings E_r0 (Or.inr ⟨(hw _ (List.mem_of_getElem? (i := 19) rfl)), rfl, hnm⟩) (hw _ (List.mem_of_getElem? (i := 3) rfl)) g_r0 (by decide) rfl rfl (hb hby d1_11) rfl (fun T3 h3 X3 W3 F_r0_strings => ?_)
  have E_r0 := E_r0.wr W3
  have F_r0_rewritten := Fld.other W3 F_r0_rewritten (Or.inr (slot_ne (Or.inr (hw _ (List.mem_of_getElem? (i := 17) rfl))) (Or.inr (hw _ (List.mem_of_getElem? (i := 19) rfl))) (by decide) (t := (.array .int)) (t' := (.array .int)) (by decide) (by decide)))
  have F_r0_from := Fld.other W3 F_r0_from (Or.inr (slot_ne (Or.inr (hw _ (List.mem_of_getElem? (i := 21) rfl))) (Or.inr (hw _ (List.mem_of_getElem? (i := 19) rfl))) (by decide) (t := (.array .int)) (t' := (.array .int)) (by decide) (by decide)))
  have F_r0_to := Fld.other W3 F_r0_to (Or.inr (slot_ne (Or.inr (hw _ (List.mem_of_getElem? (i := 23) rfl))) (Or.inr (hw _ (List.mem_of_getElem? (i := 19) rfl))) (by decide) (t := (.array .int)) (t' := (.array .int)) (by decide) (by decide)))
  have zs := Nat.le_trans zs (Nat.le_of_eq W3.size.symm)
  have K := K.wr W3 (Or.inl (by simp))
  refine go_aloadN (pc' := 15) X3 hx (hb hby d1_14) rfl rfl ?_
  refine go_aloadN (pc' := 16) X3 hx (hb hby d1_15) rfl rfl ?_
  refine go_putfield (pc' := 19) (ty := (.array .int)) (v' := .ref r3) X3 hx hZ hown (hw _ (List.mem_of_getElem? (i := 20) rfl)) F_r0_from E_r0 (Or.inr ⟨(hw _ (List.mem_of_getElem? (i := 21) rfl)), rfl, hnm⟩) (hw _ (List.mem_of_getElem? (i := 3) rfl)) g_r0 (by decide) rfl rfl (hb hby d1_16) rfl (fun T4 h4 X4 W4 F_r0_from => ?_)
  have E_r0 := E_r0.wr W4
  have F_r0_rewritten := Fld.other W4 F_r0_rewritten (Or.inr (slot_ne (Or.inr (hw _ (List.mem_of_getElem? (i := 17) rfl))) (Or.inr (hw _ (List.mem_of_getElem? (i := 21) rfl))) (by decide) (t := (.array .int)) (t' := (.array .int)) (by decide) (by decide)))
  have F_r0_strings := Fld.other W4 F_r0_strings (Or.inr (slot_ne (Or.inr (hw _ (List.mem_of_getElem? (i := 19) rfl))) (Or.inr (hw _ (List.mem_of_getElem? (i := 21) rfl))) (by decide) (t := (.array .int)) (t' := (.array .int)) (by decide) (by decide)))
  have F_r0_to := Fld.other W4 F_r0_to (Or.inr (slot_ne (Or.inr (hw _ (List.mem_of_getElem? (i := 23) rfl))) (Or.inr (hw _ (List.mem_of_getElem? (i := 21) rfl))) (by decide) (t := (.array .int)) (t' := (.array .int)) (by decide) (by decide)))
  have zs := Nat.le_trans zs (Nat.le_of_eq W4.size.symm)
  have K := K.wr W4 (Or.inl (by simp))
  refine go_aloadN (pc' := 20) X4 hx (hb hby d1_19) rfl rfl ?_
  refine go_aload (pc' := 22) X4 hx (hb hby d1_20) rfl rfl ?_
  refine go_putfield (pc' := 25) (ty := (.array .int)) (v' := .ref r4) X4 hx hZ hown (hw _ (List.mem_of_getElem? (i := 22) rfl)) F_r0_to E_r0 (Or.inr ⟨(hw _ (List.mem_of_getElem? (i := 23) rfl)), rfl, hnm⟩) (hw _ (List.mem_of_getElem? (i := 3) rfl)) g_r0 (by decide) rfl rfl (hb hby d1_22) rfl (fun T5 h5 X5 W5 F_r0_to => ?_)
  have E_r0 := E_r0.wr W5
  have F_r0_rewritten := Fld.other W5 F_r0_rewritten (Or.inr (slot_ne (Or.inr (hw _ (List.mem_of_getElem? (i := 17) rfl))) (Or.inr (hw _ (List.mem_of_getElem? (i := 23) rfl))) (by decide) (t := (.array .int)) (t' := (.array .int)) (by decide) (by decide)))
  have F_r0_strings := Fld.other W5 F_r0_strings (Or.inr (slot_ne (Or.inr (hw _ (List.mem_of_getElem? (i := 19) rfl))) (Or.inr (hw _ (List.mem_of_getElem? (i := 23) rfl))) (by decide) (t := (.array .int)) (t' := (.array .int)) (by decide) (by decide)))
  have F_r0_from := Fld.other W5 F_r0_from (Or.inr (slot_ne (Or.inr (hw _ (List.mem_of_getElem? (i := 21) rfl))) (Or.inr (hw _ (List.mem_of_getElem? (i := 23) rfl))) (by decide) (t := (.array .int)) (t' := (.array .int)) (by decide) (by decide)))
  have zs := Nat.le_trans zs (Nat.le_of_eq W5.size.symm)
  have K := K.wr W5 (Or.inl (by simp))
  refine go_retV X5 hx hret hlk (hb hby d1_25) (by decide) (by decide) ?_
  exact ⟨K, E_r0, F_r0_rewritten⟩
theorem d4_0 : decode prog_46_method_8_code 0 = .ok (.aload_n 0, 1) := by decide +kernel
theorem d4_1 : decode prog_46_method_8_code 1 = .ok (.getfield 7, 3) := by decide +kernel
theorem d4_4 : decode prog_46_method_8_code 4 = .ok (.astore_n 2, 1) := by decide +kernel
theorem d4_5 : decode prog_46_method_8_code 5 = .ok (.aload_n 2, 1) := by decide +kernel
theorem d4_6 : decode prog_46_method_8_code 6 = .ok (.arraylength, 1) := by decide +kernel
theorem d4_7 : decode prog_46_method_8_code 7 = .ok (.istore_n 3, 1) := by decide +kernel
theorem d4_8 : decode prog_46_method_8_code 8 = .ok (.iconst 0, 1) := by decide +kernel
theorem d4_9 : decode prog_46_method_8_code 9 = .ok (.istore 4, 2) := by decide +kernel
theorem d4_11 : decode prog_46_method_8_code 11 = .ok (.iload 4, 2) := by decide +kernel
theorem d4_13 : decode prog_46_method_8_code 13 = .ok (.iload_n 3, 1) := by decide +kernel
theorem d4_14 : decode prog_46_method_8_code 14 = .ok (.if_icmp .ge 23, 3) := by decide +kernel
theorem d4_17 : decode prog_46_method_8_code 17 = .ok (.aload_n 2, 1) := by decide +kernel
theorem d4_18 : decode prog_46_method_8_code 18 = .ok (.iload 4, 2) := by decide +kernel
theorem d4_20 : decode prog_46_method_8_code 20 = .ok (.iaload, 1) := by decide +kernel
theorem d4_21 : decode prog_46_method_8_code 21 = .ok (.istore 5, 2) := by decide +kernel
theorem d4_23 : decode prog_46_method_8_code 23 = .ok (.iload 5, 2) := by decide +kernel
theorem d4_25 : decode prog_46_method_8_code 25 = .ok (.iload_n 1, 1) := by decide +kernel
theorem d4_26 : decode prog_46_method_8_code 26 = .ok (.if_icmp .ne 5, 3) := by decide +kernel
theorem d4_29 : decode prog_46_method_8_code 29 = .ok (.iconst 1, 1) := by decide +kernel
theorem d4_30 : decode prog_46_method_8_code 30 = .ok (.ireturn, 1) := by decide +kernel
theorem d4_31 : decode prog_46_method_8_code 31 = .ok (.iinc 4 1, 3) := by decide +kernel
theorem d4_34 : decode prog_46_method_8_code 34 = .ok (.goto (-23), 3) := by decide +kernel
theorem d4_37 : decode prog_46_method_8_code 37 = .ok (.iconst 0, 1) := by decide +kernel
theorem d4_38 : decode prog_46_method_8_code 38 = .ok (.ireturn, 1) := by decide +kernel
theorem pn_4 : plainName "com/example/denary/denary/analysis/DigitChanges" = true := by first | (simp [plainName, overriddenIn]; done) | decide +kernel
theorem ef_4 (m : MethodId) (r0 : Addr) (p1 : Int32) : entryFrame m #[.ref r0, .int p1] 6 = mkF m 0 #[.val (.ref r0), .val (.int p1), .unset, .unset, .unset, .unset] [] := by first | (simp [entryFrame, mkF, argsToLocals, Value.category]; done) | rfl
set_option maxRecDepth 65536 in
set_option maxHeartbeats 40000000 in
theorem ct_4 (l : Launch) (Z : State) (a0 : Array Value) (hw : ∀ d ∈ tables_1, d.before a0 Z = true) {h0 : Heap} {n0 : Nat} (zs : n0 ≤ h0.size) (r0 : Addr) (p1 : Int32) (t : Addr) (n : Int) (f : Int → Int32) (F_r0_rewritten : Fld Z h0 r0 "com/example/denary/denary/analysis/DigitChanges" "rewritten" "[I" (.ref t)) (A_t : AIK Z h0 t .int n f) :
    CtK l Z (⟨"com/example/denary/denary/analysis/DigitChanges", "rewrites", "(I)Z"⟩ : MethodName) prog_46_method_8_code 6 (some .boolean) ({ frames := 0, cells := 0, slots := 0, locals := 0 } : Room) #[.ref r0, .int p1] h0 n0 (QI (fun z h => ((z = 1 ∧ own_mem f n p1) ∨ (z = 0 ∧ ¬ own_mem f n p1)) ∧ h = h0)) := by
  refine CtK.of (plainFor_of_name pn_4) ?_
  intro p e s m below meth c T0 X0 hx hZ hby hml hown hnm hret hlk
  refine GoK.entry (ef_4 m r0 p1) ?_
  replace hown : s.vm.findClass "com/example/denary/denary/analysis/DigitChanges" = some m.cls := hown
  refine go_aloadN (pc' := 1) X0 hx (hb hby d4_0) rfl rfl ?_
  refine go_getfield (pc' := 4) X0 hx hZ hown (hw _ (List.mem_of_getElem? (i := 16) rfl)) F_r0_rewritten (hb hby d4_1) rfl (fun T1 X1 => ?_)
  refine go_astoreN (pc' := 5) (L' := #[.val (.ref r0), .val (.int p1), .val (.ref t), .unset, .unset, .unset]) X1 hx (hb hby d4_4) rfl rfl ?_
  refine go_aloadN (pc' := 6) X1 hx (hb hby d4_5) rfl rfl ?_
  refine go_lenI (pc' := 7) X1 hx hZ A_t (hb hby d4_6) rfl (fun n6 hn6 => ?_)
  refine go_istoreN (pc' := 8) (L' := #[.val (.ref r0), .val (.int p1), .val (.ref t), .val (.int n6), .unset, .unset]) X1 hx (hb hby d4_7) rfl rfl ?_
  refine go_iconst (pc' := 9) (v := 0) X1 hx (hb hby d4_8) rfl rfl ?_
  refine go_istore (pc' := 11) (L' := #[.val (.ref r0), .val (.int p1), .val (.ref t), .val (.int n6), .val (.int (0 : Int32)), .unset]) X1 hx (hb hby d4_9) rfl rfl ?_
  suffices loop11 : ∀ (d : Nat) (v4 : Int32) (s5 : Slot), One s5 → (n - v4.toInt).toNat = d → (0 ≤ v4.toInt ∧ v4.toInt ≤ n ∧ ∀ i : Int, 0 ≤ i → i < v4.toInt → ¬ f i = p1) → GoK p e below (DoneK s below n0 ({ frames := 0, cells := 0, slots := 0, locals := 0 } : Room).cells ({ frames := 0, cells := 0, slots := 0, locals := 0 } : Room).slots (QI (fun z h => ((z = 1 ∧ own_mem f n p1) ∨ (z = 0 ∧ ¬ own_mem f n p1)) ∧ h = h0))) T1 (mkF m 11 #[.val (.ref r0), .val (.int p1), .val (.ref t), .val (.int n6), .val (.int v4), s5] []) by
    refine loop11 _ (0 : Int32) (.unset) One.u rfl ?_
    refine ⟨by decide, A_t.nn.1, fun i j1 j2 => ?_⟩
    have := own_k0
    omega
  intro d11
  induction d11 using Nat.strongRecOn with
  | _ d11 ih11 =>
    intro v4 s5 hs5 hm11 hv11
    obtain ⟨i1, i2, i3⟩ := hv11
    refine go_iload (pc' := 13) X1 hx (hb hby d4_11) rfl rfl ?_
    refine go_iloadN (pc' := 14) X1 hx (hb hby d4_13) rfl rfl ?_
    refine go_icmpge (pc' := 17) (pcT := 37) X1 hx (hb hby d4_14) rfl (by decide) (by decide) (fun c14 => ?_) (fun c14 => ?_)
    · refine go_iconst (pc' := 38) (v := 0) X1 hx (hb hby d4_37) rfl rfl ?_
      refine go_retN (t := .boolean) X1 hx hret (by simp) hlk (hb hby d4_38) (by decide) (by decide) ?_
      refine ⟨?_, rfl⟩
      refine Or.inr ⟨rfl, ?_⟩
      rintro ⟨i, j1, j2, q⟩
      exact i3 i j1 (by have := own_geI c14; omega) q
    · refine go_aloadN (pc' := 18) X1 hx (hb hby d4_17) rfl rfl ?_
      refine go_iload (pc' := 20) X1 hx (hb hby d4_18) rfl rfl ?_
      refine go_iaload (pc' := 21) X1 hx hZ A_t i1 (by have := own_ltI c14; omega) (hb hby d4_20) rfl (fun w20_f hw20_f => ?_)
      refine go_istore (pc' := 23) (L' := #[.val (.ref r0), .val (.int p1), .val (.ref t), .val (.int n6), .val (.int v4), .val (.int w20_f)]) X1 hx (hb hby d4_21) rfl (XS.store1 rfl hs5 rfl) ?_
      refine go_iload (pc' := 25) X1 hx (hb hby d4_23) rfl rfl ?_
      refine go_iloadN (pc' := 26) X1 hx (hb hby d4_25) rfl rfl ?_
      refine go_icmpne (pc' := 29) (pcT := 31) X1 hx (hb hby d4_26) rfl (by decide) (by decide) (fun c26_f => ?_) (fun c26_f => ?_)
      · obtain ⟨v4_31_ft, hv4_31_ft⟩ : ∃ z : Int32, z = v4 + (1 : Int32) := ⟨_, rfl⟩
        refine go_iinc (pc' := 34) (L' := #[.val (.ref r0), .val (.int p1), .val (.ref t), .val (.int n6), .val (.int v4_31_ft), .val (.int w20_f)]) X1 hx (hb hby d4_31) rfl rfl hv4_31_ft.symm rfl ?_
        refine go_goto (pc' := 11) X1 hx (hb hby d4_34) (by decide) (by decide) ?_
        refine ih11 _ ?_ v4_31_ft (.val (.int w20_f)) (One.val rfl) rfl ?_
        · have q := own_ltI c14
          have e' := own_inc hv4_31_ft (by have := A_t.nn; omega)
          omega
        · have q := own_ltI c14
          have e' := own_inc hv4_31_ft (by have := A_t.nn; omega)
          refine ⟨by omega, by omega, fun i j1 j2 w => ?_⟩
          by_cases y : i = v4.toInt
          · rw [y, ← hw20_f] at w; exact c26_f w
          · exact i3 i j1 (by omega) w
      · refine go_iconst (pc' := 30) (v := 1) X1 hx (hb hby d4_29) rfl rfl ?_
        refine go_retN (t := .boolean) X1 hx hret (by simp) hlk (hb hby d4_30) (by decide) (by decide) ?_
        refine ⟨?_, rfl⟩
        exact Or.inl ⟨rfl, v4.toInt, i1, by have := own_ltI c14; omega, by rw [← hw20_f]; exact c26_f⟩
theorem pn_0 : plainName "com/example/denary/denary/analysis/DigitChangesRewritesPinLaw" = true := by first | (simp [plainName, overriddenIn]; done) | decide +kernel
theorem ef_0 (m : MethodId) (p0 : Int32) (p1 : Int32) (p2 : Int32) (p3 : Int32) (p4 : Int32) : entryFrame m #[.int p0, .int p1, .int p2, .int p3, .int p4] maxLocals = mkF m 0 #[.val (.int p0), .val (.int p1), .val (.int p2), .val (.int p3), .val (.int p4), .unset, .unset, .unset, .unset, .unset, .unset, .unset, .unset, .unset] [] := by first | (simp [entryFrame, mkF, argsToLocals, Value.category, maxLocals]; done) | rfl
set_option maxRecDepth 65536 in
set_option maxHeartbeats 40000000 in
theorem ct_0 (l : Launch) (Z : State) (a0 : Array Value) (hw : ∀ d ∈ tables_1, d.before a0 Z = true) {h0 : Heap} {n0 : Nat} (zs : n0 ≤ h0.size) (p0 : Int32) (p1 : Int32) (p2 : Int32) (p3 : Int32) (p4 : Int32)  :
    CtK l Z x code maxLocals ret room_1 #[.int p0, .int p1, .int p2, .int p3, .int p4] h0 n0 (QI (fun z _ => z = 1)) := by
  refine CtK.of (plainFor_of_name pn_0) ?_
  intro p e s m below meth c T0 X0 hx hZ hby hml hown hnm hret hlk
  refine GoK.entry (ef_0 m p0 p1 p2 p3 p4) ?_
  replace hml : c.maxLocals = 14 := hml
  replace hown : s.vm.findClass "com/example/denary/denary/analysis/DigitChangesRewritesPinLaw" = some m.cls := hown
  refine go_iloadN (pc' := 1) X0 hx (hb hby at_0) rfl rfl ?_
  refine go_iconst (pc' := 2) (v := 3) X0 hx (hb hby at_1) rfl rfl ?_
  refine go_iand (pc' := 3) X0 hx (hb hby at_2) rfl ?_
  refine go_nameI (fun v5_3 hv5_3 => ?_)
  refine go_istore (pc' := 5) (L' := #[.val (.int p0), .val (.int p1), .val (.int p2), .val (.int p3), .val (.int p4), .val (.int v5_3), .unset, .unset, .unset, .unset, .unset, .unset, .unset, .unset]) X0 hx (hb hby at_3) rfl rfl ?_
  refine go_iloadN (pc' := 6) X0 hx (hb hby at_5) rfl rfl ?_
  refine go_iconst (pc' := 7) (v := 2) X0 hx (hb hby at_6) rfl rfl ?_
  refine go_iushr (pc' := 8) X0 hx (hb hby at_7) rfl ?_
  refine go_iconst (pc' := 9) (v := 3) X0 hx (hb hby at_8) rfl rfl ?_
  refine go_iand (pc' := 10) X0 hx (hb hby at_9) rfl ?_
  refine go_nameI (fun v6_10 hv6_10 => ?_)
  refine go_istore (pc' := 12) (L' := #[.val (.int p0), .val (.int p1), .val (.int p2), .val (.int p3), .val (.int p4), .val (.int v5_3), .val (.int v6_10), .unset, .unset, .unset, .unset, .unset, .unset, .unset]) X0 hx (hb hby at_10) rfl rfl ?_
  refine go_iloadN (pc' := 13) X0 hx (hb hby at_12) rfl rfl ?_
  refine go_ldcI (pc' := 15) X0 hx hZ hown (hw _ (List.mem_of_getElem? (i := 0) rfl)) (hb hby at_13) rfl ?_
  refine go_iand (pc' := 16) X0 hx (hb hby at_15) rfl ?_
  refine go_nameI (fun v7_16 hv7_16 => ?_)
  refine go_istore (pc' := 18) (L' := #[.val (.int p0), .val (.int p1), .val (.int p2), .val (.int p3), .val (.int p4), .val (.int v5_3), .val (.int v6_10), .val (.int v7_16), .unset, .unset, .unset, .unset, .unset, .unset]) X0 hx (hb hby at_16) rfl rfl ?_
  refine go_iload (pc' := 20) X0 hx (hb hby at_18) rfl rfl ?_
  refine go_iconst (pc' := 21) (v := 1) X0 hx (hb hby at_20) rfl rfl ?_
  refine go_iadd (pc' := 22) X0 hx (hb hby at_21) rfl ?_
  refine go_iloadN (pc' := 23) X0 hx (hb hby at_22) rfl rfl ?_
  refine go_ldcI (pc' := 25) X0 hx hZ hown (hw _ (List.mem_of_getElem? (i := 0) rfl)) (hb hby at_23) rfl ?_
  refine go_iand (pc' := 26) X0 hx (hb hby at_25) rfl ?_
  refine go_iadd (pc' := 27) X0 hx (hb hby at_26) rfl ?_
  refine go_nameI (fun v8_27 hv8_27 => ?_)
  refine go_istore (pc' := 29) (L' := #[.val (.int p0), .val (.int p1), .val (.int p2), .val (.int p3), .val (.int p4), .val (.int v5_3), .val (.int v6_10), .val (.int v7_16), .val (.int v8_27), .unset, .unset, .unset, .unset, .unset]) X0 hx (hb hby at_27) rfl rfl ?_
  refine go_iload (pc' := 31) X0 hx (hb hby at_29) rfl rfl ?_
  refine go_iconst (pc' := 32) (v := 1) X0 hx (hb hby at_31) rfl rfl ?_
  refine go_iadd (pc' := 33) X0 hx (hb hby at_32) rfl ?_
  refine go_iloadN (pc' := 34) X0 hx (hb hby at_33) rfl rfl ?_
  refine go_ldcI (pc' := 36) X0 hx hZ hown (hw _ (List.mem_of_getElem? (i := 0) rfl)) (hb hby at_34) rfl ?_
  refine go_iand (pc' := 37) X0 hx (hb hby at_36) rfl ?_
  refine go_iadd (pc' := 38) X0 hx (hb hby at_37) rfl ?_
  refine go_nameI (fun v9_38 hv9_38 => ?_)
  refine go_istore (pc' := 40) (L' := #[.val (.int p0), .val (.int p1), .val (.int p2), .val (.int p3), .val (.int p4), .val (.int v5_3), .val (.int v6_10), .val (.int v7_16), .val (.int v8_27), .val (.int v9_38), .unset, .unset, .unset, .unset]) X0 hx (hb hby at_38) rfl rfl ?_
  obtain ⟨hn1, hn2⟩ := own_and3 p0
  rw [← hv5_3] at hn1 hn2
  refine go_iload (pc' := 42) X0 hx (hb hby at_40) rfl rfl ?_
  refine go_newI (pc' := 44) (cap := 3) (n := v5_3.toInt) (cells' := 1) (slots' := 3) X0 hx hZ (hw _ (List.mem_of_getElem? (i := 1) rfl)) (hb hby at_42) rfl rfl hn1 (by omega) (by decide) (by decide) (by decide) rfl rfl (fun T1 h1 b1 eb1 X1 E1 A_b1 => ?_)
  have g_b1 : n0 ≤ b1 := by rw [eb1]; exact zs
  have zs := Nat.le_trans zs E1.1
  refine go_astore (pc' := 46) (L' := #[.val (.int p0), .val (.int p1), .val (.int p2), .val (.int p3), .val (.int p4), .val (.int v5_3), .val (.int v6_10), .val (.int v7_16), .val (.int v8_27), .val (.int v9_38), .val (.ref b1), .unset, .unset, .unset]) X1 hx (hb hby at_44) rfl rfl ?_
  suffices JH81 : ∀ (T2 : State) (h2 : Heap) , OnK p l e room_1 s m #[.int p0, .int p1, .int p2, .int p3, .int p4] below meth c n0 T2 h2 1 3 → n0 ≤ h2.size → AIK Z h2 b1 .int (v5_3.toInt) (own_a3 v7_16 v8_27 v9_38) → GoK p e below (DoneK s below n0 room_1.cells room_1.slots (QI (fun z _ => z = 1))) T2 (mkF m 81 #[.val (.int p0), .val (.int p1), .val (.int p2), .val (.int p3), .val (.int p4), .val (.int v5_3), .val (.int v6_10), .val (.int v7_16), .val (.int v8_27), .val (.int v9_38), .val (.ref b1), .unset, .unset, .unset] []) by
    refine go_iload (pc' := 48) X1 hx (hb hby at_46) rfl rfl ?_
    refine go_ifle (pc' := 51) (pcT := 57) X1 hx (hb hby at_48) rfl (by decide) (by decide) (fun c48 => ?_) (fun c48 => ?_)
    · refine go_iload (pc' := 59) X1 hx (hb hby at_57) rfl rfl ?_
      refine go_iconst (pc' := 60) (v := 1) X1 hx (hb hby at_59) rfl rfl ?_
      refine go_icmple (pc' := 63) (pcT := 69) X1 hx (hb hby at_60) rfl (by decide) (by decide) (fun c60_t => ?_) (fun c60_t => ?_)
      · refine go_iload (pc' := 71) X1 hx (hb hby at_69) rfl rfl ?_
        refine go_iconst (pc' := 72) (v := 2) X1 hx (hb hby at_71) rfl rfl ?_
        refine go_icmple (pc' := 75) (pcT := 81) X1 hx (hb hby at_72) rfl (by decide) (by decide) (fun c72_tt => ?_) (fun c72_tt => ?_)
        · refine JH81 T1 h1  X1 zs ?_
          · refine AIK.congr A_b1 (fun i i1 i2 => ?_)
            have k0 := own_k0
            have k1 := own_k1
            have k2 := own_k2
            have qc48 := own_geI c48
            have qc60_t := own_geI c60_t
            have qc72_tt := own_geI c72_tt
            unfold own_a3
            try simp only [k0, k1, k2]
            repeat' split
            all_goals first | rfl | (exfalso; omega)
        · refine go_aload (pc' := 77) X1 hx (hb hby at_75) rfl rfl ?_
          refine go_iconst (pc' := 78) (v := 2) X1 hx (hb hby at_77) rfl rfl ?_
          refine go_iload (pc' := 80) X1 hx (hb hby at_78) rfl rfl ?_
          refine go_iastore (pc' := 81) X1 hx hZ A_b1 g_b1 (by decide) (by have := own_ltI c72_tt; have k0 := own_k0; have k1 := own_k1; have k2 := own_k2; omega) (hb hby at_80) rfl (fun T3 h3 X3 W3 A_b1 => ?_)
          have zs := Nat.le_trans zs (Nat.le_of_eq W3.size.symm)
          refine JH81 T3 h3  X3 zs ?_
          · refine AIK.congr A_b1 (fun i i1 i2 => ?_)
            have k0 := own_k0
            have k1 := own_k1
            have k2 := own_k2
            have qc48 := own_geI c48
            have qc60_t := own_geI c60_t
            have qc72_tt := own_ltI c72_tt
            unfold own_a3
            try simp only [k0, k1, k2]
            repeat' split
            all_goals first | rfl | (exfalso; omega)
      · refine go_aload (pc' := 65) X1 hx (hb hby at_63) rfl rfl ?_
        refine go_iconst (pc' := 66) (v := 1) X1 hx (hb hby at_65) rfl rfl ?_
        refine go_iload (pc' := 68) X1 hx (hb hby at_66) rfl rfl ?_
        refine go_iastore (pc' := 69) X1 hx hZ A_b1 g_b1 (by decide) (by have := own_ltI c60_t; have k0 := own_k0; have k1 := own_k1; have k2 := own_k2; omega) (hb hby at_68) rfl (fun T4 h4 X4 W4 A_b1 => ?_)
        have zs := Nat.le_trans zs (Nat.le_of_eq W4.size.symm)
        refine go_iload (pc' := 71) X4 hx (hb hby at_69) rfl rfl ?_
        refine go_iconst (pc' := 72) (v := 2) X4 hx (hb hby at_71) rfl rfl ?_
        refine go_icmple (pc' := 75) (pcT := 81) X4 hx (hb hby at_72) rfl (by decide) (by decide) (fun c72_tf => ?_) (fun c72_tf => ?_)
        · refine JH81 T4 h4  X4 zs ?_
          · refine AIK.congr A_b1 (fun i i1 i2 => ?_)
            have k0 := own_k0
            have k1 := own_k1
            have k2 := own_k2
            have qc48 := own_geI c48
            have qc60_t := own_ltI c60_t
            have qc72_tf := own_geI c72_tf
            unfold own_a3
            try simp only [k0, k1, k2]
            repeat' split
            all_goals first | rfl | (exfalso; omega)
        · refine go_aload (pc' := 77) X4 hx (hb hby at_75) rfl rfl ?_
          refine go_iconst (pc' := 78) (v := 2) X4 hx (hb hby at_77) rfl rfl ?_
          refine go_iload (pc' := 80) X4 hx (hb hby at_78) rfl rfl ?_
          refine go_iastore (pc' := 81) X4 hx hZ A_b1 g_b1 (by decide) (by have := own_ltI c72_tf; have k0 := own_k0; have k1 := own_k1; have k2 := own_k2; omega) (hb hby at_80) rfl (fun T5 h5 X5 W5 A_b1 => ?_)
          have zs := Nat.le_trans zs (Nat.le_of_eq W5.size.symm)
          refine JH81 T5 h5  X5 zs ?_
          · refine AIK.congr A_b1 (fun i i1 i2 => ?_)
            have k0 := own_k0
            have k1 := own_k1
            have k2 := own_k2
            have qc48 := own_geI c48
            have qc60_t := own_ltI c60_t
            have qc72_tf := own_ltI c72_tf
            unfold own_a3
            try simp only [k0, k1, k2]
            repeat' split
            all_goals first | rfl | (exfalso; omega)
    · refine go_aload (pc' := 53) X1 hx (hb hby at_51) rfl rfl ?_
      refine go_iconst (pc' := 54) (v := 0) X1 hx (hb hby at_53) rfl rfl ?_
      refine go_iload (pc' := 56) X1 hx (hb hby at_54) rfl rfl ?_
      refine go_iastore (pc' := 57) X1 hx hZ A_b1 g_b1 (by decide) (by have := own_ltI c48; have k0 := own_k0; have k1 := own_k1; have k2 := own_k2; omega) (hb hby at_56) rfl (fun T6 h6 X6 W6 A_b1 => ?_)
      have zs := Nat.le_trans zs (Nat.le_of_eq W6.size.symm)
      refine go_iload (pc' := 59) X6 hx (hb hby at_57) rfl rfl ?_
      refine go_iconst (pc' := 60) (v := 1) X6 hx (hb hby at_59) rfl rfl ?_
      refine go_icmple (pc' := 63) (pcT := 69) X6 hx (hb hby at_60) rfl (by decide) (by decide) (fun c60_f => ?_) (fun c60_f => ?_)
      · refine go_iload (pc' := 71) X6 hx (hb hby at_69) rfl rfl ?_
        refine go_iconst (pc' := 72) (v := 2) X6 hx (hb hby at_71) rfl rfl ?_
        refine go_icmple (pc' := 75) (pcT := 81) X6 hx (hb hby at_72) rfl (by decide) (by decide) (fun c72_ft => ?_) (fun c72_ft => ?_)
        · refine JH81 T6 h6  X6 zs ?_
          · refine AIK.congr A_b1 (fun i i1 i2 => ?_)
            have k0 := own_k0
            have k1 := own_k1
            have k2 := own_k2
            have qc48 := own_ltI c48
            have qc60_f := own_geI c60_f
            have qc72_ft := own_geI c72_ft
            unfold own_a3
            try simp only [k0, k1, k2]
            repeat' split
            all_goals first | rfl | (exfalso; omega)
        · refine go_aload (pc' := 77) X6 hx (hb hby at_75) rfl rfl ?_
          refine go_iconst (pc' := 78) (v := 2) X6 hx (hb hby at_77) rfl rfl ?_
          refine go_iload (pc' := 80) X6 hx (hb hby at_78) rfl rfl ?_
          refine go_iastore (pc' := 81) X6 hx hZ A_b1 g_b1 (by decide) (by have := own_ltI c72_ft; have k0 := own_k0; have k1 := own_k1; have k2 := own_k2; omega) (hb hby at_80) rfl (fun T7 h7 X7 W7 A_b1 => ?_)
          have zs := Nat.le_trans zs (Nat.le_of_eq W7.size.symm)
          refine JH81 T7 h7  X7 zs ?_
          · refine AIK.congr A_b1 (fun i i1 i2 => ?_)
            have k0 := own_k0
            have k1 := own_k1
            have k2 := own_k2
            have qc48 := own_ltI c48
            have qc60_f := own_geI c60_f
            have qc72_ft := own_ltI c72_ft
            unfold own_a3
            try simp only [k0, k1, k2]
            repeat' split
            all_goals first | rfl | (exfalso; omega)
      · refine go_aload (pc' := 65) X6 hx (hb hby at_63) rfl rfl ?_
        refine go_iconst (pc' := 66) (v := 1) X6 hx (hb hby at_65) rfl rfl ?_
        refine go_iload (pc' := 68) X6 hx (hb hby at_66) rfl rfl ?_
        refine go_iastore (pc' := 69) X6 hx hZ A_b1 g_b1 (by decide) (by have := own_ltI c60_f; have k0 := own_k0; have k1 := own_k1; have k2 := own_k2; omega) (hb hby at_68) rfl (fun T8 h8 X8 W8 A_b1 => ?_)
        have zs := Nat.le_trans zs (Nat.le_of_eq W8.size.symm)
        refine go_iload (pc' := 71) X8 hx (hb hby at_69) rfl rfl ?_
        refine go_iconst (pc' := 72) (v := 2) X8 hx (hb hby at_71) rfl rfl ?_
        refine go_icmple (pc' := 75) (pcT := 81) X8 hx (hb hby at_72) rfl (by decide) (by decide) (fun c72_ff => ?_) (fun c72_ff => ?_)
        · refine JH81 T8 h8  X8 zs ?_
          · refine AIK.congr A_b1 (fun i i1 i2 => ?_)
            have k0 := own_k0
            have k1 := own_k1
            have k2 := own_k2
            have qc48 := own_ltI c48
            have qc60_f := own_ltI c60_f
            have qc72_ff := own_geI c72_ff
            unfold own_a3
            try simp only [k0, k1, k2]
            repeat' split
            all_goals first | rfl | (exfalso; omega)
        · refine go_aload (pc' := 77) X8 hx (hb hby at_75) rfl rfl ?_
          refine go_iconst (pc' := 78) (v := 2) X8 hx (hb hby at_77) rfl rfl ?_
          refine go_iload (pc' := 80) X8 hx (hb hby at_78) rfl rfl ?_
          refine go_iastore (pc' := 81) X8 hx hZ A_b1 g_b1 (by decide) (by have := own_ltI c72_ff; have k0 := own_k0; have k1 := own_k1; have k2 := own_k2; omega) (hb hby at_80) rfl (fun T9 h9 X9 W9 A_b1 => ?_)
          have zs := Nat.le_trans zs (Nat.le_of_eq W9.size.symm)
          refine JH81 T9 h9  X9 zs ?_
          · refine AIK.congr A_b1 (fun i i1 i2 => ?_)
            have k0 := own_k0
            have k1 := own_k1
            have k2 := own_k2
            have qc48 := own_ltI c48
            have qc60_f := own_ltI c60_f
            have qc72_ff := own_ltI c72_ff
            unfold own_a3
            try simp only [k0, k1, k2]
            repeat' split
            all_goals first | rfl | (exfalso; omega)
  intro T2 h2 X2 zs A_b1
  suffices J138 : ∀ (x11 : Int32), (True) → GoK p e below (DoneK s below n0 room_1.cells room_1.slots (QI (fun z _ => z = 1))) T2 (mkF m 138 #[.val (.int p0), .val (.int p1), .val (.int p2), .val (.int p3), .val (.int p4), .val (.int v5_3), .val (.int v6_10), .val (.int v7_16), .val (.int v8_27), .val (.int v9_38), .val (.ref b1), .val (.int x11), .unset, .unset] []) by
    refine go_iload (pc' := 83) X2 hx (hb hby at_81) rfl rfl ?_
    refine go_ifne (pc' := 86) (pcT := 93) X2 hx (hb hby at_83) rfl (by decide) (by decide) (fun c83 => ?_) (fun c83 => ?_)
    · refine go_iload (pc' := 95) X2 hx (hb hby at_93) rfl rfl ?_
      refine go_iconst (pc' := 96) (v := 1) X2 hx (hb hby at_95) rfl rfl ?_
      refine go_icmpne (pc' := 99) (pcT := 111) X2 hx (hb hby at_96) rfl (by decide) (by decide) (fun c96_t => ?_) (fun c96_t => ?_)
      · refine go_iload (pc' := 113) X2 hx (hb hby at_111) rfl rfl ?_
        refine go_iconst (pc' := 114) (v := 2) X2 hx (hb hby at_113) rfl rfl ?_
        refine go_icmpne (pc' := 117) (pcT := 129) X2 hx (hb hby at_114) rfl (by decide) (by decide) (fun c114_tt => ?_) (fun c114_tt => ?_)
        · refine go_iload (pc' := 131) X2 hx (hb hby at_129) rfl rfl ?_
          refine go_iload (pc' := 133) X2 hx (hb hby at_131) rfl rfl ?_
          refine go_iconst (pc' := 134) (v := 2) X2 hx (hb hby at_133) rfl rfl ?_
          refine go_irem (pc' := 135) X2 hx (hb hby at_134) rfl (by decide) ?_
          refine go_iadd (pc' := 136) X2 hx (hb hby at_135) rfl ?_
          refine go_nameI (fun v11_136_ttt hv11_136_ttt => ?_)
          refine go_istore (pc' := 138) (L' := #[.val (.int p0), .val (.int p1), .val (.int p2), .val (.int p3), .val (.int p4), .val (.int v5_3), .val (.int v6_10), .val (.int v7_16), .val (.int v8_27), .val (.int v9_38), .val (.ref b1), .val (.int v11_136_ttt), .unset, .unset]) X2 hx (hb hby at_136) rfl rfl ?_
          refine J138 v11_136_ttt  ?_
          exact trivial
        · refine go_iload (pc' := 119) X2 hx (hb hby at_117) rfl rfl ?_
          refine go_iload (pc' := 121) X2 hx (hb hby at_119) rfl rfl ?_
          refine go_iconst (pc' := 122) (v := 2) X2 hx (hb hby at_121) rfl rfl ?_
          refine go_irem (pc' := 123) X2 hx (hb hby at_122) rfl (by decide) ?_
          refine go_iadd (pc' := 124) X2 hx (hb hby at_123) rfl ?_
          refine go_nameI (fun v11_124_ttf hv11_124_ttf => ?_)
          refine go_istore (pc' := 126) (L' := #[.val (.int p0), .val (.int p1), .val (.int p2), .val (.int p3), .val (.int p4), .val (.int v5_3), .val (.int v6_10), .val (.int v7_16), .val (.int v8_27), .val (.int v9_38), .val (.ref b1), .val (.int v11_124_ttf), .unset, .unset]) X2 hx (hb hby at_124) rfl rfl ?_
          refine go_goto (pc' := 138) X2 hx (hb hby at_126) (by decide) (by decide) ?_
          refine J138 v11_124_ttf  ?_
          exact trivial
      · refine go_iload (pc' := 101) X2 hx (hb hby at_99) rfl rfl ?_
        refine go_iload (pc' := 103) X2 hx (hb hby at_101) rfl rfl ?_
        refine go_iconst (pc' := 104) (v := 2) X2 hx (hb hby at_103) rfl rfl ?_
        refine go_irem (pc' := 105) X2 hx (hb hby at_104) rfl (by decide) ?_
        refine go_iadd (pc' := 106) X2 hx (hb hby at_105) rfl ?_
        refine go_nameI (fun v11_106_tf hv11_106_tf => ?_)
        refine go_istore (pc' := 108) (L' := #[.val (.int p0), .val (.int p1), .val (.int p2), .val (.int p3), .val (.int p4), .val (.int v5_3), .val (.int v6_10), .val (.int v7_16), .val (.int v8_27), .val (.int v9_38), .val (.ref b1), .val (.int v11_106_tf), .unset, .unset]) X2 hx (hb hby at_106) rfl rfl ?_
        refine go_goto (pc' := 138) X2 hx (hb hby at_108) (by decide) (by decide) ?_
        refine J138 v11_106_tf  ?_
        exact trivial
    · refine go_iload (pc' := 88) X2 hx (hb hby at_86) rfl rfl ?_
      refine go_istore (pc' := 90) (L' := #[.val (.int p0), .val (.int p1), .val (.int p2), .val (.int p3), .val (.int p4), .val (.int v5_3), .val (.int v6_10), .val (.int v7_16), .val (.int v8_27), .val (.int v9_38), .val (.ref b1), .val (.int p4), .unset, .unset]) X2 hx (hb hby at_88) rfl rfl ?_
      refine go_goto (pc' := 138) X2 hx (hb hby at_90) (by decide) (by decide) ?_
      refine J138 p4  ?_
      exact trivial
  intro x11 j138
  refine go_new (pc' := 141) (cells' := 2) (slots' := 7) X2 hx hZ hown (hw _ (List.mem_of_getElem? (i := 2) rfl)) (hw _ (List.mem_of_getElem? (i := 3) rfl)) (hw _ (List.mem_of_getElem? (i := 4) rfl)) (hb hby at_138) rfl (by decide) (by decide) rfl rfl (fun T10 h10 b10 eb10 X10 E10 E_b10 Dv10 => ?_)
  have g_b10 : n0 ≤ b10 := by rw [eb10]; exact zs
  have ne_b1_b10 : b1 ≠ b10 := by rw [eb10]; exact Nat.ne_of_lt (A_b1.lt)
  have ne_b10_b1 := ne_b1_b10.symm
  have A_b1 := A_b1.ext E10
  have zs := Nat.le_trans zs E10.1
  have F_b10_rewritten : Fld Z h10 b10 "com/example/denary/denary/analysis/DigitChanges" "rewritten" "[I" (.null) := Dv10 (Or.inr (hw _ (List.mem_of_getElem? (i := 17) rfl))) (ty := (.array .int)) (by decide)
  have F_b10_strings : Fld Z h10 b10 "com/example/denary/denary/analysis/DigitChanges" "strings" "[I" (.null) := Dv10 (Or.inr (hw _ (List.mem_of_getElem? (i := 19) rfl))) (ty := (.array .int)) (by decide)
  have F_b10_from : Fld Z h10 b10 "com/example/denary/denary/analysis/DigitChanges" "from" "[I" (.null) := Dv10 (Or.inr (hw _ (List.mem_of_getElem? (i := 21) rfl))) (ty := (.array .int)) (by decide)
  have F_b10_to : Fld Z h10 b10 "com/example/denary/denary/analysis/DigitChanges" "to" "[I" (.null) := Dv10 (Or.inr (hw _ (List.mem_of_getElem? (i := 23) rfl))) (ty := (.array .int)) (by decide)
  refine go_dup (pc' := 142) X10 hx (hb hby at_141) rfl rfl ?_
  refine go_aload (pc' := 144) X10 hx (hb hby at_142) rfl rfl ?_
  refine go_iconst (pc' := 145) (v := 0) X10 hx (hb hby at_144) rfl rfl ?_
  refine go_newI (pc' := 147) (cap := 0) (n := 0) (cells' := 3) (slots' := 7) X10 hx hZ (hw _ (List.mem_of_getElem? (i := 1) rfl)) (hb hby at_145) rfl rfl (by decide) (by decide) (by decide) (by decide) (by decide) rfl rfl (fun T11 h11 b11 eb11 X11 E11 A_b11 => ?_)
  have g_b11 : n0 ≤ b11 := by rw [eb11]; exact zs
  have ne_b1_b11 : b1 ≠ b11 := by rw [eb11]; exact Nat.ne_of_lt (A_b1.lt)
  have ne_b11_b1 := ne_b1_b11.symm
  have ne_b10_b11 : b10 ≠ b11 := by rw [eb11]; exact Nat.ne_of_lt (E_b10.lt)
  have ne_b11_b10 := ne_b10_b11.symm
  have A_b1 := A_b1.ext E11
  have E_b10 := E_b10.ext E11
  have F_b10_rewritten := F_b10_rewritten.ext E11
  have F_b10_strings := F_b10_strings.ext E11
  have F_b10_from := F_b10_from.ext E11
  have F_b10_to := F_b10_to.ext E11
  have zs := Nat.le_trans zs E11.1
  refine go_iconst (pc' := 148) (v := 0) X11 hx (hb hby at_147) rfl rfl ?_
  refine go_newI (pc' := 150) (cap := 0) (n := 0) (cells' := 4) (slots' := 7) X11 hx hZ (hw _ (List.mem_of_getElem? (i := 1) rfl)) (hb hby at_148) rfl rfl (by decide) (by decide) (by decide) (by decide) (by decide) rfl rfl (fun T12 h12 b12 eb12 X12 E12 A_b12 => ?_)
  have g_b12 : n0 ≤ b12 := by rw [eb12]; exact zs
  have ne_b1_b12 : b1 ≠ b12 := by rw [eb12]; exact Nat.ne_of_lt (A_b1.lt)
  have ne_b12_b1 := ne_b1_b12.symm
  have ne_b10_b12 : b10 ≠ b12 := by rw [eb12]; exact Nat.ne_of_lt (E_b10.lt)
  have ne_b12_b10 := ne_b10_b12.symm
  have ne_b11_b12 : b11 ≠ b12 := by rw [eb12]; exact Nat.ne_of_lt (A_b11.lt)
  have ne_b12_b11 := ne_b11_b12.symm
  have A_b1 := A_b1.ext E12
  have E_b10 := E_b10.ext E12
  have F_b10_rewritten := F_b10_rewritten.ext E12
  have F_b10_strings := F_b10_strings.ext E12
  have F_b10_from := F_b10_from.ext E12
  have F_b10_to := F_b10_to.ext E12
  have A_b11 := A_b11.ext E12
  have zs := Nat.le_trans zs E12.1
  refine go_iconst (pc' := 151) (v := 0) X12 hx (hb hby at_150) rfl rfl ?_
  refine go_newI (pc' := 153) (cap := 0) (n := 0) (cells' := 5) (slots' := 7) X12 hx hZ (hw _ (List.mem_of_getElem? (i := 1) rfl)) (hb hby at_151) rfl rfl (by decide) (by decide) (by decide) (by decide) (by decide) rfl rfl (fun T13 h13 b13 eb13 X13 E13 A_b13 => ?_)
  have g_b13 : n0 ≤ b13 := by rw [eb13]; exact zs
  have ne_b1_b13 : b1 ≠ b13 := by rw [eb13]; exact Nat.ne_of_lt (A_b1.lt)
  have ne_b13_b1 := ne_b1_b13.symm
  have ne_b10_b13 : b10 ≠ b13 := by rw [eb13]; exact Nat.ne_of_lt (E_b10.lt)
  have ne_b13_b10 := ne_b10_b13.symm
  have ne_b11_b13 : b11 ≠ b13 := by rw [eb13]; exact Nat.ne_of_lt (A_b11.lt)
  have ne_b13_b11 := ne_b11_b13.symm
  have ne_b12_b13 : b12 ≠ b13 := by rw [eb13]; exact Nat.ne_of_lt (A_b12.lt)
  have ne_b13_b12 := ne_b12_b13.symm
  have A_b1 := A_b1.ext E13
  have E_b10 := E_b10.ext E13
  have F_b10_rewritten := F_b10_rewritten.ext E13
  have F_b10_strings := F_b10_strings.ext E13
  have F_b10_from := F_b10_from.ext E13
  have F_b10_to := F_b10_to.ext E13
  have A_b11 := A_b11.ext E13
  have A_b12 := A_b12.ext E13
  have zs := Nat.le_trans zs E13.1
  refine go_callC (pc' := 156) (W := 1) (cells' := 5) (slots' := 7) (rm := ({ frames := 2, cells := 0, slots := 0, locals := 24 } : Room)) (aL := [.ref b1, .ref b11, .ref b12, .ref b13]) (St := [.ref b10]) X13 hx hZ hown (by rw [hml]; rfl) rfl (hw _ (List.mem_of_getElem? (i := 5) rfl)) (hw _ (List.mem_of_getElem? (i := 6) rfl)) (hw _ (List.mem_of_getElem? (i := 4) rfl)) (hw _ (List.mem_of_getElem? (i := 7) rfl)) (by decide) pd_1 rfl (ct_1 l Z a0 hw zs b10 b1 b11 b12 b13 _ _ _ _ E_b10 g_b10 F_b10_rewritten F_b10_strings F_b10_from F_b10_to ) (hb hby at_153) rfl (by decide) (Nat.le_of_eq rfl) (by decide) (by decide) (by decide) rfl rfl (fun T14 h14 v14 X14 Q14 => ?_) rfl
  obtain ⟨rfl, Kc14, Ec14, Fc14_rewritten⟩ := Q14
  have A_b1 := A_b1.keep Kc14 (ninS ne_b1_b10 nin0)
  have A_b11 := A_b11.keep Kc14 (ninS ne_b11_b10 nin0)
  have A_b12 := A_b12.keep Kc14 (ninS ne_b12_b10 nin0)
  have A_b13 := A_b13.keep Kc14 (ninS ne_b13_b10 nin0)
  have zs := Nat.le_trans zs Kc14.1
  show GoK p e below _ T14 (mkF m 156 #[.val (.int p0), .val (.int p1), .val (.int p2), .val (.int p3), .val (.int p4), .val (.int v5_3), .val (.int v6_10), .val (.int v7_16), .val (.int v8_27), .val (.int v9_38), .val (.ref b1), .val (.int x11), .unset, .unset] [.ref b10])
  refine go_astore (pc' := 158) (L' := #[.val (.int p0), .val (.int p1), .val (.int p2), .val (.int p3), .val (.int p4), .val (.int v5_3), .val (.int v6_10), .val (.int v7_16), .val (.int v8_27), .val (.int v9_38), .val (.ref b1), .val (.int x11), .val (.ref b10), .unset]) X14 hx (hb hby at_156) rfl rfl ?_
  suffices J203 : ∀ (x13 : Int32), ((x13 = 1 ∧ own_mem (own_a3 v7_16 v8_27 v9_38) v5_3.toInt x11) ∨ (x13 = 0 ∧ ¬ own_mem (own_a3 v7_16 v8_27 v9_38) v5_3.toInt x11)) → GoK p e below (DoneK s below n0 room_1.cells room_1.slots (QI (fun z _ => z = 1))) T14 (mkF m 203 #[.val (.int p0), .val (.int p1), .val (.int p2), .val (.int p3), .val (.int p4), .val (.int v5_3), .val (.int v6_10), .val (.int v7_16), .val (.int v8_27), .val (.int v9_38), .val (.ref b1), .val (.int x11), .val (.ref b10), .val (.int x13)] []) by
    refine go_iload (pc' := 160) X14 hx (hb hby at_158) rfl rfl ?_
    refine go_ifle (pc' := 163) (pcT := 170) X14 hx (hb hby at_160) rfl (by decide) (by decide) (fun c160 => ?_) (fun c160 => ?_)
    · refine go_iload (pc' := 172) X14 hx (hb hby at_170) rfl rfl ?_
      refine go_iconst (pc' := 173) (v := 1) X14 hx (hb hby at_172) rfl rfl ?_
      refine go_icmple (pc' := 176) (pcT := 183) X14 hx (hb hby at_173) rfl (by decide) (by decide) (fun c173_t => ?_) (fun c173_t => ?_)
      · refine go_iload (pc' := 185) X14 hx (hb hby at_183) rfl rfl ?_
        refine go_iconst (pc' := 186) (v := 2) X14 hx (hb hby at_185) rfl rfl ?_
        refine go_icmple (pc' := 189) (pcT := 200) X14 hx (hb hby at_186) rfl (by decide) (by decide) (fun c186_tt => ?_) (fun c186_tt => ?_)
        · refine go_iconst (pc' := 201) (v := 0) X14 hx (hb hby at_200) rfl rfl ?_
          refine go_istore (pc' := 203) (L' := #[.val (.int p0), .val (.int p1), .val (.int p2), .val (.int p3), .val (.int p4), .val (.int v5_3), .val (.int v6_10), .val (.int v7_16), .val (.int v8_27), .val (.int v9_38), .val (.ref b1), .val (.int x11), .val (.ref b10), .val (.int (0 : Int32))]) X14 hx (hb hby at_201) rfl rfl ?_
          refine J203 (0 : Int32)  ?_
          exact Or.inr ⟨rfl, own_no hn2 (fun w => absurd w (by have := own_geI c160; have k0 := own_k0; have k1 := own_k1; have k2 := own_k2; omega)) (fun w => absurd w (by have := own_geI c173_t; have k0 := own_k0; have k1 := own_k1; have k2 := own_k2; omega)) (fun w => absurd w (by have := own_geI c186_tt; have k0 := own_k0; have k1 := own_k1; have k2 := own_k2; omega))⟩
        · refine go_iload (pc' := 191) X14 hx (hb hby at_189) rfl rfl ?_
          refine go_iload (pc' := 193) X14 hx (hb hby at_191) rfl rfl ?_
          refine go_icmpne (pc' := 196) (pcT := 200) X14 hx (hb hby at_193) rfl (by decide) (by decide) (fun c193_ttf => ?_) (fun c193_ttf => ?_)
          · refine go_iconst (pc' := 201) (v := 0) X14 hx (hb hby at_200) rfl rfl ?_
            refine go_istore (pc' := 203) (L' := #[.val (.int p0), .val (.int p1), .val (.int p2), .val (.int p3), .val (.int p4), .val (.int v5_3), .val (.int v6_10), .val (.int v7_16), .val (.int v8_27), .val (.int v9_38), .val (.ref b1), .val (.int x11), .val (.ref b10), .val (.int (0 : Int32))]) X14 hx (hb hby at_201) rfl rfl ?_
            refine J203 (0 : Int32)  ?_
            exact Or.inr ⟨rfl, own_no hn2 (fun w => absurd w (by have := own_geI c160; have k0 := own_k0; have k1 := own_k1; have k2 := own_k2; omega)) (fun w => absurd w (by have := own_geI c173_t; have k0 := own_k0; have k1 := own_k1; have k2 := own_k2; omega)) (fun _ => c193_ttf)⟩
          · refine go_iconst (pc' := 197) (v := 1) X14 hx (hb hby at_196) rfl rfl ?_
            refine go_goto (pc' := 201) X14 hx (hb hby at_197) (by decide) (by decide) ?_
            refine go_istore (pc' := 203) (L' := #[.val (.int p0), .val (.int p1), .val (.int p2), .val (.int p3), .val (.int p4), .val (.int v5_3), .val (.int v6_10), .val (.int v7_16), .val (.int v8_27), .val (.int v9_38), .val (.ref b1), .val (.int x11), .val (.ref b10), .val (.int (1 : Int32))]) X14 hx (hb hby at_201) rfl rfl ?_
            refine J203 (1 : Int32)  ?_
            exact Or.inl ⟨rfl, own_y2 (by have := own_ltI c186_tt; have k0 := own_k0; have k1 := own_k1; have k2 := own_k2; omega) c193_ttf⟩
      · refine go_iload (pc' := 178) X14 hx (hb hby at_176) rfl rfl ?_
        refine go_iload (pc' := 180) X14 hx (hb hby at_178) rfl rfl ?_
        refine go_icmpeq (pc' := 183) (pcT := 196) X14 hx (hb hby at_180) rfl (by decide) (by decide) (fun c180_tf => ?_) (fun c180_tf => ?_)
        · refine go_iconst (pc' := 197) (v := 1) X14 hx (hb hby at_196) rfl rfl ?_
          refine go_goto (pc' := 201) X14 hx (hb hby at_197) (by decide) (by decide) ?_
          refine go_istore (pc' := 203) (L' := #[.val (.int p0), .val (.int p1), .val (.int p2), .val (.int p3), .val (.int p4), .val (.int v5_3), .val (.int v6_10), .val (.int v7_16), .val (.int v8_27), .val (.int v9_38), .val (.ref b1), .val (.int x11), .val (.ref b10), .val (.int (1 : Int32))]) X14 hx (hb hby at_201) rfl rfl ?_
          refine J203 (1 : Int32)  ?_
          exact Or.inl ⟨rfl, own_y1 (by have := own_ltI c173_t; have k0 := own_k0; have k1 := own_k1; have k2 := own_k2; omega) c180_tf⟩
        · refine go_iload (pc' := 185) X14 hx (hb hby at_183) rfl rfl ?_
          refine go_iconst (pc' := 186) (v := 2) X14 hx (hb hby at_185) rfl rfl ?_
          refine go_icmple (pc' := 189) (pcT := 200) X14 hx (hb hby at_186) rfl (by decide) (by decide) (fun c186_tff => ?_) (fun c186_tff => ?_)
          · refine go_iconst (pc' := 201) (v := 0) X14 hx (hb hby at_200) rfl rfl ?_
            refine go_istore (pc' := 203) (L' := #[.val (.int p0), .val (.int p1), .val (.int p2), .val (.int p3), .val (.int p4), .val (.int v5_3), .val (.int v6_10), .val (.int v7_16), .val (.int v8_27), .val (.int v9_38), .val (.ref b1), .val (.int x11), .val (.ref b10), .val (.int (0 : Int32))]) X14 hx (hb hby at_201) rfl rfl ?_
            refine J203 (0 : Int32)  ?_
            exact Or.inr ⟨rfl, own_no hn2 (fun w => absurd w (by have := own_geI c160; have k0 := own_k0; have k1 := own_k1; have k2 := own_k2; omega)) (fun _ => c180_tf) (fun w => absurd w (by have := own_geI c186_tff; have k0 := own_k0; have k1 := own_k1; have k2 := own_k2; omega))⟩
          · refine go_iload (pc' := 191) X14 hx (hb hby at_189) rfl rfl ?_
            refine go_iload (pc' := 193) X14 hx (hb hby at_191) rfl rfl ?_
            refine go_icmpne (pc' := 196) (pcT := 200) X14 hx (hb hby at_193) rfl (by decide) (by decide) (fun c193_tfff => ?_) (fun c193_tfff => ?_)
            · refine go_iconst (pc' := 201) (v := 0) X14 hx (hb hby at_200) rfl rfl ?_
              refine go_istore (pc' := 203) (L' := #[.val (.int p0), .val (.int p1), .val (.int p2), .val (.int p3), .val (.int p4), .val (.int v5_3), .val (.int v6_10), .val (.int v7_16), .val (.int v8_27), .val (.int v9_38), .val (.ref b1), .val (.int x11), .val (.ref b10), .val (.int (0 : Int32))]) X14 hx (hb hby at_201) rfl rfl ?_
              refine J203 (0 : Int32)  ?_
              exact Or.inr ⟨rfl, own_no hn2 (fun w => absurd w (by have := own_geI c160; have k0 := own_k0; have k1 := own_k1; have k2 := own_k2; omega)) (fun _ => c180_tf) (fun _ => c193_tfff)⟩
            · refine go_iconst (pc' := 197) (v := 1) X14 hx (hb hby at_196) rfl rfl ?_
              refine go_goto (pc' := 201) X14 hx (hb hby at_197) (by decide) (by decide) ?_
              refine go_istore (pc' := 203) (L' := #[.val (.int p0), .val (.int p1), .val (.int p2), .val (.int p3), .val (.int p4), .val (.int v5_3), .val (.int v6_10), .val (.int v7_16), .val (.int v8_27), .val (.int v9_38), .val (.ref b1), .val (.int x11), .val (.ref b10), .val (.int (1 : Int32))]) X14 hx (hb hby at_201) rfl rfl ?_
              refine J203 (1 : Int32)  ?_
              exact Or.inl ⟨rfl, own_y2 (by have := own_ltI c186_tff; have k0 := own_k0; have k1 := own_k1; have k2 := own_k2; omega) c193_tfff⟩
    · refine go_iload (pc' := 165) X14 hx (hb hby at_163) rfl rfl ?_
      refine go_iload (pc' := 167) X14 hx (hb hby at_165) rfl rfl ?_
      refine go_icmpeq (pc' := 170) (pcT := 196) X14 hx (hb hby at_167) rfl (by decide) (by decide) (fun c167_f => ?_) (fun c167_f => ?_)
      · refine go_iconst (pc' := 197) (v := 1) X14 hx (hb hby at_196) rfl rfl ?_
        refine go_goto (pc' := 201) X14 hx (hb hby at_197) (by decide) (by decide) ?_
        refine go_istore (pc' := 203) (L' := #[.val (.int p0), .val (.int p1), .val (.int p2), .val (.int p3), .val (.int p4), .val (.int v5_3), .val (.int v6_10), .val (.int v7_16), .val (.int v8_27), .val (.int v9_38), .val (.ref b1), .val (.int x11), .val (.ref b10), .val (.int (1 : Int32))]) X14 hx (hb hby at_201) rfl rfl ?_
        refine J203 (1 : Int32)  ?_
        exact Or.inl ⟨rfl, own_y0 (by have := own_ltI c160; have k0 := own_k0; have k1 := own_k1; have k2 := own_k2; omega) c167_f⟩
      · refine go_iload (pc' := 172) X14 hx (hb hby at_170) rfl rfl ?_
        refine go_iconst (pc' := 173) (v := 1) X14 hx (hb hby at_172) rfl rfl ?_
        refine go_icmple (pc' := 176) (pcT := 183) X14 hx (hb hby at_173) rfl (by decide) (by decide) (fun c173_ff => ?_) (fun c173_ff => ?_)
        · refine go_iload (pc' := 185) X14 hx (hb hby at_183) rfl rfl ?_
          refine go_iconst (pc' := 186) (v := 2) X14 hx (hb hby at_185) rfl rfl ?_
          refine go_icmple (pc' := 189) (pcT := 200) X14 hx (hb hby at_186) rfl (by decide) (by decide) (fun c186_fft => ?_) (fun c186_fft => ?_)
          · refine go_iconst (pc' := 201) (v := 0) X14 hx (hb hby at_200) rfl rfl ?_
            refine go_istore (pc' := 203) (L' := #[.val (.int p0), .val (.int p1), .val (.int p2), .val (.int p3), .val (.int p4), .val (.int v5_3), .val (.int v6_10), .val (.int v7_16), .val (.int v8_27), .val (.int v9_38), .val (.ref b1), .val (.int x11), .val (.ref b10), .val (.int (0 : Int32))]) X14 hx (hb hby at_201) rfl rfl ?_
            refine J203 (0 : Int32)  ?_
            exact Or.inr ⟨rfl, own_no hn2 (fun _ => c167_f) (fun w => absurd w (by have := own_geI c173_ff; have k0 := own_k0; have k1 := own_k1; have k2 := own_k2; omega)) (fun w => absurd w (by have := own_geI c186_fft; have k0 := own_k0; have k1 := own_k1; have k2 := own_k2; omega))⟩
          · refine go_iload (pc' := 191) X14 hx (hb hby at_189) rfl rfl ?_
            refine go_iload (pc' := 193) X14 hx (hb hby at_191) rfl rfl ?_
            refine go_icmpne (pc' := 196) (pcT := 200) X14 hx (hb hby at_193) rfl (by decide) (by decide) (fun c193_fftf => ?_) (fun c193_fftf => ?_)
            · refine go_iconst (pc' := 201) (v := 0) X14 hx (hb hby at_200) rfl rfl ?_
              refine go_istore (pc' := 203) (L' := #[.val (.int p0), .val (.int p1), .val (.int p2), .val (.int p3), .val (.int p4), .val (.int v5_3), .val (.int v6_10), .val (.int v7_16), .val (.int v8_27), .val (.int v9_38), .val (.ref b1), .val (.int x11), .val (.ref b10), .val (.int (0 : Int32))]) X14 hx (hb hby at_201) rfl rfl ?_
              refine J203 (0 : Int32)  ?_
              exact Or.inr ⟨rfl, own_no hn2 (fun _ => c167_f) (fun w => absurd w (by have := own_geI c173_ff; have k0 := own_k0; have k1 := own_k1; have k2 := own_k2; omega)) (fun _ => c193_fftf)⟩
            · refine go_iconst (pc' := 197) (v := 1) X14 hx (hb hby at_196) rfl rfl ?_
              refine go_goto (pc' := 201) X14 hx (hb hby at_197) (by decide) (by decide) ?_
              refine go_istore (pc' := 203) (L' := #[.val (.int p0), .val (.int p1), .val (.int p2), .val (.int p3), .val (.int p4), .val (.int v5_3), .val (.int v6_10), .val (.int v7_16), .val (.int v8_27), .val (.int v9_38), .val (.ref b1), .val (.int x11), .val (.ref b10), .val (.int (1 : Int32))]) X14 hx (hb hby at_201) rfl rfl ?_
              refine J203 (1 : Int32)  ?_
              exact Or.inl ⟨rfl, own_y2 (by have := own_ltI c186_fft; have k0 := own_k0; have k1 := own_k1; have k2 := own_k2; omega) c193_fftf⟩
        · refine go_iload (pc' := 178) X14 hx (hb hby at_176) rfl rfl ?_
          refine go_iload (pc' := 180) X14 hx (hb hby at_178) rfl rfl ?_
          refine go_icmpeq (pc' := 183) (pcT := 196) X14 hx (hb hby at_180) rfl (by decide) (by decide) (fun c180_fff => ?_) (fun c180_fff => ?_)
          · refine go_iconst (pc' := 197) (v := 1) X14 hx (hb hby at_196) rfl rfl ?_
            refine go_goto (pc' := 201) X14 hx (hb hby at_197) (by decide) (by decide) ?_
            refine go_istore (pc' := 203) (L' := #[.val (.int p0), .val (.int p1), .val (.int p2), .val (.int p3), .val (.int p4), .val (.int v5_3), .val (.int v6_10), .val (.int v7_16), .val (.int v8_27), .val (.int v9_38), .val (.ref b1), .val (.int x11), .val (.ref b10), .val (.int (1 : Int32))]) X14 hx (hb hby at_201) rfl rfl ?_
            refine J203 (1 : Int32)  ?_
            exact Or.inl ⟨rfl, own_y1 (by have := own_ltI c173_ff; have k0 := own_k0; have k1 := own_k1; have k2 := own_k2; omega) c180_fff⟩
          · refine go_iload (pc' := 185) X14 hx (hb hby at_183) rfl rfl ?_
            refine go_iconst (pc' := 186) (v := 2) X14 hx (hb hby at_185) rfl rfl ?_
            refine go_icmple (pc' := 189) (pcT := 200) X14 hx (hb hby at_186) rfl (by decide) (by decide) (fun c186_ffff => ?_) (fun c186_ffff => ?_)
            · refine go_iconst (pc' := 201) (v := 0) X14 hx (hb hby at_200) rfl rfl ?_
              refine go_istore (pc' := 203) (L' := #[.val (.int p0), .val (.int p1), .val (.int p2), .val (.int p3), .val (.int p4), .val (.int v5_3), .val (.int v6_10), .val (.int v7_16), .val (.int v8_27), .val (.int v9_38), .val (.ref b1), .val (.int x11), .val (.ref b10), .val (.int (0 : Int32))]) X14 hx (hb hby at_201) rfl rfl ?_
              refine J203 (0 : Int32)  ?_
              exact Or.inr ⟨rfl, own_no hn2 (fun _ => c167_f) (fun _ => c180_fff) (fun w => absurd w (by have := own_geI c186_ffff; have k0 := own_k0; have k1 := own_k1; have k2 := own_k2; omega))⟩
            · refine go_iload (pc' := 191) X14 hx (hb hby at_189) rfl rfl ?_
              refine go_iload (pc' := 193) X14 hx (hb hby at_191) rfl rfl ?_
              refine go_icmpne (pc' := 196) (pcT := 200) X14 hx (hb hby at_193) rfl (by decide) (by decide) (fun c193_fffff => ?_) (fun c193_fffff => ?_)
              · refine go_iconst (pc' := 201) (v := 0) X14 hx (hb hby at_200) rfl rfl ?_
                refine go_istore (pc' := 203) (L' := #[.val (.int p0), .val (.int p1), .val (.int p2), .val (.int p3), .val (.int p4), .val (.int v5_3), .val (.int v6_10), .val (.int v7_16), .val (.int v8_27), .val (.int v9_38), .val (.ref b1), .val (.int x11), .val (.ref b10), .val (.int (0 : Int32))]) X14 hx (hb hby at_201) rfl rfl ?_
                refine J203 (0 : Int32)  ?_
                exact Or.inr ⟨rfl, own_no hn2 (fun _ => c167_f) (fun _ => c180_fff) (fun _ => c193_fffff)⟩
              · refine go_iconst (pc' := 197) (v := 1) X14 hx (hb hby at_196) rfl rfl ?_
                refine go_goto (pc' := 201) X14 hx (hb hby at_197) (by decide) (by decide) ?_
                refine go_istore (pc' := 203) (L' := #[.val (.int p0), .val (.int p1), .val (.int p2), .val (.int p3), .val (.int p4), .val (.int v5_3), .val (.int v6_10), .val (.int v7_16), .val (.int v8_27), .val (.int v9_38), .val (.ref b1), .val (.int x11), .val (.ref b10), .val (.int (1 : Int32))]) X14 hx (hb hby at_201) rfl rfl ?_
                refine J203 (1 : Int32)  ?_
                exact Or.inl ⟨rfl, own_y2 (by have := own_ltI c186_ffff; have k0 := own_k0; have k1 := own_k1; have k2 := own_k2; omega) c193_fffff⟩
  intro x13 j203
  refine go_aload (pc' := 205) X14 hx (hb hby at_203) rfl rfl ?_
  refine go_iload (pc' := 207) X14 hx (hb hby at_205) rfl rfl ?_
  refine go_callV (pc' := 210) (W := 0) (cells' := 5) (slots' := 7) (rm := ({ frames := 0, cells := 0, slots := 0, locals := 0 } : Room)) (aL := [.int x11]) (St := []) X14 hx hZ hown (by rw [hml]; rfl) Ec14 (hw _ (List.mem_of_getElem? (i := 24) rfl)) (hw _ (List.mem_of_getElem? (i := 25) rfl)) (hw _ (List.mem_of_getElem? (i := 27) rfl)) (hw _ (List.mem_of_getElem? (i := 26) rfl)) (hw _ (List.mem_of_getElem? (i := 4) rfl)) (hw _ (List.mem_of_getElem? (i := 28) rfl)) (by decide) pd_2 rfl (ct_4 l Z a0 hw zs b10 x11 _ _ _ Fc14_rewritten A_b1) (hb hby at_207) rfl (by decide) (Nat.le_of_eq rfl) (by decide) (by decide) (by decide) rfl rfl (fun T15 h15 v15 X15 Q15 => ?_) rfl
  obtain ⟨z15, rfl, hz15, eh15⟩ := Q15
  subst h15
  show GoK p e below _ T15 (mkF m 210 #[.val (.int p0), .val (.int p1), .val (.int p2), .val (.int p3), .val (.int p4), .val (.int v5_3), .val (.int v6_10), .val (.int v7_16), .val (.int v8_27), .val (.int v9_38), .val (.ref b1), .val (.int x11), .val (.ref b10), .val (.int x13)] [.int z15])
  refine go_iload (pc' := 212) X15 hx (hb hby at_210) rfl rfl ?_
  refine go_icmpne (pc' := 215) (pcT := 219) X15 hx (hb hby at_212) rfl (by decide) (by decide) (fun c212 => (by exfalso; exact c212 (own_same hz15 j203))) (fun c212 => ?_)
  refine go_iconst (pc' := 216) (v := 1) X15 hx (hb hby at_215) rfl rfl ?_
  refine go_goto (pc' := 220) X15 hx (hb hby at_216) (by decide) (by decide) ?_
  refine go_retN (t := .boolean) X15 hx hret (by simp) hlk (hb hby at_220) (by decide) (by decide) ?_
  exact rfl
set_option maxRecDepth 65536 in
set_option maxHeartbeats 40000000 in
theorem comes_1 {Post : Tables → Env → Array Value → State → Outcome → State → Prop} (hpost : ∀ tb e args s v u, (limb_1_1.after args s (.returned v) u = true ∧ limb_1_2.after args s (.returned v) u = true ∧ True) → FrameEnd s (.returned v) u (Jvm.fieldLocs frame_1_writes args s ++ Jvm.arrayLocs frame_1_arrays args s ++ Jvm.staticLocs frame_1_statics s) 24 128 → Post tb e args s (.returned v) u) :
    ArmFor flags0 classFile x code maxLocals ret World_1 tables_1 room_1 Calls_1 rest_1 Pre_1 Post := by
  intro l hfl _ _ p e ha hc hk s m args below hf hA hF happ hP
  obtain ⟨hcalls, hrest, hpre⟩ := hP
  obtain ⟨-, -, -, hnamed, -, -, -, hat⟩ := (Spec.applies_iff hf).mp happ
  obtain ⟨hg, hn⟩ := and_e (Cond.before_iff.mp (show (Jvm.Cond.and given_1 narrow_1).before args s = true from hpre))
  obtain ⟨g1, g2⟩ := and_e hg
  obtain ⟨g3, g4⟩ := and_e g2
  obtain ⟨g5, g6⟩ := and_e g4
  obtain ⟨g7, g8⟩ := and_e g6
  obtain ⟨g9, g10⟩ := and_e g8
  obtain ⟨w0, w1, w2, w3, w4, rfl⟩ : ∃ w0 w1 w2 w3 w4 : Value, args = #[w0, w1, w2, w3, w4] := by
    have hs : args.size = 5 := by simpa [Cond.value, given_1] using g1
    obtain ⟨L⟩ := args
    match L, hs with
    | [w0, w1, w2, w3, w4], _ => exact ⟨w0, w1, w2, w3, w4, rfl⟩
  have hw := fun d (hd : d ∈ tables_1) => atoms_spec (ws := Jvm.Cond.code x code maxLocals ret :: tables_1) hat d (List.mem_cons_of_mem _ hd)
  obtain ⟨i0, ei0⟩ := is_v g3
  obtain rfl : w0 = (.int i0) := Option.some.inj ei0
  obtain ⟨i1, ei1⟩ := is_v g5
  obtain rfl : w1 = (.int i1) := Option.some.inj ei1
  obtain ⟨i2, ei2⟩ := is_v g7
  obtain rfl : w2 = (.int i2) := Option.some.inj ei2
  obtain ⟨i3, ei3⟩ := is_v g9
  obtain rfl : w3 = (.int i3) := Option.some.inj ei3
  obtain ⟨i4, ei4⟩ := is_v g10
  obtain rfl : w4 = (.int i4) := Option.some.inj ei4
  obtain ⟨n, o, h1, h2, h3, _, L, rfl, ⟨⟨_, rfl, rfl⟩, N⟩, hq⟩ := ct_0 l s _ hw (h0 := s.heap) (n0 := s.heap.size) (Nat.le_refl _) i0 i1 i2 i3 i4 tables_1 p e ha hc hk s m _ below hf ((Spec.applies_iff_loose hf).mp happ).1 ⟨rfl, State.Warmed39.refl s, rfl⟩ trivial
  refine ⟨n, _, h1, h2, h3, hpost _ _ _ _ _ _ ⟨Cond.after_iff.mpr rfl, Cond.after_iff.mpr (eq_i res_at (Term.int_eval (1)) rfl), trivial⟩ ⟨hq.1, hq.2.1, (hq.2.2.sift fun y hy => Or.inr (N y hy)).mono (by decide) (by decide)⟩⟩
theorem main_1_1 : Claimed_1_1 := comes_1 fun _ _ _ _ _ _ h hF => ⟨h.1, hF⟩
theorem main_1_2 : Claimed_1_2 := comes_1 fun _ _ _ _ _ _ h hF => ⟨h.2.1, hF⟩
end Jvm.Pilot.@@N@@
namespace Jvm.Pilot.@@N@@
open Jvm Jvm.ClassFile Sem Op Lib Jvm.Free Jvm.Stand Jvm.Pilot.@@N@@.Jvm.D
/-! MADE BY PROGRAM (witnessworld.py) out of the Statement's table words and the real class files: 11 classes; the members and pool entries that the words name. The judged class is class 1, her method 1. -/
namespace start1
open Jvm.ClassFile
def u (s : String) : CpInfo := .utf8 (stringToUtf16 s)
/-- a pool by its gaps: so many unusable entries, then the entry; so many at the end -/
def gap : Nat → List CpInfo → List CpInfo
  | 0, r => r
  | n + 1, r => .unusable :: gap n r
def poolList (es : List (Nat × CpInfo)) (last : Nat) : List CpInfo := es.foldr (fun e r => gap e.1 (e.2 :: r)) (gap last [])
def pool (es : List (Nat × CpInfo)) (last : Nat) : Array CpInfo := ⟨poolList es last⟩
def fileOf (pool : Array CpInfo) (this : Nat) (attrs : Array Attribute := #[]) (ms : Array MethodInfo := #[]) (fl : Nat := 33) (sup : Nat := 0) (ifs : Array Nat := #[]) (fds : Array FieldInfo := #[]) : ClassFile where
  minorVersion := 0
  majorVersion := 65
  constantPool := pool
  accessFlags := fl
  thisClass := this
  superClass := sup
  interfaces := ifs
  fields := fds
  methods := ms
  attributes := attrs
def plain (name : String) (sup : Option ClassId) : Class where
  name := name
  kind := .ordinary
  loader := none
  accessFlags := 33
  super := sup
  interfaces := #[]
  cf := none
  fields := #[]
  methods := #[]
  instanceTypes := #[]
  staticTypes := #[]
  resolved := #[]
  callSites := []
  init := .initialized
  statics := none
  mirror := none

def pool0 : Array CpInfo := pool [(5, u "<init>"), (0, u "()V"), (1, .class_ 10), (1, u "java/lang/Object")] 113

def k0c0 : Code := { maxStack := 0, maxLocals := 1, code := object_method_1_code, exceptionTable := #[], attributes := #[] }
def k0m0 : Method := { name := "<init>", desc := "()V", sig := { parameters := [], returnType := none }, accessFlags := 1, code := some k0c0 }
/-- java/lang/Object -/
def k0 : Class := { plain "java/lang/Object" none with
  accessFlags := 33
  interfaces := #[]
  cf := some (fileOf pool0 8 #[] #[{ accessFlags := 1, nameIndex := 5, descriptorIndex := 6, attributes := #[] }] 33 0 #[] #[])
  fields := #[]
  methods := #[k0m0]
  instanceTypes := #[]
  staticTypes := #[]
  resolved := Array.replicate 124 none
  statics := none }

def pool1 : Array CpInfo := pool [(2, .class_ 4), (1, u "java/lang/Object"), (0, u "<init>"), (0, u "()V"), (0, .integer 536870911), (0, .class_ 9), (0, u "com/example/denary/denary/analysis/DigitChanges"), (0, .methodref 8 11), (0, .nameAndType 5 12), (0, u "([I[I[I[I)V"), (0, .methodref 8 14), (0, .nameAndType 15 16), (0, u "rewrites"), (0, u "(I)Z"), (0, .class_ 18), (0, u "com/example/denary/denary/analysis/DigitChangesRewritesPinLaw"), (2, u "law"), (0, u "(IIIII)Z")] 5

def k1m0 : Method := { name := "<init>", desc := "()V", sig := { parameters := [], returnType := none }, accessFlags := 1, code := none }
def k1c1 : Code := { maxStack := 6, maxLocals := 14, code := code, exceptionTable := #[], attributes := #[] }
def k1m1 : Method := { name := "law", desc := "(IIIII)Z", sig := { parameters := [.int, .int, .int, .int, .int], returnType := some .boolean }, accessFlags := 9, code := some k1c1 }
/-- com/example/denary/denary/analysis/DigitChangesRewritesPinLaw -/
def k1 : Class := { plain "com/example/denary/denary/analysis/DigitChangesRewritesPinLaw" (some 0) with
  accessFlags := 49
  interfaces := #[]
  cf := some (fileOf pool1 17 #[] #[{ accessFlags := 1, nameIndex := 5, descriptorIndex := 6, attributes := #[] }, { accessFlags := 9, nameIndex := 21, descriptorIndex := 22, attributes := #[] }] 49 2 #[] #[])
  fields := #[]
  methods := #[k1m0, k1m1]
  instanceTypes := #[]
  staticTypes := #[]
  resolved := Array.replicate 28 none
  statics := none }

def pool2 : Array CpInfo := pool [(1, .methodref 2 3), (0, .class_ 4), (0, .nameAndType 5 6), (0, u "java/lang/Object"), (0, u "<init>"), (0, u "()V"), (0, .class_ 8), (0, u "java/lang/Record")] 13

def k2c0 : Code := { maxStack := 1, maxLocals := 1, code := jdk_30_method_1_code, exceptionTable := #[], attributes := #[] }
def k2m0 : Method := { name := "<init>", desc := "()V", sig := { parameters := [], returnType := none }, accessFlags := 4, code := some k2c0 }
/-- java/lang/Record -/
def k2 : Class := { plain "java/lang/Record" (some 0) with
  accessFlags := 1057
  interfaces := #[]
  cf := some (fileOf pool2 7 #[] #[{ accessFlags := 4, nameIndex := 5, descriptorIndex := 6, attributes := #[] }] 1057 2 #[] #[])
  fields := #[]
  methods := #[k2m0]
  instanceTypes := #[]
  staticTypes := #[]
  resolved := Array.replicate 22 none
  statics := none }

def pool3 : Array CpInfo := pool [(1, .class_ 2), (0, u "com/example/denary/denary/analysis/Definition"), (0, .class_ 4), (0, u "java/lang/Object")] 7

/-- com/example/denary/denary/analysis/Definition -/
def k3 : Class := { plain "com/example/denary/denary/analysis/Definition" (some 0) with
  accessFlags := 1536
  interfaces := #[]
  cf := some (fileOf pool3 1 #[] #[] 1536 3 #[] #[])
  fields := #[]
  methods := #[]
  instanceTypes := #[]
  staticTypes := #[]
  resolved := Array.replicate 12 none
  statics := none }

def pool4 : Array CpInfo := pool [(1, .methodref 2 3), (0, .class_ 4), (0, .nameAndType 5 6), (0, u "java/lang/Record"), (0, u "<init>"), (0, u "()V"), (0, .fieldref 8 9), (0, .class_ 10), (0, .nameAndType 11 12), (0, u "com/example/denary/denary/analysis/DigitChanges"), (0, u "rewritten"), (0, u "[I"), (0, .fieldref 8 14), (0, .nameAndType 15 12), (0, u "strings"), (0, .fieldref 8 17), (0, .nameAndType 18 12), (0, u "from"), (0, .fieldref 8 20), (0, .nameAndType 21 12), (0, u "to"), (1, .class_ 25), (1, u "com/example/denary/denary/analysis/DigitChanges$ChangeOf"), (20, .class_ 47), (0, u "com/example/denary/denary/analysis/DigitChanges$Change"), (30, u "([I[I[I[I)V"), (33, .class_ 113), (0, u "com/example/denary/denary/analysis/Definition"), (10, u "rewrites"), (0, u "(I)Z")] 40

def k4c0 : Code := { maxStack := 2, maxLocals := 5, code := prog_46_method_1_code, exceptionTable := #[], attributes := #[] }
def k4m0 : Method := { name := "<init>", desc := "([I[I[I[I)V", sig := { parameters := [(.array .int), (.array .int), (.array .int), (.array .int)], returnType := none }, accessFlags := 0, code := some k4c0 }
def k4c1 : Code := { maxStack := 2, maxLocals := 6, code := prog_46_method_8_code, exceptionTable := #[], attributes := #[] }
def k4m1 : Method := { name := "rewrites", desc := "(I)Z", sig := { parameters := [.int], returnType := some .boolean }, accessFlags := 0, code := some k4c1 }
/-- com/example/denary/denary/analysis/DigitChanges -/
def k4 : Class := { plain "com/example/denary/denary/analysis/DigitChanges" (some 2) with
  accessFlags := 48
  interfaces := #[3]
  cf := some (fileOf pool4 8 #[.nestMembers #[23, 46]] #[{ accessFlags := 0, nameIndex := 5, descriptorIndex := 78, attributes := #[] }, { accessFlags := 0, nameIndex := 124, descriptorIndex := 125, attributes := #[] }] 48 2 #[112] #[{ accessFlags := 18, nameIndex := 11, descriptorIndex := 12, attributes := #[] }, { accessFlags := 18, nameIndex := 15, descriptorIndex := 12, attributes := #[] }, { accessFlags := 18, nameIndex := 18, descriptorIndex := 12, attributes := #[] }, { accessFlags := 18, nameIndex := 21, descriptorIndex := 12, attributes := #[] }])
  fields := #[{ name := "rewritten", type := (.array .int), accessFlags := 18, slot := 0, constantValue := 0 }, { name := "strings", type := (.array .int), accessFlags := 18, slot := 1, constantValue := 0 }, { name := "from", type := (.array .int), accessFlags := 18, slot := 2, constantValue := 0 }, { name := "to", type := (.array .int), accessFlags := 18, slot := 3, constantValue := 0 }]
  methods := #[k4m0, k4m1]
  instanceTypes := #[(.array .int), (.array .int), (.array .int), (.array .int)]
  staticTypes := #[]
  resolved := Array.replicate 166 none
  statics := none }

def pool5 : Array CpInfo := pool [(1, u "java/lang/Cloneable"), (0, .class_ 1), (0, u "java/lang/Object"), (0, .class_ 3)] 3

/-- java/lang/Cloneable -/
def k5 : Class := { plain "java/lang/Cloneable" (some 0) with
  accessFlags := 1537
  interfaces := #[]
  cf := some (fileOf pool5 2 #[] #[] 1537 4 #[] #[])
  fields := #[]
  methods := #[]
  instanceTypes := #[]
  staticTypes := #[]
  resolved := Array.replicate 8 none
  statics := none }

def pool6 : Array CpInfo := pool [(1, u "java/io/Serializable"), (0, .class_ 1), (0, u "java/lang/Object"), (0, .class_ 3)] 3

/-- java/io/Serializable -/
def k6 : Class := { plain "java/io/Serializable" (some 0) with
  accessFlags := 1537
  interfaces := #[]
  cf := some (fileOf pool6 2 #[] #[] 1537 4 #[] #[])
  fields := #[]
  methods := #[]
  instanceTypes := #[]
  staticTypes := #[]
  resolved := Array.replicate 8 none
  statics := none }

/-- the primitive byte -/
def k7 : Class := { plain "byte" none with kind := .primitive 'B', accessFlags := 0x411 }
/-- [B -/
def k8 : Class := { plain "[B" (some 0) with kind := .array 7 .byte, interfaces := #[5, 6], accessFlags := 1041 }

/-- the primitive int -/
def k9 : Class := { plain "int" none with kind := .primitive 'I', accessFlags := 0x411 }
/-- [I -/
def k10 : Class := { plain "[I" (some 0) with kind := .array 9 .int, interfaces := #[5, 6], accessFlags := 1041 }

def heap : Heap := #[]
def classes : Array Class := #[k0, k1, k2, k3, k4, k5, k6, k7, k8, k9, k10]
def interned : List (Array UInt16 × Addr) := []
def slotsUsed : Nat := 0
def theMethod : MethodId := ⟨1, 1⟩
def args0 : Array Value := #[.int 3, .int 3, .int 0, .int 1, .int 2]
def aboutOver (below : List Frame) : State where
  vm := { classes := classes, interned := interned.toArray }
  heap := heap
  slotsUsed := slotsUsed
  threads := #[{ frames := .invoking theMethod args0 :: below }]
def below0 : List Frame := [.native { method := ⟨0, 0⟩, args := #[] }]
def about1 : State := aboutOver below0
def p0 : Program := .bare "" "" ""
def e0 : Env := launch0.env 0 0 0
theorem w_frames : about1.frames = Frame.invoking theMethod args0 :: below0 := rfl
set_option maxRecDepth 65536 in
theorem w_args : argsFit about1.vm theMethod args0 = true := by decide +kernel
set_option maxRecDepth 65536 in
theorem w_heap : heapFits about1 = true := by decide +kernel
set_option maxRecDepth 65536 in
theorem w_runnable : about1.curStatus? = some .runnable := by decide +kernel
set_option maxRecDepth 65536 in
theorem w_alone : about1.alone = true := by decide +kernel
set_option maxRecDepth 65536 in
theorem w_named : about1.methodNamed? x = some theMethod := by decide +kernel
set_option maxRecDepth 65536 in
theorem w_hears : about1.hears theMethod below0 = true := by decide +kernel
set_option maxRecDepth 65536 in
theorem w_ripe : about1.ripe theMethod args0 below0 = true := by decide +kernel
theorem w_running : about1.status = .running := rfl
set_option maxRecDepth 65536 in
theorem w_room : about1.hasRoom e0.platform room_1 = true :=
  launch0.hasRoom_least _ room_1 (by decide +kernel) (by decide +kernel) (by decide +kernel) (by decide +kernel) (by decide +kernel) (by decide +kernel)
theorem allAtoms_all (ts : List Jvm.Cond) (a : Array Jvm.Value) (st : Jvm.State) : (allAtoms ts).before a st = ts.all (fun c => c.before a st) := by
  induction ts with
  | nil => rfl
  | cons c t ih =>
    show (Jvm.Cond.and c (allAtoms t)).before a st = _
    rw [Jvm.Cond.before_and, ih, List.all_cons]
def words1 : List Jvm.Cond := Jvm.Cond.code x code maxLocals ret :: tables_1
/-- a 'code' word, met by the world's own term for the bytes: nothing is compared byte by byte -/
theorem code_word {y : MethodName} {bytes : ByteArray} {mx : Nat} {rt : Option FieldType} {a : Array Value} {s : State} {m : MethodId} {meth : Method} {c : Code} (h1 : s.methodNamed? y = some m) (h2 : s.vm.method? m = some meth) (h3 : meth.code = some c) (h4 : c.code = bytes)
    (h5 : (c.maxLocals == mx && c.exceptionTable.isEmpty && decide (c.maxStack ≤ mostOperands) && decide (meth.sig.returnType = rt) && !meth.locks && decide (parseMethodDescriptor y.desc = some meth.sig)) = true) : (Jvm.Cond.code y bytes mx rt).before a s = true := by
  simp only [Bool.and_eq_true, beq_iff_eq, Bool.not_eq_true', decide_eq_true_eq] at h5
  obtain ⟨⟨⟨⟨⟨g1, g2⟩, g3⟩, g4⟩, g5⟩, g6⟩ := h5
  simp [Cond.before, Cond.holds, Cond.value, h1, h2, h3, h4, g1, g2, g3, g4, g5, g6]
def isCode : Jvm.Cond → Bool
  | .code _ _ _ _ => true
  | _ => false
theorem all_split {L : List Jvm.Cond} {P : Jvm.Cond → Bool} (h1 : L.all (fun c => isCode c || P c) = true) (h2 : ∀ c ∈ L.filter isCode, P c = true) : L.all P = true := by
  refine List.all_eq_true.mpr fun c hc => ?_
  have h := List.all_eq_true.mp h1 c hc
  rcases Bool.eq_false_or_eq_true (isCode c) with hi | hi
  · exact h2 c (List.mem_filter.mpr ⟨hc, hi⟩)
  · simpa [hi] using h
set_option maxRecDepth 65536 in
theorem w_c0 : (Jvm.Cond.code x code maxLocals ret).before args0 about1 = true := code_word (m := ⟨1, 1⟩) (meth := k1m1) (c := k1c1) (by decide +kernel) rfl rfl rfl (by decide +kernel)
set_option maxRecDepth 65536 in
theorem w_c1 : (Jvm.Cond.code ({ cls := "com/example/denary/denary/analysis/DigitChanges", name := "<init>", desc := "([I[I[I[I)V" } : Jvm.MethodName) prog_46_method_1_code (5 : Nat) (Option.none : Option Jvm.ClassFile.FieldType)).before args0 about1 = true := code_word (m := ⟨4, 0⟩) (meth := k4m0) (c := k4c0) (by decide +kernel) rfl rfl rfl (by decide +kernel)
set_option maxRecDepth 65536 in
theorem w_c2 : (Jvm.Cond.code ({ cls := "java/lang/Record", name := "<init>", desc := "()V" } : Jvm.MethodName) jdk_30_method_1_code (1 : Nat) (Option.none : Option Jvm.ClassFile.FieldType)).before args0 about1 = true := code_word (m := ⟨2, 0⟩) (meth := k2m0) (c := k2c0) (by decide +kernel) rfl rfl rfl (by decide +kernel)
set_option maxRecDepth 65536 in
theorem w_c3 : (Jvm.Cond.code ({ cls := "java/lang/Object", name := "<init>", desc := "()V" } : Jvm.MethodName) object_method_1_code (1 : Nat) (Option.none : Option Jvm.ClassFile.FieldType)).before args0 about1 = true := code_word (m := ⟨0, 0⟩) (meth := k0m0) (c := k0c0) (by decide +kernel) rfl rfl rfl (by decide +kernel)
set_option maxRecDepth 65536 in
theorem w_c4 : (Jvm.Cond.code ({ cls := "com/example/denary/denary/analysis/DigitChanges", name := "rewrites", desc := "(I)Z" } : Jvm.MethodName) prog_46_method_8_code (6 : Nat) (Option.some Jvm.ClassFile.FieldType.boolean)).before args0 about1 = true := code_word (m := ⟨4, 1⟩) (meth := k4m1) (c := k4c1) (by decide +kernel) rfl rfl rfl (by decide +kernel)
def codes1 : List Jvm.Cond := [Jvm.Cond.code x code maxLocals ret, Jvm.Cond.code ({ cls := "com/example/denary/denary/analysis/DigitChanges", name := "<init>", desc := "([I[I[I[I)V" } : Jvm.MethodName) prog_46_method_1_code (5 : Nat) (Option.none : Option Jvm.ClassFile.FieldType), Jvm.Cond.code ({ cls := "java/lang/Record", name := "<init>", desc := "()V" } : Jvm.MethodName) jdk_30_method_1_code (1 : Nat) (Option.none : Option Jvm.ClassFile.FieldType), Jvm.Cond.code ({ cls := "java/lang/Object", name := "<init>", desc := "()V" } : Jvm.MethodName) object_method_1_code (1 : Nat) (Option.none : Option Jvm.ClassFile.FieldType), Jvm.Cond.code ({ cls := "com/example/denary/denary/analysis/DigitChanges", name := "rewrites", desc := "(I)Z" } : Jvm.MethodName) prog_46_method_8_code (6 : Nat) (Option.some Jvm.ClassFile.FieldType.boolean)]
set_option maxRecDepth 65536 in
theorem codes_eq : words1.filter isCode = codes1 := rfl
theorem w_codes : ∀ c ∈ words1.filter isCode, c.before args0 about1 = true := by
  rw [codes_eq]
  intro c hc
  simp only [codes1, List.mem_cons, List.not_mem_nil, or_false] at hc
  rcases hc with rfl | rfl | rfl | rfl | rfl
  · exact w_c0
  · exact w_c1
  · exact w_c2
  · exact w_c3
  · exact w_c4
set_option maxRecDepth 65536 in
theorem w_t1 : (words1.take 24).all (fun c => isCode c || c.before args0 about1) = true := by decide +kernel
set_option maxRecDepth 65536 in
theorem w_t2 : (words1.drop 24).all (fun c => isCode c || c.before args0 about1) = true := by decide +kernel
theorem w_tables : (allAtoms (Jvm.Cond.code x code maxLocals ret :: tables_1)).before args0 about1 = true := by
  rw [allAtoms_all]
  show words1.all (fun c => c.before args0 about1) = true
  refine all_split ?_ w_codes
  rw [← List.take_append_drop 24 words1, List.all_append, w_t1, w_t2]
  rfl
set_option maxRecDepth 65536 in
theorem w_case : (Jvm.Cond.and given_1 narrow_1).before args0 about1 = true := by decide +kernel
theorem w_applies : (headSpec (Jvm.Cond.code x code maxLocals ret :: tables_1) room_1).applies x e0.platform about1 = true :=
  (Spec.applies_iff w_frames).mpr ⟨w_running, w_runnable, w_alone, w_named, w_hears, w_ripe, w_room, w_tables⟩
theorem atStart : AtStart classFile x code maxLocals ret World_1 tables_1 room_1 Calls_1 rest_1 Pre_1 launch0 p0 e0 about1 theMethod args0 below0 :=
  ⟨lists_1, trivial, launch0.admits_env _ _ _, launch0.least_env, fairChoices_fair.cas, fairChoices_fair.clock, w_frames, w_args, w_heap, w_applies, trivial, trivial, w_case⟩
end start1
theorem witness_1 : WitnessClaimed_1 := ⟨start1.p0, start1.e0, start1.about1, start1.theMethod, start1.args0, start1.below0, start1.atStart⟩
end Jvm.Pilot.@@N@@
