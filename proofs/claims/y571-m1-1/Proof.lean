import JvmDerived
import JvmDerived.Pilot.@@N@@Statement
import JvmDerived.Pilot.@@N@@Code
set_option maxHeartbeats 4000000
set_option linter.unusedVariables false
set_option linter.unusedSimpArgs false
namespace Jvm.RoadKit
open Sem ClassFile Op Lib Jvm.Stand Jvm.Free Jvm.LawKit
section OwnK
variable {p : Program} {l : Launch} {e : Env} {R : Room} {s : State} {m : MethodId} {args : Array Value} {below : List Frame} {meth : Method} {c : Code} {T : State} {cells slots cells' slots' : Nat} {Z : State} {a0 : Array Value} {h : Heap} {n0 : Nat} {D : State → Prop} {pc pc' : Nat} {Ls : Array Slot} {St : List Value}
/-- the run goes from the frame g at T to a state that is done -/
def GoK (p : Program) (e : Env) (below : List Frame) (D : State → Prop) (T : State) (g : JFrame) : Prop := ∃ u, Steps p.tables e below (T.setTop g) u ∧ D u
/-- where the walk stands: the state, its heap, what was made; all that was written is new -/
def OnK (p : Program) (l : Launch) (e : Env) (R : Room) (s : State) (m : MethodId) (args : Array Value) (below : List Frame) (meth : Method) (c : Code) (n0 : Nat) (T : State) (h : Heap) (cells slots : Nat) : Prop := ∃ locs, Stand p l e R s m args below meth c T locs cells slots ∧ T.heap = h ∧ Fr n0 locs
/-- the call has returned -/
def DoneK (s : State) (below : List Frame) (n0 C S : Nat) (Q : Option Value → Heap → Prop) (u : State) : Prop := u.status = .running ∧ ∃ v L, Ended u below (.returned v) ∧ Q v u.heap ∧ Fr n0 L ∧ FrameEnd s (.returned v) u L C S
def QI (P : Int32 → Heap → Prop) (v : Option Value) (h : Heap) : Prop := ∃ z, v = some (.int z) ∧ P z h
def QJ (P : Int64 → Heap → Prop) (v : Option Value) (h : Heap) : Prop := ∃ z, v = some (.long z) ∧ P z h
def QA (P : Addr → Heap → Prop) (v : Option Value) (h : Heap) : Prop := ∃ z, v = some (.ref z) ∧ P z h
def QV (P : Heap → Prop) (v : Option Value) (h : Heap) : Prop := v = none ∧ P h
/-- a body's contract -/
def CtK (l : Launch) (Z : State) (y : MethodName) (bytes : ByteArray) (maxL : Nat) (ret : Option FieldType) (rm : Room) (as' : Array Value) (h0 : Heap) (n0 : Nat) (Q : Option Value → Heap → Prop) : Prop :=
  ∀ ws : List Jvm.Cond, MetFree l y (head1 (Jvm.Cond.code y bytes maxL ret :: ws) rm) (fun a U => a = as' ∧ Z.Warmed39 U.vm ∧ U.heap = h0) (fun _ _ _ _ _ => True) (fun _ U o U' => ∃ v L, o = .returned v ∧ (Q v U'.heap ∧ Fr n0 L) ∧ FrameEnd U o U' L rm.cells rm.slots)
theorem GoK.by {T' : State} {g g' : JFrame} (st : ∀ t, Steps p.tables e below (T'.setTop g') t → Steps p.tables e below (T.setTop g) t) (G : GoK p e below D T' g') : GoK p e below D T g := by
  obtain ⟨u, hu, hD⟩ := G
  exact ⟨u, st _ hu, hD⟩
theorem OnK.at (X : OnK p l e R s m args below meth c n0 T h cells slots) : Jvm.At T m c below := by
  obtain ⟨_, X, -, -⟩ := X
  exact X.here
theorem CtK.of {y : MethodName} {bytes : ByteArray} {maxL : Nat} {ret : Option FieldType} {rm : Room} {as' : Array Value} {h0 : Heap} {Q : Option Value → Heap → Prop} (hp : plainFor y = true)
    (body : ∀ {p : Program} {e : Env} {s : State} {m : MethodId} {below : List Frame} {meth : Method} {c : Code} {T : State}, OnK p l e rm s m as' below meth c n0 T h0 0 0 → p.tables.exec = Jvm.exec → Z.Warmed39 s.vm → c.code = bytes → c.maxLocals = maxL → s.vm.findClass y.cls = some m.cls → meth.name = y.name → meth.sig.returnType = ret → meth.locks = false →
      GoK p e below (DoneK s below n0 rm.cells rm.slots Q) T (entryFrame m as' maxL)) : CtK l Z y bytes maxL ret rm as' h0 n0 Q := by
  intro ws
  refine MetFree.of_bodySF hp hisR ?_
  intro p e s m args below meth c s₁ Bd hml0 hP hK
  obtain ⟨rfl, hZ, hh⟩ := hP
  have hown : s.vm.findClass y.cls = some m.cls := findClass_of_methodNamed Bd.named
  have hnm := (name_of_methodNamed Bd.named Bd.method).1
  have X0 : Stand p l e rm s m args below meth c s₁ [] 0 0 := Stand.of_body Bd
  have e0 : s₁.heap = h0 := by rw [← hh, Bd.state]; rfl
  obtain ⟨u, hu, hrun, v, L, hen, hQ, hN, hF⟩ := body ⟨[], X0, e0, Fr.nil n0⟩ Bd.exec hZ Bd.bytes hml0 hown hnm Bd.returns (BodyLoose.notSynchronized Bd)
  exact ⟨u, _, hu, hrun, hen, v, L, rfl, ⟨hQ, hN⟩, hF⟩
theorem GoK.entry {as' : Array Value} {n : Nat} (q : entryFrame m as' n = mkF m 0 Ls []) (G : GoK p e below D T (mkF m 0 Ls [])) : GoK p e below D T (entryFrame m as' n) := q ▸ G
theorem go_nameI {x : Int32} (G : ∀ z : Int32, z = x → GoK p e below D T (mkF m pc Ls (.int z :: St))) : GoK p e below D T (mkF m pc Ls (.int x :: St)) := G x rfl
theorem go_nameJ {x : Int64} (G : ∀ z : Int64, z = x → GoK p e below D T (mkF m pc Ls (.long z :: St))) : GoK p e below D T (mkF m pc Ls (.long x :: St)) := G x rfl
/-- the end: what every return has in common -/
theorem go_end {C S : Nat} {Q : Option Value → Heap → Prop} {v : Option Value} {g : JFrame} (X : OnK p l e R s m args below meth c n0 T h cells slots) (hlk : meth.locks = false) (hv : meth.sig.returnType = none → v = none) (hc : cells ≤ C) (hs : slots ≤ S) (q : Q v h)
    (st : ∀ {locs : List Loc}, Stand p l e R s m args below meth c T locs cells slots → ∀ {fs : List Frame}, (∀ (f : JFrame) (acts : List Action), f.method = m → f.locked = none → f.entered = [] → (doReturn e (T.setTop f) acts v).1 = T.setFrames fs) → Steps p.tables e below (T.setTop g) (T.setFrames fs)) :
    GoK p e below (DoneK s below n0 C S Q) T g := by
  obtain ⟨locs, X, rfl, N⟩ := X
  obtain ⟨fs, hr, hrun, hended, hW, hsame⟩ := X.leave (v := v) hv hlk
  exact ⟨_, st X hr, hrun, v, locs, hended, q, N, ⟨_, rfl⟩, hW, hsame.mono hc hs⟩
theorem go_retI {C S : Nat} {P : Int32 → Heap → Prop} {x : Int32} (X : OnK p l e R s m args below meth c n0 T h cells slots) (hx : p.tables.exec = Jvm.exec) (hret : meth.sig.returnType = some .int) (hlk : meth.locks = false) (hd : decode c.code pc = .ok (.ireturn, 1)) (hc : cells ≤ C) (hs : slots ≤ S) (q : P x h) : GoK p e below (DoneK s below n0 C S (QI P)) T (mkF m pc Ls (.int x :: St)) := by
  refine go_end (v := some (.int x)) X hlk (fun q => by rw [hret] at q; cases q) hc hs ⟨_, rfl, q⟩ ?_
  intro locs Y fs hr
  have hm' : T.vm.method? m = some meth := Y.method'
  have hn : narrow .int (.int x) = .int x := rfl
  show Steps p.tables e below (T.setTop { method := m, pc := pc, locals := Ls, stack := _ :: St, locked := none }) _
  jvm_step Y.here [Y.here.top, hx, hd, hm', hret, hn]
  first | (intro acts; rw [hr _ acts rfl rfl rfl]) | rw [hr _ _ rfl rfl rfl]
  exact Steps.refl _
theorem go_retN {C S : Nat} {P : Int32 → Heap → Prop} {x : Int32} {t : FieldType} (X : OnK p l e R s m args below meth c n0 T h cells slots) (hx : p.tables.exec = Jvm.exec) (hret : meth.sig.returnType = some t) (ht : t = .boolean ∨ t = .byte ∨ t = .char ∨ t = .short) (hlk : meth.locks = false) (hd : decode c.code pc = .ok (.ireturn, 1)) (hc : cells ≤ C) (hs : slots ≤ S) (q : P (nar t x) h) : GoK p e below (DoneK s below n0 C S (QI P)) T (mkF m pc Ls (.int x :: St)) := by
  refine go_end (v := some (.int (nar t x))) X hlk (fun q => by rw [hret] at q; cases q) hc hs ⟨_, rfl, q⟩ ?_
  intro locs Y fs hr
  exact retN Y hx hret ht hd hr
theorem go_retV {C S : Nat} {P : Heap → Prop} (X : OnK p l e R s m args below meth c n0 T h cells slots) (hx : p.tables.exec = Jvm.exec) (hret : meth.sig.returnType = none) (hlk : meth.locks = false) (hd : decode c.code pc = .ok (.return_, 1)) (hc : cells ≤ C) (hs : slots ≤ S) (q : P h) : GoK p e below (DoneK s below n0 C S (QV P)) T (mkF m pc Ls []) := by
  refine go_end (v := none) X hlk (fun _ => rfl) hc hs ⟨rfl, q⟩ ?_
  intro locs Y fs hr
  exact Y.returnOut hx hret hd hr
theorem go_retJ {C S : Nat} {P : Int64 → Heap → Prop} {x : Int64} (X : OnK p l e R s m args below meth c n0 T h cells slots) (hx : p.tables.exec = Jvm.exec) (hret : meth.sig.returnType = some .long) (hlk : meth.locks = false) (hd : decode c.code pc = .ok (.lreturn, 1)) (hc : cells ≤ C) (hs : slots ≤ S) (q : P x h) : GoK p e below (DoneK s below n0 C S (QJ P)) T (mkF m pc Ls (.long x :: St)) := by
  refine go_end (v := some (.long x)) X hlk (fun q => by rw [hret] at q; cases q) hc hs ⟨_, rfl, q⟩ ?_
  intro locs Y fs hr
  exact retOut Y hx hret rfl (Or.inr (Or.inl ⟨rfl, rfl, _, rfl⟩)) hd hr
theorem go_retA {C S : Nat} {P : Addr → Heap → Prop} {x : Addr} {t : FieldType} (X : OnK p l e R s m args below meth c n0 T h cells slots) (hx : p.tables.exec = Jvm.exec) (hret : meth.sig.returnType = some t) (ht : t.isReference = true) (hnr : narrow t (.ref x) = .ref x) (hlk : meth.locks = false) (hd : decode c.code pc = .ok (.areturn, 1)) (hc : cells ≤ C) (hs : slots ≤ S) (q : P x h) : GoK p e below (DoneK s below n0 C S (QA P)) T (mkF m pc Ls (.ref x :: St)) := by
  refine go_end (v := some (.ref x)) X hlk (fun q => by rw [hret] at q; cases q) hc hs ⟨_, rfl, q⟩ ?_
  intro locs Y fs hr
  exact retOut Y hx hret hnr (Or.inr (Or.inr (Or.inr (Or.inr ⟨rfl, ht, rfl⟩)))) hd hr
theorem go_iadd (X : OnK p l e R s m args below meth c n0 T h cells slots) (hx : p.tables.exec = Jvm.exec) {x y : Int32} (hd : decode c.code pc = .ok (.iadd, 1)) (hp : pc + 1 = pc') (G : GoK p e below D T (mkF m pc' Ls (.int (x + y) :: St))) : GoK p e below D T (mkF m pc Ls (.int y :: .int x :: St)) := by
  subst hp
  exact GoK.by (fun t k => XS.iadd X.at hx rfl hd rfl k) G
theorem go_isub (X : OnK p l e R s m args below meth c n0 T h cells slots) (hx : p.tables.exec = Jvm.exec) {x y : Int32} (hd : decode c.code pc = .ok (.isub, 1)) (hp : pc + 1 = pc') (G : GoK p e below D T (mkF m pc' Ls (.int (x - y) :: St))) : GoK p e below D T (mkF m pc Ls (.int y :: .int x :: St)) := by
  subst hp
  exact GoK.by (fun t k => XS.isub X.at hx rfl hd rfl k) G
theorem go_imul (X : OnK p l e R s m args below meth c n0 T h cells slots) (hx : p.tables.exec = Jvm.exec) {x y : Int32} (hd : decode c.code pc = .ok (.imul, 1)) (hp : pc + 1 = pc') (G : GoK p e below D T (mkF m pc' Ls (.int (x * y) :: St))) : GoK p e below D T (mkF m pc Ls (.int y :: .int x :: St)) := by
  subst hp
  exact GoK.by (fun t k => XS.imul X.at hx rfl hd rfl k) G
theorem go_iand (X : OnK p l e R s m args below meth c n0 T h cells slots) (hx : p.tables.exec = Jvm.exec) {x y : Int32} (hd : decode c.code pc = .ok (.iand, 1)) (hp : pc + 1 = pc') (G : GoK p e below D T (mkF m pc' Ls (.int (x &&& y) :: St))) : GoK p e below D T (mkF m pc Ls (.int y :: .int x :: St)) := by
  subst hp
  exact GoK.by (fun t k => XS.iand X.at hx rfl hd rfl k) G
theorem go_ior (X : OnK p l e R s m args below meth c n0 T h cells slots) (hx : p.tables.exec = Jvm.exec) {x y : Int32} (hd : decode c.code pc = .ok (.ior, 1)) (hp : pc + 1 = pc') (G : GoK p e below D T (mkF m pc' Ls (.int (x ||| y) :: St))) : GoK p e below D T (mkF m pc Ls (.int y :: .int x :: St)) := by
  subst hp
  exact GoK.by (fun t k => XS.ior X.at hx rfl hd rfl k) G
theorem go_ixor (X : OnK p l e R s m args below meth c n0 T h cells slots) (hx : p.tables.exec = Jvm.exec) {x y : Int32} (hd : decode c.code pc = .ok (.ixor, 1)) (hp : pc + 1 = pc') (G : GoK p e below D T (mkF m pc' Ls (.int (x ^^^ y) :: St))) : GoK p e below D T (mkF m pc Ls (.int y :: .int x :: St)) := by
  subst hp
  exact GoK.by (fun t k => XS.ixor X.at hx rfl hd rfl k) G
theorem go_ishl (X : OnK p l e R s m args below meth c n0 T h cells slots) (hx : p.tables.exec = Jvm.exec) {x y : Int32} (hd : decode c.code pc = .ok (.ishl, 1)) (hp : pc + 1 = pc') (G : GoK p e below D T (mkF m pc' Ls (.int (x <<< (y &&& 31)) :: St))) : GoK p e below D T (mkF m pc Ls (.int y :: .int x :: St)) := by
  subst hp
  exact GoK.by (fun t k => XS.ishl X.at hx rfl hd rfl k) G
theorem go_ishr (X : OnK p l e R s m args below meth c n0 T h cells slots) (hx : p.tables.exec = Jvm.exec) {x y : Int32} (hd : decode c.code pc = .ok (.ishr, 1)) (hp : pc + 1 = pc') (G : GoK p e below D T (mkF m pc' Ls (.int (x >>> (y &&& 31)) :: St))) : GoK p e below D T (mkF m pc Ls (.int y :: .int x :: St)) := by
  subst hp
  exact GoK.by (fun t k => XS.ishr X.at hx rfl hd rfl k) G
theorem go_iushr (X : OnK p l e R s m args below meth c n0 T h cells slots) (hx : p.tables.exec = Jvm.exec) {x y : Int32} (hd : decode c.code pc = .ok (.iushr, 1)) (hp : pc + 1 = pc') (G : GoK p e below D T (mkF m pc' Ls (.int ((x.toUInt32 >>> (y &&& 31).toUInt32).toInt32) :: St))) : GoK p e below D T (mkF m pc Ls (.int y :: .int x :: St)) := by
  subst hp
  exact GoK.by (fun t k => XS.iushr X.at hx rfl hd rfl k) G
theorem go_ladd (X : OnK p l e R s m args below meth c n0 T h cells slots) (hx : p.tables.exec = Jvm.exec) {x y : Int64} (hd : decode c.code pc = .ok (.ladd, 1)) (hp : pc + 1 = pc') (G : GoK p e below D T (mkF m pc' Ls (.long (x + y) :: St))) : GoK p e below D T (mkF m pc Ls (.long y :: .long x :: St)) := by
  subst hp
  exact GoK.by (fun t k => XS.ladd X.at hx rfl hd rfl k) G
theorem go_lsub (X : OnK p l e R s m args below meth c n0 T h cells slots) (hx : p.tables.exec = Jvm.exec) {x y : Int64} (hd : decode c.code pc = .ok (.lsub, 1)) (hp : pc + 1 = pc') (G : GoK p e below D T (mkF m pc' Ls (.long (x - y) :: St))) : GoK p e below D T (mkF m pc Ls (.long y :: .long x :: St)) := by
  subst hp
  exact GoK.by (fun t k => XS.lsub X.at hx rfl hd rfl k) G
theorem go_lmul (X : OnK p l e R s m args below meth c n0 T h cells slots) (hx : p.tables.exec = Jvm.exec) {x y : Int64} (hd : decode c.code pc = .ok (.lmul, 1)) (hp : pc + 1 = pc') (G : GoK p e below D T (mkF m pc' Ls (.long (x * y) :: St))) : GoK p e below D T (mkF m pc Ls (.long y :: .long x :: St)) := by
  subst hp
  exact GoK.by (fun t k => XS.lmul X.at hx rfl hd rfl k) G
theorem go_land (X : OnK p l e R s m args below meth c n0 T h cells slots) (hx : p.tables.exec = Jvm.exec) {x y : Int64} (hd : decode c.code pc = .ok (.land, 1)) (hp : pc + 1 = pc') (G : GoK p e below D T (mkF m pc' Ls (.long (x &&& y) :: St))) : GoK p e below D T (mkF m pc Ls (.long y :: .long x :: St)) := by
  subst hp
  exact GoK.by (fun t k => XS.land X.at hx rfl hd rfl k) G
theorem go_lor (X : OnK p l e R s m args below meth c n0 T h cells slots) (hx : p.tables.exec = Jvm.exec) {x y : Int64} (hd : decode c.code pc = .ok (.lor, 1)) (hp : pc + 1 = pc') (G : GoK p e below D T (mkF m pc' Ls (.long (x ||| y) :: St))) : GoK p e below D T (mkF m pc Ls (.long y :: .long x :: St)) := by
  subst hp
  exact GoK.by (fun t k => XS.lor X.at hx rfl hd rfl k) G
theorem go_lxor (X : OnK p l e R s m args below meth c n0 T h cells slots) (hx : p.tables.exec = Jvm.exec) {x y : Int64} (hd : decode c.code pc = .ok (.lxor, 1)) (hp : pc + 1 = pc') (G : GoK p e below D T (mkF m pc' Ls (.long (x ^^^ y) :: St))) : GoK p e below D T (mkF m pc Ls (.long y :: .long x :: St)) := by
  subst hp
  exact GoK.by (fun t k => XS.lxor X.at hx rfl hd rfl k) G
theorem go_lshl (X : OnK p l e R s m args below meth c n0 T h cells slots) (hx : p.tables.exec = Jvm.exec) {x : Int64} {y : Int32} (hd : decode c.code pc = .ok (.lshl, 1)) (hp : pc + 1 = pc') (G : GoK p e below D T (mkF m pc' Ls (.long (x <<< (y &&& 0x3f).toInt64) :: St))) : GoK p e below D T (mkF m pc Ls (.int y :: .long x :: St)) := by
  subst hp
  exact GoK.by (fun t k => XS.lshl X.at hx rfl hd rfl k) G
theorem go_lshr (X : OnK p l e R s m args below meth c n0 T h cells slots) (hx : p.tables.exec = Jvm.exec) {x : Int64} {y : Int32} (hd : decode c.code pc = .ok (.lshr, 1)) (hp : pc + 1 = pc') (G : GoK p e below D T (mkF m pc' Ls (.long (x >>> (y &&& 0x3f).toInt64) :: St))) : GoK p e below D T (mkF m pc Ls (.int y :: .long x :: St)) := by
  subst hp
  exact GoK.by (fun t k => XS.lshr X.at hx rfl hd rfl k) G
theorem go_lushr (X : OnK p l e R s m args below meth c n0 T h cells slots) (hx : p.tables.exec = Jvm.exec) {x : Int64} {y : Int32} (hd : decode c.code pc = .ok (.lushr, 1)) (hp : pc + 1 = pc') (G : GoK p e below D T (mkF m pc' Ls (.long ((x.toUInt64 >>> (y &&& 0x3f).toInt64.toUInt64).toInt64) :: St))) : GoK p e below D T (mkF m pc Ls (.int y :: .long x :: St)) := by
  subst hp
  exact GoK.by (fun t k => XS.lushr X.at hx rfl hd rfl k) G
theorem go_idiv (X : OnK p l e R s m args below meth c n0 T h cells slots) (hx : p.tables.exec = Jvm.exec) {x y : Int32} (hd : decode c.code pc = .ok (.idiv, 1)) (hp : pc + 1 = pc') (hy : y ≠ 0) (G : GoK p e below D T (mkF m pc' Ls (.int (x / y) :: St))) : GoK p e below D T (mkF m pc Ls (.int y :: .int x :: St)) := by
  subst hp
  exact GoK.by (fun t k => XS.idiv X.at hx rfl hd rfl hy k) G
theorem go_ldiv (X : OnK p l e R s m args below meth c n0 T h cells slots) (hx : p.tables.exec = Jvm.exec) {x y : Int64} (hd : decode c.code pc = .ok (.ldiv, 1)) (hp : pc + 1 = pc') (hy : y ≠ 0) (G : GoK p e below D T (mkF m pc' Ls (.long (x / y) :: St))) : GoK p e below D T (mkF m pc Ls (.long y :: .long x :: St)) := by
  subst hp
  exact GoK.by (fun t k => XS.ldiv X.at hx rfl hd rfl hy k) G
theorem go_irem (X : OnK p l e R s m args below meth c n0 T h cells slots) (hx : p.tables.exec = Jvm.exec) {x y : Int32} (hd : decode c.code pc = .ok (.irem, 1)) (hp : pc + 1 = pc') (hy : y ≠ 0) (G : GoK p e below D T (mkF m pc' Ls (.int (x % y) :: St))) : GoK p e below D T (mkF m pc Ls (.int y :: .int x :: St)) := by
  subst hp
  obtain ⟨_, Y, -, -⟩ := X
  exact GoK.by (fun t k => iremM Y hx rfl hd rfl hy k) G
theorem go_lrem (X : OnK p l e R s m args below meth c n0 T h cells slots) (hx : p.tables.exec = Jvm.exec) {x y : Int64} (hd : decode c.code pc = .ok (.lrem, 1)) (hp : pc + 1 = pc') (hy : y ≠ 0) (G : GoK p e below D T (mkF m pc' Ls (.long (x % y) :: St))) : GoK p e below D T (mkF m pc Ls (.long y :: .long x :: St)) := by
  subst hp
  rw [← lrem_mod] at G
  exact GoK.by (fun t k => XS.lrem X.at hx rfl hd rfl hy k) G
theorem go_ineg (X : OnK p l e R s m args below meth c n0 T h cells slots) (hx : p.tables.exec = Jvm.exec) {x : Int32} (hd : decode c.code pc = .ok (.ineg, 1)) (hp : pc + 1 = pc') (G : GoK p e below D T (mkF m pc' Ls (.int (-x) :: St))) : GoK p e below D T (mkF m pc Ls (.int x :: St)) := by
  subst hp
  exact GoK.by (fun t k => XS.ineg X.at hx rfl hd rfl k) G
theorem go_lneg (X : OnK p l e R s m args below meth c n0 T h cells slots) (hx : p.tables.exec = Jvm.exec) {x : Int64} (hd : decode c.code pc = .ok (.lneg, 1)) (hp : pc + 1 = pc') (G : GoK p e below D T (mkF m pc' Ls (.long (-x) :: St))) : GoK p e below D T (mkF m pc Ls (.long x :: St)) := by
  subst hp
  exact GoK.by (fun t k => XS.lneg X.at hx rfl hd rfl k) G
theorem go_i2l (X : OnK p l e R s m args below meth c n0 T h cells slots) (hx : p.tables.exec = Jvm.exec) {x : Int32} (hd : decode c.code pc = .ok (.i2l, 1)) (hp : pc + 1 = pc') (G : GoK p e below D T (mkF m pc' Ls (.long (x.toInt64) :: St))) : GoK p e below D T (mkF m pc Ls (.int x :: St)) := by
  subst hp
  exact GoK.by (fun t k => XS.i2l X.at hx rfl hd rfl k) G
theorem go_l2i (X : OnK p l e R s m args below meth c n0 T h cells slots) (hx : p.tables.exec = Jvm.exec) {x : Int64} (hd : decode c.code pc = .ok (.l2i, 1)) (hp : pc + 1 = pc') (G : GoK p e below D T (mkF m pc' Ls (.int (x.toInt32) :: St))) : GoK p e below D T (mkF m pc Ls (.long x :: St)) := by
  subst hp
  exact GoK.by (fun t k => XS.l2i X.at hx rfl hd rfl k) G
theorem go_i2b (X : OnK p l e R s m args below meth c n0 T h cells slots) (hx : p.tables.exec = Jvm.exec) {x : Int32} (hd : decode c.code pc = .ok (.i2b, 1)) (hp : pc + 1 = pc') (G : GoK p e below D T (mkF m pc' Ls (.int (x.toInt8.toInt32) :: St))) : GoK p e below D T (mkF m pc Ls (.int x :: St)) := by
  subst hp
  exact GoK.by (fun t k => XS.i2b X.at hx rfl hd rfl k) G
theorem go_i2s (X : OnK p l e R s m args below meth c n0 T h cells slots) (hx : p.tables.exec = Jvm.exec) {x : Int32} (hd : decode c.code pc = .ok (.i2s, 1)) (hp : pc + 1 = pc') (G : GoK p e below D T (mkF m pc' Ls (.int (x.toInt16.toInt32) :: St))) : GoK p e below D T (mkF m pc Ls (.int x :: St)) := by
  subst hp
  exact GoK.by (fun t k => XS.i2s X.at hx rfl hd rfl k) G
theorem go_i2c (X : OnK p l e R s m args below meth c n0 T h cells slots) (hx : p.tables.exec = Jvm.exec) {x : Int32} (hd : decode c.code pc = .ok (.i2c, 1)) (hp : pc + 1 = pc') (G : GoK p e below D T (mkF m pc' Ls (.int (x.toUInt32.toUInt16.toUInt32.toInt32) :: St))) : GoK p e below D T (mkF m pc Ls (.int x :: St)) := by
  subst hp
  exact GoK.by (fun t k => XS.i2c X.at hx rfl hd rfl k) G
theorem go_dup (X : OnK p l e R s m args below meth c n0 T h cells slots) (hx : p.tables.exec = Jvm.exec) {v : Value} (hd : decode c.code pc = .ok (.dup, 1)) (hp : pc + 1 = pc') (hv : v.category = 1) (G : GoK p e below D T (mkF m pc' Ls (v :: v :: St))) : GoK p e below D T (mkF m pc Ls (v :: St)) := by
  subst hp
  exact GoK.by (fun t k => XS.dup X.at hx rfl hd rfl hv k) G
theorem go_pop (X : OnK p l e R s m args below meth c n0 T h cells slots) (hx : p.tables.exec = Jvm.exec) {v : Value} (hd : decode c.code pc = .ok (.pop, 1)) (hp : pc + 1 = pc') (hv : v.category = 1) (G : GoK p e below D T (mkF m pc' Ls St)) : GoK p e below D T (mkF m pc Ls (v :: St)) := by
  subst hp
  exact GoK.by (fun t k => XS.pop X.at hx rfl hd rfl hv k) G
theorem go_iload (X : OnK p l e R s m args below meth c n0 T h cells slots) (hx : p.tables.exec = Jvm.exec) {k : Nat} {v : Int32} (hd : decode c.code pc = .ok (.iload k, 2)) (hp : pc + 2 = pc') (hl : Ls[k]? = some (.val (.int v))) (G : GoK p e below D T (mkF m pc' Ls (.int v :: St))) : GoK p e below D T (mkF m pc Ls St) := by
  subst hp
  exact GoK.by (fun t k => XS.iload X.at hx rfl hd hl k) G
theorem go_lload (X : OnK p l e R s m args below meth c n0 T h cells slots) (hx : p.tables.exec = Jvm.exec) {k : Nat} {v : Int64} (hd : decode c.code pc = .ok (.lload k, 2)) (hp : pc + 2 = pc') (hl : Ls[k]? = some (.val (.long v))) (G : GoK p e below D T (mkF m pc' Ls (.long v :: St))) : GoK p e below D T (mkF m pc Ls St) := by
  subst hp
  exact GoK.by (fun t k => XS.lload X.at hx rfl hd hl k) G
theorem go_aload (X : OnK p l e R s m args below meth c n0 T h cells slots) (hx : p.tables.exec = Jvm.exec) {k : Nat} {v : Addr} (hd : decode c.code pc = .ok (.aload k, 2)) (hp : pc + 2 = pc') (hl : Ls[k]? = some (.val (.ref v))) (G : GoK p e below D T (mkF m pc' Ls (.ref v :: St))) : GoK p e below D T (mkF m pc Ls St) := by
  subst hp
  exact GoK.by (fun t k => XS.aload X.at hx rfl hd hl rfl k) G
theorem go_istore (X : OnK p l e R s m args below meth c n0 T h cells slots) (hx : p.tables.exec = Jvm.exec) {k : Nat} {v : Int32} {L' : Array Slot} (hd : decode c.code pc = .ok (.istore k, 2)) (hp : pc + 2 = pc') (hl : storeLocals Ls k (.int v) = some L') (G : GoK p e below D T (mkF m pc' L' St)) : GoK p e below D T (mkF m pc Ls (.int v :: St)) := by
  subst hp
  exact GoK.by (fun t k => XS.istore X.at hx rfl hd rfl hl k) G
theorem go_lstore (X : OnK p l e R s m args below meth c n0 T h cells slots) (hx : p.tables.exec = Jvm.exec) {k : Nat} {v : Int64} {L' : Array Slot} (hd : decode c.code pc = .ok (.lstore k, 2)) (hp : pc + 2 = pc') (hl : storeLocals Ls k (.long v) = some L') (G : GoK p e below D T (mkF m pc' L' St)) : GoK p e below D T (mkF m pc Ls (.long v :: St)) := by
  subst hp
  exact GoK.by (fun t k => XS.lstore X.at hx rfl hd rfl hl k) G
theorem go_astore (X : OnK p l e R s m args below meth c n0 T h cells slots) (hx : p.tables.exec = Jvm.exec) {k : Nat} {v : Addr} {L' : Array Slot} (hd : decode c.code pc = .ok (.astore k, 2)) (hp : pc + 2 = pc') (hl : storeLocals Ls k (.ref v) = some L') (G : GoK p e below D T (mkF m pc' L' St)) : GoK p e below D T (mkF m pc Ls (.ref v :: St)) := by
  subst hp
  exact GoK.by (fun t k => XS.astore X.at hx rfl hd rfl rfl hl k) G
theorem go_iloadN (X : OnK p l e R s m args below meth c n0 T h cells slots) (hx : p.tables.exec = Jvm.exec) {k : Fin 4} {v : Int32} (hd : decode c.code pc = .ok (.iload_n k, 1)) (hp : pc + 1 = pc') (hl : Ls[k.val]? = some (.val (.int v))) (G : GoK p e below D T (mkF m pc' Ls (.int v :: St))) : GoK p e below D T (mkF m pc Ls St) := by
  subst hp
  exact GoK.by (fun t k => XS.iloadN X.at hx rfl hd hl k) G
theorem go_lloadN (X : OnK p l e R s m args below meth c n0 T h cells slots) (hx : p.tables.exec = Jvm.exec) {k : Fin 4} {v : Int64} (hd : decode c.code pc = .ok (.lload_n k, 1)) (hp : pc + 1 = pc') (hl : Ls[k.val]? = some (.val (.long v))) (G : GoK p e below D T (mkF m pc' Ls (.long v :: St))) : GoK p e below D T (mkF m pc Ls St) := by
  subst hp
  exact GoK.by (fun t k => XS.lloadN X.at hx rfl hd hl k) G
theorem go_aloadN (X : OnK p l e R s m args below meth c n0 T h cells slots) (hx : p.tables.exec = Jvm.exec) {k : Fin 4} {v : Addr} (hd : decode c.code pc = .ok (.aload_n k, 1)) (hp : pc + 1 = pc') (hl : Ls[k.val]? = some (.val (.ref v))) (G : GoK p e below D T (mkF m pc' Ls (.ref v :: St))) : GoK p e below D T (mkF m pc Ls St) := by
  subst hp
  exact GoK.by (fun t k => XS.aloadN X.at hx rfl hd hl rfl k) G
theorem go_istoreN (X : OnK p l e R s m args below meth c n0 T h cells slots) (hx : p.tables.exec = Jvm.exec) {k : Fin 4} {v : Int32} {L' : Array Slot} (hd : decode c.code pc = .ok (.istore_n k, 1)) (hp : pc + 1 = pc') (hl : storeLocals Ls k.val (.int v) = some L') (G : GoK p e below D T (mkF m pc' L' St)) : GoK p e below D T (mkF m pc Ls (.int v :: St)) := by
  subst hp
  exact GoK.by (fun t k => XS.istoreN X.at hx rfl hd rfl hl k) G
theorem go_lstoreN (X : OnK p l e R s m args below meth c n0 T h cells slots) (hx : p.tables.exec = Jvm.exec) {k : Fin 4} {v : Int64} {L' : Array Slot} (hd : decode c.code pc = .ok (.lstore_n k, 1)) (hp : pc + 1 = pc') (hl : storeLocals Ls k.val (.long v) = some L') (G : GoK p e below D T (mkF m pc' L' St)) : GoK p e below D T (mkF m pc Ls (.long v :: St)) := by
  subst hp
  exact GoK.by (fun t k => XS.lstoreN X.at hx rfl hd rfl hl k) G
theorem go_astoreN (X : OnK p l e R s m args below meth c n0 T h cells slots) (hx : p.tables.exec = Jvm.exec) {k : Fin 4} {v : Addr} {L' : Array Slot} (hd : decode c.code pc = .ok (.astore_n k, 1)) (hp : pc + 1 = pc') (hl : storeLocals Ls k.val (.ref v) = some L') (G : GoK p e below D T (mkF m pc' L' St)) : GoK p e below D T (mkF m pc Ls (.ref v :: St)) := by
  subst hp
  exact GoK.by (fun t k => XS.astoreN X.at hx rfl hd rfl rfl hl k) G
theorem go_iinc (X : OnK p l e R s m args below meth c n0 T h cells slots) (hx : p.tables.exec = Jvm.exec) {k : Nat} {i : Int} {v w : Int32} {L' : Array Slot} (hd : decode c.code pc = .ok (.iinc k i, 3)) (hp : pc + 3 = pc') (hl : Ls[k]? = some (.val (.int v))) (hi : v + Int32.ofInt i = w) (hs : storeLocals Ls k (.int w) = some L') (G : GoK p e below D T (mkF m pc' L' St)) : GoK p e below D T (mkF m pc Ls St) := by
  subst hp
  exact GoK.by (fun t k => XS.iinc X.at hx rfl hd hl (hi.symm ▸ hs) k) G
theorem go_iconst (X : OnK p l e R s m args below meth c n0 T h cells slots) (hx : p.tables.exec = Jvm.exec) {i : Int} {v : Int32} (hd : decode c.code pc = .ok (.iconst i, 1)) (hp : pc + 1 = pc') (hv : Int32.ofInt i = v) (G : GoK p e below D T (mkF m pc' Ls (.int v :: St))) : GoK p e below D T (mkF m pc Ls St) := by
  subst hp
  exact GoK.by (fun t k => Jvm.Free.XT.iconstV X.at hx rfl v hd hv k) G
theorem go_bipush (X : OnK p l e R s m args below meth c n0 T h cells slots) (hx : p.tables.exec = Jvm.exec) {i : Int} {v : Int32} (hd : decode c.code pc = .ok (.bipush i, 2)) (hp : pc + 2 = pc') (hv : (Int8.ofInt i).toInt32 = v) (G : GoK p e below D T (mkF m pc' Ls (.int v :: St))) : GoK p e below D T (mkF m pc Ls St) := by
  subst hp
  exact GoK.by (fun t k => Jvm.Free.XT.bipushV X.at hx rfl v hd hv k) G
theorem go_sipush (X : OnK p l e R s m args below meth c n0 T h cells slots) (hx : p.tables.exec = Jvm.exec) {i : Int} {v : Int32} (hd : decode c.code pc = .ok (.sipush i, 3)) (hp : pc + 3 = pc') (hv : (Int16.ofInt i).toInt32 = v) (G : GoK p e below D T (mkF m pc' Ls (.int v :: St))) : GoK p e below D T (mkF m pc Ls St) := by
  subst hp
  exact GoK.by (fun t k => Jvm.Free.XT.sipushV X.at hx rfl v hd hv k) G
theorem go_lconst (X : OnK p l e R s m args below meth c n0 T h cells slots) (hx : p.tables.exec = Jvm.exec) {i : Fin 2} {v : Int64} (hd : decode c.code pc = .ok (.lconst i, 1)) (hp : pc + 1 = pc') (hv : Int64.ofNat i = v) (G : GoK p e below D T (mkF m pc' Ls (.long v :: St))) : GoK p e below D T (mkF m pc Ls St) := by
  subst hp
  exact GoK.by (fun t k => Jvm.Free.XT.lconstV X.at hx rfl v hd hv k) G
theorem go_goto (X : OnK p l e R s m args below meth c n0 T h cells slots) (hx : p.tables.exec = Jvm.exec) {o : Int} (hd : decode c.code pc = .ok (.goto o, 3)) (ho : 0 ≤ (pc : Int) + o) (hp : ((pc : Int) + o).toNat = pc') (G : GoK p e below D T (mkF m pc' Ls St)) : GoK p e below D T (mkF m pc Ls St) :=
  GoK.by (fun t k => XS.goto X.at hx rfl rfl hd ho hp k) G
theorem go_dup2 (X : OnK p l e R s m args below meth c n0 T h cells slots) (hx : p.tables.exec = Jvm.exec) {j : Int32} {a : Addr} (hd : decode c.code pc = .ok (.dup2, 1)) (hp : pc + 1 = pc') (G : GoK p e below D T (mkF m pc' Ls (.int j :: .ref a :: .int j :: .ref a :: St))) : GoK p e below D T (mkF m pc Ls (.int j :: .ref a :: St)) := by
  subst hp
  refine GoK.by (fun t k => ?_) G
  jvm_step X.at [X.at.top, hx, hd, Value.category]
  exact k
theorem go_ldcI (X : OnK p l e R s m args below meth c n0 T h cells slots) (hx : p.tables.exec = Jvm.exec) (hZ : Z.Warmed39 s.vm) {own : String} {i : Nat} {v : Int32} (hown : s.vm.findClass own = some m.cls) (wd : (Jvm.Cond.constant own i v).before a0 Z = true) (hd : decode c.code pc = .ok (.ldc i, 2)) (hp : pc + 2 = pc') (G : GoK p e below D T (mkF m pc' Ls (.int v :: St))) : GoK p e below D T (mkF m pc Ls St) := by
  subst hp
  obtain ⟨_, Y, -, -⟩ := X
  exact GoK.by (fun t k => Y.ldcInt hx hown (mvT hZ wd) (g := mkF m pc Ls St) rfl hd t k) G
theorem go_ldcwI (X : OnK p l e R s m args below meth c n0 T h cells slots) (hx : p.tables.exec = Jvm.exec) (hZ : Z.Warmed39 s.vm) {own : String} {i : Nat} {v : Int32} (hown : s.vm.findClass own = some m.cls) (wd : (Jvm.Cond.constant own i v).before a0 Z = true) (hd : decode c.code pc = .ok (.ldc_w i, 3)) (hp : pc + 3 = pc') (G : GoK p e below D T (mkF m pc' Ls (.int v :: St))) : GoK p e below D T (mkF m pc Ls St) := by
  subst hp
  obtain ⟨_, Y, -, -⟩ := X
  exact GoK.by (fun t k => Y.ldcwInt hx hown (mvT hZ wd) (g := mkF m pc Ls St) rfl hd t k) G
theorem go_ldc2 (X : OnK p l e R s m args below meth c n0 T h cells slots) (hx : p.tables.exec = Jvm.exec) (hZ : Z.Warmed39 s.vm) {own : String} {i : Nat} {v : Int64} (hown : s.vm.findClass own = some m.cls) (wd : (Jvm.Cond.constantLong own i v).before a0 Z = true) (hd : decode c.code pc = .ok (.ldc2_w i, 3)) (hp : pc + 3 = pc') (G : GoK p e below D T (mkF m pc' Ls (.long v :: St))) : GoK p e below D T (mkF m pc Ls St) := by
  subst hp
  obtain ⟨_, Y, -, -⟩ := X
  exact GoK.by (fun t k => Y.ldc2Long hx hown (mvT hZ wd) (g := mkF m pc Ls St) rfl hd t k) G
theorem go_ifeq (X : OnK p l e R s m args below meth c n0 T h cells slots) (hx : p.tables.exec = Jvm.exec) {x : Int32} {o : Int} {pcT : Nat} (hd : decode c.code pc = .ok (.ifCond .eq o, 3)) (hp : pc + 3 = pc') (ho : 0 ≤ (pc : Int) + o) (ht : ((pc : Int) + o).toNat = pcT) (G1 : x = 0 → GoK p e below D T (mkF m pcT Ls St)) (G2 : ¬ x = 0 → GoK p e below D T (mkF m pc' Ls St)) : GoK p e below D T (mkF m pc Ls (.int x :: St)) := by
  subst hp
  by_cases q : x = 0
  · exact GoK.by (fun t k => XS.ifYes X.at hx rfl rfl hd rfl ((if0 _ _).trans (teq q).1) ho ht k) (G1 q)
  · exact GoK.by (fun t k => XS.ifNo X.at hx rfl hd rfl ((if0 _ _).trans (feq q).1) k) (G2 q)
theorem go_icmpeq (X : OnK p l e R s m args below meth c n0 T h cells slots) (hx : p.tables.exec = Jvm.exec) {x y : Int32} {o : Int} {pcT : Nat} (hd : decode c.code pc = .ok (.if_icmp .eq o, 3)) (hp : pc + 3 = pc') (ho : 0 ≤ (pc : Int) + o) (ht : ((pc : Int) + o).toNat = pcT) (G1 : x = y → GoK p e below D T (mkF m pcT Ls St)) (G2 : ¬ x = y → GoK p e below D T (mkF m pc' Ls St)) : GoK p e below D T (mkF m pc Ls (.int y :: .int x :: St)) := by
  subst hp
  by_cases q : x = y
  · exact GoK.by (fun t k => XS.icmpYes X.at hx rfl rfl hd rfl (teq q).1 ho ht k) (G1 q)
  · exact GoK.by (fun t k => XS.icmpNo X.at hx rfl hd rfl (feq q).1 k) (G2 q)
theorem go_lifeq (X : OnK p l e R s m args below meth c n0 T h cells slots) (hx : p.tables.exec = Jvm.exec) {x y : Int64} {o : Int} {pc1 pcT : Nat} (hd1 : decode c.code pc = .ok (.lcmp, 1)) (hp1 : pc + 1 = pc1) (hd : decode c.code pc1 = .ok (.ifCond .eq o, 3)) (hp : pc1 + 3 = pc') (ho : 0 ≤ (pc1 : Int) + o) (ht : ((pc1 : Int) + o).toNat = pcT) (G1 : x = y → GoK p e below D T (mkF m pcT Ls St)) (G2 : ¬ x = y → GoK p e below D T (mkF m pc' Ls St)) : GoK p e below D T (mkF m pc Ls (.long y :: .long x :: St)) := by
  subst hp1
  refine GoK.by (fun t k => XS.lcmp X.at hx rfl hd1 rfl k) ?_
  exact go_ifeq X hx hd hp ho ht (fun q => G1 ((lw_eq x y).mp q)) (fun q => G2 ((not_congr (lw_eq x y)).mp q))
theorem go_ifne (X : OnK p l e R s m args below meth c n0 T h cells slots) (hx : p.tables.exec = Jvm.exec) {x : Int32} {o : Int} {pcT : Nat} (hd : decode c.code pc = .ok (.ifCond .ne o, 3)) (hp : pc + 3 = pc') (ho : 0 ≤ (pc : Int) + o) (ht : ((pc : Int) + o).toNat = pcT) (G1 : ¬ x = 0 → GoK p e below D T (mkF m pcT Ls St)) (G2 : x = 0 → GoK p e below D T (mkF m pc' Ls St)) : GoK p e below D T (mkF m pc Ls (.int x :: St)) := by
  subst hp
  by_cases q : ¬ x = 0
  · exact GoK.by (fun t k => XS.ifYes X.at hx rfl rfl hd rfl ((if0 _ _).trans (feq q).2) ho ht k) (G1 q)
  · exact GoK.by (fun t k => XS.ifNo X.at hx rfl hd rfl ((if0 _ _).trans (teq (Classical.not_not.mp q)).2) k) (G2 (Classical.not_not.mp q))
theorem go_icmpne (X : OnK p l e R s m args below meth c n0 T h cells slots) (hx : p.tables.exec = Jvm.exec) {x y : Int32} {o : Int} {pcT : Nat} (hd : decode c.code pc = .ok (.if_icmp .ne o, 3)) (hp : pc + 3 = pc') (ho : 0 ≤ (pc : Int) + o) (ht : ((pc : Int) + o).toNat = pcT) (G1 : ¬ x = y → GoK p e below D T (mkF m pcT Ls St)) (G2 : x = y → GoK p e below D T (mkF m pc' Ls St)) : GoK p e below D T (mkF m pc Ls (.int y :: .int x :: St)) := by
  subst hp
  by_cases q : ¬ x = y
  · exact GoK.by (fun t k => XS.icmpYes X.at hx rfl rfl hd rfl (feq q).2 ho ht k) (G1 q)
  · exact GoK.by (fun t k => XS.icmpNo X.at hx rfl hd rfl (teq (Classical.not_not.mp q)).2 k) (G2 (Classical.not_not.mp q))
theorem go_lifne (X : OnK p l e R s m args below meth c n0 T h cells slots) (hx : p.tables.exec = Jvm.exec) {x y : Int64} {o : Int} {pc1 pcT : Nat} (hd1 : decode c.code pc = .ok (.lcmp, 1)) (hp1 : pc + 1 = pc1) (hd : decode c.code pc1 = .ok (.ifCond .ne o, 3)) (hp : pc1 + 3 = pc') (ho : 0 ≤ (pc1 : Int) + o) (ht : ((pc1 : Int) + o).toNat = pcT) (G1 : ¬ x = y → GoK p e below D T (mkF m pcT Ls St)) (G2 : x = y → GoK p e below D T (mkF m pc' Ls St)) : GoK p e below D T (mkF m pc Ls (.long y :: .long x :: St)) := by
  subst hp1
  refine GoK.by (fun t k => XS.lcmp X.at hx rfl hd1 rfl k) ?_
  exact go_ifne X hx hd hp ho ht (fun q => G1 ((not_congr (lw_eq x y)).mp q)) (fun q => G2 ((lw_eq x y).mp q))
theorem go_iflt (X : OnK p l e R s m args below meth c n0 T h cells slots) (hx : p.tables.exec = Jvm.exec) {x : Int32} {o : Int} {pcT : Nat} (hd : decode c.code pc = .ok (.ifCond .lt o, 3)) (hp : pc + 3 = pc') (ho : 0 ≤ (pc : Int) + o) (ht : ((pc : Int) + o).toNat = pcT) (G1 : x < 0 → GoK p e below D T (mkF m pcT Ls St)) (G2 : ¬ x < 0 → GoK p e below D T (mkF m pc' Ls St)) : GoK p e below D T (mkF m pc Ls (.int x :: St)) := by
  subst hp
  by_cases q : x < 0
  · exact GoK.by (fun t k => XS.ifYes X.at hx rfl rfl hd rfl ((if0 _ _).trans (tlt q).1) ho ht k) (G1 q)
  · exact GoK.by (fun t k => XS.ifNo X.at hx rfl hd rfl ((if0 _ _).trans (flt q).1) k) (G2 q)
theorem go_icmplt (X : OnK p l e R s m args below meth c n0 T h cells slots) (hx : p.tables.exec = Jvm.exec) {x y : Int32} {o : Int} {pcT : Nat} (hd : decode c.code pc = .ok (.if_icmp .lt o, 3)) (hp : pc + 3 = pc') (ho : 0 ≤ (pc : Int) + o) (ht : ((pc : Int) + o).toNat = pcT) (G1 : x < y → GoK p e below D T (mkF m pcT Ls St)) (G2 : ¬ x < y → GoK p e below D T (mkF m pc' Ls St)) : GoK p e below D T (mkF m pc Ls (.int y :: .int x :: St)) := by
  subst hp
  by_cases q : x < y
  · exact GoK.by (fun t k => XS.icmpYes X.at hx rfl rfl hd rfl (tlt q).1 ho ht k) (G1 q)
  · exact GoK.by (fun t k => XS.icmpNo X.at hx rfl hd rfl (flt q).1 k) (G2 q)
theorem go_liflt (X : OnK p l e R s m args below meth c n0 T h cells slots) (hx : p.tables.exec = Jvm.exec) {x y : Int64} {o : Int} {pc1 pcT : Nat} (hd1 : decode c.code pc = .ok (.lcmp, 1)) (hp1 : pc + 1 = pc1) (hd : decode c.code pc1 = .ok (.ifCond .lt o, 3)) (hp : pc1 + 3 = pc') (ho : 0 ≤ (pc1 : Int) + o) (ht : ((pc1 : Int) + o).toNat = pcT) (G1 : x < y → GoK p e below D T (mkF m pcT Ls St)) (G2 : ¬ x < y → GoK p e below D T (mkF m pc' Ls St)) : GoK p e below D T (mkF m pc Ls (.long y :: .long x :: St)) := by
  subst hp1
  refine GoK.by (fun t k => XS.lcmp X.at hx rfl hd1 rfl k) ?_
  exact go_iflt X hx hd hp ho ht (fun q => G1 ((lw_lt x y).mp q)) (fun q => G2 ((not_congr (lw_lt x y)).mp q))
theorem go_ifge (X : OnK p l e R s m args below meth c n0 T h cells slots) (hx : p.tables.exec = Jvm.exec) {x : Int32} {o : Int} {pcT : Nat} (hd : decode c.code pc = .ok (.ifCond .ge o, 3)) (hp : pc + 3 = pc') (ho : 0 ≤ (pc : Int) + o) (ht : ((pc : Int) + o).toNat = pcT) (G1 : ¬ x < 0 → GoK p e below D T (mkF m pcT Ls St)) (G2 : x < 0 → GoK p e below D T (mkF m pc' Ls St)) : GoK p e below D T (mkF m pc Ls (.int x :: St)) := by
  subst hp
  by_cases q : ¬ x < 0
  · exact GoK.by (fun t k => XS.ifYes X.at hx rfl rfl hd rfl ((if0 _ _).trans (flt q).2.1) ho ht k) (G1 q)
  · exact GoK.by (fun t k => XS.ifNo X.at hx rfl hd rfl ((if0 _ _).trans (tlt (Classical.not_not.mp q)).2.1) k) (G2 (Classical.not_not.mp q))
theorem go_icmpge (X : OnK p l e R s m args below meth c n0 T h cells slots) (hx : p.tables.exec = Jvm.exec) {x y : Int32} {o : Int} {pcT : Nat} (hd : decode c.code pc = .ok (.if_icmp .ge o, 3)) (hp : pc + 3 = pc') (ho : 0 ≤ (pc : Int) + o) (ht : ((pc : Int) + o).toNat = pcT) (G1 : ¬ x < y → GoK p e below D T (mkF m pcT Ls St)) (G2 : x < y → GoK p e below D T (mkF m pc' Ls St)) : GoK p e below D T (mkF m pc Ls (.int y :: .int x :: St)) := by
  subst hp
  by_cases q : ¬ x < y
  · exact GoK.by (fun t k => XS.icmpYes X.at hx rfl rfl hd rfl (flt q).2.1 ho ht k) (G1 q)
  · exact GoK.by (fun t k => XS.icmpNo X.at hx rfl hd rfl (tlt (Classical.not_not.mp q)).2.1 k) (G2 (Classical.not_not.mp q))
theorem go_lifge (X : OnK p l e R s m args below meth c n0 T h cells slots) (hx : p.tables.exec = Jvm.exec) {x y : Int64} {o : Int} {pc1 pcT : Nat} (hd1 : decode c.code pc = .ok (.lcmp, 1)) (hp1 : pc + 1 = pc1) (hd : decode c.code pc1 = .ok (.ifCond .ge o, 3)) (hp : pc1 + 3 = pc') (ho : 0 ≤ (pc1 : Int) + o) (ht : ((pc1 : Int) + o).toNat = pcT) (G1 : ¬ x < y → GoK p e below D T (mkF m pcT Ls St)) (G2 : x < y → GoK p e below D T (mkF m pc' Ls St)) : GoK p e below D T (mkF m pc Ls (.long y :: .long x :: St)) := by
  subst hp1
  refine GoK.by (fun t k => XS.lcmp X.at hx rfl hd1 rfl k) ?_
  exact go_ifge X hx hd hp ho ht (fun q => G1 ((not_congr (lw_lt x y)).mp q)) (fun q => G2 ((lw_lt x y).mp q))
theorem go_ifgt (X : OnK p l e R s m args below meth c n0 T h cells slots) (hx : p.tables.exec = Jvm.exec) {x : Int32} {o : Int} {pcT : Nat} (hd : decode c.code pc = .ok (.ifCond .gt o, 3)) (hp : pc + 3 = pc') (ho : 0 ≤ (pc : Int) + o) (ht : ((pc : Int) + o).toNat = pcT) (G1 : 0 < x → GoK p e below D T (mkF m pcT Ls St)) (G2 : ¬ 0 < x → GoK p e below D T (mkF m pc' Ls St)) : GoK p e below D T (mkF m pc Ls (.int x :: St)) := by
  subst hp
  by_cases q : 0 < x
  · exact GoK.by (fun t k => XS.ifYes X.at hx rfl rfl hd rfl ((if0 _ _).trans (tlt q).2.2.1) ho ht k) (G1 q)
  · exact GoK.by (fun t k => XS.ifNo X.at hx rfl hd rfl ((if0 _ _).trans (flt q).2.2.1) k) (G2 q)
theorem go_icmpgt (X : OnK p l e R s m args below meth c n0 T h cells slots) (hx : p.tables.exec = Jvm.exec) {x y : Int32} {o : Int} {pcT : Nat} (hd : decode c.code pc = .ok (.if_icmp .gt o, 3)) (hp : pc + 3 = pc') (ho : 0 ≤ (pc : Int) + o) (ht : ((pc : Int) + o).toNat = pcT) (G1 : y < x → GoK p e below D T (mkF m pcT Ls St)) (G2 : ¬ y < x → GoK p e below D T (mkF m pc' Ls St)) : GoK p e below D T (mkF m pc Ls (.int y :: .int x :: St)) := by
  subst hp
  by_cases q : y < x
  · exact GoK.by (fun t k => XS.icmpYes X.at hx rfl rfl hd rfl (tlt q).2.2.1 ho ht k) (G1 q)
  · exact GoK.by (fun t k => XS.icmpNo X.at hx rfl hd rfl (flt q).2.2.1 k) (G2 q)
theorem go_lifgt (X : OnK p l e R s m args below meth c n0 T h cells slots) (hx : p.tables.exec = Jvm.exec) {x y : Int64} {o : Int} {pc1 pcT : Nat} (hd1 : decode c.code pc = .ok (.lcmp, 1)) (hp1 : pc + 1 = pc1) (hd : decode c.code pc1 = .ok (.ifCond .gt o, 3)) (hp : pc1 + 3 = pc') (ho : 0 ≤ (pc1 : Int) + o) (ht : ((pc1 : Int) + o).toNat = pcT) (G1 : y < x → GoK p e below D T (mkF m pcT Ls St)) (G2 : ¬ y < x → GoK p e below D T (mkF m pc' Ls St)) : GoK p e below D T (mkF m pc Ls (.long y :: .long x :: St)) := by
  subst hp1
  refine GoK.by (fun t k => XS.lcmp X.at hx rfl hd1 rfl k) ?_
  exact go_ifgt X hx hd hp ho ht (fun q => G1 ((lw_gt x y).mp q)) (fun q => G2 ((not_congr (lw_gt x y)).mp q))
theorem go_ifle (X : OnK p l e R s m args below meth c n0 T h cells slots) (hx : p.tables.exec = Jvm.exec) {x : Int32} {o : Int} {pcT : Nat} (hd : decode c.code pc = .ok (.ifCond .le o, 3)) (hp : pc + 3 = pc') (ho : 0 ≤ (pc : Int) + o) (ht : ((pc : Int) + o).toNat = pcT) (G1 : ¬ 0 < x → GoK p e below D T (mkF m pcT Ls St)) (G2 : 0 < x → GoK p e below D T (mkF m pc' Ls St)) : GoK p e below D T (mkF m pc Ls (.int x :: St)) := by
  subst hp
  by_cases q : ¬ 0 < x
  · exact GoK.by (fun t k => XS.ifYes X.at hx rfl rfl hd rfl ((if0 _ _).trans (flt q).2.2.2) ho ht k) (G1 q)
  · exact GoK.by (fun t k => XS.ifNo X.at hx rfl hd rfl ((if0 _ _).trans (tlt (Classical.not_not.mp q)).2.2.2) k) (G2 (Classical.not_not.mp q))
theorem go_icmple (X : OnK p l e R s m args below meth c n0 T h cells slots) (hx : p.tables.exec = Jvm.exec) {x y : Int32} {o : Int} {pcT : Nat} (hd : decode c.code pc = .ok (.if_icmp .le o, 3)) (hp : pc + 3 = pc') (ho : 0 ≤ (pc : Int) + o) (ht : ((pc : Int) + o).toNat = pcT) (G1 : ¬ y < x → GoK p e below D T (mkF m pcT Ls St)) (G2 : y < x → GoK p e below D T (mkF m pc' Ls St)) : GoK p e below D T (mkF m pc Ls (.int y :: .int x :: St)) := by
  subst hp
  by_cases q : ¬ y < x
  · exact GoK.by (fun t k => XS.icmpYes X.at hx rfl rfl hd rfl (flt q).2.2.2 ho ht k) (G1 q)
  · exact GoK.by (fun t k => XS.icmpNo X.at hx rfl hd rfl (tlt (Classical.not_not.mp q)).2.2.2 k) (G2 (Classical.not_not.mp q))
theorem go_lifle (X : OnK p l e R s m args below meth c n0 T h cells slots) (hx : p.tables.exec = Jvm.exec) {x y : Int64} {o : Int} {pc1 pcT : Nat} (hd1 : decode c.code pc = .ok (.lcmp, 1)) (hp1 : pc + 1 = pc1) (hd : decode c.code pc1 = .ok (.ifCond .le o, 3)) (hp : pc1 + 3 = pc') (ho : 0 ≤ (pc1 : Int) + o) (ht : ((pc1 : Int) + o).toNat = pcT) (G1 : ¬ y < x → GoK p e below D T (mkF m pcT Ls St)) (G2 : y < x → GoK p e below D T (mkF m pc' Ls St)) : GoK p e below D T (mkF m pc Ls (.long y :: .long x :: St)) := by
  subst hp1
  refine GoK.by (fun t k => XS.lcmp X.at hx rfl hd1 rfl k) ?_
  exact go_ifle X hx hd hp ho ht (fun q => G1 ((not_congr (lw_gt x y)).mp q)) (fun q => G2 ((lw_gt x y).mp q))
/-- the array at a: of n places, place i holds the int f i -/
def AIK (Z : State) (h : Heap) (a : Addr) (ty : FieldType) (n : Int) (f : Int → Int32) : Prop := ∃ c : Cell, Arr Z h a c ty ∧ (c.slots.size : Int) = n ∧ n < 2147483648 ∧ ∀ i : Nat, (i : Int) < n → c.slots[i]? = some (.int (f i))
def AJK (Z : State) (h : Heap) (a : Addr) (n : Int) (f : Int → Int64) : Prop := ∃ c : Cell, Arr Z h a c .long ∧ (c.slots.size : Int) = n ∧ n < 2147483648 ∧ ∀ i : Nat, (i : Int) < n → c.slots[i]? = some (.long (f i))
theorem AIK.lt {a : Addr} {ty : FieldType} {n : Int} {f : Int → Int32} (F : AIK Z h a ty n f) : a < h.size := by obtain ⟨c, A, -⟩ := F; exact A.lt
theorem AIK.nn {a : Addr} {ty : FieldType} {n : Int} {f : Int → Int32} (F : AIK Z h a ty n f) : 0 ≤ n ∧ n < 2147483648 := by obtain ⟨c, -, S, q, -⟩ := F; exact ⟨by omega, q⟩
theorem AIK.ext {h' : Heap} {a : Addr} {ty : FieldType} {n : Int} {f : Int → Int32} (F : AIK Z h a ty n f) (E : Ext h h') : AIK Z h' a ty n f := by obtain ⟨c, A, r⟩ := F; exact ⟨c, A.ext E, r⟩
theorem AIK.other {h' : Heap} {a b : Addr} {sl : Nat} {v : Value} {ty : FieldType} {n : Int} {f : Int → Int32} (F : AIK Z h b ty n f) (W : Wr h h' a sl v) (q : b ≠ a) : AIK Z h' b ty n f := by obtain ⟨c, A, r⟩ := F; exact ⟨c, A.other W q, r⟩
theorem AIK.keep {h' : Heap} {a : Addr} {ws : List Addr} {ty : FieldType} {n : Int} {f : Int → Int32} (F : AIK Z h a ty n f) (K : Keep h h' ws) (q : a ∉ ws) : AIK Z h' a ty n f := by obtain ⟨c, A, r⟩ := F; exact ⟨c, ⟨K.2.1 a c A.1 q, A.2⟩, r⟩
theorem AIK.of_arv {a : Addr} {k : ClassId} {ty : FieldType} {z : Int32} {n : Int} {x : Int32} (F : Arv Z h a k ty z [] (.int x)) (q : z.toInt = n) : AIK Z h a ty n (fun _ => x) := by
  obtain ⟨c, A, -, S, M, H, -⟩ := F
  rw [Int32.lt_iff_toInt_lt] at M
  have hz : (0 : Int32).toInt = 0 := rfl
  have hr := rng32 z
  have S' : c.slots.size = z.toInt.toNat := S
  refine ⟨c, A, by omega, by omega, fun i hi => ?_⟩
  exact (H i (by omega)).trans rfl
theorem AIK.set {h' : Heap} {a : Addr} {j : Int32} {ty : FieldType} {n : Int} {f : Int → Int32} {x : Int32} (F : AIK Z h a ty n f) (W : Wr h h' a j.toNatClampNeg (.int x)) (h1 : 0 ≤ j.toInt) (h2 : j.toInt < n) : AIK Z h' a ty n (fun i => if i = j.toInt then x else f i) := by
  obtain ⟨c, A, S, M, H⟩ := F
  have hj : j.toNatClampNeg = j.toInt.toNat := rfl
  refine ⟨_, A.same W, ?_, M, fun i hi => ?_⟩
  · show (((c.slots.setIfInBounds j.toNatClampNeg (Value.int x)).size : Nat) : Int) = n
    rw [Array.size_setIfInBounds]; exact S
  · show (c.slots.setIfInBounds j.toNatClampNeg (Value.int x))[i]? = _
    rw [Array.getElem?_setIfInBounds]
    by_cases q : j.toNatClampNeg = i
    · have hi' : (i : Int) = j.toInt := by omega
      rw [if_pos q, if_pos (by omega)]
      show some (Value.int x) = some (Value.int (if (i : Int) = j.toInt then x else f i))
      rw [if_pos hi']
    · have hi' : ¬ (i : Int) = j.toInt := by omega
      rw [if_neg q]
      show _ = some (Value.int (if (i : Int) = j.toInt then x else f i))
      rw [if_neg hi']; exact H i hi
theorem AIK.get {a : Addr} {j : Int32} {ty : FieldType} {n : Int} {f : Int → Int32} (F : AIK Z h a ty n f) (h1 : 0 ≤ j.toInt) (h2 : j.toInt < n) : ∃ c : Cell, Arr Z h a c ty ∧ ¬ (j < 0 ∨ c.slots.size ≤ j.toNatClampNeg) ∧ c.slots[j.toNatClampNeg]? = some (.int (f j.toInt)) := by
  obtain ⟨c, A, S, M, H⟩ := F
  have hj : j.toNatClampNeg = j.toInt.toNat := rfl
  refine ⟨c, A, ?_, ?_⟩
  · rw [Int32.lt_iff_toInt_lt]
    have hz : (0 : Int32).toInt = 0 := rfl
    omega
  · rw [hj, H j.toInt.toNat (by omega), Int.toNat_of_nonneg h1]
theorem AIK.congr {a : Addr} {ty : FieldType} {n : Int} {f g : Int → Int32} (F : AIK Z h a ty n f) (q : ∀ i : Int, 0 ≤ i → i < n → f i = g i) : AIK Z h a ty n g := by
  obtain ⟨c, A, S, M, H⟩ := F
  exact ⟨c, A, S, M, fun i hi => by rw [H i hi, q i (by omega) hi]⟩
theorem AJK.lt {a : Addr} {n : Int} {f : Int → Int64} (F : AJK Z h a n f) : a < h.size := by obtain ⟨c, A, -⟩ := F; exact A.lt
theorem AJK.nn {a : Addr} {n : Int} {f : Int → Int64} (F : AJK Z h a n f) : 0 ≤ n ∧ n < 2147483648 := by obtain ⟨c, -, S, q, -⟩ := F; exact ⟨by omega, q⟩
theorem AJK.ext {h' : Heap} {a : Addr} {n : Int} {f : Int → Int64} (F : AJK Z h a n f) (E : Ext h h') : AJK Z h' a n f := by obtain ⟨c, A, r⟩ := F; exact ⟨c, A.ext E, r⟩
theorem AJK.other {h' : Heap} {a b : Addr} {sl : Nat} {v : Value} {n : Int} {f : Int → Int64} (F : AJK Z h b n f) (W : Wr h h' a sl v) (q : b ≠ a) : AJK Z h' b n f := by obtain ⟨c, A, r⟩ := F; exact ⟨c, A.other W q, r⟩
theorem AJK.keep {h' : Heap} {a : Addr} {ws : List Addr} {n : Int} {f : Int → Int64} (F : AJK Z h a n f) (K : Keep h h' ws) (q : a ∉ ws) : AJK Z h' a n f := by obtain ⟨c, A, r⟩ := F; exact ⟨c, ⟨K.2.1 a c A.1 q, A.2⟩, r⟩
theorem AJK.of_arv {a : Addr} {k : ClassId} {z : Int32} {n : Int} {x : Int64} (F : Arv Z h a k .long z [] (.long x)) (q : z.toInt = n) : AJK Z h a n (fun _ => x) := by
  obtain ⟨c, A, -, S, M, H, -⟩ := F
  rw [Int32.lt_iff_toInt_lt] at M
  have hz : (0 : Int32).toInt = 0 := rfl
  have hr := rng32 z
  have S' : c.slots.size = z.toInt.toNat := S
  refine ⟨c, A, by omega, by omega, fun i hi => ?_⟩
  exact (H i (by omega)).trans rfl
theorem AJK.set {h' : Heap} {a : Addr} {j : Int32} {n : Int} {f : Int → Int64} {x : Int64} (F : AJK Z h a n f) (W : Wr h h' a j.toNatClampNeg (.long x)) (h1 : 0 ≤ j.toInt) (h2 : j.toInt < n) : AJK Z h' a n (fun i => if i = j.toInt then x else f i) := by
  obtain ⟨c, A, S, M, H⟩ := F
  have hj : j.toNatClampNeg = j.toInt.toNat := rfl
  refine ⟨_, A.same W, ?_, M, fun i hi => ?_⟩
  · show (((c.slots.setIfInBounds j.toNatClampNeg (Value.long x)).size : Nat) : Int) = n
    rw [Array.size_setIfInBounds]; exact S
  · show (c.slots.setIfInBounds j.toNatClampNeg (Value.long x))[i]? = _
    rw [Array.getElem?_setIfInBounds]
    by_cases q : j.toNatClampNeg = i
    · have hi' : (i : Int) = j.toInt := by omega
      rw [if_pos q, if_pos (by omega)]
      show some (Value.long x) = some (Value.long (if (i : Int) = j.toInt then x else f i))
      rw [if_pos hi']
    · have hi' : ¬ (i : Int) = j.toInt := by omega
      rw [if_neg q]
      show _ = some (Value.long (if (i : Int) = j.toInt then x else f i))
      rw [if_neg hi']; exact H i hi
theorem AJK.get {a : Addr} {j : Int32} {n : Int} {f : Int → Int64} (F : AJK Z h a n f) (h1 : 0 ≤ j.toInt) (h2 : j.toInt < n) : ∃ c : Cell, Arr Z h a c .long ∧ ¬ (j < 0 ∨ c.slots.size ≤ j.toNatClampNeg) ∧ c.slots[j.toNatClampNeg]? = some (.long (f j.toInt)) := by
  obtain ⟨c, A, S, M, H⟩ := F
  have hj : j.toNatClampNeg = j.toInt.toNat := rfl
  refine ⟨c, A, ?_, ?_⟩
  · rw [Int32.lt_iff_toInt_lt]
    have hz : (0 : Int32).toInt = 0 := rfl
    omega
  · rw [hj, H j.toInt.toNat (by omega), Int.toNat_of_nonneg h1]
theorem AJK.congr {a : Addr} {n : Int} {f g : Int → Int64} (F : AJK Z h a n f) (q : ∀ i : Int, 0 ≤ i → i < n → f i = g i) : AJK Z h a n g := by
  obtain ⟨c, A, S, M, H⟩ := F
  exact ⟨c, A, S, M, fun i hi => by rw [H i hi, q i (by omega) hi]⟩
theorem go_newI (X : OnK p l e R s m args below meth c n0 T h cells slots) (hx : p.tables.exec = Jvm.exec) (hZ : Z.Warmed39 s.vm) {x : Int32} {cap : Nat} {n : Int} (wd : (Jvm.Cond.arrayClass .int).before a0 Z = true) (hd : decode c.code pc = .ok (.newarray .int, 2)) (hp : pc + 2 = pc') (hn : x.toInt = n) (h1 : 0 ≤ n) (h2 : n ≤ cap) (hb : cap * 8 ≤ 536870912) (hc : cells + 1 ≤ R.cells) (hs : slots + cap ≤ R.slots) (hc' : cells + 1 = cells') (hs' : slots + cap = slots') (G : ∀ (T' : State) (h' : Heap) (a : Addr), a = h.size → OnK p l e R s m args below meth c n0 T' h' cells' slots' → Ext h h' → AIK Z h' a .int n (fun _ => 0) → GoK p e below D T' (mkF m (pc') Ls (.ref a :: St))) : GoK p e below D T (mkF m pc Ls (.int x :: St)) := by
  subst hp hc' hs'
  obtain ⟨_, Y, e0, N⟩ := X
  have hz : (0 : Int32).toInt = 0 := rfl
  have q : ¬ x < 0 := by rw [Int32.lt_iff_toInt_lt]; omega
  obtain ⟨T', h', k, Y', e', E, A, st⟩ := newP Y hx hZ (aty := .int) wd e0 (g := mkF m pc Ls (.int x :: St)) rfl hd rfl q (cap := cap) (by show x.toInt.toNat ≤ cap; omega) hb hc hs
  refine GoK.by st (G T' h' _ rfl ⟨_, Y', e', N⟩ E ?_)
  exact AIK.of_arv (Arv.new A q) hn
theorem go_newB (X : OnK p l e R s m args below meth c n0 T h cells slots) (hx : p.tables.exec = Jvm.exec) (hZ : Z.Warmed39 s.vm) {x : Int32} {cap : Nat} {n : Int} (wd : (Jvm.Cond.arrayClass .byte).before a0 Z = true) (hd : decode c.code pc = .ok (.newarray .byte, 2)) (hp : pc + 2 = pc') (hn : x.toInt = n) (h1 : 0 ≤ n) (h2 : n ≤ cap) (hb : cap * 8 ≤ 536870912) (hc : cells + 1 ≤ R.cells) (hs : slots + cap ≤ R.slots) (hc' : cells + 1 = cells') (hs' : slots + cap = slots') (G : ∀ (T' : State) (h' : Heap) (a : Addr), a = h.size → OnK p l e R s m args below meth c n0 T' h' cells' slots' → Ext h h' → AIK Z h' a .byte n (fun _ => 0) → GoK p e below D T' (mkF m (pc') Ls (.ref a :: St))) : GoK p e below D T (mkF m pc Ls (.int x :: St)) := by
  subst hp hc' hs'
  obtain ⟨_, Y, e0, N⟩ := X
  have hz : (0 : Int32).toInt = 0 := rfl
  have q : ¬ x < 0 := by rw [Int32.lt_iff_toInt_lt]; omega
  obtain ⟨T', h', k, Y', e', E, A, st⟩ := newP Y hx hZ (aty := .byte) wd e0 (g := mkF m pc Ls (.int x :: St)) rfl hd rfl q (cap := cap) (by show x.toInt.toNat ≤ cap; omega) hb hc hs
  refine GoK.by st (G T' h' _ rfl ⟨_, Y', e', N⟩ E ?_)
  exact AIK.of_arv (Arv.new A q) hn
theorem go_newC (X : OnK p l e R s m args below meth c n0 T h cells slots) (hx : p.tables.exec = Jvm.exec) (hZ : Z.Warmed39 s.vm) {x : Int32} {cap : Nat} {n : Int} (wd : (Jvm.Cond.arrayClass .char).before a0 Z = true) (hd : decode c.code pc = .ok (.newarray .char, 2)) (hp : pc + 2 = pc') (hn : x.toInt = n) (h1 : 0 ≤ n) (h2 : n ≤ cap) (hb : cap * 8 ≤ 536870912) (hc : cells + 1 ≤ R.cells) (hs : slots + cap ≤ R.slots) (hc' : cells + 1 = cells') (hs' : slots + cap = slots') (G : ∀ (T' : State) (h' : Heap) (a : Addr), a = h.size → OnK p l e R s m args below meth c n0 T' h' cells' slots' → Ext h h' → AIK Z h' a .char n (fun _ => 0) → GoK p e below D T' (mkF m (pc') Ls (.ref a :: St))) : GoK p e below D T (mkF m pc Ls (.int x :: St)) := by
  subst hp hc' hs'
  obtain ⟨_, Y, e0, N⟩ := X
  have hz : (0 : Int32).toInt = 0 := rfl
  have q : ¬ x < 0 := by rw [Int32.lt_iff_toInt_lt]; omega
  obtain ⟨T', h', k, Y', e', E, A, st⟩ := newP Y hx hZ (aty := .char) wd e0 (g := mkF m pc Ls (.int x :: St)) rfl hd rfl q (cap := cap) (by show x.toInt.toNat ≤ cap; omega) hb hc hs
  refine GoK.by st (G T' h' _ rfl ⟨_, Y', e', N⟩ E ?_)
  exact AIK.of_arv (Arv.new A q) hn
theorem go_newZ (X : OnK p l e R s m args below meth c n0 T h cells slots) (hx : p.tables.exec = Jvm.exec) (hZ : Z.Warmed39 s.vm) {x : Int32} {cap : Nat} {n : Int} (wd : (Jvm.Cond.arrayClass .boolean).before a0 Z = true) (hd : decode c.code pc = .ok (.newarray .boolean, 2)) (hp : pc + 2 = pc') (hn : x.toInt = n) (h1 : 0 ≤ n) (h2 : n ≤ cap) (hb : cap * 8 ≤ 536870912) (hc : cells + 1 ≤ R.cells) (hs : slots + cap ≤ R.slots) (hc' : cells + 1 = cells') (hs' : slots + cap = slots') (G : ∀ (T' : State) (h' : Heap) (a : Addr), a = h.size → OnK p l e R s m args below meth c n0 T' h' cells' slots' → Ext h h' → AIK Z h' a .boolean n (fun _ => 0) → GoK p e below D T' (mkF m (pc') Ls (.ref a :: St))) : GoK p e below D T (mkF m pc Ls (.int x :: St)) := by
  subst hp hc' hs'
  obtain ⟨_, Y, e0, N⟩ := X
  have hz : (0 : Int32).toInt = 0 := rfl
  have q : ¬ x < 0 := by rw [Int32.lt_iff_toInt_lt]; omega
  obtain ⟨T', h', k, Y', e', E, A, st⟩ := newP Y hx hZ (aty := .boolean) wd e0 (g := mkF m pc Ls (.int x :: St)) rfl hd rfl q (cap := cap) (by show x.toInt.toNat ≤ cap; omega) hb hc hs
  refine GoK.by st (G T' h' _ rfl ⟨_, Y', e', N⟩ E ?_)
  exact AIK.of_arv (Arv.new A q) hn
theorem go_newJ (X : OnK p l e R s m args below meth c n0 T h cells slots) (hx : p.tables.exec = Jvm.exec) (hZ : Z.Warmed39 s.vm) {x : Int32} {cap : Nat} {n : Int} (wd : (Jvm.Cond.arrayClass .long).before a0 Z = true) (hd : decode c.code pc = .ok (.newarray .long, 2)) (hp : pc + 2 = pc') (hn : x.toInt = n) (h1 : 0 ≤ n) (h2 : n ≤ cap) (hb : cap * 8 ≤ 536870912) (hc : cells + 1 ≤ R.cells) (hs : slots + cap ≤ R.slots) (hc' : cells + 1 = cells') (hs' : slots + cap = slots') (G : ∀ (T' : State) (h' : Heap) (a : Addr), a = h.size → OnK p l e R s m args below meth c n0 T' h' cells' slots' → Ext h h' → AJK Z h' a n (fun _ => 0) → GoK p e below D T' (mkF m (pc') Ls (.ref a :: St))) : GoK p e below D T (mkF m pc Ls (.int x :: St)) := by
  subst hp hc' hs'
  obtain ⟨_, Y, e0, N⟩ := X
  have hz : (0 : Int32).toInt = 0 := rfl
  have q : ¬ x < 0 := by rw [Int32.lt_iff_toInt_lt]; omega
  obtain ⟨T', h', k, Y', e', E, A, st⟩ := newP Y hx hZ (aty := .long) wd e0 (g := mkF m pc Ls (.int x :: St)) rfl hd rfl q (cap := cap) (by show x.toInt.toNat ≤ cap; omega) hb hc hs
  refine GoK.by st (G T' h' _ rfl ⟨_, Y', e', N⟩ E ?_)
  exact AJK.of_arv (Arv.new A q) hn
theorem go_iastore (X : OnK p l e R s m args below meth c n0 T h cells slots) (hx : p.tables.exec = Jvm.exec) (hZ : Z.Warmed39 s.vm) {x : Int32} {j : Int32} {a : Addr} {n : Int} {f : Int → Int32} (A : AIK Z h a .int n f) (ga : n0 ≤ a) (h1 : 0 ≤ j.toInt) (h2 : j.toInt < n) (hd : decode c.code pc = .ok (.iastore, 1)) (hp : pc + 1 = pc') (G : ∀ (T' : State) (h' : Heap), OnK p l e R s m args below meth c n0 T' h' cells slots → Wr h h' a j.toNatClampNeg (.int (x)) → AIK Z h' a .int n (fun i => if i = j.toInt then x else f i) → GoK p e below D T' (mkF m pc' Ls St)) : GoK p e below D T (mkF m pc Ls (.int x :: .int j :: .ref a :: St)) := by
  subst hp
  obtain ⟨_, Y, e0, N⟩ := X
  obtain ⟨cl, Ar, hin, -⟩ := A.get h1 h2
  obtain ⟨T', h', Y', e', W, st⟩ := stI Y hx hZ e0 Ar (j := j) (x := x) hin (g := mkF m pc Ls (.int x :: .int j :: .ref a :: St)) rfl rfl hd
  exact GoK.by st (G T' h' ⟨_, Y', e', Fr.snoc Y' N ga⟩ W (A.set W h1 h2))
theorem go_castore (X : OnK p l e R s m args below meth c n0 T h cells slots) (hx : p.tables.exec = Jvm.exec) (hZ : Z.Warmed39 s.vm) {x : Int32} {j : Int32} {a : Addr} {n : Int} {f : Int → Int32} (A : AIK Z h a .char n f) (ga : n0 ≤ a) (h1 : 0 ≤ j.toInt) (h2 : j.toInt < n) (hd : decode c.code pc = .ok (.castore, 1)) (hp : pc + 1 = pc') (G : ∀ (T' : State) (h' : Heap), OnK p l e R s m args below meth c n0 T' h' cells slots → Wr h h' a j.toNatClampNeg (.int (nar .char x)) → AIK Z h' a .char n (fun i => if i = j.toInt then nar .char x else f i) → GoK p e below D T' (mkF m pc' Ls St)) : GoK p e below D T (mkF m pc Ls (.int x :: .int j :: .ref a :: St)) := by
  subst hp
  obtain ⟨_, Y, e0, N⟩ := X
  obtain ⟨cl, Ar, hin, -⟩ := A.get h1 h2
  obtain ⟨T', h', Y', e', W, st⟩ := stC Y hx hZ e0 Ar (j := j) (x := x) hin (g := mkF m pc Ls (.int x :: .int j :: .ref a :: St)) rfl rfl hd
  exact GoK.by st (G T' h' ⟨_, Y', e', Fr.snoc Y' N ga⟩ W (A.set W h1 h2))
theorem go_bastoreB (X : OnK p l e R s m args below meth c n0 T h cells slots) (hx : p.tables.exec = Jvm.exec) (hZ : Z.Warmed39 s.vm) {x : Int32} {j : Int32} {a : Addr} {n : Int} {f : Int → Int32} (A : AIK Z h a .byte n f) (ga : n0 ≤ a) (h1 : 0 ≤ j.toInt) (h2 : j.toInt < n) (hd : decode c.code pc = .ok (.bastore, 1)) (hp : pc + 1 = pc') (G : ∀ (T' : State) (h' : Heap), OnK p l e R s m args below meth c n0 T' h' cells slots → Wr h h' a j.toNatClampNeg (.int (nar .byte x)) → AIK Z h' a .byte n (fun i => if i = j.toInt then nar .byte x else f i) → GoK p e below D T' (mkF m pc' Ls St)) : GoK p e below D T (mkF m pc Ls (.int x :: .int j :: .ref a :: St)) := by
  subst hp
  obtain ⟨_, Y, e0, N⟩ := X
  obtain ⟨cl, Ar, hin, -⟩ := A.get h1 h2
  obtain ⟨T', h', Y', e', W, st⟩ := stB Y hx hZ e0 Ar (j := j) (x := x) hin (g := mkF m pc Ls (.int x :: .int j :: .ref a :: St)) rfl rfl hd
  exact GoK.by st (G T' h' ⟨_, Y', e', Fr.snoc Y' N ga⟩ W (A.set W h1 h2))
theorem go_bastoreZ (X : OnK p l e R s m args below meth c n0 T h cells slots) (hx : p.tables.exec = Jvm.exec) (hZ : Z.Warmed39 s.vm) {x : Int32} {j : Int32} {a : Addr} {n : Int} {f : Int → Int32} (A : AIK Z h a .boolean n f) (ga : n0 ≤ a) (h1 : 0 ≤ j.toInt) (h2 : j.toInt < n) (hd : decode c.code pc = .ok (.bastore, 1)) (hp : pc + 1 = pc') (G : ∀ (T' : State) (h' : Heap), OnK p l e R s m args below meth c n0 T' h' cells slots → Wr h h' a j.toNatClampNeg (.int (nar .boolean x)) → AIK Z h' a .boolean n (fun i => if i = j.toInt then nar .boolean x else f i) → GoK p e below D T' (mkF m pc' Ls St)) : GoK p e below D T (mkF m pc Ls (.int x :: .int j :: .ref a :: St)) := by
  subst hp
  obtain ⟨_, Y, e0, N⟩ := X
  obtain ⟨cl, Ar, hin, -⟩ := A.get h1 h2
  obtain ⟨T', h', Y', e', W, st⟩ := stZ Y hx hZ e0 Ar (j := j) (x := x) hin (g := mkF m pc Ls (.int x :: .int j :: .ref a :: St)) rfl rfl hd
  exact GoK.by st (G T' h' ⟨_, Y', e', Fr.snoc Y' N ga⟩ W (A.set W h1 h2))
theorem go_lastore (X : OnK p l e R s m args below meth c n0 T h cells slots) (hx : p.tables.exec = Jvm.exec) (hZ : Z.Warmed39 s.vm) {x : Int64} {j : Int32} {a : Addr} {n : Int} {f : Int → Int64} (A : AJK Z h a n f) (ga : n0 ≤ a) (h1 : 0 ≤ j.toInt) (h2 : j.toInt < n) (hd : decode c.code pc = .ok (.lastore, 1)) (hp : pc + 1 = pc') (G : ∀ (T' : State) (h' : Heap), OnK p l e R s m args below meth c n0 T' h' cells slots → Wr h h' a j.toNatClampNeg (.long (x)) → AJK Z h' a n (fun i => if i = j.toInt then x else f i) → GoK p e below D T' (mkF m pc' Ls St)) : GoK p e below D T (mkF m pc Ls (.long x :: .int j :: .ref a :: St)) := by
  subst hp
  obtain ⟨_, Y, e0, N⟩ := X
  obtain ⟨cl, Ar, hin, -⟩ := A.get h1 h2
  obtain ⟨T', h', Y', e', W, st⟩ := stJ Y hx hZ e0 Ar (j := j) (x := x) hin (g := mkF m pc Ls (.long x :: .int j :: .ref a :: St)) rfl rfl hd
  exact GoK.by st (G T' h' ⟨_, Y', e', Fr.snoc Y' N ga⟩ W (A.set W h1 h2))
theorem go_iaload (X : OnK p l e R s m args below meth c n0 T h cells slots) (hx : p.tables.exec = Jvm.exec) (hZ : Z.Warmed39 s.vm) {j : Int32} {a : Addr} {n : Int} {f : Int → Int32} (A : AIK Z h a .int n f) (h1 : 0 ≤ j.toInt) (h2 : j.toInt < n) (hd : decode c.code pc = .ok (.iaload, 1)) (hp : pc + 1 = pc') (G : ∀ z : Int32, z = f j.toInt → GoK p e below D T (mkF m pc' Ls (.int z :: St))) : GoK p e below D T (mkF m pc Ls (.int j :: .ref a :: St)) := by
  subst hp
  obtain ⟨_, Y, e0, N⟩ := X
  obtain ⟨cl, Ar, hin, hv⟩ := A.get h1 h2
  exact GoK.by (fun t k => Y.iaload hx (j := j) (v := .int (f j.toInt)) (by rw [e0]; exact Ar.1) (State.isArrayOf_alike hZ.alike Ar.2.1) Ar.2.2 hin hv (g := mkF m pc Ls (.int j :: .ref a :: St)) rfl rfl hd t k) (G _ rfl)
theorem go_caload (X : OnK p l e R s m args below meth c n0 T h cells slots) (hx : p.tables.exec = Jvm.exec) (hZ : Z.Warmed39 s.vm) {j : Int32} {a : Addr} {n : Int} {f : Int → Int32} (A : AIK Z h a .char n f) (h1 : 0 ≤ j.toInt) (h2 : j.toInt < n) (hd : decode c.code pc = .ok (.caload, 1)) (hp : pc + 1 = pc') (G : ∀ z : Int32, z = f j.toInt → GoK p e below D T (mkF m pc' Ls (.int z :: St))) : GoK p e below D T (mkF m pc Ls (.int j :: .ref a :: St)) := by
  subst hp
  obtain ⟨_, Y, e0, N⟩ := X
  obtain ⟨cl, Ar, hin, hv⟩ := A.get h1 h2
  exact GoK.by (fun t k => Y.caload hx (j := j) (v := .int (f j.toInt)) (by rw [e0]; exact Ar.1) (State.isArrayOf_alike hZ.alike Ar.2.1) Ar.2.2 hin hv (g := mkF m pc Ls (.int j :: .ref a :: St)) rfl rfl hd t k) (G _ rfl)
theorem go_baloadB (X : OnK p l e R s m args below meth c n0 T h cells slots) (hx : p.tables.exec = Jvm.exec) (hZ : Z.Warmed39 s.vm) {j : Int32} {a : Addr} {n : Int} {f : Int → Int32} (A : AIK Z h a .byte n f) (h1 : 0 ≤ j.toInt) (h2 : j.toInt < n) (hd : decode c.code pc = .ok (.baload, 1)) (hp : pc + 1 = pc') (G : ∀ z : Int32, z = f j.toInt → GoK p e below D T (mkF m pc' Ls (.int z :: St))) : GoK p e below D T (mkF m pc Ls (.int j :: .ref a :: St)) := by
  subst hp
  obtain ⟨_, Y, e0, N⟩ := X
  obtain ⟨cl, Ar, hin, hv⟩ := A.get h1 h2
  exact GoK.by (fun t k => Y.baloadBytes hx (j := j) (v := .int (f j.toInt)) (by rw [e0]; exact Ar.1) (State.isArrayOf_alike hZ.alike Ar.2.1) Ar.2.2 hin hv (g := mkF m pc Ls (.int j :: .ref a :: St)) rfl rfl hd t k) (G _ rfl)
theorem go_baloadZ (X : OnK p l e R s m args below meth c n0 T h cells slots) (hx : p.tables.exec = Jvm.exec) (hZ : Z.Warmed39 s.vm) {j : Int32} {a : Addr} {n : Int} {f : Int → Int32} (A : AIK Z h a .boolean n f) (h1 : 0 ≤ j.toInt) (h2 : j.toInt < n) (hd : decode c.code pc = .ok (.baload, 1)) (hp : pc + 1 = pc') (G : ∀ z : Int32, z = f j.toInt → GoK p e below D T (mkF m pc' Ls (.int z :: St))) : GoK p e below D T (mkF m pc Ls (.int j :: .ref a :: St)) := by
  subst hp
  obtain ⟨_, Y, e0, N⟩ := X
  obtain ⟨cl, Ar, hin, hv⟩ := A.get h1 h2
  exact GoK.by (fun t k => Y.baloadBooleans hx (j := j) (v := .int (f j.toInt)) (by rw [e0]; exact Ar.1) (State.isArrayOf_alike hZ.alike Ar.2.1) Ar.2.2 hin hv (g := mkF m pc Ls (.int j :: .ref a :: St)) rfl rfl hd t k) (G _ rfl)
theorem go_laload (X : OnK p l e R s m args below meth c n0 T h cells slots) (hx : p.tables.exec = Jvm.exec) (hZ : Z.Warmed39 s.vm) {j : Int32} {a : Addr} {n : Int} {f : Int → Int64} (A : AJK Z h a n f) (h1 : 0 ≤ j.toInt) (h2 : j.toInt < n) (hd : decode c.code pc = .ok (.laload, 1)) (hp : pc + 1 = pc') (G : ∀ z : Int64, z = f j.toInt → GoK p e below D T (mkF m pc' Ls (.long z :: St))) : GoK p e below D T (mkF m pc Ls (.int j :: .ref a :: St)) := by
  subst hp
  obtain ⟨_, Y, e0, N⟩ := X
  obtain ⟨cl, Ar, hin, hv⟩ := A.get h1 h2
  exact GoK.by (fun t k => Y.laload hx (j := j) (v := .long (f j.toInt)) (by rw [e0]; exact Ar.1) (State.isArrayOf_alike hZ.alike Ar.2.1) Ar.2.2 hin hv (g := mkF m pc Ls (.int j :: .ref a :: St)) rfl rfl hd t k) (G _ rfl)
theorem own_len {k : Nat} {n : Int} (S : (k : Int) = n) (M : n < 2147483648) : (k.toInt32).toInt = n := by
  have e : (k.toInt32).toInt = ((k : Int)).bmod (2 ^ 32) := by
    show (Int32.ofNat k).toInt = _
    exact Int32.toInt_ofNat
  rw [e, Int.bmod_eq_of_le (by omega) (by omega)]; exact S
theorem go_lenI (X : OnK p l e R s m args below meth c n0 T h cells slots) (hx : p.tables.exec = Jvm.exec) (hZ : Z.Warmed39 s.vm) {a : Addr} {n : Int} {ty : FieldType} {f : Int → Int32} (A : AIK Z h a ty n f) (hd : decode c.code pc = .ok (.arraylength, 1)) (hp : pc + 1 = pc') (G : ∀ z : Int32, z.toInt = n → GoK p e below D T (mkF m pc' Ls (.int z :: St))) : GoK p e below D T (mkF m pc Ls (.ref a :: St)) := by
  subst hp
  obtain ⟨_, Y, e0, N⟩ := X
  obtain ⟨cl, Ar, S, M, -⟩ := A
  refine GoK.by (fun t k => Y.arraylength hx (by rw [e0]; exact Ar.1) (State.isArrayOf_alike hZ.alike Ar.2.1) (g := mkF m pc Ls (.ref a :: St)) rfl rfl hd t k) (G _ ?_)
  exact own_len S M
theorem go_lenJ (X : OnK p l e R s m args below meth c n0 T h cells slots) (hx : p.tables.exec = Jvm.exec) (hZ : Z.Warmed39 s.vm) {a : Addr} {n : Int} {f : Int → Int64} (A : AJK Z h a n f) (hd : decode c.code pc = .ok (.arraylength, 1)) (hp : pc + 1 = pc') (G : ∀ z : Int32, z.toInt = n → GoK p e below D T (mkF m pc' Ls (.int z :: St))) : GoK p e below D T (mkF m pc Ls (.ref a :: St)) := by
  subst hp
  obtain ⟨_, Y, e0, N⟩ := X
  obtain ⟨cl, Ar, S, M, -⟩ := A
  refine GoK.by (fun t k => Y.arraylength hx (by rw [e0]; exact Ar.1) (State.isArrayOf_alike hZ.alike Ar.2.1) (g := mkF m pc Ls (.ref a :: St)) rfl rfl hd t k) (G _ ?_)
  exact own_len S M
theorem go_getfield (X : OnK p l e R s m args below meth c n0 T h cells slots) (hx : p.tables.exec = Jvm.exec) (hZ : Z.Warmed39 s.vm) {own O n d : String} {i : Nat} {a : Addr} {v : Value} (hown : s.vm.findClass own = some m.cls) (wd : (Jvm.Cond.fieldLink own i O n d).before a0 Z = true) (F : Fld Z h a O n d v) (hd : decode c.code pc = .ok (.getfield i, 3)) (hp : pc + 3 = pc') (G : ∀ T' : State, OnK p l e R s m args below meth c n0 T' h cells slots → GoK p e below D T' (mkF m pc' Ls (v :: St))) : GoK p e below D T (mkF m pc Ls (.ref a :: St)) := by
  subst hp
  obtain ⟨_, Y, e0, N⟩ := X
  obtain ⟨T', Y', e', st⟩ := getF Y hx hZ hown (host := "") (Or.inl wd) Via.refl e0 F (g := mkF m pc Ls (.ref a :: St)) rfl rfl hd
  exact GoK.by st (G T' ⟨_, Y', e', N⟩)
theorem go_putfield (X : OnK p l e R s m args below meth c n0 T h cells slots) (hx : p.tables.exec = Jvm.exec) (hZ : Z.Warmed39 s.vm) {own O n d C : String} {i kk : Nat} {ty : FieldType} {a : Addr} {v v' old : Value} (hown : s.vm.findClass own = some m.cls) (wd : (Jvm.Cond.fieldLink own i O n d).before a0 Z = true) (F : Fld Z h a O n d old) (E : Exa Z h a C) (L : (Jvm.Cond.lays C O n d).before a0 Z = true ∨ ((Jvm.Cond.laysFinal C O n d).before a0 Z = true ∧ own = O ∧ meth.name = "<init>")) (wi : (Jvm.Cond.instantiable C kk).before a0 Z = true) (ga : n0 ≤ a) (hty : parseFieldDescriptor d = some ty) (hn : narrow ty v = v') (hf : fits ty v' = true) (hd : decode c.code pc = .ok (.putfield i, 3)) (hp : pc + 3 = pc') (G : ∀ (T' : State) (h' : Heap), OnK p l e R s m args below meth c n0 T' h' cells slots → Wr h h' a (slotOf Z O n d) v' → Fld Z h' a O n d v' → GoK p e below D T' (mkF m pc' Ls St)) : GoK p e below D T (mkF m pc Ls (v :: .ref a :: St)) := by
  subst hp
  obtain ⟨_, Y, e0, N⟩ := X
  obtain ⟨T', h', Y', e', W, st⟩ := putFN Y hx hZ hown wd Via.refl e0 F E L wi hty hn hf (g := mkF m pc Ls (v :: .ref a :: St)) rfl rfl hd
  exact GoK.by st (G T' h' ⟨_, Y', e', Fr.snoc Y' N ga⟩ W (F.same W))
theorem go_new (X : OnK p l e R s m args below meth c n0 T h cells slots) (hx : p.tables.exec = Jvm.exec) (hZ : Z.Warmed39 s.vm) {own C : String} {i n : Nat} (hown : s.vm.findClass own = some m.cls) (w1 : (Jvm.Cond.classLink own i C).before a0 Z = true) (w2 : (Jvm.Cond.instantiable C n).before a0 Z = true) (w3 : (Jvm.Cond.initialized C).before a0 Z = true) (hd : decode c.code pc = .ok (.new i, 3)) (hp : pc + 3 = pc') (hc : cells + 1 ≤ R.cells) (hs : slots + n ≤ R.slots) (hc' : cells + 1 = cells') (hs' : slots + n = slots')
    (G : ∀ (T' : State) (h' : Heap) (a : Addr), a = h.size → OnK p l e R s m args below meth c n0 T' h' cells' slots' → Ext h h' → Exa Z h' a C → (∀ {O nm d : String} {ty : FieldType}, Laid Z a0 C O nm d → parseFieldDescriptor d = some ty → Fld Z h' a O nm d (defaultValue ty)) → GoK p e below D T' (mkF m pc' Ls (.ref a :: St))) : GoK p e below D T (mkF m pc Ls St) := by
  subst hp hc' hs'
  obtain ⟨_, Y, e0, N⟩ := X
  obtain ⟨T', h', Y', e', E, A, Dv, -, st⟩ := newO Y hx hZ hown w1 w2 w3 e0 (g := mkF m pc Ls St) rfl hd hc hs
  exact GoK.by st (G T' h' _ rfl ⟨_, Y', e', N⟩ E A Dv)
theorem go_initO (X : OnK p l e R s m args below meth c n0 T h cells slots) (hx : p.tables.exec = Jvm.exec) (hZ : Z.Warmed39 s.vm) {own : String} {i W : Nat} {a : Addr} (hown : s.vm.findClass own = some m.cls) (hml : Ls.size = c.maxLocals) (w1 : (Jvm.Cond.methodLink own i Lib.objectInit).before a0 Z = true) (w2 : (Jvm.Cond.instanceMethod Lib.objectInit).before a0 Z = true) (w3 : (Jvm.Cond.code Lib.objectInit ⟨#[0xb1]⟩ 1 none).before a0 Z = true) (hd : decode c.code pc = .ok (.invokespecial i, 3)) (hp : pc + 3 = pc') (hf : 1 ≤ R.frames) (hW : (St.map fun v => v.category).sum ≤ W) (hl : W + 12 ≤ R.locals) (G : ∀ T' : State, OnK p l e R s m args below meth c n0 T' h cells slots → GoK p e below D T' (mkF m pc' Ls St)) : GoK p e below D T (mkF m pc Ls (.ref a :: St)) := by
  subst hp
  obtain ⟨_, Y, e0, N⟩ := X
  obtain ⟨T', Y', e', st⟩ := initO Y hx hZ hown w1 w2 w3 e0 (g := mkF m pc Ls (.ref a :: St)) rfl hml rfl hd hf (W := W) (by show 2 * 0 + _ ≤ _; omega) hl
  exact GoK.by st (G T' ⟨_, Y', e', N⟩)
theorem go_callS (X : OnK p l e R s m args below meth c n0 T h cells slots) (hx : p.tables.exec = Jvm.exec) (hZ : Z.Warmed39 s.vm) {own : String} {i W ml : Nat} {y : MethodName} {bytes : ByteArray} {ret : Option FieldType} {rm : Room} {Q : Option Value → Heap → Prop} {aL : List Value} {ps : List FieldType} {rt : Option FieldType} (hown : s.vm.findClass own = some m.cls) (hml : Ls.size = c.maxLocals) (wl : (Jvm.Cond.methodLink own i y).before a0 Z = true) (ws : (Jvm.Cond.static y).before a0 Z = true) (wz : (Jvm.Cond.initialized y.cls).before a0 Z = true) (wc : (Jvm.Cond.code y bytes ml ret).before a0 Z = true) (hy : y.cls ≠ "java/lang/invoke/MethodHandle" ∧ y.cls ≠ "java/lang/invoke/VarHandle") (pd : parseMethodDescriptor y.desc = some ⟨ps, rt⟩) (hlen : aL.length = ps.length) (ct : CtK l Z y bytes ml ret rm aL.toArray h n0 Q) (hd : decode c.code pc = .ok (.invokestatic i, 3)) (hp : pc + 3 = pc') (hf : rm.frames + 1 ≤ R.frames) (hW : (St.map fun v => v.category).sum ≤ W) (hlo : W + (ml + 11) + rm.locals ≤ R.locals) (hc : cells + rm.cells ≤ R.cells) (hs : slots + rm.slots ≤ R.slots) (hc' : cells + rm.cells = cells') (hs' : slots + rm.slots = slots') (G : ∀ (T' : State) (h' : Heap) (v : Option Value), OnK p l e R s m args below meth c n0 T' h' cells' slots' → Q v h' → GoK p e below D T' (mkF m pc' Ls (v.toList ++ St))) {S0 : List Value} (hS : S0 = aL.reverse ++ St) : GoK p e below D T (mkF m pc Ls S0) := by
  subst hp hc' hs' hS
  obtain ⟨_, Y, e0, N⟩ := X
  obtain ⟨v, _, ⟨B, L, k, n⟩, -, Y', ⟨Lc, ⟨hQ, hN⟩, el, ec, es⟩, st⟩ := Jvm.LawKit.callS Y hx (y := y) hown (mvT hZ wl) (mvT hZ ws) (mvT hZ wz) (mvT hZ wc) hy (backOf (W := W) (Q := fun v h L => Q v h ∧ Fr n0 L) (ct []) hZ wc wz hf hlo) (g := mkF m pc Ls (aL.reverse ++ St)) rfl hml (argsL := aL) (rest := St) (lenOf pd hlen) rfl (by show 2 * 0 + _ ≤ _; omega) hd (fun _ _ => ⟨rfl, e0, hc, hs⟩)
  dsimp only [Pt.U, Pt.locs, Pt.cells, Pt.slots] at Y' el ec es st hQ
  subst el ec es
  exact GoK.by st (G B _ v ⟨_, Y', rfl, N.app hN⟩ hQ)
theorem go_callC (X : OnK p l e R s m args below meth c n0 T h cells slots) (hx : p.tables.exec = Jvm.exec) (hZ : Z.Warmed39 s.vm) {own : String} {i W ml : Nat} {y : MethodName} {bytes : ByteArray} {rm : Room} {Q : Option Value → Heap → Prop} {aL : List Value} {ps : List FieldType} {rt : Option FieldType} {a : Addr} (hown : s.vm.findClass own = some m.cls) (hml : Ls.size = c.maxLocals) (hi : y.name = "<init>") (wl : (Jvm.Cond.methodLink own i y).before a0 Z = true) (wi : (Jvm.Cond.instanceMethod y).before a0 Z = true) (wz : (Jvm.Cond.initialized y.cls).before a0 Z = true) (wc : (Jvm.Cond.code y bytes ml none).before a0 Z = true) (hy : y.cls ≠ "java/lang/invoke/MethodHandle" ∧ y.cls ≠ "java/lang/invoke/VarHandle") (pd : parseMethodDescriptor y.desc = some ⟨ps, rt⟩) (hlen : aL.length = ps.length) (ct : CtK l Z y bytes ml none rm (.ref a :: aL).toArray h n0 Q) (hd : decode c.code pc = .ok (.invokespecial i, 3)) (hp : pc + 3 = pc') (hf : rm.frames + 1 ≤ R.frames) (hW : (St.map fun v => v.category).sum ≤ W) (hlo : W + (ml + 11) + rm.locals ≤ R.locals) (hc : cells + rm.cells ≤ R.cells) (hs : slots + rm.slots ≤ R.slots) (hc' : cells + rm.cells = cells') (hs' : slots + rm.slots = slots') (G : ∀ (T' : State) (h' : Heap) (v : Option Value), OnK p l e R s m args below meth c n0 T' h' cells' slots' → Q v h' → GoK p e below D T' (mkF m pc' Ls (v.toList ++ St))) {S0 : List Value} (hS : S0 = aL.reverse ++ .ref a :: St) : GoK p e below D T (mkF m pc Ls S0) := by
  subst hp hc' hs' hS
  obtain ⟨_, Y, e0, N⟩ := X
  obtain ⟨v, _, ⟨B, L, k, n⟩, -, Y', ⟨Lc, ⟨hQ, hN⟩, el, ec, es⟩, st⟩ := Y.specialBack hx (y := y) hi hown (mvT hZ wl) (mvT hZ wi) (mvT hZ wc) hy (backOf (W := W) (Q := fun v h L => Q v h ∧ Fr n0 L) (ct []) hZ wc wz hf hlo) (g := mkF m pc Ls (aL.reverse ++ .ref a :: St)) rfl hml (Steps.refl _) (a := a) (argsL := aL) (rest := St) (lenOf pd hlen) rfl (by show 2 * 0 + _ ≤ _; omega) hd (fun _ _ => ⟨rfl, e0, hc, hs⟩)
  dsimp only [Pt.U, Pt.locs, Pt.cells, Pt.slots] at Y' el ec es st hQ
  subst el ec es
  exact GoK.by (fun t k => st.trans k) (G B _ v ⟨_, Y', rfl, N.app hN⟩ hQ)
theorem go_callV (X : OnK p l e R s m args below meth c n0 T h cells slots) (hx : p.tables.exec = Jvm.exec) (hZ : Z.Warmed39 s.vm) {own : String} {i W ml : Nat} {y : MethodName} {bytes : ByteArray} {ret : Option FieldType} {rm : Room} {Q : Option Value → Heap → Prop} {aL : List Value} {ps : List FieldType} {rt : Option FieldType} {a : Addr} (hown : s.vm.findClass own = some m.cls) (hml : Ls.size = c.maxLocals) (E : Exa Z h a y.cls) (wl : (Jvm.Cond.methodLink own i y).before a0 Z = true) (wd : (Jvm.Cond.declares y).before a0 Z = true) (ws : (Jvm.Cond.selects y.cls y y).before a0 Z = true) (wi : (Jvm.Cond.instanceMethod y).before a0 Z = true) (wz : (Jvm.Cond.initialized y.cls).before a0 Z = true) (wc : (Jvm.Cond.code y bytes ml ret).before a0 Z = true) (hy : y.cls ≠ "java/lang/invoke/MethodHandle" ∧ y.cls ≠ "java/lang/invoke/VarHandle") (pd : parseMethodDescriptor y.desc = some ⟨ps, rt⟩) (hlen : aL.length = ps.length) (ct : CtK l Z y bytes ml ret rm (.ref a :: aL).toArray h n0 Q) (hd : decode c.code pc = .ok (.invokevirtual i, 3)) (hp : pc + 3 = pc') (hf : rm.frames + 1 ≤ R.frames) (hW : (St.map fun v => v.category).sum ≤ W) (hlo : W + (ml + 11) + rm.locals ≤ R.locals) (hc : cells + rm.cells ≤ R.cells) (hs : slots + rm.slots ≤ R.slots) (hc' : cells + rm.cells = cells') (hs' : slots + rm.slots = slots') (G : ∀ (T' : State) (h' : Heap) (v : Option Value), OnK p l e R s m args below meth c n0 T' h' cells' slots' → Q v h' → GoK p e below D T' (mkF m pc' Ls (v.toList ++ St))) {S0 : List Value} (hS : S0 = aL.reverse ++ .ref a :: St) : GoK p e below D T (mkF m pc Ls S0) := by
  subst hp hc' hs' hS
  obtain ⟨_, Y, e0, N⟩ := X
  obtain ⟨cq, kq, qa, qb, qc⟩ := isOf hZ e0 E
  obtain ⟨v, _, ⟨B, L, k, n⟩, -, Y', ⟨Lc, ⟨hQ, hN⟩, el, ec, es⟩, st⟩ := Y.virtualBack hx (y := y) (z := y) hown (mvT hZ wl) (mvT hZ wd) (notFace_of_selects (args := #[]) (mvT hZ ws)) (mvT hZ ws) (mvT hZ wi) hy (backOf (W := W) (Q := fun v h L => Q v h ∧ Fr n0 L) (ct []) hZ wc wz hf hlo) qa qc (g := mkF m pc Ls (aL.reverse ++ .ref a :: St)) rfl hml (Steps.refl _) (argsL := aL) (rest := St) (lenOf pd hlen) rfl (by show 2 * 0 + _ ≤ _; omega) hd (fun _ _ => ⟨rfl, e0, hc, hs⟩)
  dsimp only [Pt.U, Pt.locs, Pt.cells, Pt.slots] at Y' el ec es st hQ
  subst el ec es
  exact GoK.by (fun t k => st.trans k) (G B _ v ⟨_, Y', rfl, N.app hN⟩ hQ)
def TwoK (a b : Slot) : Prop := (a = .unset ∧ b = .unset) ∨ ∃ x : Int64, a = .val (.long x) ∧ b = .second
end OwnK
end Jvm.RoadKit
namespace Jvm.Pilot.@@N@@
open Jvm Jvm.ClassFile Sem Op Lib Jvm.Free Jvm.Stand Jvm.LawKit Jvm.RoadKit Bundle Jvm.Pilot.@@N@@.Jvm.D
def own_fld (rest : Int64) (p w : Int32) : Int64 := ((rest.toUInt64 >>> (p &&& 0x3f).toInt64.toUInt64).toInt64) &&& (((1 : Int64) <<< (w &&& 0x3f).toInt64) - (1 : Int64))
def own_good (rest : Int64) (p w : Int32) (f : Int → Int32) : Prop := own_fld rest p w < 8 ∧ ¬ f ((own_fld rest p w).toInt32).toInt = 0
def own_fok (rest : Int64) (p w b : Int32) : Prop := own_fld rest p w < 8 ∧ ¬ ((b.toUInt32 >>> ((own_fld rest p w).toInt32 &&& 31).toUInt32).toInt32 &&& 1) = 0
def own_pw (i : Int) : Int32 := if i = 0 then 1 else if i = 1 then 2 else if i = 2 then 4 else if i = 3 then 8 else if i = 4 then 16 else if i = 5 then 32 else if i = 6 then 64 else 128
def own_bits (b : Int32) (i : Int) : Int32 := if b &&& own_pw i = 0 then 0 else 1
theorem own_ltI {a b : Int32} (h : a < b) : a.toInt < b.toInt := Int32.lt_iff_toInt_lt.mp h
theorem own_geI {a b : Int32} (h : ¬ a < b) : ¬ a.toInt < b.toInt := fun w => h (Int32.lt_iff_toInt_lt.mpr w)
theorem own_k0 : (0 : Int32).toInt = 0 := rfl
theorem own_k1 : (1 : Int32).toInt = 1 := rfl
theorem own_k2 : (2 : Int32).toInt = 2 := rfl
theorem own_inc {v x : Int32} (h : v = x + 1) (hx : x.toInt < 2147483647) : v.toInt = x.toInt + 1 := by
  have h1 := own_k1
  have := rng32 x
  rw [h, Jvm.Free.XT.add32 ⟨by omega, by omega⟩, h1]
theorem own_eight {w : Int32} (h1 : 1 ≤ w.toInt) (h2 : w.toInt ≤ 8) : w = 1 ∨ w = 2 ∨ w = 3 ∨ w = 4 ∨ w = 5 ∨ w = 6 ∨ w = 7 ∨ w = 8 := by
  rcases (by omega : w.toInt = 1 ∨ w.toInt = 2 ∨ w.toInt = 3 ∨ w.toInt = 4 ∨ w.toInt = 5 ∨ w.toInt = 6 ∨ w.toInt = 7 ∨ w.toInt = 8) with h | h | h | h | h | h | h | h
  · left; exact Int32.toInt_inj.mp h
  · right; left; exact Int32.toInt_inj.mp h
  · right; right; left; exact Int32.toInt_inj.mp h
  · right; right; right; left; exact Int32.toInt_inj.mp h
  · right; right; right; right; left; exact Int32.toInt_inj.mp h
  · right; right; right; right; right; left; exact Int32.toInt_inj.mp h
  · right; right; right; right; right; right; left; exact Int32.toInt_inj.mp h
  · right; right; right; right; right; right; right; exact Int32.toInt_inj.mp h
theorem own_mk {w : Int32} (h1 : 1 ≤ w.toInt) (h2 : w.toInt ≤ 8) : 0 ≤ (((1 : Int64) <<< (w &&& 0x3f).toInt64) - (1 : Int64)).toInt := by
  rcases own_eight h1 h2 with rfl | rfl | rfl | rfl | rfl | rfl | rfl | rfl <;> decide
theorem own_fl0 (rest : Int64) (p : Int32) {w : Int32} (h1 : 1 ≤ w.toInt) (h2 : w.toInt ≤ 8) : 0 ≤ (own_fld rest p w).toInt := (c_andSL _ _).2.2 (own_mk h1 h2)
theorem own_idx {x : Int64} (h0 : 0 ≤ x.toInt) (h8 : x < 8) : 0 ≤ x.toInt32.toInt ∧ x.toInt32.toInt < 8 ∧ x.toInt32.toInt = x.toInt := by
  rw [Int64.lt_iff_toInt_lt] at h8
  have k : (8 : Int64).toInt = 8 := rfl
  have := c_l2i x
  have := rng32 x.toInt32
  omega
theorem own_bit (b : Int32) (j : Int32) (k : Nat) (hk : k < 32) (hj : (j &&& 31).toUInt32.toNat = k) (m : Int32) (hm : m.toBitVec = BitVec.twoPow 32 k) : ((b.toUInt32 >>> (j &&& 31).toUInt32).toInt32 &&& 1 = 0) ↔ b &&& m = 0 := by
  have e1 : ((b.toUInt32 >>> (j &&& 31).toUInt32).toInt32 &&& 1 = 0) ↔ b.toBitVec.getLsbD k = false := by
    rw [← Int32.toBitVec_inj, Int32.toBitVec_and]
    have s : (b.toUInt32 >>> (j &&& 31).toUInt32).toInt32.toBitVec = b.toBitVec >>> k := by
      show (b.toUInt32 >>> (j &&& 31).toUInt32).toBitVec = _
      rw [UInt32.toBitVec_shiftRight]
      show b.toBitVec >>> ((j &&& 31).toUInt32.toBitVec % 32) = _
      rw [BitVec.ushiftRight_eq']
      congr 1
      rw [BitVec.toNat_umod]
      show (j &&& 31).toUInt32.toNat % 32 = k
      rw [hj]; omega
    rw [s]
    have o : (1 : Int32).toBitVec = BitVec.twoPow 32 0 := by decide
    rw [o, BitVec.and_twoPow]
    have g : (b.toBitVec >>> k).getLsbD 0 = b.toBitVec.getLsbD k := by simp
    rw [g]
    cases b.toBitVec.getLsbD k
    · simp
    · simp; decide
  have e2 : b &&& m = 0 ↔ b.toBitVec.getLsbD k = false := by
    rw [← Int32.toBitVec_inj, Int32.toBitVec_and, hm, BitVec.and_twoPow]
    cases b.toBitVec.getLsbD k
    · simp
    · simp
      intro h
      have := congrArg BitVec.toNat h
      rw [BitVec.toNat_twoPow_of_lt hk] at this
      have p : 0 < 2 ^ k := Nat.two_pow_pos k
      exact absurd this (by show ¬ 2 ^ k = 0; omega)
  rw [e1, e2]
theorem own_eq (rest : Int64) (p w b : Int32) (h1 : 1 ≤ w.toInt) (h2 : w.toInt ≤ 8) : own_fok rest p w b ↔ own_good rest p w (own_bits b) := by
  unfold own_fok own_good
  refine and_congr_right fun h8 => not_congr ?_
  obtain ⟨i0, i8, -⟩ := own_idx (own_fl0 rest p h1 h2) h8
  obtain ⟨j, hj⟩ : ∃ j, j = (own_fld rest p w).toInt32 := ⟨_, rfl⟩
  rw [← hj] at i0 i8 ⊢
  have key : b &&& own_pw j.toInt = 0 ↔ own_bits b j.toInt = 0 := by
    unfold own_bits
    split
    · rename_i q; simp [q]
    · rename_i q; simp [q]
  rw [← key]
  rcases (by omega : j.toInt = 0 ∨ j.toInt = 1 ∨ j.toInt = 2 ∨ j.toInt = 3 ∨ j.toInt = 4 ∨ j.toInt = 5 ∨ j.toInt = 6 ∨ j.toInt = 7) with h | h | h | h | h | h | h | h
  · obtain rfl : j = 0 := Int32.toInt_inj.mp h
    exact own_bit b 0 0 (by decide) (by decide) _ (by decide)
  · obtain rfl : j = 1 := Int32.toInt_inj.mp h
    exact own_bit b 1 1 (by decide) (by decide) _ (by decide)
  · obtain rfl : j = 2 := Int32.toInt_inj.mp h
    exact own_bit b 2 2 (by decide) (by decide) _ (by decide)
  · obtain rfl : j = 3 := Int32.toInt_inj.mp h
    exact own_bit b 3 3 (by decide) (by decide) _ (by decide)
  · obtain rfl : j = 4 := Int32.toInt_inj.mp h
    exact own_bit b 4 4 (by decide) (by decide) _ (by decide)
  · obtain rfl : j = 5 := Int32.toInt_inj.mp h
    exact own_bit b 5 5 (by decide) (by decide) _ (by decide)
  · obtain rfl : j = 6 := Int32.toInt_inj.mp h
    exact own_bit b 6 6 (by decide) (by decide) _ (by decide)
  · obtain rfl : j = 7 := Int32.toInt_inj.mp h
    exact own_bit b 7 7 (by decide) (by decide) _ (by decide)
def own_G (rest : Int64) (ps pw : Int32) (f : Int → Int32) (r : Int32) : Prop := own_good rest (ps + r * pw) pw f
def own_all (rest : Int64) (ps pw : Int32) (f : Int → Int32) (n : Int) : Prop := ∀ r : Int32, 0 ≤ r.toInt → r.toInt < n → own_G rest ps pw f r
theorem own_allS {rest : Int64} {ps pw : Int32} {f : Int → Int32} {v v' : Int32} (e : v'.toInt = v.toInt + 1) (h0 : 0 ≤ v.toInt) : own_all rest ps pw f v'.toInt ↔ own_all rest ps pw f v.toInt ∧ own_G rest ps pw f v := by
  constructor
  · intro h; exact ⟨fun r r1 r2 => h r r1 (by omega), h v h0 (by omega)⟩
  · rintro ⟨h, g⟩ r r1 r2
    by_cases q : r.toInt = v.toInt
    · rw [Int32.toInt_inj.mp q]; exact g
    · exact h r r1 (by omega)
theorem own_all0 {rest : Int64} {ps pw : Int32} {f : Int → Int32} : own_all rest ps pw f 0 := fun r r1 r2 => by omega
theorem own_all3 {rest : Int64} {ps pw : Int32} {f : Int → Int32} {n : Int} (h0 : 0 ≤ n) (h3 : n ≤ 3) : own_all rest ps pw f n ↔ (0 < n → own_good rest ps pw f) ∧ (1 < n → own_good rest (ps + pw) pw f) ∧ (2 < n → own_good rest (ps + 2 * pw) pw f) := by
  have e0 : ps + 0 * pw = ps := by rw [Int32.zero_mul, Int32.add_zero]
  have e1 : ps + 1 * pw = ps + pw := by rw [Int32.one_mul]
  have k0 := own_k0; have k1 := own_k1; have k2 := own_k2
  constructor
  · intro h
    refine ⟨fun q => ?_, fun q => ?_, fun q => ?_⟩
    · have := h 0 (by omega) (by omega); unfold own_G at this; rw [e0] at this; exact this
    · have := h 1 (by omega) (by omega); unfold own_G at this; rw [e1] at this; exact this
    · exact h 2 (by omega) (by omega)
  · rintro ⟨a, b, c⟩ r r1 r2
    rcases (by omega : r.toInt = 0 ∨ r.toInt = 1 ∨ r.toInt = 2) with h | h | h
    · obtain rfl : r = 0 := Int32.toInt_inj.mp h
      unfold own_G; rw [e0]; exact a (by omega)
    · obtain rfl : r = 1 := Int32.toInt_inj.mp h
      unfold own_G; rw [e1]; exact b (by omega)
    · obtain rfl : r = 2 := Int32.toInt_inj.mp h
      exact c (by omega)
theorem own_and7 {v x : Int32} (h : v = 1 + (x &&& 7)) : 1 ≤ v.toInt ∧ v.toInt ≤ 8 := by
  have e : (x &&& 7).toInt = x.toInt % 8 := c_mask x 7 3 (by decide) (by decide)
  have := own_k1
  rw [h, Jvm.Free.XT.add32 ⟨by omega, by omega⟩]; omega
theorem own_and3 (x : Int32) : 0 ≤ (x &&& 3).toInt ∧ (x &&& 3).toInt ≤ 3 := by
  rw [c_mask x 3 2 (by decide) (by decide)]; omega
theorem own_rest (a b : Int64) : a + b - a = b := by
  rw [Int64.add_comm, Int64.add_sub_cancel]
theorem own_jb {q : Prop} [Decidable q] {z : Int32} (h : (q ∧ z = 0) ∨ (¬ q ∧ z = 1)) : nar .boolean z = if q then 0 else 1 := by
  rcases h with ⟨a, rfl⟩ | ⟨a, rfl⟩
  · rw [if_pos a]; rfl
  · rw [if_neg a]; rfl
theorem own_an1 {v : Int32} (h : v = 0 ∨ v = 1) : v &&& 1 = v ∧ v &&& 0 = 0 := by rcases h with rfl | rfl <;> decide
theorem own_fdef (rest : Int64) (p w : Int32) : ((rest.toUInt64 >>> (p &&& 0x3f).toInt64.toUInt64).toInt64) &&& (((1 : Int64) <<< (w &&& 0x3f).toInt64) - (1 : Int64)) = own_fld rest p w := rfl
theorem own_end {rest qc : Int64} {z x0 x1 x2 w n : Int32} {A : Prop} {g0 g1 g2 : Prop} (h : (¬ rest &&& qc = 0 ∧ z = -1) ∨ (rest &&& qc = 0 ∧ ((z = 1 ∧ A) ∨ (z = 0 ∧ ¬ A)))) (c : rest &&& qc = 0) (hA : A ↔ (0 < n.toInt → g0) ∧ (1 < n.toInt → g1) ∧ (2 < n.toInt → g2))
    (j0 : (x0 = 1 ∧ (0 < n.toInt → g0)) ∨ (x0 = 0 ∧ 0 < n.toInt ∧ ¬ g0)) (j1 : (x1 = 1 ∧ (1 < n.toInt → g1)) ∨ (x1 = 0 ∧ 1 < n.toInt ∧ ¬ g1)) (j2 : (x2 = 1 ∧ (2 < n.toInt → g2)) ∨ (x2 = 0 ∧ 2 < n.toInt ∧ ¬ g2)) (hw : w = if x0 = 0 then 0 else if x1 = 0 then 0 else if x2 = 0 then 0 else 1) : z = w := by
  rcases h with ⟨q, -⟩ | ⟨-, h⟩
  · exact absurd c q
  have o : ¬ (1 : Int32) = 0 := by decide
  rcases j0 with ⟨rfl, a0⟩ | ⟨rfl, b0, a0⟩
  · rcases j1 with ⟨rfl, a1⟩ | ⟨rfl, b1, a1⟩
    · rcases j2 with ⟨rfl, a2⟩ | ⟨rfl, b2, a2⟩
      · rw [if_neg o, if_neg o, if_neg o] at hw
        rcases h with ⟨q, -⟩ | ⟨-, r⟩
        · rw [q, hw]
        · exact absurd (hA.mpr ⟨a0, a1, a2⟩) r
      · rw [if_neg o, if_neg o, if_pos rfl] at hw
        rcases h with ⟨-, r⟩ | ⟨q, -⟩
        · exact absurd ((hA.mp r).2.2 b2) a2
        · rw [q, hw]
    · rw [if_neg o, if_pos rfl] at hw
      rcases h with ⟨-, r⟩ | ⟨q, -⟩
      · exact absurd ((hA.mp r).2.1 b1) a1
      · rw [q, hw]
  · rw [if_pos rfl] at hw
    rcases h with ⟨-, r⟩ | ⟨q, -⟩
    · exact absurd ((hA.mp r).1 b0) a0
    · rw [q, hw]

theorem pd_0 : parseMethodDescriptor "()V" = some ⟨[], none⟩ := by decide +kernel
theorem pd_1 : parseMethodDescriptor "(JJIII[Z)V" = some ⟨[.long, .long, .int, .int, .int, (.array .boolean)], none⟩ := by decide +kernel
theorem pd_2 : parseMethodDescriptor "(J)I" = some ⟨[.long], some .int⟩ := by decide +kernel
theorem pd_3 : parseMethodDescriptor "(JIII)Z" = some ⟨[.long, .int, .int, .int], some .boolean⟩ := by decide +kernel
theorem d2_0 : decode jdk_30_method_1_code 0 = .ok (.aload_n 0, 1) := by decide +kernel
theorem d2_1 : decode jdk_30_method_1_code 1 = .ok (.invokespecial 1, 3) := by decide +kernel
theorem d2_4 : decode jdk_30_method_1_code 4 = .ok (.return_, 1) := by decide +kernel
theorem pn_2 : plainName "java/lang/Record" = true := by first | (simp [plainName, overriddenIn]; done) | decide +kernel
theorem ef_2 (m : MethodId) (r0 : Addr) : entryFrame m #[.ref r0] 1 = mkF m 0 #[.val (.ref r0)] [] := by first | (simp [entryFrame, mkF, argsToLocals, Value.category]; done) | rfl
set_option maxRecDepth 65536 in
set_option maxHeartbeats 40000000 in
theorem ct_2 (l : Launch) (Z : State) (a0 : Array Value) (hw : ∀ d ∈ tables_1, d.before a0 Z = true) {h0 : Heap} {n0 : Nat} (zs : n0 ≤ h0.size) (r0 : Addr)  :
    CtK l Z (⟨"java/lang/Record", "<init>", "()V"⟩ : MethodName) jdk_30_method_1_code 1 none ({ frames := 1, cells := 0, slots := 0, locals := 12 } : Room) #[.ref r0] h0 n0 (QV (fun h => h = h0)) := by
  refine CtK.of (plainFor_of_name pn_2) ?_
  intro p e s m below meth c T0 X0 hx hZ hby hml hown hnm hret hlk
  refine GoK.entry (ef_2 m r0) ?_
  replace hown : s.vm.findClass "java/lang/Record" = some m.cls := hown
  refine go_aloadN (pc' := 1) X0 hx (hb hby d2_0) rfl rfl ?_
  refine go_initO (pc' := 4) (W := 0) X0 hx hZ hown (by rw [hml]; rfl) (hw _ (List.mem_of_getElem? (i := 13) rfl)) (hw _ (List.mem_of_getElem? (i := 14) rfl)) (hw _ (List.mem_of_getElem? (i := 15) rfl)) (hb hby d2_1) rfl (by decide) (Nat.le_of_eq rfl) (by decide) (fun T1 X1 => ?_)
  refine go_retV X1 hx hret hlk (hb hby d2_4) (by decide) (by decide) ?_
  exact rfl
theorem d1_0 : decode prog_36_method_1_code 0 = .ok (.aload_n 0, 1) := by decide +kernel
theorem d1_1 : decode prog_36_method_1_code 1 = .ok (.invokespecial 1, 3) := by decide +kernel
theorem d1_4 : decode prog_36_method_1_code 4 = .ok (.aload_n 0, 1) := by decide +kernel
theorem d1_5 : decode prog_36_method_1_code 5 = .ok (.lload_n 1, 1) := by decide +kernel
theorem d1_6 : decode prog_36_method_1_code 6 = .ok (.putfield 7, 3) := by decide +kernel
theorem d1_9 : decode prog_36_method_1_code 9 = .ok (.aload_n 0, 1) := by decide +kernel
theorem d1_10 : decode prog_36_method_1_code 10 = .ok (.lload_n 3, 1) := by decide +kernel
theorem d1_11 : decode prog_36_method_1_code 11 = .ok (.putfield 13, 3) := by decide +kernel
theorem d1_14 : decode prog_36_method_1_code 14 = .ok (.aload_n 0, 1) := by decide +kernel
theorem d1_15 : decode prog_36_method_1_code 15 = .ok (.iload 5, 2) := by decide +kernel
theorem d1_17 : decode prog_36_method_1_code 17 = .ok (.putfield 16, 3) := by decide +kernel
theorem d1_20 : decode prog_36_method_1_code 20 = .ok (.aload_n 0, 1) := by decide +kernel
theorem d1_21 : decode prog_36_method_1_code 21 = .ok (.iload 6, 2) := by decide +kernel
theorem d1_23 : decode prog_36_method_1_code 23 = .ok (.putfield 20, 3) := by decide +kernel
theorem d1_26 : decode prog_36_method_1_code 26 = .ok (.aload_n 0, 1) := by decide +kernel
theorem d1_27 : decode prog_36_method_1_code 27 = .ok (.iload 7, 2) := by decide +kernel
theorem d1_29 : decode prog_36_method_1_code 29 = .ok (.putfield 23, 3) := by decide +kernel
theorem d1_32 : decode prog_36_method_1_code 32 = .ok (.aload_n 0, 1) := by decide +kernel
theorem d1_33 : decode prog_36_method_1_code 33 = .ok (.aload 8, 2) := by decide +kernel
theorem d1_35 : decode prog_36_method_1_code 35 = .ok (.putfield 26, 3) := by decide +kernel
theorem d1_38 : decode prog_36_method_1_code 38 = .ok (.return_, 1) := by decide +kernel
theorem pn_1 : plainName "com/example/denary/denary/SeparatedWalk$Member" = true := by first | (simp [plainName, overriddenIn]; done) | decide +kernel
theorem ef_1 (m : MethodId) (r0 : Addr) (q1 : Int64) (q2 : Int64) (p3 : Int32) (p4 : Int32) (p5 : Int32) (r6 : Addr) : entryFrame m #[.ref r0, .long q1, .long q2, .int p3, .int p4, .int p5, .ref r6] 9 = mkF m 0 #[.val (.ref r0), .val (.long q1), .second, .val (.long q2), .second, .val (.int p3), .val (.int p4), .val (.int p5), .val (.ref r6)] [] := by first | (simp [entryFrame, mkF, argsToLocals, Value.category]; done) | rfl
set_option maxRecDepth 65536 in
set_option maxHeartbeats 40000000 in
theorem ct_1 (l : Launch) (Z : State) (a0 : Array Value) (hw : ∀ d ∈ tables_1, d.before a0 Z = true) {h0 : Heap} {n0 : Nat} (zs : n0 ≤ h0.size) (r0 : Addr) (q1 : Int64) (q2 : Int64) (p3 : Int32) (p4 : Int32) (p5 : Int32) (r6 : Addr) (u_expected : Value) (u_checked : Value) (u_shift : Value) (u_rowCount : Value) (u_width : Value) (u_multiples : Value) (E_r0 : Exa Z h0 r0 "com/example/denary/denary/SeparatedWalk$Member") (g_r0 : n0 ≤ r0) (F_r0_expected : Fld Z h0 r0 "com/example/denary/denary/SeparatedWalk$Member" "expected" "J" u_expected) (F_r0_checked : Fld Z h0 r0 "com/example/denary/denary/SeparatedWalk$Member" "checked" "J" u_checked) (F_r0_shift : Fld Z h0 r0 "com/example/denary/denary/SeparatedWalk$Member" "shift" "I" u_shift) (F_r0_rowCount : Fld Z h0 r0 "com/example/denary/denary/SeparatedWalk$Member" "rowCount" "I" u_rowCount) (F_r0_width : Fld Z h0 r0 "com/example/denary/denary/SeparatedWalk$Member" "width" "I" u_width) (F_r0_multiples : Fld Z h0 r0 "com/example/denary/denary/SeparatedWalk$Member" "multiples" "[Z" u_multiples) :
    CtK l Z (⟨"com/example/denary/denary/SeparatedWalk$Member", "<init>", "(JJIII[Z)V"⟩ : MethodName) prog_36_method_1_code 9 none ({ frames := 2, cells := 0, slots := 0, locals := 24 } : Room) #[.ref r0, .long q1, .long q2, .int p3, .int p4, .int p5, .ref r6] h0 n0 (QV (fun h => Keep h0 h [r0] ∧ Exa Z h r0 "com/example/denary/denary/SeparatedWalk$Member" ∧ Fld Z h r0 "com/example/denary/denary/SeparatedWalk$Member" "expected" "J" (.long q1) ∧ Fld Z h r0 "com/example/denary/denary/SeparatedWalk$Member" "checked" "J" (.long q2) ∧ Fld Z h r0 "com/example/denary/denary/SeparatedWalk$Member" "shift" "I" (.int p3) ∧ Fld Z h r0 "com/example/denary/denary/SeparatedWalk$Member" "rowCount" "I" (.int p4) ∧ Fld Z h r0 "com/example/denary/denary/SeparatedWalk$Member" "width" "I" (.int p5) ∧ Fld Z h r0 "com/example/denary/denary/SeparatedWalk$Member" "multiples" "[Z" (.ref r6))) := by
  refine CtK.of (plainFor_of_name pn_1) ?_
  intro p e s m below meth c T0 X0 hx hZ hby hml hown hnm hret hlk
  refine GoK.entry (ef_1 m r0 q1 q2 p3 p4 p5 r6) ?_
  replace hown : s.vm.findClass "com/example/denary/denary/SeparatedWalk$Member" = some m.cls := hown
  have K := Keep.refl h0 [r0]
  refine go_aloadN (pc' := 1) X0 hx (hb hby d1_0) rfl rfl ?_
  refine go_callC (pc' := 4) (W := 0) (cells' := 0) (slots' := 0) (rm := ({ frames := 1, cells := 0, slots := 0, locals := 12 } : Room)) (aL := []) (St := []) X0 hx hZ hown (by rw [hml]; rfl) rfl (hw _ (List.mem_of_getElem? (i := 8) rfl)) (hw _ (List.mem_of_getElem? (i := 9) rfl)) (hw _ (List.mem_of_getElem? (i := 11) rfl)) (hw _ (List.mem_of_getElem? (i := 12) rfl)) (by decide) pd_0 rfl (ct_2 l Z a0 hw zs r0) (hb hby d1_1) rfl (by decide) (Nat.le_of_eq rfl) (by decide) (by decide) (by decide) rfl rfl (fun T1 h1 v1 X1 Q1 => ?_) rfl
  obtain ⟨rfl, eh1⟩ := Q1
  subst h1
  show GoK p e below _ T1 (mkF m 4 #[.val (.ref r0), .val (.long q1), .second, .val (.long q2), .second, .val (.int p3), .val (.int p4), .val (.int p5), .val (.ref r6)] [])
  refine go_aloadN (pc' := 5) X1 hx (hb hby d1_4) rfl rfl ?_
  refine go_lloadN (pc' := 6) X1 hx (hb hby d1_5) rfl rfl ?_
  refine go_putfield (pc' := 9) (ty := .long) (v' := .long q1) X1 hx hZ hown (hw _ (List.mem_of_getElem? (i := 16) rfl)) F_r0_expected E_r0 (Or.inr ⟨(hw _ (List.mem_of_getElem? (i := 17) rfl)), rfl, hnm⟩) (hw _ (List.mem_of_getElem? (i := 3) rfl)) g_r0 (by decide) rfl rfl (hb hby d1_6) rfl (fun T2 h2 X2 W2 F_r0_expected => ?_)
  have E_r0 := E_r0.wr W2
  have F_r0_checked := Fld.other W2 F_r0_checked (Or.inr (slot_ne (Or.inr (hw _ (List.mem_of_getElem? (i := 19) rfl))) (Or.inr (hw _ (List.mem_of_getElem? (i := 17) rfl))) (by decide) (t := .long) (t' := .long) (by decide) (by decide)))
  have F_r0_shift := Fld.other W2 F_r0_shift (Or.inr (slot_ne (Or.inr (hw _ (List.mem_of_getElem? (i := 21) rfl))) (Or.inr (hw _ (List.mem_of_getElem? (i := 17) rfl))) (by decide) (t := .int) (t' := .long) (by decide) (by decide)))
  have F_r0_rowCount := Fld.other W2 F_r0_rowCount (Or.inr (slot_ne (Or.inr (hw _ (List.mem_of_getElem? (i := 23) rfl))) (Or.inr (hw _ (List.mem_of_getElem? (i := 17) rfl))) (by decide) (t := .int) (t' := .long) (by decide) (by decide)))
  have F_r0_width := Fld.other W2 F_r0_width (Or.inr (slot_ne (Or.inr (hw _ (List.mem_of_getElem? (i := 25) rfl))) (Or.inr (hw _ (List.mem_of_getElem? (i := 17) rfl))) (by decide) (t := .int) (t' := .long) (by decide) (by decide)))
  have F_r0_multiples := Fld.other W2 F_r0_multiples (Or.inr (slot_ne (Or.inr (hw _ (List.mem_of_getElem? (i := 27) rfl))) (Or.inr (hw _ (List.mem_of_getElem? (i := 17) rfl))) (by decide) (t := (.array .boolean)) (t' := .long) (by decide) (by decide)))
  have zs := Nat.le_trans zs (Nat.le_of_eq W2.size.symm)
  have K := K.wr W2 (Or.inl (by simp))
  refine go_aloadN (pc' := 10) X2 hx (hb hby d1_9) rfl rfl ?_
  refine go_lloadN (pc' := 11) X2 hx (hb hby d1_10) rfl rfl ?_
  refine go_putfield (pc' := 14) (ty := .long) (v' := .long q2) X2 hx hZ hown (hw _ (List.mem_of_getElem? (i := 18) rfl)) F_r0_checked E_r0 (Or.inr ⟨(hw _ (List.mem_of_getElem? (i := 19) rfl)), rfl, hnm⟩) (hw _ (List.mem_of_getElem? (i := 3) rfl)) g_r0 (by decide) rfl rfl (hb hby d1_11) rfl (fun T3 h3 X3 W3 F_r0_checked => ?_)
  have E_r0 := E_r0.wr W3
  have F_r0_expected := Fld.other W3 F_r0_expected (Or.inr (slot_ne (Or.inr (hw _ (List.mem_of_getElem? (i := 17) rfl))) (Or.inr (hw _ (List.mem_of_getElem? (i := 19) rfl))) (by decide) (t := .long) (t' := .long) (by decide) (by decide)))
  have F_r0_shift := Fld.other W3 F_r0_shift (Or.inr (slot_ne (Or.inr (hw _ (List.mem_of_getElem? (i := 21) rfl))) (Or.inr (hw _ (List.mem_of_getElem? (i := 19) rfl))) (by decide) (t := .int) (t' := .long) (by decide) (by decide)))
  have F_r0_rowCount := Fld.other W3 F_r0_rowCount (Or.inr (slot_ne (Or.inr (hw _ (List.mem_of_getElem? (i := 23) rfl))) (Or.inr (hw _ (List.mem_of_getElem? (i := 19) rfl))) (by decide) (t := .int) (t' := .long) (by decide) (by decide)))
  have F_r0_width := Fld.other W3 F_r0_width (Or.inr (slot_ne (Or.inr (hw _ (List.mem_of_getElem? (i := 25) rfl))) (Or.inr (hw _ (List.mem_of_getElem? (i := 19) rfl))) (by decide) (t := .int) (t' := .long) (by decide) (by decide)))
  have F_r0_multiples := Fld.other W3 F_r0_multiples (Or.inr (slot_ne (Or.inr (hw _ (List.mem_of_getElem? (i := 27) rfl))) (Or.inr (hw _ (List.mem_of_getElem? (i := 19) rfl))) (by decide) (t := (.array .boolean)) (t' := .long) (by decide) (by decide)))
  have zs := Nat.le_trans zs (Nat.le_of_eq W3.size.symm)
  have K := K.wr W3 (Or.inl (by simp))
  refine go_aloadN (pc' := 15) X3 hx (hb hby d1_14) rfl rfl ?_
  refine go_iload (pc' := 17) X3 hx (hb hby d1_15) rfl rfl ?_
  refine go_putfield (pc' := 20) (ty := .int) (v' := .int p3) X3 hx hZ hown (hw _ (List.mem_of_getElem? (i := 20) rfl)) F_r0_shift E_r0 (Or.inr ⟨(hw _ (List.mem_of_getElem? (i := 21) rfl)), rfl, hnm⟩) (hw _ (List.mem_of_getElem? (i := 3) rfl)) g_r0 (by decide) rfl rfl (hb hby d1_17) rfl (fun T4 h4 X4 W4 F_r0_shift => ?_)
  have E_r0 := E_r0.wr W4
  have F_r0_expected := Fld.other W4 F_r0_expected (Or.inr (slot_ne (Or.inr (hw _ (List.mem_of_getElem? (i := 17) rfl))) (Or.inr (hw _ (List.mem_of_getElem? (i := 21) rfl))) (by decide) (t := .long) (t' := .int) (by decide) (by decide)))
  have F_r0_checked := Fld.other W4 F_r0_checked (Or.inr (slot_ne (Or.inr (hw _ (List.mem_of_getElem? (i := 19) rfl))) (Or.inr (hw _ (List.mem_of_getElem? (i := 21) rfl))) (by decide) (t := .long) (t' := .int) (by decide) (by decide)))
  have F_r0_rowCount := Fld.other W4 F_r0_rowCount (Or.inr (slot_ne (Or.inr (hw _ (List.mem_of_getElem? (i := 23) rfl))) (Or.inr (hw _ (List.mem_of_getElem? (i := 21) rfl))) (by decide) (t := .int) (t' := .int) (by decide) (by decide)))
  have F_r0_width := Fld.other W4 F_r0_width (Or.inr (slot_ne (Or.inr (hw _ (List.mem_of_getElem? (i := 25) rfl))) (Or.inr (hw _ (List.mem_of_getElem? (i := 21) rfl))) (by decide) (t := .int) (t' := .int) (by decide) (by decide)))
  have F_r0_multiples := Fld.other W4 F_r0_multiples (Or.inr (slot_ne (Or.inr (hw _ (List.mem_of_getElem? (i := 27) rfl))) (Or.inr (hw _ (List.mem_of_getElem? (i := 21) rfl))) (by decide) (t := (.array .boolean)) (t' := .int) (by decide) (by decide)))
  have zs := Nat.le_trans zs (Nat.le_of_eq W4.size.symm)
  have K := K.wr W4 (Or.inl (by simp))
  refine go_aloadN (pc' := 21) X4 hx (hb hby d1_20) rfl rfl ?_
  refine go_iload (pc' := 23) X4 hx (hb hby d1_21) rfl rfl ?_
  refine go_putfield (pc' := 26) (ty := .int) (v' := .int p4) X4 hx hZ hown (hw _ (List.mem_of_getElem? (i := 22) rfl)) F_r0_rowCount E_r0 (Or.inr ⟨(hw _ (List.mem_of_getElem? (i := 23) rfl)), rfl, hnm⟩) (hw _ (List.mem_of_getElem? (i := 3) rfl)) g_r0 (by decide) rfl rfl (hb hby d1_23) rfl (fun T5 h5 X5 W5 F_r0_rowCount => ?_)
  have E_r0 := E_r0.wr W5
  have F_r0_expected := Fld.other W5 F_r0_expected (Or.inr (slot_ne (Or.inr (hw _ (List.mem_of_getElem? (i := 17) rfl))) (Or.inr (hw _ (List.mem_of_getElem? (i := 23) rfl))) (by decide) (t := .long) (t' := .int) (by decide) (by decide)))
  have F_r0_checked := Fld.other W5 F_r0_checked (Or.inr (slot_ne (Or.inr (hw _ (List.mem_of_getElem? (i := 19) rfl))) (Or.inr (hw _ (List.mem_of_getElem? (i := 23) rfl))) (by decide) (t := .long) (t' := .int) (by decide) (by decide)))
  have F_r0_shift := Fld.other W5 F_r0_shift (Or.inr (slot_ne (Or.inr (hw _ (List.mem_of_getElem? (i := 21) rfl))) (Or.inr (hw _ (List.mem_of_getElem? (i := 23) rfl))) (by decide) (t := .int) (t' := .int) (by decide) (by decide)))
  have F_r0_width := Fld.other W5 F_r0_width (Or.inr (slot_ne (Or.inr (hw _ (List.mem_of_getElem? (i := 25) rfl))) (Or.inr (hw _ (List.mem_of_getElem? (i := 23) rfl))) (by decide) (t := .int) (t' := .int) (by decide) (by decide)))
  have F_r0_multiples := Fld.other W5 F_r0_multiples (Or.inr (slot_ne (Or.inr (hw _ (List.mem_of_getElem? (i := 27) rfl))) (Or.inr (hw _ (List.mem_of_getElem? (i := 23) rfl))) (by decide) (t := (.array .boolean)) (t' := .int) (by decide) (by decide)))
  have zs := Nat.le_trans zs (Nat.le_of_eq W5.size.symm)
  have K := K.wr W5 (Or.inl (by simp))
  refine go_aloadN (pc' := 27) X5 hx (hb hby d1_26) rfl rfl ?_
  refine go_iload (pc' := 29) X5 hx (hb hby d1_27) rfl rfl ?_
  refine go_putfield (pc' := 32) (ty := .int) (v' := .int p5) X5 hx hZ hown (hw _ (List.mem_of_getElem? (i := 24) rfl)) F_r0_width E_r0 (Or.inr ⟨(hw _ (List.mem_of_getElem? (i := 25) rfl)), rfl, hnm⟩) (hw _ (List.mem_of_getElem? (i := 3) rfl)) g_r0 (by decide) rfl rfl (hb hby d1_29) rfl (fun T6 h6 X6 W6 F_r0_width => ?_)
  have E_r0 := E_r0.wr W6
  have F_r0_expected := Fld.other W6 F_r0_expected (Or.inr (slot_ne (Or.inr (hw _ (List.mem_of_getElem? (i := 17) rfl))) (Or.inr (hw _ (List.mem_of_getElem? (i := 25) rfl))) (by decide) (t := .long) (t' := .int) (by decide) (by decide)))
  have F_r0_checked := Fld.other W6 F_r0_checked (Or.inr (slot_ne (Or.inr (hw _ (List.mem_of_getElem? (i := 19) rfl))) (Or.inr (hw _ (List.mem_of_getElem? (i := 25) rfl))) (by decide) (t := .long) (t' := .int) (by decide) (by decide)))
  have F_r0_shift := Fld.other W6 F_r0_shift (Or.inr (slot_ne (Or.inr (hw _ (List.mem_of_getElem? (i := 21) rfl))) (Or.inr (hw _ (List.mem_of_getElem? (i := 25) rfl))) (by decide) (t := .int) (t' := .int) (by decide) (by decide)))
  have F_r0_rowCount := Fld.other W6 F_r0_rowCount (Or.inr (slot_ne (Or.inr (hw _ (List.mem_of_getElem? (i := 23) rfl))) (Or.inr (hw _ (List.mem_of_getElem? (i := 25) rfl))) (by decide) (t := .int) (t' := .int) (by decide) (by decide)))
  have F_r0_multiples := Fld.other W6 F_r0_multiples (Or.inr (slot_ne (Or.inr (hw _ (List.mem_of_getElem? (i := 27) rfl))) (Or.inr (hw _ (List.mem_of_getElem? (i := 25) rfl))) (by decide) (t := (.array .boolean)) (t' := .int) (by decide) (by decide)))
  have zs := Nat.le_trans zs (Nat.le_of_eq W6.size.symm)
  have K := K.wr W6 (Or.inl (by simp))
  refine go_aloadN (pc' := 33) X6 hx (hb hby d1_32) rfl rfl ?_
  refine go_aload (pc' := 35) X6 hx (hb hby d1_33) rfl rfl ?_
  refine go_putfield (pc' := 38) (ty := (.array .boolean)) (v' := .ref r6) X6 hx hZ hown (hw _ (List.mem_of_getElem? (i := 26) rfl)) F_r0_multiples E_r0 (Or.inr ⟨(hw _ (List.mem_of_getElem? (i := 27) rfl)), rfl, hnm⟩) (hw _ (List.mem_of_getElem? (i := 3) rfl)) g_r0 (by decide) rfl rfl (hb hby d1_35) rfl (fun T7 h7 X7 W7 F_r0_multiples => ?_)
  have E_r0 := E_r0.wr W7
  have F_r0_expected := Fld.other W7 F_r0_expected (Or.inr (slot_ne (Or.inr (hw _ (List.mem_of_getElem? (i := 17) rfl))) (Or.inr (hw _ (List.mem_of_getElem? (i := 27) rfl))) (by decide) (t := .long) (t' := (.array .boolean)) (by decide) (by decide)))
  have F_r0_checked := Fld.other W7 F_r0_checked (Or.inr (slot_ne (Or.inr (hw _ (List.mem_of_getElem? (i := 19) rfl))) (Or.inr (hw _ (List.mem_of_getElem? (i := 27) rfl))) (by decide) (t := .long) (t' := (.array .boolean)) (by decide) (by decide)))
  have F_r0_shift := Fld.other W7 F_r0_shift (Or.inr (slot_ne (Or.inr (hw _ (List.mem_of_getElem? (i := 21) rfl))) (Or.inr (hw _ (List.mem_of_getElem? (i := 27) rfl))) (by decide) (t := .int) (t' := (.array .boolean)) (by decide) (by decide)))
  have F_r0_rowCount := Fld.other W7 F_r0_rowCount (Or.inr (slot_ne (Or.inr (hw _ (List.mem_of_getElem? (i := 23) rfl))) (Or.inr (hw _ (List.mem_of_getElem? (i := 27) rfl))) (by decide) (t := .int) (t' := (.array .boolean)) (by decide) (by decide)))
  have F_r0_width := Fld.other W7 F_r0_width (Or.inr (slot_ne (Or.inr (hw _ (List.mem_of_getElem? (i := 25) rfl))) (Or.inr (hw _ (List.mem_of_getElem? (i := 27) rfl))) (by decide) (t := .int) (t' := (.array .boolean)) (by decide) (by decide)))
  have zs := Nat.le_trans zs (Nat.le_of_eq W7.size.symm)
  have K := K.wr W7 (Or.inl (by simp))
  refine go_retV X7 hx hret hlk (hb hby d1_38) (by decide) (by decide) ?_
  exact ⟨K, E_r0, F_r0_expected, F_r0_checked, F_r0_shift, F_r0_rowCount, F_r0_width, F_r0_multiples⟩
theorem d5_0 : decode method_2_code 0 = .ok (.lload_n 0, 1) := by decide +kernel
theorem d5_1 : decode method_2_code 1 = .ok (.iload_n 2, 1) := by decide +kernel
theorem d5_2 : decode method_2_code 2 = .ok (.lushr, 1) := by decide +kernel
theorem d5_3 : decode method_2_code 3 = .ok (.lconst 1, 1) := by decide +kernel
theorem d5_4 : decode method_2_code 4 = .ok (.iload_n 3, 1) := by decide +kernel
theorem d5_5 : decode method_2_code 5 = .ok (.lshl, 1) := by decide +kernel
theorem d5_6 : decode method_2_code 6 = .ok (.lconst 1, 1) := by decide +kernel
theorem d5_7 : decode method_2_code 7 = .ok (.lsub, 1) := by decide +kernel
theorem d5_8 : decode method_2_code 8 = .ok (.land, 1) := by decide +kernel
theorem d5_9 : decode method_2_code 9 = .ok (.lstore 5, 2) := by decide +kernel
theorem d5_11 : decode method_2_code 11 = .ok (.lload 5, 2) := by decide +kernel
theorem d5_13 : decode method_2_code 13 = .ok (.ldc2_w 7, 3) := by decide +kernel
theorem d5_16 : decode method_2_code 16 = .ok (.lcmp, 1) := by decide +kernel
theorem d5_17 : decode method_2_code 17 = .ok (.ifCond .lt 5, 3) := by decide +kernel
theorem d5_20 : decode method_2_code 20 = .ok (.iconst 0, 1) := by decide +kernel
theorem d5_21 : decode method_2_code 21 = .ok (.ireturn, 1) := by decide +kernel
theorem d5_22 : decode method_2_code 22 = .ok (.iload 4, 2) := by decide +kernel
theorem d5_24 : decode method_2_code 24 = .ok (.lload 5, 2) := by decide +kernel
theorem d5_26 : decode method_2_code 26 = .ok (.l2i, 1) := by decide +kernel
theorem d5_27 : decode method_2_code 27 = .ok (.iushr, 1) := by decide +kernel
theorem d5_28 : decode method_2_code 28 = .ok (.iconst 1, 1) := by decide +kernel
theorem d5_29 : decode method_2_code 29 = .ok (.iand, 1) := by decide +kernel
theorem d5_30 : decode method_2_code 30 = .ok (.ifCond .eq 7, 3) := by decide +kernel
theorem d5_33 : decode method_2_code 33 = .ok (.iconst 1, 1) := by decide +kernel
theorem d5_34 : decode method_2_code 34 = .ok (.goto 4, 3) := by decide +kernel
theorem d5_37 : decode method_2_code 37 = .ok (.iconst 0, 1) := by decide +kernel
theorem d5_38 : decode method_2_code 38 = .ok (.ireturn, 1) := by decide +kernel
theorem pn_5 : plainName "com/example/denary/denary/MemberVerdictPinLaw" = true := by first | (simp [plainName, overriddenIn]; done) | decide +kernel
theorem ef_5 (m : MethodId) (q0 : Int64) (p1 : Int32) (p2 : Int32) (p3 : Int32) : entryFrame m #[.long q0, .int p1, .int p2, .int p3] 7 = mkF m 0 #[.val (.long q0), .second, .val (.int p1), .val (.int p2), .val (.int p3), .unset, .unset] [] := by first | (simp [entryFrame, mkF, argsToLocals, Value.category]; done) | rfl
set_option maxRecDepth 65536 in
set_option maxHeartbeats 40000000 in
theorem ct_5 (l : Launch) (Z : State) (a0 : Array Value) (hw : ∀ d ∈ tables_1, d.before a0 Z = true) {h0 : Heap} {n0 : Nat} (zs : n0 ≤ h0.size) (q0 : Int64) (p1 : Int32) (p2 : Int32) (p3 : Int32)  :
    CtK l Z (⟨"com/example/denary/denary/MemberVerdictPinLaw", "fieldOk", "(JIII)Z"⟩ : MethodName) method_2_code 7 (some .boolean) ({ frames := 0, cells := 0, slots := 0, locals := 0 } : Room) #[.long q0, .int p1, .int p2, .int p3] h0 n0 (QI (fun z h => ((z = 1 ∧ own_fok q0 p1 p2 p3) ∨ (z = 0 ∧ ¬ own_fok q0 p1 p2 p3)) ∧ h = h0)) := by
  refine CtK.of (plainFor_of_name pn_5) ?_
  intro p e s m below meth c T0 X0 hx hZ hby hml hown hnm hret hlk
  refine GoK.entry (ef_5 m q0 p1 p2 p3) ?_
  replace hown : s.vm.findClass "com/example/denary/denary/MemberVerdictPinLaw" = some m.cls := hown
  refine go_lloadN (pc' := 1) X0 hx (hb hby d5_0) rfl rfl ?_
  refine go_iloadN (pc' := 2) X0 hx (hb hby d5_1) rfl rfl ?_
  refine go_lushr (pc' := 3) X0 hx (hb hby d5_2) rfl ?_
  refine go_lconst (pc' := 4) (v := 1) X0 hx (hb hby d5_3) rfl rfl ?_
  refine go_iloadN (pc' := 5) X0 hx (hb hby d5_4) rfl rfl ?_
  refine go_lshl (pc' := 6) X0 hx (hb hby d5_5) rfl ?_
  refine go_lconst (pc' := 7) (v := 1) X0 hx (hb hby d5_6) rfl rfl ?_
  refine go_lsub (pc' := 8) X0 hx (hb hby d5_7) rfl ?_
  refine go_land (pc' := 9) X0 hx (hb hby d5_8) rfl ?_
  refine go_nameJ (fun v5_9 hv5_9 => ?_)
  refine go_lstore (pc' := 11) (L' := #[.val (.long q0), .second, .val (.int p1), .val (.int p2), .val (.int p3), .val (.long v5_9), .second]) X0 hx (hb hby d5_9) rfl rfl ?_
  rw [own_fdef] at hv5_9
  subst hv5_9
  refine go_lload (pc' := 13) X0 hx (hb hby d5_11) rfl rfl ?_
  refine go_ldc2 (pc' := 16) X0 hx hZ hown (hw _ (List.mem_of_getElem? (i := 37) rfl)) (hb hby d5_13) rfl ?_
  refine go_liflt (pc1 := 17) (pc' := 20) (pcT := 22) X0 hx (hb hby d5_16) rfl (hb hby d5_17) rfl (by decide) (by decide) (fun c17 => ?_) (fun c17 => ?_)
  · refine go_iload (pc' := 24) X0 hx (hb hby d5_22) rfl rfl ?_
    refine go_lload (pc' := 26) X0 hx (hb hby d5_24) rfl rfl ?_
    refine go_l2i (pc' := 27) X0 hx (hb hby d5_26) rfl ?_
    refine go_iushr (pc' := 28) X0 hx (hb hby d5_27) rfl ?_
    refine go_iconst (pc' := 29) (v := 1) X0 hx (hb hby d5_28) rfl rfl ?_
    refine go_iand (pc' := 30) X0 hx (hb hby d5_29) rfl ?_
    refine go_ifeq (pc' := 33) (pcT := 37) X0 hx (hb hby d5_30) rfl (by decide) (by decide) (fun c30_t => ?_) (fun c30_t => ?_)
    · refine go_iconst (pc' := 38) (v := 0) X0 hx (hb hby d5_37) rfl rfl ?_
      refine go_retN (t := .boolean) X0 hx hret (by simp) hlk (hb hby d5_38) (by decide) (by decide) ?_
      refine ⟨?_, rfl⟩
      exact Or.inr ⟨rfl, fun w => w.2 c30_t⟩
    · refine go_iconst (pc' := 34) (v := 1) X0 hx (hb hby d5_33) rfl rfl ?_
      refine go_goto (pc' := 38) X0 hx (hb hby d5_34) (by decide) (by decide) ?_
      refine go_retN (t := .boolean) X0 hx hret (by simp) hlk (hb hby d5_38) (by decide) (by decide) ?_
      refine ⟨?_, rfl⟩
      exact Or.inl ⟨rfl, c17, c30_t⟩
  · refine go_iconst (pc' := 21) (v := 0) X0 hx (hb hby d5_20) rfl rfl ?_
    refine go_retN (t := .boolean) X0 hx hret (by simp) hlk (hb hby d5_21) (by decide) (by decide) ?_
    refine ⟨?_, rfl⟩
    exact Or.inr ⟨rfl, fun w => c17 w.1⟩
theorem d4_0 : decode prog_36_method_3_code 0 = .ok (.lload_n 1, 1) := by decide +kernel
theorem d4_1 : decode prog_36_method_3_code 1 = .ok (.aload_n 0, 1) := by decide +kernel
theorem d4_2 : decode prog_36_method_3_code 2 = .ok (.getfield 7, 3) := by decide +kernel
theorem d4_5 : decode prog_36_method_3_code 5 = .ok (.lsub, 1) := by decide +kernel
theorem d4_6 : decode prog_36_method_3_code 6 = .ok (.lstore_n 3, 1) := by decide +kernel
theorem d4_7 : decode prog_36_method_3_code 7 = .ok (.lload_n 3, 1) := by decide +kernel
theorem d4_8 : decode prog_36_method_3_code 8 = .ok (.aload_n 0, 1) := by decide +kernel
theorem d4_9 : decode prog_36_method_3_code 9 = .ok (.getfield 13, 3) := by decide +kernel
theorem d4_12 : decode prog_36_method_3_code 12 = .ok (.land, 1) := by decide +kernel
theorem d4_13 : decode prog_36_method_3_code 13 = .ok (.lconst 0, 1) := by decide +kernel
theorem d4_14 : decode prog_36_method_3_code 14 = .ok (.lcmp, 1) := by decide +kernel
theorem d4_15 : decode prog_36_method_3_code 15 = .ok (.ifCond .eq 5, 3) := by decide +kernel
theorem d4_18 : decode prog_36_method_3_code 18 = .ok (.iconst (-1), 1) := by decide +kernel
theorem d4_19 : decode prog_36_method_3_code 19 = .ok (.ireturn, 1) := by decide +kernel
theorem d4_20 : decode prog_36_method_3_code 20 = .ok (.lconst 1, 1) := by decide +kernel
theorem d4_21 : decode prog_36_method_3_code 21 = .ok (.aload_n 0, 1) := by decide +kernel
theorem d4_22 : decode prog_36_method_3_code 22 = .ok (.getfield 23, 3) := by decide +kernel
theorem d4_25 : decode prog_36_method_3_code 25 = .ok (.lshl, 1) := by decide +kernel
theorem d4_26 : decode prog_36_method_3_code 26 = .ok (.lconst 1, 1) := by decide +kernel
theorem d4_27 : decode prog_36_method_3_code 27 = .ok (.lsub, 1) := by decide +kernel
theorem d4_28 : decode prog_36_method_3_code 28 = .ok (.lstore 5, 2) := by decide +kernel
theorem d4_30 : decode prog_36_method_3_code 30 = .ok (.iconst 1, 1) := by decide +kernel
theorem d4_31 : decode prog_36_method_3_code 31 = .ok (.istore 7, 2) := by decide +kernel
theorem d4_33 : decode prog_36_method_3_code 33 = .ok (.iconst 0, 1) := by decide +kernel
theorem d4_34 : decode prog_36_method_3_code 34 = .ok (.istore 8, 2) := by decide +kernel
theorem d4_36 : decode prog_36_method_3_code 36 = .ok (.iload 8, 2) := by decide +kernel
theorem d4_38 : decode prog_36_method_3_code 38 = .ok (.aload_n 0, 1) := by decide +kernel
theorem d4_39 : decode prog_36_method_3_code 39 = .ok (.getfield 20, 3) := by decide +kernel
theorem d4_42 : decode prog_36_method_3_code 42 = .ok (.if_icmp .ge 61, 3) := by decide +kernel
theorem d4_45 : decode prog_36_method_3_code 45 = .ok (.lload_n 3, 1) := by decide +kernel
theorem d4_46 : decode prog_36_method_3_code 46 = .ok (.aload_n 0, 1) := by decide +kernel
theorem d4_47 : decode prog_36_method_3_code 47 = .ok (.getfield 16, 3) := by decide +kernel
theorem d4_50 : decode prog_36_method_3_code 50 = .ok (.iload 8, 2) := by decide +kernel
theorem d4_52 : decode prog_36_method_3_code 52 = .ok (.aload_n 0, 1) := by decide +kernel
theorem d4_53 : decode prog_36_method_3_code 53 = .ok (.getfield 23, 3) := by decide +kernel
theorem d4_56 : decode prog_36_method_3_code 56 = .ok (.imul, 1) := by decide +kernel
theorem d4_57 : decode prog_36_method_3_code 57 = .ok (.iadd, 1) := by decide +kernel
theorem d4_58 : decode prog_36_method_3_code 58 = .ok (.lushr, 1) := by decide +kernel
theorem d4_59 : decode prog_36_method_3_code 59 = .ok (.lload 5, 2) := by decide +kernel
theorem d4_61 : decode prog_36_method_3_code 61 = .ok (.land, 1) := by decide +kernel
theorem d4_62 : decode prog_36_method_3_code 62 = .ok (.lstore 9, 2) := by decide +kernel
theorem d4_64 : decode prog_36_method_3_code 64 = .ok (.iload 7, 2) := by decide +kernel
theorem d4_66 : decode prog_36_method_3_code 66 = .ok (.lload 9, 2) := by decide +kernel
theorem d4_68 : decode prog_36_method_3_code 68 = .ok (.aload_n 0, 1) := by decide +kernel
theorem d4_69 : decode prog_36_method_3_code 69 = .ok (.getfield 26, 3) := by decide +kernel
theorem d4_72 : decode prog_36_method_3_code 72 = .ok (.arraylength, 1) := by decide +kernel
theorem d4_73 : decode prog_36_method_3_code 73 = .ok (.i2l, 1) := by decide +kernel
theorem d4_74 : decode prog_36_method_3_code 74 = .ok (.lcmp, 1) := by decide +kernel
theorem d4_75 : decode prog_36_method_3_code 75 = .ok (.ifCond .ge 18, 3) := by decide +kernel
theorem d4_78 : decode prog_36_method_3_code 78 = .ok (.aload_n 0, 1) := by decide +kernel
theorem d4_79 : decode prog_36_method_3_code 79 = .ok (.getfield 26, 3) := by decide +kernel
theorem d4_82 : decode prog_36_method_3_code 82 = .ok (.lload 9, 2) := by decide +kernel
theorem d4_84 : decode prog_36_method_3_code 84 = .ok (.l2i, 1) := by decide +kernel
theorem d4_85 : decode prog_36_method_3_code 85 = .ok (.baload, 1) := by decide +kernel
theorem d4_86 : decode prog_36_method_3_code 86 = .ok (.ifCond .eq 7, 3) := by decide +kernel
theorem d4_89 : decode prog_36_method_3_code 89 = .ok (.iconst 1, 1) := by decide +kernel
theorem d4_90 : decode prog_36_method_3_code 90 = .ok (.goto 4, 3) := by decide +kernel
theorem d4_93 : decode prog_36_method_3_code 93 = .ok (.iconst 0, 1) := by decide +kernel
theorem d4_94 : decode prog_36_method_3_code 94 = .ok (.iand, 1) := by decide +kernel
theorem d4_95 : decode prog_36_method_3_code 95 = .ok (.istore 7, 2) := by decide +kernel
theorem d4_97 : decode prog_36_method_3_code 97 = .ok (.iinc 8 1, 3) := by decide +kernel
theorem d4_100 : decode prog_36_method_3_code 100 = .ok (.goto (-64), 3) := by decide +kernel
theorem d4_103 : decode prog_36_method_3_code 103 = .ok (.iload 7, 2) := by decide +kernel
theorem d4_105 : decode prog_36_method_3_code 105 = .ok (.ifCond .eq 7, 3) := by decide +kernel
theorem d4_108 : decode prog_36_method_3_code 108 = .ok (.iconst 1, 1) := by decide +kernel
theorem d4_109 : decode prog_36_method_3_code 109 = .ok (.goto 4, 3) := by decide +kernel
theorem d4_112 : decode prog_36_method_3_code 112 = .ok (.iconst 0, 1) := by decide +kernel
theorem d4_113 : decode prog_36_method_3_code 113 = .ok (.ireturn, 1) := by decide +kernel
theorem pn_4 : plainName "com/example/denary/denary/SeparatedWalk$Member" = true := by first | (simp [plainName, overriddenIn]; done) | decide +kernel
theorem ef_4 (m : MethodId) (r0 : Addr) (q1 : Int64) : entryFrame m #[.ref r0, .long q1] 11 = mkF m 0 #[.val (.ref r0), .val (.long q1), .second, .unset, .unset, .unset, .unset, .unset, .unset, .unset, .unset] [] := by first | (simp [entryFrame, mkF, argsToLocals, Value.category]; done) | rfl
set_option maxRecDepth 65536 in
set_option maxHeartbeats 40000000 in
theorem ct_4 (l : Launch) (Z : State) (a0 : Array Value) (hw : ∀ d ∈ tables_1, d.before a0 Z = true) {h0 : Heap} {n0 : Nat} (zs : n0 ≤ h0.size) (r0 : Addr) (q1 : Int64) (qe qc : Int64) (ps pr pw : Int32) (t : Addr) (f : Int → Int32) (F_r0_expected : Fld Z h0 r0 "com/example/denary/denary/SeparatedWalk$Member" "expected" "J" (.long qe)) (F_r0_checked : Fld Z h0 r0 "com/example/denary/denary/SeparatedWalk$Member" "checked" "J" (.long qc)) (F_r0_shift : Fld Z h0 r0 "com/example/denary/denary/SeparatedWalk$Member" "shift" "I" (.int ps)) (F_r0_rowCount : Fld Z h0 r0 "com/example/denary/denary/SeparatedWalk$Member" "rowCount" "I" (.int pr)) (F_r0_width : Fld Z h0 r0 "com/example/denary/denary/SeparatedWalk$Member" "width" "I" (.int pw)) (F_r0_multiples : Fld Z h0 r0 "com/example/denary/denary/SeparatedWalk$Member" "multiples" "[Z" (.ref t)) (A_t : AIK Z h0 t .boolean 8 f) (w1 : 1 ≤ pw.toInt) (w8 : pw.toInt ≤ 8) (r0' : 0 ≤ pr.toInt) :
    CtK l Z (⟨"com/example/denary/denary/SeparatedWalk$Member", "verdict", "(J)I"⟩ : MethodName) prog_36_method_3_code 11 (some .int) ({ frames := 0, cells := 0, slots := 0, locals := 0 } : Room) #[.ref r0, .long q1] h0 n0 (QI (fun z h => ((¬ (q1 - qe) &&& qc = 0 ∧ z = -1) ∨ ((q1 - qe) &&& qc = 0 ∧ ((z = 1 ∧ own_all (q1 - qe) ps pw f pr.toInt) ∨ (z = 0 ∧ ¬ own_all (q1 - qe) ps pw f pr.toInt)))) ∧ h = h0)) := by
  refine CtK.of (plainFor_of_name pn_4) ?_
  intro p e s m below meth c T0 X0 hx hZ hby hml hown hnm hret hlk
  refine GoK.entry (ef_4 m r0 q1) ?_
  replace hown : s.vm.findClass "com/example/denary/denary/SeparatedWalk$Member" = some m.cls := hown
  refine go_lloadN (pc' := 1) X0 hx (hb hby d4_0) rfl rfl ?_
  refine go_aloadN (pc' := 2) X0 hx (hb hby d4_1) rfl rfl ?_
  refine go_getfield (pc' := 5) X0 hx hZ hown (hw _ (List.mem_of_getElem? (i := 16) rfl)) F_r0_expected (hb hby d4_2) rfl (fun T1 X1 => ?_)
  refine go_lsub (pc' := 6) X1 hx (hb hby d4_5) rfl ?_
  refine go_nameJ (fun v3_6 hv3_6 => ?_)
  refine go_lstoreN (pc' := 7) (L' := #[.val (.ref r0), .val (.long q1), .second, .val (.long v3_6), .second, .unset, .unset, .unset, .unset, .unset, .unset]) X1 hx (hb hby d4_6) rfl rfl ?_
  refine go_lloadN (pc' := 8) X1 hx (hb hby d4_7) rfl rfl ?_
  refine go_aloadN (pc' := 9) X1 hx (hb hby d4_8) rfl rfl ?_
  refine go_getfield (pc' := 12) X1 hx hZ hown (hw _ (List.mem_of_getElem? (i := 18) rfl)) F_r0_checked (hb hby d4_9) rfl (fun T2 X2 => ?_)
  refine go_land (pc' := 13) X2 hx (hb hby d4_12) rfl ?_
  refine go_lconst (pc' := 14) (v := 0) X2 hx (hb hby d4_13) rfl rfl ?_
  refine go_lifeq (pc1 := 15) (pc' := 18) (pcT := 20) X2 hx (hb hby d4_14) rfl (hb hby d4_15) rfl (by decide) (by decide) (fun c15 => ?_) (fun c15 => ?_)
  · refine go_lconst (pc' := 21) (v := 1) X2 hx (hb hby d4_20) rfl rfl ?_
    refine go_aloadN (pc' := 22) X2 hx (hb hby d4_21) rfl rfl ?_
    refine go_getfield (pc' := 25) X2 hx hZ hown (hw _ (List.mem_of_getElem? (i := 24) rfl)) F_r0_width (hb hby d4_22) rfl (fun T3 X3 => ?_)
    refine go_lshl (pc' := 26) X3 hx (hb hby d4_25) rfl ?_
    refine go_lconst (pc' := 27) (v := 1) X3 hx (hb hby d4_26) rfl rfl ?_
    refine go_lsub (pc' := 28) X3 hx (hb hby d4_27) rfl ?_
    refine go_nameJ (fun v5_28_t hv5_28_t => ?_)
    refine go_lstore (pc' := 30) (L' := #[.val (.ref r0), .val (.long q1), .second, .val (.long v3_6), .second, .val (.long v5_28_t), .second, .unset, .unset, .unset, .unset]) X3 hx (hb hby d4_28) rfl rfl ?_
    refine go_iconst (pc' := 31) (v := 1) X3 hx (hb hby d4_30) rfl rfl ?_
    refine go_istore (pc' := 33) (L' := #[.val (.ref r0), .val (.long q1), .second, .val (.long v3_6), .second, .val (.long v5_28_t), .second, .val (.int (1 : Int32)), .unset, .unset, .unset]) X3 hx (hb hby d4_31) rfl rfl ?_
    refine go_iconst (pc' := 34) (v := 0) X3 hx (hb hby d4_33) rfl rfl ?_
    refine go_istore (pc' := 36) (L' := #[.val (.ref r0), .val (.long q1), .second, .val (.long v3_6), .second, .val (.long v5_28_t), .second, .val (.int (1 : Int32)), .val (.int (0 : Int32)), .unset, .unset]) X3 hx (hb hby d4_34) rfl rfl ?_
    suffices loop36 : ∀ (d : Nat) (TL36 : State) (hL36 : Heap) (v7 : Int32) (v8 : Int32) (s9a s9b : Slot), OnK p l e ({ frames := 0, cells := 0, slots := 0, locals := 0 } : Room) s m #[.ref r0, .long q1] below meth c n0 TL36 hL36 0 0 → n0 ≤ hL36.size → Fld Z hL36 r0 "com/example/denary/denary/SeparatedWalk$Member" "expected" "J" (.long qe) → Fld Z hL36 r0 "com/example/denary/denary/SeparatedWalk$Member" "checked" "J" (.long qc) → Fld Z hL36 r0 "com/example/denary/denary/SeparatedWalk$Member" "shift" "I" (.int ps) → Fld Z hL36 r0 "com/example/denary/denary/SeparatedWalk$Member" "rowCount" "I" (.int pr) → Fld Z hL36 r0 "com/example/denary/denary/SeparatedWalk$Member" "width" "I" (.int pw) → Fld Z hL36 r0 "com/example/denary/denary/SeparatedWalk$Member" "multiples" "[Z" (.ref t) → AIK Z hL36 t .boolean (8) f → TwoK s9a s9b → (pr.toInt - v8.toInt).toNat = d → (hL36 = h0 ∧ 0 ≤ v8.toInt ∧ v8.toInt ≤ pr.toInt ∧ ((v7 = 1 ∧ own_all (q1 - qe) ps pw f v8.toInt) ∨ (v7 = 0 ∧ ¬ own_all (q1 - qe) ps pw f v8.toInt))) → GoK p e below (DoneK s below n0 ({ frames := 0, cells := 0, slots := 0, locals := 0 } : Room).cells ({ frames := 0, cells := 0, slots := 0, locals := 0 } : Room).slots (QI (fun z h => ((¬ (q1 - qe) &&& qc = 0 ∧ z = -1) ∨ ((q1 - qe) &&& qc = 0 ∧ ((z = 1 ∧ own_all (q1 - qe) ps pw f pr.toInt) ∨ (z = 0 ∧ ¬ own_all (q1 - qe) ps pw f pr.toInt)))) ∧ h = h0))) TL36 (mkF m 36 #[.val (.ref r0), .val (.long q1), .second, .val (.long v3_6), .second, .val (.long v5_28_t), .second, .val (.int v7), .val (.int v8), s9a, s9b] []) by
      refine loop36 _ T3 h0 (1 : Int32) (0 : Int32) (.unset) (.unset) X3 zs F_r0_expected F_r0_checked F_r0_shift F_r0_rowCount F_r0_width F_r0_multiples A_t (Or.inl ⟨rfl, rfl⟩) rfl ?_
      exact ⟨rfl, by decide, r0', Or.inl ⟨rfl, own_all0⟩⟩
    intro d36
    induction d36 using Nat.strongRecOn with
    | _ d36 ih36 =>
      intro TL36 hL36 v7 v8 s9a s9b XL36 zs F_r0_expected F_r0_checked F_r0_shift F_r0_rowCount F_r0_width F_r0_multiples A_t hs9 hm36 hv36
      obtain ⟨i0, i1, i2, i3⟩ := hv36
      refine go_iload (pc' := 38) XL36 hx (hb hby d4_36) rfl rfl ?_
      refine go_aloadN (pc' := 39) XL36 hx (hb hby d4_38) rfl rfl ?_
      refine go_getfield (pc' := 42) XL36 hx hZ hown (hw _ (List.mem_of_getElem? (i := 22) rfl)) F_r0_rowCount (hb hby d4_39) rfl (fun T4 X4 => ?_)
      refine go_icmpge (pc' := 45) (pcT := 103) X4 hx (hb hby d4_42) rfl (by decide) (by decide) (fun c42_t => ?_) (fun c42_t => ?_)
      · refine go_iload (pc' := 105) X4 hx (hb hby d4_103) rfl rfl ?_
        refine go_ifeq (pc' := 108) (pcT := 112) X4 hx (hb hby d4_105) rfl (by decide) (by decide) (fun c105_tt => ?_) (fun c105_tt => ?_)
        · refine go_iconst (pc' := 113) (v := 0) X4 hx (hb hby d4_112) rfl rfl ?_
          refine go_retI X4 hx hret hlk (hb hby d4_113) (by decide) (by decide) ?_
          have q := own_geI c42_t
          have e8 : v8.toInt = pr.toInt := by omega
          rw [e8] at i3
          refine ⟨Or.inr ⟨by rw [← hv3_6]; exact c15, ?_⟩, i0⟩
          rcases i3 with ⟨a, b⟩ | ⟨a, b⟩
          · exfalso; rw [a] at c105_tt; revert c105_tt; decide
          · exact Or.inr ⟨rfl, b⟩
        · refine go_iconst (pc' := 109) (v := 1) X4 hx (hb hby d4_108) rfl rfl ?_
          refine go_goto (pc' := 113) X4 hx (hb hby d4_109) (by decide) (by decide) ?_
          refine go_retI X4 hx hret hlk (hb hby d4_113) (by decide) (by decide) ?_
          have q := own_geI c42_t
          have e8 : v8.toInt = pr.toInt := by omega
          rw [e8] at i3
          refine ⟨Or.inr ⟨by rw [← hv3_6]; exact c15, ?_⟩, i0⟩
          rcases i3 with ⟨a, b⟩ | ⟨a, b⟩
          · exact Or.inl ⟨rfl, b⟩
          · exact absurd a c105_tt
      · refine go_lloadN (pc' := 46) X4 hx (hb hby d4_45) rfl rfl ?_
        refine go_aloadN (pc' := 47) X4 hx (hb hby d4_46) rfl rfl ?_
        refine go_getfield (pc' := 50) X4 hx hZ hown (hw _ (List.mem_of_getElem? (i := 20) rfl)) F_r0_shift (hb hby d4_47) rfl (fun T5 X5 => ?_)
        refine go_iload (pc' := 52) X5 hx (hb hby d4_50) rfl rfl ?_
        refine go_aloadN (pc' := 53) X5 hx (hb hby d4_52) rfl rfl ?_
        refine go_getfield (pc' := 56) X5 hx hZ hown (hw _ (List.mem_of_getElem? (i := 24) rfl)) F_r0_width (hb hby d4_53) rfl (fun T6 X6 => ?_)
        refine go_imul (pc' := 57) X6 hx (hb hby d4_56) rfl ?_
        refine go_iadd (pc' := 58) X6 hx (hb hby d4_57) rfl ?_
        refine go_lushr (pc' := 59) X6 hx (hb hby d4_58) rfl ?_
        refine go_lload (pc' := 61) X6 hx (hb hby d4_59) rfl rfl ?_
        refine go_land (pc' := 62) X6 hx (hb hby d4_61) rfl ?_
        refine go_nameJ (fun v9_62_tf hv9_62_tf => ?_)
        refine go_lstore (pc' := 64) (L' := #[.val (.ref r0), .val (.long q1), .second, .val (.long v3_6), .second, .val (.long v5_28_t), .second, .val (.int v7), .val (.int v8), .val (.long v9_62_tf), .second]) X6 hx (hb hby d4_62) rfl (by rcases hs9 with ⟨rfl, rfl⟩ | ⟨_, rfl, rfl⟩ <;> rfl) ?_
        refine go_iload (pc' := 66) X6 hx (hb hby d4_64) rfl rfl ?_
        refine go_lload (pc' := 68) X6 hx (hb hby d4_66) rfl rfl ?_
        refine go_aloadN (pc' := 69) X6 hx (hb hby d4_68) rfl rfl ?_
        refine go_getfield (pc' := 72) X6 hx hZ hown (hw _ (List.mem_of_getElem? (i := 26) rfl)) F_r0_multiples (hb hby d4_69) rfl (fun T7 X7 => ?_)
        refine go_lenI (pc' := 73) X7 hx hZ A_t (hb hby d4_72) rfl (fun n72_tf hn72_tf => ?_)
        obtain rfl : n72_tf = (8 : Int32) := Int32.toInt_inj.mp hn72_tf
        refine go_i2l (pc' := 74) X7 hx (hb hby d4_73) rfl ?_
        refine go_lifge (pc1 := 75) (pc' := 78) (pcT := 93) X7 hx (hb hby d4_74) rfl (hb hby d4_75) rfl (by decide) (by decide) (fun c75_tf => ?_) (fun c75_tf => ?_)
        · refine go_iconst (pc' := 94) (v := 0) X7 hx (hb hby d4_93) rfl rfl ?_
          refine go_iand (pc' := 95) X7 hx (hb hby d4_94) rfl ?_
          refine go_nameI (fun v7_95_tft hv7_95_tft => ?_)
          refine go_istore (pc' := 97) (L' := #[.val (.ref r0), .val (.long q1), .second, .val (.long v3_6), .second, .val (.long v5_28_t), .second, .val (.int v7_95_tft), .val (.int v8), .val (.long v9_62_tf), .second]) X7 hx (hb hby d4_95) rfl rfl ?_
          obtain ⟨v8_97_tft, hv8_97_tft⟩ : ∃ z : Int32, z = v8 + (1 : Int32) := ⟨_, rfl⟩
          refine go_iinc (pc' := 100) (L' := #[.val (.ref r0), .val (.long q1), .second, .val (.long v3_6), .second, .val (.long v5_28_t), .second, .val (.int v7_95_tft), .val (.int v8_97_tft), .val (.long v9_62_tf), .second]) X7 hx (hb hby d4_97) rfl rfl hv8_97_tft.symm rfl ?_
          refine go_goto (pc' := 36) X7 hx (hb hby d4_100) (by decide) (by decide) ?_
          refine ih36 _ ?_ T7 hL36 v7_95_tft v8_97_tft (.val (.long v9_62_tf)) (.second) X7 zs F_r0_expected F_r0_checked F_r0_shift F_r0_rowCount F_r0_width F_r0_multiples A_t (Or.inr ⟨_, rfl, rfl⟩) rfl ?_
          · have q := own_ltI c42_t
            have e8 := own_inc hv8_97_tft (by have := rng32 pr; omega)
            omega
          · have q := own_ltI c42_t
            have e8 := own_inc hv8_97_tft (by have := rng32 pr; omega)
            have a1 := own_an1 (v := v7) (by rcases i3 with ⟨q, -⟩ | ⟨q, -⟩; exact Or.inr q; exact Or.inl q)
            refine ⟨i0, by omega, by omega, ?_⟩
            rw [own_allS e8 i1, hv7_95_tft]
            have hfl : own_fld (q1 - qe) (ps + v8 * pw) pw = v9_62_tf := by rw [hv9_62_tf, hv3_6, hv5_28_t]; rfl
            have g : ¬ own_G (q1 - qe) ps pw f v8 := fun w => c75_tf (by rw [← hfl]; exact w.1)
            rw [a1.2]
            exact Or.inr ⟨rfl, fun w => g w.2⟩
        · refine go_aloadN (pc' := 79) X7 hx (hb hby d4_78) rfl rfl ?_
          refine go_getfield (pc' := 82) X7 hx hZ hown (hw _ (List.mem_of_getElem? (i := 26) rfl)) F_r0_multiples (hb hby d4_79) rfl (fun T8 X8 => ?_)
          refine go_lload (pc' := 84) X8 hx (hb hby d4_82) rfl rfl ?_
          refine go_l2i (pc' := 85) X8 hx (hb hby d4_84) rfl ?_
          refine go_baloadZ (pc' := 86) X8 hx hZ A_t (by have y := own_idx (x := v9_62_tf) (by rw [hv9_62_tf, hv3_6, hv5_28_t]; exact own_fl0 _ _ w1 w8) c75_tf; omega) (by have y := own_idx (x := v9_62_tf) (by rw [hv9_62_tf, hv3_6, hv5_28_t]; exact own_fl0 _ _ w1 w8) c75_tf; omega) (hb hby d4_85) rfl (fun w85_tff hw85_tff => ?_)
          refine go_ifeq (pc' := 89) (pcT := 93) X8 hx (hb hby d4_86) rfl (by decide) (by decide) (fun c86_tff => ?_) (fun c86_tff => ?_)
          · refine go_iconst (pc' := 94) (v := 0) X8 hx (hb hby d4_93) rfl rfl ?_
            refine go_iand (pc' := 95) X8 hx (hb hby d4_94) rfl ?_
            refine go_nameI (fun v7_95_tfft hv7_95_tfft => ?_)
            refine go_istore (pc' := 97) (L' := #[.val (.ref r0), .val (.long q1), .second, .val (.long v3_6), .second, .val (.long v5_28_t), .second, .val (.int v7_95_tfft), .val (.int v8), .val (.long v9_62_tf), .second]) X8 hx (hb hby d4_95) rfl rfl ?_
            obtain ⟨v8_97_tfft, hv8_97_tfft⟩ : ∃ z : Int32, z = v8 + (1 : Int32) := ⟨_, rfl⟩
            refine go_iinc (pc' := 100) (L' := #[.val (.ref r0), .val (.long q1), .second, .val (.long v3_6), .second, .val (.long v5_28_t), .second, .val (.int v7_95_tfft), .val (.int v8_97_tfft), .val (.long v9_62_tf), .second]) X8 hx (hb hby d4_97) rfl rfl hv8_97_tfft.symm rfl ?_
            refine go_goto (pc' := 36) X8 hx (hb hby d4_100) (by decide) (by decide) ?_
            refine ih36 _ ?_ T8 hL36 v7_95_tfft v8_97_tfft (.val (.long v9_62_tf)) (.second) X8 zs F_r0_expected F_r0_checked F_r0_shift F_r0_rowCount F_r0_width F_r0_multiples A_t (Or.inr ⟨_, rfl, rfl⟩) rfl ?_
            · have q := own_ltI c42_t
              have e8 := own_inc hv8_97_tfft (by have := rng32 pr; omega)
              omega
            · have q := own_ltI c42_t
              have e8 := own_inc hv8_97_tfft (by have := rng32 pr; omega)
              have a1 := own_an1 (v := v7) (by rcases i3 with ⟨q, -⟩ | ⟨q, -⟩; exact Or.inr q; exact Or.inl q)
              refine ⟨i0, by omega, by omega, ?_⟩
              rw [own_allS e8 i1, hv7_95_tfft]
              have hfl : own_fld (q1 - qe) (ps + v8 * pw) pw = v9_62_tf := by rw [hv9_62_tf, hv3_6, hv5_28_t]; rfl
              have g : ¬ own_G (q1 - qe) ps pw f v8 := fun w => w.2 (by rw [hfl, ← hw85_tff]; exact c86_tff)
              rw [a1.2]
              exact Or.inr ⟨rfl, fun w => g w.2⟩
          · refine go_iconst (pc' := 90) (v := 1) X8 hx (hb hby d4_89) rfl rfl ?_
            refine go_goto (pc' := 94) X8 hx (hb hby d4_90) (by decide) (by decide) ?_
            refine go_iand (pc' := 95) X8 hx (hb hby d4_94) rfl ?_
            refine go_nameI (fun v7_95_tfff hv7_95_tfff => ?_)
            refine go_istore (pc' := 97) (L' := #[.val (.ref r0), .val (.long q1), .second, .val (.long v3_6), .second, .val (.long v5_28_t), .second, .val (.int v7_95_tfff), .val (.int v8), .val (.long v9_62_tf), .second]) X8 hx (hb hby d4_95) rfl rfl ?_
            obtain ⟨v8_97_tfff, hv8_97_tfff⟩ : ∃ z : Int32, z = v8 + (1 : Int32) := ⟨_, rfl⟩
            refine go_iinc (pc' := 100) (L' := #[.val (.ref r0), .val (.long q1), .second, .val (.long v3_6), .second, .val (.long v5_28_t), .second, .val (.int v7_95_tfff), .val (.int v8_97_tfff), .val (.long v9_62_tf), .second]) X8 hx (hb hby d4_97) rfl rfl hv8_97_tfff.symm rfl ?_
            refine go_goto (pc' := 36) X8 hx (hb hby d4_100) (by decide) (by decide) ?_
            refine ih36 _ ?_ T8 hL36 v7_95_tfff v8_97_tfff (.val (.long v9_62_tf)) (.second) X8 zs F_r0_expected F_r0_checked F_r0_shift F_r0_rowCount F_r0_width F_r0_multiples A_t (Or.inr ⟨_, rfl, rfl⟩) rfl ?_
            · have q := own_ltI c42_t
              have e8 := own_inc hv8_97_tfff (by have := rng32 pr; omega)
              omega
            · have q := own_ltI c42_t
              have e8 := own_inc hv8_97_tfff (by have := rng32 pr; omega)
              have a1 := own_an1 (v := v7) (by rcases i3 with ⟨q, -⟩ | ⟨q, -⟩; exact Or.inr q; exact Or.inl q)
              refine ⟨i0, by omega, by omega, ?_⟩
              rw [own_allS e8 i1, hv7_95_tfff]
              have hfl : own_fld (q1 - qe) (ps + v8 * pw) pw = v9_62_tf := by rw [hv9_62_tf, hv3_6, hv5_28_t]; rfl
              have g : own_G (q1 - qe) ps pw f v8 := ⟨by rw [hfl]; exact c75_tf, by rw [hfl, ← hw85_tff]; exact c86_tff⟩
              rw [a1.1]
              rcases i3 with ⟨a, b⟩ | ⟨a, b⟩
              · exact Or.inl ⟨a, b, g⟩
              · exact Or.inr ⟨a, fun w => b w.1⟩
  · refine go_iconst (pc' := 19) (v := -1) X2 hx (hb hby d4_18) rfl rfl ?_
    refine go_retI X2 hx hret hlk (hb hby d4_19) (by decide) (by decide) ?_
    refine ⟨Or.inl ⟨?_, rfl⟩, rfl⟩
    rw [← hv3_6]; exact c15
theorem pn_0 : plainName "com/example/denary/denary/MemberVerdictPinLaw" = true := by first | (simp [plainName, overriddenIn]; done) | decide +kernel
theorem ef_0 (m : MethodId) (q0 : Int64) (q1 : Int64) (q2 : Int64) (p3 : Int32) (p4 : Int32) : entryFrame m #[.long q0, .long q1, .long q2, .int p3, .int p4] maxLocals = mkF m 0 #[.val (.long q0), .second, .val (.long q1), .second, .val (.long q2), .second, .val (.int p3), .val (.int p4), .unset, .unset, .unset, .unset, .unset, .unset, .unset, .unset, .unset, .unset, .unset, .unset, .unset] [] := by first | (simp [entryFrame, mkF, argsToLocals, Value.category, maxLocals]; done) | rfl
set_option maxRecDepth 65536 in
set_option maxHeartbeats 40000000 in
theorem ct_0 (l : Launch) (Z : State) (a0 : Array Value) (hw : ∀ d ∈ tables_1, d.before a0 Z = true) {h0 : Heap} {n0 : Nat} (zs : n0 ≤ h0.size) (q0 : Int64) (q1 : Int64) (q2 : Int64) (p3 : Int32) (p4 : Int32)  :
    CtK l Z x code maxLocals ret room_1 #[.long q0, .long q1, .long q2, .int p3, .int p4] h0 n0 (QI (fun z _ => z = 1)) := by
  refine CtK.of (plainFor_of_name pn_0) ?_
  intro p e s m below meth c T0 X0 hx hZ hby hml hown hnm hret hlk
  refine GoK.entry (ef_0 m q0 q1 q2 p3 p4) ?_
  replace hml : c.maxLocals = 21 := hml
  replace hown : s.vm.findClass "com/example/denary/denary/MemberVerdictPinLaw" = some m.cls := hown
  refine go_iconst (pc' := 1) (v := 1) X0 hx (hb hby at_0) rfl rfl ?_
  refine go_iload (pc' := 3) X0 hx (hb hby at_1) rfl rfl ?_
  refine go_bipush (pc' := 5) (v := 7) X0 hx (hb hby at_3) rfl rfl ?_
  refine go_iand (pc' := 6) X0 hx (hb hby at_5) rfl ?_
  refine go_iadd (pc' := 7) X0 hx (hb hby at_6) rfl ?_
  refine go_nameI (fun v8_7 hv8_7 => ?_)
  refine go_istore (pc' := 9) (L' := #[.val (.long q0), .second, .val (.long q1), .second, .val (.long q2), .second, .val (.int p3), .val (.int p4), .val (.int v8_7), .unset, .unset, .unset, .unset, .unset, .unset, .unset, .unset, .unset, .unset, .unset, .unset]) X0 hx (hb hby at_7) rfl rfl ?_
  refine go_iload (pc' := 11) X0 hx (hb hby at_9) rfl rfl ?_
  refine go_iconst (pc' := 12) (v := 3) X0 hx (hb hby at_11) rfl rfl ?_
  refine go_iushr (pc' := 13) X0 hx (hb hby at_12) rfl ?_
  refine go_bipush (pc' := 15) (v := 31) X0 hx (hb hby at_13) rfl rfl ?_
  refine go_iand (pc' := 16) X0 hx (hb hby at_15) rfl ?_
  refine go_nameI (fun v9_16 hv9_16 => ?_)
  refine go_istore (pc' := 18) (L' := #[.val (.long q0), .second, .val (.long q1), .second, .val (.long q2), .second, .val (.int p3), .val (.int p4), .val (.int v8_7), .val (.int v9_16), .unset, .unset, .unset, .unset, .unset, .unset, .unset, .unset, .unset, .unset, .unset]) X0 hx (hb hby at_16) rfl rfl ?_
  refine go_iload (pc' := 20) X0 hx (hb hby at_18) rfl rfl ?_
  refine go_bipush (pc' := 22) (v := 8) X0 hx (hb hby at_20) rfl rfl ?_
  refine go_iushr (pc' := 23) X0 hx (hb hby at_22) rfl ?_
  refine go_iconst (pc' := 24) (v := 3) X0 hx (hb hby at_23) rfl rfl ?_
  refine go_iand (pc' := 25) X0 hx (hb hby at_24) rfl ?_
  refine go_nameI (fun v10_25 hv10_25 => ?_)
  refine go_istore (pc' := 27) (L' := #[.val (.long q0), .second, .val (.long q1), .second, .val (.long q2), .second, .val (.int p3), .val (.int p4), .val (.int v8_7), .val (.int v9_16), .val (.int v10_25), .unset, .unset, .unset, .unset, .unset, .unset, .unset, .unset, .unset, .unset]) X0 hx (hb hby at_25) rfl rfl ?_
  obtain ⟨wd1, wd8⟩ := own_and7 hv8_7
  obtain ⟨rc0, rc3⟩ := own_and3 ((p3.toUInt32 >>> ((8 : Int32) &&& 31).toUInt32).toInt32)
  rw [← hv10_25] at rc0 rc3
  refine go_iload (pc' := 29) X0 hx (hb hby at_27) rfl rfl ?_
  refine go_bipush (pc' := 31) (v := 12) X0 hx (hb hby at_29) rfl rfl ?_
  refine go_iushr (pc' := 32) X0 hx (hb hby at_31) rfl ?_
  refine go_iconst (pc' := 33) (v := 1) X0 hx (hb hby at_32) rfl rfl ?_
  refine go_iand (pc' := 34) X0 hx (hb hby at_33) rfl ?_
  suffices J42 : ∀ (m42_s0 : Int32), (((((p3.toUInt32 >>> ((12 : Int32) &&& 31).toUInt32).toInt32) &&& (1 : Int32)) = (0 : Int32) ∧ m42_s0 = (0 : Int32)) ∨ (¬ (((p3.toUInt32 >>> ((12 : Int32) &&& 31).toUInt32).toInt32) &&& (1 : Int32)) = (0 : Int32) ∧ m42_s0 = (1 : Int32))) → GoK p e below (DoneK s below n0 room_1.cells room_1.slots (QI (fun z _ => z = 1))) T0 (mkF m 42 #[.val (.long q0), .second, .val (.long q1), .second, .val (.long q2), .second, .val (.int p3), .val (.int p4), .val (.int v8_7), .val (.int v9_16), .val (.int v10_25), .unset, .unset, .unset, .unset, .unset, .unset, .unset, .unset, .unset, .unset] [.int m42_s0]) by
    refine go_ifeq (pc' := 37) (pcT := 41) X0 hx (hb hby at_34) rfl (by decide) (by decide) (fun c34 => ?_) (fun c34 => ?_)
    · refine go_iconst (pc' := 42) (v := 0) X0 hx (hb hby at_41) rfl rfl ?_
      exact J42 _  (Or.inl ⟨c34, rfl⟩)
    · refine go_iconst (pc' := 38) (v := 1) X0 hx (hb hby at_37) rfl rfl ?_
      refine go_goto (pc' := 42) X0 hx (hb hby at_38) (by decide) (by decide) ?_
      exact J42 _  (Or.inr ⟨c34, rfl⟩)
  intro m42_s0 j42
  refine go_istore (pc' := 44) (L' := #[.val (.long q0), .second, .val (.long q1), .second, .val (.long q2), .second, .val (.int p3), .val (.int p4), .val (.int v8_7), .val (.int v9_16), .val (.int v10_25), .val (.int m42_s0), .unset, .unset, .unset, .unset, .unset, .unset, .unset, .unset, .unset]) X0 hx (hb hby at_42) rfl rfl ?_
  refine go_iload (pc' := 46) X0 hx (hb hby at_44) rfl rfl ?_
  suffices J62 : ∀ (m62_s0 : Int64), ((m42_s0 = (0 : Int32) ∧ m62_s0 = (q2 &&& (q1 ^^^ (-1 : Int64)))) ∨ (¬ m42_s0 = (0 : Int32) ∧ m62_s0 = q2)) → GoK p e below (DoneK s below n0 room_1.cells room_1.slots (QI (fun z _ => z = 1))) T0 (mkF m 62 #[.val (.long q0), .second, .val (.long q1), .second, .val (.long q2), .second, .val (.int p3), .val (.int p4), .val (.int v8_7), .val (.int v9_16), .val (.int v10_25), .val (.int m42_s0), .unset, .unset, .unset, .unset, .unset, .unset, .unset, .unset, .unset] [.long m62_s0]) by
    refine go_ifeq (pc' := 49) (pcT := 54) X0 hx (hb hby at_46) rfl (by decide) (by decide) (fun c46 => ?_) (fun c46 => ?_)
    · refine go_lload (pc' := 56) X0 hx (hb hby at_54) rfl rfl ?_
      refine go_lloadN (pc' := 57) X0 hx (hb hby at_56) rfl rfl ?_
      refine go_ldc2 (pc' := 60) X0 hx hZ hown (hw _ (List.mem_of_getElem? (i := 0) rfl)) (hb hby at_57) rfl ?_
      refine go_lxor (pc' := 61) X0 hx (hb hby at_60) rfl ?_
      refine go_land (pc' := 62) X0 hx (hb hby at_61) rfl ?_
      exact J62 _  (Or.inl ⟨c46, rfl⟩)
    · refine go_lload (pc' := 51) X0 hx (hb hby at_49) rfl rfl ?_
      refine go_goto (pc' := 62) X0 hx (hb hby at_51) (by decide) (by decide) ?_
      exact J62 _  (Or.inr ⟨c46, rfl⟩)
  intro m62_s0 j62
  refine go_lstore (pc' := 64) (L' := #[.val (.long q0), .second, .val (.long q1), .second, .val (.long q2), .second, .val (.int p3), .val (.int p4), .val (.int v8_7), .val (.int v9_16), .val (.int v10_25), .val (.int m42_s0), .val (.long m62_s0), .second, .unset, .unset, .unset, .unset, .unset, .unset, .unset]) X0 hx (hb hby at_62) rfl rfl ?_
  refine go_bipush (pc' := 66) (v := 8) X0 hx (hb hby at_64) rfl rfl ?_
  refine go_newZ (pc' := 68) (cap := 8) (n := 8) (cells' := 1) (slots' := 8) X0 hx hZ (hw _ (List.mem_of_getElem? (i := 1) rfl)) (hb hby at_66) rfl rfl (by decide) (by decide) (by decide) (by decide) (by decide) rfl rfl (fun T1 h1 b1 eb1 X1 E1 A_b1 => ?_)
  have g_b1 : n0 ≤ b1 := by rw [eb1]; exact zs
  have zs := Nat.le_trans zs E1.1
  refine go_astore (pc' := 70) (L' := #[.val (.long q0), .second, .val (.long q1), .second, .val (.long q2), .second, .val (.int p3), .val (.int p4), .val (.int v8_7), .val (.int v9_16), .val (.int v10_25), .val (.int m42_s0), .val (.long m62_s0), .second, .val (.ref b1), .unset, .unset, .unset, .unset, .unset, .unset]) X1 hx (hb hby at_68) rfl rfl ?_
  refine go_aload (pc' := 72) X1 hx (hb hby at_70) rfl rfl ?_
  refine go_iconst (pc' := 73) (v := 0) X1 hx (hb hby at_72) rfl rfl ?_
  refine go_iload (pc' := 75) X1 hx (hb hby at_73) rfl rfl ?_
  refine go_iconst (pc' := 76) (v := 1) X1 hx (hb hby at_75) rfl rfl ?_
  refine go_iand (pc' := 77) X1 hx (hb hby at_76) rfl ?_
  suffices J85 : ∀ (m85_s0 : Int32), (((p4 &&& (1 : Int32)) = (0 : Int32) ∧ m85_s0 = (0 : Int32)) ∨ (¬ (p4 &&& (1 : Int32)) = (0 : Int32) ∧ m85_s0 = (1 : Int32))) → GoK p e below (DoneK s below n0 room_1.cells room_1.slots (QI (fun z _ => z = 1))) T1 (mkF m 85 #[.val (.long q0), .second, .val (.long q1), .second, .val (.long q2), .second, .val (.int p3), .val (.int p4), .val (.int v8_7), .val (.int v9_16), .val (.int v10_25), .val (.int m42_s0), .val (.long m62_s0), .second, .val (.ref b1), .unset, .unset, .unset, .unset, .unset, .unset] [.int m85_s0, .int (0 : Int32), .ref b1]) by
    refine go_ifeq (pc' := 80) (pcT := 84) X1 hx (hb hby at_77) rfl (by decide) (by decide) (fun c77 => ?_) (fun c77 => ?_)
    · refine go_iconst (pc' := 85) (v := 0) X1 hx (hb hby at_84) rfl rfl ?_
      exact J85 _  (Or.inl ⟨c77, rfl⟩)
    · refine go_iconst (pc' := 81) (v := 1) X1 hx (hb hby at_80) rfl rfl ?_
      refine go_goto (pc' := 85) X1 hx (hb hby at_81) (by decide) (by decide) ?_
      exact J85 _  (Or.inr ⟨c77, rfl⟩)
  intro m85_s0 j85
  refine go_bastoreZ (pc' := 86) X1 hx hZ A_b1 g_b1 (by decide) (by decide) (hb hby at_85) rfl (fun T2 h2 X2 W2 A_b1 => ?_)
  have zs := Nat.le_trans zs (Nat.le_of_eq W2.size.symm)
  refine go_aload (pc' := 88) X2 hx (hb hby at_86) rfl rfl ?_
  refine go_iconst (pc' := 89) (v := 1) X2 hx (hb hby at_88) rfl rfl ?_
  refine go_iload (pc' := 91) X2 hx (hb hby at_89) rfl rfl ?_
  refine go_iconst (pc' := 92) (v := 2) X2 hx (hb hby at_91) rfl rfl ?_
  refine go_iand (pc' := 93) X2 hx (hb hby at_92) rfl ?_
  suffices J101 : ∀ (m101_s0 : Int32), (((p4 &&& (2 : Int32)) = (0 : Int32) ∧ m101_s0 = (0 : Int32)) ∨ (¬ (p4 &&& (2 : Int32)) = (0 : Int32) ∧ m101_s0 = (1 : Int32))) → GoK p e below (DoneK s below n0 room_1.cells room_1.slots (QI (fun z _ => z = 1))) T2 (mkF m 101 #[.val (.long q0), .second, .val (.long q1), .second, .val (.long q2), .second, .val (.int p3), .val (.int p4), .val (.int v8_7), .val (.int v9_16), .val (.int v10_25), .val (.int m42_s0), .val (.long m62_s0), .second, .val (.ref b1), .unset, .unset, .unset, .unset, .unset, .unset] [.int m101_s0, .int (1 : Int32), .ref b1]) by
    refine go_ifeq (pc' := 96) (pcT := 100) X2 hx (hb hby at_93) rfl (by decide) (by decide) (fun c93 => ?_) (fun c93 => ?_)
    · refine go_iconst (pc' := 101) (v := 0) X2 hx (hb hby at_100) rfl rfl ?_
      exact J101 _  (Or.inl ⟨c93, rfl⟩)
    · refine go_iconst (pc' := 97) (v := 1) X2 hx (hb hby at_96) rfl rfl ?_
      refine go_goto (pc' := 101) X2 hx (hb hby at_97) (by decide) (by decide) ?_
      exact J101 _  (Or.inr ⟨c93, rfl⟩)
  intro m101_s0 j101
  refine go_bastoreZ (pc' := 102) X2 hx hZ A_b1 g_b1 (by decide) (by decide) (hb hby at_101) rfl (fun T3 h3 X3 W3 A_b1 => ?_)
  have zs := Nat.le_trans zs (Nat.le_of_eq W3.size.symm)
  refine go_aload (pc' := 104) X3 hx (hb hby at_102) rfl rfl ?_
  refine go_iconst (pc' := 105) (v := 2) X3 hx (hb hby at_104) rfl rfl ?_
  refine go_iload (pc' := 107) X3 hx (hb hby at_105) rfl rfl ?_
  refine go_iconst (pc' := 108) (v := 4) X3 hx (hb hby at_107) rfl rfl ?_
  refine go_iand (pc' := 109) X3 hx (hb hby at_108) rfl ?_
  suffices J117 : ∀ (m117_s0 : Int32), (((p4 &&& (4 : Int32)) = (0 : Int32) ∧ m117_s0 = (0 : Int32)) ∨ (¬ (p4 &&& (4 : Int32)) = (0 : Int32) ∧ m117_s0 = (1 : Int32))) → GoK p e below (DoneK s below n0 room_1.cells room_1.slots (QI (fun z _ => z = 1))) T3 (mkF m 117 #[.val (.long q0), .second, .val (.long q1), .second, .val (.long q2), .second, .val (.int p3), .val (.int p4), .val (.int v8_7), .val (.int v9_16), .val (.int v10_25), .val (.int m42_s0), .val (.long m62_s0), .second, .val (.ref b1), .unset, .unset, .unset, .unset, .unset, .unset] [.int m117_s0, .int (2 : Int32), .ref b1]) by
    refine go_ifeq (pc' := 112) (pcT := 116) X3 hx (hb hby at_109) rfl (by decide) (by decide) (fun c109 => ?_) (fun c109 => ?_)
    · refine go_iconst (pc' := 117) (v := 0) X3 hx (hb hby at_116) rfl rfl ?_
      exact J117 _  (Or.inl ⟨c109, rfl⟩)
    · refine go_iconst (pc' := 113) (v := 1) X3 hx (hb hby at_112) rfl rfl ?_
      refine go_goto (pc' := 117) X3 hx (hb hby at_113) (by decide) (by decide) ?_
      exact J117 _  (Or.inr ⟨c109, rfl⟩)
  intro m117_s0 j117
  refine go_bastoreZ (pc' := 118) X3 hx hZ A_b1 g_b1 (by decide) (by decide) (hb hby at_117) rfl (fun T4 h4 X4 W4 A_b1 => ?_)
  have zs := Nat.le_trans zs (Nat.le_of_eq W4.size.symm)
  refine go_aload (pc' := 120) X4 hx (hb hby at_118) rfl rfl ?_
  refine go_iconst (pc' := 121) (v := 3) X4 hx (hb hby at_120) rfl rfl ?_
  refine go_iload (pc' := 123) X4 hx (hb hby at_121) rfl rfl ?_
  refine go_bipush (pc' := 125) (v := 8) X4 hx (hb hby at_123) rfl rfl ?_
  refine go_iand (pc' := 126) X4 hx (hb hby at_125) rfl ?_
  suffices J134 : ∀ (m134_s0 : Int32), (((p4 &&& (8 : Int32)) = (0 : Int32) ∧ m134_s0 = (0 : Int32)) ∨ (¬ (p4 &&& (8 : Int32)) = (0 : Int32) ∧ m134_s0 = (1 : Int32))) → GoK p e below (DoneK s below n0 room_1.cells room_1.slots (QI (fun z _ => z = 1))) T4 (mkF m 134 #[.val (.long q0), .second, .val (.long q1), .second, .val (.long q2), .second, .val (.int p3), .val (.int p4), .val (.int v8_7), .val (.int v9_16), .val (.int v10_25), .val (.int m42_s0), .val (.long m62_s0), .second, .val (.ref b1), .unset, .unset, .unset, .unset, .unset, .unset] [.int m134_s0, .int (3 : Int32), .ref b1]) by
    refine go_ifeq (pc' := 129) (pcT := 133) X4 hx (hb hby at_126) rfl (by decide) (by decide) (fun c126 => ?_) (fun c126 => ?_)
    · refine go_iconst (pc' := 134) (v := 0) X4 hx (hb hby at_133) rfl rfl ?_
      exact J134 _  (Or.inl ⟨c126, rfl⟩)
    · refine go_iconst (pc' := 130) (v := 1) X4 hx (hb hby at_129) rfl rfl ?_
      refine go_goto (pc' := 134) X4 hx (hb hby at_130) (by decide) (by decide) ?_
      exact J134 _  (Or.inr ⟨c126, rfl⟩)
  intro m134_s0 j134
  refine go_bastoreZ (pc' := 135) X4 hx hZ A_b1 g_b1 (by decide) (by decide) (hb hby at_134) rfl (fun T5 h5 X5 W5 A_b1 => ?_)
  have zs := Nat.le_trans zs (Nat.le_of_eq W5.size.symm)
  refine go_aload (pc' := 137) X5 hx (hb hby at_135) rfl rfl ?_
  refine go_iconst (pc' := 138) (v := 4) X5 hx (hb hby at_137) rfl rfl ?_
  refine go_iload (pc' := 140) X5 hx (hb hby at_138) rfl rfl ?_
  refine go_bipush (pc' := 142) (v := 16) X5 hx (hb hby at_140) rfl rfl ?_
  refine go_iand (pc' := 143) X5 hx (hb hby at_142) rfl ?_
  suffices J151 : ∀ (m151_s0 : Int32), (((p4 &&& (16 : Int32)) = (0 : Int32) ∧ m151_s0 = (0 : Int32)) ∨ (¬ (p4 &&& (16 : Int32)) = (0 : Int32) ∧ m151_s0 = (1 : Int32))) → GoK p e below (DoneK s below n0 room_1.cells room_1.slots (QI (fun z _ => z = 1))) T5 (mkF m 151 #[.val (.long q0), .second, .val (.long q1), .second, .val (.long q2), .second, .val (.int p3), .val (.int p4), .val (.int v8_7), .val (.int v9_16), .val (.int v10_25), .val (.int m42_s0), .val (.long m62_s0), .second, .val (.ref b1), .unset, .unset, .unset, .unset, .unset, .unset] [.int m151_s0, .int (4 : Int32), .ref b1]) by
    refine go_ifeq (pc' := 146) (pcT := 150) X5 hx (hb hby at_143) rfl (by decide) (by decide) (fun c143 => ?_) (fun c143 => ?_)
    · refine go_iconst (pc' := 151) (v := 0) X5 hx (hb hby at_150) rfl rfl ?_
      exact J151 _  (Or.inl ⟨c143, rfl⟩)
    · refine go_iconst (pc' := 147) (v := 1) X5 hx (hb hby at_146) rfl rfl ?_
      refine go_goto (pc' := 151) X5 hx (hb hby at_147) (by decide) (by decide) ?_
      exact J151 _  (Or.inr ⟨c143, rfl⟩)
  intro m151_s0 j151
  refine go_bastoreZ (pc' := 152) X5 hx hZ A_b1 g_b1 (by decide) (by decide) (hb hby at_151) rfl (fun T6 h6 X6 W6 A_b1 => ?_)
  have zs := Nat.le_trans zs (Nat.le_of_eq W6.size.symm)
  refine go_aload (pc' := 154) X6 hx (hb hby at_152) rfl rfl ?_
  refine go_iconst (pc' := 155) (v := 5) X6 hx (hb hby at_154) rfl rfl ?_
  refine go_iload (pc' := 157) X6 hx (hb hby at_155) rfl rfl ?_
  refine go_bipush (pc' := 159) (v := 32) X6 hx (hb hby at_157) rfl rfl ?_
  refine go_iand (pc' := 160) X6 hx (hb hby at_159) rfl ?_
  suffices J168 : ∀ (m168_s0 : Int32), (((p4 &&& (32 : Int32)) = (0 : Int32) ∧ m168_s0 = (0 : Int32)) ∨ (¬ (p4 &&& (32 : Int32)) = (0 : Int32) ∧ m168_s0 = (1 : Int32))) → GoK p e below (DoneK s below n0 room_1.cells room_1.slots (QI (fun z _ => z = 1))) T6 (mkF m 168 #[.val (.long q0), .second, .val (.long q1), .second, .val (.long q2), .second, .val (.int p3), .val (.int p4), .val (.int v8_7), .val (.int v9_16), .val (.int v10_25), .val (.int m42_s0), .val (.long m62_s0), .second, .val (.ref b1), .unset, .unset, .unset, .unset, .unset, .unset] [.int m168_s0, .int (5 : Int32), .ref b1]) by
    refine go_ifeq (pc' := 163) (pcT := 167) X6 hx (hb hby at_160) rfl (by decide) (by decide) (fun c160 => ?_) (fun c160 => ?_)
    · refine go_iconst (pc' := 168) (v := 0) X6 hx (hb hby at_167) rfl rfl ?_
      exact J168 _  (Or.inl ⟨c160, rfl⟩)
    · refine go_iconst (pc' := 164) (v := 1) X6 hx (hb hby at_163) rfl rfl ?_
      refine go_goto (pc' := 168) X6 hx (hb hby at_164) (by decide) (by decide) ?_
      exact J168 _  (Or.inr ⟨c160, rfl⟩)
  intro m168_s0 j168
  refine go_bastoreZ (pc' := 169) X6 hx hZ A_b1 g_b1 (by decide) (by decide) (hb hby at_168) rfl (fun T7 h7 X7 W7 A_b1 => ?_)
  have zs := Nat.le_trans zs (Nat.le_of_eq W7.size.symm)
  refine go_aload (pc' := 171) X7 hx (hb hby at_169) rfl rfl ?_
  refine go_bipush (pc' := 173) (v := 6) X7 hx (hb hby at_171) rfl rfl ?_
  refine go_iload (pc' := 175) X7 hx (hb hby at_173) rfl rfl ?_
  refine go_bipush (pc' := 177) (v := 64) X7 hx (hb hby at_175) rfl rfl ?_
  refine go_iand (pc' := 178) X7 hx (hb hby at_177) rfl ?_
  suffices J186 : ∀ (m186_s0 : Int32), (((p4 &&& (64 : Int32)) = (0 : Int32) ∧ m186_s0 = (0 : Int32)) ∨ (¬ (p4 &&& (64 : Int32)) = (0 : Int32) ∧ m186_s0 = (1 : Int32))) → GoK p e below (DoneK s below n0 room_1.cells room_1.slots (QI (fun z _ => z = 1))) T7 (mkF m 186 #[.val (.long q0), .second, .val (.long q1), .second, .val (.long q2), .second, .val (.int p3), .val (.int p4), .val (.int v8_7), .val (.int v9_16), .val (.int v10_25), .val (.int m42_s0), .val (.long m62_s0), .second, .val (.ref b1), .unset, .unset, .unset, .unset, .unset, .unset] [.int m186_s0, .int (6 : Int32), .ref b1]) by
    refine go_ifeq (pc' := 181) (pcT := 185) X7 hx (hb hby at_178) rfl (by decide) (by decide) (fun c178 => ?_) (fun c178 => ?_)
    · refine go_iconst (pc' := 186) (v := 0) X7 hx (hb hby at_185) rfl rfl ?_
      exact J186 _  (Or.inl ⟨c178, rfl⟩)
    · refine go_iconst (pc' := 182) (v := 1) X7 hx (hb hby at_181) rfl rfl ?_
      refine go_goto (pc' := 186) X7 hx (hb hby at_182) (by decide) (by decide) ?_
      exact J186 _  (Or.inr ⟨c178, rfl⟩)
  intro m186_s0 j186
  refine go_bastoreZ (pc' := 187) X7 hx hZ A_b1 g_b1 (by decide) (by decide) (hb hby at_186) rfl (fun T8 h8 X8 W8 A_b1 => ?_)
  have zs := Nat.le_trans zs (Nat.le_of_eq W8.size.symm)
  refine go_aload (pc' := 189) X8 hx (hb hby at_187) rfl rfl ?_
  refine go_bipush (pc' := 191) (v := 7) X8 hx (hb hby at_189) rfl rfl ?_
  refine go_iload (pc' := 193) X8 hx (hb hby at_191) rfl rfl ?_
  refine go_sipush (pc' := 196) (v := 128) X8 hx (hb hby at_193) rfl rfl ?_
  refine go_iand (pc' := 197) X8 hx (hb hby at_196) rfl ?_
  suffices J205 : ∀ (m205_s0 : Int32), (((p4 &&& (128 : Int32)) = (0 : Int32) ∧ m205_s0 = (0 : Int32)) ∨ (¬ (p4 &&& (128 : Int32)) = (0 : Int32) ∧ m205_s0 = (1 : Int32))) → GoK p e below (DoneK s below n0 room_1.cells room_1.slots (QI (fun z _ => z = 1))) T8 (mkF m 205 #[.val (.long q0), .second, .val (.long q1), .second, .val (.long q2), .second, .val (.int p3), .val (.int p4), .val (.int v8_7), .val (.int v9_16), .val (.int v10_25), .val (.int m42_s0), .val (.long m62_s0), .second, .val (.ref b1), .unset, .unset, .unset, .unset, .unset, .unset] [.int m205_s0, .int (7 : Int32), .ref b1]) by
    refine go_ifeq (pc' := 200) (pcT := 204) X8 hx (hb hby at_197) rfl (by decide) (by decide) (fun c197 => ?_) (fun c197 => ?_)
    · refine go_iconst (pc' := 205) (v := 0) X8 hx (hb hby at_204) rfl rfl ?_
      exact J205 _  (Or.inl ⟨c197, rfl⟩)
    · refine go_iconst (pc' := 201) (v := 1) X8 hx (hb hby at_200) rfl rfl ?_
      refine go_goto (pc' := 205) X8 hx (hb hby at_201) (by decide) (by decide) ?_
      exact J205 _  (Or.inr ⟨c197, rfl⟩)
  intro m205_s0 j205
  refine go_bastoreZ (pc' := 206) X8 hx hZ A_b1 g_b1 (by decide) (by decide) (hb hby at_205) rfl (fun T9 h9 X9 W9 A_b1 => ?_)
  have zs := Nat.le_trans zs (Nat.le_of_eq W9.size.symm)
  have hA : AIK Z h9 b1 .boolean 8 (own_bits p4) := by
    refine AIK.congr A_b1 (fun i i1 i2 => ?_)
    have k0 : (0 : Int32).toInt = 0 := rfl
    have k1 : (1 : Int32).toInt = 1 := rfl
    have k2 : (2 : Int32).toInt = 2 := rfl
    have k3 : (3 : Int32).toInt = 3 := rfl
    have k4 : (4 : Int32).toInt = 4 := rfl
    have k5 : (5 : Int32).toInt = 5 := rfl
    have k6 : (6 : Int32).toInt = 6 := rfl
    have k7 : (7 : Int32).toInt = 7 := rfl
    rw [k0, k1, k2, k3, k4, k5, k6, k7]
    rw [own_jb j85, own_jb j101, own_jb j117, own_jb j134, own_jb j151, own_jb j168, own_jb j186, own_jb j205]
    rcases (by omega : i = 0 ∨ i = 1 ∨ i = 2 ∨ i = 3 ∨ i = 4 ∨ i = 5 ∨ i = 6 ∨ i = 7) with rfl | rfl | rfl | rfl | rfl | rfl | rfl | rfl
    all_goals rfl
  replace A_b1 := hA
  refine go_new (pc' := 209) (cells' := 2) (slots' := 14) X9 hx hZ hown (hw _ (List.mem_of_getElem? (i := 2) rfl)) (hw _ (List.mem_of_getElem? (i := 3) rfl)) (hw _ (List.mem_of_getElem? (i := 4) rfl)) (hb hby at_206) rfl (by decide) (by decide) rfl rfl (fun T10 h10 b10 eb10 X10 E10 E_b10 Dv10 => ?_)
  have g_b10 : n0 ≤ b10 := by rw [eb10]; exact zs
  have ne_b1_b10 : b1 ≠ b10 := by rw [eb10]; exact Nat.ne_of_lt (A_b1.lt)
  have ne_b10_b1 := ne_b1_b10.symm
  have A_b1 := A_b1.ext E10
  have zs := Nat.le_trans zs E10.1
  have F_b10_expected : Fld Z h10 b10 "com/example/denary/denary/SeparatedWalk$Member" "expected" "J" (.long (0 : Int64)) := Dv10 (Or.inr (hw _ (List.mem_of_getElem? (i := 17) rfl))) (ty := .long) (by decide)
  have F_b10_checked : Fld Z h10 b10 "com/example/denary/denary/SeparatedWalk$Member" "checked" "J" (.long (0 : Int64)) := Dv10 (Or.inr (hw _ (List.mem_of_getElem? (i := 19) rfl))) (ty := .long) (by decide)
  have F_b10_shift : Fld Z h10 b10 "com/example/denary/denary/SeparatedWalk$Member" "shift" "I" (.int (0 : Int32)) := Dv10 (Or.inr (hw _ (List.mem_of_getElem? (i := 21) rfl))) (ty := .int) (by decide)
  have F_b10_rowCount : Fld Z h10 b10 "com/example/denary/denary/SeparatedWalk$Member" "rowCount" "I" (.int (0 : Int32)) := Dv10 (Or.inr (hw _ (List.mem_of_getElem? (i := 23) rfl))) (ty := .int) (by decide)
  have F_b10_width : Fld Z h10 b10 "com/example/denary/denary/SeparatedWalk$Member" "width" "I" (.int (0 : Int32)) := Dv10 (Or.inr (hw _ (List.mem_of_getElem? (i := 25) rfl))) (ty := .int) (by decide)
  have F_b10_multiples : Fld Z h10 b10 "com/example/denary/denary/SeparatedWalk$Member" "multiples" "[Z" (.null) := Dv10 (Or.inr (hw _ (List.mem_of_getElem? (i := 27) rfl))) (ty := (.array .boolean)) (by decide)
  refine go_dup (pc' := 210) X10 hx (hb hby at_209) rfl rfl ?_
  refine go_lloadN (pc' := 211) X10 hx (hb hby at_210) rfl rfl ?_
  refine go_lload (pc' := 213) X10 hx (hb hby at_211) rfl rfl ?_
  refine go_iload (pc' := 215) X10 hx (hb hby at_213) rfl rfl ?_
  refine go_iload (pc' := 217) X10 hx (hb hby at_215) rfl rfl ?_
  refine go_iload (pc' := 219) X10 hx (hb hby at_217) rfl rfl ?_
  refine go_aload (pc' := 221) X10 hx (hb hby at_219) rfl rfl ?_
  refine go_callC (pc' := 224) (W := 1) (cells' := 2) (slots' := 14) (rm := ({ frames := 2, cells := 0, slots := 0, locals := 24 } : Room)) (aL := [.long q0, .long m62_s0, .int v9_16, .int v10_25, .int v8_7, .ref b1]) (St := [.ref b10]) X10 hx hZ hown (by rw [hml]; rfl) rfl (hw _ (List.mem_of_getElem? (i := 5) rfl)) (hw _ (List.mem_of_getElem? (i := 6) rfl)) (hw _ (List.mem_of_getElem? (i := 4) rfl)) (hw _ (List.mem_of_getElem? (i := 7) rfl)) (by decide) pd_1 rfl (ct_1 l Z a0 hw zs b10 q0 m62_s0 v9_16 v10_25 v8_7 b1 _ _ _ _ _ _ E_b10 g_b10 F_b10_expected F_b10_checked F_b10_shift F_b10_rowCount F_b10_width F_b10_multiples ) (hb hby at_221) rfl (by decide) (Nat.le_of_eq rfl) (by decide) (by decide) (by decide) rfl rfl (fun T11 h11 v11 X11 Q11 => ?_) rfl
  obtain ⟨rfl, Kc11, Ec11, Fc11_expected, Fc11_checked, Fc11_shift, Fc11_rowCount, Fc11_width, Fc11_multiples⟩ := Q11
  have A_b1 := A_b1.keep Kc11 (ninS ne_b1_b10 nin0)
  have zs := Nat.le_trans zs Kc11.1
  show GoK p e below _ T11 (mkF m 224 #[.val (.long q0), .second, .val (.long q1), .second, .val (.long q2), .second, .val (.int p3), .val (.int p4), .val (.int v8_7), .val (.int v9_16), .val (.int v10_25), .val (.int m42_s0), .val (.long m62_s0), .second, .val (.ref b1), .unset, .unset, .unset, .unset, .unset, .unset] [.ref b10])
  refine go_astore (pc' := 226) (L' := #[.val (.long q0), .second, .val (.long q1), .second, .val (.long q2), .second, .val (.int p3), .val (.int p4), .val (.int v8_7), .val (.int v9_16), .val (.int v10_25), .val (.int m42_s0), .val (.long m62_s0), .second, .val (.ref b1), .val (.ref b10), .unset, .unset, .unset, .unset, .unset]) X11 hx (hb hby at_224) rfl rfl ?_
  refine go_aload (pc' := 228) X11 hx (hb hby at_226) rfl rfl ?_
  refine go_lloadN (pc' := 229) X11 hx (hb hby at_228) rfl rfl ?_
  refine go_lloadN (pc' := 230) X11 hx (hb hby at_229) rfl rfl ?_
  refine go_ladd (pc' := 231) X11 hx (hb hby at_230) rfl ?_
  refine go_callV (pc' := 234) (W := 0) (cells' := 2) (slots' := 14) (rm := ({ frames := 0, cells := 0, slots := 0, locals := 0 } : Room)) (aL := [.long (q0 + q1)]) (St := []) X11 hx hZ hown (by rw [hml]; rfl) Ec11 (hw _ (List.mem_of_getElem? (i := 28) rfl)) (hw _ (List.mem_of_getElem? (i := 29) rfl)) (hw _ (List.mem_of_getElem? (i := 31) rfl)) (hw _ (List.mem_of_getElem? (i := 30) rfl)) (hw _ (List.mem_of_getElem? (i := 4) rfl)) (hw _ (List.mem_of_getElem? (i := 32) rfl)) (by decide) pd_2 rfl (ct_4 l Z a0 hw zs b10 (q0 + q1) q0 m62_s0 v9_16 v10_25 v8_7 b1 _ Fc11_expected Fc11_checked Fc11_shift Fc11_rowCount Fc11_width Fc11_multiples A_b1 wd1 wd8 rc0) (hb hby at_231) rfl (by decide) (Nat.le_of_eq rfl) (by decide) (by decide) (by decide) rfl rfl (fun T12 h12 v12 X12 Q12 => ?_) rfl
  obtain ⟨z12, rfl, hz12, eh12⟩ := Q12
  subst h12
  show GoK p e below _ T12 (mkF m 234 #[.val (.long q0), .second, .val (.long q1), .second, .val (.long q2), .second, .val (.int p3), .val (.int p4), .val (.int v8_7), .val (.int v9_16), .val (.int v10_25), .val (.int m42_s0), .val (.long m62_s0), .second, .val (.ref b1), .val (.ref b10), .unset, .unset, .unset, .unset, .unset] [.int z12])
  refine go_istore (pc' := 236) (L' := #[.val (.long q0), .second, .val (.long q1), .second, .val (.long q2), .second, .val (.int p3), .val (.int p4), .val (.int v8_7), .val (.int v9_16), .val (.int v10_25), .val (.int m42_s0), .val (.long m62_s0), .second, .val (.ref b1), .val (.ref b10), .val (.int z12), .unset, .unset, .unset, .unset]) X12 hx (hb hby at_234) rfl rfl ?_
  rw [own_rest] at hz12
  refine go_lloadN (pc' := 237) X12 hx (hb hby at_236) rfl rfl ?_
  refine go_lload (pc' := 239) X12 hx (hb hby at_237) rfl rfl ?_
  refine go_land (pc' := 240) X12 hx (hb hby at_239) rfl ?_
  refine go_lconst (pc' := 241) (v := 0) X12 hx (hb hby at_240) rfl rfl ?_
  refine go_lifeq (pc1 := 242) (pc' := 245) (pcT := 251) X12 hx (hb hby at_241) rfl (hb hby at_242) rfl (by decide) (by decide) (fun c242 => ?_) (fun c242 => ?_)
  · suffices JH276 : ∀ (T13 : State) (h13 : Heap) (x18 : Int32), OnK p l e room_1 s m #[.long q0, .long q1, .long q2, .int p3, .int p4] below meth c n0 T13 h13 2 14 → n0 ≤ h13.size → ((x18 = 1 ∧ (0 < v10_25.toInt → own_good q1 v9_16 v8_7 (own_bits p4))) ∨ (x18 = 0 ∧ 0 < v10_25.toInt ∧ ¬ own_good q1 v9_16 v8_7 (own_bits p4))) → GoK p e below (DoneK s below n0 room_1.cells room_1.slots (QI (fun z _ => z = 1))) T13 (mkF m 276 #[.val (.long q0), .second, .val (.long q1), .second, .val (.long q2), .second, .val (.int p3), .val (.int p4), .val (.int v8_7), .val (.int v9_16), .val (.int v10_25), .val (.int m42_s0), .val (.long m62_s0), .second, .val (.ref b1), .val (.ref b10), .val (.int z12), .unset, .val (.int x18), .unset, .unset] []) by
      refine go_iload (pc' := 253) X12 hx (hb hby at_251) rfl rfl ?_
      refine go_ifle (pc' := 256) (pcT := 269) X12 hx (hb hby at_253) rfl (by decide) (by decide) (fun c253_t => ?_) (fun c253_t => ?_)
      · refine go_iconst (pc' := 270) (v := 1) X12 hx (hb hby at_269) rfl rfl ?_
        refine go_goto (pc' := 274) X12 hx (hb hby at_270) (by decide) (by decide) ?_
        refine go_istore (pc' := 276) (L' := #[.val (.long q0), .second, .val (.long q1), .second, .val (.long q2), .second, .val (.int p3), .val (.int p4), .val (.int v8_7), .val (.int v9_16), .val (.int v10_25), .val (.int m42_s0), .val (.long m62_s0), .second, .val (.ref b1), .val (.ref b10), .val (.int z12), .unset, .val (.int (1 : Int32)), .unset, .unset]) X12 hx (hb hby at_274) rfl rfl ?_
        refine JH276 T12 h11 (1 : Int32) X12 zs ?_
        · have k0 := own_k0
          have k1 := own_k1
          have k2 := own_k2
          have q := own_geI c253_t
          exact Or.inl ⟨rfl, fun w => by omega⟩
      · refine go_lloadN (pc' := 257) X12 hx (hb hby at_256) rfl rfl ?_
        refine go_iload (pc' := 259) X12 hx (hb hby at_257) rfl rfl ?_
        refine go_iload (pc' := 261) X12 hx (hb hby at_259) rfl rfl ?_
        refine go_iload (pc' := 263) X12 hx (hb hby at_261) rfl rfl ?_
        refine go_callS (pc' := 266) (W := 0) (cells' := 2) (slots' := 14) (rm := ({ frames := 0, cells := 0, slots := 0, locals := 0 } : Room)) (aL := [.long q1, .int v9_16, .int v8_7, .int p4]) (St := []) X12 hx hZ hown (by rw [hml]; rfl) (hw _ (List.mem_of_getElem? (i := 33) rfl)) (hw _ (List.mem_of_getElem? (i := 34) rfl)) (hw _ (List.mem_of_getElem? (i := 35) rfl)) (hw _ (List.mem_of_getElem? (i := 36) rfl)) (by decide) pd_3 rfl (ct_5 l Z a0 hw zs q1 v9_16 v8_7 p4) (hb hby at_263) rfl (by decide) (Nat.le_of_eq rfl) (by decide) (by decide) (by decide) rfl rfl (fun T14 h14 v14 X14 Q14 => ?_) rfl
        obtain ⟨z14, rfl, hz14, eh14⟩ := Q14
        subst h14
        show GoK p e below _ T14 (mkF m 266 #[.val (.long q0), .second, .val (.long q1), .second, .val (.long q2), .second, .val (.int p3), .val (.int p4), .val (.int v8_7), .val (.int v9_16), .val (.int v10_25), .val (.int m42_s0), .val (.long m62_s0), .second, .val (.ref b1), .val (.ref b10), .val (.int z12), .unset, .unset, .unset, .unset] [.int z14])
        refine go_ifeq (pc' := 269) (pcT := 273) X14 hx (hb hby at_266) rfl (by decide) (by decide) (fun c266_tf => ?_) (fun c266_tf => ?_)
        · refine go_iconst (pc' := 274) (v := 0) X14 hx (hb hby at_273) rfl rfl ?_
          refine go_istore (pc' := 276) (L' := #[.val (.long q0), .second, .val (.long q1), .second, .val (.long q2), .second, .val (.int p3), .val (.int p4), .val (.int v8_7), .val (.int v9_16), .val (.int v10_25), .val (.int m42_s0), .val (.long m62_s0), .second, .val (.ref b1), .val (.ref b10), .val (.int z12), .unset, .val (.int (0 : Int32)), .unset, .unset]) X14 hx (hb hby at_274) rfl rfl ?_
          refine JH276 T14 h11 (0 : Int32) X14 zs ?_
          · have k0 := own_k0
            have k1 := own_k1
            have k2 := own_k2
            have q := own_ltI c253_t
            rw [own_eq _ _ _ _ wd1 wd8] at hz14
            rcases hz14 with ⟨a, b⟩ | ⟨a, b⟩
            · exfalso; rw [a] at c266_tf; revert c266_tf; decide
            · exact Or.inr ⟨rfl, by omega, b⟩
        · refine go_iconst (pc' := 270) (v := 1) X14 hx (hb hby at_269) rfl rfl ?_
          refine go_goto (pc' := 274) X14 hx (hb hby at_270) (by decide) (by decide) ?_
          refine go_istore (pc' := 276) (L' := #[.val (.long q0), .second, .val (.long q1), .second, .val (.long q2), .second, .val (.int p3), .val (.int p4), .val (.int v8_7), .val (.int v9_16), .val (.int v10_25), .val (.int m42_s0), .val (.long m62_s0), .second, .val (.ref b1), .val (.ref b10), .val (.int z12), .unset, .val (.int (1 : Int32)), .unset, .unset]) X14 hx (hb hby at_274) rfl rfl ?_
          refine JH276 T14 h11 (1 : Int32) X14 zs ?_
          · have k0 := own_k0
            have k1 := own_k1
            have k2 := own_k2
            have q := own_ltI c253_t
            rw [own_eq _ _ _ _ wd1 wd8] at hz14
            rcases hz14 with ⟨a, b⟩ | ⟨a, b⟩
            · exact Or.inl ⟨rfl, fun _ => b⟩
            · exact absurd a c266_tf
    intro T13 h13 x18 X13 zs jh276
    suffices JH305 : ∀ (T15 : State) (h15 : Heap) (x19 : Int32), OnK p l e room_1 s m #[.long q0, .long q1, .long q2, .int p3, .int p4] below meth c n0 T15 h15 2 14 → n0 ≤ h15.size → ((x19 = 1 ∧ (1 < v10_25.toInt → own_good q1 (v9_16 + v8_7) v8_7 (own_bits p4))) ∨ (x19 = 0 ∧ 1 < v10_25.toInt ∧ ¬ own_good q1 (v9_16 + v8_7) v8_7 (own_bits p4))) → GoK p e below (DoneK s below n0 room_1.cells room_1.slots (QI (fun z _ => z = 1))) T15 (mkF m 305 #[.val (.long q0), .second, .val (.long q1), .second, .val (.long q2), .second, .val (.int p3), .val (.int p4), .val (.int v8_7), .val (.int v9_16), .val (.int v10_25), .val (.int m42_s0), .val (.long m62_s0), .second, .val (.ref b1), .val (.ref b10), .val (.int z12), .unset, .val (.int x18), .val (.int x19), .unset] []) by
      refine go_iload (pc' := 278) X13 hx (hb hby at_276) rfl rfl ?_
      refine go_iconst (pc' := 279) (v := 1) X13 hx (hb hby at_278) rfl rfl ?_
      refine go_icmple (pc' := 282) (pcT := 298) X13 hx (hb hby at_279) rfl (by decide) (by decide) (fun c279_t => ?_) (fun c279_t => ?_)
      · refine go_iconst (pc' := 299) (v := 1) X13 hx (hb hby at_298) rfl rfl ?_
        refine go_goto (pc' := 303) X13 hx (hb hby at_299) (by decide) (by decide) ?_
        refine go_istore (pc' := 305) (L' := #[.val (.long q0), .second, .val (.long q1), .second, .val (.long q2), .second, .val (.int p3), .val (.int p4), .val (.int v8_7), .val (.int v9_16), .val (.int v10_25), .val (.int m42_s0), .val (.long m62_s0), .second, .val (.ref b1), .val (.ref b10), .val (.int z12), .unset, .val (.int x18), .val (.int (1 : Int32)), .unset]) X13 hx (hb hby at_303) rfl rfl ?_
        refine JH305 T13 h13 (1 : Int32) X13 zs ?_
        · have k0 := own_k0
          have k1 := own_k1
          have k2 := own_k2
          have q := own_geI c279_t
          exact Or.inl ⟨rfl, fun w => by omega⟩
      · refine go_lloadN (pc' := 283) X13 hx (hb hby at_282) rfl rfl ?_
        refine go_iload (pc' := 285) X13 hx (hb hby at_283) rfl rfl ?_
        refine go_iload (pc' := 287) X13 hx (hb hby at_285) rfl rfl ?_
        refine go_iadd (pc' := 288) X13 hx (hb hby at_287) rfl ?_
        refine go_iload (pc' := 290) X13 hx (hb hby at_288) rfl rfl ?_
        refine go_iload (pc' := 292) X13 hx (hb hby at_290) rfl rfl ?_
        refine go_callS (pc' := 295) (W := 0) (cells' := 2) (slots' := 14) (rm := ({ frames := 0, cells := 0, slots := 0, locals := 0 } : Room)) (aL := [.long q1, .int (v9_16 + v8_7), .int v8_7, .int p4]) (St := []) X13 hx hZ hown (by rw [hml]; rfl) (hw _ (List.mem_of_getElem? (i := 33) rfl)) (hw _ (List.mem_of_getElem? (i := 34) rfl)) (hw _ (List.mem_of_getElem? (i := 35) rfl)) (hw _ (List.mem_of_getElem? (i := 36) rfl)) (by decide) pd_3 rfl (ct_5 l Z a0 hw zs q1 (v9_16 + v8_7) v8_7 p4) (hb hby at_292) rfl (by decide) (Nat.le_of_eq rfl) (by decide) (by decide) (by decide) rfl rfl (fun T16 h16 v16 X16 Q16 => ?_) rfl
        obtain ⟨z16, rfl, hz16, eh16⟩ := Q16
        subst h16
        show GoK p e below _ T16 (mkF m 295 #[.val (.long q0), .second, .val (.long q1), .second, .val (.long q2), .second, .val (.int p3), .val (.int p4), .val (.int v8_7), .val (.int v9_16), .val (.int v10_25), .val (.int m42_s0), .val (.long m62_s0), .second, .val (.ref b1), .val (.ref b10), .val (.int z12), .unset, .val (.int x18), .unset, .unset] [.int z16])
        refine go_ifeq (pc' := 298) (pcT := 302) X16 hx (hb hby at_295) rfl (by decide) (by decide) (fun c295_tf => ?_) (fun c295_tf => ?_)
        · refine go_iconst (pc' := 303) (v := 0) X16 hx (hb hby at_302) rfl rfl ?_
          refine go_istore (pc' := 305) (L' := #[.val (.long q0), .second, .val (.long q1), .second, .val (.long q2), .second, .val (.int p3), .val (.int p4), .val (.int v8_7), .val (.int v9_16), .val (.int v10_25), .val (.int m42_s0), .val (.long m62_s0), .second, .val (.ref b1), .val (.ref b10), .val (.int z12), .unset, .val (.int x18), .val (.int (0 : Int32)), .unset]) X16 hx (hb hby at_303) rfl rfl ?_
          refine JH305 T16 h13 (0 : Int32) X16 zs ?_
          · have k0 := own_k0
            have k1 := own_k1
            have k2 := own_k2
            have q := own_ltI c279_t
            rw [own_eq _ _ _ _ wd1 wd8] at hz16
            rcases hz16 with ⟨a, b⟩ | ⟨a, b⟩
            · exfalso; rw [a] at c295_tf; revert c295_tf; decide
            · exact Or.inr ⟨rfl, by omega, b⟩
        · refine go_iconst (pc' := 299) (v := 1) X16 hx (hb hby at_298) rfl rfl ?_
          refine go_goto (pc' := 303) X16 hx (hb hby at_299) (by decide) (by decide) ?_
          refine go_istore (pc' := 305) (L' := #[.val (.long q0), .second, .val (.long q1), .second, .val (.long q2), .second, .val (.int p3), .val (.int p4), .val (.int v8_7), .val (.int v9_16), .val (.int v10_25), .val (.int m42_s0), .val (.long m62_s0), .second, .val (.ref b1), .val (.ref b10), .val (.int z12), .unset, .val (.int x18), .val (.int (1 : Int32)), .unset]) X16 hx (hb hby at_303) rfl rfl ?_
          refine JH305 T16 h13 (1 : Int32) X16 zs ?_
          · have k0 := own_k0
            have k1 := own_k1
            have k2 := own_k2
            have q := own_ltI c279_t
            rw [own_eq _ _ _ _ wd1 wd8] at hz16
            rcases hz16 with ⟨a, b⟩ | ⟨a, b⟩
            · exact Or.inl ⟨rfl, fun _ => b⟩
            · exact absurd a c295_tf
    intro T15 h15 x19 X15 zs jh305
    suffices JH336 : ∀ (T17 : State) (h17 : Heap) (x20 : Int32), OnK p l e room_1 s m #[.long q0, .long q1, .long q2, .int p3, .int p4] below meth c n0 T17 h17 2 14 → n0 ≤ h17.size → ((x20 = 1 ∧ (2 < v10_25.toInt → own_good q1 (v9_16 + 2 * v8_7) v8_7 (own_bits p4))) ∨ (x20 = 0 ∧ 2 < v10_25.toInt ∧ ¬ own_good q1 (v9_16 + 2 * v8_7) v8_7 (own_bits p4))) → GoK p e below (DoneK s below n0 room_1.cells room_1.slots (QI (fun z _ => z = 1))) T17 (mkF m 336 #[.val (.long q0), .second, .val (.long q1), .second, .val (.long q2), .second, .val (.int p3), .val (.int p4), .val (.int v8_7), .val (.int v9_16), .val (.int v10_25), .val (.int m42_s0), .val (.long m62_s0), .second, .val (.ref b1), .val (.ref b10), .val (.int z12), .unset, .val (.int x18), .val (.int x19), .val (.int x20)] []) by
      refine go_iload (pc' := 307) X15 hx (hb hby at_305) rfl rfl ?_
      refine go_iconst (pc' := 308) (v := 2) X15 hx (hb hby at_307) rfl rfl ?_
      refine go_icmple (pc' := 311) (pcT := 329) X15 hx (hb hby at_308) rfl (by decide) (by decide) (fun c308_t => ?_) (fun c308_t => ?_)
      · refine go_iconst (pc' := 330) (v := 1) X15 hx (hb hby at_329) rfl rfl ?_
        refine go_goto (pc' := 334) X15 hx (hb hby at_330) (by decide) (by decide) ?_
        refine go_istore (pc' := 336) (L' := #[.val (.long q0), .second, .val (.long q1), .second, .val (.long q2), .second, .val (.int p3), .val (.int p4), .val (.int v8_7), .val (.int v9_16), .val (.int v10_25), .val (.int m42_s0), .val (.long m62_s0), .second, .val (.ref b1), .val (.ref b10), .val (.int z12), .unset, .val (.int x18), .val (.int x19), .val (.int (1 : Int32))]) X15 hx (hb hby at_334) rfl rfl ?_
        refine JH336 T15 h15 (1 : Int32) X15 zs ?_
        · have k0 := own_k0
          have k1 := own_k1
          have k2 := own_k2
          have q := own_geI c308_t
          exact Or.inl ⟨rfl, fun w => by omega⟩
      · refine go_lloadN (pc' := 312) X15 hx (hb hby at_311) rfl rfl ?_
        refine go_iload (pc' := 314) X15 hx (hb hby at_312) rfl rfl ?_
        refine go_iconst (pc' := 315) (v := 2) X15 hx (hb hby at_314) rfl rfl ?_
        refine go_iload (pc' := 317) X15 hx (hb hby at_315) rfl rfl ?_
        refine go_imul (pc' := 318) X15 hx (hb hby at_317) rfl ?_
        refine go_iadd (pc' := 319) X15 hx (hb hby at_318) rfl ?_
        refine go_iload (pc' := 321) X15 hx (hb hby at_319) rfl rfl ?_
        refine go_iload (pc' := 323) X15 hx (hb hby at_321) rfl rfl ?_
        refine go_callS (pc' := 326) (W := 0) (cells' := 2) (slots' := 14) (rm := ({ frames := 0, cells := 0, slots := 0, locals := 0 } : Room)) (aL := [.long q1, .int (v9_16 + ((2 : Int32) * v8_7)), .int v8_7, .int p4]) (St := []) X15 hx hZ hown (by rw [hml]; rfl) (hw _ (List.mem_of_getElem? (i := 33) rfl)) (hw _ (List.mem_of_getElem? (i := 34) rfl)) (hw _ (List.mem_of_getElem? (i := 35) rfl)) (hw _ (List.mem_of_getElem? (i := 36) rfl)) (by decide) pd_3 rfl (ct_5 l Z a0 hw zs q1 (v9_16 + ((2 : Int32) * v8_7)) v8_7 p4) (hb hby at_323) rfl (by decide) (Nat.le_of_eq rfl) (by decide) (by decide) (by decide) rfl rfl (fun T18 h18 v18 X18 Q18 => ?_) rfl
        obtain ⟨z18, rfl, hz18, eh18⟩ := Q18
        subst h18
        show GoK p e below _ T18 (mkF m 326 #[.val (.long q0), .second, .val (.long q1), .second, .val (.long q2), .second, .val (.int p3), .val (.int p4), .val (.int v8_7), .val (.int v9_16), .val (.int v10_25), .val (.int m42_s0), .val (.long m62_s0), .second, .val (.ref b1), .val (.ref b10), .val (.int z12), .unset, .val (.int x18), .val (.int x19), .unset] [.int z18])
        refine go_ifeq (pc' := 329) (pcT := 333) X18 hx (hb hby at_326) rfl (by decide) (by decide) (fun c326_tf => ?_) (fun c326_tf => ?_)
        · refine go_iconst (pc' := 334) (v := 0) X18 hx (hb hby at_333) rfl rfl ?_
          refine go_istore (pc' := 336) (L' := #[.val (.long q0), .second, .val (.long q1), .second, .val (.long q2), .second, .val (.int p3), .val (.int p4), .val (.int v8_7), .val (.int v9_16), .val (.int v10_25), .val (.int m42_s0), .val (.long m62_s0), .second, .val (.ref b1), .val (.ref b10), .val (.int z12), .unset, .val (.int x18), .val (.int x19), .val (.int (0 : Int32))]) X18 hx (hb hby at_334) rfl rfl ?_
          refine JH336 T18 h15 (0 : Int32) X18 zs ?_
          · have k0 := own_k0
            have k1 := own_k1
            have k2 := own_k2
            have q := own_ltI c308_t
            rw [own_eq _ _ _ _ wd1 wd8] at hz18
            rcases hz18 with ⟨a, b⟩ | ⟨a, b⟩
            · exfalso; rw [a] at c326_tf; revert c326_tf; decide
            · exact Or.inr ⟨rfl, by omega, b⟩
        · refine go_iconst (pc' := 330) (v := 1) X18 hx (hb hby at_329) rfl rfl ?_
          refine go_goto (pc' := 334) X18 hx (hb hby at_330) (by decide) (by decide) ?_
          refine go_istore (pc' := 336) (L' := #[.val (.long q0), .second, .val (.long q1), .second, .val (.long q2), .second, .val (.int p3), .val (.int p4), .val (.int v8_7), .val (.int v9_16), .val (.int v10_25), .val (.int m42_s0), .val (.long m62_s0), .second, .val (.ref b1), .val (.ref b10), .val (.int z12), .unset, .val (.int x18), .val (.int x19), .val (.int (1 : Int32))]) X18 hx (hb hby at_334) rfl rfl ?_
          refine JH336 T18 h15 (1 : Int32) X18 zs ?_
          · have k0 := own_k0
            have k1 := own_k1
            have k2 := own_k2
            have q := own_ltI c308_t
            rw [own_eq _ _ _ _ wd1 wd8] at hz18
            rcases hz18 with ⟨a, b⟩ | ⟨a, b⟩
            · exact Or.inl ⟨rfl, fun _ => b⟩
            · exact absurd a c326_tf
    intro T17 h17 x20 X17 zs jh336
    refine go_iload (pc' := 338) X17 hx (hb hby at_336) rfl rfl ?_
    refine go_ifeq (pc' := 341) (pcT := 355) X17 hx (hb hby at_338) rfl (by decide) (by decide) (fun c338_t => ?_) (fun c338_t => ?_)
    · refine go_iconst (pc' := 356) (v := 0) X17 hx (hb hby at_355) rfl rfl ?_
      refine go_istore (pc' := 358) (L' := #[.val (.long q0), .second, .val (.long q1), .second, .val (.long q2), .second, .val (.int p3), .val (.int p4), .val (.int v8_7), .val (.int v9_16), .val (.int v10_25), .val (.int m42_s0), .val (.long m62_s0), .second, .val (.ref b1), .val (.ref b10), .val (.int z12), .val (.int (0 : Int32)), .val (.int x18), .val (.int x19), .val (.int x20)]) X17 hx (hb hby at_356) rfl rfl ?_
      refine go_iload (pc' := 360) X17 hx (hb hby at_358) rfl rfl ?_
      refine go_iload (pc' := 362) X17 hx (hb hby at_360) rfl rfl ?_
      refine go_icmpne (pc' := 365) (pcT := 369) X17 hx (hb hby at_362) rfl (by decide) (by decide) (fun c362_tt => (by exfalso; exact c362_tt (own_end hz12 c242 (own_all3 rc0 rc3) jh276 jh305 jh336 (by simp [c338_t])))) (fun c362_tt => ?_)
      refine go_iconst (pc' := 366) (v := 1) X17 hx (hb hby at_365) rfl rfl ?_
      refine go_goto (pc' := 370) X17 hx (hb hby at_366) (by decide) (by decide) ?_
      refine go_retN (t := .boolean) X17 hx hret (by simp) hlk (hb hby at_370) (by decide) (by decide) ?_
      exact rfl
    · refine go_iload (pc' := 343) X17 hx (hb hby at_341) rfl rfl ?_
      refine go_ifeq (pc' := 346) (pcT := 355) X17 hx (hb hby at_343) rfl (by decide) (by decide) (fun c343_tf => ?_) (fun c343_tf => ?_)
      · refine go_iconst (pc' := 356) (v := 0) X17 hx (hb hby at_355) rfl rfl ?_
        refine go_istore (pc' := 358) (L' := #[.val (.long q0), .second, .val (.long q1), .second, .val (.long q2), .second, .val (.int p3), .val (.int p4), .val (.int v8_7), .val (.int v9_16), .val (.int v10_25), .val (.int m42_s0), .val (.long m62_s0), .second, .val (.ref b1), .val (.ref b10), .val (.int z12), .val (.int (0 : Int32)), .val (.int x18), .val (.int x19), .val (.int x20)]) X17 hx (hb hby at_356) rfl rfl ?_
        refine go_iload (pc' := 360) X17 hx (hb hby at_358) rfl rfl ?_
        refine go_iload (pc' := 362) X17 hx (hb hby at_360) rfl rfl ?_
        refine go_icmpne (pc' := 365) (pcT := 369) X17 hx (hb hby at_362) rfl (by decide) (by decide) (fun c362_tft => (by exfalso; exact c362_tft (own_end hz12 c242 (own_all3 rc0 rc3) jh276 jh305 jh336 (by simp [c338_t, c343_tf])))) (fun c362_tft => ?_)
        refine go_iconst (pc' := 366) (v := 1) X17 hx (hb hby at_365) rfl rfl ?_
        refine go_goto (pc' := 370) X17 hx (hb hby at_366) (by decide) (by decide) ?_
        refine go_retN (t := .boolean) X17 hx hret (by simp) hlk (hb hby at_370) (by decide) (by decide) ?_
        exact rfl
      · refine go_iload (pc' := 348) X17 hx (hb hby at_346) rfl rfl ?_
        refine go_ifeq (pc' := 351) (pcT := 355) X17 hx (hb hby at_348) rfl (by decide) (by decide) (fun c348_tff => ?_) (fun c348_tff => ?_)
        · refine go_iconst (pc' := 356) (v := 0) X17 hx (hb hby at_355) rfl rfl ?_
          refine go_istore (pc' := 358) (L' := #[.val (.long q0), .second, .val (.long q1), .second, .val (.long q2), .second, .val (.int p3), .val (.int p4), .val (.int v8_7), .val (.int v9_16), .val (.int v10_25), .val (.int m42_s0), .val (.long m62_s0), .second, .val (.ref b1), .val (.ref b10), .val (.int z12), .val (.int (0 : Int32)), .val (.int x18), .val (.int x19), .val (.int x20)]) X17 hx (hb hby at_356) rfl rfl ?_
          refine go_iload (pc' := 360) X17 hx (hb hby at_358) rfl rfl ?_
          refine go_iload (pc' := 362) X17 hx (hb hby at_360) rfl rfl ?_
          refine go_icmpne (pc' := 365) (pcT := 369) X17 hx (hb hby at_362) rfl (by decide) (by decide) (fun c362_tfft => (by exfalso; exact c362_tfft (own_end hz12 c242 (own_all3 rc0 rc3) jh276 jh305 jh336 (by simp [c338_t, c343_tf, c348_tff])))) (fun c362_tfft => ?_)
          refine go_iconst (pc' := 366) (v := 1) X17 hx (hb hby at_365) rfl rfl ?_
          refine go_goto (pc' := 370) X17 hx (hb hby at_366) (by decide) (by decide) ?_
          refine go_retN (t := .boolean) X17 hx hret (by simp) hlk (hb hby at_370) (by decide) (by decide) ?_
          exact rfl
        · refine go_iconst (pc' := 352) (v := 1) X17 hx (hb hby at_351) rfl rfl ?_
          refine go_goto (pc' := 356) X17 hx (hb hby at_352) (by decide) (by decide) ?_
          refine go_istore (pc' := 358) (L' := #[.val (.long q0), .second, .val (.long q1), .second, .val (.long q2), .second, .val (.int p3), .val (.int p4), .val (.int v8_7), .val (.int v9_16), .val (.int v10_25), .val (.int m42_s0), .val (.long m62_s0), .second, .val (.ref b1), .val (.ref b10), .val (.int z12), .val (.int (1 : Int32)), .val (.int x18), .val (.int x19), .val (.int x20)]) X17 hx (hb hby at_356) rfl rfl ?_
          refine go_iload (pc' := 360) X17 hx (hb hby at_358) rfl rfl ?_
          refine go_iload (pc' := 362) X17 hx (hb hby at_360) rfl rfl ?_
          refine go_icmpne (pc' := 365) (pcT := 369) X17 hx (hb hby at_362) rfl (by decide) (by decide) (fun c362_tfff => (by exfalso; exact c362_tfff (own_end hz12 c242 (own_all3 rc0 rc3) jh276 jh305 jh336 (by simp [c338_t, c343_tf, c348_tff])))) (fun c362_tfff => ?_)
          refine go_iconst (pc' := 366) (v := 1) X17 hx (hb hby at_365) rfl rfl ?_
          refine go_goto (pc' := 370) X17 hx (hb hby at_366) (by decide) (by decide) ?_
          refine go_retN (t := .boolean) X17 hx hret (by simp) hlk (hb hby at_370) (by decide) (by decide) ?_
          exact rfl
  · refine go_iconst (pc' := 246) (v := -1) X12 hx (hb hby at_245) rfl rfl ?_
    refine go_istore (pc' := 248) (L' := #[.val (.long q0), .second, .val (.long q1), .second, .val (.long q2), .second, .val (.int p3), .val (.int p4), .val (.int v8_7), .val (.int v9_16), .val (.int v10_25), .val (.int m42_s0), .val (.long m62_s0), .second, .val (.ref b1), .val (.ref b10), .val (.int z12), .val (.int (-1 : Int32)), .unset, .unset, .unset]) X12 hx (hb hby at_246) rfl rfl ?_
    refine go_goto (pc' := 358) X12 hx (hb hby at_248) (by decide) (by decide) ?_
    refine go_iload (pc' := 360) X12 hx (hb hby at_358) rfl rfl ?_
    refine go_iload (pc' := 362) X12 hx (hb hby at_360) rfl rfl ?_
    refine go_icmpne (pc' := 365) (pcT := 369) X12 hx (hb hby at_362) rfl (by decide) (by decide) (fun c362_f => (by exfalso; rcases hz12 with ⟨-, q⟩ | ⟨q, -⟩; exact c362_f q; exact c242 q)) (fun c362_f => ?_)
    refine go_iconst (pc' := 366) (v := 1) X12 hx (hb hby at_365) rfl rfl ?_
    refine go_goto (pc' := 370) X12 hx (hb hby at_366) (by decide) (by decide) ?_
    refine go_retN (t := .boolean) X12 hx hret (by simp) hlk (hb hby at_370) (by decide) (by decide) ?_
    exact rfl
set_option maxRecDepth 65536 in
set_option maxHeartbeats 40000000 in
theorem comes_1 {Post : Tables → Env → Array Value → State → Outcome → State → Prop} (hpost : ∀ tb e args s v u, (limb_1_1.after args s (.returned v) u = true ∧ limb_1_2.after args s (.returned v) u = true ∧ True) → FrameEnd s (.returned v) u (Jvm.fieldLocs frame_1_writes args s ++ Jvm.arrayLocs frame_1_arrays args s ++ Jvm.staticLocs frame_1_statics s) 16 128 → Post tb e args s (.returned v) u) :
    ArmFor flags0 classFile x code maxLocals ret World_1 tables_1 room_1 Calls_1 rest_1 Pre_1 Post := by
  intro l hfl _ _ p e ha hc hk s m args below hf hA hF happ hP
  obtain ⟨hcalls, hrest, hpre⟩ := hP
  obtain ⟨-, -, -, hnamed, -, -, -, hat⟩ := (Spec.applies_iff hf).mp happ
  obtain ⟨hg, hn⟩ := and_e (Cond.before_iff.mp (show (Jvm.Cond.and given_1 narrow_1).before args s = true from hpre))
  obtain ⟨g1, g2⟩ := and_e hg
  obtain ⟨g3, g4⟩ := and_e g2
  obtain ⟨g5, g6⟩ := and_e g4
  obtain ⟨g7, g8⟩ := and_e g6
  obtain ⟨g9, g10⟩ := and_e g8
  obtain ⟨w0, w1, w2, w3, w4, rfl⟩ : ∃ w0 w1 w2 w3 w4 : Value, args = #[w0, w1, w2, w3, w4] := by
    have hs : args.size = 5 := by simpa [Cond.value, given_1] using g1
    obtain ⟨L⟩ := args
    match L, hs with
    | [w0, w1, w2, w3, w4], _ => exact ⟨w0, w1, w2, w3, w4, rfl⟩
  have hw := fun d (hd : d ∈ tables_1) => atoms_spec (ws := Jvm.Cond.code x code maxLocals ret :: tables_1) hat d (List.mem_cons_of_mem _ hd)
  obtain ⟨i0, ei0⟩ := isL_v g3
  obtain rfl : w0 = (.long i0) := Option.some.inj ei0
  obtain ⟨i1, ei1⟩ := isL_v g5
  obtain rfl : w1 = (.long i1) := Option.some.inj ei1
  obtain ⟨i2, ei2⟩ := isL_v g7
  obtain rfl : w2 = (.long i2) := Option.some.inj ei2
  obtain ⟨i3, ei3⟩ := is_v g9
  obtain rfl : w3 = (.int i3) := Option.some.inj ei3
  obtain ⟨i4, ei4⟩ := is_v g10
  obtain rfl : w4 = (.int i4) := Option.some.inj ei4
  obtain ⟨n, o, h1, h2, h3, _, L, rfl, ⟨⟨_, rfl, rfl⟩, N⟩, hq⟩ := ct_0 l s _ hw (h0 := s.heap) (n0 := s.heap.size) (Nat.le_refl _) i0 i1 i2 i3 i4 tables_1 p e ha hc hk s m _ below hf ((Spec.applies_iff_loose hf).mp happ).1 ⟨rfl, State.Warmed39.refl s, rfl⟩ trivial
  refine ⟨n, _, h1, h2, h3, hpost _ _ _ _ _ _ ⟨Cond.after_iff.mpr rfl, Cond.after_iff.mpr (eq_i res_at (Term.int_eval (1)) rfl), trivial⟩ ⟨hq.1, hq.2.1, (hq.2.2.sift fun y hy => Or.inr (N y hy)).mono (by decide) (by decide)⟩⟩
theorem main_1_1 : Claimed_1_1 := comes_1 fun _ _ _ _ _ _ h hF => ⟨h.1, hF⟩
theorem main_1_2 : Claimed_1_2 := comes_1 fun _ _ _ _ _ _ h hF => ⟨h.2.1, hF⟩
end Jvm.Pilot.@@N@@
namespace Jvm.Pilot.@@N@@
open Jvm Jvm.ClassFile Sem Op Lib Jvm.Free Jvm.Stand Jvm.Pilot.@@N@@.Jvm.D
/-! MADE BY PROGRAM (witnessworld.py) out of the Statement's table words and the real class files: 13 classes; the members and pool entries that the words name. The judged class is class 1, her method 2. -/
namespace start1
open Jvm.ClassFile
def u (s : String) : CpInfo := .utf8 (stringToUtf16 s)
/-- a pool by its gaps: so many unusable entries, then the entry; so many at the end -/
def gap : Nat → List CpInfo → List CpInfo
  | 0, r => r
  | n + 1, r => .unusable :: gap n r
def poolList (es : List (Nat × CpInfo)) (last : Nat) : List CpInfo := es.foldr (fun e r => gap e.1 (e.2 :: r)) (gap last [])
def pool (es : List (Nat × CpInfo)) (last : Nat) : Array CpInfo := ⟨poolList es last⟩
def fileOf (pool : Array CpInfo) (this : Nat) (attrs : Array Attribute := #[]) (ms : Array MethodInfo := #[]) (fl : Nat := 33) (sup : Nat := 0) (ifs : Array Nat := #[]) (fds : Array FieldInfo := #[]) : ClassFile where
  minorVersion := 0
  majorVersion := 65
  constantPool := pool
  accessFlags := fl
  thisClass := this
  superClass := sup
  interfaces := ifs
  fields := fds
  methods := ms
  attributes := attrs
def plain (name : String) (sup : Option ClassId) : Class where
  name := name
  kind := .ordinary
  loader := none
  accessFlags := 33
  super := sup
  interfaces := #[]
  cf := none
  fields := #[]
  methods := #[]
  instanceTypes := #[]
  staticTypes := #[]
  resolved := #[]
  callSites := []
  init := .initialized
  statics := none
  mirror := none

def pool0 : Array CpInfo := pool [(5, u "<init>"), (0, u "()V"), (1, .class_ 10), (1, u "java/lang/Object")] 113

def k0c0 : Code := { maxStack := 0, maxLocals := 1, code := object_method_1_code, exceptionTable := #[], attributes := #[] }
def k0m0 : Method := { name := "<init>", desc := "()V", sig := { parameters := [], returnType := none }, accessFlags := 1, code := some k0c0 }
/-- java/lang/Object -/
def k0 : Class := { plain "java/lang/Object" none with
  accessFlags := 33
  interfaces := #[]
  cf := some (fileOf pool0 8 #[] #[{ accessFlags := 1, nameIndex := 5, descriptorIndex := 6, attributes := #[] }] 33 0 #[] #[])
  fields := #[]
  methods := #[k0m0]
  instanceTypes := #[]
  staticTypes := #[]
  resolved := Array.replicate 124 none
  statics := none }

def pool1 : Array CpInfo := pool [(2, .class_ 4), (1, u "java/lang/Object"), (0, u "<init>"), (0, u "()V"), (0, .long 8), (1, .long 18446744073709551615), (1, .class_ 12), (0, u "com/example/denary/denary/SeparatedWalk$Member"), (0, .methodref 11 14), (0, .nameAndType 5 15), (0, u "(JJIII[Z)V"), (0, .methodref 11 17), (0, .nameAndType 18 19), (0, u "verdict"), (0, u "(J)I"), (0, .methodref 21 22), (0, .class_ 23), (0, .nameAndType 24 25), (0, u "com/example/denary/denary/MemberVerdictPinLaw"), (0, u "fieldOk"), (0, u "(JIII)Z"), (3, u "law"), (0, u "(JJJII)Z")] 8

def k1m0 : Method := { name := "<init>", desc := "()V", sig := { parameters := [], returnType := none }, accessFlags := 1, code := none }
def k1c1 : Code := { maxStack := 6, maxLocals := 7, code := method_2_code, exceptionTable := #[], attributes := #[] }
def k1m1 : Method := { name := "fieldOk", desc := "(JIII)Z", sig := { parameters := [.long, .int, .int, .int], returnType := some .boolean }, accessFlags := 10, code := some k1c1 }
def k1c2 : Code := { maxStack := 10, maxLocals := 21, code := code, exceptionTable := #[], attributes := #[] }
def k1m2 : Method := { name := "law", desc := "(JJJII)Z", sig := { parameters := [.long, .long, .long, .int, .int], returnType := some .boolean }, accessFlags := 9, code := some k1c2 }
/-- com/example/denary/denary/MemberVerdictPinLaw -/
def k1 : Class := { plain "com/example/denary/denary/MemberVerdictPinLaw" (some 0) with
  accessFlags := 49
  interfaces := #[]
  cf := some (fileOf pool1 21 #[] #[{ accessFlags := 1, nameIndex := 5, descriptorIndex := 6, attributes := #[] }, { accessFlags := 10, nameIndex := 24, descriptorIndex := 25, attributes := #[] }, { accessFlags := 9, nameIndex := 29, descriptorIndex := 30, attributes := #[] }] 49 2 #[] #[])
  fields := #[]
  methods := #[k1m0, k1m1, k1m2]
  instanceTypes := #[]
  staticTypes := #[]
  resolved := Array.replicate 39 none
  statics := none }

def pool2 : Array CpInfo := pool [(1, .methodref 2 3), (0, .class_ 4), (0, .nameAndType 5 6), (0, u "java/lang/Object"), (0, u "<init>"), (0, u "()V"), (0, .class_ 8), (0, u "java/lang/Record")] 13

def k2c0 : Code := { maxStack := 1, maxLocals := 1, code := jdk_30_method_1_code, exceptionTable := #[], attributes := #[] }
def k2m0 : Method := { name := "<init>", desc := "()V", sig := { parameters := [], returnType := none }, accessFlags := 4, code := some k2c0 }
/-- java/lang/Record -/
def k2 : Class := { plain "java/lang/Record" (some 0) with
  accessFlags := 1057
  interfaces := #[]
  cf := some (fileOf pool2 7 #[] #[{ accessFlags := 4, nameIndex := 5, descriptorIndex := 6, attributes := #[] }] 1057 2 #[] #[])
  fields := #[]
  methods := #[k2m0]
  instanceTypes := #[]
  staticTypes := #[]
  resolved := Array.replicate 22 none
  statics := none }

def pool3 : Array CpInfo := pool [(1, .class_ 2), (0, u "com/example/denary/denary/SeparatedWalk$ByPlaces"), (0, .class_ 4), (0, u "java/lang/Object"), (5, .class_ 11), (0, u "com/example/denary/denary/SeparatedWalk")] 2

/-- com/example/denary/denary/SeparatedWalk$ByPlaces -/
def k3 : Class := { plain "com/example/denary/denary/SeparatedWalk$ByPlaces" (some 0) with
  accessFlags := 1536
  interfaces := #[]
  cf := some (fileOf pool3 1 #[.nestHost 10] #[] 1536 3 #[] #[])
  fields := #[]
  methods := #[]
  instanceTypes := #[]
  staticTypes := #[]
  resolved := Array.replicate 14 none
  statics := none }

def pool4 : Array CpInfo := pool [(1, .methodref 2 3), (0, .class_ 4), (0, .nameAndType 5 6), (0, u "java/lang/Record"), (0, u "<init>"), (0, u "()V"), (0, .fieldref 8 9), (0, .class_ 10), (0, .nameAndType 11 12), (0, u "com/example/denary/denary/SeparatedWalk$Member"), (0, u "expected"), (0, u "J"), (0, .fieldref 8 14), (0, .nameAndType 15 12), (0, u "checked"), (0, .fieldref 8 17), (0, .nameAndType 18 19), (0, u "shift"), (0, u "I"), (0, .fieldref 8 21), (0, .nameAndType 22 19), (0, u "rowCount"), (0, .fieldref 8 24), (0, .nameAndType 25 19), (0, u "width"), (0, .fieldref 8 27), (0, .nameAndType 28 29), (0, u "multiples"), (0, u "[Z"), (2, u "verdict"), (0, u "(J)I"), (14, .class_ 49), (0, u "com/example/denary/denary/SeparatedWalk$ByPlaces"), (0, u "(JJIII[Z)V"), (13, .class_ 65), (0, u "com/example/denary/denary/SeparatedWalk")] 25

def k4c0 : Code := { maxStack := 3, maxLocals := 9, code := prog_36_method_1_code, exceptionTable := #[], attributes := #[] }
def k4m0 : Method := { name := "<init>", desc := "(JJIII[Z)V", sig := { parameters := [.long, .long, .int, .int, .int, (.array .boolean)], returnType := none }, accessFlags := 0, code := some k4c0 }
def k4c1 : Code := { maxStack := 5, maxLocals := 11, code := prog_36_method_3_code, exceptionTable := #[], attributes := #[] }
def k4m1 : Method := { name := "verdict", desc := "(J)I", sig := { parameters := [.long], returnType := some .int }, accessFlags := 0, code := some k4c1 }
/-- com/example/denary/denary/SeparatedWalk$Member -/
def k4 : Class := { plain "com/example/denary/denary/SeparatedWalk$Member" (some 2) with
  accessFlags := 48
  interfaces := #[3]
  cf := some (fileOf pool4 8 #[.nestHost 64] #[{ accessFlags := 0, nameIndex := 5, descriptorIndex := 50, attributes := #[] }, { accessFlags := 0, nameIndex := 32, descriptorIndex := 33, attributes := #[] }] 48 2 #[48] #[{ accessFlags := 18, nameIndex := 11, descriptorIndex := 12, attributes := #[] }, { accessFlags := 18, nameIndex := 15, descriptorIndex := 12, attributes := #[] }, { accessFlags := 18, nameIndex := 18, descriptorIndex := 19, attributes := #[] }, { accessFlags := 18, nameIndex := 22, descriptorIndex := 19, attributes := #[] }, { accessFlags := 18, nameIndex := 25, descriptorIndex := 19, attributes := #[] }, { accessFlags := 18, nameIndex := 28, descriptorIndex := 29, attributes := #[] }])
  fields := #[{ name := "expected", type := .long, accessFlags := 18, slot := 0, constantValue := 0 }, { name := "checked", type := .long, accessFlags := 18, slot := 1, constantValue := 0 }, { name := "shift", type := .int, accessFlags := 18, slot := 2, constantValue := 0 }, { name := "rowCount", type := .int, accessFlags := 18, slot := 3, constantValue := 0 }, { name := "width", type := .int, accessFlags := 18, slot := 4, constantValue := 0 }, { name := "multiples", type := (.array .boolean), accessFlags := 18, slot := 5, constantValue := 0 }]
  methods := #[k4m0, k4m1]
  instanceTypes := #[.long, .long, .int, .int, .int, (.array .boolean)]
  staticTypes := #[]
  resolved := Array.replicate 91 none
  statics := none }

def pool5 : Array CpInfo := pool [(1, u "java/lang/Cloneable"), (0, .class_ 1), (0, u "java/lang/Object"), (0, .class_ 3)] 3

/-- java/lang/Cloneable -/
def k5 : Class := { plain "java/lang/Cloneable" (some 0) with
  accessFlags := 1537
  interfaces := #[]
  cf := some (fileOf pool5 2 #[] #[] 1537 4 #[] #[])
  fields := #[]
  methods := #[]
  instanceTypes := #[]
  staticTypes := #[]
  resolved := Array.replicate 8 none
  statics := none }

def pool6 : Array CpInfo := pool [(1, u "java/io/Serializable"), (0, .class_ 1), (0, u "java/lang/Object"), (0, .class_ 3)] 3

/-- java/io/Serializable -/
def k6 : Class := { plain "java/io/Serializable" (some 0) with
  accessFlags := 1537
  interfaces := #[]
  cf := some (fileOf pool6 2 #[] #[] 1537 4 #[] #[])
  fields := #[]
  methods := #[]
  instanceTypes := #[]
  staticTypes := #[]
  resolved := Array.replicate 8 none
  statics := none }

/-- the primitive boolean -/
def k7 : Class := { plain "boolean" none with kind := .primitive 'Z', accessFlags := 0x411 }
/-- [Z -/
def k8 : Class := { plain "[Z" (some 0) with kind := .array 7 .boolean, interfaces := #[5, 6], accessFlags := 1041 }

/-- the primitive byte -/
def k9 : Class := { plain "byte" none with kind := .primitive 'B', accessFlags := 0x411 }
/-- [B -/
def k10 : Class := { plain "[B" (some 0) with kind := .array 9 .byte, interfaces := #[5, 6], accessFlags := 1041 }

/-- the primitive int -/
def k11 : Class := { plain "int" none with kind := .primitive 'I', accessFlags := 0x411 }
/-- [I -/
def k12 : Class := { plain "[I" (some 0) with kind := .array 11 .int, interfaces := #[5, 6], accessFlags := 1041 }

def heap : Heap := #[]
def classes : Array Class := #[k0, k1, k2, k3, k4, k5, k6, k7, k8, k9, k10, k11, k12]
def interned : List (Array UInt16 × Addr) := []
def slotsUsed : Nat := 0
def theMethod : MethodId := ⟨1, 2⟩
def args0 : Array Value := #[.long 3, .long 3, .long 7, .int 3, .int 5]
def aboutOver (below : List Frame) : State where
  vm := { classes := classes, interned := interned.toArray }
  heap := heap
  slotsUsed := slotsUsed
  threads := #[{ frames := .invoking theMethod args0 :: below }]
def below0 : List Frame := [.native { method := ⟨0, 0⟩, args := #[] }]
def about1 : State := aboutOver below0
def p0 : Program := .bare "" "" ""
def e0 : Env := launch0.env 0 0 0
theorem w_frames : about1.frames = Frame.invoking theMethod args0 :: below0 := rfl
set_option maxRecDepth 65536 in
theorem w_args : argsFit about1.vm theMethod args0 = true := by decide +kernel
set_option maxRecDepth 65536 in
theorem w_heap : heapFits about1 = true := by decide +kernel
set_option maxRecDepth 65536 in
theorem w_runnable : about1.curStatus? = some .runnable := by decide +kernel
set_option maxRecDepth 65536 in
theorem w_alone : about1.alone = true := by decide +kernel
set_option maxRecDepth 65536 in
theorem w_named : about1.methodNamed? x = some theMethod := by decide +kernel
set_option maxRecDepth 65536 in
theorem w_hears : about1.hears theMethod below0 = true := by decide +kernel
set_option maxRecDepth 65536 in
theorem w_ripe : about1.ripe theMethod args0 below0 = true := by decide +kernel
theorem w_running : about1.status = .running := rfl
set_option maxRecDepth 65536 in
theorem w_room : about1.hasRoom e0.platform room_1 = true :=
  launch0.hasRoom_least _ room_1 (by decide +kernel) (by decide +kernel) (by decide +kernel) (by decide +kernel) (by decide +kernel) (by decide +kernel)
theorem allAtoms_all (ts : List Jvm.Cond) (a : Array Jvm.Value) (st : Jvm.State) : (allAtoms ts).before a st = ts.all (fun c => c.before a st) := by
  induction ts with
  | nil => rfl
  | cons c t ih =>
    show (Jvm.Cond.and c (allAtoms t)).before a st = _
    rw [Jvm.Cond.before_and, ih, List.all_cons]
def words1 : List Jvm.Cond := Jvm.Cond.code x code maxLocals ret :: tables_1
/-- a 'code' word, met by the world's own term for the bytes: nothing is compared byte by byte -/
theorem code_word {y : MethodName} {bytes : ByteArray} {mx : Nat} {rt : Option FieldType} {a : Array Value} {s : State} {m : MethodId} {meth : Method} {c : Code} (h1 : s.methodNamed? y = some m) (h2 : s.vm.method? m = some meth) (h3 : meth.code = some c) (h4 : c.code = bytes)
    (h5 : (c.maxLocals == mx && c.exceptionTable.isEmpty && decide (c.maxStack ≤ mostOperands) && decide (meth.sig.returnType = rt) && !meth.locks && decide (parseMethodDescriptor y.desc = some meth.sig)) = true) : (Jvm.Cond.code y bytes mx rt).before a s = true := by
  simp only [Bool.and_eq_true, beq_iff_eq, Bool.not_eq_true', decide_eq_true_eq] at h5
  obtain ⟨⟨⟨⟨⟨g1, g2⟩, g3⟩, g4⟩, g5⟩, g6⟩ := h5
  simp [Cond.before, Cond.holds, Cond.value, h1, h2, h3, h4, g1, g2, g3, g4, g5, g6]
def isCode : Jvm.Cond → Bool
  | .code _ _ _ _ => true
  | _ => false
theorem all_split {L : List Jvm.Cond} {P : Jvm.Cond → Bool} (h1 : L.all (fun c => isCode c || P c) = true) (h2 : ∀ c ∈ L.filter isCode, P c = true) : L.all P = true := by
  refine List.all_eq_true.mpr fun c hc => ?_
  have h := List.all_eq_true.mp h1 c hc
  rcases Bool.eq_false_or_eq_true (isCode c) with hi | hi
  · exact h2 c (List.mem_filter.mpr ⟨hc, hi⟩)
  · simpa [hi] using h
set_option maxRecDepth 65536 in
theorem w_c0 : (Jvm.Cond.code x code maxLocals ret).before args0 about1 = true := code_word (m := ⟨1, 2⟩) (meth := k1m2) (c := k1c2) (by decide +kernel) rfl rfl rfl (by decide +kernel)
set_option maxRecDepth 65536 in
theorem w_c1 : (Jvm.Cond.code ({ cls := "com/example/denary/denary/SeparatedWalk$Member", name := "<init>", desc := "(JJIII[Z)V" } : Jvm.MethodName) prog_36_method_1_code (9 : Nat) (Option.none : Option Jvm.ClassFile.FieldType)).before args0 about1 = true := code_word (m := ⟨4, 0⟩) (meth := k4m0) (c := k4c0) (by decide +kernel) rfl rfl rfl (by decide +kernel)
set_option maxRecDepth 65536 in
theorem w_c2 : (Jvm.Cond.code ({ cls := "java/lang/Record", name := "<init>", desc := "()V" } : Jvm.MethodName) jdk_30_method_1_code (1 : Nat) (Option.none : Option Jvm.ClassFile.FieldType)).before args0 about1 = true := code_word (m := ⟨2, 0⟩) (meth := k2m0) (c := k2c0) (by decide +kernel) rfl rfl rfl (by decide +kernel)
set_option maxRecDepth 65536 in
theorem w_c3 : (Jvm.Cond.code ({ cls := "java/lang/Object", name := "<init>", desc := "()V" } : Jvm.MethodName) object_method_1_code (1 : Nat) (Option.none : Option Jvm.ClassFile.FieldType)).before args0 about1 = true := code_word (m := ⟨0, 0⟩) (meth := k0m0) (c := k0c0) (by decide +kernel) rfl rfl rfl (by decide +kernel)
set_option maxRecDepth 65536 in
theorem w_c4 : (Jvm.Cond.code ({ cls := "com/example/denary/denary/SeparatedWalk$Member", name := "verdict", desc := "(J)I" } : Jvm.MethodName) prog_36_method_3_code (11 : Nat) (Option.some Jvm.ClassFile.FieldType.int)).before args0 about1 = true := code_word (m := ⟨4, 1⟩) (meth := k4m1) (c := k4c1) (by decide +kernel) rfl rfl rfl (by decide +kernel)
set_option maxRecDepth 65536 in
theorem w_c5 : (Jvm.Cond.code ({ cls := "com/example/denary/denary/MemberVerdictPinLaw", name := "fieldOk", desc := "(JIII)Z" } : Jvm.MethodName) method_2_code (7 : Nat) (Option.some Jvm.ClassFile.FieldType.boolean)).before args0 about1 = true := code_word (m := ⟨1, 1⟩) (meth := k1m1) (c := k1c1) (by decide +kernel) rfl rfl rfl (by decide +kernel)
def codes1 : List Jvm.Cond := [Jvm.Cond.code x code maxLocals ret, Jvm.Cond.code ({ cls := "com/example/denary/denary/SeparatedWalk$Member", name := "<init>", desc := "(JJIII[Z)V" } : Jvm.MethodName) prog_36_method_1_code (9 : Nat) (Option.none : Option Jvm.ClassFile.FieldType), Jvm.Cond.code ({ cls := "java/lang/Record", name := "<init>", desc := "()V" } : Jvm.MethodName) jdk_30_method_1_code (1 : Nat) (Option.none : Option Jvm.ClassFile.FieldType), Jvm.Cond.code ({ cls := "java/lang/Object", name := "<init>", desc := "()V" } : Jvm.MethodName) object_method_1_code (1 : Nat) (Option.none : Option Jvm.ClassFile.FieldType), Jvm.Cond.code ({ cls := "com/example/denary/denary/SeparatedWalk$Member", name := "verdict", desc := "(J)I" } : Jvm.MethodName) prog_36_method_3_code (11 : Nat) (Option.some Jvm.ClassFile.FieldType.int), Jvm.Cond.code ({ cls := "com/example/denary/denary/MemberVerdictPinLaw", name := "fieldOk", desc := "(JIII)Z" } : Jvm.MethodName) method_2_code (7 : Nat) (Option.some Jvm.ClassFile.FieldType.boolean)]
set_option maxRecDepth 65536 in
theorem codes_eq : words1.filter isCode = codes1 := rfl
theorem w_codes : ∀ c ∈ words1.filter isCode, c.before args0 about1 = true := by
  rw [codes_eq]
  intro c hc
  simp only [codes1, List.mem_cons, List.not_mem_nil, or_false] at hc
  rcases hc with rfl | rfl | rfl | rfl | rfl | rfl
  · exact w_c0
  · exact w_c1
  · exact w_c2
  · exact w_c3
  · exact w_c4
  · exact w_c5
set_option maxRecDepth 65536 in
theorem w_t1 : (words1.take 24).all (fun c => isCode c || c.before args0 about1) = true := by decide +kernel
set_option maxRecDepth 65536 in
theorem w_t2 : (words1.drop 24).all (fun c => isCode c || c.before args0 about1) = true := by decide +kernel
theorem w_tables : (allAtoms (Jvm.Cond.code x code maxLocals ret :: tables_1)).before args0 about1 = true := by
  rw [allAtoms_all]
  show words1.all (fun c => c.before args0 about1) = true
  refine all_split ?_ w_codes
  rw [← List.take_append_drop 24 words1, List.all_append, w_t1, w_t2]
  rfl
set_option maxRecDepth 65536 in
theorem w_case : (Jvm.Cond.and given_1 narrow_1).before args0 about1 = true := by decide +kernel
theorem w_applies : (headSpec (Jvm.Cond.code x code maxLocals ret :: tables_1) room_1).applies x e0.platform about1 = true :=
  (Spec.applies_iff w_frames).mpr ⟨w_running, w_runnable, w_alone, w_named, w_hears, w_ripe, w_room, w_tables⟩
theorem atStart : AtStart classFile x code maxLocals ret World_1 tables_1 room_1 Calls_1 rest_1 Pre_1 launch0 p0 e0 about1 theMethod args0 below0 :=
  ⟨lists_1, trivial, launch0.admits_env _ _ _, launch0.least_env, fairChoices_fair.cas, fairChoices_fair.clock, w_frames, w_args, w_heap, w_applies, trivial, trivial, w_case⟩
end start1
theorem witness_1 : WitnessClaimed_1 := ⟨start1.p0, start1.e0, start1.about1, start1.theMethod, start1.args0, start1.below0, start1.atStart⟩
end Jvm.Pilot.@@N@@
