import JvmDerived
import JvmDerived.Pilot.@@N@@Statement
import JvmDerived.Pilot.@@N@@Code
set_option maxHeartbeats 4000000
set_option linter.unusedVariables false
set_option linter.unusedSimpArgs false
namespace Jvm.RoadKit
open Sem ClassFile Op Lib Jvm.Stand Jvm.Free Jvm.LawKit
section OwnK
variable {p : Program} {l : Launch} {e : Env} {R : Room} {s : State} {m : MethodId} {args : Array Value} {below : List Frame} {meth : Method} {c : Code} {T : State} {cells slots cells' slots' : Nat} {Z : State} {a0 : Array Value} {h : Heap} {n0 : Nat} {D : State → Prop} {pc pc' : Nat} {Ls : Array Slot} {St : List Value}
/-- the run goes from the frame g at T to a state that is done -/
def GoK (p : Program) (e : Env) (below : List Frame) (D : State → Prop) (T : State) (g : JFrame) : Prop := ∃ u, Steps p.tables e below (T.setTop g) u ∧ D u
/-- where the walk stands: the state, its heap, what was made; all that was written is new -/
def OnK (p : Program) (l : Launch) (e : Env) (R : Room) (s : State) (m : MethodId) (args : Array Value) (below : List Frame) (meth : Method) (c : Code) (n0 : Nat) (T : State) (h : Heap) (cells slots : Nat) : Prop := ∃ locs, Stand p l e R s m args below meth c T locs cells slots ∧ T.heap = h ∧ Fr n0 locs
/-- the call has returned -/
def DoneK (s : State) (below : List Frame) (n0 C S : Nat) (Q : Option Value → Heap → Prop) (u : State) : Prop := u.status = .running ∧ ∃ v L, Ended u below (.returned v) ∧ Q v u.heap ∧ Fr n0 L ∧ FrameEnd s (.returned v) u L C S
def QI (P : Int32 → Heap → Prop) (v : Option Value) (h : Heap) : Prop := ∃ z, v = some (.int z) ∧ P z h
def QJ (P : Int64 → Heap → Prop) (v : Option Value) (h : Heap) : Prop := ∃ z, v = some (.long z) ∧ P z h
def QA (P : Addr → Heap → Prop) (v : Option Value) (h : Heap) : Prop := ∃ z, v = some (.ref z) ∧ P z h
def QV (P : Heap → Prop) (v : Option Value) (h : Heap) : Prop := v = none ∧ P h
/-- a body's contract -/
def CtK (l : Launch) (Z : State) (y : MethodName) (bytes : ByteArray) (maxL : Nat) (ret : Option FieldType) (rm : Room) (as' : Array Value) (h0 : Heap) (n0 : Nat) (Q : Option Value → Heap → Prop) : Prop :=
  ∀ ws : List Jvm.Cond, MetFree l y (head1 (Jvm.Cond.code y bytes maxL ret :: ws) rm) (fun a U => a = as' ∧ Z.Warmed39 U.vm ∧ U.heap = h0) (fun _ _ _ _ _ => True) (fun _ U o U' => ∃ v L, o = .returned v ∧ (Q v U'.heap ∧ Fr n0 L) ∧ FrameEnd U o U' L rm.cells rm.slots)
theorem GoK.by {T' : State} {g g' : JFrame} (st : ∀ t, Steps p.tables e below (T'.setTop g') t → Steps p.tables e below (T.setTop g) t) (G : GoK p e below D T' g') : GoK p e below D T g := by
  obtain ⟨u, hu, hD⟩ := G
  exact ⟨u, st _ hu, hD⟩
theorem OnK.at (X : OnK p l e R s m args below meth c n0 T h cells slots) : Jvm.At T m c below := by
  obtain ⟨_, X, -, -⟩ := X
  exact X.here
theorem CtK.of {y : MethodName} {bytes : ByteArray} {maxL : Nat} {ret : Option FieldType} {rm : Room} {as' : Array Value} {h0 : Heap} {Q : Option Value → Heap → Prop} (hp : plainFor y = true)
    (body : ∀ {p : Program} {e : Env} {s : State} {m : MethodId} {below : List Frame} {meth : Method} {c : Code} {T : State}, OnK p l e rm s m as' below meth c n0 T h0 0 0 → p.tables.exec = Jvm.exec → Z.Warmed39 s.vm → c.code = bytes → c.maxLocals = maxL → s.vm.findClass y.cls = some m.cls → meth.name = y.name → meth.sig.returnType = ret → meth.locks = false →
      GoK p e below (DoneK s below n0 rm.cells rm.slots Q) T (entryFrame m as' maxL)) : CtK l Z y bytes maxL ret rm as' h0 n0 Q := by
  intro ws
  refine MetFree.of_bodySF hp hisR ?_
  intro p e s m args below meth c s₁ Bd hml0 hP hK
  obtain ⟨rfl, hZ, hh⟩ := hP
  have hown : s.vm.findClass y.cls = some m.cls := findClass_of_methodNamed Bd.named
  have hnm := (name_of_methodNamed Bd.named Bd.method).1
  have X0 : Stand p l e rm s m args below meth c s₁ [] 0 0 := Stand.of_body Bd
  have e0 : s₁.heap = h0 := by rw [← hh, Bd.state]; rfl
  obtain ⟨u, hu, hrun, v, L, hen, hQ, hN, hF⟩ := body ⟨[], X0, e0, Fr.nil n0⟩ Bd.exec hZ Bd.bytes hml0 hown hnm Bd.returns (BodyLoose.notSynchronized Bd)
  exact ⟨u, _, hu, hrun, hen, v, L, rfl, ⟨hQ, hN⟩, hF⟩
theorem GoK.entry {as' : Array Value} {n : Nat} (q : entryFrame m as' n = mkF m 0 Ls []) (G : GoK p e below D T (mkF m 0 Ls [])) : GoK p e below D T (entryFrame m as' n) := q ▸ G
theorem go_nameI {x : Int32} (G : ∀ z : Int32, z = x → GoK p e below D T (mkF m pc Ls (.int z :: St))) : GoK p e below D T (mkF m pc Ls (.int x :: St)) := G x rfl
theorem go_nameJ {x : Int64} (G : ∀ z : Int64, z = x → GoK p e below D T (mkF m pc Ls (.long z :: St))) : GoK p e below D T (mkF m pc Ls (.long x :: St)) := G x rfl
/-- the end: what every return has in common -/
theorem go_end {C S : Nat} {Q : Option Value → Heap → Prop} {v : Option Value} {g : JFrame} (X : OnK p l e R s m args below meth c n0 T h cells slots) (hlk : meth.locks = false) (hv : meth.sig.returnType = none → v = none) (hc : cells ≤ C) (hs : slots ≤ S) (q : Q v h)
    (st : ∀ {locs : List Loc}, Stand p l e R s m args below meth c T locs cells slots → ∀ {fs : List Frame}, (∀ (f : JFrame) (acts : List Action), f.method = m → f.locked = none → f.entered = [] → (doReturn e (T.setTop f) acts v).1 = T.setFrames fs) → Steps p.tables e below (T.setTop g) (T.setFrames fs)) :
    GoK p e below (DoneK s below n0 C S Q) T g := by
  obtain ⟨locs, X, rfl, N⟩ := X
  obtain ⟨fs, hr, hrun, hended, hW, hsame⟩ := X.leave (v := v) hv hlk
  exact ⟨_, st X hr, hrun, v, locs, hended, q, N, ⟨_, rfl⟩, hW, hsame.mono hc hs⟩
theorem go_retI {C S : Nat} {P : Int32 → Heap → Prop} {x : Int32} (X : OnK p l e R s m args below meth c n0 T h cells slots) (hx : p.tables.exec = Jvm.exec) (hret : meth.sig.returnType = some .int) (hlk : meth.locks = false) (hd : decode c.code pc = .ok (.ireturn, 1)) (hc : cells ≤ C) (hs : slots ≤ S) (q : P x h) : GoK p e below (DoneK s below n0 C S (QI P)) T (mkF m pc Ls (.int x :: St)) := by
  refine go_end (v := some (.int x)) X hlk (fun q => by rw [hret] at q; cases q) hc hs ⟨_, rfl, q⟩ ?_
  intro locs Y fs hr
  have hm' : T.vm.method? m = some meth := Y.method'
  have hn : narrow .int (.int x) = .int x := rfl
  show Steps p.tables e below (T.setTop { method := m, pc := pc, locals := Ls, stack := _ :: St, locked := none }) _
  jvm_step Y.here [Y.here.top, hx, hd, hm', hret, hn]
  first | (intro acts; rw [hr _ acts rfl rfl rfl]) | rw [hr _ _ rfl rfl rfl]
  exact Steps.refl _
theorem go_retN {C S : Nat} {P : Int32 → Heap → Prop} {x : Int32} {t : FieldType} (X : OnK p l e R s m args below meth c n0 T h cells slots) (hx : p.tables.exec = Jvm.exec) (hret : meth.sig.returnType = some t) (ht : t = .boolean ∨ t = .byte ∨ t = .char ∨ t = .short) (hlk : meth.locks = false) (hd : decode c.code pc = .ok (.ireturn, 1)) (hc : cells ≤ C) (hs : slots ≤ S) (q : P (nar t x) h) : GoK p e below (DoneK s below n0 C S (QI P)) T (mkF m pc Ls (.int x :: St)) := by
  refine go_end (v := some (.int (nar t x))) X hlk (fun q => by rw [hret] at q; cases q) hc hs ⟨_, rfl, q⟩ ?_
  intro locs Y fs hr
  exact retN Y hx hret ht hd hr
theorem go_retV {C S : Nat} {P : Heap → Prop} (X : OnK p l e R s m args below meth c n0 T h cells slots) (hx : p.tables.exec = Jvm.exec) (hret : meth.sig.returnType = none) (hlk : meth.locks = false) (hd : decode c.code pc = .ok (.return_, 1)) (hc : cells ≤ C) (hs : slots ≤ S) (q : P h) : GoK p e below (DoneK s below n0 C S (QV P)) T (mkF m pc Ls []) := by
  refine go_end (v := none) X hlk (fun _ => rfl) hc hs ⟨rfl, q⟩ ?_
  intro locs Y fs hr
  exact Y.returnOut hx hret hd hr
theorem go_retJ {C S : Nat} {P : Int64 → Heap → Prop} {x : Int64} (X : OnK p l e R s m args below meth c n0 T h cells slots) (hx : p.tables.exec = Jvm.exec) (hret : meth.sig.returnType = some .long) (hlk : meth.locks = false) (hd : decode c.code pc = .ok (.lreturn, 1)) (hc : cells ≤ C) (hs : slots ≤ S) (q : P x h) : GoK p e below (DoneK s below n0 C S (QJ P)) T (mkF m pc Ls (.long x :: St)) := by
  refine go_end (v := some (.long x)) X hlk (fun q => by rw [hret] at q; cases q) hc hs ⟨_, rfl, q⟩ ?_
  intro locs Y fs hr
  exact retOut Y hx hret rfl (Or.inr (Or.inl ⟨rfl, rfl, _, rfl⟩)) hd hr
theorem go_retA {C S : Nat} {P : Addr → Heap → Prop} {x : Addr} {t : FieldType} (X : OnK p l e R s m args below meth c n0 T h cells slots) (hx : p.tables.exec = Jvm.exec) (hret : meth.sig.returnType = some t) (ht : t.isReference = true) (hnr : narrow t (.ref x) = .ref x) (hlk : meth.locks = false) (hd : decode c.code pc = .ok (.areturn, 1)) (hc : cells ≤ C) (hs : slots ≤ S) (q : P x h) : GoK p e below (DoneK s below n0 C S (QA P)) T (mkF m pc Ls (.ref x :: St)) := by
  refine go_end (v := some (.ref x)) X hlk (fun q => by rw [hret] at q; cases q) hc hs ⟨_, rfl, q⟩ ?_
  intro locs Y fs hr
  exact retOut Y hx hret hnr (Or.inr (Or.inr (Or.inr (Or.inr ⟨rfl, ht, rfl⟩)))) hd hr
theorem go_iadd (X : OnK p l e R s m args below meth c n0 T h cells slots) (hx : p.tables.exec = Jvm.exec) {x y : Int32} (hd : decode c.code pc = .ok (.iadd, 1)) (hp : pc + 1 = pc') (G : GoK p e below D T (mkF m pc' Ls (.int (x + y) :: St))) : GoK p e below D T (mkF m pc Ls (.int y :: .int x :: St)) := by
  subst hp
  exact GoK.by (fun t k => XS.iadd X.at hx rfl hd rfl k) G
theorem go_isub (X : OnK p l e R s m args below meth c n0 T h cells slots) (hx : p.tables.exec = Jvm.exec) {x y : Int32} (hd : decode c.code pc = .ok (.isub, 1)) (hp : pc + 1 = pc') (G : GoK p e below D T (mkF m pc' Ls (.int (x - y) :: St))) : GoK p e below D T (mkF m pc Ls (.int y :: .int x :: St)) := by
  subst hp
  exact GoK.by (fun t k => XS.isub X.at hx rfl hd rfl k) G
theorem go_imul (X : OnK p l e R s m args below meth c n0 T h cells slots) (hx : p.tables.exec = Jvm.exec) {x y : Int32} (hd : decode c.code pc = .ok (.imul, 1)) (hp : pc + 1 = pc') (G : GoK p e below D T (mkF m pc' Ls (.int (x * y) :: St))) : GoK p e below D T (mkF m pc Ls (.int y :: .int x :: St)) := by
  subst hp
  exact GoK.by (fun t k => XS.imul X.at hx rfl hd rfl k) G
theorem go_iand (X : OnK p l e R s m args below meth c n0 T h cells slots) (hx : p.tables.exec = Jvm.exec) {x y : Int32} (hd : decode c.code pc = .ok (.iand, 1)) (hp : pc + 1 = pc') (G : GoK p e below D T (mkF m pc' Ls (.int (x &&& y) :: St))) : GoK p e below D T (mkF m pc Ls (.int y :: .int x :: St)) := by
  subst hp
  exact GoK.by (fun t k => XS.iand X.at hx rfl hd rfl k) G
theorem go_ior (X : OnK p l e R s m args below meth c n0 T h cells slots) (hx : p.tables.exec = Jvm.exec) {x y : Int32} (hd : decode c.code pc = .ok (.ior, 1)) (hp : pc + 1 = pc') (G : GoK p e below D T (mkF m pc' Ls (.int (x ||| y) :: St))) : GoK p e below D T (mkF m pc Ls (.int y :: .int x :: St)) := by
  subst hp
  exact GoK.by (fun t k => XS.ior X.at hx rfl hd rfl k) G
theorem go_ixor (X : OnK p l e R s m args below meth c n0 T h cells slots) (hx : p.tables.exec = Jvm.exec) {x y : Int32} (hd : decode c.code pc = .ok (.ixor, 1)) (hp : pc + 1 = pc') (G : GoK p e below D T (mkF m pc' Ls (.int (x ^^^ y) :: St))) : GoK p e below D T (mkF m pc Ls (.int y :: .int x :: St)) := by
  subst hp
  exact GoK.by (fun t k => XS.ixor X.at hx rfl hd rfl k) G
theorem go_ishl (X : OnK p l e R s m args below meth c n0 T h cells slots) (hx : p.tables.exec = Jvm.exec) {x y : Int32} (hd : decode c.code pc = .ok (.ishl, 1)) (hp : pc + 1 = pc') (G : GoK p e below D T (mkF m pc' Ls (.int (x <<< (y &&& 31)) :: St))) : GoK p e below D T (mkF m pc Ls (.int y :: .int x :: St)) := by
  subst hp
  exact GoK.by (fun t k => XS.ishl X.at hx rfl hd rfl k) G
theorem go_ishr (X : OnK p l e R s m args below meth c n0 T h cells slots) (hx : p.tables.exec = Jvm.exec) {x y : Int32} (hd : decode c.code pc = .ok (.ishr, 1)) (hp : pc + 1 = pc') (G : GoK p e below D T (mkF m pc' Ls (.int (x >>> (y &&& 31)) :: St))) : GoK p e below D T (mkF m pc Ls (.int y :: .int x :: St)) := by
  subst hp
  exact GoK.by (fun t k => XS.ishr X.at hx rfl hd rfl k) G
theorem go_iushr (X : OnK p l e R s m args below meth c n0 T h cells slots) (hx : p.tables.exec = Jvm.exec) {x y : Int32} (hd : decode c.code pc = .ok (.iushr, 1)) (hp : pc + 1 = pc') (G : GoK p e below D T (mkF m pc' Ls (.int ((x.toUInt32 >>> (y &&& 31).toUInt32).toInt32) :: St))) : GoK p e below D T (mkF m pc Ls (.int y :: .int x :: St)) := by
  subst hp
  exact GoK.by (fun t k => XS.iushr X.at hx rfl hd rfl k) G
theorem go_ladd (X : OnK p l e R s m args below meth c n0 T h cells slots) (hx : p.tables.exec = Jvm.exec) {x y : Int64} (hd : decode c.code pc = .ok (.ladd, 1)) (hp : pc + 1 = pc') (G : GoK p e below D T (mkF m pc' Ls (.long (x + y) :: St))) : GoK p e below D T (mkF m pc Ls (.long y :: .long x :: St)) := by
  subst hp
  exact GoK.by (fun t k => XS.ladd X.at hx rfl hd rfl k) G
theorem go_lsub (X : OnK p l e R s m args below meth c n0 T h cells slots) (hx : p.tables.exec = Jvm.exec) {x y : Int64} (hd : decode c.code pc = .ok (.lsub, 1)) (hp : pc + 1 = pc') (G : GoK p e below D T (mkF m pc' Ls (.long (x - y) :: St))) : GoK p e below D T (mkF m pc Ls (.long y :: .long x :: St)) := by
  subst hp
  exact GoK.by (fun t k => XS.lsub X.at hx rfl hd rfl k) G
theorem go_lmul (X : OnK p l e R s m args below meth c n0 T h cells slots) (hx : p.tables.exec = Jvm.exec) {x y : Int64} (hd : decode c.code pc = .ok (.lmul, 1)) (hp : pc + 1 = pc') (G : GoK p e below D T (mkF m pc' Ls (.long (x * y) :: St))) : GoK p e below D T (mkF m pc Ls (.long y :: .long x :: St)) := by
  subst hp
  exact GoK.by (fun t k => XS.lmul X.at hx rfl hd rfl k) G
theorem go_land (X : OnK p l e R s m args below meth c n0 T h cells slots) (hx : p.tables.exec = Jvm.exec) {x y : Int64} (hd : decode c.code pc = .ok (.land, 1)) (hp : pc + 1 = pc') (G : GoK p e below D T (mkF m pc' Ls (.long (x &&& y) :: St))) : GoK p e below D T (mkF m pc Ls (.long y :: .long x :: St)) := by
  subst hp
  exact GoK.by (fun t k => XS.land X.at hx rfl hd rfl k) G
theorem go_lor (X : OnK p l e R s m args below meth c n0 T h cells slots) (hx : p.tables.exec = Jvm.exec) {x y : Int64} (hd : decode c.code pc = .ok (.lor, 1)) (hp : pc + 1 = pc') (G : GoK p e below D T (mkF m pc' Ls (.long (x ||| y) :: St))) : GoK p e below D T (mkF m pc Ls (.long y :: .long x :: St)) := by
  subst hp
  exact GoK.by (fun t k => XS.lor X.at hx rfl hd rfl k) G
theorem go_lxor (X : OnK p l e R s m args below meth c n0 T h cells slots) (hx : p.tables.exec = Jvm.exec) {x y : Int64} (hd : decode c.code pc = .ok (.lxor, 1)) (hp : pc + 1 = pc') (G : GoK p e below D T (mkF m pc' Ls (.long (x ^^^ y) :: St))) : GoK p e below D T (mkF m pc Ls (.long y :: .long x :: St)) := by
  subst hp
  exact GoK.by (fun t k => XS.lxor X.at hx rfl hd rfl k) G
theorem go_lshl (X : OnK p l e R s m args below meth c n0 T h cells slots) (hx : p.tables.exec = Jvm.exec) {x : Int64} {y : Int32} (hd : decode c.code pc = .ok (.lshl, 1)) (hp : pc + 1 = pc') (G : GoK p e below D T (mkF m pc' Ls (.long (x <<< (y &&& 0x3f).toInt64) :: St))) : GoK p e below D T (mkF m pc Ls (.int y :: .long x :: St)) := by
  subst hp
  exact GoK.by (fun t k => XS.lshl X.at hx rfl hd rfl k) G
theorem go_lshr (X : OnK p l e R s m args below meth c n0 T h cells slots) (hx : p.tables.exec = Jvm.exec) {x : Int64} {y : Int32} (hd : decode c.code pc = .ok (.lshr, 1)) (hp : pc + 1 = pc') (G : GoK p e below D T (mkF m pc' Ls (.long (x >>> (y &&& 0x3f).toInt64) :: St))) : GoK p e below D T (mkF m pc Ls (.int y :: .long x :: St)) := by
  subst hp
  exact GoK.by (fun t k => XS.lshr X.at hx rfl hd rfl k) G
theorem go_lushr (X : OnK p l e R s m args below meth c n0 T h cells slots) (hx : p.tables.exec = Jvm.exec) {x : Int64} {y : Int32} (hd : decode c.code pc = .ok (.lushr, 1)) (hp : pc + 1 = pc') (G : GoK p e below D T (mkF m pc' Ls (.long ((x.toUInt64 >>> (y &&& 0x3f).toInt64.toUInt64).toInt64) :: St))) : GoK p e below D T (mkF m pc Ls (.int y :: .long x :: St)) := by
  subst hp
  exact GoK.by (fun t k => XS.lushr X.at hx rfl hd rfl k) G
theorem go_idiv (X : OnK p l e R s m args below meth c n0 T h cells slots) (hx : p.tables.exec = Jvm.exec) {x y : Int32} (hd : decode c.code pc = .ok (.idiv, 1)) (hp : pc + 1 = pc') (hy : y ≠ 0) (G : GoK p e below D T (mkF m pc' Ls (.int (x / y) :: St))) : GoK p e below D T (mkF m pc Ls (.int y :: .int x :: St)) := by
  subst hp
  exact GoK.by (fun t k => XS.idiv X.at hx rfl hd rfl hy k) G
theorem go_ldiv (X : OnK p l e R s m args below meth c n0 T h cells slots) (hx : p.tables.exec = Jvm.exec) {x y : Int64} (hd : decode c.code pc = .ok (.ldiv, 1)) (hp : pc + 1 = pc') (hy : y ≠ 0) (G : GoK p e below D T (mkF m pc' Ls (.long (x / y) :: St))) : GoK p e below D T (mkF m pc Ls (.long y :: .long x :: St)) := by
  subst hp
  exact GoK.by (fun t k => XS.ldiv X.at hx rfl hd rfl hy k) G
theorem go_irem (X : OnK p l e R s m args below meth c n0 T h cells slots) (hx : p.tables.exec = Jvm.exec) {x y : Int32} (hd : decode c.code pc = .ok (.irem, 1)) (hp : pc + 1 = pc') (hy : y ≠ 0) (G : GoK p e below D T (mkF m pc' Ls (.int (x % y) :: St))) : GoK p e below D T (mkF m pc Ls (.int y :: .int x :: St)) := by
  subst hp
  obtain ⟨_, Y, -, -⟩ := X
  exact GoK.by (fun t k => iremM Y hx rfl hd rfl hy k) G
theorem go_lrem (X : OnK p l e R s m args below meth c n0 T h cells slots) (hx : p.tables.exec = Jvm.exec) {x y : Int64} (hd : decode c.code pc = .ok (.lrem, 1)) (hp : pc + 1 = pc') (hy : y ≠ 0) (G : GoK p e below D T (mkF m pc' Ls (.long (x % y) :: St))) : GoK p e below D T (mkF m pc Ls (.long y :: .long x :: St)) := by
  subst hp
  rw [← lrem_mod] at G
  exact GoK.by (fun t k => XS.lrem X.at hx rfl hd rfl hy k) G
theorem go_ineg (X : OnK p l e R s m args below meth c n0 T h cells slots) (hx : p.tables.exec = Jvm.exec) {x : Int32} (hd : decode c.code pc = .ok (.ineg, 1)) (hp : pc + 1 = pc') (G : GoK p e below D T (mkF m pc' Ls (.int (-x) :: St))) : GoK p e below D T (mkF m pc Ls (.int x :: St)) := by
  subst hp
  exact GoK.by (fun t k => XS.ineg X.at hx rfl hd rfl k) G
theorem go_lneg (X : OnK p l e R s m args below meth c n0 T h cells slots) (hx : p.tables.exec = Jvm.exec) {x : Int64} (hd : decode c.code pc = .ok (.lneg, 1)) (hp : pc + 1 = pc') (G : GoK p e below D T (mkF m pc' Ls (.long (-x) :: St))) : GoK p e below D T (mkF m pc Ls (.long x :: St)) := by
  subst hp
  exact GoK.by (fun t k => XS.lneg X.at hx rfl hd rfl k) G
theorem go_i2l (X : OnK p l e R s m args below meth c n0 T h cells slots) (hx : p.tables.exec = Jvm.exec) {x : Int32} (hd : decode c.code pc = .ok (.i2l, 1)) (hp : pc + 1 = pc') (G : GoK p e below D T (mkF m pc' Ls (.long (x.toInt64) :: St))) : GoK p e below D T (mkF m pc Ls (.int x :: St)) := by
  subst hp
  exact GoK.by (fun t k => XS.i2l X.at hx rfl hd rfl k) G
theorem go_l2i (X : OnK p l e R s m args below meth c n0 T h cells slots) (hx : p.tables.exec = Jvm.exec) {x : Int64} (hd : decode c.code pc = .ok (.l2i, 1)) (hp : pc + 1 = pc') (G : GoK p e below D T (mkF m pc' Ls (.int (x.toInt32) :: St))) : GoK p e below D T (mkF m pc Ls (.long x :: St)) := by
  subst hp
  exact GoK.by (fun t k => XS.l2i X.at hx rfl hd rfl k) G
theorem go_i2b (X : OnK p l e R s m args below meth c n0 T h cells slots) (hx : p.tables.exec = Jvm.exec) {x : Int32} (hd : decode c.code pc = .ok (.i2b, 1)) (hp : pc + 1 = pc') (G : GoK p e below D T (mkF m pc' Ls (.int (x.toInt8.toInt32) :: St))) : GoK p e below D T (mkF m pc Ls (.int x :: St)) := by
  subst hp
  exact GoK.by (fun t k => XS.i2b X.at hx rfl hd rfl k) G
theorem go_i2s (X : OnK p l e R s m args below meth c n0 T h cells slots) (hx : p.tables.exec = Jvm.exec) {x : Int32} (hd : decode c.code pc = .ok (.i2s, 1)) (hp : pc + 1 = pc') (G : GoK p e below D T (mkF m pc' Ls (.int (x.toInt16.toInt32) :: St))) : GoK p e below D T (mkF m pc Ls (.int x :: St)) := by
  subst hp
  exact GoK.by (fun t k => XS.i2s X.at hx rfl hd rfl k) G
theorem go_i2c (X : OnK p l e R s m args below meth c n0 T h cells slots) (hx : p.tables.exec = Jvm.exec) {x : Int32} (hd : decode c.code pc = .ok (.i2c, 1)) (hp : pc + 1 = pc') (G : GoK p e below D T (mkF m pc' Ls (.int (x.toUInt32.toUInt16.toUInt32.toInt32) :: St))) : GoK p e below D T (mkF m pc Ls (.int x :: St)) := by
  subst hp
  exact GoK.by (fun t k => XS.i2c X.at hx rfl hd rfl k) G
theorem go_dup (X : OnK p l e R s m args below meth c n0 T h cells slots) (hx : p.tables.exec = Jvm.exec) {v : Value} (hd : decode c.code pc = .ok (.dup, 1)) (hp : pc + 1 = pc') (hv : v.category = 1) (G : GoK p e below D T (mkF m pc' Ls (v :: v :: St))) : GoK p e below D T (mkF m pc Ls (v :: St)) := by
  subst hp
  exact GoK.by (fun t k => XS.dup X.at hx rfl hd rfl hv k) G
theorem go_pop (X : OnK p l e R s m args below meth c n0 T h cells slots) (hx : p.tables.exec = Jvm.exec) {v : Value} (hd : decode c.code pc = .ok (.pop, 1)) (hp : pc + 1 = pc') (hv : v.category = 1) (G : GoK p e below D T (mkF m pc' Ls St)) : GoK p e below D T (mkF m pc Ls (v :: St)) := by
  subst hp
  exact GoK.by (fun t k => XS.pop X.at hx rfl hd rfl hv k) G
theorem go_iload (X : OnK p l e R s m args below meth c n0 T h cells slots) (hx : p.tables.exec = Jvm.exec) {k : Nat} {v : Int32} (hd : decode c.code pc = .ok (.iload k, 2)) (hp : pc + 2 = pc') (hl : Ls[k]? = some (.val (.int v))) (G : GoK p e below D T (mkF m pc' Ls (.int v :: St))) : GoK p e below D T (mkF m pc Ls St) := by
  subst hp
  exact GoK.by (fun t k => XS.iload X.at hx rfl hd hl k) G
theorem go_lload (X : OnK p l e R s m args below meth c n0 T h cells slots) (hx : p.tables.exec = Jvm.exec) {k : Nat} {v : Int64} (hd : decode c.code pc = .ok (.lload k, 2)) (hp : pc + 2 = pc') (hl : Ls[k]? = some (.val (.long v))) (G : GoK p e below D T (mkF m pc' Ls (.long v :: St))) : GoK p e below D T (mkF m pc Ls St) := by
  subst hp
  exact GoK.by (fun t k => XS.lload X.at hx rfl hd hl k) G
theorem go_aload (X : OnK p l e R s m args below meth c n0 T h cells slots) (hx : p.tables.exec = Jvm.exec) {k : Nat} {v : Addr} (hd : decode c.code pc = .ok (.aload k, 2)) (hp : pc + 2 = pc') (hl : Ls[k]? = some (.val (.ref v))) (G : GoK p e below D T (mkF m pc' Ls (.ref v :: St))) : GoK p e below D T (mkF m pc Ls St) := by
  subst hp
  exact GoK.by (fun t k => XS.aload X.at hx rfl hd hl rfl k) G
theorem go_istore (X : OnK p l e R s m args below meth c n0 T h cells slots) (hx : p.tables.exec = Jvm.exec) {k : Nat} {v : Int32} {L' : Array Slot} (hd : decode c.code pc = .ok (.istore k, 2)) (hp : pc + 2 = pc') (hl : storeLocals Ls k (.int v) = some L') (G : GoK p e below D T (mkF m pc' L' St)) : GoK p e below D T (mkF m pc Ls (.int v :: St)) := by
  subst hp
  exact GoK.by (fun t k => XS.istore X.at hx rfl hd rfl hl k) G
theorem go_lstore (X : OnK p l e R s m args below meth c n0 T h cells slots) (hx : p.tables.exec = Jvm.exec) {k : Nat} {v : Int64} {L' : Array Slot} (hd : decode c.code pc = .ok (.lstore k, 2)) (hp : pc + 2 = pc') (hl : storeLocals Ls k (.long v) = some L') (G : GoK p e below D T (mkF m pc' L' St)) : GoK p e below D T (mkF m pc Ls (.long v :: St)) := by
  subst hp
  exact GoK.by (fun t k => XS.lstore X.at hx rfl hd rfl hl k) G
theorem go_astore (X : OnK p l e R s m args below meth c n0 T h cells slots) (hx : p.tables.exec = Jvm.exec) {k : Nat} {v : Addr} {L' : Array Slot} (hd : decode c.code pc = .ok (.astore k, 2)) (hp : pc + 2 = pc') (hl : storeLocals Ls k (.ref v) = some L') (G : GoK p e below D T (mkF m pc' L' St)) : GoK p e below D T (mkF m pc Ls (.ref v :: St)) := by
  subst hp
  exact GoK.by (fun t k => XS.astore X.at hx rfl hd rfl rfl hl k) G
theorem go_iloadN (X : OnK p l e R s m args below meth c n0 T h cells slots) (hx : p.tables.exec = Jvm.exec) {k : Fin 4} {v : Int32} (hd : decode c.code pc = .ok (.iload_n k, 1)) (hp : pc + 1 = pc') (hl : Ls[k.val]? = some (.val (.int v))) (G : GoK p e below D T (mkF m pc' Ls (.int v :: St))) : GoK p e below D T (mkF m pc Ls St) := by
  subst hp
  exact GoK.by (fun t k => XS.iloadN X.at hx rfl hd hl k) G
theorem go_lloadN (X : OnK p l e R s m args below meth c n0 T h cells slots) (hx : p.tables.exec = Jvm.exec) {k : Fin 4} {v : Int64} (hd : decode c.code pc = .ok (.lload_n k, 1)) (hp : pc + 1 = pc') (hl : Ls[k.val]? = some (.val (.long v))) (G : GoK p e below D T (mkF m pc' Ls (.long v :: St))) : GoK p e below D T (mkF m pc Ls St) := by
  subst hp
  exact GoK.by (fun t k => XS.lloadN X.at hx rfl hd hl k) G
theorem go_aloadN (X : OnK p l e R s m args below meth c n0 T h cells slots) (hx : p.tables.exec = Jvm.exec) {k : Fin 4} {v : Addr} (hd : decode c.code pc = .ok (.aload_n k, 1)) (hp : pc + 1 = pc') (hl : Ls[k.val]? = some (.val (.ref v))) (G : GoK p e below D T (mkF m pc' Ls (.ref v :: St))) : GoK p e below D T (mkF m pc Ls St) := by
  subst hp
  exact GoK.by (fun t k => XS.aloadN X.at hx rfl hd hl rfl k) G
theorem go_istoreN (X : OnK p l e R s m args below meth c n0 T h cells slots) (hx : p.tables.exec = Jvm.exec) {k : Fin 4} {v : Int32} {L' : Array Slot} (hd : decode c.code pc = .ok (.istore_n k, 1)) (hp : pc + 1 = pc') (hl : storeLocals Ls k.val (.int v) = some L') (G : GoK p e below D T (mkF m pc' L' St)) : GoK p e below D T (mkF m pc Ls (.int v :: St)) := by
  subst hp
  exact GoK.by (fun t k => XS.istoreN X.at hx rfl hd rfl hl k) G
theorem go_lstoreN (X : OnK p l e R s m args below meth c n0 T h cells slots) (hx : p.tables.exec = Jvm.exec) {k : Fin 4} {v : Int64} {L' : Array Slot} (hd : decode c.code pc = .ok (.lstore_n k, 1)) (hp : pc + 1 = pc') (hl : storeLocals Ls k.val (.long v) = some L') (G : GoK p e below D T (mkF m pc' L' St)) : GoK p e below D T (mkF m pc Ls (.long v :: St)) := by
  subst hp
  exact GoK.by (fun t k => XS.lstoreN X.at hx rfl hd rfl hl k) G
theorem go_astoreN (X : OnK p l e R s m args below meth c n0 T h cells slots) (hx : p.tables.exec = Jvm.exec) {k : Fin 4} {v : Addr} {L' : Array Slot} (hd : decode c.code pc = .ok (.astore_n k, 1)) (hp : pc + 1 = pc') (hl : storeLocals Ls k.val (.ref v) = some L') (G : GoK p e below D T (mkF m pc' L' St)) : GoK p e below D T (mkF m pc Ls (.ref v :: St)) := by
  subst hp
  exact GoK.by (fun t k => XS.astoreN X.at hx rfl hd rfl rfl hl k) G
theorem go_iinc (X : OnK p l e R s m args below meth c n0 T h cells slots) (hx : p.tables.exec = Jvm.exec) {k : Nat} {i : Int} {v w : Int32} {L' : Array Slot} (hd : decode c.code pc = .ok (.iinc k i, 3)) (hp : pc + 3 = pc') (hl : Ls[k]? = some (.val (.int v))) (hi : v + Int32.ofInt i = w) (hs : storeLocals Ls k (.int w) = some L') (G : GoK p e below D T (mkF m pc' L' St)) : GoK p e below D T (mkF m pc Ls St) := by
  subst hp
  exact GoK.by (fun t k => XS.iinc X.at hx rfl hd hl (hi.symm ▸ hs) k) G
theorem go_iconst (X : OnK p l e R s m args below meth c n0 T h cells slots) (hx : p.tables.exec = Jvm.exec) {i : Int} {v : Int32} (hd : decode c.code pc = .ok (.iconst i, 1)) (hp : pc + 1 = pc') (hv : Int32.ofInt i = v) (G : GoK p e below D T (mkF m pc' Ls (.int v :: St))) : GoK p e below D T (mkF m pc Ls St) := by
  subst hp
  exact GoK.by (fun t k => Jvm.Free.XT.iconstV X.at hx rfl v hd hv k) G
theorem go_bipush (X : OnK p l e R s m args below meth c n0 T h cells slots) (hx : p.tables.exec = Jvm.exec) {i : Int} {v : Int32} (hd : decode c.code pc = .ok (.bipush i, 2)) (hp : pc + 2 = pc') (hv : (Int8.ofInt i).toInt32 = v) (G : GoK p e below D T (mkF m pc' Ls (.int v :: St))) : GoK p e below D T (mkF m pc Ls St) := by
  subst hp
  exact GoK.by (fun t k => Jvm.Free.XT.bipushV X.at hx rfl v hd hv k) G
theorem go_sipush (X : OnK p l e R s m args below meth c n0 T h cells slots) (hx : p.tables.exec = Jvm.exec) {i : Int} {v : Int32} (hd : decode c.code pc = .ok (.sipush i, 3)) (hp : pc + 3 = pc') (hv : (Int16.ofInt i).toInt32 = v) (G : GoK p e below D T (mkF m pc' Ls (.int v :: St))) : GoK p e below D T (mkF m pc Ls St) := by
  subst hp
  exact GoK.by (fun t k => Jvm.Free.XT.sipushV X.at hx rfl v hd hv k) G
theorem go_lconst (X : OnK p l e R s m args below meth c n0 T h cells slots) (hx : p.tables.exec = Jvm.exec) {i : Fin 2} {v : Int64} (hd : decode c.code pc = .ok (.lconst i, 1)) (hp : pc + 1 = pc') (hv : Int64.ofNat i = v) (G : GoK p e below D T (mkF m pc' Ls (.long v :: St))) : GoK p e below D T (mkF m pc Ls St) := by
  subst hp
  exact GoK.by (fun t k => Jvm.Free.XT.lconstV X.at hx rfl v hd hv k) G
theorem go_goto (X : OnK p l e R s m args below meth c n0 T h cells slots) (hx : p.tables.exec = Jvm.exec) {o : Int} (hd : decode c.code pc = .ok (.goto o, 3)) (ho : 0 ≤ (pc : Int) + o) (hp : ((pc : Int) + o).toNat = pc') (G : GoK p e below D T (mkF m pc' Ls St)) : GoK p e below D T (mkF m pc Ls St) :=
  GoK.by (fun t k => XS.goto X.at hx rfl rfl hd ho hp k) G
theorem go_dup2 (X : OnK p l e R s m args below meth c n0 T h cells slots) (hx : p.tables.exec = Jvm.exec) {j : Int32} {a : Addr} (hd : decode c.code pc = .ok (.dup2, 1)) (hp : pc + 1 = pc') (G : GoK p e below D T (mkF m pc' Ls (.int j :: .ref a :: .int j :: .ref a :: St))) : GoK p e below D T (mkF m pc Ls (.int j :: .ref a :: St)) := by
  subst hp
  refine GoK.by (fun t k => ?_) G
  jvm_step X.at [X.at.top, hx, hd, Value.category]
  exact k
theorem go_ldcI (X : OnK p l e R s m args below meth c n0 T h cells slots) (hx : p.tables.exec = Jvm.exec) (hZ : Z.Warmed39 s.vm) {own : String} {i : Nat} {v : Int32} (hown : s.vm.findClass own = some m.cls) (wd : (Jvm.Cond.constant own i v).before a0 Z = true) (hd : decode c.code pc = .ok (.ldc i, 2)) (hp : pc + 2 = pc') (G : GoK p e below D T (mkF m pc' Ls (.int v :: St))) : GoK p e below D T (mkF m pc Ls St) := by
  subst hp
  obtain ⟨_, Y, -, -⟩ := X
  exact GoK.by (fun t k => Y.ldcInt hx hown (mvT hZ wd) (g := mkF m pc Ls St) rfl hd t k) G
theorem go_ldcwI (X : OnK p l e R s m args below meth c n0 T h cells slots) (hx : p.tables.exec = Jvm.exec) (hZ : Z.Warmed39 s.vm) {own : String} {i : Nat} {v : Int32} (hown : s.vm.findClass own = some m.cls) (wd : (Jvm.Cond.constant own i v).before a0 Z = true) (hd : decode c.code pc = .ok (.ldc_w i, 3)) (hp : pc + 3 = pc') (G : GoK p e below D T (mkF m pc' Ls (.int v :: St))) : GoK p e below D T (mkF m pc Ls St) := by
  subst hp
  obtain ⟨_, Y, -, -⟩ := X
  exact GoK.by (fun t k => Y.ldcwInt hx hown (mvT hZ wd) (g := mkF m pc Ls St) rfl hd t k) G
theorem go_ldc2 (X : OnK p l e R s m args below meth c n0 T h cells slots) (hx : p.tables.exec = Jvm.exec) (hZ : Z.Warmed39 s.vm) {own : String} {i : Nat} {v : Int64} (hown : s.vm.findClass own = some m.cls) (wd : (Jvm.Cond.constantLong own i v).before a0 Z = true) (hd : decode c.code pc = .ok (.ldc2_w i, 3)) (hp : pc + 3 = pc') (G : GoK p e below D T (mkF m pc' Ls (.long v :: St))) : GoK p e below D T (mkF m pc Ls St) := by
  subst hp
  obtain ⟨_, Y, -, -⟩ := X
  exact GoK.by (fun t k => Y.ldc2Long hx hown (mvT hZ wd) (g := mkF m pc Ls St) rfl hd t k) G
theorem go_ifeq (X : OnK p l e R s m args below meth c n0 T h cells slots) (hx : p.tables.exec = Jvm.exec) {x : Int32} {o : Int} {pcT : Nat} (hd : decode c.code pc = .ok (.ifCond .eq o, 3)) (hp : pc + 3 = pc') (ho : 0 ≤ (pc : Int) + o) (ht : ((pc : Int) + o).toNat = pcT) (G1 : x = 0 → GoK p e below D T (mkF m pcT Ls St)) (G2 : ¬ x = 0 → GoK p e below D T (mkF m pc' Ls St)) : GoK p e below D T (mkF m pc Ls (.int x :: St)) := by
  subst hp
  by_cases q : x = 0
  · exact GoK.by (fun t k => XS.ifYes X.at hx rfl rfl hd rfl ((if0 _ _).trans (teq q).1) ho ht k) (G1 q)
  · exact GoK.by (fun t k => XS.ifNo X.at hx rfl hd rfl ((if0 _ _).trans (feq q).1) k) (G2 q)
theorem go_icmpeq (X : OnK p l e R s m args below meth c n0 T h cells slots) (hx : p.tables.exec = Jvm.exec) {x y : Int32} {o : Int} {pcT : Nat} (hd : decode c.code pc = .ok (.if_icmp .eq o, 3)) (hp : pc + 3 = pc') (ho : 0 ≤ (pc : Int) + o) (ht : ((pc : Int) + o).toNat = pcT) (G1 : x = y → GoK p e below D T (mkF m pcT Ls St)) (G2 : ¬ x = y → GoK p e below D T (mkF m pc' Ls St)) : GoK p e below D T (mkF m pc Ls (.int y :: .int x :: St)) := by
  subst hp
  by_cases q : x = y
  · exact GoK.by (fun t k => XS.icmpYes X.at hx rfl rfl hd rfl (teq q).1 ho ht k) (G1 q)
  · exact GoK.by (fun t k => XS.icmpNo X.at hx rfl hd rfl (feq q).1 k) (G2 q)
theorem go_lifeq (X : OnK p l e R s m args below meth c n0 T h cells slots) (hx : p.tables.exec = Jvm.exec) {x y : Int64} {o : Int} {pc1 pcT : Nat} (hd1 : decode c.code pc = .ok (.lcmp, 1)) (hp1 : pc + 1 = pc1) (hd : decode c.code pc1 = .ok (.ifCond .eq o, 3)) (hp : pc1 + 3 = pc') (ho : 0 ≤ (pc1 : Int) + o) (ht : ((pc1 : Int) + o).toNat = pcT) (G1 : x = y → GoK p e below D T (mkF m pcT Ls St)) (G2 : ¬ x = y → GoK p e below D T (mkF m pc' Ls St)) : GoK p e below D T (mkF m pc Ls (.long y :: .long x :: St)) := by
  subst hp1
  refine GoK.by (fun t k => XS.lcmp X.at hx rfl hd1 rfl k) ?_
  exact go_ifeq X hx hd hp ho ht (fun q => G1 ((lw_eq x y).mp q)) (fun q => G2 ((not_congr (lw_eq x y)).mp q))
theorem go_ifne (X : OnK p l e R s m args below meth c n0 T h cells slots) (hx : p.tables.exec = Jvm.exec) {x : Int32} {o : Int} {pcT : Nat} (hd : decode c.code pc = .ok (.ifCond .ne o, 3)) (hp : pc + 3 = pc') (ho : 0 ≤ (pc : Int) + o) (ht : ((pc : Int) + o).toNat = pcT) (G1 : ¬ x = 0 → GoK p e below D T (mkF m pcT Ls St)) (G2 : x = 0 → GoK p e below D T (mkF m pc' Ls St)) : GoK p e below D T (mkF m pc Ls (.int x :: St)) := by
  subst hp
  by_cases q : ¬ x = 0
  · exact GoK.by (fun t k => XS.ifYes X.at hx rfl rfl hd rfl ((if0 _ _).trans (feq q).2) ho ht k) (G1 q)
  · exact GoK.by (fun t k => XS.ifNo X.at hx rfl hd rfl ((if0 _ _).trans (teq (Classical.not_not.mp q)).2) k) (G2 (Classical.not_not.mp q))
theorem go_icmpne (X : OnK p l e R s m args below meth c n0 T h cells slots) (hx : p.tables.exec = Jvm.exec) {x y : Int32} {o : Int} {pcT : Nat} (hd : decode c.code pc = .ok (.if_icmp .ne o, 3)) (hp : pc + 3 = pc') (ho : 0 ≤ (pc : Int) + o) (ht : ((pc : Int) + o).toNat = pcT) (G1 : ¬ x = y → GoK p e below D T (mkF m pcT Ls St)) (G2 : x = y → GoK p e below D T (mkF m pc' Ls St)) : GoK p e below D T (mkF m pc Ls (.int y :: .int x :: St)) := by
  subst hp
  by_cases q : ¬ x = y
  · exact GoK.by (fun t k => XS.icmpYes X.at hx rfl rfl hd rfl (feq q).2 ho ht k) (G1 q)
  · exact GoK.by (fun t k => XS.icmpNo X.at hx rfl hd rfl (teq (Classical.not_not.mp q)).2 k) (G2 (Classical.not_not.mp q))
theorem go_lifne (X : OnK p l e R s m args below meth c n0 T h cells slots) (hx : p.tables.exec = Jvm.exec) {x y : Int64} {o : Int} {pc1 pcT : Nat} (hd1 : decode c.code pc = .ok (.lcmp, 1)) (hp1 : pc + 1 = pc1) (hd : decode c.code pc1 = .ok (.ifCond .ne o, 3)) (hp : pc1 + 3 = pc') (ho : 0 ≤ (pc1 : Int) + o) (ht : ((pc1 : Int) + o).toNat = pcT) (G1 : ¬ x = y → GoK p e below D T (mkF m pcT Ls St)) (G2 : x = y → GoK p e below D T (mkF m pc' Ls St)) : GoK p e below D T (mkF m pc Ls (.long y :: .long x :: St)) := by
  subst hp1
  refine GoK.by (fun t k => XS.lcmp X.at hx rfl hd1 rfl k) ?_
  exact go_ifne X hx hd hp ho ht (fun q => G1 ((not_congr (lw_eq x y)).mp q)) (fun q => G2 ((lw_eq x y).mp q))
theorem go_iflt (X : OnK p l e R s m args below meth c n0 T h cells slots) (hx : p.tables.exec = Jvm.exec) {x : Int32} {o : Int} {pcT : Nat} (hd : decode c.code pc = .ok (.ifCond .lt o, 3)) (hp : pc + 3 = pc') (ho : 0 ≤ (pc : Int) + o) (ht : ((pc : Int) + o).toNat = pcT) (G1 : x < 0 → GoK p e below D T (mkF m pcT Ls St)) (G2 : ¬ x < 0 → GoK p e below D T (mkF m pc' Ls St)) : GoK p e below D T (mkF m pc Ls (.int x :: St)) := by
  subst hp
  by_cases q : x < 0
  · exact GoK.by (fun t k => XS.ifYes X.at hx rfl rfl hd rfl ((if0 _ _).trans (tlt q).1) ho ht k) (G1 q)
  · exact GoK.by (fun t k => XS.ifNo X.at hx rfl hd rfl ((if0 _ _).trans (flt q).1) k) (G2 q)
theorem go_icmplt (X : OnK p l e R s m args below meth c n0 T h cells slots) (hx : p.tables.exec = Jvm.exec) {x y : Int32} {o : Int} {pcT : Nat} (hd : decode c.code pc = .ok (.if_icmp .lt o, 3)) (hp : pc + 3 = pc') (ho : 0 ≤ (pc : Int) + o) (ht : ((pc : Int) + o).toNat = pcT) (G1 : x < y → GoK p e below D T (mkF m pcT Ls St)) (G2 : ¬ x < y → GoK p e below D T (mkF m pc' Ls St)) : GoK p e below D T (mkF m pc Ls (.int y :: .int x :: St)) := by
  subst hp
  by_cases q : x < y
  · exact GoK.by (fun t k => XS.icmpYes X.at hx rfl rfl hd rfl (tlt q).1 ho ht k) (G1 q)
  · exact GoK.by (fun t k => XS.icmpNo X.at hx rfl hd rfl (flt q).1 k) (G2 q)
theorem go_liflt (X : OnK p l e R s m args below meth c n0 T h cells slots) (hx : p.tables.exec = Jvm.exec) {x y : Int64} {o : Int} {pc1 pcT : Nat} (hd1 : decode c.code pc = .ok (.lcmp, 1)) (hp1 : pc + 1 = pc1) (hd : decode c.code pc1 = .ok (.ifCond .lt o, 3)) (hp : pc1 + 3 = pc') (ho : 0 ≤ (pc1 : Int) + o) (ht : ((pc1 : Int) + o).toNat = pcT) (G1 : x < y → GoK p e below D T (mkF m pcT Ls St)) (G2 : ¬ x < y → GoK p e below D T (mkF m pc' Ls St)) : GoK p e below D T (mkF m pc Ls (.long y :: .long x :: St)) := by
  subst hp1
  refine GoK.by (fun t k => XS.lcmp X.at hx rfl hd1 rfl k) ?_
  exact go_iflt X hx hd hp ho ht (fun q => G1 ((lw_lt x y).mp q)) (fun q => G2 ((not_congr (lw_lt x y)).mp q))
theorem go_ifge (X : OnK p l e R s m args below meth c n0 T h cells slots) (hx : p.tables.exec = Jvm.exec) {x : Int32} {o : Int} {pcT : Nat} (hd : decode c.code pc = .ok (.ifCond .ge o, 3)) (hp : pc + 3 = pc') (ho : 0 ≤ (pc : Int) + o) (ht : ((pc : Int) + o).toNat = pcT) (G1 : ¬ x < 0 → GoK p e below D T (mkF m pcT Ls St)) (G2 : x < 0 → GoK p e below D T (mkF m pc' Ls St)) : GoK p e below D T (mkF m pc Ls (.int x :: St)) := by
  subst hp
  by_cases q : ¬ x < 0
  · exact GoK.by (fun t k => XS.ifYes X.at hx rfl rfl hd rfl ((if0 _ _).trans (flt q).2.1) ho ht k) (G1 q)
  · exact GoK.by (fun t k => XS.ifNo X.at hx rfl hd rfl ((if0 _ _).trans (tlt (Classical.not_not.mp q)).2.1) k) (G2 (Classical.not_not.mp q))
theorem go_icmpge (X : OnK p l e R s m args below meth c n0 T h cells slots) (hx : p.tables.exec = Jvm.exec) {x y : Int32} {o : Int} {pcT : Nat} (hd : decode c.code pc = .ok (.if_icmp .ge o, 3)) (hp : pc + 3 = pc') (ho : 0 ≤ (pc : Int) + o) (ht : ((pc : Int) + o).toNat = pcT) (G1 : ¬ x < y → GoK p e below D T (mkF m pcT Ls St)) (G2 : x < y → GoK p e below D T (mkF m pc' Ls St)) : GoK p e below D T (mkF m pc Ls (.int y :: .int x :: St)) := by
  subst hp
  by_cases q : ¬ x < y
  · exact GoK.by (fun t k => XS.icmpYes X.at hx rfl rfl hd rfl (flt q).2.1 ho ht k) (G1 q)
  · exact GoK.by (fun t k => XS.icmpNo X.at hx rfl hd rfl (tlt (Classical.not_not.mp q)).2.1 k) (G2 (Classical.not_not.mp q))
theorem go_lifge (X : OnK p l e R s m args below meth c n0 T h cells slots) (hx : p.tables.exec = Jvm.exec) {x y : Int64} {o : Int} {pc1 pcT : Nat} (hd1 : decode c.code pc = .ok (.lcmp, 1)) (hp1 : pc + 1 = pc1) (hd : decode c.code pc1 = .ok (.ifCond .ge o, 3)) (hp : pc1 + 3 = pc') (ho : 0 ≤ (pc1 : Int) + o) (ht : ((pc1 : Int) + o).toNat = pcT) (G1 : ¬ x < y → GoK p e below D T (mkF m pcT Ls St)) (G2 : x < y → GoK p e below D T (mkF m pc' Ls St)) : GoK p e below D T (mkF m pc Ls (.long y :: .long x :: St)) := by
  subst hp1
  refine GoK.by (fun t k => XS.lcmp X.at hx rfl hd1 rfl k) ?_
  exact go_ifge X hx hd hp ho ht (fun q => G1 ((not_congr (lw_lt x y)).mp q)) (fun q => G2 ((lw_lt x y).mp q))
theorem go_ifgt (X : OnK p l e R s m args below meth c n0 T h cells slots) (hx : p.tables.exec = Jvm.exec) {x : Int32} {o : Int} {pcT : Nat} (hd : decode c.code pc = .ok (.ifCond .gt o, 3)) (hp : pc + 3 = pc') (ho : 0 ≤ (pc : Int) + o) (ht : ((pc : Int) + o).toNat = pcT) (G1 : 0 < x → GoK p e below D T (mkF m pcT Ls St)) (G2 : ¬ 0 < x → GoK p e below D T (mkF m pc' Ls St)) : GoK p e below D T (mkF m pc Ls (.int x :: St)) := by
  subst hp
  by_cases q : 0 < x
  · exact GoK.by (fun t k => XS.ifYes X.at hx rfl rfl hd rfl ((if0 _ _).trans (tlt q).2.2.1) ho ht k) (G1 q)
  · exact GoK.by (fun t k => XS.ifNo X.at hx rfl hd rfl ((if0 _ _).trans (flt q).2.2.1) k) (G2 q)
theorem go_icmpgt (X : OnK p l e R s m args below meth c n0 T h cells slots) (hx : p.tables.exec = Jvm.exec) {x y : Int32} {o : Int} {pcT : Nat} (hd : decode c.code pc = .ok (.if_icmp .gt o, 3)) (hp : pc + 3 = pc') (ho : 0 ≤ (pc : Int) + o) (ht : ((pc : Int) + o).toNat = pcT) (G1 : y < x → GoK p e below D T (mkF m pcT Ls St)) (G2 : ¬ y < x → GoK p e below D T (mkF m pc' Ls St)) : GoK p e below D T (mkF m pc Ls (.int y :: .int x :: St)) := by
  subst hp
  by_cases q : y < x
  · exact GoK.by (fun t k => XS.icmpYes X.at hx rfl rfl hd rfl (tlt q).2.2.1 ho ht k) (G1 q)
  · exact GoK.by (fun t k => XS.icmpNo X.at hx rfl hd rfl (flt q).2.2.1 k) (G2 q)
theorem go_lifgt (X : OnK p l e R s m args below meth c n0 T h cells slots) (hx : p.tables.exec = Jvm.exec) {x y : Int64} {o : Int} {pc1 pcT : Nat} (hd1 : decode c.code pc = .ok (.lcmp, 1)) (hp1 : pc + 1 = pc1) (hd : decode c.code pc1 = .ok (.ifCond .gt o, 3)) (hp : pc1 + 3 = pc') (ho : 0 ≤ (pc1 : Int) + o) (ht : ((pc1 : Int) + o).toNat = pcT) (G1 : y < x → GoK p e below D T (mkF m pcT Ls St)) (G2 : ¬ y < x → GoK p e below D T (mkF m pc' Ls St)) : GoK p e below D T (mkF m pc Ls (.long y :: .long x :: St)) := by
  subst hp1
  refine GoK.by (fun t k => XS.lcmp X.at hx rfl hd1 rfl k) ?_
  exact go_ifgt X hx hd hp ho ht (fun q => G1 ((lw_gt x y).mp q)) (fun q => G2 ((not_congr (lw_gt x y)).mp q))
theorem go_ifle (X : OnK p l e R s m args below meth c n0 T h cells slots) (hx : p.tables.exec = Jvm.exec) {x : Int32} {o : Int} {pcT : Nat} (hd : decode c.code pc = .ok (.ifCond .le o, 3)) (hp : pc + 3 = pc') (ho : 0 ≤ (pc : Int) + o) (ht : ((pc : Int) + o).toNat = pcT) (G1 : ¬ 0 < x → GoK p e below D T (mkF m pcT Ls St)) (G2 : 0 < x → GoK p e below D T (mkF m pc' Ls St)) : GoK p e below D T (mkF m pc Ls (.int x :: St)) := by
  subst hp
  by_cases q : ¬ 0 < x
  · exact GoK.by (fun t k => XS.ifYes X.at hx rfl rfl hd rfl ((if0 _ _).trans (flt q).2.2.2) ho ht k) (G1 q)
  · exact GoK.by (fun t k => XS.ifNo X.at hx rfl hd rfl ((if0 _ _).trans (tlt (Classical.not_not.mp q)).2.2.2) k) (G2 (Classical.not_not.mp q))
theorem go_icmple (X : OnK p l e R s m args below meth c n0 T h cells slots) (hx : p.tables.exec = Jvm.exec) {x y : Int32} {o : Int} {pcT : Nat} (hd : decode c.code pc = .ok (.if_icmp .le o, 3)) (hp : pc + 3 = pc') (ho : 0 ≤ (pc : Int) + o) (ht : ((pc : Int) + o).toNat = pcT) (G1 : ¬ y < x → GoK p e below D T (mkF m pcT Ls St)) (G2 : y < x → GoK p e below D T (mkF m pc' Ls St)) : GoK p e below D T (mkF m pc Ls (.int y :: .int x :: St)) := by
  subst hp
  by_cases q : ¬ y < x
  · exact GoK.by (fun t k => XS.icmpYes X.at hx rfl rfl hd rfl (flt q).2.2.2 ho ht k) (G1 q)
  · exact GoK.by (fun t k => XS.icmpNo X.at hx rfl hd rfl (tlt (Classical.not_not.mp q)).2.2.2 k) (G2 (Classical.not_not.mp q))
theorem go_lifle (X : OnK p l e R s m args below meth c n0 T h cells slots) (hx : p.tables.exec = Jvm.exec) {x y : Int64} {o : Int} {pc1 pcT : Nat} (hd1 : decode c.code pc = .ok (.lcmp, 1)) (hp1 : pc + 1 = pc1) (hd : decode c.code pc1 = .ok (.ifCond .le o, 3)) (hp : pc1 + 3 = pc') (ho : 0 ≤ (pc1 : Int) + o) (ht : ((pc1 : Int) + o).toNat = pcT) (G1 : ¬ y < x → GoK p e below D T (mkF m pcT Ls St)) (G2 : y < x → GoK p e below D T (mkF m pc' Ls St)) : GoK p e below D T (mkF m pc Ls (.long y :: .long x :: St)) := by
  subst hp1
  refine GoK.by (fun t k => XS.lcmp X.at hx rfl hd1 rfl k) ?_
  exact go_ifle X hx hd hp ho ht (fun q => G1 ((not_congr (lw_gt x y)).mp q)) (fun q => G2 ((lw_gt x y).mp q))
/-- the array at a: of n places, place i holds the int f i -/
def AIK (Z : State) (h : Heap) (a : Addr) (ty : FieldType) (n : Int) (f : Int → Int32) : Prop := ∃ c : Cell, Arr Z h a c ty ∧ (c.slots.size : Int) = n ∧ n < 2147483648 ∧ ∀ i : Nat, (i : Int) < n → c.slots[i]? = some (.int (f i))
def AJK (Z : State) (h : Heap) (a : Addr) (n : Int) (f : Int → Int64) : Prop := ∃ c : Cell, Arr Z h a c .long ∧ (c.slots.size : Int) = n ∧ n < 2147483648 ∧ ∀ i : Nat, (i : Int) < n → c.slots[i]? = some (.long (f i))
theorem AIK.lt {a : Addr} {ty : FieldType} {n : Int} {f : Int → Int32} (F : AIK Z h a ty n f) : a < h.size := by obtain ⟨c, A, -⟩ := F; exact A.lt
theorem AIK.nn {a : Addr} {ty : FieldType} {n : Int} {f : Int → Int32} (F : AIK Z h a ty n f) : 0 ≤ n ∧ n < 2147483648 := by obtain ⟨c, -, S, q, -⟩ := F; exact ⟨by omega, q⟩
theorem AIK.ext {h' : Heap} {a : Addr} {ty : FieldType} {n : Int} {f : Int → Int32} (F : AIK Z h a ty n f) (E : Ext h h') : AIK Z h' a ty n f := by obtain ⟨c, A, r⟩ := F; exact ⟨c, A.ext E, r⟩
theorem AIK.other {h' : Heap} {a b : Addr} {sl : Nat} {v : Value} {ty : FieldType} {n : Int} {f : Int → Int32} (F : AIK Z h b ty n f) (W : Wr h h' a sl v) (q : b ≠ a) : AIK Z h' b ty n f := by obtain ⟨c, A, r⟩ := F; exact ⟨c, A.other W q, r⟩
theorem AIK.keep {h' : Heap} {a : Addr} {ws : List Addr} {ty : FieldType} {n : Int} {f : Int → Int32} (F : AIK Z h a ty n f) (K : Keep h h' ws) (q : a ∉ ws) : AIK Z h' a ty n f := by obtain ⟨c, A, r⟩ := F; exact ⟨c, ⟨K.2.1 a c A.1 q, A.2⟩, r⟩
theorem AIK.of_arv {a : Addr} {k : ClassId} {ty : FieldType} {z : Int32} {n : Int} {x : Int32} (F : Arv Z h a k ty z [] (.int x)) (q : z.toInt = n) : AIK Z h a ty n (fun _ => x) := by
  obtain ⟨c, A, -, S, M, H, -⟩ := F
  rw [Int32.lt_iff_toInt_lt] at M
  have hz : (0 : Int32).toInt = 0 := rfl
  have hr := rng32 z
  have S' : c.slots.size = z.toInt.toNat := S
  refine ⟨c, A, by omega, by omega, fun i hi => ?_⟩
  exact (H i (by omega)).trans rfl
theorem AIK.set {h' : Heap} {a : Addr} {j : Int32} {ty : FieldType} {n : Int} {f : Int → Int32} {x : Int32} (F : AIK Z h a ty n f) (W : Wr h h' a j.toNatClampNeg (.int x)) (h1 : 0 ≤ j.toInt) (h2 : j.toInt < n) : AIK Z h' a ty n (fun i => if i = j.toInt then x else f i) := by
  obtain ⟨c, A, S, M, H⟩ := F
  have hj : j.toNatClampNeg = j.toInt.toNat := rfl
  refine ⟨_, A.same W, ?_, M, fun i hi => ?_⟩
  · show (((c.slots.setIfInBounds j.toNatClampNeg (Value.int x)).size : Nat) : Int) = n
    rw [Array.size_setIfInBounds]; exact S
  · show (c.slots.setIfInBounds j.toNatClampNeg (Value.int x))[i]? = _
    rw [Array.getElem?_setIfInBounds]
    by_cases q : j.toNatClampNeg = i
    · have hi' : (i : Int) = j.toInt := by omega
      rw [if_pos q, if_pos (by omega)]
      show some (Value.int x) = some (Value.int (if (i : Int) = j.toInt then x else f i))
      rw [if_pos hi']
    · have hi' : ¬ (i : Int) = j.toInt := by omega
      rw [if_neg q]
      show _ = some (Value.int (if (i : Int) = j.toInt then x else f i))
      rw [if_neg hi']; exact H i hi
theorem AIK.get {a : Addr} {j : Int32} {ty : FieldType} {n : Int} {f : Int → Int32} (F : AIK Z h a ty n f) (h1 : 0 ≤ j.toInt) (h2 : j.toInt < n) : ∃ c : Cell, Arr Z h a c ty ∧ ¬ (j < 0 ∨ c.slots.size ≤ j.toNatClampNeg) ∧ c.slots[j.toNatClampNeg]? = some (.int (f j.toInt)) := by
  obtain ⟨c, A, S, M, H⟩ := F
  have hj : j.toNatClampNeg = j.toInt.toNat := rfl
  refine ⟨c, A, ?_, ?_⟩
  · rw [Int32.lt_iff_toInt_lt]
    have hz : (0 : Int32).toInt = 0 := rfl
    omega
  · rw [hj, H j.toInt.toNat (by omega), Int.toNat_of_nonneg h1]
theorem AIK.congr {a : Addr} {ty : FieldType} {n : Int} {f g : Int → Int32} (F : AIK Z h a ty n f) (q : ∀ i : Int, 0 ≤ i → i < n → f i = g i) : AIK Z h a ty n g := by
  obtain ⟨c, A, S, M, H⟩ := F
  exact ⟨c, A, S, M, fun i hi => by rw [H i hi, q i (by omega) hi]⟩
theorem AJK.lt {a : Addr} {n : Int} {f : Int → Int64} (F : AJK Z h a n f) : a < h.size := by obtain ⟨c, A, -⟩ := F; exact A.lt
theorem AJK.nn {a : Addr} {n : Int} {f : Int → Int64} (F : AJK Z h a n f) : 0 ≤ n ∧ n < 2147483648 := by obtain ⟨c, -, S, q, -⟩ := F; exact ⟨by omega, q⟩
theorem AJK.ext {h' : Heap} {a : Addr} {n : Int} {f : Int → Int64} (F : AJK Z h a n f) (E : Ext h h') : AJK Z h' a n f := by obtain ⟨c, A, r⟩ := F; exact ⟨c, A.ext E, r⟩
theorem AJK.other {h' : Heap} {a b : Addr} {sl : Nat} {v : Value} {n : Int} {f : Int → Int64} (F : AJK Z h b n f) (W : Wr h h' a sl v) (q : b ≠ a) : AJK Z h' b n f := by obtain ⟨c, A, r⟩ := F; exact ⟨c, A.other W q, r⟩
theorem AJK.keep {h' : Heap} {a : Addr} {ws : List Addr} {n : Int} {f : Int → Int64} (F : AJK Z h a n f) (K : Keep h h' ws) (q : a ∉ ws) : AJK Z h' a n f := by obtain ⟨c, A, r⟩ := F; exact ⟨c, ⟨K.2.1 a c A.1 q, A.2⟩, r⟩
theorem AJK.of_arv {a : Addr} {k : ClassId} {z : Int32} {n : Int} {x : Int64} (F : Arv Z h a k .long z [] (.long x)) (q : z.toInt = n) : AJK Z h a n (fun _ => x) := by
  obtain ⟨c, A, -, S, M, H, -⟩ := F
  rw [Int32.lt_iff_toInt_lt] at M
  have hz : (0 : Int32).toInt = 0 := rfl
  have hr := rng32 z
  have S' : c.slots.size = z.toInt.toNat := S
  refine ⟨c, A, by omega, by omega, fun i hi => ?_⟩
  exact (H i (by omega)).trans rfl
theorem AJK.set {h' : Heap} {a : Addr} {j : Int32} {n : Int} {f : Int → Int64} {x : Int64} (F : AJK Z h a n f) (W : Wr h h' a j.toNatClampNeg (.long x)) (h1 : 0 ≤ j.toInt) (h2 : j.toInt < n) : AJK Z h' a n (fun i => if i = j.toInt then x else f i) := by
  obtain ⟨c, A, S, M, H⟩ := F
  have hj : j.toNatClampNeg = j.toInt.toNat := rfl
  refine ⟨_, A.same W, ?_, M, fun i hi => ?_⟩
  · show (((c.slots.setIfInBounds j.toNatClampNeg (Value.long x)).size : Nat) : Int) = n
    rw [Array.size_setIfInBounds]; exact S
  · show (c.slots.setIfInBounds j.toNatClampNeg (Value.long x))[i]? = _
    rw [Array.getElem?_setIfInBounds]
    by_cases q : j.toNatClampNeg = i
    · have hi' : (i : Int) = j.toInt := by omega
      rw [if_pos q, if_pos (by omega)]
      show some (Value.long x) = some (Value.long (if (i : Int) = j.toInt then x else f i))
      rw [if_pos hi']
    · have hi' : ¬ (i : Int) = j.toInt := by omega
      rw [if_neg q]
      show _ = some (Value.long (if (i : Int) = j.toInt then x else f i))
      rw [if_neg hi']; exact H i hi
theorem AJK.get {a : Addr} {j : Int32} {n : Int} {f : Int → Int64} (F : AJK Z h a n f) (h1 : 0 ≤ j.toInt) (h2 : j.toInt < n) : ∃ c : Cell, Arr Z h a c .long ∧ ¬ (j < 0 ∨ c.slots.size ≤ j.toNatClampNeg) ∧ c.slots[j.toNatClampNeg]? = some (.long (f j.toInt)) := by
  obtain ⟨c, A, S, M, H⟩ := F
  have hj : j.toNatClampNeg = j.toInt.toNat := rfl
  refine ⟨c, A, ?_, ?_⟩
  · rw [Int32.lt_iff_toInt_lt]
    have hz : (0 : Int32).toInt = 0 := rfl
    omega
  · rw [hj, H j.toInt.toNat (by omega), Int.toNat_of_nonneg h1]
theorem AJK.congr {a : Addr} {n : Int} {f g : Int → Int64} (F : AJK Z h a n f) (q : ∀ i : Int, 0 ≤ i → i < n → f i = g i) : AJK Z h a n g := by
  obtain ⟨c, A, S, M, H⟩ := F
  exact ⟨c, A, S, M, fun i hi => by rw [H i hi, q i (by omega) hi]⟩
theorem go_newI (X : OnK p l e R s m args below meth c n0 T h cells slots) (hx : p.tables.exec = Jvm.exec) (hZ : Z.Warmed39 s.vm) {x : Int32} {cap : Nat} {n : Int} (wd : (Jvm.Cond.arrayClass .int).before a0 Z = true) (hd : decode c.code pc = .ok (.newarray .int, 2)) (hp : pc + 2 = pc') (hn : x.toInt = n) (h1 : 0 ≤ n) (h2 : n ≤ cap) (hb : cap * 8 ≤ 536870912) (hc : cells + 1 ≤ R.cells) (hs : slots + cap ≤ R.slots) (hc' : cells + 1 = cells') (hs' : slots + cap = slots') (G : ∀ (T' : State) (h' : Heap) (a : Addr), a = h.size → OnK p l e R s m args below meth c n0 T' h' cells' slots' → Ext h h' → AIK Z h' a .int n (fun _ => 0) → GoK p e below D T' (mkF m (pc') Ls (.ref a :: St))) : GoK p e below D T (mkF m pc Ls (.int x :: St)) := by
  subst hp hc' hs'
  obtain ⟨_, Y, e0, N⟩ := X
  have hz : (0 : Int32).toInt = 0 := rfl
  have q : ¬ x < 0 := by rw [Int32.lt_iff_toInt_lt]; omega
  obtain ⟨T', h', k, Y', e', E, A, st⟩ := newP Y hx hZ (aty := .int) wd e0 (g := mkF m pc Ls (.int x :: St)) rfl hd rfl q (cap := cap) (by show x.toInt.toNat ≤ cap; omega) hb hc hs
  refine GoK.by st (G T' h' _ rfl ⟨_, Y', e', N⟩ E ?_)
  exact AIK.of_arv (Arv.new A q) hn
theorem go_newB (X : OnK p l e R s m args below meth c n0 T h cells slots) (hx : p.tables.exec = Jvm.exec) (hZ : Z.Warmed39 s.vm) {x : Int32} {cap : Nat} {n : Int} (wd : (Jvm.Cond.arrayClass .byte).before a0 Z = true) (hd : decode c.code pc = .ok (.newarray .byte, 2)) (hp : pc + 2 = pc') (hn : x.toInt = n) (h1 : 0 ≤ n) (h2 : n ≤ cap) (hb : cap * 8 ≤ 536870912) (hc : cells + 1 ≤ R.cells) (hs : slots + cap ≤ R.slots) (hc' : cells + 1 = cells') (hs' : slots + cap = slots') (G : ∀ (T' : State) (h' : Heap) (a : Addr), a = h.size → OnK p l e R s m args below meth c n0 T' h' cells' slots' → Ext h h' → AIK Z h' a .byte n (fun _ => 0) → GoK p e below D T' (mkF m (pc') Ls (.ref a :: St))) : GoK p e below D T (mkF m pc Ls (.int x :: St)) := by
  subst hp hc' hs'
  obtain ⟨_, Y, e0, N⟩ := X
  have hz : (0 : Int32).toInt = 0 := rfl
  have q : ¬ x < 0 := by rw [Int32.lt_iff_toInt_lt]; omega
  obtain ⟨T', h', k, Y', e', E, A, st⟩ := newP Y hx hZ (aty := .byte) wd e0 (g := mkF m pc Ls (.int x :: St)) rfl hd rfl q (cap := cap) (by show x.toInt.toNat ≤ cap; omega) hb hc hs
  refine GoK.by st (G T' h' _ rfl ⟨_, Y', e', N⟩ E ?_)
  exact AIK.of_arv (Arv.new A q) hn
theorem go_newC (X : OnK p l e R s m args below meth c n0 T h cells slots) (hx : p.tables.exec = Jvm.exec) (hZ : Z.Warmed39 s.vm) {x : Int32} {cap : Nat} {n : Int} (wd : (Jvm.Cond.arrayClass .char).before a0 Z = true) (hd : decode c.code pc = .ok (.newarray .char, 2)) (hp : pc + 2 = pc') (hn : x.toInt = n) (h1 : 0 ≤ n) (h2 : n ≤ cap) (hb : cap * 8 ≤ 536870912) (hc : cells + 1 ≤ R.cells) (hs : slots + cap ≤ R.slots) (hc' : cells + 1 = cells') (hs' : slots + cap = slots') (G : ∀ (T' : State) (h' : Heap) (a : Addr), a = h.size → OnK p l e R s m args below meth c n0 T' h' cells' slots' → Ext h h' → AIK Z h' a .char n (fun _ => 0) → GoK p e below D T' (mkF m (pc') Ls (.ref a :: St))) : GoK p e below D T (mkF m pc Ls (.int x :: St)) := by
  subst hp hc' hs'
  obtain ⟨_, Y, e0, N⟩ := X
  have hz : (0 : Int32).toInt = 0 := rfl
  have q : ¬ x < 0 := by rw [Int32.lt_iff_toInt_lt]; omega
  obtain ⟨T', h', k, Y', e', E, A, st⟩ := newP Y hx hZ (aty := .char) wd e0 (g := mkF m pc Ls (.int x :: St)) rfl hd rfl q (cap := cap) (by show x.toInt.toNat ≤ cap; omega) hb hc hs
  refine GoK.by st (G T' h' _ rfl ⟨_, Y', e', N⟩ E ?_)
  exact AIK.of_arv (Arv.new A q) hn
theorem go_newZ (X : OnK p l e R s m args below meth c n0 T h cells slots) (hx : p.tables.exec = Jvm.exec) (hZ : Z.Warmed39 s.vm) {x : Int32} {cap : Nat} {n : Int} (wd : (Jvm.Cond.arrayClass .boolean).before a0 Z = true) (hd : decode c.code pc = .ok (.newarray .boolean, 2)) (hp : pc + 2 = pc') (hn : x.toInt = n) (h1 : 0 ≤ n) (h2 : n ≤ cap) (hb : cap * 8 ≤ 536870912) (hc : cells + 1 ≤ R.cells) (hs : slots + cap ≤ R.slots) (hc' : cells + 1 = cells') (hs' : slots + cap = slots') (G : ∀ (T' : State) (h' : Heap) (a : Addr), a = h.size → OnK p l e R s m args below meth c n0 T' h' cells' slots' → Ext h h' → AIK Z h' a .boolean n (fun _ => 0) → GoK p e below D T' (mkF m (pc') Ls (.ref a :: St))) : GoK p e below D T (mkF m pc Ls (.int x :: St)) := by
  subst hp hc' hs'
  obtain ⟨_, Y, e0, N⟩ := X
  have hz : (0 : Int32).toInt = 0 := rfl
  have q : ¬ x < 0 := by rw [Int32.lt_iff_toInt_lt]; omega
  obtain ⟨T', h', k, Y', e', E, A, st⟩ := newP Y hx hZ (aty := .boolean) wd e0 (g := mkF m pc Ls (.int x :: St)) rfl hd rfl q (cap := cap) (by show x.toInt.toNat ≤ cap; omega) hb hc hs
  refine GoK.by st (G T' h' _ rfl ⟨_, Y', e', N⟩ E ?_)
  exact AIK.of_arv (Arv.new A q) hn
theorem go_newJ (X : OnK p l e R s m args below meth c n0 T h cells slots) (hx : p.tables.exec = Jvm.exec) (hZ : Z.Warmed39 s.vm) {x : Int32} {cap : Nat} {n : Int} (wd : (Jvm.Cond.arrayClass .long).before a0 Z = true) (hd : decode c.code pc = .ok (.newarray .long, 2)) (hp : pc + 2 = pc') (hn : x.toInt = n) (h1 : 0 ≤ n) (h2 : n ≤ cap) (hb : cap * 8 ≤ 536870912) (hc : cells + 1 ≤ R.cells) (hs : slots + cap ≤ R.slots) (hc' : cells + 1 = cells') (hs' : slots + cap = slots') (G : ∀ (T' : State) (h' : Heap) (a : Addr), a = h.size → OnK p l e R s m args below meth c n0 T' h' cells' slots' → Ext h h' → AJK Z h' a n (fun _ => 0) → GoK p e below D T' (mkF m (pc') Ls (.ref a :: St))) : GoK p e below D T (mkF m pc Ls (.int x :: St)) := by
  subst hp hc' hs'
  obtain ⟨_, Y, e0, N⟩ := X
  have hz : (0 : Int32).toInt = 0 := rfl
  have q : ¬ x < 0 := by rw [Int32.lt_iff_toInt_lt]; omega
  obtain ⟨T', h', k, Y', e', E, A, st⟩ := newP Y hx hZ (aty := .long) wd e0 (g := mkF m pc Ls (.int x :: St)) rfl hd rfl q (cap := cap) (by show x.toInt.toNat ≤ cap; omega) hb hc hs
  refine GoK.by st (G T' h' _ rfl ⟨_, Y', e', N⟩ E ?_)
  exact AJK.of_arv (Arv.new A q) hn
theorem go_iastore (X : OnK p l e R s m args below meth c n0 T h cells slots) (hx : p.tables.exec = Jvm.exec) (hZ : Z.Warmed39 s.vm) {x : Int32} {j : Int32} {a : Addr} {n : Int} {f : Int → Int32} (A : AIK Z h a .int n f) (ga : n0 ≤ a) (h1 : 0 ≤ j.toInt) (h2 : j.toInt < n) (hd : decode c.code pc = .ok (.iastore, 1)) (hp : pc + 1 = pc') (G : ∀ (T' : State) (h' : Heap), OnK p l e R s m args below meth c n0 T' h' cells slots → Wr h h' a j.toNatClampNeg (.int (x)) → AIK Z h' a .int n (fun i => if i = j.toInt then x else f i) → GoK p e below D T' (mkF m pc' Ls St)) : GoK p e below D T (mkF m pc Ls (.int x :: .int j :: .ref a :: St)) := by
  subst hp
  obtain ⟨_, Y, e0, N⟩ := X
  obtain ⟨cl, Ar, hin, -⟩ := A.get h1 h2
  obtain ⟨T', h', Y', e', W, st⟩ := stI Y hx hZ e0 Ar (j := j) (x := x) hin (g := mkF m pc Ls (.int x :: .int j :: .ref a :: St)) rfl rfl hd
  exact GoK.by st (G T' h' ⟨_, Y', e', Fr.snoc Y' N ga⟩ W (A.set W h1 h2))
theorem go_castore (X : OnK p l e R s m args below meth c n0 T h cells slots) (hx : p.tables.exec = Jvm.exec) (hZ : Z.Warmed39 s.vm) {x : Int32} {j : Int32} {a : Addr} {n : Int} {f : Int → Int32} (A : AIK Z h a .char n f) (ga : n0 ≤ a) (h1 : 0 ≤ j.toInt) (h2 : j.toInt < n) (hd : decode c.code pc = .ok (.castore, 1)) (hp : pc + 1 = pc') (G : ∀ (T' : State) (h' : Heap), OnK p l e R s m args below meth c n0 T' h' cells slots → Wr h h' a j.toNatClampNeg (.int (nar .char x)) → AIK Z h' a .char n (fun i => if i = j.toInt then nar .char x else f i) → GoK p e below D T' (mkF m pc' Ls St)) : GoK p e below D T (mkF m pc Ls (.int x :: .int j :: .ref a :: St)) := by
  subst hp
  obtain ⟨_, Y, e0, N⟩ := X
  obtain ⟨cl, Ar, hin, -⟩ := A.get h1 h2
  obtain ⟨T', h', Y', e', W, st⟩ := stC Y hx hZ e0 Ar (j := j) (x := x) hin (g := mkF m pc Ls (.int x :: .int j :: .ref a :: St)) rfl rfl hd
  exact GoK.by st (G T' h' ⟨_, Y', e', Fr.snoc Y' N ga⟩ W (A.set W h1 h2))
theorem go_bastoreB (X : OnK p l e R s m args below meth c n0 T h cells slots) (hx : p.tables.exec = Jvm.exec) (hZ : Z.Warmed39 s.vm) {x : Int32} {j : Int32} {a : Addr} {n : Int} {f : Int → Int32} (A : AIK Z h a .byte n f) (ga : n0 ≤ a) (h1 : 0 ≤ j.toInt) (h2 : j.toInt < n) (hd : decode c.code pc = .ok (.bastore, 1)) (hp : pc + 1 = pc') (G : ∀ (T' : State) (h' : Heap), OnK p l e R s m args below meth c n0 T' h' cells slots → Wr h h' a j.toNatClampNeg (.int (nar .byte x)) → AIK Z h' a .byte n (fun i => if i = j.toInt then nar .byte x else f i) → GoK p e below D T' (mkF m pc' Ls St)) : GoK p e below D T (mkF m pc Ls (.int x :: .int j :: .ref a :: St)) := by
  subst hp
  obtain ⟨_, Y, e0, N⟩ := X
  obtain ⟨cl, Ar, hin, -⟩ := A.get h1 h2
  obtain ⟨T', h', Y', e', W, st⟩ := stB Y hx hZ e0 Ar (j := j) (x := x) hin (g := mkF m pc Ls (.int x :: .int j :: .ref a :: St)) rfl rfl hd
  exact GoK.by st (G T' h' ⟨_, Y', e', Fr.snoc Y' N ga⟩ W (A.set W h1 h2))
theorem go_bastoreZ (X : OnK p l e R s m args below meth c n0 T h cells slots) (hx : p.tables.exec = Jvm.exec) (hZ : Z.Warmed39 s.vm) {x : Int32} {j : Int32} {a : Addr} {n : Int} {f : Int → Int32} (A : AIK Z h a .boolean n f) (ga : n0 ≤ a) (h1 : 0 ≤ j.toInt) (h2 : j.toInt < n) (hd : decode c.code pc = .ok (.bastore, 1)) (hp : pc + 1 = pc') (G : ∀ (T' : State) (h' : Heap), OnK p l e R s m args below meth c n0 T' h' cells slots → Wr h h' a j.toNatClampNeg (.int (nar .boolean x)) → AIK Z h' a .boolean n (fun i => if i = j.toInt then nar .boolean x else f i) → GoK p e below D T' (mkF m pc' Ls St)) : GoK p e below D T (mkF m pc Ls (.int x :: .int j :: .ref a :: St)) := by
  subst hp
  obtain ⟨_, Y, e0, N⟩ := X
  obtain ⟨cl, Ar, hin, -⟩ := A.get h1 h2
  obtain ⟨T', h', Y', e', W, st⟩ := stZ Y hx hZ e0 Ar (j := j) (x := x) hin (g := mkF m pc Ls (.int x :: .int j :: .ref a :: St)) rfl rfl hd
  exact GoK.by st (G T' h' ⟨_, Y', e', Fr.snoc Y' N ga⟩ W (A.set W h1 h2))
theorem go_lastore (X : OnK p l e R s m args below meth c n0 T h cells slots) (hx : p.tables.exec = Jvm.exec) (hZ : Z.Warmed39 s.vm) {x : Int64} {j : Int32} {a : Addr} {n : Int} {f : Int → Int64} (A : AJK Z h a n f) (ga : n0 ≤ a) (h1 : 0 ≤ j.toInt) (h2 : j.toInt < n) (hd : decode c.code pc = .ok (.lastore, 1)) (hp : pc + 1 = pc') (G : ∀ (T' : State) (h' : Heap), OnK p l e R s m args below meth c n0 T' h' cells slots → Wr h h' a j.toNatClampNeg (.long (x)) → AJK Z h' a n (fun i => if i = j.toInt then x else f i) → GoK p e below D T' (mkF m pc' Ls St)) : GoK p e below D T (mkF m pc Ls (.long x :: .int j :: .ref a :: St)) := by
  subst hp
  obtain ⟨_, Y, e0, N⟩ := X
  obtain ⟨cl, Ar, hin, -⟩ := A.get h1 h2
  obtain ⟨T', h', Y', e', W, st⟩ := stJ Y hx hZ e0 Ar (j := j) (x := x) hin (g := mkF m pc Ls (.long x :: .int j :: .ref a :: St)) rfl rfl hd
  exact GoK.by st (G T' h' ⟨_, Y', e', Fr.snoc Y' N ga⟩ W (A.set W h1 h2))
theorem go_iaload (X : OnK p l e R s m args below meth c n0 T h cells slots) (hx : p.tables.exec = Jvm.exec) (hZ : Z.Warmed39 s.vm) {j : Int32} {a : Addr} {n : Int} {f : Int → Int32} (A : AIK Z h a .int n f) (h1 : 0 ≤ j.toInt) (h2 : j.toInt < n) (hd : decode c.code pc = .ok (.iaload, 1)) (hp : pc + 1 = pc') (G : ∀ z : Int32, z = f j.toInt → GoK p e below D T (mkF m pc' Ls (.int z :: St))) : GoK p e below D T (mkF m pc Ls (.int j :: .ref a :: St)) := by
  subst hp
  obtain ⟨_, Y, e0, N⟩ := X
  obtain ⟨cl, Ar, hin, hv⟩ := A.get h1 h2
  exact GoK.by (fun t k => Y.iaload hx (j := j) (v := .int (f j.toInt)) (by rw [e0]; exact Ar.1) (State.isArrayOf_alike hZ.alike Ar.2.1) Ar.2.2 hin hv (g := mkF m pc Ls (.int j :: .ref a :: St)) rfl rfl hd t k) (G _ rfl)
theorem go_caload (X : OnK p l e R s m args below meth c n0 T h cells slots) (hx : p.tables.exec = Jvm.exec) (hZ : Z.Warmed39 s.vm) {j : Int32} {a : Addr} {n : Int} {f : Int → Int32} (A : AIK Z h a .char n f) (h1 : 0 ≤ j.toInt) (h2 : j.toInt < n) (hd : decode c.code pc = .ok (.caload, 1)) (hp : pc + 1 = pc') (G : ∀ z : Int32, z = f j.toInt → GoK p e below D T (mkF m pc' Ls (.int z :: St))) : GoK p e below D T (mkF m pc Ls (.int j :: .ref a :: St)) := by
  subst hp
  obtain ⟨_, Y, e0, N⟩ := X
  obtain ⟨cl, Ar, hin, hv⟩ := A.get h1 h2
  exact GoK.by (fun t k => Y.caload hx (j := j) (v := .int (f j.toInt)) (by rw [e0]; exact Ar.1) (State.isArrayOf_alike hZ.alike Ar.2.1) Ar.2.2 hin hv (g := mkF m pc Ls (.int j :: .ref a :: St)) rfl rfl hd t k) (G _ rfl)
theorem go_baloadB (X : OnK p l e R s m args below meth c n0 T h cells slots) (hx : p.tables.exec = Jvm.exec) (hZ : Z.Warmed39 s.vm) {j : Int32} {a : Addr} {n : Int} {f : Int → Int32} (A : AIK Z h a .byte n f) (h1 : 0 ≤ j.toInt) (h2 : j.toInt < n) (hd : decode c.code pc = .ok (.baload, 1)) (hp : pc + 1 = pc') (G : ∀ z : Int32, z = f j.toInt → GoK p e below D T (mkF m pc' Ls (.int z :: St))) : GoK p e below D T (mkF m pc Ls (.int j :: .ref a :: St)) := by
  subst hp
  obtain ⟨_, Y, e0, N⟩ := X
  obtain ⟨cl, Ar, hin, hv⟩ := A.get h1 h2
  exact GoK.by (fun t k => Y.baloadBytes hx (j := j) (v := .int (f j.toInt)) (by rw [e0]; exact Ar.1) (State.isArrayOf_alike hZ.alike Ar.2.1) Ar.2.2 hin hv (g := mkF m pc Ls (.int j :: .ref a :: St)) rfl rfl hd t k) (G _ rfl)
theorem go_baloadZ (X : OnK p l e R s m args below meth c n0 T h cells slots) (hx : p.tables.exec = Jvm.exec) (hZ : Z.Warmed39 s.vm) {j : Int32} {a : Addr} {n : Int} {f : Int → Int32} (A : AIK Z h a .boolean n f) (h1 : 0 ≤ j.toInt) (h2 : j.toInt < n) (hd : decode c.code pc = .ok (.baload, 1)) (hp : pc + 1 = pc') (G : ∀ z : Int32, z = f j.toInt → GoK p e below D T (mkF m pc' Ls (.int z :: St))) : GoK p e below D T (mkF m pc Ls (.int j :: .ref a :: St)) := by
  subst hp
  obtain ⟨_, Y, e0, N⟩ := X
  obtain ⟨cl, Ar, hin, hv⟩ := A.get h1 h2
  exact GoK.by (fun t k => Y.baloadBooleans hx (j := j) (v := .int (f j.toInt)) (by rw [e0]; exact Ar.1) (State.isArrayOf_alike hZ.alike Ar.2.1) Ar.2.2 hin hv (g := mkF m pc Ls (.int j :: .ref a :: St)) rfl rfl hd t k) (G _ rfl)
theorem go_laload (X : OnK p l e R s m args below meth c n0 T h cells slots) (hx : p.tables.exec = Jvm.exec) (hZ : Z.Warmed39 s.vm) {j : Int32} {a : Addr} {n : Int} {f : Int → Int64} (A : AJK Z h a n f) (h1 : 0 ≤ j.toInt) (h2 : j.toInt < n) (hd : decode c.code pc = .ok (.laload, 1)) (hp : pc + 1 = pc') (G : ∀ z : Int64, z = f j.toInt → GoK p e below D T (mkF m pc' Ls (.long z :: St))) : GoK p e below D T (mkF m pc Ls (.int j :: .ref a :: St)) := by
  subst hp
  obtain ⟨_, Y, e0, N⟩ := X
  obtain ⟨cl, Ar, hin, hv⟩ := A.get h1 h2
  exact GoK.by (fun t k => Y.laload hx (j := j) (v := .long (f j.toInt)) (by rw [e0]; exact Ar.1) (State.isArrayOf_alike hZ.alike Ar.2.1) Ar.2.2 hin hv (g := mkF m pc Ls (.int j :: .ref a :: St)) rfl rfl hd t k) (G _ rfl)
theorem own_len {k : Nat} {n : Int} (S : (k : Int) = n) (M : n < 2147483648) : (k.toInt32).toInt = n := by
  have e : (k.toInt32).toInt = ((k : Int)).bmod (2 ^ 32) := by
    show (Int32.ofNat k).toInt = _
    exact Int32.toInt_ofNat
  rw [e, Int.bmod_eq_of_le (by omega) (by omega)]; exact S
theorem go_lenI (X : OnK p l e R s m args below meth c n0 T h cells slots) (hx : p.tables.exec = Jvm.exec) (hZ : Z.Warmed39 s.vm) {a : Addr} {n : Int} {ty : FieldType} {f : Int → Int32} (A : AIK Z h a ty n f) (hd : decode c.code pc = .ok (.arraylength, 1)) (hp : pc + 1 = pc') (G : ∀ z : Int32, z.toInt = n → GoK p e below D T (mkF m pc' Ls (.int z :: St))) : GoK p e below D T (mkF m pc Ls (.ref a :: St)) := by
  subst hp
  obtain ⟨_, Y, e0, N⟩ := X
  obtain ⟨cl, Ar, S, M, -⟩ := A
  refine GoK.by (fun t k => Y.arraylength hx (by rw [e0]; exact Ar.1) (State.isArrayOf_alike hZ.alike Ar.2.1) (g := mkF m pc Ls (.ref a :: St)) rfl rfl hd t k) (G _ ?_)
  exact own_len S M
theorem go_lenJ (X : OnK p l e R s m args below meth c n0 T h cells slots) (hx : p.tables.exec = Jvm.exec) (hZ : Z.Warmed39 s.vm) {a : Addr} {n : Int} {f : Int → Int64} (A : AJK Z h a n f) (hd : decode c.code pc = .ok (.arraylength, 1)) (hp : pc + 1 = pc') (G : ∀ z : Int32, z.toInt = n → GoK p e below D T (mkF m pc' Ls (.int z :: St))) : GoK p e below D T (mkF m pc Ls (.ref a :: St)) := by
  subst hp
  obtain ⟨_, Y, e0, N⟩ := X
  obtain ⟨cl, Ar, S, M, -⟩ := A
  refine GoK.by (fun t k => Y.arraylength hx (by rw [e0]; exact Ar.1) (State.isArrayOf_alike hZ.alike Ar.2.1) (g := mkF m pc Ls (.ref a :: St)) rfl rfl hd t k) (G _ ?_)
  exact own_len S M
theorem go_getfield (X : OnK p l e R s m args below meth c n0 T h cells slots) (hx : p.tables.exec = Jvm.exec) (hZ : Z.Warmed39 s.vm) {own O n d : String} {i : Nat} {a : Addr} {v : Value} (hown : s.vm.findClass own = some m.cls) (wd : (Jvm.Cond.fieldLink own i O n d).before a0 Z = true) (F : Fld Z h a O n d v) (hd : decode c.code pc = .ok (.getfield i, 3)) (hp : pc + 3 = pc') (G : ∀ T' : State, OnK p l e R s m args below meth c n0 T' h cells slots → GoK p e below D T' (mkF m pc' Ls (v :: St))) : GoK p e below D T (mkF m pc Ls (.ref a :: St)) := by
  subst hp
  obtain ⟨_, Y, e0, N⟩ := X
  obtain ⟨T', Y', e', st⟩ := getF Y hx hZ hown (host := "") (Or.inl wd) Via.refl e0 F (g := mkF m pc Ls (.ref a :: St)) rfl rfl hd
  exact GoK.by st (G T' ⟨_, Y', e', N⟩)
theorem go_putfield (X : OnK p l e R s m args below meth c n0 T h cells slots) (hx : p.tables.exec = Jvm.exec) (hZ : Z.Warmed39 s.vm) {own O n d C : String} {i kk : Nat} {ty : FieldType} {a : Addr} {v v' old : Value} (hown : s.vm.findClass own = some m.cls) (wd : (Jvm.Cond.fieldLink own i O n d).before a0 Z = true) (F : Fld Z h a O n d old) (E : Exa Z h a C) (L : (Jvm.Cond.lays C O n d).before a0 Z = true ∨ ((Jvm.Cond.laysFinal C O n d).before a0 Z = true ∧ own = O ∧ meth.name = "<init>")) (wi : (Jvm.Cond.instantiable C kk).before a0 Z = true) (ga : n0 ≤ a) (hty : parseFieldDescriptor d = some ty) (hn : narrow ty v = v') (hf : fits ty v' = true) (hd : decode c.code pc = .ok (.putfield i, 3)) (hp : pc + 3 = pc') (G : ∀ (T' : State) (h' : Heap), OnK p l e R s m args below meth c n0 T' h' cells slots → Wr h h' a (slotOf Z O n d) v' → Fld Z h' a O n d v' → GoK p e below D T' (mkF m pc' Ls St)) : GoK p e below D T (mkF m pc Ls (v :: .ref a :: St)) := by
  subst hp
  obtain ⟨_, Y, e0, N⟩ := X
  obtain ⟨T', h', Y', e', W, st⟩ := putFN Y hx hZ hown wd Via.refl e0 F E L wi hty hn hf (g := mkF m pc Ls (v :: .ref a :: St)) rfl rfl hd
  exact GoK.by st (G T' h' ⟨_, Y', e', Fr.snoc Y' N ga⟩ W (F.same W))
theorem go_new (X : OnK p l e R s m args below meth c n0 T h cells slots) (hx : p.tables.exec = Jvm.exec) (hZ : Z.Warmed39 s.vm) {own C : String} {i n : Nat} (hown : s.vm.findClass own = some m.cls) (w1 : (Jvm.Cond.classLink own i C).before a0 Z = true) (w2 : (Jvm.Cond.instantiable C n).before a0 Z = true) (w3 : (Jvm.Cond.initialized C).before a0 Z = true) (hd : decode c.code pc = .ok (.new i, 3)) (hp : pc + 3 = pc') (hc : cells + 1 ≤ R.cells) (hs : slots + n ≤ R.slots) (hc' : cells + 1 = cells') (hs' : slots + n = slots')
    (G : ∀ (T' : State) (h' : Heap) (a : Addr), a = h.size → OnK p l e R s m args below meth c n0 T' h' cells' slots' → Ext h h' → Exa Z h' a C → (∀ {O nm d : String} {ty : FieldType}, Laid Z a0 C O nm d → parseFieldDescriptor d = some ty → Fld Z h' a O nm d (defaultValue ty)) → GoK p e below D T' (mkF m pc' Ls (.ref a :: St))) : GoK p e below D T (mkF m pc Ls St) := by
  subst hp hc' hs'
  obtain ⟨_, Y, e0, N⟩ := X
  obtain ⟨T', h', Y', e', E, A, Dv, -, st⟩ := newO Y hx hZ hown w1 w2 w3 e0 (g := mkF m pc Ls St) rfl hd hc hs
  exact GoK.by st (G T' h' _ rfl ⟨_, Y', e', N⟩ E A Dv)
theorem go_initO (X : OnK p l e R s m args below meth c n0 T h cells slots) (hx : p.tables.exec = Jvm.exec) (hZ : Z.Warmed39 s.vm) {own : String} {i W : Nat} {a : Addr} (hown : s.vm.findClass own = some m.cls) (hml : Ls.size = c.maxLocals) (w1 : (Jvm.Cond.methodLink own i Lib.objectInit).before a0 Z = true) (w2 : (Jvm.Cond.instanceMethod Lib.objectInit).before a0 Z = true) (w3 : (Jvm.Cond.code Lib.objectInit ⟨#[0xb1]⟩ 1 none).before a0 Z = true) (hd : decode c.code pc = .ok (.invokespecial i, 3)) (hp : pc + 3 = pc') (hf : 1 ≤ R.frames) (hW : (St.map fun v => v.category).sum ≤ W) (hl : W + 12 ≤ R.locals) (G : ∀ T' : State, OnK p l e R s m args below meth c n0 T' h cells slots → GoK p e below D T' (mkF m pc' Ls St)) : GoK p e below D T (mkF m pc Ls (.ref a :: St)) := by
  subst hp
  obtain ⟨_, Y, e0, N⟩ := X
  obtain ⟨T', Y', e', st⟩ := initO Y hx hZ hown w1 w2 w3 e0 (g := mkF m pc Ls (.ref a :: St)) rfl hml rfl hd hf (W := W) (by show 2 * 0 + _ ≤ _; omega) hl
  exact GoK.by st (G T' ⟨_, Y', e', N⟩)
theorem go_callS (X : OnK p l e R s m args below meth c n0 T h cells slots) (hx : p.tables.exec = Jvm.exec) (hZ : Z.Warmed39 s.vm) {own : String} {i W ml : Nat} {y : MethodName} {bytes : ByteArray} {ret : Option FieldType} {rm : Room} {Q : Option Value → Heap → Prop} {aL : List Value} {ps : List FieldType} {rt : Option FieldType} (hown : s.vm.findClass own = some m.cls) (hml : Ls.size = c.maxLocals) (wl : (Jvm.Cond.methodLink own i y).before a0 Z = true) (ws : (Jvm.Cond.static y).before a0 Z = true) (wz : (Jvm.Cond.initialized y.cls).before a0 Z = true) (wc : (Jvm.Cond.code y bytes ml ret).before a0 Z = true) (hy : y.cls ≠ "java/lang/invoke/MethodHandle" ∧ y.cls ≠ "java/lang/invoke/VarHandle") (pd : parseMethodDescriptor y.desc = some ⟨ps, rt⟩) (hlen : aL.length = ps.length) (ct : CtK l Z y bytes ml ret rm aL.toArray h n0 Q) (hd : decode c.code pc = .ok (.invokestatic i, 3)) (hp : pc + 3 = pc') (hf : rm.frames + 1 ≤ R.frames) (hW : (St.map fun v => v.category).sum ≤ W) (hlo : W + (ml + 11) + rm.locals ≤ R.locals) (hc : cells + rm.cells ≤ R.cells) (hs : slots + rm.slots ≤ R.slots) (hc' : cells + rm.cells = cells') (hs' : slots + rm.slots = slots') (G : ∀ (T' : State) (h' : Heap) (v : Option Value), OnK p l e R s m args below meth c n0 T' h' cells' slots' → Q v h' → GoK p e below D T' (mkF m pc' Ls (v.toList ++ St))) {S0 : List Value} (hS : S0 = aL.reverse ++ St) : GoK p e below D T (mkF m pc Ls S0) := by
  subst hp hc' hs' hS
  obtain ⟨_, Y, e0, N⟩ := X
  obtain ⟨v, _, ⟨B, L, k, n⟩, -, Y', ⟨Lc, ⟨hQ, hN⟩, el, ec, es⟩, st⟩ := Jvm.LawKit.callS Y hx (y := y) hown (mvT hZ wl) (mvT hZ ws) (mvT hZ wz) (mvT hZ wc) hy (backOf (W := W) (Q := fun v h L => Q v h ∧ Fr n0 L) (ct []) hZ wc wz hf hlo) (g := mkF m pc Ls (aL.reverse ++ St)) rfl hml (argsL := aL) (rest := St) (lenOf pd hlen) rfl (by show 2 * 0 + _ ≤ _; omega) hd (fun _ _ => ⟨rfl, e0, hc, hs⟩)
  dsimp only [Pt.U, Pt.locs, Pt.cells, Pt.slots] at Y' el ec es st hQ
  subst el ec es
  exact GoK.by st (G B _ v ⟨_, Y', rfl, N.app hN⟩ hQ)
theorem go_callC (X : OnK p l e R s m args below meth c n0 T h cells slots) (hx : p.tables.exec = Jvm.exec) (hZ : Z.Warmed39 s.vm) {own : String} {i W ml : Nat} {y : MethodName} {bytes : ByteArray} {rm : Room} {Q : Option Value → Heap → Prop} {aL : List Value} {ps : List FieldType} {rt : Option FieldType} {a : Addr} (hown : s.vm.findClass own = some m.cls) (hml : Ls.size = c.maxLocals) (hi : y.name = "<init>") (wl : (Jvm.Cond.methodLink own i y).before a0 Z = true) (wi : (Jvm.Cond.instanceMethod y).before a0 Z = true) (wz : (Jvm.Cond.initialized y.cls).before a0 Z = true) (wc : (Jvm.Cond.code y bytes ml none).before a0 Z = true) (hy : y.cls ≠ "java/lang/invoke/MethodHandle" ∧ y.cls ≠ "java/lang/invoke/VarHandle") (pd : parseMethodDescriptor y.desc = some ⟨ps, rt⟩) (hlen : aL.length = ps.length) (ct : CtK l Z y bytes ml none rm (.ref a :: aL).toArray h n0 Q) (hd : decode c.code pc = .ok (.invokespecial i, 3)) (hp : pc + 3 = pc') (hf : rm.frames + 1 ≤ R.frames) (hW : (St.map fun v => v.category).sum ≤ W) (hlo : W + (ml + 11) + rm.locals ≤ R.locals) (hc : cells + rm.cells ≤ R.cells) (hs : slots + rm.slots ≤ R.slots) (hc' : cells + rm.cells = cells') (hs' : slots + rm.slots = slots') (G : ∀ (T' : State) (h' : Heap) (v : Option Value), OnK p l e R s m args below meth c n0 T' h' cells' slots' → Q v h' → GoK p e below D T' (mkF m pc' Ls (v.toList ++ St))) {S0 : List Value} (hS : S0 = aL.reverse ++ .ref a :: St) : GoK p e below D T (mkF m pc Ls S0) := by
  subst hp hc' hs' hS
  obtain ⟨_, Y, e0, N⟩ := X
  obtain ⟨v, _, ⟨B, L, k, n⟩, -, Y', ⟨Lc, ⟨hQ, hN⟩, el, ec, es⟩, st⟩ := Y.specialBack hx (y := y) hi hown (mvT hZ wl) (mvT hZ wi) (mvT hZ wc) hy (backOf (W := W) (Q := fun v h L => Q v h ∧ Fr n0 L) (ct []) hZ wc wz hf hlo) (g := mkF m pc Ls (aL.reverse ++ .ref a :: St)) rfl hml (Steps.refl _) (a := a) (argsL := aL) (rest := St) (lenOf pd hlen) rfl (by show 2 * 0 + _ ≤ _; omega) hd (fun _ _ => ⟨rfl, e0, hc, hs⟩)
  dsimp only [Pt.U, Pt.locs, Pt.cells, Pt.slots] at Y' el ec es st hQ
  subst el ec es
  exact GoK.by (fun t k => st.trans k) (G B _ v ⟨_, Y', rfl, N.app hN⟩ hQ)
theorem go_callV (X : OnK p l e R s m args below meth c n0 T h cells slots) (hx : p.tables.exec = Jvm.exec) (hZ : Z.Warmed39 s.vm) {own : String} {i W ml : Nat} {y : MethodName} {bytes : ByteArray} {ret : Option FieldType} {rm : Room} {Q : Option Value → Heap → Prop} {aL : List Value} {ps : List FieldType} {rt : Option FieldType} {a : Addr} (hown : s.vm.findClass own = some m.cls) (hml : Ls.size = c.maxLocals) (E : Exa Z h a y.cls) (wl : (Jvm.Cond.methodLink own i y).before a0 Z = true) (wd : (Jvm.Cond.declares y).before a0 Z = true) (ws : (Jvm.Cond.selects y.cls y y).before a0 Z = true) (wi : (Jvm.Cond.instanceMethod y).before a0 Z = true) (wz : (Jvm.Cond.initialized y.cls).before a0 Z = true) (wc : (Jvm.Cond.code y bytes ml ret).before a0 Z = true) (hy : y.cls ≠ "java/lang/invoke/MethodHandle" ∧ y.cls ≠ "java/lang/invoke/VarHandle") (pd : parseMethodDescriptor y.desc = some ⟨ps, rt⟩) (hlen : aL.length = ps.length) (ct : CtK l Z y bytes ml ret rm (.ref a :: aL).toArray h n0 Q) (hd : decode c.code pc = .ok (.invokevirtual i, 3)) (hp : pc + 3 = pc') (hf : rm.frames + 1 ≤ R.frames) (hW : (St.map fun v => v.category).sum ≤ W) (hlo : W + (ml + 11) + rm.locals ≤ R.locals) (hc : cells + rm.cells ≤ R.cells) (hs : slots + rm.slots ≤ R.slots) (hc' : cells + rm.cells = cells') (hs' : slots + rm.slots = slots') (G : ∀ (T' : State) (h' : Heap) (v : Option Value), OnK p l e R s m args below meth c n0 T' h' cells' slots' → Q v h' → GoK p e below D T' (mkF m pc' Ls (v.toList ++ St))) {S0 : List Value} (hS : S0 = aL.reverse ++ .ref a :: St) : GoK p e below D T (mkF m pc Ls S0) := by
  subst hp hc' hs' hS
  obtain ⟨_, Y, e0, N⟩ := X
  obtain ⟨cq, kq, qa, qb, qc⟩ := isOf hZ e0 E
  obtain ⟨v, _, ⟨B, L, k, n⟩, -, Y', ⟨Lc, ⟨hQ, hN⟩, el, ec, es⟩, st⟩ := Y.virtualBack hx (y := y) (z := y) hown (mvT hZ wl) (mvT hZ wd) (notFace_of_selects (args := #[]) (mvT hZ ws)) (mvT hZ ws) (mvT hZ wi) hy (backOf (W := W) (Q := fun v h L => Q v h ∧ Fr n0 L) (ct []) hZ wc wz hf hlo) qa qc (g := mkF m pc Ls (aL.reverse ++ .ref a :: St)) rfl hml (Steps.refl _) (argsL := aL) (rest := St) (lenOf pd hlen) rfl (by show 2 * 0 + _ ≤ _; omega) hd (fun _ _ => ⟨rfl, e0, hc, hs⟩)
  dsimp only [Pt.U, Pt.locs, Pt.cells, Pt.slots] at Y' el ec es st hQ
  subst el ec es
  exact GoK.by (fun t k => st.trans k) (G B _ v ⟨_, Y', rfl, N.app hN⟩ hQ)
def TwoK (a b : Slot) : Prop := (a = .unset ∧ b = .unset) ∨ ∃ x : Int64, a = .val (.long x) ∧ b = .second
end OwnK
end Jvm.RoadKit
namespace Jvm.Pilot.@@N@@
open Jvm Jvm.ClassFile Sem Op Lib Jvm.Free Jvm.Stand Jvm.LawKit Jvm.RoadKit Bundle Jvm.Pilot.@@N@@.Jvm.D
theorem own_ltI {a b : Int32} (h : a < b) : a.toInt < b.toInt := Int32.lt_iff_toInt_lt.mp h
theorem own_geI {a b : Int32} (h : ¬ a < b) : ¬ a.toInt < b.toInt := fun w => h (Int32.lt_iff_toInt_lt.mpr w)
theorem own_eqI {a b : Int32} (h : a = b) : a.toInt = b.toInt := congrArg _ h
theorem own_neI {a b : Int32} (h : ¬ a = b) : ¬ a.toInt = b.toInt := fun w => h (Int32.toInt_inj.mp w)
theorem own_k0 : (0 : Int32).toInt = 0 := rfl
theorem own_k1 : (1 : Int32).toInt = 1 := rfl
theorem own_k48 : (48 : Int32).toInt = 48 := rfl
theorem own_inc {v x : Int32} (h : v = x + 1) (hx : x.toInt < 2147483647) : v.toInt = x.toInt + 1 := by
  have h1 := own_k1
  have := rng32 x
  rw [h, Jvm.Free.XT.add32 ⟨by omega, by omega⟩, h1]
def own_dig (v : Int32) : Prop := 48 ≤ v.toInt ∧ v.toInt ≤ 57
/-- z is where the run of places with p from a on ends, at b at the latest -/
def own_scan (p : Int → Prop) (a b z : Int) : Prop := a ≤ z ∧ z ≤ b ∧ (∀ i : Int, a ≤ i → i < z → p i) ∧ (z < b → ¬ p z)
theorem own_scanU {p : Int → Prop} {a b z w : Int} (h : own_scan p a b z) (k : own_scan p a b w) : z = w := by
  obtain ⟨h1, h2, h3, h4⟩ := h
  obtain ⟨k1, k2, k3, k4⟩ := k
  by_cases c : z < w
  · exact absurd (k3 z h1 c) (h4 (by omega))
  by_cases d : w < z
  · exact absurd (h3 w k1 d) (k4 (by omega))
  omega
theorem own_isd {x z : Int32} (h : z = if ¬ x < 48 ∧ ¬ 57 < x then 1 else 0) : (z = 1 ∧ own_dig x) ∨ (z = 0 ∧ ¬ own_dig x) := by
  have k1 : (48 : Int32).toInt = 48 := rfl
  have k2 : (57 : Int32).toInt = 57 := rfl
  unfold own_dig
  by_cases q : ¬ x < 48 ∧ ¬ 57 < x
  · rw [if_pos q] at h
    obtain ⟨q1, q2⟩ := q
    rw [Int32.lt_iff_toInt_lt] at q1 q2
    exact Or.inl ⟨h, by omega, by omega⟩
  · rw [if_neg q] at h
    refine Or.inr ⟨h, fun w => q ⟨?_, ?_⟩⟩ <;> rw [Int32.lt_iff_toInt_lt] <;> omega
theorem own_nb (x : Int32) : nar .byte x = x.toInt8.toInt32 := rfl
theorem own_i8 (y : Int8) : y.toInt32.toInt8 = y := by simp
theorem own_b8 (x : Int32) : nar .byte x.toInt8.toInt32 = x.toInt8.toInt32 := by rw [own_nb, own_i8]
theorem own_c8 {x : Int32} (h0 : -128 ≤ x.toInt) (h1 : x.toInt ≤ 127) : x.toInt8.toInt32 = x := by
  apply Int32.toInt_inj.mp
  have := c_i2b x; omega
theorem own_agree {f x : Int → Int32} {w : Int} {v : Int32} (h : ∀ i : Int, 0 ≤ i → i < w → f i = x i) (hv : x w = v) : ∀ i : Int, 0 ≤ i → i < w + 1 → (if i = w then v else f i) = x i := by
  intro i i0 i1
  by_cases q : i = w
  · rw [if_pos q, q, hv]
  · rw [if_neg q]; exact h i i0 (by omega)
def own_pow (i : Int) : Int64 := Int64.ofInt ((10 : Int) ^ i.toNat)
theorem own_sub18 {j : Int32} (h0 : 0 ≤ j.toInt) (h1 : j.toInt ≤ 18) : ((18 : Int32) - j).toInt = 18 - j.toInt := by
  have k : (18 : Int32).toInt = 18 := rfl
  rw [Jvm.Free.XT.sub32 ⟨by omega, by omega⟩, k]
theorem own_pnz : ∀ i : Int, 0 ≤ i → i < 19 → own_pow i ≠ 0 := by
  intro i h0 h1
  rcases (by omega : i = 0 ∨ i = 1 ∨ i = 2 ∨ i = 3 ∨ i = 4 ∨ i = 5 ∨ i = 6 ∨ i = 7 ∨ i = 8 ∨ i = 9 ∨ i = 10 ∨ i = 11 ∨ i = 12 ∨ i = 13 ∨ i = 14 ∨ i = 15 ∨ i = 16 ∨ i = 17 ∨ i = 18) with rfl | rfl | rfl | rfl | rfl | rfl | rfl | rfl | rfl | rfl | rfl | rfl | rfl | rfl | rfl | rfl | rfl | rfl | rfl <;> decide
theorem own_chr {g : Int32} {DG : Int} (h : g.toInt = DG) (h0 : 0 ≤ DG) (h1 : DG ≤ 9) {y : Int32} (hy : y.toInt = 48 + DG) : nar .byte (((48 : Int32) + g).toInt8.toInt32) = y := by
  have k : (48 : Int32).toInt = 48 := rfl
  have e : ((48 : Int32) + g).toInt = 48 + DG := by rw [Jvm.Free.XT.add32 ⟨by omega, by omega⟩, k, h]
  rw [own_b8, own_c8 (by omega) (by omega)]
  apply Int32.toInt_inj.mp; omega
theorem own_l2i {z : Int64} {DG : Int} (h : z.toInt = DG) (h0 : 0 ≤ DG) (h1 : DG ≤ 9) : z.toInt32.toInt = DG := by
  have := c_l2i z; have := rng32 z.toInt32; omega
/-- how many digits stand at j and behind it -/
def own_cnt (i1 i2 i3 j : Int) : Int := if j ≤ i1 then (i1 - j) + (i3 - i2) else i3 - j
def own_T0 (f : Int → Int32) (i0 W sgn : Int) : Prop := (i0 = 0 ∧ sgn = 1 ∧ (0 < W → ¬ f 0 = 43 ∧ ¬ f 0 = 45)) ∨ (i0 = 1 ∧ 0 < W ∧ ((f 0 = 43 ∧ sgn = 1) ∨ (f 0 = 45 ∧ sgn = -1)))
def own_T1 (f : Int → Int32) (i0 i1 i2 i3 W : Int) : Prop := 0 ≤ i0 ∧ i0 ≤ i1 ∧ i2 ≤ i3 ∧ i3 ≤ W ∧ (i3 < W → ¬ own_dig (f i3)) ∧ ((i2 = i1 + 1 ∧ f i1 = 46) ∨ (i2 = i1 ∧ i3 = i1 ∧ (i1 < W → ¬ f i1 = 46)))
def own_T2 (f : Int → Int32) (N : Nat) (i0 i1 i2 i3 : Int) : Prop := ∀ j : Int, (i0 ≤ j ∧ j < i1) ∨ (i2 ≤ j ∧ j < i3) → (f j).toInt = 48 + ((N / 10 ^ (own_cnt i1 i2 i3 j - 1).toNat % 10 : Nat) : Int)
def own_T4 (f : Int → Int32) (i3 W wr : Int) : Prop := (i3 = W ∧ wr = 0) ∨ ∃ i5 d1 d2 sx : Int, (f i3 = 101 ∨ f i3 = 69) ∧ W = i5 + 2 ∧ ((i5 = i3 + 1 ∧ sx = 1) ∨ (i5 = i3 + 2 ∧ f (i3 + 1) = 43 ∧ sx = 1) ∨ (i5 = i3 + 2 ∧ f (i3 + 1) = 45 ∧ sx = -1)) ∧ (f i5).toInt = 48 + d1 ∧ (f (i5 + 1)).toInt = 48 + d2 ∧ 0 ≤ d1 ∧ d1 ≤ 9 ∧ 0 ≤ d2 ∧ d2 ≤ 9 ∧ wr = sx * (10 * d1 + d2)
/-- what is known of the number's sign, first digit and exponent -/
def own_S (N : Nat) (i0 i1 i2 i3 sgn wr : Int) (sg first : Int32) (ex : Int64) : Prop := (N = 0 ∧ sg = 0) ∨ (N ≠ 0 ∧ sg.toInt = sgn ∧ ((i0 ≤ first.toInt ∧ first.toInt < i1) ∨ (i2 ≤ first.toInt ∧ first.toInt < i3)) ∧ N < 10 ^ (own_cnt i1 i2 i3 first.toInt).toNat ∧ ex.toInt = wr - (i3 - i2) + own_cnt i1 i2 i3 first.toInt)
def own_R (N : Nat) (i0 i1 i2 i3 sgn wr : Int) (sg first pnt : Int32) (ex wh : Int64) : Prop := own_S N i0 i1 i2 i3 sgn wr sg first ex ∧ ((pnt.toInt = -1 ∧ i2 = i1) ∨ (pnt.toInt = i1 ∧ i2 = i1 + 1)) ∧ (wh.toInt = -1 ∨ (wh.toInt = (N : Int) ∧ wr = 0 ∧ i3 = i2 ∧ 0 ≤ sg.toInt))
theorem own_dgz {f : Int → Int32} {N : Nat} {i0 i1 i2 i3 j : Int} (h : own_T2 f N i0 i1 i2 i3) (hj : (i0 ≤ j ∧ j < i1) ∨ (i2 ≤ j ∧ j < i3)) : own_dig (f j) := by
  have := h j hj
  unfold own_dig; omega
theorem own_sc1 {f : Int → Int32} {N : Nat} {i0 i1 i2 i3 W : Int} (h1 : own_T1 f i0 i1 i2 i3 W) (h2 : own_T2 f N i0 i1 i2 i3) : own_scan (fun i => own_dig (f i)) i0 W i1 := by
  obtain ⟨a, b, c, d, e, g⟩ := h1
  refine ⟨b, by omega, fun i q r => own_dgz h2 (Or.inl ⟨q, r⟩), fun q => ?_⟩
  rcases g with ⟨g1, g2⟩ | ⟨g1, g2, g3⟩
  · show ¬ own_dig (f i1)
    rw [g2]; unfold own_dig; decide
  · rw [← g2]; exact e (by omega)
theorem own_sc2 {f : Int → Int32} {N : Nat} {i0 i1 i2 i3 W : Int} (h1 : own_T1 f i0 i1 i2 i3 W) (h2 : own_T2 f N i0 i1 i2 i3) : own_scan (fun i => own_dig (f i)) i2 W i3 := by
  obtain ⟨a, b, c, d, e, g⟩ := h1
  exact ⟨c, d, fun i q r => own_dgz h2 (Or.inr ⟨q, r⟩), e⟩
theorem own_mn {z prev : Int64} {w : Int32} {d P v : Int} (hz : z = if (prev * 10 + (w - 48).toInt64) < 1000000000000000 then prev * 10 + (w - 48).toInt64 else 1000000000000000) (hw : w.toInt = 48 + d) (d0 : 0 ≤ d) (d9 : d ≤ 9) (hp : prev.toInt = P) (p0 : 0 ≤ P) (p9 : P ≤ 99) (hv : P * 10 + d = v) : z.toInt = v := by
  have k48 : (48 : Int32).toInt = 48 := rfl
  have k10 : (10 : Int64).toInt = 10 := rfl
  have ks : (1000000000000000 : Int64).toInt = 1000000000000000 := rfl
  have e1 : (w - 48).toInt64.toInt = d := by rw [Int32.toInt_toInt64, Jvm.Free.XT.sub32 ⟨by omega, by omega⟩]; omega
  have e2 : (prev * 10).toInt = P * 10 := by rw [Jvm.Free.XT.mul64 ⟨by rw [k10]; omega, by rw [k10]; omega⟩, k10, hp]
  have e3 : (prev * 10 + (w - 48).toInt64).toInt = v := by rw [Jvm.Free.XT.add64 ⟨by omega, by omega⟩]; omega
  rw [hz, if_pos]
  · exact e3
  · rw [Int64.lt_iff_toInt_lt]; omega
theorem own_wr {f : Int → Int32} {i3 W wr : Int} (h : own_T4 f i3 W wr) : -99 ≤ wr ∧ wr ≤ 99 := by
  rcases h with ⟨-, h⟩ | ⟨i5, d1, d2, sx, -, -, x3, -, -, h1, h2, h3, h4, h5⟩
  · omega
  · rcases x3 with ⟨-, rfl⟩ | ⟨-, -, rfl⟩ | ⟨-, -, rfl⟩ <;> omega
theorem own_wr0 {f : Int → Int32} {i3 W wr : Int} (h : own_T4 f i3 W wr) (e : i3 = W) : wr = 0 := by
  rcases h with ⟨-, h⟩ | ⟨i5, d1, d2, sx, -, x2, x3, -⟩
  · exact h
  · exfalso; rcases x3 with ⟨a, -⟩ | ⟨a, -, -⟩ | ⟨a, -, -⟩ <;> omega
theorem own_dvs (N k : Nat) : N / 10 ^ (k + 1) * 10 + N / 10 ^ k % 10 = N / 10 ^ k := by
  rw [Nat.pow_succ, ← Nat.div_div_eq_div_mul]
  have := Nat.div_add_mod (N / 10 ^ k) 10
  omega
theorem own_lts {N k : Nat} (h : N < 10 ^ (k + 1)) (d : N / 10 ^ k % 10 = 0) : N < 10 ^ k := by
  have e := own_dvs N k
  rw [Nat.div_eq_of_lt h, d] at e
  rcases Nat.lt_or_ge N (10 ^ k) with c | c
  · exact c
  · have := Nat.div_pos c (Nat.pow_pos (by decide)); omega
theorem own_48 {f : Int → Int32} {N : Nat} {i0 i1 i2 i3 j : Int} (h : own_T2 f N i0 i1 i2 i3) (hj : (i0 ≤ j ∧ j < i1) ∨ (i2 ≤ j ∧ j < i3)) : f j = 48 ↔ N / 10 ^ (own_cnt i1 i2 i3 j - 1).toNat % 10 = 0 := by
  have e := h j hj
  have k : (48 : Int32).toInt = 48 := rfl
  constructor
  · intro q; rw [q] at e; omega
  · intro q; apply Int32.toInt_inj.mp; omega
theorem own_zr {f : Int → Int32} {N : Nat} {i0 i1 i2 i3 a b : Int} (h : own_T2 f N i0 i1 i2 i3) (n : Nat) : ∀ z : Int, z = a + n → (∀ j, a ≤ j → j < z → f j = 48) → (∀ j, a ≤ j → j < z → ((i0 ≤ j ∧ j < i1) ∨ (i2 ≤ j ∧ j < i3)) ∧ own_cnt i1 i2 i3 (j + 1) = own_cnt i1 i2 i3 j - 1 ∧ 1 ≤ own_cnt i1 i2 i3 j) → N < 10 ^ (own_cnt i1 i2 i3 a).toNat → N < 10 ^ (own_cnt i1 i2 i3 z).toNat := by
  induction n with
  | zero => intro z e _ _ hN; rw [e]; simpa using hN
  | succ n ih =>
    intro z e hz hc hN
    have i := ih (a + n) rfl (fun j j1 j2 => hz j j1 (by omega)) (fun j j1 j2 => hc j j1 (by omega)) hN
    obtain ⟨c1, c2, c3⟩ := hc (a + n) (by omega) (by omega)
    have d := (own_48 h c1).mp (hz (a + n) (by omega) (by omega))
    rw [show z = a + (n : Int) + 1 by omega, c2]
    refine own_lts ?_ d
    rw [show (own_cnt i1 i2 i3 (a + ↑n) - 1).toNat + 1 = (own_cnt i1 i2 i3 (a + ↑n)).toNat by omega]
    exact i
theorem own_c1 {i1 i2 i3 j : Int} (h : j ≤ i1) : own_cnt i1 i2 i3 j = (i1 - j) + (i3 - i2) := if_pos h
theorem own_c2 {i1 i2 i3 j : Int} (h : ¬ j ≤ i1) : own_cnt i1 i2 i3 j = i3 - j := if_neg h
theorem own_zi {f : Int → Int32} {N : Nat} {i0 i1 i2 i3 W z : Int} (h1 : own_T1 f i0 i1 i2 i3 W) (h2 : own_T2 f N i0 i1 i2 i3) (T3 : N < 10 ^ (i1 - i0 + (i3 - i2)).toNat) (hs : own_scan (fun i => f i = 48) i0 i1 z) : N < 10 ^ (own_cnt i1 i2 i3 z).toNat := by
  obtain ⟨a, b, c, d, -, -⟩ := h1
  obtain ⟨s1, s2, s3, -⟩ := hs
  refine own_zr (a := i0) (b := 0) h2 (z - i0).toNat z (by omega) s3 (fun j j1 j2 => ⟨Or.inl ⟨j1, by omega⟩, ?_, ?_⟩) ?_
  · rw [own_c1 (by omega), own_c1 (by omega)]; omega
  · rw [own_c1 (by omega)]; omega
  · rw [own_c1 b]; exact T3
theorem own_zf {f : Int → Int32} {N : Nat} {i0 i1 i2 i3 W z : Int} (h1 : own_T1 f i0 i1 i2 i3 W) (h2 : own_T2 f N i0 i1 i2 i3) (hN : N < 10 ^ (i3 - i2).toNat) (hs : own_scan (fun i => f i = 48) i2 i3 z) : N < 10 ^ (i3 - z).toNat := by
  obtain ⟨a, b, c, d, -, g⟩ := h1
  obtain ⟨s1, s2, s3, -⟩ := hs
  rcases g with ⟨g, -⟩ | ⟨g, g', -⟩
  · have := own_zr (a := i2) (b := 0) h2 (z - i2).toNat z (by omega) s3 (fun j j1 j2 => ⟨Or.inr ⟨j1, by omega⟩, by rw [own_c2 (by omega), own_c2 (by omega)]; omega, by rw [own_c2 (by omega)]; omega⟩) (by rw [own_c2 (by omega)]; exact hN)
    rw [own_c2 (by omega)] at this; exact this
  · have e : z = i3 := by omega
    rw [e]; rw [show i3 - i2 = i3 - i3 by omega] at hN; exact hN
theorem own_f1 {f : Int → Int32} {N : Nat} {i0 i1 i2 i3 W sgn wr : Int} {v5 z z7 : Int32} {y11 e : Int64} (T1 : own_T1 f i0 i1 i2 i3 W) (T2 : own_T2 f N i0 i1 i2 i3) (T3 : N < 10 ^ (i1 - i0 + (i3 - i2)).toNat) (T3' : i1 - i0 + (i3 - i2) ≤ 19) (T4 : own_T4 f i3 W wr)
    (hs : own_scan (fun i => f i = 48) i0 i1 z.toInt) (q : ¬ z.toInt = i1) (q5 : v5.toInt = sgn) (y2 : y11.toInt = wr) (e7 : z7.toInt = i1) (hW : W ≤ 26) (he : e = y11 + (z7 - z).toInt64) : own_S N i0 i1 i2 i3 sgn wr v5 z e := by
  have hz := own_zi T1 T2 T3 hs
  have wb := own_wr T4
  obtain ⟨a, b, c, d, -, g⟩ := T1
  obtain ⟨s1, s2, s3, s4⟩ := hs
  have h7 : i1 ≤ W := by rcases g with ⟨g, -⟩ | ⟨g, g', -⟩ <;> omega
  have pz : (i0 ≤ z.toInt ∧ z.toInt < i1) ∨ (i2 ≤ z.toInt ∧ z.toInt < i3) := Or.inl ⟨s1, by omega⟩
  refine Or.inr ⟨fun n0 => ?_, q5, pz, hz, ?_⟩
  · apply s4 (by omega)
    show f z.toInt = 48
    rw [own_48 T2 pz, n0, Nat.zero_div]
  · have e1 : (z7 - z).toInt64.toInt = i1 - z.toInt := by rw [Int32.toInt_toInt64, Jvm.Free.XT.sub32 ⟨by omega, by omega⟩]; omega
    rw [he, Jvm.Free.XT.add64 ⟨by omega, by omega⟩, own_c1 (by omega)]; omega
theorem own_f2 {f : Int → Int32} {N : Nat} {i0 i1 i2 i3 W sgn wr : Int} {v5 z z2 w8 : Int32} {y11 e : Int64} (T1 : own_T1 f i0 i1 i2 i3 W) (T2 : own_T2 f N i0 i1 i2 i3) (T3 : N < 10 ^ (i1 - i0 + (i3 - i2)).toNat) (T3' : i1 - i0 + (i3 - i2) ≤ 19) (T4 : own_T4 f i3 W wr)
    (hs : own_scan (fun i => f i = 48) i0 i1 z.toInt) (q : z.toInt = i1) (hs2 : own_scan (fun i => f i = 48) i2 i3 z2.toInt) (q' : ¬ z2.toInt = i3) (q5 : v5.toInt = sgn) (y2 : y11.toInt = wr) (q8 : w8.toInt = i2) (hW : W ≤ 26) (he : e = y11 - (z2 - w8).toInt64) : own_S N i0 i1 i2 i3 sgn wr v5 z2 e := by
  have hz := own_zi T1 T2 T3 hs
  rw [q, own_c1 (Int.le_refl _), show i1 - i1 + (i3 - i2) = i3 - i2 by omega] at hz
  have hz2 := own_zf T1 T2 hz hs2
  have wb := own_wr T4
  obtain ⟨a, b, c, d, -, g⟩ := T1
  obtain ⟨s1, s2, s3, s4⟩ := hs2
  have pz : (i0 ≤ z2.toInt ∧ z2.toInt < i1) ∨ (i2 ≤ z2.toInt ∧ z2.toInt < i3) := Or.inr ⟨s1, by omega⟩
  have gt : ¬ z2.toInt ≤ i1 := by rcases g with ⟨g, -⟩ | ⟨g, g', -⟩ <;> omega
  refine Or.inr ⟨fun n0 => ?_, q5, pz, by rw [own_c2 gt]; exact hz2, ?_⟩
  · apply s4 (by omega)
    show f z2.toInt = 48
    rw [own_48 T2 pz, n0, Nat.zero_div]
  · have e1 : (z2 - w8).toInt64.toInt = z2.toInt - i2 := by rw [Int32.toInt_toInt64, Jvm.Free.XT.sub32 ⟨by omega, by omega⟩]; omega
    rw [he, Jvm.Free.XT.sub64 ⟨by omega, by omega⟩, own_c2 gt]; omega
theorem own_f3 {f : Int → Int32} {N : Nat} {i0 i1 i2 i3 W sgn wr : Int} {z z2 fst : Int32} {e : Int64} (T1 : own_T1 f i0 i1 i2 i3 W) (T2 : own_T2 f N i0 i1 i2 i3) (T3 : N < 10 ^ (i1 - i0 + (i3 - i2)).toNat)
    (hs : own_scan (fun i => f i = 48) i0 i1 z.toInt) (q : z.toInt = i1) (hs2 : own_scan (fun i => f i = 48) i2 i3 z2.toInt) (q' : z2.toInt = i3) : own_S N i0 i1 i2 i3 sgn wr 0 fst e := by
  have hz := own_zi T1 T2 T3 hs
  rw [q, own_c1 (Int.le_refl _), show i1 - i1 + (i3 - i2) = i3 - i2 by omega] at hz
  have hz2 := own_zf T1 T2 hz hs2
  rw [q', show i3 - i3 = 0 by omega] at hz2
  exact Or.inl ⟨Nat.lt_one_iff.mp hz2, rfl⟩
theorem own_18 {a b : Int32} {i0 i3 : Int} (c : ¬ (18 : Int32) < b - a) (hb : b.toInt = i3) (ha : a.toInt = i0) (h0 : 0 ≤ i0) (h1 : i0 ≤ 26) (h2 : 0 ≤ i3) (h3 : i3 ≤ 26) : i3 - i0 ≤ 18 := by
  rw [Int32.lt_iff_toInt_lt, Jvm.Free.XT.sub32 ⟨by omega, by omega⟩, ha, hb] at c
  have k : (18 : Int32).toInt = 18 := rfl
  omega
theorem own_18b {N : Nat} {k : Int} (h : N < 10 ^ k.toNat) (hk : k ≤ 18) : N < 1000000000000000000 := by
  have : 10 ^ k.toNat ≤ 10 ^ 18 := Nat.pow_le_pow_right (by decide) (by omega)
  omega
theorem own_wst {f : Int → Int32} {N : Nat} {i0 i1 i2 i3 : Int} {wv : Int64} {d d' w : Int32} (T2 : own_T2 f N i0 i1 i2 i3) (hN : N < 10 ^ (i3 - i0).toNat) (h18 : i3 - i0 ≤ 18) (l3 : wv.toInt = ((N / 10 ^ (i3 - d.toInt).toNat : Nat) : Int)) (a : i0 ≤ d.toInt) (b : d.toInt < i3) (p1 : i2 = i1) (p2 : i3 = i1) (hw : w = f d.toInt) (e : d'.toInt = d.toInt + 1) :
    (wv * 10 + (w - 48).toInt64).toInt = ((N / 10 ^ (i3 - d'.toInt).toNat : Nat) : Int) := by
  have g := T2 d.toInt (Or.inl ⟨a, by omega⟩)
  rw [← hw, own_c1 (by omega), show (i1 - d.toInt + (i3 - i2) - 1).toNat = (i3 - d'.toInt).toNat by omega] at g
  have s := own_dvs N (i3 - d'.toInt).toNat
  rw [show (i3 - d'.toInt).toNat + 1 = (i3 - d.toInt).toNat by omega] at s
  have bd := own_18b hN h18
  have l1 : N / 10 ^ (i3 - d'.toInt).toNat ≤ N := Nat.div_le_self _ _
  generalize N / 10 ^ (i3 - d'.toInt).toNat = A at *
  generalize N / 10 ^ (i3 - d.toInt).toNat = B at *
  have k48 : (48 : Int32).toInt = 48 := rfl
  have k10 : (10 : Int64).toInt = 10 := rfl
  have e1 : (w - 48).toInt64.toInt = ((A % 10 : Nat) : Int) := by rw [Int32.toInt_toInt64, Jvm.Free.XT.sub32 ⟨by omega, by omega⟩]; omega
  have e2 : (wv * 10).toInt = B * 10 := by rw [Jvm.Free.XT.mul64 ⟨by rw [k10]; omega, by rw [k10]; omega⟩, k10, l3]
  rw [Jvm.Free.XT.add64 ⟨by omega, by omega⟩]; omega
/-- the count of units that is due -/
def own_res (N : Nat) (K s : Int) : Int := if K < 0 then s * ((N / 10 ^ (-K).toNat : Nat) : Int) else if N * 10 ^ K.toNat ≤ 9223372036854775807 then s * ((N * 10 ^ K.toNat : Nat) : Int) else -9223372036854775808
theorem own_res0 (K s : Int) : own_res 0 K s = 0 := by
  unfold own_res
  split
  · simp
  · simp
theorem own_u0 {N : Nat} {i0 i1 i2 i3 sgn wr K : Int} {sg fst pnt : Int32} {ex wh : Int64} (R : own_R N i0 i1 i2 i3 sgn wr sg fst pnt ex wh) (hs : sgn = 1 ∨ sgn = -1) (c : sg = 0) : (sg.toInt64 * wh).toInt = own_res N K sgn := by
  obtain ⟨hS, -, -⟩ := R
  rcases hS with ⟨a, -⟩ | ⟨-, a, -⟩
  · rw [a, own_res0, c]
    show ((0 : Int64) * wh).toInt = 0
    rw [Int64.zero_mul]; rfl
  · exfalso; rw [c] at a; have := own_k0; omega
theorem own_u1 {N : Nat} {i0 i1 i2 i3 sgn wr : Int} {sg fst pnt p1 : Int32} {ex wh : Int64} (R : own_R N i0 i1 i2 i3 sgn wr sg fst pnt ex wh) (hs : sgn = 1 ∨ sgn = -1) (c : ¬ sg = 0) (c13 : ¬ wh < 0) (c17 : p1 = 0) : (sg.toInt64 * wh).toInt = own_res N (wr - (i3 - i2) + p1.toInt) sgn := by
  obtain ⟨hS, -, hw⟩ := R
  rw [Int64.lt_iff_toInt_lt] at c13
  have k0 : (0 : Int64).toInt = 0 := rfl
  have k0' := own_k0
  have c' := own_neI c
  rcases hw with hw | ⟨w1, w2, w3, w4⟩
  · exfalso; omega
  rcases hS with ⟨-, a⟩ | ⟨-, a, -⟩
  · exact absurd a c
  have e : sg = 1 := Int32.toInt_inj.mp (by rw [a]; have := own_k1; omega)
  have es : sgn = 1 := by rw [← a, e]; rfl
  rw [c17, own_k0, w2, w3, show (0 : Int) - (i2 - i2) + 0 = 0 by omega, es, e]
  show ((1 : Int64) * wh).toInt = _
  rw [Int64.one_mul, w1]
  have r := rng64 wh
  unfold own_res
  rw [if_neg (by omega), if_pos (by simp; omega)]; simp
theorem own_19 {N : Nat} {k : Int} (h : N < 10 ^ k.toNat) (hk : k ≤ 19) : N < 10000000000000000000 := by
  have : 10 ^ k.toNat ≤ 10 ^ 19 := Nat.pow_le_pow_right (by decide) (by omega)
  omega
theorem own_cb {i0 i1 i2 i3 W j : Int} {P Q : Prop} (t1 : 0 ≤ i0) (t2 : i0 ≤ i1) (t3 : i2 ≤ i3) (t4 : i3 ≤ W) (hW : W ≤ 26) (t6 : (i2 = i1 + 1 ∧ P) ∨ (i2 = i1 ∧ i3 = i1 ∧ Q)) (h : (i0 ≤ j ∧ j < i1) ∨ (i2 ≤ j ∧ j < i3)) : 1 ≤ own_cnt i1 i2 i3 j ∧ own_cnt i1 i2 i3 j ≤ 26 := by
  unfold own_cnt
  rcases t6 with ⟨g, -⟩ | ⟨g, g', -⟩ <;> rcases h with ⟨a, b⟩ | ⟨a, b⟩ <;> split <;> omega
theorem own_cb2 {i1 i2 i3 j : Int} {P Q : Prop} (t3 : i2 ≤ i3) (t6 : (i2 = i1 + 1 ∧ P) ∨ (i2 = i1 ∧ i3 = i1 ∧ Q)) (h : j ≤ i3) : 0 ≤ own_cnt i1 i2 i3 j := by
  unfold own_cnt
  rcases t6 with ⟨g, -⟩ | ⟨g, g', -⟩ <;> split <;> omega
theorem own_ce {i1 i2 i3 : Int} {P Q : Prop} (t6 : (i2 = i1 + 1 ∧ P) ∨ (i2 = i1 ∧ i3 = i1 ∧ Q)) (t3 : i2 ≤ i3) : own_cnt i1 i2 i3 i3 = 0 := by
  unfold own_cnt
  rcases t6 with ⟨g, -⟩ | ⟨g, g', -⟩ <;> split <;> omega
theorem own_cp {i1 i2 i3 : Int} {P Q : Prop} {pnt v8 v8' : Int32} (t6 : (i2 = i1 + 1 ∧ P) ∨ (i2 = i1 ∧ i3 = i1 ∧ Q)) (hpn : (pnt.toInt = -1 ∧ i2 = i1) ∨ (pnt.toInt = i1 ∧ i2 = i1 + 1)) (y : v8.toInt = pnt.toInt) (e : v8'.toInt = v8.toInt + 1) (h0 : 0 ≤ v8.toInt) : own_cnt i1 i2 i3 v8'.toInt = own_cnt i1 i2 i3 v8.toInt := by
  rcases hpn with ⟨a, b⟩ | ⟨a, b⟩
  · exfalso; omega
  · rw [own_c2 (by omega), own_c1 (by omega)]; omega
theorem own_cd {i0 i1 i2 i3 : Int} {P Q : Prop} {v8 v8' : Int32} (dp : (i0 ≤ v8.toInt ∧ v8.toInt < i1) ∨ (i2 ≤ v8.toInt ∧ v8.toInt < i3)) (t6 : (i2 = i1 + 1 ∧ P) ∨ (i2 = i1 ∧ i3 = i1 ∧ Q)) (e : v8'.toInt = v8.toInt + 1) : own_cnt i1 i2 i3 v8'.toInt = own_cnt i1 i2 i3 v8.toInt - 1 ∧ (i2 ≤ i3 → 1 ≤ own_cnt i1 i2 i3 v8.toInt) := by
  unfold own_cnt
  rw [e]
  rcases t6 with ⟨g, -⟩ | ⟨g, g', -⟩ <;> rcases dp with ⟨a, b⟩ | ⟨a, b⟩ <;> refine ⟨?_, fun _ => ?_⟩ <;> (repeat' split) <;> omega
theorem own_dp {i0 i1 i2 i3 : Int} {P Q : Prop} {pnt v8 fst : Int32} (t2 : i0 ≤ i1) (t6 : (i2 = i1 + 1 ∧ P) ∨ (i2 = i1 ∧ i3 = i1 ∧ Q)) (hpn : (pnt.toInt = -1 ∧ i2 = i1) ∨ (pnt.toInt = i1 ∧ i2 = i1 + 1)) (hS2 : (i0 ≤ fst.toInt ∧ fst.toInt < i1) ∨ (i2 ≤ fst.toInt ∧ fst.toInt < i3)) (h1 : fst.toInt ≤ v8.toInt) (h2 : v8.toInt < i3) (h3 : ¬ v8.toInt = pnt.toInt) : (i0 ≤ v8.toInt ∧ v8.toInt < i1) ∨ (i2 ≤ v8.toInt ∧ v8.toInt < i3) := by
  rcases t6 with ⟨g, -⟩ | ⟨g, g', -⟩ <;> rcases hpn with ⟨a, b⟩ | ⟨a, b⟩ <;> omega
theorem own_d48 {f : Int → Int32} {j : Int} {D : Nat} {v w : Int32} (h : (f j).toInt = 48 + ((D % 10 : Nat) : Int)) (hw : w = f j) (hv : v = w - 48) : v.toInt = ((D % 10 : Nat) : Int) := by
  have k : (48 : Int32).toInt = 48 := rfl
  rw [← hw] at h
  rw [hv, Jvm.Free.XT.sub32 ⟨by omega, by omega⟩]; omega
/-- (MAX - d) / 10 -/
theorem own_mx {v : Int32} {D : Nat} (h : v.toInt = ((D % 10 : Nat) : Int)) : ((9223372036854775807 - v.toInt64) / 10).toInt = (9223372036854775807 - v.toInt) / 10 := by
  have k : (9223372036854775807 : Int64).toInt = 9223372036854775807 := rfl
  have e : (9223372036854775807 - v.toInt64).toInt = 9223372036854775807 - v.toInt := by rw [Jvm.Free.XT.sub64 ⟨by rw [Int32.toInt_toInt64]; omega, by rw [Int32.toInt_toInt64]; omega⟩, k, Int32.toInt_toInt64]
  rw [(c_ldiv _ 10 10 rfl (by decide)).1 (by omega), e]
theorem own_us {N : Nat} {c : Int} {u u' : Int64} {v : Int32} {Hc : Prop} (hu : u.toInt = ((N / 10 ^ c.toNat : Nat) : Int)) (hc : Hc → 1 ≤ c) (dg : v.toInt = ((N / 10 ^ (c - 1).toNat % 10 : Nat) : Int)) (ck : ¬ (9223372036854775807 - v.toInt64) / 10 < u) (hu' : u' = u * 10 + v.toInt64) (hc' : Hc := by assumption) : u'.toInt = ((N / 10 ^ (c - 1).toNat : Nat) : Int) := by
  have c1 := hc hc'
  rw [Int64.lt_iff_toInt_lt, own_mx dg] at ck
  have s := own_dvs N (c - 1).toNat
  rw [show (c - 1).toNat + 1 = c.toNat by omega] at s
  generalize N / 10 ^ (c - 1).toNat = A at *
  generalize N / 10 ^ c.toNat = B at *
  have k10 : (10 : Int64).toInt = 10 := rfl
  have e2 : (u * 10).toInt = B * 10 := by rw [Jvm.Free.XT.mul64 ⟨by rw [k10]; omega, by rw [k10]; omega⟩, k10, hu]
  rw [hu', Jvm.Free.XT.add64 ⟨by rw [Int32.toInt_toInt64]; omega, by rw [Int32.toInt_toInt64]; omega⟩, Int32.toInt_toInt64, e2]; omega
theorem own_min1 {N : Nat} {c M K s : Int} {u k6 v2 : Int64} {v : Int32} (h19 : N < 10000000000000000000) (hM : N < 10 ^ M.toNat) (hu : u.toInt = ((N / 10 ^ c.toNat : Nat) : Int)) (hk : k6.toInt = M - c) (c1 : 1 ≤ c) (hK : v2.toInt = K + M) (c64 : k6 < v2) (ck : (9223372036854775807 - v.toInt64) / 10 < u) (dg : v.toInt = ((N / 10 ^ (c - 1).toNat % 10 : Nat) : Int)) : (-9223372036854775808 : Int64).toInt = own_res N K s := by
  rw [Int64.lt_iff_toInt_lt, own_mx dg] at ck
  rw [Int64.lt_iff_toInt_lt] at c64
  have e := own_dvs N (c - 1).toNat
  rw [show (c - 1).toNat + 1 = c.toNat by omega] at e
  have big : 9223372036854775807 < N / 10 ^ (c - 1).toNat := by
    generalize N / 10 ^ (c - 1).toNat = A at *
    generalize N / 10 ^ c.toNat = B at *
    omega
  have c0 : c = 1 := by
    rcases Int.lt_or_le 1 c with y | y
    · exfalso
      have : N / 10 ^ (c - 1).toNat ≤ N / 10 ^ 1 := Nat.div_le_div_left (Nat.pow_le_pow_right (by decide) (by omega)) (by decide)
      omega
    · omega
  rw [c0, show ((1 : Int) - 1).toNat = 0 from rfl, Nat.pow_zero, Nat.div_one] at big
  unfold own_res
  rw [if_neg (by omega), if_neg]
  · rfl
  · have p : 0 < 10 ^ K.toNat := Nat.pow_pos (by decide)
    have := Nat.le_mul_of_pos_right N p
    omega
theorem own_min2 {N : Nat} {M K s : Int} {x4 x6 v2 : Int64} (l1 : x4.toInt = ((N * 10 ^ (x6.toInt - M).toNat : Nat) : Int)) (l2 : M ≤ x6.toInt) (l3 : x6.toInt < v2.toInt) (hK : v2.toInt = K + M) (ck : 922337203685477580 < x4) : (-9223372036854775808 : Int64).toInt = own_res N K s := by
  rw [Int64.lt_iff_toInt_lt] at ck
  have k : (922337203685477580 : Int64).toInt = 922337203685477580 := rfl
  unfold own_res
  rw [if_neg (by omega), if_neg]
  · rfl
  · have e : N * 10 ^ K.toNat = N * 10 ^ (x6.toInt - M).toNat * 10 ^ (K.toNat - (x6.toInt - M).toNat) := by rw [Nat.mul_assoc, ← Nat.pow_add]; congr 2; omega
    have g : 10 ^ 1 ≤ 10 ^ (K.toNat - (x6.toInt - M).toNat) := Nat.pow_le_pow_right (by decide) (by omega)
    have m := Nat.mul_le_mul_left (N * 10 ^ (x6.toInt - M).toNat) g
    rw [e]; omega
theorem own_m10 {N : Nat} {M : Int} {x4 x4' x6 x6' : Int64} (l1 : x4.toInt = ((N * 10 ^ (x6.toInt - M).toNat : Nat) : Int)) (l2 : M ≤ x6.toInt) (e6 : x6'.toInt = x6.toInt + 1) (ck : ¬ 922337203685477580 < x4) (h : x4' = x4 * 10) : x4'.toInt = ((N * 10 ^ (x6'.toInt - M).toNat : Nat) : Int) := by
  rw [Int64.lt_iff_toInt_lt] at ck
  have k : (922337203685477580 : Int64).toInt = 922337203685477580 := rfl
  have k10 : (10 : Int64).toInt = 10 := rfl
  rw [show (x6'.toInt - M).toNat = (x6.toInt - M).toNat + 1 by omega, Nat.pow_succ, ← Nat.mul_assoc]
  generalize N * 10 ^ (x6.toInt - M).toNat = A at *
  rw [h, Jvm.Free.XT.mul64 ⟨by rw [k10]; omega, by rw [k10]; omega⟩, k10, l1]; omega
theorem own_sgm {sg : Int32} {x : Int64} {A : Nat} {s : Int} (h : sg.toInt = s) (hs : s = 1 ∨ s = -1) (hx : x.toInt = (A : Int)) : (sg.toInt64 * x).toInt = s * (A : Int) := by
  have r := rng64 x
  rcases hs with q | q
  · have e : sg = 1 := Int32.toInt_inj.mp (by rw [h, q]; rfl)
    rw [e, q]; show ((1 : Int64) * x).toInt = _
    rw [Int64.one_mul, hx]; omega
  · have e : sg = -1 := Int32.toInt_inj.mp (by rw [h, q]; rfl)
    rw [e, q]; show ((-1 : Int64) * x).toInt = _
    have k : (-1 : Int64).toInt = -1 := rfl
    rw [Jvm.Free.XT.mul64 ⟨by rw [k]; omega, by rw [k]; omega⟩, k, hx]
theorem own_ea {N : Nat} {M K s : Int} {sg : Int32} {x4 x6 v2 : Int64} (hS : sg.toInt = s) (hs : s = 1 ∨ s = -1) (l1 : x4.toInt = ((N * 10 ^ (x6.toInt - M).toNat : Nat) : Int)) (l2 : M ≤ x6.toInt) (l3 : x6.toInt ≤ v2.toInt) (c : ¬ x6.toInt < v2.toInt) (hK : v2.toInt = K + M) (M1 : 1 ≤ M ∧ M ≤ 26) : (sg.toInt64 * x4).toInt = own_res N K s := by
  have r := rng64 x4
  rw [show (x6.toInt - M).toNat = K.toNat by omega] at l1
  rw [own_sgm hS hs l1]
  unfold own_res
  rw [if_neg (by omega), if_pos (by omega)]
theorem own_eb {N : Nat} {c M K s : Int} {sg : Int32} {u k6 v2 : Int64} (hS : sg.toInt = s) (hs : s = 1 ∨ s = -1) (hM : N < 10 ^ M.toNat) (hu : u.toInt = ((N / 10 ^ c.toNat : Nat) : Int)) (hk : k6.toInt = M - c) (h5 : k6.toInt = 0 ∨ k6.toInt ≤ v2.toInt) (c64 : ¬ k6.toInt < v2.toInt) (hK : v2.toInt = K + M) (cn0 : 0 ≤ c) : (sg.toInt64 * u).toInt = own_res N K s := by
  have r := rng64 u
  rw [own_sgm hS hs hu]
  unfold own_res
  by_cases q : K < 0
  · rw [if_pos q]
    rcases h5 with h5 | h5
    · have z1 : N / 10 ^ c.toNat = 0 := by rw [show c = M by omega]; exact Nat.div_eq_of_lt hM
      have z2 : N / 10 ^ (-K).toNat = 0 := by
        apply Nat.div_eq_of_lt
        exact Nat.lt_of_lt_of_le hM (Nat.pow_le_pow_right (by decide) (by omega))
      rw [z1, z2]
    · rw [show (-K).toNat = c.toNat by omega]
  · obtain ⟨rfl, rfl⟩ : c = 0 ∧ K = 0 := by omega
    have hu' : u.toInt = (N : Int) := by simpa using hu
    rw [if_neg (by omega), if_pos (by simp; omega)]; simp
def own_Par (n hp pp s0 skip pa i1 i2 i3 : Int) : Prop := 0 ≤ n ∧ n ≤ 19 ∧ skip = 19 - n ∧ (s0 = 0 ∨ s0 = 1) ∧ ((hp = 0 ∧ pa = -1 ∧ i1 = s0 + n ∧ i2 = i1 ∧ i3 = i1) ∨ (hp = 1 ∧ 0 ≤ pp ∧ pp ≤ n ∧ pa = skip + pp ∧ i1 = s0 + pp ∧ i2 = i1 + 1 ∧ i3 = s0 + n + 1))
def own_x (s0 : Int) (sc : Int32) (i1 i2 i3 : Int) (N : Nat) (ec : Int32) (xs : Int) (xc : Int32) (e : Int) (i : Int) : Int32 :=
  if i < s0 then sc else if i < i3 then (if i2 = i1 + 1 ∧ i = i1 then 46 else Int32.ofInt (48 + ((N / 10 ^ (own_cnt i1 i2 i3 i - 1).toNat % 10 : Nat) : Int)))
  else if i = i3 then ec else if xs = 1 ∧ i = i3 + 1 then xc else if i = i3 + 1 + xs then Int32.ofInt (48 + e / 10) else Int32.ofInt (48 + e % 10)
def own_w (s0 skip pa j : Int) : Int := s0 + (if 0 ≤ pa ∧ pa < j then 1 else 0) + (if skip < j then (if j ≤ 19 then j - skip else 19 - skip) else 0)
theorem own_ofI {z : Int} (h0 : -128 ≤ z) (h1 : z ≤ 127) : (Int32.ofInt z).toInt = z := Int32.toInt_ofInt_of_le (by omega) (by omega)
theorem own_amod {v x m d : Int32} (h : v = (x &&& m) % d) (hm : 0 ≤ m.toInt) (hd : 0 < d.toInt) : 0 ≤ v.toInt ∧ v.toInt < d.toInt := by
  have a := c_and x m hm
  have := (c_iremV (x &&& m) d).1 a.1 hd
  rw [h]; omega
theorem own_and {v x m : Int32} (h : v = x &&& m) (hm : 0 ≤ m.toInt) : 0 ≤ v.toInt ∧ v.toInt ≤ m.toInt := by rw [h]; exact c_and x m hm
theorem own_lowr {v q : Int64} (h : v = (q &&& 9223372036854775807) % 1000000000000000000) : 0 ≤ v.toInt ∧ v.toInt < 1000000000000000000 := by
  have a : 0 ≤ (q &&& 9223372036854775807).toInt := by rw [c_maskL q 9223372036854775807 63 (by decide) (by decide)]; omega
  have e : v.toInt = (q &&& 9223372036854775807).toInt % 1000000000000000000 := by rw [h, ← lrem_mod]; exact (c_lrem _ 1000000000000000000 1000000000000000000 rfl).1 a
  omega
theorem own_powI {i : Int} (h0 : 0 ≤ i) (h1 : i < 19) : (own_pow i).toInt = ((10 ^ i.toNat : Nat) : Int) ∧ 1 ≤ (own_pow i).toInt := by
  rcases (by omega : i = 0 ∨ i = 1 ∨ i = 2 ∨ i = 3 ∨ i = 4 ∨ i = 5 ∨ i = 6 ∨ i = 7 ∨ i = 8 ∨ i = 9 ∨ i = 10 ∨ i = 11 ∨ i = 12 ∨ i = 13 ∨ i = 14 ∨ i = 15 ∨ i = 16 ∨ i = 17 ∨ i = 18) with rfl | rfl | rfl | rfl | rfl | rfl | rfl | rfl | rfl | rfl | rfl | rfl | rfl | rfl | rfl | rfl | rfl | rfl | rfl <;> decide
theorem own_remP {l p : Int64} {P : Int} (hl : 0 ≤ l.toInt) (hp : p.toInt = P) : (l % p).toInt = l.toInt % P := by rw [← lrem_mod]; exact (c_lrem l p P hp).1 hl
theorem own_divP {l p : Int64} {P : Int} (hl : 0 ≤ l.toInt) (hp : p.toInt = P) (h1 : 1 ≤ P) : (l / p).toInt = l.toInt / P := (c_ldiv l p P hp (fun w => by rw [w] at hp; have : (-1 : Int64).toInt = -1 := rfl; omega)).1 hl
theorem own_lz {l l' : Int64} {i : Int} (hl : 0 ≤ l.toInt) (h1 : l.toInt < 1000000000000000000) (h0 : 0 ≤ i) (hi : i < 19) (h : l' = l - l % own_pow i) : 0 ≤ l'.toInt ∧ l'.toInt < 1000000000000000000 := by
  obtain ⟨p1, p2⟩ := own_powI h0 hi
  have e := own_remP hl (rfl : (own_pow i).toInt = _)
  have a := Int.emod_nonneg l.toInt (show (own_pow i).toInt ≠ 0 by omega)
  have b : l.toInt % (own_pow i).toInt ≤ l.toInt := by
    have d := Int.mul_ediv_add_emod l.toInt (own_pow i).toInt
    have d0 := Int.ediv_nonneg hl (show 0 ≤ (own_pow i).toInt by omega)
    have := Int.mul_nonneg (show 0 ≤ (own_pow i).toInt by omega) d0
    omega
  rw [h, Jvm.Free.XT.sub64 ⟨by omega, by omega⟩]; omega
/-- the number that the digits spell -/
def own_N (n d l : Int) : Nat := (if n = 19 then d * 1000000000000000000 + l else l % (10 ^ n.toNat : Nat)).toNat
theorem own_Nlt {n d l : Int} (h0 : 0 ≤ n) (h1 : n ≤ 19) (d0 : 0 ≤ d) (d9 : d ≤ 9) (l0 : 0 ≤ l) (l1 : l < 1000000000000000000) : own_N n d l < 10 ^ n.toNat := by
  unfold own_N
  split
  · rename_i q; subst q
    show _ < 10 ^ 19
    omega
  · have p : (0 : Int) < ((10 ^ n.toNat : Nat) : Int) := by have := Nat.pow_pos (n := n.toNat) (show 0 < 10 by decide); omega
    have := Int.emod_lt_of_pos l p
    have := Int.emod_nonneg l (show ((10 ^ n.toNat : Nat) : Int) ≠ 0 by omega)
    omega
theorem own_modm (L k m : Nat) (h : m < k) : L % 10 ^ k / 10 ^ m % 10 = L / 10 ^ m % 10 := by
  have e : 10 ^ k = 10 ^ m * 10 ^ (k - m) := by rw [← Nat.pow_add]; congr 1; omega
  rw [e, Nat.mod_mul_right_div_self]
  have e2 : 10 ^ (k - m) = 10 * 10 ^ (k - m - 1) := by rw [← Nat.pow_succ']; congr 1; omega
  rw [e2, Nat.mod_mul_right_mod]
theorem own_toN (D L : Nat) : ((D : Int) * 1000000000000000000 + (L : Int)).toNat = L + 1000000000000000000 * D := by omega
theorem own_p18 : (1000000000000000000 : Nat) = 10 ^ 18 := by decide
/-- the digit at step j -/
theorem own_dgl {n d j : Int} {l : Int64} (h0 : 0 ≤ n) (h1 : n ≤ 19) (d0 : 0 ≤ d) (d9 : d ≤ 9) (l0 : 0 ≤ l.toInt) (l1 : l.toInt < 1000000000000000000) (j0 : 19 - n ≤ j) (j1 : j ≤ 18) (j2 : 0 ≤ j) :
    (j = 0 → d = ((own_N n d l.toInt / 10 ^ (18 - j).toNat % 10 : Nat) : Int)) ∧ (j ≠ 0 → (l / own_pow (18 - j) % 10).toInt = ((own_N n d l.toInt / 10 ^ (18 - j).toNat % 10 : Nat) : Int)) := by
  constructor
  · intro q; subst q
    have : n = 19 := by omega
    unfold own_N
    rw [if_pos this, show ((18 : Int) - 0).toNat = 18 from rfl, ← own_p18]
    omega
  · intro q
    obtain ⟨p1, p2⟩ := own_powI (show 0 ≤ 18 - j by omega) (by omega)
    have e := own_divP l0 p1 (by omega)
    have nn : 0 ≤ (l / own_pow (18 - j)).toInt := by rw [e]; exact Int.ediv_nonneg l0 (by omega)
    have e2 : (l / own_pow (18 - j) % 10).toInt = l.toInt / ((10 ^ (18 - j).toNat : Nat) : Int) % 10 := by rw [own_remP (P := 10) nn rfl, e]
    rw [e2]
    obtain ⟨L, hL⟩ : ∃ L : Nat, l.toInt = (L : Int) := ⟨l.toInt.toNat, by omega⟩
    rw [hL] at l1 ⊢
    have eN : own_N n d (L : Int) / 10 ^ (18 - j).toNat % 10 = L / 10 ^ (18 - j).toNat % 10 := by
      unfold own_N
      split
      · rename_i q'
        obtain ⟨D, hD⟩ : ∃ D : Nat, d = (D : Int) := ⟨d.toNat, by omega⟩
        have m : 10 ^ 18 = 10 ^ (18 - j).toNat * 10 ^ (18 - (18 - j).toNat) := by rw [← Nat.pow_add]; congr 1; omega
        have m2 : 10 ^ (18 - (18 - j).toNat) = 10 * 10 ^ (18 - (18 - j).toNat - 1) := by rw [← Nat.pow_succ']; congr 1; omega
        have t : (d * 1000000000000000000 + (L : Int)).toNat = L + 10 ^ (18 - j).toNat * (10 * (10 ^ (18 - (18 - j).toNat - 1) * D)) := by
          have : 10 ^ (18 - j).toNat * (10 * (10 ^ (18 - (18 - j).toNat - 1) * D)) = 1000000000000000000 * D := by rw [own_p18, m, m2]; simp only [Nat.mul_assoc]
          rw [this, hD, own_toN]
        rw [t, Nat.add_mul_div_left _ _ (Nat.pow_pos (by decide)), Nat.add_mul_mod_self_left]
      · have t : ((L : Int) % ((10 ^ n.toNat : Nat) : Int)).toNat = L % 10 ^ n.toNat := by rw [← Int.natCast_emod]; rfl
        rw [t]
        exact own_modm L n.toNat (18 - j).toNat (by omega)
    rw [eN, ← Int.natCast_ediv]; omega
theorem own_stp {n hp pp s0 skip pa i1 i2 i3 j w : Int} {sc ec xc : Int32} {N : Nat} {xs e : Int} (PP : own_Par n hp pp s0 skip pa i1 i2 i3) (j0 : 0 ≤ j) (j1 : j ≤ 19) (hw : w = own_w s0 skip pa j) :
    0 ≤ w ∧ (pa = j → w < 26 ∧ own_x s0 sc i1 i2 i3 N ec xs xc e w = 46) ∧ (skip ≤ j → j ≤ 18 → w + (if pa = j then 1 else 0) < 26 ∧ (own_x s0 sc i1 i2 i3 N ec xs xc e (w + (if pa = j then 1 else 0))).toInt = 48 + ((N / 10 ^ (18 - j).toNat % 10 : Nat) : Int)) := by
  obtain ⟨n0, n1, sk, hs, h⟩ := PP
  have hw' : w = s0 + (if 0 ≤ pa ∧ pa < j then 1 else 0) + (if skip < j then j - skip else 0) := by
    rw [hw]; unfold own_w; rw [if_pos j1]
  refine ⟨?_, ?_, ?_⟩
  · rw [hw']; split <;> split <;> omega
  · intro q
    have ew : w = i1 := by
      rw [hw', if_neg (by omega)]; split <;> omega
    rw [ew]
    refine ⟨by omega, ?_⟩
    unfold own_x
    rw [if_neg (by omega), if_pos (by omega), if_pos ⟨by omega, rfl⟩]
  · intro q1 q2
    have ep : ∃ P, P = w + (if pa = j then 1 else 0) ∧ s0 ≤ P ∧ P < i3 ∧ P < 26 ∧ ¬ (i2 = i1 + 1 ∧ P = i1) ∧ own_cnt i1 i2 i3 P = 19 - j := by
      refine ⟨_, rfl, ?_⟩
      rw [hw']
      unfold own_cnt
      rcases h with ⟨h1, h2, h3, h4, h5⟩ | ⟨h1, h2, h3, h4, h5, h6, h7⟩ <;> (repeat' split) <;> refine ⟨?_, ?_, ?_, ?_, ?_⟩ <;> omega
    obtain ⟨P, e1, e2, e3, e4, e5, e6⟩ := ep
    rw [← e1]
    refine ⟨e4, ?_⟩
    unfold own_x
    rw [if_neg (by omega), if_pos e3, if_neg e5, e6, show 19 - j - 1 = 18 - j by omega, own_ofI (by omega) (by omega)]
theorem own_nxt {n hp pp s0 skip pa i1 i2 i3 w z : Int} {p2 p3 p4 : Int32} {j : Int} (PP : own_Par n hp pp s0 skip pa i1 i2 i3) (h4 : p4.toInt = pa) (h3 : p3.toInt = skip) (h2 : p2.toInt = j) (j0 : 0 ≤ j) (j1 : j ≤ 19) (hw : w = own_w s0 skip pa j) (hz : z = w + (if p4 = p2 then 1 else 0 : Int) + (if p3.toInt ≤ p2.toInt ∧ p2.toInt ≤ 18 then 1 else 0 : Int)) : z = own_w s0 skip pa (j + 1) := by
  obtain ⟨n0, n1, sk, hs, h⟩ := PP
  have e : (if p4 = p2 then 1 else 0 : Int) = if pa = j then 1 else 0 := by
    by_cases q : p4 = p2
    · rw [if_pos q, if_pos (by rw [← h4, ← h2, q])]
    · rw [if_neg q, if_neg (fun y => q (Int32.toInt_inj.mp (by omega)))]
  rw [hz, hw, e, h3, h2]
  unfold own_w
  (repeat' split) <;> omega
/-- step's premises out of the parameters -/
theorem own_prem {n hp pp s0 skip pa i1 i2 i3 d : Int} {sc ec xc p1 p2 p3 p4 p5 : Int32} {q6 : Int64} {xs e j : Int} (PP : own_Par n hp pp s0 skip pa i1 i2 i3) (h4 : p4.toInt = pa) (h3 : p3.toInt = skip) (h2 : p2.toInt = j) (j0 : 0 ≤ j) (j1 : j ≤ 19) (hw : p1.toInt = own_w s0 skip pa j) (h5 : p5.toInt = d) (d0 : 0 ≤ d) (d9 : d ≤ 9) (l0 : 0 ≤ q6.toInt) (l1 : q6.toInt < 1000000000000000000) :
    0 ≤ p1.toInt ∧ (p4 = p2 → p1.toInt < 26 ∧ own_x s0 sc i1 i2 i3 (own_N n d q6.toInt) ec xs xc e p1.toInt = 46) ∧ (p3.toInt ≤ p2.toInt → p2.toInt ≤ 18 → p1.toInt + (if p4 = p2 then 1 else 0 : Int) < 26 ∧ (own_x s0 sc i1 i2 i3 (own_N n d q6.toInt) ec xs xc e (p1.toInt + (if p4 = p2 then 1 else 0 : Int))).toInt = 48 + ((own_N n d q6.toInt / 10 ^ (18 - j).toNat % 10 : Nat) : Int) ∧ 0 ≤ ((own_N n d q6.toInt / 10 ^ (18 - j).toNat % 10 : Nat) : Int) ∧ ((own_N n d q6.toInt / 10 ^ (18 - j).toNat % 10 : Nat) : Int) ≤ 9 ∧ (p2 = 0 → p5.toInt = ((own_N n d q6.toInt / 10 ^ (18 - j).toNat % 10 : Nat) : Int)) ∧ (¬ p2 = 0 → (q6 / own_pow (18 - p2.toInt) % 10).toInt = ((own_N n d q6.toInt / 10 ^ (18 - j).toNat % 10 : Nat) : Int))) := by
  obtain ⟨a, b, c⟩ := own_stp (sc := sc) (ec := ec) (xc := xc) (N := own_N n d q6.toInt) (xs := xs) (e := e) PP j0 j1 hw
  have eq : (if p4 = p2 then 1 else 0 : Int) = if pa = j then 1 else 0 := by
    by_cases q : p4 = p2
    · rw [if_pos q, if_pos (by rw [← h4, ← h2, q])]
    · rw [if_neg q, if_neg (fun y => q (Int32.toInt_inj.mp (by omega)))]
  refine ⟨a, fun q => b (by rw [← h4, ← h2, q]), fun g1 g2 => ?_⟩
  rw [eq]
  obtain ⟨c1, c2⟩ := c (by omega) (by omega)
  obtain ⟨n0, n1, sk, -, -⟩ := PP
  obtain ⟨dl1, dl2⟩ := own_dgl (l := q6) n0 n1 d0 d9 l0 l1 (show 19 - n ≤ j by omega) (by omega) j0
  refine ⟨c1, c2, by omega, by omega, fun q => ?_, fun q => ?_⟩
  · rw [h5]; exact dl1 (by rw [← h2, q]; rfl)
  · rw [h2]; exact dl2 (fun y => q (Int32.toInt_inj.mp (by rw [h2, y]; rfl)))
def own_KD (kd s0 : Int) (sc : Int32) : Prop := (kd = 1 ∧ s0 = 1 ∧ sc = 43) ∨ (kd = 2 ∧ s0 = 1 ∧ sc = 45) ∨ (¬ kd = 1 ∧ ¬ kd = 2 ∧ s0 = 0)
theorem own_mk (kd n hp pp skip pa : Int) (n0 : 0 ≤ n) (n1 : n ≤ 19) (sk : skip = 19 - n) (h : (hp = 0 ∧ pa = -1) ∨ (hp = 1 ∧ 0 ≤ pp ∧ pp ≤ n ∧ pa = skip + pp)) : ∃ (s0 i1 i2 i3 : Int) (sc : Int32), own_KD kd s0 sc ∧ own_Par n hp pp s0 skip pa i1 i2 i3 := by
  have main : ∀ s0 : Int, (s0 = 0 ∨ s0 = 1) → ∃ i1 i2 i3 : Int, own_Par n hp pp s0 skip pa i1 i2 i3 := by
    intro s0 hs
    rcases h with ⟨a, b⟩ | ⟨a, b, c, d⟩
    · exact ⟨s0 + n, s0 + n, s0 + n, n0, n1, sk, hs, Or.inl ⟨a, b, rfl, rfl, rfl⟩⟩
    · exact ⟨s0 + pp, s0 + pp + 1, s0 + n + 1, n0, n1, sk, hs, Or.inr ⟨a, b, c, d, rfl, rfl, rfl⟩⟩
  by_cases k1 : kd = 1
  · obtain ⟨i1, i2, i3, P⟩ := main 1 (Or.inr rfl)
    exact ⟨1, i1, i2, i3, 43, Or.inl ⟨k1, rfl, rfl⟩, P⟩
  by_cases k2 : kd = 2
  · obtain ⟨i1, i2, i3, P⟩ := main 1 (Or.inr rfl)
    exact ⟨1, i1, i2, i3, 45, Or.inr (Or.inl ⟨k2, rfl, rfl⟩), P⟩
  · obtain ⟨i1, i2, i3, P⟩ := main 0 (Or.inl rfl)
    exact ⟨0, i1, i2, i3, 0, Or.inr (Or.inr ⟨k1, k2, rfl⟩), P⟩
def own_EX (up es : Int32) (ec : Int32) (xs : Int) (xc : Int32) : Prop := ((up = 0 ∧ ec = 101) ∨ (¬ up = 0 ∧ ec = 69)) ∧ ((es = 1 ∧ xs = 1 ∧ xc = 43) ∨ (es = 2 ∧ xs = 1 ∧ xc = 45) ∨ (¬ es = 1 ∧ ¬ es = 2 ∧ xs = 0))
theorem own_mkx (up es : Int32) : ∃ (ec : Int32) (xs : Int) (xc : Int32), own_EX up es ec xs xc := by
  unfold own_EX
  by_cases u : up = 0
  · by_cases k1 : es = 1
    · exact ⟨101, 1, 43, Or.inl ⟨u, rfl⟩, Or.inl ⟨k1, rfl, rfl⟩⟩
    by_cases k2 : es = 2
    · exact ⟨101, 1, 45, Or.inl ⟨u, rfl⟩, Or.inr (Or.inl ⟨k2, rfl, rfl⟩)⟩
    · exact ⟨101, 0, 0, Or.inl ⟨u, rfl⟩, Or.inr (Or.inr ⟨k1, k2, rfl⟩)⟩
  · by_cases k1 : es = 1
    · exact ⟨69, 1, 43, Or.inr ⟨u, rfl⟩, Or.inl ⟨k1, rfl, rfl⟩⟩
    by_cases k2 : es = 2
    · exact ⟨69, 1, 45, Or.inr ⟨u, rfl⟩, Or.inr (Or.inl ⟨k2, rfl, rfl⟩)⟩
    · exact ⟨69, 0, 0, Or.inr ⟨u, rfl⟩, Or.inr (Or.inr ⟨k1, k2, rfl⟩)⟩
section
variable {n hp pp s0 skip pa i1 i2 i3 xs e : Int} {sc ec xc : Int32} {N : Nat}
theorem own_xs {i : Int} (h : i < s0) : own_x s0 sc i1 i2 i3 N ec xs xc e i = sc := if_pos h
theorem own_xe (PP : own_Par n hp pp s0 skip pa i1 i2 i3) : own_x s0 sc i1 i2 i3 N ec xs xc e i3 = ec := by
  obtain ⟨n0, n1, sk, hs, h⟩ := PP
  unfold own_x; rw [if_neg (by omega), if_neg (by omega), if_pos rfl]
theorem own_xe1 (PP : own_Par n hp pp s0 skip pa i1 i2 i3) (h1 : xs = 1) : own_x s0 sc i1 i2 i3 N ec xs xc e (i3 + 1) = xc := by
  obtain ⟨n0, n1, sk, hs, h⟩ := PP
  unfold own_x; rw [if_neg (by omega), if_neg (by omega), if_neg (by omega), if_pos ⟨h1, rfl⟩]
theorem own_xe2 (PP : own_Par n hp pp s0 skip pa i1 i2 i3) (h1 : xs = 0 ∨ xs = 1) : own_x s0 sc i1 i2 i3 N ec xs xc e (i3 + 1 + xs) = Int32.ofInt (48 + e / 10) := by
  obtain ⟨n0, n1, sk, hs, h⟩ := PP
  unfold own_x; rw [if_neg (by omega), if_neg (by omega), if_neg (by omega), if_neg (by omega), if_pos rfl]
theorem own_xe3 (PP : own_Par n hp pp s0 skip pa i1 i2 i3) (h1 : xs = 0 ∨ xs = 1) : own_x s0 sc i1 i2 i3 N ec xs xc e (i3 + 2 + xs) = Int32.ofInt (48 + e % 10) := by
  obtain ⟨n0, n1, sk, hs, h⟩ := PP
  unfold own_x; rw [if_neg (by omega), if_neg (by omega), if_neg (by omega), if_neg (by omega), if_neg (by omega)]
theorem own_xdg (PP : own_Par n hp pp s0 skip pa i1 i2 i3) {j : Int} (h : (s0 ≤ j ∧ j < i1) ∨ (i2 ≤ j ∧ j < i3)) : (own_x s0 sc i1 i2 i3 N ec xs xc e j).toInt = 48 + ((N / 10 ^ (own_cnt i1 i2 i3 j - 1).toNat % 10 : Nat) : Int) := by
  obtain ⟨n0, n1, sk, hs, h'⟩ := PP
  unfold own_x; rw [if_neg (by omega), if_pos (by omega), if_neg (by omega), own_ofI (by omega) (by omega)]
theorem own_xpt (PP : own_Par n hp pp s0 skip pa i1 i2 i3) (h : i2 = i1 + 1) : own_x s0 sc i1 i2 i3 N ec xs xc e i1 = 46 := by
  obtain ⟨n0, n1, sk, hs, h'⟩ := PP
  unfold own_x; rw [if_neg (by omega), if_pos (by omega), if_pos ⟨h, rfl⟩]
theorem own_w0 (PP : own_Par n hp pp s0 skip pa i1 i2 i3) : own_w s0 skip pa 0 = s0 := by
  obtain ⟨n0, n1, sk, hs, h'⟩ := PP
  unfold own_w; rw [if_neg (by omega), if_neg (by omega)]; omega
theorem own_w20 (PP : own_Par n hp pp s0 skip pa i1 i2 i3) : own_w s0 skip pa 20 = i3 := by
  obtain ⟨n0, n1, sk, hs, h'⟩ := PP
  unfold own_w; (repeat' split) <;> omega
/-- the first sign's put -/
theorem own_pa {kd on : Int32} (K : own_KD kd.toInt s0 sc) (j : (¬ kd = 1 ∧ on = 0) ∨ (kd = 1 ∧ on = 1)) : ¬ on = 0 → (0 : Int32).toInt < 26 ∧ own_x s0 sc i1 i2 i3 N ec xs xc e (0 : Int32).toInt = (43 : Int32).toInt8.toInt32 := by
  intro q
  have k0 := own_k0
  rcases j with ⟨-, b⟩ | ⟨a, -⟩
  · exact absurd b q
  have ka : kd.toInt = 1 := by rw [a]; rfl
  rcases K with ⟨-, h, hc⟩ | ⟨h, -⟩ | ⟨h, -⟩
  · exact ⟨by omega, by rw [own_xs (by omega), hc]; rfl⟩
  · exfalso; omega
  · exact absurd ka h
theorem own_pb {kd on on2 w : Int32} (K : own_KD kd.toInt s0 sc) (j : (¬ kd = 1 ∧ on = 0) ∨ (kd = 1 ∧ on = 1)) (hw : w.toInt = (0 : Int32).toInt + (if on = 0 then 0 else 1)) (j2 : (¬ kd = 2 ∧ on2 = 0) ∨ (kd = 2 ∧ on2 = 1)) : 0 ≤ w.toInt ∧ (¬ on2 = 0 → w.toInt < 26 ∧ own_x s0 sc i1 i2 i3 N ec xs xc e w.toInt = (45 : Int32).toInt8.toInt32) ∧ w.toInt + (if on2 = 0 then 0 else 1) = s0 := by
  have k0 := own_k0
  have z1 : ¬ (1 : Int32) = 0 := by decide
  rcases j with ⟨a, b⟩ | ⟨a, b⟩
  · rw [if_pos b] at hw
    rcases j2 with ⟨a2, b2⟩ | ⟨a2, b2⟩
    · refine ⟨by omega, fun q => absurd b2 q, ?_⟩
      rw [if_pos b2]
      have y1 : ¬ kd.toInt = 1 := fun w => a (Int32.toInt_inj.mp (by rw [w]; rfl))
      have y2 : ¬ kd.toInt = 2 := fun w => a2 (Int32.toInt_inj.mp (by rw [w]; rfl))
      rcases K with ⟨h, -⟩ | ⟨h, -⟩ | ⟨-, -, h⟩ <;> omega
    · have y2 : kd.toInt = 2 := by rw [a2]; rfl
      rcases K with ⟨h, -⟩ | ⟨-, h, hc⟩ | ⟨-, h, -⟩
      · exfalso; omega
      · exact ⟨by omega, fun q => ⟨by omega, by rw [own_xs (by omega), hc]; rfl⟩, by rw [b2, if_neg z1]; omega⟩
      · exfalso; omega
  · rw [b, if_neg z1] at hw
    have y1 : kd.toInt = 1 := by rw [a]; rfl
    rcases j2 with ⟨a2, b2⟩ | ⟨a2, b2⟩
    · refine ⟨by omega, fun q => absurd b2 q, ?_⟩
      rw [if_pos b2]
      rcases K with ⟨-, h, -⟩ | ⟨h, -⟩ | ⟨h, -⟩ <;> omega
    · exfalso; rw [a] at a2; revert a2; decide
/-- the exponent's puts -/
theorem own_pc {w on c up es : Int32} (PP : own_Par n hp pp s0 skip pa i1 i2 i3) (X : own_EX up es ec xs xc) (hw : w.toInt = i3) (j : (up = 0 ∧ c = 101) ∨ (¬ up = 0 ∧ c = 69)) : 0 ≤ w.toInt ∧ (¬ on = 0 → w.toInt < 26 ∧ own_x s0 sc i1 i2 i3 N ec xs xc e w.toInt = c.toInt8.toInt32) := by
  have PP' := PP
  obtain ⟨n0, n1, sk, hs, h'⟩ := PP'
  refine ⟨by omega, fun _ => ⟨by omega, ?_⟩⟩
  rw [hw, own_xe PP]
  rcases X.1 with ⟨a, b⟩ | ⟨a, b⟩ <;> rcases j with ⟨a2, b2⟩ | ⟨a2, b2⟩
  · rw [b, b2]; rfl
  · exact absurd a a2
  · exact absurd a2 a
  · rw [b, b2]; rfl
theorem own_pd {w w' on on1 up es : Int32} (PP : own_Par n hp pp s0 skip pa i1 i2 i3) (X : own_EX up es ec xs xc) (hw : w.toInt = i3) (hw' : w'.toInt = w.toInt + (if on = 0 then 0 else 1)) (j : (on = 0 ∧ on1 = 0) ∨ (¬ on = 0 ∧ ¬ es = 1 ∧ on1 = 0) ∨ (¬ on = 0 ∧ es = 1 ∧ on1 = 1)) : 0 ≤ w'.toInt ∧ (¬ on1 = 0 → w'.toInt < 26 ∧ own_x s0 sc i1 i2 i3 N ec xs xc e w'.toInt = (43 : Int32).toInt8.toInt32) := by
  have PP' := PP
  obtain ⟨n0, n1, sk, hs, h'⟩ := PP'
  refine ⟨by split at hw' <;> omega, fun q => ?_⟩
  rcases j with ⟨-, a⟩ | ⟨-, -, a⟩ | ⟨a, b, -⟩
  · exact absurd a q
  · exact absurd a q
  · rw [if_neg a] at hw'
    refine ⟨by omega, ?_⟩
    rw [hw', hw]
    rcases X.2 with ⟨-, y, z⟩ | ⟨y, -⟩ | ⟨y, -⟩
    · rw [own_xe1 PP y, z]; rfl
    · exfalso; rw [b] at y; revert y; decide
    · exact absurd b y
theorem own_pe {w w' w2 on on1 on2 up es : Int32} (PP : own_Par n hp pp s0 skip pa i1 i2 i3) (X : own_EX up es ec xs xc) (hw : w.toInt = i3) (hw' : w'.toInt = w.toInt + (if on = 0 then 0 else 1)) (j : (on = 0 ∧ on1 = 0) ∨ (¬ on = 0 ∧ ¬ es = 1 ∧ on1 = 0) ∨ (¬ on = 0 ∧ es = 1 ∧ on1 = 1)) (hw2 : w2.toInt = w'.toInt + (if on1 = 0 then 0 else 1)) (j2 : (on = 0 ∧ on2 = 0) ∨ (¬ on = 0 ∧ ¬ es = 2 ∧ on2 = 0) ∨ (¬ on = 0 ∧ es = 2 ∧ on2 = 1)) : 0 ≤ w2.toInt ∧ (¬ on2 = 0 → w2.toInt < 26 ∧ own_x s0 sc i1 i2 i3 N ec xs xc e w2.toInt = (45 : Int32).toInt8.toInt32) ∧ (w2.toInt + (if on2 = 0 then 0 else 1) = if on = 0 then i3 else i3 + 1 + xs) := by
  have PP' := PP
  obtain ⟨n0, n1, sk, hs, h'⟩ := PP'
  have z1 : ¬ (1 : Int32) = 0 := by decide
  have z2 : ¬ (2 : Int32) = 1 := by decide
  refine ⟨by split at hw' <;> split at hw2 <;> omega, fun q => ?_, ?_⟩
  · rcases j2 with ⟨-, a⟩ | ⟨-, -, a⟩ | ⟨a, b, -⟩
    · exact absurd a q
    · exact absurd a q
    · rw [if_neg a] at hw'
      have o1 : on1 = 0 := by
        rcases j with ⟨y, -⟩ | ⟨-, -, y⟩ | ⟨-, y, -⟩
        · exact absurd y a
        · exact y
        · exfalso; rw [b] at y; exact z2 y
      rw [if_pos o1] at hw2
      refine ⟨by omega, ?_⟩
      rw [show w2.toInt = i3 + 1 by omega]
      rcases X.2 with ⟨y, -⟩ | ⟨-, y, z⟩ | ⟨-, y, -⟩
      · exfalso; rw [b] at y; exact z2 y
      · rw [own_xe1 PP y, z]; rfl
      · exact absurd b y
  · rcases j with ⟨a, b⟩ | ⟨a, a', b⟩ | ⟨a, a', b⟩
    · rcases j2 with ⟨-, y⟩ | ⟨y, -⟩ | ⟨y, -⟩
      · rw [if_pos a] at hw' ⊢; rw [if_pos b] at hw2; rw [if_pos y]; omega
      · exact absurd a y
      · exact absurd a y
    · rw [if_neg a] at hw' ⊢; rw [if_pos b] at hw2
      rcases j2 with ⟨y, -⟩ | ⟨-, y', y⟩ | ⟨-, y', y⟩
      · exact absurd y a
      · rw [if_pos y]
        rcases X.2 with ⟨g, -⟩ | ⟨g, -⟩ | ⟨-, -, g⟩
        · exact absurd g a'
        · exact absurd g y'
        · omega
      · rw [y, if_neg z1]
        rcases X.2 with ⟨g, -⟩ | ⟨-, g, -⟩ | ⟨-, g, -⟩
        · exact absurd g a'
        · omega
        · exact absurd y' g
    · rw [if_neg a] at hw' ⊢; rw [b, if_neg z1] at hw2
      rcases j2 with ⟨y, -⟩ | ⟨-, y', y⟩ | ⟨-, y', y⟩
      · exact absurd y a
      · rw [if_pos y]
        rcases X.2 with ⟨-, g, -⟩ | ⟨g, -⟩ | ⟨g, -⟩
        · omega
        · exact absurd g y'
        · exact absurd a' g
      · exfalso; rw [a'] at y'; revert y'; decide
theorem own_xs01 {up es : Int32} (X : own_EX up es ec xs xc) : xs = 0 ∨ xs = 1 := by
  rcases X.2 with ⟨-, g, -⟩ | ⟨-, g, -⟩ | ⟨-, -, g⟩ <;> omega
theorem own_e8 {z : Int} (h0 : -128 ≤ z) (h1 : z ≤ 127) {c : Int32} (hc : c.toInt = z) : Int32.ofInt z = c.toInt8.toInt32 := by
  rw [own_c8 (by omega) (by omega)]
  exact Int32.toInt_inj.mp (by rw [own_ofI h0 h1, hc])
theorem own_pf {w w2 on on2 c up es : Int32} (PP : own_Par n hp pp s0 skip pa i1 i2 i3) (X : own_EX up es ec xs xc) (e0 : 0 ≤ e) (e1 : e < 100) (hq : w2.toInt + (if on2 = 0 then 0 else 1) = if on = 0 then i3 else i3 + 1 + xs) (hw : w.toInt = w2.toInt + (if on2 = 0 then 0 else 1)) (hc : c.toInt = 48 + e / 10) : 0 ≤ w.toInt ∧ (¬ on = 0 → w.toInt < 26 ∧ own_x s0 sc i1 i2 i3 N ec xs xc e w.toInt = c.toInt8.toInt32) := by
  have PP' := PP
  obtain ⟨n0, n1, sk, hs, h'⟩ := PP'
  have x01 := own_xs01 X
  rw [← hw] at hq
  by_cases o : on = 0
  · rw [if_pos o] at hq; exact ⟨by omega, fun y => absurd o y⟩
  · rw [if_neg o] at hq
    refine ⟨by omega, fun _ => ⟨by omega, ?_⟩⟩
    rw [hq, own_xe2 PP x01]; exact own_e8 (by omega) (by omega) hc
theorem own_pg {w w2 w3 on on2 c up es : Int32} (PP : own_Par n hp pp s0 skip pa i1 i2 i3) (X : own_EX up es ec xs xc) (e0 : 0 ≤ e) (e1 : e < 100) (hq : w2.toInt + (if on2 = 0 then 0 else 1) = if on = 0 then i3 else i3 + 1 + xs) (hw : w.toInt = w2.toInt + (if on2 = 0 then 0 else 1)) (hw3 : w3.toInt = w.toInt + (if on = 0 then 0 else 1)) (hc : c.toInt = 48 + e % 10) : 0 ≤ w3.toInt ∧ (¬ on = 0 → w3.toInt < 26 ∧ own_x s0 sc i1 i2 i3 N ec xs xc e w3.toInt = c.toInt8.toInt32) ∧ (w3.toInt + (if on = 0 then 0 else 1) = if on = 0 then i3 else i3 + 3 + xs) := by
  have PP' := PP
  obtain ⟨n0, n1, sk, hs, h'⟩ := PP'
  have x01 := own_xs01 X
  rw [← hw] at hq
  by_cases o : on = 0
  · rw [if_pos o] at hq hw3 ⊢; exact ⟨by omega, fun y => absurd o y, by rw [if_pos o]; omega⟩
  · rw [if_neg o] at hq hw3 ⊢
    refine ⟨by omega, fun _ => ⟨by omega, ?_⟩, by rw [if_neg o]; omega⟩
    rw [show w3.toInt = i3 + 2 + xs by omega, own_xe3 PP x01]; exact own_e8 (by omega) (by omega) hc
/-- the text's four laws -/
theorem own_txt {f : Int → Int32} {W kd : Int} {on up es : Int32} (PP : own_Par n hp pp s0 skip pa i1 i2 i3) (X : own_EX up es ec xs xc) (K : own_KD kd s0 sc) (e0 : 0 ≤ e) (e1 : e < 100) (hW : W = if on = 0 then i3 else i3 + 3 + xs) (hx : ∀ i : Int, 0 ≤ i → i < W → f i = own_x s0 sc i1 i2 i3 N ec xs xc e i) (hN : N < 10 ^ n.toNat) :
    ∃ sgn wr : Int, (kd = 2 → sgn = -1) ∧ (¬ kd = 2 → sgn = 1) ∧ (on = 0 → wr = 0) ∧ (¬ on = 0 → es = 2 → wr = -e) ∧ (¬ on = 0 → ¬ es = 2 → wr = e) ∧ W ≤ 26 ∧ own_T0 f s0 W sgn ∧ own_T1 f s0 i1 i2 i3 W ∧ own_T2 f N s0 i1 i2 i3 ∧ own_T4 f i3 W wr ∧ N < 10 ^ (i1 - s0 + (i3 - i2)).toNat ∧ i1 - s0 + (i3 - i2) = n ∧ i1 - s0 + (i3 - i2) ≤ 19 := by
  have x01 := own_xs01 X
  have PP' := PP
  obtain ⟨n0, n1, sk, hs, h'⟩ := PP'
  have hec : ec = 101 ∨ ec = 69 := by rcases X.1 with ⟨-, y⟩ | ⟨-, y⟩ <;> simp [y]
  have hWi : i3 ≤ W ∧ W ≤ 26 := by rw [hW]; split <;> omega
  have hn : i1 - s0 + (i3 - i2) = n := by omega
  have t1 : own_T1 f s0 i1 i2 i3 W := by
    have nd : i3 < W → f i3 = ec := fun q => by rw [hx i3 (by omega) q, own_xe PP]
    refine ⟨by omega, by omega, by omega, hWi.1, fun q => ?_, ?_⟩
    · rw [nd q]; unfold own_dig; rcases hec with y | y <;> rw [y] <;> decide
    · rcases h' with ⟨a, b, c, d, g⟩ | ⟨a, b, c, d, g, k, m⟩
      · refine Or.inr ⟨d, g, fun q => ?_⟩
        rw [← g, nd (by omega)]; rcases hec with y | y <;> rw [y] <;> decide
      · exact Or.inl ⟨k, by rw [hx i1 (by omega) (by omega), own_xpt PP k]⟩
  have t2 : own_T2 f N s0 i1 i2 i3 := by
    intro j hj
    rw [hx j (by omega) (by omega)]; exact own_xdg PP hj
  have t0 : ∃ sgn : Int, (kd = 2 → sgn = -1) ∧ (¬ kd = 2 → sgn = 1) ∧ own_T0 f s0 W sgn := by
    rcases K with ⟨a, b, c⟩ | ⟨a, b, c⟩ | ⟨a, a', b⟩
    · refine ⟨1, fun y => by omega, fun _ => rfl, Or.inr ⟨b, by omega, Or.inl ⟨?_, rfl⟩⟩⟩
      rw [hx 0 (by omega) (by omega), own_xs (by omega), c]
    · refine ⟨-1, fun _ => rfl, fun y => absurd a y, Or.inr ⟨b, by omega, Or.inr ⟨?_, rfl⟩⟩⟩
      rw [hx 0 (by omega) (by omega), own_xs (by omega), c]
    · refine ⟨1, fun y => absurd y a', fun _ => rfl, Or.inl ⟨b, rfl, fun q => ?_⟩⟩
      rw [hx 0 (by omega) q]
      by_cases g : i3 = 0
      · rw [← g, own_xe PP]; rcases hec with y | y <;> rw [y] <;> decide
      · by_cases g2 : i2 = i1 + 1 ∧ i1 = 0
        · have := own_xpt (sc := sc) (N := N) (ec := ec) (xs := xs) (xc := xc) (e := e) PP g2.1
          rw [g2.2] at this ⊢; rw [this]; decide
        · have := own_xdg (sc := sc) (N := N) (ec := ec) (xs := xs) (xc := xc) (e := e) PP (j := 0) (by omega)
          have k43 : (43 : Int32).toInt = 43 := rfl
          have k45 : (45 : Int32).toInt = 45 := rfl
          refine ⟨fun y => ?_, fun y => ?_⟩ <;> rw [y] at this <;> omega
  have t4 : ∃ wr : Int, (on = 0 → wr = 0) ∧ (¬ on = 0 → es = 2 → wr = -e) ∧ (¬ on = 0 → ¬ es = 2 → wr = e) ∧ own_T4 f i3 W wr := by
    by_cases o : on = 0
    · rw [if_pos o] at hW
      exact ⟨0, fun _ => rfl, fun y => absurd o y, fun y => absurd o y, Or.inl ⟨hW.symm, rfl⟩⟩
    · rw [if_neg o] at hW
      have f3 : f i3 = 101 ∨ f i3 = 69 := by rw [hx i3 (by omega) (by omega), own_xe PP]; exact hec
      have f5 : (f (i3 + 1 + xs)).toInt = 48 + e / 10 := by rw [hx _ (by omega) (by omega), own_xe2 PP x01, own_ofI (by omega) (by omega)]
      have f6 : (f (i3 + 1 + xs + 1)).toInt = 48 + e % 10 := by rw [hx _ (by omega) (by omega), show i3 + 1 + xs + 1 = i3 + 2 + xs by omega, own_xe3 PP x01, own_ofI (by omega) (by omega)]
      have f4 : xs = 1 → f (i3 + 1) = xc := fun q => by rw [hx _ (by omega) (by omega), own_xe1 PP q]
      rcases X.2 with ⟨a, b, c⟩ | ⟨a, b, c⟩ | ⟨a, a', b⟩
      · exact ⟨e, fun y => absurd y o, fun _ y => by rw [a] at y; exact absurd y (by decide), fun _ _ => rfl, Or.inr ⟨i3 + 1 + xs, e / 10, e % 10, 1, f3, by omega, Or.inr (Or.inl ⟨by omega, by rw [f4 b, c], rfl⟩), f5, f6, by omega, by omega, by omega, by omega, by omega⟩⟩
      · exact ⟨-e, fun y => absurd y o, fun _ _ => rfl, fun _ y => absurd a y, Or.inr ⟨i3 + 1 + xs, e / 10, e % 10, -1, f3, by omega, Or.inr (Or.inr ⟨by omega, by rw [f4 b, c], rfl⟩), f5, f6, by omega, by omega, by omega, by omega, by omega⟩⟩
      · exact ⟨e, fun y => absurd y o, fun _ y => absurd y a', fun _ _ => rfl, Or.inr ⟨i3 + 1 + xs, e / 10, e % 10, 1, f3, by omega, Or.inl ⟨by omega, rfl⟩, f5, f6, by omega, by omega, by omega, by omega, by omega⟩⟩
  obtain ⟨sgn, g1, g2, g3⟩ := t0
  obtain ⟨wr, k1, k2, k3, k4⟩ := t4
  exact ⟨sgn, wr, g1, g2, k1, k2, k3, hWi.2, g3, t1, t2, k4, by rw [hn]; exact hN, hn, by omega⟩
end
theorem own_plit {n : Int} (n0 : 0 ≤ n) (n1 : n < 19) {l lo w : Int64} (hl : 0 ≤ l.toInt) (hl1 : l.toInt < 1000000000000000000) (hw : w = own_pow n) (h : lo = l % w) : lo.toInt = l.toInt % ((10 ^ n.toNat : Nat) : Int) ∧ 0 ≤ lo.toInt ∧ lo.toInt < 1000000000000000000 := by
  obtain ⟨p1, p2⟩ := own_powI n0 n1
  have e := own_remP (P := (own_pow n).toInt) hl (p := own_pow n) rfl
  have a := Int.emod_nonneg l.toInt (show (own_pow n).toInt ≠ 0 by omega)
  have b : l.toInt % (own_pow n).toInt ≤ l.toInt := by
    have d := Int.mul_ediv_add_emod l.toInt (own_pow n).toInt
    have d0 := Int.ediv_nonneg hl (show 0 ≤ (own_pow n).toInt by omega)
    have := Int.mul_nonneg (show 0 ≤ (own_pow n).toInt by omega) d0
    omega
  rw [h, hw]
  refine ⟨by rw [e, p1], by omega, by omega⟩
/-- the two halves -/
theorem own_halves {n d l hi lo : Int} (d0 : 0 ≤ d) (d9 : d ≤ 9) (l0 : 0 ≤ l) (l1 : l < 1000000000000000000) (h1 : n = 19 → hi = d ∧ lo = l) (h2 : ¬ n = 19 → hi = 0 ∧ lo = l % ((10 ^ n.toNat : Nat) : Int) ∧ 0 ≤ lo ∧ lo < 1000000000000000000) : ((own_N n d l : Nat) : Int) = hi * 1000000000000000000 + lo ∧ 0 ≤ hi ∧ hi ≤ 9 ∧ 0 ≤ lo ∧ lo < 1000000000000000000 := by
  unfold own_N
  by_cases q : n = 19
  · obtain ⟨a, b⟩ := h1 q
    rw [if_pos q]; omega
  · obtain ⟨a, b, c, c'⟩ := h2 q
    rw [if_neg q, ← b]; omega
theorem own_N0 {n d l : Int} (hd : d = 0) (hl : l = 0) : own_N n d l = 0 := by
  unfold own_N; rw [hd, hl]; split
  · rfl
  · rw [Int.zero_emod]; rfl
theorem own_fin0 {N : Nat} {K s : Int} (h : (N : Int) = 0) : (0 : Int64).toInt = own_res N K s := by
  rw [show N = 0 by omega, own_res0]; rfl
theorem own_ng {q : Int64} {A : Int} (h : q.toInt = A) (h0 : 0 ≤ A) : (-q).toInt = -A := by
  have r := rng64 q
  have k : (0 : Int64).toInt = 0 := rfl
  rw [← Int64.zero_sub, Jvm.Free.XT.sub64 ⟨by omega, by omega⟩]; omega
theorem own_sgn {q x : Int64} {A : Nat} {s : Int} {m : Int32} (h : q.toInt = (A : Int)) (h1 : m = 0 → s = 1) (h2 : ¬ m = 0 → s = -1) (c : (m = 0 ∧ x = q) ∨ (¬ m = 0 ∧ x = -q)) : x.toInt = s * (A : Int) := by
  rcases c with ⟨a, b⟩ | ⟨a, b⟩
  · rw [h1 a, b, h]; omega
  · rw [h2 a, b, own_ng h (by omega)]; omega
theorem own_pw (D : Nat) (h : D ≤ 18) : (10 : Nat) ^ (18 - D) * 10 ^ D = 1000000000000000000 := by
  rw [own_p18, ← Nat.pow_add]; congr 1; omega
/-- k < 0 -/
theorem own_kneg {N : Nat} {hi lo k w1 w2 q : Int64} {d : Int32} (hN : (N : Int) = hi.toInt * 1000000000000000000 + lo.toInt) (h0 : 0 ≤ hi.toInt) (h9 : hi.toInt ≤ 9) (l0 : 0 ≤ lo.toInt) (l1 : lo.toInt < 1000000000000000000) (kn : k.toInt < 0) (k18 : -18 ≤ k.toInt) (hd : d.toInt = -k.toInt) (e1 : w1 = own_pow (18 - d).toInt) (e2 : w2 = own_pow d.toInt) (hq : q = hi * w1 + lo / w2) : q.toInt = ((N / 10 ^ (-k.toInt).toNat : Nat) : Int) := by
  have s18 := own_sub18 (j := d) (by omega) (by omega)
  rw [s18, hd] at e1
  rw [hd] at e2
  obtain ⟨a1, a2⟩ := own_powI (i := 18 - -k.toInt) (by omega) (by omega)
  obtain ⟨b1, b2⟩ := own_powI (i := -k.toInt) (by omega) (by omega)
  rw [← e1] at a1 a2
  rw [← e2] at b1 b2
  have pw := own_pw (-k.toInt).toNat (by omega)
  rw [show 18 - (-k.toInt).toNat = (18 - -k.toInt).toNat by omega] at pw
  have A17 : (10 : Nat) ^ (18 - -k.toInt).toNat ≤ 100000000000000000 := Nat.le_trans (Nat.pow_le_pow_right (by decide) (show (18 - -k.toInt).toNat ≤ 17 by omega)) (by decide)
  generalize 10 ^ (18 - -k.toInt).toNat = A at *
  generalize 10 ^ (-k.toInt).toNat = B at *
  obtain ⟨H, hH⟩ : ∃ H : Nat, hi.toInt = (H : Int) := ⟨hi.toInt.toNat, by omega⟩
  obtain ⟨L, hL⟩ : ∃ L : Nat, lo.toInt = (L : Int) := ⟨lo.toInt.toNat, by omega⟩
  have B1 : 1 ≤ B := by omega
  have hHA : H * A ≤ 9 * 100000000000000000 := Nat.mul_le_mul (by omega) A17
  have m1 : (hi * w1).toInt = ((H * A : Nat) : Int) := by
    have : hi.toInt * w1.toInt = ((H * A : Nat) : Int) := by rw [hH, a1]; push_cast; rfl
    rw [Jvm.Free.XT.mul64 ⟨by omega, by omega⟩, this]
  have m2 : (lo / w2).toInt = ((L / B : Nat) : Int) := by rw [own_divP l0 b1 (by omega), hL]; rfl
  have m3 : L / B ≤ L := Nat.div_le_self _ _
  have eN : N / B = H * A + L / B := by
    have : N = L + B * (H * A) := by
      have : B * (H * A) = H * 1000000000000000000 := by rw [← pw]; ac_rfl
      omega
    rw [this, Nat.add_mul_div_left _ _ (by omega)]; omega
  rw [eN]
  generalize H * A = u at *
  generalize L / B = v at *
  rw [hq, Jvm.Free.XT.add64 ⟨by rw [m1, m2]; omega, by rw [m1, m2]; omega⟩, m1, m2]; omega
theorem own_rneg {N : Nat} {K s : Int} (h : K < 0) : own_res N K s = s * ((N / 10 ^ (-K).toNat : Nat) : Int) := if_pos h
theorem own_rover {N : Nat} {K s : Int} (h : ¬ K < 0) (g : 9223372036854775807 < N * 10 ^ K.toNat) : (-9223372036854775808 : Int64).toInt = own_res N K s := by
  unfold own_res; rw [if_neg h, if_neg (by omega)]; rfl
theorem own_rin {N : Nat} {K s : Int} (h : ¬ K < 0) (g : N * 10 ^ K.toNat ≤ 9223372036854775807) : own_res N K s = s * ((N * 10 ^ K.toNat : Nat) : Int) := by
  unfold own_res; rw [if_neg h, if_pos g]
theorem own_ov1 {N : Nat} {k : Int64} {hi lo : Int} {s : Int} (hN : (N : Int) = hi * 1000000000000000000 + lo) (l0 : 0 ≤ lo) (h : 0 < hi) (kp : 0 < k.toInt) : (-9223372036854775808 : Int64).toInt = own_res N k.toInt s := by
  refine own_rover (by omega) ?_
  have g : 10 ^ 1 ≤ 10 ^ k.toInt.toNat := Nat.pow_le_pow_right (by decide) (by omega)
  have := Nat.mul_le_mul_left N g
  omega
theorem own_ov2 {N : Nat} {k : Int64} {s : Int} (kp : ¬ k.toInt < 0) (hN : 9223372036854775807 < (N : Int)) : (-9223372036854775808 : Int64).toInt = own_res N k.toInt s := by
  refine own_rover kp ?_
  have p : 0 < 10 ^ k.toInt.toNat := Nat.pow_pos (by decide)
  have := Nat.le_mul_of_pos_right N p
  omega
theorem own_in1 {N : Nat} {k q hi lo w : Int64} {s : Int} (kz : k.toInt = 0) (hN : (N : Int) = hi.toInt * 1000000000000000000 + lo.toInt) (h0 : 0 ≤ hi.toInt) (h9 : hi.toInt ≤ 9) (l0 : 0 ≤ lo.toInt) (hm : (N : Int) ≤ 9223372036854775807) (hw : w = own_pow (18 : Int32).toInt) (hq : q = hi * w + lo) : q.toInt = (N : Int) ∧ own_res N k.toInt s = s * (N : Int) := by
  have e : w.toInt = 1000000000000000000 := by rw [hw]; decide
  have m1 : (hi * w).toInt = hi.toInt * 1000000000000000000 := by rw [Jvm.Free.XT.mul64 ⟨by rw [e]; omega, by rw [e]; omega⟩, e]
  refine ⟨by rw [hq, Jvm.Free.XT.add64 ⟨by omega, by omega⟩]; omega, ?_⟩
  rw [own_rin (by omega) (by rw [kz]; simp; omega), kz]; simp
theorem own_ov3 {N : Nat} {k : Int64} {s : Int} (kp : 18 < k.toInt) (hN : 0 < N) : (-9223372036854775808 : Int64).toInt = own_res N k.toInt s := by
  refine own_rover (by omega) ?_
  have g : (10 : Nat) ^ 19 ≤ 10 ^ k.toInt.toNat := Nat.pow_le_pow_right (by decide) (by omega)
  have g' : (10000000000000000000 : Nat) ≤ 10 ^ k.toInt.toNat := Nat.le_trans (by decide) g
  generalize 10 ^ k.toInt.toNat = A at *
  have := Nat.mul_le_mul hN g'
  omega
theorem own_kI {k : Int64} (h0 : ¬ k.toInt < 0) (h1 : ¬ 18 < k.toInt) : k.toInt32.toInt = k.toInt := by
  have := c_l2i k; have := rng32 k.toInt32; omega
theorem own_mxd {w : Int64} {A : Nat} (h : w.toInt = (A : Int)) (h1 : 1 ≤ A) : ((9223372036854775807 : Int64) / w).toInt = ((9223372036854775807 / A : Nat) : Int) := by
  rw [own_divP (by decide) h (by omega)]; rfl
theorem own_ov4 {N : Nat} {k lo w : Int64} {s : Int} (k0 : ¬ k.toInt < 0) (k18 : ¬ 18 < k.toInt) (hN : (N : Int) = lo.toInt) (hw : w = own_pow k.toInt32.toInt) (c : (9223372036854775807 : Int64) / w < lo) : (-9223372036854775808 : Int64).toInt = own_res N k.toInt s := by
  rw [own_kI k0 k18] at hw
  obtain ⟨p1, p2⟩ := own_powI (i := k.toInt) (by omega) (by omega)
  rw [← hw] at p1 p2
  refine own_rover k0 ?_
  rw [Int64.lt_iff_toInt_lt] at c
  generalize 10 ^ k.toInt.toNat = A at *
  have A1 : 0 < A := by omega
  rw [own_mxd p1 A1, ← hN] at c
  have c' : 9223372036854775807 / A < N := by omega
  exact (Nat.div_lt_iff_lt_mul A1).mp c'
theorem own_in2 {N : Nat} {k lo w w' q : Int64} {s : Int} (k0 : ¬ k.toInt < 0) (k18 : ¬ 18 < k.toInt) (hN : (N : Int) = lo.toInt) (hw : w = own_pow k.toInt32.toInt) (hw' : w' = own_pow k.toInt32.toInt) (c : ¬ (9223372036854775807 : Int64) / w < lo) (hq : q = lo * w') : q.toInt = ((N * 10 ^ k.toInt.toNat : Nat) : Int) ∧ own_res N k.toInt s = s * ((N * 10 ^ k.toInt.toNat : Nat) : Int) := by
  rw [hw'.trans hw.symm] at hq
  rw [own_kI k0 k18] at hw
  obtain ⟨p1, p2⟩ := own_powI (i := k.toInt) (by omega) (by omega)
  rw [← hw] at p1 p2
  have r := own_rin (N := N) (K := k.toInt) (s := s) k0
  rw [Int64.lt_iff_toInt_lt] at c
  generalize 10 ^ k.toInt.toNat = A at *
  have A1 : 0 < A := by omega
  rw [own_mxd p1 A1, ← hN] at c
  have c' : N ≤ 9223372036854775807 / A := by omega
  have g : N * A ≤ 9223372036854775807 := (Nat.le_div_iff_mul_le A1).mp c'
  refine ⟨?_, r g⟩
  have : lo.toInt * w.toInt = ((N * A : Nat) : Int) := by rw [← hN, p1]; push_cast; rfl
  rw [hq, Jvm.Free.XT.mul64 ⟨by omega, by omega⟩, this]
theorem own_wrb {on es : Int32} {wr e : Int} (e0 : 0 ≤ e) (e1 : e < 100) (w1 : on = 0 → wr = 0) (w2 : ¬ on = 0 → es = 2 → wr = -e) (w3 : ¬ on = 0 → ¬ es = 2 → wr = e) : -99 ≤ wr ∧ wr ≤ 99 := by
  by_cases a : on = 0
  · have := w1 a; omega
  by_cases b : es = 2
  · have := w2 a b; omega
  · have := w3 a b; omega
theorem own_base {fr v17 : Int32} {bE z : Int64} {F wr : Int} (hf : fr.toInt = F) (f0 : 0 ≤ F) (f1 : F ≤ 19) (hb : bE.toInt = wr) (hwr : -99 ≤ wr ∧ wr ≤ 99) (z0 : 0 ≤ v17.toInt) (z1 : v17.toInt ≤ 19) (h : z = if 0 < ((fr.toInt64 - bE) - v17.toInt64) then ((fr.toInt64 - bE) - v17.toInt64) else 0) : F - wr - v17.toInt ≤ z.toInt ∧ 0 ≤ z.toInt ∧ z.toInt ≤ 118 := by
  have k : (0 : Int64).toInt = 0 := rfl
  have e1 : (fr.toInt64 - bE).toInt = F - wr := by rw [Jvm.Free.XT.sub64 ⟨by rw [Int32.toInt_toInt64]; omega, by rw [Int32.toInt_toInt64]; omega⟩, Int32.toInt_toInt64]; omega
  have e2 : ((fr.toInt64 - bE) - v17.toInt64).toInt = F - wr - v17.toInt := by rw [Jvm.Free.XT.sub64 ⟨by rw [Int32.toInt_toInt64]; omega, by rw [Int32.toInt_toInt64]; omega⟩, Int32.toInt_toInt64]; omega
  by_cases q : 0 < ((fr.toInt64 - bE) - v17.toInt64)
  · rw [if_pos q] at h
    rw [Int64.lt_iff_toInt_lt] at q
    rw [h]; omega
  · rw [if_neg q] at h
    rw [Int64.lt_iff_toInt_lt] at q
    rw [h]; omega
theorem own_sL1 {z v : Int64} {x : Int32} (h : v = z + (x &&& 31).toInt64) (h0 : 0 ≤ z.toInt) (h1 : z.toInt ≤ 118) : z.toInt ≤ v.toInt ∧ v.toInt ≤ 2147483647 := by
  have a := c_and x 31 (by decide)
  have k : (31 : Int32).toInt = 31 := rfl
  rw [h, Jvm.Free.XT.add64 ⟨by rw [Int32.toInt_toInt64]; omega, by rw [Int32.toInt_toInt64]; omega⟩, Int32.toInt_toInt64]; omega
theorem own_sL2 {z v : Int64} {x : Int32} (h : v = if z < x.toInt64 then x.toInt64 else z) (h1 : z.toInt ≤ 118) : z.toInt ≤ v.toInt ∧ v.toInt ≤ 2147483647 := by
  have r := rng32 x
  have e := Int32.toInt_toInt64 x
  by_cases q : z < x.toInt64
  · rw [if_pos q] at h
    rw [Int64.lt_iff_toInt_lt] at q
    rw [h]; omega
  · rw [if_neg q] at h
    rw [h]; omega
theorem own_l32 {k : Int64} (h0 : 0 ≤ k.toInt) (h1 : k.toInt ≤ 2147483647) : k.toInt32.toInt = k.toInt := by
  have := c_l2i k; have := rng32 k.toInt32; omega
theorem own_K {bE sL v : Int64} {fr : Int32} {F wr : Int} (h : v = (bE - fr.toInt64) + sL) (hf : fr.toInt = F) (f0 : 0 ≤ F) (f1 : F ≤ 19) (hb : bE.toInt = wr) (hwr : -99 ≤ wr ∧ wr ≤ 99) (s0 : 0 ≤ sL.toInt) (s1 : sL.toInt ≤ 2147483647) : v.toInt = wr - F + sL.toInt := by
  have e1 : (bE - fr.toInt64).toInt = wr - F := by rw [Jvm.Free.XT.sub64 ⟨by rw [Int32.toInt_toInt64]; omega, by rw [Int32.toInt_toInt64]; omega⟩, Int32.toInt_toInt64]; omega
  rw [h, Jvm.Free.XT.add64 ⟨by omega, by omega⟩, e1]
theorem own_ms {kd m : Int32} {s : Int} (j : (¬ kd = 2 ∧ m = 0) ∨ (kd = 2 ∧ m = 1)) (h1 : kd.toInt = 2 → s = -1) (h2 : ¬ kd.toInt = 2 → s = 1) : (m = 0 → s = 1) ∧ (¬ m = 0 → s = -1) := by
  rcases j with ⟨a, b⟩ | ⟨a, b⟩
  · exact ⟨fun _ => h2 (fun w => a (Int32.toInt_inj.mp (by rw [w]; rfl))), fun y => absurd b y⟩
  · exact ⟨fun y => absurd (b.symm.trans y) (by decide), fun _ => h1 (by rw [a]; rfl)⟩
theorem own_s1 {kd : Int32} {s : Int} (h1 : kd.toInt = 2 → s = -1) (h2 : ¬ kd.toInt = 2 → s = 1) : s = 1 ∨ s = -1 := by
  by_cases q : kd.toInt = 2
  · exact Or.inr (h1 q)
  · exact Or.inl (h2 q)
theorem own_dd {k : Int64} {d : Int32} (h : d = (-k).toInt32) (h0 : k.toInt < 0) (h1 : -18 ≤ k.toInt) : d.toInt = -k.toInt := by
  have e : (-k).toInt = -k.toInt := by
    have z : (0 : Int64).toInt = 0 := rfl
    rw [← Int64.zero_sub, Jvm.Free.XT.sub64 ⟨by omega, by omega⟩]; omega
  rw [h, own_l32 (by omega) (by omega), e]
theorem own_ni {x : Int32} (h0 : 0 ≤ x.toInt) : (-x).toInt = -x.toInt := by
  have z : (0 : Int32).toInt = 0 := rfl
  have r := rng32 x
  rw [← Int32.zero_sub, Jvm.Free.XT.sub32 ⟨by omega, by omega⟩]; omega
theorem own_cd1 {x : Int32} (h0 : 0 ≤ x.toInt) (h1 : x.toInt < 100) : ((48 : Int32) + x / 10).toInt = 48 + x.toInt / 10 := by
  have k : (48 : Int32).toInt = 48 := rfl
  have e : (x / 10).toInt = x.toInt / 10 := by
    have := (c_idiv x 10 10 rfl (by decide)).1 h0
    exact this
  rw [Jvm.Free.XT.add32 ⟨by omega, by omega⟩, k, e]
theorem own_cm1 {x : Int32} (h0 : 0 ≤ x.toInt) (h1 : x.toInt < 100) : ((48 : Int32) + x % 10).toInt = 48 + x.toInt % 10 := by
  have k : (48 : Int32).toInt = 48 := rfl
  have e : (x % 10).toInt = x.toInt % 10 := by
    have := (c_irem x 10 10 rfl).1 h0
    exact this
  rw [Jvm.Free.XT.add32 ⟨by omega, by omega⟩, k, e]
theorem own_Fb {n hp pp s0 skip pa i1 i2 i3 : Int} (PP : own_Par n hp pp s0 skip pa i1 i2 i3) : 0 ≤ i3 - i2 ∧ i3 - i2 ≤ 19 := by
  obtain ⟨n0, n1, sk, hs, h'⟩ := PP
  omega

theorem pd_0 : parseMethodDescriptor "(B)Z" = some ⟨[.byte], some .boolean⟩ := by decide +kernel
theorem pd_1 : parseMethodDescriptor "([BII)I" = some ⟨[(.array .byte), .int, .int], some .int⟩ := by decide +kernel
theorem pd_2 : parseMethodDescriptor "(JJ)J" = some ⟨[.long, .long], some .long⟩ := by decide +kernel
theorem pd_3 : parseMethodDescriptor "(J)J" = some ⟨[.long], some .long⟩ := by decide +kernel
theorem pd_4 : parseMethodDescriptor "([BIZI)I" = some ⟨[(.array .byte), .int, .boolean, .int], some .int⟩ := by decide +kernel
theorem pd_5 : parseMethodDescriptor "([BIIIIIJ[J)I" = some ⟨[(.array .byte), .int, .int, .int, .int, .int, .long, (.array .long)], some .int⟩ := by decide +kernel
theorem pd_6 : parseMethodDescriptor "()V" = some ⟨[], none⟩ := by decide +kernel
theorem pd_7 : parseMethodDescriptor "([BII)Z" = some ⟨[(.array .byte), .int, .int], some .boolean⟩ := by decide +kernel
theorem pd_8 : parseMethodDescriptor "(I)J" = some ⟨[.int], some .long⟩ := by decide +kernel
theorem d7_0 : decode prog_139_method_12_code 0 = .ok (.iload_n 0, 1) := by decide +kernel
theorem d7_1 : decode prog_139_method_12_code 1 = .ok (.bipush 48, 2) := by decide +kernel
theorem d7_3 : decode prog_139_method_12_code 3 = .ok (.if_icmp .lt 13, 3) := by decide +kernel
theorem d7_6 : decode prog_139_method_12_code 6 = .ok (.iload_n 0, 1) := by decide +kernel
theorem d7_7 : decode prog_139_method_12_code 7 = .ok (.bipush 57, 2) := by decide +kernel
theorem d7_9 : decode prog_139_method_12_code 9 = .ok (.if_icmp .gt 7, 3) := by decide +kernel
theorem d7_12 : decode prog_139_method_12_code 12 = .ok (.iconst 1, 1) := by decide +kernel
theorem d7_13 : decode prog_139_method_12_code 13 = .ok (.goto 4, 3) := by decide +kernel
theorem d7_16 : decode prog_139_method_12_code 16 = .ok (.iconst 0, 1) := by decide +kernel
theorem d7_17 : decode prog_139_method_12_code 17 = .ok (.ireturn, 1) := by decide +kernel
theorem pn_7 : plainName "com/example/tracefold/tracefold/trace/DecimalText" = true := by first | (simp [plainName, overriddenIn]; done) | decide +kernel
theorem ef_7 (m : MethodId) (p0 : Int32) : entryFrame m #[.int p0] 1 = mkF m 0 #[.val (.int p0)] [] := by first | (simp [entryFrame, mkF, argsToLocals, Value.category]; done) | rfl
set_option maxRecDepth 65536 in
set_option maxHeartbeats 40000000 in
theorem ct_7 (l : Launch) (Z : State) (a0 : Array Value) (hw : ∀ d ∈ tables_1, d.before a0 Z = true) {h0 : Heap} {n0 : Nat} (zs : n0 ≤ h0.size) (p0 : Int32)  :
    CtK l Z (⟨"com/example/tracefold/tracefold/trace/DecimalText", "isDigit", "(B)Z"⟩ : MethodName) prog_139_method_12_code 1 (some .boolean) ({ frames := 0, cells := 0, slots := 0, locals := 0 } : Room) #[.int p0] h0 n0 (QI (fun z h => z = (if ¬ p0 < 48 ∧ ¬ 57 < p0 then 1 else 0) ∧ h = h0)) := by
  refine CtK.of (plainFor_of_name pn_7) ?_
  intro p e s m below meth c T0 X0 hx hZ hby hml hown hnm hret hlk
  refine GoK.entry (ef_7 m p0) ?_
  replace hown : s.vm.findClass "com/example/tracefold/tracefold/trace/DecimalText" = some m.cls := hown
  refine go_iloadN (pc' := 1) X0 hx (hb hby d7_0) rfl rfl ?_
  refine go_bipush (pc' := 3) (v := 48) X0 hx (hb hby d7_1) rfl rfl ?_
  refine go_icmplt (pc' := 6) (pcT := 16) X0 hx (hb hby d7_3) rfl (by decide) (by decide) (fun c3 => ?_) (fun c3 => ?_)
  · refine go_iconst (pc' := 17) (v := 0) X0 hx (hb hby d7_16) rfl rfl ?_
    refine go_retN (t := .boolean) X0 hx hret (by simp) hlk (hb hby d7_17) (by decide) (by decide) ?_
    exact ⟨(if_neg (fun w => w.1 c3)).symm, rfl⟩
  · refine go_iloadN (pc' := 7) X0 hx (hb hby d7_6) rfl rfl ?_
    refine go_bipush (pc' := 9) (v := 57) X0 hx (hb hby d7_7) rfl rfl ?_
    refine go_icmpgt (pc' := 12) (pcT := 16) X0 hx (hb hby d7_9) rfl (by decide) (by decide) (fun c9_f => ?_) (fun c9_f => ?_)
    · refine go_iconst (pc' := 17) (v := 0) X0 hx (hb hby d7_16) rfl rfl ?_
      refine go_retN (t := .boolean) X0 hx hret (by simp) hlk (hb hby d7_17) (by decide) (by decide) ?_
      exact ⟨(if_neg (fun w => w.2 c9_f)).symm, rfl⟩
    · refine go_iconst (pc' := 13) (v := 1) X0 hx (hb hby d7_12) rfl rfl ?_
      refine go_goto (pc' := 17) X0 hx (hb hby d7_13) (by decide) (by decide) ?_
      refine go_retN (t := .boolean) X0 hx hret (by simp) hlk (hb hby d7_17) (by decide) (by decide) ?_
      exact ⟨(if_pos ⟨c3, c9_f⟩).symm, rfl⟩
theorem d6_0 : decode prog_139_method_10_code 0 = .ok (.iload_n 1, 1) := by decide +kernel
theorem d6_1 : decode prog_139_method_10_code 1 = .ok (.istore_n 3, 1) := by decide +kernel
theorem d6_2 : decode prog_139_method_10_code 2 = .ok (.iload_n 3, 1) := by decide +kernel
theorem d6_3 : decode prog_139_method_10_code 3 = .ok (.iload_n 2, 1) := by decide +kernel
theorem d6_4 : decode prog_139_method_10_code 4 = .ok (.if_icmp .ge 18, 3) := by decide +kernel
theorem d6_7 : decode prog_139_method_10_code 7 = .ok (.aload_n 0, 1) := by decide +kernel
theorem d6_8 : decode prog_139_method_10_code 8 = .ok (.iload_n 3, 1) := by decide +kernel
theorem d6_9 : decode prog_139_method_10_code 9 = .ok (.baload, 1) := by decide +kernel
theorem d6_10 : decode prog_139_method_10_code 10 = .ok (.invokestatic 15, 3) := by decide +kernel
theorem d6_13 : decode prog_139_method_10_code 13 = .ok (.ifCond .eq 9, 3) := by decide +kernel
theorem d6_16 : decode prog_139_method_10_code 16 = .ok (.iinc 3 1, 3) := by decide +kernel
theorem d6_19 : decode prog_139_method_10_code 19 = .ok (.goto (-17), 3) := by decide +kernel
theorem d6_22 : decode prog_139_method_10_code 22 = .ok (.iload_n 3, 1) := by decide +kernel
theorem d6_23 : decode prog_139_method_10_code 23 = .ok (.ireturn, 1) := by decide +kernel
theorem pn_6 : plainName "com/example/tracefold/tracefold/trace/DecimalText" = true := by first | (simp [plainName, overriddenIn]; done) | decide +kernel
theorem ef_6 (m : MethodId) (r0 : Addr) (p1 : Int32) (p2 : Int32) : entryFrame m #[.ref r0, .int p1, .int p2] 4 = mkF m 0 #[.val (.ref r0), .val (.int p1), .val (.int p2), .unset] [] := by first | (simp [entryFrame, mkF, argsToLocals, Value.category]; done) | rfl
set_option maxRecDepth 65536 in
set_option maxHeartbeats 40000000 in
theorem ct_6 (l : Launch) (Z : State) (a0 : Array Value) (hw : ∀ d ∈ tables_1, d.before a0 Z = true) {h0 : Heap} {n0 : Nat} (zs : n0 ≤ h0.size) (r0 : Addr) (p1 : Int32) (p2 : Int32) (f : Int → Int32) (A_r0 : AIK Z h0 r0 .byte 26 f) (a0' : 0 ≤ p1.toInt) (a1' : p1.toInt ≤ p2.toInt) (a2' : p2.toInt ≤ 26) :
    CtK l Z (⟨"com/example/tracefold/tracefold/trace/DecimalText", "digits", "([BII)I"⟩ : MethodName) prog_139_method_10_code 4 (some .int) ({ frames := 1, cells := 0, slots := 0, locals := 12 } : Room) #[.ref r0, .int p1, .int p2] h0 n0 (QI (fun z h => own_scan (fun i => own_dig (f i)) p1.toInt p2.toInt z.toInt ∧ h = h0)) := by
  refine CtK.of (plainFor_of_name pn_6) ?_
  intro p e s m below meth c T0 X0 hx hZ hby hml hown hnm hret hlk
  refine GoK.entry (ef_6 m r0 p1 p2) ?_
  replace hown : s.vm.findClass "com/example/tracefold/tracefold/trace/DecimalText" = some m.cls := hown
  refine go_iloadN (pc' := 1) X0 hx (hb hby d6_0) rfl rfl ?_
  refine go_istoreN (pc' := 2) (L' := #[.val (.ref r0), .val (.int p1), .val (.int p2), .val (.int p1)]) X0 hx (hb hby d6_1) rfl rfl ?_
  suffices loop2 : ∀ (d : Nat) (TL2 : State) (hL2 : Heap) (v3 : Int32), OnK p l e ({ frames := 1, cells := 0, slots := 0, locals := 12 } : Room) s m #[.ref r0, .int p1, .int p2] below meth c n0 TL2 hL2 0 0 → n0 ≤ hL2.size → AIK Z hL2 r0 .byte (26) f → (p2.toInt - v3.toInt).toNat = d → (hL2 = h0 ∧ p1.toInt ≤ v3.toInt ∧ v3.toInt ≤ p2.toInt ∧ ∀ i : Int, p1.toInt ≤ i → i < v3.toInt → own_dig (f i)) → GoK p e below (DoneK s below n0 ({ frames := 1, cells := 0, slots := 0, locals := 12 } : Room).cells ({ frames := 1, cells := 0, slots := 0, locals := 12 } : Room).slots (QI (fun z h => own_scan (fun i => own_dig (f i)) p1.toInt p2.toInt z.toInt ∧ h = h0))) TL2 (mkF m 2 #[.val (.ref r0), .val (.int p1), .val (.int p2), .val (.int v3)] []) by
    refine loop2 _ T0 h0 p1 X0 zs A_r0  rfl ?_
    exact ⟨rfl, Int.le_refl _, a1', fun i j1 j2 => by omega⟩
  intro d2
  induction d2 using Nat.strongRecOn with
  | _ d2 ih2 =>
    intro TL2 hL2 v3 XL2 zs A_r0 hm2 hv2
    obtain ⟨i0, i1, i2, i3⟩ := hv2
    refine go_iloadN (pc' := 3) XL2 hx (hb hby d6_2) rfl rfl ?_
    refine go_iloadN (pc' := 4) XL2 hx (hb hby d6_3) rfl rfl ?_
    refine go_icmpge (pc' := 7) (pcT := 22) XL2 hx (hb hby d6_4) rfl (by decide) (by decide) (fun c4 => ?_) (fun c4 => ?_)
    · refine go_iloadN (pc' := 23) XL2 hx (hb hby d6_22) rfl rfl ?_
      refine go_retI XL2 hx hret hlk (hb hby d6_23) (by decide) (by decide) ?_
      refine ⟨⟨i1, i2, i3, fun q => ?_⟩, i0⟩
      exact absurd q (own_geI c4)
    · refine go_aloadN (pc' := 8) XL2 hx (hb hby d6_7) rfl rfl ?_
      refine go_iloadN (pc' := 9) XL2 hx (hb hby d6_8) rfl rfl ?_
      refine go_baloadB (pc' := 10) XL2 hx hZ A_r0 (by omega) (by have := own_ltI c4; omega) (hb hby d6_9) rfl (fun w9_f hw9_f => ?_)
      refine go_callS (pc' := 13) (W := 0) (cells' := 0) (slots' := 0) (rm := ({ frames := 0, cells := 0, slots := 0, locals := 0 } : Room)) (aL := [.int w9_f]) (St := []) XL2 hx hZ hown (by rw [hml]; rfl) (hw _ (List.mem_of_getElem? (i := 45) rfl)) (hw _ (List.mem_of_getElem? (i := 46) rfl)) (hw _ (List.mem_of_getElem? (i := 30) rfl)) (hw _ (List.mem_of_getElem? (i := 47) rfl)) (by decide) pd_0 rfl (ct_7 l Z a0 hw zs w9_f) (hb hby d6_10) rfl (by decide) (Nat.le_of_eq rfl) (by decide) (by decide) (by decide) rfl rfl (fun T1 h1 v1 X1 Q1 => ?_) rfl
      obtain ⟨z1, rfl, hz1, eh1⟩ := Q1
      subst h1
      show GoK p e below _ T1 (mkF m 13 #[.val (.ref r0), .val (.int p1), .val (.int p2), .val (.int v3)] [.int z1])
      refine go_ifeq (pc' := 16) (pcT := 22) X1 hx (hb hby d6_13) rfl (by decide) (by decide) (fun c13_f => ?_) (fun c13_f => ?_)
      · refine go_iloadN (pc' := 23) X1 hx (hb hby d6_22) rfl rfl ?_
        refine go_retI X1 hx hret hlk (hb hby d6_23) (by decide) (by decide) ?_
        refine ⟨⟨i1, i2, i3, fun q => ?_⟩, i0⟩
        rcases own_isd hz1 with ⟨a, b⟩ | ⟨a, b⟩
        · exfalso; rw [a] at c13_f; revert c13_f; decide
        · rw [hw9_f] at b; exact b
      · obtain ⟨v3_16_ff, hv3_16_ff⟩ : ∃ z : Int32, z = v3 + (1 : Int32) := ⟨_, rfl⟩
        refine go_iinc (pc' := 19) (L' := #[.val (.ref r0), .val (.int p1), .val (.int p2), .val (.int v3_16_ff)]) X1 hx (hb hby d6_16) rfl rfl hv3_16_ff.symm rfl ?_
        refine go_goto (pc' := 2) X1 hx (hb hby d6_19) (by decide) (by decide) ?_
        refine ih2 _ ?_ T1 hL2 v3_16_ff X1 zs A_r0  rfl ?_
        · have q := own_ltI c4
          have e3 := own_inc hv3_16_ff (by omega)
          omega
        · have q := own_ltI c4
          have e3 := own_inc hv3_16_ff (by omega)
          refine ⟨i0, by omega, by omega, fun i j1 j2 => ?_⟩
          by_cases y : i = v3.toInt
          · rw [y, ← hw9_f]
            rcases own_isd hz1 with ⟨a, b⟩ | ⟨a, b⟩
            · exact b
            · exact absurd a c13_f
          · exact i3 i j1 (by omega)
theorem d8_0 : decode prog_139_method_11_code 0 = .ok (.iload_n 1, 1) := by decide +kernel
theorem d8_1 : decode prog_139_method_11_code 1 = .ok (.istore_n 3, 1) := by decide +kernel
theorem d8_2 : decode prog_139_method_11_code 2 = .ok (.iload_n 3, 1) := by decide +kernel
theorem d8_3 : decode prog_139_method_11_code 3 = .ok (.iload_n 2, 1) := by decide +kernel
theorem d8_4 : decode prog_139_method_11_code 4 = .ok (.if_icmp .ge 17, 3) := by decide +kernel
theorem d8_7 : decode prog_139_method_11_code 7 = .ok (.aload_n 0, 1) := by decide +kernel
theorem d8_8 : decode prog_139_method_11_code 8 = .ok (.iload_n 3, 1) := by decide +kernel
theorem d8_9 : decode prog_139_method_11_code 9 = .ok (.baload, 1) := by decide +kernel
theorem d8_10 : decode prog_139_method_11_code 10 = .ok (.bipush 48, 2) := by decide +kernel
theorem d8_12 : decode prog_139_method_11_code 12 = .ok (.if_icmp .ne 9, 3) := by decide +kernel
theorem d8_15 : decode prog_139_method_11_code 15 = .ok (.iinc 3 1, 3) := by decide +kernel
theorem d8_18 : decode prog_139_method_11_code 18 = .ok (.goto (-16), 3) := by decide +kernel
theorem d8_21 : decode prog_139_method_11_code 21 = .ok (.iload_n 3, 1) := by decide +kernel
theorem d8_22 : decode prog_139_method_11_code 22 = .ok (.ireturn, 1) := by decide +kernel
theorem pn_8 : plainName "com/example/tracefold/tracefold/trace/DecimalText" = true := by first | (simp [plainName, overriddenIn]; done) | decide +kernel
theorem ef_8 (m : MethodId) (r0 : Addr) (p1 : Int32) (p2 : Int32) : entryFrame m #[.ref r0, .int p1, .int p2] 4 = mkF m 0 #[.val (.ref r0), .val (.int p1), .val (.int p2), .unset] [] := by first | (simp [entryFrame, mkF, argsToLocals, Value.category]; done) | rfl
set_option maxRecDepth 65536 in
set_option maxHeartbeats 40000000 in
theorem ct_8 (l : Launch) (Z : State) (a0 : Array Value) (hw : ∀ d ∈ tables_1, d.before a0 Z = true) {h0 : Heap} {n0 : Nat} (zs : n0 ≤ h0.size) (r0 : Addr) (p1 : Int32) (p2 : Int32) (f : Int → Int32) (A_r0 : AIK Z h0 r0 .byte 26 f) (a0' : 0 ≤ p1.toInt) (a1' : p1.toInt ≤ p2.toInt) (a2' : p2.toInt ≤ 26) :
    CtK l Z (⟨"com/example/tracefold/tracefold/trace/DecimalText", "skipZeros", "([BII)I"⟩ : MethodName) prog_139_method_11_code 4 (some .int) ({ frames := 0, cells := 0, slots := 0, locals := 0 } : Room) #[.ref r0, .int p1, .int p2] h0 n0 (QI (fun z h => own_scan (fun i => f i = 48) p1.toInt p2.toInt z.toInt ∧ h = h0)) := by
  refine CtK.of (plainFor_of_name pn_8) ?_
  intro p e s m below meth c T0 X0 hx hZ hby hml hown hnm hret hlk
  refine GoK.entry (ef_8 m r0 p1 p2) ?_
  replace hown : s.vm.findClass "com/example/tracefold/tracefold/trace/DecimalText" = some m.cls := hown
  refine go_iloadN (pc' := 1) X0 hx (hb hby d8_0) rfl rfl ?_
  refine go_istoreN (pc' := 2) (L' := #[.val (.ref r0), .val (.int p1), .val (.int p2), .val (.int p1)]) X0 hx (hb hby d8_1) rfl rfl ?_
  suffices loop2 : ∀ (d : Nat) (v3 : Int32), (p2.toInt - v3.toInt).toNat = d → ((0 : Int) ≤ 0 ∧ p1.toInt ≤ v3.toInt ∧ v3.toInt ≤ p2.toInt ∧ ∀ i : Int, p1.toInt ≤ i → i < v3.toInt → f i = 48) → GoK p e below (DoneK s below n0 ({ frames := 0, cells := 0, slots := 0, locals := 0 } : Room).cells ({ frames := 0, cells := 0, slots := 0, locals := 0 } : Room).slots (QI (fun z h => own_scan (fun i => f i = 48) p1.toInt p2.toInt z.toInt ∧ h = h0))) T0 (mkF m 2 #[.val (.ref r0), .val (.int p1), .val (.int p2), .val (.int v3)] []) by
    refine loop2 _ p1  rfl ?_
    exact ⟨Int.le_refl _, Int.le_refl _, a1', fun i j1 j2 => by omega⟩
  intro d2
  induction d2 using Nat.strongRecOn with
  | _ d2 ih2 =>
    intro v3 hm2 hv2
    obtain ⟨i0, i1, i2, i3⟩ := hv2
    refine go_iloadN (pc' := 3) X0 hx (hb hby d8_2) rfl rfl ?_
    refine go_iloadN (pc' := 4) X0 hx (hb hby d8_3) rfl rfl ?_
    refine go_icmpge (pc' := 7) (pcT := 21) X0 hx (hb hby d8_4) rfl (by decide) (by decide) (fun c4 => ?_) (fun c4 => ?_)
    · refine go_iloadN (pc' := 22) X0 hx (hb hby d8_21) rfl rfl ?_
      refine go_retI X0 hx hret hlk (hb hby d8_22) (by decide) (by decide) ?_
      refine ⟨⟨i1, i2, i3, fun q => ?_⟩, rfl⟩
      exact absurd q (own_geI c4)
    · refine go_aloadN (pc' := 8) X0 hx (hb hby d8_7) rfl rfl ?_
      refine go_iloadN (pc' := 9) X0 hx (hb hby d8_8) rfl rfl ?_
      refine go_baloadB (pc' := 10) X0 hx hZ A_r0 (by omega) (by have := own_ltI c4; omega) (hb hby d8_9) rfl (fun w9_f hw9_f => ?_)
      refine go_bipush (pc' := 12) (v := 48) X0 hx (hb hby d8_10) rfl rfl ?_
      refine go_icmpne (pc' := 15) (pcT := 21) X0 hx (hb hby d8_12) rfl (by decide) (by decide) (fun c12_f => ?_) (fun c12_f => ?_)
      · refine go_iloadN (pc' := 22) X0 hx (hb hby d8_21) rfl rfl ?_
        refine go_retI X0 hx hret hlk (hb hby d8_22) (by decide) (by decide) ?_
        refine ⟨⟨i1, i2, i3, fun q => ?_⟩, rfl⟩
        show ¬ f v3.toInt = 48; rw [← hw9_f]; exact c12_f
      · obtain ⟨v3_15_ff, hv3_15_ff⟩ : ∃ z : Int32, z = v3 + (1 : Int32) := ⟨_, rfl⟩
        refine go_iinc (pc' := 18) (L' := #[.val (.ref r0), .val (.int p1), .val (.int p2), .val (.int v3_15_ff)]) X0 hx (hb hby d8_15) rfl rfl hv3_15_ff.symm rfl ?_
        refine go_goto (pc' := 2) X0 hx (hb hby d8_18) (by decide) (by decide) ?_
        refine ih2 _ ?_ v3_15_ff  rfl ?_
        · have q := own_ltI c4
          have e3 := own_inc hv3_15_ff (by omega)
          omega
        · have q := own_ltI c4
          have e3 := own_inc hv3_15_ff (by omega)
          refine ⟨Int.le_refl _, by omega, by omega, fun i j1 j2 => ?_⟩
          by_cases y : i = v3.toInt
          · rw [y, ← hw9_f]; exact c12_f
          · exact i3 i j1 (by omega)
theorem d1_0 : decode method_3_code 0 = .ok (.iload_n 2, 1) := by decide +kernel
theorem d1_1 : decode method_3_code 1 = .ok (.ifCond .eq 12, 3) := by decide +kernel
theorem d1_4 : decode method_3_code 4 = .ok (.aload_n 0, 1) := by decide +kernel
theorem d1_5 : decode method_3_code 5 = .ok (.iload_n 1, 1) := by decide +kernel
theorem d1_6 : decode method_3_code 6 = .ok (.iload_n 3, 1) := by decide +kernel
theorem d1_7 : decode method_3_code 7 = .ok (.i2b, 1) := by decide +kernel
theorem d1_8 : decode method_3_code 8 = .ok (.bastore, 1) := by decide +kernel
theorem d1_9 : decode method_3_code 9 = .ok (.iload_n 1, 1) := by decide +kernel
theorem d1_10 : decode method_3_code 10 = .ok (.iconst 1, 1) := by decide +kernel
theorem d1_11 : decode method_3_code 11 = .ok (.iadd, 1) := by decide +kernel
theorem d1_12 : decode method_3_code 12 = .ok (.ireturn, 1) := by decide +kernel
theorem d1_13 : decode method_3_code 13 = .ok (.iload_n 1, 1) := by decide +kernel
theorem d1_14 : decode method_3_code 14 = .ok (.ireturn, 1) := by decide +kernel
theorem pn_1 : plainName "com/example/tracefold/tracefold/trace/DecimalTextUnitsPinLaw" = true := by first | (simp [plainName, overriddenIn]; done) | decide +kernel
theorem ef_1 (m : MethodId) (r0 : Addr) (p1 : Int32) (p2 : Int32) (p3 : Int32) : entryFrame m #[.ref r0, .int p1, .int p2, .int p3] 4 = mkF m 0 #[.val (.ref r0), .val (.int p1), .val (.int p2), .val (.int p3)] [] := by first | (simp [entryFrame, mkF, argsToLocals, Value.category]; done) | rfl
set_option maxRecDepth 65536 in
set_option maxHeartbeats 40000000 in
theorem ct_1 (l : Launch) (Z : State) (a0 : Array Value) (hw : ∀ d ∈ tables_1, d.before a0 Z = true) {h0 : Heap} {n0 : Nat} (zs : n0 ≤ h0.size) (r0 : Addr) (p1 : Int32) (p2 : Int32) (p3 : Int32) (f x : Int → Int32) (A_r0 : AIK Z h0 r0 .byte 26 f) (g_r0 : n0 ≤ r0) (hx0 : (∀ i : Int, 0 ≤ i → i < p1.toInt → f i = x i)) (b0 : 0 ≤ p1.toInt) (b1 : ¬ p2 = 0 → p1.toInt < 26 ∧ x p1.toInt = p3.toInt8.toInt32) :
    CtK l Z (⟨"com/example/tracefold/tracefold/trace/DecimalTextUnitsPinLaw", "put", "([BIZI)I"⟩ : MethodName) method_3_code 4 (some .int) ({ frames := 0, cells := 0, slots := 0, locals := 0 } : Room) #[.ref r0, .int p1, .int p2, .int p3] h0 n0 (QI (fun z h => Keep h0 h [r0] ∧ (∃ f' : Int → Int32, AIK Z h r0 .byte 26 f' ∧ (∀ i : Int, 0 ≤ i → i < z.toInt → f' i = x i)) ∧ z.toInt = p1.toInt + (if p2 = 0 then 0 else 1))) := by
  refine CtK.of (plainFor_of_name pn_1) ?_
  intro p e s m below meth c T0 X0 hx hZ hby hml hown hnm hret hlk
  refine GoK.entry (ef_1 m r0 p1 p2 p3) ?_
  replace hown : s.vm.findClass "com/example/tracefold/tracefold/trace/DecimalTextUnitsPinLaw" = some m.cls := hown
  have K := Keep.refl h0 [r0]
  refine go_iloadN (pc' := 1) X0 hx (hb hby d1_0) rfl rfl ?_
  refine go_ifeq (pc' := 4) (pcT := 13) X0 hx (hb hby d1_1) rfl (by decide) (by decide) (fun c1 => ?_) (fun c1 => ?_)
  · refine go_iloadN (pc' := 14) X0 hx (hb hby d1_13) rfl rfl ?_
    refine go_retI X0 hx hret hlk (hb hby d1_14) (by decide) (by decide) ?_
    exact ⟨K, ⟨f, A_r0, hx0⟩, by rw [if_pos c1, Int.add_zero]⟩
  · refine go_aloadN (pc' := 5) X0 hx (hb hby d1_4) rfl rfl ?_
    refine go_iloadN (pc' := 6) X0 hx (hb hby d1_5) rfl rfl ?_
    refine go_iloadN (pc' := 7) X0 hx (hb hby d1_6) rfl rfl ?_
    refine go_i2b (pc' := 8) X0 hx (hb hby d1_7) rfl ?_
    refine go_bastoreB (pc' := 9) X0 hx hZ A_r0 g_r0 b0 (b1 c1).1 (hb hby d1_8) rfl (fun T1 h1 X1 W1 A_r0 => ?_)
    have zs := Nat.le_trans zs (Nat.le_of_eq W1.size.symm)
    have K := K.wr W1 (Or.inl (by simp))
    refine go_iloadN (pc' := 10) X1 hx (hb hby d1_9) rfl rfl ?_
    refine go_iconst (pc' := 11) (v := 1) X1 hx (hb hby d1_10) rfl rfl ?_
    refine go_iadd (pc' := 12) X1 hx (hb hby d1_11) rfl ?_
    refine go_retI X1 hx hret hlk (hb hby d1_12) (by decide) (by decide) ?_
    have e1 : (p1 + (1 : Int32)).toInt = p1.toInt + 1 := own_inc rfl (by have := (b1 c1).1; omega)
    refine ⟨K, ⟨_, A_r0, ?_⟩, by rw [if_neg c1]; exact e1⟩
    rw [e1, own_b8]
    exact own_agree hx0 (b1 c1).2
theorem d2_0 : decode method_4_code 0 = .ok (.iload_n 1, 1) := by decide +kernel
theorem d2_1 : decode method_4_code 1 = .ok (.istore 9, 2) := by decide +kernel
theorem d2_3 : decode method_4_code 3 = .ok (.iload 4, 2) := by decide +kernel
theorem d2_5 : decode method_4_code 5 = .ok (.iload_n 2, 1) := by decide +kernel
theorem d2_6 : decode method_4_code 6 = .ok (.if_icmp .ne 15, 3) := by decide +kernel
theorem d2_9 : decode method_4_code 9 = .ok (.aload_n 0, 1) := by decide +kernel
theorem d2_10 : decode method_4_code 10 = .ok (.iload 9, 2) := by decide +kernel
theorem d2_12 : decode method_4_code 12 = .ok (.bipush 46, 2) := by decide +kernel
theorem d2_14 : decode method_4_code 14 = .ok (.bastore, 1) := by decide +kernel
theorem d2_15 : decode method_4_code 15 = .ok (.iload 9, 2) := by decide +kernel
theorem d2_17 : decode method_4_code 17 = .ok (.iconst 1, 1) := by decide +kernel
theorem d2_18 : decode method_4_code 18 = .ok (.iadd, 1) := by decide +kernel
theorem d2_19 : decode method_4_code 19 = .ok (.istore 9, 2) := by decide +kernel
theorem d2_21 : decode method_4_code 21 = .ok (.iload_n 2, 1) := by decide +kernel
theorem d2_22 : decode method_4_code 22 = .ok (.iload_n 3, 1) := by decide +kernel
theorem d2_23 : decode method_4_code 23 = .ok (.if_icmp .lt 51, 3) := by decide +kernel
theorem d2_26 : decode method_4_code 26 = .ok (.iload_n 2, 1) := by decide +kernel
theorem d2_27 : decode method_4_code 27 = .ok (.bipush 18, 2) := by decide +kernel
theorem d2_29 : decode method_4_code 29 = .ok (.if_icmp .gt 45, 3) := by decide +kernel
theorem d2_32 : decode method_4_code 32 = .ok (.iload_n 2, 1) := by decide +kernel
theorem d2_33 : decode method_4_code 33 = .ok (.ifCond .ne 8, 3) := by decide +kernel
theorem d2_36 : decode method_4_code 36 = .ok (.iload 5, 2) := by decide +kernel
theorem d2_38 : decode method_4_code 38 = .ok (.goto 18, 3) := by decide +kernel
theorem d2_41 : decode method_4_code 41 = .ok (.lload 6, 2) := by decide +kernel
theorem d2_43 : decode method_4_code 43 = .ok (.aload 8, 2) := by decide +kernel
theorem d2_45 : decode method_4_code 45 = .ok (.bipush 18, 2) := by decide +kernel
theorem d2_47 : decode method_4_code 47 = .ok (.iload_n 2, 1) := by decide +kernel
theorem d2_48 : decode method_4_code 48 = .ok (.isub, 1) := by decide +kernel
theorem d2_49 : decode method_4_code 49 = .ok (.laload, 1) := by decide +kernel
theorem d2_50 : decode method_4_code 50 = .ok (.ldiv, 1) := by decide +kernel
theorem d2_51 : decode method_4_code 51 = .ok (.ldc2_w 7, 3) := by decide +kernel
theorem d2_54 : decode method_4_code 54 = .ok (.lrem, 1) := by decide +kernel
theorem d2_55 : decode method_4_code 55 = .ok (.l2i, 1) := by decide +kernel
theorem d2_56 : decode method_4_code 56 = .ok (.istore 10, 2) := by decide +kernel
theorem d2_58 : decode method_4_code 58 = .ok (.aload_n 0, 1) := by decide +kernel
theorem d2_59 : decode method_4_code 59 = .ok (.iload 9, 2) := by decide +kernel
theorem d2_61 : decode method_4_code 61 = .ok (.bipush 48, 2) := by decide +kernel
theorem d2_63 : decode method_4_code 63 = .ok (.iload 10, 2) := by decide +kernel
theorem d2_65 : decode method_4_code 65 = .ok (.iadd, 1) := by decide +kernel
theorem d2_66 : decode method_4_code 66 = .ok (.i2b, 1) := by decide +kernel
theorem d2_67 : decode method_4_code 67 = .ok (.bastore, 1) := by decide +kernel
theorem d2_68 : decode method_4_code 68 = .ok (.iload 9, 2) := by decide +kernel
theorem d2_70 : decode method_4_code 70 = .ok (.iconst 1, 1) := by decide +kernel
theorem d2_71 : decode method_4_code 71 = .ok (.iadd, 1) := by decide +kernel
theorem d2_72 : decode method_4_code 72 = .ok (.istore 9, 2) := by decide +kernel
theorem d2_74 : decode method_4_code 74 = .ok (.iload 9, 2) := by decide +kernel
theorem d2_76 : decode method_4_code 76 = .ok (.ireturn, 1) := by decide +kernel
theorem pn_2 : plainName "com/example/tracefold/tracefold/trace/DecimalTextUnitsPinLaw" = true := by first | (simp [plainName, overriddenIn]; done) | decide +kernel
theorem ef_2 (m : MethodId) (r0 : Addr) (p1 : Int32) (p2 : Int32) (p3 : Int32) (p4 : Int32) (p5 : Int32) (q6 : Int64) (r7 : Addr) : entryFrame m #[.ref r0, .int p1, .int p2, .int p3, .int p4, .int p5, .long q6, .ref r7] 11 = mkF m 0 #[.val (.ref r0), .val (.int p1), .val (.int p2), .val (.int p3), .val (.int p4), .val (.int p5), .val (.long q6), .second, .val (.ref r7), .unset, .unset] [] := by first | (simp [entryFrame, mkF, argsToLocals, Value.category]; done) | rfl
set_option maxRecDepth 65536 in
set_option maxHeartbeats 40000000 in
theorem ct_2 (l : Launch) (Z : State) (a0 : Array Value) (hw : ∀ d ∈ tables_1, d.before a0 Z = true) {h0 : Heap} {n0 : Nat} (zs : n0 ≤ h0.size) (r0 : Addr) (p1 : Int32) (p2 : Int32) (p3 : Int32) (p4 : Int32) (p5 : Int32) (q6 : Int64) (r7 : Addr) (f x : Int → Int32) (DG : Int) (A_r0 : AIK Z h0 r0 .byte 26 f) (A_r7 : AJK Z h0 r7 19 own_pow) (ne_r7_r0 : r7 ≠ r0) (g_r0 : n0 ≤ r0) (hx0 : (∀ i : Int, 0 ≤ i → i < p1.toInt → f i = x i)) (b0 : 0 ≤ p1.toInt) (b1 : p4 = p2 → p1.toInt < 26 ∧ x p1.toInt = 46) (j0 : 0 ≤ p2.toInt) (b2 : p3.toInt ≤ p2.toInt → p2.toInt ≤ 18 → p1.toInt + (if p4 = p2 then 1 else 0 : Int) < 26 ∧ (x (p1.toInt + (if p4 = p2 then 1 else 0 : Int))).toInt = 48 + DG ∧ 0 ≤ DG ∧ DG ≤ 9 ∧ (p2 = 0 → p5.toInt = DG) ∧ (¬ p2 = 0 → (q6 / own_pow (18 - p2.toInt) % 10).toInt = DG)) :
    CtK l Z (⟨"com/example/tracefold/tracefold/trace/DecimalTextUnitsPinLaw", "step", "([BIIIIIJ[J)I"⟩ : MethodName) method_4_code 11 (some .int) ({ frames := 0, cells := 0, slots := 0, locals := 0 } : Room) #[.ref r0, .int p1, .int p2, .int p3, .int p4, .int p5, .long q6, .ref r7] h0 n0 (QI (fun z h => Keep h0 h [r0] ∧ (∃ f' : Int → Int32, AIK Z h r0 .byte 26 f' ∧ (∀ i : Int, 0 ≤ i → i < z.toInt → f' i = x i)) ∧ z.toInt = p1.toInt + (if p4 = p2 then 1 else 0 : Int) + (if p3.toInt ≤ p2.toInt ∧ p2.toInt ≤ 18 then 1 else 0 : Int))) := by
  refine CtK.of (plainFor_of_name pn_2) ?_
  intro p e s m below meth c T0 X0 hx hZ hby hml hown hnm hret hlk
  refine GoK.entry (ef_2 m r0 p1 p2 p3 p4 p5 q6 r7) ?_
  replace hown : s.vm.findClass "com/example/tracefold/tracefold/trace/DecimalTextUnitsPinLaw" = some m.cls := hown
  have K := Keep.refl h0 [r0]
  refine go_iloadN (pc' := 1) X0 hx (hb hby d2_0) rfl rfl ?_
  refine go_istore (pc' := 3) (L' := #[.val (.ref r0), .val (.int p1), .val (.int p2), .val (.int p3), .val (.int p4), .val (.int p5), .val (.long q6), .second, .val (.ref r7), .val (.int p1), .unset]) X0 hx (hb hby d2_1) rfl rfl ?_
  refine go_iload (pc' := 5) X0 hx (hb hby d2_3) rfl rfl ?_
  refine go_iloadN (pc' := 6) X0 hx (hb hby d2_5) rfl rfl ?_
  refine go_icmpne (pc' := 9) (pcT := 21) X0 hx (hb hby d2_6) rfl (by decide) (by decide) (fun c6 => ?_) (fun c6 => ?_)
  · refine go_iloadN (pc' := 22) X0 hx (hb hby d2_21) rfl rfl ?_
    refine go_iloadN (pc' := 23) X0 hx (hb hby d2_22) rfl rfl ?_
    refine go_icmplt (pc' := 26) (pcT := 74) X0 hx (hb hby d2_23) rfl (by decide) (by decide) (fun c23_t => ?_) (fun c23_t => ?_)
    · refine go_iload (pc' := 76) X0 hx (hb hby d2_74) rfl rfl ?_
      refine go_retI X0 hx hret hlk (hb hby d2_76) (by decide) (by decide) ?_
      have k18 : (18 : Int32).toInt = 18 := rfl
      have q23 := own_ltI c23_t
      exact ⟨K, ⟨_, A_r0, hx0⟩, by rw [if_neg c6, if_neg (fun w => by omega)]; omega⟩
    · refine go_iloadN (pc' := 27) X0 hx (hb hby d2_26) rfl rfl ?_
      refine go_bipush (pc' := 29) (v := 18) X0 hx (hb hby d2_27) rfl rfl ?_
      refine go_icmpgt (pc' := 32) (pcT := 74) X0 hx (hb hby d2_29) rfl (by decide) (by decide) (fun c29_tf => ?_) (fun c29_tf => ?_)
      · refine go_iload (pc' := 76) X0 hx (hb hby d2_74) rfl rfl ?_
        refine go_retI X0 hx hret hlk (hb hby d2_76) (by decide) (by decide) ?_
        have k18 : (18 : Int32).toInt = 18 := rfl
        have q23 := own_geI c23_t
        have q29 := own_ltI c29_tf
        exact ⟨K, ⟨_, A_r0, hx0⟩, by rw [if_neg c6, if_neg (fun w => by omega)]; omega⟩
      · refine go_iloadN (pc' := 33) X0 hx (hb hby d2_32) rfl rfl ?_
        refine go_ifne (pc' := 36) (pcT := 41) X0 hx (hb hby d2_33) rfl (by decide) (by decide) (fun c33_tff => ?_) (fun c33_tff => ?_)
        · refine go_lload (pc' := 43) X0 hx (hb hby d2_41) rfl rfl ?_
          refine go_aload (pc' := 45) X0 hx (hb hby d2_43) rfl rfl ?_
          refine go_bipush (pc' := 47) (v := 18) X0 hx (hb hby d2_45) rfl rfl ?_
          refine go_iloadN (pc' := 48) X0 hx (hb hby d2_47) rfl rfl ?_
          refine go_isub (pc' := 49) X0 hx (hb hby d2_48) rfl ?_
          refine go_laload (pc' := 50) X0 hx hZ A_r7 (by rw [own_sub18 j0 (by have k18 : (18 : Int32).toInt = 18 := rfl; have := own_geI c29_tf; omega)]; have k18 : (18 : Int32).toInt = 18 := rfl; have := own_geI c29_tf; omega) (by rw [own_sub18 j0 (by have k18 : (18 : Int32).toInt = 18 := rfl; have := own_geI c29_tf; omega)]; omega) (hb hby d2_49) rfl (fun w49_tfft hw49_tfft => ?_)
          refine go_ldiv (pc' := 51) X0 hx (hb hby d2_50) rfl (by rw [hw49_tfft, own_sub18 j0 (by have k18 : (18 : Int32).toInt = 18 := rfl; have := own_geI c29_tf; omega)]; exact own_pnz _ (by have k18 : (18 : Int32).toInt = 18 := rfl; have := own_geI c29_tf; omega) (by omega)) ?_
          refine go_ldc2 (pc' := 54) X0 hx hZ hown (hw _ (List.mem_of_getElem? (i := 1) rfl)) (hb hby d2_51) rfl ?_
          refine go_lrem (pc' := 55) X0 hx (hb hby d2_54) rfl (by decide) ?_
          refine go_l2i (pc' := 56) X0 hx (hb hby d2_55) rfl ?_
          refine go_nameI (fun v10_56_tfft hv10_56_tfft => ?_)
          refine go_istore (pc' := 58) (L' := #[.val (.ref r0), .val (.int p1), .val (.int p2), .val (.int p3), .val (.int p4), .val (.int p5), .val (.long q6), .second, .val (.ref r7), .val (.int p1), .val (.int v10_56_tfft)]) X0 hx (hb hby d2_56) rfl rfl ?_
          refine go_aloadN (pc' := 59) X0 hx (hb hby d2_58) rfl rfl ?_
          refine go_iload (pc' := 61) X0 hx (hb hby d2_59) rfl rfl ?_
          refine go_bipush (pc' := 63) (v := 48) X0 hx (hb hby d2_61) rfl rfl ?_
          refine go_iload (pc' := 65) X0 hx (hb hby d2_63) rfl rfl ?_
          refine go_iadd (pc' := 66) X0 hx (hb hby d2_65) rfl ?_
          refine go_i2b (pc' := 67) X0 hx (hb hby d2_66) rfl ?_
          refine go_bastoreB (pc' := 68) X0 hx hZ A_r0 g_r0 b0 (by have k18 : (18 : Int32).toInt = 18 := rfl; have q1 := own_geI c23_t; have q2 := own_geI c29_tf; have u := (b2 (by omega) (by omega)).1; rw [if_neg c6] at u; omega) (hb hby d2_67) rfl (fun T1 h1 X1 W1 A_r0 => ?_)
          have A_r7 := A_r7.other W1 ne_r7_r0
          have zs := Nat.le_trans zs (Nat.le_of_eq W1.size.symm)
          have K := K.wr W1 (Or.inl (by simp))
          refine go_iload (pc' := 70) X1 hx (hb hby d2_68) rfl rfl ?_
          refine go_iconst (pc' := 71) (v := 1) X1 hx (hb hby d2_70) rfl rfl ?_
          refine go_iadd (pc' := 72) X1 hx (hb hby d2_71) rfl ?_
          refine go_nameI (fun v9_72_tfft hv9_72_tfft => ?_)
          refine go_istore (pc' := 74) (L' := #[.val (.ref r0), .val (.int p1), .val (.int p2), .val (.int p3), .val (.int p4), .val (.int p5), .val (.long q6), .second, .val (.ref r7), .val (.int v9_72_tfft), .val (.int v10_56_tfft)]) X1 hx (hb hby d2_72) rfl rfl ?_
          refine go_iload (pc' := 76) X1 hx (hb hby d2_74) rfl rfl ?_
          refine go_retI X1 hx hret hlk (hb hby d2_76) (by decide) (by decide) ?_
          have k18 : (18 : Int32).toInt = 18 := rfl
          have q23 := own_geI c23_t
          have q29 := own_geI c29_tf
          obtain ⟨u1, u2, u3, u4, u5, u6⟩ := b2 (by omega) (by omega)
          rw [if_neg c6] at u1 u2
          have ev : v9_72_tfft.toInt = p1.toInt + 1 := own_inc hv9_72_tfft (by omega)
          have eg : v10_56_tfft.toInt = DG := by rw [hv10_56_tfft]; exact own_l2i (by rw [hw49_tfft, own_sub18 j0 (by omega)]; exact u6 c33_tff) u3 u4
          refine ⟨K, ⟨_, A_r0, ?_⟩, by rw [if_neg c6, if_pos ⟨by omega, by omega⟩]; omega⟩
          rw [ev, own_chr eg u3 u4 (y := x p1.toInt) (by rw [Int.add_zero] at u2; omega)]
          exact own_agree hx0 rfl
        · refine go_iload (pc' := 38) X0 hx (hb hby d2_36) rfl rfl ?_
          refine go_goto (pc' := 56) X0 hx (hb hby d2_38) (by decide) (by decide) ?_
          refine go_istore (pc' := 58) (L' := #[.val (.ref r0), .val (.int p1), .val (.int p2), .val (.int p3), .val (.int p4), .val (.int p5), .val (.long q6), .second, .val (.ref r7), .val (.int p1), .val (.int p5)]) X0 hx (hb hby d2_56) rfl rfl ?_
          refine go_aloadN (pc' := 59) X0 hx (hb hby d2_58) rfl rfl ?_
          refine go_iload (pc' := 61) X0 hx (hb hby d2_59) rfl rfl ?_
          refine go_bipush (pc' := 63) (v := 48) X0 hx (hb hby d2_61) rfl rfl ?_
          refine go_iload (pc' := 65) X0 hx (hb hby d2_63) rfl rfl ?_
          refine go_iadd (pc' := 66) X0 hx (hb hby d2_65) rfl ?_
          refine go_i2b (pc' := 67) X0 hx (hb hby d2_66) rfl ?_
          refine go_bastoreB (pc' := 68) X0 hx hZ A_r0 g_r0 b0 (by have k18 : (18 : Int32).toInt = 18 := rfl; have q1 := own_geI c23_t; have q2 := own_geI c29_tf; have u := (b2 (by omega) (by omega)).1; rw [if_neg c6] at u; omega) (hb hby d2_67) rfl (fun T2 h2 X2 W2 A_r0 => ?_)
          have A_r7 := A_r7.other W2 ne_r7_r0
          have zs := Nat.le_trans zs (Nat.le_of_eq W2.size.symm)
          have K := K.wr W2 (Or.inl (by simp))
          refine go_iload (pc' := 70) X2 hx (hb hby d2_68) rfl rfl ?_
          refine go_iconst (pc' := 71) (v := 1) X2 hx (hb hby d2_70) rfl rfl ?_
          refine go_iadd (pc' := 72) X2 hx (hb hby d2_71) rfl ?_
          refine go_nameI (fun v9_72_tfff hv9_72_tfff => ?_)
          refine go_istore (pc' := 74) (L' := #[.val (.ref r0), .val (.int p1), .val (.int p2), .val (.int p3), .val (.int p4), .val (.int p5), .val (.long q6), .second, .val (.ref r7), .val (.int v9_72_tfff), .val (.int p5)]) X2 hx (hb hby d2_72) rfl rfl ?_
          refine go_iload (pc' := 76) X2 hx (hb hby d2_74) rfl rfl ?_
          refine go_retI X2 hx hret hlk (hb hby d2_76) (by decide) (by decide) ?_
          have k18 : (18 : Int32).toInt = 18 := rfl
          have q23 := own_geI c23_t
          have q29 := own_geI c29_tf
          obtain ⟨u1, u2, u3, u4, u5, u6⟩ := b2 (by omega) (by omega)
          rw [if_neg c6] at u1 u2
          have ev : v9_72_tfff.toInt = p1.toInt + 1 := own_inc hv9_72_tfff (by omega)
          have eg : p5.toInt = DG := u5 c33_tff
          refine ⟨K, ⟨_, A_r0, ?_⟩, by rw [if_neg c6, if_pos ⟨by omega, by omega⟩]; omega⟩
          rw [ev, own_chr eg u3 u4 (y := x p1.toInt) (by rw [Int.add_zero] at u2; omega)]
          exact own_agree hx0 rfl
  · refine go_aloadN (pc' := 10) X0 hx (hb hby d2_9) rfl rfl ?_
    refine go_iload (pc' := 12) X0 hx (hb hby d2_10) rfl rfl ?_
    refine go_bipush (pc' := 14) (v := 46) X0 hx (hb hby d2_12) rfl rfl ?_
    refine go_bastoreB (pc' := 15) X0 hx hZ A_r0 g_r0 b0 (b1 c6).1 (hb hby d2_14) rfl (fun T3 h3 X3 W3 A_r0 => ?_)
    have A_r7 := A_r7.other W3 ne_r7_r0
    have zs := Nat.le_trans zs (Nat.le_of_eq W3.size.symm)
    have K := K.wr W3 (Or.inl (by simp))
    refine go_iload (pc' := 17) X3 hx (hb hby d2_15) rfl rfl ?_
    refine go_iconst (pc' := 18) (v := 1) X3 hx (hb hby d2_17) rfl rfl ?_
    refine go_iadd (pc' := 19) X3 hx (hb hby d2_18) rfl ?_
    refine go_nameI (fun v9_19_f hv9_19_f => ?_)
    refine go_istore (pc' := 21) (L' := #[.val (.ref r0), .val (.int p1), .val (.int p2), .val (.int p3), .val (.int p4), .val (.int p5), .val (.long q6), .second, .val (.ref r7), .val (.int v9_19_f), .unset]) X3 hx (hb hby d2_19) rfl rfl ?_
    refine go_iloadN (pc' := 22) X3 hx (hb hby d2_21) rfl rfl ?_
    refine go_iloadN (pc' := 23) X3 hx (hb hby d2_22) rfl rfl ?_
    refine go_icmplt (pc' := 26) (pcT := 74) X3 hx (hb hby d2_23) rfl (by decide) (by decide) (fun c23_f => ?_) (fun c23_f => ?_)
    · refine go_iload (pc' := 76) X3 hx (hb hby d2_74) rfl rfl ?_
      refine go_retI X3 hx hret hlk (hb hby d2_76) (by decide) (by decide) ?_
      have k18 : (18 : Int32).toInt = 18 := rfl
      have q23 := own_ltI c23_f
      have ew : v9_19_f.toInt = p1.toInt + 1 := own_inc hv9_19_f (by have := (b1 c6).1; omega)
      refine ⟨K, ⟨_, A_r0, ?_⟩, by rw [if_pos c6, if_neg (fun w => by omega)]; omega⟩
      rw [ew]
      exact own_agree hx0 ((b1 c6).2)
    · refine go_iloadN (pc' := 27) X3 hx (hb hby d2_26) rfl rfl ?_
      refine go_bipush (pc' := 29) (v := 18) X3 hx (hb hby d2_27) rfl rfl ?_
      refine go_icmpgt (pc' := 32) (pcT := 74) X3 hx (hb hby d2_29) rfl (by decide) (by decide) (fun c29_ff => ?_) (fun c29_ff => ?_)
      · refine go_iload (pc' := 76) X3 hx (hb hby d2_74) rfl rfl ?_
        refine go_retI X3 hx hret hlk (hb hby d2_76) (by decide) (by decide) ?_
        have k18 : (18 : Int32).toInt = 18 := rfl
        have q23 := own_geI c23_f
        have q29 := own_ltI c29_ff
        have ew : v9_19_f.toInt = p1.toInt + 1 := own_inc hv9_19_f (by have := (b1 c6).1; omega)
        refine ⟨K, ⟨_, A_r0, ?_⟩, by rw [if_pos c6, if_neg (fun w => by omega)]; omega⟩
        rw [ew]
        exact own_agree hx0 ((b1 c6).2)
      · refine go_iloadN (pc' := 33) X3 hx (hb hby d2_32) rfl rfl ?_
        refine go_ifne (pc' := 36) (pcT := 41) X3 hx (hb hby d2_33) rfl (by decide) (by decide) (fun c33_fff => ?_) (fun c33_fff => ?_)
        · refine go_lload (pc' := 43) X3 hx (hb hby d2_41) rfl rfl ?_
          refine go_aload (pc' := 45) X3 hx (hb hby d2_43) rfl rfl ?_
          refine go_bipush (pc' := 47) (v := 18) X3 hx (hb hby d2_45) rfl rfl ?_
          refine go_iloadN (pc' := 48) X3 hx (hb hby d2_47) rfl rfl ?_
          refine go_isub (pc' := 49) X3 hx (hb hby d2_48) rfl ?_
          refine go_laload (pc' := 50) X3 hx hZ A_r7 (by rw [own_sub18 j0 (by have k18 : (18 : Int32).toInt = 18 := rfl; have := own_geI c29_ff; omega)]; have k18 : (18 : Int32).toInt = 18 := rfl; have := own_geI c29_ff; omega) (by rw [own_sub18 j0 (by have k18 : (18 : Int32).toInt = 18 := rfl; have := own_geI c29_ff; omega)]; omega) (hb hby d2_49) rfl (fun w49_ffft hw49_ffft => ?_)
          refine go_ldiv (pc' := 51) X3 hx (hb hby d2_50) rfl (by rw [hw49_ffft, own_sub18 j0 (by have k18 : (18 : Int32).toInt = 18 := rfl; have := own_geI c29_ff; omega)]; exact own_pnz _ (by have k18 : (18 : Int32).toInt = 18 := rfl; have := own_geI c29_ff; omega) (by omega)) ?_
          refine go_ldc2 (pc' := 54) X3 hx hZ hown (hw _ (List.mem_of_getElem? (i := 1) rfl)) (hb hby d2_51) rfl ?_
          refine go_lrem (pc' := 55) X3 hx (hb hby d2_54) rfl (by decide) ?_
          refine go_l2i (pc' := 56) X3 hx (hb hby d2_55) rfl ?_
          refine go_nameI (fun v10_56_ffft hv10_56_ffft => ?_)
          refine go_istore (pc' := 58) (L' := #[.val (.ref r0), .val (.int p1), .val (.int p2), .val (.int p3), .val (.int p4), .val (.int p5), .val (.long q6), .second, .val (.ref r7), .val (.int v9_19_f), .val (.int v10_56_ffft)]) X3 hx (hb hby d2_56) rfl rfl ?_
          refine go_aloadN (pc' := 59) X3 hx (hb hby d2_58) rfl rfl ?_
          refine go_iload (pc' := 61) X3 hx (hb hby d2_59) rfl rfl ?_
          refine go_bipush (pc' := 63) (v := 48) X3 hx (hb hby d2_61) rfl rfl ?_
          refine go_iload (pc' := 65) X3 hx (hb hby d2_63) rfl rfl ?_
          refine go_iadd (pc' := 66) X3 hx (hb hby d2_65) rfl ?_
          refine go_i2b (pc' := 67) X3 hx (hb hby d2_66) rfl ?_
          refine go_bastoreB (pc' := 68) X3 hx hZ A_r0 g_r0 (by have e := own_inc hv9_19_f (by have := (b1 c6).1; omega); omega) (by have e := own_inc hv9_19_f (by have := (b1 c6).1; omega); have k18 : (18 : Int32).toInt = 18 := rfl; have q1 := own_geI c23_f; have q2 := own_geI c29_ff; have u := (b2 (by omega) (by omega)).1; rw [if_pos c6] at u; omega) (hb hby d2_67) rfl (fun T4 h4 X4 W4 A_r0 => ?_)
          have A_r7 := A_r7.other W4 ne_r7_r0
          have zs := Nat.le_trans zs (Nat.le_of_eq W4.size.symm)
          have K := K.wr W4 (Or.inl (by simp))
          refine go_iload (pc' := 70) X4 hx (hb hby d2_68) rfl rfl ?_
          refine go_iconst (pc' := 71) (v := 1) X4 hx (hb hby d2_70) rfl rfl ?_
          refine go_iadd (pc' := 72) X4 hx (hb hby d2_71) rfl ?_
          refine go_nameI (fun v9_72_ffft hv9_72_ffft => ?_)
          refine go_istore (pc' := 74) (L' := #[.val (.ref r0), .val (.int p1), .val (.int p2), .val (.int p3), .val (.int p4), .val (.int p5), .val (.long q6), .second, .val (.ref r7), .val (.int v9_72_ffft), .val (.int v10_56_ffft)]) X4 hx (hb hby d2_72) rfl rfl ?_
          refine go_iload (pc' := 76) X4 hx (hb hby d2_74) rfl rfl ?_
          refine go_retI X4 hx hret hlk (hb hby d2_76) (by decide) (by decide) ?_
          have k18 : (18 : Int32).toInt = 18 := rfl
          have q23 := own_geI c23_f
          have q29 := own_geI c29_ff
          obtain ⟨u1, u2, u3, u4, u5, u6⟩ := b2 (by omega) (by omega)
          rw [if_pos c6] at u1 u2
          have ew : v9_19_f.toInt = p1.toInt + 1 := own_inc hv9_19_f (by omega)
          have ev : v9_72_ffft.toInt = v9_19_f.toInt + 1 := own_inc hv9_72_ffft (by omega)
          have eg : v10_56_ffft.toInt = DG := by rw [hv10_56_ffft]; exact own_l2i (by rw [hw49_ffft, own_sub18 j0 (by omega)]; exact u6 c33_fff) u3 u4
          refine ⟨K, ⟨_, A_r0, ?_⟩, by rw [if_pos c6, if_pos ⟨by omega, by omega⟩]; omega⟩
          rw [ev, own_chr eg u3 u4 (y := x (p1.toInt + 1)) (by omega)]
          rw [ew]
          refine own_agree ?_ rfl
          exact own_agree hx0 ((b1 c6).2)
        · refine go_iload (pc' := 38) X3 hx (hb hby d2_36) rfl rfl ?_
          refine go_goto (pc' := 56) X3 hx (hb hby d2_38) (by decide) (by decide) ?_
          refine go_istore (pc' := 58) (L' := #[.val (.ref r0), .val (.int p1), .val (.int p2), .val (.int p3), .val (.int p4), .val (.int p5), .val (.long q6), .second, .val (.ref r7), .val (.int v9_19_f), .val (.int p5)]) X3 hx (hb hby d2_56) rfl rfl ?_
          refine go_aloadN (pc' := 59) X3 hx (hb hby d2_58) rfl rfl ?_
          refine go_iload (pc' := 61) X3 hx (hb hby d2_59) rfl rfl ?_
          refine go_bipush (pc' := 63) (v := 48) X3 hx (hb hby d2_61) rfl rfl ?_
          refine go_iload (pc' := 65) X3 hx (hb hby d2_63) rfl rfl ?_
          refine go_iadd (pc' := 66) X3 hx (hb hby d2_65) rfl ?_
          refine go_i2b (pc' := 67) X3 hx (hb hby d2_66) rfl ?_
          refine go_bastoreB (pc' := 68) X3 hx hZ A_r0 g_r0 (by have e := own_inc hv9_19_f (by have := (b1 c6).1; omega); omega) (by have e := own_inc hv9_19_f (by have := (b1 c6).1; omega); have k18 : (18 : Int32).toInt = 18 := rfl; have q1 := own_geI c23_f; have q2 := own_geI c29_ff; have u := (b2 (by omega) (by omega)).1; rw [if_pos c6] at u; omega) (hb hby d2_67) rfl (fun T5 h5 X5 W5 A_r0 => ?_)
          have A_r7 := A_r7.other W5 ne_r7_r0
          have zs := Nat.le_trans zs (Nat.le_of_eq W5.size.symm)
          have K := K.wr W5 (Or.inl (by simp))
          refine go_iload (pc' := 70) X5 hx (hb hby d2_68) rfl rfl ?_
          refine go_iconst (pc' := 71) (v := 1) X5 hx (hb hby d2_70) rfl rfl ?_
          refine go_iadd (pc' := 72) X5 hx (hb hby d2_71) rfl ?_
          refine go_nameI (fun v9_72_ffff hv9_72_ffff => ?_)
          refine go_istore (pc' := 74) (L' := #[.val (.ref r0), .val (.int p1), .val (.int p2), .val (.int p3), .val (.int p4), .val (.int p5), .val (.long q6), .second, .val (.ref r7), .val (.int v9_72_ffff), .val (.int p5)]) X5 hx (hb hby d2_72) rfl rfl ?_
          refine go_iload (pc' := 76) X5 hx (hb hby d2_74) rfl rfl ?_
          refine go_retI X5 hx hret hlk (hb hby d2_76) (by decide) (by decide) ?_
          have k18 : (18 : Int32).toInt = 18 := rfl
          have q23 := own_geI c23_f
          have q29 := own_geI c29_ff
          obtain ⟨u1, u2, u3, u4, u5, u6⟩ := b2 (by omega) (by omega)
          rw [if_pos c6] at u1 u2
          have ew : v9_19_f.toInt = p1.toInt + 1 := own_inc hv9_19_f (by omega)
          have ev : v9_72_ffff.toInt = v9_19_f.toInt + 1 := own_inc hv9_72_ffff (by omega)
          have eg : p5.toInt = DG := u5 c33_fff
          refine ⟨K, ⟨_, A_r0, ?_⟩, by rw [if_pos c6, if_pos ⟨by omega, by omega⟩]; omega⟩
          rw [ev, own_chr eg u3 u4 (y := x (p1.toInt + 1)) (by omega)]
          rw [ew]
          refine own_agree ?_ rfl
          exact own_agree hx0 ((b1 c6).2)
theorem d10_0 : decode jdk_29_method_66_code 0 = .ok (.lload_n 0, 1) := by decide +kernel
theorem d10_1 : decode jdk_29_method_66_code 1 = .ok (.lload_n 2, 1) := by decide +kernel
theorem d10_2 : decode jdk_29_method_66_code 2 = .ok (.lcmp, 1) := by decide +kernel
theorem d10_3 : decode jdk_29_method_66_code 3 = .ok (.ifCond .lt 7, 3) := by decide +kernel
theorem d10_6 : decode jdk_29_method_66_code 6 = .ok (.lload_n 0, 1) := by decide +kernel
theorem d10_7 : decode jdk_29_method_66_code 7 = .ok (.goto 4, 3) := by decide +kernel
theorem d10_10 : decode jdk_29_method_66_code 10 = .ok (.lload_n 2, 1) := by decide +kernel
theorem d10_11 : decode jdk_29_method_66_code 11 = .ok (.lreturn, 1) := by decide +kernel
theorem ef_10 (m : MethodId) (q0 : Int64) (q1 : Int64) : entryFrame m #[.long q0, .long q1] 4 = mkF m 0 #[.val (.long q0), .second, .val (.long q1), .second] [] := by first | (simp [entryFrame, mkF, argsToLocals, Value.category]; done) | rfl
set_option maxRecDepth 65536 in
set_option maxHeartbeats 40000000 in
theorem ct_10 (l : Launch) (Z : State) (a0 : Array Value) (hw : ∀ d ∈ tables_1, d.before a0 Z = true) {h0 : Heap} {n0 : Nat} (zs : n0 ≤ h0.size) (q0 : Int64) (q1 : Int64)  :
    CtK l Z (⟨"java/lang/Math", "max", "(JJ)J"⟩ : MethodName) jdk_29_method_66_code 4 (some .long) ({ frames := 0, cells := 0, slots := 0, locals := 0 } : Room) #[.long q0, .long q1] h0 n0 (QJ (fun z h => z = (if q0 < q1 then q1 else q0) ∧ h = h0)) := by
  refine CtK.of (Jvm.Free.JP.mathPlain rfl (by decide +kernel)) ?_
  intro p e s m below meth c T0 X0 hx hZ hby hml hown hnm hret hlk
  refine GoK.entry (ef_10 m q0 q1) ?_
  replace hown : s.vm.findClass "java/lang/Math" = some m.cls := hown
  refine go_lloadN (pc' := 1) X0 hx (hb hby d10_0) rfl rfl ?_
  refine go_lloadN (pc' := 2) X0 hx (hb hby d10_1) rfl rfl ?_
  refine go_liflt (pc1 := 3) (pc' := 6) (pcT := 10) X0 hx (hb hby d10_2) rfl (hb hby d10_3) rfl (by decide) (by decide) (fun c3 => ?_) (fun c3 => ?_)
  · refine go_lloadN (pc' := 11) X0 hx (hb hby d10_10) rfl rfl ?_
    refine go_retJ X0 hx hret hlk (hb hby d10_11) (by decide) (by decide) ?_
    exact ⟨(if_pos c3).symm, rfl⟩
  · refine go_lloadN (pc' := 7) X0 hx (hb hby d10_6) rfl rfl ?_
    refine go_goto (pc' := 11) X0 hx (hb hby d10_7) (by decide) (by decide) ?_
    refine go_retJ X0 hx hret hlk (hb hby d10_11) (by decide) (by decide) ?_
    exact ⟨(if_neg c3).symm, rfl⟩
theorem d12_0 : decode jdk_29_method_70_code 0 = .ok (.lload_n 0, 1) := by decide +kernel
theorem d12_1 : decode jdk_29_method_70_code 1 = .ok (.lload_n 2, 1) := by decide +kernel
theorem d12_2 : decode jdk_29_method_70_code 2 = .ok (.lcmp, 1) := by decide +kernel
theorem d12_3 : decode jdk_29_method_70_code 3 = .ok (.ifCond .gt 7, 3) := by decide +kernel
theorem d12_6 : decode jdk_29_method_70_code 6 = .ok (.lload_n 0, 1) := by decide +kernel
theorem d12_7 : decode jdk_29_method_70_code 7 = .ok (.goto 4, 3) := by decide +kernel
theorem d12_10 : decode jdk_29_method_70_code 10 = .ok (.lload_n 2, 1) := by decide +kernel
theorem d12_11 : decode jdk_29_method_70_code 11 = .ok (.lreturn, 1) := by decide +kernel
theorem ef_12 (m : MethodId) (q0 : Int64) (q1 : Int64) : entryFrame m #[.long q0, .long q1] 4 = mkF m 0 #[.val (.long q0), .second, .val (.long q1), .second] [] := by first | (simp [entryFrame, mkF, argsToLocals, Value.category]; done) | rfl
set_option maxRecDepth 65536 in
set_option maxHeartbeats 40000000 in
theorem ct_12 (l : Launch) (Z : State) (a0 : Array Value) (hw : ∀ d ∈ tables_1, d.before a0 Z = true) {h0 : Heap} {n0 : Nat} (zs : n0 ≤ h0.size) (q0 : Int64) (q1 : Int64)  :
    CtK l Z (⟨"java/lang/Math", "min", "(JJ)J"⟩ : MethodName) jdk_29_method_70_code 4 (some .long) ({ frames := 0, cells := 0, slots := 0, locals := 0 } : Room) #[.long q0, .long q1] h0 n0 (QJ (fun z h => z = (if q1 < q0 then q1 else q0) ∧ h = h0)) := by
  refine CtK.of (Jvm.Free.JP.mathPlain rfl (by decide +kernel)) ?_
  intro p e s m below meth c T0 X0 hx hZ hby hml hown hnm hret hlk
  refine GoK.entry (ef_12 m q0 q1) ?_
  replace hown : s.vm.findClass "java/lang/Math" = some m.cls := hown
  refine go_lloadN (pc' := 1) X0 hx (hb hby d12_0) rfl rfl ?_
  refine go_lloadN (pc' := 2) X0 hx (hb hby d12_1) rfl rfl ?_
  refine go_lifgt (pc1 := 3) (pc' := 6) (pcT := 10) X0 hx (hb hby d12_2) rfl (hb hby d12_3) rfl (by decide) (by decide) (fun c3 => ?_) (fun c3 => ?_)
  · refine go_lloadN (pc' := 11) X0 hx (hb hby d12_10) rfl rfl ?_
    refine go_retJ X0 hx hret hlk (hb hby d12_11) (by decide) (by decide) ?_
    exact ⟨(if_pos c3).symm, rfl⟩
  · refine go_lloadN (pc' := 7) X0 hx (hb hby d12_6) rfl rfl ?_
    refine go_goto (pc' := 11) X0 hx (hb hby d12_7) (by decide) (by decide) ?_
    refine go_retJ X0 hx hret hlk (hb hby d12_11) (by decide) (by decide) ?_
    exact ⟨(if_neg c3).symm, rfl⟩
theorem d9_0 : decode jdk_29_method_61_code 0 = .ok (.lload_n 0, 1) := by decide +kernel
theorem d9_1 : decode jdk_29_method_61_code 1 = .ok (.lconst 0, 1) := by decide +kernel
theorem d9_2 : decode jdk_29_method_61_code 2 = .ok (.lcmp, 1) := by decide +kernel
theorem d9_3 : decode jdk_29_method_61_code 3 = .ok (.ifCond .ge 8, 3) := by decide +kernel
theorem d9_6 : decode jdk_29_method_61_code 6 = .ok (.lload_n 0, 1) := by decide +kernel
theorem d9_7 : decode jdk_29_method_61_code 7 = .ok (.lneg, 1) := by decide +kernel
theorem d9_8 : decode jdk_29_method_61_code 8 = .ok (.goto 4, 3) := by decide +kernel
theorem d9_11 : decode jdk_29_method_61_code 11 = .ok (.lload_n 0, 1) := by decide +kernel
theorem d9_12 : decode jdk_29_method_61_code 12 = .ok (.lreturn, 1) := by decide +kernel
theorem ef_9 (m : MethodId) (q0 : Int64) : entryFrame m #[.long q0] 2 = mkF m 0 #[.val (.long q0), .second] [] := by first | (simp [entryFrame, mkF, argsToLocals, Value.category]; done) | rfl
set_option maxRecDepth 65536 in
set_option maxHeartbeats 40000000 in
theorem ct_9 (l : Launch) (Z : State) (a0 : Array Value) (hw : ∀ d ∈ tables_1, d.before a0 Z = true) {h0 : Heap} {n0 : Nat} (zs : n0 ≤ h0.size) (q0 : Int64)  :
    CtK l Z (⟨"java/lang/Math", "abs", "(J)J"⟩ : MethodName) jdk_29_method_61_code 2 (some .long) ({ frames := 0, cells := 0, slots := 0, locals := 0 } : Room) #[.long q0] h0 n0 (QJ (fun z h => True ∧ h = h0)) := by
  refine CtK.of (Jvm.Free.JP.mathPlain rfl (by decide +kernel)) ?_
  intro p e s m below meth c T0 X0 hx hZ hby hml hown hnm hret hlk
  refine GoK.entry (ef_9 m q0) ?_
  replace hown : s.vm.findClass "java/lang/Math" = some m.cls := hown
  refine go_lloadN (pc' := 1) X0 hx (hb hby d9_0) rfl rfl ?_
  refine go_lconst (pc' := 2) (v := 0) X0 hx (hb hby d9_1) rfl rfl ?_
  refine go_lifge (pc1 := 3) (pc' := 6) (pcT := 11) X0 hx (hb hby d9_2) rfl (hb hby d9_3) rfl (by decide) (by decide) (fun c3 => ?_) (fun c3 => ?_)
  · refine go_lloadN (pc' := 12) X0 hx (hb hby d9_11) rfl rfl ?_
    refine go_retJ X0 hx hret hlk (hb hby d9_12) (by decide) (by decide) ?_
    exact ⟨trivial, rfl⟩
  · refine go_lloadN (pc' := 7) X0 hx (hb hby d9_6) rfl rfl ?_
    refine go_lneg (pc' := 8) X0 hx (hb hby d9_7) rfl ?_
    refine go_goto (pc' := 12) X0 hx (hb hby d9_8) (by decide) (by decide) ?_
    refine go_retJ X0 hx hret hlk (hb hby d9_12) (by decide) (by decide) ?_
    exact ⟨trivial, rfl⟩
theorem d3_0 : decode prog_139_method_1_code 0 = .ok (.aload_n 0, 1) := by decide +kernel
theorem d3_1 : decode prog_139_method_1_code 1 = .ok (.invokespecial 3, 3) := by decide +kernel
theorem d3_4 : decode prog_139_method_1_code 4 = .ok (.return_, 1) := by decide +kernel
theorem pn_3 : plainName "com/example/tracefold/tracefold/trace/DecimalText" = true := by first | (simp [plainName, overriddenIn]; done) | decide +kernel
theorem ef_3 (m : MethodId) (r0 : Addr) : entryFrame m #[.ref r0] 1 = mkF m 0 #[.val (.ref r0)] [] := by first | (simp [entryFrame, mkF, argsToLocals, Value.category]; done) | rfl
set_option maxRecDepth 65536 in
set_option maxHeartbeats 40000000 in
theorem ct_3 (l : Launch) (Z : State) (a0 : Array Value) (hw : ∀ d ∈ tables_1, d.before a0 Z = true) {h0 : Heap} {n0 : Nat} (zs : n0 ≤ h0.size) (r0 : Addr)  :
    CtK l Z (⟨"com/example/tracefold/tracefold/trace/DecimalText", "<init>", "()V"⟩ : MethodName) prog_139_method_1_code 1 none ({ frames := 1, cells := 0, slots := 0, locals := 12 } : Room) #[.ref r0] h0 n0 (QV (fun h => h = h0)) := by
  refine CtK.of (plainFor_of_name pn_3) ?_
  intro p e s m below meth c T0 X0 hx hZ hby hml hown hnm hret hlk
  refine GoK.entry (ef_3 m r0) ?_
  replace hown : s.vm.findClass "com/example/tracefold/tracefold/trace/DecimalText" = some m.cls := hown
  refine go_aloadN (pc' := 1) X0 hx (hb hby d3_0) rfl rfl ?_
  refine go_initO (pc' := 4) (W := 0) X0 hx hZ hown (by rw [hml]; rfl) (hw _ (List.mem_of_getElem? (i := 34) rfl)) (hw _ (List.mem_of_getElem? (i := 35) rfl)) (hw _ (List.mem_of_getElem? (i := 36) rfl)) (hb hby d3_1) rfl (by decide) (Nat.le_of_eq rfl) (by decide) (fun T1 X1 => ?_)
  refine go_retV X1 hx hret hlk (hb hby d3_4) (by decide) (by decide) ?_
  exact rfl
theorem d5_0 : decode prog_139_method_2_code 0 = .ok (.iload_n 2, 1) := by decide +kernel
theorem d5_1 : decode prog_139_method_2_code 1 = .ok (.istore 4, 2) := by decide +kernel
theorem d5_3 : decode prog_139_method_2_code 3 = .ok (.iconst 1, 1) := by decide +kernel
theorem d5_4 : decode prog_139_method_2_code 4 = .ok (.istore 5, 2) := by decide +kernel
theorem d5_6 : decode prog_139_method_2_code 6 = .ok (.iload 4, 2) := by decide +kernel
theorem d5_8 : decode prog_139_method_2_code 8 = .ok (.iload_n 3, 1) := by decide +kernel
theorem d5_9 : decode prog_139_method_2_code 9 = .ok (.if_icmp .ge 40, 3) := by decide +kernel
theorem d5_12 : decode prog_139_method_2_code 12 = .ok (.aload_n 1, 1) := by decide +kernel
theorem d5_13 : decode prog_139_method_2_code 13 = .ok (.iload 4, 2) := by decide +kernel
theorem d5_15 : decode prog_139_method_2_code 15 = .ok (.baload, 1) := by decide +kernel
theorem d5_16 : decode prog_139_method_2_code 16 = .ok (.bipush 43, 2) := by decide +kernel
theorem d5_18 : decode prog_139_method_2_code 18 = .ok (.if_icmp .eq 12, 3) := by decide +kernel
theorem d5_21 : decode prog_139_method_2_code 21 = .ok (.aload_n 1, 1) := by decide +kernel
theorem d5_22 : decode prog_139_method_2_code 22 = .ok (.iload 4, 2) := by decide +kernel
theorem d5_24 : decode prog_139_method_2_code 24 = .ok (.baload, 1) := by decide +kernel
theorem d5_25 : decode prog_139_method_2_code 25 = .ok (.bipush 45, 2) := by decide +kernel
theorem d5_27 : decode prog_139_method_2_code 27 = .ok (.if_icmp .ne 22, 3) := by decide +kernel
theorem d5_30 : decode prog_139_method_2_code 30 = .ok (.aload_n 1, 1) := by decide +kernel
theorem d5_31 : decode prog_139_method_2_code 31 = .ok (.iload 4, 2) := by decide +kernel
theorem d5_33 : decode prog_139_method_2_code 33 = .ok (.baload, 1) := by decide +kernel
theorem d5_34 : decode prog_139_method_2_code 34 = .ok (.bipush 45, 2) := by decide +kernel
theorem d5_36 : decode prog_139_method_2_code 36 = .ok (.if_icmp .ne 7, 3) := by decide +kernel
theorem d5_39 : decode prog_139_method_2_code 39 = .ok (.iconst (-1), 1) := by decide +kernel
theorem d5_40 : decode prog_139_method_2_code 40 = .ok (.goto 4, 3) := by decide +kernel
theorem d5_43 : decode prog_139_method_2_code 43 = .ok (.iconst 1, 1) := by decide +kernel
theorem d5_44 : decode prog_139_method_2_code 44 = .ok (.istore 5, 2) := by decide +kernel
theorem d5_46 : decode prog_139_method_2_code 46 = .ok (.iinc 4 1, 3) := by decide +kernel
theorem d5_49 : decode prog_139_method_2_code 49 = .ok (.iload 4, 2) := by decide +kernel
theorem d5_51 : decode prog_139_method_2_code 51 = .ok (.istore 6, 2) := by decide +kernel
theorem d5_53 : decode prog_139_method_2_code 53 = .ok (.aload_n 1, 1) := by decide +kernel
theorem d5_54 : decode prog_139_method_2_code 54 = .ok (.iload 4, 2) := by decide +kernel
theorem d5_56 : decode prog_139_method_2_code 56 = .ok (.iload_n 3, 1) := by decide +kernel
theorem d5_57 : decode prog_139_method_2_code 57 = .ok (.invokestatic 9, 3) := by decide +kernel
theorem d5_60 : decode prog_139_method_2_code 60 = .ok (.istore 4, 2) := by decide +kernel
theorem d5_62 : decode prog_139_method_2_code 62 = .ok (.iload 4, 2) := by decide +kernel
theorem d5_64 : decode prog_139_method_2_code 64 = .ok (.istore 7, 2) := by decide +kernel
theorem d5_66 : decode prog_139_method_2_code 66 = .ok (.iload 4, 2) := by decide +kernel
theorem d5_68 : decode prog_139_method_2_code 68 = .ok (.istore 8, 2) := by decide +kernel
theorem d5_70 : decode prog_139_method_2_code 70 = .ok (.iconst (-1), 1) := by decide +kernel
theorem d5_71 : decode prog_139_method_2_code 71 = .ok (.istore 9, 2) := by decide +kernel
theorem d5_73 : decode prog_139_method_2_code 73 = .ok (.iload 4, 2) := by decide +kernel
theorem d5_75 : decode prog_139_method_2_code 75 = .ok (.iload_n 3, 1) := by decide +kernel
theorem d5_76 : decode prog_139_method_2_code 76 = .ok (.if_icmp .ge 31, 3) := by decide +kernel
theorem d5_79 : decode prog_139_method_2_code 79 = .ok (.aload_n 1, 1) := by decide +kernel
theorem d5_80 : decode prog_139_method_2_code 80 = .ok (.iload 4, 2) := by decide +kernel
theorem d5_82 : decode prog_139_method_2_code 82 = .ok (.baload, 1) := by decide +kernel
theorem d5_83 : decode prog_139_method_2_code 83 = .ok (.bipush 46, 2) := by decide +kernel
theorem d5_85 : decode prog_139_method_2_code 85 = .ok (.if_icmp .ne 22, 3) := by decide +kernel
theorem d5_88 : decode prog_139_method_2_code 88 = .ok (.iload 4, 2) := by decide +kernel
theorem d5_90 : decode prog_139_method_2_code 90 = .ok (.istore 9, 2) := by decide +kernel
theorem d5_92 : decode prog_139_method_2_code 92 = .ok (.iload 4, 2) := by decide +kernel
theorem d5_94 : decode prog_139_method_2_code 94 = .ok (.iconst 1, 1) := by decide +kernel
theorem d5_95 : decode prog_139_method_2_code 95 = .ok (.iadd, 1) := by decide +kernel
theorem d5_96 : decode prog_139_method_2_code 96 = .ok (.istore 8, 2) := by decide +kernel
theorem d5_98 : decode prog_139_method_2_code 98 = .ok (.aload_n 1, 1) := by decide +kernel
theorem d5_99 : decode prog_139_method_2_code 99 = .ok (.iload 8, 2) := by decide +kernel
theorem d5_101 : decode prog_139_method_2_code 101 = .ok (.iload_n 3, 1) := by decide +kernel
theorem d5_102 : decode prog_139_method_2_code 102 = .ok (.invokestatic 9, 3) := by decide +kernel
theorem d5_105 : decode prog_139_method_2_code 105 = .ok (.istore 4, 2) := by decide +kernel
theorem d5_107 : decode prog_139_method_2_code 107 = .ok (.iload 4, 2) := by decide +kernel
theorem d5_109 : decode prog_139_method_2_code 109 = .ok (.istore 10, 2) := by decide +kernel
theorem d5_111 : decode prog_139_method_2_code 111 = .ok (.iload 7, 2) := by decide +kernel
theorem d5_113 : decode prog_139_method_2_code 113 = .ok (.iload 6, 2) := by decide +kernel
theorem d5_115 : decode prog_139_method_2_code 115 = .ok (.if_icmp .ne 12, 3) := by decide +kernel
theorem d5_118 : decode prog_139_method_2_code 118 = .ok (.iload 10, 2) := by decide +kernel
theorem d5_120 : decode prog_139_method_2_code 120 = .ok (.iload 8, 2) := by decide +kernel
theorem d5_122 : decode prog_139_method_2_code 122 = .ok (.if_icmp .ne 5, 3) := by decide +kernel
theorem d5_125 : decode prog_139_method_2_code 125 = .ok (.iconst 0, 1) := by decide +kernel
theorem d5_126 : decode prog_139_method_2_code 126 = .ok (.ireturn, 1) := by decide +kernel
theorem d5_127 : decode prog_139_method_2_code 127 = .ok (.lconst 0, 1) := by decide +kernel
theorem d5_128 : decode prog_139_method_2_code 128 = .ok (.lstore 11, 2) := by decide +kernel
theorem d5_130 : decode prog_139_method_2_code 130 = .ok (.iload 4, 2) := by decide +kernel
theorem d5_132 : decode prog_139_method_2_code 132 = .ok (.iload_n 3, 1) := by decide +kernel
theorem d5_133 : decode prog_139_method_2_code 133 = .ok (.if_icmp .ge 146, 3) := by decide +kernel
theorem d5_136 : decode prog_139_method_2_code 136 = .ok (.aload_n 1, 1) := by decide +kernel
theorem d5_137 : decode prog_139_method_2_code 137 = .ok (.iload 4, 2) := by decide +kernel
theorem d5_139 : decode prog_139_method_2_code 139 = .ok (.baload, 1) := by decide +kernel
theorem d5_140 : decode prog_139_method_2_code 140 = .ok (.bipush 101, 2) := by decide +kernel
theorem d5_142 : decode prog_139_method_2_code 142 = .ok (.if_icmp .eq 12, 3) := by decide +kernel
theorem d5_145 : decode prog_139_method_2_code 145 = .ok (.aload_n 1, 1) := by decide +kernel
theorem d5_146 : decode prog_139_method_2_code 146 = .ok (.iload 4, 2) := by decide +kernel
theorem d5_148 : decode prog_139_method_2_code 148 = .ok (.baload, 1) := by decide +kernel
theorem d5_149 : decode prog_139_method_2_code 149 = .ok (.bipush 69, 2) := by decide +kernel
theorem d5_151 : decode prog_139_method_2_code 151 = .ok (.if_icmp .ne 128, 3) := by decide +kernel
theorem d5_154 : decode prog_139_method_2_code 154 = .ok (.iinc 4 1, 3) := by decide +kernel
theorem d5_157 : decode prog_139_method_2_code 157 = .ok (.iload 4, 2) := by decide +kernel
theorem d5_159 : decode prog_139_method_2_code 159 = .ok (.iload_n 3, 1) := by decide +kernel
theorem d5_160 : decode prog_139_method_2_code 160 = .ok (.if_icmp .ge 16, 3) := by decide +kernel
theorem d5_163 : decode prog_139_method_2_code 163 = .ok (.aload_n 1, 1) := by decide +kernel
theorem d5_164 : decode prog_139_method_2_code 164 = .ok (.iload 4, 2) := by decide +kernel
theorem d5_166 : decode prog_139_method_2_code 166 = .ok (.baload, 1) := by decide +kernel
theorem d5_167 : decode prog_139_method_2_code 167 = .ok (.bipush 45, 2) := by decide +kernel
theorem d5_169 : decode prog_139_method_2_code 169 = .ok (.if_icmp .ne 7, 3) := by decide +kernel
theorem d5_172 : decode prog_139_method_2_code 172 = .ok (.iconst 1, 1) := by decide +kernel
theorem d5_173 : decode prog_139_method_2_code 173 = .ok (.goto 4, 3) := by decide +kernel
theorem d5_176 : decode prog_139_method_2_code 176 = .ok (.iconst 0, 1) := by decide +kernel
theorem d5_177 : decode prog_139_method_2_code 177 = .ok (.istore 13, 2) := by decide +kernel
theorem d5_179 : decode prog_139_method_2_code 179 = .ok (.iload 4, 2) := by decide +kernel
theorem d5_181 : decode prog_139_method_2_code 181 = .ok (.iload_n 3, 1) := by decide +kernel
theorem d5_182 : decode prog_139_method_2_code 182 = .ok (.if_icmp .ge 24, 3) := by decide +kernel
theorem d5_185 : decode prog_139_method_2_code 185 = .ok (.aload_n 1, 1) := by decide +kernel
theorem d5_186 : decode prog_139_method_2_code 186 = .ok (.iload 4, 2) := by decide +kernel
theorem d5_188 : decode prog_139_method_2_code 188 = .ok (.baload, 1) := by decide +kernel
theorem d5_189 : decode prog_139_method_2_code 189 = .ok (.bipush 43, 2) := by decide +kernel
theorem d5_191 : decode prog_139_method_2_code 191 = .ok (.if_icmp .eq 12, 3) := by decide +kernel
theorem d5_194 : decode prog_139_method_2_code 194 = .ok (.aload_n 1, 1) := by decide +kernel
theorem d5_195 : decode prog_139_method_2_code 195 = .ok (.iload 4, 2) := by decide +kernel
theorem d5_197 : decode prog_139_method_2_code 197 = .ok (.baload, 1) := by decide +kernel
theorem d5_198 : decode prog_139_method_2_code 198 = .ok (.bipush 45, 2) := by decide +kernel
theorem d5_200 : decode prog_139_method_2_code 200 = .ok (.if_icmp .ne 6, 3) := by decide +kernel
theorem d5_203 : decode prog_139_method_2_code 203 = .ok (.iinc 4 1, 3) := by decide +kernel
theorem d5_206 : decode prog_139_method_2_code 206 = .ok (.iload 4, 2) := by decide +kernel
theorem d5_208 : decode prog_139_method_2_code 208 = .ok (.istore 14, 2) := by decide +kernel
theorem d5_210 : decode prog_139_method_2_code 210 = .ok (.iload 4, 2) := by decide +kernel
theorem d5_212 : decode prog_139_method_2_code 212 = .ok (.iload_n 3, 1) := by decide +kernel
theorem d5_213 : decode prog_139_method_2_code 213 = .ok (.if_icmp .ge 42, 3) := by decide +kernel
theorem d5_216 : decode prog_139_method_2_code 216 = .ok (.aload_n 1, 1) := by decide +kernel
theorem d5_217 : decode prog_139_method_2_code 217 = .ok (.iload 4, 2) := by decide +kernel
theorem d5_219 : decode prog_139_method_2_code 219 = .ok (.baload, 1) := by decide +kernel
theorem d5_220 : decode prog_139_method_2_code 220 = .ok (.invokestatic 15, 3) := by decide +kernel
theorem d5_223 : decode prog_139_method_2_code 223 = .ok (.ifCond .eq 32, 3) := by decide +kernel
theorem d5_226 : decode prog_139_method_2_code 226 = .ok (.ldc2_w 19, 3) := by decide +kernel
theorem d5_229 : decode prog_139_method_2_code 229 = .ok (.lload 11, 2) := by decide +kernel
theorem d5_231 : decode prog_139_method_2_code 231 = .ok (.ldc2_w 21, 3) := by decide +kernel
theorem d5_234 : decode prog_139_method_2_code 234 = .ok (.lmul, 1) := by decide +kernel
theorem d5_235 : decode prog_139_method_2_code 235 = .ok (.aload_n 1, 1) := by decide +kernel
theorem d5_236 : decode prog_139_method_2_code 236 = .ok (.iload 4, 2) := by decide +kernel
theorem d5_238 : decode prog_139_method_2_code 238 = .ok (.baload, 1) := by decide +kernel
theorem d5_239 : decode prog_139_method_2_code 239 = .ok (.bipush 48, 2) := by decide +kernel
theorem d5_241 : decode prog_139_method_2_code 241 = .ok (.isub, 1) := by decide +kernel
theorem d5_242 : decode prog_139_method_2_code 242 = .ok (.i2l, 1) := by decide +kernel
theorem d5_243 : decode prog_139_method_2_code 243 = .ok (.ladd, 1) := by decide +kernel
theorem d5_244 : decode prog_139_method_2_code 244 = .ok (.invokestatic 23, 3) := by decide +kernel
theorem d5_247 : decode prog_139_method_2_code 247 = .ok (.lstore 11, 2) := by decide +kernel
theorem d5_249 : decode prog_139_method_2_code 249 = .ok (.iinc 4 1, 3) := by decide +kernel
theorem d5_252 : decode prog_139_method_2_code 252 = .ok (.goto (-42), 3) := by decide +kernel
theorem d5_255 : decode prog_139_method_2_code 255 = .ok (.iload 4, 2) := by decide +kernel
theorem d5_257 : decode prog_139_method_2_code 257 = .ok (.iload 14, 2) := by decide +kernel
theorem d5_259 : decode prog_139_method_2_code 259 = .ok (.if_icmp .ne 5, 3) := by decide +kernel
theorem d5_264 : decode prog_139_method_2_code 264 = .ok (.iload 13, 2) := by decide +kernel
theorem d5_266 : decode prog_139_method_2_code 266 = .ok (.ifCond .eq 9, 3) := by decide +kernel
theorem d5_269 : decode prog_139_method_2_code 269 = .ok (.lload 11, 2) := by decide +kernel
theorem d5_271 : decode prog_139_method_2_code 271 = .ok (.lneg, 1) := by decide +kernel
theorem d5_272 : decode prog_139_method_2_code 272 = .ok (.goto 5, 3) := by decide +kernel
theorem d5_275 : decode prog_139_method_2_code 275 = .ok (.lload 11, 2) := by decide +kernel
theorem d5_277 : decode prog_139_method_2_code 277 = .ok (.lstore 11, 2) := by decide +kernel
theorem d5_279 : decode prog_139_method_2_code 279 = .ok (.iload 4, 2) := by decide +kernel
theorem d5_281 : decode prog_139_method_2_code 281 = .ok (.iload_n 3, 1) := by decide +kernel
theorem d5_282 : decode prog_139_method_2_code 282 = .ok (.if_icmp .eq 5, 3) := by decide +kernel
theorem d5_287 : decode prog_139_method_2_code 287 = .ok (.aload_n 1, 1) := by decide +kernel
theorem d5_288 : decode prog_139_method_2_code 288 = .ok (.iload 6, 2) := by decide +kernel
theorem d5_290 : decode prog_139_method_2_code 290 = .ok (.iload 7, 2) := by decide +kernel
theorem d5_292 : decode prog_139_method_2_code 292 = .ok (.invokestatic 29, 3) := by decide +kernel
theorem d5_295 : decode prog_139_method_2_code 295 = .ok (.istore 13, 2) := by decide +kernel
theorem d5_297 : decode prog_139_method_2_code 297 = .ok (.lload 11, 2) := by decide +kernel
theorem d5_299 : decode prog_139_method_2_code 299 = .ok (.iload 7, 2) := by decide +kernel
theorem d5_301 : decode prog_139_method_2_code 301 = .ok (.iload 13, 2) := by decide +kernel
theorem d5_303 : decode prog_139_method_2_code 303 = .ok (.isub, 1) := by decide +kernel
theorem d5_304 : decode prog_139_method_2_code 304 = .ok (.i2l, 1) := by decide +kernel
theorem d5_305 : decode prog_139_method_2_code 305 = .ok (.ladd, 1) := by decide +kernel
theorem d5_306 : decode prog_139_method_2_code 306 = .ok (.lstore 14, 2) := by decide +kernel
theorem d5_308 : decode prog_139_method_2_code 308 = .ok (.iload 13, 2) := by decide +kernel
theorem d5_310 : decode prog_139_method_2_code 310 = .ok (.iload 7, 2) := by decide +kernel
theorem d5_312 : decode prog_139_method_2_code 312 = .ok (.if_icmp .ne 34, 3) := by decide +kernel
theorem d5_315 : decode prog_139_method_2_code 315 = .ok (.aload_n 1, 1) := by decide +kernel
theorem d5_316 : decode prog_139_method_2_code 316 = .ok (.iload 8, 2) := by decide +kernel
theorem d5_318 : decode prog_139_method_2_code 318 = .ok (.iload 10, 2) := by decide +kernel
theorem d5_320 : decode prog_139_method_2_code 320 = .ok (.invokestatic 29, 3) := by decide +kernel
theorem d5_323 : decode prog_139_method_2_code 323 = .ok (.istore 13, 2) := by decide +kernel
theorem d5_325 : decode prog_139_method_2_code 325 = .ok (.lload 11, 2) := by decide +kernel
theorem d5_327 : decode prog_139_method_2_code 327 = .ok (.iload 13, 2) := by decide +kernel
theorem d5_329 : decode prog_139_method_2_code 329 = .ok (.iload 8, 2) := by decide +kernel
theorem d5_331 : decode prog_139_method_2_code 331 = .ok (.isub, 1) := by decide +kernel
theorem d5_332 : decode prog_139_method_2_code 332 = .ok (.i2l, 1) := by decide +kernel
theorem d5_333 : decode prog_139_method_2_code 333 = .ok (.lsub, 1) := by decide +kernel
theorem d5_334 : decode prog_139_method_2_code 334 = .ok (.lstore 14, 2) := by decide +kernel
theorem d5_336 : decode prog_139_method_2_code 336 = .ok (.iload 13, 2) := by decide +kernel
theorem d5_338 : decode prog_139_method_2_code 338 = .ok (.iload 10, 2) := by decide +kernel
theorem d5_340 : decode prog_139_method_2_code 340 = .ok (.if_icmp .ne 6, 3) := by decide +kernel
theorem d5_343 : decode prog_139_method_2_code 343 = .ok (.iconst 0, 1) := by decide +kernel
theorem d5_344 : decode prog_139_method_2_code 344 = .ok (.istore 5, 2) := by decide +kernel
theorem d5_346 : decode prog_139_method_2_code 346 = .ok (.aload_n 0, 1) := by decide +kernel
theorem d5_347 : decode prog_139_method_2_code 347 = .ok (.aload_n 1, 1) := by decide +kernel
theorem d5_348 : decode prog_139_method_2_code 348 = .ok (.putfield 32, 3) := by decide +kernel
theorem d5_351 : decode prog_139_method_2_code 351 = .ok (.aload_n 0, 1) := by decide +kernel
theorem d5_352 : decode prog_139_method_2_code 352 = .ok (.iload 5, 2) := by decide +kernel
theorem d5_354 : decode prog_139_method_2_code 354 = .ok (.putfield 36, 3) := by decide +kernel
theorem d5_357 : decode prog_139_method_2_code 357 = .ok (.aload_n 0, 1) := by decide +kernel
theorem d5_358 : decode prog_139_method_2_code 358 = .ok (.iload 13, 2) := by decide +kernel
theorem d5_360 : decode prog_139_method_2_code 360 = .ok (.putfield 40, 3) := by decide +kernel
theorem d5_363 : decode prog_139_method_2_code 363 = .ok (.aload_n 0, 1) := by decide +kernel
theorem d5_364 : decode prog_139_method_2_code 364 = .ok (.iload 10, 2) := by decide +kernel
theorem d5_366 : decode prog_139_method_2_code 366 = .ok (.putfield 43, 3) := by decide +kernel
theorem d5_369 : decode prog_139_method_2_code 369 = .ok (.aload_n 0, 1) := by decide +kernel
theorem d5_370 : decode prog_139_method_2_code 370 = .ok (.iload 9, 2) := by decide +kernel
theorem d5_372 : decode prog_139_method_2_code 372 = .ok (.putfield 46, 3) := by decide +kernel
theorem d5_375 : decode prog_139_method_2_code 375 = .ok (.aload_n 0, 1) := by decide +kernel
theorem d5_376 : decode prog_139_method_2_code 376 = .ok (.lload 14, 2) := by decide +kernel
theorem d5_378 : decode prog_139_method_2_code 378 = .ok (.putfield 49, 3) := by decide +kernel
theorem d5_381 : decode prog_139_method_2_code 381 = .ok (.aload_n 0, 1) := by decide +kernel
theorem d5_382 : decode prog_139_method_2_code 382 = .ok (.lload 11, 2) := by decide +kernel
theorem d5_384 : decode prog_139_method_2_code 384 = .ok (.invokestatic 53, 3) := by decide +kernel
theorem d5_387 : decode prog_139_method_2_code 387 = .ok (.ldc2_w 57, 3) := by decide +kernel
theorem d5_390 : decode prog_139_method_2_code 390 = .ok (.lcmp, 1) := by decide +kernel
theorem d5_391 : decode prog_139_method_2_code 391 = .ok (.ifCond .gt 7, 3) := by decide +kernel
theorem d5_394 : decode prog_139_method_2_code 394 = .ok (.iconst 1, 1) := by decide +kernel
theorem d5_395 : decode prog_139_method_2_code 395 = .ok (.goto 4, 3) := by decide +kernel
theorem d5_398 : decode prog_139_method_2_code 398 = .ok (.iconst 0, 1) := by decide +kernel
theorem d5_399 : decode prog_139_method_2_code 399 = .ok (.putfield 59, 3) := by decide +kernel
theorem d5_402 : decode prog_139_method_2_code 402 = .ok (.aload_n 0, 1) := by decide +kernel
theorem d5_403 : decode prog_139_method_2_code 403 = .ok (.ldc2_w 63, 3) := by decide +kernel
theorem d5_406 : decode prog_139_method_2_code 406 = .ok (.putfield 65, 3) := by decide +kernel
theorem d5_409 : decode prog_139_method_2_code 409 = .ok (.iload 5, 2) := by decide +kernel
theorem d5_411 : decode prog_139_method_2_code 411 = .ok (.ifCond .lt 68, 3) := by decide +kernel
theorem d5_414 : decode prog_139_method_2_code 414 = .ok (.iload 9, 2) := by decide +kernel
theorem d5_416 : decode prog_139_method_2_code 416 = .ok (.ifCond .ge 63, 3) := by decide +kernel
theorem d5_419 : decode prog_139_method_2_code 419 = .ok (.iload 4, 2) := by decide +kernel
theorem d5_421 : decode prog_139_method_2_code 421 = .ok (.iload 10, 2) := by decide +kernel
theorem d5_423 : decode prog_139_method_2_code 423 = .ok (.if_icmp .ne 56, 3) := by decide +kernel
theorem d5_426 : decode prog_139_method_2_code 426 = .ok (.iload 10, 2) := by decide +kernel
theorem d5_428 : decode prog_139_method_2_code 428 = .ok (.iload 6, 2) := by decide +kernel
theorem d5_430 : decode prog_139_method_2_code 430 = .ok (.isub, 1) := by decide +kernel
theorem d5_431 : decode prog_139_method_2_code 431 = .ok (.bipush 18, 2) := by decide +kernel
theorem d5_433 : decode prog_139_method_2_code 433 = .ok (.if_icmp .gt 46, 3) := by decide +kernel
theorem d5_436 : decode prog_139_method_2_code 436 = .ok (.aload_n 0, 1) := by decide +kernel
theorem d5_437 : decode prog_139_method_2_code 437 = .ok (.lconst 0, 1) := by decide +kernel
theorem d5_438 : decode prog_139_method_2_code 438 = .ok (.putfield 65, 3) := by decide +kernel
theorem d5_441 : decode prog_139_method_2_code 441 = .ok (.iload 6, 2) := by decide +kernel
theorem d5_443 : decode prog_139_method_2_code 443 = .ok (.istore 16, 2) := by decide +kernel
theorem d5_445 : decode prog_139_method_2_code 445 = .ok (.iload 16, 2) := by decide +kernel
theorem d5_447 : decode prog_139_method_2_code 447 = .ok (.iload 10, 2) := by decide +kernel
theorem d5_449 : decode prog_139_method_2_code 449 = .ok (.if_icmp .ge 30, 3) := by decide +kernel
theorem d5_452 : decode prog_139_method_2_code 452 = .ok (.aload_n 0, 1) := by decide +kernel
theorem d5_453 : decode prog_139_method_2_code 453 = .ok (.aload_n 0, 1) := by decide +kernel
theorem d5_454 : decode prog_139_method_2_code 454 = .ok (.getfield 65, 3) := by decide +kernel
theorem d5_457 : decode prog_139_method_2_code 457 = .ok (.ldc2_w 21, 3) := by decide +kernel
theorem d5_460 : decode prog_139_method_2_code 460 = .ok (.lmul, 1) := by decide +kernel
theorem d5_461 : decode prog_139_method_2_code 461 = .ok (.aload_n 1, 1) := by decide +kernel
theorem d5_462 : decode prog_139_method_2_code 462 = .ok (.iload 16, 2) := by decide +kernel
theorem d5_464 : decode prog_139_method_2_code 464 = .ok (.baload, 1) := by decide +kernel
theorem d5_465 : decode prog_139_method_2_code 465 = .ok (.bipush 48, 2) := by decide +kernel
theorem d5_467 : decode prog_139_method_2_code 467 = .ok (.isub, 1) := by decide +kernel
theorem d5_468 : decode prog_139_method_2_code 468 = .ok (.i2l, 1) := by decide +kernel
theorem d5_469 : decode prog_139_method_2_code 469 = .ok (.ladd, 1) := by decide +kernel
theorem d5_470 : decode prog_139_method_2_code 470 = .ok (.putfield 65, 3) := by decide +kernel
theorem d5_473 : decode prog_139_method_2_code 473 = .ok (.iinc 16 1, 3) := by decide +kernel
theorem d5_476 : decode prog_139_method_2_code 476 = .ok (.goto (-31), 3) := by decide +kernel
theorem d5_479 : decode prog_139_method_2_code 479 = .ok (.iconst 1, 1) := by decide +kernel
theorem d5_480 : decode prog_139_method_2_code 480 = .ok (.ireturn, 1) := by decide +kernel
theorem pn_5 : plainName "com/example/tracefold/tracefold/trace/DecimalText" = true := by first | (simp [plainName, overriddenIn]; done) | decide +kernel
theorem ef_5 (m : MethodId) (r0 : Addr) (r1 : Addr) (p2 : Int32) (p3 : Int32) : entryFrame m #[.ref r0, .ref r1, .int p2, .int p3] 17 = mkF m 0 #[.val (.ref r0), .val (.ref r1), .val (.int p2), .val (.int p3), .unset, .unset, .unset, .unset, .unset, .unset, .unset, .unset, .unset, .unset, .unset, .unset, .unset] [] := by first | (simp [entryFrame, mkF, argsToLocals, Value.category]; done) | rfl
set_option maxRecDepth 65536 in
set_option maxHeartbeats 40000000 in
theorem ct_5 (l : Launch) (Z : State) (a0 : Array Value) (hw : ∀ d ∈ tables_1, d.before a0 Z = true) {h0 : Heap} {n0 : Nat} (zs : n0 ≤ h0.size) (r0 : Addr) (r1 : Addr) (p2 : Int32) (p3 : Int32) (u_text : Value) (u_sign : Value) (u_first : Value) (u_end : Value) (u_point : Value) (u_exponent : Value) (u_literal : Value) (u_whole : Value) (E_r0 : Exa Z h0 r0 "com/example/tracefold/tracefold/trace/DecimalText") (g_r0 : n0 ≤ r0) (F_r0_text : Fld Z h0 r0 "com/example/tracefold/tracefold/trace/DecimalText" "text" "[B" u_text) (F_r0_sign : Fld Z h0 r0 "com/example/tracefold/tracefold/trace/DecimalText" "sign" "I" u_sign) (F_r0_first : Fld Z h0 r0 "com/example/tracefold/tracefold/trace/DecimalText" "first" "I" u_first) (F_r0_end : Fld Z h0 r0 "com/example/tracefold/tracefold/trace/DecimalText" "end" "I" u_end) (F_r0_point : Fld Z h0 r0 "com/example/tracefold/tracefold/trace/DecimalText" "point" "I" u_point) (F_r0_exponent : Fld Z h0 r0 "com/example/tracefold/tracefold/trace/DecimalText" "exponent" "J" u_exponent) (F_r0_literal : Fld Z h0 r0 "com/example/tracefold/tracefold/trace/DecimalText" "literal" "Z" u_literal) (F_r0_whole : Fld Z h0 r0 "com/example/tracefold/tracefold/trace/DecimalText" "whole" "J" u_whole) (f : Int → Int32) (N : Nat) (i0 i1 i2 i3 W sgn wr : Int) (A_r1 : AIK Z h0 r1 .byte 26 f) (ne_r1_r0 : r1 ≠ r0) (hfr : p2.toInt = 0) (hto : p3.toInt = W) (hW : W ≤ 26) (U0' : own_T0 f i0 W sgn) (U1 : own_T1 f i0 i1 i2 i3 W) (U2 : own_T2 f N i0 i1 i2 i3) (U3 : N < 10 ^ (i1 - i0 + (i3 - i2)).toNat) (U3' : i1 - i0 + (i3 - i2) ≤ 19) (U4 : own_T4 f i3 W wr) :
    CtK l Z (⟨"com/example/tracefold/tracefold/trace/DecimalText", "read", "([BII)Z"⟩ : MethodName) prog_139_method_2_code 17 (some .boolean) ({ frames := 2, cells := 0, slots := 0, locals := 40 } : Room) #[.ref r0, .ref r1, .int p2, .int p3] h0 n0 (QI (fun z h => Keep h0 h [r0] ∧ ((z = 0 ∧ i1 = i0 ∧ i3 = i2) ∨ (z = 1 ∧ ¬ (i1 = i0 ∧ i3 = i2) ∧ ∃ (sg fst en pnt : Int32) (ex wh : Int64), Exa Z h r0 "com/example/tracefold/tracefold/trace/DecimalText" ∧ Fld Z h r0 "com/example/tracefold/tracefold/trace/DecimalText" "text" "[B" (.ref r1) ∧ Fld Z h r0 "com/example/tracefold/tracefold/trace/DecimalText" "sign" "I" (.int sg) ∧ Fld Z h r0 "com/example/tracefold/tracefold/trace/DecimalText" "first" "I" (.int fst) ∧ Fld Z h r0 "com/example/tracefold/tracefold/trace/DecimalText" "end" "I" (.int en) ∧ Fld Z h r0 "com/example/tracefold/tracefold/trace/DecimalText" "point" "I" (.int pnt) ∧ Fld Z h r0 "com/example/tracefold/tracefold/trace/DecimalText" "exponent" "J" (.long ex) ∧ Fld Z h r0 "com/example/tracefold/tracefold/trace/DecimalText" "whole" "J" (.long wh) ∧ en.toInt = i3 ∧ own_R N i0 i1 i2 i3 sgn wr sg fst pnt ex wh)))) := by
  refine CtK.of (plainFor_of_name pn_5) ?_
  intro p e s m below meth c T0 X0 hx hZ hby hml hown hnm hret hlk
  refine GoK.entry (ef_5 m r0 r1 p2 p3) ?_
  replace hown : s.vm.findClass "com/example/tracefold/tracefold/trace/DecimalText" = some m.cls := hown
  have K := Keep.refl h0 [r0]
  refine go_iloadN (pc' := 1) X0 hx (hb hby d5_0) rfl rfl ?_
  refine go_istore (pc' := 3) (L' := #[.val (.ref r0), .val (.ref r1), .val (.int p2), .val (.int p3), .val (.int p2), .unset, .unset, .unset, .unset, .unset, .unset, .unset, .unset, .unset, .unset, .unset, .unset]) X0 hx (hb hby d5_1) rfl rfl ?_
  refine go_iconst (pc' := 4) (v := 1) X0 hx (hb hby d5_3) rfl rfl ?_
  refine go_istore (pc' := 6) (L' := #[.val (.ref r0), .val (.ref r1), .val (.int p2), .val (.int p3), .val (.int p2), .val (.int (1 : Int32)), .unset, .unset, .unset, .unset, .unset, .unset, .unset, .unset, .unset, .unset, .unset]) X0 hx (hb hby d5_4) rfl rfl ?_
  suffices J49 : ∀ (v4 : Int32) (v5 : Int32), (v4.toInt = i0 ∧ v5.toInt = sgn) → GoK p e below (DoneK s below n0 ({ frames := 2, cells := 0, slots := 0, locals := 40 } : Room).cells ({ frames := 2, cells := 0, slots := 0, locals := 40 } : Room).slots (QI (fun z h => Keep h0 h [r0] ∧ ((z = 0 ∧ i1 = i0 ∧ i3 = i2) ∨ (z = 1 ∧ ¬ (i1 = i0 ∧ i3 = i2) ∧ ∃ (sg fst en pnt : Int32) (ex wh : Int64), Exa Z h r0 "com/example/tracefold/tracefold/trace/DecimalText" ∧ Fld Z h r0 "com/example/tracefold/tracefold/trace/DecimalText" "text" "[B" (.ref r1) ∧ Fld Z h r0 "com/example/tracefold/tracefold/trace/DecimalText" "sign" "I" (.int sg) ∧ Fld Z h r0 "com/example/tracefold/tracefold/trace/DecimalText" "first" "I" (.int fst) ∧ Fld Z h r0 "com/example/tracefold/tracefold/trace/DecimalText" "end" "I" (.int en) ∧ Fld Z h r0 "com/example/tracefold/tracefold/trace/DecimalText" "point" "I" (.int pnt) ∧ Fld Z h r0 "com/example/tracefold/tracefold/trace/DecimalText" "exponent" "J" (.long ex) ∧ Fld Z h r0 "com/example/tracefold/tracefold/trace/DecimalText" "whole" "J" (.long wh) ∧ en.toInt = i3 ∧ own_R N i0 i1 i2 i3 sgn wr sg fst pnt ex wh))))) T0 (mkF m 49 #[.val (.ref r0), .val (.ref r1), .val (.int p2), .val (.int p3), .val (.int v4), .val (.int v5), .unset, .unset, .unset, .unset, .unset, .unset, .unset, .unset, .unset, .unset, .unset] []) by
    refine go_iload (pc' := 8) X0 hx (hb hby d5_6) rfl rfl ?_
    refine go_iloadN (pc' := 9) X0 hx (hb hby d5_8) rfl rfl ?_
    refine go_icmpge (pc' := 12) (pcT := 49) X0 hx (hb hby d5_9) rfl (by decide) (by decide) (fun c9 => ?_) (fun c9 => ?_)
    · refine J49 p2 (1 : Int32)  ?_
      have q := own_geI c9
      rcases U0' with ⟨a, b, c'⟩ | ⟨a, b, c'⟩
      · exact ⟨by omega, by rw [b]; rfl⟩
      · exfalso; omega
    · refine go_aloadN (pc' := 13) X0 hx (hb hby d5_12) rfl rfl ?_
      refine go_iload (pc' := 15) X0 hx (hb hby d5_13) rfl rfl ?_
      refine go_baloadB (pc' := 16) X0 hx hZ A_r1 (by rw [hfr]; decide) (by have := own_ltI c9; omega) (hb hby d5_15) rfl (fun w15_f hw15_f => ?_)
      refine go_bipush (pc' := 18) (v := 43) X0 hx (hb hby d5_16) rfl rfl ?_
      refine go_icmpeq (pc' := 21) (pcT := 30) X0 hx (hb hby d5_18) rfl (by decide) (by decide) (fun c18_f => ?_) (fun c18_f => ?_)
      · refine go_aloadN (pc' := 31) X0 hx (hb hby d5_30) rfl rfl ?_
        refine go_iload (pc' := 33) X0 hx (hb hby d5_31) rfl rfl ?_
        refine go_baloadB (pc' := 34) X0 hx hZ A_r1 (by rw [hfr]; decide) (by have := own_ltI c9; omega) (hb hby d5_33) rfl (fun w33_ft hw33_ft => ?_)
        refine go_bipush (pc' := 36) (v := 45) X0 hx (hb hby d5_34) rfl rfl ?_
        refine go_icmpne (pc' := 39) (pcT := 43) X0 hx (hb hby d5_36) rfl (by decide) (by decide) (fun c36_ft => ?_) (fun c36_ft => ?_)
        · refine go_iconst (pc' := 44) (v := 1) X0 hx (hb hby d5_43) rfl rfl ?_
          refine go_istore (pc' := 46) (L' := #[.val (.ref r0), .val (.ref r1), .val (.int p2), .val (.int p3), .val (.int p2), .val (.int (1 : Int32)), .unset, .unset, .unset, .unset, .unset, .unset, .unset, .unset, .unset, .unset, .unset]) X0 hx (hb hby d5_44) rfl rfl ?_
          obtain ⟨v4_46_ftt, hv4_46_ftt⟩ : ∃ z : Int32, z = p2 + (1 : Int32) := ⟨_, rfl⟩
          refine go_iinc (pc' := 49) (L' := #[.val (.ref r0), .val (.ref r1), .val (.int p2), .val (.int p3), .val (.int v4_46_ftt), .val (.int (1 : Int32)), .unset, .unset, .unset, .unset, .unset, .unset, .unset, .unset, .unset, .unset, .unset]) X0 hx (hb hby d5_46) rfl rfl hv4_46_ftt.symm rfl ?_
          refine J49 v4_46_ftt (1 : Int32)  ?_
          rw [hfr] at hw15_f
          rw [hfr] at hw33_ft
          have q := own_ltI c9
          have e4 := own_inc hv4_46_ftt (by omega)
          rcases U0' with ⟨a, b, c'⟩ | ⟨a, b, c'⟩
          · exfalso
            obtain ⟨g1, g2⟩ := c' (by omega)
            exact g1 (by rw [← hw15_f]; exact c18_f)
          · refine ⟨by omega, ?_⟩
            rcases c' with ⟨g, s'⟩ | ⟨g, s'⟩
            · rw [s']; rfl
            · exact absurd (by rw [hw33_ft]; exact g) c36_ft
        · refine go_iconst (pc' := 40) (v := -1) X0 hx (hb hby d5_39) rfl rfl ?_
          refine go_goto (pc' := 44) X0 hx (hb hby d5_40) (by decide) (by decide) ?_
          refine go_istore (pc' := 46) (L' := #[.val (.ref r0), .val (.ref r1), .val (.int p2), .val (.int p3), .val (.int p2), .val (.int (-1 : Int32)), .unset, .unset, .unset, .unset, .unset, .unset, .unset, .unset, .unset, .unset, .unset]) X0 hx (hb hby d5_44) rfl rfl ?_
          obtain ⟨v4_46_ftf, hv4_46_ftf⟩ : ∃ z : Int32, z = p2 + (1 : Int32) := ⟨_, rfl⟩
          refine go_iinc (pc' := 49) (L' := #[.val (.ref r0), .val (.ref r1), .val (.int p2), .val (.int p3), .val (.int v4_46_ftf), .val (.int (-1 : Int32)), .unset, .unset, .unset, .unset, .unset, .unset, .unset, .unset, .unset, .unset, .unset]) X0 hx (hb hby d5_46) rfl rfl hv4_46_ftf.symm rfl ?_
          refine J49 v4_46_ftf (-1 : Int32)  ?_
          rw [hfr] at hw15_f
          rw [hfr] at hw33_ft
          have q := own_ltI c9
          have e4 := own_inc hv4_46_ftf (by omega)
          rcases U0' with ⟨a, b, c'⟩ | ⟨a, b, c'⟩
          · exfalso
            obtain ⟨g1, g2⟩ := c' (by omega)
            exact g1 (by rw [← hw15_f]; exact c18_f)
          · refine ⟨by omega, ?_⟩
            rcases c' with ⟨g, s'⟩ | ⟨g, s'⟩
            · exfalso; rw [hw33_ft, g] at c36_ft; revert c36_ft; decide
            · rw [s']; rfl
      · refine go_aloadN (pc' := 22) X0 hx (hb hby d5_21) rfl rfl ?_
        refine go_iload (pc' := 24) X0 hx (hb hby d5_22) rfl rfl ?_
        refine go_baloadB (pc' := 25) X0 hx hZ A_r1 (by rw [hfr]; decide) (by have := own_ltI c9; omega) (hb hby d5_24) rfl (fun w24_ff hw24_ff => ?_)
        refine go_bipush (pc' := 27) (v := 45) X0 hx (hb hby d5_25) rfl rfl ?_
        refine go_icmpne (pc' := 30) (pcT := 49) X0 hx (hb hby d5_27) rfl (by decide) (by decide) (fun c27_ff => ?_) (fun c27_ff => ?_)
        · refine J49 p2 (1 : Int32)  ?_
          rw [hfr] at hw15_f
          rw [hfr] at hw24_ff
          have q := own_ltI c9
          rcases U0' with ⟨a, b, c'⟩ | ⟨a, b, c'⟩
          · exact ⟨by omega, by rw [b]; rfl⟩
          · exfalso
            rcases c' with ⟨g, -⟩ | ⟨g, -⟩
            · exact c18_f (by rw [hw15_f]; exact g)
            · exact c27_ff (by rw [hw24_ff]; exact g)
        · refine go_aloadN (pc' := 31) X0 hx (hb hby d5_30) rfl rfl ?_
          refine go_iload (pc' := 33) X0 hx (hb hby d5_31) rfl rfl ?_
          refine go_baloadB (pc' := 34) X0 hx hZ A_r1 (by rw [hfr]; decide) (by have := own_ltI c9; omega) (hb hby d5_33) rfl (fun w33_fff hw33_fff => ?_)
          refine go_bipush (pc' := 36) (v := 45) X0 hx (hb hby d5_34) rfl rfl ?_
          refine go_icmpne (pc' := 39) (pcT := 43) X0 hx (hb hby d5_36) rfl (by decide) (by decide) (fun c36_fff => ?_) (fun c36_fff => ?_)
          · refine go_iconst (pc' := 44) (v := 1) X0 hx (hb hby d5_43) rfl rfl ?_
            refine go_istore (pc' := 46) (L' := #[.val (.ref r0), .val (.ref r1), .val (.int p2), .val (.int p3), .val (.int p2), .val (.int (1 : Int32)), .unset, .unset, .unset, .unset, .unset, .unset, .unset, .unset, .unset, .unset, .unset]) X0 hx (hb hby d5_44) rfl rfl ?_
            obtain ⟨v4_46_ffft, hv4_46_ffft⟩ : ∃ z : Int32, z = p2 + (1 : Int32) := ⟨_, rfl⟩
            refine go_iinc (pc' := 49) (L' := #[.val (.ref r0), .val (.ref r1), .val (.int p2), .val (.int p3), .val (.int v4_46_ffft), .val (.int (1 : Int32)), .unset, .unset, .unset, .unset, .unset, .unset, .unset, .unset, .unset, .unset, .unset]) X0 hx (hb hby d5_46) rfl rfl hv4_46_ffft.symm rfl ?_
            refine J49 v4_46_ffft (1 : Int32)  ?_
            rw [hfr] at hw15_f
            rw [hfr] at hw24_ff
            rw [hfr] at hw33_fff
            have q := own_ltI c9
            have e4 := own_inc hv4_46_ffft (by omega)
            rcases U0' with ⟨a, b, c'⟩ | ⟨a, b, c'⟩
            · exfalso
              obtain ⟨g1, g2⟩ := c' (by omega)
              exact g2 (by rw [← hw24_ff]; exact c27_ff)
            · refine ⟨by omega, ?_⟩
              rcases c' with ⟨g, s'⟩ | ⟨g, s'⟩
              · rw [s']; rfl
              · exact absurd (by rw [hw33_fff]; exact g) c36_fff
          · refine go_iconst (pc' := 40) (v := -1) X0 hx (hb hby d5_39) rfl rfl ?_
            refine go_goto (pc' := 44) X0 hx (hb hby d5_40) (by decide) (by decide) ?_
            refine go_istore (pc' := 46) (L' := #[.val (.ref r0), .val (.ref r1), .val (.int p2), .val (.int p3), .val (.int p2), .val (.int (-1 : Int32)), .unset, .unset, .unset, .unset, .unset, .unset, .unset, .unset, .unset, .unset, .unset]) X0 hx (hb hby d5_44) rfl rfl ?_
            obtain ⟨v4_46_ffff, hv4_46_ffff⟩ : ∃ z : Int32, z = p2 + (1 : Int32) := ⟨_, rfl⟩
            refine go_iinc (pc' := 49) (L' := #[.val (.ref r0), .val (.ref r1), .val (.int p2), .val (.int p3), .val (.int v4_46_ffff), .val (.int (-1 : Int32)), .unset, .unset, .unset, .unset, .unset, .unset, .unset, .unset, .unset, .unset, .unset]) X0 hx (hb hby d5_46) rfl rfl hv4_46_ffff.symm rfl ?_
            refine J49 v4_46_ffff (-1 : Int32)  ?_
            rw [hfr] at hw15_f
            rw [hfr] at hw24_ff
            rw [hfr] at hw33_fff
            have q := own_ltI c9
            have e4 := own_inc hv4_46_ffff (by omega)
            rcases U0' with ⟨a, b, c'⟩ | ⟨a, b, c'⟩
            · exfalso
              obtain ⟨g1, g2⟩ := c' (by omega)
              exact g2 (by rw [← hw24_ff]; exact c27_ff)
            · refine ⟨by omega, ?_⟩
              rcases c' with ⟨g, s'⟩ | ⟨g, s'⟩
              · exfalso; rw [hw33_fff, g] at c36_fff; revert c36_fff; decide
              · rw [s']; rfl
  intro v4 v5 j49
  obtain ⟨q4, q5⟩ := j49
  obtain ⟨t1, t2, t3, t4, t5, t6⟩ := id U1
  have t7 : i1 ≤ W := by rcases t6 with ⟨a, -⟩ | ⟨a, b, -⟩ <;> omega
  refine go_iload (pc' := 51) X0 hx (hb hby d5_49) rfl rfl ?_
  refine go_istore (pc' := 53) (L' := #[.val (.ref r0), .val (.ref r1), .val (.int p2), .val (.int p3), .val (.int v4), .val (.int v5), .val (.int v4), .unset, .unset, .unset, .unset, .unset, .unset, .unset, .unset, .unset, .unset]) X0 hx (hb hby d5_51) rfl rfl ?_
  refine go_aloadN (pc' := 54) X0 hx (hb hby d5_53) rfl rfl ?_
  refine go_iload (pc' := 56) X0 hx (hb hby d5_54) rfl rfl ?_
  refine go_iloadN (pc' := 57) X0 hx (hb hby d5_56) rfl rfl ?_
  refine go_callS (pc' := 60) (W := 0) (cells' := 0) (slots' := 0) (rm := ({ frames := 1, cells := 0, slots := 0, locals := 12 } : Room)) (aL := [.ref r1, .int v4, .int p3]) (St := []) X0 hx hZ hown (by rw [hml]; rfl) (hw _ (List.mem_of_getElem? (i := 42) rfl)) (hw _ (List.mem_of_getElem? (i := 43) rfl)) (hw _ (List.mem_of_getElem? (i := 30) rfl)) (hw _ (List.mem_of_getElem? (i := 44) rfl)) (by decide) pd_1 rfl (ct_6 l Z a0 hw zs r1 v4 p3 f A_r1 (by omega) (by omega) (by omega)) (hb hby d5_57) rfl (by decide) (Nat.le_of_eq rfl) (by decide) (by decide) (by decide) rfl rfl (fun T1 h1 v1 X1 Q1 => ?_) rfl
  obtain ⟨z1, rfl, hz1, eh1⟩ := Q1
  subst h1
  show GoK p e below _ T1 (mkF m 60 #[.val (.ref r0), .val (.ref r1), .val (.int p2), .val (.int p3), .val (.int v4), .val (.int v5), .val (.int v4), .unset, .unset, .unset, .unset, .unset, .unset, .unset, .unset, .unset, .unset] [.int z1])
  have e7 : z1.toInt = i1 := own_scanU hz1 (by rw [q4, hto]; exact own_sc1 U1 U2)
  refine go_istore (pc' := 62) (L' := #[.val (.ref r0), .val (.ref r1), .val (.int p2), .val (.int p3), .val (.int z1), .val (.int v5), .val (.int v4), .unset, .unset, .unset, .unset, .unset, .unset, .unset, .unset, .unset, .unset]) X1 hx (hb hby d5_60) rfl rfl ?_
  refine go_iload (pc' := 64) X1 hx (hb hby d5_62) rfl rfl ?_
  refine go_istore (pc' := 66) (L' := #[.val (.ref r0), .val (.ref r1), .val (.int p2), .val (.int p3), .val (.int z1), .val (.int v5), .val (.int v4), .val (.int z1), .unset, .unset, .unset, .unset, .unset, .unset, .unset, .unset, .unset]) X1 hx (hb hby d5_64) rfl rfl ?_
  refine go_iload (pc' := 68) X1 hx (hb hby d5_66) rfl rfl ?_
  refine go_istore (pc' := 70) (L' := #[.val (.ref r0), .val (.ref r1), .val (.int p2), .val (.int p3), .val (.int z1), .val (.int v5), .val (.int v4), .val (.int z1), .val (.int z1), .unset, .unset, .unset, .unset, .unset, .unset, .unset, .unset]) X1 hx (hb hby d5_68) rfl rfl ?_
  refine go_iconst (pc' := 71) (v := -1) X1 hx (hb hby d5_70) rfl rfl ?_
  refine go_istore (pc' := 73) (L' := #[.val (.ref r0), .val (.ref r1), .val (.int p2), .val (.int p3), .val (.int z1), .val (.int v5), .val (.int v4), .val (.int z1), .val (.int z1), .val (.int (-1 : Int32)), .unset, .unset, .unset, .unset, .unset, .unset, .unset]) X1 hx (hb hby d5_71) rfl rfl ?_
  suffices JH107 : ∀ (T2 : State) (h2 : Heap) (w4 : Int32) (w8 : Int32) (w9 : Int32), OnK p l e ({ frames := 2, cells := 0, slots := 0, locals := 40 } : Room) s m #[.ref r0, .ref r1, .int p2, .int p3] below meth c n0 T2 h2 0 0 → n0 ≤ h2.size → Keep h0 h2 [r0] → Exa Z h2 r0 "com/example/tracefold/tracefold/trace/DecimalText" → Fld Z h2 r0 "com/example/tracefold/tracefold/trace/DecimalText" "text" "[B" (u_text) → Fld Z h2 r0 "com/example/tracefold/tracefold/trace/DecimalText" "sign" "I" (u_sign) → Fld Z h2 r0 "com/example/tracefold/tracefold/trace/DecimalText" "first" "I" (u_first) → Fld Z h2 r0 "com/example/tracefold/tracefold/trace/DecimalText" "end" "I" (u_end) → Fld Z h2 r0 "com/example/tracefold/tracefold/trace/DecimalText" "point" "I" (u_point) → Fld Z h2 r0 "com/example/tracefold/tracefold/trace/DecimalText" "exponent" "J" (u_exponent) → Fld Z h2 r0 "com/example/tracefold/tracefold/trace/DecimalText" "literal" "Z" (u_literal) → Fld Z h2 r0 "com/example/tracefold/tracefold/trace/DecimalText" "whole" "J" (u_whole) → AIK Z h2 r1 .byte (26) f → (w4.toInt = i3 ∧ w8.toInt = i2 ∧ ((w9.toInt = -1 ∧ i2 = i1) ∨ (w9.toInt = i1 ∧ i2 = i1 + 1))) → GoK p e below (DoneK s below n0 ({ frames := 2, cells := 0, slots := 0, locals := 40 } : Room).cells ({ frames := 2, cells := 0, slots := 0, locals := 40 } : Room).slots (QI (fun z h => Keep h0 h [r0] ∧ ((z = 0 ∧ i1 = i0 ∧ i3 = i2) ∨ (z = 1 ∧ ¬ (i1 = i0 ∧ i3 = i2) ∧ ∃ (sg fst en pnt : Int32) (ex wh : Int64), Exa Z h r0 "com/example/tracefold/tracefold/trace/DecimalText" ∧ Fld Z h r0 "com/example/tracefold/tracefold/trace/DecimalText" "text" "[B" (.ref r1) ∧ Fld Z h r0 "com/example/tracefold/tracefold/trace/DecimalText" "sign" "I" (.int sg) ∧ Fld Z h r0 "com/example/tracefold/tracefold/trace/DecimalText" "first" "I" (.int fst) ∧ Fld Z h r0 "com/example/tracefold/tracefold/trace/DecimalText" "end" "I" (.int en) ∧ Fld Z h r0 "com/example/tracefold/tracefold/trace/DecimalText" "point" "I" (.int pnt) ∧ Fld Z h r0 "com/example/tracefold/tracefold/trace/DecimalText" "exponent" "J" (.long ex) ∧ Fld Z h r0 "com/example/tracefold/tracefold/trace/DecimalText" "whole" "J" (.long wh) ∧ en.toInt = i3 ∧ own_R N i0 i1 i2 i3 sgn wr sg fst pnt ex wh))))) T2 (mkF m 107 #[.val (.ref r0), .val (.ref r1), .val (.int p2), .val (.int p3), .val (.int w4), .val (.int v5), .val (.int v4), .val (.int z1), .val (.int w8), .val (.int w9), .unset, .unset, .unset, .unset, .unset, .unset, .unset] []) by
    refine go_iload (pc' := 75) X1 hx (hb hby d5_73) rfl rfl ?_
    refine go_iloadN (pc' := 76) X1 hx (hb hby d5_75) rfl rfl ?_
    refine go_icmpge (pc' := 79) (pcT := 107) X1 hx (hb hby d5_76) rfl (by decide) (by decide) (fun c76 => ?_) (fun c76 => ?_)
    · refine JH107 T1 h0 z1 z1 (-1 : Int32) X1 zs K E_r0 F_r0_text F_r0_sign F_r0_first F_r0_end F_r0_point F_r0_exponent F_r0_literal F_r0_whole A_r1 ?_
      · have q := own_geI c76
        rcases t6 with ⟨a, b⟩ | ⟨a, b, c'⟩
        · exfalso; omega
        · exact ⟨by omega, by omega, Or.inl ⟨rfl, a⟩⟩
    · refine go_aloadN (pc' := 80) X1 hx (hb hby d5_79) rfl rfl ?_
      refine go_iload (pc' := 82) X1 hx (hb hby d5_80) rfl rfl ?_
      refine go_baloadB (pc' := 83) X1 hx hZ A_r1 (by omega) (by have := own_ltI c76; omega) (hb hby d5_82) rfl (fun w82_f hw82_f => ?_)
      refine go_bipush (pc' := 85) (v := 46) X1 hx (hb hby d5_83) rfl rfl ?_
      refine go_icmpne (pc' := 88) (pcT := 107) X1 hx (hb hby d5_85) rfl (by decide) (by decide) (fun c85_f => ?_) (fun c85_f => ?_)
      · refine JH107 T1 h0 z1 z1 (-1 : Int32) X1 zs K E_r0 F_r0_text F_r0_sign F_r0_first F_r0_end F_r0_point F_r0_exponent F_r0_literal F_r0_whole A_r1 ?_
        · have q := own_ltI c76
          rw [e7] at hw82_f
          rcases t6 with ⟨a, b⟩ | ⟨a, b, c'⟩
          · exact absurd (by rw [hw82_f]; exact b) c85_f
          · exact ⟨by omega, by omega, Or.inl ⟨rfl, a⟩⟩
      · refine go_iload (pc' := 90) X1 hx (hb hby d5_88) rfl rfl ?_
        refine go_istore (pc' := 92) (L' := #[.val (.ref r0), .val (.ref r1), .val (.int p2), .val (.int p3), .val (.int z1), .val (.int v5), .val (.int v4), .val (.int z1), .val (.int z1), .val (.int z1), .unset, .unset, .unset, .unset, .unset, .unset, .unset]) X1 hx (hb hby d5_90) rfl rfl ?_
        refine go_iload (pc' := 94) X1 hx (hb hby d5_92) rfl rfl ?_
        refine go_iconst (pc' := 95) (v := 1) X1 hx (hb hby d5_94) rfl rfl ?_
        refine go_iadd (pc' := 96) X1 hx (hb hby d5_95) rfl ?_
        refine go_nameI (fun v8_96_ff hv8_96_ff => ?_)
        refine go_istore (pc' := 98) (L' := #[.val (.ref r0), .val (.ref r1), .val (.int p2), .val (.int p3), .val (.int z1), .val (.int v5), .val (.int v4), .val (.int z1), .val (.int v8_96_ff), .val (.int z1), .unset, .unset, .unset, .unset, .unset, .unset, .unset]) X1 hx (hb hby d5_96) rfl rfl ?_
        refine go_aloadN (pc' := 99) X1 hx (hb hby d5_98) rfl rfl ?_
        refine go_iload (pc' := 101) X1 hx (hb hby d5_99) rfl rfl ?_
        refine go_iloadN (pc' := 102) X1 hx (hb hby d5_101) rfl rfl ?_
        refine go_callS (pc' := 105) (W := 0) (cells' := 0) (slots' := 0) (rm := ({ frames := 1, cells := 0, slots := 0, locals := 12 } : Room)) (aL := [.ref r1, .int v8_96_ff, .int p3]) (St := []) X1 hx hZ hown (by rw [hml]; rfl) (hw _ (List.mem_of_getElem? (i := 42) rfl)) (hw _ (List.mem_of_getElem? (i := 43) rfl)) (hw _ (List.mem_of_getElem? (i := 30) rfl)) (hw _ (List.mem_of_getElem? (i := 44) rfl)) (by decide) pd_1 rfl (ct_6 l Z a0 hw zs r1 v8_96_ff p3 f A_r1 (by have q := own_ltI c76; have e8 := own_inc hv8_96_ff (by omega); omega) (by have q := own_ltI c76; have e8 := own_inc hv8_96_ff (by omega); omega) (by omega)) (hb hby d5_102) rfl (by decide) (Nat.le_of_eq rfl) (by decide) (by decide) (by decide) rfl rfl (fun T3 h3 v3 X3 Q3 => ?_) rfl
        obtain ⟨z3, rfl, hz3, eh3⟩ := Q3
        subst h3
        show GoK p e below _ T3 (mkF m 105 #[.val (.ref r0), .val (.ref r1), .val (.int p2), .val (.int p3), .val (.int z1), .val (.int v5), .val (.int v4), .val (.int z1), .val (.int v8_96_ff), .val (.int z1), .unset, .unset, .unset, .unset, .unset, .unset, .unset] [.int z3])
        refine go_istore (pc' := 107) (L' := #[.val (.ref r0), .val (.ref r1), .val (.int p2), .val (.int p3), .val (.int z3), .val (.int v5), .val (.int v4), .val (.int z1), .val (.int v8_96_ff), .val (.int z1), .unset, .unset, .unset, .unset, .unset, .unset, .unset]) X3 hx (hb hby d5_105) rfl rfl ?_
        refine JH107 T3 h0 z3 v8_96_ff z1 X3 zs K E_r0 F_r0_text F_r0_sign F_r0_first F_r0_end F_r0_point F_r0_exponent F_r0_literal F_r0_whole A_r1 ?_
        · have q := own_ltI c76
          rw [e7] at hw82_f
          have e8 := own_inc hv8_96_ff (by omega)
          rcases t6 with ⟨a, b⟩ | ⟨a, b, c'⟩
          · have e4 : z3.toInt = i3 := own_scanU hz3 (by rw [show v8_96_ff.toInt = i2 by omega, hto]; exact own_sc2 U1 U2)
            exact ⟨e4, by omega, Or.inr ⟨e7, a⟩⟩
          · exact absurd (by rw [← hw82_f]; exact c85_f) (c' (by omega))
  intro T2 h2 w4 w8 w9 X2 zs K E_r0 F_r0_text F_r0_sign F_r0_first F_r0_end F_r0_point F_r0_exponent F_r0_literal F_r0_whole A_r1 jh107
  obtain ⟨q4', q8, q9⟩ := jh107
  refine go_iload (pc' := 109) X2 hx (hb hby d5_107) rfl rfl ?_
  refine go_istore (pc' := 111) (L' := #[.val (.ref r0), .val (.ref r1), .val (.int p2), .val (.int p3), .val (.int w4), .val (.int v5), .val (.int v4), .val (.int z1), .val (.int w8), .val (.int w9), .val (.int w4), .unset, .unset, .unset, .unset, .unset, .unset]) X2 hx (hb hby d5_109) rfl rfl ?_
  suffices J127 : (¬ (i1 = i0 ∧ i3 = i2)) → GoK p e below (DoneK s below n0 ({ frames := 2, cells := 0, slots := 0, locals := 40 } : Room).cells ({ frames := 2, cells := 0, slots := 0, locals := 40 } : Room).slots (QI (fun z h => Keep h0 h [r0] ∧ ((z = 0 ∧ i1 = i0 ∧ i3 = i2) ∨ (z = 1 ∧ ¬ (i1 = i0 ∧ i3 = i2) ∧ ∃ (sg fst en pnt : Int32) (ex wh : Int64), Exa Z h r0 "com/example/tracefold/tracefold/trace/DecimalText" ∧ Fld Z h r0 "com/example/tracefold/tracefold/trace/DecimalText" "text" "[B" (.ref r1) ∧ Fld Z h r0 "com/example/tracefold/tracefold/trace/DecimalText" "sign" "I" (.int sg) ∧ Fld Z h r0 "com/example/tracefold/tracefold/trace/DecimalText" "first" "I" (.int fst) ∧ Fld Z h r0 "com/example/tracefold/tracefold/trace/DecimalText" "end" "I" (.int en) ∧ Fld Z h r0 "com/example/tracefold/tracefold/trace/DecimalText" "point" "I" (.int pnt) ∧ Fld Z h r0 "com/example/tracefold/tracefold/trace/DecimalText" "exponent" "J" (.long ex) ∧ Fld Z h r0 "com/example/tracefold/tracefold/trace/DecimalText" "whole" "J" (.long wh) ∧ en.toInt = i3 ∧ own_R N i0 i1 i2 i3 sgn wr sg fst pnt ex wh))))) T2 (mkF m 127 #[.val (.ref r0), .val (.ref r1), .val (.int p2), .val (.int p3), .val (.int w4), .val (.int v5), .val (.int v4), .val (.int z1), .val (.int w8), .val (.int w9), .val (.int w4), .unset, .unset, .unset, .unset, .unset, .unset] []) by
    refine go_iload (pc' := 113) X2 hx (hb hby d5_111) rfl rfl ?_
    refine go_iload (pc' := 115) X2 hx (hb hby d5_113) rfl rfl ?_
    refine go_icmpne (pc' := 118) (pcT := 127) X2 hx (hb hby d5_115) rfl (by decide) (by decide) (fun c115 => ?_) (fun c115 => ?_)
    · refine J127   ?_
      have q := own_neI c115
      intro y; omega
    · refine go_iload (pc' := 120) X2 hx (hb hby d5_118) rfl rfl ?_
      refine go_iload (pc' := 122) X2 hx (hb hby d5_120) rfl rfl ?_
      refine go_icmpne (pc' := 125) (pcT := 127) X2 hx (hb hby d5_122) rfl (by decide) (by decide) (fun c122_f => ?_) (fun c122_f => ?_)
      · refine J127   ?_
        have q := own_neI c122_f
        intro y; omega
      · refine go_iconst (pc' := 126) (v := 0) X2 hx (hb hby d5_125) rfl rfl ?_
        refine go_retN (t := .boolean) X2 hx hret (by simp) hlk (hb hby d5_126) (by decide) (by decide) ?_
        refine ⟨K, Or.inl ⟨rfl, ?_⟩⟩
        have qa := own_eqI c115
        have qb := own_eqI c122_f
        exact ⟨by omega, by omega⟩
  intro  j127
  refine go_lconst (pc' := 128) (v := 0) X2 hx (hb hby d5_127) rfl rfl ?_
  refine go_lstore (pc' := 130) (L' := #[.val (.ref r0), .val (.ref r1), .val (.int p2), .val (.int p3), .val (.int w4), .val (.int v5), .val (.int v4), .val (.int z1), .val (.int w8), .val (.int w9), .val (.int w4), .val (.long (0 : Int64)), .second, .unset, .unset, .unset, .unset]) X2 hx (hb hby d5_128) rfl rfl ?_
  suffices JH279 : ∀ (T4 : State) (h4 : Heap) (y4 : Int32) (y11 : Int64) (s13 : Slot) (s14 : Slot), OnK p l e ({ frames := 2, cells := 0, slots := 0, locals := 40 } : Room) s m #[.ref r0, .ref r1, .int p2, .int p3] below meth c n0 T4 h4 0 0 → n0 ≤ h4.size → Keep h0 h4 [r0] → Exa Z h4 r0 "com/example/tracefold/tracefold/trace/DecimalText" → Fld Z h4 r0 "com/example/tracefold/tracefold/trace/DecimalText" "text" "[B" (u_text) → Fld Z h4 r0 "com/example/tracefold/tracefold/trace/DecimalText" "sign" "I" (u_sign) → Fld Z h4 r0 "com/example/tracefold/tracefold/trace/DecimalText" "first" "I" (u_first) → Fld Z h4 r0 "com/example/tracefold/tracefold/trace/DecimalText" "end" "I" (u_end) → Fld Z h4 r0 "com/example/tracefold/tracefold/trace/DecimalText" "point" "I" (u_point) → Fld Z h4 r0 "com/example/tracefold/tracefold/trace/DecimalText" "exponent" "J" (u_exponent) → Fld Z h4 r0 "com/example/tracefold/tracefold/trace/DecimalText" "literal" "Z" (u_literal) → Fld Z h4 r0 "com/example/tracefold/tracefold/trace/DecimalText" "whole" "J" (u_whole) → AIK Z h4 r1 .byte (26) f → One s13 → One s14 → (y4.toInt = W ∧ y11.toInt = wr) → GoK p e below (DoneK s below n0 ({ frames := 2, cells := 0, slots := 0, locals := 40 } : Room).cells ({ frames := 2, cells := 0, slots := 0, locals := 40 } : Room).slots (QI (fun z h => Keep h0 h [r0] ∧ ((z = 0 ∧ i1 = i0 ∧ i3 = i2) ∨ (z = 1 ∧ ¬ (i1 = i0 ∧ i3 = i2) ∧ ∃ (sg fst en pnt : Int32) (ex wh : Int64), Exa Z h r0 "com/example/tracefold/tracefold/trace/DecimalText" ∧ Fld Z h r0 "com/example/tracefold/tracefold/trace/DecimalText" "text" "[B" (.ref r1) ∧ Fld Z h r0 "com/example/tracefold/tracefold/trace/DecimalText" "sign" "I" (.int sg) ∧ Fld Z h r0 "com/example/tracefold/tracefold/trace/DecimalText" "first" "I" (.int fst) ∧ Fld Z h r0 "com/example/tracefold/tracefold/trace/DecimalText" "end" "I" (.int en) ∧ Fld Z h r0 "com/example/tracefold/tracefold/trace/DecimalText" "point" "I" (.int pnt) ∧ Fld Z h r0 "com/example/tracefold/tracefold/trace/DecimalText" "exponent" "J" (.long ex) ∧ Fld Z h r0 "com/example/tracefold/tracefold/trace/DecimalText" "whole" "J" (.long wh) ∧ en.toInt = i3 ∧ own_R N i0 i1 i2 i3 sgn wr sg fst pnt ex wh))))) T4 (mkF m 279 #[.val (.ref r0), .val (.ref r1), .val (.int p2), .val (.int p3), .val (.int y4), .val (.int v5), .val (.int v4), .val (.int z1), .val (.int w8), .val (.int w9), .val (.int w4), .val (.long y11), .second, s13, s14, .unset, .unset] []) by
    refine go_iload (pc' := 132) X2 hx (hb hby d5_130) rfl rfl ?_
    refine go_iloadN (pc' := 133) X2 hx (hb hby d5_132) rfl rfl ?_
    refine go_icmpge (pc' := 136) (pcT := 279) X2 hx (hb hby d5_133) rfl (by decide) (by decide) (fun c133 => ?_) (fun c133 => ?_)
    · refine JH279 T2 h2 w4 (0 : Int64) (.unset) (.unset) X2 zs K E_r0 F_r0_text F_r0_sign F_r0_first F_r0_end F_r0_point F_r0_exponent F_r0_literal F_r0_whole A_r1 One.u One.u ?_
      · have q := own_geI c133
        rcases U4 with ⟨a, b⟩ | ⟨i5, d1, d2, sx, x1, x2, x3, -⟩
        · exact ⟨by omega, by rw [b]; rfl⟩
        · exfalso; rcases x3 with ⟨a, -⟩ | ⟨a, -, -⟩ | ⟨a, -, -⟩ <;> omega
    · have q133 := own_ltI c133
      obtain ⟨i5, d1, d2, sx, x1, x2, x3, x4, x5, x6, x7, x8, x9, x10⟩ : ∃ i5 d1 d2 sx : Int, (f i3 = 101 ∨ f i3 = 69) ∧ W = i5 + 2 ∧ ((i5 = i3 + 1 ∧ sx = 1) ∨ (i5 = i3 + 2 ∧ f (i3 + 1) = 43 ∧ sx = 1) ∨ (i5 = i3 + 2 ∧ f (i3 + 1) = 45 ∧ sx = -1)) ∧ (f i5).toInt = 48 + d1 ∧ (f (i5 + 1)).toInt = 48 + d2 ∧ 0 ≤ d1 ∧ d1 ≤ 9 ∧ 0 ≤ d2 ∧ d2 ≤ 9 ∧ wr = sx * (10 * d1 + d2) := by
        rcases U4 with ⟨a, -⟩ | y
        · exfalso; omega
        · exact y
      suffices J154_f : (True) → GoK p e below (DoneK s below n0 ({ frames := 2, cells := 0, slots := 0, locals := 40 } : Room).cells ({ frames := 2, cells := 0, slots := 0, locals := 40 } : Room).slots (QI (fun z h => Keep h0 h [r0] ∧ ((z = 0 ∧ i1 = i0 ∧ i3 = i2) ∨ (z = 1 ∧ ¬ (i1 = i0 ∧ i3 = i2) ∧ ∃ (sg fst en pnt : Int32) (ex wh : Int64), Exa Z h r0 "com/example/tracefold/tracefold/trace/DecimalText" ∧ Fld Z h r0 "com/example/tracefold/tracefold/trace/DecimalText" "text" "[B" (.ref r1) ∧ Fld Z h r0 "com/example/tracefold/tracefold/trace/DecimalText" "sign" "I" (.int sg) ∧ Fld Z h r0 "com/example/tracefold/tracefold/trace/DecimalText" "first" "I" (.int fst) ∧ Fld Z h r0 "com/example/tracefold/tracefold/trace/DecimalText" "end" "I" (.int en) ∧ Fld Z h r0 "com/example/tracefold/tracefold/trace/DecimalText" "point" "I" (.int pnt) ∧ Fld Z h r0 "com/example/tracefold/tracefold/trace/DecimalText" "exponent" "J" (.long ex) ∧ Fld Z h r0 "com/example/tracefold/tracefold/trace/DecimalText" "whole" "J" (.long wh) ∧ en.toInt = i3 ∧ own_R N i0 i1 i2 i3 sgn wr sg fst pnt ex wh))))) T2 (mkF m 154 #[.val (.ref r0), .val (.ref r1), .val (.int p2), .val (.int p3), .val (.int w4), .val (.int v5), .val (.int v4), .val (.int z1), .val (.int w8), .val (.int w9), .val (.int w4), .val (.long (0 : Int64)), .second, .unset, .unset, .unset, .unset] []) by
        refine go_aloadN (pc' := 137) X2 hx (hb hby d5_136) rfl rfl ?_
        refine go_iload (pc' := 139) X2 hx (hb hby d5_137) rfl rfl ?_
        refine go_baloadB (pc' := 140) X2 hx hZ A_r1 (by omega) (by omega) (hb hby d5_139) rfl (fun w139_f hw139_f => ?_)
        refine go_bipush (pc' := 142) (v := 101) X2 hx (hb hby d5_140) rfl rfl ?_
        refine go_icmpeq (pc' := 145) (pcT := 154) X2 hx (hb hby d5_142) rfl (by decide) (by decide) (fun c142_f => ?_) (fun c142_f => ?_)
        · refine J154_f   ?_
          exact trivial
        · refine go_aloadN (pc' := 146) X2 hx (hb hby d5_145) rfl rfl ?_
          refine go_iload (pc' := 148) X2 hx (hb hby d5_146) rfl rfl ?_
          refine go_baloadB (pc' := 149) X2 hx hZ A_r1 (by omega) (by omega) (hb hby d5_148) rfl (fun w148_ff hw148_ff => ?_)
          refine go_bipush (pc' := 151) (v := 69) X2 hx (hb hby d5_149) rfl rfl ?_
          refine go_icmpne (pc' := 154) (pcT := 279) X2 hx (hb hby d5_151) rfl (by decide) (by decide) (fun c151_ff => (by exfalso; rw [q4'] at hw139_f hw148_ff; rcases x1 with y | y; exact c142_f (by rw [hw139_f]; exact y); exact c151_ff (by rw [hw148_ff]; exact y))) (fun c151_ff => ?_)
          refine J154_f   ?_
          exact trivial
      intro  j154_f
      obtain ⟨v4_154_f, hv4_154_f⟩ : ∃ z : Int32, z = w4 + (1 : Int32) := ⟨_, rfl⟩
      refine go_iinc (pc' := 157) (L' := #[.val (.ref r0), .val (.ref r1), .val (.int p2), .val (.int p3), .val (.int v4_154_f), .val (.int v5), .val (.int v4), .val (.int z1), .val (.int w8), .val (.int w9), .val (.int w4), .val (.long (0 : Int64)), .second, .unset, .unset, .unset, .unset]) X2 hx (hb hby d5_154) rfl rfl hv4_154_f.symm rfl ?_
      have e154 := own_inc hv4_154_f (by omega)
      suffices J179_f : ∀ (n13 : Int32), ((n13 = 0 ∧ sx = 1) ∨ (n13 = 1 ∧ sx = -1)) → GoK p e below (DoneK s below n0 ({ frames := 2, cells := 0, slots := 0, locals := 40 } : Room).cells ({ frames := 2, cells := 0, slots := 0, locals := 40 } : Room).slots (QI (fun z h => Keep h0 h [r0] ∧ ((z = 0 ∧ i1 = i0 ∧ i3 = i2) ∨ (z = 1 ∧ ¬ (i1 = i0 ∧ i3 = i2) ∧ ∃ (sg fst en pnt : Int32) (ex wh : Int64), Exa Z h r0 "com/example/tracefold/tracefold/trace/DecimalText" ∧ Fld Z h r0 "com/example/tracefold/tracefold/trace/DecimalText" "text" "[B" (.ref r1) ∧ Fld Z h r0 "com/example/tracefold/tracefold/trace/DecimalText" "sign" "I" (.int sg) ∧ Fld Z h r0 "com/example/tracefold/tracefold/trace/DecimalText" "first" "I" (.int fst) ∧ Fld Z h r0 "com/example/tracefold/tracefold/trace/DecimalText" "end" "I" (.int en) ∧ Fld Z h r0 "com/example/tracefold/tracefold/trace/DecimalText" "point" "I" (.int pnt) ∧ Fld Z h r0 "com/example/tracefold/tracefold/trace/DecimalText" "exponent" "J" (.long ex) ∧ Fld Z h r0 "com/example/tracefold/tracefold/trace/DecimalText" "whole" "J" (.long wh) ∧ en.toInt = i3 ∧ own_R N i0 i1 i2 i3 sgn wr sg fst pnt ex wh))))) T2 (mkF m 179 #[.val (.ref r0), .val (.ref r1), .val (.int p2), .val (.int p3), .val (.int v4_154_f), .val (.int v5), .val (.int v4), .val (.int z1), .val (.int w8), .val (.int w9), .val (.int w4), .val (.long (0 : Int64)), .second, .val (.int n13), .unset, .unset, .unset] []) by
        refine go_iload (pc' := 159) X2 hx (hb hby d5_157) rfl rfl ?_
        refine go_iloadN (pc' := 160) X2 hx (hb hby d5_159) rfl rfl ?_
        refine go_icmpge (pc' := 163) (pcT := 176) X2 hx (hb hby d5_160) rfl (by decide) (by decide) (fun c160_f => ?_) (fun c160_f => ?_)
        · refine go_iconst (pc' := 177) (v := 0) X2 hx (hb hby d5_176) rfl rfl ?_
          refine go_istore (pc' := 179) (L' := #[.val (.ref r0), .val (.ref r1), .val (.int p2), .val (.int p3), .val (.int v4_154_f), .val (.int v5), .val (.int v4), .val (.int z1), .val (.int w8), .val (.int w9), .val (.int w4), .val (.long (0 : Int64)), .second, .val (.int (0 : Int32)), .unset, .unset, .unset]) X2 hx (hb hby d5_177) rfl rfl ?_
          refine J179_f (0 : Int32)  ?_
          have q := own_geI c160_f
          exfalso; rcases x3 with ⟨a, -⟩ | ⟨a, -, -⟩ | ⟨a, -, -⟩ <;> omega
        · refine go_aloadN (pc' := 164) X2 hx (hb hby d5_163) rfl rfl ?_
          refine go_iload (pc' := 166) X2 hx (hb hby d5_164) rfl rfl ?_
          refine go_baloadB (pc' := 167) X2 hx hZ A_r1 (by omega) (by omega) (hb hby d5_166) rfl (fun w166_ff hw166_ff => ?_)
          refine go_bipush (pc' := 169) (v := 45) X2 hx (hb hby d5_167) rfl rfl ?_
          refine go_icmpne (pc' := 172) (pcT := 176) X2 hx (hb hby d5_169) rfl (by decide) (by decide) (fun c169_ff => ?_) (fun c169_ff => ?_)
          · refine go_iconst (pc' := 177) (v := 0) X2 hx (hb hby d5_176) rfl rfl ?_
            refine go_istore (pc' := 179) (L' := #[.val (.ref r0), .val (.ref r1), .val (.int p2), .val (.int p3), .val (.int v4_154_f), .val (.int v5), .val (.int v4), .val (.int z1), .val (.int w8), .val (.int w9), .val (.int w4), .val (.long (0 : Int64)), .second, .val (.int (0 : Int32)), .unset, .unset, .unset]) X2 hx (hb hby d5_177) rfl rfl ?_
            refine J179_f (0 : Int32)  ?_
            rw [show v4_154_f.toInt = i3 + 1 by omega] at hw166_ff
            rcases x3 with ⟨a, b⟩ | ⟨a, b, b'⟩ | ⟨a, b, b'⟩
            · exact Or.inl ⟨rfl, b⟩
            · exact Or.inl ⟨rfl, b'⟩
            · exact absurd (by rw [hw166_ff]; exact b) c169_ff
          · refine go_iconst (pc' := 173) (v := 1) X2 hx (hb hby d5_172) rfl rfl ?_
            refine go_goto (pc' := 177) X2 hx (hb hby d5_173) (by decide) (by decide) ?_
            refine go_istore (pc' := 179) (L' := #[.val (.ref r0), .val (.ref r1), .val (.int p2), .val (.int p3), .val (.int v4_154_f), .val (.int v5), .val (.int v4), .val (.int z1), .val (.int w8), .val (.int w9), .val (.int w4), .val (.long (0 : Int64)), .second, .val (.int (1 : Int32)), .unset, .unset, .unset]) X2 hx (hb hby d5_177) rfl rfl ?_
            refine J179_f (1 : Int32)  ?_
            rw [show v4_154_f.toInt = i3 + 1 by omega] at hw166_ff
            rcases x3 with ⟨a, b⟩ | ⟨a, b, b'⟩ | ⟨a, b, b'⟩
            · exfalso; rw [← a] at hw166_ff; have y := own_eqI c169_ff; rw [hw166_ff] at y; have : (45 : Int32).toInt = 45 := rfl; omega
            · exfalso; rw [hw166_ff, b] at c169_ff; revert c169_ff; decide
            · exact Or.inr ⟨rfl, b'⟩
      intro n13 j179_f
      suffices J206_f : ∀ (u4 : Int32), (u4.toInt = i5) → GoK p e below (DoneK s below n0 ({ frames := 2, cells := 0, slots := 0, locals := 40 } : Room).cells ({ frames := 2, cells := 0, slots := 0, locals := 40 } : Room).slots (QI (fun z h => Keep h0 h [r0] ∧ ((z = 0 ∧ i1 = i0 ∧ i3 = i2) ∨ (z = 1 ∧ ¬ (i1 = i0 ∧ i3 = i2) ∧ ∃ (sg fst en pnt : Int32) (ex wh : Int64), Exa Z h r0 "com/example/tracefold/tracefold/trace/DecimalText" ∧ Fld Z h r0 "com/example/tracefold/tracefold/trace/DecimalText" "text" "[B" (.ref r1) ∧ Fld Z h r0 "com/example/tracefold/tracefold/trace/DecimalText" "sign" "I" (.int sg) ∧ Fld Z h r0 "com/example/tracefold/tracefold/trace/DecimalText" "first" "I" (.int fst) ∧ Fld Z h r0 "com/example/tracefold/tracefold/trace/DecimalText" "end" "I" (.int en) ∧ Fld Z h r0 "com/example/tracefold/tracefold/trace/DecimalText" "point" "I" (.int pnt) ∧ Fld Z h r0 "com/example/tracefold/tracefold/trace/DecimalText" "exponent" "J" (.long ex) ∧ Fld Z h r0 "com/example/tracefold/tracefold/trace/DecimalText" "whole" "J" (.long wh) ∧ en.toInt = i3 ∧ own_R N i0 i1 i2 i3 sgn wr sg fst pnt ex wh))))) T2 (mkF m 206 #[.val (.ref r0), .val (.ref r1), .val (.int p2), .val (.int p3), .val (.int u4), .val (.int v5), .val (.int v4), .val (.int z1), .val (.int w8), .val (.int w9), .val (.int w4), .val (.long (0 : Int64)), .second, .val (.int n13), .unset, .unset, .unset] []) by
        refine go_iload (pc' := 181) X2 hx (hb hby d5_179) rfl rfl ?_
        refine go_iloadN (pc' := 182) X2 hx (hb hby d5_181) rfl rfl ?_
        refine go_icmpge (pc' := 185) (pcT := 206) X2 hx (hb hby d5_182) rfl (by decide) (by decide) (fun c182_f => ?_) (fun c182_f => ?_)
        · refine J206_f v4_154_f  ?_
          have q := own_geI c182_f
          exfalso; rcases x3 with ⟨a, -⟩ | ⟨a, -, -⟩ | ⟨a, -, -⟩ <;> omega
        · refine go_aloadN (pc' := 186) X2 hx (hb hby d5_185) rfl rfl ?_
          refine go_iload (pc' := 188) X2 hx (hb hby d5_186) rfl rfl ?_
          refine go_baloadB (pc' := 189) X2 hx hZ A_r1 (by omega) (by omega) (hb hby d5_188) rfl (fun w188_ff hw188_ff => ?_)
          refine go_bipush (pc' := 191) (v := 43) X2 hx (hb hby d5_189) rfl rfl ?_
          refine go_icmpeq (pc' := 194) (pcT := 203) X2 hx (hb hby d5_191) rfl (by decide) (by decide) (fun c191_ff => ?_) (fun c191_ff => ?_)
          · obtain ⟨v4_203_fft, hv4_203_fft⟩ : ∃ z : Int32, z = v4_154_f + (1 : Int32) := ⟨_, rfl⟩
            refine go_iinc (pc' := 206) (L' := #[.val (.ref r0), .val (.ref r1), .val (.int p2), .val (.int p3), .val (.int v4_203_fft), .val (.int v5), .val (.int v4), .val (.int z1), .val (.int w8), .val (.int w9), .val (.int w4), .val (.long (0 : Int64)), .second, .val (.int n13), .unset, .unset, .unset]) X2 hx (hb hby d5_203) rfl rfl hv4_203_fft.symm rfl ?_
            refine J206_f v4_203_fft  ?_
            rw [show v4_154_f.toInt = i3 + 1 by omega] at hw188_ff
            have e203 := own_inc hv4_203_fft (by omega)
            rcases x3 with ⟨a, b⟩ | ⟨a, b, b'⟩ | ⟨a, b, b'⟩
            · exfalso; rw [← a] at hw188_ff; have y := own_eqI c191_ff; rw [hw188_ff] at y; have : (43 : Int32).toInt = 43 := rfl; omega
            · omega
            · omega
          · refine go_aloadN (pc' := 195) X2 hx (hb hby d5_194) rfl rfl ?_
            refine go_iload (pc' := 197) X2 hx (hb hby d5_195) rfl rfl ?_
            refine go_baloadB (pc' := 198) X2 hx hZ A_r1 (by omega) (by omega) (hb hby d5_197) rfl (fun w197_fff hw197_fff => ?_)
            refine go_bipush (pc' := 200) (v := 45) X2 hx (hb hby d5_198) rfl rfl ?_
            refine go_icmpne (pc' := 203) (pcT := 206) X2 hx (hb hby d5_200) rfl (by decide) (by decide) (fun c200_fff => ?_) (fun c200_fff => ?_)
            · refine J206_f v4_154_f  ?_
              rw [show v4_154_f.toInt = i3 + 1 by omega] at hw188_ff
              rw [show v4_154_f.toInt = i3 + 1 by omega] at hw197_fff
              rcases x3 with ⟨a, b⟩ | ⟨a, b, b'⟩ | ⟨a, b, b'⟩
              · omega
              · exact absurd (by rw [hw188_ff]; exact b) c191_ff
              · exact absurd (by rw [hw197_fff]; exact b) c200_fff
            · obtain ⟨v4_203_ffff, hv4_203_ffff⟩ : ∃ z : Int32, z = v4_154_f + (1 : Int32) := ⟨_, rfl⟩
              refine go_iinc (pc' := 206) (L' := #[.val (.ref r0), .val (.ref r1), .val (.int p2), .val (.int p3), .val (.int v4_203_ffff), .val (.int v5), .val (.int v4), .val (.int z1), .val (.int w8), .val (.int w9), .val (.int w4), .val (.long (0 : Int64)), .second, .val (.int n13), .unset, .unset, .unset]) X2 hx (hb hby d5_203) rfl rfl hv4_203_ffff.symm rfl ?_
              refine J206_f v4_203_ffff  ?_
              rw [show v4_154_f.toInt = i3 + 1 by omega] at hw188_ff
              rw [show v4_154_f.toInt = i3 + 1 by omega] at hw197_fff
              have e203 := own_inc hv4_203_ffff (by omega)
              rcases x3 with ⟨a, b⟩ | ⟨a, b, b'⟩ | ⟨a, b, b'⟩
              · exfalso; rw [← a] at hw197_fff; have y := own_eqI c200_fff; rw [hw197_fff] at y; have : (45 : Int32).toInt = 45 := rfl; omega
              · omega
              · omega
      intro u4 j206_f
      refine go_iload (pc' := 208) X2 hx (hb hby d5_206) rfl rfl ?_
      refine go_istore (pc' := 210) (L' := #[.val (.ref r0), .val (.ref r1), .val (.int p2), .val (.int p3), .val (.int u4), .val (.int v5), .val (.int v4), .val (.int z1), .val (.int w8), .val (.int w9), .val (.int w4), .val (.long (0 : Int64)), .second, .val (.int n13), .val (.int u4), .unset, .unset]) X2 hx (hb hby d5_208) rfl rfl ?_
      have p0' : u4.toInt = i5 := j206_f
      refine go_iload (pc' := 212) X2 hx (hb hby d5_210) rfl rfl ?_
      refine go_iloadN (pc' := 213) X2 hx (hb hby d5_212) rfl rfl ?_
      refine go_icmpge (pc' := 216) (pcT := 255) X2 hx (hb hby d5_213) rfl (by decide) (by decide) (fun c213_f => (by exfalso; have y := own_geI c213_f; omega)) (fun c213_f => ?_)
      refine go_aloadN (pc' := 217) X2 hx (hb hby d5_216) rfl rfl ?_
      refine go_iload (pc' := 219) X2 hx (hb hby d5_217) rfl rfl ?_
      refine go_baloadB (pc' := 220) X2 hx hZ A_r1 (by omega) (by omega) (hb hby d5_219) rfl (fun w219_f hw219_f => ?_)
      refine go_callS (pc' := 223) (W := 0) (cells' := 0) (slots' := 0) (rm := ({ frames := 0, cells := 0, slots := 0, locals := 0 } : Room)) (aL := [.int w219_f]) (St := []) X2 hx hZ hown (by rw [hml]; rfl) (hw _ (List.mem_of_getElem? (i := 45) rfl)) (hw _ (List.mem_of_getElem? (i := 46) rfl)) (hw _ (List.mem_of_getElem? (i := 30) rfl)) (hw _ (List.mem_of_getElem? (i := 47) rfl)) (by decide) pd_0 rfl (ct_7 l Z a0 hw zs w219_f) (hb hby d5_220) rfl (by decide) (Nat.le_of_eq rfl) (by decide) (by decide) (by decide) rfl rfl (fun T5 h5 v5 X5 Q5 => ?_) rfl
      obtain ⟨z5, rfl, hz5, eh5⟩ := Q5
      subst h5
      show GoK p e below _ T5 (mkF m 223 #[.val (.ref r0), .val (.ref r1), .val (.int p2), .val (.int p3), .val (.int u4), .val (.int v5), .val (.int v4), .val (.int z1), .val (.int w8), .val (.int w9), .val (.int w4), .val (.long (0 : Int64)), .second, .val (.int n13), .val (.int u4), .unset, .unset] [.int z5])
      refine go_ifeq (pc' := 226) (pcT := 255) X5 hx (hb hby d5_223) rfl (by decide) (by decide) (fun c223_f => (by exfalso; rcases own_isd hz5 with ⟨a, b⟩ | ⟨a, b⟩; (rw [a] at c223_f; revert c223_f; decide); (apply b; rw [hw219_f, p0', own_dig]; omega))) (fun c223_f => ?_)
      refine go_ldc2 (pc' := 229) X5 hx hZ hown (hw _ (List.mem_of_getElem? (i := 87) rfl)) (hb hby d5_226) rfl ?_
      refine go_lload (pc' := 231) X5 hx (hb hby d5_229) rfl rfl ?_
      refine go_ldc2 (pc' := 234) X5 hx hZ hown (hw _ (List.mem_of_getElem? (i := 73) rfl)) (hb hby d5_231) rfl ?_
      refine go_lmul (pc' := 235) X5 hx (hb hby d5_234) rfl ?_
      refine go_aloadN (pc' := 236) X5 hx (hb hby d5_235) rfl rfl ?_
      refine go_iload (pc' := 238) X5 hx (hb hby d5_236) rfl rfl ?_
      refine go_baloadB (pc' := 239) X5 hx hZ A_r1 (by omega) (by omega) (hb hby d5_238) rfl (fun w238_f hw238_f => ?_)
      refine go_bipush (pc' := 241) (v := 48) X5 hx (hb hby d5_239) rfl rfl ?_
      refine go_isub (pc' := 242) X5 hx (hb hby d5_241) rfl ?_
      refine go_i2l (pc' := 243) X5 hx (hb hby d5_242) rfl ?_
      refine go_ladd (pc' := 244) X5 hx (hb hby d5_243) rfl ?_
      refine go_callS (pc' := 247) (W := 0) (cells' := 0) (slots' := 0) (rm := ({ frames := 0, cells := 0, slots := 0, locals := 0 } : Room)) (aL := [.long (1000000000000000 : Int64), .long (((0 : Int64) * (10 : Int64)) + ((w238_f - (48 : Int32)).toInt64))]) (St := []) X5 hx hZ hown (by rw [hml]; rfl) (hw _ (List.mem_of_getElem? (i := 88) rfl)) (hw _ (List.mem_of_getElem? (i := 89) rfl)) (hw _ (List.mem_of_getElem? (i := 65) rfl)) (hw _ (List.mem_of_getElem? (i := 90) rfl)) (by decide) pd_2 rfl (ct_12 l Z a0 hw zs (1000000000000000 : Int64) (((0 : Int64) * (10 : Int64)) + ((w238_f - (48 : Int32)).toInt64))) (hb hby d5_244) rfl (by decide) (Nat.le_of_eq rfl) (by decide) (by decide) (by decide) rfl rfl (fun T6 h6 v6 X6 Q6 => ?_) rfl
      obtain ⟨z6, rfl, hz6, eh6⟩ := Q6
      subst h6
      show GoK p e below _ T6 (mkF m 247 #[.val (.ref r0), .val (.ref r1), .val (.int p2), .val (.int p3), .val (.int u4), .val (.int v5), .val (.int v4), .val (.int z1), .val (.int w8), .val (.int w9), .val (.int w4), .val (.long (0 : Int64)), .second, .val (.int n13), .val (.int u4), .unset, .unset] [.long z6])
      refine go_lstore (pc' := 249) (L' := #[.val (.ref r0), .val (.ref r1), .val (.int p2), .val (.int p3), .val (.int u4), .val (.int v5), .val (.int v4), .val (.int z1), .val (.int w8), .val (.int w9), .val (.int w4), .val (.long z6), .second, .val (.int n13), .val (.int u4), .unset, .unset]) X6 hx (hb hby d5_247) rfl rfl ?_
      have m0 : z6.toInt = d1 := own_mn hz6 (by rw [hw238_f, p0']; exact x4) (by omega) (by omega) (P := 0) (by rfl) (by omega) (by omega) (by omega)
      obtain ⟨v4_249_f, hv4_249_f⟩ : ∃ z : Int32, z = u4 + (1 : Int32) := ⟨_, rfl⟩
      refine go_iinc (pc' := 252) (L' := #[.val (.ref r0), .val (.ref r1), .val (.int p2), .val (.int p3), .val (.int v4_249_f), .val (.int v5), .val (.int v4), .val (.int z1), .val (.int w8), .val (.int w9), .val (.int w4), .val (.long z6), .second, .val (.int n13), .val (.int u4), .unset, .unset]) X6 hx (hb hby d5_249) rfl rfl hv4_249_f.symm rfl ?_
      refine go_goto (pc' := 210) X6 hx (hb hby d5_252) (by decide) (by decide) ?_
      have p1' : v4_249_f.toInt = i5 + 1 := by have := own_inc hv4_249_f (by omega); omega
      refine go_iload (pc' := 212) X6 hx (hb hby d5_210) rfl rfl ?_
      refine go_iloadN (pc' := 213) X6 hx (hb hby d5_212) rfl rfl ?_
      refine go_icmpge (pc' := 216) (pcT := 255) X6 hx (hb hby d5_213) rfl (by decide) (by decide) (fun c213_f => (by exfalso; have y := own_geI c213_f; omega)) (fun c213_f => ?_)
      refine go_aloadN (pc' := 217) X6 hx (hb hby d5_216) rfl rfl ?_
      refine go_iload (pc' := 219) X6 hx (hb hby d5_217) rfl rfl ?_
      refine go_baloadB (pc' := 220) X6 hx hZ A_r1 (by omega) (by omega) (hb hby d5_219) rfl (fun w219_f hw219_f => ?_)
      refine go_callS (pc' := 223) (W := 0) (cells' := 0) (slots' := 0) (rm := ({ frames := 0, cells := 0, slots := 0, locals := 0 } : Room)) (aL := [.int w219_f]) (St := []) X6 hx hZ hown (by rw [hml]; rfl) (hw _ (List.mem_of_getElem? (i := 45) rfl)) (hw _ (List.mem_of_getElem? (i := 46) rfl)) (hw _ (List.mem_of_getElem? (i := 30) rfl)) (hw _ (List.mem_of_getElem? (i := 47) rfl)) (by decide) pd_0 rfl (ct_7 l Z a0 hw zs w219_f) (hb hby d5_220) rfl (by decide) (Nat.le_of_eq rfl) (by decide) (by decide) (by decide) rfl rfl (fun T7 h7 v7 X7 Q7 => ?_) rfl
      obtain ⟨z7, rfl, hz7, eh7⟩ := Q7
      subst h7
      show GoK p e below _ T7 (mkF m 223 #[.val (.ref r0), .val (.ref r1), .val (.int p2), .val (.int p3), .val (.int v4_249_f), .val (.int v5), .val (.int v4), .val (.int z1), .val (.int w8), .val (.int w9), .val (.int w4), .val (.long z6), .second, .val (.int n13), .val (.int u4), .unset, .unset] [.int z7])
      refine go_ifeq (pc' := 226) (pcT := 255) X7 hx (hb hby d5_223) rfl (by decide) (by decide) (fun c223_f => (by exfalso; rcases own_isd hz7 with ⟨a, b⟩ | ⟨a, b⟩; (rw [a] at c223_f; revert c223_f; decide); (apply b; rw [hw219_f, p1', own_dig]; omega))) (fun c223_f => ?_)
      refine go_ldc2 (pc' := 229) X7 hx hZ hown (hw _ (List.mem_of_getElem? (i := 87) rfl)) (hb hby d5_226) rfl ?_
      refine go_lload (pc' := 231) X7 hx (hb hby d5_229) rfl rfl ?_
      refine go_ldc2 (pc' := 234) X7 hx hZ hown (hw _ (List.mem_of_getElem? (i := 73) rfl)) (hb hby d5_231) rfl ?_
      refine go_lmul (pc' := 235) X7 hx (hb hby d5_234) rfl ?_
      refine go_aloadN (pc' := 236) X7 hx (hb hby d5_235) rfl rfl ?_
      refine go_iload (pc' := 238) X7 hx (hb hby d5_236) rfl rfl ?_
      refine go_baloadB (pc' := 239) X7 hx hZ A_r1 (by omega) (by omega) (hb hby d5_238) rfl (fun w238_f hw238_f => ?_)
      refine go_bipush (pc' := 241) (v := 48) X7 hx (hb hby d5_239) rfl rfl ?_
      refine go_isub (pc' := 242) X7 hx (hb hby d5_241) rfl ?_
      refine go_i2l (pc' := 243) X7 hx (hb hby d5_242) rfl ?_
      refine go_ladd (pc' := 244) X7 hx (hb hby d5_243) rfl ?_
      refine go_callS (pc' := 247) (W := 0) (cells' := 0) (slots' := 0) (rm := ({ frames := 0, cells := 0, slots := 0, locals := 0 } : Room)) (aL := [.long (1000000000000000 : Int64), .long ((z6 * (10 : Int64)) + ((w238_f - (48 : Int32)).toInt64))]) (St := []) X7 hx hZ hown (by rw [hml]; rfl) (hw _ (List.mem_of_getElem? (i := 88) rfl)) (hw _ (List.mem_of_getElem? (i := 89) rfl)) (hw _ (List.mem_of_getElem? (i := 65) rfl)) (hw _ (List.mem_of_getElem? (i := 90) rfl)) (by decide) pd_2 rfl (ct_12 l Z a0 hw zs (1000000000000000 : Int64) ((z6 * (10 : Int64)) + ((w238_f - (48 : Int32)).toInt64))) (hb hby d5_244) rfl (by decide) (Nat.le_of_eq rfl) (by decide) (by decide) (by decide) rfl rfl (fun T8 h8 v8 X8 Q8 => ?_) rfl
      obtain ⟨z8, rfl, hz8, eh8⟩ := Q8
      subst h8
      show GoK p e below _ T8 (mkF m 247 #[.val (.ref r0), .val (.ref r1), .val (.int p2), .val (.int p3), .val (.int v4_249_f), .val (.int v5), .val (.int v4), .val (.int z1), .val (.int w8), .val (.int w9), .val (.int w4), .val (.long z6), .second, .val (.int n13), .val (.int u4), .unset, .unset] [.long z8])
      refine go_lstore (pc' := 249) (L' := #[.val (.ref r0), .val (.ref r1), .val (.int p2), .val (.int p3), .val (.int v4_249_f), .val (.int v5), .val (.int v4), .val (.int z1), .val (.int w8), .val (.int w9), .val (.int w4), .val (.long z8), .second, .val (.int n13), .val (.int u4), .unset, .unset]) X8 hx (hb hby d5_247) rfl rfl ?_
      have m1 : z8.toInt = 10 * d1 + d2 := own_mn hz8 (by rw [hw238_f, p1']; exact x5) (by omega) (by omega) m0 (by omega) (by omega) (by omega)
      obtain ⟨v4_249_f, hv4_249_f⟩ : ∃ z : Int32, z = v4_249_f + (1 : Int32) := ⟨_, rfl⟩
      refine go_iinc (pc' := 252) (L' := #[.val (.ref r0), .val (.ref r1), .val (.int p2), .val (.int p3), .val (.int v4_249_f), .val (.int v5), .val (.int v4), .val (.int z1), .val (.int w8), .val (.int w9), .val (.int w4), .val (.long z8), .second, .val (.int n13), .val (.int u4), .unset, .unset]) X8 hx (hb hby d5_249) rfl rfl hv4_249_f.symm rfl ?_
      refine go_goto (pc' := 210) X8 hx (hb hby d5_252) (by decide) (by decide) ?_
      have p2' : v4_249_f.toInt = i5 + 2 := by have := own_inc hv4_249_f (by omega); omega
      refine go_iload (pc' := 212) X8 hx (hb hby d5_210) rfl rfl ?_
      refine go_iloadN (pc' := 213) X8 hx (hb hby d5_212) rfl rfl ?_
      refine go_icmpge (pc' := 216) (pcT := 255) X8 hx (hb hby d5_213) rfl (by decide) (by decide) (fun c213_f => ?_) (fun c213_f => (by exfalso; have y := own_ltI c213_f; omega))
      refine go_iload (pc' := 257) X8 hx (hb hby d5_255) rfl rfl ?_
      refine go_iload (pc' := 259) X8 hx (hb hby d5_257) rfl rfl ?_
      refine go_icmpne (pc' := 262) (pcT := 264) X8 hx (hb hby d5_259) rfl (by decide) (by decide) (fun c259_f => ?_) (fun c259_f => (by exfalso; have y := own_eqI c259_f; omega))
      refine go_iload (pc' := 266) X8 hx (hb hby d5_264) rfl rfl ?_
      refine go_ifeq (pc' := 269) (pcT := 275) X8 hx (hb hby d5_266) rfl (by decide) (by decide) (fun c266_f => ?_) (fun c266_f => ?_)
      · refine go_lload (pc' := 277) X8 hx (hb hby d5_275) rfl rfl ?_
        refine go_lstore (pc' := 279) (L' := #[.val (.ref r0), .val (.ref r1), .val (.int p2), .val (.int p3), .val (.int v4_249_f), .val (.int v5), .val (.int v4), .val (.int z1), .val (.int w8), .val (.int w9), .val (.int w4), .val (.long z8), .second, .val (.int n13), .val (.int u4), .unset, .unset]) X8 hx (hb hby d5_277) rfl rfl ?_
        refine JH279 T8 h2 v4_249_f z8 (.val (.int n13)) (.val (.int u4)) X8 zs K E_r0 F_r0_text F_r0_sign F_r0_first F_r0_end F_r0_point F_r0_exponent F_r0_literal F_r0_whole A_r1 (One.val rfl) (One.val rfl) ?_
        · refine ⟨by omega, ?_⟩
          rcases j179_f with ⟨a, b⟩ | ⟨a, b⟩
          · rw [x10, b]; omega
          · exfalso; rw [a] at c266_f; revert c266_f; decide
      · refine go_lload (pc' := 271) X8 hx (hb hby d5_269) rfl rfl ?_
        refine go_lneg (pc' := 272) X8 hx (hb hby d5_271) rfl ?_
        refine go_goto (pc' := 277) X8 hx (hb hby d5_272) (by decide) (by decide) ?_
        refine go_nameJ (fun v11_277_ff hv11_277_ff => ?_)
        refine go_lstore (pc' := 279) (L' := #[.val (.ref r0), .val (.ref r1), .val (.int p2), .val (.int p3), .val (.int v4_249_f), .val (.int v5), .val (.int v4), .val (.int z1), .val (.int w8), .val (.int w9), .val (.int w4), .val (.long v11_277_ff), .second, .val (.int n13), .val (.int u4), .unset, .unset]) X8 hx (hb hby d5_277) rfl rfl ?_
        refine JH279 T8 h2 v4_249_f v11_277_ff (.val (.int n13)) (.val (.int u4)) X8 zs K E_r0 F_r0_text F_r0_sign F_r0_first F_r0_end F_r0_point F_r0_exponent F_r0_literal F_r0_whole A_r1 (One.val rfl) (One.val rfl) ?_
        · refine ⟨by omega, ?_⟩
          have ng := c_lneg z8
          have rn := rng64 (-z8)
          rcases j179_f with ⟨a, b⟩ | ⟨a, b⟩
          · exact absurd a c266_f
          · rw [hv11_277_ff, x10, b]; omega
  intro T4 h4 y4 y11 s13 s14 X4 zs K E_r0 F_r0_text F_r0_sign F_r0_first F_r0_end F_r0_point F_r0_exponent F_r0_literal F_r0_whole A_r1 hs13 hs14 jh279
  refine go_iload (pc' := 281) X4 hx (hb hby d5_279) rfl rfl ?_
  refine go_iloadN (pc' := 282) X4 hx (hb hby d5_281) rfl rfl ?_
  refine go_icmpeq (pc' := 285) (pcT := 287) X4 hx (hb hby d5_282) rfl (by decide) (by decide) (fun c282 => ?_) (fun c282 => (by exfalso; exact c282 (Int32.toInt_inj.mp (by omega))))
  suffices JH346 : ∀ (T9 : State) (h9 : Heap) (s5 : Int32) (f13 : Int32) (e14 : Int64), OnK p l e ({ frames := 2, cells := 0, slots := 0, locals := 40 } : Room) s m #[.ref r0, .ref r1, .int p2, .int p3] below meth c n0 T9 h9 0 0 → n0 ≤ h9.size → Keep h0 h9 [r0] → Exa Z h9 r0 "com/example/tracefold/tracefold/trace/DecimalText" → Fld Z h9 r0 "com/example/tracefold/tracefold/trace/DecimalText" "text" "[B" (u_text) → Fld Z h9 r0 "com/example/tracefold/tracefold/trace/DecimalText" "sign" "I" (u_sign) → Fld Z h9 r0 "com/example/tracefold/tracefold/trace/DecimalText" "first" "I" (u_first) → Fld Z h9 r0 "com/example/tracefold/tracefold/trace/DecimalText" "end" "I" (u_end) → Fld Z h9 r0 "com/example/tracefold/tracefold/trace/DecimalText" "point" "I" (u_point) → Fld Z h9 r0 "com/example/tracefold/tracefold/trace/DecimalText" "exponent" "J" (u_exponent) → Fld Z h9 r0 "com/example/tracefold/tracefold/trace/DecimalText" "literal" "Z" (u_literal) → Fld Z h9 r0 "com/example/tracefold/tracefold/trace/DecimalText" "whole" "J" (u_whole) → AIK Z h9 r1 .byte (26) f → (own_S N i0 i1 i2 i3 sgn wr s5 f13 e14) → GoK p e below (DoneK s below n0 ({ frames := 2, cells := 0, slots := 0, locals := 40 } : Room).cells ({ frames := 2, cells := 0, slots := 0, locals := 40 } : Room).slots (QI (fun z h => Keep h0 h [r0] ∧ ((z = 0 ∧ i1 = i0 ∧ i3 = i2) ∨ (z = 1 ∧ ¬ (i1 = i0 ∧ i3 = i2) ∧ ∃ (sg fst en pnt : Int32) (ex wh : Int64), Exa Z h r0 "com/example/tracefold/tracefold/trace/DecimalText" ∧ Fld Z h r0 "com/example/tracefold/tracefold/trace/DecimalText" "text" "[B" (.ref r1) ∧ Fld Z h r0 "com/example/tracefold/tracefold/trace/DecimalText" "sign" "I" (.int sg) ∧ Fld Z h r0 "com/example/tracefold/tracefold/trace/DecimalText" "first" "I" (.int fst) ∧ Fld Z h r0 "com/example/tracefold/tracefold/trace/DecimalText" "end" "I" (.int en) ∧ Fld Z h r0 "com/example/tracefold/tracefold/trace/DecimalText" "point" "I" (.int pnt) ∧ Fld Z h r0 "com/example/tracefold/tracefold/trace/DecimalText" "exponent" "J" (.long ex) ∧ Fld Z h r0 "com/example/tracefold/tracefold/trace/DecimalText" "whole" "J" (.long wh) ∧ en.toInt = i3 ∧ own_R N i0 i1 i2 i3 sgn wr sg fst pnt ex wh))))) T9 (mkF m 346 #[.val (.ref r0), .val (.ref r1), .val (.int p2), .val (.int p3), .val (.int y4), .val (.int s5), .val (.int v4), .val (.int z1), .val (.int w8), .val (.int w9), .val (.int w4), .val (.long y11), .second, .val (.int f13), .val (.long e14), .second, .unset] []) by
    obtain ⟨y1, y2⟩ := jh279
    refine go_aloadN (pc' := 288) X4 hx (hb hby d5_287) rfl rfl ?_
    refine go_iload (pc' := 290) X4 hx (hb hby d5_288) rfl rfl ?_
    refine go_iload (pc' := 292) X4 hx (hb hby d5_290) rfl rfl ?_
    refine go_callS (pc' := 295) (W := 0) (cells' := 0) (slots' := 0) (rm := ({ frames := 0, cells := 0, slots := 0, locals := 0 } : Room)) (aL := [.ref r1, .int v4, .int z1]) (St := []) X4 hx hZ hown (by rw [hml]; rfl) (hw _ (List.mem_of_getElem? (i := 48) rfl)) (hw _ (List.mem_of_getElem? (i := 49) rfl)) (hw _ (List.mem_of_getElem? (i := 30) rfl)) (hw _ (List.mem_of_getElem? (i := 50) rfl)) (by decide) pd_1 rfl (ct_8 l Z a0 hw zs r1 v4 z1 f A_r1 (by omega) (by omega) (by omega)) (hb hby d5_292) rfl (by decide) (Nat.le_of_eq rfl) (by decide) (by decide) (by decide) rfl rfl (fun T10 h10 v10 X10 Q10 => ?_) rfl
    obtain ⟨z10, rfl, hz10, eh10⟩ := Q10
    subst h10
    show GoK p e below _ T10 (mkF m 295 #[.val (.ref r0), .val (.ref r1), .val (.int p2), .val (.int p3), .val (.int y4), .val (.int v5), .val (.int v4), .val (.int z1), .val (.int w8), .val (.int w9), .val (.int w4), .val (.long y11), .second, s13, s14, .unset, .unset] [.int z10])
    refine go_istore (pc' := 297) (L' := #[.val (.ref r0), .val (.ref r1), .val (.int p2), .val (.int p3), .val (.int y4), .val (.int v5), .val (.int v4), .val (.int z1), .val (.int w8), .val (.int w9), .val (.int w4), .val (.long y11), .second, .val (.int z10), s14, .unset, .unset]) X10 hx (hb hby d5_295) rfl (XS.store1 rfl hs13 rfl) ?_
    refine go_lload (pc' := 299) X10 hx (hb hby d5_297) rfl rfl ?_
    refine go_iload (pc' := 301) X10 hx (hb hby d5_299) rfl rfl ?_
    refine go_iload (pc' := 303) X10 hx (hb hby d5_301) rfl rfl ?_
    refine go_isub (pc' := 304) X10 hx (hb hby d5_303) rfl ?_
    refine go_i2l (pc' := 305) X10 hx (hb hby d5_304) rfl ?_
    refine go_ladd (pc' := 306) X10 hx (hb hby d5_305) rfl ?_
    refine go_nameJ (fun v14_306 hv14_306 => ?_)
    refine go_lstore (pc' := 308) (L' := #[.val (.ref r0), .val (.ref r1), .val (.int p2), .val (.int p3), .val (.int y4), .val (.int v5), .val (.int v4), .val (.int z1), .val (.int w8), .val (.int w9), .val (.int w4), .val (.long y11), .second, .val (.int z10), .val (.long v14_306), .second, .unset]) X10 hx (hb hby d5_306) rfl (by rcases hs14 with rfl | ⟨w', rfl, hw'⟩ <;> first | rfl | (cases w' <;> first | rfl | (simp [Value.category] at hw'))) ?_
    refine go_iload (pc' := 310) X10 hx (hb hby d5_308) rfl rfl ?_
    refine go_iload (pc' := 312) X10 hx (hb hby d5_310) rfl rfl ?_
    refine go_icmpne (pc' := 315) (pcT := 346) X10 hx (hb hby d5_312) rfl (by decide) (by decide) (fun c312 => ?_) (fun c312 => ?_)
    · refine JH346 T10 h4 v5 z10 v14_306 X10 zs K E_r0 F_r0_text F_r0_sign F_r0_first F_r0_end F_r0_point F_r0_exponent F_r0_literal F_r0_whole A_r1 ?_
      · have q := own_neI c312
        exact own_f1 U1 U2 U3 U3' U4 (by rw [← q4, ← e7]; exact hz10) (by rw [← e7]; exact q) q5 y2 e7 hW hv14_306
    · refine go_aloadN (pc' := 316) X10 hx (hb hby d5_315) rfl rfl ?_
      refine go_iload (pc' := 318) X10 hx (hb hby d5_316) rfl rfl ?_
      refine go_iload (pc' := 320) X10 hx (hb hby d5_318) rfl rfl ?_
      refine go_callS (pc' := 323) (W := 0) (cells' := 0) (slots' := 0) (rm := ({ frames := 0, cells := 0, slots := 0, locals := 0 } : Room)) (aL := [.ref r1, .int w8, .int w4]) (St := []) X10 hx hZ hown (by rw [hml]; rfl) (hw _ (List.mem_of_getElem? (i := 48) rfl)) (hw _ (List.mem_of_getElem? (i := 49) rfl)) (hw _ (List.mem_of_getElem? (i := 30) rfl)) (hw _ (List.mem_of_getElem? (i := 50) rfl)) (by decide) pd_1 rfl (ct_8 l Z a0 hw zs r1 w8 w4 f A_r1 (by omega) (by omega) (by omega)) (hb hby d5_320) rfl (by decide) (Nat.le_of_eq rfl) (by decide) (by decide) (by decide) rfl rfl (fun T11 h11 v11 X11 Q11 => ?_) rfl
      obtain ⟨z11, rfl, hz11, eh11⟩ := Q11
      subst h11
      show GoK p e below _ T11 (mkF m 323 #[.val (.ref r0), .val (.ref r1), .val (.int p2), .val (.int p3), .val (.int y4), .val (.int v5), .val (.int v4), .val (.int z1), .val (.int w8), .val (.int w9), .val (.int w4), .val (.long y11), .second, .val (.int z10), .val (.long v14_306), .second, .unset] [.int z11])
      refine go_istore (pc' := 325) (L' := #[.val (.ref r0), .val (.ref r1), .val (.int p2), .val (.int p3), .val (.int y4), .val (.int v5), .val (.int v4), .val (.int z1), .val (.int w8), .val (.int w9), .val (.int w4), .val (.long y11), .second, .val (.int z11), .val (.long v14_306), .second, .unset]) X11 hx (hb hby d5_323) rfl rfl ?_
      refine go_lload (pc' := 327) X11 hx (hb hby d5_325) rfl rfl ?_
      refine go_iload (pc' := 329) X11 hx (hb hby d5_327) rfl rfl ?_
      refine go_iload (pc' := 331) X11 hx (hb hby d5_329) rfl rfl ?_
      refine go_isub (pc' := 332) X11 hx (hb hby d5_331) rfl ?_
      refine go_i2l (pc' := 333) X11 hx (hb hby d5_332) rfl ?_
      refine go_lsub (pc' := 334) X11 hx (hb hby d5_333) rfl ?_
      refine go_nameJ (fun v14_334_f hv14_334_f => ?_)
      refine go_lstore (pc' := 336) (L' := #[.val (.ref r0), .val (.ref r1), .val (.int p2), .val (.int p3), .val (.int y4), .val (.int v5), .val (.int v4), .val (.int z1), .val (.int w8), .val (.int w9), .val (.int w4), .val (.long y11), .second, .val (.int z11), .val (.long v14_334_f), .second, .unset]) X11 hx (hb hby d5_334) rfl rfl ?_
      refine go_iload (pc' := 338) X11 hx (hb hby d5_336) rfl rfl ?_
      refine go_iload (pc' := 340) X11 hx (hb hby d5_338) rfl rfl ?_
      refine go_icmpne (pc' := 343) (pcT := 346) X11 hx (hb hby d5_340) rfl (by decide) (by decide) (fun c340_f => ?_) (fun c340_f => ?_)
      · refine JH346 T11 h4 v5 z11 v14_334_f X11 zs K E_r0 F_r0_text F_r0_sign F_r0_first F_r0_end F_r0_point F_r0_exponent F_r0_literal F_r0_whole A_r1 ?_
        · have q := own_eqI c312
          have q' := own_neI c340_f
          exact own_f2 U1 U2 U3 U3' U4 (by rw [← q4, ← e7]; exact hz10) (by rw [← e7]; exact q) (by rw [← q8, ← q4']; exact hz11) (by rw [← q4']; exact q') q5 y2 q8 hW hv14_334_f
      · refine go_iconst (pc' := 344) (v := 0) X11 hx (hb hby d5_343) rfl rfl ?_
        refine go_istore (pc' := 346) (L' := #[.val (.ref r0), .val (.ref r1), .val (.int p2), .val (.int p3), .val (.int y4), .val (.int (0 : Int32)), .val (.int v4), .val (.int z1), .val (.int w8), .val (.int w9), .val (.int w4), .val (.long y11), .second, .val (.int z11), .val (.long v14_334_f), .second, .unset]) X11 hx (hb hby d5_344) rfl rfl ?_
        refine JH346 T11 h4 (0 : Int32) z11 v14_334_f X11 zs K E_r0 F_r0_text F_r0_sign F_r0_first F_r0_end F_r0_point F_r0_exponent F_r0_literal F_r0_whole A_r1 ?_
        · have q := own_eqI c312
          have q' := own_eqI c340_f
          exact own_f3 U1 U2 U3 (by rw [← q4, ← e7]; exact hz10) (by rw [← e7]; exact q) (by rw [← q8, ← q4']; exact hz11) (by rw [← q4']; exact q')
  intro T9 h9 s5 f13 e14 X9 zs K E_r0 F_r0_text F_r0_sign F_r0_first F_r0_end F_r0_point F_r0_exponent F_r0_literal F_r0_whole A_r1 jh346
  refine go_aloadN (pc' := 347) X9 hx (hb hby d5_346) rfl rfl ?_
  refine go_aloadN (pc' := 348) X9 hx (hb hby d5_347) rfl rfl ?_
  refine go_putfield (pc' := 351) (ty := (.array .byte)) (v' := .ref r1) X9 hx hZ hown (hw _ (List.mem_of_getElem? (i := 51) rfl)) F_r0_text E_r0 (Or.inl (hw _ (List.mem_of_getElem? (i := 52) rfl))) (hw _ (List.mem_of_getElem? (i := 29) rfl)) g_r0 (by decide) rfl rfl (hb hby d5_348) rfl (fun T12 h12 X12 W12 F_r0_text => ?_)
  have E_r0 := E_r0.wr W12
  have F_r0_sign := Fld.other W12 F_r0_sign (Or.inr (slot_ne (Or.inl (hw _ (List.mem_of_getElem? (i := 54) rfl))) (Or.inl (hw _ (List.mem_of_getElem? (i := 52) rfl))) (by decide) (t := .int) (t' := (.array .byte)) (by decide) (by decide)))
  have F_r0_first := Fld.other W12 F_r0_first (Or.inr (slot_ne (Or.inl (hw _ (List.mem_of_getElem? (i := 56) rfl))) (Or.inl (hw _ (List.mem_of_getElem? (i := 52) rfl))) (by decide) (t := .int) (t' := (.array .byte)) (by decide) (by decide)))
  have F_r0_end := Fld.other W12 F_r0_end (Or.inr (slot_ne (Or.inl (hw _ (List.mem_of_getElem? (i := 58) rfl))) (Or.inl (hw _ (List.mem_of_getElem? (i := 52) rfl))) (by decide) (t := .int) (t' := (.array .byte)) (by decide) (by decide)))
  have F_r0_point := Fld.other W12 F_r0_point (Or.inr (slot_ne (Or.inl (hw _ (List.mem_of_getElem? (i := 60) rfl))) (Or.inl (hw _ (List.mem_of_getElem? (i := 52) rfl))) (by decide) (t := .int) (t' := (.array .byte)) (by decide) (by decide)))
  have F_r0_exponent := Fld.other W12 F_r0_exponent (Or.inr (slot_ne (Or.inl (hw _ (List.mem_of_getElem? (i := 62) rfl))) (Or.inl (hw _ (List.mem_of_getElem? (i := 52) rfl))) (by decide) (t := .long) (t' := (.array .byte)) (by decide) (by decide)))
  have F_r0_literal := Fld.other W12 F_r0_literal (Or.inr (slot_ne (Or.inl (hw _ (List.mem_of_getElem? (i := 69) rfl))) (Or.inl (hw _ (List.mem_of_getElem? (i := 52) rfl))) (by decide) (t := .boolean) (t' := (.array .byte)) (by decide) (by decide)))
  have F_r0_whole := Fld.other W12 F_r0_whole (Or.inr (slot_ne (Or.inl (hw _ (List.mem_of_getElem? (i := 72) rfl))) (Or.inl (hw _ (List.mem_of_getElem? (i := 52) rfl))) (by decide) (t := .long) (t' := (.array .byte)) (by decide) (by decide)))
  have A_r1 := A_r1.other W12 ne_r1_r0
  have zs := Nat.le_trans zs (Nat.le_of_eq W12.size.symm)
  have K := K.wr W12 (Or.inl (by simp))
  refine go_aloadN (pc' := 352) X12 hx (hb hby d5_351) rfl rfl ?_
  refine go_iload (pc' := 354) X12 hx (hb hby d5_352) rfl rfl ?_
  refine go_putfield (pc' := 357) (ty := .int) (v' := .int s5) X12 hx hZ hown (hw _ (List.mem_of_getElem? (i := 53) rfl)) F_r0_sign E_r0 (Or.inl (hw _ (List.mem_of_getElem? (i := 54) rfl))) (hw _ (List.mem_of_getElem? (i := 29) rfl)) g_r0 (by decide) rfl rfl (hb hby d5_354) rfl (fun T13 h13 X13 W13 F_r0_sign => ?_)
  have E_r0 := E_r0.wr W13
  have F_r0_text := Fld.other W13 F_r0_text (Or.inr (slot_ne (Or.inl (hw _ (List.mem_of_getElem? (i := 52) rfl))) (Or.inl (hw _ (List.mem_of_getElem? (i := 54) rfl))) (by decide) (t := (.array .byte)) (t' := .int) (by decide) (by decide)))
  have F_r0_first := Fld.other W13 F_r0_first (Or.inr (slot_ne (Or.inl (hw _ (List.mem_of_getElem? (i := 56) rfl))) (Or.inl (hw _ (List.mem_of_getElem? (i := 54) rfl))) (by decide) (t := .int) (t' := .int) (by decide) (by decide)))
  have F_r0_end := Fld.other W13 F_r0_end (Or.inr (slot_ne (Or.inl (hw _ (List.mem_of_getElem? (i := 58) rfl))) (Or.inl (hw _ (List.mem_of_getElem? (i := 54) rfl))) (by decide) (t := .int) (t' := .int) (by decide) (by decide)))
  have F_r0_point := Fld.other W13 F_r0_point (Or.inr (slot_ne (Or.inl (hw _ (List.mem_of_getElem? (i := 60) rfl))) (Or.inl (hw _ (List.mem_of_getElem? (i := 54) rfl))) (by decide) (t := .int) (t' := .int) (by decide) (by decide)))
  have F_r0_exponent := Fld.other W13 F_r0_exponent (Or.inr (slot_ne (Or.inl (hw _ (List.mem_of_getElem? (i := 62) rfl))) (Or.inl (hw _ (List.mem_of_getElem? (i := 54) rfl))) (by decide) (t := .long) (t' := .int) (by decide) (by decide)))
  have F_r0_literal := Fld.other W13 F_r0_literal (Or.inr (slot_ne (Or.inl (hw _ (List.mem_of_getElem? (i := 69) rfl))) (Or.inl (hw _ (List.mem_of_getElem? (i := 54) rfl))) (by decide) (t := .boolean) (t' := .int) (by decide) (by decide)))
  have F_r0_whole := Fld.other W13 F_r0_whole (Or.inr (slot_ne (Or.inl (hw _ (List.mem_of_getElem? (i := 72) rfl))) (Or.inl (hw _ (List.mem_of_getElem? (i := 54) rfl))) (by decide) (t := .long) (t' := .int) (by decide) (by decide)))
  have A_r1 := A_r1.other W13 ne_r1_r0
  have zs := Nat.le_trans zs (Nat.le_of_eq W13.size.symm)
  have K := K.wr W13 (Or.inl (by simp))
  refine go_aloadN (pc' := 358) X13 hx (hb hby d5_357) rfl rfl ?_
  refine go_iload (pc' := 360) X13 hx (hb hby d5_358) rfl rfl ?_
  refine go_putfield (pc' := 363) (ty := .int) (v' := .int f13) X13 hx hZ hown (hw _ (List.mem_of_getElem? (i := 55) rfl)) F_r0_first E_r0 (Or.inl (hw _ (List.mem_of_getElem? (i := 56) rfl))) (hw _ (List.mem_of_getElem? (i := 29) rfl)) g_r0 (by decide) rfl rfl (hb hby d5_360) rfl (fun T14 h14 X14 W14 F_r0_first => ?_)
  have E_r0 := E_r0.wr W14
  have F_r0_text := Fld.other W14 F_r0_text (Or.inr (slot_ne (Or.inl (hw _ (List.mem_of_getElem? (i := 52) rfl))) (Or.inl (hw _ (List.mem_of_getElem? (i := 56) rfl))) (by decide) (t := (.array .byte)) (t' := .int) (by decide) (by decide)))
  have F_r0_sign := Fld.other W14 F_r0_sign (Or.inr (slot_ne (Or.inl (hw _ (List.mem_of_getElem? (i := 54) rfl))) (Or.inl (hw _ (List.mem_of_getElem? (i := 56) rfl))) (by decide) (t := .int) (t' := .int) (by decide) (by decide)))
  have F_r0_end := Fld.other W14 F_r0_end (Or.inr (slot_ne (Or.inl (hw _ (List.mem_of_getElem? (i := 58) rfl))) (Or.inl (hw _ (List.mem_of_getElem? (i := 56) rfl))) (by decide) (t := .int) (t' := .int) (by decide) (by decide)))
  have F_r0_point := Fld.other W14 F_r0_point (Or.inr (slot_ne (Or.inl (hw _ (List.mem_of_getElem? (i := 60) rfl))) (Or.inl (hw _ (List.mem_of_getElem? (i := 56) rfl))) (by decide) (t := .int) (t' := .int) (by decide) (by decide)))
  have F_r0_exponent := Fld.other W14 F_r0_exponent (Or.inr (slot_ne (Or.inl (hw _ (List.mem_of_getElem? (i := 62) rfl))) (Or.inl (hw _ (List.mem_of_getElem? (i := 56) rfl))) (by decide) (t := .long) (t' := .int) (by decide) (by decide)))
  have F_r0_literal := Fld.other W14 F_r0_literal (Or.inr (slot_ne (Or.inl (hw _ (List.mem_of_getElem? (i := 69) rfl))) (Or.inl (hw _ (List.mem_of_getElem? (i := 56) rfl))) (by decide) (t := .boolean) (t' := .int) (by decide) (by decide)))
  have F_r0_whole := Fld.other W14 F_r0_whole (Or.inr (slot_ne (Or.inl (hw _ (List.mem_of_getElem? (i := 72) rfl))) (Or.inl (hw _ (List.mem_of_getElem? (i := 56) rfl))) (by decide) (t := .long) (t' := .int) (by decide) (by decide)))
  have A_r1 := A_r1.other W14 ne_r1_r0
  have zs := Nat.le_trans zs (Nat.le_of_eq W14.size.symm)
  have K := K.wr W14 (Or.inl (by simp))
  refine go_aloadN (pc' := 364) X14 hx (hb hby d5_363) rfl rfl ?_
  refine go_iload (pc' := 366) X14 hx (hb hby d5_364) rfl rfl ?_
  refine go_putfield (pc' := 369) (ty := .int) (v' := .int w4) X14 hx hZ hown (hw _ (List.mem_of_getElem? (i := 57) rfl)) F_r0_end E_r0 (Or.inl (hw _ (List.mem_of_getElem? (i := 58) rfl))) (hw _ (List.mem_of_getElem? (i := 29) rfl)) g_r0 (by decide) rfl rfl (hb hby d5_366) rfl (fun T15 h15 X15 W15 F_r0_end => ?_)
  have E_r0 := E_r0.wr W15
  have F_r0_text := Fld.other W15 F_r0_text (Or.inr (slot_ne (Or.inl (hw _ (List.mem_of_getElem? (i := 52) rfl))) (Or.inl (hw _ (List.mem_of_getElem? (i := 58) rfl))) (by decide) (t := (.array .byte)) (t' := .int) (by decide) (by decide)))
  have F_r0_sign := Fld.other W15 F_r0_sign (Or.inr (slot_ne (Or.inl (hw _ (List.mem_of_getElem? (i := 54) rfl))) (Or.inl (hw _ (List.mem_of_getElem? (i := 58) rfl))) (by decide) (t := .int) (t' := .int) (by decide) (by decide)))
  have F_r0_first := Fld.other W15 F_r0_first (Or.inr (slot_ne (Or.inl (hw _ (List.mem_of_getElem? (i := 56) rfl))) (Or.inl (hw _ (List.mem_of_getElem? (i := 58) rfl))) (by decide) (t := .int) (t' := .int) (by decide) (by decide)))
  have F_r0_point := Fld.other W15 F_r0_point (Or.inr (slot_ne (Or.inl (hw _ (List.mem_of_getElem? (i := 60) rfl))) (Or.inl (hw _ (List.mem_of_getElem? (i := 58) rfl))) (by decide) (t := .int) (t' := .int) (by decide) (by decide)))
  have F_r0_exponent := Fld.other W15 F_r0_exponent (Or.inr (slot_ne (Or.inl (hw _ (List.mem_of_getElem? (i := 62) rfl))) (Or.inl (hw _ (List.mem_of_getElem? (i := 58) rfl))) (by decide) (t := .long) (t' := .int) (by decide) (by decide)))
  have F_r0_literal := Fld.other W15 F_r0_literal (Or.inr (slot_ne (Or.inl (hw _ (List.mem_of_getElem? (i := 69) rfl))) (Or.inl (hw _ (List.mem_of_getElem? (i := 58) rfl))) (by decide) (t := .boolean) (t' := .int) (by decide) (by decide)))
  have F_r0_whole := Fld.other W15 F_r0_whole (Or.inr (slot_ne (Or.inl (hw _ (List.mem_of_getElem? (i := 72) rfl))) (Or.inl (hw _ (List.mem_of_getElem? (i := 58) rfl))) (by decide) (t := .long) (t' := .int) (by decide) (by decide)))
  have A_r1 := A_r1.other W15 ne_r1_r0
  have zs := Nat.le_trans zs (Nat.le_of_eq W15.size.symm)
  have K := K.wr W15 (Or.inl (by simp))
  refine go_aloadN (pc' := 370) X15 hx (hb hby d5_369) rfl rfl ?_
  refine go_iload (pc' := 372) X15 hx (hb hby d5_370) rfl rfl ?_
  refine go_putfield (pc' := 375) (ty := .int) (v' := .int w9) X15 hx hZ hown (hw _ (List.mem_of_getElem? (i := 59) rfl)) F_r0_point E_r0 (Or.inl (hw _ (List.mem_of_getElem? (i := 60) rfl))) (hw _ (List.mem_of_getElem? (i := 29) rfl)) g_r0 (by decide) rfl rfl (hb hby d5_372) rfl (fun T16 h16 X16 W16 F_r0_point => ?_)
  have E_r0 := E_r0.wr W16
  have F_r0_text := Fld.other W16 F_r0_text (Or.inr (slot_ne (Or.inl (hw _ (List.mem_of_getElem? (i := 52) rfl))) (Or.inl (hw _ (List.mem_of_getElem? (i := 60) rfl))) (by decide) (t := (.array .byte)) (t' := .int) (by decide) (by decide)))
  have F_r0_sign := Fld.other W16 F_r0_sign (Or.inr (slot_ne (Or.inl (hw _ (List.mem_of_getElem? (i := 54) rfl))) (Or.inl (hw _ (List.mem_of_getElem? (i := 60) rfl))) (by decide) (t := .int) (t' := .int) (by decide) (by decide)))
  have F_r0_first := Fld.other W16 F_r0_first (Or.inr (slot_ne (Or.inl (hw _ (List.mem_of_getElem? (i := 56) rfl))) (Or.inl (hw _ (List.mem_of_getElem? (i := 60) rfl))) (by decide) (t := .int) (t' := .int) (by decide) (by decide)))
  have F_r0_end := Fld.other W16 F_r0_end (Or.inr (slot_ne (Or.inl (hw _ (List.mem_of_getElem? (i := 58) rfl))) (Or.inl (hw _ (List.mem_of_getElem? (i := 60) rfl))) (by decide) (t := .int) (t' := .int) (by decide) (by decide)))
  have F_r0_exponent := Fld.other W16 F_r0_exponent (Or.inr (slot_ne (Or.inl (hw _ (List.mem_of_getElem? (i := 62) rfl))) (Or.inl (hw _ (List.mem_of_getElem? (i := 60) rfl))) (by decide) (t := .long) (t' := .int) (by decide) (by decide)))
  have F_r0_literal := Fld.other W16 F_r0_literal (Or.inr (slot_ne (Or.inl (hw _ (List.mem_of_getElem? (i := 69) rfl))) (Or.inl (hw _ (List.mem_of_getElem? (i := 60) rfl))) (by decide) (t := .boolean) (t' := .int) (by decide) (by decide)))
  have F_r0_whole := Fld.other W16 F_r0_whole (Or.inr (slot_ne (Or.inl (hw _ (List.mem_of_getElem? (i := 72) rfl))) (Or.inl (hw _ (List.mem_of_getElem? (i := 60) rfl))) (by decide) (t := .long) (t' := .int) (by decide) (by decide)))
  have A_r1 := A_r1.other W16 ne_r1_r0
  have zs := Nat.le_trans zs (Nat.le_of_eq W16.size.symm)
  have K := K.wr W16 (Or.inl (by simp))
  refine go_aloadN (pc' := 376) X16 hx (hb hby d5_375) rfl rfl ?_
  refine go_lload (pc' := 378) X16 hx (hb hby d5_376) rfl rfl ?_
  refine go_putfield (pc' := 381) (ty := .long) (v' := .long e14) X16 hx hZ hown (hw _ (List.mem_of_getElem? (i := 61) rfl)) F_r0_exponent E_r0 (Or.inl (hw _ (List.mem_of_getElem? (i := 62) rfl))) (hw _ (List.mem_of_getElem? (i := 29) rfl)) g_r0 (by decide) rfl rfl (hb hby d5_378) rfl (fun T17 h17 X17 W17 F_r0_exponent => ?_)
  have E_r0 := E_r0.wr W17
  have F_r0_text := Fld.other W17 F_r0_text (Or.inr (slot_ne (Or.inl (hw _ (List.mem_of_getElem? (i := 52) rfl))) (Or.inl (hw _ (List.mem_of_getElem? (i := 62) rfl))) (by decide) (t := (.array .byte)) (t' := .long) (by decide) (by decide)))
  have F_r0_sign := Fld.other W17 F_r0_sign (Or.inr (slot_ne (Or.inl (hw _ (List.mem_of_getElem? (i := 54) rfl))) (Or.inl (hw _ (List.mem_of_getElem? (i := 62) rfl))) (by decide) (t := .int) (t' := .long) (by decide) (by decide)))
  have F_r0_first := Fld.other W17 F_r0_first (Or.inr (slot_ne (Or.inl (hw _ (List.mem_of_getElem? (i := 56) rfl))) (Or.inl (hw _ (List.mem_of_getElem? (i := 62) rfl))) (by decide) (t := .int) (t' := .long) (by decide) (by decide)))
  have F_r0_end := Fld.other W17 F_r0_end (Or.inr (slot_ne (Or.inl (hw _ (List.mem_of_getElem? (i := 58) rfl))) (Or.inl (hw _ (List.mem_of_getElem? (i := 62) rfl))) (by decide) (t := .int) (t' := .long) (by decide) (by decide)))
  have F_r0_point := Fld.other W17 F_r0_point (Or.inr (slot_ne (Or.inl (hw _ (List.mem_of_getElem? (i := 60) rfl))) (Or.inl (hw _ (List.mem_of_getElem? (i := 62) rfl))) (by decide) (t := .int) (t' := .long) (by decide) (by decide)))
  have F_r0_literal := Fld.other W17 F_r0_literal (Or.inr (slot_ne (Or.inl (hw _ (List.mem_of_getElem? (i := 69) rfl))) (Or.inl (hw _ (List.mem_of_getElem? (i := 62) rfl))) (by decide) (t := .boolean) (t' := .long) (by decide) (by decide)))
  have F_r0_whole := Fld.other W17 F_r0_whole (Or.inr (slot_ne (Or.inl (hw _ (List.mem_of_getElem? (i := 72) rfl))) (Or.inl (hw _ (List.mem_of_getElem? (i := 62) rfl))) (by decide) (t := .long) (t' := .long) (by decide) (by decide)))
  have A_r1 := A_r1.other W17 ne_r1_r0
  have zs := Nat.le_trans zs (Nat.le_of_eq W17.size.symm)
  have K := K.wr W17 (Or.inl (by simp))
  refine go_aloadN (pc' := 382) X17 hx (hb hby d5_381) rfl rfl ?_
  refine go_lload (pc' := 384) X17 hx (hb hby d5_382) rfl rfl ?_
  refine go_callS (pc' := 387) (W := 1) (cells' := 0) (slots' := 0) (rm := ({ frames := 0, cells := 0, slots := 0, locals := 0 } : Room)) (aL := [.long y11]) (St := [.ref r0]) X17 hx hZ hown (by rw [hml]; rfl) (hw _ (List.mem_of_getElem? (i := 63) rfl)) (hw _ (List.mem_of_getElem? (i := 64) rfl)) (hw _ (List.mem_of_getElem? (i := 65) rfl)) (hw _ (List.mem_of_getElem? (i := 66) rfl)) (by decide) pd_3 rfl (ct_9 l Z a0 hw zs y11) (hb hby d5_384) rfl (by decide) (Nat.le_of_eq rfl) (by decide) (by decide) (by decide) rfl rfl (fun T18 h18 v18 X18 Q18 => ?_) rfl
  obtain ⟨z18, rfl, hz18, eh18⟩ := Q18
  subst h18
  show GoK p e below _ T18 (mkF m 387 #[.val (.ref r0), .val (.ref r1), .val (.int p2), .val (.int p3), .val (.int y4), .val (.int s5), .val (.int v4), .val (.int z1), .val (.int w8), .val (.int w9), .val (.int w4), .val (.long y11), .second, .val (.int f13), .val (.long e14), .second, .unset] [.long z18, .ref r0])
  refine go_ldc2 (pc' := 390) X18 hx hZ hown (hw _ (List.mem_of_getElem? (i := 67) rfl)) (hb hby d5_387) rfl ?_
  suffices J399 : ∀ (m399_s0 : Int32), (((999999999 : Int64) < z18 ∧ m399_s0 = (0 : Int32)) ∨ (¬ (999999999 : Int64) < z18 ∧ m399_s0 = (1 : Int32))) → GoK p e below (DoneK s below n0 ({ frames := 2, cells := 0, slots := 0, locals := 40 } : Room).cells ({ frames := 2, cells := 0, slots := 0, locals := 40 } : Room).slots (QI (fun z h => Keep h0 h [r0] ∧ ((z = 0 ∧ i1 = i0 ∧ i3 = i2) ∨ (z = 1 ∧ ¬ (i1 = i0 ∧ i3 = i2) ∧ ∃ (sg fst en pnt : Int32) (ex wh : Int64), Exa Z h r0 "com/example/tracefold/tracefold/trace/DecimalText" ∧ Fld Z h r0 "com/example/tracefold/tracefold/trace/DecimalText" "text" "[B" (.ref r1) ∧ Fld Z h r0 "com/example/tracefold/tracefold/trace/DecimalText" "sign" "I" (.int sg) ∧ Fld Z h r0 "com/example/tracefold/tracefold/trace/DecimalText" "first" "I" (.int fst) ∧ Fld Z h r0 "com/example/tracefold/tracefold/trace/DecimalText" "end" "I" (.int en) ∧ Fld Z h r0 "com/example/tracefold/tracefold/trace/DecimalText" "point" "I" (.int pnt) ∧ Fld Z h r0 "com/example/tracefold/tracefold/trace/DecimalText" "exponent" "J" (.long ex) ∧ Fld Z h r0 "com/example/tracefold/tracefold/trace/DecimalText" "whole" "J" (.long wh) ∧ en.toInt = i3 ∧ own_R N i0 i1 i2 i3 sgn wr sg fst pnt ex wh))))) T18 (mkF m 399 #[.val (.ref r0), .val (.ref r1), .val (.int p2), .val (.int p3), .val (.int y4), .val (.int s5), .val (.int v4), .val (.int z1), .val (.int w8), .val (.int w9), .val (.int w4), .val (.long y11), .second, .val (.int f13), .val (.long e14), .second, .unset] [.int m399_s0, .ref r0]) by
    refine go_lifgt (pc1 := 391) (pc' := 394) (pcT := 398) X18 hx (hb hby d5_390) rfl (hb hby d5_391) rfl (by decide) (by decide) (fun c391 => ?_) (fun c391 => ?_)
    · refine go_iconst (pc' := 399) (v := 0) X18 hx (hb hby d5_398) rfl rfl ?_
      exact J399 _  (Or.inl ⟨c391, rfl⟩)
    · refine go_iconst (pc' := 395) (v := 1) X18 hx (hb hby d5_394) rfl rfl ?_
      refine go_goto (pc' := 399) X18 hx (hb hby d5_395) (by decide) (by decide) ?_
      exact J399 _  (Or.inr ⟨c391, rfl⟩)
  intro m399_s0 j399
  refine go_putfield (pc' := 402) (ty := .boolean) (v' := .int (nar .boolean m399_s0)) X18 hx hZ hown (hw _ (List.mem_of_getElem? (i := 68) rfl)) F_r0_literal E_r0 (Or.inl (hw _ (List.mem_of_getElem? (i := 69) rfl))) (hw _ (List.mem_of_getElem? (i := 29) rfl)) g_r0 (by decide) rfl (fits_nar_bool _) (hb hby d5_399) rfl (fun T19 h19 X19 W19 F_r0_literal => ?_)
  have E_r0 := E_r0.wr W19
  have F_r0_text := Fld.other W19 F_r0_text (Or.inr (slot_ne (Or.inl (hw _ (List.mem_of_getElem? (i := 52) rfl))) (Or.inl (hw _ (List.mem_of_getElem? (i := 69) rfl))) (by decide) (t := (.array .byte)) (t' := .boolean) (by decide) (by decide)))
  have F_r0_sign := Fld.other W19 F_r0_sign (Or.inr (slot_ne (Or.inl (hw _ (List.mem_of_getElem? (i := 54) rfl))) (Or.inl (hw _ (List.mem_of_getElem? (i := 69) rfl))) (by decide) (t := .int) (t' := .boolean) (by decide) (by decide)))
  have F_r0_first := Fld.other W19 F_r0_first (Or.inr (slot_ne (Or.inl (hw _ (List.mem_of_getElem? (i := 56) rfl))) (Or.inl (hw _ (List.mem_of_getElem? (i := 69) rfl))) (by decide) (t := .int) (t' := .boolean) (by decide) (by decide)))
  have F_r0_end := Fld.other W19 F_r0_end (Or.inr (slot_ne (Or.inl (hw _ (List.mem_of_getElem? (i := 58) rfl))) (Or.inl (hw _ (List.mem_of_getElem? (i := 69) rfl))) (by decide) (t := .int) (t' := .boolean) (by decide) (by decide)))
  have F_r0_point := Fld.other W19 F_r0_point (Or.inr (slot_ne (Or.inl (hw _ (List.mem_of_getElem? (i := 60) rfl))) (Or.inl (hw _ (List.mem_of_getElem? (i := 69) rfl))) (by decide) (t := .int) (t' := .boolean) (by decide) (by decide)))
  have F_r0_exponent := Fld.other W19 F_r0_exponent (Or.inr (slot_ne (Or.inl (hw _ (List.mem_of_getElem? (i := 62) rfl))) (Or.inl (hw _ (List.mem_of_getElem? (i := 69) rfl))) (by decide) (t := .long) (t' := .boolean) (by decide) (by decide)))
  have F_r0_whole := Fld.other W19 F_r0_whole (Or.inr (slot_ne (Or.inl (hw _ (List.mem_of_getElem? (i := 72) rfl))) (Or.inl (hw _ (List.mem_of_getElem? (i := 69) rfl))) (by decide) (t := .long) (t' := .boolean) (by decide) (by decide)))
  have A_r1 := A_r1.other W19 ne_r1_r0
  have zs := Nat.le_trans zs (Nat.le_of_eq W19.size.symm)
  have K := K.wr W19 (Or.inl (by simp))
  refine go_aloadN (pc' := 403) X19 hx (hb hby d5_402) rfl rfl ?_
  refine go_ldc2 (pc' := 406) X19 hx hZ hown (hw _ (List.mem_of_getElem? (i := 70) rfl)) (hb hby d5_403) rfl ?_
  refine go_putfield (pc' := 409) (ty := .long) (v' := .long (-1 : Int64)) X19 hx hZ hown (hw _ (List.mem_of_getElem? (i := 71) rfl)) F_r0_whole E_r0 (Or.inl (hw _ (List.mem_of_getElem? (i := 72) rfl))) (hw _ (List.mem_of_getElem? (i := 29) rfl)) g_r0 (by decide) rfl rfl (hb hby d5_406) rfl (fun T20 h20 X20 W20 F_r0_whole => ?_)
  have E_r0 := E_r0.wr W20
  have F_r0_text := Fld.other W20 F_r0_text (Or.inr (slot_ne (Or.inl (hw _ (List.mem_of_getElem? (i := 52) rfl))) (Or.inl (hw _ (List.mem_of_getElem? (i := 72) rfl))) (by decide) (t := (.array .byte)) (t' := .long) (by decide) (by decide)))
  have F_r0_sign := Fld.other W20 F_r0_sign (Or.inr (slot_ne (Or.inl (hw _ (List.mem_of_getElem? (i := 54) rfl))) (Or.inl (hw _ (List.mem_of_getElem? (i := 72) rfl))) (by decide) (t := .int) (t' := .long) (by decide) (by decide)))
  have F_r0_first := Fld.other W20 F_r0_first (Or.inr (slot_ne (Or.inl (hw _ (List.mem_of_getElem? (i := 56) rfl))) (Or.inl (hw _ (List.mem_of_getElem? (i := 72) rfl))) (by decide) (t := .int) (t' := .long) (by decide) (by decide)))
  have F_r0_end := Fld.other W20 F_r0_end (Or.inr (slot_ne (Or.inl (hw _ (List.mem_of_getElem? (i := 58) rfl))) (Or.inl (hw _ (List.mem_of_getElem? (i := 72) rfl))) (by decide) (t := .int) (t' := .long) (by decide) (by decide)))
  have F_r0_point := Fld.other W20 F_r0_point (Or.inr (slot_ne (Or.inl (hw _ (List.mem_of_getElem? (i := 60) rfl))) (Or.inl (hw _ (List.mem_of_getElem? (i := 72) rfl))) (by decide) (t := .int) (t' := .long) (by decide) (by decide)))
  have F_r0_exponent := Fld.other W20 F_r0_exponent (Or.inr (slot_ne (Or.inl (hw _ (List.mem_of_getElem? (i := 62) rfl))) (Or.inl (hw _ (List.mem_of_getElem? (i := 72) rfl))) (by decide) (t := .long) (t' := .long) (by decide) (by decide)))
  have F_r0_literal := Fld.other W20 F_r0_literal (Or.inr (slot_ne (Or.inl (hw _ (List.mem_of_getElem? (i := 69) rfl))) (Or.inl (hw _ (List.mem_of_getElem? (i := 72) rfl))) (by decide) (t := .boolean) (t' := .long) (by decide) (by decide)))
  have A_r1 := A_r1.other W20 ne_r1_r0
  have zs := Nat.le_trans zs (Nat.le_of_eq W20.size.symm)
  have K := K.wr W20 (Or.inl (by simp))
  refine go_iload (pc' := 411) X20 hx (hb hby d5_409) rfl rfl ?_
  refine go_iflt (pc' := 414) (pcT := 479) X20 hx (hb hby d5_411) rfl (by decide) (by decide) (fun c411 => ?_) (fun c411 => ?_)
  · refine go_iconst (pc' := 480) (v := 1) X20 hx (hb hby d5_479) rfl rfl ?_
    refine go_retN (t := .boolean) X20 hx hret (by simp) hlk (hb hby d5_480) (by decide) (by decide) ?_
    refine ⟨K, Or.inr ⟨rfl, j127, _, _, _, _, _, _, E_r0, F_r0_text, F_r0_sign, F_r0_first, F_r0_end, F_r0_point, F_r0_exponent, F_r0_whole, q4', jh346, q9, ?_⟩⟩
    exact Or.inl rfl
  · refine go_iload (pc' := 416) X20 hx (hb hby d5_414) rfl rfl ?_
    refine go_ifge (pc' := 419) (pcT := 479) X20 hx (hb hby d5_416) rfl (by decide) (by decide) (fun c416_f => ?_) (fun c416_f => ?_)
    · refine go_iconst (pc' := 480) (v := 1) X20 hx (hb hby d5_479) rfl rfl ?_
      refine go_retN (t := .boolean) X20 hx hret (by simp) hlk (hb hby d5_480) (by decide) (by decide) ?_
      refine ⟨K, Or.inr ⟨rfl, j127, _, _, _, _, _, _, E_r0, F_r0_text, F_r0_sign, F_r0_first, F_r0_end, F_r0_point, F_r0_exponent, F_r0_whole, q4', jh346, q9, ?_⟩⟩
      exact Or.inl rfl
    · refine go_iload (pc' := 421) X20 hx (hb hby d5_419) rfl rfl ?_
      refine go_iload (pc' := 423) X20 hx (hb hby d5_421) rfl rfl ?_
      refine go_icmpne (pc' := 426) (pcT := 479) X20 hx (hb hby d5_423) rfl (by decide) (by decide) (fun c423_ff => ?_) (fun c423_ff => ?_)
      · refine go_iconst (pc' := 480) (v := 1) X20 hx (hb hby d5_479) rfl rfl ?_
        refine go_retN (t := .boolean) X20 hx hret (by simp) hlk (hb hby d5_480) (by decide) (by decide) ?_
        refine ⟨K, Or.inr ⟨rfl, j127, _, _, _, _, _, _, E_r0, F_r0_text, F_r0_sign, F_r0_first, F_r0_end, F_r0_point, F_r0_exponent, F_r0_whole, q4', jh346, q9, ?_⟩⟩
        exact Or.inl rfl
      · refine go_iload (pc' := 428) X20 hx (hb hby d5_426) rfl rfl ?_
        refine go_iload (pc' := 430) X20 hx (hb hby d5_428) rfl rfl ?_
        refine go_isub (pc' := 431) X20 hx (hb hby d5_430) rfl ?_
        refine go_bipush (pc' := 433) (v := 18) X20 hx (hb hby d5_431) rfl rfl ?_
        refine go_icmpgt (pc' := 436) (pcT := 479) X20 hx (hb hby d5_433) rfl (by decide) (by decide) (fun c433_fff => ?_) (fun c433_fff => ?_)
        · refine go_iconst (pc' := 480) (v := 1) X20 hx (hb hby d5_479) rfl rfl ?_
          refine go_retN (t := .boolean) X20 hx hret (by simp) hlk (hb hby d5_480) (by decide) (by decide) ?_
          refine ⟨K, Or.inr ⟨rfl, j127, _, _, _, _, _, _, E_r0, F_r0_text, F_r0_sign, F_r0_first, F_r0_end, F_r0_point, F_r0_exponent, F_r0_whole, q4', jh346, q9, ?_⟩⟩
          exact Or.inl rfl
        · refine go_aloadN (pc' := 437) X20 hx (hb hby d5_436) rfl rfl ?_
          refine go_lconst (pc' := 438) (v := 0) X20 hx (hb hby d5_437) rfl rfl ?_
          refine go_putfield (pc' := 441) (ty := .long) (v' := .long (0 : Int64)) X20 hx hZ hown (hw _ (List.mem_of_getElem? (i := 71) rfl)) F_r0_whole E_r0 (Or.inl (hw _ (List.mem_of_getElem? (i := 72) rfl))) (hw _ (List.mem_of_getElem? (i := 29) rfl)) g_r0 (by decide) rfl rfl (hb hby d5_438) rfl (fun T21 h21 X21 W21 F_r0_whole => ?_)
          have E_r0 := E_r0.wr W21
          have F_r0_text := Fld.other W21 F_r0_text (Or.inr (slot_ne (Or.inl (hw _ (List.mem_of_getElem? (i := 52) rfl))) (Or.inl (hw _ (List.mem_of_getElem? (i := 72) rfl))) (by decide) (t := (.array .byte)) (t' := .long) (by decide) (by decide)))
          have F_r0_sign := Fld.other W21 F_r0_sign (Or.inr (slot_ne (Or.inl (hw _ (List.mem_of_getElem? (i := 54) rfl))) (Or.inl (hw _ (List.mem_of_getElem? (i := 72) rfl))) (by decide) (t := .int) (t' := .long) (by decide) (by decide)))
          have F_r0_first := Fld.other W21 F_r0_first (Or.inr (slot_ne (Or.inl (hw _ (List.mem_of_getElem? (i := 56) rfl))) (Or.inl (hw _ (List.mem_of_getElem? (i := 72) rfl))) (by decide) (t := .int) (t' := .long) (by decide) (by decide)))
          have F_r0_end := Fld.other W21 F_r0_end (Or.inr (slot_ne (Or.inl (hw _ (List.mem_of_getElem? (i := 58) rfl))) (Or.inl (hw _ (List.mem_of_getElem? (i := 72) rfl))) (by decide) (t := .int) (t' := .long) (by decide) (by decide)))
          have F_r0_point := Fld.other W21 F_r0_point (Or.inr (slot_ne (Or.inl (hw _ (List.mem_of_getElem? (i := 60) rfl))) (Or.inl (hw _ (List.mem_of_getElem? (i := 72) rfl))) (by decide) (t := .int) (t' := .long) (by decide) (by decide)))
          have F_r0_exponent := Fld.other W21 F_r0_exponent (Or.inr (slot_ne (Or.inl (hw _ (List.mem_of_getElem? (i := 62) rfl))) (Or.inl (hw _ (List.mem_of_getElem? (i := 72) rfl))) (by decide) (t := .long) (t' := .long) (by decide) (by decide)))
          have F_r0_literal := Fld.other W21 F_r0_literal (Or.inr (slot_ne (Or.inl (hw _ (List.mem_of_getElem? (i := 69) rfl))) (Or.inl (hw _ (List.mem_of_getElem? (i := 72) rfl))) (by decide) (t := .boolean) (t' := .long) (by decide) (by decide)))
          have A_r1 := A_r1.other W21 ne_r1_r0
          have zs := Nat.le_trans zs (Nat.le_of_eq W21.size.symm)
          have K := K.wr W21 (Or.inl (by simp))
          refine go_iload (pc' := 443) X21 hx (hb hby d5_441) rfl rfl ?_
          refine go_istore (pc' := 445) (L' := #[.val (.ref r0), .val (.ref r1), .val (.int p2), .val (.int p3), .val (.int y4), .val (.int s5), .val (.int v4), .val (.int z1), .val (.int w8), .val (.int w9), .val (.int w4), .val (.long y11), .second, .val (.int f13), .val (.long e14), .second, .val (.int v4)]) X21 hx (hb hby d5_443) rfl rfl ?_
          have hpt : i2 = i1 ∧ i3 = i1 := by
            have y := own_ltI c416_f
            have yk := own_k0
            rcases t6 with ⟨a, -⟩ | ⟨a, b, -⟩
            · exfalso; rcases q9 with ⟨g, g'⟩ | ⟨g, g'⟩ <;> omega
            · exact ⟨a, b⟩
          obtain ⟨hp1, hp2⟩ := hpt
          have h18 : i3 - i0 ≤ 18 := own_18 c433_fff q4' q4 (by omega) (by omega) (by omega) (by omega)
          have hN : N < 10 ^ (i3 - i0).toNat := by have y := U3; rw [show i1 - i0 + (i3 - i2) = i3 - i0 by omega] at y; exact y
          suffices loop445 : ∀ (d : Nat) (TL445 : State) (hL445 : Heap) (wv : Int64) (d16 : Int32), OnK p l e ({ frames := 2, cells := 0, slots := 0, locals := 40 } : Room) s m #[.ref r0, .ref r1, .int p2, .int p3] below meth c n0 TL445 hL445 0 0 → n0 ≤ hL445.size → Keep h0 hL445 [r0] → Exa Z hL445 r0 "com/example/tracefold/tracefold/trace/DecimalText" → Fld Z hL445 r0 "com/example/tracefold/tracefold/trace/DecimalText" "text" "[B" (.ref r1) → Fld Z hL445 r0 "com/example/tracefold/tracefold/trace/DecimalText" "sign" "I" (.int s5) → Fld Z hL445 r0 "com/example/tracefold/tracefold/trace/DecimalText" "first" "I" (.int f13) → Fld Z hL445 r0 "com/example/tracefold/tracefold/trace/DecimalText" "end" "I" (.int w4) → Fld Z hL445 r0 "com/example/tracefold/tracefold/trace/DecimalText" "point" "I" (.int w9) → Fld Z hL445 r0 "com/example/tracefold/tracefold/trace/DecimalText" "exponent" "J" (.long e14) → Fld Z hL445 r0 "com/example/tracefold/tracefold/trace/DecimalText" "literal" "Z" (.int (nar .boolean m399_s0)) → AIK Z hL445 r1 .byte (26) f → Fld Z hL445 r0 "com/example/tracefold/tracefold/trace/DecimalText" "whole" "J" (.long wv) → (i3 - d16.toInt).toNat = d → (i0 ≤ d16.toInt ∧ d16.toInt ≤ i3 ∧ wv.toInt = ((N / 10 ^ (i3 - d16.toInt).toNat : Nat) : Int)) → GoK p e below (DoneK s below n0 ({ frames := 2, cells := 0, slots := 0, locals := 40 } : Room).cells ({ frames := 2, cells := 0, slots := 0, locals := 40 } : Room).slots (QI (fun z h => Keep h0 h [r0] ∧ ((z = 0 ∧ i1 = i0 ∧ i3 = i2) ∨ (z = 1 ∧ ¬ (i1 = i0 ∧ i3 = i2) ∧ ∃ (sg fst en pnt : Int32) (ex wh : Int64), Exa Z h r0 "com/example/tracefold/tracefold/trace/DecimalText" ∧ Fld Z h r0 "com/example/tracefold/tracefold/trace/DecimalText" "text" "[B" (.ref r1) ∧ Fld Z h r0 "com/example/tracefold/tracefold/trace/DecimalText" "sign" "I" (.int sg) ∧ Fld Z h r0 "com/example/tracefold/tracefold/trace/DecimalText" "first" "I" (.int fst) ∧ Fld Z h r0 "com/example/tracefold/tracefold/trace/DecimalText" "end" "I" (.int en) ∧ Fld Z h r0 "com/example/tracefold/tracefold/trace/DecimalText" "point" "I" (.int pnt) ∧ Fld Z h r0 "com/example/tracefold/tracefold/trace/DecimalText" "exponent" "J" (.long ex) ∧ Fld Z h r0 "com/example/tracefold/tracefold/trace/DecimalText" "whole" "J" (.long wh) ∧ en.toInt = i3 ∧ own_R N i0 i1 i2 i3 sgn wr sg fst pnt ex wh))))) TL445 (mkF m 445 #[.val (.ref r0), .val (.ref r1), .val (.int p2), .val (.int p3), .val (.int y4), .val (.int s5), .val (.int v4), .val (.int z1), .val (.int w8), .val (.int w9), .val (.int w4), .val (.long y11), .second, .val (.int f13), .val (.long e14), .second, .val (.int d16)] []) by
            refine loop445 _ T21 h21 (0 : Int64) v4 X21 zs K E_r0 F_r0_text F_r0_sign F_r0_first F_r0_end F_r0_point F_r0_exponent F_r0_literal A_r1 F_r0_whole  rfl ?_
            refine ⟨by omega, by omega, ?_⟩
            rw [q4, Nat.div_eq_of_lt hN]; rfl
          intro d445
          induction d445 using Nat.strongRecOn with
          | _ d445 ih445 =>
            intro TL445 hL445 wv d16 XL445 zs K E_r0 F_r0_text F_r0_sign F_r0_first F_r0_end F_r0_point F_r0_exponent F_r0_literal A_r1 F_r0_whole hm445 hv445
            obtain ⟨l1, l2, l3⟩ := hv445
            refine go_iload (pc' := 447) XL445 hx (hb hby d5_445) rfl rfl ?_
            refine go_iload (pc' := 449) XL445 hx (hb hby d5_447) rfl rfl ?_
            refine go_icmpge (pc' := 452) (pcT := 479) XL445 hx (hb hby d5_449) rfl (by decide) (by decide) (fun c449_ffff => ?_) (fun c449_ffff => ?_)
            · refine go_iconst (pc' := 480) (v := 1) XL445 hx (hb hby d5_479) rfl rfl ?_
              refine go_retN (t := .boolean) XL445 hx hret (by simp) hlk (hb hby d5_480) (by decide) (by decide) ?_
              refine ⟨K, Or.inr ⟨rfl, j127, _, _, _, _, _, _, E_r0, F_r0_text, F_r0_sign, F_r0_first, F_r0_end, F_r0_point, F_r0_exponent, F_r0_whole, q4', jh346, q9, ?_⟩⟩
              have yy := own_geI c449_ffff
              have e16 : d16.toInt = i3 := by omega
              refine Or.inr ⟨?_, own_wr0 U4 (by have := own_eqI c423_ff; omega), by omega, by have := own_geI c411; have := own_k0; omega⟩
              rw [l3, e16, show i3 - i3 = 0 by omega]; simp
            · refine go_aloadN (pc' := 453) XL445 hx (hb hby d5_452) rfl rfl ?_
              refine go_aloadN (pc' := 454) XL445 hx (hb hby d5_453) rfl rfl ?_
              refine go_getfield (pc' := 457) XL445 hx hZ hown (hw _ (List.mem_of_getElem? (i := 71) rfl)) F_r0_whole (hb hby d5_454) rfl (fun T22 X22 => ?_)
              refine go_ldc2 (pc' := 460) X22 hx hZ hown (hw _ (List.mem_of_getElem? (i := 73) rfl)) (hb hby d5_457) rfl ?_
              refine go_lmul (pc' := 461) X22 hx (hb hby d5_460) rfl ?_
              refine go_aloadN (pc' := 462) X22 hx (hb hby d5_461) rfl rfl ?_
              refine go_iload (pc' := 464) X22 hx (hb hby d5_462) rfl rfl ?_
              refine go_baloadB (pc' := 465) X22 hx hZ A_r1 (by omega) (by have := own_ltI c449_ffff; omega) (hb hby d5_464) rfl (fun w464_fffff hw464_fffff => ?_)
              refine go_bipush (pc' := 467) (v := 48) X22 hx (hb hby d5_465) rfl rfl ?_
              refine go_isub (pc' := 468) X22 hx (hb hby d5_467) rfl ?_
              refine go_i2l (pc' := 469) X22 hx (hb hby d5_468) rfl ?_
              refine go_ladd (pc' := 470) X22 hx (hb hby d5_469) rfl ?_
              refine go_putfield (pc' := 473) (ty := .long) (v' := .long ((wv * (10 : Int64)) + ((w464_fffff - (48 : Int32)).toInt64))) X22 hx hZ hown (hw _ (List.mem_of_getElem? (i := 71) rfl)) F_r0_whole E_r0 (Or.inl (hw _ (List.mem_of_getElem? (i := 72) rfl))) (hw _ (List.mem_of_getElem? (i := 29) rfl)) g_r0 (by decide) rfl rfl (hb hby d5_470) rfl (fun T23 h23 X23 W23 F_r0_whole => ?_)
              have E_r0 := E_r0.wr W23
              have F_r0_text := Fld.other W23 F_r0_text (Or.inr (slot_ne (Or.inl (hw _ (List.mem_of_getElem? (i := 52) rfl))) (Or.inl (hw _ (List.mem_of_getElem? (i := 72) rfl))) (by decide) (t := (.array .byte)) (t' := .long) (by decide) (by decide)))
              have F_r0_sign := Fld.other W23 F_r0_sign (Or.inr (slot_ne (Or.inl (hw _ (List.mem_of_getElem? (i := 54) rfl))) (Or.inl (hw _ (List.mem_of_getElem? (i := 72) rfl))) (by decide) (t := .int) (t' := .long) (by decide) (by decide)))
              have F_r0_first := Fld.other W23 F_r0_first (Or.inr (slot_ne (Or.inl (hw _ (List.mem_of_getElem? (i := 56) rfl))) (Or.inl (hw _ (List.mem_of_getElem? (i := 72) rfl))) (by decide) (t := .int) (t' := .long) (by decide) (by decide)))
              have F_r0_end := Fld.other W23 F_r0_end (Or.inr (slot_ne (Or.inl (hw _ (List.mem_of_getElem? (i := 58) rfl))) (Or.inl (hw _ (List.mem_of_getElem? (i := 72) rfl))) (by decide) (t := .int) (t' := .long) (by decide) (by decide)))
              have F_r0_point := Fld.other W23 F_r0_point (Or.inr (slot_ne (Or.inl (hw _ (List.mem_of_getElem? (i := 60) rfl))) (Or.inl (hw _ (List.mem_of_getElem? (i := 72) rfl))) (by decide) (t := .int) (t' := .long) (by decide) (by decide)))
              have F_r0_exponent := Fld.other W23 F_r0_exponent (Or.inr (slot_ne (Or.inl (hw _ (List.mem_of_getElem? (i := 62) rfl))) (Or.inl (hw _ (List.mem_of_getElem? (i := 72) rfl))) (by decide) (t := .long) (t' := .long) (by decide) (by decide)))
              have F_r0_literal := Fld.other W23 F_r0_literal (Or.inr (slot_ne (Or.inl (hw _ (List.mem_of_getElem? (i := 69) rfl))) (Or.inl (hw _ (List.mem_of_getElem? (i := 72) rfl))) (by decide) (t := .boolean) (t' := .long) (by decide) (by decide)))
              have A_r1 := A_r1.other W23 ne_r1_r0
              have zs := Nat.le_trans zs (Nat.le_of_eq W23.size.symm)
              have K := K.wr W23 (Or.inl (by simp))
              obtain ⟨v16_473_fffff, hv16_473_fffff⟩ : ∃ z : Int32, z = d16 + (1 : Int32) := ⟨_, rfl⟩
              refine go_iinc (pc' := 476) (L' := #[.val (.ref r0), .val (.ref r1), .val (.int p2), .val (.int p3), .val (.int y4), .val (.int s5), .val (.int v4), .val (.int z1), .val (.int w8), .val (.int w9), .val (.int w4), .val (.long y11), .second, .val (.int f13), .val (.long e14), .second, .val (.int v16_473_fffff)]) X23 hx (hb hby d5_473) rfl rfl hv16_473_fffff.symm rfl ?_
              refine go_goto (pc' := 445) X23 hx (hb hby d5_476) (by decide) (by decide) ?_
              refine ih445 _ ?_ T23 h23 ((wv * (10 : Int64)) + ((w464_fffff - (48 : Int32)).toInt64)) v16_473_fffff X23 zs K E_r0 F_r0_text F_r0_sign F_r0_first F_r0_end F_r0_point F_r0_exponent F_r0_literal A_r1 F_r0_whole  rfl ?_
              · have y := own_ltI c449_ffff
                have e16 := own_inc hv16_473_fffff (by omega)
                omega
              · have y := own_ltI c449_ffff
                have e16 := own_inc hv16_473_fffff (by omega)
                refine ⟨by omega, by omega, ?_⟩
                exact own_wst U2 hN h18 l3 (by omega) (by omega) hp1 hp2 hw464_fffff e16
theorem d11_0 : decode prog_139_method_7_code 0 = .ok (.aload_n 0, 1) := by decide +kernel
theorem d11_1 : decode prog_139_method_7_code 1 = .ok (.getfield 36, 3) := by decide +kernel
theorem d11_4 : decode prog_139_method_7_code 4 = .ok (.ifCond .eq 16, 3) := by decide +kernel
theorem d11_7 : decode prog_139_method_7_code 7 = .ok (.aload_n 0, 1) := by decide +kernel
theorem d11_8 : decode prog_139_method_7_code 8 = .ok (.getfield 65, 3) := by decide +kernel
theorem d11_11 : decode prog_139_method_7_code 11 = .ok (.lconst 0, 1) := by decide +kernel
theorem d11_12 : decode prog_139_method_7_code 12 = .ok (.lcmp, 1) := by decide +kernel
theorem d11_13 : decode prog_139_method_7_code 13 = .ok (.ifCond .lt 18, 3) := by decide +kernel
theorem d11_16 : decode prog_139_method_7_code 16 = .ok (.iload_n 1, 1) := by decide +kernel
theorem d11_17 : decode prog_139_method_7_code 17 = .ok (.ifCond .ne 14, 3) := by decide +kernel
theorem d11_20 : decode prog_139_method_7_code 20 = .ok (.aload_n 0, 1) := by decide +kernel
theorem d11_21 : decode prog_139_method_7_code 21 = .ok (.getfield 36, 3) := by decide +kernel
theorem d11_24 : decode prog_139_method_7_code 24 = .ok (.i2l, 1) := by decide +kernel
theorem d11_25 : decode prog_139_method_7_code 25 = .ok (.aload_n 0, 1) := by decide +kernel
theorem d11_26 : decode prog_139_method_7_code 26 = .ok (.getfield 65, 3) := by decide +kernel
theorem d11_29 : decode prog_139_method_7_code 29 = .ok (.lmul, 1) := by decide +kernel
theorem d11_30 : decode prog_139_method_7_code 30 = .ok (.lreturn, 1) := by decide +kernel
theorem d11_31 : decode prog_139_method_7_code 31 = .ok (.aload_n 0, 1) := by decide +kernel
theorem d11_32 : decode prog_139_method_7_code 32 = .ok (.getfield 49, 3) := by decide +kernel
theorem d11_35 : decode prog_139_method_7_code 35 = .ok (.iload_n 1, 1) := by decide +kernel
theorem d11_36 : decode prog_139_method_7_code 36 = .ok (.i2l, 1) := by decide +kernel
theorem d11_37 : decode prog_139_method_7_code 37 = .ok (.ladd, 1) := by decide +kernel
theorem d11_38 : decode prog_139_method_7_code 38 = .ok (.lstore_n 2, 1) := by decide +kernel
theorem d11_39 : decode prog_139_method_7_code 39 = .ok (.lconst 0, 1) := by decide +kernel
theorem d11_40 : decode prog_139_method_7_code 40 = .ok (.lstore 4, 2) := by decide +kernel
theorem d11_42 : decode prog_139_method_7_code 42 = .ok (.lconst 0, 1) := by decide +kernel
theorem d11_43 : decode prog_139_method_7_code 43 = .ok (.lstore 6, 2) := by decide +kernel
theorem d11_45 : decode prog_139_method_7_code 45 = .ok (.aload_n 0, 1) := by decide +kernel
theorem d11_46 : decode prog_139_method_7_code 46 = .ok (.getfield 40, 3) := by decide +kernel
theorem d11_49 : decode prog_139_method_7_code 49 = .ok (.istore 8, 2) := by decide +kernel
theorem d11_51 : decode prog_139_method_7_code 51 = .ok (.iload 8, 2) := by decide +kernel
theorem d11_53 : decode prog_139_method_7_code 53 = .ok (.aload_n 0, 1) := by decide +kernel
theorem d11_54 : decode prog_139_method_7_code 54 = .ok (.getfield 43, 3) := by decide +kernel
theorem d11_57 : decode prog_139_method_7_code 57 = .ok (.if_icmp .ge 76, 3) := by decide +kernel
theorem d11_60 : decode prog_139_method_7_code 60 = .ok (.lload 6, 2) := by decide +kernel
theorem d11_62 : decode prog_139_method_7_code 62 = .ok (.lload_n 2, 1) := by decide +kernel
theorem d11_63 : decode prog_139_method_7_code 63 = .ok (.lcmp, 1) := by decide +kernel
theorem d11_64 : decode prog_139_method_7_code 64 = .ok (.ifCond .ge 69, 3) := by decide +kernel
theorem d11_67 : decode prog_139_method_7_code 67 = .ok (.iload 8, 2) := by decide +kernel
theorem d11_69 : decode prog_139_method_7_code 69 = .ok (.aload_n 0, 1) := by decide +kernel
theorem d11_70 : decode prog_139_method_7_code 70 = .ok (.getfield 46, 3) := by decide +kernel
theorem d11_73 : decode prog_139_method_7_code 73 = .ok (.if_icmp .eq 54, 3) := by decide +kernel
theorem d11_76 : decode prog_139_method_7_code 76 = .ok (.aload_n 0, 1) := by decide +kernel
theorem d11_77 : decode prog_139_method_7_code 77 = .ok (.getfield 32, 3) := by decide +kernel
theorem d11_80 : decode prog_139_method_7_code 80 = .ok (.iload 8, 2) := by decide +kernel
theorem d11_82 : decode prog_139_method_7_code 82 = .ok (.baload, 1) := by decide +kernel
theorem d11_83 : decode prog_139_method_7_code 83 = .ok (.bipush 48, 2) := by decide +kernel
theorem d11_85 : decode prog_139_method_7_code 85 = .ok (.isub, 1) := by decide +kernel
theorem d11_86 : decode prog_139_method_7_code 86 = .ok (.istore 9, 2) := by decide +kernel
theorem d11_88 : decode prog_139_method_7_code 88 = .ok (.lload 4, 2) := by decide +kernel
theorem d11_90 : decode prog_139_method_7_code 90 = .ok (.ldc2_w 89, 3) := by decide +kernel
theorem d11_93 : decode prog_139_method_7_code 93 = .ok (.iload 9, 2) := by decide +kernel
theorem d11_95 : decode prog_139_method_7_code 95 = .ok (.i2l, 1) := by decide +kernel
theorem d11_96 : decode prog_139_method_7_code 96 = .ok (.lsub, 1) := by decide +kernel
theorem d11_97 : decode prog_139_method_7_code 97 = .ok (.ldc2_w 21, 3) := by decide +kernel
theorem d11_100 : decode prog_139_method_7_code 100 = .ok (.ldiv, 1) := by decide +kernel
theorem d11_101 : decode prog_139_method_7_code 101 = .ok (.lcmp, 1) := by decide +kernel
theorem d11_102 : decode prog_139_method_7_code 102 = .ok (.ifCond .le 7, 3) := by decide +kernel
theorem d11_105 : decode prog_139_method_7_code 105 = .ok (.ldc2_w 68, 3) := by decide +kernel
theorem d11_108 : decode prog_139_method_7_code 108 = .ok (.lreturn, 1) := by decide +kernel
theorem d11_109 : decode prog_139_method_7_code 109 = .ok (.lload 4, 2) := by decide +kernel
theorem d11_111 : decode prog_139_method_7_code 111 = .ok (.ldc2_w 21, 3) := by decide +kernel
theorem d11_114 : decode prog_139_method_7_code 114 = .ok (.lmul, 1) := by decide +kernel
theorem d11_115 : decode prog_139_method_7_code 115 = .ok (.iload 9, 2) := by decide +kernel
theorem d11_117 : decode prog_139_method_7_code 117 = .ok (.i2l, 1) := by decide +kernel
theorem d11_118 : decode prog_139_method_7_code 118 = .ok (.ladd, 1) := by decide +kernel
theorem d11_119 : decode prog_139_method_7_code 119 = .ok (.lstore 4, 2) := by decide +kernel
theorem d11_121 : decode prog_139_method_7_code 121 = .ok (.lload 6, 2) := by decide +kernel
theorem d11_123 : decode prog_139_method_7_code 123 = .ok (.lconst 1, 1) := by decide +kernel
theorem d11_124 : decode prog_139_method_7_code 124 = .ok (.ladd, 1) := by decide +kernel
theorem d11_125 : decode prog_139_method_7_code 125 = .ok (.lstore 6, 2) := by decide +kernel
theorem d11_127 : decode prog_139_method_7_code 127 = .ok (.iinc 8 1, 3) := by decide +kernel
theorem d11_130 : decode prog_139_method_7_code 130 = .ok (.goto (-79), 3) := by decide +kernel
theorem d11_133 : decode prog_139_method_7_code 133 = .ok (.lload 6, 2) := by decide +kernel
theorem d11_135 : decode prog_139_method_7_code 135 = .ok (.lload_n 2, 1) := by decide +kernel
theorem d11_136 : decode prog_139_method_7_code 136 = .ok (.lcmp, 1) := by decide +kernel
theorem d11_137 : decode prog_139_method_7_code 137 = .ok (.ifCond .ge 33, 3) := by decide +kernel
theorem d11_140 : decode prog_139_method_7_code 140 = .ok (.lload 4, 2) := by decide +kernel
theorem d11_142 : decode prog_139_method_7_code 142 = .ok (.ldc2_w 91, 3) := by decide +kernel
theorem d11_145 : decode prog_139_method_7_code 145 = .ok (.lcmp, 1) := by decide +kernel
theorem d11_146 : decode prog_139_method_7_code 146 = .ok (.ifCond .le 7, 3) := by decide +kernel
theorem d11_149 : decode prog_139_method_7_code 149 = .ok (.ldc2_w 68, 3) := by decide +kernel
theorem d11_152 : decode prog_139_method_7_code 152 = .ok (.lreturn, 1) := by decide +kernel
theorem d11_153 : decode prog_139_method_7_code 153 = .ok (.lload 4, 2) := by decide +kernel
theorem d11_155 : decode prog_139_method_7_code 155 = .ok (.ldc2_w 21, 3) := by decide +kernel
theorem d11_158 : decode prog_139_method_7_code 158 = .ok (.lmul, 1) := by decide +kernel
theorem d11_159 : decode prog_139_method_7_code 159 = .ok (.lstore 4, 2) := by decide +kernel
theorem d11_161 : decode prog_139_method_7_code 161 = .ok (.lload 6, 2) := by decide +kernel
theorem d11_163 : decode prog_139_method_7_code 163 = .ok (.lconst 1, 1) := by decide +kernel
theorem d11_164 : decode prog_139_method_7_code 164 = .ok (.ladd, 1) := by decide +kernel
theorem d11_165 : decode prog_139_method_7_code 165 = .ok (.lstore 6, 2) := by decide +kernel
theorem d11_167 : decode prog_139_method_7_code 167 = .ok (.goto (-34), 3) := by decide +kernel
theorem d11_170 : decode prog_139_method_7_code 170 = .ok (.aload_n 0, 1) := by decide +kernel
theorem d11_171 : decode prog_139_method_7_code 171 = .ok (.getfield 36, 3) := by decide +kernel
theorem d11_174 : decode prog_139_method_7_code 174 = .ok (.i2l, 1) := by decide +kernel
theorem d11_175 : decode prog_139_method_7_code 175 = .ok (.lload 4, 2) := by decide +kernel
theorem d11_177 : decode prog_139_method_7_code 177 = .ok (.lmul, 1) := by decide +kernel
theorem d11_178 : decode prog_139_method_7_code 178 = .ok (.lreturn, 1) := by decide +kernel
theorem pn_11 : plainName "com/example/tracefold/tracefold/trace/DecimalText" = true := by first | (simp [plainName, overriddenIn]; done) | decide +kernel
theorem ef_11 (m : MethodId) (r0 : Addr) (p1 : Int32) : entryFrame m #[.ref r0, .int p1] 10 = mkF m 0 #[.val (.ref r0), .val (.int p1), .unset, .unset, .unset, .unset, .unset, .unset, .unset, .unset] [] := by first | (simp [entryFrame, mkF, argsToLocals, Value.category]; done) | rfl
set_option maxRecDepth 65536 in
set_option maxHeartbeats 40000000 in
theorem ct_11 (l : Launch) (Z : State) (a0 : Array Value) (hw : ∀ d ∈ tables_1, d.before a0 Z = true) {h0 : Heap} {n0 : Nat} (zs : n0 ≤ h0.size) (r0 : Addr) (p1 : Int32) (f : Int → Int32) (N : Nat) (i0 i1 i2 i3 W sgn wr : Int) (t : Addr) (sg fst en pnt : Int32) (ex wh : Int64) (F_r0_text : Fld Z h0 r0 "com/example/tracefold/tracefold/trace/DecimalText" "text" "[B" (.ref t)) (F_r0_sign : Fld Z h0 r0 "com/example/tracefold/tracefold/trace/DecimalText" "sign" "I" (.int sg)) (F_r0_first : Fld Z h0 r0 "com/example/tracefold/tracefold/trace/DecimalText" "first" "I" (.int fst)) (F_r0_end : Fld Z h0 r0 "com/example/tracefold/tracefold/trace/DecimalText" "end" "I" (.int en)) (F_r0_point : Fld Z h0 r0 "com/example/tracefold/tracefold/trace/DecimalText" "point" "I" (.int pnt)) (F_r0_exponent : Fld Z h0 r0 "com/example/tracefold/tracefold/trace/DecimalText" "exponent" "J" (.long ex)) (F_r0_whole : Fld Z h0 r0 "com/example/tracefold/tracefold/trace/DecimalText" "whole" "J" (.long wh)) (A_t : AIK Z h0 t .byte 26 f) (hen : en.toInt = i3) (R : own_R N i0 i1 i2 i3 sgn wr sg fst pnt ex wh) (U1 : own_T1 f i0 i1 i2 i3 W) (U2 : own_T2 f N i0 i1 i2 i3) (U3 : N < 10 ^ (i1 - i0 + (i3 - i2)).toNat) (U3' : i1 - i0 + (i3 - i2) ≤ 19) (hW : W ≤ 26) (hwr : -99 ≤ wr ∧ wr ≤ 99) (hs : sgn = 1 ∨ sgn = -1) (hp : 0 ≤ p1.toInt) :
    CtK l Z (⟨"com/example/tracefold/tracefold/trace/DecimalText", "units", "(I)J"⟩ : MethodName) prog_139_method_7_code 10 (some .long) ({ frames := 0, cells := 0, slots := 0, locals := 0 } : Room) #[.ref r0, .int p1] h0 n0 (QJ (fun z h => z.toInt = own_res N (wr - (i3 - i2) + p1.toInt) sgn ∧ h = h0)) := by
  refine CtK.of (plainFor_of_name pn_11) ?_
  intro p e s m below meth c T0 X0 hx hZ hby hml hown hnm hret hlk
  refine GoK.entry (ef_11 m r0 p1) ?_
  replace hown : s.vm.findClass "com/example/tracefold/tracefold/trace/DecimalText" = some m.cls := hown
  refine go_aloadN (pc' := 1) X0 hx (hb hby d11_0) rfl rfl ?_
  refine go_getfield (pc' := 4) X0 hx hZ hown (hw _ (List.mem_of_getElem? (i := 53) rfl)) F_r0_sign (hb hby d11_1) rfl (fun T1 X1 => ?_)
  refine go_ifeq (pc' := 7) (pcT := 20) X1 hx (hb hby d11_4) rfl (by decide) (by decide) (fun c4 => ?_) (fun c4 => ?_)
  · refine go_aloadN (pc' := 21) X1 hx (hb hby d11_20) rfl rfl ?_
    refine go_getfield (pc' := 24) X1 hx hZ hown (hw _ (List.mem_of_getElem? (i := 53) rfl)) F_r0_sign (hb hby d11_21) rfl (fun T2 X2 => ?_)
    refine go_i2l (pc' := 25) X2 hx (hb hby d11_24) rfl ?_
    refine go_aloadN (pc' := 26) X2 hx (hb hby d11_25) rfl rfl ?_
    refine go_getfield (pc' := 29) X2 hx hZ hown (hw _ (List.mem_of_getElem? (i := 71) rfl)) F_r0_whole (hb hby d11_26) rfl (fun T3 X3 => ?_)
    refine go_lmul (pc' := 30) X3 hx (hb hby d11_29) rfl ?_
    refine go_retJ X3 hx hret hlk (hb hby d11_30) (by decide) (by decide) ?_
    refine ⟨?_, rfl⟩
    exact own_u0 R hs c4
  · suffices JH31 : ∀ (T4 : State) (h4 : Heap) , OnK p l e ({ frames := 0, cells := 0, slots := 0, locals := 0 } : Room) s m #[.ref r0, .int p1] below meth c n0 T4 h4 0 0 → n0 ≤ h4.size → Fld Z h4 r0 "com/example/tracefold/tracefold/trace/DecimalText" "text" "[B" (.ref t) → Fld Z h4 r0 "com/example/tracefold/tracefold/trace/DecimalText" "sign" "I" (.int sg) → Fld Z h4 r0 "com/example/tracefold/tracefold/trace/DecimalText" "first" "I" (.int fst) → Fld Z h4 r0 "com/example/tracefold/tracefold/trace/DecimalText" "end" "I" (.int en) → Fld Z h4 r0 "com/example/tracefold/tracefold/trace/DecimalText" "point" "I" (.int pnt) → Fld Z h4 r0 "com/example/tracefold/tracefold/trace/DecimalText" "exponent" "J" (.long ex) → Fld Z h4 r0 "com/example/tracefold/tracefold/trace/DecimalText" "whole" "J" (.long wh) → AIK Z h4 t .byte (26) f → (h4 = h0) → GoK p e below (DoneK s below n0 ({ frames := 0, cells := 0, slots := 0, locals := 0 } : Room).cells ({ frames := 0, cells := 0, slots := 0, locals := 0 } : Room).slots (QJ (fun z h => z.toInt = own_res N (wr - (i3 - i2) + p1.toInt) sgn ∧ h = h0))) T4 (mkF m 31 #[.val (.ref r0), .val (.int p1), .unset, .unset, .unset, .unset, .unset, .unset, .unset, .unset] []) by
      refine go_aloadN (pc' := 8) X1 hx (hb hby d11_7) rfl rfl ?_
      refine go_getfield (pc' := 11) X1 hx hZ hown (hw _ (List.mem_of_getElem? (i := 71) rfl)) F_r0_whole (hb hby d11_8) rfl (fun T5 X5 => ?_)
      refine go_lconst (pc' := 12) (v := 0) X5 hx (hb hby d11_11) rfl rfl ?_
      refine go_liflt (pc1 := 13) (pc' := 16) (pcT := 31) X5 hx (hb hby d11_12) rfl (hb hby d11_13) rfl (by decide) (by decide) (fun c13_f => ?_) (fun c13_f => ?_)
      · refine JH31 T5 h0  X5 zs F_r0_text F_r0_sign F_r0_first F_r0_end F_r0_point F_r0_exponent F_r0_whole A_t ?_
        · rfl
      · refine go_iloadN (pc' := 17) X5 hx (hb hby d11_16) rfl rfl ?_
        refine go_ifne (pc' := 20) (pcT := 31) X5 hx (hb hby d11_17) rfl (by decide) (by decide) (fun c17_ff => ?_) (fun c17_ff => ?_)
        · refine JH31 T5 h0  X5 zs F_r0_text F_r0_sign F_r0_first F_r0_end F_r0_point F_r0_exponent F_r0_whole A_t ?_
          · rfl
        · refine go_aloadN (pc' := 21) X5 hx (hb hby d11_20) rfl rfl ?_
          refine go_getfield (pc' := 24) X5 hx hZ hown (hw _ (List.mem_of_getElem? (i := 53) rfl)) F_r0_sign (hb hby d11_21) rfl (fun T6 X6 => ?_)
          refine go_i2l (pc' := 25) X6 hx (hb hby d11_24) rfl ?_
          refine go_aloadN (pc' := 26) X6 hx (hb hby d11_25) rfl rfl ?_
          refine go_getfield (pc' := 29) X6 hx hZ hown (hw _ (List.mem_of_getElem? (i := 71) rfl)) F_r0_whole (hb hby d11_26) rfl (fun T7 X7 => ?_)
          refine go_lmul (pc' := 30) X7 hx (hb hby d11_29) rfl ?_
          refine go_retJ X7 hx hret hlk (hb hby d11_30) (by decide) (by decide) ?_
          refine ⟨?_, rfl⟩
          exact own_u1 R hs c4 c13_f c17_ff
    intro T4 h4 X4 zs F_r0_text F_r0_sign F_r0_first F_r0_end F_r0_point F_r0_exponent F_r0_whole A_t jh31
    obtain ⟨hS, hpn, hwh⟩ := R
    obtain ⟨hN0, hS1, hS2, hM, hex⟩ : N ≠ 0 ∧ sg.toInt = sgn ∧ ((i0 ≤ fst.toInt ∧ fst.toInt < i1) ∨ (i2 ≤ fst.toInt ∧ fst.toInt < i3)) ∧ N < 10 ^ (own_cnt i1 i2 i3 fst.toInt).toNat ∧ ex.toInt = wr - (i3 - i2) + own_cnt i1 i2 i3 fst.toInt := by
      rcases hS with ⟨-, a⟩ | a
      · exact absurd a c4
      · exact a
    have hN19 := own_19 U3 U3'
    obtain ⟨t1, t2, t3, t4, t5, t6⟩ := U1
    have M1 : 1 ≤ own_cnt i1 i2 i3 fst.toInt ∧ own_cnt i1 i2 i3 fst.toInt ≤ 26 := own_cb t1 t2 t3 t4 hW t6 hS2
    refine go_aloadN (pc' := 32) X4 hx (hb hby d11_31) rfl rfl ?_
    refine go_getfield (pc' := 35) X4 hx hZ hown (hw _ (List.mem_of_getElem? (i := 61) rfl)) F_r0_exponent (hb hby d11_32) rfl (fun T8 X8 => ?_)
    refine go_iloadN (pc' := 36) X8 hx (hb hby d11_35) rfl rfl ?_
    refine go_i2l (pc' := 37) X8 hx (hb hby d11_36) rfl ?_
    refine go_ladd (pc' := 38) X8 hx (hb hby d11_37) rfl ?_
    refine go_nameJ (fun v2_38_f hv2_38_f => ?_)
    refine go_lstoreN (pc' := 39) (L' := #[.val (.ref r0), .val (.int p1), .val (.long v2_38_f), .second, .unset, .unset, .unset, .unset, .unset, .unset]) X8 hx (hb hby d11_38) rfl rfl ?_
    have hK : v2_38_f.toInt = (wr - (i3 - i2) + p1.toInt) + own_cnt i1 i2 i3 fst.toInt := by rw [hv2_38_f, Jvm.Free.XT.add64 ⟨by rw [Int32.toInt_toInt64]; have := rng32 p1; omega, by rw [Int32.toInt_toInt64]; have := rng32 p1; omega⟩, Int32.toInt_toInt64]; omega
    refine go_lconst (pc' := 40) (v := 0) X8 hx (hb hby d11_39) rfl rfl ?_
    refine go_lstore (pc' := 42) (L' := #[.val (.ref r0), .val (.int p1), .val (.long v2_38_f), .second, .val (.long (0 : Int64)), .second, .unset, .unset, .unset, .unset]) X8 hx (hb hby d11_40) rfl rfl ?_
    refine go_lconst (pc' := 43) (v := 0) X8 hx (hb hby d11_42) rfl rfl ?_
    refine go_lstore (pc' := 45) (L' := #[.val (.ref r0), .val (.int p1), .val (.long v2_38_f), .second, .val (.long (0 : Int64)), .second, .val (.long (0 : Int64)), .second, .unset, .unset]) X8 hx (hb hby d11_43) rfl rfl ?_
    refine go_aloadN (pc' := 46) X8 hx (hb hby d11_45) rfl rfl ?_
    refine go_getfield (pc' := 49) X8 hx hZ hown (hw _ (List.mem_of_getElem? (i := 55) rfl)) F_r0_first (hb hby d11_46) rfl (fun T9 X9 => ?_)
    refine go_istore (pc' := 51) (L' := #[.val (.ref r0), .val (.int p1), .val (.long v2_38_f), .second, .val (.long (0 : Int64)), .second, .val (.long (0 : Int64)), .second, .val (.int fst), .unset]) X9 hx (hb hby d11_49) rfl rfl ?_
    suffices loop51 : ∀ (d : Nat) (TL51 : State) (hL51 : Heap) (u4 : Int64) (k6 : Int64) (v8 : Int32) (s9 : Slot), OnK p l e ({ frames := 0, cells := 0, slots := 0, locals := 0 } : Room) s m #[.ref r0, .int p1] below meth c n0 TL51 hL51 0 0 → n0 ≤ hL51.size → Fld Z hL51 r0 "com/example/tracefold/tracefold/trace/DecimalText" "text" "[B" (.ref t) → Fld Z hL51 r0 "com/example/tracefold/tracefold/trace/DecimalText" "sign" "I" (.int sg) → Fld Z hL51 r0 "com/example/tracefold/tracefold/trace/DecimalText" "first" "I" (.int fst) → Fld Z hL51 r0 "com/example/tracefold/tracefold/trace/DecimalText" "end" "I" (.int en) → Fld Z hL51 r0 "com/example/tracefold/tracefold/trace/DecimalText" "point" "I" (.int pnt) → Fld Z hL51 r0 "com/example/tracefold/tracefold/trace/DecimalText" "exponent" "J" (.long ex) → Fld Z hL51 r0 "com/example/tracefold/tracefold/trace/DecimalText" "whole" "J" (.long wh) → AIK Z hL51 t .byte (26) f → One s9 → (i3 - v8.toInt).toNat = d → (hL51 = h0 ∧ fst.toInt ≤ v8.toInt ∧ v8.toInt ≤ i3 ∧ u4.toInt = ((N / 10 ^ (own_cnt i1 i2 i3 v8.toInt).toNat : Nat) : Int) ∧ k6.toInt = own_cnt i1 i2 i3 fst.toInt - own_cnt i1 i2 i3 v8.toInt ∧ (k6.toInt = 0 ∨ k6.toInt ≤ v2_38_f.toInt) ∧ 0 ≤ k6.toInt) → GoK p e below (DoneK s below n0 ({ frames := 0, cells := 0, slots := 0, locals := 0 } : Room).cells ({ frames := 0, cells := 0, slots := 0, locals := 0 } : Room).slots (QJ (fun z h => z.toInt = own_res N (wr - (i3 - i2) + p1.toInt) sgn ∧ h = h0))) TL51 (mkF m 51 #[.val (.ref r0), .val (.int p1), .val (.long v2_38_f), .second, .val (.long u4), .second, .val (.long k6), .second, .val (.int v8), s9] []) by
      refine loop51 _ T9 h4 (0 : Int64) (0 : Int64) fst (.unset) X9 zs F_r0_text F_r0_sign F_r0_first F_r0_end F_r0_point F_r0_exponent F_r0_whole A_t One.u rfl ?_
      refine ⟨jh31, by omega, ?_, ?_, ?_, Or.inl rfl, by decide⟩
      · rcases hS2 with ⟨a, b⟩ | ⟨a, b⟩
        · rcases t6 with ⟨g, -⟩ | ⟨g, g', -⟩ <;> omega
        · omega
      · rw [Nat.div_eq_of_lt hM]; rfl
      · have k0' : (0 : Int64).toInt = 0 := rfl
        omega
    intro d51
    induction d51 using Nat.strongRecOn with
    | _ d51 ih51 =>
      intro TL51 hL51 u4 k6 v8 s9 XL51 zs F_r0_text F_r0_sign F_r0_first F_r0_end F_r0_point F_r0_exponent F_r0_whole A_t hs9 hm51 hv51
      obtain ⟨i0', i1', i2', i3', i4', i5', i6'⟩ := hv51
      have cn0 := own_cb2 (i1 := i1) (i2 := i2) (i3 := i3) (j := v8.toInt) t3 t6 i2'
      refine go_iload (pc' := 53) XL51 hx (hb hby d11_51) rfl rfl ?_
      refine go_aloadN (pc' := 54) XL51 hx (hb hby d11_53) rfl rfl ?_
      refine go_getfield (pc' := 57) XL51 hx hZ hown (hw _ (List.mem_of_getElem? (i := 57) rfl)) F_r0_end (hb hby d11_54) rfl (fun T10 X10 => ?_)
      refine go_icmpge (pc' := 60) (pcT := 133) X10 hx (hb hby d11_57) rfl (by decide) (by decide) (fun c57_f => ?_) (fun c57_f => ?_)
      · have y57 := own_geI c57_f
        have ev : v8.toInt = i3 := by omega
        have ec : own_cnt i1 i2 i3 v8.toInt = 0 := by rw [ev]; exact own_ce t6 t3
        suffices loop133 : ∀ (d : Nat) (x4 : Int64) (x6 : Int64), (v2_38_f.toInt - x6.toInt).toNat = d → (x4.toInt = ((N * 10 ^ (x6.toInt - own_cnt i1 i2 i3 fst.toInt).toNat : Nat) : Int) ∧ own_cnt i1 i2 i3 fst.toInt ≤ x6.toInt ∧ x6.toInt ≤ v2_38_f.toInt) → GoK p e below (DoneK s below n0 ({ frames := 0, cells := 0, slots := 0, locals := 0 } : Room).cells ({ frames := 0, cells := 0, slots := 0, locals := 0 } : Room).slots (QJ (fun z h => z.toInt = own_res N (wr - (i3 - i2) + p1.toInt) sgn ∧ h = h0))) T10 (mkF m 133 #[.val (.ref r0), .val (.int p1), .val (.long v2_38_f), .second, .val (.long x4), .second, .val (.long x6), .second, .val (.int v8), s9] []) by
          refine loop133 _ u4 k6  rfl ?_
          rw [ec] at i3' i4'
          refine ⟨?_, by omega, by omega⟩
          rw [i4', show own_cnt i1 i2 i3 fst.toInt - 0 - own_cnt i1 i2 i3 fst.toInt = 0 by omega, i3']; simp
        intro d133
        induction d133 using Nat.strongRecOn with
        | _ d133 ih133 =>
          intro x4 x6 hm133 hv133
          obtain ⟨l1, l2, l3⟩ := hv133
          refine go_lload (pc' := 135) X10 hx (hb hby d11_133) rfl rfl ?_
          refine go_lloadN (pc' := 136) X10 hx (hb hby d11_135) rfl rfl ?_
          refine go_lifge (pc1 := 137) (pc' := 140) (pcT := 170) X10 hx (hb hby d11_136) rfl (hb hby d11_137) rfl (by decide) (by decide) (fun c137_ft => ?_) (fun c137_ft => ?_)
          · refine go_aloadN (pc' := 171) X10 hx (hb hby d11_170) rfl rfl ?_
            refine go_getfield (pc' := 174) X10 hx hZ hown (hw _ (List.mem_of_getElem? (i := 53) rfl)) F_r0_sign (hb hby d11_171) rfl (fun T11 X11 => ?_)
            refine go_i2l (pc' := 175) X11 hx (hb hby d11_174) rfl ?_
            refine go_lload (pc' := 177) X11 hx (hb hby d11_175) rfl rfl ?_
            refine go_lmul (pc' := 178) X11 hx (hb hby d11_177) rfl ?_
            refine go_retJ X11 hx hret hlk (hb hby d11_178) (by decide) (by decide) ?_
            refine ⟨?_, i0'⟩
            exact own_ea hS1 hs l1 l2 l3 (fun w => c137_ft (Int64.lt_iff_toInt_lt.mpr w)) hK M1
          · refine go_lload (pc' := 142) X10 hx (hb hby d11_140) rfl rfl ?_
            refine go_ldc2 (pc' := 145) X10 hx hZ hown (hw _ (List.mem_of_getElem? (i := 84) rfl)) (hb hby d11_142) rfl ?_
            refine go_lifle (pc1 := 146) (pc' := 149) (pcT := 153) X10 hx (hb hby d11_145) rfl (hb hby d11_146) rfl (by decide) (by decide) (fun c146_ftf => ?_) (fun c146_ftf => ?_)
            · refine go_lload (pc' := 155) X10 hx (hb hby d11_153) rfl rfl ?_
              refine go_ldc2 (pc' := 158) X10 hx hZ hown (hw _ (List.mem_of_getElem? (i := 73) rfl)) (hb hby d11_155) rfl ?_
              refine go_lmul (pc' := 159) X10 hx (hb hby d11_158) rfl ?_
              refine go_nameJ (fun v4_159_ftft hv4_159_ftft => ?_)
              refine go_lstore (pc' := 161) (L' := #[.val (.ref r0), .val (.int p1), .val (.long v2_38_f), .second, .val (.long v4_159_ftft), .second, .val (.long x6), .second, .val (.int v8), s9]) X10 hx (hb hby d11_159) rfl rfl ?_
              refine go_lload (pc' := 163) X10 hx (hb hby d11_161) rfl rfl ?_
              refine go_lconst (pc' := 164) (v := 1) X10 hx (hb hby d11_163) rfl rfl ?_
              refine go_ladd (pc' := 165) X10 hx (hb hby d11_164) rfl ?_
              refine go_nameJ (fun v6_165_ftft hv6_165_ftft => ?_)
              refine go_lstore (pc' := 167) (L' := #[.val (.ref r0), .val (.int p1), .val (.long v2_38_f), .second, .val (.long v4_159_ftft), .second, .val (.long v6_165_ftft), .second, .val (.int v8), s9]) X10 hx (hb hby d11_165) rfl rfl ?_
              refine go_goto (pc' := 133) X10 hx (hb hby d11_167) (by decide) (by decide) ?_
              refine ih133 _ ?_ v4_159_ftft v6_165_ftft  rfl ?_
              · have y := Int64.lt_iff_toInt_lt.mp c137_ft
                have k1' : (1 : Int64).toInt = 1 := rfl
                have e6 : v6_165_ftft.toInt = x6.toInt + 1 := by rw [hv6_165_ftft, Jvm.Free.XT.add64 ⟨by omega, by have := rng64 v2_38_f; omega⟩, k1']
                omega
              · have y := Int64.lt_iff_toInt_lt.mp c137_ft
                have k1' : (1 : Int64).toInt = 1 := rfl
                have e6 : v6_165_ftft.toInt = x6.toInt + 1 := by rw [hv6_165_ftft, Jvm.Free.XT.add64 ⟨by omega, by have := rng64 v2_38_f; omega⟩, k1']
                exact ⟨own_m10 l1 l2 e6 c146_ftf hv4_159_ftft, by omega, by omega⟩
            · refine go_ldc2 (pc' := 152) X10 hx hZ hown (hw _ (List.mem_of_getElem? (i := 85) rfl)) (hb hby d11_149) rfl ?_
              refine go_retJ X10 hx hret hlk (hb hby d11_152) (by decide) (by decide) ?_
              refine ⟨?_, i0'⟩
              exact own_min2 l1 l2 (by have := (Int64.lt_iff_toInt_lt.mp c137_ft); omega) hK c146_ftf
      · refine go_lload (pc' := 62) X10 hx (hb hby d11_60) rfl rfl ?_
        refine go_lloadN (pc' := 63) X10 hx (hb hby d11_62) rfl rfl ?_
        refine go_lifge (pc1 := 64) (pc' := 67) (pcT := 133) X10 hx (hb hby d11_63) rfl (hb hby d11_64) rfl (by decide) (by decide) (fun c64_ff => ?_) (fun c64_ff => ?_)
        · refine go_lload (pc' := 135) X10 hx (hb hby d11_133) rfl rfl ?_
          refine go_lloadN (pc' := 136) X10 hx (hb hby d11_135) rfl rfl ?_
          refine go_lifge (pc1 := 137) (pc' := 140) (pcT := 170) X10 hx (hb hby d11_136) rfl (hb hby d11_137) rfl (by decide) (by decide) (fun c137_fft => ?_) (fun c137_fft => (by exfalso; have y := Int64.lt_iff_toInt_lt.mp c137_fft; exact c64_ff c137_fft))
          refine go_aloadN (pc' := 171) X10 hx (hb hby d11_170) rfl rfl ?_
          refine go_getfield (pc' := 174) X10 hx hZ hown (hw _ (List.mem_of_getElem? (i := 53) rfl)) F_r0_sign (hb hby d11_171) rfl (fun T12 X12 => ?_)
          refine go_i2l (pc' := 175) X12 hx (hb hby d11_174) rfl ?_
          refine go_lload (pc' := 177) X12 hx (hb hby d11_175) rfl rfl ?_
          refine go_lmul (pc' := 178) X12 hx (hb hby d11_177) rfl ?_
          refine go_retJ X12 hx hret hlk (hb hby d11_178) (by decide) (by decide) ?_
          refine ⟨?_, i0'⟩
          exact own_eb hS1 hs hM i3' i4' i5' (fun w => c64_ff (Int64.lt_iff_toInt_lt.mpr w)) hK cn0
        · refine go_iload (pc' := 69) X10 hx (hb hby d11_67) rfl rfl ?_
          refine go_aloadN (pc' := 70) X10 hx (hb hby d11_69) rfl rfl ?_
          refine go_getfield (pc' := 73) X10 hx hZ hown (hw _ (List.mem_of_getElem? (i := 59) rfl)) F_r0_point (hb hby d11_70) rfl (fun T13 X13 => ?_)
          refine go_icmpeq (pc' := 76) (pcT := 127) X13 hx (hb hby d11_73) rfl (by decide) (by decide) (fun c73_fff => ?_) (fun c73_fff => ?_)
          · obtain ⟨v8_127_ffft, hv8_127_ffft⟩ : ∃ z : Int32, z = v8 + (1 : Int32) := ⟨_, rfl⟩
            refine go_iinc (pc' := 130) (L' := #[.val (.ref r0), .val (.int p1), .val (.long v2_38_f), .second, .val (.long u4), .second, .val (.long k6), .second, .val (.int v8_127_ffft), s9]) X13 hx (hb hby d11_127) rfl rfl hv8_127_ffft.symm rfl ?_
            refine go_goto (pc' := 51) X13 hx (hb hby d11_130) (by decide) (by decide) ?_
            refine ih51 _ ?_ T13 hL51 u4 k6 v8_127_ffft (s9) X13 zs F_r0_text F_r0_sign F_r0_first F_r0_end F_r0_point F_r0_exponent F_r0_whole A_t hs9 rfl ?_
            · have y57 := own_ltI c57_f
              have e8 := own_inc hv8_127_ffft (by omega)
              omega
            · have y57 := own_ltI c57_f
              have e8 := own_inc hv8_127_ffft (by omega)
              have y73 := own_eqI c73_fff
              have ec : own_cnt i1 i2 i3 v8_127_ffft.toInt = own_cnt i1 i2 i3 v8.toInt := own_cp t6 hpn y73 e8 (by omega)
              exact ⟨i0', by omega, by omega, by rw [ec]; exact i3', by rw [ec]; exact i4', i5', i6'⟩
          · have dp : (i0 ≤ v8.toInt ∧ v8.toInt < i1) ∨ (i2 ≤ v8.toInt ∧ v8.toInt < i3) := own_dp t2 t6 hpn hS2 i1' (by have := own_ltI c57_f; omega) (own_neI c73_fff)
            refine go_aloadN (pc' := 77) X13 hx (hb hby d11_76) rfl rfl ?_
            refine go_getfield (pc' := 80) X13 hx hZ hown (hw _ (List.mem_of_getElem? (i := 51) rfl)) F_r0_text (hb hby d11_77) rfl (fun T14 X14 => ?_)
            refine go_iload (pc' := 82) X14 hx (hb hby d11_80) rfl rfl ?_
            refine go_baloadB (pc' := 83) X14 hx hZ A_t (by omega) (by omega) (hb hby d11_82) rfl (fun w82_ffff hw82_ffff => ?_)
            refine go_bipush (pc' := 85) (v := 48) X14 hx (hb hby d11_83) rfl rfl ?_
            refine go_isub (pc' := 86) X14 hx (hb hby d11_85) rfl ?_
            refine go_nameI (fun v9_86_ffff hv9_86_ffff => ?_)
            refine go_istore (pc' := 88) (L' := #[.val (.ref r0), .val (.int p1), .val (.long v2_38_f), .second, .val (.long u4), .second, .val (.long k6), .second, .val (.int v8), .val (.int v9_86_ffff)]) X14 hx (hb hby d11_86) rfl (XS.store1 rfl hs9 rfl) ?_
            have dg : v9_86_ffff.toInt = ((N / 10 ^ (own_cnt i1 i2 i3 v8.toInt - 1).toNat % 10 : Nat) : Int) := own_d48 (U2 _ dp) hw82_ffff hv9_86_ffff
            refine go_lload (pc' := 90) X14 hx (hb hby d11_88) rfl rfl ?_
            refine go_ldc2 (pc' := 93) X14 hx hZ hown (hw _ (List.mem_of_getElem? (i := 83) rfl)) (hb hby d11_90) rfl ?_
            refine go_iload (pc' := 95) X14 hx (hb hby d11_93) rfl rfl ?_
            refine go_i2l (pc' := 96) X14 hx (hb hby d11_95) rfl ?_
            refine go_lsub (pc' := 97) X14 hx (hb hby d11_96) rfl ?_
            refine go_ldc2 (pc' := 100) X14 hx hZ hown (hw _ (List.mem_of_getElem? (i := 73) rfl)) (hb hby d11_97) rfl ?_
            refine go_ldiv (pc' := 101) X14 hx (hb hby d11_100) rfl (by decide) ?_
            refine go_lifle (pc1 := 102) (pc' := 105) (pcT := 109) X14 hx (hb hby d11_101) rfl (hb hby d11_102) rfl (by decide) (by decide) (fun c102_ffff => ?_) (fun c102_ffff => ?_)
            · refine go_lload (pc' := 111) X14 hx (hb hby d11_109) rfl rfl ?_
              refine go_ldc2 (pc' := 114) X14 hx hZ hown (hw _ (List.mem_of_getElem? (i := 73) rfl)) (hb hby d11_111) rfl ?_
              refine go_lmul (pc' := 115) X14 hx (hb hby d11_114) rfl ?_
              refine go_iload (pc' := 117) X14 hx (hb hby d11_115) rfl rfl ?_
              refine go_i2l (pc' := 118) X14 hx (hb hby d11_117) rfl ?_
              refine go_ladd (pc' := 119) X14 hx (hb hby d11_118) rfl ?_
              refine go_nameJ (fun v4_119_fffft hv4_119_fffft => ?_)
              refine go_lstore (pc' := 121) (L' := #[.val (.ref r0), .val (.int p1), .val (.long v2_38_f), .second, .val (.long v4_119_fffft), .second, .val (.long k6), .second, .val (.int v8), .val (.int v9_86_ffff)]) X14 hx (hb hby d11_119) rfl rfl ?_
              refine go_lload (pc' := 123) X14 hx (hb hby d11_121) rfl rfl ?_
              refine go_lconst (pc' := 124) (v := 1) X14 hx (hb hby d11_123) rfl rfl ?_
              refine go_ladd (pc' := 125) X14 hx (hb hby d11_124) rfl ?_
              refine go_nameJ (fun v6_125_fffft hv6_125_fffft => ?_)
              refine go_lstore (pc' := 127) (L' := #[.val (.ref r0), .val (.int p1), .val (.long v2_38_f), .second, .val (.long v4_119_fffft), .second, .val (.long v6_125_fffft), .second, .val (.int v8), .val (.int v9_86_ffff)]) X14 hx (hb hby d11_125) rfl rfl ?_
              obtain ⟨v8_127_fffft, hv8_127_fffft⟩ : ∃ z : Int32, z = v8 + (1 : Int32) := ⟨_, rfl⟩
              refine go_iinc (pc' := 130) (L' := #[.val (.ref r0), .val (.int p1), .val (.long v2_38_f), .second, .val (.long v4_119_fffft), .second, .val (.long v6_125_fffft), .second, .val (.int v8_127_fffft), .val (.int v9_86_ffff)]) X14 hx (hb hby d11_127) rfl rfl hv8_127_fffft.symm rfl ?_
              refine go_goto (pc' := 51) X14 hx (hb hby d11_130) (by decide) (by decide) ?_
              refine ih51 _ ?_ T14 hL51 v4_119_fffft v6_125_fffft v8_127_fffft (.val (.int v9_86_ffff)) X14 zs F_r0_text F_r0_sign F_r0_first F_r0_end F_r0_point F_r0_exponent F_r0_whole A_t (One.val rfl) rfl ?_
              · have y57 := own_ltI c57_f
                have e8 := own_inc hv8_127_fffft (by omega)
                omega
              · have y57 := own_ltI c57_f
                have e8 := own_inc hv8_127_fffft (by omega)
                obtain ⟨ec, ec1⟩ := own_cd dp t6 e8
                have y64 := Int64.lt_iff_toInt_lt.mp c64_ff
                have k1' : (1 : Int64).toInt = 1 := rfl
                have e6 : v6_125_fffft.toInt = k6.toInt + 1 := by rw [hv6_125_fffft, Jvm.Free.XT.add64 ⟨by omega, by omega⟩, k1']
                refine ⟨i0', by omega, by omega, ?_, by omega, Or.inr (by omega), by omega⟩
                rw [ec]
                exact own_us i3' ec1 dg c102_ffff hv4_119_fffft
            · refine go_ldc2 (pc' := 108) X14 hx hZ hown (hw _ (List.mem_of_getElem? (i := 85) rfl)) (hb hby d11_105) rfl ?_
              refine go_retJ X14 hx hret hlk (hb hby d11_108) (by decide) (by decide) ?_
              refine ⟨?_, i0'⟩
              exact own_min1 hN19 hM i3' i4' (own_cb t1 t2 t3 t4 hW t6 dp).1 hK c64_ff c102_ffff dg
theorem pn_0 : plainName "com/example/tracefold/tracefold/trace/DecimalTextUnitsPinLaw" = true := by first | (simp [plainName, overriddenIn]; done) | decide +kernel
theorem ef_0 (m : MethodId) (q0 : Int64) (p1 : Int32) (p2 : Int32) (p3 : Int32) : entryFrame m #[.long q0, .int p1, .int p2, .int p3] maxLocals = mkF m 0 #[.val (.long q0), .second, .val (.int p1), .val (.int p2), .val (.int p3), .unset, .unset, .unset, .unset, .unset, .unset, .unset, .unset, .unset, .unset, .unset, .unset, .unset, .unset, .unset, .unset, .unset, .unset, .unset, .unset, .unset, .unset, .unset, .unset, .unset, .unset, .unset, .unset, .unset, .unset, .unset, .unset, .unset, .unset, .unset, .unset, .unset, .unset, .unset, .unset, .unset] [] := by first | (simp [entryFrame, mkF, argsToLocals, Value.category, maxLocals]; done) | rfl
set_option maxRecDepth 65536 in
set_option maxHeartbeats 40000000 in
theorem ct_0 (l : Launch) (Z : State) (a0 : Array Value) (hw : ∀ d ∈ tables_1, d.before a0 Z = true) {h0 : Heap} {n0 : Nat} (zs : n0 ≤ h0.size) (q0 : Int64) (p1 : Int32) (p2 : Int32) (p3 : Int32)  :
    CtK l Z x code maxLocals ret room_1 #[.long q0, .int p1, .int p2, .int p3] h0 n0 (QI (fun z _ => z = 1)) := by
  refine CtK.of (plainFor_of_name pn_0) ?_
  intro p e s m below meth c T0 X0 hx hZ hby hml hown hnm hret hlk
  refine GoK.entry (ef_0 m q0 p1 p2 p3) ?_
  replace hml : c.maxLocals = 46 := hml
  replace hown : s.vm.findClass "com/example/tracefold/tracefold/trace/DecimalTextUnitsPinLaw" = some m.cls := hown
  refine go_bipush (pc' := 2) (v := 19) X0 hx (hb hby at_0) rfl rfl ?_
  refine go_newJ (pc' := 4) (cap := 19) (n := 19) (cells' := 1) (slots' := 19) X0 hx hZ (hw _ (List.mem_of_getElem? (i := 0) rfl)) (hb hby at_2) rfl rfl (by decide) (by decide) (by decide) (by decide) (by decide) rfl rfl (fun T1 h1 b1 eb1 X1 E1 A_b1 => ?_)
  have g_b1 : n0 ≤ b1 := by rw [eb1]; exact zs
  have zs := Nat.le_trans zs E1.1
  refine go_dup (pc' := 5) X1 hx (hb hby at_4) rfl rfl ?_
  refine go_iconst (pc' := 6) (v := 0) X1 hx (hb hby at_5) rfl rfl ?_
  refine go_lconst (pc' := 7) (v := 1) X1 hx (hb hby at_6) rfl rfl ?_
  refine go_lastore (pc' := 8) X1 hx hZ A_b1 g_b1 (by decide) (by decide) (hb hby at_7) rfl (fun T2 h2 X2 W2 A_b1 => ?_)
  have zs := Nat.le_trans zs (Nat.le_of_eq W2.size.symm)
  refine go_dup (pc' := 9) X2 hx (hb hby at_8) rfl rfl ?_
  refine go_iconst (pc' := 10) (v := 1) X2 hx (hb hby at_9) rfl rfl ?_
  refine go_ldc2 (pc' := 13) X2 hx hZ hown (hw _ (List.mem_of_getElem? (i := 1) rfl)) (hb hby at_10) rfl ?_
  refine go_lastore (pc' := 14) X2 hx hZ A_b1 g_b1 (by decide) (by decide) (hb hby at_13) rfl (fun T3 h3 X3 W3 A_b1 => ?_)
  have zs := Nat.le_trans zs (Nat.le_of_eq W3.size.symm)
  refine go_dup (pc' := 15) X3 hx (hb hby at_14) rfl rfl ?_
  refine go_iconst (pc' := 16) (v := 2) X3 hx (hb hby at_15) rfl rfl ?_
  refine go_ldc2 (pc' := 19) X3 hx hZ hown (hw _ (List.mem_of_getElem? (i := 2) rfl)) (hb hby at_16) rfl ?_
  refine go_lastore (pc' := 20) X3 hx hZ A_b1 g_b1 (by decide) (by decide) (hb hby at_19) rfl (fun T4 h4 X4 W4 A_b1 => ?_)
  have zs := Nat.le_trans zs (Nat.le_of_eq W4.size.symm)
  refine go_dup (pc' := 21) X4 hx (hb hby at_20) rfl rfl ?_
  refine go_iconst (pc' := 22) (v := 3) X4 hx (hb hby at_21) rfl rfl ?_
  refine go_ldc2 (pc' := 25) X4 hx hZ hown (hw _ (List.mem_of_getElem? (i := 3) rfl)) (hb hby at_22) rfl ?_
  refine go_lastore (pc' := 26) X4 hx hZ A_b1 g_b1 (by decide) (by decide) (hb hby at_25) rfl (fun T5 h5 X5 W5 A_b1 => ?_)
  have zs := Nat.le_trans zs (Nat.le_of_eq W5.size.symm)
  refine go_dup (pc' := 27) X5 hx (hb hby at_26) rfl rfl ?_
  refine go_iconst (pc' := 28) (v := 4) X5 hx (hb hby at_27) rfl rfl ?_
  refine go_ldc2 (pc' := 31) X5 hx hZ hown (hw _ (List.mem_of_getElem? (i := 4) rfl)) (hb hby at_28) rfl ?_
  refine go_lastore (pc' := 32) X5 hx hZ A_b1 g_b1 (by decide) (by decide) (hb hby at_31) rfl (fun T6 h6 X6 W6 A_b1 => ?_)
  have zs := Nat.le_trans zs (Nat.le_of_eq W6.size.symm)
  refine go_dup (pc' := 33) X6 hx (hb hby at_32) rfl rfl ?_
  refine go_iconst (pc' := 34) (v := 5) X6 hx (hb hby at_33) rfl rfl ?_
  refine go_ldc2 (pc' := 37) X6 hx hZ hown (hw _ (List.mem_of_getElem? (i := 5) rfl)) (hb hby at_34) rfl ?_
  refine go_lastore (pc' := 38) X6 hx hZ A_b1 g_b1 (by decide) (by decide) (hb hby at_37) rfl (fun T7 h7 X7 W7 A_b1 => ?_)
  have zs := Nat.le_trans zs (Nat.le_of_eq W7.size.symm)
  refine go_dup (pc' := 39) X7 hx (hb hby at_38) rfl rfl ?_
  refine go_bipush (pc' := 41) (v := 6) X7 hx (hb hby at_39) rfl rfl ?_
  refine go_ldc2 (pc' := 44) X7 hx hZ hown (hw _ (List.mem_of_getElem? (i := 6) rfl)) (hb hby at_41) rfl ?_
  refine go_lastore (pc' := 45) X7 hx hZ A_b1 g_b1 (by decide) (by decide) (hb hby at_44) rfl (fun T8 h8 X8 W8 A_b1 => ?_)
  have zs := Nat.le_trans zs (Nat.le_of_eq W8.size.symm)
  refine go_dup (pc' := 46) X8 hx (hb hby at_45) rfl rfl ?_
  refine go_bipush (pc' := 48) (v := 7) X8 hx (hb hby at_46) rfl rfl ?_
  refine go_ldc2 (pc' := 51) X8 hx hZ hown (hw _ (List.mem_of_getElem? (i := 7) rfl)) (hb hby at_48) rfl ?_
  refine go_lastore (pc' := 52) X8 hx hZ A_b1 g_b1 (by decide) (by decide) (hb hby at_51) rfl (fun T9 h9 X9 W9 A_b1 => ?_)
  have zs := Nat.le_trans zs (Nat.le_of_eq W9.size.symm)
  refine go_dup (pc' := 53) X9 hx (hb hby at_52) rfl rfl ?_
  refine go_bipush (pc' := 55) (v := 8) X9 hx (hb hby at_53) rfl rfl ?_
  refine go_ldc2 (pc' := 58) X9 hx hZ hown (hw _ (List.mem_of_getElem? (i := 8) rfl)) (hb hby at_55) rfl ?_
  refine go_lastore (pc' := 59) X9 hx hZ A_b1 g_b1 (by decide) (by decide) (hb hby at_58) rfl (fun T10 h10 X10 W10 A_b1 => ?_)
  have zs := Nat.le_trans zs (Nat.le_of_eq W10.size.symm)
  refine go_dup (pc' := 60) X10 hx (hb hby at_59) rfl rfl ?_
  refine go_bipush (pc' := 62) (v := 9) X10 hx (hb hby at_60) rfl rfl ?_
  refine go_ldc2 (pc' := 65) X10 hx hZ hown (hw _ (List.mem_of_getElem? (i := 9) rfl)) (hb hby at_62) rfl ?_
  refine go_lastore (pc' := 66) X10 hx hZ A_b1 g_b1 (by decide) (by decide) (hb hby at_65) rfl (fun T11 h11 X11 W11 A_b1 => ?_)
  have zs := Nat.le_trans zs (Nat.le_of_eq W11.size.symm)
  refine go_dup (pc' := 67) X11 hx (hb hby at_66) rfl rfl ?_
  refine go_bipush (pc' := 69) (v := 10) X11 hx (hb hby at_67) rfl rfl ?_
  refine go_ldc2 (pc' := 72) X11 hx hZ hown (hw _ (List.mem_of_getElem? (i := 10) rfl)) (hb hby at_69) rfl ?_
  refine go_lastore (pc' := 73) X11 hx hZ A_b1 g_b1 (by decide) (by decide) (hb hby at_72) rfl (fun T12 h12 X12 W12 A_b1 => ?_)
  have zs := Nat.le_trans zs (Nat.le_of_eq W12.size.symm)
  refine go_dup (pc' := 74) X12 hx (hb hby at_73) rfl rfl ?_
  refine go_bipush (pc' := 76) (v := 11) X12 hx (hb hby at_74) rfl rfl ?_
  refine go_ldc2 (pc' := 79) X12 hx hZ hown (hw _ (List.mem_of_getElem? (i := 11) rfl)) (hb hby at_76) rfl ?_
  refine go_lastore (pc' := 80) X12 hx hZ A_b1 g_b1 (by decide) (by decide) (hb hby at_79) rfl (fun T13 h13 X13 W13 A_b1 => ?_)
  have zs := Nat.le_trans zs (Nat.le_of_eq W13.size.symm)
  refine go_dup (pc' := 81) X13 hx (hb hby at_80) rfl rfl ?_
  refine go_bipush (pc' := 83) (v := 12) X13 hx (hb hby at_81) rfl rfl ?_
  refine go_ldc2 (pc' := 86) X13 hx hZ hown (hw _ (List.mem_of_getElem? (i := 12) rfl)) (hb hby at_83) rfl ?_
  refine go_lastore (pc' := 87) X13 hx hZ A_b1 g_b1 (by decide) (by decide) (hb hby at_86) rfl (fun T14 h14 X14 W14 A_b1 => ?_)
  have zs := Nat.le_trans zs (Nat.le_of_eq W14.size.symm)
  refine go_dup (pc' := 88) X14 hx (hb hby at_87) rfl rfl ?_
  refine go_bipush (pc' := 90) (v := 13) X14 hx (hb hby at_88) rfl rfl ?_
  refine go_ldc2 (pc' := 93) X14 hx hZ hown (hw _ (List.mem_of_getElem? (i := 13) rfl)) (hb hby at_90) rfl ?_
  refine go_lastore (pc' := 94) X14 hx hZ A_b1 g_b1 (by decide) (by decide) (hb hby at_93) rfl (fun T15 h15 X15 W15 A_b1 => ?_)
  have zs := Nat.le_trans zs (Nat.le_of_eq W15.size.symm)
  refine go_dup (pc' := 95) X15 hx (hb hby at_94) rfl rfl ?_
  refine go_bipush (pc' := 97) (v := 14) X15 hx (hb hby at_95) rfl rfl ?_
  refine go_ldc2 (pc' := 100) X15 hx hZ hown (hw _ (List.mem_of_getElem? (i := 14) rfl)) (hb hby at_97) rfl ?_
  refine go_lastore (pc' := 101) X15 hx hZ A_b1 g_b1 (by decide) (by decide) (hb hby at_100) rfl (fun T16 h16 X16 W16 A_b1 => ?_)
  have zs := Nat.le_trans zs (Nat.le_of_eq W16.size.symm)
  refine go_dup (pc' := 102) X16 hx (hb hby at_101) rfl rfl ?_
  refine go_bipush (pc' := 104) (v := 15) X16 hx (hb hby at_102) rfl rfl ?_
  refine go_ldc2 (pc' := 107) X16 hx hZ hown (hw _ (List.mem_of_getElem? (i := 15) rfl)) (hb hby at_104) rfl ?_
  refine go_lastore (pc' := 108) X16 hx hZ A_b1 g_b1 (by decide) (by decide) (hb hby at_107) rfl (fun T17 h17 X17 W17 A_b1 => ?_)
  have zs := Nat.le_trans zs (Nat.le_of_eq W17.size.symm)
  refine go_dup (pc' := 109) X17 hx (hb hby at_108) rfl rfl ?_
  refine go_bipush (pc' := 111) (v := 16) X17 hx (hb hby at_109) rfl rfl ?_
  refine go_ldc2 (pc' := 114) X17 hx hZ hown (hw _ (List.mem_of_getElem? (i := 16) rfl)) (hb hby at_111) rfl ?_
  refine go_lastore (pc' := 115) X17 hx hZ A_b1 g_b1 (by decide) (by decide) (hb hby at_114) rfl (fun T18 h18 X18 W18 A_b1 => ?_)
  have zs := Nat.le_trans zs (Nat.le_of_eq W18.size.symm)
  refine go_dup (pc' := 116) X18 hx (hb hby at_115) rfl rfl ?_
  refine go_bipush (pc' := 118) (v := 17) X18 hx (hb hby at_116) rfl rfl ?_
  refine go_ldc2 (pc' := 121) X18 hx hZ hown (hw _ (List.mem_of_getElem? (i := 17) rfl)) (hb hby at_118) rfl ?_
  refine go_lastore (pc' := 122) X18 hx hZ A_b1 g_b1 (by decide) (by decide) (hb hby at_121) rfl (fun T19 h19 X19 W19 A_b1 => ?_)
  have zs := Nat.le_trans zs (Nat.le_of_eq W19.size.symm)
  refine go_dup (pc' := 123) X19 hx (hb hby at_122) rfl rfl ?_
  refine go_bipush (pc' := 125) (v := 18) X19 hx (hb hby at_123) rfl rfl ?_
  refine go_ldc2 (pc' := 128) X19 hx hZ hown (hw _ (List.mem_of_getElem? (i := 18) rfl)) (hb hby at_125) rfl ?_
  refine go_lastore (pc' := 129) X19 hx hZ A_b1 g_b1 (by decide) (by decide) (hb hby at_128) rfl (fun T20 h20 X20 W20 A_b1 => ?_)
  have zs := Nat.le_trans zs (Nat.le_of_eq W20.size.symm)
  refine go_astore (pc' := 131) (L' := #[.val (.long q0), .second, .val (.int p1), .val (.int p2), .val (.int p3), .val (.ref b1), .unset, .unset, .unset, .unset, .unset, .unset, .unset, .unset, .unset, .unset, .unset, .unset, .unset, .unset, .unset, .unset, .unset, .unset, .unset, .unset, .unset, .unset, .unset, .unset, .unset, .unset, .unset, .unset, .unset, .unset, .unset, .unset, .unset, .unset, .unset, .unset, .unset, .unset, .unset, .unset]) X20 hx (hb hby at_129) rfl rfl ?_
  refine go_lloadN (pc' := 132) X20 hx (hb hby at_131) rfl rfl ?_
  refine go_ldc2 (pc' := 135) X20 hx hZ hown (hw _ (List.mem_of_getElem? (i := 19) rfl)) (hb hby at_132) rfl ?_
  refine go_land (pc' := 136) X20 hx (hb hby at_135) rfl ?_
  refine go_aload (pc' := 138) X20 hx (hb hby at_136) rfl rfl ?_
  refine go_bipush (pc' := 140) (v := 18) X20 hx (hb hby at_138) rfl rfl ?_
  refine go_laload (pc' := 141) X20 hx hZ A_b1 (by decide) (by decide) (hb hby at_140) rfl (fun w140 hw140 => ?_)
  obtain rfl : w140 = (1000000000000000000 : Int64) := hw140.trans rfl
  refine go_lrem (pc' := 142) X20 hx (hb hby at_141) rfl (by decide) ?_
  refine go_nameJ (fun v6_142 hv6_142 => ?_)
  refine go_lstore (pc' := 144) (L' := #[.val (.long q0), .second, .val (.int p1), .val (.int p2), .val (.int p3), .val (.ref b1), .val (.long v6_142), .second, .unset, .unset, .unset, .unset, .unset, .unset, .unset, .unset, .unset, .unset, .unset, .unset, .unset, .unset, .unset, .unset, .unset, .unset, .unset, .unset, .unset, .unset, .unset, .unset, .unset, .unset, .unset, .unset, .unset, .unset, .unset, .unset, .unset, .unset, .unset, .unset, .unset, .unset]) X20 hx (hb hby at_142) rfl rfl ?_
  have A_b1 := A_b1.congr (g := own_pow) (by
    intro i j0 j1
    rcases (by omega : i = 0 ∨ i = 1 ∨ i = 2 ∨ i = 3 ∨ i = 4 ∨ i = 5 ∨ i = 6 ∨ i = 7 ∨ i = 8 ∨ i = 9 ∨ i = 10 ∨ i = 11 ∨ i = 12 ∨ i = 13 ∨ i = 14 ∨ i = 15 ∨ i = 16 ∨ i = 17 ∨ i = 18) with rfl | rfl | rfl | rfl | rfl | rfl | rfl | rfl | rfl | rfl | rfl | rfl | rfl | rfl | rfl | rfl | rfl | rfl | rfl <;> rfl)
  obtain ⟨lw0, lw1⟩ := own_lowr hv6_142
  refine go_iloadN (pc' := 145) X20 hx (hb hby at_144) rfl rfl ?_
  refine go_bipush (pc' := 147) (v := 15) X20 hx (hb hby at_145) rfl rfl ?_
  refine go_iand (pc' := 148) X20 hx (hb hby at_147) rfl ?_
  refine go_bipush (pc' := 150) (v := 10) X20 hx (hb hby at_148) rfl rfl ?_
  refine go_irem (pc' := 151) X20 hx (hb hby at_150) rfl (by decide) ?_
  refine go_nameI (fun v8_151 hv8_151 => ?_)
  refine go_istore (pc' := 153) (L' := #[.val (.long q0), .second, .val (.int p1), .val (.int p2), .val (.int p3), .val (.ref b1), .val (.long v6_142), .second, .val (.int v8_151), .unset, .unset, .unset, .unset, .unset, .unset, .unset, .unset, .unset, .unset, .unset, .unset, .unset, .unset, .unset, .unset, .unset, .unset, .unset, .unset, .unset, .unset, .unset, .unset, .unset, .unset, .unset, .unset, .unset, .unset, .unset, .unset, .unset, .unset, .unset, .unset, .unset]) X20 hx (hb hby at_151) rfl rfl ?_
  have hd8 : 0 ≤ v8_151.toInt ∧ v8_151.toInt < 10 := own_amod hv8_151 (by decide) (by decide)
  refine go_iloadN (pc' := 154) X20 hx (hb hby at_153) rfl rfl ?_
  refine go_iconst (pc' := 155) (v := 4) X20 hx (hb hby at_154) rfl rfl ?_
  refine go_iushr (pc' := 156) X20 hx (hb hby at_155) rfl ?_
  refine go_bipush (pc' := 158) (v := 127) X20 hx (hb hby at_156) rfl rfl ?_
  refine go_iand (pc' := 159) X20 hx (hb hby at_158) rfl ?_
  refine go_bipush (pc' := 161) (v := 100) X20 hx (hb hby at_159) rfl rfl ?_
  refine go_irem (pc' := 162) X20 hx (hb hby at_161) rfl (by decide) ?_
  refine go_nameI (fun v9_162 hv9_162 => ?_)
  refine go_istore (pc' := 164) (L' := #[.val (.long q0), .second, .val (.int p1), .val (.int p2), .val (.int p3), .val (.ref b1), .val (.long v6_142), .second, .val (.int v8_151), .val (.int v9_162), .unset, .unset, .unset, .unset, .unset, .unset, .unset, .unset, .unset, .unset, .unset, .unset, .unset, .unset, .unset, .unset, .unset, .unset, .unset, .unset, .unset, .unset, .unset, .unset, .unset, .unset, .unset, .unset, .unset, .unset, .unset, .unset, .unset, .unset, .unset, .unset]) X20 hx (hb hby at_162) rfl rfl ?_
  have he : 0 ≤ v9_162.toInt ∧ v9_162.toInt < 100 := own_amod hv9_162 (by decide) (by decide)
  refine go_iloadN (pc' := 165) X20 hx (hb hby at_164) rfl rfl ?_
  refine go_bipush (pc' := 167) (v := 11) X20 hx (hb hby at_165) rfl rfl ?_
  refine go_iushr (pc' := 168) X20 hx (hb hby at_167) rfl ?_
  refine go_iconst (pc' := 169) (v := 1) X20 hx (hb hby at_168) rfl rfl ?_
  refine go_iand (pc' := 170) X20 hx (hb hby at_169) rfl ?_
  suffices J178 : ∀ (m178_s0 : Int32), (((((p1.toUInt32 >>> ((11 : Int32) &&& 31).toUInt32).toInt32) &&& (1 : Int32)) = (0 : Int32) ∧ m178_s0 = (0 : Int32)) ∨ (¬ (((p1.toUInt32 >>> ((11 : Int32) &&& 31).toUInt32).toInt32) &&& (1 : Int32)) = (0 : Int32) ∧ m178_s0 = (1 : Int32))) → GoK p e below (DoneK s below n0 room_1.cells room_1.slots (QI (fun z _ => z = 1))) T20 (mkF m 178 #[.val (.long q0), .second, .val (.int p1), .val (.int p2), .val (.int p3), .val (.ref b1), .val (.long v6_142), .second, .val (.int v8_151), .val (.int v9_162), .unset, .unset, .unset, .unset, .unset, .unset, .unset, .unset, .unset, .unset, .unset, .unset, .unset, .unset, .unset, .unset, .unset, .unset, .unset, .unset, .unset, .unset, .unset, .unset, .unset, .unset, .unset, .unset, .unset, .unset, .unset, .unset, .unset, .unset, .unset, .unset] [.int m178_s0]) by
    refine go_ifeq (pc' := 173) (pcT := 177) X20 hx (hb hby at_170) rfl (by decide) (by decide) (fun c170 => ?_) (fun c170 => ?_)
    · refine go_iconst (pc' := 178) (v := 0) X20 hx (hb hby at_177) rfl rfl ?_
      exact J178 _  (Or.inl ⟨c170, rfl⟩)
    · refine go_iconst (pc' := 174) (v := 1) X20 hx (hb hby at_173) rfl rfl ?_
      refine go_goto (pc' := 178) X20 hx (hb hby at_174) (by decide) (by decide) ?_
      exact J178 _  (Or.inr ⟨c170, rfl⟩)
  intro m178_s0 j178
  refine go_istore (pc' := 180) (L' := #[.val (.long q0), .second, .val (.int p1), .val (.int p2), .val (.int p3), .val (.ref b1), .val (.long v6_142), .second, .val (.int v8_151), .val (.int v9_162), .val (.int m178_s0), .unset, .unset, .unset, .unset, .unset, .unset, .unset, .unset, .unset, .unset, .unset, .unset, .unset, .unset, .unset, .unset, .unset, .unset, .unset, .unset, .unset, .unset, .unset, .unset, .unset, .unset, .unset, .unset, .unset, .unset, .unset, .unset, .unset, .unset, .unset]) X20 hx (hb hby at_178) rfl rfl ?_
  refine go_iloadN (pc' := 181) X20 hx (hb hby at_180) rfl rfl ?_
  refine go_bipush (pc' := 183) (v := 12) X20 hx (hb hby at_181) rfl rfl ?_
  refine go_iushr (pc' := 184) X20 hx (hb hby at_183) rfl ?_
  refine go_iconst (pc' := 185) (v := 3) X20 hx (hb hby at_184) rfl rfl ?_
  refine go_iand (pc' := 186) X20 hx (hb hby at_185) rfl ?_
  refine go_nameI (fun v11_186 hv11_186 => ?_)
  refine go_istore (pc' := 188) (L' := #[.val (.long q0), .second, .val (.int p1), .val (.int p2), .val (.int p3), .val (.ref b1), .val (.long v6_142), .second, .val (.int v8_151), .val (.int v9_162), .val (.int m178_s0), .val (.int v11_186), .unset, .unset, .unset, .unset, .unset, .unset, .unset, .unset, .unset, .unset, .unset, .unset, .unset, .unset, .unset, .unset, .unset, .unset, .unset, .unset, .unset, .unset, .unset, .unset, .unset, .unset, .unset, .unset, .unset, .unset, .unset, .unset, .unset, .unset]) X20 hx (hb hby at_186) rfl rfl ?_
  refine go_iloadN (pc' := 189) X20 hx (hb hby at_188) rfl rfl ?_
  refine go_bipush (pc' := 191) (v := 14) X20 hx (hb hby at_189) rfl rfl ?_
  refine go_iushr (pc' := 192) X20 hx (hb hby at_191) rfl ?_
  refine go_iconst (pc' := 193) (v := 1) X20 hx (hb hby at_192) rfl rfl ?_
  refine go_iand (pc' := 194) X20 hx (hb hby at_193) rfl ?_
  suffices J202 : ∀ (m202_s0 : Int32), (((((p1.toUInt32 >>> ((14 : Int32) &&& 31).toUInt32).toInt32) &&& (1 : Int32)) = (0 : Int32) ∧ m202_s0 = (0 : Int32)) ∨ (¬ (((p1.toUInt32 >>> ((14 : Int32) &&& 31).toUInt32).toInt32) &&& (1 : Int32)) = (0 : Int32) ∧ m202_s0 = (1 : Int32))) → GoK p e below (DoneK s below n0 room_1.cells room_1.slots (QI (fun z _ => z = 1))) T20 (mkF m 202 #[.val (.long q0), .second, .val (.int p1), .val (.int p2), .val (.int p3), .val (.ref b1), .val (.long v6_142), .second, .val (.int v8_151), .val (.int v9_162), .val (.int m178_s0), .val (.int v11_186), .unset, .unset, .unset, .unset, .unset, .unset, .unset, .unset, .unset, .unset, .unset, .unset, .unset, .unset, .unset, .unset, .unset, .unset, .unset, .unset, .unset, .unset, .unset, .unset, .unset, .unset, .unset, .unset, .unset, .unset, .unset, .unset, .unset, .unset] [.int m202_s0]) by
    refine go_ifeq (pc' := 197) (pcT := 201) X20 hx (hb hby at_194) rfl (by decide) (by decide) (fun c194 => ?_) (fun c194 => ?_)
    · refine go_iconst (pc' := 202) (v := 0) X20 hx (hb hby at_201) rfl rfl ?_
      exact J202 _  (Or.inl ⟨c194, rfl⟩)
    · refine go_iconst (pc' := 198) (v := 1) X20 hx (hb hby at_197) rfl rfl ?_
      refine go_goto (pc' := 202) X20 hx (hb hby at_198) (by decide) (by decide) ?_
      exact J202 _  (Or.inr ⟨c194, rfl⟩)
  intro m202_s0 j202
  refine go_istore (pc' := 204) (L' := #[.val (.long q0), .second, .val (.int p1), .val (.int p2), .val (.int p3), .val (.ref b1), .val (.long v6_142), .second, .val (.int v8_151), .val (.int v9_162), .val (.int m178_s0), .val (.int v11_186), .val (.int m202_s0), .unset, .unset, .unset, .unset, .unset, .unset, .unset, .unset, .unset, .unset, .unset, .unset, .unset, .unset, .unset, .unset, .unset, .unset, .unset, .unset, .unset, .unset, .unset, .unset, .unset, .unset, .unset, .unset, .unset, .unset, .unset, .unset, .unset]) X20 hx (hb hby at_202) rfl rfl ?_
  refine go_iloadN (pc' := 205) X20 hx (hb hby at_204) rfl rfl ?_
  refine go_bipush (pc' := 207) (v := 15) X20 hx (hb hby at_205) rfl rfl ?_
  refine go_iushr (pc' := 208) X20 hx (hb hby at_207) rfl ?_
  refine go_iconst (pc' := 209) (v := 3) X20 hx (hb hby at_208) rfl rfl ?_
  refine go_iand (pc' := 210) X20 hx (hb hby at_209) rfl ?_
  refine go_nameI (fun v13_210 hv13_210 => ?_)
  refine go_istore (pc' := 212) (L' := #[.val (.long q0), .second, .val (.int p1), .val (.int p2), .val (.int p3), .val (.ref b1), .val (.long v6_142), .second, .val (.int v8_151), .val (.int v9_162), .val (.int m178_s0), .val (.int v11_186), .val (.int m202_s0), .val (.int v13_210), .unset, .unset, .unset, .unset, .unset, .unset, .unset, .unset, .unset, .unset, .unset, .unset, .unset, .unset, .unset, .unset, .unset, .unset, .unset, .unset, .unset, .unset, .unset, .unset, .unset, .unset, .unset, .unset, .unset, .unset, .unset, .unset]) X20 hx (hb hby at_210) rfl rfl ?_
  refine go_iloadN (pc' := 213) X20 hx (hb hby at_212) rfl rfl ?_
  refine go_bipush (pc' := 215) (v := 31) X20 hx (hb hby at_213) rfl rfl ?_
  refine go_iand (pc' := 216) X20 hx (hb hby at_215) rfl ?_
  refine go_bipush (pc' := 218) (v := 20) X20 hx (hb hby at_216) rfl rfl ?_
  refine go_irem (pc' := 219) X20 hx (hb hby at_218) rfl (by decide) ?_
  refine go_nameI (fun v14_219 hv14_219 => ?_)
  refine go_istore (pc' := 221) (L' := #[.val (.long q0), .second, .val (.int p1), .val (.int p2), .val (.int p3), .val (.ref b1), .val (.long v6_142), .second, .val (.int v8_151), .val (.int v9_162), .val (.int m178_s0), .val (.int v11_186), .val (.int m202_s0), .val (.int v13_210), .val (.int v14_219), .unset, .unset, .unset, .unset, .unset, .unset, .unset, .unset, .unset, .unset, .unset, .unset, .unset, .unset, .unset, .unset, .unset, .unset, .unset, .unset, .unset, .unset, .unset, .unset, .unset, .unset, .unset, .unset, .unset, .unset, .unset]) X20 hx (hb hby at_219) rfl rfl ?_
  have hn : 0 ≤ v14_219.toInt ∧ v14_219.toInt < 20 := own_amod hv14_219 (by decide) (by decide)
  have hn1 : (v14_219 + (1 : Int32)).toInt = v14_219.toInt + 1 := own_inc rfl (by omega)
  refine go_iloadN (pc' := 222) X20 hx (hb hby at_221) rfl rfl ?_
  refine go_iconst (pc' := 223) (v := 5) X20 hx (hb hby at_222) rfl rfl ?_
  refine go_iushr (pc' := 224) X20 hx (hb hby at_223) rfl ?_
  refine go_iconst (pc' := 225) (v := 1) X20 hx (hb hby at_224) rfl rfl ?_
  refine go_iand (pc' := 226) X20 hx (hb hby at_225) rfl ?_
  suffices J234 : ∀ (m234_s0 : Int32), (((((p2.toUInt32 >>> ((5 : Int32) &&& 31).toUInt32).toInt32) &&& (1 : Int32)) = (0 : Int32) ∧ m234_s0 = (0 : Int32)) ∨ (¬ (((p2.toUInt32 >>> ((5 : Int32) &&& 31).toUInt32).toInt32) &&& (1 : Int32)) = (0 : Int32) ∧ m234_s0 = (1 : Int32))) → GoK p e below (DoneK s below n0 room_1.cells room_1.slots (QI (fun z _ => z = 1))) T20 (mkF m 234 #[.val (.long q0), .second, .val (.int p1), .val (.int p2), .val (.int p3), .val (.ref b1), .val (.long v6_142), .second, .val (.int v8_151), .val (.int v9_162), .val (.int m178_s0), .val (.int v11_186), .val (.int m202_s0), .val (.int v13_210), .val (.int v14_219), .unset, .unset, .unset, .unset, .unset, .unset, .unset, .unset, .unset, .unset, .unset, .unset, .unset, .unset, .unset, .unset, .unset, .unset, .unset, .unset, .unset, .unset, .unset, .unset, .unset, .unset, .unset, .unset, .unset, .unset, .unset] [.int m234_s0]) by
    refine go_ifeq (pc' := 229) (pcT := 233) X20 hx (hb hby at_226) rfl (by decide) (by decide) (fun c226 => ?_) (fun c226 => ?_)
    · refine go_iconst (pc' := 234) (v := 0) X20 hx (hb hby at_233) rfl rfl ?_
      exact J234 _  (Or.inl ⟨c226, rfl⟩)
    · refine go_iconst (pc' := 230) (v := 1) X20 hx (hb hby at_229) rfl rfl ?_
      refine go_goto (pc' := 234) X20 hx (hb hby at_230) (by decide) (by decide) ?_
      exact J234 _  (Or.inr ⟨c226, rfl⟩)
  intro m234_s0 j234
  refine go_istore (pc' := 236) (L' := #[.val (.long q0), .second, .val (.int p1), .val (.int p2), .val (.int p3), .val (.ref b1), .val (.long v6_142), .second, .val (.int v8_151), .val (.int v9_162), .val (.int m178_s0), .val (.int v11_186), .val (.int m202_s0), .val (.int v13_210), .val (.int v14_219), .val (.int m234_s0), .unset, .unset, .unset, .unset, .unset, .unset, .unset, .unset, .unset, .unset, .unset, .unset, .unset, .unset, .unset, .unset, .unset, .unset, .unset, .unset, .unset, .unset, .unset, .unset, .unset, .unset, .unset, .unset, .unset, .unset]) X20 hx (hb hby at_234) rfl rfl ?_
  refine go_iloadN (pc' := 237) X20 hx (hb hby at_236) rfl rfl ?_
  refine go_bipush (pc' := 239) (v := 6) X20 hx (hb hby at_237) rfl rfl ?_
  refine go_iushr (pc' := 240) X20 hx (hb hby at_239) rfl ?_
  refine go_bipush (pc' := 242) (v := 31) X20 hx (hb hby at_240) rfl rfl ?_
  refine go_iand (pc' := 243) X20 hx (hb hby at_242) rfl ?_
  refine go_iload (pc' := 245) X20 hx (hb hby at_243) rfl rfl ?_
  refine go_iconst (pc' := 246) (v := 1) X20 hx (hb hby at_245) rfl rfl ?_
  refine go_iadd (pc' := 247) X20 hx (hb hby at_246) rfl ?_
  refine go_irem (pc' := 248) X20 hx (hb hby at_247) rfl (fun w => by rw [w] at hn1; have := own_k0; omega) ?_
  refine go_nameI (fun v16_248 hv16_248 => ?_)
  refine go_istore (pc' := 250) (L' := #[.val (.long q0), .second, .val (.int p1), .val (.int p2), .val (.int p3), .val (.ref b1), .val (.long v6_142), .second, .val (.int v8_151), .val (.int v9_162), .val (.int m178_s0), .val (.int v11_186), .val (.int m202_s0), .val (.int v13_210), .val (.int v14_219), .val (.int m234_s0), .val (.int v16_248), .unset, .unset, .unset, .unset, .unset, .unset, .unset, .unset, .unset, .unset, .unset, .unset, .unset, .unset, .unset, .unset, .unset, .unset, .unset, .unset, .unset, .unset, .unset, .unset, .unset, .unset, .unset, .unset, .unset]) X20 hx (hb hby at_248) rfl rfl ?_
  have hpp : 0 ≤ v16_248.toInt ∧ v16_248.toInt < (v14_219 + (1 : Int32)).toInt := own_amod hv16_248 (by decide) (by omega)
  refine go_iloadN (pc' := 251) X20 hx (hb hby at_250) rfl rfl ?_
  refine go_bipush (pc' := 253) (v := 11) X20 hx (hb hby at_251) rfl rfl ?_
  refine go_iushr (pc' := 254) X20 hx (hb hby at_253) rfl ?_
  refine go_bipush (pc' := 256) (v := 31) X20 hx (hb hby at_254) rfl rfl ?_
  refine go_iand (pc' := 257) X20 hx (hb hby at_256) rfl ?_
  refine go_iload (pc' := 259) X20 hx (hb hby at_257) rfl rfl ?_
  refine go_iconst (pc' := 260) (v := 1) X20 hx (hb hby at_259) rfl rfl ?_
  refine go_iadd (pc' := 261) X20 hx (hb hby at_260) rfl ?_
  refine go_irem (pc' := 262) X20 hx (hb hby at_261) rfl (fun w => by rw [w] at hn1; have := own_k0; omega) ?_
  refine go_nameI (fun v17_262 hv17_262 => ?_)
  refine go_istore (pc' := 264) (L' := #[.val (.long q0), .second, .val (.int p1), .val (.int p2), .val (.int p3), .val (.ref b1), .val (.long v6_142), .second, .val (.int v8_151), .val (.int v9_162), .val (.int m178_s0), .val (.int v11_186), .val (.int m202_s0), .val (.int v13_210), .val (.int v14_219), .val (.int m234_s0), .val (.int v16_248), .val (.int v17_262), .unset, .unset, .unset, .unset, .unset, .unset, .unset, .unset, .unset, .unset, .unset, .unset, .unset, .unset, .unset, .unset, .unset, .unset, .unset, .unset, .unset, .unset, .unset, .unset, .unset, .unset, .unset, .unset]) X20 hx (hb hby at_262) rfl rfl ?_
  have hz : 0 ≤ v17_262.toInt ∧ v17_262.toInt < (v14_219 + (1 : Int32)).toInt := own_amod hv17_262 (by decide) (by omega)
  suffices J293 : ∀ (d8 : Int32) (l6 : Int64), ((0 ≤ d8.toInt ∧ d8.toInt ≤ 9) ∧ (0 ≤ l6.toInt ∧ l6.toInt < 1000000000000000000) ∧ (v17_262.toInt = 19 → d8.toInt = 0 ∧ l6.toInt = 0)) → GoK p e below (DoneK s below n0 room_1.cells room_1.slots (QI (fun z _ => z = 1))) T20 (mkF m 293 #[.val (.long q0), .second, .val (.int p1), .val (.int p2), .val (.int p3), .val (.ref b1), .val (.long l6), .second, .val (.int d8), .val (.int v9_162), .val (.int m178_s0), .val (.int v11_186), .val (.int m202_s0), .val (.int v13_210), .val (.int v14_219), .val (.int m234_s0), .val (.int v16_248), .val (.int v17_262), .unset, .unset, .unset, .unset, .unset, .unset, .unset, .unset, .unset, .unset, .unset, .unset, .unset, .unset, .unset, .unset, .unset, .unset, .unset, .unset, .unset, .unset, .unset, .unset, .unset, .unset, .unset, .unset] []) by
    refine go_iload (pc' := 266) X20 hx (hb hby at_264) rfl rfl ?_
    refine go_bipush (pc' := 268) (v := 19) X20 hx (hb hby at_266) rfl rfl ?_
    refine go_icmpne (pc' := 271) (pcT := 280) X20 hx (hb hby at_268) rfl (by decide) (by decide) (fun c268 => ?_) (fun c268 => ?_)
    · refine go_lload (pc' := 282) X20 hx (hb hby at_280) rfl rfl ?_
      refine go_lload (pc' := 284) X20 hx (hb hby at_282) rfl rfl ?_
      refine go_aload (pc' := 286) X20 hx (hb hby at_284) rfl rfl ?_
      refine go_iload (pc' := 288) X20 hx (hb hby at_286) rfl rfl ?_
      refine go_laload (pc' := 289) X20 hx hZ A_b1 hz.1 (by have k19 : (19 : Int32).toInt = 19 := rfl; have q := own_neI c268; omega) (hb hby at_288) rfl (fun w288_t hw288_t => ?_)
      refine go_lrem (pc' := 290) X20 hx (hb hby at_289) rfl (by rw [hw288_t]; exact own_pnz _ hz.1 (by have k19 : (19 : Int32).toInt = 19 := rfl; have q := own_neI c268; omega)) ?_
      refine go_lsub (pc' := 291) X20 hx (hb hby at_290) rfl ?_
      refine go_nameJ (fun v6_291_t hv6_291_t => ?_)
      refine go_lstore (pc' := 293) (L' := #[.val (.long q0), .second, .val (.int p1), .val (.int p2), .val (.int p3), .val (.ref b1), .val (.long v6_291_t), .second, .val (.int v8_151), .val (.int v9_162), .val (.int m178_s0), .val (.int v11_186), .val (.int m202_s0), .val (.int v13_210), .val (.int v14_219), .val (.int m234_s0), .val (.int v16_248), .val (.int v17_262), .unset, .unset, .unset, .unset, .unset, .unset, .unset, .unset, .unset, .unset, .unset, .unset, .unset, .unset, .unset, .unset, .unset, .unset, .unset, .unset, .unset, .unset, .unset, .unset, .unset, .unset, .unset, .unset]) X20 hx (hb hby at_291) rfl rfl ?_
      refine J293 v8_151 v6_291_t  ?_
      have k19 : (19 : Int32).toInt = 19 := rfl
      rw [hw288_t] at hv6_291_t
      have q := own_neI c268
      exact ⟨⟨hd8.1, by omega⟩, own_lz lw0 lw1 hz.1 (by omega) hv6_291_t, fun y => by omega⟩
    · refine go_iconst (pc' := 272) (v := 0) X20 hx (hb hby at_271) rfl rfl ?_
      refine go_istore (pc' := 274) (L' := #[.val (.long q0), .second, .val (.int p1), .val (.int p2), .val (.int p3), .val (.ref b1), .val (.long v6_142), .second, .val (.int (0 : Int32)), .val (.int v9_162), .val (.int m178_s0), .val (.int v11_186), .val (.int m202_s0), .val (.int v13_210), .val (.int v14_219), .val (.int m234_s0), .val (.int v16_248), .val (.int v17_262), .unset, .unset, .unset, .unset, .unset, .unset, .unset, .unset, .unset, .unset, .unset, .unset, .unset, .unset, .unset, .unset, .unset, .unset, .unset, .unset, .unset, .unset, .unset, .unset, .unset, .unset, .unset, .unset]) X20 hx (hb hby at_272) rfl rfl ?_
      refine go_lconst (pc' := 275) (v := 0) X20 hx (hb hby at_274) rfl rfl ?_
      refine go_lstore (pc' := 277) (L' := #[.val (.long q0), .second, .val (.int p1), .val (.int p2), .val (.int p3), .val (.ref b1), .val (.long (0 : Int64)), .second, .val (.int (0 : Int32)), .val (.int v9_162), .val (.int m178_s0), .val (.int v11_186), .val (.int m202_s0), .val (.int v13_210), .val (.int v14_219), .val (.int m234_s0), .val (.int v16_248), .val (.int v17_262), .unset, .unset, .unset, .unset, .unset, .unset, .unset, .unset, .unset, .unset, .unset, .unset, .unset, .unset, .unset, .unset, .unset, .unset, .unset, .unset, .unset, .unset, .unset, .unset, .unset, .unset, .unset, .unset]) X20 hx (hb hby at_275) rfl rfl ?_
      refine go_goto (pc' := 293) X20 hx (hb hby at_277) (by decide) (by decide) ?_
      refine J293 (0 : Int32) (0 : Int64)  ?_
      exact ⟨by decide, by decide, fun _ => ⟨rfl, rfl⟩⟩
  intro d8 l6 j293
  obtain ⟨hd, hl, hz19⟩ := j293
  refine go_bipush (pc' := 295) (v := 19) X20 hx (hb hby at_293) rfl rfl ?_
  refine go_iload (pc' := 297) X20 hx (hb hby at_295) rfl rfl ?_
  refine go_isub (pc' := 298) X20 hx (hb hby at_297) rfl ?_
  refine go_nameI (fun v18_298 hv18_298 => ?_)
  refine go_istore (pc' := 300) (L' := #[.val (.long q0), .second, .val (.int p1), .val (.int p2), .val (.int p3), .val (.ref b1), .val (.long l6), .second, .val (.int d8), .val (.int v9_162), .val (.int m178_s0), .val (.int v11_186), .val (.int m202_s0), .val (.int v13_210), .val (.int v14_219), .val (.int m234_s0), .val (.int v16_248), .val (.int v17_262), .val (.int v18_298), .unset, .unset, .unset, .unset, .unset, .unset, .unset, .unset, .unset, .unset, .unset, .unset, .unset, .unset, .unset, .unset, .unset, .unset, .unset, .unset, .unset, .unset, .unset, .unset, .unset, .unset, .unset]) X20 hx (hb hby at_298) rfl rfl ?_
  have hsk : v18_298.toInt = 19 - v14_219.toInt := by
    have k19 : (19 : Int32).toInt = 19 := rfl
    rw [hv18_298, Jvm.Free.XT.sub32 ⟨by omega, by omega⟩, k19]
  refine go_iload (pc' := 302) X20 hx (hb hby at_300) rfl rfl ?_
  suffices J314 : ∀ (m314_s0 : Int32), ((m234_s0 = (0 : Int32) ∧ m314_s0 = (-1 : Int32)) ∨ (¬ m234_s0 = (0 : Int32) ∧ m314_s0 = (v18_298 + v16_248))) → GoK p e below (DoneK s below n0 room_1.cells room_1.slots (QI (fun z _ => z = 1))) T20 (mkF m 314 #[.val (.long q0), .second, .val (.int p1), .val (.int p2), .val (.int p3), .val (.ref b1), .val (.long l6), .second, .val (.int d8), .val (.int v9_162), .val (.int m178_s0), .val (.int v11_186), .val (.int m202_s0), .val (.int v13_210), .val (.int v14_219), .val (.int m234_s0), .val (.int v16_248), .val (.int v17_262), .val (.int v18_298), .unset, .unset, .unset, .unset, .unset, .unset, .unset, .unset, .unset, .unset, .unset, .unset, .unset, .unset, .unset, .unset, .unset, .unset, .unset, .unset, .unset, .unset, .unset, .unset, .unset, .unset, .unset] [.int m314_s0]) by
    refine go_ifeq (pc' := 305) (pcT := 313) X20 hx (hb hby at_302) rfl (by decide) (by decide) (fun c302 => ?_) (fun c302 => ?_)
    · refine go_iconst (pc' := 314) (v := -1) X20 hx (hb hby at_313) rfl rfl ?_
      exact J314 _  (Or.inl ⟨c302, rfl⟩)
    · refine go_iload (pc' := 307) X20 hx (hb hby at_305) rfl rfl ?_
      refine go_iload (pc' := 309) X20 hx (hb hby at_307) rfl rfl ?_
      refine go_iadd (pc' := 310) X20 hx (hb hby at_309) rfl ?_
      refine go_goto (pc' := 314) X20 hx (hb hby at_310) (by decide) (by decide) ?_
      exact J314 _  (Or.inr ⟨c302, rfl⟩)
  intro m314_s0 j314
  refine go_istore (pc' := 316) (L' := #[.val (.long q0), .second, .val (.int p1), .val (.int p2), .val (.int p3), .val (.ref b1), .val (.long l6), .second, .val (.int d8), .val (.int v9_162), .val (.int m178_s0), .val (.int v11_186), .val (.int m202_s0), .val (.int v13_210), .val (.int v14_219), .val (.int m234_s0), .val (.int v16_248), .val (.int v17_262), .val (.int v18_298), .val (.int m314_s0), .unset, .unset, .unset, .unset, .unset, .unset, .unset, .unset, .unset, .unset, .unset, .unset, .unset, .unset, .unset, .unset, .unset, .unset, .unset, .unset, .unset, .unset, .unset, .unset, .unset, .unset]) X20 hx (hb hby at_314) rfl rfl ?_
  have hhp : (m234_s0.toInt = 0 ∧ m314_s0.toInt = -1) ∨ (m234_s0.toInt = 1 ∧ 0 ≤ v16_248.toInt ∧ v16_248.toInt ≤ v14_219.toInt ∧ m314_s0.toInt = v18_298.toInt + v16_248.toInt) := by
    rcases j234 with ⟨a, b⟩ | ⟨a, b⟩ <;> rcases j314 with ⟨c, d⟩ | ⟨c, d⟩
    · exact Or.inl ⟨by rw [b]; rfl, by rw [d]; rfl⟩
    · exact absurd b c
    · exfalso; rw [b] at c; revert c; decide
    · exact Or.inr ⟨by rw [b]; rfl, hpp.1, by omega, by rw [d]; exact Jvm.Free.XT.add32 ⟨by omega, by omega⟩⟩
  obtain ⟨s0, i1, i2, i3, sc, KD, PP⟩ := own_mk v13_210.toInt v14_219.toInt m234_s0.toInt v16_248.toInt v18_298.toInt m314_s0.toInt hn.1 (by omega) hsk hhp
  obtain ⟨ec, xs, xc, EX⟩ := own_mkx m178_s0 v11_186
  refine go_bipush (pc' := 318) (v := 26) X20 hx (hb hby at_316) rfl rfl ?_
  refine go_newB (pc' := 320) (cap := 26) (n := 26) (cells' := 2) (slots' := 45) X20 hx hZ (hw _ (List.mem_of_getElem? (i := 20) rfl)) (hb hby at_318) rfl rfl (by decide) (by decide) (by decide) (by decide) (by decide) rfl rfl (fun T21 h21 b21 eb21 X21 E21 A_b21 => ?_)
  have g_b21 : n0 ≤ b21 := by rw [eb21]; exact zs
  have ne_b1_b21 : b1 ≠ b21 := by rw [eb21]; exact Nat.ne_of_lt (A_b1.lt)
  have ne_b21_b1 := ne_b1_b21.symm
  have A_b1 := A_b1.ext E21
  have zs := Nat.le_trans zs E21.1
  refine go_astore (pc' := 322) (L' := #[.val (.long q0), .second, .val (.int p1), .val (.int p2), .val (.int p3), .val (.ref b1), .val (.long l6), .second, .val (.int d8), .val (.int v9_162), .val (.int m178_s0), .val (.int v11_186), .val (.int m202_s0), .val (.int v13_210), .val (.int v14_219), .val (.int m234_s0), .val (.int v16_248), .val (.int v17_262), .val (.int v18_298), .val (.int m314_s0), .val (.ref b21), .unset, .unset, .unset, .unset, .unset, .unset, .unset, .unset, .unset, .unset, .unset, .unset, .unset, .unset, .unset, .unset, .unset, .unset, .unset, .unset, .unset, .unset, .unset, .unset, .unset]) X21 hx (hb hby at_320) rfl rfl ?_
  refine go_iconst (pc' := 323) (v := 0) X21 hx (hb hby at_322) rfl rfl ?_
  refine go_istore (pc' := 325) (L' := #[.val (.long q0), .second, .val (.int p1), .val (.int p2), .val (.int p3), .val (.ref b1), .val (.long l6), .second, .val (.int d8), .val (.int v9_162), .val (.int m178_s0), .val (.int v11_186), .val (.int m202_s0), .val (.int v13_210), .val (.int v14_219), .val (.int m234_s0), .val (.int v16_248), .val (.int v17_262), .val (.int v18_298), .val (.int m314_s0), .val (.ref b21), .val (.int (0 : Int32)), .unset, .unset, .unset, .unset, .unset, .unset, .unset, .unset, .unset, .unset, .unset, .unset, .unset, .unset, .unset, .unset, .unset, .unset, .unset, .unset, .unset, .unset, .unset, .unset]) X21 hx (hb hby at_323) rfl rfl ?_
  refine go_aload (pc' := 327) X21 hx (hb hby at_325) rfl rfl ?_
  refine go_iload (pc' := 329) X21 hx (hb hby at_327) rfl rfl ?_
  refine go_iload (pc' := 331) X21 hx (hb hby at_329) rfl rfl ?_
  refine go_iconst (pc' := 332) (v := 1) X21 hx (hb hby at_331) rfl rfl ?_
  suffices J340 : ∀ (m340_s0 : Int32), ((¬ v13_210 = (1 : Int32) ∧ m340_s0 = (0 : Int32)) ∨ (v13_210 = (1 : Int32) ∧ m340_s0 = (1 : Int32))) → GoK p e below (DoneK s below n0 room_1.cells room_1.slots (QI (fun z _ => z = 1))) T21 (mkF m 340 #[.val (.long q0), .second, .val (.int p1), .val (.int p2), .val (.int p3), .val (.ref b1), .val (.long l6), .second, .val (.int d8), .val (.int v9_162), .val (.int m178_s0), .val (.int v11_186), .val (.int m202_s0), .val (.int v13_210), .val (.int v14_219), .val (.int m234_s0), .val (.int v16_248), .val (.int v17_262), .val (.int v18_298), .val (.int m314_s0), .val (.ref b21), .val (.int (0 : Int32)), .unset, .unset, .unset, .unset, .unset, .unset, .unset, .unset, .unset, .unset, .unset, .unset, .unset, .unset, .unset, .unset, .unset, .unset, .unset, .unset, .unset, .unset, .unset, .unset] [.int m340_s0, .int (0 : Int32), .ref b21]) by
    refine go_icmpne (pc' := 335) (pcT := 339) X21 hx (hb hby at_332) rfl (by decide) (by decide) (fun c332 => ?_) (fun c332 => ?_)
    · refine go_iconst (pc' := 340) (v := 0) X21 hx (hb hby at_339) rfl rfl ?_
      exact J340 _  (Or.inl ⟨c332, rfl⟩)
    · refine go_iconst (pc' := 336) (v := 1) X21 hx (hb hby at_335) rfl rfl ?_
      refine go_goto (pc' := 340) X21 hx (hb hby at_336) (by decide) (by decide) ?_
      exact J340 _  (Or.inr ⟨c332, rfl⟩)
  intro m340_s0 j340
  refine go_bipush (pc' := 342) (v := 43) X21 hx (hb hby at_340) rfl rfl ?_
  refine go_callS (pc' := 345) (W := 0) (cells' := 2) (slots' := 45) (rm := ({ frames := 0, cells := 0, slots := 0, locals := 0 } : Room)) (aL := [.ref b21, .int (0 : Int32), .int m340_s0, .int (43 : Int32)]) (St := []) X21 hx hZ hown (by rw [hml]; rfl) (hw _ (List.mem_of_getElem? (i := 21) rfl)) (hw _ (List.mem_of_getElem? (i := 22) rfl)) (hw _ (List.mem_of_getElem? (i := 23) rfl)) (hw _ (List.mem_of_getElem? (i := 24) rfl)) (by decide) pd_4 rfl (ct_1 l Z a0 hw zs b21 (0 : Int32) m340_s0 (43 : Int32) _ (own_x s0 sc i1 i2 i3 (own_N v14_219.toInt d8.toInt l6.toInt) ec xs xc v9_162.toInt) A_b21 g_b21 (fun i a b => by have := own_k0; omega) (by decide) (own_pa KD j340)) (hb hby at_342) rfl (by decide) (Nat.le_of_eq rfl) (by decide) (by decide) (by decide) rfl rfl (fun T22 h22 v22 X22 Q22 => ?_) rfl
  obtain ⟨z22, rfl, Kc22, ⟨f22, A_b21, hag⟩, hz22⟩ := Q22
  have A_b1 := A_b1.keep Kc22 (ninS ne_b1_b21 nin0)
  have zs := Nat.le_trans zs Kc22.1
  show GoK p e below _ T22 (mkF m 345 #[.val (.long q0), .second, .val (.int p1), .val (.int p2), .val (.int p3), .val (.ref b1), .val (.long l6), .second, .val (.int d8), .val (.int v9_162), .val (.int m178_s0), .val (.int v11_186), .val (.int m202_s0), .val (.int v13_210), .val (.int v14_219), .val (.int m234_s0), .val (.int v16_248), .val (.int v17_262), .val (.int v18_298), .val (.int m314_s0), .val (.ref b21), .val (.int (0 : Int32)), .unset, .unset, .unset, .unset, .unset, .unset, .unset, .unset, .unset, .unset, .unset, .unset, .unset, .unset, .unset, .unset, .unset, .unset, .unset, .unset, .unset, .unset, .unset, .unset] [.int z22])
  refine go_istore (pc' := 347) (L' := #[.val (.long q0), .second, .val (.int p1), .val (.int p2), .val (.int p3), .val (.ref b1), .val (.long l6), .second, .val (.int d8), .val (.int v9_162), .val (.int m178_s0), .val (.int v11_186), .val (.int m202_s0), .val (.int v13_210), .val (.int v14_219), .val (.int m234_s0), .val (.int v16_248), .val (.int v17_262), .val (.int v18_298), .val (.int m314_s0), .val (.ref b21), .val (.int z22), .unset, .unset, .unset, .unset, .unset, .unset, .unset, .unset, .unset, .unset, .unset, .unset, .unset, .unset, .unset, .unset, .unset, .unset, .unset, .unset, .unset, .unset, .unset, .unset]) X22 hx (hb hby at_345) rfl rfl ?_
  refine go_aload (pc' := 349) X22 hx (hb hby at_347) rfl rfl ?_
  refine go_iload (pc' := 351) X22 hx (hb hby at_349) rfl rfl ?_
  refine go_iload (pc' := 353) X22 hx (hb hby at_351) rfl rfl ?_
  refine go_iconst (pc' := 354) (v := 2) X22 hx (hb hby at_353) rfl rfl ?_
  suffices J362 : ∀ (m362_s0 : Int32), ((¬ v13_210 = (2 : Int32) ∧ m362_s0 = (0 : Int32)) ∨ (v13_210 = (2 : Int32) ∧ m362_s0 = (1 : Int32))) → GoK p e below (DoneK s below n0 room_1.cells room_1.slots (QI (fun z _ => z = 1))) T22 (mkF m 362 #[.val (.long q0), .second, .val (.int p1), .val (.int p2), .val (.int p3), .val (.ref b1), .val (.long l6), .second, .val (.int d8), .val (.int v9_162), .val (.int m178_s0), .val (.int v11_186), .val (.int m202_s0), .val (.int v13_210), .val (.int v14_219), .val (.int m234_s0), .val (.int v16_248), .val (.int v17_262), .val (.int v18_298), .val (.int m314_s0), .val (.ref b21), .val (.int z22), .unset, .unset, .unset, .unset, .unset, .unset, .unset, .unset, .unset, .unset, .unset, .unset, .unset, .unset, .unset, .unset, .unset, .unset, .unset, .unset, .unset, .unset, .unset, .unset] [.int m362_s0, .int z22, .ref b21]) by
    refine go_icmpne (pc' := 357) (pcT := 361) X22 hx (hb hby at_354) rfl (by decide) (by decide) (fun c354 => ?_) (fun c354 => ?_)
    · refine go_iconst (pc' := 362) (v := 0) X22 hx (hb hby at_361) rfl rfl ?_
      exact J362 _  (Or.inl ⟨c354, rfl⟩)
    · refine go_iconst (pc' := 358) (v := 1) X22 hx (hb hby at_357) rfl rfl ?_
      refine go_goto (pc' := 362) X22 hx (hb hby at_358) (by decide) (by decide) ?_
      exact J362 _  (Or.inr ⟨c354, rfl⟩)
  intro m362_s0 j362
  refine go_bipush (pc' := 364) (v := 45) X22 hx (hb hby at_362) rfl rfl ?_
  obtain ⟨pb0, pb1, pb2⟩ := own_pb (N := (own_N v14_219.toInt d8.toInt l6.toInt)) (sc := sc) (e := v9_162.toInt) (i1 := i1) (i2 := i2) (i3 := i3) (ec := ec) (xs := xs) (xc := xc) KD j340 hz22 j362
  refine go_callS (pc' := 367) (W := 0) (cells' := 2) (slots' := 45) (rm := ({ frames := 0, cells := 0, slots := 0, locals := 0 } : Room)) (aL := [.ref b21, .int z22, .int m362_s0, .int (45 : Int32)]) (St := []) X22 hx hZ hown (by rw [hml]; rfl) (hw _ (List.mem_of_getElem? (i := 21) rfl)) (hw _ (List.mem_of_getElem? (i := 22) rfl)) (hw _ (List.mem_of_getElem? (i := 23) rfl)) (hw _ (List.mem_of_getElem? (i := 24) rfl)) (by decide) pd_4 rfl (ct_1 l Z a0 hw zs b21 z22 m362_s0 (45 : Int32) _ (own_x s0 sc i1 i2 i3 (own_N v14_219.toInt d8.toInt l6.toInt) ec xs xc v9_162.toInt) A_b21 g_b21 hag pb0 pb1) (hb hby at_364) rfl (by decide) (Nat.le_of_eq rfl) (by decide) (by decide) (by decide) rfl rfl (fun T23 h23 v23 X23 Q23 => ?_) rfl
  obtain ⟨z23, rfl, Kc23, ⟨f23, A_b21, hag⟩, hz23⟩ := Q23
  have A_b1 := A_b1.keep Kc23 (ninS ne_b1_b21 nin0)
  have zs := Nat.le_trans zs Kc23.1
  have hWj : z23.toInt = own_w s0 v18_298.toInt m314_s0.toInt 0 := by rw [hz23, pb2, own_w0 PP]
  show GoK p e below _ T23 (mkF m 367 #[.val (.long q0), .second, .val (.int p1), .val (.int p2), .val (.int p3), .val (.ref b1), .val (.long l6), .second, .val (.int d8), .val (.int v9_162), .val (.int m178_s0), .val (.int v11_186), .val (.int m202_s0), .val (.int v13_210), .val (.int v14_219), .val (.int m234_s0), .val (.int v16_248), .val (.int v17_262), .val (.int v18_298), .val (.int m314_s0), .val (.ref b21), .val (.int z22), .unset, .unset, .unset, .unset, .unset, .unset, .unset, .unset, .unset, .unset, .unset, .unset, .unset, .unset, .unset, .unset, .unset, .unset, .unset, .unset, .unset, .unset, .unset, .unset] [.int z23])
  refine go_istore (pc' := 369) (L' := #[.val (.long q0), .second, .val (.int p1), .val (.int p2), .val (.int p3), .val (.ref b1), .val (.long l6), .second, .val (.int d8), .val (.int v9_162), .val (.int m178_s0), .val (.int v11_186), .val (.int m202_s0), .val (.int v13_210), .val (.int v14_219), .val (.int m234_s0), .val (.int v16_248), .val (.int v17_262), .val (.int v18_298), .val (.int m314_s0), .val (.ref b21), .val (.int z23), .unset, .unset, .unset, .unset, .unset, .unset, .unset, .unset, .unset, .unset, .unset, .unset, .unset, .unset, .unset, .unset, .unset, .unset, .unset, .unset, .unset, .unset, .unset, .unset]) X23 hx (hb hby at_367) rfl rfl ?_
  refine go_aload (pc' := 371) X23 hx (hb hby at_369) rfl rfl ?_
  refine go_iload (pc' := 373) X23 hx (hb hby at_371) rfl rfl ?_
  refine go_iconst (pc' := 374) (v := 0) X23 hx (hb hby at_373) rfl rfl ?_
  refine go_iload (pc' := 376) X23 hx (hb hby at_374) rfl rfl ?_
  refine go_iload (pc' := 378) X23 hx (hb hby at_376) rfl rfl ?_
  refine go_iload (pc' := 380) X23 hx (hb hby at_378) rfl rfl ?_
  refine go_lload (pc' := 382) X23 hx (hb hby at_380) rfl rfl ?_
  refine go_aload (pc' := 384) X23 hx (hb hby at_382) rfl rfl ?_
  obtain ⟨pb0, pb1, pb2⟩ := own_prem (sc := sc) (ec := ec) (xc := xc) (xs := xs) (e := v9_162.toInt) (p4 := m314_s0) (p3 := v18_298) (p5 := d8) PP rfl rfl (rfl : (0 : Int32).toInt = 0) (by decide) (by decide) hWj rfl hd.1 hd.2 hl.1 hl.2
  refine go_callS (pc' := 387) (W := 0) (cells' := 2) (slots' := 45) (rm := ({ frames := 0, cells := 0, slots := 0, locals := 0 } : Room)) (aL := [.ref b21, .int z23, .int (0 : Int32), .int v18_298, .int m314_s0, .int d8, .long l6, .ref b1]) (St := []) X23 hx hZ hown (by rw [hml]; rfl) (hw _ (List.mem_of_getElem? (i := 25) rfl)) (hw _ (List.mem_of_getElem? (i := 26) rfl)) (hw _ (List.mem_of_getElem? (i := 23) rfl)) (hw _ (List.mem_of_getElem? (i := 27) rfl)) (by decide) pd_5 rfl (ct_2 l Z a0 hw zs b21 z23 (0 : Int32) v18_298 m314_s0 d8 l6 b1 _ (own_x s0 sc i1 i2 i3 (own_N v14_219.toInt d8.toInt l6.toInt) ec xs xc v9_162.toInt) _ A_b21 A_b1 ne_b1_b21 g_b21 hag pb0 pb1 (by decide) pb2) (hb hby at_384) rfl (by decide) (Nat.le_of_eq rfl) (by decide) (by decide) (by decide) rfl rfl (fun T24 h24 v24 X24 Q24 => ?_) rfl
  obtain ⟨z24, rfl, Kc24, ⟨f24, A_b21, hag⟩, hz24⟩ := Q24
  have A_b1 := A_b1.keep Kc24 (ninS ne_b1_b21 nin0)
  have zs := Nat.le_trans zs Kc24.1
  have hWj : z24.toInt = own_w s0 v18_298.toInt m314_s0.toInt 1 := own_nxt (p4 := m314_s0) (p3 := v18_298) PP rfl rfl (rfl : (0 : Int32).toInt = 0) (by decide) (by decide) hWj hz24
  show GoK p e below _ T24 (mkF m 387 #[.val (.long q0), .second, .val (.int p1), .val (.int p2), .val (.int p3), .val (.ref b1), .val (.long l6), .second, .val (.int d8), .val (.int v9_162), .val (.int m178_s0), .val (.int v11_186), .val (.int m202_s0), .val (.int v13_210), .val (.int v14_219), .val (.int m234_s0), .val (.int v16_248), .val (.int v17_262), .val (.int v18_298), .val (.int m314_s0), .val (.ref b21), .val (.int z23), .unset, .unset, .unset, .unset, .unset, .unset, .unset, .unset, .unset, .unset, .unset, .unset, .unset, .unset, .unset, .unset, .unset, .unset, .unset, .unset, .unset, .unset, .unset, .unset] [.int z24])
  refine go_istore (pc' := 389) (L' := #[.val (.long q0), .second, .val (.int p1), .val (.int p2), .val (.int p3), .val (.ref b1), .val (.long l6), .second, .val (.int d8), .val (.int v9_162), .val (.int m178_s0), .val (.int v11_186), .val (.int m202_s0), .val (.int v13_210), .val (.int v14_219), .val (.int m234_s0), .val (.int v16_248), .val (.int v17_262), .val (.int v18_298), .val (.int m314_s0), .val (.ref b21), .val (.int z24), .unset, .unset, .unset, .unset, .unset, .unset, .unset, .unset, .unset, .unset, .unset, .unset, .unset, .unset, .unset, .unset, .unset, .unset, .unset, .unset, .unset, .unset, .unset, .unset]) X24 hx (hb hby at_387) rfl rfl ?_
  refine go_aload (pc' := 391) X24 hx (hb hby at_389) rfl rfl ?_
  refine go_iload (pc' := 393) X24 hx (hb hby at_391) rfl rfl ?_
  refine go_iconst (pc' := 394) (v := 1) X24 hx (hb hby at_393) rfl rfl ?_
  refine go_iload (pc' := 396) X24 hx (hb hby at_394) rfl rfl ?_
  refine go_iload (pc' := 398) X24 hx (hb hby at_396) rfl rfl ?_
  refine go_iload (pc' := 400) X24 hx (hb hby at_398) rfl rfl ?_
  refine go_lload (pc' := 402) X24 hx (hb hby at_400) rfl rfl ?_
  refine go_aload (pc' := 404) X24 hx (hb hby at_402) rfl rfl ?_
  obtain ⟨pb0, pb1, pb2⟩ := own_prem (sc := sc) (ec := ec) (xc := xc) (xs := xs) (e := v9_162.toInt) (p4 := m314_s0) (p3 := v18_298) (p5 := d8) PP rfl rfl (rfl : (1 : Int32).toInt = 1) (by decide) (by decide) hWj rfl hd.1 hd.2 hl.1 hl.2
  refine go_callS (pc' := 407) (W := 0) (cells' := 2) (slots' := 45) (rm := ({ frames := 0, cells := 0, slots := 0, locals := 0 } : Room)) (aL := [.ref b21, .int z24, .int (1 : Int32), .int v18_298, .int m314_s0, .int d8, .long l6, .ref b1]) (St := []) X24 hx hZ hown (by rw [hml]; rfl) (hw _ (List.mem_of_getElem? (i := 25) rfl)) (hw _ (List.mem_of_getElem? (i := 26) rfl)) (hw _ (List.mem_of_getElem? (i := 23) rfl)) (hw _ (List.mem_of_getElem? (i := 27) rfl)) (by decide) pd_5 rfl (ct_2 l Z a0 hw zs b21 z24 (1 : Int32) v18_298 m314_s0 d8 l6 b1 _ (own_x s0 sc i1 i2 i3 (own_N v14_219.toInt d8.toInt l6.toInt) ec xs xc v9_162.toInt) _ A_b21 A_b1 ne_b1_b21 g_b21 hag pb0 pb1 (by decide) pb2) (hb hby at_404) rfl (by decide) (Nat.le_of_eq rfl) (by decide) (by decide) (by decide) rfl rfl (fun T25 h25 v25 X25 Q25 => ?_) rfl
  obtain ⟨z25, rfl, Kc25, ⟨f25, A_b21, hag⟩, hz25⟩ := Q25
  have A_b1 := A_b1.keep Kc25 (ninS ne_b1_b21 nin0)
  have zs := Nat.le_trans zs Kc25.1
  have hWj : z25.toInt = own_w s0 v18_298.toInt m314_s0.toInt 2 := own_nxt (p4 := m314_s0) (p3 := v18_298) PP rfl rfl (rfl : (1 : Int32).toInt = 1) (by decide) (by decide) hWj hz25
  show GoK p e below _ T25 (mkF m 407 #[.val (.long q0), .second, .val (.int p1), .val (.int p2), .val (.int p3), .val (.ref b1), .val (.long l6), .second, .val (.int d8), .val (.int v9_162), .val (.int m178_s0), .val (.int v11_186), .val (.int m202_s0), .val (.int v13_210), .val (.int v14_219), .val (.int m234_s0), .val (.int v16_248), .val (.int v17_262), .val (.int v18_298), .val (.int m314_s0), .val (.ref b21), .val (.int z24), .unset, .unset, .unset, .unset, .unset, .unset, .unset, .unset, .unset, .unset, .unset, .unset, .unset, .unset, .unset, .unset, .unset, .unset, .unset, .unset, .unset, .unset, .unset, .unset] [.int z25])
  refine go_istore (pc' := 409) (L' := #[.val (.long q0), .second, .val (.int p1), .val (.int p2), .val (.int p3), .val (.ref b1), .val (.long l6), .second, .val (.int d8), .val (.int v9_162), .val (.int m178_s0), .val (.int v11_186), .val (.int m202_s0), .val (.int v13_210), .val (.int v14_219), .val (.int m234_s0), .val (.int v16_248), .val (.int v17_262), .val (.int v18_298), .val (.int m314_s0), .val (.ref b21), .val (.int z25), .unset, .unset, .unset, .unset, .unset, .unset, .unset, .unset, .unset, .unset, .unset, .unset, .unset, .unset, .unset, .unset, .unset, .unset, .unset, .unset, .unset, .unset, .unset, .unset]) X25 hx (hb hby at_407) rfl rfl ?_
  refine go_aload (pc' := 411) X25 hx (hb hby at_409) rfl rfl ?_
  refine go_iload (pc' := 413) X25 hx (hb hby at_411) rfl rfl ?_
  refine go_iconst (pc' := 414) (v := 2) X25 hx (hb hby at_413) rfl rfl ?_
  refine go_iload (pc' := 416) X25 hx (hb hby at_414) rfl rfl ?_
  refine go_iload (pc' := 418) X25 hx (hb hby at_416) rfl rfl ?_
  refine go_iload (pc' := 420) X25 hx (hb hby at_418) rfl rfl ?_
  refine go_lload (pc' := 422) X25 hx (hb hby at_420) rfl rfl ?_
  refine go_aload (pc' := 424) X25 hx (hb hby at_422) rfl rfl ?_
  obtain ⟨pb0, pb1, pb2⟩ := own_prem (sc := sc) (ec := ec) (xc := xc) (xs := xs) (e := v9_162.toInt) (p4 := m314_s0) (p3 := v18_298) (p5 := d8) PP rfl rfl (rfl : (2 : Int32).toInt = 2) (by decide) (by decide) hWj rfl hd.1 hd.2 hl.1 hl.2
  refine go_callS (pc' := 427) (W := 0) (cells' := 2) (slots' := 45) (rm := ({ frames := 0, cells := 0, slots := 0, locals := 0 } : Room)) (aL := [.ref b21, .int z25, .int (2 : Int32), .int v18_298, .int m314_s0, .int d8, .long l6, .ref b1]) (St := []) X25 hx hZ hown (by rw [hml]; rfl) (hw _ (List.mem_of_getElem? (i := 25) rfl)) (hw _ (List.mem_of_getElem? (i := 26) rfl)) (hw _ (List.mem_of_getElem? (i := 23) rfl)) (hw _ (List.mem_of_getElem? (i := 27) rfl)) (by decide) pd_5 rfl (ct_2 l Z a0 hw zs b21 z25 (2 : Int32) v18_298 m314_s0 d8 l6 b1 _ (own_x s0 sc i1 i2 i3 (own_N v14_219.toInt d8.toInt l6.toInt) ec xs xc v9_162.toInt) _ A_b21 A_b1 ne_b1_b21 g_b21 hag pb0 pb1 (by decide) pb2) (hb hby at_424) rfl (by decide) (Nat.le_of_eq rfl) (by decide) (by decide) (by decide) rfl rfl (fun T26 h26 v26 X26 Q26 => ?_) rfl
  obtain ⟨z26, rfl, Kc26, ⟨f26, A_b21, hag⟩, hz26⟩ := Q26
  have A_b1 := A_b1.keep Kc26 (ninS ne_b1_b21 nin0)
  have zs := Nat.le_trans zs Kc26.1
  have hWj : z26.toInt = own_w s0 v18_298.toInt m314_s0.toInt 3 := own_nxt (p4 := m314_s0) (p3 := v18_298) PP rfl rfl (rfl : (2 : Int32).toInt = 2) (by decide) (by decide) hWj hz26
  show GoK p e below _ T26 (mkF m 427 #[.val (.long q0), .second, .val (.int p1), .val (.int p2), .val (.int p3), .val (.ref b1), .val (.long l6), .second, .val (.int d8), .val (.int v9_162), .val (.int m178_s0), .val (.int v11_186), .val (.int m202_s0), .val (.int v13_210), .val (.int v14_219), .val (.int m234_s0), .val (.int v16_248), .val (.int v17_262), .val (.int v18_298), .val (.int m314_s0), .val (.ref b21), .val (.int z25), .unset, .unset, .unset, .unset, .unset, .unset, .unset, .unset, .unset, .unset, .unset, .unset, .unset, .unset, .unset, .unset, .unset, .unset, .unset, .unset, .unset, .unset, .unset, .unset] [.int z26])
  refine go_istore (pc' := 429) (L' := #[.val (.long q0), .second, .val (.int p1), .val (.int p2), .val (.int p3), .val (.ref b1), .val (.long l6), .second, .val (.int d8), .val (.int v9_162), .val (.int m178_s0), .val (.int v11_186), .val (.int m202_s0), .val (.int v13_210), .val (.int v14_219), .val (.int m234_s0), .val (.int v16_248), .val (.int v17_262), .val (.int v18_298), .val (.int m314_s0), .val (.ref b21), .val (.int z26), .unset, .unset, .unset, .unset, .unset, .unset, .unset, .unset, .unset, .unset, .unset, .unset, .unset, .unset, .unset, .unset, .unset, .unset, .unset, .unset, .unset, .unset, .unset, .unset]) X26 hx (hb hby at_427) rfl rfl ?_
  refine go_aload (pc' := 431) X26 hx (hb hby at_429) rfl rfl ?_
  refine go_iload (pc' := 433) X26 hx (hb hby at_431) rfl rfl ?_
  refine go_iconst (pc' := 434) (v := 3) X26 hx (hb hby at_433) rfl rfl ?_
  refine go_iload (pc' := 436) X26 hx (hb hby at_434) rfl rfl ?_
  refine go_iload (pc' := 438) X26 hx (hb hby at_436) rfl rfl ?_
  refine go_iload (pc' := 440) X26 hx (hb hby at_438) rfl rfl ?_
  refine go_lload (pc' := 442) X26 hx (hb hby at_440) rfl rfl ?_
  refine go_aload (pc' := 444) X26 hx (hb hby at_442) rfl rfl ?_
  obtain ⟨pb0, pb1, pb2⟩ := own_prem (sc := sc) (ec := ec) (xc := xc) (xs := xs) (e := v9_162.toInt) (p4 := m314_s0) (p3 := v18_298) (p5 := d8) PP rfl rfl (rfl : (3 : Int32).toInt = 3) (by decide) (by decide) hWj rfl hd.1 hd.2 hl.1 hl.2
  refine go_callS (pc' := 447) (W := 0) (cells' := 2) (slots' := 45) (rm := ({ frames := 0, cells := 0, slots := 0, locals := 0 } : Room)) (aL := [.ref b21, .int z26, .int (3 : Int32), .int v18_298, .int m314_s0, .int d8, .long l6, .ref b1]) (St := []) X26 hx hZ hown (by rw [hml]; rfl) (hw _ (List.mem_of_getElem? (i := 25) rfl)) (hw _ (List.mem_of_getElem? (i := 26) rfl)) (hw _ (List.mem_of_getElem? (i := 23) rfl)) (hw _ (List.mem_of_getElem? (i := 27) rfl)) (by decide) pd_5 rfl (ct_2 l Z a0 hw zs b21 z26 (3 : Int32) v18_298 m314_s0 d8 l6 b1 _ (own_x s0 sc i1 i2 i3 (own_N v14_219.toInt d8.toInt l6.toInt) ec xs xc v9_162.toInt) _ A_b21 A_b1 ne_b1_b21 g_b21 hag pb0 pb1 (by decide) pb2) (hb hby at_444) rfl (by decide) (Nat.le_of_eq rfl) (by decide) (by decide) (by decide) rfl rfl (fun T27 h27 v27 X27 Q27 => ?_) rfl
  obtain ⟨z27, rfl, Kc27, ⟨f27, A_b21, hag⟩, hz27⟩ := Q27
  have A_b1 := A_b1.keep Kc27 (ninS ne_b1_b21 nin0)
  have zs := Nat.le_trans zs Kc27.1
  have hWj : z27.toInt = own_w s0 v18_298.toInt m314_s0.toInt 4 := own_nxt (p4 := m314_s0) (p3 := v18_298) PP rfl rfl (rfl : (3 : Int32).toInt = 3) (by decide) (by decide) hWj hz27
  show GoK p e below _ T27 (mkF m 447 #[.val (.long q0), .second, .val (.int p1), .val (.int p2), .val (.int p3), .val (.ref b1), .val (.long l6), .second, .val (.int d8), .val (.int v9_162), .val (.int m178_s0), .val (.int v11_186), .val (.int m202_s0), .val (.int v13_210), .val (.int v14_219), .val (.int m234_s0), .val (.int v16_248), .val (.int v17_262), .val (.int v18_298), .val (.int m314_s0), .val (.ref b21), .val (.int z26), .unset, .unset, .unset, .unset, .unset, .unset, .unset, .unset, .unset, .unset, .unset, .unset, .unset, .unset, .unset, .unset, .unset, .unset, .unset, .unset, .unset, .unset, .unset, .unset] [.int z27])
  refine go_istore (pc' := 449) (L' := #[.val (.long q0), .second, .val (.int p1), .val (.int p2), .val (.int p3), .val (.ref b1), .val (.long l6), .second, .val (.int d8), .val (.int v9_162), .val (.int m178_s0), .val (.int v11_186), .val (.int m202_s0), .val (.int v13_210), .val (.int v14_219), .val (.int m234_s0), .val (.int v16_248), .val (.int v17_262), .val (.int v18_298), .val (.int m314_s0), .val (.ref b21), .val (.int z27), .unset, .unset, .unset, .unset, .unset, .unset, .unset, .unset, .unset, .unset, .unset, .unset, .unset, .unset, .unset, .unset, .unset, .unset, .unset, .unset, .unset, .unset, .unset, .unset]) X27 hx (hb hby at_447) rfl rfl ?_
  refine go_aload (pc' := 451) X27 hx (hb hby at_449) rfl rfl ?_
  refine go_iload (pc' := 453) X27 hx (hb hby at_451) rfl rfl ?_
  refine go_iconst (pc' := 454) (v := 4) X27 hx (hb hby at_453) rfl rfl ?_
  refine go_iload (pc' := 456) X27 hx (hb hby at_454) rfl rfl ?_
  refine go_iload (pc' := 458) X27 hx (hb hby at_456) rfl rfl ?_
  refine go_iload (pc' := 460) X27 hx (hb hby at_458) rfl rfl ?_
  refine go_lload (pc' := 462) X27 hx (hb hby at_460) rfl rfl ?_
  refine go_aload (pc' := 464) X27 hx (hb hby at_462) rfl rfl ?_
  obtain ⟨pb0, pb1, pb2⟩ := own_prem (sc := sc) (ec := ec) (xc := xc) (xs := xs) (e := v9_162.toInt) (p4 := m314_s0) (p3 := v18_298) (p5 := d8) PP rfl rfl (rfl : (4 : Int32).toInt = 4) (by decide) (by decide) hWj rfl hd.1 hd.2 hl.1 hl.2
  refine go_callS (pc' := 467) (W := 0) (cells' := 2) (slots' := 45) (rm := ({ frames := 0, cells := 0, slots := 0, locals := 0 } : Room)) (aL := [.ref b21, .int z27, .int (4 : Int32), .int v18_298, .int m314_s0, .int d8, .long l6, .ref b1]) (St := []) X27 hx hZ hown (by rw [hml]; rfl) (hw _ (List.mem_of_getElem? (i := 25) rfl)) (hw _ (List.mem_of_getElem? (i := 26) rfl)) (hw _ (List.mem_of_getElem? (i := 23) rfl)) (hw _ (List.mem_of_getElem? (i := 27) rfl)) (by decide) pd_5 rfl (ct_2 l Z a0 hw zs b21 z27 (4 : Int32) v18_298 m314_s0 d8 l6 b1 _ (own_x s0 sc i1 i2 i3 (own_N v14_219.toInt d8.toInt l6.toInt) ec xs xc v9_162.toInt) _ A_b21 A_b1 ne_b1_b21 g_b21 hag pb0 pb1 (by decide) pb2) (hb hby at_464) rfl (by decide) (Nat.le_of_eq rfl) (by decide) (by decide) (by decide) rfl rfl (fun T28 h28 v28 X28 Q28 => ?_) rfl
  obtain ⟨z28, rfl, Kc28, ⟨f28, A_b21, hag⟩, hz28⟩ := Q28
  have A_b1 := A_b1.keep Kc28 (ninS ne_b1_b21 nin0)
  have zs := Nat.le_trans zs Kc28.1
  have hWj : z28.toInt = own_w s0 v18_298.toInt m314_s0.toInt 5 := own_nxt (p4 := m314_s0) (p3 := v18_298) PP rfl rfl (rfl : (4 : Int32).toInt = 4) (by decide) (by decide) hWj hz28
  show GoK p e below _ T28 (mkF m 467 #[.val (.long q0), .second, .val (.int p1), .val (.int p2), .val (.int p3), .val (.ref b1), .val (.long l6), .second, .val (.int d8), .val (.int v9_162), .val (.int m178_s0), .val (.int v11_186), .val (.int m202_s0), .val (.int v13_210), .val (.int v14_219), .val (.int m234_s0), .val (.int v16_248), .val (.int v17_262), .val (.int v18_298), .val (.int m314_s0), .val (.ref b21), .val (.int z27), .unset, .unset, .unset, .unset, .unset, .unset, .unset, .unset, .unset, .unset, .unset, .unset, .unset, .unset, .unset, .unset, .unset, .unset, .unset, .unset, .unset, .unset, .unset, .unset] [.int z28])
  refine go_istore (pc' := 469) (L' := #[.val (.long q0), .second, .val (.int p1), .val (.int p2), .val (.int p3), .val (.ref b1), .val (.long l6), .second, .val (.int d8), .val (.int v9_162), .val (.int m178_s0), .val (.int v11_186), .val (.int m202_s0), .val (.int v13_210), .val (.int v14_219), .val (.int m234_s0), .val (.int v16_248), .val (.int v17_262), .val (.int v18_298), .val (.int m314_s0), .val (.ref b21), .val (.int z28), .unset, .unset, .unset, .unset, .unset, .unset, .unset, .unset, .unset, .unset, .unset, .unset, .unset, .unset, .unset, .unset, .unset, .unset, .unset, .unset, .unset, .unset, .unset, .unset]) X28 hx (hb hby at_467) rfl rfl ?_
  refine go_aload (pc' := 471) X28 hx (hb hby at_469) rfl rfl ?_
  refine go_iload (pc' := 473) X28 hx (hb hby at_471) rfl rfl ?_
  refine go_iconst (pc' := 474) (v := 5) X28 hx (hb hby at_473) rfl rfl ?_
  refine go_iload (pc' := 476) X28 hx (hb hby at_474) rfl rfl ?_
  refine go_iload (pc' := 478) X28 hx (hb hby at_476) rfl rfl ?_
  refine go_iload (pc' := 480) X28 hx (hb hby at_478) rfl rfl ?_
  refine go_lload (pc' := 482) X28 hx (hb hby at_480) rfl rfl ?_
  refine go_aload (pc' := 484) X28 hx (hb hby at_482) rfl rfl ?_
  obtain ⟨pb0, pb1, pb2⟩ := own_prem (sc := sc) (ec := ec) (xc := xc) (xs := xs) (e := v9_162.toInt) (p4 := m314_s0) (p3 := v18_298) (p5 := d8) PP rfl rfl (rfl : (5 : Int32).toInt = 5) (by decide) (by decide) hWj rfl hd.1 hd.2 hl.1 hl.2
  refine go_callS (pc' := 487) (W := 0) (cells' := 2) (slots' := 45) (rm := ({ frames := 0, cells := 0, slots := 0, locals := 0 } : Room)) (aL := [.ref b21, .int z28, .int (5 : Int32), .int v18_298, .int m314_s0, .int d8, .long l6, .ref b1]) (St := []) X28 hx hZ hown (by rw [hml]; rfl) (hw _ (List.mem_of_getElem? (i := 25) rfl)) (hw _ (List.mem_of_getElem? (i := 26) rfl)) (hw _ (List.mem_of_getElem? (i := 23) rfl)) (hw _ (List.mem_of_getElem? (i := 27) rfl)) (by decide) pd_5 rfl (ct_2 l Z a0 hw zs b21 z28 (5 : Int32) v18_298 m314_s0 d8 l6 b1 _ (own_x s0 sc i1 i2 i3 (own_N v14_219.toInt d8.toInt l6.toInt) ec xs xc v9_162.toInt) _ A_b21 A_b1 ne_b1_b21 g_b21 hag pb0 pb1 (by decide) pb2) (hb hby at_484) rfl (by decide) (Nat.le_of_eq rfl) (by decide) (by decide) (by decide) rfl rfl (fun T29 h29 v29 X29 Q29 => ?_) rfl
  obtain ⟨z29, rfl, Kc29, ⟨f29, A_b21, hag⟩, hz29⟩ := Q29
  have A_b1 := A_b1.keep Kc29 (ninS ne_b1_b21 nin0)
  have zs := Nat.le_trans zs Kc29.1
  have hWj : z29.toInt = own_w s0 v18_298.toInt m314_s0.toInt 6 := own_nxt (p4 := m314_s0) (p3 := v18_298) PP rfl rfl (rfl : (5 : Int32).toInt = 5) (by decide) (by decide) hWj hz29
  show GoK p e below _ T29 (mkF m 487 #[.val (.long q0), .second, .val (.int p1), .val (.int p2), .val (.int p3), .val (.ref b1), .val (.long l6), .second, .val (.int d8), .val (.int v9_162), .val (.int m178_s0), .val (.int v11_186), .val (.int m202_s0), .val (.int v13_210), .val (.int v14_219), .val (.int m234_s0), .val (.int v16_248), .val (.int v17_262), .val (.int v18_298), .val (.int m314_s0), .val (.ref b21), .val (.int z28), .unset, .unset, .unset, .unset, .unset, .unset, .unset, .unset, .unset, .unset, .unset, .unset, .unset, .unset, .unset, .unset, .unset, .unset, .unset, .unset, .unset, .unset, .unset, .unset] [.int z29])
  refine go_istore (pc' := 489) (L' := #[.val (.long q0), .second, .val (.int p1), .val (.int p2), .val (.int p3), .val (.ref b1), .val (.long l6), .second, .val (.int d8), .val (.int v9_162), .val (.int m178_s0), .val (.int v11_186), .val (.int m202_s0), .val (.int v13_210), .val (.int v14_219), .val (.int m234_s0), .val (.int v16_248), .val (.int v17_262), .val (.int v18_298), .val (.int m314_s0), .val (.ref b21), .val (.int z29), .unset, .unset, .unset, .unset, .unset, .unset, .unset, .unset, .unset, .unset, .unset, .unset, .unset, .unset, .unset, .unset, .unset, .unset, .unset, .unset, .unset, .unset, .unset, .unset]) X29 hx (hb hby at_487) rfl rfl ?_
  refine go_aload (pc' := 491) X29 hx (hb hby at_489) rfl rfl ?_
  refine go_iload (pc' := 493) X29 hx (hb hby at_491) rfl rfl ?_
  refine go_bipush (pc' := 495) (v := 6) X29 hx (hb hby at_493) rfl rfl ?_
  refine go_iload (pc' := 497) X29 hx (hb hby at_495) rfl rfl ?_
  refine go_iload (pc' := 499) X29 hx (hb hby at_497) rfl rfl ?_
  refine go_iload (pc' := 501) X29 hx (hb hby at_499) rfl rfl ?_
  refine go_lload (pc' := 503) X29 hx (hb hby at_501) rfl rfl ?_
  refine go_aload (pc' := 505) X29 hx (hb hby at_503) rfl rfl ?_
  obtain ⟨pb0, pb1, pb2⟩ := own_prem (sc := sc) (ec := ec) (xc := xc) (xs := xs) (e := v9_162.toInt) (p4 := m314_s0) (p3 := v18_298) (p5 := d8) PP rfl rfl (rfl : (6 : Int32).toInt = 6) (by decide) (by decide) hWj rfl hd.1 hd.2 hl.1 hl.2
  refine go_callS (pc' := 508) (W := 0) (cells' := 2) (slots' := 45) (rm := ({ frames := 0, cells := 0, slots := 0, locals := 0 } : Room)) (aL := [.ref b21, .int z29, .int (6 : Int32), .int v18_298, .int m314_s0, .int d8, .long l6, .ref b1]) (St := []) X29 hx hZ hown (by rw [hml]; rfl) (hw _ (List.mem_of_getElem? (i := 25) rfl)) (hw _ (List.mem_of_getElem? (i := 26) rfl)) (hw _ (List.mem_of_getElem? (i := 23) rfl)) (hw _ (List.mem_of_getElem? (i := 27) rfl)) (by decide) pd_5 rfl (ct_2 l Z a0 hw zs b21 z29 (6 : Int32) v18_298 m314_s0 d8 l6 b1 _ (own_x s0 sc i1 i2 i3 (own_N v14_219.toInt d8.toInt l6.toInt) ec xs xc v9_162.toInt) _ A_b21 A_b1 ne_b1_b21 g_b21 hag pb0 pb1 (by decide) pb2) (hb hby at_505) rfl (by decide) (Nat.le_of_eq rfl) (by decide) (by decide) (by decide) rfl rfl (fun T30 h30 v30 X30 Q30 => ?_) rfl
  obtain ⟨z30, rfl, Kc30, ⟨f30, A_b21, hag⟩, hz30⟩ := Q30
  have A_b1 := A_b1.keep Kc30 (ninS ne_b1_b21 nin0)
  have zs := Nat.le_trans zs Kc30.1
  have hWj : z30.toInt = own_w s0 v18_298.toInt m314_s0.toInt 7 := own_nxt (p4 := m314_s0) (p3 := v18_298) PP rfl rfl (rfl : (6 : Int32).toInt = 6) (by decide) (by decide) hWj hz30
  show GoK p e below _ T30 (mkF m 508 #[.val (.long q0), .second, .val (.int p1), .val (.int p2), .val (.int p3), .val (.ref b1), .val (.long l6), .second, .val (.int d8), .val (.int v9_162), .val (.int m178_s0), .val (.int v11_186), .val (.int m202_s0), .val (.int v13_210), .val (.int v14_219), .val (.int m234_s0), .val (.int v16_248), .val (.int v17_262), .val (.int v18_298), .val (.int m314_s0), .val (.ref b21), .val (.int z29), .unset, .unset, .unset, .unset, .unset, .unset, .unset, .unset, .unset, .unset, .unset, .unset, .unset, .unset, .unset, .unset, .unset, .unset, .unset, .unset, .unset, .unset, .unset, .unset] [.int z30])
  refine go_istore (pc' := 510) (L' := #[.val (.long q0), .second, .val (.int p1), .val (.int p2), .val (.int p3), .val (.ref b1), .val (.long l6), .second, .val (.int d8), .val (.int v9_162), .val (.int m178_s0), .val (.int v11_186), .val (.int m202_s0), .val (.int v13_210), .val (.int v14_219), .val (.int m234_s0), .val (.int v16_248), .val (.int v17_262), .val (.int v18_298), .val (.int m314_s0), .val (.ref b21), .val (.int z30), .unset, .unset, .unset, .unset, .unset, .unset, .unset, .unset, .unset, .unset, .unset, .unset, .unset, .unset, .unset, .unset, .unset, .unset, .unset, .unset, .unset, .unset, .unset, .unset]) X30 hx (hb hby at_508) rfl rfl ?_
  refine go_aload (pc' := 512) X30 hx (hb hby at_510) rfl rfl ?_
  refine go_iload (pc' := 514) X30 hx (hb hby at_512) rfl rfl ?_
  refine go_bipush (pc' := 516) (v := 7) X30 hx (hb hby at_514) rfl rfl ?_
  refine go_iload (pc' := 518) X30 hx (hb hby at_516) rfl rfl ?_
  refine go_iload (pc' := 520) X30 hx (hb hby at_518) rfl rfl ?_
  refine go_iload (pc' := 522) X30 hx (hb hby at_520) rfl rfl ?_
  refine go_lload (pc' := 524) X30 hx (hb hby at_522) rfl rfl ?_
  refine go_aload (pc' := 526) X30 hx (hb hby at_524) rfl rfl ?_
  obtain ⟨pb0, pb1, pb2⟩ := own_prem (sc := sc) (ec := ec) (xc := xc) (xs := xs) (e := v9_162.toInt) (p4 := m314_s0) (p3 := v18_298) (p5 := d8) PP rfl rfl (rfl : (7 : Int32).toInt = 7) (by decide) (by decide) hWj rfl hd.1 hd.2 hl.1 hl.2
  refine go_callS (pc' := 529) (W := 0) (cells' := 2) (slots' := 45) (rm := ({ frames := 0, cells := 0, slots := 0, locals := 0 } : Room)) (aL := [.ref b21, .int z30, .int (7 : Int32), .int v18_298, .int m314_s0, .int d8, .long l6, .ref b1]) (St := []) X30 hx hZ hown (by rw [hml]; rfl) (hw _ (List.mem_of_getElem? (i := 25) rfl)) (hw _ (List.mem_of_getElem? (i := 26) rfl)) (hw _ (List.mem_of_getElem? (i := 23) rfl)) (hw _ (List.mem_of_getElem? (i := 27) rfl)) (by decide) pd_5 rfl (ct_2 l Z a0 hw zs b21 z30 (7 : Int32) v18_298 m314_s0 d8 l6 b1 _ (own_x s0 sc i1 i2 i3 (own_N v14_219.toInt d8.toInt l6.toInt) ec xs xc v9_162.toInt) _ A_b21 A_b1 ne_b1_b21 g_b21 hag pb0 pb1 (by decide) pb2) (hb hby at_526) rfl (by decide) (Nat.le_of_eq rfl) (by decide) (by decide) (by decide) rfl rfl (fun T31 h31 v31 X31 Q31 => ?_) rfl
  obtain ⟨z31, rfl, Kc31, ⟨f31, A_b21, hag⟩, hz31⟩ := Q31
  have A_b1 := A_b1.keep Kc31 (ninS ne_b1_b21 nin0)
  have zs := Nat.le_trans zs Kc31.1
  have hWj : z31.toInt = own_w s0 v18_298.toInt m314_s0.toInt 8 := own_nxt (p4 := m314_s0) (p3 := v18_298) PP rfl rfl (rfl : (7 : Int32).toInt = 7) (by decide) (by decide) hWj hz31
  show GoK p e below _ T31 (mkF m 529 #[.val (.long q0), .second, .val (.int p1), .val (.int p2), .val (.int p3), .val (.ref b1), .val (.long l6), .second, .val (.int d8), .val (.int v9_162), .val (.int m178_s0), .val (.int v11_186), .val (.int m202_s0), .val (.int v13_210), .val (.int v14_219), .val (.int m234_s0), .val (.int v16_248), .val (.int v17_262), .val (.int v18_298), .val (.int m314_s0), .val (.ref b21), .val (.int z30), .unset, .unset, .unset, .unset, .unset, .unset, .unset, .unset, .unset, .unset, .unset, .unset, .unset, .unset, .unset, .unset, .unset, .unset, .unset, .unset, .unset, .unset, .unset, .unset] [.int z31])
  refine go_istore (pc' := 531) (L' := #[.val (.long q0), .second, .val (.int p1), .val (.int p2), .val (.int p3), .val (.ref b1), .val (.long l6), .second, .val (.int d8), .val (.int v9_162), .val (.int m178_s0), .val (.int v11_186), .val (.int m202_s0), .val (.int v13_210), .val (.int v14_219), .val (.int m234_s0), .val (.int v16_248), .val (.int v17_262), .val (.int v18_298), .val (.int m314_s0), .val (.ref b21), .val (.int z31), .unset, .unset, .unset, .unset, .unset, .unset, .unset, .unset, .unset, .unset, .unset, .unset, .unset, .unset, .unset, .unset, .unset, .unset, .unset, .unset, .unset, .unset, .unset, .unset]) X31 hx (hb hby at_529) rfl rfl ?_
  refine go_aload (pc' := 533) X31 hx (hb hby at_531) rfl rfl ?_
  refine go_iload (pc' := 535) X31 hx (hb hby at_533) rfl rfl ?_
  refine go_bipush (pc' := 537) (v := 8) X31 hx (hb hby at_535) rfl rfl ?_
  refine go_iload (pc' := 539) X31 hx (hb hby at_537) rfl rfl ?_
  refine go_iload (pc' := 541) X31 hx (hb hby at_539) rfl rfl ?_
  refine go_iload (pc' := 543) X31 hx (hb hby at_541) rfl rfl ?_
  refine go_lload (pc' := 545) X31 hx (hb hby at_543) rfl rfl ?_
  refine go_aload (pc' := 547) X31 hx (hb hby at_545) rfl rfl ?_
  obtain ⟨pb0, pb1, pb2⟩ := own_prem (sc := sc) (ec := ec) (xc := xc) (xs := xs) (e := v9_162.toInt) (p4 := m314_s0) (p3 := v18_298) (p5 := d8) PP rfl rfl (rfl : (8 : Int32).toInt = 8) (by decide) (by decide) hWj rfl hd.1 hd.2 hl.1 hl.2
  refine go_callS (pc' := 550) (W := 0) (cells' := 2) (slots' := 45) (rm := ({ frames := 0, cells := 0, slots := 0, locals := 0 } : Room)) (aL := [.ref b21, .int z31, .int (8 : Int32), .int v18_298, .int m314_s0, .int d8, .long l6, .ref b1]) (St := []) X31 hx hZ hown (by rw [hml]; rfl) (hw _ (List.mem_of_getElem? (i := 25) rfl)) (hw _ (List.mem_of_getElem? (i := 26) rfl)) (hw _ (List.mem_of_getElem? (i := 23) rfl)) (hw _ (List.mem_of_getElem? (i := 27) rfl)) (by decide) pd_5 rfl (ct_2 l Z a0 hw zs b21 z31 (8 : Int32) v18_298 m314_s0 d8 l6 b1 _ (own_x s0 sc i1 i2 i3 (own_N v14_219.toInt d8.toInt l6.toInt) ec xs xc v9_162.toInt) _ A_b21 A_b1 ne_b1_b21 g_b21 hag pb0 pb1 (by decide) pb2) (hb hby at_547) rfl (by decide) (Nat.le_of_eq rfl) (by decide) (by decide) (by decide) rfl rfl (fun T32 h32 v32 X32 Q32 => ?_) rfl
  obtain ⟨z32, rfl, Kc32, ⟨f32, A_b21, hag⟩, hz32⟩ := Q32
  have A_b1 := A_b1.keep Kc32 (ninS ne_b1_b21 nin0)
  have zs := Nat.le_trans zs Kc32.1
  have hWj : z32.toInt = own_w s0 v18_298.toInt m314_s0.toInt 9 := own_nxt (p4 := m314_s0) (p3 := v18_298) PP rfl rfl (rfl : (8 : Int32).toInt = 8) (by decide) (by decide) hWj hz32
  show GoK p e below _ T32 (mkF m 550 #[.val (.long q0), .second, .val (.int p1), .val (.int p2), .val (.int p3), .val (.ref b1), .val (.long l6), .second, .val (.int d8), .val (.int v9_162), .val (.int m178_s0), .val (.int v11_186), .val (.int m202_s0), .val (.int v13_210), .val (.int v14_219), .val (.int m234_s0), .val (.int v16_248), .val (.int v17_262), .val (.int v18_298), .val (.int m314_s0), .val (.ref b21), .val (.int z31), .unset, .unset, .unset, .unset, .unset, .unset, .unset, .unset, .unset, .unset, .unset, .unset, .unset, .unset, .unset, .unset, .unset, .unset, .unset, .unset, .unset, .unset, .unset, .unset] [.int z32])
  refine go_istore (pc' := 552) (L' := #[.val (.long q0), .second, .val (.int p1), .val (.int p2), .val (.int p3), .val (.ref b1), .val (.long l6), .second, .val (.int d8), .val (.int v9_162), .val (.int m178_s0), .val (.int v11_186), .val (.int m202_s0), .val (.int v13_210), .val (.int v14_219), .val (.int m234_s0), .val (.int v16_248), .val (.int v17_262), .val (.int v18_298), .val (.int m314_s0), .val (.ref b21), .val (.int z32), .unset, .unset, .unset, .unset, .unset, .unset, .unset, .unset, .unset, .unset, .unset, .unset, .unset, .unset, .unset, .unset, .unset, .unset, .unset, .unset, .unset, .unset, .unset, .unset]) X32 hx (hb hby at_550) rfl rfl ?_
  refine go_aload (pc' := 554) X32 hx (hb hby at_552) rfl rfl ?_
  refine go_iload (pc' := 556) X32 hx (hb hby at_554) rfl rfl ?_
  refine go_bipush (pc' := 558) (v := 9) X32 hx (hb hby at_556) rfl rfl ?_
  refine go_iload (pc' := 560) X32 hx (hb hby at_558) rfl rfl ?_
  refine go_iload (pc' := 562) X32 hx (hb hby at_560) rfl rfl ?_
  refine go_iload (pc' := 564) X32 hx (hb hby at_562) rfl rfl ?_
  refine go_lload (pc' := 566) X32 hx (hb hby at_564) rfl rfl ?_
  refine go_aload (pc' := 568) X32 hx (hb hby at_566) rfl rfl ?_
  obtain ⟨pb0, pb1, pb2⟩ := own_prem (sc := sc) (ec := ec) (xc := xc) (xs := xs) (e := v9_162.toInt) (p4 := m314_s0) (p3 := v18_298) (p5 := d8) PP rfl rfl (rfl : (9 : Int32).toInt = 9) (by decide) (by decide) hWj rfl hd.1 hd.2 hl.1 hl.2
  refine go_callS (pc' := 571) (W := 0) (cells' := 2) (slots' := 45) (rm := ({ frames := 0, cells := 0, slots := 0, locals := 0 } : Room)) (aL := [.ref b21, .int z32, .int (9 : Int32), .int v18_298, .int m314_s0, .int d8, .long l6, .ref b1]) (St := []) X32 hx hZ hown (by rw [hml]; rfl) (hw _ (List.mem_of_getElem? (i := 25) rfl)) (hw _ (List.mem_of_getElem? (i := 26) rfl)) (hw _ (List.mem_of_getElem? (i := 23) rfl)) (hw _ (List.mem_of_getElem? (i := 27) rfl)) (by decide) pd_5 rfl (ct_2 l Z a0 hw zs b21 z32 (9 : Int32) v18_298 m314_s0 d8 l6 b1 _ (own_x s0 sc i1 i2 i3 (own_N v14_219.toInt d8.toInt l6.toInt) ec xs xc v9_162.toInt) _ A_b21 A_b1 ne_b1_b21 g_b21 hag pb0 pb1 (by decide) pb2) (hb hby at_568) rfl (by decide) (Nat.le_of_eq rfl) (by decide) (by decide) (by decide) rfl rfl (fun T33 h33 v33 X33 Q33 => ?_) rfl
  obtain ⟨z33, rfl, Kc33, ⟨f33, A_b21, hag⟩, hz33⟩ := Q33
  have A_b1 := A_b1.keep Kc33 (ninS ne_b1_b21 nin0)
  have zs := Nat.le_trans zs Kc33.1
  have hWj : z33.toInt = own_w s0 v18_298.toInt m314_s0.toInt 10 := own_nxt (p4 := m314_s0) (p3 := v18_298) PP rfl rfl (rfl : (9 : Int32).toInt = 9) (by decide) (by decide) hWj hz33
  show GoK p e below _ T33 (mkF m 571 #[.val (.long q0), .second, .val (.int p1), .val (.int p2), .val (.int p3), .val (.ref b1), .val (.long l6), .second, .val (.int d8), .val (.int v9_162), .val (.int m178_s0), .val (.int v11_186), .val (.int m202_s0), .val (.int v13_210), .val (.int v14_219), .val (.int m234_s0), .val (.int v16_248), .val (.int v17_262), .val (.int v18_298), .val (.int m314_s0), .val (.ref b21), .val (.int z32), .unset, .unset, .unset, .unset, .unset, .unset, .unset, .unset, .unset, .unset, .unset, .unset, .unset, .unset, .unset, .unset, .unset, .unset, .unset, .unset, .unset, .unset, .unset, .unset] [.int z33])
  refine go_istore (pc' := 573) (L' := #[.val (.long q0), .second, .val (.int p1), .val (.int p2), .val (.int p3), .val (.ref b1), .val (.long l6), .second, .val (.int d8), .val (.int v9_162), .val (.int m178_s0), .val (.int v11_186), .val (.int m202_s0), .val (.int v13_210), .val (.int v14_219), .val (.int m234_s0), .val (.int v16_248), .val (.int v17_262), .val (.int v18_298), .val (.int m314_s0), .val (.ref b21), .val (.int z33), .unset, .unset, .unset, .unset, .unset, .unset, .unset, .unset, .unset, .unset, .unset, .unset, .unset, .unset, .unset, .unset, .unset, .unset, .unset, .unset, .unset, .unset, .unset, .unset]) X33 hx (hb hby at_571) rfl rfl ?_
  refine go_aload (pc' := 575) X33 hx (hb hby at_573) rfl rfl ?_
  refine go_iload (pc' := 577) X33 hx (hb hby at_575) rfl rfl ?_
  refine go_bipush (pc' := 579) (v := 10) X33 hx (hb hby at_577) rfl rfl ?_
  refine go_iload (pc' := 581) X33 hx (hb hby at_579) rfl rfl ?_
  refine go_iload (pc' := 583) X33 hx (hb hby at_581) rfl rfl ?_
  refine go_iload (pc' := 585) X33 hx (hb hby at_583) rfl rfl ?_
  refine go_lload (pc' := 587) X33 hx (hb hby at_585) rfl rfl ?_
  refine go_aload (pc' := 589) X33 hx (hb hby at_587) rfl rfl ?_
  obtain ⟨pb0, pb1, pb2⟩ := own_prem (sc := sc) (ec := ec) (xc := xc) (xs := xs) (e := v9_162.toInt) (p4 := m314_s0) (p3 := v18_298) (p5 := d8) PP rfl rfl (rfl : (10 : Int32).toInt = 10) (by decide) (by decide) hWj rfl hd.1 hd.2 hl.1 hl.2
  refine go_callS (pc' := 592) (W := 0) (cells' := 2) (slots' := 45) (rm := ({ frames := 0, cells := 0, slots := 0, locals := 0 } : Room)) (aL := [.ref b21, .int z33, .int (10 : Int32), .int v18_298, .int m314_s0, .int d8, .long l6, .ref b1]) (St := []) X33 hx hZ hown (by rw [hml]; rfl) (hw _ (List.mem_of_getElem? (i := 25) rfl)) (hw _ (List.mem_of_getElem? (i := 26) rfl)) (hw _ (List.mem_of_getElem? (i := 23) rfl)) (hw _ (List.mem_of_getElem? (i := 27) rfl)) (by decide) pd_5 rfl (ct_2 l Z a0 hw zs b21 z33 (10 : Int32) v18_298 m314_s0 d8 l6 b1 _ (own_x s0 sc i1 i2 i3 (own_N v14_219.toInt d8.toInt l6.toInt) ec xs xc v9_162.toInt) _ A_b21 A_b1 ne_b1_b21 g_b21 hag pb0 pb1 (by decide) pb2) (hb hby at_589) rfl (by decide) (Nat.le_of_eq rfl) (by decide) (by decide) (by decide) rfl rfl (fun T34 h34 v34 X34 Q34 => ?_) rfl
  obtain ⟨z34, rfl, Kc34, ⟨f34, A_b21, hag⟩, hz34⟩ := Q34
  have A_b1 := A_b1.keep Kc34 (ninS ne_b1_b21 nin0)
  have zs := Nat.le_trans zs Kc34.1
  have hWj : z34.toInt = own_w s0 v18_298.toInt m314_s0.toInt 11 := own_nxt (p4 := m314_s0) (p3 := v18_298) PP rfl rfl (rfl : (10 : Int32).toInt = 10) (by decide) (by decide) hWj hz34
  show GoK p e below _ T34 (mkF m 592 #[.val (.long q0), .second, .val (.int p1), .val (.int p2), .val (.int p3), .val (.ref b1), .val (.long l6), .second, .val (.int d8), .val (.int v9_162), .val (.int m178_s0), .val (.int v11_186), .val (.int m202_s0), .val (.int v13_210), .val (.int v14_219), .val (.int m234_s0), .val (.int v16_248), .val (.int v17_262), .val (.int v18_298), .val (.int m314_s0), .val (.ref b21), .val (.int z33), .unset, .unset, .unset, .unset, .unset, .unset, .unset, .unset, .unset, .unset, .unset, .unset, .unset, .unset, .unset, .unset, .unset, .unset, .unset, .unset, .unset, .unset, .unset, .unset] [.int z34])
  refine go_istore (pc' := 594) (L' := #[.val (.long q0), .second, .val (.int p1), .val (.int p2), .val (.int p3), .val (.ref b1), .val (.long l6), .second, .val (.int d8), .val (.int v9_162), .val (.int m178_s0), .val (.int v11_186), .val (.int m202_s0), .val (.int v13_210), .val (.int v14_219), .val (.int m234_s0), .val (.int v16_248), .val (.int v17_262), .val (.int v18_298), .val (.int m314_s0), .val (.ref b21), .val (.int z34), .unset, .unset, .unset, .unset, .unset, .unset, .unset, .unset, .unset, .unset, .unset, .unset, .unset, .unset, .unset, .unset, .unset, .unset, .unset, .unset, .unset, .unset, .unset, .unset]) X34 hx (hb hby at_592) rfl rfl ?_
  refine go_aload (pc' := 596) X34 hx (hb hby at_594) rfl rfl ?_
  refine go_iload (pc' := 598) X34 hx (hb hby at_596) rfl rfl ?_
  refine go_bipush (pc' := 600) (v := 11) X34 hx (hb hby at_598) rfl rfl ?_
  refine go_iload (pc' := 602) X34 hx (hb hby at_600) rfl rfl ?_
  refine go_iload (pc' := 604) X34 hx (hb hby at_602) rfl rfl ?_
  refine go_iload (pc' := 606) X34 hx (hb hby at_604) rfl rfl ?_
  refine go_lload (pc' := 608) X34 hx (hb hby at_606) rfl rfl ?_
  refine go_aload (pc' := 610) X34 hx (hb hby at_608) rfl rfl ?_
  obtain ⟨pb0, pb1, pb2⟩ := own_prem (sc := sc) (ec := ec) (xc := xc) (xs := xs) (e := v9_162.toInt) (p4 := m314_s0) (p3 := v18_298) (p5 := d8) PP rfl rfl (rfl : (11 : Int32).toInt = 11) (by decide) (by decide) hWj rfl hd.1 hd.2 hl.1 hl.2
  refine go_callS (pc' := 613) (W := 0) (cells' := 2) (slots' := 45) (rm := ({ frames := 0, cells := 0, slots := 0, locals := 0 } : Room)) (aL := [.ref b21, .int z34, .int (11 : Int32), .int v18_298, .int m314_s0, .int d8, .long l6, .ref b1]) (St := []) X34 hx hZ hown (by rw [hml]; rfl) (hw _ (List.mem_of_getElem? (i := 25) rfl)) (hw _ (List.mem_of_getElem? (i := 26) rfl)) (hw _ (List.mem_of_getElem? (i := 23) rfl)) (hw _ (List.mem_of_getElem? (i := 27) rfl)) (by decide) pd_5 rfl (ct_2 l Z a0 hw zs b21 z34 (11 : Int32) v18_298 m314_s0 d8 l6 b1 _ (own_x s0 sc i1 i2 i3 (own_N v14_219.toInt d8.toInt l6.toInt) ec xs xc v9_162.toInt) _ A_b21 A_b1 ne_b1_b21 g_b21 hag pb0 pb1 (by decide) pb2) (hb hby at_610) rfl (by decide) (Nat.le_of_eq rfl) (by decide) (by decide) (by decide) rfl rfl (fun T35 h35 v35 X35 Q35 => ?_) rfl
  obtain ⟨z35, rfl, Kc35, ⟨f35, A_b21, hag⟩, hz35⟩ := Q35
  have A_b1 := A_b1.keep Kc35 (ninS ne_b1_b21 nin0)
  have zs := Nat.le_trans zs Kc35.1
  have hWj : z35.toInt = own_w s0 v18_298.toInt m314_s0.toInt 12 := own_nxt (p4 := m314_s0) (p3 := v18_298) PP rfl rfl (rfl : (11 : Int32).toInt = 11) (by decide) (by decide) hWj hz35
  show GoK p e below _ T35 (mkF m 613 #[.val (.long q0), .second, .val (.int p1), .val (.int p2), .val (.int p3), .val (.ref b1), .val (.long l6), .second, .val (.int d8), .val (.int v9_162), .val (.int m178_s0), .val (.int v11_186), .val (.int m202_s0), .val (.int v13_210), .val (.int v14_219), .val (.int m234_s0), .val (.int v16_248), .val (.int v17_262), .val (.int v18_298), .val (.int m314_s0), .val (.ref b21), .val (.int z34), .unset, .unset, .unset, .unset, .unset, .unset, .unset, .unset, .unset, .unset, .unset, .unset, .unset, .unset, .unset, .unset, .unset, .unset, .unset, .unset, .unset, .unset, .unset, .unset] [.int z35])
  refine go_istore (pc' := 615) (L' := #[.val (.long q0), .second, .val (.int p1), .val (.int p2), .val (.int p3), .val (.ref b1), .val (.long l6), .second, .val (.int d8), .val (.int v9_162), .val (.int m178_s0), .val (.int v11_186), .val (.int m202_s0), .val (.int v13_210), .val (.int v14_219), .val (.int m234_s0), .val (.int v16_248), .val (.int v17_262), .val (.int v18_298), .val (.int m314_s0), .val (.ref b21), .val (.int z35), .unset, .unset, .unset, .unset, .unset, .unset, .unset, .unset, .unset, .unset, .unset, .unset, .unset, .unset, .unset, .unset, .unset, .unset, .unset, .unset, .unset, .unset, .unset, .unset]) X35 hx (hb hby at_613) rfl rfl ?_
  refine go_aload (pc' := 617) X35 hx (hb hby at_615) rfl rfl ?_
  refine go_iload (pc' := 619) X35 hx (hb hby at_617) rfl rfl ?_
  refine go_bipush (pc' := 621) (v := 12) X35 hx (hb hby at_619) rfl rfl ?_
  refine go_iload (pc' := 623) X35 hx (hb hby at_621) rfl rfl ?_
  refine go_iload (pc' := 625) X35 hx (hb hby at_623) rfl rfl ?_
  refine go_iload (pc' := 627) X35 hx (hb hby at_625) rfl rfl ?_
  refine go_lload (pc' := 629) X35 hx (hb hby at_627) rfl rfl ?_
  refine go_aload (pc' := 631) X35 hx (hb hby at_629) rfl rfl ?_
  obtain ⟨pb0, pb1, pb2⟩ := own_prem (sc := sc) (ec := ec) (xc := xc) (xs := xs) (e := v9_162.toInt) (p4 := m314_s0) (p3 := v18_298) (p5 := d8) PP rfl rfl (rfl : (12 : Int32).toInt = 12) (by decide) (by decide) hWj rfl hd.1 hd.2 hl.1 hl.2
  refine go_callS (pc' := 634) (W := 0) (cells' := 2) (slots' := 45) (rm := ({ frames := 0, cells := 0, slots := 0, locals := 0 } : Room)) (aL := [.ref b21, .int z35, .int (12 : Int32), .int v18_298, .int m314_s0, .int d8, .long l6, .ref b1]) (St := []) X35 hx hZ hown (by rw [hml]; rfl) (hw _ (List.mem_of_getElem? (i := 25) rfl)) (hw _ (List.mem_of_getElem? (i := 26) rfl)) (hw _ (List.mem_of_getElem? (i := 23) rfl)) (hw _ (List.mem_of_getElem? (i := 27) rfl)) (by decide) pd_5 rfl (ct_2 l Z a0 hw zs b21 z35 (12 : Int32) v18_298 m314_s0 d8 l6 b1 _ (own_x s0 sc i1 i2 i3 (own_N v14_219.toInt d8.toInt l6.toInt) ec xs xc v9_162.toInt) _ A_b21 A_b1 ne_b1_b21 g_b21 hag pb0 pb1 (by decide) pb2) (hb hby at_631) rfl (by decide) (Nat.le_of_eq rfl) (by decide) (by decide) (by decide) rfl rfl (fun T36 h36 v36 X36 Q36 => ?_) rfl
  obtain ⟨z36, rfl, Kc36, ⟨f36, A_b21, hag⟩, hz36⟩ := Q36
  have A_b1 := A_b1.keep Kc36 (ninS ne_b1_b21 nin0)
  have zs := Nat.le_trans zs Kc36.1
  have hWj : z36.toInt = own_w s0 v18_298.toInt m314_s0.toInt 13 := own_nxt (p4 := m314_s0) (p3 := v18_298) PP rfl rfl (rfl : (12 : Int32).toInt = 12) (by decide) (by decide) hWj hz36
  show GoK p e below _ T36 (mkF m 634 #[.val (.long q0), .second, .val (.int p1), .val (.int p2), .val (.int p3), .val (.ref b1), .val (.long l6), .second, .val (.int d8), .val (.int v9_162), .val (.int m178_s0), .val (.int v11_186), .val (.int m202_s0), .val (.int v13_210), .val (.int v14_219), .val (.int m234_s0), .val (.int v16_248), .val (.int v17_262), .val (.int v18_298), .val (.int m314_s0), .val (.ref b21), .val (.int z35), .unset, .unset, .unset, .unset, .unset, .unset, .unset, .unset, .unset, .unset, .unset, .unset, .unset, .unset, .unset, .unset, .unset, .unset, .unset, .unset, .unset, .unset, .unset, .unset] [.int z36])
  refine go_istore (pc' := 636) (L' := #[.val (.long q0), .second, .val (.int p1), .val (.int p2), .val (.int p3), .val (.ref b1), .val (.long l6), .second, .val (.int d8), .val (.int v9_162), .val (.int m178_s0), .val (.int v11_186), .val (.int m202_s0), .val (.int v13_210), .val (.int v14_219), .val (.int m234_s0), .val (.int v16_248), .val (.int v17_262), .val (.int v18_298), .val (.int m314_s0), .val (.ref b21), .val (.int z36), .unset, .unset, .unset, .unset, .unset, .unset, .unset, .unset, .unset, .unset, .unset, .unset, .unset, .unset, .unset, .unset, .unset, .unset, .unset, .unset, .unset, .unset, .unset, .unset]) X36 hx (hb hby at_634) rfl rfl ?_
  refine go_aload (pc' := 638) X36 hx (hb hby at_636) rfl rfl ?_
  refine go_iload (pc' := 640) X36 hx (hb hby at_638) rfl rfl ?_
  refine go_bipush (pc' := 642) (v := 13) X36 hx (hb hby at_640) rfl rfl ?_
  refine go_iload (pc' := 644) X36 hx (hb hby at_642) rfl rfl ?_
  refine go_iload (pc' := 646) X36 hx (hb hby at_644) rfl rfl ?_
  refine go_iload (pc' := 648) X36 hx (hb hby at_646) rfl rfl ?_
  refine go_lload (pc' := 650) X36 hx (hb hby at_648) rfl rfl ?_
  refine go_aload (pc' := 652) X36 hx (hb hby at_650) rfl rfl ?_
  obtain ⟨pb0, pb1, pb2⟩ := own_prem (sc := sc) (ec := ec) (xc := xc) (xs := xs) (e := v9_162.toInt) (p4 := m314_s0) (p3 := v18_298) (p5 := d8) PP rfl rfl (rfl : (13 : Int32).toInt = 13) (by decide) (by decide) hWj rfl hd.1 hd.2 hl.1 hl.2
  refine go_callS (pc' := 655) (W := 0) (cells' := 2) (slots' := 45) (rm := ({ frames := 0, cells := 0, slots := 0, locals := 0 } : Room)) (aL := [.ref b21, .int z36, .int (13 : Int32), .int v18_298, .int m314_s0, .int d8, .long l6, .ref b1]) (St := []) X36 hx hZ hown (by rw [hml]; rfl) (hw _ (List.mem_of_getElem? (i := 25) rfl)) (hw _ (List.mem_of_getElem? (i := 26) rfl)) (hw _ (List.mem_of_getElem? (i := 23) rfl)) (hw _ (List.mem_of_getElem? (i := 27) rfl)) (by decide) pd_5 rfl (ct_2 l Z a0 hw zs b21 z36 (13 : Int32) v18_298 m314_s0 d8 l6 b1 _ (own_x s0 sc i1 i2 i3 (own_N v14_219.toInt d8.toInt l6.toInt) ec xs xc v9_162.toInt) _ A_b21 A_b1 ne_b1_b21 g_b21 hag pb0 pb1 (by decide) pb2) (hb hby at_652) rfl (by decide) (Nat.le_of_eq rfl) (by decide) (by decide) (by decide) rfl rfl (fun T37 h37 v37 X37 Q37 => ?_) rfl
  obtain ⟨z37, rfl, Kc37, ⟨f37, A_b21, hag⟩, hz37⟩ := Q37
  have A_b1 := A_b1.keep Kc37 (ninS ne_b1_b21 nin0)
  have zs := Nat.le_trans zs Kc37.1
  have hWj : z37.toInt = own_w s0 v18_298.toInt m314_s0.toInt 14 := own_nxt (p4 := m314_s0) (p3 := v18_298) PP rfl rfl (rfl : (13 : Int32).toInt = 13) (by decide) (by decide) hWj hz37
  show GoK p e below _ T37 (mkF m 655 #[.val (.long q0), .second, .val (.int p1), .val (.int p2), .val (.int p3), .val (.ref b1), .val (.long l6), .second, .val (.int d8), .val (.int v9_162), .val (.int m178_s0), .val (.int v11_186), .val (.int m202_s0), .val (.int v13_210), .val (.int v14_219), .val (.int m234_s0), .val (.int v16_248), .val (.int v17_262), .val (.int v18_298), .val (.int m314_s0), .val (.ref b21), .val (.int z36), .unset, .unset, .unset, .unset, .unset, .unset, .unset, .unset, .unset, .unset, .unset, .unset, .unset, .unset, .unset, .unset, .unset, .unset, .unset, .unset, .unset, .unset, .unset, .unset] [.int z37])
  refine go_istore (pc' := 657) (L' := #[.val (.long q0), .second, .val (.int p1), .val (.int p2), .val (.int p3), .val (.ref b1), .val (.long l6), .second, .val (.int d8), .val (.int v9_162), .val (.int m178_s0), .val (.int v11_186), .val (.int m202_s0), .val (.int v13_210), .val (.int v14_219), .val (.int m234_s0), .val (.int v16_248), .val (.int v17_262), .val (.int v18_298), .val (.int m314_s0), .val (.ref b21), .val (.int z37), .unset, .unset, .unset, .unset, .unset, .unset, .unset, .unset, .unset, .unset, .unset, .unset, .unset, .unset, .unset, .unset, .unset, .unset, .unset, .unset, .unset, .unset, .unset, .unset]) X37 hx (hb hby at_655) rfl rfl ?_
  refine go_aload (pc' := 659) X37 hx (hb hby at_657) rfl rfl ?_
  refine go_iload (pc' := 661) X37 hx (hb hby at_659) rfl rfl ?_
  refine go_bipush (pc' := 663) (v := 14) X37 hx (hb hby at_661) rfl rfl ?_
  refine go_iload (pc' := 665) X37 hx (hb hby at_663) rfl rfl ?_
  refine go_iload (pc' := 667) X37 hx (hb hby at_665) rfl rfl ?_
  refine go_iload (pc' := 669) X37 hx (hb hby at_667) rfl rfl ?_
  refine go_lload (pc' := 671) X37 hx (hb hby at_669) rfl rfl ?_
  refine go_aload (pc' := 673) X37 hx (hb hby at_671) rfl rfl ?_
  obtain ⟨pb0, pb1, pb2⟩ := own_prem (sc := sc) (ec := ec) (xc := xc) (xs := xs) (e := v9_162.toInt) (p4 := m314_s0) (p3 := v18_298) (p5 := d8) PP rfl rfl (rfl : (14 : Int32).toInt = 14) (by decide) (by decide) hWj rfl hd.1 hd.2 hl.1 hl.2
  refine go_callS (pc' := 676) (W := 0) (cells' := 2) (slots' := 45) (rm := ({ frames := 0, cells := 0, slots := 0, locals := 0 } : Room)) (aL := [.ref b21, .int z37, .int (14 : Int32), .int v18_298, .int m314_s0, .int d8, .long l6, .ref b1]) (St := []) X37 hx hZ hown (by rw [hml]; rfl) (hw _ (List.mem_of_getElem? (i := 25) rfl)) (hw _ (List.mem_of_getElem? (i := 26) rfl)) (hw _ (List.mem_of_getElem? (i := 23) rfl)) (hw _ (List.mem_of_getElem? (i := 27) rfl)) (by decide) pd_5 rfl (ct_2 l Z a0 hw zs b21 z37 (14 : Int32) v18_298 m314_s0 d8 l6 b1 _ (own_x s0 sc i1 i2 i3 (own_N v14_219.toInt d8.toInt l6.toInt) ec xs xc v9_162.toInt) _ A_b21 A_b1 ne_b1_b21 g_b21 hag pb0 pb1 (by decide) pb2) (hb hby at_673) rfl (by decide) (Nat.le_of_eq rfl) (by decide) (by decide) (by decide) rfl rfl (fun T38 h38 v38 X38 Q38 => ?_) rfl
  obtain ⟨z38, rfl, Kc38, ⟨f38, A_b21, hag⟩, hz38⟩ := Q38
  have A_b1 := A_b1.keep Kc38 (ninS ne_b1_b21 nin0)
  have zs := Nat.le_trans zs Kc38.1
  have hWj : z38.toInt = own_w s0 v18_298.toInt m314_s0.toInt 15 := own_nxt (p4 := m314_s0) (p3 := v18_298) PP rfl rfl (rfl : (14 : Int32).toInt = 14) (by decide) (by decide) hWj hz38
  show GoK p e below _ T38 (mkF m 676 #[.val (.long q0), .second, .val (.int p1), .val (.int p2), .val (.int p3), .val (.ref b1), .val (.long l6), .second, .val (.int d8), .val (.int v9_162), .val (.int m178_s0), .val (.int v11_186), .val (.int m202_s0), .val (.int v13_210), .val (.int v14_219), .val (.int m234_s0), .val (.int v16_248), .val (.int v17_262), .val (.int v18_298), .val (.int m314_s0), .val (.ref b21), .val (.int z37), .unset, .unset, .unset, .unset, .unset, .unset, .unset, .unset, .unset, .unset, .unset, .unset, .unset, .unset, .unset, .unset, .unset, .unset, .unset, .unset, .unset, .unset, .unset, .unset] [.int z38])
  refine go_istore (pc' := 678) (L' := #[.val (.long q0), .second, .val (.int p1), .val (.int p2), .val (.int p3), .val (.ref b1), .val (.long l6), .second, .val (.int d8), .val (.int v9_162), .val (.int m178_s0), .val (.int v11_186), .val (.int m202_s0), .val (.int v13_210), .val (.int v14_219), .val (.int m234_s0), .val (.int v16_248), .val (.int v17_262), .val (.int v18_298), .val (.int m314_s0), .val (.ref b21), .val (.int z38), .unset, .unset, .unset, .unset, .unset, .unset, .unset, .unset, .unset, .unset, .unset, .unset, .unset, .unset, .unset, .unset, .unset, .unset, .unset, .unset, .unset, .unset, .unset, .unset]) X38 hx (hb hby at_676) rfl rfl ?_
  refine go_aload (pc' := 680) X38 hx (hb hby at_678) rfl rfl ?_
  refine go_iload (pc' := 682) X38 hx (hb hby at_680) rfl rfl ?_
  refine go_bipush (pc' := 684) (v := 15) X38 hx (hb hby at_682) rfl rfl ?_
  refine go_iload (pc' := 686) X38 hx (hb hby at_684) rfl rfl ?_
  refine go_iload (pc' := 688) X38 hx (hb hby at_686) rfl rfl ?_
  refine go_iload (pc' := 690) X38 hx (hb hby at_688) rfl rfl ?_
  refine go_lload (pc' := 692) X38 hx (hb hby at_690) rfl rfl ?_
  refine go_aload (pc' := 694) X38 hx (hb hby at_692) rfl rfl ?_
  obtain ⟨pb0, pb1, pb2⟩ := own_prem (sc := sc) (ec := ec) (xc := xc) (xs := xs) (e := v9_162.toInt) (p4 := m314_s0) (p3 := v18_298) (p5 := d8) PP rfl rfl (rfl : (15 : Int32).toInt = 15) (by decide) (by decide) hWj rfl hd.1 hd.2 hl.1 hl.2
  refine go_callS (pc' := 697) (W := 0) (cells' := 2) (slots' := 45) (rm := ({ frames := 0, cells := 0, slots := 0, locals := 0 } : Room)) (aL := [.ref b21, .int z38, .int (15 : Int32), .int v18_298, .int m314_s0, .int d8, .long l6, .ref b1]) (St := []) X38 hx hZ hown (by rw [hml]; rfl) (hw _ (List.mem_of_getElem? (i := 25) rfl)) (hw _ (List.mem_of_getElem? (i := 26) rfl)) (hw _ (List.mem_of_getElem? (i := 23) rfl)) (hw _ (List.mem_of_getElem? (i := 27) rfl)) (by decide) pd_5 rfl (ct_2 l Z a0 hw zs b21 z38 (15 : Int32) v18_298 m314_s0 d8 l6 b1 _ (own_x s0 sc i1 i2 i3 (own_N v14_219.toInt d8.toInt l6.toInt) ec xs xc v9_162.toInt) _ A_b21 A_b1 ne_b1_b21 g_b21 hag pb0 pb1 (by decide) pb2) (hb hby at_694) rfl (by decide) (Nat.le_of_eq rfl) (by decide) (by decide) (by decide) rfl rfl (fun T39 h39 v39 X39 Q39 => ?_) rfl
  obtain ⟨z39, rfl, Kc39, ⟨f39, A_b21, hag⟩, hz39⟩ := Q39
  have A_b1 := A_b1.keep Kc39 (ninS ne_b1_b21 nin0)
  have zs := Nat.le_trans zs Kc39.1
  have hWj : z39.toInt = own_w s0 v18_298.toInt m314_s0.toInt 16 := own_nxt (p4 := m314_s0) (p3 := v18_298) PP rfl rfl (rfl : (15 : Int32).toInt = 15) (by decide) (by decide) hWj hz39
  show GoK p e below _ T39 (mkF m 697 #[.val (.long q0), .second, .val (.int p1), .val (.int p2), .val (.int p3), .val (.ref b1), .val (.long l6), .second, .val (.int d8), .val (.int v9_162), .val (.int m178_s0), .val (.int v11_186), .val (.int m202_s0), .val (.int v13_210), .val (.int v14_219), .val (.int m234_s0), .val (.int v16_248), .val (.int v17_262), .val (.int v18_298), .val (.int m314_s0), .val (.ref b21), .val (.int z38), .unset, .unset, .unset, .unset, .unset, .unset, .unset, .unset, .unset, .unset, .unset, .unset, .unset, .unset, .unset, .unset, .unset, .unset, .unset, .unset, .unset, .unset, .unset, .unset] [.int z39])
  refine go_istore (pc' := 699) (L' := #[.val (.long q0), .second, .val (.int p1), .val (.int p2), .val (.int p3), .val (.ref b1), .val (.long l6), .second, .val (.int d8), .val (.int v9_162), .val (.int m178_s0), .val (.int v11_186), .val (.int m202_s0), .val (.int v13_210), .val (.int v14_219), .val (.int m234_s0), .val (.int v16_248), .val (.int v17_262), .val (.int v18_298), .val (.int m314_s0), .val (.ref b21), .val (.int z39), .unset, .unset, .unset, .unset, .unset, .unset, .unset, .unset, .unset, .unset, .unset, .unset, .unset, .unset, .unset, .unset, .unset, .unset, .unset, .unset, .unset, .unset, .unset, .unset]) X39 hx (hb hby at_697) rfl rfl ?_
  refine go_aload (pc' := 701) X39 hx (hb hby at_699) rfl rfl ?_
  refine go_iload (pc' := 703) X39 hx (hb hby at_701) rfl rfl ?_
  refine go_bipush (pc' := 705) (v := 16) X39 hx (hb hby at_703) rfl rfl ?_
  refine go_iload (pc' := 707) X39 hx (hb hby at_705) rfl rfl ?_
  refine go_iload (pc' := 709) X39 hx (hb hby at_707) rfl rfl ?_
  refine go_iload (pc' := 711) X39 hx (hb hby at_709) rfl rfl ?_
  refine go_lload (pc' := 713) X39 hx (hb hby at_711) rfl rfl ?_
  refine go_aload (pc' := 715) X39 hx (hb hby at_713) rfl rfl ?_
  obtain ⟨pb0, pb1, pb2⟩ := own_prem (sc := sc) (ec := ec) (xc := xc) (xs := xs) (e := v9_162.toInt) (p4 := m314_s0) (p3 := v18_298) (p5 := d8) PP rfl rfl (rfl : (16 : Int32).toInt = 16) (by decide) (by decide) hWj rfl hd.1 hd.2 hl.1 hl.2
  refine go_callS (pc' := 718) (W := 0) (cells' := 2) (slots' := 45) (rm := ({ frames := 0, cells := 0, slots := 0, locals := 0 } : Room)) (aL := [.ref b21, .int z39, .int (16 : Int32), .int v18_298, .int m314_s0, .int d8, .long l6, .ref b1]) (St := []) X39 hx hZ hown (by rw [hml]; rfl) (hw _ (List.mem_of_getElem? (i := 25) rfl)) (hw _ (List.mem_of_getElem? (i := 26) rfl)) (hw _ (List.mem_of_getElem? (i := 23) rfl)) (hw _ (List.mem_of_getElem? (i := 27) rfl)) (by decide) pd_5 rfl (ct_2 l Z a0 hw zs b21 z39 (16 : Int32) v18_298 m314_s0 d8 l6 b1 _ (own_x s0 sc i1 i2 i3 (own_N v14_219.toInt d8.toInt l6.toInt) ec xs xc v9_162.toInt) _ A_b21 A_b1 ne_b1_b21 g_b21 hag pb0 pb1 (by decide) pb2) (hb hby at_715) rfl (by decide) (Nat.le_of_eq rfl) (by decide) (by decide) (by decide) rfl rfl (fun T40 h40 v40 X40 Q40 => ?_) rfl
  obtain ⟨z40, rfl, Kc40, ⟨f40, A_b21, hag⟩, hz40⟩ := Q40
  have A_b1 := A_b1.keep Kc40 (ninS ne_b1_b21 nin0)
  have zs := Nat.le_trans zs Kc40.1
  have hWj : z40.toInt = own_w s0 v18_298.toInt m314_s0.toInt 17 := own_nxt (p4 := m314_s0) (p3 := v18_298) PP rfl rfl (rfl : (16 : Int32).toInt = 16) (by decide) (by decide) hWj hz40
  show GoK p e below _ T40 (mkF m 718 #[.val (.long q0), .second, .val (.int p1), .val (.int p2), .val (.int p3), .val (.ref b1), .val (.long l6), .second, .val (.int d8), .val (.int v9_162), .val (.int m178_s0), .val (.int v11_186), .val (.int m202_s0), .val (.int v13_210), .val (.int v14_219), .val (.int m234_s0), .val (.int v16_248), .val (.int v17_262), .val (.int v18_298), .val (.int m314_s0), .val (.ref b21), .val (.int z39), .unset, .unset, .unset, .unset, .unset, .unset, .unset, .unset, .unset, .unset, .unset, .unset, .unset, .unset, .unset, .unset, .unset, .unset, .unset, .unset, .unset, .unset, .unset, .unset] [.int z40])
  refine go_istore (pc' := 720) (L' := #[.val (.long q0), .second, .val (.int p1), .val (.int p2), .val (.int p3), .val (.ref b1), .val (.long l6), .second, .val (.int d8), .val (.int v9_162), .val (.int m178_s0), .val (.int v11_186), .val (.int m202_s0), .val (.int v13_210), .val (.int v14_219), .val (.int m234_s0), .val (.int v16_248), .val (.int v17_262), .val (.int v18_298), .val (.int m314_s0), .val (.ref b21), .val (.int z40), .unset, .unset, .unset, .unset, .unset, .unset, .unset, .unset, .unset, .unset, .unset, .unset, .unset, .unset, .unset, .unset, .unset, .unset, .unset, .unset, .unset, .unset, .unset, .unset]) X40 hx (hb hby at_718) rfl rfl ?_
  refine go_aload (pc' := 722) X40 hx (hb hby at_720) rfl rfl ?_
  refine go_iload (pc' := 724) X40 hx (hb hby at_722) rfl rfl ?_
  refine go_bipush (pc' := 726) (v := 17) X40 hx (hb hby at_724) rfl rfl ?_
  refine go_iload (pc' := 728) X40 hx (hb hby at_726) rfl rfl ?_
  refine go_iload (pc' := 730) X40 hx (hb hby at_728) rfl rfl ?_
  refine go_iload (pc' := 732) X40 hx (hb hby at_730) rfl rfl ?_
  refine go_lload (pc' := 734) X40 hx (hb hby at_732) rfl rfl ?_
  refine go_aload (pc' := 736) X40 hx (hb hby at_734) rfl rfl ?_
  obtain ⟨pb0, pb1, pb2⟩ := own_prem (sc := sc) (ec := ec) (xc := xc) (xs := xs) (e := v9_162.toInt) (p4 := m314_s0) (p3 := v18_298) (p5 := d8) PP rfl rfl (rfl : (17 : Int32).toInt = 17) (by decide) (by decide) hWj rfl hd.1 hd.2 hl.1 hl.2
  refine go_callS (pc' := 739) (W := 0) (cells' := 2) (slots' := 45) (rm := ({ frames := 0, cells := 0, slots := 0, locals := 0 } : Room)) (aL := [.ref b21, .int z40, .int (17 : Int32), .int v18_298, .int m314_s0, .int d8, .long l6, .ref b1]) (St := []) X40 hx hZ hown (by rw [hml]; rfl) (hw _ (List.mem_of_getElem? (i := 25) rfl)) (hw _ (List.mem_of_getElem? (i := 26) rfl)) (hw _ (List.mem_of_getElem? (i := 23) rfl)) (hw _ (List.mem_of_getElem? (i := 27) rfl)) (by decide) pd_5 rfl (ct_2 l Z a0 hw zs b21 z40 (17 : Int32) v18_298 m314_s0 d8 l6 b1 _ (own_x s0 sc i1 i2 i3 (own_N v14_219.toInt d8.toInt l6.toInt) ec xs xc v9_162.toInt) _ A_b21 A_b1 ne_b1_b21 g_b21 hag pb0 pb1 (by decide) pb2) (hb hby at_736) rfl (by decide) (Nat.le_of_eq rfl) (by decide) (by decide) (by decide) rfl rfl (fun T41 h41 v41 X41 Q41 => ?_) rfl
  obtain ⟨z41, rfl, Kc41, ⟨f41, A_b21, hag⟩, hz41⟩ := Q41
  have A_b1 := A_b1.keep Kc41 (ninS ne_b1_b21 nin0)
  have zs := Nat.le_trans zs Kc41.1
  have hWj : z41.toInt = own_w s0 v18_298.toInt m314_s0.toInt 18 := own_nxt (p4 := m314_s0) (p3 := v18_298) PP rfl rfl (rfl : (17 : Int32).toInt = 17) (by decide) (by decide) hWj hz41
  show GoK p e below _ T41 (mkF m 739 #[.val (.long q0), .second, .val (.int p1), .val (.int p2), .val (.int p3), .val (.ref b1), .val (.long l6), .second, .val (.int d8), .val (.int v9_162), .val (.int m178_s0), .val (.int v11_186), .val (.int m202_s0), .val (.int v13_210), .val (.int v14_219), .val (.int m234_s0), .val (.int v16_248), .val (.int v17_262), .val (.int v18_298), .val (.int m314_s0), .val (.ref b21), .val (.int z40), .unset, .unset, .unset, .unset, .unset, .unset, .unset, .unset, .unset, .unset, .unset, .unset, .unset, .unset, .unset, .unset, .unset, .unset, .unset, .unset, .unset, .unset, .unset, .unset] [.int z41])
  refine go_istore (pc' := 741) (L' := #[.val (.long q0), .second, .val (.int p1), .val (.int p2), .val (.int p3), .val (.ref b1), .val (.long l6), .second, .val (.int d8), .val (.int v9_162), .val (.int m178_s0), .val (.int v11_186), .val (.int m202_s0), .val (.int v13_210), .val (.int v14_219), .val (.int m234_s0), .val (.int v16_248), .val (.int v17_262), .val (.int v18_298), .val (.int m314_s0), .val (.ref b21), .val (.int z41), .unset, .unset, .unset, .unset, .unset, .unset, .unset, .unset, .unset, .unset, .unset, .unset, .unset, .unset, .unset, .unset, .unset, .unset, .unset, .unset, .unset, .unset, .unset, .unset]) X41 hx (hb hby at_739) rfl rfl ?_
  refine go_aload (pc' := 743) X41 hx (hb hby at_741) rfl rfl ?_
  refine go_iload (pc' := 745) X41 hx (hb hby at_743) rfl rfl ?_
  refine go_bipush (pc' := 747) (v := 18) X41 hx (hb hby at_745) rfl rfl ?_
  refine go_iload (pc' := 749) X41 hx (hb hby at_747) rfl rfl ?_
  refine go_iload (pc' := 751) X41 hx (hb hby at_749) rfl rfl ?_
  refine go_iload (pc' := 753) X41 hx (hb hby at_751) rfl rfl ?_
  refine go_lload (pc' := 755) X41 hx (hb hby at_753) rfl rfl ?_
  refine go_aload (pc' := 757) X41 hx (hb hby at_755) rfl rfl ?_
  obtain ⟨pb0, pb1, pb2⟩ := own_prem (sc := sc) (ec := ec) (xc := xc) (xs := xs) (e := v9_162.toInt) (p4 := m314_s0) (p3 := v18_298) (p5 := d8) PP rfl rfl (rfl : (18 : Int32).toInt = 18) (by decide) (by decide) hWj rfl hd.1 hd.2 hl.1 hl.2
  refine go_callS (pc' := 760) (W := 0) (cells' := 2) (slots' := 45) (rm := ({ frames := 0, cells := 0, slots := 0, locals := 0 } : Room)) (aL := [.ref b21, .int z41, .int (18 : Int32), .int v18_298, .int m314_s0, .int d8, .long l6, .ref b1]) (St := []) X41 hx hZ hown (by rw [hml]; rfl) (hw _ (List.mem_of_getElem? (i := 25) rfl)) (hw _ (List.mem_of_getElem? (i := 26) rfl)) (hw _ (List.mem_of_getElem? (i := 23) rfl)) (hw _ (List.mem_of_getElem? (i := 27) rfl)) (by decide) pd_5 rfl (ct_2 l Z a0 hw zs b21 z41 (18 : Int32) v18_298 m314_s0 d8 l6 b1 _ (own_x s0 sc i1 i2 i3 (own_N v14_219.toInt d8.toInt l6.toInt) ec xs xc v9_162.toInt) _ A_b21 A_b1 ne_b1_b21 g_b21 hag pb0 pb1 (by decide) pb2) (hb hby at_757) rfl (by decide) (Nat.le_of_eq rfl) (by decide) (by decide) (by decide) rfl rfl (fun T42 h42 v42 X42 Q42 => ?_) rfl
  obtain ⟨z42, rfl, Kc42, ⟨f42, A_b21, hag⟩, hz42⟩ := Q42
  have A_b1 := A_b1.keep Kc42 (ninS ne_b1_b21 nin0)
  have zs := Nat.le_trans zs Kc42.1
  have hWj : z42.toInt = own_w s0 v18_298.toInt m314_s0.toInt 19 := own_nxt (p4 := m314_s0) (p3 := v18_298) PP rfl rfl (rfl : (18 : Int32).toInt = 18) (by decide) (by decide) hWj hz42
  show GoK p e below _ T42 (mkF m 760 #[.val (.long q0), .second, .val (.int p1), .val (.int p2), .val (.int p3), .val (.ref b1), .val (.long l6), .second, .val (.int d8), .val (.int v9_162), .val (.int m178_s0), .val (.int v11_186), .val (.int m202_s0), .val (.int v13_210), .val (.int v14_219), .val (.int m234_s0), .val (.int v16_248), .val (.int v17_262), .val (.int v18_298), .val (.int m314_s0), .val (.ref b21), .val (.int z41), .unset, .unset, .unset, .unset, .unset, .unset, .unset, .unset, .unset, .unset, .unset, .unset, .unset, .unset, .unset, .unset, .unset, .unset, .unset, .unset, .unset, .unset, .unset, .unset] [.int z42])
  refine go_istore (pc' := 762) (L' := #[.val (.long q0), .second, .val (.int p1), .val (.int p2), .val (.int p3), .val (.ref b1), .val (.long l6), .second, .val (.int d8), .val (.int v9_162), .val (.int m178_s0), .val (.int v11_186), .val (.int m202_s0), .val (.int v13_210), .val (.int v14_219), .val (.int m234_s0), .val (.int v16_248), .val (.int v17_262), .val (.int v18_298), .val (.int m314_s0), .val (.ref b21), .val (.int z42), .unset, .unset, .unset, .unset, .unset, .unset, .unset, .unset, .unset, .unset, .unset, .unset, .unset, .unset, .unset, .unset, .unset, .unset, .unset, .unset, .unset, .unset, .unset, .unset]) X42 hx (hb hby at_760) rfl rfl ?_
  refine go_aload (pc' := 764) X42 hx (hb hby at_762) rfl rfl ?_
  refine go_iload (pc' := 766) X42 hx (hb hby at_764) rfl rfl ?_
  refine go_bipush (pc' := 768) (v := 19) X42 hx (hb hby at_766) rfl rfl ?_
  refine go_iload (pc' := 770) X42 hx (hb hby at_768) rfl rfl ?_
  refine go_iload (pc' := 772) X42 hx (hb hby at_770) rfl rfl ?_
  refine go_iload (pc' := 774) X42 hx (hb hby at_772) rfl rfl ?_
  refine go_lload (pc' := 776) X42 hx (hb hby at_774) rfl rfl ?_
  refine go_aload (pc' := 778) X42 hx (hb hby at_776) rfl rfl ?_
  obtain ⟨pb0, pb1, pb2⟩ := own_prem (sc := sc) (ec := ec) (xc := xc) (xs := xs) (e := v9_162.toInt) (p4 := m314_s0) (p3 := v18_298) (p5 := d8) PP rfl rfl (rfl : (19 : Int32).toInt = 19) (by decide) (by decide) hWj rfl hd.1 hd.2 hl.1 hl.2
  refine go_callS (pc' := 781) (W := 0) (cells' := 2) (slots' := 45) (rm := ({ frames := 0, cells := 0, slots := 0, locals := 0 } : Room)) (aL := [.ref b21, .int z42, .int (19 : Int32), .int v18_298, .int m314_s0, .int d8, .long l6, .ref b1]) (St := []) X42 hx hZ hown (by rw [hml]; rfl) (hw _ (List.mem_of_getElem? (i := 25) rfl)) (hw _ (List.mem_of_getElem? (i := 26) rfl)) (hw _ (List.mem_of_getElem? (i := 23) rfl)) (hw _ (List.mem_of_getElem? (i := 27) rfl)) (by decide) pd_5 rfl (ct_2 l Z a0 hw zs b21 z42 (19 : Int32) v18_298 m314_s0 d8 l6 b1 _ (own_x s0 sc i1 i2 i3 (own_N v14_219.toInt d8.toInt l6.toInt) ec xs xc v9_162.toInt) _ A_b21 A_b1 ne_b1_b21 g_b21 hag pb0 pb1 (by decide) pb2) (hb hby at_778) rfl (by decide) (Nat.le_of_eq rfl) (by decide) (by decide) (by decide) rfl rfl (fun T43 h43 v43 X43 Q43 => ?_) rfl
  obtain ⟨z43, rfl, Kc43, ⟨f43, A_b21, hag⟩, hz43⟩ := Q43
  have A_b1 := A_b1.keep Kc43 (ninS ne_b1_b21 nin0)
  have zs := Nat.le_trans zs Kc43.1
  have hWj : z43.toInt = own_w s0 v18_298.toInt m314_s0.toInt 20 := own_nxt (p4 := m314_s0) (p3 := v18_298) PP rfl rfl (rfl : (19 : Int32).toInt = 19) (by decide) (by decide) hWj hz43
  show GoK p e below _ T43 (mkF m 781 #[.val (.long q0), .second, .val (.int p1), .val (.int p2), .val (.int p3), .val (.ref b1), .val (.long l6), .second, .val (.int d8), .val (.int v9_162), .val (.int m178_s0), .val (.int v11_186), .val (.int m202_s0), .val (.int v13_210), .val (.int v14_219), .val (.int m234_s0), .val (.int v16_248), .val (.int v17_262), .val (.int v18_298), .val (.int m314_s0), .val (.ref b21), .val (.int z42), .unset, .unset, .unset, .unset, .unset, .unset, .unset, .unset, .unset, .unset, .unset, .unset, .unset, .unset, .unset, .unset, .unset, .unset, .unset, .unset, .unset, .unset, .unset, .unset] [.int z43])
  refine go_istore (pc' := 783) (L' := #[.val (.long q0), .second, .val (.int p1), .val (.int p2), .val (.int p3), .val (.ref b1), .val (.long l6), .second, .val (.int d8), .val (.int v9_162), .val (.int m178_s0), .val (.int v11_186), .val (.int m202_s0), .val (.int v13_210), .val (.int v14_219), .val (.int m234_s0), .val (.int v16_248), .val (.int v17_262), .val (.int v18_298), .val (.int m314_s0), .val (.ref b21), .val (.int z43), .unset, .unset, .unset, .unset, .unset, .unset, .unset, .unset, .unset, .unset, .unset, .unset, .unset, .unset, .unset, .unset, .unset, .unset, .unset, .unset, .unset, .unset, .unset, .unset]) X43 hx (hb hby at_781) rfl rfl ?_
  refine go_aload (pc' := 785) X43 hx (hb hby at_783) rfl rfl ?_
  refine go_iload (pc' := 787) X43 hx (hb hby at_785) rfl rfl ?_
  refine go_iload (pc' := 789) X43 hx (hb hby at_787) rfl rfl ?_
  refine go_iload (pc' := 791) X43 hx (hb hby at_789) rfl rfl ?_
  suffices J801 : ∀ (m801_s0 : Int32), ((m178_s0 = (0 : Int32) ∧ m801_s0 = (101 : Int32)) ∨ (¬ m178_s0 = (0 : Int32) ∧ m801_s0 = (69 : Int32))) → GoK p e below (DoneK s below n0 room_1.cells room_1.slots (QI (fun z _ => z = 1))) T43 (mkF m 801 #[.val (.long q0), .second, .val (.int p1), .val (.int p2), .val (.int p3), .val (.ref b1), .val (.long l6), .second, .val (.int d8), .val (.int v9_162), .val (.int m178_s0), .val (.int v11_186), .val (.int m202_s0), .val (.int v13_210), .val (.int v14_219), .val (.int m234_s0), .val (.int v16_248), .val (.int v17_262), .val (.int v18_298), .val (.int m314_s0), .val (.ref b21), .val (.int z43), .unset, .unset, .unset, .unset, .unset, .unset, .unset, .unset, .unset, .unset, .unset, .unset, .unset, .unset, .unset, .unset, .unset, .unset, .unset, .unset, .unset, .unset, .unset, .unset] [.int m801_s0, .int m202_s0, .int z43, .ref b21]) by
    refine go_ifeq (pc' := 794) (pcT := 799) X43 hx (hb hby at_791) rfl (by decide) (by decide) (fun c791 => ?_) (fun c791 => ?_)
    · refine go_bipush (pc' := 801) (v := 101) X43 hx (hb hby at_799) rfl rfl ?_
      exact J801 _  (Or.inl ⟨c791, rfl⟩)
    · refine go_bipush (pc' := 796) (v := 69) X43 hx (hb hby at_794) rfl rfl ?_
      refine go_goto (pc' := 801) X43 hx (hb hby at_796) (by decide) (by decide) ?_
      exact J801 _  (Or.inr ⟨c791, rfl⟩)
  intro m801_s0 j801
  have hE : z43.toInt = i3 := by rw [hWj, own_w20 PP]
  obtain ⟨pb0, pb1⟩ := own_pc (N := (own_N v14_219.toInt d8.toInt l6.toInt)) (sc := sc) (e := v9_162.toInt) (on := m202_s0) PP EX hE j801
  refine go_callS (pc' := 804) (W := 0) (cells' := 2) (slots' := 45) (rm := ({ frames := 0, cells := 0, slots := 0, locals := 0 } : Room)) (aL := [.ref b21, .int z43, .int m202_s0, .int m801_s0]) (St := []) X43 hx hZ hown (by rw [hml]; rfl) (hw _ (List.mem_of_getElem? (i := 21) rfl)) (hw _ (List.mem_of_getElem? (i := 22) rfl)) (hw _ (List.mem_of_getElem? (i := 23) rfl)) (hw _ (List.mem_of_getElem? (i := 24) rfl)) (by decide) pd_4 rfl (ct_1 l Z a0 hw zs b21 z43 m202_s0 m801_s0 _ (own_x s0 sc i1 i2 i3 (own_N v14_219.toInt d8.toInt l6.toInt) ec xs xc v9_162.toInt) A_b21 g_b21 hag pb0 pb1) (hb hby at_801) rfl (by decide) (Nat.le_of_eq rfl) (by decide) (by decide) (by decide) rfl rfl (fun T44 h44 v44 X44 Q44 => ?_) rfl
  obtain ⟨z44, rfl, Kc44, ⟨f44, A_b21, hag⟩, hz44⟩ := Q44
  have A_b1 := A_b1.keep Kc44 (ninS ne_b1_b21 nin0)
  have zs := Nat.le_trans zs Kc44.1
  show GoK p e below _ T44 (mkF m 804 #[.val (.long q0), .second, .val (.int p1), .val (.int p2), .val (.int p3), .val (.ref b1), .val (.long l6), .second, .val (.int d8), .val (.int v9_162), .val (.int m178_s0), .val (.int v11_186), .val (.int m202_s0), .val (.int v13_210), .val (.int v14_219), .val (.int m234_s0), .val (.int v16_248), .val (.int v17_262), .val (.int v18_298), .val (.int m314_s0), .val (.ref b21), .val (.int z43), .unset, .unset, .unset, .unset, .unset, .unset, .unset, .unset, .unset, .unset, .unset, .unset, .unset, .unset, .unset, .unset, .unset, .unset, .unset, .unset, .unset, .unset, .unset, .unset] [.int z44])
  refine go_istore (pc' := 806) (L' := #[.val (.long q0), .second, .val (.int p1), .val (.int p2), .val (.int p3), .val (.ref b1), .val (.long l6), .second, .val (.int d8), .val (.int v9_162), .val (.int m178_s0), .val (.int v11_186), .val (.int m202_s0), .val (.int v13_210), .val (.int v14_219), .val (.int m234_s0), .val (.int v16_248), .val (.int v17_262), .val (.int v18_298), .val (.int m314_s0), .val (.ref b21), .val (.int z44), .unset, .unset, .unset, .unset, .unset, .unset, .unset, .unset, .unset, .unset, .unset, .unset, .unset, .unset, .unset, .unset, .unset, .unset, .unset, .unset, .unset, .unset, .unset, .unset]) X44 hx (hb hby at_804) rfl rfl ?_
  refine go_aload (pc' := 808) X44 hx (hb hby at_806) rfl rfl ?_
  refine go_iload (pc' := 810) X44 hx (hb hby at_808) rfl rfl ?_
  refine go_iload (pc' := 812) X44 hx (hb hby at_810) rfl rfl ?_
  suffices J826 : ∀ (m826_s0 : Int32), ((m202_s0 = (0 : Int32) ∧ m826_s0 = (0 : Int32)) ∨ (¬ m202_s0 = (0 : Int32) ∧ ¬ v11_186 = (1 : Int32) ∧ m826_s0 = (0 : Int32)) ∨ (¬ m202_s0 = (0 : Int32) ∧ v11_186 = (1 : Int32) ∧ m826_s0 = (1 : Int32))) → GoK p e below (DoneK s below n0 room_1.cells room_1.slots (QI (fun z _ => z = 1))) T44 (mkF m 826 #[.val (.long q0), .second, .val (.int p1), .val (.int p2), .val (.int p3), .val (.ref b1), .val (.long l6), .second, .val (.int d8), .val (.int v9_162), .val (.int m178_s0), .val (.int v11_186), .val (.int m202_s0), .val (.int v13_210), .val (.int v14_219), .val (.int m234_s0), .val (.int v16_248), .val (.int v17_262), .val (.int v18_298), .val (.int m314_s0), .val (.ref b21), .val (.int z44), .unset, .unset, .unset, .unset, .unset, .unset, .unset, .unset, .unset, .unset, .unset, .unset, .unset, .unset, .unset, .unset, .unset, .unset, .unset, .unset, .unset, .unset, .unset, .unset] [.int m826_s0, .int z44, .ref b21]) by
    refine go_ifeq (pc' := 815) (pcT := 825) X44 hx (hb hby at_812) rfl (by decide) (by decide) (fun c812 => ?_) (fun c812 => ?_)
    · refine go_iconst (pc' := 826) (v := 0) X44 hx (hb hby at_825) rfl rfl ?_
      exact J826 _  (Or.inl ⟨c812, rfl⟩)
    · refine go_iload (pc' := 817) X44 hx (hb hby at_815) rfl rfl ?_
      refine go_iconst (pc' := 818) (v := 1) X44 hx (hb hby at_817) rfl rfl ?_
      refine go_icmpne (pc' := 821) (pcT := 825) X44 hx (hb hby at_818) rfl (by decide) (by decide) (fun c818_f => ?_) (fun c818_f => ?_)
      · refine go_iconst (pc' := 826) (v := 0) X44 hx (hb hby at_825) rfl rfl ?_
        exact J826 _  (Or.inr (Or.inl ⟨c812, c818_f, rfl⟩))
      · refine go_iconst (pc' := 822) (v := 1) X44 hx (hb hby at_821) rfl rfl ?_
        refine go_goto (pc' := 826) X44 hx (hb hby at_822) (by decide) (by decide) ?_
        exact J826 _  (Or.inr (Or.inr ⟨c812, c818_f, rfl⟩))
  intro m826_s0 j826
  refine go_bipush (pc' := 828) (v := 43) X44 hx (hb hby at_826) rfl rfl ?_
  obtain ⟨pb0, pb1⟩ := own_pd (N := (own_N v14_219.toInt d8.toInt l6.toInt)) (sc := sc) (e := v9_162.toInt) PP EX hE hz44 j826
  refine go_callS (pc' := 831) (W := 0) (cells' := 2) (slots' := 45) (rm := ({ frames := 0, cells := 0, slots := 0, locals := 0 } : Room)) (aL := [.ref b21, .int z44, .int m826_s0, .int (43 : Int32)]) (St := []) X44 hx hZ hown (by rw [hml]; rfl) (hw _ (List.mem_of_getElem? (i := 21) rfl)) (hw _ (List.mem_of_getElem? (i := 22) rfl)) (hw _ (List.mem_of_getElem? (i := 23) rfl)) (hw _ (List.mem_of_getElem? (i := 24) rfl)) (by decide) pd_4 rfl (ct_1 l Z a0 hw zs b21 z44 m826_s0 (43 : Int32) _ (own_x s0 sc i1 i2 i3 (own_N v14_219.toInt d8.toInt l6.toInt) ec xs xc v9_162.toInt) A_b21 g_b21 hag pb0 pb1) (hb hby at_828) rfl (by decide) (Nat.le_of_eq rfl) (by decide) (by decide) (by decide) rfl rfl (fun T45 h45 v45 X45 Q45 => ?_) rfl
  obtain ⟨z45, rfl, Kc45, ⟨f45, A_b21, hag⟩, hz45⟩ := Q45
  have A_b1 := A_b1.keep Kc45 (ninS ne_b1_b21 nin0)
  have zs := Nat.le_trans zs Kc45.1
  show GoK p e below _ T45 (mkF m 831 #[.val (.long q0), .second, .val (.int p1), .val (.int p2), .val (.int p3), .val (.ref b1), .val (.long l6), .second, .val (.int d8), .val (.int v9_162), .val (.int m178_s0), .val (.int v11_186), .val (.int m202_s0), .val (.int v13_210), .val (.int v14_219), .val (.int m234_s0), .val (.int v16_248), .val (.int v17_262), .val (.int v18_298), .val (.int m314_s0), .val (.ref b21), .val (.int z44), .unset, .unset, .unset, .unset, .unset, .unset, .unset, .unset, .unset, .unset, .unset, .unset, .unset, .unset, .unset, .unset, .unset, .unset, .unset, .unset, .unset, .unset, .unset, .unset] [.int z45])
  refine go_istore (pc' := 833) (L' := #[.val (.long q0), .second, .val (.int p1), .val (.int p2), .val (.int p3), .val (.ref b1), .val (.long l6), .second, .val (.int d8), .val (.int v9_162), .val (.int m178_s0), .val (.int v11_186), .val (.int m202_s0), .val (.int v13_210), .val (.int v14_219), .val (.int m234_s0), .val (.int v16_248), .val (.int v17_262), .val (.int v18_298), .val (.int m314_s0), .val (.ref b21), .val (.int z45), .unset, .unset, .unset, .unset, .unset, .unset, .unset, .unset, .unset, .unset, .unset, .unset, .unset, .unset, .unset, .unset, .unset, .unset, .unset, .unset, .unset, .unset, .unset, .unset]) X45 hx (hb hby at_831) rfl rfl ?_
  refine go_aload (pc' := 835) X45 hx (hb hby at_833) rfl rfl ?_
  refine go_iload (pc' := 837) X45 hx (hb hby at_835) rfl rfl ?_
  refine go_iload (pc' := 839) X45 hx (hb hby at_837) rfl rfl ?_
  suffices J853 : ∀ (m853_s0 : Int32), ((m202_s0 = (0 : Int32) ∧ m853_s0 = (0 : Int32)) ∨ (¬ m202_s0 = (0 : Int32) ∧ ¬ v11_186 = (2 : Int32) ∧ m853_s0 = (0 : Int32)) ∨ (¬ m202_s0 = (0 : Int32) ∧ v11_186 = (2 : Int32) ∧ m853_s0 = (1 : Int32))) → GoK p e below (DoneK s below n0 room_1.cells room_1.slots (QI (fun z _ => z = 1))) T45 (mkF m 853 #[.val (.long q0), .second, .val (.int p1), .val (.int p2), .val (.int p3), .val (.ref b1), .val (.long l6), .second, .val (.int d8), .val (.int v9_162), .val (.int m178_s0), .val (.int v11_186), .val (.int m202_s0), .val (.int v13_210), .val (.int v14_219), .val (.int m234_s0), .val (.int v16_248), .val (.int v17_262), .val (.int v18_298), .val (.int m314_s0), .val (.ref b21), .val (.int z45), .unset, .unset, .unset, .unset, .unset, .unset, .unset, .unset, .unset, .unset, .unset, .unset, .unset, .unset, .unset, .unset, .unset, .unset, .unset, .unset, .unset, .unset, .unset, .unset] [.int m853_s0, .int z45, .ref b21]) by
    refine go_ifeq (pc' := 842) (pcT := 852) X45 hx (hb hby at_839) rfl (by decide) (by decide) (fun c839 => ?_) (fun c839 => ?_)
    · refine go_iconst (pc' := 853) (v := 0) X45 hx (hb hby at_852) rfl rfl ?_
      exact J853 _  (Or.inl ⟨c839, rfl⟩)
    · refine go_iload (pc' := 844) X45 hx (hb hby at_842) rfl rfl ?_
      refine go_iconst (pc' := 845) (v := 2) X45 hx (hb hby at_844) rfl rfl ?_
      refine go_icmpne (pc' := 848) (pcT := 852) X45 hx (hb hby at_845) rfl (by decide) (by decide) (fun c845_f => ?_) (fun c845_f => ?_)
      · refine go_iconst (pc' := 853) (v := 0) X45 hx (hb hby at_852) rfl rfl ?_
        exact J853 _  (Or.inr (Or.inl ⟨c839, c845_f, rfl⟩))
      · refine go_iconst (pc' := 849) (v := 1) X45 hx (hb hby at_848) rfl rfl ?_
        refine go_goto (pc' := 853) X45 hx (hb hby at_849) (by decide) (by decide) ?_
        exact J853 _  (Or.inr (Or.inr ⟨c839, c845_f, rfl⟩))
  intro m853_s0 j853
  refine go_bipush (pc' := 855) (v := 45) X45 hx (hb hby at_853) rfl rfl ?_
  obtain ⟨pb0, pb1, pq⟩ := own_pe (N := (own_N v14_219.toInt d8.toInt l6.toInt)) (sc := sc) (e := v9_162.toInt) PP EX hE hz44 j826 hz45 j853
  refine go_callS (pc' := 858) (W := 0) (cells' := 2) (slots' := 45) (rm := ({ frames := 0, cells := 0, slots := 0, locals := 0 } : Room)) (aL := [.ref b21, .int z45, .int m853_s0, .int (45 : Int32)]) (St := []) X45 hx hZ hown (by rw [hml]; rfl) (hw _ (List.mem_of_getElem? (i := 21) rfl)) (hw _ (List.mem_of_getElem? (i := 22) rfl)) (hw _ (List.mem_of_getElem? (i := 23) rfl)) (hw _ (List.mem_of_getElem? (i := 24) rfl)) (by decide) pd_4 rfl (ct_1 l Z a0 hw zs b21 z45 m853_s0 (45 : Int32) _ (own_x s0 sc i1 i2 i3 (own_N v14_219.toInt d8.toInt l6.toInt) ec xs xc v9_162.toInt) A_b21 g_b21 hag pb0 pb1) (hb hby at_855) rfl (by decide) (Nat.le_of_eq rfl) (by decide) (by decide) (by decide) rfl rfl (fun T46 h46 v46 X46 Q46 => ?_) rfl
  obtain ⟨z46, rfl, Kc46, ⟨f46, A_b21, hag⟩, hz46⟩ := Q46
  have A_b1 := A_b1.keep Kc46 (ninS ne_b1_b21 nin0)
  have zs := Nat.le_trans zs Kc46.1
  show GoK p e below _ T46 (mkF m 858 #[.val (.long q0), .second, .val (.int p1), .val (.int p2), .val (.int p3), .val (.ref b1), .val (.long l6), .second, .val (.int d8), .val (.int v9_162), .val (.int m178_s0), .val (.int v11_186), .val (.int m202_s0), .val (.int v13_210), .val (.int v14_219), .val (.int m234_s0), .val (.int v16_248), .val (.int v17_262), .val (.int v18_298), .val (.int m314_s0), .val (.ref b21), .val (.int z45), .unset, .unset, .unset, .unset, .unset, .unset, .unset, .unset, .unset, .unset, .unset, .unset, .unset, .unset, .unset, .unset, .unset, .unset, .unset, .unset, .unset, .unset, .unset, .unset] [.int z46])
  refine go_istore (pc' := 860) (L' := #[.val (.long q0), .second, .val (.int p1), .val (.int p2), .val (.int p3), .val (.ref b1), .val (.long l6), .second, .val (.int d8), .val (.int v9_162), .val (.int m178_s0), .val (.int v11_186), .val (.int m202_s0), .val (.int v13_210), .val (.int v14_219), .val (.int m234_s0), .val (.int v16_248), .val (.int v17_262), .val (.int v18_298), .val (.int m314_s0), .val (.ref b21), .val (.int z46), .unset, .unset, .unset, .unset, .unset, .unset, .unset, .unset, .unset, .unset, .unset, .unset, .unset, .unset, .unset, .unset, .unset, .unset, .unset, .unset, .unset, .unset, .unset, .unset]) X46 hx (hb hby at_858) rfl rfl ?_
  refine go_aload (pc' := 862) X46 hx (hb hby at_860) rfl rfl ?_
  refine go_iload (pc' := 864) X46 hx (hb hby at_862) rfl rfl ?_
  refine go_iload (pc' := 866) X46 hx (hb hby at_864) rfl rfl ?_
  refine go_bipush (pc' := 868) (v := 48) X46 hx (hb hby at_866) rfl rfl ?_
  refine go_iload (pc' := 870) X46 hx (hb hby at_868) rfl rfl ?_
  refine go_bipush (pc' := 872) (v := 10) X46 hx (hb hby at_870) rfl rfl ?_
  refine go_idiv (pc' := 873) X46 hx (hb hby at_872) rfl (by decide) ?_
  refine go_iadd (pc' := 874) X46 hx (hb hby at_873) rfl ?_
  obtain ⟨pb0, pb1⟩ := own_pf (N := (own_N v14_219.toInt d8.toInt l6.toInt)) (sc := sc)  PP EX he.1 he.2 pq hz46 (own_cd1 he.1 he.2)
  refine go_callS (pc' := 877) (W := 0) (cells' := 2) (slots' := 45) (rm := ({ frames := 0, cells := 0, slots := 0, locals := 0 } : Room)) (aL := [.ref b21, .int z46, .int m202_s0, .int ((48 : Int32) + (v9_162 / (10 : Int32)))]) (St := []) X46 hx hZ hown (by rw [hml]; rfl) (hw _ (List.mem_of_getElem? (i := 21) rfl)) (hw _ (List.mem_of_getElem? (i := 22) rfl)) (hw _ (List.mem_of_getElem? (i := 23) rfl)) (hw _ (List.mem_of_getElem? (i := 24) rfl)) (by decide) pd_4 rfl (ct_1 l Z a0 hw zs b21 z46 m202_s0 ((48 : Int32) + (v9_162 / (10 : Int32))) _ (own_x s0 sc i1 i2 i3 (own_N v14_219.toInt d8.toInt l6.toInt) ec xs xc v9_162.toInt) A_b21 g_b21 hag pb0 pb1) (hb hby at_874) rfl (by decide) (Nat.le_of_eq rfl) (by decide) (by decide) (by decide) rfl rfl (fun T47 h47 v47 X47 Q47 => ?_) rfl
  obtain ⟨z47, rfl, Kc47, ⟨f47, A_b21, hag⟩, hz47⟩ := Q47
  have A_b1 := A_b1.keep Kc47 (ninS ne_b1_b21 nin0)
  have zs := Nat.le_trans zs Kc47.1
  show GoK p e below _ T47 (mkF m 877 #[.val (.long q0), .second, .val (.int p1), .val (.int p2), .val (.int p3), .val (.ref b1), .val (.long l6), .second, .val (.int d8), .val (.int v9_162), .val (.int m178_s0), .val (.int v11_186), .val (.int m202_s0), .val (.int v13_210), .val (.int v14_219), .val (.int m234_s0), .val (.int v16_248), .val (.int v17_262), .val (.int v18_298), .val (.int m314_s0), .val (.ref b21), .val (.int z46), .unset, .unset, .unset, .unset, .unset, .unset, .unset, .unset, .unset, .unset, .unset, .unset, .unset, .unset, .unset, .unset, .unset, .unset, .unset, .unset, .unset, .unset, .unset, .unset] [.int z47])
  refine go_istore (pc' := 879) (L' := #[.val (.long q0), .second, .val (.int p1), .val (.int p2), .val (.int p3), .val (.ref b1), .val (.long l6), .second, .val (.int d8), .val (.int v9_162), .val (.int m178_s0), .val (.int v11_186), .val (.int m202_s0), .val (.int v13_210), .val (.int v14_219), .val (.int m234_s0), .val (.int v16_248), .val (.int v17_262), .val (.int v18_298), .val (.int m314_s0), .val (.ref b21), .val (.int z47), .unset, .unset, .unset, .unset, .unset, .unset, .unset, .unset, .unset, .unset, .unset, .unset, .unset, .unset, .unset, .unset, .unset, .unset, .unset, .unset, .unset, .unset, .unset, .unset]) X47 hx (hb hby at_877) rfl rfl ?_
  refine go_aload (pc' := 881) X47 hx (hb hby at_879) rfl rfl ?_
  refine go_iload (pc' := 883) X47 hx (hb hby at_881) rfl rfl ?_
  refine go_iload (pc' := 885) X47 hx (hb hby at_883) rfl rfl ?_
  refine go_bipush (pc' := 887) (v := 48) X47 hx (hb hby at_885) rfl rfl ?_
  refine go_iload (pc' := 889) X47 hx (hb hby at_887) rfl rfl ?_
  refine go_bipush (pc' := 891) (v := 10) X47 hx (hb hby at_889) rfl rfl ?_
  refine go_irem (pc' := 892) X47 hx (hb hby at_891) rfl (by decide) ?_
  refine go_iadd (pc' := 893) X47 hx (hb hby at_892) rfl ?_
  obtain ⟨pb0, pb1, pw⟩ := own_pg (N := (own_N v14_219.toInt d8.toInt l6.toInt)) (sc := sc)  PP EX he.1 he.2 pq hz46 hz47 (own_cm1 he.1 he.2)
  refine go_callS (pc' := 896) (W := 0) (cells' := 2) (slots' := 45) (rm := ({ frames := 0, cells := 0, slots := 0, locals := 0 } : Room)) (aL := [.ref b21, .int z47, .int m202_s0, .int ((48 : Int32) + (v9_162 % (10 : Int32)))]) (St := []) X47 hx hZ hown (by rw [hml]; rfl) (hw _ (List.mem_of_getElem? (i := 21) rfl)) (hw _ (List.mem_of_getElem? (i := 22) rfl)) (hw _ (List.mem_of_getElem? (i := 23) rfl)) (hw _ (List.mem_of_getElem? (i := 24) rfl)) (by decide) pd_4 rfl (ct_1 l Z a0 hw zs b21 z47 m202_s0 ((48 : Int32) + (v9_162 % (10 : Int32))) _ (own_x s0 sc i1 i2 i3 (own_N v14_219.toInt d8.toInt l6.toInt) ec xs xc v9_162.toInt) A_b21 g_b21 hag pb0 pb1) (hb hby at_893) rfl (by decide) (Nat.le_of_eq rfl) (by decide) (by decide) (by decide) rfl rfl (fun T48 h48 v48 X48 Q48 => ?_) rfl
  obtain ⟨z48, rfl, Kc48, ⟨f48, A_b21, hag⟩, hz48⟩ := Q48
  have A_b1 := A_b1.keep Kc48 (ninS ne_b1_b21 nin0)
  have zs := Nat.le_trans zs Kc48.1
  have hWW : z48.toInt = if m202_s0 = 0 then i3 else i3 + 3 + xs := hz48.trans pw
  show GoK p e below _ T48 (mkF m 896 #[.val (.long q0), .second, .val (.int p1), .val (.int p2), .val (.int p3), .val (.ref b1), .val (.long l6), .second, .val (.int d8), .val (.int v9_162), .val (.int m178_s0), .val (.int v11_186), .val (.int m202_s0), .val (.int v13_210), .val (.int v14_219), .val (.int m234_s0), .val (.int v16_248), .val (.int v17_262), .val (.int v18_298), .val (.int m314_s0), .val (.ref b21), .val (.int z47), .unset, .unset, .unset, .unset, .unset, .unset, .unset, .unset, .unset, .unset, .unset, .unset, .unset, .unset, .unset, .unset, .unset, .unset, .unset, .unset, .unset, .unset, .unset, .unset] [.int z48])
  refine go_istore (pc' := 898) (L' := #[.val (.long q0), .second, .val (.int p1), .val (.int p2), .val (.int p3), .val (.ref b1), .val (.long l6), .second, .val (.int d8), .val (.int v9_162), .val (.int m178_s0), .val (.int v11_186), .val (.int m202_s0), .val (.int v13_210), .val (.int v14_219), .val (.int m234_s0), .val (.int v16_248), .val (.int v17_262), .val (.int v18_298), .val (.int m314_s0), .val (.ref b21), .val (.int z48), .unset, .unset, .unset, .unset, .unset, .unset, .unset, .unset, .unset, .unset, .unset, .unset, .unset, .unset, .unset, .unset, .unset, .unset, .unset, .unset, .unset, .unset, .unset, .unset]) X48 hx (hb hby at_896) rfl rfl ?_
  refine go_new (pc' := 901) (cells' := 3) (slots' := 53) X48 hx hZ hown (hw _ (List.mem_of_getElem? (i := 28) rfl)) (hw _ (List.mem_of_getElem? (i := 29) rfl)) (hw _ (List.mem_of_getElem? (i := 30) rfl)) (hb hby at_898) rfl (by decide) (by decide) rfl rfl (fun T49 h49 b49 eb49 X49 E49 E_b49 Dv49 => ?_)
  have g_b49 : n0 ≤ b49 := by rw [eb49]; exact zs
  have ne_b1_b49 : b1 ≠ b49 := by rw [eb49]; exact Nat.ne_of_lt (A_b1.lt)
  have ne_b49_b1 := ne_b1_b49.symm
  have ne_b21_b49 : b21 ≠ b49 := by rw [eb49]; exact Nat.ne_of_lt (A_b21.lt)
  have ne_b49_b21 := ne_b21_b49.symm
  have A_b1 := A_b1.ext E49
  have A_b21 := A_b21.ext E49
  have zs := Nat.le_trans zs E49.1
  have F_b49_text : Fld Z h49 b49 "com/example/tracefold/tracefold/trace/DecimalText" "text" "[B" (.null) := Dv49 (Or.inl (hw _ (List.mem_of_getElem? (i := 52) rfl))) (ty := (.array .byte)) (by decide)
  have F_b49_sign : Fld Z h49 b49 "com/example/tracefold/tracefold/trace/DecimalText" "sign" "I" (.int (0 : Int32)) := Dv49 (Or.inl (hw _ (List.mem_of_getElem? (i := 54) rfl))) (ty := .int) (by decide)
  have F_b49_first : Fld Z h49 b49 "com/example/tracefold/tracefold/trace/DecimalText" "first" "I" (.int (0 : Int32)) := Dv49 (Or.inl (hw _ (List.mem_of_getElem? (i := 56) rfl))) (ty := .int) (by decide)
  have F_b49_end : Fld Z h49 b49 "com/example/tracefold/tracefold/trace/DecimalText" "end" "I" (.int (0 : Int32)) := Dv49 (Or.inl (hw _ (List.mem_of_getElem? (i := 58) rfl))) (ty := .int) (by decide)
  have F_b49_point : Fld Z h49 b49 "com/example/tracefold/tracefold/trace/DecimalText" "point" "I" (.int (0 : Int32)) := Dv49 (Or.inl (hw _ (List.mem_of_getElem? (i := 60) rfl))) (ty := .int) (by decide)
  have F_b49_exponent : Fld Z h49 b49 "com/example/tracefold/tracefold/trace/DecimalText" "exponent" "J" (.long (0 : Int64)) := Dv49 (Or.inl (hw _ (List.mem_of_getElem? (i := 62) rfl))) (ty := .long) (by decide)
  have F_b49_literal : Fld Z h49 b49 "com/example/tracefold/tracefold/trace/DecimalText" "literal" "Z" (.int (0 : Int32)) := Dv49 (Or.inl (hw _ (List.mem_of_getElem? (i := 69) rfl))) (ty := .boolean) (by decide)
  have F_b49_whole : Fld Z h49 b49 "com/example/tracefold/tracefold/trace/DecimalText" "whole" "J" (.long (0 : Int64)) := Dv49 (Or.inl (hw _ (List.mem_of_getElem? (i := 72) rfl))) (ty := .long) (by decide)
  refine go_dup (pc' := 902) X49 hx (hb hby at_901) rfl rfl ?_
  refine go_callC (pc' := 905) (W := 1) (cells' := 3) (slots' := 53) (rm := ({ frames := 1, cells := 0, slots := 0, locals := 12 } : Room)) (aL := []) (St := [.ref b49]) X49 hx hZ hown (by rw [hml]; rfl) rfl (hw _ (List.mem_of_getElem? (i := 31) rfl)) (hw _ (List.mem_of_getElem? (i := 32) rfl)) (hw _ (List.mem_of_getElem? (i := 30) rfl)) (hw _ (List.mem_of_getElem? (i := 33) rfl)) (by decide) pd_6 rfl (ct_3 l Z a0 hw zs b49) (hb hby at_902) rfl (by decide) (Nat.le_of_eq rfl) (by decide) (by decide) (by decide) rfl rfl (fun T50 h50 v50 X50 Q50 => ?_) rfl
  obtain ⟨rfl, eh50⟩ := Q50
  subst h50
  show GoK p e below _ T50 (mkF m 905 #[.val (.long q0), .second, .val (.int p1), .val (.int p2), .val (.int p3), .val (.ref b1), .val (.long l6), .second, .val (.int d8), .val (.int v9_162), .val (.int m178_s0), .val (.int v11_186), .val (.int m202_s0), .val (.int v13_210), .val (.int v14_219), .val (.int m234_s0), .val (.int v16_248), .val (.int v17_262), .val (.int v18_298), .val (.int m314_s0), .val (.ref b21), .val (.int z48), .unset, .unset, .unset, .unset, .unset, .unset, .unset, .unset, .unset, .unset, .unset, .unset, .unset, .unset, .unset, .unset, .unset, .unset, .unset, .unset, .unset, .unset, .unset, .unset] [.ref b49])
  refine go_astore (pc' := 907) (L' := #[.val (.long q0), .second, .val (.int p1), .val (.int p2), .val (.int p3), .val (.ref b1), .val (.long l6), .second, .val (.int d8), .val (.int v9_162), .val (.int m178_s0), .val (.int v11_186), .val (.int m202_s0), .val (.int v13_210), .val (.int v14_219), .val (.int m234_s0), .val (.int v16_248), .val (.int v17_262), .val (.int v18_298), .val (.int m314_s0), .val (.ref b21), .val (.int z48), .val (.ref b49), .unset, .unset, .unset, .unset, .unset, .unset, .unset, .unset, .unset, .unset, .unset, .unset, .unset, .unset, .unset, .unset, .unset, .unset, .unset, .unset, .unset, .unset, .unset]) X50 hx (hb hby at_905) rfl rfl ?_
  refine go_aload (pc' := 909) X50 hx (hb hby at_907) rfl rfl ?_
  refine go_aload (pc' := 911) X50 hx (hb hby at_909) rfl rfl ?_
  refine go_iconst (pc' := 912) (v := 0) X50 hx (hb hby at_911) rfl rfl ?_
  refine go_iload (pc' := 914) X50 hx (hb hby at_912) rfl rfl ?_
  obtain ⟨sgn, wr, sg1, sg2, wr1, wr2, wr3, hW26, U0', U1, U2, U4, U3, hnn, U3'⟩ := own_txt PP EX KD he.1 he.2 hWW hag (own_Nlt hn.1 (by omega) hd.1 hd.2 hl.1 hl.2)
  refine go_callV (pc' := 917) (W := 0) (cells' := 3) (slots' := 53) (rm := ({ frames := 2, cells := 0, slots := 0, locals := 40 } : Room)) (aL := [.ref b21, .int (0 : Int32), .int z48]) (St := []) X50 hx hZ hown (by rw [hml]; rfl) E_b49 (hw _ (List.mem_of_getElem? (i := 37) rfl)) (hw _ (List.mem_of_getElem? (i := 38) rfl)) (hw _ (List.mem_of_getElem? (i := 40) rfl)) (hw _ (List.mem_of_getElem? (i := 39) rfl)) (hw _ (List.mem_of_getElem? (i := 30) rfl)) (hw _ (List.mem_of_getElem? (i := 41) rfl)) (by decide) pd_7 rfl (ct_5 l Z a0 hw zs b49 b21 (0 : Int32) z48 _ _ _ _ _ _ _ _ E_b49 g_b49 F_b49_text F_b49_sign F_b49_first F_b49_end F_b49_point F_b49_exponent F_b49_literal F_b49_whole _ (own_N v14_219.toInt d8.toInt l6.toInt) s0 i1 i2 i3 _ sgn wr A_b21 ne_b21_b49 rfl rfl hW26 U0' U1 U2 U3 U3' U4) (hb hby at_914) rfl (by decide) (Nat.le_of_eq rfl) (by decide) (by decide) (by decide) rfl rfl (fun T51 h51 v51 X51 Q51 => ?_) rfl
  obtain ⟨z51, rfl, Kc51, ho⟩ := Q51
  have A_b1 := A_b1.keep Kc51 (ninS ne_b1_b49 nin0)
  have A_b21 := A_b21.keep Kc51 (ninS ne_b21_b49 nin0)
  have E_b49 := E_b49.keep Kc51
  have zs := Nat.le_trans zs Kc51.1
  show GoK p e below _ T51 (mkF m 917 #[.val (.long q0), .second, .val (.int p1), .val (.int p2), .val (.int p3), .val (.ref b1), .val (.long l6), .second, .val (.int d8), .val (.int v9_162), .val (.int m178_s0), .val (.int v11_186), .val (.int m202_s0), .val (.int v13_210), .val (.int v14_219), .val (.int m234_s0), .val (.int v16_248), .val (.int v17_262), .val (.int v18_298), .val (.int m314_s0), .val (.ref b21), .val (.int z48), .val (.ref b49), .unset, .unset, .unset, .unset, .unset, .unset, .unset, .unset, .unset, .unset, .unset, .unset, .unset, .unset, .unset, .unset, .unset, .unset, .unset, .unset, .unset, .unset, .unset] [.int z51])
  refine go_istore (pc' := 919) (L' := #[.val (.long q0), .second, .val (.int p1), .val (.int p2), .val (.int p3), .val (.ref b1), .val (.long l6), .second, .val (.int d8), .val (.int v9_162), .val (.int m178_s0), .val (.int v11_186), .val (.int m202_s0), .val (.int v13_210), .val (.int v14_219), .val (.int m234_s0), .val (.int v16_248), .val (.int v17_262), .val (.int v18_298), .val (.int m314_s0), .val (.ref b21), .val (.int z48), .val (.ref b49), .val (.int z51), .unset, .unset, .unset, .unset, .unset, .unset, .unset, .unset, .unset, .unset, .unset, .unset, .unset, .unset, .unset, .unset, .unset, .unset, .unset, .unset, .unset, .unset]) X51 hx (hb hby at_917) rfl rfl ?_
  refine go_iload (pc' := 921) X51 hx (hb hby at_919) rfl rfl ?_
  refine go_ifne (pc' := 924) (pcT := 935) X51 hx (hb hby at_921) rfl (by decide) (by decide) (fun c921 => ?_) (fun c921 => ?_)
  · refine go_iload (pc' := 937) X51 hx (hb hby at_935) rfl rfl ?_
    refine go_ifne (pc' := 940) (pcT := 942) X51 hx (hb hby at_937) rfl (by decide) (by decide) (fun c937_t => ?_) (fun c937_t => (by exfalso; rcases ho with ⟨-, a, b⟩ | ⟨a, -⟩; exact c921 (Int32.toInt_inj.mp (by have := own_k0; obtain ⟨n0', n1', sk', hs', h'⟩ := PP; omega)); rw [a] at c937_t; revert c937_t; decide))
    obtain ⟨sg, fst, en, pnt, ex, wh, E_b49, F_b49_text, F_b49_sign, F_b49_first, F_b49_end, F_b49_point, F_b49_exponent, F_b49_whole, hen, RR⟩ := (ho.resolve_left (fun a => c937_t a.1)).2.2
    have hwr := own_wrb he.1 he.2 wr1 wr2 wr3
    suffices J968_t : ∀ (bE : Int64), (bE.toInt = wr) → GoK p e below (DoneK s below n0 room_1.cells room_1.slots (QI (fun z _ => z = 1))) T51 (mkF m 968 #[.val (.long q0), .second, .val (.int p1), .val (.int p2), .val (.int p3), .val (.ref b1), .val (.long l6), .second, .val (.int d8), .val (.int v9_162), .val (.int m178_s0), .val (.int v11_186), .val (.int m202_s0), .val (.int v13_210), .val (.int v14_219), .val (.int m234_s0), .val (.int v16_248), .val (.int v17_262), .val (.int v18_298), .val (.int m314_s0), .val (.ref b21), .val (.int z48), .val (.ref b49), .val (.int z51), .val (.long bE), .second, .unset, .unset, .unset, .unset, .unset, .unset, .unset, .unset, .unset, .unset, .unset, .unset, .unset, .unset, .unset, .unset, .unset, .unset, .unset, .unset] []) by
      refine go_iload (pc' := 944) X51 hx (hb hby at_942) rfl rfl ?_
      refine go_ifeq (pc' := 947) (pcT := 965) X51 hx (hb hby at_944) rfl (by decide) (by decide) (fun c944_t => ?_) (fun c944_t => ?_)
      · refine go_lconst (pc' := 966) (v := 0) X51 hx (hb hby at_965) rfl rfl ?_
        refine go_lstore (pc' := 968) (L' := #[.val (.long q0), .second, .val (.int p1), .val (.int p2), .val (.int p3), .val (.ref b1), .val (.long l6), .second, .val (.int d8), .val (.int v9_162), .val (.int m178_s0), .val (.int v11_186), .val (.int m202_s0), .val (.int v13_210), .val (.int v14_219), .val (.int m234_s0), .val (.int v16_248), .val (.int v17_262), .val (.int v18_298), .val (.int m314_s0), .val (.ref b21), .val (.int z48), .val (.ref b49), .val (.int z51), .val (.long (0 : Int64)), .second, .unset, .unset, .unset, .unset, .unset, .unset, .unset, .unset, .unset, .unset, .unset, .unset, .unset, .unset, .unset, .unset, .unset, .unset, .unset, .unset]) X51 hx (hb hby at_966) rfl rfl ?_
        refine J968_t (0 : Int64)  ?_
        rw [wr1 c944_t]; rfl
      · refine go_iload (pc' := 949) X51 hx (hb hby at_947) rfl rfl ?_
        refine go_iconst (pc' := 950) (v := 2) X51 hx (hb hby at_949) rfl rfl ?_
        refine go_icmpne (pc' := 953) (pcT := 959) X51 hx (hb hby at_950) rfl (by decide) (by decide) (fun c950_tf => ?_) (fun c950_tf => ?_)
        · refine go_iload (pc' := 961) X51 hx (hb hby at_959) rfl rfl ?_
          refine go_i2l (pc' := 962) X51 hx (hb hby at_961) rfl ?_
          refine go_goto (pc' := 966) X51 hx (hb hby at_962) (by decide) (by decide) ?_
          refine go_nameJ (fun v24_966_tft hv24_966_tft => ?_)
          refine go_lstore (pc' := 968) (L' := #[.val (.long q0), .second, .val (.int p1), .val (.int p2), .val (.int p3), .val (.ref b1), .val (.long l6), .second, .val (.int d8), .val (.int v9_162), .val (.int m178_s0), .val (.int v11_186), .val (.int m202_s0), .val (.int v13_210), .val (.int v14_219), .val (.int m234_s0), .val (.int v16_248), .val (.int v17_262), .val (.int v18_298), .val (.int m314_s0), .val (.ref b21), .val (.int z48), .val (.ref b49), .val (.int z51), .val (.long v24_966_tft), .second, .unset, .unset, .unset, .unset, .unset, .unset, .unset, .unset, .unset, .unset, .unset, .unset, .unset, .unset, .unset, .unset, .unset, .unset, .unset, .unset]) X51 hx (hb hby at_966) rfl rfl ?_
          refine J968_t v24_966_tft  ?_
          rw [hv24_966_tft, Int32.toInt_toInt64, wr3 c944_t c950_tf]
        · refine go_iload (pc' := 955) X51 hx (hb hby at_953) rfl rfl ?_
          refine go_ineg (pc' := 956) X51 hx (hb hby at_955) rfl ?_
          refine go_goto (pc' := 961) X51 hx (hb hby at_956) (by decide) (by decide) ?_
          refine go_i2l (pc' := 962) X51 hx (hb hby at_961) rfl ?_
          refine go_goto (pc' := 966) X51 hx (hb hby at_962) (by decide) (by decide) ?_
          refine go_nameJ (fun v24_966_tff hv24_966_tff => ?_)
          refine go_lstore (pc' := 968) (L' := #[.val (.long q0), .second, .val (.int p1), .val (.int p2), .val (.int p3), .val (.ref b1), .val (.long l6), .second, .val (.int d8), .val (.int v9_162), .val (.int m178_s0), .val (.int v11_186), .val (.int m202_s0), .val (.int v13_210), .val (.int v14_219), .val (.int m234_s0), .val (.int v16_248), .val (.int v17_262), .val (.int v18_298), .val (.int m314_s0), .val (.ref b21), .val (.int z48), .val (.ref b49), .val (.int z51), .val (.long v24_966_tff), .second, .unset, .unset, .unset, .unset, .unset, .unset, .unset, .unset, .unset, .unset, .unset, .unset, .unset, .unset, .unset, .unset, .unset, .unset, .unset, .unset]) X51 hx (hb hby at_966) rfl rfl ?_
          refine J968_t v24_966_tff  ?_
          rw [hv24_966_tff, Int32.toInt_toInt64, wr2 c944_t c950_tf]; exact own_ni he.1
    intro bE j968_t
    suffices J984_t : ∀ (fr : Int32), (fr.toInt = i3 - i2) → GoK p e below (DoneK s below n0 room_1.cells room_1.slots (QI (fun z _ => z = 1))) T51 (mkF m 984 #[.val (.long q0), .second, .val (.int p1), .val (.int p2), .val (.int p3), .val (.ref b1), .val (.long l6), .second, .val (.int d8), .val (.int v9_162), .val (.int m178_s0), .val (.int v11_186), .val (.int m202_s0), .val (.int v13_210), .val (.int v14_219), .val (.int m234_s0), .val (.int v16_248), .val (.int v17_262), .val (.int v18_298), .val (.int m314_s0), .val (.ref b21), .val (.int z48), .val (.ref b49), .val (.int z51), .val (.long bE), .second, .val (.int fr), .unset, .unset, .unset, .unset, .unset, .unset, .unset, .unset, .unset, .unset, .unset, .unset, .unset, .unset, .unset, .unset, .unset, .unset, .unset] []) by
      refine go_iload (pc' := 970) X51 hx (hb hby at_968) rfl rfl ?_
      refine go_ifeq (pc' := 973) (pcT := 981) X51 hx (hb hby at_970) rfl (by decide) (by decide) (fun c970_t => ?_) (fun c970_t => ?_)
      · refine go_iconst (pc' := 982) (v := 0) X51 hx (hb hby at_981) rfl rfl ?_
        refine go_istore (pc' := 984) (L' := #[.val (.long q0), .second, .val (.int p1), .val (.int p2), .val (.int p3), .val (.ref b1), .val (.long l6), .second, .val (.int d8), .val (.int v9_162), .val (.int m178_s0), .val (.int v11_186), .val (.int m202_s0), .val (.int v13_210), .val (.int v14_219), .val (.int m234_s0), .val (.int v16_248), .val (.int v17_262), .val (.int v18_298), .val (.int m314_s0), .val (.ref b21), .val (.int z48), .val (.ref b49), .val (.int z51), .val (.long bE), .second, .val (.int (0 : Int32)), .unset, .unset, .unset, .unset, .unset, .unset, .unset, .unset, .unset, .unset, .unset, .unset, .unset, .unset, .unset, .unset, .unset, .unset, .unset]) X51 hx (hb hby at_982) rfl rfl ?_
        refine J984_t (0 : Int32)  ?_
        have k0 := own_k0
        obtain ⟨n0', n1', sk', hs', h'⟩ := PP
        have q := own_eqI c970_t
        omega
      · refine go_iload (pc' := 975) X51 hx (hb hby at_973) rfl rfl ?_
        refine go_iload (pc' := 977) X51 hx (hb hby at_975) rfl rfl ?_
        refine go_isub (pc' := 978) X51 hx (hb hby at_977) rfl ?_
        refine go_goto (pc' := 982) X51 hx (hb hby at_978) (by decide) (by decide) ?_
        refine go_nameI (fun v26_982_tf hv26_982_tf => ?_)
        refine go_istore (pc' := 984) (L' := #[.val (.long q0), .second, .val (.int p1), .val (.int p2), .val (.int p3), .val (.ref b1), .val (.long l6), .second, .val (.int d8), .val (.int v9_162), .val (.int m178_s0), .val (.int v11_186), .val (.int m202_s0), .val (.int v13_210), .val (.int v14_219), .val (.int m234_s0), .val (.int v16_248), .val (.int v17_262), .val (.int v18_298), .val (.int m314_s0), .val (.ref b21), .val (.int z48), .val (.ref b49), .val (.int z51), .val (.long bE), .second, .val (.int v26_982_tf), .unset, .unset, .unset, .unset, .unset, .unset, .unset, .unset, .unset, .unset, .unset, .unset, .unset, .unset, .unset, .unset, .unset, .unset, .unset]) X51 hx (hb hby at_982) rfl rfl ?_
        refine J984_t v26_982_tf  ?_
        have k0 := own_k0
        obtain ⟨n0', n1', sk', hs', h'⟩ := PP
        have q := own_neI c970_t
        rw [hv26_982_tf, Jvm.Free.XT.sub32 ⟨by omega, by omega⟩]; omega
    intro fr j984_t
    refine go_lconst (pc' := 985) (v := 0) X51 hx (hb hby at_984) rfl rfl ?_
    refine go_iload (pc' := 987) X51 hx (hb hby at_985) rfl rfl ?_
    refine go_i2l (pc' := 988) X51 hx (hb hby at_987) rfl ?_
    refine go_lload (pc' := 990) X51 hx (hb hby at_988) rfl rfl ?_
    refine go_lsub (pc' := 991) X51 hx (hb hby at_990) rfl ?_
    refine go_iload (pc' := 993) X51 hx (hb hby at_991) rfl rfl ?_
    refine go_i2l (pc' := 994) X51 hx (hb hby at_993) rfl ?_
    refine go_lsub (pc' := 995) X51 hx (hb hby at_994) rfl ?_
    refine go_callS (pc' := 998) (W := 0) (cells' := 3) (slots' := 53) (rm := ({ frames := 0, cells := 0, slots := 0, locals := 0 } : Room)) (aL := [.long (0 : Int64), .long (((fr.toInt64) - bE) - (v17_262.toInt64))]) (St := []) X51 hx hZ hown (by rw [hml]; rfl) (hw _ (List.mem_of_getElem? (i := 74) rfl)) (hw _ (List.mem_of_getElem? (i := 75) rfl)) (hw _ (List.mem_of_getElem? (i := 65) rfl)) (hw _ (List.mem_of_getElem? (i := 76) rfl)) (by decide) pd_2 rfl (ct_10 l Z a0 hw zs (0 : Int64) (((fr.toInt64) - bE) - (v17_262.toInt64))) (hb hby at_995) rfl (by decide) (Nat.le_of_eq rfl) (by decide) (by decide) (by decide) rfl rfl (fun T52 h52 v52 X52 Q52 => ?_) rfl
    obtain ⟨z52, rfl, hz52, eh52⟩ := Q52
    subst h52
    show GoK p e below _ T52 (mkF m 998 #[.val (.long q0), .second, .val (.int p1), .val (.int p2), .val (.int p3), .val (.ref b1), .val (.long l6), .second, .val (.int d8), .val (.int v9_162), .val (.int m178_s0), .val (.int v11_186), .val (.int m202_s0), .val (.int v13_210), .val (.int v14_219), .val (.int m234_s0), .val (.int v16_248), .val (.int v17_262), .val (.int v18_298), .val (.int m314_s0), .val (.ref b21), .val (.int z48), .val (.ref b49), .val (.int z51), .val (.long bE), .second, .val (.int fr), .unset, .unset, .unset, .unset, .unset, .unset, .unset, .unset, .unset, .unset, .unset, .unset, .unset, .unset, .unset, .unset, .unset, .unset, .unset] [.long z52])
    have hbase := own_base j984_t (own_Fb PP).1 (own_Fb PP).2 j968_t hwr hz.1 (by omega) hz52
    refine go_lstore (pc' := 1000) (L' := #[.val (.long q0), .second, .val (.int p1), .val (.int p2), .val (.int p3), .val (.ref b1), .val (.long l6), .second, .val (.int d8), .val (.int v9_162), .val (.int m178_s0), .val (.int v11_186), .val (.int m202_s0), .val (.int v13_210), .val (.int v14_219), .val (.int m234_s0), .val (.int v16_248), .val (.int v17_262), .val (.int v18_298), .val (.int m314_s0), .val (.ref b21), .val (.int z48), .val (.ref b49), .val (.int z51), .val (.long bE), .second, .val (.int fr), .val (.long z52), .second, .unset, .unset, .unset, .unset, .unset, .unset, .unset, .unset, .unset, .unset, .unset, .unset, .unset, .unset, .unset, .unset, .unset]) X52 hx (hb hby at_998) rfl rfl ?_
    suffices JH1033 : ∀ (T53 : State) (h53 : Heap) (sL : Int64), OnK p l e room_1 s m #[.long q0, .int p1, .int p2, .int p3] below meth c n0 T53 h53 3 53 → n0 ≤ h53.size → AJK Z h53 b1 (19) own_pow → AIK Z h53 b21 .byte (26) f48 → Exa Z h53 b49 "com/example/tracefold/tracefold/trace/DecimalText" → Fld Z h53 b49 "com/example/tracefold/tracefold/trace/DecimalText" "text" "[B" (.ref b21) → Fld Z h53 b49 "com/example/tracefold/tracefold/trace/DecimalText" "sign" "I" (.int sg) → Fld Z h53 b49 "com/example/tracefold/tracefold/trace/DecimalText" "first" "I" (.int fst) → Fld Z h53 b49 "com/example/tracefold/tracefold/trace/DecimalText" "end" "I" (.int en) → Fld Z h53 b49 "com/example/tracefold/tracefold/trace/DecimalText" "point" "I" (.int pnt) → Fld Z h53 b49 "com/example/tracefold/tracefold/trace/DecimalText" "exponent" "J" (.long ex) → Fld Z h53 b49 "com/example/tracefold/tracefold/trace/DecimalText" "whole" "J" (.long wh) → (z52.toInt ≤ sL.toInt ∧ sL.toInt ≤ 2147483647) → GoK p e below (DoneK s below n0 room_1.cells room_1.slots (QI (fun z _ => z = 1))) T53 (mkF m 1033 #[.val (.long q0), .second, .val (.int p1), .val (.int p2), .val (.int p3), .val (.ref b1), .val (.long l6), .second, .val (.int d8), .val (.int v9_162), .val (.int m178_s0), .val (.int v11_186), .val (.int m202_s0), .val (.int v13_210), .val (.int v14_219), .val (.int m234_s0), .val (.int v16_248), .val (.int v17_262), .val (.int v18_298), .val (.int m314_s0), .val (.ref b21), .val (.int z48), .val (.ref b49), .val (.int z51), .val (.long bE), .second, .val (.int fr), .val (.long z52), .second, .val (.long sL), .second, .unset, .unset, .unset, .unset, .unset, .unset, .unset, .unset, .unset, .unset, .unset, .unset, .unset, .unset, .unset] []) by
      refine go_iload (pc' := 1002) X52 hx (hb hby at_1000) rfl rfl ?_
      refine go_iconst (pc' := 1003) (v := 1) X52 hx (hb hby at_1002) rfl rfl ?_
      refine go_iand (pc' := 1004) X52 hx (hb hby at_1003) rfl ?_
      refine go_ifne (pc' := 1007) (pcT := 1021) X52 hx (hb hby at_1004) rfl (by decide) (by decide) (fun c1004_t => ?_) (fun c1004_t => ?_)
      · refine go_lload (pc' := 1023) X52 hx (hb hby at_1021) rfl rfl ?_
        refine go_iload (pc' := 1025) X52 hx (hb hby at_1023) rfl rfl ?_
        refine go_iconst (pc' := 1026) (v := 1) X52 hx (hb hby at_1025) rfl rfl ?_
        refine go_iushr (pc' := 1027) X52 hx (hb hby at_1026) rfl ?_
        refine go_i2l (pc' := 1028) X52 hx (hb hby at_1027) rfl ?_
        refine go_callS (pc' := 1031) (W := 0) (cells' := 3) (slots' := 53) (rm := ({ frames := 0, cells := 0, slots := 0, locals := 0 } : Room)) (aL := [.long z52, .long (((p3.toUInt32 >>> ((1 : Int32) &&& 31).toUInt32).toInt32).toInt64)]) (St := []) X52 hx hZ hown (by rw [hml]; rfl) (hw _ (List.mem_of_getElem? (i := 74) rfl)) (hw _ (List.mem_of_getElem? (i := 75) rfl)) (hw _ (List.mem_of_getElem? (i := 65) rfl)) (hw _ (List.mem_of_getElem? (i := 76) rfl)) (by decide) pd_2 rfl (ct_10 l Z a0 hw zs z52 (((p3.toUInt32 >>> ((1 : Int32) &&& 31).toUInt32).toInt32).toInt64)) (hb hby at_1028) rfl (by decide) (Nat.le_of_eq rfl) (by decide) (by decide) (by decide) rfl rfl (fun T54 h54 v54 X54 Q54 => ?_) rfl
        obtain ⟨z54, rfl, hz54, eh54⟩ := Q54
        subst h54
        show GoK p e below _ T54 (mkF m 1031 #[.val (.long q0), .second, .val (.int p1), .val (.int p2), .val (.int p3), .val (.ref b1), .val (.long l6), .second, .val (.int d8), .val (.int v9_162), .val (.int m178_s0), .val (.int v11_186), .val (.int m202_s0), .val (.int v13_210), .val (.int v14_219), .val (.int m234_s0), .val (.int v16_248), .val (.int v17_262), .val (.int v18_298), .val (.int m314_s0), .val (.ref b21), .val (.int z48), .val (.ref b49), .val (.int z51), .val (.long bE), .second, .val (.int fr), .val (.long z52), .second, .unset, .unset, .unset, .unset, .unset, .unset, .unset, .unset, .unset, .unset, .unset, .unset, .unset, .unset, .unset, .unset, .unset] [.long z54])
        refine go_lstore (pc' := 1033) (L' := #[.val (.long q0), .second, .val (.int p1), .val (.int p2), .val (.int p3), .val (.ref b1), .val (.long l6), .second, .val (.int d8), .val (.int v9_162), .val (.int m178_s0), .val (.int v11_186), .val (.int m202_s0), .val (.int v13_210), .val (.int v14_219), .val (.int m234_s0), .val (.int v16_248), .val (.int v17_262), .val (.int v18_298), .val (.int m314_s0), .val (.ref b21), .val (.int z48), .val (.ref b49), .val (.int z51), .val (.long bE), .second, .val (.int fr), .val (.long z52), .second, .val (.long z54), .second, .unset, .unset, .unset, .unset, .unset, .unset, .unset, .unset, .unset, .unset, .unset, .unset, .unset, .unset, .unset]) X54 hx (hb hby at_1031) rfl rfl ?_
        refine JH1033 T54 h51 z54 X54 zs A_b1 A_b21 E_b49 F_b49_text F_b49_sign F_b49_first F_b49_end F_b49_point F_b49_exponent F_b49_whole ?_
        · exact own_sL2 hz54 hbase.2.2
      · refine go_lload (pc' := 1009) X52 hx (hb hby at_1007) rfl rfl ?_
        refine go_iload (pc' := 1011) X52 hx (hb hby at_1009) rfl rfl ?_
        refine go_iconst (pc' := 1012) (v := 1) X52 hx (hb hby at_1011) rfl rfl ?_
        refine go_iushr (pc' := 1013) X52 hx (hb hby at_1012) rfl ?_
        refine go_bipush (pc' := 1015) (v := 31) X52 hx (hb hby at_1013) rfl rfl ?_
        refine go_iand (pc' := 1016) X52 hx (hb hby at_1015) rfl ?_
        refine go_i2l (pc' := 1017) X52 hx (hb hby at_1016) rfl ?_
        refine go_ladd (pc' := 1018) X52 hx (hb hby at_1017) rfl ?_
        refine go_goto (pc' := 1031) X52 hx (hb hby at_1018) (by decide) (by decide) ?_
        refine go_nameJ (fun v29_1031_tf hv29_1031_tf => ?_)
        refine go_lstore (pc' := 1033) (L' := #[.val (.long q0), .second, .val (.int p1), .val (.int p2), .val (.int p3), .val (.ref b1), .val (.long l6), .second, .val (.int d8), .val (.int v9_162), .val (.int m178_s0), .val (.int v11_186), .val (.int m202_s0), .val (.int v13_210), .val (.int v14_219), .val (.int m234_s0), .val (.int v16_248), .val (.int v17_262), .val (.int v18_298), .val (.int m314_s0), .val (.ref b21), .val (.int z48), .val (.ref b49), .val (.int z51), .val (.long bE), .second, .val (.int fr), .val (.long z52), .second, .val (.long v29_1031_tf), .second, .unset, .unset, .unset, .unset, .unset, .unset, .unset, .unset, .unset, .unset, .unset, .unset, .unset, .unset, .unset]) X52 hx (hb hby at_1031) rfl rfl ?_
        refine JH1033 T52 h51 v29_1031_tf X52 zs A_b1 A_b21 E_b49 F_b49_text F_b49_sign F_b49_first F_b49_end F_b49_point F_b49_exponent F_b49_whole ?_
        · exact own_sL1 hv29_1031_tf hbase.2.1 hbase.2.2
    intro T53 h53 sL X53 zs A_b1 A_b21 E_b49 F_b49_text F_b49_sign F_b49_first F_b49_end F_b49_point F_b49_exponent F_b49_whole jh1033
    refine go_lload (pc' := 1035) X53 hx (hb hby at_1033) rfl rfl ?_
    refine go_l2i (pc' := 1036) X53 hx (hb hby at_1035) rfl ?_
    refine go_nameI (fun v31_1036_t hv31_1036_t => ?_)
    refine go_istore (pc' := 1038) (L' := #[.val (.long q0), .second, .val (.int p1), .val (.int p2), .val (.int p3), .val (.ref b1), .val (.long l6), .second, .val (.int d8), .val (.int v9_162), .val (.int m178_s0), .val (.int v11_186), .val (.int m202_s0), .val (.int v13_210), .val (.int v14_219), .val (.int m234_s0), .val (.int v16_248), .val (.int v17_262), .val (.int v18_298), .val (.int m314_s0), .val (.ref b21), .val (.int z48), .val (.ref b49), .val (.int z51), .val (.long bE), .second, .val (.int fr), .val (.long z52), .second, .val (.long sL), .second, .val (.int v31_1036_t), .unset, .unset, .unset, .unset, .unset, .unset, .unset, .unset, .unset, .unset, .unset, .unset, .unset, .unset]) X53 hx (hb hby at_1036) rfl rfl ?_
    have hsc : v31_1036_t.toInt = sL.toInt := by rw [hv31_1036_t]; exact own_l32 (by omega) jh1033.2
    refine go_aload (pc' := 1040) X53 hx (hb hby at_1038) rfl rfl ?_
    refine go_iload (pc' := 1042) X53 hx (hb hby at_1040) rfl rfl ?_
    refine go_callV (pc' := 1045) (W := 0) (cells' := 3) (slots' := 53) (rm := ({ frames := 0, cells := 0, slots := 0, locals := 0 } : Room)) (aL := [.int v31_1036_t]) (St := []) X53 hx hZ hown (by rw [hml]; rfl) E_b49 (hw _ (List.mem_of_getElem? (i := 77) rfl)) (hw _ (List.mem_of_getElem? (i := 78) rfl)) (hw _ (List.mem_of_getElem? (i := 80) rfl)) (hw _ (List.mem_of_getElem? (i := 79) rfl)) (hw _ (List.mem_of_getElem? (i := 30) rfl)) (hw _ (List.mem_of_getElem? (i := 81) rfl)) (by decide) pd_8 rfl (ct_11 l Z a0 hw zs b49 v31_1036_t _ (own_N v14_219.toInt d8.toInt l6.toInt) s0 i1 i2 i3 _ sgn wr b21 sg fst en pnt ex wh F_b49_text F_b49_sign F_b49_first F_b49_end F_b49_point F_b49_exponent F_b49_whole A_b21 hen RR U1 U2 U3 U3' hW26 hwr (own_s1 sg1 sg2) (by omega)) (hb hby at_1042) rfl (by decide) (Nat.le_of_eq rfl) (by decide) (by decide) (by decide) rfl rfl (fun T55 h55 v55 X55 Q55 => ?_) rfl
    obtain ⟨z55, rfl, hz55, eh55⟩ := Q55
    subst h55
    show GoK p e below _ T55 (mkF m 1045 #[.val (.long q0), .second, .val (.int p1), .val (.int p2), .val (.int p3), .val (.ref b1), .val (.long l6), .second, .val (.int d8), .val (.int v9_162), .val (.int m178_s0), .val (.int v11_186), .val (.int m202_s0), .val (.int v13_210), .val (.int v14_219), .val (.int m234_s0), .val (.int v16_248), .val (.int v17_262), .val (.int v18_298), .val (.int m314_s0), .val (.ref b21), .val (.int z48), .val (.ref b49), .val (.int z51), .val (.long bE), .second, .val (.int fr), .val (.long z52), .second, .val (.long sL), .second, .val (.int v31_1036_t), .unset, .unset, .unset, .unset, .unset, .unset, .unset, .unset, .unset, .unset, .unset, .unset, .unset, .unset] [.long z55])
    refine go_lstore (pc' := 1047) (L' := #[.val (.long q0), .second, .val (.int p1), .val (.int p2), .val (.int p3), .val (.ref b1), .val (.long l6), .second, .val (.int d8), .val (.int v9_162), .val (.int m178_s0), .val (.int v11_186), .val (.int m202_s0), .val (.int v13_210), .val (.int v14_219), .val (.int m234_s0), .val (.int v16_248), .val (.int v17_262), .val (.int v18_298), .val (.int m314_s0), .val (.ref b21), .val (.int z48), .val (.ref b49), .val (.int z51), .val (.long bE), .second, .val (.int fr), .val (.long z52), .second, .val (.long sL), .second, .val (.int v31_1036_t), .val (.long z55), .second, .unset, .unset, .unset, .unset, .unset, .unset, .unset, .unset, .unset, .unset, .unset, .unset]) X55 hx (hb hby at_1045) rfl rfl ?_
    refine go_lload (pc' := 1049) X55 hx (hb hby at_1047) rfl rfl ?_
    refine go_iload (pc' := 1051) X55 hx (hb hby at_1049) rfl rfl ?_
    refine go_i2l (pc' := 1052) X55 hx (hb hby at_1051) rfl ?_
    refine go_lsub (pc' := 1053) X55 hx (hb hby at_1052) rfl ?_
    refine go_lload (pc' := 1055) X55 hx (hb hby at_1053) rfl rfl ?_
    refine go_ladd (pc' := 1056) X55 hx (hb hby at_1055) rfl ?_
    refine go_nameJ (fun v34_1056_t hv34_1056_t => ?_)
    refine go_lstore (pc' := 1058) (L' := #[.val (.long q0), .second, .val (.int p1), .val (.int p2), .val (.int p3), .val (.ref b1), .val (.long l6), .second, .val (.int d8), .val (.int v9_162), .val (.int m178_s0), .val (.int v11_186), .val (.int m202_s0), .val (.int v13_210), .val (.int v14_219), .val (.int m234_s0), .val (.int v16_248), .val (.int v17_262), .val (.int v18_298), .val (.int m314_s0), .val (.ref b21), .val (.int z48), .val (.ref b49), .val (.int z51), .val (.long bE), .second, .val (.int fr), .val (.long z52), .second, .val (.long sL), .second, .val (.int v31_1036_t), .val (.long z55), .second, .val (.long v34_1056_t), .second, .unset, .unset, .unset, .unset, .unset, .unset, .unset, .unset, .unset, .unset]) X55 hx (hb hby at_1056) rfl rfl ?_
    have hK := own_K hv34_1056_t j984_t (own_Fb PP).1 (own_Fb PP).2 j968_t hwr (by omega) jh1033.2
    have hU : z55.toInt = own_res (own_N v14_219.toInt d8.toInt l6.toInt) v34_1056_t.toInt sgn := by rw [hz55, hsc, hK]
    have hk17 : -v17_262.toInt ≤ v34_1056_t.toInt := by omega
    refine go_iload (pc' := 1060) X55 hx (hb hby at_1058) rfl rfl ?_
    refine go_iconst (pc' := 1061) (v := 2) X55 hx (hb hby at_1060) rfl rfl ?_
    suffices J1069_t : ∀ (m1069_s0_t : Int32), ((¬ v13_210 = (2 : Int32) ∧ m1069_s0_t = (0 : Int32)) ∨ (v13_210 = (2 : Int32) ∧ m1069_s0_t = (1 : Int32))) → GoK p e below (DoneK s below n0 room_1.cells room_1.slots (QI (fun z _ => z = 1))) T55 (mkF m 1069 #[.val (.long q0), .second, .val (.int p1), .val (.int p2), .val (.int p3), .val (.ref b1), .val (.long l6), .second, .val (.int d8), .val (.int v9_162), .val (.int m178_s0), .val (.int v11_186), .val (.int m202_s0), .val (.int v13_210), .val (.int v14_219), .val (.int m234_s0), .val (.int v16_248), .val (.int v17_262), .val (.int v18_298), .val (.int m314_s0), .val (.ref b21), .val (.int z48), .val (.ref b49), .val (.int z51), .val (.long bE), .second, .val (.int fr), .val (.long z52), .second, .val (.long sL), .second, .val (.int v31_1036_t), .val (.long z55), .second, .val (.long v34_1056_t), .second, .unset, .unset, .unset, .unset, .unset, .unset, .unset, .unset, .unset, .unset] [.int m1069_s0_t]) by
      refine go_icmpne (pc' := 1064) (pcT := 1068) X55 hx (hb hby at_1061) rfl (by decide) (by decide) (fun c1061_t => ?_) (fun c1061_t => ?_)
      · refine go_iconst (pc' := 1069) (v := 0) X55 hx (hb hby at_1068) rfl rfl ?_
        exact J1069_t _  (Or.inl ⟨c1061_t, rfl⟩)
      · refine go_iconst (pc' := 1065) (v := 1) X55 hx (hb hby at_1064) rfl rfl ?_
        refine go_goto (pc' := 1069) X55 hx (hb hby at_1065) (by decide) (by decide) ?_
        exact J1069_t _  (Or.inr ⟨c1061_t, rfl⟩)
    intro m1069_s0_t j1069_t
    refine go_istore (pc' := 1071) (L' := #[.val (.long q0), .second, .val (.int p1), .val (.int p2), .val (.int p3), .val (.ref b1), .val (.long l6), .second, .val (.int d8), .val (.int v9_162), .val (.int m178_s0), .val (.int v11_186), .val (.int m202_s0), .val (.int v13_210), .val (.int v14_219), .val (.int m234_s0), .val (.int v16_248), .val (.int v17_262), .val (.int v18_298), .val (.int m314_s0), .val (.ref b21), .val (.int z48), .val (.ref b49), .val (.int z51), .val (.long bE), .second, .val (.int fr), .val (.long z52), .second, .val (.long sL), .second, .val (.int v31_1036_t), .val (.long z55), .second, .val (.long v34_1056_t), .second, .val (.int m1069_s0_t), .unset, .unset, .unset, .unset, .unset, .unset, .unset, .unset, .unset]) X55 hx (hb hby at_1069) rfl rfl ?_
    have ms := own_ms j1069_t sg1 sg2
    suffices J1087_t : ∀ (hi : Int64), ((v14_219.toInt = 19 → hi.toInt = d8.toInt) ∧ (¬ v14_219.toInt = 19 → hi.toInt = 0)) → GoK p e below (DoneK s below n0 room_1.cells room_1.slots (QI (fun z _ => z = 1))) T55 (mkF m 1087 #[.val (.long q0), .second, .val (.int p1), .val (.int p2), .val (.int p3), .val (.ref b1), .val (.long l6), .second, .val (.int d8), .val (.int v9_162), .val (.int m178_s0), .val (.int v11_186), .val (.int m202_s0), .val (.int v13_210), .val (.int v14_219), .val (.int m234_s0), .val (.int v16_248), .val (.int v17_262), .val (.int v18_298), .val (.int m314_s0), .val (.ref b21), .val (.int z48), .val (.ref b49), .val (.int z51), .val (.long bE), .second, .val (.int fr), .val (.long z52), .second, .val (.long sL), .second, .val (.int v31_1036_t), .val (.long z55), .second, .val (.long v34_1056_t), .second, .val (.int m1069_s0_t), .val (.long hi), .second, .unset, .unset, .unset, .unset, .unset, .unset, .unset] []) by
      refine go_iload (pc' := 1073) X55 hx (hb hby at_1071) rfl rfl ?_
      refine go_bipush (pc' := 1075) (v := 19) X55 hx (hb hby at_1073) rfl rfl ?_
      refine go_icmpne (pc' := 1078) (pcT := 1084) X55 hx (hb hby at_1075) rfl (by decide) (by decide) (fun c1075_t => ?_) (fun c1075_t => ?_)
      · refine go_lconst (pc' := 1085) (v := 0) X55 hx (hb hby at_1084) rfl rfl ?_
        refine go_lstore (pc' := 1087) (L' := #[.val (.long q0), .second, .val (.int p1), .val (.int p2), .val (.int p3), .val (.ref b1), .val (.long l6), .second, .val (.int d8), .val (.int v9_162), .val (.int m178_s0), .val (.int v11_186), .val (.int m202_s0), .val (.int v13_210), .val (.int v14_219), .val (.int m234_s0), .val (.int v16_248), .val (.int v17_262), .val (.int v18_298), .val (.int m314_s0), .val (.ref b21), .val (.int z48), .val (.ref b49), .val (.int z51), .val (.long bE), .second, .val (.int fr), .val (.long z52), .second, .val (.long sL), .second, .val (.int v31_1036_t), .val (.long z55), .second, .val (.long v34_1056_t), .second, .val (.int m1069_s0_t), .val (.long (0 : Int64)), .second, .unset, .unset, .unset, .unset, .unset, .unset, .unset]) X55 hx (hb hby at_1085) rfl rfl ?_
        refine J1087_t (0 : Int64)  ?_
        have q := own_neI c1075_t
        exact ⟨fun y => absurd y q, fun _ => rfl⟩
      · refine go_iload (pc' := 1080) X55 hx (hb hby at_1078) rfl rfl ?_
        refine go_i2l (pc' := 1081) X55 hx (hb hby at_1080) rfl ?_
        refine go_goto (pc' := 1085) X55 hx (hb hby at_1081) (by decide) (by decide) ?_
        refine go_nameJ (fun v37_1085_tf hv37_1085_tf => ?_)
        refine go_lstore (pc' := 1087) (L' := #[.val (.long q0), .second, .val (.int p1), .val (.int p2), .val (.int p3), .val (.ref b1), .val (.long l6), .second, .val (.int d8), .val (.int v9_162), .val (.int m178_s0), .val (.int v11_186), .val (.int m202_s0), .val (.int v13_210), .val (.int v14_219), .val (.int m234_s0), .val (.int v16_248), .val (.int v17_262), .val (.int v18_298), .val (.int m314_s0), .val (.ref b21), .val (.int z48), .val (.ref b49), .val (.int z51), .val (.long bE), .second, .val (.int fr), .val (.long z52), .second, .val (.long sL), .second, .val (.int v31_1036_t), .val (.long z55), .second, .val (.long v34_1056_t), .second, .val (.int m1069_s0_t), .val (.long v37_1085_tf), .second, .unset, .unset, .unset, .unset, .unset, .unset, .unset]) X55 hx (hb hby at_1085) rfl rfl ?_
        refine J1087_t v37_1085_tf  ?_
        have q := own_eqI c1075_t
        exact ⟨fun _ => by rw [hv37_1085_tf]; exact Int32.toInt_toInt64 _, fun y => absurd q y⟩
    intro hi j1087_t
    suffices J1109_t : ∀ (lo : Int64), ((v14_219.toInt = 19 → lo = l6) ∧ (¬ v14_219.toInt = 19 → lo.toInt = l6.toInt % ((10 ^ v14_219.toInt.toNat : Nat) : Int) ∧ 0 ≤ lo.toInt ∧ lo.toInt < 1000000000000000000)) → GoK p e below (DoneK s below n0 room_1.cells room_1.slots (QI (fun z _ => z = 1))) T55 (mkF m 1109 #[.val (.long q0), .second, .val (.int p1), .val (.int p2), .val (.int p3), .val (.ref b1), .val (.long l6), .second, .val (.int d8), .val (.int v9_162), .val (.int m178_s0), .val (.int v11_186), .val (.int m202_s0), .val (.int v13_210), .val (.int v14_219), .val (.int m234_s0), .val (.int v16_248), .val (.int v17_262), .val (.int v18_298), .val (.int m314_s0), .val (.ref b21), .val (.int z48), .val (.ref b49), .val (.int z51), .val (.long bE), .second, .val (.int fr), .val (.long z52), .second, .val (.long sL), .second, .val (.int v31_1036_t), .val (.long z55), .second, .val (.long v34_1056_t), .second, .val (.int m1069_s0_t), .val (.long hi), .second, .val (.long lo), .second, .unset, .unset, .unset, .unset, .unset] []) by
      refine go_iload (pc' := 1089) X55 hx (hb hby at_1087) rfl rfl ?_
      refine go_bipush (pc' := 1091) (v := 19) X55 hx (hb hby at_1089) rfl rfl ?_
      refine go_icmpne (pc' := 1094) (pcT := 1099) X55 hx (hb hby at_1091) rfl (by decide) (by decide) (fun c1091_t => ?_) (fun c1091_t => ?_)
      · refine go_lload (pc' := 1101) X55 hx (hb hby at_1099) rfl rfl ?_
        refine go_aload (pc' := 1103) X55 hx (hb hby at_1101) rfl rfl ?_
        refine go_iload (pc' := 1105) X55 hx (hb hby at_1103) rfl rfl ?_
        refine go_laload (pc' := 1106) X55 hx hZ A_b1 hn.1 (by have k19 : (19 : Int32).toInt = 19 := rfl; have q := own_neI c1091_t; omega) (hb hby at_1105) rfl (fun w1105_tt hw1105_tt => ?_)
        refine go_lrem (pc' := 1107) X55 hx (hb hby at_1106) rfl (by rw [hw1105_tt]; exact own_pnz _ hn.1 (by have k19 : (19 : Int32).toInt = 19 := rfl; have q := own_neI c1091_t; omega)) ?_
        refine go_nameJ (fun v39_1107_tt hv39_1107_tt => ?_)
        refine go_lstore (pc' := 1109) (L' := #[.val (.long q0), .second, .val (.int p1), .val (.int p2), .val (.int p3), .val (.ref b1), .val (.long l6), .second, .val (.int d8), .val (.int v9_162), .val (.int m178_s0), .val (.int v11_186), .val (.int m202_s0), .val (.int v13_210), .val (.int v14_219), .val (.int m234_s0), .val (.int v16_248), .val (.int v17_262), .val (.int v18_298), .val (.int m314_s0), .val (.ref b21), .val (.int z48), .val (.ref b49), .val (.int z51), .val (.long bE), .second, .val (.int fr), .val (.long z52), .second, .val (.long sL), .second, .val (.int v31_1036_t), .val (.long z55), .second, .val (.long v34_1056_t), .second, .val (.int m1069_s0_t), .val (.long hi), .second, .val (.long v39_1107_tt), .second, .unset, .unset, .unset, .unset, .unset]) X55 hx (hb hby at_1107) rfl rfl ?_
        refine J1109_t v39_1107_tt  ?_
        have q := own_neI c1091_t
        exact ⟨fun y => absurd y q, fun _ => own_plit hn.1 (by have k19 : (19 : Int32).toInt = 19 := rfl; have q := own_neI c1091_t; omega) hl.1 hl.2 hw1105_tt hv39_1107_tt⟩
      · refine go_lload (pc' := 1096) X55 hx (hb hby at_1094) rfl rfl ?_
        refine go_goto (pc' := 1107) X55 hx (hb hby at_1096) (by decide) (by decide) ?_
        refine go_lstore (pc' := 1109) (L' := #[.val (.long q0), .second, .val (.int p1), .val (.int p2), .val (.int p3), .val (.ref b1), .val (.long l6), .second, .val (.int d8), .val (.int v9_162), .val (.int m178_s0), .val (.int v11_186), .val (.int m202_s0), .val (.int v13_210), .val (.int v14_219), .val (.int m234_s0), .val (.int v16_248), .val (.int v17_262), .val (.int v18_298), .val (.int m314_s0), .val (.ref b21), .val (.int z48), .val (.ref b49), .val (.int z51), .val (.long bE), .second, .val (.int fr), .val (.long z52), .second, .val (.long sL), .second, .val (.int v31_1036_t), .val (.long z55), .second, .val (.long v34_1056_t), .second, .val (.int m1069_s0_t), .val (.long hi), .second, .val (.long l6), .second, .unset, .unset, .unset, .unset, .unset]) X55 hx (hb hby at_1107) rfl rfl ?_
        refine J1109_t l6  ?_
        have q := own_eqI c1091_t
        exact ⟨fun _ => rfl, fun y => absurd q y⟩
    intro lo j1109_t
    obtain ⟨hNN, h0', h9', l0', l9'⟩ := own_halves (hi := hi.toInt) (lo := lo.toInt) hd.1 hd.2 hl.1 hl.2 (fun y => ⟨j1087_t.1 y, by rw [j1109_t.1 y]⟩) (fun y => ⟨j1087_t.2 y, j1109_t.2 y⟩)
    have hz0 : v17_262.toInt = 19 → (own_N v14_219.toInt d8.toInt l6.toInt) = 0 := fun y => own_N0 (hz19 y).1 (hz19 y).2
    suffices J1129_t : (¬ ((own_N v14_219.toInt d8.toInt l6.toInt) = 0)) → GoK p e below (DoneK s below n0 room_1.cells room_1.slots (QI (fun z _ => z = 1))) T55 (mkF m 1129 #[.val (.long q0), .second, .val (.int p1), .val (.int p2), .val (.int p3), .val (.ref b1), .val (.long l6), .second, .val (.int d8), .val (.int v9_162), .val (.int m178_s0), .val (.int v11_186), .val (.int m202_s0), .val (.int v13_210), .val (.int v14_219), .val (.int m234_s0), .val (.int v16_248), .val (.int v17_262), .val (.int v18_298), .val (.int m314_s0), .val (.ref b21), .val (.int z48), .val (.ref b49), .val (.int z51), .val (.long bE), .second, .val (.int fr), .val (.long z52), .second, .val (.long sL), .second, .val (.int v31_1036_t), .val (.long z55), .second, .val (.long v34_1056_t), .second, .val (.int m1069_s0_t), .val (.long hi), .second, .val (.long lo), .second, .unset, .unset, .unset, .unset, .unset] []) by
      refine go_lload (pc' := 1111) X55 hx (hb hby at_1109) rfl rfl ?_
      refine go_lconst (pc' := 1112) (v := 0) X55 hx (hb hby at_1111) rfl rfl ?_
      refine go_lifne (pc1 := 1113) (pc' := 1116) (pcT := 1129) X55 hx (hb hby at_1112) rfl (hb hby at_1113) rfl (by decide) (by decide) (fun c1113_t => ?_) (fun c1113_t => ?_)
      · refine J1129_t   ?_
        intro y
        have k0 : (0 : Int64).toInt = 0 := rfl
        exact c1113_t (Int64.toInt_inj.mp (by omega))
      · refine go_lload (pc' := 1118) X55 hx (hb hby at_1116) rfl rfl ?_
        refine go_lconst (pc' := 1119) (v := 0) X55 hx (hb hby at_1118) rfl rfl ?_
        refine go_lifne (pc1 := 1120) (pc' := 1123) (pcT := 1129) X55 hx (hb hby at_1119) rfl (hb hby at_1120) rfl (by decide) (by decide) (fun c1120_tf => ?_) (fun c1120_tf => ?_)
        · refine J1129_t   ?_
          intro y
          have k0 : (0 : Int64).toInt = 0 := rfl
          exact c1120_tf (Int64.toInt_inj.mp (by omega))
        · refine go_lconst (pc' := 1124) (v := 0) X55 hx (hb hby at_1123) rfl rfl ?_
          refine go_lstore (pc' := 1126) (L' := #[.val (.long q0), .second, .val (.int p1), .val (.int p2), .val (.int p3), .val (.ref b1), .val (.long l6), .second, .val (.int d8), .val (.int v9_162), .val (.int m178_s0), .val (.int v11_186), .val (.int m202_s0), .val (.int v13_210), .val (.int v14_219), .val (.int m234_s0), .val (.int v16_248), .val (.int v17_262), .val (.int v18_298), .val (.int m314_s0), .val (.ref b21), .val (.int z48), .val (.ref b49), .val (.int z51), .val (.long bE), .second, .val (.int fr), .val (.long z52), .second, .val (.long sL), .second, .val (.int v31_1036_t), .val (.long z55), .second, .val (.long v34_1056_t), .second, .val (.int m1069_s0_t), .val (.long hi), .second, .val (.long lo), .second, .val (.long (0 : Int64)), .second, .unset, .unset, .unset]) X55 hx (hb hby at_1124) rfl rfl ?_
          refine go_goto (pc' := 1319) X55 hx (hb hby at_1126) (by decide) (by decide) ?_
          refine go_lload (pc' := 1321) X55 hx (hb hby at_1319) rfl rfl ?_
          refine go_lload (pc' := 1323) X55 hx (hb hby at_1321) rfl rfl ?_
          refine go_lifne (pc1 := 1324) (pc' := 1327) (pcT := 1331) X55 hx (hb hby at_1323) rfl (hb hby at_1324) rfl (by decide) (by decide) (fun c1324_tff => (by exfalso; have a := congrArg Int64.toInt c1113_t; have b := congrArg Int64.toInt c1120_tf; have k0 : (0 : Int64).toInt = 0 := rfl; exact c1324_tff (Int64.toInt_inj.mp (hU.trans (own_fin0 (by omega)).symm)))) (fun c1324_tff => ?_)
          refine go_iconst (pc' := 1328) (v := 1) X55 hx (hb hby at_1327) rfl rfl ?_
          refine go_goto (pc' := 1332) X55 hx (hb hby at_1328) (by decide) (by decide) ?_
          refine go_retN (t := .boolean) X55 hx hret (by simp) hlk (hb hby at_1332) (by decide) (by decide) ?_
          exact rfl
    intro  j1129_t
    refine go_lload (pc' := 1131) X55 hx (hb hby at_1129) rfl rfl ?_
    refine go_lconst (pc' := 1132) (v := 0) X55 hx (hb hby at_1131) rfl rfl ?_
    refine go_lifge (pc1 := 1133) (pc' := 1136) (pcT := 1182) X55 hx (hb hby at_1132) rfl (hb hby at_1133) rfl (by decide) (by decide) (fun c1133_t => ?_) (fun c1133_t => ?_)
    · have kp : ¬ v34_1056_t.toInt < 0 := fun w => c1133_t (Int64.lt_iff_toInt_lt.mpr w)
      refine go_lconst (pc' := 1183) (v := 0) X55 hx (hb hby at_1182) rfl rfl ?_
      refine go_lstore (pc' := 1185) (L' := #[.val (.long q0), .second, .val (.int p1), .val (.int p2), .val (.int p3), .val (.ref b1), .val (.long l6), .second, .val (.int d8), .val (.int v9_162), .val (.int m178_s0), .val (.int v11_186), .val (.int m202_s0), .val (.int v13_210), .val (.int v14_219), .val (.int m234_s0), .val (.int v16_248), .val (.int v17_262), .val (.int v18_298), .val (.int m314_s0), .val (.ref b21), .val (.int z48), .val (.ref b49), .val (.int z51), .val (.long bE), .second, .val (.int fr), .val (.long z52), .second, .val (.long sL), .second, .val (.int v31_1036_t), .val (.long z55), .second, .val (.long v34_1056_t), .second, .val (.int m1069_s0_t), .val (.long hi), .second, .val (.long lo), .second, .unset, .unset, .unset, .val (.long (0 : Int64)), .second]) X55 hx (hb hby at_1183) rfl rfl ?_
      refine go_lload (pc' := 1187) X55 hx (hb hby at_1185) rfl rfl ?_
      refine go_lconst (pc' := 1188) (v := 0) X55 hx (hb hby at_1187) rfl rfl ?_
      refine go_lifle (pc1 := 1189) (pc' := 1192) (pcT := 1245) X55 hx (hb hby at_1188) rfl (hb hby at_1189) rfl (by decide) (by decide) (fun c1189_tt => ?_) (fun c1189_tt => ?_)
      · refine go_lload (pc' := 1247) X55 hx (hb hby at_1245) rfl rfl ?_
        refine go_ldc2 (pc' := 1250) X55 hx hZ hown (hw _ (List.mem_of_getElem? (i := 82) rfl)) (hb hby at_1247) rfl ?_
        refine go_lifgt (pc1 := 1251) (pc' := 1254) (pcT := 1270) X55 hx (hb hby at_1250) rfl (hb hby at_1251) rfl (by decide) (by decide) (fun c1251_ttt => ?_) (fun c1251_ttt => ?_)
        · refine go_iconst (pc' := 1271) (v := 1) X55 hx (hb hby at_1270) rfl rfl ?_
          refine go_goto (pc' := 1275) X55 hx (hb hby at_1271) (by decide) (by decide) ?_
          refine go_istore (pc' := 1277) (L' := #[.val (.long q0), .second, .val (.int p1), .val (.int p2), .val (.int p3), .val (.ref b1), .val (.long l6), .second, .val (.int d8), .val (.int v9_162), .val (.int m178_s0), .val (.int v11_186), .val (.int m202_s0), .val (.int v13_210), .val (.int v14_219), .val (.int m234_s0), .val (.int v16_248), .val (.int v17_262), .val (.int v18_298), .val (.int m314_s0), .val (.ref b21), .val (.int z48), .val (.ref b49), .val (.int z51), .val (.long bE), .second, .val (.int fr), .val (.long z52), .second, .val (.long sL), .second, .val (.int v31_1036_t), .val (.long z55), .second, .val (.long v34_1056_t), .second, .val (.int m1069_s0_t), .val (.long hi), .second, .val (.long lo), .second, .unset, .unset, .val (.int (1 : Int32)), .val (.long (0 : Int64)), .second]) X55 hx (hb hby at_1275) rfl rfl ?_
          refine go_iload (pc' := 1279) X55 hx (hb hby at_1277) rfl rfl ?_
          refine go_ifne (pc' := 1282) (pcT := 1293) X55 hx (hb hby at_1279) rfl (by decide) (by decide) (fun c1279_tttt => ?_) (fun c1279_tttt => (by exfalso; revert c1279_tttt; decide))
          refine go_iload (pc' := 1295) X55 hx (hb hby at_1293) rfl rfl ?_
          refine go_ifeq (pc' := 1298) (pcT := 1304) X55 hx (hb hby at_1295) rfl (by decide) (by decide) (fun c1295_tttt => (by exfalso; revert c1295_tttt; decide)) (fun c1295_tttt => ?_)
          refine go_ldc2 (pc' := 1301) X55 hx hZ hown (hw _ (List.mem_of_getElem? (i := 86) rfl)) (hb hby at_1298) rfl ?_
          refine go_goto (pc' := 1317) X55 hx (hb hby at_1301) (by decide) (by decide) ?_
          refine go_lstore (pc' := 1319) (L' := #[.val (.long q0), .second, .val (.int p1), .val (.int p2), .val (.int p3), .val (.ref b1), .val (.long l6), .second, .val (.int d8), .val (.int v9_162), .val (.int m178_s0), .val (.int v11_186), .val (.int m202_s0), .val (.int v13_210), .val (.int v14_219), .val (.int m234_s0), .val (.int v16_248), .val (.int v17_262), .val (.int v18_298), .val (.int m314_s0), .val (.ref b21), .val (.int z48), .val (.ref b49), .val (.int z51), .val (.long bE), .second, .val (.int fr), .val (.long z52), .second, .val (.long sL), .second, .val (.int v31_1036_t), .val (.long z55), .second, .val (.long v34_1056_t), .second, .val (.int m1069_s0_t), .val (.long hi), .second, .val (.long lo), .second, .val (.long (-9223372036854775808 : Int64)), .second, .val (.int (1 : Int32)), .val (.long (0 : Int64)), .second]) X55 hx (hb hby at_1317) rfl rfl ?_
          refine go_lload (pc' := 1321) X55 hx (hb hby at_1319) rfl rfl ?_
          refine go_lload (pc' := 1323) X55 hx (hb hby at_1321) rfl rfl ?_
          refine go_lifne (pc1 := 1324) (pc' := 1327) (pcT := 1331) X55 hx (hb hby at_1323) rfl (hb hby at_1324) rfl (by decide) (by decide) (fun c1324_tttt => (by exfalso; have y1 : ¬ 0 < hi.toInt := (fun w => c1189_tt (Int64.lt_iff_toInt_lt.mpr w)); have eN : (((own_N v14_219.toInt d8.toInt l6.toInt) : Nat) : Int) = lo.toInt := (by omega); have y2 : 18 < v34_1056_t.toInt := Int64.lt_iff_toInt_lt.mp c1251_ttt; exact c1324_tttt (Int64.toInt_inj.mp (hU.trans (own_ov3 y2 (by omega)).symm)))) (fun c1324_tttt => ?_)
          refine go_iconst (pc' := 1328) (v := 1) X55 hx (hb hby at_1327) rfl rfl ?_
          refine go_goto (pc' := 1332) X55 hx (hb hby at_1328) (by decide) (by decide) ?_
          refine go_retN (t := .boolean) X55 hx hret (by simp) hlk (hb hby at_1332) (by decide) (by decide) ?_
          exact rfl
        · refine go_lload (pc' := 1256) X55 hx (hb hby at_1254) rfl rfl ?_
          refine go_ldc2 (pc' := 1259) X55 hx hZ hown (hw _ (List.mem_of_getElem? (i := 19) rfl)) (hb hby at_1256) rfl ?_
          refine go_aload (pc' := 1261) X55 hx (hb hby at_1259) rfl rfl ?_
          refine go_lload (pc' := 1263) X55 hx (hb hby at_1261) rfl rfl ?_
          refine go_l2i (pc' := 1264) X55 hx (hb hby at_1263) rfl ?_
          refine go_laload (pc' := 1265) X55 hx hZ A_b1 (by have q : ¬ 18 < v34_1056_t.toInt := fun w => c1251_ttt (Int64.lt_iff_toInt_lt.mpr w); rw [own_kI kp q]; omega) (by have q : ¬ 18 < v34_1056_t.toInt := fun w => c1251_ttt (Int64.lt_iff_toInt_lt.mpr w); rw [own_kI kp q]; omega) (hb hby at_1264) rfl (fun w1264_tttf hw1264_tttf => ?_)
          refine go_ldiv (pc' := 1266) X55 hx (hb hby at_1265) rfl (by rw [hw1264_tttf]; exact own_pnz _ (by have q : ¬ 18 < v34_1056_t.toInt := fun w => c1251_ttt (Int64.lt_iff_toInt_lt.mpr w); rw [own_kI kp q]; omega) (by have q : ¬ 18 < v34_1056_t.toInt := fun w => c1251_ttt (Int64.lt_iff_toInt_lt.mpr w); rw [own_kI kp q]; omega)) ?_
          refine go_lifle (pc1 := 1267) (pc' := 1270) (pcT := 1274) X55 hx (hb hby at_1266) rfl (hb hby at_1267) rfl (by decide) (by decide) (fun c1267_tttf => ?_) (fun c1267_tttf => ?_)
          · refine go_iconst (pc' := 1275) (v := 0) X55 hx (hb hby at_1274) rfl rfl ?_
            refine go_istore (pc' := 1277) (L' := #[.val (.long q0), .second, .val (.int p1), .val (.int p2), .val (.int p3), .val (.ref b1), .val (.long l6), .second, .val (.int d8), .val (.int v9_162), .val (.int m178_s0), .val (.int v11_186), .val (.int m202_s0), .val (.int v13_210), .val (.int v14_219), .val (.int m234_s0), .val (.int v16_248), .val (.int v17_262), .val (.int v18_298), .val (.int m314_s0), .val (.ref b21), .val (.int z48), .val (.ref b49), .val (.int z51), .val (.long bE), .second, .val (.int fr), .val (.long z52), .second, .val (.long sL), .second, .val (.int v31_1036_t), .val (.long z55), .second, .val (.long v34_1056_t), .second, .val (.int m1069_s0_t), .val (.long hi), .second, .val (.long lo), .second, .unset, .unset, .val (.int (0 : Int32)), .val (.long (0 : Int64)), .second]) X55 hx (hb hby at_1275) rfl rfl ?_
            refine go_iload (pc' := 1279) X55 hx (hb hby at_1277) rfl rfl ?_
            refine go_ifne (pc' := 1282) (pcT := 1293) X55 hx (hb hby at_1279) rfl (by decide) (by decide) (fun c1279_tttft => (by exfalso; revert c1279_tttft; decide)) (fun c1279_tttft => ?_)
            refine go_lload (pc' := 1284) X55 hx (hb hby at_1282) rfl rfl ?_
            refine go_aload (pc' := 1286) X55 hx (hb hby at_1284) rfl rfl ?_
            refine go_lload (pc' := 1288) X55 hx (hb hby at_1286) rfl rfl ?_
            refine go_l2i (pc' := 1289) X55 hx (hb hby at_1288) rfl ?_
            refine go_laload (pc' := 1290) X55 hx hZ A_b1 (by have q : ¬ 18 < v34_1056_t.toInt := fun w => c1251_ttt (Int64.lt_iff_toInt_lt.mpr w); rw [own_kI kp q]; omega) (by have q : ¬ 18 < v34_1056_t.toInt := fun w => c1251_ttt (Int64.lt_iff_toInt_lt.mpr w); rw [own_kI kp q]; omega) (hb hby at_1289) rfl (fun w1289_tttft hw1289_tttft => ?_)
            refine go_lmul (pc' := 1291) X55 hx (hb hby at_1290) rfl ?_
            refine go_nameJ (fun v44_1291_tttft hv44_1291_tttft => ?_)
            refine go_lstore (pc' := 1293) (L' := #[.val (.long q0), .second, .val (.int p1), .val (.int p2), .val (.int p3), .val (.ref b1), .val (.long l6), .second, .val (.int d8), .val (.int v9_162), .val (.int m178_s0), .val (.int v11_186), .val (.int m202_s0), .val (.int v13_210), .val (.int v14_219), .val (.int m234_s0), .val (.int v16_248), .val (.int v17_262), .val (.int v18_298), .val (.int m314_s0), .val (.ref b21), .val (.int z48), .val (.ref b49), .val (.int z51), .val (.long bE), .second, .val (.int fr), .val (.long z52), .second, .val (.long sL), .second, .val (.int v31_1036_t), .val (.long z55), .second, .val (.long v34_1056_t), .second, .val (.int m1069_s0_t), .val (.long hi), .second, .val (.long lo), .second, .unset, .unset, .val (.int (0 : Int32)), .val (.long v44_1291_tttft), .second]) X55 hx (hb hby at_1291) rfl rfl ?_
            refine go_iload (pc' := 1295) X55 hx (hb hby at_1293) rfl rfl ?_
            refine go_ifeq (pc' := 1298) (pcT := 1304) X55 hx (hb hby at_1295) rfl (by decide) (by decide) (fun c1295_tttft => ?_) (fun c1295_tttft => (by exfalso; revert c1295_tttft; decide))
            refine go_iload (pc' := 1306) X55 hx (hb hby at_1304) rfl rfl ?_
            refine go_ifeq (pc' := 1309) (pcT := 1315) X55 hx (hb hby at_1306) rfl (by decide) (by decide) (fun c1306_tttft => ?_) (fun c1306_tttft => ?_)
            · refine go_lload (pc' := 1317) X55 hx (hb hby at_1315) rfl rfl ?_
              refine go_lstore (pc' := 1319) (L' := #[.val (.long q0), .second, .val (.int p1), .val (.int p2), .val (.int p3), .val (.ref b1), .val (.long l6), .second, .val (.int d8), .val (.int v9_162), .val (.int m178_s0), .val (.int v11_186), .val (.int m202_s0), .val (.int v13_210), .val (.int v14_219), .val (.int m234_s0), .val (.int v16_248), .val (.int v17_262), .val (.int v18_298), .val (.int m314_s0), .val (.ref b21), .val (.int z48), .val (.ref b49), .val (.int z51), .val (.long bE), .second, .val (.int fr), .val (.long z52), .second, .val (.long sL), .second, .val (.int v31_1036_t), .val (.long z55), .second, .val (.long v34_1056_t), .second, .val (.int m1069_s0_t), .val (.long hi), .second, .val (.long lo), .second, .val (.long v44_1291_tttft), .second, .val (.int (0 : Int32)), .val (.long v44_1291_tttft), .second]) X55 hx (hb hby at_1317) rfl rfl ?_
              refine go_lload (pc' := 1321) X55 hx (hb hby at_1319) rfl rfl ?_
              refine go_lload (pc' := 1323) X55 hx (hb hby at_1321) rfl rfl ?_
              refine go_lifne (pc1 := 1324) (pc' := 1327) (pcT := 1331) X55 hx (hb hby at_1323) rfl (hb hby at_1324) rfl (by decide) (by decide) (fun c1324_tttftt => (by exfalso; have y1 : ¬ 0 < hi.toInt := (fun w => c1189_tt (Int64.lt_iff_toInt_lt.mpr w)); have eN : (((own_N v14_219.toInt d8.toInt l6.toInt) : Nat) : Int) = lo.toInt := (by omega); have y2 : ¬ 18 < v34_1056_t.toInt := (fun w => c1251_ttt (Int64.lt_iff_toInt_lt.mpr w)); obtain ⟨g1, g2⟩ := own_in2 (s := sgn) kp y2 eN hw1264_tttf hw1289_tttft c1267_tttf hv44_1291_tttft; exact c1324_tttftt (Int64.toInt_inj.mp (hU.trans (g2.trans (own_sgn g1 ms.1 ms.2 (Or.inl ⟨c1306_tttft, rfl⟩)).symm))))) (fun c1324_tttftt => ?_)
              refine go_iconst (pc' := 1328) (v := 1) X55 hx (hb hby at_1327) rfl rfl ?_
              refine go_goto (pc' := 1332) X55 hx (hb hby at_1328) (by decide) (by decide) ?_
              refine go_retN (t := .boolean) X55 hx hret (by simp) hlk (hb hby at_1332) (by decide) (by decide) ?_
              exact rfl
            · refine go_lload (pc' := 1311) X55 hx (hb hby at_1309) rfl rfl ?_
              refine go_lneg (pc' := 1312) X55 hx (hb hby at_1311) rfl ?_
              refine go_goto (pc' := 1317) X55 hx (hb hby at_1312) (by decide) (by decide) ?_
              refine go_nameJ (fun v41_1317_tttftf hv41_1317_tttftf => ?_)
              refine go_lstore (pc' := 1319) (L' := #[.val (.long q0), .second, .val (.int p1), .val (.int p2), .val (.int p3), .val (.ref b1), .val (.long l6), .second, .val (.int d8), .val (.int v9_162), .val (.int m178_s0), .val (.int v11_186), .val (.int m202_s0), .val (.int v13_210), .val (.int v14_219), .val (.int m234_s0), .val (.int v16_248), .val (.int v17_262), .val (.int v18_298), .val (.int m314_s0), .val (.ref b21), .val (.int z48), .val (.ref b49), .val (.int z51), .val (.long bE), .second, .val (.int fr), .val (.long z52), .second, .val (.long sL), .second, .val (.int v31_1036_t), .val (.long z55), .second, .val (.long v34_1056_t), .second, .val (.int m1069_s0_t), .val (.long hi), .second, .val (.long lo), .second, .val (.long v41_1317_tttftf), .second, .val (.int (0 : Int32)), .val (.long v44_1291_tttft), .second]) X55 hx (hb hby at_1317) rfl rfl ?_
              refine go_lload (pc' := 1321) X55 hx (hb hby at_1319) rfl rfl ?_
              refine go_lload (pc' := 1323) X55 hx (hb hby at_1321) rfl rfl ?_
              refine go_lifne (pc1 := 1324) (pc' := 1327) (pcT := 1331) X55 hx (hb hby at_1323) rfl (hb hby at_1324) rfl (by decide) (by decide) (fun c1324_tttftf => (by exfalso; have y1 : ¬ 0 < hi.toInt := (fun w => c1189_tt (Int64.lt_iff_toInt_lt.mpr w)); have eN : (((own_N v14_219.toInt d8.toInt l6.toInt) : Nat) : Int) = lo.toInt := (by omega); have y2 : ¬ 18 < v34_1056_t.toInt := (fun w => c1251_ttt (Int64.lt_iff_toInt_lt.mpr w)); obtain ⟨g1, g2⟩ := own_in2 (s := sgn) kp y2 eN hw1264_tttf hw1289_tttft c1267_tttf hv44_1291_tttft; exact c1324_tttftf (Int64.toInt_inj.mp (hU.trans (g2.trans (own_sgn g1 ms.1 ms.2 (Or.inr ⟨c1306_tttft, hv41_1317_tttftf⟩)).symm))))) (fun c1324_tttftf => ?_)
              refine go_iconst (pc' := 1328) (v := 1) X55 hx (hb hby at_1327) rfl rfl ?_
              refine go_goto (pc' := 1332) X55 hx (hb hby at_1328) (by decide) (by decide) ?_
              refine go_retN (t := .boolean) X55 hx hret (by simp) hlk (hb hby at_1332) (by decide) (by decide) ?_
              exact rfl
          · refine go_iconst (pc' := 1271) (v := 1) X55 hx (hb hby at_1270) rfl rfl ?_
            refine go_goto (pc' := 1275) X55 hx (hb hby at_1271) (by decide) (by decide) ?_
            refine go_istore (pc' := 1277) (L' := #[.val (.long q0), .second, .val (.int p1), .val (.int p2), .val (.int p3), .val (.ref b1), .val (.long l6), .second, .val (.int d8), .val (.int v9_162), .val (.int m178_s0), .val (.int v11_186), .val (.int m202_s0), .val (.int v13_210), .val (.int v14_219), .val (.int m234_s0), .val (.int v16_248), .val (.int v17_262), .val (.int v18_298), .val (.int m314_s0), .val (.ref b21), .val (.int z48), .val (.ref b49), .val (.int z51), .val (.long bE), .second, .val (.int fr), .val (.long z52), .second, .val (.long sL), .second, .val (.int v31_1036_t), .val (.long z55), .second, .val (.long v34_1056_t), .second, .val (.int m1069_s0_t), .val (.long hi), .second, .val (.long lo), .second, .unset, .unset, .val (.int (1 : Int32)), .val (.long (0 : Int64)), .second]) X55 hx (hb hby at_1275) rfl rfl ?_
            refine go_iload (pc' := 1279) X55 hx (hb hby at_1277) rfl rfl ?_
            refine go_ifne (pc' := 1282) (pcT := 1293) X55 hx (hb hby at_1279) rfl (by decide) (by decide) (fun c1279_tttff => ?_) (fun c1279_tttff => (by exfalso; revert c1279_tttff; decide))
            refine go_iload (pc' := 1295) X55 hx (hb hby at_1293) rfl rfl ?_
            refine go_ifeq (pc' := 1298) (pcT := 1304) X55 hx (hb hby at_1295) rfl (by decide) (by decide) (fun c1295_tttff => (by exfalso; revert c1295_tttff; decide)) (fun c1295_tttff => ?_)
            refine go_ldc2 (pc' := 1301) X55 hx hZ hown (hw _ (List.mem_of_getElem? (i := 86) rfl)) (hb hby at_1298) rfl ?_
            refine go_goto (pc' := 1317) X55 hx (hb hby at_1301) (by decide) (by decide) ?_
            refine go_lstore (pc' := 1319) (L' := #[.val (.long q0), .second, .val (.int p1), .val (.int p2), .val (.int p3), .val (.ref b1), .val (.long l6), .second, .val (.int d8), .val (.int v9_162), .val (.int m178_s0), .val (.int v11_186), .val (.int m202_s0), .val (.int v13_210), .val (.int v14_219), .val (.int m234_s0), .val (.int v16_248), .val (.int v17_262), .val (.int v18_298), .val (.int m314_s0), .val (.ref b21), .val (.int z48), .val (.ref b49), .val (.int z51), .val (.long bE), .second, .val (.int fr), .val (.long z52), .second, .val (.long sL), .second, .val (.int v31_1036_t), .val (.long z55), .second, .val (.long v34_1056_t), .second, .val (.int m1069_s0_t), .val (.long hi), .second, .val (.long lo), .second, .val (.long (-9223372036854775808 : Int64)), .second, .val (.int (1 : Int32)), .val (.long (0 : Int64)), .second]) X55 hx (hb hby at_1317) rfl rfl ?_
            refine go_lload (pc' := 1321) X55 hx (hb hby at_1319) rfl rfl ?_
            refine go_lload (pc' := 1323) X55 hx (hb hby at_1321) rfl rfl ?_
            refine go_lifne (pc1 := 1324) (pc' := 1327) (pcT := 1331) X55 hx (hb hby at_1323) rfl (hb hby at_1324) rfl (by decide) (by decide) (fun c1324_tttff => (by exfalso; have y1 : ¬ 0 < hi.toInt := (fun w => c1189_tt (Int64.lt_iff_toInt_lt.mpr w)); have eN : (((own_N v14_219.toInt d8.toInt l6.toInt) : Nat) : Int) = lo.toInt := (by omega); have y2 : ¬ 18 < v34_1056_t.toInt := (fun w => c1251_ttt (Int64.lt_iff_toInt_lt.mpr w)); exact c1324_tttff (Int64.toInt_inj.mp (hU.trans (own_ov4 kp y2 eN hw1264_tttf c1267_tttf).symm)))) (fun c1324_tttff => ?_)
            refine go_iconst (pc' := 1328) (v := 1) X55 hx (hb hby at_1327) rfl rfl ?_
            refine go_goto (pc' := 1332) X55 hx (hb hby at_1328) (by decide) (by decide) ?_
            refine go_retN (t := .boolean) X55 hx hret (by simp) hlk (hb hby at_1332) (by decide) (by decide) ?_
            exact rfl
      · refine go_lload (pc' := 1194) X55 hx (hb hby at_1192) rfl rfl ?_
        refine go_lconst (pc' := 1195) (v := 0) X55 hx (hb hby at_1194) rfl rfl ?_
        refine go_lifgt (pc1 := 1196) (pc' := 1199) (pcT := 1217) X55 hx (hb hby at_1195) rfl (hb hby at_1196) rfl (by decide) (by decide) (fun c1196_ttf => ?_) (fun c1196_ttf => ?_)
        · refine go_iconst (pc' := 1218) (v := 1) X55 hx (hb hby at_1217) rfl rfl ?_
          refine go_goto (pc' := 1222) X55 hx (hb hby at_1218) (by decide) (by decide) ?_
          refine go_istore (pc' := 1224) (L' := #[.val (.long q0), .second, .val (.int p1), .val (.int p2), .val (.int p3), .val (.ref b1), .val (.long l6), .second, .val (.int d8), .val (.int v9_162), .val (.int m178_s0), .val (.int v11_186), .val (.int m202_s0), .val (.int v13_210), .val (.int v14_219), .val (.int m234_s0), .val (.int v16_248), .val (.int v17_262), .val (.int v18_298), .val (.int m314_s0), .val (.ref b21), .val (.int z48), .val (.ref b49), .val (.int z51), .val (.long bE), .second, .val (.int fr), .val (.long z52), .second, .val (.long sL), .second, .val (.int v31_1036_t), .val (.long z55), .second, .val (.long v34_1056_t), .second, .val (.int m1069_s0_t), .val (.long hi), .second, .val (.long lo), .second, .unset, .unset, .val (.int (1 : Int32)), .val (.long (0 : Int64)), .second]) X55 hx (hb hby at_1222) rfl rfl ?_
          refine go_iload (pc' := 1226) X55 hx (hb hby at_1224) rfl rfl ?_
          refine go_ifne (pc' := 1229) (pcT := 1293) X55 hx (hb hby at_1226) rfl (by decide) (by decide) (fun c1226_ttft => ?_) (fun c1226_ttft => (by exfalso; revert c1226_ttft; decide))
          refine go_iload (pc' := 1295) X55 hx (hb hby at_1293) rfl rfl ?_
          refine go_ifeq (pc' := 1298) (pcT := 1304) X55 hx (hb hby at_1295) rfl (by decide) (by decide) (fun c1295_ttft => (by exfalso; revert c1295_ttft; decide)) (fun c1295_ttft => ?_)
          refine go_ldc2 (pc' := 1301) X55 hx hZ hown (hw _ (List.mem_of_getElem? (i := 86) rfl)) (hb hby at_1298) rfl ?_
          refine go_goto (pc' := 1317) X55 hx (hb hby at_1301) (by decide) (by decide) ?_
          refine go_lstore (pc' := 1319) (L' := #[.val (.long q0), .second, .val (.int p1), .val (.int p2), .val (.int p3), .val (.ref b1), .val (.long l6), .second, .val (.int d8), .val (.int v9_162), .val (.int m178_s0), .val (.int v11_186), .val (.int m202_s0), .val (.int v13_210), .val (.int v14_219), .val (.int m234_s0), .val (.int v16_248), .val (.int v17_262), .val (.int v18_298), .val (.int m314_s0), .val (.ref b21), .val (.int z48), .val (.ref b49), .val (.int z51), .val (.long bE), .second, .val (.int fr), .val (.long z52), .second, .val (.long sL), .second, .val (.int v31_1036_t), .val (.long z55), .second, .val (.long v34_1056_t), .second, .val (.int m1069_s0_t), .val (.long hi), .second, .val (.long lo), .second, .val (.long (-9223372036854775808 : Int64)), .second, .val (.int (1 : Int32)), .val (.long (0 : Int64)), .second]) X55 hx (hb hby at_1317) rfl rfl ?_
          refine go_lload (pc' := 1321) X55 hx (hb hby at_1319) rfl rfl ?_
          refine go_lload (pc' := 1323) X55 hx (hb hby at_1321) rfl rfl ?_
          refine go_lifne (pc1 := 1324) (pc' := 1327) (pcT := 1331) X55 hx (hb hby at_1323) rfl (hb hby at_1324) rfl (by decide) (by decide) (fun c1324_ttft => (by exfalso; have y1 : 0 < hi.toInt := Int64.lt_iff_toInt_lt.mp c1189_tt; have y2 : 0 < v34_1056_t.toInt := Int64.lt_iff_toInt_lt.mp c1196_ttf; exact c1324_ttft (Int64.toInt_inj.mp (hU.trans (own_ov1 hNN l0' y1 y2).symm)))) (fun c1324_ttft => ?_)
          refine go_iconst (pc' := 1328) (v := 1) X55 hx (hb hby at_1327) rfl rfl ?_
          refine go_goto (pc' := 1332) X55 hx (hb hby at_1328) (by decide) (by decide) ?_
          refine go_retN (t := .boolean) X55 hx hret (by simp) hlk (hb hby at_1332) (by decide) (by decide) ?_
          exact rfl
        · refine go_lload (pc' := 1201) X55 hx (hb hby at_1199) rfl rfl ?_
          refine go_ldc2 (pc' := 1204) X55 hx hZ hown (hw _ (List.mem_of_getElem? (i := 91) rfl)) (hb hby at_1201) rfl ?_
          refine go_lifne (pc1 := 1205) (pc' := 1208) (pcT := 1221) X55 hx (hb hby at_1204) rfl (hb hby at_1205) rfl (by decide) (by decide) (fun c1205_ttff => ?_) (fun c1205_ttff => ?_)
          · refine go_iconst (pc' := 1222) (v := 0) X55 hx (hb hby at_1221) rfl rfl ?_
            refine go_istore (pc' := 1224) (L' := #[.val (.long q0), .second, .val (.int p1), .val (.int p2), .val (.int p3), .val (.ref b1), .val (.long l6), .second, .val (.int d8), .val (.int v9_162), .val (.int m178_s0), .val (.int v11_186), .val (.int m202_s0), .val (.int v13_210), .val (.int v14_219), .val (.int m234_s0), .val (.int v16_248), .val (.int v17_262), .val (.int v18_298), .val (.int m314_s0), .val (.ref b21), .val (.int z48), .val (.ref b49), .val (.int z51), .val (.long bE), .second, .val (.int fr), .val (.long z52), .second, .val (.long sL), .second, .val (.int v31_1036_t), .val (.long z55), .second, .val (.long v34_1056_t), .second, .val (.int m1069_s0_t), .val (.long hi), .second, .val (.long lo), .second, .unset, .unset, .val (.int (0 : Int32)), .val (.long (0 : Int64)), .second]) X55 hx (hb hby at_1222) rfl rfl ?_
            refine go_iload (pc' := 1226) X55 hx (hb hby at_1224) rfl rfl ?_
            refine go_ifne (pc' := 1229) (pcT := 1293) X55 hx (hb hby at_1226) rfl (by decide) (by decide) (fun c1226_ttfft => (by exfalso; revert c1226_ttfft; decide)) (fun c1226_ttfft => ?_)
            refine go_lload (pc' := 1231) X55 hx (hb hby at_1229) rfl rfl ?_
            refine go_aload (pc' := 1233) X55 hx (hb hby at_1231) rfl rfl ?_
            refine go_bipush (pc' := 1235) (v := 18) X55 hx (hb hby at_1233) rfl rfl ?_
            refine go_laload (pc' := 1236) X55 hx hZ A_b1 (by decide) (by decide) (hb hby at_1235) rfl (fun w1235_ttfft hw1235_ttfft => ?_)
            refine go_lmul (pc' := 1237) X55 hx (hb hby at_1236) rfl ?_
            refine go_lload (pc' := 1239) X55 hx (hb hby at_1237) rfl rfl ?_
            refine go_ladd (pc' := 1240) X55 hx (hb hby at_1239) rfl ?_
            refine go_nameJ (fun v44_1240_ttfft hv44_1240_ttfft => ?_)
            refine go_lstore (pc' := 1242) (L' := #[.val (.long q0), .second, .val (.int p1), .val (.int p2), .val (.int p3), .val (.ref b1), .val (.long l6), .second, .val (.int d8), .val (.int v9_162), .val (.int m178_s0), .val (.int v11_186), .val (.int m202_s0), .val (.int v13_210), .val (.int v14_219), .val (.int m234_s0), .val (.int v16_248), .val (.int v17_262), .val (.int v18_298), .val (.int m314_s0), .val (.ref b21), .val (.int z48), .val (.ref b49), .val (.int z51), .val (.long bE), .second, .val (.int fr), .val (.long z52), .second, .val (.long sL), .second, .val (.int v31_1036_t), .val (.long z55), .second, .val (.long v34_1056_t), .second, .val (.int m1069_s0_t), .val (.long hi), .second, .val (.long lo), .second, .unset, .unset, .val (.int (0 : Int32)), .val (.long v44_1240_ttfft), .second]) X55 hx (hb hby at_1240) rfl rfl ?_
            refine go_goto (pc' := 1293) X55 hx (hb hby at_1242) (by decide) (by decide) ?_
            refine go_iload (pc' := 1295) X55 hx (hb hby at_1293) rfl rfl ?_
            refine go_ifeq (pc' := 1298) (pcT := 1304) X55 hx (hb hby at_1295) rfl (by decide) (by decide) (fun c1295_ttfft => ?_) (fun c1295_ttfft => (by exfalso; revert c1295_ttfft; decide))
            refine go_iload (pc' := 1306) X55 hx (hb hby at_1304) rfl rfl ?_
            refine go_ifeq (pc' := 1309) (pcT := 1315) X55 hx (hb hby at_1306) rfl (by decide) (by decide) (fun c1306_ttfft => ?_) (fun c1306_ttfft => ?_)
            · refine go_lload (pc' := 1317) X55 hx (hb hby at_1315) rfl rfl ?_
              refine go_lstore (pc' := 1319) (L' := #[.val (.long q0), .second, .val (.int p1), .val (.int p2), .val (.int p3), .val (.ref b1), .val (.long l6), .second, .val (.int d8), .val (.int v9_162), .val (.int m178_s0), .val (.int v11_186), .val (.int m202_s0), .val (.int v13_210), .val (.int v14_219), .val (.int m234_s0), .val (.int v16_248), .val (.int v17_262), .val (.int v18_298), .val (.int m314_s0), .val (.ref b21), .val (.int z48), .val (.ref b49), .val (.int z51), .val (.long bE), .second, .val (.int fr), .val (.long z52), .second, .val (.long sL), .second, .val (.int v31_1036_t), .val (.long z55), .second, .val (.long v34_1056_t), .second, .val (.int m1069_s0_t), .val (.long hi), .second, .val (.long lo), .second, .val (.long v44_1240_ttfft), .second, .val (.int (0 : Int32)), .val (.long v44_1240_ttfft), .second]) X55 hx (hb hby at_1317) rfl rfl ?_
              refine go_lload (pc' := 1321) X55 hx (hb hby at_1319) rfl rfl ?_
              refine go_lload (pc' := 1323) X55 hx (hb hby at_1321) rfl rfl ?_
              refine go_lifne (pc1 := 1324) (pc' := 1327) (pcT := 1331) X55 hx (hb hby at_1323) rfl (hb hby at_1324) rfl (by decide) (by decide) (fun c1324_ttfftt => (by exfalso; have y1 : 0 < hi.toInt := Int64.lt_iff_toInt_lt.mp c1189_tt; have y2 : ¬ 0 < v34_1056_t.toInt := (fun w => c1196_ttf (Int64.lt_iff_toInt_lt.mpr w)); have k9 : (9 : Int64).toInt = 9 := rfl; have y3 : ¬ hi.toInt = (9 : Int64).toInt := fun w => c1205_ttff (Int64.toInt_inj.mp w); obtain ⟨g1, g2⟩ := own_in1 (k := v34_1056_t) (s := sgn) (by omega) hNN h0' h9' l0' (by omega) hw1235_ttfft hv44_1240_ttfft; exact c1324_ttfftt (Int64.toInt_inj.mp (hU.trans (g2.trans (own_sgn g1 ms.1 ms.2 (Or.inl ⟨c1306_ttfft, rfl⟩)).symm))))) (fun c1324_ttfftt => ?_)
              refine go_iconst (pc' := 1328) (v := 1) X55 hx (hb hby at_1327) rfl rfl ?_
              refine go_goto (pc' := 1332) X55 hx (hb hby at_1328) (by decide) (by decide) ?_
              refine go_retN (t := .boolean) X55 hx hret (by simp) hlk (hb hby at_1332) (by decide) (by decide) ?_
              exact rfl
            · refine go_lload (pc' := 1311) X55 hx (hb hby at_1309) rfl rfl ?_
              refine go_lneg (pc' := 1312) X55 hx (hb hby at_1311) rfl ?_
              refine go_goto (pc' := 1317) X55 hx (hb hby at_1312) (by decide) (by decide) ?_
              refine go_nameJ (fun v41_1317_ttfftf hv41_1317_ttfftf => ?_)
              refine go_lstore (pc' := 1319) (L' := #[.val (.long q0), .second, .val (.int p1), .val (.int p2), .val (.int p3), .val (.ref b1), .val (.long l6), .second, .val (.int d8), .val (.int v9_162), .val (.int m178_s0), .val (.int v11_186), .val (.int m202_s0), .val (.int v13_210), .val (.int v14_219), .val (.int m234_s0), .val (.int v16_248), .val (.int v17_262), .val (.int v18_298), .val (.int m314_s0), .val (.ref b21), .val (.int z48), .val (.ref b49), .val (.int z51), .val (.long bE), .second, .val (.int fr), .val (.long z52), .second, .val (.long sL), .second, .val (.int v31_1036_t), .val (.long z55), .second, .val (.long v34_1056_t), .second, .val (.int m1069_s0_t), .val (.long hi), .second, .val (.long lo), .second, .val (.long v41_1317_ttfftf), .second, .val (.int (0 : Int32)), .val (.long v44_1240_ttfft), .second]) X55 hx (hb hby at_1317) rfl rfl ?_
              refine go_lload (pc' := 1321) X55 hx (hb hby at_1319) rfl rfl ?_
              refine go_lload (pc' := 1323) X55 hx (hb hby at_1321) rfl rfl ?_
              refine go_lifne (pc1 := 1324) (pc' := 1327) (pcT := 1331) X55 hx (hb hby at_1323) rfl (hb hby at_1324) rfl (by decide) (by decide) (fun c1324_ttfftf => (by exfalso; have y1 : 0 < hi.toInt := Int64.lt_iff_toInt_lt.mp c1189_tt; have y2 : ¬ 0 < v34_1056_t.toInt := (fun w => c1196_ttf (Int64.lt_iff_toInt_lt.mpr w)); have k9 : (9 : Int64).toInt = 9 := rfl; have y3 : ¬ hi.toInt = (9 : Int64).toInt := fun w => c1205_ttff (Int64.toInt_inj.mp w); obtain ⟨g1, g2⟩ := own_in1 (k := v34_1056_t) (s := sgn) (by omega) hNN h0' h9' l0' (by omega) hw1235_ttfft hv44_1240_ttfft; exact c1324_ttfftf (Int64.toInt_inj.mp (hU.trans (g2.trans (own_sgn g1 ms.1 ms.2 (Or.inr ⟨c1306_ttfft, hv41_1317_ttfftf⟩)).symm))))) (fun c1324_ttfftf => ?_)
              refine go_iconst (pc' := 1328) (v := 1) X55 hx (hb hby at_1327) rfl rfl ?_
              refine go_goto (pc' := 1332) X55 hx (hb hby at_1328) (by decide) (by decide) ?_
              refine go_retN (t := .boolean) X55 hx hret (by simp) hlk (hb hby at_1332) (by decide) (by decide) ?_
              exact rfl
          · refine go_lload (pc' := 1210) X55 hx (hb hby at_1208) rfl rfl ?_
            refine go_ldc2 (pc' := 1213) X55 hx hZ hown (hw _ (List.mem_of_getElem? (i := 92) rfl)) (hb hby at_1210) rfl ?_
            refine go_lifle (pc1 := 1214) (pc' := 1217) (pcT := 1221) X55 hx (hb hby at_1213) rfl (hb hby at_1214) rfl (by decide) (by decide) (fun c1214_ttfff => ?_) (fun c1214_ttfff => ?_)
            · refine go_iconst (pc' := 1222) (v := 0) X55 hx (hb hby at_1221) rfl rfl ?_
              refine go_istore (pc' := 1224) (L' := #[.val (.long q0), .second, .val (.int p1), .val (.int p2), .val (.int p3), .val (.ref b1), .val (.long l6), .second, .val (.int d8), .val (.int v9_162), .val (.int m178_s0), .val (.int v11_186), .val (.int m202_s0), .val (.int v13_210), .val (.int v14_219), .val (.int m234_s0), .val (.int v16_248), .val (.int v17_262), .val (.int v18_298), .val (.int m314_s0), .val (.ref b21), .val (.int z48), .val (.ref b49), .val (.int z51), .val (.long bE), .second, .val (.int fr), .val (.long z52), .second, .val (.long sL), .second, .val (.int v31_1036_t), .val (.long z55), .second, .val (.long v34_1056_t), .second, .val (.int m1069_s0_t), .val (.long hi), .second, .val (.long lo), .second, .unset, .unset, .val (.int (0 : Int32)), .val (.long (0 : Int64)), .second]) X55 hx (hb hby at_1222) rfl rfl ?_
              refine go_iload (pc' := 1226) X55 hx (hb hby at_1224) rfl rfl ?_
              refine go_ifne (pc' := 1229) (pcT := 1293) X55 hx (hb hby at_1226) rfl (by decide) (by decide) (fun c1226_ttffft => (by exfalso; revert c1226_ttffft; decide)) (fun c1226_ttffft => ?_)
              refine go_lload (pc' := 1231) X55 hx (hb hby at_1229) rfl rfl ?_
              refine go_aload (pc' := 1233) X55 hx (hb hby at_1231) rfl rfl ?_
              refine go_bipush (pc' := 1235) (v := 18) X55 hx (hb hby at_1233) rfl rfl ?_
              refine go_laload (pc' := 1236) X55 hx hZ A_b1 (by decide) (by decide) (hb hby at_1235) rfl (fun w1235_ttffft hw1235_ttffft => ?_)
              refine go_lmul (pc' := 1237) X55 hx (hb hby at_1236) rfl ?_
              refine go_lload (pc' := 1239) X55 hx (hb hby at_1237) rfl rfl ?_
              refine go_ladd (pc' := 1240) X55 hx (hb hby at_1239) rfl ?_
              refine go_nameJ (fun v44_1240_ttffft hv44_1240_ttffft => ?_)
              refine go_lstore (pc' := 1242) (L' := #[.val (.long q0), .second, .val (.int p1), .val (.int p2), .val (.int p3), .val (.ref b1), .val (.long l6), .second, .val (.int d8), .val (.int v9_162), .val (.int m178_s0), .val (.int v11_186), .val (.int m202_s0), .val (.int v13_210), .val (.int v14_219), .val (.int m234_s0), .val (.int v16_248), .val (.int v17_262), .val (.int v18_298), .val (.int m314_s0), .val (.ref b21), .val (.int z48), .val (.ref b49), .val (.int z51), .val (.long bE), .second, .val (.int fr), .val (.long z52), .second, .val (.long sL), .second, .val (.int v31_1036_t), .val (.long z55), .second, .val (.long v34_1056_t), .second, .val (.int m1069_s0_t), .val (.long hi), .second, .val (.long lo), .second, .unset, .unset, .val (.int (0 : Int32)), .val (.long v44_1240_ttffft), .second]) X55 hx (hb hby at_1240) rfl rfl ?_
              refine go_goto (pc' := 1293) X55 hx (hb hby at_1242) (by decide) (by decide) ?_
              refine go_iload (pc' := 1295) X55 hx (hb hby at_1293) rfl rfl ?_
              refine go_ifeq (pc' := 1298) (pcT := 1304) X55 hx (hb hby at_1295) rfl (by decide) (by decide) (fun c1295_ttffft => ?_) (fun c1295_ttffft => (by exfalso; revert c1295_ttffft; decide))
              refine go_iload (pc' := 1306) X55 hx (hb hby at_1304) rfl rfl ?_
              refine go_ifeq (pc' := 1309) (pcT := 1315) X55 hx (hb hby at_1306) rfl (by decide) (by decide) (fun c1306_ttffft => ?_) (fun c1306_ttffft => ?_)
              · refine go_lload (pc' := 1317) X55 hx (hb hby at_1315) rfl rfl ?_
                refine go_lstore (pc' := 1319) (L' := #[.val (.long q0), .second, .val (.int p1), .val (.int p2), .val (.int p3), .val (.ref b1), .val (.long l6), .second, .val (.int d8), .val (.int v9_162), .val (.int m178_s0), .val (.int v11_186), .val (.int m202_s0), .val (.int v13_210), .val (.int v14_219), .val (.int m234_s0), .val (.int v16_248), .val (.int v17_262), .val (.int v18_298), .val (.int m314_s0), .val (.ref b21), .val (.int z48), .val (.ref b49), .val (.int z51), .val (.long bE), .second, .val (.int fr), .val (.long z52), .second, .val (.long sL), .second, .val (.int v31_1036_t), .val (.long z55), .second, .val (.long v34_1056_t), .second, .val (.int m1069_s0_t), .val (.long hi), .second, .val (.long lo), .second, .val (.long v44_1240_ttffft), .second, .val (.int (0 : Int32)), .val (.long v44_1240_ttffft), .second]) X55 hx (hb hby at_1317) rfl rfl ?_
                refine go_lload (pc' := 1321) X55 hx (hb hby at_1319) rfl rfl ?_
                refine go_lload (pc' := 1323) X55 hx (hb hby at_1321) rfl rfl ?_
                refine go_lifne (pc1 := 1324) (pc' := 1327) (pcT := 1331) X55 hx (hb hby at_1323) rfl (hb hby at_1324) rfl (by decide) (by decide) (fun c1324_ttffftt => (by exfalso; have y1 : 0 < hi.toInt := Int64.lt_iff_toInt_lt.mp c1189_tt; have y2 : ¬ 0 < v34_1056_t.toInt := (fun w => c1196_ttf (Int64.lt_iff_toInt_lt.mpr w)); have k9 : (9 : Int64).toInt = 9 := rfl; have y3 := congrArg Int64.toInt c1205_ttff; have y4 : ¬ 223372036854775807 < lo.toInt := (fun w => c1214_ttfff (Int64.lt_iff_toInt_lt.mpr w)); obtain ⟨g1, g2⟩ := own_in1 (k := v34_1056_t) (s := sgn) (by omega) hNN h0' h9' l0' (by omega) hw1235_ttffft hv44_1240_ttffft; exact c1324_ttffftt (Int64.toInt_inj.mp (hU.trans (g2.trans (own_sgn g1 ms.1 ms.2 (Or.inl ⟨c1306_ttffft, rfl⟩)).symm))))) (fun c1324_ttffftt => ?_)
                refine go_iconst (pc' := 1328) (v := 1) X55 hx (hb hby at_1327) rfl rfl ?_
                refine go_goto (pc' := 1332) X55 hx (hb hby at_1328) (by decide) (by decide) ?_
                refine go_retN (t := .boolean) X55 hx hret (by simp) hlk (hb hby at_1332) (by decide) (by decide) ?_
                exact rfl
              · refine go_lload (pc' := 1311) X55 hx (hb hby at_1309) rfl rfl ?_
                refine go_lneg (pc' := 1312) X55 hx (hb hby at_1311) rfl ?_
                refine go_goto (pc' := 1317) X55 hx (hb hby at_1312) (by decide) (by decide) ?_
                refine go_nameJ (fun v41_1317_ttffftf hv41_1317_ttffftf => ?_)
                refine go_lstore (pc' := 1319) (L' := #[.val (.long q0), .second, .val (.int p1), .val (.int p2), .val (.int p3), .val (.ref b1), .val (.long l6), .second, .val (.int d8), .val (.int v9_162), .val (.int m178_s0), .val (.int v11_186), .val (.int m202_s0), .val (.int v13_210), .val (.int v14_219), .val (.int m234_s0), .val (.int v16_248), .val (.int v17_262), .val (.int v18_298), .val (.int m314_s0), .val (.ref b21), .val (.int z48), .val (.ref b49), .val (.int z51), .val (.long bE), .second, .val (.int fr), .val (.long z52), .second, .val (.long sL), .second, .val (.int v31_1036_t), .val (.long z55), .second, .val (.long v34_1056_t), .second, .val (.int m1069_s0_t), .val (.long hi), .second, .val (.long lo), .second, .val (.long v41_1317_ttffftf), .second, .val (.int (0 : Int32)), .val (.long v44_1240_ttffft), .second]) X55 hx (hb hby at_1317) rfl rfl ?_
                refine go_lload (pc' := 1321) X55 hx (hb hby at_1319) rfl rfl ?_
                refine go_lload (pc' := 1323) X55 hx (hb hby at_1321) rfl rfl ?_
                refine go_lifne (pc1 := 1324) (pc' := 1327) (pcT := 1331) X55 hx (hb hby at_1323) rfl (hb hby at_1324) rfl (by decide) (by decide) (fun c1324_ttffftf => (by exfalso; have y1 : 0 < hi.toInt := Int64.lt_iff_toInt_lt.mp c1189_tt; have y2 : ¬ 0 < v34_1056_t.toInt := (fun w => c1196_ttf (Int64.lt_iff_toInt_lt.mpr w)); have k9 : (9 : Int64).toInt = 9 := rfl; have y3 := congrArg Int64.toInt c1205_ttff; have y4 : ¬ 223372036854775807 < lo.toInt := (fun w => c1214_ttfff (Int64.lt_iff_toInt_lt.mpr w)); obtain ⟨g1, g2⟩ := own_in1 (k := v34_1056_t) (s := sgn) (by omega) hNN h0' h9' l0' (by omega) hw1235_ttffft hv44_1240_ttffft; exact c1324_ttffftf (Int64.toInt_inj.mp (hU.trans (g2.trans (own_sgn g1 ms.1 ms.2 (Or.inr ⟨c1306_ttffft, hv41_1317_ttffftf⟩)).symm))))) (fun c1324_ttffftf => ?_)
                refine go_iconst (pc' := 1328) (v := 1) X55 hx (hb hby at_1327) rfl rfl ?_
                refine go_goto (pc' := 1332) X55 hx (hb hby at_1328) (by decide) (by decide) ?_
                refine go_retN (t := .boolean) X55 hx hret (by simp) hlk (hb hby at_1332) (by decide) (by decide) ?_
                exact rfl
            · refine go_iconst (pc' := 1218) (v := 1) X55 hx (hb hby at_1217) rfl rfl ?_
              refine go_goto (pc' := 1222) X55 hx (hb hby at_1218) (by decide) (by decide) ?_
              refine go_istore (pc' := 1224) (L' := #[.val (.long q0), .second, .val (.int p1), .val (.int p2), .val (.int p3), .val (.ref b1), .val (.long l6), .second, .val (.int d8), .val (.int v9_162), .val (.int m178_s0), .val (.int v11_186), .val (.int m202_s0), .val (.int v13_210), .val (.int v14_219), .val (.int m234_s0), .val (.int v16_248), .val (.int v17_262), .val (.int v18_298), .val (.int m314_s0), .val (.ref b21), .val (.int z48), .val (.ref b49), .val (.int z51), .val (.long bE), .second, .val (.int fr), .val (.long z52), .second, .val (.long sL), .second, .val (.int v31_1036_t), .val (.long z55), .second, .val (.long v34_1056_t), .second, .val (.int m1069_s0_t), .val (.long hi), .second, .val (.long lo), .second, .unset, .unset, .val (.int (1 : Int32)), .val (.long (0 : Int64)), .second]) X55 hx (hb hby at_1222) rfl rfl ?_
              refine go_iload (pc' := 1226) X55 hx (hb hby at_1224) rfl rfl ?_
              refine go_ifne (pc' := 1229) (pcT := 1293) X55 hx (hb hby at_1226) rfl (by decide) (by decide) (fun c1226_ttffff => ?_) (fun c1226_ttffff => (by exfalso; revert c1226_ttffff; decide))
              refine go_iload (pc' := 1295) X55 hx (hb hby at_1293) rfl rfl ?_
              refine go_ifeq (pc' := 1298) (pcT := 1304) X55 hx (hb hby at_1295) rfl (by decide) (by decide) (fun c1295_ttffff => (by exfalso; revert c1295_ttffff; decide)) (fun c1295_ttffff => ?_)
              refine go_ldc2 (pc' := 1301) X55 hx hZ hown (hw _ (List.mem_of_getElem? (i := 86) rfl)) (hb hby at_1298) rfl ?_
              refine go_goto (pc' := 1317) X55 hx (hb hby at_1301) (by decide) (by decide) ?_
              refine go_lstore (pc' := 1319) (L' := #[.val (.long q0), .second, .val (.int p1), .val (.int p2), .val (.int p3), .val (.ref b1), .val (.long l6), .second, .val (.int d8), .val (.int v9_162), .val (.int m178_s0), .val (.int v11_186), .val (.int m202_s0), .val (.int v13_210), .val (.int v14_219), .val (.int m234_s0), .val (.int v16_248), .val (.int v17_262), .val (.int v18_298), .val (.int m314_s0), .val (.ref b21), .val (.int z48), .val (.ref b49), .val (.int z51), .val (.long bE), .second, .val (.int fr), .val (.long z52), .second, .val (.long sL), .second, .val (.int v31_1036_t), .val (.long z55), .second, .val (.long v34_1056_t), .second, .val (.int m1069_s0_t), .val (.long hi), .second, .val (.long lo), .second, .val (.long (-9223372036854775808 : Int64)), .second, .val (.int (1 : Int32)), .val (.long (0 : Int64)), .second]) X55 hx (hb hby at_1317) rfl rfl ?_
              refine go_lload (pc' := 1321) X55 hx (hb hby at_1319) rfl rfl ?_
              refine go_lload (pc' := 1323) X55 hx (hb hby at_1321) rfl rfl ?_
              refine go_lifne (pc1 := 1324) (pc' := 1327) (pcT := 1331) X55 hx (hb hby at_1323) rfl (hb hby at_1324) rfl (by decide) (by decide) (fun c1324_ttffff => (by exfalso; have y1 : 0 < hi.toInt := Int64.lt_iff_toInt_lt.mp c1189_tt; have y2 : ¬ 0 < v34_1056_t.toInt := (fun w => c1196_ttf (Int64.lt_iff_toInt_lt.mpr w)); have k9 : (9 : Int64).toInt = 9 := rfl; have y3 := congrArg Int64.toInt c1205_ttff; have y4 : 223372036854775807 < lo.toInt := Int64.lt_iff_toInt_lt.mp c1214_ttfff; exact c1324_ttffff (Int64.toInt_inj.mp (hU.trans (own_ov2 kp (by omega)).symm)))) (fun c1324_ttffff => ?_)
              refine go_iconst (pc' := 1328) (v := 1) X55 hx (hb hby at_1327) rfl rfl ?_
              refine go_goto (pc' := 1332) X55 hx (hb hby at_1328) (by decide) (by decide) ?_
              refine go_retN (t := .boolean) X55 hx hret (by simp) hlk (hb hby at_1332) (by decide) (by decide) ?_
              exact rfl
    · refine go_lload (pc' := 1138) X55 hx (hb hby at_1136) rfl rfl ?_
      refine go_lneg (pc' := 1139) X55 hx (hb hby at_1138) rfl ?_
      refine go_l2i (pc' := 1140) X55 hx (hb hby at_1139) rfl ?_
      refine go_nameI (fun v43_1140_tf hv43_1140_tf => ?_)
      refine go_istore (pc' := 1142) (L' := #[.val (.long q0), .second, .val (.int p1), .val (.int p2), .val (.int p3), .val (.ref b1), .val (.long l6), .second, .val (.int d8), .val (.int v9_162), .val (.int m178_s0), .val (.int v11_186), .val (.int m202_s0), .val (.int v13_210), .val (.int v14_219), .val (.int m234_s0), .val (.int v16_248), .val (.int v17_262), .val (.int v18_298), .val (.int m314_s0), .val (.ref b21), .val (.int z48), .val (.ref b49), .val (.int z51), .val (.long bE), .second, .val (.int fr), .val (.long z52), .second, .val (.long sL), .second, .val (.int v31_1036_t), .val (.long z55), .second, .val (.long v34_1056_t), .second, .val (.int m1069_s0_t), .val (.long hi), .second, .val (.long lo), .second, .unset, .unset, .val (.int v43_1140_tf), .unset, .unset]) X55 hx (hb hby at_1140) rfl rfl ?_
      have kn : v34_1056_t.toInt < 0 := Int64.lt_iff_toInt_lt.mp c1133_t
      have kk : -18 ≤ v34_1056_t.toInt := (by have : ¬ v17_262.toInt = 19 := fun y => j1129_t (hz0 y); omega)
      have hdd := own_dd hv43_1140_tf kn kk
      refine go_lload (pc' := 1144) X55 hx (hb hby at_1142) rfl rfl ?_
      refine go_aload (pc' := 1146) X55 hx (hb hby at_1144) rfl rfl ?_
      refine go_bipush (pc' := 1148) (v := 18) X55 hx (hb hby at_1146) rfl rfl ?_
      refine go_iload (pc' := 1150) X55 hx (hb hby at_1148) rfl rfl ?_
      refine go_isub (pc' := 1151) X55 hx (hb hby at_1150) rfl ?_
      refine go_laload (pc' := 1152) X55 hx hZ A_b1 (by rw [own_sub18 (by omega) (by omega)]; omega) (by rw [own_sub18 (by omega) (by omega)]; omega) (hb hby at_1151) rfl (fun w1151_tf hw1151_tf => ?_)
      refine go_lmul (pc' := 1153) X55 hx (hb hby at_1152) rfl ?_
      refine go_lload (pc' := 1155) X55 hx (hb hby at_1153) rfl rfl ?_
      refine go_aload (pc' := 1157) X55 hx (hb hby at_1155) rfl rfl ?_
      refine go_iload (pc' := 1159) X55 hx (hb hby at_1157) rfl rfl ?_
      refine go_laload (pc' := 1160) X55 hx hZ A_b1 (by omega) (by omega) (hb hby at_1159) rfl (fun w1159_tf hw1159_tf => ?_)
      refine go_ldiv (pc' := 1161) X55 hx (hb hby at_1160) rfl (by rw [hw1159_tf]; exact own_pnz _ (by omega) (by omega)) ?_
      refine go_ladd (pc' := 1162) X55 hx (hb hby at_1161) rfl ?_
      refine go_nameJ (fun v44_1162_tf hv44_1162_tf => ?_)
      refine go_lstore (pc' := 1164) (L' := #[.val (.long q0), .second, .val (.int p1), .val (.int p2), .val (.int p3), .val (.ref b1), .val (.long l6), .second, .val (.int d8), .val (.int v9_162), .val (.int m178_s0), .val (.int v11_186), .val (.int m202_s0), .val (.int v13_210), .val (.int v14_219), .val (.int m234_s0), .val (.int v16_248), .val (.int v17_262), .val (.int v18_298), .val (.int m314_s0), .val (.ref b21), .val (.int z48), .val (.ref b49), .val (.int z51), .val (.long bE), .second, .val (.int fr), .val (.long z52), .second, .val (.long sL), .second, .val (.int v31_1036_t), .val (.long z55), .second, .val (.long v34_1056_t), .second, .val (.int m1069_s0_t), .val (.long hi), .second, .val (.long lo), .second, .unset, .unset, .val (.int v43_1140_tf), .val (.long v44_1162_tf), .second]) X55 hx (hb hby at_1162) rfl rfl ?_
      have hq := own_kneg hNN h0' h9' l0' l9' kn kk hdd hw1151_tf hw1159_tf hv44_1162_tf
      refine go_iload (pc' := 1166) X55 hx (hb hby at_1164) rfl rfl ?_
      refine go_ifeq (pc' := 1169) (pcT := 1175) X55 hx (hb hby at_1166) rfl (by decide) (by decide) (fun c1166_tf => ?_) (fun c1166_tf => ?_)
      · refine go_lload (pc' := 1177) X55 hx (hb hby at_1175) rfl rfl ?_
        refine go_lstore (pc' := 1179) (L' := #[.val (.long q0), .second, .val (.int p1), .val (.int p2), .val (.int p3), .val (.ref b1), .val (.long l6), .second, .val (.int d8), .val (.int v9_162), .val (.int m178_s0), .val (.int v11_186), .val (.int m202_s0), .val (.int v13_210), .val (.int v14_219), .val (.int m234_s0), .val (.int v16_248), .val (.int v17_262), .val (.int v18_298), .val (.int m314_s0), .val (.ref b21), .val (.int z48), .val (.ref b49), .val (.int z51), .val (.long bE), .second, .val (.int fr), .val (.long z52), .second, .val (.long sL), .second, .val (.int v31_1036_t), .val (.long z55), .second, .val (.long v34_1056_t), .second, .val (.int m1069_s0_t), .val (.long hi), .second, .val (.long lo), .second, .val (.long v44_1162_tf), .second, .val (.int v43_1140_tf), .val (.long v44_1162_tf), .second]) X55 hx (hb hby at_1177) rfl rfl ?_
        refine go_goto (pc' := 1319) X55 hx (hb hby at_1179) (by decide) (by decide) ?_
        refine go_lload (pc' := 1321) X55 hx (hb hby at_1319) rfl rfl ?_
        refine go_lload (pc' := 1323) X55 hx (hb hby at_1321) rfl rfl ?_
        refine go_lifne (pc1 := 1324) (pc' := 1327) (pcT := 1331) X55 hx (hb hby at_1323) rfl (hb hby at_1324) rfl (by decide) (by decide) (fun c1324_tft => (by exfalso; exact c1324_tft (Int64.toInt_inj.mp (hU.trans ((own_rneg kn).trans (own_sgn hq ms.1 ms.2 (Or.inl ⟨c1166_tf, rfl⟩)).symm))))) (fun c1324_tft => ?_)
        refine go_iconst (pc' := 1328) (v := 1) X55 hx (hb hby at_1327) rfl rfl ?_
        refine go_goto (pc' := 1332) X55 hx (hb hby at_1328) (by decide) (by decide) ?_
        refine go_retN (t := .boolean) X55 hx hret (by simp) hlk (hb hby at_1332) (by decide) (by decide) ?_
        exact rfl
      · refine go_lload (pc' := 1171) X55 hx (hb hby at_1169) rfl rfl ?_
        refine go_lneg (pc' := 1172) X55 hx (hb hby at_1171) rfl ?_
        refine go_goto (pc' := 1177) X55 hx (hb hby at_1172) (by decide) (by decide) ?_
        refine go_nameJ (fun v41_1177_tff hv41_1177_tff => ?_)
        refine go_lstore (pc' := 1179) (L' := #[.val (.long q0), .second, .val (.int p1), .val (.int p2), .val (.int p3), .val (.ref b1), .val (.long l6), .second, .val (.int d8), .val (.int v9_162), .val (.int m178_s0), .val (.int v11_186), .val (.int m202_s0), .val (.int v13_210), .val (.int v14_219), .val (.int m234_s0), .val (.int v16_248), .val (.int v17_262), .val (.int v18_298), .val (.int m314_s0), .val (.ref b21), .val (.int z48), .val (.ref b49), .val (.int z51), .val (.long bE), .second, .val (.int fr), .val (.long z52), .second, .val (.long sL), .second, .val (.int v31_1036_t), .val (.long z55), .second, .val (.long v34_1056_t), .second, .val (.int m1069_s0_t), .val (.long hi), .second, .val (.long lo), .second, .val (.long v41_1177_tff), .second, .val (.int v43_1140_tf), .val (.long v44_1162_tf), .second]) X55 hx (hb hby at_1177) rfl rfl ?_
        refine go_goto (pc' := 1319) X55 hx (hb hby at_1179) (by decide) (by decide) ?_
        refine go_lload (pc' := 1321) X55 hx (hb hby at_1319) rfl rfl ?_
        refine go_lload (pc' := 1323) X55 hx (hb hby at_1321) rfl rfl ?_
        refine go_lifne (pc1 := 1324) (pc' := 1327) (pcT := 1331) X55 hx (hb hby at_1323) rfl (hb hby at_1324) rfl (by decide) (by decide) (fun c1324_tff => (by exfalso; exact c1324_tff (Int64.toInt_inj.mp (hU.trans ((own_rneg kn).trans (own_sgn hq ms.1 ms.2 (Or.inr ⟨c1166_tf, hv41_1177_tff⟩)).symm))))) (fun c1324_tff => ?_)
        refine go_iconst (pc' := 1328) (v := 1) X55 hx (hb hby at_1327) rfl rfl ?_
        refine go_goto (pc' := 1332) X55 hx (hb hby at_1328) (by decide) (by decide) ?_
        refine go_retN (t := .boolean) X55 hx hret (by simp) hlk (hb hby at_1332) (by decide) (by decide) ?_
        exact rfl
  · refine go_iload (pc' := 926) X51 hx (hb hby at_924) rfl rfl ?_
    refine go_ifne (pc' := 929) (pcT := 933) X51 hx (hb hby at_926) rfl (by decide) (by decide) (fun c926_f => (by exfalso; rcases ho with ⟨a, -⟩ | ⟨-, a, -⟩; exact c926_f a; exact a (by have q := own_eqI c921; have := own_k0; obtain ⟨n0', n1', sk', hs', h'⟩ := PP; omega))) (fun c926_f => ?_)
    refine go_iconst (pc' := 930) (v := 1) X51 hx (hb hby at_929) rfl rfl ?_
    refine go_goto (pc' := 934) X51 hx (hb hby at_930) (by decide) (by decide) ?_
    refine go_retN (t := .boolean) X51 hx hret (by simp) hlk (hb hby at_934) (by decide) (by decide) ?_
    exact rfl
set_option maxRecDepth 65536 in
set_option maxHeartbeats 40000000 in
theorem comes_1 {Post : Tables → Env → Array Value → State → Outcome → State → Prop} (hpost : ∀ tb e args s v u, (limb_1_1.after args s (.returned v) u = true ∧ limb_1_2.after args s (.returned v) u = true ∧ True) → FrameEnd s (.returned v) u (Jvm.fieldLocs frame_1_writes args s ++ Jvm.arrayLocs frame_1_arrays args s ++ Jvm.staticLocs frame_1_statics s) 16 192 → Post tb e args s (.returned v) u) :
    ArmFor flags0 classFile x code maxLocals ret World_1 tables_1 room_1 Calls_1 rest_1 Pre_1 Post := by
  intro l hfl _ _ p e ha hc hk s m args below hf hA hF happ hP
  obtain ⟨hcalls, hrest, hpre⟩ := hP
  obtain ⟨-, -, -, hnamed, -, -, -, hat⟩ := (Spec.applies_iff hf).mp happ
  obtain ⟨hg, hn⟩ := and_e (Cond.before_iff.mp (show (Jvm.Cond.and given_1 narrow_1).before args s = true from hpre))
  obtain ⟨g1, g2⟩ := and_e hg
  obtain ⟨g3, g4⟩ := and_e g2
  obtain ⟨g5, g6⟩ := and_e g4
  obtain ⟨g7, g8⟩ := and_e g6
  obtain ⟨w0, w1, w2, w3, rfl⟩ : ∃ w0 w1 w2 w3 : Value, args = #[w0, w1, w2, w3] := by
    have hs : args.size = 4 := by simpa [Cond.value, given_1] using g1
    obtain ⟨L⟩ := args
    match L, hs with
    | [w0, w1, w2, w3], _ => exact ⟨w0, w1, w2, w3, rfl⟩
  have hw := fun d (hd : d ∈ tables_1) => atoms_spec (ws := Jvm.Cond.code x code maxLocals ret :: tables_1) hat d (List.mem_cons_of_mem _ hd)
  obtain ⟨i0, ei0⟩ := isL_v g3
  obtain rfl : w0 = (.long i0) := Option.some.inj ei0
  obtain ⟨i1, ei1⟩ := is_v g5
  obtain rfl : w1 = (.int i1) := Option.some.inj ei1
  obtain ⟨i2, ei2⟩ := is_v g7
  obtain rfl : w2 = (.int i2) := Option.some.inj ei2
  obtain ⟨i3, ei3⟩ := is_v g8
  obtain rfl : w3 = (.int i3) := Option.some.inj ei3
  obtain ⟨n, o, h1, h2, h3, _, L, rfl, ⟨⟨_, rfl, rfl⟩, N⟩, hq⟩ := ct_0 l s _ hw (h0 := s.heap) (n0 := s.heap.size) (Nat.le_refl _) i0 i1 i2 i3 tables_1 p e ha hc hk s m _ below hf ((Spec.applies_iff_loose hf).mp happ).1 ⟨rfl, State.Warmed39.refl s, rfl⟩ trivial
  refine ⟨n, _, h1, h2, h3, hpost _ _ _ _ _ _ ⟨Cond.after_iff.mpr rfl, Cond.after_iff.mpr (eq_i res_at (Term.int_eval (1)) rfl), trivial⟩ ⟨hq.1, hq.2.1, (hq.2.2.sift fun y hy => Or.inr (N y hy)).mono (by decide) (by decide)⟩⟩
theorem main_1_1 : Claimed_1_1 := comes_1 fun _ _ _ _ _ _ h hF => ⟨h.1, hF⟩
theorem main_1_2 : Claimed_1_2 := comes_1 fun _ _ _ _ _ _ h hF => ⟨h.2.1, hF⟩
end Jvm.Pilot.@@N@@
namespace Jvm.Pilot.@@N@@
open Jvm Jvm.ClassFile Sem Op Lib Jvm.Free Jvm.Stand Jvm.Pilot.@@N@@.Jvm.D
/-! MADE BY PROGRAM (witnessworld.py) out of the Statement's table words and the real class files: 12 classes; the members and pool entries that the words name. The judged class is class 1, her method 1. -/
namespace start1
open Jvm.ClassFile
def u (s : String) : CpInfo := .utf8 (stringToUtf16 s)
/-- a pool by its gaps: so many unusable entries, then the entry; so many at the end -/
def gap : Nat → List CpInfo → List CpInfo
  | 0, r => r
  | n + 1, r => .unusable :: gap n r
def poolList (es : List (Nat × CpInfo)) (last : Nat) : List CpInfo := es.foldr (fun e r => gap e.1 (e.2 :: r)) (gap last [])
def pool (es : List (Nat × CpInfo)) (last : Nat) : Array CpInfo := ⟨poolList es last⟩
def fileOf (pool : Array CpInfo) (this : Nat) (attrs : Array Attribute := #[]) (ms : Array MethodInfo := #[]) (fl : Nat := 33) (sup : Nat := 0) (ifs : Array Nat := #[]) (fds : Array FieldInfo := #[]) : ClassFile where
  minorVersion := 0
  majorVersion := 65
  constantPool := pool
  accessFlags := fl
  thisClass := this
  superClass := sup
  interfaces := ifs
  fields := fds
  methods := ms
  attributes := attrs
def plain (name : String) (sup : Option ClassId) : Class where
  name := name
  kind := .ordinary
  loader := none
  accessFlags := 33
  super := sup
  interfaces := #[]
  cf := none
  fields := #[]
  methods := #[]
  instanceTypes := #[]
  staticTypes := #[]
  resolved := #[]
  callSites := []
  init := .initialized
  statics := none
  mirror := none

def pool0 : Array CpInfo := pool [(5, u "<init>"), (0, u "()V"), (1, .class_ 10), (1, u "java/lang/Object")] 113

def k0c0 : Code := { maxStack := 0, maxLocals := 1, code := object_method_1_code, exceptionTable := #[], attributes := #[] }
def k0m0 : Method := { name := "<init>", desc := "()V", sig := { parameters := [], returnType := none }, accessFlags := 1, code := some k0c0 }
/-- java/lang/Object -/
def k0 : Class := { plain "java/lang/Object" none with
  accessFlags := 33
  interfaces := #[]
  cf := some (fileOf pool0 8 #[] #[{ accessFlags := 1, nameIndex := 5, descriptorIndex := 6, attributes := #[] }] 33 0 #[] #[])
  fields := #[]
  methods := #[k0m0]
  instanceTypes := #[]
  staticTypes := #[]
  resolved := Array.replicate 124 none
  statics := none }

def pool1 : Array CpInfo := pool [(2, .class_ 4), (0, .nameAndType 5 6), (0, u "java/lang/Object"), (0, u "<init>"), (0, u "()V"), (0, .long 10), (1, .long 100), (1, .long 1000), (1, .long 10000), (1, .long 100000), (1, .long 1000000), (1, .long 10000000), (1, .long 100000000), (1, .long 1000000000), (1, .long 10000000000), (1, .long 100000000000), (1, .long 1000000000000), (1, .long 10000000000000), (1, .long 100000000000000), (1, .long 1000000000000000), (1, .long 10000000000000000), (1, .long 100000000000000000), (1, .long 1000000000000000000), (3, .long 9223372036854775807), (1, .methodref 48 49), (0, .class_ 50), (0, .nameAndType 51 52), (0, u "com/example/tracefold/tracefold/trace/DecimalTextUnitsPinLaw"), (0, u "put"), (0, u "([BIZI)I"), (0, .methodref 48 54), (0, .nameAndType 55 56), (0, u "step"), (0, u "([BIIIIIJ[J)I"), (0, .class_ 58), (0, u "com/example/tracefold/tracefold/trace/DecimalText"), (0, .methodref 57 3), (0, .methodref 57 61), (0, .nameAndType 62 63), (0, u "read"), (0, u "([BII)Z"), (0, .methodref 65 66), (0, .class_ 67), (0, .nameAndType 68 69), (0, u "java/lang/Math"), (0, u "max"), (0, u "(JJ)J"), (0, .methodref 57 71), (0, .nameAndType 72 73), (0, u "units"), (0, u "(I)J"), (0, .long 9), (1, .long 223372036854775807), (1, .long 18), (1, .long 9223372036854775808), (3, u "law"), (0, u "(JIII)Z")] 7

def k1m0 : Method := { name := "<init>", desc := "()V", sig := { parameters := [], returnType := none }, accessFlags := 1, code := none }
def k1c1 : Code := { maxStack := 9, maxLocals := 46, code := code, exceptionTable := #[], attributes := #[] }
def k1m1 : Method := { name := "law", desc := "(JIII)Z", sig := { parameters := [.long, .int, .int, .int], returnType := some .boolean }, accessFlags := 9, code := some k1c1 }
def k1c2 : Code := { maxStack := 3, maxLocals := 4, code := method_3_code, exceptionTable := #[], attributes := #[] }
def k1m2 : Method := { name := "put", desc := "([BIZI)I", sig := { parameters := [(.array .byte), .int, .boolean, .int], returnType := some .int }, accessFlags := 10, code := some k1c2 }
def k1c3 : Code := { maxStack := 5, maxLocals := 11, code := method_4_code, exceptionTable := #[], attributes := #[] }
def k1m3 : Method := { name := "step", desc := "([BIIIIIJ[J)I", sig := { parameters := [(.array .byte), .int, .int, .int, .int, .int, .long, (.array .long)], returnType := some .int }, accessFlags := 10, code := some k1c3 }
/-- com/example/tracefold/tracefold/trace/DecimalTextUnitsPinLaw -/
def k1 : Class := { plain "com/example/tracefold/tracefold/trace/DecimalTextUnitsPinLaw" (some 0) with
  accessFlags := 49
  interfaces := #[]
  cf := some (fileOf pool1 48 #[] #[{ accessFlags := 1, nameIndex := 5, descriptorIndex := 6, attributes := #[] }, { accessFlags := 9, nameIndex := 84, descriptorIndex := 85, attributes := #[] }, { accessFlags := 10, nameIndex := 51, descriptorIndex := 52, attributes := #[] }, { accessFlags := 10, nameIndex := 55, descriptorIndex := 56, attributes := #[] }] 49 2 #[] #[])
  fields := #[]
  methods := #[k1m0, k1m1, k1m2, k1m3]
  instanceTypes := #[]
  staticTypes := #[]
  resolved := Array.replicate 93 none
  statics := none }

def pool2 : Array CpInfo := pool [(3, .methodref 4 5), (0, .class_ 6), (0, .nameAndType 7 8), (0, u "java/lang/Object"), (0, u "<init>"), (0, u "()V"), (0, .methodref 10 11), (0, .class_ 12), (0, .nameAndType 13 14), (0, u "com/example/tracefold/tracefold/trace/DecimalText"), (0, u "digits"), (0, u "([BII)I"), (0, .methodref 10 16), (0, .nameAndType 17 18), (0, u "isDigit"), (0, u "(B)Z"), (0, .long 1000000000000000), (1, .long 10), (1, .methodref 24 25), (0, .class_ 26), (0, .nameAndType 27 28), (0, u "java/lang/Math"), (0, u "min"), (0, u "(JJ)J"), (0, .methodref 10 30), (0, .nameAndType 31 14), (0, u "skipZeros"), (0, .fieldref 10 33), (0, .nameAndType 34 35), (0, u "text"), (0, u "[B"), (0, .fieldref 10 37), (0, .nameAndType 38 39), (0, u "sign"), (0, u "I"), (0, .fieldref 10 41), (0, .nameAndType 42 39), (0, u "first"), (0, .fieldref 10 44), (0, .nameAndType 45 39), (0, u "end"), (0, .fieldref 10 47), (0, .nameAndType 48 39), (0, u "point"), (0, .fieldref 10 50), (0, .nameAndType 51 52), (0, u "exponent"), (0, u "J"), (0, .methodref 24 54), (0, .nameAndType 55 56), (0, u "abs"), (0, u "(J)J"), (0, .long 999999999), (1, .fieldref 10 60), (0, .nameAndType 61 62), (0, u "literal"), (0, u "Z"), (0, .long 18446744073709551615), (1, .fieldref 10 66), (0, .nameAndType 67 52), (0, u "whole"), (0, .long 9223372036854775808), (20, .long 9223372036854775807), (1, .long 922337203685477580), (1, u "LARGEST_LITERAL_EXPONENT"), (1, u "SATURATED"), (0, u "NO_INTEGER"), (0, u "MOST_INTEGER_DIGITS"), (3, u "read"), (0, u "([BII)Z"), (9, u "units"), (0, u "(I)J")] 3

def k2c0 : Code := { maxStack := 1, maxLocals := 1, code := prog_139_method_1_code, exceptionTable := #[], attributes := #[] }
def k2m0 : Method := { name := "<init>", desc := "()V", sig := { parameters := [], returnType := none }, accessFlags := 0, code := some k2c0 }
def k2c1 : Code := { maxStack := 6, maxLocals := 17, code := prog_139_method_2_code, exceptionTable := #[], attributes := #[] }
def k2m1 : Method := { name := "read", desc := "([BII)Z", sig := { parameters := [(.array .byte), .int, .int], returnType := some .boolean }, accessFlags := 0, code := some k2c1 }
def k2c2 : Code := { maxStack := 6, maxLocals := 10, code := prog_139_method_7_code, exceptionTable := #[], attributes := #[] }
def k2m2 : Method := { name := "units", desc := "(I)J", sig := { parameters := [.int], returnType := some .long }, accessFlags := 0, code := some k2c2 }
def k2c3 : Code := { maxStack := 2, maxLocals := 4, code := prog_139_method_10_code, exceptionTable := #[], attributes := #[] }
def k2m3 : Method := { name := "digits", desc := "([BII)I", sig := { parameters := [(.array .byte), .int, .int], returnType := some .int }, accessFlags := 8, code := some k2c3 }
def k2c4 : Code := { maxStack := 2, maxLocals := 4, code := prog_139_method_11_code, exceptionTable := #[], attributes := #[] }
def k2m4 : Method := { name := "skipZeros", desc := "([BII)I", sig := { parameters := [(.array .byte), .int, .int], returnType := some .int }, accessFlags := 10, code := some k2c4 }
def k2c5 : Code := { maxStack := 2, maxLocals := 1, code := prog_139_method_12_code, exceptionTable := #[], attributes := #[] }
def k2m5 : Method := { name := "isDigit", desc := "(B)Z", sig := { parameters := [.byte], returnType := some .boolean }, accessFlags := 8, code := some k2c5 }
/-- com/example/tracefold/tracefold/trace/DecimalText -/
def k2 : Class := { plain "com/example/tracefold/tracefold/trace/DecimalText" (some 0) with
  accessFlags := 48
  interfaces := #[]
  cf := some (fileOf pool2 10 #[] #[{ accessFlags := 0, nameIndex := 7, descriptorIndex := 8, attributes := #[] }, { accessFlags := 0, nameIndex := 101, descriptorIndex := 102, attributes := #[] }, { accessFlags := 0, nameIndex := 112, descriptorIndex := 113, attributes := #[] }, { accessFlags := 8, nameIndex := 13, descriptorIndex := 14, attributes := #[] }, { accessFlags := 10, nameIndex := 31, descriptorIndex := 14, attributes := #[] }, { accessFlags := 8, nameIndex := 17, descriptorIndex := 18, attributes := #[] }] 48 4 #[] #[{ accessFlags := 24, nameIndex := 93, descriptorIndex := 52, attributes := #[] }, { accessFlags := 26, nameIndex := 95, descriptorIndex := 52, attributes := #[] }, { accessFlags := 24, nameIndex := 96, descriptorIndex := 52, attributes := #[] }, { accessFlags := 24, nameIndex := 97, descriptorIndex := 39, attributes := #[] }, { accessFlags := 2, nameIndex := 34, descriptorIndex := 35, attributes := #[] }, { accessFlags := 2, nameIndex := 38, descriptorIndex := 39, attributes := #[] }, { accessFlags := 2, nameIndex := 42, descriptorIndex := 39, attributes := #[] }, { accessFlags := 2, nameIndex := 45, descriptorIndex := 39, attributes := #[] }, { accessFlags := 2, nameIndex := 48, descriptorIndex := 39, attributes := #[] }, { accessFlags := 2, nameIndex := 51, descriptorIndex := 52, attributes := #[] }, { accessFlags := 2, nameIndex := 61, descriptorIndex := 62, attributes := #[] }, { accessFlags := 2, nameIndex := 67, descriptorIndex := 52, attributes := #[] }])
  fields := #[{ name := "LARGEST_LITERAL_EXPONENT", type := .long, accessFlags := 24, slot := 0, constantValue := 0 }, { name := "SATURATED", type := .long, accessFlags := 26, slot := 1, constantValue := 0 }, { name := "NO_INTEGER", type := .long, accessFlags := 24, slot := 2, constantValue := 0 }, { name := "MOST_INTEGER_DIGITS", type := .int, accessFlags := 24, slot := 3, constantValue := 0 }, { name := "text", type := (.array .byte), accessFlags := 2, slot := 0, constantValue := 0 }, { name := "sign", type := .int, accessFlags := 2, slot := 1, constantValue := 0 }, { name := "first", type := .int, accessFlags := 2, slot := 2, constantValue := 0 }, { name := "end", type := .int, accessFlags := 2, slot := 3, constantValue := 0 }, { name := "point", type := .int, accessFlags := 2, slot := 4, constantValue := 0 }, { name := "exponent", type := .long, accessFlags := 2, slot := 5, constantValue := 0 }, { name := "literal", type := .boolean, accessFlags := 2, slot := 6, constantValue := 0 }, { name := "whole", type := .long, accessFlags := 2, slot := 7, constantValue := 0 }]
  methods := #[k2m0, k2m1, k2m2, k2m3, k2m4, k2m5]
  instanceTypes := #[(.array .byte), .int, .int, .int, .int, .long, .boolean, .long]
  staticTypes := #[.long, .long, .long, .int]
  resolved := Array.replicate 117 none
  statics := none }

def pool3 : Array CpInfo := pool [(1, .class_ 2), (0, u "java/lang/Math"), (1, .class_ 6), (1, u "java/lang/Object"), (0, u "<init>"), (0, u "()V"), (89, .class_ 100), (1, u "java/lang/Math$RandomNumberGeneratorHolder"), (20, u "(JJ)J"), (2, u "abs"), (0, u "(J)J"), (46, u "negativeZeroFloatBits"), (0, u "J"), (2, u "negativeZeroDoubleBits"), (21, u "max"), (2, u "min"), (43, u "$assertionsDisabled"), (0, u "Z"), (91, u "twoToTheDoubleScaleDown"), (0, u "D"), (4, u "twoToTheDoubleScaleUp"), (9, u "E"), (3, u "PI"), (2, u "TAU"), (2, u "DEGREES_TO_RADIANS"), (0, u "RADIANS_TO_DEGREES")] 94

def k3m0 : Method := { name := "<init>", desc := "()V", sig := { parameters := [], returnType := none }, accessFlags := 2, code := none }
def k3c1 : Code := { maxStack := 4, maxLocals := 2, code := jdk_29_method_61_code, exceptionTable := #[], attributes := #[] }
def k3m1 : Method := { name := "abs", desc := "(J)J", sig := { parameters := [.long], returnType := some .long }, accessFlags := 9, code := some k3c1 }
def k3c2 : Code := { maxStack := 4, maxLocals := 4, code := jdk_29_method_66_code, exceptionTable := #[], attributes := #[] }
def k3m2 : Method := { name := "max", desc := "(JJ)J", sig := { parameters := [.long, .long], returnType := some .long }, accessFlags := 9, code := some k3c2 }
def k3c3 : Code := { maxStack := 4, maxLocals := 4, code := jdk_29_method_70_code, exceptionTable := #[], attributes := #[] }
def k3m3 : Method := { name := "min", desc := "(JJ)J", sig := { parameters := [.long, .long], returnType := some .long }, accessFlags := 9, code := some k3c3 }
/-- java/lang/Math -/
def k3 : Class := { plain "java/lang/Math" (some 0) with
  accessFlags := 49
  interfaces := #[]
  cf := some (fileOf pool3 1 #[.nestMembers #[98]] #[{ accessFlags := 2, nameIndex := 7, descriptorIndex := 8, attributes := #[] }, { accessFlags := 9, nameIndex := 124, descriptorIndex := 125, attributes := #[] }, { accessFlags := 9, nameIndex := 198, descriptorIndex := 121, attributes := #[] }, { accessFlags := 9, nameIndex := 201, descriptorIndex := 121, attributes := #[] }] 49 4 #[] #[{ accessFlags := 25, nameIndex := 354, descriptorIndex := 339, attributes := #[] }, { accessFlags := 25, nameIndex := 358, descriptorIndex := 339, attributes := #[] }, { accessFlags := 25, nameIndex := 361, descriptorIndex := 339, attributes := #[] }, { accessFlags := 26, nameIndex := 364, descriptorIndex := 339, attributes := #[] }, { accessFlags := 26, nameIndex := 365, descriptorIndex := 339, attributes := #[] }, { accessFlags := 26, nameIndex := 172, descriptorIndex := 173, attributes := #[] }, { accessFlags := 26, nameIndex := 176, descriptorIndex := 173, attributes := #[] }, { accessFlags := 8, nameIndex := 344, descriptorIndex := 339, attributes := #[] }, { accessFlags := 8, nameIndex := 338, descriptorIndex := 339, attributes := #[] }, { accessFlags := 4120, nameIndex := 245, descriptorIndex := 246, attributes := #[] }])
  fields := #[{ name := "E", type := .double, accessFlags := 25, slot := 0, constantValue := 0 }, { name := "PI", type := .double, accessFlags := 25, slot := 1, constantValue := 0 }, { name := "TAU", type := .double, accessFlags := 25, slot := 2, constantValue := 0 }, { name := "DEGREES_TO_RADIANS", type := .double, accessFlags := 26, slot := 3, constantValue := 0 }, { name := "RADIANS_TO_DEGREES", type := .double, accessFlags := 26, slot := 4, constantValue := 0 }, { name := "negativeZeroFloatBits", type := .long, accessFlags := 26, slot := 5, constantValue := 0 }, { name := "negativeZeroDoubleBits", type := .long, accessFlags := 26, slot := 6, constantValue := 0 }, { name := "twoToTheDoubleScaleUp", type := .double, accessFlags := 8, slot := 7, constantValue := 0 }, { name := "twoToTheDoubleScaleDown", type := .double, accessFlags := 8, slot := 8, constantValue := 0 }, { name := "$assertionsDisabled", type := .boolean, accessFlags := 4120, slot := 9, constantValue := 0 }]
  methods := #[k3m0, k3m1, k3m2, k3m3]
  instanceTypes := #[]
  staticTypes := #[.double, .double, .double, .double, .double, .long, .long, .double, .double, .boolean]
  resolved := Array.replicate 460 none
  statics := none }

def pool4 : Array CpInfo := pool [(1, u "java/lang/Cloneable"), (0, .class_ 1), (0, u "java/lang/Object"), (0, .class_ 3)] 3

/-- java/lang/Cloneable -/
def k4 : Class := { plain "java/lang/Cloneable" (some 0) with
  accessFlags := 1537
  interfaces := #[]
  cf := some (fileOf pool4 2 #[] #[] 1537 4 #[] #[])
  fields := #[]
  methods := #[]
  instanceTypes := #[]
  staticTypes := #[]
  resolved := Array.replicate 8 none
  statics := none }

def pool5 : Array CpInfo := pool [(1, u "java/io/Serializable"), (0, .class_ 1), (0, u "java/lang/Object"), (0, .class_ 3)] 3

/-- java/io/Serializable -/
def k5 : Class := { plain "java/io/Serializable" (some 0) with
  accessFlags := 1537
  interfaces := #[]
  cf := some (fileOf pool5 2 #[] #[] 1537 4 #[] #[])
  fields := #[]
  methods := #[]
  instanceTypes := #[]
  staticTypes := #[]
  resolved := Array.replicate 8 none
  statics := none }

/-- the primitive byte -/
def k6 : Class := { plain "byte" none with kind := .primitive 'B', accessFlags := 0x411 }
/-- [B -/
def k7 : Class := { plain "[B" (some 0) with kind := .array 6 .byte, interfaces := #[4, 5], accessFlags := 1041 }

/-- the primitive int -/
def k8 : Class := { plain "int" none with kind := .primitive 'I', accessFlags := 0x411 }
/-- [I -/
def k9 : Class := { plain "[I" (some 0) with kind := .array 8 .int, interfaces := #[4, 5], accessFlags := 1041 }

/-- the primitive long -/
def k10 : Class := { plain "long" none with kind := .primitive 'J', accessFlags := 0x411 }
/-- [J -/
def k11 : Class := { plain "[J" (some 0) with kind := .array 10 .long, interfaces := #[4, 5], accessFlags := 1041 }

def heap : Heap := #[]
def classes : Array Class := #[k0, k1, k2, k3, k4, k5, k6, k7, k8, k9, k10, k11]
def interned : List (Array UInt16 × Addr) := []
def slotsUsed : Nat := 0
def theMethod : MethodId := ⟨1, 1⟩
def args0 : Array Value := #[.long 7, .int 3, .int 3, .int 0]
def aboutOver (below : List Frame) : State where
  vm := { classes := classes, interned := interned.toArray }
  heap := heap
  slotsUsed := slotsUsed
  threads := #[{ frames := .invoking theMethod args0 :: below }]
def below0 : List Frame := [.native { method := ⟨0, 0⟩, args := #[] }]
def about1 : State := aboutOver below0
def p0 : Program := .bare "" "" ""
def e0 : Env := launch0.env 0 0 0
theorem w_frames : about1.frames = Frame.invoking theMethod args0 :: below0 := rfl
set_option maxRecDepth 65536 in
theorem w_args : argsFit about1.vm theMethod args0 = true := by decide +kernel
set_option maxRecDepth 65536 in
theorem w_heap : heapFits about1 = true := by decide +kernel
set_option maxRecDepth 65536 in
theorem w_runnable : about1.curStatus? = some .runnable := by decide +kernel
set_option maxRecDepth 65536 in
theorem w_alone : about1.alone = true := by decide +kernel
set_option maxRecDepth 65536 in
theorem w_named : about1.methodNamed? x = some theMethod := by decide +kernel
set_option maxRecDepth 65536 in
theorem w_hears : about1.hears theMethod below0 = true := by decide +kernel
set_option maxRecDepth 65536 in
theorem w_ripe : about1.ripe theMethod args0 below0 = true := by decide +kernel
theorem w_running : about1.status = .running := rfl
set_option maxRecDepth 65536 in
theorem w_room : about1.hasRoom e0.platform room_1 = true :=
  launch0.hasRoom_least _ room_1 (by decide +kernel) (by decide +kernel) (by decide +kernel) (by decide +kernel) (by decide +kernel) (by decide +kernel)
theorem allAtoms_all (ts : List Jvm.Cond) (a : Array Jvm.Value) (st : Jvm.State) : (allAtoms ts).before a st = ts.all (fun c => c.before a st) := by
  induction ts with
  | nil => rfl
  | cons c t ih =>
    show (Jvm.Cond.and c (allAtoms t)).before a st = _
    rw [Jvm.Cond.before_and, ih, List.all_cons]
def words1 : List Jvm.Cond := Jvm.Cond.code x code maxLocals ret :: tables_1
/-- a 'code' word, met by the world's own term for the bytes: nothing is compared byte by byte -/
theorem code_word {y : MethodName} {bytes : ByteArray} {mx : Nat} {rt : Option FieldType} {a : Array Value} {s : State} {m : MethodId} {meth : Method} {c : Code} (h1 : s.methodNamed? y = some m) (h2 : s.vm.method? m = some meth) (h3 : meth.code = some c) (h4 : c.code = bytes)
    (h5 : (c.maxLocals == mx && c.exceptionTable.isEmpty && decide (c.maxStack ≤ mostOperands) && decide (meth.sig.returnType = rt) && !meth.locks && decide (parseMethodDescriptor y.desc = some meth.sig)) = true) : (Jvm.Cond.code y bytes mx rt).before a s = true := by
  simp only [Bool.and_eq_true, beq_iff_eq, Bool.not_eq_true', decide_eq_true_eq] at h5
  obtain ⟨⟨⟨⟨⟨g1, g2⟩, g3⟩, g4⟩, g5⟩, g6⟩ := h5
  simp [Cond.before, Cond.holds, Cond.value, h1, h2, h3, h4, g1, g2, g3, g4, g5, g6]
def isCode : Jvm.Cond → Bool
  | .code _ _ _ _ => true
  | _ => false
theorem all_split {L : List Jvm.Cond} {P : Jvm.Cond → Bool} (h1 : L.all (fun c => isCode c || P c) = true) (h2 : ∀ c ∈ L.filter isCode, P c = true) : L.all P = true := by
  refine List.all_eq_true.mpr fun c hc => ?_
  have h := List.all_eq_true.mp h1 c hc
  rcases Bool.eq_false_or_eq_true (isCode c) with hi | hi
  · exact h2 c (List.mem_filter.mpr ⟨hc, hi⟩)
  · simpa [hi] using h
set_option maxRecDepth 65536 in
theorem w_c0 : (Jvm.Cond.code x code maxLocals ret).before args0 about1 = true := code_word (m := ⟨1, 1⟩) (meth := k1m1) (c := k1c1) (by decide +kernel) rfl rfl rfl (by decide +kernel)
set_option maxRecDepth 65536 in
theorem w_c1 : (Jvm.Cond.code ({ cls := "com/example/tracefold/tracefold/trace/DecimalTextUnitsPinLaw", name := "put", desc := "([BIZI)I" } : Jvm.MethodName) method_3_code (4 : Nat) (Option.some Jvm.ClassFile.FieldType.int)).before args0 about1 = true := code_word (m := ⟨1, 2⟩) (meth := k1m2) (c := k1c2) (by decide +kernel) rfl rfl rfl (by decide +kernel)
set_option maxRecDepth 65536 in
theorem w_c2 : (Jvm.Cond.code ({ cls := "com/example/tracefold/tracefold/trace/DecimalTextUnitsPinLaw", name := "step", desc := "([BIIIIIJ[J)I" } : Jvm.MethodName) method_4_code (11 : Nat) (Option.some Jvm.ClassFile.FieldType.int)).before args0 about1 = true := code_word (m := ⟨1, 3⟩) (meth := k1m3) (c := k1c3) (by decide +kernel) rfl rfl rfl (by decide +kernel)
set_option maxRecDepth 65536 in
theorem w_c3 : (Jvm.Cond.code ({ cls := "com/example/tracefold/tracefold/trace/DecimalText", name := "<init>", desc := "()V" } : Jvm.MethodName) prog_139_method_1_code (1 : Nat) (Option.none : Option Jvm.ClassFile.FieldType)).before args0 about1 = true := code_word (m := ⟨2, 0⟩) (meth := k2m0) (c := k2c0) (by decide +kernel) rfl rfl rfl (by decide +kernel)
set_option maxRecDepth 65536 in
theorem w_c4 : (Jvm.Cond.code ({ cls := "java/lang/Object", name := "<init>", desc := "()V" } : Jvm.MethodName) object_method_1_code (1 : Nat) (Option.none : Option Jvm.ClassFile.FieldType)).before args0 about1 = true := code_word (m := ⟨0, 0⟩) (meth := k0m0) (c := k0c0) (by decide +kernel) rfl rfl rfl (by decide +kernel)
set_option maxRecDepth 65536 in
theorem w_c5 : (Jvm.Cond.code ({ cls := "com/example/tracefold/tracefold/trace/DecimalText", name := "read", desc := "([BII)Z" } : Jvm.MethodName) prog_139_method_2_code (17 : Nat) (Option.some Jvm.ClassFile.FieldType.boolean)).before args0 about1 = true := code_word (m := ⟨2, 1⟩) (meth := k2m1) (c := k2c1) (by decide +kernel) rfl rfl rfl (by decide +kernel)
set_option maxRecDepth 65536 in
theorem w_c6 : (Jvm.Cond.code ({ cls := "com/example/tracefold/tracefold/trace/DecimalText", name := "digits", desc := "([BII)I" } : Jvm.MethodName) prog_139_method_10_code (4 : Nat) (Option.some Jvm.ClassFile.FieldType.int)).before args0 about1 = true := code_word (m := ⟨2, 3⟩) (meth := k2m3) (c := k2c3) (by decide +kernel) rfl rfl rfl (by decide +kernel)
set_option maxRecDepth 65536 in
theorem w_c7 : (Jvm.Cond.code ({ cls := "com/example/tracefold/tracefold/trace/DecimalText", name := "isDigit", desc := "(B)Z" } : Jvm.MethodName) prog_139_method_12_code (1 : Nat) (Option.some Jvm.ClassFile.FieldType.boolean)).before args0 about1 = true := code_word (m := ⟨2, 5⟩) (meth := k2m5) (c := k2c5) (by decide +kernel) rfl rfl rfl (by decide +kernel)
set_option maxRecDepth 65536 in
theorem w_c8 : (Jvm.Cond.code ({ cls := "com/example/tracefold/tracefold/trace/DecimalText", name := "skipZeros", desc := "([BII)I" } : Jvm.MethodName) prog_139_method_11_code (4 : Nat) (Option.some Jvm.ClassFile.FieldType.int)).before args0 about1 = true := code_word (m := ⟨2, 4⟩) (meth := k2m4) (c := k2c4) (by decide +kernel) rfl rfl rfl (by decide +kernel)
set_option maxRecDepth 65536 in
theorem w_c9 : (Jvm.Cond.code ({ cls := "java/lang/Math", name := "abs", desc := "(J)J" } : Jvm.MethodName) jdk_29_method_61_code (2 : Nat) (Option.some Jvm.ClassFile.FieldType.long)).before args0 about1 = true := code_word (m := ⟨3, 1⟩) (meth := k3m1) (c := k3c1) (by decide +kernel) rfl rfl rfl (by decide +kernel)
set_option maxRecDepth 65536 in
theorem w_c10 : (Jvm.Cond.code ({ cls := "java/lang/Math", name := "max", desc := "(JJ)J" } : Jvm.MethodName) jdk_29_method_66_code (4 : Nat) (Option.some Jvm.ClassFile.FieldType.long)).before args0 about1 = true := code_word (m := ⟨3, 2⟩) (meth := k3m2) (c := k3c2) (by decide +kernel) rfl rfl rfl (by decide +kernel)
set_option maxRecDepth 65536 in
theorem w_c11 : (Jvm.Cond.code ({ cls := "com/example/tracefold/tracefold/trace/DecimalText", name := "units", desc := "(I)J" } : Jvm.MethodName) prog_139_method_7_code (10 : Nat) (Option.some Jvm.ClassFile.FieldType.long)).before args0 about1 = true := code_word (m := ⟨2, 2⟩) (meth := k2m2) (c := k2c2) (by decide +kernel) rfl rfl rfl (by decide +kernel)
set_option maxRecDepth 65536 in
theorem w_c12 : (Jvm.Cond.code ({ cls := "java/lang/Math", name := "min", desc := "(JJ)J" } : Jvm.MethodName) jdk_29_method_70_code (4 : Nat) (Option.some Jvm.ClassFile.FieldType.long)).before args0 about1 = true := code_word (m := ⟨3, 3⟩) (meth := k3m3) (c := k3c3) (by decide +kernel) rfl rfl rfl (by decide +kernel)
def codes1 : List Jvm.Cond := [Jvm.Cond.code x code maxLocals ret, Jvm.Cond.code ({ cls := "com/example/tracefold/tracefold/trace/DecimalTextUnitsPinLaw", name := "put", desc := "([BIZI)I" } : Jvm.MethodName) method_3_code (4 : Nat) (Option.some Jvm.ClassFile.FieldType.int), Jvm.Cond.code ({ cls := "com/example/tracefold/tracefold/trace/DecimalTextUnitsPinLaw", name := "step", desc := "([BIIIIIJ[J)I" } : Jvm.MethodName) method_4_code (11 : Nat) (Option.some Jvm.ClassFile.FieldType.int), Jvm.Cond.code ({ cls := "com/example/tracefold/tracefold/trace/DecimalText", name := "<init>", desc := "()V" } : Jvm.MethodName) prog_139_method_1_code (1 : Nat) (Option.none : Option Jvm.ClassFile.FieldType), Jvm.Cond.code ({ cls := "java/lang/Object", name := "<init>", desc := "()V" } : Jvm.MethodName) object_method_1_code (1 : Nat) (Option.none : Option Jvm.ClassFile.FieldType), Jvm.Cond.code ({ cls := "com/example/tracefold/tracefold/trace/DecimalText", name := "read", desc := "([BII)Z" } : Jvm.MethodName) prog_139_method_2_code (17 : Nat) (Option.some Jvm.ClassFile.FieldType.boolean), Jvm.Cond.code ({ cls := "com/example/tracefold/tracefold/trace/DecimalText", name := "digits", desc := "([BII)I" } : Jvm.MethodName) prog_139_method_10_code (4 : Nat) (Option.some Jvm.ClassFile.FieldType.int), Jvm.Cond.code ({ cls := "com/example/tracefold/tracefold/trace/DecimalText", name := "isDigit", desc := "(B)Z" } : Jvm.MethodName) prog_139_method_12_code (1 : Nat) (Option.some Jvm.ClassFile.FieldType.boolean), Jvm.Cond.code ({ cls := "com/example/tracefold/tracefold/trace/DecimalText", name := "skipZeros", desc := "([BII)I" } : Jvm.MethodName) prog_139_method_11_code (4 : Nat) (Option.some Jvm.ClassFile.FieldType.int), Jvm.Cond.code ({ cls := "java/lang/Math", name := "abs", desc := "(J)J" } : Jvm.MethodName) jdk_29_method_61_code (2 : Nat) (Option.some Jvm.ClassFile.FieldType.long), Jvm.Cond.code ({ cls := "java/lang/Math", name := "max", desc := "(JJ)J" } : Jvm.MethodName) jdk_29_method_66_code (4 : Nat) (Option.some Jvm.ClassFile.FieldType.long), Jvm.Cond.code ({ cls := "com/example/tracefold/tracefold/trace/DecimalText", name := "units", desc := "(I)J" } : Jvm.MethodName) prog_139_method_7_code (10 : Nat) (Option.some Jvm.ClassFile.FieldType.long), Jvm.Cond.code ({ cls := "java/lang/Math", name := "min", desc := "(JJ)J" } : Jvm.MethodName) jdk_29_method_70_code (4 : Nat) (Option.some Jvm.ClassFile.FieldType.long)]
set_option maxRecDepth 65536 in
theorem codes_eq : words1.filter isCode = codes1 := rfl
theorem w_codes : ∀ c ∈ words1.filter isCode, c.before args0 about1 = true := by
  rw [codes_eq]
  intro c hc
  simp only [codes1, List.mem_cons, List.not_mem_nil, or_false] at hc
  rcases hc with rfl | rfl | rfl | rfl | rfl | rfl | rfl | rfl | rfl | rfl | rfl | rfl | rfl
  · exact w_c0
  · exact w_c1
  · exact w_c2
  · exact w_c3
  · exact w_c4
  · exact w_c5
  · exact w_c6
  · exact w_c7
  · exact w_c8
  · exact w_c9
  · exact w_c10
  · exact w_c11
  · exact w_c12
set_option maxRecDepth 65536 in
theorem w_t1 : (words1.take 24).all (fun c => isCode c || c.before args0 about1) = true := by decide +kernel
set_option maxRecDepth 65536 in
theorem w_t2 : ((words1.drop 24).take 24).all (fun c => isCode c || c.before args0 about1) = true := by decide +kernel
set_option maxRecDepth 65536 in
theorem w_t3 : (((words1.drop 24).drop 24).take 24).all (fun c => isCode c || c.before args0 about1) = true := by decide +kernel
set_option maxRecDepth 65536 in
theorem w_t4 : (((words1.drop 24).drop 24).drop 24).all (fun c => isCode c || c.before args0 about1) = true := by decide +kernel
theorem w_tables : (allAtoms (Jvm.Cond.code x code maxLocals ret :: tables_1)).before args0 about1 = true := by
  rw [allAtoms_all]
  show words1.all (fun c => c.before args0 about1) = true
  refine all_split ?_ w_codes
  rw [← List.take_append_drop 24 words1, List.all_append, w_t1, ← List.take_append_drop 24 (words1.drop 24), List.all_append, w_t2, ← List.take_append_drop 24 ((words1.drop 24).drop 24), List.all_append, w_t3, w_t4]
  rfl
set_option maxRecDepth 65536 in
theorem w_case : (Jvm.Cond.and given_1 narrow_1).before args0 about1 = true := by decide +kernel
theorem w_applies : (headSpec (Jvm.Cond.code x code maxLocals ret :: tables_1) room_1).applies x e0.platform about1 = true :=
  (Spec.applies_iff w_frames).mpr ⟨w_running, w_runnable, w_alone, w_named, w_hears, w_ripe, w_room, w_tables⟩
theorem atStart : AtStart classFile x code maxLocals ret World_1 tables_1 room_1 Calls_1 rest_1 Pre_1 launch0 p0 e0 about1 theMethod args0 below0 :=
  ⟨lists_1, trivial, launch0.admits_env _ _ _, launch0.least_env, fairChoices_fair.cas, fairChoices_fair.clock, w_frames, w_args, w_heap, w_applies, trivial, trivial, w_case⟩
end start1
theorem witness_1 : WitnessClaimed_1 := ⟨start1.p0, start1.e0, start1.about1, start1.theMethod, start1.args0, start1.below0, start1.atStart⟩
end Jvm.Pilot.@@N@@
