import JvmDerived
import JvmDerived.Pilot.@@N@@Statement
import JvmDerived.Pilot.@@N@@Code
set_option maxHeartbeats 4000000
set_option linter.unusedVariables false
set_option linter.unusedSimpArgs false
namespace Jvm.RoadKit
open Sem ClassFile Op Lib Jvm.Stand Jvm.Free Jvm.LawKit
section OwnK
variable {p : Program} {l : Launch} {e : Env} {R : Room} {s : State} {m : MethodId} {args : Array Value} {below : List Frame} {meth : Method} {c : Code} {T : State} {cells slots cells' slots' : Nat} {Z : State} {a0 : Array Value} {h : Heap} {n0 : Nat} {D : State → Prop} {pc pc' : Nat} {Ls : Array Slot} {St : List Value}
/-- the run goes from the frame g at T to a state that is done -/
def GoK (p : Program) (e : Env) (below : List Frame) (D : State → Prop) (T : State) (g : JFrame) : Prop := ∃ u, Steps p.tables e below (T.setTop g) u ∧ D u
/-- where the walk stands: the state, its heap, what was made; all that was written is new -/
def OnK (p : Program) (l : Launch) (e : Env) (R : Room) (s : State) (m : MethodId) (args : Array Value) (below : List Frame) (meth : Method) (c : Code) (n0 : Nat) (T : State) (h : Heap) (cells slots : Nat) : Prop := ∃ locs, Stand p l e R s m args below meth c T locs cells slots ∧ T.heap = h ∧ Fr n0 locs
/-- the call has returned -/
def DoneK (s : State) (below : List Frame) (n0 C S : Nat) (Q : Option Value → Heap → Prop) (u : State) : Prop := u.status = .running ∧ ∃ v L, Ended u below (.returned v) ∧ Q v u.heap ∧ Fr n0 L ∧ FrameEnd s (.returned v) u L C S
def QI (P : Int32 → Heap → Prop) (v : Option Value) (h : Heap) : Prop := ∃ z, v = some (.int z) ∧ P z h
def QJ (P : Int64 → Heap → Prop) (v : Option Value) (h : Heap) : Prop := ∃ z, v = some (.long z) ∧ P z h
def QA (P : Addr → Heap → Prop) (v : Option Value) (h : Heap) : Prop := ∃ z, v = some (.ref z) ∧ P z h
def QV (P : Heap → Prop) (v : Option Value) (h : Heap) : Prop := v = none ∧ P h
/-- a body's contract -/
def CtK (l : Launch) (Z : State) (y : MethodName) (bytes : ByteArray) (maxL : Nat) (ret : Option FieldType) (rm : Room) (as' : Array Value) (h0 : Heap) (n0 : Nat) (Q : Option Value → Heap → Prop) : Prop :=
  ∀ ws : List Jvm.Cond, MetFree l y (head1 (Jvm.Cond.code y bytes maxL ret :: ws) rm) (fun a U => a = as' ∧ Z.Warmed39 U.vm ∧ U.heap = h0) (fun _ _ _ _ _ => True) (fun _ U o U' => ∃ v L, o = .returned v ∧ (Q v U'.heap ∧ Fr n0 L) ∧ FrameEnd U o U' L rm.cells rm.slots)
theorem GoK.by {T' : State} {g g' : JFrame} (st : ∀ t, Steps p.tables e below (T'.setTop g') t → Steps p.tables e below (T.setTop g) t) (G : GoK p e below D T' g') : GoK p e below D T g := by
  obtain ⟨u, hu, hD⟩ := G
  exact ⟨u, st _ hu, hD⟩
theorem OnK.at (X : OnK p l e R s m args below meth c n0 T h cells slots) : Jvm.At T m c below := by
  obtain ⟨_, X, -, -⟩ := X
  exact X.here
theorem CtK.of {y : MethodName} {bytes : ByteArray} {maxL : Nat} {ret : Option FieldType} {rm : Room} {as' : Array Value} {h0 : Heap} {Q : Option Value → Heap → Prop} (hp : plainFor y = true)
    (body : ∀ {p : Program} {e : Env} {s : State} {m : MethodId} {below : List Frame} {meth : Method} {c : Code} {T : State}, OnK p l e rm s m as' below meth c n0 T h0 0 0 → p.tables.exec = Jvm.exec → Z.Warmed39 s.vm → c.code = bytes → c.maxLocals = maxL → s.vm.findClass y.cls = some m.cls → meth.name = y.name → meth.sig.returnType = ret → meth.locks = false →
      GoK p e below (DoneK s below n0 rm.cells rm.slots Q) T (entryFrame m as' maxL)) : CtK l Z y bytes maxL ret rm as' h0 n0 Q := by
  intro ws
  refine MetFree.of_bodySF hp hisR ?_
  intro p e s m args below meth c s₁ Bd hml0 hP hK
  obtain ⟨rfl, hZ, hh⟩ := hP
  have hown : s.vm.findClass y.cls = some m.cls := findClass_of_methodNamed Bd.named
  have hnm := (name_of_methodNamed Bd.named Bd.method).1
  have X0 : Stand p l e rm s m args below meth c s₁ [] 0 0 := Stand.of_body Bd
  have e0 : s₁.heap = h0 := by rw [← hh, Bd.state]; rfl
  obtain ⟨u, hu, hrun, v, L, hen, hQ, hN, hF⟩ := body ⟨[], X0, e0, Fr.nil n0⟩ Bd.exec hZ Bd.bytes hml0 hown hnm Bd.returns (BodyLoose.notSynchronized Bd)
  exact ⟨u, _, hu, hrun, hen, v, L, rfl, ⟨hQ, hN⟩, hF⟩
theorem GoK.entry {as' : Array Value} {n : Nat} (q : entryFrame m as' n = mkF m 0 Ls []) (G : GoK p e below D T (mkF m 0 Ls [])) : GoK p e below D T (entryFrame m as' n) := q ▸ G
theorem go_nameI {x : Int32} (G : ∀ z : Int32, z = x → GoK p e below D T (mkF m pc Ls (.int z :: St))) : GoK p e below D T (mkF m pc Ls (.int x :: St)) := G x rfl
theorem go_nameJ {x : Int64} (G : ∀ z : Int64, z = x → GoK p e below D T (mkF m pc Ls (.long z :: St))) : GoK p e below D T (mkF m pc Ls (.long x :: St)) := G x rfl
/-- the end: what every return has in common -/
theorem go_end {C S : Nat} {Q : Option Value → Heap → Prop} {v : Option Value} {g : JFrame} (X : OnK p l e R s m args below meth c n0 T h cells slots) (hlk : meth.locks = false) (hv : meth.sig.returnType = none → v = none) (hc : cells ≤ C) (hs : slots ≤ S) (q : Q v h)
    (st : ∀ {locs : List Loc}, Stand p l e R s m args below meth c T locs cells slots → ∀ {fs : List Frame}, (∀ (f : JFrame) (acts : List Action), f.method = m → f.locked = none → f.entered = [] → (doReturn e (T.setTop f) acts v).1 = T.setFrames fs) → Steps p.tables e below (T.setTop g) (T.setFrames fs)) :
    GoK p e below (DoneK s below n0 C S Q) T g := by
  obtain ⟨locs, X, rfl, N⟩ := X
  obtain ⟨fs, hr, hrun, hended, hW, hsame⟩ := X.leave (v := v) hv hlk
  exact ⟨_, st X hr, hrun, v, locs, hended, q, N, ⟨_, rfl⟩, hW, hsame.mono hc hs⟩
theorem go_retI {C S : Nat} {P : Int32 → Heap → Prop} {x : Int32} (X : OnK p l e R s m args below meth c n0 T h cells slots) (hx : p.tables.exec = Jvm.exec) (hret : meth.sig.returnType = some .int) (hlk : meth.locks = false) (hd : decode c.code pc = .ok (.ireturn, 1)) (hc : cells ≤ C) (hs : slots ≤ S) (q : P x h) : GoK p e below (DoneK s below n0 C S (QI P)) T (mkF m pc Ls (.int x :: St)) := by
  refine go_end (v := some (.int x)) X hlk (fun q => by rw [hret] at q; cases q) hc hs ⟨_, rfl, q⟩ ?_
  intro locs Y fs hr
  have hm' : T.vm.method? m = some meth := Y.method'
  have hn : narrow .int (.int x) = .int x := rfl
  show Steps p.tables e below (T.setTop { method := m, pc := pc, locals := Ls, stack := _ :: St, locked := none }) _
  jvm_step Y.here [Y.here.top, hx, hd, hm', hret, hn]
  first | (intro acts; rw [hr _ acts rfl rfl rfl]) | rw [hr _ _ rfl rfl rfl]
  exact Steps.refl _
theorem go_retN {C S : Nat} {P : Int32 → Heap → Prop} {x : Int32} {t : FieldType} (X : OnK p l e R s m args below meth c n0 T h cells slots) (hx : p.tables.exec = Jvm.exec) (hret : meth.sig.returnType = some t) (ht : t = .boolean ∨ t = .byte ∨ t = .char ∨ t = .short) (hlk : meth.locks = false) (hd : decode c.code pc = .ok (.ireturn, 1)) (hc : cells ≤ C) (hs : slots ≤ S) (q : P (nar t x) h) : GoK p e below (DoneK s below n0 C S (QI P)) T (mkF m pc Ls (.int x :: St)) := by
  refine go_end (v := some (.int (nar t x))) X hlk (fun q => by rw [hret] at q; cases q) hc hs ⟨_, rfl, q⟩ ?_
  intro locs Y fs hr
  exact retN Y hx hret ht hd hr
theorem go_retV {C S : Nat} {P : Heap → Prop} (X : OnK p l e R s m args below meth c n0 T h cells slots) (hx : p.tables.exec = Jvm.exec) (hret : meth.sig.returnType = none) (hlk : meth.locks = false) (hd : decode c.code pc = .ok (.return_, 1)) (hc : cells ≤ C) (hs : slots ≤ S) (q : P h) : GoK p e below (DoneK s below n0 C S (QV P)) T (mkF m pc Ls []) := by
  refine go_end (v := none) X hlk (fun _ => rfl) hc hs ⟨rfl, q⟩ ?_
  intro locs Y fs hr
  exact Y.returnOut hx hret hd hr
theorem go_retJ {C S : Nat} {P : Int64 → Heap → Prop} {x : Int64} (X : OnK p l e R s m args below meth c n0 T h cells slots) (hx : p.tables.exec = Jvm.exec) (hret : meth.sig.returnType = some .long) (hlk : meth.locks = false) (hd : decode c.code pc = .ok (.lreturn, 1)) (hc : cells ≤ C) (hs : slots ≤ S) (q : P x h) : GoK p e below (DoneK s below n0 C S (QJ P)) T (mkF m pc Ls (.long x :: St)) := by
  refine go_end (v := some (.long x)) X hlk (fun q => by rw [hret] at q; cases q) hc hs ⟨_, rfl, q⟩ ?_
  intro locs Y fs hr
  exact retOut Y hx hret rfl (Or.inr (Or.inl ⟨rfl, rfl, _, rfl⟩)) hd hr
theorem go_retA {C S : Nat} {P : Addr → Heap → Prop} {x : Addr} {t : FieldType} (X : OnK p l e R s m args below meth c n0 T h cells slots) (hx : p.tables.exec = Jvm.exec) (hret : meth.sig.returnType = some t) (ht : t.isReference = true) (hnr : narrow t (.ref x) = .ref x) (hlk : meth.locks = false) (hd : decode c.code pc = .ok (.areturn, 1)) (hc : cells ≤ C) (hs : slots ≤ S) (q : P x h) : GoK p e below (DoneK s below n0 C S (QA P)) T (mkF m pc Ls (.ref x :: St)) := by
  refine go_end (v := some (.ref x)) X hlk (fun q => by rw [hret] at q; cases q) hc hs ⟨_, rfl, q⟩ ?_
  intro locs Y fs hr
  exact retOut Y hx hret hnr (Or.inr (Or.inr (Or.inr (Or.inr ⟨rfl, ht, rfl⟩)))) hd hr
theorem go_iadd (X : OnK p l e R s m args below meth c n0 T h cells slots) (hx : p.tables.exec = Jvm.exec) {x y : Int32} (hd : decode c.code pc = .ok (.iadd, 1)) (hp : pc + 1 = pc') (G : GoK p e below D T (mkF m pc' Ls (.int (x + y) :: St))) : GoK p e below D T (mkF m pc Ls (.int y :: .int x :: St)) := by
  subst hp
  exact GoK.by (fun t k => XS.iadd X.at hx rfl hd rfl k) G
theorem go_isub (X : OnK p l e R s m args below meth c n0 T h cells slots) (hx : p.tables.exec = Jvm.exec) {x y : Int32} (hd : decode c.code pc = .ok (.isub, 1)) (hp : pc + 1 = pc') (G : GoK p e below D T (mkF m pc' Ls (.int (x - y) :: St))) : GoK p e below D T (mkF m pc Ls (.int y :: .int x :: St)) := by
  subst hp
  exact GoK.by (fun t k => XS.isub X.at hx rfl hd rfl k) G
theorem go_imul (X : OnK p l e R s m args below meth c n0 T h cells slots) (hx : p.tables.exec = Jvm.exec) {x y : Int32} (hd : decode c.code pc = .ok (.imul, 1)) (hp : pc + 1 = pc') (G : GoK p e below D T (mkF m pc' Ls (.int (x * y) :: St))) : GoK p e below D T (mkF m pc Ls (.int y :: .int x :: St)) := by
  subst hp
  exact GoK.by (fun t k => XS.imul X.at hx rfl hd rfl k) G
theorem go_iand (X : OnK p l e R s m args below meth c n0 T h cells slots) (hx : p.tables.exec = Jvm.exec) {x y : Int32} (hd : decode c.code pc = .ok (.iand, 1)) (hp : pc + 1 = pc') (G : GoK p e below D T (mkF m pc' Ls (.int (x &&& y) :: St))) : GoK p e below D T (mkF m pc Ls (.int y :: .int x :: St)) := by
  subst hp
  exact GoK.by (fun t k => XS.iand X.at hx rfl hd rfl k) G
theorem go_ior (X : OnK p l e R s m args below meth c n0 T h cells slots) (hx : p.tables.exec = Jvm.exec) {x y : Int32} (hd : decode c.code pc = .ok (.ior, 1)) (hp : pc + 1 = pc') (G : GoK p e below D T (mkF m pc' Ls (.int (x ||| y) :: St))) : GoK p e below D T (mkF m pc Ls (.int y :: .int x :: St)) := by
  subst hp
  exact GoK.by (fun t k => XS.ior X.at hx rfl hd rfl k) G
theorem go_ixor (X : OnK p l e R s m args below meth c n0 T h cells slots) (hx : p.tables.exec = Jvm.exec) {x y : Int32} (hd : decode c.code pc = .ok (.ixor, 1)) (hp : pc + 1 = pc') (G : GoK p e below D T (mkF m pc' Ls (.int (x ^^^ y) :: St))) : GoK p e below D T (mkF m pc Ls (.int y :: .int x :: St)) := by
  subst hp
  exact GoK.by (fun t k => XS.ixor X.at hx rfl hd rfl k) G
theorem go_ishl (X : OnK p l e R s m args below meth c n0 T h cells slots) (hx : p.tables.exec = Jvm.exec) {x y : Int32} (hd : decode c.code pc = .ok (.ishl, 1)) (hp : pc + 1 = pc') (G : GoK p e below D T (mkF m pc' Ls (.int (x <<< (y &&& 31)) :: St))) : GoK p e below D T (mkF m pc Ls (.int y :: .int x :: St)) := by
  subst hp
  exact GoK.by (fun t k => XS.ishl X.at hx rfl hd rfl k) G
theorem go_ishr (X : OnK p l e R s m args below meth c n0 T h cells slots) (hx : p.tables.exec = Jvm.exec) {x y : Int32} (hd : decode c.code pc = .ok (.ishr, 1)) (hp : pc + 1 = pc') (G : GoK p e below D T (mkF m pc' Ls (.int (x >>> (y &&& 31)) :: St))) : GoK p e below D T (mkF m pc Ls (.int y :: .int x :: St)) := by
  subst hp
  exact GoK.by (fun t k => XS.ishr X.at hx rfl hd rfl k) G
theorem go_iushr (X : OnK p l e R s m args below meth c n0 T h cells slots) (hx : p.tables.exec = Jvm.exec) {x y : Int32} (hd : decode c.code pc = .ok (.iushr, 1)) (hp : pc + 1 = pc') (G : GoK p e below D T (mkF m pc' Ls (.int ((x.toUInt32 >>> (y &&& 31).toUInt32).toInt32) :: St))) : GoK p e below D T (mkF m pc Ls (.int y :: .int x :: St)) := by
  subst hp
  exact GoK.by (fun t k => XS.iushr X.at hx rfl hd rfl k) G
theorem go_ladd (X : OnK p l e R s m args below meth c n0 T h cells slots) (hx : p.tables.exec = Jvm.exec) {x y : Int64} (hd : decode c.code pc = .ok (.ladd, 1)) (hp : pc + 1 = pc') (G : GoK p e below D T (mkF m pc' Ls (.long (x + y) :: St))) : GoK p e below D T (mkF m pc Ls (.long y :: .long x :: St)) := by
  subst hp
  exact GoK.by (fun t k => XS.ladd X.at hx rfl hd rfl k) G
theorem go_lsub (X : OnK p l e R s m args below meth c n0 T h cells slots) (hx : p.tables.exec = Jvm.exec) {x y : Int64} (hd : decode c.code pc = .ok (.lsub, 1)) (hp : pc + 1 = pc') (G : GoK p e below D T (mkF m pc' Ls (.long (x - y) :: St))) : GoK p e below D T (mkF m pc Ls (.long y :: .long x :: St)) := by
  subst hp
  exact GoK.by (fun t k => XS.lsub X.at hx rfl hd rfl k) G
theorem go_lmul (X : OnK p l e R s m args below meth c n0 T h cells slots) (hx : p.tables.exec = Jvm.exec) {x y : Int64} (hd : decode c.code pc = .ok (.lmul, 1)) (hp : pc + 1 = pc') (G : GoK p e below D T (mkF m pc' Ls (.long (x * y) :: St))) : GoK p e below D T (mkF m pc Ls (.long y :: .long x :: St)) := by
  subst hp
  exact GoK.by (fun t k => XS.lmul X.at hx rfl hd rfl k) G
theorem go_land (X : OnK p l e R s m args below meth c n0 T h cells slots) (hx : p.tables.exec = Jvm.exec) {x y : Int64} (hd : decode c.code pc = .ok (.land, 1)) (hp : pc + 1 = pc') (G : GoK p e below D T (mkF m pc' Ls (.long (x &&& y) :: St))) : GoK p e below D T (mkF m pc Ls (.long y :: .long x :: St)) := by
  subst hp
  exact GoK.by (fun t k => XS.land X.at hx rfl hd rfl k) G
theorem go_lor (X : OnK p l e R s m args below meth c n0 T h cells slots) (hx : p.tables.exec = Jvm.exec) {x y : Int64} (hd : decode c.code pc = .ok (.lor, 1)) (hp : pc + 1 = pc') (G : GoK p e below D T (mkF m pc' Ls (.long (x ||| y) :: St))) : GoK p e below D T (mkF m pc Ls (.long y :: .long x :: St)) := by
  subst hp
  exact GoK.by (fun t k => XS.lor X.at hx rfl hd rfl k) G
theorem go_lxor (X : OnK p l e R s m args below meth c n0 T h cells slots) (hx : p.tables.exec = Jvm.exec) {x y : Int64} (hd : decode c.code pc = .ok (.lxor, 1)) (hp : pc + 1 = pc') (G : GoK p e below D T (mkF m pc' Ls (.long (x ^^^ y) :: St))) : GoK p e below D T (mkF m pc Ls (.long y :: .long x :: St)) := by
  subst hp
  exact GoK.by (fun t k => XS.lxor X.at hx rfl hd rfl k) G
theorem go_lshl (X : OnK p l e R s m args below meth c n0 T h cells slots) (hx : p.tables.exec = Jvm.exec) {x : Int64} {y : Int32} (hd : decode c.code pc = .ok (.lshl, 1)) (hp : pc + 1 = pc') (G : GoK p e below D T (mkF m pc' Ls (.long (x <<< (y &&& 0x3f).toInt64) :: St))) : GoK p e below D T (mkF m pc Ls (.int y :: .long x :: St)) := by
  subst hp
  exact GoK.by (fun t k => XS.lshl X.at hx rfl hd rfl k) G
theorem go_lshr (X : OnK p l e R s m args below meth c n0 T h cells slots) (hx : p.tables.exec = Jvm.exec) {x : Int64} {y : Int32} (hd : decode c.code pc = .ok (.lshr, 1)) (hp : pc + 1 = pc') (G : GoK p e below D T (mkF m pc' Ls (.long (x >>> (y &&& 0x3f).toInt64) :: St))) : GoK p e below D T (mkF m pc Ls (.int y :: .long x :: St)) := by
  subst hp
  exact GoK.by (fun t k => XS.lshr X.at hx rfl hd rfl k) G
theorem go_lushr (X : OnK p l e R s m args below meth c n0 T h cells slots) (hx : p.tables.exec = Jvm.exec) {x : Int64} {y : Int32} (hd : decode c.code pc = .ok (.lushr, 1)) (hp : pc + 1 = pc') (G : GoK p e below D T (mkF m pc' Ls (.long ((x.toUInt64 >>> (y &&& 0x3f).toInt64.toUInt64).toInt64) :: St))) : GoK p e below D T (mkF m pc Ls (.int y :: .long x :: St)) := by
  subst hp
  exact GoK.by (fun t k => XS.lushr X.at hx rfl hd rfl k) G
theorem go_idiv (X : OnK p l e R s m args below meth c n0 T h cells slots) (hx : p.tables.exec = Jvm.exec) {x y : Int32} (hd : decode c.code pc = .ok (.idiv, 1)) (hp : pc + 1 = pc') (hy : y ≠ 0) (G : GoK p e below D T (mkF m pc' Ls (.int (x / y) :: St))) : GoK p e below D T (mkF m pc Ls (.int y :: .int x :: St)) := by
  subst hp
  exact GoK.by (fun t k => XS.idiv X.at hx rfl hd rfl hy k) G
theorem go_ldiv (X : OnK p l e R s m args below meth c n0 T h cells slots) (hx : p.tables.exec = Jvm.exec) {x y : Int64} (hd : decode c.code pc = .ok (.ldiv, 1)) (hp : pc + 1 = pc') (hy : y ≠ 0) (G : GoK p e below D T (mkF m pc' Ls (.long (x / y) :: St))) : GoK p e below D T (mkF m pc Ls (.long y :: .long x :: St)) := by
  subst hp
  exact GoK.by (fun t k => XS.ldiv X.at hx rfl hd rfl hy k) G
theorem go_irem (X : OnK p l e R s m args below meth c n0 T h cells slots) (hx : p.tables.exec = Jvm.exec) {x y : Int32} (hd : decode c.code pc = .ok (.irem, 1)) (hp : pc + 1 = pc') (hy : y ≠ 0) (G : GoK p e below D T (mkF m pc' Ls (.int (x % y) :: St))) : GoK p e below D T (mkF m pc Ls (.int y :: .int x :: St)) := by
  subst hp
  obtain ⟨_, Y, -, -⟩ := X
  exact GoK.by (fun t k => iremM Y hx rfl hd rfl hy k) G
theorem go_lrem (X : OnK p l e R s m args below meth c n0 T h cells slots) (hx : p.tables.exec = Jvm.exec) {x y : Int64} (hd : decode c.code pc = .ok (.lrem, 1)) (hp : pc + 1 = pc') (hy : y ≠ 0) (G : GoK p e below D T (mkF m pc' Ls (.long (x % y) :: St))) : GoK p e below D T (mkF m pc Ls (.long y :: .long x :: St)) := by
  subst hp
  rw [← lrem_mod] at G
  exact GoK.by (fun t k => XS.lrem X.at hx rfl hd rfl hy k) G
theorem go_ineg (X : OnK p l e R s m args below meth c n0 T h cells slots) (hx : p.tables.exec = Jvm.exec) {x : Int32} (hd : decode c.code pc = .ok (.ineg, 1)) (hp : pc + 1 = pc') (G : GoK p e below D T (mkF m pc' Ls (.int (-x) :: St))) : GoK p e below D T (mkF m pc Ls (.int x :: St)) := by
  subst hp
  exact GoK.by (fun t k => XS.ineg X.at hx rfl hd rfl k) G
theorem go_lneg (X : OnK p l e R s m args below meth c n0 T h cells slots) (hx : p.tables.exec = Jvm.exec) {x : Int64} (hd : decode c.code pc = .ok (.lneg, 1)) (hp : pc + 1 = pc') (G : GoK p e below D T (mkF m pc' Ls (.long (-x) :: St))) : GoK p e below D T (mkF m pc Ls (.long x :: St)) := by
  subst hp
  exact GoK.by (fun t k => XS.lneg X.at hx rfl hd rfl k) G
theorem go_i2l (X : OnK p l e R s m args below meth c n0 T h cells slots) (hx : p.tables.exec = Jvm.exec) {x : Int32} (hd : decode c.code pc = .ok (.i2l, 1)) (hp : pc + 1 = pc') (G : GoK p e below D T (mkF m pc' Ls (.long (x.toInt64) :: St))) : GoK p e below D T (mkF m pc Ls (.int x :: St)) := by
  subst hp
  exact GoK.by (fun t k => XS.i2l X.at hx rfl hd rfl k) G
theorem go_l2i (X : OnK p l e R s m args below meth c n0 T h cells slots) (hx : p.tables.exec = Jvm.exec) {x : Int64} (hd : decode c.code pc = .ok (.l2i, 1)) (hp : pc + 1 = pc') (G : GoK p e below D T (mkF m pc' Ls (.int (x.toInt32) :: St))) : GoK p e below D T (mkF m pc Ls (.long x :: St)) := by
  subst hp
  exact GoK.by (fun t k => XS.l2i X.at hx rfl hd rfl k) G
theorem go_i2b (X : OnK p l e R s m args below meth c n0 T h cells slots) (hx : p.tables.exec = Jvm.exec) {x : Int32} (hd : decode c.code pc = .ok (.i2b, 1)) (hp : pc + 1 = pc') (G : GoK p e below D T (mkF m pc' Ls (.int (x.toInt8.toInt32) :: St))) : GoK p e below D T (mkF m pc Ls (.int x :: St)) := by
  subst hp
  exact GoK.by (fun t k => XS.i2b X.at hx rfl hd rfl k) G
theorem go_i2s (X : OnK p l e R s m args below meth c n0 T h cells slots) (hx : p.tables.exec = Jvm.exec) {x : Int32} (hd : decode c.code pc = .ok (.i2s, 1)) (hp : pc + 1 = pc') (G : GoK p e below D T (mkF m pc' Ls (.int (x.toInt16.toInt32) :: St))) : GoK p e below D T (mkF m pc Ls (.int x :: St)) := by
  subst hp
  exact GoK.by (fun t k => XS.i2s X.at hx rfl hd rfl k) G
theorem go_i2c (X : OnK p l e R s m args below meth c n0 T h cells slots) (hx : p.tables.exec = Jvm.exec) {x : Int32} (hd : decode c.code pc = .ok (.i2c, 1)) (hp : pc + 1 = pc') (G : GoK p e below D T (mkF m pc' Ls (.int (x.toUInt32.toUInt16.toUInt32.toInt32) :: St))) : GoK p e below D T (mkF m pc Ls (.int x :: St)) := by
  subst hp
  exact GoK.by (fun t k => XS.i2c X.at hx rfl hd rfl k) G
theorem go_dup (X : OnK p l e R s m args below meth c n0 T h cells slots) (hx : p.tables.exec = Jvm.exec) {v : Value} (hd : decode c.code pc = .ok (.dup, 1)) (hp : pc + 1 = pc') (hv : v.category = 1) (G : GoK p e below D T (mkF m pc' Ls (v :: v :: St))) : GoK p e below D T (mkF m pc Ls (v :: St)) := by
  subst hp
  exact GoK.by (fun t k => XS.dup X.at hx rfl hd rfl hv k) G
theorem go_pop (X : OnK p l e R s m args below meth c n0 T h cells slots) (hx : p.tables.exec = Jvm.exec) {v : Value} (hd : decode c.code pc = .ok (.pop, 1)) (hp : pc + 1 = pc') (hv : v.category = 1) (G : GoK p e below D T (mkF m pc' Ls St)) : GoK p e below D T (mkF m pc Ls (v :: St)) := by
  subst hp
  exact GoK.by (fun t k => XS.pop X.at hx rfl hd rfl hv k) G
theorem go_iload (X : OnK p l e R s m args below meth c n0 T h cells slots) (hx : p.tables.exec = Jvm.exec) {k : Nat} {v : Int32} (hd : decode c.code pc = .ok (.iload k, 2)) (hp : pc + 2 = pc') (hl : Ls[k]? = some (.val (.int v))) (G : GoK p e below D T (mkF m pc' Ls (.int v :: St))) : GoK p e below D T (mkF m pc Ls St) := by
  subst hp
  exact GoK.by (fun t k => XS.iload X.at hx rfl hd hl k) G
theorem go_lload (X : OnK p l e R s m args below meth c n0 T h cells slots) (hx : p.tables.exec = Jvm.exec) {k : Nat} {v : Int64} (hd : decode c.code pc = .ok (.lload k, 2)) (hp : pc + 2 = pc') (hl : Ls[k]? = some (.val (.long v))) (G : GoK p e below D T (mkF m pc' Ls (.long v :: St))) : GoK p e below D T (mkF m pc Ls St) := by
  subst hp
  exact GoK.by (fun t k => XS.lload X.at hx rfl hd hl k) G
theorem go_aload (X : OnK p l e R s m args below meth c n0 T h cells slots) (hx : p.tables.exec = Jvm.exec) {k : Nat} {v : Addr} (hd : decode c.code pc = .ok (.aload k, 2)) (hp : pc + 2 = pc') (hl : Ls[k]? = some (.val (.ref v))) (G : GoK p e below D T (mkF m pc' Ls (.ref v :: St))) : GoK p e below D T (mkF m pc Ls St) := by
  subst hp
  exact GoK.by (fun t k => XS.aload X.at hx rfl hd hl rfl k) G
theorem go_istore (X : OnK p l e R s m args below meth c n0 T h cells slots) (hx : p.tables.exec = Jvm.exec) {k : Nat} {v : Int32} {L' : Array Slot} (hd : decode c.code pc = .ok (.istore k, 2)) (hp : pc + 2 = pc') (hl : storeLocals Ls k (.int v) = some L') (G : GoK p e below D T (mkF m pc' L' St)) : GoK p e below D T (mkF m pc Ls (.int v :: St)) := by
  subst hp
  exact GoK.by (fun t k => XS.istore X.at hx rfl hd rfl hl k) G
theorem go_lstore (X : OnK p l e R s m args below meth c n0 T h cells slots) (hx : p.tables.exec = Jvm.exec) {k : Nat} {v : Int64} {L' : Array Slot} (hd : decode c.code pc = .ok (.lstore k, 2)) (hp : pc + 2 = pc') (hl : storeLocals Ls k (.long v) = some L') (G : GoK p e below D T (mkF m pc' L' St)) : GoK p e below D T (mkF m pc Ls (.long v :: St)) := by
  subst hp
  exact GoK.by (fun t k => XS.lstore X.at hx rfl hd rfl hl k) G
theorem go_astore (X : OnK p l e R s m args below meth c n0 T h cells slots) (hx : p.tables.exec = Jvm.exec) {k : Nat} {v : Addr} {L' : Array Slot} (hd : decode c.code pc = .ok (.astore k, 2)) (hp : pc + 2 = pc') (hl : storeLocals Ls k (.ref v) = some L') (G : GoK p e below D T (mkF m pc' L' St)) : GoK p e below D T (mkF m pc Ls (.ref v :: St)) := by
  subst hp
  exact GoK.by (fun t k => XS.astore X.at hx rfl hd rfl rfl hl k) G
theorem go_iloadN (X : OnK p l e R s m args below meth c n0 T h cells slots) (hx : p.tables.exec = Jvm.exec) {k : Fin 4} {v : Int32} (hd : decode c.code pc = .ok (.iload_n k, 1)) (hp : pc + 1 = pc') (hl : Ls[k.val]? = some (.val (.int v))) (G : GoK p e below D T (mkF m pc' Ls (.int v :: St))) : GoK p e below D T (mkF m pc Ls St) := by
  subst hp
  exact GoK.by (fun t k => XS.iloadN X.at hx rfl hd hl k) G
theorem go_lloadN (X : OnK p l e R s m args below meth c n0 T h cells slots) (hx : p.tables.exec = Jvm.exec) {k : Fin 4} {v : Int64} (hd : decode c.code pc = .ok (.lload_n k, 1)) (hp : pc + 1 = pc') (hl : Ls[k.val]? = some (.val (.long v))) (G : GoK p e below D T (mkF m pc' Ls (.long v :: St))) : GoK p e below D T (mkF m pc Ls St) := by
  subst hp
  exact GoK.by (fun t k => XS.lloadN X.at hx rfl hd hl k) G
theorem go_aloadN (X : OnK p l e R s m args below meth c n0 T h cells slots) (hx : p.tables.exec = Jvm.exec) {k : Fin 4} {v : Addr} (hd : decode c.code pc = .ok (.aload_n k, 1)) (hp : pc + 1 = pc') (hl : Ls[k.val]? = some (.val (.ref v))) (G : GoK p e below D T (mkF m pc' Ls (.ref v :: St))) : GoK p e below D T (mkF m pc Ls St) := by
  subst hp
  exact GoK.by (fun t k => XS.aloadN X.at hx rfl hd hl rfl k) G
theorem go_istoreN (X : OnK p l e R s m args below meth c n0 T h cells slots) (hx : p.tables.exec = Jvm.exec) {k : Fin 4} {v : Int32} {L' : Array Slot} (hd : decode c.code pc = .ok (.istore_n k, 1)) (hp : pc + 1 = pc') (hl : storeLocals Ls k.val (.int v) = some L') (G : GoK p e below D T (mkF m pc' L' St)) : GoK p e below D T (mkF m pc Ls (.int v :: St)) := by
  subst hp
  exact GoK.by (fun t k => XS.istoreN X.at hx rfl hd rfl hl k) G
theorem go_lstoreN (X : OnK p l e R s m args below meth c n0 T h cells slots) (hx : p.tables.exec = Jvm.exec) {k : Fin 4} {v : Int64} {L' : Array Slot} (hd : decode c.code pc = .ok (.lstore_n k, 1)) (hp : pc + 1 = pc') (hl : storeLocals Ls k.val (.long v) = some L') (G : GoK p e below D T (mkF m pc' L' St)) : GoK p e below D T (mkF m pc Ls (.long v :: St)) := by
  subst hp
  exact GoK.by (fun t k => XS.lstoreN X.at hx rfl hd rfl hl k) G
theorem go_astoreN (X : OnK p l e R s m args below meth c n0 T h cells slots) (hx : p.tables.exec = Jvm.exec) {k : Fin 4} {v : Addr} {L' : Array Slot} (hd : decode c.code pc = .ok (.astore_n k, 1)) (hp : pc + 1 = pc') (hl : storeLocals Ls k.val (.ref v) = some L') (G : GoK p e below D T (mkF m pc' L' St)) : GoK p e below D T (mkF m pc Ls (.ref v :: St)) := by
  subst hp
  exact GoK.by (fun t k => XS.astoreN X.at hx rfl hd rfl rfl hl k) G
theorem go_iinc (X : OnK p l e R s m args below meth c n0 T h cells slots) (hx : p.tables.exec = Jvm.exec) {k : Nat} {i : Int} {v w : Int32} {L' : Array Slot} (hd : decode c.code pc = .ok (.iinc k i, 3)) (hp : pc + 3 = pc') (hl : Ls[k]? = some (.val (.int v))) (hi : v + Int32.ofInt i = w) (hs : storeLocals Ls k (.int w) = some L') (G : GoK p e below D T (mkF m pc' L' St)) : GoK p e below D T (mkF m pc Ls St) := by
  subst hp
  exact GoK.by (fun t k => XS.iinc X.at hx rfl hd hl (hi.symm ▸ hs) k) G
theorem go_iconst (X : OnK p l e R s m args below meth c n0 T h cells slots) (hx : p.tables.exec = Jvm.exec) {i : Int} {v : Int32} (hd : decode c.code pc = .ok (.iconst i, 1)) (hp : pc + 1 = pc') (hv : Int32.ofInt i = v) (G : GoK p e below D T (mkF m pc' Ls (.int v :: St))) : GoK p e below D T (mkF m pc Ls St) := by
  subst hp
  exact GoK.by (fun t k => Jvm.Free.XT.iconstV X.at hx rfl v hd hv k) G
theorem go_bipush (X : OnK p l e R s m args below meth c n0 T h cells slots) (hx : p.tables.exec = Jvm.exec) {i : Int} {v : Int32} (hd : decode c.code pc = .ok (.bipush i, 2)) (hp : pc + 2 = pc') (hv : (Int8.ofInt i).toInt32 = v) (G : GoK p e below D T (mkF m pc' Ls (.int v :: St))) : GoK p e below D T (mkF m pc Ls St) := by
  subst hp
  exact GoK.by (fun t k => Jvm.Free.XT.bipushV X.at hx rfl v hd hv k) G
theorem go_sipush (X : OnK p l e R s m args below meth c n0 T h cells slots) (hx : p.tables.exec = Jvm.exec) {i : Int} {v : Int32} (hd : decode c.code pc = .ok (.sipush i, 3)) (hp : pc + 3 = pc') (hv : (Int16.ofInt i).toInt32 = v) (G : GoK p e below D T (mkF m pc' Ls (.int v :: St))) : GoK p e below D T (mkF m pc Ls St) := by
  subst hp
  exact GoK.by (fun t k => Jvm.Free.XT.sipushV X.at hx rfl v hd hv k) G
theorem go_lconst (X : OnK p l e R s m args below meth c n0 T h cells slots) (hx : p.tables.exec = Jvm.exec) {i : Fin 2} {v : Int64} (hd : decode c.code pc = .ok (.lconst i, 1)) (hp : pc + 1 = pc') (hv : Int64.ofNat i = v) (G : GoK p e below D T (mkF m pc' Ls (.long v :: St))) : GoK p e below D T (mkF m pc Ls St) := by
  subst hp
  exact GoK.by (fun t k => Jvm.Free.XT.lconstV X.at hx rfl v hd hv k) G
theorem go_goto (X : OnK p l e R s m args below meth c n0 T h cells slots) (hx : p.tables.exec = Jvm.exec) {o : Int} (hd : decode c.code pc = .ok (.goto o, 3)) (ho : 0 ≤ (pc : Int) + o) (hp : ((pc : Int) + o).toNat = pc') (G : GoK p e below D T (mkF m pc' Ls St)) : GoK p e below D T (mkF m pc Ls St) :=
  GoK.by (fun t k => XS.goto X.at hx rfl rfl hd ho hp k) G
theorem go_dup2 (X : OnK p l e R s m args below meth c n0 T h cells slots) (hx : p.tables.exec = Jvm.exec) {j : Int32} {a : Addr} (hd : decode c.code pc = .ok (.dup2, 1)) (hp : pc + 1 = pc') (G : GoK p e below D T (mkF m pc' Ls (.int j :: .ref a :: .int j :: .ref a :: St))) : GoK p e below D T (mkF m pc Ls (.int j :: .ref a :: St)) := by
  subst hp
  refine GoK.by (fun t k => ?_) G
  jvm_step X.at [X.at.top, hx, hd, Value.category]
  exact k
theorem go_ldcI (X : OnK p l e R s m args below meth c n0 T h cells slots) (hx : p.tables.exec = Jvm.exec) (hZ : Z.Warmed39 s.vm) {own : String} {i : Nat} {v : Int32} (hown : s.vm.findClass own = some m.cls) (wd : (Jvm.Cond.constant own i v).before a0 Z = true) (hd : decode c.code pc = .ok (.ldc i, 2)) (hp : pc + 2 = pc') (G : GoK p e below D T (mkF m pc' Ls (.int v :: St))) : GoK p e below D T (mkF m pc Ls St) := by
  subst hp
  obtain ⟨_, Y, -, -⟩ := X
  exact GoK.by (fun t k => Y.ldcInt hx hown (mvT hZ wd) (g := mkF m pc Ls St) rfl hd t k) G
theorem go_ldcwI (X : OnK p l e R s m args below meth c n0 T h cells slots) (hx : p.tables.exec = Jvm.exec) (hZ : Z.Warmed39 s.vm) {own : String} {i : Nat} {v : Int32} (hown : s.vm.findClass own = some m.cls) (wd : (Jvm.Cond.constant own i v).before a0 Z = true) (hd : decode c.code pc = .ok (.ldc_w i, 3)) (hp : pc + 3 = pc') (G : GoK p e below D T (mkF m pc' Ls (.int v :: St))) : GoK p e below D T (mkF m pc Ls St) := by
  subst hp
  obtain ⟨_, Y, -, -⟩ := X
  exact GoK.by (fun t k => Y.ldcwInt hx hown (mvT hZ wd) (g := mkF m pc Ls St) rfl hd t k) G
theorem go_ldc2 (X : OnK p l e R s m args below meth c n0 T h cells slots) (hx : p.tables.exec = Jvm.exec) (hZ : Z.Warmed39 s.vm) {own : String} {i : Nat} {v : Int64} (hown : s.vm.findClass own = some m.cls) (wd : (Jvm.Cond.constantLong own i v).before a0 Z = true) (hd : decode c.code pc = .ok (.ldc2_w i, 3)) (hp : pc + 3 = pc') (G : GoK p e below D T (mkF m pc' Ls (.long v :: St))) : GoK p e below D T (mkF m pc Ls St) := by
  subst hp
  obtain ⟨_, Y, -, -⟩ := X
  exact GoK.by (fun t k => Y.ldc2Long hx hown (mvT hZ wd) (g := mkF m pc Ls St) rfl hd t k) G
theorem go_ifeq (X : OnK p l e R s m args below meth c n0 T h cells slots) (hx : p.tables.exec = Jvm.exec) {x : Int32} {o : Int} {pcT : Nat} (hd : decode c.code pc = .ok (.ifCond .eq o, 3)) (hp : pc + 3 = pc') (ho : 0 ≤ (pc : Int) + o) (ht : ((pc : Int) + o).toNat = pcT) (G1 : x = 0 → GoK p e below D T (mkF m pcT Ls St)) (G2 : ¬ x = 0 → GoK p e below D T (mkF m pc' Ls St)) : GoK p e below D T (mkF m pc Ls (.int x :: St)) := by
  subst hp
  by_cases q : x = 0
  · exact GoK.by (fun t k => XS.ifYes X.at hx rfl rfl hd rfl ((if0 _ _).trans (teq q).1) ho ht k) (G1 q)
  · exact GoK.by (fun t k => XS.ifNo X.at hx rfl hd rfl ((if0 _ _).trans (feq q).1) k) (G2 q)
theorem go_icmpeq (X : OnK p l e R s m args below meth c n0 T h cells slots) (hx : p.tables.exec = Jvm.exec) {x y : Int32} {o : Int} {pcT : Nat} (hd : decode c.code pc = .ok (.if_icmp .eq o, 3)) (hp : pc + 3 = pc') (ho : 0 ≤ (pc : Int) + o) (ht : ((pc : Int) + o).toNat = pcT) (G1 : x = y → GoK p e below D T (mkF m pcT Ls St)) (G2 : ¬ x = y → GoK p e below D T (mkF m pc' Ls St)) : GoK p e below D T (mkF m pc Ls (.int y :: .int x :: St)) := by
  subst hp
  by_cases q : x = y
  · exact GoK.by (fun t k => XS.icmpYes X.at hx rfl rfl hd rfl (teq q).1 ho ht k) (G1 q)
  · exact GoK.by (fun t k => XS.icmpNo X.at hx rfl hd rfl (feq q).1 k) (G2 q)
theorem go_lifeq (X : OnK p l e R s m args below meth c n0 T h cells slots) (hx : p.tables.exec = Jvm.exec) {x y : Int64} {o : Int} {pc1 pcT : Nat} (hd1 : decode c.code pc = .ok (.lcmp, 1)) (hp1 : pc + 1 = pc1) (hd : decode c.code pc1 = .ok (.ifCond .eq o, 3)) (hp : pc1 + 3 = pc') (ho : 0 ≤ (pc1 : Int) + o) (ht : ((pc1 : Int) + o).toNat = pcT) (G1 : x = y → GoK p e below D T (mkF m pcT Ls St)) (G2 : ¬ x = y → GoK p e below D T (mkF m pc' Ls St)) : GoK p e below D T (mkF m pc Ls (.long y :: .long x :: St)) := by
  subst hp1
  refine GoK.by (fun t k => XS.lcmp X.at hx rfl hd1 rfl k) ?_
  exact go_ifeq X hx hd hp ho ht (fun q => G1 ((lw_eq x y).mp q)) (fun q => G2 ((not_congr (lw_eq x y)).mp q))
theorem go_ifne (X : OnK p l e R s m args below meth c n0 T h cells slots) (hx : p.tables.exec = Jvm.exec) {x : Int32} {o : Int} {pcT : Nat} (hd : decode c.code pc = .ok (.ifCond .ne o, 3)) (hp : pc + 3 = pc') (ho : 0 ≤ (pc : Int) + o) (ht : ((pc : Int) + o).toNat = pcT) (G1 : ¬ x = 0 → GoK p e below D T (mkF m pcT Ls St)) (G2 : x = 0 → GoK p e below D T (mkF m pc' Ls St)) : GoK p e below D T (mkF m pc Ls (.int x :: St)) := by
  subst hp
  by_cases q : ¬ x = 0
  · exact GoK.by (fun t k => XS.ifYes X.at hx rfl rfl hd rfl ((if0 _ _).trans (feq q).2) ho ht k) (G1 q)
  · exact GoK.by (fun t k => XS.ifNo X.at hx rfl hd rfl ((if0 _ _).trans (teq (Classical.not_not.mp q)).2) k) (G2 (Classical.not_not.mp q))
theorem go_icmpne (X : OnK p l e R s m args below meth c n0 T h cells slots) (hx : p.tables.exec = Jvm.exec) {x y : Int32} {o : Int} {pcT : Nat} (hd : decode c.code pc = .ok (.if_icmp .ne o, 3)) (hp : pc + 3 = pc') (ho : 0 ≤ (pc : Int) + o) (ht : ((pc : Int) + o).toNat = pcT) (G1 : ¬ x = y → GoK p e below D T (mkF m pcT Ls St)) (G2 : x = y → GoK p e below D T (mkF m pc' Ls St)) : GoK p e below D T (mkF m pc Ls (.int y :: .int x :: St)) := by
  subst hp
  by_cases q : ¬ x = y
  · exact GoK.by (fun t k => XS.icmpYes X.at hx rfl rfl hd rfl (feq q).2 ho ht k) (G1 q)
  · exact GoK.by (fun t k => XS.icmpNo X.at hx rfl hd rfl (teq (Classical.not_not.mp q)).2 k) (G2 (Classical.not_not.mp q))
theorem go_lifne (X : OnK p l e R s m args below meth c n0 T h cells slots) (hx : p.tables.exec = Jvm.exec) {x y : Int64} {o : Int} {pc1 pcT : Nat} (hd1 : decode c.code pc = .ok (.lcmp, 1)) (hp1 : pc + 1 = pc1) (hd : decode c.code pc1 = .ok (.ifCond .ne o, 3)) (hp : pc1 + 3 = pc') (ho : 0 ≤ (pc1 : Int) + o) (ht : ((pc1 : Int) + o).toNat = pcT) (G1 : ¬ x = y → GoK p e below D T (mkF m pcT Ls St)) (G2 : x = y → GoK p e below D T (mkF m pc' Ls St)) : GoK p e below D T (mkF m pc Ls (.long y :: .long x :: St)) := by
  subst hp1
  refine GoK.by (fun t k => XS.lcmp X.at hx rfl hd1 rfl k) ?_
  exact go_ifne X hx hd hp ho ht (fun q => G1 ((not_congr (lw_eq x y)).mp q)) (fun q => G2 ((lw_eq x y).mp q))
theorem go_iflt (X : OnK p l e R s m args below meth c n0 T h cells slots) (hx : p.tables.exec = Jvm.exec) {x : Int32} {o : Int} {pcT : Nat} (hd : decode c.code pc = .ok (.ifCond .lt o, 3)) (hp : pc + 3 = pc') (ho : 0 ≤ (pc : Int) + o) (ht : ((pc : Int) + o).toNat = pcT) (G1 : x < 0 → GoK p e below D T (mkF m pcT Ls St)) (G2 : ¬ x < 0 → GoK p e below D T (mkF m pc' Ls St)) : GoK p e below D T (mkF m pc Ls (.int x :: St)) := by
  subst hp
  by_cases q : x < 0
  · exact GoK.by (fun t k => XS.ifYes X.at hx rfl rfl hd rfl ((if0 _ _).trans (tlt q).1) ho ht k) (G1 q)
  · exact GoK.by (fun t k => XS.ifNo X.at hx rfl hd rfl ((if0 _ _).trans (flt q).1) k) (G2 q)
theorem go_icmplt (X : OnK p l e R s m args below meth c n0 T h cells slots) (hx : p.tables.exec = Jvm.exec) {x y : Int32} {o : Int} {pcT : Nat} (hd : decode c.code pc = .ok (.if_icmp .lt o, 3)) (hp : pc + 3 = pc') (ho : 0 ≤ (pc : Int) + o) (ht : ((pc : Int) + o).toNat = pcT) (G1 : x < y → GoK p e below D T (mkF m pcT Ls St)) (G2 : ¬ x < y → GoK p e below D T (mkF m pc' Ls St)) : GoK p e below D T (mkF m pc Ls (.int y :: .int x :: St)) := by
  subst hp
  by_cases q : x < y
  · exact GoK.by (fun t k => XS.icmpYes X.at hx rfl rfl hd rfl (tlt q).1 ho ht k) (G1 q)
  · exact GoK.by (fun t k => XS.icmpNo X.at hx rfl hd rfl (flt q).1 k) (G2 q)
theorem go_liflt (X : OnK p l e R s m args below meth c n0 T h cells slots) (hx : p.tables.exec = Jvm.exec) {x y : Int64} {o : Int} {pc1 pcT : Nat} (hd1 : decode c.code pc = .ok (.lcmp, 1)) (hp1 : pc + 1 = pc1) (hd : decode c.code pc1 = .ok (.ifCond .lt o, 3)) (hp : pc1 + 3 = pc') (ho : 0 ≤ (pc1 : Int) + o) (ht : ((pc1 : Int) + o).toNat = pcT) (G1 : x < y → GoK p e below D T (mkF m pcT Ls St)) (G2 : ¬ x < y → GoK p e below D T (mkF m pc' Ls St)) : GoK p e below D T (mkF m pc Ls (.long y :: .long x :: St)) := by
  subst hp1
  refine GoK.by (fun t k => XS.lcmp X.at hx rfl hd1 rfl k) ?_
  exact go_iflt X hx hd hp ho ht (fun q => G1 ((lw_lt x y).mp q)) (fun q => G2 ((not_congr (lw_lt x y)).mp q))
theorem go_ifge (X : OnK p l e R s m args below meth c n0 T h cells slots) (hx : p.tables.exec = Jvm.exec) {x : Int32} {o : Int} {pcT : Nat} (hd : decode c.code pc = .ok (.ifCond .ge o, 3)) (hp : pc + 3 = pc') (ho : 0 ≤ (pc : Int) + o) (ht : ((pc : Int) + o).toNat = pcT) (G1 : ¬ x < 0 → GoK p e below D T (mkF m pcT Ls St)) (G2 : x < 0 → GoK p e below D T (mkF m pc' Ls St)) : GoK p e below D T (mkF m pc Ls (.int x :: St)) := by
  subst hp
  by_cases q : ¬ x < 0
  · exact GoK.by (fun t k => XS.ifYes X.at hx rfl rfl hd rfl ((if0 _ _).trans (flt q).2.1) ho ht k) (G1 q)
  · exact GoK.by (fun t k => XS.ifNo X.at hx rfl hd rfl ((if0 _ _).trans (tlt (Classical.not_not.mp q)).2.1) k) (G2 (Classical.not_not.mp q))
theorem go_icmpge (X : OnK p l e R s m args below meth c n0 T h cells slots) (hx : p.tables.exec = Jvm.exec) {x y : Int32} {o : Int} {pcT : Nat} (hd : decode c.code pc = .ok (.if_icmp .ge o, 3)) (hp : pc + 3 = pc') (ho : 0 ≤ (pc : Int) + o) (ht : ((pc : Int) + o).toNat = pcT) (G1 : ¬ x < y → GoK p e below D T (mkF m pcT Ls St)) (G2 : x < y → GoK p e below D T (mkF m pc' Ls St)) : GoK p e below D T (mkF m pc Ls (.int y :: .int x :: St)) := by
  subst hp
  by_cases q : ¬ x < y
  · exact GoK.by (fun t k => XS.icmpYes X.at hx rfl rfl hd rfl (flt q).2.1 ho ht k) (G1 q)
  · exact GoK.by (fun t k => XS.icmpNo X.at hx rfl hd rfl (tlt (Classical.not_not.mp q)).2.1 k) (G2 (Classical.not_not.mp q))
theorem go_lifge (X : OnK p l e R s m args below meth c n0 T h cells slots) (hx : p.tables.exec = Jvm.exec) {x y : Int64} {o : Int} {pc1 pcT : Nat} (hd1 : decode c.code pc = .ok (.lcmp, 1)) (hp1 : pc + 1 = pc1) (hd : decode c.code pc1 = .ok (.ifCond .ge o, 3)) (hp : pc1 + 3 = pc') (ho : 0 ≤ (pc1 : Int) + o) (ht : ((pc1 : Int) + o).toNat = pcT) (G1 : ¬ x < y → GoK p e below D T (mkF m pcT Ls St)) (G2 : x < y → GoK p e below D T (mkF m pc' Ls St)) : GoK p e below D T (mkF m pc Ls (.long y :: .long x :: St)) := by
  subst hp1
  refine GoK.by (fun t k => XS.lcmp X.at hx rfl hd1 rfl k) ?_
  exact go_ifge X hx hd hp ho ht (fun q => G1 ((not_congr (lw_lt x y)).mp q)) (fun q => G2 ((lw_lt x y).mp q))
theorem go_ifgt (X : OnK p l e R s m args below meth c n0 T h cells slots) (hx : p.tables.exec = Jvm.exec) {x : Int32} {o : Int} {pcT : Nat} (hd : decode c.code pc = .ok (.ifCond .gt o, 3)) (hp : pc + 3 = pc') (ho : 0 ≤ (pc : Int) + o) (ht : ((pc : Int) + o).toNat = pcT) (G1 : 0 < x → GoK p e below D T (mkF m pcT Ls St)) (G2 : ¬ 0 < x → GoK p e below D T (mkF m pc' Ls St)) : GoK p e below D T (mkF m pc Ls (.int x :: St)) := by
  subst hp
  by_cases q : 0 < x
  · exact GoK.by (fun t k => XS.ifYes X.at hx rfl rfl hd rfl ((if0 _ _).trans (tlt q).2.2.1) ho ht k) (G1 q)
  · exact GoK.by (fun t k => XS.ifNo X.at hx rfl hd rfl ((if0 _ _).trans (flt q).2.2.1) k) (G2 q)
theorem go_icmpgt (X : OnK p l e R s m args below meth c n0 T h cells slots) (hx : p.tables.exec = Jvm.exec) {x y : Int32} {o : Int} {pcT : Nat} (hd : decode c.code pc = .ok (.if_icmp .gt o, 3)) (hp : pc + 3 = pc') (ho : 0 ≤ (pc : Int) + o) (ht : ((pc : Int) + o).toNat = pcT) (G1 : y < x → GoK p e below D T (mkF m pcT Ls St)) (G2 : ¬ y < x → GoK p e below D T (mkF m pc' Ls St)) : GoK p e below D T (mkF m pc Ls (.int y :: .int x :: St)) := by
  subst hp
  by_cases q : y < x
  · exact GoK.by (fun t k => XS.icmpYes X.at hx rfl rfl hd rfl (tlt q).2.2.1 ho ht k) (G1 q)
  · exact GoK.by (fun t k => XS.icmpNo X.at hx rfl hd rfl (flt q).2.2.1 k) (G2 q)
theorem go_lifgt (X : OnK p l e R s m args below meth c n0 T h cells slots) (hx : p.tables.exec = Jvm.exec) {x y : Int64} {o : Int} {pc1 pcT : Nat} (hd1 : decode c.code pc = .ok (.lcmp, 1)) (hp1 : pc + 1 = pc1) (hd : decode c.code pc1 = .ok (.ifCond .gt o, 3)) (hp : pc1 + 3 = pc') (ho : 0 ≤ (pc1 : Int) + o) (ht : ((pc1 : Int) + o).toNat = pcT) (G1 : y < x → GoK p e below D T (mkF m pcT Ls St)) (G2 : ¬ y < x → GoK p e below D T (mkF m pc' Ls St)) : GoK p e below D T (mkF m pc Ls (.long y :: .long x :: St)) := by
  subst hp1
  refine GoK.by (fun t k => XS.lcmp X.at hx rfl hd1 rfl k) ?_
  exact go_ifgt X hx hd hp ho ht (fun q => G1 ((lw_gt x y).mp q)) (fun q => G2 ((not_congr (lw_gt x y)).mp q))
theorem go_ifle (X : OnK p l e R s m args below meth c n0 T h cells slots) (hx : p.tables.exec = Jvm.exec) {x : Int32} {o : Int} {pcT : Nat} (hd : decode c.code pc = .ok (.ifCond .le o, 3)) (hp : pc + 3 = pc') (ho : 0 ≤ (pc : Int) + o) (ht : ((pc : Int) + o).toNat = pcT) (G1 : ¬ 0 < x → GoK p e below D T (mkF m pcT Ls St)) (G2 : 0 < x → GoK p e below D T (mkF m pc' Ls St)) : GoK p e below D T (mkF m pc Ls (.int x :: St)) := by
  subst hp
  by_cases q : ¬ 0 < x
  · exact GoK.by (fun t k => XS.ifYes X.at hx rfl rfl hd rfl ((if0 _ _).trans (flt q).2.2.2) ho ht k) (G1 q)
  · exact GoK.by (fun t k => XS.ifNo X.at hx rfl hd rfl ((if0 _ _).trans (tlt (Classical.not_not.mp q)).2.2.2) k) (G2 (Classical.not_not.mp q))
theorem go_icmple (X : OnK p l e R s m args below meth c n0 T h cells slots) (hx : p.tables.exec = Jvm.exec) {x y : Int32} {o : Int} {pcT : Nat} (hd : decode c.code pc = .ok (.if_icmp .le o, 3)) (hp : pc + 3 = pc') (ho : 0 ≤ (pc : Int) + o) (ht : ((pc : Int) + o).toNat = pcT) (G1 : ¬ y < x → GoK p e below D T (mkF m pcT Ls St)) (G2 : y < x → GoK p e below D T (mkF m pc' Ls St)) : GoK p e below D T (mkF m pc Ls (.int y :: .int x :: St)) := by
  subst hp
  by_cases q : ¬ y < x
  · exact GoK.by (fun t k => XS.icmpYes X.at hx rfl rfl hd rfl (flt q).2.2.2 ho ht k) (G1 q)
  · exact GoK.by (fun t k => XS.icmpNo X.at hx rfl hd rfl (tlt (Classical.not_not.mp q)).2.2.2 k) (G2 (Classical.not_not.mp q))
theorem go_lifle (X : OnK p l e R s m args below meth c n0 T h cells slots) (hx : p.tables.exec = Jvm.exec) {x y : Int64} {o : Int} {pc1 pcT : Nat} (hd1 : decode c.code pc = .ok (.lcmp, 1)) (hp1 : pc + 1 = pc1) (hd : decode c.code pc1 = .ok (.ifCond .le o, 3)) (hp : pc1 + 3 = pc') (ho : 0 ≤ (pc1 : Int) + o) (ht : ((pc1 : Int) + o).toNat = pcT) (G1 : ¬ y < x → GoK p e below D T (mkF m pcT Ls St)) (G2 : y < x → GoK p e below D T (mkF m pc' Ls St)) : GoK p e below D T (mkF m pc Ls (.long y :: .long x :: St)) := by
  subst hp1
  refine GoK.by (fun t k => XS.lcmp X.at hx rfl hd1 rfl k) ?_
  exact go_ifle X hx hd hp ho ht (fun q => G1 ((not_congr (lw_gt x y)).mp q)) (fun q => G2 ((lw_gt x y).mp q))
/-- the array at a: of n places, place i holds the int f i -/
def AIK (Z : State) (h : Heap) (a : Addr) (ty : FieldType) (n : Int) (f : Int → Int32) : Prop := ∃ c : Cell, Arr Z h a c ty ∧ (c.slots.size : Int) = n ∧ n < 2147483648 ∧ ∀ i : Nat, (i : Int) < n → c.slots[i]? = some (.int (f i))
def AJK (Z : State) (h : Heap) (a : Addr) (n : Int) (f : Int → Int64) : Prop := ∃ c : Cell, Arr Z h a c .long ∧ (c.slots.size : Int) = n ∧ n < 2147483648 ∧ ∀ i : Nat, (i : Int) < n → c.slots[i]? = some (.long (f i))
theorem AIK.lt {a : Addr} {ty : FieldType} {n : Int} {f : Int → Int32} (F : AIK Z h a ty n f) : a < h.size := by obtain ⟨c, A, -⟩ := F; exact A.lt
theorem AIK.nn {a : Addr} {ty : FieldType} {n : Int} {f : Int → Int32} (F : AIK Z h a ty n f) : 0 ≤ n ∧ n < 2147483648 := by obtain ⟨c, -, S, q, -⟩ := F; exact ⟨by omega, q⟩
theorem AIK.ext {h' : Heap} {a : Addr} {ty : FieldType} {n : Int} {f : Int → Int32} (F : AIK Z h a ty n f) (E : Ext h h') : AIK Z h' a ty n f := by obtain ⟨c, A, r⟩ := F; exact ⟨c, A.ext E, r⟩
theorem AIK.other {h' : Heap} {a b : Addr} {sl : Nat} {v : Value} {ty : FieldType} {n : Int} {f : Int → Int32} (F : AIK Z h b ty n f) (W : Wr h h' a sl v) (q : b ≠ a) : AIK Z h' b ty n f := by obtain ⟨c, A, r⟩ := F; exact ⟨c, A.other W q, r⟩
theorem AIK.keep {h' : Heap} {a : Addr} {ws : List Addr} {ty : FieldType} {n : Int} {f : Int → Int32} (F : AIK Z h a ty n f) (K : Keep h h' ws) (q : a ∉ ws) : AIK Z h' a ty n f := by obtain ⟨c, A, r⟩ := F; exact ⟨c, ⟨K.2.1 a c A.1 q, A.2⟩, r⟩
theorem AIK.of_arv {a : Addr} {k : ClassId} {ty : FieldType} {z : Int32} {n : Int} {x : Int32} (F : Arv Z h a k ty z [] (.int x)) (q : z.toInt = n) : AIK Z h a ty n (fun _ => x) := by
  obtain ⟨c, A, -, S, M, H, -⟩ := F
  rw [Int32.lt_iff_toInt_lt] at M
  have hz : (0 : Int32).toInt = 0 := rfl
  have hr := rng32 z
  have S' : c.slots.size = z.toInt.toNat := S
  refine ⟨c, A, by omega, by omega, fun i hi => ?_⟩
  exact (H i (by omega)).trans rfl
theorem AIK.set {h' : Heap} {a : Addr} {j : Int32} {ty : FieldType} {n : Int} {f : Int → Int32} {x : Int32} (F : AIK Z h a ty n f) (W : Wr h h' a j.toNatClampNeg (.int x)) (h1 : 0 ≤ j.toInt) (h2 : j.toInt < n) : AIK Z h' a ty n (fun i => if i = j.toInt then x else f i) := by
  obtain ⟨c, A, S, M, H⟩ := F
  have hj : j.toNatClampNeg = j.toInt.toNat := rfl
  refine ⟨_, A.same W, ?_, M, fun i hi => ?_⟩
  · show (((c.slots.setIfInBounds j.toNatClampNeg (Value.int x)).size : Nat) : Int) = n
    rw [Array.size_setIfInBounds]; exact S
  · show (c.slots.setIfInBounds j.toNatClampNeg (Value.int x))[i]? = _
    rw [Array.getElem?_setIfInBounds]
    by_cases q : j.toNatClampNeg = i
    · have hi' : (i : Int) = j.toInt := by omega
      rw [if_pos q, if_pos (by omega)]
      show some (Value.int x) = some (Value.int (if (i : Int) = j.toInt then x else f i))
      rw [if_pos hi']
    · have hi' : ¬ (i : Int) = j.toInt := by omega
      rw [if_neg q]
      show _ = some (Value.int (if (i : Int) = j.toInt then x else f i))
      rw [if_neg hi']; exact H i hi
theorem AIK.get {a : Addr} {j : Int32} {ty : FieldType} {n : Int} {f : Int → Int32} (F : AIK Z h a ty n f) (h1 : 0 ≤ j.toInt) (h2 : j.toInt < n) : ∃ c : Cell, Arr Z h a c ty ∧ ¬ (j < 0 ∨ c.slots.size ≤ j.toNatClampNeg) ∧ c.slots[j.toNatClampNeg]? = some (.int (f j.toInt)) := by
  obtain ⟨c, A, S, M, H⟩ := F
  have hj : j.toNatClampNeg = j.toInt.toNat := rfl
  refine ⟨c, A, ?_, ?_⟩
  · rw [Int32.lt_iff_toInt_lt]
    have hz : (0 : Int32).toInt = 0 := rfl
    omega
  · rw [hj, H j.toInt.toNat (by omega), Int.toNat_of_nonneg h1]
theorem AIK.congr {a : Addr} {ty : FieldType} {n : Int} {f g : Int → Int32} (F : AIK Z h a ty n f) (q : ∀ i : Int, 0 ≤ i → i < n → f i = g i) : AIK Z h a ty n g := by
  obtain ⟨c, A, S, M, H⟩ := F
  exact ⟨c, A, S, M, fun i hi => by rw [H i hi, q i (by omega) hi]⟩
theorem AJK.lt {a : Addr} {n : Int} {f : Int → Int64} (F : AJK Z h a n f) : a < h.size := by obtain ⟨c, A, -⟩ := F; exact A.lt
theorem AJK.nn {a : Addr} {n : Int} {f : Int → Int64} (F : AJK Z h a n f) : 0 ≤ n ∧ n < 2147483648 := by obtain ⟨c, -, S, q, -⟩ := F; exact ⟨by omega, q⟩
theorem AJK.ext {h' : Heap} {a : Addr} {n : Int} {f : Int → Int64} (F : AJK Z h a n f) (E : Ext h h') : AJK Z h' a n f := by obtain ⟨c, A, r⟩ := F; exact ⟨c, A.ext E, r⟩
theorem AJK.other {h' : Heap} {a b : Addr} {sl : Nat} {v : Value} {n : Int} {f : Int → Int64} (F : AJK Z h b n f) (W : Wr h h' a sl v) (q : b ≠ a) : AJK Z h' b n f := by obtain ⟨c, A, r⟩ := F; exact ⟨c, A.other W q, r⟩
theorem AJK.keep {h' : Heap} {a : Addr} {ws : List Addr} {n : Int} {f : Int → Int64} (F : AJK Z h a n f) (K : Keep h h' ws) (q : a ∉ ws) : AJK Z h' a n f := by obtain ⟨c, A, r⟩ := F; exact ⟨c, ⟨K.2.1 a c A.1 q, A.2⟩, r⟩
theorem AJK.of_arv {a : Addr} {k : ClassId} {z : Int32} {n : Int} {x : Int64} (F : Arv Z h a k .long z [] (.long x)) (q : z.toInt = n) : AJK Z h a n (fun _ => x) := by
  obtain ⟨c, A, -, S, M, H, -⟩ := F
  rw [Int32.lt_iff_toInt_lt] at M
  have hz : (0 : Int32).toInt = 0 := rfl
  have hr := rng32 z
  have S' : c.slots.size = z.toInt.toNat := S
  refine ⟨c, A, by omega, by omega, fun i hi => ?_⟩
  exact (H i (by omega)).trans rfl
theorem AJK.set {h' : Heap} {a : Addr} {j : Int32} {n : Int} {f : Int → Int64} {x : Int64} (F : AJK Z h a n f) (W : Wr h h' a j.toNatClampNeg (.long x)) (h1 : 0 ≤ j.toInt) (h2 : j.toInt < n) : AJK Z h' a n (fun i => if i = j.toInt then x else f i) := by
  obtain ⟨c, A, S, M, H⟩ := F
  have hj : j.toNatClampNeg = j.toInt.toNat := rfl
  refine ⟨_, A.same W, ?_, M, fun i hi => ?_⟩
  · show (((c.slots.setIfInBounds j.toNatClampNeg (Value.long x)).size : Nat) : Int) = n
    rw [Array.size_setIfInBounds]; exact S
  · show (c.slots.setIfInBounds j.toNatClampNeg (Value.long x))[i]? = _
    rw [Array.getElem?_setIfInBounds]
    by_cases q : j.toNatClampNeg = i
    · have hi' : (i : Int) = j.toInt := by omega
      rw [if_pos q, if_pos (by omega)]
      show some (Value.long x) = some (Value.long (if (i : Int) = j.toInt then x else f i))
      rw [if_pos hi']
    · have hi' : ¬ (i : Int) = j.toInt := by omega
      rw [if_neg q]
      show _ = some (Value.long (if (i : Int) = j.toInt then x else f i))
      rw [if_neg hi']; exact H i hi
theorem AJK.get {a : Addr} {j : Int32} {n : Int} {f : Int → Int64} (F : AJK Z h a n f) (h1 : 0 ≤ j.toInt) (h2 : j.toInt < n) : ∃ c : Cell, Arr Z h a c .long ∧ ¬ (j < 0 ∨ c.slots.size ≤ j.toNatClampNeg) ∧ c.slots[j.toNatClampNeg]? = some (.long (f j.toInt)) := by
  obtain ⟨c, A, S, M, H⟩ := F
  have hj : j.toNatClampNeg = j.toInt.toNat := rfl
  refine ⟨c, A, ?_, ?_⟩
  · rw [Int32.lt_iff_toInt_lt]
    have hz : (0 : Int32).toInt = 0 := rfl
    omega
  · rw [hj, H j.toInt.toNat (by omega), Int.toNat_of_nonneg h1]
theorem AJK.congr {a : Addr} {n : Int} {f g : Int → Int64} (F : AJK Z h a n f) (q : ∀ i : Int, 0 ≤ i → i < n → f i = g i) : AJK Z h a n g := by
  obtain ⟨c, A, S, M, H⟩ := F
  exact ⟨c, A, S, M, fun i hi => by rw [H i hi, q i (by omega) hi]⟩
theorem go_newI (X : OnK p l e R s m args below meth c n0 T h cells slots) (hx : p.tables.exec = Jvm.exec) (hZ : Z.Warmed39 s.vm) {x : Int32} {cap : Nat} {n : Int} (wd : (Jvm.Cond.arrayClass .int).before a0 Z = true) (hd : decode c.code pc = .ok (.newarray .int, 2)) (hp : pc + 2 = pc') (hn : x.toInt = n) (h1 : 0 ≤ n) (h2 : n ≤ cap) (hb : cap * 8 ≤ 536870912) (hc : cells + 1 ≤ R.cells) (hs : slots + cap ≤ R.slots) (hc' : cells + 1 = cells') (hs' : slots + cap = slots') (G : ∀ (T' : State) (h' : Heap) (a : Addr), a = h.size → OnK p l e R s m args below meth c n0 T' h' cells' slots' → Ext h h' → AIK Z h' a .int n (fun _ => 0) → GoK p e below D T' (mkF m (pc') Ls (.ref a :: St))) : GoK p e below D T (mkF m pc Ls (.int x :: St)) := by
  subst hp hc' hs'
  obtain ⟨_, Y, e0, N⟩ := X
  have hz : (0 : Int32).toInt = 0 := rfl
  have q : ¬ x < 0 := by rw [Int32.lt_iff_toInt_lt]; omega
  obtain ⟨T', h', k, Y', e', E, A, st⟩ := newP Y hx hZ (aty := .int) wd e0 (g := mkF m pc Ls (.int x :: St)) rfl hd rfl q (cap := cap) (by show x.toInt.toNat ≤ cap; omega) hb hc hs
  refine GoK.by st (G T' h' _ rfl ⟨_, Y', e', N⟩ E ?_)
  exact AIK.of_arv (Arv.new A q) hn
theorem go_newB (X : OnK p l e R s m args below meth c n0 T h cells slots) (hx : p.tables.exec = Jvm.exec) (hZ : Z.Warmed39 s.vm) {x : Int32} {cap : Nat} {n : Int} (wd : (Jvm.Cond.arrayClass .byte).before a0 Z = true) (hd : decode c.code pc = .ok (.newarray .byte, 2)) (hp : pc + 2 = pc') (hn : x.toInt = n) (h1 : 0 ≤ n) (h2 : n ≤ cap) (hb : cap * 8 ≤ 536870912) (hc : cells + 1 ≤ R.cells) (hs : slots + cap ≤ R.slots) (hc' : cells + 1 = cells') (hs' : slots + cap = slots') (G : ∀ (T' : State) (h' : Heap) (a : Addr), a = h.size → OnK p l e R s m args below meth c n0 T' h' cells' slots' → Ext h h' → AIK Z h' a .byte n (fun _ => 0) → GoK p e below D T' (mkF m (pc') Ls (.ref a :: St))) : GoK p e below D T (mkF m pc Ls (.int x :: St)) := by
  subst hp hc' hs'
  obtain ⟨_, Y, e0, N⟩ := X
  have hz : (0 : Int32).toInt = 0 := rfl
  have q : ¬ x < 0 := by rw [Int32.lt_iff_toInt_lt]; omega
  obtain ⟨T', h', k, Y', e', E, A, st⟩ := newP Y hx hZ (aty := .byte) wd e0 (g := mkF m pc Ls (.int x :: St)) rfl hd rfl q (cap := cap) (by show x.toInt.toNat ≤ cap; omega) hb hc hs
  refine GoK.by st (G T' h' _ rfl ⟨_, Y', e', N⟩ E ?_)
  exact AIK.of_arv (Arv.new A q) hn
theorem go_newC (X : OnK p l e R s m args below meth c n0 T h cells slots) (hx : p.tables.exec = Jvm.exec) (hZ : Z.Warmed39 s.vm) {x : Int32} {cap : Nat} {n : Int} (wd : (Jvm.Cond.arrayClass .char).before a0 Z = true) (hd : decode c.code pc = .ok (.newarray .char, 2)) (hp : pc + 2 = pc') (hn : x.toInt = n) (h1 : 0 ≤ n) (h2 : n ≤ cap) (hb : cap * 8 ≤ 536870912) (hc : cells + 1 ≤ R.cells) (hs : slots + cap ≤ R.slots) (hc' : cells + 1 = cells') (hs' : slots + cap = slots') (G : ∀ (T' : State) (h' : Heap) (a : Addr), a = h.size → OnK p l e R s m args below meth c n0 T' h' cells' slots' → Ext h h' → AIK Z h' a .char n (fun _ => 0) → GoK p e below D T' (mkF m (pc') Ls (.ref a :: St))) : GoK p e below D T (mkF m pc Ls (.int x :: St)) := by
  subst hp hc' hs'
  obtain ⟨_, Y, e0, N⟩ := X
  have hz : (0 : Int32).toInt = 0 := rfl
  have q : ¬ x < 0 := by rw [Int32.lt_iff_toInt_lt]; omega
  obtain ⟨T', h', k, Y', e', E, A, st⟩ := newP Y hx hZ (aty := .char) wd e0 (g := mkF m pc Ls (.int x :: St)) rfl hd rfl q (cap := cap) (by show x.toInt.toNat ≤ cap; omega) hb hc hs
  refine GoK.by st (G T' h' _ rfl ⟨_, Y', e', N⟩ E ?_)
  exact AIK.of_arv (Arv.new A q) hn
theorem go_newZ (X : OnK p l e R s m args below meth c n0 T h cells slots) (hx : p.tables.exec = Jvm.exec) (hZ : Z.Warmed39 s.vm) {x : Int32} {cap : Nat} {n : Int} (wd : (Jvm.Cond.arrayClass .boolean).before a0 Z = true) (hd : decode c.code pc = .ok (.newarray .boolean, 2)) (hp : pc + 2 = pc') (hn : x.toInt = n) (h1 : 0 ≤ n) (h2 : n ≤ cap) (hb : cap * 8 ≤ 536870912) (hc : cells + 1 ≤ R.cells) (hs : slots + cap ≤ R.slots) (hc' : cells + 1 = cells') (hs' : slots + cap = slots') (G : ∀ (T' : State) (h' : Heap) (a : Addr), a = h.size → OnK p l e R s m args below meth c n0 T' h' cells' slots' → Ext h h' → AIK Z h' a .boolean n (fun _ => 0) → GoK p e below D T' (mkF m (pc') Ls (.ref a :: St))) : GoK p e below D T (mkF m pc Ls (.int x :: St)) := by
  subst hp hc' hs'
  obtain ⟨_, Y, e0, N⟩ := X
  have hz : (0 : Int32).toInt = 0 := rfl
  have q : ¬ x < 0 := by rw [Int32.lt_iff_toInt_lt]; omega
  obtain ⟨T', h', k, Y', e', E, A, st⟩ := newP Y hx hZ (aty := .boolean) wd e0 (g := mkF m pc Ls (.int x :: St)) rfl hd rfl q (cap := cap) (by show x.toInt.toNat ≤ cap; omega) hb hc hs
  refine GoK.by st (G T' h' _ rfl ⟨_, Y', e', N⟩ E ?_)
  exact AIK.of_arv (Arv.new A q) hn
theorem go_newJ (X : OnK p l e R s m args below meth c n0 T h cells slots) (hx : p.tables.exec = Jvm.exec) (hZ : Z.Warmed39 s.vm) {x : Int32} {cap : Nat} {n : Int} (wd : (Jvm.Cond.arrayClass .long).before a0 Z = true) (hd : decode c.code pc = .ok (.newarray .long, 2)) (hp : pc + 2 = pc') (hn : x.toInt = n) (h1 : 0 ≤ n) (h2 : n ≤ cap) (hb : cap * 8 ≤ 536870912) (hc : cells + 1 ≤ R.cells) (hs : slots + cap ≤ R.slots) (hc' : cells + 1 = cells') (hs' : slots + cap = slots') (G : ∀ (T' : State) (h' : Heap) (a : Addr), a = h.size → OnK p l e R s m args below meth c n0 T' h' cells' slots' → Ext h h' → AJK Z h' a n (fun _ => 0) → GoK p e below D T' (mkF m (pc') Ls (.ref a :: St))) : GoK p e below D T (mkF m pc Ls (.int x :: St)) := by
  subst hp hc' hs'
  obtain ⟨_, Y, e0, N⟩ := X
  have hz : (0 : Int32).toInt = 0 := rfl
  have q : ¬ x < 0 := by rw [Int32.lt_iff_toInt_lt]; omega
  obtain ⟨T', h', k, Y', e', E, A, st⟩ := newP Y hx hZ (aty := .long) wd e0 (g := mkF m pc Ls (.int x :: St)) rfl hd rfl q (cap := cap) (by show x.toInt.toNat ≤ cap; omega) hb hc hs
  refine GoK.by st (G T' h' _ rfl ⟨_, Y', e', N⟩ E ?_)
  exact AJK.of_arv (Arv.new A q) hn
theorem go_iastore (X : OnK p l e R s m args below meth c n0 T h cells slots) (hx : p.tables.exec = Jvm.exec) (hZ : Z.Warmed39 s.vm) {x : Int32} {j : Int32} {a : Addr} {n : Int} {f : Int → Int32} (A : AIK Z h a .int n f) (ga : n0 ≤ a) (h1 : 0 ≤ j.toInt) (h2 : j.toInt < n) (hd : decode c.code pc = .ok (.iastore, 1)) (hp : pc + 1 = pc') (G : ∀ (T' : State) (h' : Heap), OnK p l e R s m args below meth c n0 T' h' cells slots → Wr h h' a j.toNatClampNeg (.int (x)) → AIK Z h' a .int n (fun i => if i = j.toInt then x else f i) → GoK p e below D T' (mkF m pc' Ls St)) : GoK p e below D T (mkF m pc Ls (.int x :: .int j :: .ref a :: St)) := by
  subst hp
  obtain ⟨_, Y, e0, N⟩ := X
  obtain ⟨cl, Ar, hin, -⟩ := A.get h1 h2
  obtain ⟨T', h', Y', e', W, st⟩ := stI Y hx hZ e0 Ar (j := j) (x := x) hin (g := mkF m pc Ls (.int x :: .int j :: .ref a :: St)) rfl rfl hd
  exact GoK.by st (G T' h' ⟨_, Y', e', Fr.snoc Y' N ga⟩ W (A.set W h1 h2))
theorem go_castore (X : OnK p l e R s m args below meth c n0 T h cells slots) (hx : p.tables.exec = Jvm.exec) (hZ : Z.Warmed39 s.vm) {x : Int32} {j : Int32} {a : Addr} {n : Int} {f : Int → Int32} (A : AIK Z h a .char n f) (ga : n0 ≤ a) (h1 : 0 ≤ j.toInt) (h2 : j.toInt < n) (hd : decode c.code pc = .ok (.castore, 1)) (hp : pc + 1 = pc') (G : ∀ (T' : State) (h' : Heap), OnK p l e R s m args below meth c n0 T' h' cells slots → Wr h h' a j.toNatClampNeg (.int (nar .char x)) → AIK Z h' a .char n (fun i => if i = j.toInt then nar .char x else f i) → GoK p e below D T' (mkF m pc' Ls St)) : GoK p e below D T (mkF m pc Ls (.int x :: .int j :: .ref a :: St)) := by
  subst hp
  obtain ⟨_, Y, e0, N⟩ := X
  obtain ⟨cl, Ar, hin, -⟩ := A.get h1 h2
  obtain ⟨T', h', Y', e', W, st⟩ := stC Y hx hZ e0 Ar (j := j) (x := x) hin (g := mkF m pc Ls (.int x :: .int j :: .ref a :: St)) rfl rfl hd
  exact GoK.by st (G T' h' ⟨_, Y', e', Fr.snoc Y' N ga⟩ W (A.set W h1 h2))
theorem go_bastoreB (X : OnK p l e R s m args below meth c n0 T h cells slots) (hx : p.tables.exec = Jvm.exec) (hZ : Z.Warmed39 s.vm) {x : Int32} {j : Int32} {a : Addr} {n : Int} {f : Int → Int32} (A : AIK Z h a .byte n f) (ga : n0 ≤ a) (h1 : 0 ≤ j.toInt) (h2 : j.toInt < n) (hd : decode c.code pc = .ok (.bastore, 1)) (hp : pc + 1 = pc') (G : ∀ (T' : State) (h' : Heap), OnK p l e R s m args below meth c n0 T' h' cells slots → Wr h h' a j.toNatClampNeg (.int (nar .byte x)) → AIK Z h' a .byte n (fun i => if i = j.toInt then nar .byte x else f i) → GoK p e below D T' (mkF m pc' Ls St)) : GoK p e below D T (mkF m pc Ls (.int x :: .int j :: .ref a :: St)) := by
  subst hp
  obtain ⟨_, Y, e0, N⟩ := X
  obtain ⟨cl, Ar, hin, -⟩ := A.get h1 h2
  obtain ⟨T', h', Y', e', W, st⟩ := stB Y hx hZ e0 Ar (j := j) (x := x) hin (g := mkF m pc Ls (.int x :: .int j :: .ref a :: St)) rfl rfl hd
  exact GoK.by st (G T' h' ⟨_, Y', e', Fr.snoc Y' N ga⟩ W (A.set W h1 h2))
theorem go_bastoreZ (X : OnK p l e R s m args below meth c n0 T h cells slots) (hx : p.tables.exec = Jvm.exec) (hZ : Z.Warmed39 s.vm) {x : Int32} {j : Int32} {a : Addr} {n : Int} {f : Int → Int32} (A : AIK Z h a .boolean n f) (ga : n0 ≤ a) (h1 : 0 ≤ j.toInt) (h2 : j.toInt < n) (hd : decode c.code pc = .ok (.bastore, 1)) (hp : pc + 1 = pc') (G : ∀ (T' : State) (h' : Heap), OnK p l e R s m args below meth c n0 T' h' cells slots → Wr h h' a j.toNatClampNeg (.int (nar .boolean x)) → AIK Z h' a .boolean n (fun i => if i = j.toInt then nar .boolean x else f i) → GoK p e below D T' (mkF m pc' Ls St)) : GoK p e below D T (mkF m pc Ls (.int x :: .int j :: .ref a :: St)) := by
  subst hp
  obtain ⟨_, Y, e0, N⟩ := X
  obtain ⟨cl, Ar, hin, -⟩ := A.get h1 h2
  obtain ⟨T', h', Y', e', W, st⟩ := stZ Y hx hZ e0 Ar (j := j) (x := x) hin (g := mkF m pc Ls (.int x :: .int j :: .ref a :: St)) rfl rfl hd
  exact GoK.by st (G T' h' ⟨_, Y', e', Fr.snoc Y' N ga⟩ W (A.set W h1 h2))
theorem go_lastore (X : OnK p l e R s m args below meth c n0 T h cells slots) (hx : p.tables.exec = Jvm.exec) (hZ : Z.Warmed39 s.vm) {x : Int64} {j : Int32} {a : Addr} {n : Int} {f : Int → Int64} (A : AJK Z h a n f) (ga : n0 ≤ a) (h1 : 0 ≤ j.toInt) (h2 : j.toInt < n) (hd : decode c.code pc = .ok (.lastore, 1)) (hp : pc + 1 = pc') (G : ∀ (T' : State) (h' : Heap), OnK p l e R s m args below meth c n0 T' h' cells slots → Wr h h' a j.toNatClampNeg (.long (x)) → AJK Z h' a n (fun i => if i = j.toInt then x else f i) → GoK p e below D T' (mkF m pc' Ls St)) : GoK p e below D T (mkF m pc Ls (.long x :: .int j :: .ref a :: St)) := by
  subst hp
  obtain ⟨_, Y, e0, N⟩ := X
  obtain ⟨cl, Ar, hin, -⟩ := A.get h1 h2
  obtain ⟨T', h', Y', e', W, st⟩ := stJ Y hx hZ e0 Ar (j := j) (x := x) hin (g := mkF m pc Ls (.long x :: .int j :: .ref a :: St)) rfl rfl hd
  exact GoK.by st (G T' h' ⟨_, Y', e', Fr.snoc Y' N ga⟩ W (A.set W h1 h2))
theorem go_iaload (X : OnK p l e R s m args below meth c n0 T h cells slots) (hx : p.tables.exec = Jvm.exec) (hZ : Z.Warmed39 s.vm) {j : Int32} {a : Addr} {n : Int} {f : Int → Int32} (A : AIK Z h a .int n f) (h1 : 0 ≤ j.toInt) (h2 : j.toInt < n) (hd : decode c.code pc = .ok (.iaload, 1)) (hp : pc + 1 = pc') (G : ∀ z : Int32, z = f j.toInt → GoK p e below D T (mkF m pc' Ls (.int z :: St))) : GoK p e below D T (mkF m pc Ls (.int j :: .ref a :: St)) := by
  subst hp
  obtain ⟨_, Y, e0, N⟩ := X
  obtain ⟨cl, Ar, hin, hv⟩ := A.get h1 h2
  exact GoK.by (fun t k => Y.iaload hx (j := j) (v := .int (f j.toInt)) (by rw [e0]; exact Ar.1) (State.isArrayOf_alike hZ.alike Ar.2.1) Ar.2.2 hin hv (g := mkF m pc Ls (.int j :: .ref a :: St)) rfl rfl hd t k) (G _ rfl)
theorem go_caload (X : OnK p l e R s m args below meth c n0 T h cells slots) (hx : p.tables.exec = Jvm.exec) (hZ : Z.Warmed39 s.vm) {j : Int32} {a : Addr} {n : Int} {f : Int → Int32} (A : AIK Z h a .char n f) (h1 : 0 ≤ j.toInt) (h2 : j.toInt < n) (hd : decode c.code pc = .ok (.caload, 1)) (hp : pc + 1 = pc') (G : ∀ z : Int32, z = f j.toInt → GoK p e below D T (mkF m pc' Ls (.int z :: St))) : GoK p e below D T (mkF m pc Ls (.int j :: .ref a :: St)) := by
  subst hp
  obtain ⟨_, Y, e0, N⟩ := X
  obtain ⟨cl, Ar, hin, hv⟩ := A.get h1 h2
  exact GoK.by (fun t k => Y.caload hx (j := j) (v := .int (f j.toInt)) (by rw [e0]; exact Ar.1) (State.isArrayOf_alike hZ.alike Ar.2.1) Ar.2.2 hin hv (g := mkF m pc Ls (.int j :: .ref a :: St)) rfl rfl hd t k) (G _ rfl)
theorem go_baloadB (X : OnK p l e R s m args below meth c n0 T h cells slots) (hx : p.tables.exec = Jvm.exec) (hZ : Z.Warmed39 s.vm) {j : Int32} {a : Addr} {n : Int} {f : Int → Int32} (A : AIK Z h a .byte n f) (h1 : 0 ≤ j.toInt) (h2 : j.toInt < n) (hd : decode c.code pc = .ok (.baload, 1)) (hp : pc + 1 = pc') (G : ∀ z : Int32, z = f j.toInt → GoK p e below D T (mkF m pc' Ls (.int z :: St))) : GoK p e below D T (mkF m pc Ls (.int j :: .ref a :: St)) := by
  subst hp
  obtain ⟨_, Y, e0, N⟩ := X
  obtain ⟨cl, Ar, hin, hv⟩ := A.get h1 h2
  exact GoK.by (fun t k => Y.baloadBytes hx (j := j) (v := .int (f j.toInt)) (by rw [e0]; exact Ar.1) (State.isArrayOf_alike hZ.alike Ar.2.1) Ar.2.2 hin hv (g := mkF m pc Ls (.int j :: .ref a :: St)) rfl rfl hd t k) (G _ rfl)
theorem go_baloadZ (X : OnK p l e R s m args below meth c n0 T h cells slots) (hx : p.tables.exec = Jvm.exec) (hZ : Z.Warmed39 s.vm) {j : Int32} {a : Addr} {n : Int} {f : Int → Int32} (A : AIK Z h a .boolean n f) (h1 : 0 ≤ j.toInt) (h2 : j.toInt < n) (hd : decode c.code pc = .ok (.baload, 1)) (hp : pc + 1 = pc') (G : ∀ z : Int32, z = f j.toInt → GoK p e below D T (mkF m pc' Ls (.int z :: St))) : GoK p e below D T (mkF m pc Ls (.int j :: .ref a :: St)) := by
  subst hp
  obtain ⟨_, Y, e0, N⟩ := X
  obtain ⟨cl, Ar, hin, hv⟩ := A.get h1 h2
  exact GoK.by (fun t k => Y.baloadBooleans hx (j := j) (v := .int (f j.toInt)) (by rw [e0]; exact Ar.1) (State.isArrayOf_alike hZ.alike Ar.2.1) Ar.2.2 hin hv (g := mkF m pc Ls (.int j :: .ref a :: St)) rfl rfl hd t k) (G _ rfl)
theorem go_laload (X : OnK p l e R s m args below meth c n0 T h cells slots) (hx : p.tables.exec = Jvm.exec) (hZ : Z.Warmed39 s.vm) {j : Int32} {a : Addr} {n : Int} {f : Int → Int64} (A : AJK Z h a n f) (h1 : 0 ≤ j.toInt) (h2 : j.toInt < n) (hd : decode c.code pc = .ok (.laload, 1)) (hp : pc + 1 = pc') (G : ∀ z : Int64, z = f j.toInt → GoK p e below D T (mkF m pc' Ls (.long z :: St))) : GoK p e below D T (mkF m pc Ls (.int j :: .ref a :: St)) := by
  subst hp
  obtain ⟨_, Y, e0, N⟩ := X
  obtain ⟨cl, Ar, hin, hv⟩ := A.get h1 h2
  exact GoK.by (fun t k => Y.laload hx (j := j) (v := .long (f j.toInt)) (by rw [e0]; exact Ar.1) (State.isArrayOf_alike hZ.alike Ar.2.1) Ar.2.2 hin hv (g := mkF m pc Ls (.int j :: .ref a :: St)) rfl rfl hd t k) (G _ rfl)
theorem own_len {k : Nat} {n : Int} (S : (k : Int) = n) (M : n < 2147483648) : (k.toInt32).toInt = n := by
  have e : (k.toInt32).toInt = ((k : Int)).bmod (2 ^ 32) := by
    show (Int32.ofNat k).toInt = _
    exact Int32.toInt_ofNat
  rw [e, Int.bmod_eq_of_le (by omega) (by omega)]; exact S
theorem go_lenI (X : OnK p l e R s m args below meth c n0 T h cells slots) (hx : p.tables.exec = Jvm.exec) (hZ : Z.Warmed39 s.vm) {a : Addr} {n : Int} {ty : FieldType} {f : Int → Int32} (A : AIK Z h a ty n f) (hd : decode c.code pc = .ok (.arraylength, 1)) (hp : pc + 1 = pc') (G : ∀ z : Int32, z.toInt = n → GoK p e below D T (mkF m pc' Ls (.int z :: St))) : GoK p e below D T (mkF m pc Ls (.ref a :: St)) := by
  subst hp
  obtain ⟨_, Y, e0, N⟩ := X
  obtain ⟨cl, Ar, S, M, -⟩ := A
  refine GoK.by (fun t k => Y.arraylength hx (by rw [e0]; exact Ar.1) (State.isArrayOf_alike hZ.alike Ar.2.1) (g := mkF m pc Ls (.ref a :: St)) rfl rfl hd t k) (G _ ?_)
  exact own_len S M
theorem go_lenJ (X : OnK p l e R s m args below meth c n0 T h cells slots) (hx : p.tables.exec = Jvm.exec) (hZ : Z.Warmed39 s.vm) {a : Addr} {n : Int} {f : Int → Int64} (A : AJK Z h a n f) (hd : decode c.code pc = .ok (.arraylength, 1)) (hp : pc + 1 = pc') (G : ∀ z : Int32, z.toInt = n → GoK p e below D T (mkF m pc' Ls (.int z :: St))) : GoK p e below D T (mkF m pc Ls (.ref a :: St)) := by
  subst hp
  obtain ⟨_, Y, e0, N⟩ := X
  obtain ⟨cl, Ar, S, M, -⟩ := A
  refine GoK.by (fun t k => Y.arraylength hx (by rw [e0]; exact Ar.1) (State.isArrayOf_alike hZ.alike Ar.2.1) (g := mkF m pc Ls (.ref a :: St)) rfl rfl hd t k) (G _ ?_)
  exact own_len S M
theorem go_getfield (X : OnK p l e R s m args below meth c n0 T h cells slots) (hx : p.tables.exec = Jvm.exec) (hZ : Z.Warmed39 s.vm) {own O n d : String} {i : Nat} {a : Addr} {v : Value} (hown : s.vm.findClass own = some m.cls) (wd : (Jvm.Cond.fieldLink own i O n d).before a0 Z = true) (F : Fld Z h a O n d v) (hd : decode c.code pc = .ok (.getfield i, 3)) (hp : pc + 3 = pc') (G : ∀ T' : State, OnK p l e R s m args below meth c n0 T' h cells slots → GoK p e below D T' (mkF m pc' Ls (v :: St))) : GoK p e below D T (mkF m pc Ls (.ref a :: St)) := by
  subst hp
  obtain ⟨_, Y, e0, N⟩ := X
  obtain ⟨T', Y', e', st⟩ := getF Y hx hZ hown (host := "") (Or.inl wd) Via.refl e0 F (g := mkF m pc Ls (.ref a :: St)) rfl rfl hd
  exact GoK.by st (G T' ⟨_, Y', e', N⟩)
theorem go_putfield (X : OnK p l e R s m args below meth c n0 T h cells slots) (hx : p.tables.exec = Jvm.exec) (hZ : Z.Warmed39 s.vm) {own O n d C : String} {i kk : Nat} {ty : FieldType} {a : Addr} {v v' old : Value} (hown : s.vm.findClass own = some m.cls) (wd : (Jvm.Cond.fieldLink own i O n d).before a0 Z = true) (F : Fld Z h a O n d old) (E : Exa Z h a C) (L : (Jvm.Cond.lays C O n d).before a0 Z = true ∨ ((Jvm.Cond.laysFinal C O n d).before a0 Z = true ∧ own = O ∧ meth.name = "<init>")) (wi : (Jvm.Cond.instantiable C kk).before a0 Z = true) (ga : n0 ≤ a) (hty : parseFieldDescriptor d = some ty) (hn : narrow ty v = v') (hf : fits ty v' = true) (hd : decode c.code pc = .ok (.putfield i, 3)) (hp : pc + 3 = pc') (G : ∀ (T' : State) (h' : Heap), OnK p l e R s m args below meth c n0 T' h' cells slots → Wr h h' a (slotOf Z O n d) v' → Fld Z h' a O n d v' → GoK p e below D T' (mkF m pc' Ls St)) : GoK p e below D T (mkF m pc Ls (v :: .ref a :: St)) := by
  subst hp
  obtain ⟨_, Y, e0, N⟩ := X
  obtain ⟨T', h', Y', e', W, st⟩ := putFN Y hx hZ hown wd Via.refl e0 F E L wi hty hn hf (g := mkF m pc Ls (v :: .ref a :: St)) rfl rfl hd
  exact GoK.by st (G T' h' ⟨_, Y', e', Fr.snoc Y' N ga⟩ W (F.same W))
theorem go_new (X : OnK p l e R s m args below meth c n0 T h cells slots) (hx : p.tables.exec = Jvm.exec) (hZ : Z.Warmed39 s.vm) {own C : String} {i n : Nat} (hown : s.vm.findClass own = some m.cls) (w1 : (Jvm.Cond.classLink own i C).before a0 Z = true) (w2 : (Jvm.Cond.instantiable C n).before a0 Z = true) (w3 : (Jvm.Cond.initialized C).before a0 Z = true) (hd : decode c.code pc = .ok (.new i, 3)) (hp : pc + 3 = pc') (hc : cells + 1 ≤ R.cells) (hs : slots + n ≤ R.slots) (hc' : cells + 1 = cells') (hs' : slots + n = slots')
    (G : ∀ (T' : State) (h' : Heap) (a : Addr), a = h.size → OnK p l e R s m args below meth c n0 T' h' cells' slots' → Ext h h' → Exa Z h' a C → (∀ {O nm d : String} {ty : FieldType}, Laid Z a0 C O nm d → parseFieldDescriptor d = some ty → Fld Z h' a O nm d (defaultValue ty)) → GoK p e below D T' (mkF m pc' Ls (.ref a :: St))) : GoK p e below D T (mkF m pc Ls St) := by
  subst hp hc' hs'
  obtain ⟨_, Y, e0, N⟩ := X
  obtain ⟨T', h', Y', e', E, A, Dv, -, st⟩ := newO Y hx hZ hown w1 w2 w3 e0 (g := mkF m pc Ls St) rfl hd hc hs
  exact GoK.by st (G T' h' _ rfl ⟨_, Y', e', N⟩ E A Dv)
theorem go_initO (X : OnK p l e R s m args below meth c n0 T h cells slots) (hx : p.tables.exec = Jvm.exec) (hZ : Z.Warmed39 s.vm) {own : String} {i W : Nat} {a : Addr} (hown : s.vm.findClass own = some m.cls) (hml : Ls.size = c.maxLocals) (w1 : (Jvm.Cond.methodLink own i Lib.objectInit).before a0 Z = true) (w2 : (Jvm.Cond.instanceMethod Lib.objectInit).before a0 Z = true) (w3 : (Jvm.Cond.code Lib.objectInit ⟨#[0xb1]⟩ 1 none).before a0 Z = true) (hd : decode c.code pc = .ok (.invokespecial i, 3)) (hp : pc + 3 = pc') (hf : 1 ≤ R.frames) (hW : (St.map fun v => v.category).sum ≤ W) (hl : W + 12 ≤ R.locals) (G : ∀ T' : State, OnK p l e R s m args below meth c n0 T' h cells slots → GoK p e below D T' (mkF m pc' Ls St)) : GoK p e below D T (mkF m pc Ls (.ref a :: St)) := by
  subst hp
  obtain ⟨_, Y, e0, N⟩ := X
  obtain ⟨T', Y', e', st⟩ := initO Y hx hZ hown w1 w2 w3 e0 (g := mkF m pc Ls (.ref a :: St)) rfl hml rfl hd hf (W := W) (by show 2 * 0 + _ ≤ _; omega) hl
  exact GoK.by st (G T' ⟨_, Y', e', N⟩)
theorem go_callS (X : OnK p l e R s m args below meth c n0 T h cells slots) (hx : p.tables.exec = Jvm.exec) (hZ : Z.Warmed39 s.vm) {own : String} {i W ml : Nat} {y : MethodName} {bytes : ByteArray} {ret : Option FieldType} {rm : Room} {Q : Option Value → Heap → Prop} {aL : List Value} {ps : List FieldType} {rt : Option FieldType} (hown : s.vm.findClass own = some m.cls) (hml : Ls.size = c.maxLocals) (wl : (Jvm.Cond.methodLink own i y).before a0 Z = true) (ws : (Jvm.Cond.static y).before a0 Z = true) (wz : (Jvm.Cond.initialized y.cls).before a0 Z = true) (wc : (Jvm.Cond.code y bytes ml ret).before a0 Z = true) (hy : y.cls ≠ "java/lang/invoke/MethodHandle" ∧ y.cls ≠ "java/lang/invoke/VarHandle") (pd : parseMethodDescriptor y.desc = some ⟨ps, rt⟩) (hlen : aL.length = ps.length) (ct : CtK l Z y bytes ml ret rm aL.toArray h n0 Q) (hd : decode c.code pc = .ok (.invokestatic i, 3)) (hp : pc + 3 = pc') (hf : rm.frames + 1 ≤ R.frames) (hW : (St.map fun v => v.category).sum ≤ W) (hlo : W + (ml + 11) + rm.locals ≤ R.locals) (hc : cells + rm.cells ≤ R.cells) (hs : slots + rm.slots ≤ R.slots) (hc' : cells + rm.cells = cells') (hs' : slots + rm.slots = slots') (G : ∀ (T' : State) (h' : Heap) (v : Option Value), OnK p l e R s m args below meth c n0 T' h' cells' slots' → Q v h' → GoK p e below D T' (mkF m pc' Ls (v.toList ++ St))) {S0 : List Value} (hS : S0 = aL.reverse ++ St) : GoK p e below D T (mkF m pc Ls S0) := by
  subst hp hc' hs' hS
  obtain ⟨_, Y, e0, N⟩ := X
  obtain ⟨v, _, ⟨B, L, k, n⟩, -, Y', ⟨Lc, ⟨hQ, hN⟩, el, ec, es⟩, st⟩ := Jvm.LawKit.callS Y hx (y := y) hown (mvT hZ wl) (mvT hZ ws) (mvT hZ wz) (mvT hZ wc) hy (backOf (W := W) (Q := fun v h L => Q v h ∧ Fr n0 L) (ct []) hZ wc wz hf hlo) (g := mkF m pc Ls (aL.reverse ++ St)) rfl hml (argsL := aL) (rest := St) (lenOf pd hlen) rfl (by show 2 * 0 + _ ≤ _; omega) hd (fun _ _ => ⟨rfl, e0, hc, hs⟩)
  dsimp only [Pt.U, Pt.locs, Pt.cells, Pt.slots] at Y' el ec es st hQ
  subst el ec es
  exact GoK.by st (G B _ v ⟨_, Y', rfl, N.app hN⟩ hQ)
theorem go_callC (X : OnK p l e R s m args below meth c n0 T h cells slots) (hx : p.tables.exec = Jvm.exec) (hZ : Z.Warmed39 s.vm) {own : String} {i W ml : Nat} {y : MethodName} {bytes : ByteArray} {rm : Room} {Q : Option Value → Heap → Prop} {aL : List Value} {ps : List FieldType} {rt : Option FieldType} {a : Addr} (hown : s.vm.findClass own = some m.cls) (hml : Ls.size = c.maxLocals) (hi : y.name = "<init>") (wl : (Jvm.Cond.methodLink own i y).before a0 Z = true) (wi : (Jvm.Cond.instanceMethod y).before a0 Z = true) (wz : (Jvm.Cond.initialized y.cls).before a0 Z = true) (wc : (Jvm.Cond.code y bytes ml none).before a0 Z = true) (hy : y.cls ≠ "java/lang/invoke/MethodHandle" ∧ y.cls ≠ "java/lang/invoke/VarHandle") (pd : parseMethodDescriptor y.desc = some ⟨ps, rt⟩) (hlen : aL.length = ps.length) (ct : CtK l Z y bytes ml none rm (.ref a :: aL).toArray h n0 Q) (hd : decode c.code pc = .ok (.invokespecial i, 3)) (hp : pc + 3 = pc') (hf : rm.frames + 1 ≤ R.frames) (hW : (St.map fun v => v.category).sum ≤ W) (hlo : W + (ml + 11) + rm.locals ≤ R.locals) (hc : cells + rm.cells ≤ R.cells) (hs : slots + rm.slots ≤ R.slots) (hc' : cells + rm.cells = cells') (hs' : slots + rm.slots = slots') (G : ∀ (T' : State) (h' : Heap) (v : Option Value), OnK p l e R s m args below meth c n0 T' h' cells' slots' → Q v h' → GoK p e below D T' (mkF m pc' Ls (v.toList ++ St))) {S0 : List Value} (hS : S0 = aL.reverse ++ .ref a :: St) : GoK p e below D T (mkF m pc Ls S0) := by
  subst hp hc' hs' hS
  obtain ⟨_, Y, e0, N⟩ := X
  obtain ⟨v, _, ⟨B, L, k, n⟩, -, Y', ⟨Lc, ⟨hQ, hN⟩, el, ec, es⟩, st⟩ := Y.specialBack hx (y := y) hi hown (mvT hZ wl) (mvT hZ wi) (mvT hZ wc) hy (backOf (W := W) (Q := fun v h L => Q v h ∧ Fr n0 L) (ct []) hZ wc wz hf hlo) (g := mkF m pc Ls (aL.reverse ++ .ref a :: St)) rfl hml (Steps.refl _) (a := a) (argsL := aL) (rest := St) (lenOf pd hlen) rfl (by show 2 * 0 + _ ≤ _; omega) hd (fun _ _ => ⟨rfl, e0, hc, hs⟩)
  dsimp only [Pt.U, Pt.locs, Pt.cells, Pt.slots] at Y' el ec es st hQ
  subst el ec es
  exact GoK.by (fun t k => st.trans k) (G B _ v ⟨_, Y', rfl, N.app hN⟩ hQ)
theorem go_callV (X : OnK p l e R s m args below meth c n0 T h cells slots) (hx : p.tables.exec = Jvm.exec) (hZ : Z.Warmed39 s.vm) {own : String} {i W ml : Nat} {y : MethodName} {bytes : ByteArray} {ret : Option FieldType} {rm : Room} {Q : Option Value → Heap → Prop} {aL : List Value} {ps : List FieldType} {rt : Option FieldType} {a : Addr} (hown : s.vm.findClass own = some m.cls) (hml : Ls.size = c.maxLocals) (E : Exa Z h a y.cls) (wl : (Jvm.Cond.methodLink own i y).before a0 Z = true) (wd : (Jvm.Cond.declares y).before a0 Z = true) (ws : (Jvm.Cond.selects y.cls y y).before a0 Z = true) (wi : (Jvm.Cond.instanceMethod y).before a0 Z = true) (wz : (Jvm.Cond.initialized y.cls).before a0 Z = true) (wc : (Jvm.Cond.code y bytes ml ret).before a0 Z = true) (hy : y.cls ≠ "java/lang/invoke/MethodHandle" ∧ y.cls ≠ "java/lang/invoke/VarHandle") (pd : parseMethodDescriptor y.desc = some ⟨ps, rt⟩) (hlen : aL.length = ps.length) (ct : CtK l Z y bytes ml ret rm (.ref a :: aL).toArray h n0 Q) (hd : decode c.code pc = .ok (.invokevirtual i, 3)) (hp : pc + 3 = pc') (hf : rm.frames + 1 ≤ R.frames) (hW : (St.map fun v => v.category).sum ≤ W) (hlo : W + (ml + 11) + rm.locals ≤ R.locals) (hc : cells + rm.cells ≤ R.cells) (hs : slots + rm.slots ≤ R.slots) (hc' : cells + rm.cells = cells') (hs' : slots + rm.slots = slots') (G : ∀ (T' : State) (h' : Heap) (v : Option Value), OnK p l e R s m args below meth c n0 T' h' cells' slots' → Q v h' → GoK p e below D T' (mkF m pc' Ls (v.toList ++ St))) {S0 : List Value} (hS : S0 = aL.reverse ++ .ref a :: St) : GoK p e below D T (mkF m pc Ls S0) := by
  subst hp hc' hs' hS
  obtain ⟨_, Y, e0, N⟩ := X
  obtain ⟨cq, kq, qa, qb, qc⟩ := isOf hZ e0 E
  obtain ⟨v, _, ⟨B, L, k, n⟩, -, Y', ⟨Lc, ⟨hQ, hN⟩, el, ec, es⟩, st⟩ := Y.virtualBack hx (y := y) (z := y) hown (mvT hZ wl) (mvT hZ wd) (notFace_of_selects (args := #[]) (mvT hZ ws)) (mvT hZ ws) (mvT hZ wi) hy (backOf (W := W) (Q := fun v h L => Q v h ∧ Fr n0 L) (ct []) hZ wc wz hf hlo) qa qc (g := mkF m pc Ls (aL.reverse ++ .ref a :: St)) rfl hml (Steps.refl _) (argsL := aL) (rest := St) (lenOf pd hlen) rfl (by show 2 * 0 + _ ≤ _; omega) hd (fun _ _ => ⟨rfl, e0, hc, hs⟩)
  dsimp only [Pt.U, Pt.locs, Pt.cells, Pt.slots] at Y' el ec es st hQ
  subst el ec es
  exact GoK.by (fun t k => st.trans k) (G B _ v ⟨_, Y', rfl, N.app hN⟩ hQ)
def TwoK (a b : Slot) : Prop := (a = .unset ∧ b = .unset) ∨ ∃ x : Int64, a = .val (.long x) ∧ b = .second
end OwnK
end Jvm.RoadKit
namespace Jvm.Pilot.@@N@@
open Jvm Jvm.ClassFile Sem Op Lib Jvm.Free Jvm.Stand Jvm.LawKit Jvm.RoadKit Bundle Jvm.Pilot.@@N@@.Jvm.D
theorem own_andN {hi lo mh ml k : Nat} (h1 : lo < 2 ^ k) (h2 : ml < 2 ^ k) : (2 ^ k * hi + lo) &&& (2 ^ k * mh + ml) = 2 ^ k * (hi &&& mh) + (lo &&& ml) := by
  apply Nat.eq_of_testBit_eq
  intro j
  have h3 : (lo &&& ml) < 2 ^ k := Nat.and_lt_two_pow _ h2
  rw [Nat.testBit_and, Nat.testBit_two_pow_mul_add _ h1, Nat.testBit_two_pow_mul_add _ h2, Nat.testBit_two_pow_mul_add _ h3]
  split <;> rw [Nat.testBit_and]
theorem own_andZ (x m : Int64) (X M : Nat) (hx : x.toInt = X) (hm : m.toInt = M) : (x &&& m).toInt = ((X &&& M : Nat) : Int) := by
  have nx : x.toBitVec.toNat = X := by
    have := x.toBitVec.isLt
    change x.toBitVec.toInt = _ at hx
    rw [BitVec.toInt_eq_toNat_cond] at hx
    split at hx <;> omega
  have nm : m.toBitVec.toNat = M := by
    have := m.toBitVec.isLt
    change m.toBitVec.toInt = _ at hm
    rw [BitVec.toInt_eq_toNat_cond] at hm
    split at hm <;> omega
  have q : (x &&& m).toBitVec.toNat = (X &&& M) := by rw [Int64.toBitVec_and, BitVec.toNat_and, nx, nm]
  have le : (X &&& M) ≤ M := Nat.and_le_right
  have hM : M < 2 ^ 63 := by have := rng64 m; omega
  show (x &&& m).toBitVec.toInt = _
  rw [BitVec.toInt_eq_toNat_cond, q, if_pos (by omega)]
theorem own_r64 (x : Int64) : -9223372036854775808 ≤ x.toInt ∧ x.toInt < 9223372036854775808 := rng64 x
/-- four places of two bytes, the upper byte of each is struck -/
theorem own_m1 (a0 a1 a2 a3 c0 c1 c2 c3 : Nat) (h0 : a0 < 256) (h1 : a1 < 256) (h2 : a2 < 256) (h3 : a3 < 256) (k0 : c0 < 256) (k1 : c1 < 256) (k2 : c2 < 256) (k3 : c3 < 256) :
    (a0 + c0 * 256 + a1 * 65536 + c1 * 16777216 + a2 * 4294967296 + c2 * 1099511627776 + a3 * 281474976710656 + c3 * 72057594037927936) &&& 71777214294589695 = a0 + a1 * 65536 + a2 * 4294967296 + a3 * 281474976710656 := by
  have one : ∀ a c : Nat, a < 256 → c < 256 → (2 ^ 8 * c + a) &&& (2 ^ 8 * 0 + 255) = a := by
    intro a c ha hc
    rw [own_andN (by omega) (by omega), Nat.and_zero, Nat.mul_zero, Nat.zero_add]
    have := Nat.and_two_pow_sub_one_eq_mod a 8
    rw [show (255 : Nat) = 2 ^ 8 - 1 from rfl, this]; omega
  have s3 := one a3 c3 h3 k3
  have s2 : (2 ^ 16 * (2 ^ 8 * c3 + a3) + (2 ^ 8 * c2 + a2)) &&& (2 ^ 16 * (2 ^ 8 * 0 + 255) + (2 ^ 8 * 0 + 255)) = 2 ^ 16 * a3 + a2 := by
    rw [own_andN (by omega) (by omega), s3, one a2 c2 h2 k2]
  have s1 : (2 ^ 16 * (2 ^ 16 * (2 ^ 8 * c3 + a3) + (2 ^ 8 * c2 + a2)) + (2 ^ 8 * c1 + a1)) &&& (2 ^ 16 * (2 ^ 16 * (2 ^ 8 * 0 + 255) + (2 ^ 8 * 0 + 255)) + (2 ^ 8 * 0 + 255)) = 2 ^ 16 * (2 ^ 16 * a3 + a2) + a1 := by
    rw [own_andN (by omega) (by omega), s2, one a1 c1 h1 k1]
  have s0 : (2 ^ 16 * (2 ^ 16 * (2 ^ 16 * (2 ^ 8 * c3 + a3) + (2 ^ 8 * c2 + a2)) + (2 ^ 8 * c1 + a1)) + (2 ^ 8 * c0 + a0)) &&& (2 ^ 16 * (2 ^ 16 * (2 ^ 16 * (2 ^ 8 * 0 + 255) + (2 ^ 8 * 0 + 255)) + (2 ^ 8 * 0 + 255)) + (2 ^ 8 * 0 + 255)) = 2 ^ 16 * (2 ^ 16 * (2 ^ 16 * a3 + a2) + a1) + a0 := by
    rw [own_andN (by omega) (by omega), s1, one a0 c0 h0 k0]
  have e1 : a0 + c0 * 256 + a1 * 65536 + c1 * 16777216 + a2 * 4294967296 + c2 * 1099511627776 + a3 * 281474976710656 + c3 * 72057594037927936 = 2 ^ 16 * (2 ^ 16 * (2 ^ 16 * (2 ^ 8 * c3 + a3) + (2 ^ 8 * c2 + a2)) + (2 ^ 8 * c1 + a1)) + (2 ^ 8 * c0 + a0) := by omega
  have e2 : (71777214294589695 : Nat) = 2 ^ 16 * (2 ^ 16 * (2 ^ 16 * (2 ^ 8 * 0 + 255) + (2 ^ 8 * 0 + 255)) + (2 ^ 8 * 0 + 255)) + (2 ^ 8 * 0 + 255) := by decide
  rw [e1, e2, s0]; omega
/-- two places of four bytes, the upper two of each are struck -/
theorem own_m2 (a0 a1 c0 c1 : Nat) (h0 : a0 < 65536) (h1 : a1 < 65536) (k0 : c0 < 65536) (k1 : c1 < 65536) : (a0 + c0 * 65536 + a1 * 4294967296 + c1 * 281474976710656) &&& 281470681808895 = a0 + a1 * 4294967296 := by
  have one : ∀ a c : Nat, a < 65536 → c < 65536 → (2 ^ 16 * c + a) &&& (2 ^ 16 * 0 + 65535) = a := by
    intro a c ha hc
    rw [own_andN (by omega) (by omega), Nat.and_zero, Nat.mul_zero, Nat.zero_add]
    have := Nat.and_two_pow_sub_one_eq_mod a 16
    rw [show (65535 : Nat) = 2 ^ 16 - 1 from rfl, this]; omega
  have s0 : (2 ^ 32 * (2 ^ 16 * c1 + a1) + (2 ^ 16 * c0 + a0)) &&& (2 ^ 32 * (2 ^ 16 * 0 + 65535) + (2 ^ 16 * 0 + 65535)) = 2 ^ 32 * a1 + a0 := by
    rw [own_andN (by omega) (by omega), one a1 c1 h1 k1, one a0 c0 h0 k0]
  have e1 : a0 + c0 * 65536 + a1 * 4294967296 + c1 * 281474976710656 = 2 ^ 32 * (2 ^ 16 * c1 + a1) + (2 ^ 16 * c0 + a0) := by omega
  have e2 : (281470681808895 : Nat) = 2 ^ 32 * (2 ^ 16 * 0 + 65535) + (2 ^ 16 * 0 + 65535) := by decide
  rw [e1, e2, s0]; omega
theorem own_m3 (a0 c0 : Nat) (h0 : a0 < 4294967296) : (a0 + c0 * 4294967296) &&& 4294967295 = a0 := by
  have := Nat.and_two_pow_sub_one_eq_mod (a0 + c0 * 4294967296) 32
  rw [show (4294967295 : Nat) = 2 ^ 32 - 1 from rfl, this]; omega
theorem own_st1 {x y : Int64} (e0 e1 e2 e3 e4 e5 e6 e7 : Nat) (b0 : e0 ≤ 9) (b1 : e1 ≤ 9) (b2 : e2 ≤ 9) (b3 : e3 ≤ 9) (b4 : e4 ≤ 9) (b5 : e5 ≤ 9) (b6 : e6 ≤ 9) (b7 : e7 ≤ 9) (ex : x.toInt = (e0 : Int) * 1 + (e1 : Int) * 256 + (e2 : Int) * 65536 + (e3 : Int) * 16777216 + (e4 : Int) * 4294967296 + (e5 : Int) * 1099511627776 + (e6 : Int) * 281474976710656 + (e7 : Int) * 72057594037927936) (hy : y = (x * 10 + (x.toUInt64 >>> ((8 : Int32) &&& 0x3f).toInt64.toUInt64).toInt64) &&& 71777214294589695) : y.toInt = (((10 * e0 + e1) + (10 * e2 + e3) * 65536 + (10 * e4 + e5) * 4294967296 + (10 * e6 + e7) * 281474976710656 : Nat) : Int) := by
  have k2 : (10 : Int64).toInt = 10 := rfl
  have s1 := c_lushr x 8 8 (by decide) (by omega)
  have t1 : (x * 10).toInt = x.toInt * 10 := by rw [Jvm.Free.XT.mul64 ⟨by rw [k2]; omega, by rw [k2]; omega⟩, k2]
  have u1 : (x * 10 + (x.toUInt64 >>> ((8 : Int32) &&& 0x3f).toInt64.toUInt64).toInt64).toInt = (((10 * e0 + e1) + (10 * e1 + e2) * 256 + (10 * e2 + e3) * 65536 + (10 * e3 + e4) * 16777216 + (10 * e4 + e5) * 4294967296 + (10 * e5 + e6) * 1099511627776 + (10 * e6 + e7) * 281474976710656 + (10 * e7 + 0) * 72057594037927936 : Nat) : Int) := by
    rw [Jvm.Free.XT.add64 ⟨by omega, by omega⟩, t1, s1]; omega
  have v1 := own_andZ _ 71777214294589695 _ 71777214294589695 u1 rfl
  rw [own_m1 _ _ _ _ _ _ _ _ (by omega) (by omega) (by omega) (by omega) (by omega) (by omega) (by omega) (by omega), ← hy] at v1
  exact v1
theorem own_st2 {x y : Int64} (a0 a1 a2 a3 : Nat) (b0 : a0 ≤ 99) (b1 : a1 ≤ 99) (b2 : a2 ≤ 99) (b3 : a3 ≤ 99) (ex : x.toInt = ((a0 + a1 * 65536 + a2 * 4294967296 + a3 * 281474976710656 : Nat) : Int)) (hy : y = (x * 100 + (x.toUInt64 >>> ((16 : Int32) &&& 0x3f).toInt64.toUInt64).toInt64) &&& 281470681808895) : y.toInt = (((100 * a0 + a1) + (100 * a2 + a3) * 4294967296 : Nat) : Int) := by
  have k2 : (100 : Int64).toInt = 100 := rfl
  have s1 := c_lushr x 16 16 (by decide) (by omega)
  have t1 : (x * 100).toInt = x.toInt * 100 := by rw [Jvm.Free.XT.mul64 ⟨by rw [k2]; omega, by rw [k2]; omega⟩, k2]
  have u1 : (x * 100 + (x.toUInt64 >>> ((16 : Int32) &&& 0x3f).toInt64.toUInt64).toInt64).toInt = (((100 * a0 + a1) + (100 * a1 + a2) * 65536 + (100 * a2 + a3) * 4294967296 + (100 * a3) * 281474976710656 : Nat) : Int) := by
    rw [Jvm.Free.XT.add64 ⟨by omega, by omega⟩, t1, s1]; omega
  have v1 := own_andZ _ 281470681808895 _ 281470681808895 u1 rfl
  rw [own_m2 _ _ _ _ (by omega) (by omega) (by omega) (by omega), ← hy] at v1
  exact v1
theorem own_st3 {x y : Int64} (a0 a1 : Nat) (b0 : a0 ≤ 9999) (b1 : a1 ≤ 9999) (ex : x.toInt = ((a0 + a1 * 4294967296 : Nat) : Int)) (hy : y = (x * 10000 + (x.toUInt64 >>> ((32 : Int32) &&& 0x3f).toInt64.toUInt64).toInt64) &&& 4294967295) : y.toInt = ((10000 * a0 + a1 : Nat) : Int) := by
  have k2 : (10000 : Int64).toInt = 10000 := rfl
  have s1 := c_lushr x 32 32 (by decide) (by omega)
  have t1 : (x * 10000).toInt = x.toInt * 10000 := by rw [Jvm.Free.XT.mul64 ⟨by rw [k2]; omega, by rw [k2]; omega⟩, k2]
  have u1 : (x * 10000 + (x.toUInt64 >>> ((32 : Int32) &&& 0x3f).toInt64.toUInt64).toInt64).toInt = (((10000 * a0 + a1) + (10000 * a1) * 4294967296 : Nat) : Int) := by
    rw [Jvm.Free.XT.add64 ⟨by omega, by omega⟩, t1, s1]; omega
  have v1 := own_andZ _ 4294967295 _ 4294967295 u1 rfl
  rw [own_m3 _ _ (by omega), ← hy] at v1
  exact v1
theorem own_swar {P x y z r : Int64} (e0 e1 e2 e3 e4 e5 e6 e7 : Nat) (b0 : e0 ≤ 9) (b1 : e1 ≤ 9) (b2 : e2 ≤ 9) (b3 : e3 ≤ 9) (b4 : e4 ≤ 9) (b5 : e5 ≤ 9) (b6 : e6 ≤ 9) (b7 : e7 ≤ 9) (hP : P.toInt = (48 + (e0 : Int)) * 1 + (48 + (e1 : Int)) * 256 + (48 + (e2 : Int)) * 65536 + (48 + (e3 : Int)) * 16777216 + (48 + (e4 : Int)) * 4294967296 + (48 + (e5 : Int)) * 1099511627776 + (48 + (e6 : Int)) * 281474976710656 + (48 + (e7 : Int)) * 72057594037927936)
    (hx : x = P - 3472328296227680304) (hy : y = (x * 10 + (x.toUInt64 >>> ((8 : Int32) &&& 0x3f).toInt64.toUInt64).toInt64) &&& 71777214294589695) (hz : z = (y * 100 + (y.toUInt64 >>> ((16 : Int32) &&& 0x3f).toInt64.toUInt64).toInt64) &&& 281470681808895) (hr : r = (z * 10000 + (z.toUInt64 >>> ((32 : Int32) &&& 0x3f).toInt64.toUInt64).toInt64) &&& 4294967295) : r.toInt = (e0 : Int) * 10000000 + (e1 : Int) * 1000000 + (e2 : Int) * 100000 + (e3 : Int) * 10000 + (e4 : Int) * 1000 + (e5 : Int) * 100 + (e6 : Int) * 10 + (e7 : Int) * 1 := by
  have ex : x.toInt = (e0 : Int) * 1 + (e1 : Int) * 256 + (e2 : Int) * 65536 + (e3 : Int) * 16777216 + (e4 : Int) * 4294967296 + (e5 : Int) * 1099511627776 + (e6 : Int) * 281474976710656 + (e7 : Int) * 72057594037927936 := by
    have k1 : (3472328296227680304 : Int64).toInt = 3472328296227680304 := rfl
    rw [hx, Jvm.Free.XT.sub64 ⟨by omega, by omega⟩]; omega
  have f1 := own_st1 e0 e1 e2 e3 e4 e5 e6 e7 b0 b1 b2 b3 b4 b5 b6 b7 ex hy
  have f2 := own_st2 _ _ _ _ (by omega) (by omega) (by omega) (by omega) f1 hz
  have f3 := own_st3 _ _ (by omega) (by omega) f2 hr
  rw [f3]; omega
theorem own_byte {d z : Int64} {i : Int32} (k : Nat) (P : Int64) (Q : Int) (hd : 0 ≤ d.toInt) (hP : P.toInt = Q) (hQ : 1 ≤ Q) (hk : ((8 : Int32) * i).toBitVec.toNat % 64 = k) (hz : z = (48 + d / P % 10) <<< ((8 * i) &&& 0x3f).toInt64) : (z.toInt - (48 + d.toInt / Q % 10) * ((2 ^ k : Nat) : Int)) % 18446744073709551616 = 0 := by
  have e1 : (d / P).toInt = d.toInt / Q := (c_ldiv d P Q hP (fun w => by rw [w] at hP; have : (-1 : Int64).toInt = -1 := rfl; omega)).1 hd
  have n1 : 0 ≤ (d / P).toInt := by rw [e1]; exact Int.ediv_nonneg hd (by omega)
  have e2 : (d / P % 10).toInt = d.toInt / Q % 10 := by rw [← lrem_mod, (c_lrem (d / P) 10 10 rfl).1 n1, e1]
  have k48 : (48 : Int64).toInt = 48 := rfl
  have e3 : (48 + d / P % 10).toInt = 48 + d.toInt / Q % 10 := by rw [Jvm.Free.XT.add64 ⟨by omega, by omega⟩, k48, e2]
  have := c_lshl (48 + d / P % 10) (8 * i) k hk
  rw [e3, ← hz] at this; exact this
theorem own_digits {d z0 z1 z2 z3 z4 z5 z6 z7 : Int64} (hd : 0 ≤ d.toInt) (h0 : z0 = (48 + d / 10000000 % 10) <<< ((8 * 0) &&& 0x3f).toInt64) (h1 : z1 = (48 + d / 1000000 % 10) <<< ((8 * 1) &&& 0x3f).toInt64) (h2 : z2 = (48 + d / 100000 % 10) <<< ((8 * 2) &&& 0x3f).toInt64) (h3 : z3 = (48 + d / 10000 % 10) <<< ((8 * 3) &&& 0x3f).toInt64) (h4 : z4 = (48 + d / 1000 % 10) <<< ((8 * 4) &&& 0x3f).toInt64) (h5 : z5 = (48 + d / 100 % 10) <<< ((8 * 5) &&& 0x3f).toInt64) (h6 : z6 = (48 + d / 10 % 10) <<< ((8 * 6) &&& 0x3f).toInt64) (h7 : z7 = (48 + d / 1 % 10) <<< ((8 * 7) &&& 0x3f).toInt64) : (z0 ||| z1 ||| z2 ||| z3 ||| z4 ||| z5 ||| z6 ||| z7).toInt = (48 + (d.toInt / 10000000 % 10)) * 1 + (48 + (d.toInt / 1000000 % 10)) * 256 + (48 + (d.toInt / 100000 % 10)) * 65536 + (48 + (d.toInt / 10000 % 10)) * 16777216 + (48 + (d.toInt / 1000 % 10)) * 4294967296 + (48 + (d.toInt / 100 % 10)) * 1099511627776 + (48 + (d.toInt / 10 % 10)) * 281474976710656 + (48 + (d.toInt / 1 % 10)) * 72057594037927936 := by
  have f0 := own_byte (i := 0) 0 10000000 10000000 hd rfl (by omega) (by decide) h0
  rw [show ((2 ^ 0 : Nat) : Int) = 1 from rfl] at f0
  have r0 := rng64 z0
  have f1 := own_byte (i := 1) 8 1000000 1000000 hd rfl (by omega) (by decide) h1
  rw [show ((2 ^ 8 : Nat) : Int) = 256 from rfl] at f1
  have r1 := rng64 z1
  have f2 := own_byte (i := 2) 16 100000 100000 hd rfl (by omega) (by decide) h2
  rw [show ((2 ^ 16 : Nat) : Int) = 65536 from rfl] at f2
  have r2 := rng64 z2
  have f3 := own_byte (i := 3) 24 10000 10000 hd rfl (by omega) (by decide) h3
  rw [show ((2 ^ 24 : Nat) : Int) = 16777216 from rfl] at f3
  have r3 := rng64 z3
  have f4 := own_byte (i := 4) 32 1000 1000 hd rfl (by omega) (by decide) h4
  rw [show ((2 ^ 32 : Nat) : Int) = 4294967296 from rfl] at f4
  have r4 := rng64 z4
  have f5 := own_byte (i := 5) 40 100 100 hd rfl (by omega) (by decide) h5
  rw [show ((2 ^ 40 : Nat) : Int) = 1099511627776 from rfl] at f5
  have r5 := rng64 z5
  have f6 := own_byte (i := 6) 48 10 10 hd rfl (by omega) (by decide) h6
  rw [show ((2 ^ 48 : Nat) : Int) = 281474976710656 from rfl] at f6
  have r6 := rng64 z6
  have f7 := own_byte (i := 7) 56 1 1 hd rfl (by omega) (by decide) h7
  rw [show ((2 ^ 56 : Nat) : Int) = 72057594037927936 from rfl] at f7
  have r7 := rng64 z7
  have q0 : z0.toInt = (48 + (d.toInt / 10000000 % 10)) * 1 := by omega
  have q1 : z1.toInt = (48 + (d.toInt / 1000000 % 10)) * 256 := by omega
  have q2 : z2.toInt = (48 + (d.toInt / 100000 % 10)) * 65536 := by omega
  have q3 : z3.toInt = (48 + (d.toInt / 10000 % 10)) * 16777216 := by omega
  have q4 : z4.toInt = (48 + (d.toInt / 1000 % 10)) * 4294967296 := by omega
  have q5 : z5.toInt = (48 + (d.toInt / 100 % 10)) * 1099511627776 := by omega
  have q6 : z6.toInt = (48 + (d.toInt / 10 % 10)) * 281474976710656 := by omega
  have q7 : z7.toInt = (48 + (d.toInt / 1 % 10)) * 72057594037927936 := by omega
  have o1 := c_orL' (z0) z1 8 (by decide) 256 rfl (by omega) (by omega) (by omega)
  have s1 := rng64 (z0 ||| z1)
  have a1 : (z0 ||| z1).toInt = (48 + (d.toInt / 10000000 % 10)) * 1 + (48 + (d.toInt / 1000000 % 10)) * 256 := by omega
  have o2 := c_orL' (z0 ||| z1) z2 16 (by decide) 65536 rfl (by omega) (by omega) (by omega)
  have s2 := rng64 (z0 ||| z1 ||| z2)
  have a2 : (z0 ||| z1 ||| z2).toInt = (48 + (d.toInt / 10000000 % 10)) * 1 + (48 + (d.toInt / 1000000 % 10)) * 256 + (48 + (d.toInt / 100000 % 10)) * 65536 := by omega
  have o3 := c_orL' (z0 ||| z1 ||| z2) z3 24 (by decide) 16777216 rfl (by omega) (by omega) (by omega)
  have s3 := rng64 (z0 ||| z1 ||| z2 ||| z3)
  have a3 : (z0 ||| z1 ||| z2 ||| z3).toInt = (48 + (d.toInt / 10000000 % 10)) * 1 + (48 + (d.toInt / 1000000 % 10)) * 256 + (48 + (d.toInt / 100000 % 10)) * 65536 + (48 + (d.toInt / 10000 % 10)) * 16777216 := by omega
  have o4 := c_orL' (z0 ||| z1 ||| z2 ||| z3) z4 32 (by decide) 4294967296 rfl (by omega) (by omega) (by omega)
  have s4 := rng64 (z0 ||| z1 ||| z2 ||| z3 ||| z4)
  have a4 : (z0 ||| z1 ||| z2 ||| z3 ||| z4).toInt = (48 + (d.toInt / 10000000 % 10)) * 1 + (48 + (d.toInt / 1000000 % 10)) * 256 + (48 + (d.toInt / 100000 % 10)) * 65536 + (48 + (d.toInt / 10000 % 10)) * 16777216 + (48 + (d.toInt / 1000 % 10)) * 4294967296 := by omega
  have o5 := c_orL' (z0 ||| z1 ||| z2 ||| z3 ||| z4) z5 40 (by decide) 1099511627776 rfl (by omega) (by omega) (by omega)
  have s5 := rng64 (z0 ||| z1 ||| z2 ||| z3 ||| z4 ||| z5)
  have a5 : (z0 ||| z1 ||| z2 ||| z3 ||| z4 ||| z5).toInt = (48 + (d.toInt / 10000000 % 10)) * 1 + (48 + (d.toInt / 1000000 % 10)) * 256 + (48 + (d.toInt / 100000 % 10)) * 65536 + (48 + (d.toInt / 10000 % 10)) * 16777216 + (48 + (d.toInt / 1000 % 10)) * 4294967296 + (48 + (d.toInt / 100 % 10)) * 1099511627776 := by omega
  have o6 := c_orL' (z0 ||| z1 ||| z2 ||| z3 ||| z4 ||| z5) z6 48 (by decide) 281474976710656 rfl (by omega) (by omega) (by omega)
  have s6 := rng64 (z0 ||| z1 ||| z2 ||| z3 ||| z4 ||| z5 ||| z6)
  have a6 : (z0 ||| z1 ||| z2 ||| z3 ||| z4 ||| z5 ||| z6).toInt = (48 + (d.toInt / 10000000 % 10)) * 1 + (48 + (d.toInt / 1000000 % 10)) * 256 + (48 + (d.toInt / 100000 % 10)) * 65536 + (48 + (d.toInt / 10000 % 10)) * 16777216 + (48 + (d.toInt / 1000 % 10)) * 4294967296 + (48 + (d.toInt / 100 % 10)) * 1099511627776 + (48 + (d.toInt / 10 % 10)) * 281474976710656 := by omega
  have o7 := c_orL' (z0 ||| z1 ||| z2 ||| z3 ||| z4 ||| z5 ||| z6) z7 56 (by decide) 72057594037927936 rfl (by omega) (by omega) (by omega)
  have s7 := rng64 (z0 ||| z1 ||| z2 ||| z3 ||| z4 ||| z5 ||| z6 ||| z7)
  have a7 : (z0 ||| z1 ||| z2 ||| z3 ||| z4 ||| z5 ||| z6 ||| z7).toInt = (48 + (d.toInt / 10000000 % 10)) * 1 + (48 + (d.toInt / 1000000 % 10)) * 256 + (48 + (d.toInt / 100000 % 10)) * 65536 + (48 + (d.toInt / 10000 % 10)) * 16777216 + (48 + (d.toInt / 1000 % 10)) * 4294967296 + (48 + (d.toInt / 100 % 10)) * 1099511627776 + (48 + (d.toInt / 10 % 10)) * 281474976710656 + (48 + (d.toInt / 1 % 10)) * 72057594037927936 := by omega
  exact a7
theorem own_low (a b k : Int64) (n : Nat) (hn : n ≤ 63) (hk : k.toBitVec.toNat = 2 ^ n - 1) : ((a &&& k) ||| (b &&& (k ^^^ -1))).toInt % ((2 ^ n : Nat) : Int) = a.toInt % ((2 ^ n : Nat) : Int) := by
  have e : ((a &&& k) ||| (b &&& (k ^^^ -1))) &&& k = a &&& k := by
    apply Int64.toBitVec_inj.mp
    apply BitVec.eq_of_getLsbD_eq
    intro i hi
    have o : (-1 : Int64).toBitVec.getLsbD i = true := by
      have : ∀ j : Fin 64, (-1 : Int64).toBitVec.getLsbD j.1 = true := by decide
      exact this ⟨i, hi⟩
    simp only [Int64.toBitVec_and, Int64.toBitVec_or, Int64.toBitVec_xor, BitVec.getLsbD_and, BitVec.getLsbD_or, BitVec.getLsbD_xor, o]
    cases a.toBitVec.getLsbD i <;> cases b.toBitVec.getLsbD i <;> cases k.toBitVec.getLsbD i <;> rfl
  rw [← c_maskL _ k n hn hk, e, c_maskL _ k n hn hk]
def own_D (d : Int) (i : Nat) : Nat := (d / (10 ^ (7 - i) : Nat) % 10).toNat
def own_E (d : Int) (c j : Nat) : Nat := if j < 8 - c then 0 else own_D d (j - (8 - c))
theorem own_D9 (d : Int) (i : Nat) : own_D d i ≤ 9 := by unfold own_D; omega
theorem own_Di (d : Int) (i : Nat) : (own_D d i : Int) = d / (10 ^ (7 - i) : Nat) % 10 := by unfold own_D; omega
theorem own_E9 (d : Int) (c j : Nat) : own_E d c j ≤ 9 := by
  unfold own_E; split
  · omega
  · exact own_D9 _ _
theorem own_cnt {v x : Int32} (h : v = (x &&& 2147483647) % 8 + 1) : 1 ≤ v.toInt ∧ v.toInt ≤ 8 := by
  have m : 0 ≤ (x &&& 2147483647).toInt := by rw [c_mask x 2147483647 31 (by decide) (by decide)]; omega
  have e := (c_irem (x &&& 2147483647) 8 8 rfl).1 m
  have h1 : (1 : Int32).toInt = 1 := rfl
  rw [h, Jvm.Free.XT.add32 ⟨by omega, by omega⟩]; omega
theorem own_eight {w : Int32} (h1 : 1 ≤ w.toInt) (h2 : w.toInt ≤ 8) : w = 1 ∨ w = 2 ∨ w = 3 ∨ w = 4 ∨ w = 5 ∨ w = 6 ∨ w = 7 ∨ w = 8 := by
  rcases (by omega : w.toInt = 1 ∨ w.toInt = 2 ∨ w.toInt = 3 ∨ w.toInt = 4 ∨ w.toInt = 5 ∨ w.toInt = 6 ∨ w.toInt = 7 ∨ w.toInt = 8) with h | h | h | h | h | h | h | h
  · left; exact Int32.toInt_inj.mp h
  · right; left; exact Int32.toInt_inj.mp h
  · right; right; left; exact Int32.toInt_inj.mp h
  · right; right; right; left; exact Int32.toInt_inj.mp h
  · right; right; right; right; left; exact Int32.toInt_inj.mp h
  · right; right; right; right; right; left; exact Int32.toInt_inj.mp h
  · right; right; right; right; right; right; left; exact Int32.toInt_inj.mp h
  · right; right; right; right; right; right; right; exact Int32.toInt_inj.mp h
theorem own_dr {d : Int64} {x : Int32} (h : d = ((x &&& 2147483647) % 100000000).toInt64) : 0 ≤ d.toInt ∧ d.toInt < 100000000 := by
  have m : 0 ≤ (x &&& 2147483647).toInt := by rw [c_mask x 2147483647 31 (by decide) (by decide)]; omega
  have e := (c_irem (x &&& 2147483647) 100000000 100000000 rfl).1 m
  rw [h, Int32.toInt_toInt64]; omega
theorem own_pad {w g junk keep : Int64} {cnt : Int32} {d : Int} (h1 : 1 ≤ cnt.toInt) (h2 : cnt.toInt ≤ 8) (hd0 : 0 ≤ d) (hd1 : d < 100000000) (hg : g.toInt = (48 + (d / 10000000 % 10)) * 1 + (48 + (d / 1000000 % 10)) * 256 + (48 + (d / 100000 % 10)) * 65536 + (48 + (d / 10000 % 10)) * 16777216 + (48 + (d / 1000 % 10)) * 4294967296 + (48 + (d / 100 % 10)) * 1099511627776 + (48 + (d / 10 % 10)) * 281474976710656 + (48 + (d / 1 % 10)) * 72057594037927936) (hk : (¬ cnt = 8 ∧ keep = ((1 : Int64) <<< ((8 * cnt) &&& 0x3f).toInt64) - 1) ∨ (cnt = 8 ∧ keep = -1)) (hw : w = (g &&& keep) ||| (junk &&& (keep ^^^ -1))) :
    (if cnt = 8 then w else ((w <<< ((8 * (8 - cnt)) &&& 0x3f).toInt64) ||| (((3472328296227680304 : Int64).toUInt64 >>> ((8 * cnt) &&& 0x3f).toInt64.toUInt64).toInt64))).toInt = (48 + (own_E d cnt.toInt.toNat 0 : Int)) * 1 + (48 + (own_E d cnt.toInt.toNat 1 : Int)) * 256 + (48 + (own_E d cnt.toInt.toNat 2 : Int)) * 65536 + (48 + (own_E d cnt.toInt.toNat 3 : Int)) * 16777216 + (48 + (own_E d cnt.toInt.toNat 4 : Int)) * 4294967296 + (48 + (own_E d cnt.toInt.toNat 5 : Int)) * 1099511627776 + (48 + (own_E d cnt.toInt.toNat 6 : Int)) * 281474976710656 + (48 + (own_E d cnt.toInt.toNat 7 : Int)) * 72057594037927936 := by
  rcases own_eight h1 h2 with rfl | rfl | rfl | rfl | rfl | rfl | rfl | rfl
  · obtain rfl : keep = 255 := by
      rcases hk with ⟨-, q⟩ | ⟨q, -⟩
      · rw [q]; decide
      · exact absurd q (by decide)
    have lo := own_low g junk 255 8 (by decide) (by decide)
    rw [← hw, hg, show ((2 ^ 8 : Nat) : Int) = 256 from rfl] at lo
    rw [if_neg (by decide)]
    have sh := c_lshl w (8 * (8 - 1)) 56 (by decide)
    rw [show ((2 ^ 56 : Nat) : Int) = 72057594037927936 from rfl] at sh
    have rw1 := rng64 w
    have ra := rng64 (w <<< ((8 * (8 - 1)) &&& 0x3f : Int32).toInt64)
    have kb : (((3472328296227680304 : Int64).toUInt64 >>> ((8 * 1) &&& 0x3f : Int32).toInt64.toUInt64).toInt64).toInt = 13563782407139376 := by decide
    have y0 : (own_E d (1 : Int32).toInt.toNat 0 : Int) = 0 := rfl
    have y1 : (own_E d (1 : Int32).toInt.toNat 1 : Int) = 0 := rfl
    have y2 : (own_E d (1 : Int32).toInt.toNat 2 : Int) = 0 := rfl
    have y3 : (own_E d (1 : Int32).toInt.toNat 3 : Int) = 0 := rfl
    have y4 : (own_E d (1 : Int32).toInt.toNat 4 : Int) = 0 := rfl
    have y5 : (own_E d (1 : Int32).toInt.toNat 5 : Int) = 0 := rfl
    have y6 : (own_E d (1 : Int32).toInt.toNat 6 : Int) = 0 := rfl
    have y7 : (own_E d (1 : Int32).toInt.toNat 7 : Int) = (d / 10000000 % 10) := own_Di d 0
    rw [y0, y1, y2, y3, y4, y5, y6, y7]
    have va : (w <<< ((8 * (8 - 1)) &&& 0x3f : Int32).toInt64).toInt = ((48 + (d / 10000000 % 10)) * 1) * 72057594037927936 := by omega
    have oo := c_orL (w <<< ((8 * (8 - 1)) &&& 0x3f : Int32).toInt64) (((3472328296227680304 : Int64).toUInt64 >>> ((8 * 1) &&& 0x3f : Int32).toInt64.toUInt64).toInt64) 56 (by decide) 72057594037927936 rfl (by omega) (by omega) (by omega)
    have ro := rng64 ((w <<< ((8 * (8 - 1)) &&& 0x3f : Int32).toInt64) ||| (((3472328296227680304 : Int64).toUInt64 >>> ((8 * 1) &&& 0x3f : Int32).toInt64.toUInt64).toInt64))
    omega
  · obtain rfl : keep = 65535 := by
      rcases hk with ⟨-, q⟩ | ⟨q, -⟩
      · rw [q]; decide
      · exact absurd q (by decide)
    have lo := own_low g junk 65535 16 (by decide) (by decide)
    rw [← hw, hg, show ((2 ^ 16 : Nat) : Int) = 65536 from rfl] at lo
    rw [if_neg (by decide)]
    have sh := c_lshl w (8 * (8 - 2)) 48 (by decide)
    rw [show ((2 ^ 48 : Nat) : Int) = 281474976710656 from rfl] at sh
    have rw1 := rng64 w
    have ra := rng64 (w <<< ((8 * (8 - 2)) &&& 0x3f : Int32).toInt64)
    have kb : (((3472328296227680304 : Int64).toUInt64 >>> ((8 * 2) &&& 0x3f : Int32).toInt64.toUInt64).toInt64).toInt = 52983525027888 := by decide
    have y0 : (own_E d (2 : Int32).toInt.toNat 0 : Int) = 0 := rfl
    have y1 : (own_E d (2 : Int32).toInt.toNat 1 : Int) = 0 := rfl
    have y2 : (own_E d (2 : Int32).toInt.toNat 2 : Int) = 0 := rfl
    have y3 : (own_E d (2 : Int32).toInt.toNat 3 : Int) = 0 := rfl
    have y4 : (own_E d (2 : Int32).toInt.toNat 4 : Int) = 0 := rfl
    have y5 : (own_E d (2 : Int32).toInt.toNat 5 : Int) = 0 := rfl
    have y6 : (own_E d (2 : Int32).toInt.toNat 6 : Int) = (d / 10000000 % 10) := own_Di d 0
    have y7 : (own_E d (2 : Int32).toInt.toNat 7 : Int) = (d / 1000000 % 10) := own_Di d 1
    rw [y0, y1, y2, y3, y4, y5, y6, y7]
    have va : (w <<< ((8 * (8 - 2)) &&& 0x3f : Int32).toInt64).toInt = ((48 + (d / 10000000 % 10)) * 1 + (48 + (d / 1000000 % 10)) * 256) * 281474976710656 := by omega
    have oo := c_orL (w <<< ((8 * (8 - 2)) &&& 0x3f : Int32).toInt64) (((3472328296227680304 : Int64).toUInt64 >>> ((8 * 2) &&& 0x3f : Int32).toInt64.toUInt64).toInt64) 48 (by decide) 281474976710656 rfl (by omega) (by omega) (by omega)
    have ro := rng64 ((w <<< ((8 * (8 - 2)) &&& 0x3f : Int32).toInt64) ||| (((3472328296227680304 : Int64).toUInt64 >>> ((8 * 2) &&& 0x3f : Int32).toInt64.toUInt64).toInt64))
    omega
  · obtain rfl : keep = 16777215 := by
      rcases hk with ⟨-, q⟩ | ⟨q, -⟩
      · rw [q]; decide
      · exact absurd q (by decide)
    have lo := own_low g junk 16777215 24 (by decide) (by decide)
    rw [← hw, hg, show ((2 ^ 24 : Nat) : Int) = 16777216 from rfl] at lo
    rw [if_neg (by decide)]
    have sh := c_lshl w (8 * (8 - 3)) 40 (by decide)
    rw [show ((2 ^ 40 : Nat) : Int) = 1099511627776 from rfl] at sh
    have rw1 := rng64 w
    have ra := rng64 (w <<< ((8 * (8 - 3)) &&& 0x3f : Int32).toInt64)
    have kb : (((3472328296227680304 : Int64).toUInt64 >>> ((8 * 3) &&& 0x3f : Int32).toInt64.toUInt64).toInt64).toInt = 206966894640 := by decide
    have y0 : (own_E d (3 : Int32).toInt.toNat 0 : Int) = 0 := rfl
    have y1 : (own_E d (3 : Int32).toInt.toNat 1 : Int) = 0 := rfl
    have y2 : (own_E d (3 : Int32).toInt.toNat 2 : Int) = 0 := rfl
    have y3 : (own_E d (3 : Int32).toInt.toNat 3 : Int) = 0 := rfl
    have y4 : (own_E d (3 : Int32).toInt.toNat 4 : Int) = 0 := rfl
    have y5 : (own_E d (3 : Int32).toInt.toNat 5 : Int) = (d / 10000000 % 10) := own_Di d 0
    have y6 : (own_E d (3 : Int32).toInt.toNat 6 : Int) = (d / 1000000 % 10) := own_Di d 1
    have y7 : (own_E d (3 : Int32).toInt.toNat 7 : Int) = (d / 100000 % 10) := own_Di d 2
    rw [y0, y1, y2, y3, y4, y5, y6, y7]
    have va : (w <<< ((8 * (8 - 3)) &&& 0x3f : Int32).toInt64).toInt = ((48 + (d / 10000000 % 10)) * 1 + (48 + (d / 1000000 % 10)) * 256 + (48 + (d / 100000 % 10)) * 65536) * 1099511627776 := by omega
    have oo := c_orL (w <<< ((8 * (8 - 3)) &&& 0x3f : Int32).toInt64) (((3472328296227680304 : Int64).toUInt64 >>> ((8 * 3) &&& 0x3f : Int32).toInt64.toUInt64).toInt64) 40 (by decide) 1099511627776 rfl (by omega) (by omega) (by omega)
    have ro := rng64 ((w <<< ((8 * (8 - 3)) &&& 0x3f : Int32).toInt64) ||| (((3472328296227680304 : Int64).toUInt64 >>> ((8 * 3) &&& 0x3f : Int32).toInt64.toUInt64).toInt64))
    omega
  · obtain rfl : keep = 4294967295 := by
      rcases hk with ⟨-, q⟩ | ⟨q, -⟩
      · rw [q]; decide
      · exact absurd q (by decide)
    have lo := own_low g junk 4294967295 32 (by decide) (by decide)
    rw [← hw, hg, show ((2 ^ 32 : Nat) : Int) = 4294967296 from rfl] at lo
    rw [if_neg (by decide)]
    have sh := c_lshl w (8 * (8 - 4)) 32 (by decide)
    rw [show ((2 ^ 32 : Nat) : Int) = 4294967296 from rfl] at sh
    have rw1 := rng64 w
    have ra := rng64 (w <<< ((8 * (8 - 4)) &&& 0x3f : Int32).toInt64)
    have kb : (((3472328296227680304 : Int64).toUInt64 >>> ((8 * 4) &&& 0x3f : Int32).toInt64.toUInt64).toInt64).toInt = 808464432 := by decide
    have y0 : (own_E d (4 : Int32).toInt.toNat 0 : Int) = 0 := rfl
    have y1 : (own_E d (4 : Int32).toInt.toNat 1 : Int) = 0 := rfl
    have y2 : (own_E d (4 : Int32).toInt.toNat 2 : Int) = 0 := rfl
    have y3 : (own_E d (4 : Int32).toInt.toNat 3 : Int) = 0 := rfl
    have y4 : (own_E d (4 : Int32).toInt.toNat 4 : Int) = (d / 10000000 % 10) := own_Di d 0
    have y5 : (own_E d (4 : Int32).toInt.toNat 5 : Int) = (d / 1000000 % 10) := own_Di d 1
    have y6 : (own_E d (4 : Int32).toInt.toNat 6 : Int) = (d / 100000 % 10) := own_Di d 2
    have y7 : (own_E d (4 : Int32).toInt.toNat 7 : Int) = (d / 10000 % 10) := own_Di d 3
    rw [y0, y1, y2, y3, y4, y5, y6, y7]
    have va : (w <<< ((8 * (8 - 4)) &&& 0x3f : Int32).toInt64).toInt = ((48 + (d / 10000000 % 10)) * 1 + (48 + (d / 1000000 % 10)) * 256 + (48 + (d / 100000 % 10)) * 65536 + (48 + (d / 10000 % 10)) * 16777216) * 4294967296 := by omega
    have oo := c_orL (w <<< ((8 * (8 - 4)) &&& 0x3f : Int32).toInt64) (((3472328296227680304 : Int64).toUInt64 >>> ((8 * 4) &&& 0x3f : Int32).toInt64.toUInt64).toInt64) 32 (by decide) 4294967296 rfl (by omega) (by omega) (by omega)
    have ro := rng64 ((w <<< ((8 * (8 - 4)) &&& 0x3f : Int32).toInt64) ||| (((3472328296227680304 : Int64).toUInt64 >>> ((8 * 4) &&& 0x3f : Int32).toInt64.toUInt64).toInt64))
    omega
  · obtain rfl : keep = 1099511627775 := by
      rcases hk with ⟨-, q⟩ | ⟨q, -⟩
      · rw [q]; decide
      · exact absurd q (by decide)
    have lo := own_low g junk 1099511627775 40 (by decide) (by decide)
    rw [← hw, hg, show ((2 ^ 40 : Nat) : Int) = 1099511627776 from rfl] at lo
    rw [if_neg (by decide)]
    have sh := c_lshl w (8 * (8 - 5)) 24 (by decide)
    rw [show ((2 ^ 24 : Nat) : Int) = 16777216 from rfl] at sh
    have rw1 := rng64 w
    have ra := rng64 (w <<< ((8 * (8 - 5)) &&& 0x3f : Int32).toInt64)
    have kb : (((3472328296227680304 : Int64).toUInt64 >>> ((8 * 5) &&& 0x3f : Int32).toInt64.toUInt64).toInt64).toInt = 3158064 := by decide
    have y0 : (own_E d (5 : Int32).toInt.toNat 0 : Int) = 0 := rfl
    have y1 : (own_E d (5 : Int32).toInt.toNat 1 : Int) = 0 := rfl
    have y2 : (own_E d (5 : Int32).toInt.toNat 2 : Int) = 0 := rfl
    have y3 : (own_E d (5 : Int32).toInt.toNat 3 : Int) = (d / 10000000 % 10) := own_Di d 0
    have y4 : (own_E d (5 : Int32).toInt.toNat 4 : Int) = (d / 1000000 % 10) := own_Di d 1
    have y5 : (own_E d (5 : Int32).toInt.toNat 5 : Int) = (d / 100000 % 10) := own_Di d 2
    have y6 : (own_E d (5 : Int32).toInt.toNat 6 : Int) = (d / 10000 % 10) := own_Di d 3
    have y7 : (own_E d (5 : Int32).toInt.toNat 7 : Int) = (d / 1000 % 10) := own_Di d 4
    rw [y0, y1, y2, y3, y4, y5, y6, y7]
    have va : (w <<< ((8 * (8 - 5)) &&& 0x3f : Int32).toInt64).toInt = ((48 + (d / 10000000 % 10)) * 1 + (48 + (d / 1000000 % 10)) * 256 + (48 + (d / 100000 % 10)) * 65536 + (48 + (d / 10000 % 10)) * 16777216 + (48 + (d / 1000 % 10)) * 4294967296) * 16777216 := by omega
    have oo := c_orL (w <<< ((8 * (8 - 5)) &&& 0x3f : Int32).toInt64) (((3472328296227680304 : Int64).toUInt64 >>> ((8 * 5) &&& 0x3f : Int32).toInt64.toUInt64).toInt64) 24 (by decide) 16777216 rfl (by omega) (by omega) (by omega)
    have ro := rng64 ((w <<< ((8 * (8 - 5)) &&& 0x3f : Int32).toInt64) ||| (((3472328296227680304 : Int64).toUInt64 >>> ((8 * 5) &&& 0x3f : Int32).toInt64.toUInt64).toInt64))
    omega
  · obtain rfl : keep = 281474976710655 := by
      rcases hk with ⟨-, q⟩ | ⟨q, -⟩
      · rw [q]; decide
      · exact absurd q (by decide)
    have lo := own_low g junk 281474976710655 48 (by decide) (by decide)
    rw [← hw, hg, show ((2 ^ 48 : Nat) : Int) = 281474976710656 from rfl] at lo
    rw [if_neg (by decide)]
    have sh := c_lshl w (8 * (8 - 6)) 16 (by decide)
    rw [show ((2 ^ 16 : Nat) : Int) = 65536 from rfl] at sh
    have rw1 := rng64 w
    have ra := rng64 (w <<< ((8 * (8 - 6)) &&& 0x3f : Int32).toInt64)
    have kb : (((3472328296227680304 : Int64).toUInt64 >>> ((8 * 6) &&& 0x3f : Int32).toInt64.toUInt64).toInt64).toInt = 12336 := by decide
    have y0 : (own_E d (6 : Int32).toInt.toNat 0 : Int) = 0 := rfl
    have y1 : (own_E d (6 : Int32).toInt.toNat 1 : Int) = 0 := rfl
    have y2 : (own_E d (6 : Int32).toInt.toNat 2 : Int) = (d / 10000000 % 10) := own_Di d 0
    have y3 : (own_E d (6 : Int32).toInt.toNat 3 : Int) = (d / 1000000 % 10) := own_Di d 1
    have y4 : (own_E d (6 : Int32).toInt.toNat 4 : Int) = (d / 100000 % 10) := own_Di d 2
    have y5 : (own_E d (6 : Int32).toInt.toNat 5 : Int) = (d / 10000 % 10) := own_Di d 3
    have y6 : (own_E d (6 : Int32).toInt.toNat 6 : Int) = (d / 1000 % 10) := own_Di d 4
    have y7 : (own_E d (6 : Int32).toInt.toNat 7 : Int) = (d / 100 % 10) := own_Di d 5
    rw [y0, y1, y2, y3, y4, y5, y6, y7]
    have va : (w <<< ((8 * (8 - 6)) &&& 0x3f : Int32).toInt64).toInt = ((48 + (d / 10000000 % 10)) * 1 + (48 + (d / 1000000 % 10)) * 256 + (48 + (d / 100000 % 10)) * 65536 + (48 + (d / 10000 % 10)) * 16777216 + (48 + (d / 1000 % 10)) * 4294967296 + (48 + (d / 100 % 10)) * 1099511627776) * 65536 := by omega
    have oo := c_orL (w <<< ((8 * (8 - 6)) &&& 0x3f : Int32).toInt64) (((3472328296227680304 : Int64).toUInt64 >>> ((8 * 6) &&& 0x3f : Int32).toInt64.toUInt64).toInt64) 16 (by decide) 65536 rfl (by omega) (by omega) (by omega)
    have ro := rng64 ((w <<< ((8 * (8 - 6)) &&& 0x3f : Int32).toInt64) ||| (((3472328296227680304 : Int64).toUInt64 >>> ((8 * 6) &&& 0x3f : Int32).toInt64.toUInt64).toInt64))
    omega
  · obtain rfl : keep = 72057594037927935 := by
      rcases hk with ⟨-, q⟩ | ⟨q, -⟩
      · rw [q]; decide
      · exact absurd q (by decide)
    have lo := own_low g junk 72057594037927935 56 (by decide) (by decide)
    rw [← hw, hg, show ((2 ^ 56 : Nat) : Int) = 72057594037927936 from rfl] at lo
    rw [if_neg (by decide)]
    have sh := c_lshl w (8 * (8 - 7)) 8 (by decide)
    rw [show ((2 ^ 8 : Nat) : Int) = 256 from rfl] at sh
    have rw1 := rng64 w
    have ra := rng64 (w <<< ((8 * (8 - 7)) &&& 0x3f : Int32).toInt64)
    have kb : (((3472328296227680304 : Int64).toUInt64 >>> ((8 * 7) &&& 0x3f : Int32).toInt64.toUInt64).toInt64).toInt = 48 := by decide
    have y0 : (own_E d (7 : Int32).toInt.toNat 0 : Int) = 0 := rfl
    have y1 : (own_E d (7 : Int32).toInt.toNat 1 : Int) = (d / 10000000 % 10) := own_Di d 0
    have y2 : (own_E d (7 : Int32).toInt.toNat 2 : Int) = (d / 1000000 % 10) := own_Di d 1
    have y3 : (own_E d (7 : Int32).toInt.toNat 3 : Int) = (d / 100000 % 10) := own_Di d 2
    have y4 : (own_E d (7 : Int32).toInt.toNat 4 : Int) = (d / 10000 % 10) := own_Di d 3
    have y5 : (own_E d (7 : Int32).toInt.toNat 5 : Int) = (d / 1000 % 10) := own_Di d 4
    have y6 : (own_E d (7 : Int32).toInt.toNat 6 : Int) = (d / 100 % 10) := own_Di d 5
    have y7 : (own_E d (7 : Int32).toInt.toNat 7 : Int) = (d / 10 % 10) := own_Di d 6
    rw [y0, y1, y2, y3, y4, y5, y6, y7]
    have va : (w <<< ((8 * (8 - 7)) &&& 0x3f : Int32).toInt64).toInt = ((48 + (d / 10000000 % 10)) * 1 + (48 + (d / 1000000 % 10)) * 256 + (48 + (d / 100000 % 10)) * 65536 + (48 + (d / 10000 % 10)) * 16777216 + (48 + (d / 1000 % 10)) * 4294967296 + (48 + (d / 100 % 10)) * 1099511627776 + (48 + (d / 10 % 10)) * 281474976710656) * 256 := by omega
    have oo := c_orL (w <<< ((8 * (8 - 7)) &&& 0x3f : Int32).toInt64) (((3472328296227680304 : Int64).toUInt64 >>> ((8 * 7) &&& 0x3f : Int32).toInt64.toUInt64).toInt64) 8 (by decide) 256 rfl (by omega) (by omega) (by omega)
    have ro := rng64 ((w <<< ((8 * (8 - 7)) &&& 0x3f : Int32).toInt64) ||| (((3472328296227680304 : Int64).toUInt64 >>> ((8 * 7) &&& 0x3f : Int32).toInt64.toUInt64).toInt64))
    omega
  · obtain rfl : keep = -1 := by
      rcases hk with ⟨q, -⟩ | ⟨-, q⟩
      · exact absurd rfl q
      · exact q
    have e : w = g := by rw [hw]; simp
    rw [if_pos rfl, e, hg]
    have y0 : (own_E d (8 : Int32).toInt.toNat 0 : Int) = (d / 10000000 % 10) := own_Di d 0
    have y1 : (own_E d (8 : Int32).toInt.toNat 1 : Int) = (d / 1000000 % 10) := own_Di d 1
    have y2 : (own_E d (8 : Int32).toInt.toNat 2 : Int) = (d / 100000 % 10) := own_Di d 2
    have y3 : (own_E d (8 : Int32).toInt.toNat 3 : Int) = (d / 10000 % 10) := own_Di d 3
    have y4 : (own_E d (8 : Int32).toInt.toNat 4 : Int) = (d / 1000 % 10) := own_Di d 4
    have y5 : (own_E d (8 : Int32).toInt.toNat 5 : Int) = (d / 100 % 10) := own_Di d 5
    have y6 : (own_E d (8 : Int32).toInt.toNat 6 : Int) = (d / 10 % 10) := own_Di d 6
    have y7 : (own_E d (8 : Int32).toInt.toNat 7 : Int) = (d / 1 % 10) := own_Di d 7
    rw [y0, y1, y2, y3, y4, y5, y6, y7]
def own_pow (i : Int) : Int64 := if i = 0 then 1 else if i = 1 then 10 else if i = 2 then 100 else if i = 3 then 1000 else if i = 4 then 10000 else if i = 5 then 100000 else if i = 6 then 1000000 else 10000000
theorem own_fin {d z x : Int64} {cnt : Int32} (h1 : 1 ≤ cnt.toInt) (h2 : cnt.toInt ≤ 8) (hd0 : 0 ≤ d.toInt) (hd1 : d.toInt < 100000000) (hz : z.toInt = (own_E d.toInt cnt.toInt.toNat 0 : Int) * 10000000 + (own_E d.toInt cnt.toInt.toNat 1 : Int) * 1000000 + (own_E d.toInt cnt.toInt.toNat 2 : Int) * 100000 + (own_E d.toInt cnt.toInt.toNat 3 : Int) * 10000 + (own_E d.toInt cnt.toInt.toNat 4 : Int) * 1000 + (own_E d.toInt cnt.toInt.toNat 5 : Int) * 100 + (own_E d.toInt cnt.toInt.toNat 6 : Int) * 10 + (own_E d.toInt cnt.toInt.toNat 7 : Int) * 1) (hx : x = own_pow (8 - cnt).toInt) : z = d / x ∧ x ≠ 0 := by
  subst hx
  rcases own_eight h1 h2 with rfl | rfl | rfl | rfl | rfl | rfl | rfl | rfl
  · have px : own_pow (8 - (1 : Int32)).toInt = 10000000 := rfl
    rw [px]
    refine ⟨Int64.toInt_inj.mp ?_, by decide⟩
    rw [(c_ldiv d 10000000 10000000 rfl (by decide)).1 hd0, hz]
    have y0 : (own_E d.toInt (1 : Int32).toInt.toNat 0 : Int) = 0 := rfl
    have y1 : (own_E d.toInt (1 : Int32).toInt.toNat 1 : Int) = 0 := rfl
    have y2 : (own_E d.toInt (1 : Int32).toInt.toNat 2 : Int) = 0 := rfl
    have y3 : (own_E d.toInt (1 : Int32).toInt.toNat 3 : Int) = 0 := rfl
    have y4 : (own_E d.toInt (1 : Int32).toInt.toNat 4 : Int) = 0 := rfl
    have y5 : (own_E d.toInt (1 : Int32).toInt.toNat 5 : Int) = 0 := rfl
    have y6 : (own_E d.toInt (1 : Int32).toInt.toNat 6 : Int) = 0 := rfl
    have y7 : (own_E d.toInt (1 : Int32).toInt.toNat 7 : Int) = (d.toInt / 10000000 % 10) := own_Di d.toInt 0
    rw [y0, y1, y2, y3, y4, y5, y6, y7]
    omega
  · have px : own_pow (8 - (2 : Int32)).toInt = 1000000 := rfl
    rw [px]
    refine ⟨Int64.toInt_inj.mp ?_, by decide⟩
    rw [(c_ldiv d 1000000 1000000 rfl (by decide)).1 hd0, hz]
    have y0 : (own_E d.toInt (2 : Int32).toInt.toNat 0 : Int) = 0 := rfl
    have y1 : (own_E d.toInt (2 : Int32).toInt.toNat 1 : Int) = 0 := rfl
    have y2 : (own_E d.toInt (2 : Int32).toInt.toNat 2 : Int) = 0 := rfl
    have y3 : (own_E d.toInt (2 : Int32).toInt.toNat 3 : Int) = 0 := rfl
    have y4 : (own_E d.toInt (2 : Int32).toInt.toNat 4 : Int) = 0 := rfl
    have y5 : (own_E d.toInt (2 : Int32).toInt.toNat 5 : Int) = 0 := rfl
    have y6 : (own_E d.toInt (2 : Int32).toInt.toNat 6 : Int) = (d.toInt / 10000000 % 10) := own_Di d.toInt 0
    have y7 : (own_E d.toInt (2 : Int32).toInt.toNat 7 : Int) = (d.toInt / 1000000 % 10) := own_Di d.toInt 1
    rw [y0, y1, y2, y3, y4, y5, y6, y7]
    omega
  · have px : own_pow (8 - (3 : Int32)).toInt = 100000 := rfl
    rw [px]
    refine ⟨Int64.toInt_inj.mp ?_, by decide⟩
    rw [(c_ldiv d 100000 100000 rfl (by decide)).1 hd0, hz]
    have y0 : (own_E d.toInt (3 : Int32).toInt.toNat 0 : Int) = 0 := rfl
    have y1 : (own_E d.toInt (3 : Int32).toInt.toNat 1 : Int) = 0 := rfl
    have y2 : (own_E d.toInt (3 : Int32).toInt.toNat 2 : Int) = 0 := rfl
    have y3 : (own_E d.toInt (3 : Int32).toInt.toNat 3 : Int) = 0 := rfl
    have y4 : (own_E d.toInt (3 : Int32).toInt.toNat 4 : Int) = 0 := rfl
    have y5 : (own_E d.toInt (3 : Int32).toInt.toNat 5 : Int) = (d.toInt / 10000000 % 10) := own_Di d.toInt 0
    have y6 : (own_E d.toInt (3 : Int32).toInt.toNat 6 : Int) = (d.toInt / 1000000 % 10) := own_Di d.toInt 1
    have y7 : (own_E d.toInt (3 : Int32).toInt.toNat 7 : Int) = (d.toInt / 100000 % 10) := own_Di d.toInt 2
    rw [y0, y1, y2, y3, y4, y5, y6, y7]
    omega
  · have px : own_pow (8 - (4 : Int32)).toInt = 10000 := rfl
    rw [px]
    refine ⟨Int64.toInt_inj.mp ?_, by decide⟩
    rw [(c_ldiv d 10000 10000 rfl (by decide)).1 hd0, hz]
    have y0 : (own_E d.toInt (4 : Int32).toInt.toNat 0 : Int) = 0 := rfl
    have y1 : (own_E d.toInt (4 : Int32).toInt.toNat 1 : Int) = 0 := rfl
    have y2 : (own_E d.toInt (4 : Int32).toInt.toNat 2 : Int) = 0 := rfl
    have y3 : (own_E d.toInt (4 : Int32).toInt.toNat 3 : Int) = 0 := rfl
    have y4 : (own_E d.toInt (4 : Int32).toInt.toNat 4 : Int) = (d.toInt / 10000000 % 10) := own_Di d.toInt 0
    have y5 : (own_E d.toInt (4 : Int32).toInt.toNat 5 : Int) = (d.toInt / 1000000 % 10) := own_Di d.toInt 1
    have y6 : (own_E d.toInt (4 : Int32).toInt.toNat 6 : Int) = (d.toInt / 100000 % 10) := own_Di d.toInt 2
    have y7 : (own_E d.toInt (4 : Int32).toInt.toNat 7 : Int) = (d.toInt / 10000 % 10) := own_Di d.toInt 3
    rw [y0, y1, y2, y3, y4, y5, y6, y7]
    omega
  · have px : own_pow (8 - (5 : Int32)).toInt = 1000 := rfl
    rw [px]
    refine ⟨Int64.toInt_inj.mp ?_, by decide⟩
    rw [(c_ldiv d 1000 1000 rfl (by decide)).1 hd0, hz]
    have y0 : (own_E d.toInt (5 : Int32).toInt.toNat 0 : Int) = 0 := rfl
    have y1 : (own_E d.toInt (5 : Int32).toInt.toNat 1 : Int) = 0 := rfl
    have y2 : (own_E d.toInt (5 : Int32).toInt.toNat 2 : Int) = 0 := rfl
    have y3 : (own_E d.toInt (5 : Int32).toInt.toNat 3 : Int) = (d.toInt / 10000000 % 10) := own_Di d.toInt 0
    have y4 : (own_E d.toInt (5 : Int32).toInt.toNat 4 : Int) = (d.toInt / 1000000 % 10) := own_Di d.toInt 1
    have y5 : (own_E d.toInt (5 : Int32).toInt.toNat 5 : Int) = (d.toInt / 100000 % 10) := own_Di d.toInt 2
    have y6 : (own_E d.toInt (5 : Int32).toInt.toNat 6 : Int) = (d.toInt / 10000 % 10) := own_Di d.toInt 3
    have y7 : (own_E d.toInt (5 : Int32).toInt.toNat 7 : Int) = (d.toInt / 1000 % 10) := own_Di d.toInt 4
    rw [y0, y1, y2, y3, y4, y5, y6, y7]
    omega
  · have px : own_pow (8 - (6 : Int32)).toInt = 100 := rfl
    rw [px]
    refine ⟨Int64.toInt_inj.mp ?_, by decide⟩
    rw [(c_ldiv d 100 100 rfl (by decide)).1 hd0, hz]
    have y0 : (own_E d.toInt (6 : Int32).toInt.toNat 0 : Int) = 0 := rfl
    have y1 : (own_E d.toInt (6 : Int32).toInt.toNat 1 : Int) = 0 := rfl
    have y2 : (own_E d.toInt (6 : Int32).toInt.toNat 2 : Int) = (d.toInt / 10000000 % 10) := own_Di d.toInt 0
    have y3 : (own_E d.toInt (6 : Int32).toInt.toNat 3 : Int) = (d.toInt / 1000000 % 10) := own_Di d.toInt 1
    have y4 : (own_E d.toInt (6 : Int32).toInt.toNat 4 : Int) = (d.toInt / 100000 % 10) := own_Di d.toInt 2
    have y5 : (own_E d.toInt (6 : Int32).toInt.toNat 5 : Int) = (d.toInt / 10000 % 10) := own_Di d.toInt 3
    have y6 : (own_E d.toInt (6 : Int32).toInt.toNat 6 : Int) = (d.toInt / 1000 % 10) := own_Di d.toInt 4
    have y7 : (own_E d.toInt (6 : Int32).toInt.toNat 7 : Int) = (d.toInt / 100 % 10) := own_Di d.toInt 5
    rw [y0, y1, y2, y3, y4, y5, y6, y7]
    omega
  · have px : own_pow (8 - (7 : Int32)).toInt = 10 := rfl
    rw [px]
    refine ⟨Int64.toInt_inj.mp ?_, by decide⟩
    rw [(c_ldiv d 10 10 rfl (by decide)).1 hd0, hz]
    have y0 : (own_E d.toInt (7 : Int32).toInt.toNat 0 : Int) = 0 := rfl
    have y1 : (own_E d.toInt (7 : Int32).toInt.toNat 1 : Int) = (d.toInt / 10000000 % 10) := own_Di d.toInt 0
    have y2 : (own_E d.toInt (7 : Int32).toInt.toNat 2 : Int) = (d.toInt / 1000000 % 10) := own_Di d.toInt 1
    have y3 : (own_E d.toInt (7 : Int32).toInt.toNat 3 : Int) = (d.toInt / 100000 % 10) := own_Di d.toInt 2
    have y4 : (own_E d.toInt (7 : Int32).toInt.toNat 4 : Int) = (d.toInt / 10000 % 10) := own_Di d.toInt 3
    have y5 : (own_E d.toInt (7 : Int32).toInt.toNat 5 : Int) = (d.toInt / 1000 % 10) := own_Di d.toInt 4
    have y6 : (own_E d.toInt (7 : Int32).toInt.toNat 6 : Int) = (d.toInt / 100 % 10) := own_Di d.toInt 5
    have y7 : (own_E d.toInt (7 : Int32).toInt.toNat 7 : Int) = (d.toInt / 10 % 10) := own_Di d.toInt 6
    rw [y0, y1, y2, y3, y4, y5, y6, y7]
    omega
  · have px : own_pow (8 - (8 : Int32)).toInt = 1 := rfl
    rw [px]
    refine ⟨Int64.toInt_inj.mp ?_, by decide⟩
    rw [(c_ldiv d 1 1 rfl (by decide)).1 hd0, hz]
    have y0 : (own_E d.toInt (8 : Int32).toInt.toNat 0 : Int) = (d.toInt / 10000000 % 10) := own_Di d.toInt 0
    have y1 : (own_E d.toInt (8 : Int32).toInt.toNat 1 : Int) = (d.toInt / 1000000 % 10) := own_Di d.toInt 1
    have y2 : (own_E d.toInt (8 : Int32).toInt.toNat 2 : Int) = (d.toInt / 100000 % 10) := own_Di d.toInt 2
    have y3 : (own_E d.toInt (8 : Int32).toInt.toNat 3 : Int) = (d.toInt / 10000 % 10) := own_Di d.toInt 3
    have y4 : (own_E d.toInt (8 : Int32).toInt.toNat 4 : Int) = (d.toInt / 1000 % 10) := own_Di d.toInt 4
    have y5 : (own_E d.toInt (8 : Int32).toInt.toNat 5 : Int) = (d.toInt / 100 % 10) := own_Di d.toInt 5
    have y6 : (own_E d.toInt (8 : Int32).toInt.toNat 6 : Int) = (d.toInt / 10 % 10) := own_Di d.toInt 6
    have y7 : (own_E d.toInt (8 : Int32).toInt.toNat 7 : Int) = (d.toInt / 1 % 10) := own_Di d.toInt 7
    rw [y0, y1, y2, y3, y4, y5, y6, y7]
    omega
theorem own_pnz (i : Int) : own_pow i ≠ 0 := by
  unfold own_pow
  repeat' split
  all_goals decide

theorem pd_0 : parseMethodDescriptor "(JJI)J" = some ⟨[.long, .long, .int], some .long⟩ := by decide +kernel
theorem pd_1 : parseMethodDescriptor "(JI)J" = some ⟨[.long, .int], some .long⟩ := by decide +kernel
theorem d1_0 : decode method_3_code 0 = .ok (.ldc2_w 37, 3) := by decide +kernel
theorem d1_3 : decode method_3_code 3 = .ok (.lload_n 0, 1) := by decide +kernel
theorem d1_4 : decode method_3_code 4 = .ok (.lload_n 2, 1) := by decide +kernel
theorem d1_5 : decode method_3_code 5 = .ok (.ldiv, 1) := by decide +kernel
theorem d1_6 : decode method_3_code 6 = .ok (.ldc2_w 9, 3) := by decide +kernel
theorem d1_9 : decode method_3_code 9 = .ok (.lrem, 1) := by decide +kernel
theorem d1_10 : decode method_3_code 10 = .ok (.ladd, 1) := by decide +kernel
theorem d1_11 : decode method_3_code 11 = .ok (.bipush 8, 2) := by decide +kernel
theorem d1_13 : decode method_3_code 13 = .ok (.iload 4, 2) := by decide +kernel
theorem d1_15 : decode method_3_code 15 = .ok (.imul, 1) := by decide +kernel
theorem d1_16 : decode method_3_code 16 = .ok (.lshl, 1) := by decide +kernel
theorem d1_17 : decode method_3_code 17 = .ok (.lreturn, 1) := by decide +kernel
theorem pn_1 : plainName "com/example/tracefold/tracefold/trace/WordsDigitsValuePinLaw" = true := by first | (simp [plainName, overriddenIn]; done) | decide +kernel
theorem ef_1 (m : MethodId) (q0 : Int64) (q1 : Int64) (p2 : Int32) : entryFrame m #[.long q0, .long q1, .int p2] 5 = mkF m 0 #[.val (.long q0), .second, .val (.long q1), .second, .val (.int p2)] [] := by first | (simp [entryFrame, mkF, argsToLocals, Value.category]; done) | rfl
set_option maxRecDepth 65536 in
set_option maxHeartbeats 40000000 in
theorem ct_1 (l : Launch) (Z : State) (a0 : Array Value) (hw : ∀ d ∈ tables_1, d.before a0 Z = true) {h0 : Heap} {n0 : Nat} (zs : n0 ≤ h0.size) (q0 : Int64) (q1 : Int64) (p2 : Int32) (hp : q1 ≠ 0) :
    CtK l Z (⟨"com/example/tracefold/tracefold/trace/WordsDigitsValuePinLaw", "byteAt", "(JJI)J"⟩ : MethodName) method_3_code 5 (some .long) ({ frames := 0, cells := 0, slots := 0, locals := 0 } : Room) #[.long q0, .long q1, .int p2] h0 n0 (QJ (fun z h => z = ((48 + q0 / q1 % 10) <<< ((8 * p2) &&& 0x3f).toInt64) ∧ h = h0)) := by
  refine CtK.of (plainFor_of_name pn_1) ?_
  intro p e s m below meth c T0 X0 hx hZ hby hml hown hnm hret hlk
  refine GoK.entry (ef_1 m q0 q1 p2) ?_
  replace hown : s.vm.findClass "com/example/tracefold/tracefold/trace/WordsDigitsValuePinLaw" = some m.cls := hown
  refine go_ldc2 (pc' := 3) X0 hx hZ hown (hw _ (List.mem_of_getElem? (i := 14) rfl)) (hb hby d1_0) rfl ?_
  refine go_lloadN (pc' := 4) X0 hx (hb hby d1_3) rfl rfl ?_
  refine go_lloadN (pc' := 5) X0 hx (hb hby d1_4) rfl rfl ?_
  refine go_ldiv (pc' := 6) X0 hx (hb hby d1_5) rfl hp ?_
  refine go_ldc2 (pc' := 9) X0 hx hZ hown (hw _ (List.mem_of_getElem? (i := 3) rfl)) (hb hby d1_6) rfl ?_
  refine go_lrem (pc' := 10) X0 hx (hb hby d1_9) rfl (by decide) ?_
  refine go_ladd (pc' := 11) X0 hx (hb hby d1_10) rfl ?_
  refine go_bipush (pc' := 13) (v := 8) X0 hx (hb hby d1_11) rfl rfl ?_
  refine go_iload (pc' := 15) X0 hx (hb hby d1_13) rfl rfl ?_
  refine go_imul (pc' := 16) X0 hx (hb hby d1_15) rfl ?_
  refine go_lshl (pc' := 17) X0 hx (hb hby d1_16) rfl ?_
  refine go_retJ X0 hx hret hlk (hb hby d1_17) (by decide) (by decide) ?_
  exact ⟨rfl, rfl⟩
theorem d2_0 : decode prog_187_method_10_code 0 = .ok (.iload_n 2, 1) := by decide +kernel
theorem d2_1 : decode prog_187_method_10_code 1 = .ok (.bipush 8, 2) := by decide +kernel
theorem d2_3 : decode prog_187_method_10_code 3 = .ok (.if_icmp .ne 7, 3) := by decide +kernel
theorem d2_6 : decode prog_187_method_10_code 6 = .ok (.lload_n 0, 1) := by decide +kernel
theorem d2_7 : decode prog_187_method_10_code 7 = .ok (.goto 21, 3) := by decide +kernel
theorem d2_10 : decode prog_187_method_10_code 10 = .ok (.lload_n 0, 1) := by decide +kernel
theorem d2_11 : decode prog_187_method_10_code 11 = .ok (.bipush 8, 2) := by decide +kernel
theorem d2_13 : decode prog_187_method_10_code 13 = .ok (.bipush 8, 2) := by decide +kernel
theorem d2_15 : decode prog_187_method_10_code 15 = .ok (.iload_n 2, 1) := by decide +kernel
theorem d2_16 : decode prog_187_method_10_code 16 = .ok (.isub, 1) := by decide +kernel
theorem d2_17 : decode prog_187_method_10_code 17 = .ok (.imul, 1) := by decide +kernel
theorem d2_18 : decode prog_187_method_10_code 18 = .ok (.lshl, 1) := by decide +kernel
theorem d2_19 : decode prog_187_method_10_code 19 = .ok (.ldc2_w 40, 3) := by decide +kernel
theorem d2_22 : decode prog_187_method_10_code 22 = .ok (.bipush 8, 2) := by decide +kernel
theorem d2_24 : decode prog_187_method_10_code 24 = .ok (.iload_n 2, 1) := by decide +kernel
theorem d2_25 : decode prog_187_method_10_code 25 = .ok (.imul, 1) := by decide +kernel
theorem d2_26 : decode prog_187_method_10_code 26 = .ok (.lushr, 1) := by decide +kernel
theorem d2_27 : decode prog_187_method_10_code 27 = .ok (.lor, 1) := by decide +kernel
theorem d2_28 : decode prog_187_method_10_code 28 = .ok (.lstore_n 3, 1) := by decide +kernel
theorem d2_29 : decode prog_187_method_10_code 29 = .ok (.lload_n 3, 1) := by decide +kernel
theorem d2_30 : decode prog_187_method_10_code 30 = .ok (.ldc2_w 40, 3) := by decide +kernel
theorem d2_33 : decode prog_187_method_10_code 33 = .ok (.lsub, 1) := by decide +kernel
theorem d2_34 : decode prog_187_method_10_code 34 = .ok (.lstore 5, 2) := by decide +kernel
theorem d2_36 : decode prog_187_method_10_code 36 = .ok (.lload 5, 2) := by decide +kernel
theorem d2_38 : decode prog_187_method_10_code 38 = .ok (.ldc2_w 46, 3) := by decide +kernel
theorem d2_41 : decode prog_187_method_10_code 41 = .ok (.lmul, 1) := by decide +kernel
theorem d2_42 : decode prog_187_method_10_code 42 = .ok (.lload 5, 2) := by decide +kernel
theorem d2_44 : decode prog_187_method_10_code 44 = .ok (.bipush 8, 2) := by decide +kernel
theorem d2_46 : decode prog_187_method_10_code 46 = .ok (.lushr, 1) := by decide +kernel
theorem d2_47 : decode prog_187_method_10_code 47 = .ok (.ladd, 1) := by decide +kernel
theorem d2_48 : decode prog_187_method_10_code 48 = .ok (.ldc2_w 48, 3) := by decide +kernel
theorem d2_51 : decode prog_187_method_10_code 51 = .ok (.land, 1) := by decide +kernel
theorem d2_52 : decode prog_187_method_10_code 52 = .ok (.lstore 7, 2) := by decide +kernel
theorem d2_54 : decode prog_187_method_10_code 54 = .ok (.lload 7, 2) := by decide +kernel
theorem d2_56 : decode prog_187_method_10_code 56 = .ok (.ldc2_w 50, 3) := by decide +kernel
theorem d2_59 : decode prog_187_method_10_code 59 = .ok (.lmul, 1) := by decide +kernel
theorem d2_60 : decode prog_187_method_10_code 60 = .ok (.lload 7, 2) := by decide +kernel
theorem d2_62 : decode prog_187_method_10_code 62 = .ok (.bipush 16, 2) := by decide +kernel
theorem d2_64 : decode prog_187_method_10_code 64 = .ok (.lushr, 1) := by decide +kernel
theorem d2_65 : decode prog_187_method_10_code 65 = .ok (.ladd, 1) := by decide +kernel
theorem d2_66 : decode prog_187_method_10_code 66 = .ok (.ldc2_w 52, 3) := by decide +kernel
theorem d2_69 : decode prog_187_method_10_code 69 = .ok (.land, 1) := by decide +kernel
theorem d2_70 : decode prog_187_method_10_code 70 = .ok (.lstore 9, 2) := by decide +kernel
theorem d2_72 : decode prog_187_method_10_code 72 = .ok (.lload 9, 2) := by decide +kernel
theorem d2_74 : decode prog_187_method_10_code 74 = .ok (.ldc2_w 54, 3) := by decide +kernel
theorem d2_77 : decode prog_187_method_10_code 77 = .ok (.lmul, 1) := by decide +kernel
theorem d2_78 : decode prog_187_method_10_code 78 = .ok (.lload 9, 2) := by decide +kernel
theorem d2_80 : decode prog_187_method_10_code 80 = .ok (.bipush 32, 2) := by decide +kernel
theorem d2_82 : decode prog_187_method_10_code 82 = .ok (.lushr, 1) := by decide +kernel
theorem d2_83 : decode prog_187_method_10_code 83 = .ok (.ladd, 1) := by decide +kernel
theorem d2_84 : decode prog_187_method_10_code 84 = .ok (.ldc2_w 56, 3) := by decide +kernel
theorem d2_87 : decode prog_187_method_10_code 87 = .ok (.land, 1) := by decide +kernel
theorem d2_88 : decode prog_187_method_10_code 88 = .ok (.lreturn, 1) := by decide +kernel
theorem pn_2 : plainName "com/example/tracefold/tracefold/trace/Words" = true := by first | (simp [plainName, overriddenIn]; done) | decide +kernel
theorem ef_2 (m : MethodId) (q0 : Int64) (p1 : Int32) : entryFrame m #[.long q0, .int p1] 11 = mkF m 0 #[.val (.long q0), .second, .val (.int p1), .unset, .unset, .unset, .unset, .unset, .unset, .unset, .unset] [] := by first | (simp [entryFrame, mkF, argsToLocals, Value.category]; done) | rfl
set_option maxRecDepth 65536 in
set_option maxHeartbeats 40000000 in
theorem ct_2 (l : Launch) (Z : State) (a0 : Array Value) (hw : ∀ d ∈ tables_1, d.before a0 Z = true) {h0 : Heap} {n0 : Nat} (zs : n0 ≤ h0.size) (q0 : Int64) (p1 : Int32) (e0 e1 e2 e3 e4 e5 e6 e7 : Nat) (b0 : e0 ≤ 9) (b1 : e1 ≤ 9) (b2 : e2 ≤ 9) (b3 : e3 ≤ 9) (b4 : e4 ≤ 9) (b5 : e5 ≤ 9) (b6 : e6 ≤ 9) (b7 : e7 ≤ 9) (hpad : (if p1 = 8 then q0 else ((q0 <<< ((8 * (8 - p1)) &&& 0x3f).toInt64) ||| (((3472328296227680304 : Int64).toUInt64 >>> ((8 * p1) &&& 0x3f).toInt64.toUInt64).toInt64))).toInt = (48 + (e0 : Int)) * 1 + (48 + (e1 : Int)) * 256 + (48 + (e2 : Int)) * 65536 + (48 + (e3 : Int)) * 16777216 + (48 + (e4 : Int)) * 4294967296 + (48 + (e5 : Int)) * 1099511627776 + (48 + (e6 : Int)) * 281474976710656 + (48 + (e7 : Int)) * 72057594037927936) :
    CtK l Z (⟨"com/example/tracefold/tracefold/trace/Words", "digitsValue", "(JI)J"⟩ : MethodName) prog_187_method_10_code 11 (some .long) ({ frames := 0, cells := 0, slots := 0, locals := 0 } : Room) #[.long q0, .int p1] h0 n0 (QJ (fun z h => z.toInt = (e0 : Int) * 10000000 + (e1 : Int) * 1000000 + (e2 : Int) * 100000 + (e3 : Int) * 10000 + (e4 : Int) * 1000 + (e5 : Int) * 100 + (e6 : Int) * 10 + (e7 : Int) * 1 ∧ h = h0)) := by
  refine CtK.of (plainFor_of_name pn_2) ?_
  intro p e s m below meth c T0 X0 hx hZ hby hml hown hnm hret hlk
  refine GoK.entry (ef_2 m q0 p1) ?_
  replace hown : s.vm.findClass "com/example/tracefold/tracefold/trace/Words" = some m.cls := hown
  refine go_iloadN (pc' := 1) X0 hx (hb hby d2_0) rfl rfl ?_
  refine go_bipush (pc' := 3) (v := 8) X0 hx (hb hby d2_1) rfl rfl ?_
  refine go_icmpne (pc' := 6) (pcT := 10) X0 hx (hb hby d2_3) rfl (by decide) (by decide) (fun c3 => ?_) (fun c3 => ?_)
  · refine go_lloadN (pc' := 11) X0 hx (hb hby d2_10) rfl rfl ?_
    refine go_bipush (pc' := 13) (v := 8) X0 hx (hb hby d2_11) rfl rfl ?_
    refine go_bipush (pc' := 15) (v := 8) X0 hx (hb hby d2_13) rfl rfl ?_
    refine go_iloadN (pc' := 16) X0 hx (hb hby d2_15) rfl rfl ?_
    refine go_isub (pc' := 17) X0 hx (hb hby d2_16) rfl ?_
    refine go_imul (pc' := 18) X0 hx (hb hby d2_17) rfl ?_
    refine go_lshl (pc' := 19) X0 hx (hb hby d2_18) rfl ?_
    refine go_ldc2 (pc' := 22) X0 hx hZ hown (hw _ (List.mem_of_getElem? (i := 20) rfl)) (hb hby d2_19) rfl ?_
    refine go_bipush (pc' := 24) (v := 8) X0 hx (hb hby d2_22) rfl rfl ?_
    refine go_iloadN (pc' := 25) X0 hx (hb hby d2_24) rfl rfl ?_
    refine go_imul (pc' := 26) X0 hx (hb hby d2_25) rfl ?_
    refine go_lushr (pc' := 27) X0 hx (hb hby d2_26) rfl ?_
    refine go_lor (pc' := 28) X0 hx (hb hby d2_27) rfl ?_
    refine go_nameJ (fun v3_28_t hv3_28_t => ?_)
    refine go_lstoreN (pc' := 29) (L' := #[.val (.long q0), .second, .val (.int p1), .val (.long v3_28_t), .second, .unset, .unset, .unset, .unset, .unset, .unset]) X0 hx (hb hby d2_28) rfl rfl ?_
    refine go_lloadN (pc' := 30) X0 hx (hb hby d2_29) rfl rfl ?_
    refine go_ldc2 (pc' := 33) X0 hx hZ hown (hw _ (List.mem_of_getElem? (i := 20) rfl)) (hb hby d2_30) rfl ?_
    refine go_lsub (pc' := 34) X0 hx (hb hby d2_33) rfl ?_
    refine go_nameJ (fun v5_34_t hv5_34_t => ?_)
    refine go_lstore (pc' := 36) (L' := #[.val (.long q0), .second, .val (.int p1), .val (.long v3_28_t), .second, .val (.long v5_34_t), .second, .unset, .unset, .unset, .unset]) X0 hx (hb hby d2_34) rfl rfl ?_
    refine go_lload (pc' := 38) X0 hx (hb hby d2_36) rfl rfl ?_
    refine go_ldc2 (pc' := 41) X0 hx hZ hown (hw _ (List.mem_of_getElem? (i := 21) rfl)) (hb hby d2_38) rfl ?_
    refine go_lmul (pc' := 42) X0 hx (hb hby d2_41) rfl ?_
    refine go_lload (pc' := 44) X0 hx (hb hby d2_42) rfl rfl ?_
    refine go_bipush (pc' := 46) (v := 8) X0 hx (hb hby d2_44) rfl rfl ?_
    refine go_lushr (pc' := 47) X0 hx (hb hby d2_46) rfl ?_
    refine go_ladd (pc' := 48) X0 hx (hb hby d2_47) rfl ?_
    refine go_ldc2 (pc' := 51) X0 hx hZ hown (hw _ (List.mem_of_getElem? (i := 22) rfl)) (hb hby d2_48) rfl ?_
    refine go_land (pc' := 52) X0 hx (hb hby d2_51) rfl ?_
    refine go_nameJ (fun v7_52_t hv7_52_t => ?_)
    refine go_lstore (pc' := 54) (L' := #[.val (.long q0), .second, .val (.int p1), .val (.long v3_28_t), .second, .val (.long v5_34_t), .second, .val (.long v7_52_t), .second, .unset, .unset]) X0 hx (hb hby d2_52) rfl rfl ?_
    refine go_lload (pc' := 56) X0 hx (hb hby d2_54) rfl rfl ?_
    refine go_ldc2 (pc' := 59) X0 hx hZ hown (hw _ (List.mem_of_getElem? (i := 23) rfl)) (hb hby d2_56) rfl ?_
    refine go_lmul (pc' := 60) X0 hx (hb hby d2_59) rfl ?_
    refine go_lload (pc' := 62) X0 hx (hb hby d2_60) rfl rfl ?_
    refine go_bipush (pc' := 64) (v := 16) X0 hx (hb hby d2_62) rfl rfl ?_
    refine go_lushr (pc' := 65) X0 hx (hb hby d2_64) rfl ?_
    refine go_ladd (pc' := 66) X0 hx (hb hby d2_65) rfl ?_
    refine go_ldc2 (pc' := 69) X0 hx hZ hown (hw _ (List.mem_of_getElem? (i := 24) rfl)) (hb hby d2_66) rfl ?_
    refine go_land (pc' := 70) X0 hx (hb hby d2_69) rfl ?_
    refine go_nameJ (fun v9_70_t hv9_70_t => ?_)
    refine go_lstore (pc' := 72) (L' := #[.val (.long q0), .second, .val (.int p1), .val (.long v3_28_t), .second, .val (.long v5_34_t), .second, .val (.long v7_52_t), .second, .val (.long v9_70_t), .second]) X0 hx (hb hby d2_70) rfl rfl ?_
    refine go_lload (pc' := 74) X0 hx (hb hby d2_72) rfl rfl ?_
    refine go_ldc2 (pc' := 77) X0 hx hZ hown (hw _ (List.mem_of_getElem? (i := 25) rfl)) (hb hby d2_74) rfl ?_
    refine go_lmul (pc' := 78) X0 hx (hb hby d2_77) rfl ?_
    refine go_lload (pc' := 80) X0 hx (hb hby d2_78) rfl rfl ?_
    refine go_bipush (pc' := 82) (v := 32) X0 hx (hb hby d2_80) rfl rfl ?_
    refine go_lushr (pc' := 83) X0 hx (hb hby d2_82) rfl ?_
    refine go_ladd (pc' := 84) X0 hx (hb hby d2_83) rfl ?_
    refine go_ldc2 (pc' := 87) X0 hx hZ hown (hw _ (List.mem_of_getElem? (i := 26) rfl)) (hb hby d2_84) rfl ?_
    refine go_land (pc' := 88) X0 hx (hb hby d2_87) rfl ?_
    refine go_retJ X0 hx hret hlk (hb hby d2_88) (by decide) (by decide) ?_
    refine ⟨?_, rfl⟩
    have hP : v3_28_t.toInt = (48 + (e0 : Int)) * 1 + (48 + (e1 : Int)) * 256 + (48 + (e2 : Int)) * 65536 + (48 + (e3 : Int)) * 16777216 + (48 + (e4 : Int)) * 4294967296 + (48 + (e5 : Int)) * 1099511627776 + (48 + (e6 : Int)) * 281474976710656 + (48 + (e7 : Int)) * 72057594037927936 := by
      rw [← hpad, if_neg c3]; rw [hv3_28_t]
    exact own_swar e0 e1 e2 e3 e4 e5 e6 e7 b0 b1 b2 b3 b4 b5 b6 b7 hP hv5_34_t hv7_52_t hv9_70_t rfl
  · refine go_lloadN (pc' := 7) X0 hx (hb hby d2_6) rfl rfl ?_
    refine go_goto (pc' := 28) X0 hx (hb hby d2_7) (by decide) (by decide) ?_
    refine go_lstoreN (pc' := 29) (L' := #[.val (.long q0), .second, .val (.int p1), .val (.long q0), .second, .unset, .unset, .unset, .unset, .unset, .unset]) X0 hx (hb hby d2_28) rfl rfl ?_
    refine go_lloadN (pc' := 30) X0 hx (hb hby d2_29) rfl rfl ?_
    refine go_ldc2 (pc' := 33) X0 hx hZ hown (hw _ (List.mem_of_getElem? (i := 20) rfl)) (hb hby d2_30) rfl ?_
    refine go_lsub (pc' := 34) X0 hx (hb hby d2_33) rfl ?_
    refine go_nameJ (fun v5_34_f hv5_34_f => ?_)
    refine go_lstore (pc' := 36) (L' := #[.val (.long q0), .second, .val (.int p1), .val (.long q0), .second, .val (.long v5_34_f), .second, .unset, .unset, .unset, .unset]) X0 hx (hb hby d2_34) rfl rfl ?_
    refine go_lload (pc' := 38) X0 hx (hb hby d2_36) rfl rfl ?_
    refine go_ldc2 (pc' := 41) X0 hx hZ hown (hw _ (List.mem_of_getElem? (i := 21) rfl)) (hb hby d2_38) rfl ?_
    refine go_lmul (pc' := 42) X0 hx (hb hby d2_41) rfl ?_
    refine go_lload (pc' := 44) X0 hx (hb hby d2_42) rfl rfl ?_
    refine go_bipush (pc' := 46) (v := 8) X0 hx (hb hby d2_44) rfl rfl ?_
    refine go_lushr (pc' := 47) X0 hx (hb hby d2_46) rfl ?_
    refine go_ladd (pc' := 48) X0 hx (hb hby d2_47) rfl ?_
    refine go_ldc2 (pc' := 51) X0 hx hZ hown (hw _ (List.mem_of_getElem? (i := 22) rfl)) (hb hby d2_48) rfl ?_
    refine go_land (pc' := 52) X0 hx (hb hby d2_51) rfl ?_
    refine go_nameJ (fun v7_52_f hv7_52_f => ?_)
    refine go_lstore (pc' := 54) (L' := #[.val (.long q0), .second, .val (.int p1), .val (.long q0), .second, .val (.long v5_34_f), .second, .val (.long v7_52_f), .second, .unset, .unset]) X0 hx (hb hby d2_52) rfl rfl ?_
    refine go_lload (pc' := 56) X0 hx (hb hby d2_54) rfl rfl ?_
    refine go_ldc2 (pc' := 59) X0 hx hZ hown (hw _ (List.mem_of_getElem? (i := 23) rfl)) (hb hby d2_56) rfl ?_
    refine go_lmul (pc' := 60) X0 hx (hb hby d2_59) rfl ?_
    refine go_lload (pc' := 62) X0 hx (hb hby d2_60) rfl rfl ?_
    refine go_bipush (pc' := 64) (v := 16) X0 hx (hb hby d2_62) rfl rfl ?_
    refine go_lushr (pc' := 65) X0 hx (hb hby d2_64) rfl ?_
    refine go_ladd (pc' := 66) X0 hx (hb hby d2_65) rfl ?_
    refine go_ldc2 (pc' := 69) X0 hx hZ hown (hw _ (List.mem_of_getElem? (i := 24) rfl)) (hb hby d2_66) rfl ?_
    refine go_land (pc' := 70) X0 hx (hb hby d2_69) rfl ?_
    refine go_nameJ (fun v9_70_f hv9_70_f => ?_)
    refine go_lstore (pc' := 72) (L' := #[.val (.long q0), .second, .val (.int p1), .val (.long q0), .second, .val (.long v5_34_f), .second, .val (.long v7_52_f), .second, .val (.long v9_70_f), .second]) X0 hx (hb hby d2_70) rfl rfl ?_
    refine go_lload (pc' := 74) X0 hx (hb hby d2_72) rfl rfl ?_
    refine go_ldc2 (pc' := 77) X0 hx hZ hown (hw _ (List.mem_of_getElem? (i := 25) rfl)) (hb hby d2_74) rfl ?_
    refine go_lmul (pc' := 78) X0 hx (hb hby d2_77) rfl ?_
    refine go_lload (pc' := 80) X0 hx (hb hby d2_78) rfl rfl ?_
    refine go_bipush (pc' := 82) (v := 32) X0 hx (hb hby d2_80) rfl rfl ?_
    refine go_lushr (pc' := 83) X0 hx (hb hby d2_82) rfl ?_
    refine go_ladd (pc' := 84) X0 hx (hb hby d2_83) rfl ?_
    refine go_ldc2 (pc' := 87) X0 hx hZ hown (hw _ (List.mem_of_getElem? (i := 26) rfl)) (hb hby d2_84) rfl ?_
    refine go_land (pc' := 88) X0 hx (hb hby d2_87) rfl ?_
    refine go_retJ X0 hx hret hlk (hb hby d2_88) (by decide) (by decide) ?_
    refine ⟨?_, rfl⟩
    have hP : q0.toInt = (48 + (e0 : Int)) * 1 + (48 + (e1 : Int)) * 256 + (48 + (e2 : Int)) * 65536 + (48 + (e3 : Int)) * 16777216 + (48 + (e4 : Int)) * 4294967296 + (48 + (e5 : Int)) * 1099511627776 + (48 + (e6 : Int)) * 281474976710656 + (48 + (e7 : Int)) * 72057594037927936 := by
      rw [← hpad, if_pos c3]
    exact own_swar e0 e1 e2 e3 e4 e5 e6 e7 b0 b1 b2 b3 b4 b5 b6 b7 hP hv5_34_f hv7_52_f hv9_70_f rfl
theorem pn_0 : plainName "com/example/tracefold/tracefold/trace/WordsDigitsValuePinLaw" = true := by first | (simp [plainName, overriddenIn]; done) | decide +kernel
theorem ef_0 (m : MethodId) (p0 : Int32) (p1 : Int32) (q2 : Int64) : entryFrame m #[.int p0, .int p1, .long q2] maxLocals = mkF m 0 #[.val (.int p0), .val (.int p1), .val (.long q2), .second, .unset, .unset, .unset, .unset, .unset, .unset, .unset, .unset, .unset, .unset, .unset, .unset] [] := by first | (simp [entryFrame, mkF, argsToLocals, Value.category, maxLocals]; done) | rfl
set_option maxRecDepth 65536 in
set_option maxHeartbeats 40000000 in
theorem ct_0 (l : Launch) (Z : State) (a0 : Array Value) (hw : ∀ d ∈ tables_1, d.before a0 Z = true) {h0 : Heap} {n0 : Nat} (zs : n0 ≤ h0.size) (p0 : Int32) (p1 : Int32) (q2 : Int64)  :
    CtK l Z x code maxLocals ret room_1 #[.int p0, .int p1, .long q2] h0 n0 (QI (fun z _ => z = 1)) := by
  refine CtK.of (plainFor_of_name pn_0) ?_
  intro p e s m below meth c T0 X0 hx hZ hby hml hown hnm hret hlk
  refine GoK.entry (ef_0 m p0 p1 q2) ?_
  replace hml : c.maxLocals = 16 := hml
  replace hown : s.vm.findClass "com/example/tracefold/tracefold/trace/WordsDigitsValuePinLaw" = some m.cls := hown
  refine go_iloadN (pc' := 1) X0 hx (hb hby at_0) rfl rfl ?_
  refine go_ldcI (pc' := 3) X0 hx hZ hown (hw _ (List.mem_of_getElem? (i := 0) rfl)) (hb hby at_1) rfl ?_
  refine go_iand (pc' := 4) X0 hx (hb hby at_3) rfl ?_
  refine go_ldcI (pc' := 6) X0 hx hZ hown (hw _ (List.mem_of_getElem? (i := 1) rfl)) (hb hby at_4) rfl ?_
  refine go_irem (pc' := 7) X0 hx (hb hby at_6) rfl (by decide) ?_
  refine go_i2l (pc' := 8) X0 hx (hb hby at_7) rfl ?_
  refine go_nameJ (fun v4_8 hv4_8 => ?_)
  refine go_lstore (pc' := 10) (L' := #[.val (.int p0), .val (.int p1), .val (.long q2), .second, .val (.long v4_8), .second, .unset, .unset, .unset, .unset, .unset, .unset, .unset, .unset, .unset, .unset]) X0 hx (hb hby at_8) rfl rfl ?_
  refine go_iloadN (pc' := 11) X0 hx (hb hby at_10) rfl rfl ?_
  refine go_ldcI (pc' := 13) X0 hx hZ hown (hw _ (List.mem_of_getElem? (i := 0) rfl)) (hb hby at_11) rfl ?_
  refine go_iand (pc' := 14) X0 hx (hb hby at_13) rfl ?_
  refine go_bipush (pc' := 16) (v := 8) X0 hx (hb hby at_14) rfl rfl ?_
  refine go_irem (pc' := 17) X0 hx (hb hby at_16) rfl (by decide) ?_
  refine go_iconst (pc' := 18) (v := 1) X0 hx (hb hby at_17) rfl rfl ?_
  refine go_iadd (pc' := 19) X0 hx (hb hby at_18) rfl ?_
  refine go_nameI (fun v6_19 hv6_19 => ?_)
  refine go_istore (pc' := 21) (L' := #[.val (.int p0), .val (.int p1), .val (.long q2), .second, .val (.long v4_8), .second, .val (.int v6_19), .unset, .unset, .unset, .unset, .unset, .unset, .unset, .unset, .unset]) X0 hx (hb hby at_19) rfl rfl ?_
  obtain ⟨hd0, hd1⟩ := own_dr hv4_8
  obtain ⟨cn1, cn2⟩ := own_cnt hv6_19
  refine go_bipush (pc' := 23) (v := 8) X0 hx (hb hby at_21) rfl rfl ?_
  refine go_newJ (pc' := 25) (cap := 8) (n := 8) (cells' := 1) (slots' := 8) X0 hx hZ (hw _ (List.mem_of_getElem? (i := 2) rfl)) (hb hby at_23) rfl rfl (by decide) (by decide) (by decide) (by decide) (by decide) rfl rfl (fun T1 h1 b1 eb1 X1 E1 A_b1 => ?_)
  have g_b1 : n0 ≤ b1 := by rw [eb1]; exact zs
  have zs := Nat.le_trans zs E1.1
  refine go_dup (pc' := 26) X1 hx (hb hby at_25) rfl rfl ?_
  refine go_iconst (pc' := 27) (v := 0) X1 hx (hb hby at_26) rfl rfl ?_
  refine go_lconst (pc' := 28) (v := 1) X1 hx (hb hby at_27) rfl rfl ?_
  refine go_lastore (pc' := 29) X1 hx hZ A_b1 g_b1 (by decide) (by decide) (hb hby at_28) rfl (fun T2 h2 X2 W2 A_b1 => ?_)
  have zs := Nat.le_trans zs (Nat.le_of_eq W2.size.symm)
  refine go_dup (pc' := 30) X2 hx (hb hby at_29) rfl rfl ?_
  refine go_iconst (pc' := 31) (v := 1) X2 hx (hb hby at_30) rfl rfl ?_
  refine go_ldc2 (pc' := 34) X2 hx hZ hown (hw _ (List.mem_of_getElem? (i := 3) rfl)) (hb hby at_31) rfl ?_
  refine go_lastore (pc' := 35) X2 hx hZ A_b1 g_b1 (by decide) (by decide) (hb hby at_34) rfl (fun T3 h3 X3 W3 A_b1 => ?_)
  have zs := Nat.le_trans zs (Nat.le_of_eq W3.size.symm)
  refine go_dup (pc' := 36) X3 hx (hb hby at_35) rfl rfl ?_
  refine go_iconst (pc' := 37) (v := 2) X3 hx (hb hby at_36) rfl rfl ?_
  refine go_ldc2 (pc' := 40) X3 hx hZ hown (hw _ (List.mem_of_getElem? (i := 4) rfl)) (hb hby at_37) rfl ?_
  refine go_lastore (pc' := 41) X3 hx hZ A_b1 g_b1 (by decide) (by decide) (hb hby at_40) rfl (fun T4 h4 X4 W4 A_b1 => ?_)
  have zs := Nat.le_trans zs (Nat.le_of_eq W4.size.symm)
  refine go_dup (pc' := 42) X4 hx (hb hby at_41) rfl rfl ?_
  refine go_iconst (pc' := 43) (v := 3) X4 hx (hb hby at_42) rfl rfl ?_
  refine go_ldc2 (pc' := 46) X4 hx hZ hown (hw _ (List.mem_of_getElem? (i := 5) rfl)) (hb hby at_43) rfl ?_
  refine go_lastore (pc' := 47) X4 hx hZ A_b1 g_b1 (by decide) (by decide) (hb hby at_46) rfl (fun T5 h5 X5 W5 A_b1 => ?_)
  have zs := Nat.le_trans zs (Nat.le_of_eq W5.size.symm)
  refine go_dup (pc' := 48) X5 hx (hb hby at_47) rfl rfl ?_
  refine go_iconst (pc' := 49) (v := 4) X5 hx (hb hby at_48) rfl rfl ?_
  refine go_ldc2 (pc' := 52) X5 hx hZ hown (hw _ (List.mem_of_getElem? (i := 6) rfl)) (hb hby at_49) rfl ?_
  refine go_lastore (pc' := 53) X5 hx hZ A_b1 g_b1 (by decide) (by decide) (hb hby at_52) rfl (fun T6 h6 X6 W6 A_b1 => ?_)
  have zs := Nat.le_trans zs (Nat.le_of_eq W6.size.symm)
  refine go_dup (pc' := 54) X6 hx (hb hby at_53) rfl rfl ?_
  refine go_iconst (pc' := 55) (v := 5) X6 hx (hb hby at_54) rfl rfl ?_
  refine go_ldc2 (pc' := 58) X6 hx hZ hown (hw _ (List.mem_of_getElem? (i := 7) rfl)) (hb hby at_55) rfl ?_
  refine go_lastore (pc' := 59) X6 hx hZ A_b1 g_b1 (by decide) (by decide) (hb hby at_58) rfl (fun T7 h7 X7 W7 A_b1 => ?_)
  have zs := Nat.le_trans zs (Nat.le_of_eq W7.size.symm)
  refine go_dup (pc' := 60) X7 hx (hb hby at_59) rfl rfl ?_
  refine go_bipush (pc' := 62) (v := 6) X7 hx (hb hby at_60) rfl rfl ?_
  refine go_ldc2 (pc' := 65) X7 hx hZ hown (hw _ (List.mem_of_getElem? (i := 8) rfl)) (hb hby at_62) rfl ?_
  refine go_lastore (pc' := 66) X7 hx hZ A_b1 g_b1 (by decide) (by decide) (hb hby at_65) rfl (fun T8 h8 X8 W8 A_b1 => ?_)
  have zs := Nat.le_trans zs (Nat.le_of_eq W8.size.symm)
  refine go_dup (pc' := 67) X8 hx (hb hby at_66) rfl rfl ?_
  refine go_bipush (pc' := 69) (v := 7) X8 hx (hb hby at_67) rfl rfl ?_
  refine go_ldc2 (pc' := 72) X8 hx hZ hown (hw _ (List.mem_of_getElem? (i := 9) rfl)) (hb hby at_69) rfl ?_
  refine go_lastore (pc' := 73) X8 hx hZ A_b1 g_b1 (by decide) (by decide) (hb hby at_72) rfl (fun T9 h9 X9 W9 A_b1 => ?_)
  have zs := Nat.le_trans zs (Nat.le_of_eq W9.size.symm)
  refine go_astore (pc' := 75) (L' := #[.val (.int p0), .val (.int p1), .val (.long q2), .second, .val (.long v4_8), .second, .val (.int v6_19), .val (.ref b1), .unset, .unset, .unset, .unset, .unset, .unset, .unset, .unset]) X9 hx (hb hby at_73) rfl rfl ?_
  refine go_lload (pc' := 77) X9 hx (hb hby at_75) rfl rfl ?_
  refine go_aload (pc' := 79) X9 hx (hb hby at_77) rfl rfl ?_
  refine go_bipush (pc' := 81) (v := 7) X9 hx (hb hby at_79) rfl rfl ?_
  refine go_laload (pc' := 82) X9 hx hZ A_b1 (by decide) (by decide) (hb hby at_81) rfl (fun w81 hw81 => ?_)
  obtain rfl : w81 = (10000000 : Int64) := hw81.trans rfl
  refine go_iconst (pc' := 83) (v := 0) X9 hx (hb hby at_82) rfl rfl ?_
  refine go_callS (pc' := 86) (W := 0) (cells' := 1) (slots' := 8) (rm := ({ frames := 0, cells := 0, slots := 0, locals := 0 } : Room)) (aL := [.long v4_8, .long (10000000 : Int64), .int (0 : Int32)]) (St := []) X9 hx hZ hown (by rw [hml]; rfl) (hw _ (List.mem_of_getElem? (i := 10) rfl)) (hw _ (List.mem_of_getElem? (i := 11) rfl)) (hw _ (List.mem_of_getElem? (i := 12) rfl)) (hw _ (List.mem_of_getElem? (i := 13) rfl)) (by decide) pd_0 rfl (ct_1 l Z a0 hw zs v4_8 (10000000 : Int64) (0 : Int32) (by decide)) (hb hby at_83) rfl (by decide) (Nat.le_of_eq rfl) (by decide) (by decide) (by decide) rfl rfl (fun T10 h10 v10 X10 Q10 => ?_) rfl
  obtain ⟨z10, rfl, hz10, eh10⟩ := Q10
  subst h10
  show GoK p e below _ T10 (mkF m 86 #[.val (.int p0), .val (.int p1), .val (.long q2), .second, .val (.long v4_8), .second, .val (.int v6_19), .val (.ref b1), .unset, .unset, .unset, .unset, .unset, .unset, .unset, .unset] [.long z10])
  refine go_lload (pc' := 88) X10 hx (hb hby at_86) rfl rfl ?_
  refine go_aload (pc' := 90) X10 hx (hb hby at_88) rfl rfl ?_
  refine go_bipush (pc' := 92) (v := 6) X10 hx (hb hby at_90) rfl rfl ?_
  refine go_laload (pc' := 93) X10 hx hZ A_b1 (by decide) (by decide) (hb hby at_92) rfl (fun w92 hw92 => ?_)
  obtain rfl : w92 = (1000000 : Int64) := hw92.trans rfl
  refine go_iconst (pc' := 94) (v := 1) X10 hx (hb hby at_93) rfl rfl ?_
  refine go_callS (pc' := 97) (W := 2) (cells' := 1) (slots' := 8) (rm := ({ frames := 0, cells := 0, slots := 0, locals := 0 } : Room)) (aL := [.long v4_8, .long (1000000 : Int64), .int (1 : Int32)]) (St := [.long z10]) X10 hx hZ hown (by rw [hml]; rfl) (hw _ (List.mem_of_getElem? (i := 10) rfl)) (hw _ (List.mem_of_getElem? (i := 11) rfl)) (hw _ (List.mem_of_getElem? (i := 12) rfl)) (hw _ (List.mem_of_getElem? (i := 13) rfl)) (by decide) pd_0 rfl (ct_1 l Z a0 hw zs v4_8 (1000000 : Int64) (1 : Int32) (by decide)) (hb hby at_94) rfl (by decide) (Nat.le_of_eq rfl) (by decide) (by decide) (by decide) rfl rfl (fun T11 h11 v11 X11 Q11 => ?_) rfl
  obtain ⟨z11, rfl, hz11, eh11⟩ := Q11
  subst h11
  show GoK p e below _ T11 (mkF m 97 #[.val (.int p0), .val (.int p1), .val (.long q2), .second, .val (.long v4_8), .second, .val (.int v6_19), .val (.ref b1), .unset, .unset, .unset, .unset, .unset, .unset, .unset, .unset] [.long z11, .long z10])
  refine go_lor (pc' := 98) X11 hx (hb hby at_97) rfl ?_
  refine go_lload (pc' := 100) X11 hx (hb hby at_98) rfl rfl ?_
  refine go_aload (pc' := 102) X11 hx (hb hby at_100) rfl rfl ?_
  refine go_iconst (pc' := 103) (v := 5) X11 hx (hb hby at_102) rfl rfl ?_
  refine go_laload (pc' := 104) X11 hx hZ A_b1 (by decide) (by decide) (hb hby at_103) rfl (fun w103 hw103 => ?_)
  obtain rfl : w103 = (100000 : Int64) := hw103.trans rfl
  refine go_iconst (pc' := 105) (v := 2) X11 hx (hb hby at_104) rfl rfl ?_
  refine go_callS (pc' := 108) (W := 2) (cells' := 1) (slots' := 8) (rm := ({ frames := 0, cells := 0, slots := 0, locals := 0 } : Room)) (aL := [.long v4_8, .long (100000 : Int64), .int (2 : Int32)]) (St := [.long (z10 ||| z11)]) X11 hx hZ hown (by rw [hml]; rfl) (hw _ (List.mem_of_getElem? (i := 10) rfl)) (hw _ (List.mem_of_getElem? (i := 11) rfl)) (hw _ (List.mem_of_getElem? (i := 12) rfl)) (hw _ (List.mem_of_getElem? (i := 13) rfl)) (by decide) pd_0 rfl (ct_1 l Z a0 hw zs v4_8 (100000 : Int64) (2 : Int32) (by decide)) (hb hby at_105) rfl (by decide) (Nat.le_of_eq rfl) (by decide) (by decide) (by decide) rfl rfl (fun T12 h12 v12 X12 Q12 => ?_) rfl
  obtain ⟨z12, rfl, hz12, eh12⟩ := Q12
  subst h12
  show GoK p e below _ T12 (mkF m 108 #[.val (.int p0), .val (.int p1), .val (.long q2), .second, .val (.long v4_8), .second, .val (.int v6_19), .val (.ref b1), .unset, .unset, .unset, .unset, .unset, .unset, .unset, .unset] [.long z12, .long (z10 ||| z11)])
  refine go_lor (pc' := 109) X12 hx (hb hby at_108) rfl ?_
  refine go_lload (pc' := 111) X12 hx (hb hby at_109) rfl rfl ?_
  refine go_aload (pc' := 113) X12 hx (hb hby at_111) rfl rfl ?_
  refine go_iconst (pc' := 114) (v := 4) X12 hx (hb hby at_113) rfl rfl ?_
  refine go_laload (pc' := 115) X12 hx hZ A_b1 (by decide) (by decide) (hb hby at_114) rfl (fun w114 hw114 => ?_)
  obtain rfl : w114 = (10000 : Int64) := hw114.trans rfl
  refine go_iconst (pc' := 116) (v := 3) X12 hx (hb hby at_115) rfl rfl ?_
  refine go_callS (pc' := 119) (W := 2) (cells' := 1) (slots' := 8) (rm := ({ frames := 0, cells := 0, slots := 0, locals := 0 } : Room)) (aL := [.long v4_8, .long (10000 : Int64), .int (3 : Int32)]) (St := [.long ((z10 ||| z11) ||| z12)]) X12 hx hZ hown (by rw [hml]; rfl) (hw _ (List.mem_of_getElem? (i := 10) rfl)) (hw _ (List.mem_of_getElem? (i := 11) rfl)) (hw _ (List.mem_of_getElem? (i := 12) rfl)) (hw _ (List.mem_of_getElem? (i := 13) rfl)) (by decide) pd_0 rfl (ct_1 l Z a0 hw zs v4_8 (10000 : Int64) (3 : Int32) (by decide)) (hb hby at_116) rfl (by decide) (Nat.le_of_eq rfl) (by decide) (by decide) (by decide) rfl rfl (fun T13 h13 v13 X13 Q13 => ?_) rfl
  obtain ⟨z13, rfl, hz13, eh13⟩ := Q13
  subst h13
  show GoK p e below _ T13 (mkF m 119 #[.val (.int p0), .val (.int p1), .val (.long q2), .second, .val (.long v4_8), .second, .val (.int v6_19), .val (.ref b1), .unset, .unset, .unset, .unset, .unset, .unset, .unset, .unset] [.long z13, .long ((z10 ||| z11) ||| z12)])
  refine go_lor (pc' := 120) X13 hx (hb hby at_119) rfl ?_
  refine go_lload (pc' := 122) X13 hx (hb hby at_120) rfl rfl ?_
  refine go_aload (pc' := 124) X13 hx (hb hby at_122) rfl rfl ?_
  refine go_iconst (pc' := 125) (v := 3) X13 hx (hb hby at_124) rfl rfl ?_
  refine go_laload (pc' := 126) X13 hx hZ A_b1 (by decide) (by decide) (hb hby at_125) rfl (fun w125 hw125 => ?_)
  obtain rfl : w125 = (1000 : Int64) := hw125.trans rfl
  refine go_iconst (pc' := 127) (v := 4) X13 hx (hb hby at_126) rfl rfl ?_
  refine go_callS (pc' := 130) (W := 2) (cells' := 1) (slots' := 8) (rm := ({ frames := 0, cells := 0, slots := 0, locals := 0 } : Room)) (aL := [.long v4_8, .long (1000 : Int64), .int (4 : Int32)]) (St := [.long (((z10 ||| z11) ||| z12) ||| z13)]) X13 hx hZ hown (by rw [hml]; rfl) (hw _ (List.mem_of_getElem? (i := 10) rfl)) (hw _ (List.mem_of_getElem? (i := 11) rfl)) (hw _ (List.mem_of_getElem? (i := 12) rfl)) (hw _ (List.mem_of_getElem? (i := 13) rfl)) (by decide) pd_0 rfl (ct_1 l Z a0 hw zs v4_8 (1000 : Int64) (4 : Int32) (by decide)) (hb hby at_127) rfl (by decide) (Nat.le_of_eq rfl) (by decide) (by decide) (by decide) rfl rfl (fun T14 h14 v14 X14 Q14 => ?_) rfl
  obtain ⟨z14, rfl, hz14, eh14⟩ := Q14
  subst h14
  show GoK p e below _ T14 (mkF m 130 #[.val (.int p0), .val (.int p1), .val (.long q2), .second, .val (.long v4_8), .second, .val (.int v6_19), .val (.ref b1), .unset, .unset, .unset, .unset, .unset, .unset, .unset, .unset] [.long z14, .long (((z10 ||| z11) ||| z12) ||| z13)])
  refine go_lor (pc' := 131) X14 hx (hb hby at_130) rfl ?_
  refine go_lload (pc' := 133) X14 hx (hb hby at_131) rfl rfl ?_
  refine go_aload (pc' := 135) X14 hx (hb hby at_133) rfl rfl ?_
  refine go_iconst (pc' := 136) (v := 2) X14 hx (hb hby at_135) rfl rfl ?_
  refine go_laload (pc' := 137) X14 hx hZ A_b1 (by decide) (by decide) (hb hby at_136) rfl (fun w136 hw136 => ?_)
  obtain rfl : w136 = (100 : Int64) := hw136.trans rfl
  refine go_iconst (pc' := 138) (v := 5) X14 hx (hb hby at_137) rfl rfl ?_
  refine go_callS (pc' := 141) (W := 2) (cells' := 1) (slots' := 8) (rm := ({ frames := 0, cells := 0, slots := 0, locals := 0 } : Room)) (aL := [.long v4_8, .long (100 : Int64), .int (5 : Int32)]) (St := [.long ((((z10 ||| z11) ||| z12) ||| z13) ||| z14)]) X14 hx hZ hown (by rw [hml]; rfl) (hw _ (List.mem_of_getElem? (i := 10) rfl)) (hw _ (List.mem_of_getElem? (i := 11) rfl)) (hw _ (List.mem_of_getElem? (i := 12) rfl)) (hw _ (List.mem_of_getElem? (i := 13) rfl)) (by decide) pd_0 rfl (ct_1 l Z a0 hw zs v4_8 (100 : Int64) (5 : Int32) (by decide)) (hb hby at_138) rfl (by decide) (Nat.le_of_eq rfl) (by decide) (by decide) (by decide) rfl rfl (fun T15 h15 v15 X15 Q15 => ?_) rfl
  obtain ⟨z15, rfl, hz15, eh15⟩ := Q15
  subst h15
  show GoK p e below _ T15 (mkF m 141 #[.val (.int p0), .val (.int p1), .val (.long q2), .second, .val (.long v4_8), .second, .val (.int v6_19), .val (.ref b1), .unset, .unset, .unset, .unset, .unset, .unset, .unset, .unset] [.long z15, .long ((((z10 ||| z11) ||| z12) ||| z13) ||| z14)])
  refine go_lor (pc' := 142) X15 hx (hb hby at_141) rfl ?_
  refine go_lload (pc' := 144) X15 hx (hb hby at_142) rfl rfl ?_
  refine go_aload (pc' := 146) X15 hx (hb hby at_144) rfl rfl ?_
  refine go_iconst (pc' := 147) (v := 1) X15 hx (hb hby at_146) rfl rfl ?_
  refine go_laload (pc' := 148) X15 hx hZ A_b1 (by decide) (by decide) (hb hby at_147) rfl (fun w147 hw147 => ?_)
  obtain rfl : w147 = (10 : Int64) := hw147.trans rfl
  refine go_bipush (pc' := 150) (v := 6) X15 hx (hb hby at_148) rfl rfl ?_
  refine go_callS (pc' := 153) (W := 2) (cells' := 1) (slots' := 8) (rm := ({ frames := 0, cells := 0, slots := 0, locals := 0 } : Room)) (aL := [.long v4_8, .long (10 : Int64), .int (6 : Int32)]) (St := [.long (((((z10 ||| z11) ||| z12) ||| z13) ||| z14) ||| z15)]) X15 hx hZ hown (by rw [hml]; rfl) (hw _ (List.mem_of_getElem? (i := 10) rfl)) (hw _ (List.mem_of_getElem? (i := 11) rfl)) (hw _ (List.mem_of_getElem? (i := 12) rfl)) (hw _ (List.mem_of_getElem? (i := 13) rfl)) (by decide) pd_0 rfl (ct_1 l Z a0 hw zs v4_8 (10 : Int64) (6 : Int32) (by decide)) (hb hby at_150) rfl (by decide) (Nat.le_of_eq rfl) (by decide) (by decide) (by decide) rfl rfl (fun T16 h16 v16 X16 Q16 => ?_) rfl
  obtain ⟨z16, rfl, hz16, eh16⟩ := Q16
  subst h16
  show GoK p e below _ T16 (mkF m 153 #[.val (.int p0), .val (.int p1), .val (.long q2), .second, .val (.long v4_8), .second, .val (.int v6_19), .val (.ref b1), .unset, .unset, .unset, .unset, .unset, .unset, .unset, .unset] [.long z16, .long (((((z10 ||| z11) ||| z12) ||| z13) ||| z14) ||| z15)])
  refine go_lor (pc' := 154) X16 hx (hb hby at_153) rfl ?_
  refine go_lload (pc' := 156) X16 hx (hb hby at_154) rfl rfl ?_
  refine go_aload (pc' := 158) X16 hx (hb hby at_156) rfl rfl ?_
  refine go_iconst (pc' := 159) (v := 0) X16 hx (hb hby at_158) rfl rfl ?_
  refine go_laload (pc' := 160) X16 hx hZ A_b1 (by decide) (by decide) (hb hby at_159) rfl (fun w159 hw159 => ?_)
  obtain rfl : w159 = (1 : Int64) := hw159.trans rfl
  refine go_bipush (pc' := 162) (v := 7) X16 hx (hb hby at_160) rfl rfl ?_
  refine go_callS (pc' := 165) (W := 2) (cells' := 1) (slots' := 8) (rm := ({ frames := 0, cells := 0, slots := 0, locals := 0 } : Room)) (aL := [.long v4_8, .long (1 : Int64), .int (7 : Int32)]) (St := [.long ((((((z10 ||| z11) ||| z12) ||| z13) ||| z14) ||| z15) ||| z16)]) X16 hx hZ hown (by rw [hml]; rfl) (hw _ (List.mem_of_getElem? (i := 10) rfl)) (hw _ (List.mem_of_getElem? (i := 11) rfl)) (hw _ (List.mem_of_getElem? (i := 12) rfl)) (hw _ (List.mem_of_getElem? (i := 13) rfl)) (by decide) pd_0 rfl (ct_1 l Z a0 hw zs v4_8 (1 : Int64) (7 : Int32) (by decide)) (hb hby at_162) rfl (by decide) (Nat.le_of_eq rfl) (by decide) (by decide) (by decide) rfl rfl (fun T17 h17 v17 X17 Q17 => ?_) rfl
  obtain ⟨z17, rfl, hz17, eh17⟩ := Q17
  subst h17
  show GoK p e below _ T17 (mkF m 165 #[.val (.int p0), .val (.int p1), .val (.long q2), .second, .val (.long v4_8), .second, .val (.int v6_19), .val (.ref b1), .unset, .unset, .unset, .unset, .unset, .unset, .unset, .unset] [.long z17, .long ((((((z10 ||| z11) ||| z12) ||| z13) ||| z14) ||| z15) ||| z16)])
  refine go_lor (pc' := 166) X17 hx (hb hby at_165) rfl ?_
  refine go_nameJ (fun v8_166 hv8_166 => ?_)
  refine go_lstore (pc' := 168) (L' := #[.val (.int p0), .val (.int p1), .val (.long q2), .second, .val (.long v4_8), .second, .val (.int v6_19), .val (.ref b1), .val (.long v8_166), .second, .unset, .unset, .unset, .unset, .unset, .unset]) X17 hx (hb hby at_166) rfl rfl ?_
  have hdg := own_digits hd0 hz10 hz11 hz12 hz13 hz14 hz15 hz16 hz17
  rw [← hv8_166] at hdg
  have hA : AJK Z h9 b1 8 own_pow := by
    refine AJK.congr A_b1 (fun i i1 i2 => ?_)
    rcases (by omega : i = 0 ∨ i = 1 ∨ i = 2 ∨ i = 3 ∨ i = 4 ∨ i = 5 ∨ i = 6 ∨ i = 7) with rfl | rfl | rfl | rfl | rfl | rfl | rfl | rfl
    all_goals rfl
  replace A_b1 := hA
  refine go_iload (pc' := 170) X17 hx (hb hby at_168) rfl rfl ?_
  refine go_bipush (pc' := 172) (v := 8) X17 hx (hb hby at_170) rfl rfl ?_
  suffices J190 : ∀ (m190_s0 : Int64), ((¬ v6_19 = (8 : Int32) ∧ m190_s0 = (((1 : Int64) <<< (((8 : Int32) * v6_19) &&& 0x3f).toInt64) - (1 : Int64))) ∨ (v6_19 = (8 : Int32) ∧ m190_s0 = (-1 : Int64))) → GoK p e below (DoneK s below n0 room_1.cells room_1.slots (QI (fun z _ => z = 1))) T17 (mkF m 190 #[.val (.int p0), .val (.int p1), .val (.long q2), .second, .val (.long v4_8), .second, .val (.int v6_19), .val (.ref b1), .val (.long v8_166), .second, .unset, .unset, .unset, .unset, .unset, .unset] [.long m190_s0]) by
    refine go_icmpne (pc' := 175) (pcT := 181) X17 hx (hb hby at_172) rfl (by decide) (by decide) (fun c172 => ?_) (fun c172 => ?_)
    · refine go_lconst (pc' := 182) (v := 1) X17 hx (hb hby at_181) rfl rfl ?_
      refine go_bipush (pc' := 184) (v := 8) X17 hx (hb hby at_182) rfl rfl ?_
      refine go_iload (pc' := 186) X17 hx (hb hby at_184) rfl rfl ?_
      refine go_imul (pc' := 187) X17 hx (hb hby at_186) rfl ?_
      refine go_lshl (pc' := 188) X17 hx (hb hby at_187) rfl ?_
      refine go_lconst (pc' := 189) (v := 1) X17 hx (hb hby at_188) rfl rfl ?_
      refine go_lsub (pc' := 190) X17 hx (hb hby at_189) rfl ?_
      exact J190 _  (Or.inl ⟨c172, rfl⟩)
    · refine go_ldc2 (pc' := 178) X17 hx hZ hown (hw _ (List.mem_of_getElem? (i := 15) rfl)) (hb hby at_175) rfl ?_
      refine go_goto (pc' := 190) X17 hx (hb hby at_178) (by decide) (by decide) ?_
      exact J190 _  (Or.inr ⟨c172, rfl⟩)
  intro m190_s0 j190
  refine go_lstore (pc' := 192) (L' := #[.val (.int p0), .val (.int p1), .val (.long q2), .second, .val (.long v4_8), .second, .val (.int v6_19), .val (.ref b1), .val (.long v8_166), .second, .val (.long m190_s0), .second, .unset, .unset, .unset, .unset]) X17 hx (hb hby at_190) rfl rfl ?_
  refine go_lload (pc' := 194) X17 hx (hb hby at_192) rfl rfl ?_
  refine go_lload (pc' := 196) X17 hx (hb hby at_194) rfl rfl ?_
  refine go_land (pc' := 197) X17 hx (hb hby at_196) rfl ?_
  refine go_lloadN (pc' := 198) X17 hx (hb hby at_197) rfl rfl ?_
  refine go_lload (pc' := 200) X17 hx (hb hby at_198) rfl rfl ?_
  refine go_ldc2 (pc' := 203) X17 hx hZ hown (hw _ (List.mem_of_getElem? (i := 15) rfl)) (hb hby at_200) rfl ?_
  refine go_lxor (pc' := 204) X17 hx (hb hby at_203) rfl ?_
  refine go_land (pc' := 205) X17 hx (hb hby at_204) rfl ?_
  refine go_lor (pc' := 206) X17 hx (hb hby at_205) rfl ?_
  refine go_nameJ (fun v12_206 hv12_206 => ?_)
  refine go_lstore (pc' := 208) (L' := #[.val (.int p0), .val (.int p1), .val (.long q2), .second, .val (.long v4_8), .second, .val (.int v6_19), .val (.ref b1), .val (.long v8_166), .second, .val (.long m190_s0), .second, .val (.long v12_206), .second, .unset, .unset]) X17 hx (hb hby at_206) rfl rfl ?_
  have hpad := own_pad cn1 cn2 hd0 hd1 hdg (j190) hv12_206
  have ei : ((8 : Int32) - v6_19).toInt = 8 - v6_19.toInt := by rw [Jvm.Free.XT.sub32 ⟨by have : (8 : Int32).toInt = 8 := rfl; omega, by have : (8 : Int32).toInt = 8 := rfl; omega⟩]; rfl
  refine go_lload (pc' := 210) X17 hx (hb hby at_208) rfl rfl ?_
  refine go_aload (pc' := 212) X17 hx (hb hby at_210) rfl rfl ?_
  refine go_bipush (pc' := 214) (v := 8) X17 hx (hb hby at_212) rfl rfl ?_
  refine go_iload (pc' := 216) X17 hx (hb hby at_214) rfl rfl ?_
  refine go_isub (pc' := 217) X17 hx (hb hby at_216) rfl ?_
  refine go_laload (pc' := 218) X17 hx hZ A_b1 (by omega) (by omega) (hb hby at_217) rfl (fun w217 hw217 => ?_)
  refine go_ldiv (pc' := 219) X17 hx (hb hby at_218) rfl (by rw [hw217]; exact own_pnz _) ?_
  refine go_nameJ (fun v14_219 hv14_219 => ?_)
  refine go_lstore (pc' := 221) (L' := #[.val (.int p0), .val (.int p1), .val (.long q2), .second, .val (.long v4_8), .second, .val (.int v6_19), .val (.ref b1), .val (.long v8_166), .second, .val (.long m190_s0), .second, .val (.long v12_206), .second, .val (.long v14_219), .second]) X17 hx (hb hby at_219) rfl rfl ?_
  refine go_lload (pc' := 223) X17 hx (hb hby at_221) rfl rfl ?_
  refine go_iload (pc' := 225) X17 hx (hb hby at_223) rfl rfl ?_
  refine go_callS (pc' := 228) (W := 0) (cells' := 1) (slots' := 8) (rm := ({ frames := 0, cells := 0, slots := 0, locals := 0 } : Room)) (aL := [.long v12_206, .int v6_19]) (St := []) X17 hx hZ hown (by rw [hml]; rfl) (hw _ (List.mem_of_getElem? (i := 16) rfl)) (hw _ (List.mem_of_getElem? (i := 17) rfl)) (hw _ (List.mem_of_getElem? (i := 18) rfl)) (hw _ (List.mem_of_getElem? (i := 19) rfl)) (by decide) pd_1 rfl (ct_2 l Z a0 hw zs v12_206 v6_19 (own_E v4_8.toInt v6_19.toInt.toNat 0) (own_E v4_8.toInt v6_19.toInt.toNat 1) (own_E v4_8.toInt v6_19.toInt.toNat 2) (own_E v4_8.toInt v6_19.toInt.toNat 3) (own_E v4_8.toInt v6_19.toInt.toNat 4) (own_E v4_8.toInt v6_19.toInt.toNat 5) (own_E v4_8.toInt v6_19.toInt.toNat 6) (own_E v4_8.toInt v6_19.toInt.toNat 7) (own_E9 _ _ _) (own_E9 _ _ _) (own_E9 _ _ _) (own_E9 _ _ _) (own_E9 _ _ _) (own_E9 _ _ _) (own_E9 _ _ _) (own_E9 _ _ _) hpad) (hb hby at_225) rfl (by decide) (Nat.le_of_eq rfl) (by decide) (by decide) (by decide) rfl rfl (fun T18 h18 v18 X18 Q18 => ?_) rfl
  obtain ⟨z18, rfl, hz18, eh18⟩ := Q18
  subst h18
  show GoK p e below _ T18 (mkF m 228 #[.val (.int p0), .val (.int p1), .val (.long q2), .second, .val (.long v4_8), .second, .val (.int v6_19), .val (.ref b1), .val (.long v8_166), .second, .val (.long m190_s0), .second, .val (.long v12_206), .second, .val (.long v14_219), .second] [.long z18])
  refine go_lload (pc' := 230) X18 hx (hb hby at_228) rfl rfl ?_
  refine go_lifne (pc1 := 231) (pc' := 234) (pcT := 238) X18 hx (hb hby at_230) rfl (hb hby at_231) rfl (by decide) (by decide) (fun c231 => (by exfalso; rw [hv14_219] at c231; exact c231 (own_fin cn1 cn2 hd0 hd1 hz18 hw217).1)) (fun c231 => ?_)
  refine go_iconst (pc' := 235) (v := 1) X18 hx (hb hby at_234) rfl rfl ?_
  refine go_goto (pc' := 239) X18 hx (hb hby at_235) (by decide) (by decide) ?_
  refine go_retN (t := .boolean) X18 hx hret (by simp) hlk (hb hby at_239) (by decide) (by decide) ?_
  exact rfl
set_option maxRecDepth 65536 in
set_option maxHeartbeats 40000000 in
theorem comes_1 {Post : Tables → Env → Array Value → State → Outcome → State → Prop} (hpost : ∀ tb e args s v u, (limb_1_1.after args s (.returned v) u = true ∧ limb_1_2.after args s (.returned v) u = true ∧ True) → FrameEnd s (.returned v) u (Jvm.fieldLocs frame_1_writes args s ++ Jvm.arrayLocs frame_1_arrays args s ++ Jvm.staticLocs frame_1_statics s) 16 128 → Post tb e args s (.returned v) u) :
    ArmFor flags0 classFile x code maxLocals ret World_1 tables_1 room_1 Calls_1 rest_1 Pre_1 Post := by
  intro l hfl _ _ p e ha hc hk s m args below hf hA hF happ hP
  obtain ⟨hcalls, hrest, hpre⟩ := hP
  obtain ⟨-, -, -, hnamed, -, -, -, hat⟩ := (Spec.applies_iff hf).mp happ
  obtain ⟨hg, hn⟩ := and_e (Cond.before_iff.mp (show (Jvm.Cond.and given_1 narrow_1).before args s = true from hpre))
  obtain ⟨g1, g2⟩ := and_e hg
  obtain ⟨g3, g4⟩ := and_e g2
  obtain ⟨g5, g6⟩ := and_e g4
  obtain ⟨w0, w1, w2, rfl⟩ : ∃ w0 w1 w2 : Value, args = #[w0, w1, w2] := by
    have hs : args.size = 3 := by simpa [Cond.value, given_1] using g1
    obtain ⟨L⟩ := args
    match L, hs with
    | [w0, w1, w2], _ => exact ⟨w0, w1, w2, rfl⟩
  have hw := fun d (hd : d ∈ tables_1) => atoms_spec (ws := Jvm.Cond.code x code maxLocals ret :: tables_1) hat d (List.mem_cons_of_mem _ hd)
  obtain ⟨i0, ei0⟩ := is_v g3
  obtain rfl : w0 = (.int i0) := Option.some.inj ei0
  obtain ⟨i1, ei1⟩ := is_v g5
  obtain rfl : w1 = (.int i1) := Option.some.inj ei1
  obtain ⟨i2, ei2⟩ := isL_v g6
  obtain rfl : w2 = (.long i2) := Option.some.inj ei2
  obtain ⟨n, o, h1, h2, h3, _, L, rfl, ⟨⟨_, rfl, rfl⟩, N⟩, hq⟩ := ct_0 l s _ hw (h0 := s.heap) (n0 := s.heap.size) (Nat.le_refl _) i0 i1 i2 tables_1 p e ha hc hk s m _ below hf ((Spec.applies_iff_loose hf).mp happ).1 ⟨rfl, State.Warmed39.refl s, rfl⟩ trivial
  refine ⟨n, _, h1, h2, h3, hpost _ _ _ _ _ _ ⟨Cond.after_iff.mpr rfl, Cond.after_iff.mpr (eq_i res_at (Term.int_eval (1)) rfl), trivial⟩ ⟨hq.1, hq.2.1, (hq.2.2.sift fun y hy => Or.inr (N y hy)).mono (by decide) (by decide)⟩⟩
theorem main_1_1 : Claimed_1_1 := comes_1 fun _ _ _ _ _ _ h hF => ⟨h.1, hF⟩
theorem main_1_2 : Claimed_1_2 := comes_1 fun _ _ _ _ _ _ h hF => ⟨h.2.1, hF⟩
end Jvm.Pilot.@@N@@
namespace Jvm.Pilot.@@N@@
open Jvm Jvm.ClassFile Sem Op Lib Jvm.Free Jvm.Stand Jvm.Pilot.@@N@@.Jvm.D
/-! MADE BY PROGRAM (witnessworld.py) out of the Statement's table words and the real class files: 11 classes; the members and pool entries that the words name. The judged class is class 1, her method 1. -/
namespace start1
open Jvm.ClassFile
def u (s : String) : CpInfo := .utf8 (stringToUtf16 s)
/-- a pool by its gaps: so many unusable entries, then the entry; so many at the end -/
def gap : Nat → List CpInfo → List CpInfo
  | 0, r => r
  | n + 1, r => .unusable :: gap n r
def poolList (es : List (Nat × CpInfo)) (last : Nat) : List CpInfo := es.foldr (fun e r => gap e.1 (e.2 :: r)) (gap last [])
def pool (es : List (Nat × CpInfo)) (last : Nat) : Array CpInfo := ⟨poolList es last⟩
def fileOf (pool : Array CpInfo) (this : Nat) (attrs : Array Attribute := #[]) (ms : Array MethodInfo := #[]) (fl : Nat := 33) (sup : Nat := 0) (ifs : Array Nat := #[]) (fds : Array FieldInfo := #[]) : ClassFile where
  minorVersion := 0
  majorVersion := 65
  constantPool := pool
  accessFlags := fl
  thisClass := this
  superClass := sup
  interfaces := ifs
  fields := fds
  methods := ms
  attributes := attrs
def plain (name : String) (sup : Option ClassId) : Class where
  name := name
  kind := .ordinary
  loader := none
  accessFlags := 33
  super := sup
  interfaces := #[]
  cf := none
  fields := #[]
  methods := #[]
  instanceTypes := #[]
  staticTypes := #[]
  resolved := #[]
  callSites := []
  init := .initialized
  statics := none
  mirror := none

def pool0 : Array CpInfo := pool [(5, u "<init>"), (0, u "()V"), (1, .class_ 10), (1, u "java/lang/Object")] 113

def k0m0 : Method := { name := "<init>", desc := "()V", sig := { parameters := [], returnType := none }, accessFlags := 1, code := none }
/-- java/lang/Object -/
def k0 : Class := { plain "java/lang/Object" none with
  accessFlags := 33
  interfaces := #[]
  cf := some (fileOf pool0 8 #[] #[{ accessFlags := 1, nameIndex := 5, descriptorIndex := 6, attributes := #[] }] 33 0 #[] #[])
  fields := #[]
  methods := #[k0m0]
  instanceTypes := #[]
  staticTypes := #[]
  resolved := Array.replicate 124 none
  statics := none }

def pool1 : Array CpInfo := pool [(2, .class_ 4), (1, u "java/lang/Object"), (0, u "<init>"), (0, u "()V"), (0, .integer 2147483647), (0, .integer 100000000), (0, .long 10), (1, .long 100), (1, .long 1000), (1, .long 10000), (1, .long 100000), (1, .long 1000000), (1, .long 10000000), (1, .methodref 24 25), (0, .class_ 26), (0, .nameAndType 27 28), (0, u "com/example/tracefold/tracefold/trace/WordsDigitsValuePinLaw"), (0, u "byteAt"), (0, u "(JJI)J"), (0, .long 18446744073709551615), (1, .methodref 32 33), (0, .class_ 34), (0, .nameAndType 35 36), (0, u "com/example/tracefold/tracefold/trace/Words"), (0, u "digitsValue"), (0, u "(JI)J"), (0, .long 48), (3, u "law"), (0, u "(IIJ)Z")] 5

def k1m0 : Method := { name := "<init>", desc := "()V", sig := { parameters := [], returnType := none }, accessFlags := 2, code := none }
def k1c1 : Code := { maxStack := 8, maxLocals := 16, code := code, exceptionTable := #[], attributes := #[] }
def k1m1 : Method := { name := "law", desc := "(IIJ)Z", sig := { parameters := [.int, .int, .long], returnType := some .boolean }, accessFlags := 9, code := some k1c1 }
def k1c2 : Code := { maxStack := 6, maxLocals := 5, code := method_3_code, exceptionTable := #[], attributes := #[] }
def k1m2 : Method := { name := "byteAt", desc := "(JJI)J", sig := { parameters := [.long, .long, .int], returnType := some .long }, accessFlags := 10, code := some k1c2 }
/-- com/example/tracefold/tracefold/trace/WordsDigitsValuePinLaw -/
def k1 : Class := { plain "com/example/tracefold/tracefold/trace/WordsDigitsValuePinLaw" (some 0) with
  accessFlags := 49
  interfaces := #[]
  cf := some (fileOf pool1 24 #[] #[{ accessFlags := 2, nameIndex := 5, descriptorIndex := 6, attributes := #[] }, { accessFlags := 9, nameIndex := 41, descriptorIndex := 42, attributes := #[] }, { accessFlags := 10, nameIndex := 27, descriptorIndex := 28, attributes := #[] }] 49 2 #[] #[])
  fields := #[]
  methods := #[k1m0, k1m1, k1m2]
  instanceTypes := #[]
  staticTypes := #[]
  resolved := Array.replicate 48 none
  statics := none }

def pool2 : Array CpInfo := pool [(4, .class_ 6), (1, u "java/lang/Object"), (0, u "<init>"), (0, u "()V"), (1, .class_ 12), (1, u "com/example/tracefold/tracefold/trace/Words"), (0, u "WORDS"), (0, u "Ljava/lang/invoke/VarHandle;"), (25, .long 3472328296227680304), (5, .long 10), (1, .long 71777214294589695), (1, .long 100), (1, .long 281470681808895), (1, .long 10000), (1, .long 4294967295), (15, u "BYTES"), (0, u "I"), (2, u "ONES"), (0, u "J"), (0, u "HIGH"), (0, u "LOW"), (0, u "HIGH_HALVES"), (0, u "SIXES"), (0, u "ZEROS"), (13, u "digitsValue"), (0, u "(JI)J")] 4

def k2m0 : Method := { name := "<init>", desc := "()V", sig := { parameters := [], returnType := none }, accessFlags := 2, code := none }
def k2c1 : Code := { maxStack := 6, maxLocals := 11, code := prog_187_method_10_code, exceptionTable := #[], attributes := #[] }
def k2m1 : Method := { name := "digitsValue", desc := "(JI)J", sig := { parameters := [.long, .int], returnType := some .long }, accessFlags := 8, code := some k2c1 }
/-- com/example/tracefold/tracefold/trace/Words -/
def k2 : Class := { plain "com/example/tracefold/tracefold/trace/Words" (some 0) with
  accessFlags := 48
  interfaces := #[]
  cf := some (fileOf pool2 10 #[] #[{ accessFlags := 2, nameIndex := 7, descriptorIndex := 8, attributes := #[] }, { accessFlags := 8, nameIndex := 96, descriptorIndex := 97, attributes := #[] }] 48 4 #[] #[{ accessFlags := 24, nameIndex := 72, descriptorIndex := 73, attributes := #[] }, { accessFlags := 26, nameIndex := 13, descriptorIndex := 14, attributes := #[] }, { accessFlags := 26, nameIndex := 76, descriptorIndex := 77, attributes := #[] }, { accessFlags := 26, nameIndex := 78, descriptorIndex := 77, attributes := #[] }, { accessFlags := 26, nameIndex := 79, descriptorIndex := 77, attributes := #[] }, { accessFlags := 26, nameIndex := 80, descriptorIndex := 77, attributes := #[] }, { accessFlags := 26, nameIndex := 81, descriptorIndex := 77, attributes := #[] }, { accessFlags := 26, nameIndex := 82, descriptorIndex := 77, attributes := #[] }])
  fields := #[{ name := "BYTES", type := .int, accessFlags := 24, slot := 0, constantValue := 0 }, { name := "WORDS", type := (.object "java/lang/invoke/VarHandle"), accessFlags := 26, slot := 1, constantValue := 0 }, { name := "ONES", type := .long, accessFlags := 26, slot := 2, constantValue := 0 }, { name := "HIGH", type := .long, accessFlags := 26, slot := 3, constantValue := 0 }, { name := "LOW", type := .long, accessFlags := 26, slot := 4, constantValue := 0 }, { name := "HIGH_HALVES", type := .long, accessFlags := 26, slot := 5, constantValue := 0 }, { name := "SIXES", type := .long, accessFlags := 26, slot := 6, constantValue := 0 }, { name := "ZEROS", type := .long, accessFlags := 26, slot := 7, constantValue := 0 }]
  methods := #[k2m0, k2m1]
  instanceTypes := #[]
  staticTypes := #[.int, (.object "java/lang/invoke/VarHandle"), .long, .long, .long, .long, .long, .long]
  resolved := Array.replicate 102 none
  statics := none }

def pool3 : Array CpInfo := pool [(1, u "java/lang/Cloneable"), (0, .class_ 1), (0, u "java/lang/Object"), (0, .class_ 3)] 3

/-- java/lang/Cloneable -/
def k3 : Class := { plain "java/lang/Cloneable" (some 0) with
  accessFlags := 1537
  interfaces := #[]
  cf := some (fileOf pool3 2 #[] #[] 1537 4 #[] #[])
  fields := #[]
  methods := #[]
  instanceTypes := #[]
  staticTypes := #[]
  resolved := Array.replicate 8 none
  statics := none }

def pool4 : Array CpInfo := pool [(1, u "java/io/Serializable"), (0, .class_ 1), (0, u "java/lang/Object"), (0, .class_ 3)] 3

/-- java/io/Serializable -/
def k4 : Class := { plain "java/io/Serializable" (some 0) with
  accessFlags := 1537
  interfaces := #[]
  cf := some (fileOf pool4 2 #[] #[] 1537 4 #[] #[])
  fields := #[]
  methods := #[]
  instanceTypes := #[]
  staticTypes := #[]
  resolved := Array.replicate 8 none
  statics := none }

/-- the primitive byte -/
def k5 : Class := { plain "byte" none with kind := .primitive 'B', accessFlags := 0x411 }
/-- [B -/
def k6 : Class := { plain "[B" (some 0) with kind := .array 5 .byte, interfaces := #[3, 4], accessFlags := 1041 }

/-- the primitive int -/
def k7 : Class := { plain "int" none with kind := .primitive 'I', accessFlags := 0x411 }
/-- [I -/
def k8 : Class := { plain "[I" (some 0) with kind := .array 7 .int, interfaces := #[3, 4], accessFlags := 1041 }

/-- the primitive long -/
def k9 : Class := { plain "long" none with kind := .primitive 'J', accessFlags := 0x411 }
/-- [J -/
def k10 : Class := { plain "[J" (some 0) with kind := .array 9 .long, interfaces := #[3, 4], accessFlags := 1041 }

def heap : Heap := #[]
def classes : Array Class := #[k0, k1, k2, k3, k4, k5, k6, k7, k8, k9, k10]
def interned : List (Array UInt16 × Addr) := []
def slotsUsed : Nat := 0
def theMethod : MethodId := ⟨1, 1⟩
def args0 : Array Value := #[.int 3, .int 3, .long 7]
def aboutOver (below : List Frame) : State where
  vm := { classes := classes, interned := interned.toArray }
  heap := heap
  slotsUsed := slotsUsed
  threads := #[{ frames := .invoking theMethod args0 :: below }]
def below0 : List Frame := [.native { method := ⟨0, 0⟩, args := #[] }]
def about1 : State := aboutOver below0
def p0 : Program := .bare "" "" ""
def e0 : Env := launch0.env 0 0 0
theorem w_frames : about1.frames = Frame.invoking theMethod args0 :: below0 := rfl
set_option maxRecDepth 65536 in
theorem w_args : argsFit about1.vm theMethod args0 = true := by decide +kernel
set_option maxRecDepth 65536 in
theorem w_heap : heapFits about1 = true := by decide +kernel
set_option maxRecDepth 65536 in
theorem w_runnable : about1.curStatus? = some .runnable := by decide +kernel
set_option maxRecDepth 65536 in
theorem w_alone : about1.alone = true := by decide +kernel
set_option maxRecDepth 65536 in
theorem w_named : about1.methodNamed? x = some theMethod := by decide +kernel
set_option maxRecDepth 65536 in
theorem w_hears : about1.hears theMethod below0 = true := by decide +kernel
set_option maxRecDepth 65536 in
theorem w_ripe : about1.ripe theMethod args0 below0 = true := by decide +kernel
theorem w_running : about1.status = .running := rfl
set_option maxRecDepth 65536 in
theorem w_room : about1.hasRoom e0.platform room_1 = true :=
  launch0.hasRoom_least _ room_1 (by decide +kernel) (by decide +kernel) (by decide +kernel) (by decide +kernel) (by decide +kernel) (by decide +kernel)
theorem allAtoms_all (ts : List Jvm.Cond) (a : Array Jvm.Value) (st : Jvm.State) : (allAtoms ts).before a st = ts.all (fun c => c.before a st) := by
  induction ts with
  | nil => rfl
  | cons c t ih =>
    show (Jvm.Cond.and c (allAtoms t)).before a st = _
    rw [Jvm.Cond.before_and, ih, List.all_cons]
def words1 : List Jvm.Cond := Jvm.Cond.code x code maxLocals ret :: tables_1
/-- a 'code' word, met by the world's own term for the bytes: nothing is compared byte by byte -/
theorem code_word {y : MethodName} {bytes : ByteArray} {mx : Nat} {rt : Option FieldType} {a : Array Value} {s : State} {m : MethodId} {meth : Method} {c : Code} (h1 : s.methodNamed? y = some m) (h2 : s.vm.method? m = some meth) (h3 : meth.code = some c) (h4 : c.code = bytes)
    (h5 : (c.maxLocals == mx && c.exceptionTable.isEmpty && decide (c.maxStack ≤ mostOperands) && decide (meth.sig.returnType = rt) && !meth.locks && decide (parseMethodDescriptor y.desc = some meth.sig)) = true) : (Jvm.Cond.code y bytes mx rt).before a s = true := by
  simp only [Bool.and_eq_true, beq_iff_eq, Bool.not_eq_true', decide_eq_true_eq] at h5
  obtain ⟨⟨⟨⟨⟨g1, g2⟩, g3⟩, g4⟩, g5⟩, g6⟩ := h5
  simp [Cond.before, Cond.holds, Cond.value, h1, h2, h3, h4, g1, g2, g3, g4, g5, g6]
def isCode : Jvm.Cond → Bool
  | .code _ _ _ _ => true
  | _ => false
theorem all_split {L : List Jvm.Cond} {P : Jvm.Cond → Bool} (h1 : L.all (fun c => isCode c || P c) = true) (h2 : ∀ c ∈ L.filter isCode, P c = true) : L.all P = true := by
  refine List.all_eq_true.mpr fun c hc => ?_
  have h := List.all_eq_true.mp h1 c hc
  rcases Bool.eq_false_or_eq_true (isCode c) with hi | hi
  · exact h2 c (List.mem_filter.mpr ⟨hc, hi⟩)
  · simpa [hi] using h
set_option maxRecDepth 65536 in
theorem w_c0 : (Jvm.Cond.code x code maxLocals ret).before args0 about1 = true := code_word (m := ⟨1, 1⟩) (meth := k1m1) (c := k1c1) (by decide +kernel) rfl rfl rfl (by decide +kernel)
set_option maxRecDepth 65536 in
theorem w_c1 : (Jvm.Cond.code ({ cls := "com/example/tracefold/tracefold/trace/WordsDigitsValuePinLaw", name := "byteAt", desc := "(JJI)J" } : Jvm.MethodName) method_3_code (5 : Nat) (Option.some Jvm.ClassFile.FieldType.long)).before args0 about1 = true := code_word (m := ⟨1, 2⟩) (meth := k1m2) (c := k1c2) (by decide +kernel) rfl rfl rfl (by decide +kernel)
set_option maxRecDepth 65536 in
theorem w_c2 : (Jvm.Cond.code ({ cls := "com/example/tracefold/tracefold/trace/Words", name := "digitsValue", desc := "(JI)J" } : Jvm.MethodName) prog_187_method_10_code (11 : Nat) (Option.some Jvm.ClassFile.FieldType.long)).before args0 about1 = true := code_word (m := ⟨2, 1⟩) (meth := k2m1) (c := k2c1) (by decide +kernel) rfl rfl rfl (by decide +kernel)
def codes1 : List Jvm.Cond := [Jvm.Cond.code x code maxLocals ret, Jvm.Cond.code ({ cls := "com/example/tracefold/tracefold/trace/WordsDigitsValuePinLaw", name := "byteAt", desc := "(JJI)J" } : Jvm.MethodName) method_3_code (5 : Nat) (Option.some Jvm.ClassFile.FieldType.long), Jvm.Cond.code ({ cls := "com/example/tracefold/tracefold/trace/Words", name := "digitsValue", desc := "(JI)J" } : Jvm.MethodName) prog_187_method_10_code (11 : Nat) (Option.some Jvm.ClassFile.FieldType.long)]
set_option maxRecDepth 65536 in
theorem codes_eq : words1.filter isCode = codes1 := rfl
theorem w_codes : ∀ c ∈ words1.filter isCode, c.before args0 about1 = true := by
  rw [codes_eq]
  intro c hc
  simp only [codes1, List.mem_cons, List.not_mem_nil, or_false] at hc
  rcases hc with rfl | rfl | rfl
  · exact w_c0
  · exact w_c1
  · exact w_c2
set_option maxRecDepth 65536 in
theorem w_t1 : (words1.take 24).all (fun c => isCode c || c.before args0 about1) = true := by decide +kernel
set_option maxRecDepth 65536 in
theorem w_t2 : (words1.drop 24).all (fun c => isCode c || c.before args0 about1) = true := by decide +kernel
theorem w_tables : (allAtoms (Jvm.Cond.code x code maxLocals ret :: tables_1)).before args0 about1 = true := by
  rw [allAtoms_all]
  show words1.all (fun c => c.before args0 about1) = true
  refine all_split ?_ w_codes
  rw [← List.take_append_drop 24 words1, List.all_append, w_t1, w_t2]
  rfl
set_option maxRecDepth 65536 in
theorem w_case : (Jvm.Cond.and given_1 narrow_1).before args0 about1 = true := by decide +kernel
theorem w_applies : (headSpec (Jvm.Cond.code x code maxLocals ret :: tables_1) room_1).applies x e0.platform about1 = true :=
  (Spec.applies_iff w_frames).mpr ⟨w_running, w_runnable, w_alone, w_named, w_hears, w_ripe, w_room, w_tables⟩
theorem atStart : AtStart classFile x code maxLocals ret World_1 tables_1 room_1 Calls_1 rest_1 Pre_1 launch0 p0 e0 about1 theMethod args0 below0 :=
  ⟨lists_1, trivial, launch0.admits_env _ _ _, launch0.least_env, fairChoices_fair.cas, fairChoices_fair.clock, w_frames, w_args, w_heap, w_applies, trivial, trivial, w_case⟩
end start1
theorem witness_1 : WitnessClaimed_1 := ⟨start1.p0, start1.e0, start1.about1, start1.theMethod, start1.args0, start1.below0, start1.atStart⟩
end Jvm.Pilot.@@N@@
