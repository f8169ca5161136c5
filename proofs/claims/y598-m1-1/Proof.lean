import JvmDerived
import JvmDerived.Pilot.@@N@@Statement
import JvmDerived.Pilot.@@N@@Code
set_option maxHeartbeats 4000000
set_option linter.unusedVariables false
set_option linter.unusedSimpArgs false
namespace Jvm.RoadKit
open Sem ClassFile Op Lib Jvm.Stand Jvm.Free Jvm.LawKit
section OwnK
variable {p : Program} {l : Launch} {e : Env} {R : Room} {s : State} {m : MethodId} {args : Array Value} {below : List Frame} {meth : Method} {c : Code} {T : State} {cells slots cells' slots' : Nat} {Z : State} {a0 : Array Value} {h : Heap} {n0 : Nat} {D : State → Prop} {pc pc' : Nat} {Ls : Array Slot} {St : List Value}
/-- the run goes from the frame g at T to a state that is done -/
def GoK (p : Program) (e : Env) (below : List Frame) (D : State → Prop) (T : State) (g : JFrame) : Prop := ∃ u, Steps p.tables e below (T.setTop g) u ∧ D u
/-- where the walk stands: the state, its heap, what was made; all that was written is new -/
def OnK (p : Program) (l : Launch) (e : Env) (R : Room) (s : State) (m : MethodId) (args : Array Value) (below : List Frame) (meth : Method) (c : Code) (n0 : Nat) (T : State) (h : Heap) (cells slots : Nat) : Prop := ∃ locs, Stand p l e R s m args below meth c T locs cells slots ∧ T.heap = h ∧ Fr n0 locs
/-- the call has returned -/
def DoneK (s : State) (below : List Frame) (n0 C S : Nat) (Q : Option Value → Heap → Prop) (u : State) : Prop := u.status = .running ∧ ∃ v L, Ended u below (.returned v) ∧ Q v u.heap ∧ Fr n0 L ∧ FrameEnd s (.returned v) u L C S
def QI (P : Int32 → Heap → Prop) (v : Option Value) (h : Heap) : Prop := ∃ z, v = some (.int z) ∧ P z h
def QJ (P : Int64 → Heap → Prop) (v : Option Value) (h : Heap) : Prop := ∃ z, v = some (.long z) ∧ P z h
def QA (P : Addr → Heap → Prop) (v : Option Value) (h : Heap) : Prop := ∃ z, v = some (.ref z) ∧ P z h
def QV (P : Heap → Prop) (v : Option Value) (h : Heap) : Prop := v = none ∧ P h
/-- a body's contract -/
def CtK (l : Launch) (Z : State) (y : MethodName) (bytes : ByteArray) (maxL : Nat) (ret : Option FieldType) (rm : Room) (as' : Array Value) (h0 : Heap) (n0 : Nat) (Q : Option Value → Heap → Prop) : Prop :=
  ∀ ws : List Jvm.Cond, MetFree l y (head1 (Jvm.Cond.code y bytes maxL ret :: ws) rm) (fun a U => a = as' ∧ Z.Warmed39 U.vm ∧ U.heap = h0) (fun _ _ _ _ _ => True) (fun _ U o U' => ∃ v L, o = .returned v ∧ (Q v U'.heap ∧ Fr n0 L) ∧ FrameEnd U o U' L rm.cells rm.slots)
theorem GoK.by {T' : State} {g g' : JFrame} (st : ∀ t, Steps p.tables e below (T'.setTop g') t → Steps p.tables e below (T.setTop g) t) (G : GoK p e below D T' g') : GoK p e below D T g := by
  obtain ⟨u, hu, hD⟩ := G
  exact ⟨u, st _ hu, hD⟩
theorem OnK.at (X : OnK p l e R s m args below meth c n0 T h cells slots) : Jvm.At T m c below := by
  obtain ⟨_, X, -, -⟩ := X
  exact X.here
theorem CtK.of {y : MethodName} {bytes : ByteArray} {maxL : Nat} {ret : Option FieldType} {rm : Room} {as' : Array Value} {h0 : Heap} {Q : Option Value → Heap → Prop} (hp : plainFor y = true)
    (body : ∀ {p : Program} {e : Env} {s : State} {m : MethodId} {below : List Frame} {meth : Method} {c : Code} {T : State}, OnK p l e rm s m as' below meth c n0 T h0 0 0 → p.tables.exec = Jvm.exec → Z.Warmed39 s.vm → c.code = bytes → c.maxLocals = maxL → s.vm.findClass y.cls = some m.cls → meth.name = y.name → meth.sig.returnType = ret → meth.locks = false →
      GoK p e below (DoneK s below n0 rm.cells rm.slots Q) T (entryFrame m as' maxL)) : CtK l Z y bytes maxL ret rm as' h0 n0 Q := by
  intro ws
  refine MetFree.of_bodySF hp hisR ?_
  intro p e s m args below meth c s₁ Bd hml0 hP hK
  obtain ⟨rfl, hZ, hh⟩ := hP
  have hown : s.vm.findClass y.cls = some m.cls := findClass_of_methodNamed Bd.named
  have hnm := (name_of_methodNamed Bd.named Bd.method).1
  have X0 : Stand p l e rm s m args below meth c s₁ [] 0 0 := Stand.of_body Bd
  have e0 : s₁.heap = h0 := by rw [← hh, Bd.state]; rfl
  obtain ⟨u, hu, hrun, v, L, hen, hQ, hN, hF⟩ := body ⟨[], X0, e0, Fr.nil n0⟩ Bd.exec hZ Bd.bytes hml0 hown hnm Bd.returns (BodyLoose.notSynchronized Bd)
  exact ⟨u, _, hu, hrun, hen, v, L, rfl, ⟨hQ, hN⟩, hF⟩
theorem GoK.entry {as' : Array Value} {n : Nat} (q : entryFrame m as' n = mkF m 0 Ls []) (G : GoK p e below D T (mkF m 0 Ls [])) : GoK p e below D T (entryFrame m as' n) := q ▸ G
theorem go_nameI {x : Int32} (G : ∀ z : Int32, z = x → GoK p e below D T (mkF m pc Ls (.int z :: St))) : GoK p e below D T (mkF m pc Ls (.int x :: St)) := G x rfl
theorem go_nameJ {x : Int64} (G : ∀ z : Int64, z = x → GoK p e below D T (mkF m pc Ls (.long z :: St))) : GoK p e below D T (mkF m pc Ls (.long x :: St)) := G x rfl
/-- the end: what every return has in common -/
theorem go_end {C S : Nat} {Q : Option Value → Heap → Prop} {v : Option Value} {g : JFrame} (X : OnK p l e R s m args below meth c n0 T h cells slots) (hlk : meth.locks = false) (hv : meth.sig.returnType = none → v = none) (hc : cells ≤ C) (hs : slots ≤ S) (q : Q v h)
    (st : ∀ {locs : List Loc}, Stand p l e R s m args below meth c T locs cells slots → ∀ {fs : List Frame}, (∀ (f : JFrame) (acts : List Action), f.method = m → f.locked = none → f.entered = [] → (doReturn e (T.setTop f) acts v).1 = T.setFrames fs) → Steps p.tables e below (T.setTop g) (T.setFrames fs)) :
    GoK p e below (DoneK s below n0 C S Q) T g := by
  obtain ⟨locs, X, rfl, N⟩ := X
  obtain ⟨fs, hr, hrun, hended, hW, hsame⟩ := X.leave (v := v) hv hlk
  exact ⟨_, st X hr, hrun, v, locs, hended, q, N, ⟨_, rfl⟩, hW, hsame.mono hc hs⟩
theorem go_retI {C S : Nat} {P : Int32 → Heap → Prop} {x : Int32} (X : OnK p l e R s m args below meth c n0 T h cells slots) (hx : p.tables.exec = Jvm.exec) (hret : meth.sig.returnType = some .int) (hlk : meth.locks = false) (hd : decode c.code pc = .ok (.ireturn, 1)) (hc : cells ≤ C) (hs : slots ≤ S) (q : P x h) : GoK p e below (DoneK s below n0 C S (QI P)) T (mkF m pc Ls (.int x :: St)) := by
  refine go_end (v := some (.int x)) X hlk (fun q => by rw [hret] at q; cases q) hc hs ⟨_, rfl, q⟩ ?_
  intro locs Y fs hr
  have hm' : T.vm.method? m = some meth := Y.method'
  have hn : narrow .int (.int x) = .int x := rfl
  show Steps p.tables e below (T.setTop { method := m, pc := pc, locals := Ls, stack := _ :: St, locked := none }) _
  jvm_step Y.here [Y.here.top, hx, hd, hm', hret, hn]
  first | (intro acts; rw [hr _ acts rfl rfl rfl]) | rw [hr _ _ rfl rfl rfl]
  exact Steps.refl _
theorem go_retN {C S : Nat} {P : Int32 → Heap → Prop} {x : Int32} {t : FieldType} (X : OnK p l e R s m args below meth c n0 T h cells slots) (hx : p.tables.exec = Jvm.exec) (hret : meth.sig.returnType = some t) (ht : t = .boolean ∨ t = .byte ∨ t = .char ∨ t = .short) (hlk : meth.locks = false) (hd : decode c.code pc = .ok (.ireturn, 1)) (hc : cells ≤ C) (hs : slots ≤ S) (q : P (nar t x) h) : GoK p e below (DoneK s below n0 C S (QI P)) T (mkF m pc Ls (.int x :: St)) := by
  refine go_end (v := some (.int (nar t x))) X hlk (fun q => by rw [hret] at q; cases q) hc hs ⟨_, rfl, q⟩ ?_
  intro locs Y fs hr
  exact retN Y hx hret ht hd hr
theorem go_retV {C S : Nat} {P : Heap → Prop} (X : OnK p l e R s m args below meth c n0 T h cells slots) (hx : p.tables.exec = Jvm.exec) (hret : meth.sig.returnType = none) (hlk : meth.locks = false) (hd : decode c.code pc = .ok (.return_, 1)) (hc : cells ≤ C) (hs : slots ≤ S) (q : P h) : GoK p e below (DoneK s below n0 C S (QV P)) T (mkF m pc Ls []) := by
  refine go_end (v := none) X hlk (fun _ => rfl) hc hs ⟨rfl, q⟩ ?_
  intro locs Y fs hr
  exact Y.returnOut hx hret hd hr
theorem go_retJ {C S : Nat} {P : Int64 → Heap → Prop} {x : Int64} (X : OnK p l e R s m args below meth c n0 T h cells slots) (hx : p.tables.exec = Jvm.exec) (hret : meth.sig.returnType = some .long) (hlk : meth.locks = false) (hd : decode c.code pc = .ok (.lreturn, 1)) (hc : cells ≤ C) (hs : slots ≤ S) (q : P x h) : GoK p e below (DoneK s below n0 C S (QJ P)) T (mkF m pc Ls (.long x :: St)) := by
  refine go_end (v := some (.long x)) X hlk (fun q => by rw [hret] at q; cases q) hc hs ⟨_, rfl, q⟩ ?_
  intro locs Y fs hr
  exact retOut Y hx hret rfl (Or.inr (Or.inl ⟨rfl, rfl, _, rfl⟩)) hd hr
theorem go_retA {C S : Nat} {P : Addr → Heap → Prop} {x : Addr} {t : FieldType} (X : OnK p l e R s m args below meth c n0 T h cells slots) (hx : p.tables.exec = Jvm.exec) (hret : meth.sig.returnType = some t) (ht : t.isReference = true) (hnr : narrow t (.ref x) = .ref x) (hlk : meth.locks = false) (hd : decode c.code pc = .ok (.areturn, 1)) (hc : cells ≤ C) (hs : slots ≤ S) (q : P x h) : GoK p e below (DoneK s below n0 C S (QA P)) T (mkF m pc Ls (.ref x :: St)) := by
  refine go_end (v := some (.ref x)) X hlk (fun q => by rw [hret] at q; cases q) hc hs ⟨_, rfl, q⟩ ?_
  intro locs Y fs hr
  exact retOut Y hx hret hnr (Or.inr (Or.inr (Or.inr (Or.inr ⟨rfl, ht, rfl⟩)))) hd hr
theorem go_iadd (X : OnK p l e R s m args below meth c n0 T h cells slots) (hx : p.tables.exec = Jvm.exec) {x y : Int32} (hd : decode c.code pc = .ok (.iadd, 1)) (hp : pc + 1 = pc') (G : GoK p e below D T (mkF m pc' Ls (.int (x + y) :: St))) : GoK p e below D T (mkF m pc Ls (.int y :: .int x :: St)) := by
  subst hp
  exact GoK.by (fun t k => XS.iadd X.at hx rfl hd rfl k) G
theorem go_isub (X : OnK p l e R s m args below meth c n0 T h cells slots) (hx : p.tables.exec = Jvm.exec) {x y : Int32} (hd : decode c.code pc = .ok (.isub, 1)) (hp : pc + 1 = pc') (G : GoK p e below D T (mkF m pc' Ls (.int (x - y) :: St))) : GoK p e below D T (mkF m pc Ls (.int y :: .int x :: St)) := by
  subst hp
  exact GoK.by (fun t k => XS.isub X.at hx rfl hd rfl k) G
theorem go_imul (X : OnK p l e R s m args below meth c n0 T h cells slots) (hx : p.tables.exec = Jvm.exec) {x y : Int32} (hd : decode c.code pc = .ok (.imul, 1)) (hp : pc + 1 = pc') (G : GoK p e below D T (mkF m pc' Ls (.int (x * y) :: St))) : GoK p e below D T (mkF m pc Ls (.int y :: .int x :: St)) := by
  subst hp
  exact GoK.by (fun t k => XS.imul X.at hx rfl hd rfl k) G
theorem go_iand (X : OnK p l e R s m args below meth c n0 T h cells slots) (hx : p.tables.exec = Jvm.exec) {x y : Int32} (hd : decode c.code pc = .ok (.iand, 1)) (hp : pc + 1 = pc') (G : GoK p e below D T (mkF m pc' Ls (.int (x &&& y) :: St))) : GoK p e below D T (mkF m pc Ls (.int y :: .int x :: St)) := by
  subst hp
  exact GoK.by (fun t k => XS.iand X.at hx rfl hd rfl k) G
theorem go_ior (X : OnK p l e R s m args below meth c n0 T h cells slots) (hx : p.tables.exec = Jvm.exec) {x y : Int32} (hd : decode c.code pc = .ok (.ior, 1)) (hp : pc + 1 = pc') (G : GoK p e below D T (mkF m pc' Ls (.int (x ||| y) :: St))) : GoK p e below D T (mkF m pc Ls (.int y :: .int x :: St)) := by
  subst hp
  exact GoK.by (fun t k => XS.ior X.at hx rfl hd rfl k) G
theorem go_ixor (X : OnK p l e R s m args below meth c n0 T h cells slots) (hx : p.tables.exec = Jvm.exec) {x y : Int32} (hd : decode c.code pc = .ok (.ixor, 1)) (hp : pc + 1 = pc') (G : GoK p e below D T (mkF m pc' Ls (.int (x ^^^ y) :: St))) : GoK p e below D T (mkF m pc Ls (.int y :: .int x :: St)) := by
  subst hp
  exact GoK.by (fun t k => XS.ixor X.at hx rfl hd rfl k) G
theorem go_ishl (X : OnK p l e R s m args below meth c n0 T h cells slots) (hx : p.tables.exec = Jvm.exec) {x y : Int32} (hd : decode c.code pc = .ok (.ishl, 1)) (hp : pc + 1 = pc') (G : GoK p e below D T (mkF m pc' Ls (.int (x <<< (y &&& 31)) :: St))) : GoK p e below D T (mkF m pc Ls (.int y :: .int x :: St)) := by
  subst hp
  exact GoK.by (fun t k => XS.ishl X.at hx rfl hd rfl k) G
theorem go_ishr (X : OnK p l e R s m args below meth c n0 T h cells slots) (hx : p.tables.exec = Jvm.exec) {x y : Int32} (hd : decode c.code pc = .ok (.ishr, 1)) (hp : pc + 1 = pc') (G : GoK p e below D T (mkF m pc' Ls (.int (x >>> (y &&& 31)) :: St))) : GoK p e below D T (mkF m pc Ls (.int y :: .int x :: St)) := by
  subst hp
  exact GoK.by (fun t k => XS.ishr X.at hx rfl hd rfl k) G
theorem go_iushr (X : OnK p l e R s m args below meth c n0 T h cells slots) (hx : p.tables.exec = Jvm.exec) {x y : Int32} (hd : decode c.code pc = .ok (.iushr, 1)) (hp : pc + 1 = pc') (G : GoK p e below D T (mkF m pc' Ls (.int ((x.toUInt32 >>> (y &&& 31).toUInt32).toInt32) :: St))) : GoK p e below D T (mkF m pc Ls (.int y :: .int x :: St)) := by
  subst hp
  exact GoK.by (fun t k => XS.iushr X.at hx rfl hd rfl k) G
theorem go_ladd (X : OnK p l e R s m args below meth c n0 T h cells slots) (hx : p.tables.exec = Jvm.exec) {x y : Int64} (hd : decode c.code pc = .ok (.ladd, 1)) (hp : pc + 1 = pc') (G : GoK p e below D T (mkF m pc' Ls (.long (x + y) :: St))) : GoK p e below D T (mkF m pc Ls (.long y :: .long x :: St)) := by
  subst hp
  exact GoK.by (fun t k => XS.ladd X.at hx rfl hd rfl k) G
theorem go_lsub (X : OnK p l e R s m args below meth c n0 T h cells slots) (hx : p.tables.exec = Jvm.exec) {x y : Int64} (hd : decode c.code pc = .ok (.lsub, 1)) (hp : pc + 1 = pc') (G : GoK p e below D T (mkF m pc' Ls (.long (x - y) :: St))) : GoK p e below D T (mkF m pc Ls (.long y :: .long x :: St)) := by
  subst hp
  exact GoK.by (fun t k => XS.lsub X.at hx rfl hd rfl k) G
theorem go_lmul (X : OnK p l e R s m args below meth c n0 T h cells slots) (hx : p.tables.exec = Jvm.exec) {x y : Int64} (hd : decode c.code pc = .ok (.lmul, 1)) (hp : pc + 1 = pc') (G : GoK p e below D T (mkF m pc' Ls (.long (x * y) :: St))) : GoK p e below D T (mkF m pc Ls (.long y :: .long x :: St)) := by
  subst hp
  exact GoK.by (fun t k => XS.lmul X.at hx rfl hd rfl k) G
theorem go_land (X : OnK p l e R s m args below meth c n0 T h cells slots) (hx : p.tables.exec = Jvm.exec) {x y : Int64} (hd : decode c.code pc = .ok (.land, 1)) (hp : pc + 1 = pc') (G : GoK p e below D T (mkF m pc' Ls (.long (x &&& y) :: St))) : GoK p e below D T (mkF m pc Ls (.long y :: .long x :: St)) := by
  subst hp
  exact GoK.by (fun t k => XS.land X.at hx rfl hd rfl k) G
theorem go_lor (X : OnK p l e R s m args below meth c n0 T h cells slots) (hx : p.tables.exec = Jvm.exec) {x y : Int64} (hd : decode c.code pc = .ok (.lor, 1)) (hp : pc + 1 = pc') (G : GoK p e below D T (mkF m pc' Ls (.long (x ||| y) :: St))) : GoK p e below D T (mkF m pc Ls (.long y :: .long x :: St)) := by
  subst hp
  exact GoK.by (fun t k => XS.lor X.at hx rfl hd rfl k) G
theorem go_lxor (X : OnK p l e R s m args below meth c n0 T h cells slots) (hx : p.tables.exec = Jvm.exec) {x y : Int64} (hd : decode c.code pc = .ok (.lxor, 1)) (hp : pc + 1 = pc') (G : GoK p e below D T (mkF m pc' Ls (.long (x ^^^ y) :: St))) : GoK p e below D T (mkF m pc Ls (.long y :: .long x :: St)) := by
  subst hp
  exact GoK.by (fun t k => XS.lxor X.at hx rfl hd rfl k) G
theorem go_lshl (X : OnK p l e R s m args below meth c n0 T h cells slots) (hx : p.tables.exec = Jvm.exec) {x : Int64} {y : Int32} (hd : decode c.code pc = .ok (.lshl, 1)) (hp : pc + 1 = pc') (G : GoK p e below D T (mkF m pc' Ls (.long (x <<< (y &&& 0x3f).toInt64) :: St))) : GoK p e below D T (mkF m pc Ls (.int y :: .long x :: St)) := by
  subst hp
  exact GoK.by (fun t k => XS.lshl X.at hx rfl hd rfl k) G
theorem go_lshr (X : OnK p l e R s m args below meth c n0 T h cells slots) (hx : p.tables.exec = Jvm.exec) {x : Int64} {y : Int32} (hd : decode c.code pc = .ok (.lshr, 1)) (hp : pc + 1 = pc') (G : GoK p e below D T (mkF m pc' Ls (.long (x >>> (y &&& 0x3f).toInt64) :: St))) : GoK p e below D T (mkF m pc Ls (.int y :: .long x :: St)) := by
  subst hp
  exact GoK.by (fun t k => XS.lshr X.at hx rfl hd rfl k) G
theorem go_lushr (X : OnK p l e R s m args below meth c n0 T h cells slots) (hx : p.tables.exec = Jvm.exec) {x : Int64} {y : Int32} (hd : decode c.code pc = .ok (.lushr, 1)) (hp : pc + 1 = pc') (G : GoK p e below D T (mkF m pc' Ls (.long ((x.toUInt64 >>> (y &&& 0x3f).toInt64.toUInt64).toInt64) :: St))) : GoK p e below D T (mkF m pc Ls (.int y :: .long x :: St)) := by
  subst hp
  exact GoK.by (fun t k => XS.lushr X.at hx rfl hd rfl k) G
theorem go_idiv (X : OnK p l e R s m args below meth c n0 T h cells slots) (hx : p.tables.exec = Jvm.exec) {x y : Int32} (hd : decode c.code pc = .ok (.idiv, 1)) (hp : pc + 1 = pc') (hy : y ≠ 0) (G : GoK p e below D T (mkF m pc' Ls (.int (x / y) :: St))) : GoK p e below D T (mkF m pc Ls (.int y :: .int x :: St)) := by
  subst hp
  exact GoK.by (fun t k => XS.idiv X.at hx rfl hd rfl hy k) G
theorem go_ldiv (X : OnK p l e R s m args below meth c n0 T h cells slots) (hx : p.tables.exec = Jvm.exec) {x y : Int64} (hd : decode c.code pc = .ok (.ldiv, 1)) (hp : pc + 1 = pc') (hy : y ≠ 0) (G : GoK p e below D T (mkF m pc' Ls (.long (x / y) :: St))) : GoK p e below D T (mkF m pc Ls (.long y :: .long x :: St)) := by
  subst hp
  exact GoK.by (fun t k => XS.ldiv X.at hx rfl hd rfl hy k) G
theorem go_irem (X : OnK p l e R s m args below meth c n0 T h cells slots) (hx : p.tables.exec = Jvm.exec) {x y : Int32} (hd : decode c.code pc = .ok (.irem, 1)) (hp : pc + 1 = pc') (hy : y ≠ 0) (G : GoK p e below D T (mkF m pc' Ls (.int (x % y) :: St))) : GoK p e below D T (mkF m pc Ls (.int y :: .int x :: St)) := by
  subst hp
  obtain ⟨_, Y, -, -⟩ := X
  exact GoK.by (fun t k => iremM Y hx rfl hd rfl hy k) G
theorem go_lrem (X : OnK p l e R s m args below meth c n0 T h cells slots) (hx : p.tables.exec = Jvm.exec) {x y : Int64} (hd : decode c.code pc = .ok (.lrem, 1)) (hp : pc + 1 = pc') (hy : y ≠ 0) (G : GoK p e below D T (mkF m pc' Ls (.long (x % y) :: St))) : GoK p e below D T (mkF m pc Ls (.long y :: .long x :: St)) := by
  subst hp
  rw [← lrem_mod] at G
  exact GoK.by (fun t k => XS.lrem X.at hx rfl hd rfl hy k) G
theorem go_ineg (X : OnK p l e R s m args below meth c n0 T h cells slots) (hx : p.tables.exec = Jvm.exec) {x : Int32} (hd : decode c.code pc = .ok (.ineg, 1)) (hp : pc + 1 = pc') (G : GoK p e below D T (mkF m pc' Ls (.int (-x) :: St))) : GoK p e below D T (mkF m pc Ls (.int x :: St)) := by
  subst hp
  exact GoK.by (fun t k => XS.ineg X.at hx rfl hd rfl k) G
theorem go_lneg (X : OnK p l e R s m args below meth c n0 T h cells slots) (hx : p.tables.exec = Jvm.exec) {x : Int64} (hd : decode c.code pc = .ok (.lneg, 1)) (hp : pc + 1 = pc') (G : GoK p e below D T (mkF m pc' Ls (.long (-x) :: St))) : GoK p e below D T (mkF m pc Ls (.long x :: St)) := by
  subst hp
  exact GoK.by (fun t k => XS.lneg X.at hx rfl hd rfl k) G
theorem go_i2l (X : OnK p l e R s m args below meth c n0 T h cells slots) (hx : p.tables.exec = Jvm.exec) {x : Int32} (hd : decode c.code pc = .ok (.i2l, 1)) (hp : pc + 1 = pc') (G : GoK p e below D T (mkF m pc' Ls (.long (x.toInt64) :: St))) : GoK p e below D T (mkF m pc Ls (.int x :: St)) := by
  subst hp
  exact GoK.by (fun t k => XS.i2l X.at hx rfl hd rfl k) G
theorem go_l2i (X : OnK p l e R s m args below meth c n0 T h cells slots) (hx : p.tables.exec = Jvm.exec) {x : Int64} (hd : decode c.code pc = .ok (.l2i, 1)) (hp : pc + 1 = pc') (G : GoK p e below D T (mkF m pc' Ls (.int (x.toInt32) :: St))) : GoK p e below D T (mkF m pc Ls (.long x :: St)) := by
  subst hp
  exact GoK.by (fun t k => XS.l2i X.at hx rfl hd rfl k) G
theorem go_i2b (X : OnK p l e R s m args below meth c n0 T h cells slots) (hx : p.tables.exec = Jvm.exec) {x : Int32} (hd : decode c.code pc = .ok (.i2b, 1)) (hp : pc + 1 = pc') (G : GoK p e below D T (mkF m pc' Ls (.int (x.toInt8.toInt32) :: St))) : GoK p e below D T (mkF m pc Ls (.int x :: St)) := by
  subst hp
  exact GoK.by (fun t k => XS.i2b X.at hx rfl hd rfl k) G
theorem go_i2s (X : OnK p l e R s m args below meth c n0 T h cells slots) (hx : p.tables.exec = Jvm.exec) {x : Int32} (hd : decode c.code pc = .ok (.i2s, 1)) (hp : pc + 1 = pc') (G : GoK p e below D T (mkF m pc' Ls (.int (x.toInt16.toInt32) :: St))) : GoK p e below D T (mkF m pc Ls (.int x :: St)) := by
  subst hp
  exact GoK.by (fun t k => XS.i2s X.at hx rfl hd rfl k) G
theorem go_i2c (X : OnK p l e R s m args below meth c n0 T h cells slots) (hx : p.tables.exec = Jvm.exec) {x : Int32} (hd : decode c.code pc = .ok (.i2c, 1)) (hp : pc + 1 = pc') (G : GoK p e below D T (mkF m pc' Ls (.int (x.toUInt32.toUInt16.toUInt32.toInt32) :: St))) : GoK p e below D T (mkF m pc Ls (.int x :: St)) := by
  subst hp
  exact GoK.by (fun t k => XS.i2c X.at hx rfl hd rfl k) G
theorem go_dup (X : OnK p l e R s m args below meth c n0 T h cells slots) (hx : p.tables.exec = Jvm.exec) {v : Value} (hd : decode c.code pc = .ok (.dup, 1)) (hp : pc + 1 = pc') (hv : v.category = 1) (G : GoK p e below D T (mkF m pc' Ls (v :: v :: St))) : GoK p e below D T (mkF m pc Ls (v :: St)) := by
  subst hp
  exact GoK.by (fun t k => XS.dup X.at hx rfl hd rfl hv k) G
theorem go_pop (X : OnK p l e R s m args below meth c n0 T h cells slots) (hx : p.tables.exec = Jvm.exec) {v : Value} (hd : decode c.code pc = .ok (.pop, 1)) (hp : pc + 1 = pc') (hv : v.category = 1) (G : GoK p e below D T (mkF m pc' Ls St)) : GoK p e below D T (mkF m pc Ls (v :: St)) := by
  subst hp
  exact GoK.by (fun t k => XS.pop X.at hx rfl hd rfl hv k) G
theorem go_iload (X : OnK p l e R s m args below meth c n0 T h cells slots) (hx : p.tables.exec = Jvm.exec) {k : Nat} {v : Int32} (hd : decode c.code pc = .ok (.iload k, 2)) (hp : pc + 2 = pc') (hl : Ls[k]? = some (.val (.int v))) (G : GoK p e below D T (mkF m pc' Ls (.int v :: St))) : GoK p e below D T (mkF m pc Ls St) := by
  subst hp
  exact GoK.by (fun t k => XS.iload X.at hx rfl hd hl k) G
theorem go_lload (X : OnK p l e R s m args below meth c n0 T h cells slots) (hx : p.tables.exec = Jvm.exec) {k : Nat} {v : Int64} (hd : decode c.code pc = .ok (.lload k, 2)) (hp : pc + 2 = pc') (hl : Ls[k]? = some (.val (.long v))) (G : GoK p e below D T (mkF m pc' Ls (.long v :: St))) : GoK p e below D T (mkF m pc Ls St) := by
  subst hp
  exact GoK.by (fun t k => XS.lload X.at hx rfl hd hl k) G
theorem go_aload (X : OnK p l e R s m args below meth c n0 T h cells slots) (hx : p.tables.exec = Jvm.exec) {k : Nat} {v : Addr} (hd : decode c.code pc = .ok (.aload k, 2)) (hp : pc + 2 = pc') (hl : Ls[k]? = some (.val (.ref v))) (G : GoK p e below D T (mkF m pc' Ls (.ref v :: St))) : GoK p e below D T (mkF m pc Ls St) := by
  subst hp
  exact GoK.by (fun t k => XS.aload X.at hx rfl hd hl rfl k) G
theorem go_istore (X : OnK p l e R s m args below meth c n0 T h cells slots) (hx : p.tables.exec = Jvm.exec) {k : Nat} {v : Int32} {L' : Array Slot} (hd : decode c.code pc = .ok (.istore k, 2)) (hp : pc + 2 = pc') (hl : storeLocals Ls k (.int v) = some L') (G : GoK p e below D T (mkF m pc' L' St)) : GoK p e below D T (mkF m pc Ls (.int v :: St)) := by
  subst hp
  exact GoK.by (fun t k => XS.istore X.at hx rfl hd rfl hl k) G
theorem go_lstore (X : OnK p l e R s m args below meth c n0 T h cells slots) (hx : p.tables.exec = Jvm.exec) {k : Nat} {v : Int64} {L' : Array Slot} (hd : decode c.code pc = .ok (.lstore k, 2)) (hp : pc + 2 = pc') (hl : storeLocals Ls k (.long v) = some L') (G : GoK p e below D T (mkF m pc' L' St)) : GoK p e below D T (mkF m pc Ls (.long v :: St)) := by
  subst hp
  exact GoK.by (fun t k => XS.lstore X.at hx rfl hd rfl hl k) G
theorem go_astore (X : OnK p l e R s m args below meth c n0 T h cells slots) (hx : p.tables.exec = Jvm.exec) {k : Nat} {v : Addr} {L' : Array Slot} (hd : decode c.code pc = .ok (.astore k, 2)) (hp : pc + 2 = pc') (hl : storeLocals Ls k (.ref v) = some L') (G : GoK p e below D T (mkF m pc' L' St)) : GoK p e below D T (mkF m pc Ls (.ref v :: St)) := by
  subst hp
  exact GoK.by (fun t k => XS.astore X.at hx rfl hd rfl rfl hl k) G
theorem go_iloadN (X : OnK p l e R s m args below meth c n0 T h cells slots) (hx : p.tables.exec = Jvm.exec) {k : Fin 4} {v : Int32} (hd : decode c.code pc = .ok (.iload_n k, 1)) (hp : pc + 1 = pc') (hl : Ls[k.val]? = some (.val (.int v))) (G : GoK p e below D T (mkF m pc' Ls (.int v :: St))) : GoK p e below D T (mkF m pc Ls St) := by
  subst hp
  exact GoK.by (fun t k => XS.iloadN X.at hx rfl hd hl k) G
theorem go_lloadN (X : OnK p l e R s m args below meth c n0 T h cells slots) (hx : p.tables.exec = Jvm.exec) {k : Fin 4} {v : Int64} (hd : decode c.code pc = .ok (.lload_n k, 1)) (hp : pc + 1 = pc') (hl : Ls[k.val]? = some (.val (.long v))) (G : GoK p e below D T (mkF m pc' Ls (.long v :: St))) : GoK p e below D T (mkF m pc Ls St) := by
  subst hp
  exact GoK.by (fun t k => XS.lloadN X.at hx rfl hd hl k) G
theorem go_aloadN (X : OnK p l e R s m args below meth c n0 T h cells slots) (hx : p.tables.exec = Jvm.exec) {k : Fin 4} {v : Addr} (hd : decode c.code pc = .ok (.aload_n k, 1)) (hp : pc + 1 = pc') (hl : Ls[k.val]? = some (.val (.ref v))) (G : GoK p e below D T (mkF m pc' Ls (.ref v :: St))) : GoK p e below D T (mkF m pc Ls St) := by
  subst hp
  exact GoK.by (fun t k => XS.aloadN X.at hx rfl hd hl rfl k) G
theorem go_istoreN (X : OnK p l e R s m args below meth c n0 T h cells slots) (hx : p.tables.exec = Jvm.exec) {k : Fin 4} {v : Int32} {L' : Array Slot} (hd : decode c.code pc = .ok (.istore_n k, 1)) (hp : pc + 1 = pc') (hl : storeLocals Ls k.val (.int v) = some L') (G : GoK p e below D T (mkF m pc' L' St)) : GoK p e below D T (mkF m pc Ls (.int v :: St)) := by
  subst hp
  exact GoK.by (fun t k => XS.istoreN X.at hx rfl hd rfl hl k) G
theorem go_lstoreN (X : OnK p l e R s m args below meth c n0 T h cells slots) (hx : p.tables.exec = Jvm.exec) {k : Fin 4} {v : Int64} {L' : Array Slot} (hd : decode c.code pc = .ok (.lstore_n k, 1)) (hp : pc + 1 = pc') (hl : storeLocals Ls k.val (.long v) = some L') (G : GoK p e below D T (mkF m pc' L' St)) : GoK p e below D T (mkF m pc Ls (.long v :: St)) := by
  subst hp
  exact GoK.by (fun t k => XS.lstoreN X.at hx rfl hd rfl hl k) G
theorem go_astoreN (X : OnK p l e R s m args below meth c n0 T h cells slots) (hx : p.tables.exec = Jvm.exec) {k : Fin 4} {v : Addr} {L' : Array Slot} (hd : decode c.code pc = .ok (.astore_n k, 1)) (hp : pc + 1 = pc') (hl : storeLocals Ls k.val (.ref v) = some L') (G : GoK p e below D T (mkF m pc' L' St)) : GoK p e below D T (mkF m pc Ls (.ref v :: St)) := by
  subst hp
  exact GoK.by (fun t k => XS.astoreN X.at hx rfl hd rfl rfl hl k) G
theorem go_iinc (X : OnK p l e R s m args below meth c n0 T h cells slots) (hx : p.tables.exec = Jvm.exec) {k : Nat} {i : Int} {v w : Int32} {L' : Array Slot} (hd : decode c.code pc = .ok (.iinc k i, 3)) (hp : pc + 3 = pc') (hl : Ls[k]? = some (.val (.int v))) (hi : v + Int32.ofInt i = w) (hs : storeLocals Ls k (.int w) = some L') (G : GoK p e below D T (mkF m pc' L' St)) : GoK p e below D T (mkF m pc Ls St) := by
  subst hp
  exact GoK.by (fun t k => XS.iinc X.at hx rfl hd hl (hi.symm ▸ hs) k) G
theorem go_iconst (X : OnK p l e R s m args below meth c n0 T h cells slots) (hx : p.tables.exec = Jvm.exec) {i : Int} {v : Int32} (hd : decode c.code pc = .ok (.iconst i, 1)) (hp : pc + 1 = pc') (hv : Int32.ofInt i = v) (G : GoK p e below D T (mkF m pc' Ls (.int v :: St))) : GoK p e below D T (mkF m pc Ls St) := by
  subst hp
  exact GoK.by (fun t k => Jvm.Free.XT.iconstV X.at hx rfl v hd hv k) G
theorem go_bipush (X : OnK p l e R s m args below meth c n0 T h cells slots) (hx : p.tables.exec = Jvm.exec) {i : Int} {v : Int32} (hd : decode c.code pc = .ok (.bipush i, 2)) (hp : pc + 2 = pc') (hv : (Int8.ofInt i).toInt32 = v) (G : GoK p e below D T (mkF m pc' Ls (.int v :: St))) : GoK p e below D T (mkF m pc Ls St) := by
  subst hp
  exact GoK.by (fun t k => Jvm.Free.XT.bipushV X.at hx rfl v hd hv k) G
theorem go_sipush (X : OnK p l e R s m args below meth c n0 T h cells slots) (hx : p.tables.exec = Jvm.exec) {i : Int} {v : Int32} (hd : decode c.code pc = .ok (.sipush i, 3)) (hp : pc + 3 = pc') (hv : (Int16.ofInt i).toInt32 = v) (G : GoK p e below D T (mkF m pc' Ls (.int v :: St))) : GoK p e below D T (mkF m pc Ls St) := by
  subst hp
  exact GoK.by (fun t k => Jvm.Free.XT.sipushV X.at hx rfl v hd hv k) G
theorem go_lconst (X : OnK p l e R s m args below meth c n0 T h cells slots) (hx : p.tables.exec = Jvm.exec) {i : Fin 2} {v : Int64} (hd : decode c.code pc = .ok (.lconst i, 1)) (hp : pc + 1 = pc') (hv : Int64.ofNat i = v) (G : GoK p e below D T (mkF m pc' Ls (.long v :: St))) : GoK p e below D T (mkF m pc Ls St) := by
  subst hp
  exact GoK.by (fun t k => Jvm.Free.XT.lconstV X.at hx rfl v hd hv k) G
theorem go_goto (X : OnK p l e R s m args below meth c n0 T h cells slots) (hx : p.tables.exec = Jvm.exec) {o : Int} (hd : decode c.code pc = .ok (.goto o, 3)) (ho : 0 ≤ (pc : Int) + o) (hp : ((pc : Int) + o).toNat = pc') (G : GoK p e below D T (mkF m pc' Ls St)) : GoK p e below D T (mkF m pc Ls St) :=
  GoK.by (fun t k => XS.goto X.at hx rfl rfl hd ho hp k) G
theorem go_dup2 (X : OnK p l e R s m args below meth c n0 T h cells slots) (hx : p.tables.exec = Jvm.exec) {j : Int32} {a : Addr} (hd : decode c.code pc = .ok (.dup2, 1)) (hp : pc + 1 = pc') (G : GoK p e below D T (mkF m pc' Ls (.int j :: .ref a :: .int j :: .ref a :: St))) : GoK p e below D T (mkF m pc Ls (.int j :: .ref a :: St)) := by
  subst hp
  refine GoK.by (fun t k => ?_) G
  jvm_step X.at [X.at.top, hx, hd, Value.category]
  exact k
theorem go_ldcI (X : OnK p l e R s m args below meth c n0 T h cells slots) (hx : p.tables.exec = Jvm.exec) (hZ : Z.Warmed39 s.vm) {own : String} {i : Nat} {v : Int32} (hown : s.vm.findClass own = some m.cls) (wd : (Jvm.Cond.constant own i v).before a0 Z = true) (hd : decode c.code pc = .ok (.ldc i, 2)) (hp : pc + 2 = pc') (G : GoK p e below D T (mkF m pc' Ls (.int v :: St))) : GoK p e below D T (mkF m pc Ls St) := by
  subst hp
  obtain ⟨_, Y, -, -⟩ := X
  exact GoK.by (fun t k => Y.ldcInt hx hown (mvT hZ wd) (g := mkF m pc Ls St) rfl hd t k) G
theorem go_ldcwI (X : OnK p l e R s m args below meth c n0 T h cells slots) (hx : p.tables.exec = Jvm.exec) (hZ : Z.Warmed39 s.vm) {own : String} {i : Nat} {v : Int32} (hown : s.vm.findClass own = some m.cls) (wd : (Jvm.Cond.constant own i v).before a0 Z = true) (hd : decode c.code pc = .ok (.ldc_w i, 3)) (hp : pc + 3 = pc') (G : GoK p e below D T (mkF m pc' Ls (.int v :: St))) : GoK p e below D T (mkF m pc Ls St) := by
  subst hp
  obtain ⟨_, Y, -, -⟩ := X
  exact GoK.by (fun t k => Y.ldcwInt hx hown (mvT hZ wd) (g := mkF m pc Ls St) rfl hd t k) G
theorem go_ldc2 (X : OnK p l e R s m args below meth c n0 T h cells slots) (hx : p.tables.exec = Jvm.exec) (hZ : Z.Warmed39 s.vm) {own : String} {i : Nat} {v : Int64} (hown : s.vm.findClass own = some m.cls) (wd : (Jvm.Cond.constantLong own i v).before a0 Z = true) (hd : decode c.code pc = .ok (.ldc2_w i, 3)) (hp : pc + 3 = pc') (G : GoK p e below D T (mkF m pc' Ls (.long v :: St))) : GoK p e below D T (mkF m pc Ls St) := by
  subst hp
  obtain ⟨_, Y, -, -⟩ := X
  exact GoK.by (fun t k => Y.ldc2Long hx hown (mvT hZ wd) (g := mkF m pc Ls St) rfl hd t k) G
theorem go_ifeq (X : OnK p l e R s m args below meth c n0 T h cells slots) (hx : p.tables.exec = Jvm.exec) {x : Int32} {o : Int} {pcT : Nat} (hd : decode c.code pc = .ok (.ifCond .eq o, 3)) (hp : pc + 3 = pc') (ho : 0 ≤ (pc : Int) + o) (ht : ((pc : Int) + o).toNat = pcT) (G1 : x = 0 → GoK p e below D T (mkF m pcT Ls St)) (G2 : ¬ x = 0 → GoK p e below D T (mkF m pc' Ls St)) : GoK p e below D T (mkF m pc Ls (.int x :: St)) := by
  subst hp
  by_cases q : x = 0
  · exact GoK.by (fun t k => XS.ifYes X.at hx rfl rfl hd rfl ((if0 _ _).trans (teq q).1) ho ht k) (G1 q)
  · exact GoK.by (fun t k => XS.ifNo X.at hx rfl hd rfl ((if0 _ _).trans (feq q).1) k) (G2 q)
theorem go_icmpeq (X : OnK p l e R s m args below meth c n0 T h cells slots) (hx : p.tables.exec = Jvm.exec) {x y : Int32} {o : Int} {pcT : Nat} (hd : decode c.code pc = .ok (.if_icmp .eq o, 3)) (hp : pc + 3 = pc') (ho : 0 ≤ (pc : Int) + o) (ht : ((pc : Int) + o).toNat = pcT) (G1 : x = y → GoK p e below D T (mkF m pcT Ls St)) (G2 : ¬ x = y → GoK p e below D T (mkF m pc' Ls St)) : GoK p e below D T (mkF m pc Ls (.int y :: .int x :: St)) := by
  subst hp
  by_cases q : x = y
  · exact GoK.by (fun t k => XS.icmpYes X.at hx rfl rfl hd rfl (teq q).1 ho ht k) (G1 q)
  · exact GoK.by (fun t k => XS.icmpNo X.at hx rfl hd rfl (feq q).1 k) (G2 q)
theorem go_lifeq (X : OnK p l e R s m args below meth c n0 T h cells slots) (hx : p.tables.exec = Jvm.exec) {x y : Int64} {o : Int} {pc1 pcT : Nat} (hd1 : decode c.code pc = .ok (.lcmp, 1)) (hp1 : pc + 1 = pc1) (hd : decode c.code pc1 = .ok (.ifCond .eq o, 3)) (hp : pc1 + 3 = pc') (ho : 0 ≤ (pc1 : Int) + o) (ht : ((pc1 : Int) + o).toNat = pcT) (G1 : x = y → GoK p e below D T (mkF m pcT Ls St)) (G2 : ¬ x = y → GoK p e below D T (mkF m pc' Ls St)) : GoK p e below D T (mkF m pc Ls (.long y :: .long x :: St)) := by
  subst hp1
  refine GoK.by (fun t k => XS.lcmp X.at hx rfl hd1 rfl k) ?_
  exact go_ifeq X hx hd hp ho ht (fun q => G1 ((lw_eq x y).mp q)) (fun q => G2 ((not_congr (lw_eq x y)).mp q))
theorem go_ifne (X : OnK p l e R s m args below meth c n0 T h cells slots) (hx : p.tables.exec = Jvm.exec) {x : Int32} {o : Int} {pcT : Nat} (hd : decode c.code pc = .ok (.ifCond .ne o, 3)) (hp : pc + 3 = pc') (ho : 0 ≤ (pc : Int) + o) (ht : ((pc : Int) + o).toNat = pcT) (G1 : ¬ x = 0 → GoK p e below D T (mkF m pcT Ls St)) (G2 : x = 0 → GoK p e below D T (mkF m pc' Ls St)) : GoK p e below D T (mkF m pc Ls (.int x :: St)) := by
  subst hp
  by_cases q : ¬ x = 0
  · exact GoK.by (fun t k => XS.ifYes X.at hx rfl rfl hd rfl ((if0 _ _).trans (feq q).2) ho ht k) (G1 q)
  · exact GoK.by (fun t k => XS.ifNo X.at hx rfl hd rfl ((if0 _ _).trans (teq (Classical.not_not.mp q)).2) k) (G2 (Classical.not_not.mp q))
theorem go_icmpne (X : OnK p l e R s m args below meth c n0 T h cells slots) (hx : p.tables.exec = Jvm.exec) {x y : Int32} {o : Int} {pcT : Nat} (hd : decode c.code pc = .ok (.if_icmp .ne o, 3)) (hp : pc + 3 = pc') (ho : 0 ≤ (pc : Int) + o) (ht : ((pc : Int) + o).toNat = pcT) (G1 : ¬ x = y → GoK p e below D T (mkF m pcT Ls St)) (G2 : x = y → GoK p e below D T (mkF m pc' Ls St)) : GoK p e below D T (mkF m pc Ls (.int y :: .int x :: St)) := by
  subst hp
  by_cases q : ¬ x = y
  · exact GoK.by (fun t k => XS.icmpYes X.at hx rfl rfl hd rfl (feq q).2 ho ht k) (G1 q)
  · exact GoK.by (fun t k => XS.icmpNo X.at hx rfl hd rfl (teq (Classical.not_not.mp q)).2 k) (G2 (Classical.not_not.mp q))
theorem go_lifne (X : OnK p l e R s m args below meth c n0 T h cells slots) (hx : p.tables.exec = Jvm.exec) {x y : Int64} {o : Int} {pc1 pcT : Nat} (hd1 : decode c.code pc = .ok (.lcmp, 1)) (hp1 : pc + 1 = pc1) (hd : decode c.code pc1 = .ok (.ifCond .ne o, 3)) (hp : pc1 + 3 = pc') (ho : 0 ≤ (pc1 : Int) + o) (ht : ((pc1 : Int) + o).toNat = pcT) (G1 : ¬ x = y → GoK p e below D T (mkF m pcT Ls St)) (G2 : x = y → GoK p e below D T (mkF m pc' Ls St)) : GoK p e below D T (mkF m pc Ls (.long y :: .long x :: St)) := by
  subst hp1
  refine GoK.by (fun t k => XS.lcmp X.at hx rfl hd1 rfl k) ?_
  exact go_ifne X hx hd hp ho ht (fun q => G1 ((not_congr (lw_eq x y)).mp q)) (fun q => G2 ((lw_eq x y).mp q))
theorem go_iflt (X : OnK p l e R s m args below meth c n0 T h cells slots) (hx : p.tables.exec = Jvm.exec) {x : Int32} {o : Int} {pcT : Nat} (hd : decode c.code pc = .ok (.ifCond .lt o, 3)) (hp : pc + 3 = pc') (ho : 0 ≤ (pc : Int) + o) (ht : ((pc : Int) + o).toNat = pcT) (G1 : x < 0 → GoK p e below D T (mkF m pcT Ls St)) (G2 : ¬ x < 0 → GoK p e below D T (mkF m pc' Ls St)) : GoK p e below D T (mkF m pc Ls (.int x :: St)) := by
  subst hp
  by_cases q : x < 0
  · exact GoK.by (fun t k => XS.ifYes X.at hx rfl rfl hd rfl ((if0 _ _).trans (tlt q).1) ho ht k) (G1 q)
  · exact GoK.by (fun t k => XS.ifNo X.at hx rfl hd rfl ((if0 _ _).trans (flt q).1) k) (G2 q)
theorem go_icmplt (X : OnK p l e R s m args below meth c n0 T h cells slots) (hx : p.tables.exec = Jvm.exec) {x y : Int32} {o : Int} {pcT : Nat} (hd : decode c.code pc = .ok (.if_icmp .lt o, 3)) (hp : pc + 3 = pc') (ho : 0 ≤ (pc : Int) + o) (ht : ((pc : Int) + o).toNat = pcT) (G1 : x < y → GoK p e below D T (mkF m pcT Ls St)) (G2 : ¬ x < y → GoK p e below D T (mkF m pc' Ls St)) : GoK p e below D T (mkF m pc Ls (.int y :: .int x :: St)) := by
  subst hp
  by_cases q : x < y
  · exact GoK.by (fun t k => XS.icmpYes X.at hx rfl rfl hd rfl (tlt q).1 ho ht k) (G1 q)
  · exact GoK.by (fun t k => XS.icmpNo X.at hx rfl hd rfl (flt q).1 k) (G2 q)
theorem go_liflt (X : OnK p l e R s m args below meth c n0 T h cells slots) (hx : p.tables.exec = Jvm.exec) {x y : Int64} {o : Int} {pc1 pcT : Nat} (hd1 : decode c.code pc = .ok (.lcmp, 1)) (hp1 : pc + 1 = pc1) (hd : decode c.code pc1 = .ok (.ifCond .lt o, 3)) (hp : pc1 + 3 = pc') (ho : 0 ≤ (pc1 : Int) + o) (ht : ((pc1 : Int) + o).toNat = pcT) (G1 : x < y → GoK p e below D T (mkF m pcT Ls St)) (G2 : ¬ x < y → GoK p e below D T (mkF m pc' Ls St)) : GoK p e below D T (mkF m pc Ls (.long y :: .long x :: St)) := by
  subst hp1
  refine GoK.by (fun t k => XS.lcmp X.at hx rfl hd1 rfl k) ?_
  exact go_iflt X hx hd hp ho ht (fun q => G1 ((lw_lt x y).mp q)) (fun q => G2 ((not_congr (lw_lt x y)).mp q))
theorem go_ifge (X : OnK p l e R s m args below meth c n0 T h cells slots) (hx : p.tables.exec = Jvm.exec) {x : Int32} {o : Int} {pcT : Nat} (hd : decode c.code pc = .ok (.ifCond .ge o, 3)) (hp : pc + 3 = pc') (ho : 0 ≤ (pc : Int) + o) (ht : ((pc : Int) + o).toNat = pcT) (G1 : ¬ x < 0 → GoK p e below D T (mkF m pcT Ls St)) (G2 : x < 0 → GoK p e below D T (mkF m pc' Ls St)) : GoK p e below D T (mkF m pc Ls (.int x :: St)) := by
  subst hp
  by_cases q : ¬ x < 0
  · exact GoK.by (fun t k => XS.ifYes X.at hx rfl rfl hd rfl ((if0 _ _).trans (flt q).2.1) ho ht k) (G1 q)
  · exact GoK.by (fun t k => XS.ifNo X.at hx rfl hd rfl ((if0 _ _).trans (tlt (Classical.not_not.mp q)).2.1) k) (G2 (Classical.not_not.mp q))
theorem go_icmpge (X : OnK p l e R s m args below meth c n0 T h cells slots) (hx : p.tables.exec = Jvm.exec) {x y : Int32} {o : Int} {pcT : Nat} (hd : decode c.code pc = .ok (.if_icmp .ge o, 3)) (hp : pc + 3 = pc') (ho : 0 ≤ (pc : Int) + o) (ht : ((pc : Int) + o).toNat = pcT) (G1 : ¬ x < y → GoK p e below D T (mkF m pcT Ls St)) (G2 : x < y → GoK p e below D T (mkF m pc' Ls St)) : GoK p e below D T (mkF m pc Ls (.int y :: .int x :: St)) := by
  subst hp
  by_cases q : ¬ x < y
  · exact GoK.by (fun t k => XS.icmpYes X.at hx rfl rfl hd rfl (flt q).2.1 ho ht k) (G1 q)
  · exact GoK.by (fun t k => XS.icmpNo X.at hx rfl hd rfl (tlt (Classical.not_not.mp q)).2.1 k) (G2 (Classical.not_not.mp q))
theorem go_lifge (X : OnK p l e R s m args below meth c n0 T h cells slots) (hx : p.tables.exec = Jvm.exec) {x y : Int64} {o : Int} {pc1 pcT : Nat} (hd1 : decode c.code pc = .ok (.lcmp, 1)) (hp1 : pc + 1 = pc1) (hd : decode c.code pc1 = .ok (.ifCond .ge o, 3)) (hp : pc1 + 3 = pc') (ho : 0 ≤ (pc1 : Int) + o) (ht : ((pc1 : Int) + o).toNat = pcT) (G1 : ¬ x < y → GoK p e below D T (mkF m pcT Ls St)) (G2 : x < y → GoK p e below D T (mkF m pc' Ls St)) : GoK p e below D T (mkF m pc Ls (.long y :: .long x :: St)) := by
  subst hp1
  refine GoK.by (fun t k => XS.lcmp X.at hx rfl hd1 rfl k) ?_
  exact go_ifge X hx hd hp ho ht (fun q => G1 ((not_congr (lw_lt x y)).mp q)) (fun q => G2 ((lw_lt x y).mp q))
theorem go_ifgt (X : OnK p l e R s m args below meth c n0 T h cells slots) (hx : p.tables.exec = Jvm.exec) {x : Int32} {o : Int} {pcT : Nat} (hd : decode c.code pc = .ok (.ifCond .gt o, 3)) (hp : pc + 3 = pc') (ho : 0 ≤ (pc : Int) + o) (ht : ((pc : Int) + o).toNat = pcT) (G1 : 0 < x → GoK p e below D T (mkF m pcT Ls St)) (G2 : ¬ 0 < x → GoK p e below D T (mkF m pc' Ls St)) : GoK p e below D T (mkF m pc Ls (.int x :: St)) := by
  subst hp
  by_cases q : 0 < x
  · exact GoK.by (fun t k => XS.ifYes X.at hx rfl rfl hd rfl ((if0 _ _).trans (tlt q).2.2.1) ho ht k) (G1 q)
  · exact GoK.by (fun t k => XS.ifNo X.at hx rfl hd rfl ((if0 _ _).trans (flt q).2.2.1) k) (G2 q)
theorem go_icmpgt (X : OnK p l e R s m args below meth c n0 T h cells slots) (hx : p.tables.exec = Jvm.exec) {x y : Int32} {o : Int} {pcT : Nat} (hd : decode c.code pc = .ok (.if_icmp .gt o, 3)) (hp : pc + 3 = pc') (ho : 0 ≤ (pc : Int) + o) (ht : ((pc : Int) + o).toNat = pcT) (G1 : y < x → GoK p e below D T (mkF m pcT Ls St)) (G2 : ¬ y < x → GoK p e below D T (mkF m pc' Ls St)) : GoK p e below D T (mkF m pc Ls (.int y :: .int x :: St)) := by
  subst hp
  by_cases q : y < x
  · exact GoK.by (fun t k => XS.icmpYes X.at hx rfl rfl hd rfl (tlt q).2.2.1 ho ht k) (G1 q)
  · exact GoK.by (fun t k => XS.icmpNo X.at hx rfl hd rfl (flt q).2.2.1 k) (G2 q)
theorem go_lifgt (X : OnK p l e R s m args below meth c n0 T h cells slots) (hx : p.tables.exec = Jvm.exec) {x y : Int64} {o : Int} {pc1 pcT : Nat} (hd1 : decode c.code pc = .ok (.lcmp, 1)) (hp1 : pc + 1 = pc1) (hd : decode c.code pc1 = .ok (.ifCond .gt o, 3)) (hp : pc1 + 3 = pc') (ho : 0 ≤ (pc1 : Int) + o) (ht : ((pc1 : Int) + o).toNat = pcT) (G1 : y < x → GoK p e below D T (mkF m pcT Ls St)) (G2 : ¬ y < x → GoK p e below D T (mkF m pc' Ls St)) : GoK p e below D T (mkF m pc Ls (.long y :: .long x :: St)) := by
  subst hp1
  refine GoK.by (fun t k => XS.lcmp X.at hx rfl hd1 rfl k) ?_
  exact go_ifgt X hx hd hp ho ht (fun q => G1 ((lw_gt x y).mp q)) (fun q => G2 ((not_congr (lw_gt x y)).mp q))
theorem go_ifle (X : OnK p l e R s m args below meth c n0 T h cells slots) (hx : p.tables.exec = Jvm.exec) {x : Int32} {o : Int} {pcT : Nat} (hd : decode c.code pc = .ok (.ifCond .le o, 3)) (hp : pc + 3 = pc') (ho : 0 ≤ (pc : Int) + o) (ht : ((pc : Int) + o).toNat = pcT) (G1 : ¬ 0 < x → GoK p e below D T (mkF m pcT Ls St)) (G2 : 0 < x → GoK p e below D T (mkF m pc' Ls St)) : GoK p e below D T (mkF m pc Ls (.int x :: St)) := by
  subst hp
  by_cases q : ¬ 0 < x
  · exact GoK.by (fun t k => XS.ifYes X.at hx rfl rfl hd rfl ((if0 _ _).trans (flt q).2.2.2) ho ht k) (G1 q)
  · exact GoK.by (fun t k => XS.ifNo X.at hx rfl hd rfl ((if0 _ _).trans (tlt (Classical.not_not.mp q)).2.2.2) k) (G2 (Classical.not_not.mp q))
theorem go_icmple (X : OnK p l e R s m args below meth c n0 T h cells slots) (hx : p.tables.exec = Jvm.exec) {x y : Int32} {o : Int} {pcT : Nat} (hd : decode c.code pc = .ok (.if_icmp .le o, 3)) (hp : pc + 3 = pc') (ho : 0 ≤ (pc : Int) + o) (ht : ((pc : Int) + o).toNat = pcT) (G1 : ¬ y < x → GoK p e below D T (mkF m pcT Ls St)) (G2 : y < x → GoK p e below D T (mkF m pc' Ls St)) : GoK p e below D T (mkF m pc Ls (.int y :: .int x :: St)) := by
  subst hp
  by_cases q : ¬ y < x
  · exact GoK.by (fun t k => XS.icmpYes X.at hx rfl rfl hd rfl (flt q).2.2.2 ho ht k) (G1 q)
  · exact GoK.by (fun t k => XS.icmpNo X.at hx rfl hd rfl (tlt (Classical.not_not.mp q)).2.2.2 k) (G2 (Classical.not_not.mp q))
theorem go_lifle (X : OnK p l e R s m args below meth c n0 T h cells slots) (hx : p.tables.exec = Jvm.exec) {x y : Int64} {o : Int} {pc1 pcT : Nat} (hd1 : decode c.code pc = .ok (.lcmp, 1)) (hp1 : pc + 1 = pc1) (hd : decode c.code pc1 = .ok (.ifCond .le o, 3)) (hp : pc1 + 3 = pc') (ho : 0 ≤ (pc1 : Int) + o) (ht : ((pc1 : Int) + o).toNat = pcT) (G1 : ¬ y < x → GoK p e below D T (mkF m pcT Ls St)) (G2 : y < x → GoK p e below D T (mkF m pc' Ls St)) : GoK p e below D T (mkF m pc Ls (.long y :: .long x :: St)) := by
  subst hp1
  refine GoK.by (fun t k => XS.lcmp X.at hx rfl hd1 rfl k) ?_
  exact go_ifle X hx hd hp ho ht (fun q => G1 ((not_congr (lw_gt x y)).mp q)) (fun q => G2 ((lw_gt x y).mp q))
/-- the array at a: of n places, place i holds the int f i -/
def AIK (Z : State) (h : Heap) (a : Addr) (ty : FieldType) (n : Int) (f : Int → Int32) : Prop := ∃ c : Cell, Arr Z h a c ty ∧ (c.slots.size : Int) = n ∧ n < 2147483648 ∧ ∀ i : Nat, (i : Int) < n → c.slots[i]? = some (.int (f i))
def AJK (Z : State) (h : Heap) (a : Addr) (n : Int) (f : Int → Int64) : Prop := ∃ c : Cell, Arr Z h a c .long ∧ (c.slots.size : Int) = n ∧ n < 2147483648 ∧ ∀ i : Nat, (i : Int) < n → c.slots[i]? = some (.long (f i))
theorem AIK.lt {a : Addr} {ty : FieldType} {n : Int} {f : Int → Int32} (F : AIK Z h a ty n f) : a < h.size := by obtain ⟨c, A, -⟩ := F; exact A.lt
theorem AIK.nn {a : Addr} {ty : FieldType} {n : Int} {f : Int → Int32} (F : AIK Z h a ty n f) : 0 ≤ n ∧ n < 2147483648 := by obtain ⟨c, -, S, q, -⟩ := F; exact ⟨by omega, q⟩
theorem AIK.ext {h' : Heap} {a : Addr} {ty : FieldType} {n : Int} {f : Int → Int32} (F : AIK Z h a ty n f) (E : Ext h h') : AIK Z h' a ty n f := by obtain ⟨c, A, r⟩ := F; exact ⟨c, A.ext E, r⟩
theorem AIK.other {h' : Heap} {a b : Addr} {sl : Nat} {v : Value} {ty : FieldType} {n : Int} {f : Int → Int32} (F : AIK Z h b ty n f) (W : Wr h h' a sl v) (q : b ≠ a) : AIK Z h' b ty n f := by obtain ⟨c, A, r⟩ := F; exact ⟨c, A.other W q, r⟩
theorem AIK.keep {h' : Heap} {a : Addr} {ws : List Addr} {ty : FieldType} {n : Int} {f : Int → Int32} (F : AIK Z h a ty n f) (K : Keep h h' ws) (q : a ∉ ws) : AIK Z h' a ty n f := by obtain ⟨c, A, r⟩ := F; exact ⟨c, ⟨K.2.1 a c A.1 q, A.2⟩, r⟩
theorem AIK.of_arv {a : Addr} {k : ClassId} {ty : FieldType} {z : Int32} {n : Int} {x : Int32} (F : Arv Z h a k ty z [] (.int x)) (q : z.toInt = n) : AIK Z h a ty n (fun _ => x) := by
  obtain ⟨c, A, -, S, M, H, -⟩ := F
  rw [Int32.lt_iff_toInt_lt] at M
  have hz : (0 : Int32).toInt = 0 := rfl
  have hr := rng32 z
  have S' : c.slots.size = z.toInt.toNat := S
  refine ⟨c, A, by omega, by omega, fun i hi => ?_⟩
  exact (H i (by omega)).trans rfl
theorem AIK.set {h' : Heap} {a : Addr} {j : Int32} {ty : FieldType} {n : Int} {f : Int → Int32} {x : Int32} (F : AIK Z h a ty n f) (W : Wr h h' a j.toNatClampNeg (.int x)) (h1 : 0 ≤ j.toInt) (h2 : j.toInt < n) : AIK Z h' a ty n (fun i => if i = j.toInt then x else f i) := by
  obtain ⟨c, A, S, M, H⟩ := F
  have hj : j.toNatClampNeg = j.toInt.toNat := rfl
  refine ⟨_, A.same W, ?_, M, fun i hi => ?_⟩
  · show (((c.slots.setIfInBounds j.toNatClampNeg (Value.int x)).size : Nat) : Int) = n
    rw [Array.size_setIfInBounds]; exact S
  · show (c.slots.setIfInBounds j.toNatClampNeg (Value.int x))[i]? = _
    rw [Array.getElem?_setIfInBounds]
    by_cases q : j.toNatClampNeg = i
    · have hi' : (i : Int) = j.toInt := by omega
      rw [if_pos q, if_pos (by omega)]
      show some (Value.int x) = some (Value.int (if (i : Int) = j.toInt then x else f i))
      rw [if_pos hi']
    · have hi' : ¬ (i : Int) = j.toInt := by omega
      rw [if_neg q]
      show _ = some (Value.int (if (i : Int) = j.toInt then x else f i))
      rw [if_neg hi']; exact H i hi
theorem AIK.get {a : Addr} {j : Int32} {ty : FieldType} {n : Int} {f : Int → Int32} (F : AIK Z h a ty n f) (h1 : 0 ≤ j.toInt) (h2 : j.toInt < n) : ∃ c : Cell, Arr Z h a c ty ∧ ¬ (j < 0 ∨ c.slots.size ≤ j.toNatClampNeg) ∧ c.slots[j.toNatClampNeg]? = some (.int (f j.toInt)) := by
  obtain ⟨c, A, S, M, H⟩ := F
  have hj : j.toNatClampNeg = j.toInt.toNat := rfl
  refine ⟨c, A, ?_, ?_⟩
  · rw [Int32.lt_iff_toInt_lt]
    have hz : (0 : Int32).toInt = 0 := rfl
    omega
  · rw [hj, H j.toInt.toNat (by omega), Int.toNat_of_nonneg h1]
theorem AIK.congr {a : Addr} {ty : FieldType} {n : Int} {f g : Int → Int32} (F : AIK Z h a ty n f) (q : ∀ i : Int, 0 ≤ i → i < n → f i = g i) : AIK Z h a ty n g := by
  obtain ⟨c, A, S, M, H⟩ := F
  exact ⟨c, A, S, M, fun i hi => by rw [H i hi, q i (by omega) hi]⟩
theorem AJK.lt {a : Addr} {n : Int} {f : Int → Int64} (F : AJK Z h a n f) : a < h.size := by obtain ⟨c, A, -⟩ := F; exact A.lt
theorem AJK.nn {a : Addr} {n : Int} {f : Int → Int64} (F : AJK Z h a n f) : 0 ≤ n ∧ n < 2147483648 := by obtain ⟨c, -, S, q, -⟩ := F; exact ⟨by omega, q⟩
theorem AJK.ext {h' : Heap} {a : Addr} {n : Int} {f : Int → Int64} (F : AJK Z h a n f) (E : Ext h h') : AJK Z h' a n f := by obtain ⟨c, A, r⟩ := F; exact ⟨c, A.ext E, r⟩
theorem AJK.other {h' : Heap} {a b : Addr} {sl : Nat} {v : Value} {n : Int} {f : Int → Int64} (F : AJK Z h b n f) (W : Wr h h' a sl v) (q : b ≠ a) : AJK Z h' b n f := by obtain ⟨c, A, r⟩ := F; exact ⟨c, A.other W q, r⟩
theorem AJK.keep {h' : Heap} {a : Addr} {ws : List Addr} {n : Int} {f : Int → Int64} (F : AJK Z h a n f) (K : Keep h h' ws) (q : a ∉ ws) : AJK Z h' a n f := by obtain ⟨c, A, r⟩ := F; exact ⟨c, ⟨K.2.1 a c A.1 q, A.2⟩, r⟩
theorem AJK.of_arv {a : Addr} {k : ClassId} {z : Int32} {n : Int} {x : Int64} (F : Arv Z h a k .long z [] (.long x)) (q : z.toInt = n) : AJK Z h a n (fun _ => x) := by
  obtain ⟨c, A, -, S, M, H, -⟩ := F
  rw [Int32.lt_iff_toInt_lt] at M
  have hz : (0 : Int32).toInt = 0 := rfl
  have hr := rng32 z
  have S' : c.slots.size = z.toInt.toNat := S
  refine ⟨c, A, by omega, by omega, fun i hi => ?_⟩
  exact (H i (by omega)).trans rfl
theorem AJK.set {h' : Heap} {a : Addr} {j : Int32} {n : Int} {f : Int → Int64} {x : Int64} (F : AJK Z h a n f) (W : Wr h h' a j.toNatClampNeg (.long x)) (h1 : 0 ≤ j.toInt) (h2 : j.toInt < n) : AJK Z h' a n (fun i => if i = j.toInt then x else f i) := by
  obtain ⟨c, A, S, M, H⟩ := F
  have hj : j.toNatClampNeg = j.toInt.toNat := rfl
  refine ⟨_, A.same W, ?_, M, fun i hi => ?_⟩
  · show (((c.slots.setIfInBounds j.toNatClampNeg (Value.long x)).size : Nat) : Int) = n
    rw [Array.size_setIfInBounds]; exact S
  · show (c.slots.setIfInBounds j.toNatClampNeg (Value.long x))[i]? = _
    rw [Array.getElem?_setIfInBounds]
    by_cases q : j.toNatClampNeg = i
    · have hi' : (i : Int) = j.toInt := by omega
      rw [if_pos q, if_pos (by omega)]
      show some (Value.long x) = some (Value.long (if (i : Int) = j.toInt then x else f i))
      rw [if_pos hi']
    · have hi' : ¬ (i : Int) = j.toInt := by omega
      rw [if_neg q]
      show _ = some (Value.long (if (i : Int) = j.toInt then x else f i))
      rw [if_neg hi']; exact H i hi
theorem AJK.get {a : Addr} {j : Int32} {n : Int} {f : Int → Int64} (F : AJK Z h a n f) (h1 : 0 ≤ j.toInt) (h2 : j.toInt < n) : ∃ c : Cell, Arr Z h a c .long ∧ ¬ (j < 0 ∨ c.slots.size ≤ j.toNatClampNeg) ∧ c.slots[j.toNatClampNeg]? = some (.long (f j.toInt)) := by
  obtain ⟨c, A, S, M, H⟩ := F
  have hj : j.toNatClampNeg = j.toInt.toNat := rfl
  refine ⟨c, A, ?_, ?_⟩
  · rw [Int32.lt_iff_toInt_lt]
    have hz : (0 : Int32).toInt = 0 := rfl
    omega
  · rw [hj, H j.toInt.toNat (by omega), Int.toNat_of_nonneg h1]
theorem AJK.congr {a : Addr} {n : Int} {f g : Int → Int64} (F : AJK Z h a n f) (q : ∀ i : Int, 0 ≤ i → i < n → f i = g i) : AJK Z h a n g := by
  obtain ⟨c, A, S, M, H⟩ := F
  exact ⟨c, A, S, M, fun i hi => by rw [H i hi, q i (by omega) hi]⟩
theorem go_newI (X : OnK p l e R s m args below meth c n0 T h cells slots) (hx : p.tables.exec = Jvm.exec) (hZ : Z.Warmed39 s.vm) {x : Int32} {cap : Nat} {n : Int} (wd : (Jvm.Cond.arrayClass .int).before a0 Z = true) (hd : decode c.code pc = .ok (.newarray .int, 2)) (hp : pc + 2 = pc') (hn : x.toInt = n) (h1 : 0 ≤ n) (h2 : n ≤ cap) (hb : cap * 8 ≤ 536870912) (hc : cells + 1 ≤ R.cells) (hs : slots + cap ≤ R.slots) (hc' : cells + 1 = cells') (hs' : slots + cap = slots') (G : ∀ (T' : State) (h' : Heap) (a : Addr), a = h.size → OnK p l e R s m args below meth c n0 T' h' cells' slots' → Ext h h' → AIK Z h' a .int n (fun _ => 0) → GoK p e below D T' (mkF m (pc') Ls (.ref a :: St))) : GoK p e below D T (mkF m pc Ls (.int x :: St)) := by
  subst hp hc' hs'
  obtain ⟨_, Y, e0, N⟩ := X
  have hz : (0 : Int32).toInt = 0 := rfl
  have q : ¬ x < 0 := by rw [Int32.lt_iff_toInt_lt]; omega
  obtain ⟨T', h', k, Y', e', E, A, st⟩ := newP Y hx hZ (aty := .int) wd e0 (g := mkF m pc Ls (.int x :: St)) rfl hd rfl q (cap := cap) (by show x.toInt.toNat ≤ cap; omega) hb hc hs
  refine GoK.by st (G T' h' _ rfl ⟨_, Y', e', N⟩ E ?_)
  exact AIK.of_arv (Arv.new A q) hn
theorem go_newB (X : OnK p l e R s m args below meth c n0 T h cells slots) (hx : p.tables.exec = Jvm.exec) (hZ : Z.Warmed39 s.vm) {x : Int32} {cap : Nat} {n : Int} (wd : (Jvm.Cond.arrayClass .byte).before a0 Z = true) (hd : decode c.code pc = .ok (.newarray .byte, 2)) (hp : pc + 2 = pc') (hn : x.toInt = n) (h1 : 0 ≤ n) (h2 : n ≤ cap) (hb : cap * 8 ≤ 536870912) (hc : cells + 1 ≤ R.cells) (hs : slots + cap ≤ R.slots) (hc' : cells + 1 = cells') (hs' : slots + cap = slots') (G : ∀ (T' : State) (h' : Heap) (a : Addr), a = h.size → OnK p l e R s m args below meth c n0 T' h' cells' slots' → Ext h h' → AIK Z h' a .byte n (fun _ => 0) → GoK p e below D T' (mkF m (pc') Ls (.ref a :: St))) : GoK p e below D T (mkF m pc Ls (.int x :: St)) := by
  subst hp hc' hs'
  obtain ⟨_, Y, e0, N⟩ := X
  have hz : (0 : Int32).toInt = 0 := rfl
  have q : ¬ x < 0 := by rw [Int32.lt_iff_toInt_lt]; omega
  obtain ⟨T', h', k, Y', e', E, A, st⟩ := newP Y hx hZ (aty := .byte) wd e0 (g := mkF m pc Ls (.int x :: St)) rfl hd rfl q (cap := cap) (by show x.toInt.toNat ≤ cap; omega) hb hc hs
  refine GoK.by st (G T' h' _ rfl ⟨_, Y', e', N⟩ E ?_)
  exact AIK.of_arv (Arv.new A q) hn
theorem go_newC (X : OnK p l e R s m args below meth c n0 T h cells slots) (hx : p.tables.exec = Jvm.exec) (hZ : Z.Warmed39 s.vm) {x : Int32} {cap : Nat} {n : Int} (wd : (Jvm.Cond.arrayClass .char).before a0 Z = true) (hd : decode c.code pc = .ok (.newarray .char, 2)) (hp : pc + 2 = pc') (hn : x.toInt = n) (h1 : 0 ≤ n) (h2 : n ≤ cap) (hb : cap * 8 ≤ 536870912) (hc : cells + 1 ≤ R.cells) (hs : slots + cap ≤ R.slots) (hc' : cells + 1 = cells') (hs' : slots + cap = slots') (G : ∀ (T' : State) (h' : Heap) (a : Addr), a = h.size → OnK p l e R s m args below meth c n0 T' h' cells' slots' → Ext h h' → AIK Z h' a .char n (fun _ => 0) → GoK p e below D T' (mkF m (pc') Ls (.ref a :: St))) : GoK p e below D T (mkF m pc Ls (.int x :: St)) := by
  subst hp hc' hs'
  obtain ⟨_, Y, e0, N⟩ := X
  have hz : (0 : Int32).toInt = 0 := rfl
  have q : ¬ x < 0 := by rw [Int32.lt_iff_toInt_lt]; omega
  obtain ⟨T', h', k, Y', e', E, A, st⟩ := newP Y hx hZ (aty := .char) wd e0 (g := mkF m pc Ls (.int x :: St)) rfl hd rfl q (cap := cap) (by show x.toInt.toNat ≤ cap; omega) hb hc hs
  refine GoK.by st (G T' h' _ rfl ⟨_, Y', e', N⟩ E ?_)
  exact AIK.of_arv (Arv.new A q) hn
theorem go_newZ (X : OnK p l e R s m args below meth c n0 T h cells slots) (hx : p.tables.exec = Jvm.exec) (hZ : Z.Warmed39 s.vm) {x : Int32} {cap : Nat} {n : Int} (wd : (Jvm.Cond.arrayClass .boolean).before a0 Z = true) (hd : decode c.code pc = .ok (.newarray .boolean, 2)) (hp : pc + 2 = pc') (hn : x.toInt = n) (h1 : 0 ≤ n) (h2 : n ≤ cap) (hb : cap * 8 ≤ 536870912) (hc : cells + 1 ≤ R.cells) (hs : slots + cap ≤ R.slots) (hc' : cells + 1 = cells') (hs' : slots + cap = slots') (G : ∀ (T' : State) (h' : Heap) (a : Addr), a = h.size → OnK p l e R s m args below meth c n0 T' h' cells' slots' → Ext h h' → AIK Z h' a .boolean n (fun _ => 0) → GoK p e below D T' (mkF m (pc') Ls (.ref a :: St))) : GoK p e below D T (mkF m pc Ls (.int x :: St)) := by
  subst hp hc' hs'
  obtain ⟨_, Y, e0, N⟩ := X
  have hz : (0 : Int32).toInt = 0 := rfl
  have q : ¬ x < 0 := by rw [Int32.lt_iff_toInt_lt]; omega
  obtain ⟨T', h', k, Y', e', E, A, st⟩ := newP Y hx hZ (aty := .boolean) wd e0 (g := mkF m pc Ls (.int x :: St)) rfl hd rfl q (cap := cap) (by show x.toInt.toNat ≤ cap; omega) hb hc hs
  refine GoK.by st (G T' h' _ rfl ⟨_, Y', e', N⟩ E ?_)
  exact AIK.of_arv (Arv.new A q) hn
theorem go_newJ (X : OnK p l e R s m args below meth c n0 T h cells slots) (hx : p.tables.exec = Jvm.exec) (hZ : Z.Warmed39 s.vm) {x : Int32} {cap : Nat} {n : Int} (wd : (Jvm.Cond.arrayClass .long).before a0 Z = true) (hd : decode c.code pc = .ok (.newarray .long, 2)) (hp : pc + 2 = pc') (hn : x.toInt = n) (h1 : 0 ≤ n) (h2 : n ≤ cap) (hb : cap * 8 ≤ 536870912) (hc : cells + 1 ≤ R.cells) (hs : slots + cap ≤ R.slots) (hc' : cells + 1 = cells') (hs' : slots + cap = slots') (G : ∀ (T' : State) (h' : Heap) (a : Addr), a = h.size → OnK p l e R s m args below meth c n0 T' h' cells' slots' → Ext h h' → AJK Z h' a n (fun _ => 0) → GoK p e below D T' (mkF m (pc') Ls (.ref a :: St))) : GoK p e below D T (mkF m pc Ls (.int x :: St)) := by
  subst hp hc' hs'
  obtain ⟨_, Y, e0, N⟩ := X
  have hz : (0 : Int32).toInt = 0 := rfl
  have q : ¬ x < 0 := by rw [Int32.lt_iff_toInt_lt]; omega
  obtain ⟨T', h', k, Y', e', E, A, st⟩ := newP Y hx hZ (aty := .long) wd e0 (g := mkF m pc Ls (.int x :: St)) rfl hd rfl q (cap := cap) (by show x.toInt.toNat ≤ cap; omega) hb hc hs
  refine GoK.by st (G T' h' _ rfl ⟨_, Y', e', N⟩ E ?_)
  exact AJK.of_arv (Arv.new A q) hn
theorem go_iastore (X : OnK p l e R s m args below meth c n0 T h cells slots) (hx : p.tables.exec = Jvm.exec) (hZ : Z.Warmed39 s.vm) {x : Int32} {j : Int32} {a : Addr} {n : Int} {f : Int → Int32} (A : AIK Z h a .int n f) (ga : n0 ≤ a) (h1 : 0 ≤ j.toInt) (h2 : j.toInt < n) (hd : decode c.code pc = .ok (.iastore, 1)) (hp : pc + 1 = pc') (G : ∀ (T' : State) (h' : Heap), OnK p l e R s m args below meth c n0 T' h' cells slots → Wr h h' a j.toNatClampNeg (.int (x)) → AIK Z h' a .int n (fun i => if i = j.toInt then x else f i) → GoK p e below D T' (mkF m pc' Ls St)) : GoK p e below D T (mkF m pc Ls (.int x :: .int j :: .ref a :: St)) := by
  subst hp
  obtain ⟨_, Y, e0, N⟩ := X
  obtain ⟨cl, Ar, hin, -⟩ := A.get h1 h2
  obtain ⟨T', h', Y', e', W, st⟩ := stI Y hx hZ e0 Ar (j := j) (x := x) hin (g := mkF m pc Ls (.int x :: .int j :: .ref a :: St)) rfl rfl hd
  exact GoK.by st (G T' h' ⟨_, Y', e', Fr.snoc Y' N ga⟩ W (A.set W h1 h2))
theorem go_castore (X : OnK p l e R s m args below meth c n0 T h cells slots) (hx : p.tables.exec = Jvm.exec) (hZ : Z.Warmed39 s.vm) {x : Int32} {j : Int32} {a : Addr} {n : Int} {f : Int → Int32} (A : AIK Z h a .char n f) (ga : n0 ≤ a) (h1 : 0 ≤ j.toInt) (h2 : j.toInt < n) (hd : decode c.code pc = .ok (.castore, 1)) (hp : pc + 1 = pc') (G : ∀ (T' : State) (h' : Heap), OnK p l e R s m args below meth c n0 T' h' cells slots → Wr h h' a j.toNatClampNeg (.int (nar .char x)) → AIK Z h' a .char n (fun i => if i = j.toInt then nar .char x else f i) → GoK p e below D T' (mkF m pc' Ls St)) : GoK p e below D T (mkF m pc Ls (.int x :: .int j :: .ref a :: St)) := by
  subst hp
  obtain ⟨_, Y, e0, N⟩ := X
  obtain ⟨cl, Ar, hin, -⟩ := A.get h1 h2
  obtain ⟨T', h', Y', e', W, st⟩ := stC Y hx hZ e0 Ar (j := j) (x := x) hin (g := mkF m pc Ls (.int x :: .int j :: .ref a :: St)) rfl rfl hd
  exact GoK.by st (G T' h' ⟨_, Y', e', Fr.snoc Y' N ga⟩ W (A.set W h1 h2))
theorem go_bastoreB (X : OnK p l e R s m args below meth c n0 T h cells slots) (hx : p.tables.exec = Jvm.exec) (hZ : Z.Warmed39 s.vm) {x : Int32} {j : Int32} {a : Addr} {n : Int} {f : Int → Int32} (A : AIK Z h a .byte n f) (ga : n0 ≤ a) (h1 : 0 ≤ j.toInt) (h2 : j.toInt < n) (hd : decode c.code pc = .ok (.bastore, 1)) (hp : pc + 1 = pc') (G : ∀ (T' : State) (h' : Heap), OnK p l e R s m args below meth c n0 T' h' cells slots → Wr h h' a j.toNatClampNeg (.int (nar .byte x)) → AIK Z h' a .byte n (fun i => if i = j.toInt then nar .byte x else f i) → GoK p e below D T' (mkF m pc' Ls St)) : GoK p e below D T (mkF m pc Ls (.int x :: .int j :: .ref a :: St)) := by
  subst hp
  obtain ⟨_, Y, e0, N⟩ := X
  obtain ⟨cl, Ar, hin, -⟩ := A.get h1 h2
  obtain ⟨T', h', Y', e', W, st⟩ := stB Y hx hZ e0 Ar (j := j) (x := x) hin (g := mkF m pc Ls (.int x :: .int j :: .ref a :: St)) rfl rfl hd
  exact GoK.by st (G T' h' ⟨_, Y', e', Fr.snoc Y' N ga⟩ W (A.set W h1 h2))
theorem go_bastoreZ (X : OnK p l e R s m args below meth c n0 T h cells slots) (hx : p.tables.exec = Jvm.exec) (hZ : Z.Warmed39 s.vm) {x : Int32} {j : Int32} {a : Addr} {n : Int} {f : Int → Int32} (A : AIK Z h a .boolean n f) (ga : n0 ≤ a) (h1 : 0 ≤ j.toInt) (h2 : j.toInt < n) (hd : decode c.code pc = .ok (.bastore, 1)) (hp : pc + 1 = pc') (G : ∀ (T' : State) (h' : Heap), OnK p l e R s m args below meth c n0 T' h' cells slots → Wr h h' a j.toNatClampNeg (.int (nar .boolean x)) → AIK Z h' a .boolean n (fun i => if i = j.toInt then nar .boolean x else f i) → GoK p e below D T' (mkF m pc' Ls St)) : GoK p e below D T (mkF m pc Ls (.int x :: .int j :: .ref a :: St)) := by
  subst hp
  obtain ⟨_, Y, e0, N⟩ := X
  obtain ⟨cl, Ar, hin, -⟩ := A.get h1 h2
  obtain ⟨T', h', Y', e', W, st⟩ := stZ Y hx hZ e0 Ar (j := j) (x := x) hin (g := mkF m pc Ls (.int x :: .int j :: .ref a :: St)) rfl rfl hd
  exact GoK.by st (G T' h' ⟨_, Y', e', Fr.snoc Y' N ga⟩ W (A.set W h1 h2))
theorem go_lastore (X : OnK p l e R s m args below meth c n0 T h cells slots) (hx : p.tables.exec = Jvm.exec) (hZ : Z.Warmed39 s.vm) {x : Int64} {j : Int32} {a : Addr} {n : Int} {f : Int → Int64} (A : AJK Z h a n f) (ga : n0 ≤ a) (h1 : 0 ≤ j.toInt) (h2 : j.toInt < n) (hd : decode c.code pc = .ok (.lastore, 1)) (hp : pc + 1 = pc') (G : ∀ (T' : State) (h' : Heap), OnK p l e R s m args below meth c n0 T' h' cells slots → Wr h h' a j.toNatClampNeg (.long (x)) → AJK Z h' a n (fun i => if i = j.toInt then x else f i) → GoK p e below D T' (mkF m pc' Ls St)) : GoK p e below D T (mkF m pc Ls (.long x :: .int j :: .ref a :: St)) := by
  subst hp
  obtain ⟨_, Y, e0, N⟩ := X
  obtain ⟨cl, Ar, hin, -⟩ := A.get h1 h2
  obtain ⟨T', h', Y', e', W, st⟩ := stJ Y hx hZ e0 Ar (j := j) (x := x) hin (g := mkF m pc Ls (.long x :: .int j :: .ref a :: St)) rfl rfl hd
  exact GoK.by st (G T' h' ⟨_, Y', e', Fr.snoc Y' N ga⟩ W (A.set W h1 h2))
theorem go_iaload (X : OnK p l e R s m args below meth c n0 T h cells slots) (hx : p.tables.exec = Jvm.exec) (hZ : Z.Warmed39 s.vm) {j : Int32} {a : Addr} {n : Int} {f : Int → Int32} (A : AIK Z h a .int n f) (h1 : 0 ≤ j.toInt) (h2 : j.toInt < n) (hd : decode c.code pc = .ok (.iaload, 1)) (hp : pc + 1 = pc') (G : ∀ z : Int32, z = f j.toInt → GoK p e below D T (mkF m pc' Ls (.int z :: St))) : GoK p e below D T (mkF m pc Ls (.int j :: .ref a :: St)) := by
  subst hp
  obtain ⟨_, Y, e0, N⟩ := X
  obtain ⟨cl, Ar, hin, hv⟩ := A.get h1 h2
  exact GoK.by (fun t k => Y.iaload hx (j := j) (v := .int (f j.toInt)) (by rw [e0]; exact Ar.1) (State.isArrayOf_alike hZ.alike Ar.2.1) Ar.2.2 hin hv (g := mkF m pc Ls (.int j :: .ref a :: St)) rfl rfl hd t k) (G _ rfl)
theorem go_caload (X : OnK p l e R s m args below meth c n0 T h cells slots) (hx : p.tables.exec = Jvm.exec) (hZ : Z.Warmed39 s.vm) {j : Int32} {a : Addr} {n : Int} {f : Int → Int32} (A : AIK Z h a .char n f) (h1 : 0 ≤ j.toInt) (h2 : j.toInt < n) (hd : decode c.code pc = .ok (.caload, 1)) (hp : pc + 1 = pc') (G : ∀ z : Int32, z = f j.toInt → GoK p e below D T (mkF m pc' Ls (.int z :: St))) : GoK p e below D T (mkF m pc Ls (.int j :: .ref a :: St)) := by
  subst hp
  obtain ⟨_, Y, e0, N⟩ := X
  obtain ⟨cl, Ar, hin, hv⟩ := A.get h1 h2
  exact GoK.by (fun t k => Y.caload hx (j := j) (v := .int (f j.toInt)) (by rw [e0]; exact Ar.1) (State.isArrayOf_alike hZ.alike Ar.2.1) Ar.2.2 hin hv (g := mkF m pc Ls (.int j :: .ref a :: St)) rfl rfl hd t k) (G _ rfl)
theorem go_baloadB (X : OnK p l e R s m args below meth c n0 T h cells slots) (hx : p.tables.exec = Jvm.exec) (hZ : Z.Warmed39 s.vm) {j : Int32} {a : Addr} {n : Int} {f : Int → Int32} (A : AIK Z h a .byte n f) (h1 : 0 ≤ j.toInt) (h2 : j.toInt < n) (hd : decode c.code pc = .ok (.baload, 1)) (hp : pc + 1 = pc') (G : ∀ z : Int32, z = f j.toInt → GoK p e below D T (mkF m pc' Ls (.int z :: St))) : GoK p e below D T (mkF m pc Ls (.int j :: .ref a :: St)) := by
  subst hp
  obtain ⟨_, Y, e0, N⟩ := X
  obtain ⟨cl, Ar, hin, hv⟩ := A.get h1 h2
  exact GoK.by (fun t k => Y.baloadBytes hx (j := j) (v := .int (f j.toInt)) (by rw [e0]; exact Ar.1) (State.isArrayOf_alike hZ.alike Ar.2.1) Ar.2.2 hin hv (g := mkF m pc Ls (.int j :: .ref a :: St)) rfl rfl hd t k) (G _ rfl)
theorem go_baloadZ (X : OnK p l e R s m args below meth c n0 T h cells slots) (hx : p.tables.exec = Jvm.exec) (hZ : Z.Warmed39 s.vm) {j : Int32} {a : Addr} {n : Int} {f : Int → Int32} (A : AIK Z h a .boolean n f) (h1 : 0 ≤ j.toInt) (h2 : j.toInt < n) (hd : decode c.code pc = .ok (.baload, 1)) (hp : pc + 1 = pc') (G : ∀ z : Int32, z = f j.toInt → GoK p e below D T (mkF m pc' Ls (.int z :: St))) : GoK p e below D T (mkF m pc Ls (.int j :: .ref a :: St)) := by
  subst hp
  obtain ⟨_, Y, e0, N⟩ := X
  obtain ⟨cl, Ar, hin, hv⟩ := A.get h1 h2
  exact GoK.by (fun t k => Y.baloadBooleans hx (j := j) (v := .int (f j.toInt)) (by rw [e0]; exact Ar.1) (State.isArrayOf_alike hZ.alike Ar.2.1) Ar.2.2 hin hv (g := mkF m pc Ls (.int j :: .ref a :: St)) rfl rfl hd t k) (G _ rfl)
theorem go_laload (X : OnK p l e R s m args below meth c n0 T h cells slots) (hx : p.tables.exec = Jvm.exec) (hZ : Z.Warmed39 s.vm) {j : Int32} {a : Addr} {n : Int} {f : Int → Int64} (A : AJK Z h a n f) (h1 : 0 ≤ j.toInt) (h2 : j.toInt < n) (hd : decode c.code pc = .ok (.laload, 1)) (hp : pc + 1 = pc') (G : ∀ z : Int64, z = f j.toInt → GoK p e below D T (mkF m pc' Ls (.long z :: St))) : GoK p e below D T (mkF m pc Ls (.int j :: .ref a :: St)) := by
  subst hp
  obtain ⟨_, Y, e0, N⟩ := X
  obtain ⟨cl, Ar, hin, hv⟩ := A.get h1 h2
  exact GoK.by (fun t k => Y.laload hx (j := j) (v := .long (f j.toInt)) (by rw [e0]; exact Ar.1) (State.isArrayOf_alike hZ.alike Ar.2.1) Ar.2.2 hin hv (g := mkF m pc Ls (.int j :: .ref a :: St)) rfl rfl hd t k) (G _ rfl)
theorem own_len {k : Nat} {n : Int} (S : (k : Int) = n) (M : n < 2147483648) : (k.toInt32).toInt = n := by
  have e : (k.toInt32).toInt = ((k : Int)).bmod (2 ^ 32) := by
    show (Int32.ofNat k).toInt = _
    exact Int32.toInt_ofNat
  rw [e, Int.bmod_eq_of_le (by omega) (by omega)]; exact S
theorem go_lenI (X : OnK p l e R s m args below meth c n0 T h cells slots) (hx : p.tables.exec = Jvm.exec) (hZ : Z.Warmed39 s.vm) {a : Addr} {n : Int} {ty : FieldType} {f : Int → Int32} (A : AIK Z h a ty n f) (hd : decode c.code pc = .ok (.arraylength, 1)) (hp : pc + 1 = pc') (G : ∀ z : Int32, z.toInt = n → GoK p e below D T (mkF m pc' Ls (.int z :: St))) : GoK p e below D T (mkF m pc Ls (.ref a :: St)) := by
  subst hp
  obtain ⟨_, Y, e0, N⟩ := X
  obtain ⟨cl, Ar, S, M, -⟩ := A
  refine GoK.by (fun t k => Y.arraylength hx (by rw [e0]; exact Ar.1) (State.isArrayOf_alike hZ.alike Ar.2.1) (g := mkF m pc Ls (.ref a :: St)) rfl rfl hd t k) (G _ ?_)
  exact own_len S M
theorem go_lenJ (X : OnK p l e R s m args below meth c n0 T h cells slots) (hx : p.tables.exec = Jvm.exec) (hZ : Z.Warmed39 s.vm) {a : Addr} {n : Int} {f : Int → Int64} (A : AJK Z h a n f) (hd : decode c.code pc = .ok (.arraylength, 1)) (hp : pc + 1 = pc') (G : ∀ z : Int32, z.toInt = n → GoK p e below D T (mkF m pc' Ls (.int z :: St))) : GoK p e below D T (mkF m pc Ls (.ref a :: St)) := by
  subst hp
  obtain ⟨_, Y, e0, N⟩ := X
  obtain ⟨cl, Ar, S, M, -⟩ := A
  refine GoK.by (fun t k => Y.arraylength hx (by rw [e0]; exact Ar.1) (State.isArrayOf_alike hZ.alike Ar.2.1) (g := mkF m pc Ls (.ref a :: St)) rfl rfl hd t k) (G _ ?_)
  exact own_len S M
theorem go_getfield (X : OnK p l e R s m args below meth c n0 T h cells slots) (hx : p.tables.exec = Jvm.exec) (hZ : Z.Warmed39 s.vm) {own O n d : String} {i : Nat} {a : Addr} {v : Value} (hown : s.vm.findClass own = some m.cls) (wd : (Jvm.Cond.fieldLink own i O n d).before a0 Z = true) (F : Fld Z h a O n d v) (hd : decode c.code pc = .ok (.getfield i, 3)) (hp : pc + 3 = pc') (G : ∀ T' : State, OnK p l e R s m args below meth c n0 T' h cells slots → GoK p e below D T' (mkF m pc' Ls (v :: St))) : GoK p e below D T (mkF m pc Ls (.ref a :: St)) := by
  subst hp
  obtain ⟨_, Y, e0, N⟩ := X
  obtain ⟨T', Y', e', st⟩ := getF Y hx hZ hown (host := "") (Or.inl wd) Via.refl e0 F (g := mkF m pc Ls (.ref a :: St)) rfl rfl hd
  exact GoK.by st (G T' ⟨_, Y', e', N⟩)
theorem go_putfield (X : OnK p l e R s m args below meth c n0 T h cells slots) (hx : p.tables.exec = Jvm.exec) (hZ : Z.Warmed39 s.vm) {own O n d C : String} {i kk : Nat} {ty : FieldType} {a : Addr} {v v' old : Value} (hown : s.vm.findClass own = some m.cls) (wd : (Jvm.Cond.fieldLink own i O n d).before a0 Z = true) (F : Fld Z h a O n d old) (E : Exa Z h a C) (L : (Jvm.Cond.lays C O n d).before a0 Z = true ∨ ((Jvm.Cond.laysFinal C O n d).before a0 Z = true ∧ own = O ∧ meth.name = "<init>")) (wi : (Jvm.Cond.instantiable C kk).before a0 Z = true) (ga : n0 ≤ a) (hty : parseFieldDescriptor d = some ty) (hn : narrow ty v = v') (hf : fits ty v' = true) (hd : decode c.code pc = .ok (.putfield i, 3)) (hp : pc + 3 = pc') (G : ∀ (T' : State) (h' : Heap), OnK p l e R s m args below meth c n0 T' h' cells slots → Wr h h' a (slotOf Z O n d) v' → Fld Z h' a O n d v' → GoK p e below D T' (mkF m pc' Ls St)) : GoK p e below D T (mkF m pc Ls (v :: .ref a :: St)) := by
  subst hp
  obtain ⟨_, Y, e0, N⟩ := X
  obtain ⟨T', h', Y', e', W, st⟩ := putFN Y hx hZ hown wd Via.refl e0 F E L wi hty hn hf (g := mkF m pc Ls (v :: .ref a :: St)) rfl rfl hd
  exact GoK.by st (G T' h' ⟨_, Y', e', Fr.snoc Y' N ga⟩ W (F.same W))
theorem go_new (X : OnK p l e R s m args below meth c n0 T h cells slots) (hx : p.tables.exec = Jvm.exec) (hZ : Z.Warmed39 s.vm) {own C : String} {i n : Nat} (hown : s.vm.findClass own = some m.cls) (w1 : (Jvm.Cond.classLink own i C).before a0 Z = true) (w2 : (Jvm.Cond.instantiable C n).before a0 Z = true) (w3 : (Jvm.Cond.initialized C).before a0 Z = true) (hd : decode c.code pc = .ok (.new i, 3)) (hp : pc + 3 = pc') (hc : cells + 1 ≤ R.cells) (hs : slots + n ≤ R.slots) (hc' : cells + 1 = cells') (hs' : slots + n = slots')
    (G : ∀ (T' : State) (h' : Heap) (a : Addr), a = h.size → OnK p l e R s m args below meth c n0 T' h' cells' slots' → Ext h h' → Exa Z h' a C → (∀ {O nm d : String} {ty : FieldType}, Laid Z a0 C O nm d → parseFieldDescriptor d = some ty → Fld Z h' a O nm d (defaultValue ty)) → GoK p e below D T' (mkF m pc' Ls (.ref a :: St))) : GoK p e below D T (mkF m pc Ls St) := by
  subst hp hc' hs'
  obtain ⟨_, Y, e0, N⟩ := X
  obtain ⟨T', h', Y', e', E, A, Dv, -, st⟩ := newO Y hx hZ hown w1 w2 w3 e0 (g := mkF m pc Ls St) rfl hd hc hs
  exact GoK.by st (G T' h' _ rfl ⟨_, Y', e', N⟩ E A Dv)
theorem go_initO (X : OnK p l e R s m args below meth c n0 T h cells slots) (hx : p.tables.exec = Jvm.exec) (hZ : Z.Warmed39 s.vm) {own : String} {i W : Nat} {a : Addr} (hown : s.vm.findClass own = some m.cls) (hml : Ls.size = c.maxLocals) (w1 : (Jvm.Cond.methodLink own i Lib.objectInit).before a0 Z = true) (w2 : (Jvm.Cond.instanceMethod Lib.objectInit).before a0 Z = true) (w3 : (Jvm.Cond.code Lib.objectInit ⟨#[0xb1]⟩ 1 none).before a0 Z = true) (hd : decode c.code pc = .ok (.invokespecial i, 3)) (hp : pc + 3 = pc') (hf : 1 ≤ R.frames) (hW : (St.map fun v => v.category).sum ≤ W) (hl : W + 12 ≤ R.locals) (G : ∀ T' : State, OnK p l e R s m args below meth c n0 T' h cells slots → GoK p e below D T' (mkF m pc' Ls St)) : GoK p e below D T (mkF m pc Ls (.ref a :: St)) := by
  subst hp
  obtain ⟨_, Y, e0, N⟩ := X
  obtain ⟨T', Y', e', st⟩ := initO Y hx hZ hown w1 w2 w3 e0 (g := mkF m pc Ls (.ref a :: St)) rfl hml rfl hd hf (W := W) (by show 2 * 0 + _ ≤ _; omega) hl
  exact GoK.by st (G T' ⟨_, Y', e', N⟩)
theorem go_callS (X : OnK p l e R s m args below meth c n0 T h cells slots) (hx : p.tables.exec = Jvm.exec) (hZ : Z.Warmed39 s.vm) {own : String} {i W ml : Nat} {y : MethodName} {bytes : ByteArray} {ret : Option FieldType} {rm : Room} {Q : Option Value → Heap → Prop} {aL : List Value} {ps : List FieldType} {rt : Option FieldType} (hown : s.vm.findClass own = some m.cls) (hml : Ls.size = c.maxLocals) (wl : (Jvm.Cond.methodLink own i y).before a0 Z = true) (ws : (Jvm.Cond.static y).before a0 Z = true) (wz : (Jvm.Cond.initialized y.cls).before a0 Z = true) (wc : (Jvm.Cond.code y bytes ml ret).before a0 Z = true) (hy : y.cls ≠ "java/lang/invoke/MethodHandle" ∧ y.cls ≠ "java/lang/invoke/VarHandle") (pd : parseMethodDescriptor y.desc = some ⟨ps, rt⟩) (hlen : aL.length = ps.length) (ct : CtK l Z y bytes ml ret rm aL.toArray h n0 Q) (hd : decode c.code pc = .ok (.invokestatic i, 3)) (hp : pc + 3 = pc') (hf : rm.frames + 1 ≤ R.frames) (hW : (St.map fun v => v.category).sum ≤ W) (hlo : W + (ml + 11) + rm.locals ≤ R.locals) (hc : cells + rm.cells ≤ R.cells) (hs : slots + rm.slots ≤ R.slots) (hc' : cells + rm.cells = cells') (hs' : slots + rm.slots = slots') (G : ∀ (T' : State) (h' : Heap) (v : Option Value), OnK p l e R s m args below meth c n0 T' h' cells' slots' → Q v h' → GoK p e below D T' (mkF m pc' Ls (v.toList ++ St))) {S0 : List Value} (hS : S0 = aL.reverse ++ St) : GoK p e below D T (mkF m pc Ls S0) := by
  subst hp hc' hs' hS
  obtain ⟨_, Y, e0, N⟩ := X
  obtain ⟨v, _, ⟨B, L, k, n⟩, -, Y', ⟨Lc, ⟨hQ, hN⟩, el, ec, es⟩, st⟩ := Jvm.LawKit.callS Y hx (y := y) hown (mvT hZ wl) (mvT hZ ws) (mvT hZ wz) (mvT hZ wc) hy (backOf (W := W) (Q := fun v h L => Q v h ∧ Fr n0 L) (ct []) hZ wc wz hf hlo) (g := mkF m pc Ls (aL.reverse ++ St)) rfl hml (argsL := aL) (rest := St) (lenOf pd hlen) rfl (by show 2 * 0 + _ ≤ _; omega) hd (fun _ _ => ⟨rfl, e0, hc, hs⟩)
  dsimp only [Pt.U, Pt.locs, Pt.cells, Pt.slots] at Y' el ec es st hQ
  subst el ec es
  exact GoK.by st (G B _ v ⟨_, Y', rfl, N.app hN⟩ hQ)
theorem go_callC (X : OnK p l e R s m args below meth c n0 T h cells slots) (hx : p.tables.exec = Jvm.exec) (hZ : Z.Warmed39 s.vm) {own : String} {i W ml : Nat} {y : MethodName} {bytes : ByteArray} {rm : Room} {Q : Option Value → Heap → Prop} {aL : List Value} {ps : List FieldType} {rt : Option FieldType} {a : Addr} (hown : s.vm.findClass own = some m.cls) (hml : Ls.size = c.maxLocals) (hi : y.name = "<init>") (wl : (Jvm.Cond.methodLink own i y).before a0 Z = true) (wi : (Jvm.Cond.instanceMethod y).before a0 Z = true) (wz : (Jvm.Cond.initialized y.cls).before a0 Z = true) (wc : (Jvm.Cond.code y bytes ml none).before a0 Z = true) (hy : y.cls ≠ "java/lang/invoke/MethodHandle" ∧ y.cls ≠ "java/lang/invoke/VarHandle") (pd : parseMethodDescriptor y.desc = some ⟨ps, rt⟩) (hlen : aL.length = ps.length) (ct : CtK l Z y bytes ml none rm (.ref a :: aL).toArray h n0 Q) (hd : decode c.code pc = .ok (.invokespecial i, 3)) (hp : pc + 3 = pc') (hf : rm.frames + 1 ≤ R.frames) (hW : (St.map fun v => v.category).sum ≤ W) (hlo : W + (ml + 11) + rm.locals ≤ R.locals) (hc : cells + rm.cells ≤ R.cells) (hs : slots + rm.slots ≤ R.slots) (hc' : cells + rm.cells = cells') (hs' : slots + rm.slots = slots') (G : ∀ (T' : State) (h' : Heap) (v : Option Value), OnK p l e R s m args below meth c n0 T' h' cells' slots' → Q v h' → GoK p e below D T' (mkF m pc' Ls (v.toList ++ St))) {S0 : List Value} (hS : S0 = aL.reverse ++ .ref a :: St) : GoK p e below D T (mkF m pc Ls S0) := by
  subst hp hc' hs' hS
  obtain ⟨_, Y, e0, N⟩ := X
  obtain ⟨v, _, ⟨B, L, k, n⟩, -, Y', ⟨Lc, ⟨hQ, hN⟩, el, ec, es⟩, st⟩ := Y.specialBack hx (y := y) hi hown (mvT hZ wl) (mvT hZ wi) (mvT hZ wc) hy (backOf (W := W) (Q := fun v h L => Q v h ∧ Fr n0 L) (ct []) hZ wc wz hf hlo) (g := mkF m pc Ls (aL.reverse ++ .ref a :: St)) rfl hml (Steps.refl _) (a := a) (argsL := aL) (rest := St) (lenOf pd hlen) rfl (by show 2 * 0 + _ ≤ _; omega) hd (fun _ _ => ⟨rfl, e0, hc, hs⟩)
  dsimp only [Pt.U, Pt.locs, Pt.cells, Pt.slots] at Y' el ec es st hQ
  subst el ec es
  exact GoK.by (fun t k => st.trans k) (G B _ v ⟨_, Y', rfl, N.app hN⟩ hQ)
theorem go_callV (X : OnK p l e R s m args below meth c n0 T h cells slots) (hx : p.tables.exec = Jvm.exec) (hZ : Z.Warmed39 s.vm) {own : String} {i W ml : Nat} {y : MethodName} {bytes : ByteArray} {ret : Option FieldType} {rm : Room} {Q : Option Value → Heap → Prop} {aL : List Value} {ps : List FieldType} {rt : Option FieldType} {a : Addr} (hown : s.vm.findClass own = some m.cls) (hml : Ls.size = c.maxLocals) (E : Exa Z h a y.cls) (wl : (Jvm.Cond.methodLink own i y).before a0 Z = true) (wd : (Jvm.Cond.declares y).before a0 Z = true) (ws : (Jvm.Cond.selects y.cls y y).before a0 Z = true) (wi : (Jvm.Cond.instanceMethod y).before a0 Z = true) (wz : (Jvm.Cond.initialized y.cls).before a0 Z = true) (wc : (Jvm.Cond.code y bytes ml ret).before a0 Z = true) (hy : y.cls ≠ "java/lang/invoke/MethodHandle" ∧ y.cls ≠ "java/lang/invoke/VarHandle") (pd : parseMethodDescriptor y.desc = some ⟨ps, rt⟩) (hlen : aL.length = ps.length) (ct : CtK l Z y bytes ml ret rm (.ref a :: aL).toArray h n0 Q) (hd : decode c.code pc = .ok (.invokevirtual i, 3)) (hp : pc + 3 = pc') (hf : rm.frames + 1 ≤ R.frames) (hW : (St.map fun v => v.category).sum ≤ W) (hlo : W + (ml + 11) + rm.locals ≤ R.locals) (hc : cells + rm.cells ≤ R.cells) (hs : slots + rm.slots ≤ R.slots) (hc' : cells + rm.cells = cells') (hs' : slots + rm.slots = slots') (G : ∀ (T' : State) (h' : Heap) (v : Option Value), OnK p l e R s m args below meth c n0 T' h' cells' slots' → Q v h' → GoK p e below D T' (mkF m pc' Ls (v.toList ++ St))) {S0 : List Value} (hS : S0 = aL.reverse ++ .ref a :: St) : GoK p e below D T (mkF m pc Ls S0) := by
  subst hp hc' hs' hS
  obtain ⟨_, Y, e0, N⟩ := X
  obtain ⟨cq, kq, qa, qb, qc⟩ := isOf hZ e0 E
  obtain ⟨v, _, ⟨B, L, k, n⟩, -, Y', ⟨Lc, ⟨hQ, hN⟩, el, ec, es⟩, st⟩ := Y.virtualBack hx (y := y) (z := y) hown (mvT hZ wl) (mvT hZ wd) (notFace_of_selects (args := #[]) (mvT hZ ws)) (mvT hZ ws) (mvT hZ wi) hy (backOf (W := W) (Q := fun v h L => Q v h ∧ Fr n0 L) (ct []) hZ wc wz hf hlo) qa qc (g := mkF m pc Ls (aL.reverse ++ .ref a :: St)) rfl hml (Steps.refl _) (argsL := aL) (rest := St) (lenOf pd hlen) rfl (by show 2 * 0 + _ ≤ _; omega) hd (fun _ _ => ⟨rfl, e0, hc, hs⟩)
  dsimp only [Pt.U, Pt.locs, Pt.cells, Pt.slots] at Y' el ec es st hQ
  subst el ec es
  exact GoK.by (fun t k => st.trans k) (G B _ v ⟨_, Y', rfl, N.app hN⟩ hQ)
def TwoK (a b : Slot) : Prop := (a = .unset ∧ b = .unset) ∨ ∃ x : Int64, a = .val (.long x) ∧ b = .second
end OwnK
end Jvm.RoadKit
namespace Jvm.Pilot.@@N@@
open Jvm Jvm.ClassFile Sem Op Lib Jvm.Free Jvm.Stand Jvm.LawKit Jvm.RoadKit Bundle Jvm.Pilot.@@N@@.Jvm.D
def own_a3 (x0 x1 x2 : Int32) (i : Int) : Int32 := if i = 0 then x0 else if i = 1 then x1 else x2
def own_adv (o0 o1 o2 c0 c1 c2 s0 s1 s2 a x0 x1 x2 z : Int32) : Prop :=
  (o2 + 1 < c2 ∧ z = a + s2 ∧ x0 = o0 ∧ x1 = o1 ∧ x2 = o2 + 1) ∨
  (¬ o2 + 1 < c2 ∧ o1 + 1 < c1 ∧ z = a + s2 - s2 * c2 + s1 ∧ x0 = o0 ∧ x1 = o1 + 1 ∧ x2 = 0) ∨
  (¬ o2 + 1 < c2 ∧ ¬ o1 + 1 < c1 ∧ o0 + 1 < c0 ∧ z = a + s2 - s2 * c2 + s1 - s1 * c1 + s0 ∧ x0 = o0 + 1 ∧ x1 = 0 ∧ x2 = 0) ∨
  (¬ o2 + 1 < c2 ∧ ¬ o1 + 1 < c1 ∧ ¬ o0 + 1 < c0 ∧ z = a + s2 - s2 * c2 + s1 - s1 * c1 + s0 - s0 * c0 ∧ x0 = 0 ∧ x1 = 0 ∧ x2 = 0)
theorem own_k0 : (0 : Int32).toInt = 0 := rfl
theorem own_k1 : (1 : Int32).toInt = 1 := rfl
theorem own_k2 : (2 : Int32).toInt = 2 := rfl
theorem own_card {v x : Int32} (h : v = 1 + (x &&& 3)) : 1 ≤ v.toInt ∧ v.toInt ≤ 4 := by
  have e : (x &&& 3).toInt = x.toInt % 4 := c_mask x 3 2 (by decide) (by decide)
  have := own_k1
  rw [h, Jvm.Free.XT.add32 ⟨by omega, by omega⟩]; omega
theorem own_ctr {v x c : Int32} (h : v = (x &&& 255) % c) (hc : 1 ≤ c.toInt) : 0 ≤ v.toInt ∧ v.toInt < c.toInt := by
  have e : (x &&& 255).toInt = x.toInt % 256 := c_mask x 255 8 (by decide) (by decide)
  have := (c_iremV (x &&& 255) c).1 (by omega) (by omega)
  rw [h]; omega
theorem own_nz {c : Int32} (h : 1 ≤ c.toInt) : c ≠ 0 := fun q => by rw [q] at h; have := own_k0; omega
theorem own_mul {a b : Int32} {A B : Int} (a1 : 0 ≤ a.toInt) (a2 : a.toInt ≤ A) (b1 : 0 ≤ b.toInt) (b2 : b.toInt ≤ B) (hA : A * B ≤ 1000) : (a * b).toInt = a.toInt * b.toInt ∧ 0 ≤ a.toInt * b.toInt ∧ a.toInt * b.toInt ≤ A * B := by
  have l := Int.mul_nonneg a1 b1
  have u : a.toInt * b.toInt ≤ A * B := Int.mul_le_mul a2 b2 b1 (by omega)
  exact ⟨Jvm.Free.XT.mul32 ⟨by omega, by omega⟩, l, u⟩
theorem own_pos {a b : Int} (h1 : 1 ≤ a) (h2 : 1 ≤ b) : 1 ≤ a * b := by
  have := Int.mul_le_mul h1 h2 (by omega) (by omega); omega
theorem own_mix {C0 C1 C2 O0 O1 O2 : Int} (c01 : 1 ≤ C0) (c04 : C0 ≤ 4) (c11 : 1 ≤ C1) (c14 : C1 ≤ 4) (c21 : 1 ≤ C2) (c24 : C2 ≤ 4) (o01 : 0 ≤ O0) (o02 : O0 < C0) (o11 : 0 ≤ O1) (o12 : O1 < C1) (o21 : 0 ≤ O2) (o22 : O2 < C2) :
    let nx := ((O0 * C1 + O1) * C2 + O2 + 1) % (C0 * C1 * C2)
    (O2 + 1 < C2 → nx % C2 = O2 + 1 ∧ nx / C2 % C1 = O1 ∧ nx / (C2 * C1) = O0) ∧ (O2 + 1 = C2 → O1 + 1 < C1 → nx % C2 = 0 ∧ nx / C2 % C1 = O1 + 1 ∧ nx / (C2 * C1) = O0) ∧
    (O2 + 1 = C2 → O1 + 1 = C1 → O0 + 1 < C0 → nx % C2 = 0 ∧ nx / C2 % C1 = 0 ∧ nx / (C2 * C1) = O0 + 1) ∧ (O2 + 1 = C2 → O1 + 1 = C1 → O0 + 1 = C0 → nx % C2 = 0 ∧ nx / C2 % C1 = 0 ∧ nx / (C2 * C1) = 0) := by
  intro nx
  obtain rfl | rfl | rfl | rfl : C0 = 1 ∨ C0 = 2 ∨ C0 = 3 ∨ C0 = 4 := by omega
  all_goals obtain rfl | rfl | rfl | rfl : C1 = 1 ∨ C1 = 2 ∨ C1 = 3 ∨ C1 = 4 := by omega
  all_goals obtain rfl | rfl | rfl | rfl : C2 = 1 ∨ C2 = 2 ∨ C2 = 3 ∨ C2 = 4 := by omega
  all_goals refine ⟨?_, ?_, ?_, ?_⟩ <;> omega
theorem own_law {o0 o1 o2 c0 c1 c2 s0 s1 s2 a x0 x1 x2 z : Int32} (c01 : 1 ≤ c0.toInt) (c04 : c0.toInt ≤ 4) (c11 : 1 ≤ c1.toInt) (c14 : c1.toInt ≤ 4) (c21 : 1 ≤ c2.toInt) (c24 : c2.toInt ≤ 4)
    (o01 : 0 ≤ o0.toInt) (o02 : o0.toInt < c0.toInt) (o11 : 0 ≤ o1.toInt) (o12 : o1.toInt < c1.toInt) (o21 : 0 ≤ o2.toInt) (o22 : o2.toInt < c2.toInt) (h : own_adv o0 o1 o2 c0 c1 c2 s0 s1 s2 a x0 x1 x2 z) :
    z = a + s0 * (((o0 * c1 + o1) * c2 + o2 + 1) % (c0 * c1 * c2) / (c2 * c1) - o0) + s1 * (((o0 * c1 + o1) * c2 + o2 + 1) % (c0 * c1 * c2) / c2 % c1 - o1) + s2 * (((o0 * c1 + o1) * c2 + o2 + 1) % (c0 * c1 * c2) % c2 - o2) ∧
    x0 = ((o0 * c1 + o1) * c2 + o2 + 1) % (c0 * c1 * c2) / (c2 * c1) ∧ x1 = ((o0 * c1 + o1) * c2 + o2 + 1) % (c0 * c1 * c2) / c2 % c1 ∧ x2 = ((o0 * c1 + o1) * c2 + o2 + 1) % (c0 * c1 * c2) % c2 ∧ c0 * c1 * c2 ≠ 0 ∧ c2 * c1 ≠ 0 := by
  have k0 := own_k0
  have k1 := own_k1
  obtain ⟨e1, l1, u1⟩ := own_mul (a := c0) (b := c1) (A := 4) (B := 4) (by omega) c04 (by omega) c14 (by omega)
  obtain ⟨e2, l2, u2⟩ := own_mul (a := c0 * c1) (b := c2) (A := 16) (B := 4) (by omega) (by omega) (by omega) c24 (by omega)
  obtain ⟨e3, l3, u3⟩ := own_mul (a := c2) (b := c1) (A := 4) (B := 4) (by omega) c24 (by omega) c14 (by omega)
  obtain ⟨e4, l4, u4⟩ := own_mul (a := o0) (b := c1) (A := 4) (B := 4) (by omega) (by omega) (by omega) c14 (by omega)
  have e5 : (o0 * c1 + o1).toInt = o0.toInt * c1.toInt + o1.toInt := by rw [Jvm.Free.XT.add32 ⟨by omega, by omega⟩, e4]
  obtain ⟨e6, l6, u6⟩ := own_mul (a := o0 * c1 + o1) (b := c2) (A := 20) (B := 4) (by omega) (by omega) (by omega) c24 (by omega)
  have e7 : ((o0 * c1 + o1) * c2 + o2).toInt = (o0.toInt * c1.toInt + o1.toInt) * c2.toInt + o2.toInt := by rw [Jvm.Free.XT.add32 ⟨by omega, by omega⟩, e6, e5]
  have e8 : ((o0 * c1 + o1) * c2 + o2 + 1).toInt = (o0.toInt * c1.toInt + o1.toInt) * c2.toInt + o2.toInt + 1 := by
    rw [Jvm.Free.XT.add32 ⟨by rw [e7, k1]; rw [e5] at l6; omega, by rw [e7, k1]; rw [e5] at u6; omega⟩, e7, k1]
  rw [e1] at e2
  rw [e5] at l6
  have p1 := own_pos c01 c11
  have p2 := own_pos p1 c21
  have p3 := own_pos c21 c11
  have n1 : c0 * c1 * c2 ≠ 0 := own_nz (by omega)
  have n2 : c2 * c1 ≠ 0 := own_nz (by omega)
  have d1 : (((o0 * c1 + o1) * c2 + o2 + 1) % (c0 * c1 * c2)).toInt = ((o0.toInt * c1.toInt + o1.toInt) * c2.toInt + o2.toInt + 1) % (c0.toInt * c1.toInt * c2.toInt) := by
    rw [(c_irem _ _ _ e2).1 (by omega), e8]
  obtain ⟨nx, hnx⟩ : ∃ y, y = ((o0 * c1 + o1) * c2 + o2 + 1) % (c0 * c1 * c2) := ⟨_, rfl⟩
  rw [← hnx] at d1 ⊢
  have nn : 0 ≤ nx.toInt := by rw [d1]; exact Int.emod_nonneg _ (by omega)
  have m1 : ∀ {y : Int32}, 1 ≤ y.toInt → y ≠ -1 := fun {y} hy q => by rw [q] at hy; have : (-1 : Int32).toInt = -1 := rfl; omega
  have d2 : (nx % c2).toInt = nx.toInt % c2.toInt := (c_irem _ _ _ rfl).1 nn
  have d3 : (nx / c2).toInt = nx.toInt / c2.toInt := (c_idiv _ _ _ rfl (m1 c21)).1 nn
  have nn3 : 0 ≤ (nx / c2).toInt := by rw [d3]; exact Int.ediv_nonneg nn (by omega)
  have d4 : (nx / c2 % c1).toInt = nx.toInt / c2.toInt % c1.toInt := by rw [(c_irem _ _ _ rfl).1 nn3, d3]
  have d5 : (nx / (c2 * c1)).toInt = nx.toInt / (c2.toInt * c1.toInt) := by rw [(c_idiv _ _ _ e3 (m1 (by omega))).1 nn]
  obtain ⟨g1, g2, g3, g4⟩ := own_mix c01 c04 c11 c14 c21 c24 o01 o02 o11 o12 o21 o22
  rw [← d1] at g1 g2 g3 g4
  have i2 : (o2 + 1).toInt = o2.toInt + 1 := by rw [Jvm.Free.XT.add32 ⟨by omega, by omega⟩, k1]
  have i1 : (o1 + 1).toInt = o1.toInt + 1 := by rw [Jvm.Free.XT.add32 ⟨by omega, by omega⟩, k1]
  have i0 : (o0 + 1).toInt = o0.toInt + 1 := by rw [Jvm.Free.XT.add32 ⟨by omega, by omega⟩, k1]
  simp only [own_adv, Int32.lt_iff_toInt_lt, i0, i1, i2] at h
  refine ⟨?_, ?_, ?_, ?_, n1, n2⟩
  · rcases h with ⟨h2, hz, -, -, -⟩ | ⟨h2, h1, hz, -, -, -⟩ | ⟨h2, h1, h0, hz, -, -, -⟩ | ⟨h2, h1, h0, hz, -, -, -⟩
    · obtain ⟨a1, a2, a3⟩ := g1 h2
      obtain ⟨b2, b1, b0⟩ : nx % c2 = o2 + 1 ∧ nx / c2 % c1 = o1 ∧ nx / (c2 * c1) = o0 := ⟨Int32.toInt_inj.mp (by omega), Int32.toInt_inj.mp (by omega), Int32.toInt_inj.mp (by omega)⟩
      rw [hz, b2, b1, b0]; grind
    · obtain ⟨a1, a2, a3⟩ := g2 (by omega) h1
      obtain ⟨b2, b1, b0⟩ : nx % c2 = 0 ∧ nx / c2 % c1 = o1 + 1 ∧ nx / (c2 * c1) = o0 := ⟨Int32.toInt_inj.mp (by omega), Int32.toInt_inj.mp (by omega), Int32.toInt_inj.mp (by omega)⟩
      have t2 : c2 = o2 + 1 := Int32.toInt_inj.mp (by omega)
      rw [hz, b2, b1, b0, t2]; grind
    · obtain ⟨a1, a2, a3⟩ := g3 (by omega) (by omega) h0
      obtain ⟨b2, b1, b0⟩ : nx % c2 = 0 ∧ nx / c2 % c1 = 0 ∧ nx / (c2 * c1) = o0 + 1 := ⟨Int32.toInt_inj.mp (by omega), Int32.toInt_inj.mp (by omega), Int32.toInt_inj.mp (by omega)⟩
      have t2 : c2 = o2 + 1 := Int32.toInt_inj.mp (by omega)
      have t1 : c1 = o1 + 1 := Int32.toInt_inj.mp (by omega)
      rw [hz, b2, b1, b0, t2, t1]; grind
    · obtain ⟨a1, a2, a3⟩ := g4 (by omega) (by omega) (by omega)
      obtain ⟨b2, b1, b0⟩ : nx % c2 = 0 ∧ nx / c2 % c1 = 0 ∧ nx / (c2 * c1) = 0 := ⟨Int32.toInt_inj.mp (by omega), Int32.toInt_inj.mp (by omega), Int32.toInt_inj.mp (by omega)⟩
      have t2 : c2 = o2 + 1 := Int32.toInt_inj.mp (by omega)
      have t1 : c1 = o1 + 1 := Int32.toInt_inj.mp (by omega)
      have t0 : c0 = o0 + 1 := Int32.toInt_inj.mp (by omega)
      rw [hz, b2, b1, b0, t2, t1, t0]; grind
  · apply Int32.toInt_inj.mp
    rcases h with ⟨h2, -, hx0, hx1, hx2⟩ | ⟨h2, h1, -, hx0, hx1, hx2⟩ | ⟨h2, h1, h0, -, hx0, hx1, hx2⟩ | ⟨h2, h1, h0, -, hx0, hx1, hx2⟩
    · obtain ⟨a1, a2, a3⟩ := g1 h2
      subst hx0 hx1 hx2; omega
    · obtain ⟨a1, a2, a3⟩ := g2 (by omega) h1
      subst hx0 hx1 hx2; omega
    · obtain ⟨a1, a2, a3⟩ := g3 (by omega) (by omega) h0
      subst hx0 hx1 hx2; omega
    · obtain ⟨a1, a2, a3⟩ := g4 (by omega) (by omega) (by omega)
      subst hx0 hx1 hx2; omega
  · apply Int32.toInt_inj.mp
    rcases h with ⟨h2, -, hx0, hx1, hx2⟩ | ⟨h2, h1, -, hx0, hx1, hx2⟩ | ⟨h2, h1, h0, -, hx0, hx1, hx2⟩ | ⟨h2, h1, h0, -, hx0, hx1, hx2⟩
    · obtain ⟨a1, a2, a3⟩ := g1 h2
      subst hx0 hx1 hx2; omega
    · obtain ⟨a1, a2, a3⟩ := g2 (by omega) h1
      subst hx0 hx1 hx2; omega
    · obtain ⟨a1, a2, a3⟩ := g3 (by omega) (by omega) h0
      subst hx0 hx1 hx2; omega
    · obtain ⟨a1, a2, a3⟩ := g4 (by omega) (by omega) (by omega)
      subst hx0 hx1 hx2; omega
  · apply Int32.toInt_inj.mp
    rcases h with ⟨h2, -, hx0, hx1, hx2⟩ | ⟨h2, h1, -, hx0, hx1, hx2⟩ | ⟨h2, h1, h0, -, hx0, hx1, hx2⟩ | ⟨h2, h1, h0, -, hx0, hx1, hx2⟩
    · obtain ⟨a1, a2, a3⟩ := g1 h2
      subst hx0 hx1 hx2; omega
    · obtain ⟨a1, a2, a3⟩ := g2 (by omega) h1
      subst hx0 hx1 hx2; omega
    · obtain ⟨a1, a2, a3⟩ := g3 (by omega) (by omega) h0
      subst hx0 hx1 hx2; omega
    · obtain ⟨a1, a2, a3⟩ := g4 (by omega) (by omega) (by omega)
      subst hx0 hx1 hx2; omega

theorem pd_0 : parseMethodDescriptor "([I[I[II)I" = some ⟨[(.array .int), (.array .int), (.array .int), .int], some .int⟩ := by decide +kernel
theorem d1_0 : decode prog_44_method_4_code 0 = .ok (.iload_n 3, 1) := by decide +kernel
theorem d1_1 : decode prog_44_method_4_code 1 = .ok (.istore 4, 2) := by decide +kernel
theorem d1_3 : decode prog_44_method_4_code 3 = .ok (.aload_n 1, 1) := by decide +kernel
theorem d1_4 : decode prog_44_method_4_code 4 = .ok (.arraylength, 1) := by decide +kernel
theorem d1_5 : decode prog_44_method_4_code 5 = .ok (.iconst 1, 1) := by decide +kernel
theorem d1_6 : decode prog_44_method_4_code 6 = .ok (.isub, 1) := by decide +kernel
theorem d1_7 : decode prog_44_method_4_code 7 = .ok (.istore 5, 2) := by decide +kernel
theorem d1_9 : decode prog_44_method_4_code 9 = .ok (.iload 5, 2) := by decide +kernel
theorem d1_11 : decode prog_44_method_4_code 11 = .ok (.ifCond .lt 59, 3) := by decide +kernel
theorem d1_14 : decode prog_44_method_4_code 14 = .ok (.iload 4, 2) := by decide +kernel
theorem d1_16 : decode prog_44_method_4_code 16 = .ok (.aload_n 2, 1) := by decide +kernel
theorem d1_17 : decode prog_44_method_4_code 17 = .ok (.iload 5, 2) := by decide +kernel
theorem d1_19 : decode prog_44_method_4_code 19 = .ok (.iaload, 1) := by decide +kernel
theorem d1_20 : decode prog_44_method_4_code 20 = .ok (.iadd, 1) := by decide +kernel
theorem d1_21 : decode prog_44_method_4_code 21 = .ok (.istore 4, 2) := by decide +kernel
theorem d1_23 : decode prog_44_method_4_code 23 = .ok (.aload_n 0, 1) := by decide +kernel
theorem d1_24 : decode prog_44_method_4_code 24 = .ok (.iload 5, 2) := by decide +kernel
theorem d1_26 : decode prog_44_method_4_code 26 = .ok (.dup2, 1) := by decide +kernel
theorem d1_27 : decode prog_44_method_4_code 27 = .ok (.iaload, 1) := by decide +kernel
theorem d1_28 : decode prog_44_method_4_code 28 = .ok (.iconst 1, 1) := by decide +kernel
theorem d1_29 : decode prog_44_method_4_code 29 = .ok (.iadd, 1) := by decide +kernel
theorem d1_30 : decode prog_44_method_4_code 30 = .ok (.iastore, 1) := by decide +kernel
theorem d1_31 : decode prog_44_method_4_code 31 = .ok (.aload_n 0, 1) := by decide +kernel
theorem d1_32 : decode prog_44_method_4_code 32 = .ok (.iload 5, 2) := by decide +kernel
theorem d1_34 : decode prog_44_method_4_code 34 = .ok (.iaload, 1) := by decide +kernel
theorem d1_35 : decode prog_44_method_4_code 35 = .ok (.aload_n 1, 1) := by decide +kernel
theorem d1_36 : decode prog_44_method_4_code 36 = .ok (.iload 5, 2) := by decide +kernel
theorem d1_38 : decode prog_44_method_4_code 38 = .ok (.iaload, 1) := by decide +kernel
theorem d1_39 : decode prog_44_method_4_code 39 = .ok (.if_icmp .ge 6, 3) := by decide +kernel
theorem d1_42 : decode prog_44_method_4_code 42 = .ok (.iload 4, 2) := by decide +kernel
theorem d1_44 : decode prog_44_method_4_code 44 = .ok (.ireturn, 1) := by decide +kernel
theorem d1_45 : decode prog_44_method_4_code 45 = .ok (.iload 4, 2) := by decide +kernel
theorem d1_47 : decode prog_44_method_4_code 47 = .ok (.aload_n 2, 1) := by decide +kernel
theorem d1_48 : decode prog_44_method_4_code 48 = .ok (.iload 5, 2) := by decide +kernel
theorem d1_50 : decode prog_44_method_4_code 50 = .ok (.iaload, 1) := by decide +kernel
theorem d1_51 : decode prog_44_method_4_code 51 = .ok (.aload_n 1, 1) := by decide +kernel
theorem d1_52 : decode prog_44_method_4_code 52 = .ok (.iload 5, 2) := by decide +kernel
theorem d1_54 : decode prog_44_method_4_code 54 = .ok (.iaload, 1) := by decide +kernel
theorem d1_55 : decode prog_44_method_4_code 55 = .ok (.imul, 1) := by decide +kernel
theorem d1_56 : decode prog_44_method_4_code 56 = .ok (.isub, 1) := by decide +kernel
theorem d1_57 : decode prog_44_method_4_code 57 = .ok (.istore 4, 2) := by decide +kernel
theorem d1_59 : decode prog_44_method_4_code 59 = .ok (.aload_n 0, 1) := by decide +kernel
theorem d1_60 : decode prog_44_method_4_code 60 = .ok (.iload 5, 2) := by decide +kernel
theorem d1_62 : decode prog_44_method_4_code 62 = .ok (.iconst 0, 1) := by decide +kernel
theorem d1_63 : decode prog_44_method_4_code 63 = .ok (.iastore, 1) := by decide +kernel
theorem d1_64 : decode prog_44_method_4_code 64 = .ok (.iinc 5 (-1), 3) := by decide +kernel
theorem d1_67 : decode prog_44_method_4_code 67 = .ok (.goto (-58), 3) := by decide +kernel
theorem d1_70 : decode prog_44_method_4_code 70 = .ok (.iload 4, 2) := by decide +kernel
theorem d1_72 : decode prog_44_method_4_code 72 = .ok (.ireturn, 1) := by decide +kernel
theorem pn_1 : plainName "com/example/cutbelief/cutbelief/inference/Potentials" = true := by first | (simp [plainName, overriddenIn]; done) | decide +kernel
theorem ef_1 (m : MethodId) (r0 : Addr) (r1 : Addr) (r2 : Addr) (p3 : Int32) : entryFrame m #[.ref r0, .ref r1, .ref r2, .int p3] 6 = mkF m 0 #[.val (.ref r0), .val (.ref r1), .val (.ref r2), .val (.int p3), .unset, .unset] [] := by first | (simp [entryFrame, mkF, argsToLocals, Value.category]; done) | rfl
set_option maxRecDepth 65536 in
set_option maxHeartbeats 40000000 in
theorem ct_1 (l : Launch) (Z : State) (a0 : Array Value) (hw : ∀ d ∈ tables_1, d.before a0 Z = true) {h0 : Heap} {n0 : Nat} (zs : n0 ≤ h0.size) (r0 : Addr) (r1 : Addr) (r2 : Addr) (p3 : Int32) (o0 o1 o2 c0 c1 c2 s0 s1 s2 : Int32) (A_r0 : AIK Z h0 r0 .int 3 (own_a3 o0 o1 o2)) (A_r1 : AIK Z h0 r1 .int 3 (own_a3 c0 c1 c2)) (A_r2 : AIK Z h0 r2 .int 3 (own_a3 s0 s1 s2)) (g_r0 : n0 ≤ r0) (ne_r1_r0 : r1 ≠ r0) (ne_r2_r0 : r2 ≠ r0) :
    CtK l Z (⟨"com/example/cutbelief/cutbelief/inference/Potentials", "advance", "([I[I[II)I"⟩ : MethodName) prog_44_method_4_code 6 (some .int) ({ frames := 0, cells := 0, slots := 0, locals := 0 } : Room) #[.ref r0, .ref r1, .ref r2, .int p3] h0 n0 (QI (fun z h => Keep h0 h [r0] ∧ ∃ x0 x1 x2 : Int32, AIK Z h r0 .int 3 (own_a3 x0 x1 x2) ∧ own_adv o0 o1 o2 c0 c1 c2 s0 s1 s2 p3 x0 x1 x2 z)) := by
  refine CtK.of (plainFor_of_name pn_1) ?_
  intro p e s m below meth c T0 X0 hx hZ hby hml hown hnm hret hlk
  refine GoK.entry (ef_1 m r0 r1 r2 p3) ?_
  replace hown : s.vm.findClass "com/example/cutbelief/cutbelief/inference/Potentials" = some m.cls := hown
  have K := Keep.refl h0 [r0]
  refine go_iloadN (pc' := 1) X0 hx (hb hby d1_0) rfl rfl ?_
  refine go_istore (pc' := 3) (L' := #[.val (.ref r0), .val (.ref r1), .val (.ref r2), .val (.int p3), .val (.int p3), .unset]) X0 hx (hb hby d1_1) rfl rfl ?_
  refine go_aloadN (pc' := 4) X0 hx (hb hby d1_3) rfl rfl ?_
  refine go_lenI (pc' := 5) X0 hx hZ A_r1 (hb hby d1_4) rfl (fun n4 hn4 => ?_)
  obtain rfl : n4 = (3 : Int32) := Int32.toInt_inj.mp hn4
  refine go_iconst (pc' := 6) (v := 1) X0 hx (hb hby d1_5) rfl rfl ?_
  refine go_isub (pc' := 7) X0 hx (hb hby d1_6) rfl ?_
  refine go_nameI (fun v5_7 hv5_7 => ?_)
  obtain rfl : v5_7 = (2 : Int32) := hv5_7.trans (by decide)
  refine go_istore (pc' := 9) (L' := #[.val (.ref r0), .val (.ref r1), .val (.ref r2), .val (.int p3), .val (.int p3), .val (.int (2 : Int32))]) X0 hx (hb hby d1_7) rfl rfl ?_
  refine go_iload (pc' := 11) X0 hx (hb hby d1_9) rfl rfl ?_
  refine go_iflt (pc' := 14) (pcT := 70) X0 hx (hb hby d1_11) rfl (by decide) (by decide) (fun c11 => (by exfalso; revert c11; decide)) (fun c11 => ?_)
  refine go_iload (pc' := 16) X0 hx (hb hby d1_14) rfl rfl ?_
  refine go_aloadN (pc' := 17) X0 hx (hb hby d1_16) rfl rfl ?_
  refine go_iload (pc' := 19) X0 hx (hb hby d1_17) rfl rfl ?_
  refine go_iaload (pc' := 20) X0 hx hZ A_r2 (by decide) (by decide) (hb hby d1_19) rfl (fun w19 hw19 => ?_)
  replace hw19 : w19 = s2 := hw19.trans rfl; subst w19
  refine go_iadd (pc' := 21) X0 hx (hb hby d1_20) rfl ?_
  refine go_nameI (fun v4_21 hv4_21 => ?_)
  refine go_istore (pc' := 23) (L' := #[.val (.ref r0), .val (.ref r1), .val (.ref r2), .val (.int p3), .val (.int v4_21), .val (.int (2 : Int32))]) X0 hx (hb hby d1_21) rfl rfl ?_
  refine go_aloadN (pc' := 24) X0 hx (hb hby d1_23) rfl rfl ?_
  refine go_iload (pc' := 26) X0 hx (hb hby d1_24) rfl rfl ?_
  refine go_dup2 (pc' := 27) X0 hx (hb hby d1_26) rfl ?_
  refine go_iaload (pc' := 28) X0 hx hZ A_r0 (by decide) (by decide) (hb hby d1_27) rfl (fun w27 hw27 => ?_)
  replace hw27 : w27 = o2 := hw27.trans rfl; subst w27
  refine go_iconst (pc' := 29) (v := 1) X0 hx (hb hby d1_28) rfl rfl ?_
  refine go_iadd (pc' := 30) X0 hx (hb hby d1_29) rfl ?_
  refine go_iastore (pc' := 31) X0 hx hZ A_r0 g_r0 (by decide) (by decide) (hb hby d1_30) rfl (fun T1 h1 X1 W1 A_r0 => ?_)
  have A_r1 := A_r1.other W1 ne_r1_r0
  have A_r2 := A_r2.other W1 ne_r2_r0
  have zs := Nat.le_trans zs (Nat.le_of_eq W1.size.symm)
  have K := K.wr W1 (Or.inl (by simp))
  refine go_aloadN (pc' := 32) X1 hx (hb hby d1_31) rfl rfl ?_
  refine go_iload (pc' := 34) X1 hx (hb hby d1_32) rfl rfl ?_
  refine go_iaload (pc' := 35) X1 hx hZ A_r0 (by decide) (by decide) (hb hby d1_34) rfl (fun w34 hw34 => ?_)
  obtain rfl : w34 = (o2 + (1 : Int32)) := hw34.trans rfl
  refine go_aloadN (pc' := 36) X1 hx (hb hby d1_35) rfl rfl ?_
  refine go_iload (pc' := 38) X1 hx (hb hby d1_36) rfl rfl ?_
  refine go_iaload (pc' := 39) X1 hx hZ A_r1 (by decide) (by decide) (hb hby d1_38) rfl (fun w38 hw38 => ?_)
  replace hw38 : w38 = c2 := hw38.trans rfl; subst w38
  refine go_icmpge (pc' := 42) (pcT := 45) X1 hx (hb hby d1_39) rfl (by decide) (by decide) (fun c39 => ?_) (fun c39 => ?_)
  · refine go_iload (pc' := 47) X1 hx (hb hby d1_45) rfl rfl ?_
    refine go_aloadN (pc' := 48) X1 hx (hb hby d1_47) rfl rfl ?_
    refine go_iload (pc' := 50) X1 hx (hb hby d1_48) rfl rfl ?_
    refine go_iaload (pc' := 51) X1 hx hZ A_r2 (by decide) (by decide) (hb hby d1_50) rfl (fun w50_t hw50_t => ?_)
    replace hw50_t : w50_t = s2 := hw50_t.trans rfl; subst w50_t
    refine go_aloadN (pc' := 52) X1 hx (hb hby d1_51) rfl rfl ?_
    refine go_iload (pc' := 54) X1 hx (hb hby d1_52) rfl rfl ?_
    refine go_iaload (pc' := 55) X1 hx hZ A_r1 (by decide) (by decide) (hb hby d1_54) rfl (fun w54_t hw54_t => ?_)
    replace hw54_t : w54_t = c2 := hw54_t.trans rfl; subst w54_t
    refine go_imul (pc' := 56) X1 hx (hb hby d1_55) rfl ?_
    refine go_isub (pc' := 57) X1 hx (hb hby d1_56) rfl ?_
    refine go_nameI (fun v4_57_t hv4_57_t => ?_)
    refine go_istore (pc' := 59) (L' := #[.val (.ref r0), .val (.ref r1), .val (.ref r2), .val (.int p3), .val (.int v4_57_t), .val (.int (2 : Int32))]) X1 hx (hb hby d1_57) rfl rfl ?_
    refine go_aloadN (pc' := 60) X1 hx (hb hby d1_59) rfl rfl ?_
    refine go_iload (pc' := 62) X1 hx (hb hby d1_60) rfl rfl ?_
    refine go_iconst (pc' := 63) (v := 0) X1 hx (hb hby d1_62) rfl rfl ?_
    refine go_iastore (pc' := 64) X1 hx hZ A_r0 g_r0 (by decide) (by decide) (hb hby d1_63) rfl (fun T2 h2 X2 W2 A_r0 => ?_)
    have A_r1 := A_r1.other W2 ne_r1_r0
    have A_r2 := A_r2.other W2 ne_r2_r0
    have zs := Nat.le_trans zs (Nat.le_of_eq W2.size.symm)
    have K := K.wr W2 (Or.inl (by simp))
    refine go_iinc (pc' := 67) (w := 1) (L' := #[.val (.ref r0), .val (.ref r1), .val (.ref r2), .val (.int p3), .val (.int v4_57_t), .val (.int (1 : Int32))]) X2 hx (hb hby d1_64) rfl rfl (by decide) rfl ?_
    refine go_goto (pc' := 9) X2 hx (hb hby d1_67) (by decide) (by decide) ?_
    refine go_iload (pc' := 11) X2 hx (hb hby d1_9) rfl rfl ?_
    refine go_iflt (pc' := 14) (pcT := 70) X2 hx (hb hby d1_11) rfl (by decide) (by decide) (fun c11_t => (by exfalso; revert c11_t; decide)) (fun c11_t => ?_)
    refine go_iload (pc' := 16) X2 hx (hb hby d1_14) rfl rfl ?_
    refine go_aloadN (pc' := 17) X2 hx (hb hby d1_16) rfl rfl ?_
    refine go_iload (pc' := 19) X2 hx (hb hby d1_17) rfl rfl ?_
    refine go_iaload (pc' := 20) X2 hx hZ A_r2 (by decide) (by decide) (hb hby d1_19) rfl (fun w19_t hw19_t => ?_)
    replace hw19_t : w19_t = s1 := hw19_t.trans rfl; subst w19_t
    refine go_iadd (pc' := 21) X2 hx (hb hby d1_20) rfl ?_
    refine go_nameI (fun v4_21_t hv4_21_t => ?_)
    refine go_istore (pc' := 23) (L' := #[.val (.ref r0), .val (.ref r1), .val (.ref r2), .val (.int p3), .val (.int v4_21_t), .val (.int (1 : Int32))]) X2 hx (hb hby d1_21) rfl rfl ?_
    refine go_aloadN (pc' := 24) X2 hx (hb hby d1_23) rfl rfl ?_
    refine go_iload (pc' := 26) X2 hx (hb hby d1_24) rfl rfl ?_
    refine go_dup2 (pc' := 27) X2 hx (hb hby d1_26) rfl ?_
    refine go_iaload (pc' := 28) X2 hx hZ A_r0 (by decide) (by decide) (hb hby d1_27) rfl (fun w27_t hw27_t => ?_)
    replace hw27_t : w27_t = o1 := hw27_t.trans rfl; subst w27_t
    refine go_iconst (pc' := 29) (v := 1) X2 hx (hb hby d1_28) rfl rfl ?_
    refine go_iadd (pc' := 30) X2 hx (hb hby d1_29) rfl ?_
    refine go_iastore (pc' := 31) X2 hx hZ A_r0 g_r0 (by decide) (by decide) (hb hby d1_30) rfl (fun T3 h3 X3 W3 A_r0 => ?_)
    have A_r1 := A_r1.other W3 ne_r1_r0
    have A_r2 := A_r2.other W3 ne_r2_r0
    have zs := Nat.le_trans zs (Nat.le_of_eq W3.size.symm)
    have K := K.wr W3 (Or.inl (by simp))
    refine go_aloadN (pc' := 32) X3 hx (hb hby d1_31) rfl rfl ?_
    refine go_iload (pc' := 34) X3 hx (hb hby d1_32) rfl rfl ?_
    refine go_iaload (pc' := 35) X3 hx hZ A_r0 (by decide) (by decide) (hb hby d1_34) rfl (fun w34_t hw34_t => ?_)
    obtain rfl : w34_t = (o1 + (1 : Int32)) := hw34_t.trans rfl
    refine go_aloadN (pc' := 36) X3 hx (hb hby d1_35) rfl rfl ?_
    refine go_iload (pc' := 38) X3 hx (hb hby d1_36) rfl rfl ?_
    refine go_iaload (pc' := 39) X3 hx hZ A_r1 (by decide) (by decide) (hb hby d1_38) rfl (fun w38_t hw38_t => ?_)
    replace hw38_t : w38_t = c1 := hw38_t.trans rfl; subst w38_t
    refine go_icmpge (pc' := 42) (pcT := 45) X3 hx (hb hby d1_39) rfl (by decide) (by decide) (fun c39_t => ?_) (fun c39_t => ?_)
    · refine go_iload (pc' := 47) X3 hx (hb hby d1_45) rfl rfl ?_
      refine go_aloadN (pc' := 48) X3 hx (hb hby d1_47) rfl rfl ?_
      refine go_iload (pc' := 50) X3 hx (hb hby d1_48) rfl rfl ?_
      refine go_iaload (pc' := 51) X3 hx hZ A_r2 (by decide) (by decide) (hb hby d1_50) rfl (fun w50_tt hw50_tt => ?_)
      replace hw50_tt : w50_tt = s1 := hw50_tt.trans rfl; subst w50_tt
      refine go_aloadN (pc' := 52) X3 hx (hb hby d1_51) rfl rfl ?_
      refine go_iload (pc' := 54) X3 hx (hb hby d1_52) rfl rfl ?_
      refine go_iaload (pc' := 55) X3 hx hZ A_r1 (by decide) (by decide) (hb hby d1_54) rfl (fun w54_tt hw54_tt => ?_)
      replace hw54_tt : w54_tt = c1 := hw54_tt.trans rfl; subst w54_tt
      refine go_imul (pc' := 56) X3 hx (hb hby d1_55) rfl ?_
      refine go_isub (pc' := 57) X3 hx (hb hby d1_56) rfl ?_
      refine go_nameI (fun v4_57_tt hv4_57_tt => ?_)
      refine go_istore (pc' := 59) (L' := #[.val (.ref r0), .val (.ref r1), .val (.ref r2), .val (.int p3), .val (.int v4_57_tt), .val (.int (1 : Int32))]) X3 hx (hb hby d1_57) rfl rfl ?_
      refine go_aloadN (pc' := 60) X3 hx (hb hby d1_59) rfl rfl ?_
      refine go_iload (pc' := 62) X3 hx (hb hby d1_60) rfl rfl ?_
      refine go_iconst (pc' := 63) (v := 0) X3 hx (hb hby d1_62) rfl rfl ?_
      refine go_iastore (pc' := 64) X3 hx hZ A_r0 g_r0 (by decide) (by decide) (hb hby d1_63) rfl (fun T4 h4 X4 W4 A_r0 => ?_)
      have A_r1 := A_r1.other W4 ne_r1_r0
      have A_r2 := A_r2.other W4 ne_r2_r0
      have zs := Nat.le_trans zs (Nat.le_of_eq W4.size.symm)
      have K := K.wr W4 (Or.inl (by simp))
      refine go_iinc (pc' := 67) (w := 0) (L' := #[.val (.ref r0), .val (.ref r1), .val (.ref r2), .val (.int p3), .val (.int v4_57_tt), .val (.int (0 : Int32))]) X4 hx (hb hby d1_64) rfl rfl (by decide) rfl ?_
      refine go_goto (pc' := 9) X4 hx (hb hby d1_67) (by decide) (by decide) ?_
      refine go_iload (pc' := 11) X4 hx (hb hby d1_9) rfl rfl ?_
      refine go_iflt (pc' := 14) (pcT := 70) X4 hx (hb hby d1_11) rfl (by decide) (by decide) (fun c11_tt => (by exfalso; revert c11_tt; decide)) (fun c11_tt => ?_)
      refine go_iload (pc' := 16) X4 hx (hb hby d1_14) rfl rfl ?_
      refine go_aloadN (pc' := 17) X4 hx (hb hby d1_16) rfl rfl ?_
      refine go_iload (pc' := 19) X4 hx (hb hby d1_17) rfl rfl ?_
      refine go_iaload (pc' := 20) X4 hx hZ A_r2 (by decide) (by decide) (hb hby d1_19) rfl (fun w19_tt hw19_tt => ?_)
      replace hw19_tt : w19_tt = s0 := hw19_tt.trans rfl; subst w19_tt
      refine go_iadd (pc' := 21) X4 hx (hb hby d1_20) rfl ?_
      refine go_nameI (fun v4_21_tt hv4_21_tt => ?_)
      refine go_istore (pc' := 23) (L' := #[.val (.ref r0), .val (.ref r1), .val (.ref r2), .val (.int p3), .val (.int v4_21_tt), .val (.int (0 : Int32))]) X4 hx (hb hby d1_21) rfl rfl ?_
      refine go_aloadN (pc' := 24) X4 hx (hb hby d1_23) rfl rfl ?_
      refine go_iload (pc' := 26) X4 hx (hb hby d1_24) rfl rfl ?_
      refine go_dup2 (pc' := 27) X4 hx (hb hby d1_26) rfl ?_
      refine go_iaload (pc' := 28) X4 hx hZ A_r0 (by decide) (by decide) (hb hby d1_27) rfl (fun w27_tt hw27_tt => ?_)
      replace hw27_tt : w27_tt = o0 := hw27_tt.trans rfl; subst w27_tt
      refine go_iconst (pc' := 29) (v := 1) X4 hx (hb hby d1_28) rfl rfl ?_
      refine go_iadd (pc' := 30) X4 hx (hb hby d1_29) rfl ?_
      refine go_iastore (pc' := 31) X4 hx hZ A_r0 g_r0 (by decide) (by decide) (hb hby d1_30) rfl (fun T5 h5 X5 W5 A_r0 => ?_)
      have A_r1 := A_r1.other W5 ne_r1_r0
      have A_r2 := A_r2.other W5 ne_r2_r0
      have zs := Nat.le_trans zs (Nat.le_of_eq W5.size.symm)
      have K := K.wr W5 (Or.inl (by simp))
      refine go_aloadN (pc' := 32) X5 hx (hb hby d1_31) rfl rfl ?_
      refine go_iload (pc' := 34) X5 hx (hb hby d1_32) rfl rfl ?_
      refine go_iaload (pc' := 35) X5 hx hZ A_r0 (by decide) (by decide) (hb hby d1_34) rfl (fun w34_tt hw34_tt => ?_)
      obtain rfl : w34_tt = (o0 + (1 : Int32)) := hw34_tt.trans rfl
      refine go_aloadN (pc' := 36) X5 hx (hb hby d1_35) rfl rfl ?_
      refine go_iload (pc' := 38) X5 hx (hb hby d1_36) rfl rfl ?_
      refine go_iaload (pc' := 39) X5 hx hZ A_r1 (by decide) (by decide) (hb hby d1_38) rfl (fun w38_tt hw38_tt => ?_)
      replace hw38_tt : w38_tt = c0 := hw38_tt.trans rfl; subst w38_tt
      refine go_icmpge (pc' := 42) (pcT := 45) X5 hx (hb hby d1_39) rfl (by decide) (by decide) (fun c39_tt => ?_) (fun c39_tt => ?_)
      · refine go_iload (pc' := 47) X5 hx (hb hby d1_45) rfl rfl ?_
        refine go_aloadN (pc' := 48) X5 hx (hb hby d1_47) rfl rfl ?_
        refine go_iload (pc' := 50) X5 hx (hb hby d1_48) rfl rfl ?_
        refine go_iaload (pc' := 51) X5 hx hZ A_r2 (by decide) (by decide) (hb hby d1_50) rfl (fun w50_ttt hw50_ttt => ?_)
        replace hw50_ttt : w50_ttt = s0 := hw50_ttt.trans rfl; subst w50_ttt
        refine go_aloadN (pc' := 52) X5 hx (hb hby d1_51) rfl rfl ?_
        refine go_iload (pc' := 54) X5 hx (hb hby d1_52) rfl rfl ?_
        refine go_iaload (pc' := 55) X5 hx hZ A_r1 (by decide) (by decide) (hb hby d1_54) rfl (fun w54_ttt hw54_ttt => ?_)
        replace hw54_ttt : w54_ttt = c0 := hw54_ttt.trans rfl; subst w54_ttt
        refine go_imul (pc' := 56) X5 hx (hb hby d1_55) rfl ?_
        refine go_isub (pc' := 57) X5 hx (hb hby d1_56) rfl ?_
        refine go_nameI (fun v4_57_ttt hv4_57_ttt => ?_)
        refine go_istore (pc' := 59) (L' := #[.val (.ref r0), .val (.ref r1), .val (.ref r2), .val (.int p3), .val (.int v4_57_ttt), .val (.int (0 : Int32))]) X5 hx (hb hby d1_57) rfl rfl ?_
        refine go_aloadN (pc' := 60) X5 hx (hb hby d1_59) rfl rfl ?_
        refine go_iload (pc' := 62) X5 hx (hb hby d1_60) rfl rfl ?_
        refine go_iconst (pc' := 63) (v := 0) X5 hx (hb hby d1_62) rfl rfl ?_
        refine go_iastore (pc' := 64) X5 hx hZ A_r0 g_r0 (by decide) (by decide) (hb hby d1_63) rfl (fun T6 h6 X6 W6 A_r0 => ?_)
        have A_r1 := A_r1.other W6 ne_r1_r0
        have A_r2 := A_r2.other W6 ne_r2_r0
        have zs := Nat.le_trans zs (Nat.le_of_eq W6.size.symm)
        have K := K.wr W6 (Or.inl (by simp))
        refine go_iinc (pc' := 67) (w := -1) (L' := #[.val (.ref r0), .val (.ref r1), .val (.ref r2), .val (.int p3), .val (.int v4_57_ttt), .val (.int (-1 : Int32))]) X6 hx (hb hby d1_64) rfl rfl (by decide) rfl ?_
        refine go_goto (pc' := 9) X6 hx (hb hby d1_67) (by decide) (by decide) ?_
        refine go_iload (pc' := 11) X6 hx (hb hby d1_9) rfl rfl ?_
        refine go_iflt (pc' := 14) (pcT := 70) X6 hx (hb hby d1_11) rfl (by decide) (by decide) (fun c11_ttt => ?_) (fun c11_ttt => (by exfalso; revert c11_ttt; decide))
        refine go_iload (pc' := 72) X6 hx (hb hby d1_70) rfl rfl ?_
        refine go_retI X6 hx hret hlk (hb hby d1_72) (by decide) (by decide) ?_
        refine ⟨K, (0 : Int32), (0 : Int32), (0 : Int32), ?_, ?_⟩
        · refine AIK.congr A_r0 (fun i i1 i2 => ?_)
          have k0 := own_k0
          have k1 := own_k1
          have k2 := own_k2
          unfold own_a3
          simp only [k0, k1, k2]
          repeat' split
          all_goals first | rfl | (exfalso; omega)
        · exact Or.inr (Or.inr (Or.inr ⟨c39, c39_t, c39_tt, by simp only [hv4_21, hv4_57_t, hv4_21_t, hv4_57_tt, hv4_21_tt, hv4_57_ttt], rfl, rfl, rfl⟩))
      · refine go_iload (pc' := 44) X5 hx (hb hby d1_42) rfl rfl ?_
        refine go_retI X5 hx hret hlk (hb hby d1_44) (by decide) (by decide) ?_
        refine ⟨K, (o0 + (1 : Int32)), (0 : Int32), (0 : Int32), ?_, ?_⟩
        · refine AIK.congr A_r0 (fun i i1 i2 => ?_)
          have k0 := own_k0
          have k1 := own_k1
          have k2 := own_k2
          unfold own_a3
          simp only [k0, k1, k2]
          repeat' split
          all_goals first | rfl | (exfalso; omega)
        · exact Or.inr (Or.inr (Or.inl ⟨c39, c39_t, c39_tt, by simp only [hv4_21, hv4_57_t, hv4_21_t, hv4_57_tt, hv4_21_tt], rfl, rfl, rfl⟩))
    · refine go_iload (pc' := 44) X3 hx (hb hby d1_42) rfl rfl ?_
      refine go_retI X3 hx hret hlk (hb hby d1_44) (by decide) (by decide) ?_
      refine ⟨K, o0, (o1 + (1 : Int32)), (0 : Int32), ?_, ?_⟩
      · refine AIK.congr A_r0 (fun i i1 i2 => ?_)
        have k0 := own_k0
        have k1 := own_k1
        have k2 := own_k2
        unfold own_a3
        simp only [k0, k1, k2]
        repeat' split
        all_goals first | rfl | (exfalso; omega)
      · exact Or.inr (Or.inl ⟨c39, c39_t, by simp only [hv4_21, hv4_57_t, hv4_21_t], rfl, rfl, rfl⟩)
  · refine go_iload (pc' := 44) X1 hx (hb hby d1_42) rfl rfl ?_
    refine go_retI X1 hx hret hlk (hb hby d1_44) (by decide) (by decide) ?_
    refine ⟨K, o0, o1, (o2 + (1 : Int32)), ?_, ?_⟩
    · refine AIK.congr A_r0 (fun i i1 i2 => ?_)
      have k0 := own_k0
      have k1 := own_k1
      have k2 := own_k2
      unfold own_a3
      simp only [k0, k1, k2]
      repeat' split
      all_goals first | rfl | (exfalso; omega)
    · exact Or.inl ⟨c39, by simp only [hv4_21], rfl, rfl, rfl⟩
theorem pn_0 : plainName "com/example/cutbelief/cutbelief/inference/PotentialsAdvancePinLaw" = true := by first | (simp [plainName, overriddenIn]; done) | decide +kernel
theorem ef_0 (m : MethodId) (p0 : Int32) (p1 : Int32) (p2 : Int32) (p3 : Int32) (p4 : Int32) (p5 : Int32) : entryFrame m #[.int p0, .int p1, .int p2, .int p3, .int p4, .int p5] maxLocals = mkF m 0 #[.val (.int p0), .val (.int p1), .val (.int p2), .val (.int p3), .val (.int p4), .val (.int p5), .unset, .unset, .unset, .unset, .unset, .unset, .unset, .unset, .unset, .unset, .unset, .unset, .unset, .unset, .unset, .unset, .unset] [] := by first | (simp [entryFrame, mkF, argsToLocals, Value.category, maxLocals]; done) | rfl
set_option maxRecDepth 65536 in
set_option maxHeartbeats 40000000 in
theorem ct_0 (l : Launch) (Z : State) (a0 : Array Value) (hw : ∀ d ∈ tables_1, d.before a0 Z = true) {h0 : Heap} {n0 : Nat} (zs : n0 ≤ h0.size) (p0 : Int32) (p1 : Int32) (p2 : Int32) (p3 : Int32) (p4 : Int32) (p5 : Int32)  :
    CtK l Z x code maxLocals ret room_1 #[.int p0, .int p1, .int p2, .int p3, .int p4, .int p5] h0 n0 (QI (fun z _ => z = 1)) := by
  refine CtK.of (plainFor_of_name pn_0) ?_
  intro p e s m below meth c T0 X0 hx hZ hby hml hown hnm hret hlk
  refine GoK.entry (ef_0 m p0 p1 p2 p3 p4 p5) ?_
  replace hml : c.maxLocals = 23 := hml
  replace hown : s.vm.findClass "com/example/cutbelief/cutbelief/inference/PotentialsAdvancePinLaw" = some m.cls := hown
  refine go_iconst (pc' := 1) (v := 1) X0 hx (hb hby at_0) rfl rfl ?_
  refine go_iload (pc' := 3) X0 hx (hb hby at_1) rfl rfl ?_
  refine go_iconst (pc' := 4) (v := 3) X0 hx (hb hby at_3) rfl rfl ?_
  refine go_iand (pc' := 5) X0 hx (hb hby at_4) rfl ?_
  refine go_iadd (pc' := 6) X0 hx (hb hby at_5) rfl ?_
  refine go_nameI (fun v6_6 hv6_6 => ?_)
  refine go_istore (pc' := 8) (L' := #[.val (.int p0), .val (.int p1), .val (.int p2), .val (.int p3), .val (.int p4), .val (.int p5), .val (.int v6_6), .unset, .unset, .unset, .unset, .unset, .unset, .unset, .unset, .unset, .unset, .unset, .unset, .unset, .unset, .unset, .unset]) X0 hx (hb hby at_6) rfl rfl ?_
  refine go_iconst (pc' := 9) (v := 1) X0 hx (hb hby at_8) rfl rfl ?_
  refine go_iload (pc' := 11) X0 hx (hb hby at_9) rfl rfl ?_
  refine go_iconst (pc' := 12) (v := 2) X0 hx (hb hby at_11) rfl rfl ?_
  refine go_iushr (pc' := 13) X0 hx (hb hby at_12) rfl ?_
  refine go_iconst (pc' := 14) (v := 3) X0 hx (hb hby at_13) rfl rfl ?_
  refine go_iand (pc' := 15) X0 hx (hb hby at_14) rfl ?_
  refine go_iadd (pc' := 16) X0 hx (hb hby at_15) rfl ?_
  refine go_nameI (fun v7_16 hv7_16 => ?_)
  refine go_istore (pc' := 18) (L' := #[.val (.int p0), .val (.int p1), .val (.int p2), .val (.int p3), .val (.int p4), .val (.int p5), .val (.int v6_6), .val (.int v7_16), .unset, .unset, .unset, .unset, .unset, .unset, .unset, .unset, .unset, .unset, .unset, .unset, .unset, .unset, .unset]) X0 hx (hb hby at_16) rfl rfl ?_
  refine go_iconst (pc' := 19) (v := 1) X0 hx (hb hby at_18) rfl rfl ?_
  refine go_iload (pc' := 21) X0 hx (hb hby at_19) rfl rfl ?_
  refine go_iconst (pc' := 22) (v := 4) X0 hx (hb hby at_21) rfl rfl ?_
  refine go_iushr (pc' := 23) X0 hx (hb hby at_22) rfl ?_
  refine go_iconst (pc' := 24) (v := 3) X0 hx (hb hby at_23) rfl rfl ?_
  refine go_iand (pc' := 25) X0 hx (hb hby at_24) rfl ?_
  refine go_iadd (pc' := 26) X0 hx (hb hby at_25) rfl ?_
  refine go_nameI (fun v8_26 hv8_26 => ?_)
  refine go_istore (pc' := 28) (L' := #[.val (.int p0), .val (.int p1), .val (.int p2), .val (.int p3), .val (.int p4), .val (.int p5), .val (.int v6_6), .val (.int v7_16), .val (.int v8_26), .unset, .unset, .unset, .unset, .unset, .unset, .unset, .unset, .unset, .unset, .unset, .unset, .unset, .unset]) X0 hx (hb hby at_26) rfl rfl ?_
  obtain ⟨c01, c04⟩ := own_card hv6_6
  obtain ⟨c11, c14⟩ := own_card hv7_16
  obtain ⟨c21, c24⟩ := own_card hv8_26
  refine go_iload (pc' := 30) X0 hx (hb hby at_28) rfl rfl ?_
  refine go_sipush (pc' := 33) (v := 255) X0 hx (hb hby at_30) rfl rfl ?_
  refine go_iand (pc' := 34) X0 hx (hb hby at_33) rfl ?_
  refine go_iload (pc' := 36) X0 hx (hb hby at_34) rfl rfl ?_
  refine go_irem (pc' := 37) X0 hx (hb hby at_36) rfl (own_nz c01) ?_
  refine go_nameI (fun v9_37 hv9_37 => ?_)
  refine go_istore (pc' := 39) (L' := #[.val (.int p0), .val (.int p1), .val (.int p2), .val (.int p3), .val (.int p4), .val (.int p5), .val (.int v6_6), .val (.int v7_16), .val (.int v8_26), .val (.int v9_37), .unset, .unset, .unset, .unset, .unset, .unset, .unset, .unset, .unset, .unset, .unset, .unset, .unset]) X0 hx (hb hby at_37) rfl rfl ?_
  refine go_iload (pc' := 41) X0 hx (hb hby at_39) rfl rfl ?_
  refine go_bipush (pc' := 43) (v := 8) X0 hx (hb hby at_41) rfl rfl ?_
  refine go_iushr (pc' := 44) X0 hx (hb hby at_43) rfl ?_
  refine go_sipush (pc' := 47) (v := 255) X0 hx (hb hby at_44) rfl rfl ?_
  refine go_iand (pc' := 48) X0 hx (hb hby at_47) rfl ?_
  refine go_iload (pc' := 50) X0 hx (hb hby at_48) rfl rfl ?_
  refine go_irem (pc' := 51) X0 hx (hb hby at_50) rfl (own_nz c11) ?_
  refine go_nameI (fun v10_51 hv10_51 => ?_)
  refine go_istore (pc' := 53) (L' := #[.val (.int p0), .val (.int p1), .val (.int p2), .val (.int p3), .val (.int p4), .val (.int p5), .val (.int v6_6), .val (.int v7_16), .val (.int v8_26), .val (.int v9_37), .val (.int v10_51), .unset, .unset, .unset, .unset, .unset, .unset, .unset, .unset, .unset, .unset, .unset, .unset]) X0 hx (hb hby at_51) rfl rfl ?_
  refine go_iload (pc' := 55) X0 hx (hb hby at_53) rfl rfl ?_
  refine go_bipush (pc' := 57) (v := 16) X0 hx (hb hby at_55) rfl rfl ?_
  refine go_iushr (pc' := 58) X0 hx (hb hby at_57) rfl ?_
  refine go_sipush (pc' := 61) (v := 255) X0 hx (hb hby at_58) rfl rfl ?_
  refine go_iand (pc' := 62) X0 hx (hb hby at_61) rfl ?_
  refine go_iload (pc' := 64) X0 hx (hb hby at_62) rfl rfl ?_
  refine go_irem (pc' := 65) X0 hx (hb hby at_64) rfl (own_nz c21) ?_
  refine go_nameI (fun v11_65 hv11_65 => ?_)
  refine go_istore (pc' := 67) (L' := #[.val (.int p0), .val (.int p1), .val (.int p2), .val (.int p3), .val (.int p4), .val (.int p5), .val (.int v6_6), .val (.int v7_16), .val (.int v8_26), .val (.int v9_37), .val (.int v10_51), .val (.int v11_65), .unset, .unset, .unset, .unset, .unset, .unset, .unset, .unset, .unset, .unset, .unset]) X0 hx (hb hby at_65) rfl rfl ?_
  obtain ⟨o01, o02⟩ := own_ctr hv9_37 c01
  obtain ⟨o11, o12⟩ := own_ctr hv10_51 c11
  obtain ⟨o21, o22⟩ := own_ctr hv11_65 c21
  refine go_iconst (pc' := 68) (v := 3) X0 hx (hb hby at_67) rfl rfl ?_
  refine go_newI (pc' := 70) (cap := 3) (n := 3) (cells' := 1) (slots' := 3) X0 hx hZ (hw _ (List.mem_of_getElem? (i := 0) rfl)) (hb hby at_68) rfl rfl (by decide) (by decide) (by decide) (by decide) (by decide) rfl rfl (fun T1 h1 b1 eb1 X1 E1 A_b1 => ?_)
  have g_b1 : n0 ≤ b1 := by rw [eb1]; exact zs
  have zs := Nat.le_trans zs E1.1
  refine go_dup (pc' := 71) X1 hx (hb hby at_70) rfl rfl ?_
  refine go_iconst (pc' := 72) (v := 0) X1 hx (hb hby at_71) rfl rfl ?_
  refine go_iload (pc' := 74) X1 hx (hb hby at_72) rfl rfl ?_
  refine go_iastore (pc' := 75) X1 hx hZ A_b1 g_b1 (by decide) (by decide) (hb hby at_74) rfl (fun T2 h2 X2 W2 A_b1 => ?_)
  have zs := Nat.le_trans zs (Nat.le_of_eq W2.size.symm)
  refine go_dup (pc' := 76) X2 hx (hb hby at_75) rfl rfl ?_
  refine go_iconst (pc' := 77) (v := 1) X2 hx (hb hby at_76) rfl rfl ?_
  refine go_iload (pc' := 79) X2 hx (hb hby at_77) rfl rfl ?_
  refine go_iastore (pc' := 80) X2 hx hZ A_b1 g_b1 (by decide) (by decide) (hb hby at_79) rfl (fun T3 h3 X3 W3 A_b1 => ?_)
  have zs := Nat.le_trans zs (Nat.le_of_eq W3.size.symm)
  refine go_dup (pc' := 81) X3 hx (hb hby at_80) rfl rfl ?_
  refine go_iconst (pc' := 82) (v := 2) X3 hx (hb hby at_81) rfl rfl ?_
  refine go_iload (pc' := 84) X3 hx (hb hby at_82) rfl rfl ?_
  refine go_iastore (pc' := 85) X3 hx hZ A_b1 g_b1 (by decide) (by decide) (hb hby at_84) rfl (fun T4 h4 X4 W4 A_b1 => ?_)
  have zs := Nat.le_trans zs (Nat.le_of_eq W4.size.symm)
  refine go_astore (pc' := 87) (L' := #[.val (.int p0), .val (.int p1), .val (.int p2), .val (.int p3), .val (.int p4), .val (.int p5), .val (.int v6_6), .val (.int v7_16), .val (.int v8_26), .val (.int v9_37), .val (.int v10_51), .val (.int v11_65), .val (.ref b1), .unset, .unset, .unset, .unset, .unset, .unset, .unset, .unset, .unset, .unset]) X4 hx (hb hby at_85) rfl rfl ?_
  refine go_iconst (pc' := 88) (v := 3) X4 hx (hb hby at_87) rfl rfl ?_
  refine go_newI (pc' := 90) (cap := 3) (n := 3) (cells' := 2) (slots' := 6) X4 hx hZ (hw _ (List.mem_of_getElem? (i := 0) rfl)) (hb hby at_88) rfl rfl (by decide) (by decide) (by decide) (by decide) (by decide) rfl rfl (fun T5 h5 b5 eb5 X5 E5 A_b5 => ?_)
  have g_b5 : n0 ≤ b5 := by rw [eb5]; exact zs
  have ne_b1_b5 : b1 ≠ b5 := by rw [eb5]; exact Nat.ne_of_lt (A_b1.lt)
  have ne_b5_b1 := ne_b1_b5.symm
  have A_b1 := A_b1.ext E5
  have zs := Nat.le_trans zs E5.1
  refine go_dup (pc' := 91) X5 hx (hb hby at_90) rfl rfl ?_
  refine go_iconst (pc' := 92) (v := 0) X5 hx (hb hby at_91) rfl rfl ?_
  refine go_iload (pc' := 94) X5 hx (hb hby at_92) rfl rfl ?_
  refine go_iastore (pc' := 95) X5 hx hZ A_b5 g_b5 (by decide) (by decide) (hb hby at_94) rfl (fun T6 h6 X6 W6 A_b5 => ?_)
  have A_b1 := A_b1.other W6 ne_b1_b5
  have zs := Nat.le_trans zs (Nat.le_of_eq W6.size.symm)
  refine go_dup (pc' := 96) X6 hx (hb hby at_95) rfl rfl ?_
  refine go_iconst (pc' := 97) (v := 1) X6 hx (hb hby at_96) rfl rfl ?_
  refine go_iload (pc' := 99) X6 hx (hb hby at_97) rfl rfl ?_
  refine go_iastore (pc' := 100) X6 hx hZ A_b5 g_b5 (by decide) (by decide) (hb hby at_99) rfl (fun T7 h7 X7 W7 A_b5 => ?_)
  have A_b1 := A_b1.other W7 ne_b1_b5
  have zs := Nat.le_trans zs (Nat.le_of_eq W7.size.symm)
  refine go_dup (pc' := 101) X7 hx (hb hby at_100) rfl rfl ?_
  refine go_iconst (pc' := 102) (v := 2) X7 hx (hb hby at_101) rfl rfl ?_
  refine go_iload (pc' := 104) X7 hx (hb hby at_102) rfl rfl ?_
  refine go_iastore (pc' := 105) X7 hx hZ A_b5 g_b5 (by decide) (by decide) (hb hby at_104) rfl (fun T8 h8 X8 W8 A_b5 => ?_)
  have A_b1 := A_b1.other W8 ne_b1_b5
  have zs := Nat.le_trans zs (Nat.le_of_eq W8.size.symm)
  refine go_astore (pc' := 107) (L' := #[.val (.int p0), .val (.int p1), .val (.int p2), .val (.int p3), .val (.int p4), .val (.int p5), .val (.int v6_6), .val (.int v7_16), .val (.int v8_26), .val (.int v9_37), .val (.int v10_51), .val (.int v11_65), .val (.ref b1), .val (.ref b5), .unset, .unset, .unset, .unset, .unset, .unset, .unset, .unset, .unset]) X8 hx (hb hby at_105) rfl rfl ?_
  refine go_iconst (pc' := 108) (v := 3) X8 hx (hb hby at_107) rfl rfl ?_
  refine go_newI (pc' := 110) (cap := 3) (n := 3) (cells' := 3) (slots' := 9) X8 hx hZ (hw _ (List.mem_of_getElem? (i := 0) rfl)) (hb hby at_108) rfl rfl (by decide) (by decide) (by decide) (by decide) (by decide) rfl rfl (fun T9 h9 b9 eb9 X9 E9 A_b9 => ?_)
  have g_b9 : n0 ≤ b9 := by rw [eb9]; exact zs
  have ne_b1_b9 : b1 ≠ b9 := by rw [eb9]; exact Nat.ne_of_lt (A_b1.lt)
  have ne_b9_b1 := ne_b1_b9.symm
  have ne_b5_b9 : b5 ≠ b9 := by rw [eb9]; exact Nat.ne_of_lt (A_b5.lt)
  have ne_b9_b5 := ne_b5_b9.symm
  have A_b1 := A_b1.ext E9
  have A_b5 := A_b5.ext E9
  have zs := Nat.le_trans zs E9.1
  refine go_dup (pc' := 111) X9 hx (hb hby at_110) rfl rfl ?_
  refine go_iconst (pc' := 112) (v := 0) X9 hx (hb hby at_111) rfl rfl ?_
  refine go_iloadN (pc' := 113) X9 hx (hb hby at_112) rfl rfl ?_
  refine go_iastore (pc' := 114) X9 hx hZ A_b9 g_b9 (by decide) (by decide) (hb hby at_113) rfl (fun T10 h10 X10 W10 A_b9 => ?_)
  have A_b1 := A_b1.other W10 ne_b1_b9
  have A_b5 := A_b5.other W10 ne_b5_b9
  have zs := Nat.le_trans zs (Nat.le_of_eq W10.size.symm)
  refine go_dup (pc' := 115) X10 hx (hb hby at_114) rfl rfl ?_
  refine go_iconst (pc' := 116) (v := 1) X10 hx (hb hby at_115) rfl rfl ?_
  refine go_iloadN (pc' := 117) X10 hx (hb hby at_116) rfl rfl ?_
  refine go_iastore (pc' := 118) X10 hx hZ A_b9 g_b9 (by decide) (by decide) (hb hby at_117) rfl (fun T11 h11 X11 W11 A_b9 => ?_)
  have A_b1 := A_b1.other W11 ne_b1_b9
  have A_b5 := A_b5.other W11 ne_b5_b9
  have zs := Nat.le_trans zs (Nat.le_of_eq W11.size.symm)
  refine go_dup (pc' := 119) X11 hx (hb hby at_118) rfl rfl ?_
  refine go_iconst (pc' := 120) (v := 2) X11 hx (hb hby at_119) rfl rfl ?_
  refine go_iloadN (pc' := 121) X11 hx (hb hby at_120) rfl rfl ?_
  refine go_iastore (pc' := 122) X11 hx hZ A_b9 g_b9 (by decide) (by decide) (hb hby at_121) rfl (fun T12 h12 X12 W12 A_b9 => ?_)
  have A_b1 := A_b1.other W12 ne_b1_b9
  have A_b5 := A_b5.other W12 ne_b5_b9
  have zs := Nat.le_trans zs (Nat.le_of_eq W12.size.symm)
  refine go_astore (pc' := 124) (L' := #[.val (.int p0), .val (.int p1), .val (.int p2), .val (.int p3), .val (.int p4), .val (.int p5), .val (.int v6_6), .val (.int v7_16), .val (.int v8_26), .val (.int v9_37), .val (.int v10_51), .val (.int v11_65), .val (.ref b1), .val (.ref b5), .val (.ref b9), .unset, .unset, .unset, .unset, .unset, .unset, .unset, .unset]) X12 hx (hb hby at_122) rfl rfl ?_
  refine go_aload (pc' := 126) X12 hx (hb hby at_124) rfl rfl ?_
  refine go_aload (pc' := 128) X12 hx (hb hby at_126) rfl rfl ?_
  refine go_aload (pc' := 130) X12 hx (hb hby at_128) rfl rfl ?_
  refine go_iloadN (pc' := 131) X12 hx (hb hby at_130) rfl rfl ?_
  have hA0 : AIK Z h12 b1 .int 3 (own_a3 v9_37 v10_51 v11_65) := by
    refine AIK.congr A_b1 (fun i i1 i2 => ?_)
    have k0 := own_k0
    have k1 := own_k1
    have k2 := own_k2
    unfold own_a3
    simp only [k0, k1, k2]
    repeat' split
    all_goals first | rfl | (exfalso; omega)
  replace A_b1 := hA0
  have hA1 : AIK Z h12 b5 .int 3 (own_a3 v6_6 v7_16 v8_26) := by
    refine AIK.congr A_b5 (fun i i1 i2 => ?_)
    have k0 := own_k0
    have k1 := own_k1
    have k2 := own_k2
    unfold own_a3
    simp only [k0, k1, k2]
    repeat' split
    all_goals first | rfl | (exfalso; omega)
  replace A_b5 := hA1
  have hA2 : AIK Z h12 b9 .int 3 (own_a3 p1 p2 p3) := by
    refine AIK.congr A_b9 (fun i i1 i2 => ?_)
    have k0 := own_k0
    have k1 := own_k1
    have k2 := own_k2
    unfold own_a3
    simp only [k0, k1, k2]
    repeat' split
    all_goals first | rfl | (exfalso; omega)
  replace A_b9 := hA2
  refine go_callS (pc' := 134) (W := 0) (cells' := 3) (slots' := 9) (rm := ({ frames := 0, cells := 0, slots := 0, locals := 0 } : Room)) (aL := [.ref b1, .ref b5, .ref b9, .int p0]) (St := []) X12 hx hZ hown (by rw [hml]; rfl) (hw _ (List.mem_of_getElem? (i := 1) rfl)) (hw _ (List.mem_of_getElem? (i := 2) rfl)) (hw _ (List.mem_of_getElem? (i := 3) rfl)) (hw _ (List.mem_of_getElem? (i := 4) rfl)) (by decide) pd_0 rfl (ct_1 l Z a0 hw zs b1 b5 b9 p0 v9_37 v10_51 v11_65 v6_6 v7_16 v8_26 p1 p2 p3 A_b1 A_b5 A_b9 g_b1 ne_b5_b1 ne_b9_b1) (hb hby at_131) rfl (by decide) (Nat.le_of_eq rfl) (by decide) (by decide) (by decide) rfl rfl (fun T13 h13 v13 X13 Q13 => ?_) rfl
  obtain ⟨z13, rfl, Kc13, x0, x1, x2, Ac13, hadv⟩ := Q13
  have A_b5 := A_b5.keep Kc13 (ninS ne_b5_b1 nin0)
  have A_b9 := A_b9.keep Kc13 (ninS ne_b9_b1 nin0)
  have zs := Nat.le_trans zs Kc13.1
  show GoK p e below _ T13 (mkF m 134 #[.val (.int p0), .val (.int p1), .val (.int p2), .val (.int p3), .val (.int p4), .val (.int p5), .val (.int v6_6), .val (.int v7_16), .val (.int v8_26), .val (.int v9_37), .val (.int v10_51), .val (.int v11_65), .val (.ref b1), .val (.ref b5), .val (.ref b9), .unset, .unset, .unset, .unset, .unset, .unset, .unset, .unset] [.int z13])
  refine go_istore (pc' := 136) (L' := #[.val (.int p0), .val (.int p1), .val (.int p2), .val (.int p3), .val (.int p4), .val (.int p5), .val (.int v6_6), .val (.int v7_16), .val (.int v8_26), .val (.int v9_37), .val (.int v10_51), .val (.int v11_65), .val (.ref b1), .val (.ref b5), .val (.ref b9), .val (.int z13), .unset, .unset, .unset, .unset, .unset, .unset, .unset]) X13 hx (hb hby at_134) rfl rfl ?_
  obtain ⟨q1, q2, q3, q4, nz1, nz2⟩ := own_law (a := p0) c01 c04 c11 c14 c21 c24 o01 o02 o11 o12 o21 o22 hadv
  refine go_iload (pc' := 138) X13 hx (hb hby at_136) rfl rfl ?_
  refine go_iload (pc' := 140) X13 hx (hb hby at_138) rfl rfl ?_
  refine go_imul (pc' := 141) X13 hx (hb hby at_140) rfl ?_
  refine go_iload (pc' := 143) X13 hx (hb hby at_141) rfl rfl ?_
  refine go_imul (pc' := 144) X13 hx (hb hby at_143) rfl ?_
  refine go_nameI (fun v16_144 hv16_144 => ?_)
  refine go_istore (pc' := 146) (L' := #[.val (.int p0), .val (.int p1), .val (.int p2), .val (.int p3), .val (.int p4), .val (.int p5), .val (.int v6_6), .val (.int v7_16), .val (.int v8_26), .val (.int v9_37), .val (.int v10_51), .val (.int v11_65), .val (.ref b1), .val (.ref b5), .val (.ref b9), .val (.int z13), .val (.int v16_144), .unset, .unset, .unset, .unset, .unset, .unset]) X13 hx (hb hby at_144) rfl rfl ?_
  refine go_iload (pc' := 148) X13 hx (hb hby at_146) rfl rfl ?_
  refine go_iload (pc' := 150) X13 hx (hb hby at_148) rfl rfl ?_
  refine go_imul (pc' := 151) X13 hx (hb hby at_150) rfl ?_
  refine go_iload (pc' := 153) X13 hx (hb hby at_151) rfl rfl ?_
  refine go_iadd (pc' := 154) X13 hx (hb hby at_153) rfl ?_
  refine go_iload (pc' := 156) X13 hx (hb hby at_154) rfl rfl ?_
  refine go_imul (pc' := 157) X13 hx (hb hby at_156) rfl ?_
  refine go_iload (pc' := 159) X13 hx (hb hby at_157) rfl rfl ?_
  refine go_iadd (pc' := 160) X13 hx (hb hby at_159) rfl ?_
  refine go_nameI (fun v17_160 hv17_160 => ?_)
  refine go_istore (pc' := 162) (L' := #[.val (.int p0), .val (.int p1), .val (.int p2), .val (.int p3), .val (.int p4), .val (.int p5), .val (.int v6_6), .val (.int v7_16), .val (.int v8_26), .val (.int v9_37), .val (.int v10_51), .val (.int v11_65), .val (.ref b1), .val (.ref b5), .val (.ref b9), .val (.int z13), .val (.int v16_144), .val (.int v17_160), .unset, .unset, .unset, .unset, .unset]) X13 hx (hb hby at_160) rfl rfl ?_
  refine go_iload (pc' := 164) X13 hx (hb hby at_162) rfl rfl ?_
  refine go_iconst (pc' := 165) (v := 1) X13 hx (hb hby at_164) rfl rfl ?_
  refine go_iadd (pc' := 166) X13 hx (hb hby at_165) rfl ?_
  refine go_iload (pc' := 168) X13 hx (hb hby at_166) rfl rfl ?_
  refine go_irem (pc' := 169) X13 hx (hb hby at_168) rfl (by rw [hv16_144]; exact nz1) ?_
  refine go_nameI (fun v18_169 hv18_169 => ?_)
  refine go_istore (pc' := 171) (L' := #[.val (.int p0), .val (.int p1), .val (.int p2), .val (.int p3), .val (.int p4), .val (.int p5), .val (.int v6_6), .val (.int v7_16), .val (.int v8_26), .val (.int v9_37), .val (.int v10_51), .val (.int v11_65), .val (.ref b1), .val (.ref b5), .val (.ref b9), .val (.int z13), .val (.int v16_144), .val (.int v17_160), .val (.int v18_169), .unset, .unset, .unset, .unset]) X13 hx (hb hby at_169) rfl rfl ?_
  refine go_iload (pc' := 173) X13 hx (hb hby at_171) rfl rfl ?_
  refine go_iload (pc' := 175) X13 hx (hb hby at_173) rfl rfl ?_
  refine go_irem (pc' := 176) X13 hx (hb hby at_175) rfl (own_nz c21) ?_
  refine go_nameI (fun v19_176 hv19_176 => ?_)
  refine go_istore (pc' := 178) (L' := #[.val (.int p0), .val (.int p1), .val (.int p2), .val (.int p3), .val (.int p4), .val (.int p5), .val (.int v6_6), .val (.int v7_16), .val (.int v8_26), .val (.int v9_37), .val (.int v10_51), .val (.int v11_65), .val (.ref b1), .val (.ref b5), .val (.ref b9), .val (.int z13), .val (.int v16_144), .val (.int v17_160), .val (.int v18_169), .val (.int v19_176), .unset, .unset, .unset]) X13 hx (hb hby at_176) rfl rfl ?_
  refine go_iload (pc' := 180) X13 hx (hb hby at_178) rfl rfl ?_
  refine go_iload (pc' := 182) X13 hx (hb hby at_180) rfl rfl ?_
  refine go_idiv (pc' := 183) X13 hx (hb hby at_182) rfl (own_nz c21) ?_
  refine go_iload (pc' := 185) X13 hx (hb hby at_183) rfl rfl ?_
  refine go_irem (pc' := 186) X13 hx (hb hby at_185) rfl (own_nz c11) ?_
  refine go_nameI (fun v20_186 hv20_186 => ?_)
  refine go_istore (pc' := 188) (L' := #[.val (.int p0), .val (.int p1), .val (.int p2), .val (.int p3), .val (.int p4), .val (.int p5), .val (.int v6_6), .val (.int v7_16), .val (.int v8_26), .val (.int v9_37), .val (.int v10_51), .val (.int v11_65), .val (.ref b1), .val (.ref b5), .val (.ref b9), .val (.int z13), .val (.int v16_144), .val (.int v17_160), .val (.int v18_169), .val (.int v19_176), .val (.int v20_186), .unset, .unset]) X13 hx (hb hby at_186) rfl rfl ?_
  refine go_iload (pc' := 190) X13 hx (hb hby at_188) rfl rfl ?_
  refine go_iload (pc' := 192) X13 hx (hb hby at_190) rfl rfl ?_
  refine go_iload (pc' := 194) X13 hx (hb hby at_192) rfl rfl ?_
  refine go_imul (pc' := 195) X13 hx (hb hby at_194) rfl ?_
  refine go_idiv (pc' := 196) X13 hx (hb hby at_195) rfl nz2 ?_
  refine go_nameI (fun v21_196 hv21_196 => ?_)
  refine go_istore (pc' := 198) (L' := #[.val (.int p0), .val (.int p1), .val (.int p2), .val (.int p3), .val (.int p4), .val (.int p5), .val (.int v6_6), .val (.int v7_16), .val (.int v8_26), .val (.int v9_37), .val (.int v10_51), .val (.int v11_65), .val (.ref b1), .val (.ref b5), .val (.ref b9), .val (.int z13), .val (.int v16_144), .val (.int v17_160), .val (.int v18_169), .val (.int v19_176), .val (.int v20_186), .val (.int v21_196), .unset]) X13 hx (hb hby at_196) rfl rfl ?_
  refine go_iloadN (pc' := 199) X13 hx (hb hby at_198) rfl rfl ?_
  refine go_iloadN (pc' := 200) X13 hx (hb hby at_199) rfl rfl ?_
  refine go_iload (pc' := 202) X13 hx (hb hby at_200) rfl rfl ?_
  refine go_iload (pc' := 204) X13 hx (hb hby at_202) rfl rfl ?_
  refine go_isub (pc' := 205) X13 hx (hb hby at_204) rfl ?_
  refine go_imul (pc' := 206) X13 hx (hb hby at_205) rfl ?_
  refine go_iadd (pc' := 207) X13 hx (hb hby at_206) rfl ?_
  refine go_iloadN (pc' := 208) X13 hx (hb hby at_207) rfl rfl ?_
  refine go_iload (pc' := 210) X13 hx (hb hby at_208) rfl rfl ?_
  refine go_iload (pc' := 212) X13 hx (hb hby at_210) rfl rfl ?_
  refine go_isub (pc' := 213) X13 hx (hb hby at_212) rfl ?_
  refine go_imul (pc' := 214) X13 hx (hb hby at_213) rfl ?_
  refine go_iadd (pc' := 215) X13 hx (hb hby at_214) rfl ?_
  refine go_iloadN (pc' := 216) X13 hx (hb hby at_215) rfl rfl ?_
  refine go_iload (pc' := 218) X13 hx (hb hby at_216) rfl rfl ?_
  refine go_iload (pc' := 220) X13 hx (hb hby at_218) rfl rfl ?_
  refine go_isub (pc' := 221) X13 hx (hb hby at_220) rfl ?_
  refine go_imul (pc' := 222) X13 hx (hb hby at_221) rfl ?_
  refine go_iadd (pc' := 223) X13 hx (hb hby at_222) rfl ?_
  refine go_nameI (fun v22_223 hv22_223 => ?_)
  refine go_istore (pc' := 225) (L' := #[.val (.int p0), .val (.int p1), .val (.int p2), .val (.int p3), .val (.int p4), .val (.int p5), .val (.int v6_6), .val (.int v7_16), .val (.int v8_26), .val (.int v9_37), .val (.int v10_51), .val (.int v11_65), .val (.ref b1), .val (.ref b5), .val (.ref b9), .val (.int z13), .val (.int v16_144), .val (.int v17_160), .val (.int v18_169), .val (.int v19_176), .val (.int v20_186), .val (.int v21_196), .val (.int v22_223)]) X13 hx (hb hby at_223) rfl rfl ?_
  refine go_iload (pc' := 227) X13 hx (hb hby at_225) rfl rfl ?_
  refine go_iload (pc' := 229) X13 hx (hb hby at_227) rfl rfl ?_
  refine go_icmpne (pc' := 232) (pcT := 314) X13 hx (hb hby at_229) rfl (by decide) (by decide) (fun c229 => (by exfalso; subst hv22_223 hv21_196 hv20_186 hv19_176 hv18_169 hv17_160 hv16_144; exact c229 q1)) (fun c229 => ?_)
  refine go_aload (pc' := 234) X13 hx (hb hby at_232) rfl rfl ?_
  refine go_iconst (pc' := 235) (v := 0) X13 hx (hb hby at_234) rfl rfl ?_
  refine go_iaload (pc' := 236) X13 hx hZ Ac13 (by decide) (by decide) (hb hby at_235) rfl (fun w235 hw235 => ?_)
  replace hw235 : w235 = x0 := hw235.trans rfl; subst w235
  refine go_iload (pc' := 238) X13 hx (hb hby at_236) rfl rfl ?_
  refine go_icmpne (pc' := 241) (pcT := 314) X13 hx (hb hby at_238) rfl (by decide) (by decide) (fun c238 => (by exfalso; subst hv21_196 hv18_169 hv17_160 hv16_144; exact c238 q2)) (fun c238 => ?_)
  refine go_aload (pc' := 243) X13 hx (hb hby at_241) rfl rfl ?_
  refine go_iconst (pc' := 244) (v := 1) X13 hx (hb hby at_243) rfl rfl ?_
  refine go_iaload (pc' := 245) X13 hx hZ Ac13 (by decide) (by decide) (hb hby at_244) rfl (fun w244 hw244 => ?_)
  replace hw244 : w244 = x1 := hw244.trans rfl; subst w244
  refine go_iload (pc' := 247) X13 hx (hb hby at_245) rfl rfl ?_
  refine go_icmpne (pc' := 250) (pcT := 314) X13 hx (hb hby at_247) rfl (by decide) (by decide) (fun c247 => (by exfalso; subst hv20_186 hv18_169 hv17_160 hv16_144; exact c247 q3)) (fun c247 => ?_)
  refine go_aload (pc' := 252) X13 hx (hb hby at_250) rfl rfl ?_
  refine go_iconst (pc' := 253) (v := 2) X13 hx (hb hby at_252) rfl rfl ?_
  refine go_iaload (pc' := 254) X13 hx hZ Ac13 (by decide) (by decide) (hb hby at_253) rfl (fun w253 hw253 => ?_)
  replace hw253 : w253 = x2 := hw253.trans rfl; subst w253
  refine go_iload (pc' := 256) X13 hx (hb hby at_254) rfl rfl ?_
  refine go_icmpne (pc' := 259) (pcT := 314) X13 hx (hb hby at_256) rfl (by decide) (by decide) (fun c256 => (by exfalso; subst hv19_176 hv18_169 hv17_160 hv16_144; exact c256 q4)) (fun c256 => ?_)
  refine go_aload (pc' := 261) X13 hx (hb hby at_259) rfl rfl ?_
  refine go_iconst (pc' := 262) (v := 0) X13 hx (hb hby at_261) rfl rfl ?_
  refine go_iaload (pc' := 263) X13 hx hZ A_b5 (by decide) (by decide) (hb hby at_262) rfl (fun w262 hw262 => ?_)
  replace hw262 : w262 = v6_6 := hw262.trans rfl; subst w262
  refine go_iload (pc' := 265) X13 hx (hb hby at_263) rfl rfl ?_
  refine go_icmpne (pc' := 268) (pcT := 314) X13 hx (hb hby at_265) rfl (by decide) (by decide) (fun c265 => (by exfalso; exact c265 rfl)) (fun c265 => ?_)
  refine go_aload (pc' := 270) X13 hx (hb hby at_268) rfl rfl ?_
  refine go_iconst (pc' := 271) (v := 1) X13 hx (hb hby at_270) rfl rfl ?_
  refine go_iaload (pc' := 272) X13 hx hZ A_b5 (by decide) (by decide) (hb hby at_271) rfl (fun w271 hw271 => ?_)
  replace hw271 : w271 = v7_16 := hw271.trans rfl; subst w271
  refine go_iload (pc' := 274) X13 hx (hb hby at_272) rfl rfl ?_
  refine go_icmpne (pc' := 277) (pcT := 314) X13 hx (hb hby at_274) rfl (by decide) (by decide) (fun c274 => (by exfalso; exact c274 rfl)) (fun c274 => ?_)
  refine go_aload (pc' := 279) X13 hx (hb hby at_277) rfl rfl ?_
  refine go_iconst (pc' := 280) (v := 2) X13 hx (hb hby at_279) rfl rfl ?_
  refine go_iaload (pc' := 281) X13 hx hZ A_b5 (by decide) (by decide) (hb hby at_280) rfl (fun w280 hw280 => ?_)
  replace hw280 : w280 = v8_26 := hw280.trans rfl; subst w280
  refine go_iload (pc' := 283) X13 hx (hb hby at_281) rfl rfl ?_
  refine go_icmpne (pc' := 286) (pcT := 314) X13 hx (hb hby at_283) rfl (by decide) (by decide) (fun c283 => (by exfalso; exact c283 rfl)) (fun c283 => ?_)
  refine go_aload (pc' := 288) X13 hx (hb hby at_286) rfl rfl ?_
  refine go_iconst (pc' := 289) (v := 0) X13 hx (hb hby at_288) rfl rfl ?_
  refine go_iaload (pc' := 290) X13 hx hZ A_b9 (by decide) (by decide) (hb hby at_289) rfl (fun w289 hw289 => ?_)
  replace hw289 : w289 = p1 := hw289.trans rfl; subst w289
  refine go_iloadN (pc' := 291) X13 hx (hb hby at_290) rfl rfl ?_
  refine go_icmpne (pc' := 294) (pcT := 314) X13 hx (hb hby at_291) rfl (by decide) (by decide) (fun c291 => (by exfalso; exact c291 rfl)) (fun c291 => ?_)
  refine go_aload (pc' := 296) X13 hx (hb hby at_294) rfl rfl ?_
  refine go_iconst (pc' := 297) (v := 1) X13 hx (hb hby at_296) rfl rfl ?_
  refine go_iaload (pc' := 298) X13 hx hZ A_b9 (by decide) (by decide) (hb hby at_297) rfl (fun w297 hw297 => ?_)
  replace hw297 : w297 = p2 := hw297.trans rfl; subst w297
  refine go_iloadN (pc' := 299) X13 hx (hb hby at_298) rfl rfl ?_
  refine go_icmpne (pc' := 302) (pcT := 314) X13 hx (hb hby at_299) rfl (by decide) (by decide) (fun c299 => (by exfalso; exact c299 rfl)) (fun c299 => ?_)
  refine go_aload (pc' := 304) X13 hx (hb hby at_302) rfl rfl ?_
  refine go_iconst (pc' := 305) (v := 2) X13 hx (hb hby at_304) rfl rfl ?_
  refine go_iaload (pc' := 306) X13 hx hZ A_b9 (by decide) (by decide) (hb hby at_305) rfl (fun w305 hw305 => ?_)
  replace hw305 : w305 = p3 := hw305.trans rfl; subst w305
  refine go_iloadN (pc' := 307) X13 hx (hb hby at_306) rfl rfl ?_
  refine go_icmpne (pc' := 310) (pcT := 314) X13 hx (hb hby at_307) rfl (by decide) (by decide) (fun c307 => (by exfalso; exact c307 rfl)) (fun c307 => ?_)
  refine go_iconst (pc' := 311) (v := 1) X13 hx (hb hby at_310) rfl rfl ?_
  refine go_goto (pc' := 315) X13 hx (hb hby at_311) (by decide) (by decide) ?_
  refine go_retN (t := .boolean) X13 hx hret (by simp) hlk (hb hby at_315) (by decide) (by decide) ?_
  exact rfl
set_option maxRecDepth 65536 in
set_option maxHeartbeats 40000000 in
theorem comes_1 {Post : Tables → Env → Array Value → State → Outcome → State → Prop} (hpost : ∀ tb e args s v u, (limb_1_1.after args s (.returned v) u = true ∧ limb_1_2.after args s (.returned v) u = true ∧ True) → FrameEnd s (.returned v) u (Jvm.fieldLocs frame_1_writes args s ++ Jvm.arrayLocs frame_1_arrays args s ++ Jvm.staticLocs frame_1_statics s) 16 128 → Post tb e args s (.returned v) u) :
    ArmFor flags0 classFile x code maxLocals ret World_1 tables_1 room_1 Calls_1 rest_1 Pre_1 Post := by
  intro l hfl _ _ p e ha hc hk s m args below hf hA hF happ hP
  obtain ⟨hcalls, hrest, hpre⟩ := hP
  obtain ⟨-, -, -, hnamed, -, -, -, hat⟩ := (Spec.applies_iff hf).mp happ
  obtain ⟨hg, hn⟩ := and_e (Cond.before_iff.mp (show (Jvm.Cond.and given_1 narrow_1).before args s = true from hpre))
  obtain ⟨g1, g2⟩ := and_e hg
  obtain ⟨g3, g4⟩ := and_e g2
  obtain ⟨g5, g6⟩ := and_e g4
  obtain ⟨g7, g8⟩ := and_e g6
  obtain ⟨g9, g10⟩ := and_e g8
  obtain ⟨g11, g12⟩ := and_e g10
  obtain ⟨w0, w1, w2, w3, w4, w5, rfl⟩ : ∃ w0 w1 w2 w3 w4 w5 : Value, args = #[w0, w1, w2, w3, w4, w5] := by
    have hs : args.size = 6 := by simpa [Cond.value, given_1] using g1
    obtain ⟨L⟩ := args
    match L, hs with
    | [w0, w1, w2, w3, w4, w5], _ => exact ⟨w0, w1, w2, w3, w4, w5, rfl⟩
  have hw := fun d (hd : d ∈ tables_1) => atoms_spec (ws := Jvm.Cond.code x code maxLocals ret :: tables_1) hat d (List.mem_cons_of_mem _ hd)
  obtain ⟨i0, ei0⟩ := is_v g3
  obtain rfl : w0 = (.int i0) := Option.some.inj ei0
  obtain ⟨i1, ei1⟩ := is_v g5
  obtain rfl : w1 = (.int i1) := Option.some.inj ei1
  obtain ⟨i2, ei2⟩ := is_v g7
  obtain rfl : w2 = (.int i2) := Option.some.inj ei2
  obtain ⟨i3, ei3⟩ := is_v g9
  obtain rfl : w3 = (.int i3) := Option.some.inj ei3
  obtain ⟨i4, ei4⟩ := is_v g11
  obtain rfl : w4 = (.int i4) := Option.some.inj ei4
  obtain ⟨i5, ei5⟩ := is_v g12
  obtain rfl : w5 = (.int i5) := Option.some.inj ei5
  obtain ⟨n, o, h1, h2, h3, _, L, rfl, ⟨⟨_, rfl, rfl⟩, N⟩, hq⟩ := ct_0 l s _ hw (h0 := s.heap) (n0 := s.heap.size) (Nat.le_refl _) i0 i1 i2 i3 i4 i5 tables_1 p e ha hc hk s m _ below hf ((Spec.applies_iff_loose hf).mp happ).1 ⟨rfl, State.Warmed39.refl s, rfl⟩ trivial
  refine ⟨n, _, h1, h2, h3, hpost _ _ _ _ _ _ ⟨Cond.after_iff.mpr rfl, Cond.after_iff.mpr (eq_i res_at (Term.int_eval (1)) rfl), trivial⟩ ⟨hq.1, hq.2.1, (hq.2.2.sift fun y hy => Or.inr (N y hy)).mono (by decide) (by decide)⟩⟩
theorem main_1_1 : Claimed_1_1 := comes_1 fun _ _ _ _ _ _ h hF => ⟨h.1, hF⟩
theorem main_1_2 : Claimed_1_2 := comes_1 fun _ _ _ _ _ _ h hF => ⟨h.2.1, hF⟩
end Jvm.Pilot.@@N@@
namespace Jvm.Pilot.@@N@@
open Jvm Jvm.ClassFile Sem Op Lib Jvm.Free Jvm.Stand Jvm.Pilot.@@N@@.Jvm.D
/-! MADE BY PROGRAM (witnessworld.py) out of the Statement's table words and the real class files: 9 classes; the members and pool entries that the words name. The judged class is class 1, her method 1. -/
namespace start1
open Jvm.ClassFile
def u (s : String) : CpInfo := .utf8 (stringToUtf16 s)
/-- a pool by its gaps: so many unusable entries, then the entry; so many at the end -/
def gap : Nat → List CpInfo → List CpInfo
  | 0, r => r
  | n + 1, r => .unusable :: gap n r
def poolList (es : List (Nat × CpInfo)) (last : Nat) : List CpInfo := es.foldr (fun e r => gap e.1 (e.2 :: r)) (gap last [])
def pool (es : List (Nat × CpInfo)) (last : Nat) : Array CpInfo := ⟨poolList es last⟩
def fileOf (pool : Array CpInfo) (this : Nat) (attrs : Array Attribute := #[]) (ms : Array MethodInfo := #[]) (fl : Nat := 33) (sup : Nat := 0) (ifs : Array Nat := #[]) (fds : Array FieldInfo := #[]) : ClassFile where
  minorVersion := 0
  majorVersion := 65
  constantPool := pool
  accessFlags := fl
  thisClass := this
  superClass := sup
  interfaces := ifs
  fields := fds
  methods := ms
  attributes := attrs
def plain (name : String) (sup : Option ClassId) : Class where
  name := name
  kind := .ordinary
  loader := none
  accessFlags := 33
  super := sup
  interfaces := #[]
  cf := none
  fields := #[]
  methods := #[]
  instanceTypes := #[]
  staticTypes := #[]
  resolved := #[]
  callSites := []
  init := .initialized
  statics := none
  mirror := none

def pool0 : Array CpInfo := pool [(5, u "<init>"), (0, u "()V"), (1, .class_ 10), (1, u "java/lang/Object")] 113

def k0m0 : Method := { name := "<init>", desc := "()V", sig := { parameters := [], returnType := none }, accessFlags := 1, code := none }
/-- java/lang/Object -/
def k0 : Class := { plain "java/lang/Object" none with
  accessFlags := 33
  interfaces := #[]
  cf := some (fileOf pool0 8 #[] #[{ accessFlags := 1, nameIndex := 5, descriptorIndex := 6, attributes := #[] }] 33 0 #[] #[])
  fields := #[]
  methods := #[k0m0]
  instanceTypes := #[]
  staticTypes := #[]
  resolved := Array.replicate 124 none
  statics := none }

def pool1 : Array CpInfo := pool [(2, .class_ 4), (1, u "java/lang/Object"), (0, u "<init>"), (0, u "()V"), (0, .methodref 8 9), (0, .class_ 10), (0, .nameAndType 11 12), (0, u "com/example/cutbelief/cutbelief/inference/Potentials"), (0, u "advance"), (0, u "([I[I[II)I"), (0, .class_ 14), (0, u "com/example/cutbelief/cutbelief/inference/PotentialsAdvancePinLaw"), (2, u "law"), (0, u "(IIIIII)Z")] 5

def k1m0 : Method := { name := "<init>", desc := "()V", sig := { parameters := [], returnType := none }, accessFlags := 1, code := none }
def k1c1 : Code := { maxStack := 4, maxLocals := 23, code := code, exceptionTable := #[], attributes := #[] }
def k1m1 : Method := { name := "law", desc := "(IIIIII)Z", sig := { parameters := [.int, .int, .int, .int, .int, .int], returnType := some .boolean }, accessFlags := 9, code := some k1c1 }
/-- com/example/cutbelief/cutbelief/inference/PotentialsAdvancePinLaw -/
def k1 : Class := { plain "com/example/cutbelief/cutbelief/inference/PotentialsAdvancePinLaw" (some 0) with
  accessFlags := 49
  interfaces := #[]
  cf := some (fileOf pool1 13 #[] #[{ accessFlags := 1, nameIndex := 5, descriptorIndex := 6, attributes := #[] }, { accessFlags := 9, nameIndex := 17, descriptorIndex := 18, attributes := #[] }] 49 2 #[] #[])
  fields := #[]
  methods := #[k1m0, k1m1]
  instanceTypes := #[]
  staticTypes := #[]
  resolved := Array.replicate 24 none
  statics := none }

def pool2 : Array CpInfo := pool [(2, .class_ 4), (1, u "java/lang/Object"), (0, u "<init>"), (0, u "()V"), (0, .class_ 8), (0, u "com/example/cutbelief/cutbelief/inference/Potentials"), (9, u "advance"), (0, u "([I[I[II)I")] 2

def k2m0 : Method := { name := "<init>", desc := "()V", sig := { parameters := [], returnType := none }, accessFlags := 2, code := none }
def k2c1 : Code := { maxStack := 4, maxLocals := 6, code := prog_44_method_4_code, exceptionTable := #[], attributes := #[] }
def k2m1 : Method := { name := "advance", desc := "([I[I[II)I", sig := { parameters := [(.array .int), (.array .int), (.array .int), .int], returnType := some .int }, accessFlags := 8, code := some k2c1 }
/-- com/example/cutbelief/cutbelief/inference/Potentials -/
def k2 : Class := { plain "com/example/cutbelief/cutbelief/inference/Potentials" (some 0) with
  accessFlags := 48
  interfaces := #[]
  cf := some (fileOf pool2 7 #[] #[{ accessFlags := 2, nameIndex := 5, descriptorIndex := 6, attributes := #[] }, { accessFlags := 8, nameIndex := 18, descriptorIndex := 19, attributes := #[] }] 48 2 #[] #[])
  fields := #[]
  methods := #[k2m0, k2m1]
  instanceTypes := #[]
  staticTypes := #[]
  resolved := Array.replicate 22 none
  statics := none }

def pool3 : Array CpInfo := pool [(1, u "java/lang/Cloneable"), (0, .class_ 1), (0, u "java/lang/Object"), (0, .class_ 3)] 3

/-- java/lang/Cloneable -/
def k3 : Class := { plain "java/lang/Cloneable" (some 0) with
  accessFlags := 1537
  interfaces := #[]
  cf := some (fileOf pool3 2 #[] #[] 1537 4 #[] #[])
  fields := #[]
  methods := #[]
  instanceTypes := #[]
  staticTypes := #[]
  resolved := Array.replicate 8 none
  statics := none }

def pool4 : Array CpInfo := pool [(1, u "java/io/Serializable"), (0, .class_ 1), (0, u "java/lang/Object"), (0, .class_ 3)] 3

/-- java/io/Serializable -/
def k4 : Class := { plain "java/io/Serializable" (some 0) with
  accessFlags := 1537
  interfaces := #[]
  cf := some (fileOf pool4 2 #[] #[] 1537 4 #[] #[])
  fields := #[]
  methods := #[]
  instanceTypes := #[]
  staticTypes := #[]
  resolved := Array.replicate 8 none
  statics := none }

/-- the primitive byte -/
def k5 : Class := { plain "byte" none with kind := .primitive 'B', accessFlags := 0x411 }
/-- [B -/
def k6 : Class := { plain "[B" (some 0) with kind := .array 5 .byte, interfaces := #[3, 4], accessFlags := 1041 }

/-- the primitive int -/
def k7 : Class := { plain "int" none with kind := .primitive 'I', accessFlags := 0x411 }
/-- [I -/
def k8 : Class := { plain "[I" (some 0) with kind := .array 7 .int, interfaces := #[3, 4], accessFlags := 1041 }

def heap : Heap := #[]
def classes : Array Class := #[k0, k1, k2, k3, k4, k5, k6, k7, k8]
def interned : List (Array UInt16 × Addr) := []
def slotsUsed : Nat := 0
def theMethod : MethodId := ⟨1, 1⟩
def args0 : Array Value := #[.int 3, .int 3, .int 0, .int 1, .int 2, .int 7]
def aboutOver (below : List Frame) : State where
  vm := { classes := classes, interned := interned.toArray }
  heap := heap
  slotsUsed := slotsUsed
  threads := #[{ frames := .invoking theMethod args0 :: below }]
def below0 : List Frame := [.native { method := ⟨0, 0⟩, args := #[] }]
def about1 : State := aboutOver below0
def p0 : Program := .bare "" "" ""
def e0 : Env := launch0.env 0 0 0
theorem w_frames : about1.frames = Frame.invoking theMethod args0 :: below0 := rfl
set_option maxRecDepth 65536 in
theorem w_args : argsFit about1.vm theMethod args0 = true := by decide +kernel
set_option maxRecDepth 65536 in
theorem w_heap : heapFits about1 = true := by decide +kernel
set_option maxRecDepth 65536 in
theorem w_runnable : about1.curStatus? = some .runnable := by decide +kernel
set_option maxRecDepth 65536 in
theorem w_alone : about1.alone = true := by decide +kernel
set_option maxRecDepth 65536 in
theorem w_named : about1.methodNamed? x = some theMethod := by decide +kernel
set_option maxRecDepth 65536 in
theorem w_hears : about1.hears theMethod below0 = true := by decide +kernel
set_option maxRecDepth 65536 in
theorem w_ripe : about1.ripe theMethod args0 below0 = true := by decide +kernel
theorem w_running : about1.status = .running := rfl
set_option maxRecDepth 65536 in
theorem w_room : about1.hasRoom e0.platform room_1 = true :=
  launch0.hasRoom_least _ room_1 (by decide +kernel) (by decide +kernel) (by decide +kernel) (by decide +kernel) (by decide +kernel) (by decide +kernel)
theorem allAtoms_all (ts : List Jvm.Cond) (a : Array Jvm.Value) (st : Jvm.State) : (allAtoms ts).before a st = ts.all (fun c => c.before a st) := by
  induction ts with
  | nil => rfl
  | cons c t ih =>
    show (Jvm.Cond.and c (allAtoms t)).before a st = _
    rw [Jvm.Cond.before_and, ih, List.all_cons]
def words1 : List Jvm.Cond := Jvm.Cond.code x code maxLocals ret :: tables_1
/-- a 'code' word, met by the world's own term for the bytes: nothing is compared byte by byte -/
theorem code_word {y : MethodName} {bytes : ByteArray} {mx : Nat} {rt : Option FieldType} {a : Array Value} {s : State} {m : MethodId} {meth : Method} {c : Code} (h1 : s.methodNamed? y = some m) (h2 : s.vm.method? m = some meth) (h3 : meth.code = some c) (h4 : c.code = bytes)
    (h5 : (c.maxLocals == mx && c.exceptionTable.isEmpty && decide (c.maxStack ≤ mostOperands) && decide (meth.sig.returnType = rt) && !meth.locks && decide (parseMethodDescriptor y.desc = some meth.sig)) = true) : (Jvm.Cond.code y bytes mx rt).before a s = true := by
  simp only [Bool.and_eq_true, beq_iff_eq, Bool.not_eq_true', decide_eq_true_eq] at h5
  obtain ⟨⟨⟨⟨⟨g1, g2⟩, g3⟩, g4⟩, g5⟩, g6⟩ := h5
  simp [Cond.before, Cond.holds, Cond.value, h1, h2, h3, h4, g1, g2, g3, g4, g5, g6]
def isCode : Jvm.Cond → Bool
  | .code _ _ _ _ => true
  | _ => false
theorem all_split {L : List Jvm.Cond} {P : Jvm.Cond → Bool} (h1 : L.all (fun c => isCode c || P c) = true) (h2 : ∀ c ∈ L.filter isCode, P c = true) : L.all P = true := by
  refine List.all_eq_true.mpr fun c hc => ?_
  have h := List.all_eq_true.mp h1 c hc
  rcases Bool.eq_false_or_eq_true (isCode c) with hi | hi
  · exact h2 c (List.mem_filter.mpr ⟨hc, hi⟩)
  · simpa [hi] using h
set_option maxRecDepth 65536 in
theorem w_c0 : (Jvm.Cond.code x code maxLocals ret).before args0 about1 = true := code_word (m := ⟨1, 1⟩) (meth := k1m1) (c := k1c1) (by decide +kernel) rfl rfl rfl (by decide +kernel)
set_option maxRecDepth 65536 in
theorem w_c1 : (Jvm.Cond.code ({ cls := "com/example/cutbelief/cutbelief/inference/Potentials", name := "advance", desc := "([I[I[II)I" } : Jvm.MethodName) prog_44_method_4_code (6 : Nat) (Option.some Jvm.ClassFile.FieldType.int)).before args0 about1 = true := code_word (m := ⟨2, 1⟩) (meth := k2m1) (c := k2c1) (by decide +kernel) rfl rfl rfl (by decide +kernel)
def codes1 : List Jvm.Cond := [Jvm.Cond.code x code maxLocals ret, Jvm.Cond.code ({ cls := "com/example/cutbelief/cutbelief/inference/Potentials", name := "advance", desc := "([I[I[II)I" } : Jvm.MethodName) prog_44_method_4_code (6 : Nat) (Option.some Jvm.ClassFile.FieldType.int)]
set_option maxRecDepth 65536 in
theorem codes_eq : words1.filter isCode = codes1 := rfl
theorem w_codes : ∀ c ∈ words1.filter isCode, c.before args0 about1 = true := by
  rw [codes_eq]
  intro c hc
  simp only [codes1, List.mem_cons, List.not_mem_nil, or_false] at hc
  rcases hc with rfl | rfl
  · exact w_c0
  · exact w_c1
set_option maxRecDepth 65536 in
theorem w_t1 : words1.all (fun c => isCode c || c.before args0 about1) = true := by decide +kernel
theorem w_tables : (allAtoms (Jvm.Cond.code x code maxLocals ret :: tables_1)).before args0 about1 = true := by
  rw [allAtoms_all]
  show words1.all (fun c => c.before args0 about1) = true
  refine all_split ?_ w_codes
  rw [w_t1]
set_option maxRecDepth 65536 in
theorem w_case : (Jvm.Cond.and given_1 narrow_1).before args0 about1 = true := by decide +kernel
theorem w_applies : (headSpec (Jvm.Cond.code x code maxLocals ret :: tables_1) room_1).applies x e0.platform about1 = true :=
  (Spec.applies_iff w_frames).mpr ⟨w_running, w_runnable, w_alone, w_named, w_hears, w_ripe, w_room, w_tables⟩
theorem atStart : AtStart classFile x code maxLocals ret World_1 tables_1 room_1 Calls_1 rest_1 Pre_1 launch0 p0 e0 about1 theMethod args0 below0 :=
  ⟨lists_1, trivial, launch0.admits_env _ _ _, launch0.least_env, fairChoices_fair.cas, fairChoices_fair.clock, w_frames, w_args, w_heap, w_applies, trivial, trivial, w_case⟩
end start1
theorem witness_1 : WitnessClaimed_1 := ⟨start1.p0, start1.e0, start1.about1, start1.theMethod, start1.args0, start1.below0, start1.atStart⟩
end Jvm.Pilot.@@N@@
