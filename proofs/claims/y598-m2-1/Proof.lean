import JvmDerived
import JvmDerived.Pilot.@@N@@Statement
import JvmDerived.Pilot.@@N@@Code
set_option maxHeartbeats 4000000
set_option linter.unusedVariables false
set_option linter.unusedSimpArgs false
namespace Jvm.RoadKit
open Sem ClassFile Op Lib Jvm.Stand Jvm.Free Jvm.LawKit
section OwnK
variable {p : Program} {l : Launch} {e : Env} {R : Room} {s : State} {m : MethodId} {args : Array Value} {below : List Frame} {meth : Method} {c : Code} {T : State} {cells slots cells' slots' : Nat} {Z : State} {a0 : Array Value} {h : Heap} {n0 : Nat} {D : State → Prop} {pc pc' : Nat} {Ls : Array Slot} {St : List Value}
/-- the run goes from the frame g at T to a state that is done -/
def GoK (p : Program) (e : Env) (below : List Frame) (D : State → Prop) (T : State) (g : JFrame) : Prop := ∃ u, Steps p.tables e below (T.setTop g) u ∧ D u
/-- where the walk stands: the state, its heap, what was made; all that was written is new -/
def OnK (p : Program) (l : Launch) (e : Env) (R : Room) (s : State) (m : MethodId) (args : Array Value) (below : List Frame) (meth : Method) (c : Code) (n0 : Nat) (T : State) (h : Heap) (cells slots : Nat) : Prop := ∃ locs, Stand p l e R s m args below meth c T locs cells slots ∧ T.heap = h ∧ Fr n0 locs
/-- the call has returned -/
def DoneK (s : State) (below : List Frame) (n0 C S : Nat) (Q : Option Value → Heap → Prop) (u : State) : Prop := u.status = .running ∧ ∃ v L, Ended u below (.returned v) ∧ Q v u.heap ∧ Fr n0 L ∧ FrameEnd s (.returned v) u L C S
def QI (P : Int32 → Heap → Prop) (v : Option Value) (h : Heap) : Prop := ∃ z, v = some (.int z) ∧ P z h
def QJ (P : Int64 → Heap → Prop) (v : Option Value) (h : Heap) : Prop := ∃ z, v = some (.long z) ∧ P z h
def QA (P : Addr → Heap → Prop) (v : Option Value) (h : Heap) : Prop := ∃ z, v = some (.ref z) ∧ P z h
def QV (P : Heap → Prop) (v : Option Value) (h : Heap) : Prop := v = none ∧ P h
/-- a body's contract -/
def CtK (l : Launch) (Z : State) (y : MethodName) (bytes : ByteArray) (maxL : Nat) (ret : Option FieldType) (rm : Room) (as' : Array Value) (h0 : Heap) (n0 : Nat) (Q : Option Value → Heap → Prop) : Prop :=
  ∀ ws : List Jvm.Cond, MetFree l y (head1 (Jvm.Cond.code y bytes maxL ret :: ws) rm) (fun a U => a = as' ∧ Z.Warmed39 U.vm ∧ U.heap = h0) (fun _ _ _ _ _ => True) (fun _ U o U' => ∃ v L, o = .returned v ∧ (Q v U'.heap ∧ Fr n0 L) ∧ FrameEnd U o U' L rm.cells rm.slots)
theorem GoK.by {T' : State} {g g' : JFrame} (st : ∀ t, Steps p.tables e below (T'.setTop g') t → Steps p.tables e below (T.setTop g) t) (G : GoK p e below D T' g') : GoK p e below D T g := by
  obtain ⟨u, hu, hD⟩ := G
  exact ⟨u, st _ hu, hD⟩
theorem OnK.at (X : OnK p l e R s m args below meth c n0 T h cells slots) : Jvm.At T m c below := by
  obtain ⟨_, X, -, -⟩ := X
  exact X.here
theorem CtK.of {y : MethodName} {bytes : ByteArray} {maxL : Nat} {ret : Option FieldType} {rm : Room} {as' : Array Value} {h0 : Heap} {Q : Option Value → Heap → Prop} (hp : plainFor y = true)
    (body : ∀ {p : Program} {e : Env} {s : State} {m : MethodId} {below : List Frame} {meth : Method} {c : Code} {T : State}, OnK p l e rm s m as' below meth c n0 T h0 0 0 → p.tables.exec = Jvm.exec → Z.Warmed39 s.vm → c.code = bytes → c.maxLocals = maxL → s.vm.findClass y.cls = some m.cls → meth.name = y.name → meth.sig.returnType = ret → meth.locks = false →
      GoK p e below (DoneK s below n0 rm.cells rm.slots Q) T (entryFrame m as' maxL)) : CtK l Z y bytes maxL ret rm as' h0 n0 Q := by
  intro ws
  refine MetFree.of_bodySF hp hisR ?_
  intro p e s m args below meth c s₁ Bd hml0 hP hK
  obtain ⟨rfl, hZ, hh⟩ := hP
  have hown : s.vm.findClass y.cls = some m.cls := findClass_of_methodNamed Bd.named
  have hnm := (name_of_methodNamed Bd.named Bd.method).1
  have X0 : Stand p l e rm s m args below meth c s₁ [] 0 0 := Stand.of_body Bd
  have e0 : s₁.heap = h0 := by rw [← hh, Bd.state]; rfl
  obtain ⟨u, hu, hrun, v, L, hen, hQ, hN, hF⟩ := body ⟨[], X0, e0, Fr.nil n0⟩ Bd.exec hZ Bd.bytes hml0 hown hnm Bd.returns (BodyLoose.notSynchronized Bd)
  exact ⟨u, _, hu, hrun, hen, v, L, rfl, ⟨hQ, hN⟩, hF⟩
theorem GoK.entry {as' : Array Value} {n : Nat} (q : entryFrame m as' n = mkF m 0 Ls []) (G : GoK p e below D T (mkF m 0 Ls [])) : GoK p e below D T (entryFrame m as' n) := q ▸ G
theorem go_nameI {x : Int32} (G : ∀ z : Int32, z = x → GoK p e below D T (mkF m pc Ls (.int z :: St))) : GoK p e below D T (mkF m pc Ls (.int x :: St)) := G x rfl
theorem go_nameJ {x : Int64} (G : ∀ z : Int64, z = x → GoK p e below D T (mkF m pc Ls (.long z :: St))) : GoK p e below D T (mkF m pc Ls (.long x :: St)) := G x rfl
/-- the end: what every return has in common -/
theorem go_end {C S : Nat} {Q : Option Value → Heap → Prop} {v : Option Value} {g : JFrame} (X : OnK p l e R s m args below meth c n0 T h cells slots) (hlk : meth.locks = false) (hv : meth.sig.returnType = none → v = none) (hc : cells ≤ C) (hs : slots ≤ S) (q : Q v h)
    (st : ∀ {locs : List Loc}, Stand p l e R s m args below meth c T locs cells slots → ∀ {fs : List Frame}, (∀ (f : JFrame) (acts : List Action), f.method = m → f.locked = none → f.entered = [] → (doReturn e (T.setTop f) acts v).1 = T.setFrames fs) → Steps p.tables e below (T.setTop g) (T.setFrames fs)) :
    GoK p e below (DoneK s below n0 C S Q) T g := by
  obtain ⟨locs, X, rfl, N⟩ := X
  obtain ⟨fs, hr, hrun, hended, hW, hsame⟩ := X.leave (v := v) hv hlk
  exact ⟨_, st X hr, hrun, v, locs, hended, q, N, ⟨_, rfl⟩, hW, hsame.mono hc hs⟩
theorem go_retI {C S : Nat} {P : Int32 → Heap → Prop} {x : Int32} (X : OnK p l e R s m args below meth c n0 T h cells slots) (hx : p.tables.exec = Jvm.exec) (hret : meth.sig.returnType = some .int) (hlk : meth.locks = false) (hd : decode c.code pc = .ok (.ireturn, 1)) (hc : cells ≤ C) (hs : slots ≤ S) (q : P x h) : GoK p e below (DoneK s below n0 C S (QI P)) T (mkF m pc Ls (.int x :: St)) := by
  refine go_end (v := some (.int x)) X hlk (fun q => by rw [hret] at q; cases q) hc hs ⟨_, rfl, q⟩ ?_
  intro locs Y fs hr
  have hm' : T.vm.method? m = some meth := Y.method'
  have hn : narrow .int (.int x) = .int x := rfl
  show Steps p.tables e below (T.setTop { method := m, pc := pc, locals := Ls, stack := _ :: St, locked := none }) _
  jvm_step Y.here [Y.here.top, hx, hd, hm', hret, hn]
  first | (intro acts; rw [hr _ acts rfl rfl rfl]) | rw [hr _ _ rfl rfl rfl]
  exact Steps.refl _
theorem go_retN {C S : Nat} {P : Int32 → Heap → Prop} {x : Int32} {t : FieldType} (X : OnK p l e R s m args below meth c n0 T h cells slots) (hx : p.tables.exec = Jvm.exec) (hret : meth.sig.returnType = some t) (ht : t = .boolean ∨ t = .byte ∨ t = .char ∨ t = .short) (hlk : meth.locks = false) (hd : decode c.code pc = .ok (.ireturn, 1)) (hc : cells ≤ C) (hs : slots ≤ S) (q : P (nar t x) h) : GoK p e below (DoneK s below n0 C S (QI P)) T (mkF m pc Ls (.int x :: St)) := by
  refine go_end (v := some (.int (nar t x))) X hlk (fun q => by rw [hret] at q; cases q) hc hs ⟨_, rfl, q⟩ ?_
  intro locs Y fs hr
  exact retN Y hx hret ht hd hr
theorem go_retV {C S : Nat} {P : Heap → Prop} (X : OnK p l e R s m args below meth c n0 T h cells slots) (hx : p.tables.exec = Jvm.exec) (hret : meth.sig.returnType = none) (hlk : meth.locks = false) (hd : decode c.code pc = .ok (.return_, 1)) (hc : cells ≤ C) (hs : slots ≤ S) (q : P h) : GoK p e below (DoneK s below n0 C S (QV P)) T (mkF m pc Ls []) := by
  refine go_end (v := none) X hlk (fun _ => rfl) hc hs ⟨rfl, q⟩ ?_
  intro locs Y fs hr
  exact Y.returnOut hx hret hd hr
theorem go_retJ {C S : Nat} {P : Int64 → Heap → Prop} {x : Int64} (X : OnK p l e R s m args below meth c n0 T h cells slots) (hx : p.tables.exec = Jvm.exec) (hret : meth.sig.returnType = some .long) (hlk : meth.locks = false) (hd : decode c.code pc = .ok (.lreturn, 1)) (hc : cells ≤ C) (hs : slots ≤ S) (q : P x h) : GoK p e below (DoneK s below n0 C S (QJ P)) T (mkF m pc Ls (.long x :: St)) := by
  refine go_end (v := some (.long x)) X hlk (fun q => by rw [hret] at q; cases q) hc hs ⟨_, rfl, q⟩ ?_
  intro locs Y fs hr
  exact retOut Y hx hret rfl (Or.inr (Or.inl ⟨rfl, rfl, _, rfl⟩)) hd hr
theorem go_retA {C S : Nat} {P : Addr → Heap → Prop} {x : Addr} {t : FieldType} (X : OnK p l e R s m args below meth c n0 T h cells slots) (hx : p.tables.exec = Jvm.exec) (hret : meth.sig.returnType = some t) (ht : t.isReference = true) (hnr : narrow t (.ref x) = .ref x) (hlk : meth.locks = false) (hd : decode c.code pc = .ok (.areturn, 1)) (hc : cells ≤ C) (hs : slots ≤ S) (q : P x h) : GoK p e below (DoneK s below n0 C S (QA P)) T (mkF m pc Ls (.ref x :: St)) := by
  refine go_end (v := some (.ref x)) X hlk (fun q => by rw [hret] at q; cases q) hc hs ⟨_, rfl, q⟩ ?_
  intro locs Y fs hr
  exact retOut Y hx hret hnr (Or.inr (Or.inr (Or.inr (Or.inr ⟨rfl, ht, rfl⟩)))) hd hr
theorem go_iadd (X : OnK p l e R s m args below meth c n0 T h cells slots) (hx : p.tables.exec = Jvm.exec) {x y : Int32} (hd : decode c.code pc = .ok (.iadd, 1)) (hp : pc + 1 = pc') (G : GoK p e below D T (mkF m pc' Ls (.int (x + y) :: St))) : GoK p e below D T (mkF m pc Ls (.int y :: .int x :: St)) := by
  subst hp
  exact GoK.by (fun t k => XS.iadd X.at hx rfl hd rfl k) G
theorem go_isub (X : OnK p l e R s m args below meth c n0 T h cells slots) (hx : p.tables.exec = Jvm.exec) {x y : Int32} (hd : decode c.code pc = .ok (.isub, 1)) (hp : pc + 1 = pc') (G : GoK p e below D T (mkF m pc' Ls (.int (x - y) :: St))) : GoK p e below D T (mkF m pc Ls (.int y :: .int x :: St)) := by
  subst hp
  exact GoK.by (fun t k => XS.isub X.at hx rfl hd rfl k) G
theorem go_imul (X : OnK p l e R s m args below meth c n0 T h cells slots) (hx : p.tables.exec = Jvm.exec) {x y : Int32} (hd : decode c.code pc = .ok (.imul, 1)) (hp : pc + 1 = pc') (G : GoK p e below D T (mkF m pc' Ls (.int (x * y) :: St))) : GoK p e below D T (mkF m pc Ls (.int y :: .int x :: St)) := by
  subst hp
  exact GoK.by (fun t k => XS.imul X.at hx rfl hd rfl k) G
theorem go_iand (X : OnK p l e R s m args below meth c n0 T h cells slots) (hx : p.tables.exec = Jvm.exec) {x y : Int32} (hd : decode c.code pc = .ok (.iand, 1)) (hp : pc + 1 = pc') (G : GoK p e below D T (mkF m pc' Ls (.int (x &&& y) :: St))) : GoK p e below D T (mkF m pc Ls (.int y :: .int x :: St)) := by
  subst hp
  exact GoK.by (fun t k => XS.iand X.at hx rfl hd rfl k) G
theorem go_ior (X : OnK p l e R s m args below meth c n0 T h cells slots) (hx : p.tables.exec = Jvm.exec) {x y : Int32} (hd : decode c.code pc = .ok (.ior, 1)) (hp : pc + 1 = pc') (G : GoK p e below D T (mkF m pc' Ls (.int (x ||| y) :: St))) : GoK p e below D T (mkF m pc Ls (.int y :: .int x :: St)) := by
  subst hp
  exact GoK.by (fun t k => XS.ior X.at hx rfl hd rfl k) G
theorem go_ixor (X : OnK p l e R s m args below meth c n0 T h cells slots) (hx : p.tables.exec = Jvm.exec) {x y : Int32} (hd : decode c.code pc = .ok (.ixor, 1)) (hp : pc + 1 = pc') (G : GoK p e below D T (mkF m pc' Ls (.int (x ^^^ y) :: St))) : GoK p e below D T (mkF m pc Ls (.int y :: .int x :: St)) := by
  subst hp
  exact GoK.by (fun t k => XS.ixor X.at hx rfl hd rfl k) G
theorem go_ishl (X : OnK p l e R s m args below meth c n0 T h cells slots) (hx : p.tables.exec = Jvm.exec) {x y : Int32} (hd : decode c.code pc = .ok (.ishl, 1)) (hp : pc + 1 = pc') (G : GoK p e below D T (mkF m pc' Ls (.int (x <<< (y &&& 31)) :: St))) : GoK p e below D T (mkF m pc Ls (.int y :: .int x :: St)) := by
  subst hp
  exact GoK.by (fun t k => XS.ishl X.at hx rfl hd rfl k) G
theorem go_ishr (X : OnK p l e R s m args below meth c n0 T h cells slots) (hx : p.tables.exec = Jvm.exec) {x y : Int32} (hd : decode c.code pc = .ok (.ishr, 1)) (hp : pc + 1 = pc') (G : GoK p e below D T (mkF m pc' Ls (.int (x >>> (y &&& 31)) :: St))) : GoK p e below D T (mkF m pc Ls (.int y :: .int x :: St)) := by
  subst hp
  exact GoK.by (fun t k => XS.ishr X.at hx rfl hd rfl k) G
theorem go_iushr (X : OnK p l e R s m args below meth c n0 T h cells slots) (hx : p.tables.exec = Jvm.exec) {x y : Int32} (hd : decode c.code pc = .ok (.iushr, 1)) (hp : pc + 1 = pc') (G : GoK p e below D T (mkF m pc' Ls (.int ((x.toUInt32 >>> (y &&& 31).toUInt32).toInt32) :: St))) : GoK p e below D T (mkF m pc Ls (.int y :: .int x :: St)) := by
  subst hp
  exact GoK.by (fun t k => XS.iushr X.at hx rfl hd rfl k) G
theorem go_ladd (X : OnK p l e R s m args below meth c n0 T h cells slots) (hx : p.tables.exec = Jvm.exec) {x y : Int64} (hd : decode c.code pc = .ok (.ladd, 1)) (hp : pc + 1 = pc') (G : GoK p e below D T (mkF m pc' Ls (.long (x + y) :: St))) : GoK p e below D T (mkF m pc Ls (.long y :: .long x :: St)) := by
  subst hp
  exact GoK.by (fun t k => XS.ladd X.at hx rfl hd rfl k) G
theorem go_lsub (X : OnK p l e R s m args below meth c n0 T h cells slots) (hx : p.tables.exec = Jvm.exec) {x y : Int64} (hd : decode c.code pc = .ok (.lsub, 1)) (hp : pc + 1 = pc') (G : GoK p e below D T (mkF m pc' Ls (.long (x - y) :: St))) : GoK p e below D T (mkF m pc Ls (.long y :: .long x :: St)) := by
  subst hp
  exact GoK.by (fun t k => XS.lsub X.at hx rfl hd rfl k) G
theorem go_lmul (X : OnK p l e R s m args below meth c n0 T h cells slots) (hx : p.tables.exec = Jvm.exec) {x y : Int64} (hd : decode c.code pc = .ok (.lmul, 1)) (hp : pc + 1 = pc') (G : GoK p e below D T (mkF m pc' Ls (.long (x * y) :: St))) : GoK p e below D T (mkF m pc Ls (.long y :: .long x :: St)) := by
  subst hp
  exact GoK.by (fun t k => XS.lmul X.at hx rfl hd rfl k) G
theorem go_land (X : OnK p l e R s m args below meth c n0 T h cells slots) (hx : p.tables.exec = Jvm.exec) {x y : Int64} (hd : decode c.code pc = .ok (.land, 1)) (hp : pc + 1 = pc') (G : GoK p e below D T (mkF m pc' Ls (.long (x &&& y) :: St))) : GoK p e below D T (mkF m pc Ls (.long y :: .long x :: St)) := by
  subst hp
  exact GoK.by (fun t k => XS.land X.at hx rfl hd rfl k) G
theorem go_lor (X : OnK p l e R s m args below meth c n0 T h cells slots) (hx : p.tables.exec = Jvm.exec) {x y : Int64} (hd : decode c.code pc = .ok (.lor, 1)) (hp : pc + 1 = pc') (G : GoK p e below D T (mkF m pc' Ls (.long (x ||| y) :: St))) : GoK p e below D T (mkF m pc Ls (.long y :: .long x :: St)) := by
  subst hp
  exact GoK.by (fun t k => XS.lor X.at hx rfl hd rfl k) G
theorem go_lxor (X : OnK p l e R s m args below meth c n0 T h cells slots) (hx : p.tables.exec = Jvm.exec) {x y : Int64} (hd : decode c.code pc = .ok (.lxor, 1)) (hp : pc + 1 = pc') (G : GoK p e below D T (mkF m pc' Ls (.long (x ^^^ y) :: St))) : GoK p e below D T (mkF m pc Ls (.long y :: .long x :: St)) := by
  subst hp
  exact GoK.by (fun t k => XS.lxor X.at hx rfl hd rfl k) G
theorem go_lshl (X : OnK p l e R s m args below meth c n0 T h cells slots) (hx : p.tables.exec = Jvm.exec) {x : Int64} {y : Int32} (hd : decode c.code pc = .ok (.lshl, 1)) (hp : pc + 1 = pc') (G : GoK p e below D T (mkF m pc' Ls (.long (x <<< (y &&& 0x3f).toInt64) :: St))) : GoK p e below D T (mkF m pc Ls (.int y :: .long x :: St)) := by
  subst hp
  exact GoK.by (fun t k => XS.lshl X.at hx rfl hd rfl k) G
theorem go_lshr (X : OnK p l e R s m args below meth c n0 T h cells slots) (hx : p.tables.exec = Jvm.exec) {x : Int64} {y : Int32} (hd : decode c.code pc = .ok (.lshr, 1)) (hp : pc + 1 = pc') (G : GoK p e below D T (mkF m pc' Ls (.long (x >>> (y &&& 0x3f).toInt64) :: St))) : GoK p e below D T (mkF m pc Ls (.int y :: .long x :: St)) := by
  subst hp
  exact GoK.by (fun t k => XS.lshr X.at hx rfl hd rfl k) G
theorem go_lushr (X : OnK p l e R s m args below meth c n0 T h cells slots) (hx : p.tables.exec = Jvm.exec) {x : Int64} {y : Int32} (hd : decode c.code pc = .ok (.lushr, 1)) (hp : pc + 1 = pc') (G : GoK p e below D T (mkF m pc' Ls (.long ((x.toUInt64 >>> (y &&& 0x3f).toInt64.toUInt64).toInt64) :: St))) : GoK p e below D T (mkF m pc Ls (.int y :: .long x :: St)) := by
  subst hp
  exact GoK.by (fun t k => XS.lushr X.at hx rfl hd rfl k) G
theorem go_idiv (X : OnK p l e R s m args below meth c n0 T h cells slots) (hx : p.tables.exec = Jvm.exec) {x y : Int32} (hd : decode c.code pc = .ok (.idiv, 1)) (hp : pc + 1 = pc') (hy : y ≠ 0) (G : GoK p e below D T (mkF m pc' Ls (.int (x / y) :: St))) : GoK p e below D T (mkF m pc Ls (.int y :: .int x :: St)) := by
  subst hp
  exact GoK.by (fun t k => XS.idiv X.at hx rfl hd rfl hy k) G
theorem go_ldiv (X : OnK p l e R s m args below meth c n0 T h cells slots) (hx : p.tables.exec = Jvm.exec) {x y : Int64} (hd : decode c.code pc = .ok (.ldiv, 1)) (hp : pc + 1 = pc') (hy : y ≠ 0) (G : GoK p e below D T (mkF m pc' Ls (.long (x / y) :: St))) : GoK p e below D T (mkF m pc Ls (.long y :: .long x :: St)) := by
  subst hp
  exact GoK.by (fun t k => XS.ldiv X.at hx rfl hd rfl hy k) G
theorem go_irem (X : OnK p l e R s m args below meth c n0 T h cells slots) (hx : p.tables.exec = Jvm.exec) {x y : Int32} (hd : decode c.code pc = .ok (.irem, 1)) (hp : pc + 1 = pc') (hy : y ≠ 0) (G : GoK p e below D T (mkF m pc' Ls (.int (x % y) :: St))) : GoK p e below D T (mkF m pc Ls (.int y :: .int x :: St)) := by
  subst hp
  obtain ⟨_, Y, -, -⟩ := X
  exact GoK.by (fun t k => iremM Y hx rfl hd rfl hy k) G
theorem go_lrem (X : OnK p l e R s m args below meth c n0 T h cells slots) (hx : p.tables.exec = Jvm.exec) {x y : Int64} (hd : decode c.code pc = .ok (.lrem, 1)) (hp : pc + 1 = pc') (hy : y ≠ 0) (G : GoK p e below D T (mkF m pc' Ls (.long (x % y) :: St))) : GoK p e below D T (mkF m pc Ls (.long y :: .long x :: St)) := by
  subst hp
  rw [← lrem_mod] at G
  exact GoK.by (fun t k => XS.lrem X.at hx rfl hd rfl hy k) G
theorem go_ineg (X : OnK p l e R s m args below meth c n0 T h cells slots) (hx : p.tables.exec = Jvm.exec) {x : Int32} (hd : decode c.code pc = .ok (.ineg, 1)) (hp : pc + 1 = pc') (G : GoK p e below D T (mkF m pc' Ls (.int (-x) :: St))) : GoK p e below D T (mkF m pc Ls (.int x :: St)) := by
  subst hp
  exact GoK.by (fun t k => XS.ineg X.at hx rfl hd rfl k) G
theorem go_lneg (X : OnK p l e R s m args below meth c n0 T h cells slots) (hx : p.tables.exec = Jvm.exec) {x : Int64} (hd : decode c.code pc = .ok (.lneg, 1)) (hp : pc + 1 = pc') (G : GoK p e below D T (mkF m pc' Ls (.long (-x) :: St))) : GoK p e below D T (mkF m pc Ls (.long x :: St)) := by
  subst hp
  exact GoK.by (fun t k => XS.lneg X.at hx rfl hd rfl k) G
theorem go_i2l (X : OnK p l e R s m args below meth c n0 T h cells slots) (hx : p.tables.exec = Jvm.exec) {x : Int32} (hd : decode c.code pc = .ok (.i2l, 1)) (hp : pc + 1 = pc') (G : GoK p e below D T (mkF m pc' Ls (.long (x.toInt64) :: St))) : GoK p e below D T (mkF m pc Ls (.int x :: St)) := by
  subst hp
  exact GoK.by (fun t k => XS.i2l X.at hx rfl hd rfl k) G
theorem go_l2i (X : OnK p l e R s m args below meth c n0 T h cells slots) (hx : p.tables.exec = Jvm.exec) {x : Int64} (hd : decode c.code pc = .ok (.l2i, 1)) (hp : pc + 1 = pc') (G : GoK p e below D T (mkF m pc' Ls (.int (x.toInt32) :: St))) : GoK p e below D T (mkF m pc Ls (.long x :: St)) := by
  subst hp
  exact GoK.by (fun t k => XS.l2i X.at hx rfl hd rfl k) G
theorem go_i2b (X : OnK p l e R s m args below meth c n0 T h cells slots) (hx : p.tables.exec = Jvm.exec) {x : Int32} (hd : decode c.code pc = .ok (.i2b, 1)) (hp : pc + 1 = pc') (G : GoK p e below D T (mkF m pc' Ls (.int (x.toInt8.toInt32) :: St))) : GoK p e below D T (mkF m pc Ls (.int x :: St)) := by
  subst hp
  exact GoK.by (fun t k => XS.i2b X.at hx rfl hd rfl k) G
theorem go_i2s (X : OnK p l e R s m args below meth c n0 T h cells slots) (hx : p.tables.exec = Jvm.exec) {x : Int32} (hd : decode c.code pc = .ok (.i2s, 1)) (hp : pc + 1 = pc') (G : GoK p e below D T (mkF m pc' Ls (.int (x.toInt16.toInt32) :: St))) : GoK p e below D T (mkF m pc Ls (.int x :: St)) := by
  subst hp
  exact GoK.by (fun t k => XS.i2s X.at hx rfl hd rfl k) G
theorem go_i2c (X : OnK p l e R s m args below meth c n0 T h cells slots) (hx : p.tables.exec = Jvm.exec) {x : Int32} (hd : decode c.code pc = .ok (.i2c, 1)) (hp : pc + 1 = pc') (G : GoK p e below D T (mkF m pc' Ls (.int (x.toUInt32.toUInt16.toUInt32.toInt32) :: St))) : GoK p e below D T (mkF m pc Ls (.int x :: St)) := by
  subst hp
  exact GoK.by (fun t k => XS.i2c X.at hx rfl hd rfl k) G
theorem go_dup (X : OnK p l e R s m args below meth c n0 T h cells slots) (hx : p.tables.exec = Jvm.exec) {v : Value} (hd : decode c.code pc = .ok (.dup, 1)) (hp : pc + 1 = pc') (hv : v.category = 1) (G : GoK p e below D T (mkF m pc' Ls (v :: v :: St))) : GoK p e below D T (mkF m pc Ls (v :: St)) := by
  subst hp
  exact GoK.by (fun t k => XS.dup X.at hx rfl hd rfl hv k) G
theorem go_pop (X : OnK p l e R s m args below meth c n0 T h cells slots) (hx : p.tables.exec = Jvm.exec) {v : Value} (hd : decode c.code pc = .ok (.pop, 1)) (hp : pc + 1 = pc') (hv : v.category = 1) (G : GoK p e below D T (mkF m pc' Ls St)) : GoK p e below D T (mkF m pc Ls (v :: St)) := by
  subst hp
  exact GoK.by (fun t k => XS.pop X.at hx rfl hd rfl hv k) G
theorem go_iload (X : OnK p l e R s m args below meth c n0 T h cells slots) (hx : p.tables.exec = Jvm.exec) {k : Nat} {v : Int32} (hd : decode c.code pc = .ok (.iload k, 2)) (hp : pc + 2 = pc') (hl : Ls[k]? = some (.val (.int v))) (G : GoK p e below D T (mkF m pc' Ls (.int v :: St))) : GoK p e below D T (mkF m pc Ls St) := by
  subst hp
  exact GoK.by (fun t k => XS.iload X.at hx rfl hd hl k) G
theorem go_lload (X : OnK p l e R s m args below meth c n0 T h cells slots) (hx : p.tables.exec = Jvm.exec) {k : Nat} {v : Int64} (hd : decode c.code pc = .ok (.lload k, 2)) (hp : pc + 2 = pc') (hl : Ls[k]? = some (.val (.long v))) (G : GoK p e below D T (mkF m pc' Ls (.long v :: St))) : GoK p e below D T (mkF m pc Ls St) := by
  subst hp
  exact GoK.by (fun t k => XS.lload X.at hx rfl hd hl k) G
theorem go_aload (X : OnK p l e R s m args below meth c n0 T h cells slots) (hx : p.tables.exec = Jvm.exec) {k : Nat} {v : Addr} (hd : decode c.code pc = .ok (.aload k, 2)) (hp : pc + 2 = pc') (hl : Ls[k]? = some (.val (.ref v))) (G : GoK p e below D T (mkF m pc' Ls (.ref v :: St))) : GoK p e below D T (mkF m pc Ls St) := by
  subst hp
  exact GoK.by (fun t k => XS.aload X.at hx rfl hd hl rfl k) G
theorem go_istore (X : OnK p l e R s m args below meth c n0 T h cells slots) (hx : p.tables.exec = Jvm.exec) {k : Nat} {v : Int32} {L' : Array Slot} (hd : decode c.code pc = .ok (.istore k, 2)) (hp : pc + 2 = pc') (hl : storeLocals Ls k (.int v) = some L') (G : GoK p e below D T (mkF m pc' L' St)) : GoK p e below D T (mkF m pc Ls (.int v :: St)) := by
  subst hp
  exact GoK.by (fun t k => XS.istore X.at hx rfl hd rfl hl k) G
theorem go_lstore (X : OnK p l e R s m args below meth c n0 T h cells slots) (hx : p.tables.exec = Jvm.exec) {k : Nat} {v : Int64} {L' : Array Slot} (hd : decode c.code pc = .ok (.lstore k, 2)) (hp : pc + 2 = pc') (hl : storeLocals Ls k (.long v) = some L') (G : GoK p e below D T (mkF m pc' L' St)) : GoK p e below D T (mkF m pc Ls (.long v :: St)) := by
  subst hp
  exact GoK.by (fun t k => XS.lstore X.at hx rfl hd rfl hl k) G
theorem go_astore (X : OnK p l e R s m args below meth c n0 T h cells slots) (hx : p.tables.exec = Jvm.exec) {k : Nat} {v : Addr} {L' : Array Slot} (hd : decode c.code pc = .ok (.astore k, 2)) (hp : pc + 2 = pc') (hl : storeLocals Ls k (.ref v) = some L') (G : GoK p e below D T (mkF m pc' L' St)) : GoK p e below D T (mkF m pc Ls (.ref v :: St)) := by
  subst hp
  exact GoK.by (fun t k => XS.astore X.at hx rfl hd rfl rfl hl k) G
theorem go_iloadN (X : OnK p l e R s m args below meth c n0 T h cells slots) (hx : p.tables.exec = Jvm.exec) {k : Fin 4} {v : Int32} (hd : decode c.code pc = .ok (.iload_n k, 1)) (hp : pc + 1 = pc') (hl : Ls[k.val]? = some (.val (.int v))) (G : GoK p e below D T (mkF m pc' Ls (.int v :: St))) : GoK p e below D T (mkF m pc Ls St) := by
  subst hp
  exact GoK.by (fun t k => XS.iloadN X.at hx rfl hd hl k) G
theorem go_lloadN (X : OnK p l e R s m args below meth c n0 T h cells slots) (hx : p.tables.exec = Jvm.exec) {k : Fin 4} {v : Int64} (hd : decode c.code pc = .ok (.lload_n k, 1)) (hp : pc + 1 = pc') (hl : Ls[k.val]? = some (.val (.long v))) (G : GoK p e below D T (mkF m pc' Ls (.long v :: St))) : GoK p e below D T (mkF m pc Ls St) := by
  subst hp
  exact GoK.by (fun t k => XS.lloadN X.at hx rfl hd hl k) G
theorem go_aloadN (X : OnK p l e R s m args below meth c n0 T h cells slots) (hx : p.tables.exec = Jvm.exec) {k : Fin 4} {v : Addr} (hd : decode c.code pc = .ok (.aload_n k, 1)) (hp : pc + 1 = pc') (hl : Ls[k.val]? = some (.val (.ref v))) (G : GoK p e below D T (mkF m pc' Ls (.ref v :: St))) : GoK p e below D T (mkF m pc Ls St) := by
  subst hp
  exact GoK.by (fun t k => XS.aloadN X.at hx rfl hd hl rfl k) G
theorem go_istoreN (X : OnK p l e R s m args below meth c n0 T h cells slots) (hx : p.tables.exec = Jvm.exec) {k : Fin 4} {v : Int32} {L' : Array Slot} (hd : decode c.code pc = .ok (.istore_n k, 1)) (hp : pc + 1 = pc') (hl : storeLocals Ls k.val (.int v) = some L') (G : GoK p e below D T (mkF m pc' L' St)) : GoK p e below D T (mkF m pc Ls (.int v :: St)) := by
  subst hp
  exact GoK.by (fun t k => XS.istoreN X.at hx rfl hd rfl hl k) G
theorem go_lstoreN (X : OnK p l e R s m args below meth c n0 T h cells slots) (hx : p.tables.exec = Jvm.exec) {k : Fin 4} {v : Int64} {L' : Array Slot} (hd : decode c.code pc = .ok (.lstore_n k, 1)) (hp : pc + 1 = pc') (hl : storeLocals Ls k.val (.long v) = some L') (G : GoK p e below D T (mkF m pc' L' St)) : GoK p e below D T (mkF m pc Ls (.long v :: St)) := by
  subst hp
  exact GoK.by (fun t k => XS.lstoreN X.at hx rfl hd rfl hl k) G
theorem go_astoreN (X : OnK p l e R s m args below meth c n0 T h cells slots) (hx : p.tables.exec = Jvm.exec) {k : Fin 4} {v : Addr} {L' : Array Slot} (hd : decode c.code pc = .ok (.astore_n k, 1)) (hp : pc + 1 = pc') (hl : storeLocals Ls k.val (.ref v) = some L') (G : GoK p e below D T (mkF m pc' L' St)) : GoK p e below D T (mkF m pc Ls (.ref v :: St)) := by
  subst hp
  exact GoK.by (fun t k => XS.astoreN X.at hx rfl hd rfl rfl hl k) G
theorem go_iinc (X : OnK p l e R s m args below meth c n0 T h cells slots) (hx : p.tables.exec = Jvm.exec) {k : Nat} {i : Int} {v w : Int32} {L' : Array Slot} (hd : decode c.code pc = .ok (.iinc k i, 3)) (hp : pc + 3 = pc') (hl : Ls[k]? = some (.val (.int v))) (hi : v + Int32.ofInt i = w) (hs : storeLocals Ls k (.int w) = some L') (G : GoK p e below D T (mkF m pc' L' St)) : GoK p e below D T (mkF m pc Ls St) := by
  subst hp
  exact GoK.by (fun t k => XS.iinc X.at hx rfl hd hl (hi.symm ▸ hs) k) G
theorem go_iconst (X : OnK p l e R s m args below meth c n0 T h cells slots) (hx : p.tables.exec = Jvm.exec) {i : Int} {v : Int32} (hd : decode c.code pc = .ok (.iconst i, 1)) (hp : pc + 1 = pc') (hv : Int32.ofInt i = v) (G : GoK p e below D T (mkF m pc' Ls (.int v :: St))) : GoK p e below D T (mkF m pc Ls St) := by
  subst hp
  exact GoK.by (fun t k => Jvm.Free.XT.iconstV X.at hx rfl v hd hv k) G
theorem go_bipush (X : OnK p l e R s m args below meth c n0 T h cells slots) (hx : p.tables.exec = Jvm.exec) {i : Int} {v : Int32} (hd : decode c.code pc = .ok (.bipush i, 2)) (hp : pc + 2 = pc') (hv : (Int8.ofInt i).toInt32 = v) (G : GoK p e below D T (mkF m pc' Ls (.int v :: St))) : GoK p e below D T (mkF m pc Ls St) := by
  subst hp
  exact GoK.by (fun t k => Jvm.Free.XT.bipushV X.at hx rfl v hd hv k) G
theorem go_sipush (X : OnK p l e R s m args below meth c n0 T h cells slots) (hx : p.tables.exec = Jvm.exec) {i : Int} {v : Int32} (hd : decode c.code pc = .ok (.sipush i, 3)) (hp : pc + 3 = pc') (hv : (Int16.ofInt i).toInt32 = v) (G : GoK p e below D T (mkF m pc' Ls (.int v :: St))) : GoK p e below D T (mkF m pc Ls St) := by
  subst hp
  exact GoK.by (fun t k => Jvm.Free.XT.sipushV X.at hx rfl v hd hv k) G
theorem go_lconst (X : OnK p l e R s m args below meth c n0 T h cells slots) (hx : p.tables.exec = Jvm.exec) {i : Fin 2} {v : Int64} (hd : decode c.code pc = .ok (.lconst i, 1)) (hp : pc + 1 = pc') (hv : Int64.ofNat i = v) (G : GoK p e below D T (mkF m pc' Ls (.long v :: St))) : GoK p e below D T (mkF m pc Ls St) := by
  subst hp
  exact GoK.by (fun t k => Jvm.Free.XT.lconstV X.at hx rfl v hd hv k) G
theorem go_goto (X : OnK p l e R s m args below meth c n0 T h cells slots) (hx : p.tables.exec = Jvm.exec) {o : Int} (hd : decode c.code pc = .ok (.goto o, 3)) (ho : 0 ≤ (pc : Int) + o) (hp : ((pc : Int) + o).toNat = pc') (G : GoK p e below D T (mkF m pc' Ls St)) : GoK p e below D T (mkF m pc Ls St) :=
  GoK.by (fun t k => XS.goto X.at hx rfl rfl hd ho hp k) G
theorem go_dup2 (X : OnK p l e R s m args below meth c n0 T h cells slots) (hx : p.tables.exec = Jvm.exec) {j : Int32} {a : Addr} (hd : decode c.code pc = .ok (.dup2, 1)) (hp : pc + 1 = pc') (G : GoK p e below D T (mkF m pc' Ls (.int j :: .ref a :: .int j :: .ref a :: St))) : GoK p e below D T (mkF m pc Ls (.int j :: .ref a :: St)) := by
  subst hp
  refine GoK.by (fun t k => ?_) G
  jvm_step X.at [X.at.top, hx, hd, Value.category]
  exact k
theorem go_ldcI (X : OnK p l e R s m args below meth c n0 T h cells slots) (hx : p.tables.exec = Jvm.exec) (hZ : Z.Warmed39 s.vm) {own : String} {i : Nat} {v : Int32} (hown : s.vm.findClass own = some m.cls) (wd : (Jvm.Cond.constant own i v).before a0 Z = true) (hd : decode c.code pc = .ok (.ldc i, 2)) (hp : pc + 2 = pc') (G : GoK p e below D T (mkF m pc' Ls (.int v :: St))) : GoK p e below D T (mkF m pc Ls St) := by
  subst hp
  obtain ⟨_, Y, -, -⟩ := X
  exact GoK.by (fun t k => Y.ldcInt hx hown (mvT hZ wd) (g := mkF m pc Ls St) rfl hd t k) G
theorem go_ldcwI (X : OnK p l e R s m args below meth c n0 T h cells slots) (hx : p.tables.exec = Jvm.exec) (hZ : Z.Warmed39 s.vm) {own : String} {i : Nat} {v : Int32} (hown : s.vm.findClass own = some m.cls) (wd : (Jvm.Cond.constant own i v).before a0 Z = true) (hd : decode c.code pc = .ok (.ldc_w i, 3)) (hp : pc + 3 = pc') (G : GoK p e below D T (mkF m pc' Ls (.int v :: St))) : GoK p e below D T (mkF m pc Ls St) := by
  subst hp
  obtain ⟨_, Y, -, -⟩ := X
  exact GoK.by (fun t k => Y.ldcwInt hx hown (mvT hZ wd) (g := mkF m pc Ls St) rfl hd t k) G
theorem go_ldc2 (X : OnK p l e R s m args below meth c n0 T h cells slots) (hx : p.tables.exec = Jvm.exec) (hZ : Z.Warmed39 s.vm) {own : String} {i : Nat} {v : Int64} (hown : s.vm.findClass own = some m.cls) (wd : (Jvm.Cond.constantLong own i v).before a0 Z = true) (hd : decode c.code pc = .ok (.ldc2_w i, 3)) (hp : pc + 3 = pc') (G : GoK p e below D T (mkF m pc' Ls (.long v :: St))) : GoK p e below D T (mkF m pc Ls St) := by
  subst hp
  obtain ⟨_, Y, -, -⟩ := X
  exact GoK.by (fun t k => Y.ldc2Long hx hown (mvT hZ wd) (g := mkF m pc Ls St) rfl hd t k) G
theorem go_ifeq (X : OnK p l e R s m args below meth c n0 T h cells slots) (hx : p.tables.exec = Jvm.exec) {x : Int32} {o : Int} {pcT : Nat} (hd : decode c.code pc = .ok (.ifCond .eq o, 3)) (hp : pc + 3 = pc') (ho : 0 ≤ (pc : Int) + o) (ht : ((pc : Int) + o).toNat = pcT) (G1 : x = 0 → GoK p e below D T (mkF m pcT Ls St)) (G2 : ¬ x = 0 → GoK p e below D T (mkF m pc' Ls St)) : GoK p e below D T (mkF m pc Ls (.int x :: St)) := by
  subst hp
  by_cases q : x = 0
  · exact GoK.by (fun t k => XS.ifYes X.at hx rfl rfl hd rfl ((if0 _ _).trans (teq q).1) ho ht k) (G1 q)
  · exact GoK.by (fun t k => XS.ifNo X.at hx rfl hd rfl ((if0 _ _).trans (feq q).1) k) (G2 q)
theorem go_icmpeq (X : OnK p l e R s m args below meth c n0 T h cells slots) (hx : p.tables.exec = Jvm.exec) {x y : Int32} {o : Int} {pcT : Nat} (hd : decode c.code pc = .ok (.if_icmp .eq o, 3)) (hp : pc + 3 = pc') (ho : 0 ≤ (pc : Int) + o) (ht : ((pc : Int) + o).toNat = pcT) (G1 : x = y → GoK p e below D T (mkF m pcT Ls St)) (G2 : ¬ x = y → GoK p e below D T (mkF m pc' Ls St)) : GoK p e below D T (mkF m pc Ls (.int y :: .int x :: St)) := by
  subst hp
  by_cases q : x = y
  · exact GoK.by (fun t k => XS.icmpYes X.at hx rfl rfl hd rfl (teq q).1 ho ht k) (G1 q)
  · exact GoK.by (fun t k => XS.icmpNo X.at hx rfl hd rfl (feq q).1 k) (G2 q)
theorem go_lifeq (X : OnK p l e R s m args below meth c n0 T h cells slots) (hx : p.tables.exec = Jvm.exec) {x y : Int64} {o : Int} {pc1 pcT : Nat} (hd1 : decode c.code pc = .ok (.lcmp, 1)) (hp1 : pc + 1 = pc1) (hd : decode c.code pc1 = .ok (.ifCond .eq o, 3)) (hp : pc1 + 3 = pc') (ho : 0 ≤ (pc1 : Int) + o) (ht : ((pc1 : Int) + o).toNat = pcT) (G1 : x = y → GoK p e below D T (mkF m pcT Ls St)) (G2 : ¬ x = y → GoK p e below D T (mkF m pc' Ls St)) : GoK p e below D T (mkF m pc Ls (.long y :: .long x :: St)) := by
  subst hp1
  refine GoK.by (fun t k => XS.lcmp X.at hx rfl hd1 rfl k) ?_
  exact go_ifeq X hx hd hp ho ht (fun q => G1 ((lw_eq x y).mp q)) (fun q => G2 ((not_congr (lw_eq x y)).mp q))
theorem go_ifne (X : OnK p l e R s m args below meth c n0 T h cells slots) (hx : p.tables.exec = Jvm.exec) {x : Int32} {o : Int} {pcT : Nat} (hd : decode c.code pc = .ok (.ifCond .ne o, 3)) (hp : pc + 3 = pc') (ho : 0 ≤ (pc : Int) + o) (ht : ((pc : Int) + o).toNat = pcT) (G1 : ¬ x = 0 → GoK p e below D T (mkF m pcT Ls St)) (G2 : x = 0 → GoK p e below D T (mkF m pc' Ls St)) : GoK p e below D T (mkF m pc Ls (.int x :: St)) := by
  subst hp
  by_cases q : ¬ x = 0
  · exact GoK.by (fun t k => XS.ifYes X.at hx rfl rfl hd rfl ((if0 _ _).trans (feq q).2) ho ht k) (G1 q)
  · exact GoK.by (fun t k => XS.ifNo X.at hx rfl hd rfl ((if0 _ _).trans (teq (Classical.not_not.mp q)).2) k) (G2 (Classical.not_not.mp q))
theorem go_icmpne (X : OnK p l e R s m args below meth c n0 T h cells slots) (hx : p.tables.exec = Jvm.exec) {x y : Int32} {o : Int} {pcT : Nat} (hd : decode c.code pc = .ok (.if_icmp .ne o, 3)) (hp : pc + 3 = pc') (ho : 0 ≤ (pc : Int) + o) (ht : ((pc : Int) + o).toNat = pcT) (G1 : ¬ x = y → GoK p e below D T (mkF m pcT Ls St)) (G2 : x = y → GoK p e below D T (mkF m pc' Ls St)) : GoK p e below D T (mkF m pc Ls (.int y :: .int x :: St)) := by
  subst hp
  by_cases q : ¬ x = y
  · exact GoK.by (fun t k => XS.icmpYes X.at hx rfl rfl hd rfl (feq q).2 ho ht k) (G1 q)
  · exact GoK.by (fun t k => XS.icmpNo X.at hx rfl hd rfl (teq (Classical.not_not.mp q)).2 k) (G2 (Classical.not_not.mp q))
theorem go_lifne (X : OnK p l e R s m args below meth c n0 T h cells slots) (hx : p.tables.exec = Jvm.exec) {x y : Int64} {o : Int} {pc1 pcT : Nat} (hd1 : decode c.code pc = .ok (.lcmp, 1)) (hp1 : pc + 1 = pc1) (hd : decode c.code pc1 = .ok (.ifCond .ne o, 3)) (hp : pc1 + 3 = pc') (ho : 0 ≤ (pc1 : Int) + o) (ht : ((pc1 : Int) + o).toNat = pcT) (G1 : ¬ x = y → GoK p e below D T (mkF m pcT Ls St)) (G2 : x = y → GoK p e below D T (mkF m pc' Ls St)) : GoK p e below D T (mkF m pc Ls (.long y :: .long x :: St)) := by
  subst hp1
  refine GoK.by (fun t k => XS.lcmp X.at hx rfl hd1 rfl k) ?_
  exact go_ifne X hx hd hp ho ht (fun q => G1 ((not_congr (lw_eq x y)).mp q)) (fun q => G2 ((lw_eq x y).mp q))
theorem go_iflt (X : OnK p l e R s m args below meth c n0 T h cells slots) (hx : p.tables.exec = Jvm.exec) {x : Int32} {o : Int} {pcT : Nat} (hd : decode c.code pc = .ok (.ifCond .lt o, 3)) (hp : pc + 3 = pc') (ho : 0 ≤ (pc : Int) + o) (ht : ((pc : Int) + o).toNat = pcT) (G1 : x < 0 → GoK p e below D T (mkF m pcT Ls St)) (G2 : ¬ x < 0 → GoK p e below D T (mkF m pc' Ls St)) : GoK p e below D T (mkF m pc Ls (.int x :: St)) := by
  subst hp
  by_cases q : x < 0
  · exact GoK.by (fun t k => XS.ifYes X.at hx rfl rfl hd rfl ((if0 _ _).trans (tlt q).1) ho ht k) (G1 q)
  · exact GoK.by (fun t k => XS.ifNo X.at hx rfl hd rfl ((if0 _ _).trans (flt q).1) k) (G2 q)
theorem go_icmplt (X : OnK p l e R s m args below meth c n0 T h cells slots) (hx : p.tables.exec = Jvm.exec) {x y : Int32} {o : Int} {pcT : Nat} (hd : decode c.code pc = .ok (.if_icmp .lt o, 3)) (hp : pc + 3 = pc') (ho : 0 ≤ (pc : Int) + o) (ht : ((pc : Int) + o).toNat = pcT) (G1 : x < y → GoK p e below D T (mkF m pcT Ls St)) (G2 : ¬ x < y → GoK p e below D T (mkF m pc' Ls St)) : GoK p e below D T (mkF m pc Ls (.int y :: .int x :: St)) := by
  subst hp
  by_cases q : x < y
  · exact GoK.by (fun t k => XS.icmpYes X.at hx rfl rfl hd rfl (tlt q).1 ho ht k) (G1 q)
  · exact GoK.by (fun t k => XS.icmpNo X.at hx rfl hd rfl (flt q).1 k) (G2 q)
theorem go_liflt (X : OnK p l e R s m args below meth c n0 T h cells slots) (hx : p.tables.exec = Jvm.exec) {x y : Int64} {o : Int} {pc1 pcT : Nat} (hd1 : decode c.code pc = .ok (.lcmp, 1)) (hp1 : pc + 1 = pc1) (hd : decode c.code pc1 = .ok (.ifCond .lt o, 3)) (hp : pc1 + 3 = pc') (ho : 0 ≤ (pc1 : Int) + o) (ht : ((pc1 : Int) + o).toNat = pcT) (G1 : x < y → GoK p e below D T (mkF m pcT Ls St)) (G2 : ¬ x < y → GoK p e below D T (mkF m pc' Ls St)) : GoK p e below D T (mkF m pc Ls (.long y :: .long x :: St)) := by
  subst hp1
  refine GoK.by (fun t k => XS.lcmp X.at hx rfl hd1 rfl k) ?_
  exact go_iflt X hx hd hp ho ht (fun q => G1 ((lw_lt x y).mp q)) (fun q => G2 ((not_congr (lw_lt x y)).mp q))
theorem go_ifge (X : OnK p l e R s m args below meth c n0 T h cells slots) (hx : p.tables.exec = Jvm.exec) {x : Int32} {o : Int} {pcT : Nat} (hd : decode c.code pc = .ok (.ifCond .ge o, 3)) (hp : pc + 3 = pc') (ho : 0 ≤ (pc : Int) + o) (ht : ((pc : Int) + o).toNat = pcT) (G1 : ¬ x < 0 → GoK p e below D T (mkF m pcT Ls St)) (G2 : x < 0 → GoK p e below D T (mkF m pc' Ls St)) : GoK p e below D T (mkF m pc Ls (.int x :: St)) := by
  subst hp
  by_cases q : ¬ x < 0
  · exact GoK.by (fun t k => XS.ifYes X.at hx rfl rfl hd rfl ((if0 _ _).trans (flt q).2.1) ho ht k) (G1 q)
  · exact GoK.by (fun t k => XS.ifNo X.at hx rfl hd rfl ((if0 _ _).trans (tlt (Classical.not_not.mp q)).2.1) k) (G2 (Classical.not_not.mp q))
theorem go_icmpge (X : OnK p l e R s m args below meth c n0 T h cells slots) (hx : p.tables.exec = Jvm.exec) {x y : Int32} {o : Int} {pcT : Nat} (hd : decode c.code pc = .ok (.if_icmp .ge o, 3)) (hp : pc + 3 = pc') (ho : 0 ≤ (pc : Int) + o) (ht : ((pc : Int) + o).toNat = pcT) (G1 : ¬ x < y → GoK p e below D T (mkF m pcT Ls St)) (G2 : x < y → GoK p e below D T (mkF m pc' Ls St)) : GoK p e below D T (mkF m pc Ls (.int y :: .int x :: St)) := by
  subst hp
  by_cases q : ¬ x < y
  · exact GoK.by (fun t k => XS.icmpYes X.at hx rfl rfl hd rfl (flt q).2.1 ho ht k) (G1 q)
  · exact GoK.by (fun t k => XS.icmpNo X.at hx rfl hd rfl (tlt (Classical.not_not.mp q)).2.1 k) (G2 (Classical.not_not.mp q))
theorem go_lifge (X : OnK p l e R s m args below meth c n0 T h cells slots) (hx : p.tables.exec = Jvm.exec) {x y : Int64} {o : Int} {pc1 pcT : Nat} (hd1 : decode c.code pc = .ok (.lcmp, 1)) (hp1 : pc + 1 = pc1) (hd : decode c.code pc1 = .ok (.ifCond .ge o, 3)) (hp : pc1 + 3 = pc') (ho : 0 ≤ (pc1 : Int) + o) (ht : ((pc1 : Int) + o).toNat = pcT) (G1 : ¬ x < y → GoK p e below D T (mkF m pcT Ls St)) (G2 : x < y → GoK p e below D T (mkF m pc' Ls St)) : GoK p e below D T (mkF m pc Ls (.long y :: .long x :: St)) := by
  subst hp1
  refine GoK.by (fun t k => XS.lcmp X.at hx rfl hd1 rfl k) ?_
  exact go_ifge X hx hd hp ho ht (fun q => G1 ((not_congr (lw_lt x y)).mp q)) (fun q => G2 ((lw_lt x y).mp q))
theorem go_ifgt (X : OnK p l e R s m args below meth c n0 T h cells slots) (hx : p.tables.exec = Jvm.exec) {x : Int32} {o : Int} {pcT : Nat} (hd : decode c.code pc = .ok (.ifCond .gt o, 3)) (hp : pc + 3 = pc') (ho : 0 ≤ (pc : Int) + o) (ht : ((pc : Int) + o).toNat = pcT) (G1 : 0 < x → GoK p e below D T (mkF m pcT Ls St)) (G2 : ¬ 0 < x → GoK p e below D T (mkF m pc' Ls St)) : GoK p e below D T (mkF m pc Ls (.int x :: St)) := by
  subst hp
  by_cases q : 0 < x
  · exact GoK.by (fun t k => XS.ifYes X.at hx rfl rfl hd rfl ((if0 _ _).trans (tlt q).2.2.1) ho ht k) (G1 q)
  · exact GoK.by (fun t k => XS.ifNo X.at hx rfl hd rfl ((if0 _ _).trans (flt q).2.2.1) k) (G2 q)
theorem go_icmpgt (X : OnK p l e R s m args below meth c n0 T h cells slots) (hx : p.tables.exec = Jvm.exec) {x y : Int32} {o : Int} {pcT : Nat} (hd : decode c.code pc = .ok (.if_icmp .gt o, 3)) (hp : pc + 3 = pc') (ho : 0 ≤ (pc : Int) + o) (ht : ((pc : Int) + o).toNat = pcT) (G1 : y < x → GoK p e below D T (mkF m pcT Ls St)) (G2 : ¬ y < x → GoK p e below D T (mkF m pc' Ls St)) : GoK p e below D T (mkF m pc Ls (.int y :: .int x :: St)) := by
  subst hp
  by_cases q : y < x
  · exact GoK.by (fun t k => XS.icmpYes X.at hx rfl rfl hd rfl (tlt q).2.2.1 ho ht k) (G1 q)
  · exact GoK.by (fun t k => XS.icmpNo X.at hx rfl hd rfl (flt q).2.2.1 k) (G2 q)
theorem go_lifgt (X : OnK p l e R s m args below meth c n0 T h cells slots) (hx : p.tables.exec = Jvm.exec) {x y : Int64} {o : Int} {pc1 pcT : Nat} (hd1 : decode c.code pc = .ok (.lcmp, 1)) (hp1 : pc + 1 = pc1) (hd : decode c.code pc1 = .ok (.ifCond .gt o, 3)) (hp : pc1 + 3 = pc') (ho : 0 ≤ (pc1 : Int) + o) (ht : ((pc1 : Int) + o).toNat = pcT) (G1 : y < x → GoK p e below D T (mkF m pcT Ls St)) (G2 : ¬ y < x → GoK p e below D T (mkF m pc' Ls St)) : GoK p e below D T (mkF m pc Ls (.long y :: .long x :: St)) := by
  subst hp1
  refine GoK.by (fun t k => XS.lcmp X.at hx rfl hd1 rfl k) ?_
  exact go_ifgt X hx hd hp ho ht (fun q => G1 ((lw_gt x y).mp q)) (fun q => G2 ((not_congr (lw_gt x y)).mp q))
theorem go_ifle (X : OnK p l e R s m args below meth c n0 T h cells slots) (hx : p.tables.exec = Jvm.exec) {x : Int32} {o : Int} {pcT : Nat} (hd : decode c.code pc = .ok (.ifCond .le o, 3)) (hp : pc + 3 = pc') (ho : 0 ≤ (pc : Int) + o) (ht : ((pc : Int) + o).toNat = pcT) (G1 : ¬ 0 < x → GoK p e below D T (mkF m pcT Ls St)) (G2 : 0 < x → GoK p e below D T (mkF m pc' Ls St)) : GoK p e below D T (mkF m pc Ls (.int x :: St)) := by
  subst hp
  by_cases q : ¬ 0 < x
  · exact GoK.by (fun t k => XS.ifYes X.at hx rfl rfl hd rfl ((if0 _ _).trans (flt q).2.2.2) ho ht k) (G1 q)
  · exact GoK.by (fun t k => XS.ifNo X.at hx rfl hd rfl ((if0 _ _).trans (tlt (Classical.not_not.mp q)).2.2.2) k) (G2 (Classical.not_not.mp q))
theorem go_icmple (X : OnK p l e R s m args below meth c n0 T h cells slots) (hx : p.tables.exec = Jvm.exec) {x y : Int32} {o : Int} {pcT : Nat} (hd : decode c.code pc = .ok (.if_icmp .le o, 3)) (hp : pc + 3 = pc') (ho : 0 ≤ (pc : Int) + o) (ht : ((pc : Int) + o).toNat = pcT) (G1 : ¬ y < x → GoK p e below D T (mkF m pcT Ls St)) (G2 : y < x → GoK p e below D T (mkF m pc' Ls St)) : GoK p e below D T (mkF m pc Ls (.int y :: .int x :: St)) := by
  subst hp
  by_cases q : ¬ y < x
  · exact GoK.by (fun t k => XS.icmpYes X.at hx rfl rfl hd rfl (flt q).2.2.2 ho ht k) (G1 q)
  · exact GoK.by (fun t k => XS.icmpNo X.at hx rfl hd rfl (tlt (Classical.not_not.mp q)).2.2.2 k) (G2 (Classical.not_not.mp q))
theorem go_lifle (X : OnK p l e R s m args below meth c n0 T h cells slots) (hx : p.tables.exec = Jvm.exec) {x y : Int64} {o : Int} {pc1 pcT : Nat} (hd1 : decode c.code pc = .ok (.lcmp, 1)) (hp1 : pc + 1 = pc1) (hd : decode c.code pc1 = .ok (.ifCond .le o, 3)) (hp : pc1 + 3 = pc') (ho : 0 ≤ (pc1 : Int) + o) (ht : ((pc1 : Int) + o).toNat = pcT) (G1 : ¬ y < x → GoK p e below D T (mkF m pcT Ls St)) (G2 : y < x → GoK p e below D T (mkF m pc' Ls St)) : GoK p e below D T (mkF m pc Ls (.long y :: .long x :: St)) := by
  subst hp1
  refine GoK.by (fun t k => XS.lcmp X.at hx rfl hd1 rfl k) ?_
  exact go_ifle X hx hd hp ho ht (fun q => G1 ((not_congr (lw_gt x y)).mp q)) (fun q => G2 ((lw_gt x y).mp q))
/-- the array at a: of n places, place i holds the int f i -/
def AIK (Z : State) (h : Heap) (a : Addr) (ty : FieldType) (n : Int) (f : Int → Int32) : Prop := ∃ c : Cell, Arr Z h a c ty ∧ (c.slots.size : Int) = n ∧ n < 2147483648 ∧ ∀ i : Nat, (i : Int) < n → c.slots[i]? = some (.int (f i))
def AJK (Z : State) (h : Heap) (a : Addr) (n : Int) (f : Int → Int64) : Prop := ∃ c : Cell, Arr Z h a c .long ∧ (c.slots.size : Int) = n ∧ n < 2147483648 ∧ ∀ i : Nat, (i : Int) < n → c.slots[i]? = some (.long (f i))
theorem AIK.lt {a : Addr} {ty : FieldType} {n : Int} {f : Int → Int32} (F : AIK Z h a ty n f) : a < h.size := by obtain ⟨c, A, -⟩ := F; exact A.lt
theorem AIK.nn {a : Addr} {ty : FieldType} {n : Int} {f : Int → Int32} (F : AIK Z h a ty n f) : 0 ≤ n ∧ n < 2147483648 := by obtain ⟨c, -, S, q, -⟩ := F; exact ⟨by omega, q⟩
theorem AIK.ext {h' : Heap} {a : Addr} {ty : FieldType} {n : Int} {f : Int → Int32} (F : AIK Z h a ty n f) (E : Ext h h') : AIK Z h' a ty n f := by obtain ⟨c, A, r⟩ := F; exact ⟨c, A.ext E, r⟩
theorem AIK.other {h' : Heap} {a b : Addr} {sl : Nat} {v : Value} {ty : FieldType} {n : Int} {f : Int → Int32} (F : AIK Z h b ty n f) (W : Wr h h' a sl v) (q : b ≠ a) : AIK Z h' b ty n f := by obtain ⟨c, A, r⟩ := F; exact ⟨c, A.other W q, r⟩
theorem AIK.keep {h' : Heap} {a : Addr} {ws : List Addr} {ty : FieldType} {n : Int} {f : Int → Int32} (F : AIK Z h a ty n f) (K : Keep h h' ws) (q : a ∉ ws) : AIK Z h' a ty n f := by obtain ⟨c, A, r⟩ := F; exact ⟨c, ⟨K.2.1 a c A.1 q, A.2⟩, r⟩
theorem AIK.of_arv {a : Addr} {k : ClassId} {ty : FieldType} {z : Int32} {n : Int} {x : Int32} (F : Arv Z h a k ty z [] (.int x)) (q : z.toInt = n) : AIK Z h a ty n (fun _ => x) := by
  obtain ⟨c, A, -, S, M, H, -⟩ := F
  rw [Int32.lt_iff_toInt_lt] at M
  have hz : (0 : Int32).toInt = 0 := rfl
  have hr := rng32 z
  have S' : c.slots.size = z.toInt.toNat := S
  refine ⟨c, A, by omega, by omega, fun i hi => ?_⟩
  exact (H i (by omega)).trans rfl
theorem AIK.set {h' : Heap} {a : Addr} {j : Int32} {ty : FieldType} {n : Int} {f : Int → Int32} {x : Int32} (F : AIK Z h a ty n f) (W : Wr h h' a j.toNatClampNeg (.int x)) (h1 : 0 ≤ j.toInt) (h2 : j.toInt < n) : AIK Z h' a ty n (fun i => if i = j.toInt then x else f i) := by
  obtain ⟨c, A, S, M, H⟩ := F
  have hj : j.toNatClampNeg = j.toInt.toNat := rfl
  refine ⟨_, A.same W, ?_, M, fun i hi => ?_⟩
  · show (((c.slots.setIfInBounds j.toNatClampNeg (Value.int x)).size : Nat) : Int) = n
    rw [Array.size_setIfInBounds]; exact S
  · show (c.slots.setIfInBounds j.toNatClampNeg (Value.int x))[i]? = _
    rw [Array.getElem?_setIfInBounds]
    by_cases q : j.toNatClampNeg = i
    · have hi' : (i : Int) = j.toInt := by omega
      rw [if_pos q, if_pos (by omega)]
      show some (Value.int x) = some (Value.int (if (i : Int) = j.toInt then x else f i))
      rw [if_pos hi']
    · have hi' : ¬ (i : Int) = j.toInt := by omega
      rw [if_neg q]
      show _ = some (Value.int (if (i : Int) = j.toInt then x else f i))
      rw [if_neg hi']; exact H i hi
theorem AIK.get {a : Addr} {j : Int32} {ty : FieldType} {n : Int} {f : Int → Int32} (F : AIK Z h a ty n f) (h1 : 0 ≤ j.toInt) (h2 : j.toInt < n) : ∃ c : Cell, Arr Z h a c ty ∧ ¬ (j < 0 ∨ c.slots.size ≤ j.toNatClampNeg) ∧ c.slots[j.toNatClampNeg]? = some (.int (f j.toInt)) := by
  obtain ⟨c, A, S, M, H⟩ := F
  have hj : j.toNatClampNeg = j.toInt.toNat := rfl
  refine ⟨c, A, ?_, ?_⟩
  · rw [Int32.lt_iff_toInt_lt]
    have hz : (0 : Int32).toInt = 0 := rfl
    omega
  · rw [hj, H j.toInt.toNat (by omega), Int.toNat_of_nonneg h1]
theorem AIK.congr {a : Addr} {ty : FieldType} {n : Int} {f g : Int → Int32} (F : AIK Z h a ty n f) (q : ∀ i : Int, 0 ≤ i → i < n → f i = g i) : AIK Z h a ty n g := by
  obtain ⟨c, A, S, M, H⟩ := F
  exact ⟨c, A, S, M, fun i hi => by rw [H i hi, q i (by omega) hi]⟩
theorem AJK.lt {a : Addr} {n : Int} {f : Int → Int64} (F : AJK Z h a n f) : a < h.size := by obtain ⟨c, A, -⟩ := F; exact A.lt
theorem AJK.nn {a : Addr} {n : Int} {f : Int → Int64} (F : AJK Z h a n f) : 0 ≤ n ∧ n < 2147483648 := by obtain ⟨c, -, S, q, -⟩ := F; exact ⟨by omega, q⟩
theorem AJK.ext {h' : Heap} {a : Addr} {n : Int} {f : Int → Int64} (F : AJK Z h a n f) (E : Ext h h') : AJK Z h' a n f := by obtain ⟨c, A, r⟩ := F; exact ⟨c, A.ext E, r⟩
theorem AJK.other {h' : Heap} {a b : Addr} {sl : Nat} {v : Value} {n : Int} {f : Int → Int64} (F : AJK Z h b n f) (W : Wr h h' a sl v) (q : b ≠ a) : AJK Z h' b n f := by obtain ⟨c, A, r⟩ := F; exact ⟨c, A.other W q, r⟩
theorem AJK.keep {h' : Heap} {a : Addr} {ws : List Addr} {n : Int} {f : Int → Int64} (F : AJK Z h a n f) (K : Keep h h' ws) (q : a ∉ ws) : AJK Z h' a n f := by obtain ⟨c, A, r⟩ := F; exact ⟨c, ⟨K.2.1 a c A.1 q, A.2⟩, r⟩
theorem AJK.of_arv {a : Addr} {k : ClassId} {z : Int32} {n : Int} {x : Int64} (F : Arv Z h a k .long z [] (.long x)) (q : z.toInt = n) : AJK Z h a n (fun _ => x) := by
  obtain ⟨c, A, -, S, M, H, -⟩ := F
  rw [Int32.lt_iff_toInt_lt] at M
  have hz : (0 : Int32).toInt = 0 := rfl
  have hr := rng32 z
  have S' : c.slots.size = z.toInt.toNat := S
  refine ⟨c, A, by omega, by omega, fun i hi => ?_⟩
  exact (H i (by omega)).trans rfl
theorem AJK.set {h' : Heap} {a : Addr} {j : Int32} {n : Int} {f : Int → Int64} {x : Int64} (F : AJK Z h a n f) (W : Wr h h' a j.toNatClampNeg (.long x)) (h1 : 0 ≤ j.toInt) (h2 : j.toInt < n) : AJK Z h' a n (fun i => if i = j.toInt then x else f i) := by
  obtain ⟨c, A, S, M, H⟩ := F
  have hj : j.toNatClampNeg = j.toInt.toNat := rfl
  refine ⟨_, A.same W, ?_, M, fun i hi => ?_⟩
  · show (((c.slots.setIfInBounds j.toNatClampNeg (Value.long x)).size : Nat) : Int) = n
    rw [Array.size_setIfInBounds]; exact S
  · show (c.slots.setIfInBounds j.toNatClampNeg (Value.long x))[i]? = _
    rw [Array.getElem?_setIfInBounds]
    by_cases q : j.toNatClampNeg = i
    · have hi' : (i : Int) = j.toInt := by omega
      rw [if_pos q, if_pos (by omega)]
      show some (Value.long x) = some (Value.long (if (i : Int) = j.toInt then x else f i))
      rw [if_pos hi']
    · have hi' : ¬ (i : Int) = j.toInt := by omega
      rw [if_neg q]
      show _ = some (Value.long (if (i : Int) = j.toInt then x else f i))
      rw [if_neg hi']; exact H i hi
theorem AJK.get {a : Addr} {j : Int32} {n : Int} {f : Int → Int64} (F : AJK Z h a n f) (h1 : 0 ≤ j.toInt) (h2 : j.toInt < n) : ∃ c : Cell, Arr Z h a c .long ∧ ¬ (j < 0 ∨ c.slots.size ≤ j.toNatClampNeg) ∧ c.slots[j.toNatClampNeg]? = some (.long (f j.toInt)) := by
  obtain ⟨c, A, S, M, H⟩ := F
  have hj : j.toNatClampNeg = j.toInt.toNat := rfl
  refine ⟨c, A, ?_, ?_⟩
  · rw [Int32.lt_iff_toInt_lt]
    have hz : (0 : Int32).toInt = 0 := rfl
    omega
  · rw [hj, H j.toInt.toNat (by omega), Int.toNat_of_nonneg h1]
theorem AJK.congr {a : Addr} {n : Int} {f g : Int → Int64} (F : AJK Z h a n f) (q : ∀ i : Int, 0 ≤ i → i < n → f i = g i) : AJK Z h a n g := by
  obtain ⟨c, A, S, M, H⟩ := F
  exact ⟨c, A, S, M, fun i hi => by rw [H i hi, q i (by omega) hi]⟩
theorem go_newI (X : OnK p l e R s m args below meth c n0 T h cells slots) (hx : p.tables.exec = Jvm.exec) (hZ : Z.Warmed39 s.vm) {x : Int32} {cap : Nat} {n : Int} (wd : (Jvm.Cond.arrayClass .int).before a0 Z = true) (hd : decode c.code pc = .ok (.newarray .int, 2)) (hp : pc + 2 = pc') (hn : x.toInt = n) (h1 : 0 ≤ n) (h2 : n ≤ cap) (hb : cap * 8 ≤ 536870912) (hc : cells + 1 ≤ R.cells) (hs : slots + cap ≤ R.slots) (hc' : cells + 1 = cells') (hs' : slots + cap = slots') (G : ∀ (T' : State) (h' : Heap) (a : Addr), a = h.size → OnK p l e R s m args below meth c n0 T' h' cells' slots' → Ext h h' → AIK Z h' a .int n (fun _ => 0) → GoK p e below D T' (mkF m (pc') Ls (.ref a :: St))) : GoK p e below D T (mkF m pc Ls (.int x :: St)) := by
  subst hp hc' hs'
  obtain ⟨_, Y, e0, N⟩ := X
  have hz : (0 : Int32).toInt = 0 := rfl
  have q : ¬ x < 0 := by rw [Int32.lt_iff_toInt_lt]; omega
  obtain ⟨T', h', k, Y', e', E, A, st⟩ := newP Y hx hZ (aty := .int) wd e0 (g := mkF m pc Ls (.int x :: St)) rfl hd rfl q (cap := cap) (by show x.toInt.toNat ≤ cap; omega) hb hc hs
  refine GoK.by st (G T' h' _ rfl ⟨_, Y', e', N⟩ E ?_)
  exact AIK.of_arv (Arv.new A q) hn
theorem go_newB (X : OnK p l e R s m args below meth c n0 T h cells slots) (hx : p.tables.exec = Jvm.exec) (hZ : Z.Warmed39 s.vm) {x : Int32} {cap : Nat} {n : Int} (wd : (Jvm.Cond.arrayClass .byte).before a0 Z = true) (hd : decode c.code pc = .ok (.newarray .byte, 2)) (hp : pc + 2 = pc') (hn : x.toInt = n) (h1 : 0 ≤ n) (h2 : n ≤ cap) (hb : cap * 8 ≤ 536870912) (hc : cells + 1 ≤ R.cells) (hs : slots + cap ≤ R.slots) (hc' : cells + 1 = cells') (hs' : slots + cap = slots') (G : ∀ (T' : State) (h' : Heap) (a : Addr), a = h.size → OnK p l e R s m args below meth c n0 T' h' cells' slots' → Ext h h' → AIK Z h' a .byte n (fun _ => 0) → GoK p e below D T' (mkF m (pc') Ls (.ref a :: St))) : GoK p e below D T (mkF m pc Ls (.int x :: St)) := by
  subst hp hc' hs'
  obtain ⟨_, Y, e0, N⟩ := X
  have hz : (0 : Int32).toInt = 0 := rfl
  have q : ¬ x < 0 := by rw [Int32.lt_iff_toInt_lt]; omega
  obtain ⟨T', h', k, Y', e', E, A, st⟩ := newP Y hx hZ (aty := .byte) wd e0 (g := mkF m pc Ls (.int x :: St)) rfl hd rfl q (cap := cap) (by show x.toInt.toNat ≤ cap; omega) hb hc hs
  refine GoK.by st (G T' h' _ rfl ⟨_, Y', e', N⟩ E ?_)
  exact AIK.of_arv (Arv.new A q) hn
theorem go_newC (X : OnK p l e R s m args below meth c n0 T h cells slots) (hx : p.tables.exec = Jvm.exec) (hZ : Z.Warmed39 s.vm) {x : Int32} {cap : Nat} {n : Int} (wd : (Jvm.Cond.arrayClass .char).before a0 Z = true) (hd : decode c.code pc = .ok (.newarray .char, 2)) (hp : pc + 2 = pc') (hn : x.toInt = n) (h1 : 0 ≤ n) (h2 : n ≤ cap) (hb : cap * 8 ≤ 536870912) (hc : cells + 1 ≤ R.cells) (hs : slots + cap ≤ R.slots) (hc' : cells + 1 = cells') (hs' : slots + cap = slots') (G : ∀ (T' : State) (h' : Heap) (a : Addr), a = h.size → OnK p l e R s m args below meth c n0 T' h' cells' slots' → Ext h h' → AIK Z h' a .char n (fun _ => 0) → GoK p e below D T' (mkF m (pc') Ls (.ref a :: St))) : GoK p e below D T (mkF m pc Ls (.int x :: St)) := by
  subst hp hc' hs'
  obtain ⟨_, Y, e0, N⟩ := X
  have hz : (0 : Int32).toInt = 0 := rfl
  have q : ¬ x < 0 := by rw [Int32.lt_iff_toInt_lt]; omega
  obtain ⟨T', h', k, Y', e', E, A, st⟩ := newP Y hx hZ (aty := .char) wd e0 (g := mkF m pc Ls (.int x :: St)) rfl hd rfl q (cap := cap) (by show x.toInt.toNat ≤ cap; omega) hb hc hs
  refine GoK.by st (G T' h' _ rfl ⟨_, Y', e', N⟩ E ?_)
  exact AIK.of_arv (Arv.new A q) hn
theorem go_newZ (X : OnK p l e R s m args below meth c n0 T h cells slots) (hx : p.tables.exec = Jvm.exec) (hZ : Z.Warmed39 s.vm) {x : Int32} {cap : Nat} {n : Int} (wd : (Jvm.Cond.arrayClass .boolean).before a0 Z = true) (hd : decode c.code pc = .ok (.newarray .boolean, 2)) (hp : pc + 2 = pc') (hn : x.toInt = n) (h1 : 0 ≤ n) (h2 : n ≤ cap) (hb : cap * 8 ≤ 536870912) (hc : cells + 1 ≤ R.cells) (hs : slots + cap ≤ R.slots) (hc' : cells + 1 = cells') (hs' : slots + cap = slots') (G : ∀ (T' : State) (h' : Heap) (a : Addr), a = h.size → OnK p l e R s m args below meth c n0 T' h' cells' slots' → Ext h h' → AIK Z h' a .boolean n (fun _ => 0) → GoK p e below D T' (mkF m (pc') Ls (.ref a :: St))) : GoK p e below D T (mkF m pc Ls (.int x :: St)) := by
  subst hp hc' hs'
  obtain ⟨_, Y, e0, N⟩ := X
  have hz : (0 : Int32).toInt = 0 := rfl
  have q : ¬ x < 0 := by rw [Int32.lt_iff_toInt_lt]; omega
  obtain ⟨T', h', k, Y', e', E, A, st⟩ := newP Y hx hZ (aty := .boolean) wd e0 (g := mkF m pc Ls (.int x :: St)) rfl hd rfl q (cap := cap) (by show x.toInt.toNat ≤ cap; omega) hb hc hs
  refine GoK.by st (G T' h' _ rfl ⟨_, Y', e', N⟩ E ?_)
  exact AIK.of_arv (Arv.new A q) hn
theorem go_newJ (X : OnK p l e R s m args below meth c n0 T h cells slots) (hx : p.tables.exec = Jvm.exec) (hZ : Z.Warmed39 s.vm) {x : Int32} {cap : Nat} {n : Int} (wd : (Jvm.Cond.arrayClass .long).before a0 Z = true) (hd : decode c.code pc = .ok (.newarray .long, 2)) (hp : pc + 2 = pc') (hn : x.toInt = n) (h1 : 0 ≤ n) (h2 : n ≤ cap) (hb : cap * 8 ≤ 536870912) (hc : cells + 1 ≤ R.cells) (hs : slots + cap ≤ R.slots) (hc' : cells + 1 = cells') (hs' : slots + cap = slots') (G : ∀ (T' : State) (h' : Heap) (a : Addr), a = h.size → OnK p l e R s m args below meth c n0 T' h' cells' slots' → Ext h h' → AJK Z h' a n (fun _ => 0) → GoK p e below D T' (mkF m (pc') Ls (.ref a :: St))) : GoK p e below D T (mkF m pc Ls (.int x :: St)) := by
  subst hp hc' hs'
  obtain ⟨_, Y, e0, N⟩ := X
  have hz : (0 : Int32).toInt = 0 := rfl
  have q : ¬ x < 0 := by rw [Int32.lt_iff_toInt_lt]; omega
  obtain ⟨T', h', k, Y', e', E, A, st⟩ := newP Y hx hZ (aty := .long) wd e0 (g := mkF m pc Ls (.int x :: St)) rfl hd rfl q (cap := cap) (by show x.toInt.toNat ≤ cap; omega) hb hc hs
  refine GoK.by st (G T' h' _ rfl ⟨_, Y', e', N⟩ E ?_)
  exact AJK.of_arv (Arv.new A q) hn
theorem go_iastore (X : OnK p l e R s m args below meth c n0 T h cells slots) (hx : p.tables.exec = Jvm.exec) (hZ : Z.Warmed39 s.vm) {x : Int32} {j : Int32} {a : Addr} {n : Int} {f : Int → Int32} (A : AIK Z h a .int n f) (ga : n0 ≤ a) (h1 : 0 ≤ j.toInt) (h2 : j.toInt < n) (hd : decode c.code pc = .ok (.iastore, 1)) (hp : pc + 1 = pc') (G : ∀ (T' : State) (h' : Heap), OnK p l e R s m args below meth c n0 T' h' cells slots → Wr h h' a j.toNatClampNeg (.int (x)) → AIK Z h' a .int n (fun i => if i = j.toInt then x else f i) → GoK p e below D T' (mkF m pc' Ls St)) : GoK p e below D T (mkF m pc Ls (.int x :: .int j :: .ref a :: St)) := by
  subst hp
  obtain ⟨_, Y, e0, N⟩ := X
  obtain ⟨cl, Ar, hin, -⟩ := A.get h1 h2
  obtain ⟨T', h', Y', e', W, st⟩ := stI Y hx hZ e0 Ar (j := j) (x := x) hin (g := mkF m pc Ls (.int x :: .int j :: .ref a :: St)) rfl rfl hd
  exact GoK.by st (G T' h' ⟨_, Y', e', Fr.snoc Y' N ga⟩ W (A.set W h1 h2))
theorem go_castore (X : OnK p l e R s m args below meth c n0 T h cells slots) (hx : p.tables.exec = Jvm.exec) (hZ : Z.Warmed39 s.vm) {x : Int32} {j : Int32} {a : Addr} {n : Int} {f : Int → Int32} (A : AIK Z h a .char n f) (ga : n0 ≤ a) (h1 : 0 ≤ j.toInt) (h2 : j.toInt < n) (hd : decode c.code pc = .ok (.castore, 1)) (hp : pc + 1 = pc') (G : ∀ (T' : State) (h' : Heap), OnK p l e R s m args below meth c n0 T' h' cells slots → Wr h h' a j.toNatClampNeg (.int (nar .char x)) → AIK Z h' a .char n (fun i => if i = j.toInt then nar .char x else f i) → GoK p e below D T' (mkF m pc' Ls St)) : GoK p e below D T (mkF m pc Ls (.int x :: .int j :: .ref a :: St)) := by
  subst hp
  obtain ⟨_, Y, e0, N⟩ := X
  obtain ⟨cl, Ar, hin, -⟩ := A.get h1 h2
  obtain ⟨T', h', Y', e', W, st⟩ := stC Y hx hZ e0 Ar (j := j) (x := x) hin (g := mkF m pc Ls (.int x :: .int j :: .ref a :: St)) rfl rfl hd
  exact GoK.by st (G T' h' ⟨_, Y', e', Fr.snoc Y' N ga⟩ W (A.set W h1 h2))
theorem go_bastoreB (X : OnK p l e R s m args below meth c n0 T h cells slots) (hx : p.tables.exec = Jvm.exec) (hZ : Z.Warmed39 s.vm) {x : Int32} {j : Int32} {a : Addr} {n : Int} {f : Int → Int32} (A : AIK Z h a .byte n f) (ga : n0 ≤ a) (h1 : 0 ≤ j.toInt) (h2 : j.toInt < n) (hd : decode c.code pc = .ok (.bastore, 1)) (hp : pc + 1 = pc') (G : ∀ (T' : State) (h' : Heap), OnK p l e R s m args below meth c n0 T' h' cells slots → Wr h h' a j.toNatClampNeg (.int (nar .byte x)) → AIK Z h' a .byte n (fun i => if i = j.toInt then nar .byte x else f i) → GoK p e below D T' (mkF m pc' Ls St)) : GoK p e below D T (mkF m pc Ls (.int x :: .int j :: .ref a :: St)) := by
  subst hp
  obtain ⟨_, Y, e0, N⟩ := X
  obtain ⟨cl, Ar, hin, -⟩ := A.get h1 h2
  obtain ⟨T', h', Y', e', W, st⟩ := stB Y hx hZ e0 Ar (j := j) (x := x) hin (g := mkF m pc Ls (.int x :: .int j :: .ref a :: St)) rfl rfl hd
  exact GoK.by st (G T' h' ⟨_, Y', e', Fr.snoc Y' N ga⟩ W (A.set W h1 h2))
theorem go_bastoreZ (X : OnK p l e R s m args below meth c n0 T h cells slots) (hx : p.tables.exec = Jvm.exec) (hZ : Z.Warmed39 s.vm) {x : Int32} {j : Int32} {a : Addr} {n : Int} {f : Int → Int32} (A : AIK Z h a .boolean n f) (ga : n0 ≤ a) (h1 : 0 ≤ j.toInt) (h2 : j.toInt < n) (hd : decode c.code pc = .ok (.bastore, 1)) (hp : pc + 1 = pc') (G : ∀ (T' : State) (h' : Heap), OnK p l e R s m args below meth c n0 T' h' cells slots → Wr h h' a j.toNatClampNeg (.int (nar .boolean x)) → AIK Z h' a .boolean n (fun i => if i = j.toInt then nar .boolean x else f i) → GoK p e below D T' (mkF m pc' Ls St)) : GoK p e below D T (mkF m pc Ls (.int x :: .int j :: .ref a :: St)) := by
  subst hp
  obtain ⟨_, Y, e0, N⟩ := X
  obtain ⟨cl, Ar, hin, -⟩ := A.get h1 h2
  obtain ⟨T', h', Y', e', W, st⟩ := stZ Y hx hZ e0 Ar (j := j) (x := x) hin (g := mkF m pc Ls (.int x :: .int j :: .ref a :: St)) rfl rfl hd
  exact GoK.by st (G T' h' ⟨_, Y', e', Fr.snoc Y' N ga⟩ W (A.set W h1 h2))
theorem go_lastore (X : OnK p l e R s m args below meth c n0 T h cells slots) (hx : p.tables.exec = Jvm.exec) (hZ : Z.Warmed39 s.vm) {x : Int64} {j : Int32} {a : Addr} {n : Int} {f : Int → Int64} (A : AJK Z h a n f) (ga : n0 ≤ a) (h1 : 0 ≤ j.toInt) (h2 : j.toInt < n) (hd : decode c.code pc = .ok (.lastore, 1)) (hp : pc + 1 = pc') (G : ∀ (T' : State) (h' : Heap), OnK p l e R s m args below meth c n0 T' h' cells slots → Wr h h' a j.toNatClampNeg (.long (x)) → AJK Z h' a n (fun i => if i = j.toInt then x else f i) → GoK p e below D T' (mkF m pc' Ls St)) : GoK p e below D T (mkF m pc Ls (.long x :: .int j :: .ref a :: St)) := by
  subst hp
  obtain ⟨_, Y, e0, N⟩ := X
  obtain ⟨cl, Ar, hin, -⟩ := A.get h1 h2
  obtain ⟨T', h', Y', e', W, st⟩ := stJ Y hx hZ e0 Ar (j := j) (x := x) hin (g := mkF m pc Ls (.long x :: .int j :: .ref a :: St)) rfl rfl hd
  exact GoK.by st (G T' h' ⟨_, Y', e', Fr.snoc Y' N ga⟩ W (A.set W h1 h2))
theorem go_iaload (X : OnK p l e R s m args below meth c n0 T h cells slots) (hx : p.tables.exec = Jvm.exec) (hZ : Z.Warmed39 s.vm) {j : Int32} {a : Addr} {n : Int} {f : Int → Int32} (A : AIK Z h a .int n f) (h1 : 0 ≤ j.toInt) (h2 : j.toInt < n) (hd : decode c.code pc = .ok (.iaload, 1)) (hp : pc + 1 = pc') (G : ∀ z : Int32, z = f j.toInt → GoK p e below D T (mkF m pc' Ls (.int z :: St))) : GoK p e below D T (mkF m pc Ls (.int j :: .ref a :: St)) := by
  subst hp
  obtain ⟨_, Y, e0, N⟩ := X
  obtain ⟨cl, Ar, hin, hv⟩ := A.get h1 h2
  exact GoK.by (fun t k => Y.iaload hx (j := j) (v := .int (f j.toInt)) (by rw [e0]; exact Ar.1) (State.isArrayOf_alike hZ.alike Ar.2.1) Ar.2.2 hin hv (g := mkF m pc Ls (.int j :: .ref a :: St)) rfl rfl hd t k) (G _ rfl)
theorem go_caload (X : OnK p l e R s m args below meth c n0 T h cells slots) (hx : p.tables.exec = Jvm.exec) (hZ : Z.Warmed39 s.vm) {j : Int32} {a : Addr} {n : Int} {f : Int → Int32} (A : AIK Z h a .char n f) (h1 : 0 ≤ j.toInt) (h2 : j.toInt < n) (hd : decode c.code pc = .ok (.caload, 1)) (hp : pc + 1 = pc') (G : ∀ z : Int32, z = f j.toInt → GoK p e below D T (mkF m pc' Ls (.int z :: St))) : GoK p e below D T (mkF m pc Ls (.int j :: .ref a :: St)) := by
  subst hp
  obtain ⟨_, Y, e0, N⟩ := X
  obtain ⟨cl, Ar, hin, hv⟩ := A.get h1 h2
  exact GoK.by (fun t k => Y.caload hx (j := j) (v := .int (f j.toInt)) (by rw [e0]; exact Ar.1) (State.isArrayOf_alike hZ.alike Ar.2.1) Ar.2.2 hin hv (g := mkF m pc Ls (.int j :: .ref a :: St)) rfl rfl hd t k) (G _ rfl)
theorem go_baloadB (X : OnK p l e R s m args below meth c n0 T h cells slots) (hx : p.tables.exec = Jvm.exec) (hZ : Z.Warmed39 s.vm) {j : Int32} {a : Addr} {n : Int} {f : Int → Int32} (A : AIK Z h a .byte n f) (h1 : 0 ≤ j.toInt) (h2 : j.toInt < n) (hd : decode c.code pc = .ok (.baload, 1)) (hp : pc + 1 = pc') (G : ∀ z : Int32, z = f j.toInt → GoK p e below D T (mkF m pc' Ls (.int z :: St))) : GoK p e below D T (mkF m pc Ls (.int j :: .ref a :: St)) := by
  subst hp
  obtain ⟨_, Y, e0, N⟩ := X
  obtain ⟨cl, Ar, hin, hv⟩ := A.get h1 h2
  exact GoK.by (fun t k => Y.baloadBytes hx (j := j) (v := .int (f j.toInt)) (by rw [e0]; exact Ar.1) (State.isArrayOf_alike hZ.alike Ar.2.1) Ar.2.2 hin hv (g := mkF m pc Ls (.int j :: .ref a :: St)) rfl rfl hd t k) (G _ rfl)
theorem go_baloadZ (X : OnK p l e R s m args below meth c n0 T h cells slots) (hx : p.tables.exec = Jvm.exec) (hZ : Z.Warmed39 s.vm) {j : Int32} {a : Addr} {n : Int} {f : Int → Int32} (A : AIK Z h a .boolean n f) (h1 : 0 ≤ j.toInt) (h2 : j.toInt < n) (hd : decode c.code pc = .ok (.baload, 1)) (hp : pc + 1 = pc') (G : ∀ z : Int32, z = f j.toInt → GoK p e below D T (mkF m pc' Ls (.int z :: St))) : GoK p e below D T (mkF m pc Ls (.int j :: .ref a :: St)) := by
  subst hp
  obtain ⟨_, Y, e0, N⟩ := X
  obtain ⟨cl, Ar, hin, hv⟩ := A.get h1 h2
  exact GoK.by (fun t k => Y.baloadBooleans hx (j := j) (v := .int (f j.toInt)) (by rw [e0]; exact Ar.1) (State.isArrayOf_alike hZ.alike Ar.2.1) Ar.2.2 hin hv (g := mkF m pc Ls (.int j :: .ref a :: St)) rfl rfl hd t k) (G _ rfl)
theorem go_laload (X : OnK p l e R s m args below meth c n0 T h cells slots) (hx : p.tables.exec = Jvm.exec) (hZ : Z.Warmed39 s.vm) {j : Int32} {a : Addr} {n : Int} {f : Int → Int64} (A : AJK Z h a n f) (h1 : 0 ≤ j.toInt) (h2 : j.toInt < n) (hd : decode c.code pc = .ok (.laload, 1)) (hp : pc + 1 = pc') (G : ∀ z : Int64, z = f j.toInt → GoK p e below D T (mkF m pc' Ls (.long z :: St))) : GoK p e below D T (mkF m pc Ls (.int j :: .ref a :: St)) := by
  subst hp
  obtain ⟨_, Y, e0, N⟩ := X
  obtain ⟨cl, Ar, hin, hv⟩ := A.get h1 h2
  exact GoK.by (fun t k => Y.laload hx (j := j) (v := .long (f j.toInt)) (by rw [e0]; exact Ar.1) (State.isArrayOf_alike hZ.alike Ar.2.1) Ar.2.2 hin hv (g := mkF m pc Ls (.int j :: .ref a :: St)) rfl rfl hd t k) (G _ rfl)
theorem own_len {k : Nat} {n : Int} (S : (k : Int) = n) (M : n < 2147483648) : (k.toInt32).toInt = n := by
  have e : (k.toInt32).toInt = ((k : Int)).bmod (2 ^ 32) := by
    show (Int32.ofNat k).toInt = _
    exact Int32.toInt_ofNat
  rw [e, Int.bmod_eq_of_le (by omega) (by omega)]; exact S
theorem go_lenI (X : OnK p l e R s m args below meth c n0 T h cells slots) (hx : p.tables.exec = Jvm.exec) (hZ : Z.Warmed39 s.vm) {a : Addr} {n : Int} {ty : FieldType} {f : Int → Int32} (A : AIK Z h a ty n f) (hd : decode c.code pc = .ok (.arraylength, 1)) (hp : pc + 1 = pc') (G : ∀ z : Int32, z.toInt = n → GoK p e below D T (mkF m pc' Ls (.int z :: St))) : GoK p e below D T (mkF m pc Ls (.ref a :: St)) := by
  subst hp
  obtain ⟨_, Y, e0, N⟩ := X
  obtain ⟨cl, Ar, S, M, -⟩ := A
  refine GoK.by (fun t k => Y.arraylength hx (by rw [e0]; exact Ar.1) (State.isArrayOf_alike hZ.alike Ar.2.1) (g := mkF m pc Ls (.ref a :: St)) rfl rfl hd t k) (G _ ?_)
  exact own_len S M
theorem go_lenJ (X : OnK p l e R s m args below meth c n0 T h cells slots) (hx : p.tables.exec = Jvm.exec) (hZ : Z.Warmed39 s.vm) {a : Addr} {n : Int} {f : Int → Int64} (A : AJK Z h a n f) (hd : decode c.code pc = .ok (.arraylength, 1)) (hp : pc + 1 = pc') (G : ∀ z : Int32, z.toInt = n → GoK p e below D T (mkF m pc' Ls (.int z :: St))) : GoK p e below D T (mkF m pc Ls (.ref a :: St)) := by
  subst hp
  obtain ⟨_, Y, e0, N⟩ := X
  obtain ⟨cl, Ar, S, M, -⟩ := A
  refine GoK.by (fun t k => Y.arraylength hx (by rw [e0]; exact Ar.1) (State.isArrayOf_alike hZ.alike Ar.2.1) (g := mkF m pc Ls (.ref a :: St)) rfl rfl hd t k) (G _ ?_)
  exact own_len S M
theorem go_getfield (X : OnK p l e R s m args below meth c n0 T h cells slots) (hx : p.tables.exec = Jvm.exec) (hZ : Z.Warmed39 s.vm) {own O n d : String} {i : Nat} {a : Addr} {v : Value} (hown : s.vm.findClass own = some m.cls) (wd : (Jvm.Cond.fieldLink own i O n d).before a0 Z = true) (F : Fld Z h a O n d v) (hd : decode c.code pc = .ok (.getfield i, 3)) (hp : pc + 3 = pc') (G : ∀ T' : State, OnK p l e R s m args below meth c n0 T' h cells slots → GoK p e below D T' (mkF m pc' Ls (v :: St))) : GoK p e below D T (mkF m pc Ls (.ref a :: St)) := by
  subst hp
  obtain ⟨_, Y, e0, N⟩ := X
  obtain ⟨T', Y', e', st⟩ := getF Y hx hZ hown (host := "") (Or.inl wd) Via.refl e0 F (g := mkF m pc Ls (.ref a :: St)) rfl rfl hd
  exact GoK.by st (G T' ⟨_, Y', e', N⟩)
theorem go_putfield (X : OnK p l e R s m args below meth c n0 T h cells slots) (hx : p.tables.exec = Jvm.exec) (hZ : Z.Warmed39 s.vm) {own O n d C : String} {i kk : Nat} {ty : FieldType} {a : Addr} {v v' old : Value} (hown : s.vm.findClass own = some m.cls) (wd : (Jvm.Cond.fieldLink own i O n d).before a0 Z = true) (F : Fld Z h a O n d old) (E : Exa Z h a C) (L : (Jvm.Cond.lays C O n d).before a0 Z = true ∨ ((Jvm.Cond.laysFinal C O n d).before a0 Z = true ∧ own = O ∧ meth.name = "<init>")) (wi : (Jvm.Cond.instantiable C kk).before a0 Z = true) (ga : n0 ≤ a) (hty : parseFieldDescriptor d = some ty) (hn : narrow ty v = v') (hf : fits ty v' = true) (hd : decode c.code pc = .ok (.putfield i, 3)) (hp : pc + 3 = pc') (G : ∀ (T' : State) (h' : Heap), OnK p l e R s m args below meth c n0 T' h' cells slots → Wr h h' a (slotOf Z O n d) v' → Fld Z h' a O n d v' → GoK p e below D T' (mkF m pc' Ls St)) : GoK p e below D T (mkF m pc Ls (v :: .ref a :: St)) := by
  subst hp
  obtain ⟨_, Y, e0, N⟩ := X
  obtain ⟨T', h', Y', e', W, st⟩ := putFN Y hx hZ hown wd Via.refl e0 F E L wi hty hn hf (g := mkF m pc Ls (v :: .ref a :: St)) rfl rfl hd
  exact GoK.by st (G T' h' ⟨_, Y', e', Fr.snoc Y' N ga⟩ W (F.same W))
theorem go_new (X : OnK p l e R s m args below meth c n0 T h cells slots) (hx : p.tables.exec = Jvm.exec) (hZ : Z.Warmed39 s.vm) {own C : String} {i n : Nat} (hown : s.vm.findClass own = some m.cls) (w1 : (Jvm.Cond.classLink own i C).before a0 Z = true) (w2 : (Jvm.Cond.instantiable C n).before a0 Z = true) (w3 : (Jvm.Cond.initialized C).before a0 Z = true) (hd : decode c.code pc = .ok (.new i, 3)) (hp : pc + 3 = pc') (hc : cells + 1 ≤ R.cells) (hs : slots + n ≤ R.slots) (hc' : cells + 1 = cells') (hs' : slots + n = slots')
    (G : ∀ (T' : State) (h' : Heap) (a : Addr), a = h.size → OnK p l e R s m args below meth c n0 T' h' cells' slots' → Ext h h' → Exa Z h' a C → (∀ {O nm d : String} {ty : FieldType}, Laid Z a0 C O nm d → parseFieldDescriptor d = some ty → Fld Z h' a O nm d (defaultValue ty)) → GoK p e below D T' (mkF m pc' Ls (.ref a :: St))) : GoK p e below D T (mkF m pc Ls St) := by
  subst hp hc' hs'
  obtain ⟨_, Y, e0, N⟩ := X
  obtain ⟨T', h', Y', e', E, A, Dv, -, st⟩ := newO Y hx hZ hown w1 w2 w3 e0 (g := mkF m pc Ls St) rfl hd hc hs
  exact GoK.by st (G T' h' _ rfl ⟨_, Y', e', N⟩ E A Dv)
theorem go_initO (X : OnK p l e R s m args below meth c n0 T h cells slots) (hx : p.tables.exec = Jvm.exec) (hZ : Z.Warmed39 s.vm) {own : String} {i W : Nat} {a : Addr} (hown : s.vm.findClass own = some m.cls) (hml : Ls.size = c.maxLocals) (w1 : (Jvm.Cond.methodLink own i Lib.objectInit).before a0 Z = true) (w2 : (Jvm.Cond.instanceMethod Lib.objectInit).before a0 Z = true) (w3 : (Jvm.Cond.code Lib.objectInit ⟨#[0xb1]⟩ 1 none).before a0 Z = true) (hd : decode c.code pc = .ok (.invokespecial i, 3)) (hp : pc + 3 = pc') (hf : 1 ≤ R.frames) (hW : (St.map fun v => v.category).sum ≤ W) (hl : W + 12 ≤ R.locals) (G : ∀ T' : State, OnK p l e R s m args below meth c n0 T' h cells slots → GoK p e below D T' (mkF m pc' Ls St)) : GoK p e below D T (mkF m pc Ls (.ref a :: St)) := by
  subst hp
  obtain ⟨_, Y, e0, N⟩ := X
  obtain ⟨T', Y', e', st⟩ := initO Y hx hZ hown w1 w2 w3 e0 (g := mkF m pc Ls (.ref a :: St)) rfl hml rfl hd hf (W := W) (by show 2 * 0 + _ ≤ _; omega) hl
  exact GoK.by st (G T' ⟨_, Y', e', N⟩)
theorem go_callS (X : OnK p l e R s m args below meth c n0 T h cells slots) (hx : p.tables.exec = Jvm.exec) (hZ : Z.Warmed39 s.vm) {own : String} {i W ml : Nat} {y : MethodName} {bytes : ByteArray} {ret : Option FieldType} {rm : Room} {Q : Option Value → Heap → Prop} {aL : List Value} {ps : List FieldType} {rt : Option FieldType} (hown : s.vm.findClass own = some m.cls) (hml : Ls.size = c.maxLocals) (wl : (Jvm.Cond.methodLink own i y).before a0 Z = true) (ws : (Jvm.Cond.static y).before a0 Z = true) (wz : (Jvm.Cond.initialized y.cls).before a0 Z = true) (wc : (Jvm.Cond.code y bytes ml ret).before a0 Z = true) (hy : y.cls ≠ "java/lang/invoke/MethodHandle" ∧ y.cls ≠ "java/lang/invoke/VarHandle") (pd : parseMethodDescriptor y.desc = some ⟨ps, rt⟩) (hlen : aL.length = ps.length) (ct : CtK l Z y bytes ml ret rm aL.toArray h n0 Q) (hd : decode c.code pc = .ok (.invokestatic i, 3)) (hp : pc + 3 = pc') (hf : rm.frames + 1 ≤ R.frames) (hW : (St.map fun v => v.category).sum ≤ W) (hlo : W + (ml + 11) + rm.locals ≤ R.locals) (hc : cells + rm.cells ≤ R.cells) (hs : slots + rm.slots ≤ R.slots) (hc' : cells + rm.cells = cells') (hs' : slots + rm.slots = slots') (G : ∀ (T' : State) (h' : Heap) (v : Option Value), OnK p l e R s m args below meth c n0 T' h' cells' slots' → Q v h' → GoK p e below D T' (mkF m pc' Ls (v.toList ++ St))) {S0 : List Value} (hS : S0 = aL.reverse ++ St) : GoK p e below D T (mkF m pc Ls S0) := by
  subst hp hc' hs' hS
  obtain ⟨_, Y, e0, N⟩ := X
  obtain ⟨v, _, ⟨B, L, k, n⟩, -, Y', ⟨Lc, ⟨hQ, hN⟩, el, ec, es⟩, st⟩ := Jvm.LawKit.callS Y hx (y := y) hown (mvT hZ wl) (mvT hZ ws) (mvT hZ wz) (mvT hZ wc) hy (backOf (W := W) (Q := fun v h L => Q v h ∧ Fr n0 L) (ct []) hZ wc wz hf hlo) (g := mkF m pc Ls (aL.reverse ++ St)) rfl hml (argsL := aL) (rest := St) (lenOf pd hlen) rfl (by show 2 * 0 + _ ≤ _; omega) hd (fun _ _ => ⟨rfl, e0, hc, hs⟩)
  dsimp only [Pt.U, Pt.locs, Pt.cells, Pt.slots] at Y' el ec es st hQ
  subst el ec es
  exact GoK.by st (G B _ v ⟨_, Y', rfl, N.app hN⟩ hQ)
theorem go_callC (X : OnK p l e R s m args below meth c n0 T h cells slots) (hx : p.tables.exec = Jvm.exec) (hZ : Z.Warmed39 s.vm) {own : String} {i W ml : Nat} {y : MethodName} {bytes : ByteArray} {rm : Room} {Q : Option Value → Heap → Prop} {aL : List Value} {ps : List FieldType} {rt : Option FieldType} {a : Addr} (hown : s.vm.findClass own = some m.cls) (hml : Ls.size = c.maxLocals) (hi : y.name = "<init>") (wl : (Jvm.Cond.methodLink own i y).before a0 Z = true) (wi : (Jvm.Cond.instanceMethod y).before a0 Z = true) (wz : (Jvm.Cond.initialized y.cls).before a0 Z = true) (wc : (Jvm.Cond.code y bytes ml none).before a0 Z = true) (hy : y.cls ≠ "java/lang/invoke/MethodHandle" ∧ y.cls ≠ "java/lang/invoke/VarHandle") (pd : parseMethodDescriptor y.desc = some ⟨ps, rt⟩) (hlen : aL.length = ps.length) (ct : CtK l Z y bytes ml none rm (.ref a :: aL).toArray h n0 Q) (hd : decode c.code pc = .ok (.invokespecial i, 3)) (hp : pc + 3 = pc') (hf : rm.frames + 1 ≤ R.frames) (hW : (St.map fun v => v.category).sum ≤ W) (hlo : W + (ml + 11) + rm.locals ≤ R.locals) (hc : cells + rm.cells ≤ R.cells) (hs : slots + rm.slots ≤ R.slots) (hc' : cells + rm.cells = cells') (hs' : slots + rm.slots = slots') (G : ∀ (T' : State) (h' : Heap) (v : Option Value), OnK p l e R s m args below meth c n0 T' h' cells' slots' → Q v h' → GoK p e below D T' (mkF m pc' Ls (v.toList ++ St))) {S0 : List Value} (hS : S0 = aL.reverse ++ .ref a :: St) : GoK p e below D T (mkF m pc Ls S0) := by
  subst hp hc' hs' hS
  obtain ⟨_, Y, e0, N⟩ := X
  obtain ⟨v, _, ⟨B, L, k, n⟩, -, Y', ⟨Lc, ⟨hQ, hN⟩, el, ec, es⟩, st⟩ := Y.specialBack hx (y := y) hi hown (mvT hZ wl) (mvT hZ wi) (mvT hZ wc) hy (backOf (W := W) (Q := fun v h L => Q v h ∧ Fr n0 L) (ct []) hZ wc wz hf hlo) (g := mkF m pc Ls (aL.reverse ++ .ref a :: St)) rfl hml (Steps.refl _) (a := a) (argsL := aL) (rest := St) (lenOf pd hlen) rfl (by show 2 * 0 + _ ≤ _; omega) hd (fun _ _ => ⟨rfl, e0, hc, hs⟩)
  dsimp only [Pt.U, Pt.locs, Pt.cells, Pt.slots] at Y' el ec es st hQ
  subst el ec es
  exact GoK.by (fun t k => st.trans k) (G B _ v ⟨_, Y', rfl, N.app hN⟩ hQ)
theorem go_callV (X : OnK p l e R s m args below meth c n0 T h cells slots) (hx : p.tables.exec = Jvm.exec) (hZ : Z.Warmed39 s.vm) {own : String} {i W ml : Nat} {y : MethodName} {bytes : ByteArray} {ret : Option FieldType} {rm : Room} {Q : Option Value → Heap → Prop} {aL : List Value} {ps : List FieldType} {rt : Option FieldType} {a : Addr} (hown : s.vm.findClass own = some m.cls) (hml : Ls.size = c.maxLocals) (E : Exa Z h a y.cls) (wl : (Jvm.Cond.methodLink own i y).before a0 Z = true) (wd : (Jvm.Cond.declares y).before a0 Z = true) (ws : (Jvm.Cond.selects y.cls y y).before a0 Z = true) (wi : (Jvm.Cond.instanceMethod y).before a0 Z = true) (wz : (Jvm.Cond.initialized y.cls).before a0 Z = true) (wc : (Jvm.Cond.code y bytes ml ret).before a0 Z = true) (hy : y.cls ≠ "java/lang/invoke/MethodHandle" ∧ y.cls ≠ "java/lang/invoke/VarHandle") (pd : parseMethodDescriptor y.desc = some ⟨ps, rt⟩) (hlen : aL.length = ps.length) (ct : CtK l Z y bytes ml ret rm (.ref a :: aL).toArray h n0 Q) (hd : decode c.code pc = .ok (.invokevirtual i, 3)) (hp : pc + 3 = pc') (hf : rm.frames + 1 ≤ R.frames) (hW : (St.map fun v => v.category).sum ≤ W) (hlo : W + (ml + 11) + rm.locals ≤ R.locals) (hc : cells + rm.cells ≤ R.cells) (hs : slots + rm.slots ≤ R.slots) (hc' : cells + rm.cells = cells') (hs' : slots + rm.slots = slots') (G : ∀ (T' : State) (h' : Heap) (v : Option Value), OnK p l e R s m args below meth c n0 T' h' cells' slots' → Q v h' → GoK p e below D T' (mkF m pc' Ls (v.toList ++ St))) {S0 : List Value} (hS : S0 = aL.reverse ++ .ref a :: St) : GoK p e below D T (mkF m pc Ls S0) := by
  subst hp hc' hs' hS
  obtain ⟨_, Y, e0, N⟩ := X
  obtain ⟨cq, kq, qa, qb, qc⟩ := isOf hZ e0 E
  obtain ⟨v, _, ⟨B, L, k, n⟩, -, Y', ⟨Lc, ⟨hQ, hN⟩, el, ec, es⟩, st⟩ := Y.virtualBack hx (y := y) (z := y) hown (mvT hZ wl) (mvT hZ wd) (notFace_of_selects (args := #[]) (mvT hZ ws)) (mvT hZ ws) (mvT hZ wi) hy (backOf (W := W) (Q := fun v h L => Q v h ∧ Fr n0 L) (ct []) hZ wc wz hf hlo) qa qc (g := mkF m pc Ls (aL.reverse ++ .ref a :: St)) rfl hml (Steps.refl _) (argsL := aL) (rest := St) (lenOf pd hlen) rfl (by show 2 * 0 + _ ≤ _; omega) hd (fun _ _ => ⟨rfl, e0, hc, hs⟩)
  dsimp only [Pt.U, Pt.locs, Pt.cells, Pt.slots] at Y' el ec es st hQ
  subst el ec es
  exact GoK.by (fun t k => st.trans k) (G B _ v ⟨_, Y', rfl, N.app hN⟩ hQ)
def TwoK (a b : Slot) : Prop := (a = .unset ∧ b = .unset) ∨ ∃ x : Int64, a = .val (.long x) ∧ b = .second
end OwnK
end Jvm.RoadKit
namespace Jvm.Pilot.@@N@@
open Jvm Jvm.ClassFile Sem Op Lib Jvm.Free Jvm.Stand Jvm.LawKit Jvm.RoadKit Bundle Jvm.Pilot.@@N@@.Jvm.D
def own_a3 (x0 x1 x2 : Int32) (i : Int) : Int32 := if i = 0 then x0 else if i = 1 then x1 else x2
def own_st (g k : Int → Int32) (n : Int) : Nat → Int32
  | 0 => 1
  | j + 1 => own_st g k n j * k (g (n - 1 - (j : Int))).toInt
def own_rv (g k : Int → Int32) (n : Int) : Nat → Int32 → Int32
  | 0, _ => 0
  | j + 1, v => if v = g (n - 1 - (j : Int)) then own_st g k n j else own_rv g k n j v
def own_exp (k : Int → Int32) (v n u0 u1 u2 : Int32) : Int32 := if ¬ n < 1 ∧ v = u0 then (if n = 1 then 1 else if n = 2 then k u1.toInt else k u1.toInt * k u2.toInt) else if ¬ n < 2 ∧ v = u1 then (if n = 2 then 1 else k u2.toInt) else if ¬ n < 3 ∧ v = u2 then 1 else 0
theorem own_k0 : (0 : Int32).toInt = 0 := rfl
theorem own_k1 : (1 : Int32).toInt = 1 := rfl
theorem own_k2 : (2 : Int32).toInt = 2 := rfl
theorem own_k3 : (3 : Int32).toInt = 3 := rfl
theorem own_k4 : (4 : Int32).toInt = 4 := rfl
theorem own_ltI {a b : Int32} (h : a < b) : a.toInt < b.toInt := Int32.lt_iff_toInt_lt.mp h
theorem own_geI {a b : Int32} (h : ¬ a < b) : ¬ a.toInt < b.toInt := fun w => h (Int32.lt_iff_toInt_lt.mpr w)
theorem own_inc {v x : Int32} (h : v = x + 1) (hx : x.toInt < 2147483647) : v.toInt = x.toInt + 1 := by
  have h1 := own_k1
  have := rng32 x
  rw [h, Jvm.Free.XT.add32 ⟨by omega, by omega⟩, h1]
theorem own_dec {v x : Int32} (h : v = x + -1) (hx : -1 ≤ x.toInt) : v.toInt = x.toInt - 1 := by
  have h1 : (-1 : Int32).toInt = -1 := rfl
  have := rng32 x
  rw [h, Jvm.Free.XT.add32 ⟨by omega, by omega⟩, h1]; omega
theorem own_pre {v x : Int32} (h : v = x - 1) (hx : 0 ≤ x.toInt) : v.toInt = x.toInt - 1 := by
  have h1 := own_k1
  have := rng32 x
  rw [h, Jvm.Free.XT.sub32 ⟨by omega, by omega⟩, h1]
theorem own_sub {n j : Int} {g k : Int → Int32} {N : Nat} (hN : (n - 1 - j).toNat = N) (h1 : 0 ≤ j) (h2 : j < n) : n - 1 - (N : Int) = j := by omega
theorem own_stS {g k : Int → Int32} {n j : Int} (h1 : 0 ≤ j) (h2 : j < n) : own_st g k n (n - 1 - (j - 1)).toNat = own_st g k n (n - 1 - j).toNat * k (g j).toInt := by
  rw [show (n - 1 - (j - 1)).toNat = (n - 1 - j).toNat + 1 by omega]
  show own_st g k n (n - 1 - j).toNat * k (g (n - 1 - ((n - 1 - j).toNat : Int))).toInt = _
  rw [show n - 1 - ((n - 1 - j).toNat : Int) = j by omega]
theorem own_rvS {g k : Int → Int32} {n j : Int} {v : Int32} (h1 : 0 ≤ j) (h2 : j < n) : own_rv g k n (n - 1 - (j - 1)).toNat v = if v = g j then own_st g k n (n - 1 - j).toNat else own_rv g k n (n - 1 - j).toNat v := by
  rw [show (n - 1 - (j - 1)).toNat = (n - 1 - j).toNat + 1 by omega]
  show (if v = g (n - 1 - ((n - 1 - j).toNat : Int)) then own_st g k n (n - 1 - j).toNat else own_rv g k n (n - 1 - j).toNat v) = _
  rw [show n - 1 - ((n - 1 - j).toNat : Int) = j by omega]
theorem own_and3 (x : Int32) : 0 ≤ (x &&& 3).toInt ∧ (x &&& 3).toInt ≤ 3 := by
  rw [c_mask x 3 2 (by decide) (by decide)]; omega
theorem own_m5 {v x : Int32} (h : v = (x &&& 255) % 5) : 0 ≤ v.toInt ∧ v.toInt ≤ 4 := by
  have e : (x &&& 255).toInt = x.toInt % 256 := c_mask x 255 8 (by decide) (by decide)
  have := (c_irem (x &&& 255) 5 5 rfl).1 (by omega)
  rw [h]; omega
theorem own_m3 {v x : Int32} (h : v = (x &&& 255) % 3) : 0 ≤ v.toInt ∧ v.toInt ≤ 2 := by
  have e : (x &&& 255).toInt = x.toInt % 256 := c_mask x 255 8 (by decide) (by decide)
  have := (c_irem (x &&& 255) 3 3 rfl).1 (by omega)
  rw [h]; omega
theorem own_b {v a x : Int32} (h : v = (a + 1 + (x &&& 1)) % 3) (h1 : 0 ≤ a.toInt) (h2 : a.toInt ≤ 2) : 0 ≤ v.toInt ∧ v.toInt ≤ 2 := by
  have e : (x &&& 1).toInt = x.toInt % 2 := c_mask x 1 1 (by decide) (by decide)
  have k := own_k1
  have e1 : (a + 1).toInt = a.toInt + 1 := by rw [Jvm.Free.XT.add32 ⟨by omega, by omega⟩, k]
  have e2 : (a + 1 + (x &&& 1)).toInt = a.toInt + 1 + x.toInt % 2 := by rw [Jvm.Free.XT.add32 ⟨by omega, by omega⟩, e1, e]
  have := (c_irem (a + 1 + (x &&& 1)) 3 3 rfl).1 (by omega)
  rw [h]; omega
theorem own_four {x : Int32} (h1 : 0 ≤ x.toInt) (h2 : x.toInt ≤ 3) : x = 0 ∨ x = 1 ∨ x = 2 ∨ x = 3 := by
  have := own_k0; have := own_k1; have := own_k2; have := own_k3
  rcases (by omega : x.toInt = 0 ∨ x.toInt = 1 ∨ x.toInt = 2 ∨ x.toInt = 3) with h | h | h | h
  · left; exact Int32.toInt_inj.mp h
  · right; left; exact Int32.toInt_inj.mp h
  · right; right; left; exact Int32.toInt_inj.mp h
  · right; right; right; exact Int32.toInt_inj.mp h
theorem own_xor {v x a : Int32} (h : v = x ^^^ (a + 1)) (h1 : 0 ≤ x.toInt) (h2 : x.toInt ≤ 3) (h3 : 0 ≤ a.toInt) (h4 : a.toInt ≤ 2) : 0 ≤ v.toInt ∧ v.toInt < 4 := by
  subst h
  rcases own_four h1 h2 with rfl | rfl | rfl | rfl <;> rcases own_four h3 (by omega) with rfl | rfl | rfl | rfl <;> first | decide | (exfalso; revert h4; decide)
theorem own_fin (k : Int → Int32) {v n u0 u1 u2 : Int32} (h1 : 0 ≤ n.toInt) (h2 : n.toInt ≤ 3) : own_rv (own_a3 u0 u1 u2) k n.toInt n.toInt.toNat v = own_exp k v n u0 u1 u2 := by
  rcases own_four h1 h2 with rfl | rfl | rfl | rfl
  · show (0 : Int32) = own_exp k v 0 u0 u1 u2
    unfold own_exp
    simp +decide
  · show (if v = u0 then (1 : Int32) else 0) = own_exp k v 1 u0 u1 u2
    unfold own_exp
    by_cases q : v = u0
    · simp +decide [q]
    · simp +decide [q]
  · show (if v = u0 then (1 : Int32) * k u1.toInt else if v = u1 then (1 : Int32) else 0) = own_exp k v 2 u0 u1 u2
    unfold own_exp
    by_cases q : v = u0
    · simp +decide [q]
    · by_cases q1 : v = u1
      · simp +decide [eq_false q, eq_true q1]
      · simp +decide [q, q1]
  · show (if v = u0 then (1 : Int32) * k u2.toInt * k u1.toInt else if v = u1 then (1 : Int32) * k u2.toInt else if v = u2 then (1 : Int32) else 0) = own_exp k v 3 u0 u1 u2
    unfold own_exp
    by_cases q : v = u0
    · simp +decide [q, Int32.mul_comm]
    · by_cases q1 : v = u1
      · simp +decide [eq_false q, eq_true q1]
      · simp +decide [q, q1]
theorem own_ns {g k f : Int → Int32} {n : Int} {v5 v6 v6' : Int32} (i : Int) (e6 : v6'.toInt = v6.toInt + 1) (j1 : 0 ≤ v5.toInt) (j2 : v5.toInt < n) (q : ¬ f v6.toInt = g v5.toInt) (_ : 0 = 0) :
    (if i < v6.toInt then own_rv g k n (n - 1 - (v5.toInt - 1)).toNat (f i) else own_rv g k n (n - 1 - v5.toInt).toNat (f i)) = (if i < v6'.toInt then own_rv g k n (n - 1 - (v5.toInt - 1)).toNat (f i) else own_rv g k n (n - 1 - v5.toInt).toNat (f i)) := by
  by_cases a : i < v6.toInt
  · rw [if_pos a, if_pos (by omega)]
  · rw [if_neg a]
    by_cases b : i = v6.toInt
    · rw [if_pos (by omega), own_rvS j1 j2, b, if_neg q]
    · rw [if_neg (by omega)]
theorem own_s {g k f : Int → Int32} {n : Int} {v4 v5 v6 v6' : Int32} (i : Int) (e6 : v6'.toInt = v6.toInt + 1) (j1 : 0 ≤ v5.toInt) (j2 : v5.toInt < n) (j3 : v4 = own_st g k n (n - 1 - v5.toInt).toNat) (q : f v6.toInt = g v5.toInt) :
    (if i = v6.toInt then v4 else (fun i => if i < v6.toInt then own_rv g k n (n - 1 - (v5.toInt - 1)).toNat (f i) else own_rv g k n (n - 1 - v5.toInt).toNat (f i)) i) = (if i < v6'.toInt then own_rv g k n (n - 1 - (v5.toInt - 1)).toNat (f i) else own_rv g k n (n - 1 - v5.toInt).toNat (f i)) := by
  by_cases b : i = v6.toInt
  · rw [if_pos b, if_pos (by omega), own_rvS j1 j2, b, if_pos q, j3]
  · rw [if_neg b]
    show (if i < v6.toInt then _ else _) = _
    by_cases a : i < v6.toInt
    · rw [if_pos a, if_pos (by omega)]
    · rw [if_neg a, if_neg (by omega)]

theorem pd_0 : parseMethodDescriptor "([I[I[I)[I" = some ⟨[(.array .int), (.array .int), (.array .int)], some (.array .int)⟩ := by decide +kernel
theorem pd_1 : parseMethodDescriptor "(IIIII[I)I" = some ⟨[.int, .int, .int, .int, .int, (.array .int)], some .int⟩ := by decide +kernel
theorem d1_0 : decode prog_44_method_3_code 0 = .ok (.aload_n 0, 1) := by decide +kernel
theorem d1_1 : decode prog_44_method_3_code 1 = .ok (.arraylength, 1) := by decide +kernel
theorem d1_2 : decode prog_44_method_3_code 2 = .ok (.newarray .int, 2) := by decide +kernel
theorem d1_4 : decode prog_44_method_3_code 4 = .ok (.astore_n 3, 1) := by decide +kernel
theorem d1_5 : decode prog_44_method_3_code 5 = .ok (.iconst 1, 1) := by decide +kernel
theorem d1_6 : decode prog_44_method_3_code 6 = .ok (.istore 4, 2) := by decide +kernel
theorem d1_8 : decode prog_44_method_3_code 8 = .ok (.aload_n 1, 1) := by decide +kernel
theorem d1_9 : decode prog_44_method_3_code 9 = .ok (.arraylength, 1) := by decide +kernel
theorem d1_10 : decode prog_44_method_3_code 10 = .ok (.iconst 1, 1) := by decide +kernel
theorem d1_11 : decode prog_44_method_3_code 11 = .ok (.isub, 1) := by decide +kernel
theorem d1_12 : decode prog_44_method_3_code 12 = .ok (.istore 5, 2) := by decide +kernel
theorem d1_14 : decode prog_44_method_3_code 14 = .ok (.iload 5, 2) := by decide +kernel
theorem d1_16 : decode prog_44_method_3_code 16 = .ok (.ifCond .lt 53, 3) := by decide +kernel
theorem d1_19 : decode prog_44_method_3_code 19 = .ok (.iconst 0, 1) := by decide +kernel
theorem d1_20 : decode prog_44_method_3_code 20 = .ok (.istore 6, 2) := by decide +kernel
theorem d1_22 : decode prog_44_method_3_code 22 = .ok (.iload 6, 2) := by decide +kernel
theorem d1_24 : decode prog_44_method_3_code 24 = .ok (.aload_n 0, 1) := by decide +kernel
theorem d1_25 : decode prog_44_method_3_code 25 = .ok (.arraylength, 1) := by decide +kernel
theorem d1_26 : decode prog_44_method_3_code 26 = .ok (.if_icmp .ge 26, 3) := by decide +kernel
theorem d1_29 : decode prog_44_method_3_code 29 = .ok (.aload_n 0, 1) := by decide +kernel
theorem d1_30 : decode prog_44_method_3_code 30 = .ok (.iload 6, 2) := by decide +kernel
theorem d1_32 : decode prog_44_method_3_code 32 = .ok (.iaload, 1) := by decide +kernel
theorem d1_33 : decode prog_44_method_3_code 33 = .ok (.aload_n 1, 1) := by decide +kernel
theorem d1_34 : decode prog_44_method_3_code 34 = .ok (.iload 5, 2) := by decide +kernel
theorem d1_36 : decode prog_44_method_3_code 36 = .ok (.iaload, 1) := by decide +kernel
theorem d1_37 : decode prog_44_method_3_code 37 = .ok (.if_icmp .ne 9, 3) := by decide +kernel
theorem d1_40 : decode prog_44_method_3_code 40 = .ok (.aload_n 3, 1) := by decide +kernel
theorem d1_41 : decode prog_44_method_3_code 41 = .ok (.iload 6, 2) := by decide +kernel
theorem d1_43 : decode prog_44_method_3_code 43 = .ok (.iload 4, 2) := by decide +kernel
theorem d1_45 : decode prog_44_method_3_code 45 = .ok (.iastore, 1) := by decide +kernel
theorem d1_46 : decode prog_44_method_3_code 46 = .ok (.iinc 6 1, 3) := by decide +kernel
theorem d1_49 : decode prog_44_method_3_code 49 = .ok (.goto (-27), 3) := by decide +kernel
theorem d1_52 : decode prog_44_method_3_code 52 = .ok (.iload 4, 2) := by decide +kernel
theorem d1_54 : decode prog_44_method_3_code 54 = .ok (.aload_n 2, 1) := by decide +kernel
theorem d1_55 : decode prog_44_method_3_code 55 = .ok (.aload_n 1, 1) := by decide +kernel
theorem d1_56 : decode prog_44_method_3_code 56 = .ok (.iload 5, 2) := by decide +kernel
theorem d1_58 : decode prog_44_method_3_code 58 = .ok (.iaload, 1) := by decide +kernel
theorem d1_59 : decode prog_44_method_3_code 59 = .ok (.iaload, 1) := by decide +kernel
theorem d1_60 : decode prog_44_method_3_code 60 = .ok (.imul, 1) := by decide +kernel
theorem d1_61 : decode prog_44_method_3_code 61 = .ok (.istore 4, 2) := by decide +kernel
theorem d1_63 : decode prog_44_method_3_code 63 = .ok (.iinc 5 (-1), 3) := by decide +kernel
theorem d1_66 : decode prog_44_method_3_code 66 = .ok (.goto (-52), 3) := by decide +kernel
theorem d1_69 : decode prog_44_method_3_code 69 = .ok (.aload_n 3, 1) := by decide +kernel
theorem d1_70 : decode prog_44_method_3_code 70 = .ok (.areturn, 1) := by decide +kernel
theorem pn_1 : plainName "com/example/cutbelief/cutbelief/inference/Potentials" = true := by first | (simp [plainName, overriddenIn]; done) | decide +kernel
theorem ef_1 (m : MethodId) (r0 : Addr) (r1 : Addr) (r2 : Addr) : entryFrame m #[.ref r0, .ref r1, .ref r2] 7 = mkF m 0 #[.val (.ref r0), .val (.ref r1), .val (.ref r2), .unset, .unset, .unset, .unset] [] := by first | (simp [entryFrame, mkF, argsToLocals, Value.category]; done) | rfl
set_option maxRecDepth 65536 in
set_option maxHeartbeats 40000000 in
theorem ct_1 (l : Launch) (Z : State) (a0 : Array Value) (hw : ∀ d ∈ tables_1, d.before a0 Z = true) {h0 : Heap} {n0 : Nat} (zs : n0 ≤ h0.size) (r0 : Addr) (r1 : Addr) (r2 : Addr) (sm n : Int) (f g k : Int → Int32) (A_r0 : AIK Z h0 r0 .int sm f) (A_r1 : AIK Z h0 r1 .int n g) (A_r2 : AIK Z h0 r2 .int 4 k) (hm : sm ≤ 4) (hg : ∀ i : Int, 0 ≤ i → i < n → 0 ≤ (g i).toInt ∧ (g i).toInt < 4) :
    CtK l Z (⟨"com/example/cutbelief/cutbelief/inference/Potentials", "strides", "([I[I[I)[I"⟩ : MethodName) prog_44_method_3_code 7 (some (.array .int)) ({ frames := 0, cells := 1, slots := 4, locals := 0 } : Room) #[.ref r0, .ref r1, .ref r2] h0 n0 (QA (fun r h => Keep h0 h [] ∧ h0.size ≤ r ∧ n0 ≤ r ∧ AIK Z h r .int sm (fun i => own_rv g k n n.toNat (f i)))) := by
  refine CtK.of (plainFor_of_name pn_1) ?_
  intro p e s m below meth c T0 X0 hx hZ hby hml hown hnm hret hlk
  refine GoK.entry (ef_1 m r0 r1 r2) ?_
  replace hown : s.vm.findClass "com/example/cutbelief/cutbelief/inference/Potentials" = some m.cls := hown
  have K := Keep.refl h0 []
  refine go_aloadN (pc' := 1) X0 hx (hb hby d1_0) rfl rfl ?_
  refine go_lenI (pc' := 2) X0 hx hZ A_r0 (hb hby d1_1) rfl (fun n1 hn1 => ?_)
  refine go_newI (pc' := 4) (cap := 4) (n := sm) (cells' := 1) (slots' := 4) X0 hx hZ (hw _ (List.mem_of_getElem? (i := 0) rfl)) (hb hby d1_2) rfl hn1 A_r0.nn.1 (by omega) (by decide) (by decide) (by decide) rfl rfl (fun T1 h1 b1 eb1 X1 E1 A_b1 => ?_)
  have g_b1 : n0 ≤ b1 := by rw [eb1]; exact zs
  have sz_b1 : h0.size ≤ b1 := by rw [eb1]; exact K.1
  have ne_r0_b1 : r0 ≠ b1 := by rw [eb1]; exact Nat.ne_of_lt (A_r0.lt)
  have ne_b1_r0 := ne_r0_b1.symm
  have ne_r1_b1 : r1 ≠ b1 := by rw [eb1]; exact Nat.ne_of_lt (A_r1.lt)
  have ne_b1_r1 := ne_r1_b1.symm
  have ne_r2_b1 : r2 ≠ b1 := by rw [eb1]; exact Nat.ne_of_lt (A_r2.lt)
  have ne_b1_r2 := ne_r2_b1.symm
  have A_r0 := A_r0.ext E1
  have A_r1 := A_r1.ext E1
  have A_r2 := A_r2.ext E1
  have zs := Nat.le_trans zs E1.1
  have K := K.ext E1
  refine go_astoreN (pc' := 5) (L' := #[.val (.ref r0), .val (.ref r1), .val (.ref r2), .val (.ref b1), .unset, .unset, .unset]) X1 hx (hb hby d1_4) rfl rfl ?_
  refine go_iconst (pc' := 6) (v := 1) X1 hx (hb hby d1_5) rfl rfl ?_
  refine go_istore (pc' := 8) (L' := #[.val (.ref r0), .val (.ref r1), .val (.ref r2), .val (.ref b1), .val (.int (1 : Int32)), .unset, .unset]) X1 hx (hb hby d1_6) rfl rfl ?_
  refine go_aloadN (pc' := 9) X1 hx (hb hby d1_8) rfl rfl ?_
  refine go_lenI (pc' := 10) X1 hx hZ A_r1 (hb hby d1_9) rfl (fun n9 hn9 => ?_)
  refine go_iconst (pc' := 11) (v := 1) X1 hx (hb hby d1_10) rfl rfl ?_
  refine go_isub (pc' := 12) X1 hx (hb hby d1_11) rfl ?_
  refine go_nameI (fun v5_12 hv5_12 => ?_)
  refine go_istore (pc' := 14) (L' := #[.val (.ref r0), .val (.ref r1), .val (.ref r2), .val (.ref b1), .val (.int (1 : Int32)), .val (.int v5_12), .unset]) X1 hx (hb hby d1_12) rfl rfl ?_
  have e12 := own_pre hv5_12 (by have := A_r1.nn; omega)
  have nn1 := A_r1.nn
  suffices loop14 : ∀ (d : Nat) (TL14 : State) (hL14 : Heap) (v4 : Int32) (v5 : Int32) (s6 : Slot), OnK p l e ({ frames := 0, cells := 1, slots := 4, locals := 0 } : Room) s m #[.ref r0, .ref r1, .ref r2] below meth c n0 TL14 hL14 1 4 → n0 ≤ hL14.size → Keep h0 hL14 [] → AIK Z hL14 r0 .int sm f → AIK Z hL14 r1 .int n g → AIK Z hL14 r2 .int (4) k → AIK Z hL14 b1 .int sm (fun i => own_rv g k n (n - 1 - v5.toInt).toNat (f i)) → One s6 → (v5.toInt + 1).toNat = d → (-1 ≤ v5.toInt ∧ v5.toInt < n ∧ v4 = own_st g k n (n - 1 - v5.toInt).toNat) → GoK p e below (DoneK s below n0 ({ frames := 0, cells := 1, slots := 4, locals := 0 } : Room).cells ({ frames := 0, cells := 1, slots := 4, locals := 0 } : Room).slots (QA (fun r h => Keep h0 h [] ∧ h0.size ≤ r ∧ n0 ≤ r ∧ AIK Z h r .int sm (fun i => own_rv g k n n.toNat (f i))))) TL14 (mkF m 14 #[.val (.ref r0), .val (.ref r1), .val (.ref r2), .val (.ref b1), .val (.int v4), .val (.int v5), s6] []) by
    refine loop14 _ T1 h1 (1 : Int32) v5_12 (.unset) X1 zs K A_r0 A_r1 A_r2 (AIK.congr A_b1 (fun i i1 i2 => by rw [show (n - 1 - v5_12.toInt).toNat = 0 by omega]; rfl)) One.u rfl ?_
    refine ⟨by omega, by omega, ?_⟩
    rw [show (n - 1 - v5_12.toInt).toNat = 0 by omega]; rfl
  intro d14
  induction d14 using Nat.strongRecOn with
  | _ d14 ih14 =>
    intro TL14 hL14 v4 v5 s6 XL14 zs K A_r0 A_r1 A_r2 A_b1 hs6 hm14 hv14
    obtain ⟨j0, j2, j3⟩ := hv14
    refine go_iload (pc' := 16) XL14 hx (hb hby d1_14) rfl rfl ?_
    refine go_iflt (pc' := 19) (pcT := 69) XL14 hx (hb hby d1_16) rfl (by decide) (by decide) (fun c16 => ?_) (fun c16 => ?_)
    · refine go_aloadN (pc' := 70) XL14 hx (hb hby d1_69) rfl rfl ?_
      refine go_retA XL14 hx hret rfl rfl hlk (hb hby d1_70) (by decide) (by decide) ?_
      have q := own_ltI c16
      have q0 := own_k0
      have e14 : (n - 1 - v5.toInt).toNat = n.toNat := by omega
      rw [e14] at A_b1
      exact ⟨K, sz_b1, g_b1, A_b1⟩
    · have j1 : 0 ≤ v5.toInt := by have := own_geI c16; have := own_k0; omega
      refine go_iconst (pc' := 20) (v := 0) XL14 hx (hb hby d1_19) rfl rfl ?_
      refine go_istore (pc' := 22) (L' := #[.val (.ref r0), .val (.ref r1), .val (.ref r2), .val (.ref b1), .val (.int v4), .val (.int v5), .val (.int (0 : Int32))]) XL14 hx (hb hby d1_20) rfl (XS.store1 rfl hs6 rfl) ?_
      suffices loop22 : ∀ (d : Nat) (TL22 : State) (hL22 : Heap) (v6 : Int32), OnK p l e ({ frames := 0, cells := 1, slots := 4, locals := 0 } : Room) s m #[.ref r0, .ref r1, .ref r2] below meth c n0 TL22 hL22 1 4 → n0 ≤ hL22.size → Keep h0 hL22 [] → AIK Z hL22 r0 .int sm f → AIK Z hL22 r1 .int n g → AIK Z hL22 r2 .int (4) k → AIK Z hL22 b1 .int sm (fun i => if i < v6.toInt then own_rv g k n (n - 1 - (v5.toInt - 1)).toNat (f i) else own_rv g k n (n - 1 - v5.toInt).toNat (f i)) → (sm - v6.toInt).toNat = d → (0 ≤ v6.toInt ∧ v6.toInt ≤ sm) → GoK p e below (DoneK s below n0 ({ frames := 0, cells := 1, slots := 4, locals := 0 } : Room).cells ({ frames := 0, cells := 1, slots := 4, locals := 0 } : Room).slots (QA (fun r h => Keep h0 h [] ∧ h0.size ≤ r ∧ n0 ≤ r ∧ AIK Z h r .int sm (fun i => own_rv g k n n.toNat (f i))))) TL22 (mkF m 22 #[.val (.ref r0), .val (.ref r1), .val (.ref r2), .val (.ref b1), .val (.int v4), .val (.int v5), .val (.int v6)] []) by
        refine loop22 _ TL14 hL14 (0 : Int32) XL14 zs K A_r0 A_r1 A_r2 (AIK.congr A_b1 (fun i i1 i2 => by show _ = if i < (0 : Int32).toInt then _ else _; rw [if_neg (by have := own_k0; omega)]))  rfl ?_
        exact ⟨by decide, A_r0.nn.1⟩
      intro d22
      induction d22 using Nat.strongRecOn with
      | _ d22 ih22 =>
        intro TL22 hL22 v6 XL22 zs K A_r0 A_r1 A_r2 A_b1 hm22 hv22
        obtain ⟨i1, i2⟩ := hv22
        refine go_iload (pc' := 24) XL22 hx (hb hby d1_22) rfl rfl ?_
        refine go_aloadN (pc' := 25) XL22 hx (hb hby d1_24) rfl rfl ?_
        refine go_lenI (pc' := 26) XL22 hx hZ A_r0 (hb hby d1_25) rfl (fun n25_f hn25_f => ?_)
        refine go_icmpge (pc' := 29) (pcT := 52) XL22 hx (hb hby d1_26) rfl (by decide) (by decide) (fun c26_f => ?_) (fun c26_f => ?_)
        · refine go_iload (pc' := 54) XL22 hx (hb hby d1_52) rfl rfl ?_
          refine go_aloadN (pc' := 55) XL22 hx (hb hby d1_54) rfl rfl ?_
          refine go_aloadN (pc' := 56) XL22 hx (hb hby d1_55) rfl rfl ?_
          refine go_iload (pc' := 58) XL22 hx (hb hby d1_56) rfl rfl ?_
          refine go_iaload (pc' := 59) XL22 hx hZ A_r1 j1 j2 (hb hby d1_58) rfl (fun w58_ft hw58_ft => ?_)
          refine go_iaload (pc' := 60) XL22 hx hZ A_r2 (by rw [hw58_ft]; exact (hg _ j1 j2).1) (by rw [hw58_ft]; exact (hg _ j1 j2).2) (hb hby d1_59) rfl (fun w59_ft hw59_ft => ?_)
          refine go_imul (pc' := 61) XL22 hx (hb hby d1_60) rfl ?_
          refine go_nameI (fun v4_61_ft hv4_61_ft => ?_)
          refine go_istore (pc' := 63) (L' := #[.val (.ref r0), .val (.ref r1), .val (.ref r2), .val (.ref b1), .val (.int v4_61_ft), .val (.int v5), .val (.int v6)]) XL22 hx (hb hby d1_61) rfl rfl ?_
          obtain ⟨v5_63_ft, hv5_63_ft⟩ : ∃ z : Int32, z = v5 + (-1 : Int32) := ⟨_, rfl⟩
          refine go_iinc (pc' := 66) (L' := #[.val (.ref r0), .val (.ref r1), .val (.ref r2), .val (.ref b1), .val (.int v4_61_ft), .val (.int v5_63_ft), .val (.int v6)]) XL22 hx (hb hby d1_63) rfl rfl hv5_63_ft.symm rfl ?_
          have e5 := own_dec hv5_63_ft (by omega)
          have ed : v5.toInt - 1 = v5_63_ft.toInt := by omega
          refine go_goto (pc' := 14) XL22 hx (hb hby d1_66) (by decide) (by decide) ?_
          refine ih14 _ ?_ TL22 hL22 v4_61_ft v5_63_ft (.val (.int v6)) XL22 zs K A_r0 A_r1 A_r2 (AIK.congr A_b1 (fun i i1 i2 => by show (if i < v6.toInt then _ else _) = _; rw [if_pos (by have := own_geI c26_f; omega), ed])) (One.val rfl) rfl ?_
          · omega
          · refine ⟨by omega, by omega, ?_⟩
            rw [hv4_61_ft, hw59_ft, hw58_ft, j3, ← ed, own_stS j1 j2]
        · refine go_aloadN (pc' := 30) XL22 hx (hb hby d1_29) rfl rfl ?_
          refine go_iload (pc' := 32) XL22 hx (hb hby d1_30) rfl rfl ?_
          refine go_iaload (pc' := 33) XL22 hx hZ A_r0 i1 (by have := own_ltI c26_f; omega) (hb hby d1_32) rfl (fun w32_ff hw32_ff => ?_)
          refine go_aloadN (pc' := 34) XL22 hx (hb hby d1_33) rfl rfl ?_
          refine go_iload (pc' := 36) XL22 hx (hb hby d1_34) rfl rfl ?_
          refine go_iaload (pc' := 37) XL22 hx hZ A_r1 j1 j2 (hb hby d1_36) rfl (fun w36_ff hw36_ff => ?_)
          refine go_icmpne (pc' := 40) (pcT := 46) XL22 hx (hb hby d1_37) rfl (by decide) (by decide) (fun c37_ff => ?_) (fun c37_ff => ?_)
          · have n37 : ¬ f v6.toInt = g v5.toInt := by rw [← hw32_ff, ← hw36_ff]; exact c37_ff
            obtain ⟨v6_46_fft, hv6_46_fft⟩ : ∃ z : Int32, z = v6 + (1 : Int32) := ⟨_, rfl⟩
            refine go_iinc (pc' := 49) (L' := #[.val (.ref r0), .val (.ref r1), .val (.ref r2), .val (.ref b1), .val (.int v4), .val (.int v5), .val (.int v6_46_fft)]) XL22 hx (hb hby d1_46) rfl rfl hv6_46_fft.symm rfl ?_
            have e6 := own_inc hv6_46_fft (by have := own_ltI c26_f; have := A_r0.nn; omega)
            refine go_goto (pc' := 22) XL22 hx (hb hby d1_49) (by decide) (by decide) ?_
            refine ih22 _ ?_ TL22 hL22 v6_46_fft XL22 zs K A_r0 A_r1 A_r2 (AIK.congr A_b1 (fun i i1 i2 => own_ns i e6 j1 j2 n37 rfl))  rfl ?_
            · have := own_ltI c26_f
              omega
            · have := own_ltI c26_f
              exact ⟨by omega, by omega⟩
          · refine go_aloadN (pc' := 41) XL22 hx (hb hby d1_40) rfl rfl ?_
            refine go_iload (pc' := 43) XL22 hx (hb hby d1_41) rfl rfl ?_
            refine go_iload (pc' := 45) XL22 hx (hb hby d1_43) rfl rfl ?_
            refine go_iastore (pc' := 46) XL22 hx hZ A_b1 g_b1 i1 (by have := own_ltI c26_f; omega) (hb hby d1_45) rfl (fun T2 h2 X2 W2 A_b1 => ?_)
            have A_r0 := A_r0.other W2 ne_r0_b1
            have A_r1 := A_r1.other W2 ne_r1_b1
            have A_r2 := A_r2.other W2 ne_r2_b1
            have zs := Nat.le_trans zs (Nat.le_of_eq W2.size.symm)
            have K := K.wr W2 (Or.inr sz_b1)
            have n37 : f v6.toInt = g v5.toInt := by rw [← hw32_ff, ← hw36_ff]; exact c37_ff
            obtain ⟨v6_46_fff, hv6_46_fff⟩ : ∃ z : Int32, z = v6 + (1 : Int32) := ⟨_, rfl⟩
            refine go_iinc (pc' := 49) (L' := #[.val (.ref r0), .val (.ref r1), .val (.ref r2), .val (.ref b1), .val (.int v4), .val (.int v5), .val (.int v6_46_fff)]) X2 hx (hb hby d1_46) rfl rfl hv6_46_fff.symm rfl ?_
            have e6 := own_inc hv6_46_fff (by have := own_ltI c26_f; have := A_r0.nn; omega)
            refine go_goto (pc' := 22) X2 hx (hb hby d1_49) (by decide) (by decide) ?_
            refine ih22 _ ?_ T2 h2 v6_46_fff X2 zs K A_r0 A_r1 A_r2 (AIK.congr A_b1 (fun i i1 i2 => own_s i e6 j1 j2 j3 n37))  rfl ?_
            · have := own_ltI c26_f
              omega
            · have := own_ltI c26_f
              exact ⟨by omega, by omega⟩
theorem d2_0 : decode method_3_code 0 = .ok (.iload_n 1, 1) := by decide +kernel
theorem d2_1 : decode method_3_code 1 = .ok (.iconst 1, 1) := by decide +kernel
theorem d2_2 : decode method_3_code 2 = .ok (.if_icmp .lt 36, 3) := by decide +kernel
theorem d2_5 : decode method_3_code 5 = .ok (.iload_n 0, 1) := by decide +kernel
theorem d2_6 : decode method_3_code 6 = .ok (.iload_n 2, 1) := by decide +kernel
theorem d2_7 : decode method_3_code 7 = .ok (.if_icmp .ne 31, 3) := by decide +kernel
theorem d2_10 : decode method_3_code 10 = .ok (.iload_n 1, 1) := by decide +kernel
theorem d2_11 : decode method_3_code 11 = .ok (.iconst 1, 1) := by decide +kernel
theorem d2_12 : decode method_3_code 12 = .ok (.if_icmp .ne 5, 3) := by decide +kernel
theorem d2_15 : decode method_3_code 15 = .ok (.iconst 1, 1) := by decide +kernel
theorem d2_16 : decode method_3_code 16 = .ok (.ireturn, 1) := by decide +kernel
theorem d2_17 : decode method_3_code 17 = .ok (.iload_n 1, 1) := by decide +kernel
theorem d2_18 : decode method_3_code 18 = .ok (.iconst 2, 1) := by decide +kernel
theorem d2_19 : decode method_3_code 19 = .ok (.if_icmp .ne 8, 3) := by decide +kernel
theorem d2_22 : decode method_3_code 22 = .ok (.aload 5, 2) := by decide +kernel
theorem d2_24 : decode method_3_code 24 = .ok (.iload_n 3, 1) := by decide +kernel
theorem d2_25 : decode method_3_code 25 = .ok (.iaload, 1) := by decide +kernel
theorem d2_26 : decode method_3_code 26 = .ok (.ireturn, 1) := by decide +kernel
theorem d2_27 : decode method_3_code 27 = .ok (.aload 5, 2) := by decide +kernel
theorem d2_29 : decode method_3_code 29 = .ok (.iload_n 3, 1) := by decide +kernel
theorem d2_30 : decode method_3_code 30 = .ok (.iaload, 1) := by decide +kernel
theorem d2_31 : decode method_3_code 31 = .ok (.aload 5, 2) := by decide +kernel
theorem d2_33 : decode method_3_code 33 = .ok (.iload 4, 2) := by decide +kernel
theorem d2_35 : decode method_3_code 35 = .ok (.iaload, 1) := by decide +kernel
theorem d2_36 : decode method_3_code 36 = .ok (.imul, 1) := by decide +kernel
theorem d2_37 : decode method_3_code 37 = .ok (.ireturn, 1) := by decide +kernel
theorem d2_38 : decode method_3_code 38 = .ok (.iload_n 1, 1) := by decide +kernel
theorem d2_39 : decode method_3_code 39 = .ok (.iconst 2, 1) := by decide +kernel
theorem d2_40 : decode method_3_code 40 = .ok (.if_icmp .lt 21, 3) := by decide +kernel
theorem d2_43 : decode method_3_code 43 = .ok (.iload_n 0, 1) := by decide +kernel
theorem d2_44 : decode method_3_code 44 = .ok (.iload_n 3, 1) := by decide +kernel
theorem d2_45 : decode method_3_code 45 = .ok (.if_icmp .ne 16, 3) := by decide +kernel
theorem d2_48 : decode method_3_code 48 = .ok (.iload_n 1, 1) := by decide +kernel
theorem d2_49 : decode method_3_code 49 = .ok (.iconst 2, 1) := by decide +kernel
theorem d2_50 : decode method_3_code 50 = .ok (.if_icmp .ne 5, 3) := by decide +kernel
theorem d2_53 : decode method_3_code 53 = .ok (.iconst 1, 1) := by decide +kernel
theorem d2_54 : decode method_3_code 54 = .ok (.ireturn, 1) := by decide +kernel
theorem d2_55 : decode method_3_code 55 = .ok (.aload 5, 2) := by decide +kernel
theorem d2_57 : decode method_3_code 57 = .ok (.iload 4, 2) := by decide +kernel
theorem d2_59 : decode method_3_code 59 = .ok (.iaload, 1) := by decide +kernel
theorem d2_60 : decode method_3_code 60 = .ok (.ireturn, 1) := by decide +kernel
theorem d2_61 : decode method_3_code 61 = .ok (.iload_n 1, 1) := by decide +kernel
theorem d2_62 : decode method_3_code 62 = .ok (.iconst 3, 1) := by decide +kernel
theorem d2_63 : decode method_3_code 63 = .ok (.if_icmp .lt 11, 3) := by decide +kernel
theorem d2_66 : decode method_3_code 66 = .ok (.iload_n 0, 1) := by decide +kernel
theorem d2_67 : decode method_3_code 67 = .ok (.iload 4, 2) := by decide +kernel
theorem d2_69 : decode method_3_code 69 = .ok (.if_icmp .ne 5, 3) := by decide +kernel
theorem d2_72 : decode method_3_code 72 = .ok (.iconst 1, 1) := by decide +kernel
theorem d2_73 : decode method_3_code 73 = .ok (.ireturn, 1) := by decide +kernel
theorem d2_74 : decode method_3_code 74 = .ok (.iconst 0, 1) := by decide +kernel
theorem d2_75 : decode method_3_code 75 = .ok (.ireturn, 1) := by decide +kernel
theorem pn_2 : plainName "com/example/cutbelief/cutbelief/inference/PotentialsStridesPinLaw" = true := by first | (simp [plainName, overriddenIn]; done) | decide +kernel
theorem ef_2 (m : MethodId) (p0 : Int32) (p1 : Int32) (p2 : Int32) (p3 : Int32) (p4 : Int32) (r5 : Addr) : entryFrame m #[.int p0, .int p1, .int p2, .int p3, .int p4, .ref r5] 6 = mkF m 0 #[.val (.int p0), .val (.int p1), .val (.int p2), .val (.int p3), .val (.int p4), .val (.ref r5)] [] := by first | (simp [entryFrame, mkF, argsToLocals, Value.category]; done) | rfl
set_option maxRecDepth 65536 in
set_option maxHeartbeats 40000000 in
theorem ct_2 (l : Launch) (Z : State) (a0 : Array Value) (hw : ∀ d ∈ tables_1, d.before a0 Z = true) {h0 : Heap} {n0 : Nat} (zs : n0 ≤ h0.size) (p0 : Int32) (p1 : Int32) (p2 : Int32) (p3 : Int32) (p4 : Int32) (r5 : Addr) (k : Int → Int32) (A_r5 : AIK Z h0 r5 .int 4 k) (u11 : 0 ≤ p3.toInt) (u12 : p3.toInt < 4) (u21 : 0 ≤ p4.toInt) (u22 : p4.toInt < 4) :
    CtK l Z (⟨"com/example/cutbelief/cutbelief/inference/PotentialsStridesPinLaw", "expected", "(IIIII[I)I"⟩ : MethodName) method_3_code 6 (some .int) ({ frames := 0, cells := 0, slots := 0, locals := 0 } : Room) #[.int p0, .int p1, .int p2, .int p3, .int p4, .ref r5] h0 n0 (QI (fun z h => z = own_exp k p0 p1 p2 p3 p4 ∧ h = h0)) := by
  refine CtK.of (plainFor_of_name pn_2) ?_
  intro p e s m below meth c T0 X0 hx hZ hby hml hown hnm hret hlk
  refine GoK.entry (ef_2 m p0 p1 p2 p3 p4 r5) ?_
  replace hown : s.vm.findClass "com/example/cutbelief/cutbelief/inference/PotentialsStridesPinLaw" = some m.cls := hown
  refine go_iloadN (pc' := 1) X0 hx (hb hby d2_0) rfl rfl ?_
  refine go_iconst (pc' := 2) (v := 1) X0 hx (hb hby d2_1) rfl rfl ?_
  refine go_icmplt (pc' := 5) (pcT := 38) X0 hx (hb hby d2_2) rfl (by decide) (by decide) (fun c2 => ?_) (fun c2 => ?_)
  · refine go_iloadN (pc' := 39) X0 hx (hb hby d2_38) rfl rfl ?_
    refine go_iconst (pc' := 40) (v := 2) X0 hx (hb hby d2_39) rfl rfl ?_
    refine go_icmplt (pc' := 43) (pcT := 61) X0 hx (hb hby d2_40) rfl (by decide) (by decide) (fun c40_t => ?_) (fun c40_t => ?_)
    · refine go_iloadN (pc' := 62) X0 hx (hb hby d2_61) rfl rfl ?_
      refine go_iconst (pc' := 63) (v := 3) X0 hx (hb hby d2_62) rfl rfl ?_
      refine go_icmplt (pc' := 66) (pcT := 74) X0 hx (hb hby d2_63) rfl (by decide) (by decide) (fun c63_tt => ?_) (fun c63_tt => ?_)
      · refine go_iconst (pc' := 75) (v := 0) X0 hx (hb hby d2_74) rfl rfl ?_
        refine go_retI X0 hx hret hlk (hb hby d2_75) (by decide) (by decide) ?_
        refine ⟨?_, rfl⟩
        simp [own_exp, eq_true c2, eq_true c40_t, eq_true c63_tt]
      · refine go_iloadN (pc' := 67) X0 hx (hb hby d2_66) rfl rfl ?_
        refine go_iload (pc' := 69) X0 hx (hb hby d2_67) rfl rfl ?_
        refine go_icmpne (pc' := 72) (pcT := 74) X0 hx (hb hby d2_69) rfl (by decide) (by decide) (fun c69_ttf => ?_) (fun c69_ttf => ?_)
        · refine go_iconst (pc' := 75) (v := 0) X0 hx (hb hby d2_74) rfl rfl ?_
          refine go_retI X0 hx hret hlk (hb hby d2_75) (by decide) (by decide) ?_
          refine ⟨?_, rfl⟩
          simp [own_exp, eq_true c2, eq_true c40_t, eq_false c63_tt, eq_false c69_ttf]
        · refine go_iconst (pc' := 73) (v := 1) X0 hx (hb hby d2_72) rfl rfl ?_
          refine go_retI X0 hx hret hlk (hb hby d2_73) (by decide) (by decide) ?_
          refine ⟨?_, rfl⟩
          simp [own_exp, eq_true c2, eq_true c40_t, eq_false c63_tt, eq_true c69_ttf]
    · refine go_iloadN (pc' := 44) X0 hx (hb hby d2_43) rfl rfl ?_
      refine go_iloadN (pc' := 45) X0 hx (hb hby d2_44) rfl rfl ?_
      refine go_icmpne (pc' := 48) (pcT := 61) X0 hx (hb hby d2_45) rfl (by decide) (by decide) (fun c45_tf => ?_) (fun c45_tf => ?_)
      · refine go_iloadN (pc' := 62) X0 hx (hb hby d2_61) rfl rfl ?_
        refine go_iconst (pc' := 63) (v := 3) X0 hx (hb hby d2_62) rfl rfl ?_
        refine go_icmplt (pc' := 66) (pcT := 74) X0 hx (hb hby d2_63) rfl (by decide) (by decide) (fun c63_tft => ?_) (fun c63_tft => ?_)
        · refine go_iconst (pc' := 75) (v := 0) X0 hx (hb hby d2_74) rfl rfl ?_
          refine go_retI X0 hx hret hlk (hb hby d2_75) (by decide) (by decide) ?_
          refine ⟨?_, rfl⟩
          simp [own_exp, eq_true c2, eq_false c40_t, eq_false c45_tf, eq_true c63_tft]
        · refine go_iloadN (pc' := 67) X0 hx (hb hby d2_66) rfl rfl ?_
          refine go_iload (pc' := 69) X0 hx (hb hby d2_67) rfl rfl ?_
          refine go_icmpne (pc' := 72) (pcT := 74) X0 hx (hb hby d2_69) rfl (by decide) (by decide) (fun c69_tftf => ?_) (fun c69_tftf => ?_)
          · refine go_iconst (pc' := 75) (v := 0) X0 hx (hb hby d2_74) rfl rfl ?_
            refine go_retI X0 hx hret hlk (hb hby d2_75) (by decide) (by decide) ?_
            refine ⟨?_, rfl⟩
            simp [own_exp, eq_true c2, eq_false c40_t, eq_false c45_tf, eq_false c63_tft, eq_false c69_tftf]
          · refine go_iconst (pc' := 73) (v := 1) X0 hx (hb hby d2_72) rfl rfl ?_
            refine go_retI X0 hx hret hlk (hb hby d2_73) (by decide) (by decide) ?_
            refine ⟨?_, rfl⟩
            simp [own_exp, eq_true c2, eq_false c40_t, eq_false c45_tf, eq_false c63_tft, eq_true c69_tftf]
      · refine go_iloadN (pc' := 49) X0 hx (hb hby d2_48) rfl rfl ?_
        refine go_iconst (pc' := 50) (v := 2) X0 hx (hb hby d2_49) rfl rfl ?_
        refine go_icmpne (pc' := 53) (pcT := 55) X0 hx (hb hby d2_50) rfl (by decide) (by decide) (fun c50_tff => ?_) (fun c50_tff => ?_)
        · refine go_aload (pc' := 57) X0 hx (hb hby d2_55) rfl rfl ?_
          refine go_iload (pc' := 59) X0 hx (hb hby d2_57) rfl rfl ?_
          refine go_iaload (pc' := 60) X0 hx hZ A_r5 u21 u22 (hb hby d2_59) rfl (fun w59_tfft hw59_tfft => ?_)
          refine go_retI X0 hx hret hlk (hb hby d2_60) (by decide) (by decide) ?_
          refine ⟨?_, rfl⟩
          subst hw59_tfft
          simp [own_exp, eq_true c2, eq_false c40_t, eq_true c45_tf, eq_false c50_tff]
        · refine go_iconst (pc' := 54) (v := 1) X0 hx (hb hby d2_53) rfl rfl ?_
          refine go_retI X0 hx hret hlk (hb hby d2_54) (by decide) (by decide) ?_
          refine ⟨?_, rfl⟩
          simp [own_exp, eq_true c2, eq_false c40_t, eq_true c45_tf, eq_true c50_tff]
  · refine go_iloadN (pc' := 6) X0 hx (hb hby d2_5) rfl rfl ?_
    refine go_iloadN (pc' := 7) X0 hx (hb hby d2_6) rfl rfl ?_
    refine go_icmpne (pc' := 10) (pcT := 38) X0 hx (hb hby d2_7) rfl (by decide) (by decide) (fun c7_f => ?_) (fun c7_f => ?_)
    · refine go_iloadN (pc' := 39) X0 hx (hb hby d2_38) rfl rfl ?_
      refine go_iconst (pc' := 40) (v := 2) X0 hx (hb hby d2_39) rfl rfl ?_
      refine go_icmplt (pc' := 43) (pcT := 61) X0 hx (hb hby d2_40) rfl (by decide) (by decide) (fun c40_ft => ?_) (fun c40_ft => ?_)
      · refine go_iloadN (pc' := 62) X0 hx (hb hby d2_61) rfl rfl ?_
        refine go_iconst (pc' := 63) (v := 3) X0 hx (hb hby d2_62) rfl rfl ?_
        refine go_icmplt (pc' := 66) (pcT := 74) X0 hx (hb hby d2_63) rfl (by decide) (by decide) (fun c63_ftt => ?_) (fun c63_ftt => ?_)
        · refine go_iconst (pc' := 75) (v := 0) X0 hx (hb hby d2_74) rfl rfl ?_
          refine go_retI X0 hx hret hlk (hb hby d2_75) (by decide) (by decide) ?_
          refine ⟨?_, rfl⟩
          simp [own_exp, eq_false c2, eq_false c7_f, eq_true c40_ft, eq_true c63_ftt]
        · refine go_iloadN (pc' := 67) X0 hx (hb hby d2_66) rfl rfl ?_
          refine go_iload (pc' := 69) X0 hx (hb hby d2_67) rfl rfl ?_
          refine go_icmpne (pc' := 72) (pcT := 74) X0 hx (hb hby d2_69) rfl (by decide) (by decide) (fun c69_fttf => ?_) (fun c69_fttf => ?_)
          · refine go_iconst (pc' := 75) (v := 0) X0 hx (hb hby d2_74) rfl rfl ?_
            refine go_retI X0 hx hret hlk (hb hby d2_75) (by decide) (by decide) ?_
            refine ⟨?_, rfl⟩
            simp [own_exp, eq_false c2, eq_false c7_f, eq_true c40_ft, eq_false c63_ftt, eq_false c69_fttf]
          · refine go_iconst (pc' := 73) (v := 1) X0 hx (hb hby d2_72) rfl rfl ?_
            refine go_retI X0 hx hret hlk (hb hby d2_73) (by decide) (by decide) ?_
            refine ⟨?_, rfl⟩
            simp [own_exp, eq_false c2, eq_false c7_f, eq_true c40_ft, eq_false c63_ftt, eq_true c69_fttf]
      · refine go_iloadN (pc' := 44) X0 hx (hb hby d2_43) rfl rfl ?_
        refine go_iloadN (pc' := 45) X0 hx (hb hby d2_44) rfl rfl ?_
        refine go_icmpne (pc' := 48) (pcT := 61) X0 hx (hb hby d2_45) rfl (by decide) (by decide) (fun c45_ftf => ?_) (fun c45_ftf => ?_)
        · refine go_iloadN (pc' := 62) X0 hx (hb hby d2_61) rfl rfl ?_
          refine go_iconst (pc' := 63) (v := 3) X0 hx (hb hby d2_62) rfl rfl ?_
          refine go_icmplt (pc' := 66) (pcT := 74) X0 hx (hb hby d2_63) rfl (by decide) (by decide) (fun c63_ftft => ?_) (fun c63_ftft => ?_)
          · refine go_iconst (pc' := 75) (v := 0) X0 hx (hb hby d2_74) rfl rfl ?_
            refine go_retI X0 hx hret hlk (hb hby d2_75) (by decide) (by decide) ?_
            refine ⟨?_, rfl⟩
            simp [own_exp, eq_false c2, eq_false c7_f, eq_false c40_ft, eq_false c45_ftf, eq_true c63_ftft]
          · refine go_iloadN (pc' := 67) X0 hx (hb hby d2_66) rfl rfl ?_
            refine go_iload (pc' := 69) X0 hx (hb hby d2_67) rfl rfl ?_
            refine go_icmpne (pc' := 72) (pcT := 74) X0 hx (hb hby d2_69) rfl (by decide) (by decide) (fun c69_ftftf => ?_) (fun c69_ftftf => ?_)
            · refine go_iconst (pc' := 75) (v := 0) X0 hx (hb hby d2_74) rfl rfl ?_
              refine go_retI X0 hx hret hlk (hb hby d2_75) (by decide) (by decide) ?_
              refine ⟨?_, rfl⟩
              simp [own_exp, eq_false c2, eq_false c7_f, eq_false c40_ft, eq_false c45_ftf, eq_false c63_ftft, eq_false c69_ftftf]
            · refine go_iconst (pc' := 73) (v := 1) X0 hx (hb hby d2_72) rfl rfl ?_
              refine go_retI X0 hx hret hlk (hb hby d2_73) (by decide) (by decide) ?_
              refine ⟨?_, rfl⟩
              simp [own_exp, eq_false c2, eq_false c7_f, eq_false c40_ft, eq_false c45_ftf, eq_false c63_ftft, eq_true c69_ftftf]
        · refine go_iloadN (pc' := 49) X0 hx (hb hby d2_48) rfl rfl ?_
          refine go_iconst (pc' := 50) (v := 2) X0 hx (hb hby d2_49) rfl rfl ?_
          refine go_icmpne (pc' := 53) (pcT := 55) X0 hx (hb hby d2_50) rfl (by decide) (by decide) (fun c50_ftff => ?_) (fun c50_ftff => ?_)
          · refine go_aload (pc' := 57) X0 hx (hb hby d2_55) rfl rfl ?_
            refine go_iload (pc' := 59) X0 hx (hb hby d2_57) rfl rfl ?_
            refine go_iaload (pc' := 60) X0 hx hZ A_r5 u21 u22 (hb hby d2_59) rfl (fun w59_ftfft hw59_ftfft => ?_)
            refine go_retI X0 hx hret hlk (hb hby d2_60) (by decide) (by decide) ?_
            refine ⟨?_, rfl⟩
            subst hw59_ftfft
            simp [own_exp, eq_false c2, eq_false c7_f, eq_false c40_ft, eq_true c45_ftf, eq_false c50_ftff]
          · refine go_iconst (pc' := 54) (v := 1) X0 hx (hb hby d2_53) rfl rfl ?_
            refine go_retI X0 hx hret hlk (hb hby d2_54) (by decide) (by decide) ?_
            refine ⟨?_, rfl⟩
            simp [own_exp, eq_false c2, eq_false c7_f, eq_false c40_ft, eq_true c45_ftf, eq_true c50_ftff]
    · refine go_iloadN (pc' := 11) X0 hx (hb hby d2_10) rfl rfl ?_
      refine go_iconst (pc' := 12) (v := 1) X0 hx (hb hby d2_11) rfl rfl ?_
      refine go_icmpne (pc' := 15) (pcT := 17) X0 hx (hb hby d2_12) rfl (by decide) (by decide) (fun c12_ff => ?_) (fun c12_ff => ?_)
      · refine go_iloadN (pc' := 18) X0 hx (hb hby d2_17) rfl rfl ?_
        refine go_iconst (pc' := 19) (v := 2) X0 hx (hb hby d2_18) rfl rfl ?_
        refine go_icmpne (pc' := 22) (pcT := 27) X0 hx (hb hby d2_19) rfl (by decide) (by decide) (fun c19_fft => ?_) (fun c19_fft => ?_)
        · refine go_aload (pc' := 29) X0 hx (hb hby d2_27) rfl rfl ?_
          refine go_iloadN (pc' := 30) X0 hx (hb hby d2_29) rfl rfl ?_
          refine go_iaload (pc' := 31) X0 hx hZ A_r5 u11 u12 (hb hby d2_30) rfl (fun w30_fftt hw30_fftt => ?_)
          refine go_aload (pc' := 33) X0 hx (hb hby d2_31) rfl rfl ?_
          refine go_iload (pc' := 35) X0 hx (hb hby d2_33) rfl rfl ?_
          refine go_iaload (pc' := 36) X0 hx hZ A_r5 u21 u22 (hb hby d2_35) rfl (fun w35_fftt hw35_fftt => ?_)
          refine go_imul (pc' := 37) X0 hx (hb hby d2_36) rfl ?_
          refine go_retI X0 hx hret hlk (hb hby d2_37) (by decide) (by decide) ?_
          refine ⟨?_, rfl⟩
          subst hw30_fftt hw35_fftt
          simp [own_exp, eq_false c2, eq_true c7_f, eq_false c12_ff, eq_false c19_fft]
        · refine go_aload (pc' := 24) X0 hx (hb hby d2_22) rfl rfl ?_
          refine go_iloadN (pc' := 25) X0 hx (hb hby d2_24) rfl rfl ?_
          refine go_iaload (pc' := 26) X0 hx hZ A_r5 u11 u12 (hb hby d2_25) rfl (fun w25_fftf hw25_fftf => ?_)
          refine go_retI X0 hx hret hlk (hb hby d2_26) (by decide) (by decide) ?_
          refine ⟨?_, rfl⟩
          subst hw25_fftf
          simp [own_exp, eq_false c2, eq_true c7_f, eq_false c12_ff, eq_true c19_fft]
      · refine go_iconst (pc' := 16) (v := 1) X0 hx (hb hby d2_15) rfl rfl ?_
        refine go_retI X0 hx hret hlk (hb hby d2_16) (by decide) (by decide) ?_
        refine ⟨?_, rfl⟩
        simp [own_exp, eq_false c2, eq_true c7_f, eq_true c12_ff]
theorem pn_0 : plainName "com/example/cutbelief/cutbelief/inference/PotentialsStridesPinLaw" = true := by first | (simp [plainName, overriddenIn]; done) | decide +kernel
theorem ef_0 (m : MethodId) (p0 : Int32) (p1 : Int32) (q2 : Int64) : entryFrame m #[.int p0, .int p1, .long q2] maxLocals = mkF m 0 #[.val (.int p0), .val (.int p1), .val (.long q2), .second, .unset, .unset, .unset, .unset, .unset, .unset, .unset, .unset, .unset, .unset, .unset, .unset] [] := by first | (simp [entryFrame, mkF, argsToLocals, Value.category, maxLocals]; done) | rfl
set_option maxRecDepth 65536 in
set_option maxHeartbeats 40000000 in
theorem ct_0 (l : Launch) (Z : State) (a0 : Array Value) (hw : ∀ d ∈ tables_1, d.before a0 Z = true) {h0 : Heap} {n0 : Nat} (zs : n0 ≤ h0.size) (p0 : Int32) (p1 : Int32) (q2 : Int64)  :
    CtK l Z x code maxLocals ret room_1 #[.int p0, .int p1, .long q2] h0 n0 (QI (fun z _ => z = 1)) := by
  refine CtK.of (plainFor_of_name pn_0) ?_
  intro p e s m below meth c T0 X0 hx hZ hby hml hown hnm hret hlk
  refine GoK.entry (ef_0 m p0 p1 q2) ?_
  replace hml : c.maxLocals = 16 := hml
  replace hown : s.vm.findClass "com/example/cutbelief/cutbelief/inference/PotentialsStridesPinLaw" = some m.cls := hown
  refine go_iconst (pc' := 1) (v := 4) X0 hx (hb hby at_0) rfl rfl ?_
  refine go_newI (pc' := 3) (cap := 4) (n := 4) (cells' := 1) (slots' := 4) X0 hx hZ (hw _ (List.mem_of_getElem? (i := 0) rfl)) (hb hby at_1) rfl rfl (by decide) (by decide) (by decide) (by decide) (by decide) rfl rfl (fun T1 h1 b1 eb1 X1 E1 A_b1 => ?_)
  have g_b1 : n0 ≤ b1 := by rw [eb1]; exact zs
  have zs := Nat.le_trans zs E1.1
  refine go_astore (pc' := 5) (L' := #[.val (.int p0), .val (.int p1), .val (.long q2), .second, .val (.ref b1), .unset, .unset, .unset, .unset, .unset, .unset, .unset, .unset, .unset, .unset, .unset]) X1 hx (hb hby at_3) rfl rfl ?_
  refine go_aload (pc' := 7) X1 hx (hb hby at_5) rfl rfl ?_
  refine go_iconst (pc' := 8) (v := 0) X1 hx (hb hby at_7) rfl rfl ?_
  refine go_lloadN (pc' := 9) X1 hx (hb hby at_8) rfl rfl ?_
  refine go_ldc2 (pc' := 12) X1 hx hZ hown (hw _ (List.mem_of_getElem? (i := 1) rfl)) (hb hby at_9) rfl ?_
  refine go_land (pc' := 13) X1 hx (hb hby at_12) rfl ?_
  refine go_l2i (pc' := 14) X1 hx (hb hby at_13) rfl ?_
  refine go_iconst (pc' := 15) (v := 1) X1 hx (hb hby at_14) rfl rfl ?_
  refine go_iadd (pc' := 16) X1 hx (hb hby at_15) rfl ?_
  refine go_iastore (pc' := 17) X1 hx hZ A_b1 g_b1 (by decide) (by decide) (hb hby at_16) rfl (fun T2 h2 X2 W2 A_b1 => ?_)
  have zs := Nat.le_trans zs (Nat.le_of_eq W2.size.symm)
  refine go_aload (pc' := 19) X2 hx (hb hby at_17) rfl rfl ?_
  refine go_iconst (pc' := 20) (v := 1) X2 hx (hb hby at_19) rfl rfl ?_
  refine go_lloadN (pc' := 21) X2 hx (hb hby at_20) rfl rfl ?_
  refine go_bipush (pc' := 23) (v := 15) X2 hx (hb hby at_21) rfl rfl ?_
  refine go_lushr (pc' := 24) X2 hx (hb hby at_23) rfl ?_
  refine go_ldc2 (pc' := 27) X2 hx hZ hown (hw _ (List.mem_of_getElem? (i := 1) rfl)) (hb hby at_24) rfl ?_
  refine go_land (pc' := 28) X2 hx (hb hby at_27) rfl ?_
  refine go_l2i (pc' := 29) X2 hx (hb hby at_28) rfl ?_
  refine go_iconst (pc' := 30) (v := 1) X2 hx (hb hby at_29) rfl rfl ?_
  refine go_iadd (pc' := 31) X2 hx (hb hby at_30) rfl ?_
  refine go_iastore (pc' := 32) X2 hx hZ A_b1 g_b1 (by decide) (by decide) (hb hby at_31) rfl (fun T3 h3 X3 W3 A_b1 => ?_)
  have zs := Nat.le_trans zs (Nat.le_of_eq W3.size.symm)
  refine go_aload (pc' := 34) X3 hx (hb hby at_32) rfl rfl ?_
  refine go_iconst (pc' := 35) (v := 2) X3 hx (hb hby at_34) rfl rfl ?_
  refine go_lloadN (pc' := 36) X3 hx (hb hby at_35) rfl rfl ?_
  refine go_bipush (pc' := 38) (v := 30) X3 hx (hb hby at_36) rfl rfl ?_
  refine go_lushr (pc' := 39) X3 hx (hb hby at_38) rfl ?_
  refine go_ldc2 (pc' := 42) X3 hx hZ hown (hw _ (List.mem_of_getElem? (i := 1) rfl)) (hb hby at_39) rfl ?_
  refine go_land (pc' := 43) X3 hx (hb hby at_42) rfl ?_
  refine go_l2i (pc' := 44) X3 hx (hb hby at_43) rfl ?_
  refine go_iconst (pc' := 45) (v := 1) X3 hx (hb hby at_44) rfl rfl ?_
  refine go_iadd (pc' := 46) X3 hx (hb hby at_45) rfl ?_
  refine go_iastore (pc' := 47) X3 hx hZ A_b1 g_b1 (by decide) (by decide) (hb hby at_46) rfl (fun T4 h4 X4 W4 A_b1 => ?_)
  have zs := Nat.le_trans zs (Nat.le_of_eq W4.size.symm)
  refine go_aload (pc' := 49) X4 hx (hb hby at_47) rfl rfl ?_
  refine go_iconst (pc' := 50) (v := 3) X4 hx (hb hby at_49) rfl rfl ?_
  refine go_lloadN (pc' := 51) X4 hx (hb hby at_50) rfl rfl ?_
  refine go_bipush (pc' := 53) (v := 45) X4 hx (hb hby at_51) rfl rfl ?_
  refine go_lushr (pc' := 54) X4 hx (hb hby at_53) rfl ?_
  refine go_ldc2 (pc' := 57) X4 hx hZ hown (hw _ (List.mem_of_getElem? (i := 1) rfl)) (hb hby at_54) rfl ?_
  refine go_land (pc' := 58) X4 hx (hb hby at_57) rfl ?_
  refine go_l2i (pc' := 59) X4 hx (hb hby at_58) rfl ?_
  refine go_iconst (pc' := 60) (v := 1) X4 hx (hb hby at_59) rfl rfl ?_
  refine go_iadd (pc' := 61) X4 hx (hb hby at_60) rfl ?_
  refine go_iastore (pc' := 62) X4 hx hZ A_b1 g_b1 (by decide) (by decide) (hb hby at_61) rfl (fun T5 h5 X5 W5 A_b1 => ?_)
  have zs := Nat.le_trans zs (Nat.le_of_eq W5.size.symm)
  obtain ⟨kf, hkf⟩ : ∃ kf : Int → Int32, AIK Z h5 b1 .int 4 kf := ⟨_, A_b1⟩
  replace A_b1 := hkf
  refine go_iloadN (pc' := 63) X5 hx (hb hby at_62) rfl rfl ?_
  refine go_bipush (pc' := 65) (v := 8) X5 hx (hb hby at_63) rfl rfl ?_
  refine go_iushr (pc' := 66) X5 hx (hb hby at_65) rfl ?_
  refine go_sipush (pc' := 69) (v := 255) X5 hx (hb hby at_66) rfl rfl ?_
  refine go_iand (pc' := 70) X5 hx (hb hby at_69) rfl ?_
  refine go_iconst (pc' := 71) (v := 5) X5 hx (hb hby at_70) rfl rfl ?_
  refine go_irem (pc' := 72) X5 hx (hb hby at_71) rfl (by decide) ?_
  refine go_nameI (fun v5_72 hv5_72 => ?_)
  refine go_istore (pc' := 74) (L' := #[.val (.int p0), .val (.int p1), .val (.long q2), .second, .val (.ref b1), .val (.int v5_72), .unset, .unset, .unset, .unset, .unset, .unset, .unset, .unset, .unset, .unset]) X5 hx (hb hby at_72) rfl rfl ?_
  obtain ⟨hm1, hm2⟩ := own_m5 hv5_72
  refine go_iload (pc' := 76) X5 hx (hb hby at_74) rfl rfl ?_
  refine go_newI (pc' := 78) (cap := 4) (n := v5_72.toInt) (cells' := 2) (slots' := 8) X5 hx hZ (hw _ (List.mem_of_getElem? (i := 0) rfl)) (hb hby at_76) rfl rfl hm1 (by omega) (by decide) (by decide) (by decide) rfl rfl (fun T6 h6 b6 eb6 X6 E6 A_b6 => ?_)
  have g_b6 : n0 ≤ b6 := by rw [eb6]; exact zs
  have ne_b1_b6 : b1 ≠ b6 := by rw [eb6]; exact Nat.ne_of_lt (A_b1.lt)
  have ne_b6_b1 := ne_b1_b6.symm
  have A_b1 := A_b1.ext E6
  have zs := Nat.le_trans zs E6.1
  refine go_astore (pc' := 80) (L' := #[.val (.int p0), .val (.int p1), .val (.long q2), .second, .val (.ref b1), .val (.int v5_72), .val (.ref b6), .unset, .unset, .unset, .unset, .unset, .unset, .unset, .unset, .unset]) X6 hx (hb hby at_78) rfl rfl ?_
  suffices JH138 : ∀ (T7 : State) (h7 : Heap) (sf : Int → Int32) , OnK p l e room_1 s m #[.int p0, .int p1, .long q2] below meth c n0 T7 h7 2 8 → n0 ≤ h7.size → AIK Z h7 b1 .int (4) kf → AIK Z h7 b6 .int (v5_72.toInt) sf → GoK p e below (DoneK s below n0 room_1.cells room_1.slots (QI (fun z _ => z = 1))) T7 (mkF m 138 #[.val (.int p0), .val (.int p1), .val (.long q2), .second, .val (.ref b1), .val (.int v5_72), .val (.ref b6), .unset, .unset, .unset, .unset, .unset, .unset, .unset, .unset, .unset] []) by
    refine go_iload (pc' := 82) X6 hx (hb hby at_80) rfl rfl ?_
    refine go_ifle (pc' := 85) (pcT := 92) X6 hx (hb hby at_82) rfl (by decide) (by decide) (fun c82 => ?_) (fun c82 => ?_)
    · refine go_iload (pc' := 94) X6 hx (hb hby at_92) rfl rfl ?_
      refine go_iconst (pc' := 95) (v := 1) X6 hx (hb hby at_94) rfl rfl ?_
      refine go_icmple (pc' := 98) (pcT := 107) X6 hx (hb hby at_95) rfl (by decide) (by decide) (fun c95_t => ?_) (fun c95_t => ?_)
      · refine go_iload (pc' := 109) X6 hx (hb hby at_107) rfl rfl ?_
        refine go_iconst (pc' := 110) (v := 2) X6 hx (hb hby at_109) rfl rfl ?_
        refine go_icmple (pc' := 113) (pcT := 122) X6 hx (hb hby at_110) rfl (by decide) (by decide) (fun c110_tt => ?_) (fun c110_tt => ?_)
        · refine go_iload (pc' := 124) X6 hx (hb hby at_122) rfl rfl ?_
          refine go_iconst (pc' := 125) (v := 3) X6 hx (hb hby at_124) rfl rfl ?_
          refine go_icmple (pc' := 128) (pcT := 138) X6 hx (hb hby at_125) rfl (by decide) (by decide) (fun c125_ttt => ?_) (fun c125_ttt => ?_)
          · refine JH138 T6 h6 _  X6 zs A_b1 A_b6
          · refine go_aload (pc' := 130) X6 hx (hb hby at_128) rfl rfl ?_
            refine go_iconst (pc' := 131) (v := 3) X6 hx (hb hby at_130) rfl rfl ?_
            refine go_iloadN (pc' := 132) X6 hx (hb hby at_131) rfl rfl ?_
            refine go_bipush (pc' := 134) (v := 6) X6 hx (hb hby at_132) rfl rfl ?_
            refine go_iushr (pc' := 135) X6 hx (hb hby at_134) rfl ?_
            refine go_iconst (pc' := 136) (v := 3) X6 hx (hb hby at_135) rfl rfl ?_
            refine go_iand (pc' := 137) X6 hx (hb hby at_136) rfl ?_
            refine go_iastore (pc' := 138) X6 hx hZ A_b6 g_b6 (by decide) (by have := own_ltI c125_ttt; have k0 := own_k0; have k1 := own_k1; have k2 := own_k2; have k3 := own_k3; omega) (hb hby at_137) rfl (fun T8 h8 X8 W8 A_b6 => ?_)
            have A_b1 := A_b1.other W8 ne_b1_b6
            have zs := Nat.le_trans zs (Nat.le_of_eq W8.size.symm)
            refine JH138 T8 h8 _  X8 zs A_b1 A_b6
        · refine go_aload (pc' := 115) X6 hx (hb hby at_113) rfl rfl ?_
          refine go_iconst (pc' := 116) (v := 2) X6 hx (hb hby at_115) rfl rfl ?_
          refine go_iloadN (pc' := 117) X6 hx (hb hby at_116) rfl rfl ?_
          refine go_iconst (pc' := 118) (v := 4) X6 hx (hb hby at_117) rfl rfl ?_
          refine go_iushr (pc' := 119) X6 hx (hb hby at_118) rfl ?_
          refine go_iconst (pc' := 120) (v := 3) X6 hx (hb hby at_119) rfl rfl ?_
          refine go_iand (pc' := 121) X6 hx (hb hby at_120) rfl ?_
          refine go_iastore (pc' := 122) X6 hx hZ A_b6 g_b6 (by decide) (by have := own_ltI c110_tt; have k0 := own_k0; have k1 := own_k1; have k2 := own_k2; have k3 := own_k3; omega) (hb hby at_121) rfl (fun T9 h9 X9 W9 A_b6 => ?_)
          have A_b1 := A_b1.other W9 ne_b1_b6
          have zs := Nat.le_trans zs (Nat.le_of_eq W9.size.symm)
          refine go_iload (pc' := 124) X9 hx (hb hby at_122) rfl rfl ?_
          refine go_iconst (pc' := 125) (v := 3) X9 hx (hb hby at_124) rfl rfl ?_
          refine go_icmple (pc' := 128) (pcT := 138) X9 hx (hb hby at_125) rfl (by decide) (by decide) (fun c125_ttf => ?_) (fun c125_ttf => ?_)
          · refine JH138 T9 h9 _  X9 zs A_b1 A_b6
          · refine go_aload (pc' := 130) X9 hx (hb hby at_128) rfl rfl ?_
            refine go_iconst (pc' := 131) (v := 3) X9 hx (hb hby at_130) rfl rfl ?_
            refine go_iloadN (pc' := 132) X9 hx (hb hby at_131) rfl rfl ?_
            refine go_bipush (pc' := 134) (v := 6) X9 hx (hb hby at_132) rfl rfl ?_
            refine go_iushr (pc' := 135) X9 hx (hb hby at_134) rfl ?_
            refine go_iconst (pc' := 136) (v := 3) X9 hx (hb hby at_135) rfl rfl ?_
            refine go_iand (pc' := 137) X9 hx (hb hby at_136) rfl ?_
            refine go_iastore (pc' := 138) X9 hx hZ A_b6 g_b6 (by decide) (by have := own_ltI c125_ttf; have k0 := own_k0; have k1 := own_k1; have k2 := own_k2; have k3 := own_k3; omega) (hb hby at_137) rfl (fun T10 h10 X10 W10 A_b6 => ?_)
            have A_b1 := A_b1.other W10 ne_b1_b6
            have zs := Nat.le_trans zs (Nat.le_of_eq W10.size.symm)
            refine JH138 T10 h10 _  X10 zs A_b1 A_b6
      · refine go_aload (pc' := 100) X6 hx (hb hby at_98) rfl rfl ?_
        refine go_iconst (pc' := 101) (v := 1) X6 hx (hb hby at_100) rfl rfl ?_
        refine go_iloadN (pc' := 102) X6 hx (hb hby at_101) rfl rfl ?_
        refine go_iconst (pc' := 103) (v := 2) X6 hx (hb hby at_102) rfl rfl ?_
        refine go_iushr (pc' := 104) X6 hx (hb hby at_103) rfl ?_
        refine go_iconst (pc' := 105) (v := 3) X6 hx (hb hby at_104) rfl rfl ?_
        refine go_iand (pc' := 106) X6 hx (hb hby at_105) rfl ?_
        refine go_iastore (pc' := 107) X6 hx hZ A_b6 g_b6 (by decide) (by have := own_ltI c95_t; have k0 := own_k0; have k1 := own_k1; have k2 := own_k2; have k3 := own_k3; omega) (hb hby at_106) rfl (fun T11 h11 X11 W11 A_b6 => ?_)
        have A_b1 := A_b1.other W11 ne_b1_b6
        have zs := Nat.le_trans zs (Nat.le_of_eq W11.size.symm)
        refine go_iload (pc' := 109) X11 hx (hb hby at_107) rfl rfl ?_
        refine go_iconst (pc' := 110) (v := 2) X11 hx (hb hby at_109) rfl rfl ?_
        refine go_icmple (pc' := 113) (pcT := 122) X11 hx (hb hby at_110) rfl (by decide) (by decide) (fun c110_tf => ?_) (fun c110_tf => ?_)
        · refine go_iload (pc' := 124) X11 hx (hb hby at_122) rfl rfl ?_
          refine go_iconst (pc' := 125) (v := 3) X11 hx (hb hby at_124) rfl rfl ?_
          refine go_icmple (pc' := 128) (pcT := 138) X11 hx (hb hby at_125) rfl (by decide) (by decide) (fun c125_tft => ?_) (fun c125_tft => ?_)
          · refine JH138 T11 h11 _  X11 zs A_b1 A_b6
          · refine go_aload (pc' := 130) X11 hx (hb hby at_128) rfl rfl ?_
            refine go_iconst (pc' := 131) (v := 3) X11 hx (hb hby at_130) rfl rfl ?_
            refine go_iloadN (pc' := 132) X11 hx (hb hby at_131) rfl rfl ?_
            refine go_bipush (pc' := 134) (v := 6) X11 hx (hb hby at_132) rfl rfl ?_
            refine go_iushr (pc' := 135) X11 hx (hb hby at_134) rfl ?_
            refine go_iconst (pc' := 136) (v := 3) X11 hx (hb hby at_135) rfl rfl ?_
            refine go_iand (pc' := 137) X11 hx (hb hby at_136) rfl ?_
            refine go_iastore (pc' := 138) X11 hx hZ A_b6 g_b6 (by decide) (by have := own_ltI c125_tft; have k0 := own_k0; have k1 := own_k1; have k2 := own_k2; have k3 := own_k3; omega) (hb hby at_137) rfl (fun T12 h12 X12 W12 A_b6 => ?_)
            have A_b1 := A_b1.other W12 ne_b1_b6
            have zs := Nat.le_trans zs (Nat.le_of_eq W12.size.symm)
            refine JH138 T12 h12 _  X12 zs A_b1 A_b6
        · refine go_aload (pc' := 115) X11 hx (hb hby at_113) rfl rfl ?_
          refine go_iconst (pc' := 116) (v := 2) X11 hx (hb hby at_115) rfl rfl ?_
          refine go_iloadN (pc' := 117) X11 hx (hb hby at_116) rfl rfl ?_
          refine go_iconst (pc' := 118) (v := 4) X11 hx (hb hby at_117) rfl rfl ?_
          refine go_iushr (pc' := 119) X11 hx (hb hby at_118) rfl ?_
          refine go_iconst (pc' := 120) (v := 3) X11 hx (hb hby at_119) rfl rfl ?_
          refine go_iand (pc' := 121) X11 hx (hb hby at_120) rfl ?_
          refine go_iastore (pc' := 122) X11 hx hZ A_b6 g_b6 (by decide) (by have := own_ltI c110_tf; have k0 := own_k0; have k1 := own_k1; have k2 := own_k2; have k3 := own_k3; omega) (hb hby at_121) rfl (fun T13 h13 X13 W13 A_b6 => ?_)
          have A_b1 := A_b1.other W13 ne_b1_b6
          have zs := Nat.le_trans zs (Nat.le_of_eq W13.size.symm)
          refine go_iload (pc' := 124) X13 hx (hb hby at_122) rfl rfl ?_
          refine go_iconst (pc' := 125) (v := 3) X13 hx (hb hby at_124) rfl rfl ?_
          refine go_icmple (pc' := 128) (pcT := 138) X13 hx (hb hby at_125) rfl (by decide) (by decide) (fun c125_tff => ?_) (fun c125_tff => ?_)
          · refine JH138 T13 h13 _  X13 zs A_b1 A_b6
          · refine go_aload (pc' := 130) X13 hx (hb hby at_128) rfl rfl ?_
            refine go_iconst (pc' := 131) (v := 3) X13 hx (hb hby at_130) rfl rfl ?_
            refine go_iloadN (pc' := 132) X13 hx (hb hby at_131) rfl rfl ?_
            refine go_bipush (pc' := 134) (v := 6) X13 hx (hb hby at_132) rfl rfl ?_
            refine go_iushr (pc' := 135) X13 hx (hb hby at_134) rfl ?_
            refine go_iconst (pc' := 136) (v := 3) X13 hx (hb hby at_135) rfl rfl ?_
            refine go_iand (pc' := 137) X13 hx (hb hby at_136) rfl ?_
            refine go_iastore (pc' := 138) X13 hx hZ A_b6 g_b6 (by decide) (by have := own_ltI c125_tff; have k0 := own_k0; have k1 := own_k1; have k2 := own_k2; have k3 := own_k3; omega) (hb hby at_137) rfl (fun T14 h14 X14 W14 A_b6 => ?_)
            have A_b1 := A_b1.other W14 ne_b1_b6
            have zs := Nat.le_trans zs (Nat.le_of_eq W14.size.symm)
            refine JH138 T14 h14 _  X14 zs A_b1 A_b6
    · refine go_aload (pc' := 87) X6 hx (hb hby at_85) rfl rfl ?_
      refine go_iconst (pc' := 88) (v := 0) X6 hx (hb hby at_87) rfl rfl ?_
      refine go_iloadN (pc' := 89) X6 hx (hb hby at_88) rfl rfl ?_
      refine go_iconst (pc' := 90) (v := 3) X6 hx (hb hby at_89) rfl rfl ?_
      refine go_iand (pc' := 91) X6 hx (hb hby at_90) rfl ?_
      refine go_iastore (pc' := 92) X6 hx hZ A_b6 g_b6 (by decide) (by have := own_ltI c82; have k0 := own_k0; have k1 := own_k1; have k2 := own_k2; have k3 := own_k3; omega) (hb hby at_91) rfl (fun T15 h15 X15 W15 A_b6 => ?_)
      have A_b1 := A_b1.other W15 ne_b1_b6
      have zs := Nat.le_trans zs (Nat.le_of_eq W15.size.symm)
      refine go_iload (pc' := 94) X15 hx (hb hby at_92) rfl rfl ?_
      refine go_iconst (pc' := 95) (v := 1) X15 hx (hb hby at_94) rfl rfl ?_
      refine go_icmple (pc' := 98) (pcT := 107) X15 hx (hb hby at_95) rfl (by decide) (by decide) (fun c95_f => ?_) (fun c95_f => ?_)
      · refine go_iload (pc' := 109) X15 hx (hb hby at_107) rfl rfl ?_
        refine go_iconst (pc' := 110) (v := 2) X15 hx (hb hby at_109) rfl rfl ?_
        refine go_icmple (pc' := 113) (pcT := 122) X15 hx (hb hby at_110) rfl (by decide) (by decide) (fun c110_ft => ?_) (fun c110_ft => ?_)
        · refine go_iload (pc' := 124) X15 hx (hb hby at_122) rfl rfl ?_
          refine go_iconst (pc' := 125) (v := 3) X15 hx (hb hby at_124) rfl rfl ?_
          refine go_icmple (pc' := 128) (pcT := 138) X15 hx (hb hby at_125) rfl (by decide) (by decide) (fun c125_ftt => ?_) (fun c125_ftt => ?_)
          · refine JH138 T15 h15 _  X15 zs A_b1 A_b6
          · refine go_aload (pc' := 130) X15 hx (hb hby at_128) rfl rfl ?_
            refine go_iconst (pc' := 131) (v := 3) X15 hx (hb hby at_130) rfl rfl ?_
            refine go_iloadN (pc' := 132) X15 hx (hb hby at_131) rfl rfl ?_
            refine go_bipush (pc' := 134) (v := 6) X15 hx (hb hby at_132) rfl rfl ?_
            refine go_iushr (pc' := 135) X15 hx (hb hby at_134) rfl ?_
            refine go_iconst (pc' := 136) (v := 3) X15 hx (hb hby at_135) rfl rfl ?_
            refine go_iand (pc' := 137) X15 hx (hb hby at_136) rfl ?_
            refine go_iastore (pc' := 138) X15 hx hZ A_b6 g_b6 (by decide) (by have := own_ltI c125_ftt; have k0 := own_k0; have k1 := own_k1; have k2 := own_k2; have k3 := own_k3; omega) (hb hby at_137) rfl (fun T16 h16 X16 W16 A_b6 => ?_)
            have A_b1 := A_b1.other W16 ne_b1_b6
            have zs := Nat.le_trans zs (Nat.le_of_eq W16.size.symm)
            refine JH138 T16 h16 _  X16 zs A_b1 A_b6
        · refine go_aload (pc' := 115) X15 hx (hb hby at_113) rfl rfl ?_
          refine go_iconst (pc' := 116) (v := 2) X15 hx (hb hby at_115) rfl rfl ?_
          refine go_iloadN (pc' := 117) X15 hx (hb hby at_116) rfl rfl ?_
          refine go_iconst (pc' := 118) (v := 4) X15 hx (hb hby at_117) rfl rfl ?_
          refine go_iushr (pc' := 119) X15 hx (hb hby at_118) rfl ?_
          refine go_iconst (pc' := 120) (v := 3) X15 hx (hb hby at_119) rfl rfl ?_
          refine go_iand (pc' := 121) X15 hx (hb hby at_120) rfl ?_
          refine go_iastore (pc' := 122) X15 hx hZ A_b6 g_b6 (by decide) (by have := own_ltI c110_ft; have k0 := own_k0; have k1 := own_k1; have k2 := own_k2; have k3 := own_k3; omega) (hb hby at_121) rfl (fun T17 h17 X17 W17 A_b6 => ?_)
          have A_b1 := A_b1.other W17 ne_b1_b6
          have zs := Nat.le_trans zs (Nat.le_of_eq W17.size.symm)
          refine go_iload (pc' := 124) X17 hx (hb hby at_122) rfl rfl ?_
          refine go_iconst (pc' := 125) (v := 3) X17 hx (hb hby at_124) rfl rfl ?_
          refine go_icmple (pc' := 128) (pcT := 138) X17 hx (hb hby at_125) rfl (by decide) (by decide) (fun c125_ftf => ?_) (fun c125_ftf => ?_)
          · refine JH138 T17 h17 _  X17 zs A_b1 A_b6
          · refine go_aload (pc' := 130) X17 hx (hb hby at_128) rfl rfl ?_
            refine go_iconst (pc' := 131) (v := 3) X17 hx (hb hby at_130) rfl rfl ?_
            refine go_iloadN (pc' := 132) X17 hx (hb hby at_131) rfl rfl ?_
            refine go_bipush (pc' := 134) (v := 6) X17 hx (hb hby at_132) rfl rfl ?_
            refine go_iushr (pc' := 135) X17 hx (hb hby at_134) rfl ?_
            refine go_iconst (pc' := 136) (v := 3) X17 hx (hb hby at_135) rfl rfl ?_
            refine go_iand (pc' := 137) X17 hx (hb hby at_136) rfl ?_
            refine go_iastore (pc' := 138) X17 hx hZ A_b6 g_b6 (by decide) (by have := own_ltI c125_ftf; have k0 := own_k0; have k1 := own_k1; have k2 := own_k2; have k3 := own_k3; omega) (hb hby at_137) rfl (fun T18 h18 X18 W18 A_b6 => ?_)
            have A_b1 := A_b1.other W18 ne_b1_b6
            have zs := Nat.le_trans zs (Nat.le_of_eq W18.size.symm)
            refine JH138 T18 h18 _  X18 zs A_b1 A_b6
      · refine go_aload (pc' := 100) X15 hx (hb hby at_98) rfl rfl ?_
        refine go_iconst (pc' := 101) (v := 1) X15 hx (hb hby at_100) rfl rfl ?_
        refine go_iloadN (pc' := 102) X15 hx (hb hby at_101) rfl rfl ?_
        refine go_iconst (pc' := 103) (v := 2) X15 hx (hb hby at_102) rfl rfl ?_
        refine go_iushr (pc' := 104) X15 hx (hb hby at_103) rfl ?_
        refine go_iconst (pc' := 105) (v := 3) X15 hx (hb hby at_104) rfl rfl ?_
        refine go_iand (pc' := 106) X15 hx (hb hby at_105) rfl ?_
        refine go_iastore (pc' := 107) X15 hx hZ A_b6 g_b6 (by decide) (by have := own_ltI c95_f; have k0 := own_k0; have k1 := own_k1; have k2 := own_k2; have k3 := own_k3; omega) (hb hby at_106) rfl (fun T19 h19 X19 W19 A_b6 => ?_)
        have A_b1 := A_b1.other W19 ne_b1_b6
        have zs := Nat.le_trans zs (Nat.le_of_eq W19.size.symm)
        refine go_iload (pc' := 109) X19 hx (hb hby at_107) rfl rfl ?_
        refine go_iconst (pc' := 110) (v := 2) X19 hx (hb hby at_109) rfl rfl ?_
        refine go_icmple (pc' := 113) (pcT := 122) X19 hx (hb hby at_110) rfl (by decide) (by decide) (fun c110_ff => ?_) (fun c110_ff => ?_)
        · refine go_iload (pc' := 124) X19 hx (hb hby at_122) rfl rfl ?_
          refine go_iconst (pc' := 125) (v := 3) X19 hx (hb hby at_124) rfl rfl ?_
          refine go_icmple (pc' := 128) (pcT := 138) X19 hx (hb hby at_125) rfl (by decide) (by decide) (fun c125_fft => ?_) (fun c125_fft => ?_)
          · refine JH138 T19 h19 _  X19 zs A_b1 A_b6
          · refine go_aload (pc' := 130) X19 hx (hb hby at_128) rfl rfl ?_
            refine go_iconst (pc' := 131) (v := 3) X19 hx (hb hby at_130) rfl rfl ?_
            refine go_iloadN (pc' := 132) X19 hx (hb hby at_131) rfl rfl ?_
            refine go_bipush (pc' := 134) (v := 6) X19 hx (hb hby at_132) rfl rfl ?_
            refine go_iushr (pc' := 135) X19 hx (hb hby at_134) rfl ?_
            refine go_iconst (pc' := 136) (v := 3) X19 hx (hb hby at_135) rfl rfl ?_
            refine go_iand (pc' := 137) X19 hx (hb hby at_136) rfl ?_
            refine go_iastore (pc' := 138) X19 hx hZ A_b6 g_b6 (by decide) (by have := own_ltI c125_fft; have k0 := own_k0; have k1 := own_k1; have k2 := own_k2; have k3 := own_k3; omega) (hb hby at_137) rfl (fun T20 h20 X20 W20 A_b6 => ?_)
            have A_b1 := A_b1.other W20 ne_b1_b6
            have zs := Nat.le_trans zs (Nat.le_of_eq W20.size.symm)
            refine JH138 T20 h20 _  X20 zs A_b1 A_b6
        · refine go_aload (pc' := 115) X19 hx (hb hby at_113) rfl rfl ?_
          refine go_iconst (pc' := 116) (v := 2) X19 hx (hb hby at_115) rfl rfl ?_
          refine go_iloadN (pc' := 117) X19 hx (hb hby at_116) rfl rfl ?_
          refine go_iconst (pc' := 118) (v := 4) X19 hx (hb hby at_117) rfl rfl ?_
          refine go_iushr (pc' := 119) X19 hx (hb hby at_118) rfl ?_
          refine go_iconst (pc' := 120) (v := 3) X19 hx (hb hby at_119) rfl rfl ?_
          refine go_iand (pc' := 121) X19 hx (hb hby at_120) rfl ?_
          refine go_iastore (pc' := 122) X19 hx hZ A_b6 g_b6 (by decide) (by have := own_ltI c110_ff; have k0 := own_k0; have k1 := own_k1; have k2 := own_k2; have k3 := own_k3; omega) (hb hby at_121) rfl (fun T21 h21 X21 W21 A_b6 => ?_)
          have A_b1 := A_b1.other W21 ne_b1_b6
          have zs := Nat.le_trans zs (Nat.le_of_eq W21.size.symm)
          refine go_iload (pc' := 124) X21 hx (hb hby at_122) rfl rfl ?_
          refine go_iconst (pc' := 125) (v := 3) X21 hx (hb hby at_124) rfl rfl ?_
          refine go_icmple (pc' := 128) (pcT := 138) X21 hx (hb hby at_125) rfl (by decide) (by decide) (fun c125_fff => ?_) (fun c125_fff => ?_)
          · refine JH138 T21 h21 _  X21 zs A_b1 A_b6
          · refine go_aload (pc' := 130) X21 hx (hb hby at_128) rfl rfl ?_
            refine go_iconst (pc' := 131) (v := 3) X21 hx (hb hby at_130) rfl rfl ?_
            refine go_iloadN (pc' := 132) X21 hx (hb hby at_131) rfl rfl ?_
            refine go_bipush (pc' := 134) (v := 6) X21 hx (hb hby at_132) rfl rfl ?_
            refine go_iushr (pc' := 135) X21 hx (hb hby at_134) rfl ?_
            refine go_iconst (pc' := 136) (v := 3) X21 hx (hb hby at_135) rfl rfl ?_
            refine go_iand (pc' := 137) X21 hx (hb hby at_136) rfl ?_
            refine go_iastore (pc' := 138) X21 hx hZ A_b6 g_b6 (by decide) (by have := own_ltI c125_fff; have k0 := own_k0; have k1 := own_k1; have k2 := own_k2; have k3 := own_k3; omega) (hb hby at_137) rfl (fun T22 h22 X22 W22 A_b6 => ?_)
            have A_b1 := A_b1.other W22 ne_b1_b6
            have zs := Nat.le_trans zs (Nat.le_of_eq W22.size.symm)
            refine JH138 T22 h22 _  X22 zs A_b1 A_b6
  intro T7 h7 sf X7 zs A_b1 A_b6
  refine go_iloadN (pc' := 139) X7 hx (hb hby at_138) rfl rfl ?_
  refine go_iconst (pc' := 140) (v := 3) X7 hx (hb hby at_139) rfl rfl ?_
  refine go_iand (pc' := 141) X7 hx (hb hby at_140) rfl ?_
  refine go_nameI (fun v7_141 hv7_141 => ?_)
  refine go_istore (pc' := 143) (L' := #[.val (.int p0), .val (.int p1), .val (.long q2), .second, .val (.ref b1), .val (.int v5_72), .val (.ref b6), .val (.int v7_141), .unset, .unset, .unset, .unset, .unset, .unset, .unset, .unset]) X7 hx (hb hby at_141) rfl rfl ?_
  refine go_iloadN (pc' := 144) X7 hx (hb hby at_143) rfl rfl ?_
  refine go_iconst (pc' := 145) (v := 2) X7 hx (hb hby at_144) rfl rfl ?_
  refine go_iushr (pc' := 146) X7 hx (hb hby at_145) rfl ?_
  refine go_iconst (pc' := 147) (v := 3) X7 hx (hb hby at_146) rfl rfl ?_
  refine go_iand (pc' := 148) X7 hx (hb hby at_147) rfl ?_
  refine go_nameI (fun v8_148 hv8_148 => ?_)
  refine go_istore (pc' := 150) (L' := #[.val (.int p0), .val (.int p1), .val (.long q2), .second, .val (.ref b1), .val (.int v5_72), .val (.ref b6), .val (.int v7_141), .val (.int v8_148), .unset, .unset, .unset, .unset, .unset, .unset, .unset]) X7 hx (hb hby at_148) rfl rfl ?_
  refine go_iloadN (pc' := 151) X7 hx (hb hby at_150) rfl rfl ?_
  refine go_iconst (pc' := 152) (v := 4) X7 hx (hb hby at_151) rfl rfl ?_
  refine go_iushr (pc' := 153) X7 hx (hb hby at_152) rfl ?_
  refine go_sipush (pc' := 156) (v := 255) X7 hx (hb hby at_153) rfl rfl ?_
  refine go_iand (pc' := 157) X7 hx (hb hby at_156) rfl ?_
  refine go_iconst (pc' := 158) (v := 3) X7 hx (hb hby at_157) rfl rfl ?_
  refine go_irem (pc' := 159) X7 hx (hb hby at_158) rfl (by decide) ?_
  refine go_nameI (fun v9_159 hv9_159 => ?_)
  refine go_istore (pc' := 161) (L' := #[.val (.int p0), .val (.int p1), .val (.long q2), .second, .val (.ref b1), .val (.int v5_72), .val (.ref b6), .val (.int v7_141), .val (.int v8_148), .val (.int v9_159), .unset, .unset, .unset, .unset, .unset, .unset]) X7 hx (hb hby at_159) rfl rfl ?_
  refine go_iload (pc' := 163) X7 hx (hb hby at_161) rfl rfl ?_
  refine go_iconst (pc' := 164) (v := 1) X7 hx (hb hby at_163) rfl rfl ?_
  refine go_iadd (pc' := 165) X7 hx (hb hby at_164) rfl ?_
  refine go_iloadN (pc' := 166) X7 hx (hb hby at_165) rfl rfl ?_
  refine go_bipush (pc' := 168) (v := 12) X7 hx (hb hby at_166) rfl rfl ?_
  refine go_iushr (pc' := 169) X7 hx (hb hby at_168) rfl ?_
  refine go_iconst (pc' := 170) (v := 1) X7 hx (hb hby at_169) rfl rfl ?_
  refine go_iand (pc' := 171) X7 hx (hb hby at_170) rfl ?_
  refine go_iadd (pc' := 172) X7 hx (hb hby at_171) rfl ?_
  refine go_iconst (pc' := 173) (v := 3) X7 hx (hb hby at_172) rfl rfl ?_
  refine go_irem (pc' := 174) X7 hx (hb hby at_173) rfl (by decide) ?_
  refine go_nameI (fun v10_174 hv10_174 => ?_)
  refine go_istore (pc' := 176) (L' := #[.val (.int p0), .val (.int p1), .val (.long q2), .second, .val (.ref b1), .val (.int v5_72), .val (.ref b6), .val (.int v7_141), .val (.int v8_148), .val (.int v9_159), .val (.int v10_174), .unset, .unset, .unset, .unset, .unset]) X7 hx (hb hby at_174) rfl rfl ?_
  refine go_iload (pc' := 178) X7 hx (hb hby at_176) rfl rfl ?_
  refine go_iload (pc' := 180) X7 hx (hb hby at_178) rfl rfl ?_
  refine go_iconst (pc' := 181) (v := 1) X7 hx (hb hby at_180) rfl rfl ?_
  refine go_iadd (pc' := 182) X7 hx (hb hby at_181) rfl ?_
  refine go_ixor (pc' := 183) X7 hx (hb hby at_182) rfl ?_
  refine go_nameI (fun v11_183 hv11_183 => ?_)
  refine go_istore (pc' := 185) (L' := #[.val (.int p0), .val (.int p1), .val (.long q2), .second, .val (.ref b1), .val (.int v5_72), .val (.ref b6), .val (.int v7_141), .val (.int v8_148), .val (.int v9_159), .val (.int v10_174), .val (.int v11_183), .unset, .unset, .unset, .unset]) X7 hx (hb hby at_183) rfl rfl ?_
  refine go_iload (pc' := 187) X7 hx (hb hby at_185) rfl rfl ?_
  refine go_iload (pc' := 189) X7 hx (hb hby at_187) rfl rfl ?_
  refine go_iconst (pc' := 190) (v := 1) X7 hx (hb hby at_189) rfl rfl ?_
  refine go_iadd (pc' := 191) X7 hx (hb hby at_190) rfl ?_
  refine go_ixor (pc' := 192) X7 hx (hb hby at_191) rfl ?_
  refine go_nameI (fun v12_192 hv12_192 => ?_)
  refine go_istore (pc' := 194) (L' := #[.val (.int p0), .val (.int p1), .val (.long q2), .second, .val (.ref b1), .val (.int v5_72), .val (.ref b6), .val (.int v7_141), .val (.int v8_148), .val (.int v9_159), .val (.int v10_174), .val (.int v11_183), .val (.int v12_192), .unset, .unset, .unset]) X7 hx (hb hby at_192) rfl rfl ?_
  obtain ⟨hn1, hn2⟩ := own_and3 p1
  rw [← hv7_141] at hn1 hn2
  obtain ⟨u01, u02⟩ := own_and3 ((p1.toUInt32 >>> ((2 : Int32) &&& 31).toUInt32).toInt32)
  rw [← hv8_148] at u01 u02
  obtain ⟨a1, a2⟩ := own_m3 hv9_159
  obtain ⟨b1', b2'⟩ := own_b hv10_174 a1 a2
  obtain ⟨u11, u12⟩ := own_xor hv11_183 u01 u02 a1 a2
  obtain ⟨u21, u22⟩ := own_xor hv12_192 u01 u02 b1' b2'
  have hgg : ∀ i : Int, 0 ≤ i → i < v7_141.toInt → 0 ≤ (own_a3 v8_148 v11_183 v12_192 i).toInt ∧ (own_a3 v8_148 v11_183 v12_192 i).toInt < 4 := by
    intro i _ _
    unfold own_a3
    split
    · exact ⟨u01, by omega⟩
    · split
      · exact ⟨u11, u12⟩
      · exact ⟨u21, u22⟩
  refine go_iload (pc' := 196) X7 hx (hb hby at_194) rfl rfl ?_
  refine go_newI (pc' := 198) (cap := 3) (n := v7_141.toInt) (cells' := 3) (slots' := 11) X7 hx hZ (hw _ (List.mem_of_getElem? (i := 0) rfl)) (hb hby at_196) rfl rfl hn1 (by omega) (by decide) (by decide) (by decide) rfl rfl (fun T23 h23 b23 eb23 X23 E23 A_b23 => ?_)
  have g_b23 : n0 ≤ b23 := by rw [eb23]; exact zs
  have ne_b1_b23 : b1 ≠ b23 := by rw [eb23]; exact Nat.ne_of_lt (A_b1.lt)
  have ne_b23_b1 := ne_b1_b23.symm
  have ne_b6_b23 : b6 ≠ b23 := by rw [eb23]; exact Nat.ne_of_lt (A_b6.lt)
  have ne_b23_b6 := ne_b6_b23.symm
  have A_b1 := A_b1.ext E23
  have A_b6 := A_b6.ext E23
  have zs := Nat.le_trans zs E23.1
  refine go_astore (pc' := 200) (L' := #[.val (.int p0), .val (.int p1), .val (.long q2), .second, .val (.ref b1), .val (.int v5_72), .val (.ref b6), .val (.int v7_141), .val (.int v8_148), .val (.int v9_159), .val (.int v10_174), .val (.int v11_183), .val (.int v12_192), .val (.ref b23), .unset, .unset]) X23 hx (hb hby at_198) rfl rfl ?_
  suffices JH235 : ∀ (T24 : State) (h24 : Heap) , OnK p l e room_1 s m #[.int p0, .int p1, .long q2] below meth c n0 T24 h24 3 11 → n0 ≤ h24.size → AIK Z h24 b1 .int (4) kf → AIK Z h24 b6 .int (v5_72.toInt) sf → AIK Z h24 b23 .int (v7_141.toInt) (own_a3 v8_148 v11_183 v12_192) → GoK p e below (DoneK s below n0 room_1.cells room_1.slots (QI (fun z _ => z = 1))) T24 (mkF m 235 #[.val (.int p0), .val (.int p1), .val (.long q2), .second, .val (.ref b1), .val (.int v5_72), .val (.ref b6), .val (.int v7_141), .val (.int v8_148), .val (.int v9_159), .val (.int v10_174), .val (.int v11_183), .val (.int v12_192), .val (.ref b23), .unset, .unset] []) by
    refine go_iload (pc' := 202) X23 hx (hb hby at_200) rfl rfl ?_
    refine go_ifle (pc' := 205) (pcT := 211) X23 hx (hb hby at_202) rfl (by decide) (by decide) (fun c202 => ?_) (fun c202 => ?_)
    · refine go_iload (pc' := 213) X23 hx (hb hby at_211) rfl rfl ?_
      refine go_iconst (pc' := 214) (v := 1) X23 hx (hb hby at_213) rfl rfl ?_
      refine go_icmple (pc' := 217) (pcT := 223) X23 hx (hb hby at_214) rfl (by decide) (by decide) (fun c214_t => ?_) (fun c214_t => ?_)
      · refine go_iload (pc' := 225) X23 hx (hb hby at_223) rfl rfl ?_
        refine go_iconst (pc' := 226) (v := 2) X23 hx (hb hby at_225) rfl rfl ?_
        refine go_icmple (pc' := 229) (pcT := 235) X23 hx (hb hby at_226) rfl (by decide) (by decide) (fun c226_tt => ?_) (fun c226_tt => ?_)
        · refine JH235 T23 h23  X23 zs A_b1 A_b6 ?_
          · refine AIK.congr A_b23 (fun i i1 i2 => ?_)
            have k0 := own_k0
            have k1 := own_k1
            have k2 := own_k2
            have qc202 := own_geI c202
            have qc214_t := own_geI c214_t
            have qc226_tt := own_geI c226_tt
            unfold own_a3
            try simp only [k0, k1, k2]
            repeat' split
            all_goals first | rfl | (exfalso; omega)
        · refine go_aload (pc' := 231) X23 hx (hb hby at_229) rfl rfl ?_
          refine go_iconst (pc' := 232) (v := 2) X23 hx (hb hby at_231) rfl rfl ?_
          refine go_iload (pc' := 234) X23 hx (hb hby at_232) rfl rfl ?_
          refine go_iastore (pc' := 235) X23 hx hZ A_b23 g_b23 (by decide) (by have := own_ltI c226_tt; have k0 := own_k0; have k1 := own_k1; have k2 := own_k2; have k3 := own_k3; omega) (hb hby at_234) rfl (fun T25 h25 X25 W25 A_b23 => ?_)
          have A_b1 := A_b1.other W25 ne_b1_b23
          have A_b6 := A_b6.other W25 ne_b6_b23
          have zs := Nat.le_trans zs (Nat.le_of_eq W25.size.symm)
          refine JH235 T25 h25  X25 zs A_b1 A_b6 ?_
          · refine AIK.congr A_b23 (fun i i1 i2 => ?_)
            have k0 := own_k0
            have k1 := own_k1
            have k2 := own_k2
            have qc202 := own_geI c202
            have qc214_t := own_geI c214_t
            have qc226_tt := own_ltI c226_tt
            unfold own_a3
            try simp only [k0, k1, k2]
            repeat' split
            all_goals first | rfl | (exfalso; omega)
      · refine go_aload (pc' := 219) X23 hx (hb hby at_217) rfl rfl ?_
        refine go_iconst (pc' := 220) (v := 1) X23 hx (hb hby at_219) rfl rfl ?_
        refine go_iload (pc' := 222) X23 hx (hb hby at_220) rfl rfl ?_
        refine go_iastore (pc' := 223) X23 hx hZ A_b23 g_b23 (by decide) (by have := own_ltI c214_t; have k0 := own_k0; have k1 := own_k1; have k2 := own_k2; have k3 := own_k3; omega) (hb hby at_222) rfl (fun T26 h26 X26 W26 A_b23 => ?_)
        have A_b1 := A_b1.other W26 ne_b1_b23
        have A_b6 := A_b6.other W26 ne_b6_b23
        have zs := Nat.le_trans zs (Nat.le_of_eq W26.size.symm)
        refine go_iload (pc' := 225) X26 hx (hb hby at_223) rfl rfl ?_
        refine go_iconst (pc' := 226) (v := 2) X26 hx (hb hby at_225) rfl rfl ?_
        refine go_icmple (pc' := 229) (pcT := 235) X26 hx (hb hby at_226) rfl (by decide) (by decide) (fun c226_tf => ?_) (fun c226_tf => ?_)
        · refine JH235 T26 h26  X26 zs A_b1 A_b6 ?_
          · refine AIK.congr A_b23 (fun i i1 i2 => ?_)
            have k0 := own_k0
            have k1 := own_k1
            have k2 := own_k2
            have qc202 := own_geI c202
            have qc214_t := own_ltI c214_t
            have qc226_tf := own_geI c226_tf
            unfold own_a3
            try simp only [k0, k1, k2]
            repeat' split
            all_goals first | rfl | (exfalso; omega)
        · refine go_aload (pc' := 231) X26 hx (hb hby at_229) rfl rfl ?_
          refine go_iconst (pc' := 232) (v := 2) X26 hx (hb hby at_231) rfl rfl ?_
          refine go_iload (pc' := 234) X26 hx (hb hby at_232) rfl rfl ?_
          refine go_iastore (pc' := 235) X26 hx hZ A_b23 g_b23 (by decide) (by have := own_ltI c226_tf; have k0 := own_k0; have k1 := own_k1; have k2 := own_k2; have k3 := own_k3; omega) (hb hby at_234) rfl (fun T27 h27 X27 W27 A_b23 => ?_)
          have A_b1 := A_b1.other W27 ne_b1_b23
          have A_b6 := A_b6.other W27 ne_b6_b23
          have zs := Nat.le_trans zs (Nat.le_of_eq W27.size.symm)
          refine JH235 T27 h27  X27 zs A_b1 A_b6 ?_
          · refine AIK.congr A_b23 (fun i i1 i2 => ?_)
            have k0 := own_k0
            have k1 := own_k1
            have k2 := own_k2
            have qc202 := own_geI c202
            have qc214_t := own_ltI c214_t
            have qc226_tf := own_ltI c226_tf
            unfold own_a3
            try simp only [k0, k1, k2]
            repeat' split
            all_goals first | rfl | (exfalso; omega)
    · refine go_aload (pc' := 207) X23 hx (hb hby at_205) rfl rfl ?_
      refine go_iconst (pc' := 208) (v := 0) X23 hx (hb hby at_207) rfl rfl ?_
      refine go_iload (pc' := 210) X23 hx (hb hby at_208) rfl rfl ?_
      refine go_iastore (pc' := 211) X23 hx hZ A_b23 g_b23 (by decide) (by have := own_ltI c202; have k0 := own_k0; have k1 := own_k1; have k2 := own_k2; have k3 := own_k3; omega) (hb hby at_210) rfl (fun T28 h28 X28 W28 A_b23 => ?_)
      have A_b1 := A_b1.other W28 ne_b1_b23
      have A_b6 := A_b6.other W28 ne_b6_b23
      have zs := Nat.le_trans zs (Nat.le_of_eq W28.size.symm)
      refine go_iload (pc' := 213) X28 hx (hb hby at_211) rfl rfl ?_
      refine go_iconst (pc' := 214) (v := 1) X28 hx (hb hby at_213) rfl rfl ?_
      refine go_icmple (pc' := 217) (pcT := 223) X28 hx (hb hby at_214) rfl (by decide) (by decide) (fun c214_f => ?_) (fun c214_f => ?_)
      · refine go_iload (pc' := 225) X28 hx (hb hby at_223) rfl rfl ?_
        refine go_iconst (pc' := 226) (v := 2) X28 hx (hb hby at_225) rfl rfl ?_
        refine go_icmple (pc' := 229) (pcT := 235) X28 hx (hb hby at_226) rfl (by decide) (by decide) (fun c226_ft => ?_) (fun c226_ft => ?_)
        · refine JH235 T28 h28  X28 zs A_b1 A_b6 ?_
          · refine AIK.congr A_b23 (fun i i1 i2 => ?_)
            have k0 := own_k0
            have k1 := own_k1
            have k2 := own_k2
            have qc202 := own_ltI c202
            have qc214_f := own_geI c214_f
            have qc226_ft := own_geI c226_ft
            unfold own_a3
            try simp only [k0, k1, k2]
            repeat' split
            all_goals first | rfl | (exfalso; omega)
        · refine go_aload (pc' := 231) X28 hx (hb hby at_229) rfl rfl ?_
          refine go_iconst (pc' := 232) (v := 2) X28 hx (hb hby at_231) rfl rfl ?_
          refine go_iload (pc' := 234) X28 hx (hb hby at_232) rfl rfl ?_
          refine go_iastore (pc' := 235) X28 hx hZ A_b23 g_b23 (by decide) (by have := own_ltI c226_ft; have k0 := own_k0; have k1 := own_k1; have k2 := own_k2; have k3 := own_k3; omega) (hb hby at_234) rfl (fun T29 h29 X29 W29 A_b23 => ?_)
          have A_b1 := A_b1.other W29 ne_b1_b23
          have A_b6 := A_b6.other W29 ne_b6_b23
          have zs := Nat.le_trans zs (Nat.le_of_eq W29.size.symm)
          refine JH235 T29 h29  X29 zs A_b1 A_b6 ?_
          · refine AIK.congr A_b23 (fun i i1 i2 => ?_)
            have k0 := own_k0
            have k1 := own_k1
            have k2 := own_k2
            have qc202 := own_ltI c202
            have qc214_f := own_geI c214_f
            have qc226_ft := own_ltI c226_ft
            unfold own_a3
            try simp only [k0, k1, k2]
            repeat' split
            all_goals first | rfl | (exfalso; omega)
      · refine go_aload (pc' := 219) X28 hx (hb hby at_217) rfl rfl ?_
        refine go_iconst (pc' := 220) (v := 1) X28 hx (hb hby at_219) rfl rfl ?_
        refine go_iload (pc' := 222) X28 hx (hb hby at_220) rfl rfl ?_
        refine go_iastore (pc' := 223) X28 hx hZ A_b23 g_b23 (by decide) (by have := own_ltI c214_f; have k0 := own_k0; have k1 := own_k1; have k2 := own_k2; have k3 := own_k3; omega) (hb hby at_222) rfl (fun T30 h30 X30 W30 A_b23 => ?_)
        have A_b1 := A_b1.other W30 ne_b1_b23
        have A_b6 := A_b6.other W30 ne_b6_b23
        have zs := Nat.le_trans zs (Nat.le_of_eq W30.size.symm)
        refine go_iload (pc' := 225) X30 hx (hb hby at_223) rfl rfl ?_
        refine go_iconst (pc' := 226) (v := 2) X30 hx (hb hby at_225) rfl rfl ?_
        refine go_icmple (pc' := 229) (pcT := 235) X30 hx (hb hby at_226) rfl (by decide) (by decide) (fun c226_ff => ?_) (fun c226_ff => ?_)
        · refine JH235 T30 h30  X30 zs A_b1 A_b6 ?_
          · refine AIK.congr A_b23 (fun i i1 i2 => ?_)
            have k0 := own_k0
            have k1 := own_k1
            have k2 := own_k2
            have qc202 := own_ltI c202
            have qc214_f := own_ltI c214_f
            have qc226_ff := own_geI c226_ff
            unfold own_a3
            try simp only [k0, k1, k2]
            repeat' split
            all_goals first | rfl | (exfalso; omega)
        · refine go_aload (pc' := 231) X30 hx (hb hby at_229) rfl rfl ?_
          refine go_iconst (pc' := 232) (v := 2) X30 hx (hb hby at_231) rfl rfl ?_
          refine go_iload (pc' := 234) X30 hx (hb hby at_232) rfl rfl ?_
          refine go_iastore (pc' := 235) X30 hx hZ A_b23 g_b23 (by decide) (by have := own_ltI c226_ff; have k0 := own_k0; have k1 := own_k1; have k2 := own_k2; have k3 := own_k3; omega) (hb hby at_234) rfl (fun T31 h31 X31 W31 A_b23 => ?_)
          have A_b1 := A_b1.other W31 ne_b1_b23
          have A_b6 := A_b6.other W31 ne_b6_b23
          have zs := Nat.le_trans zs (Nat.le_of_eq W31.size.symm)
          refine JH235 T31 h31  X31 zs A_b1 A_b6 ?_
          · refine AIK.congr A_b23 (fun i i1 i2 => ?_)
            have k0 := own_k0
            have k1 := own_k1
            have k2 := own_k2
            have qc202 := own_ltI c202
            have qc214_f := own_ltI c214_f
            have qc226_ff := own_ltI c226_ff
            unfold own_a3
            try simp only [k0, k1, k2]
            repeat' split
            all_goals first | rfl | (exfalso; omega)
  intro T24 h24 X24 zs A_b1 A_b6 A_b23
  refine go_aload (pc' := 237) X24 hx (hb hby at_235) rfl rfl ?_
  refine go_aload (pc' := 239) X24 hx (hb hby at_237) rfl rfl ?_
  refine go_aload (pc' := 241) X24 hx (hb hby at_239) rfl rfl ?_
  refine go_callS (pc' := 244) (W := 0) (cells' := 4) (slots' := 15) (rm := ({ frames := 0, cells := 1, slots := 4, locals := 0 } : Room)) (aL := [.ref b6, .ref b23, .ref b1]) (St := []) X24 hx hZ hown (by rw [hml]; rfl) (hw _ (List.mem_of_getElem? (i := 2) rfl)) (hw _ (List.mem_of_getElem? (i := 3) rfl)) (hw _ (List.mem_of_getElem? (i := 4) rfl)) (hw _ (List.mem_of_getElem? (i := 5) rfl)) (by decide) pd_0 rfl (ct_1 l Z a0 hw zs b6 b23 b1 v5_72.toInt v7_141.toInt sf (own_a3 v8_148 v11_183 v12_192) kf A_b6 A_b23 A_b1 hm2 hgg) (hb hby at_241) rfl (by decide) (Nat.le_of_eq rfl) (by decide) (by decide) (by decide) rfl rfl (fun T32 h32 v32 X32 Q32 => ?_) rfl
  obtain ⟨z32, rfl, Kc32, szc32, gc32, A_z32⟩ := Q32
  have A_b1 := A_b1.keep Kc32 nin0
  have A_b6 := A_b6.keep Kc32 nin0
  have A_b23 := A_b23.keep Kc32 nin0
  have zs := Nat.le_trans zs Kc32.1
  show GoK p e below _ T32 (mkF m 244 #[.val (.int p0), .val (.int p1), .val (.long q2), .second, .val (.ref b1), .val (.int v5_72), .val (.ref b6), .val (.int v7_141), .val (.int v8_148), .val (.int v9_159), .val (.int v10_174), .val (.int v11_183), .val (.int v12_192), .val (.ref b23), .unset, .unset] [.ref z32])
  refine go_astore (pc' := 246) (L' := #[.val (.int p0), .val (.int p1), .val (.long q2), .second, .val (.ref b1), .val (.int v5_72), .val (.ref b6), .val (.int v7_141), .val (.int v8_148), .val (.int v9_159), .val (.int v10_174), .val (.int v11_183), .val (.int v12_192), .val (.ref b23), .val (.ref z32), .unset]) X32 hx (hb hby at_244) rfl rfl ?_
  refine go_aload (pc' := 248) X32 hx (hb hby at_246) rfl rfl ?_
  refine go_lenI (pc' := 249) X32 hx hZ A_z32 (hb hby at_248) rfl (fun n248 hn248 => ?_)
  refine go_iload (pc' := 251) X32 hx (hb hby at_249) rfl rfl ?_
  refine go_icmpeq (pc' := 254) (pcT := 256) X32 hx (hb hby at_251) rfl (by decide) (by decide) (fun c251 => ?_) (fun c251 => (by exfalso; exact c251 (Int32.toInt_inj.mp hn248)))
  refine go_iconst (pc' := 257) (v := 1) X32 hx (hb hby at_256) rfl rfl ?_
  refine go_istore (pc' := 259) (L' := #[.val (.int p0), .val (.int p1), .val (.long q2), .second, .val (.ref b1), .val (.int v5_72), .val (.ref b6), .val (.int v7_141), .val (.int v8_148), .val (.int v9_159), .val (.int v10_174), .val (.int v11_183), .val (.int v12_192), .val (.ref b23), .val (.ref z32), .val (.int (1 : Int32))]) X32 hx (hb hby at_257) rfl rfl ?_
  suffices JH300 : ∀ (T33 : State) (h33 : Heap) , OnK p l e room_1 s m #[.int p0, .int p1, .long q2] below meth c n0 T33 h33 4 15 → n0 ≤ h33.size → AIK Z h33 b1 .int (4) kf → AIK Z h33 b6 .int (v5_72.toInt) sf → AIK Z h33 z32 .int (v5_72.toInt) (fun i => own_rv (own_a3 v8_148 v11_183 v12_192) kf v7_141.toInt v7_141.toInt.toNat (sf i)) → GoK p e below (DoneK s below n0 room_1.cells room_1.slots (QI (fun z _ => z = 1))) T33 (mkF m 300 #[.val (.int p0), .val (.int p1), .val (.long q2), .second, .val (.ref b1), .val (.int v5_72), .val (.ref b6), .val (.int v7_141), .val (.int v8_148), .val (.int v9_159), .val (.int v10_174), .val (.int v11_183), .val (.int v12_192), .val (.ref b23), .val (.ref z32), .val (.int (1 : Int32))] []) by
    refine go_iload (pc' := 261) X32 hx (hb hby at_259) rfl rfl ?_
    refine go_ifle (pc' := 264) (pcT := 300) X32 hx (hb hby at_261) rfl (by decide) (by decide) (fun c261 => ?_) (fun c261 => ?_)
    · refine JH300 T32 h32  X32 zs A_b1 A_b6 A_z32
    · refine go_iload (pc' := 266) X32 hx (hb hby at_264) rfl rfl ?_
      refine go_ifeq (pc' := 269) (pcT := 297) X32 hx (hb hby at_266) rfl (by decide) (by decide) (fun c266_f => (by exfalso; revert c266_f; decide)) (fun c266_f => ?_)
      refine go_aload (pc' := 271) X32 hx (hb hby at_269) rfl rfl ?_
      refine go_iconst (pc' := 272) (v := 0) X32 hx (hb hby at_271) rfl rfl ?_
      refine go_iaload (pc' := 273) X32 hx hZ A_z32 (by decide) (by have := own_ltI c261; have k0 := own_k0; have k1 := own_k1; have k2 := own_k2; have k3 := own_k3; omega) (hb hby at_272) rfl (fun w272_f hw272_f => ?_)
      refine go_aload (pc' := 275) X32 hx (hb hby at_273) rfl rfl ?_
      refine go_iconst (pc' := 276) (v := 0) X32 hx (hb hby at_275) rfl rfl ?_
      refine go_iaload (pc' := 277) X32 hx hZ A_b6 (by decide) (by have := own_ltI c261; have k0 := own_k0; have k1 := own_k1; have k2 := own_k2; have k3 := own_k3; omega) (hb hby at_276) rfl (fun w276_f hw276_f => ?_)
      refine go_iload (pc' := 279) X32 hx (hb hby at_277) rfl rfl ?_
      refine go_iload (pc' := 281) X32 hx (hb hby at_279) rfl rfl ?_
      refine go_iload (pc' := 283) X32 hx (hb hby at_281) rfl rfl ?_
      refine go_iload (pc' := 285) X32 hx (hb hby at_283) rfl rfl ?_
      refine go_aload (pc' := 287) X32 hx (hb hby at_285) rfl rfl ?_
      refine go_callS (pc' := 290) (W := 1) (cells' := 4) (slots' := 15) (rm := ({ frames := 0, cells := 0, slots := 0, locals := 0 } : Room)) (aL := [.int w276_f, .int v7_141, .int v8_148, .int v11_183, .int v12_192, .ref b1]) (St := [.int w272_f]) X32 hx hZ hown (by rw [hml]; rfl) (hw _ (List.mem_of_getElem? (i := 6) rfl)) (hw _ (List.mem_of_getElem? (i := 7) rfl)) (hw _ (List.mem_of_getElem? (i := 8) rfl)) (hw _ (List.mem_of_getElem? (i := 9) rfl)) (by decide) pd_1 rfl (ct_2 l Z a0 hw zs w276_f v7_141 v8_148 v11_183 v12_192 b1 kf A_b1 u11 u12 u21 u22) (hb hby at_287) rfl (by decide) (Nat.le_of_eq rfl) (by decide) (by decide) (by decide) rfl rfl (fun T34 h34 v34 X34 Q34 => ?_) rfl
      obtain ⟨z34, rfl, hz34, eh34⟩ := Q34
      subst h34
      show GoK p e below _ T34 (mkF m 290 #[.val (.int p0), .val (.int p1), .val (.long q2), .second, .val (.ref b1), .val (.int v5_72), .val (.ref b6), .val (.int v7_141), .val (.int v8_148), .val (.int v9_159), .val (.int v10_174), .val (.int v11_183), .val (.int v12_192), .val (.ref b23), .val (.ref z32), .val (.int (1 : Int32))] [.int z34, .int w272_f])
      refine go_icmpne (pc' := 293) (pcT := 297) X34 hx (hb hby at_290) rfl (by decide) (by decide) (fun c290_f => (by exfalso; rw [hw272_f, hz34, hw276_f] at c290_f; exact c290_f (own_fin kf hn1 hn2))) (fun c290_f => ?_)
      refine go_iconst (pc' := 294) (v := 1) X34 hx (hb hby at_293) rfl rfl ?_
      refine go_goto (pc' := 298) X34 hx (hb hby at_294) (by decide) (by decide) ?_
      refine go_istore (pc' := 300) (L' := #[.val (.int p0), .val (.int p1), .val (.long q2), .second, .val (.ref b1), .val (.int v5_72), .val (.ref b6), .val (.int v7_141), .val (.int v8_148), .val (.int v9_159), .val (.int v10_174), .val (.int v11_183), .val (.int v12_192), .val (.ref b23), .val (.ref z32), .val (.int (1 : Int32))]) X34 hx (hb hby at_298) rfl rfl ?_
      refine JH300 T34 h32  X34 zs A_b1 A_b6 A_z32
  intro T33 h33 X33 zs A_b1 A_b6 A_z32
  suffices JH342 : ∀ (T35 : State) (h35 : Heap) , OnK p l e room_1 s m #[.int p0, .int p1, .long q2] below meth c n0 T35 h35 4 15 → n0 ≤ h35.size → AIK Z h35 b1 .int (4) kf → AIK Z h35 b6 .int (v5_72.toInt) sf → AIK Z h35 z32 .int (v5_72.toInt) (fun i => own_rv (own_a3 v8_148 v11_183 v12_192) kf v7_141.toInt v7_141.toInt.toNat (sf i)) → GoK p e below (DoneK s below n0 room_1.cells room_1.slots (QI (fun z _ => z = 1))) T35 (mkF m 342 #[.val (.int p0), .val (.int p1), .val (.long q2), .second, .val (.ref b1), .val (.int v5_72), .val (.ref b6), .val (.int v7_141), .val (.int v8_148), .val (.int v9_159), .val (.int v10_174), .val (.int v11_183), .val (.int v12_192), .val (.ref b23), .val (.ref z32), .val (.int (1 : Int32))] []) by
    refine go_iload (pc' := 302) X33 hx (hb hby at_300) rfl rfl ?_
    refine go_iconst (pc' := 303) (v := 1) X33 hx (hb hby at_302) rfl rfl ?_
    refine go_icmple (pc' := 306) (pcT := 342) X33 hx (hb hby at_303) rfl (by decide) (by decide) (fun c303 => ?_) (fun c303 => ?_)
    · refine JH342 T33 h33  X33 zs A_b1 A_b6 A_z32
    · refine go_iload (pc' := 308) X33 hx (hb hby at_306) rfl rfl ?_
      refine go_ifeq (pc' := 311) (pcT := 339) X33 hx (hb hby at_308) rfl (by decide) (by decide) (fun c308_f => (by exfalso; revert c308_f; decide)) (fun c308_f => ?_)
      refine go_aload (pc' := 313) X33 hx (hb hby at_311) rfl rfl ?_
      refine go_iconst (pc' := 314) (v := 1) X33 hx (hb hby at_313) rfl rfl ?_
      refine go_iaload (pc' := 315) X33 hx hZ A_z32 (by decide) (by have := own_ltI c303; have k0 := own_k0; have k1 := own_k1; have k2 := own_k2; have k3 := own_k3; omega) (hb hby at_314) rfl (fun w314_f hw314_f => ?_)
      refine go_aload (pc' := 317) X33 hx (hb hby at_315) rfl rfl ?_
      refine go_iconst (pc' := 318) (v := 1) X33 hx (hb hby at_317) rfl rfl ?_
      refine go_iaload (pc' := 319) X33 hx hZ A_b6 (by decide) (by have := own_ltI c303; have k0 := own_k0; have k1 := own_k1; have k2 := own_k2; have k3 := own_k3; omega) (hb hby at_318) rfl (fun w318_f hw318_f => ?_)
      refine go_iload (pc' := 321) X33 hx (hb hby at_319) rfl rfl ?_
      refine go_iload (pc' := 323) X33 hx (hb hby at_321) rfl rfl ?_
      refine go_iload (pc' := 325) X33 hx (hb hby at_323) rfl rfl ?_
      refine go_iload (pc' := 327) X33 hx (hb hby at_325) rfl rfl ?_
      refine go_aload (pc' := 329) X33 hx (hb hby at_327) rfl rfl ?_
      refine go_callS (pc' := 332) (W := 1) (cells' := 4) (slots' := 15) (rm := ({ frames := 0, cells := 0, slots := 0, locals := 0 } : Room)) (aL := [.int w318_f, .int v7_141, .int v8_148, .int v11_183, .int v12_192, .ref b1]) (St := [.int w314_f]) X33 hx hZ hown (by rw [hml]; rfl) (hw _ (List.mem_of_getElem? (i := 6) rfl)) (hw _ (List.mem_of_getElem? (i := 7) rfl)) (hw _ (List.mem_of_getElem? (i := 8) rfl)) (hw _ (List.mem_of_getElem? (i := 9) rfl)) (by decide) pd_1 rfl (ct_2 l Z a0 hw zs w318_f v7_141 v8_148 v11_183 v12_192 b1 kf A_b1 u11 u12 u21 u22) (hb hby at_329) rfl (by decide) (Nat.le_of_eq rfl) (by decide) (by decide) (by decide) rfl rfl (fun T36 h36 v36 X36 Q36 => ?_) rfl
      obtain ⟨z36, rfl, hz36, eh36⟩ := Q36
      subst h36
      show GoK p e below _ T36 (mkF m 332 #[.val (.int p0), .val (.int p1), .val (.long q2), .second, .val (.ref b1), .val (.int v5_72), .val (.ref b6), .val (.int v7_141), .val (.int v8_148), .val (.int v9_159), .val (.int v10_174), .val (.int v11_183), .val (.int v12_192), .val (.ref b23), .val (.ref z32), .val (.int (1 : Int32))] [.int z36, .int w314_f])
      refine go_icmpne (pc' := 335) (pcT := 339) X36 hx (hb hby at_332) rfl (by decide) (by decide) (fun c332_f => (by exfalso; rw [hw314_f, hz36, hw318_f] at c332_f; exact c332_f (own_fin kf hn1 hn2))) (fun c332_f => ?_)
      refine go_iconst (pc' := 336) (v := 1) X36 hx (hb hby at_335) rfl rfl ?_
      refine go_goto (pc' := 340) X36 hx (hb hby at_336) (by decide) (by decide) ?_
      refine go_istore (pc' := 342) (L' := #[.val (.int p0), .val (.int p1), .val (.long q2), .second, .val (.ref b1), .val (.int v5_72), .val (.ref b6), .val (.int v7_141), .val (.int v8_148), .val (.int v9_159), .val (.int v10_174), .val (.int v11_183), .val (.int v12_192), .val (.ref b23), .val (.ref z32), .val (.int (1 : Int32))]) X36 hx (hb hby at_340) rfl rfl ?_
      refine JH342 T36 h33  X36 zs A_b1 A_b6 A_z32
  intro T35 h35 X35 zs A_b1 A_b6 A_z32
  suffices JH384 : ∀ (T37 : State) (h37 : Heap) , OnK p l e room_1 s m #[.int p0, .int p1, .long q2] below meth c n0 T37 h37 4 15 → n0 ≤ h37.size → AIK Z h37 b1 .int (4) kf → AIK Z h37 b6 .int (v5_72.toInt) sf → AIK Z h37 z32 .int (v5_72.toInt) (fun i => own_rv (own_a3 v8_148 v11_183 v12_192) kf v7_141.toInt v7_141.toInt.toNat (sf i)) → GoK p e below (DoneK s below n0 room_1.cells room_1.slots (QI (fun z _ => z = 1))) T37 (mkF m 384 #[.val (.int p0), .val (.int p1), .val (.long q2), .second, .val (.ref b1), .val (.int v5_72), .val (.ref b6), .val (.int v7_141), .val (.int v8_148), .val (.int v9_159), .val (.int v10_174), .val (.int v11_183), .val (.int v12_192), .val (.ref b23), .val (.ref z32), .val (.int (1 : Int32))] []) by
    refine go_iload (pc' := 344) X35 hx (hb hby at_342) rfl rfl ?_
    refine go_iconst (pc' := 345) (v := 2) X35 hx (hb hby at_344) rfl rfl ?_
    refine go_icmple (pc' := 348) (pcT := 384) X35 hx (hb hby at_345) rfl (by decide) (by decide) (fun c345 => ?_) (fun c345 => ?_)
    · refine JH384 T35 h35  X35 zs A_b1 A_b6 A_z32
    · refine go_iload (pc' := 350) X35 hx (hb hby at_348) rfl rfl ?_
      refine go_ifeq (pc' := 353) (pcT := 381) X35 hx (hb hby at_350) rfl (by decide) (by decide) (fun c350_f => (by exfalso; revert c350_f; decide)) (fun c350_f => ?_)
      refine go_aload (pc' := 355) X35 hx (hb hby at_353) rfl rfl ?_
      refine go_iconst (pc' := 356) (v := 2) X35 hx (hb hby at_355) rfl rfl ?_
      refine go_iaload (pc' := 357) X35 hx hZ A_z32 (by decide) (by have := own_ltI c345; have k0 := own_k0; have k1 := own_k1; have k2 := own_k2; have k3 := own_k3; omega) (hb hby at_356) rfl (fun w356_f hw356_f => ?_)
      refine go_aload (pc' := 359) X35 hx (hb hby at_357) rfl rfl ?_
      refine go_iconst (pc' := 360) (v := 2) X35 hx (hb hby at_359) rfl rfl ?_
      refine go_iaload (pc' := 361) X35 hx hZ A_b6 (by decide) (by have := own_ltI c345; have k0 := own_k0; have k1 := own_k1; have k2 := own_k2; have k3 := own_k3; omega) (hb hby at_360) rfl (fun w360_f hw360_f => ?_)
      refine go_iload (pc' := 363) X35 hx (hb hby at_361) rfl rfl ?_
      refine go_iload (pc' := 365) X35 hx (hb hby at_363) rfl rfl ?_
      refine go_iload (pc' := 367) X35 hx (hb hby at_365) rfl rfl ?_
      refine go_iload (pc' := 369) X35 hx (hb hby at_367) rfl rfl ?_
      refine go_aload (pc' := 371) X35 hx (hb hby at_369) rfl rfl ?_
      refine go_callS (pc' := 374) (W := 1) (cells' := 4) (slots' := 15) (rm := ({ frames := 0, cells := 0, slots := 0, locals := 0 } : Room)) (aL := [.int w360_f, .int v7_141, .int v8_148, .int v11_183, .int v12_192, .ref b1]) (St := [.int w356_f]) X35 hx hZ hown (by rw [hml]; rfl) (hw _ (List.mem_of_getElem? (i := 6) rfl)) (hw _ (List.mem_of_getElem? (i := 7) rfl)) (hw _ (List.mem_of_getElem? (i := 8) rfl)) (hw _ (List.mem_of_getElem? (i := 9) rfl)) (by decide) pd_1 rfl (ct_2 l Z a0 hw zs w360_f v7_141 v8_148 v11_183 v12_192 b1 kf A_b1 u11 u12 u21 u22) (hb hby at_371) rfl (by decide) (Nat.le_of_eq rfl) (by decide) (by decide) (by decide) rfl rfl (fun T38 h38 v38 X38 Q38 => ?_) rfl
      obtain ⟨z38, rfl, hz38, eh38⟩ := Q38
      subst h38
      show GoK p e below _ T38 (mkF m 374 #[.val (.int p0), .val (.int p1), .val (.long q2), .second, .val (.ref b1), .val (.int v5_72), .val (.ref b6), .val (.int v7_141), .val (.int v8_148), .val (.int v9_159), .val (.int v10_174), .val (.int v11_183), .val (.int v12_192), .val (.ref b23), .val (.ref z32), .val (.int (1 : Int32))] [.int z38, .int w356_f])
      refine go_icmpne (pc' := 377) (pcT := 381) X38 hx (hb hby at_374) rfl (by decide) (by decide) (fun c374_f => (by exfalso; rw [hw356_f, hz38, hw360_f] at c374_f; exact c374_f (own_fin kf hn1 hn2))) (fun c374_f => ?_)
      refine go_iconst (pc' := 378) (v := 1) X38 hx (hb hby at_377) rfl rfl ?_
      refine go_goto (pc' := 382) X38 hx (hb hby at_378) (by decide) (by decide) ?_
      refine go_istore (pc' := 384) (L' := #[.val (.int p0), .val (.int p1), .val (.long q2), .second, .val (.ref b1), .val (.int v5_72), .val (.ref b6), .val (.int v7_141), .val (.int v8_148), .val (.int v9_159), .val (.int v10_174), .val (.int v11_183), .val (.int v12_192), .val (.ref b23), .val (.ref z32), .val (.int (1 : Int32))]) X38 hx (hb hby at_382) rfl rfl ?_
      refine JH384 T38 h35  X38 zs A_b1 A_b6 A_z32
  intro T37 h37 X37 zs A_b1 A_b6 A_z32
  suffices JH426 : ∀ (T39 : State) (h39 : Heap) , OnK p l e room_1 s m #[.int p0, .int p1, .long q2] below meth c n0 T39 h39 4 15 → n0 ≤ h39.size → AIK Z h39 b1 .int (4) kf → AIK Z h39 b6 .int (v5_72.toInt) sf → AIK Z h39 z32 .int (v5_72.toInt) (fun i => own_rv (own_a3 v8_148 v11_183 v12_192) kf v7_141.toInt v7_141.toInt.toNat (sf i)) → GoK p e below (DoneK s below n0 room_1.cells room_1.slots (QI (fun z _ => z = 1))) T39 (mkF m 426 #[.val (.int p0), .val (.int p1), .val (.long q2), .second, .val (.ref b1), .val (.int v5_72), .val (.ref b6), .val (.int v7_141), .val (.int v8_148), .val (.int v9_159), .val (.int v10_174), .val (.int v11_183), .val (.int v12_192), .val (.ref b23), .val (.ref z32), .val (.int (1 : Int32))] []) by
    refine go_iload (pc' := 386) X37 hx (hb hby at_384) rfl rfl ?_
    refine go_iconst (pc' := 387) (v := 3) X37 hx (hb hby at_386) rfl rfl ?_
    refine go_icmple (pc' := 390) (pcT := 426) X37 hx (hb hby at_387) rfl (by decide) (by decide) (fun c387 => ?_) (fun c387 => ?_)
    · refine JH426 T37 h37  X37 zs A_b1 A_b6 A_z32
    · refine go_iload (pc' := 392) X37 hx (hb hby at_390) rfl rfl ?_
      refine go_ifeq (pc' := 395) (pcT := 423) X37 hx (hb hby at_392) rfl (by decide) (by decide) (fun c392_f => (by exfalso; revert c392_f; decide)) (fun c392_f => ?_)
      refine go_aload (pc' := 397) X37 hx (hb hby at_395) rfl rfl ?_
      refine go_iconst (pc' := 398) (v := 3) X37 hx (hb hby at_397) rfl rfl ?_
      refine go_iaload (pc' := 399) X37 hx hZ A_z32 (by decide) (by have := own_ltI c387; have k0 := own_k0; have k1 := own_k1; have k2 := own_k2; have k3 := own_k3; omega) (hb hby at_398) rfl (fun w398_f hw398_f => ?_)
      refine go_aload (pc' := 401) X37 hx (hb hby at_399) rfl rfl ?_
      refine go_iconst (pc' := 402) (v := 3) X37 hx (hb hby at_401) rfl rfl ?_
      refine go_iaload (pc' := 403) X37 hx hZ A_b6 (by decide) (by have := own_ltI c387; have k0 := own_k0; have k1 := own_k1; have k2 := own_k2; have k3 := own_k3; omega) (hb hby at_402) rfl (fun w402_f hw402_f => ?_)
      refine go_iload (pc' := 405) X37 hx (hb hby at_403) rfl rfl ?_
      refine go_iload (pc' := 407) X37 hx (hb hby at_405) rfl rfl ?_
      refine go_iload (pc' := 409) X37 hx (hb hby at_407) rfl rfl ?_
      refine go_iload (pc' := 411) X37 hx (hb hby at_409) rfl rfl ?_
      refine go_aload (pc' := 413) X37 hx (hb hby at_411) rfl rfl ?_
      refine go_callS (pc' := 416) (W := 1) (cells' := 4) (slots' := 15) (rm := ({ frames := 0, cells := 0, slots := 0, locals := 0 } : Room)) (aL := [.int w402_f, .int v7_141, .int v8_148, .int v11_183, .int v12_192, .ref b1]) (St := [.int w398_f]) X37 hx hZ hown (by rw [hml]; rfl) (hw _ (List.mem_of_getElem? (i := 6) rfl)) (hw _ (List.mem_of_getElem? (i := 7) rfl)) (hw _ (List.mem_of_getElem? (i := 8) rfl)) (hw _ (List.mem_of_getElem? (i := 9) rfl)) (by decide) pd_1 rfl (ct_2 l Z a0 hw zs w402_f v7_141 v8_148 v11_183 v12_192 b1 kf A_b1 u11 u12 u21 u22) (hb hby at_413) rfl (by decide) (Nat.le_of_eq rfl) (by decide) (by decide) (by decide) rfl rfl (fun T40 h40 v40 X40 Q40 => ?_) rfl
      obtain ⟨z40, rfl, hz40, eh40⟩ := Q40
      subst h40
      show GoK p e below _ T40 (mkF m 416 #[.val (.int p0), .val (.int p1), .val (.long q2), .second, .val (.ref b1), .val (.int v5_72), .val (.ref b6), .val (.int v7_141), .val (.int v8_148), .val (.int v9_159), .val (.int v10_174), .val (.int v11_183), .val (.int v12_192), .val (.ref b23), .val (.ref z32), .val (.int (1 : Int32))] [.int z40, .int w398_f])
      refine go_icmpne (pc' := 419) (pcT := 423) X40 hx (hb hby at_416) rfl (by decide) (by decide) (fun c416_f => (by exfalso; rw [hw398_f, hz40, hw402_f] at c416_f; exact c416_f (own_fin kf hn1 hn2))) (fun c416_f => ?_)
      refine go_iconst (pc' := 420) (v := 1) X40 hx (hb hby at_419) rfl rfl ?_
      refine go_goto (pc' := 424) X40 hx (hb hby at_420) (by decide) (by decide) ?_
      refine go_istore (pc' := 426) (L' := #[.val (.int p0), .val (.int p1), .val (.long q2), .second, .val (.ref b1), .val (.int v5_72), .val (.ref b6), .val (.int v7_141), .val (.int v8_148), .val (.int v9_159), .val (.int v10_174), .val (.int v11_183), .val (.int v12_192), .val (.ref b23), .val (.ref z32), .val (.int (1 : Int32))]) X40 hx (hb hby at_424) rfl rfl ?_
      refine JH426 T40 h37  X40 zs A_b1 A_b6 A_z32
  intro T39 h39 X39 zs A_b1 A_b6 A_z32
  refine go_iload (pc' := 428) X39 hx (hb hby at_426) rfl rfl ?_
  refine go_retN (t := .boolean) X39 hx hret (by simp) hlk (hb hby at_428) (by decide) (by decide) ?_
  exact rfl
set_option maxRecDepth 65536 in
set_option maxHeartbeats 40000000 in
theorem comes_1 {Post : Tables → Env → Array Value → State → Outcome → State → Prop} (hpost : ∀ tb e args s v u, (limb_1_1.after args s (.returned v) u = true ∧ limb_1_2.after args s (.returned v) u = true ∧ True) → FrameEnd s (.returned v) u (Jvm.fieldLocs frame_1_writes args s ++ Jvm.arrayLocs frame_1_arrays args s ++ Jvm.staticLocs frame_1_statics s) 16 128 → Post tb e args s (.returned v) u) :
    ArmFor flags0 classFile x code maxLocals ret World_1 tables_1 room_1 Calls_1 rest_1 Pre_1 Post := by
  intro l hfl _ _ p e ha hc hk s m args below hf hA hF happ hP
  obtain ⟨hcalls, hrest, hpre⟩ := hP
  obtain ⟨-, -, -, hnamed, -, -, -, hat⟩ := (Spec.applies_iff hf).mp happ
  obtain ⟨hg, hn⟩ := and_e (Cond.before_iff.mp (show (Jvm.Cond.and given_1 narrow_1).before args s = true from hpre))
  obtain ⟨g1, g2⟩ := and_e hg
  obtain ⟨g3, g4⟩ := and_e g2
  obtain ⟨g5, g6⟩ := and_e g4
  obtain ⟨w0, w1, w2, rfl⟩ : ∃ w0 w1 w2 : Value, args = #[w0, w1, w2] := by
    have hs : args.size = 3 := by simpa [Cond.value, given_1] using g1
    obtain ⟨L⟩ := args
    match L, hs with
    | [w0, w1, w2], _ => exact ⟨w0, w1, w2, rfl⟩
  have hw := fun d (hd : d ∈ tables_1) => atoms_spec (ws := Jvm.Cond.code x code maxLocals ret :: tables_1) hat d (List.mem_cons_of_mem _ hd)
  obtain ⟨i0, ei0⟩ := is_v g3
  obtain rfl : w0 = (.int i0) := Option.some.inj ei0
  obtain ⟨i1, ei1⟩ := is_v g5
  obtain rfl : w1 = (.int i1) := Option.some.inj ei1
  obtain ⟨i2, ei2⟩ := isL_v g6
  obtain rfl : w2 = (.long i2) := Option.some.inj ei2
  obtain ⟨n, o, h1, h2, h3, _, L, rfl, ⟨⟨_, rfl, rfl⟩, N⟩, hq⟩ := ct_0 l s _ hw (h0 := s.heap) (n0 := s.heap.size) (Nat.le_refl _) i0 i1 i2 tables_1 p e ha hc hk s m _ below hf ((Spec.applies_iff_loose hf).mp happ).1 ⟨rfl, State.Warmed39.refl s, rfl⟩ trivial
  refine ⟨n, _, h1, h2, h3, hpost _ _ _ _ _ _ ⟨Cond.after_iff.mpr rfl, Cond.after_iff.mpr (eq_i res_at (Term.int_eval (1)) rfl), trivial⟩ ⟨hq.1, hq.2.1, (hq.2.2.sift fun y hy => Or.inr (N y hy)).mono (by decide) (by decide)⟩⟩
theorem main_1_1 : Claimed_1_1 := comes_1 fun _ _ _ _ _ _ h hF => ⟨h.1, hF⟩
theorem main_1_2 : Claimed_1_2 := comes_1 fun _ _ _ _ _ _ h hF => ⟨h.2.1, hF⟩
end Jvm.Pilot.@@N@@
namespace Jvm.Pilot.@@N@@
open Jvm Jvm.ClassFile Sem Op Lib Jvm.Free Jvm.Stand Jvm.Pilot.@@N@@.Jvm.D
/-! MADE BY PROGRAM (witnessworld.py) out of the Statement's table words and the real class files: 9 classes; the members and pool entries that the words name. The judged class is class 1, her method 1. -/
namespace start1
open Jvm.ClassFile
def u (s : String) : CpInfo := .utf8 (stringToUtf16 s)
/-- a pool by its gaps: so many unusable entries, then the entry; so many at the end -/
def gap : Nat → List CpInfo → List CpInfo
  | 0, r => r
  | n + 1, r => .unusable :: gap n r
def poolList (es : List (Nat × CpInfo)) (last : Nat) : List CpInfo := es.foldr (fun e r => gap e.1 (e.2 :: r)) (gap last [])
def pool (es : List (Nat × CpInfo)) (last : Nat) : Array CpInfo := ⟨poolList es last⟩
def fileOf (pool : Array CpInfo) (this : Nat) (attrs : Array Attribute := #[]) (ms : Array MethodInfo := #[]) (fl : Nat := 33) (sup : Nat := 0) (ifs : Array Nat := #[]) (fds : Array FieldInfo := #[]) : ClassFile where
  minorVersion := 0
  majorVersion := 65
  constantPool := pool
  accessFlags := fl
  thisClass := this
  superClass := sup
  interfaces := ifs
  fields := fds
  methods := ms
  attributes := attrs
def plain (name : String) (sup : Option ClassId) : Class where
  name := name
  kind := .ordinary
  loader := none
  accessFlags := 33
  super := sup
  interfaces := #[]
  cf := none
  fields := #[]
  methods := #[]
  instanceTypes := #[]
  staticTypes := #[]
  resolved := #[]
  callSites := []
  init := .initialized
  statics := none
  mirror := none

def pool0 : Array CpInfo := pool [(5, u "<init>"), (0, u "()V"), (1, .class_ 10), (1, u "java/lang/Object")] 113

def k0m0 : Method := { name := "<init>", desc := "()V", sig := { parameters := [], returnType := none }, accessFlags := 1, code := none }
/-- java/lang/Object -/
def k0 : Class := { plain "java/lang/Object" none with
  accessFlags := 33
  interfaces := #[]
  cf := some (fileOf pool0 8 #[] #[{ accessFlags := 1, nameIndex := 5, descriptorIndex := 6, attributes := #[] }] 33 0 #[] #[])
  fields := #[]
  methods := #[k0m0]
  instanceTypes := #[]
  staticTypes := #[]
  resolved := Array.replicate 124 none
  statics := none }

def pool1 : Array CpInfo := pool [(2, .class_ 4), (1, u "java/lang/Object"), (0, u "<init>"), (0, u "()V"), (0, .long 32767), (1, .methodref 10 11), (0, .class_ 12), (0, .nameAndType 13 14), (0, u "com/example/cutbelief/cutbelief/inference/Potentials"), (0, u "strides"), (0, u "([I[I[I)[I"), (0, .methodref 16 17), (0, .class_ 18), (0, .nameAndType 19 20), (0, u "com/example/cutbelief/cutbelief/inference/PotentialsStridesPinLaw"), (0, u "expected"), (0, u "(IIIII[I)I"), (2, u "law"), (0, u "(IIJ)Z")] 5

def k1m0 : Method := { name := "<init>", desc := "()V", sig := { parameters := [], returnType := none }, accessFlags := 1, code := none }
def k1c1 : Code := { maxStack := 7, maxLocals := 16, code := code, exceptionTable := #[], attributes := #[] }
def k1m1 : Method := { name := "law", desc := "(IIJ)Z", sig := { parameters := [.int, .int, .long], returnType := some .boolean }, accessFlags := 9, code := some k1c1 }
def k1c2 : Code := { maxStack := 3, maxLocals := 6, code := method_3_code, exceptionTable := #[], attributes := #[] }
def k1m2 : Method := { name := "expected", desc := "(IIIII[I)I", sig := { parameters := [.int, .int, .int, .int, .int, (.array .int)], returnType := some .int }, accessFlags := 10, code := some k1c2 }
/-- com/example/cutbelief/cutbelief/inference/PotentialsStridesPinLaw -/
def k1 : Class := { plain "com/example/cutbelief/cutbelief/inference/PotentialsStridesPinLaw" (some 0) with
  accessFlags := 49
  interfaces := #[]
  cf := some (fileOf pool1 16 #[] #[{ accessFlags := 1, nameIndex := 5, descriptorIndex := 6, attributes := #[] }, { accessFlags := 9, nameIndex := 23, descriptorIndex := 24, attributes := #[] }, { accessFlags := 10, nameIndex := 19, descriptorIndex := 20, attributes := #[] }] 49 2 #[] #[])
  fields := #[]
  methods := #[k1m0, k1m1, k1m2]
  instanceTypes := #[]
  staticTypes := #[]
  resolved := Array.replicate 30 none
  statics := none }

def pool2 : Array CpInfo := pool [(2, .class_ 4), (1, u "java/lang/Object"), (0, u "<init>"), (0, u "()V"), (0, .class_ 8), (0, u "com/example/cutbelief/cutbelief/inference/Potentials"), (7, u "strides"), (0, u "([I[I[I)[I")] 4

def k2m0 : Method := { name := "<init>", desc := "()V", sig := { parameters := [], returnType := none }, accessFlags := 2, code := none }
def k2c1 : Code := { maxStack := 4, maxLocals := 7, code := prog_44_method_3_code, exceptionTable := #[], attributes := #[] }
def k2m1 : Method := { name := "strides", desc := "([I[I[I)[I", sig := { parameters := [(.array .int), (.array .int), (.array .int)], returnType := some (.array .int) }, accessFlags := 8, code := some k2c1 }
/-- com/example/cutbelief/cutbelief/inference/Potentials -/
def k2 : Class := { plain "com/example/cutbelief/cutbelief/inference/Potentials" (some 0) with
  accessFlags := 48
  interfaces := #[]
  cf := some (fileOf pool2 7 #[] #[{ accessFlags := 2, nameIndex := 5, descriptorIndex := 6, attributes := #[] }, { accessFlags := 8, nameIndex := 16, descriptorIndex := 17, attributes := #[] }] 48 2 #[] #[])
  fields := #[]
  methods := #[k2m0, k2m1]
  instanceTypes := #[]
  staticTypes := #[]
  resolved := Array.replicate 22 none
  statics := none }

def pool3 : Array CpInfo := pool [(1, u "java/lang/Cloneable"), (0, .class_ 1), (0, u "java/lang/Object"), (0, .class_ 3)] 3

/-- java/lang/Cloneable -/
def k3 : Class := { plain "java/lang/Cloneable" (some 0) with
  accessFlags := 1537
  interfaces := #[]
  cf := some (fileOf pool3 2 #[] #[] 1537 4 #[] #[])
  fields := #[]
  methods := #[]
  instanceTypes := #[]
  staticTypes := #[]
  resolved := Array.replicate 8 none
  statics := none }

def pool4 : Array CpInfo := pool [(1, u "java/io/Serializable"), (0, .class_ 1), (0, u "java/lang/Object"), (0, .class_ 3)] 3

/-- java/io/Serializable -/
def k4 : Class := { plain "java/io/Serializable" (some 0) with
  accessFlags := 1537
  interfaces := #[]
  cf := some (fileOf pool4 2 #[] #[] 1537 4 #[] #[])
  fields := #[]
  methods := #[]
  instanceTypes := #[]
  staticTypes := #[]
  resolved := Array.replicate 8 none
  statics := none }

/-- the primitive byte -/
def k5 : Class := { plain "byte" none with kind := .primitive 'B', accessFlags := 0x411 }
/-- [B -/
def k6 : Class := { plain "[B" (some 0) with kind := .array 5 .byte, interfaces := #[3, 4], accessFlags := 1041 }

/-- the primitive int -/
def k7 : Class := { plain "int" none with kind := .primitive 'I', accessFlags := 0x411 }
/-- [I -/
def k8 : Class := { plain "[I" (some 0) with kind := .array 7 .int, interfaces := #[3, 4], accessFlags := 1041 }

def heap : Heap := #[]
def classes : Array Class := #[k0, k1, k2, k3, k4, k5, k6, k7, k8]
def interned : List (Array UInt16 × Addr) := []
def slotsUsed : Nat := 0
def theMethod : MethodId := ⟨1, 1⟩
def args0 : Array Value := #[.int 3, .int 3, .long 7]
def aboutOver (below : List Frame) : State where
  vm := { classes := classes, interned := interned.toArray }
  heap := heap
  slotsUsed := slotsUsed
  threads := #[{ frames := .invoking theMethod args0 :: below }]
def below0 : List Frame := [.native { method := ⟨0, 0⟩, args := #[] }]
def about1 : State := aboutOver below0
def p0 : Program := .bare "" "" ""
def e0 : Env := launch0.env 0 0 0
theorem w_frames : about1.frames = Frame.invoking theMethod args0 :: below0 := rfl
set_option maxRecDepth 65536 in
theorem w_args : argsFit about1.vm theMethod args0 = true := by decide +kernel
set_option maxRecDepth 65536 in
theorem w_heap : heapFits about1 = true := by decide +kernel
set_option maxRecDepth 65536 in
theorem w_runnable : about1.curStatus? = some .runnable := by decide +kernel
set_option maxRecDepth 65536 in
theorem w_alone : about1.alone = true := by decide +kernel
set_option maxRecDepth 65536 in
theorem w_named : about1.methodNamed? x = some theMethod := by decide +kernel
set_option maxRecDepth 65536 in
theorem w_hears : about1.hears theMethod below0 = true := by decide +kernel
set_option maxRecDepth 65536 in
theorem w_ripe : about1.ripe theMethod args0 below0 = true := by decide +kernel
theorem w_running : about1.status = .running := rfl
set_option maxRecDepth 65536 in
theorem w_room : about1.hasRoom e0.platform room_1 = true :=
  launch0.hasRoom_least _ room_1 (by decide +kernel) (by decide +kernel) (by decide +kernel) (by decide +kernel) (by decide +kernel) (by decide +kernel)
theorem allAtoms_all (ts : List Jvm.Cond) (a : Array Jvm.Value) (st : Jvm.State) : (allAtoms ts).before a st = ts.all (fun c => c.before a st) := by
  induction ts with
  | nil => rfl
  | cons c t ih =>
    show (Jvm.Cond.and c (allAtoms t)).before a st = _
    rw [Jvm.Cond.before_and, ih, List.all_cons]
def words1 : List Jvm.Cond := Jvm.Cond.code x code maxLocals ret :: tables_1
/-- a 'code' word, met by the world's own term for the bytes: nothing is compared byte by byte -/
theorem code_word {y : MethodName} {bytes : ByteArray} {mx : Nat} {rt : Option FieldType} {a : Array Value} {s : State} {m : MethodId} {meth : Method} {c : Code} (h1 : s.methodNamed? y = some m) (h2 : s.vm.method? m = some meth) (h3 : meth.code = some c) (h4 : c.code = bytes)
    (h5 : (c.maxLocals == mx && c.exceptionTable.isEmpty && decide (c.maxStack ≤ mostOperands) && decide (meth.sig.returnType = rt) && !meth.locks && decide (parseMethodDescriptor y.desc = some meth.sig)) = true) : (Jvm.Cond.code y bytes mx rt).before a s = true := by
  simp only [Bool.and_eq_true, beq_iff_eq, Bool.not_eq_true', decide_eq_true_eq] at h5
  obtain ⟨⟨⟨⟨⟨g1, g2⟩, g3⟩, g4⟩, g5⟩, g6⟩ := h5
  simp [Cond.before, Cond.holds, Cond.value, h1, h2, h3, h4, g1, g2, g3, g4, g5, g6]
def isCode : Jvm.Cond → Bool
  | .code _ _ _ _ => true
  | _ => false
theorem all_split {L : List Jvm.Cond} {P : Jvm.Cond → Bool} (h1 : L.all (fun c => isCode c || P c) = true) (h2 : ∀ c ∈ L.filter isCode, P c = true) : L.all P = true := by
  refine List.all_eq_true.mpr fun c hc => ?_
  have h := List.all_eq_true.mp h1 c hc
  rcases Bool.eq_false_or_eq_true (isCode c) with hi | hi
  · exact h2 c (List.mem_filter.mpr ⟨hc, hi⟩)
  · simpa [hi] using h
set_option maxRecDepth 65536 in
theorem w_c0 : (Jvm.Cond.code x code maxLocals ret).before args0 about1 = true := code_word (m := ⟨1, 1⟩) (meth := k1m1) (c := k1c1) (by decide +kernel) rfl rfl rfl (by decide +kernel)
set_option maxRecDepth 65536 in
theorem w_c1 : (Jvm.Cond.code ({ cls := "com/example/cutbelief/cutbelief/inference/Potentials", name := "strides", desc := "([I[I[I)[I" } : Jvm.MethodName) prog_44_method_3_code (7 : Nat) (Option.some (Jvm.ClassFile.FieldType.array Jvm.ClassFile.FieldType.int))).before args0 about1 = true := code_word (m := ⟨2, 1⟩) (meth := k2m1) (c := k2c1) (by decide +kernel) rfl rfl rfl (by decide +kernel)
set_option maxRecDepth 65536 in
theorem w_c2 : (Jvm.Cond.code ({ cls := "com/example/cutbelief/cutbelief/inference/PotentialsStridesPinLaw", name := "expected", desc := "(IIIII[I)I" } : Jvm.MethodName) method_3_code (6 : Nat) (Option.some Jvm.ClassFile.FieldType.int)).before args0 about1 = true := code_word (m := ⟨1, 2⟩) (meth := k1m2) (c := k1c2) (by decide +kernel) rfl rfl rfl (by decide +kernel)
def codes1 : List Jvm.Cond := [Jvm.Cond.code x code maxLocals ret, Jvm.Cond.code ({ cls := "com/example/cutbelief/cutbelief/inference/Potentials", name := "strides", desc := "([I[I[I)[I" } : Jvm.MethodName) prog_44_method_3_code (7 : Nat) (Option.some (Jvm.ClassFile.FieldType.array Jvm.ClassFile.FieldType.int)), Jvm.Cond.code ({ cls := "com/example/cutbelief/cutbelief/inference/PotentialsStridesPinLaw", name := "expected", desc := "(IIIII[I)I" } : Jvm.MethodName) method_3_code (6 : Nat) (Option.some Jvm.ClassFile.FieldType.int)]
set_option maxRecDepth 65536 in
theorem codes_eq : words1.filter isCode = codes1 := rfl
theorem w_codes : ∀ c ∈ words1.filter isCode, c.before args0 about1 = true := by
  rw [codes_eq]
  intro c hc
  simp only [codes1, List.mem_cons, List.not_mem_nil, or_false] at hc
  rcases hc with rfl | rfl | rfl
  · exact w_c0
  · exact w_c1
  · exact w_c2
set_option maxRecDepth 65536 in
theorem w_t1 : words1.all (fun c => isCode c || c.before args0 about1) = true := by decide +kernel
theorem w_tables : (allAtoms (Jvm.Cond.code x code maxLocals ret :: tables_1)).before args0 about1 = true := by
  rw [allAtoms_all]
  show words1.all (fun c => c.before args0 about1) = true
  refine all_split ?_ w_codes
  rw [w_t1]
set_option maxRecDepth 65536 in
theorem w_case : (Jvm.Cond.and given_1 narrow_1).before args0 about1 = true := by decide +kernel
theorem w_applies : (headSpec (Jvm.Cond.code x code maxLocals ret :: tables_1) room_1).applies x e0.platform about1 = true :=
  (Spec.applies_iff w_frames).mpr ⟨w_running, w_runnable, w_alone, w_named, w_hears, w_ripe, w_room, w_tables⟩
theorem atStart : AtStart classFile x code maxLocals ret World_1 tables_1 room_1 Calls_1 rest_1 Pre_1 launch0 p0 e0 about1 theMethod args0 below0 :=
  ⟨lists_1, trivial, launch0.admits_env _ _ _, launch0.least_env, fairChoices_fair.cas, fairChoices_fair.clock, w_frames, w_args, w_heap, w_applies, trivial, trivial, w_case⟩
end start1
theorem witness_1 : WitnessClaimed_1 := ⟨start1.p0, start1.e0, start1.about1, start1.theMethod, start1.args0, start1.below0, start1.atStart⟩
end Jvm.Pilot.@@N@@
