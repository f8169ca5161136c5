import JvmDerived
import JvmDerived.Pilot.@@N@@Statement
import JvmDerived.Pilot.@@N@@Code
set_option maxHeartbeats 4000000
set_option linter.unusedVariables false
set_option linter.unusedSimpArgs false
namespace Jvm.RoadKit
open Sem ClassFile Op Lib Jvm.Stand Jvm.Free Jvm.LawKit
section OwnK
variable {p : Program} {l : Launch} {e : Env} {R : Room} {s : State} {m : MethodId} {args : Array Value} {below : List Frame} {meth : Method} {c : Code} {T : State} {cells slots cells' slots' : Nat} {Z : State} {a0 : Array Value} {h : Heap} {n0 : Nat} {D : State → Prop} {pc pc' : Nat} {Ls : Array Slot} {St : List Value}
/-- the run goes from the frame g at T to a state that is done -/
def GoK (p : Program) (e : Env) (below : List Frame) (D : State → Prop) (T : State) (g : JFrame) : Prop := ∃ u, Steps p.tables e below (T.setTop g) u ∧ D u
/-- where the walk stands: the state, its heap, what was made; all that was written is new -/
def OnK (p : Program) (l : Launch) (e : Env) (R : Room) (s : State) (m : MethodId) (args : Array Value) (below : List Frame) (meth : Method) (c : Code) (n0 : Nat) (T : State) (h : Heap) (cells slots : Nat) : Prop := ∃ locs, Stand p l e R s m args below meth c T locs cells slots ∧ T.heap = h ∧ Fr n0 locs
/-- the call has returned -/
def DoneK (s : State) (below : List Frame) (n0 C S : Nat) (Q : Option Value → Heap → Prop) (u : State) : Prop := u.status = .running ∧ ∃ v L, Ended u below (.returned v) ∧ Q v u.heap ∧ Fr n0 L ∧ FrameEnd s (.returned v) u L C S
def QI (P : Int32 → Heap → Prop) (v : Option Value) (h : Heap) : Prop := ∃ z, v = some (.int z) ∧ P z h
def QJ (P : Int64 → Heap → Prop) (v : Option Value) (h : Heap) : Prop := ∃ z, v = some (.long z) ∧ P z h
def QA (P : Addr → Heap → Prop) (v : Option Value) (h : Heap) : Prop := ∃ z, v = some (.ref z) ∧ P z h
def QV (P : Heap → Prop) (v : Option Value) (h : Heap) : Prop := v = none ∧ P h
/-- a body's contract -/
def CtK (l : Launch) (Z : State) (y : MethodName) (bytes : ByteArray) (maxL : Nat) (ret : Option FieldType) (rm : Room) (as' : Array Value) (h0 : Heap) (n0 : Nat) (Q : Option Value → Heap → Prop) : Prop :=
  ∀ ws : List Jvm.Cond, MetFree l y (head1 (Jvm.Cond.code y bytes maxL ret :: ws) rm) (fun a U => a = as' ∧ Z.Warmed39 U.vm ∧ U.heap = h0) (fun _ _ _ _ _ => True) (fun _ U o U' => ∃ v L, o = .returned v ∧ (Q v U'.heap ∧ Fr n0 L) ∧ FrameEnd U o U' L rm.cells rm.slots)
theorem GoK.by {T' : State} {g g' : JFrame} (st : ∀ t, Steps p.tables e below (T'.setTop g') t → Steps p.tables e below (T.setTop g) t) (G : GoK p e below D T' g') : GoK p e below D T g := by
  obtain ⟨u, hu, hD⟩ := G
  exact ⟨u, st _ hu, hD⟩
theorem OnK.at (X : OnK p l e R s m args below meth c n0 T h cells slots) : Jvm.At T m c below := by
  obtain ⟨_, X, -, -⟩ := X
  exact X.here
theorem CtK.of {y : MethodName} {bytes : ByteArray} {maxL : Nat} {ret : Option FieldType} {rm : Room} {as' : Array Value} {h0 : Heap} {Q : Option Value → Heap → Prop} (hp : plainFor y = true)
    (body : ∀ {p : Program} {e : Env} {s : State} {m : MethodId} {below : List Frame} {meth : Method} {c : Code} {T : State}, OnK p l e rm s m as' below meth c n0 T h0 0 0 → p.tables.exec = Jvm.exec → Z.Warmed39 s.vm → c.code = bytes → c.maxLocals = maxL → s.vm.findClass y.cls = some m.cls → meth.name = y.name → meth.sig.returnType = ret → meth.locks = false →
      GoK p e below (DoneK s below n0 rm.cells rm.slots Q) T (entryFrame m as' maxL)) : CtK l Z y bytes maxL ret rm as' h0 n0 Q := by
  intro ws
  refine MetFree.of_bodySF hp hisR ?_
  intro p e s m args below meth c s₁ Bd hml0 hP hK
  obtain ⟨rfl, hZ, hh⟩ := hP
  have hown : s.vm.findClass y.cls = some m.cls := findClass_of_methodNamed Bd.named
  have hnm := (name_of_methodNamed Bd.named Bd.method).1
  have X0 : Stand p l e rm s m args below meth c s₁ [] 0 0 := Stand.of_body Bd
  have e0 : s₁.heap = h0 := by rw [← hh, Bd.state]; rfl
  obtain ⟨u, hu, hrun, v, L, hen, hQ, hN, hF⟩ := body ⟨[], X0, e0, Fr.nil n0⟩ Bd.exec hZ Bd.bytes hml0 hown hnm Bd.returns (BodyLoose.notSynchronized Bd)
  exact ⟨u, _, hu, hrun, hen, v, L, rfl, ⟨hQ, hN⟩, hF⟩
theorem GoK.entry {as' : Array Value} {n : Nat} (q : entryFrame m as' n = mkF m 0 Ls []) (G : GoK p e below D T (mkF m 0 Ls [])) : GoK p e below D T (entryFrame m as' n) := q ▸ G
theorem go_nameI {x : Int32} (G : ∀ z : Int32, z = x → GoK p e below D T (mkF m pc Ls (.int z :: St))) : GoK p e below D T (mkF m pc Ls (.int x :: St)) := G x rfl
theorem go_nameJ {x : Int64} (G : ∀ z : Int64, z = x → GoK p e below D T (mkF m pc Ls (.long z :: St))) : GoK p e below D T (mkF m pc Ls (.long x :: St)) := G x rfl
/-- the end: what every return has in common -/
theorem go_end {C S : Nat} {Q : Option Value → Heap → Prop} {v : Option Value} {g : JFrame} (X : OnK p l e R s m args below meth c n0 T h cells slots) (hlk : meth.locks = false) (hv : meth.sig.returnType = none → v = none) (hc : cells ≤ C) (hs : slots ≤ S) (q : Q v h)
    (st : ∀ {locs : List Loc}, Stand p l e R s m args below meth c T locs cells slots → ∀ {fs : List Frame}, (∀ (f : JFrame) (acts : List Action), f.method = m → f.locked = none → f.entered = [] → (doReturn e (T.setTop f) acts v).1 = T.setFrames fs) → Steps p.tables e below (T.setTop g) (T.setFrames fs)) :
    GoK p e below (DoneK s below n0 C S Q) T g := by
  obtain ⟨locs, X, rfl, N⟩ := X
  obtain ⟨fs, hr, hrun, hended, hW, hsame⟩ := X.leave (v := v) hv hlk
  exact ⟨_, st X hr, hrun, v, locs, hended, q, N, ⟨_, rfl⟩, hW, hsame.mono hc hs⟩
theorem go_retI {C S : Nat} {P : Int32 → Heap → Prop} {x : Int32} (X : OnK p l e R s m args below meth c n0 T h cells slots) (hx : p.tables.exec = Jvm.exec) (hret : meth.sig.returnType = some .int) (hlk : meth.locks = false) (hd : decode c.code pc = .ok (.ireturn, 1)) (hc : cells ≤ C) (hs : slots ≤ S) (q : P x h) : GoK p e below (DoneK s below n0 C S (QI P)) T (mkF m pc Ls (.int x :: St)) := by
  refine go_end (v := some (.int x)) X hlk (fun q => by rw [hret] at q; cases q) hc hs ⟨_, rfl, q⟩ ?_
  intro locs Y fs hr
  have hm' : T.vm.method? m = some meth := Y.method'
  have hn : narrow .int (.int x) = .int x := rfl
  show Steps p.tables e below (T.setTop { method := m, pc := pc, locals := Ls, stack := _ :: St, locked := none }) _
  jvm_step Y.here [Y.here.top, hx, hd, hm', hret, hn]
  first | (intro acts; rw [hr _ acts rfl rfl rfl]) | rw [hr _ _ rfl rfl rfl]
  exact Steps.refl _
theorem go_retN {C S : Nat} {P : Int32 → Heap → Prop} {x : Int32} {t : FieldType} (X : OnK p l e R s m args below meth c n0 T h cells slots) (hx : p.tables.exec = Jvm.exec) (hret : meth.sig.returnType = some t) (ht : t = .boolean ∨ t = .byte ∨ t = .char ∨ t = .short) (hlk : meth.locks = false) (hd : decode c.code pc = .ok (.ireturn, 1)) (hc : cells ≤ C) (hs : slots ≤ S) (q : P (nar t x) h) : GoK p e below (DoneK s below n0 C S (QI P)) T (mkF m pc Ls (.int x :: St)) := by
  refine go_end (v := some (.int (nar t x))) X hlk (fun q => by rw [hret] at q; cases q) hc hs ⟨_, rfl, q⟩ ?_
  intro locs Y fs hr
  exact retN Y hx hret ht hd hr
theorem go_retV {C S : Nat} {P : Heap → Prop} (X : OnK p l e R s m args below meth c n0 T h cells slots) (hx : p.tables.exec = Jvm.exec) (hret : meth.sig.returnType = none) (hlk : meth.locks = false) (hd : decode c.code pc = .ok (.return_, 1)) (hc : cells ≤ C) (hs : slots ≤ S) (q : P h) : GoK p e below (DoneK s below n0 C S (QV P)) T (mkF m pc Ls []) := by
  refine go_end (v := none) X hlk (fun _ => rfl) hc hs ⟨rfl, q⟩ ?_
  intro locs Y fs hr
  exact Y.returnOut hx hret hd hr
theorem go_retJ {C S : Nat} {P : Int64 → Heap → Prop} {x : Int64} (X : OnK p l e R s m args below meth c n0 T h cells slots) (hx : p.tables.exec = Jvm.exec) (hret : meth.sig.returnType = some .long) (hlk : meth.locks = false) (hd : decode c.code pc = .ok (.lreturn, 1)) (hc : cells ≤ C) (hs : slots ≤ S) (q : P x h) : GoK p e below (DoneK s below n0 C S (QJ P)) T (mkF m pc Ls (.long x :: St)) := by
  refine go_end (v := some (.long x)) X hlk (fun q => by rw [hret] at q; cases q) hc hs ⟨_, rfl, q⟩ ?_
  intro locs Y fs hr
  exact retOut Y hx hret rfl (Or.inr (Or.inl ⟨rfl, rfl, _, rfl⟩)) hd hr
theorem go_retA {C S : Nat} {P : Addr → Heap → Prop} {x : Addr} {t : FieldType} (X : OnK p l e R s m args below meth c n0 T h cells slots) (hx : p.tables.exec = Jvm.exec) (hret : meth.sig.returnType = some t) (ht : t.isReference = true) (hnr : narrow t (.ref x) = .ref x) (hlk : meth.locks = false) (hd : decode c.code pc = .ok (.areturn, 1)) (hc : cells ≤ C) (hs : slots ≤ S) (q : P x h) : GoK p e below (DoneK s below n0 C S (QA P)) T (mkF m pc Ls (.ref x :: St)) := by
  refine go_end (v := some (.ref x)) X hlk (fun q => by rw [hret] at q; cases q) hc hs ⟨_, rfl, q⟩ ?_
  intro locs Y fs hr
  exact retOut Y hx hret hnr (Or.inr (Or.inr (Or.inr (Or.inr ⟨rfl, ht, rfl⟩)))) hd hr
theorem go_iadd (X : OnK p l e R s m args below meth c n0 T h cells slots) (hx : p.tables.exec = Jvm.exec) {x y : Int32} (hd : decode c.code pc = .ok (.iadd, 1)) (hp : pc + 1 = pc') (G : GoK p e below D T (mkF m pc' Ls (.int (x + y) :: St))) : GoK p e below D T (mkF m pc Ls (.int y :: .int x :: St)) := by
  subst hp
  exact GoK.by (fun t k => XS.iadd X.at hx rfl hd rfl k) G
theorem go_isub (X : OnK p l e R s m args below meth c n0 T h cells slots) (hx : p.tables.exec = Jvm.exec) {x y : Int32} (hd : decode c.code pc = .ok (.isub, 1)) (hp : pc + 1 = pc') (G : GoK p e below D T (mkF m pc' Ls (.int (x - y) :: St))) : GoK p e below D T (mkF m pc Ls (.int y :: .int x :: St)) := by
  subst hp
  exact GoK.by (fun t k => XS.isub X.at hx rfl hd rfl k) G
theorem go_imul (X : OnK p l e R s m args below meth c n0 T h cells slots) (hx : p.tables.exec = Jvm.exec) {x y : Int32} (hd : decode c.code pc = .ok (.imul, 1)) (hp : pc + 1 = pc') (G : GoK p e below D T (mkF m pc' Ls (.int (x * y) :: St))) : GoK p e below D T (mkF m pc Ls (.int y :: .int x :: St)) := by
  subst hp
  exact GoK.by (fun t k => XS.imul X.at hx rfl hd rfl k) G
theorem go_iand (X : OnK p l e R s m args below meth c n0 T h cells slots) (hx : p.tables.exec = Jvm.exec) {x y : Int32} (hd : decode c.code pc = .ok (.iand, 1)) (hp : pc + 1 = pc') (G : GoK p e below D T (mkF m pc' Ls (.int (x &&& y) :: St))) : GoK p e below D T (mkF m pc Ls (.int y :: .int x :: St)) := by
  subst hp
  exact GoK.by (fun t k => XS.iand X.at hx rfl hd rfl k) G
theorem go_ior (X : OnK p l e R s m args below meth c n0 T h cells slots) (hx : p.tables.exec = Jvm.exec) {x y : Int32} (hd : decode c.code pc = .ok (.ior, 1)) (hp : pc + 1 = pc') (G : GoK p e below D T (mkF m pc' Ls (.int (x ||| y) :: St))) : GoK p e below D T (mkF m pc Ls (.int y :: .int x :: St)) := by
  subst hp
  exact GoK.by (fun t k => XS.ior X.at hx rfl hd rfl k) G
theorem go_ixor (X : OnK p l e R s m args below meth c n0 T h cells slots) (hx : p.tables.exec = Jvm.exec) {x y : Int32} (hd : decode c.code pc = .ok (.ixor, 1)) (hp : pc + 1 = pc') (G : GoK p e below D T (mkF m pc' Ls (.int (x ^^^ y) :: St))) : GoK p e below D T (mkF m pc Ls (.int y :: .int x :: St)) := by
  subst hp
  exact GoK.by (fun t k => XS.ixor X.at hx rfl hd rfl k) G
theorem go_ishl (X : OnK p l e R s m args below meth c n0 T h cells slots) (hx : p.tables.exec = Jvm.exec) {x y : Int32} (hd : decode c.code pc = .ok (.ishl, 1)) (hp : pc + 1 = pc') (G : GoK p e below D T (mkF m pc' Ls (.int (x <<< (y &&& 31)) :: St))) : GoK p e below D T (mkF m pc Ls (.int y :: .int x :: St)) := by
  subst hp
  exact GoK.by (fun t k => XS.ishl X.at hx rfl hd rfl k) G
theorem go_ishr (X : OnK p l e R s m args below meth c n0 T h cells slots) (hx : p.tables.exec = Jvm.exec) {x y : Int32} (hd : decode c.code pc = .ok (.ishr, 1)) (hp : pc + 1 = pc') (G : GoK p e below D T (mkF m pc' Ls (.int (x >>> (y &&& 31)) :: St))) : GoK p e below D T (mkF m pc Ls (.int y :: .int x :: St)) := by
  subst hp
  exact GoK.by (fun t k => XS.ishr X.at hx rfl hd rfl k) G
theorem go_iushr (X : OnK p l e R s m args below meth c n0 T h cells slots) (hx : p.tables.exec = Jvm.exec) {x y : Int32} (hd : decode c.code pc = .ok (.iushr, 1)) (hp : pc + 1 = pc') (G : GoK p e below D T (mkF m pc' Ls (.int ((x.toUInt32 >>> (y &&& 31).toUInt32).toInt32) :: St))) : GoK p e below D T (mkF m pc Ls (.int y :: .int x :: St)) := by
  subst hp
  exact GoK.by (fun t k => XS.iushr X.at hx rfl hd rfl k) G
theorem go_ladd (X : OnK p l e R s m args below meth c n0 T h cells slots) (hx : p.tables.exec = Jvm.exec) {x y : Int64} (hd : decode c.code pc = .ok (.ladd, 1)) (hp : pc + 1 = pc') (G : GoK p e below D T (mkF m pc' Ls (.long (x + y) :: St))) : GoK p e below D T (mkF m pc Ls (.long y :: .long x :: St)) := by
  subst hp
  exact GoK.by (fun t k => XS.ladd X.at hx rfl hd rfl k) G
theorem go_lsub (X : OnK p l e R s m args below meth c n0 T h cells slots) (hx : p.tables.exec = Jvm.exec) {x y : Int64} (hd : decode c.code pc = .ok (.lsub, 1)) (hp : pc + 1 = pc') (G : GoK p e below D T (mkF m pc' Ls (.long (x - y) :: St))) : GoK p e below D T (mkF m pc Ls (.long y :: .long x :: St)) := by
  subst hp
  exact GoK.by (fun t k => XS.lsub X.at hx rfl hd rfl k) G
theorem go_lmul (X : OnK p l e R s m args below meth c n0 T h cells slots) (hx : p.tables.exec = Jvm.exec) {x y : Int64} (hd : decode c.code pc = .ok (.lmul, 1)) (hp : pc + 1 = pc') (G : GoK p e below D T (mkF m pc' Ls (.long (x * y) :: St))) : GoK p e below D T (mkF m pc Ls (.long y :: .long x :: St)) := by
  subst hp
  exact GoK.by (fun t k => XS.lmul X.at hx rfl hd rfl k) G
theorem go_land (X : OnK p l e R s m args below meth c n0 T h cells slots) (hx : p.tables.exec = Jvm.exec) {x y : Int64} (hd : decode c.code pc = .ok (.land, 1)) (hp : pc + 1 = pc') (G : GoK p e below D T (mkF m pc' Ls (.long (x &&& y) :: St))) : GoK p e below D T (mkF m pc Ls (.long y :: .long x :: St)) := by
  subst hp
  exact GoK.by (fun t k => XS.land X.at hx rfl hd rfl k) G
theorem go_lor (X : OnK p l e R s m args below meth c n0 T h cells slots) (hx : p.tables.exec = Jvm.exec) {x y : Int64} (hd : decode c.code pc = .ok (.lor, 1)) (hp : pc + 1 = pc') (G : GoK p e below D T (mkF m pc' Ls (.long (x ||| y) :: St))) : GoK p e below D T (mkF m pc Ls (.long y :: .long x :: St)) := by
  subst hp
  exact GoK.by (fun t k => XS.lor X.at hx rfl hd rfl k) G
theorem go_lxor (X : OnK p l e R s m args below meth c n0 T h cells slots) (hx : p.tables.exec = Jvm.exec) {x y : Int64} (hd : decode c.code pc = .ok (.lxor, 1)) (hp : pc + 1 = pc') (G : GoK p e below D T (mkF m pc' Ls (.long (x ^^^ y) :: St))) : GoK p e below D T (mkF m pc Ls (.long y :: .long x :: St)) := by
  subst hp
  exact GoK.by (fun t k => XS.lxor X.at hx rfl hd rfl k) G
theorem go_lshl (X : OnK p l e R s m args below meth c n0 T h cells slots) (hx : p.tables.exec = Jvm.exec) {x : Int64} {y : Int32} (hd : decode c.code pc = .ok (.lshl, 1)) (hp : pc + 1 = pc') (G : GoK p e below D T (mkF m pc' Ls (.long (x <<< (y &&& 0x3f).toInt64) :: St))) : GoK p e below D T (mkF m pc Ls (.int y :: .long x :: St)) := by
  subst hp
  exact GoK.by (fun t k => XS.lshl X.at hx rfl hd rfl k) G
theorem go_lshr (X : OnK p l e R s m args below meth c n0 T h cells slots) (hx : p.tables.exec = Jvm.exec) {x : Int64} {y : Int32} (hd : decode c.code pc = .ok (.lshr, 1)) (hp : pc + 1 = pc') (G : GoK p e below D T (mkF m pc' Ls (.long (x >>> (y &&& 0x3f).toInt64) :: St))) : GoK p e below D T (mkF m pc Ls (.int y :: .long x :: St)) := by
  subst hp
  exact GoK.by (fun t k => XS.lshr X.at hx rfl hd rfl k) G
theorem go_lushr (X : OnK p l e R s m args below meth c n0 T h cells slots) (hx : p.tables.exec = Jvm.exec) {x : Int64} {y : Int32} (hd : decode c.code pc = .ok (.lushr, 1)) (hp : pc + 1 = pc') (G : GoK p e below D T (mkF m pc' Ls (.long ((x.toUInt64 >>> (y &&& 0x3f).toInt64.toUInt64).toInt64) :: St))) : GoK p e below D T (mkF m pc Ls (.int y :: .long x :: St)) := by
  subst hp
  exact GoK.by (fun t k => XS.lushr X.at hx rfl hd rfl k) G
theorem go_idiv (X : OnK p l e R s m args below meth c n0 T h cells slots) (hx : p.tables.exec = Jvm.exec) {x y : Int32} (hd : decode c.code pc = .ok (.idiv, 1)) (hp : pc + 1 = pc') (hy : y ≠ 0) (G : GoK p e below D T (mkF m pc' Ls (.int (x / y) :: St))) : GoK p e below D T (mkF m pc Ls (.int y :: .int x :: St)) := by
  subst hp
  exact GoK.by (fun t k => XS.idiv X.at hx rfl hd rfl hy k) G
theorem go_ldiv (X : OnK p l e R s m args below meth c n0 T h cells slots) (hx : p.tables.exec = Jvm.exec) {x y : Int64} (hd : decode c.code pc = .ok (.ldiv, 1)) (hp : pc + 1 = pc') (hy : y ≠ 0) (G : GoK p e below D T (mkF m pc' Ls (.long (x / y) :: St))) : GoK p e below D T (mkF m pc Ls (.long y :: .long x :: St)) := by
  subst hp
  exact GoK.by (fun t k => XS.ldiv X.at hx rfl hd rfl hy k) G
theorem go_irem (X : OnK p l e R s m args below meth c n0 T h cells slots) (hx : p.tables.exec = Jvm.exec) {x y : Int32} (hd : decode c.code pc = .ok (.irem, 1)) (hp : pc + 1 = pc') (hy : y ≠ 0) (G : GoK p e below D T (mkF m pc' Ls (.int (x % y) :: St))) : GoK p e below D T (mkF m pc Ls (.int y :: .int x :: St)) := by
  subst hp
  obtain ⟨_, Y, -, -⟩ := X
  exact GoK.by (fun t k => iremM Y hx rfl hd rfl hy k) G
theorem go_lrem (X : OnK p l e R s m args below meth c n0 T h cells slots) (hx : p.tables.exec = Jvm.exec) {x y : Int64} (hd : decode c.code pc = .ok (.lrem, 1)) (hp : pc + 1 = pc') (hy : y ≠ 0) (G : GoK p e below D T (mkF m pc' Ls (.long (x % y) :: St))) : GoK p e below D T (mkF m pc Ls (.long y :: .long x :: St)) := by
  subst hp
  rw [← lrem_mod] at G
  exact GoK.by (fun t k => XS.lrem X.at hx rfl hd rfl hy k) G
theorem go_ineg (X : OnK p l e R s m args below meth c n0 T h cells slots) (hx : p.tables.exec = Jvm.exec) {x : Int32} (hd : decode c.code pc = .ok (.ineg, 1)) (hp : pc + 1 = pc') (G : GoK p e below D T (mkF m pc' Ls (.int (-x) :: St))) : GoK p e below D T (mkF m pc Ls (.int x :: St)) := by
  subst hp
  exact GoK.by (fun t k => XS.ineg X.at hx rfl hd rfl k) G
theorem go_lneg (X : OnK p l e R s m args below meth c n0 T h cells slots) (hx : p.tables.exec = Jvm.exec) {x : Int64} (hd : decode c.code pc = .ok (.lneg, 1)) (hp : pc + 1 = pc') (G : GoK p e below D T (mkF m pc' Ls (.long (-x) :: St))) : GoK p e below D T (mkF m pc Ls (.long x :: St)) := by
  subst hp
  exact GoK.by (fun t k => XS.lneg X.at hx rfl hd rfl k) G
theorem go_i2l (X : OnK p l e R s m args below meth c n0 T h cells slots) (hx : p.tables.exec = Jvm.exec) {x : Int32} (hd : decode c.code pc = .ok (.i2l, 1)) (hp : pc + 1 = pc') (G : GoK p e below D T (mkF m pc' Ls (.long (x.toInt64) :: St))) : GoK p e below D T (mkF m pc Ls (.int x :: St)) := by
  subst hp
  exact GoK.by (fun t k => XS.i2l X.at hx rfl hd rfl k) G
theorem go_l2i (X : OnK p l e R s m args below meth c n0 T h cells slots) (hx : p.tables.exec = Jvm.exec) {x : Int64} (hd : decode c.code pc = .ok (.l2i, 1)) (hp : pc + 1 = pc') (G : GoK p e below D T (mkF m pc' Ls (.int (x.toInt32) :: St))) : GoK p e below D T (mkF m pc Ls (.long x :: St)) := by
  subst hp
  exact GoK.by (fun t k => XS.l2i X.at hx rfl hd rfl k) G
theorem go_i2b (X : OnK p l e R s m args below meth c n0 T h cells slots) (hx : p.tables.exec = Jvm.exec) {x : Int32} (hd : decode c.code pc = .ok (.i2b, 1)) (hp : pc + 1 = pc') (G : GoK p e below D T (mkF m pc' Ls (.int (x.toInt8.toInt32) :: St))) : GoK p e below D T (mkF m pc Ls (.int x :: St)) := by
  subst hp
  exact GoK.by (fun t k => XS.i2b X.at hx rfl hd rfl k) G
theorem go_i2s (X : OnK p l e R s m args below meth c n0 T h cells slots) (hx : p.tables.exec = Jvm.exec) {x : Int32} (hd : decode c.code pc = .ok (.i2s, 1)) (hp : pc + 1 = pc') (G : GoK p e below D T (mkF m pc' Ls (.int (x.toInt16.toInt32) :: St))) : GoK p e below D T (mkF m pc Ls (.int x :: St)) := by
  subst hp
  exact GoK.by (fun t k => XS.i2s X.at hx rfl hd rfl k) G
theorem go_i2c (X : OnK p l e R s m args below meth c n0 T h cells slots) (hx : p.tables.exec = Jvm.exec) {x : Int32} (hd : decode c.code pc = .ok (.i2c, 1)) (hp : pc + 1 = pc') (G : GoK p e below D T (mkF m pc' Ls (.int (x.toUInt32.toUInt16.toUInt32.toInt32) :: St))) : GoK p e below D T (mkF m pc Ls (.int x :: St)) := by
  subst hp
  exact GoK.by (fun t k => XS.i2c X.at hx rfl hd rfl k) G
theorem go_dup (X : OnK p l e R s m args below meth c n0 T h cells slots) (hx : p.tables.exec = Jvm.exec) {v : Value} (hd : decode c.code pc = .ok (.dup, 1)) (hp : pc + 1 = pc') (hv : v.category = 1) (G : GoK p e below D T (mkF m pc' Ls (v :: v :: St))) : GoK p e below D T (mkF m pc Ls (v :: St)) := by
  subst hp
  exact GoK.by (fun t k => XS.dup X.at hx rfl hd rfl hv k) G
theorem go_pop (X : OnK p l e R s m args below meth c n0 T h cells slots) (hx : p.tables.exec = Jvm.exec) {v : Value} (hd : decode c.code pc = .ok (.pop, 1)) (hp : pc + 1 = pc') (hv : v.category = 1) (G : GoK p e below D T (mkF m pc' Ls St)) : GoK p e below D T (mkF m pc Ls (v :: St)) := by
  subst hp
  exact GoK.by (fun t k => XS.pop X.at hx rfl hd rfl hv k) G
theorem go_iload (X : OnK p l e R s m args below meth c n0 T h cells slots) (hx : p.tables.exec = Jvm.exec) {k : Nat} {v : Int32} (hd : decode c.code pc = .ok (.iload k, 2)) (hp : pc + 2 = pc') (hl : Ls[k]? = some (.val (.int v))) (G : GoK p e below D T (mkF m pc' Ls (.int v :: St))) : GoK p e below D T (mkF m pc Ls St) := by
  subst hp
  exact GoK.by (fun t k => XS.iload X.at hx rfl hd hl k) G
theorem go_lload (X : OnK p l e R s m args below meth c n0 T h cells slots) (hx : p.tables.exec = Jvm.exec) {k : Nat} {v : Int64} (hd : decode c.code pc = .ok (.lload k, 2)) (hp : pc + 2 = pc') (hl : Ls[k]? = some (.val (.long v))) (G : GoK p e below D T (mkF m pc' Ls (.long v :: St))) : GoK p e below D T (mkF m pc Ls St) := by
  subst hp
  exact GoK.by (fun t k => XS.lload X.at hx rfl hd hl k) G
theorem go_aload (X : OnK p l e R s m args below meth c n0 T h cells slots) (hx : p.tables.exec = Jvm.exec) {k : Nat} {v : Addr} (hd : decode c.code pc = .ok (.aload k, 2)) (hp : pc + 2 = pc') (hl : Ls[k]? = some (.val (.ref v))) (G : GoK p e below D T (mkF m pc' Ls (.ref v :: St))) : GoK p e below D T (mkF m pc Ls St) := by
  subst hp
  exact GoK.by (fun t k => XS.aload X.at hx rfl hd hl rfl k) G
theorem go_istore (X : OnK p l e R s m args below meth c n0 T h cells slots) (hx : p.tables.exec = Jvm.exec) {k : Nat} {v : Int32} {L' : Array Slot} (hd : decode c.code pc = .ok (.istore k, 2)) (hp : pc + 2 = pc') (hl : storeLocals Ls k (.int v) = some L') (G : GoK p e below D T (mkF m pc' L' St)) : GoK p e below D T (mkF m pc Ls (.int v :: St)) := by
  subst hp
  exact GoK.by (fun t k => XS.istore X.at hx rfl hd rfl hl k) G
theorem go_lstore (X : OnK p l e R s m args below meth c n0 T h cells slots) (hx : p.tables.exec = Jvm.exec) {k : Nat} {v : Int64} {L' : Array Slot} (hd : decode c.code pc = .ok (.lstore k, 2)) (hp : pc + 2 = pc') (hl : storeLocals Ls k (.long v) = some L') (G : GoK p e below D T (mkF m pc' L' St)) : GoK p e below D T (mkF m pc Ls (.long v :: St)) := by
  subst hp
  exact GoK.by (fun t k => XS.lstore X.at hx rfl hd rfl hl k) G
theorem go_astore (X : OnK p l e R s m args below meth c n0 T h cells slots) (hx : p.tables.exec = Jvm.exec) {k : Nat} {v : Addr} {L' : Array Slot} (hd : decode c.code pc = .ok (.astore k, 2)) (hp : pc + 2 = pc') (hl : storeLocals Ls k (.ref v) = some L') (G : GoK p e below D T (mkF m pc' L' St)) : GoK p e below D T (mkF m pc Ls (.ref v :: St)) := by
  subst hp
  exact GoK.by (fun t k => XS.astore X.at hx rfl hd rfl rfl hl k) G
theorem go_iloadN (X : OnK p l e R s m args below meth c n0 T h cells slots) (hx : p.tables.exec = Jvm.exec) {k : Fin 4} {v : Int32} (hd : decode c.code pc = .ok (.iload_n k, 1)) (hp : pc + 1 = pc') (hl : Ls[k.val]? = some (.val (.int v))) (G : GoK p e below D T (mkF m pc' Ls (.int v :: St))) : GoK p e below D T (mkF m pc Ls St) := by
  subst hp
  exact GoK.by (fun t k => XS.iloadN X.at hx rfl hd hl k) G
theorem go_lloadN (X : OnK p l e R s m args below meth c n0 T h cells slots) (hx : p.tables.exec = Jvm.exec) {k : Fin 4} {v : Int64} (hd : decode c.code pc = .ok (.lload_n k, 1)) (hp : pc + 1 = pc') (hl : Ls[k.val]? = some (.val (.long v))) (G : GoK p e below D T (mkF m pc' Ls (.long v :: St))) : GoK p e below D T (mkF m pc Ls St) := by
  subst hp
  exact GoK.by (fun t k => XS.lloadN X.at hx rfl hd hl k) G
theorem go_aloadN (X : OnK p l e R s m args below meth c n0 T h cells slots) (hx : p.tables.exec = Jvm.exec) {k : Fin 4} {v : Addr} (hd : decode c.code pc = .ok (.aload_n k, 1)) (hp : pc + 1 = pc') (hl : Ls[k.val]? = some (.val (.ref v))) (G : GoK p e below D T (mkF m pc' Ls (.ref v :: St))) : GoK p e below D T (mkF m pc Ls St) := by
  subst hp
  exact GoK.by (fun t k => XS.aloadN X.at hx rfl hd hl rfl k) G
theorem go_istoreN (X : OnK p l e R s m args below meth c n0 T h cells slots) (hx : p.tables.exec = Jvm.exec) {k : Fin 4} {v : Int32} {L' : Array Slot} (hd : decode c.code pc = .ok (.istore_n k, 1)) (hp : pc + 1 = pc') (hl : storeLocals Ls k.val (.int v) = some L') (G : GoK p e below D T (mkF m pc' L' St)) : GoK p e below D T (mkF m pc Ls (.int v :: St)) := by
  subst hp
  exact GoK.by (fun t k => XS.istoreN X.at hx rfl hd rfl hl k) G
theorem go_lstoreN (X : OnK p l e R s m args below meth c n0 T h cells slots) (hx : p.tables.exec = Jvm.exec) {k : Fin 4} {v : Int64} {L' : Array Slot} (hd : decode c.code pc = .ok (.lstore_n k, 1)) (hp : pc + 1 = pc') (hl : storeLocals Ls k.val (.long v) = some L') (G : GoK p e below D T (mkF m pc' L' St)) : GoK p e below D T (mkF m pc Ls (.long v :: St)) := by
  subst hp
  exact GoK.by (fun t k => XS.lstoreN X.at hx rfl hd rfl hl k) G
theorem go_astoreN (X : OnK p l e R s m args below meth c n0 T h cells slots) (hx : p.tables.exec = Jvm.exec) {k : Fin 4} {v : Addr} {L' : Array Slot} (hd : decode c.code pc = .ok (.astore_n k, 1)) (hp : pc + 1 = pc') (hl : storeLocals Ls k.val (.ref v) = some L') (G : GoK p e below D T (mkF m pc' L' St)) : GoK p e below D T (mkF m pc Ls (.ref v :: St)) := by
  subst hp
  exact GoK.by (fun t k => XS.astoreN X.at hx rfl hd rfl rfl hl k) G
theorem go_iinc (X : OnK p l e R s m args below meth c n0 T h cells slots) (hx : p.tables.exec = Jvm.exec) {k : Nat} {i : Int} {v w : Int32} {L' : Array Slot} (hd : decode c.code pc = .ok (.iinc k i, 3)) (hp : pc + 3 = pc') (hl : Ls[k]? = some (.val (.int v))) (hi : v + Int32.ofInt i = w) (hs : storeLocals Ls k (.int w) = some L') (G : GoK p e below D T (mkF m pc' L' St)) : GoK p e below D T (mkF m pc Ls St) := by
  subst hp
  exact GoK.by (fun t k => XS.iinc X.at hx rfl hd hl (hi.symm ▸ hs) k) G
theorem go_iconst (X : OnK p l e R s m args below meth c n0 T h cells slots) (hx : p.tables.exec = Jvm.exec) {i : Int} {v : Int32} (hd : decode c.code pc = .ok (.iconst i, 1)) (hp : pc + 1 = pc') (hv : Int32.ofInt i = v) (G : GoK p e below D T (mkF m pc' Ls (.int v :: St))) : GoK p e below D T (mkF m pc Ls St) := by
  subst hp
  exact GoK.by (fun t k => Jvm.Free.XT.iconstV X.at hx rfl v hd hv k) G
theorem go_bipush (X : OnK p l e R s m args below meth c n0 T h cells slots) (hx : p.tables.exec = Jvm.exec) {i : Int} {v : Int32} (hd : decode c.code pc = .ok (.bipush i, 2)) (hp : pc + 2 = pc') (hv : (Int8.ofInt i).toInt32 = v) (G : GoK p e below D T (mkF m pc' Ls (.int v :: St))) : GoK p e below D T (mkF m pc Ls St) := by
  subst hp
  exact GoK.by (fun t k => Jvm.Free.XT.bipushV X.at hx rfl v hd hv k) G
theorem go_sipush (X : OnK p l e R s m args below meth c n0 T h cells slots) (hx : p.tables.exec = Jvm.exec) {i : Int} {v : Int32} (hd : decode c.code pc = .ok (.sipush i, 3)) (hp : pc + 3 = pc') (hv : (Int16.ofInt i).toInt32 = v) (G : GoK p e below D T (mkF m pc' Ls (.int v :: St))) : GoK p e below D T (mkF m pc Ls St) := by
  subst hp
  exact GoK.by (fun t k => Jvm.Free.XT.sipushV X.at hx rfl v hd hv k) G
theorem go_lconst (X : OnK p l e R s m args below meth c n0 T h cells slots) (hx : p.tables.exec = Jvm.exec) {i : Fin 2} {v : Int64} (hd : decode c.code pc = .ok (.lconst i, 1)) (hp : pc + 1 = pc') (hv : Int64.ofNat i = v) (G : GoK p e below D T (mkF m pc' Ls (.long v :: St))) : GoK p e below D T (mkF m pc Ls St) := by
  subst hp
  exact GoK.by (fun t k => Jvm.Free.XT.lconstV X.at hx rfl v hd hv k) G
theorem go_goto (X : OnK p l e R s m args below meth c n0 T h cells slots) (hx : p.tables.exec = Jvm.exec) {o : Int} (hd : decode c.code pc = .ok (.goto o, 3)) (ho : 0 ≤ (pc : Int) + o) (hp : ((pc : Int) + o).toNat = pc') (G : GoK p e below D T (mkF m pc' Ls St)) : GoK p e below D T (mkF m pc Ls St) :=
  GoK.by (fun t k => XS.goto X.at hx rfl rfl hd ho hp k) G
theorem go_dup2 (X : OnK p l e R s m args below meth c n0 T h cells slots) (hx : p.tables.exec = Jvm.exec) {j : Int32} {a : Addr} (hd : decode c.code pc = .ok (.dup2, 1)) (hp : pc + 1 = pc') (G : GoK p e below D T (mkF m pc' Ls (.int j :: .ref a :: .int j :: .ref a :: St))) : GoK p e below D T (mkF m pc Ls (.int j :: .ref a :: St)) := by
  subst hp
  refine GoK.by (fun t k => ?_) G
  jvm_step X.at [X.at.top, hx, hd, Value.category]
  exact k
theorem go_ldcI (X : OnK p l e R s m args below meth c n0 T h cells slots) (hx : p.tables.exec = Jvm.exec) (hZ : Z.Warmed39 s.vm) {own : String} {i : Nat} {v : Int32} (hown : s.vm.findClass own = some m.cls) (wd : (Jvm.Cond.constant own i v).before a0 Z = true) (hd : decode c.code pc = .ok (.ldc i, 2)) (hp : pc + 2 = pc') (G : GoK p e below D T (mkF m pc' Ls (.int v :: St))) : GoK p e below D T (mkF m pc Ls St) := by
  subst hp
  obtain ⟨_, Y, -, -⟩ := X
  exact GoK.by (fun t k => Y.ldcInt hx hown (mvT hZ wd) (g := mkF m pc Ls St) rfl hd t k) G
theorem go_ldcwI (X : OnK p l e R s m args below meth c n0 T h cells slots) (hx : p.tables.exec = Jvm.exec) (hZ : Z.Warmed39 s.vm) {own : String} {i : Nat} {v : Int32} (hown : s.vm.findClass own = some m.cls) (wd : (Jvm.Cond.constant own i v).before a0 Z = true) (hd : decode c.code pc = .ok (.ldc_w i, 3)) (hp : pc + 3 = pc') (G : GoK p e below D T (mkF m pc' Ls (.int v :: St))) : GoK p e below D T (mkF m pc Ls St) := by
  subst hp
  obtain ⟨_, Y, -, -⟩ := X
  exact GoK.by (fun t k => Y.ldcwInt hx hown (mvT hZ wd) (g := mkF m pc Ls St) rfl hd t k) G
theorem go_ldc2 (X : OnK p l e R s m args below meth c n0 T h cells slots) (hx : p.tables.exec = Jvm.exec) (hZ : Z.Warmed39 s.vm) {own : String} {i : Nat} {v : Int64} (hown : s.vm.findClass own = some m.cls) (wd : (Jvm.Cond.constantLong own i v).before a0 Z = true) (hd : decode c.code pc = .ok (.ldc2_w i, 3)) (hp : pc + 3 = pc') (G : GoK p e below D T (mkF m pc' Ls (.long v :: St))) : GoK p e below D T (mkF m pc Ls St) := by
  subst hp
  obtain ⟨_, Y, -, -⟩ := X
  exact GoK.by (fun t k => Y.ldc2Long hx hown (mvT hZ wd) (g := mkF m pc Ls St) rfl hd t k) G
theorem go_ifeq (X : OnK p l e R s m args below meth c n0 T h cells slots) (hx : p.tables.exec = Jvm.exec) {x : Int32} {o : Int} {pcT : Nat} (hd : decode c.code pc = .ok (.ifCond .eq o, 3)) (hp : pc + 3 = pc') (ho : 0 ≤ (pc : Int) + o) (ht : ((pc : Int) + o).toNat = pcT) (G1 : x = 0 → GoK p e below D T (mkF m pcT Ls St)) (G2 : ¬ x = 0 → GoK p e below D T (mkF m pc' Ls St)) : GoK p e below D T (mkF m pc Ls (.int x :: St)) := by
  subst hp
  by_cases q : x = 0
  · exact GoK.by (fun t k => XS.ifYes X.at hx rfl rfl hd rfl ((if0 _ _).trans (teq q).1) ho ht k) (G1 q)
  · exact GoK.by (fun t k => XS.ifNo X.at hx rfl hd rfl ((if0 _ _).trans (feq q).1) k) (G2 q)
theorem go_icmpeq (X : OnK p l e R s m args below meth c n0 T h cells slots) (hx : p.tables.exec = Jvm.exec) {x y : Int32} {o : Int} {pcT : Nat} (hd : decode c.code pc = .ok (.if_icmp .eq o, 3)) (hp : pc + 3 = pc') (ho : 0 ≤ (pc : Int) + o) (ht : ((pc : Int) + o).toNat = pcT) (G1 : x = y → GoK p e below D T (mkF m pcT Ls St)) (G2 : ¬ x = y → GoK p e below D T (mkF m pc' Ls St)) : GoK p e below D T (mkF m pc Ls (.int y :: .int x :: St)) := by
  subst hp
  by_cases q : x = y
  · exact GoK.by (fun t k => XS.icmpYes X.at hx rfl rfl hd rfl (teq q).1 ho ht k) (G1 q)
  · exact GoK.by (fun t k => XS.icmpNo X.at hx rfl hd rfl (feq q).1 k) (G2 q)
theorem go_lifeq (X : OnK p l e R s m args below meth c n0 T h cells slots) (hx : p.tables.exec = Jvm.exec) {x y : Int64} {o : Int} {pc1 pcT : Nat} (hd1 : decode c.code pc = .ok (.lcmp, 1)) (hp1 : pc + 1 = pc1) (hd : decode c.code pc1 = .ok (.ifCond .eq o, 3)) (hp : pc1 + 3 = pc') (ho : 0 ≤ (pc1 : Int) + o) (ht : ((pc1 : Int) + o).toNat = pcT) (G1 : x = y → GoK p e below D T (mkF m pcT Ls St)) (G2 : ¬ x = y → GoK p e below D T (mkF m pc' Ls St)) : GoK p e below D T (mkF m pc Ls (.long y :: .long x :: St)) := by
  subst hp1
  refine GoK.by (fun t k => XS.lcmp X.at hx rfl hd1 rfl k) ?_
  exact go_ifeq X hx hd hp ho ht (fun q => G1 ((lw_eq x y).mp q)) (fun q => G2 ((not_congr (lw_eq x y)).mp q))
theorem go_ifne (X : OnK p l e R s m args below meth c n0 T h cells slots) (hx : p.tables.exec = Jvm.exec) {x : Int32} {o : Int} {pcT : Nat} (hd : decode c.code pc = .ok (.ifCond .ne o, 3)) (hp : pc + 3 = pc') (ho : 0 ≤ (pc : Int) + o) (ht : ((pc : Int) + o).toNat = pcT) (G1 : ¬ x = 0 → GoK p e below D T (mkF m pcT Ls St)) (G2 : x = 0 → GoK p e below D T (mkF m pc' Ls St)) : GoK p e below D T (mkF m pc Ls (.int x :: St)) := by
  subst hp
  by_cases q : ¬ x = 0
  · exact GoK.by (fun t k => XS.ifYes X.at hx rfl rfl hd rfl ((if0 _ _).trans (feq q).2) ho ht k) (G1 q)
  · exact GoK.by (fun t k => XS.ifNo X.at hx rfl hd rfl ((if0 _ _).trans (teq (Classical.not_not.mp q)).2) k) (G2 (Classical.not_not.mp q))
theorem go_icmpne (X : OnK p l e R s m args below meth c n0 T h cells slots) (hx : p.tables.exec = Jvm.exec) {x y : Int32} {o : Int} {pcT : Nat} (hd : decode c.code pc = .ok (.if_icmp .ne o, 3)) (hp : pc + 3 = pc') (ho : 0 ≤ (pc : Int) + o) (ht : ((pc : Int) + o).toNat = pcT) (G1 : ¬ x = y → GoK p e below D T (mkF m pcT Ls St)) (G2 : x = y → GoK p e below D T (mkF m pc' Ls St)) : GoK p e below D T (mkF m pc Ls (.int y :: .int x :: St)) := by
  subst hp
  by_cases q : ¬ x = y
  · exact GoK.by (fun t k => XS.icmpYes X.at hx rfl rfl hd rfl (feq q).2 ho ht k) (G1 q)
  · exact GoK.by (fun t k => XS.icmpNo X.at hx rfl hd rfl (teq (Classical.not_not.mp q)).2 k) (G2 (Classical.not_not.mp q))
theorem go_lifne (X : OnK p l e R s m args below meth c n0 T h cells slots) (hx : p.tables.exec = Jvm.exec) {x y : Int64} {o : Int} {pc1 pcT : Nat} (hd1 : decode c.code pc = .ok (.lcmp, 1)) (hp1 : pc + 1 = pc1) (hd : decode c.code pc1 = .ok (.ifCond .ne o, 3)) (hp : pc1 + 3 = pc') (ho : 0 ≤ (pc1 : Int) + o) (ht : ((pc1 : Int) + o).toNat = pcT) (G1 : ¬ x = y → GoK p e below D T (mkF m pcT Ls St)) (G2 : x = y → GoK p e below D T (mkF m pc' Ls St)) : GoK p e below D T (mkF m pc Ls (.long y :: .long x :: St)) := by
  subst hp1
  refine GoK.by (fun t k => XS.lcmp X.at hx rfl hd1 rfl k) ?_
  exact go_ifne X hx hd hp ho ht (fun q => G1 ((not_congr (lw_eq x y)).mp q)) (fun q => G2 ((lw_eq x y).mp q))
theorem go_iflt (X : OnK p l e R s m args below meth c n0 T h cells slots) (hx : p.tables.exec = Jvm.exec) {x : Int32} {o : Int} {pcT : Nat} (hd : decode c.code pc = .ok (.ifCond .lt o, 3)) (hp : pc + 3 = pc') (ho : 0 ≤ (pc : Int) + o) (ht : ((pc : Int) + o).toNat = pcT) (G1 : x < 0 → GoK p e below D T (mkF m pcT Ls St)) (G2 : ¬ x < 0 → GoK p e below D T (mkF m pc' Ls St)) : GoK p e below D T (mkF m pc Ls (.int x :: St)) := by
  subst hp
  by_cases q : x < 0
  · exact GoK.by (fun t k => XS.ifYes X.at hx rfl rfl hd rfl ((if0 _ _).trans (tlt q).1) ho ht k) (G1 q)
  · exact GoK.by (fun t k => XS.ifNo X.at hx rfl hd rfl ((if0 _ _).trans (flt q).1) k) (G2 q)
theorem go_icmplt (X : OnK p l e R s m args below meth c n0 T h cells slots) (hx : p.tables.exec = Jvm.exec) {x y : Int32} {o : Int} {pcT : Nat} (hd : decode c.code pc = .ok (.if_icmp .lt o, 3)) (hp : pc + 3 = pc') (ho : 0 ≤ (pc : Int) + o) (ht : ((pc : Int) + o).toNat = pcT) (G1 : x < y → GoK p e below D T (mkF m pcT Ls St)) (G2 : ¬ x < y → GoK p e below D T (mkF m pc' Ls St)) : GoK p e below D T (mkF m pc Ls (.int y :: .int x :: St)) := by
  subst hp
  by_cases q : x < y
  · exact GoK.by (fun t k => XS.icmpYes X.at hx rfl rfl hd rfl (tlt q).1 ho ht k) (G1 q)
  · exact GoK.by (fun t k => XS.icmpNo X.at hx rfl hd rfl (flt q).1 k) (G2 q)
theorem go_liflt (X : OnK p l e R s m args below meth c n0 T h cells slots) (hx : p.tables.exec = Jvm.exec) {x y : Int64} {o : Int} {pc1 pcT : Nat} (hd1 : decode c.code pc = .ok (.lcmp, 1)) (hp1 : pc + 1 = pc1) (hd : decode c.code pc1 = .ok (.ifCond .lt o, 3)) (hp : pc1 + 3 = pc') (ho : 0 ≤ (pc1 : Int) + o) (ht : ((pc1 : Int) + o).toNat = pcT) (G1 : x < y → GoK p e below D T (mkF m pcT Ls St)) (G2 : ¬ x < y → GoK p e below D T (mkF m pc' Ls St)) : GoK p e below D T (mkF m pc Ls (.long y :: .long x :: St)) := by
  subst hp1
  refine GoK.by (fun t k => XS.lcmp X.at hx rfl hd1 rfl k) ?_
  exact go_iflt X hx hd hp ho ht (fun q => G1 ((lw_lt x y).mp q)) (fun q => G2 ((not_congr (lw_lt x y)).mp q))
theorem go_ifge (X : OnK p l e R s m args below meth c n0 T h cells slots) (hx : p.tables.exec = Jvm.exec) {x : Int32} {o : Int} {pcT : Nat} (hd : decode c.code pc = .ok (.ifCond .ge o, 3)) (hp : pc + 3 = pc') (ho : 0 ≤ (pc : Int) + o) (ht : ((pc : Int) + o).toNat = pcT) (G1 : ¬ x < 0 → GoK p e below D T (mkF m pcT Ls St)) (G2 : x < 0 → GoK p e below D T (mkF m pc' Ls St)) : GoK p e below D T (mkF m pc Ls (.int x :: St)) := by
  subst hp
  by_cases q : ¬ x < 0
  · exact GoK.by (fun t k => XS.ifYes X.at hx rfl rfl hd rfl ((if0 _ _).trans (flt q).2.1) ho ht k) (G1 q)
  · exact GoK.by (fun t k => XS.ifNo X.at hx rfl hd rfl ((if0 _ _).trans (tlt (Classical.not_not.mp q)).2.1) k) (G2 (Classical.not_not.mp q))
theorem go_icmpge (X : OnK p l e R s m args below meth c n0 T h cells slots) (hx : p.tables.exec = Jvm.exec) {x y : Int32} {o : Int} {pcT : Nat} (hd : decode c.code pc = .ok (.if_icmp .ge o, 3)) (hp : pc + 3 = pc') (ho : 0 ≤ (pc : Int) + o) (ht : ((pc : Int) + o).toNat = pcT) (G1 : ¬ x < y → GoK p e below D T (mkF m pcT Ls St)) (G2 : x < y → GoK p e below D T (mkF m pc' Ls St)) : GoK p e below D T (mkF m pc Ls (.int y :: .int x :: St)) := by
  subst hp
  by_cases q : ¬ x < y
  · exact GoK.by (fun t k => XS.icmpYes X.at hx rfl rfl hd rfl (flt q).2.1 ho ht k) (G1 q)
  · exact GoK.by (fun t k => XS.icmpNo X.at hx rfl hd rfl (tlt (Classical.not_not.mp q)).2.1 k) (G2 (Classical.not_not.mp q))
theorem go_lifge (X : OnK p l e R s m args below meth c n0 T h cells slots) (hx : p.tables.exec = Jvm.exec) {x y : Int64} {o : Int} {pc1 pcT : Nat} (hd1 : decode c.code pc = .ok (.lcmp, 1)) (hp1 : pc + 1 = pc1) (hd : decode c.code pc1 = .ok (.ifCond .ge o, 3)) (hp : pc1 + 3 = pc') (ho : 0 ≤ (pc1 : Int) + o) (ht : ((pc1 : Int) + o).toNat = pcT) (G1 : ¬ x < y → GoK p e below D T (mkF m pcT Ls St)) (G2 : x < y → GoK p e below D T (mkF m pc' Ls St)) : GoK p e below D T (mkF m pc Ls (.long y :: .long x :: St)) := by
  subst hp1
  refine GoK.by (fun t k => XS.lcmp X.at hx rfl hd1 rfl k) ?_
  exact go_ifge X hx hd hp ho ht (fun q => G1 ((not_congr (lw_lt x y)).mp q)) (fun q => G2 ((lw_lt x y).mp q))
theorem go_ifgt (X : OnK p l e R s m args below meth c n0 T h cells slots) (hx : p.tables.exec = Jvm.exec) {x : Int32} {o : Int} {pcT : Nat} (hd : decode c.code pc = .ok (.ifCond .gt o, 3)) (hp : pc + 3 = pc') (ho : 0 ≤ (pc : Int) + o) (ht : ((pc : Int) + o).toNat = pcT) (G1 : 0 < x → GoK p e below D T (mkF m pcT Ls St)) (G2 : ¬ 0 < x → GoK p e below D T (mkF m pc' Ls St)) : GoK p e below D T (mkF m pc Ls (.int x :: St)) := by
  subst hp
  by_cases q : 0 < x
  · exact GoK.by (fun t k => XS.ifYes X.at hx rfl rfl hd rfl ((if0 _ _).trans (tlt q).2.2.1) ho ht k) (G1 q)
  · exact GoK.by (fun t k => XS.ifNo X.at hx rfl hd rfl ((if0 _ _).trans (flt q).2.2.1) k) (G2 q)
theorem go_icmpgt (X : OnK p l e R s m args below meth c n0 T h cells slots) (hx : p.tables.exec = Jvm.exec) {x y : Int32} {o : Int} {pcT : Nat} (hd : decode c.code pc = .ok (.if_icmp .gt o, 3)) (hp : pc + 3 = pc') (ho : 0 ≤ (pc : Int) + o) (ht : ((pc : Int) + o).toNat = pcT) (G1 : y < x → GoK p e below D T (mkF m pcT Ls St)) (G2 : ¬ y < x → GoK p e below D T (mkF m pc' Ls St)) : GoK p e below D T (mkF m pc Ls (.int y :: .int x :: St)) := by
  subst hp
  by_cases q : y < x
  · exact GoK.by (fun t k => XS.icmpYes X.at hx rfl rfl hd rfl (tlt q).2.2.1 ho ht k) (G1 q)
  · exact GoK.by (fun t k => XS.icmpNo X.at hx rfl hd rfl (flt q).2.2.1 k) (G2 q)
theorem go_lifgt (X : OnK p l e R s m args below meth c n0 T h cells slots) (hx : p.tables.exec = Jvm.exec) {x y : Int64} {o : Int} {pc1 pcT : Nat} (hd1 : decode c.code pc = .ok (.lcmp, 1)) (hp1 : pc + 1 = pc1) (hd : decode c.code pc1 = .ok (.ifCond .gt o, 3)) (hp : pc1 + 3 = pc') (ho : 0 ≤ (pc1 : Int) + o) (ht : ((pc1 : Int) + o).toNat = pcT) (G1 : y < x → GoK p e below D T (mkF m pcT Ls St)) (G2 : ¬ y < x → GoK p e below D T (mkF m pc' Ls St)) : GoK p e below D T (mkF m pc Ls (.long y :: .long x :: St)) := by
  subst hp1
  refine GoK.by (fun t k => XS.lcmp X.at hx rfl hd1 rfl k) ?_
  exact go_ifgt X hx hd hp ho ht (fun q => G1 ((lw_gt x y).mp q)) (fun q => G2 ((not_congr (lw_gt x y)).mp q))
theorem go_ifle (X : OnK p l e R s m args below meth c n0 T h cells slots) (hx : p.tables.exec = Jvm.exec) {x : Int32} {o : Int} {pcT : Nat} (hd : decode c.code pc = .ok (.ifCond .le o, 3)) (hp : pc + 3 = pc') (ho : 0 ≤ (pc : Int) + o) (ht : ((pc : Int) + o).toNat = pcT) (G1 : ¬ 0 < x → GoK p e below D T (mkF m pcT Ls St)) (G2 : 0 < x → GoK p e below D T (mkF m pc' Ls St)) : GoK p e below D T (mkF m pc Ls (.int x :: St)) := by
  subst hp
  by_cases q : ¬ 0 < x
  · exact GoK.by (fun t k => XS.ifYes X.at hx rfl rfl hd rfl ((if0 _ _).trans (flt q).2.2.2) ho ht k) (G1 q)
  · exact GoK.by (fun t k => XS.ifNo X.at hx rfl hd rfl ((if0 _ _).trans (tlt (Classical.not_not.mp q)).2.2.2) k) (G2 (Classical.not_not.mp q))
theorem go_icmple (X : OnK p l e R s m args below meth c n0 T h cells slots) (hx : p.tables.exec = Jvm.exec) {x y : Int32} {o : Int} {pcT : Nat} (hd : decode c.code pc = .ok (.if_icmp .le o, 3)) (hp : pc + 3 = pc') (ho : 0 ≤ (pc : Int) + o) (ht : ((pc : Int) + o).toNat = pcT) (G1 : ¬ y < x → GoK p e below D T (mkF m pcT Ls St)) (G2 : y < x → GoK p e below D T (mkF m pc' Ls St)) : GoK p e below D T (mkF m pc Ls (.int y :: .int x :: St)) := by
  subst hp
  by_cases q : ¬ y < x
  · exact GoK.by (fun t k => XS.icmpYes X.at hx rfl rfl hd rfl (flt q).2.2.2 ho ht k) (G1 q)
  · exact GoK.by (fun t k => XS.icmpNo X.at hx rfl hd rfl (tlt (Classical.not_not.mp q)).2.2.2 k) (G2 (Classical.not_not.mp q))
theorem go_lifle (X : OnK p l e R s m args below meth c n0 T h cells slots) (hx : p.tables.exec = Jvm.exec) {x y : Int64} {o : Int} {pc1 pcT : Nat} (hd1 : decode c.code pc = .ok (.lcmp, 1)) (hp1 : pc + 1 = pc1) (hd : decode c.code pc1 = .ok (.ifCond .le o, 3)) (hp : pc1 + 3 = pc') (ho : 0 ≤ (pc1 : Int) + o) (ht : ((pc1 : Int) + o).toNat = pcT) (G1 : ¬ y < x → GoK p e below D T (mkF m pcT Ls St)) (G2 : y < x → GoK p e below D T (mkF m pc' Ls St)) : GoK p e below D T (mkF m pc Ls (.long y :: .long x :: St)) := by
  subst hp1
  refine GoK.by (fun t k => XS.lcmp X.at hx rfl hd1 rfl k) ?_
  exact go_ifle X hx hd hp ho ht (fun q => G1 ((not_congr (lw_gt x y)).mp q)) (fun q => G2 ((lw_gt x y).mp q))
/-- the array at a: of n places, place i holds the int f i -/
def AIK (Z : State) (h : Heap) (a : Addr) (ty : FieldType) (n : Int) (f : Int → Int32) : Prop := ∃ c : Cell, Arr Z h a c ty ∧ (c.slots.size : Int) = n ∧ n < 2147483648 ∧ ∀ i : Nat, (i : Int) < n → c.slots[i]? = some (.int (f i))
def AJK (Z : State) (h : Heap) (a : Addr) (n : Int) (f : Int → Int64) : Prop := ∃ c : Cell, Arr Z h a c .long ∧ (c.slots.size : Int) = n ∧ n < 2147483648 ∧ ∀ i : Nat, (i : Int) < n → c.slots[i]? = some (.long (f i))
theorem AIK.lt {a : Addr} {ty : FieldType} {n : Int} {f : Int → Int32} (F : AIK Z h a ty n f) : a < h.size := by obtain ⟨c, A, -⟩ := F; exact A.lt
theorem AIK.nn {a : Addr} {ty : FieldType} {n : Int} {f : Int → Int32} (F : AIK Z h a ty n f) : 0 ≤ n ∧ n < 2147483648 := by obtain ⟨c, -, S, q, -⟩ := F; exact ⟨by omega, q⟩
theorem AIK.ext {h' : Heap} {a : Addr} {ty : FieldType} {n : Int} {f : Int → Int32} (F : AIK Z h a ty n f) (E : Ext h h') : AIK Z h' a ty n f := by obtain ⟨c, A, r⟩ := F; exact ⟨c, A.ext E, r⟩
theorem AIK.other {h' : Heap} {a b : Addr} {sl : Nat} {v : Value} {ty : FieldType} {n : Int} {f : Int → Int32} (F : AIK Z h b ty n f) (W : Wr h h' a sl v) (q : b ≠ a) : AIK Z h' b ty n f := by obtain ⟨c, A, r⟩ := F; exact ⟨c, A.other W q, r⟩
theorem AIK.keep {h' : Heap} {a : Addr} {ws : List Addr} {ty : FieldType} {n : Int} {f : Int → Int32} (F : AIK Z h a ty n f) (K : Keep h h' ws) (q : a ∉ ws) : AIK Z h' a ty n f := by obtain ⟨c, A, r⟩ := F; exact ⟨c, ⟨K.2.1 a c A.1 q, A.2⟩, r⟩
theorem AIK.of_arv {a : Addr} {k : ClassId} {ty : FieldType} {z : Int32} {n : Int} {x : Int32} (F : Arv Z h a k ty z [] (.int x)) (q : z.toInt = n) : AIK Z h a ty n (fun _ => x) := by
  obtain ⟨c, A, -, S, M, H, -⟩ := F
  rw [Int32.lt_iff_toInt_lt] at M
  have hz : (0 : Int32).toInt = 0 := rfl
  have hr := rng32 z
  have S' : c.slots.size = z.toInt.toNat := S
  refine ⟨c, A, by omega, by omega, fun i hi => ?_⟩
  exact (H i (by omega)).trans rfl
theorem AIK.set {h' : Heap} {a : Addr} {j : Int32} {ty : FieldType} {n : Int} {f : Int → Int32} {x : Int32} (F : AIK Z h a ty n f) (W : Wr h h' a j.toNatClampNeg (.int x)) (h1 : 0 ≤ j.toInt) (h2 : j.toInt < n) : AIK Z h' a ty n (fun i => if i = j.toInt then x else f i) := by
  obtain ⟨c, A, S, M, H⟩ := F
  have hj : j.toNatClampNeg = j.toInt.toNat := rfl
  refine ⟨_, A.same W, ?_, M, fun i hi => ?_⟩
  · show (((c.slots.setIfInBounds j.toNatClampNeg (Value.int x)).size : Nat) : Int) = n
    rw [Array.size_setIfInBounds]; exact S
  · show (c.slots.setIfInBounds j.toNatClampNeg (Value.int x))[i]? = _
    rw [Array.getElem?_setIfInBounds]
    by_cases q : j.toNatClampNeg = i
    · have hi' : (i : Int) = j.toInt := by omega
      rw [if_pos q, if_pos (by omega)]
      show some (Value.int x) = some (Value.int (if (i : Int) = j.toInt then x else f i))
      rw [if_pos hi']
    · have hi' : ¬ (i : Int) = j.toInt := by omega
      rw [if_neg q]
      show _ = some (Value.int (if (i : Int) = j.toInt then x else f i))
      rw [if_neg hi']; exact H i hi
theorem AIK.get {a : Addr} {j : Int32} {ty : FieldType} {n : Int} {f : Int → Int32} (F : AIK Z h a ty n f) (h1 : 0 ≤ j.toInt) (h2 : j.toInt < n) : ∃ c : Cell, Arr Z h a c ty ∧ ¬ (j < 0 ∨ c.slots.size ≤ j.toNatClampNeg) ∧ c.slots[j.toNatClampNeg]? = some (.int (f j.toInt)) := by
  obtain ⟨c, A, S, M, H⟩ := F
  have hj : j.toNatClampNeg = j.toInt.toNat := rfl
  refine ⟨c, A, ?_, ?_⟩
  · rw [Int32.lt_iff_toInt_lt]
    have hz : (0 : Int32).toInt = 0 := rfl
    omega
  · rw [hj, H j.toInt.toNat (by omega), Int.toNat_of_nonneg h1]
theorem AIK.congr {a : Addr} {ty : FieldType} {n : Int} {f g : Int → Int32} (F : AIK Z h a ty n f) (q : ∀ i : Int, 0 ≤ i → i < n → f i = g i) : AIK Z h a ty n g := by
  obtain ⟨c, A, S, M, H⟩ := F
  exact ⟨c, A, S, M, fun i hi => by rw [H i hi, q i (by omega) hi]⟩
theorem AJK.lt {a : Addr} {n : Int} {f : Int → Int64} (F : AJK Z h a n f) : a < h.size := by obtain ⟨c, A, -⟩ := F; exact A.lt
theorem AJK.nn {a : Addr} {n : Int} {f : Int → Int64} (F : AJK Z h a n f) : 0 ≤ n ∧ n < 2147483648 := by obtain ⟨c, -, S, q, -⟩ := F; exact ⟨by omega, q⟩
theorem AJK.ext {h' : Heap} {a : Addr} {n : Int} {f : Int → Int64} (F : AJK Z h a n f) (E : Ext h h') : AJK Z h' a n f := by obtain ⟨c, A, r⟩ := F; exact ⟨c, A.ext E, r⟩
theorem AJK.other {h' : Heap} {a b : Addr} {sl : Nat} {v : Value} {n : Int} {f : Int → Int64} (F : AJK Z h b n f) (W : Wr h h' a sl v) (q : b ≠ a) : AJK Z h' b n f := by obtain ⟨c, A, r⟩ := F; exact ⟨c, A.other W q, r⟩
theorem AJK.keep {h' : Heap} {a : Addr} {ws : List Addr} {n : Int} {f : Int → Int64} (F : AJK Z h a n f) (K : Keep h h' ws) (q : a ∉ ws) : AJK Z h' a n f := by obtain ⟨c, A, r⟩ := F; exact ⟨c, ⟨K.2.1 a c A.1 q, A.2⟩, r⟩
theorem AJK.of_arv {a : Addr} {k : ClassId} {z : Int32} {n : Int} {x : Int64} (F : Arv Z h a k .long z [] (.long x)) (q : z.toInt = n) : AJK Z h a n (fun _ => x) := by
  obtain ⟨c, A, -, S, M, H, -⟩ := F
  rw [Int32.lt_iff_toInt_lt] at M
  have hz : (0 : Int32).toInt = 0 := rfl
  have hr := rng32 z
  have S' : c.slots.size = z.toInt.toNat := S
  refine ⟨c, A, by omega, by omega, fun i hi => ?_⟩
  exact (H i (by omega)).trans rfl
theorem AJK.set {h' : Heap} {a : Addr} {j : Int32} {n : Int} {f : Int → Int64} {x : Int64} (F : AJK Z h a n f) (W : Wr h h' a j.toNatClampNeg (.long x)) (h1 : 0 ≤ j.toInt) (h2 : j.toInt < n) : AJK Z h' a n (fun i => if i = j.toInt then x else f i) := by
  obtain ⟨c, A, S, M, H⟩ := F
  have hj : j.toNatClampNeg = j.toInt.toNat := rfl
  refine ⟨_, A.same W, ?_, M, fun i hi => ?_⟩
  · show (((c.slots.setIfInBounds j.toNatClampNeg (Value.long x)).size : Nat) : Int) = n
    rw [Array.size_setIfInBounds]; exact S
  · show (c.slots.setIfInBounds j.toNatClampNeg (Value.long x))[i]? = _
    rw [Array.getElem?_setIfInBounds]
    by_cases q : j.toNatClampNeg = i
    · have hi' : (i : Int) = j.toInt := by omega
      rw [if_pos q, if_pos (by omega)]
      show some (Value.long x) = some (Value.long (if (i : Int) = j.toInt then x else f i))
      rw [if_pos hi']
    · have hi' : ¬ (i : Int) = j.toInt := by omega
      rw [if_neg q]
      show _ = some (Value.long (if (i : Int) = j.toInt then x else f i))
      rw [if_neg hi']; exact H i hi
theorem AJK.get {a : Addr} {j : Int32} {n : Int} {f : Int → Int64} (F : AJK Z h a n f) (h1 : 0 ≤ j.toInt) (h2 : j.toInt < n) : ∃ c : Cell, Arr Z h a c .long ∧ ¬ (j < 0 ∨ c.slots.size ≤ j.toNatClampNeg) ∧ c.slots[j.toNatClampNeg]? = some (.long (f j.toInt)) := by
  obtain ⟨c, A, S, M, H⟩ := F
  have hj : j.toNatClampNeg = j.toInt.toNat := rfl
  refine ⟨c, A, ?_, ?_⟩
  · rw [Int32.lt_iff_toInt_lt]
    have hz : (0 : Int32).toInt = 0 := rfl
    omega
  · rw [hj, H j.toInt.toNat (by omega), Int.toNat_of_nonneg h1]
theorem AJK.congr {a : Addr} {n : Int} {f g : Int → Int64} (F : AJK Z h a n f) (q : ∀ i : Int, 0 ≤ i → i < n → f i = g i) : AJK Z h a n g := by
  obtain ⟨c, A, S, M, H⟩ := F
  exact ⟨c, A, S, M, fun i hi => by rw [H i hi, q i (by omega) hi]⟩
theorem go_newI (X : OnK p l e R s m args below meth c n0 T h cells slots) (hx : p.tables.exec = Jvm.exec) (hZ : Z.Warmed39 s.vm) {x : Int32} {cap : Nat} {n : Int} (wd : (Jvm.Cond.arrayClass .int).before a0 Z = true) (hd : decode c.code pc = .ok (.newarray .int, 2)) (hp : pc + 2 = pc') (hn : x.toInt = n) (h1 : 0 ≤ n) (h2 : n ≤ cap) (hb : cap * 8 ≤ 536870912) (hc : cells + 1 ≤ R.cells) (hs : slots + cap ≤ R.slots) (hc' : cells + 1 = cells') (hs' : slots + cap = slots') (G : ∀ (T' : State) (h' : Heap) (a : Addr), a = h.size → OnK p l e R s m args below meth c n0 T' h' cells' slots' → Ext h h' → AIK Z h' a .int n (fun _ => 0) → GoK p e below D T' (mkF m (pc') Ls (.ref a :: St))) : GoK p e below D T (mkF m pc Ls (.int x :: St)) := by
  subst hp hc' hs'
  obtain ⟨_, Y, e0, N⟩ := X
  have hz : (0 : Int32).toInt = 0 := rfl
  have q : ¬ x < 0 := by rw [Int32.lt_iff_toInt_lt]; omega
  obtain ⟨T', h', k, Y', e', E, A, st⟩ := newP Y hx hZ (aty := .int) wd e0 (g := mkF m pc Ls (.int x :: St)) rfl hd rfl q (cap := cap) (by show x.toInt.toNat ≤ cap; omega) hb hc hs
  refine GoK.by st (G T' h' _ rfl ⟨_, Y', e', N⟩ E ?_)
  exact AIK.of_arv (Arv.new A q) hn
theorem go_newB (X : OnK p l e R s m args below meth c n0 T h cells slots) (hx : p.tables.exec = Jvm.exec) (hZ : Z.Warmed39 s.vm) {x : Int32} {cap : Nat} {n : Int} (wd : (Jvm.Cond.arrayClass .byte).before a0 Z = true) (hd : decode c.code pc = .ok (.newarray .byte, 2)) (hp : pc + 2 = pc') (hn : x.toInt = n) (h1 : 0 ≤ n) (h2 : n ≤ cap) (hb : cap * 8 ≤ 536870912) (hc : cells + 1 ≤ R.cells) (hs : slots + cap ≤ R.slots) (hc' : cells + 1 = cells') (hs' : slots + cap = slots') (G : ∀ (T' : State) (h' : Heap) (a : Addr), a = h.size → OnK p l e R s m args below meth c n0 T' h' cells' slots' → Ext h h' → AIK Z h' a .byte n (fun _ => 0) → GoK p e below D T' (mkF m (pc') Ls (.ref a :: St))) : GoK p e below D T (mkF m pc Ls (.int x :: St)) := by
  subst hp hc' hs'
  obtain ⟨_, Y, e0, N⟩ := X
  have hz : (0 : Int32).toInt = 0 := rfl
  have q : ¬ x < 0 := by rw [Int32.lt_iff_toInt_lt]; omega
  obtain ⟨T', h', k, Y', e', E, A, st⟩ := newP Y hx hZ (aty := .byte) wd e0 (g := mkF m pc Ls (.int x :: St)) rfl hd rfl q (cap := cap) (by show x.toInt.toNat ≤ cap; omega) hb hc hs
  refine GoK.by st (G T' h' _ rfl ⟨_, Y', e', N⟩ E ?_)
  exact AIK.of_arv (Arv.new A q) hn
theorem go_newC (X : OnK p l e R s m args below meth c n0 T h cells slots) (hx : p.tables.exec = Jvm.exec) (hZ : Z.Warmed39 s.vm) {x : Int32} {cap : Nat} {n : Int} (wd : (Jvm.Cond.arrayClass .char).before a0 Z = true) (hd : decode c.code pc = .ok (.newarray .char, 2)) (hp : pc + 2 = pc') (hn : x.toInt = n) (h1 : 0 ≤ n) (h2 : n ≤ cap) (hb : cap * 8 ≤ 536870912) (hc : cells + 1 ≤ R.cells) (hs : slots + cap ≤ R.slots) (hc' : cells + 1 = cells') (hs' : slots + cap = slots') (G : ∀ (T' : State) (h' : Heap) (a : Addr), a = h.size → OnK p l e R s m args below meth c n0 T' h' cells' slots' → Ext h h' → AIK Z h' a .char n (fun _ => 0) → GoK p e below D T' (mkF m (pc') Ls (.ref a :: St))) : GoK p e below D T (mkF m pc Ls (.int x :: St)) := by
  subst hp hc' hs'
  obtain ⟨_, Y, e0, N⟩ := X
  have hz : (0 : Int32).toInt = 0 := rfl
  have q : ¬ x < 0 := by rw [Int32.lt_iff_toInt_lt]; omega
  obtain ⟨T', h', k, Y', e', E, A, st⟩ := newP Y hx hZ (aty := .char) wd e0 (g := mkF m pc Ls (.int x :: St)) rfl hd rfl q (cap := cap) (by show x.toInt.toNat ≤ cap; omega) hb hc hs
  refine GoK.by st (G T' h' _ rfl ⟨_, Y', e', N⟩ E ?_)
  exact AIK.of_arv (Arv.new A q) hn
theorem go_newZ (X : OnK p l e R s m args below meth c n0 T h cells slots) (hx : p.tables.exec = Jvm.exec) (hZ : Z.Warmed39 s.vm) {x : Int32} {cap : Nat} {n : Int} (wd : (Jvm.Cond.arrayClass .boolean).before a0 Z = true) (hd : decode c.code pc = .ok (.newarray .boolean, 2)) (hp : pc + 2 = pc') (hn : x.toInt = n) (h1 : 0 ≤ n) (h2 : n ≤ cap) (hb : cap * 8 ≤ 536870912) (hc : cells + 1 ≤ R.cells) (hs : slots + cap ≤ R.slots) (hc' : cells + 1 = cells') (hs' : slots + cap = slots') (G : ∀ (T' : State) (h' : Heap) (a : Addr), a = h.size → OnK p l e R s m args below meth c n0 T' h' cells' slots' → Ext h h' → AIK Z h' a .boolean n (fun _ => 0) → GoK p e below D T' (mkF m (pc') Ls (.ref a :: St))) : GoK p e below D T (mkF m pc Ls (.int x :: St)) := by
  subst hp hc' hs'
  obtain ⟨_, Y, e0, N⟩ := X
  have hz : (0 : Int32).toInt = 0 := rfl
  have q : ¬ x < 0 := by rw [Int32.lt_iff_toInt_lt]; omega
  obtain ⟨T', h', k, Y', e', E, A, st⟩ := newP Y hx hZ (aty := .boolean) wd e0 (g := mkF m pc Ls (.int x :: St)) rfl hd rfl q (cap := cap) (by show x.toInt.toNat ≤ cap; omega) hb hc hs
  refine GoK.by st (G T' h' _ rfl ⟨_, Y', e', N⟩ E ?_)
  exact AIK.of_arv (Arv.new A q) hn
theorem go_newJ (X : OnK p l e R s m args below meth c n0 T h cells slots) (hx : p.tables.exec = Jvm.exec) (hZ : Z.Warmed39 s.vm) {x : Int32} {cap : Nat} {n : Int} (wd : (Jvm.Cond.arrayClass .long).before a0 Z = true) (hd : decode c.code pc = .ok (.newarray .long, 2)) (hp : pc + 2 = pc') (hn : x.toInt = n) (h1 : 0 ≤ n) (h2 : n ≤ cap) (hb : cap * 8 ≤ 536870912) (hc : cells + 1 ≤ R.cells) (hs : slots + cap ≤ R.slots) (hc' : cells + 1 = cells') (hs' : slots + cap = slots') (G : ∀ (T' : State) (h' : Heap) (a : Addr), a = h.size → OnK p l e R s m args below meth c n0 T' h' cells' slots' → Ext h h' → AJK Z h' a n (fun _ => 0) → GoK p e below D T' (mkF m (pc') Ls (.ref a :: St))) : GoK p e below D T (mkF m pc Ls (.int x :: St)) := by
  subst hp hc' hs'
  obtain ⟨_, Y, e0, N⟩ := X
  have hz : (0 : Int32).toInt = 0 := rfl
  have q : ¬ x < 0 := by rw [Int32.lt_iff_toInt_lt]; omega
  obtain ⟨T', h', k, Y', e', E, A, st⟩ := newP Y hx hZ (aty := .long) wd e0 (g := mkF m pc Ls (.int x :: St)) rfl hd rfl q (cap := cap) (by show x.toInt.toNat ≤ cap; omega) hb hc hs
  refine GoK.by st (G T' h' _ rfl ⟨_, Y', e', N⟩ E ?_)
  exact AJK.of_arv (Arv.new A q) hn
theorem go_iastore (X : OnK p l e R s m args below meth c n0 T h cells slots) (hx : p.tables.exec = Jvm.exec) (hZ : Z.Warmed39 s.vm) {x : Int32} {j : Int32} {a : Addr} {n : Int} {f : Int → Int32} (A : AIK Z h a .int n f) (ga : n0 ≤ a) (h1 : 0 ≤ j.toInt) (h2 : j.toInt < n) (hd : decode c.code pc = .ok (.iastore, 1)) (hp : pc + 1 = pc') (G : ∀ (T' : State) (h' : Heap), OnK p l e R s m args below meth c n0 T' h' cells slots → Wr h h' a j.toNatClampNeg (.int (x)) → AIK Z h' a .int n (fun i => if i = j.toInt then x else f i) → GoK p e below D T' (mkF m pc' Ls St)) : GoK p e below D T (mkF m pc Ls (.int x :: .int j :: .ref a :: St)) := by
  subst hp
  obtain ⟨_, Y, e0, N⟩ := X
  obtain ⟨cl, Ar, hin, -⟩ := A.get h1 h2
  obtain ⟨T', h', Y', e', W, st⟩ := stI Y hx hZ e0 Ar (j := j) (x := x) hin (g := mkF m pc Ls (.int x :: .int j :: .ref a :: St)) rfl rfl hd
  exact GoK.by st (G T' h' ⟨_, Y', e', Fr.snoc Y' N ga⟩ W (A.set W h1 h2))
theorem go_castore (X : OnK p l e R s m args below meth c n0 T h cells slots) (hx : p.tables.exec = Jvm.exec) (hZ : Z.Warmed39 s.vm) {x : Int32} {j : Int32} {a : Addr} {n : Int} {f : Int → Int32} (A : AIK Z h a .char n f) (ga : n0 ≤ a) (h1 : 0 ≤ j.toInt) (h2 : j.toInt < n) (hd : decode c.code pc = .ok (.castore, 1)) (hp : pc + 1 = pc') (G : ∀ (T' : State) (h' : Heap), OnK p l e R s m args below meth c n0 T' h' cells slots → Wr h h' a j.toNatClampNeg (.int (nar .char x)) → AIK Z h' a .char n (fun i => if i = j.toInt then nar .char x else f i) → GoK p e below D T' (mkF m pc' Ls St)) : GoK p e below D T (mkF m pc Ls (.int x :: .int j :: .ref a :: St)) := by
  subst hp
  obtain ⟨_, Y, e0, N⟩ := X
  obtain ⟨cl, Ar, hin, -⟩ := A.get h1 h2
  obtain ⟨T', h', Y', e', W, st⟩ := stC Y hx hZ e0 Ar (j := j) (x := x) hin (g := mkF m pc Ls (.int x :: .int j :: .ref a :: St)) rfl rfl hd
  exact GoK.by st (G T' h' ⟨_, Y', e', Fr.snoc Y' N ga⟩ W (A.set W h1 h2))
theorem go_bastoreB (X : OnK p l e R s m args below meth c n0 T h cells slots) (hx : p.tables.exec = Jvm.exec) (hZ : Z.Warmed39 s.vm) {x : Int32} {j : Int32} {a : Addr} {n : Int} {f : Int → Int32} (A : AIK Z h a .byte n f) (ga : n0 ≤ a) (h1 : 0 ≤ j.toInt) (h2 : j.toInt < n) (hd : decode c.code pc = .ok (.bastore, 1)) (hp : pc + 1 = pc') (G : ∀ (T' : State) (h' : Heap), OnK p l e R s m args below meth c n0 T' h' cells slots → Wr h h' a j.toNatClampNeg (.int (nar .byte x)) → AIK Z h' a .byte n (fun i => if i = j.toInt then nar .byte x else f i) → GoK p e below D T' (mkF m pc' Ls St)) : GoK p e below D T (mkF m pc Ls (.int x :: .int j :: .ref a :: St)) := by
  subst hp
  obtain ⟨_, Y, e0, N⟩ := X
  obtain ⟨cl, Ar, hin, -⟩ := A.get h1 h2
  obtain ⟨T', h', Y', e', W, st⟩ := stB Y hx hZ e0 Ar (j := j) (x := x) hin (g := mkF m pc Ls (.int x :: .int j :: .ref a :: St)) rfl rfl hd
  exact GoK.by st (G T' h' ⟨_, Y', e', Fr.snoc Y' N ga⟩ W (A.set W h1 h2))
theorem go_bastoreZ (X : OnK p l e R s m args below meth c n0 T h cells slots) (hx : p.tables.exec = Jvm.exec) (hZ : Z.Warmed39 s.vm) {x : Int32} {j : Int32} {a : Addr} {n : Int} {f : Int → Int32} (A : AIK Z h a .boolean n f) (ga : n0 ≤ a) (h1 : 0 ≤ j.toInt) (h2 : j.toInt < n) (hd : decode c.code pc = .ok (.bastore, 1)) (hp : pc + 1 = pc') (G : ∀ (T' : State) (h' : Heap), OnK p l e R s m args below meth c n0 T' h' cells slots → Wr h h' a j.toNatClampNeg (.int (nar .boolean x)) → AIK Z h' a .boolean n (fun i => if i = j.toInt then nar .boolean x else f i) → GoK p e below D T' (mkF m pc' Ls St)) : GoK p e below D T (mkF m pc Ls (.int x :: .int j :: .ref a :: St)) := by
  subst hp
  obtain ⟨_, Y, e0, N⟩ := X
  obtain ⟨cl, Ar, hin, -⟩ := A.get h1 h2
  obtain ⟨T', h', Y', e', W, st⟩ := stZ Y hx hZ e0 Ar (j := j) (x := x) hin (g := mkF m pc Ls (.int x :: .int j :: .ref a :: St)) rfl rfl hd
  exact GoK.by st (G T' h' ⟨_, Y', e', Fr.snoc Y' N ga⟩ W (A.set W h1 h2))
theorem go_lastore (X : OnK p l e R s m args below meth c n0 T h cells slots) (hx : p.tables.exec = Jvm.exec) (hZ : Z.Warmed39 s.vm) {x : Int64} {j : Int32} {a : Addr} {n : Int} {f : Int → Int64} (A : AJK Z h a n f) (ga : n0 ≤ a) (h1 : 0 ≤ j.toInt) (h2 : j.toInt < n) (hd : decode c.code pc = .ok (.lastore, 1)) (hp : pc + 1 = pc') (G : ∀ (T' : State) (h' : Heap), OnK p l e R s m args below meth c n0 T' h' cells slots → Wr h h' a j.toNatClampNeg (.long (x)) → AJK Z h' a n (fun i => if i = j.toInt then x else f i) → GoK p e below D T' (mkF m pc' Ls St)) : GoK p e below D T (mkF m pc Ls (.long x :: .int j :: .ref a :: St)) := by
  subst hp
  obtain ⟨_, Y, e0, N⟩ := X
  obtain ⟨cl, Ar, hin, -⟩ := A.get h1 h2
  obtain ⟨T', h', Y', e', W, st⟩ := stJ Y hx hZ e0 Ar (j := j) (x := x) hin (g := mkF m pc Ls (.long x :: .int j :: .ref a :: St)) rfl rfl hd
  exact GoK.by st (G T' h' ⟨_, Y', e', Fr.snoc Y' N ga⟩ W (A.set W h1 h2))
theorem go_iaload (X : OnK p l e R s m args below meth c n0 T h cells slots) (hx : p.tables.exec = Jvm.exec) (hZ : Z.Warmed39 s.vm) {j : Int32} {a : Addr} {n : Int} {f : Int → Int32} (A : AIK Z h a .int n f) (h1 : 0 ≤ j.toInt) (h2 : j.toInt < n) (hd : decode c.code pc = .ok (.iaload, 1)) (hp : pc + 1 = pc') (G : ∀ z : Int32, z = f j.toInt → GoK p e below D T (mkF m pc' Ls (.int z :: St))) : GoK p e below D T (mkF m pc Ls (.int j :: .ref a :: St)) := by
  subst hp
  obtain ⟨_, Y, e0, N⟩ := X
  obtain ⟨cl, Ar, hin, hv⟩ := A.get h1 h2
  exact GoK.by (fun t k => Y.iaload hx (j := j) (v := .int (f j.toInt)) (by rw [e0]; exact Ar.1) (State.isArrayOf_alike hZ.alike Ar.2.1) Ar.2.2 hin hv (g := mkF m pc Ls (.int j :: .ref a :: St)) rfl rfl hd t k) (G _ rfl)
theorem go_caload (X : OnK p l e R s m args below meth c n0 T h cells slots) (hx : p.tables.exec = Jvm.exec) (hZ : Z.Warmed39 s.vm) {j : Int32} {a : Addr} {n : Int} {f : Int → Int32} (A : AIK Z h a .char n f) (h1 : 0 ≤ j.toInt) (h2 : j.toInt < n) (hd : decode c.code pc = .ok (.caload, 1)) (hp : pc + 1 = pc') (G : ∀ z : Int32, z = f j.toInt → GoK p e below D T (mkF m pc' Ls (.int z :: St))) : GoK p e below D T (mkF m pc Ls (.int j :: .ref a :: St)) := by
  subst hp
  obtain ⟨_, Y, e0, N⟩ := X
  obtain ⟨cl, Ar, hin, hv⟩ := A.get h1 h2
  exact GoK.by (fun t k => Y.caload hx (j := j) (v := .int (f j.toInt)) (by rw [e0]; exact Ar.1) (State.isArrayOf_alike hZ.alike Ar.2.1) Ar.2.2 hin hv (g := mkF m pc Ls (.int j :: .ref a :: St)) rfl rfl hd t k) (G _ rfl)
theorem go_baloadB (X : OnK p l e R s m args below meth c n0 T h cells slots) (hx : p.tables.exec = Jvm.exec) (hZ : Z.Warmed39 s.vm) {j : Int32} {a : Addr} {n : Int} {f : Int → Int32} (A : AIK Z h a .byte n f) (h1 : 0 ≤ j.toInt) (h2 : j.toInt < n) (hd : decode c.code pc = .ok (.baload, 1)) (hp : pc + 1 = pc') (G : ∀ z : Int32, z = f j.toInt → GoK p e below D T (mkF m pc' Ls (.int z :: St))) : GoK p e below D T (mkF m pc Ls (.int j :: .ref a :: St)) := by
  subst hp
  obtain ⟨_, Y, e0, N⟩ := X
  obtain ⟨cl, Ar, hin, hv⟩ := A.get h1 h2
  exact GoK.by (fun t k => Y.baloadBytes hx (j := j) (v := .int (f j.toInt)) (by rw [e0]; exact Ar.1) (State.isArrayOf_alike hZ.alike Ar.2.1) Ar.2.2 hin hv (g := mkF m pc Ls (.int j :: .ref a :: St)) rfl rfl hd t k) (G _ rfl)
theorem go_baloadZ (X : OnK p l e R s m args below meth c n0 T h cells slots) (hx : p.tables.exec = Jvm.exec) (hZ : Z.Warmed39 s.vm) {j : Int32} {a : Addr} {n : Int} {f : Int → Int32} (A : AIK Z h a .boolean n f) (h1 : 0 ≤ j.toInt) (h2 : j.toInt < n) (hd : decode c.code pc = .ok (.baload, 1)) (hp : pc + 1 = pc') (G : ∀ z : Int32, z = f j.toInt → GoK p e below D T (mkF m pc' Ls (.int z :: St))) : GoK p e below D T (mkF m pc Ls (.int j :: .ref a :: St)) := by
  subst hp
  obtain ⟨_, Y, e0, N⟩ := X
  obtain ⟨cl, Ar, hin, hv⟩ := A.get h1 h2
  exact GoK.by (fun t k => Y.baloadBooleans hx (j := j) (v := .int (f j.toInt)) (by rw [e0]; exact Ar.1) (State.isArrayOf_alike hZ.alike Ar.2.1) Ar.2.2 hin hv (g := mkF m pc Ls (.int j :: .ref a :: St)) rfl rfl hd t k) (G _ rfl)
theorem go_laload (X : OnK p l e R s m args below meth c n0 T h cells slots) (hx : p.tables.exec = Jvm.exec) (hZ : Z.Warmed39 s.vm) {j : Int32} {a : Addr} {n : Int} {f : Int → Int64} (A : AJK Z h a n f) (h1 : 0 ≤ j.toInt) (h2 : j.toInt < n) (hd : decode c.code pc = .ok (.laload, 1)) (hp : pc + 1 = pc') (G : ∀ z : Int64, z = f j.toInt → GoK p e below D T (mkF m pc' Ls (.long z :: St))) : GoK p e below D T (mkF m pc Ls (.int j :: .ref a :: St)) := by
  subst hp
  obtain ⟨_, Y, e0, N⟩ := X
  obtain ⟨cl, Ar, hin, hv⟩ := A.get h1 h2
  exact GoK.by (fun t k => Y.laload hx (j := j) (v := .long (f j.toInt)) (by rw [e0]; exact Ar.1) (State.isArrayOf_alike hZ.alike Ar.2.1) Ar.2.2 hin hv (g := mkF m pc Ls (.int j :: .ref a :: St)) rfl rfl hd t k) (G _ rfl)
theorem own_len {k : Nat} {n : Int} (S : (k : Int) = n) (M : n < 2147483648) : (k.toInt32).toInt = n := by
  have e : (k.toInt32).toInt = ((k : Int)).bmod (2 ^ 32) := by
    show (Int32.ofNat k).toInt = _
    exact Int32.toInt_ofNat
  rw [e, Int.bmod_eq_of_le (by omega) (by omega)]; exact S
theorem go_lenI (X : OnK p l e R s m args below meth c n0 T h cells slots) (hx : p.tables.exec = Jvm.exec) (hZ : Z.Warmed39 s.vm) {a : Addr} {n : Int} {ty : FieldType} {f : Int → Int32} (A : AIK Z h a ty n f) (hd : decode c.code pc = .ok (.arraylength, 1)) (hp : pc + 1 = pc') (G : ∀ z : Int32, z.toInt = n → GoK p e below D T (mkF m pc' Ls (.int z :: St))) : GoK p e below D T (mkF m pc Ls (.ref a :: St)) := by
  subst hp
  obtain ⟨_, Y, e0, N⟩ := X
  obtain ⟨cl, Ar, S, M, -⟩ := A
  refine GoK.by (fun t k => Y.arraylength hx (by rw [e0]; exact Ar.1) (State.isArrayOf_alike hZ.alike Ar.2.1) (g := mkF m pc Ls (.ref a :: St)) rfl rfl hd t k) (G _ ?_)
  exact own_len S M
theorem go_lenJ (X : OnK p l e R s m args below meth c n0 T h cells slots) (hx : p.tables.exec = Jvm.exec) (hZ : Z.Warmed39 s.vm) {a : Addr} {n : Int} {f : Int → Int64} (A : AJK Z h a n f) (hd : decode c.code pc = .ok (.arraylength, 1)) (hp : pc + 1 = pc') (G : ∀ z : Int32, z.toInt = n → GoK p e below D T (mkF m pc' Ls (.int z :: St))) : GoK p e below D T (mkF m pc Ls (.ref a :: St)) := by
  subst hp
  obtain ⟨_, Y, e0, N⟩ := X
  obtain ⟨cl, Ar, S, M, -⟩ := A
  refine GoK.by (fun t k => Y.arraylength hx (by rw [e0]; exact Ar.1) (State.isArrayOf_alike hZ.alike Ar.2.1) (g := mkF m pc Ls (.ref a :: St)) rfl rfl hd t k) (G _ ?_)
  exact own_len S M
theorem go_getfield (X : OnK p l e R s m args below meth c n0 T h cells slots) (hx : p.tables.exec = Jvm.exec) (hZ : Z.Warmed39 s.vm) {own O n d : String} {i : Nat} {a : Addr} {v : Value} (hown : s.vm.findClass own = some m.cls) (wd : (Jvm.Cond.fieldLink own i O n d).before a0 Z = true) (F : Fld Z h a O n d v) (hd : decode c.code pc = .ok (.getfield i, 3)) (hp : pc + 3 = pc') (G : ∀ T' : State, OnK p l e R s m args below meth c n0 T' h cells slots → GoK p e below D T' (mkF m pc' Ls (v :: St))) : GoK p e below D T (mkF m pc Ls (.ref a :: St)) := by
  subst hp
  obtain ⟨_, Y, e0, N⟩ := X
  obtain ⟨T', Y', e', st⟩ := getF Y hx hZ hown (host := "") (Or.inl wd) Via.refl e0 F (g := mkF m pc Ls (.ref a :: St)) rfl rfl hd
  exact GoK.by st (G T' ⟨_, Y', e', N⟩)
theorem go_putfield (X : OnK p l e R s m args below meth c n0 T h cells slots) (hx : p.tables.exec = Jvm.exec) (hZ : Z.Warmed39 s.vm) {own O n d C : String} {i kk : Nat} {ty : FieldType} {a : Addr} {v v' old : Value} (hown : s.vm.findClass own = some m.cls) (wd : (Jvm.Cond.fieldLink own i O n d).before a0 Z = true) (F : Fld Z h a O n d old) (E : Exa Z h a C) (L : (Jvm.Cond.lays C O n d).before a0 Z = true ∨ ((Jvm.Cond.laysFinal C O n d).before a0 Z = true ∧ own = O ∧ meth.name = "<init>")) (wi : (Jvm.Cond.instantiable C kk).before a0 Z = true) (ga : n0 ≤ a) (hty : parseFieldDescriptor d = some ty) (hn : narrow ty v = v') (hf : fits ty v' = true) (hd : decode c.code pc = .ok (.putfield i, 3)) (hp : pc + 3 = pc') (G : ∀ (T' : State) (h' : Heap), OnK p l e R s m args below meth c n0 T' h' cells slots → Wr h h' a (slotOf Z O n d) v' → Fld Z h' a O n d v' → GoK p e below D T' (mkF m pc' Ls St)) : GoK p e below D T (mkF m pc Ls (v :: .ref a :: St)) := by
  subst hp
  obtain ⟨_, Y, e0, N⟩ := X
  obtain ⟨T', h', Y', e', W, st⟩ := putFN Y hx hZ hown wd Via.refl e0 F E L wi hty hn hf (g := mkF m pc Ls (v :: .ref a :: St)) rfl rfl hd
  exact GoK.by st (G T' h' ⟨_, Y', e', Fr.snoc Y' N ga⟩ W (F.same W))
theorem go_new (X : OnK p l e R s m args below meth c n0 T h cells slots) (hx : p.tables.exec = Jvm.exec) (hZ : Z.Warmed39 s.vm) {own C : String} {i n : Nat} (hown : s.vm.findClass own = some m.cls) (w1 : (Jvm.Cond.classLink own i C).before a0 Z = true) (w2 : (Jvm.Cond.instantiable C n).before a0 Z = true) (w3 : (Jvm.Cond.initialized C).before a0 Z = true) (hd : decode c.code pc = .ok (.new i, 3)) (hp : pc + 3 = pc') (hc : cells + 1 ≤ R.cells) (hs : slots + n ≤ R.slots) (hc' : cells + 1 = cells') (hs' : slots + n = slots')
    (G : ∀ (T' : State) (h' : Heap) (a : Addr), a = h.size → OnK p l e R s m args below meth c n0 T' h' cells' slots' → Ext h h' → Exa Z h' a C → (∀ {O nm d : String} {ty : FieldType}, Laid Z a0 C O nm d → parseFieldDescriptor d = some ty → Fld Z h' a O nm d (defaultValue ty)) → GoK p e below D T' (mkF m pc' Ls (.ref a :: St))) : GoK p e below D T (mkF m pc Ls St) := by
  subst hp hc' hs'
  obtain ⟨_, Y, e0, N⟩ := X
  obtain ⟨T', h', Y', e', E, A, Dv, -, st⟩ := newO Y hx hZ hown w1 w2 w3 e0 (g := mkF m pc Ls St) rfl hd hc hs
  exact GoK.by st (G T' h' _ rfl ⟨_, Y', e', N⟩ E A Dv)
theorem go_initO (X : OnK p l e R s m args below meth c n0 T h cells slots) (hx : p.tables.exec = Jvm.exec) (hZ : Z.Warmed39 s.vm) {own : String} {i W : Nat} {a : Addr} (hown : s.vm.findClass own = some m.cls) (hml : Ls.size = c.maxLocals) (w1 : (Jvm.Cond.methodLink own i Lib.objectInit).before a0 Z = true) (w2 : (Jvm.Cond.instanceMethod Lib.objectInit).before a0 Z = true) (w3 : (Jvm.Cond.code Lib.objectInit ⟨#[0xb1]⟩ 1 none).before a0 Z = true) (hd : decode c.code pc = .ok (.invokespecial i, 3)) (hp : pc + 3 = pc') (hf : 1 ≤ R.frames) (hW : (St.map fun v => v.category).sum ≤ W) (hl : W + 12 ≤ R.locals) (G : ∀ T' : State, OnK p l e R s m args below meth c n0 T' h cells slots → GoK p e below D T' (mkF m pc' Ls St)) : GoK p e below D T (mkF m pc Ls (.ref a :: St)) := by
  subst hp
  obtain ⟨_, Y, e0, N⟩ := X
  obtain ⟨T', Y', e', st⟩ := initO Y hx hZ hown w1 w2 w3 e0 (g := mkF m pc Ls (.ref a :: St)) rfl hml rfl hd hf (W := W) (by show 2 * 0 + _ ≤ _; omega) hl
  exact GoK.by st (G T' ⟨_, Y', e', N⟩)
theorem go_callS (X : OnK p l e R s m args below meth c n0 T h cells slots) (hx : p.tables.exec = Jvm.exec) (hZ : Z.Warmed39 s.vm) {own : String} {i W ml : Nat} {y : MethodName} {bytes : ByteArray} {ret : Option FieldType} {rm : Room} {Q : Option Value → Heap → Prop} {aL : List Value} {ps : List FieldType} {rt : Option FieldType} (hown : s.vm.findClass own = some m.cls) (hml : Ls.size = c.maxLocals) (wl : (Jvm.Cond.methodLink own i y).before a0 Z = true) (ws : (Jvm.Cond.static y).before a0 Z = true) (wz : (Jvm.Cond.initialized y.cls).before a0 Z = true) (wc : (Jvm.Cond.code y bytes ml ret).before a0 Z = true) (hy : y.cls ≠ "java/lang/invoke/MethodHandle" ∧ y.cls ≠ "java/lang/invoke/VarHandle") (pd : parseMethodDescriptor y.desc = some ⟨ps, rt⟩) (hlen : aL.length = ps.length) (ct : CtK l Z y bytes ml ret rm aL.toArray h n0 Q) (hd : decode c.code pc = .ok (.invokestatic i, 3)) (hp : pc + 3 = pc') (hf : rm.frames + 1 ≤ R.frames) (hW : (St.map fun v => v.category).sum ≤ W) (hlo : W + (ml + 11) + rm.locals ≤ R.locals) (hc : cells + rm.cells ≤ R.cells) (hs : slots + rm.slots ≤ R.slots) (hc' : cells + rm.cells = cells') (hs' : slots + rm.slots = slots') (G : ∀ (T' : State) (h' : Heap) (v : Option Value), OnK p l e R s m args below meth c n0 T' h' cells' slots' → Q v h' → GoK p e below D T' (mkF m pc' Ls (v.toList ++ St))) {S0 : List Value} (hS : S0 = aL.reverse ++ St) : GoK p e below D T (mkF m pc Ls S0) := by
  subst hp hc' hs' hS
  obtain ⟨_, Y, e0, N⟩ := X
  obtain ⟨v, _, ⟨B, L, k, n⟩, -, Y', ⟨Lc, ⟨hQ, hN⟩, el, ec, es⟩, st⟩ := Jvm.LawKit.callS Y hx (y := y) hown (mvT hZ wl) (mvT hZ ws) (mvT hZ wz) (mvT hZ wc) hy (backOf (W := W) (Q := fun v h L => Q v h ∧ Fr n0 L) (ct []) hZ wc wz hf hlo) (g := mkF m pc Ls (aL.reverse ++ St)) rfl hml (argsL := aL) (rest := St) (lenOf pd hlen) rfl (by show 2 * 0 + _ ≤ _; omega) hd (fun _ _ => ⟨rfl, e0, hc, hs⟩)
  dsimp only [Pt.U, Pt.locs, Pt.cells, Pt.slots] at Y' el ec es st hQ
  subst el ec es
  exact GoK.by st (G B _ v ⟨_, Y', rfl, N.app hN⟩ hQ)
theorem go_callC (X : OnK p l e R s m args below meth c n0 T h cells slots) (hx : p.tables.exec = Jvm.exec) (hZ : Z.Warmed39 s.vm) {own : String} {i W ml : Nat} {y : MethodName} {bytes : ByteArray} {rm : Room} {Q : Option Value → Heap → Prop} {aL : List Value} {ps : List FieldType} {rt : Option FieldType} {a : Addr} (hown : s.vm.findClass own = some m.cls) (hml : Ls.size = c.maxLocals) (hi : y.name = "<init>") (wl : (Jvm.Cond.methodLink own i y).before a0 Z = true) (wi : (Jvm.Cond.instanceMethod y).before a0 Z = true) (wz : (Jvm.Cond.initialized y.cls).before a0 Z = true) (wc : (Jvm.Cond.code y bytes ml none).before a0 Z = true) (hy : y.cls ≠ "java/lang/invoke/MethodHandle" ∧ y.cls ≠ "java/lang/invoke/VarHandle") (pd : parseMethodDescriptor y.desc = some ⟨ps, rt⟩) (hlen : aL.length = ps.length) (ct : CtK l Z y bytes ml none rm (.ref a :: aL).toArray h n0 Q) (hd : decode c.code pc = .ok (.invokespecial i, 3)) (hp : pc + 3 = pc') (hf : rm.frames + 1 ≤ R.frames) (hW : (St.map fun v => v.category).sum ≤ W) (hlo : W + (ml + 11) + rm.locals ≤ R.locals) (hc : cells + rm.cells ≤ R.cells) (hs : slots + rm.slots ≤ R.slots) (hc' : cells + rm.cells = cells') (hs' : slots + rm.slots = slots') (G : ∀ (T' : State) (h' : Heap) (v : Option Value), OnK p l e R s m args below meth c n0 T' h' cells' slots' → Q v h' → GoK p e below D T' (mkF m pc' Ls (v.toList ++ St))) {S0 : List Value} (hS : S0 = aL.reverse ++ .ref a :: St) : GoK p e below D T (mkF m pc Ls S0) := by
  subst hp hc' hs' hS
  obtain ⟨_, Y, e0, N⟩ := X
  obtain ⟨v, _, ⟨B, L, k, n⟩, -, Y', ⟨Lc, ⟨hQ, hN⟩, el, ec, es⟩, st⟩ := Y.specialBack hx (y := y) hi hown (mvT hZ wl) (mvT hZ wi) (mvT hZ wc) hy (backOf (W := W) (Q := fun v h L => Q v h ∧ Fr n0 L) (ct []) hZ wc wz hf hlo) (g := mkF m pc Ls (aL.reverse ++ .ref a :: St)) rfl hml (Steps.refl _) (a := a) (argsL := aL) (rest := St) (lenOf pd hlen) rfl (by show 2 * 0 + _ ≤ _; omega) hd (fun _ _ => ⟨rfl, e0, hc, hs⟩)
  dsimp only [Pt.U, Pt.locs, Pt.cells, Pt.slots] at Y' el ec es st hQ
  subst el ec es
  exact GoK.by (fun t k => st.trans k) (G B _ v ⟨_, Y', rfl, N.app hN⟩ hQ)
theorem go_callV (X : OnK p l e R s m args below meth c n0 T h cells slots) (hx : p.tables.exec = Jvm.exec) (hZ : Z.Warmed39 s.vm) {own : String} {i W ml : Nat} {y : MethodName} {bytes : ByteArray} {ret : Option FieldType} {rm : Room} {Q : Option Value → Heap → Prop} {aL : List Value} {ps : List FieldType} {rt : Option FieldType} {a : Addr} (hown : s.vm.findClass own = some m.cls) (hml : Ls.size = c.maxLocals) (E : Exa Z h a y.cls) (wl : (Jvm.Cond.methodLink own i y).before a0 Z = true) (wd : (Jvm.Cond.declares y).before a0 Z = true) (ws : (Jvm.Cond.selects y.cls y y).before a0 Z = true) (wi : (Jvm.Cond.instanceMethod y).before a0 Z = true) (wz : (Jvm.Cond.initialized y.cls).before a0 Z = true) (wc : (Jvm.Cond.code y bytes ml ret).before a0 Z = true) (hy : y.cls ≠ "java/lang/invoke/MethodHandle" ∧ y.cls ≠ "java/lang/invoke/VarHandle") (pd : parseMethodDescriptor y.desc = some ⟨ps, rt⟩) (hlen : aL.length = ps.length) (ct : CtK l Z y bytes ml ret rm (.ref a :: aL).toArray h n0 Q) (hd : decode c.code pc = .ok (.invokevirtual i, 3)) (hp : pc + 3 = pc') (hf : rm.frames + 1 ≤ R.frames) (hW : (St.map fun v => v.category).sum ≤ W) (hlo : W + (ml + 11) + rm.locals ≤ R.locals) (hc : cells + rm.cells ≤ R.cells) (hs : slots + rm.slots ≤ R.slots) (hc' : cells + rm.cells = cells') (hs' : slots + rm.slots = slots') (G : ∀ (T' : State) (h' : Heap) (v : Option Value), OnK p l e R s m args below meth c n0 T' h' cells' slots' → Q v h' → GoK p e below D T' (mkF m pc' Ls (v.toList ++ St))) {S0 : List Value} (hS : S0 = aL.reverse ++ .ref a :: St) : GoK p e below D T (mkF m pc Ls S0) := by
  subst hp hc' hs' hS
  obtain ⟨_, Y, e0, N⟩ := X
  obtain ⟨cq, kq, qa, qb, qc⟩ := isOf hZ e0 E
  obtain ⟨v, _, ⟨B, L, k, n⟩, -, Y', ⟨Lc, ⟨hQ, hN⟩, el, ec, es⟩, st⟩ := Y.virtualBack hx (y := y) (z := y) hown (mvT hZ wl) (mvT hZ wd) (notFace_of_selects (args := #[]) (mvT hZ ws)) (mvT hZ ws) (mvT hZ wi) hy (backOf (W := W) (Q := fun v h L => Q v h ∧ Fr n0 L) (ct []) hZ wc wz hf hlo) qa qc (g := mkF m pc Ls (aL.reverse ++ .ref a :: St)) rfl hml (Steps.refl _) (argsL := aL) (rest := St) (lenOf pd hlen) rfl (by show 2 * 0 + _ ≤ _; omega) hd (fun _ _ => ⟨rfl, e0, hc, hs⟩)
  dsimp only [Pt.U, Pt.locs, Pt.cells, Pt.slots] at Y' el ec es st hQ
  subst el ec es
  exact GoK.by (fun t k => st.trans k) (G B _ v ⟨_, Y', rfl, N.app hN⟩ hQ)
def TwoK (a b : Slot) : Prop := (a = .unset ∧ b = .unset) ∨ ∃ x : Int64, a = .val (.long x) ∧ b = .second
end OwnK
end Jvm.RoadKit
namespace Jvm.Pilot.@@N@@
open Jvm Jvm.ClassFile Sem Op Lib Jvm.Free Jvm.Stand Jvm.LawKit Jvm.RoadKit Bundle Jvm.Pilot.@@N@@.Jvm.D
theorem own_nb (x : Int32) : nar .byte x = x.toInt8.toInt32 := rfl
theorem own_i8 (y : Int8) : y.toInt32.toInt8 = y := by simp
theorem own_b8 (x : Int32) : nar .byte x.toInt8.toInt32 = x.toInt8.toInt32 := by rw [own_nb, own_i8]
def own_a4 (x0 x1 x2 x3 : Int32) (i : Int) : Int32 := if i = 0 then x0 else if i = 1 then x1 else if i = 2 then x2 else x3
theorem own_a4b {x0 x1 x2 x3 : Int32} (i : Int) : -128 ≤ (own_a4 (x0.toInt8.toInt32) (x1.toInt8.toInt32) (x2.toInt8.toInt32) (x3.toInt8.toInt32) i).toInt ∧ (own_a4 (x0.toInt8.toInt32) (x1.toInt8.toInt32) (x2.toInt8.toInt32) (x3.toInt8.toInt32) i).toInt ≤ 127 := by
  have h0 := c_i2b x0; have h1 := c_i2b x1; have h2 := c_i2b x2; have h3 := c_i2b x3
  unfold own_a4
  split
  · omega
  split
  · omega
  split
  · omega
  · omega
def own_hh (F : Int → Int) (a n z : Int) : Prop := (n = 1 → 48 ≤ F a → F a ≤ 57 → z = F a - 48) ∧ (n = 1 → ¬ (48 ≤ F a ∧ F a ≤ 57) → z = 0) ∧
  (n = 2 → 48 ≤ F a ∧ F a ≤ 57 ∧ 48 ≤ F (a + 1) ∧ F (a + 1) ≤ 57 ∧ (F a - 48) * 10 + (F (a + 1) - 48) ≤ 48 → z = (F a - 48) * 10 + (F (a + 1) - 48)) ∧
  (n = 2 → ¬ (48 ≤ F a ∧ F a ≤ 57 ∧ 48 ≤ F (a + 1) ∧ F (a + 1) ≤ 57 ∧ (F a - 48) * 10 + (F (a + 1) - 48) ≤ 48) → z = 0) ∧ (n ≠ 1 → n ≠ 2 → z = 0)
theorem own_u {F : Int → Int} {a n z w : Int} (h1 : own_hh F a n z) (h2 : own_hh F a n w) : z = w := by
  obtain ⟨p1, p2, p3, p4, p5⟩ := h1
  obtain ⟨q1, q2, q3, q4, q5⟩ := h2
  by_cases n1 : n = 1
  · by_cases d : 48 ≤ F a ∧ F a ≤ 57
    · rw [p1 n1 d.1 d.2, q1 n1 d.1 d.2]
    · rw [p2 n1 d, q2 n1 d]
  by_cases n2 : n = 2
  · by_cases d : 48 ≤ F a ∧ F a ≤ 57 ∧ 48 ≤ F (a + 1) ∧ F (a + 1) ≤ 57 ∧ (F a - 48) * 10 + (F (a + 1) - 48) ≤ 48
    · rw [p3 n2 d, q3 n2 d]
    · rw [p4 n2 d, q4 n2 d]
  · rw [p5 n1 n2, q5 n1 n2]
theorem own_hhL {F : Int → Int} {a n z t u v : Int} (ht2 : n = 2 → t = F a - 48) (ht : n ≠ 2 → t = 0) (hu1 : n = 1 ∨ n = 2 → u = F (a + n - 1) - 48) (hu : n ≠ 1 → n ≠ 2 → u = -1) (hv : v = t * 10 + u) (hy : 0 ≤ u ∧ u ≤ 9 ∧ 1 ≤ v ∧ v ≤ 48 → z = v) (hn : ¬ (0 ≤ u ∧ u ≤ 9 ∧ 1 ≤ v ∧ v ≤ 48) → z = 0) : own_hh F a n z := by
  unfold own_hh
  by_cases n1 : n = 1
  · subst n1
    have h1 := hu1 (Or.inl rfl)
    have h2 := ht (by decide)
    rw [show a + 1 - 1 = a by omega] at h1
    generalize F a = A at *
    generalize F (a + 1) = B at *
    refine ⟨?_, ?_, ?_, ?_, ?_⟩ <;> omega
  by_cases n2 : n = 2
  · subst n2
    have h1 := hu1 (Or.inr rfl)
    have h2 := ht2 rfl
    rw [show a + 2 - 1 = a + 1 by omega] at h1
    generalize F a = A at *
    generalize F (a + 1) = B at *
    refine ⟨?_, ?_, ?_, ?_, ?_⟩ <;> omega
  · have h1 := hu n1 n2
    have h2 := ht n2
    refine ⟨?_, ?_, ?_, ?_, ?_⟩ <;> omega
theorem own_len {v p q : Int32} {a n : Int} (h : v = q - p) (ha : p.toInt = a) (hn : q.toInt = a + n) (ha0 : 0 ≤ a) (ha1 : a ≤ 1) (hn0 : 0 ≤ n) (hn1 : n ≤ 3) : v.toInt = n := by
  rw [h, Jvm.Free.XT.sub32 ⟨by omega, by omega⟩]; omega
theorem own_s48 {v w : Int32} (h : v = w - 48) (b : -128 ≤ w.toInt ∧ w.toInt ≤ 127) : v.toInt = w.toInt - 48 := by
  have k : (48 : Int32).toInt = 48 := rfl
  rw [h, Jvm.Free.XT.sub32 ⟨by omega, by omega⟩, k]
theorem own_v10 {v x y : Int32} (h : v = x * 10 + y) (b : -176 ≤ x.toInt ∧ x.toInt ≤ 79) (b' : -176 ≤ y.toInt ∧ y.toInt ≤ 79) : v.toInt = x.toInt * 10 + y.toInt := by
  have k : (10 : Int32).toInt = 10 := rfl
  have m : (x * 10).toInt = x.toInt * 10 := by rw [Jvm.Free.XT.mul32 ⟨by rw [k]; omega, by rw [k]; omega⟩, k]
  rw [h, Jvm.Free.XT.add32 ⟨by omega, by omega⟩, m]
theorem own_dec1 {q : Int32} (h1 : 0 ≤ q.toInt) : (q - 1).toInt = q.toInt - 1 := by
  have k : (1 : Int32).toInt = 1 := rfl
  have := rng32 q
  rw [Jvm.Free.XT.sub32 ⟨by omega, by omega⟩, k]
theorem own_ltI {a b : Int32} (h : a < b) : a.toInt < b.toInt := Int32.lt_iff_toInt_lt.mp h
theorem own_geI {a b : Int32} (h : ¬ a < b) : ¬ a.toInt < b.toInt := fun w => h (Int32.lt_iff_toInt_lt.mpr w)
theorem own_eqI {a b : Int32} (h : a = b) : a.toInt = b.toInt := congrArg _ h
theorem own_neI {a b : Int32} (h : ¬ a = b) : ¬ a.toInt = b.toInt := fun w => h (Int32.toInt_inj.mp w)
theorem own_k0 : (0 : Int32).toInt = 0 := rfl
theorem own_k1 : (1 : Int32).toInt = 1 := rfl
theorem own_k2 : (2 : Int32).toInt = 2 := rfl
theorem own_k9 : (9 : Int32).toInt = 9 := rfl
theorem own_k48 : (48 : Int32).toInt = 48 := rfl
theorem own_x0 {F : Int → Int} {a n : Int} (h1 : n ≠ 1) (h2 : n ≠ 2) : own_hh F a n 0 := by
  unfold own_hh; refine ⟨?_, ?_, ?_, ?_, ?_⟩ <;> intros <;> omega
theorem own_x1 {F : Int → Int} {a n z : Int} (h1 : n = 1) (hy : 48 ≤ F a → F a ≤ 57 → z = F a - 48) (hn : ¬ (48 ≤ F a ∧ F a ≤ 57) → z = 0) : own_hh F a n z := by
  unfold own_hh; exact ⟨fun _ => hy, fun _ => hn, fun q => by omega, fun q => by omega, fun q => absurd h1 q⟩
theorem own_x2 {F : Int → Int} {a n z : Int} (h1 : n = 2) (hy : 48 ≤ F a ∧ F a ≤ 57 ∧ 48 ≤ F (a + 1) ∧ F (a + 1) ≤ 57 ∧ (F a - 48) * 10 + (F (a + 1) - 48) ≤ 48 → z = (F a - 48) * 10 + (F (a + 1) - 48)) (hn : ¬ (48 ≤ F a ∧ F a ≤ 57 ∧ 48 ≤ F (a + 1) ∧ F (a + 1) ≤ 57 ∧ (F a - 48) * 10 + (F (a + 1) - 48) ≤ 48) → z = 0) : own_hh F a n z := by
  unfold own_hh; exact ⟨fun q => by omega, fun q => by omega, fun _ => hy, fun _ => hn, fun _ q => absurd h1 q⟩
theorem own_and1 (x : Int32) : 0 ≤ (x &&& 1).toInt ∧ (x &&& 1).toInt ≤ 1 := by
  rw [c_mask x 1 1 (by decide) (by decide)]; omega
theorem own_and3 (x : Int32) : 0 ≤ (x &&& 3).toInt ∧ (x &&& 3).toInt ≤ 3 := by
  rw [c_mask x 3 2 (by decide) (by decide)]; omega
theorem own_dig {x z : Int32} (h : z = if ¬ x < 48 ∧ ¬ 57 < x then 1 else 0) : (z = 0 ∧ ¬ (48 ≤ x.toInt ∧ x.toInt ≤ 57)) ∨ (z = 1 ∧ 48 ≤ x.toInt ∧ x.toInt ≤ 57) := by
  have k1 : (48 : Int32).toInt = 48 := rfl
  have k2 : (57 : Int32).toInt = 57 := rfl
  by_cases q : ¬ x < 48 ∧ ¬ 57 < x
  · rw [if_pos q] at h
    obtain ⟨q1, q2⟩ := q
    rw [Int32.lt_iff_toInt_lt] at q1 q2
    exact Or.inr ⟨h, by omega, by omega⟩
  · rw [if_neg q] at h
    refine Or.inl ⟨h, fun w => q ⟨?_, ?_⟩⟩ <;> rw [Int32.lt_iff_toInt_lt] <;> omega

theorem pd_0 : parseMethodDescriptor "(B)Z" = some ⟨[.byte], some .boolean⟩ := by decide +kernel
theorem pd_1 : parseMethodDescriptor "([BII)I" = some ⟨[(.array .byte), .int, .int], some .int⟩ := by decide +kernel
theorem d2_0 : decode method_2_code 0 = .ok (.iload_n 0, 1) := by decide +kernel
theorem d2_1 : decode method_2_code 1 = .ok (.bipush 48, 2) := by decide +kernel
theorem d2_3 : decode method_2_code 3 = .ok (.if_icmp .lt 13, 3) := by decide +kernel
theorem d2_6 : decode method_2_code 6 = .ok (.iload_n 0, 1) := by decide +kernel
theorem d2_7 : decode method_2_code 7 = .ok (.bipush 57, 2) := by decide +kernel
theorem d2_9 : decode method_2_code 9 = .ok (.if_icmp .gt 7, 3) := by decide +kernel
theorem d2_12 : decode method_2_code 12 = .ok (.iconst 1, 1) := by decide +kernel
theorem d2_13 : decode method_2_code 13 = .ok (.goto 4, 3) := by decide +kernel
theorem d2_16 : decode method_2_code 16 = .ok (.iconst 0, 1) := by decide +kernel
theorem d2_17 : decode method_2_code 17 = .ok (.ireturn, 1) := by decide +kernel
theorem pn_2 : plainName "com/example/lean_tariff/leantariff/io/HalfHourTableHalfHourPinLaw" = true := by first | (simp [plainName, overriddenIn]; done) | decide +kernel
theorem ef_2 (m : MethodId) (p0 : Int32) : entryFrame m #[.int p0] 1 = mkF m 0 #[.val (.int p0)] [] := by first | (simp [entryFrame, mkF, argsToLocals, Value.category]; done) | rfl
set_option maxRecDepth 65536 in
set_option maxHeartbeats 40000000 in
theorem ct_2 (l : Launch) (Z : State) (a0 : Array Value) (hw : ∀ d ∈ tables_1, d.before a0 Z = true) {h0 : Heap} {n0 : Nat} (zs : n0 ≤ h0.size) (p0 : Int32)  :
    CtK l Z (⟨"com/example/lean_tariff/leantariff/io/HalfHourTableHalfHourPinLaw", "isDigit", "(B)Z"⟩ : MethodName) method_2_code 1 (some .boolean) ({ frames := 0, cells := 0, slots := 0, locals := 0 } : Room) #[.int p0] h0 n0 (QI (fun z h => z = (if ¬ p0 < 48 ∧ ¬ 57 < p0 then 1 else 0) ∧ h = h0)) := by
  refine CtK.of (plainFor_of_name pn_2) ?_
  intro p e s m below meth c T0 X0 hx hZ hby hml hown hnm hret hlk
  refine GoK.entry (ef_2 m p0) ?_
  replace hown : s.vm.findClass "com/example/lean_tariff/leantariff/io/HalfHourTableHalfHourPinLaw" = some m.cls := hown
  refine go_iloadN (pc' := 1) X0 hx (hb hby d2_0) rfl rfl ?_
  refine go_bipush (pc' := 3) (v := 48) X0 hx (hb hby d2_1) rfl rfl ?_
  refine go_icmplt (pc' := 6) (pcT := 16) X0 hx (hb hby d2_3) rfl (by decide) (by decide) (fun c3 => ?_) (fun c3 => ?_)
  · refine go_iconst (pc' := 17) (v := 0) X0 hx (hb hby d2_16) rfl rfl ?_
    refine go_retN (t := .boolean) X0 hx hret (by simp) hlk (hb hby d2_17) (by decide) (by decide) ?_
    exact ⟨(if_neg (fun w => w.1 c3)).symm, rfl⟩
  · refine go_iloadN (pc' := 7) X0 hx (hb hby d2_6) rfl rfl ?_
    refine go_bipush (pc' := 9) (v := 57) X0 hx (hb hby d2_7) rfl rfl ?_
    refine go_icmpgt (pc' := 12) (pcT := 16) X0 hx (hb hby d2_9) rfl (by decide) (by decide) (fun c9_f => ?_) (fun c9_f => ?_)
    · refine go_iconst (pc' := 17) (v := 0) X0 hx (hb hby d2_16) rfl rfl ?_
      refine go_retN (t := .boolean) X0 hx hret (by simp) hlk (hb hby d2_17) (by decide) (by decide) ?_
      exact ⟨(if_neg (fun w => w.2 c9_f)).symm, rfl⟩
    · refine go_iconst (pc' := 13) (v := 1) X0 hx (hb hby d2_12) rfl rfl ?_
      refine go_goto (pc' := 17) X0 hx (hb hby d2_13) (by decide) (by decide) ?_
      refine go_retN (t := .boolean) X0 hx hret (by simp) hlk (hb hby d2_17) (by decide) (by decide) ?_
      exact ⟨(if_pos ⟨c3, c9_f⟩).symm, rfl⟩
theorem d1_0 : decode prog_18_method_12_code 0 = .ok (.iload_n 2, 1) := by decide +kernel
theorem d1_1 : decode prog_18_method_12_code 1 = .ok (.iload_n 1, 1) := by decide +kernel
theorem d1_2 : decode prog_18_method_12_code 2 = .ok (.isub, 1) := by decide +kernel
theorem d1_3 : decode prog_18_method_12_code 3 = .ok (.istore_n 3, 1) := by decide +kernel
theorem d1_4 : decode prog_18_method_12_code 4 = .ok (.iload_n 3, 1) := by decide +kernel
theorem d1_5 : decode prog_18_method_12_code 5 = .ok (.iconst 2, 1) := by decide +kernel
theorem d1_6 : decode prog_18_method_12_code 6 = .ok (.if_icmp .ne 12, 3) := by decide +kernel
theorem d1_9 : decode prog_18_method_12_code 9 = .ok (.aload_n 0, 1) := by decide +kernel
theorem d1_10 : decode prog_18_method_12_code 10 = .ok (.iload_n 1, 1) := by decide +kernel
theorem d1_11 : decode prog_18_method_12_code 11 = .ok (.baload, 1) := by decide +kernel
theorem d1_12 : decode prog_18_method_12_code 12 = .ok (.bipush 48, 2) := by decide +kernel
theorem d1_14 : decode prog_18_method_12_code 14 = .ok (.isub, 1) := by decide +kernel
theorem d1_15 : decode prog_18_method_12_code 15 = .ok (.goto 4, 3) := by decide +kernel
theorem d1_18 : decode prog_18_method_12_code 18 = .ok (.iconst 0, 1) := by decide +kernel
theorem d1_19 : decode prog_18_method_12_code 19 = .ok (.istore 4, 2) := by decide +kernel
theorem d1_21 : decode prog_18_method_12_code 21 = .ok (.iload_n 3, 1) := by decide +kernel
theorem d1_22 : decode prog_18_method_12_code 22 = .ok (.iconst 1, 1) := by decide +kernel
theorem d1_23 : decode prog_18_method_12_code 23 = .ok (.if_icmp .eq 8, 3) := by decide +kernel
theorem d1_26 : decode prog_18_method_12_code 26 = .ok (.iload_n 3, 1) := by decide +kernel
theorem d1_27 : decode prog_18_method_12_code 27 = .ok (.iconst 2, 1) := by decide +kernel
theorem d1_28 : decode prog_18_method_12_code 28 = .ok (.if_icmp .ne 14, 3) := by decide +kernel
theorem d1_31 : decode prog_18_method_12_code 31 = .ok (.aload_n 0, 1) := by decide +kernel
theorem d1_32 : decode prog_18_method_12_code 32 = .ok (.iload_n 2, 1) := by decide +kernel
theorem d1_33 : decode prog_18_method_12_code 33 = .ok (.iconst 1, 1) := by decide +kernel
theorem d1_34 : decode prog_18_method_12_code 34 = .ok (.isub, 1) := by decide +kernel
theorem d1_35 : decode prog_18_method_12_code 35 = .ok (.baload, 1) := by decide +kernel
theorem d1_36 : decode prog_18_method_12_code 36 = .ok (.bipush 48, 2) := by decide +kernel
theorem d1_38 : decode prog_18_method_12_code 38 = .ok (.isub, 1) := by decide +kernel
theorem d1_39 : decode prog_18_method_12_code 39 = .ok (.goto 4, 3) := by decide +kernel
theorem d1_42 : decode prog_18_method_12_code 42 = .ok (.iconst (-1), 1) := by decide +kernel
theorem d1_43 : decode prog_18_method_12_code 43 = .ok (.istore 5, 2) := by decide +kernel
theorem d1_45 : decode prog_18_method_12_code 45 = .ok (.iload 4, 2) := by decide +kernel
theorem d1_47 : decode prog_18_method_12_code 47 = .ok (.bipush 10, 2) := by decide +kernel
theorem d1_49 : decode prog_18_method_12_code 49 = .ok (.imul, 1) := by decide +kernel
theorem d1_50 : decode prog_18_method_12_code 50 = .ok (.iload 5, 2) := by decide +kernel
theorem d1_52 : decode prog_18_method_12_code 52 = .ok (.iadd, 1) := by decide +kernel
theorem d1_53 : decode prog_18_method_12_code 53 = .ok (.istore 6, 2) := by decide +kernel
theorem d1_55 : decode prog_18_method_12_code 55 = .ok (.iload 5, 2) := by decide +kernel
theorem d1_57 : decode prog_18_method_12_code 57 = .ok (.ifCond .lt 14, 3) := by decide +kernel
theorem d1_60 : decode prog_18_method_12_code 60 = .ok (.iload 5, 2) := by decide +kernel
theorem d1_62 : decode prog_18_method_12_code 62 = .ok (.bipush 9, 2) := by decide +kernel
theorem d1_64 : decode prog_18_method_12_code 64 = .ok (.if_icmp .gt 7, 3) := by decide +kernel
theorem d1_67 : decode prog_18_method_12_code 67 = .ok (.iconst 1, 1) := by decide +kernel
theorem d1_68 : decode prog_18_method_12_code 68 = .ok (.goto 4, 3) := by decide +kernel
theorem d1_71 : decode prog_18_method_12_code 71 = .ok (.iconst 0, 1) := by decide +kernel
theorem d1_72 : decode prog_18_method_12_code 72 = .ok (.istore 7, 2) := by decide +kernel
theorem d1_74 : decode prog_18_method_12_code 74 = .ok (.iload 7, 2) := by decide +kernel
theorem d1_76 : decode prog_18_method_12_code 76 = .ok (.ifCond .eq 21, 3) := by decide +kernel
theorem d1_79 : decode prog_18_method_12_code 79 = .ok (.iload 6, 2) := by decide +kernel
theorem d1_81 : decode prog_18_method_12_code 81 = .ok (.iconst 1, 1) := by decide +kernel
theorem d1_82 : decode prog_18_method_12_code 82 = .ok (.if_icmp .lt 15, 3) := by decide +kernel
theorem d1_85 : decode prog_18_method_12_code 85 = .ok (.iload 6, 2) := by decide +kernel
theorem d1_87 : decode prog_18_method_12_code 87 = .ok (.bipush 48, 2) := by decide +kernel
theorem d1_89 : decode prog_18_method_12_code 89 = .ok (.if_icmp .gt 8, 3) := by decide +kernel
theorem d1_92 : decode prog_18_method_12_code 92 = .ok (.iload 6, 2) := by decide +kernel
theorem d1_94 : decode prog_18_method_12_code 94 = .ok (.goto 4, 3) := by decide +kernel
theorem d1_97 : decode prog_18_method_12_code 97 = .ok (.iconst 0, 1) := by decide +kernel
theorem d1_98 : decode prog_18_method_12_code 98 = .ok (.ireturn, 1) := by decide +kernel
theorem pn_1 : plainName "com/example/lean_tariff/leantariff/io/HalfHourTable" = true := by first | (simp [plainName, overriddenIn]; done) | decide +kernel
theorem ef_1 (m : MethodId) (r0 : Addr) (p1 : Int32) (p2 : Int32) : entryFrame m #[.ref r0, .int p1, .int p2] 8 = mkF m 0 #[.val (.ref r0), .val (.int p1), .val (.int p2), .unset, .unset, .unset, .unset, .unset] [] := by first | (simp [entryFrame, mkF, argsToLocals, Value.category]; done) | rfl
set_option maxRecDepth 65536 in
set_option maxHeartbeats 40000000 in
theorem ct_1 (l : Launch) (Z : State) (a0 : Array Value) (hw : ∀ d ∈ tables_1, d.before a0 Z = true) {h0 : Heap} {n0 : Nat} (zs : n0 ≤ h0.size) (r0 : Addr) (p1 : Int32) (p2 : Int32) (f : Int → Int32) (a n : Int) (A_r0 : AIK Z h0 r0 .byte 4 f) (hf : ∀ i : Int, -128 ≤ (f i).toInt ∧ (f i).toInt ≤ 127) (ha : p1.toInt = a) (hn : p2.toInt = a + n) (ha0 : 0 ≤ a) (ha1 : a ≤ 1) (hn0 : 0 ≤ n) (hn1 : n ≤ 3) :
    CtK l Z (⟨"com/example/lean_tariff/leantariff/io/HalfHourTable", "halfHour", "([BII)I"⟩ : MethodName) prog_18_method_12_code 8 (some .int) ({ frames := 0, cells := 0, slots := 0, locals := 0 } : Room) #[.ref r0, .int p1, .int p2] h0 n0 (QI (fun z h => own_hh (fun i => (f i).toInt) a n z.toInt ∧ h = h0)) := by
  refine CtK.of (plainFor_of_name pn_1) ?_
  intro p e s m below meth c T0 X0 hx hZ hby hml hown hnm hret hlk
  refine GoK.entry (ef_1 m r0 p1 p2) ?_
  replace hown : s.vm.findClass "com/example/lean_tariff/leantariff/io/HalfHourTable" = some m.cls := hown
  refine go_iloadN (pc' := 1) X0 hx (hb hby d1_0) rfl rfl ?_
  refine go_iloadN (pc' := 2) X0 hx (hb hby d1_1) rfl rfl ?_
  refine go_isub (pc' := 3) X0 hx (hb hby d1_2) rfl ?_
  refine go_nameI (fun v3_3 hv3_3 => ?_)
  refine go_istoreN (pc' := 4) (L' := #[.val (.ref r0), .val (.int p1), .val (.int p2), .val (.int v3_3), .unset, .unset, .unset, .unset]) X0 hx (hb hby d1_3) rfl rfl ?_
  refine go_iloadN (pc' := 5) X0 hx (hb hby d1_4) rfl rfl ?_
  refine go_iconst (pc' := 6) (v := 2) X0 hx (hb hby d1_5) rfl rfl ?_
  refine go_icmpne (pc' := 9) (pcT := 18) X0 hx (hb hby d1_6) rfl (by decide) (by decide) (fun c6 => ?_) (fun c6 => ?_)
  · refine go_iconst (pc' := 19) (v := 0) X0 hx (hb hby d1_18) rfl rfl ?_
    refine go_istore (pc' := 21) (L' := #[.val (.ref r0), .val (.int p1), .val (.int p2), .val (.int v3_3), .val (.int (0 : Int32)), .unset, .unset, .unset]) X0 hx (hb hby d1_19) rfl rfl ?_
    refine go_iloadN (pc' := 22) X0 hx (hb hby d1_21) rfl rfl ?_
    refine go_iconst (pc' := 23) (v := 1) X0 hx (hb hby d1_22) rfl rfl ?_
    refine go_icmpeq (pc' := 26) (pcT := 31) X0 hx (hb hby d1_23) rfl (by decide) (by decide) (fun c23_t => ?_) (fun c23_t => ?_)
    · refine go_aloadN (pc' := 32) X0 hx (hb hby d1_31) rfl rfl ?_
      refine go_iloadN (pc' := 33) X0 hx (hb hby d1_32) rfl rfl ?_
      refine go_iconst (pc' := 34) (v := 1) X0 hx (hb hby d1_33) rfl rfl ?_
      refine go_isub (pc' := 35) X0 hx (hb hby d1_34) rfl ?_
      refine go_baloadB (pc' := 36) X0 hx hZ A_r0 (by rw [own_dec1 (by omega)]; have e3 := own_len hv3_3 ha hn ha0 ha1 hn0 hn1; have k1 := own_k1; have k2 := own_k2; have q := own_eqI c23_t; omega) (by rw [own_dec1 (by omega)]; omega) (hb hby d1_35) rfl (fun w35_tt hw35_tt => ?_)
      refine go_bipush (pc' := 38) (v := 48) X0 hx (hb hby d1_36) rfl rfl ?_
      refine go_isub (pc' := 39) X0 hx (hb hby d1_38) rfl ?_
      refine go_goto (pc' := 43) X0 hx (hb hby d1_39) (by decide) (by decide) ?_
      refine go_nameI (fun v5_43_tt hv5_43_tt => ?_)
      refine go_istore (pc' := 45) (L' := #[.val (.ref r0), .val (.int p1), .val (.int p2), .val (.int v3_3), .val (.int (0 : Int32)), .val (.int v5_43_tt), .unset, .unset]) X0 hx (hb hby d1_43) rfl rfl ?_
      refine go_iload (pc' := 47) X0 hx (hb hby d1_45) rfl rfl ?_
      refine go_bipush (pc' := 49) (v := 10) X0 hx (hb hby d1_47) rfl rfl ?_
      refine go_imul (pc' := 50) X0 hx (hb hby d1_49) rfl ?_
      refine go_iload (pc' := 52) X0 hx (hb hby d1_50) rfl rfl ?_
      refine go_iadd (pc' := 53) X0 hx (hb hby d1_52) rfl ?_
      refine go_nameI (fun v6_53_tt hv6_53_tt => ?_)
      refine go_istore (pc' := 55) (L' := #[.val (.ref r0), .val (.int p1), .val (.int p2), .val (.int v3_3), .val (.int (0 : Int32)), .val (.int v5_43_tt), .val (.int v6_53_tt), .unset]) X0 hx (hb hby d1_53) rfl rfl ?_
      refine go_iload (pc' := 57) X0 hx (hb hby d1_55) rfl rfl ?_
      refine go_iflt (pc' := 60) (pcT := 71) X0 hx (hb hby d1_57) rfl (by decide) (by decide) (fun c57_tt => ?_) (fun c57_tt => ?_)
      · refine go_iconst (pc' := 72) (v := 0) X0 hx (hb hby d1_71) rfl rfl ?_
        refine go_istore (pc' := 74) (L' := #[.val (.ref r0), .val (.int p1), .val (.int p2), .val (.int v3_3), .val (.int (0 : Int32)), .val (.int v5_43_tt), .val (.int v6_53_tt), .val (.int (0 : Int32))]) X0 hx (hb hby d1_72) rfl rfl ?_
        refine go_iload (pc' := 76) X0 hx (hb hby d1_74) rfl rfl ?_
        refine go_ifeq (pc' := 79) (pcT := 97) X0 hx (hb hby d1_76) rfl (by decide) (by decide) (fun c76_ttt => ?_) (fun c76_ttt => (by exfalso; revert c76_ttt; decide))
        refine go_iconst (pc' := 98) (v := 0) X0 hx (hb hby d1_97) rfl rfl ?_
        refine go_retI X0 hx hret hlk (hb hby d1_98) (by decide) (by decide) ?_
        refine ⟨?_, rfl⟩
        have e3 := own_len hv3_3 ha hn ha0 ha1 hn0 hn1
        have k0 := own_k0
        have k1 := own_k1
        have k2 := own_k2
        have k9 := own_k9
        have k48 := own_k48
        have q6 := own_neI c6
        have q23 := own_eqI c23_t
        have q57 := own_ltI c57_tt
        rw [own_dec1 (by omega), show p2.toInt - 1 = a + n - 1 by omega] at hw35_tt
        have b2 := hf (a + n - 1)
        rw [← hw35_tt] at b2
        have s5 := own_s48 hv5_43_tt b2
        have s6 := own_v10 hv6_53_tt ⟨by omega, by omega⟩ ⟨by omega, by omega⟩
        refine own_hhL (t := (0 : Int32).toInt) (u := v5_43_tt.toInt) (v := v6_53_tt.toInt) ?_ ?_ ?_ ?_ s6 ?_ ?_
        · intro q; exfalso; omega
        · intro q; exact own_k0
        · intro q; show _ = (f (a + n - 1)).toInt - 48; rw [← hw35_tt]; exact s5
        · intro q q'; exfalso; omega
        · intro q; exfalso; omega
        · intro q; exact own_k0
      · refine go_iload (pc' := 62) X0 hx (hb hby d1_60) rfl rfl ?_
        refine go_bipush (pc' := 64) (v := 9) X0 hx (hb hby d1_62) rfl rfl ?_
        refine go_icmpgt (pc' := 67) (pcT := 71) X0 hx (hb hby d1_64) rfl (by decide) (by decide) (fun c64_ttf => ?_) (fun c64_ttf => ?_)
        · refine go_iconst (pc' := 72) (v := 0) X0 hx (hb hby d1_71) rfl rfl ?_
          refine go_istore (pc' := 74) (L' := #[.val (.ref r0), .val (.int p1), .val (.int p2), .val (.int v3_3), .val (.int (0 : Int32)), .val (.int v5_43_tt), .val (.int v6_53_tt), .val (.int (0 : Int32))]) X0 hx (hb hby d1_72) rfl rfl ?_
          refine go_iload (pc' := 76) X0 hx (hb hby d1_74) rfl rfl ?_
          refine go_ifeq (pc' := 79) (pcT := 97) X0 hx (hb hby d1_76) rfl (by decide) (by decide) (fun c76_ttft => ?_) (fun c76_ttft => (by exfalso; revert c76_ttft; decide))
          refine go_iconst (pc' := 98) (v := 0) X0 hx (hb hby d1_97) rfl rfl ?_
          refine go_retI X0 hx hret hlk (hb hby d1_98) (by decide) (by decide) ?_
          refine ⟨?_, rfl⟩
          have e3 := own_len hv3_3 ha hn ha0 ha1 hn0 hn1
          have k0 := own_k0
          have k1 := own_k1
          have k2 := own_k2
          have k9 := own_k9
          have k48 := own_k48
          have q6 := own_neI c6
          have q23 := own_eqI c23_t
          have q57 := own_geI c57_tt
          have q64 := own_ltI c64_ttf
          rw [own_dec1 (by omega), show p2.toInt - 1 = a + n - 1 by omega] at hw35_tt
          have b2 := hf (a + n - 1)
          rw [← hw35_tt] at b2
          have s5 := own_s48 hv5_43_tt b2
          have s6 := own_v10 hv6_53_tt ⟨by omega, by omega⟩ ⟨by omega, by omega⟩
          refine own_hhL (t := (0 : Int32).toInt) (u := v5_43_tt.toInt) (v := v6_53_tt.toInt) ?_ ?_ ?_ ?_ s6 ?_ ?_
          · intro q; exfalso; omega
          · intro q; exact own_k0
          · intro q; show _ = (f (a + n - 1)).toInt - 48; rw [← hw35_tt]; exact s5
          · intro q q'; exfalso; omega
          · intro q; exfalso; omega
          · intro q; exact own_k0
        · refine go_iconst (pc' := 68) (v := 1) X0 hx (hb hby d1_67) rfl rfl ?_
          refine go_goto (pc' := 72) X0 hx (hb hby d1_68) (by decide) (by decide) ?_
          refine go_istore (pc' := 74) (L' := #[.val (.ref r0), .val (.int p1), .val (.int p2), .val (.int v3_3), .val (.int (0 : Int32)), .val (.int v5_43_tt), .val (.int v6_53_tt), .val (.int (1 : Int32))]) X0 hx (hb hby d1_72) rfl rfl ?_
          refine go_iload (pc' := 76) X0 hx (hb hby d1_74) rfl rfl ?_
          refine go_ifeq (pc' := 79) (pcT := 97) X0 hx (hb hby d1_76) rfl (by decide) (by decide) (fun c76_ttff => (by exfalso; revert c76_ttff; decide)) (fun c76_ttff => ?_)
          refine go_iload (pc' := 81) X0 hx (hb hby d1_79) rfl rfl ?_
          refine go_iconst (pc' := 82) (v := 1) X0 hx (hb hby d1_81) rfl rfl ?_
          refine go_icmplt (pc' := 85) (pcT := 97) X0 hx (hb hby d1_82) rfl (by decide) (by decide) (fun c82_ttff => ?_) (fun c82_ttff => ?_)
          · refine go_iconst (pc' := 98) (v := 0) X0 hx (hb hby d1_97) rfl rfl ?_
            refine go_retI X0 hx hret hlk (hb hby d1_98) (by decide) (by decide) ?_
            refine ⟨?_, rfl⟩
            have e3 := own_len hv3_3 ha hn ha0 ha1 hn0 hn1
            have k0 := own_k0
            have k1 := own_k1
            have k2 := own_k2
            have k9 := own_k9
            have k48 := own_k48
            have q6 := own_neI c6
            have q23 := own_eqI c23_t
            have q57 := own_geI c57_tt
            have q64 := own_geI c64_ttf
            have q82 := own_ltI c82_ttff
            rw [own_dec1 (by omega), show p2.toInt - 1 = a + n - 1 by omega] at hw35_tt
            have b2 := hf (a + n - 1)
            rw [← hw35_tt] at b2
            have s5 := own_s48 hv5_43_tt b2
            have s6 := own_v10 hv6_53_tt ⟨by omega, by omega⟩ ⟨by omega, by omega⟩
            refine own_hhL (t := (0 : Int32).toInt) (u := v5_43_tt.toInt) (v := v6_53_tt.toInt) ?_ ?_ ?_ ?_ s6 ?_ ?_
            · intro q; exfalso; omega
            · intro q; exact own_k0
            · intro q; show _ = (f (a + n - 1)).toInt - 48; rw [← hw35_tt]; exact s5
            · intro q q'; exfalso; omega
            · intro q; exfalso; omega
            · intro q; exact own_k0
          · refine go_iload (pc' := 87) X0 hx (hb hby d1_85) rfl rfl ?_
            refine go_bipush (pc' := 89) (v := 48) X0 hx (hb hby d1_87) rfl rfl ?_
            refine go_icmpgt (pc' := 92) (pcT := 97) X0 hx (hb hby d1_89) rfl (by decide) (by decide) (fun c89_ttfff => ?_) (fun c89_ttfff => ?_)
            · refine go_iconst (pc' := 98) (v := 0) X0 hx (hb hby d1_97) rfl rfl ?_
              refine go_retI X0 hx hret hlk (hb hby d1_98) (by decide) (by decide) ?_
              refine ⟨?_, rfl⟩
              have e3 := own_len hv3_3 ha hn ha0 ha1 hn0 hn1
              have k0 := own_k0
              have k1 := own_k1
              have k2 := own_k2
              have k9 := own_k9
              have k48 := own_k48
              have q6 := own_neI c6
              have q23 := own_eqI c23_t
              have q57 := own_geI c57_tt
              have q64 := own_geI c64_ttf
              have q82 := own_geI c82_ttff
              have q89 := own_ltI c89_ttfff
              rw [own_dec1 (by omega), show p2.toInt - 1 = a + n - 1 by omega] at hw35_tt
              have b2 := hf (a + n - 1)
              rw [← hw35_tt] at b2
              have s5 := own_s48 hv5_43_tt b2
              have s6 := own_v10 hv6_53_tt ⟨by omega, by omega⟩ ⟨by omega, by omega⟩
              refine own_hhL (t := (0 : Int32).toInt) (u := v5_43_tt.toInt) (v := v6_53_tt.toInt) ?_ ?_ ?_ ?_ s6 ?_ ?_
              · intro q; exfalso; omega
              · intro q; exact own_k0
              · intro q; show _ = (f (a + n - 1)).toInt - 48; rw [← hw35_tt]; exact s5
              · intro q q'; exfalso; omega
              · intro q; exfalso; omega
              · intro q; exact own_k0
            · refine go_iload (pc' := 94) X0 hx (hb hby d1_92) rfl rfl ?_
              refine go_goto (pc' := 98) X0 hx (hb hby d1_94) (by decide) (by decide) ?_
              refine go_retI X0 hx hret hlk (hb hby d1_98) (by decide) (by decide) ?_
              refine ⟨?_, rfl⟩
              have e3 := own_len hv3_3 ha hn ha0 ha1 hn0 hn1
              have k0 := own_k0
              have k1 := own_k1
              have k2 := own_k2
              have k9 := own_k9
              have k48 := own_k48
              have q6 := own_neI c6
              have q23 := own_eqI c23_t
              have q57 := own_geI c57_tt
              have q64 := own_geI c64_ttf
              have q82 := own_geI c82_ttff
              have q89 := own_geI c89_ttfff
              rw [own_dec1 (by omega), show p2.toInt - 1 = a + n - 1 by omega] at hw35_tt
              have b2 := hf (a + n - 1)
              rw [← hw35_tt] at b2
              have s5 := own_s48 hv5_43_tt b2
              have s6 := own_v10 hv6_53_tt ⟨by omega, by omega⟩ ⟨by omega, by omega⟩
              refine own_hhL (t := (0 : Int32).toInt) (u := v5_43_tt.toInt) (v := v6_53_tt.toInt) ?_ ?_ ?_ ?_ s6 ?_ ?_
              · intro q; exfalso; omega
              · intro q; exact own_k0
              · intro q; show _ = (f (a + n - 1)).toInt - 48; rw [← hw35_tt]; exact s5
              · intro q q'; exfalso; omega
              · intro q; rfl
              · intro q; exfalso; omega
    · refine go_iloadN (pc' := 27) X0 hx (hb hby d1_26) rfl rfl ?_
      refine go_iconst (pc' := 28) (v := 2) X0 hx (hb hby d1_27) rfl rfl ?_
      refine go_icmpne (pc' := 31) (pcT := 42) X0 hx (hb hby d1_28) rfl (by decide) (by decide) (fun c28_tf => ?_) (fun c28_tf => ?_)
      · refine go_iconst (pc' := 43) (v := -1) X0 hx (hb hby d1_42) rfl rfl ?_
        refine go_istore (pc' := 45) (L' := #[.val (.ref r0), .val (.int p1), .val (.int p2), .val (.int v3_3), .val (.int (0 : Int32)), .val (.int (-1 : Int32)), .unset, .unset]) X0 hx (hb hby d1_43) rfl rfl ?_
        refine go_iload (pc' := 47) X0 hx (hb hby d1_45) rfl rfl ?_
        refine go_bipush (pc' := 49) (v := 10) X0 hx (hb hby d1_47) rfl rfl ?_
        refine go_imul (pc' := 50) X0 hx (hb hby d1_49) rfl ?_
        refine go_iload (pc' := 52) X0 hx (hb hby d1_50) rfl rfl ?_
        refine go_iadd (pc' := 53) X0 hx (hb hby d1_52) rfl ?_
        refine go_nameI (fun v6_53_tft hv6_53_tft => ?_)
        obtain rfl : v6_53_tft = (-1 : Int32) := hv6_53_tft.trans (by decide)
        refine go_istore (pc' := 55) (L' := #[.val (.ref r0), .val (.int p1), .val (.int p2), .val (.int v3_3), .val (.int (0 : Int32)), .val (.int (-1 : Int32)), .val (.int (-1 : Int32)), .unset]) X0 hx (hb hby d1_53) rfl rfl ?_
        refine go_iload (pc' := 57) X0 hx (hb hby d1_55) rfl rfl ?_
        refine go_iflt (pc' := 60) (pcT := 71) X0 hx (hb hby d1_57) rfl (by decide) (by decide) (fun c57_tft => ?_) (fun c57_tft => (by exfalso; revert c57_tft; decide))
        refine go_iconst (pc' := 72) (v := 0) X0 hx (hb hby d1_71) rfl rfl ?_
        refine go_istore (pc' := 74) (L' := #[.val (.ref r0), .val (.int p1), .val (.int p2), .val (.int v3_3), .val (.int (0 : Int32)), .val (.int (-1 : Int32)), .val (.int (-1 : Int32)), .val (.int (0 : Int32))]) X0 hx (hb hby d1_72) rfl rfl ?_
        refine go_iload (pc' := 76) X0 hx (hb hby d1_74) rfl rfl ?_
        refine go_ifeq (pc' := 79) (pcT := 97) X0 hx (hb hby d1_76) rfl (by decide) (by decide) (fun c76_tft => ?_) (fun c76_tft => (by exfalso; revert c76_tft; decide))
        refine go_iconst (pc' := 98) (v := 0) X0 hx (hb hby d1_97) rfl rfl ?_
        refine go_retI X0 hx hret hlk (hb hby d1_98) (by decide) (by decide) ?_
        refine ⟨?_, rfl⟩
        have e3 := own_len hv3_3 ha hn ha0 ha1 hn0 hn1
        have k0 := own_k0
        have k1 := own_k1
        have k2 := own_k2
        have k9 := own_k9
        have k48 := own_k48
        have q6 := own_neI c6
        have q23 := own_neI c23_t
        have q28 := own_neI c28_tf
        have q57 := own_ltI c57_tft
        have s5 : (-1 : Int32).toInt = -1 := rfl
        have s6 : (-1 : Int32).toInt = (0 : Int32).toInt * 10 + (-1 : Int32).toInt := rfl
        refine own_hhL (t := (0 : Int32).toInt) (u := (-1 : Int32).toInt) (v := (-1 : Int32).toInt) ?_ ?_ ?_ ?_ s6 ?_ ?_
        · intro q; exfalso; omega
        · intro q; exact own_k0
        · intro q; exfalso; omega
        · intro q q'; exact s5
        · intro q; exfalso; omega
        · intro q; exact own_k0
      · refine go_aloadN (pc' := 32) X0 hx (hb hby d1_31) rfl rfl ?_
        refine go_iloadN (pc' := 33) X0 hx (hb hby d1_32) rfl rfl ?_
        refine go_iconst (pc' := 34) (v := 1) X0 hx (hb hby d1_33) rfl rfl ?_
        refine go_isub (pc' := 35) X0 hx (hb hby d1_34) rfl ?_
        refine go_baloadB (pc' := 36) X0 hx hZ A_r0 (by rw [own_dec1 (by omega)]; have e3 := own_len hv3_3 ha hn ha0 ha1 hn0 hn1; have k1 := own_k1; have k2 := own_k2; have q := own_eqI c28_tf; omega) (by rw [own_dec1 (by omega)]; omega) (hb hby d1_35) rfl (fun w35_tff hw35_tff => ?_)
        refine go_bipush (pc' := 38) (v := 48) X0 hx (hb hby d1_36) rfl rfl ?_
        refine go_isub (pc' := 39) X0 hx (hb hby d1_38) rfl ?_
        refine go_goto (pc' := 43) X0 hx (hb hby d1_39) (by decide) (by decide) ?_
        refine go_nameI (fun v5_43_tff hv5_43_tff => ?_)
        refine go_istore (pc' := 45) (L' := #[.val (.ref r0), .val (.int p1), .val (.int p2), .val (.int v3_3), .val (.int (0 : Int32)), .val (.int v5_43_tff), .unset, .unset]) X0 hx (hb hby d1_43) rfl rfl ?_
        refine go_iload (pc' := 47) X0 hx (hb hby d1_45) rfl rfl ?_
        refine go_bipush (pc' := 49) (v := 10) X0 hx (hb hby d1_47) rfl rfl ?_
        refine go_imul (pc' := 50) X0 hx (hb hby d1_49) rfl ?_
        refine go_iload (pc' := 52) X0 hx (hb hby d1_50) rfl rfl ?_
        refine go_iadd (pc' := 53) X0 hx (hb hby d1_52) rfl ?_
        refine go_nameI (fun v6_53_tff hv6_53_tff => ?_)
        refine go_istore (pc' := 55) (L' := #[.val (.ref r0), .val (.int p1), .val (.int p2), .val (.int v3_3), .val (.int (0 : Int32)), .val (.int v5_43_tff), .val (.int v6_53_tff), .unset]) X0 hx (hb hby d1_53) rfl rfl ?_
        refine go_iload (pc' := 57) X0 hx (hb hby d1_55) rfl rfl ?_
        refine go_iflt (pc' := 60) (pcT := 71) X0 hx (hb hby d1_57) rfl (by decide) (by decide) (fun c57_tff => ?_) (fun c57_tff => ?_)
        · refine go_iconst (pc' := 72) (v := 0) X0 hx (hb hby d1_71) rfl rfl ?_
          refine go_istore (pc' := 74) (L' := #[.val (.ref r0), .val (.int p1), .val (.int p2), .val (.int v3_3), .val (.int (0 : Int32)), .val (.int v5_43_tff), .val (.int v6_53_tff), .val (.int (0 : Int32))]) X0 hx (hb hby d1_72) rfl rfl ?_
          refine go_iload (pc' := 76) X0 hx (hb hby d1_74) rfl rfl ?_
          refine go_ifeq (pc' := 79) (pcT := 97) X0 hx (hb hby d1_76) rfl (by decide) (by decide) (fun c76_tfft => ?_) (fun c76_tfft => (by exfalso; revert c76_tfft; decide))
          refine go_iconst (pc' := 98) (v := 0) X0 hx (hb hby d1_97) rfl rfl ?_
          refine go_retI X0 hx hret hlk (hb hby d1_98) (by decide) (by decide) ?_
          refine ⟨?_, rfl⟩
          have e3 := own_len hv3_3 ha hn ha0 ha1 hn0 hn1
          have k0 := own_k0
          have k1 := own_k1
          have k2 := own_k2
          have k9 := own_k9
          have k48 := own_k48
          have q6 := own_neI c6
          have q23 := own_neI c23_t
          have q28 := own_eqI c28_tf
          have q57 := own_ltI c57_tff
          rw [own_dec1 (by omega), show p2.toInt - 1 = a + n - 1 by omega] at hw35_tff
          have b2 := hf (a + n - 1)
          rw [← hw35_tff] at b2
          have s5 := own_s48 hv5_43_tff b2
          have s6 := own_v10 hv6_53_tff ⟨by omega, by omega⟩ ⟨by omega, by omega⟩
          refine own_hhL (t := (0 : Int32).toInt) (u := v5_43_tff.toInt) (v := v6_53_tff.toInt) ?_ ?_ ?_ ?_ s6 ?_ ?_
          · intro q; exfalso; omega
          · intro q; exact own_k0
          · intro q; show _ = (f (a + n - 1)).toInt - 48; rw [← hw35_tff]; exact s5
          · intro q q'; exfalso; omega
          · intro q; exfalso; omega
          · intro q; exact own_k0
        · refine go_iload (pc' := 62) X0 hx (hb hby d1_60) rfl rfl ?_
          refine go_bipush (pc' := 64) (v := 9) X0 hx (hb hby d1_62) rfl rfl ?_
          refine go_icmpgt (pc' := 67) (pcT := 71) X0 hx (hb hby d1_64) rfl (by decide) (by decide) (fun c64_tfff => ?_) (fun c64_tfff => ?_)
          · refine go_iconst (pc' := 72) (v := 0) X0 hx (hb hby d1_71) rfl rfl ?_
            refine go_istore (pc' := 74) (L' := #[.val (.ref r0), .val (.int p1), .val (.int p2), .val (.int v3_3), .val (.int (0 : Int32)), .val (.int v5_43_tff), .val (.int v6_53_tff), .val (.int (0 : Int32))]) X0 hx (hb hby d1_72) rfl rfl ?_
            refine go_iload (pc' := 76) X0 hx (hb hby d1_74) rfl rfl ?_
            refine go_ifeq (pc' := 79) (pcT := 97) X0 hx (hb hby d1_76) rfl (by decide) (by decide) (fun c76_tffft => ?_) (fun c76_tffft => (by exfalso; revert c76_tffft; decide))
            refine go_iconst (pc' := 98) (v := 0) X0 hx (hb hby d1_97) rfl rfl ?_
            refine go_retI X0 hx hret hlk (hb hby d1_98) (by decide) (by decide) ?_
            refine ⟨?_, rfl⟩
            have e3 := own_len hv3_3 ha hn ha0 ha1 hn0 hn1
            have k0 := own_k0
            have k1 := own_k1
            have k2 := own_k2
            have k9 := own_k9
            have k48 := own_k48
            have q6 := own_neI c6
            have q23 := own_neI c23_t
            have q28 := own_eqI c28_tf
            have q57 := own_geI c57_tff
            have q64 := own_ltI c64_tfff
            rw [own_dec1 (by omega), show p2.toInt - 1 = a + n - 1 by omega] at hw35_tff
            have b2 := hf (a + n - 1)
            rw [← hw35_tff] at b2
            have s5 := own_s48 hv5_43_tff b2
            have s6 := own_v10 hv6_53_tff ⟨by omega, by omega⟩ ⟨by omega, by omega⟩
            refine own_hhL (t := (0 : Int32).toInt) (u := v5_43_tff.toInt) (v := v6_53_tff.toInt) ?_ ?_ ?_ ?_ s6 ?_ ?_
            · intro q; exfalso; omega
            · intro q; exact own_k0
            · intro q; show _ = (f (a + n - 1)).toInt - 48; rw [← hw35_tff]; exact s5
            · intro q q'; exfalso; omega
            · intro q; exfalso; omega
            · intro q; exact own_k0
          · refine go_iconst (pc' := 68) (v := 1) X0 hx (hb hby d1_67) rfl rfl ?_
            refine go_goto (pc' := 72) X0 hx (hb hby d1_68) (by decide) (by decide) ?_
            refine go_istore (pc' := 74) (L' := #[.val (.ref r0), .val (.int p1), .val (.int p2), .val (.int v3_3), .val (.int (0 : Int32)), .val (.int v5_43_tff), .val (.int v6_53_tff), .val (.int (1 : Int32))]) X0 hx (hb hby d1_72) rfl rfl ?_
            refine go_iload (pc' := 76) X0 hx (hb hby d1_74) rfl rfl ?_
            refine go_ifeq (pc' := 79) (pcT := 97) X0 hx (hb hby d1_76) rfl (by decide) (by decide) (fun c76_tffff => (by exfalso; revert c76_tffff; decide)) (fun c76_tffff => ?_)
            refine go_iload (pc' := 81) X0 hx (hb hby d1_79) rfl rfl ?_
            refine go_iconst (pc' := 82) (v := 1) X0 hx (hb hby d1_81) rfl rfl ?_
            refine go_icmplt (pc' := 85) (pcT := 97) X0 hx (hb hby d1_82) rfl (by decide) (by decide) (fun c82_tffff => ?_) (fun c82_tffff => ?_)
            · refine go_iconst (pc' := 98) (v := 0) X0 hx (hb hby d1_97) rfl rfl ?_
              refine go_retI X0 hx hret hlk (hb hby d1_98) (by decide) (by decide) ?_
              refine ⟨?_, rfl⟩
              have e3 := own_len hv3_3 ha hn ha0 ha1 hn0 hn1
              have k0 := own_k0
              have k1 := own_k1
              have k2 := own_k2
              have k9 := own_k9
              have k48 := own_k48
              have q6 := own_neI c6
              have q23 := own_neI c23_t
              have q28 := own_eqI c28_tf
              have q57 := own_geI c57_tff
              have q64 := own_geI c64_tfff
              have q82 := own_ltI c82_tffff
              rw [own_dec1 (by omega), show p2.toInt - 1 = a + n - 1 by omega] at hw35_tff
              have b2 := hf (a + n - 1)
              rw [← hw35_tff] at b2
              have s5 := own_s48 hv5_43_tff b2
              have s6 := own_v10 hv6_53_tff ⟨by omega, by omega⟩ ⟨by omega, by omega⟩
              refine own_hhL (t := (0 : Int32).toInt) (u := v5_43_tff.toInt) (v := v6_53_tff.toInt) ?_ ?_ ?_ ?_ s6 ?_ ?_
              · intro q; exfalso; omega
              · intro q; exact own_k0
              · intro q; show _ = (f (a + n - 1)).toInt - 48; rw [← hw35_tff]; exact s5
              · intro q q'; exfalso; omega
              · intro q; exfalso; omega
              · intro q; exact own_k0
            · refine go_iload (pc' := 87) X0 hx (hb hby d1_85) rfl rfl ?_
              refine go_bipush (pc' := 89) (v := 48) X0 hx (hb hby d1_87) rfl rfl ?_
              refine go_icmpgt (pc' := 92) (pcT := 97) X0 hx (hb hby d1_89) rfl (by decide) (by decide) (fun c89_tfffff => ?_) (fun c89_tfffff => ?_)
              · refine go_iconst (pc' := 98) (v := 0) X0 hx (hb hby d1_97) rfl rfl ?_
                refine go_retI X0 hx hret hlk (hb hby d1_98) (by decide) (by decide) ?_
                refine ⟨?_, rfl⟩
                have e3 := own_len hv3_3 ha hn ha0 ha1 hn0 hn1
                have k0 := own_k0
                have k1 := own_k1
                have k2 := own_k2
                have k9 := own_k9
                have k48 := own_k48
                have q6 := own_neI c6
                have q23 := own_neI c23_t
                have q28 := own_eqI c28_tf
                have q57 := own_geI c57_tff
                have q64 := own_geI c64_tfff
                have q82 := own_geI c82_tffff
                have q89 := own_ltI c89_tfffff
                rw [own_dec1 (by omega), show p2.toInt - 1 = a + n - 1 by omega] at hw35_tff
                have b2 := hf (a + n - 1)
                rw [← hw35_tff] at b2
                have s5 := own_s48 hv5_43_tff b2
                have s6 := own_v10 hv6_53_tff ⟨by omega, by omega⟩ ⟨by omega, by omega⟩
                refine own_hhL (t := (0 : Int32).toInt) (u := v5_43_tff.toInt) (v := v6_53_tff.toInt) ?_ ?_ ?_ ?_ s6 ?_ ?_
                · intro q; exfalso; omega
                · intro q; exact own_k0
                · intro q; show _ = (f (a + n - 1)).toInt - 48; rw [← hw35_tff]; exact s5
                · intro q q'; exfalso; omega
                · intro q; exfalso; omega
                · intro q; exact own_k0
              · refine go_iload (pc' := 94) X0 hx (hb hby d1_92) rfl rfl ?_
                refine go_goto (pc' := 98) X0 hx (hb hby d1_94) (by decide) (by decide) ?_
                refine go_retI X0 hx hret hlk (hb hby d1_98) (by decide) (by decide) ?_
                refine ⟨?_, rfl⟩
                have e3 := own_len hv3_3 ha hn ha0 ha1 hn0 hn1
                have k0 := own_k0
                have k1 := own_k1
                have k2 := own_k2
                have k9 := own_k9
                have k48 := own_k48
                have q6 := own_neI c6
                have q23 := own_neI c23_t
                have q28 := own_eqI c28_tf
                have q57 := own_geI c57_tff
                have q64 := own_geI c64_tfff
                have q82 := own_geI c82_tffff
                have q89 := own_geI c89_tfffff
                rw [own_dec1 (by omega), show p2.toInt - 1 = a + n - 1 by omega] at hw35_tff
                have b2 := hf (a + n - 1)
                rw [← hw35_tff] at b2
                have s5 := own_s48 hv5_43_tff b2
                have s6 := own_v10 hv6_53_tff ⟨by omega, by omega⟩ ⟨by omega, by omega⟩
                refine own_hhL (t := (0 : Int32).toInt) (u := v5_43_tff.toInt) (v := v6_53_tff.toInt) ?_ ?_ ?_ ?_ s6 ?_ ?_
                · intro q; exfalso; omega
                · intro q; exact own_k0
                · intro q; show _ = (f (a + n - 1)).toInt - 48; rw [← hw35_tff]; exact s5
                · intro q q'; exfalso; omega
                · intro q; rfl
                · intro q; exfalso; omega
  · refine go_aloadN (pc' := 10) X0 hx (hb hby d1_9) rfl rfl ?_
    refine go_iloadN (pc' := 11) X0 hx (hb hby d1_10) rfl rfl ?_
    refine go_baloadB (pc' := 12) X0 hx hZ A_r0 (by omega) (by omega) (hb hby d1_11) rfl (fun w11_f hw11_f => ?_)
    refine go_bipush (pc' := 14) (v := 48) X0 hx (hb hby d1_12) rfl rfl ?_
    refine go_isub (pc' := 15) X0 hx (hb hby d1_14) rfl ?_
    refine go_goto (pc' := 19) X0 hx (hb hby d1_15) (by decide) (by decide) ?_
    refine go_nameI (fun v4_19_f hv4_19_f => ?_)
    refine go_istore (pc' := 21) (L' := #[.val (.ref r0), .val (.int p1), .val (.int p2), .val (.int v3_3), .val (.int v4_19_f), .unset, .unset, .unset]) X0 hx (hb hby d1_19) rfl rfl ?_
    refine go_iloadN (pc' := 22) X0 hx (hb hby d1_21) rfl rfl ?_
    refine go_iconst (pc' := 23) (v := 1) X0 hx (hb hby d1_22) rfl rfl ?_
    refine go_icmpeq (pc' := 26) (pcT := 31) X0 hx (hb hby d1_23) rfl (by decide) (by decide) (fun c23_f => ?_) (fun c23_f => ?_)
    · refine go_aloadN (pc' := 32) X0 hx (hb hby d1_31) rfl rfl ?_
      refine go_iloadN (pc' := 33) X0 hx (hb hby d1_32) rfl rfl ?_
      refine go_iconst (pc' := 34) (v := 1) X0 hx (hb hby d1_33) rfl rfl ?_
      refine go_isub (pc' := 35) X0 hx (hb hby d1_34) rfl ?_
      refine go_baloadB (pc' := 36) X0 hx hZ A_r0 (by rw [own_dec1 (by omega)]; have e3 := own_len hv3_3 ha hn ha0 ha1 hn0 hn1; have k1 := own_k1; have k2 := own_k2; have q := own_eqI c23_f; omega) (by rw [own_dec1 (by omega)]; omega) (hb hby d1_35) rfl (fun w35_ft hw35_ft => ?_)
      refine go_bipush (pc' := 38) (v := 48) X0 hx (hb hby d1_36) rfl rfl ?_
      refine go_isub (pc' := 39) X0 hx (hb hby d1_38) rfl ?_
      refine go_goto (pc' := 43) X0 hx (hb hby d1_39) (by decide) (by decide) ?_
      refine go_nameI (fun v5_43_ft hv5_43_ft => ?_)
      refine go_istore (pc' := 45) (L' := #[.val (.ref r0), .val (.int p1), .val (.int p2), .val (.int v3_3), .val (.int v4_19_f), .val (.int v5_43_ft), .unset, .unset]) X0 hx (hb hby d1_43) rfl rfl ?_
      refine go_iload (pc' := 47) X0 hx (hb hby d1_45) rfl rfl ?_
      refine go_bipush (pc' := 49) (v := 10) X0 hx (hb hby d1_47) rfl rfl ?_
      refine go_imul (pc' := 50) X0 hx (hb hby d1_49) rfl ?_
      refine go_iload (pc' := 52) X0 hx (hb hby d1_50) rfl rfl ?_
      refine go_iadd (pc' := 53) X0 hx (hb hby d1_52) rfl ?_
      refine go_nameI (fun v6_53_ft hv6_53_ft => ?_)
      refine go_istore (pc' := 55) (L' := #[.val (.ref r0), .val (.int p1), .val (.int p2), .val (.int v3_3), .val (.int v4_19_f), .val (.int v5_43_ft), .val (.int v6_53_ft), .unset]) X0 hx (hb hby d1_53) rfl rfl ?_
      refine go_iload (pc' := 57) X0 hx (hb hby d1_55) rfl rfl ?_
      refine go_iflt (pc' := 60) (pcT := 71) X0 hx (hb hby d1_57) rfl (by decide) (by decide) (fun c57_ft => ?_) (fun c57_ft => ?_)
      · refine go_iconst (pc' := 72) (v := 0) X0 hx (hb hby d1_71) rfl rfl ?_
        refine go_istore (pc' := 74) (L' := #[.val (.ref r0), .val (.int p1), .val (.int p2), .val (.int v3_3), .val (.int v4_19_f), .val (.int v5_43_ft), .val (.int v6_53_ft), .val (.int (0 : Int32))]) X0 hx (hb hby d1_72) rfl rfl ?_
        refine go_iload (pc' := 76) X0 hx (hb hby d1_74) rfl rfl ?_
        refine go_ifeq (pc' := 79) (pcT := 97) X0 hx (hb hby d1_76) rfl (by decide) (by decide) (fun c76_ftt => ?_) (fun c76_ftt => (by exfalso; revert c76_ftt; decide))
        refine go_iconst (pc' := 98) (v := 0) X0 hx (hb hby d1_97) rfl rfl ?_
        refine go_retI X0 hx hret hlk (hb hby d1_98) (by decide) (by decide) ?_
        refine ⟨?_, rfl⟩
        have e3 := own_len hv3_3 ha hn ha0 ha1 hn0 hn1
        have k0 := own_k0
        have k1 := own_k1
        have k2 := own_k2
        have k9 := own_k9
        have k48 := own_k48
        have q6 := own_eqI c6
        have q23 := own_eqI c23_f
        have q57 := own_ltI c57_ft
        rw [ha] at hw11_f
        have b1 := hf a
        rw [← hw11_f] at b1
        have s4 := own_s48 hv4_19_f b1
        rw [own_dec1 (by omega), show p2.toInt - 1 = a + n - 1 by omega] at hw35_ft
        have b2 := hf (a + n - 1)
        rw [← hw35_ft] at b2
        have s5 := own_s48 hv5_43_ft b2
        have s6 := own_v10 hv6_53_ft ⟨by omega, by omega⟩ ⟨by omega, by omega⟩
        refine own_hhL (t := v4_19_f.toInt) (u := v5_43_ft.toInt) (v := v6_53_ft.toInt) ?_ ?_ ?_ ?_ s6 ?_ ?_
        · intro q; show _ = (f a).toInt - 48; rw [← hw11_f]; exact s4
        · intro q; exfalso; omega
        · intro q; show _ = (f (a + n - 1)).toInt - 48; rw [← hw35_ft]; exact s5
        · intro q q'; exfalso; omega
        · intro q; exfalso; omega
        · intro q; exact own_k0
      · refine go_iload (pc' := 62) X0 hx (hb hby d1_60) rfl rfl ?_
        refine go_bipush (pc' := 64) (v := 9) X0 hx (hb hby d1_62) rfl rfl ?_
        refine go_icmpgt (pc' := 67) (pcT := 71) X0 hx (hb hby d1_64) rfl (by decide) (by decide) (fun c64_ftf => ?_) (fun c64_ftf => ?_)
        · refine go_iconst (pc' := 72) (v := 0) X0 hx (hb hby d1_71) rfl rfl ?_
          refine go_istore (pc' := 74) (L' := #[.val (.ref r0), .val (.int p1), .val (.int p2), .val (.int v3_3), .val (.int v4_19_f), .val (.int v5_43_ft), .val (.int v6_53_ft), .val (.int (0 : Int32))]) X0 hx (hb hby d1_72) rfl rfl ?_
          refine go_iload (pc' := 76) X0 hx (hb hby d1_74) rfl rfl ?_
          refine go_ifeq (pc' := 79) (pcT := 97) X0 hx (hb hby d1_76) rfl (by decide) (by decide) (fun c76_ftft => ?_) (fun c76_ftft => (by exfalso; revert c76_ftft; decide))
          refine go_iconst (pc' := 98) (v := 0) X0 hx (hb hby d1_97) rfl rfl ?_
          refine go_retI X0 hx hret hlk (hb hby d1_98) (by decide) (by decide) ?_
          refine ⟨?_, rfl⟩
          have e3 := own_len hv3_3 ha hn ha0 ha1 hn0 hn1
          have k0 := own_k0
          have k1 := own_k1
          have k2 := own_k2
          have k9 := own_k9
          have k48 := own_k48
          have q6 := own_eqI c6
          have q23 := own_eqI c23_f
          have q57 := own_geI c57_ft
          have q64 := own_ltI c64_ftf
          rw [ha] at hw11_f
          have b1 := hf a
          rw [← hw11_f] at b1
          have s4 := own_s48 hv4_19_f b1
          rw [own_dec1 (by omega), show p2.toInt - 1 = a + n - 1 by omega] at hw35_ft
          have b2 := hf (a + n - 1)
          rw [← hw35_ft] at b2
          have s5 := own_s48 hv5_43_ft b2
          have s6 := own_v10 hv6_53_ft ⟨by omega, by omega⟩ ⟨by omega, by omega⟩
          refine own_hhL (t := v4_19_f.toInt) (u := v5_43_ft.toInt) (v := v6_53_ft.toInt) ?_ ?_ ?_ ?_ s6 ?_ ?_
          · intro q; show _ = (f a).toInt - 48; rw [← hw11_f]; exact s4
          · intro q; exfalso; omega
          · intro q; show _ = (f (a + n - 1)).toInt - 48; rw [← hw35_ft]; exact s5
          · intro q q'; exfalso; omega
          · intro q; exfalso; omega
          · intro q; exact own_k0
        · refine go_iconst (pc' := 68) (v := 1) X0 hx (hb hby d1_67) rfl rfl ?_
          refine go_goto (pc' := 72) X0 hx (hb hby d1_68) (by decide) (by decide) ?_
          refine go_istore (pc' := 74) (L' := #[.val (.ref r0), .val (.int p1), .val (.int p2), .val (.int v3_3), .val (.int v4_19_f), .val (.int v5_43_ft), .val (.int v6_53_ft), .val (.int (1 : Int32))]) X0 hx (hb hby d1_72) rfl rfl ?_
          refine go_iload (pc' := 76) X0 hx (hb hby d1_74) rfl rfl ?_
          refine go_ifeq (pc' := 79) (pcT := 97) X0 hx (hb hby d1_76) rfl (by decide) (by decide) (fun c76_ftff => (by exfalso; revert c76_ftff; decide)) (fun c76_ftff => ?_)
          refine go_iload (pc' := 81) X0 hx (hb hby d1_79) rfl rfl ?_
          refine go_iconst (pc' := 82) (v := 1) X0 hx (hb hby d1_81) rfl rfl ?_
          refine go_icmplt (pc' := 85) (pcT := 97) X0 hx (hb hby d1_82) rfl (by decide) (by decide) (fun c82_ftff => ?_) (fun c82_ftff => ?_)
          · refine go_iconst (pc' := 98) (v := 0) X0 hx (hb hby d1_97) rfl rfl ?_
            refine go_retI X0 hx hret hlk (hb hby d1_98) (by decide) (by decide) ?_
            refine ⟨?_, rfl⟩
            have e3 := own_len hv3_3 ha hn ha0 ha1 hn0 hn1
            have k0 := own_k0
            have k1 := own_k1
            have k2 := own_k2
            have k9 := own_k9
            have k48 := own_k48
            have q6 := own_eqI c6
            have q23 := own_eqI c23_f
            have q57 := own_geI c57_ft
            have q64 := own_geI c64_ftf
            have q82 := own_ltI c82_ftff
            rw [ha] at hw11_f
            have b1 := hf a
            rw [← hw11_f] at b1
            have s4 := own_s48 hv4_19_f b1
            rw [own_dec1 (by omega), show p2.toInt - 1 = a + n - 1 by omega] at hw35_ft
            have b2 := hf (a + n - 1)
            rw [← hw35_ft] at b2
            have s5 := own_s48 hv5_43_ft b2
            have s6 := own_v10 hv6_53_ft ⟨by omega, by omega⟩ ⟨by omega, by omega⟩
            refine own_hhL (t := v4_19_f.toInt) (u := v5_43_ft.toInt) (v := v6_53_ft.toInt) ?_ ?_ ?_ ?_ s6 ?_ ?_
            · intro q; show _ = (f a).toInt - 48; rw [← hw11_f]; exact s4
            · intro q; exfalso; omega
            · intro q; show _ = (f (a + n - 1)).toInt - 48; rw [← hw35_ft]; exact s5
            · intro q q'; exfalso; omega
            · intro q; exfalso; omega
            · intro q; exact own_k0
          · refine go_iload (pc' := 87) X0 hx (hb hby d1_85) rfl rfl ?_
            refine go_bipush (pc' := 89) (v := 48) X0 hx (hb hby d1_87) rfl rfl ?_
            refine go_icmpgt (pc' := 92) (pcT := 97) X0 hx (hb hby d1_89) rfl (by decide) (by decide) (fun c89_ftfff => ?_) (fun c89_ftfff => ?_)
            · refine go_iconst (pc' := 98) (v := 0) X0 hx (hb hby d1_97) rfl rfl ?_
              refine go_retI X0 hx hret hlk (hb hby d1_98) (by decide) (by decide) ?_
              refine ⟨?_, rfl⟩
              have e3 := own_len hv3_3 ha hn ha0 ha1 hn0 hn1
              have k0 := own_k0
              have k1 := own_k1
              have k2 := own_k2
              have k9 := own_k9
              have k48 := own_k48
              have q6 := own_eqI c6
              have q23 := own_eqI c23_f
              have q57 := own_geI c57_ft
              have q64 := own_geI c64_ftf
              have q82 := own_geI c82_ftff
              have q89 := own_ltI c89_ftfff
              rw [ha] at hw11_f
              have b1 := hf a
              rw [← hw11_f] at b1
              have s4 := own_s48 hv4_19_f b1
              rw [own_dec1 (by omega), show p2.toInt - 1 = a + n - 1 by omega] at hw35_ft
              have b2 := hf (a + n - 1)
              rw [← hw35_ft] at b2
              have s5 := own_s48 hv5_43_ft b2
              have s6 := own_v10 hv6_53_ft ⟨by omega, by omega⟩ ⟨by omega, by omega⟩
              refine own_hhL (t := v4_19_f.toInt) (u := v5_43_ft.toInt) (v := v6_53_ft.toInt) ?_ ?_ ?_ ?_ s6 ?_ ?_
              · intro q; show _ = (f a).toInt - 48; rw [← hw11_f]; exact s4
              · intro q; exfalso; omega
              · intro q; show _ = (f (a + n - 1)).toInt - 48; rw [← hw35_ft]; exact s5
              · intro q q'; exfalso; omega
              · intro q; exfalso; omega
              · intro q; exact own_k0
            · refine go_iload (pc' := 94) X0 hx (hb hby d1_92) rfl rfl ?_
              refine go_goto (pc' := 98) X0 hx (hb hby d1_94) (by decide) (by decide) ?_
              refine go_retI X0 hx hret hlk (hb hby d1_98) (by decide) (by decide) ?_
              refine ⟨?_, rfl⟩
              have e3 := own_len hv3_3 ha hn ha0 ha1 hn0 hn1
              have k0 := own_k0
              have k1 := own_k1
              have k2 := own_k2
              have k9 := own_k9
              have k48 := own_k48
              have q6 := own_eqI c6
              have q23 := own_eqI c23_f
              have q57 := own_geI c57_ft
              have q64 := own_geI c64_ftf
              have q82 := own_geI c82_ftff
              have q89 := own_geI c89_ftfff
              rw [ha] at hw11_f
              have b1 := hf a
              rw [← hw11_f] at b1
              have s4 := own_s48 hv4_19_f b1
              rw [own_dec1 (by omega), show p2.toInt - 1 = a + n - 1 by omega] at hw35_ft
              have b2 := hf (a + n - 1)
              rw [← hw35_ft] at b2
              have s5 := own_s48 hv5_43_ft b2
              have s6 := own_v10 hv6_53_ft ⟨by omega, by omega⟩ ⟨by omega, by omega⟩
              refine own_hhL (t := v4_19_f.toInt) (u := v5_43_ft.toInt) (v := v6_53_ft.toInt) ?_ ?_ ?_ ?_ s6 ?_ ?_
              · intro q; show _ = (f a).toInt - 48; rw [← hw11_f]; exact s4
              · intro q; exfalso; omega
              · intro q; show _ = (f (a + n - 1)).toInt - 48; rw [← hw35_ft]; exact s5
              · intro q q'; exfalso; omega
              · intro q; rfl
              · intro q; exfalso; omega
    · refine go_iloadN (pc' := 27) X0 hx (hb hby d1_26) rfl rfl ?_
      refine go_iconst (pc' := 28) (v := 2) X0 hx (hb hby d1_27) rfl rfl ?_
      refine go_icmpne (pc' := 31) (pcT := 42) X0 hx (hb hby d1_28) rfl (by decide) (by decide) (fun c28_ff => ?_) (fun c28_ff => ?_)
      · refine go_iconst (pc' := 43) (v := -1) X0 hx (hb hby d1_42) rfl rfl ?_
        refine go_istore (pc' := 45) (L' := #[.val (.ref r0), .val (.int p1), .val (.int p2), .val (.int v3_3), .val (.int v4_19_f), .val (.int (-1 : Int32)), .unset, .unset]) X0 hx (hb hby d1_43) rfl rfl ?_
        refine go_iload (pc' := 47) X0 hx (hb hby d1_45) rfl rfl ?_
        refine go_bipush (pc' := 49) (v := 10) X0 hx (hb hby d1_47) rfl rfl ?_
        refine go_imul (pc' := 50) X0 hx (hb hby d1_49) rfl ?_
        refine go_iload (pc' := 52) X0 hx (hb hby d1_50) rfl rfl ?_
        refine go_iadd (pc' := 53) X0 hx (hb hby d1_52) rfl ?_
        refine go_nameI (fun v6_53_fft hv6_53_fft => ?_)
        refine go_istore (pc' := 55) (L' := #[.val (.ref r0), .val (.int p1), .val (.int p2), .val (.int v3_3), .val (.int v4_19_f), .val (.int (-1 : Int32)), .val (.int v6_53_fft), .unset]) X0 hx (hb hby d1_53) rfl rfl ?_
        refine go_iload (pc' := 57) X0 hx (hb hby d1_55) rfl rfl ?_
        refine go_iflt (pc' := 60) (pcT := 71) X0 hx (hb hby d1_57) rfl (by decide) (by decide) (fun c57_fft => ?_) (fun c57_fft => (by exfalso; revert c57_fft; decide))
        refine go_iconst (pc' := 72) (v := 0) X0 hx (hb hby d1_71) rfl rfl ?_
        refine go_istore (pc' := 74) (L' := #[.val (.ref r0), .val (.int p1), .val (.int p2), .val (.int v3_3), .val (.int v4_19_f), .val (.int (-1 : Int32)), .val (.int v6_53_fft), .val (.int (0 : Int32))]) X0 hx (hb hby d1_72) rfl rfl ?_
        refine go_iload (pc' := 76) X0 hx (hb hby d1_74) rfl rfl ?_
        refine go_ifeq (pc' := 79) (pcT := 97) X0 hx (hb hby d1_76) rfl (by decide) (by decide) (fun c76_fft => ?_) (fun c76_fft => (by exfalso; revert c76_fft; decide))
        refine go_iconst (pc' := 98) (v := 0) X0 hx (hb hby d1_97) rfl rfl ?_
        refine go_retI X0 hx hret hlk (hb hby d1_98) (by decide) (by decide) ?_
        refine ⟨?_, rfl⟩
        have e3 := own_len hv3_3 ha hn ha0 ha1 hn0 hn1
        have k0 := own_k0
        have k1 := own_k1
        have k2 := own_k2
        have k9 := own_k9
        have k48 := own_k48
        have q6 := own_eqI c6
        have q23 := own_neI c23_f
        have q28 := own_neI c28_ff
        have q57 := own_ltI c57_fft
        rw [ha] at hw11_f
        have b1 := hf a
        rw [← hw11_f] at b1
        have s4 := own_s48 hv4_19_f b1
        have s5 : (-1 : Int32).toInt = -1 := rfl
        have s6 := own_v10 hv6_53_fft ⟨by omega, by omega⟩ ⟨by omega, by omega⟩
        refine own_hhL (t := v4_19_f.toInt) (u := (-1 : Int32).toInt) (v := v6_53_fft.toInt) ?_ ?_ ?_ ?_ s6 ?_ ?_
        · intro q; show _ = (f a).toInt - 48; rw [← hw11_f]; exact s4
        · intro q; exfalso; omega
        · intro q; exfalso; omega
        · intro q q'; exact s5
        · intro q; exfalso; omega
        · intro q; exact own_k0
      · refine go_aloadN (pc' := 32) X0 hx (hb hby d1_31) rfl rfl ?_
        refine go_iloadN (pc' := 33) X0 hx (hb hby d1_32) rfl rfl ?_
        refine go_iconst (pc' := 34) (v := 1) X0 hx (hb hby d1_33) rfl rfl ?_
        refine go_isub (pc' := 35) X0 hx (hb hby d1_34) rfl ?_
        refine go_baloadB (pc' := 36) X0 hx hZ A_r0 (by rw [own_dec1 (by omega)]; have e3 := own_len hv3_3 ha hn ha0 ha1 hn0 hn1; have k1 := own_k1; have k2 := own_k2; have q := own_eqI c28_ff; omega) (by rw [own_dec1 (by omega)]; omega) (hb hby d1_35) rfl (fun w35_fff hw35_fff => ?_)
        refine go_bipush (pc' := 38) (v := 48) X0 hx (hb hby d1_36) rfl rfl ?_
        refine go_isub (pc' := 39) X0 hx (hb hby d1_38) rfl ?_
        refine go_goto (pc' := 43) X0 hx (hb hby d1_39) (by decide) (by decide) ?_
        refine go_nameI (fun v5_43_fff hv5_43_fff => ?_)
        refine go_istore (pc' := 45) (L' := #[.val (.ref r0), .val (.int p1), .val (.int p2), .val (.int v3_3), .val (.int v4_19_f), .val (.int v5_43_fff), .unset, .unset]) X0 hx (hb hby d1_43) rfl rfl ?_
        refine go_iload (pc' := 47) X0 hx (hb hby d1_45) rfl rfl ?_
        refine go_bipush (pc' := 49) (v := 10) X0 hx (hb hby d1_47) rfl rfl ?_
        refine go_imul (pc' := 50) X0 hx (hb hby d1_49) rfl ?_
        refine go_iload (pc' := 52) X0 hx (hb hby d1_50) rfl rfl ?_
        refine go_iadd (pc' := 53) X0 hx (hb hby d1_52) rfl ?_
        refine go_nameI (fun v6_53_fff hv6_53_fff => ?_)
        refine go_istore (pc' := 55) (L' := #[.val (.ref r0), .val (.int p1), .val (.int p2), .val (.int v3_3), .val (.int v4_19_f), .val (.int v5_43_fff), .val (.int v6_53_fff), .unset]) X0 hx (hb hby d1_53) rfl rfl ?_
        refine go_iload (pc' := 57) X0 hx (hb hby d1_55) rfl rfl ?_
        refine go_iflt (pc' := 60) (pcT := 71) X0 hx (hb hby d1_57) rfl (by decide) (by decide) (fun c57_fff => ?_) (fun c57_fff => ?_)
        · refine go_iconst (pc' := 72) (v := 0) X0 hx (hb hby d1_71) rfl rfl ?_
          refine go_istore (pc' := 74) (L' := #[.val (.ref r0), .val (.int p1), .val (.int p2), .val (.int v3_3), .val (.int v4_19_f), .val (.int v5_43_fff), .val (.int v6_53_fff), .val (.int (0 : Int32))]) X0 hx (hb hby d1_72) rfl rfl ?_
          refine go_iload (pc' := 76) X0 hx (hb hby d1_74) rfl rfl ?_
          refine go_ifeq (pc' := 79) (pcT := 97) X0 hx (hb hby d1_76) rfl (by decide) (by decide) (fun c76_ffft => ?_) (fun c76_ffft => (by exfalso; revert c76_ffft; decide))
          refine go_iconst (pc' := 98) (v := 0) X0 hx (hb hby d1_97) rfl rfl ?_
          refine go_retI X0 hx hret hlk (hb hby d1_98) (by decide) (by decide) ?_
          refine ⟨?_, rfl⟩
          have e3 := own_len hv3_3 ha hn ha0 ha1 hn0 hn1
          have k0 := own_k0
          have k1 := own_k1
          have k2 := own_k2
          have k9 := own_k9
          have k48 := own_k48
          have q6 := own_eqI c6
          have q23 := own_neI c23_f
          have q28 := own_eqI c28_ff
          have q57 := own_ltI c57_fff
          rw [ha] at hw11_f
          have b1 := hf a
          rw [← hw11_f] at b1
          have s4 := own_s48 hv4_19_f b1
          rw [own_dec1 (by omega), show p2.toInt - 1 = a + n - 1 by omega] at hw35_fff
          have b2 := hf (a + n - 1)
          rw [← hw35_fff] at b2
          have s5 := own_s48 hv5_43_fff b2
          have s6 := own_v10 hv6_53_fff ⟨by omega, by omega⟩ ⟨by omega, by omega⟩
          refine own_hhL (t := v4_19_f.toInt) (u := v5_43_fff.toInt) (v := v6_53_fff.toInt) ?_ ?_ ?_ ?_ s6 ?_ ?_
          · intro q; show _ = (f a).toInt - 48; rw [← hw11_f]; exact s4
          · intro q; exfalso; omega
          · intro q; show _ = (f (a + n - 1)).toInt - 48; rw [← hw35_fff]; exact s5
          · intro q q'; exfalso; omega
          · intro q; exfalso; omega
          · intro q; exact own_k0
        · refine go_iload (pc' := 62) X0 hx (hb hby d1_60) rfl rfl ?_
          refine go_bipush (pc' := 64) (v := 9) X0 hx (hb hby d1_62) rfl rfl ?_
          refine go_icmpgt (pc' := 67) (pcT := 71) X0 hx (hb hby d1_64) rfl (by decide) (by decide) (fun c64_ffff => ?_) (fun c64_ffff => ?_)
          · refine go_iconst (pc' := 72) (v := 0) X0 hx (hb hby d1_71) rfl rfl ?_
            refine go_istore (pc' := 74) (L' := #[.val (.ref r0), .val (.int p1), .val (.int p2), .val (.int v3_3), .val (.int v4_19_f), .val (.int v5_43_fff), .val (.int v6_53_fff), .val (.int (0 : Int32))]) X0 hx (hb hby d1_72) rfl rfl ?_
            refine go_iload (pc' := 76) X0 hx (hb hby d1_74) rfl rfl ?_
            refine go_ifeq (pc' := 79) (pcT := 97) X0 hx (hb hby d1_76) rfl (by decide) (by decide) (fun c76_fffft => ?_) (fun c76_fffft => (by exfalso; revert c76_fffft; decide))
            refine go_iconst (pc' := 98) (v := 0) X0 hx (hb hby d1_97) rfl rfl ?_
            refine go_retI X0 hx hret hlk (hb hby d1_98) (by decide) (by decide) ?_
            refine ⟨?_, rfl⟩
            have e3 := own_len hv3_3 ha hn ha0 ha1 hn0 hn1
            have k0 := own_k0
            have k1 := own_k1
            have k2 := own_k2
            have k9 := own_k9
            have k48 := own_k48
            have q6 := own_eqI c6
            have q23 := own_neI c23_f
            have q28 := own_eqI c28_ff
            have q57 := own_geI c57_fff
            have q64 := own_ltI c64_ffff
            rw [ha] at hw11_f
            have b1 := hf a
            rw [← hw11_f] at b1
            have s4 := own_s48 hv4_19_f b1
            rw [own_dec1 (by omega), show p2.toInt - 1 = a + n - 1 by omega] at hw35_fff
            have b2 := hf (a + n - 1)
            rw [← hw35_fff] at b2
            have s5 := own_s48 hv5_43_fff b2
            have s6 := own_v10 hv6_53_fff ⟨by omega, by omega⟩ ⟨by omega, by omega⟩
            refine own_hhL (t := v4_19_f.toInt) (u := v5_43_fff.toInt) (v := v6_53_fff.toInt) ?_ ?_ ?_ ?_ s6 ?_ ?_
            · intro q; show _ = (f a).toInt - 48; rw [← hw11_f]; exact s4
            · intro q; exfalso; omega
            · intro q; show _ = (f (a + n - 1)).toInt - 48; rw [← hw35_fff]; exact s5
            · intro q q'; exfalso; omega
            · intro q; exfalso; omega
            · intro q; exact own_k0
          · refine go_iconst (pc' := 68) (v := 1) X0 hx (hb hby d1_67) rfl rfl ?_
            refine go_goto (pc' := 72) X0 hx (hb hby d1_68) (by decide) (by decide) ?_
            refine go_istore (pc' := 74) (L' := #[.val (.ref r0), .val (.int p1), .val (.int p2), .val (.int v3_3), .val (.int v4_19_f), .val (.int v5_43_fff), .val (.int v6_53_fff), .val (.int (1 : Int32))]) X0 hx (hb hby d1_72) rfl rfl ?_
            refine go_iload (pc' := 76) X0 hx (hb hby d1_74) rfl rfl ?_
            refine go_ifeq (pc' := 79) (pcT := 97) X0 hx (hb hby d1_76) rfl (by decide) (by decide) (fun c76_fffff => (by exfalso; revert c76_fffff; decide)) (fun c76_fffff => ?_)
            refine go_iload (pc' := 81) X0 hx (hb hby d1_79) rfl rfl ?_
            refine go_iconst (pc' := 82) (v := 1) X0 hx (hb hby d1_81) rfl rfl ?_
            refine go_icmplt (pc' := 85) (pcT := 97) X0 hx (hb hby d1_82) rfl (by decide) (by decide) (fun c82_fffff => ?_) (fun c82_fffff => ?_)
            · refine go_iconst (pc' := 98) (v := 0) X0 hx (hb hby d1_97) rfl rfl ?_
              refine go_retI X0 hx hret hlk (hb hby d1_98) (by decide) (by decide) ?_
              refine ⟨?_, rfl⟩
              have e3 := own_len hv3_3 ha hn ha0 ha1 hn0 hn1
              have k0 := own_k0
              have k1 := own_k1
              have k2 := own_k2
              have k9 := own_k9
              have k48 := own_k48
              have q6 := own_eqI c6
              have q23 := own_neI c23_f
              have q28 := own_eqI c28_ff
              have q57 := own_geI c57_fff
              have q64 := own_geI c64_ffff
              have q82 := own_ltI c82_fffff
              rw [ha] at hw11_f
              have b1 := hf a
              rw [← hw11_f] at b1
              have s4 := own_s48 hv4_19_f b1
              rw [own_dec1 (by omega), show p2.toInt - 1 = a + n - 1 by omega] at hw35_fff
              have b2 := hf (a + n - 1)
              rw [← hw35_fff] at b2
              have s5 := own_s48 hv5_43_fff b2
              have s6 := own_v10 hv6_53_fff ⟨by omega, by omega⟩ ⟨by omega, by omega⟩
              refine own_hhL (t := v4_19_f.toInt) (u := v5_43_fff.toInt) (v := v6_53_fff.toInt) ?_ ?_ ?_ ?_ s6 ?_ ?_
              · intro q; show _ = (f a).toInt - 48; rw [← hw11_f]; exact s4
              · intro q; exfalso; omega
              · intro q; show _ = (f (a + n - 1)).toInt - 48; rw [← hw35_fff]; exact s5
              · intro q q'; exfalso; omega
              · intro q; exfalso; omega
              · intro q; exact own_k0
            · refine go_iload (pc' := 87) X0 hx (hb hby d1_85) rfl rfl ?_
              refine go_bipush (pc' := 89) (v := 48) X0 hx (hb hby d1_87) rfl rfl ?_
              refine go_icmpgt (pc' := 92) (pcT := 97) X0 hx (hb hby d1_89) rfl (by decide) (by decide) (fun c89_ffffff => ?_) (fun c89_ffffff => ?_)
              · refine go_iconst (pc' := 98) (v := 0) X0 hx (hb hby d1_97) rfl rfl ?_
                refine go_retI X0 hx hret hlk (hb hby d1_98) (by decide) (by decide) ?_
                refine ⟨?_, rfl⟩
                have e3 := own_len hv3_3 ha hn ha0 ha1 hn0 hn1
                have k0 := own_k0
                have k1 := own_k1
                have k2 := own_k2
                have k9 := own_k9
                have k48 := own_k48
                have q6 := own_eqI c6
                have q23 := own_neI c23_f
                have q28 := own_eqI c28_ff
                have q57 := own_geI c57_fff
                have q64 := own_geI c64_ffff
                have q82 := own_geI c82_fffff
                have q89 := own_ltI c89_ffffff
                rw [ha] at hw11_f
                have b1 := hf a
                rw [← hw11_f] at b1
                have s4 := own_s48 hv4_19_f b1
                rw [own_dec1 (by omega), show p2.toInt - 1 = a + n - 1 by omega] at hw35_fff
                have b2 := hf (a + n - 1)
                rw [← hw35_fff] at b2
                have s5 := own_s48 hv5_43_fff b2
                have s6 := own_v10 hv6_53_fff ⟨by omega, by omega⟩ ⟨by omega, by omega⟩
                refine own_hhL (t := v4_19_f.toInt) (u := v5_43_fff.toInt) (v := v6_53_fff.toInt) ?_ ?_ ?_ ?_ s6 ?_ ?_
                · intro q; show _ = (f a).toInt - 48; rw [← hw11_f]; exact s4
                · intro q; exfalso; omega
                · intro q; show _ = (f (a + n - 1)).toInt - 48; rw [← hw35_fff]; exact s5
                · intro q q'; exfalso; omega
                · intro q; exfalso; omega
                · intro q; exact own_k0
              · refine go_iload (pc' := 94) X0 hx (hb hby d1_92) rfl rfl ?_
                refine go_goto (pc' := 98) X0 hx (hb hby d1_94) (by decide) (by decide) ?_
                refine go_retI X0 hx hret hlk (hb hby d1_98) (by decide) (by decide) ?_
                refine ⟨?_, rfl⟩
                have e3 := own_len hv3_3 ha hn ha0 ha1 hn0 hn1
                have k0 := own_k0
                have k1 := own_k1
                have k2 := own_k2
                have k9 := own_k9
                have k48 := own_k48
                have q6 := own_eqI c6
                have q23 := own_neI c23_f
                have q28 := own_eqI c28_ff
                have q57 := own_geI c57_fff
                have q64 := own_geI c64_ffff
                have q82 := own_geI c82_fffff
                have q89 := own_geI c89_ffffff
                rw [ha] at hw11_f
                have b1 := hf a
                rw [← hw11_f] at b1
                have s4 := own_s48 hv4_19_f b1
                rw [own_dec1 (by omega), show p2.toInt - 1 = a + n - 1 by omega] at hw35_fff
                have b2 := hf (a + n - 1)
                rw [← hw35_fff] at b2
                have s5 := own_s48 hv5_43_fff b2
                have s6 := own_v10 hv6_53_fff ⟨by omega, by omega⟩ ⟨by omega, by omega⟩
                refine own_hhL (t := v4_19_f.toInt) (u := v5_43_fff.toInt) (v := v6_53_fff.toInt) ?_ ?_ ?_ ?_ s6 ?_ ?_
                · intro q; show _ = (f a).toInt - 48; rw [← hw11_f]; exact s4
                · intro q; exfalso; omega
                · intro q; show _ = (f (a + n - 1)).toInt - 48; rw [← hw35_fff]; exact s5
                · intro q q'; exfalso; omega
                · intro q; rfl
                · intro q; exfalso; omega
theorem pn_0 : plainName "com/example/lean_tariff/leantariff/io/HalfHourTableHalfHourPinLaw" = true := by first | (simp [plainName, overriddenIn]; done) | decide +kernel
theorem ef_0 (m : MethodId) (p0 : Int32) (p1 : Int32) (p2 : Int32) (p3 : Int32) (p4 : Int32) : entryFrame m #[.int p0, .int p1, .int p2, .int p3, .int p4] maxLocals = mkF m 0 #[.val (.int p0), .val (.int p1), .val (.int p2), .val (.int p3), .val (.int p4), .unset, .unset, .unset, .unset, .unset, .unset] [] := by first | (simp [entryFrame, mkF, argsToLocals, Value.category, maxLocals]; done) | rfl
set_option maxRecDepth 65536 in
set_option maxHeartbeats 40000000 in
theorem ct_0 (l : Launch) (Z : State) (a0 : Array Value) (hw : ∀ d ∈ tables_1, d.before a0 Z = true) {h0 : Heap} {n0 : Nat} (zs : n0 ≤ h0.size) (p0 : Int32) (p1 : Int32) (p2 : Int32) (p3 : Int32) (p4 : Int32)  :
    CtK l Z x code maxLocals ret room_1 #[.int p0, .int p1, .int p2, .int p3, .int p4] h0 n0 (QI (fun z _ => z = 1)) := by
  refine CtK.of (plainFor_of_name pn_0) ?_
  intro p e s m below meth c T0 X0 hx hZ hby hml hown hnm hret hlk
  refine GoK.entry (ef_0 m p0 p1 p2 p3 p4) ?_
  replace hml : c.maxLocals = 11 := hml
  replace hown : s.vm.findClass "com/example/lean_tariff/leantariff/io/HalfHourTableHalfHourPinLaw" = some m.cls := hown
  refine go_iconst (pc' := 1) (v := 4) X0 hx (hb hby at_0) rfl rfl ?_
  refine go_newB (pc' := 3) (cap := 4) (n := 4) (cells' := 1) (slots' := 4) X0 hx hZ (hw _ (List.mem_of_getElem? (i := 0) rfl)) (hb hby at_1) rfl rfl (by decide) (by decide) (by decide) (by decide) (by decide) rfl rfl (fun T1 h1 b1 eb1 X1 E1 A_b1 => ?_)
  have g_b1 : n0 ≤ b1 := by rw [eb1]; exact zs
  have zs := Nat.le_trans zs E1.1
  refine go_astore (pc' := 5) (L' := #[.val (.int p0), .val (.int p1), .val (.int p2), .val (.int p3), .val (.int p4), .val (.ref b1), .unset, .unset, .unset, .unset, .unset]) X1 hx (hb hby at_3) rfl rfl ?_
  refine go_aload (pc' := 7) X1 hx (hb hby at_5) rfl rfl ?_
  refine go_iconst (pc' := 8) (v := 0) X1 hx (hb hby at_7) rfl rfl ?_
  refine go_iloadN (pc' := 9) X1 hx (hb hby at_8) rfl rfl ?_
  refine go_i2b (pc' := 10) X1 hx (hb hby at_9) rfl ?_
  refine go_bastoreB (pc' := 11) X1 hx hZ A_b1 g_b1 (by decide) (by decide) (hb hby at_10) rfl (fun T2 h2 X2 W2 A_b1 => ?_)
  have zs := Nat.le_trans zs (Nat.le_of_eq W2.size.symm)
  refine go_aload (pc' := 13) X2 hx (hb hby at_11) rfl rfl ?_
  refine go_iconst (pc' := 14) (v := 1) X2 hx (hb hby at_13) rfl rfl ?_
  refine go_iloadN (pc' := 15) X2 hx (hb hby at_14) rfl rfl ?_
  refine go_i2b (pc' := 16) X2 hx (hb hby at_15) rfl ?_
  refine go_bastoreB (pc' := 17) X2 hx hZ A_b1 g_b1 (by decide) (by decide) (hb hby at_16) rfl (fun T3 h3 X3 W3 A_b1 => ?_)
  have zs := Nat.le_trans zs (Nat.le_of_eq W3.size.symm)
  refine go_aload (pc' := 19) X3 hx (hb hby at_17) rfl rfl ?_
  refine go_iconst (pc' := 20) (v := 2) X3 hx (hb hby at_19) rfl rfl ?_
  refine go_iloadN (pc' := 21) X3 hx (hb hby at_20) rfl rfl ?_
  refine go_i2b (pc' := 22) X3 hx (hb hby at_21) rfl ?_
  refine go_bastoreB (pc' := 23) X3 hx hZ A_b1 g_b1 (by decide) (by decide) (hb hby at_22) rfl (fun T4 h4 X4 W4 A_b1 => ?_)
  have zs := Nat.le_trans zs (Nat.le_of_eq W4.size.symm)
  refine go_aload (pc' := 25) X4 hx (hb hby at_23) rfl rfl ?_
  refine go_iconst (pc' := 26) (v := 3) X4 hx (hb hby at_25) rfl rfl ?_
  refine go_iloadN (pc' := 27) X4 hx (hb hby at_26) rfl rfl ?_
  refine go_i2b (pc' := 28) X4 hx (hb hby at_27) rfl ?_
  refine go_bastoreB (pc' := 29) X4 hx hZ A_b1 g_b1 (by decide) (by decide) (hb hby at_28) rfl (fun T5 h5 X5 W5 A_b1 => ?_)
  have zs := Nat.le_trans zs (Nat.le_of_eq W5.size.symm)
  have hA : AIK Z h5 b1 .byte 4 (own_a4 (p0.toInt8.toInt32) (p1.toInt8.toInt32) (p2.toInt8.toInt32) (p3.toInt8.toInt32)) := by
    refine AIK.congr A_b1 (fun i i1 i2 => ?_)
    have k0 : (0 : Int32).toInt = 0 := rfl
    have k1 : (1 : Int32).toInt = 1 := rfl
    have k2 : (2 : Int32).toInt = 2 := rfl
    have k3 : (3 : Int32).toInt = 3 := rfl
    rw [k0, k1, k2, k3]
    simp only [own_b8]
    unfold own_a4
    repeat' split
    all_goals first | rfl | (exfalso; omega)
  replace A_b1 := hA
  obtain ⟨fb, efb⟩ : ∃ f : Int → Int32, f = own_a4 (p0.toInt8.toInt32) (p1.toInt8.toInt32) (p2.toInt8.toInt32) (p3.toInt8.toInt32) := ⟨_, rfl⟩
  have hfb : ∀ i : Int, -128 ≤ (fb i).toInt ∧ (fb i).toInt ≤ 127 := fun i => by rw [efb]; exact own_a4b i
  rw [← efb] at A_b1
  refine go_iload (pc' := 31) X5 hx (hb hby at_29) rfl rfl ?_
  refine go_iconst (pc' := 32) (v := 1) X5 hx (hb hby at_31) rfl rfl ?_
  refine go_iand (pc' := 33) X5 hx (hb hby at_32) rfl ?_
  refine go_nameI (fun v6_33 hv6_33 => ?_)
  refine go_istore (pc' := 35) (L' := #[.val (.int p0), .val (.int p1), .val (.int p2), .val (.int p3), .val (.int p4), .val (.ref b1), .val (.int v6_33), .unset, .unset, .unset, .unset]) X5 hx (hb hby at_33) rfl rfl ?_
  refine go_iload (pc' := 37) X5 hx (hb hby at_35) rfl rfl ?_
  refine go_iconst (pc' := 38) (v := 1) X5 hx (hb hby at_37) rfl rfl ?_
  refine go_iushr (pc' := 39) X5 hx (hb hby at_38) rfl ?_
  refine go_iconst (pc' := 40) (v := 3) X5 hx (hb hby at_39) rfl rfl ?_
  refine go_iand (pc' := 41) X5 hx (hb hby at_40) rfl ?_
  refine go_nameI (fun v7_41 hv7_41 => ?_)
  refine go_istore (pc' := 43) (L' := #[.val (.int p0), .val (.int p1), .val (.int p2), .val (.int p3), .val (.int p4), .val (.ref b1), .val (.int v6_33), .val (.int v7_41), .unset, .unset, .unset]) X5 hx (hb hby at_41) rfl rfl ?_
  refine go_iload (pc' := 45) X5 hx (hb hby at_43) rfl rfl ?_
  refine go_iload (pc' := 47) X5 hx (hb hby at_45) rfl rfl ?_
  refine go_iadd (pc' := 48) X5 hx (hb hby at_47) rfl ?_
  refine go_nameI (fun v8_48 hv8_48 => ?_)
  refine go_istore (pc' := 50) (L' := #[.val (.int p0), .val (.int p1), .val (.int p2), .val (.int p3), .val (.int p4), .val (.ref b1), .val (.int v6_33), .val (.int v7_41), .val (.int v8_48), .unset, .unset]) X5 hx (hb hby at_48) rfl rfl ?_
  have k6 := own_and1 p4
  rw [← hv6_33] at k6
  obtain ⟨a0', a1'⟩ := k6
  have k7 := own_and3 ((p4.toUInt32 >>> ((1 : Int32) &&& 31).toUInt32).toInt32)
  rw [← hv7_41] at k7
  obtain ⟨n0', n1'⟩ := k7
  have hto : v8_48.toInt = v6_33.toInt + v7_41.toInt := by rw [hv8_48]; exact Jvm.Free.XT.add32 ⟨by omega, by omega⟩
  have hinc : (v6_33 + (1 : Int32)).toInt = v6_33.toInt + 1 := Jvm.Free.XT.add32 ⟨by have : (1 : Int32).toInt = 1 := rfl; omega, by have : (1 : Int32).toInt = 1 := rfl; omega⟩
  refine go_iconst (pc' := 51) (v := 0) X5 hx (hb hby at_50) rfl rfl ?_
  refine go_istore (pc' := 53) (L' := #[.val (.int p0), .val (.int p1), .val (.int p2), .val (.int p3), .val (.int p4), .val (.ref b1), .val (.int v6_33), .val (.int v7_41), .val (.int v8_48), .val (.int (0 : Int32)), .unset]) X5 hx (hb hby at_51) rfl rfl ?_
  suffices JH172 : ∀ (T6 : State) (h6 : Heap) (x9 : Int32) (s10 : Slot), OnK p l e room_1 s m #[.int p0, .int p1, .int p2, .int p3, .int p4] below meth c n0 T6 h6 1 4 → n0 ≤ h6.size → AIK Z h6 b1 .byte (4) fb → One s10 → (own_hh (fun i => (fb i).toInt) v6_33.toInt v7_41.toInt x9.toInt) → GoK p e below (DoneK s below n0 room_1.cells room_1.slots (QI (fun z _ => z = 1))) T6 (mkF m 172 #[.val (.int p0), .val (.int p1), .val (.int p2), .val (.int p3), .val (.int p4), .val (.ref b1), .val (.int v6_33), .val (.int v7_41), .val (.int v8_48), .val (.int x9), s10] []) by
    refine go_iload (pc' := 55) X5 hx (hb hby at_53) rfl rfl ?_
    refine go_iconst (pc' := 56) (v := 1) X5 hx (hb hby at_55) rfl rfl ?_
    refine go_icmpne (pc' := 59) (pcT := 97) X5 hx (hb hby at_56) rfl (by decide) (by decide) (fun c56 => ?_) (fun c56 => ?_)
    · refine go_iload (pc' := 99) X5 hx (hb hby at_97) rfl rfl ?_
      refine go_iconst (pc' := 100) (v := 2) X5 hx (hb hby at_99) rfl rfl ?_
      refine go_icmpne (pc' := 103) (pcT := 172) X5 hx (hb hby at_100) rfl (by decide) (by decide) (fun c100_t => ?_) (fun c100_t => ?_)
      · refine JH172 T5 h5 (0 : Int32) (.unset) X5 zs A_b1 One.u ?_
        · have k0 := own_k0
          have k1 := own_k1
          have k2 := own_k2
          have k48 := own_k48
          have q56 := own_neI c56
          have q100 := own_neI c100_t
          exact own_x0 (by omega) (by omega)
      · refine go_aload (pc' := 105) X5 hx (hb hby at_103) rfl rfl ?_
        refine go_iload (pc' := 107) X5 hx (hb hby at_105) rfl rfl ?_
        refine go_baloadB (pc' := 108) X5 hx hZ A_b1 (by omega) (by omega) (hb hby at_107) rfl (fun w107_tf hw107_tf => ?_)
        refine go_callS (pc' := 111) (W := 0) (cells' := 1) (slots' := 4) (rm := ({ frames := 0, cells := 0, slots := 0, locals := 0 } : Room)) (aL := [.int w107_tf]) (St := []) X5 hx hZ hown (by rw [hml]; rfl) (hw _ (List.mem_of_getElem? (i := 5) rfl)) (hw _ (List.mem_of_getElem? (i := 6) rfl)) (hw _ (List.mem_of_getElem? (i := 7) rfl)) (hw _ (List.mem_of_getElem? (i := 8) rfl)) (by decide) pd_0 rfl (ct_2 l Z a0 hw zs w107_tf) (hb hby at_108) rfl (by decide) (Nat.le_of_eq rfl) (by decide) (by decide) (by decide) rfl rfl (fun T7 h7 v7 X7 Q7 => ?_) rfl
        obtain ⟨z7, rfl, hz7, eh7⟩ := Q7
        subst h7
        show GoK p e below _ T7 (mkF m 111 #[.val (.int p0), .val (.int p1), .val (.int p2), .val (.int p3), .val (.int p4), .val (.ref b1), .val (.int v6_33), .val (.int v7_41), .val (.int v8_48), .val (.int (0 : Int32)), .unset] [.int z7])
        refine go_ifeq (pc' := 114) (pcT := 172) X7 hx (hb hby at_111) rfl (by decide) (by decide) (fun c111_tf => ?_) (fun c111_tf => ?_)
        · refine JH172 T7 h5 (0 : Int32) (.unset) X7 zs A_b1 One.u ?_
          · have k0 := own_k0
            have k1 := own_k1
            have k2 := own_k2
            have k48 := own_k48
            have q56 := own_neI c56
            have q100 := own_eqI c100_t
            have q111 := own_eqI c111_tf
            have bw107_tf := hfb v6_33.toInt
            rw [← hw107_tf] at bw107_tf
            have mw107_tf := congrArg Int32.toInt hw107_tf
            have dz7 := own_dig hz7
            rcases dz7 with ⟨a, b⟩ | ⟨a, b⟩
            · exact own_x2 (by omega) (fun y => by exfalso; omega) (fun _ => own_k0)
            · exfalso; rw [a] at c111_tf; revert c111_tf; decide
        · refine go_aload (pc' := 116) X7 hx (hb hby at_114) rfl rfl ?_
          refine go_iload (pc' := 118) X7 hx (hb hby at_116) rfl rfl ?_
          refine go_iconst (pc' := 119) (v := 1) X7 hx (hb hby at_118) rfl rfl ?_
          refine go_iadd (pc' := 120) X7 hx (hb hby at_119) rfl ?_
          refine go_baloadB (pc' := 121) X7 hx hZ A_b1 (by omega) (by have := congrArg Int32.toInt c100_t; have k2 : (2 : Int32).toInt = 2 := rfl; omega) (hb hby at_120) rfl (fun w120_tff hw120_tff => ?_)
          refine go_callS (pc' := 124) (W := 0) (cells' := 1) (slots' := 4) (rm := ({ frames := 0, cells := 0, slots := 0, locals := 0 } : Room)) (aL := [.int w120_tff]) (St := []) X7 hx hZ hown (by rw [hml]; rfl) (hw _ (List.mem_of_getElem? (i := 5) rfl)) (hw _ (List.mem_of_getElem? (i := 6) rfl)) (hw _ (List.mem_of_getElem? (i := 7) rfl)) (hw _ (List.mem_of_getElem? (i := 8) rfl)) (by decide) pd_0 rfl (ct_2 l Z a0 hw zs w120_tff) (hb hby at_121) rfl (by decide) (Nat.le_of_eq rfl) (by decide) (by decide) (by decide) rfl rfl (fun T8 h8 v8 X8 Q8 => ?_) rfl
          obtain ⟨z8, rfl, hz8, eh8⟩ := Q8
          subst h8
          show GoK p e below _ T8 (mkF m 124 #[.val (.int p0), .val (.int p1), .val (.int p2), .val (.int p3), .val (.int p4), .val (.ref b1), .val (.int v6_33), .val (.int v7_41), .val (.int v8_48), .val (.int (0 : Int32)), .unset] [.int z8])
          refine go_ifeq (pc' := 127) (pcT := 172) X8 hx (hb hby at_124) rfl (by decide) (by decide) (fun c124_tff => ?_) (fun c124_tff => ?_)
          · refine JH172 T8 h5 (0 : Int32) (.unset) X8 zs A_b1 One.u ?_
            · have k0 := own_k0
              have k1 := own_k1
              have k2 := own_k2
              have k48 := own_k48
              have q56 := own_neI c56
              have q100 := own_eqI c100_t
              have q111 := own_neI c111_tf
              have q124 := own_eqI c124_tff
              have bw107_tf := hfb v6_33.toInt
              rw [← hw107_tf] at bw107_tf
              have mw107_tf := congrArg Int32.toInt hw107_tf
              rw [hinc] at hw120_tff
              have bw120_tff := hfb (v6_33.toInt + 1)
              rw [← hw120_tff] at bw120_tff
              have mw120_tff := congrArg Int32.toInt hw120_tff
              have dz7 := own_dig hz7
              have dz8 := own_dig hz8
              rcases dz8 with ⟨a, b⟩ | ⟨a, b⟩
              · exact own_x2 (by omega) (fun y => by exfalso; omega) (fun _ => own_k0)
              · exfalso; rw [a] at c124_tff; revert c124_tff; decide
          · refine go_aload (pc' := 129) X8 hx (hb hby at_127) rfl rfl ?_
            refine go_iload (pc' := 131) X8 hx (hb hby at_129) rfl rfl ?_
            refine go_baloadB (pc' := 132) X8 hx hZ A_b1 (by omega) (by omega) (hb hby at_131) rfl (fun w131_tfff hw131_tfff => ?_)
            refine go_bipush (pc' := 134) (v := 48) X8 hx (hb hby at_132) rfl rfl ?_
            refine go_isub (pc' := 135) X8 hx (hb hby at_134) rfl ?_
            refine go_bipush (pc' := 137) (v := 10) X8 hx (hb hby at_135) rfl rfl ?_
            refine go_imul (pc' := 138) X8 hx (hb hby at_137) rfl ?_
            refine go_aload (pc' := 140) X8 hx (hb hby at_138) rfl rfl ?_
            refine go_iload (pc' := 142) X8 hx (hb hby at_140) rfl rfl ?_
            refine go_iconst (pc' := 143) (v := 1) X8 hx (hb hby at_142) rfl rfl ?_
            refine go_iadd (pc' := 144) X8 hx (hb hby at_143) rfl ?_
            refine go_baloadB (pc' := 145) X8 hx hZ A_b1 (by omega) (by have := congrArg Int32.toInt c100_t; have k2 : (2 : Int32).toInt = 2 := rfl; omega) (hb hby at_144) rfl (fun w144_tfff hw144_tfff => ?_)
            refine go_bipush (pc' := 147) (v := 48) X8 hx (hb hby at_145) rfl rfl ?_
            refine go_isub (pc' := 148) X8 hx (hb hby at_147) rfl ?_
            refine go_iadd (pc' := 149) X8 hx (hb hby at_148) rfl ?_
            refine go_nameI (fun v10_149_tfff hv10_149_tfff => ?_)
            refine go_istore (pc' := 151) (L' := #[.val (.int p0), .val (.int p1), .val (.int p2), .val (.int p3), .val (.int p4), .val (.ref b1), .val (.int v6_33), .val (.int v7_41), .val (.int v8_48), .val (.int (0 : Int32)), .val (.int v10_149_tfff)]) X8 hx (hb hby at_149) rfl rfl ?_
            refine go_iload (pc' := 153) X8 hx (hb hby at_151) rfl rfl ?_
            refine go_iconst (pc' := 154) (v := 1) X8 hx (hb hby at_153) rfl rfl ?_
            refine go_icmplt (pc' := 157) (pcT := 169) X8 hx (hb hby at_154) rfl (by decide) (by decide) (fun c154_tfff => ?_) (fun c154_tfff => ?_)
            · refine go_iconst (pc' := 170) (v := 0) X8 hx (hb hby at_169) rfl rfl ?_
              refine go_istore (pc' := 172) (L' := #[.val (.int p0), .val (.int p1), .val (.int p2), .val (.int p3), .val (.int p4), .val (.ref b1), .val (.int v6_33), .val (.int v7_41), .val (.int v8_48), .val (.int (0 : Int32)), .val (.int v10_149_tfff)]) X8 hx (hb hby at_170) rfl rfl ?_
              refine JH172 T8 h5 (0 : Int32) (.val (.int v10_149_tfff)) X8 zs A_b1 (One.val rfl) ?_
              · have k0 := own_k0
                have k1 := own_k1
                have k2 := own_k2
                have k48 := own_k48
                have q56 := own_neI c56
                have q100 := own_eqI c100_t
                have q111 := own_neI c111_tf
                have q124 := own_neI c124_tff
                have q154 := own_ltI c154_tfff
                have bw107_tf := hfb v6_33.toInt
                rw [← hw107_tf] at bw107_tf
                have mw107_tf := congrArg Int32.toInt hw107_tf
                rw [hinc] at hw120_tff
                have bw120_tff := hfb (v6_33.toInt + 1)
                rw [← hw120_tff] at bw120_tff
                have mw120_tff := congrArg Int32.toInt hw120_tff
                have bw131_tfff := hfb v6_33.toInt
                rw [← hw131_tfff] at bw131_tfff
                have mw131_tfff := congrArg Int32.toInt hw131_tfff
                rw [hinc] at hw144_tfff
                have bw144_tfff := hfb (v6_33.toInt + 1)
                rw [← hw144_tfff] at bw144_tfff
                have mw144_tfff := congrArg Int32.toInt hw144_tfff
                have dz7 := own_dig hz7
                have dz8 := own_dig hz8
                obtain ⟨tt, htt⟩ : ∃ y : Int32, y = w131_tfff - 48 := ⟨_, rfl⟩
                obtain ⟨uu, huu⟩ : ∃ y : Int32, y = w144_tfff - 48 := ⟨_, rfl⟩
                have st' := own_s48 htt bw131_tfff
                have su := own_s48 huu bw144_tfff
                rw [← htt, ← huu] at hv10_149_tfff
                have s10 := own_v10 hv10_149_tfff ⟨by omega, by omega⟩ ⟨by omega, by omega⟩
                rcases dz7 with ⟨a, b⟩ | ⟨a, b⟩
                · exact absurd a c111_tf
                · rcases dz8 with ⟨a', b'⟩ | ⟨a', b'⟩
                  · exact absurd a' c124_tff
                  · exact own_x2 (by omega) (fun y => by omega) (fun y => by first | omega | (exfalso; omega))
            · refine go_iload (pc' := 159) X8 hx (hb hby at_157) rfl rfl ?_
              refine go_bipush (pc' := 161) (v := 48) X8 hx (hb hby at_159) rfl rfl ?_
              refine go_icmpgt (pc' := 164) (pcT := 169) X8 hx (hb hby at_161) rfl (by decide) (by decide) (fun c161_tffff => ?_) (fun c161_tffff => ?_)
              · refine go_iconst (pc' := 170) (v := 0) X8 hx (hb hby at_169) rfl rfl ?_
                refine go_istore (pc' := 172) (L' := #[.val (.int p0), .val (.int p1), .val (.int p2), .val (.int p3), .val (.int p4), .val (.ref b1), .val (.int v6_33), .val (.int v7_41), .val (.int v8_48), .val (.int (0 : Int32)), .val (.int v10_149_tfff)]) X8 hx (hb hby at_170) rfl rfl ?_
                refine JH172 T8 h5 (0 : Int32) (.val (.int v10_149_tfff)) X8 zs A_b1 (One.val rfl) ?_
                · have k0 := own_k0
                  have k1 := own_k1
                  have k2 := own_k2
                  have k48 := own_k48
                  have q56 := own_neI c56
                  have q100 := own_eqI c100_t
                  have q111 := own_neI c111_tf
                  have q124 := own_neI c124_tff
                  have q154 := own_geI c154_tfff
                  have q161 := own_ltI c161_tffff
                  have bw107_tf := hfb v6_33.toInt
                  rw [← hw107_tf] at bw107_tf
                  have mw107_tf := congrArg Int32.toInt hw107_tf
                  rw [hinc] at hw120_tff
                  have bw120_tff := hfb (v6_33.toInt + 1)
                  rw [← hw120_tff] at bw120_tff
                  have mw120_tff := congrArg Int32.toInt hw120_tff
                  have bw131_tfff := hfb v6_33.toInt
                  rw [← hw131_tfff] at bw131_tfff
                  have mw131_tfff := congrArg Int32.toInt hw131_tfff
                  rw [hinc] at hw144_tfff
                  have bw144_tfff := hfb (v6_33.toInt + 1)
                  rw [← hw144_tfff] at bw144_tfff
                  have mw144_tfff := congrArg Int32.toInt hw144_tfff
                  have dz7 := own_dig hz7
                  have dz8 := own_dig hz8
                  obtain ⟨tt, htt⟩ : ∃ y : Int32, y = w131_tfff - 48 := ⟨_, rfl⟩
                  obtain ⟨uu, huu⟩ : ∃ y : Int32, y = w144_tfff - 48 := ⟨_, rfl⟩
                  have st' := own_s48 htt bw131_tfff
                  have su := own_s48 huu bw144_tfff
                  rw [← htt, ← huu] at hv10_149_tfff
                  have s10 := own_v10 hv10_149_tfff ⟨by omega, by omega⟩ ⟨by omega, by omega⟩
                  rcases dz7 with ⟨a, b⟩ | ⟨a, b⟩
                  · exact absurd a c111_tf
                  · rcases dz8 with ⟨a', b'⟩ | ⟨a', b'⟩
                    · exact absurd a' c124_tff
                    · exact own_x2 (by omega) (fun y => by omega) (fun y => by first | omega | (exfalso; omega))
              · refine go_iload (pc' := 166) X8 hx (hb hby at_164) rfl rfl ?_
                refine go_goto (pc' := 170) X8 hx (hb hby at_166) (by decide) (by decide) ?_
                refine go_istore (pc' := 172) (L' := #[.val (.int p0), .val (.int p1), .val (.int p2), .val (.int p3), .val (.int p4), .val (.ref b1), .val (.int v6_33), .val (.int v7_41), .val (.int v8_48), .val (.int v10_149_tfff), .val (.int v10_149_tfff)]) X8 hx (hb hby at_170) rfl rfl ?_
                refine JH172 T8 h5 v10_149_tfff (.val (.int v10_149_tfff)) X8 zs A_b1 (One.val rfl) ?_
                · have k0 := own_k0
                  have k1 := own_k1
                  have k2 := own_k2
                  have k48 := own_k48
                  have q56 := own_neI c56
                  have q100 := own_eqI c100_t
                  have q111 := own_neI c111_tf
                  have q124 := own_neI c124_tff
                  have q154 := own_geI c154_tfff
                  have q161 := own_geI c161_tffff
                  have bw107_tf := hfb v6_33.toInt
                  rw [← hw107_tf] at bw107_tf
                  have mw107_tf := congrArg Int32.toInt hw107_tf
                  rw [hinc] at hw120_tff
                  have bw120_tff := hfb (v6_33.toInt + 1)
                  rw [← hw120_tff] at bw120_tff
                  have mw120_tff := congrArg Int32.toInt hw120_tff
                  have bw131_tfff := hfb v6_33.toInt
                  rw [← hw131_tfff] at bw131_tfff
                  have mw131_tfff := congrArg Int32.toInt hw131_tfff
                  rw [hinc] at hw144_tfff
                  have bw144_tfff := hfb (v6_33.toInt + 1)
                  rw [← hw144_tfff] at bw144_tfff
                  have mw144_tfff := congrArg Int32.toInt hw144_tfff
                  have dz7 := own_dig hz7
                  have dz8 := own_dig hz8
                  obtain ⟨tt, htt⟩ : ∃ y : Int32, y = w131_tfff - 48 := ⟨_, rfl⟩
                  obtain ⟨uu, huu⟩ : ∃ y : Int32, y = w144_tfff - 48 := ⟨_, rfl⟩
                  have st' := own_s48 htt bw131_tfff
                  have su := own_s48 huu bw144_tfff
                  rw [← htt, ← huu] at hv10_149_tfff
                  have s10 := own_v10 hv10_149_tfff ⟨by omega, by omega⟩ ⟨by omega, by omega⟩
                  rcases dz7 with ⟨a, b⟩ | ⟨a, b⟩
                  · exact absurd a c111_tf
                  · rcases dz8 with ⟨a', b'⟩ | ⟨a', b'⟩
                    · exact absurd a' c124_tff
                    · exact own_x2 (by omega) (fun y => by omega) (fun y => by first | omega | (exfalso; omega))
    · refine go_aload (pc' := 61) X5 hx (hb hby at_59) rfl rfl ?_
      refine go_iload (pc' := 63) X5 hx (hb hby at_61) rfl rfl ?_
      refine go_baloadB (pc' := 64) X5 hx hZ A_b1 (by omega) (by omega) (hb hby at_63) rfl (fun w63_f hw63_f => ?_)
      refine go_callS (pc' := 67) (W := 0) (cells' := 1) (slots' := 4) (rm := ({ frames := 0, cells := 0, slots := 0, locals := 0 } : Room)) (aL := [.int w63_f]) (St := []) X5 hx hZ hown (by rw [hml]; rfl) (hw _ (List.mem_of_getElem? (i := 5) rfl)) (hw _ (List.mem_of_getElem? (i := 6) rfl)) (hw _ (List.mem_of_getElem? (i := 7) rfl)) (hw _ (List.mem_of_getElem? (i := 8) rfl)) (by decide) pd_0 rfl (ct_2 l Z a0 hw zs w63_f) (hb hby at_64) rfl (by decide) (Nat.le_of_eq rfl) (by decide) (by decide) (by decide) rfl rfl (fun T9 h9 v9 X9 Q9 => ?_) rfl
      obtain ⟨z9, rfl, hz9, eh9⟩ := Q9
      subst h9
      show GoK p e below _ T9 (mkF m 67 #[.val (.int p0), .val (.int p1), .val (.int p2), .val (.int p3), .val (.int p4), .val (.ref b1), .val (.int v6_33), .val (.int v7_41), .val (.int v8_48), .val (.int (0 : Int32)), .unset] [.int z9])
      refine go_ifeq (pc' := 70) (pcT := 172) X9 hx (hb hby at_67) rfl (by decide) (by decide) (fun c67_f => ?_) (fun c67_f => ?_)
      · refine JH172 T9 h5 (0 : Int32) (.unset) X9 zs A_b1 One.u ?_
        · have k0 := own_k0
          have k1 := own_k1
          have k2 := own_k2
          have k48 := own_k48
          have q56 := own_eqI c56
          have q67 := own_eqI c67_f
          have bw63_f := hfb v6_33.toInt
          rw [← hw63_f] at bw63_f
          have mw63_f := congrArg Int32.toInt hw63_f
          have dz9 := own_dig hz9
          rcases dz9 with ⟨a, b⟩ | ⟨a, b⟩
          · exact own_x1 (by omega) (fun y1 y2 => by exfalso; omega) (fun _ => own_k0)
          · exfalso; rw [a] at c67_f; revert c67_f; decide
      · refine go_aload (pc' := 72) X9 hx (hb hby at_70) rfl rfl ?_
        refine go_iload (pc' := 74) X9 hx (hb hby at_72) rfl rfl ?_
        refine go_baloadB (pc' := 75) X9 hx hZ A_b1 (by omega) (by omega) (hb hby at_74) rfl (fun w74_ff hw74_ff => ?_)
        refine go_bipush (pc' := 77) (v := 48) X9 hx (hb hby at_75) rfl rfl ?_
        refine go_isub (pc' := 78) X9 hx (hb hby at_77) rfl ?_
        refine go_nameI (fun v10_78_ff hv10_78_ff => ?_)
        refine go_istore (pc' := 80) (L' := #[.val (.int p0), .val (.int p1), .val (.int p2), .val (.int p3), .val (.int p4), .val (.ref b1), .val (.int v6_33), .val (.int v7_41), .val (.int v8_48), .val (.int (0 : Int32)), .val (.int v10_78_ff)]) X9 hx (hb hby at_78) rfl rfl ?_
        refine go_iload (pc' := 82) X9 hx (hb hby at_80) rfl rfl ?_
        refine go_iconst (pc' := 83) (v := 1) X9 hx (hb hby at_82) rfl rfl ?_
        refine go_icmplt (pc' := 86) (pcT := 91) X9 hx (hb hby at_83) rfl (by decide) (by decide) (fun c83_ff => ?_) (fun c83_ff => ?_)
        · refine go_iconst (pc' := 92) (v := 0) X9 hx (hb hby at_91) rfl rfl ?_
          refine go_istore (pc' := 94) (L' := #[.val (.int p0), .val (.int p1), .val (.int p2), .val (.int p3), .val (.int p4), .val (.ref b1), .val (.int v6_33), .val (.int v7_41), .val (.int v8_48), .val (.int (0 : Int32)), .val (.int v10_78_ff)]) X9 hx (hb hby at_92) rfl rfl ?_
          refine go_goto (pc' := 172) X9 hx (hb hby at_94) (by decide) (by decide) ?_
          refine JH172 T9 h5 (0 : Int32) (.val (.int v10_78_ff)) X9 zs A_b1 (One.val rfl) ?_
          · have k0 := own_k0
            have k1 := own_k1
            have k2 := own_k2
            have k48 := own_k48
            have q56 := own_eqI c56
            have q67 := own_neI c67_f
            have q83 := own_ltI c83_ff
            have bw63_f := hfb v6_33.toInt
            rw [← hw63_f] at bw63_f
            have mw63_f := congrArg Int32.toInt hw63_f
            have bw74_ff := hfb v6_33.toInt
            rw [← hw74_ff] at bw74_ff
            have mw74_ff := congrArg Int32.toInt hw74_ff
            have dz9 := own_dig hz9
            have s10 := own_s48 hv10_78_ff bw74_ff
            rcases dz9 with ⟨a, b⟩ | ⟨a, b⟩
            · exact absurd a c67_f
            · exact own_x1 (by omega) (fun y1 y2 => by omega) (fun y => by exfalso; omega)
        · refine go_iload (pc' := 88) X9 hx (hb hby at_86) rfl rfl ?_
          refine go_goto (pc' := 92) X9 hx (hb hby at_88) (by decide) (by decide) ?_
          refine go_istore (pc' := 94) (L' := #[.val (.int p0), .val (.int p1), .val (.int p2), .val (.int p3), .val (.int p4), .val (.ref b1), .val (.int v6_33), .val (.int v7_41), .val (.int v8_48), .val (.int v10_78_ff), .val (.int v10_78_ff)]) X9 hx (hb hby at_92) rfl rfl ?_
          refine go_goto (pc' := 172) X9 hx (hb hby at_94) (by decide) (by decide) ?_
          refine JH172 T9 h5 v10_78_ff (.val (.int v10_78_ff)) X9 zs A_b1 (One.val rfl) ?_
          · have k0 := own_k0
            have k1 := own_k1
            have k2 := own_k2
            have k48 := own_k48
            have q56 := own_eqI c56
            have q67 := own_neI c67_f
            have q83 := own_geI c83_ff
            have bw63_f := hfb v6_33.toInt
            rw [← hw63_f] at bw63_f
            have mw63_f := congrArg Int32.toInt hw63_f
            have bw74_ff := hfb v6_33.toInt
            rw [← hw74_ff] at bw74_ff
            have mw74_ff := congrArg Int32.toInt hw74_ff
            have dz9 := own_dig hz9
            have s10 := own_s48 hv10_78_ff bw74_ff
            rcases dz9 with ⟨a, b⟩ | ⟨a, b⟩
            · exact absurd a c67_f
            · exact own_x1 (by omega) (fun y1 y2 => by omega) (fun y => by exfalso; omega)
  intro T6 h6 x9 s10 X6 zs A_b1 hs10 jh172
  refine go_aload (pc' := 174) X6 hx (hb hby at_172) rfl rfl ?_
  refine go_iload (pc' := 176) X6 hx (hb hby at_174) rfl rfl ?_
  refine go_iload (pc' := 178) X6 hx (hb hby at_176) rfl rfl ?_
  refine go_callS (pc' := 181) (W := 0) (cells' := 1) (slots' := 4) (rm := ({ frames := 0, cells := 0, slots := 0, locals := 0 } : Room)) (aL := [.ref b1, .int v6_33, .int v8_48]) (St := []) X6 hx hZ hown (by rw [hml]; rfl) (hw _ (List.mem_of_getElem? (i := 1) rfl)) (hw _ (List.mem_of_getElem? (i := 2) rfl)) (hw _ (List.mem_of_getElem? (i := 3) rfl)) (hw _ (List.mem_of_getElem? (i := 4) rfl)) (by decide) pd_1 rfl (ct_1 l Z a0 hw zs b1 v6_33 v8_48 fb v6_33.toInt v7_41.toInt A_b1 hfb rfl hto a0' a1' n0' n1') (hb hby at_178) rfl (by decide) (Nat.le_of_eq rfl) (by decide) (by decide) (by decide) rfl rfl (fun T10 h10 v10 X10 Q10 => ?_) rfl
  obtain ⟨z10, rfl, hz10, eh10⟩ := Q10
  subst h10
  show GoK p e below _ T10 (mkF m 181 #[.val (.int p0), .val (.int p1), .val (.int p2), .val (.int p3), .val (.int p4), .val (.ref b1), .val (.int v6_33), .val (.int v7_41), .val (.int v8_48), .val (.int x9), s10] [.int z10])
  refine go_istore (pc' := 183) (L' := #[.val (.int p0), .val (.int p1), .val (.int p2), .val (.int p3), .val (.int p4), .val (.ref b1), .val (.int v6_33), .val (.int v7_41), .val (.int v8_48), .val (.int x9), .val (.int z10)]) X10 hx (hb hby at_181) rfl (XS.store1 rfl hs10 rfl) ?_
  refine go_iload (pc' := 185) X10 hx (hb hby at_183) rfl rfl ?_
  refine go_iload (pc' := 187) X10 hx (hb hby at_185) rfl rfl ?_
  refine go_icmpne (pc' := 190) (pcT := 194) X10 hx (hb hby at_187) rfl (by decide) (by decide) (fun c187 => (by exfalso; exact c187 (Int32.toInt_inj.mp (own_u hz10 jh172)))) (fun c187 => ?_)
  refine go_iconst (pc' := 191) (v := 1) X10 hx (hb hby at_190) rfl rfl ?_
  refine go_goto (pc' := 195) X10 hx (hb hby at_191) (by decide) (by decide) ?_
  refine go_retN (t := .boolean) X10 hx hret (by simp) hlk (hb hby at_195) (by decide) (by decide) ?_
  exact rfl
set_option maxRecDepth 65536 in
set_option maxHeartbeats 40000000 in
theorem comes_1 {Post : Tables → Env → Array Value → State → Outcome → State → Prop} (hpost : ∀ tb e args s v u, (limb_1_1.after args s (.returned v) u = true ∧ limb_1_2.after args s (.returned v) u = true ∧ True) → FrameEnd s (.returned v) u (Jvm.fieldLocs frame_1_writes args s ++ Jvm.arrayLocs frame_1_arrays args s ++ Jvm.staticLocs frame_1_statics s) 16 128 → Post tb e args s (.returned v) u) :
    ArmFor flags0 classFile x code maxLocals ret World_1 tables_1 room_1 Calls_1 rest_1 Pre_1 Post := by
  intro l hfl _ _ p e ha hc hk s m args below hf hA hF happ hP
  obtain ⟨hcalls, hrest, hpre⟩ := hP
  obtain ⟨-, -, -, hnamed, -, -, -, hat⟩ := (Spec.applies_iff hf).mp happ
  obtain ⟨hg, hn⟩ := and_e (Cond.before_iff.mp (show (Jvm.Cond.and given_1 narrow_1).before args s = true from hpre))
  obtain ⟨g1, g2⟩ := and_e hg
  obtain ⟨g3, g4⟩ := and_e g2
  obtain ⟨g5, g6⟩ := and_e g4
  obtain ⟨g7, g8⟩ := and_e g6
  obtain ⟨g9, g10⟩ := and_e g8
  obtain ⟨w0, w1, w2, w3, w4, rfl⟩ : ∃ w0 w1 w2 w3 w4 : Value, args = #[w0, w1, w2, w3, w4] := by
    have hs : args.size = 5 := by simpa [Cond.value, given_1] using g1
    obtain ⟨L⟩ := args
    match L, hs with
    | [w0, w1, w2, w3, w4], _ => exact ⟨w0, w1, w2, w3, w4, rfl⟩
  have hw := fun d (hd : d ∈ tables_1) => atoms_spec (ws := Jvm.Cond.code x code maxLocals ret :: tables_1) hat d (List.mem_cons_of_mem _ hd)
  obtain ⟨i0, ei0⟩ := is_v g3
  obtain rfl : w0 = (.int i0) := Option.some.inj ei0
  obtain ⟨i1, ei1⟩ := is_v g5
  obtain rfl : w1 = (.int i1) := Option.some.inj ei1
  obtain ⟨i2, ei2⟩ := is_v g7
  obtain rfl : w2 = (.int i2) := Option.some.inj ei2
  obtain ⟨i3, ei3⟩ := is_v g9
  obtain rfl : w3 = (.int i3) := Option.some.inj ei3
  obtain ⟨i4, ei4⟩ := is_v g10
  obtain rfl : w4 = (.int i4) := Option.some.inj ei4
  obtain ⟨n, o, h1, h2, h3, _, L, rfl, ⟨⟨_, rfl, rfl⟩, N⟩, hq⟩ := ct_0 l s _ hw (h0 := s.heap) (n0 := s.heap.size) (Nat.le_refl _) i0 i1 i2 i3 i4 tables_1 p e ha hc hk s m _ below hf ((Spec.applies_iff_loose hf).mp happ).1 ⟨rfl, State.Warmed39.refl s, rfl⟩ trivial
  refine ⟨n, _, h1, h2, h3, hpost _ _ _ _ _ _ ⟨Cond.after_iff.mpr rfl, Cond.after_iff.mpr (eq_i res_at (Term.int_eval (1)) rfl), trivial⟩ ⟨hq.1, hq.2.1, (hq.2.2.sift fun y hy => Or.inr (N y hy)).mono (by decide) (by decide)⟩⟩
theorem main_1_1 : Claimed_1_1 := comes_1 fun _ _ _ _ _ _ h hF => ⟨h.1, hF⟩
theorem main_1_2 : Claimed_1_2 := comes_1 fun _ _ _ _ _ _ h hF => ⟨h.2.1, hF⟩
end Jvm.Pilot.@@N@@
namespace Jvm.Pilot.@@N@@
open Jvm Jvm.ClassFile Sem Op Lib Jvm.Free Jvm.Stand Jvm.Pilot.@@N@@.Jvm.D
/-! MADE BY PROGRAM (witnessworld.py) out of the Statement's table words and the real class files: 9 classes; the members and pool entries that the words name. The judged class is class 1, her method 2. -/
namespace start1
open Jvm.ClassFile
def u (s : String) : CpInfo := .utf8 (stringToUtf16 s)
/-- a pool by its gaps: so many unusable entries, then the entry; so many at the end -/
def gap : Nat → List CpInfo → List CpInfo
  | 0, r => r
  | n + 1, r => .unusable :: gap n r
def poolList (es : List (Nat × CpInfo)) (last : Nat) : List CpInfo := es.foldr (fun e r => gap e.1 (e.2 :: r)) (gap last [])
def pool (es : List (Nat × CpInfo)) (last : Nat) : Array CpInfo := ⟨poolList es last⟩
def fileOf (pool : Array CpInfo) (this : Nat) (attrs : Array Attribute := #[]) (ms : Array MethodInfo := #[]) (fl : Nat := 33) (sup : Nat := 0) (ifs : Array Nat := #[]) (fds : Array FieldInfo := #[]) : ClassFile where
  minorVersion := 0
  majorVersion := 65
  constantPool := pool
  accessFlags := fl
  thisClass := this
  superClass := sup
  interfaces := ifs
  fields := fds
  methods := ms
  attributes := attrs
def plain (name : String) (sup : Option ClassId) : Class where
  name := name
  kind := .ordinary
  loader := none
  accessFlags := 33
  super := sup
  interfaces := #[]
  cf := none
  fields := #[]
  methods := #[]
  instanceTypes := #[]
  staticTypes := #[]
  resolved := #[]
  callSites := []
  init := .initialized
  statics := none
  mirror := none

def pool0 : Array CpInfo := pool [(5, u "<init>"), (0, u "()V"), (1, .class_ 10), (1, u "java/lang/Object")] 113

def k0m0 : Method := { name := "<init>", desc := "()V", sig := { parameters := [], returnType := none }, accessFlags := 1, code := none }
/-- java/lang/Object -/
def k0 : Class := { plain "java/lang/Object" none with
  accessFlags := 33
  interfaces := #[]
  cf := some (fileOf pool0 8 #[] #[{ accessFlags := 1, nameIndex := 5, descriptorIndex := 6, attributes := #[] }] 33 0 #[] #[])
  fields := #[]
  methods := #[k0m0]
  instanceTypes := #[]
  staticTypes := #[]
  resolved := Array.replicate 124 none
  statics := none }

def pool1 : Array CpInfo := pool [(2, .class_ 4), (1, u "java/lang/Object"), (0, u "<init>"), (0, u "()V"), (0, .methodref 8 9), (0, .class_ 10), (0, .nameAndType 11 12), (0, u "com/example/lean_tariff/leantariff/io/HalfHourTableHalfHourPinLaw"), (0, u "isDigit"), (0, u "(B)Z"), (0, .methodref 14 15), (0, .class_ 16), (0, .nameAndType 17 18), (0, u "com/example/lean_tariff/leantariff/io/HalfHourTable"), (0, u "halfHour"), (0, u "([BII)I"), (3, u "law"), (0, u "(IIIII)Z")] 4

def k1m0 : Method := { name := "<init>", desc := "()V", sig := { parameters := [], returnType := none }, accessFlags := 1, code := none }
def k1c1 : Code := { maxStack := 2, maxLocals := 1, code := method_2_code, exceptionTable := #[], attributes := #[] }
def k1m1 : Method := { name := "isDigit", desc := "(B)Z", sig := { parameters := [.byte], returnType := some .boolean }, accessFlags := 10, code := some k1c1 }
def k1c2 : Code := { maxStack := 4, maxLocals := 11, code := code, exceptionTable := #[], attributes := #[] }
def k1m2 : Method := { name := "law", desc := "(IIIII)Z", sig := { parameters := [.int, .int, .int, .int, .int], returnType := some .boolean }, accessFlags := 9, code := some k1c2 }
/-- com/example/lean_tariff/leantariff/io/HalfHourTableHalfHourPinLaw -/
def k1 : Class := { plain "com/example/lean_tariff/leantariff/io/HalfHourTableHalfHourPinLaw" (some 0) with
  accessFlags := 49
  interfaces := #[]
  cf := some (fileOf pool1 8 #[] #[{ accessFlags := 1, nameIndex := 5, descriptorIndex := 6, attributes := #[] }, { accessFlags := 10, nameIndex := 11, descriptorIndex := 12, attributes := #[] }, { accessFlags := 9, nameIndex := 22, descriptorIndex := 23, attributes := #[] }] 49 2 #[] #[])
  fields := #[]
  methods := #[k1m0, k1m1, k1m2]
  instanceTypes := #[]
  staticTypes := #[]
  resolved := Array.replicate 28 none
  statics := none }

def pool2 : Array CpInfo := pool [(2, .class_ 4), (1, u "java/lang/Object"), (6, .class_ 13), (1, u "com/example/lean_tariff/leantariff/io/HalfHourTable"), (0, u "files"), (0, u "Ljava/util/List;"), (5, u "value"), (0, u "Lcom/example/lean_tariff/leantariff/io/PlainDecimal;"), (2, u "period"), (0, u "Lcom/example/lean_tariff/leantariff/model/Period;"), (2, u "dateForm"), (0, u "Ljava/lang/String;"), (2, u "halfHourName"), (2, u "valueName"), (13, u "values"), (0, u "Lcom/example/lean_tariff/leantariff/model/DecimalSeries$Builder;"), (2, u "lineOfHalfHour"), (0, u "[I"), (2, u "file"), (0, u "Ljava/nio/file/Path;"), (11, u "fileOfHalfHour"), (52, u "lastInPeriod"), (0, u "Z"), (2, u "lastDateBytes"), (0, u "[B"), (4, u "LONGS"), (0, u "Ljava/lang/invoke/VarHandle;"), (8, u "lastDate"), (0, u "Ljava/time/LocalDate;"), (6, u "lastDay"), (0, u "I"), (41, u "halfHour"), (0, u "([BII)I"), (35, u "given")] 112

def k2c0 : Code := { maxStack := 3, maxLocals := 8, code := prog_18_method_12_code, exceptionTable := #[], attributes := #[] }
def k2m0 : Method := { name := "halfHour", desc := "([BII)I", sig := { parameters := [(.array .byte), .int, .int], returnType := some .int }, accessFlags := 8, code := some k2c0 }
/-- com/example/lean_tariff/leantariff/io/HalfHourTable -/
def k2 : Class := { plain "com/example/lean_tariff/leantariff/io/HalfHourTable" (some 0) with
  accessFlags := 32
  interfaces := #[]
  cf := some (fileOf pool2 11 #[] #[{ accessFlags := 8, nameIndex := 195, descriptorIndex := 196, attributes := #[] }] 32 2 #[] #[{ accessFlags := 26, nameIndex := 134, descriptorIndex := 135, attributes := #[] }, { accessFlags := 18, nameIndex := 25, descriptorIndex := 26, attributes := #[] }, { accessFlags := 18, nameIndex := 29, descriptorIndex := 30, attributes := #[] }, { accessFlags := 18, nameIndex := 33, descriptorIndex := 30, attributes := #[] }, { accessFlags := 18, nameIndex := 36, descriptorIndex := 30, attributes := #[] }, { accessFlags := 18, nameIndex := 50, descriptorIndex := 51, attributes := #[] }, { accessFlags := 18, nameIndex := 54, descriptorIndex := 55, attributes := #[] }, { accessFlags := 2, nameIndex := 71, descriptorIndex := 55, attributes := #[] }, { accessFlags := 2, nameIndex := 232, descriptorIndex := 153, attributes := #[] }, { accessFlags := 18, nameIndex := 14, descriptorIndex := 15, attributes := #[] }, { accessFlags := 18, nameIndex := 21, descriptorIndex := 22, attributes := #[] }, { accessFlags := 2, nameIndex := 58, descriptorIndex := 59, attributes := #[] }, { accessFlags := 2, nameIndex := 128, descriptorIndex := 129, attributes := #[] }, { accessFlags := 2, nameIndex := 144, descriptorIndex := 145, attributes := #[] }, { accessFlags := 2, nameIndex := 152, descriptorIndex := 153, attributes := #[] }, { accessFlags := 2, nameIndex := 124, descriptorIndex := 125, attributes := #[] }])
  fields := #[{ name := "LONGS", type := (.object "java/lang/invoke/VarHandle"), accessFlags := 26, slot := 0, constantValue := 0 }, { name := "period", type := (.object "com/example/lean_tariff/leantariff/model/Period"), accessFlags := 18, slot := 0, constantValue := 0 }, { name := "dateForm", type := (.object "java/lang/String"), accessFlags := 18, slot := 1, constantValue := 0 }, { name := "halfHourName", type := (.object "java/lang/String"), accessFlags := 18, slot := 2, constantValue := 0 }, { name := "valueName", type := (.object "java/lang/String"), accessFlags := 18, slot := 3, constantValue := 0 }, { name := "values", type := (.object "com/example/lean_tariff/leantariff/model/DecimalSeries$Builder"), accessFlags := 18, slot := 4, constantValue := 0 }, { name := "lineOfHalfHour", type := (.array .int), accessFlags := 18, slot := 5, constantValue := 0 }, { name := "fileOfHalfHour", type := (.array .int), accessFlags := 2, slot := 6, constantValue := 0 }, { name := "given", type := .int, accessFlags := 2, slot := 7, constantValue := 0 }, { name := "files", type := (.object "java/util/List"), accessFlags := 18, slot := 8, constantValue := 0 }, { name := "value", type := (.object "com/example/lean_tariff/leantariff/io/PlainDecimal"), accessFlags := 18, slot := 9, constantValue := 0 }, { name := "file", type := (.object "java/nio/file/Path"), accessFlags := 2, slot := 10, constantValue := 0 }, { name := "lastDateBytes", type := (.array .byte), accessFlags := 2, slot := 11, constantValue := 0 }, { name := "lastDate", type := (.object "java/time/LocalDate"), accessFlags := 2, slot := 12, constantValue := 0 }, { name := "lastDay", type := .int, accessFlags := 2, slot := 13, constantValue := 0 }, { name := "lastInPeriod", type := .boolean, accessFlags := 2, slot := 14, constantValue := 0 }]
  methods := #[k2m0]
  instanceTypes := #[(.object "com/example/lean_tariff/leantariff/model/Period"), (.object "java/lang/String"), (.object "java/lang/String"), (.object "java/lang/String"), (.object "com/example/lean_tariff/leantariff/model/DecimalSeries$Builder"), (.array .int), (.array .int), .int, (.object "java/util/List"), (.object "com/example/lean_tariff/leantariff/io/PlainDecimal"), (.object "java/nio/file/Path"), (.array .byte), (.object "java/time/LocalDate"), .int, .boolean]
  staticTypes := #[(.object "java/lang/invoke/VarHandle")]
  resolved := Array.replicate 345 none
  statics := none }

def pool3 : Array CpInfo := pool [(1, u "java/lang/Cloneable"), (0, .class_ 1), (0, u "java/lang/Object"), (0, .class_ 3)] 3

/-- java/lang/Cloneable -/
def k3 : Class := { plain "java/lang/Cloneable" (some 0) with
  accessFlags := 1537
  interfaces := #[]
  cf := some (fileOf pool3 2 #[] #[] 1537 4 #[] #[])
  fields := #[]
  methods := #[]
  instanceTypes := #[]
  staticTypes := #[]
  resolved := Array.replicate 8 none
  statics := none }

def pool4 : Array CpInfo := pool [(1, u "java/io/Serializable"), (0, .class_ 1), (0, u "java/lang/Object"), (0, .class_ 3)] 3

/-- java/io/Serializable -/
def k4 : Class := { plain "java/io/Serializable" (some 0) with
  accessFlags := 1537
  interfaces := #[]
  cf := some (fileOf pool4 2 #[] #[] 1537 4 #[] #[])
  fields := #[]
  methods := #[]
  instanceTypes := #[]
  staticTypes := #[]
  resolved := Array.replicate 8 none
  statics := none }

/-- the primitive byte -/
def k5 : Class := { plain "byte" none with kind := .primitive 'B', accessFlags := 0x411 }
/-- [B -/
def k6 : Class := { plain "[B" (some 0) with kind := .array 5 .byte, interfaces := #[3, 4], accessFlags := 1041 }

/-- the primitive int -/
def k7 : Class := { plain "int" none with kind := .primitive 'I', accessFlags := 0x411 }
/-- [I -/
def k8 : Class := { plain "[I" (some 0) with kind := .array 7 .int, interfaces := #[3, 4], accessFlags := 1041 }

def heap : Heap := #[]
def classes : Array Class := #[k0, k1, k2, k3, k4, k5, k6, k7, k8]
def interned : List (Array UInt16 × Addr) := []
def slotsUsed : Nat := 0
def theMethod : MethodId := ⟨1, 2⟩
def args0 : Array Value := #[.int 5, .int 3, .int 0, .int 1, .int 2]
def aboutOver (below : List Frame) : State where
  vm := { classes := classes, interned := interned.toArray }
  heap := heap
  slotsUsed := slotsUsed
  threads := #[{ frames := .invoking theMethod args0 :: below }]
def below0 : List Frame := [.native { method := ⟨0, 0⟩, args := #[] }]
def about1 : State := aboutOver below0
def p0 : Program := .bare "" "" ""
def e0 : Env := launch0.env 0 0 0
theorem w_frames : about1.frames = Frame.invoking theMethod args0 :: below0 := rfl
set_option maxRecDepth 65536 in
theorem w_args : argsFit about1.vm theMethod args0 = true := by decide +kernel
set_option maxRecDepth 65536 in
theorem w_heap : heapFits about1 = true := by decide +kernel
set_option maxRecDepth 65536 in
theorem w_runnable : about1.curStatus? = some .runnable := by decide +kernel
set_option maxRecDepth 65536 in
theorem w_alone : about1.alone = true := by decide +kernel
set_option maxRecDepth 65536 in
theorem w_named : about1.methodNamed? x = some theMethod := by decide +kernel
set_option maxRecDepth 65536 in
theorem w_hears : about1.hears theMethod below0 = true := by decide +kernel
set_option maxRecDepth 65536 in
theorem w_ripe : about1.ripe theMethod args0 below0 = true := by decide +kernel
theorem w_running : about1.status = .running := rfl
set_option maxRecDepth 65536 in
theorem w_room : about1.hasRoom e0.platform room_1 = true :=
  launch0.hasRoom_least _ room_1 (by decide +kernel) (by decide +kernel) (by decide +kernel) (by decide +kernel) (by decide +kernel) (by decide +kernel)
theorem allAtoms_all (ts : List Jvm.Cond) (a : Array Jvm.Value) (st : Jvm.State) : (allAtoms ts).before a st = ts.all (fun c => c.before a st) := by
  induction ts with
  | nil => rfl
  | cons c t ih =>
    show (Jvm.Cond.and c (allAtoms t)).before a st = _
    rw [Jvm.Cond.before_and, ih, List.all_cons]
def words1 : List Jvm.Cond := Jvm.Cond.code x code maxLocals ret :: tables_1
/-- a 'code' word, met by the world's own term for the bytes: nothing is compared byte by byte -/
theorem code_word {y : MethodName} {bytes : ByteArray} {mx : Nat} {rt : Option FieldType} {a : Array Value} {s : State} {m : MethodId} {meth : Method} {c : Code} (h1 : s.methodNamed? y = some m) (h2 : s.vm.method? m = some meth) (h3 : meth.code = some c) (h4 : c.code = bytes)
    (h5 : (c.maxLocals == mx && c.exceptionTable.isEmpty && decide (c.maxStack ≤ mostOperands) && decide (meth.sig.returnType = rt) && !meth.locks && decide (parseMethodDescriptor y.desc = some meth.sig)) = true) : (Jvm.Cond.code y bytes mx rt).before a s = true := by
  simp only [Bool.and_eq_true, beq_iff_eq, Bool.not_eq_true', decide_eq_true_eq] at h5
  obtain ⟨⟨⟨⟨⟨g1, g2⟩, g3⟩, g4⟩, g5⟩, g6⟩ := h5
  simp [Cond.before, Cond.holds, Cond.value, h1, h2, h3, h4, g1, g2, g3, g4, g5, g6]
def isCode : Jvm.Cond → Bool
  | .code _ _ _ _ => true
  | _ => false
theorem all_split {L : List Jvm.Cond} {P : Jvm.Cond → Bool} (h1 : L.all (fun c => isCode c || P c) = true) (h2 : ∀ c ∈ L.filter isCode, P c = true) : L.all P = true := by
  refine List.all_eq_true.mpr fun c hc => ?_
  have h := List.all_eq_true.mp h1 c hc
  rcases Bool.eq_false_or_eq_true (isCode c) with hi | hi
  · exact h2 c (List.mem_filter.mpr ⟨hc, hi⟩)
  · simpa [hi] using h
set_option maxRecDepth 65536 in
theorem w_c0 : (Jvm.Cond.code x code maxLocals ret).before args0 about1 = true := code_word (m := ⟨1, 2⟩) (meth := k1m2) (c := k1c2) (by decide +kernel) rfl rfl rfl (by decide +kernel)
set_option maxRecDepth 65536 in
theorem w_c1 : (Jvm.Cond.code ({ cls := "com/example/lean_tariff/leantariff/io/HalfHourTable", name := "halfHour", desc := "([BII)I" } : Jvm.MethodName) prog_18_method_12_code (8 : Nat) (Option.some Jvm.ClassFile.FieldType.int)).before args0 about1 = true := code_word (m := ⟨2, 0⟩) (meth := k2m0) (c := k2c0) (by decide +kernel) rfl rfl rfl (by decide +kernel)
set_option maxRecDepth 65536 in
theorem w_c2 : (Jvm.Cond.code ({ cls := "com/example/lean_tariff/leantariff/io/HalfHourTableHalfHourPinLaw", name := "isDigit", desc := "(B)Z" } : Jvm.MethodName) method_2_code (1 : Nat) (Option.some Jvm.ClassFile.FieldType.boolean)).before args0 about1 = true := code_word (m := ⟨1, 1⟩) (meth := k1m1) (c := k1c1) (by decide +kernel) rfl rfl rfl (by decide +kernel)
def codes1 : List Jvm.Cond := [Jvm.Cond.code x code maxLocals ret, Jvm.Cond.code ({ cls := "com/example/lean_tariff/leantariff/io/HalfHourTable", name := "halfHour", desc := "([BII)I" } : Jvm.MethodName) prog_18_method_12_code (8 : Nat) (Option.some Jvm.ClassFile.FieldType.int), Jvm.Cond.code ({ cls := "com/example/lean_tariff/leantariff/io/HalfHourTableHalfHourPinLaw", name := "isDigit", desc := "(B)Z" } : Jvm.MethodName) method_2_code (1 : Nat) (Option.some Jvm.ClassFile.FieldType.boolean)]
set_option maxRecDepth 65536 in
theorem codes_eq : words1.filter isCode = codes1 := rfl
theorem w_codes : ∀ c ∈ words1.filter isCode, c.before args0 about1 = true := by
  rw [codes_eq]
  intro c hc
  simp only [codes1, List.mem_cons, List.not_mem_nil, or_false] at hc
  rcases hc with rfl | rfl | rfl
  · exact w_c0
  · exact w_c1
  · exact w_c2
set_option maxRecDepth 65536 in
theorem w_t1 : words1.all (fun c => isCode c || c.before args0 about1) = true := by decide +kernel
theorem w_tables : (allAtoms (Jvm.Cond.code x code maxLocals ret :: tables_1)).before args0 about1 = true := by
  rw [allAtoms_all]
  show words1.all (fun c => c.before args0 about1) = true
  refine all_split ?_ w_codes
  rw [w_t1]
set_option maxRecDepth 65536 in
theorem w_case : (Jvm.Cond.and given_1 narrow_1).before args0 about1 = true := by decide +kernel
theorem w_applies : (headSpec (Jvm.Cond.code x code maxLocals ret :: tables_1) room_1).applies x e0.platform about1 = true :=
  (Spec.applies_iff w_frames).mpr ⟨w_running, w_runnable, w_alone, w_named, w_hears, w_ripe, w_room, w_tables⟩
theorem atStart : AtStart classFile x code maxLocals ret World_1 tables_1 room_1 Calls_1 rest_1 Pre_1 launch0 p0 e0 about1 theMethod args0 below0 :=
  ⟨lists_1, trivial, launch0.admits_env _ _ _, launch0.least_env, fairChoices_fair.cas, fairChoices_fair.clock, w_frames, w_args, w_heap, w_applies, trivial, trivial, w_case⟩
end start1
theorem witness_1 : WitnessClaimed_1 := ⟨start1.p0, start1.e0, start1.about1, start1.theMethod, start1.args0, start1.below0, start1.atStart⟩
end Jvm.Pilot.@@N@@
