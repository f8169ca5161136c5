import JvmDerived
import JvmDerived.Pilot.@@N@@Statement
import JvmDerived.Pilot.@@N@@Code
set_option linter.unusedVariables false
set_option linter.unusedSimpArgs false
namespace Jvm.RoadKit
open Sem ClassFile Op Lib Jvm.Stand Jvm.Free Jvm.LawKit
section OwnK
variable {p : Program} {l : Launch} {e : Env} {R : Room} {s : State} {m : MethodId} {args : Array Value} {below : List Frame} {meth : Method} {c : Code} {T : State} {cells slots cells' slots' : Nat} {Z : State} {a0 : Array Value} {h : Heap} {n0 : Nat} {D : State → Prop} {pc pc' : Nat} {Ls : Array Slot} {St : List Value}
/-- the run goes from the frame g at T to a state that is done -/
def GoK (p : Program) (e : Env) (below : List Frame) (D : State → Prop) (T : State) (g : JFrame) : Prop := ∃ u, Steps p.tables e below (T.setTop g) u ∧ D u
/-- where the walk stands: the state, its heap, what was made; all that was written is new -/
def OnK (p : Program) (l : Launch) (e : Env) (R : Room) (s : State) (m : MethodId) (args : Array Value) (below : List Frame) (meth : Method) (c : Code) (n0 : Nat) (T : State) (h : Heap) (cells slots : Nat) : Prop := ∃ locs, Stand p l e R s m args below meth c T locs cells slots ∧ T.heap = h ∧ Fr n0 locs
/-- the call has returned -/
def DoneK (s : State) (below : List Frame) (n0 C S : Nat) (Q : Option Value → Heap → Prop) (u : State) : Prop := u.status = .running ∧ ∃ v L, Ended u below (.returned v) ∧ Q v u.heap ∧ Fr n0 L ∧ FrameEnd s (.returned v) u L C S
def QI (P : Int32 → Heap → Prop) (v : Option Value) (h : Heap) : Prop := ∃ z, v = some (.int z) ∧ P z h
def QJ (P : Int64 → Heap → Prop) (v : Option Value) (h : Heap) : Prop := ∃ z, v = some (.long z) ∧ P z h
def QA (P : Addr → Heap → Prop) (v : Option Value) (h : Heap) : Prop := ∃ z, v = some (.ref z) ∧ P z h
def QV (P : Heap → Prop) (v : Option Value) (h : Heap) : Prop := v = none ∧ P h
/-- a body's contract -/
def CtK (l : Launch) (Z : State) (y : MethodName) (bytes : ByteArray) (maxL : Nat) (ret : Option FieldType) (rm : Room) (as' : Array Value) (h0 : Heap) (n0 : Nat) (Q : Option Value → Heap → Prop) : Prop :=
  ∀ ws : List Jvm.Cond, MetFree l y (head1 (Jvm.Cond.code y bytes maxL ret :: ws) rm) (fun a U => a = as' ∧ Z.Warmed39 U.vm ∧ U.heap = h0) (fun _ _ _ _ _ => True) (fun _ U o U' => ∃ v L, o = .returned v ∧ (Q v U'.heap ∧ Fr n0 L) ∧ FrameEnd U o U' L rm.cells rm.slots)
theorem GoK.by {T' : State} {g g' : JFrame} (st : ∀ t, Steps p.tables e below (T'.setTop g') t → Steps p.tables e below (T.setTop g) t) (G : GoK p e below D T' g') : GoK p e below D T g := by
  obtain ⟨u, hu, hD⟩ := G
  exact ⟨u, st _ hu, hD⟩
theorem OnK.at (X : OnK p l e R s m args below meth c n0 T h cells slots) : Jvm.At T m c below := by
  obtain ⟨_, X, -, -⟩ := X
  exact X.here
theorem CtK.of {y : MethodName} {bytes : ByteArray} {maxL : Nat} {ret : Option FieldType} {rm : Room} {as' : Array Value} {h0 : Heap} {Q : Option Value → Heap → Prop} (hp : plainFor y = true)
    (body : ∀ {p : Program} {e : Env} {s : State} {m : MethodId} {below : List Frame} {meth : Method} {c : Code} {T : State}, OnK p l e rm s m as' below meth c n0 T h0 0 0 → p.tables.exec = Jvm.exec → Z.Warmed39 s.vm → c.code = bytes → c.maxLocals = maxL → s.vm.findClass y.cls = some m.cls → meth.name = y.name → meth.sig.returnType = ret → meth.locks = false →
      GoK p e below (DoneK s below n0 rm.cells rm.slots Q) T (entryFrame m as' maxL)) : CtK l Z y bytes maxL ret rm as' h0 n0 Q := by
  intro ws
  refine MetFree.of_bodySF hp hisR ?_
  intro p e s m args below meth c s₁ Bd hml0 hP hK
  obtain ⟨rfl, hZ, hh⟩ := hP
  have hown : s.vm.findClass y.cls = some m.cls := findClass_of_methodNamed Bd.named
  have hnm := (name_of_methodNamed Bd.named Bd.method).1
  have X0 : Stand p l e rm s m args below meth c s₁ [] 0 0 := Stand.of_body Bd
  have e0 : s₁.heap = h0 := by rw [← hh, Bd.state]; rfl
  obtain ⟨u, hu, hrun, v, L, hen, hQ, hN, hF⟩ := body ⟨[], X0, e0, Fr.nil n0⟩ Bd.exec hZ Bd.bytes hml0 hown hnm Bd.returns (BodyLoose.notSynchronized Bd)
  exact ⟨u, _, hu, hrun, hen, v, L, rfl, ⟨hQ, hN⟩, hF⟩
theorem GoK.entry {as' : Array Value} {n : Nat} (q : entryFrame m as' n = mkF m 0 Ls []) (G : GoK p e below D T (mkF m 0 Ls [])) : GoK p e below D T (entryFrame m as' n) := q ▸ G
theorem go_nameI {x : Int32} (G : ∀ z : Int32, z = x → GoK p e below D T (mkF m pc Ls (.int z :: St))) : GoK p e below D T (mkF m pc Ls (.int x :: St)) := G x rfl
theorem go_nameJ {x : Int64} (G : ∀ z : Int64, z = x → GoK p e below D T (mkF m pc Ls (.long z :: St))) : GoK p e below D T (mkF m pc Ls (.long x :: St)) := G x rfl
/-- the end: what every return has in common -/
theorem go_end {C S : Nat} {Q : Option Value → Heap → Prop} {v : Option Value} {g : JFrame} (X : OnK p l e R s m args below meth c n0 T h cells slots) (hlk : meth.locks = false) (hv : meth.sig.returnType = none → v = none) (hc : cells ≤ C) (hs : slots ≤ S) (q : Q v h)
    (st : ∀ {locs : List Loc}, Stand p l e R s m args below meth c T locs cells slots → ∀ {fs : List Frame}, (∀ (f : JFrame) (acts : List Action), f.method = m → f.locked = none → f.entered = [] → (doReturn e (T.setTop f) acts v).1 = T.setFrames fs) → Steps p.tables e below (T.setTop g) (T.setFrames fs)) :
    GoK p e below (DoneK s below n0 C S Q) T g := by
  obtain ⟨locs, X, rfl, N⟩ := X
  obtain ⟨fs, hr, hrun, hended, hW, hsame⟩ := X.leave (v := v) hv hlk
  exact ⟨_, st X hr, hrun, v, locs, hended, q, N, ⟨_, rfl⟩, hW, hsame.mono hc hs⟩
theorem go_retI {C S : Nat} {P : Int32 → Heap → Prop} {x : Int32} (X : OnK p l e R s m args below meth c n0 T h cells slots) (hx : p.tables.exec = Jvm.exec) (hret : meth.sig.returnType = some .int) (hlk : meth.locks = false) (hd : decode c.code pc = .ok (.ireturn, 1)) (hc : cells ≤ C) (hs : slots ≤ S) (q : P x h) : GoK p e below (DoneK s below n0 C S (QI P)) T (mkF m pc Ls (.int x :: St)) := by
  refine go_end (v := some (.int x)) X hlk (fun q => by rw [hret] at q; cases q) hc hs ⟨_, rfl, q⟩ ?_
  intro locs Y fs hr
  have hm' : T.vm.method? m = some meth := Y.method'
  have hn : narrow .int (.int x) = .int x := rfl
  show Steps p.tables e below (T.setTop { method := m, pc := pc, locals := Ls, stack := _ :: St, locked := none }) _
  jvm_step Y.here [Y.here.top, hx, hd, hm', hret, hn]
  first | (intro acts; rw [hr _ acts rfl rfl rfl]) | rw [hr _ _ rfl rfl rfl]
  exact Steps.refl _
theorem go_retN {C S : Nat} {P : Int32 → Heap → Prop} {x : Int32} {t : FieldType} (X : OnK p l e R s m args below meth c n0 T h cells slots) (hx : p.tables.exec = Jvm.exec) (hret : meth.sig.returnType = some t) (ht : t = .boolean ∨ t = .byte ∨ t = .char ∨ t = .short) (hlk : meth.locks = false) (hd : decode c.code pc = .ok (.ireturn, 1)) (hc : cells ≤ C) (hs : slots ≤ S) (q : P (nar t x) h) : GoK p e below (DoneK s below n0 C S (QI P)) T (mkF m pc Ls (.int x :: St)) := by
  refine go_end (v := some (.int (nar t x))) X hlk (fun q => by rw [hret] at q; cases q) hc hs ⟨_, rfl, q⟩ ?_
  intro locs Y fs hr
  exact retN Y hx hret ht hd hr
theorem go_retV {C S : Nat} {P : Heap → Prop} (X : OnK p l e R s m args below meth c n0 T h cells slots) (hx : p.tables.exec = Jvm.exec) (hret : meth.sig.returnType = none) (hlk : meth.locks = false) (hd : decode c.code pc = .ok (.return_, 1)) (hc : cells ≤ C) (hs : slots ≤ S) (q : P h) : GoK p e below (DoneK s below n0 C S (QV P)) T (mkF m pc Ls []) := by
  refine go_end (v := none) X hlk (fun _ => rfl) hc hs ⟨rfl, q⟩ ?_
  intro locs Y fs hr
  exact Y.returnOut hx hret hd hr
theorem go_retJ {C S : Nat} {P : Int64 → Heap → Prop} {x : Int64} (X : OnK p l e R s m args below meth c n0 T h cells slots) (hx : p.tables.exec = Jvm.exec) (hret : meth.sig.returnType = some .long) (hlk : meth.locks = false) (hd : decode c.code pc = .ok (.lreturn, 1)) (hc : cells ≤ C) (hs : slots ≤ S) (q : P x h) : GoK p e below (DoneK s below n0 C S (QJ P)) T (mkF m pc Ls (.long x :: St)) := by
  refine go_end (v := some (.long x)) X hlk (fun q => by rw [hret] at q; cases q) hc hs ⟨_, rfl, q⟩ ?_
  intro locs Y fs hr
  exact retOut Y hx hret rfl (Or.inr (Or.inl ⟨rfl, rfl, _, rfl⟩)) hd hr
theorem go_retA {C S : Nat} {P : Addr → Heap → Prop} {x : Addr} {t : FieldType} (X : OnK p l e R s m args below meth c n0 T h cells slots) (hx : p.tables.exec = Jvm.exec) (hret : meth.sig.returnType = some t) (ht : t.isReference = true) (hnr : narrow t (.ref x) = .ref x) (hlk : meth.locks = false) (hd : decode c.code pc = .ok (.areturn, 1)) (hc : cells ≤ C) (hs : slots ≤ S) (q : P x h) : GoK p e below (DoneK s below n0 C S (QA P)) T (mkF m pc Ls (.ref x :: St)) := by
  refine go_end (v := some (.ref x)) X hlk (fun q => by rw [hret] at q; cases q) hc hs ⟨_, rfl, q⟩ ?_
  intro locs Y fs hr
  exact retOut Y hx hret hnr (Or.inr (Or.inr (Or.inr (Or.inr ⟨rfl, ht, rfl⟩)))) hd hr
theorem go_iadd (X : OnK p l e R s m args below meth c n0 T h cells slots) (hx : p.tables.exec = Jvm.exec) {x y : Int32} (hd : decode c.code pc = .ok (.iadd, 1)) (hp : pc + 1 = pc') (G : GoK p e below D T (mkF m pc' Ls (.int (x + y) :: St))) : GoK p e below D T (mkF m pc Ls (.int y :: .int x :: St)) := by
  subst hp
  exact GoK.by (fun t k => XS.iadd X.at hx rfl hd rfl k) G
theorem go_isub (X : OnK p l e R s m args below meth c n0 T h cells slots) (hx : p.tables.exec = Jvm.exec) {x y : Int32} (hd : decode c.code pc = .ok (.isub, 1)) (hp : pc + 1 = pc') (G : GoK p e below D T (mkF m pc' Ls (.int (x - y) :: St))) : GoK p e below D T (mkF m pc Ls (.int y :: .int x :: St)) := by
  subst hp
  exact GoK.by (fun t k => XS.isub X.at hx rfl hd rfl k) G
theorem go_imul (X : OnK p l e R s m args below meth c n0 T h cells slots) (hx : p.tables.exec = Jvm.exec) {x y : Int32} (hd : decode c.code pc = .ok (.imul, 1)) (hp : pc + 1 = pc') (G : GoK p e below D T (mkF m pc' Ls (.int (x * y) :: St))) : GoK p e below D T (mkF m pc Ls (.int y :: .int x :: St)) := by
  subst hp
  exact GoK.by (fun t k => XS.imul X.at hx rfl hd rfl k) G
theorem go_iand (X : OnK p l e R s m args below meth c n0 T h cells slots) (hx : p.tables.exec = Jvm.exec) {x y : Int32} (hd : decode c.code pc = .ok (.iand, 1)) (hp : pc + 1 = pc') (G : GoK p e below D T (mkF m pc' Ls (.int (x &&& y) :: St))) : GoK p e below D T (mkF m pc Ls (.int y :: .int x :: St)) := by
  subst hp
  exact GoK.by (fun t k => XS.iand X.at hx rfl hd rfl k) G
theorem go_ior (X : OnK p l e R s m args below meth c n0 T h cells slots) (hx : p.tables.exec = Jvm.exec) {x y : Int32} (hd : decode c.code pc = .ok (.ior, 1)) (hp : pc + 1 = pc') (G : GoK p e below D T (mkF m pc' Ls (.int (x ||| y) :: St))) : GoK p e below D T (mkF m pc Ls (.int y :: .int x :: St)) := by
  subst hp
  exact GoK.by (fun t k => XS.ior X.at hx rfl hd rfl k) G
theorem go_ixor (X : OnK p l e R s m args below meth c n0 T h cells slots) (hx : p.tables.exec = Jvm.exec) {x y : Int32} (hd : decode c.code pc = .ok (.ixor, 1)) (hp : pc + 1 = pc') (G : GoK p e below D T (mkF m pc' Ls (.int (x ^^^ y) :: St))) : GoK p e below D T (mkF m pc Ls (.int y :: .int x :: St)) := by
  subst hp
  exact GoK.by (fun t k => XS.ixor X.at hx rfl hd rfl k) G
theorem go_ishl (X : OnK p l e R s m args below meth c n0 T h cells slots) (hx : p.tables.exec = Jvm.exec) {x y : Int32} (hd : decode c.code pc = .ok (.ishl, 1)) (hp : pc + 1 = pc') (G : GoK p e below D T (mkF m pc' Ls (.int (x <<< (y &&& 31)) :: St))) : GoK p e below D T (mkF m pc Ls (.int y :: .int x :: St)) := by
  subst hp
  exact GoK.by (fun t k => XS.ishl X.at hx rfl hd rfl k) G
theorem go_ishr (X : OnK p l e R s m args below meth c n0 T h cells slots) (hx : p.tables.exec = Jvm.exec) {x y : Int32} (hd : decode c.code pc = .ok (.ishr, 1)) (hp : pc + 1 = pc') (G : GoK p e below D T (mkF m pc' Ls (.int (x >>> (y &&& 31)) :: St))) : GoK p e below D T (mkF m pc Ls (.int y :: .int x :: St)) := by
  subst hp
  exact GoK.by (fun t k => XS.ishr X.at hx rfl hd rfl k) G
theorem go_iushr (X : OnK p l e R s m args below meth c n0 T h cells slots) (hx : p.tables.exec = Jvm.exec) {x y : Int32} (hd : decode c.code pc = .ok (.iushr, 1)) (hp : pc + 1 = pc') (G : GoK p e below D T (mkF m pc' Ls (.int ((x.toUInt32 >>> (y &&& 31).toUInt32).toInt32) :: St))) : GoK p e below D T (mkF m pc Ls (.int y :: .int x :: St)) := by
  subst hp
  exact GoK.by (fun t k => XS.iushr X.at hx rfl hd rfl k) G
theorem go_ladd (X : OnK p l e R s m args below meth c n0 T h cells slots) (hx : p.tables.exec = Jvm.exec) {x y : Int64} (hd : decode c.code pc = .ok (.ladd, 1)) (hp : pc + 1 = pc') (G : GoK p e below D T (mkF m pc' Ls (.long (x + y) :: St))) : GoK p e below D T (mkF m pc Ls (.long y :: .long x :: St)) := by
  subst hp
  exact GoK.by (fun t k => XS.ladd X.at hx rfl hd rfl k) G
theorem go_lsub (X : OnK p l e R s m args below meth c n0 T h cells slots) (hx : p.tables.exec = Jvm.exec) {x y : Int64} (hd : decode c.code pc = .ok (.lsub, 1)) (hp : pc + 1 = pc') (G : GoK p e below D T (mkF m pc' Ls (.long (x - y) :: St))) : GoK p e below D T (mkF m pc Ls (.long y :: .long x :: St)) := by
  subst hp
  exact GoK.by (fun t k => XS.lsub X.at hx rfl hd rfl k) G
theorem go_lmul (X : OnK p l e R s m args below meth c n0 T h cells slots) (hx : p.tables.exec = Jvm.exec) {x y : Int64} (hd : decode c.code pc = .ok (.lmul, 1)) (hp : pc + 1 = pc') (G : GoK p e below D T (mkF m pc' Ls (.long (x * y) :: St))) : GoK p e below D T (mkF m pc Ls (.long y :: .long x :: St)) := by
  subst hp
  exact GoK.by (fun t k => XS.lmul X.at hx rfl hd rfl k) G
theorem go_land (X : OnK p l e R s m args below meth c n0 T h cells slots) (hx : p.tables.exec = Jvm.exec) {x y : Int64} (hd : decode c.code pc = .ok (.land, 1)) (hp : pc + 1 = pc') (G : GoK p e below D T (mkF m pc' Ls (.long (x &&& y) :: St))) : GoK p e below D T (mkF m pc Ls (.long y :: .long x :: St)) := by
  subst hp
  exact GoK.by (fun t k => XS.land X.at hx rfl hd rfl k) G
theorem go_lor (X : OnK p l e R s m args below meth c n0 T h cells slots) (hx : p.tables.exec = Jvm.exec) {x y : Int64} (hd : decode c.code pc = .ok (.lor, 1)) (hp : pc + 1 = pc') (G : GoK p e below D T (mkF m pc' Ls (.long (x ||| y) :: St))) : GoK p e below D T (mkF m pc Ls (.long y :: .long x :: St)) := by
  subst hp
  exact GoK.by (fun t k => XS.lor X.at hx rfl hd rfl k) G
theorem go_lxor (X : OnK p l e R s m args below meth c n0 T h cells slots) (hx : p.tables.exec = Jvm.exec) {x y : Int64} (hd : decode c.code pc = .ok (.lxor, 1)) (hp : pc + 1 = pc') (G : GoK p e below D T (mkF m pc' Ls (.long (x ^^^ y) :: St))) : GoK p e below D T (mkF m pc Ls (.long y :: .long x :: St)) := by
  subst hp
  exact GoK.by (fun t k => XS.lxor X.at hx rfl hd rfl k) G
theorem go_lshl (X : OnK p l e R s m args below meth c n0 T h cells slots) (hx : p.tables.exec = Jvm.exec) {x : Int64} {y : Int32} (hd : decode c.code pc = .ok (.lshl, 1)) (hp : pc + 1 = pc') (G : GoK p e below D T (mkF m pc' Ls (.long (x <<< (y &&& 0x3f).toInt64) :: St))) : GoK p e below D T (mkF m pc Ls (.int y :: .long x :: St)) := by
  subst hp
  exact GoK.by (fun t k => XS.lshl X.at hx rfl hd rfl k) G
theorem go_lshr (X : OnK p l e R s m args below meth c n0 T h cells slots) (hx : p.tables.exec = Jvm.exec) {x : Int64} {y : Int32} (hd : decode c.code pc = .ok (.lshr, 1)) (hp : pc + 1 = pc') (G : GoK p e below D T (mkF m pc' Ls (.long (x >>> (y &&& 0x3f).toInt64) :: St))) : GoK p e below D T (mkF m pc Ls (.int y :: .long x :: St)) := by
  subst hp
  exact GoK.by (fun t k => XS.lshr X.at hx rfl hd rfl k) G
theorem go_lushr (X : OnK p l e R s m args below meth c n0 T h cells slots) (hx : p.tables.exec = Jvm.exec) {x : Int64} {y : Int32} (hd : decode c.code pc = .ok (.lushr, 1)) (hp : pc + 1 = pc') (G : GoK p e below D T (mkF m pc' Ls (.long ((x.toUInt64 >>> (y &&& 0x3f).toInt64.toUInt64).toInt64) :: St))) : GoK p e below D T (mkF m pc Ls (.int y :: .long x :: St)) := by
  subst hp
  exact GoK.by (fun t k => XS.lushr X.at hx rfl hd rfl k) G
theorem go_idiv (X : OnK p l e R s m args below meth c n0 T h cells slots) (hx : p.tables.exec = Jvm.exec) {x y : Int32} (hd : decode c.code pc = .ok (.idiv, 1)) (hp : pc + 1 = pc') (hy : y ≠ 0) (G : GoK p e below D T (mkF m pc' Ls (.int (x / y) :: St))) : GoK p e below D T (mkF m pc Ls (.int y :: .int x :: St)) := by
  subst hp
  exact GoK.by (fun t k => XS.idiv X.at hx rfl hd rfl hy k) G
theorem go_ldiv (X : OnK p l e R s m args below meth c n0 T h cells slots) (hx : p.tables.exec = Jvm.exec) {x y : Int64} (hd : decode c.code pc = .ok (.ldiv, 1)) (hp : pc + 1 = pc') (hy : y ≠ 0) (G : GoK p e below D T (mkF m pc' Ls (.long (x / y) :: St))) : GoK p e below D T (mkF m pc Ls (.long y :: .long x :: St)) := by
  subst hp
  exact GoK.by (fun t k => XS.ldiv X.at hx rfl hd rfl hy k) G
theorem go_irem (X : OnK p l e R s m args below meth c n0 T h cells slots) (hx : p.tables.exec = Jvm.exec) {x y : Int32} (hd : decode c.code pc = .ok (.irem, 1)) (hp : pc + 1 = pc') (hy : y ≠ 0) (G : GoK p e below D T (mkF m pc' Ls (.int (x % y) :: St))) : GoK p e below D T (mkF m pc Ls (.int y :: .int x :: St)) := by
  subst hp
  obtain ⟨_, Y, -, -⟩ := X
  exact GoK.by (fun t k => iremM Y hx rfl hd rfl hy k) G
theorem go_lrem (X : OnK p l e R s m args below meth c n0 T h cells slots) (hx : p.tables.exec = Jvm.exec) {x y : Int64} (hd : decode c.code pc = .ok (.lrem, 1)) (hp : pc + 1 = pc') (hy : y ≠ 0) (G : GoK p e below D T (mkF m pc' Ls (.long (x % y) :: St))) : GoK p e below D T (mkF m pc Ls (.long y :: .long x :: St)) := by
  subst hp
  rw [← lrem_mod] at G
  exact GoK.by (fun t k => XS.lrem X.at hx rfl hd rfl hy k) G
theorem go_ineg (X : OnK p l e R s m args below meth c n0 T h cells slots) (hx : p.tables.exec = Jvm.exec) {x : Int32} (hd : decode c.code pc = .ok (.ineg, 1)) (hp : pc + 1 = pc') (G : GoK p e below D T (mkF m pc' Ls (.int (-x) :: St))) : GoK p e below D T (mkF m pc Ls (.int x :: St)) := by
  subst hp
  exact GoK.by (fun t k => XS.ineg X.at hx rfl hd rfl k) G
theorem go_lneg (X : OnK p l e R s m args below meth c n0 T h cells slots) (hx : p.tables.exec = Jvm.exec) {x : Int64} (hd : decode c.code pc = .ok (.lneg, 1)) (hp : pc + 1 = pc') (G : GoK p e below D T (mkF m pc' Ls (.long (-x) :: St))) : GoK p e below D T (mkF m pc Ls (.long x :: St)) := by
  subst hp
  exact GoK.by (fun t k => XS.lneg X.at hx rfl hd rfl k) G
theorem go_i2l (X : OnK p l e R s m args below meth c n0 T h cells slots) (hx : p.tables.exec = Jvm.exec) {x : Int32} (hd : decode c.code pc = .ok (.i2l, 1)) (hp : pc + 1 = pc') (G : GoK p e below D T (mkF m pc' Ls (.long (x.toInt64) :: St))) : GoK p e below D T (mkF m pc Ls (.int x :: St)) := by
  subst hp
  exact GoK.by (fun t k => XS.i2l X.at hx rfl hd rfl k) G
theorem go_l2i (X : OnK p l e R s m args below meth c n0 T h cells slots) (hx : p.tables.exec = Jvm.exec) {x : Int64} (hd : decode c.code pc = .ok (.l2i, 1)) (hp : pc + 1 = pc') (G : GoK p e below D T (mkF m pc' Ls (.int (x.toInt32) :: St))) : GoK p e below D T (mkF m pc Ls (.long x :: St)) := by
  subst hp
  exact GoK.by (fun t k => XS.l2i X.at hx rfl hd rfl k) G
theorem go_i2b (X : OnK p l e R s m args below meth c n0 T h cells slots) (hx : p.tables.exec = Jvm.exec) {x : Int32} (hd : decode c.code pc = .ok (.i2b, 1)) (hp : pc + 1 = pc') (G : GoK p e below D T (mkF m pc' Ls (.int (x.toInt8.toInt32) :: St))) : GoK p e below D T (mkF m pc Ls (.int x :: St)) := by
  subst hp
  exact GoK.by (fun t k => XS.i2b X.at hx rfl hd rfl k) G
theorem go_i2s (X : OnK p l e R s m args below meth c n0 T h cells slots) (hx : p.tables.exec = Jvm.exec) {x : Int32} (hd : decode c.code pc = .ok (.i2s, 1)) (hp : pc + 1 = pc') (G : GoK p e below D T (mkF m pc' Ls (.int (x.toInt16.toInt32) :: St))) : GoK p e below D T (mkF m pc Ls (.int x :: St)) := by
  subst hp
  exact GoK.by (fun t k => XS.i2s X.at hx rfl hd rfl k) G
theorem go_i2c (X : OnK p l e R s m args below meth c n0 T h cells slots) (hx : p.tables.exec = Jvm.exec) {x : Int32} (hd : decode c.code pc = .ok (.i2c, 1)) (hp : pc + 1 = pc') (G : GoK p e below D T (mkF m pc' Ls (.int (x.toUInt32.toUInt16.toUInt32.toInt32) :: St))) : GoK p e below D T (mkF m pc Ls (.int x :: St)) := by
  subst hp
  exact GoK.by (fun t k => XS.i2c X.at hx rfl hd rfl k) G
theorem go_dup (X : OnK p l e R s m args below meth c n0 T h cells slots) (hx : p.tables.exec = Jvm.exec) {v : Value} (hd : decode c.code pc = .ok (.dup, 1)) (hp : pc + 1 = pc') (hv : v.category = 1) (G : GoK p e below D T (mkF m pc' Ls (v :: v :: St))) : GoK p e below D T (mkF m pc Ls (v :: St)) := by
  subst hp
  exact GoK.by (fun t k => XS.dup X.at hx rfl hd rfl hv k) G
theorem go_pop (X : OnK p l e R s m args below meth c n0 T h cells slots) (hx : p.tables.exec = Jvm.exec) {v : Value} (hd : decode c.code pc = .ok (.pop, 1)) (hp : pc + 1 = pc') (hv : v.category = 1) (G : GoK p e below D T (mkF m pc' Ls St)) : GoK p e below D T (mkF m pc Ls (v :: St)) := by
  subst hp
  exact GoK.by (fun t k => XS.pop X.at hx rfl hd rfl hv k) G
theorem go_iload (X : OnK p l e R s m args below meth c n0 T h cells slots) (hx : p.tables.exec = Jvm.exec) {k : Nat} {v : Int32} (hd : decode c.code pc = .ok (.iload k, 2)) (hp : pc + 2 = pc') (hl : Ls[k]? = some (.val (.int v))) (G : GoK p e below D T (mkF m pc' Ls (.int v :: St))) : GoK p e below D T (mkF m pc Ls St) := by
  subst hp
  exact GoK.by (fun t k => XS.iload X.at hx rfl hd hl k) G
theorem go_lload (X : OnK p l e R s m args below meth c n0 T h cells slots) (hx : p.tables.exec = Jvm.exec) {k : Nat} {v : Int64} (hd : decode c.code pc = .ok (.lload k, 2)) (hp : pc + 2 = pc') (hl : Ls[k]? = some (.val (.long v))) (G : GoK p e below D T (mkF m pc' Ls (.long v :: St))) : GoK p e below D T (mkF m pc Ls St) := by
  subst hp
  exact GoK.by (fun t k => XS.lload X.at hx rfl hd hl k) G
theorem go_aload (X : OnK p l e R s m args below meth c n0 T h cells slots) (hx : p.tables.exec = Jvm.exec) {k : Nat} {v : Addr} (hd : decode c.code pc = .ok (.aload k, 2)) (hp : pc + 2 = pc') (hl : Ls[k]? = some (.val (.ref v))) (G : GoK p e below D T (mkF m pc' Ls (.ref v :: St))) : GoK p e below D T (mkF m pc Ls St) := by
  subst hp
  exact GoK.by (fun t k => XS.aload X.at hx rfl hd hl rfl k) G
theorem go_istore (X : OnK p l e R s m args below meth c n0 T h cells slots) (hx : p.tables.exec = Jvm.exec) {k : Nat} {v : Int32} {L' : Array Slot} (hd : decode c.code pc = .ok (.istore k, 2)) (hp : pc + 2 = pc') (hl : storeLocals Ls k (.int v) = some L') (G : GoK p e below D T (mkF m pc' L' St)) : GoK p e below D T (mkF m pc Ls (.int v :: St)) := by
  subst hp
  exact GoK.by (fun t k => XS.istore X.at hx rfl hd rfl hl k) G
theorem go_lstore (X : OnK p l e R s m args below meth c n0 T h cells slots) (hx : p.tables.exec = Jvm.exec) {k : Nat} {v : Int64} {L' : Array Slot} (hd : decode c.code pc = .ok (.lstore k, 2)) (hp : pc + 2 = pc') (hl : storeLocals Ls k (.long v) = some L') (G : GoK p e below D T (mkF m pc' L' St)) : GoK p e below D T (mkF m pc Ls (.long v :: St)) := by
  subst hp
  exact GoK.by (fun t k => XS.lstore X.at hx rfl hd rfl hl k) G
theorem go_astore (X : OnK p l e R s m args below meth c n0 T h cells slots) (hx : p.tables.exec = Jvm.exec) {k : Nat} {v : Addr} {L' : Array Slot} (hd : decode c.code pc = .ok (.astore k, 2)) (hp : pc + 2 = pc') (hl : storeLocals Ls k (.ref v) = some L') (G : GoK p e below D T (mkF m pc' L' St)) : GoK p e below D T (mkF m pc Ls (.ref v :: St)) := by
  subst hp
  exact GoK.by (fun t k => XS.astore X.at hx rfl hd rfl rfl hl k) G
theorem go_iloadN (X : OnK p l e R s m args below meth c n0 T h cells slots) (hx : p.tables.exec = Jvm.exec) {k : Fin 4} {v : Int32} (hd : decode c.code pc = .ok (.iload_n k, 1)) (hp : pc + 1 = pc') (hl : Ls[k.val]? = some (.val (.int v))) (G : GoK p e below D T (mkF m pc' Ls (.int v :: St))) : GoK p e below D T (mkF m pc Ls St) := by
  subst hp
  exact GoK.by (fun t k => XS.iloadN X.at hx rfl hd hl k) G
theorem go_lloadN (X : OnK p l e R s m args below meth c n0 T h cells slots) (hx : p.tables.exec = Jvm.exec) {k : Fin 4} {v : Int64} (hd : decode c.code pc = .ok (.lload_n k, 1)) (hp : pc + 1 = pc') (hl : Ls[k.val]? = some (.val (.long v))) (G : GoK p e below D T (mkF m pc' Ls (.long v :: St))) : GoK p e below D T (mkF m pc Ls St) := by
  subst hp
  exact GoK.by (fun t k => XS.lloadN X.at hx rfl hd hl k) G
theorem go_aloadN (X : OnK p l e R s m args below meth c n0 T h cells slots) (hx : p.tables.exec = Jvm.exec) {k : Fin 4} {v : Addr} (hd : decode c.code pc = .ok (.aload_n k, 1)) (hp : pc + 1 = pc') (hl : Ls[k.val]? = some (.val (.ref v))) (G : GoK p e below D T (mkF m pc' Ls (.ref v :: St))) : GoK p e below D T (mkF m pc Ls St) := by
  subst hp
  exact GoK.by (fun t k => XS.aloadN X.at hx rfl hd hl rfl k) G
theorem go_istoreN (X : OnK p l e R s m args below meth c n0 T h cells slots) (hx : p.tables.exec = Jvm.exec) {k : Fin 4} {v : Int32} {L' : Array Slot} (hd : decode c.code pc = .ok (.istore_n k, 1)) (hp : pc + 1 = pc') (hl : storeLocals Ls k.val (.int v) = some L') (G : GoK p e below D T (mkF m pc' L' St)) : GoK p e below D T (mkF m pc Ls (.int v :: St)) := by
  subst hp
  exact GoK.by (fun t k => XS.istoreN X.at hx rfl hd rfl hl k) G
theorem go_lstoreN (X : OnK p l e R s m args below meth c n0 T h cells slots) (hx : p.tables.exec = Jvm.exec) {k : Fin 4} {v : Int64} {L' : Array Slot} (hd : decode c.code pc = .ok (.lstore_n k, 1)) (hp : pc + 1 = pc') (hl : storeLocals Ls k.val (.long v) = some L') (G : GoK p e below D T (mkF m pc' L' St)) : GoK p e below D T (mkF m pc Ls (.long v :: St)) := by
  subst hp
  exact GoK.by (fun t k => XS.lstoreN X.at hx rfl hd rfl hl k) G
theorem go_astoreN (X : OnK p l e R s m args below meth c n0 T h cells slots) (hx : p.tables.exec = Jvm.exec) {k : Fin 4} {v : Addr} {L' : Array Slot} (hd : decode c.code pc = .ok (.astore_n k, 1)) (hp : pc + 1 = pc') (hl : storeLocals Ls k.val (.ref v) = some L') (G : GoK p e below D T (mkF m pc' L' St)) : GoK p e below D T (mkF m pc Ls (.ref v :: St)) := by
  subst hp
  exact GoK.by (fun t k => XS.astoreN X.at hx rfl hd rfl rfl hl k) G
theorem go_iinc (X : OnK p l e R s m args below meth c n0 T h cells slots) (hx : p.tables.exec = Jvm.exec) {k : Nat} {i : Int} {v w : Int32} {L' : Array Slot} (hd : decode c.code pc = .ok (.iinc k i, 3)) (hp : pc + 3 = pc') (hl : Ls[k]? = some (.val (.int v))) (hi : v + Int32.ofInt i = w) (hs : storeLocals Ls k (.int w) = some L') (G : GoK p e below D T (mkF m pc' L' St)) : GoK p e below D T (mkF m pc Ls St) := by
  subst hp
  exact GoK.by (fun t k => XS.iinc X.at hx rfl hd hl (hi.symm ▸ hs) k) G
theorem go_iconst (X : OnK p l e R s m args below meth c n0 T h cells slots) (hx : p.tables.exec = Jvm.exec) {i : Int} {v : Int32} (hd : decode c.code pc = .ok (.iconst i, 1)) (hp : pc + 1 = pc') (hv : Int32.ofInt i = v) (G : GoK p e below D T (mkF m pc' Ls (.int v :: St))) : GoK p e below D T (mkF m pc Ls St) := by
  subst hp
  exact GoK.by (fun t k => Jvm.Free.XT.iconstV X.at hx rfl v hd hv k) G
theorem go_bipush (X : OnK p l e R s m args below meth c n0 T h cells slots) (hx : p.tables.exec = Jvm.exec) {i : Int} {v : Int32} (hd : decode c.code pc = .ok (.bipush i, 2)) (hp : pc + 2 = pc') (hv : (Int8.ofInt i).toInt32 = v) (G : GoK p e below D T (mkF m pc' Ls (.int v :: St))) : GoK p e below D T (mkF m pc Ls St) := by
  subst hp
  exact GoK.by (fun t k => Jvm.Free.XT.bipushV X.at hx rfl v hd hv k) G
theorem go_sipush (X : OnK p l e R s m args below meth c n0 T h cells slots) (hx : p.tables.exec = Jvm.exec) {i : Int} {v : Int32} (hd : decode c.code pc = .ok (.sipush i, 3)) (hp : pc + 3 = pc') (hv : (Int16.ofInt i).toInt32 = v) (G : GoK p e below D T (mkF m pc' Ls (.int v :: St))) : GoK p e below D T (mkF m pc Ls St) := by
  subst hp
  exact GoK.by (fun t k => Jvm.Free.XT.sipushV X.at hx rfl v hd hv k) G
theorem go_lconst (X : OnK p l e R s m args below meth c n0 T h cells slots) (hx : p.tables.exec = Jvm.exec) {i : Fin 2} {v : Int64} (hd : decode c.code pc = .ok (.lconst i, 1)) (hp : pc + 1 = pc') (hv : Int64.ofNat i = v) (G : GoK p e below D T (mkF m pc' Ls (.long v :: St))) : GoK p e below D T (mkF m pc Ls St) := by
  subst hp
  exact GoK.by (fun t k => Jvm.Free.XT.lconstV X.at hx rfl v hd hv k) G
theorem go_goto (X : OnK p l e R s m args below meth c n0 T h cells slots) (hx : p.tables.exec = Jvm.exec) {o : Int} (hd : decode c.code pc = .ok (.goto o, 3)) (ho : 0 ≤ (pc : Int) + o) (hp : ((pc : Int) + o).toNat = pc') (G : GoK p e below D T (mkF m pc' Ls St)) : GoK p e below D T (mkF m pc Ls St) :=
  GoK.by (fun t k => XS.goto X.at hx rfl rfl hd ho hp k) G
theorem go_dup2 (X : OnK p l e R s m args below meth c n0 T h cells slots) (hx : p.tables.exec = Jvm.exec) {j : Int32} {a : Addr} (hd : decode c.code pc = .ok (.dup2, 1)) (hp : pc + 1 = pc') (G : GoK p e below D T (mkF m pc' Ls (.int j :: .ref a :: .int j :: .ref a :: St))) : GoK p e below D T (mkF m pc Ls (.int j :: .ref a :: St)) := by
  subst hp
  refine GoK.by (fun t k => ?_) G
  jvm_step X.at [X.at.top, hx, hd, Value.category]
  exact k
theorem go_ldcI (X : OnK p l e R s m args below meth c n0 T h cells slots) (hx : p.tables.exec = Jvm.exec) (hZ : Z.Warmed39 s.vm) {own : String} {i : Nat} {v : Int32} (hown : s.vm.findClass own = some m.cls) (wd : (Jvm.Cond.constant own i v).before a0 Z = true) (hd : decode c.code pc = .ok (.ldc i, 2)) (hp : pc + 2 = pc') (G : GoK p e below D T (mkF m pc' Ls (.int v :: St))) : GoK p e below D T (mkF m pc Ls St) := by
  subst hp
  obtain ⟨_, Y, -, -⟩ := X
  exact GoK.by (fun t k => Y.ldcInt hx hown (mvT hZ wd) (g := mkF m pc Ls St) rfl hd t k) G
theorem go_ldcwI (X : OnK p l e R s m args below meth c n0 T h cells slots) (hx : p.tables.exec = Jvm.exec) (hZ : Z.Warmed39 s.vm) {own : String} {i : Nat} {v : Int32} (hown : s.vm.findClass own = some m.cls) (wd : (Jvm.Cond.constant own i v).before a0 Z = true) (hd : decode c.code pc = .ok (.ldc_w i, 3)) (hp : pc + 3 = pc') (G : GoK p e below D T (mkF m pc' Ls (.int v :: St))) : GoK p e below D T (mkF m pc Ls St) := by
  subst hp
  obtain ⟨_, Y, -, -⟩ := X
  exact GoK.by (fun t k => Y.ldcwInt hx hown (mvT hZ wd) (g := mkF m pc Ls St) rfl hd t k) G
theorem go_ldc2 (X : OnK p l e R s m args below meth c n0 T h cells slots) (hx : p.tables.exec = Jvm.exec) (hZ : Z.Warmed39 s.vm) {own : String} {i : Nat} {v : Int64} (hown : s.vm.findClass own = some m.cls) (wd : (Jvm.Cond.constantLong own i v).before a0 Z = true) (hd : decode c.code pc = .ok (.ldc2_w i, 3)) (hp : pc + 3 = pc') (G : GoK p e below D T (mkF m pc' Ls (.long v :: St))) : GoK p e below D T (mkF m pc Ls St) := by
  subst hp
  obtain ⟨_, Y, -, -⟩ := X
  exact GoK.by (fun t k => Y.ldc2Long hx hown (mvT hZ wd) (g := mkF m pc Ls St) rfl hd t k) G
theorem go_ifeq (X : OnK p l e R s m args below meth c n0 T h cells slots) (hx : p.tables.exec = Jvm.exec) {x : Int32} {o : Int} {pcT : Nat} (hd : decode c.code pc = .ok (.ifCond .eq o, 3)) (hp : pc + 3 = pc') (ho : 0 ≤ (pc : Int) + o) (ht : ((pc : Int) + o).toNat = pcT) (G1 : x = 0 → GoK p e below D T (mkF m pcT Ls St)) (G2 : ¬ x = 0 → GoK p e below D T (mkF m pc' Ls St)) : GoK p e below D T (mkF m pc Ls (.int x :: St)) := by
  subst hp
  by_cases q : x = 0
  · exact GoK.by (fun t k => XS.ifYes X.at hx rfl rfl hd rfl ((if0 _ _).trans (teq q).1) ho ht k) (G1 q)
  · exact GoK.by (fun t k => XS.ifNo X.at hx rfl hd rfl ((if0 _ _).trans (feq q).1) k) (G2 q)
theorem go_icmpeq (X : OnK p l e R s m args below meth c n0 T h cells slots) (hx : p.tables.exec = Jvm.exec) {x y : Int32} {o : Int} {pcT : Nat} (hd : decode c.code pc = .ok (.if_icmp .eq o, 3)) (hp : pc + 3 = pc') (ho : 0 ≤ (pc : Int) + o) (ht : ((pc : Int) + o).toNat = pcT) (G1 : x = y → GoK p e below D T (mkF m pcT Ls St)) (G2 : ¬ x = y → GoK p e below D T (mkF m pc' Ls St)) : GoK p e below D T (mkF m pc Ls (.int y :: .int x :: St)) := by
  subst hp
  by_cases q : x = y
  · exact GoK.by (fun t k => XS.icmpYes X.at hx rfl rfl hd rfl (teq q).1 ho ht k) (G1 q)
  · exact GoK.by (fun t k => XS.icmpNo X.at hx rfl hd rfl (feq q).1 k) (G2 q)
theorem go_lifeq (X : OnK p l e R s m args below meth c n0 T h cells slots) (hx : p.tables.exec = Jvm.exec) {x y : Int64} {o : Int} {pc1 pcT : Nat} (hd1 : decode c.code pc = .ok (.lcmp, 1)) (hp1 : pc + 1 = pc1) (hd : decode c.code pc1 = .ok (.ifCond .eq o, 3)) (hp : pc1 + 3 = pc') (ho : 0 ≤ (pc1 : Int) + o) (ht : ((pc1 : Int) + o).toNat = pcT) (G1 : x = y → GoK p e below D T (mkF m pcT Ls St)) (G2 : ¬ x = y → GoK p e below D T (mkF m pc' Ls St)) : GoK p e below D T (mkF m pc Ls (.long y :: .long x :: St)) := by
  subst hp1
  refine GoK.by (fun t k => XS.lcmp X.at hx rfl hd1 rfl k) ?_
  exact go_ifeq X hx hd hp ho ht (fun q => G1 ((lw_eq x y).mp q)) (fun q => G2 ((not_congr (lw_eq x y)).mp q))
theorem go_ifne (X : OnK p l e R s m args below meth c n0 T h cells slots) (hx : p.tables.exec = Jvm.exec) {x : Int32} {o : Int} {pcT : Nat} (hd : decode c.code pc = .ok (.ifCond .ne o, 3)) (hp : pc + 3 = pc') (ho : 0 ≤ (pc : Int) + o) (ht : ((pc : Int) + o).toNat = pcT) (G1 : ¬ x = 0 → GoK p e below D T (mkF m pcT Ls St)) (G2 : x = 0 → GoK p e below D T (mkF m pc' Ls St)) : GoK p e below D T (mkF m pc Ls (.int x :: St)) := by
  subst hp
  by_cases q : ¬ x = 0
  · exact GoK.by (fun t k => XS.ifYes X.at hx rfl rfl hd rfl ((if0 _ _).trans (feq q).2) ho ht k) (G1 q)
  · exact GoK.by (fun t k => XS.ifNo X.at hx rfl hd rfl ((if0 _ _).trans (teq (Classical.not_not.mp q)).2) k) (G2 (Classical.not_not.mp q))
theorem go_icmpne (X : OnK p l e R s m args below meth c n0 T h cells slots) (hx : p.tables.exec = Jvm.exec) {x y : Int32} {o : Int} {pcT : Nat} (hd : decode c.code pc = .ok (.if_icmp .ne o, 3)) (hp : pc + 3 = pc') (ho : 0 ≤ (pc : Int) + o) (ht : ((pc : Int) + o).toNat = pcT) (G1 : ¬ x = y → GoK p e below D T (mkF m pcT Ls St)) (G2 : x = y → GoK p e below D T (mkF m pc' Ls St)) : GoK p e below D T (mkF m pc Ls (.int y :: .int x :: St)) := by
  subst hp
  by_cases q : ¬ x = y
  · exact GoK.by (fun t k => XS.icmpYes X.at hx rfl rfl hd rfl (feq q).2 ho ht k) (G1 q)
  · exact GoK.by (fun t k => XS.icmpNo X.at hx rfl hd rfl (teq (Classical.not_not.mp q)).2 k) (G2 (Classical.not_not.mp q))
theorem go_lifne (X : OnK p l e R s m args below meth c n0 T h cells slots) (hx : p.tables.exec = Jvm.exec) {x y : Int64} {o : Int} {pc1 pcT : Nat} (hd1 : decode c.code pc = .ok (.lcmp, 1)) (hp1 : pc + 1 = pc1) (hd : decode c.code pc1 = .ok (.ifCond .ne o, 3)) (hp : pc1 + 3 = pc') (ho : 0 ≤ (pc1 : Int) + o) (ht : ((pc1 : Int) + o).toNat = pcT) (G1 : ¬ x = y → GoK p e below D T (mkF m pcT Ls St)) (G2 : x = y → GoK p e below D T (mkF m pc' Ls St)) : GoK p e below D T (mkF m pc Ls (.long y :: .long x :: St)) := by
  subst hp1
  refine GoK.by (fun t k => XS.lcmp X.at hx rfl hd1 rfl k) ?_
  exact go_ifne X hx hd hp ho ht (fun q => G1 ((not_congr (lw_eq x y)).mp q)) (fun q => G2 ((lw_eq x y).mp q))
theorem go_iflt (X : OnK p l e R s m args below meth c n0 T h cells slots) (hx : p.tables.exec = Jvm.exec) {x : Int32} {o : Int} {pcT : Nat} (hd : decode c.code pc = .ok (.ifCond .lt o, 3)) (hp : pc + 3 = pc') (ho : 0 ≤ (pc : Int) + o) (ht : ((pc : Int) + o).toNat = pcT) (G1 : x < 0 → GoK p e below D T (mkF m pcT Ls St)) (G2 : ¬ x < 0 → GoK p e below D T (mkF m pc' Ls St)) : GoK p e below D T (mkF m pc Ls (.int x :: St)) := by
  subst hp
  by_cases q : x < 0
  · exact GoK.by (fun t k => XS.ifYes X.at hx rfl rfl hd rfl ((if0 _ _).trans (tlt q).1) ho ht k) (G1 q)
  · exact GoK.by (fun t k => XS.ifNo X.at hx rfl hd rfl ((if0 _ _).trans (flt q).1) k) (G2 q)
theorem go_icmplt (X : OnK p l e R s m args below meth c n0 T h cells slots) (hx : p.tables.exec = Jvm.exec) {x y : Int32} {o : Int} {pcT : Nat} (hd : decode c.code pc = .ok (.if_icmp .lt o, 3)) (hp : pc + 3 = pc') (ho : 0 ≤ (pc : Int) + o) (ht : ((pc : Int) + o).toNat = pcT) (G1 : x < y → GoK p e below D T (mkF m pcT Ls St)) (G2 : ¬ x < y → GoK p e below D T (mkF m pc' Ls St)) : GoK p e below D T (mkF m pc Ls (.int y :: .int x :: St)) := by
  subst hp
  by_cases q : x < y
  · exact GoK.by (fun t k => XS.icmpYes X.at hx rfl rfl hd rfl (tlt q).1 ho ht k) (G1 q)
  · exact GoK.by (fun t k => XS.icmpNo X.at hx rfl hd rfl (flt q).1 k) (G2 q)
theorem go_liflt (X : OnK p l e R s m args below meth c n0 T h cells slots) (hx : p.tables.exec = Jvm.exec) {x y : Int64} {o : Int} {pc1 pcT : Nat} (hd1 : decode c.code pc = .ok (.lcmp, 1)) (hp1 : pc + 1 = pc1) (hd : decode c.code pc1 = .ok (.ifCond .lt o, 3)) (hp : pc1 + 3 = pc') (ho : 0 ≤ (pc1 : Int) + o) (ht : ((pc1 : Int) + o).toNat = pcT) (G1 : x < y → GoK p e below D T (mkF m pcT Ls St)) (G2 : ¬ x < y → GoK p e below D T (mkF m pc' Ls St)) : GoK p e below D T (mkF m pc Ls (.long y :: .long x :: St)) := by
  subst hp1
  refine GoK.by (fun t k => XS.lcmp X.at hx rfl hd1 rfl k) ?_
  exact go_iflt X hx hd hp ho ht (fun q => G1 ((lw_lt x y).mp q)) (fun q => G2 ((not_congr (lw_lt x y)).mp q))
theorem go_ifge (X : OnK p l e R s m args below meth c n0 T h cells slots) (hx : p.tables.exec = Jvm.exec) {x : Int32} {o : Int} {pcT : Nat} (hd : decode c.code pc = .ok (.ifCond .ge o, 3)) (hp : pc + 3 = pc') (ho : 0 ≤ (pc : Int) + o) (ht : ((pc : Int) + o).toNat = pcT) (G1 : ¬ x < 0 → GoK p e below D T (mkF m pcT Ls St)) (G2 : x < 0 → GoK p e below D T (mkF m pc' Ls St)) : GoK p e below D T (mkF m pc Ls (.int x :: St)) := by
  subst hp
  by_cases q : ¬ x < 0
  · exact GoK.by (fun t k => XS.ifYes X.at hx rfl rfl hd rfl ((if0 _ _).trans (flt q).2.1) ho ht k) (G1 q)
  · exact GoK.by (fun t k => XS.ifNo X.at hx rfl hd rfl ((if0 _ _).trans (tlt (Classical.not_not.mp q)).2.1) k) (G2 (Classical.not_not.mp q))
theorem go_icmpge (X : OnK p l e R s m args below meth c n0 T h cells slots) (hx : p.tables.exec = Jvm.exec) {x y : Int32} {o : Int} {pcT : Nat} (hd : decode c.code pc = .ok (.if_icmp .ge o, 3)) (hp : pc + 3 = pc') (ho : 0 ≤ (pc : Int) + o) (ht : ((pc : Int) + o).toNat = pcT) (G1 : ¬ x < y → GoK p e below D T (mkF m pcT Ls St)) (G2 : x < y → GoK p e below D T (mkF m pc' Ls St)) : GoK p e below D T (mkF m pc Ls (.int y :: .int x :: St)) := by
  subst hp
  by_cases q : ¬ x < y
  · exact GoK.by (fun t k => XS.icmpYes X.at hx rfl rfl hd rfl (flt q).2.1 ho ht k) (G1 q)
  · exact GoK.by (fun t k => XS.icmpNo X.at hx rfl hd rfl (tlt (Classical.not_not.mp q)).2.1 k) (G2 (Classical.not_not.mp q))
theorem go_lifge (X : OnK p l e R s m args below meth c n0 T h cells slots) (hx : p.tables.exec = Jvm.exec) {x y : Int64} {o : Int} {pc1 pcT : Nat} (hd1 : decode c.code pc = .ok (.lcmp, 1)) (hp1 : pc + 1 = pc1) (hd : decode c.code pc1 = .ok (.ifCond .ge o, 3)) (hp : pc1 + 3 = pc') (ho : 0 ≤ (pc1 : Int) + o) (ht : ((pc1 : Int) + o).toNat = pcT) (G1 : ¬ x < y → GoK p e below D T (mkF m pcT Ls St)) (G2 : x < y → GoK p e below D T (mkF m pc' Ls St)) : GoK p e below D T (mkF m pc Ls (.long y :: .long x :: St)) := by
  subst hp1
  refine GoK.by (fun t k => XS.lcmp X.at hx rfl hd1 rfl k) ?_
  exact go_ifge X hx hd hp ho ht (fun q => G1 ((not_congr (lw_lt x y)).mp q)) (fun q => G2 ((lw_lt x y).mp q))
theorem go_ifgt (X : OnK p l e R s m args below meth c n0 T h cells slots) (hx : p.tables.exec = Jvm.exec) {x : Int32} {o : Int} {pcT : Nat} (hd : decode c.code pc = .ok (.ifCond .gt o, 3)) (hp : pc + 3 = pc') (ho : 0 ≤ (pc : Int) + o) (ht : ((pc : Int) + o).toNat = pcT) (G1 : 0 < x → GoK p e below D T (mkF m pcT Ls St)) (G2 : ¬ 0 < x → GoK p e below D T (mkF m pc' Ls St)) : GoK p e below D T (mkF m pc Ls (.int x :: St)) := by
  subst hp
  by_cases q : 0 < x
  · exact GoK.by (fun t k => XS.ifYes X.at hx rfl rfl hd rfl ((if0 _ _).trans (tlt q).2.2.1) ho ht k) (G1 q)
  · exact GoK.by (fun t k => XS.ifNo X.at hx rfl hd rfl ((if0 _ _).trans (flt q).2.2.1) k) (G2 q)
theorem go_icmpgt (X : OnK p l e R s m args below meth c n0 T h cells slots) (hx : p.tables.exec = Jvm.exec) {x y : Int32} {o : Int} {pcT : Nat} (hd : decode c.code pc = .ok (.if_icmp .gt o, 3)) (hp : pc + 3 = pc') (ho : 0 ≤ (pc : Int) + o) (ht : ((pc : Int) + o).toNat = pcT) (G1 : y < x → GoK p e below D T (mkF m pcT Ls St)) (G2 : ¬ y < x → GoK p e below D T (mkF m pc' Ls St)) : GoK p e below D T (mkF m pc Ls (.int y :: .int x :: St)) := by
  subst hp
  by_cases q : y < x
  · exact GoK.by (fun t k => XS.icmpYes X.at hx rfl rfl hd rfl (tlt q).2.2.1 ho ht k) (G1 q)
  · exact GoK.by (fun t k => XS.icmpNo X.at hx rfl hd rfl (flt q).2.2.1 k) (G2 q)
theorem go_lifgt (X : OnK p l e R s m args below meth c n0 T h cells slots) (hx : p.tables.exec = Jvm.exec) {x y : Int64} {o : Int} {pc1 pcT : Nat} (hd1 : decode c.code pc = .ok (.lcmp, 1)) (hp1 : pc + 1 = pc1) (hd : decode c.code pc1 = .ok (.ifCond .gt o, 3)) (hp : pc1 + 3 = pc') (ho : 0 ≤ (pc1 : Int) + o) (ht : ((pc1 : Int) + o).toNat = pcT) (G1 : y < x → GoK p e below D T (mkF m pcT Ls St)) (G2 : ¬ y < x → GoK p e below D T (mkF m pc' Ls St)) : GoK p e below D T (mkF m pc Ls (.long y :: .long x :: St)) := by
  subst hp1
  refine GoK.by (fun t k => XS.lcmp X.at hx rfl hd1 rfl k) ?_
  exact go_ifgt X hx hd hp ho ht (fun q => G1 ((lw_gt x y).mp q)) (fun q => G2 ((not_congr (lw_gt x y)).mp q))
theorem go_ifle (X : OnK p l e R s m args below meth c n0 T h cells slots) (hx : p.tables.exec = Jvm.exec) {x : Int32} {o : Int} {pcT : Nat} (hd : decode c.code pc = .ok (.ifCond .le o, 3)) (hp : pc + 3 = pc') (ho : 0 ≤ (pc : Int) + o) (ht : ((pc : Int) + o).toNat = pcT) (G1 : ¬ 0 < x → GoK p e below D T (mkF m pcT Ls St)) (G2 : 0 < x → GoK p e below D T (mkF m pc' Ls St)) : GoK p e below D T (mkF m pc Ls (.int x :: St)) := by
  subst hp
  by_cases q : ¬ 0 < x
  · exact GoK.by (fun t k => XS.ifYes X.at hx rfl rfl hd rfl ((if0 _ _).trans (flt q).2.2.2) ho ht k) (G1 q)
  · exact GoK.by (fun t k => XS.ifNo X.at hx rfl hd rfl ((if0 _ _).trans (tlt (Classical.not_not.mp q)).2.2.2) k) (G2 (Classical.not_not.mp q))
theorem go_icmple (X : OnK p l e R s m args below meth c n0 T h cells slots) (hx : p.tables.exec = Jvm.exec) {x y : Int32} {o : Int} {pcT : Nat} (hd : decode c.code pc = .ok (.if_icmp .le o, 3)) (hp : pc + 3 = pc') (ho : 0 ≤ (pc : Int) + o) (ht : ((pc : Int) + o).toNat = pcT) (G1 : ¬ y < x → GoK p e below D T (mkF m pcT Ls St)) (G2 : y < x → GoK p e below D T (mkF m pc' Ls St)) : GoK p e below D T (mkF m pc Ls (.int y :: .int x :: St)) := by
  subst hp
  by_cases q : ¬ y < x
  · exact GoK.by (fun t k => XS.icmpYes X.at hx rfl rfl hd rfl (flt q).2.2.2 ho ht k) (G1 q)
  · exact GoK.by (fun t k => XS.icmpNo X.at hx rfl hd rfl (tlt (Classical.not_not.mp q)).2.2.2 k) (G2 (Classical.not_not.mp q))
theorem go_lifle (X : OnK p l e R s m args below meth c n0 T h cells slots) (hx : p.tables.exec = Jvm.exec) {x y : Int64} {o : Int} {pc1 pcT : Nat} (hd1 : decode c.code pc = .ok (.lcmp, 1)) (hp1 : pc + 1 = pc1) (hd : decode c.code pc1 = .ok (.ifCond .le o, 3)) (hp : pc1 + 3 = pc') (ho : 0 ≤ (pc1 : Int) + o) (ht : ((pc1 : Int) + o).toNat = pcT) (G1 : ¬ y < x → GoK p e below D T (mkF m pcT Ls St)) (G2 : y < x → GoK p e below D T (mkF m pc' Ls St)) : GoK p e below D T (mkF m pc Ls (.long y :: .long x :: St)) := by
  subst hp1
  refine GoK.by (fun t k => XS.lcmp X.at hx rfl hd1 rfl k) ?_
  exact go_ifle X hx hd hp ho ht (fun q => G1 ((not_congr (lw_gt x y)).mp q)) (fun q => G2 ((lw_gt x y).mp q))
/-- the array at a: of n places, place i holds the int f i -/
def AIK (Z : State) (h : Heap) (a : Addr) (ty : FieldType) (n : Int) (f : Int → Int32) : Prop := ∃ c : Cell, Arr Z h a c ty ∧ (c.slots.size : Int) = n ∧ n < 2147483648 ∧ ∀ i : Nat, (i : Int) < n → c.slots[i]? = some (.int (f i))
def AJK (Z : State) (h : Heap) (a : Addr) (n : Int) (f : Int → Int64) : Prop := ∃ c : Cell, Arr Z h a c .long ∧ (c.slots.size : Int) = n ∧ n < 2147483648 ∧ ∀ i : Nat, (i : Int) < n → c.slots[i]? = some (.long (f i))
theorem AIK.lt {a : Addr} {ty : FieldType} {n : Int} {f : Int → Int32} (F : AIK Z h a ty n f) : a < h.size := by obtain ⟨c, A, -⟩ := F; exact A.lt
theorem AIK.nn {a : Addr} {ty : FieldType} {n : Int} {f : Int → Int32} (F : AIK Z h a ty n f) : 0 ≤ n ∧ n < 2147483648 := by obtain ⟨c, -, S, q, -⟩ := F; exact ⟨by omega, q⟩
theorem AIK.ext {h' : Heap} {a : Addr} {ty : FieldType} {n : Int} {f : Int → Int32} (F : AIK Z h a ty n f) (E : Ext h h') : AIK Z h' a ty n f := by obtain ⟨c, A, r⟩ := F; exact ⟨c, A.ext E, r⟩
theorem AIK.other {h' : Heap} {a b : Addr} {sl : Nat} {v : Value} {ty : FieldType} {n : Int} {f : Int → Int32} (F : AIK Z h b ty n f) (W : Wr h h' a sl v) (q : b ≠ a) : AIK Z h' b ty n f := by obtain ⟨c, A, r⟩ := F; exact ⟨c, A.other W q, r⟩
theorem AIK.keep {h' : Heap} {a : Addr} {ws : List Addr} {ty : FieldType} {n : Int} {f : Int → Int32} (F : AIK Z h a ty n f) (K : Keep h h' ws) (q : a ∉ ws) : AIK Z h' a ty n f := by obtain ⟨c, A, r⟩ := F; exact ⟨c, ⟨K.2.1 a c A.1 q, A.2⟩, r⟩
theorem AIK.of_arv {a : Addr} {k : ClassId} {ty : FieldType} {z : Int32} {n : Int} {x : Int32} (F : Arv Z h a k ty z [] (.int x)) (q : z.toInt = n) : AIK Z h a ty n (fun _ => x) := by
  obtain ⟨c, A, -, S, M, H, -⟩ := F
  rw [Int32.lt_iff_toInt_lt] at M
  have hz : (0 : Int32).toInt = 0 := rfl
  have hr := rng32 z
  have S' : c.slots.size = z.toInt.toNat := S
  refine ⟨c, A, by omega, by omega, fun i hi => ?_⟩
  exact (H i (by omega)).trans rfl
theorem AIK.set {h' : Heap} {a : Addr} {j : Int32} {ty : FieldType} {n : Int} {f : Int → Int32} {x : Int32} (F : AIK Z h a ty n f) (W : Wr h h' a j.toNatClampNeg (.int x)) (h1 : 0 ≤ j.toInt) (h2 : j.toInt < n) : AIK Z h' a ty n (fun i => if i = j.toInt then x else f i) := by
  obtain ⟨c, A, S, M, H⟩ := F
  have hj : j.toNatClampNeg = j.toInt.toNat := rfl
  refine ⟨_, A.same W, ?_, M, fun i hi => ?_⟩
  · show (((c.slots.setIfInBounds j.toNatClampNeg (Value.int x)).size : Nat) : Int) = n
    rw [Array.size_setIfInBounds]; exact S
  · show (c.slots.setIfInBounds j.toNatClampNeg (Value.int x))[i]? = _
    rw [Array.getElem?_setIfInBounds]
    by_cases q : j.toNatClampNeg = i
    · have hi' : (i : Int) = j.toInt := by omega
      rw [if_pos q, if_pos (by omega)]
      show some (Value.int x) = some (Value.int (if (i : Int) = j.toInt then x else f i))
      rw [if_pos hi']
    · have hi' : ¬ (i : Int) = j.toInt := by omega
      rw [if_neg q]
      show _ = some (Value.int (if (i : Int) = j.toInt then x else f i))
      rw [if_neg hi']; exact H i hi
theorem AIK.get {a : Addr} {j : Int32} {ty : FieldType} {n : Int} {f : Int → Int32} (F : AIK Z h a ty n f) (h1 : 0 ≤ j.toInt) (h2 : j.toInt < n) : ∃ c : Cell, Arr Z h a c ty ∧ ¬ (j < 0 ∨ c.slots.size ≤ j.toNatClampNeg) ∧ c.slots[j.toNatClampNeg]? = some (.int (f j.toInt)) := by
  obtain ⟨c, A, S, M, H⟩ := F
  have hj : j.toNatClampNeg = j.toInt.toNat := rfl
  refine ⟨c, A, ?_, ?_⟩
  · rw [Int32.lt_iff_toInt_lt]
    have hz : (0 : Int32).toInt = 0 := rfl
    omega
  · rw [hj, H j.toInt.toNat (by omega), Int.toNat_of_nonneg h1]
theorem AIK.congr {a : Addr} {ty : FieldType} {n : Int} {f g : Int → Int32} (F : AIK Z h a ty n f) (q : ∀ i : Int, 0 ≤ i → i < n → f i = g i) : AIK Z h a ty n g := by
  obtain ⟨c, A, S, M, H⟩ := F
  exact ⟨c, A, S, M, fun i hi => by rw [H i hi, q i (by omega) hi]⟩
theorem AJK.lt {a : Addr} {n : Int} {f : Int → Int64} (F : AJK Z h a n f) : a < h.size := by obtain ⟨c, A, -⟩ := F; exact A.lt
theorem AJK.nn {a : Addr} {n : Int} {f : Int → Int64} (F : AJK Z h a n f) : 0 ≤ n ∧ n < 2147483648 := by obtain ⟨c, -, S, q, -⟩ := F; exact ⟨by omega, q⟩
theorem AJK.ext {h' : Heap} {a : Addr} {n : Int} {f : Int → Int64} (F : AJK Z h a n f) (E : Ext h h') : AJK Z h' a n f := by obtain ⟨c, A, r⟩ := F; exact ⟨c, A.ext E, r⟩
theorem AJK.other {h' : Heap} {a b : Addr} {sl : Nat} {v : Value} {n : Int} {f : Int → Int64} (F : AJK Z h b n f) (W : Wr h h' a sl v) (q : b ≠ a) : AJK Z h' b n f := by obtain ⟨c, A, r⟩ := F; exact ⟨c, A.other W q, r⟩
theorem AJK.keep {h' : Heap} {a : Addr} {ws : List Addr} {n : Int} {f : Int → Int64} (F : AJK Z h a n f) (K : Keep h h' ws) (q : a ∉ ws) : AJK Z h' a n f := by obtain ⟨c, A, r⟩ := F; exact ⟨c, ⟨K.2.1 a c A.1 q, A.2⟩, r⟩
theorem AJK.of_arv {a : Addr} {k : ClassId} {z : Int32} {n : Int} {x : Int64} (F : Arv Z h a k .long z [] (.long x)) (q : z.toInt = n) : AJK Z h a n (fun _ => x) := by
  obtain ⟨c, A, -, S, M, H, -⟩ := F
  rw [Int32.lt_iff_toInt_lt] at M
  have hz : (0 : Int32).toInt = 0 := rfl
  have hr := rng32 z
  have S' : c.slots.size = z.toInt.toNat := S
  refine ⟨c, A, by omega, by omega, fun i hi => ?_⟩
  exact (H i (by omega)).trans rfl
theorem AJK.set {h' : Heap} {a : Addr} {j : Int32} {n : Int} {f : Int → Int64} {x : Int64} (F : AJK Z h a n f) (W : Wr h h' a j.toNatClampNeg (.long x)) (h1 : 0 ≤ j.toInt) (h2 : j.toInt < n) : AJK Z h' a n (fun i => if i = j.toInt then x else f i) := by
  obtain ⟨c, A, S, M, H⟩ := F
  have hj : j.toNatClampNeg = j.toInt.toNat := rfl
  refine ⟨_, A.same W, ?_, M, fun i hi => ?_⟩
  · show (((c.slots.setIfInBounds j.toNatClampNeg (Value.long x)).size : Nat) : Int) = n
    rw [Array.size_setIfInBounds]; exact S
  · show (c.slots.setIfInBounds j.toNatClampNeg (Value.long x))[i]? = _
    rw [Array.getElem?_setIfInBounds]
    by_cases q : j.toNatClampNeg = i
    · have hi' : (i : Int) = j.toInt := by omega
      rw [if_pos q, if_pos (by omega)]
      show some (Value.long x) = some (Value.long (if (i : Int) = j.toInt then x else f i))
      rw [if_pos hi']
    · have hi' : ¬ (i : Int) = j.toInt := by omega
      rw [if_neg q]
      show _ = some (Value.long (if (i : Int) = j.toInt then x else f i))
      rw [if_neg hi']; exact H i hi
theorem AJK.get {a : Addr} {j : Int32} {n : Int} {f : Int → Int64} (F : AJK Z h a n f) (h1 : 0 ≤ j.toInt) (h2 : j.toInt < n) : ∃ c : Cell, Arr Z h a c .long ∧ ¬ (j < 0 ∨ c.slots.size ≤ j.toNatClampNeg) ∧ c.slots[j.toNatClampNeg]? = some (.long (f j.toInt)) := by
  obtain ⟨c, A, S, M, H⟩ := F
  have hj : j.toNatClampNeg = j.toInt.toNat := rfl
  refine ⟨c, A, ?_, ?_⟩
  · rw [Int32.lt_iff_toInt_lt]
    have hz : (0 : Int32).toInt = 0 := rfl
    omega
  · rw [hj, H j.toInt.toNat (by omega), Int.toNat_of_nonneg h1]
theorem AJK.congr {a : Addr} {n : Int} {f g : Int → Int64} (F : AJK Z h a n f) (q : ∀ i : Int, 0 ≤ i → i < n → f i = g i) : AJK Z h a n g := by
  obtain ⟨c, A, S, M, H⟩ := F
  exact ⟨c, A, S, M, fun i hi => by rw [H i hi, q i (by omega) hi]⟩
theorem go_newI (X : OnK p l e R s m args below meth c n0 T h cells slots) (hx : p.tables.exec = Jvm.exec) (hZ : Z.Warmed39 s.vm) {x : Int32} {cap : Nat} {n : Int} (wd : (Jvm.Cond.arrayClass .int).before a0 Z = true) (hd : decode c.code pc = .ok (.newarray .int, 2)) (hp : pc + 2 = pc') (hn : x.toInt = n) (h1 : 0 ≤ n) (h2 : n ≤ cap) (hb : cap * 8 ≤ 536870912) (hc : cells + 1 ≤ R.cells) (hs : slots + cap ≤ R.slots) (hc' : cells + 1 = cells') (hs' : slots + cap = slots') (G : ∀ (T' : State) (h' : Heap) (a : Addr), a = h.size → OnK p l e R s m args below meth c n0 T' h' cells' slots' → Ext h h' → AIK Z h' a .int n (fun _ => 0) → GoK p e below D T' (mkF m (pc') Ls (.ref a :: St))) : GoK p e below D T (mkF m pc Ls (.int x :: St)) := by
  subst hp hc' hs'
  obtain ⟨_, Y, e0, N⟩ := X
  have hz : (0 : Int32).toInt = 0 := rfl
  have q : ¬ x < 0 := by rw [Int32.lt_iff_toInt_lt]; omega
  obtain ⟨T', h', k, Y', e', E, A, st⟩ := newP Y hx hZ (aty := .int) wd e0 (g := mkF m pc Ls (.int x :: St)) rfl hd rfl q (cap := cap) (by show x.toInt.toNat ≤ cap; omega) hb hc hs
  refine GoK.by st (G T' h' _ rfl ⟨_, Y', e', N⟩ E ?_)
  exact AIK.of_arv (Arv.new A q) hn
theorem go_newB (X : OnK p l e R s m args below meth c n0 T h cells slots) (hx : p.tables.exec = Jvm.exec) (hZ : Z.Warmed39 s.vm) {x : Int32} {cap : Nat} {n : Int} (wd : (Jvm.Cond.arrayClass .byte).before a0 Z = true) (hd : decode c.code pc = .ok (.newarray .byte, 2)) (hp : pc + 2 = pc') (hn : x.toInt = n) (h1 : 0 ≤ n) (h2 : n ≤ cap) (hb : cap * 8 ≤ 536870912) (hc : cells + 1 ≤ R.cells) (hs : slots + cap ≤ R.slots) (hc' : cells + 1 = cells') (hs' : slots + cap = slots') (G : ∀ (T' : State) (h' : Heap) (a : Addr), a = h.size → OnK p l e R s m args below meth c n0 T' h' cells' slots' → Ext h h' → AIK Z h' a .byte n (fun _ => 0) → GoK p e below D T' (mkF m (pc') Ls (.ref a :: St))) : GoK p e below D T (mkF m pc Ls (.int x :: St)) := by
  subst hp hc' hs'
  obtain ⟨_, Y, e0, N⟩ := X
  have hz : (0 : Int32).toInt = 0 := rfl
  have q : ¬ x < 0 := by rw [Int32.lt_iff_toInt_lt]; omega
  obtain ⟨T', h', k, Y', e', E, A, st⟩ := newP Y hx hZ (aty := .byte) wd e0 (g := mkF m pc Ls (.int x :: St)) rfl hd rfl q (cap := cap) (by show x.toInt.toNat ≤ cap; omega) hb hc hs
  refine GoK.by st (G T' h' _ rfl ⟨_, Y', e', N⟩ E ?_)
  exact AIK.of_arv (Arv.new A q) hn
theorem go_newC (X : OnK p l e R s m args below meth c n0 T h cells slots) (hx : p.tables.exec = Jvm.exec) (hZ : Z.Warmed39 s.vm) {x : Int32} {cap : Nat} {n : Int} (wd : (Jvm.Cond.arrayClass .char).before a0 Z = true) (hd : decode c.code pc = .ok (.newarray .char, 2)) (hp : pc + 2 = pc') (hn : x.toInt = n) (h1 : 0 ≤ n) (h2 : n ≤ cap) (hb : cap * 8 ≤ 536870912) (hc : cells + 1 ≤ R.cells) (hs : slots + cap ≤ R.slots) (hc' : cells + 1 = cells') (hs' : slots + cap = slots') (G : ∀ (T' : State) (h' : Heap) (a : Addr), a = h.size → OnK p l e R s m args below meth c n0 T' h' cells' slots' → Ext h h' → AIK Z h' a .char n (fun _ => 0) → GoK p e below D T' (mkF m (pc') Ls (.ref a :: St))) : GoK p e below D T (mkF m pc Ls (.int x :: St)) := by
  subst hp hc' hs'
  obtain ⟨_, Y, e0, N⟩ := X
  have hz : (0 : Int32).toInt = 0 := rfl
  have q : ¬ x < 0 := by rw [Int32.lt_iff_toInt_lt]; omega
  obtain ⟨T', h', k, Y', e', E, A, st⟩ := newP Y hx hZ (aty := .char) wd e0 (g := mkF m pc Ls (.int x :: St)) rfl hd rfl q (cap := cap) (by show x.toInt.toNat ≤ cap; omega) hb hc hs
  refine GoK.by st (G T' h' _ rfl ⟨_, Y', e', N⟩ E ?_)
  exact AIK.of_arv (Arv.new A q) hn
theorem go_newZ (X : OnK p l e R s m args below meth c n0 T h cells slots) (hx : p.tables.exec = Jvm.exec) (hZ : Z.Warmed39 s.vm) {x : Int32} {cap : Nat} {n : Int} (wd : (Jvm.Cond.arrayClass .boolean).before a0 Z = true) (hd : decode c.code pc = .ok (.newarray .boolean, 2)) (hp : pc + 2 = pc') (hn : x.toInt = n) (h1 : 0 ≤ n) (h2 : n ≤ cap) (hb : cap * 8 ≤ 536870912) (hc : cells + 1 ≤ R.cells) (hs : slots + cap ≤ R.slots) (hc' : cells + 1 = cells') (hs' : slots + cap = slots') (G : ∀ (T' : State) (h' : Heap) (a : Addr), a = h.size → OnK p l e R s m args below meth c n0 T' h' cells' slots' → Ext h h' → AIK Z h' a .boolean n (fun _ => 0) → GoK p e below D T' (mkF m (pc') Ls (.ref a :: St))) : GoK p e below D T (mkF m pc Ls (.int x :: St)) := by
  subst hp hc' hs'
  obtain ⟨_, Y, e0, N⟩ := X
  have hz : (0 : Int32).toInt = 0 := rfl
  have q : ¬ x < 0 := by rw [Int32.lt_iff_toInt_lt]; omega
  obtain ⟨T', h', k, Y', e', E, A, st⟩ := newP Y hx hZ (aty := .boolean) wd e0 (g := mkF m pc Ls (.int x :: St)) rfl hd rfl q (cap := cap) (by show x.toInt.toNat ≤ cap; omega) hb hc hs
  refine GoK.by st (G T' h' _ rfl ⟨_, Y', e', N⟩ E ?_)
  exact AIK.of_arv (Arv.new A q) hn
theorem go_newJ (X : OnK p l e R s m args below meth c n0 T h cells slots) (hx : p.tables.exec = Jvm.exec) (hZ : Z.Warmed39 s.vm) {x : Int32} {cap : Nat} {n : Int} (wd : (Jvm.Cond.arrayClass .long).before a0 Z = true) (hd : decode c.code pc = .ok (.newarray .long, 2)) (hp : pc + 2 = pc') (hn : x.toInt = n) (h1 : 0 ≤ n) (h2 : n ≤ cap) (hb : cap * 8 ≤ 536870912) (hc : cells + 1 ≤ R.cells) (hs : slots + cap ≤ R.slots) (hc' : cells + 1 = cells') (hs' : slots + cap = slots') (G : ∀ (T' : State) (h' : Heap) (a : Addr), a = h.size → OnK p l e R s m args below meth c n0 T' h' cells' slots' → Ext h h' → AJK Z h' a n (fun _ => 0) → GoK p e below D T' (mkF m (pc') Ls (.ref a :: St))) : GoK p e below D T (mkF m pc Ls (.int x :: St)) := by
  subst hp hc' hs'
  obtain ⟨_, Y, e0, N⟩ := X
  have hz : (0 : Int32).toInt = 0 := rfl
  have q : ¬ x < 0 := by rw [Int32.lt_iff_toInt_lt]; omega
  obtain ⟨T', h', k, Y', e', E, A, st⟩ := newP Y hx hZ (aty := .long) wd e0 (g := mkF m pc Ls (.int x :: St)) rfl hd rfl q (cap := cap) (by show x.toInt.toNat ≤ cap; omega) hb hc hs
  refine GoK.by st (G T' h' _ rfl ⟨_, Y', e', N⟩ E ?_)
  exact AJK.of_arv (Arv.new A q) hn
theorem go_iastore (X : OnK p l e R s m args below meth c n0 T h cells slots) (hx : p.tables.exec = Jvm.exec) (hZ : Z.Warmed39 s.vm) {x : Int32} {j : Int32} {a : Addr} {n : Int} {f : Int → Int32} (A : AIK Z h a .int n f) (ga : n0 ≤ a) (h1 : 0 ≤ j.toInt) (h2 : j.toInt < n) (hd : decode c.code pc = .ok (.iastore, 1)) (hp : pc + 1 = pc') (G : ∀ (T' : State) (h' : Heap), OnK p l e R s m args below meth c n0 T' h' cells slots → Wr h h' a j.toNatClampNeg (.int (x)) → AIK Z h' a .int n (fun i => if i = j.toInt then x else f i) → GoK p e below D T' (mkF m pc' Ls St)) : GoK p e below D T (mkF m pc Ls (.int x :: .int j :: .ref a :: St)) := by
  subst hp
  obtain ⟨_, Y, e0, N⟩ := X
  obtain ⟨cl, Ar, hin, -⟩ := A.get h1 h2
  obtain ⟨T', h', Y', e', W, st⟩ := stI Y hx hZ e0 Ar (j := j) (x := x) hin (g := mkF m pc Ls (.int x :: .int j :: .ref a :: St)) rfl rfl hd
  exact GoK.by st (G T' h' ⟨_, Y', e', Fr.snoc Y' N ga⟩ W (A.set W h1 h2))
theorem go_castore (X : OnK p l e R s m args below meth c n0 T h cells slots) (hx : p.tables.exec = Jvm.exec) (hZ : Z.Warmed39 s.vm) {x : Int32} {j : Int32} {a : Addr} {n : Int} {f : Int → Int32} (A : AIK Z h a .char n f) (ga : n0 ≤ a) (h1 : 0 ≤ j.toInt) (h2 : j.toInt < n) (hd : decode c.code pc = .ok (.castore, 1)) (hp : pc + 1 = pc') (G : ∀ (T' : State) (h' : Heap), OnK p l e R s m args below meth c n0 T' h' cells slots → Wr h h' a j.toNatClampNeg (.int (nar .char x)) → AIK Z h' a .char n (fun i => if i = j.toInt then nar .char x else f i) → GoK p e below D T' (mkF m pc' Ls St)) : GoK p e below D T (mkF m pc Ls (.int x :: .int j :: .ref a :: St)) := by
  subst hp
  obtain ⟨_, Y, e0, N⟩ := X
  obtain ⟨cl, Ar, hin, -⟩ := A.get h1 h2
  obtain ⟨T', h', Y', e', W, st⟩ := stC Y hx hZ e0 Ar (j := j) (x := x) hin (g := mkF m pc Ls (.int x :: .int j :: .ref a :: St)) rfl rfl hd
  exact GoK.by st (G T' h' ⟨_, Y', e', Fr.snoc Y' N ga⟩ W (A.set W h1 h2))
theorem go_bastoreB (X : OnK p l e R s m args below meth c n0 T h cells slots) (hx : p.tables.exec = Jvm.exec) (hZ : Z.Warmed39 s.vm) {x : Int32} {j : Int32} {a : Addr} {n : Int} {f : Int → Int32} (A : AIK Z h a .byte n f) (ga : n0 ≤ a) (h1 : 0 ≤ j.toInt) (h2 : j.toInt < n) (hd : decode c.code pc = .ok (.bastore, 1)) (hp : pc + 1 = pc') (G : ∀ (T' : State) (h' : Heap), OnK p l e R s m args below meth c n0 T' h' cells slots → Wr h h' a j.toNatClampNeg (.int (nar .byte x)) → AIK Z h' a .byte n (fun i => if i = j.toInt then nar .byte x else f i) → GoK p e below D T' (mkF m pc' Ls St)) : GoK p e below D T (mkF m pc Ls (.int x :: .int j :: .ref a :: St)) := by
  subst hp
  obtain ⟨_, Y, e0, N⟩ := X
  obtain ⟨cl, Ar, hin, -⟩ := A.get h1 h2
  obtain ⟨T', h', Y', e', W, st⟩ := stB Y hx hZ e0 Ar (j := j) (x := x) hin (g := mkF m pc Ls (.int x :: .int j :: .ref a :: St)) rfl rfl hd
  exact GoK.by st (G T' h' ⟨_, Y', e', Fr.snoc Y' N ga⟩ W (A.set W h1 h2))
theorem go_bastoreZ (X : OnK p l e R s m args below meth c n0 T h cells slots) (hx : p.tables.exec = Jvm.exec) (hZ : Z.Warmed39 s.vm) {x : Int32} {j : Int32} {a : Addr} {n : Int} {f : Int → Int32} (A : AIK Z h a .boolean n f) (ga : n0 ≤ a) (h1 : 0 ≤ j.toInt) (h2 : j.toInt < n) (hd : decode c.code pc = .ok (.bastore, 1)) (hp : pc + 1 = pc') (G : ∀ (T' : State) (h' : Heap), OnK p l e R s m args below meth c n0 T' h' cells slots → Wr h h' a j.toNatClampNeg (.int (nar .boolean x)) → AIK Z h' a .boolean n (fun i => if i = j.toInt then nar .boolean x else f i) → GoK p e below D T' (mkF m pc' Ls St)) : GoK p e below D T (mkF m pc Ls (.int x :: .int j :: .ref a :: St)) := by
  subst hp
  obtain ⟨_, Y, e0, N⟩ := X
  obtain ⟨cl, Ar, hin, -⟩ := A.get h1 h2
  obtain ⟨T', h', Y', e', W, st⟩ := stZ Y hx hZ e0 Ar (j := j) (x := x) hin (g := mkF m pc Ls (.int x :: .int j :: .ref a :: St)) rfl rfl hd
  exact GoK.by st (G T' h' ⟨_, Y', e', Fr.snoc Y' N ga⟩ W (A.set W h1 h2))
theorem go_lastore (X : OnK p l e R s m args below meth c n0 T h cells slots) (hx : p.tables.exec = Jvm.exec) (hZ : Z.Warmed39 s.vm) {x : Int64} {j : Int32} {a : Addr} {n : Int} {f : Int → Int64} (A : AJK Z h a n f) (ga : n0 ≤ a) (h1 : 0 ≤ j.toInt) (h2 : j.toInt < n) (hd : decode c.code pc = .ok (.lastore, 1)) (hp : pc + 1 = pc') (G : ∀ (T' : State) (h' : Heap), OnK p l e R s m args below meth c n0 T' h' cells slots → Wr h h' a j.toNatClampNeg (.long (x)) → AJK Z h' a n (fun i => if i = j.toInt then x else f i) → GoK p e below D T' (mkF m pc' Ls St)) : GoK p e below D T (mkF m pc Ls (.long x :: .int j :: .ref a :: St)) := by
  subst hp
  obtain ⟨_, Y, e0, N⟩ := X
  obtain ⟨cl, Ar, hin, -⟩ := A.get h1 h2
  obtain ⟨T', h', Y', e', W, st⟩ := stJ Y hx hZ e0 Ar (j := j) (x := x) hin (g := mkF m pc Ls (.long x :: .int j :: .ref a :: St)) rfl rfl hd
  exact GoK.by st (G T' h' ⟨_, Y', e', Fr.snoc Y' N ga⟩ W (A.set W h1 h2))
theorem go_iaload (X : OnK p l e R s m args below meth c n0 T h cells slots) (hx : p.tables.exec = Jvm.exec) (hZ : Z.Warmed39 s.vm) {j : Int32} {a : Addr} {n : Int} {f : Int → Int32} (A : AIK Z h a .int n f) (h1 : 0 ≤ j.toInt) (h2 : j.toInt < n) (hd : decode c.code pc = .ok (.iaload, 1)) (hp : pc + 1 = pc') (G : ∀ z : Int32, z = f j.toInt → GoK p e below D T (mkF m pc' Ls (.int z :: St))) : GoK p e below D T (mkF m pc Ls (.int j :: .ref a :: St)) := by
  subst hp
  obtain ⟨_, Y, e0, N⟩ := X
  obtain ⟨cl, Ar, hin, hv⟩ := A.get h1 h2
  exact GoK.by (fun t k => Y.iaload hx (j := j) (v := .int (f j.toInt)) (by rw [e0]; exact Ar.1) (State.isArrayOf_alike hZ.alike Ar.2.1) Ar.2.2 hin hv (g := mkF m pc Ls (.int j :: .ref a :: St)) rfl rfl hd t k) (G _ rfl)
theorem go_caload (X : OnK p l e R s m args below meth c n0 T h cells slots) (hx : p.tables.exec = Jvm.exec) (hZ : Z.Warmed39 s.vm) {j : Int32} {a : Addr} {n : Int} {f : Int → Int32} (A : AIK Z h a .char n f) (h1 : 0 ≤ j.toInt) (h2 : j.toInt < n) (hd : decode c.code pc = .ok (.caload, 1)) (hp : pc + 1 = pc') (G : ∀ z : Int32, z = f j.toInt → GoK p e below D T (mkF m pc' Ls (.int z :: St))) : GoK p e below D T (mkF m pc Ls (.int j :: .ref a :: St)) := by
  subst hp
  obtain ⟨_, Y, e0, N⟩ := X
  obtain ⟨cl, Ar, hin, hv⟩ := A.get h1 h2
  exact GoK.by (fun t k => Y.caload hx (j := j) (v := .int (f j.toInt)) (by rw [e0]; exact Ar.1) (State.isArrayOf_alike hZ.alike Ar.2.1) Ar.2.2 hin hv (g := mkF m pc Ls (.int j :: .ref a :: St)) rfl rfl hd t k) (G _ rfl)
theorem go_baloadB (X : OnK p l e R s m args below meth c n0 T h cells slots) (hx : p.tables.exec = Jvm.exec) (hZ : Z.Warmed39 s.vm) {j : Int32} {a : Addr} {n : Int} {f : Int → Int32} (A : AIK Z h a .byte n f) (h1 : 0 ≤ j.toInt) (h2 : j.toInt < n) (hd : decode c.code pc = .ok (.baload, 1)) (hp : pc + 1 = pc') (G : ∀ z : Int32, z = f j.toInt → GoK p e below D T (mkF m pc' Ls (.int z :: St))) : GoK p e below D T (mkF m pc Ls (.int j :: .ref a :: St)) := by
  subst hp
  obtain ⟨_, Y, e0, N⟩ := X
  obtain ⟨cl, Ar, hin, hv⟩ := A.get h1 h2
  exact GoK.by (fun t k => Y.baloadBytes hx (j := j) (v := .int (f j.toInt)) (by rw [e0]; exact Ar.1) (State.isArrayOf_alike hZ.alike Ar.2.1) Ar.2.2 hin hv (g := mkF m pc Ls (.int j :: .ref a :: St)) rfl rfl hd t k) (G _ rfl)
theorem go_baloadZ (X : OnK p l e R s m args below meth c n0 T h cells slots) (hx : p.tables.exec = Jvm.exec) (hZ : Z.Warmed39 s.vm) {j : Int32} {a : Addr} {n : Int} {f : Int → Int32} (A : AIK Z h a .boolean n f) (h1 : 0 ≤ j.toInt) (h2 : j.toInt < n) (hd : decode c.code pc = .ok (.baload, 1)) (hp : pc + 1 = pc') (G : ∀ z : Int32, z = f j.toInt → GoK p e below D T (mkF m pc' Ls (.int z :: St))) : GoK p e below D T (mkF m pc Ls (.int j :: .ref a :: St)) := by
  subst hp
  obtain ⟨_, Y, e0, N⟩ := X
  obtain ⟨cl, Ar, hin, hv⟩ := A.get h1 h2
  exact GoK.by (fun t k => Y.baloadBooleans hx (j := j) (v := .int (f j.toInt)) (by rw [e0]; exact Ar.1) (State.isArrayOf_alike hZ.alike Ar.2.1) Ar.2.2 hin hv (g := mkF m pc Ls (.int j :: .ref a :: St)) rfl rfl hd t k) (G _ rfl)
theorem go_laload (X : OnK p l e R s m args below meth c n0 T h cells slots) (hx : p.tables.exec = Jvm.exec) (hZ : Z.Warmed39 s.vm) {j : Int32} {a : Addr} {n : Int} {f : Int → Int64} (A : AJK Z h a n f) (h1 : 0 ≤ j.toInt) (h2 : j.toInt < n) (hd : decode c.code pc = .ok (.laload, 1)) (hp : pc + 1 = pc') (G : ∀ z : Int64, z = f j.toInt → GoK p e below D T (mkF m pc' Ls (.long z :: St))) : GoK p e below D T (mkF m pc Ls (.int j :: .ref a :: St)) := by
  subst hp
  obtain ⟨_, Y, e0, N⟩ := X
  obtain ⟨cl, Ar, hin, hv⟩ := A.get h1 h2
  exact GoK.by (fun t k => Y.laload hx (j := j) (v := .long (f j.toInt)) (by rw [e0]; exact Ar.1) (State.isArrayOf_alike hZ.alike Ar.2.1) Ar.2.2 hin hv (g := mkF m pc Ls (.int j :: .ref a :: St)) rfl rfl hd t k) (G _ rfl)
theorem own_len {k : Nat} {n : Int} (S : (k : Int) = n) (M : n < 2147483648) : (k.toInt32).toInt = n := by
  have e : (k.toInt32).toInt = ((k : Int)).bmod (2 ^ 32) := by
    show (Int32.ofNat k).toInt = _
    exact Int32.toInt_ofNat
  rw [e, Int.bmod_eq_of_le (by omega) (by omega)]; exact S
theorem go_lenI (X : OnK p l e R s m args below meth c n0 T h cells slots) (hx : p.tables.exec = Jvm.exec) (hZ : Z.Warmed39 s.vm) {a : Addr} {n : Int} {ty : FieldType} {f : Int → Int32} (A : AIK Z h a ty n f) (hd : decode c.code pc = .ok (.arraylength, 1)) (hp : pc + 1 = pc') (G : ∀ z : Int32, z.toInt = n → GoK p e below D T (mkF m pc' Ls (.int z :: St))) : GoK p e below D T (mkF m pc Ls (.ref a :: St)) := by
  subst hp
  obtain ⟨_, Y, e0, N⟩ := X
  obtain ⟨cl, Ar, S, M, -⟩ := A
  refine GoK.by (fun t k => Y.arraylength hx (by rw [e0]; exact Ar.1) (State.isArrayOf_alike hZ.alike Ar.2.1) (g := mkF m pc Ls (.ref a :: St)) rfl rfl hd t k) (G _ ?_)
  exact own_len S M
theorem go_lenJ (X : OnK p l e R s m args below meth c n0 T h cells slots) (hx : p.tables.exec = Jvm.exec) (hZ : Z.Warmed39 s.vm) {a : Addr} {n : Int} {f : Int → Int64} (A : AJK Z h a n f) (hd : decode c.code pc = .ok (.arraylength, 1)) (hp : pc + 1 = pc') (G : ∀ z : Int32, z.toInt = n → GoK p e below D T (mkF m pc' Ls (.int z :: St))) : GoK p e below D T (mkF m pc Ls (.ref a :: St)) := by
  subst hp
  obtain ⟨_, Y, e0, N⟩ := X
  obtain ⟨cl, Ar, S, M, -⟩ := A
  refine GoK.by (fun t k => Y.arraylength hx (by rw [e0]; exact Ar.1) (State.isArrayOf_alike hZ.alike Ar.2.1) (g := mkF m pc Ls (.ref a :: St)) rfl rfl hd t k) (G _ ?_)
  exact own_len S M
theorem go_getfield (X : OnK p l e R s m args below meth c n0 T h cells slots) (hx : p.tables.exec = Jvm.exec) (hZ : Z.Warmed39 s.vm) {own O n d : String} {i : Nat} {a : Addr} {v : Value} (hown : s.vm.findClass own = some m.cls) (wd : (Jvm.Cond.fieldLink own i O n d).before a0 Z = true) (F : Fld Z h a O n d v) (hd : decode c.code pc = .ok (.getfield i, 3)) (hp : pc + 3 = pc') (G : ∀ T' : State, OnK p l e R s m args below meth c n0 T' h cells slots → GoK p e below D T' (mkF m pc' Ls (v :: St))) : GoK p e below D T (mkF m pc Ls (.ref a :: St)) := by
  subst hp
  obtain ⟨_, Y, e0, N⟩ := X
  obtain ⟨T', Y', e', st⟩ := getF Y hx hZ hown (host := "") (Or.inl wd) Via.refl e0 F (g := mkF m pc Ls (.ref a :: St)) rfl rfl hd
  exact GoK.by st (G T' ⟨_, Y', e', N⟩)
theorem go_putfield (X : OnK p l e R s m args below meth c n0 T h cells slots) (hx : p.tables.exec = Jvm.exec) (hZ : Z.Warmed39 s.vm) {own O n d C : String} {i kk : Nat} {ty : FieldType} {a : Addr} {v v' old : Value} (hown : s.vm.findClass own = some m.cls) (wd : (Jvm.Cond.fieldLink own i O n d).before a0 Z = true) (F : Fld Z h a O n d old) (E : Exa Z h a C) (L : (Jvm.Cond.lays C O n d).before a0 Z = true ∨ ((Jvm.Cond.laysFinal C O n d).before a0 Z = true ∧ own = O ∧ meth.name = "<init>")) (wi : (Jvm.Cond.instantiable C kk).before a0 Z = true) (ga : n0 ≤ a) (hty : parseFieldDescriptor d = some ty) (hn : narrow ty v = v') (hf : fits ty v' = true) (hd : decode c.code pc = .ok (.putfield i, 3)) (hp : pc + 3 = pc') (G : ∀ (T' : State) (h' : Heap), OnK p l e R s m args below meth c n0 T' h' cells slots → Wr h h' a (slotOf Z O n d) v' → Fld Z h' a O n d v' → GoK p e below D T' (mkF m pc' Ls St)) : GoK p e below D T (mkF m pc Ls (v :: .ref a :: St)) := by
  subst hp
  obtain ⟨_, Y, e0, N⟩ := X
  obtain ⟨T', h', Y', e', W, st⟩ := putFN Y hx hZ hown wd Via.refl e0 F E L wi hty hn hf (g := mkF m pc Ls (v :: .ref a :: St)) rfl rfl hd
  exact GoK.by st (G T' h' ⟨_, Y', e', Fr.snoc Y' N ga⟩ W (F.same W))
theorem go_new (X : OnK p l e R s m args below meth c n0 T h cells slots) (hx : p.tables.exec = Jvm.exec) (hZ : Z.Warmed39 s.vm) {own C : String} {i n : Nat} (hown : s.vm.findClass own = some m.cls) (w1 : (Jvm.Cond.classLink own i C).before a0 Z = true) (w2 : (Jvm.Cond.instantiable C n).before a0 Z = true) (w3 : (Jvm.Cond.initialized C).before a0 Z = true) (hd : decode c.code pc = .ok (.new i, 3)) (hp : pc + 3 = pc') (hc : cells + 1 ≤ R.cells) (hs : slots + n ≤ R.slots) (hc' : cells + 1 = cells') (hs' : slots + n = slots')
    (G : ∀ (T' : State) (h' : Heap) (a : Addr), a = h.size → OnK p l e R s m args below meth c n0 T' h' cells' slots' → Ext h h' → Exa Z h' a C → (∀ {O nm d : String} {ty : FieldType}, Laid Z a0 C O nm d → parseFieldDescriptor d = some ty → Fld Z h' a O nm d (defaultValue ty)) → GoK p e below D T' (mkF m pc' Ls (.ref a :: St))) : GoK p e below D T (mkF m pc Ls St) := by
  subst hp hc' hs'
  obtain ⟨_, Y, e0, N⟩ := X
  obtain ⟨T', h', Y', e', E, A, Dv, -, st⟩ := newO Y hx hZ hown w1 w2 w3 e0 (g := mkF m pc Ls St) rfl hd hc hs
  exact GoK.by st (G T' h' _ rfl ⟨_, Y', e', N⟩ E A Dv)
theorem go_initO (X : OnK p l e R s m args below meth c n0 T h cells slots) (hx : p.tables.exec = Jvm.exec) (hZ : Z.Warmed39 s.vm) {own : String} {i W : Nat} {a : Addr} (hown : s.vm.findClass own = some m.cls) (hml : Ls.size = c.maxLocals) (w1 : (Jvm.Cond.methodLink own i Lib.objectInit).before a0 Z = true) (w2 : (Jvm.Cond.instanceMethod Lib.objectInit).before a0 Z = true) (w3 : (Jvm.Cond.code Lib.objectInit ⟨#[0xb1]⟩ 1 none).before a0 Z = true) (hd : decode c.code pc = .ok (.invokespecial i, 3)) (hp : pc + 3 = pc') (hf : 1 ≤ R.frames) (hW : (St.map fun v => v.category).sum ≤ W) (hl : W + 12 ≤ R.locals) (G : ∀ T' : State, OnK p l e R s m args below meth c n0 T' h cells slots → GoK p e below D T' (mkF m pc' Ls St)) : GoK p e below D T (mkF m pc Ls (.ref a :: St)) := by
  subst hp
  obtain ⟨_, Y, e0, N⟩ := X
  obtain ⟨T', Y', e', st⟩ := initO Y hx hZ hown w1 w2 w3 e0 (g := mkF m pc Ls (.ref a :: St)) rfl hml rfl hd hf (W := W) (by show 2 * 0 + _ ≤ _; omega) hl
  exact GoK.by st (G T' ⟨_, Y', e', N⟩)
theorem go_callS (X : OnK p l e R s m args below meth c n0 T h cells slots) (hx : p.tables.exec = Jvm.exec) (hZ : Z.Warmed39 s.vm) {own : String} {i W ml : Nat} {y : MethodName} {bytes : ByteArray} {ret : Option FieldType} {rm : Room} {Q : Option Value → Heap → Prop} {aL : List Value} {ps : List FieldType} {rt : Option FieldType} (hown : s.vm.findClass own = some m.cls) (hml : Ls.size = c.maxLocals) (wl : (Jvm.Cond.methodLink own i y).before a0 Z = true) (ws : (Jvm.Cond.static y).before a0 Z = true) (wz : (Jvm.Cond.initialized y.cls).before a0 Z = true) (wc : (Jvm.Cond.code y bytes ml ret).before a0 Z = true) (hy : y.cls ≠ "java/lang/invoke/MethodHandle" ∧ y.cls ≠ "java/lang/invoke/VarHandle") (pd : parseMethodDescriptor y.desc = some ⟨ps, rt⟩) (hlen : aL.length = ps.length) (ct : CtK l Z y bytes ml ret rm aL.toArray h n0 Q) (hd : decode c.code pc = .ok (.invokestatic i, 3)) (hp : pc + 3 = pc') (hf : rm.frames + 1 ≤ R.frames) (hW : (St.map fun v => v.category).sum ≤ W) (hlo : W + (ml + 11) + rm.locals ≤ R.locals) (hc : cells + rm.cells ≤ R.cells) (hs : slots + rm.slots ≤ R.slots) (hc' : cells + rm.cells = cells') (hs' : slots + rm.slots = slots') (G : ∀ (T' : State) (h' : Heap) (v : Option Value), OnK p l e R s m args below meth c n0 T' h' cells' slots' → Q v h' → GoK p e below D T' (mkF m pc' Ls (v.toList ++ St))) {S0 : List Value} (hS : S0 = aL.reverse ++ St) : GoK p e below D T (mkF m pc Ls S0) := by
  subst hp hc' hs' hS
  obtain ⟨_, Y, e0, N⟩ := X
  obtain ⟨v, _, ⟨B, L, k, n⟩, -, Y', ⟨Lc, ⟨hQ, hN⟩, el, ec, es⟩, st⟩ := Jvm.LawKit.callS Y hx (y := y) hown (mvT hZ wl) (mvT hZ ws) (mvT hZ wz) (mvT hZ wc) hy (backOf (W := W) (Q := fun v h L => Q v h ∧ Fr n0 L) (ct []) hZ wc wz hf hlo) (g := mkF m pc Ls (aL.reverse ++ St)) rfl hml (argsL := aL) (rest := St) (lenOf pd hlen) rfl (by show 2 * 0 + _ ≤ _; omega) hd (fun _ _ => ⟨rfl, e0, hc, hs⟩)
  dsimp only [Pt.U, Pt.locs, Pt.cells, Pt.slots] at Y' el ec es st hQ
  subst el ec es
  exact GoK.by st (G B _ v ⟨_, Y', rfl, N.app hN⟩ hQ)
theorem go_callC (X : OnK p l e R s m args below meth c n0 T h cells slots) (hx : p.tables.exec = Jvm.exec) (hZ : Z.Warmed39 s.vm) {own : String} {i W ml : Nat} {y : MethodName} {bytes : ByteArray} {rm : Room} {Q : Option Value → Heap → Prop} {aL : List Value} {ps : List FieldType} {rt : Option FieldType} {a : Addr} (hown : s.vm.findClass own = some m.cls) (hml : Ls.size = c.maxLocals) (hi : y.name = "<init>") (wl : (Jvm.Cond.methodLink own i y).before a0 Z = true) (wi : (Jvm.Cond.instanceMethod y).before a0 Z = true) (wz : (Jvm.Cond.initialized y.cls).before a0 Z = true) (wc : (Jvm.Cond.code y bytes ml none).before a0 Z = true) (hy : y.cls ≠ "java/lang/invoke/MethodHandle" ∧ y.cls ≠ "java/lang/invoke/VarHandle") (pd : parseMethodDescriptor y.desc = some ⟨ps, rt⟩) (hlen : aL.length = ps.length) (ct : CtK l Z y bytes ml none rm (.ref a :: aL).toArray h n0 Q) (hd : decode c.code pc = .ok (.invokespecial i, 3)) (hp : pc + 3 = pc') (hf : rm.frames + 1 ≤ R.frames) (hW : (St.map fun v => v.category).sum ≤ W) (hlo : W + (ml + 11) + rm.locals ≤ R.locals) (hc : cells + rm.cells ≤ R.cells) (hs : slots + rm.slots ≤ R.slots) (hc' : cells + rm.cells = cells') (hs' : slots + rm.slots = slots') (G : ∀ (T' : State) (h' : Heap) (v : Option Value), OnK p l e R s m args below meth c n0 T' h' cells' slots' → Q v h' → GoK p e below D T' (mkF m pc' Ls (v.toList ++ St))) {S0 : List Value} (hS : S0 = aL.reverse ++ .ref a :: St) : GoK p e below D T (mkF m pc Ls S0) := by
  subst hp hc' hs' hS
  obtain ⟨_, Y, e0, N⟩ := X
  obtain ⟨v, _, ⟨B, L, k, n⟩, -, Y', ⟨Lc, ⟨hQ, hN⟩, el, ec, es⟩, st⟩ := Y.specialBack hx (y := y) hi hown (mvT hZ wl) (mvT hZ wi) (mvT hZ wc) hy (backOf (W := W) (Q := fun v h L => Q v h ∧ Fr n0 L) (ct []) hZ wc wz hf hlo) (g := mkF m pc Ls (aL.reverse ++ .ref a :: St)) rfl hml (Steps.refl _) (a := a) (argsL := aL) (rest := St) (lenOf pd hlen) rfl (by show 2 * 0 + _ ≤ _; omega) hd (fun _ _ => ⟨rfl, e0, hc, hs⟩)
  dsimp only [Pt.U, Pt.locs, Pt.cells, Pt.slots] at Y' el ec es st hQ
  subst el ec es
  exact GoK.by (fun t k => st.trans k) (G B _ v ⟨_, Y', rfl, N.app hN⟩ hQ)
theorem go_callV (X : OnK p l e R s m args below meth c n0 T h cells slots) (hx : p.tables.exec = Jvm.exec) (hZ : Z.Warmed39 s.vm) {own : String} {i W ml : Nat} {y : MethodName} {bytes : ByteArray} {ret : Option FieldType} {rm : Room} {Q : Option Value → Heap → Prop} {aL : List Value} {ps : List FieldType} {rt : Option FieldType} {a : Addr} (hown : s.vm.findClass own = some m.cls) (hml : Ls.size = c.maxLocals) (E : Exa Z h a y.cls) (wl : (Jvm.Cond.methodLink own i y).before a0 Z = true) (wd : (Jvm.Cond.declares y).before a0 Z = true) (ws : (Jvm.Cond.selects y.cls y y).before a0 Z = true) (wi : (Jvm.Cond.instanceMethod y).before a0 Z = true) (wz : (Jvm.Cond.initialized y.cls).before a0 Z = true) (wc : (Jvm.Cond.code y bytes ml ret).before a0 Z = true) (hy : y.cls ≠ "java/lang/invoke/MethodHandle" ∧ y.cls ≠ "java/lang/invoke/VarHandle") (pd : parseMethodDescriptor y.desc = some ⟨ps, rt⟩) (hlen : aL.length = ps.length) (ct : CtK l Z y bytes ml ret rm (.ref a :: aL).toArray h n0 Q) (hd : decode c.code pc = .ok (.invokevirtual i, 3)) (hp : pc + 3 = pc') (hf : rm.frames + 1 ≤ R.frames) (hW : (St.map fun v => v.category).sum ≤ W) (hlo : W + (ml + 11) + rm.locals ≤ R.locals) (hc : cells + rm.cells ≤ R.cells) (hs : slots + rm.slots ≤ R.slots) (hc' : cells + rm.cells = cells') (hs' : slots + rm.slots = slots') (G : ∀ (T' : State) (h' : Heap) (v : Option Value), OnK p l e R s m args below meth c n0 T' h' cells' slots' → Q v h' → GoK p e below D T' (mkF m pc' Ls (v.toList ++ St))) {S0 : List Value} (hS : S0 = aL.reverse ++ .ref a :: St) : GoK p e below D T (mkF m pc Ls S0) := by
  subst hp hc' hs' hS
  obtain ⟨_, Y, e0, N⟩ := X
  obtain ⟨cq, kq, qa, qb, qc⟩ := isOf hZ e0 E
  obtain ⟨v, _, ⟨B, L, k, n⟩, -, Y', ⟨Lc, ⟨hQ, hN⟩, el, ec, es⟩, st⟩ := Y.virtualBack hx (y := y) (z := y) hown (mvT hZ wl) (mvT hZ wd) (notFace_of_selects (args := #[]) (mvT hZ ws)) (mvT hZ ws) (mvT hZ wi) hy (backOf (W := W) (Q := fun v h L => Q v h ∧ Fr n0 L) (ct []) hZ wc wz hf hlo) qa qc (g := mkF m pc Ls (aL.reverse ++ .ref a :: St)) rfl hml (Steps.refl _) (argsL := aL) (rest := St) (lenOf pd hlen) rfl (by show 2 * 0 + _ ≤ _; omega) hd (fun _ _ => ⟨rfl, e0, hc, hs⟩)
  dsimp only [Pt.U, Pt.locs, Pt.cells, Pt.slots] at Y' el ec es st hQ
  subst el ec es
  exact GoK.by (fun t k => st.trans k) (G B _ v ⟨_, Y', rfl, N.app hN⟩ hQ)
def TwoK (a b : Slot) : Prop := (a = .unset ∧ b = .unset) ∨ ∃ x : Int64, a = .val (.long x) ∧ b = .second
end OwnK
end Jvm.RoadKit
namespace Jvm.Pilot.@@N@@
open Jvm Jvm.ClassFile Sem Op Lib Jvm.Free Jvm.Stand Jvm.LawKit Jvm.RoadKit Bundle Jvm.Pilot.@@N@@.Jvm.D
def own_bit (x : Int64) (i : Nat) : Bool := x.toBitVec.getLsbD i
theorem own_ext {x y : Int64} (h : ∀ i, i < 64 → own_bit x i = own_bit y i) : x = y := Int64.toBitVec_inj.mp (BitVec.eq_of_getLsbD_eq h)
theorem own_big (x : Int64) {i : Nat} (h : 64 ≤ i) : own_bit x i = false := BitVec.getLsbD_of_ge _ _ h
theorem own_q {q : Int32} {k : Nat} (h : q.toInt = k) (h2 : k < 64) : q.toBitVec.toNat % 64 = k := by
  have := q.toBitVec.isLt
  change q.toBitVec.toInt = _ at h
  rw [BitVec.toInt_eq_toNat_cond] at h
  split at h <;> omega
theorem own_shl (x : Int64) {q : Int32} {k : Nat} (h : q.toInt = k) (h2 : k < 64) {i : Nat} (hi : i < 64) : own_bit (x <<< (q &&& 0x3f).toInt64) i = (decide (k ≤ i) && own_bit x (i - k)) := by
  have hk := own_q h h2
  show (x.toBitVec <<< ((q &&& 0x3f).toInt64.toBitVec.smod 64)).getLsbD i = _
  rw [BitVec.shiftLeft_eq', (sm64 q k hk).1, smod64 k h2, BitVec.getLsbD_shiftLeft]
  show (decide (i < 64) && !decide (i < k) && own_bit x (i - k)) = _
  by_cases c : k ≤ i
  · simp [hi, c]
  · simp [hi, c]
theorem own_shr (x : Int64) {q : Int32} {k : Nat} (h : q.toInt = k) (h2 : k < 64) (i : Nat) : own_bit ((x.toUInt64 >>> (q &&& 0x3f).toInt64.toUInt64).toInt64) i = own_bit x (i + k) := by
  have hk := own_q h h2
  show (x.toBitVec >>> ((q &&& 0x3f).toInt64.toBitVec % 64)).getLsbD i = _
  have e : ((q &&& 0x3f).toInt64.toBitVec % 64).toNat = k := by
    rw [BitVec.toNat_umod, (sm64 q k hk).1, BitVec.toNat_ofNat]
    show k % 2 ^ 64 % 64 = k; omega
  rw [BitVec.ushiftRight_eq', e, BitVec.getLsbD_ushiftRight, Nat.add_comm]; rfl
theorem own_and (x y : Int64) (i : Nat) : own_bit (x &&& y) i = (own_bit x i && own_bit y i) := by unfold own_bit; rw [Int64.toBitVec_and, BitVec.getLsbD_and]
theorem own_or (x y : Int64) (i : Nat) : own_bit (x ||| y) i = (own_bit x i || own_bit y i) := by unfold own_bit; rw [Int64.toBitVec_or, BitVec.getLsbD_or]
theorem own_m1 {i : Nat} (hi : i < 64) : own_bit (-1) i = true := by
  have : ∀ j : Fin 64, own_bit (-1) j.1 = true := by decide
  exact this ⟨i, hi⟩
theorem own_z (i : Nat) : own_bit 0 i = false := by
  show (0#64).getLsbD i = false
  simp
theorem own_not (x : Int64) {i : Nat} (hi : i < 64) : own_bit (x ^^^ -1) i = !(own_bit x i) := by
  have o := own_m1 hi
  unfold own_bit at o ⊢
  rw [Int64.toBitVec_xor, BitVec.getLsbD_xor, o, Bool.xor_true]
theorem own_mask {q : Int32} {k : Nat} (h : q.toInt = k) (h2 : k < 64) {i : Nat} (hi : i < 64) : own_bit (((1 : Int64) <<< (q &&& 0x3f).toInt64) - 1) i = decide (i < k) := by
  have hk := own_q h h2
  have e : (((1 : Int64) <<< (q &&& 0x3f).toInt64) - 1).toBitVec.toNat = 2 ^ k - 1 := by
    rw [Int64.toBitVec_sub]
    show (((1 : Int64).toBitVec <<< ((q &&& 0x3f).toInt64.toBitVec.smod 64)) - (1 : Int64).toBitVec).toNat = _
    rw [BitVec.shiftLeft_eq', (sm64 q k hk).1, smod64 k h2, BitVec.toNat_sub, BitVec.toNat_shiftLeft, Nat.shiftLeft_eq]
    show (2 ^ 64 - 1 + 1 * 2 ^ k % 2 ^ 64) % 2 ^ 64 = 2 ^ k - 1
    have p : 2 ^ k < 2 ^ 64 := Nat.pow_lt_pow_right (by decide) h2
    have p0 : 0 < 2 ^ k := Nat.two_pow_pos k
    rw [Nat.one_mul, Nat.mod_eq_of_lt p]; omega
  unfold own_bit
  rw [← BitVec.testBit_toNat, e, Nat.testBit_two_pow_sub_one]
/-- the word at 'base' behind the writing: the window's bits are v's, the others as they were -/
def own_spec (w : Int64) (base a n : Int) (v r : Int64) : Prop := ∀ i : Nat, i < 64 → own_bit r i = if a ≤ base + i ∧ base + i < a + n then own_bit v (base + i - a).toNat else own_bit w i
theorem own_uniq {w v r s : Int64} {base a n : Int} (h1 : own_spec w base a n v r) (h2 : own_spec w base a n v s) : r = s := own_ext fun i hi => by rw [h1 i hi, h2 i hi]
theorem own_ltI {a b : Int32} (h : a < b) : a.toInt < b.toInt := Int32.lt_iff_toInt_lt.mp h
theorem own_geI {a b : Int32} (h : ¬ a < b) : ¬ a.toInt < b.toInt := fun w => h (Int32.lt_iff_toInt_lt.mpr w)
def own_low (v : Int64) (n : Int) : Prop := ∀ j : Nat, n ≤ j → own_bit v j = false
theorem own_k0 : (0 : Int32).toInt = 0 := rfl
theorem own_k64 : (64 : Int32).toInt = 64 := rfl
theorem own_km64 : (-64 : Int32).toInt = -64 := rfl
/-- lowMask -/
def own_LM (z : Int64) (n : Int) : Prop := ∀ i : Nat, i < 64 → own_bit z i = decide ((i : Int) < n)
theorem own_lm0 {n : Int} (h : ¬ 0 < n) : own_LM 0 n := fun i hi => by rw [own_z]; simp; omega
theorem own_lm1 {n : Int} (h : ¬ n < 64) : own_LM (-1) n := fun i hi => by rw [own_m1 hi]; simp; omega
theorem own_lm2 {p : Int32} (h1 : 0 < p.toInt) (h2 : p.toInt < 64) : own_LM (((1 : Int64) <<< (p &&& 0x3f).toInt64) - 1) p.toInt := fun i hi => by
  rw [own_mask (k := p.toInt.toNat) (by omega) (by omega) hi]
  apply decide_eq_decide.mpr; omega
/-- the mask of the window in the word at 'base' -/
theorem own_exp {o v m1 m2 s : Int64} {base a n : Int} (h1 : own_LM m1 (a + n - base)) (h2 : own_LM m2 (a - base)) (hs : ∀ i : Nat, i < 64 → a ≤ base + i → base + i < a + n → own_bit s i = own_bit v (base + i - a).toNat) : own_spec o base a n v ((o &&& ((m1 &&& (m2 ^^^ -1)) ^^^ -1)) ||| (s &&& (m1 &&& (m2 ^^^ -1)))) := by
  intro i hi
  have bm : own_bit (m1 &&& (m2 ^^^ -1)) i = (decide ((i : Int) < a + n - base) && !decide ((i : Int) < a - base)) := by rw [own_and, own_not _ hi, h1 i hi, h2 i hi]
  rw [own_or, own_and, own_not _ hi, own_and s, bm]
  by_cases c : a ≤ base + i ∧ base + i < a + n
  · rw [if_pos c, hs i hi c.1 c.2]
    have d1 : decide ((i : Int) < a + n - base) = true := decide_eq_true (by omega)
    have d2 : decide ((i : Int) < a - base) = false := decide_eq_false (by omega)
    rw [d1, d2]; simp
  · rw [if_neg c]
    have d : (decide ((i : Int) < a + n - base) && !decide ((i : Int) < a - base)) = false := by
      by_cases e1 : (i : Int) < a + n - base
      · have : (i : Int) < a - base := by omega
        simp [this]
      · simp [e1]
    rw [d]; simp
theorem own_s0 {v : Int64} {base a n : Int} (hv : own_low v n) (hn0 : 0 ≤ n) (hn : n ≤ 62) (h : 64 ≤ a - base ∨ a - base ≤ -64) : ∀ i : Nat, i < 64 → a ≤ base + i → base + i < a + n → own_bit 0 i = own_bit v (base + i - a).toNat := by
  intro i hi c1 c2; omega
theorem own_s1 {v : Int64} {base a n : Int} {d : Int32} (hd : d.toInt = a - base) (h0 : 0 ≤ d.toInt) (h1 : d.toInt < 64) : ∀ i : Nat, i < 64 → a ≤ base + i → base + i < a + n → own_bit (v <<< (d &&& 0x3f).toInt64) i = own_bit v (base + i - a).toNat := by
  intro i hi c1 c2
  rw [own_shl v (k := d.toInt.toNat) (by omega) (by omega) hi, decide_eq_true (by omega : d.toInt.toNat ≤ i), Bool.true_and]
  congr 1; omega
theorem own_s2 {v : Int64} {base a n : Int} {d : Int32} (hd : d.toInt = a - base) (h0 : d.toInt < 0) (h1 : -64 < d.toInt) : ∀ i : Nat, i < 64 → a ≤ base + i → base + i < a + n → own_bit ((v.toUInt64 >>> ((-d) &&& 0x3f).toInt64.toUInt64).toInt64) i = own_bit v (base + i - a).toNat := by
  intro i hi c1 c2
  have e : (-d).toInt = -d.toInt := by
    have := c_ineg d; have := rng32 (-d); omega
  rw [own_shr v (k := (-d.toInt).toNat) (by omega) (by omega)]
  congr 1; omega
/-- put's first word -/
theorem own_p1 {w v : Int64} {off n : Int32} {base a : Int} (hv : own_low v n.toInt) (h0 : 0 ≤ off.toInt) (h1 : off.toInt < 64) (n0 : 0 ≤ n.toInt) (n1 : n.toInt ≤ 62) (e : a = base + off.toInt) :
    own_spec w base a n.toInt v ((w &&& (((((1 : Int64) <<< (n &&& 0x3f).toInt64) - 1) <<< (off &&& 0x3f).toInt64) ^^^ -1)) ||| (v <<< (off &&& 0x3f).toInt64)) := by
  intro i hi
  rw [own_or, own_and, own_not _ hi, own_shl _ (k := off.toInt.toNat) (by omega) (by omega) hi, own_shl _ (k := off.toInt.toNat) (by omega) (by omega) hi, own_mask (k := n.toInt.toNat) (by omega) (by omega) (by omega)]
  by_cases c : a ≤ base + i ∧ base + i < a + n.toInt
  · rw [if_pos c, decide_eq_true (by omega : off.toInt.toNat ≤ i), decide_eq_true (by omega : i - off.toInt.toNat < n.toInt.toNat)]
    have : (base + i - a).toNat = i - off.toInt.toNat := by omega
    rw [this]; simp
  · rw [if_neg c]
    by_cases c1 : off.toInt.toNat ≤ i
    · rw [decide_eq_true c1, decide_eq_false (by omega : ¬ i - off.toInt.toNat < n.toInt.toNat), hv (i - off.toInt.toNat) (by omega)]; simp
    · rw [decide_eq_false c1]; simp
/-- put's second word -/
theorem own_p2 {w v : Int64} {left n : Int32} {base a : Int} (hv : own_low v n.toInt) (h0 : 1 ≤ left.toInt) (h1 : left.toInt < 64) (n0 : 0 ≤ n.toInt) (n1 : n.toInt ≤ 62) (e : base = a + left.toInt) :
    own_spec w base a n.toInt v ((w &&& (((((1 : Int64) <<< (n &&& 0x3f).toInt64) - 1).toUInt64 >>> (left &&& 0x3f).toInt64.toUInt64).toInt64 ^^^ -1)) ||| ((v.toUInt64 >>> (left &&& 0x3f).toInt64.toUInt64).toInt64)) := by
  intro i hi
  rw [own_or, own_and, own_not _ hi, own_shr _ (k := left.toInt.toNat) (by omega) (by omega), own_shr _ (k := left.toInt.toNat) (by omega) (by omega)]
  have mk : own_bit (((1 : Int64) <<< (n &&& 0x3f).toInt64) - 1) (i + left.toInt.toNat) = decide (i + left.toInt.toNat < n.toInt.toNat) := by
    by_cases b : i + left.toInt.toNat < 64
    · exact own_mask (k := n.toInt.toNat) (by omega) (by omega) b
    · rw [own_big _ (by omega)]; symm; exact decide_eq_false (by omega)
  rw [mk]
  by_cases c : a ≤ base + i ∧ base + i < a + n.toInt
  · rw [if_pos c, decide_eq_true (by omega : i + left.toInt.toNat < n.toInt.toNat)]
    have : (base + i - a).toNat = i + left.toInt.toNat := by omega
    rw [this]; simp
  · rw [if_neg c, decide_eq_false (by omega : ¬ i + left.toInt.toNat < n.toInt.toNat), hv (i + left.toInt.toNat) (by omega)]; simp
theorem own_same {w v : Int64} {base a n : Int} (h : n ≤ 0 ∨ base + 63 < a ∨ a + n ≤ base) : own_spec w base a n v w := by
  intro i hi
  rw [if_neg (by omega)]
theorem own_vlow {v x : Int64} {n : Int32} (h0 : 0 ≤ n.toInt) (h1 : n.toInt < 64) (h : v = x &&& (((1 : Int64) <<< (n &&& 0x3f).toInt64) - 1)) : own_low v n.toInt := by
  intro j hj
  by_cases b : j < 64
  · rw [h, own_and, own_mask (k := n.toInt.toNat) (by omega) (by omega) b, decide_eq_false (by omega : ¬ j < n.toInt.toNat), Bool.and_false]
  · exact own_big _ (by omega)
theorem own_m31 (x : Int32) : 0 ≤ (x &&& 2147483647).toInt := by
  rw [c_mask x 2147483647 31 (by decide) (by decide)]; omega
theorem own_width {v x : Int32} (h : v = (x &&& 2147483647) % 63) : 0 ≤ v.toInt ∧ v.toInt ≤ 62 := by
  have e := (c_irem (x &&& 2147483647) 63 63 rfl).1 (own_m31 x)
  have := own_m31 x
  rw [h]; omega
theorem own_193 {w : Int32} (h1 : 0 ≤ w.toInt) (h2 : w.toInt ≤ 62) : (193 - w).toInt = 193 - w.toInt := by
  have k : (193 : Int32).toInt = 193 := rfl
  rw [Jvm.Free.XT.sub32 ⟨by omega, by omega⟩, k]
theorem own_nz193 {w : Int32} (h1 : 0 ≤ w.toInt) (h2 : w.toInt ≤ 62) : (193 - w) ≠ 0 := fun q => by
  have := own_193 h1 h2; rw [q] at this; have := own_k0; omega
theorem own_at {a x w : Int32} (h1 : 0 ≤ w.toInt) (h2 : w.toInt ≤ 62) (h : a = (x &&& 2147483647) % (193 - w)) : 0 ≤ a.toInt ∧ a.toInt + w.toInt ≤ 192 := by
  have e := own_193 h1 h2
  have := (c_iremV (x &&& 2147483647) (193 - w)).1 (own_m31 x) (by omega)
  rw [h]; omega
theorem own_idx {a i : Int32} (h0 : 0 ≤ a.toInt) (h : i = (a.toUInt32 >>> ((6 : Int32) &&& 31).toUInt32).toInt32) : i.toInt = a.toInt / 64 := by
  have := c_iushr a 6 6 (by decide) (by decide)
  have r := rng32 a
  rw [h, this]
  show a.toInt % 4294967296 / 64 = _
  omega
theorem own_off {a o : Int32} (h : o = a &&& 63) : o.toInt = a.toInt % 64 := by rw [h]; exact c_mask a 63 6 (by decide) (by decide)
def own_w3 (x0 x1 x2 : Int64) (i : Int) : Int64 := if i = 0 then x0 else if i = 1 then x1 else x2

theorem pd_0 : parseMethodDescriptor "(I)J" = some ⟨[.int], some .long⟩ := by decide +kernel
theorem pd_1 : parseMethodDescriptor "([JIIJ)V" = some ⟨[(.array .long), .int, .int, .long], none⟩ := by decide +kernel
theorem pd_2 : parseMethodDescriptor "(JIIIJ)J" = some ⟨[.long, .int, .int, .int, .long], some .long⟩ := by decide +kernel
theorem d3_0 : decode method_3_code 0 = .ok (.iload_n 0, 1) := by decide +kernel
theorem d3_1 : decode method_3_code 1 = .ok (.ifCond .gt 5, 3) := by decide +kernel
theorem d3_4 : decode method_3_code 4 = .ok (.lconst 0, 1) := by decide +kernel
theorem d3_5 : decode method_3_code 5 = .ok (.lreturn, 1) := by decide +kernel
theorem d3_6 : decode method_3_code 6 = .ok (.iload_n 0, 1) := by decide +kernel
theorem d3_7 : decode method_3_code 7 = .ok (.bipush 64, 2) := by decide +kernel
theorem d3_9 : decode method_3_code 9 = .ok (.if_icmp .lt 7, 3) := by decide +kernel
theorem d3_12 : decode method_3_code 12 = .ok (.ldc2_w 20, 3) := by decide +kernel
theorem d3_15 : decode method_3_code 15 = .ok (.lreturn, 1) := by decide +kernel
theorem d3_16 : decode method_3_code 16 = .ok (.lconst 1, 1) := by decide +kernel
theorem d3_17 : decode method_3_code 17 = .ok (.iload_n 0, 1) := by decide +kernel
theorem d3_18 : decode method_3_code 18 = .ok (.lshl, 1) := by decide +kernel
theorem d3_19 : decode method_3_code 19 = .ok (.lconst 1, 1) := by decide +kernel
theorem d3_20 : decode method_3_code 20 = .ok (.lsub, 1) := by decide +kernel
theorem d3_21 : decode method_3_code 21 = .ok (.lreturn, 1) := by decide +kernel
theorem pn_3 : plainName "com/example/tracefold/tracefold/formula/WindowPutPinLaw" = true := by first | (simp [plainName, overriddenIn]; done) | decide +kernel
theorem ef_3 (m : MethodId) (p0 : Int32) : entryFrame m #[.int p0] 1 = mkF m 0 #[.val (.int p0)] [] := by first | (simp [entryFrame, mkF, argsToLocals, Value.category]; done) | rfl
set_option maxRecDepth 65536 in
set_option maxHeartbeats 40000000 in
theorem ct_3 (l : Launch) (Z : State) (a0 : Array Value) (hw : ∀ d ∈ tables_1, d.before a0 Z = true) {h0 : Heap} {n0 : Nat} (zs : n0 ≤ h0.size) (p0 : Int32)  :
    CtK l Z (⟨"com/example/tracefold/tracefold/formula/WindowPutPinLaw", "lowMask", "(I)J"⟩ : MethodName) method_3_code 1 (some .long) ({ frames := 0, cells := 0, slots := 0, locals := 0 } : Room) #[.int p0] h0 n0 (QJ (fun z h => own_LM z p0.toInt ∧ h = h0)) := by
  refine CtK.of (plainFor_of_name pn_3) ?_
  intro p e s m below meth c T0 X0 hx hZ hby hml hown hnm hret hlk
  refine GoK.entry (ef_3 m p0) ?_
  replace hown : s.vm.findClass "com/example/tracefold/tracefold/formula/WindowPutPinLaw" = some m.cls := hown
  refine go_iloadN (pc' := 1) X0 hx (hb hby d3_0) rfl rfl ?_
  refine go_ifgt (pc' := 4) (pcT := 6) X0 hx (hb hby d3_1) rfl (by decide) (by decide) (fun c1 => ?_) (fun c1 => ?_)
  · refine go_iloadN (pc' := 7) X0 hx (hb hby d3_6) rfl rfl ?_
    refine go_bipush (pc' := 9) (v := 64) X0 hx (hb hby d3_7) rfl rfl ?_
    refine go_icmplt (pc' := 12) (pcT := 16) X0 hx (hb hby d3_9) rfl (by decide) (by decide) (fun c9_t => ?_) (fun c9_t => ?_)
    · refine go_lconst (pc' := 17) (v := 1) X0 hx (hb hby d3_16) rfl rfl ?_
      refine go_iloadN (pc' := 18) X0 hx (hb hby d3_17) rfl rfl ?_
      refine go_lshl (pc' := 19) X0 hx (hb hby d3_18) rfl ?_
      refine go_lconst (pc' := 20) (v := 1) X0 hx (hb hby d3_19) rfl rfl ?_
      refine go_lsub (pc' := 21) X0 hx (hb hby d3_20) rfl ?_
      refine go_retJ X0 hx hret hlk (hb hby d3_21) (by decide) (by decide) ?_
      exact ⟨own_lm2 (by have := own_ltI c1; have := own_k0; omega) (by have := own_ltI c9_t; have := own_k64; omega), rfl⟩
    · refine go_ldc2 (pc' := 15) X0 hx hZ hown (hw _ (List.mem_of_getElem? (i := 13) rfl)) (hb hby d3_12) rfl ?_
      refine go_retJ X0 hx hret hlk (hb hby d3_15) (by decide) (by decide) ?_
      exact ⟨own_lm1 (by have := own_geI c9_t; have := own_k64; omega), rfl⟩
  · refine go_lconst (pc' := 5) (v := 0) X0 hx (hb hby d3_4) rfl rfl ?_
    refine go_retJ X0 hx hret hlk (hb hby d3_5) (by decide) (by decide) ?_
    exact ⟨own_lm0 (by have := own_geI c1; have := own_k0; omega), rfl⟩
theorem d2_0 : decode method_4_code 0 = .ok (.iload_n 3, 1) := by decide +kernel
theorem d2_1 : decode method_4_code 1 = .ok (.iload 4, 2) := by decide +kernel
theorem d2_3 : decode method_4_code 3 = .ok (.iadd, 1) := by decide +kernel
theorem d2_4 : decode method_4_code 4 = .ok (.iload_n 2, 1) := by decide +kernel
theorem d2_5 : decode method_4_code 5 = .ok (.isub, 1) := by decide +kernel
theorem d2_6 : decode method_4_code 6 = .ok (.invokestatic 22, 3) := by decide +kernel
theorem d2_9 : decode method_4_code 9 = .ok (.iload_n 3, 1) := by decide +kernel
theorem d2_10 : decode method_4_code 10 = .ok (.iload_n 2, 1) := by decide +kernel
theorem d2_11 : decode method_4_code 11 = .ok (.isub, 1) := by decide +kernel
theorem d2_12 : decode method_4_code 12 = .ok (.invokestatic 22, 3) := by decide +kernel
theorem d2_15 : decode method_4_code 15 = .ok (.ldc2_w 20, 3) := by decide +kernel
theorem d2_18 : decode method_4_code 18 = .ok (.lxor, 1) := by decide +kernel
theorem d2_19 : decode method_4_code 19 = .ok (.land, 1) := by decide +kernel
theorem d2_20 : decode method_4_code 20 = .ok (.lstore 7, 2) := by decide +kernel
theorem d2_22 : decode method_4_code 22 = .ok (.iload_n 3, 1) := by decide +kernel
theorem d2_23 : decode method_4_code 23 = .ok (.iload_n 2, 1) := by decide +kernel
theorem d2_24 : decode method_4_code 24 = .ok (.isub, 1) := by decide +kernel
theorem d2_25 : decode method_4_code 25 = .ok (.istore 9, 2) := by decide +kernel
theorem d2_27 : decode method_4_code 27 = .ok (.iload 9, 2) := by decide +kernel
theorem d2_29 : decode method_4_code 29 = .ok (.bipush 64, 2) := by decide +kernel
theorem d2_31 : decode method_4_code 31 = .ok (.if_icmp .ge 10, 3) := by decide +kernel
theorem d2_34 : decode method_4_code 34 = .ok (.iload 9, 2) := by decide +kernel
theorem d2_36 : decode method_4_code 36 = .ok (.bipush (-64), 2) := by decide +kernel
theorem d2_38 : decode method_4_code 38 = .ok (.if_icmp .gt 9, 3) := by decide +kernel
theorem d2_41 : decode method_4_code 41 = .ok (.lconst 0, 1) := by decide +kernel
theorem d2_42 : decode method_4_code 42 = .ok (.lstore 10, 2) := by decide +kernel
theorem d2_44 : decode method_4_code 44 = .ok (.goto 26, 3) := by decide +kernel
theorem d2_47 : decode method_4_code 47 = .ok (.iload 9, 2) := by decide +kernel
theorem d2_49 : decode method_4_code 49 = .ok (.ifCond .lt 13, 3) := by decide +kernel
theorem d2_52 : decode method_4_code 52 = .ok (.lload 5, 2) := by decide +kernel
theorem d2_54 : decode method_4_code 54 = .ok (.iload 9, 2) := by decide +kernel
theorem d2_56 : decode method_4_code 56 = .ok (.lshl, 1) := by decide +kernel
theorem d2_57 : decode method_4_code 57 = .ok (.lstore 10, 2) := by decide +kernel
theorem d2_59 : decode method_4_code 59 = .ok (.goto 11, 3) := by decide +kernel
theorem d2_62 : decode method_4_code 62 = .ok (.lload 5, 2) := by decide +kernel
theorem d2_64 : decode method_4_code 64 = .ok (.iload 9, 2) := by decide +kernel
theorem d2_66 : decode method_4_code 66 = .ok (.ineg, 1) := by decide +kernel
theorem d2_67 : decode method_4_code 67 = .ok (.lushr, 1) := by decide +kernel
theorem d2_68 : decode method_4_code 68 = .ok (.lstore 10, 2) := by decide +kernel
theorem d2_70 : decode method_4_code 70 = .ok (.lload_n 0, 1) := by decide +kernel
theorem d2_71 : decode method_4_code 71 = .ok (.lload 7, 2) := by decide +kernel
theorem d2_73 : decode method_4_code 73 = .ok (.ldc2_w 20, 3) := by decide +kernel
theorem d2_76 : decode method_4_code 76 = .ok (.lxor, 1) := by decide +kernel
theorem d2_77 : decode method_4_code 77 = .ok (.land, 1) := by decide +kernel
theorem d2_78 : decode method_4_code 78 = .ok (.lload 10, 2) := by decide +kernel
theorem d2_80 : decode method_4_code 80 = .ok (.lload 7, 2) := by decide +kernel
theorem d2_82 : decode method_4_code 82 = .ok (.land, 1) := by decide +kernel
theorem d2_83 : decode method_4_code 83 = .ok (.lor, 1) := by decide +kernel
theorem d2_84 : decode method_4_code 84 = .ok (.lreturn, 1) := by decide +kernel
theorem pn_2 : plainName "com/example/tracefold/tracefold/formula/WindowPutPinLaw" = true := by first | (simp [plainName, overriddenIn]; done) | decide +kernel
theorem ef_2 (m : MethodId) (q0 : Int64) (p1 : Int32) (p2 : Int32) (p3 : Int32) (q4 : Int64) : entryFrame m #[.long q0, .int p1, .int p2, .int p3, .long q4] 12 = mkF m 0 #[.val (.long q0), .second, .val (.int p1), .val (.int p2), .val (.int p3), .val (.long q4), .second, .unset, .unset, .unset, .unset, .unset] [] := by first | (simp [entryFrame, mkF, argsToLocals, Value.category]; done) | rfl
set_option maxRecDepth 65536 in
set_option maxHeartbeats 40000000 in
theorem ct_2 (l : Launch) (Z : State) (a0 : Array Value) (hw : ∀ d ∈ tables_1, d.before a0 Z = true) {h0 : Heap} {n0 : Nat} (zs : n0 ≤ h0.size) (q0 : Int64) (p1 : Int32) (p2 : Int32) (p3 : Int32) (q4 : Int64) (B : Int) (hB : p1.toInt = B) (b0 : 0 ≤ B) (b1 : B ≤ 128) (a0' : 0 ≤ p2.toInt) (a1' : p2.toInt ≤ 192) (n0' : 0 ≤ p3.toInt) (n1' : p3.toInt ≤ 62) (hv : own_low q4 p3.toInt) :
    CtK l Z (⟨"com/example/tracefold/tracefold/formula/WindowPutPinLaw", "expect", "(JIIIJ)J"⟩ : MethodName) method_4_code 12 (some .long) ({ frames := 1, cells := 0, slots := 0, locals := 16 } : Room) #[.long q0, .int p1, .int p2, .int p3, .long q4] h0 n0 (QJ (fun z h => own_spec q0 B p2.toInt p3.toInt q4 z ∧ h = h0)) := by
  refine CtK.of (plainFor_of_name pn_2) ?_
  intro p e s m below meth c T0 X0 hx hZ hby hml hown hnm hret hlk
  refine GoK.entry (ef_2 m q0 p1 p2 p3 q4) ?_
  replace hown : s.vm.findClass "com/example/tracefold/tracefold/formula/WindowPutPinLaw" = some m.cls := hown
  refine go_iloadN (pc' := 1) X0 hx (hb hby d2_0) rfl rfl ?_
  refine go_iload (pc' := 3) X0 hx (hb hby d2_1) rfl rfl ?_
  refine go_iadd (pc' := 4) X0 hx (hb hby d2_3) rfl ?_
  refine go_iloadN (pc' := 5) X0 hx (hb hby d2_4) rfl rfl ?_
  refine go_isub (pc' := 6) X0 hx (hb hby d2_5) rfl ?_
  refine go_callS (pc' := 9) (W := 0) (cells' := 0) (slots' := 0) (rm := ({ frames := 0, cells := 0, slots := 0, locals := 0 } : Room)) (aL := [.int ((p2 + p3) - p1)]) (St := []) X0 hx hZ hown (by rw [hml]; rfl) (hw _ (List.mem_of_getElem? (i := 10) rfl)) (hw _ (List.mem_of_getElem? (i := 11) rfl)) (hw _ (List.mem_of_getElem? (i := 8) rfl)) (hw _ (List.mem_of_getElem? (i := 12) rfl)) (by decide) pd_0 rfl (ct_3 l Z a0 hw zs ((p2 + p3) - p1)) (hb hby d2_6) rfl (by decide) (Nat.le_of_eq rfl) (by decide) (by decide) (by decide) rfl rfl (fun T1 h1 v1 X1 Q1 => ?_) rfl
  obtain ⟨z1, rfl, hz1, eh1⟩ := Q1
  subst h1
  show GoK p e below _ T1 (mkF m 9 #[.val (.long q0), .second, .val (.int p1), .val (.int p2), .val (.int p3), .val (.long q4), .second, .unset, .unset, .unset, .unset, .unset] [.long z1])
  refine go_iloadN (pc' := 10) X1 hx (hb hby d2_9) rfl rfl ?_
  refine go_iloadN (pc' := 11) X1 hx (hb hby d2_10) rfl rfl ?_
  refine go_isub (pc' := 12) X1 hx (hb hby d2_11) rfl ?_
  refine go_callS (pc' := 15) (W := 2) (cells' := 0) (slots' := 0) (rm := ({ frames := 0, cells := 0, slots := 0, locals := 0 } : Room)) (aL := [.int (p2 - p1)]) (St := [.long z1]) X1 hx hZ hown (by rw [hml]; rfl) (hw _ (List.mem_of_getElem? (i := 10) rfl)) (hw _ (List.mem_of_getElem? (i := 11) rfl)) (hw _ (List.mem_of_getElem? (i := 8) rfl)) (hw _ (List.mem_of_getElem? (i := 12) rfl)) (by decide) pd_0 rfl (ct_3 l Z a0 hw zs (p2 - p1)) (hb hby d2_12) rfl (by decide) (Nat.le_of_eq rfl) (by decide) (by decide) (by decide) rfl rfl (fun T2 h2 v2 X2 Q2 => ?_) rfl
  obtain ⟨z2, rfl, hz2, eh2⟩ := Q2
  subst h2
  show GoK p e below _ T2 (mkF m 15 #[.val (.long q0), .second, .val (.int p1), .val (.int p2), .val (.int p3), .val (.long q4), .second, .unset, .unset, .unset, .unset, .unset] [.long z2, .long z1])
  refine go_ldc2 (pc' := 18) X2 hx hZ hown (hw _ (List.mem_of_getElem? (i := 13) rfl)) (hb hby d2_15) rfl ?_
  refine go_lxor (pc' := 19) X2 hx (hb hby d2_18) rfl ?_
  refine go_land (pc' := 20) X2 hx (hb hby d2_19) rfl ?_
  refine go_nameJ (fun v7_20 hv7_20 => ?_)
  refine go_lstore (pc' := 22) (L' := #[.val (.long q0), .second, .val (.int p1), .val (.int p2), .val (.int p3), .val (.long q4), .second, .val (.long v7_20), .second, .unset, .unset, .unset]) X2 hx (hb hby d2_20) rfl rfl ?_
  refine go_iloadN (pc' := 23) X2 hx (hb hby d2_22) rfl rfl ?_
  refine go_iloadN (pc' := 24) X2 hx (hb hby d2_23) rfl rfl ?_
  refine go_isub (pc' := 25) X2 hx (hb hby d2_24) rfl ?_
  refine go_nameI (fun v9_25 hv9_25 => ?_)
  refine go_istore (pc' := 27) (L' := #[.val (.long q0), .second, .val (.int p1), .val (.int p2), .val (.int p3), .val (.long q4), .second, .val (.long v7_20), .second, .val (.int v9_25), .unset, .unset]) X2 hx (hb hby d2_25) rfl rfl ?_
  refine go_iload (pc' := 29) X2 hx (hb hby d2_27) rfl rfl ?_
  refine go_bipush (pc' := 31) (v := 64) X2 hx (hb hby d2_29) rfl rfl ?_
  refine go_icmpge (pc' := 34) (pcT := 41) X2 hx (hb hby d2_31) rfl (by decide) (by decide) (fun c31 => ?_) (fun c31 => ?_)
  · refine go_lconst (pc' := 42) (v := 0) X2 hx (hb hby d2_41) rfl rfl ?_
    refine go_lstore (pc' := 44) (L' := #[.val (.long q0), .second, .val (.int p1), .val (.int p2), .val (.int p3), .val (.long q4), .second, .val (.long v7_20), .second, .val (.int v9_25), .val (.long (0 : Int64)), .second]) X2 hx (hb hby d2_42) rfl rfl ?_
    refine go_goto (pc' := 70) X2 hx (hb hby d2_44) (by decide) (by decide) ?_
    refine go_lloadN (pc' := 71) X2 hx (hb hby d2_70) rfl rfl ?_
    refine go_lload (pc' := 73) X2 hx (hb hby d2_71) rfl rfl ?_
    refine go_ldc2 (pc' := 76) X2 hx hZ hown (hw _ (List.mem_of_getElem? (i := 13) rfl)) (hb hby d2_73) rfl ?_
    refine go_lxor (pc' := 77) X2 hx (hb hby d2_76) rfl ?_
    refine go_land (pc' := 78) X2 hx (hb hby d2_77) rfl ?_
    refine go_lload (pc' := 80) X2 hx (hb hby d2_78) rfl rfl ?_
    refine go_lload (pc' := 82) X2 hx (hb hby d2_80) rfl rfl ?_
    refine go_land (pc' := 83) X2 hx (hb hby d2_82) rfl ?_
    refine go_lor (pc' := 84) X2 hx (hb hby d2_83) rfl ?_
    refine go_retJ X2 hx hret hlk (hb hby d2_84) (by decide) (by decide) ?_
    refine ⟨?_, rfl⟩
    have e1 : (p2 + p3 - p1).toInt = p2.toInt + p3.toInt - B := by rw [Jvm.Free.XT.sub32 ⟨by rw [Jvm.Free.XT.add32 ⟨by omega, by omega⟩]; omega, by rw [Jvm.Free.XT.add32 ⟨by omega, by omega⟩]; omega⟩, Jvm.Free.XT.add32 ⟨by omega, by omega⟩, hB]
    have e2 : (p2 - p1).toInt = p2.toInt - B := by rw [Jvm.Free.XT.sub32 ⟨by omega, by omega⟩, hB]
    have hd : v9_25.toInt = p2.toInt - B := by rw [hv9_25, e2]
    rw [e1] at hz1
    rw [e2] at hz2
    rw [hv7_20]
    have k0 := own_k0
    have k64 := own_k64
    have km := own_km64
    refine own_exp hz1 hz2 (own_s0 hv n0' n1' (Or.inl (by have := own_geI c31; omega)))
  · refine go_iload (pc' := 36) X2 hx (hb hby d2_34) rfl rfl ?_
    refine go_bipush (pc' := 38) (v := -64) X2 hx (hb hby d2_36) rfl rfl ?_
    refine go_icmpgt (pc' := 41) (pcT := 47) X2 hx (hb hby d2_38) rfl (by decide) (by decide) (fun c38_f => ?_) (fun c38_f => ?_)
    · refine go_iload (pc' := 49) X2 hx (hb hby d2_47) rfl rfl ?_
      refine go_iflt (pc' := 52) (pcT := 62) X2 hx (hb hby d2_49) rfl (by decide) (by decide) (fun c49_ft => ?_) (fun c49_ft => ?_)
      · refine go_lload (pc' := 64) X2 hx (hb hby d2_62) rfl rfl ?_
        refine go_iload (pc' := 66) X2 hx (hb hby d2_64) rfl rfl ?_
        refine go_ineg (pc' := 67) X2 hx (hb hby d2_66) rfl ?_
        refine go_lushr (pc' := 68) X2 hx (hb hby d2_67) rfl ?_
        refine go_nameJ (fun v10_68_ftt hv10_68_ftt => ?_)
        refine go_lstore (pc' := 70) (L' := #[.val (.long q0), .second, .val (.int p1), .val (.int p2), .val (.int p3), .val (.long q4), .second, .val (.long v7_20), .second, .val (.int v9_25), .val (.long v10_68_ftt), .second]) X2 hx (hb hby d2_68) rfl rfl ?_
        refine go_lloadN (pc' := 71) X2 hx (hb hby d2_70) rfl rfl ?_
        refine go_lload (pc' := 73) X2 hx (hb hby d2_71) rfl rfl ?_
        refine go_ldc2 (pc' := 76) X2 hx hZ hown (hw _ (List.mem_of_getElem? (i := 13) rfl)) (hb hby d2_73) rfl ?_
        refine go_lxor (pc' := 77) X2 hx (hb hby d2_76) rfl ?_
        refine go_land (pc' := 78) X2 hx (hb hby d2_77) rfl ?_
        refine go_lload (pc' := 80) X2 hx (hb hby d2_78) rfl rfl ?_
        refine go_lload (pc' := 82) X2 hx (hb hby d2_80) rfl rfl ?_
        refine go_land (pc' := 83) X2 hx (hb hby d2_82) rfl ?_
        refine go_lor (pc' := 84) X2 hx (hb hby d2_83) rfl ?_
        refine go_retJ X2 hx hret hlk (hb hby d2_84) (by decide) (by decide) ?_
        refine ⟨?_, rfl⟩
        have e1 : (p2 + p3 - p1).toInt = p2.toInt + p3.toInt - B := by rw [Jvm.Free.XT.sub32 ⟨by rw [Jvm.Free.XT.add32 ⟨by omega, by omega⟩]; omega, by rw [Jvm.Free.XT.add32 ⟨by omega, by omega⟩]; omega⟩, Jvm.Free.XT.add32 ⟨by omega, by omega⟩, hB]
        have e2 : (p2 - p1).toInt = p2.toInt - B := by rw [Jvm.Free.XT.sub32 ⟨by omega, by omega⟩, hB]
        have hd : v9_25.toInt = p2.toInt - B := by rw [hv9_25, e2]
        rw [e1] at hz1
        rw [e2] at hz2
        rw [hv7_20]
        have k0 := own_k0
        have k64 := own_k64
        have km := own_km64
        rw [hv10_68_ftt]; exact own_exp hz1 hz2 (own_s2 hd (by have := own_ltI c49_ft; omega) (by have := own_ltI c38_f; omega))
      · refine go_lload (pc' := 54) X2 hx (hb hby d2_52) rfl rfl ?_
        refine go_iload (pc' := 56) X2 hx (hb hby d2_54) rfl rfl ?_
        refine go_lshl (pc' := 57) X2 hx (hb hby d2_56) rfl ?_
        refine go_nameJ (fun v10_57_ftf hv10_57_ftf => ?_)
        refine go_lstore (pc' := 59) (L' := #[.val (.long q0), .second, .val (.int p1), .val (.int p2), .val (.int p3), .val (.long q4), .second, .val (.long v7_20), .second, .val (.int v9_25), .val (.long v10_57_ftf), .second]) X2 hx (hb hby d2_57) rfl rfl ?_
        refine go_goto (pc' := 70) X2 hx (hb hby d2_59) (by decide) (by decide) ?_
        refine go_lloadN (pc' := 71) X2 hx (hb hby d2_70) rfl rfl ?_
        refine go_lload (pc' := 73) X2 hx (hb hby d2_71) rfl rfl ?_
        refine go_ldc2 (pc' := 76) X2 hx hZ hown (hw _ (List.mem_of_getElem? (i := 13) rfl)) (hb hby d2_73) rfl ?_
        refine go_lxor (pc' := 77) X2 hx (hb hby d2_76) rfl ?_
        refine go_land (pc' := 78) X2 hx (hb hby d2_77) rfl ?_
        refine go_lload (pc' := 80) X2 hx (hb hby d2_78) rfl rfl ?_
        refine go_lload (pc' := 82) X2 hx (hb hby d2_80) rfl rfl ?_
        refine go_land (pc' := 83) X2 hx (hb hby d2_82) rfl ?_
        refine go_lor (pc' := 84) X2 hx (hb hby d2_83) rfl ?_
        refine go_retJ X2 hx hret hlk (hb hby d2_84) (by decide) (by decide) ?_
        refine ⟨?_, rfl⟩
        have e1 : (p2 + p3 - p1).toInt = p2.toInt + p3.toInt - B := by rw [Jvm.Free.XT.sub32 ⟨by rw [Jvm.Free.XT.add32 ⟨by omega, by omega⟩]; omega, by rw [Jvm.Free.XT.add32 ⟨by omega, by omega⟩]; omega⟩, Jvm.Free.XT.add32 ⟨by omega, by omega⟩, hB]
        have e2 : (p2 - p1).toInt = p2.toInt - B := by rw [Jvm.Free.XT.sub32 ⟨by omega, by omega⟩, hB]
        have hd : v9_25.toInt = p2.toInt - B := by rw [hv9_25, e2]
        rw [e1] at hz1
        rw [e2] at hz2
        rw [hv7_20]
        have k0 := own_k0
        have k64 := own_k64
        have km := own_km64
        rw [hv10_57_ftf]; exact own_exp hz1 hz2 (own_s1 hd (by have := own_geI c49_ft; omega) (by have := own_ltI c31; omega))
    · refine go_lconst (pc' := 42) (v := 0) X2 hx (hb hby d2_41) rfl rfl ?_
      refine go_lstore (pc' := 44) (L' := #[.val (.long q0), .second, .val (.int p1), .val (.int p2), .val (.int p3), .val (.long q4), .second, .val (.long v7_20), .second, .val (.int v9_25), .val (.long (0 : Int64)), .second]) X2 hx (hb hby d2_42) rfl rfl ?_
      refine go_goto (pc' := 70) X2 hx (hb hby d2_44) (by decide) (by decide) ?_
      refine go_lloadN (pc' := 71) X2 hx (hb hby d2_70) rfl rfl ?_
      refine go_lload (pc' := 73) X2 hx (hb hby d2_71) rfl rfl ?_
      refine go_ldc2 (pc' := 76) X2 hx hZ hown (hw _ (List.mem_of_getElem? (i := 13) rfl)) (hb hby d2_73) rfl ?_
      refine go_lxor (pc' := 77) X2 hx (hb hby d2_76) rfl ?_
      refine go_land (pc' := 78) X2 hx (hb hby d2_77) rfl ?_
      refine go_lload (pc' := 80) X2 hx (hb hby d2_78) rfl rfl ?_
      refine go_lload (pc' := 82) X2 hx (hb hby d2_80) rfl rfl ?_
      refine go_land (pc' := 83) X2 hx (hb hby d2_82) rfl ?_
      refine go_lor (pc' := 84) X2 hx (hb hby d2_83) rfl ?_
      refine go_retJ X2 hx hret hlk (hb hby d2_84) (by decide) (by decide) ?_
      refine ⟨?_, rfl⟩
      have e1 : (p2 + p3 - p1).toInt = p2.toInt + p3.toInt - B := by rw [Jvm.Free.XT.sub32 ⟨by rw [Jvm.Free.XT.add32 ⟨by omega, by omega⟩]; omega, by rw [Jvm.Free.XT.add32 ⟨by omega, by omega⟩]; omega⟩, Jvm.Free.XT.add32 ⟨by omega, by omega⟩, hB]
      have e2 : (p2 - p1).toInt = p2.toInt - B := by rw [Jvm.Free.XT.sub32 ⟨by omega, by omega⟩, hB]
      have hd : v9_25.toInt = p2.toInt - B := by rw [hv9_25, e2]
      rw [e1] at hz1
      rw [e2] at hz2
      rw [hv7_20]
      have k0 := own_k0
      have k64 := own_k64
      have km := own_km64
      refine own_exp hz1 hz2 (own_s0 hv n0' n1' (Or.inr (by have := own_geI c38_f; omega)))
theorem d1_0 : decode prog_124_method_16_code 0 = .ok (.iload_n 2, 1) := by decide +kernel
theorem d1_1 : decode prog_124_method_16_code 1 = .ok (.ifCond .ne 4, 3) := by decide +kernel
theorem d1_4 : decode prog_124_method_16_code 4 = .ok (.return_, 1) := by decide +kernel
theorem d1_5 : decode prog_124_method_16_code 5 = .ok (.iload_n 1, 1) := by decide +kernel
theorem d1_6 : decode prog_124_method_16_code 6 = .ok (.bipush 6, 2) := by decide +kernel
theorem d1_8 : decode prog_124_method_16_code 8 = .ok (.iushr, 1) := by decide +kernel
theorem d1_9 : decode prog_124_method_16_code 9 = .ok (.istore 5, 2) := by decide +kernel
theorem d1_11 : decode prog_124_method_16_code 11 = .ok (.iload_n 1, 1) := by decide +kernel
theorem d1_12 : decode prog_124_method_16_code 12 = .ok (.bipush 63, 2) := by decide +kernel
theorem d1_14 : decode prog_124_method_16_code 14 = .ok (.iand, 1) := by decide +kernel
theorem d1_15 : decode prog_124_method_16_code 15 = .ok (.istore 6, 2) := by decide +kernel
theorem d1_17 : decode prog_124_method_16_code 17 = .ok (.lconst 1, 1) := by decide +kernel
theorem d1_18 : decode prog_124_method_16_code 18 = .ok (.iload_n 2, 1) := by decide +kernel
theorem d1_19 : decode prog_124_method_16_code 19 = .ok (.lshl, 1) := by decide +kernel
theorem d1_20 : decode prog_124_method_16_code 20 = .ok (.lconst 1, 1) := by decide +kernel
theorem d1_21 : decode prog_124_method_16_code 21 = .ok (.lsub, 1) := by decide +kernel
theorem d1_22 : decode prog_124_method_16_code 22 = .ok (.lstore 7, 2) := by decide +kernel
theorem d1_24 : decode prog_124_method_16_code 24 = .ok (.aload_n 0, 1) := by decide +kernel
theorem d1_25 : decode prog_124_method_16_code 25 = .ok (.iload 5, 2) := by decide +kernel
theorem d1_27 : decode prog_124_method_16_code 27 = .ok (.aload_n 0, 1) := by decide +kernel
theorem d1_28 : decode prog_124_method_16_code 28 = .ok (.iload 5, 2) := by decide +kernel
theorem d1_30 : decode prog_124_method_16_code 30 = .ok (.laload, 1) := by decide +kernel
theorem d1_31 : decode prog_124_method_16_code 31 = .ok (.lload 7, 2) := by decide +kernel
theorem d1_33 : decode prog_124_method_16_code 33 = .ok (.iload 6, 2) := by decide +kernel
theorem d1_35 : decode prog_124_method_16_code 35 = .ok (.lshl, 1) := by decide +kernel
theorem d1_36 : decode prog_124_method_16_code 36 = .ok (.ldc2_w 129, 3) := by decide +kernel
theorem d1_39 : decode prog_124_method_16_code 39 = .ok (.lxor, 1) := by decide +kernel
theorem d1_40 : decode prog_124_method_16_code 40 = .ok (.land, 1) := by decide +kernel
theorem d1_41 : decode prog_124_method_16_code 41 = .ok (.lload_n 3, 1) := by decide +kernel
theorem d1_42 : decode prog_124_method_16_code 42 = .ok (.iload 6, 2) := by decide +kernel
theorem d1_44 : decode prog_124_method_16_code 44 = .ok (.lshl, 1) := by decide +kernel
theorem d1_45 : decode prog_124_method_16_code 45 = .ok (.lor, 1) := by decide +kernel
theorem d1_46 : decode prog_124_method_16_code 46 = .ok (.lastore, 1) := by decide +kernel
theorem d1_47 : decode prog_124_method_16_code 47 = .ok (.iload 6, 2) := by decide +kernel
theorem d1_49 : decode prog_124_method_16_code 49 = .ok (.iload_n 2, 1) := by decide +kernel
theorem d1_50 : decode prog_124_method_16_code 50 = .ok (.iadd, 1) := by decide +kernel
theorem d1_51 : decode prog_124_method_16_code 51 = .ok (.bipush 64, 2) := by decide +kernel
theorem d1_53 : decode prog_124_method_16_code 53 = .ok (.if_icmp .le 37, 3) := by decide +kernel
theorem d1_56 : decode prog_124_method_16_code 56 = .ok (.bipush 64, 2) := by decide +kernel
theorem d1_58 : decode prog_124_method_16_code 58 = .ok (.iload 6, 2) := by decide +kernel
theorem d1_60 : decode prog_124_method_16_code 60 = .ok (.isub, 1) := by decide +kernel
theorem d1_61 : decode prog_124_method_16_code 61 = .ok (.istore 9, 2) := by decide +kernel
theorem d1_63 : decode prog_124_method_16_code 63 = .ok (.aload_n 0, 1) := by decide +kernel
theorem d1_64 : decode prog_124_method_16_code 64 = .ok (.iload 5, 2) := by decide +kernel
theorem d1_66 : decode prog_124_method_16_code 66 = .ok (.iconst 1, 1) := by decide +kernel
theorem d1_67 : decode prog_124_method_16_code 67 = .ok (.iadd, 1) := by decide +kernel
theorem d1_68 : decode prog_124_method_16_code 68 = .ok (.aload_n 0, 1) := by decide +kernel
theorem d1_69 : decode prog_124_method_16_code 69 = .ok (.iload 5, 2) := by decide +kernel
theorem d1_71 : decode prog_124_method_16_code 71 = .ok (.iconst 1, 1) := by decide +kernel
theorem d1_72 : decode prog_124_method_16_code 72 = .ok (.iadd, 1) := by decide +kernel
theorem d1_73 : decode prog_124_method_16_code 73 = .ok (.laload, 1) := by decide +kernel
theorem d1_74 : decode prog_124_method_16_code 74 = .ok (.lload 7, 2) := by decide +kernel
theorem d1_76 : decode prog_124_method_16_code 76 = .ok (.iload 9, 2) := by decide +kernel
theorem d1_78 : decode prog_124_method_16_code 78 = .ok (.lushr, 1) := by decide +kernel
theorem d1_79 : decode prog_124_method_16_code 79 = .ok (.ldc2_w 129, 3) := by decide +kernel
theorem d1_82 : decode prog_124_method_16_code 82 = .ok (.lxor, 1) := by decide +kernel
theorem d1_83 : decode prog_124_method_16_code 83 = .ok (.land, 1) := by decide +kernel
theorem d1_84 : decode prog_124_method_16_code 84 = .ok (.lload_n 3, 1) := by decide +kernel
theorem d1_85 : decode prog_124_method_16_code 85 = .ok (.iload 9, 2) := by decide +kernel
theorem d1_87 : decode prog_124_method_16_code 87 = .ok (.lushr, 1) := by decide +kernel
theorem d1_88 : decode prog_124_method_16_code 88 = .ok (.lor, 1) := by decide +kernel
theorem d1_89 : decode prog_124_method_16_code 89 = .ok (.lastore, 1) := by decide +kernel
theorem d1_90 : decode prog_124_method_16_code 90 = .ok (.return_, 1) := by decide +kernel
theorem pn_1 : plainName "com/example/tracefold/tracefold/formula/Window" = true := by first | (simp [plainName, overriddenIn]; done) | decide +kernel
theorem ef_1 (m : MethodId) (r0 : Addr) (p1 : Int32) (p2 : Int32) (q3 : Int64) : entryFrame m #[.ref r0, .int p1, .int p2, .long q3] 10 = mkF m 0 #[.val (.ref r0), .val (.int p1), .val (.int p2), .val (.long q3), .second, .unset, .unset, .unset, .unset, .unset] [] := by first | (simp [entryFrame, mkF, argsToLocals, Value.category]; done) | rfl
set_option maxRecDepth 65536 in
set_option maxHeartbeats 40000000 in
theorem ct_1 (l : Launch) (Z : State) (a0 : Array Value) (hw : ∀ d ∈ tables_1, d.before a0 Z = true) {h0 : Heap} {n0 : Nat} (zs : n0 ≤ h0.size) (r0 : Addr) (p1 : Int32) (p2 : Int32) (q3 : Int64) (g : Int → Int64) (A_r0 : AJK Z h0 r0 3 g) (g_r0 : n0 ≤ r0) (a0' : 0 ≤ p1.toInt) (a1' : p1.toInt + p2.toInt ≤ 192) (n0' : 0 ≤ p2.toInt) (n1' : p2.toInt ≤ 62) (hv : own_low q3 p2.toInt) :
    CtK l Z (⟨"com/example/tracefold/tracefold/formula/Window", "put", "([JIIJ)V"⟩ : MethodName) prog_124_method_16_code 10 none ({ frames := 0, cells := 0, slots := 0, locals := 0 } : Room) #[.ref r0, .int p1, .int p2, .long q3] h0 n0 (QV (fun h => Keep h0 h [r0] ∧ ∃ g' : Int → Int64, AJK Z h r0 3 g' ∧ own_spec (g 0) 0 p1.toInt p2.toInt q3 (g' 0) ∧ own_spec (g 1) 64 p1.toInt p2.toInt q3 (g' 1) ∧ own_spec (g 2) 128 p1.toInt p2.toInt q3 (g' 2))) := by
  refine CtK.of (plainFor_of_name pn_1) ?_
  intro p e s m below meth c T0 X0 hx hZ hby hml hown hnm hret hlk
  refine GoK.entry (ef_1 m r0 p1 p2 q3) ?_
  replace hown : s.vm.findClass "com/example/tracefold/tracefold/formula/Window" = some m.cls := hown
  have K := Keep.refl h0 [r0]
  refine go_iloadN (pc' := 1) X0 hx (hb hby d1_0) rfl rfl ?_
  refine go_ifne (pc' := 4) (pcT := 5) X0 hx (hb hby d1_1) rfl (by decide) (by decide) (fun c1 => ?_) (fun c1 => ?_)
  · refine go_iloadN (pc' := 6) X0 hx (hb hby d1_5) rfl rfl ?_
    refine go_bipush (pc' := 8) (v := 6) X0 hx (hb hby d1_6) rfl rfl ?_
    refine go_iushr (pc' := 9) X0 hx (hb hby d1_8) rfl ?_
    refine go_nameI (fun v5_9_t hv5_9_t => ?_)
    refine go_istore (pc' := 11) (L' := #[.val (.ref r0), .val (.int p1), .val (.int p2), .val (.long q3), .second, .val (.int v5_9_t), .unset, .unset, .unset, .unset]) X0 hx (hb hby d1_9) rfl rfl ?_
    refine go_iloadN (pc' := 12) X0 hx (hb hby d1_11) rfl rfl ?_
    refine go_bipush (pc' := 14) (v := 63) X0 hx (hb hby d1_12) rfl rfl ?_
    refine go_iand (pc' := 15) X0 hx (hb hby d1_14) rfl ?_
    refine go_nameI (fun v6_15_t hv6_15_t => ?_)
    refine go_istore (pc' := 17) (L' := #[.val (.ref r0), .val (.int p1), .val (.int p2), .val (.long q3), .second, .val (.int v5_9_t), .val (.int v6_15_t), .unset, .unset, .unset]) X0 hx (hb hby d1_15) rfl rfl ?_
    refine go_lconst (pc' := 18) (v := 1) X0 hx (hb hby d1_17) rfl rfl ?_
    refine go_iloadN (pc' := 19) X0 hx (hb hby d1_18) rfl rfl ?_
    refine go_lshl (pc' := 20) X0 hx (hb hby d1_19) rfl ?_
    refine go_lconst (pc' := 21) (v := 1) X0 hx (hb hby d1_20) rfl rfl ?_
    refine go_lsub (pc' := 22) X0 hx (hb hby d1_21) rfl ?_
    refine go_nameJ (fun v7_22_t hv7_22_t => ?_)
    refine go_lstore (pc' := 24) (L' := #[.val (.ref r0), .val (.int p1), .val (.int p2), .val (.long q3), .second, .val (.int v5_9_t), .val (.int v6_15_t), .val (.long v7_22_t), .second, .unset]) X0 hx (hb hby d1_22) rfl rfl ?_
    have i1 := own_idx a0' hv5_9_t
    have i2 := own_off hv6_15_t
    have k0 := own_k0
    have k64 := own_k64
    have nz : p2.toInt ≠ 0 := fun q => c1 (Int32.toInt_inj.mp q)
    refine go_aloadN (pc' := 25) X0 hx (hb hby d1_24) rfl rfl ?_
    refine go_iload (pc' := 27) X0 hx (hb hby d1_25) rfl rfl ?_
    refine go_aloadN (pc' := 28) X0 hx (hb hby d1_27) rfl rfl ?_
    refine go_iload (pc' := 30) X0 hx (hb hby d1_28) rfl rfl ?_
    refine go_laload (pc' := 31) X0 hx hZ A_r0 (by omega) (by omega) (hb hby d1_30) rfl (fun w30_t hw30_t => ?_)
    refine go_lload (pc' := 33) X0 hx (hb hby d1_31) rfl rfl ?_
    refine go_iload (pc' := 35) X0 hx (hb hby d1_33) rfl rfl ?_
    refine go_lshl (pc' := 36) X0 hx (hb hby d1_35) rfl ?_
    refine go_ldc2 (pc' := 39) X0 hx hZ hown (hw _ (List.mem_of_getElem? (i := 14) rfl)) (hb hby d1_36) rfl ?_
    refine go_lxor (pc' := 40) X0 hx (hb hby d1_39) rfl ?_
    refine go_land (pc' := 41) X0 hx (hb hby d1_40) rfl ?_
    refine go_lloadN (pc' := 42) X0 hx (hb hby d1_41) rfl rfl ?_
    refine go_iload (pc' := 44) X0 hx (hb hby d1_42) rfl rfl ?_
    refine go_lshl (pc' := 45) X0 hx (hb hby d1_44) rfl ?_
    refine go_lor (pc' := 46) X0 hx (hb hby d1_45) rfl ?_
    refine go_lastore (pc' := 47) X0 hx hZ A_r0 g_r0 (by omega) (by omega) (hb hby d1_46) rfl (fun T1 h1 X1 W1 A_r0 => ?_)
    have zs := Nat.le_trans zs (Nat.le_of_eq W1.size.symm)
    have K := K.wr W1 (Or.inl (by simp))
    refine go_iload (pc' := 49) X1 hx (hb hby d1_47) rfl rfl ?_
    refine go_iloadN (pc' := 50) X1 hx (hb hby d1_49) rfl rfl ?_
    refine go_iadd (pc' := 51) X1 hx (hb hby d1_50) rfl ?_
    refine go_bipush (pc' := 53) (v := 64) X1 hx (hb hby d1_51) rfl rfl ?_
    refine go_icmple (pc' := 56) (pcT := 90) X1 hx (hb hby d1_53) rfl (by decide) (by decide) (fun c53_t => ?_) (fun c53_t => ?_)
    · have sm : (v6_15_t + p2).toInt = v6_15_t.toInt + p2.toInt := Jvm.Free.XT.add32 ⟨by omega, by omega⟩
      have c53' := own_geI c53_t
      refine go_retV X1 hx hret hlk (hb hby d1_90) (by decide) (by decide) ?_
      refine ⟨K, _, A_r0, ?_, ?_, ?_⟩
      · show own_spec (g 0) 0 p1.toInt p2.toInt q3 (if (0 : Int) = v5_9_t.toInt then _ else g 0)
        by_cases q2 : (0 : Int) = v5_9_t.toInt
        · rw [if_pos q2, hw30_t, ← q2, hv7_22_t]
          exact own_p1 hv (by omega) (by omega) n0' n1' (by omega)
        rw [if_neg q2]
        exact own_same (by omega)
      · show own_spec (g 1) 64 p1.toInt p2.toInt q3 (if (1 : Int) = v5_9_t.toInt then _ else g 1)
        by_cases q2 : (1 : Int) = v5_9_t.toInt
        · rw [if_pos q2, hw30_t, ← q2, hv7_22_t]
          exact own_p1 hv (by omega) (by omega) n0' n1' (by omega)
        rw [if_neg q2]
        exact own_same (by omega)
      · show own_spec (g 2) 128 p1.toInt p2.toInt q3 (if (2 : Int) = v5_9_t.toInt then _ else g 2)
        by_cases q2 : (2 : Int) = v5_9_t.toInt
        · rw [if_pos q2, hw30_t, ← q2, hv7_22_t]
          exact own_p1 hv (by omega) (by omega) n0' n1' (by omega)
        rw [if_neg q2]
        exact own_same (by omega)
    · have sm : (v6_15_t + p2).toInt = v6_15_t.toInt + p2.toInt := Jvm.Free.XT.add32 ⟨by omega, by omega⟩
      have c53' := own_ltI c53_t
      have hinc : (v5_9_t + 1).toInt = v5_9_t.toInt + 1 := by
        have k1 : (1 : Int32).toInt = 1 := rfl
        rw [Jvm.Free.XT.add32 ⟨by omega, by omega⟩, k1]
      refine go_bipush (pc' := 58) (v := 64) X1 hx (hb hby d1_56) rfl rfl ?_
      refine go_iload (pc' := 60) X1 hx (hb hby d1_58) rfl rfl ?_
      refine go_isub (pc' := 61) X1 hx (hb hby d1_60) rfl ?_
      refine go_nameI (fun v9_61_tf hv9_61_tf => ?_)
      refine go_istore (pc' := 63) (L' := #[.val (.ref r0), .val (.int p1), .val (.int p2), .val (.long q3), .second, .val (.int v5_9_t), .val (.int v6_15_t), .val (.long v7_22_t), .second, .val (.int v9_61_tf)]) X1 hx (hb hby d1_61) rfl rfl ?_
      have hl : v9_61_tf.toInt = 64 - v6_15_t.toInt := by rw [hv9_61_tf, Jvm.Free.XT.sub32 ⟨by omega, by omega⟩, k64]
      refine go_aloadN (pc' := 64) X1 hx (hb hby d1_63) rfl rfl ?_
      refine go_iload (pc' := 66) X1 hx (hb hby d1_64) rfl rfl ?_
      refine go_iconst (pc' := 67) (v := 1) X1 hx (hb hby d1_66) rfl rfl ?_
      refine go_iadd (pc' := 68) X1 hx (hb hby d1_67) rfl ?_
      refine go_aloadN (pc' := 69) X1 hx (hb hby d1_68) rfl rfl ?_
      refine go_iload (pc' := 71) X1 hx (hb hby d1_69) rfl rfl ?_
      refine go_iconst (pc' := 72) (v := 1) X1 hx (hb hby d1_71) rfl rfl ?_
      refine go_iadd (pc' := 73) X1 hx (hb hby d1_72) rfl ?_
      refine go_laload (pc' := 74) X1 hx hZ A_r0 (by omega) (by omega) (hb hby d1_73) rfl (fun w73_tf hw73_tf => ?_)
      refine go_lload (pc' := 76) X1 hx (hb hby d1_74) rfl rfl ?_
      refine go_iload (pc' := 78) X1 hx (hb hby d1_76) rfl rfl ?_
      refine go_lushr (pc' := 79) X1 hx (hb hby d1_78) rfl ?_
      refine go_ldc2 (pc' := 82) X1 hx hZ hown (hw _ (List.mem_of_getElem? (i := 14) rfl)) (hb hby d1_79) rfl ?_
      refine go_lxor (pc' := 83) X1 hx (hb hby d1_82) rfl ?_
      refine go_land (pc' := 84) X1 hx (hb hby d1_83) rfl ?_
      refine go_lloadN (pc' := 85) X1 hx (hb hby d1_84) rfl rfl ?_
      refine go_iload (pc' := 87) X1 hx (hb hby d1_85) rfl rfl ?_
      refine go_lushr (pc' := 88) X1 hx (hb hby d1_87) rfl ?_
      refine go_lor (pc' := 89) X1 hx (hb hby d1_88) rfl ?_
      refine go_lastore (pc' := 90) X1 hx hZ A_r0 g_r0 (by omega) (by omega) (hb hby d1_89) rfl (fun T2 h2 X2 W2 A_r0 => ?_)
      have zs := Nat.le_trans zs (Nat.le_of_eq W2.size.symm)
      have K := K.wr W2 (Or.inl (by simp))
      refine go_retV X2 hx hret hlk (hb hby d1_90) (by decide) (by decide) ?_
      refine ⟨K, _, A_r0, ?_, ?_, ?_⟩
      · show own_spec (g 0) 0 p1.toInt p2.toInt q3 (if (0 : Int) = (v5_9_t + 1).toInt then _ else if (0 : Int) = v5_9_t.toInt then _ else g 0)
        by_cases q1 : (0 : Int) = (v5_9_t + 1).toInt
        · rw [if_pos q1]
          have hw' : w73_tf = g 0 := by rw [hw73_tf]; show (if (v5_9_t + 1).toInt = v5_9_t.toInt then _ else g (v5_9_t + 1).toInt) = _; rw [if_neg (by omega), ← q1]
          rw [hw', hv7_22_t]
          exact own_p2 hv (by omega) (by omega) n0' n1' (by omega)
        rw [if_neg q1]
        by_cases q2 : (0 : Int) = v5_9_t.toInt
        · rw [if_pos q2, hw30_t, ← q2, hv7_22_t]
          exact own_p1 hv (by omega) (by omega) n0' n1' (by omega)
        rw [if_neg q2]
        exact own_same (by omega)
      · show own_spec (g 1) 64 p1.toInt p2.toInt q3 (if (1 : Int) = (v5_9_t + 1).toInt then _ else if (1 : Int) = v5_9_t.toInt then _ else g 1)
        by_cases q1 : (1 : Int) = (v5_9_t + 1).toInt
        · rw [if_pos q1]
          have hw' : w73_tf = g 1 := by rw [hw73_tf]; show (if (v5_9_t + 1).toInt = v5_9_t.toInt then _ else g (v5_9_t + 1).toInt) = _; rw [if_neg (by omega), ← q1]
          rw [hw', hv7_22_t]
          exact own_p2 hv (by omega) (by omega) n0' n1' (by omega)
        rw [if_neg q1]
        by_cases q2 : (1 : Int) = v5_9_t.toInt
        · rw [if_pos q2, hw30_t, ← q2, hv7_22_t]
          exact own_p1 hv (by omega) (by omega) n0' n1' (by omega)
        rw [if_neg q2]
        exact own_same (by omega)
      · show own_spec (g 2) 128 p1.toInt p2.toInt q3 (if (2 : Int) = (v5_9_t + 1).toInt then _ else if (2 : Int) = v5_9_t.toInt then _ else g 2)
        by_cases q1 : (2 : Int) = (v5_9_t + 1).toInt
        · rw [if_pos q1]
          have hw' : w73_tf = g 2 := by rw [hw73_tf]; show (if (v5_9_t + 1).toInt = v5_9_t.toInt then _ else g (v5_9_t + 1).toInt) = _; rw [if_neg (by omega), ← q1]
          rw [hw', hv7_22_t]
          exact own_p2 hv (by omega) (by omega) n0' n1' (by omega)
        rw [if_neg q1]
        by_cases q2 : (2 : Int) = v5_9_t.toInt
        · rw [if_pos q2, hw30_t, ← q2, hv7_22_t]
          exact own_p1 hv (by omega) (by omega) n0' n1' (by omega)
        rw [if_neg q2]
        exact own_same (by omega)
  · refine go_retV X0 hx hret hlk (hb hby d1_4) (by decide) (by decide) ?_
    refine ⟨K, g, A_r0, ?_, ?_, ?_⟩
    all_goals exact own_same (Or.inl (by have := congrArg Int32.toInt c1; have := own_k0; omega))
theorem pn_0 : plainName "com/example/tracefold/tracefold/formula/WindowPutPinLaw" = true := by first | (simp [plainName, overriddenIn]; done) | decide +kernel
theorem ef_0 (m : MethodId) (q0 : Int64) (q1 : Int64) (q2 : Int64) (q3 : Int64) (p4 : Int32) (p5 : Int32) : entryFrame m #[.long q0, .long q1, .long q2, .long q3, .int p4, .int p5] maxLocals = mkF m 0 #[.val (.long q0), .second, .val (.long q1), .second, .val (.long q2), .second, .val (.long q3), .second, .val (.int p4), .val (.int p5), .unset, .unset, .unset, .unset, .unset] [] := by first | (simp [entryFrame, mkF, argsToLocals, Value.category, maxLocals]; done) | rfl
set_option maxRecDepth 65536 in
set_option maxHeartbeats 40000000 in
theorem ct_0 (l : Launch) (Z : State) (a0 : Array Value) (hw : ∀ d ∈ tables_1, d.before a0 Z = true) {h0 : Heap} {n0 : Nat} (zs : n0 ≤ h0.size) (q0 : Int64) (q1 : Int64) (q2 : Int64) (q3 : Int64) (p4 : Int32) (p5 : Int32)  :
    CtK l Z x code maxLocals ret room_1 #[.long q0, .long q1, .long q2, .long q3, .int p4, .int p5] h0 n0 (QI (fun z _ => z = 1)) := by
  refine CtK.of (plainFor_of_name pn_0) ?_
  intro p e s m below meth c T0 X0 hx hZ hby hml hown hnm hret hlk
  refine GoK.entry (ef_0 m q0 q1 q2 q3 p4 p5) ?_
  replace hml : c.maxLocals = 15 := hml
  replace hown : s.vm.findClass "com/example/tracefold/tracefold/formula/WindowPutPinLaw" = some m.cls := hown
  refine go_iload (pc' := 2) X0 hx (hb hby at_0) rfl rfl ?_
  refine go_ldcI (pc' := 4) X0 hx hZ hown (hw _ (List.mem_of_getElem? (i := 0) rfl)) (hb hby at_2) rfl ?_
  refine go_iand (pc' := 5) X0 hx (hb hby at_4) rfl ?_
  refine go_bipush (pc' := 7) (v := 63) X0 hx (hb hby at_5) rfl rfl ?_
  refine go_irem (pc' := 8) X0 hx (hb hby at_7) rfl (by decide) ?_
  refine go_nameI (fun v10_8 hv10_8 => ?_)
  refine go_istore (pc' := 10) (L' := #[.val (.long q0), .second, .val (.long q1), .second, .val (.long q2), .second, .val (.long q3), .second, .val (.int p4), .val (.int p5), .val (.int v10_8), .unset, .unset, .unset, .unset]) X0 hx (hb hby at_8) rfl rfl ?_
  obtain ⟨wd0, wd1⟩ := own_width hv10_8
  refine go_iload (pc' := 12) X0 hx (hb hby at_10) rfl rfl ?_
  refine go_ldcI (pc' := 14) X0 hx hZ hown (hw _ (List.mem_of_getElem? (i := 0) rfl)) (hb hby at_12) rfl ?_
  refine go_iand (pc' := 15) X0 hx (hb hby at_14) rfl ?_
  refine go_sipush (pc' := 18) (v := 193) X0 hx (hb hby at_15) rfl rfl ?_
  refine go_iload (pc' := 20) X0 hx (hb hby at_18) rfl rfl ?_
  refine go_isub (pc' := 21) X0 hx (hb hby at_20) rfl ?_
  refine go_irem (pc' := 22) X0 hx (hb hby at_21) rfl (own_nz193 wd0 wd1) ?_
  refine go_nameI (fun v11_22 hv11_22 => ?_)
  refine go_istore (pc' := 24) (L' := #[.val (.long q0), .second, .val (.long q1), .second, .val (.long q2), .second, .val (.long q3), .second, .val (.int p4), .val (.int p5), .val (.int v10_8), .val (.int v11_22), .unset, .unset, .unset]) X0 hx (hb hby at_22) rfl rfl ?_
  obtain ⟨at0, at1⟩ := own_at wd0 wd1 hv11_22
  refine go_lload (pc' := 26) X0 hx (hb hby at_24) rfl rfl ?_
  refine go_lconst (pc' := 27) (v := 1) X0 hx (hb hby at_26) rfl rfl ?_
  refine go_iload (pc' := 29) X0 hx (hb hby at_27) rfl rfl ?_
  refine go_lshl (pc' := 30) X0 hx (hb hby at_29) rfl ?_
  refine go_lconst (pc' := 31) (v := 1) X0 hx (hb hby at_30) rfl rfl ?_
  refine go_lsub (pc' := 32) X0 hx (hb hby at_31) rfl ?_
  refine go_land (pc' := 33) X0 hx (hb hby at_32) rfl ?_
  refine go_nameJ (fun v12_33 hv12_33 => ?_)
  refine go_lstore (pc' := 35) (L' := #[.val (.long q0), .second, .val (.long q1), .second, .val (.long q2), .second, .val (.long q3), .second, .val (.int p4), .val (.int p5), .val (.int v10_8), .val (.int v11_22), .val (.long v12_33), .second, .unset]) X0 hx (hb hby at_33) rfl rfl ?_
  have vlow := own_vlow wd0 (by omega) hv12_33
  refine go_iconst (pc' := 36) (v := 3) X0 hx (hb hby at_35) rfl rfl ?_
  refine go_newJ (pc' := 38) (cap := 3) (n := 3) (cells' := 1) (slots' := 3) X0 hx hZ (hw _ (List.mem_of_getElem? (i := 1) rfl)) (hb hby at_36) rfl rfl (by decide) (by decide) (by decide) (by decide) (by decide) rfl rfl (fun T1 h1 b1 eb1 X1 E1 A_b1 => ?_)
  have g_b1 : n0 ≤ b1 := by rw [eb1]; exact zs
  have zs := Nat.le_trans zs E1.1
  refine go_dup (pc' := 39) X1 hx (hb hby at_38) rfl rfl ?_
  refine go_iconst (pc' := 40) (v := 0) X1 hx (hb hby at_39) rfl rfl ?_
  refine go_lloadN (pc' := 41) X1 hx (hb hby at_40) rfl rfl ?_
  refine go_lastore (pc' := 42) X1 hx hZ A_b1 g_b1 (by decide) (by decide) (hb hby at_41) rfl (fun T2 h2 X2 W2 A_b1 => ?_)
  have zs := Nat.le_trans zs (Nat.le_of_eq W2.size.symm)
  refine go_dup (pc' := 43) X2 hx (hb hby at_42) rfl rfl ?_
  refine go_iconst (pc' := 44) (v := 1) X2 hx (hb hby at_43) rfl rfl ?_
  refine go_lloadN (pc' := 45) X2 hx (hb hby at_44) rfl rfl ?_
  refine go_lastore (pc' := 46) X2 hx hZ A_b1 g_b1 (by decide) (by decide) (hb hby at_45) rfl (fun T3 h3 X3 W3 A_b1 => ?_)
  have zs := Nat.le_trans zs (Nat.le_of_eq W3.size.symm)
  refine go_dup (pc' := 47) X3 hx (hb hby at_46) rfl rfl ?_
  refine go_iconst (pc' := 48) (v := 2) X3 hx (hb hby at_47) rfl rfl ?_
  refine go_lload (pc' := 50) X3 hx (hb hby at_48) rfl rfl ?_
  refine go_lastore (pc' := 51) X3 hx hZ A_b1 g_b1 (by decide) (by decide) (hb hby at_50) rfl (fun T4 h4 X4 W4 A_b1 => ?_)
  have zs := Nat.le_trans zs (Nat.le_of_eq W4.size.symm)
  refine go_astore (pc' := 53) (L' := #[.val (.long q0), .second, .val (.long q1), .second, .val (.long q2), .second, .val (.long q3), .second, .val (.int p4), .val (.int p5), .val (.int v10_8), .val (.int v11_22), .val (.long v12_33), .second, .val (.ref b1)]) X4 hx (hb hby at_51) rfl rfl ?_
  refine go_aload (pc' := 55) X4 hx (hb hby at_53) rfl rfl ?_
  refine go_iload (pc' := 57) X4 hx (hb hby at_55) rfl rfl ?_
  refine go_iload (pc' := 59) X4 hx (hb hby at_57) rfl rfl ?_
  refine go_lload (pc' := 61) X4 hx (hb hby at_59) rfl rfl ?_
  have hA : AJK Z h4 b1 3 (own_w3 q0 q1 q2) := by
    refine AJK.congr A_b1 (fun i i1 i2 => ?_)
    rcases (by omega : i = 0 ∨ i = 1 ∨ i = 2) with rfl | rfl | rfl
    all_goals rfl
  replace A_b1 := hA
  refine go_callS (pc' := 64) (W := 0) (cells' := 1) (slots' := 3) (rm := ({ frames := 0, cells := 0, slots := 0, locals := 0 } : Room)) (aL := [.ref b1, .int v11_22, .int v10_8, .long v12_33]) (St := []) X4 hx hZ hown (by rw [hml]; rfl) (hw _ (List.mem_of_getElem? (i := 2) rfl)) (hw _ (List.mem_of_getElem? (i := 3) rfl)) (hw _ (List.mem_of_getElem? (i := 4) rfl)) (hw _ (List.mem_of_getElem? (i := 5) rfl)) (by decide) pd_1 rfl (ct_1 l Z a0 hw zs b1 v11_22 v10_8 v12_33 (own_w3 q0 q1 q2) A_b1 g_b1 at0 at1 wd0 wd1 vlow) (hb hby at_61) rfl (by decide) (Nat.le_of_eq rfl) (by decide) (by decide) (by decide) rfl rfl (fun T5 h5 v5 X5 Q5 => ?_) rfl
  obtain ⟨rfl, Kc5, g', Ac5, sp0, sp1, sp2⟩ := Q5
  have zs := Nat.le_trans zs Kc5.1
  show GoK p e below _ T5 (mkF m 64 #[.val (.long q0), .second, .val (.long q1), .second, .val (.long q2), .second, .val (.long q3), .second, .val (.int p4), .val (.int p5), .val (.int v10_8), .val (.int v11_22), .val (.long v12_33), .second, .val (.ref b1)] [])
  refine go_aload (pc' := 66) X5 hx (hb hby at_64) rfl rfl ?_
  refine go_iconst (pc' := 67) (v := 0) X5 hx (hb hby at_66) rfl rfl ?_
  refine go_laload (pc' := 68) X5 hx hZ Ac5 (by decide) (by decide) (hb hby at_67) rfl (fun w67 hw67 => ?_)
  refine go_lloadN (pc' := 69) X5 hx (hb hby at_68) rfl rfl ?_
  refine go_iconst (pc' := 70) (v := 0) X5 hx (hb hby at_69) rfl rfl ?_
  refine go_iload (pc' := 72) X5 hx (hb hby at_70) rfl rfl ?_
  refine go_iload (pc' := 74) X5 hx (hb hby at_72) rfl rfl ?_
  refine go_lload (pc' := 76) X5 hx (hb hby at_74) rfl rfl ?_
  refine go_callS (pc' := 79) (W := 2) (cells' := 1) (slots' := 3) (rm := ({ frames := 1, cells := 0, slots := 0, locals := 16 } : Room)) (aL := [.long q0, .int (0 : Int32), .int v11_22, .int v10_8, .long v12_33]) (St := [.long w67]) X5 hx hZ hown (by rw [hml]; rfl) (hw _ (List.mem_of_getElem? (i := 6) rfl)) (hw _ (List.mem_of_getElem? (i := 7) rfl)) (hw _ (List.mem_of_getElem? (i := 8) rfl)) (hw _ (List.mem_of_getElem? (i := 9) rfl)) (by decide) pd_2 rfl (ct_2 l Z a0 hw zs q0 (0 : Int32) v11_22 v10_8 v12_33 0 rfl (by decide) (by decide) at0 (by omega) wd0 wd1 vlow) (hb hby at_76) rfl (by decide) (Nat.le_of_eq rfl) (by decide) (by decide) (by decide) rfl rfl (fun T6 h6 v6 X6 Q6 => ?_) rfl
  obtain ⟨z6, rfl, hz6, eh6⟩ := Q6
  subst h6
  show GoK p e below _ T6 (mkF m 79 #[.val (.long q0), .second, .val (.long q1), .second, .val (.long q2), .second, .val (.long q3), .second, .val (.int p4), .val (.int p5), .val (.int v10_8), .val (.int v11_22), .val (.long v12_33), .second, .val (.ref b1)] [.long z6, .long w67])
  refine go_lifne (pc1 := 80) (pc' := 83) (pcT := 129) X6 hx (hb hby at_79) rfl (hb hby at_80) rfl (by decide) (by decide) (fun c80 => (by exfalso; rw [hw67] at c80; exact c80 (own_uniq sp0 hz6))) (fun c80 => ?_)
  refine go_aload (pc' := 85) X6 hx (hb hby at_83) rfl rfl ?_
  refine go_iconst (pc' := 86) (v := 1) X6 hx (hb hby at_85) rfl rfl ?_
  refine go_laload (pc' := 87) X6 hx hZ Ac5 (by decide) (by decide) (hb hby at_86) rfl (fun w86 hw86 => ?_)
  refine go_lloadN (pc' := 88) X6 hx (hb hby at_87) rfl rfl ?_
  refine go_bipush (pc' := 90) (v := 64) X6 hx (hb hby at_88) rfl rfl ?_
  refine go_iload (pc' := 92) X6 hx (hb hby at_90) rfl rfl ?_
  refine go_iload (pc' := 94) X6 hx (hb hby at_92) rfl rfl ?_
  refine go_lload (pc' := 96) X6 hx (hb hby at_94) rfl rfl ?_
  refine go_callS (pc' := 99) (W := 2) (cells' := 1) (slots' := 3) (rm := ({ frames := 1, cells := 0, slots := 0, locals := 16 } : Room)) (aL := [.long q1, .int (64 : Int32), .int v11_22, .int v10_8, .long v12_33]) (St := [.long w86]) X6 hx hZ hown (by rw [hml]; rfl) (hw _ (List.mem_of_getElem? (i := 6) rfl)) (hw _ (List.mem_of_getElem? (i := 7) rfl)) (hw _ (List.mem_of_getElem? (i := 8) rfl)) (hw _ (List.mem_of_getElem? (i := 9) rfl)) (by decide) pd_2 rfl (ct_2 l Z a0 hw zs q1 (64 : Int32) v11_22 v10_8 v12_33 64 rfl (by decide) (by decide) at0 (by omega) wd0 wd1 vlow) (hb hby at_96) rfl (by decide) (Nat.le_of_eq rfl) (by decide) (by decide) (by decide) rfl rfl (fun T7 h7 v7 X7 Q7 => ?_) rfl
  obtain ⟨z7, rfl, hz7, eh7⟩ := Q7
  subst h7
  show GoK p e below _ T7 (mkF m 99 #[.val (.long q0), .second, .val (.long q1), .second, .val (.long q2), .second, .val (.long q3), .second, .val (.int p4), .val (.int p5), .val (.int v10_8), .val (.int v11_22), .val (.long v12_33), .second, .val (.ref b1)] [.long z7, .long w86])
  refine go_lifne (pc1 := 100) (pc' := 103) (pcT := 129) X7 hx (hb hby at_99) rfl (hb hby at_100) rfl (by decide) (by decide) (fun c100 => (by exfalso; rw [hw86] at c100; exact c100 (own_uniq sp1 hz7))) (fun c100 => ?_)
  refine go_aload (pc' := 105) X7 hx (hb hby at_103) rfl rfl ?_
  refine go_iconst (pc' := 106) (v := 2) X7 hx (hb hby at_105) rfl rfl ?_
  refine go_laload (pc' := 107) X7 hx hZ Ac5 (by decide) (by decide) (hb hby at_106) rfl (fun w106 hw106 => ?_)
  refine go_lload (pc' := 109) X7 hx (hb hby at_107) rfl rfl ?_
  refine go_sipush (pc' := 112) (v := 128) X7 hx (hb hby at_109) rfl rfl ?_
  refine go_iload (pc' := 114) X7 hx (hb hby at_112) rfl rfl ?_
  refine go_iload (pc' := 116) X7 hx (hb hby at_114) rfl rfl ?_
  refine go_lload (pc' := 118) X7 hx (hb hby at_116) rfl rfl ?_
  refine go_callS (pc' := 121) (W := 2) (cells' := 1) (slots' := 3) (rm := ({ frames := 1, cells := 0, slots := 0, locals := 16 } : Room)) (aL := [.long q2, .int (128 : Int32), .int v11_22, .int v10_8, .long v12_33]) (St := [.long w106]) X7 hx hZ hown (by rw [hml]; rfl) (hw _ (List.mem_of_getElem? (i := 6) rfl)) (hw _ (List.mem_of_getElem? (i := 7) rfl)) (hw _ (List.mem_of_getElem? (i := 8) rfl)) (hw _ (List.mem_of_getElem? (i := 9) rfl)) (by decide) pd_2 rfl (ct_2 l Z a0 hw zs q2 (128 : Int32) v11_22 v10_8 v12_33 128 rfl (by decide) (by decide) at0 (by omega) wd0 wd1 vlow) (hb hby at_118) rfl (by decide) (Nat.le_of_eq rfl) (by decide) (by decide) (by decide) rfl rfl (fun T8 h8 v8 X8 Q8 => ?_) rfl
  obtain ⟨z8, rfl, hz8, eh8⟩ := Q8
  subst h8
  show GoK p e below _ T8 (mkF m 121 #[.val (.long q0), .second, .val (.long q1), .second, .val (.long q2), .second, .val (.long q3), .second, .val (.int p4), .val (.int p5), .val (.int v10_8), .val (.int v11_22), .val (.long v12_33), .second, .val (.ref b1)] [.long z8, .long w106])
  refine go_lifne (pc1 := 122) (pc' := 125) (pcT := 129) X8 hx (hb hby at_121) rfl (hb hby at_122) rfl (by decide) (by decide) (fun c122 => (by exfalso; rw [hw106] at c122; exact c122 (own_uniq sp2 hz8))) (fun c122 => ?_)
  refine go_iconst (pc' := 126) (v := 1) X8 hx (hb hby at_125) rfl rfl ?_
  refine go_goto (pc' := 130) X8 hx (hb hby at_126) (by decide) (by decide) ?_
  refine go_retN (t := .boolean) X8 hx hret (by simp) hlk (hb hby at_130) (by decide) (by decide) ?_
  exact rfl
set_option maxRecDepth 65536 in
set_option maxHeartbeats 40000000 in
theorem comes_1 {Post : Tables → Env → Array Value → State → Outcome → State → Prop} (hpost : ∀ tb e args s v u, (limb_1_1.after args s (.returned v) u = true ∧ limb_1_2.after args s (.returned v) u = true ∧ True) → FrameEnd s (.returned v) u (Jvm.fieldLocs frame_1_writes args s ++ Jvm.arrayLocs frame_1_arrays args s ++ Jvm.staticLocs frame_1_statics s) 16 128 → Post tb e args s (.returned v) u) :
    ArmFor flags0 classFile x code maxLocals ret World_1 tables_1 room_1 Calls_1 rest_1 Pre_1 Post := by
  intro l hfl _ _ p e ha hc hk s m args below hf hA hF happ hP
  obtain ⟨hcalls, hrest, hpre⟩ := hP
  obtain ⟨-, -, -, hnamed, -, -, -, hat⟩ := (Spec.applies_iff hf).mp happ
  obtain ⟨hg, hn⟩ := and_e (Cond.before_iff.mp (show (Jvm.Cond.and given_1 narrow_1).before args s = true from hpre))
  obtain ⟨g1, g2⟩ := and_e hg
  obtain ⟨g3, g4⟩ := and_e g2
  obtain ⟨g5, g6⟩ := and_e g4
  obtain ⟨g7, g8⟩ := and_e g6
  obtain ⟨g9, g10⟩ := and_e g8
  obtain ⟨g11, g12⟩ := and_e g10
  obtain ⟨w0, w1, w2, w3, w4, w5, rfl⟩ : ∃ w0 w1 w2 w3 w4 w5 : Value, args = #[w0, w1, w2, w3, w4, w5] := by
    have hs : args.size = 6 := by simpa [Cond.value, given_1] using g1
    obtain ⟨L⟩ := args
    match L, hs with
    | [w0, w1, w2, w3, w4, w5], _ => exact ⟨w0, w1, w2, w3, w4, w5, rfl⟩
  have hw := fun d (hd : d ∈ tables_1) => atoms_spec (ws := Jvm.Cond.code x code maxLocals ret :: tables_1) hat d (List.mem_cons_of_mem _ hd)
  obtain ⟨i0, ei0⟩ := isL_v g3
  obtain rfl : w0 = (.long i0) := Option.some.inj ei0
  obtain ⟨i1, ei1⟩ := isL_v g5
  obtain rfl : w1 = (.long i1) := Option.some.inj ei1
  obtain ⟨i2, ei2⟩ := isL_v g7
  obtain rfl : w2 = (.long i2) := Option.some.inj ei2
  obtain ⟨i3, ei3⟩ := isL_v g9
  obtain rfl : w3 = (.long i3) := Option.some.inj ei3
  obtain ⟨i4, ei4⟩ := is_v g11
  obtain rfl : w4 = (.int i4) := Option.some.inj ei4
  obtain ⟨i5, ei5⟩ := is_v g12
  obtain rfl : w5 = (.int i5) := Option.some.inj ei5
  obtain ⟨n, o, h1, h2, h3, _, L, rfl, ⟨⟨_, rfl, rfl⟩, N⟩, hq⟩ := ct_0 l s _ hw (h0 := s.heap) (n0 := s.heap.size) (Nat.le_refl _) i0 i1 i2 i3 i4 i5 tables_1 p e ha hc hk s m _ below hf ((Spec.applies_iff_loose hf).mp happ).1 ⟨rfl, State.Warmed39.refl s, rfl⟩ trivial
  refine ⟨n, _, h1, h2, h3, hpost _ _ _ _ _ _ ⟨Cond.after_iff.mpr rfl, Cond.after_iff.mpr (eq_i res_at (Term.int_eval (1)) rfl), trivial⟩ ⟨hq.1, hq.2.1, (hq.2.2.sift fun y hy => Or.inr (N y hy)).mono (by decide) (by decide)⟩⟩
theorem main_1_1 : Claimed_1_1 := comes_1 fun _ _ _ _ _ _ h hF => ⟨h.1, hF⟩
theorem main_1_2 : Claimed_1_2 := comes_1 fun _ _ _ _ _ _ h hF => ⟨h.2.1, hF⟩
end Jvm.Pilot.@@N@@
namespace Jvm.Pilot.@@N@@
open Jvm Jvm.ClassFile Sem Op Lib Jvm.Free Jvm.Stand Jvm.Pilot.@@N@@.Jvm.D
/-! MADE BY PROGRAM (witnessworld.py) out of the Statement's table words and the real class files: 11 classes; the members and pool entries that the words name. The judged class is class 1, her method 1. -/
namespace start1
open Jvm.ClassFile
def u (s : String) : CpInfo := .utf8 (stringToUtf16 s)
/-- a pool by its gaps: so many unusable entries, then the entry; so many at the end -/
def gap : Nat → List CpInfo → List CpInfo
  | 0, r => r
  | n + 1, r => .unusable :: gap n r
def poolList (es : List (Nat × CpInfo)) (last : Nat) : List CpInfo := es.foldr (fun e r => gap e.1 (e.2 :: r)) (gap last [])
def pool (es : List (Nat × CpInfo)) (last : Nat) : Array CpInfo := ⟨poolList es last⟩
def fileOf (pool : Array CpInfo) (this : Nat) (attrs : Array Attribute := #[]) (ms : Array MethodInfo := #[]) (fl : Nat := 33) (sup : Nat := 0) (ifs : Array Nat := #[]) (fds : Array FieldInfo := #[]) : ClassFile where
  minorVersion := 0
  majorVersion := 65
  constantPool := pool
  accessFlags := fl
  thisClass := this
  superClass := sup
  interfaces := ifs
  fields := fds
  methods := ms
  attributes := attrs
def plain (name : String) (sup : Option ClassId) : Class where
  name := name
  kind := .ordinary
  loader := none
  accessFlags := 33
  super := sup
  interfaces := #[]
  cf := none
  fields := #[]
  methods := #[]
  instanceTypes := #[]
  staticTypes := #[]
  resolved := #[]
  callSites := []
  init := .initialized
  statics := none
  mirror := none

def pool0 : Array CpInfo := pool [(5, u "<init>"), (0, u "()V"), (1, .class_ 10), (1, u "java/lang/Object")] 113

def k0m0 : Method := { name := "<init>", desc := "()V", sig := { parameters := [], returnType := none }, accessFlags := 1, code := none }
/-- java/lang/Object -/
def k0 : Class := { plain "java/lang/Object" none with
  accessFlags := 33
  interfaces := #[]
  cf := some (fileOf pool0 8 #[] #[{ accessFlags := 1, nameIndex := 5, descriptorIndex := 6, attributes := #[] }] 33 0 #[] #[])
  fields := #[]
  methods := #[k0m0]
  instanceTypes := #[]
  staticTypes := #[]
  resolved := Array.replicate 124 none
  statics := none }

def pool1 : Array CpInfo := pool [(2, .class_ 4), (1, u "java/lang/Object"), (0, u "<init>"), (0, u "()V"), (0, .integer 2147483647), (0, .methodref 9 10), (0, .class_ 11), (0, .nameAndType 12 13), (0, u "com/example/tracefold/tracefold/formula/Window"), (0, u "put"), (0, u "([JIIJ)V"), (0, .methodref 15 16), (0, .class_ 17), (0, .nameAndType 18 19), (0, u "com/example/tracefold/tracefold/formula/WindowPutPinLaw"), (0, u "expect"), (0, u "(JIIIJ)J"), (0, .long 18446744073709551615), (1, .methodref 15 23), (0, .nameAndType 24 25), (0, u "lowMask"), (0, u "(I)J"), (2, u "law"), (0, u "(JJJJII)Z")] 5

def k1m0 : Method := { name := "<init>", desc := "()V", sig := { parameters := [], returnType := none }, accessFlags := 1, code := none }
def k1c1 : Code := { maxStack := 9, maxLocals := 15, code := code, exceptionTable := #[], attributes := #[] }
def k1m1 : Method := { name := "law", desc := "(JJJJII)Z", sig := { parameters := [.long, .long, .long, .long, .int, .int], returnType := some .boolean }, accessFlags := 9, code := some k1c1 }
def k1c2 : Code := { maxStack := 4, maxLocals := 1, code := method_3_code, exceptionTable := #[], attributes := #[] }
def k1m2 : Method := { name := "lowMask", desc := "(I)J", sig := { parameters := [.int], returnType := some .long }, accessFlags := 10, code := some k1c2 }
def k1c3 : Code := { maxStack := 6, maxLocals := 12, code := method_4_code, exceptionTable := #[], attributes := #[] }
def k1m3 : Method := { name := "expect", desc := "(JIIIJ)J", sig := { parameters := [.long, .int, .int, .int, .long], returnType := some .long }, accessFlags := 10, code := some k1c3 }
/-- com/example/tracefold/tracefold/formula/WindowPutPinLaw -/
def k1 : Class := { plain "com/example/tracefold/tracefold/formula/WindowPutPinLaw" (some 0) with
  accessFlags := 49
  interfaces := #[]
  cf := some (fileOf pool1 15 #[] #[{ accessFlags := 1, nameIndex := 5, descriptorIndex := 6, attributes := #[] }, { accessFlags := 9, nameIndex := 28, descriptorIndex := 29, attributes := #[] }, { accessFlags := 10, nameIndex := 24, descriptorIndex := 25, attributes := #[] }, { accessFlags := 10, nameIndex := 18, descriptorIndex := 19, attributes := #[] }] 49 2 #[] #[])
  fields := #[]
  methods := #[k1m0, k1m1, k1m2, k1m3]
  instanceTypes := #[]
  staticTypes := #[]
  resolved := Array.replicate 35 none
  statics := none }

def pool2 : Array CpInfo := pool [(2, .class_ 4), (1, u "java/lang/Object"), (3, .class_ 10), (1, u "com/example/tracefold/tracefold/formula/Window"), (0, u "starts"), (0, u "[J"), (2, u "ends"), (2, u "bound"), (0, u "Lcom/example/tracefold/tracefold/formula/Bound;"), (14, u "units"), (0, u "Lcom/example/tracefold/tracefold/formula/CountedBound;"), (17, u "clock"), (0, u "J"), (7, u "first"), (0, u "I"), (2, u "count"), (2, u "held"), (0, u "Z"), (2, u "latest"), (2, u "elapsed"), (42, u "put"), (0, u "([JIIJ)V"), (8, .long 18446744073709551615), (17, u "MOST_ENCODED")] 40

def k2c0 : Code := { maxStack := 8, maxLocals := 10, code := prog_124_method_16_code, exceptionTable := #[], attributes := #[] }
def k2m0 : Method := { name := "put", desc := "([JIIJ)V", sig := { parameters := [(.array .long), .int, .int, .long], returnType := none }, accessFlags := 8, code := some k2c0 }
/-- com/example/tracefold/tracefold/formula/Window -/
def k2 : Class := { plain "com/example/tracefold/tracefold/formula/Window" (some 0) with
  accessFlags := 48
  interfaces := #[]
  cf := some (fileOf pool2 8 #[] #[{ accessFlags := 8, nameIndex := 119, descriptorIndex := 120, attributes := #[] }] 48 2 #[] #[{ accessFlags := 26, nameIndex := 147, descriptorIndex := 63, attributes := #[] }, { accessFlags := 18, nameIndex := 18, descriptorIndex := 19, attributes := #[] }, { accessFlags := 2, nameIndex := 34, descriptorIndex := 35, attributes := #[] }, { accessFlags := 2, nameIndex := 53, descriptorIndex := 54, attributes := #[] }, { accessFlags := 2, nameIndex := 11, descriptorIndex := 12, attributes := #[] }, { accessFlags := 2, nameIndex := 15, descriptorIndex := 12, attributes := #[] }, { accessFlags := 2, nameIndex := 62, descriptorIndex := 63, attributes := #[] }, { accessFlags := 2, nameIndex := 66, descriptorIndex := 63, attributes := #[] }, { accessFlags := 2, nameIndex := 69, descriptorIndex := 70, attributes := #[] }, { accessFlags := 2, nameIndex := 73, descriptorIndex := 54, attributes := #[] }, { accessFlags := 2, nameIndex := 76, descriptorIndex := 54, attributes := #[] }])
  fields := #[{ name := "MOST_ENCODED", type := .int, accessFlags := 26, slot := 0, constantValue := 0 }, { name := "bound", type := (.object "com/example/tracefold/tracefold/formula/Bound"), accessFlags := 18, slot := 0, constantValue := 0 }, { name := "units", type := (.object "com/example/tracefold/tracefold/formula/CountedBound"), accessFlags := 2, slot := 1, constantValue := 0 }, { name := "clock", type := .long, accessFlags := 2, slot := 2, constantValue := 0 }, { name := "starts", type := (.array .long), accessFlags := 2, slot := 3, constantValue := 0 }, { name := "ends", type := (.array .long), accessFlags := 2, slot := 4, constantValue := 0 }, { name := "first", type := .int, accessFlags := 2, slot := 5, constantValue := 0 }, { name := "count", type := .int, accessFlags := 2, slot := 6, constantValue := 0 }, { name := "held", type := .boolean, accessFlags := 2, slot := 7, constantValue := 0 }, { name := "latest", type := .long, accessFlags := 2, slot := 8, constantValue := 0 }, { name := "elapsed", type := .long, accessFlags := 2, slot := 9, constantValue := 0 }]
  methods := #[k2m0]
  instanceTypes := #[(.object "com/example/tracefold/tracefold/formula/Bound"), (.object "com/example/tracefold/tracefold/formula/CountedBound"), .long, (.array .long), (.array .long), .int, .int, .boolean, .long, .long]
  staticTypes := #[.int]
  resolved := Array.replicate 188 none
  statics := none }

def pool3 : Array CpInfo := pool [(1, u "java/lang/Cloneable"), (0, .class_ 1), (0, u "java/lang/Object"), (0, .class_ 3)] 3

/-- java/lang/Cloneable -/
def k3 : Class := { plain "java/lang/Cloneable" (some 0) with
  accessFlags := 1537
  interfaces := #[]
  cf := some (fileOf pool3 2 #[] #[] 1537 4 #[] #[])
  fields := #[]
  methods := #[]
  instanceTypes := #[]
  staticTypes := #[]
  resolved := Array.replicate 8 none
  statics := none }

def pool4 : Array CpInfo := pool [(1, u "java/io/Serializable"), (0, .class_ 1), (0, u "java/lang/Object"), (0, .class_ 3)] 3

/-- java/io/Serializable -/
def k4 : Class := { plain "java/io/Serializable" (some 0) with
  accessFlags := 1537
  interfaces := #[]
  cf := some (fileOf pool4 2 #[] #[] 1537 4 #[] #[])
  fields := #[]
  methods := #[]
  instanceTypes := #[]
  staticTypes := #[]
  resolved := Array.replicate 8 none
  statics := none }

/-- the primitive byte -/
def k5 : Class := { plain "byte" none with kind := .primitive 'B', accessFlags := 0x411 }
/-- [B -/
def k6 : Class := { plain "[B" (some 0) with kind := .array 5 .byte, interfaces := #[3, 4], accessFlags := 1041 }

/-- the primitive int -/
def k7 : Class := { plain "int" none with kind := .primitive 'I', accessFlags := 0x411 }
/-- [I -/
def k8 : Class := { plain "[I" (some 0) with kind := .array 7 .int, interfaces := #[3, 4], accessFlags := 1041 }

/-- the primitive long -/
def k9 : Class := { plain "long" none with kind := .primitive 'J', accessFlags := 0x411 }
/-- [J -/
def k10 : Class := { plain "[J" (some 0) with kind := .array 9 .long, interfaces := #[3, 4], accessFlags := 1041 }

def heap : Heap := #[]
def classes : Array Class := #[k0, k1, k2, k3, k4, k5, k6, k7, k8, k9, k10]
def interned : List (Array UInt16 × Addr) := []
def slotsUsed : Nat := 0
def theMethod : MethodId := ⟨1, 1⟩
def args0 : Array Value := #[.long 3, .long 3, .long 7, .long 9, .int 3, .int 4]
def aboutOver (below : List Frame) : State where
  vm := { classes := classes, interned := interned.toArray }
  heap := heap
  slotsUsed := slotsUsed
  threads := #[{ frames := .invoking theMethod args0 :: below }]
def below0 : List Frame := [.native { method := ⟨0, 0⟩, args := #[] }]
def about1 : State := aboutOver below0
def p0 : Program := .bare "" "" ""
def e0 : Env := launch0.env 0 0 0
theorem w_frames : about1.frames = Frame.invoking theMethod args0 :: below0 := rfl
set_option maxRecDepth 65536 in
theorem w_args : argsFit about1.vm theMethod args0 = true := by decide +kernel
set_option maxRecDepth 65536 in
theorem w_heap : heapFits about1 = true := by decide +kernel
set_option maxRecDepth 65536 in
theorem w_runnable : about1.curStatus? = some .runnable := by decide +kernel
set_option maxRecDepth 65536 in
theorem w_alone : about1.alone = true := by decide +kernel
set_option maxRecDepth 65536 in
theorem w_named : about1.methodNamed? x = some theMethod := by decide +kernel
set_option maxRecDepth 65536 in
theorem w_hears : about1.hears theMethod below0 = true := by decide +kernel
set_option maxRecDepth 65536 in
theorem w_ripe : about1.ripe theMethod args0 below0 = true := by decide +kernel
theorem w_running : about1.status = .running := rfl
set_option maxRecDepth 65536 in
theorem w_room : about1.hasRoom e0.platform room_1 = true :=
  launch0.hasRoom_least _ room_1 (by decide +kernel) (by decide +kernel) (by decide +kernel) (by decide +kernel) (by decide +kernel) (by decide +kernel)
theorem allAtoms_all (ts : List Jvm.Cond) (a : Array Jvm.Value) (st : Jvm.State) : (allAtoms ts).before a st = ts.all (fun c => c.before a st) := by
  induction ts with
  | nil => rfl
  | cons c t ih =>
    show (Jvm.Cond.and c (allAtoms t)).before a st = _
    rw [Jvm.Cond.before_and, ih, List.all_cons]
def words1 : List Jvm.Cond := Jvm.Cond.code x code maxLocals ret :: tables_1
/-- a 'code' word, met by the world's own term for the bytes: nothing is compared byte by byte -/
theorem code_word {y : MethodName} {bytes : ByteArray} {mx : Nat} {rt : Option FieldType} {a : Array Value} {s : State} {m : MethodId} {meth : Method} {c : Code} (h1 : s.methodNamed? y = some m) (h2 : s.vm.method? m = some meth) (h3 : meth.code = some c) (h4 : c.code = bytes)
    (h5 : (c.maxLocals == mx && c.exceptionTable.isEmpty && decide (c.maxStack ≤ mostOperands) && decide (meth.sig.returnType = rt) && !meth.locks && decide (parseMethodDescriptor y.desc = some meth.sig)) = true) : (Jvm.Cond.code y bytes mx rt).before a s = true := by
  simp only [Bool.and_eq_true, beq_iff_eq, Bool.not_eq_true', decide_eq_true_eq] at h5
  obtain ⟨⟨⟨⟨⟨g1, g2⟩, g3⟩, g4⟩, g5⟩, g6⟩ := h5
  simp [Cond.before, Cond.holds, Cond.value, h1, h2, h3, h4, g1, g2, g3, g4, g5, g6]
def isCode : Jvm.Cond → Bool
  | .code _ _ _ _ => true
  | _ => false
theorem all_split {L : List Jvm.Cond} {P : Jvm.Cond → Bool} (h1 : L.all (fun c => isCode c || P c) = true) (h2 : ∀ c ∈ L.filter isCode, P c = true) : L.all P = true := by
  refine List.all_eq_true.mpr fun c hc => ?_
  have h := List.all_eq_true.mp h1 c hc
  rcases Bool.eq_false_or_eq_true (isCode c) with hi | hi
  · exact h2 c (List.mem_filter.mpr ⟨hc, hi⟩)
  · simpa [hi] using h
set_option maxRecDepth 65536 in
theorem w_c0 : (Jvm.Cond.code x code maxLocals ret).before args0 about1 = true := code_word (m := ⟨1, 1⟩) (meth := k1m1) (c := k1c1) (by decide +kernel) rfl rfl rfl (by decide +kernel)
set_option maxRecDepth 65536 in
theorem w_c1 : (Jvm.Cond.code ({ cls := "com/example/tracefold/tracefold/formula/Window", name := "put", desc := "([JIIJ)V" } : Jvm.MethodName) prog_124_method_16_code (10 : Nat) (Option.none : Option Jvm.ClassFile.FieldType)).before args0 about1 = true := code_word (m := ⟨2, 0⟩) (meth := k2m0) (c := k2c0) (by decide +kernel) rfl rfl rfl (by decide +kernel)
set_option maxRecDepth 65536 in
theorem w_c2 : (Jvm.Cond.code ({ cls := "com/example/tracefold/tracefold/formula/WindowPutPinLaw", name := "expect", desc := "(JIIIJ)J" } : Jvm.MethodName) method_4_code (12 : Nat) (Option.some Jvm.ClassFile.FieldType.long)).before args0 about1 = true := code_word (m := ⟨1, 3⟩) (meth := k1m3) (c := k1c3) (by decide +kernel) rfl rfl rfl (by decide +kernel)
set_option maxRecDepth 65536 in
theorem w_c3 : (Jvm.Cond.code ({ cls := "com/example/tracefold/tracefold/formula/WindowPutPinLaw", name := "lowMask", desc := "(I)J" } : Jvm.MethodName) method_3_code (1 : Nat) (Option.some Jvm.ClassFile.FieldType.long)).before args0 about1 = true := code_word (m := ⟨1, 2⟩) (meth := k1m2) (c := k1c2) (by decide +kernel) rfl rfl rfl (by decide +kernel)
def codes1 : List Jvm.Cond := [Jvm.Cond.code x code maxLocals ret, Jvm.Cond.code ({ cls := "com/example/tracefold/tracefold/formula/Window", name := "put", desc := "([JIIJ)V" } : Jvm.MethodName) prog_124_method_16_code (10 : Nat) (Option.none : Option Jvm.ClassFile.FieldType), Jvm.Cond.code ({ cls := "com/example/tracefold/tracefold/formula/WindowPutPinLaw", name := "expect", desc := "(JIIIJ)J" } : Jvm.MethodName) method_4_code (12 : Nat) (Option.some Jvm.ClassFile.FieldType.long), Jvm.Cond.code ({ cls := "com/example/tracefold/tracefold/formula/WindowPutPinLaw", name := "lowMask", desc := "(I)J" } : Jvm.MethodName) method_3_code (1 : Nat) (Option.some Jvm.ClassFile.FieldType.long)]
set_option maxRecDepth 65536 in
theorem codes_eq : words1.filter isCode = codes1 := rfl
theorem w_codes : ∀ c ∈ words1.filter isCode, c.before args0 about1 = true := by
  rw [codes_eq]
  intro c hc
  simp only [codes1, List.mem_cons, List.not_mem_nil, or_false] at hc
  rcases hc with rfl | rfl | rfl | rfl
  · exact w_c0
  · exact w_c1
  · exact w_c2
  · exact w_c3
set_option maxRecDepth 65536 in
theorem w_t1 : words1.all (fun c => isCode c || c.before args0 about1) = true := by decide +kernel
theorem w_tables : (allAtoms (Jvm.Cond.code x code maxLocals ret :: tables_1)).before args0 about1 = true := by
  rw [allAtoms_all]
  show words1.all (fun c => c.before args0 about1) = true
  refine all_split ?_ w_codes
  rw [w_t1]
set_option maxRecDepth 65536 in
theorem w_case : (Jvm.Cond.and given_1 narrow_1).before args0 about1 = true := by decide +kernel
theorem w_applies : (headSpec (Jvm.Cond.code x code maxLocals ret :: tables_1) room_1).applies x e0.platform about1 = true :=
  (Spec.applies_iff w_frames).mpr ⟨w_running, w_runnable, w_alone, w_named, w_hears, w_ripe, w_room, w_tables⟩
theorem atStart : AtStart classFile x code maxLocals ret World_1 tables_1 room_1 Calls_1 rest_1 Pre_1 launch0 p0 e0 about1 theMethod args0 below0 :=
  ⟨lists_1, trivial, launch0.admits_env _ _ _, launch0.least_env, fairChoices_fair.cas, fairChoices_fair.clock, w_frames, w_args, w_heap, w_applies, trivial, trivial, w_case⟩
end start1
theorem witness_1 : WitnessClaimed_1 := ⟨start1.p0, start1.e0, start1.about1, start1.theMethod, start1.args0, start1.below0, start1.atStart⟩
end Jvm.Pilot.@@N@@
