import JvmDerived
import JvmDerived.Pilot.@@N@@Statement
import JvmDerived.Pilot.@@N@@Code
set_option linter.unusedVariables false
set_option linter.unusedSimpArgs false
namespace Jvm.RoadKit
open Sem ClassFile Op Lib Jvm.Stand Jvm.Free Jvm.LawKit
section OwnK
variable {p : Program} {l : Launch} {e : Env} {R : Room} {s : State} {m : MethodId} {args : Array Value} {below : List Frame} {meth : Method} {c : Code} {T : State} {cells slots cells' slots' : Nat} {Z : State} {a0 : Array Value} {h : Heap} {n0 : Nat} {D : State → Prop} {pc pc' : Nat} {Ls : Array Slot} {St : List Value}
/-- the run goes from the frame g at T to a state that is done -/
def GoK (p : Program) (e : Env) (below : List Frame) (D : State → Prop) (T : State) (g : JFrame) : Prop := ∃ u, Steps p.tables e below (T.setTop g) u ∧ D u
/-- where the walk stands: the state, its heap, what was made; all that was written is new -/
def OnK (p : Program) (l : Launch) (e : Env) (R : Room) (s : State) (m : MethodId) (args : Array Value) (below : List Frame) (meth : Method) (c : Code) (n0 : Nat) (T : State) (h : Heap) (cells slots : Nat) : Prop := ∃ locs, Stand p l e R s m args below meth c T locs cells slots ∧ T.heap = h ∧ Fr n0 locs
/-- the call has returned -/
def DoneK (s : State) (below : List Frame) (n0 C S : Nat) (Q : Option Value → Heap → Prop) (u : State) : Prop := u.status = .running ∧ ∃ v L, Ended u below (.returned v) ∧ Q v u.heap ∧ Fr n0 L ∧ FrameEnd s (.returned v) u L C S
def QI (P : Int32 → Heap → Prop) (v : Option Value) (h : Heap) : Prop := ∃ z, v = some (.int z) ∧ P z h
def QJ (P : Int64 → Heap → Prop) (v : Option Value) (h : Heap) : Prop := ∃ z, v = some (.long z) ∧ P z h
def QA (P : Addr → Heap → Prop) (v : Option Value) (h : Heap) : Prop := ∃ z, v = some (.ref z) ∧ P z h
def QV (P : Heap → Prop) (v : Option Value) (h : Heap) : Prop := v = none ∧ P h
/-- a body's contract -/
def CtK (l : Launch) (Z : State) (y : MethodName) (bytes : ByteArray) (maxL : Nat) (ret : Option FieldType) (rm : Room) (as' : Array Value) (h0 : Heap) (n0 : Nat) (Q : Option Value → Heap → Prop) : Prop :=
  ∀ ws : List Jvm.Cond, MetFree l y (head1 (Jvm.Cond.code y bytes maxL ret :: ws) rm) (fun a U => a = as' ∧ Z.Warmed39 U.vm ∧ U.heap = h0) (fun _ _ _ _ _ => True) (fun _ U o U' => ∃ v L, o = .returned v ∧ (Q v U'.heap ∧ Fr n0 L) ∧ FrameEnd U o U' L rm.cells rm.slots)
theorem GoK.by {T' : State} {g g' : JFrame} (st : ∀ t, Steps p.tables e below (T'.setTop g') t → Steps p.tables e below (T.setTop g) t) (G : GoK p e below D T' g') : GoK p e below D T g := by
  obtain ⟨u, hu, hD⟩ := G
  exact ⟨u, st _ hu, hD⟩
theorem OnK.at (X : OnK p l e R s m args below meth c n0 T h cells slots) : Jvm.At T m c below := by
  obtain ⟨_, X, -, -⟩ := X
  exact X.here
theorem CtK.of {y : MethodName} {bytes : ByteArray} {maxL : Nat} {ret : Option FieldType} {rm : Room} {as' : Array Value} {h0 : Heap} {Q : Option Value → Heap → Prop} (hp : plainFor y = true)
    (body : ∀ {p : Program} {e : Env} {s : State} {m : MethodId} {below : List Frame} {meth : Method} {c : Code} {T : State}, OnK p l e rm s m as' below meth c n0 T h0 0 0 → p.tables.exec = Jvm.exec → Z.Warmed39 s.vm → c.code = bytes → c.maxLocals = maxL → s.vm.findClass y.cls = some m.cls → meth.name = y.name → meth.sig.returnType = ret → meth.locks = false →
      GoK p e below (DoneK s below n0 rm.cells rm.slots Q) T (entryFrame m as' maxL)) : CtK l Z y bytes maxL ret rm as' h0 n0 Q := by
  intro ws
  refine MetFree.of_bodySF hp hisR ?_
  intro p e s m args below meth c s₁ Bd hml0 hP hK
  obtain ⟨rfl, hZ, hh⟩ := hP
  have hown : s.vm.findClass y.cls = some m.cls := findClass_of_methodNamed Bd.named
  have hnm := (name_of_methodNamed Bd.named Bd.method).1
  have X0 : Stand p l e rm s m args below meth c s₁ [] 0 0 := Stand.of_body Bd
  have e0 : s₁.heap = h0 := by rw [← hh, Bd.state]; rfl
  obtain ⟨u, hu, hrun, v, L, hen, hQ, hN, hF⟩ := body ⟨[], X0, e0, Fr.nil n0⟩ Bd.exec hZ Bd.bytes hml0 hown hnm Bd.returns (BodyLoose.notSynchronized Bd)
  exact ⟨u, _, hu, hrun, hen, v, L, rfl, ⟨hQ, hN⟩, hF⟩
theorem GoK.entry {as' : Array Value} {n : Nat} (q : entryFrame m as' n = mkF m 0 Ls []) (G : GoK p e below D T (mkF m 0 Ls [])) : GoK p e below D T (entryFrame m as' n) := q ▸ G
theorem go_nameI {x : Int32} (G : ∀ z : Int32, z = x → GoK p e below D T (mkF m pc Ls (.int z :: St))) : GoK p e below D T (mkF m pc Ls (.int x :: St)) := G x rfl
theorem go_nameJ {x : Int64} (G : ∀ z : Int64, z = x → GoK p e below D T (mkF m pc Ls (.long z :: St))) : GoK p e below D T (mkF m pc Ls (.long x :: St)) := G x rfl
/-- the end: what every return has in common -/
theorem go_end {C S : Nat} {Q : Option Value → Heap → Prop} {v : Option Value} {g : JFrame} (X : OnK p l e R s m args below meth c n0 T h cells slots) (hlk : meth.locks = false) (hv : meth.sig.returnType = none → v = none) (hc : cells ≤ C) (hs : slots ≤ S) (q : Q v h)
    (st : ∀ {locs : List Loc}, Stand p l e R s m args below meth c T locs cells slots → ∀ {fs : List Frame}, (∀ (f : JFrame) (acts : List Action), f.method = m → f.locked = none → f.entered = [] → (doReturn e (T.setTop f) acts v).1 = T.setFrames fs) → Steps p.tables e below (T.setTop g) (T.setFrames fs)) :
    GoK p e below (DoneK s below n0 C S Q) T g := by
  obtain ⟨locs, X, rfl, N⟩ := X
  obtain ⟨fs, hr, hrun, hended, hW, hsame⟩ := X.leave (v := v) hv hlk
  exact ⟨_, st X hr, hrun, v, locs, hended, q, N, ⟨_, rfl⟩, hW, hsame.mono hc hs⟩
theorem go_retI {C S : Nat} {P : Int32 → Heap → Prop} {x : Int32} (X : OnK p l e R s m args below meth c n0 T h cells slots) (hx : p.tables.exec = Jvm.exec) (hret : meth.sig.returnType = some .int) (hlk : meth.locks = false) (hd : decode c.code pc = .ok (.ireturn, 1)) (hc : cells ≤ C) (hs : slots ≤ S) (q : P x h) : GoK p e below (DoneK s below n0 C S (QI P)) T (mkF m pc Ls (.int x :: St)) := by
  refine go_end (v := some (.int x)) X hlk (fun q => by rw [hret] at q; cases q) hc hs ⟨_, rfl, q⟩ ?_
  intro locs Y fs hr
  have hm' : T.vm.method? m = some meth := Y.method'
  have hn : narrow .int (.int x) = .int x := rfl
  show Steps p.tables e below (T.setTop { method := m, pc := pc, locals := Ls, stack := _ :: St, locked := none }) _
  jvm_step Y.here [Y.here.top, hx, hd, hm', hret, hn]
  first | (intro acts; rw [hr _ acts rfl rfl rfl]) | rw [hr _ _ rfl rfl rfl]
  exact Steps.refl _
theorem go_retN {C S : Nat} {P : Int32 → Heap → Prop} {x : Int32} {t : FieldType} (X : OnK p l e R s m args below meth c n0 T h cells slots) (hx : p.tables.exec = Jvm.exec) (hret : meth.sig.returnType = some t) (ht : t = .boolean ∨ t = .byte ∨ t = .char ∨ t = .short) (hlk : meth.locks = false) (hd : decode c.code pc = .ok (.ireturn, 1)) (hc : cells ≤ C) (hs : slots ≤ S) (q : P (nar t x) h) : GoK p e below (DoneK s below n0 C S (QI P)) T (mkF m pc Ls (.int x :: St)) := by
  refine go_end (v := some (.int (nar t x))) X hlk (fun q => by rw [hret] at q; cases q) hc hs ⟨_, rfl, q⟩ ?_
  intro locs Y fs hr
  exact retN Y hx hret ht hd hr
theorem go_retV {C S : Nat} {P : Heap → Prop} (X : OnK p l e R s m args below meth c n0 T h cells slots) (hx : p.tables.exec = Jvm.exec) (hret : meth.sig.returnType = none) (hlk : meth.locks = false) (hd : decode c.code pc = .ok (.return_, 1)) (hc : cells ≤ C) (hs : slots ≤ S) (q : P h) : GoK p e below (DoneK s below n0 C S (QV P)) T (mkF m pc Ls []) := by
  refine go_end (v := none) X hlk (fun _ => rfl) hc hs ⟨rfl, q⟩ ?_
  intro locs Y fs hr
  exact Y.returnOut hx hret hd hr
theorem go_retJ {C S : Nat} {P : Int64 → Heap → Prop} {x : Int64} (X : OnK p l e R s m args below meth c n0 T h cells slots) (hx : p.tables.exec = Jvm.exec) (hret : meth.sig.returnType = some .long) (hlk : meth.locks = false) (hd : decode c.code pc = .ok (.lreturn, 1)) (hc : cells ≤ C) (hs : slots ≤ S) (q : P x h) : GoK p e below (DoneK s below n0 C S (QJ P)) T (mkF m pc Ls (.long x :: St)) := by
  refine go_end (v := some (.long x)) X hlk (fun q => by rw [hret] at q; cases q) hc hs ⟨_, rfl, q⟩ ?_
  intro locs Y fs hr
  exact retOut Y hx hret rfl (Or.inr (Or.inl ⟨rfl, rfl, _, rfl⟩)) hd hr
theorem go_retA {C S : Nat} {P : Addr → Heap → Prop} {x : Addr} {t : FieldType} (X : OnK p l e R s m args below meth c n0 T h cells slots) (hx : p.tables.exec = Jvm.exec) (hret : meth.sig.returnType = some t) (ht : t.isReference = true) (hnr : narrow t (.ref x) = .ref x) (hlk : meth.locks = false) (hd : decode c.code pc = .ok (.areturn, 1)) (hc : cells ≤ C) (hs : slots ≤ S) (q : P x h) : GoK p e below (DoneK s below n0 C S (QA P)) T (mkF m pc Ls (.ref x :: St)) := by
  refine go_end (v := some (.ref x)) X hlk (fun q => by rw [hret] at q; cases q) hc hs ⟨_, rfl, q⟩ ?_
  intro locs Y fs hr
  exact retOut Y hx hret hnr (Or.inr (Or.inr (Or.inr (Or.inr ⟨rfl, ht, rfl⟩)))) hd hr
theorem go_iadd (X : OnK p l e R s m args below meth c n0 T h cells slots) (hx : p.tables.exec = Jvm.exec) {x y : Int32} (hd : decode c.code pc = .ok (.iadd, 1)) (hp : pc + 1 = pc') (G : GoK p e below D T (mkF m pc' Ls (.int (x + y) :: St))) : GoK p e below D T (mkF m pc Ls (.int y :: .int x :: St)) := by
  subst hp
  exact GoK.by (fun t k => XS.iadd X.at hx rfl hd rfl k) G
theorem go_isub (X : OnK p l e R s m args below meth c n0 T h cells slots) (hx : p.tables.exec = Jvm.exec) {x y : Int32} (hd : decode c.code pc = .ok (.isub, 1)) (hp : pc + 1 = pc') (G : GoK p e below D T (mkF m pc' Ls (.int (x - y) :: St))) : GoK p e below D T (mkF m pc Ls (.int y :: .int x :: St)) := by
  subst hp
  exact GoK.by (fun t k => XS.isub X.at hx rfl hd rfl k) G
theorem go_imul (X : OnK p l e R s m args below meth c n0 T h cells slots) (hx : p.tables.exec = Jvm.exec) {x y : Int32} (hd : decode c.code pc = .ok (.imul, 1)) (hp : pc + 1 = pc') (G : GoK p e below D T (mkF m pc' Ls (.int (x * y) :: St))) : GoK p e below D T (mkF m pc Ls (.int y :: .int x :: St)) := by
  subst hp
  exact GoK.by (fun t k => XS.imul X.at hx rfl hd rfl k) G
theorem go_iand (X : OnK p l e R s m args below meth c n0 T h cells slots) (hx : p.tables.exec = Jvm.exec) {x y : Int32} (hd : decode c.code pc = .ok (.iand, 1)) (hp : pc + 1 = pc') (G : GoK p e below D T (mkF m pc' Ls (.int (x &&& y) :: St))) : GoK p e below D T (mkF m pc Ls (.int y :: .int x :: St)) := by
  subst hp
  exact GoK.by (fun t k => XS.iand X.at hx rfl hd rfl k) G
theorem go_ior (X : OnK p l e R s m args below meth c n0 T h cells slots) (hx : p.tables.exec = Jvm.exec) {x y : Int32} (hd : decode c.code pc = .ok (.ior, 1)) (hp : pc + 1 = pc') (G : GoK p e below D T (mkF m pc' Ls (.int (x ||| y) :: St))) : GoK p e below D T (mkF m pc Ls (.int y :: .int x :: St)) := by
  subst hp
  exact GoK.by (fun t k => XS.ior X.at hx rfl hd rfl k) G
theorem go_ixor (X : OnK p l e R s m args below meth c n0 T h cells slots) (hx : p.tables.exec = Jvm.exec) {x y : Int32} (hd : decode c.code pc = .ok (.ixor, 1)) (hp : pc + 1 = pc') (G : GoK p e below D T (mkF m pc' Ls (.int (x ^^^ y) :: St))) : GoK p e below D T (mkF m pc Ls (.int y :: .int x :: St)) := by
  subst hp
  exact GoK.by (fun t k => XS.ixor X.at hx rfl hd rfl k) G
theorem go_ishl (X : OnK p l e R s m args below meth c n0 T h cells slots) (hx : p.tables.exec = Jvm.exec) {x y : Int32} (hd : decode c.code pc = .ok (.ishl, 1)) (hp : pc + 1 = pc') (G : GoK p e below D T (mkF m pc' Ls (.int (x <<< (y &&& 31)) :: St))) : GoK p e below D T (mkF m pc Ls (.int y :: .int x :: St)) := by
  subst hp
  exact GoK.by (fun t k => XS.ishl X.at hx rfl hd rfl k) G
theorem go_ishr (X : OnK p l e R s m args below meth c n0 T h cells slots) (hx : p.tables.exec = Jvm.exec) {x y : Int32} (hd : decode c.code pc = .ok (.ishr, 1)) (hp : pc + 1 = pc') (G : GoK p e below D T (mkF m pc' Ls (.int (x >>> (y &&& 31)) :: St))) : GoK p e below D T (mkF m pc Ls (.int y :: .int x :: St)) := by
  subst hp
  exact GoK.by (fun t k => XS.ishr X.at hx rfl hd rfl k) G
theorem go_iushr (X : OnK p l e R s m args below meth c n0 T h cells slots) (hx : p.tables.exec = Jvm.exec) {x y : Int32} (hd : decode c.code pc = .ok (.iushr, 1)) (hp : pc + 1 = pc') (G : GoK p e below D T (mkF m pc' Ls (.int ((x.toUInt32 >>> (y &&& 31).toUInt32).toInt32) :: St))) : GoK p e below D T (mkF m pc Ls (.int y :: .int x :: St)) := by
  subst hp
  exact GoK.by (fun t k => XS.iushr X.at hx rfl hd rfl k) G
theorem go_ladd (X : OnK p l e R s m args below meth c n0 T h cells slots) (hx : p.tables.exec = Jvm.exec) {x y : Int64} (hd : decode c.code pc = .ok (.ladd, 1)) (hp : pc + 1 = pc') (G : GoK p e below D T (mkF m pc' Ls (.long (x + y) :: St))) : GoK p e below D T (mkF m pc Ls (.long y :: .long x :: St)) := by
  subst hp
  exact GoK.by (fun t k => XS.ladd X.at hx rfl hd rfl k) G
theorem go_lsub (X : OnK p l e R s m args below meth c n0 T h cells slots) (hx : p.tables.exec = Jvm.exec) {x y : Int64} (hd : decode c.code pc = .ok (.lsub, 1)) (hp : pc + 1 = pc') (G : GoK p e below D T (mkF m pc' Ls (.long (x - y) :: St))) : GoK p e below D T (mkF m pc Ls (.long y :: .long x :: St)) := by
  subst hp
  exact GoK.by (fun t k => XS.lsub X.at hx rfl hd rfl k) G
theorem go_lmul (X : OnK p l e R s m args below meth c n0 T h cells slots) (hx : p.tables.exec = Jvm.exec) {x y : Int64} (hd : decode c.code pc = .ok (.lmul, 1)) (hp : pc + 1 = pc') (G : GoK p e below D T (mkF m pc' Ls (.long (x * y) :: St))) : GoK p e below D T (mkF m pc Ls (.long y :: .long x :: St)) := by
  subst hp
  exact GoK.by (fun t k => XS.lmul X.at hx rfl hd rfl k) G
theorem go_land (X : OnK p l e R s m args below meth c n0 T h cells slots) (hx : p.tables.exec = Jvm.exec) {x y : Int64} (hd : decode c.code pc = .ok (.land, 1)) (hp : pc + 1 = pc') (G : GoK p e below D T (mkF m pc' Ls (.long (x &&& y) :: St))) : GoK p e below D T (mkF m pc Ls (.long y :: .long x :: St)) := by
  subst hp
  exact GoK.by (fun t k => XS.land X.at hx rfl hd rfl k) G
theorem go_lor (X : OnK p l e R s m args below meth c n0 T h cells slots) (hx : p.tables.exec = Jvm.exec) {x y : Int64} (hd : decode c.code pc = .ok (.lor, 1)) (hp : pc + 1 = pc') (G : GoK p e below D T (mkF m pc' Ls (.long (x ||| y) :: St))) : GoK p e below D T (mkF m pc Ls (.long y :: .long x :: St)) := by
  subst hp
  exact GoK.by (fun t k => XS.lor X.at hx rfl hd rfl k) G
theorem go_lxor (X : OnK p l e R s m args below meth c n0 T h cells slots) (hx : p.tables.exec = Jvm.exec) {x y : Int64} (hd : decode c.code pc = .ok (.lxor, 1)) (hp : pc + 1 = pc') (G : GoK p e below D T (mkF m pc' Ls (.long (x ^^^ y) :: St))) : GoK p e below D T (mkF m pc Ls (.long y :: .long x :: St)) := by
  subst hp
  exact GoK.by (fun t k => XS.lxor X.at hx rfl hd rfl k) G
theorem go_lshl (X : OnK p l e R s m args below meth c n0 T h cells slots) (hx : p.tables.exec = Jvm.exec) {x : Int64} {y : Int32} (hd : decode c.code pc = .ok (.lshl, 1)) (hp : pc + 1 = pc') (G : GoK p e below D T (mkF m pc' Ls (.long (x <<< (y &&& 0x3f).toInt64) :: St))) : GoK p e below D T (mkF m pc Ls (.int y :: .long x :: St)) := by
  subst hp
  exact GoK.by (fun t k => XS.lshl X.at hx rfl hd rfl k) G
theorem go_lshr (X : OnK p l e R s m args below meth c n0 T h cells slots) (hx : p.tables.exec = Jvm.exec) {x : Int64} {y : Int32} (hd : decode c.code pc = .ok (.lshr, 1)) (hp : pc + 1 = pc') (G : GoK p e below D T (mkF m pc' Ls (.long (x >>> (y &&& 0x3f).toInt64) :: St))) : GoK p e below D T (mkF m pc Ls (.int y :: .long x :: St)) := by
  subst hp
  exact GoK.by (fun t k => XS.lshr X.at hx rfl hd rfl k) G
theorem go_lushr (X : OnK p l e R s m args below meth c n0 T h cells slots) (hx : p.tables.exec = Jvm.exec) {x : Int64} {y : Int32} (hd : decode c.code pc = .ok (.lushr, 1)) (hp : pc + 1 = pc') (G : GoK p e below D T (mkF m pc' Ls (.long ((x.toUInt64 >>> (y &&& 0x3f).toInt64.toUInt64).toInt64) :: St))) : GoK p e below D T (mkF m pc Ls (.int y :: .long x :: St)) := by
  subst hp
  exact GoK.by (fun t k => XS.lushr X.at hx rfl hd rfl k) G
theorem go_idiv (X : OnK p l e R s m args below meth c n0 T h cells slots) (hx : p.tables.exec = Jvm.exec) {x y : Int32} (hd : decode c.code pc = .ok (.idiv, 1)) (hp : pc + 1 = pc') (hy : y ≠ 0) (G : GoK p e below D T (mkF m pc' Ls (.int (x / y) :: St))) : GoK p e below D T (mkF m pc Ls (.int y :: .int x :: St)) := by
  subst hp
  exact GoK.by (fun t k => XS.idiv X.at hx rfl hd rfl hy k) G
theorem go_ldiv (X : OnK p l e R s m args below meth c n0 T h cells slots) (hx : p.tables.exec = Jvm.exec) {x y : Int64} (hd : decode c.code pc = .ok (.ldiv, 1)) (hp : pc + 1 = pc') (hy : y ≠ 0) (G : GoK p e below D T (mkF m pc' Ls (.long (x / y) :: St))) : GoK p e below D T (mkF m pc Ls (.long y :: .long x :: St)) := by
  subst hp
  exact GoK.by (fun t k => XS.ldiv X.at hx rfl hd rfl hy k) G
theorem go_irem (X : OnK p l e R s m args below meth c n0 T h cells slots) (hx : p.tables.exec = Jvm.exec) {x y : Int32} (hd : decode c.code pc = .ok (.irem, 1)) (hp : pc + 1 = pc') (hy : y ≠ 0) (G : GoK p e below D T (mkF m pc' Ls (.int (x % y) :: St))) : GoK p e below D T (mkF m pc Ls (.int y :: .int x :: St)) := by
  subst hp
  obtain ⟨_, Y, -, -⟩ := X
  exact GoK.by (fun t k => iremM Y hx rfl hd rfl hy k) G
theorem go_lrem (X : OnK p l e R s m args below meth c n0 T h cells slots) (hx : p.tables.exec = Jvm.exec) {x y : Int64} (hd : decode c.code pc = .ok (.lrem, 1)) (hp : pc + 1 = pc') (hy : y ≠ 0) (G : GoK p e below D T (mkF m pc' Ls (.long (x % y) :: St))) : GoK p e below D T (mkF m pc Ls (.long y :: .long x :: St)) := by
  subst hp
  rw [← lrem_mod] at G
  exact GoK.by (fun t k => XS.lrem X.at hx rfl hd rfl hy k) G
theorem go_ineg (X : OnK p l e R s m args below meth c n0 T h cells slots) (hx : p.tables.exec = Jvm.exec) {x : Int32} (hd : decode c.code pc = .ok (.ineg, 1)) (hp : pc + 1 = pc') (G : GoK p e below D T (mkF m pc' Ls (.int (-x) :: St))) : GoK p e below D T (mkF m pc Ls (.int x :: St)) := by
  subst hp
  exact GoK.by (fun t k => XS.ineg X.at hx rfl hd rfl k) G
theorem go_lneg (X : OnK p l e R s m args below meth c n0 T h cells slots) (hx : p.tables.exec = Jvm.exec) {x : Int64} (hd : decode c.code pc = .ok (.lneg, 1)) (hp : pc + 1 = pc') (G : GoK p e below D T (mkF m pc' Ls (.long (-x) :: St))) : GoK p e below D T (mkF m pc Ls (.long x :: St)) := by
  subst hp
  exact GoK.by (fun t k => XS.lneg X.at hx rfl hd rfl k) G
theorem go_i2l (X : OnK p l e R s m args below meth c n0 T h cells slots) (hx : p.tables.exec = Jvm.exec) {x : Int32} (hd : decode c.code pc = .ok (.i2l, 1)) (hp : pc + 1 = pc') (G : GoK p e below D T (mkF m pc' Ls (.long (x.toInt64) :: St))) : GoK p e below D T (mkF m pc Ls (.int x :: St)) := by
  subst hp
  exact GoK.by (fun t k => XS.i2l X.at hx rfl hd rfl k) G
theorem go_l2i (X : OnK p l e R s m args below meth c n0 T h cells slots) (hx : p.tables.exec = Jvm.exec) {x : Int64} (hd : decode c.code pc = .ok (.l2i, 1)) (hp : pc + 1 = pc') (G : GoK p e below D T (mkF m pc' Ls (.int (x.toInt32) :: St))) : GoK p e below D T (mkF m pc Ls (.long x :: St)) := by
  subst hp
  exact GoK.by (fun t k => XS.l2i X.at hx rfl hd rfl k) G
theorem go_i2b (X : OnK p l e R s m args below meth c n0 T h cells slots) (hx : p.tables.exec = Jvm.exec) {x : Int32} (hd : decode c.code pc = .ok (.i2b, 1)) (hp : pc + 1 = pc') (G : GoK p e below D T (mkF m pc' Ls (.int (x.toInt8.toInt32) :: St))) : GoK p e below D T (mkF m pc Ls (.int x :: St)) := by
  subst hp
  exact GoK.by (fun t k => XS.i2b X.at hx rfl hd rfl k) G
theorem go_i2s (X : OnK p l e R s m args below meth c n0 T h cells slots) (hx : p.tables.exec = Jvm.exec) {x : Int32} (hd : decode c.code pc = .ok (.i2s, 1)) (hp : pc + 1 = pc') (G : GoK p e below D T (mkF m pc' Ls (.int (x.toInt16.toInt32) :: St))) : GoK p e below D T (mkF m pc Ls (.int x :: St)) := by
  subst hp
  exact GoK.by (fun t k => XS.i2s X.at hx rfl hd rfl k) G
theorem go_i2c (X : OnK p l e R s m args below meth c n0 T h cells slots) (hx : p.tables.exec = Jvm.exec) {x : Int32} (hd : decode c.code pc = .ok (.i2c, 1)) (hp : pc + 1 = pc') (G : GoK p e below D T (mkF m pc' Ls (.int (x.toUInt32.toUInt16.toUInt32.toInt32) :: St))) : GoK p e below D T (mkF m pc Ls (.int x :: St)) := by
  subst hp
  exact GoK.by (fun t k => XS.i2c X.at hx rfl hd rfl k) G
theorem go_dup (X : OnK p l e R s m args below meth c n0 T h cells slots) (hx : p.tables.exec = Jvm.exec) {v : Value} (hd : decode c.code pc = .ok (.dup, 1)) (hp : pc + 1 = pc') (hv : v.category = 1) (G : GoK p e below D T (mkF m pc' Ls (v :: v :: St))) : GoK p e below D T (mkF m pc Ls (v :: St)) := by
  subst hp
  exact GoK.by (fun t k => XS.dup X.at hx rfl hd rfl hv k) G
theorem go_pop (X : OnK p l e R s m args below meth c n0 T h cells slots) (hx : p.tables.exec = Jvm.exec) {v : Value} (hd : decode c.code pc = .ok (.pop, 1)) (hp : pc + 1 = pc') (hv : v.category = 1) (G : GoK p e below D T (mkF m pc' Ls St)) : GoK p e below D T (mkF m pc Ls (v :: St)) := by
  subst hp
  exact GoK.by (fun t k => XS.pop X.at hx rfl hd rfl hv k) G
theorem go_iload (X : OnK p l e R s m args below meth c n0 T h cells slots) (hx : p.tables.exec = Jvm.exec) {k : Nat} {v : Int32} (hd : decode c.code pc = .ok (.iload k, 2)) (hp : pc + 2 = pc') (hl : Ls[k]? = some (.val (.int v))) (G : GoK p e below D T (mkF m pc' Ls (.int v :: St))) : GoK p e below D T (mkF m pc Ls St) := by
  subst hp
  exact GoK.by (fun t k => XS.iload X.at hx rfl hd hl k) G
theorem go_lload (X : OnK p l e R s m args below meth c n0 T h cells slots) (hx : p.tables.exec = Jvm.exec) {k : Nat} {v : Int64} (hd : decode c.code pc = .ok (.lload k, 2)) (hp : pc + 2 = pc') (hl : Ls[k]? = some (.val (.long v))) (G : GoK p e below D T (mkF m pc' Ls (.long v :: St))) : GoK p e below D T (mkF m pc Ls St) := by
  subst hp
  exact GoK.by (fun t k => XS.lload X.at hx rfl hd hl k) G
theorem go_aload (X : OnK p l e R s m args below meth c n0 T h cells slots) (hx : p.tables.exec = Jvm.exec) {k : Nat} {v : Addr} (hd : decode c.code pc = .ok (.aload k, 2)) (hp : pc + 2 = pc') (hl : Ls[k]? = some (.val (.ref v))) (G : GoK p e below D T (mkF m pc' Ls (.ref v :: St))) : GoK p e below D T (mkF m pc Ls St) := by
  subst hp
  exact GoK.by (fun t k => XS.aload X.at hx rfl hd hl rfl k) G
theorem go_istore (X : OnK p l e R s m args below meth c n0 T h cells slots) (hx : p.tables.exec = Jvm.exec) {k : Nat} {v : Int32} {L' : Array Slot} (hd : decode c.code pc = .ok (.istore k, 2)) (hp : pc + 2 = pc') (hl : storeLocals Ls k (.int v) = some L') (G : GoK p e below D T (mkF m pc' L' St)) : GoK p e below D T (mkF m pc Ls (.int v :: St)) := by
  subst hp
  exact GoK.by (fun t k => XS.istore X.at hx rfl hd rfl hl k) G
theorem go_lstore (X : OnK p l e R s m args below meth c n0 T h cells slots) (hx : p.tables.exec = Jvm.exec) {k : Nat} {v : Int64} {L' : Array Slot} (hd : decode c.code pc = .ok (.lstore k, 2)) (hp : pc + 2 = pc') (hl : storeLocals Ls k (.long v) = some L') (G : GoK p e below D T (mkF m pc' L' St)) : GoK p e below D T (mkF m pc Ls (.long v :: St)) := by
  subst hp
  exact GoK.by (fun t k => XS.lstore X.at hx rfl hd rfl hl k) G
theorem go_astore (X : OnK p l e R s m args below meth c n0 T h cells slots) (hx : p.tables.exec = Jvm.exec) {k : Nat} {v : Addr} {L' : Array Slot} (hd : decode c.code pc = .ok (.astore k, 2)) (hp : pc + 2 = pc') (hl : storeLocals Ls k (.ref v) = some L') (G : GoK p e below D T (mkF m pc' L' St)) : GoK p e below D T (mkF m pc Ls (.ref v :: St)) := by
  subst hp
  exact GoK.by (fun t k => XS.astore X.at hx rfl hd rfl rfl hl k) G
theorem go_iloadN (X : OnK p l e R s m args below meth c n0 T h cells slots) (hx : p.tables.exec = Jvm.exec) {k : Fin 4} {v : Int32} (hd : decode c.code pc = .ok (.iload_n k, 1)) (hp : pc + 1 = pc') (hl : Ls[k.val]? = some (.val (.int v))) (G : GoK p e below D T (mkF m pc' Ls (.int v :: St))) : GoK p e below D T (mkF m pc Ls St) := by
  subst hp
  exact GoK.by (fun t k => XS.iloadN X.at hx rfl hd hl k) G
theorem go_lloadN (X : OnK p l e R s m args below meth c n0 T h cells slots) (hx : p.tables.exec = Jvm.exec) {k : Fin 4} {v : Int64} (hd : decode c.code pc = .ok (.lload_n k, 1)) (hp : pc + 1 = pc') (hl : Ls[k.val]? = some (.val (.long v))) (G : GoK p e below D T (mkF m pc' Ls (.long v :: St))) : GoK p e below D T (mkF m pc Ls St) := by
  subst hp
  exact GoK.by (fun t k => XS.lloadN X.at hx rfl hd hl k) G
theorem go_aloadN (X : OnK p l e R s m args below meth c n0 T h cells slots) (hx : p.tables.exec = Jvm.exec) {k : Fin 4} {v : Addr} (hd : decode c.code pc = .ok (.aload_n k, 1)) (hp : pc + 1 = pc') (hl : Ls[k.val]? = some (.val (.ref v))) (G : GoK p e below D T (mkF m pc' Ls (.ref v :: St))) : GoK p e below D T (mkF m pc Ls St) := by
  subst hp
  exact GoK.by (fun t k => XS.aloadN X.at hx rfl hd hl rfl k) G
theorem go_istoreN (X : OnK p l e R s m args below meth c n0 T h cells slots) (hx : p.tables.exec = Jvm.exec) {k : Fin 4} {v : Int32} {L' : Array Slot} (hd : decode c.code pc = .ok (.istore_n k, 1)) (hp : pc + 1 = pc') (hl : storeLocals Ls k.val (.int v) = some L') (G : GoK p e below D T (mkF m pc' L' St)) : GoK p e below D T (mkF m pc Ls (.int v :: St)) := by
  subst hp
  exact GoK.by (fun t k => XS.istoreN X.at hx rfl hd rfl hl k) G
theorem go_lstoreN (X : OnK p l e R s m args below meth c n0 T h cells slots) (hx : p.tables.exec = Jvm.exec) {k : Fin 4} {v : Int64} {L' : Array Slot} (hd : decode c.code pc = .ok (.lstore_n k, 1)) (hp : pc + 1 = pc') (hl : storeLocals Ls k.val (.long v) = some L') (G : GoK p e below D T (mkF m pc' L' St)) : GoK p e below D T (mkF m pc Ls (.long v :: St)) := by
  subst hp
  exact GoK.by (fun t k => XS.lstoreN X.at hx rfl hd rfl hl k) G
theorem go_astoreN (X : OnK p l e R s m args below meth c n0 T h cells slots) (hx : p.tables.exec = Jvm.exec) {k : Fin 4} {v : Addr} {L' : Array Slot} (hd : decode c.code pc = .ok (.astore_n k, 1)) (hp : pc + 1 = pc') (hl : storeLocals Ls k.val (.ref v) = some L') (G : GoK p e below D T (mkF m pc' L' St)) : GoK p e below D T (mkF m pc Ls (.ref v :: St)) := by
  subst hp
  exact GoK.by (fun t k => XS.astoreN X.at hx rfl hd rfl rfl hl k) G
theorem go_iinc (X : OnK p l e R s m args below meth c n0 T h cells slots) (hx : p.tables.exec = Jvm.exec) {k : Nat} {i : Int} {v w : Int32} {L' : Array Slot} (hd : decode c.code pc = .ok (.iinc k i, 3)) (hp : pc + 3 = pc') (hl : Ls[k]? = some (.val (.int v))) (hi : v + Int32.ofInt i = w) (hs : storeLocals Ls k (.int w) = some L') (G : GoK p e below D T (mkF m pc' L' St)) : GoK p e below D T (mkF m pc Ls St) := by
  subst hp
  exact GoK.by (fun t k => XS.iinc X.at hx rfl hd hl (hi.symm ▸ hs) k) G
theorem go_iconst (X : OnK p l e R s m args below meth c n0 T h cells slots) (hx : p.tables.exec = Jvm.exec) {i : Int} {v : Int32} (hd : decode c.code pc = .ok (.iconst i, 1)) (hp : pc + 1 = pc') (hv : Int32.ofInt i = v) (G : GoK p e below D T (mkF m pc' Ls (.int v :: St))) : GoK p e below D T (mkF m pc Ls St) := by
  subst hp
  exact GoK.by (fun t k => Jvm.Free.XT.iconstV X.at hx rfl v hd hv k) G
theorem go_bipush (X : OnK p l e R s m args below meth c n0 T h cells slots) (hx : p.tables.exec = Jvm.exec) {i : Int} {v : Int32} (hd : decode c.code pc = .ok (.bipush i, 2)) (hp : pc + 2 = pc') (hv : (Int8.ofInt i).toInt32 = v) (G : GoK p e below D T (mkF m pc' Ls (.int v :: St))) : GoK p e below D T (mkF m pc Ls St) := by
  subst hp
  exact GoK.by (fun t k => Jvm.Free.XT.bipushV X.at hx rfl v hd hv k) G
theorem go_sipush (X : OnK p l e R s m args below meth c n0 T h cells slots) (hx : p.tables.exec = Jvm.exec) {i : Int} {v : Int32} (hd : decode c.code pc = .ok (.sipush i, 3)) (hp : pc + 3 = pc') (hv : (Int16.ofInt i).toInt32 = v) (G : GoK p e below D T (mkF m pc' Ls (.int v :: St))) : GoK p e below D T (mkF m pc Ls St) := by
  subst hp
  exact GoK.by (fun t k => Jvm.Free.XT.sipushV X.at hx rfl v hd hv k) G
theorem go_lconst (X : OnK p l e R s m args below meth c n0 T h cells slots) (hx : p.tables.exec = Jvm.exec) {i : Fin 2} {v : Int64} (hd : decode c.code pc = .ok (.lconst i, 1)) (hp : pc + 1 = pc') (hv : Int64.ofNat i = v) (G : GoK p e below D T (mkF m pc' Ls (.long v :: St))) : GoK p e below D T (mkF m pc Ls St) := by
  subst hp
  exact GoK.by (fun t k => Jvm.Free.XT.lconstV X.at hx rfl v hd hv k) G
theorem go_goto (X : OnK p l e R s m args below meth c n0 T h cells slots) (hx : p.tables.exec = Jvm.exec) {o : Int} (hd : decode c.code pc = .ok (.goto o, 3)) (ho : 0 ≤ (pc : Int) + o) (hp : ((pc : Int) + o).toNat = pc') (G : GoK p e below D T (mkF m pc' Ls St)) : GoK p e below D T (mkF m pc Ls St) :=
  GoK.by (fun t k => XS.goto X.at hx rfl rfl hd ho hp k) G
theorem go_dup2 (X : OnK p l e R s m args below meth c n0 T h cells slots) (hx : p.tables.exec = Jvm.exec) {j : Int32} {a : Addr} (hd : decode c.code pc = .ok (.dup2, 1)) (hp : pc + 1 = pc') (G : GoK p e below D T (mkF m pc' Ls (.int j :: .ref a :: .int j :: .ref a :: St))) : GoK p e below D T (mkF m pc Ls (.int j :: .ref a :: St)) := by
  subst hp
  refine GoK.by (fun t k => ?_) G
  jvm_step X.at [X.at.top, hx, hd, Value.category]
  exact k
theorem go_ldcI (X : OnK p l e R s m args below meth c n0 T h cells slots) (hx : p.tables.exec = Jvm.exec) (hZ : Z.Warmed39 s.vm) {own : String} {i : Nat} {v : Int32} (hown : s.vm.findClass own = some m.cls) (wd : (Jvm.Cond.constant own i v).before a0 Z = true) (hd : decode c.code pc = .ok (.ldc i, 2)) (hp : pc + 2 = pc') (G : GoK p e below D T (mkF m pc' Ls (.int v :: St))) : GoK p e below D T (mkF m pc Ls St) := by
  subst hp
  obtain ⟨_, Y, -, -⟩ := X
  exact GoK.by (fun t k => Y.ldcInt hx hown (mvT hZ wd) (g := mkF m pc Ls St) rfl hd t k) G
theorem go_ldcwI (X : OnK p l e R s m args below meth c n0 T h cells slots) (hx : p.tables.exec = Jvm.exec) (hZ : Z.Warmed39 s.vm) {own : String} {i : Nat} {v : Int32} (hown : s.vm.findClass own = some m.cls) (wd : (Jvm.Cond.constant own i v).before a0 Z = true) (hd : decode c.code pc = .ok (.ldc_w i, 3)) (hp : pc + 3 = pc') (G : GoK p e below D T (mkF m pc' Ls (.int v :: St))) : GoK p e below D T (mkF m pc Ls St) := by
  subst hp
  obtain ⟨_, Y, -, -⟩ := X
  exact GoK.by (fun t k => Y.ldcwInt hx hown (mvT hZ wd) (g := mkF m pc Ls St) rfl hd t k) G
theorem go_ldc2 (X : OnK p l e R s m args below meth c n0 T h cells slots) (hx : p.tables.exec = Jvm.exec) (hZ : Z.Warmed39 s.vm) {own : String} {i : Nat} {v : Int64} (hown : s.vm.findClass own = some m.cls) (wd : (Jvm.Cond.constantLong own i v).before a0 Z = true) (hd : decode c.code pc = .ok (.ldc2_w i, 3)) (hp : pc + 3 = pc') (G : GoK p e below D T (mkF m pc' Ls (.long v :: St))) : GoK p e below D T (mkF m pc Ls St) := by
  subst hp
  obtain ⟨_, Y, -, -⟩ := X
  exact GoK.by (fun t k => Y.ldc2Long hx hown (mvT hZ wd) (g := mkF m pc Ls St) rfl hd t k) G
theorem go_ifeq (X : OnK p l e R s m args below meth c n0 T h cells slots) (hx : p.tables.exec = Jvm.exec) {x : Int32} {o : Int} {pcT : Nat} (hd : decode c.code pc = .ok (.ifCond .eq o, 3)) (hp : pc + 3 = pc') (ho : 0 ≤ (pc : Int) + o) (ht : ((pc : Int) + o).toNat = pcT) (G1 : x = 0 → GoK p e below D T (mkF m pcT Ls St)) (G2 : ¬ x = 0 → GoK p e below D T (mkF m pc' Ls St)) : GoK p e below D T (mkF m pc Ls (.int x :: St)) := by
  subst hp
  by_cases q : x = 0
  · exact GoK.by (fun t k => XS.ifYes X.at hx rfl rfl hd rfl ((if0 _ _).trans (teq q).1) ho ht k) (G1 q)
  · exact GoK.by (fun t k => XS.ifNo X.at hx rfl hd rfl ((if0 _ _).trans (feq q).1) k) (G2 q)
theorem go_icmpeq (X : OnK p l e R s m args below meth c n0 T h cells slots) (hx : p.tables.exec = Jvm.exec) {x y : Int32} {o : Int} {pcT : Nat} (hd : decode c.code pc = .ok (.if_icmp .eq o, 3)) (hp : pc + 3 = pc') (ho : 0 ≤ (pc : Int) + o) (ht : ((pc : Int) + o).toNat = pcT) (G1 : x = y → GoK p e below D T (mkF m pcT Ls St)) (G2 : ¬ x = y → GoK p e below D T (mkF m pc' Ls St)) : GoK p e below D T (mkF m pc Ls (.int y :: .int x :: St)) := by
  subst hp
  by_cases q : x = y
  · exact GoK.by (fun t k => XS.icmpYes X.at hx rfl rfl hd rfl (teq q).1 ho ht k) (G1 q)
  · exact GoK.by (fun t k => XS.icmpNo X.at hx rfl hd rfl (feq q).1 k) (G2 q)
theorem go_lifeq (X : OnK p l e R s m args below meth c n0 T h cells slots) (hx : p.tables.exec = Jvm.exec) {x y : Int64} {o : Int} {pc1 pcT : Nat} (hd1 : decode c.code pc = .ok (.lcmp, 1)) (hp1 : pc + 1 = pc1) (hd : decode c.code pc1 = .ok (.ifCond .eq o, 3)) (hp : pc1 + 3 = pc') (ho : 0 ≤ (pc1 : Int) + o) (ht : ((pc1 : Int) + o).toNat = pcT) (G1 : x = y → GoK p e below D T (mkF m pcT Ls St)) (G2 : ¬ x = y → GoK p e below D T (mkF m pc' Ls St)) : GoK p e below D T (mkF m pc Ls (.long y :: .long x :: St)) := by
  subst hp1
  refine GoK.by (fun t k => XS.lcmp X.at hx rfl hd1 rfl k) ?_
  exact go_ifeq X hx hd hp ho ht (fun q => G1 ((lw_eq x y).mp q)) (fun q => G2 ((not_congr (lw_eq x y)).mp q))
theorem go_ifne (X : OnK p l e R s m args below meth c n0 T h cells slots) (hx : p.tables.exec = Jvm.exec) {x : Int32} {o : Int} {pcT : Nat} (hd : decode c.code pc = .ok (.ifCond .ne o, 3)) (hp : pc + 3 = pc') (ho : 0 ≤ (pc : Int) + o) (ht : ((pc : Int) + o).toNat = pcT) (G1 : ¬ x = 0 → GoK p e below D T (mkF m pcT Ls St)) (G2 : x = 0 → GoK p e below D T (mkF m pc' Ls St)) : GoK p e below D T (mkF m pc Ls (.int x :: St)) := by
  subst hp
  by_cases q : ¬ x = 0
  · exact GoK.by (fun t k => XS.ifYes X.at hx rfl rfl hd rfl ((if0 _ _).trans (feq q).2) ho ht k) (G1 q)
  · exact GoK.by (fun t k => XS.ifNo X.at hx rfl hd rfl ((if0 _ _).trans (teq (Classical.not_not.mp q)).2) k) (G2 (Classical.not_not.mp q))
theorem go_icmpne (X : OnK p l e R s m args below meth c n0 T h cells slots) (hx : p.tables.exec = Jvm.exec) {x y : Int32} {o : Int} {pcT : Nat} (hd : decode c.code pc = .ok (.if_icmp .ne o, 3)) (hp : pc + 3 = pc') (ho : 0 ≤ (pc : Int) + o) (ht : ((pc : Int) + o).toNat = pcT) (G1 : ¬ x = y → GoK p e below D T (mkF m pcT Ls St)) (G2 : x = y → GoK p e below D T (mkF m pc' Ls St)) : GoK p e below D T (mkF m pc Ls (.int y :: .int x :: St)) := by
  subst hp
  by_cases q : ¬ x = y
  · exact GoK.by (fun t k => XS.icmpYes X.at hx rfl rfl hd rfl (feq q).2 ho ht k) (G1 q)
  · exact GoK.by (fun t k => XS.icmpNo X.at hx rfl hd rfl (teq (Classical.not_not.mp q)).2 k) (G2 (Classical.not_not.mp q))
theorem go_lifne (X : OnK p l e R s m args below meth c n0 T h cells slots) (hx : p.tables.exec = Jvm.exec) {x y : Int64} {o : Int} {pc1 pcT : Nat} (hd1 : decode c.code pc = .ok (.lcmp, 1)) (hp1 : pc + 1 = pc1) (hd : decode c.code pc1 = .ok (.ifCond .ne o, 3)) (hp : pc1 + 3 = pc') (ho : 0 ≤ (pc1 : Int) + o) (ht : ((pc1 : Int) + o).toNat = pcT) (G1 : ¬ x = y → GoK p e below D T (mkF m pcT Ls St)) (G2 : x = y → GoK p e below D T (mkF m pc' Ls St)) : GoK p e below D T (mkF m pc Ls (.long y :: .long x :: St)) := by
  subst hp1
  refine GoK.by (fun t k => XS.lcmp X.at hx rfl hd1 rfl k) ?_
  exact go_ifne X hx hd hp ho ht (fun q => G1 ((not_congr (lw_eq x y)).mp q)) (fun q => G2 ((lw_eq x y).mp q))
theorem go_iflt (X : OnK p l e R s m args below meth c n0 T h cells slots) (hx : p.tables.exec = Jvm.exec) {x : Int32} {o : Int} {pcT : Nat} (hd : decode c.code pc = .ok (.ifCond .lt o, 3)) (hp : pc + 3 = pc') (ho : 0 ≤ (pc : Int) + o) (ht : ((pc : Int) + o).toNat = pcT) (G1 : x < 0 → GoK p e below D T (mkF m pcT Ls St)) (G2 : ¬ x < 0 → GoK p e below D T (mkF m pc' Ls St)) : GoK p e below D T (mkF m pc Ls (.int x :: St)) := by
  subst hp
  by_cases q : x < 0
  · exact GoK.by (fun t k => XS.ifYes X.at hx rfl rfl hd rfl ((if0 _ _).trans (tlt q).1) ho ht k) (G1 q)
  · exact GoK.by (fun t k => XS.ifNo X.at hx rfl hd rfl ((if0 _ _).trans (flt q).1) k) (G2 q)
theorem go_icmplt (X : OnK p l e R s m args below meth c n0 T h cells slots) (hx : p.tables.exec = Jvm.exec) {x y : Int32} {o : Int} {pcT : Nat} (hd : decode c.code pc = .ok (.if_icmp .lt o, 3)) (hp : pc + 3 = pc') (ho : 0 ≤ (pc : Int) + o) (ht : ((pc : Int) + o).toNat = pcT) (G1 : x < y → GoK p e below D T (mkF m pcT Ls St)) (G2 : ¬ x < y → GoK p e below D T (mkF m pc' Ls St)) : GoK p e below D T (mkF m pc Ls (.int y :: .int x :: St)) := by
  subst hp
  by_cases q : x < y
  · exact GoK.by (fun t k => XS.icmpYes X.at hx rfl rfl hd rfl (tlt q).1 ho ht k) (G1 q)
  · exact GoK.by (fun t k => XS.icmpNo X.at hx rfl hd rfl (flt q).1 k) (G2 q)
theorem go_liflt (X : OnK p l e R s m args below meth c n0 T h cells slots) (hx : p.tables.exec = Jvm.exec) {x y : Int64} {o : Int} {pc1 pcT : Nat} (hd1 : decode c.code pc = .ok (.lcmp, 1)) (hp1 : pc + 1 = pc1) (hd : decode c.code pc1 = .ok (.ifCond .lt o, 3)) (hp : pc1 + 3 = pc') (ho : 0 ≤ (pc1 : Int) + o) (ht : ((pc1 : Int) + o).toNat = pcT) (G1 : x < y → GoK p e below D T (mkF m pcT Ls St)) (G2 : ¬ x < y → GoK p e below D T (mkF m pc' Ls St)) : GoK p e below D T (mkF m pc Ls (.long y :: .long x :: St)) := by
  subst hp1
  refine GoK.by (fun t k => XS.lcmp X.at hx rfl hd1 rfl k) ?_
  exact go_iflt X hx hd hp ho ht (fun q => G1 ((lw_lt x y).mp q)) (fun q => G2 ((not_congr (lw_lt x y)).mp q))
theorem go_ifge (X : OnK p l e R s m args below meth c n0 T h cells slots) (hx : p.tables.exec = Jvm.exec) {x : Int32} {o : Int} {pcT : Nat} (hd : decode c.code pc = .ok (.ifCond .ge o, 3)) (hp : pc + 3 = pc') (ho : 0 ≤ (pc : Int) + o) (ht : ((pc : Int) + o).toNat = pcT) (G1 : ¬ x < 0 → GoK p e below D T (mkF m pcT Ls St)) (G2 : x < 0 → GoK p e below D T (mkF m pc' Ls St)) : GoK p e below D T (mkF m pc Ls (.int x :: St)) := by
  subst hp
  by_cases q : ¬ x < 0
  · exact GoK.by (fun t k => XS.ifYes X.at hx rfl rfl hd rfl ((if0 _ _).trans (flt q).2.1) ho ht k) (G1 q)
  · exact GoK.by (fun t k => XS.ifNo X.at hx rfl hd rfl ((if0 _ _).trans (tlt (Classical.not_not.mp q)).2.1) k) (G2 (Classical.not_not.mp q))
theorem go_icmpge (X : OnK p l e R s m args below meth c n0 T h cells slots) (hx : p.tables.exec = Jvm.exec) {x y : Int32} {o : Int} {pcT : Nat} (hd : decode c.code pc = .ok (.if_icmp .ge o, 3)) (hp : pc + 3 = pc') (ho : 0 ≤ (pc : Int) + o) (ht : ((pc : Int) + o).toNat = pcT) (G1 : ¬ x < y → GoK p e below D T (mkF m pcT Ls St)) (G2 : x < y → GoK p e below D T (mkF m pc' Ls St)) : GoK p e below D T (mkF m pc Ls (.int y :: .int x :: St)) := by
  subst hp
  by_cases q : ¬ x < y
  · exact GoK.by (fun t k => XS.icmpYes X.at hx rfl rfl hd rfl (flt q).2.1 ho ht k) (G1 q)
  · exact GoK.by (fun t k => XS.icmpNo X.at hx rfl hd rfl (tlt (Classical.not_not.mp q)).2.1 k) (G2 (Classical.not_not.mp q))
theorem go_lifge (X : OnK p l e R s m args below meth c n0 T h cells slots) (hx : p.tables.exec = Jvm.exec) {x y : Int64} {o : Int} {pc1 pcT : Nat} (hd1 : decode c.code pc = .ok (.lcmp, 1)) (hp1 : pc + 1 = pc1) (hd : decode c.code pc1 = .ok (.ifCond .ge o, 3)) (hp : pc1 + 3 = pc') (ho : 0 ≤ (pc1 : Int) + o) (ht : ((pc1 : Int) + o).toNat = pcT) (G1 : ¬ x < y → GoK p e below D T (mkF m pcT Ls St)) (G2 : x < y → GoK p e below D T (mkF m pc' Ls St)) : GoK p e below D T (mkF m pc Ls (.long y :: .long x :: St)) := by
  subst hp1
  refine GoK.by (fun t k => XS.lcmp X.at hx rfl hd1 rfl k) ?_
  exact go_ifge X hx hd hp ho ht (fun q => G1 ((not_congr (lw_lt x y)).mp q)) (fun q => G2 ((lw_lt x y).mp q))
theorem go_ifgt (X : OnK p l e R s m args below meth c n0 T h cells slots) (hx : p.tables.exec = Jvm.exec) {x : Int32} {o : Int} {pcT : Nat} (hd : decode c.code pc = .ok (.ifCond .gt o, 3)) (hp : pc + 3 = pc') (ho : 0 ≤ (pc : Int) + o) (ht : ((pc : Int) + o).toNat = pcT) (G1 : 0 < x → GoK p e below D T (mkF m pcT Ls St)) (G2 : ¬ 0 < x → GoK p e below D T (mkF m pc' Ls St)) : GoK p e below D T (mkF m pc Ls (.int x :: St)) := by
  subst hp
  by_cases q : 0 < x
  · exact GoK.by (fun t k => XS.ifYes X.at hx rfl rfl hd rfl ((if0 _ _).trans (tlt q).2.2.1) ho ht k) (G1 q)
  · exact GoK.by (fun t k => XS.ifNo X.at hx rfl hd rfl ((if0 _ _).trans (flt q).2.2.1) k) (G2 q)
theorem go_icmpgt (X : OnK p l e R s m args below meth c n0 T h cells slots) (hx : p.tables.exec = Jvm.exec) {x y : Int32} {o : Int} {pcT : Nat} (hd : decode c.code pc = .ok (.if_icmp .gt o, 3)) (hp : pc + 3 = pc') (ho : 0 ≤ (pc : Int) + o) (ht : ((pc : Int) + o).toNat = pcT) (G1 : y < x → GoK p e below D T (mkF m pcT Ls St)) (G2 : ¬ y < x → GoK p e below D T (mkF m pc' Ls St)) : GoK p e below D T (mkF m pc Ls (.int y :: .int x :: St)) := by
  subst hp
  by_cases q : y < x
  · exact GoK.by (fun t k => XS.icmpYes X.at hx rfl rfl hd rfl (tlt q).2.2.1 ho ht k) (G1 q)
  · exact GoK.by (fun t k => XS.icmpNo X.at hx rfl hd rfl (flt q).2.2.1 k) (G2 q)
theorem go_lifgt (X : OnK p l e R s m args below meth c n0 T h cells slots) (hx : p.tables.exec = Jvm.exec) {x y : Int64} {o : Int} {pc1 pcT : Nat} (hd1 : decode c.code pc = .ok (.lcmp, 1)) (hp1 : pc + 1 = pc1) (hd : decode c.code pc1 = .ok (.ifCond .gt o, 3)) (hp : pc1 + 3 = pc') (ho : 0 ≤ (pc1 : Int) + o) (ht : ((pc1 : Int) + o).toNat = pcT) (G1 : y < x → GoK p e below D T (mkF m pcT Ls St)) (G2 : ¬ y < x → GoK p e below D T (mkF m pc' Ls St)) : GoK p e below D T (mkF m pc Ls (.long y :: .long x :: St)) := by
  subst hp1
  refine GoK.by (fun t k => XS.lcmp X.at hx rfl hd1 rfl k) ?_
  exact go_ifgt X hx hd hp ho ht (fun q => G1 ((lw_gt x y).mp q)) (fun q => G2 ((not_congr (lw_gt x y)).mp q))
theorem go_ifle (X : OnK p l e R s m args below meth c n0 T h cells slots) (hx : p.tables.exec = Jvm.exec) {x : Int32} {o : Int} {pcT : Nat} (hd : decode c.code pc = .ok (.ifCond .le o, 3)) (hp : pc + 3 = pc') (ho : 0 ≤ (pc : Int) + o) (ht : ((pc : Int) + o).toNat = pcT) (G1 : ¬ 0 < x → GoK p e below D T (mkF m pcT Ls St)) (G2 : 0 < x → GoK p e below D T (mkF m pc' Ls St)) : GoK p e below D T (mkF m pc Ls (.int x :: St)) := by
  subst hp
  by_cases q : ¬ 0 < x
  · exact GoK.by (fun t k => XS.ifYes X.at hx rfl rfl hd rfl ((if0 _ _).trans (flt q).2.2.2) ho ht k) (G1 q)
  · exact GoK.by (fun t k => XS.ifNo X.at hx rfl hd rfl ((if0 _ _).trans (tlt (Classical.not_not.mp q)).2.2.2) k) (G2 (Classical.not_not.mp q))
theorem go_icmple (X : OnK p l e R s m args below meth c n0 T h cells slots) (hx : p.tables.exec = Jvm.exec) {x y : Int32} {o : Int} {pcT : Nat} (hd : decode c.code pc = .ok (.if_icmp .le o, 3)) (hp : pc + 3 = pc') (ho : 0 ≤ (pc : Int) + o) (ht : ((pc : Int) + o).toNat = pcT) (G1 : ¬ y < x → GoK p e below D T (mkF m pcT Ls St)) (G2 : y < x → GoK p e below D T (mkF m pc' Ls St)) : GoK p e below D T (mkF m pc Ls (.int y :: .int x :: St)) := by
  subst hp
  by_cases q : ¬ y < x
  · exact GoK.by (fun t k => XS.icmpYes X.at hx rfl rfl hd rfl (flt q).2.2.2 ho ht k) (G1 q)
  · exact GoK.by (fun t k => XS.icmpNo X.at hx rfl hd rfl (tlt (Classical.not_not.mp q)).2.2.2 k) (G2 (Classical.not_not.mp q))
theorem go_lifle (X : OnK p l e R s m args below meth c n0 T h cells slots) (hx : p.tables.exec = Jvm.exec) {x y : Int64} {o : Int} {pc1 pcT : Nat} (hd1 : decode c.code pc = .ok (.lcmp, 1)) (hp1 : pc + 1 = pc1) (hd : decode c.code pc1 = .ok (.ifCond .le o, 3)) (hp : pc1 + 3 = pc') (ho : 0 ≤ (pc1 : Int) + o) (ht : ((pc1 : Int) + o).toNat = pcT) (G1 : ¬ y < x → GoK p e below D T (mkF m pcT Ls St)) (G2 : y < x → GoK p e below D T (mkF m pc' Ls St)) : GoK p e below D T (mkF m pc Ls (.long y :: .long x :: St)) := by
  subst hp1
  refine GoK.by (fun t k => XS.lcmp X.at hx rfl hd1 rfl k) ?_
  exact go_ifle X hx hd hp ho ht (fun q => G1 ((not_congr (lw_gt x y)).mp q)) (fun q => G2 ((lw_gt x y).mp q))
/-- the array at a: of n places, place i holds the int f i -/
def AIK (Z : State) (h : Heap) (a : Addr) (ty : FieldType) (n : Int) (f : Int → Int32) : Prop := ∃ c : Cell, Arr Z h a c ty ∧ (c.slots.size : Int) = n ∧ n < 2147483648 ∧ ∀ i : Nat, (i : Int) < n → c.slots[i]? = some (.int (f i))
def AJK (Z : State) (h : Heap) (a : Addr) (n : Int) (f : Int → Int64) : Prop := ∃ c : Cell, Arr Z h a c .long ∧ (c.slots.size : Int) = n ∧ n < 2147483648 ∧ ∀ i : Nat, (i : Int) < n → c.slots[i]? = some (.long (f i))
theorem AIK.lt {a : Addr} {ty : FieldType} {n : Int} {f : Int → Int32} (F : AIK Z h a ty n f) : a < h.size := by obtain ⟨c, A, -⟩ := F; exact A.lt
theorem AIK.nn {a : Addr} {ty : FieldType} {n : Int} {f : Int → Int32} (F : AIK Z h a ty n f) : 0 ≤ n ∧ n < 2147483648 := by obtain ⟨c, -, S, q, -⟩ := F; exact ⟨by omega, q⟩
theorem AIK.ext {h' : Heap} {a : Addr} {ty : FieldType} {n : Int} {f : Int → Int32} (F : AIK Z h a ty n f) (E : Ext h h') : AIK Z h' a ty n f := by obtain ⟨c, A, r⟩ := F; exact ⟨c, A.ext E, r⟩
theorem AIK.other {h' : Heap} {a b : Addr} {sl : Nat} {v : Value} {ty : FieldType} {n : Int} {f : Int → Int32} (F : AIK Z h b ty n f) (W : Wr h h' a sl v) (q : b ≠ a) : AIK Z h' b ty n f := by obtain ⟨c, A, r⟩ := F; exact ⟨c, A.other W q, r⟩
theorem AIK.keep {h' : Heap} {a : Addr} {ws : List Addr} {ty : FieldType} {n : Int} {f : Int → Int32} (F : AIK Z h a ty n f) (K : Keep h h' ws) (q : a ∉ ws) : AIK Z h' a ty n f := by obtain ⟨c, A, r⟩ := F; exact ⟨c, ⟨K.2.1 a c A.1 q, A.2⟩, r⟩
theorem AIK.of_arv {a : Addr} {k : ClassId} {ty : FieldType} {z : Int32} {n : Int} {x : Int32} (F : Arv Z h a k ty z [] (.int x)) (q : z.toInt = n) : AIK Z h a ty n (fun _ => x) := by
  obtain ⟨c, A, -, S, M, H, -⟩ := F
  rw [Int32.lt_iff_toInt_lt] at M
  have hz : (0 : Int32).toInt = 0 := rfl
  have hr := rng32 z
  have S' : c.slots.size = z.toInt.toNat := S
  refine ⟨c, A, by omega, by omega, fun i hi => ?_⟩
  exact (H i (by omega)).trans rfl
theorem AIK.set {h' : Heap} {a : Addr} {j : Int32} {ty : FieldType} {n : Int} {f : Int → Int32} {x : Int32} (F : AIK Z h a ty n f) (W : Wr h h' a j.toNatClampNeg (.int x)) (h1 : 0 ≤ j.toInt) (h2 : j.toInt < n) : AIK Z h' a ty n (fun i => if i = j.toInt then x else f i) := by
  obtain ⟨c, A, S, M, H⟩ := F
  have hj : j.toNatClampNeg = j.toInt.toNat := rfl
  refine ⟨_, A.same W, ?_, M, fun i hi => ?_⟩
  · show (((c.slots.setIfInBounds j.toNatClampNeg (Value.int x)).size : Nat) : Int) = n
    rw [Array.size_setIfInBounds]; exact S
  · show (c.slots.setIfInBounds j.toNatClampNeg (Value.int x))[i]? = _
    rw [Array.getElem?_setIfInBounds]
    by_cases q : j.toNatClampNeg = i
    · have hi' : (i : Int) = j.toInt := by omega
      rw [if_pos q, if_pos (by omega)]
      show some (Value.int x) = some (Value.int (if (i : Int) = j.toInt then x else f i))
      rw [if_pos hi']
    · have hi' : ¬ (i : Int) = j.toInt := by omega
      rw [if_neg q]
      show _ = some (Value.int (if (i : Int) = j.toInt then x else f i))
      rw [if_neg hi']; exact H i hi
theorem AIK.get {a : Addr} {j : Int32} {ty : FieldType} {n : Int} {f : Int → Int32} (F : AIK Z h a ty n f) (h1 : 0 ≤ j.toInt) (h2 : j.toInt < n) : ∃ c : Cell, Arr Z h a c ty ∧ ¬ (j < 0 ∨ c.slots.size ≤ j.toNatClampNeg) ∧ c.slots[j.toNatClampNeg]? = some (.int (f j.toInt)) := by
  obtain ⟨c, A, S, M, H⟩ := F
  have hj : j.toNatClampNeg = j.toInt.toNat := rfl
  refine ⟨c, A, ?_, ?_⟩
  · rw [Int32.lt_iff_toInt_lt]
    have hz : (0 : Int32).toInt = 0 := rfl
    omega
  · rw [hj, H j.toInt.toNat (by omega), Int.toNat_of_nonneg h1]
theorem AIK.congr {a : Addr} {ty : FieldType} {n : Int} {f g : Int → Int32} (F : AIK Z h a ty n f) (q : ∀ i : Int, 0 ≤ i → i < n → f i = g i) : AIK Z h a ty n g := by
  obtain ⟨c, A, S, M, H⟩ := F
  exact ⟨c, A, S, M, fun i hi => by rw [H i hi, q i (by omega) hi]⟩
theorem AJK.lt {a : Addr} {n : Int} {f : Int → Int64} (F : AJK Z h a n f) : a < h.size := by obtain ⟨c, A, -⟩ := F; exact A.lt
theorem AJK.nn {a : Addr} {n : Int} {f : Int → Int64} (F : AJK Z h a n f) : 0 ≤ n ∧ n < 2147483648 := by obtain ⟨c, -, S, q, -⟩ := F; exact ⟨by omega, q⟩
theorem AJK.ext {h' : Heap} {a : Addr} {n : Int} {f : Int → Int64} (F : AJK Z h a n f) (E : Ext h h') : AJK Z h' a n f := by obtain ⟨c, A, r⟩ := F; exact ⟨c, A.ext E, r⟩
theorem AJK.other {h' : Heap} {a b : Addr} {sl : Nat} {v : Value} {n : Int} {f : Int → Int64} (F : AJK Z h b n f) (W : Wr h h' a sl v) (q : b ≠ a) : AJK Z h' b n f := by obtain ⟨c, A, r⟩ := F; exact ⟨c, A.other W q, r⟩
theorem AJK.keep {h' : Heap} {a : Addr} {ws : List Addr} {n : Int} {f : Int → Int64} (F : AJK Z h a n f) (K : Keep h h' ws) (q : a ∉ ws) : AJK Z h' a n f := by obtain ⟨c, A, r⟩ := F; exact ⟨c, ⟨K.2.1 a c A.1 q, A.2⟩, r⟩
theorem AJK.of_arv {a : Addr} {k : ClassId} {z : Int32} {n : Int} {x : Int64} (F : Arv Z h a k .long z [] (.long x)) (q : z.toInt = n) : AJK Z h a n (fun _ => x) := by
  obtain ⟨c, A, -, S, M, H, -⟩ := F
  rw [Int32.lt_iff_toInt_lt] at M
  have hz : (0 : Int32).toInt = 0 := rfl
  have hr := rng32 z
  have S' : c.slots.size = z.toInt.toNat := S
  refine ⟨c, A, by omega, by omega, fun i hi => ?_⟩
  exact (H i (by omega)).trans rfl
theorem AJK.set {h' : Heap} {a : Addr} {j : Int32} {n : Int} {f : Int → Int64} {x : Int64} (F : AJK Z h a n f) (W : Wr h h' a j.toNatClampNeg (.long x)) (h1 : 0 ≤ j.toInt) (h2 : j.toInt < n) : AJK Z h' a n (fun i => if i = j.toInt then x else f i) := by
  obtain ⟨c, A, S, M, H⟩ := F
  have hj : j.toNatClampNeg = j.toInt.toNat := rfl
  refine ⟨_, A.same W, ?_, M, fun i hi => ?_⟩
  · show (((c.slots.setIfInBounds j.toNatClampNeg (Value.long x)).size : Nat) : Int) = n
    rw [Array.size_setIfInBounds]; exact S
  · show (c.slots.setIfInBounds j.toNatClampNeg (Value.long x))[i]? = _
    rw [Array.getElem?_setIfInBounds]
    by_cases q : j.toNatClampNeg = i
    · have hi' : (i : Int) = j.toInt := by omega
      rw [if_pos q, if_pos (by omega)]
      show some (Value.long x) = some (Value.long (if (i : Int) = j.toInt then x else f i))
      rw [if_pos hi']
    · have hi' : ¬ (i : Int) = j.toInt := by omega
      rw [if_neg q]
      show _ = some (Value.long (if (i : Int) = j.toInt then x else f i))
      rw [if_neg hi']; exact H i hi
theorem AJK.get {a : Addr} {j : Int32} {n : Int} {f : Int → Int64} (F : AJK Z h a n f) (h1 : 0 ≤ j.toInt) (h2 : j.toInt < n) : ∃ c : Cell, Arr Z h a c .long ∧ ¬ (j < 0 ∨ c.slots.size ≤ j.toNatClampNeg) ∧ c.slots[j.toNatClampNeg]? = some (.long (f j.toInt)) := by
  obtain ⟨c, A, S, M, H⟩ := F
  have hj : j.toNatClampNeg = j.toInt.toNat := rfl
  refine ⟨c, A, ?_, ?_⟩
  · rw [Int32.lt_iff_toInt_lt]
    have hz : (0 : Int32).toInt = 0 := rfl
    omega
  · rw [hj, H j.toInt.toNat (by omega), Int.toNat_of_nonneg h1]
theorem AJK.congr {a : Addr} {n : Int} {f g : Int → Int64} (F : AJK Z h a n f) (q : ∀ i : Int, 0 ≤ i → i < n → f i = g i) : AJK Z h a n g := by
  obtain ⟨c, A, S, M, H⟩ := F
  exact ⟨c, A, S, M, fun i hi => by rw [H i hi, q i (by omega) hi]⟩
theorem go_newI (X : OnK p l e R s m args below meth c n0 T h cells slots) (hx : p.tables.exec = Jvm.exec) (hZ : Z.Warmed39 s.vm) {x : Int32} {cap : Nat} {n : Int} (wd : (Jvm.Cond.arrayClass .int).before a0 Z = true) (hd : decode c.code pc = .ok (.newarray .int, 2)) (hp : pc + 2 = pc') (hn : x.toInt = n) (h1 : 0 ≤ n) (h2 : n ≤ cap) (hb : cap * 8 ≤ 536870912) (hc : cells + 1 ≤ R.cells) (hs : slots + cap ≤ R.slots) (hc' : cells + 1 = cells') (hs' : slots + cap = slots') (G : ∀ (T' : State) (h' : Heap) (a : Addr), a = h.size → OnK p l e R s m args below meth c n0 T' h' cells' slots' → Ext h h' → AIK Z h' a .int n (fun _ => 0) → GoK p e below D T' (mkF m (pc') Ls (.ref a :: St))) : GoK p e below D T (mkF m pc Ls (.int x :: St)) := by
  subst hp hc' hs'
  obtain ⟨_, Y, e0, N⟩ := X
  have hz : (0 : Int32).toInt = 0 := rfl
  have q : ¬ x < 0 := by rw [Int32.lt_iff_toInt_lt]; omega
  obtain ⟨T', h', k, Y', e', E, A, st⟩ := newP Y hx hZ (aty := .int) wd e0 (g := mkF m pc Ls (.int x :: St)) rfl hd rfl q (cap := cap) (by show x.toInt.toNat ≤ cap; omega) hb hc hs
  refine GoK.by st (G T' h' _ rfl ⟨_, Y', e', N⟩ E ?_)
  exact AIK.of_arv (Arv.new A q) hn
theorem go_newB (X : OnK p l e R s m args below meth c n0 T h cells slots) (hx : p.tables.exec = Jvm.exec) (hZ : Z.Warmed39 s.vm) {x : Int32} {cap : Nat} {n : Int} (wd : (Jvm.Cond.arrayClass .byte).before a0 Z = true) (hd : decode c.code pc = .ok (.newarray .byte, 2)) (hp : pc + 2 = pc') (hn : x.toInt = n) (h1 : 0 ≤ n) (h2 : n ≤ cap) (hb : cap * 8 ≤ 536870912) (hc : cells + 1 ≤ R.cells) (hs : slots + cap ≤ R.slots) (hc' : cells + 1 = cells') (hs' : slots + cap = slots') (G : ∀ (T' : State) (h' : Heap) (a : Addr), a = h.size → OnK p l e R s m args below meth c n0 T' h' cells' slots' → Ext h h' → AIK Z h' a .byte n (fun _ => 0) → GoK p e below D T' (mkF m (pc') Ls (.ref a :: St))) : GoK p e below D T (mkF m pc Ls (.int x :: St)) := by
  subst hp hc' hs'
  obtain ⟨_, Y, e0, N⟩ := X
  have hz : (0 : Int32).toInt = 0 := rfl
  have q : ¬ x < 0 := by rw [Int32.lt_iff_toInt_lt]; omega
  obtain ⟨T', h', k, Y', e', E, A, st⟩ := newP Y hx hZ (aty := .byte) wd e0 (g := mkF m pc Ls (.int x :: St)) rfl hd rfl q (cap := cap) (by show x.toInt.toNat ≤ cap; omega) hb hc hs
  refine GoK.by st (G T' h' _ rfl ⟨_, Y', e', N⟩ E ?_)
  exact AIK.of_arv (Arv.new A q) hn
theorem go_newC (X : OnK p l e R s m args below meth c n0 T h cells slots) (hx : p.tables.exec = Jvm.exec) (hZ : Z.Warmed39 s.vm) {x : Int32} {cap : Nat} {n : Int} (wd : (Jvm.Cond.arrayClass .char).before a0 Z = true) (hd : decode c.code pc = .ok (.newarray .char, 2)) (hp : pc + 2 = pc') (hn : x.toInt = n) (h1 : 0 ≤ n) (h2 : n ≤ cap) (hb : cap * 8 ≤ 536870912) (hc : cells + 1 ≤ R.cells) (hs : slots + cap ≤ R.slots) (hc' : cells + 1 = cells') (hs' : slots + cap = slots') (G : ∀ (T' : State) (h' : Heap) (a : Addr), a = h.size → OnK p l e R s m args below meth c n0 T' h' cells' slots' → Ext h h' → AIK Z h' a .char n (fun _ => 0) → GoK p e below D T' (mkF m (pc') Ls (.ref a :: St))) : GoK p e below D T (mkF m pc Ls (.int x :: St)) := by
  subst hp hc' hs'
  obtain ⟨_, Y, e0, N⟩ := X
  have hz : (0 : Int32).toInt = 0 := rfl
  have q : ¬ x < 0 := by rw [Int32.lt_iff_toInt_lt]; omega
  obtain ⟨T', h', k, Y', e', E, A, st⟩ := newP Y hx hZ (aty := .char) wd e0 (g := mkF m pc Ls (.int x :: St)) rfl hd rfl q (cap := cap) (by show x.toInt.toNat ≤ cap; omega) hb hc hs
  refine GoK.by st (G T' h' _ rfl ⟨_, Y', e', N⟩ E ?_)
  exact AIK.of_arv (Arv.new A q) hn
theorem go_newZ (X : OnK p l e R s m args below meth c n0 T h cells slots) (hx : p.tables.exec = Jvm.exec) (hZ : Z.Warmed39 s.vm) {x : Int32} {cap : Nat} {n : Int} (wd : (Jvm.Cond.arrayClass .boolean).before a0 Z = true) (hd : decode c.code pc = .ok (.newarray .boolean, 2)) (hp : pc + 2 = pc') (hn : x.toInt = n) (h1 : 0 ≤ n) (h2 : n ≤ cap) (hb : cap * 8 ≤ 536870912) (hc : cells + 1 ≤ R.cells) (hs : slots + cap ≤ R.slots) (hc' : cells + 1 = cells') (hs' : slots + cap = slots') (G : ∀ (T' : State) (h' : Heap) (a : Addr), a = h.size → OnK p l e R s m args below meth c n0 T' h' cells' slots' → Ext h h' → AIK Z h' a .boolean n (fun _ => 0) → GoK p e below D T' (mkF m (pc') Ls (.ref a :: St))) : GoK p e below D T (mkF m pc Ls (.int x :: St)) := by
  subst hp hc' hs'
  obtain ⟨_, Y, e0, N⟩ := X
  have hz : (0 : Int32).toInt = 0 := rfl
  have q : ¬ x < 0 := by rw [Int32.lt_iff_toInt_lt]; omega
  obtain ⟨T', h', k, Y', e', E, A, st⟩ := newP Y hx hZ (aty := .boolean) wd e0 (g := mkF m pc Ls (.int x :: St)) rfl hd rfl q (cap := cap) (by show x.toInt.toNat ≤ cap; omega) hb hc hs
  refine GoK.by st (G T' h' _ rfl ⟨_, Y', e', N⟩ E ?_)
  exact AIK.of_arv (Arv.new A q) hn
theorem go_newJ (X : OnK p l e R s m args below meth c n0 T h cells slots) (hx : p.tables.exec = Jvm.exec) (hZ : Z.Warmed39 s.vm) {x : Int32} {cap : Nat} {n : Int} (wd : (Jvm.Cond.arrayClass .long).before a0 Z = true) (hd : decode c.code pc = .ok (.newarray .long, 2)) (hp : pc + 2 = pc') (hn : x.toInt = n) (h1 : 0 ≤ n) (h2 : n ≤ cap) (hb : cap * 8 ≤ 536870912) (hc : cells + 1 ≤ R.cells) (hs : slots + cap ≤ R.slots) (hc' : cells + 1 = cells') (hs' : slots + cap = slots') (G : ∀ (T' : State) (h' : Heap) (a : Addr), a = h.size → OnK p l e R s m args below meth c n0 T' h' cells' slots' → Ext h h' → AJK Z h' a n (fun _ => 0) → GoK p e below D T' (mkF m (pc') Ls (.ref a :: St))) : GoK p e below D T (mkF m pc Ls (.int x :: St)) := by
  subst hp hc' hs'
  obtain ⟨_, Y, e0, N⟩ := X
  have hz : (0 : Int32).toInt = 0 := rfl
  have q : ¬ x < 0 := by rw [Int32.lt_iff_toInt_lt]; omega
  obtain ⟨T', h', k, Y', e', E, A, st⟩ := newP Y hx hZ (aty := .long) wd e0 (g := mkF m pc Ls (.int x :: St)) rfl hd rfl q (cap := cap) (by show x.toInt.toNat ≤ cap; omega) hb hc hs
  refine GoK.by st (G T' h' _ rfl ⟨_, Y', e', N⟩ E ?_)
  exact AJK.of_arv (Arv.new A q) hn
theorem go_iastore (X : OnK p l e R s m args below meth c n0 T h cells slots) (hx : p.tables.exec = Jvm.exec) (hZ : Z.Warmed39 s.vm) {x : Int32} {j : Int32} {a : Addr} {n : Int} {f : Int → Int32} (A : AIK Z h a .int n f) (ga : n0 ≤ a) (h1 : 0 ≤ j.toInt) (h2 : j.toInt < n) (hd : decode c.code pc = .ok (.iastore, 1)) (hp : pc + 1 = pc') (G : ∀ (T' : State) (h' : Heap), OnK p l e R s m args below meth c n0 T' h' cells slots → Wr h h' a j.toNatClampNeg (.int (x)) → AIK Z h' a .int n (fun i => if i = j.toInt then x else f i) → GoK p e below D T' (mkF m pc' Ls St)) : GoK p e below D T (mkF m pc Ls (.int x :: .int j :: .ref a :: St)) := by
  subst hp
  obtain ⟨_, Y, e0, N⟩ := X
  obtain ⟨cl, Ar, hin, -⟩ := A.get h1 h2
  obtain ⟨T', h', Y', e', W, st⟩ := stI Y hx hZ e0 Ar (j := j) (x := x) hin (g := mkF m pc Ls (.int x :: .int j :: .ref a :: St)) rfl rfl hd
  exact GoK.by st (G T' h' ⟨_, Y', e', Fr.snoc Y' N ga⟩ W (A.set W h1 h2))
theorem go_castore (X : OnK p l e R s m args below meth c n0 T h cells slots) (hx : p.tables.exec = Jvm.exec) (hZ : Z.Warmed39 s.vm) {x : Int32} {j : Int32} {a : Addr} {n : Int} {f : Int → Int32} (A : AIK Z h a .char n f) (ga : n0 ≤ a) (h1 : 0 ≤ j.toInt) (h2 : j.toInt < n) (hd : decode c.code pc = .ok (.castore, 1)) (hp : pc + 1 = pc') (G : ∀ (T' : State) (h' : Heap), OnK p l e R s m args below meth c n0 T' h' cells slots → Wr h h' a j.toNatClampNeg (.int (nar .char x)) → AIK Z h' a .char n (fun i => if i = j.toInt then nar .char x else f i) → GoK p e below D T' (mkF m pc' Ls St)) : GoK p e below D T (mkF m pc Ls (.int x :: .int j :: .ref a :: St)) := by
  subst hp
  obtain ⟨_, Y, e0, N⟩ := X
  obtain ⟨cl, Ar, hin, -⟩ := A.get h1 h2
  obtain ⟨T', h', Y', e', W, st⟩ := stC Y hx hZ e0 Ar (j := j) (x := x) hin (g := mkF m pc Ls (.int x :: .int j :: .ref a :: St)) rfl rfl hd
  exact GoK.by st (G T' h' ⟨_, Y', e', Fr.snoc Y' N ga⟩ W (A.set W h1 h2))
theorem go_bastoreB (X : OnK p l e R s m args below meth c n0 T h cells slots) (hx : p.tables.exec = Jvm.exec) (hZ : Z.Warmed39 s.vm) {x : Int32} {j : Int32} {a : Addr} {n : Int} {f : Int → Int32} (A : AIK Z h a .byte n f) (ga : n0 ≤ a) (h1 : 0 ≤ j.toInt) (h2 : j.toInt < n) (hd : decode c.code pc = .ok (.bastore, 1)) (hp : pc + 1 = pc') (G : ∀ (T' : State) (h' : Heap), OnK p l e R s m args below meth c n0 T' h' cells slots → Wr h h' a j.toNatClampNeg (.int (nar .byte x)) → AIK Z h' a .byte n (fun i => if i = j.toInt then nar .byte x else f i) → GoK p e below D T' (mkF m pc' Ls St)) : GoK p e below D T (mkF m pc Ls (.int x :: .int j :: .ref a :: St)) := by
  subst hp
  obtain ⟨_, Y, e0, N⟩ := X
  obtain ⟨cl, Ar, hin, -⟩ := A.get h1 h2
  obtain ⟨T', h', Y', e', W, st⟩ := stB Y hx hZ e0 Ar (j := j) (x := x) hin (g := mkF m pc Ls (.int x :: .int j :: .ref a :: St)) rfl rfl hd
  exact GoK.by st (G T' h' ⟨_, Y', e', Fr.snoc Y' N ga⟩ W (A.set W h1 h2))
theorem go_bastoreZ (X : OnK p l e R s m args below meth c n0 T h cells slots) (hx : p.tables.exec = Jvm.exec) (hZ : Z.Warmed39 s.vm) {x : Int32} {j : Int32} {a : Addr} {n : Int} {f : Int → Int32} (A : AIK Z h a .boolean n f) (ga : n0 ≤ a) (h1 : 0 ≤ j.toInt) (h2 : j.toInt < n) (hd : decode c.code pc = .ok (.bastore, 1)) (hp : pc + 1 = pc') (G : ∀ (T' : State) (h' : Heap), OnK p l e R s m args below meth c n0 T' h' cells slots → Wr h h' a j.toNatClampNeg (.int (nar .boolean x)) → AIK Z h' a .boolean n (fun i => if i = j.toInt then nar .boolean x else f i) → GoK p e below D T' (mkF m pc' Ls St)) : GoK p e below D T (mkF m pc Ls (.int x :: .int j :: .ref a :: St)) := by
  subst hp
  obtain ⟨_, Y, e0, N⟩ := X
  obtain ⟨cl, Ar, hin, -⟩ := A.get h1 h2
  obtain ⟨T', h', Y', e', W, st⟩ := stZ Y hx hZ e0 Ar (j := j) (x := x) hin (g := mkF m pc Ls (.int x :: .int j :: .ref a :: St)) rfl rfl hd
  exact GoK.by st (G T' h' ⟨_, Y', e', Fr.snoc Y' N ga⟩ W (A.set W h1 h2))
theorem go_lastore (X : OnK p l e R s m args below meth c n0 T h cells slots) (hx : p.tables.exec = Jvm.exec) (hZ : Z.Warmed39 s.vm) {x : Int64} {j : Int32} {a : Addr} {n : Int} {f : Int → Int64} (A : AJK Z h a n f) (ga : n0 ≤ a) (h1 : 0 ≤ j.toInt) (h2 : j.toInt < n) (hd : decode c.code pc = .ok (.lastore, 1)) (hp : pc + 1 = pc') (G : ∀ (T' : State) (h' : Heap), OnK p l e R s m args below meth c n0 T' h' cells slots → Wr h h' a j.toNatClampNeg (.long (x)) → AJK Z h' a n (fun i => if i = j.toInt then x else f i) → GoK p e below D T' (mkF m pc' Ls St)) : GoK p e below D T (mkF m pc Ls (.long x :: .int j :: .ref a :: St)) := by
  subst hp
  obtain ⟨_, Y, e0, N⟩ := X
  obtain ⟨cl, Ar, hin, -⟩ := A.get h1 h2
  obtain ⟨T', h', Y', e', W, st⟩ := stJ Y hx hZ e0 Ar (j := j) (x := x) hin (g := mkF m pc Ls (.long x :: .int j :: .ref a :: St)) rfl rfl hd
  exact GoK.by st (G T' h' ⟨_, Y', e', Fr.snoc Y' N ga⟩ W (A.set W h1 h2))
theorem go_iaload (X : OnK p l e R s m args below meth c n0 T h cells slots) (hx : p.tables.exec = Jvm.exec) (hZ : Z.Warmed39 s.vm) {j : Int32} {a : Addr} {n : Int} {f : Int → Int32} (A : AIK Z h a .int n f) (h1 : 0 ≤ j.toInt) (h2 : j.toInt < n) (hd : decode c.code pc = .ok (.iaload, 1)) (hp : pc + 1 = pc') (G : ∀ z : Int32, z = f j.toInt → GoK p e below D T (mkF m pc' Ls (.int z :: St))) : GoK p e below D T (mkF m pc Ls (.int j :: .ref a :: St)) := by
  subst hp
  obtain ⟨_, Y, e0, N⟩ := X
  obtain ⟨cl, Ar, hin, hv⟩ := A.get h1 h2
  exact GoK.by (fun t k => Y.iaload hx (j := j) (v := .int (f j.toInt)) (by rw [e0]; exact Ar.1) (State.isArrayOf_alike hZ.alike Ar.2.1) Ar.2.2 hin hv (g := mkF m pc Ls (.int j :: .ref a :: St)) rfl rfl hd t k) (G _ rfl)
theorem go_caload (X : OnK p l e R s m args below meth c n0 T h cells slots) (hx : p.tables.exec = Jvm.exec) (hZ : Z.Warmed39 s.vm) {j : Int32} {a : Addr} {n : Int} {f : Int → Int32} (A : AIK Z h a .char n f) (h1 : 0 ≤ j.toInt) (h2 : j.toInt < n) (hd : decode c.code pc = .ok (.caload, 1)) (hp : pc + 1 = pc') (G : ∀ z : Int32, z = f j.toInt → GoK p e below D T (mkF m pc' Ls (.int z :: St))) : GoK p e below D T (mkF m pc Ls (.int j :: .ref a :: St)) := by
  subst hp
  obtain ⟨_, Y, e0, N⟩ := X
  obtain ⟨cl, Ar, hin, hv⟩ := A.get h1 h2
  exact GoK.by (fun t k => Y.caload hx (j := j) (v := .int (f j.toInt)) (by rw [e0]; exact Ar.1) (State.isArrayOf_alike hZ.alike Ar.2.1) Ar.2.2 hin hv (g := mkF m pc Ls (.int j :: .ref a :: St)) rfl rfl hd t k) (G _ rfl)
theorem go_baloadB (X : OnK p l e R s m args below meth c n0 T h cells slots) (hx : p.tables.exec = Jvm.exec) (hZ : Z.Warmed39 s.vm) {j : Int32} {a : Addr} {n : Int} {f : Int → Int32} (A : AIK Z h a .byte n f) (h1 : 0 ≤ j.toInt) (h2 : j.toInt < n) (hd : decode c.code pc = .ok (.baload, 1)) (hp : pc + 1 = pc') (G : ∀ z : Int32, z = f j.toInt → GoK p e below D T (mkF m pc' Ls (.int z :: St))) : GoK p e below D T (mkF m pc Ls (.int j :: .ref a :: St)) := by
  subst hp
  obtain ⟨_, Y, e0, N⟩ := X
  obtain ⟨cl, Ar, hin, hv⟩ := A.get h1 h2
  exact GoK.by (fun t k => Y.baloadBytes hx (j := j) (v := .int (f j.toInt)) (by rw [e0]; exact Ar.1) (State.isArrayOf_alike hZ.alike Ar.2.1) Ar.2.2 hin hv (g := mkF m pc Ls (.int j :: .ref a :: St)) rfl rfl hd t k) (G _ rfl)
theorem go_baloadZ (X : OnK p l e R s m args below meth c n0 T h cells slots) (hx : p.tables.exec = Jvm.exec) (hZ : Z.Warmed39 s.vm) {j : Int32} {a : Addr} {n : Int} {f : Int → Int32} (A : AIK Z h a .boolean n f) (h1 : 0 ≤ j.toInt) (h2 : j.toInt < n) (hd : decode c.code pc = .ok (.baload, 1)) (hp : pc + 1 = pc') (G : ∀ z : Int32, z = f j.toInt → GoK p e below D T (mkF m pc' Ls (.int z :: St))) : GoK p e below D T (mkF m pc Ls (.int j :: .ref a :: St)) := by
  subst hp
  obtain ⟨_, Y, e0, N⟩ := X
  obtain ⟨cl, Ar, hin, hv⟩ := A.get h1 h2
  exact GoK.by (fun t k => Y.baloadBooleans hx (j := j) (v := .int (f j.toInt)) (by rw [e0]; exact Ar.1) (State.isArrayOf_alike hZ.alike Ar.2.1) Ar.2.2 hin hv (g := mkF m pc Ls (.int j :: .ref a :: St)) rfl rfl hd t k) (G _ rfl)
theorem go_laload (X : OnK p l e R s m args below meth c n0 T h cells slots) (hx : p.tables.exec = Jvm.exec) (hZ : Z.Warmed39 s.vm) {j : Int32} {a : Addr} {n : Int} {f : Int → Int64} (A : AJK Z h a n f) (h1 : 0 ≤ j.toInt) (h2 : j.toInt < n) (hd : decode c.code pc = .ok (.laload, 1)) (hp : pc + 1 = pc') (G : ∀ z : Int64, z = f j.toInt → GoK p e below D T (mkF m pc' Ls (.long z :: St))) : GoK p e below D T (mkF m pc Ls (.int j :: .ref a :: St)) := by
  subst hp
  obtain ⟨_, Y, e0, N⟩ := X
  obtain ⟨cl, Ar, hin, hv⟩ := A.get h1 h2
  exact GoK.by (fun t k => Y.laload hx (j := j) (v := .long (f j.toInt)) (by rw [e0]; exact Ar.1) (State.isArrayOf_alike hZ.alike Ar.2.1) Ar.2.2 hin hv (g := mkF m pc Ls (.int j :: .ref a :: St)) rfl rfl hd t k) (G _ rfl)
theorem own_len {k : Nat} {n : Int} (S : (k : Int) = n) (M : n < 2147483648) : (k.toInt32).toInt = n := by
  have e : (k.toInt32).toInt = ((k : Int)).bmod (2 ^ 32) := by
    show (Int32.ofNat k).toInt = _
    exact Int32.toInt_ofNat
  rw [e, Int.bmod_eq_of_le (by omega) (by omega)]; exact S
theorem go_lenI (X : OnK p l e R s m args below meth c n0 T h cells slots) (hx : p.tables.exec = Jvm.exec) (hZ : Z.Warmed39 s.vm) {a : Addr} {n : Int} {ty : FieldType} {f : Int → Int32} (A : AIK Z h a ty n f) (hd : decode c.code pc = .ok (.arraylength, 1)) (hp : pc + 1 = pc') (G : ∀ z : Int32, z.toInt = n → GoK p e below D T (mkF m pc' Ls (.int z :: St))) : GoK p e below D T (mkF m pc Ls (.ref a :: St)) := by
  subst hp
  obtain ⟨_, Y, e0, N⟩ := X
  obtain ⟨cl, Ar, S, M, -⟩ := A
  refine GoK.by (fun t k => Y.arraylength hx (by rw [e0]; exact Ar.1) (State.isArrayOf_alike hZ.alike Ar.2.1) (g := mkF m pc Ls (.ref a :: St)) rfl rfl hd t k) (G _ ?_)
  exact own_len S M
theorem go_lenJ (X : OnK p l e R s m args below meth c n0 T h cells slots) (hx : p.tables.exec = Jvm.exec) (hZ : Z.Warmed39 s.vm) {a : Addr} {n : Int} {f : Int → Int64} (A : AJK Z h a n f) (hd : decode c.code pc = .ok (.arraylength, 1)) (hp : pc + 1 = pc') (G : ∀ z : Int32, z.toInt = n → GoK p e below D T (mkF m pc' Ls (.int z :: St))) : GoK p e below D T (mkF m pc Ls (.ref a :: St)) := by
  subst hp
  obtain ⟨_, Y, e0, N⟩ := X
  obtain ⟨cl, Ar, S, M, -⟩ := A
  refine GoK.by (fun t k => Y.arraylength hx (by rw [e0]; exact Ar.1) (State.isArrayOf_alike hZ.alike Ar.2.1) (g := mkF m pc Ls (.ref a :: St)) rfl rfl hd t k) (G _ ?_)
  exact own_len S M
theorem go_getfield (X : OnK p l e R s m args below meth c n0 T h cells slots) (hx : p.tables.exec = Jvm.exec) (hZ : Z.Warmed39 s.vm) {own O n d : String} {i : Nat} {a : Addr} {v : Value} (hown : s.vm.findClass own = some m.cls) (wd : (Jvm.Cond.fieldLink own i O n d).before a0 Z = true) (F : Fld Z h a O n d v) (hd : decode c.code pc = .ok (.getfield i, 3)) (hp : pc + 3 = pc') (G : ∀ T' : State, OnK p l e R s m args below meth c n0 T' h cells slots → GoK p e below D T' (mkF m pc' Ls (v :: St))) : GoK p e below D T (mkF m pc Ls (.ref a :: St)) := by
  subst hp
  obtain ⟨_, Y, e0, N⟩ := X
  obtain ⟨T', Y', e', st⟩ := getF Y hx hZ hown (host := "") (Or.inl wd) Via.refl e0 F (g := mkF m pc Ls (.ref a :: St)) rfl rfl hd
  exact GoK.by st (G T' ⟨_, Y', e', N⟩)
theorem go_putfield (X : OnK p l e R s m args below meth c n0 T h cells slots) (hx : p.tables.exec = Jvm.exec) (hZ : Z.Warmed39 s.vm) {own O n d C : String} {i kk : Nat} {ty : FieldType} {a : Addr} {v v' old : Value} (hown : s.vm.findClass own = some m.cls) (wd : (Jvm.Cond.fieldLink own i O n d).before a0 Z = true) (F : Fld Z h a O n d old) (E : Exa Z h a C) (L : (Jvm.Cond.lays C O n d).before a0 Z = true ∨ ((Jvm.Cond.laysFinal C O n d).before a0 Z = true ∧ own = O ∧ meth.name = "<init>")) (wi : (Jvm.Cond.instantiable C kk).before a0 Z = true) (ga : n0 ≤ a) (hty : parseFieldDescriptor d = some ty) (hn : narrow ty v = v') (hf : fits ty v' = true) (hd : decode c.code pc = .ok (.putfield i, 3)) (hp : pc + 3 = pc') (G : ∀ (T' : State) (h' : Heap), OnK p l e R s m args below meth c n0 T' h' cells slots → Wr h h' a (slotOf Z O n d) v' → Fld Z h' a O n d v' → GoK p e below D T' (mkF m pc' Ls St)) : GoK p e below D T (mkF m pc Ls (v :: .ref a :: St)) := by
  subst hp
  obtain ⟨_, Y, e0, N⟩ := X
  obtain ⟨T', h', Y', e', W, st⟩ := putFN Y hx hZ hown wd Via.refl e0 F E L wi hty hn hf (g := mkF m pc Ls (v :: .ref a :: St)) rfl rfl hd
  exact GoK.by st (G T' h' ⟨_, Y', e', Fr.snoc Y' N ga⟩ W (F.same W))
theorem go_new (X : OnK p l e R s m args below meth c n0 T h cells slots) (hx : p.tables.exec = Jvm.exec) (hZ : Z.Warmed39 s.vm) {own C : String} {i n : Nat} (hown : s.vm.findClass own = some m.cls) (w1 : (Jvm.Cond.classLink own i C).before a0 Z = true) (w2 : (Jvm.Cond.instantiable C n).before a0 Z = true) (w3 : (Jvm.Cond.initialized C).before a0 Z = true) (hd : decode c.code pc = .ok (.new i, 3)) (hp : pc + 3 = pc') (hc : cells + 1 ≤ R.cells) (hs : slots + n ≤ R.slots) (hc' : cells + 1 = cells') (hs' : slots + n = slots')
    (G : ∀ (T' : State) (h' : Heap) (a : Addr), a = h.size → OnK p l e R s m args below meth c n0 T' h' cells' slots' → Ext h h' → Exa Z h' a C → (∀ {O nm d : String} {ty : FieldType}, Laid Z a0 C O nm d → parseFieldDescriptor d = some ty → Fld Z h' a O nm d (defaultValue ty)) → GoK p e below D T' (mkF m pc' Ls (.ref a :: St))) : GoK p e below D T (mkF m pc Ls St) := by
  subst hp hc' hs'
  obtain ⟨_, Y, e0, N⟩ := X
  obtain ⟨T', h', Y', e', E, A, Dv, -, st⟩ := newO Y hx hZ hown w1 w2 w3 e0 (g := mkF m pc Ls St) rfl hd hc hs
  exact GoK.by st (G T' h' _ rfl ⟨_, Y', e', N⟩ E A Dv)
theorem go_initO (X : OnK p l e R s m args below meth c n0 T h cells slots) (hx : p.tables.exec = Jvm.exec) (hZ : Z.Warmed39 s.vm) {own : String} {i W : Nat} {a : Addr} (hown : s.vm.findClass own = some m.cls) (hml : Ls.size = c.maxLocals) (w1 : (Jvm.Cond.methodLink own i Lib.objectInit).before a0 Z = true) (w2 : (Jvm.Cond.instanceMethod Lib.objectInit).before a0 Z = true) (w3 : (Jvm.Cond.code Lib.objectInit ⟨#[0xb1]⟩ 1 none).before a0 Z = true) (hd : decode c.code pc = .ok (.invokespecial i, 3)) (hp : pc + 3 = pc') (hf : 1 ≤ R.frames) (hW : (St.map fun v => v.category).sum ≤ W) (hl : W + 12 ≤ R.locals) (G : ∀ T' : State, OnK p l e R s m args below meth c n0 T' h cells slots → GoK p e below D T' (mkF m pc' Ls St)) : GoK p e below D T (mkF m pc Ls (.ref a :: St)) := by
  subst hp
  obtain ⟨_, Y, e0, N⟩ := X
  obtain ⟨T', Y', e', st⟩ := initO Y hx hZ hown w1 w2 w3 e0 (g := mkF m pc Ls (.ref a :: St)) rfl hml rfl hd hf (W := W) (by show 2 * 0 + _ ≤ _; omega) hl
  exact GoK.by st (G T' ⟨_, Y', e', N⟩)
theorem go_callS (X : OnK p l e R s m args below meth c n0 T h cells slots) (hx : p.tables.exec = Jvm.exec) (hZ : Z.Warmed39 s.vm) {own : String} {i W ml : Nat} {y : MethodName} {bytes : ByteArray} {ret : Option FieldType} {rm : Room} {Q : Option Value → Heap → Prop} {aL : List Value} {ps : List FieldType} {rt : Option FieldType} (hown : s.vm.findClass own = some m.cls) (hml : Ls.size = c.maxLocals) (wl : (Jvm.Cond.methodLink own i y).before a0 Z = true) (ws : (Jvm.Cond.static y).before a0 Z = true) (wz : (Jvm.Cond.initialized y.cls).before a0 Z = true) (wc : (Jvm.Cond.code y bytes ml ret).before a0 Z = true) (hy : y.cls ≠ "java/lang/invoke/MethodHandle" ∧ y.cls ≠ "java/lang/invoke/VarHandle") (pd : parseMethodDescriptor y.desc = some ⟨ps, rt⟩) (hlen : aL.length = ps.length) (ct : CtK l Z y bytes ml ret rm aL.toArray h n0 Q) (hd : decode c.code pc = .ok (.invokestatic i, 3)) (hp : pc + 3 = pc') (hf : rm.frames + 1 ≤ R.frames) (hW : (St.map fun v => v.category).sum ≤ W) (hlo : W + (ml + 11) + rm.locals ≤ R.locals) (hc : cells + rm.cells ≤ R.cells) (hs : slots + rm.slots ≤ R.slots) (hc' : cells + rm.cells = cells') (hs' : slots + rm.slots = slots') (G : ∀ (T' : State) (h' : Heap) (v : Option Value), OnK p l e R s m args below meth c n0 T' h' cells' slots' → Q v h' → GoK p e below D T' (mkF m pc' Ls (v.toList ++ St))) {S0 : List Value} (hS : S0 = aL.reverse ++ St) : GoK p e below D T (mkF m pc Ls S0) := by
  subst hp hc' hs' hS
  obtain ⟨_, Y, e0, N⟩ := X
  obtain ⟨v, _, ⟨B, L, k, n⟩, -, Y', ⟨Lc, ⟨hQ, hN⟩, el, ec, es⟩, st⟩ := Jvm.LawKit.callS Y hx (y := y) hown (mvT hZ wl) (mvT hZ ws) (mvT hZ wz) (mvT hZ wc) hy (backOf (W := W) (Q := fun v h L => Q v h ∧ Fr n0 L) (ct []) hZ wc wz hf hlo) (g := mkF m pc Ls (aL.reverse ++ St)) rfl hml (argsL := aL) (rest := St) (lenOf pd hlen) rfl (by show 2 * 0 + _ ≤ _; omega) hd (fun _ _ => ⟨rfl, e0, hc, hs⟩)
  dsimp only [Pt.U, Pt.locs, Pt.cells, Pt.slots] at Y' el ec es st hQ
  subst el ec es
  exact GoK.by st (G B _ v ⟨_, Y', rfl, N.app hN⟩ hQ)
theorem go_callC (X : OnK p l e R s m args below meth c n0 T h cells slots) (hx : p.tables.exec = Jvm.exec) (hZ : Z.Warmed39 s.vm) {own : String} {i W ml : Nat} {y : MethodName} {bytes : ByteArray} {rm : Room} {Q : Option Value → Heap → Prop} {aL : List Value} {ps : List FieldType} {rt : Option FieldType} {a : Addr} (hown : s.vm.findClass own = some m.cls) (hml : Ls.size = c.maxLocals) (hi : y.name = "<init>") (wl : (Jvm.Cond.methodLink own i y).before a0 Z = true) (wi : (Jvm.Cond.instanceMethod y).before a0 Z = true) (wz : (Jvm.Cond.initialized y.cls).before a0 Z = true) (wc : (Jvm.Cond.code y bytes ml none).before a0 Z = true) (hy : y.cls ≠ "java/lang/invoke/MethodHandle" ∧ y.cls ≠ "java/lang/invoke/VarHandle") (pd : parseMethodDescriptor y.desc = some ⟨ps, rt⟩) (hlen : aL.length = ps.length) (ct : CtK l Z y bytes ml none rm (.ref a :: aL).toArray h n0 Q) (hd : decode c.code pc = .ok (.invokespecial i, 3)) (hp : pc + 3 = pc') (hf : rm.frames + 1 ≤ R.frames) (hW : (St.map fun v => v.category).sum ≤ W) (hlo : W + (ml + 11) + rm.locals ≤ R.locals) (hc : cells + rm.cells ≤ R.cells) (hs : slots + rm.slots ≤ R.slots) (hc' : cells + rm.cells = cells') (hs' : slots + rm.slots = slots') (G : ∀ (T' : State) (h' : Heap) (v : Option Value), OnK p l e R s m args below meth c n0 T' h' cells' slots' → Q v h' → GoK p e below D T' (mkF m pc' Ls (v.toList ++ St))) {S0 : List Value} (hS : S0 = aL.reverse ++ .ref a :: St) : GoK p e below D T (mkF m pc Ls S0) := by
  subst hp hc' hs' hS
  obtain ⟨_, Y, e0, N⟩ := X
  obtain ⟨v, _, ⟨B, L, k, n⟩, -, Y', ⟨Lc, ⟨hQ, hN⟩, el, ec, es⟩, st⟩ := Y.specialBack hx (y := y) hi hown (mvT hZ wl) (mvT hZ wi) (mvT hZ wc) hy (backOf (W := W) (Q := fun v h L => Q v h ∧ Fr n0 L) (ct []) hZ wc wz hf hlo) (g := mkF m pc Ls (aL.reverse ++ .ref a :: St)) rfl hml (Steps.refl _) (a := a) (argsL := aL) (rest := St) (lenOf pd hlen) rfl (by show 2 * 0 + _ ≤ _; omega) hd (fun _ _ => ⟨rfl, e0, hc, hs⟩)
  dsimp only [Pt.U, Pt.locs, Pt.cells, Pt.slots] at Y' el ec es st hQ
  subst el ec es
  exact GoK.by (fun t k => st.trans k) (G B _ v ⟨_, Y', rfl, N.app hN⟩ hQ)
theorem go_callV (X : OnK p l e R s m args below meth c n0 T h cells slots) (hx : p.tables.exec = Jvm.exec) (hZ : Z.Warmed39 s.vm) {own : String} {i W ml : Nat} {y : MethodName} {bytes : ByteArray} {ret : Option FieldType} {rm : Room} {Q : Option Value → Heap → Prop} {aL : List Value} {ps : List FieldType} {rt : Option FieldType} {a : Addr} (hown : s.vm.findClass own = some m.cls) (hml : Ls.size = c.maxLocals) (E : Exa Z h a y.cls) (wl : (Jvm.Cond.methodLink own i y).before a0 Z = true) (wd : (Jvm.Cond.declares y).before a0 Z = true) (ws : (Jvm.Cond.selects y.cls y y).before a0 Z = true) (wi : (Jvm.Cond.instanceMethod y).before a0 Z = true) (wz : (Jvm.Cond.initialized y.cls).before a0 Z = true) (wc : (Jvm.Cond.code y bytes ml ret).before a0 Z = true) (hy : y.cls ≠ "java/lang/invoke/MethodHandle" ∧ y.cls ≠ "java/lang/invoke/VarHandle") (pd : parseMethodDescriptor y.desc = some ⟨ps, rt⟩) (hlen : aL.length = ps.length) (ct : CtK l Z y bytes ml ret rm (.ref a :: aL).toArray h n0 Q) (hd : decode c.code pc = .ok (.invokevirtual i, 3)) (hp : pc + 3 = pc') (hf : rm.frames + 1 ≤ R.frames) (hW : (St.map fun v => v.category).sum ≤ W) (hlo : W + (ml + 11) + rm.locals ≤ R.locals) (hc : cells + rm.cells ≤ R.cells) (hs : slots + rm.slots ≤ R.slots) (hc' : cells + rm.cells = cells') (hs' : slots + rm.slots = slots') (G : ∀ (T' : State) (h' : Heap) (v : Option Value), OnK p l e R s m args below meth c n0 T' h' cells' slots' → Q v h' → GoK p e below D T' (mkF m pc' Ls (v.toList ++ St))) {S0 : List Value} (hS : S0 = aL.reverse ++ .ref a :: St) : GoK p e below D T (mkF m pc Ls S0) := by
  subst hp hc' hs' hS
  obtain ⟨_, Y, e0, N⟩ := X
  obtain ⟨cq, kq, qa, qb, qc⟩ := isOf hZ e0 E
  obtain ⟨v, _, ⟨B, L, k, n⟩, -, Y', ⟨Lc, ⟨hQ, hN⟩, el, ec, es⟩, st⟩ := Y.virtualBack hx (y := y) (z := y) hown (mvT hZ wl) (mvT hZ wd) (notFace_of_selects (args := #[]) (mvT hZ ws)) (mvT hZ ws) (mvT hZ wi) hy (backOf (W := W) (Q := fun v h L => Q v h ∧ Fr n0 L) (ct []) hZ wc wz hf hlo) qa qc (g := mkF m pc Ls (aL.reverse ++ .ref a :: St)) rfl hml (Steps.refl _) (argsL := aL) (rest := St) (lenOf pd hlen) rfl (by show 2 * 0 + _ ≤ _; omega) hd (fun _ _ => ⟨rfl, e0, hc, hs⟩)
  dsimp only [Pt.U, Pt.locs, Pt.cells, Pt.slots] at Y' el ec es st hQ
  subst el ec es
  exact GoK.by (fun t k => st.trans k) (G B _ v ⟨_, Y', rfl, N.app hN⟩ hQ)
def TwoK (a b : Slot) : Prop := (a = .unset ∧ b = .unset) ∨ ∃ x : Int64, a = .val (.long x) ∧ b = .second
end OwnK
end Jvm.RoadKit
namespace Jvm.Pilot.@@N@@
open Jvm Jvm.ClassFile Sem Op Lib Jvm.Free Jvm.Stand Jvm.LawKit Jvm.RoadKit Bundle Jvm.Pilot.@@N@@.Jvm.D
theorem own_m31 (x : Int32) : 0 ≤ (x &&& 2147483647).toInt := by
  rw [c_mask x 2147483647 31 (by decide) (by decide)]; omega
theorem own_max1 {y z : Int32} (h : z = if (1 : Int32) < y then y else 1) : 1 ≤ z.toInt := by
  subst h
  have h1 : (1 : Int32).toInt = 1 := rfl
  split
  · rename_i q; rw [Int32.lt_iff_toInt_lt] at q; omega
  · omega
theorem own_nn {x : Int32} (h : 0 ≤ x.toInt) : ¬ x < 0 := by
  rw [Int32.lt_iff_toInt_lt]; have : (0 : Int32).toInt = 0 := rfl; omega
theorem own_ge1 {x : Int32} (h : 1 ≤ x.toInt) : ¬ x < 1 := by
  rw [Int32.lt_iff_toInt_lt]; have : (1 : Int32).toInt = 1 := rfl; omega
theorem own_ne0 {x : Int32} (h : 1 ≤ x.toInt) : x.toInt64 ≠ 0 := fun q => by
  have := congrArg Int64.toInt q
  rw [Int32.toInt_toInt64] at this
  have h0 : (0 : Int64).toInt = 0 := rfl
  omega
theorem own_divU {x y z : Int} (hy : 0 < y) (h1 : z * y ≤ x) (h2 : x < (z + 1) * y) : x / y = z := by
  have a := (Int.le_ediv_iff_mul_le hy).mpr h1
  have b := (Int.ediv_lt_iff_lt_mul hy).mpr h2
  omega
theorem own_toL0 {q : Int64} (h : ¬ q < 0) : 0 ≤ q.toInt := by
  rw [Int64.lt_iff_toInt_lt] at h; have : (0 : Int64).toInt = 0 := rfl; omega
theorem own_m63 (x : Int64) : ¬ (x &&& 9223372036854775807) < 0 := by
  rw [Int64.lt_iff_toInt_lt, c_maskL x 9223372036854775807 63 (by decide) (by decide)]; have : (0 : Int64).toInt = 0 := rfl; omega
theorem own_ldiv (q : Int64) (s : Int32) (hq : 0 ≤ q.toInt) (hs : 1 ≤ s.toInt) : (q / s.toInt64).toInt = q.toInt / s.toInt := by
  have e : s.toInt64.toInt = s.toInt := Int32.toInt_toInt64 s
  refine (c_ldiv q s.toInt64 s.toInt e (fun w => ?_)).1 hq
  rw [w] at e; have : (-1 : Int64).toInt = -1 := rfl; omega
theorem own_lrem (q : Int64) (s : Int32) (hq : 0 ≤ q.toInt) : (q % s.toInt64).toInt = q.toInt % s.toInt := by
  rw [← lrem_mod]; exact (c_lrem q s.toInt64 s.toInt (Int32.toInt_toInt64 s)).1 hq
theorem own_ceil0 {Q S : Int} (hs : 1 ≤ S) (h : Q % S = 0) : Q / S = (Q + S - 1) / S := by
  have e := Int.mul_ediv_add_emod Q S
  refine (own_divU (by omega) ?_ ?_).symm
  · rw [Int.mul_comm] at e; omega
  · rw [Int.add_mul, Int.one_mul]; rw [Int.mul_comm] at e; omega
theorem own_ceil1 {Q S : Int} (hs : 1 ≤ S) (h : Q % S ≠ 0) : Q / S + 1 = (Q + S - 1) / S := by
  have e := Int.mul_ediv_add_emod Q S
  have l := Int.emod_nonneg Q (show S ≠ 0 by omega)
  have u := Int.emod_lt_of_pos Q (show 0 < S by omega)
  rw [Int.mul_comm] at e
  refine (own_divU (by omega) ?_ ?_).symm
  · rw [Int.add_mul, Int.one_mul]; omega
  · rw [Int.add_mul, Int.add_mul, Int.one_mul]; omega
theorem own_tp0 {q : Int64} {s : Int32} (hq : ¬ q < 0) (hs : 1 ≤ s.toInt) (h : q % s.toInt64 = 0) : (q / s.toInt64).toInt = (q.toInt + s.toInt - 1) / s.toInt := by
  have hq := own_toL0 hq
  rw [own_ldiv q s hq hs]
  refine own_ceil0 hs ?_
  rw [← own_lrem q s hq, h]; rfl
theorem own_tp1 {q : Int64} {s : Int32} (hq : ¬ q < 0) (hs : 1 ≤ s.toInt) (h : ¬ q % s.toInt64 = 0) : (q / s.toInt64 + 1).toInt = (q.toInt + s.toInt - 1) / s.toInt := by
  have hq := own_toL0 hq
  have e : (q / s.toInt64 + 1).toInt = (q / s.toInt64).toInt + (1 : Int64).toInt := by
    refine Jvm.Free.XT.add64 ?_
    rw [own_ldiv q s hq hs]
    have := rng64 q
    have h1 : (1 : Int64).toInt = 1 := rfl
    have l := Int.ediv_nonneg hq (show 0 ≤ s.toInt by omega)
    by_cases t : s.toInt = 1
    · exfalso; apply h
      apply Int64.toInt_inj.mp
      rw [own_lrem q s hq, t, Int.emod_one]; rfl
    · have m := Int.mul_le_mul_of_nonneg_right (show (2 : Int) ≤ s.toInt by omega) l
      have d := Int.mul_ediv_add_emod q.toInt s.toInt
      have n := Int.emod_nonneg q.toInt (show s.toInt ≠ 0 by omega)
      exact ⟨by omega, by omega⟩
  rw [e, own_ldiv q s hq hs]
  refine own_ceil1 hs (fun w => h ?_)
  apply Int64.toInt_inj.mp
  rw [own_lrem q s hq, w]; rfl
theorem own_max0 {y z : Int64} (h : z = if (0 : Int64) < y then y else 0) : ¬ z < 0 := by
  subst h
  rw [Int64.lt_iff_toInt_lt]
  have h1 : (0 : Int64).toInt = 0 := rfl
  split
  · rename_i q; rw [Int64.lt_iff_toInt_lt] at q; omega
  · omega
theorem own_cmp {i : Int32} {z : Int64} {A : Int} (h : z.toInt = A) (c : i.toInt64 < z) : i.toInt < A := by
  rw [Int64.lt_iff_toInt_lt, Int32.toInt_toInt64] at c; omega
theorem own_cmpN {i : Int32} {z : Int64} {A : Int} (h : z.toInt = A) (c : ¬ i.toInt64 < z) : ¬ i.toInt < A := by
  rw [Int64.lt_iff_toInt_lt, Int32.toInt_toInt64] at c; omega
theorem own_iff {I S T : Int} (hs : 1 ≤ S) : I < (T + S - 1) / S ↔ I * S < T := by
  have e := Int.le_ediv_iff_mul_le (a := I + 1) (b := T + S - 1) (c := S) (show 0 < S by omega)
  rw [Int.add_mul, Int.one_mul] at e
  constructor
  · intro h; have := e.mp (by omega); omega
  · intro h; have := e.mpr (by omega); omega
theorem own_fin0 {i s z : Int32} {o T : Int64} (hs : 1 ≤ s.toInt) (ho : o = i.toInt64 * s.toInt64) (c : ¬ o < T) (hz : z = if i.toInt < (T.toInt + s.toInt - 1) / s.toInt then 1 else 0) : z = 0 := by
  rw [hz, if_neg]
  rw [own_iff hs]
  rw [Int64.lt_iff_toInt_lt, ho, Jvm.Free.XT.wideMul] at c
  exact c
theorem own_fin1 {i s z : Int32} {o T : Int64} (hs : 1 ≤ s.toInt) (ho : o = i.toInt64 * s.toInt64) (c : o < T) (hz : z = if i.toInt < (T.toInt + s.toInt - 1) / s.toInt then 1 else 0) : z = 1 := by
  rw [hz, if_pos]
  rw [own_iff hs]
  rw [Int64.lt_iff_toInt_lt, ho, Jvm.Free.XT.wideMul] at c
  exact c

theorem pd_0 : parseMethodDescriptor "(IIZ)V" = some ⟨[.int, .int, .boolean], none⟩ := by decide +kernel
theorem pd_1 : parseMethodDescriptor "(J)J" = some ⟨[.long], some .long⟩ := by decide +kernel
theorem pd_2 : parseMethodDescriptor "(II)I" = some ⟨[.int, .int], some .int⟩ := by decide +kernel
theorem pd_3 : parseMethodDescriptor "(II)V" = some ⟨[.int, .int], none⟩ := by decide +kernel
theorem pd_4 : parseMethodDescriptor "(J)Z" = some ⟨[.long], some .boolean⟩ := by decide +kernel
theorem pd_5 : parseMethodDescriptor "(JJ)J" = some ⟨[.long, .long], some .long⟩ := by decide +kernel
theorem d1_0 : decode jdk_29_method_65_code 0 = .ok (.iload_n 0, 1) := by decide +kernel
theorem d1_1 : decode jdk_29_method_65_code 1 = .ok (.iload_n 1, 1) := by decide +kernel
theorem d1_2 : decode jdk_29_method_65_code 2 = .ok (.if_icmp .lt 7, 3) := by decide +kernel
theorem d1_5 : decode jdk_29_method_65_code 5 = .ok (.iload_n 0, 1) := by decide +kernel
theorem d1_6 : decode jdk_29_method_65_code 6 = .ok (.goto 4, 3) := by decide +kernel
theorem d1_9 : decode jdk_29_method_65_code 9 = .ok (.iload_n 1, 1) := by decide +kernel
theorem d1_10 : decode jdk_29_method_65_code 10 = .ok (.ireturn, 1) := by decide +kernel
theorem ef_1 (m : MethodId) (p0 : Int32) (p1 : Int32) : entryFrame m #[.int p0, .int p1] 2 = mkF m 0 #[.val (.int p0), .val (.int p1)] [] := by first | (simp [entryFrame, mkF, argsToLocals, Value.category]; done) | rfl
set_option maxRecDepth 65536 in
set_option maxHeartbeats 40000000 in
theorem ct_1 (l : Launch) (Z : State) (a0 : Array Value) (hw : ∀ d ∈ tables_1, d.before a0 Z = true) {h0 : Heap} {n0 : Nat} (zs : n0 ≤ h0.size) (p0 : Int32) (p1 : Int32)  :
    CtK l Z (⟨"java/lang/Math", "max", "(II)I"⟩ : MethodName) jdk_29_method_65_code 2 (some .int) ({ frames := 0, cells := 0, slots := 0, locals := 0 } : Room) #[.int p0, .int p1] h0 n0 (QI (fun z h => z = (if p0 < p1 then p1 else p0) ∧ h = h0)) := by
  refine CtK.of (Jvm.Free.JP.mathPlain rfl (by decide +kernel)) ?_
  intro p e s m below meth c T0 X0 hx hZ hby hml hown hnm hret hlk
  refine GoK.entry (ef_1 m p0 p1) ?_
  replace hown : s.vm.findClass "java/lang/Math" = some m.cls := hown
  refine go_iloadN (pc' := 1) X0 hx (hb hby d1_0) rfl rfl ?_
  refine go_iloadN (pc' := 2) X0 hx (hb hby d1_1) rfl rfl ?_
  refine go_icmplt (pc' := 5) (pcT := 9) X0 hx (hb hby d1_2) rfl (by decide) (by decide) (fun c2 => ?_) (fun c2 => ?_)
  · refine go_iloadN (pc' := 10) X0 hx (hb hby d1_9) rfl rfl ?_
    refine go_retI X0 hx hret hlk (hb hby d1_10) (by decide) (by decide) ?_
    exact ⟨(if_pos c2).symm, rfl⟩
  · refine go_iloadN (pc' := 6) X0 hx (hb hby d1_5) rfl rfl ?_
    refine go_goto (pc' := 10) X0 hx (hb hby d1_6) (by decide) (by decide) ?_
    refine go_retI X0 hx hret hlk (hb hby d1_10) (by decide) (by decide) ?_
    exact ⟨(if_neg c2).symm, rfl⟩
theorem d4_0 : decode prog_62_method_2_code 0 = .ok (.aload_n 0, 1) := by decide +kernel
theorem d4_1 : decode prog_62_method_2_code 1 = .ok (.invokespecial 7, 3) := by decide +kernel
theorem d4_4 : decode prog_62_method_2_code 4 = .ok (.iload_n 1, 1) := by decide +kernel
theorem d4_5 : decode prog_62_method_2_code 5 = .ok (.ifCond .ge 17, 3) := by decide +kernel
theorem d4_22 : decode prog_62_method_2_code 22 = .ok (.iload_n 2, 1) := by decide +kernel
theorem d4_23 : decode prog_62_method_2_code 23 = .ok (.iconst 1, 1) := by decide +kernel
theorem d4_24 : decode prog_62_method_2_code 24 = .ok (.if_icmp .ge 17, 3) := by decide +kernel
theorem d4_41 : decode prog_62_method_2_code 41 = .ok (.aload_n 0, 1) := by decide +kernel
theorem d4_42 : decode prog_62_method_2_code 42 = .ok (.iload_n 1, 1) := by decide +kernel
theorem d4_43 : decode prog_62_method_2_code 43 = .ok (.putfield 22, 3) := by decide +kernel
theorem d4_46 : decode prog_62_method_2_code 46 = .ok (.aload_n 0, 1) := by decide +kernel
theorem d4_47 : decode prog_62_method_2_code 47 = .ok (.iload_n 2, 1) := by decide +kernel
theorem d4_48 : decode prog_62_method_2_code 48 = .ok (.putfield 26, 3) := by decide +kernel
theorem d4_51 : decode prog_62_method_2_code 51 = .ok (.aload_n 0, 1) := by decide +kernel
theorem d4_52 : decode prog_62_method_2_code 52 = .ok (.iload_n 3, 1) := by decide +kernel
theorem d4_53 : decode prog_62_method_2_code 53 = .ok (.putfield 29, 3) := by decide +kernel
theorem d4_56 : decode prog_62_method_2_code 56 = .ok (.return_, 1) := by decide +kernel
theorem pn_4 : plainName "com/example/lateral/lateral/PageRequest" = true := by first | (simp [plainName, overriddenIn]; done) | decide +kernel
theorem ef_4 (m : MethodId) (r0 : Addr) (p1 : Int32) (p2 : Int32) (p3 : Int32) : entryFrame m #[.ref r0, .int p1, .int p2, .int p3] 4 = mkF m 0 #[.val (.ref r0), .val (.int p1), .val (.int p2), .val (.int p3)] [] := by first | (simp [entryFrame, mkF, argsToLocals, Value.category]; done) | rfl
set_option maxRecDepth 65536 in
set_option maxHeartbeats 40000000 in
theorem ct_4 (l : Launch) (Z : State) (a0 : Array Value) (hw : ∀ d ∈ tables_1, d.before a0 Z = true) {h0 : Heap} {n0 : Nat} (zs : n0 ≤ h0.size) (r0 : Addr) (p1 : Int32) (p2 : Int32) (p3 : Int32) (u_index : Value) (u_size : Value) (u_inline : Value) (E_r0 : Exa Z h0 r0 "com/example/lateral/lateral/PageRequest") (g_r0 : n0 ≤ r0) (F_r0_index : Fld Z h0 r0 "com/example/lateral/lateral/PageRequest" "index" "I" u_index) (F_r0_size : Fld Z h0 r0 "com/example/lateral/lateral/PageRequest" "size" "I" u_size) (F_r0_inline : Fld Z h0 r0 "com/example/lateral/lateral/PageRequest" "inline" "Z" u_inline) (hi : ¬ p1 < 0) (hs : ¬ p2 < 1) :
    CtK l Z (⟨"com/example/lateral/lateral/PageRequest", "<init>", "(IIZ)V"⟩ : MethodName) prog_62_method_2_code 4 none ({ frames := 1, cells := 0, slots := 0, locals := 12 } : Room) #[.ref r0, .int p1, .int p2, .int p3] h0 n0 (QV (fun h => Keep h0 h [r0] ∧ Exa Z h r0 "com/example/lateral/lateral/PageRequest" ∧ Fld Z h r0 "com/example/lateral/lateral/PageRequest" "index" "I" (.int p1) ∧ Fld Z h r0 "com/example/lateral/lateral/PageRequest" "size" "I" (.int p2))) := by
  refine CtK.of (plainFor_of_name pn_4) ?_
  intro p e s m below meth c T0 X0 hx hZ hby hml hown hnm hret hlk
  refine GoK.entry (ef_4 m r0 p1 p2 p3) ?_
  replace hown : s.vm.findClass "com/example/lateral/lateral/PageRequest" = some m.cls := hown
  have K := Keep.refl h0 [r0]
  refine go_aloadN (pc' := 1) X0 hx (hb hby d4_0) rfl rfl ?_
  refine go_initO (pc' := 4) (W := 0) X0 hx hZ hown (by rw [hml]; rfl) (hw _ (List.mem_of_getElem? (i := 17) rfl)) (hw _ (List.mem_of_getElem? (i := 18) rfl)) (hw _ (List.mem_of_getElem? (i := 19) rfl)) (hb hby d4_1) rfl (by decide) (Nat.le_of_eq rfl) (by decide) (fun T1 X1 => ?_)
  refine go_iloadN (pc' := 5) X1 hx (hb hby d4_4) rfl rfl ?_
  refine go_ifge (pc' := 8) (pcT := 22) X1 hx (hb hby d4_5) rfl (by decide) (by decide) (fun c5 => ?_) (fun c5 => (by exfalso; exact hi c5))
  refine go_iloadN (pc' := 23) X1 hx (hb hby d4_22) rfl rfl ?_
  refine go_iconst (pc' := 24) (v := 1) X1 hx (hb hby d4_23) rfl rfl ?_
  refine go_icmpge (pc' := 27) (pcT := 41) X1 hx (hb hby d4_24) rfl (by decide) (by decide) (fun c24 => ?_) (fun c24 => (by exfalso; exact hs c24))
  refine go_aloadN (pc' := 42) X1 hx (hb hby d4_41) rfl rfl ?_
  refine go_iloadN (pc' := 43) X1 hx (hb hby d4_42) rfl rfl ?_
  refine go_putfield (pc' := 46) (ty := .int) (v' := .int p1) X1 hx hZ hown (hw _ (List.mem_of_getElem? (i := 20) rfl)) F_r0_index E_r0 (Or.inr ⟨(hw _ (List.mem_of_getElem? (i := 21) rfl)), rfl, hnm⟩) (hw _ (List.mem_of_getElem? (i := 9) rfl)) g_r0 (by decide) rfl rfl (hb hby d4_43) rfl (fun T2 h2 X2 W2 F_r0_index => ?_)
  have E_r0 := E_r0.wr W2
  have F_r0_size := Fld.other W2 F_r0_size (Or.inr (slot_ne (Or.inr (hw _ (List.mem_of_getElem? (i := 23) rfl))) (Or.inr (hw _ (List.mem_of_getElem? (i := 21) rfl))) (by decide) (t := .int) (t' := .int) (by decide) (by decide)))
  have F_r0_inline := Fld.other W2 F_r0_inline (Or.inr (slot_ne (Or.inr (hw _ (List.mem_of_getElem? (i := 25) rfl))) (Or.inr (hw _ (List.mem_of_getElem? (i := 21) rfl))) (by decide) (t := .boolean) (t' := .int) (by decide) (by decide)))
  have zs := Nat.le_trans zs (Nat.le_of_eq W2.size.symm)
  have K := K.wr W2 (Or.inl (by simp))
  refine go_aloadN (pc' := 47) X2 hx (hb hby d4_46) rfl rfl ?_
  refine go_iloadN (pc' := 48) X2 hx (hb hby d4_47) rfl rfl ?_
  refine go_putfield (pc' := 51) (ty := .int) (v' := .int p2) X2 hx hZ hown (hw _ (List.mem_of_getElem? (i := 22) rfl)) F_r0_size E_r0 (Or.inr ⟨(hw _ (List.mem_of_getElem? (i := 23) rfl)), rfl, hnm⟩) (hw _ (List.mem_of_getElem? (i := 9) rfl)) g_r0 (by decide) rfl rfl (hb hby d4_48) rfl (fun T3 h3 X3 W3 F_r0_size => ?_)
  have E_r0 := E_r0.wr W3
  have F_r0_index := Fld.other W3 F_r0_index (Or.inr (slot_ne (Or.inr (hw _ (List.mem_of_getElem? (i := 21) rfl))) (Or.inr (hw _ (List.mem_of_getElem? (i := 23) rfl))) (by decide) (t := .int) (t' := .int) (by decide) (by decide)))
  have F_r0_inline := Fld.other W3 F_r0_inline (Or.inr (slot_ne (Or.inr (hw _ (List.mem_of_getElem? (i := 25) rfl))) (Or.inr (hw _ (List.mem_of_getElem? (i := 23) rfl))) (by decide) (t := .boolean) (t' := .int) (by decide) (by decide)))
  have zs := Nat.le_trans zs (Nat.le_of_eq W3.size.symm)
  have K := K.wr W3 (Or.inl (by simp))
  refine go_aloadN (pc' := 52) X3 hx (hb hby d4_51) rfl rfl ?_
  refine go_iloadN (pc' := 53) X3 hx (hb hby d4_52) rfl rfl ?_
  refine go_putfield (pc' := 56) (ty := .boolean) (v' := .int (nar .boolean p3)) X3 hx hZ hown (hw _ (List.mem_of_getElem? (i := 24) rfl)) F_r0_inline E_r0 (Or.inr ⟨(hw _ (List.mem_of_getElem? (i := 25) rfl)), rfl, hnm⟩) (hw _ (List.mem_of_getElem? (i := 9) rfl)) g_r0 (by decide) rfl (fits_nar_bool _) (hb hby d4_53) rfl (fun T4 h4 X4 W4 F_r0_inline => ?_)
  have E_r0 := E_r0.wr W4
  have F_r0_index := Fld.other W4 F_r0_index (Or.inr (slot_ne (Or.inr (hw _ (List.mem_of_getElem? (i := 21) rfl))) (Or.inr (hw _ (List.mem_of_getElem? (i := 25) rfl))) (by decide) (t := .int) (t' := .boolean) (by decide) (by decide)))
  have F_r0_size := Fld.other W4 F_r0_size (Or.inr (slot_ne (Or.inr (hw _ (List.mem_of_getElem? (i := 23) rfl))) (Or.inr (hw _ (List.mem_of_getElem? (i := 25) rfl))) (by decide) (t := .int) (t' := .boolean) (by decide) (by decide)))
  have zs := Nat.le_trans zs (Nat.le_of_eq W4.size.symm)
  have K := K.wr W4 (Or.inl (by simp))
  refine go_retV X4 hx hret hlk (hb hby d4_56) (by decide) (by decide) ?_
  exact ⟨K, E_r0, F_r0_index, F_r0_size⟩
theorem d3_0 : decode prog_62_method_1_code 0 = .ok (.aload_n 0, 1) := by decide +kernel
theorem d3_1 : decode prog_62_method_1_code 1 = .ok (.iload_n 1, 1) := by decide +kernel
theorem d3_2 : decode prog_62_method_1_code 2 = .ok (.iload_n 2, 1) := by decide +kernel
theorem d3_3 : decode prog_62_method_1_code 3 = .ok (.iconst 0, 1) := by decide +kernel
theorem d3_4 : decode prog_62_method_1_code 4 = .ok (.invokespecial 1, 3) := by decide +kernel
theorem d3_7 : decode prog_62_method_1_code 7 = .ok (.return_, 1) := by decide +kernel
theorem pn_3 : plainName "com/example/lateral/lateral/PageRequest" = true := by first | (simp [plainName, overriddenIn]; done) | decide +kernel
theorem ef_3 (m : MethodId) (r0 : Addr) (p1 : Int32) (p2 : Int32) : entryFrame m #[.ref r0, .int p1, .int p2] 3 = mkF m 0 #[.val (.ref r0), .val (.int p1), .val (.int p2)] [] := by first | (simp [entryFrame, mkF, argsToLocals, Value.category]; done) | rfl
set_option maxRecDepth 65536 in
set_option maxHeartbeats 40000000 in
theorem ct_3 (l : Launch) (Z : State) (a0 : Array Value) (hw : ∀ d ∈ tables_1, d.before a0 Z = true) {h0 : Heap} {n0 : Nat} (zs : n0 ≤ h0.size) (r0 : Addr) (p1 : Int32) (p2 : Int32) (u_index : Value) (u_size : Value) (u_inline : Value) (E_r0 : Exa Z h0 r0 "com/example/lateral/lateral/PageRequest") (g_r0 : n0 ≤ r0) (F_r0_index : Fld Z h0 r0 "com/example/lateral/lateral/PageRequest" "index" "I" u_index) (F_r0_size : Fld Z h0 r0 "com/example/lateral/lateral/PageRequest" "size" "I" u_size) (F_r0_inline : Fld Z h0 r0 "com/example/lateral/lateral/PageRequest" "inline" "Z" u_inline) (hi : ¬ p1 < 0) (hs : ¬ p2 < 1) :
    CtK l Z (⟨"com/example/lateral/lateral/PageRequest", "<init>", "(II)V"⟩ : MethodName) prog_62_method_1_code 3 none ({ frames := 2, cells := 0, slots := 0, locals := 27 } : Room) #[.ref r0, .int p1, .int p2] h0 n0 (QV (fun h => Keep h0 h [r0] ∧ Exa Z h r0 "com/example/lateral/lateral/PageRequest" ∧ Fld Z h r0 "com/example/lateral/lateral/PageRequest" "index" "I" (.int p1) ∧ Fld Z h r0 "com/example/lateral/lateral/PageRequest" "size" "I" (.int p2))) := by
  refine CtK.of (plainFor_of_name pn_3) ?_
  intro p e s m below meth c T0 X0 hx hZ hby hml hown hnm hret hlk
  refine GoK.entry (ef_3 m r0 p1 p2) ?_
  replace hown : s.vm.findClass "com/example/lateral/lateral/PageRequest" = some m.cls := hown
  have K := Keep.refl h0 [r0]
  refine go_aloadN (pc' := 1) X0 hx (hb hby d3_0) rfl rfl ?_
  refine go_iloadN (pc' := 2) X0 hx (hb hby d3_1) rfl rfl ?_
  refine go_iloadN (pc' := 3) X0 hx (hb hby d3_2) rfl rfl ?_
  refine go_iconst (pc' := 4) (v := 0) X0 hx (hb hby d3_3) rfl rfl ?_
  refine go_callC (pc' := 7) (W := 0) (cells' := 0) (slots' := 0) (rm := ({ frames := 1, cells := 0, slots := 0, locals := 12 } : Room)) (aL := [.int p1, .int p2, .int (0 : Int32)]) (St := []) X0 hx hZ hown (by rw [hml]; rfl) rfl (hw _ (List.mem_of_getElem? (i := 14) rfl)) (hw _ (List.mem_of_getElem? (i := 15) rfl)) (hw _ (List.mem_of_getElem? (i := 10) rfl)) (hw _ (List.mem_of_getElem? (i := 16) rfl)) (by decide) pd_0 rfl (ct_4 l Z a0 hw zs r0 p1 p2 (0 : Int32) _ _ _ E_r0 g_r0 F_r0_index F_r0_size F_r0_inline hi hs) (hb hby d3_4) rfl (by decide) (Nat.le_of_eq rfl) (by decide) (by decide) (by decide) rfl rfl (fun T1 h1 v1 X1 Q1 => ?_) rfl
  obtain ⟨rfl, Kc1, Ec1, Fc1_index, Fc1_size⟩ := Q1
  have zs := Nat.le_trans zs Kc1.1
  have K := K.trans Kc1 (by intro x hx'; exact Or.inl hx')
  show GoK p e below _ T1 (mkF m 7 #[.val (.ref r0), .val (.int p1), .val (.int p2)] [])
  refine go_retV X1 hx hret hlk (hb hby d3_7) (by decide) (by decide) ?_
  exact ⟨K, Ec1, Fc1_index, Fc1_size⟩
theorem d7_0 : decode prog_62_method_8_code 0 = .ok (.lload_n 1, 1) := by decide +kernel
theorem d7_1 : decode prog_62_method_8_code 1 = .ok (.lconst 0, 1) := by decide +kernel
theorem d7_2 : decode prog_62_method_8_code 2 = .ok (.lcmp, 1) := by decide +kernel
theorem d7_3 : decode prog_62_method_8_code 3 = .ok (.ifCond .ge 17, 3) := by decide +kernel
theorem d7_20 : decode prog_62_method_8_code 20 = .ok (.lload_n 1, 1) := by decide +kernel
theorem d7_21 : decode prog_62_method_8_code 21 = .ok (.aload_n 0, 1) := by decide +kernel
theorem d7_22 : decode prog_62_method_8_code 22 = .ok (.getfield 26, 3) := by decide +kernel
theorem d7_25 : decode prog_62_method_8_code 25 = .ok (.i2l, 1) := by decide +kernel
theorem d7_26 : decode prog_62_method_8_code 26 = .ok (.ldiv, 1) := by decide +kernel
theorem d7_27 : decode prog_62_method_8_code 27 = .ok (.lstore_n 3, 1) := by decide +kernel
theorem d7_28 : decode prog_62_method_8_code 28 = .ok (.lload_n 1, 1) := by decide +kernel
theorem d7_29 : decode prog_62_method_8_code 29 = .ok (.aload_n 0, 1) := by decide +kernel
theorem d7_30 : decode prog_62_method_8_code 30 = .ok (.getfield 26, 3) := by decide +kernel
theorem d7_33 : decode prog_62_method_8_code 33 = .ok (.i2l, 1) := by decide +kernel
theorem d7_34 : decode prog_62_method_8_code 34 = .ok (.lrem, 1) := by decide +kernel
theorem d7_35 : decode prog_62_method_8_code 35 = .ok (.lconst 0, 1) := by decide +kernel
theorem d7_36 : decode prog_62_method_8_code 36 = .ok (.lcmp, 1) := by decide +kernel
theorem d7_37 : decode prog_62_method_8_code 37 = .ok (.ifCond .eq 7, 3) := by decide +kernel
theorem d7_40 : decode prog_62_method_8_code 40 = .ok (.iconst 1, 1) := by decide +kernel
theorem d7_41 : decode prog_62_method_8_code 41 = .ok (.goto 4, 3) := by decide +kernel
theorem d7_44 : decode prog_62_method_8_code 44 = .ok (.iconst 0, 1) := by decide +kernel
theorem d7_45 : decode prog_62_method_8_code 45 = .ok (.istore 5, 2) := by decide +kernel
theorem d7_47 : decode prog_62_method_8_code 47 = .ok (.iload 5, 2) := by decide +kernel
theorem d7_49 : decode prog_62_method_8_code 49 = .ok (.ifCond .eq 9, 3) := by decide +kernel
theorem d7_52 : decode prog_62_method_8_code 52 = .ok (.lload_n 3, 1) := by decide +kernel
theorem d7_53 : decode prog_62_method_8_code 53 = .ok (.lconst 1, 1) := by decide +kernel
theorem d7_54 : decode prog_62_method_8_code 54 = .ok (.ladd, 1) := by decide +kernel
theorem d7_55 : decode prog_62_method_8_code 55 = .ok (.goto 4, 3) := by decide +kernel
theorem d7_58 : decode prog_62_method_8_code 58 = .ok (.lload_n 3, 1) := by decide +kernel
theorem d7_59 : decode prog_62_method_8_code 59 = .ok (.lreturn, 1) := by decide +kernel
theorem pn_7 : plainName "com/example/lateral/lateral/PageRequest" = true := by first | (simp [plainName, overriddenIn]; done) | decide +kernel
theorem ef_7 (m : MethodId) (r0 : Addr) (q1 : Int64) : entryFrame m #[.ref r0, .long q1] 6 = mkF m 0 #[.val (.ref r0), .val (.long q1), .second, .unset, .unset, .unset] [] := by first | (simp [entryFrame, mkF, argsToLocals, Value.category]; done) | rfl
set_option maxRecDepth 65536 in
set_option maxHeartbeats 40000000 in
theorem ct_7 (l : Launch) (Z : State) (a0 : Array Value) (hw : ∀ d ∈ tables_1, d.before a0 Z = true) {h0 : Heap} {n0 : Nat} (zs : n0 ≤ h0.size) (r0 : Addr) (q1 : Int64) (xi xs : Int32) (F_r0_index : Fld Z h0 r0 "com/example/lateral/lateral/PageRequest" "index" "I" (.int xi)) (F_r0_size : Fld Z h0 r0 "com/example/lateral/lateral/PageRequest" "size" "I" (.int xs)) (hq : ¬ q1 < 0) (hs : 1 ≤ xs.toInt) :
    CtK l Z (⟨"com/example/lateral/lateral/PageRequest", "totalPages", "(J)J"⟩ : MethodName) prog_62_method_8_code 6 (some .long) ({ frames := 0, cells := 0, slots := 0, locals := 0 } : Room) #[.ref r0, .long q1] h0 n0 (QJ (fun z h => z.toInt = (q1.toInt + xs.toInt - 1) / xs.toInt ∧ h = h0)) := by
  refine CtK.of (plainFor_of_name pn_7) ?_
  intro p e s m below meth c T0 X0 hx hZ hby hml hown hnm hret hlk
  refine GoK.entry (ef_7 m r0 q1) ?_
  replace hown : s.vm.findClass "com/example/lateral/lateral/PageRequest" = some m.cls := hown
  refine go_lloadN (pc' := 1) X0 hx (hb hby d7_0) rfl rfl ?_
  refine go_lconst (pc' := 2) (v := 0) X0 hx (hb hby d7_1) rfl rfl ?_
  refine go_lifge (pc1 := 3) (pc' := 6) (pcT := 20) X0 hx (hb hby d7_2) rfl (hb hby d7_3) rfl (by decide) (by decide) (fun c3 => ?_) (fun c3 => (by exfalso; exact hq c3))
  refine go_lloadN (pc' := 21) X0 hx (hb hby d7_20) rfl rfl ?_
  refine go_aloadN (pc' := 22) X0 hx (hb hby d7_21) rfl rfl ?_
  refine go_getfield (pc' := 25) X0 hx hZ hown (hw _ (List.mem_of_getElem? (i := 22) rfl)) F_r0_size (hb hby d7_22) rfl (fun T1 X1 => ?_)
  refine go_i2l (pc' := 26) X1 hx (hb hby d7_25) rfl ?_
  refine go_ldiv (pc' := 27) X1 hx (hb hby d7_26) rfl (own_ne0 hs) ?_
  refine go_nameJ (fun v3_27 hv3_27 => ?_)
  refine go_lstoreN (pc' := 28) (L' := #[.val (.ref r0), .val (.long q1), .second, .val (.long v3_27), .second, .unset]) X1 hx (hb hby d7_27) rfl rfl ?_
  refine go_lloadN (pc' := 29) X1 hx (hb hby d7_28) rfl rfl ?_
  refine go_aloadN (pc' := 30) X1 hx (hb hby d7_29) rfl rfl ?_
  refine go_getfield (pc' := 33) X1 hx hZ hown (hw _ (List.mem_of_getElem? (i := 22) rfl)) F_r0_size (hb hby d7_30) rfl (fun T2 X2 => ?_)
  refine go_i2l (pc' := 34) X2 hx (hb hby d7_33) rfl ?_
  refine go_lrem (pc' := 35) X2 hx (hb hby d7_34) rfl (own_ne0 hs) ?_
  refine go_lconst (pc' := 36) (v := 0) X2 hx (hb hby d7_35) rfl rfl ?_
  refine go_lifeq (pc1 := 37) (pc' := 40) (pcT := 44) X2 hx (hb hby d7_36) rfl (hb hby d7_37) rfl (by decide) (by decide) (fun c37 => ?_) (fun c37 => ?_)
  · refine go_iconst (pc' := 45) (v := 0) X2 hx (hb hby d7_44) rfl rfl ?_
    refine go_istore (pc' := 47) (L' := #[.val (.ref r0), .val (.long q1), .second, .val (.long v3_27), .second, .val (.int (0 : Int32))]) X2 hx (hb hby d7_45) rfl rfl ?_
    refine go_iload (pc' := 49) X2 hx (hb hby d7_47) rfl rfl ?_
    refine go_ifeq (pc' := 52) (pcT := 58) X2 hx (hb hby d7_49) rfl (by decide) (by decide) (fun c49_t => ?_) (fun c49_t => (by exfalso; revert c49_t; decide))
    refine go_lloadN (pc' := 59) X2 hx (hb hby d7_58) rfl rfl ?_
    refine go_retJ X2 hx hret hlk (hb hby d7_59) (by decide) (by decide) ?_
    exact ⟨hv3_27 ▸ own_tp0 hq hs c37, rfl⟩
  · refine go_iconst (pc' := 41) (v := 1) X2 hx (hb hby d7_40) rfl rfl ?_
    refine go_goto (pc' := 45) X2 hx (hb hby d7_41) (by decide) (by decide) ?_
    refine go_istore (pc' := 47) (L' := #[.val (.ref r0), .val (.long q1), .second, .val (.long v3_27), .second, .val (.int (1 : Int32))]) X2 hx (hb hby d7_45) rfl rfl ?_
    refine go_iload (pc' := 49) X2 hx (hb hby d7_47) rfl rfl ?_
    refine go_ifeq (pc' := 52) (pcT := 58) X2 hx (hb hby d7_49) rfl (by decide) (by decide) (fun c49_f => (by exfalso; revert c49_f; decide)) (fun c49_f => ?_)
    refine go_lloadN (pc' := 53) X2 hx (hb hby d7_52) rfl rfl ?_
    refine go_lconst (pc' := 54) (v := 1) X2 hx (hb hby d7_53) rfl rfl ?_
    refine go_ladd (pc' := 55) X2 hx (hb hby d7_54) rfl ?_
    refine go_goto (pc' := 59) X2 hx (hb hby d7_55) (by decide) (by decide) ?_
    refine go_retJ X2 hx hret hlk (hb hby d7_59) (by decide) (by decide) ?_
    exact ⟨hv3_27 ▸ own_tp1 hq hs c37, rfl⟩
theorem d2_0 : decode jdk_29_method_66_code 0 = .ok (.lload_n 0, 1) := by decide +kernel
theorem d2_1 : decode jdk_29_method_66_code 1 = .ok (.lload_n 2, 1) := by decide +kernel
theorem d2_2 : decode jdk_29_method_66_code 2 = .ok (.lcmp, 1) := by decide +kernel
theorem d2_3 : decode jdk_29_method_66_code 3 = .ok (.ifCond .lt 7, 3) := by decide +kernel
theorem d2_6 : decode jdk_29_method_66_code 6 = .ok (.lload_n 0, 1) := by decide +kernel
theorem d2_7 : decode jdk_29_method_66_code 7 = .ok (.goto 4, 3) := by decide +kernel
theorem d2_10 : decode jdk_29_method_66_code 10 = .ok (.lload_n 2, 1) := by decide +kernel
theorem d2_11 : decode jdk_29_method_66_code 11 = .ok (.lreturn, 1) := by decide +kernel
theorem ef_2 (m : MethodId) (q0 : Int64) (q1 : Int64) : entryFrame m #[.long q0, .long q1] 4 = mkF m 0 #[.val (.long q0), .second, .val (.long q1), .second] [] := by first | (simp [entryFrame, mkF, argsToLocals, Value.category]; done) | rfl
set_option maxRecDepth 65536 in
set_option maxHeartbeats 40000000 in
theorem ct_2 (l : Launch) (Z : State) (a0 : Array Value) (hw : ∀ d ∈ tables_1, d.before a0 Z = true) {h0 : Heap} {n0 : Nat} (zs : n0 ≤ h0.size) (q0 : Int64) (q1 : Int64)  :
    CtK l Z (⟨"java/lang/Math", "max", "(JJ)J"⟩ : MethodName) jdk_29_method_66_code 4 (some .long) ({ frames := 0, cells := 0, slots := 0, locals := 0 } : Room) #[.long q0, .long q1] h0 n0 (QJ (fun z h => z = (if q0 < q1 then q1 else q0) ∧ h = h0)) := by
  refine CtK.of (Jvm.Free.JP.mathPlain rfl (by decide +kernel)) ?_
  intro p e s m below meth c T0 X0 hx hZ hby hml hown hnm hret hlk
  refine GoK.entry (ef_2 m q0 q1) ?_
  replace hown : s.vm.findClass "java/lang/Math" = some m.cls := hown
  refine go_lloadN (pc' := 1) X0 hx (hb hby d2_0) rfl rfl ?_
  refine go_lloadN (pc' := 2) X0 hx (hb hby d2_1) rfl rfl ?_
  refine go_liflt (pc1 := 3) (pc' := 6) (pcT := 10) X0 hx (hb hby d2_2) rfl (hb hby d2_3) rfl (by decide) (by decide) (fun c3 => ?_) (fun c3 => ?_)
  · refine go_lloadN (pc' := 11) X0 hx (hb hby d2_10) rfl rfl ?_
    refine go_retJ X0 hx hret hlk (hb hby d2_11) (by decide) (by decide) ?_
    exact ⟨(if_pos c3).symm, rfl⟩
  · refine go_lloadN (pc' := 7) X0 hx (hb hby d2_6) rfl rfl ?_
    refine go_goto (pc' := 11) X0 hx (hb hby d2_7) (by decide) (by decide) ?_
    refine go_retJ X0 hx hret hlk (hb hby d2_11) (by decide) (by decide) ?_
    exact ⟨(if_neg c3).symm, rfl⟩
theorem d6_0 : decode prog_62_method_9_code 0 = .ok (.aload_n 0, 1) := by decide +kernel
theorem d6_1 : decode prog_62_method_9_code 1 = .ok (.getfield 22, 3) := by decide +kernel
theorem d6_4 : decode prog_62_method_9_code 4 = .ok (.i2l, 1) := by decide +kernel
theorem d6_5 : decode prog_62_method_9_code 5 = .ok (.aload_n 0, 1) := by decide +kernel
theorem d6_6 : decode prog_62_method_9_code 6 = .ok (.lload_n 1, 1) := by decide +kernel
theorem d6_7 : decode prog_62_method_9_code 7 = .ok (.invokevirtual 36, 3) := by decide +kernel
theorem d6_10 : decode prog_62_method_9_code 10 = .ok (.lcmp, 1) := by decide +kernel
theorem d6_11 : decode prog_62_method_9_code 11 = .ok (.ifCond .ge 7, 3) := by decide +kernel
theorem d6_14 : decode prog_62_method_9_code 14 = .ok (.iconst 1, 1) := by decide +kernel
theorem d6_15 : decode prog_62_method_9_code 15 = .ok (.goto 4, 3) := by decide +kernel
theorem d6_18 : decode prog_62_method_9_code 18 = .ok (.iconst 0, 1) := by decide +kernel
theorem d6_19 : decode prog_62_method_9_code 19 = .ok (.ireturn, 1) := by decide +kernel
theorem pn_6 : plainName "com/example/lateral/lateral/PageRequest" = true := by first | (simp [plainName, overriddenIn]; done) | decide +kernel
theorem ef_6 (m : MethodId) (r0 : Addr) (q1 : Int64) : entryFrame m #[.ref r0, .long q1] 3 = mkF m 0 #[.val (.ref r0), .val (.long q1), .second] [] := by first | (simp [entryFrame, mkF, argsToLocals, Value.category]; done) | rfl
set_option maxRecDepth 65536 in
set_option maxHeartbeats 40000000 in
theorem ct_6 (l : Launch) (Z : State) (a0 : Array Value) (hw : ∀ d ∈ tables_1, d.before a0 Z = true) {h0 : Heap} {n0 : Nat} (zs : n0 ≤ h0.size) (r0 : Addr) (q1 : Int64) (E_r0 : Exa Z h0 r0 "com/example/lateral/lateral/PageRequest") (xi xs : Int32) (F_r0_index : Fld Z h0 r0 "com/example/lateral/lateral/PageRequest" "index" "I" (.int xi)) (F_r0_size : Fld Z h0 r0 "com/example/lateral/lateral/PageRequest" "size" "I" (.int xs)) (hq : ¬ q1 < 0) (hs1 : 1 ≤ xs.toInt) :
    CtK l Z (⟨"com/example/lateral/lateral/PageRequest", "hasRows", "(J)Z"⟩ : MethodName) prog_62_method_9_code 3 (some .boolean) ({ frames := 1, cells := 0, slots := 0, locals := 19 } : Room) #[.ref r0, .long q1] h0 n0 (QI (fun z h => z = (if xi.toInt < (q1.toInt + xs.toInt - 1) / xs.toInt then 1 else 0) ∧ h = h0)) := by
  refine CtK.of (plainFor_of_name pn_6) ?_
  intro p e s m below meth c T0 X0 hx hZ hby hml hown hnm hret hlk
  refine GoK.entry (ef_6 m r0 q1) ?_
  replace hown : s.vm.findClass "com/example/lateral/lateral/PageRequest" = some m.cls := hown
  refine go_aloadN (pc' := 1) X0 hx (hb hby d6_0) rfl rfl ?_
  refine go_getfield (pc' := 4) X0 hx hZ hown (hw _ (List.mem_of_getElem? (i := 20) rfl)) F_r0_index (hb hby d6_1) rfl (fun T1 X1 => ?_)
  refine go_i2l (pc' := 5) X1 hx (hb hby d6_4) rfl ?_
  refine go_aloadN (pc' := 6) X1 hx (hb hby d6_5) rfl rfl ?_
  refine go_lloadN (pc' := 7) X1 hx (hb hby d6_6) rfl rfl ?_
  refine go_callV (pc' := 10) (W := 2) (cells' := 0) (slots' := 0) (rm := ({ frames := 0, cells := 0, slots := 0, locals := 0 } : Room)) (aL := [.long q1]) (St := [.long (xi.toInt64)]) X1 hx hZ hown (by rw [hml]; rfl) E_r0 (hw _ (List.mem_of_getElem? (i := 31) rfl)) (hw _ (List.mem_of_getElem? (i := 32) rfl)) (hw _ (List.mem_of_getElem? (i := 34) rfl)) (hw _ (List.mem_of_getElem? (i := 33) rfl)) (hw _ (List.mem_of_getElem? (i := 10) rfl)) (hw _ (List.mem_of_getElem? (i := 35) rfl)) (by decide) pd_1 rfl (ct_7 l Z a0 hw zs r0 q1 xi xs F_r0_index F_r0_size hq hs1) (hb hby d6_7) rfl (by decide) (Nat.le_of_eq rfl) (by decide) (by decide) (by decide) rfl rfl (fun T2 h2 v2 X2 Q2 => ?_) rfl
  obtain ⟨z2, rfl, hz2, eh2⟩ := Q2
  subst h2
  show GoK p e below _ T2 (mkF m 10 #[.val (.ref r0), .val (.long q1), .second] [.long z2, .long (xi.toInt64)])
  refine go_lifge (pc1 := 11) (pc' := 14) (pcT := 18) X2 hx (hb hby d6_10) rfl (hb hby d6_11) rfl (by decide) (by decide) (fun c11 => ?_) (fun c11 => ?_)
  · refine go_iconst (pc' := 19) (v := 0) X2 hx (hb hby d6_18) rfl rfl ?_
    refine go_retN (t := .boolean) X2 hx hret (by simp) hlk (hb hby d6_19) (by decide) (by decide) ?_
    exact ⟨(if_neg (own_cmpN hz2 c11)).symm, rfl⟩
  · refine go_iconst (pc' := 15) (v := 1) X2 hx (hb hby d6_14) rfl rfl ?_
    refine go_goto (pc' := 19) X2 hx (hb hby d6_15) (by decide) (by decide) ?_
    refine go_retN (t := .boolean) X2 hx hret (by simp) hlk (hb hby d6_19) (by decide) (by decide) ?_
    exact ⟨(if_pos (own_cmp hz2 c11)).symm, rfl⟩
theorem pn_0 : plainName "com/example/lateral/lateral/PageRequestHasRowsPinLaw" = true := by first | (simp [plainName, overriddenIn]; done) | decide +kernel
theorem ef_0 (m : MethodId) (p0 : Int32) (p1 : Int32) (q2 : Int64) (p3 : Int32) (p4 : Int32) : entryFrame m #[.int p0, .int p1, .long q2, .int p3, .int p4] maxLocals = mkF m 0 #[.val (.int p0), .val (.int p1), .val (.long q2), .second, .val (.int p3), .val (.int p4), .unset, .unset, .unset, .unset, .unset, .unset, .unset, .unset] [] := by first | (simp [entryFrame, mkF, argsToLocals, Value.category, maxLocals]; done) | rfl
set_option maxRecDepth 65536 in
set_option maxHeartbeats 40000000 in
theorem ct_0 (l : Launch) (Z : State) (a0 : Array Value) (hw : ∀ d ∈ tables_1, d.before a0 Z = true) {h0 : Heap} {n0 : Nat} (zs : n0 ≤ h0.size) (p0 : Int32) (p1 : Int32) (q2 : Int64) (p3 : Int32) (p4 : Int32)  :
    CtK l Z x code maxLocals ret room_1 #[.int p0, .int p1, .long q2, .int p3, .int p4] h0 n0 (QI (fun z _ => z = 1)) := by
  refine CtK.of (plainFor_of_name pn_0) ?_
  intro p e s m below meth c T0 X0 hx hZ hby hml hown hnm hret hlk
  refine GoK.entry (ef_0 m p0 p1 q2 p3 p4) ?_
  replace hml : c.maxLocals = 14 := hml
  replace hown : s.vm.findClass "com/example/lateral/lateral/PageRequestHasRowsPinLaw" = some m.cls := hown
  refine go_iloadN (pc' := 1) X0 hx (hb hby at_0) rfl rfl ?_
  refine go_ldcI (pc' := 3) X0 hx hZ hown (hw _ (List.mem_of_getElem? (i := 0) rfl)) (hb hby at_1) rfl ?_
  refine go_iand (pc' := 4) X0 hx (hb hby at_3) rfl ?_
  refine go_nameI (fun v6_4 hv6_4 => ?_)
  refine go_istore (pc' := 6) (L' := #[.val (.int p0), .val (.int p1), .val (.long q2), .second, .val (.int p3), .val (.int p4), .val (.int v6_4), .unset, .unset, .unset, .unset, .unset, .unset, .unset]) X0 hx (hb hby at_4) rfl rfl ?_
  refine go_iconst (pc' := 7) (v := 1) X0 hx (hb hby at_6) rfl rfl ?_
  refine go_iloadN (pc' := 8) X0 hx (hb hby at_7) rfl rfl ?_
  refine go_ldcI (pc' := 10) X0 hx hZ hown (hw _ (List.mem_of_getElem? (i := 0) rfl)) (hb hby at_8) rfl ?_
  refine go_iand (pc' := 11) X0 hx (hb hby at_10) rfl ?_
  refine go_callS (pc' := 14) (W := 0) (cells' := 0) (slots' := 0) (rm := ({ frames := 0, cells := 0, slots := 0, locals := 0 } : Room)) (aL := [.int (1 : Int32), .int (p1 &&& (2147483647 : Int32))]) (St := []) X0 hx hZ hown (by rw [hml]; rfl) (hw _ (List.mem_of_getElem? (i := 1) rfl)) (hw _ (List.mem_of_getElem? (i := 2) rfl)) (hw _ (List.mem_of_getElem? (i := 3) rfl)) (hw _ (List.mem_of_getElem? (i := 4) rfl)) (by decide) pd_2 rfl (ct_1 l Z a0 hw zs (1 : Int32) (p1 &&& (2147483647 : Int32))) (hb hby at_11) rfl (by decide) (Nat.le_of_eq rfl) (by decide) (by decide) (by decide) rfl rfl (fun T1 h1 v1 X1 Q1 => ?_) rfl
  obtain ⟨z1, rfl, hz1, eh1⟩ := Q1
  subst h1
  show GoK p e below _ T1 (mkF m 14 #[.val (.int p0), .val (.int p1), .val (.long q2), .second, .val (.int p3), .val (.int p4), .val (.int v6_4), .unset, .unset, .unset, .unset, .unset, .unset, .unset] [.int z1])
  refine go_istore (pc' := 16) (L' := #[.val (.int p0), .val (.int p1), .val (.long q2), .second, .val (.int p3), .val (.int p4), .val (.int v6_4), .val (.int z1), .unset, .unset, .unset, .unset, .unset, .unset]) X1 hx (hb hby at_14) rfl rfl ?_
  refine go_iload (pc' := 18) X1 hx (hb hby at_16) rfl rfl ?_
  refine go_i2l (pc' := 19) X1 hx (hb hby at_18) rfl ?_
  refine go_iload (pc' := 21) X1 hx (hb hby at_19) rfl rfl ?_
  refine go_i2l (pc' := 22) X1 hx (hb hby at_21) rfl ?_
  refine go_lmul (pc' := 23) X1 hx (hb hby at_22) rfl ?_
  refine go_nameJ (fun v8_23 hv8_23 => ?_)
  refine go_lstore (pc' := 25) (L' := #[.val (.int p0), .val (.int p1), .val (.long q2), .second, .val (.int p3), .val (.int p4), .val (.int v6_4), .val (.int z1), .val (.long v8_23), .second, .unset, .unset, .unset, .unset]) X1 hx (hb hby at_23) rfl rfl ?_
  have hix0 : 0 ≤ v6_4.toInt := by rw [hv6_4]; exact own_m31 _
  have hix : ¬ v6_4 < 0 := own_nn hix0
  have hs1 := own_max1 hz1
  have hsz := own_ge1 hs1
  refine go_iload (pc' := 27) X1 hx (hb hby at_25) rfl rfl ?_
  refine go_iconst (pc' := 28) (v := 1) X1 hx (hb hby at_27) rfl rfl ?_
  refine go_iand (pc' := 29) X1 hx (hb hby at_28) rfl ?_
  refine go_ifeq (pc' := 32) (pcT := 52) X1 hx (hb hby at_29) rfl (by decide) (by decide) (fun c29 => ?_) (fun c29 => ?_)
  · refine go_lloadN (pc' := 53) X1 hx (hb hby at_52) rfl rfl ?_
    refine go_ldc2 (pc' := 56) X1 hx hZ hown (hw _ (List.mem_of_getElem? (i := 36) rfl)) (hb hby at_53) rfl ?_
    refine go_land (pc' := 57) X1 hx (hb hby at_56) rfl ?_
    refine go_nameJ (fun v10_57_t hv10_57_t => ?_)
    refine go_lstore (pc' := 59) (L' := #[.val (.int p0), .val (.int p1), .val (.long q2), .second, .val (.int p3), .val (.int p4), .val (.int v6_4), .val (.int z1), .val (.long v8_23), .second, .val (.long v10_57_t), .second, .unset, .unset]) X1 hx (hb hby at_57) rfl rfl ?_
    have hq : ¬ v10_57_t < 0 := by rw [hv10_57_t]; exact own_m63 _
    refine go_new (pc' := 62) (cells' := 1) (slots' := 3) X1 hx hZ hown (hw _ (List.mem_of_getElem? (i := 8) rfl)) (hw _ (List.mem_of_getElem? (i := 9) rfl)) (hw _ (List.mem_of_getElem? (i := 10) rfl)) (hb hby at_59) rfl (by decide) (by decide) rfl rfl (fun T2 h2 b2 eb2 X2 E2 E_b2 Dv2 => ?_)
    have g_b2 : n0 ≤ b2 := by rw [eb2]; exact zs
    have zs := Nat.le_trans zs E2.1
    have F_b2_index : Fld Z h2 b2 "com/example/lateral/lateral/PageRequest" "index" "I" (.int (0 : Int32)) := Dv2 (Or.inr (hw _ (List.mem_of_getElem? (i := 21) rfl))) (ty := .int) (by decide)
    have F_b2_size : Fld Z h2 b2 "com/example/lateral/lateral/PageRequest" "size" "I" (.int (0 : Int32)) := Dv2 (Or.inr (hw _ (List.mem_of_getElem? (i := 23) rfl))) (ty := .int) (by decide)
    have F_b2_inline : Fld Z h2 b2 "com/example/lateral/lateral/PageRequest" "inline" "Z" (.int (0 : Int32)) := Dv2 (Or.inr (hw _ (List.mem_of_getElem? (i := 25) rfl))) (ty := .boolean) (by decide)
    refine go_dup (pc' := 63) X2 hx (hb hby at_62) rfl rfl ?_
    refine go_iload (pc' := 65) X2 hx (hb hby at_63) rfl rfl ?_
    refine go_iload (pc' := 67) X2 hx (hb hby at_65) rfl rfl ?_
    refine go_callC (pc' := 70) (W := 1) (cells' := 1) (slots' := 3) (rm := ({ frames := 2, cells := 0, slots := 0, locals := 27 } : Room)) (aL := [.int v6_4, .int z1]) (St := [.ref b2]) X2 hx hZ hown (by rw [hml]; rfl) rfl (hw _ (List.mem_of_getElem? (i := 11) rfl)) (hw _ (List.mem_of_getElem? (i := 12) rfl)) (hw _ (List.mem_of_getElem? (i := 10) rfl)) (hw _ (List.mem_of_getElem? (i := 13) rfl)) (by decide) pd_3 rfl (ct_3 l Z a0 hw zs b2 v6_4 z1 _ _ _ E_b2 g_b2 F_b2_index F_b2_size F_b2_inline hix hsz) (hb hby at_67) rfl (by decide) (Nat.le_of_eq rfl) (by decide) (by decide) (by decide) rfl rfl (fun T3 h3 v3 X3 Q3 => ?_) rfl
    obtain ⟨rfl, Kc3, Ec3, Fc3_index, Fc3_size⟩ := Q3
    have zs := Nat.le_trans zs Kc3.1
    show GoK p e below _ T3 (mkF m 70 #[.val (.int p0), .val (.int p1), .val (.long q2), .second, .val (.int p3), .val (.int p4), .val (.int v6_4), .val (.int z1), .val (.long v8_23), .second, .val (.long v10_57_t), .second, .unset, .unset] [.ref b2])
    refine go_astore (pc' := 72) (L' := #[.val (.int p0), .val (.int p1), .val (.long q2), .second, .val (.int p3), .val (.int p4), .val (.int v6_4), .val (.int z1), .val (.long v8_23), .second, .val (.long v10_57_t), .second, .val (.ref b2), .unset]) X3 hx (hb hby at_70) rfl rfl ?_
    refine go_lload (pc' := 74) X3 hx (hb hby at_72) rfl rfl ?_
    refine go_lload (pc' := 76) X3 hx (hb hby at_74) rfl rfl ?_
    refine go_lifge (pc1 := 77) (pc' := 80) (pcT := 84) X3 hx (hb hby at_76) rfl (hb hby at_77) rfl (by decide) (by decide) (fun c77_t => ?_) (fun c77_t => ?_)
    · refine go_iconst (pc' := 85) (v := 0) X3 hx (hb hby at_84) rfl rfl ?_
      refine go_istore (pc' := 87) (L' := #[.val (.int p0), .val (.int p1), .val (.long q2), .second, .val (.int p3), .val (.int p4), .val (.int v6_4), .val (.int z1), .val (.long v8_23), .second, .val (.long v10_57_t), .second, .val (.ref b2), .val (.int (0 : Int32))]) X3 hx (hb hby at_85) rfl rfl ?_
      refine go_aload (pc' := 89) X3 hx (hb hby at_87) rfl rfl ?_
      refine go_lload (pc' := 91) X3 hx (hb hby at_89) rfl rfl ?_
      refine go_callV (pc' := 94) (W := 0) (cells' := 1) (slots' := 3) (rm := ({ frames := 1, cells := 0, slots := 0, locals := 19 } : Room)) (aL := [.long v10_57_t]) (St := []) X3 hx hZ hown (by rw [hml]; rfl) Ec3 (hw _ (List.mem_of_getElem? (i := 26) rfl)) (hw _ (List.mem_of_getElem? (i := 27) rfl)) (hw _ (List.mem_of_getElem? (i := 29) rfl)) (hw _ (List.mem_of_getElem? (i := 28) rfl)) (hw _ (List.mem_of_getElem? (i := 10) rfl)) (hw _ (List.mem_of_getElem? (i := 30) rfl)) (by decide) pd_4 rfl (ct_6 l Z a0 hw zs b2 v10_57_t Ec3 v6_4 z1 Fc3_index Fc3_size hq hs1) (hb hby at_91) rfl (by decide) (Nat.le_of_eq rfl) (by decide) (by decide) (by decide) rfl rfl (fun T4 h4 v4 X4 Q4 => ?_) rfl
      obtain ⟨z4, rfl, hz4, eh4⟩ := Q4
      subst h4
      show GoK p e below _ T4 (mkF m 94 #[.val (.int p0), .val (.int p1), .val (.long q2), .second, .val (.int p3), .val (.int p4), .val (.int v6_4), .val (.int z1), .val (.long v8_23), .second, .val (.long v10_57_t), .second, .val (.ref b2), .val (.int (0 : Int32))] [.int z4])
      refine go_iload (pc' := 96) X4 hx (hb hby at_94) rfl rfl ?_
      refine go_icmpne (pc' := 99) (pcT := 103) X4 hx (hb hby at_96) rfl (by decide) (by decide) (fun c96_tt => (by exfalso; exact c96_tt (own_fin0 hs1 hv8_23 c77_t hz4))) (fun c96_tt => ?_)
      refine go_iconst (pc' := 100) (v := 1) X4 hx (hb hby at_99) rfl rfl ?_
      refine go_goto (pc' := 104) X4 hx (hb hby at_100) (by decide) (by decide) ?_
      refine go_retN (t := .boolean) X4 hx hret (by simp) hlk (hb hby at_104) (by decide) (by decide) ?_
      exact rfl
    · refine go_iconst (pc' := 81) (v := 1) X3 hx (hb hby at_80) rfl rfl ?_
      refine go_goto (pc' := 85) X3 hx (hb hby at_81) (by decide) (by decide) ?_
      refine go_istore (pc' := 87) (L' := #[.val (.int p0), .val (.int p1), .val (.long q2), .second, .val (.int p3), .val (.int p4), .val (.int v6_4), .val (.int z1), .val (.long v8_23), .second, .val (.long v10_57_t), .second, .val (.ref b2), .val (.int (1 : Int32))]) X3 hx (hb hby at_85) rfl rfl ?_
      refine go_aload (pc' := 89) X3 hx (hb hby at_87) rfl rfl ?_
      refine go_lload (pc' := 91) X3 hx (hb hby at_89) rfl rfl ?_
      refine go_callV (pc' := 94) (W := 0) (cells' := 1) (slots' := 3) (rm := ({ frames := 1, cells := 0, slots := 0, locals := 19 } : Room)) (aL := [.long v10_57_t]) (St := []) X3 hx hZ hown (by rw [hml]; rfl) Ec3 (hw _ (List.mem_of_getElem? (i := 26) rfl)) (hw _ (List.mem_of_getElem? (i := 27) rfl)) (hw _ (List.mem_of_getElem? (i := 29) rfl)) (hw _ (List.mem_of_getElem? (i := 28) rfl)) (hw _ (List.mem_of_getElem? (i := 10) rfl)) (hw _ (List.mem_of_getElem? (i := 30) rfl)) (by decide) pd_4 rfl (ct_6 l Z a0 hw zs b2 v10_57_t Ec3 v6_4 z1 Fc3_index Fc3_size hq hs1) (hb hby at_91) rfl (by decide) (Nat.le_of_eq rfl) (by decide) (by decide) (by decide) rfl rfl (fun T5 h5 v5 X5 Q5 => ?_) rfl
      obtain ⟨z5, rfl, hz5, eh5⟩ := Q5
      subst h5
      show GoK p e below _ T5 (mkF m 94 #[.val (.int p0), .val (.int p1), .val (.long q2), .second, .val (.int p3), .val (.int p4), .val (.int v6_4), .val (.int z1), .val (.long v8_23), .second, .val (.long v10_57_t), .second, .val (.ref b2), .val (.int (1 : Int32))] [.int z5])
      refine go_iload (pc' := 96) X5 hx (hb hby at_94) rfl rfl ?_
      refine go_icmpne (pc' := 99) (pcT := 103) X5 hx (hb hby at_96) rfl (by decide) (by decide) (fun c96_tf => (by exfalso; exact c96_tf (own_fin1 hs1 hv8_23 c77_t hz5))) (fun c96_tf => ?_)
      refine go_iconst (pc' := 100) (v := 1) X5 hx (hb hby at_99) rfl rfl ?_
      refine go_goto (pc' := 104) X5 hx (hb hby at_100) (by decide) (by decide) ?_
      refine go_retN (t := .boolean) X5 hx hret (by simp) hlk (hb hby at_104) (by decide) (by decide) ?_
      exact rfl
  · refine go_lconst (pc' := 33) (v := 0) X1 hx (hb hby at_32) rfl rfl ?_
    refine go_lload (pc' := 35) X1 hx (hb hby at_33) rfl rfl ?_
    refine go_iload (pc' := 37) X1 hx (hb hby at_35) rfl rfl ?_
    refine go_bipush (pc' := 39) (v := 7) X1 hx (hb hby at_37) rfl rfl ?_
    refine go_iand (pc' := 40) X1 hx (hb hby at_39) rfl ?_
    refine go_iconst (pc' := 41) (v := 4) X1 hx (hb hby at_40) rfl rfl ?_
    refine go_isub (pc' := 42) X1 hx (hb hby at_41) rfl ?_
    refine go_i2l (pc' := 43) X1 hx (hb hby at_42) rfl ?_
    refine go_ladd (pc' := 44) X1 hx (hb hby at_43) rfl ?_
    refine go_callS (pc' := 47) (W := 0) (cells' := 0) (slots' := 0) (rm := ({ frames := 0, cells := 0, slots := 0, locals := 0 } : Room)) (aL := [.long (0 : Int64), .long (v8_23 + (((p3 &&& (7 : Int32)) - (4 : Int32)).toInt64))]) (St := []) X1 hx hZ hown (by rw [hml]; rfl) (hw _ (List.mem_of_getElem? (i := 5) rfl)) (hw _ (List.mem_of_getElem? (i := 6) rfl)) (hw _ (List.mem_of_getElem? (i := 3) rfl)) (hw _ (List.mem_of_getElem? (i := 7) rfl)) (by decide) pd_5 rfl (ct_2 l Z a0 hw zs (0 : Int64) (v8_23 + (((p3 &&& (7 : Int32)) - (4 : Int32)).toInt64))) (hb hby at_44) rfl (by decide) (Nat.le_of_eq rfl) (by decide) (by decide) (by decide) rfl rfl (fun T6 h6 v6 X6 Q6 => ?_) rfl
    obtain ⟨z6, rfl, hz6, eh6⟩ := Q6
    subst h6
    show GoK p e below _ T6 (mkF m 47 #[.val (.int p0), .val (.int p1), .val (.long q2), .second, .val (.int p3), .val (.int p4), .val (.int v6_4), .val (.int z1), .val (.long v8_23), .second, .unset, .unset, .unset, .unset] [.long z6])
    refine go_lstore (pc' := 49) (L' := #[.val (.int p0), .val (.int p1), .val (.long q2), .second, .val (.int p3), .val (.int p4), .val (.int v6_4), .val (.int z1), .val (.long v8_23), .second, .val (.long z6), .second, .unset, .unset]) X6 hx (hb hby at_47) rfl rfl ?_
    refine go_goto (pc' := 59) X6 hx (hb hby at_49) (by decide) (by decide) ?_
    have hq : ¬ z6 < 0 := own_max0 hz6
    refine go_new (pc' := 62) (cells' := 1) (slots' := 3) X6 hx hZ hown (hw _ (List.mem_of_getElem? (i := 8) rfl)) (hw _ (List.mem_of_getElem? (i := 9) rfl)) (hw _ (List.mem_of_getElem? (i := 10) rfl)) (hb hby at_59) rfl (by decide) (by decide) rfl rfl (fun T7 h7 b7 eb7 X7 E7 E_b7 Dv7 => ?_)
    have g_b7 : n0 ≤ b7 := by rw [eb7]; exact zs
    have zs := Nat.le_trans zs E7.1
    have F_b7_index : Fld Z h7 b7 "com/example/lateral/lateral/PageRequest" "index" "I" (.int (0 : Int32)) := Dv7 (Or.inr (hw _ (List.mem_of_getElem? (i := 21) rfl))) (ty := .int) (by decide)
    have F_b7_size : Fld Z h7 b7 "com/example/lateral/lateral/PageRequest" "size" "I" (.int (0 : Int32)) := Dv7 (Or.inr (hw _ (List.mem_of_getElem? (i := 23) rfl))) (ty := .int) (by decide)
    have F_b7_inline : Fld Z h7 b7 "com/example/lateral/lateral/PageRequest" "inline" "Z" (.int (0 : Int32)) := Dv7 (Or.inr (hw _ (List.mem_of_getElem? (i := 25) rfl))) (ty := .boolean) (by decide)
    refine go_dup (pc' := 63) X7 hx (hb hby at_62) rfl rfl ?_
    refine go_iload (pc' := 65) X7 hx (hb hby at_63) rfl rfl ?_
    refine go_iload (pc' := 67) X7 hx (hb hby at_65) rfl rfl ?_
    refine go_callC (pc' := 70) (W := 1) (cells' := 1) (slots' := 3) (rm := ({ frames := 2, cells := 0, slots := 0, locals := 27 } : Room)) (aL := [.int v6_4, .int z1]) (St := [.ref b7]) X7 hx hZ hown (by rw [hml]; rfl) rfl (hw _ (List.mem_of_getElem? (i := 11) rfl)) (hw _ (List.mem_of_getElem? (i := 12) rfl)) (hw _ (List.mem_of_getElem? (i := 10) rfl)) (hw _ (List.mem_of_getElem? (i := 13) rfl)) (by decide) pd_3 rfl (ct_3 l Z a0 hw zs b7 v6_4 z1 _ _ _ E_b7 g_b7 F_b7_index F_b7_size F_b7_inline hix hsz) (hb hby at_67) rfl (by decide) (Nat.le_of_eq rfl) (by decide) (by decide) (by decide) rfl rfl (fun T8 h8 v8 X8 Q8 => ?_) rfl
    obtain ⟨rfl, Kc8, Ec8, Fc8_index, Fc8_size⟩ := Q8
    have zs := Nat.le_trans zs Kc8.1
    show GoK p e below _ T8 (mkF m 70 #[.val (.int p0), .val (.int p1), .val (.long q2), .second, .val (.int p3), .val (.int p4), .val (.int v6_4), .val (.int z1), .val (.long v8_23), .second, .val (.long z6), .second, .unset, .unset] [.ref b7])
    refine go_astore (pc' := 72) (L' := #[.val (.int p0), .val (.int p1), .val (.long q2), .second, .val (.int p3), .val (.int p4), .val (.int v6_4), .val (.int z1), .val (.long v8_23), .second, .val (.long z6), .second, .val (.ref b7), .unset]) X8 hx (hb hby at_70) rfl rfl ?_
    refine go_lload (pc' := 74) X8 hx (hb hby at_72) rfl rfl ?_
    refine go_lload (pc' := 76) X8 hx (hb hby at_74) rfl rfl ?_
    refine go_lifge (pc1 := 77) (pc' := 80) (pcT := 84) X8 hx (hb hby at_76) rfl (hb hby at_77) rfl (by decide) (by decide) (fun c77_f => ?_) (fun c77_f => ?_)
    · refine go_iconst (pc' := 85) (v := 0) X8 hx (hb hby at_84) rfl rfl ?_
      refine go_istore (pc' := 87) (L' := #[.val (.int p0), .val (.int p1), .val (.long q2), .second, .val (.int p3), .val (.int p4), .val (.int v6_4), .val (.int z1), .val (.long v8_23), .second, .val (.long z6), .second, .val (.ref b7), .val (.int (0 : Int32))]) X8 hx (hb hby at_85) rfl rfl ?_
      refine go_aload (pc' := 89) X8 hx (hb hby at_87) rfl rfl ?_
      refine go_lload (pc' := 91) X8 hx (hb hby at_89) rfl rfl ?_
      refine go_callV (pc' := 94) (W := 0) (cells' := 1) (slots' := 3) (rm := ({ frames := 1, cells := 0, slots := 0, locals := 19 } : Room)) (aL := [.long z6]) (St := []) X8 hx hZ hown (by rw [hml]; rfl) Ec8 (hw _ (List.mem_of_getElem? (i := 26) rfl)) (hw _ (List.mem_of_getElem? (i := 27) rfl)) (hw _ (List.mem_of_getElem? (i := 29) rfl)) (hw _ (List.mem_of_getElem? (i := 28) rfl)) (hw _ (List.mem_of_getElem? (i := 10) rfl)) (hw _ (List.mem_of_getElem? (i := 30) rfl)) (by decide) pd_4 rfl (ct_6 l Z a0 hw zs b7 z6 Ec8 v6_4 z1 Fc8_index Fc8_size hq hs1) (hb hby at_91) rfl (by decide) (Nat.le_of_eq rfl) (by decide) (by decide) (by decide) rfl rfl (fun T9 h9 v9 X9 Q9 => ?_) rfl
      obtain ⟨z9, rfl, hz9, eh9⟩ := Q9
      subst h9
      show GoK p e below _ T9 (mkF m 94 #[.val (.int p0), .val (.int p1), .val (.long q2), .second, .val (.int p3), .val (.int p4), .val (.int v6_4), .val (.int z1), .val (.long v8_23), .second, .val (.long z6), .second, .val (.ref b7), .val (.int (0 : Int32))] [.int z9])
      refine go_iload (pc' := 96) X9 hx (hb hby at_94) rfl rfl ?_
      refine go_icmpne (pc' := 99) (pcT := 103) X9 hx (hb hby at_96) rfl (by decide) (by decide) (fun c96_ft => (by exfalso; exact c96_ft (own_fin0 hs1 hv8_23 c77_f hz9))) (fun c96_ft => ?_)
      refine go_iconst (pc' := 100) (v := 1) X9 hx (hb hby at_99) rfl rfl ?_
      refine go_goto (pc' := 104) X9 hx (hb hby at_100) (by decide) (by decide) ?_
      refine go_retN (t := .boolean) X9 hx hret (by simp) hlk (hb hby at_104) (by decide) (by decide) ?_
      exact rfl
    · refine go_iconst (pc' := 81) (v := 1) X8 hx (hb hby at_80) rfl rfl ?_
      refine go_goto (pc' := 85) X8 hx (hb hby at_81) (by decide) (by decide) ?_
      refine go_istore (pc' := 87) (L' := #[.val (.int p0), .val (.int p1), .val (.long q2), .second, .val (.int p3), .val (.int p4), .val (.int v6_4), .val (.int z1), .val (.long v8_23), .second, .val (.long z6), .second, .val (.ref b7), .val (.int (1 : Int32))]) X8 hx (hb hby at_85) rfl rfl ?_
      refine go_aload (pc' := 89) X8 hx (hb hby at_87) rfl rfl ?_
      refine go_lload (pc' := 91) X8 hx (hb hby at_89) rfl rfl ?_
      refine go_callV (pc' := 94) (W := 0) (cells' := 1) (slots' := 3) (rm := ({ frames := 1, cells := 0, slots := 0, locals := 19 } : Room)) (aL := [.long z6]) (St := []) X8 hx hZ hown (by rw [hml]; rfl) Ec8 (hw _ (List.mem_of_getElem? (i := 26) rfl)) (hw _ (List.mem_of_getElem? (i := 27) rfl)) (hw _ (List.mem_of_getElem? (i := 29) rfl)) (hw _ (List.mem_of_getElem? (i := 28) rfl)) (hw _ (List.mem_of_getElem? (i := 10) rfl)) (hw _ (List.mem_of_getElem? (i := 30) rfl)) (by decide) pd_4 rfl (ct_6 l Z a0 hw zs b7 z6 Ec8 v6_4 z1 Fc8_index Fc8_size hq hs1) (hb hby at_91) rfl (by decide) (Nat.le_of_eq rfl) (by decide) (by decide) (by decide) rfl rfl (fun T10 h10 v10 X10 Q10 => ?_) rfl
      obtain ⟨z10, rfl, hz10, eh10⟩ := Q10
      subst h10
      show GoK p e below _ T10 (mkF m 94 #[.val (.int p0), .val (.int p1), .val (.long q2), .second, .val (.int p3), .val (.int p4), .val (.int v6_4), .val (.int z1), .val (.long v8_23), .second, .val (.long z6), .second, .val (.ref b7), .val (.int (1 : Int32))] [.int z10])
      refine go_iload (pc' := 96) X10 hx (hb hby at_94) rfl rfl ?_
      refine go_icmpne (pc' := 99) (pcT := 103) X10 hx (hb hby at_96) rfl (by decide) (by decide) (fun c96_ff => (by exfalso; exact c96_ff (own_fin1 hs1 hv8_23 c77_f hz10))) (fun c96_ff => ?_)
      refine go_iconst (pc' := 100) (v := 1) X10 hx (hb hby at_99) rfl rfl ?_
      refine go_goto (pc' := 104) X10 hx (hb hby at_100) (by decide) (by decide) ?_
      refine go_retN (t := .boolean) X10 hx hret (by simp) hlk (hb hby at_104) (by decide) (by decide) ?_
      exact rfl
set_option maxRecDepth 65536 in
set_option maxHeartbeats 40000000 in
theorem comes_1 {Post : Tables → Env → Array Value → State → Outcome → State → Prop} (hpost : ∀ tb e args s v u, (limb_1_1.after args s (.returned v) u = true ∧ limb_1_2.after args s (.returned v) u = true ∧ True) → FrameEnd s (.returned v) u (Jvm.fieldLocs frame_1_writes args s ++ Jvm.arrayLocs frame_1_arrays args s ++ Jvm.staticLocs frame_1_statics s) 16 128 → Post tb e args s (.returned v) u) :
    ArmFor flags0 classFile x code maxLocals ret World_1 tables_1 room_1 Calls_1 rest_1 Pre_1 Post := by
  intro l hfl _ _ p e ha hc hk s m args below hf hA hF happ hP
  obtain ⟨hcalls, hrest, hpre⟩ := hP
  obtain ⟨-, -, -, hnamed, -, -, -, hat⟩ := (Spec.applies_iff hf).mp happ
  obtain ⟨hg, hn⟩ := and_e (Cond.before_iff.mp (show (Jvm.Cond.and given_1 narrow_1).before args s = true from hpre))
  obtain ⟨g1, g2⟩ := and_e hg
  obtain ⟨g3, g4⟩ := and_e g2
  obtain ⟨g5, g6⟩ := and_e g4
  obtain ⟨g7, g8⟩ := and_e g6
  obtain ⟨g9, g10⟩ := and_e g8
  obtain ⟨w0, w1, w2, w3, w4, rfl⟩ : ∃ w0 w1 w2 w3 w4 : Value, args = #[w0, w1, w2, w3, w4] := by
    have hs : args.size = 5 := by simpa [Cond.value, given_1] using g1
    obtain ⟨L⟩ := args
    match L, hs with
    | [w0, w1, w2, w3, w4], _ => exact ⟨w0, w1, w2, w3, w4, rfl⟩
  have hw := fun d (hd : d ∈ tables_1) => atoms_spec (ws := Jvm.Cond.code x code maxLocals ret :: tables_1) hat d (List.mem_cons_of_mem _ hd)
  obtain ⟨i0, ei0⟩ := is_v g3
  obtain rfl : w0 = (.int i0) := Option.some.inj ei0
  obtain ⟨i1, ei1⟩ := is_v g5
  obtain rfl : w1 = (.int i1) := Option.some.inj ei1
  obtain ⟨i2, ei2⟩ := isL_v g7
  obtain rfl : w2 = (.long i2) := Option.some.inj ei2
  obtain ⟨i3, ei3⟩ := is_v g9
  obtain rfl : w3 = (.int i3) := Option.some.inj ei3
  obtain ⟨i4, ei4⟩ := is_v g10
  obtain rfl : w4 = (.int i4) := Option.some.inj ei4
  obtain ⟨n, o, h1, h2, h3, _, L, rfl, ⟨⟨_, rfl, rfl⟩, N⟩, hq⟩ := ct_0 l s _ hw (h0 := s.heap) (n0 := s.heap.size) (Nat.le_refl _) i0 i1 i2 i3 i4 tables_1 p e ha hc hk s m _ below hf ((Spec.applies_iff_loose hf).mp happ).1 ⟨rfl, State.Warmed39.refl s, rfl⟩ trivial
  refine ⟨n, _, h1, h2, h3, hpost _ _ _ _ _ _ ⟨Cond.after_iff.mpr rfl, Cond.after_iff.mpr (eq_i res_at (Term.int_eval (1)) rfl), trivial⟩ ⟨hq.1, hq.2.1, (hq.2.2.sift fun y hy => Or.inr (N y hy)).mono (by decide) (by decide)⟩⟩
theorem main_1_1 : Claimed_1_1 := comes_1 fun _ _ _ _ _ _ h hF => ⟨h.1, hF⟩
theorem main_1_2 : Claimed_1_2 := comes_1 fun _ _ _ _ _ _ h hF => ⟨h.2.1, hF⟩
end Jvm.Pilot.@@N@@
namespace Jvm.Pilot.@@N@@
open Jvm Jvm.ClassFile Sem Op Lib Jvm.Free Jvm.Stand Jvm.Pilot.@@N@@.Jvm.D
/-! MADE BY PROGRAM (witnessworld.py) out of the Statement's table words and the real class files: 10 classes; the members and pool entries that the words name. The judged class is class 1, her method 1. -/
namespace start1
open Jvm.ClassFile
def u (s : String) : CpInfo := .utf8 (stringToUtf16 s)
/-- a pool by its gaps: so many unusable entries, then the entry; so many at the end -/
def gap : Nat → List CpInfo → List CpInfo
  | 0, r => r
  | n + 1, r => .unusable :: gap n r
def poolList (es : List (Nat × CpInfo)) (last : Nat) : List CpInfo := es.foldr (fun e r => gap e.1 (e.2 :: r)) (gap last [])
def pool (es : List (Nat × CpInfo)) (last : Nat) : Array CpInfo := ⟨poolList es last⟩
def fileOf (pool : Array CpInfo) (this : Nat) (attrs : Array Attribute := #[]) (ms : Array MethodInfo := #[]) (fl : Nat := 33) (sup : Nat := 0) (ifs : Array Nat := #[]) (fds : Array FieldInfo := #[]) : ClassFile where
  minorVersion := 0
  majorVersion := 65
  constantPool := pool
  accessFlags := fl
  thisClass := this
  superClass := sup
  interfaces := ifs
  fields := fds
  methods := ms
  attributes := attrs
def plain (name : String) (sup : Option ClassId) : Class where
  name := name
  kind := .ordinary
  loader := none
  accessFlags := 33
  super := sup
  interfaces := #[]
  cf := none
  fields := #[]
  methods := #[]
  instanceTypes := #[]
  staticTypes := #[]
  resolved := #[]
  callSites := []
  init := .initialized
  statics := none
  mirror := none

def pool0 : Array CpInfo := pool [(5, u "<init>"), (0, u "()V"), (1, .class_ 10), (1, u "java/lang/Object")] 113

def k0c0 : Code := { maxStack := 0, maxLocals := 1, code := object_method_1_code, exceptionTable := #[], attributes := #[] }
def k0m0 : Method := { name := "<init>", desc := "()V", sig := { parameters := [], returnType := none }, accessFlags := 1, code := some k0c0 }
/-- java/lang/Object -/
def k0 : Class := { plain "java/lang/Object" none with
  accessFlags := 33
  interfaces := #[]
  cf := some (fileOf pool0 8 #[] #[{ accessFlags := 1, nameIndex := 5, descriptorIndex := 6, attributes := #[] }] 33 0 #[] #[])
  fields := #[]
  methods := #[k0m0]
  instanceTypes := #[]
  staticTypes := #[]
  resolved := Array.replicate 124 none
  statics := none }

def pool1 : Array CpInfo := pool [(2, .class_ 4), (1, u "java/lang/Object"), (0, u "<init>"), (0, u "()V"), (0, .integer 2147483647), (0, .methodref 9 10), (0, .class_ 11), (0, .nameAndType 12 13), (0, u "java/lang/Math"), (0, u "max"), (0, u "(II)I"), (0, .methodref 9 15), (0, .nameAndType 12 16), (0, u "(JJ)J"), (2, .long 9223372036854775807), (1, .class_ 22), (0, u "com/example/lateral/lateral/PageRequest"), (0, .methodref 21 24), (0, .nameAndType 5 25), (0, u "(II)V"), (0, .methodref 21 27), (0, .nameAndType 28 29), (0, u "hasRows"), (0, u "(J)Z"), (0, .class_ 31), (0, u "com/example/lateral/lateral/PageRequestHasRowsPinLaw"), (2, u "law"), (0, u "(IIJII)Z")] 3

def k1m0 : Method := { name := "<init>", desc := "()V", sig := { parameters := [], returnType := none }, accessFlags := 1, code := none }
def k1c1 : Code := { maxStack := 6, maxLocals := 14, code := code, exceptionTable := #[], attributes := #[] }
def k1m1 : Method := { name := "law", desc := "(IIJII)Z", sig := { parameters := [.int, .int, .long, .int, .int], returnType := some .boolean }, accessFlags := 9, code := some k1c1 }
/-- com/example/lateral/lateral/PageRequestHasRowsPinLaw -/
def k1 : Class := { plain "com/example/lateral/lateral/PageRequestHasRowsPinLaw" (some 0) with
  accessFlags := 49
  interfaces := #[]
  cf := some (fileOf pool1 30 #[] #[{ accessFlags := 1, nameIndex := 5, descriptorIndex := 6, attributes := #[] }, { accessFlags := 9, nameIndex := 34, descriptorIndex := 35, attributes := #[] }] 49 2 #[] #[])
  fields := #[]
  methods := #[k1m0, k1m1]
  instanceTypes := #[]
  staticTypes := #[]
  resolved := Array.replicate 39 none
  statics := none }

def pool2 : Array CpInfo := pool [(1, .class_ 2), (0, u "java/lang/Math"), (1, .class_ 6), (1, u "java/lang/Object"), (0, u "<init>"), (0, u "()V"), (89, .class_ 100), (1, u "java/lang/Math$RandomNumberGeneratorHolder"), (20, u "(JJ)J"), (50, u "negativeZeroFloatBits"), (0, u "J"), (2, u "negativeZeroDoubleBits"), (21, u "max"), (46, u "$assertionsDisabled"), (0, u "Z"), (88, u "(II)I"), (2, u "twoToTheDoubleScaleDown"), (0, u "D"), (4, u "twoToTheDoubleScaleUp"), (9, u "E"), (3, u "PI"), (2, u "TAU"), (2, u "DEGREES_TO_RADIANS"), (0, u "RADIANS_TO_DEGREES")] 94

def k2m0 : Method := { name := "<init>", desc := "()V", sig := { parameters := [], returnType := none }, accessFlags := 2, code := none }
def k2c1 : Code := { maxStack := 2, maxLocals := 2, code := jdk_29_method_65_code, exceptionTable := #[], attributes := #[] }
def k2m1 : Method := { name := "max", desc := "(II)I", sig := { parameters := [.int, .int], returnType := some .int }, accessFlags := 9, code := some k2c1 }
def k2c2 : Code := { maxStack := 4, maxLocals := 4, code := jdk_29_method_66_code, exceptionTable := #[], attributes := #[] }
def k2m2 : Method := { name := "max", desc := "(JJ)J", sig := { parameters := [.long, .long], returnType := some .long }, accessFlags := 9, code := some k2c2 }
/-- java/lang/Math -/
def k2 : Class := { plain "java/lang/Math" (some 0) with
  accessFlags := 49
  interfaces := #[]
  cf := some (fileOf pool2 1 #[.nestMembers #[98]] #[{ accessFlags := 2, nameIndex := 7, descriptorIndex := 8, attributes := #[] }, { accessFlags := 9, nameIndex := 198, descriptorIndex := 335, attributes := #[] }, { accessFlags := 9, nameIndex := 198, descriptorIndex := 121, attributes := #[] }] 49 4 #[] #[{ accessFlags := 25, nameIndex := 354, descriptorIndex := 339, attributes := #[] }, { accessFlags := 25, nameIndex := 358, descriptorIndex := 339, attributes := #[] }, { accessFlags := 25, nameIndex := 361, descriptorIndex := 339, attributes := #[] }, { accessFlags := 26, nameIndex := 364, descriptorIndex := 339, attributes := #[] }, { accessFlags := 26, nameIndex := 365, descriptorIndex := 339, attributes := #[] }, { accessFlags := 26, nameIndex := 172, descriptorIndex := 173, attributes := #[] }, { accessFlags := 26, nameIndex := 176, descriptorIndex := 173, attributes := #[] }, { accessFlags := 8, nameIndex := 344, descriptorIndex := 339, attributes := #[] }, { accessFlags := 8, nameIndex := 338, descriptorIndex := 339, attributes := #[] }, { accessFlags := 4120, nameIndex := 245, descriptorIndex := 246, attributes := #[] }])
  fields := #[{ name := "E", type := .double, accessFlags := 25, slot := 0, constantValue := 0 }, { name := "PI", type := .double, accessFlags := 25, slot := 1, constantValue := 0 }, { name := "TAU", type := .double, accessFlags := 25, slot := 2, constantValue := 0 }, { name := "DEGREES_TO_RADIANS", type := .double, accessFlags := 26, slot := 3, constantValue := 0 }, { name := "RADIANS_TO_DEGREES", type := .double, accessFlags := 26, slot := 4, constantValue := 0 }, { name := "negativeZeroFloatBits", type := .long, accessFlags := 26, slot := 5, constantValue := 0 }, { name := "negativeZeroDoubleBits", type := .long, accessFlags := 26, slot := 6, constantValue := 0 }, { name := "twoToTheDoubleScaleUp", type := .double, accessFlags := 8, slot := 7, constantValue := 0 }, { name := "twoToTheDoubleScaleDown", type := .double, accessFlags := 8, slot := 8, constantValue := 0 }, { name := "$assertionsDisabled", type := .boolean, accessFlags := 4120, slot := 9, constantValue := 0 }]
  methods := #[k2m0, k2m1, k2m2]
  instanceTypes := #[]
  staticTypes := #[.double, .double, .double, .double, .double, .long, .long, .double, .double, .boolean]
  resolved := Array.replicate 460 none
  statics := none }

def pool3 : Array CpInfo := pool [(1, .methodref 2 3), (0, .class_ 4), (0, .nameAndType 5 6), (0, u "com/example/lateral/lateral/PageRequest"), (0, u "<init>"), (0, u "(IIZ)V"), (0, .methodref 8 9), (0, .class_ 10), (0, .nameAndType 5 11), (0, u "java/lang/Object"), (0, u "()V"), (10, .fieldref 2 23), (0, .nameAndType 24 25), (0, u "index"), (0, u "I"), (0, .fieldref 2 27), (0, .nameAndType 28 25), (0, u "size"), (0, .fieldref 2 30), (0, .nameAndType 31 32), (0, u "inline"), (0, u "Z"), (3, .methodref 2 37), (0, .nameAndType 38 39), (0, u "totalPages"), (0, u "(J)J"), (0, u "(II)V"), (9, u "hasRows"), (0, u "(J)Z")] 21

def k3c0 : Code := { maxStack := 4, maxLocals := 3, code := prog_62_method_1_code, exceptionTable := #[], attributes := #[] }
def k3m0 : Method := { name := "<init>", desc := "(II)V", sig := { parameters := [.int, .int], returnType := none }, accessFlags := 1, code := some k3c0 }
def k3c1 : Code := { maxStack := 3, maxLocals := 4, code := prog_62_method_2_code, exceptionTable := #[], attributes := #[] }
def k3m1 : Method := { name := "<init>", desc := "(IIZ)V", sig := { parameters := [.int, .int, .boolean], returnType := none }, accessFlags := 2, code := some k3c1 }
def k3c2 : Code := { maxStack := 4, maxLocals := 6, code := prog_62_method_8_code, exceptionTable := #[], attributes := #[] }
def k3m2 : Method := { name := "totalPages", desc := "(J)J", sig := { parameters := [.long], returnType := some .long }, accessFlags := 1, code := some k3c2 }
def k3c3 : Code := { maxStack := 5, maxLocals := 3, code := prog_62_method_9_code, exceptionTable := #[], attributes := #[] }
def k3m3 : Method := { name := "hasRows", desc := "(J)Z", sig := { parameters := [.long], returnType := some .boolean }, accessFlags := 1, code := some k3c3 }
/-- com/example/lateral/lateral/PageRequest -/
def k3 : Class := { plain "com/example/lateral/lateral/PageRequest" (some 0) with
  accessFlags := 33
  interfaces := #[]
  cf := some (fileOf pool3 2 #[] #[{ accessFlags := 1, nameIndex := 5, descriptorIndex := 40, attributes := #[] }, { accessFlags := 2, nameIndex := 5, descriptorIndex := 6, attributes := #[] }, { accessFlags := 1, nameIndex := 38, descriptorIndex := 39, attributes := #[] }, { accessFlags := 1, nameIndex := 50, descriptorIndex := 51, attributes := #[] }] 33 8 #[] #[{ accessFlags := 18, nameIndex := 24, descriptorIndex := 25, attributes := #[] }, { accessFlags := 18, nameIndex := 28, descriptorIndex := 25, attributes := #[] }, { accessFlags := 18, nameIndex := 31, descriptorIndex := 32, attributes := #[] }])
  fields := #[{ name := "index", type := .int, accessFlags := 18, slot := 0, constantValue := 0 }, { name := "size", type := .int, accessFlags := 18, slot := 1, constantValue := 0 }, { name := "inline", type := .boolean, accessFlags := 18, slot := 2, constantValue := 0 }]
  methods := #[k3m0, k3m1, k3m2, k3m3]
  instanceTypes := #[.int, .int, .boolean]
  staticTypes := #[]
  resolved := Array.replicate 73 none
  statics := none }

def pool4 : Array CpInfo := pool [(1, u "java/lang/Cloneable"), (0, .class_ 1), (0, u "java/lang/Object"), (0, .class_ 3)] 3

/-- java/lang/Cloneable -/
def k4 : Class := { plain "java/lang/Cloneable" (some 0) with
  accessFlags := 1537
  interfaces := #[]
  cf := some (fileOf pool4 2 #[] #[] 1537 4 #[] #[])
  fields := #[]
  methods := #[]
  instanceTypes := #[]
  staticTypes := #[]
  resolved := Array.replicate 8 none
  statics := none }

def pool5 : Array CpInfo := pool [(1, u "java/io/Serializable"), (0, .class_ 1), (0, u "java/lang/Object"), (0, .class_ 3)] 3

/-- java/io/Serializable -/
def k5 : Class := { plain "java/io/Serializable" (some 0) with
  accessFlags := 1537
  interfaces := #[]
  cf := some (fileOf pool5 2 #[] #[] 1537 4 #[] #[])
  fields := #[]
  methods := #[]
  instanceTypes := #[]
  staticTypes := #[]
  resolved := Array.replicate 8 none
  statics := none }

/-- the primitive byte -/
def k6 : Class := { plain "byte" none with kind := .primitive 'B', accessFlags := 0x411 }
/-- [B -/
def k7 : Class := { plain "[B" (some 0) with kind := .array 6 .byte, interfaces := #[4, 5], accessFlags := 1041 }

/-- the primitive int -/
def k8 : Class := { plain "int" none with kind := .primitive 'I', accessFlags := 0x411 }
/-- [I -/
def k9 : Class := { plain "[I" (some 0) with kind := .array 8 .int, interfaces := #[4, 5], accessFlags := 1041 }

def heap : Heap := #[]
def classes : Array Class := #[k0, k1, k2, k3, k4, k5, k6, k7, k8, k9]
def interned : List (Array UInt16 × Addr) := []
def slotsUsed : Nat := 0
def theMethod : MethodId := ⟨1, 1⟩
def args0 : Array Value := #[.int 5, .int 3, .long 7, .int 2, .int 1]
def aboutOver (below : List Frame) : State where
  vm := { classes := classes, interned := interned.toArray }
  heap := heap
  slotsUsed := slotsUsed
  threads := #[{ frames := .invoking theMethod args0 :: below }]
def below0 : List Frame := [.native { method := ⟨0, 0⟩, args := #[] }]
def about1 : State := aboutOver below0
def p0 : Program := .bare "" "" ""
def e0 : Env := launch0.env 0 0 0
theorem w_frames : about1.frames = Frame.invoking theMethod args0 :: below0 := rfl
set_option maxRecDepth 65536 in
theorem w_args : argsFit about1.vm theMethod args0 = true := by decide +kernel
set_option maxRecDepth 65536 in
theorem w_heap : heapFits about1 = true := by decide +kernel
set_option maxRecDepth 65536 in
theorem w_runnable : about1.curStatus? = some .runnable := by decide +kernel
set_option maxRecDepth 65536 in
theorem w_alone : about1.alone = true := by decide +kernel
set_option maxRecDepth 65536 in
theorem w_named : about1.methodNamed? x = some theMethod := by decide +kernel
set_option maxRecDepth 65536 in
theorem w_hears : about1.hears theMethod below0 = true := by decide +kernel
set_option maxRecDepth 65536 in
theorem w_ripe : about1.ripe theMethod args0 below0 = true := by decide +kernel
theorem w_running : about1.status = .running := rfl
set_option maxRecDepth 65536 in
theorem w_room : about1.hasRoom e0.platform room_1 = true :=
  launch0.hasRoom_least _ room_1 (by decide +kernel) (by decide +kernel) (by decide +kernel) (by decide +kernel) (by decide +kernel) (by decide +kernel)
theorem allAtoms_all (ts : List Jvm.Cond) (a : Array Jvm.Value) (st : Jvm.State) : (allAtoms ts).before a st = ts.all (fun c => c.before a st) := by
  induction ts with
  | nil => rfl
  | cons c t ih =>
    show (Jvm.Cond.and c (allAtoms t)).before a st = _
    rw [Jvm.Cond.before_and, ih, List.all_cons]
def words1 : List Jvm.Cond := Jvm.Cond.code x code maxLocals ret :: tables_1
/-- a 'code' word, met by the world's own term for the bytes: nothing is compared byte by byte -/
theorem code_word {y : MethodName} {bytes : ByteArray} {mx : Nat} {rt : Option FieldType} {a : Array Value} {s : State} {m : MethodId} {meth : Method} {c : Code} (h1 : s.methodNamed? y = some m) (h2 : s.vm.method? m = some meth) (h3 : meth.code = some c) (h4 : c.code = bytes)
    (h5 : (c.maxLocals == mx && c.exceptionTable.isEmpty && decide (c.maxStack ≤ mostOperands) && decide (meth.sig.returnType = rt) && !meth.locks && decide (parseMethodDescriptor y.desc = some meth.sig)) = true) : (Jvm.Cond.code y bytes mx rt).before a s = true := by
  simp only [Bool.and_eq_true, beq_iff_eq, Bool.not_eq_true', decide_eq_true_eq] at h5
  obtain ⟨⟨⟨⟨⟨g1, g2⟩, g3⟩, g4⟩, g5⟩, g6⟩ := h5
  simp [Cond.before, Cond.holds, Cond.value, h1, h2, h3, h4, g1, g2, g3, g4, g5, g6]
def isCode : Jvm.Cond → Bool
  | .code _ _ _ _ => true
  | _ => false
theorem all_split {L : List Jvm.Cond} {P : Jvm.Cond → Bool} (h1 : L.all (fun c => isCode c || P c) = true) (h2 : ∀ c ∈ L.filter isCode, P c = true) : L.all P = true := by
  refine List.all_eq_true.mpr fun c hc => ?_
  have h := List.all_eq_true.mp h1 c hc
  rcases Bool.eq_false_or_eq_true (isCode c) with hi | hi
  · exact h2 c (List.mem_filter.mpr ⟨hc, hi⟩)
  · simpa [hi] using h
set_option maxRecDepth 65536 in
theorem w_c0 : (Jvm.Cond.code x code maxLocals ret).before args0 about1 = true := code_word (m := ⟨1, 1⟩) (meth := k1m1) (c := k1c1) (by decide +kernel) rfl rfl rfl (by decide +kernel)
set_option maxRecDepth 65536 in
theorem w_c1 : (Jvm.Cond.code ({ cls := "java/lang/Math", name := "max", desc := "(II)I" } : Jvm.MethodName) jdk_29_method_65_code (2 : Nat) (Option.some Jvm.ClassFile.FieldType.int)).before args0 about1 = true := code_word (m := ⟨2, 1⟩) (meth := k2m1) (c := k2c1) (by decide +kernel) rfl rfl rfl (by decide +kernel)
set_option maxRecDepth 65536 in
theorem w_c2 : (Jvm.Cond.code ({ cls := "java/lang/Math", name := "max", desc := "(JJ)J" } : Jvm.MethodName) jdk_29_method_66_code (4 : Nat) (Option.some Jvm.ClassFile.FieldType.long)).before args0 about1 = true := code_word (m := ⟨2, 2⟩) (meth := k2m2) (c := k2c2) (by decide +kernel) rfl rfl rfl (by decide +kernel)
set_option maxRecDepth 65536 in
theorem w_c3 : (Jvm.Cond.code ({ cls := "com/example/lateral/lateral/PageRequest", name := "<init>", desc := "(II)V" } : Jvm.MethodName) prog_62_method_1_code (3 : Nat) (Option.none : Option Jvm.ClassFile.FieldType)).before args0 about1 = true := code_word (m := ⟨3, 0⟩) (meth := k3m0) (c := k3c0) (by decide +kernel) rfl rfl rfl (by decide +kernel)
set_option maxRecDepth 65536 in
theorem w_c4 : (Jvm.Cond.code ({ cls := "com/example/lateral/lateral/PageRequest", name := "<init>", desc := "(IIZ)V" } : Jvm.MethodName) prog_62_method_2_code (4 : Nat) (Option.none : Option Jvm.ClassFile.FieldType)).before args0 about1 = true := code_word (m := ⟨3, 1⟩) (meth := k3m1) (c := k3c1) (by decide +kernel) rfl rfl rfl (by decide +kernel)
set_option maxRecDepth 65536 in
theorem w_c5 : (Jvm.Cond.code ({ cls := "java/lang/Object", name := "<init>", desc := "()V" } : Jvm.MethodName) object_method_1_code (1 : Nat) (Option.none : Option Jvm.ClassFile.FieldType)).before args0 about1 = true := code_word (m := ⟨0, 0⟩) (meth := k0m0) (c := k0c0) (by decide +kernel) rfl rfl rfl (by decide +kernel)
set_option maxRecDepth 65536 in
theorem w_c6 : (Jvm.Cond.code ({ cls := "com/example/lateral/lateral/PageRequest", name := "hasRows", desc := "(J)Z" } : Jvm.MethodName) prog_62_method_9_code (3 : Nat) (Option.some Jvm.ClassFile.FieldType.boolean)).before args0 about1 = true := code_word (m := ⟨3, 3⟩) (meth := k3m3) (c := k3c3) (by decide +kernel) rfl rfl rfl (by decide +kernel)
set_option maxRecDepth 65536 in
theorem w_c7 : (Jvm.Cond.code ({ cls := "com/example/lateral/lateral/PageRequest", name := "totalPages", desc := "(J)J" } : Jvm.MethodName) prog_62_method_8_code (6 : Nat) (Option.some Jvm.ClassFile.FieldType.long)).before args0 about1 = true := code_word (m := ⟨3, 2⟩) (meth := k3m2) (c := k3c2) (by decide +kernel) rfl rfl rfl (by decide +kernel)
def codes1 : List Jvm.Cond := [Jvm.Cond.code x code maxLocals ret, Jvm.Cond.code ({ cls := "java/lang/Math", name := "max", desc := "(II)I" } : Jvm.MethodName) jdk_29_method_65_code (2 : Nat) (Option.some Jvm.ClassFile.FieldType.int), Jvm.Cond.code ({ cls := "java/lang/Math", name := "max", desc := "(JJ)J" } : Jvm.MethodName) jdk_29_method_66_code (4 : Nat) (Option.some Jvm.ClassFile.FieldType.long), Jvm.Cond.code ({ cls := "com/example/lateral/lateral/PageRequest", name := "<init>", desc := "(II)V" } : Jvm.MethodName) prog_62_method_1_code (3 : Nat) (Option.none : Option Jvm.ClassFile.FieldType), Jvm.Cond.code ({ cls := "com/example/lateral/lateral/PageRequest", name := "<init>", desc := "(IIZ)V" } : Jvm.MethodName) prog_62_method_2_code (4 : Nat) (Option.none : Option Jvm.ClassFile.FieldType), Jvm.Cond.code ({ cls := "java/lang/Object", name := "<init>", desc := "()V" } : Jvm.MethodName) object_method_1_code (1 : Nat) (Option.none : Option Jvm.ClassFile.FieldType), Jvm.Cond.code ({ cls := "com/example/lateral/lateral/PageRequest", name := "hasRows", desc := "(J)Z" } : Jvm.MethodName) prog_62_method_9_code (3 : Nat) (Option.some Jvm.ClassFile.FieldType.boolean), Jvm.Cond.code ({ cls := "com/example/lateral/lateral/PageRequest", name := "totalPages", desc := "(J)J" } : Jvm.MethodName) prog_62_method_8_code (6 : Nat) (Option.some Jvm.ClassFile.FieldType.long)]
set_option maxRecDepth 65536 in
theorem codes_eq : words1.filter isCode = codes1 := rfl
theorem w_codes : ∀ c ∈ words1.filter isCode, c.before args0 about1 = true := by
  rw [codes_eq]
  intro c hc
  simp only [codes1, List.mem_cons, List.not_mem_nil, or_false] at hc
  rcases hc with rfl | rfl | rfl | rfl | rfl | rfl | rfl | rfl
  · exact w_c0
  · exact w_c1
  · exact w_c2
  · exact w_c3
  · exact w_c4
  · exact w_c5
  · exact w_c6
  · exact w_c7
set_option maxRecDepth 65536 in
theorem w_t1 : (words1.take 24).all (fun c => isCode c || c.before args0 about1) = true := by decide +kernel
set_option maxRecDepth 65536 in
theorem w_t2 : (words1.drop 24).all (fun c => isCode c || c.before args0 about1) = true := by decide +kernel
theorem w_tables : (allAtoms (Jvm.Cond.code x code maxLocals ret :: tables_1)).before args0 about1 = true := by
  rw [allAtoms_all]
  show words1.all (fun c => c.before args0 about1) = true
  refine all_split ?_ w_codes
  rw [← List.take_append_drop 24 words1, List.all_append, w_t1, w_t2]
  rfl
set_option maxRecDepth 65536 in
theorem w_case : (Jvm.Cond.and given_1 narrow_1).before args0 about1 = true := by decide +kernel
theorem w_applies : (headSpec (Jvm.Cond.code x code maxLocals ret :: tables_1) room_1).applies x e0.platform about1 = true :=
  (Spec.applies_iff w_frames).mpr ⟨w_running, w_runnable, w_alone, w_named, w_hears, w_ripe, w_room, w_tables⟩
theorem atStart : AtStart classFile x code maxLocals ret World_1 tables_1 room_1 Calls_1 rest_1 Pre_1 launch0 p0 e0 about1 theMethod args0 below0 :=
  ⟨lists_1, trivial, launch0.admits_env _ _ _, launch0.least_env, fairChoices_fair.cas, fairChoices_fair.clock, w_frames, w_args, w_heap, w_applies, trivial, trivial, w_case⟩
end start1
theorem witness_1 : WitnessClaimed_1 := ⟨start1.p0, start1.e0, start1.about1, start1.theMethod, start1.args0, start1.below0, start1.atStart⟩
end Jvm.Pilot.@@N@@
