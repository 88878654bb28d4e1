import JvmDerived
import JvmDerived.Pilot.@@N@@Statement
import JvmDerived.Pilot.@@N@@Code
set_option linter.unusedVariables false
set_option linter.unusedSimpArgs false
namespace Jvm.Pilot.@@N@@
open Jvm Jvm.ClassFile Sem Op Lib Jvm.Free Jvm.Stand Jvm.LawKit Jvm.RoadKit Bundle Jvm.Pilot.@@N@@.Jvm.D
/-! ## the run in continuation form: 'Go G T g': from T with the top frame g the run ends as G says -/
def Go (p : Program) (e : Env) (below : List Frame) (G : State → Outcome → Prop) (T : State) (g : JFrame) : Prop :=
  ∃ s₂ o, Steps p.tables e below (T.setTop g) s₂ ∧ s₂.status = .running ∧ Ended s₂ below o ∧ G s₂ o
/-- what a contract asks of the end -/
def FinQ (s : State) (Q : Option Value → Heap → List Loc → Prop) (kc ks : Nat) (U' : State) (o : Outcome) : Prop :=
  ∃ v L, o = .returned v ∧ Q v U'.heap L ∧ FrameEnd s o U' L kc ks
/-- a body's contract, as backOf takes it -/
def Met1 (l : Launch) (Z : State) (y : MethodName) (bytes : ByteArray) (maxL : Nat) (rt : Option FieldType) (rm : Room) (as : Array Value) (h0 : Heap) (Q : Option Value → Heap → List Loc → Prop) : Prop :=
  ∀ ws : List Jvm.Cond, MetFree l y (head1 (Jvm.Cond.code y bytes maxL rt :: ws) rm) (fun a U => a = as ∧ Z.Warmed39 U.vm ∧ U.heap = h0) (fun _ _ _ _ _ => True)
    (fun _ U o U' => ∃ v L, o = .returned v ∧ Q v U'.heap L ∧ FrameEnd U o U' L rm.cells rm.slots)
section OwnGo
variable {p : Program} {l : Launch} {e : Env} {R : Room} {s : State} {m : MethodId} {args : Array Value} {below : List Frame} {meth : Method} {c : Code} {T T' : State} {locs : List Loc} {cells slots : Nat} {G : State → Outcome → Prop} {Ls : Array Slot} {st : List Value} {pc : Nat} {bs : ByteArray} {Z : State} {a0 : Array Value} {h : Heap} {g g' : JFrame}
theorem Go.by (q : ∀ t, Steps p.tables e below (T'.setTop g') t → Steps p.tables e below (T.setTop g) t) (k : Go p e below G T' g') : Go p e below G T g := by
  obtain ⟨s₂, o, h1, h2⟩ := k
  exact ⟨s₂, o, q _ h1, h2⟩
theorem own_met_of {Z : State} {y : MethodName} {bytes : ByteArray} {maxL : Nat} {rt : Option FieldType} {rm : Room} {as : Array Value} {h0 : Heap} {Q : Option Value → Heap → List Loc → Prop} {Ls0 : Array Slot} (hpl : plainFor y = true) (ef : ∀ m, entryFrame m as maxL = mkF m 0 Ls0 [])
    (body : ∀ (p : Program) (e : Env) (s : State) (m : MethodId) (below : List Frame) (meth : Method) (c : Code) (s₁ : State), Stand p l e rm s m as below meth c s₁ [] 0 0 → p.tables.exec = Jvm.exec → c.code = bytes → c.maxLocals = maxL → Z.Warmed39 s.vm → s.vm.findClass y.cls = some m.cls → meth.name = y.name → meth.sig.returnType = rt → meth.locks = false → s₁.heap = h0 →
      Go p e below (FinQ s Q rm.cells rm.slots) s₁ (mkF m 0 Ls0 [])) : Met1 l Z y bytes maxL rt rm as h0 Q := by
  intro ws
  refine MetFree.of_bodySF hpl hisR ?_
  intro p e s m args below meth c s₁ Bd hml0 hP hK
  obtain ⟨rfl, hZ, hh⟩ := hP
  have k := body p e s m below meth c s₁ (Stand.of_body Bd) Bd.exec Bd.bytes hml0 hZ (findClass_of_methodNamed Bd.named) (name_of_methodNamed Bd.named Bd.method).1 Bd.returns Bd.notSynchronized (by rw [← hh, Bd.state]; rfl)
  rw [← ef m] at k
  exact k
theorem own_leave {Q : Option Value → Heap → List Loc → Prop} {kc ks : Nat} {v : Option Value} (X : Stand p l e R s m args below meth c T locs cells slots) (hv : meth.sig.returnType = none → v = none) (hlk : meth.locks = false) (hc : cells ≤ kc) (hs : slots ≤ ks) (hQ : Q v T.heap locs)
    (k : ∀ fs, (∀ (f : JFrame) (acts : List Action), f.method = m → f.locked = none → f.entered = [] → (doReturn e (T.setTop f) acts v).1 = T.setFrames fs) → Steps p.tables e below (T.setTop g) (T.setFrames fs)) : Go p e below (FinQ s Q kc ks) T g := by
  obtain ⟨fs, hr, hrun, hended, hW, hsame⟩ := X.leave (v := v) hv hlk
  exact ⟨_, _, k fs hr, hrun, hended, _, _, rfl, hQ, ⟨_, rfl⟩, hW, hsame.mono hc hs⟩
theorem own_retI {Q : Option Value → Heap → List Loc → Prop} {kc ks : Nat} {z : Int32} (X : Stand p l e R s m args below meth c T locs cells slots) (hx : p.tables.exec = Jvm.exec) (hby : c.code = bs) (hret : meth.sig.returnType = some .int) (hlk : meth.locks = false) (hd : decode bs pc = .ok (.ireturn, 1)) (hc : cells ≤ kc) (hs : slots ≤ ks) (hQ : Q (some (.int z)) T.heap locs) : Go p e below (FinQ s Q kc ks) T (mkF m pc Ls (.int z :: st)) := by
  refine own_leave X (fun q => by rw [hret] at q; cases q) hlk hc hs hQ fun fs hr => ?_
  exact retOut X hx hret rfl (Or.inl ⟨rfl, Or.inl rfl, z, rfl⟩) (hb hby hd) hr
theorem own_retN {Q : Option Value → Heap → List Loc → Prop} {kc ks : Nat} {z z' : Int32} {t : FieldType} (X : Stand p l e R s m args below meth c T locs cells slots) (hx : p.tables.exec = Jvm.exec) (hby : c.code = bs) (hret : meth.sig.returnType = some t) (hlk : meth.locks = false) (ht : t = .boolean ∨ t = .byte ∨ t = .char ∨ t = .short) (hd : decode bs pc = .ok (.ireturn, 1)) (hc : cells ≤ kc) (hs : slots ≤ ks) (hn : nar t z = z') (hQ : Q (some (.int z')) T.heap locs) : Go p e below (FinQ s Q kc ks) T (mkF m pc Ls (.int z :: st)) := by
  subst hn
  refine own_leave X (fun q => by rw [hret] at q; cases q) hlk hc hs hQ fun fs hr => ?_
  exact retN X hx hret ht (hb hby hd) hr
theorem own_retJ {Q : Option Value → Heap → List Loc → Prop} {kc ks : Nat} {z : Int64} (X : Stand p l e R s m args below meth c T locs cells slots) (hx : p.tables.exec = Jvm.exec) (hby : c.code = bs) (hret : meth.sig.returnType = some .long) (hlk : meth.locks = false) (hd : decode bs pc = .ok (.lreturn, 1)) (hc : cells ≤ kc) (hs : slots ≤ ks) (hQ : Q (some (.long z)) T.heap locs) : Go p e below (FinQ s Q kc ks) T (mkF m pc Ls (.long z :: st)) := by
  refine own_leave X (fun q => by rw [hret] at q; cases q) hlk hc hs hQ fun fs hr => ?_
  exact retOut X hx hret rfl (Or.inr (Or.inl ⟨rfl, rfl, z, rfl⟩)) (hb hby hd) hr
theorem own_retA {Q : Option Value → Heap → List Loc → Prop} {kc ks : Nat} {w : Value} {t : FieldType} (X : Stand p l e R s m args below meth c T locs cells slots) (hx : p.tables.exec = Jvm.exec) (hby : c.code = bs) (hret : meth.sig.returnType = some t) (hlk : meth.locks = false) (ht : t.isReference = true) (hw : w.isRef = true) (hn : narrow t w = w) (hd : decode bs pc = .ok (.areturn, 1)) (hc : cells ≤ kc) (hs : slots ≤ ks) (hQ : Q (some w) T.heap locs) : Go p e below (FinQ s Q kc ks) T (mkF m pc Ls (w :: st)) := by
  refine own_leave X (fun q => by rw [hret] at q; cases q) hlk hc hs hQ fun fs hr => ?_
  exact retOut X hx hret hn (Or.inr (Or.inr (Or.inr (Or.inr ⟨rfl, ht, hw⟩)))) (hb hby hd) hr
theorem own_ret {Q : Option Value → Heap → List Loc → Prop} {kc ks : Nat} (X : Stand p l e R s m args below meth c T locs cells slots) (hx : p.tables.exec = Jvm.exec) (hby : c.code = bs) (hret : meth.sig.returnType = none) (hlk : meth.locks = false) (hd : decode bs pc = .ok (.return_, 1)) (hc : cells ≤ kc) (hs : slots ≤ ks) (hQ : Q none T.heap locs) : Go p e below (FinQ s Q kc ks) T (mkF m pc Ls []) := by
  refine own_leave X (fun _ => rfl) hlk hc hs hQ fun fs hr => ?_
  exact X.returnOut hx hret (hb hby hd) hr
theorem own_iload (X : Stand p l e R s m args below meth c T locs cells slots) (hx : p.tables.exec = Jvm.exec) (hby : c.code = bs) {n : Nat} (v : Int32) (hd : decode bs pc = .ok (.iload n, 2)) (hl : Ls[n]? = some (.val (.int v))) (pc' : Nat) (hp : pc + 2 = pc') (k : Go p e below G T (mkF m pc' Ls (.int v :: st))) : Go p e below G T (mkF m pc Ls st) := by
  subst hp
  exact Go.by (fun t q => XS.iload X.here hx rfl (hb hby hd) hl q) k
theorem own_iloadN (X : Stand p l e R s m args below meth c T locs cells slots) (hx : p.tables.exec = Jvm.exec) (hby : c.code = bs) {n : Fin 4} (v : Int32) (hd : decode bs pc = .ok (.iload_n n, 1)) (hl : Ls[n.val]? = some (.val (.int v))) (pc' : Nat) (hp : pc + 1 = pc') (k : Go p e below G T (mkF m pc' Ls (.int v :: st))) : Go p e below G T (mkF m pc Ls st) := by
  subst hp
  exact Go.by (fun t q => XS.iloadN X.here hx rfl (hb hby hd) hl q) k
theorem own_istore (X : Stand p l e R s m args below meth c T locs cells slots) (hx : p.tables.exec = Jvm.exec) (hby : c.code = bs) {n : Nat} {x x' : Int32} (hd : decode bs pc = .ok (.istore n, 2)) (ex : x = x') {l' : Array Slot} (hl : storeLocals Ls n (.int x') = some l') (pc' : Nat) (hp : pc + 2 = pc') (k : Go p e below G T (mkF m pc' l' st)) : Go p e below G T (mkF m pc Ls (.int x :: st)) := by
  subst hp
  subst ex
  exact Go.by (fun t q => XS.istore X.here hx rfl (hb hby hd) rfl hl q) k
theorem own_istoreN (X : Stand p l e R s m args below meth c T locs cells slots) (hx : p.tables.exec = Jvm.exec) (hby : c.code = bs) {n : Fin 4} {x x' : Int32} (hd : decode bs pc = .ok (.istore_n n, 1)) (ex : x = x') {l' : Array Slot} (hl : storeLocals Ls n.val (.int x') = some l') (pc' : Nat) (hp : pc + 1 = pc') (k : Go p e below G T (mkF m pc' l' st)) : Go p e below G T (mkF m pc Ls (.int x :: st)) := by
  subst hp
  subst ex
  exact Go.by (fun t q => XS.istoreN X.here hx rfl (hb hby hd) rfl hl q) k
theorem own_lload (X : Stand p l e R s m args below meth c T locs cells slots) (hx : p.tables.exec = Jvm.exec) (hby : c.code = bs) {n : Nat} (v : Int64) (hd : decode bs pc = .ok (.lload n, 2)) (hl : Ls[n]? = some (.val (.long v))) (pc' : Nat) (hp : pc + 2 = pc') (k : Go p e below G T (mkF m pc' Ls (.long v :: st))) : Go p e below G T (mkF m pc Ls st) := by
  subst hp
  exact Go.by (fun t q => XS.lload X.here hx rfl (hb hby hd) hl q) k
theorem own_lloadN (X : Stand p l e R s m args below meth c T locs cells slots) (hx : p.tables.exec = Jvm.exec) (hby : c.code = bs) {n : Fin 4} (v : Int64) (hd : decode bs pc = .ok (.lload_n n, 1)) (hl : Ls[n.val]? = some (.val (.long v))) (pc' : Nat) (hp : pc + 1 = pc') (k : Go p e below G T (mkF m pc' Ls (.long v :: st))) : Go p e below G T (mkF m pc Ls st) := by
  subst hp
  exact Go.by (fun t q => XS.lloadN X.here hx rfl (hb hby hd) hl q) k
theorem own_lstore (X : Stand p l e R s m args below meth c T locs cells slots) (hx : p.tables.exec = Jvm.exec) (hby : c.code = bs) {n : Nat} {x x' : Int64} (hd : decode bs pc = .ok (.lstore n, 2)) (ex : x = x') {l' : Array Slot} (hl : storeLocals Ls n (.long x') = some l') (pc' : Nat) (hp : pc + 2 = pc') (k : Go p e below G T (mkF m pc' l' st)) : Go p e below G T (mkF m pc Ls (.long x :: st)) := by
  subst hp
  subst ex
  exact Go.by (fun t q => XS.lstore X.here hx rfl (hb hby hd) rfl hl q) k
theorem own_lstoreN (X : Stand p l e R s m args below meth c T locs cells slots) (hx : p.tables.exec = Jvm.exec) (hby : c.code = bs) {n : Fin 4} {x x' : Int64} (hd : decode bs pc = .ok (.lstore_n n, 1)) (ex : x = x') {l' : Array Slot} (hl : storeLocals Ls n.val (.long x') = some l') (pc' : Nat) (hp : pc + 1 = pc') (k : Go p e below G T (mkF m pc' l' st)) : Go p e below G T (mkF m pc Ls (.long x :: st)) := by
  subst hp
  subst ex
  exact Go.by (fun t q => XS.lstoreN X.here hx rfl (hb hby hd) rfl hl q) k
theorem own_aload (X : Stand p l e R s m args below meth c T locs cells slots) (hx : p.tables.exec = Jvm.exec) (hby : c.code = bs) {n : Nat} (v : Value) (hd : decode bs pc = .ok (.aload n, 2)) (hl : Ls[n]? = some (.val v)) (hv : v.isRef = true) (pc' : Nat) (hp : pc + 2 = pc') (k : Go p e below G T (mkF m pc' Ls (v :: st))) : Go p e below G T (mkF m pc Ls st) := by
  subst hp
  exact Go.by (fun t q => XS.aload X.here hx rfl (hb hby hd) hl hv q) k
theorem own_aloadN (X : Stand p l e R s m args below meth c T locs cells slots) (hx : p.tables.exec = Jvm.exec) (hby : c.code = bs) {n : Fin 4} (v : Value) (hd : decode bs pc = .ok (.aload_n n, 1)) (hl : Ls[n.val]? = some (.val v)) (hv : v.isRef = true) (pc' : Nat) (hp : pc + 1 = pc') (k : Go p e below G T (mkF m pc' Ls (v :: st))) : Go p e below G T (mkF m pc Ls st) := by
  subst hp
  exact Go.by (fun t q => XS.aloadN X.here hx rfl (hb hby hd) hl hv q) k
theorem own_astore (X : Stand p l e R s m args below meth c T locs cells slots) (hx : p.tables.exec = Jvm.exec) (hby : c.code = bs) {n : Nat} {x : Value} (hd : decode bs pc = .ok (.astore n, 2)) (hv : x.isRef = true) {l' : Array Slot} (hl : storeLocals Ls n x = some l') (pc' : Nat) (hp : pc + 2 = pc') (k : Go p e below G T (mkF m pc' l' st)) : Go p e below G T (mkF m pc Ls (x :: st)) := by
  subst hp
  exact Go.by (fun t q => XS.astore X.here hx rfl (hb hby hd) rfl hv hl q) k
theorem own_astoreN (X : Stand p l e R s m args below meth c T locs cells slots) (hx : p.tables.exec = Jvm.exec) (hby : c.code = bs) {n : Fin 4} {x : Value} (hd : decode bs pc = .ok (.astore_n n, 1)) (hv : x.isRef = true) {l' : Array Slot} (hl : storeLocals Ls n.val x = some l') (pc' : Nat) (hp : pc + 1 = pc') (k : Go p e below G T (mkF m pc' l' st)) : Go p e below G T (mkF m pc Ls (x :: st)) := by
  subst hp
  exact Go.by (fun t q => XS.astoreN X.here hx rfl (hb hby hd) rfl hv hl q) k
theorem own_iconst (X : Stand p l e R s m args below meth c T locs cells slots) (hx : p.tables.exec = Jvm.exec) (hby : c.code = bs) {i : Int} (v : Int32) (hd : decode bs pc = .ok (.iconst i, 1)) (hv : Int32.ofInt i = v) (pc' : Nat) (hp : pc + 1 = pc') (k : Go p e below G T (mkF m pc' Ls (.int v :: st))) : Go p e below G T (mkF m pc Ls st) := by
  subst hp
  subst hv
  exact Go.by (fun t q => XS.iconst X.here hx rfl (hb hby hd) q) k
theorem own_bipush (X : Stand p l e R s m args below meth c T locs cells slots) (hx : p.tables.exec = Jvm.exec) (hby : c.code = bs) {i : Int} (v : Int32) (hd : decode bs pc = .ok (.bipush i, 2)) (hv : (Int8.ofInt i).toInt32 = v) (pc' : Nat) (hp : pc + 2 = pc') (k : Go p e below G T (mkF m pc' Ls (.int v :: st))) : Go p e below G T (mkF m pc Ls st) := by
  subst hp
  subst hv
  exact Go.by (fun t q => XS.bipush X.here hx rfl (hb hby hd) q) k
theorem own_sipush (X : Stand p l e R s m args below meth c T locs cells slots) (hx : p.tables.exec = Jvm.exec) (hby : c.code = bs) {i : Int} (v : Int32) (hd : decode bs pc = .ok (.sipush i, 3)) (hv : (Int16.ofInt i).toInt32 = v) (pc' : Nat) (hp : pc + 3 = pc') (k : Go p e below G T (mkF m pc' Ls (.int v :: st))) : Go p e below G T (mkF m pc Ls st) := by
  subst hp
  subst hv
  exact Go.by (fun t q => XS.sipush X.here hx rfl (hb hby hd) q) k
theorem own_lconst (X : Stand p l e R s m args below meth c T locs cells slots) (hx : p.tables.exec = Jvm.exec) (hby : c.code = bs) {i : Fin 2} (v : Int64) (hd : decode bs pc = .ok (.lconst i, 1)) (hv : Int64.ofNat i = v) (pc' : Nat) (hp : pc + 1 = pc') (k : Go p e below G T (mkF m pc' Ls (.long v :: st))) : Go p e below G T (mkF m pc Ls st) := by
  subst hp
  subst hv
  exact Go.by (fun t q => XS.lconst X.here hx rfl (hb hby hd) q) k
theorem own_aconstNull (X : Stand p l e R s m args below meth c T locs cells slots) (hx : p.tables.exec = Jvm.exec) (hby : c.code = bs)  (hd : decode bs pc = .ok (.aconst_null, 1))  (pc' : Nat) (hp : pc + 1 = pc') (k : Go p e below G T (mkF m pc' Ls (.null :: st))) : Go p e below G T (mkF m pc Ls st) := by
  subst hp
  exact Go.by (fun t q => XS.aconstNull X.here hx rfl (hb hby hd) q) k
theorem own_iadd (X : Stand p l e R s m args below meth c T locs cells slots) (hx : p.tables.exec = Jvm.exec) (hby : c.code = bs) {x y : Int32} (hd : decode bs pc = .ok (.iadd, 1))  (pc' : Nat) (hp : pc + 1 = pc') (k : Go p e below G T (mkF m pc' Ls (.int (x + y) :: st))) : Go p e below G T (mkF m pc Ls (.int y :: .int x :: st)) := by
  subst hp
  exact Go.by (fun t q => XS.iadd X.here hx rfl (hb hby hd) rfl q) k
theorem own_isub (X : Stand p l e R s m args below meth c T locs cells slots) (hx : p.tables.exec = Jvm.exec) (hby : c.code = bs) {x y : Int32} (hd : decode bs pc = .ok (.isub, 1))  (pc' : Nat) (hp : pc + 1 = pc') (k : Go p e below G T (mkF m pc' Ls (.int (x - y) :: st))) : Go p e below G T (mkF m pc Ls (.int y :: .int x :: st)) := by
  subst hp
  exact Go.by (fun t q => XS.isub X.here hx rfl (hb hby hd) rfl q) k
theorem own_imul (X : Stand p l e R s m args below meth c T locs cells slots) (hx : p.tables.exec = Jvm.exec) (hby : c.code = bs) {x y : Int32} (hd : decode bs pc = .ok (.imul, 1))  (pc' : Nat) (hp : pc + 1 = pc') (k : Go p e below G T (mkF m pc' Ls (.int (x * y) :: st))) : Go p e below G T (mkF m pc Ls (.int y :: .int x :: st)) := by
  subst hp
  exact Go.by (fun t q => XS.imul X.here hx rfl (hb hby hd) rfl q) k
theorem own_iand (X : Stand p l e R s m args below meth c T locs cells slots) (hx : p.tables.exec = Jvm.exec) (hby : c.code = bs) {x y : Int32} (hd : decode bs pc = .ok (.iand, 1))  (pc' : Nat) (hp : pc + 1 = pc') (k : Go p e below G T (mkF m pc' Ls (.int (x &&& y) :: st))) : Go p e below G T (mkF m pc Ls (.int y :: .int x :: st)) := by
  subst hp
  exact Go.by (fun t q => XS.iand X.here hx rfl (hb hby hd) rfl q) k
theorem own_ior (X : Stand p l e R s m args below meth c T locs cells slots) (hx : p.tables.exec = Jvm.exec) (hby : c.code = bs) {x y : Int32} (hd : decode bs pc = .ok (.ior, 1))  (pc' : Nat) (hp : pc + 1 = pc') (k : Go p e below G T (mkF m pc' Ls (.int (x ||| y) :: st))) : Go p e below G T (mkF m pc Ls (.int y :: .int x :: st)) := by
  subst hp
  exact Go.by (fun t q => XS.ior X.here hx rfl (hb hby hd) rfl q) k
theorem own_ixor (X : Stand p l e R s m args below meth c T locs cells slots) (hx : p.tables.exec = Jvm.exec) (hby : c.code = bs) {x y : Int32} (hd : decode bs pc = .ok (.ixor, 1))  (pc' : Nat) (hp : pc + 1 = pc') (k : Go p e below G T (mkF m pc' Ls (.int (x ^^^ y) :: st))) : Go p e below G T (mkF m pc Ls (.int y :: .int x :: st)) := by
  subst hp
  exact Go.by (fun t q => XS.ixor X.here hx rfl (hb hby hd) rfl q) k
theorem own_ishl (X : Stand p l e R s m args below meth c T locs cells slots) (hx : p.tables.exec = Jvm.exec) (hby : c.code = bs) {x y : Int32} (hd : decode bs pc = .ok (.ishl, 1))  (pc' : Nat) (hp : pc + 1 = pc') (k : Go p e below G T (mkF m pc' Ls (.int (x <<< (y &&& 31)) :: st))) : Go p e below G T (mkF m pc Ls (.int y :: .int x :: st)) := by
  subst hp
  exact Go.by (fun t q => XS.ishl X.here hx rfl (hb hby hd) rfl q) k
theorem own_ishr (X : Stand p l e R s m args below meth c T locs cells slots) (hx : p.tables.exec = Jvm.exec) (hby : c.code = bs) {x y : Int32} (hd : decode bs pc = .ok (.ishr, 1))  (pc' : Nat) (hp : pc + 1 = pc') (k : Go p e below G T (mkF m pc' Ls (.int (x >>> (y &&& 31)) :: st))) : Go p e below G T (mkF m pc Ls (.int y :: .int x :: st)) := by
  subst hp
  exact Go.by (fun t q => XS.ishr X.here hx rfl (hb hby hd) rfl q) k
theorem own_iushr (X : Stand p l e R s m args below meth c T locs cells slots) (hx : p.tables.exec = Jvm.exec) (hby : c.code = bs) {x y : Int32} (hd : decode bs pc = .ok (.iushr, 1))  (pc' : Nat) (hp : pc + 1 = pc') (k : Go p e below G T (mkF m pc' Ls (.int ((x.toUInt32 >>> (y &&& 31).toUInt32).toInt32) :: st))) : Go p e below G T (mkF m pc Ls (.int y :: .int x :: st)) := by
  subst hp
  exact Go.by (fun t q => XS.iushr X.here hx rfl (hb hby hd) rfl q) k
theorem own_ladd (X : Stand p l e R s m args below meth c T locs cells slots) (hx : p.tables.exec = Jvm.exec) (hby : c.code = bs) {x y : Int64} (hd : decode bs pc = .ok (.ladd, 1))  (pc' : Nat) (hp : pc + 1 = pc') (k : Go p e below G T (mkF m pc' Ls (.long (x + y) :: st))) : Go p e below G T (mkF m pc Ls (.long y :: .long x :: st)) := by
  subst hp
  exact Go.by (fun t q => XS.ladd X.here hx rfl (hb hby hd) rfl q) k
theorem own_lsub (X : Stand p l e R s m args below meth c T locs cells slots) (hx : p.tables.exec = Jvm.exec) (hby : c.code = bs) {x y : Int64} (hd : decode bs pc = .ok (.lsub, 1))  (pc' : Nat) (hp : pc + 1 = pc') (k : Go p e below G T (mkF m pc' Ls (.long (x - y) :: st))) : Go p e below G T (mkF m pc Ls (.long y :: .long x :: st)) := by
  subst hp
  exact Go.by (fun t q => XS.lsub X.here hx rfl (hb hby hd) rfl q) k
theorem own_lmul (X : Stand p l e R s m args below meth c T locs cells slots) (hx : p.tables.exec = Jvm.exec) (hby : c.code = bs) {x y : Int64} (hd : decode bs pc = .ok (.lmul, 1))  (pc' : Nat) (hp : pc + 1 = pc') (k : Go p e below G T (mkF m pc' Ls (.long (x * y) :: st))) : Go p e below G T (mkF m pc Ls (.long y :: .long x :: st)) := by
  subst hp
  exact Go.by (fun t q => XS.lmul X.here hx rfl (hb hby hd) rfl q) k
theorem own_land (X : Stand p l e R s m args below meth c T locs cells slots) (hx : p.tables.exec = Jvm.exec) (hby : c.code = bs) {x y : Int64} (hd : decode bs pc = .ok (.land, 1))  (pc' : Nat) (hp : pc + 1 = pc') (k : Go p e below G T (mkF m pc' Ls (.long (x &&& y) :: st))) : Go p e below G T (mkF m pc Ls (.long y :: .long x :: st)) := by
  subst hp
  exact Go.by (fun t q => XS.land X.here hx rfl (hb hby hd) rfl q) k
theorem own_lor (X : Stand p l e R s m args below meth c T locs cells slots) (hx : p.tables.exec = Jvm.exec) (hby : c.code = bs) {x y : Int64} (hd : decode bs pc = .ok (.lor, 1))  (pc' : Nat) (hp : pc + 1 = pc') (k : Go p e below G T (mkF m pc' Ls (.long (x ||| y) :: st))) : Go p e below G T (mkF m pc Ls (.long y :: .long x :: st)) := by
  subst hp
  exact Go.by (fun t q => XS.lor X.here hx rfl (hb hby hd) rfl q) k
theorem own_lxor (X : Stand p l e R s m args below meth c T locs cells slots) (hx : p.tables.exec = Jvm.exec) (hby : c.code = bs) {x y : Int64} (hd : decode bs pc = .ok (.lxor, 1))  (pc' : Nat) (hp : pc + 1 = pc') (k : Go p e below G T (mkF m pc' Ls (.long (x ^^^ y) :: st))) : Go p e below G T (mkF m pc Ls (.long y :: .long x :: st)) := by
  subst hp
  exact Go.by (fun t q => XS.lxor X.here hx rfl (hb hby hd) rfl q) k
theorem own_lshl (X : Stand p l e R s m args below meth c T locs cells slots) (hx : p.tables.exec = Jvm.exec) (hby : c.code = bs) {x : Int64} {y : Int32} (hd : decode bs pc = .ok (.lshl, 1))  (pc' : Nat) (hp : pc + 1 = pc') (k : Go p e below G T (mkF m pc' Ls (.long (x <<< (y &&& 0x3f).toInt64) :: st))) : Go p e below G T (mkF m pc Ls (.int y :: .long x :: st)) := by
  subst hp
  exact Go.by (fun t q => XS.lshl X.here hx rfl (hb hby hd) rfl q) k
theorem own_lshr (X : Stand p l e R s m args below meth c T locs cells slots) (hx : p.tables.exec = Jvm.exec) (hby : c.code = bs) {x : Int64} {y : Int32} (hd : decode bs pc = .ok (.lshr, 1))  (pc' : Nat) (hp : pc + 1 = pc') (k : Go p e below G T (mkF m pc' Ls (.long (x >>> (y &&& 0x3f).toInt64) :: st))) : Go p e below G T (mkF m pc Ls (.int y :: .long x :: st)) := by
  subst hp
  exact Go.by (fun t q => XS.lshr X.here hx rfl (hb hby hd) rfl q) k
theorem own_lushr (X : Stand p l e R s m args below meth c T locs cells slots) (hx : p.tables.exec = Jvm.exec) (hby : c.code = bs) {x : Int64} {y : Int32} (hd : decode bs pc = .ok (.lushr, 1))  (pc' : Nat) (hp : pc + 1 = pc') (k : Go p e below G T (mkF m pc' Ls (.long ((x.toUInt64 >>> (y &&& 0x3f).toInt64.toUInt64).toInt64) :: st))) : Go p e below G T (mkF m pc Ls (.int y :: .long x :: st)) := by
  subst hp
  exact Go.by (fun t q => XS.lushr X.here hx rfl (hb hby hd) rfl q) k
theorem own_ineg (X : Stand p l e R s m args below meth c T locs cells slots) (hx : p.tables.exec = Jvm.exec) (hby : c.code = bs) {x : Int32} (hd : decode bs pc = .ok (.ineg, 1))  (pc' : Nat) (hp : pc + 1 = pc') (k : Go p e below G T (mkF m pc' Ls (.int (-x) :: st))) : Go p e below G T (mkF m pc Ls (.int x :: st)) := by
  subst hp
  exact Go.by (fun t q => XS.ineg X.here hx rfl (hb hby hd) rfl q) k
theorem own_lneg (X : Stand p l e R s m args below meth c T locs cells slots) (hx : p.tables.exec = Jvm.exec) (hby : c.code = bs) {x : Int64} (hd : decode bs pc = .ok (.lneg, 1))  (pc' : Nat) (hp : pc + 1 = pc') (k : Go p e below G T (mkF m pc' Ls (.long (-x) :: st))) : Go p e below G T (mkF m pc Ls (.long x :: st)) := by
  subst hp
  exact Go.by (fun t q => XS.lneg X.here hx rfl (hb hby hd) rfl q) k
theorem own_i2l (X : Stand p l e R s m args below meth c T locs cells slots) (hx : p.tables.exec = Jvm.exec) (hby : c.code = bs) {x : Int32} (hd : decode bs pc = .ok (.i2l, 1))  (pc' : Nat) (hp : pc + 1 = pc') (k : Go p e below G T (mkF m pc' Ls (.long (x.toInt64) :: st))) : Go p e below G T (mkF m pc Ls (.int x :: st)) := by
  subst hp
  exact Go.by (fun t q => XS.i2l X.here hx rfl (hb hby hd) rfl q) k
theorem own_l2i (X : Stand p l e R s m args below meth c T locs cells slots) (hx : p.tables.exec = Jvm.exec) (hby : c.code = bs) {x : Int64} (hd : decode bs pc = .ok (.l2i, 1))  (pc' : Nat) (hp : pc + 1 = pc') (k : Go p e below G T (mkF m pc' Ls (.int (x.toInt32) :: st))) : Go p e below G T (mkF m pc Ls (.long x :: st)) := by
  subst hp
  exact Go.by (fun t q => XS.l2i X.here hx rfl (hb hby hd) rfl q) k
theorem own_i2b (X : Stand p l e R s m args below meth c T locs cells slots) (hx : p.tables.exec = Jvm.exec) (hby : c.code = bs) {x : Int32} (hd : decode bs pc = .ok (.i2b, 1))  (pc' : Nat) (hp : pc + 1 = pc') (k : Go p e below G T (mkF m pc' Ls (.int (x.toInt8.toInt32) :: st))) : Go p e below G T (mkF m pc Ls (.int x :: st)) := by
  subst hp
  exact Go.by (fun t q => XS.i2b X.here hx rfl (hb hby hd) rfl q) k
theorem own_i2s (X : Stand p l e R s m args below meth c T locs cells slots) (hx : p.tables.exec = Jvm.exec) (hby : c.code = bs) {x : Int32} (hd : decode bs pc = .ok (.i2s, 1))  (pc' : Nat) (hp : pc + 1 = pc') (k : Go p e below G T (mkF m pc' Ls (.int (x.toInt16.toInt32) :: st))) : Go p e below G T (mkF m pc Ls (.int x :: st)) := by
  subst hp
  exact Go.by (fun t q => XS.i2s X.here hx rfl (hb hby hd) rfl q) k
theorem own_i2c (X : Stand p l e R s m args below meth c T locs cells slots) (hx : p.tables.exec = Jvm.exec) (hby : c.code = bs) {x : Int32} (hd : decode bs pc = .ok (.i2c, 1))  (pc' : Nat) (hp : pc + 1 = pc') (k : Go p e below G T (mkF m pc' Ls (.int (x.toUInt32.toUInt16.toUInt32.toInt32) :: st))) : Go p e below G T (mkF m pc Ls (.int x :: st)) := by
  subst hp
  exact Go.by (fun t q => XS.i2c X.here hx rfl (hb hby hd) rfl q) k
theorem own_idiv (X : Stand p l e R s m args below meth c T locs cells slots) (hx : p.tables.exec = Jvm.exec) (hby : c.code = bs) {x y : Int32} (hd : decode bs pc = .ok (.idiv, 1)) (hy : y ≠ 0) (pc' : Nat) (hp : pc + 1 = pc') (k : Go p e below G T (mkF m pc' Ls (.int (x / y) :: st))) : Go p e below G T (mkF m pc Ls (.int y :: .int x :: st)) := by
  subst hp
  exact Go.by (fun t q => XS.idiv X.here hx rfl (hb hby hd) rfl hy q) k
theorem own_ldiv (X : Stand p l e R s m args below meth c T locs cells slots) (hx : p.tables.exec = Jvm.exec) (hby : c.code = bs) {x y : Int64} (hd : decode bs pc = .ok (.ldiv, 1)) (hy : y ≠ 0) (pc' : Nat) (hp : pc + 1 = pc') (k : Go p e below G T (mkF m pc' Ls (.long (x / y) :: st))) : Go p e below G T (mkF m pc Ls (.long y :: .long x :: st)) := by
  subst hp
  exact Go.by (fun t q => XS.ldiv X.here hx rfl (hb hby hd) rfl hy q) k
theorem own_irem (X : Stand p l e R s m args below meth c T locs cells slots) (hx : p.tables.exec = Jvm.exec) (hby : c.code = bs) {x y : Int32} (hd : decode bs pc = .ok (.irem, 1)) (hy : y ≠ 0) (pc' : Nat) (hp : pc + 1 = pc') (k : Go p e below G T (mkF m pc' Ls (.int (x % y) :: st))) : Go p e below G T (mkF m pc Ls (.int y :: .int x :: st)) := by
  subst hp
  exact Go.by (fun t q => iremM X hx rfl (hb hby hd) rfl hy q) k
theorem own_lrem (X : Stand p l e R s m args below meth c T locs cells slots) (hx : p.tables.exec = Jvm.exec) (hby : c.code = bs) {x y : Int64} (hd : decode bs pc = .ok (.lrem, 1)) (hy : y ≠ 0) (pc' : Nat) (hp : pc + 1 = pc') (k : Go p e below G T (mkF m pc' Ls (.long (x % y) :: st))) : Go p e below G T (mkF m pc Ls (.long y :: .long x :: st)) := by
  subst hp
  rw [← lrem_mod] at k
  exact Go.by (fun t q => XS.lrem X.here hx rfl (hb hby hd) rfl hy q) k
theorem own_iinc (X : Stand p l e R s m args below meth c T locs cells slots) (hx : p.tables.exec = Jvm.exec) (hby : c.code = bs) {n : Nat} {cst : Int} {x x' : Int32} (hd : decode bs pc = .ok (.iinc n cst, 3)) (hl : Ls[n]? = some (.val (.int x))) (ex : x + Int32.ofInt cst = x') {l' : Array Slot} (hl' : storeLocals Ls n (.int x') = some l') (pc' : Nat) (hp : pc + 3 = pc') (k : Go p e below G T (mkF m pc' l' st)) : Go p e below G T (mkF m pc Ls st) := by
  subst hp
  subst ex
  exact Go.by (fun t q => XS.iinc X.here hx rfl (hb hby hd) hl hl' q) k
theorem own_dup (X : Stand p l e R s m args below meth c T locs cells slots) (hx : p.tables.exec = Jvm.exec) (hby : c.code = bs) {x : Value} (hd : decode bs pc = .ok (.dup, 1)) (hc : x.category = 1) (pc' : Nat) (hp : pc + 1 = pc') (k : Go p e below G T (mkF m pc' Ls (x :: x :: st))) : Go p e below G T (mkF m pc Ls (x :: st)) := by
  subst hp
  exact Go.by (fun t q => XS.dup X.here hx rfl (hb hby hd) rfl hc q) k
theorem own_pop (X : Stand p l e R s m args below meth c T locs cells slots) (hx : p.tables.exec = Jvm.exec) (hby : c.code = bs) {x : Value} (hd : decode bs pc = .ok (.pop, 1)) (hc : x.category = 1) (pc' : Nat) (hp : pc + 1 = pc') (k : Go p e below G T (mkF m pc' Ls st)) : Go p e below G T (mkF m pc Ls (x :: st)) := by
  subst hp
  exact Go.by (fun t q => XS.pop X.here hx rfl (hb hby hd) rfl hc q) k
theorem own_dupX1 (X : Stand p l e R s m args below meth c T locs cells slots) (hx : p.tables.exec = Jvm.exec) (hby : c.code = bs) {x y : Value} (hd : decode bs pc = .ok (.dup_x1, 1)) (hc : x.category = 1) (hc2 : y.category = 1) (pc' : Nat) (hp : pc + 1 = pc') (k : Go p e below G T (mkF m pc' Ls (x :: y :: x :: st))) : Go p e below G T (mkF m pc Ls (x :: y :: st)) := by
  subst hp
  exact Go.by (fun t q => XS.dupX1 X.here hx rfl (hb hby hd) rfl hc hc2 q) k
theorem own_dup2 (X : Stand p l e R s m args below meth c T locs cells slots) (hx : p.tables.exec = Jvm.exec) (hby : c.code = bs) {x y : Value} (hd : decode bs pc = .ok (.dup2, 1)) (hc : x.category = 1) (hc2 : y.category = 1) (pc' : Nat) (hp : pc + 1 = pc') (k : Go p e below G T (mkF m pc' Ls (x :: y :: x :: y :: st))) : Go p e below G T (mkF m pc Ls (x :: y :: st)) := by
  subst hp
  exact Go.by (fun t q => XT.dup2 X.here hx rfl (hb hby hd) rfl hc hc2 q) k
theorem own_dup2L (X : Stand p l e R s m args below meth c T locs cells slots) (hx : p.tables.exec = Jvm.exec) (hby : c.code = bs) {x : Int64} (hd : decode bs pc = .ok (.dup2, 1))  (pc' : Nat) (hp : pc + 1 = pc') (k : Go p e below G T (mkF m pc' Ls (.long x :: .long x :: st))) : Go p e below G T (mkF m pc Ls (.long x :: st)) := by
  subst hp
  exact Go.by (fun t q => XT.dup2L X.here hx rfl (hb hby hd) rfl q) k
theorem own_goto (X : Stand p l e R s m args below meth c T locs cells slots) (hx : p.tables.exec = Jvm.exec) (hby : c.code = bs) {o : Int} (hd : decode bs pc = .ok (.goto o, 3)) (pc' : Nat) (hp : 0 ≤ (pc : Int) + o ∧ ((pc : Int) + o).toNat = pc') (k : Go p e below G T (mkF m pc' Ls st)) : Go p e below G T (mkF m pc Ls st) :=
  Go.by (fun t q => XS.goto X.here hx rfl rfl (hb hby hd) hp.1 hp.2 q) k
theorem own_top {v v' : Value} (q : v = v') (k : Go p e below G T (mkF m pc Ls (v' :: st))) : Go p e below G T (mkF m pc Ls (v :: st)) := q ▸ k
theorem own_icmp_eq (X : Stand p l e R s m args below meth c T locs cells slots) (hx : p.tables.exec = Jvm.exec) (hby : c.code = bs) {o : Int} {x y : Int32} (hd : decode bs pc = .ok (.if_icmp .eq o, 3)) (pT pF : Nat) (hp : 0 ≤ (pc : Int) + o ∧ ((pc : Int) + o).toNat = pT) (hpF : pc + 3 = pF) (kT : x = y → Go p e below G T (mkF m pT Ls st)) (kF : ¬ x = y → Go p e below G T (mkF m pF Ls st)) : Go p e below G T (mkF m pc Ls (.int y :: .int x :: st)) := by
  subst hpF
  by_cases q0 : x = y
  · have q := q0
    exact Go.by (fun t r => XS.icmpYes X.here hx rfl rfl (hb hby hd) rfl (teq q).1 hp.1 hp.2 r) (kT q0)
  · have q : ¬ x = y := by first | exact q0 | exact Classical.not_not.mp q0
    exact Go.by (fun t r => XS.icmpNo X.here hx rfl (hb hby hd) rfl (feq q).1 r) (kF q)
theorem own_if_eq (X : Stand p l e R s m args below meth c T locs cells slots) (hx : p.tables.exec = Jvm.exec) (hby : c.code = bs) {o : Int} {x : Int32} (hd : decode bs pc = .ok (.ifCond .eq o, 3)) (pT pF : Nat) (hp : 0 ≤ (pc : Int) + o ∧ ((pc : Int) + o).toNat = pT) (hpF : pc + 3 = pF) (kT : x = (0 : Int32) → Go p e below G T (mkF m pT Ls st)) (kF : ¬ x = (0 : Int32) → Go p e below G T (mkF m pF Ls st)) : Go p e below G T (mkF m pc Ls (.int x :: st)) := by
  subst hpF
  by_cases q0 : x = (0 : Int32)
  · have q := q0
    exact Go.by (fun t r => XS.ifYes X.here hx rfl rfl (hb hby hd) rfl ((if0 _ _).trans (teq q).1) hp.1 hp.2 r) (kT q0)
  · have q : ¬ x = (0 : Int32) := by first | exact q0 | exact Classical.not_not.mp q0
    exact Go.by (fun t r => XS.ifNo X.here hx rfl (hb hby hd) rfl ((if0 _ _).trans (feq q).1) r) (kF q)
theorem own_lcmp_eq (X : Stand p l e R s m args below meth c T locs cells slots) (hx : p.tables.exec = Jvm.exec) (hby : c.code = bs) {o : Int} {x y : Int64} (hd : decode bs pc = .ok (.lcmp, 1)) (hd2 : decode bs (pc + 1) = .ok (.ifCond .eq o, 3)) (pT pF : Nat) (hp : 0 ≤ ((pc + 1 : Nat) : Int) + o ∧ (((pc + 1 : Nat) : Int) + o).toNat = pT) (hpF : pc + 4 = pF) (kT : x = y → Go p e below G T (mkF m pT Ls st)) (kF : ¬ x = y → Go p e below G T (mkF m pF Ls st)) : Go p e below G T (mkF m pc Ls (.long y :: .long x :: st)) := by
  refine Go.by (fun t r => XS.lcmp X.here hx rfl (hb hby hd) rfl r) (g' := mkF m (pc + 1) Ls (.int (lcmpW x y) :: st)) ?_
  refine own_if_eq X hx hby hd2 pT pF hp (by omega) (fun q => kT ?_) (fun q => kF ?_)
  · exact (lw_eq x y).mp q
  · exact fun r => q ((lw_eq x y).mpr r)
theorem own_icmp_ne (X : Stand p l e R s m args below meth c T locs cells slots) (hx : p.tables.exec = Jvm.exec) (hby : c.code = bs) {o : Int} {x y : Int32} (hd : decode bs pc = .ok (.if_icmp .ne o, 3)) (pT pF : Nat) (hp : 0 ≤ (pc : Int) + o ∧ ((pc : Int) + o).toNat = pT) (hpF : pc + 3 = pF) (kT : ¬ x = y → Go p e below G T (mkF m pT Ls st)) (kF : x = y → Go p e below G T (mkF m pF Ls st)) : Go p e below G T (mkF m pc Ls (.int y :: .int x :: st)) := by
  subst hpF
  by_cases q0 : ¬ x = y
  · have q := q0
    exact Go.by (fun t r => XS.icmpYes X.here hx rfl rfl (hb hby hd) rfl (feq q).2 hp.1 hp.2 r) (kT q0)
  · have q : x = y := by first | exact q0 | exact Classical.not_not.mp q0
    exact Go.by (fun t r => XS.icmpNo X.here hx rfl (hb hby hd) rfl (teq q).2 r) (kF q)
theorem own_if_ne (X : Stand p l e R s m args below meth c T locs cells slots) (hx : p.tables.exec = Jvm.exec) (hby : c.code = bs) {o : Int} {x : Int32} (hd : decode bs pc = .ok (.ifCond .ne o, 3)) (pT pF : Nat) (hp : 0 ≤ (pc : Int) + o ∧ ((pc : Int) + o).toNat = pT) (hpF : pc + 3 = pF) (kT : ¬ x = (0 : Int32) → Go p e below G T (mkF m pT Ls st)) (kF : x = (0 : Int32) → Go p e below G T (mkF m pF Ls st)) : Go p e below G T (mkF m pc Ls (.int x :: st)) := by
  subst hpF
  by_cases q0 : ¬ x = (0 : Int32)
  · have q := q0
    exact Go.by (fun t r => XS.ifYes X.here hx rfl rfl (hb hby hd) rfl ((if0 _ _).trans (feq q).2) hp.1 hp.2 r) (kT q0)
  · have q : x = (0 : Int32) := by first | exact q0 | exact Classical.not_not.mp q0
    exact Go.by (fun t r => XS.ifNo X.here hx rfl (hb hby hd) rfl ((if0 _ _).trans (teq q).2) r) (kF q)
theorem own_lcmp_ne (X : Stand p l e R s m args below meth c T locs cells slots) (hx : p.tables.exec = Jvm.exec) (hby : c.code = bs) {o : Int} {x y : Int64} (hd : decode bs pc = .ok (.lcmp, 1)) (hd2 : decode bs (pc + 1) = .ok (.ifCond .ne o, 3)) (pT pF : Nat) (hp : 0 ≤ ((pc + 1 : Nat) : Int) + o ∧ (((pc + 1 : Nat) : Int) + o).toNat = pT) (hpF : pc + 4 = pF) (kT : ¬ x = y → Go p e below G T (mkF m pT Ls st)) (kF : x = y → Go p e below G T (mkF m pF Ls st)) : Go p e below G T (mkF m pc Ls (.long y :: .long x :: st)) := by
  refine Go.by (fun t r => XS.lcmp X.here hx rfl (hb hby hd) rfl r) (g' := mkF m (pc + 1) Ls (.int (lcmpW x y) :: st)) ?_
  refine own_if_ne X hx hby hd2 pT pF hp (by omega) (fun q => kT ?_) (fun q => kF ?_)
  · exact fun r => q ((lw_eq x y).mpr r)
  · exact (lw_eq x y).mp q
theorem own_icmp_lt (X : Stand p l e R s m args below meth c T locs cells slots) (hx : p.tables.exec = Jvm.exec) (hby : c.code = bs) {o : Int} {x y : Int32} (hd : decode bs pc = .ok (.if_icmp .lt o, 3)) (pT pF : Nat) (hp : 0 ≤ (pc : Int) + o ∧ ((pc : Int) + o).toNat = pT) (hpF : pc + 3 = pF) (kT : x < y → Go p e below G T (mkF m pT Ls st)) (kF : ¬ x < y → Go p e below G T (mkF m pF Ls st)) : Go p e below G T (mkF m pc Ls (.int y :: .int x :: st)) := by
  subst hpF
  by_cases q0 : x < y
  · have q := q0
    exact Go.by (fun t r => XS.icmpYes X.here hx rfl rfl (hb hby hd) rfl (tlt q).1 hp.1 hp.2 r) (kT q0)
  · have q : ¬ x < y := by first | exact q0 | exact Classical.not_not.mp q0
    exact Go.by (fun t r => XS.icmpNo X.here hx rfl (hb hby hd) rfl (flt q).1 r) (kF q)
theorem own_if_lt (X : Stand p l e R s m args below meth c T locs cells slots) (hx : p.tables.exec = Jvm.exec) (hby : c.code = bs) {o : Int} {x : Int32} (hd : decode bs pc = .ok (.ifCond .lt o, 3)) (pT pF : Nat) (hp : 0 ≤ (pc : Int) + o ∧ ((pc : Int) + o).toNat = pT) (hpF : pc + 3 = pF) (kT : x < (0 : Int32) → Go p e below G T (mkF m pT Ls st)) (kF : ¬ x < (0 : Int32) → Go p e below G T (mkF m pF Ls st)) : Go p e below G T (mkF m pc Ls (.int x :: st)) := by
  subst hpF
  by_cases q0 : x < (0 : Int32)
  · have q := q0
    exact Go.by (fun t r => XS.ifYes X.here hx rfl rfl (hb hby hd) rfl ((if0 _ _).trans (tlt q).1) hp.1 hp.2 r) (kT q0)
  · have q : ¬ x < (0 : Int32) := by first | exact q0 | exact Classical.not_not.mp q0
    exact Go.by (fun t r => XS.ifNo X.here hx rfl (hb hby hd) rfl ((if0 _ _).trans (flt q).1) r) (kF q)
theorem own_lcmp_lt (X : Stand p l e R s m args below meth c T locs cells slots) (hx : p.tables.exec = Jvm.exec) (hby : c.code = bs) {o : Int} {x y : Int64} (hd : decode bs pc = .ok (.lcmp, 1)) (hd2 : decode bs (pc + 1) = .ok (.ifCond .lt o, 3)) (pT pF : Nat) (hp : 0 ≤ ((pc + 1 : Nat) : Int) + o ∧ (((pc + 1 : Nat) : Int) + o).toNat = pT) (hpF : pc + 4 = pF) (kT : x < y → Go p e below G T (mkF m pT Ls st)) (kF : ¬ x < y → Go p e below G T (mkF m pF Ls st)) : Go p e below G T (mkF m pc Ls (.long y :: .long x :: st)) := by
  refine Go.by (fun t r => XS.lcmp X.here hx rfl (hb hby hd) rfl r) (g' := mkF m (pc + 1) Ls (.int (lcmpW x y) :: st)) ?_
  refine own_if_lt X hx hby hd2 pT pF hp (by omega) (fun q => kT ?_) (fun q => kF ?_)
  · exact (lw_lt x y).mp q
  · exact fun r => q ((lw_lt x y).mpr r)
theorem own_icmp_ge (X : Stand p l e R s m args below meth c T locs cells slots) (hx : p.tables.exec = Jvm.exec) (hby : c.code = bs) {o : Int} {x y : Int32} (hd : decode bs pc = .ok (.if_icmp .ge o, 3)) (pT pF : Nat) (hp : 0 ≤ (pc : Int) + o ∧ ((pc : Int) + o).toNat = pT) (hpF : pc + 3 = pF) (kT : ¬ x < y → Go p e below G T (mkF m pT Ls st)) (kF : x < y → Go p e below G T (mkF m pF Ls st)) : Go p e below G T (mkF m pc Ls (.int y :: .int x :: st)) := by
  subst hpF
  by_cases q0 : ¬ x < y
  · have q := q0
    exact Go.by (fun t r => XS.icmpYes X.here hx rfl rfl (hb hby hd) rfl (flt q).2.1 hp.1 hp.2 r) (kT q0)
  · have q : x < y := by first | exact q0 | exact Classical.not_not.mp q0
    exact Go.by (fun t r => XS.icmpNo X.here hx rfl (hb hby hd) rfl (tlt q).2.1 r) (kF q)
theorem own_if_ge (X : Stand p l e R s m args below meth c T locs cells slots) (hx : p.tables.exec = Jvm.exec) (hby : c.code = bs) {o : Int} {x : Int32} (hd : decode bs pc = .ok (.ifCond .ge o, 3)) (pT pF : Nat) (hp : 0 ≤ (pc : Int) + o ∧ ((pc : Int) + o).toNat = pT) (hpF : pc + 3 = pF) (kT : ¬ x < (0 : Int32) → Go p e below G T (mkF m pT Ls st)) (kF : x < (0 : Int32) → Go p e below G T (mkF m pF Ls st)) : Go p e below G T (mkF m pc Ls (.int x :: st)) := by
  subst hpF
  by_cases q0 : ¬ x < (0 : Int32)
  · have q := q0
    exact Go.by (fun t r => XS.ifYes X.here hx rfl rfl (hb hby hd) rfl ((if0 _ _).trans (flt q).2.1) hp.1 hp.2 r) (kT q0)
  · have q : x < (0 : Int32) := by first | exact q0 | exact Classical.not_not.mp q0
    exact Go.by (fun t r => XS.ifNo X.here hx rfl (hb hby hd) rfl ((if0 _ _).trans (tlt q).2.1) r) (kF q)
theorem own_lcmp_ge (X : Stand p l e R s m args below meth c T locs cells slots) (hx : p.tables.exec = Jvm.exec) (hby : c.code = bs) {o : Int} {x y : Int64} (hd : decode bs pc = .ok (.lcmp, 1)) (hd2 : decode bs (pc + 1) = .ok (.ifCond .ge o, 3)) (pT pF : Nat) (hp : 0 ≤ ((pc + 1 : Nat) : Int) + o ∧ (((pc + 1 : Nat) : Int) + o).toNat = pT) (hpF : pc + 4 = pF) (kT : ¬ x < y → Go p e below G T (mkF m pT Ls st)) (kF : x < y → Go p e below G T (mkF m pF Ls st)) : Go p e below G T (mkF m pc Ls (.long y :: .long x :: st)) := by
  refine Go.by (fun t r => XS.lcmp X.here hx rfl (hb hby hd) rfl r) (g' := mkF m (pc + 1) Ls (.int (lcmpW x y) :: st)) ?_
  refine own_if_ge X hx hby hd2 pT pF hp (by omega) (fun q => kT ?_) (fun q => kF ?_)
  · exact fun r => q ((lw_lt x y).mpr r)
  · exact (lw_lt x y).mp q
theorem own_icmp_gt (X : Stand p l e R s m args below meth c T locs cells slots) (hx : p.tables.exec = Jvm.exec) (hby : c.code = bs) {o : Int} {x y : Int32} (hd : decode bs pc = .ok (.if_icmp .gt o, 3)) (pT pF : Nat) (hp : 0 ≤ (pc : Int) + o ∧ ((pc : Int) + o).toNat = pT) (hpF : pc + 3 = pF) (kT : y < x → Go p e below G T (mkF m pT Ls st)) (kF : ¬ y < x → Go p e below G T (mkF m pF Ls st)) : Go p e below G T (mkF m pc Ls (.int y :: .int x :: st)) := by
  subst hpF
  by_cases q0 : y < x
  · have q := q0
    exact Go.by (fun t r => XS.icmpYes X.here hx rfl rfl (hb hby hd) rfl (tlt q).2.2.1 hp.1 hp.2 r) (kT q0)
  · have q : ¬ y < x := by first | exact q0 | exact Classical.not_not.mp q0
    exact Go.by (fun t r => XS.icmpNo X.here hx rfl (hb hby hd) rfl (flt q).2.2.1 r) (kF q)
theorem own_if_gt (X : Stand p l e R s m args below meth c T locs cells slots) (hx : p.tables.exec = Jvm.exec) (hby : c.code = bs) {o : Int} {x : Int32} (hd : decode bs pc = .ok (.ifCond .gt o, 3)) (pT pF : Nat) (hp : 0 ≤ (pc : Int) + o ∧ ((pc : Int) + o).toNat = pT) (hpF : pc + 3 = pF) (kT : (0 : Int32) < x → Go p e below G T (mkF m pT Ls st)) (kF : ¬ (0 : Int32) < x → Go p e below G T (mkF m pF Ls st)) : Go p e below G T (mkF m pc Ls (.int x :: st)) := by
  subst hpF
  by_cases q0 : (0 : Int32) < x
  · have q := q0
    exact Go.by (fun t r => XS.ifYes X.here hx rfl rfl (hb hby hd) rfl ((if0 _ _).trans (tlt q).2.2.1) hp.1 hp.2 r) (kT q0)
  · have q : ¬ (0 : Int32) < x := by first | exact q0 | exact Classical.not_not.mp q0
    exact Go.by (fun t r => XS.ifNo X.here hx rfl (hb hby hd) rfl ((if0 _ _).trans (flt q).2.2.1) r) (kF q)
theorem own_lcmp_gt (X : Stand p l e R s m args below meth c T locs cells slots) (hx : p.tables.exec = Jvm.exec) (hby : c.code = bs) {o : Int} {x y : Int64} (hd : decode bs pc = .ok (.lcmp, 1)) (hd2 : decode bs (pc + 1) = .ok (.ifCond .gt o, 3)) (pT pF : Nat) (hp : 0 ≤ ((pc + 1 : Nat) : Int) + o ∧ (((pc + 1 : Nat) : Int) + o).toNat = pT) (hpF : pc + 4 = pF) (kT : y < x → Go p e below G T (mkF m pT Ls st)) (kF : ¬ y < x → Go p e below G T (mkF m pF Ls st)) : Go p e below G T (mkF m pc Ls (.long y :: .long x :: st)) := by
  refine Go.by (fun t r => XS.lcmp X.here hx rfl (hb hby hd) rfl r) (g' := mkF m (pc + 1) Ls (.int (lcmpW x y) :: st)) ?_
  refine own_if_gt X hx hby hd2 pT pF hp (by omega) (fun q => kT ?_) (fun q => kF ?_)
  · exact (lw_gt x y).mp q
  · exact fun r => q ((lw_gt x y).mpr r)
theorem own_icmp_le (X : Stand p l e R s m args below meth c T locs cells slots) (hx : p.tables.exec = Jvm.exec) (hby : c.code = bs) {o : Int} {x y : Int32} (hd : decode bs pc = .ok (.if_icmp .le o, 3)) (pT pF : Nat) (hp : 0 ≤ (pc : Int) + o ∧ ((pc : Int) + o).toNat = pT) (hpF : pc + 3 = pF) (kT : ¬ y < x → Go p e below G T (mkF m pT Ls st)) (kF : y < x → Go p e below G T (mkF m pF Ls st)) : Go p e below G T (mkF m pc Ls (.int y :: .int x :: st)) := by
  subst hpF
  by_cases q0 : ¬ y < x
  · have q := q0
    exact Go.by (fun t r => XS.icmpYes X.here hx rfl rfl (hb hby hd) rfl (flt q).2.2.2 hp.1 hp.2 r) (kT q0)
  · have q : y < x := by first | exact q0 | exact Classical.not_not.mp q0
    exact Go.by (fun t r => XS.icmpNo X.here hx rfl (hb hby hd) rfl (tlt q).2.2.2 r) (kF q)
theorem own_if_le (X : Stand p l e R s m args below meth c T locs cells slots) (hx : p.tables.exec = Jvm.exec) (hby : c.code = bs) {o : Int} {x : Int32} (hd : decode bs pc = .ok (.ifCond .le o, 3)) (pT pF : Nat) (hp : 0 ≤ (pc : Int) + o ∧ ((pc : Int) + o).toNat = pT) (hpF : pc + 3 = pF) (kT : ¬ (0 : Int32) < x → Go p e below G T (mkF m pT Ls st)) (kF : (0 : Int32) < x → Go p e below G T (mkF m pF Ls st)) : Go p e below G T (mkF m pc Ls (.int x :: st)) := by
  subst hpF
  by_cases q0 : ¬ (0 : Int32) < x
  · have q := q0
    exact Go.by (fun t r => XS.ifYes X.here hx rfl rfl (hb hby hd) rfl ((if0 _ _).trans (flt q).2.2.2) hp.1 hp.2 r) (kT q0)
  · have q : (0 : Int32) < x := by first | exact q0 | exact Classical.not_not.mp q0
    exact Go.by (fun t r => XS.ifNo X.here hx rfl (hb hby hd) rfl ((if0 _ _).trans (tlt q).2.2.2) r) (kF q)
theorem own_lcmp_le (X : Stand p l e R s m args below meth c T locs cells slots) (hx : p.tables.exec = Jvm.exec) (hby : c.code = bs) {o : Int} {x y : Int64} (hd : decode bs pc = .ok (.lcmp, 1)) (hd2 : decode bs (pc + 1) = .ok (.ifCond .le o, 3)) (pT pF : Nat) (hp : 0 ≤ ((pc + 1 : Nat) : Int) + o ∧ (((pc + 1 : Nat) : Int) + o).toNat = pT) (hpF : pc + 4 = pF) (kT : ¬ y < x → Go p e below G T (mkF m pT Ls st)) (kF : y < x → Go p e below G T (mkF m pF Ls st)) : Go p e below G T (mkF m pc Ls (.long y :: .long x :: st)) := by
  refine Go.by (fun t r => XS.lcmp X.here hx rfl (hb hby hd) rfl r) (g' := mkF m (pc + 1) Ls (.int (lcmpW x y) :: st)) ?_
  refine own_if_le X hx hby hd2 pT pF hp (by omega) (fun q => kT ?_) (fun q => kF ?_)
  · exact fun r => q ((lw_gt x y).mpr r)
  · exact (lw_gt x y).mp q
theorem own_ifnullY (X : Stand p l e R s m args below meth c T locs cells slots) (hx : p.tables.exec = Jvm.exec) (hby : c.code = bs) {o : Int}  (hd : decode bs pc = .ok (.ifnull o, 3)) (pc' : Nat) (hp : 0 ≤ (pc : Int) + o ∧ ((pc : Int) + o).toNat = pc') (k : Go p e below G T (mkF m pc' Ls st)) : Go p e below G T (mkF m pc Ls (.null :: st)) :=
  Go.by (fun t q => XS.ifnullYes X.here hx rfl rfl (hb hby hd) rfl hp.1 hp.2 q) k
theorem own_ifnullN (X : Stand p l e R s m args below meth c T locs cells slots) (hx : p.tables.exec = Jvm.exec) (hby : c.code = bs) {o : Int} {b : Addr} (hd : decode bs pc = .ok (.ifnull o, 3)) (pc' : Nat) (hp : pc + 3 = pc') (k : Go p e below G T (mkF m pc' Ls st)) : Go p e below G T (mkF m pc Ls (.ref b :: st)) := by
  subst hp
  exact Go.by (fun t q => XS.ifnullNo X.here hx rfl (hb hby hd) rfl q) k
theorem own_ifnonnullY (X : Stand p l e R s m args below meth c T locs cells slots) (hx : p.tables.exec = Jvm.exec) (hby : c.code = bs) {o : Int} {b : Addr} (hd : decode bs pc = .ok (.ifnonnull o, 3)) (pc' : Nat) (hp : 0 ≤ (pc : Int) + o ∧ ((pc : Int) + o).toNat = pc') (k : Go p e below G T (mkF m pc' Ls st)) : Go p e below G T (mkF m pc Ls (.ref b :: st)) :=
  Go.by (fun t q => XS.ifnonnullYes X.here hx rfl rfl (hb hby hd) rfl hp.1 hp.2 q) k
theorem own_ifnonnullN (X : Stand p l e R s m args below meth c T locs cells slots) (hx : p.tables.exec = Jvm.exec) (hby : c.code = bs) {o : Int}  (hd : decode bs pc = .ok (.ifnonnull o, 3)) (pc' : Nat) (hp : pc + 3 = pc') (k : Go p e below G T (mkF m pc' Ls st)) : Go p e below G T (mkF m pc Ls (.null :: st)) := by
  subst hp
  exact Go.by (fun t q => XS.ifnonnullNo X.here hx rfl (hb hby hd) rfl q) k
theorem own_ldc (X : Stand p l e R s m args below meth c T locs cells slots) (hx : p.tables.exec = Jvm.exec) (hby : c.code = bs) (hZ : Z.Warmed39 s.vm) {own : String} {idx : Nat} (v : Int32) (hown : s.vm.findClass own = some m.cls) (w : (Jvm.Cond.constant own idx v).before a0 Z = true) (hd : decode bs pc = .ok (.ldc idx, 2)) (pc' : Nat) (hp : pc + 2 = pc') (k : Go p e below G T (mkF m pc' Ls (.int v :: st))) : Go p e below G T (mkF m pc Ls st) := by
  subst hp
  exact Go.by (fun t q => X.ldcInt hx hown (mvT hZ w) (g := mkF m pc Ls st) rfl (hb hby hd) t q) k
theorem own_ldc2 (X : Stand p l e R s m args below meth c T locs cells slots) (hx : p.tables.exec = Jvm.exec) (hby : c.code = bs) (hZ : Z.Warmed39 s.vm) {own : String} {idx : Nat} (v : Int64) (hown : s.vm.findClass own = some m.cls) (w : (Jvm.Cond.constantLong own idx v).before a0 Z = true) (hd : decode bs pc = .ok (.ldc2_w idx, 3)) (pc' : Nat) (hp : pc + 3 = pc') (k : Go p e below G T (mkF m pc' Ls (.long v :: st))) : Go p e below G T (mkF m pc Ls st) := by
  subst hp
  exact Go.by (fun t q => X.ldc2Long hx hown (mvT hZ w) (g := mkF m pc Ls st) rfl (hb hby hd) t q) k
theorem own_callS (X : Stand p l e R s m args below meth c T locs cells slots) (hx : p.tables.exec = Jvm.exec) (hby : c.code = bs) (hZ : Z.Warmed39 s.vm) {own : String} {idx : Nat} {y : MethodName} {yb : ByteArray} {yml : Nat} {yrt : Option FieldType} {rm : Room} {as : Array Value} {Qc : Option Value → Heap → List Loc → Prop} (argsL : List Value) (has : argsL.toArray = as) (hown : s.vm.findClass own = some m.cls) (w1 : (Jvm.Cond.methodLink own idx y).before a0 Z = true) (w2 : (Jvm.Cond.static y).before a0 Z = true) (w3 : (Jvm.Cond.initialized y.cls).before a0 Z = true) (w4 : (Jvm.Cond.code y yb yml yrt).before a0 Z = true) (hy : y.cls ≠ "java/lang/invoke/MethodHandle" ∧ y.cls ≠ "java/lang/invoke/VarHandle") (hd : decode bs pc = .ok (.invokestatic idx, 3)) (hM : Met1 l Z y yb yml yrt rm as h Qc) (eT : T.heap = h) {ps : List FieldType} {pr : Option FieldType} (hpd : parseMethodDescriptor y.desc = some ⟨ps, pr⟩) (hlen : argsL.length = ps.length) (hml : Ls.size = c.maxLocals) (hf : rm.frames + 1 ≤ R.frames) (W : Nat) (hW : (st.map fun v => v.category).sum = W) (hl : W + (yml + 11) + rm.locals ≤ R.locals) (hcl : cells + rm.cells ≤ R.cells) (hsl : slots + rm.slots ≤ R.slots) (pc' : Nat) (hp : pc + 3 = pc') (k : ∀ (T' : State) (L : List Loc) (v : Option Value), Stand p l e R s m args below meth c T' (locs ++ L) (cells + rm.cells) (slots + rm.slots) → Qc v T'.heap L → Go p e below G T' (mkF m pc' Ls (v.toList ++ st))) : Go p e below G T (mkF m pc Ls (argsL.reverse ++ st)) := by
  subst has
  subst hp
  obtain ⟨v, vm₁, ⟨T1, L1, k1, n1⟩, -, X1, ⟨Lc, hQ, l1, y1, z1⟩, st1⟩ := Jvm.LawKit.callS X hx (y := y) hown (mvT hZ w1) (mvT hZ w2) (mvT hZ w3) (mvT hZ w4) hy (backOf (W := W) (hM []) hZ w4 w3 hf hl) (g := mkF m pc Ls (argsL.reverse ++ st)) rfl hml (argsL := argsL) (rest := st) (lenOf hpd hlen) rfl (by show 2 * 0 + _ ≤ _; omega) (hb hby hd) (fun _ _ => ⟨rfl, eT, hcl, hsl⟩)
  dsimp only [Pt.U, Pt.locs, Pt.cells, Pt.slots] at X1 l1 y1 z1 st1 hQ
  subst l1 y1 z1
  exact Go.by (fun t q => st1 t q) (k T1 Lc v X1 hQ)
theorem own_callC (X : Stand p l e R s m args below meth c T locs cells slots) (hx : p.tables.exec = Jvm.exec) (hby : c.code = bs) (hZ : Z.Warmed39 s.vm) {own : String} {idx : Nat} {y : MethodName} {yb : ByteArray} {yml : Nat} {rm : Room} {as : Array Value} {Qc : Option Value → Heap → List Loc → Prop} {a : Addr} (argsL : List Value) (has : (.ref a :: argsL).toArray = as) (hy1 : y.name = "<init>") (hown : s.vm.findClass own = some m.cls) (w1 : (Jvm.Cond.methodLink own idx y).before a0 Z = true) (w2 : (Jvm.Cond.instanceMethod y).before a0 Z = true) (w3 : (Jvm.Cond.initialized y.cls).before a0 Z = true) (w4 : (Jvm.Cond.code y yb yml none).before a0 Z = true) (hy : y.cls ≠ "java/lang/invoke/MethodHandle" ∧ y.cls ≠ "java/lang/invoke/VarHandle") (hd : decode bs pc = .ok (.invokespecial idx, 3)) (hM : Met1 l Z y yb yml none rm as h Qc) (eT : T.heap = h) {ps : List FieldType} {pr : Option FieldType} (hpd : parseMethodDescriptor y.desc = some ⟨ps, pr⟩) (hlen : argsL.length = ps.length) (hml : Ls.size = c.maxLocals) (hf : rm.frames + 1 ≤ R.frames) (W : Nat) (hW : (st.map fun v => v.category).sum = W) (hl : W + (yml + 11) + rm.locals ≤ R.locals) (hcl : cells + rm.cells ≤ R.cells) (hsl : slots + rm.slots ≤ R.slots) (pc' : Nat) (hp : pc + 3 = pc') (k : ∀ (T' : State) (L : List Loc) (v : Option Value), Stand p l e R s m args below meth c T' (locs ++ L) (cells + rm.cells) (slots + rm.slots) → Qc v T'.heap L → Go p e below G T' (mkF m pc' Ls (v.toList ++ st))) : Go p e below G T (mkF m pc Ls (argsL.reverse ++ .ref a :: st)) := by
  subst has
  subst hp
  obtain ⟨v, vm₁, ⟨T1, L1, k1, n1⟩, -, X1, ⟨Lc, hQ, l1, y1, z1⟩, st1⟩ := X.specialBack hx (y := y) hy1 hown (mvT hZ w1) (mvT hZ w2) (mvT hZ w4) hy (backOf (W := W) (hM []) hZ w4 w3 hf hl) (g := mkF m pc Ls (argsL.reverse ++ .ref a :: st)) rfl hml (Steps.refl _) (a := a) (argsL := argsL) (rest := st) (lenOf hpd hlen) rfl (by show 2 * 0 + _ ≤ _; omega) (hb hby hd) (fun _ _ => ⟨rfl, eT, hcl, hsl⟩)
  dsimp only [Pt.U, Pt.locs, Pt.cells, Pt.slots] at X1 l1 y1 z1 st1 hQ
  subst l1 y1 z1
  exact Go.by (fun t q => st1.trans q) (k T1 Lc v X1 hQ)
theorem own_callV (X : Stand p l e R s m args below meth c T locs cells slots) (hx : p.tables.exec = Jvm.exec) (hby : c.code = bs) (hZ : Z.Warmed39 s.vm) {own : String} {idx : Nat} {y : MethodName} {yb : ByteArray} {yml : Nat} {yrt : Option FieldType} {rm : Room} {as : Array Value} {Qc : Option Value → Heap → List Loc → Prop} {a : Addr} {C : String} (argsL : List Value) (has : (.ref a :: argsL).toArray = as) (hown : s.vm.findClass own = some m.cls) (w1 : (Jvm.Cond.methodLink own idx y).before a0 Z = true) (w5 : (Jvm.Cond.declares y).before a0 Z = true) (w6 : (Jvm.Cond.selects C y y).before a0 Z = true) (w2 : (Jvm.Cond.instanceMethod y).before a0 Z = true) (w3 : (Jvm.Cond.initialized y.cls).before a0 Z = true) (w4 : (Jvm.Cond.code y yb yml yrt).before a0 Z = true) (E : Exa Z h a C) (hy : y.cls ≠ "java/lang/invoke/MethodHandle" ∧ y.cls ≠ "java/lang/invoke/VarHandle") (hd : decode bs pc = .ok (.invokevirtual idx, 3)) (hM : Met1 l Z y yb yml yrt rm as h Qc) (eT : T.heap = h) {ps : List FieldType} {pr : Option FieldType} (hpd : parseMethodDescriptor y.desc = some ⟨ps, pr⟩) (hlen : argsL.length = ps.length) (hml : Ls.size = c.maxLocals) (hf : rm.frames + 1 ≤ R.frames) (W : Nat) (hW : (st.map fun v => v.category).sum = W) (hl : W + (yml + 11) + rm.locals ≤ R.locals) (hcl : cells + rm.cells ≤ R.cells) (hsl : slots + rm.slots ≤ R.slots) (pc' : Nat) (hp : pc + 3 = pc') (k : ∀ (T' : State) (L : List Loc) (v : Option Value), Stand p l e R s m args below meth c T' (locs ++ L) (cells + rm.cells) (slots + rm.slots) → Qc v T'.heap L → Go p e below G T' (mkF m pc' Ls (v.toList ++ st))) : Go p e below G T (mkF m pc Ls (argsL.reverse ++ .ref a :: st)) := by
  subst has
  obtain ⟨cq, kq, qa, qb, qc⟩ := isOf hZ eT E
  subst hp
  obtain ⟨v, vm₁, ⟨T1, L1, k1, n1⟩, -, X1, ⟨Lc, hQ, l1, y1, z1⟩, st1⟩ := X.virtualBack hx (y := y) (z := y) hown (mvT hZ w1) (mvT hZ w5) (notFace_of_selects (args := #[]) (mvT hZ w6)) (mvT hZ w6) (mvT hZ w2) hy (backOf (W := W) (hM []) hZ w4 w3 hf hl) qa qc (g := mkF m pc Ls (argsL.reverse ++ .ref a :: st)) rfl hml (Steps.refl _) (argsL := argsL) (rest := st) (lenOf hpd hlen) rfl (by show 2 * 0 + _ ≤ _; omega) (hb hby hd) (fun _ _ => ⟨rfl, eT, hcl, hsl⟩)
  dsimp only [Pt.U, Pt.locs, Pt.cells, Pt.slots] at X1 l1 y1 z1 st1 hQ
  subst l1 y1 z1
  exact Go.by (fun t q => st1.trans q) (k T1 Lc v X1 hQ)
theorem own_getF (X : Stand p l e R s m args below meth c T locs cells slots) (hx : p.tables.exec = Jvm.exec) (hby : c.code = bs) (hZ : Z.Warmed39 s.vm) {own R0 O n d host : String} {idx : Nat} {a : Addr} {v : Value} (hown : s.vm.findClass own = some m.cls) (w : (Jvm.Cond.fieldLink own idx R0 n d).before a0 Z = true ∨ (Jvm.Cond.fieldLinkNest own idx R0 n d host).before a0 Z = true) (via : Via Z R0 O n d) (eT : T.heap = h) (F : Fld Z h a O n d v) (hd : decode bs pc = .ok (.getfield idx, 3)) (pc' : Nat) (hp : pc + 3 = pc') (k : ∀ T', Stand p l e R s m args below meth c T' locs cells slots → T'.heap = h → Go p e below G T' (mkF m pc' Ls (v :: st))) : Go p e below G T (mkF m pc Ls (.ref a :: st)) := by
  subst hp
  obtain ⟨T1, X1, e1, st1⟩ := getF X hx hZ hown w via eT F (g := mkF m pc Ls (.ref a :: st)) rfl rfl (hb hby hd)
  exact Go.by (fun t q => st1 t q) (k T1 X1 e1)
theorem own_putF (X : Stand p l e R s m args below meth c T locs cells slots) (hx : p.tables.exec = Jvm.exec) (hby : c.code = bs) (hZ : Z.Warmed39 s.vm) {own R0 O n d host C : String} {idx kk : Nat} {a : Addr} {v old : Value} {ty : FieldType} (hown : s.vm.findClass own = some m.cls) (w : (Jvm.Cond.fieldLink own idx R0 n d).before a0 Z = true ∨ (Jvm.Cond.fieldLinkNest own idx R0 n d host).before a0 Z = true) (via : Via Z R0 O n d) (eT : T.heap = h) (F : Fld Z h a O n d old) (E : Exa Z h a C) (lw : (Jvm.Cond.lays C O n d).before a0 Z = true ∨ ((Jvm.Cond.laysFinal C O n d).before a0 Z = true ∧ own = O ∧ meth.name = "<init>")) (wi : (Jvm.Cond.instantiable C kk).before a0 Z = true) (hty : parseFieldDescriptor d = some ty) (hn : narrow ty v = v) (hf : fits ty v = true) (hd : decode bs pc = .ok (.putfield idx, 3)) (pc' : Nat) (hp : pc + 3 = pc') (k : ∀ T' h', Stand p l e R s m args below meth c T' (locs ++ [⟨a, Jvm.RoadKit.slotOf Z O n d⟩]) cells slots → T'.heap = h' → Wr h h' a (Jvm.RoadKit.slotOf Z O n d) v → Go p e below G T' (mkF m pc' Ls st)) : Go p e below G T (mkF m pc Ls (v :: .ref a :: st)) := by
  subst hp
  obtain ⟨T1, h1, X1, e1, W1, st1⟩ := putF X hx hZ hown w via eT F E lw wi hty hn hf (g := mkF m pc Ls (v :: .ref a :: st)) rfl rfl (hb hby hd)
  exact Go.by (fun t q => st1 t q) (k T1 h1 X1 e1 W1)
theorem own_new (X : Stand p l e R s m args below meth c T locs cells slots) (hx : p.tables.exec = Jvm.exec) (hby : c.code = bs) (hZ : Z.Warmed39 s.vm) {own C : String} {idx n : Nat} (hown : s.vm.findClass own = some m.cls) (w : (Jvm.Cond.classLink own idx C).before a0 Z = true) (wi : (Jvm.Cond.instantiable C n).before a0 Z = true) (wz : (Jvm.Cond.initialized C).before a0 Z = true) (eT : T.heap = h) (hd : decode bs pc = .ok (.new idx, 3)) (hcl : cells + 1 ≤ R.cells) (hsl : slots + n ≤ R.slots) (pc' : Nat) (hp : pc + 3 = pc') (k : ∀ T' h' (b : Addr), b = h.size → Stand p l e R s m args below meth c T' locs (cells + 1) (slots + n) → T'.heap = h' → Ext h h' → Exa Z h' b C → (∀ {O nm d : String} {ty : FieldType}, Laid Z a0 C O nm d → parseFieldDescriptor d = some ty → Fld Z h' b O nm d (defaultValue ty)) → Go p e below G T' (mkF m pc' Ls (.ref b :: st))) : Go p e below G T (mkF m pc Ls st) := by
  subst hp
  obtain ⟨T1, h1, X1, e1, E1, A1, D1, -, st1⟩ := newO X hx hZ hown w wi wz eT (g := mkF m pc Ls st) rfl (hb hby hd) hcl hsl
  exact Go.by (fun t q => st1 t q) (k T1 h1 _ rfl X1 e1 E1 A1 D1)
theorem own_initO (X : Stand p l e R s m args below meth c T locs cells slots) (hx : p.tables.exec = Jvm.exec) (hby : c.code = bs) (hZ : Z.Warmed39 s.vm) {own : String} {idx : Nat} {a : Addr} (hown : s.vm.findClass own = some m.cls) (w1 : (Jvm.Cond.methodLink own idx Lib.objectInit).before a0 Z = true) (w2 : (Jvm.Cond.instanceMethod Lib.objectInit).before a0 Z = true) (w3 : (Jvm.Cond.code Lib.objectInit ⟨#[0xb1]⟩ 1 none).before a0 Z = true) (eT : T.heap = h) (hml : Ls.size = c.maxLocals) (hd : decode bs pc = .ok (.invokespecial idx, 3)) (hf : 1 ≤ R.frames) (W : Nat) (hW : (st.map fun v => v.category).sum = W) (hl : W + 12 ≤ R.locals) (pc' : Nat) (hp : pc + 3 = pc') (k : ∀ T', Stand p l e R s m args below meth c T' locs cells slots → T'.heap = h → Go p e below G T' (mkF m pc' Ls st)) : Go p e below G T (mkF m pc Ls (.ref a :: st)) := by
  subst hp
  obtain ⟨T1, X1, e1, st1⟩ := initO X hx hZ hown w1 w2 w3 eT (g := mkF m pc Ls (.ref a :: st)) rfl hml rfl (hb hby hd) hf (W := W) (by show 2 * 0 + _ ≤ _; omega) hl
  exact Go.by (fun t q => st1 t q) (k T1 X1 e1)
theorem own_putFN (X : Stand p l e R s m args below meth c T locs cells slots) (hx : p.tables.exec = Jvm.exec) (hby : c.code = bs) (hZ : Z.Warmed39 s.vm) {own R0 O n d C : String} {idx kk : Nat} {a : Addr} {v v' old : Value} {ty : FieldType} (hown : s.vm.findClass own = some m.cls) (w : (Jvm.Cond.fieldLink own idx R0 n d).before a0 Z = true) (via : Via Z R0 O n d) (eT : T.heap = h) (F : Fld Z h a O n d old) (E : Exa Z h a C) (lw : (Jvm.Cond.lays C O n d).before a0 Z = true ∨ ((Jvm.Cond.laysFinal C O n d).before a0 Z = true ∧ own = O ∧ meth.name = "<init>")) (wi : (Jvm.Cond.instantiable C kk).before a0 Z = true) (hty : parseFieldDescriptor d = some ty) (hn : narrow ty v = v') (hf : fits ty v' = true) (hd : decode bs pc = .ok (.putfield idx, 3)) (pc' : Nat) (hp : pc + 3 = pc') (k : ∀ T' h', Stand p l e R s m args below meth c T' (locs ++ [⟨a, Jvm.RoadKit.slotOf Z O n d⟩]) cells slots → T'.heap = h' → Wr h h' a (Jvm.RoadKit.slotOf Z O n d) v' → Go p e below G T' (mkF m pc' Ls st)) : Go p e below G T (mkF m pc Ls (v :: .ref a :: st)) := by
  subst hp
  obtain ⟨T1, h1, X1, e1, W1, st1⟩ := putFN X hx hZ hown w via eT F E lw wi hty hn hf (g := mkF m pc Ls (v :: .ref a :: st)) rfl rfl (hb hby hd)
  exact Go.by (fun t q => st1 t q) (k T1 h1 X1 e1 W1)
theorem own_callP (X : Stand p l e R s m args below meth c T locs cells slots) (hx : p.tables.exec = Jvm.exec) (hby : c.code = bs) (hZ : Z.Warmed39 s.vm) {own : String} {idx : Nat} {y : MethodName} {yb : ByteArray} {yml : Nat} {yrt : Option FieldType} {rm : Room} {as : Array Value} {Qc : Option Value → Heap → List Loc → Prop} {a : Addr} {C : String} (argsL : List Value) (has : (.ref a :: argsL).toArray = as) (hown : s.vm.findClass own = some m.cls) (w1 : (Jvm.Cond.methodLink own idx y).before a0 Z = true) (w2 : (Jvm.Cond.instanceMethod y).before a0 Z = true) {kk : Nat} (w6 : (Jvm.Cond.instantiable y.cls kk).before a0 Z = true) (w7 : (Jvm.Cond.privateMethod y).before a0 Z = true) (w3 : (Jvm.Cond.initialized y.cls).before a0 Z = true) (w4 : (Jvm.Cond.code y yb yml yrt).before a0 Z = true) (E : Exa Z h a C) (hy : y.cls ≠ "java/lang/invoke/MethodHandle" ∧ y.cls ≠ "java/lang/invoke/VarHandle") (hd : decode bs pc = .ok (.invokevirtual idx, 3)) (hM : Met1 l Z y yb yml yrt rm as h Qc) (eT : T.heap = h) {ps : List FieldType} {pr : Option FieldType} (hpd : parseMethodDescriptor y.desc = some ⟨ps, pr⟩) (hlen : argsL.length = ps.length) (hml : Ls.size = c.maxLocals) (hf : rm.frames + 1 ≤ R.frames) (W : Nat) (hW : (st.map fun v => v.category).sum = W) (hl : W + (yml + 11) + rm.locals ≤ R.locals) (hcl : cells + rm.cells ≤ R.cells) (hsl : slots + rm.slots ≤ R.slots) (pc' : Nat) (hp : pc + 3 = pc') (k : ∀ (T' : State) (L : List Loc) (v : Option Value), Stand p l e R s m args below meth c T' (locs ++ L) (cells + rm.cells) (slots + rm.slots) → Qc v T'.heap L → Go p e below G T' (mkF m pc' Ls (v.toList ++ st))) : Go p e below G T (mkF m pc Ls (argsL.reverse ++ .ref a :: st)) := by
  subst has
  obtain ⟨cq, q1, q2⟩ := E.cell
  have pv := Cond.privateMethod_at (mvP hZ w7 (args := #[]))
  have sel : (Jvm.Cond.selects y.cls y y).before args s = true := by
    obtain ⟨c1, k1, r1, r2, -, r3, -, -⟩ := Cond.instantiable_spec (mvT (args := args) hZ w6)
    exact selects_self_of_private r1 r2 (Bool.or_eq_false_iff.mp r3).1 pv (mvT hZ w2) hy
  subst hp
  obtain ⟨v, vm₁, ⟨T1, L1, k1, n1⟩, -, X1, ⟨Lc, hQ, l1, y1, z1⟩, st1⟩ := X.privateBack hx (y := y) hown (mvT hZ w1) (mvT hZ w2) sel pv (mvT hZ w4) hy (backOf (W := W) (hM []) hZ w4 w3 hf hl) (g := mkF m pc Ls (argsL.reverse ++ .ref a :: st)) rfl hml (Steps.refl _) (a := a) (by rw [eT]; exact q1) q2 (argsL := argsL) (rest := st) (lenOf hpd hlen) rfl (by show 2 * 0 + _ ≤ _; omega) (hb hby hd) (fun _ _ => ⟨rfl, eT, hcl, hsl⟩)
  dsimp only [Pt.U, Pt.locs, Pt.cells, Pt.slots] at X1 l1 y1 z1 st1 hQ
  subst l1 y1 z1
  exact Go.by (fun t q => st1.trans q) (k T1 Lc v X1 hQ)
theorem own_instY (X : Stand p l e R s m args below meth c T locs cells slots) (hx : p.tables.exec = Jvm.exec) (hby : c.code = bs) (hZ : Z.Warmed39 s.vm) {own K : String} {idx : Nat} {a : Addr} (hown : s.vm.findClass own = some m.cls) (w : (Jvm.Cond.classLink own idx K).before a0 Z = true) (eT : T.heap = h) (F : Ins Z h a K true) (hd : decode bs pc = .ok (.instanceof idx, 3)) (pc' : Nat) (hp : pc + 3 = pc') (k : ∀ T', Stand p l e R s m args below meth c T' locs cells slots → T'.heap = h → Go p e below G T' (mkF m pc' Ls (.int 1 :: st))) : Go p e below G T (mkF m pc Ls (.ref a :: st)) := by
  subst hp
  obtain ⟨T1, X1, e1, st1⟩ := instY X hx hZ hown w eT F (g := mkF m pc Ls (.ref a :: st)) rfl rfl (hb hby hd)
  exact Go.by (fun t q => st1 t q) (k T1 X1 e1)
theorem own_instNo (X : Stand p l e R s m args below meth c T locs cells slots) (hx : p.tables.exec = Jvm.exec) (hby : c.code = bs) (hZ : Z.Warmed39 s.vm) {own K : String} {idx : Nat} {a : Addr} (hown : s.vm.findClass own = some m.cls) (w : (Jvm.Cond.classLink own idx K).before a0 Z = true) (eT : T.heap = h) {C : String} (E : Exa Z h a C) (F : ∃ c t, Z.vm.findClass C = some c ∧ Z.vm.findClass K = some t ∧ Z.vm.assignable c t = false) (hd : decode bs pc = .ok (.instanceof idx, 3)) (pc' : Nat) (hp : pc + 3 = pc') (k : ∀ T', Stand p l e R s m args below meth c T' locs cells slots → T'.heap = h → Go p e below G T' (mkF m pc' Ls (.int 0 :: st))) : Go p e below G T (mkF m pc Ls (.ref a :: st)) := by
  subst hp
  obtain ⟨T1, X1, e1, st1⟩ := instNo X hx hZ hown w eT E F (g := mkF m pc Ls (.ref a :: st)) rfl rfl (hb hby hd)
  exact Go.by (fun t q => st1 t q) (k T1 X1 e1)
theorem own_castY (X : Stand p l e R s m args below meth c T locs cells slots) (hx : p.tables.exec = Jvm.exec) (hby : c.code = bs) (hZ : Z.Warmed39 s.vm) {own K : String} {idx : Nat} {a : Addr} (hown : s.vm.findClass own = some m.cls) (w : (Jvm.Cond.classLink own idx K).before a0 Z = true) (eT : T.heap = h) (F : Ins Z h a K true) (hd : decode bs pc = .ok (.checkcast idx, 3)) (pc' : Nat) (hp : pc + 3 = pc') (k : ∀ T', Stand p l e R s m args below meth c T' locs cells slots → T'.heap = h → Go p e below G T' (mkF m pc' Ls (.ref a :: st))) : Go p e below G T (mkF m pc Ls (.ref a :: st)) := by
  subst hp
  obtain ⟨T1, X1, e1, st1⟩ := castY X hx hZ hown w eT F (g := mkF m pc Ls (.ref a :: st)) rfl rfl (hb hby hd)
  exact Go.by (fun t q => st1 t q) (k T1 X1 e1)
theorem own_instNull (X : Stand p l e R s m args below meth c T locs cells slots) (hx : p.tables.exec = Jvm.exec) (hby : c.code = bs) {idx : Nat} (hd : decode bs pc = .ok (.instanceof idx, 3)) (pc' : Nat) (hp : pc + 3 = pc') (k : Go p e below G T (mkF m pc' Ls (.int 0 :: st))) : Go p e below G T (mkF m pc Ls (.null :: st)) := by
  subst hp
  exact Go.by (fun t q => X.instanceofNull hx (g := mkF m pc Ls (.null :: st)) rfl rfl (hb hby hd) t q) k
theorem own_castNull (X : Stand p l e R s m args below meth c T locs cells slots) (hx : p.tables.exec = Jvm.exec) (hby : c.code = bs) {idx : Nat} (hd : decode bs pc = .ok (.checkcast idx, 3)) (pc' : Nat) (hp : pc + 3 = pc') (k : Go p e below G T (mkF m pc' Ls (.null :: st))) : Go p e below G T (mkF m pc Ls (.null :: st)) := by
  subst hp
  exact Go.by (fun t q => X.checkcastNull hx (g := mkF m pc Ls (.null :: st)) rfl rfl (hb hby hd) t q) k
theorem own_acmp (X : Stand p l e R s m args below meth c T locs cells slots) (hx : p.tables.exec = Jvm.exec) (hby : c.code = bs) {cd : ACond} {o : Int} {x y : Value} (same : Bool) (hd : decode bs pc = .ok (.if_acmp cd o, 3)) (h1 : x.isRef = true) (h2 : y.isRef = true) (hq : decide (x = y) = same) (ho : 0 ≤ (pc : Int) + o) (pc' : Nat) (hp : pc' = if acV cd same = true then ((pc : Int) + o).toNat else pc + 3) (k : Go p e below G T (mkF m pc' Ls st)) : Go p e below G T (mkF m pc Ls (y :: x :: st)) :=
  Go.by (fun t q => Jvm.RoadKit.acmp (g := mkF m pc Ls (y :: x :: st)) X hx rfl h1 h2 (pc0 := pc) (pc' := pc') (same := same) rfl (hb hby hd) rfl hq ho hp q) k
theorem own_getS (X : Stand p l e R s m args below meth c T locs cells slots) (hx : p.tables.exec = Jvm.exec) (hby : c.code = bs) (hZ : Z.Warmed39 s.vm) {own R0 O n d host : String} {idx : Nat} {v : Value} (hown : s.vm.findClass own = some m.cls) (w : (Jvm.Cond.fieldLink own idx R0 n d).before a0 Z = true ∨ (Jvm.Cond.fieldLinkNest own idx R0 n d host).before a0 Z = true) (via : Via Z R0 O n d) (eT : T.heap = h) (F : Sta Z h O n d v) (hd : decode bs pc = .ok (.getstatic idx, 3)) (pc' : Nat) (hp : pc + 3 = pc') (k : ∀ T', Stand p l e R s m args below meth c T' locs cells slots → T'.heap = h → Go p e below G T' (mkF m pc' Ls (v :: st))) : Go p e below G T (mkF m pc Ls st) := by
  subst hp
  obtain ⟨T1, X1, e1, st1⟩ := getS2 X hx hZ hown w via eT F (g := mkF m pc Ls st) rfl (hb hby hd)
  exact Go.by (fun t q => st1 t q) (k T1 X1 e1)
/-- an array of n places that hold what f says -/
def Afn (Z : State) (h : Heap) (a : Addr) (ty : FieldType) (n : Nat) (f : Nat → Value) : Prop := ∃ cl : Cell, Arr Z h a cl ty ∧ cl.slots.size = n ∧ ∀ i, i < n → cl.slots[i]? = some (f i) ∧ fits ty (f i) = true
def upd (f : Nat → Value) (i : Nat) (v : Value) : Nat → Value := fun j => if j = i then v else f j
theorem Afn.lt {a : Addr} {ty : FieldType} {n : Nat} {f : Nat → Value} (F : Afn Z h a ty n f) : a < h.size := by obtain ⟨cl, A, -⟩ := F; exact A.lt
theorem Afn.ext {h' : Heap} {a : Addr} {ty : FieldType} {n : Nat} {f : Nat → Value} (F : Afn Z h a ty n f) (E : Ext h h') : Afn Z h' a ty n f := by obtain ⟨cl, A, r⟩ := F; exact ⟨cl, A.ext E, r⟩
theorem Afn.other {h' : Heap} {a b : Addr} {sl : Nat} {v : Value} {ty : FieldType} {n : Nat} {f : Nat → Value} (F : Afn Z h b ty n f) (W : Wr h h' a sl v) (q : b ≠ a) : Afn Z h' b ty n f := by obtain ⟨cl, A, r⟩ := F; exact ⟨cl, A.other W q, r⟩
theorem Afn.keep {h' : Heap} {a : Addr} {ws : List Addr} {ty : FieldType} {n : Nat} {f : Nat → Value} (F : Afn Z h a ty n f) (K : Keep h h' ws) (q : a ∉ ws) : Afn Z h' a ty n f := by obtain ⟨cl, A, r⟩ := F; exact ⟨cl, ⟨K.2.1 a cl A.1 q, A.2⟩, r⟩
theorem Afn.to {a : Addr} {ty : FieldType} {n : Nat} {f f' : Nat → Value} (F : Afn Z h a ty n f) (q : ∀ i, i < n → f i = f' i) : Afn Z h a ty n f' := by obtain ⟨cl, A, S, H⟩ := F; exact ⟨cl, A, S, fun i hi => q i hi ▸ H i hi⟩
theorem Afn.new {a : Addr} {k : ClassId} {ty : FieldType} {z : Int32} {n : Nat} (A : Arr Z h a (newA k ty z) ty) (q : z.toNatClampNeg = n) : Afn Z h a ty n (fun _ => defaultValue ty) := by
  refine ⟨_, A, by rw [sz_new]; exact q, fun i hi => ⟨?_, by cases ty <;> rfl⟩⟩
  subst q
  show (Array.replicate z.toNatClampNeg (defaultValue ty))[i]? = _
  rw [Array.getElem?_replicate, if_pos hi]
theorem Afn.set {h' : Heap} {a : Addr} {ty : FieldType} {n i : Nat} {v : Value} {f : Nat → Value} (F : Afn Z h a ty n f) (W : Wr h h' a i v) (hi : i < n) (hv : fits ty v = true) : Afn Z h' a ty n (upd f i v) := by
  obtain ⟨cl, A, S, H⟩ := F
  refine ⟨cl.setSlot i v, A.same W, by rw [sz_set]; exact S, fun j hj => ?_⟩
  unfold upd
  by_cases q : j = i
  · subst q
    rw [if_pos rfl]
    refine ⟨?_, hv⟩
    show (cl.slots.setIfInBounds j v)[j]? = some v
    rw [Array.getElem?_setIfInBounds_self_of_lt (by rw [S]; exact hj)]
  · rw [if_neg q]
    refine ⟨?_, (H j hj).2⟩
    rw [← (H j hj).1]
    exact Array.getElem?_setIfInBounds_ne (Ne.symm q)
theorem own_in {j : Int32} {n : Nat} (h0 : 0 ≤ j.toInt) (h1 : j.toInt < n) : ¬ (j < 0 ∨ n ≤ j.toNatClampNeg) := by
  simp only [Int32.lt_iff_toInt_lt, Int32.toNatClampNeg, Int32.reduceToInt]; omega
/-- an array of ints (bytes, chars, shorts): n places that hold what g says -/
def Afi (Z : State) (h : Heap) (a : Addr) (ty : FieldType) (n : Nat) (g : Nat → Int32) : Prop := Afn Z h a ty n (fun i => .int (g i))
def updI (g : Nat → Int32) (i : Nat) (v : Int32) : Nat → Int32 := fun j => if j = i then v else g j
theorem Afi.lt {a : Addr} {ty : FieldType} {n : Nat} {g : Nat → Int32} (F : Afi Z h a ty n g) : a < h.size := Afn.lt F
theorem Afi.ext {h' : Heap} {a : Addr} {ty : FieldType} {n : Nat} {g : Nat → Int32} (F : Afi Z h a ty n g) (E : Ext h h') : Afi Z h' a ty n g := Afn.ext F E
theorem Afi.other {h' : Heap} {a b : Addr} {sl : Nat} {v : Value} {ty : FieldType} {n : Nat} {g : Nat → Int32} (F : Afi Z h b ty n g) (W : Wr h h' a sl v) (q : b ≠ a) : Afi Z h' b ty n g := Afn.other F W q
theorem Afi.keep {h' : Heap} {a : Addr} {ws : List Addr} {ty : FieldType} {n : Nat} {g : Nat → Int32} (F : Afi Z h a ty n g) (K : Keep h h' ws) (q : a ∉ ws) : Afi Z h' a ty n g := Afn.keep F K q
theorem Afi.to {a : Addr} {ty : FieldType} {n : Nat} {g g' : Nat → Int32} (F : Afi Z h a ty n g) (q : ∀ i, i < n → g i = g' i) : Afi Z h a ty n g' := Afn.to F fun i hi => congrArg Value.int (q i hi)
theorem Afi.set {h' : Heap} {a : Addr} {ty : FieldType} {n i : Nat} {v : Int32} {g : Nat → Int32} (F : Afi Z h a ty n g) (W : Wr h h' a i (.int v)) (hi : i < n) (hv : fits ty (.int v) = true) : Afi Z h' a ty n (updI g i v) :=
  (Afn.set F W hi hv).to fun j _ => by
    unfold upd updI
    by_cases q : j = i
    · rw [if_pos q, if_pos q]
    · rw [if_neg q, if_neg q]
theorem own_iaload (X : Stand p l e R s m args below meth c T locs cells slots) (hx : p.tables.exec = Jvm.exec) (hby : c.code = bs) (hZ : Z.Warmed39 s.vm) {a : Addr} {j : Int32} {n : Nat} {g : Nat → Int32} (v : Int32) (eT : T.heap = h) (F : Afi Z h a .int n g) (hj : ¬ (j < 0 ∨ n ≤ j.toNatClampNeg)) (hv : g j.toNatClampNeg = v) (hd : decode bs pc = .ok (.iaload, 1)) (pc' : Nat) (hp : pc + 1 = pc') (k : Go p e below G T (mkF m pc' Ls (.int v :: st))) : Go p e below G T (mkF m pc Ls (.int j :: .ref a :: st)) := by
  subst hp
  subst hv
  obtain ⟨cl, A, S, H⟩ := F
  subst S
  exact Go.by (fun t q => X.iaload hx (j := j) (v := .int (g j.toNatClampNeg)) (by rw [eT]; exact A.1) (State.isArrayOf_alike hZ.alike A.2.1) A.2.2 hj (H _ (Nat.lt_of_not_le fun q => hj (Or.inr q))).1 (g := mkF m pc Ls (.int j :: .ref a :: st)) rfl rfl (hb hby hd) t q) k
theorem own_baload (X : Stand p l e R s m args below meth c T locs cells slots) (hx : p.tables.exec = Jvm.exec) (hby : c.code = bs) (hZ : Z.Warmed39 s.vm) {a : Addr} {j : Int32} {n : Nat} {g : Nat → Int32} (v : Int32) (eT : T.heap = h) (F : Afi Z h a .byte n g) (hj : ¬ (j < 0 ∨ n ≤ j.toNatClampNeg)) (hv : g j.toNatClampNeg = v) (hd : decode bs pc = .ok (.baload, 1)) (pc' : Nat) (hp : pc + 1 = pc') (k : Go p e below G T (mkF m pc' Ls (.int v :: st))) : Go p e below G T (mkF m pc Ls (.int j :: .ref a :: st)) := by
  subst hp
  subst hv
  obtain ⟨cl, A, S, H⟩ := F
  subst S
  exact Go.by (fun t q => X.baloadBytes hx (j := j) (v := .int (g j.toNatClampNeg)) (by rw [eT]; exact A.1) (State.isArrayOf_alike hZ.alike A.2.1) A.2.2 hj (H _ (Nat.lt_of_not_le fun q => hj (Or.inr q))).1 (g := mkF m pc Ls (.int j :: .ref a :: st)) rfl rfl (hb hby hd) t q) k
theorem own_caload (X : Stand p l e R s m args below meth c T locs cells slots) (hx : p.tables.exec = Jvm.exec) (hby : c.code = bs) (hZ : Z.Warmed39 s.vm) {a : Addr} {j : Int32} {n : Nat} {g : Nat → Int32} (v : Int32) (eT : T.heap = h) (F : Afi Z h a .char n g) (hj : ¬ (j < 0 ∨ n ≤ j.toNatClampNeg)) (hv : g j.toNatClampNeg = v) (hd : decode bs pc = .ok (.caload, 1)) (pc' : Nat) (hp : pc + 1 = pc') (k : Go p e below G T (mkF m pc' Ls (.int v :: st))) : Go p e below G T (mkF m pc Ls (.int j :: .ref a :: st)) := by
  subst hp
  subst hv
  obtain ⟨cl, A, S, H⟩ := F
  subst S
  exact Go.by (fun t q => X.caload hx (j := j) (v := .int (g j.toNatClampNeg)) (by rw [eT]; exact A.1) (State.isArrayOf_alike hZ.alike A.2.1) A.2.2 hj (H _ (Nat.lt_of_not_le fun q => hj (Or.inr q))).1 (g := mkF m pc Ls (.int j :: .ref a :: st)) rfl rfl (hb hby hd) t q) k
theorem own_saload (X : Stand p l e R s m args below meth c T locs cells slots) (hx : p.tables.exec = Jvm.exec) (hby : c.code = bs) (hZ : Z.Warmed39 s.vm) {a : Addr} {j : Int32} {n : Nat} {g : Nat → Int32} (v : Int32) (eT : T.heap = h) (F : Afi Z h a .short n g) (hj : ¬ (j < 0 ∨ n ≤ j.toNatClampNeg)) (hv : g j.toNatClampNeg = v) (hd : decode bs pc = .ok (.saload, 1)) (pc' : Nat) (hp : pc + 1 = pc') (k : Go p e below G T (mkF m pc' Ls (.int v :: st))) : Go p e below G T (mkF m pc Ls (.int j :: .ref a :: st)) := by
  subst hp
  subst hv
  obtain ⟨cl, A, S, H⟩ := F
  subst S
  exact Go.by (fun t q => X.saload hx (j := j) (v := .int (g j.toNatClampNeg)) (by rw [eT]; exact A.1) (State.isArrayOf_alike hZ.alike A.2.1) A.2.2 hj (H _ (Nat.lt_of_not_le fun q => hj (Or.inr q))).1 (g := mkF m pc Ls (.int j :: .ref a :: st)) rfl rfl (hb hby hd) t q) k
theorem own_aaload (X : Stand p l e R s m args below meth c T locs cells slots) (hx : p.tables.exec = Jvm.exec) (hby : c.code = bs) (hZ : Z.Warmed39 s.vm) {a : Addr} {j : Int32} {n : Nat} {ty : FieldType} {f : Nat → Value} (v : Value) (eT : T.heap = h) (F : Afn Z h a ty n f) (hty : ty.isReference = true) (hj : ¬ (j < 0 ∨ n ≤ j.toNatClampNeg)) (hv : f j.toNatClampNeg = v) (hd : decode bs pc = .ok (.aaload, 1)) (pc' : Nat) (hp : pc + 1 = pc') (k : Go p e below G T (mkF m pc' Ls (v :: st))) : Go p e below G T (mkF m pc Ls (.int j :: .ref a :: st)) := by
  subst hp
  subst hv
  obtain ⟨cl, A, S, H⟩ := F
  subst S
  exact Go.by (fun t q => X.aaload hx (j := j) (v := f j.toNatClampNeg) (by rw [eT]; exact A.1) (State.isArrayOf_alike hZ.alike A.2.1) hty A.2.2 hj (H _ (Nat.lt_of_not_le fun q => hj (Or.inr q))).1 (g := mkF m pc Ls (.int j :: .ref a :: st)) rfl rfl (hb hby hd) t q) k
theorem own_arraylength (X : Stand p l e R s m args below meth c T locs cells slots) (hx : p.tables.exec = Jvm.exec) (hby : c.code = bs) (hZ : Z.Warmed39 s.vm) {a : Addr} {ty : FieldType} {n : Nat} {f : Nat → Value} (z : Int32) (eT : T.heap = h) (F : Afn Z h a ty n f) (hz : n.toInt32 = z) (hd : decode bs pc = .ok (.arraylength, 1)) (pc' : Nat) (hp : pc + 1 = pc') (k : Go p e below G T (mkF m pc' Ls (.int z :: st))) : Go p e below G T (mkF m pc Ls (.ref a :: st)) := by
  subst hp
  subst hz
  obtain ⟨cl, A, S, H⟩ := F
  subst S
  exact Go.by (fun t q => X.arraylength hx (by rw [eT]; exact A.1) (State.isArrayOf_alike hZ.alike A.2.1) (g := mkF m pc Ls (.ref a :: st)) rfl rfl (hb hby hd) t q) k
theorem own_iastore (X : Stand p l e R s m args below meth c T locs cells slots) (hx : p.tables.exec = Jvm.exec) (hby : c.code = bs) (hZ : Z.Warmed39 s.vm) {a : Addr} {j x : Int32} {n : Nat} {g : Nat → Int32} (eT : T.heap = h) (F : Afi Z h a .int n g) (hj : ¬ (j < 0 ∨ n ≤ j.toNatClampNeg)) (hd : decode bs pc = .ok (.iastore, 1)) (pc' : Nat) (hp : pc + 1 = pc') (k : ∀ T' h', Stand p l e R s m args below meth c T' (locs ++ [⟨a, j.toNatClampNeg⟩]) cells slots → T'.heap = h' → Wr h h' a j.toNatClampNeg (.int x) → Afi Z h' a .int n (updI g j.toNatClampNeg x) → Go p e below G T' (mkF m pc' Ls st)) : Go p e below G T (mkF m pc Ls (.int x :: .int j :: .ref a :: st)) := by
  subst hp
  have F0 := F
  obtain ⟨cl, A, S, H⟩ := F
  obtain ⟨T1, h1, X1, e1, W1, st1⟩ := stI X hx hZ eT A (j := j) (x := x) (by rw [S]; exact hj) (g := mkF m pc Ls (.int x :: .int j :: .ref a :: st)) rfl rfl (hb hby hd)
  exact Go.by (fun t q => st1 t q) (k T1 h1 X1 e1 W1 (F0.set W1 (Nat.lt_of_not_le fun q => hj (Or.inr q)) rfl))
theorem own_bastore (X : Stand p l e R s m args below meth c T locs cells slots) (hx : p.tables.exec = Jvm.exec) (hby : c.code = bs) (hZ : Z.Warmed39 s.vm) {a : Addr} {j x : Int32} {n : Nat} {g : Nat → Int32} (eT : T.heap = h) (F : Afi Z h a .byte n g) (hj : ¬ (j < 0 ∨ n ≤ j.toNatClampNeg)) (hd : decode bs pc = .ok (.bastore, 1)) (pc' : Nat) (hp : pc + 1 = pc') (k : ∀ T' h', Stand p l e R s m args below meth c T' (locs ++ [⟨a, j.toNatClampNeg⟩]) cells slots → T'.heap = h' → Wr h h' a j.toNatClampNeg (.int (nar .byte x)) → Afi Z h' a .byte n (updI g j.toNatClampNeg (nar .byte x)) → Go p e below G T' (mkF m pc' Ls st)) : Go p e below G T (mkF m pc Ls (.int x :: .int j :: .ref a :: st)) := by
  subst hp
  have F0 := F
  obtain ⟨cl, A, S, H⟩ := F
  obtain ⟨T1, h1, X1, e1, W1, st1⟩ := stB X hx hZ eT A (j := j) (x := x) (by rw [S]; exact hj) (g := mkF m pc Ls (.int x :: .int j :: .ref a :: st)) rfl rfl (hb hby hd)
  exact Go.by (fun t q => st1 t q) (k T1 h1 X1 e1 W1 (F0.set W1 (Nat.lt_of_not_le fun q => hj (Or.inr q)) (fits_nar_byte x)))
theorem own_castore (X : Stand p l e R s m args below meth c T locs cells slots) (hx : p.tables.exec = Jvm.exec) (hby : c.code = bs) (hZ : Z.Warmed39 s.vm) {a : Addr} {j x : Int32} {n : Nat} {g : Nat → Int32} (eT : T.heap = h) (F : Afi Z h a .char n g) (hj : ¬ (j < 0 ∨ n ≤ j.toNatClampNeg)) (hd : decode bs pc = .ok (.castore, 1)) (pc' : Nat) (hp : pc + 1 = pc') (k : ∀ T' h', Stand p l e R s m args below meth c T' (locs ++ [⟨a, j.toNatClampNeg⟩]) cells slots → T'.heap = h' → Wr h h' a j.toNatClampNeg (.int (nar .char x)) → Afi Z h' a .char n (updI g j.toNatClampNeg (nar .char x)) → Go p e below G T' (mkF m pc' Ls st)) : Go p e below G T (mkF m pc Ls (.int x :: .int j :: .ref a :: st)) := by
  subst hp
  have F0 := F
  obtain ⟨cl, A, S, H⟩ := F
  obtain ⟨T1, h1, X1, e1, W1, st1⟩ := stC X hx hZ eT A (j := j) (x := x) (by rw [S]; exact hj) (g := mkF m pc Ls (.int x :: .int j :: .ref a :: st)) rfl rfl (hb hby hd)
  exact Go.by (fun t q => st1 t q) (k T1 h1 X1 e1 W1 (F0.set W1 (Nat.lt_of_not_le fun q => hj (Or.inr q)) (fits_nar_char x)))
theorem own_sastore (X : Stand p l e R s m args below meth c T locs cells slots) (hx : p.tables.exec = Jvm.exec) (hby : c.code = bs) (hZ : Z.Warmed39 s.vm) {a : Addr} {j x : Int32} {n : Nat} {g : Nat → Int32} (eT : T.heap = h) (F : Afi Z h a .short n g) (hj : ¬ (j < 0 ∨ n ≤ j.toNatClampNeg)) (hd : decode bs pc = .ok (.sastore, 1)) (pc' : Nat) (hp : pc + 1 = pc') (k : ∀ T' h', Stand p l e R s m args below meth c T' (locs ++ [⟨a, j.toNatClampNeg⟩]) cells slots → T'.heap = h' → Wr h h' a j.toNatClampNeg (.int (nar .short x)) → Afi Z h' a .short n (updI g j.toNatClampNeg (nar .short x)) → Go p e below G T' (mkF m pc' Ls st)) : Go p e below G T (mkF m pc Ls (.int x :: .int j :: .ref a :: st)) := by
  subst hp
  have F0 := F
  obtain ⟨cl, A, S, H⟩ := F
  obtain ⟨T1, h1, X1, e1, W1, st1⟩ := stS X hx hZ eT A (j := j) (x := x) (by rw [S]; exact hj) (g := mkF m pc Ls (.int x :: .int j :: .ref a :: st)) rfl rfl (hb hby hd)
  exact Go.by (fun t q => st1 t q) (k T1 h1 X1 e1 W1 (F0.set W1 (Nat.lt_of_not_le fun q => hj (Or.inr q)) (fits_nar_short x)))
theorem own_aastore (X : Stand p l e R s m args below meth c T locs cells slots) (hx : p.tables.exec = Jvm.exec) (hby : c.code = bs) (hZ : Z.Warmed39 s.vm) {a : Addr} {j : Int32} {v : Value} {n : Nat} {ty : FieldType} {f : Nat → Value} (eT : T.heap = h) (F : Afn Z h a ty n f) (hj : ¬ (j < 0 ∨ n ≤ j.toNatClampNeg)) (hty : ty.isReference = true) (hfv : fits ty v = true) (So : Sto Z h a v) (hd : decode bs pc = .ok (.aastore, 1)) (pc' : Nat) (hp : pc + 1 = pc') (k : ∀ T' h', Stand p l e R s m args below meth c T' (locs ++ [⟨a, j.toNatClampNeg⟩]) cells slots → T'.heap = h' → Wr h h' a j.toNatClampNeg v → Afn Z h' a ty n (upd f j.toNatClampNeg v) → Go p e below G T' (mkF m pc' Ls st)) : Go p e below G T (mkF m pc Ls (v :: .int j :: .ref a :: st)) := by
  subst hp
  have F0 := F
  obtain ⟨cl, A, S, H⟩ := F
  obtain ⟨T1, h1, X1, e1, W1, st1⟩ := stR X hx hZ eT A (j := j) (by rw [S]; exact hj) hty So (g := mkF m pc Ls (v :: .int j :: .ref a :: st)) rfl rfl (hb hby hd)
  exact Go.by (fun t q => st1 t q) (k T1 h1 X1 e1 W1 (F0.set W1 (Nat.lt_of_not_le fun q => hj (Or.inr q)) hfv))
theorem own_newarray (X : Stand p l e R s m args below meth c T locs cells slots) (hx : p.tables.exec = Jvm.exec) (hby : c.code = bs) (hZ : Z.Warmed39 s.vm) {aty : ArrayType} {z : Int32} {n cap : Nat} {ad : String} (w : (Jvm.Cond.arrayClass (newarray.typeOf aty)).before a0 Z = true) (eT : T.heap = h) (hd : decode bs pc = .ok (.newarray aty, 2)) (hz : ¬ z < 0) (hn : z.toNatClampNeg = n) (hcap : n ≤ cap) (hb8 : cap * 8 ≤ 536870912) (hcl : cells + 1 ≤ R.cells) (hsl : slots + cap ≤ R.slots) (had : "[" ++ (newarray.typeOf aty).toString = ad) (pc' : Nat) (hp : pc + 2 = pc') (k : ∀ T' h' (b : Addr), b = h.size → Stand p l e R s m args below meth c T' locs (cells + 1) (slots + cap) → T'.heap = h' → Ext h h' → Afn Z h' b (newarray.typeOf aty) n (fun _ => defaultValue (newarray.typeOf aty)) → Exa Z h' b ad → Go p e below G T' (mkF m pc' Ls (.ref b :: st))) : Go p e below G T (mkF m pc Ls (.int z :: st)) := by
  subst hp
  obtain ⟨T1, h1, cA, X1, e1, E1, A1, Ex1, st1⟩ := newPE X hx hZ w eT (g := mkF m pc Ls (.int z :: st)) rfl (hb hby hd) rfl hz (cap := cap) (by rw [hn]; exact hcap) hb8 hcl hsl had
  exact Go.by (fun t q => st1 t q) (k T1 h1 _ rfl X1 e1 E1 (Afn.new A1 hn) Ex1)
theorem own_anewarray (X : Stand p l e R s m args below meth c T locs cells slots) (hx : p.tables.exec = Jvm.exec) (hby : c.code = bs) (hZ : Z.Warmed39 s.vm) {own C : String} {idx : Nat} {z : Int32} {n cap : Nat} {ad : String} (hown : s.vm.findClass own = some m.cls) (w1 : (Jvm.Cond.classLink own idx C).before a0 Z = true) (w2 : (Jvm.Cond.arrayOver (.object C)).before a0 Z = true) (eT : T.heap = h) (hd : decode bs pc = .ok (.anewarray idx, 3)) (hz : ¬ z < 0) (hn : z.toNatClampNeg = n) (hcap : n ≤ cap) (hb8 : cap * 8 ≤ 536870912) (hcl : cells + 1 ≤ R.cells) (hsl : slots + cap ≤ R.slots) (had : "[" ++ (FieldType.object C).toString = ad) (pc' : Nat) (hp : pc + 3 = pc') (k : ∀ T' h' (b : Addr) cA, b = h.size → Stand p l e R s m args below meth c T' locs (cells + 1) (slots + cap) → T'.heap = h' → Ext h h' → Afn Z h' b (.object C) n (fun _ => .null) → Exa Z h' b ad → Arr Z h' b (newA cA (.object C) z) (.object C) → Ovr Z cA C → Go p e below G T' (mkF m pc' Ls (.ref b :: st))) : Go p e below G T (mkF m pc Ls (.int z :: st)) := by
  subst hp
  obtain ⟨T1, h1, cA, X1, e1, E1, A1, Ex1, O1, st1⟩ := newRE X hx hZ hown w1 w2 eT (g := mkF m pc Ls (.int z :: st)) rfl (hb hby hd) rfl hz (cap := cap) (by rw [hn]; exact hcap) hb8 hcl hsl had
  exact Go.by (fun t q => st1 t q) (k T1 h1 _ cA rfl X1 e1 E1 (Afn.new A1 hn) Ex1 A1 O1)
theorem own_lremV (x y : Int64) : 0 ≤ x.toInt → 0 < y.toInt → 0 ≤ (x % y).toInt ∧ (x % y).toInt < y.toInt := by
  intro h1 h2
  rw [Int64.toInt_mod, (tr x.toInt y.toInt).1 h1]
  exact ⟨Int.emod_nonneg _ (by omega), Int.emod_lt_of_pos _ h2⟩
theorem own_NSroot {O K : String} {n : Nat} (w : (Jvm.Cond.noSuperclass O).before a0 Z = true) (wk : (Jvm.Cond.instantiable K n).before a0 Z = true) (hn : O ≠ K) : NS Z O K := by
  obtain ⟨c, k, h1, h2, h3, -, -⟩ := Cond.noSuperclass_spec w
  obtain ⟨t, k2, g1, -⟩ := Cond.instantiable_spec wk
  have ne := ids_ne h1 g1 hn
  refine ⟨c, t, h1, g1, fun fuel => ?_⟩
  cases fuel with
  | zero => rfl
  | succ f => simp [Vm.isSubclassAux, ne, h2, h3]
theorem own_NSno {C S K : String} {n : Nat} (w : (Jvm.Cond.superclass C S).before a0 Z = true) (wk : (Jvm.Cond.instantiable K n).before a0 Z = true) (nn : NS Z C K) (hn : C ≠ K) : ∃ c t, Z.vm.findClass C = some c ∧ Z.vm.findClass K = some t ∧ Z.vm.assignable c t = false := by
  obtain ⟨c, t, h0, g0, n3⟩ := nn
  obtain ⟨p, k, kp, h1, h2, h3, h4, h5, -, h7⟩ := Cond.superclass_spec h0 w
  obtain ⟨t', k', g1, g2, g5, g6, -, -⟩ := Cond.instantiable_spec wk
  cases g0.symm.trans g1
  have ne := ids_ne h0 g0 hn
  have g7 : k'.isInterface = false := (Bool.or_eq_false_iff.mp g6).1
  refine ⟨c, t, h0, g0, ?_⟩
  show Z.vm.assignableAux (255 + 1) c t = false
  simp [Vm.assignableAux, ne, h2, g2, h5, g5, g7, Vm.isSubclass, n3]
theorem Keep.ext0 {h0 : Heap} (K : Keep h0 h []) : Ext h0 h := ⟨K.1, fun a c q => K.2.1 a c q nin0⟩
/-- an array of references over the class C takes objects of C -/
def Orr (Z : State) (h : Heap) (b : Addr) (C : String) : Prop := ∃ (c : Cell) (cA : ClassId), Arr Z h b c (.object C) ∧ c.cls = cA ∧ Ovr Z cA C
theorem Orr.lt {b : Addr} {C : String} (F : Orr Z h b C) : b < h.size := by obtain ⟨c, cA, A, -⟩ := F; exact A.lt
theorem Orr.ext {h' : Heap} {b : Addr} {C : String} (F : Orr Z h b C) (E : Ext h h') : Orr Z h' b C := by obtain ⟨c, cA, A, r⟩ := F; exact ⟨c, cA, A.ext E, r⟩
theorem Orr.wr {h' : Heap} {a b : Addr} {C : String} {sl : Nat} {v : Value} (F : Orr Z h b C) (W : Wr h h' a sl v) : Orr Z h' b C := by
  obtain ⟨c, cA, A, q, O⟩ := F
  by_cases e : b = a
  · subst e; exact ⟨_, cA, A.same W, q, O⟩
  · exact ⟨c, cA, A.other W e, q, O⟩
theorem Orr.sto {b y : Addr} {C : String} (F : Orr Z h b C) (I : Ins Z h y C true) : Sto Z h b (.ref y) := by
  obtain ⟨c, cA, A, q, O⟩ := F
  exact Sto.ofV A q O I
theorem own_clone (X : Stand p l e R s m args below meth c T locs cells slots) (hx : p.tables.exec = Jvm.exec) (hby : c.code = bs) (hZ : Z.Warmed39 s.vm) {own ad : String} {idx : Nat} {a : Addr} {ty : FieldType} {n cap : Nat} {g : Nat → Int32} (hown : s.vm.findClass own = some m.cls) (w1 : (Jvm.Cond.methodLink own idx ⟨ad, "clone", "()Ljava/lang/Object;"⟩).before a0 Z = true) (w2 : (Jvm.Cond.sameMethod ad "java/lang/Object" "clone" "()Ljava/lang/Object;").before a0 Z = true) (w3 : (Jvm.Cond.native ⟨"java/lang/Object", "clone", "()Ljava/lang/Object;"⟩).before a0 Z = true)
    (w4 : (Jvm.Cond.instanceMethod ⟨"java/lang/Object", "clone", "()Ljava/lang/Object;"⟩).before a0 Z = true) (w5 : (Jvm.Cond.selects ad ⟨ad, "clone", "()Ljava/lang/Object;"⟩ ⟨"java/lang/Object", "clone", "()Ljava/lang/Object;"⟩).before a0 Z = true) (w6 : (Jvm.Cond.castable ad "java/lang/Cloneable").before a0 Z = true)
    (eT : T.heap = h) (F : Afi Z h a ty n g) (E : Exa Z h a ad) (hml : Ls.size = c.maxLocals) (hd : decode bs pc = .ok (.invokevirtual idx, 3)) (hf : 1 ≤ R.frames) (W : Nat) (hW : (st.map fun v => v.category).sum = W) (hl : W + 14 ≤ R.locals) (hcap : n ≤ cap) (hcl : cells + 1 ≤ R.cells) (hsl : slots + cap ≤ R.slots) (pc' : Nat) (hp : pc + 3 = pc')
    (k : ∀ T' h' (b : Addr), b = h.size → Stand p l e R s m args below meth c T' locs (cells + 1) (slots + cap) → T'.heap = h' → Ext h h' → Afi Z h' b ty n g → Exa Z h' b ad → Go p e below G T' (mkF m pc' Ls (.ref b :: st))) : Go p e below G T (mkF m pc Ls (.ref a :: st)) := by
  subst hp
  obtain ⟨cl, A, S, H⟩ := F
  have FC : FitC Z cl := fitC_of A fun i hi v hv => by rw [(H i (S ▸ hi)).1] at hv; cases hv; exact (H i (S ▸ hi)).2
  obtain ⟨T1, h1, X1, e1, E1, A1, Ex1, st1⟩ := cloneA X hx hZ hown w1 w2 w3 w4 w5 w6 eT A E FC (g := mkF m pc Ls (.ref a :: st)) rfl hml rfl (hb hby hd) hf (W := W) (by show 2 * 0 + _ ≤ _; omega) hl (cap := cap) (by rw [S]; exact hcap) hcl hsl
  exact Go.by (fun t q => st1 t q) (k T1 h1 _ rfl X1 e1 E1 ⟨_, A1, S, H⟩ Ex1)
theorem own_fld_start {t : Term} {C n d : String} {k : Int32} {a : Addr} (ev : t.eval args Z none [] Z = some (.ref a)) (hh : (Jvm.Cond.eq (.field t C n d) (.int k)).value args Z none Z [] = some true) : Fld Z Z.heap a C n d (.int k) := by
  obtain ⟨x, y, h1, h2, h3, h4⟩ := cmp_v (Or.inl hh)
  have h2' : y = .int k := (Option.some.inj h2).symm
  subst h2'
  obtain ⟨z, rfl⟩ := h4
  have q : z = k := by
    simp only [Cond.value, h1, h2] at hh
    exact of_decide_eq_true (Option.some.inj hh)
  subst q
  rw [fld_at ev] at h1
  exact Fld.start h1
end OwnGo

theorem d1_0 : decode method_2_code 0 = .ok (.iload_n 0, 1) := by decide +kernel
theorem d1_1 : decode method_2_code 1 = .ok (.bipush 7, 2) := by decide +kernel
theorem d1_3 : decode method_2_code 3 = .ok (.iushr, 1) := by decide +kernel
theorem d1_4 : decode method_2_code 4 = .ok (.ifCond .ne 5, 3) := by decide +kernel
theorem d1_7 : decode method_2_code 7 = .ok (.iconst 1, 1) := by decide +kernel
theorem d1_8 : decode method_2_code 8 = .ok (.ireturn, 1) := by decide +kernel
theorem d1_9 : decode method_2_code 9 = .ok (.iload_n 0, 1) := by decide +kernel
theorem d1_10 : decode method_2_code 10 = .ok (.bipush 14, 2) := by decide +kernel
theorem d1_12 : decode method_2_code 12 = .ok (.iushr, 1) := by decide +kernel
theorem d1_13 : decode method_2_code 13 = .ok (.ifCond .ne 5, 3) := by decide +kernel
theorem d1_16 : decode method_2_code 16 = .ok (.iconst 2, 1) := by decide +kernel
theorem d1_17 : decode method_2_code 17 = .ok (.ireturn, 1) := by decide +kernel
theorem d1_18 : decode method_2_code 18 = .ok (.iload_n 0, 1) := by decide +kernel
theorem d1_19 : decode method_2_code 19 = .ok (.bipush 21, 2) := by decide +kernel
theorem d1_21 : decode method_2_code 21 = .ok (.iushr, 1) := by decide +kernel
theorem d1_22 : decode method_2_code 22 = .ok (.ifCond .ne 5, 3) := by decide +kernel
theorem d1_25 : decode method_2_code 25 = .ok (.iconst 3, 1) := by decide +kernel
theorem d1_26 : decode method_2_code 26 = .ok (.ireturn, 1) := by decide +kernel
theorem d1_27 : decode method_2_code 27 = .ok (.iload_n 0, 1) := by decide +kernel
theorem d1_28 : decode method_2_code 28 = .ok (.bipush 28, 2) := by decide +kernel
theorem d1_30 : decode method_2_code 30 = .ok (.iushr, 1) := by decide +kernel
theorem d1_31 : decode method_2_code 31 = .ok (.ifCond .ne 5, 3) := by decide +kernel
theorem d1_34 : decode method_2_code 34 = .ok (.iconst 4, 1) := by decide +kernel
theorem d1_35 : decode method_2_code 35 = .ok (.ireturn, 1) := by decide +kernel
theorem d1_36 : decode method_2_code 36 = .ok (.iconst 5, 1) := by decide +kernel
theorem d1_37 : decode method_2_code 37 = .ok (.ireturn, 1) := by decide +kernel
theorem pn_1 : plainName "com/example/kvadtree/kvadtree/FragmentsPutVarintPinLaw" = true := by first | (simp [plainName, overriddenIn]; done) | decide +kernel
theorem d2_0 : decode prog_13_method_18_code 0 = .ok (.iload_n 1, 1) := by decide +kernel
theorem d2_1 : decode prog_13_method_18_code 1 = .ok (.istore_n 3, 1) := by decide +kernel
theorem d2_2 : decode prog_13_method_18_code 2 = .ok (.iload_n 2, 1) := by decide +kernel
theorem d2_3 : decode prog_13_method_18_code 3 = .ok (.istore 4, 2) := by decide +kernel
theorem d2_5 : decode prog_13_method_18_code 5 = .ok (.iload 4, 2) := by decide +kernel
theorem d2_7 : decode prog_13_method_18_code 7 = .ok (.bipush (-128), 2) := by decide +kernel
theorem d2_9 : decode prog_13_method_18_code 9 = .ok (.iand, 1) := by decide +kernel
theorem d2_10 : decode prog_13_method_18_code 10 = .ok (.ifCond .eq 29, 3) := by decide +kernel
theorem d2_13 : decode prog_13_method_18_code 13 = .ok (.aload_n 0, 1) := by decide +kernel
theorem d2_14 : decode prog_13_method_18_code 14 = .ok (.iload_n 3, 1) := by decide +kernel
theorem d2_15 : decode prog_13_method_18_code 15 = .ok (.iinc 3 1, 3) := by decide +kernel
theorem d2_18 : decode prog_13_method_18_code 18 = .ok (.iload 4, 2) := by decide +kernel
theorem d2_20 : decode prog_13_method_18_code 20 = .ok (.bipush 127, 2) := by decide +kernel
theorem d2_22 : decode prog_13_method_18_code 22 = .ok (.iand, 1) := by decide +kernel
theorem d2_23 : decode prog_13_method_18_code 23 = .ok (.sipush 128, 3) := by decide +kernel
theorem d2_26 : decode prog_13_method_18_code 26 = .ok (.ior, 1) := by decide +kernel
theorem d2_27 : decode prog_13_method_18_code 27 = .ok (.i2b, 1) := by decide +kernel
theorem d2_28 : decode prog_13_method_18_code 28 = .ok (.bastore, 1) := by decide +kernel
theorem d2_29 : decode prog_13_method_18_code 29 = .ok (.iload 4, 2) := by decide +kernel
theorem d2_31 : decode prog_13_method_18_code 31 = .ok (.bipush 7, 2) := by decide +kernel
theorem d2_33 : decode prog_13_method_18_code 33 = .ok (.iushr, 1) := by decide +kernel
theorem d2_34 : decode prog_13_method_18_code 34 = .ok (.istore 4, 2) := by decide +kernel
theorem d2_36 : decode prog_13_method_18_code 36 = .ok (.goto (-31), 3) := by decide +kernel
theorem d2_39 : decode prog_13_method_18_code 39 = .ok (.aload_n 0, 1) := by decide +kernel
theorem d2_40 : decode prog_13_method_18_code 40 = .ok (.iload_n 3, 1) := by decide +kernel
theorem d2_41 : decode prog_13_method_18_code 41 = .ok (.iinc 3 1, 3) := by decide +kernel
theorem d2_44 : decode prog_13_method_18_code 44 = .ok (.iload 4, 2) := by decide +kernel
theorem d2_46 : decode prog_13_method_18_code 46 = .ok (.i2b, 1) := by decide +kernel
theorem d2_47 : decode prog_13_method_18_code 47 = .ok (.bastore, 1) := by decide +kernel
theorem d2_48 : decode prog_13_method_18_code 48 = .ok (.iload_n 3, 1) := by decide +kernel
theorem d2_49 : decode prog_13_method_18_code 49 = .ok (.ireturn, 1) := by decide +kernel
theorem pn_2 : plainName "com/example/kvadtree/kvadtree/Fragments" = true := by first | (simp [plainName, overriddenIn]; done) | decide +kernel
theorem d3_0 : decode method_3_code 0 = .ok (.iload_n 0, 1) := by decide +kernel
theorem d3_1 : decode method_3_code 1 = .ok (.iload_n 1, 1) := by decide +kernel
theorem d3_2 : decode method_3_code 2 = .ok (.if_icmp .lt 10, 3) := by decide +kernel
theorem d3_5 : decode method_3_code 5 = .ok (.iload_n 0, 1) := by decide +kernel
theorem d3_6 : decode method_3_code 6 = .ok (.iload_n 1, 1) := by decide +kernel
theorem d3_7 : decode method_3_code 7 = .ok (.iload_n 2, 1) := by decide +kernel
theorem d3_8 : decode method_3_code 8 = .ok (.iadd, 1) := by decide +kernel
theorem d3_9 : decode method_3_code 9 = .ok (.if_icmp .lt 6, 3) := by decide +kernel
theorem d3_12 : decode method_3_code 12 = .ok (.iload 4, 2) := by decide +kernel
theorem d3_14 : decode method_3_code 14 = .ok (.ireturn, 1) := by decide +kernel
theorem d3_15 : decode method_3_code 15 = .ok (.iload_n 0, 1) := by decide +kernel
theorem d3_16 : decode method_3_code 16 = .ok (.iload_n 1, 1) := by decide +kernel
theorem d3_17 : decode method_3_code 17 = .ok (.isub, 1) := by decide +kernel
theorem d3_18 : decode method_3_code 18 = .ok (.istore 5, 2) := by decide +kernel
theorem d3_20 : decode method_3_code 20 = .ok (.iload_n 3, 1) := by decide +kernel
theorem d3_21 : decode method_3_code 21 = .ok (.bipush 7, 2) := by decide +kernel
theorem d3_23 : decode method_3_code 23 = .ok (.iload 5, 2) := by decide +kernel
theorem d3_25 : decode method_3_code 25 = .ok (.imul, 1) := by decide +kernel
theorem d3_26 : decode method_3_code 26 = .ok (.iushr, 1) := by decide +kernel
theorem d3_27 : decode method_3_code 27 = .ok (.bipush 127, 2) := by decide +kernel
theorem d3_29 : decode method_3_code 29 = .ok (.iand, 1) := by decide +kernel
theorem d3_30 : decode method_3_code 30 = .ok (.istore 6, 2) := by decide +kernel
theorem d3_32 : decode method_3_code 32 = .ok (.iload 5, 2) := by decide +kernel
theorem d3_34 : decode method_3_code 34 = .ok (.iload_n 2, 1) := by decide +kernel
theorem d3_35 : decode method_3_code 35 = .ok (.iconst 1, 1) := by decide +kernel
theorem d3_36 : decode method_3_code 36 = .ok (.isub, 1) := by decide +kernel
theorem d3_37 : decode method_3_code 37 = .ok (.if_icmp .ge 11, 3) := by decide +kernel
theorem d3_40 : decode method_3_code 40 = .ok (.iload 6, 2) := by decide +kernel
theorem d3_42 : decode method_3_code 42 = .ok (.sipush 128, 3) := by decide +kernel
theorem d3_45 : decode method_3_code 45 = .ok (.ior, 1) := by decide +kernel
theorem d3_46 : decode method_3_code 46 = .ok (.istore 6, 2) := by decide +kernel
theorem d3_48 : decode method_3_code 48 = .ok (.iload 6, 2) := by decide +kernel
theorem d3_50 : decode method_3_code 50 = .ok (.i2b, 1) := by decide +kernel
theorem d3_51 : decode method_3_code 51 = .ok (.ireturn, 1) := by decide +kernel
theorem pd_0 : parseMethodDescriptor "(I)I" = some ⟨[.int], some .int⟩ := by decide +kernel
theorem pd_2 : parseMethodDescriptor "([BII)I" = some ⟨[(.array .byte), .int, .int], some .int⟩ := by decide +kernel
theorem pd_1 : parseMethodDescriptor "(IIIIB)B" = some ⟨[.int, .int, .int, .int, .byte], some .byte⟩ := by decide +kernel
theorem own_u (x : Int32) : ((x.toUInt32 >>> ((7 : Int32) &&& 31).toUInt32).toInt32).toInt = (x.toInt % 4294967296) / 128 := c_iushr x (7 : Int32) 7 (by decide) (by decide)
theorem own_u14 (x : Int32) : ((x.toUInt32 >>> ((14 : Int32) &&& 31).toUInt32).toInt32).toInt = (x.toInt % 4294967296) / 16384 := c_iushr x (14 : Int32) 14 (by decide) (by decide)
theorem own_u21 (x : Int32) : ((x.toUInt32 >>> ((21 : Int32) &&& 31).toUInt32).toInt32).toInt = (x.toInt % 4294967296) / 2097152 := c_iushr x (21 : Int32) 21 (by decide) (by decide)
theorem own_u28 (x : Int32) : ((x.toUInt32 >>> ((28 : Int32) &&& 31).toUInt32).toInt32).toInt = (x.toInt % 4294967296) / 268435456 := c_iushr x (28 : Int32) 28 (by decide) (by decide)
theorem own_y2 (x : Int32) : ((((x.toUInt32 >>> ((7 : Int32) &&& 31).toUInt32).toInt32).toUInt32 >>> ((7 : Int32) &&& 31).toUInt32).toInt32) = ((x.toUInt32 >>> ((14 : Int32) &&& 31).toUInt32).toInt32) := by rw [← Int32.toInt_inj, own_u, own_u, own_u14]; omega
theorem own_y3 (x : Int32) : ((((x.toUInt32 >>> ((14 : Int32) &&& 31).toUInt32).toInt32).toUInt32 >>> ((7 : Int32) &&& 31).toUInt32).toInt32) = ((x.toUInt32 >>> ((21 : Int32) &&& 31).toUInt32).toInt32) := by rw [← Int32.toInt_inj, own_u, own_u14, own_u21]; omega
theorem own_y4 (x : Int32) : ((((x.toUInt32 >>> ((21 : Int32) &&& 31).toUInt32).toInt32).toUInt32 >>> ((7 : Int32) &&& 31).toUInt32).toInt32) = ((x.toUInt32 >>> ((28 : Int32) &&& 31).toUInt32).toInt32) := by rw [← Int32.toInt_inj, own_u, own_u21, own_u28]; omega
theorem own_y5 (x : Int32) : ((((x.toUInt32 >>> ((28 : Int32) &&& 31).toUInt32).toInt32).toUInt32 >>> ((7 : Int32) &&& 31).toUInt32).toInt32) = (0 : Int32) := by rw [← Int32.toInt_inj, own_u, own_u28]; simp only [Int32.reduceToInt]; omega
theorem own_m (n : Nat) (h : n < 4294967296) : n &&& 4294967168 = 128 * (n / 128) := by
  have h1 : (n &&& 4294967168) / 2 ^ 7 = n / 2 ^ 7 &&& 4294967168 / 2 ^ 7 := Nat.and_div_two_pow
  have h2 : (n &&& 4294967168) % 2 ^ 7 = n % 2 ^ 7 &&& 4294967168 % 2 ^ 7 := Nat.and_mod_two_pow
  have h3 : n / 128 &&& (2 ^ 25 - 1) = n / 128 % 2 ^ 25 := Nat.and_two_pow_sub_one_eq_mod _ _
  have h4 : (n &&& 4294967168) / 128 = n / 128 % 2 ^ 25 := h1.trans h3
  have h5 : (n &&& 4294967168) % 128 = 0 := h2.trans (Nat.and_zero _)
  generalize n &&& 4294967168 = y at *
  omega
theorem own_tn (v : Int32) : v.toInt % 4294967296 = (v.toBitVec.toNat : Int) := by
  have h1 : v.toInt = v.toBitVec.toInt := rfl
  have h2 := v.toBitVec.isLt
  rw [h1, BitVec.toInt_eq_toNat_cond]
  split <;> omega
theorem own_hi (x : Int32) : ((x &&& (-128 : Int32)) = (0 : Int32)) = (((x.toUInt32 >>> ((7 : Int32) &&& 31).toUInt32).toInt32) = (0 : Int32)) := by
  have h1 : (x &&& (-128 : Int32)).toBitVec.toNat = x.toBitVec.toNat &&& 4294967168 := by
    rw [Int32.toBitVec_and, BitVec.toNat_and]
    rfl
  rw [own_m _ x.toBitVec.isLt] at h1
  have h2 := own_u x
  have h3 := own_tn x
  have h4 := own_tn (x &&& (-128 : Int32))
  have h5 := rng32 (x &&& (-128 : Int32))
  rw [h1] at h4
  apply propext
  rw [← Int32.toInt_inj, ← Int32.toInt_inj]
  simp only [Int32.reduceToInt]
  omega
theorem own_lo (y : Int32) (h : ((y.toUInt32 >>> ((7 : Int32) &&& 31).toUInt32).toInt32) = (0 : Int32)) : (y &&& (127 : Int32)) = y := by
  have h1 := own_u y
  have h2 := c_mask y (127 : Int32) 7 (by decide) (by decide)
  rw [h] at h1
  have h3 := rng32 y
  simp only [Int32.reduceToInt] at h1
  rw [← Int32.toInt_inj]
  omega
theorem own_s0 (x : Int32) : (x.toUInt32 >>> ((0 : Int32) &&& 31).toUInt32).toInt32 = x := by
  have h : ((0 : Int32) &&& 31).toUInt32 = 0 := by decide
  rw [h]
  simp
theorem own_top5 (x : Int32) : (((((((((x.toUInt32 >>> ((7 : Int32) &&& 31).toUInt32).toInt32).toUInt32 >>> ((7 : Int32) &&& 31).toUInt32).toInt32).toUInt32 >>> ((7 : Int32) &&& 31).toUInt32).toInt32).toUInt32 >>> ((7 : Int32) &&& 31).toUInt32).toInt32) &&& (-128 : Int32)) = (0 : Int32) := by
  rw [own_hi, own_y2 x, own_y3 x, own_y4 x, own_y5 x]
theorem ef_1 (p1 : Int32) (m : MethodId) : entryFrame m #[(.int p1)] 1 = mkF m 0 #[.val (.int p1)] [] := by first | (simp [entryFrame, mkF, argsToLocals, Value.category]; done) | rfl
def f1 (p1 : Int32) : Int32 := (if ((p1.toUInt32 >>> ((7 : Int32) &&& 31).toUInt32).toInt32) = (0 : Int32) then (1 : Int32) else (if ((p1.toUInt32 >>> ((14 : Int32) &&& 31).toUInt32).toInt32) = (0 : Int32) then (2 : Int32) else (if ((p1.toUInt32 >>> ((21 : Int32) &&& 31).toUInt32).toInt32) = (0 : Int32) then (3 : Int32) else (if ((p1.toUInt32 >>> ((28 : Int32) &&& 31).toUInt32).toInt32) = (0 : Int32) then (4 : Int32) else (5 : Int32)))))
def Q1 (Z : State) (p1 : Int32) (h0 : Heap) (n0 : Nat) (v : Option Value) (h : Heap) (L : List Loc) : Prop := v = some (.int (f1 p1)) ∧ Fr n0 L ∧ h = h0
set_option maxRecDepth 65536 in
set_option maxHeartbeats 40000000 in
theorem rm1 (l : Launch) (Z : State) (a0 : Array Value) (hw : ∀ d ∈ tables_1, d.before a0 Z = true) (p1 : Int32) (h0 : Heap) (n0 : Nat) (Zs : n0 ≤ h0.size) :
    Met1 l Z (⟨"com/example/kvadtree/kvadtree/FragmentsPutVarintPinLaw", "size", "(I)I"⟩ : MethodName) method_2_code 1 (some .int) ({ frames := 0, cells := 0, slots := 0, locals := 0 } : Room) #[(.int p1)] h0 (Q1 Z p1 h0 n0) := by
  refine own_met_of (plainFor_of_name pn_1) (ef_1 p1) ?_
  intro p e s m below meth c s₁ X hx hby hml hZ hown hnm hret hlk eT
  have hown : s.vm.findClass "com/example/kvadtree/kvadtree/FragmentsPutVarintPinLaw" = some m.cls := hown
  have N := Fr.nil n0
  refine own_iloadN X hx hby p1 d1_0 rfl 1 rfl ?_
  refine own_bipush X hx hby (7 : Int32) d1_1 rfl 3 rfl ?_
  refine own_iushr X hx hby d1_3 4 rfl ?_
  refine own_if_ne X hx hby d1_4 9 7 (by decide) rfl (fun c4 => ?_) (fun c4 => ?_)
  · skip
    refine own_iloadN X hx hby p1 d1_9 rfl 10 rfl ?_
    refine own_bipush X hx hby (14 : Int32) d1_10 rfl 12 rfl ?_
    refine own_iushr X hx hby d1_12 13 rfl ?_
    refine own_if_ne X hx hby d1_13 18 16 (by decide) rfl (fun c13 => ?_) (fun c13 => ?_)
    · skip
      refine own_iloadN X hx hby p1 d1_18 rfl 19 rfl ?_
      refine own_bipush X hx hby (21 : Int32) d1_19 rfl 21 rfl ?_
      refine own_iushr X hx hby d1_21 22 rfl ?_
      refine own_if_ne X hx hby d1_22 27 25 (by decide) rfl (fun c22 => ?_) (fun c22 => ?_)
      · skip
        refine own_iloadN X hx hby p1 d1_27 rfl 28 rfl ?_
        refine own_bipush X hx hby (28 : Int32) d1_28 rfl 30 rfl ?_
        refine own_iushr X hx hby d1_30 31 rfl ?_
        refine own_if_ne X hx hby d1_31 36 34 (by decide) rfl (fun c31 => ?_) (fun c31 => ?_)
        · skip
          refine own_iconst X hx hby (5 : Int32) d1_36 rfl 37 rfl ?_
          refine own_retI X hx hby hret hlk d1_37 (by decide) (by decide) ?_
          rw [eT]
          exact ⟨congrArg (fun z => some (Value.int z)) (by unfold f1; rw [if_neg c4, if_neg c13, if_neg c22, if_neg c31]), N, rfl⟩
        · skip
          refine own_iconst X hx hby (4 : Int32) d1_34 rfl 35 rfl ?_
          refine own_retI X hx hby hret hlk d1_35 (by decide) (by decide) ?_
          rw [eT]
          exact ⟨congrArg (fun z => some (Value.int z)) (by unfold f1; rw [if_neg c4, if_neg c13, if_neg c22, if_pos c31]), N, rfl⟩
      · skip
        refine own_iconst X hx hby (3 : Int32) d1_25 rfl 26 rfl ?_
        refine own_retI X hx hby hret hlk d1_26 (by decide) (by decide) ?_
        rw [eT]
        exact ⟨congrArg (fun z => some (Value.int z)) (by unfold f1; rw [if_neg c4, if_neg c13, if_pos c22]), N, rfl⟩
    · skip
      refine own_iconst X hx hby (2 : Int32) d1_16 rfl 17 rfl ?_
      refine own_retI X hx hby hret hlk d1_17 (by decide) (by decide) ?_
      rw [eT]
      exact ⟨congrArg (fun z => some (Value.int z)) (by unfold f1; rw [if_neg c4, if_pos c13]), N, rfl⟩
  · skip
    refine own_iconst X hx hby (1 : Int32) d1_7 rfl 8 rfl ?_
    refine own_retI X hx hby hret hlk d1_8 (by decide) (by decide) ?_
    rw [eT]
    exact ⟨congrArg (fun z => some (Value.int z)) (by unfold f1; rw [if_pos c4]), N, rfl⟩
theorem ef_2_0 (a1 : Addr) (p3 : Int32) (m : MethodId) : entryFrame m #[(.ref a1), (.int (0 : Int32)), (.int p3)] 5 = mkF m 0 #[.val (.ref a1), .val (.int (0 : Int32)), .val (.int p3), .unset, .unset] [] := by first | (simp [entryFrame, mkF, argsToLocals, Value.category]; done) | rfl
def f2_0 (p3 : Int32) : Int32 := (if (p3 &&& (-128 : Int32)) = (0 : Int32) then (1 : Int32) else (if (((p3.toUInt32 >>> ((7 : Int32) &&& 31).toUInt32).toInt32) &&& (-128 : Int32)) = (0 : Int32) then (2 : Int32) else (if (((((p3.toUInt32 >>> ((7 : Int32) &&& 31).toUInt32).toInt32).toUInt32 >>> ((7 : Int32) &&& 31).toUInt32).toInt32) &&& (-128 : Int32)) = (0 : Int32) then (3 : Int32) else (if (((((((p3.toUInt32 >>> ((7 : Int32) &&& 31).toUInt32).toInt32).toUInt32 >>> ((7 : Int32) &&& 31).toUInt32).toInt32).toUInt32 >>> ((7 : Int32) &&& 31).toUInt32).toInt32) &&& (-128 : Int32)) = (0 : Int32) then (4 : Int32) else (5 : Int32)))))
def f2_0_ar_a1 (p3 : Int32) (ar_a1 : Nat → Int32) : Nat → Int32 := (if (p3 &&& (-128 : Int32)) = (0 : Int32) then (updI ar_a1 0 (nar .byte (p3.toInt8.toInt32))) else (if (((p3.toUInt32 >>> ((7 : Int32) &&& 31).toUInt32).toInt32) &&& (-128 : Int32)) = (0 : Int32) then (updI (updI ar_a1 0 (nar .byte (((p3 &&& (127 : Int32)) ||| (128 : Int32)).toInt8.toInt32))) 1 (nar .byte (((p3.toUInt32 >>> ((7 : Int32) &&& 31).toUInt32).toInt32).toInt8.toInt32))) else (if (((((p3.toUInt32 >>> ((7 : Int32) &&& 31).toUInt32).toInt32).toUInt32 >>> ((7 : Int32) &&& 31).toUInt32).toInt32) &&& (-128 : Int32)) = (0 : Int32) then (updI (updI (updI ar_a1 0 (nar .byte (((p3 &&& (127 : Int32)) ||| (128 : Int32)).toInt8.toInt32))) 1 (nar .byte (((((p3.toUInt32 >>> ((7 : Int32) &&& 31).toUInt32).toInt32) &&& (127 : Int32)) ||| (128 : Int32)).toInt8.toInt32))) 2 (nar .byte (((((p3.toUInt32 >>> ((7 : Int32) &&& 31).toUInt32).toInt32).toUInt32 >>> ((7 : Int32) &&& 31).toUInt32).toInt32).toInt8.toInt32))) else (if (((((((p3.toUInt32 >>> ((7 : Int32) &&& 31).toUInt32).toInt32).toUInt32 >>> ((7 : Int32) &&& 31).toUInt32).toInt32).toUInt32 >>> ((7 : Int32) &&& 31).toUInt32).toInt32) &&& (-128 : Int32)) = (0 : Int32) then (updI (updI (updI (updI ar_a1 0 (nar .byte (((p3 &&& (127 : Int32)) ||| (128 : Int32)).toInt8.toInt32))) 1 (nar .byte (((((p3.toUInt32 >>> ((7 : Int32) &&& 31).toUInt32).toInt32) &&& (127 : Int32)) ||| (128 : Int32)).toInt8.toInt32))) 2 (nar .byte (((((((p3.toUInt32 >>> ((7 : Int32) &&& 31).toUInt32).toInt32).toUInt32 >>> ((7 : Int32) &&& 31).toUInt32).toInt32) &&& (127 : Int32)) ||| (128 : Int32)).toInt8.toInt32))) 3 (nar .byte (((((((p3.toUInt32 >>> ((7 : Int32) &&& 31).toUInt32).toInt32).toUInt32 >>> ((7 : Int32) &&& 31).toUInt32).toInt32).toUInt32 >>> ((7 : Int32) &&& 31).toUInt32).toInt32).toInt8.toInt32))) else (updI (updI (updI (updI (updI ar_a1 0 (nar .byte (((p3 &&& (127 : Int32)) ||| (128 : Int32)).toInt8.toInt32))) 1 (nar .byte (((((p3.toUInt32 >>> ((7 : Int32) &&& 31).toUInt32).toInt32) &&& (127 : Int32)) ||| (128 : Int32)).toInt8.toInt32))) 2 (nar .byte (((((((p3.toUInt32 >>> ((7 : Int32) &&& 31).toUInt32).toInt32).toUInt32 >>> ((7 : Int32) &&& 31).toUInt32).toInt32) &&& (127 : Int32)) ||| (128 : Int32)).toInt8.toInt32))) 3 (nar .byte (((((((((p3.toUInt32 >>> ((7 : Int32) &&& 31).toUInt32).toInt32).toUInt32 >>> ((7 : Int32) &&& 31).toUInt32).toInt32).toUInt32 >>> ((7 : Int32) &&& 31).toUInt32).toInt32) &&& (127 : Int32)) ||| (128 : Int32)).toInt8.toInt32))) 4 (nar .byte (((((((((p3.toUInt32 >>> ((7 : Int32) &&& 31).toUInt32).toInt32).toUInt32 >>> ((7 : Int32) &&& 31).toUInt32).toInt32).toUInt32 >>> ((7 : Int32) &&& 31).toUInt32).toInt32).toUInt32 >>> ((7 : Int32) &&& 31).toUInt32).toInt32).toInt8.toInt32)))))))
def Q2_0 (Z : State) (a1 : Addr) (p3 : Int32) (ar_a1 : Nat → Int32) (h0 : Heap) (n0 : Nat) (v : Option Value) (h : Heap) (L : List Loc) : Prop := v = some (.int (f2_0 p3)) ∧ Fr n0 L ∧ Keep h0 h [a1] ∧ Afi Z h a1 .byte 10 (f2_0_ar_a1 p3 ar_a1) ∧ Exa Z h a1 "[B"
set_option maxRecDepth 65536 in
set_option maxHeartbeats 40000000 in
theorem rm2_0 (l : Launch) (Z : State) (a0 : Array Value) (hw : ∀ d ∈ tables_1, d.before a0 Z = true) (a1 : Addr) (p3 : Int32) (ar_a1 : Nat → Int32) (h0 : Heap) (n0 : Nat) (Zs : n0 ≤ h0.size) (A_a1 : Afi Z h0 a1 .byte 10 ar_a1) (E_a1 : Exa Z h0 a1 "[B") (g_a1 : n0 ≤ a1) :
    Met1 l Z (⟨"com/example/kvadtree/kvadtree/Fragments", "putVarint", "([BII)I"⟩ : MethodName) prog_13_method_18_code 5 (some .int) ({ frames := 0, cells := 0, slots := 0, locals := 0 } : Room) #[(.ref a1), (.int (0 : Int32)), (.int p3)] h0 (Q2_0 Z a1 p3 ar_a1 h0 n0) := by
  refine own_met_of (plainFor_of_name pn_2) (ef_2_0 a1 p3) ?_
  intro p e s m below meth c s₁ X hx hby hml hZ hown hnm hret hlk eT
  have hown : s.vm.findClass "com/example/kvadtree/kvadtree/Fragments" = some m.cls := hown
  have N := Fr.nil n0
  have K := Keep.refl h0 [a1]
  refine own_iloadN X hx hby (0 : Int32) d2_0 rfl 1 rfl ?_
  refine own_istoreN X hx hby d2_1 rfl (l' := #[.val (.ref a1), .val (.int (0 : Int32)), .val (.int p3), .val (.int (0 : Int32)), .unset]) rfl 2 rfl ?_
  refine own_iloadN X hx hby p3 d2_2 rfl 3 rfl ?_
  refine own_istore X hx hby d2_3 rfl (l' := #[.val (.ref a1), .val (.int (0 : Int32)), .val (.int p3), .val (.int (0 : Int32)), .val (.int p3)]) rfl 5 rfl ?_
  refine own_iload X hx hby p3 d2_5 rfl 7 rfl ?_
  refine own_bipush X hx hby (-128 : Int32) d2_7 rfl 9 rfl ?_
  refine own_iand X hx hby d2_9 10 rfl ?_
  refine own_if_eq X hx hby d2_10 39 13 (by decide) rfl (fun c10 => ?_) (fun c10 => ?_)
  · skip
    refine own_aloadN X hx hby (.ref a1) d2_39 rfl rfl 40 rfl ?_
    refine own_iloadN X hx hby (0 : Int32) d2_40 rfl 41 rfl ?_
    refine own_iinc X hx hby d2_41 (x := (0 : Int32)) rfl (by decide) (l' := #[.val (.ref a1), .val (.int (0 : Int32)), .val (.int p3), .val (.int (1 : Int32)), .val (.int p3)]) rfl 44 rfl ?_
    refine own_iload X hx hby p3 d2_44 rfl 46 rfl ?_
    refine own_i2b X hx hby d2_46 47 rfl ?_
    refine own_bastore X hx hby hZ eT A_a1 (by decide) d2_47 48 rfl ?_
    intro T47 h47 X eT W A
    have E_a1 := E_a1.wr W
    have A_a1 : Afi Z h47 a1 .byte 10 (updI ar_a1 0 (nar .byte (p3.toInt8.toInt32))) := A
    have N := Fr.snoc X N g_a1
    have K := K.wr W (Or.inl (List.mem_of_getElem? (i := 0) rfl))
    have Zs := Nat.le_trans Zs (Keep.of_wr W).1
    refine own_iloadN X hx hby (1 : Int32) d2_48 rfl 49 rfl ?_
    refine own_retI X hx hby hret hlk d2_49 (by decide) (by decide) ?_
    rw [eT]
    exact ⟨congrArg (fun z => some (Value.int z)) (by unfold f2_0; rw [if_pos c10]), N, K, (by have q : (f2_0_ar_a1 p3 ar_a1) = (updI ar_a1 0 (nar .byte (p3.toInt8.toInt32))) := Eq.symm (by unfold f2_0_ar_a1; rw [if_pos c10]); rw [q]; exact A_a1), E_a1⟩
  · skip
    refine own_aloadN X hx hby (.ref a1) d2_13 rfl rfl 14 rfl ?_
    refine own_iloadN X hx hby (0 : Int32) d2_14 rfl 15 rfl ?_
    refine own_iinc X hx hby d2_15 (x := (0 : Int32)) rfl (by decide) (l' := #[.val (.ref a1), .val (.int (0 : Int32)), .val (.int p3), .val (.int (1 : Int32)), .val (.int p3)]) rfl 18 rfl ?_
    refine own_iload X hx hby p3 d2_18 rfl 20 rfl ?_
    refine own_bipush X hx hby (127 : Int32) d2_20 rfl 22 rfl ?_
    refine own_iand X hx hby d2_22 23 rfl ?_
    refine own_sipush X hx hby (128 : Int32) d2_23 rfl 26 rfl ?_
    refine own_ior X hx hby d2_26 27 rfl ?_
    refine own_i2b X hx hby d2_27 28 rfl ?_
    refine own_bastore X hx hby hZ eT A_a1 (by decide) d2_28 29 rfl ?_
    intro T28 h28 X eT W A
    have E_a1 := E_a1.wr W
    have A_a1 : Afi Z h28 a1 .byte 10 (updI ar_a1 0 (nar .byte (((p3 &&& (127 : Int32)) ||| (128 : Int32)).toInt8.toInt32))) := A
    have N := Fr.snoc X N g_a1
    have K := K.wr W (Or.inl (List.mem_of_getElem? (i := 0) rfl))
    have Zs := Nat.le_trans Zs (Keep.of_wr W).1
    refine own_iload X hx hby p3 d2_29 rfl 31 rfl ?_
    refine own_bipush X hx hby (7 : Int32) d2_31 rfl 33 rfl ?_
    refine own_iushr X hx hby d2_33 34 rfl ?_
    refine own_istore X hx hby d2_34 rfl (l' := #[.val (.ref a1), .val (.int (0 : Int32)), .val (.int p3), .val (.int (1 : Int32)), .val (.int ((p3.toUInt32 >>> ((7 : Int32) &&& 31).toUInt32).toInt32))]) rfl 36 rfl ?_
    refine own_goto X hx hby d2_36 5 (by decide) ?_
    refine own_iload X hx hby ((p3.toUInt32 >>> ((7 : Int32) &&& 31).toUInt32).toInt32) d2_5 rfl 7 rfl ?_
    refine own_bipush X hx hby (-128 : Int32) d2_7 rfl 9 rfl ?_
    refine own_iand X hx hby d2_9 10 rfl ?_
    refine own_if_eq X hx hby d2_10 39 13 (by decide) rfl (fun c10_2 => ?_) (fun c10_2 => ?_)
    · skip
      refine own_aloadN X hx hby (.ref a1) d2_39 rfl rfl 40 rfl ?_
      refine own_iloadN X hx hby (1 : Int32) d2_40 rfl 41 rfl ?_
      refine own_iinc X hx hby d2_41 (x := (1 : Int32)) rfl (by decide) (l' := #[.val (.ref a1), .val (.int (0 : Int32)), .val (.int p3), .val (.int (2 : Int32)), .val (.int ((p3.toUInt32 >>> ((7 : Int32) &&& 31).toUInt32).toInt32))]) rfl 44 rfl ?_
      refine own_iload X hx hby ((p3.toUInt32 >>> ((7 : Int32) &&& 31).toUInt32).toInt32) d2_44 rfl 46 rfl ?_
      refine own_i2b X hx hby d2_46 47 rfl ?_
      refine own_bastore X hx hby hZ eT A_a1 (by decide) d2_47 48 rfl ?_
      intro T47 h47 X eT W A
      have E_a1 := E_a1.wr W
      have A_a1 : Afi Z h47 a1 .byte 10 (updI (updI ar_a1 0 (nar .byte (((p3 &&& (127 : Int32)) ||| (128 : Int32)).toInt8.toInt32))) 1 (nar .byte (((p3.toUInt32 >>> ((7 : Int32) &&& 31).toUInt32).toInt32).toInt8.toInt32))) := A
      have N := Fr.snoc X N g_a1
      have K := K.wr W (Or.inl (List.mem_of_getElem? (i := 0) rfl))
      have Zs := Nat.le_trans Zs (Keep.of_wr W).1
      refine own_iloadN X hx hby (2 : Int32) d2_48 rfl 49 rfl ?_
      refine own_retI X hx hby hret hlk d2_49 (by decide) (by decide) ?_
      rw [eT]
      exact ⟨congrArg (fun z => some (Value.int z)) (by unfold f2_0; rw [if_neg c10, if_pos c10_2]), N, K, (by have q : (f2_0_ar_a1 p3 ar_a1) = (updI (updI ar_a1 0 (nar .byte (((p3 &&& (127 : Int32)) ||| (128 : Int32)).toInt8.toInt32))) 1 (nar .byte (((p3.toUInt32 >>> ((7 : Int32) &&& 31).toUInt32).toInt32).toInt8.toInt32))) := Eq.symm (by unfold f2_0_ar_a1; rw [if_neg c10, if_pos c10_2]); rw [q]; exact A_a1), E_a1⟩
    · skip
      refine own_aloadN X hx hby (.ref a1) d2_13 rfl rfl 14 rfl ?_
      refine own_iloadN X hx hby (1 : Int32) d2_14 rfl 15 rfl ?_
      refine own_iinc X hx hby d2_15 (x := (1 : Int32)) rfl (by decide) (l' := #[.val (.ref a1), .val (.int (0 : Int32)), .val (.int p3), .val (.int (2 : Int32)), .val (.int ((p3.toUInt32 >>> ((7 : Int32) &&& 31).toUInt32).toInt32))]) rfl 18 rfl ?_
      refine own_iload X hx hby ((p3.toUInt32 >>> ((7 : Int32) &&& 31).toUInt32).toInt32) d2_18 rfl 20 rfl ?_
      refine own_bipush X hx hby (127 : Int32) d2_20 rfl 22 rfl ?_
      refine own_iand X hx hby d2_22 23 rfl ?_
      refine own_sipush X hx hby (128 : Int32) d2_23 rfl 26 rfl ?_
      refine own_ior X hx hby d2_26 27 rfl ?_
      refine own_i2b X hx hby d2_27 28 rfl ?_
      refine own_bastore X hx hby hZ eT A_a1 (by decide) d2_28 29 rfl ?_
      intro T28 h28 X eT W A
      have E_a1 := E_a1.wr W
      have A_a1 : Afi Z h28 a1 .byte 10 (updI (updI ar_a1 0 (nar .byte (((p3 &&& (127 : Int32)) ||| (128 : Int32)).toInt8.toInt32))) 1 (nar .byte (((((p3.toUInt32 >>> ((7 : Int32) &&& 31).toUInt32).toInt32) &&& (127 : Int32)) ||| (128 : Int32)).toInt8.toInt32))) := A
      have N := Fr.snoc X N g_a1
      have K := K.wr W (Or.inl (List.mem_of_getElem? (i := 0) rfl))
      have Zs := Nat.le_trans Zs (Keep.of_wr W).1
      refine own_iload X hx hby ((p3.toUInt32 >>> ((7 : Int32) &&& 31).toUInt32).toInt32) d2_29 rfl 31 rfl ?_
      refine own_bipush X hx hby (7 : Int32) d2_31 rfl 33 rfl ?_
      refine own_iushr X hx hby d2_33 34 rfl ?_
      refine own_istore X hx hby d2_34 rfl (l' := #[.val (.ref a1), .val (.int (0 : Int32)), .val (.int p3), .val (.int (2 : Int32)), .val (.int ((((p3.toUInt32 >>> ((7 : Int32) &&& 31).toUInt32).toInt32).toUInt32 >>> ((7 : Int32) &&& 31).toUInt32).toInt32))]) rfl 36 rfl ?_
      refine own_goto X hx hby d2_36 5 (by decide) ?_
      refine own_iload X hx hby ((((p3.toUInt32 >>> ((7 : Int32) &&& 31).toUInt32).toInt32).toUInt32 >>> ((7 : Int32) &&& 31).toUInt32).toInt32) d2_5 rfl 7 rfl ?_
      refine own_bipush X hx hby (-128 : Int32) d2_7 rfl 9 rfl ?_
      refine own_iand X hx hby d2_9 10 rfl ?_
      refine own_if_eq X hx hby d2_10 39 13 (by decide) rfl (fun c10_3 => ?_) (fun c10_3 => ?_)
      · skip
        refine own_aloadN X hx hby (.ref a1) d2_39 rfl rfl 40 rfl ?_
        refine own_iloadN X hx hby (2 : Int32) d2_40 rfl 41 rfl ?_
        refine own_iinc X hx hby d2_41 (x := (2 : Int32)) rfl (by decide) (l' := #[.val (.ref a1), .val (.int (0 : Int32)), .val (.int p3), .val (.int (3 : Int32)), .val (.int ((((p3.toUInt32 >>> ((7 : Int32) &&& 31).toUInt32).toInt32).toUInt32 >>> ((7 : Int32) &&& 31).toUInt32).toInt32))]) rfl 44 rfl ?_
        refine own_iload X hx hby ((((p3.toUInt32 >>> ((7 : Int32) &&& 31).toUInt32).toInt32).toUInt32 >>> ((7 : Int32) &&& 31).toUInt32).toInt32) d2_44 rfl 46 rfl ?_
        refine own_i2b X hx hby d2_46 47 rfl ?_
        refine own_bastore X hx hby hZ eT A_a1 (by decide) d2_47 48 rfl ?_
        intro T47 h47 X eT W A
        have E_a1 := E_a1.wr W
        have A_a1 : Afi Z h47 a1 .byte 10 (updI (updI (updI ar_a1 0 (nar .byte (((p3 &&& (127 : Int32)) ||| (128 : Int32)).toInt8.toInt32))) 1 (nar .byte (((((p3.toUInt32 >>> ((7 : Int32) &&& 31).toUInt32).toInt32) &&& (127 : Int32)) ||| (128 : Int32)).toInt8.toInt32))) 2 (nar .byte (((((p3.toUInt32 >>> ((7 : Int32) &&& 31).toUInt32).toInt32).toUInt32 >>> ((7 : Int32) &&& 31).toUInt32).toInt32).toInt8.toInt32))) := A
        have N := Fr.snoc X N g_a1
        have K := K.wr W (Or.inl (List.mem_of_getElem? (i := 0) rfl))
        have Zs := Nat.le_trans Zs (Keep.of_wr W).1
        refine own_iloadN X hx hby (3 : Int32) d2_48 rfl 49 rfl ?_
        refine own_retI X hx hby hret hlk d2_49 (by decide) (by decide) ?_
        rw [eT]
        exact ⟨congrArg (fun z => some (Value.int z)) (by unfold f2_0; rw [if_neg c10, if_neg c10_2, if_pos c10_3]), N, K, (by have q : (f2_0_ar_a1 p3 ar_a1) = (updI (updI (updI ar_a1 0 (nar .byte (((p3 &&& (127 : Int32)) ||| (128 : Int32)).toInt8.toInt32))) 1 (nar .byte (((((p3.toUInt32 >>> ((7 : Int32) &&& 31).toUInt32).toInt32) &&& (127 : Int32)) ||| (128 : Int32)).toInt8.toInt32))) 2 (nar .byte (((((p3.toUInt32 >>> ((7 : Int32) &&& 31).toUInt32).toInt32).toUInt32 >>> ((7 : Int32) &&& 31).toUInt32).toInt32).toInt8.toInt32))) := Eq.symm (by unfold f2_0_ar_a1; rw [if_neg c10, if_neg c10_2, if_pos c10_3]); rw [q]; exact A_a1), E_a1⟩
      · skip
        refine own_aloadN X hx hby (.ref a1) d2_13 rfl rfl 14 rfl ?_
        refine own_iloadN X hx hby (2 : Int32) d2_14 rfl 15 rfl ?_
        refine own_iinc X hx hby d2_15 (x := (2 : Int32)) rfl (by decide) (l' := #[.val (.ref a1), .val (.int (0 : Int32)), .val (.int p3), .val (.int (3 : Int32)), .val (.int ((((p3.toUInt32 >>> ((7 : Int32) &&& 31).toUInt32).toInt32).toUInt32 >>> ((7 : Int32) &&& 31).toUInt32).toInt32))]) rfl 18 rfl ?_
        refine own_iload X hx hby ((((p3.toUInt32 >>> ((7 : Int32) &&& 31).toUInt32).toInt32).toUInt32 >>> ((7 : Int32) &&& 31).toUInt32).toInt32) d2_18 rfl 20 rfl ?_
        refine own_bipush X hx hby (127 : Int32) d2_20 rfl 22 rfl ?_
        refine own_iand X hx hby d2_22 23 rfl ?_
        refine own_sipush X hx hby (128 : Int32) d2_23 rfl 26 rfl ?_
        refine own_ior X hx hby d2_26 27 rfl ?_
        refine own_i2b X hx hby d2_27 28 rfl ?_
        refine own_bastore X hx hby hZ eT A_a1 (by decide) d2_28 29 rfl ?_
        intro T28 h28 X eT W A
        have E_a1 := E_a1.wr W
        have A_a1 : Afi Z h28 a1 .byte 10 (updI (updI (updI ar_a1 0 (nar .byte (((p3 &&& (127 : Int32)) ||| (128 : Int32)).toInt8.toInt32))) 1 (nar .byte (((((p3.toUInt32 >>> ((7 : Int32) &&& 31).toUInt32).toInt32) &&& (127 : Int32)) ||| (128 : Int32)).toInt8.toInt32))) 2 (nar .byte (((((((p3.toUInt32 >>> ((7 : Int32) &&& 31).toUInt32).toInt32).toUInt32 >>> ((7 : Int32) &&& 31).toUInt32).toInt32) &&& (127 : Int32)) ||| (128 : Int32)).toInt8.toInt32))) := A
        have N := Fr.snoc X N g_a1
        have K := K.wr W (Or.inl (List.mem_of_getElem? (i := 0) rfl))
        have Zs := Nat.le_trans Zs (Keep.of_wr W).1
        refine own_iload X hx hby ((((p3.toUInt32 >>> ((7 : Int32) &&& 31).toUInt32).toInt32).toUInt32 >>> ((7 : Int32) &&& 31).toUInt32).toInt32) d2_29 rfl 31 rfl ?_
        refine own_bipush X hx hby (7 : Int32) d2_31 rfl 33 rfl ?_
        refine own_iushr X hx hby d2_33 34 rfl ?_
        refine own_istore X hx hby d2_34 rfl (l' := #[.val (.ref a1), .val (.int (0 : Int32)), .val (.int p3), .val (.int (3 : Int32)), .val (.int ((((((p3.toUInt32 >>> ((7 : Int32) &&& 31).toUInt32).toInt32).toUInt32 >>> ((7 : Int32) &&& 31).toUInt32).toInt32).toUInt32 >>> ((7 : Int32) &&& 31).toUInt32).toInt32))]) rfl 36 rfl ?_
        refine own_goto X hx hby d2_36 5 (by decide) ?_
        refine own_iload X hx hby ((((((p3.toUInt32 >>> ((7 : Int32) &&& 31).toUInt32).toInt32).toUInt32 >>> ((7 : Int32) &&& 31).toUInt32).toInt32).toUInt32 >>> ((7 : Int32) &&& 31).toUInt32).toInt32) d2_5 rfl 7 rfl ?_
        refine own_bipush X hx hby (-128 : Int32) d2_7 rfl 9 rfl ?_
        refine own_iand X hx hby d2_9 10 rfl ?_
        refine own_if_eq X hx hby d2_10 39 13 (by decide) rfl (fun c10_4 => ?_) (fun c10_4 => ?_)
        · skip
          refine own_aloadN X hx hby (.ref a1) d2_39 rfl rfl 40 rfl ?_
          refine own_iloadN X hx hby (3 : Int32) d2_40 rfl 41 rfl ?_
          refine own_iinc X hx hby d2_41 (x := (3 : Int32)) rfl (by decide) (l' := #[.val (.ref a1), .val (.int (0 : Int32)), .val (.int p3), .val (.int (4 : Int32)), .val (.int ((((((p3.toUInt32 >>> ((7 : Int32) &&& 31).toUInt32).toInt32).toUInt32 >>> ((7 : Int32) &&& 31).toUInt32).toInt32).toUInt32 >>> ((7 : Int32) &&& 31).toUInt32).toInt32))]) rfl 44 rfl ?_
          refine own_iload X hx hby ((((((p3.toUInt32 >>> ((7 : Int32) &&& 31).toUInt32).toInt32).toUInt32 >>> ((7 : Int32) &&& 31).toUInt32).toInt32).toUInt32 >>> ((7 : Int32) &&& 31).toUInt32).toInt32) d2_44 rfl 46 rfl ?_
          refine own_i2b X hx hby d2_46 47 rfl ?_
          refine own_bastore X hx hby hZ eT A_a1 (by decide) d2_47 48 rfl ?_
          intro T47 h47 X eT W A
          have E_a1 := E_a1.wr W
          have A_a1 : Afi Z h47 a1 .byte 10 (updI (updI (updI (updI ar_a1 0 (nar .byte (((p3 &&& (127 : Int32)) ||| (128 : Int32)).toInt8.toInt32))) 1 (nar .byte (((((p3.toUInt32 >>> ((7 : Int32) &&& 31).toUInt32).toInt32) &&& (127 : Int32)) ||| (128 : Int32)).toInt8.toInt32))) 2 (nar .byte (((((((p3.toUInt32 >>> ((7 : Int32) &&& 31).toUInt32).toInt32).toUInt32 >>> ((7 : Int32) &&& 31).toUInt32).toInt32) &&& (127 : Int32)) ||| (128 : Int32)).toInt8.toInt32))) 3 (nar .byte (((((((p3.toUInt32 >>> ((7 : Int32) &&& 31).toUInt32).toInt32).toUInt32 >>> ((7 : Int32) &&& 31).toUInt32).toInt32).toUInt32 >>> ((7 : Int32) &&& 31).toUInt32).toInt32).toInt8.toInt32))) := A
          have N := Fr.snoc X N g_a1
          have K := K.wr W (Or.inl (List.mem_of_getElem? (i := 0) rfl))
          have Zs := Nat.le_trans Zs (Keep.of_wr W).1
          refine own_iloadN X hx hby (4 : Int32) d2_48 rfl 49 rfl ?_
          refine own_retI X hx hby hret hlk d2_49 (by decide) (by decide) ?_
          rw [eT]
          exact ⟨congrArg (fun z => some (Value.int z)) (by unfold f2_0; rw [if_neg c10, if_neg c10_2, if_neg c10_3, if_pos c10_4]), N, K, (by have q : (f2_0_ar_a1 p3 ar_a1) = (updI (updI (updI (updI ar_a1 0 (nar .byte (((p3 &&& (127 : Int32)) ||| (128 : Int32)).toInt8.toInt32))) 1 (nar .byte (((((p3.toUInt32 >>> ((7 : Int32) &&& 31).toUInt32).toInt32) &&& (127 : Int32)) ||| (128 : Int32)).toInt8.toInt32))) 2 (nar .byte (((((((p3.toUInt32 >>> ((7 : Int32) &&& 31).toUInt32).toInt32).toUInt32 >>> ((7 : Int32) &&& 31).toUInt32).toInt32) &&& (127 : Int32)) ||| (128 : Int32)).toInt8.toInt32))) 3 (nar .byte (((((((p3.toUInt32 >>> ((7 : Int32) &&& 31).toUInt32).toInt32).toUInt32 >>> ((7 : Int32) &&& 31).toUInt32).toInt32).toUInt32 >>> ((7 : Int32) &&& 31).toUInt32).toInt32).toInt8.toInt32))) := Eq.symm (by unfold f2_0_ar_a1; rw [if_neg c10, if_neg c10_2, if_neg c10_3, if_pos c10_4]); rw [q]; exact A_a1), E_a1⟩
        · skip
          refine own_aloadN X hx hby (.ref a1) d2_13 rfl rfl 14 rfl ?_
          refine own_iloadN X hx hby (3 : Int32) d2_14 rfl 15 rfl ?_
          refine own_iinc X hx hby d2_15 (x := (3 : Int32)) rfl (by decide) (l' := #[.val (.ref a1), .val (.int (0 : Int32)), .val (.int p3), .val (.int (4 : Int32)), .val (.int ((((((p3.toUInt32 >>> ((7 : Int32) &&& 31).toUInt32).toInt32).toUInt32 >>> ((7 : Int32) &&& 31).toUInt32).toInt32).toUInt32 >>> ((7 : Int32) &&& 31).toUInt32).toInt32))]) rfl 18 rfl ?_
          refine own_iload X hx hby ((((((p3.toUInt32 >>> ((7 : Int32) &&& 31).toUInt32).toInt32).toUInt32 >>> ((7 : Int32) &&& 31).toUInt32).toInt32).toUInt32 >>> ((7 : Int32) &&& 31).toUInt32).toInt32) d2_18 rfl 20 rfl ?_
          refine own_bipush X hx hby (127 : Int32) d2_20 rfl 22 rfl ?_
          refine own_iand X hx hby d2_22 23 rfl ?_
          refine own_sipush X hx hby (128 : Int32) d2_23 rfl 26 rfl ?_
          refine own_ior X hx hby d2_26 27 rfl ?_
          refine own_i2b X hx hby d2_27 28 rfl ?_
          refine own_bastore X hx hby hZ eT A_a1 (by decide) d2_28 29 rfl ?_
          intro T28 h28 X eT W A
          have E_a1 := E_a1.wr W
          have A_a1 : Afi Z h28 a1 .byte 10 (updI (updI (updI (updI ar_a1 0 (nar .byte (((p3 &&& (127 : Int32)) ||| (128 : Int32)).toInt8.toInt32))) 1 (nar .byte (((((p3.toUInt32 >>> ((7 : Int32) &&& 31).toUInt32).toInt32) &&& (127 : Int32)) ||| (128 : Int32)).toInt8.toInt32))) 2 (nar .byte (((((((p3.toUInt32 >>> ((7 : Int32) &&& 31).toUInt32).toInt32).toUInt32 >>> ((7 : Int32) &&& 31).toUInt32).toInt32) &&& (127 : Int32)) ||| (128 : Int32)).toInt8.toInt32))) 3 (nar .byte (((((((((p3.toUInt32 >>> ((7 : Int32) &&& 31).toUInt32).toInt32).toUInt32 >>> ((7 : Int32) &&& 31).toUInt32).toInt32).toUInt32 >>> ((7 : Int32) &&& 31).toUInt32).toInt32) &&& (127 : Int32)) ||| (128 : Int32)).toInt8.toInt32))) := A
          have N := Fr.snoc X N g_a1
          have K := K.wr W (Or.inl (List.mem_of_getElem? (i := 0) rfl))
          have Zs := Nat.le_trans Zs (Keep.of_wr W).1
          refine own_iload X hx hby ((((((p3.toUInt32 >>> ((7 : Int32) &&& 31).toUInt32).toInt32).toUInt32 >>> ((7 : Int32) &&& 31).toUInt32).toInt32).toUInt32 >>> ((7 : Int32) &&& 31).toUInt32).toInt32) d2_29 rfl 31 rfl ?_
          refine own_bipush X hx hby (7 : Int32) d2_31 rfl 33 rfl ?_
          refine own_iushr X hx hby d2_33 34 rfl ?_
          refine own_istore X hx hby d2_34 rfl (l' := #[.val (.ref a1), .val (.int (0 : Int32)), .val (.int p3), .val (.int (4 : Int32)), .val (.int ((((((((p3.toUInt32 >>> ((7 : Int32) &&& 31).toUInt32).toInt32).toUInt32 >>> ((7 : Int32) &&& 31).toUInt32).toInt32).toUInt32 >>> ((7 : Int32) &&& 31).toUInt32).toInt32).toUInt32 >>> ((7 : Int32) &&& 31).toUInt32).toInt32))]) rfl 36 rfl ?_
          refine own_goto X hx hby d2_36 5 (by decide) ?_
          refine own_iload X hx hby ((((((((p3.toUInt32 >>> ((7 : Int32) &&& 31).toUInt32).toInt32).toUInt32 >>> ((7 : Int32) &&& 31).toUInt32).toInt32).toUInt32 >>> ((7 : Int32) &&& 31).toUInt32).toInt32).toUInt32 >>> ((7 : Int32) &&& 31).toUInt32).toInt32) d2_5 rfl 7 rfl ?_
          refine own_bipush X hx hby (-128 : Int32) d2_7 rfl 9 rfl ?_
          refine own_iand X hx hby d2_9 10 rfl ?_
          have c10_5 : (((((((((p3.toUInt32 >>> ((7 : Int32) &&& 31).toUInt32).toInt32).toUInt32 >>> ((7 : Int32) &&& 31).toUInt32).toInt32).toUInt32 >>> ((7 : Int32) &&& 31).toUInt32).toInt32).toUInt32 >>> ((7 : Int32) &&& 31).toUInt32).toInt32) &&& (-128 : Int32)) = (0 : Int32) := own_top5 _
          refine own_if_eq X hx hby d2_10 39 13 (by decide) rfl (fun _ => ?_) (fun q => absurd c10_5 q)
          refine own_aloadN X hx hby (.ref a1) d2_39 rfl rfl 40 rfl ?_
          refine own_iloadN X hx hby (4 : Int32) d2_40 rfl 41 rfl ?_
          refine own_iinc X hx hby d2_41 (x := (4 : Int32)) rfl (by decide) (l' := #[.val (.ref a1), .val (.int (0 : Int32)), .val (.int p3), .val (.int (5 : Int32)), .val (.int ((((((((p3.toUInt32 >>> ((7 : Int32) &&& 31).toUInt32).toInt32).toUInt32 >>> ((7 : Int32) &&& 31).toUInt32).toInt32).toUInt32 >>> ((7 : Int32) &&& 31).toUInt32).toInt32).toUInt32 >>> ((7 : Int32) &&& 31).toUInt32).toInt32))]) rfl 44 rfl ?_
          refine own_iload X hx hby ((((((((p3.toUInt32 >>> ((7 : Int32) &&& 31).toUInt32).toInt32).toUInt32 >>> ((7 : Int32) &&& 31).toUInt32).toInt32).toUInt32 >>> ((7 : Int32) &&& 31).toUInt32).toInt32).toUInt32 >>> ((7 : Int32) &&& 31).toUInt32).toInt32) d2_44 rfl 46 rfl ?_
          refine own_i2b X hx hby d2_46 47 rfl ?_
          refine own_bastore X hx hby hZ eT A_a1 (by decide) d2_47 48 rfl ?_
          intro T47 h47 X eT W A
          have E_a1 := E_a1.wr W
          have A_a1 : Afi Z h47 a1 .byte 10 (updI (updI (updI (updI (updI ar_a1 0 (nar .byte (((p3 &&& (127 : Int32)) ||| (128 : Int32)).toInt8.toInt32))) 1 (nar .byte (((((p3.toUInt32 >>> ((7 : Int32) &&& 31).toUInt32).toInt32) &&& (127 : Int32)) ||| (128 : Int32)).toInt8.toInt32))) 2 (nar .byte (((((((p3.toUInt32 >>> ((7 : Int32) &&& 31).toUInt32).toInt32).toUInt32 >>> ((7 : Int32) &&& 31).toUInt32).toInt32) &&& (127 : Int32)) ||| (128 : Int32)).toInt8.toInt32))) 3 (nar .byte (((((((((p3.toUInt32 >>> ((7 : Int32) &&& 31).toUInt32).toInt32).toUInt32 >>> ((7 : Int32) &&& 31).toUInt32).toInt32).toUInt32 >>> ((7 : Int32) &&& 31).toUInt32).toInt32) &&& (127 : Int32)) ||| (128 : Int32)).toInt8.toInt32))) 4 (nar .byte (((((((((p3.toUInt32 >>> ((7 : Int32) &&& 31).toUInt32).toInt32).toUInt32 >>> ((7 : Int32) &&& 31).toUInt32).toInt32).toUInt32 >>> ((7 : Int32) &&& 31).toUInt32).toInt32).toUInt32 >>> ((7 : Int32) &&& 31).toUInt32).toInt32).toInt8.toInt32))) := A
          have N := Fr.snoc X N g_a1
          have K := K.wr W (Or.inl (List.mem_of_getElem? (i := 0) rfl))
          have Zs := Nat.le_trans Zs (Keep.of_wr W).1
          refine own_iloadN X hx hby (5 : Int32) d2_48 rfl 49 rfl ?_
          refine own_retI X hx hby hret hlk d2_49 (by decide) (by decide) ?_
          rw [eT]
          exact ⟨congrArg (fun z => some (Value.int z)) (by unfold f2_0; rw [if_neg c10, if_neg c10_2, if_neg c10_3, if_neg c10_4]), N, K, (by have q : (f2_0_ar_a1 p3 ar_a1) = (updI (updI (updI (updI (updI ar_a1 0 (nar .byte (((p3 &&& (127 : Int32)) ||| (128 : Int32)).toInt8.toInt32))) 1 (nar .byte (((((p3.toUInt32 >>> ((7 : Int32) &&& 31).toUInt32).toInt32) &&& (127 : Int32)) ||| (128 : Int32)).toInt8.toInt32))) 2 (nar .byte (((((((p3.toUInt32 >>> ((7 : Int32) &&& 31).toUInt32).toInt32).toUInt32 >>> ((7 : Int32) &&& 31).toUInt32).toInt32) &&& (127 : Int32)) ||| (128 : Int32)).toInt8.toInt32))) 3 (nar .byte (((((((((p3.toUInt32 >>> ((7 : Int32) &&& 31).toUInt32).toInt32).toUInt32 >>> ((7 : Int32) &&& 31).toUInt32).toInt32).toUInt32 >>> ((7 : Int32) &&& 31).toUInt32).toInt32) &&& (127 : Int32)) ||| (128 : Int32)).toInt8.toInt32))) 4 (nar .byte (((((((((p3.toUInt32 >>> ((7 : Int32) &&& 31).toUInt32).toInt32).toUInt32 >>> ((7 : Int32) &&& 31).toUInt32).toInt32).toUInt32 >>> ((7 : Int32) &&& 31).toUInt32).toInt32).toUInt32 >>> ((7 : Int32) &&& 31).toUInt32).toInt32).toInt8.toInt32))) := Eq.symm (by unfold f2_0_ar_a1; rw [if_neg c10, if_neg c10_2, if_neg c10_3, if_neg c10_4]); rw [q]; exact A_a1), E_a1⟩
theorem ef_2_1 (a1 : Addr) (p3 : Int32) (m : MethodId) : entryFrame m #[(.ref a1), (.int (1 : Int32)), (.int p3)] 5 = mkF m 0 #[.val (.ref a1), .val (.int (1 : Int32)), .val (.int p3), .unset, .unset] [] := by first | (simp [entryFrame, mkF, argsToLocals, Value.category]; done) | rfl
def f2_1 (p3 : Int32) : Int32 := (if (p3 &&& (-128 : Int32)) = (0 : Int32) then (2 : Int32) else (if (((p3.toUInt32 >>> ((7 : Int32) &&& 31).toUInt32).toInt32) &&& (-128 : Int32)) = (0 : Int32) then (3 : Int32) else (if (((((p3.toUInt32 >>> ((7 : Int32) &&& 31).toUInt32).toInt32).toUInt32 >>> ((7 : Int32) &&& 31).toUInt32).toInt32) &&& (-128 : Int32)) = (0 : Int32) then (4 : Int32) else (if (((((((p3.toUInt32 >>> ((7 : Int32) &&& 31).toUInt32).toInt32).toUInt32 >>> ((7 : Int32) &&& 31).toUInt32).toInt32).toUInt32 >>> ((7 : Int32) &&& 31).toUInt32).toInt32) &&& (-128 : Int32)) = (0 : Int32) then (5 : Int32) else (6 : Int32)))))
def f2_1_ar_a1 (p3 : Int32) (ar_a1 : Nat → Int32) : Nat → Int32 := (if (p3 &&& (-128 : Int32)) = (0 : Int32) then (updI ar_a1 1 (nar .byte (p3.toInt8.toInt32))) else (if (((p3.toUInt32 >>> ((7 : Int32) &&& 31).toUInt32).toInt32) &&& (-128 : Int32)) = (0 : Int32) then (updI (updI ar_a1 1 (nar .byte (((p3 &&& (127 : Int32)) ||| (128 : Int32)).toInt8.toInt32))) 2 (nar .byte (((p3.toUInt32 >>> ((7 : Int32) &&& 31).toUInt32).toInt32).toInt8.toInt32))) else (if (((((p3.toUInt32 >>> ((7 : Int32) &&& 31).toUInt32).toInt32).toUInt32 >>> ((7 : Int32) &&& 31).toUInt32).toInt32) &&& (-128 : Int32)) = (0 : Int32) then (updI (updI (updI ar_a1 1 (nar .byte (((p3 &&& (127 : Int32)) ||| (128 : Int32)).toInt8.toInt32))) 2 (nar .byte (((((p3.toUInt32 >>> ((7 : Int32) &&& 31).toUInt32).toInt32) &&& (127 : Int32)) ||| (128 : Int32)).toInt8.toInt32))) 3 (nar .byte (((((p3.toUInt32 >>> ((7 : Int32) &&& 31).toUInt32).toInt32).toUInt32 >>> ((7 : Int32) &&& 31).toUInt32).toInt32).toInt8.toInt32))) else (if (((((((p3.toUInt32 >>> ((7 : Int32) &&& 31).toUInt32).toInt32).toUInt32 >>> ((7 : Int32) &&& 31).toUInt32).toInt32).toUInt32 >>> ((7 : Int32) &&& 31).toUInt32).toInt32) &&& (-128 : Int32)) = (0 : Int32) then (updI (updI (updI (updI ar_a1 1 (nar .byte (((p3 &&& (127 : Int32)) ||| (128 : Int32)).toInt8.toInt32))) 2 (nar .byte (((((p3.toUInt32 >>> ((7 : Int32) &&& 31).toUInt32).toInt32) &&& (127 : Int32)) ||| (128 : Int32)).toInt8.toInt32))) 3 (nar .byte (((((((p3.toUInt32 >>> ((7 : Int32) &&& 31).toUInt32).toInt32).toUInt32 >>> ((7 : Int32) &&& 31).toUInt32).toInt32) &&& (127 : Int32)) ||| (128 : Int32)).toInt8.toInt32))) 4 (nar .byte (((((((p3.toUInt32 >>> ((7 : Int32) &&& 31).toUInt32).toInt32).toUInt32 >>> ((7 : Int32) &&& 31).toUInt32).toInt32).toUInt32 >>> ((7 : Int32) &&& 31).toUInt32).toInt32).toInt8.toInt32))) else (updI (updI (updI (updI (updI ar_a1 1 (nar .byte (((p3 &&& (127 : Int32)) ||| (128 : Int32)).toInt8.toInt32))) 2 (nar .byte (((((p3.toUInt32 >>> ((7 : Int32) &&& 31).toUInt32).toInt32) &&& (127 : Int32)) ||| (128 : Int32)).toInt8.toInt32))) 3 (nar .byte (((((((p3.toUInt32 >>> ((7 : Int32) &&& 31).toUInt32).toInt32).toUInt32 >>> ((7 : Int32) &&& 31).toUInt32).toInt32) &&& (127 : Int32)) ||| (128 : Int32)).toInt8.toInt32))) 4 (nar .byte (((((((((p3.toUInt32 >>> ((7 : Int32) &&& 31).toUInt32).toInt32).toUInt32 >>> ((7 : Int32) &&& 31).toUInt32).toInt32).toUInt32 >>> ((7 : Int32) &&& 31).toUInt32).toInt32) &&& (127 : Int32)) ||| (128 : Int32)).toInt8.toInt32))) 5 (nar .byte (((((((((p3.toUInt32 >>> ((7 : Int32) &&& 31).toUInt32).toInt32).toUInt32 >>> ((7 : Int32) &&& 31).toUInt32).toInt32).toUInt32 >>> ((7 : Int32) &&& 31).toUInt32).toInt32).toUInt32 >>> ((7 : Int32) &&& 31).toUInt32).toInt32).toInt8.toInt32)))))))
def Q2_1 (Z : State) (a1 : Addr) (p3 : Int32) (ar_a1 : Nat → Int32) (h0 : Heap) (n0 : Nat) (v : Option Value) (h : Heap) (L : List Loc) : Prop := v = some (.int (f2_1 p3)) ∧ Fr n0 L ∧ Keep h0 h [a1] ∧ Afi Z h a1 .byte 10 (f2_1_ar_a1 p3 ar_a1) ∧ Exa Z h a1 "[B"
set_option maxRecDepth 65536 in
set_option maxHeartbeats 40000000 in
theorem rm2_1 (l : Launch) (Z : State) (a0 : Array Value) (hw : ∀ d ∈ tables_1, d.before a0 Z = true) (a1 : Addr) (p3 : Int32) (ar_a1 : Nat → Int32) (h0 : Heap) (n0 : Nat) (Zs : n0 ≤ h0.size) (A_a1 : Afi Z h0 a1 .byte 10 ar_a1) (E_a1 : Exa Z h0 a1 "[B") (g_a1 : n0 ≤ a1) :
    Met1 l Z (⟨"com/example/kvadtree/kvadtree/Fragments", "putVarint", "([BII)I"⟩ : MethodName) prog_13_method_18_code 5 (some .int) ({ frames := 0, cells := 0, slots := 0, locals := 0 } : Room) #[(.ref a1), (.int (1 : Int32)), (.int p3)] h0 (Q2_1 Z a1 p3 ar_a1 h0 n0) := by
  refine own_met_of (plainFor_of_name pn_2) (ef_2_1 a1 p3) ?_
  intro p e s m below meth c s₁ X hx hby hml hZ hown hnm hret hlk eT
  have hown : s.vm.findClass "com/example/kvadtree/kvadtree/Fragments" = some m.cls := hown
  have N := Fr.nil n0
  have K := Keep.refl h0 [a1]
  refine own_iloadN X hx hby (1 : Int32) d2_0 rfl 1 rfl ?_
  refine own_istoreN X hx hby d2_1 rfl (l' := #[.val (.ref a1), .val (.int (1 : Int32)), .val (.int p3), .val (.int (1 : Int32)), .unset]) rfl 2 rfl ?_
  refine own_iloadN X hx hby p3 d2_2 rfl 3 rfl ?_
  refine own_istore X hx hby d2_3 rfl (l' := #[.val (.ref a1), .val (.int (1 : Int32)), .val (.int p3), .val (.int (1 : Int32)), .val (.int p3)]) rfl 5 rfl ?_
  refine own_iload X hx hby p3 d2_5 rfl 7 rfl ?_
  refine own_bipush X hx hby (-128 : Int32) d2_7 rfl 9 rfl ?_
  refine own_iand X hx hby d2_9 10 rfl ?_
  refine own_if_eq X hx hby d2_10 39 13 (by decide) rfl (fun c10 => ?_) (fun c10 => ?_)
  · skip
    refine own_aloadN X hx hby (.ref a1) d2_39 rfl rfl 40 rfl ?_
    refine own_iloadN X hx hby (1 : Int32) d2_40 rfl 41 rfl ?_
    refine own_iinc X hx hby d2_41 (x := (1 : Int32)) rfl (by decide) (l' := #[.val (.ref a1), .val (.int (1 : Int32)), .val (.int p3), .val (.int (2 : Int32)), .val (.int p3)]) rfl 44 rfl ?_
    refine own_iload X hx hby p3 d2_44 rfl 46 rfl ?_
    refine own_i2b X hx hby d2_46 47 rfl ?_
    refine own_bastore X hx hby hZ eT A_a1 (by decide) d2_47 48 rfl ?_
    intro T47 h47 X eT W A
    have E_a1 := E_a1.wr W
    have A_a1 : Afi Z h47 a1 .byte 10 (updI ar_a1 1 (nar .byte (p3.toInt8.toInt32))) := A
    have N := Fr.snoc X N g_a1
    have K := K.wr W (Or.inl (List.mem_of_getElem? (i := 0) rfl))
    have Zs := Nat.le_trans Zs (Keep.of_wr W).1
    refine own_iloadN X hx hby (2 : Int32) d2_48 rfl 49 rfl ?_
    refine own_retI X hx hby hret hlk d2_49 (by decide) (by decide) ?_
    rw [eT]
    exact ⟨congrArg (fun z => some (Value.int z)) (by unfold f2_1; rw [if_pos c10]), N, K, (by have q : (f2_1_ar_a1 p3 ar_a1) = (updI ar_a1 1 (nar .byte (p3.toInt8.toInt32))) := Eq.symm (by unfold f2_1_ar_a1; rw [if_pos c10]); rw [q]; exact A_a1), E_a1⟩
  · skip
    refine own_aloadN X hx hby (.ref a1) d2_13 rfl rfl 14 rfl ?_
    refine own_iloadN X hx hby (1 : Int32) d2_14 rfl 15 rfl ?_
    refine own_iinc X hx hby d2_15 (x := (1 : Int32)) rfl (by decide) (l' := #[.val (.ref a1), .val (.int (1 : Int32)), .val (.int p3), .val (.int (2 : Int32)), .val (.int p3)]) rfl 18 rfl ?_
    refine own_iload X hx hby p3 d2_18 rfl 20 rfl ?_
    refine own_bipush X hx hby (127 : Int32) d2_20 rfl 22 rfl ?_
    refine own_iand X hx hby d2_22 23 rfl ?_
    refine own_sipush X hx hby (128 : Int32) d2_23 rfl 26 rfl ?_
    refine own_ior X hx hby d2_26 27 rfl ?_
    refine own_i2b X hx hby d2_27 28 rfl ?_
    refine own_bastore X hx hby hZ eT A_a1 (by decide) d2_28 29 rfl ?_
    intro T28 h28 X eT W A
    have E_a1 := E_a1.wr W
    have A_a1 : Afi Z h28 a1 .byte 10 (updI ar_a1 1 (nar .byte (((p3 &&& (127 : Int32)) ||| (128 : Int32)).toInt8.toInt32))) := A
    have N := Fr.snoc X N g_a1
    have K := K.wr W (Or.inl (List.mem_of_getElem? (i := 0) rfl))
    have Zs := Nat.le_trans Zs (Keep.of_wr W).1
    refine own_iload X hx hby p3 d2_29 rfl 31 rfl ?_
    refine own_bipush X hx hby (7 : Int32) d2_31 rfl 33 rfl ?_
    refine own_iushr X hx hby d2_33 34 rfl ?_
    refine own_istore X hx hby d2_34 rfl (l' := #[.val (.ref a1), .val (.int (1 : Int32)), .val (.int p3), .val (.int (2 : Int32)), .val (.int ((p3.toUInt32 >>> ((7 : Int32) &&& 31).toUInt32).toInt32))]) rfl 36 rfl ?_
    refine own_goto X hx hby d2_36 5 (by decide) ?_
    refine own_iload X hx hby ((p3.toUInt32 >>> ((7 : Int32) &&& 31).toUInt32).toInt32) d2_5 rfl 7 rfl ?_
    refine own_bipush X hx hby (-128 : Int32) d2_7 rfl 9 rfl ?_
    refine own_iand X hx hby d2_9 10 rfl ?_
    refine own_if_eq X hx hby d2_10 39 13 (by decide) rfl (fun c10_2 => ?_) (fun c10_2 => ?_)
    · skip
      refine own_aloadN X hx hby (.ref a1) d2_39 rfl rfl 40 rfl ?_
      refine own_iloadN X hx hby (2 : Int32) d2_40 rfl 41 rfl ?_
      refine own_iinc X hx hby d2_41 (x := (2 : Int32)) rfl (by decide) (l' := #[.val (.ref a1), .val (.int (1 : Int32)), .val (.int p3), .val (.int (3 : Int32)), .val (.int ((p3.toUInt32 >>> ((7 : Int32) &&& 31).toUInt32).toInt32))]) rfl 44 rfl ?_
      refine own_iload X hx hby ((p3.toUInt32 >>> ((7 : Int32) &&& 31).toUInt32).toInt32) d2_44 rfl 46 rfl ?_
      refine own_i2b X hx hby d2_46 47 rfl ?_
      refine own_bastore X hx hby hZ eT A_a1 (by decide) d2_47 48 rfl ?_
      intro T47 h47 X eT W A
      have E_a1 := E_a1.wr W
      have A_a1 : Afi Z h47 a1 .byte 10 (updI (updI ar_a1 1 (nar .byte (((p3 &&& (127 : Int32)) ||| (128 : Int32)).toInt8.toInt32))) 2 (nar .byte (((p3.toUInt32 >>> ((7 : Int32) &&& 31).toUInt32).toInt32).toInt8.toInt32))) := A
      have N := Fr.snoc X N g_a1
      have K := K.wr W (Or.inl (List.mem_of_getElem? (i := 0) rfl))
      have Zs := Nat.le_trans Zs (Keep.of_wr W).1
      refine own_iloadN X hx hby (3 : Int32) d2_48 rfl 49 rfl ?_
      refine own_retI X hx hby hret hlk d2_49 (by decide) (by decide) ?_
      rw [eT]
      exact ⟨congrArg (fun z => some (Value.int z)) (by unfold f2_1; rw [if_neg c10, if_pos c10_2]), N, K, (by have q : (f2_1_ar_a1 p3 ar_a1) = (updI (updI ar_a1 1 (nar .byte (((p3 &&& (127 : Int32)) ||| (128 : Int32)).toInt8.toInt32))) 2 (nar .byte (((p3.toUInt32 >>> ((7 : Int32) &&& 31).toUInt32).toInt32).toInt8.toInt32))) := Eq.symm (by unfold f2_1_ar_a1; rw [if_neg c10, if_pos c10_2]); rw [q]; exact A_a1), E_a1⟩
    · skip
      refine own_aloadN X hx hby (.ref a1) d2_13 rfl rfl 14 rfl ?_
      refine own_iloadN X hx hby (2 : Int32) d2_14 rfl 15 rfl ?_
      refine own_iinc X hx hby d2_15 (x := (2 : Int32)) rfl (by decide) (l' := #[.val (.ref a1), .val (.int (1 : Int32)), .val (.int p3), .val (.int (3 : Int32)), .val (.int ((p3.toUInt32 >>> ((7 : Int32) &&& 31).toUInt32).toInt32))]) rfl 18 rfl ?_
      refine own_iload X hx hby ((p3.toUInt32 >>> ((7 : Int32) &&& 31).toUInt32).toInt32) d2_18 rfl 20 rfl ?_
      refine own_bipush X hx hby (127 : Int32) d2_20 rfl 22 rfl ?_
      refine own_iand X hx hby d2_22 23 rfl ?_
      refine own_sipush X hx hby (128 : Int32) d2_23 rfl 26 rfl ?_
      refine own_ior X hx hby d2_26 27 rfl ?_
      refine own_i2b X hx hby d2_27 28 rfl ?_
      refine own_bastore X hx hby hZ eT A_a1 (by decide) d2_28 29 rfl ?_
      intro T28 h28 X eT W A
      have E_a1 := E_a1.wr W
      have A_a1 : Afi Z h28 a1 .byte 10 (updI (updI ar_a1 1 (nar .byte (((p3 &&& (127 : Int32)) ||| (128 : Int32)).toInt8.toInt32))) 2 (nar .byte (((((p3.toUInt32 >>> ((7 : Int32) &&& 31).toUInt32).toInt32) &&& (127 : Int32)) ||| (128 : Int32)).toInt8.toInt32))) := A
      have N := Fr.snoc X N g_a1
      have K := K.wr W (Or.inl (List.mem_of_getElem? (i := 0) rfl))
      have Zs := Nat.le_trans Zs (Keep.of_wr W).1
      refine own_iload X hx hby ((p3.toUInt32 >>> ((7 : Int32) &&& 31).toUInt32).toInt32) d2_29 rfl 31 rfl ?_
      refine own_bipush X hx hby (7 : Int32) d2_31 rfl 33 rfl ?_
      refine own_iushr X hx hby d2_33 34 rfl ?_
      refine own_istore X hx hby d2_34 rfl (l' := #[.val (.ref a1), .val (.int (1 : Int32)), .val (.int p3), .val (.int (3 : Int32)), .val (.int ((((p3.toUInt32 >>> ((7 : Int32) &&& 31).toUInt32).toInt32).toUInt32 >>> ((7 : Int32) &&& 31).toUInt32).toInt32))]) rfl 36 rfl ?_
      refine own_goto X hx hby d2_36 5 (by decide) ?_
      refine own_iload X hx hby ((((p3.toUInt32 >>> ((7 : Int32) &&& 31).toUInt32).toInt32).toUInt32 >>> ((7 : Int32) &&& 31).toUInt32).toInt32) d2_5 rfl 7 rfl ?_
      refine own_bipush X hx hby (-128 : Int32) d2_7 rfl 9 rfl ?_
      refine own_iand X hx hby d2_9 10 rfl ?_
      refine own_if_eq X hx hby d2_10 39 13 (by decide) rfl (fun c10_3 => ?_) (fun c10_3 => ?_)
      · skip
        refine own_aloadN X hx hby (.ref a1) d2_39 rfl rfl 40 rfl ?_
        refine own_iloadN X hx hby (3 : Int32) d2_40 rfl 41 rfl ?_
        refine own_iinc X hx hby d2_41 (x := (3 : Int32)) rfl (by decide) (l' := #[.val (.ref a1), .val (.int (1 : Int32)), .val (.int p3), .val (.int (4 : Int32)), .val (.int ((((p3.toUInt32 >>> ((7 : Int32) &&& 31).toUInt32).toInt32).toUInt32 >>> ((7 : Int32) &&& 31).toUInt32).toInt32))]) rfl 44 rfl ?_
        refine own_iload X hx hby ((((p3.toUInt32 >>> ((7 : Int32) &&& 31).toUInt32).toInt32).toUInt32 >>> ((7 : Int32) &&& 31).toUInt32).toInt32) d2_44 rfl 46 rfl ?_
        refine own_i2b X hx hby d2_46 47 rfl ?_
        refine own_bastore X hx hby hZ eT A_a1 (by decide) d2_47 48 rfl ?_
        intro T47 h47 X eT W A
        have E_a1 := E_a1.wr W
        have A_a1 : Afi Z h47 a1 .byte 10 (updI (updI (updI ar_a1 1 (nar .byte (((p3 &&& (127 : Int32)) ||| (128 : Int32)).toInt8.toInt32))) 2 (nar .byte (((((p3.toUInt32 >>> ((7 : Int32) &&& 31).toUInt32).toInt32) &&& (127 : Int32)) ||| (128 : Int32)).toInt8.toInt32))) 3 (nar .byte (((((p3.toUInt32 >>> ((7 : Int32) &&& 31).toUInt32).toInt32).toUInt32 >>> ((7 : Int32) &&& 31).toUInt32).toInt32).toInt8.toInt32))) := A
        have N := Fr.snoc X N g_a1
        have K := K.wr W (Or.inl (List.mem_of_getElem? (i := 0) rfl))
        have Zs := Nat.le_trans Zs (Keep.of_wr W).1
        refine own_iloadN X hx hby (4 : Int32) d2_48 rfl 49 rfl ?_
        refine own_retI X hx hby hret hlk d2_49 (by decide) (by decide) ?_
        rw [eT]
        exact ⟨congrArg (fun z => some (Value.int z)) (by unfold f2_1; rw [if_neg c10, if_neg c10_2, if_pos c10_3]), N, K, (by have q : (f2_1_ar_a1 p3 ar_a1) = (updI (updI (updI ar_a1 1 (nar .byte (((p3 &&& (127 : Int32)) ||| (128 : Int32)).toInt8.toInt32))) 2 (nar .byte (((((p3.toUInt32 >>> ((7 : Int32) &&& 31).toUInt32).toInt32) &&& (127 : Int32)) ||| (128 : Int32)).toInt8.toInt32))) 3 (nar .byte (((((p3.toUInt32 >>> ((7 : Int32) &&& 31).toUInt32).toInt32).toUInt32 >>> ((7 : Int32) &&& 31).toUInt32).toInt32).toInt8.toInt32))) := Eq.symm (by unfold f2_1_ar_a1; rw [if_neg c10, if_neg c10_2, if_pos c10_3]); rw [q]; exact A_a1), E_a1⟩
      · skip
        refine own_aloadN X hx hby (.ref a1) d2_13 rfl rfl 14 rfl ?_
        refine own_iloadN X hx hby (3 : Int32) d2_14 rfl 15 rfl ?_
        refine own_iinc X hx hby d2_15 (x := (3 : Int32)) rfl (by decide) (l' := #[.val (.ref a1), .val (.int (1 : Int32)), .val (.int p3), .val (.int (4 : Int32)), .val (.int ((((p3.toUInt32 >>> ((7 : Int32) &&& 31).toUInt32).toInt32).toUInt32 >>> ((7 : Int32) &&& 31).toUInt32).toInt32))]) rfl 18 rfl ?_
        refine own_iload X hx hby ((((p3.toUInt32 >>> ((7 : Int32) &&& 31).toUInt32).toInt32).toUInt32 >>> ((7 : Int32) &&& 31).toUInt32).toInt32) d2_18 rfl 20 rfl ?_
        refine own_bipush X hx hby (127 : Int32) d2_20 rfl 22 rfl ?_
        refine own_iand X hx hby d2_22 23 rfl ?_
        refine own_sipush X hx hby (128 : Int32) d2_23 rfl 26 rfl ?_
        refine own_ior X hx hby d2_26 27 rfl ?_
        refine own_i2b X hx hby d2_27 28 rfl ?_
        refine own_bastore X hx hby hZ eT A_a1 (by decide) d2_28 29 rfl ?_
        intro T28 h28 X eT W A
        have E_a1 := E_a1.wr W
        have A_a1 : Afi Z h28 a1 .byte 10 (updI (updI (updI ar_a1 1 (nar .byte (((p3 &&& (127 : Int32)) ||| (128 : Int32)).toInt8.toInt32))) 2 (nar .byte (((((p3.toUInt32 >>> ((7 : Int32) &&& 31).toUInt32).toInt32) &&& (127 : Int32)) ||| (128 : Int32)).toInt8.toInt32))) 3 (nar .byte (((((((p3.toUInt32 >>> ((7 : Int32) &&& 31).toUInt32).toInt32).toUInt32 >>> ((7 : Int32) &&& 31).toUInt32).toInt32) &&& (127 : Int32)) ||| (128 : Int32)).toInt8.toInt32))) := A
        have N := Fr.snoc X N g_a1
        have K := K.wr W (Or.inl (List.mem_of_getElem? (i := 0) rfl))
        have Zs := Nat.le_trans Zs (Keep.of_wr W).1
        refine own_iload X hx hby ((((p3.toUInt32 >>> ((7 : Int32) &&& 31).toUInt32).toInt32).toUInt32 >>> ((7 : Int32) &&& 31).toUInt32).toInt32) d2_29 rfl 31 rfl ?_
        refine own_bipush X hx hby (7 : Int32) d2_31 rfl 33 rfl ?_
        refine own_iushr X hx hby d2_33 34 rfl ?_
        refine own_istore X hx hby d2_34 rfl (l' := #[.val (.ref a1), .val (.int (1 : Int32)), .val (.int p3), .val (.int (4 : Int32)), .val (.int ((((((p3.toUInt32 >>> ((7 : Int32) &&& 31).toUInt32).toInt32).toUInt32 >>> ((7 : Int32) &&& 31).toUInt32).toInt32).toUInt32 >>> ((7 : Int32) &&& 31).toUInt32).toInt32))]) rfl 36 rfl ?_
        refine own_goto X hx hby d2_36 5 (by decide) ?_
        refine own_iload X hx hby ((((((p3.toUInt32 >>> ((7 : Int32) &&& 31).toUInt32).toInt32).toUInt32 >>> ((7 : Int32) &&& 31).toUInt32).toInt32).toUInt32 >>> ((7 : Int32) &&& 31).toUInt32).toInt32) d2_5 rfl 7 rfl ?_
        refine own_bipush X hx hby (-128 : Int32) d2_7 rfl 9 rfl ?_
        refine own_iand X hx hby d2_9 10 rfl ?_
        refine own_if_eq X hx hby d2_10 39 13 (by decide) rfl (fun c10_4 => ?_) (fun c10_4 => ?_)
        · skip
          refine own_aloadN X hx hby (.ref a1) d2_39 rfl rfl 40 rfl ?_
          refine own_iloadN X hx hby (4 : Int32) d2_40 rfl 41 rfl ?_
          refine own_iinc X hx hby d2_41 (x := (4 : Int32)) rfl (by decide) (l' := #[.val (.ref a1), .val (.int (1 : Int32)), .val (.int p3), .val (.int (5 : Int32)), .val (.int ((((((p3.toUInt32 >>> ((7 : Int32) &&& 31).toUInt32).toInt32).toUInt32 >>> ((7 : Int32) &&& 31).toUInt32).toInt32).toUInt32 >>> ((7 : Int32) &&& 31).toUInt32).toInt32))]) rfl 44 rfl ?_
          refine own_iload X hx hby ((((((p3.toUInt32 >>> ((7 : Int32) &&& 31).toUInt32).toInt32).toUInt32 >>> ((7 : Int32) &&& 31).toUInt32).toInt32).toUInt32 >>> ((7 : Int32) &&& 31).toUInt32).toInt32) d2_44 rfl 46 rfl ?_
          refine own_i2b X hx hby d2_46 47 rfl ?_
          refine own_bastore X hx hby hZ eT A_a1 (by decide) d2_47 48 rfl ?_
          intro T47 h47 X eT W A
          have E_a1 := E_a1.wr W
          have A_a1 : Afi Z h47 a1 .byte 10 (updI (updI (updI (updI ar_a1 1 (nar .byte (((p3 &&& (127 : Int32)) ||| (128 : Int32)).toInt8.toInt32))) 2 (nar .byte (((((p3.toUInt32 >>> ((7 : Int32) &&& 31).toUInt32).toInt32) &&& (127 : Int32)) ||| (128 : Int32)).toInt8.toInt32))) 3 (nar .byte (((((((p3.toUInt32 >>> ((7 : Int32) &&& 31).toUInt32).toInt32).toUInt32 >>> ((7 : Int32) &&& 31).toUInt32).toInt32) &&& (127 : Int32)) ||| (128 : Int32)).toInt8.toInt32))) 4 (nar .byte (((((((p3.toUInt32 >>> ((7 : Int32) &&& 31).toUInt32).toInt32).toUInt32 >>> ((7 : Int32) &&& 31).toUInt32).toInt32).toUInt32 >>> ((7 : Int32) &&& 31).toUInt32).toInt32).toInt8.toInt32))) := A
          have N := Fr.snoc X N g_a1
          have K := K.wr W (Or.inl (List.mem_of_getElem? (i := 0) rfl))
          have Zs := Nat.le_trans Zs (Keep.of_wr W).1
          refine own_iloadN X hx hby (5 : Int32) d2_48 rfl 49 rfl ?_
          refine own_retI X hx hby hret hlk d2_49 (by decide) (by decide) ?_
          rw [eT]
          exact ⟨congrArg (fun z => some (Value.int z)) (by unfold f2_1; rw [if_neg c10, if_neg c10_2, if_neg c10_3, if_pos c10_4]), N, K, (by have q : (f2_1_ar_a1 p3 ar_a1) = (updI (updI (updI (updI ar_a1 1 (nar .byte (((p3 &&& (127 : Int32)) ||| (128 : Int32)).toInt8.toInt32))) 2 (nar .byte (((((p3.toUInt32 >>> ((7 : Int32) &&& 31).toUInt32).toInt32) &&& (127 : Int32)) ||| (128 : Int32)).toInt8.toInt32))) 3 (nar .byte (((((((p3.toUInt32 >>> ((7 : Int32) &&& 31).toUInt32).toInt32).toUInt32 >>> ((7 : Int32) &&& 31).toUInt32).toInt32) &&& (127 : Int32)) ||| (128 : Int32)).toInt8.toInt32))) 4 (nar .byte (((((((p3.toUInt32 >>> ((7 : Int32) &&& 31).toUInt32).toInt32).toUInt32 >>> ((7 : Int32) &&& 31).toUInt32).toInt32).toUInt32 >>> ((7 : Int32) &&& 31).toUInt32).toInt32).toInt8.toInt32))) := Eq.symm (by unfold f2_1_ar_a1; rw [if_neg c10, if_neg c10_2, if_neg c10_3, if_pos c10_4]); rw [q]; exact A_a1), E_a1⟩
        · skip
          refine own_aloadN X hx hby (.ref a1) d2_13 rfl rfl 14 rfl ?_
          refine own_iloadN X hx hby (4 : Int32) d2_14 rfl 15 rfl ?_
          refine own_iinc X hx hby d2_15 (x := (4 : Int32)) rfl (by decide) (l' := #[.val (.ref a1), .val (.int (1 : Int32)), .val (.int p3), .val (.int (5 : Int32)), .val (.int ((((((p3.toUInt32 >>> ((7 : Int32) &&& 31).toUInt32).toInt32).toUInt32 >>> ((7 : Int32) &&& 31).toUInt32).toInt32).toUInt32 >>> ((7 : Int32) &&& 31).toUInt32).toInt32))]) rfl 18 rfl ?_
          refine own_iload X hx hby ((((((p3.toUInt32 >>> ((7 : Int32) &&& 31).toUInt32).toInt32).toUInt32 >>> ((7 : Int32) &&& 31).toUInt32).toInt32).toUInt32 >>> ((7 : Int32) &&& 31).toUInt32).toInt32) d2_18 rfl 20 rfl ?_
          refine own_bipush X hx hby (127 : Int32) d2_20 rfl 22 rfl ?_
          refine own_iand X hx hby d2_22 23 rfl ?_
          refine own_sipush X hx hby (128 : Int32) d2_23 rfl 26 rfl ?_
          refine own_ior X hx hby d2_26 27 rfl ?_
          refine own_i2b X hx hby d2_27 28 rfl ?_
          refine own_bastore X hx hby hZ eT A_a1 (by decide) d2_28 29 rfl ?_
          intro T28 h28 X eT W A
          have E_a1 := E_a1.wr W
          have A_a1 : Afi Z h28 a1 .byte 10 (updI (updI (updI (updI ar_a1 1 (nar .byte (((p3 &&& (127 : Int32)) ||| (128 : Int32)).toInt8.toInt32))) 2 (nar .byte (((((p3.toUInt32 >>> ((7 : Int32) &&& 31).toUInt32).toInt32) &&& (127 : Int32)) ||| (128 : Int32)).toInt8.toInt32))) 3 (nar .byte (((((((p3.toUInt32 >>> ((7 : Int32) &&& 31).toUInt32).toInt32).toUInt32 >>> ((7 : Int32) &&& 31).toUInt32).toInt32) &&& (127 : Int32)) ||| (128 : Int32)).toInt8.toInt32))) 4 (nar .byte (((((((((p3.toUInt32 >>> ((7 : Int32) &&& 31).toUInt32).toInt32).toUInt32 >>> ((7 : Int32) &&& 31).toUInt32).toInt32).toUInt32 >>> ((7 : Int32) &&& 31).toUInt32).toInt32) &&& (127 : Int32)) ||| (128 : Int32)).toInt8.toInt32))) := A
          have N := Fr.snoc X N g_a1
          have K := K.wr W (Or.inl (List.mem_of_getElem? (i := 0) rfl))
          have Zs := Nat.le_trans Zs (Keep.of_wr W).1
          refine own_iload X hx hby ((((((p3.toUInt32 >>> ((7 : Int32) &&& 31).toUInt32).toInt32).toUInt32 >>> ((7 : Int32) &&& 31).toUInt32).toInt32).toUInt32 >>> ((7 : Int32) &&& 31).toUInt32).toInt32) d2_29 rfl 31 rfl ?_
          refine own_bipush X hx hby (7 : Int32) d2_31 rfl 33 rfl ?_
          refine own_iushr X hx hby d2_33 34 rfl ?_
          refine own_istore X hx hby d2_34 rfl (l' := #[.val (.ref a1), .val (.int (1 : Int32)), .val (.int p3), .val (.int (5 : Int32)), .val (.int ((((((((p3.toUInt32 >>> ((7 : Int32) &&& 31).toUInt32).toInt32).toUInt32 >>> ((7 : Int32) &&& 31).toUInt32).toInt32).toUInt32 >>> ((7 : Int32) &&& 31).toUInt32).toInt32).toUInt32 >>> ((7 : Int32) &&& 31).toUInt32).toInt32))]) rfl 36 rfl ?_
          refine own_goto X hx hby d2_36 5 (by decide) ?_
          refine own_iload X hx hby ((((((((p3.toUInt32 >>> ((7 : Int32) &&& 31).toUInt32).toInt32).toUInt32 >>> ((7 : Int32) &&& 31).toUInt32).toInt32).toUInt32 >>> ((7 : Int32) &&& 31).toUInt32).toInt32).toUInt32 >>> ((7 : Int32) &&& 31).toUInt32).toInt32) d2_5 rfl 7 rfl ?_
          refine own_bipush X hx hby (-128 : Int32) d2_7 rfl 9 rfl ?_
          refine own_iand X hx hby d2_9 10 rfl ?_
          have c10_5 : (((((((((p3.toUInt32 >>> ((7 : Int32) &&& 31).toUInt32).toInt32).toUInt32 >>> ((7 : Int32) &&& 31).toUInt32).toInt32).toUInt32 >>> ((7 : Int32) &&& 31).toUInt32).toInt32).toUInt32 >>> ((7 : Int32) &&& 31).toUInt32).toInt32) &&& (-128 : Int32)) = (0 : Int32) := own_top5 _
          refine own_if_eq X hx hby d2_10 39 13 (by decide) rfl (fun _ => ?_) (fun q => absurd c10_5 q)
          refine own_aloadN X hx hby (.ref a1) d2_39 rfl rfl 40 rfl ?_
          refine own_iloadN X hx hby (5 : Int32) d2_40 rfl 41 rfl ?_
          refine own_iinc X hx hby d2_41 (x := (5 : Int32)) rfl (by decide) (l' := #[.val (.ref a1), .val (.int (1 : Int32)), .val (.int p3), .val (.int (6 : Int32)), .val (.int ((((((((p3.toUInt32 >>> ((7 : Int32) &&& 31).toUInt32).toInt32).toUInt32 >>> ((7 : Int32) &&& 31).toUInt32).toInt32).toUInt32 >>> ((7 : Int32) &&& 31).toUInt32).toInt32).toUInt32 >>> ((7 : Int32) &&& 31).toUInt32).toInt32))]) rfl 44 rfl ?_
          refine own_iload X hx hby ((((((((p3.toUInt32 >>> ((7 : Int32) &&& 31).toUInt32).toInt32).toUInt32 >>> ((7 : Int32) &&& 31).toUInt32).toInt32).toUInt32 >>> ((7 : Int32) &&& 31).toUInt32).toInt32).toUInt32 >>> ((7 : Int32) &&& 31).toUInt32).toInt32) d2_44 rfl 46 rfl ?_
          refine own_i2b X hx hby d2_46 47 rfl ?_
          refine own_bastore X hx hby hZ eT A_a1 (by decide) d2_47 48 rfl ?_
          intro T47 h47 X eT W A
          have E_a1 := E_a1.wr W
          have A_a1 : Afi Z h47 a1 .byte 10 (updI (updI (updI (updI (updI ar_a1 1 (nar .byte (((p3 &&& (127 : Int32)) ||| (128 : Int32)).toInt8.toInt32))) 2 (nar .byte (((((p3.toUInt32 >>> ((7 : Int32) &&& 31).toUInt32).toInt32) &&& (127 : Int32)) ||| (128 : Int32)).toInt8.toInt32))) 3 (nar .byte (((((((p3.toUInt32 >>> ((7 : Int32) &&& 31).toUInt32).toInt32).toUInt32 >>> ((7 : Int32) &&& 31).toUInt32).toInt32) &&& (127 : Int32)) ||| (128 : Int32)).toInt8.toInt32))) 4 (nar .byte (((((((((p3.toUInt32 >>> ((7 : Int32) &&& 31).toUInt32).toInt32).toUInt32 >>> ((7 : Int32) &&& 31).toUInt32).toInt32).toUInt32 >>> ((7 : Int32) &&& 31).toUInt32).toInt32) &&& (127 : Int32)) ||| (128 : Int32)).toInt8.toInt32))) 5 (nar .byte (((((((((p3.toUInt32 >>> ((7 : Int32) &&& 31).toUInt32).toInt32).toUInt32 >>> ((7 : Int32) &&& 31).toUInt32).toInt32).toUInt32 >>> ((7 : Int32) &&& 31).toUInt32).toInt32).toUInt32 >>> ((7 : Int32) &&& 31).toUInt32).toInt32).toInt8.toInt32))) := A
          have N := Fr.snoc X N g_a1
          have K := K.wr W (Or.inl (List.mem_of_getElem? (i := 0) rfl))
          have Zs := Nat.le_trans Zs (Keep.of_wr W).1
          refine own_iloadN X hx hby (6 : Int32) d2_48 rfl 49 rfl ?_
          refine own_retI X hx hby hret hlk d2_49 (by decide) (by decide) ?_
          rw [eT]
          exact ⟨congrArg (fun z => some (Value.int z)) (by unfold f2_1; rw [if_neg c10, if_neg c10_2, if_neg c10_3, if_neg c10_4]), N, K, (by have q : (f2_1_ar_a1 p3 ar_a1) = (updI (updI (updI (updI (updI ar_a1 1 (nar .byte (((p3 &&& (127 : Int32)) ||| (128 : Int32)).toInt8.toInt32))) 2 (nar .byte (((((p3.toUInt32 >>> ((7 : Int32) &&& 31).toUInt32).toInt32) &&& (127 : Int32)) ||| (128 : Int32)).toInt8.toInt32))) 3 (nar .byte (((((((p3.toUInt32 >>> ((7 : Int32) &&& 31).toUInt32).toInt32).toUInt32 >>> ((7 : Int32) &&& 31).toUInt32).toInt32) &&& (127 : Int32)) ||| (128 : Int32)).toInt8.toInt32))) 4 (nar .byte (((((((((p3.toUInt32 >>> ((7 : Int32) &&& 31).toUInt32).toInt32).toUInt32 >>> ((7 : Int32) &&& 31).toUInt32).toInt32).toUInt32 >>> ((7 : Int32) &&& 31).toUInt32).toInt32) &&& (127 : Int32)) ||| (128 : Int32)).toInt8.toInt32))) 5 (nar .byte (((((((((p3.toUInt32 >>> ((7 : Int32) &&& 31).toUInt32).toInt32).toUInt32 >>> ((7 : Int32) &&& 31).toUInt32).toInt32).toUInt32 >>> ((7 : Int32) &&& 31).toUInt32).toInt32).toUInt32 >>> ((7 : Int32) &&& 31).toUInt32).toInt32).toInt8.toInt32))) := Eq.symm (by unfold f2_1_ar_a1; rw [if_neg c10, if_neg c10_2, if_neg c10_3, if_neg c10_4]); rw [q]; exact A_a1), E_a1⟩
theorem ef_2_2 (a1 : Addr) (p3 : Int32) (m : MethodId) : entryFrame m #[(.ref a1), (.int (2 : Int32)), (.int p3)] 5 = mkF m 0 #[.val (.ref a1), .val (.int (2 : Int32)), .val (.int p3), .unset, .unset] [] := by first | (simp [entryFrame, mkF, argsToLocals, Value.category]; done) | rfl
def f2_2 (p3 : Int32) : Int32 := (if (p3 &&& (-128 : Int32)) = (0 : Int32) then (3 : Int32) else (if (((p3.toUInt32 >>> ((7 : Int32) &&& 31).toUInt32).toInt32) &&& (-128 : Int32)) = (0 : Int32) then (4 : Int32) else (if (((((p3.toUInt32 >>> ((7 : Int32) &&& 31).toUInt32).toInt32).toUInt32 >>> ((7 : Int32) &&& 31).toUInt32).toInt32) &&& (-128 : Int32)) = (0 : Int32) then (5 : Int32) else (if (((((((p3.toUInt32 >>> ((7 : Int32) &&& 31).toUInt32).toInt32).toUInt32 >>> ((7 : Int32) &&& 31).toUInt32).toInt32).toUInt32 >>> ((7 : Int32) &&& 31).toUInt32).toInt32) &&& (-128 : Int32)) = (0 : Int32) then (6 : Int32) else (7 : Int32)))))
def f2_2_ar_a1 (p3 : Int32) (ar_a1 : Nat → Int32) : Nat → Int32 := (if (p3 &&& (-128 : Int32)) = (0 : Int32) then (updI ar_a1 2 (nar .byte (p3.toInt8.toInt32))) else (if (((p3.toUInt32 >>> ((7 : Int32) &&& 31).toUInt32).toInt32) &&& (-128 : Int32)) = (0 : Int32) then (updI (updI ar_a1 2 (nar .byte (((p3 &&& (127 : Int32)) ||| (128 : Int32)).toInt8.toInt32))) 3 (nar .byte (((p3.toUInt32 >>> ((7 : Int32) &&& 31).toUInt32).toInt32).toInt8.toInt32))) else (if (((((p3.toUInt32 >>> ((7 : Int32) &&& 31).toUInt32).toInt32).toUInt32 >>> ((7 : Int32) &&& 31).toUInt32).toInt32) &&& (-128 : Int32)) = (0 : Int32) then (updI (updI (updI ar_a1 2 (nar .byte (((p3 &&& (127 : Int32)) ||| (128 : Int32)).toInt8.toInt32))) 3 (nar .byte (((((p3.toUInt32 >>> ((7 : Int32) &&& 31).toUInt32).toInt32) &&& (127 : Int32)) ||| (128 : Int32)).toInt8.toInt32))) 4 (nar .byte (((((p3.toUInt32 >>> ((7 : Int32) &&& 31).toUInt32).toInt32).toUInt32 >>> ((7 : Int32) &&& 31).toUInt32).toInt32).toInt8.toInt32))) else (if (((((((p3.toUInt32 >>> ((7 : Int32) &&& 31).toUInt32).toInt32).toUInt32 >>> ((7 : Int32) &&& 31).toUInt32).toInt32).toUInt32 >>> ((7 : Int32) &&& 31).toUInt32).toInt32) &&& (-128 : Int32)) = (0 : Int32) then (updI (updI (updI (updI ar_a1 2 (nar .byte (((p3 &&& (127 : Int32)) ||| (128 : Int32)).toInt8.toInt32))) 3 (nar .byte (((((p3.toUInt32 >>> ((7 : Int32) &&& 31).toUInt32).toInt32) &&& (127 : Int32)) ||| (128 : Int32)).toInt8.toInt32))) 4 (nar .byte (((((((p3.toUInt32 >>> ((7 : Int32) &&& 31).toUInt32).toInt32).toUInt32 >>> ((7 : Int32) &&& 31).toUInt32).toInt32) &&& (127 : Int32)) ||| (128 : Int32)).toInt8.toInt32))) 5 (nar .byte (((((((p3.toUInt32 >>> ((7 : Int32) &&& 31).toUInt32).toInt32).toUInt32 >>> ((7 : Int32) &&& 31).toUInt32).toInt32).toUInt32 >>> ((7 : Int32) &&& 31).toUInt32).toInt32).toInt8.toInt32))) else (updI (updI (updI (updI (updI ar_a1 2 (nar .byte (((p3 &&& (127 : Int32)) ||| (128 : Int32)).toInt8.toInt32))) 3 (nar .byte (((((p3.toUInt32 >>> ((7 : Int32) &&& 31).toUInt32).toInt32) &&& (127 : Int32)) ||| (128 : Int32)).toInt8.toInt32))) 4 (nar .byte (((((((p3.toUInt32 >>> ((7 : Int32) &&& 31).toUInt32).toInt32).toUInt32 >>> ((7 : Int32) &&& 31).toUInt32).toInt32) &&& (127 : Int32)) ||| (128 : Int32)).toInt8.toInt32))) 5 (nar .byte (((((((((p3.toUInt32 >>> ((7 : Int32) &&& 31).toUInt32).toInt32).toUInt32 >>> ((7 : Int32) &&& 31).toUInt32).toInt32).toUInt32 >>> ((7 : Int32) &&& 31).toUInt32).toInt32) &&& (127 : Int32)) ||| (128 : Int32)).toInt8.toInt32))) 6 (nar .byte (((((((((p3.toUInt32 >>> ((7 : Int32) &&& 31).toUInt32).toInt32).toUInt32 >>> ((7 : Int32) &&& 31).toUInt32).toInt32).toUInt32 >>> ((7 : Int32) &&& 31).toUInt32).toInt32).toUInt32 >>> ((7 : Int32) &&& 31).toUInt32).toInt32).toInt8.toInt32)))))))
def Q2_2 (Z : State) (a1 : Addr) (p3 : Int32) (ar_a1 : Nat → Int32) (h0 : Heap) (n0 : Nat) (v : Option Value) (h : Heap) (L : List Loc) : Prop := v = some (.int (f2_2 p3)) ∧ Fr n0 L ∧ Keep h0 h [a1] ∧ Afi Z h a1 .byte 10 (f2_2_ar_a1 p3 ar_a1) ∧ Exa Z h a1 "[B"
set_option maxRecDepth 65536 in
set_option maxHeartbeats 40000000 in
theorem rm2_2 (l : Launch) (Z : State) (a0 : Array Value) (hw : ∀ d ∈ tables_1, d.before a0 Z = true) (a1 : Addr) (p3 : Int32) (ar_a1 : Nat → Int32) (h0 : Heap) (n0 : Nat) (Zs : n0 ≤ h0.size) (A_a1 : Afi Z h0 a1 .byte 10 ar_a1) (E_a1 : Exa Z h0 a1 "[B") (g_a1 : n0 ≤ a1) :
    Met1 l Z (⟨"com/example/kvadtree/kvadtree/Fragments", "putVarint", "([BII)I"⟩ : MethodName) prog_13_method_18_code 5 (some .int) ({ frames := 0, cells := 0, slots := 0, locals := 0 } : Room) #[(.ref a1), (.int (2 : Int32)), (.int p3)] h0 (Q2_2 Z a1 p3 ar_a1 h0 n0) := by
  refine own_met_of (plainFor_of_name pn_2) (ef_2_2 a1 p3) ?_
  intro p e s m below meth c s₁ X hx hby hml hZ hown hnm hret hlk eT
  have hown : s.vm.findClass "com/example/kvadtree/kvadtree/Fragments" = some m.cls := hown
  have N := Fr.nil n0
  have K := Keep.refl h0 [a1]
  refine own_iloadN X hx hby (2 : Int32) d2_0 rfl 1 rfl ?_
  refine own_istoreN X hx hby d2_1 rfl (l' := #[.val (.ref a1), .val (.int (2 : Int32)), .val (.int p3), .val (.int (2 : Int32)), .unset]) rfl 2 rfl ?_
  refine own_iloadN X hx hby p3 d2_2 rfl 3 rfl ?_
  refine own_istore X hx hby d2_3 rfl (l' := #[.val (.ref a1), .val (.int (2 : Int32)), .val (.int p3), .val (.int (2 : Int32)), .val (.int p3)]) rfl 5 rfl ?_
  refine own_iload X hx hby p3 d2_5 rfl 7 rfl ?_
  refine own_bipush X hx hby (-128 : Int32) d2_7 rfl 9 rfl ?_
  refine own_iand X hx hby d2_9 10 rfl ?_
  refine own_if_eq X hx hby d2_10 39 13 (by decide) rfl (fun c10 => ?_) (fun c10 => ?_)
  · skip
    refine own_aloadN X hx hby (.ref a1) d2_39 rfl rfl 40 rfl ?_
    refine own_iloadN X hx hby (2 : Int32) d2_40 rfl 41 rfl ?_
    refine own_iinc X hx hby d2_41 (x := (2 : Int32)) rfl (by decide) (l' := #[.val (.ref a1), .val (.int (2 : Int32)), .val (.int p3), .val (.int (3 : Int32)), .val (.int p3)]) rfl 44 rfl ?_
    refine own_iload X hx hby p3 d2_44 rfl 46 rfl ?_
    refine own_i2b X hx hby d2_46 47 rfl ?_
    refine own_bastore X hx hby hZ eT A_a1 (by decide) d2_47 48 rfl ?_
    intro T47 h47 X eT W A
    have E_a1 := E_a1.wr W
    have A_a1 : Afi Z h47 a1 .byte 10 (updI ar_a1 2 (nar .byte (p3.toInt8.toInt32))) := A
    have N := Fr.snoc X N g_a1
    have K := K.wr W (Or.inl (List.mem_of_getElem? (i := 0) rfl))
    have Zs := Nat.le_trans Zs (Keep.of_wr W).1
    refine own_iloadN X hx hby (3 : Int32) d2_48 rfl 49 rfl ?_
    refine own_retI X hx hby hret hlk d2_49 (by decide) (by decide) ?_
    rw [eT]
    exact ⟨congrArg (fun z => some (Value.int z)) (by unfold f2_2; rw [if_pos c10]), N, K, (by have q : (f2_2_ar_a1 p3 ar_a1) = (updI ar_a1 2 (nar .byte (p3.toInt8.toInt32))) := Eq.symm (by unfold f2_2_ar_a1; rw [if_pos c10]); rw [q]; exact A_a1), E_a1⟩
  · skip
    refine own_aloadN X hx hby (.ref a1) d2_13 rfl rfl 14 rfl ?_
    refine own_iloadN X hx hby (2 : Int32) d2_14 rfl 15 rfl ?_
    refine own_iinc X hx hby d2_15 (x := (2 : Int32)) rfl (by decide) (l' := #[.val (.ref a1), .val (.int (2 : Int32)), .val (.int p3), .val (.int (3 : Int32)), .val (.int p3)]) rfl 18 rfl ?_
    refine own_iload X hx hby p3 d2_18 rfl 20 rfl ?_
    refine own_bipush X hx hby (127 : Int32) d2_20 rfl 22 rfl ?_
    refine own_iand X hx hby d2_22 23 rfl ?_
    refine own_sipush X hx hby (128 : Int32) d2_23 rfl 26 rfl ?_
    refine own_ior X hx hby d2_26 27 rfl ?_
    refine own_i2b X hx hby d2_27 28 rfl ?_
    refine own_bastore X hx hby hZ eT A_a1 (by decide) d2_28 29 rfl ?_
    intro T28 h28 X eT W A
    have E_a1 := E_a1.wr W
    have A_a1 : Afi Z h28 a1 .byte 10 (updI ar_a1 2 (nar .byte (((p3 &&& (127 : Int32)) ||| (128 : Int32)).toInt8.toInt32))) := A
    have N := Fr.snoc X N g_a1
    have K := K.wr W (Or.inl (List.mem_of_getElem? (i := 0) rfl))
    have Zs := Nat.le_trans Zs (Keep.of_wr W).1
    refine own_iload X hx hby p3 d2_29 rfl 31 rfl ?_
    refine own_bipush X hx hby (7 : Int32) d2_31 rfl 33 rfl ?_
    refine own_iushr X hx hby d2_33 34 rfl ?_
    refine own_istore X hx hby d2_34 rfl (l' := #[.val (.ref a1), .val (.int (2 : Int32)), .val (.int p3), .val (.int (3 : Int32)), .val (.int ((p3.toUInt32 >>> ((7 : Int32) &&& 31).toUInt32).toInt32))]) rfl 36 rfl ?_
    refine own_goto X hx hby d2_36 5 (by decide) ?_
    refine own_iload X hx hby ((p3.toUInt32 >>> ((7 : Int32) &&& 31).toUInt32).toInt32) d2_5 rfl 7 rfl ?_
    refine own_bipush X hx hby (-128 : Int32) d2_7 rfl 9 rfl ?_
    refine own_iand X hx hby d2_9 10 rfl ?_
    refine own_if_eq X hx hby d2_10 39 13 (by decide) rfl (fun c10_2 => ?_) (fun c10_2 => ?_)
    · skip
      refine own_aloadN X hx hby (.ref a1) d2_39 rfl rfl 40 rfl ?_
      refine own_iloadN X hx hby (3 : Int32) d2_40 rfl 41 rfl ?_
      refine own_iinc X hx hby d2_41 (x := (3 : Int32)) rfl (by decide) (l' := #[.val (.ref a1), .val (.int (2 : Int32)), .val (.int p3), .val (.int (4 : Int32)), .val (.int ((p3.toUInt32 >>> ((7 : Int32) &&& 31).toUInt32).toInt32))]) rfl 44 rfl ?_
      refine own_iload X hx hby ((p3.toUInt32 >>> ((7 : Int32) &&& 31).toUInt32).toInt32) d2_44 rfl 46 rfl ?_
      refine own_i2b X hx hby d2_46 47 rfl ?_
      refine own_bastore X hx hby hZ eT A_a1 (by decide) d2_47 48 rfl ?_
      intro T47 h47 X eT W A
      have E_a1 := E_a1.wr W
      have A_a1 : Afi Z h47 a1 .byte 10 (updI (updI ar_a1 2 (nar .byte (((p3 &&& (127 : Int32)) ||| (128 : Int32)).toInt8.toInt32))) 3 (nar .byte (((p3.toUInt32 >>> ((7 : Int32) &&& 31).toUInt32).toInt32).toInt8.toInt32))) := A
      have N := Fr.snoc X N g_a1
      have K := K.wr W (Or.inl (List.mem_of_getElem? (i := 0) rfl))
      have Zs := Nat.le_trans Zs (Keep.of_wr W).1
      refine own_iloadN X hx hby (4 : Int32) d2_48 rfl 49 rfl ?_
      refine own_retI X hx hby hret hlk d2_49 (by decide) (by decide) ?_
      rw [eT]
      exact ⟨congrArg (fun z => some (Value.int z)) (by unfold f2_2; rw [if_neg c10, if_pos c10_2]), N, K, (by have q : (f2_2_ar_a1 p3 ar_a1) = (updI (updI ar_a1 2 (nar .byte (((p3 &&& (127 : Int32)) ||| (128 : Int32)).toInt8.toInt32))) 3 (nar .byte (((p3.toUInt32 >>> ((7 : Int32) &&& 31).toUInt32).toInt32).toInt8.toInt32))) := Eq.symm (by unfold f2_2_ar_a1; rw [if_neg c10, if_pos c10_2]); rw [q]; exact A_a1), E_a1⟩
    · skip
      refine own_aloadN X hx hby (.ref a1) d2_13 rfl rfl 14 rfl ?_
      refine own_iloadN X hx hby (3 : Int32) d2_14 rfl 15 rfl ?_
      refine own_iinc X hx hby d2_15 (x := (3 : Int32)) rfl (by decide) (l' := #[.val (.ref a1), .val (.int (2 : Int32)), .val (.int p3), .val (.int (4 : Int32)), .val (.int ((p3.toUInt32 >>> ((7 : Int32) &&& 31).toUInt32).toInt32))]) rfl 18 rfl ?_
      refine own_iload X hx hby ((p3.toUInt32 >>> ((7 : Int32) &&& 31).toUInt32).toInt32) d2_18 rfl 20 rfl ?_
      refine own_bipush X hx hby (127 : Int32) d2_20 rfl 22 rfl ?_
      refine own_iand X hx hby d2_22 23 rfl ?_
      refine own_sipush X hx hby (128 : Int32) d2_23 rfl 26 rfl ?_
      refine own_ior X hx hby d2_26 27 rfl ?_
      refine own_i2b X hx hby d2_27 28 rfl ?_
      refine own_bastore X hx hby hZ eT A_a1 (by decide) d2_28 29 rfl ?_
      intro T28 h28 X eT W A
      have E_a1 := E_a1.wr W
      have A_a1 : Afi Z h28 a1 .byte 10 (updI (updI ar_a1 2 (nar .byte (((p3 &&& (127 : Int32)) ||| (128 : Int32)).toInt8.toInt32))) 3 (nar .byte (((((p3.toUInt32 >>> ((7 : Int32) &&& 31).toUInt32).toInt32) &&& (127 : Int32)) ||| (128 : Int32)).toInt8.toInt32))) := A
      have N := Fr.snoc X N g_a1
      have K := K.wr W (Or.inl (List.mem_of_getElem? (i := 0) rfl))
      have Zs := Nat.le_trans Zs (Keep.of_wr W).1
      refine own_iload X hx hby ((p3.toUInt32 >>> ((7 : Int32) &&& 31).toUInt32).toInt32) d2_29 rfl 31 rfl ?_
      refine own_bipush X hx hby (7 : Int32) d2_31 rfl 33 rfl ?_
      refine own_iushr X hx hby d2_33 34 rfl ?_
      refine own_istore X hx hby d2_34 rfl (l' := #[.val (.ref a1), .val (.int (2 : Int32)), .val (.int p3), .val (.int (4 : Int32)), .val (.int ((((p3.toUInt32 >>> ((7 : Int32) &&& 31).toUInt32).toInt32).toUInt32 >>> ((7 : Int32) &&& 31).toUInt32).toInt32))]) rfl 36 rfl ?_
      refine own_goto X hx hby d2_36 5 (by decide) ?_
      refine own_iload X hx hby ((((p3.toUInt32 >>> ((7 : Int32) &&& 31).toUInt32).toInt32).toUInt32 >>> ((7 : Int32) &&& 31).toUInt32).toInt32) d2_5 rfl 7 rfl ?_
      refine own_bipush X hx hby (-128 : Int32) d2_7 rfl 9 rfl ?_
      refine own_iand X hx hby d2_9 10 rfl ?_
      refine own_if_eq X hx hby d2_10 39 13 (by decide) rfl (fun c10_3 => ?_) (fun c10_3 => ?_)
      · skip
        refine own_aloadN X hx hby (.ref a1) d2_39 rfl rfl 40 rfl ?_
        refine own_iloadN X hx hby (4 : Int32) d2_40 rfl 41 rfl ?_
        refine own_iinc X hx hby d2_41 (x := (4 : Int32)) rfl (by decide) (l' := #[.val (.ref a1), .val (.int (2 : Int32)), .val (.int p3), .val (.int (5 : Int32)), .val (.int ((((p3.toUInt32 >>> ((7 : Int32) &&& 31).toUInt32).toInt32).toUInt32 >>> ((7 : Int32) &&& 31).toUInt32).toInt32))]) rfl 44 rfl ?_
        refine own_iload X hx hby ((((p3.toUInt32 >>> ((7 : Int32) &&& 31).toUInt32).toInt32).toUInt32 >>> ((7 : Int32) &&& 31).toUInt32).toInt32) d2_44 rfl 46 rfl ?_
        refine own_i2b X hx hby d2_46 47 rfl ?_
        refine own_bastore X hx hby hZ eT A_a1 (by decide) d2_47 48 rfl ?_
        intro T47 h47 X eT W A
        have E_a1 := E_a1.wr W
        have A_a1 : Afi Z h47 a1 .byte 10 (updI (updI (updI ar_a1 2 (nar .byte (((p3 &&& (127 : Int32)) ||| (128 : Int32)).toInt8.toInt32))) 3 (nar .byte (((((p3.toUInt32 >>> ((7 : Int32) &&& 31).toUInt32).toInt32) &&& (127 : Int32)) ||| (128 : Int32)).toInt8.toInt32))) 4 (nar .byte (((((p3.toUInt32 >>> ((7 : Int32) &&& 31).toUInt32).toInt32).toUInt32 >>> ((7 : Int32) &&& 31).toUInt32).toInt32).toInt8.toInt32))) := A
        have N := Fr.snoc X N g_a1
        have K := K.wr W (Or.inl (List.mem_of_getElem? (i := 0) rfl))
        have Zs := Nat.le_trans Zs (Keep.of_wr W).1
        refine own_iloadN X hx hby (5 : Int32) d2_48 rfl 49 rfl ?_
        refine own_retI X hx hby hret hlk d2_49 (by decide) (by decide) ?_
        rw [eT]
        exact ⟨congrArg (fun z => some (Value.int z)) (by unfold f2_2; rw [if_neg c10, if_neg c10_2, if_pos c10_3]), N, K, (by have q : (f2_2_ar_a1 p3 ar_a1) = (updI (updI (updI ar_a1 2 (nar .byte (((p3 &&& (127 : Int32)) ||| (128 : Int32)).toInt8.toInt32))) 3 (nar .byte (((((p3.toUInt32 >>> ((7 : Int32) &&& 31).toUInt32).toInt32) &&& (127 : Int32)) ||| (128 : Int32)).toInt8.toInt32))) 4 (nar .byte (((((p3.toUInt32 >>> ((7 : Int32) &&& 31).toUInt32).toInt32).toUInt32 >>> ((7 : Int32) &&& 31).toUInt32).toInt32).toInt8.toInt32))) := Eq.symm (by unfold f2_2_ar_a1; rw [if_neg c10, if_neg c10_2, if_pos c10_3]); rw [q]; exact A_a1), E_a1⟩
      · skip
        refine own_aloadN X hx hby (.ref a1) d2_13 rfl rfl 14 rfl ?_
        refine own_iloadN X hx hby (4 : Int32) d2_14 rfl 15 rfl ?_
        refine own_iinc X hx hby d2_15 (x := (4 : Int32)) rfl (by decide) (l' := #[.val (.ref a1), .val (.int (2 : Int32)), .val (.int p3), .val (.int (5 : Int32)), .val (.int ((((p3.toUInt32 >>> ((7 : Int32) &&& 31).toUInt32).toInt32).toUInt32 >>> ((7 : Int32) &&& 31).toUInt32).toInt32))]) rfl 18 rfl ?_
        refine own_iload X hx hby ((((p3.toUInt32 >>> ((7 : Int32) &&& 31).toUInt32).toInt32).toUInt32 >>> ((7 : Int32) &&& 31).toUInt32).toInt32) d2_18 rfl 20 rfl ?_
        refine own_bipush X hx hby (127 : Int32) d2_20 rfl 22 rfl ?_
        refine own_iand X hx hby d2_22 23 rfl ?_
        refine own_sipush X hx hby (128 : Int32) d2_23 rfl 26 rfl ?_
        refine own_ior X hx hby d2_26 27 rfl ?_
        refine own_i2b X hx hby d2_27 28 rfl ?_
        refine own_bastore X hx hby hZ eT A_a1 (by decide) d2_28 29 rfl ?_
        intro T28 h28 X eT W A
        have E_a1 := E_a1.wr W
        have A_a1 : Afi Z h28 a1 .byte 10 (updI (updI (updI ar_a1 2 (nar .byte (((p3 &&& (127 : Int32)) ||| (128 : Int32)).toInt8.toInt32))) 3 (nar .byte (((((p3.toUInt32 >>> ((7 : Int32) &&& 31).toUInt32).toInt32) &&& (127 : Int32)) ||| (128 : Int32)).toInt8.toInt32))) 4 (nar .byte (((((((p3.toUInt32 >>> ((7 : Int32) &&& 31).toUInt32).toInt32).toUInt32 >>> ((7 : Int32) &&& 31).toUInt32).toInt32) &&& (127 : Int32)) ||| (128 : Int32)).toInt8.toInt32))) := A
        have N := Fr.snoc X N g_a1
        have K := K.wr W (Or.inl (List.mem_of_getElem? (i := 0) rfl))
        have Zs := Nat.le_trans Zs (Keep.of_wr W).1
        refine own_iload X hx hby ((((p3.toUInt32 >>> ((7 : Int32) &&& 31).toUInt32).toInt32).toUInt32 >>> ((7 : Int32) &&& 31).toUInt32).toInt32) d2_29 rfl 31 rfl ?_
        refine own_bipush X hx hby (7 : Int32) d2_31 rfl 33 rfl ?_
        refine own_iushr X hx hby d2_33 34 rfl ?_
        refine own_istore X hx hby d2_34 rfl (l' := #[.val (.ref a1), .val (.int (2 : Int32)), .val (.int p3), .val (.int (5 : Int32)), .val (.int ((((((p3.toUInt32 >>> ((7 : Int32) &&& 31).toUInt32).toInt32).toUInt32 >>> ((7 : Int32) &&& 31).toUInt32).toInt32).toUInt32 >>> ((7 : Int32) &&& 31).toUInt32).toInt32))]) rfl 36 rfl ?_
        refine own_goto X hx hby d2_36 5 (by decide) ?_
        refine own_iload X hx hby ((((((p3.toUInt32 >>> ((7 : Int32) &&& 31).toUInt32).toInt32).toUInt32 >>> ((7 : Int32) &&& 31).toUInt32).toInt32).toUInt32 >>> ((7 : Int32) &&& 31).toUInt32).toInt32) d2_5 rfl 7 rfl ?_
        refine own_bipush X hx hby (-128 : Int32) d2_7 rfl 9 rfl ?_
        refine own_iand X hx hby d2_9 10 rfl ?_
        refine own_if_eq X hx hby d2_10 39 13 (by decide) rfl (fun c10_4 => ?_) (fun c10_4 => ?_)
        · skip
          refine own_aloadN X hx hby (.ref a1) d2_39 rfl rfl 40 rfl ?_
          refine own_iloadN X hx hby (5 : Int32) d2_40 rfl 41 rfl ?_
          refine own_iinc X hx hby d2_41 (x := (5 : Int32)) rfl (by decide) (l' := #[.val (.ref a1), .val (.int (2 : Int32)), .val (.int p3), .val (.int (6 : Int32)), .val (.int ((((((p3.toUInt32 >>> ((7 : Int32) &&& 31).toUInt32).toInt32).toUInt32 >>> ((7 : Int32) &&& 31).toUInt32).toInt32).toUInt32 >>> ((7 : Int32) &&& 31).toUInt32).toInt32))]) rfl 44 rfl ?_
          refine own_iload X hx hby ((((((p3.toUInt32 >>> ((7 : Int32) &&& 31).toUInt32).toInt32).toUInt32 >>> ((7 : Int32) &&& 31).toUInt32).toInt32).toUInt32 >>> ((7 : Int32) &&& 31).toUInt32).toInt32) d2_44 rfl 46 rfl ?_
          refine own_i2b X hx hby d2_46 47 rfl ?_
          refine own_bastore X hx hby hZ eT A_a1 (by decide) d2_47 48 rfl ?_
          intro T47 h47 X eT W A
          have E_a1 := E_a1.wr W
          have A_a1 : Afi Z h47 a1 .byte 10 (updI (updI (updI (updI ar_a1 2 (nar .byte (((p3 &&& (127 : Int32)) ||| (128 : Int32)).toInt8.toInt32))) 3 (nar .byte (((((p3.toUInt32 >>> ((7 : Int32) &&& 31).toUInt32).toInt32) &&& (127 : Int32)) ||| (128 : Int32)).toInt8.toInt32))) 4 (nar .byte (((((((p3.toUInt32 >>> ((7 : Int32) &&& 31).toUInt32).toInt32).toUInt32 >>> ((7 : Int32) &&& 31).toUInt32).toInt32) &&& (127 : Int32)) ||| (128 : Int32)).toInt8.toInt32))) 5 (nar .byte (((((((p3.toUInt32 >>> ((7 : Int32) &&& 31).toUInt32).toInt32).toUInt32 >>> ((7 : Int32) &&& 31).toUInt32).toInt32).toUInt32 >>> ((7 : Int32) &&& 31).toUInt32).toInt32).toInt8.toInt32))) := A
          have N := Fr.snoc X N g_a1
          have K := K.wr W (Or.inl (List.mem_of_getElem? (i := 0) rfl))
          have Zs := Nat.le_trans Zs (Keep.of_wr W).1
          refine own_iloadN X hx hby (6 : Int32) d2_48 rfl 49 rfl ?_
          refine own_retI X hx hby hret hlk d2_49 (by decide) (by decide) ?_
          rw [eT]
          exact ⟨congrArg (fun z => some (Value.int z)) (by unfold f2_2; rw [if_neg c10, if_neg c10_2, if_neg c10_3, if_pos c10_4]), N, K, (by have q : (f2_2_ar_a1 p3 ar_a1) = (updI (updI (updI (updI ar_a1 2 (nar .byte (((p3 &&& (127 : Int32)) ||| (128 : Int32)).toInt8.toInt32))) 3 (nar .byte (((((p3.toUInt32 >>> ((7 : Int32) &&& 31).toUInt32).toInt32) &&& (127 : Int32)) ||| (128 : Int32)).toInt8.toInt32))) 4 (nar .byte (((((((p3.toUInt32 >>> ((7 : Int32) &&& 31).toUInt32).toInt32).toUInt32 >>> ((7 : Int32) &&& 31).toUInt32).toInt32) &&& (127 : Int32)) ||| (128 : Int32)).toInt8.toInt32))) 5 (nar .byte (((((((p3.toUInt32 >>> ((7 : Int32) &&& 31).toUInt32).toInt32).toUInt32 >>> ((7 : Int32) &&& 31).toUInt32).toInt32).toUInt32 >>> ((7 : Int32) &&& 31).toUInt32).toInt32).toInt8.toInt32))) := Eq.symm (by unfold f2_2_ar_a1; rw [if_neg c10, if_neg c10_2, if_neg c10_3, if_pos c10_4]); rw [q]; exact A_a1), E_a1⟩
        · skip
          refine own_aloadN X hx hby (.ref a1) d2_13 rfl rfl 14 rfl ?_
          refine own_iloadN X hx hby (5 : Int32) d2_14 rfl 15 rfl ?_
          refine own_iinc X hx hby d2_15 (x := (5 : Int32)) rfl (by decide) (l' := #[.val (.ref a1), .val (.int (2 : Int32)), .val (.int p3), .val (.int (6 : Int32)), .val (.int ((((((p3.toUInt32 >>> ((7 : Int32) &&& 31).toUInt32).toInt32).toUInt32 >>> ((7 : Int32) &&& 31).toUInt32).toInt32).toUInt32 >>> ((7 : Int32) &&& 31).toUInt32).toInt32))]) rfl 18 rfl ?_
          refine own_iload X hx hby ((((((p3.toUInt32 >>> ((7 : Int32) &&& 31).toUInt32).toInt32).toUInt32 >>> ((7 : Int32) &&& 31).toUInt32).toInt32).toUInt32 >>> ((7 : Int32) &&& 31).toUInt32).toInt32) d2_18 rfl 20 rfl ?_
          refine own_bipush X hx hby (127 : Int32) d2_20 rfl 22 rfl ?_
          refine own_iand X hx hby d2_22 23 rfl ?_
          refine own_sipush X hx hby (128 : Int32) d2_23 rfl 26 rfl ?_
          refine own_ior X hx hby d2_26 27 rfl ?_
          refine own_i2b X hx hby d2_27 28 rfl ?_
          refine own_bastore X hx hby hZ eT A_a1 (by decide) d2_28 29 rfl ?_
          intro T28 h28 X eT W A
          have E_a1 := E_a1.wr W
          have A_a1 : Afi Z h28 a1 .byte 10 (updI (updI (updI (updI ar_a1 2 (nar .byte (((p3 &&& (127 : Int32)) ||| (128 : Int32)).toInt8.toInt32))) 3 (nar .byte (((((p3.toUInt32 >>> ((7 : Int32) &&& 31).toUInt32).toInt32) &&& (127 : Int32)) ||| (128 : Int32)).toInt8.toInt32))) 4 (nar .byte (((((((p3.toUInt32 >>> ((7 : Int32) &&& 31).toUInt32).toInt32).toUInt32 >>> ((7 : Int32) &&& 31).toUInt32).toInt32) &&& (127 : Int32)) ||| (128 : Int32)).toInt8.toInt32))) 5 (nar .byte (((((((((p3.toUInt32 >>> ((7 : Int32) &&& 31).toUInt32).toInt32).toUInt32 >>> ((7 : Int32) &&& 31).toUInt32).toInt32).toUInt32 >>> ((7 : Int32) &&& 31).toUInt32).toInt32) &&& (127 : Int32)) ||| (128 : Int32)).toInt8.toInt32))) := A
          have N := Fr.snoc X N g_a1
          have K := K.wr W (Or.inl (List.mem_of_getElem? (i := 0) rfl))
          have Zs := Nat.le_trans Zs (Keep.of_wr W).1
          refine own_iload X hx hby ((((((p3.toUInt32 >>> ((7 : Int32) &&& 31).toUInt32).toInt32).toUInt32 >>> ((7 : Int32) &&& 31).toUInt32).toInt32).toUInt32 >>> ((7 : Int32) &&& 31).toUInt32).toInt32) d2_29 rfl 31 rfl ?_
          refine own_bipush X hx hby (7 : Int32) d2_31 rfl 33 rfl ?_
          refine own_iushr X hx hby d2_33 34 rfl ?_
          refine own_istore X hx hby d2_34 rfl (l' := #[.val (.ref a1), .val (.int (2 : Int32)), .val (.int p3), .val (.int (6 : Int32)), .val (.int ((((((((p3.toUInt32 >>> ((7 : Int32) &&& 31).toUInt32).toInt32).toUInt32 >>> ((7 : Int32) &&& 31).toUInt32).toInt32).toUInt32 >>> ((7 : Int32) &&& 31).toUInt32).toInt32).toUInt32 >>> ((7 : Int32) &&& 31).toUInt32).toInt32))]) rfl 36 rfl ?_
          refine own_goto X hx hby d2_36 5 (by decide) ?_
          refine own_iload X hx hby ((((((((p3.toUInt32 >>> ((7 : Int32) &&& 31).toUInt32).toInt32).toUInt32 >>> ((7 : Int32) &&& 31).toUInt32).toInt32).toUInt32 >>> ((7 : Int32) &&& 31).toUInt32).toInt32).toUInt32 >>> ((7 : Int32) &&& 31).toUInt32).toInt32) d2_5 rfl 7 rfl ?_
          refine own_bipush X hx hby (-128 : Int32) d2_7 rfl 9 rfl ?_
          refine own_iand X hx hby d2_9 10 rfl ?_
          have c10_5 : (((((((((p3.toUInt32 >>> ((7 : Int32) &&& 31).toUInt32).toInt32).toUInt32 >>> ((7 : Int32) &&& 31).toUInt32).toInt32).toUInt32 >>> ((7 : Int32) &&& 31).toUInt32).toInt32).toUInt32 >>> ((7 : Int32) &&& 31).toUInt32).toInt32) &&& (-128 : Int32)) = (0 : Int32) := own_top5 _
          refine own_if_eq X hx hby d2_10 39 13 (by decide) rfl (fun _ => ?_) (fun q => absurd c10_5 q)
          refine own_aloadN X hx hby (.ref a1) d2_39 rfl rfl 40 rfl ?_
          refine own_iloadN X hx hby (6 : Int32) d2_40 rfl 41 rfl ?_
          refine own_iinc X hx hby d2_41 (x := (6 : Int32)) rfl (by decide) (l' := #[.val (.ref a1), .val (.int (2 : Int32)), .val (.int p3), .val (.int (7 : Int32)), .val (.int ((((((((p3.toUInt32 >>> ((7 : Int32) &&& 31).toUInt32).toInt32).toUInt32 >>> ((7 : Int32) &&& 31).toUInt32).toInt32).toUInt32 >>> ((7 : Int32) &&& 31).toUInt32).toInt32).toUInt32 >>> ((7 : Int32) &&& 31).toUInt32).toInt32))]) rfl 44 rfl ?_
          refine own_iload X hx hby ((((((((p3.toUInt32 >>> ((7 : Int32) &&& 31).toUInt32).toInt32).toUInt32 >>> ((7 : Int32) &&& 31).toUInt32).toInt32).toUInt32 >>> ((7 : Int32) &&& 31).toUInt32).toInt32).toUInt32 >>> ((7 : Int32) &&& 31).toUInt32).toInt32) d2_44 rfl 46 rfl ?_
          refine own_i2b X hx hby d2_46 47 rfl ?_
          refine own_bastore X hx hby hZ eT A_a1 (by decide) d2_47 48 rfl ?_
          intro T47 h47 X eT W A
          have E_a1 := E_a1.wr W
          have A_a1 : Afi Z h47 a1 .byte 10 (updI (updI (updI (updI (updI ar_a1 2 (nar .byte (((p3 &&& (127 : Int32)) ||| (128 : Int32)).toInt8.toInt32))) 3 (nar .byte (((((p3.toUInt32 >>> ((7 : Int32) &&& 31).toUInt32).toInt32) &&& (127 : Int32)) ||| (128 : Int32)).toInt8.toInt32))) 4 (nar .byte (((((((p3.toUInt32 >>> ((7 : Int32) &&& 31).toUInt32).toInt32).toUInt32 >>> ((7 : Int32) &&& 31).toUInt32).toInt32) &&& (127 : Int32)) ||| (128 : Int32)).toInt8.toInt32))) 5 (nar .byte (((((((((p3.toUInt32 >>> ((7 : Int32) &&& 31).toUInt32).toInt32).toUInt32 >>> ((7 : Int32) &&& 31).toUInt32).toInt32).toUInt32 >>> ((7 : Int32) &&& 31).toUInt32).toInt32) &&& (127 : Int32)) ||| (128 : Int32)).toInt8.toInt32))) 6 (nar .byte (((((((((p3.toUInt32 >>> ((7 : Int32) &&& 31).toUInt32).toInt32).toUInt32 >>> ((7 : Int32) &&& 31).toUInt32).toInt32).toUInt32 >>> ((7 : Int32) &&& 31).toUInt32).toInt32).toUInt32 >>> ((7 : Int32) &&& 31).toUInt32).toInt32).toInt8.toInt32))) := A
          have N := Fr.snoc X N g_a1
          have K := K.wr W (Or.inl (List.mem_of_getElem? (i := 0) rfl))
          have Zs := Nat.le_trans Zs (Keep.of_wr W).1
          refine own_iloadN X hx hby (7 : Int32) d2_48 rfl 49 rfl ?_
          refine own_retI X hx hby hret hlk d2_49 (by decide) (by decide) ?_
          rw [eT]
          exact ⟨congrArg (fun z => some (Value.int z)) (by unfold f2_2; rw [if_neg c10, if_neg c10_2, if_neg c10_3, if_neg c10_4]), N, K, (by have q : (f2_2_ar_a1 p3 ar_a1) = (updI (updI (updI (updI (updI ar_a1 2 (nar .byte (((p3 &&& (127 : Int32)) ||| (128 : Int32)).toInt8.toInt32))) 3 (nar .byte (((((p3.toUInt32 >>> ((7 : Int32) &&& 31).toUInt32).toInt32) &&& (127 : Int32)) ||| (128 : Int32)).toInt8.toInt32))) 4 (nar .byte (((((((p3.toUInt32 >>> ((7 : Int32) &&& 31).toUInt32).toInt32).toUInt32 >>> ((7 : Int32) &&& 31).toUInt32).toInt32) &&& (127 : Int32)) ||| (128 : Int32)).toInt8.toInt32))) 5 (nar .byte (((((((((p3.toUInt32 >>> ((7 : Int32) &&& 31).toUInt32).toInt32).toUInt32 >>> ((7 : Int32) &&& 31).toUInt32).toInt32).toUInt32 >>> ((7 : Int32) &&& 31).toUInt32).toInt32) &&& (127 : Int32)) ||| (128 : Int32)).toInt8.toInt32))) 6 (nar .byte (((((((((p3.toUInt32 >>> ((7 : Int32) &&& 31).toUInt32).toInt32).toUInt32 >>> ((7 : Int32) &&& 31).toUInt32).toInt32).toUInt32 >>> ((7 : Int32) &&& 31).toUInt32).toInt32).toUInt32 >>> ((7 : Int32) &&& 31).toUInt32).toInt32).toInt8.toInt32))) := Eq.symm (by unfold f2_2_ar_a1; rw [if_neg c10, if_neg c10_2, if_neg c10_3, if_neg c10_4]); rw [q]; exact A_a1), E_a1⟩
theorem ef_2_3 (a1 : Addr) (p3 : Int32) (m : MethodId) : entryFrame m #[(.ref a1), (.int (3 : Int32)), (.int p3)] 5 = mkF m 0 #[.val (.ref a1), .val (.int (3 : Int32)), .val (.int p3), .unset, .unset] [] := by first | (simp [entryFrame, mkF, argsToLocals, Value.category]; done) | rfl
def f2_3 (p3 : Int32) : Int32 := (if (p3 &&& (-128 : Int32)) = (0 : Int32) then (4 : Int32) else (if (((p3.toUInt32 >>> ((7 : Int32) &&& 31).toUInt32).toInt32) &&& (-128 : Int32)) = (0 : Int32) then (5 : Int32) else (if (((((p3.toUInt32 >>> ((7 : Int32) &&& 31).toUInt32).toInt32).toUInt32 >>> ((7 : Int32) &&& 31).toUInt32).toInt32) &&& (-128 : Int32)) = (0 : Int32) then (6 : Int32) else (if (((((((p3.toUInt32 >>> ((7 : Int32) &&& 31).toUInt32).toInt32).toUInt32 >>> ((7 : Int32) &&& 31).toUInt32).toInt32).toUInt32 >>> ((7 : Int32) &&& 31).toUInt32).toInt32) &&& (-128 : Int32)) = (0 : Int32) then (7 : Int32) else (8 : Int32)))))
def f2_3_ar_a1 (p3 : Int32) (ar_a1 : Nat → Int32) : Nat → Int32 := (if (p3 &&& (-128 : Int32)) = (0 : Int32) then (updI ar_a1 3 (nar .byte (p3.toInt8.toInt32))) else (if (((p3.toUInt32 >>> ((7 : Int32) &&& 31).toUInt32).toInt32) &&& (-128 : Int32)) = (0 : Int32) then (updI (updI ar_a1 3 (nar .byte (((p3 &&& (127 : Int32)) ||| (128 : Int32)).toInt8.toInt32))) 4 (nar .byte (((p3.toUInt32 >>> ((7 : Int32) &&& 31).toUInt32).toInt32).toInt8.toInt32))) else (if (((((p3.toUInt32 >>> ((7 : Int32) &&& 31).toUInt32).toInt32).toUInt32 >>> ((7 : Int32) &&& 31).toUInt32).toInt32) &&& (-128 : Int32)) = (0 : Int32) then (updI (updI (updI ar_a1 3 (nar .byte (((p3 &&& (127 : Int32)) ||| (128 : Int32)).toInt8.toInt32))) 4 (nar .byte (((((p3.toUInt32 >>> ((7 : Int32) &&& 31).toUInt32).toInt32) &&& (127 : Int32)) ||| (128 : Int32)).toInt8.toInt32))) 5 (nar .byte (((((p3.toUInt32 >>> ((7 : Int32) &&& 31).toUInt32).toInt32).toUInt32 >>> ((7 : Int32) &&& 31).toUInt32).toInt32).toInt8.toInt32))) else (if (((((((p3.toUInt32 >>> ((7 : Int32) &&& 31).toUInt32).toInt32).toUInt32 >>> ((7 : Int32) &&& 31).toUInt32).toInt32).toUInt32 >>> ((7 : Int32) &&& 31).toUInt32).toInt32) &&& (-128 : Int32)) = (0 : Int32) then (updI (updI (updI (updI ar_a1 3 (nar .byte (((p3 &&& (127 : Int32)) ||| (128 : Int32)).toInt8.toInt32))) 4 (nar .byte (((((p3.toUInt32 >>> ((7 : Int32) &&& 31).toUInt32).toInt32) &&& (127 : Int32)) ||| (128 : Int32)).toInt8.toInt32))) 5 (nar .byte (((((((p3.toUInt32 >>> ((7 : Int32) &&& 31).toUInt32).toInt32).toUInt32 >>> ((7 : Int32) &&& 31).toUInt32).toInt32) &&& (127 : Int32)) ||| (128 : Int32)).toInt8.toInt32))) 6 (nar .byte (((((((p3.toUInt32 >>> ((7 : Int32) &&& 31).toUInt32).toInt32).toUInt32 >>> ((7 : Int32) &&& 31).toUInt32).toInt32).toUInt32 >>> ((7 : Int32) &&& 31).toUInt32).toInt32).toInt8.toInt32))) else (updI (updI (updI (updI (updI ar_a1 3 (nar .byte (((p3 &&& (127 : Int32)) ||| (128 : Int32)).toInt8.toInt32))) 4 (nar .byte (((((p3.toUInt32 >>> ((7 : Int32) &&& 31).toUInt32).toInt32) &&& (127 : Int32)) ||| (128 : Int32)).toInt8.toInt32))) 5 (nar .byte (((((((p3.toUInt32 >>> ((7 : Int32) &&& 31).toUInt32).toInt32).toUInt32 >>> ((7 : Int32) &&& 31).toUInt32).toInt32) &&& (127 : Int32)) ||| (128 : Int32)).toInt8.toInt32))) 6 (nar .byte (((((((((p3.toUInt32 >>> ((7 : Int32) &&& 31).toUInt32).toInt32).toUInt32 >>> ((7 : Int32) &&& 31).toUInt32).toInt32).toUInt32 >>> ((7 : Int32) &&& 31).toUInt32).toInt32) &&& (127 : Int32)) ||| (128 : Int32)).toInt8.toInt32))) 7 (nar .byte (((((((((p3.toUInt32 >>> ((7 : Int32) &&& 31).toUInt32).toInt32).toUInt32 >>> ((7 : Int32) &&& 31).toUInt32).toInt32).toUInt32 >>> ((7 : Int32) &&& 31).toUInt32).toInt32).toUInt32 >>> ((7 : Int32) &&& 31).toUInt32).toInt32).toInt8.toInt32)))))))
def Q2_3 (Z : State) (a1 : Addr) (p3 : Int32) (ar_a1 : Nat → Int32) (h0 : Heap) (n0 : Nat) (v : Option Value) (h : Heap) (L : List Loc) : Prop := v = some (.int (f2_3 p3)) ∧ Fr n0 L ∧ Keep h0 h [a1] ∧ Afi Z h a1 .byte 10 (f2_3_ar_a1 p3 ar_a1) ∧ Exa Z h a1 "[B"
set_option maxRecDepth 65536 in
set_option maxHeartbeats 40000000 in
theorem rm2_3 (l : Launch) (Z : State) (a0 : Array Value) (hw : ∀ d ∈ tables_1, d.before a0 Z = true) (a1 : Addr) (p3 : Int32) (ar_a1 : Nat → Int32) (h0 : Heap) (n0 : Nat) (Zs : n0 ≤ h0.size) (A_a1 : Afi Z h0 a1 .byte 10 ar_a1) (E_a1 : Exa Z h0 a1 "[B") (g_a1 : n0 ≤ a1) :
    Met1 l Z (⟨"com/example/kvadtree/kvadtree/Fragments", "putVarint", "([BII)I"⟩ : MethodName) prog_13_method_18_code 5 (some .int) ({ frames := 0, cells := 0, slots := 0, locals := 0 } : Room) #[(.ref a1), (.int (3 : Int32)), (.int p3)] h0 (Q2_3 Z a1 p3 ar_a1 h0 n0) := by
  refine own_met_of (plainFor_of_name pn_2) (ef_2_3 a1 p3) ?_
  intro p e s m below meth c s₁ X hx hby hml hZ hown hnm hret hlk eT
  have hown : s.vm.findClass "com/example/kvadtree/kvadtree/Fragments" = some m.cls := hown
  have N := Fr.nil n0
  have K := Keep.refl h0 [a1]
  refine own_iloadN X hx hby (3 : Int32) d2_0 rfl 1 rfl ?_
  refine own_istoreN X hx hby d2_1 rfl (l' := #[.val (.ref a1), .val (.int (3 : Int32)), .val (.int p3), .val (.int (3 : Int32)), .unset]) rfl 2 rfl ?_
  refine own_iloadN X hx hby p3 d2_2 rfl 3 rfl ?_
  refine own_istore X hx hby d2_3 rfl (l' := #[.val (.ref a1), .val (.int (3 : Int32)), .val (.int p3), .val (.int (3 : Int32)), .val (.int p3)]) rfl 5 rfl ?_
  refine own_iload X hx hby p3 d2_5 rfl 7 rfl ?_
  refine own_bipush X hx hby (-128 : Int32) d2_7 rfl 9 rfl ?_
  refine own_iand X hx hby d2_9 10 rfl ?_
  refine own_if_eq X hx hby d2_10 39 13 (by decide) rfl (fun c10 => ?_) (fun c10 => ?_)
  · skip
    refine own_aloadN X hx hby (.ref a1) d2_39 rfl rfl 40 rfl ?_
    refine own_iloadN X hx hby (3 : Int32) d2_40 rfl 41 rfl ?_
    refine own_iinc X hx hby d2_41 (x := (3 : Int32)) rfl (by decide) (l' := #[.val (.ref a1), .val (.int (3 : Int32)), .val (.int p3), .val (.int (4 : Int32)), .val (.int p3)]) rfl 44 rfl ?_
    refine own_iload X hx hby p3 d2_44 rfl 46 rfl ?_
    refine own_i2b X hx hby d2_46 47 rfl ?_
    refine own_bastore X hx hby hZ eT A_a1 (by decide) d2_47 48 rfl ?_
    intro T47 h47 X eT W A
    have E_a1 := E_a1.wr W
    have A_a1 : Afi Z h47 a1 .byte 10 (updI ar_a1 3 (nar .byte (p3.toInt8.toInt32))) := A
    have N := Fr.snoc X N g_a1
    have K := K.wr W (Or.inl (List.mem_of_getElem? (i := 0) rfl))
    have Zs := Nat.le_trans Zs (Keep.of_wr W).1
    refine own_iloadN X hx hby (4 : Int32) d2_48 rfl 49 rfl ?_
    refine own_retI X hx hby hret hlk d2_49 (by decide) (by decide) ?_
    rw [eT]
    exact ⟨congrArg (fun z => some (Value.int z)) (by unfold f2_3; rw [if_pos c10]), N, K, (by have q : (f2_3_ar_a1 p3 ar_a1) = (updI ar_a1 3 (nar .byte (p3.toInt8.toInt32))) := Eq.symm (by unfold f2_3_ar_a1; rw [if_pos c10]); rw [q]; exact A_a1), E_a1⟩
  · skip
    refine own_aloadN X hx hby (.ref a1) d2_13 rfl rfl 14 rfl ?_
    refine own_iloadN X hx hby (3 : Int32) d2_14 rfl 15 rfl ?_
    refine own_iinc X hx hby d2_15 (x := (3 : Int32)) rfl (by decide) (l' := #[.val (.ref a1), .val (.int (3 : Int32)), .val (.int p3), .val (.int (4 : Int32)), .val (.int p3)]) rfl 18 rfl ?_
    refine own_iload X hx hby p3 d2_18 rfl 20 rfl ?_
    refine own_bipush X hx hby (127 : Int32) d2_20 rfl 22 rfl ?_
    refine own_iand X hx hby d2_22 23 rfl ?_
    refine own_sipush X hx hby (128 : Int32) d2_23 rfl 26 rfl ?_
    refine own_ior X hx hby d2_26 27 rfl ?_
    refine own_i2b X hx hby d2_27 28 rfl ?_
    refine own_bastore X hx hby hZ eT A_a1 (by decide) d2_28 29 rfl ?_
    intro T28 h28 X eT W A
    have E_a1 := E_a1.wr W
    have A_a1 : Afi Z h28 a1 .byte 10 (updI ar_a1 3 (nar .byte (((p3 &&& (127 : Int32)) ||| (128 : Int32)).toInt8.toInt32))) := A
    have N := Fr.snoc X N g_a1
    have K := K.wr W (Or.inl (List.mem_of_getElem? (i := 0) rfl))
    have Zs := Nat.le_trans Zs (Keep.of_wr W).1
    refine own_iload X hx hby p3 d2_29 rfl 31 rfl ?_
    refine own_bipush X hx hby (7 : Int32) d2_31 rfl 33 rfl ?_
    refine own_iushr X hx hby d2_33 34 rfl ?_
    refine own_istore X hx hby d2_34 rfl (l' := #[.val (.ref a1), .val (.int (3 : Int32)), .val (.int p3), .val (.int (4 : Int32)), .val (.int ((p3.toUInt32 >>> ((7 : Int32) &&& 31).toUInt32).toInt32))]) rfl 36 rfl ?_
    refine own_goto X hx hby d2_36 5 (by decide) ?_
    refine own_iload X hx hby ((p3.toUInt32 >>> ((7 : Int32) &&& 31).toUInt32).toInt32) d2_5 rfl 7 rfl ?_
    refine own_bipush X hx hby (-128 : Int32) d2_7 rfl 9 rfl ?_
    refine own_iand X hx hby d2_9 10 rfl ?_
    refine own_if_eq X hx hby d2_10 39 13 (by decide) rfl (fun c10_2 => ?_) (fun c10_2 => ?_)
    · skip
      refine own_aloadN X hx hby (.ref a1) d2_39 rfl rfl 40 rfl ?_
      refine own_iloadN X hx hby (4 : Int32) d2_40 rfl 41 rfl ?_
      refine own_iinc X hx hby d2_41 (x := (4 : Int32)) rfl (by decide) (l' := #[.val (.ref a1), .val (.int (3 : Int32)), .val (.int p3), .val (.int (5 : Int32)), .val (.int ((p3.toUInt32 >>> ((7 : Int32) &&& 31).toUInt32).toInt32))]) rfl 44 rfl ?_
      refine own_iload X hx hby ((p3.toUInt32 >>> ((7 : Int32) &&& 31).toUInt32).toInt32) d2_44 rfl 46 rfl ?_
      refine own_i2b X hx hby d2_46 47 rfl ?_
      refine own_bastore X hx hby hZ eT A_a1 (by decide) d2_47 48 rfl ?_
      intro T47 h47 X eT W A
      have E_a1 := E_a1.wr W
      have A_a1 : Afi Z h47 a1 .byte 10 (updI (updI ar_a1 3 (nar .byte (((p3 &&& (127 : Int32)) ||| (128 : Int32)).toInt8.toInt32))) 4 (nar .byte (((p3.toUInt32 >>> ((7 : Int32) &&& 31).toUInt32).toInt32).toInt8.toInt32))) := A
      have N := Fr.snoc X N g_a1
      have K := K.wr W (Or.inl (List.mem_of_getElem? (i := 0) rfl))
      have Zs := Nat.le_trans Zs (Keep.of_wr W).1
      refine own_iloadN X hx hby (5 : Int32) d2_48 rfl 49 rfl ?_
      refine own_retI X hx hby hret hlk d2_49 (by decide) (by decide) ?_
      rw [eT]
      exact ⟨congrArg (fun z => some (Value.int z)) (by unfold f2_3; rw [if_neg c10, if_pos c10_2]), N, K, (by have q : (f2_3_ar_a1 p3 ar_a1) = (updI (updI ar_a1 3 (nar .byte (((p3 &&& (127 : Int32)) ||| (128 : Int32)).toInt8.toInt32))) 4 (nar .byte (((p3.toUInt32 >>> ((7 : Int32) &&& 31).toUInt32).toInt32).toInt8.toInt32))) := Eq.symm (by unfold f2_3_ar_a1; rw [if_neg c10, if_pos c10_2]); rw [q]; exact A_a1), E_a1⟩
    · skip
      refine own_aloadN X hx hby (.ref a1) d2_13 rfl rfl 14 rfl ?_
      refine own_iloadN X hx hby (4 : Int32) d2_14 rfl 15 rfl ?_
      refine own_iinc X hx hby d2_15 (x := (4 : Int32)) rfl (by decide) (l' := #[.val (.ref a1), .val (.int (3 : Int32)), .val (.int p3), .val (.int (5 : Int32)), .val (.int ((p3.toUInt32 >>> ((7 : Int32) &&& 31).toUInt32).toInt32))]) rfl 18 rfl ?_
      refine own_iload X hx hby ((p3.toUInt32 >>> ((7 : Int32) &&& 31).toUInt32).toInt32) d2_18 rfl 20 rfl ?_
      refine own_bipush X hx hby (127 : Int32) d2_20 rfl 22 rfl ?_
      refine own_iand X hx hby d2_22 23 rfl ?_
      refine own_sipush X hx hby (128 : Int32) d2_23 rfl 26 rfl ?_
      refine own_ior X hx hby d2_26 27 rfl ?_
      refine own_i2b X hx hby d2_27 28 rfl ?_
      refine own_bastore X hx hby hZ eT A_a1 (by decide) d2_28 29 rfl ?_
      intro T28 h28 X eT W A
      have E_a1 := E_a1.wr W
      have A_a1 : Afi Z h28 a1 .byte 10 (updI (updI ar_a1 3 (nar .byte (((p3 &&& (127 : Int32)) ||| (128 : Int32)).toInt8.toInt32))) 4 (nar .byte (((((p3.toUInt32 >>> ((7 : Int32) &&& 31).toUInt32).toInt32) &&& (127 : Int32)) ||| (128 : Int32)).toInt8.toInt32))) := A
      have N := Fr.snoc X N g_a1
      have K := K.wr W (Or.inl (List.mem_of_getElem? (i := 0) rfl))
      have Zs := Nat.le_trans Zs (Keep.of_wr W).1
      refine own_iload X hx hby ((p3.toUInt32 >>> ((7 : Int32) &&& 31).toUInt32).toInt32) d2_29 rfl 31 rfl ?_
      refine own_bipush X hx hby (7 : Int32) d2_31 rfl 33 rfl ?_
      refine own_iushr X hx hby d2_33 34 rfl ?_
      refine own_istore X hx hby d2_34 rfl (l' := #[.val (.ref a1), .val (.int (3 : Int32)), .val (.int p3), .val (.int (5 : Int32)), .val (.int ((((p3.toUInt32 >>> ((7 : Int32) &&& 31).toUInt32).toInt32).toUInt32 >>> ((7 : Int32) &&& 31).toUInt32).toInt32))]) rfl 36 rfl ?_
      refine own_goto X hx hby d2_36 5 (by decide) ?_
      refine own_iload X hx hby ((((p3.toUInt32 >>> ((7 : Int32) &&& 31).toUInt32).toInt32).toUInt32 >>> ((7 : Int32) &&& 31).toUInt32).toInt32) d2_5 rfl 7 rfl ?_
      refine own_bipush X hx hby (-128 : Int32) d2_7 rfl 9 rfl ?_
      refine own_iand X hx hby d2_9 10 rfl ?_
      refine own_if_eq X hx hby d2_10 39 13 (by decide) rfl (fun c10_3 => ?_) (fun c10_3 => ?_)
      · skip
        refine own_aloadN X hx hby (.ref a1) d2_39 rfl rfl 40 rfl ?_
        refine own_iloadN X hx hby (5 : Int32) d2_40 rfl 41 rfl ?_
        refine own_iinc X hx hby d2_41 (x := (5 : Int32)) rfl (by decide) (l' := #[.val (.ref a1), .val (.int (3 : Int32)), .val (.int p3), .val (.int (6 : Int32)), .val (.int ((((p3.toUInt32 >>> ((7 : Int32) &&& 31).toUInt32).toInt32).toUInt32 >>> ((7 : Int32) &&& 31).toUInt32).toInt32))]) rfl 44 rfl ?_
        refine own_iload X hx hby ((((p3.toUInt32 >>> ((7 : Int32) &&& 31).toUInt32).toInt32).toUInt32 >>> ((7 : Int32) &&& 31).toUInt32).toInt32) d2_44 rfl 46 rfl ?_
        refine own_i2b X hx hby d2_46 47 rfl ?_
        refine own_bastore X hx hby hZ eT A_a1 (by decide) d2_47 48 rfl ?_
        intro T47 h47 X eT W A
        have E_a1 := E_a1.wr W
        have A_a1 : Afi Z h47 a1 .byte 10 (updI (updI (updI ar_a1 3 (nar .byte (((p3 &&& (127 : Int32)) ||| (128 : Int32)).toInt8.toInt32))) 4 (nar .byte (((((p3.toUInt32 >>> ((7 : Int32) &&& 31).toUInt32).toInt32) &&& (127 : Int32)) ||| (128 : Int32)).toInt8.toInt32))) 5 (nar .byte (((((p3.toUInt32 >>> ((7 : Int32) &&& 31).toUInt32).toInt32).toUInt32 >>> ((7 : Int32) &&& 31).toUInt32).toInt32).toInt8.toInt32))) := A
        have N := Fr.snoc X N g_a1
        have K := K.wr W (Or.inl (List.mem_of_getElem? (i := 0) rfl))
        have Zs := Nat.le_trans Zs (Keep.of_wr W).1
        refine own_iloadN X hx hby (6 : Int32) d2_48 rfl 49 rfl ?_
        refine own_retI X hx hby hret hlk d2_49 (by decide) (by decide) ?_
        rw [eT]
        exact ⟨congrArg (fun z => some (Value.int z)) (by unfold f2_3; rw [if_neg c10, if_neg c10_2, if_pos c10_3]), N, K, (by have q : (f2_3_ar_a1 p3 ar_a1) = (updI (updI (updI ar_a1 3 (nar .byte (((p3 &&& (127 : Int32)) ||| (128 : Int32)).toInt8.toInt32))) 4 (nar .byte (((((p3.toUInt32 >>> ((7 : Int32) &&& 31).toUInt32).toInt32) &&& (127 : Int32)) ||| (128 : Int32)).toInt8.toInt32))) 5 (nar .byte (((((p3.toUInt32 >>> ((7 : Int32) &&& 31).toUInt32).toInt32).toUInt32 >>> ((7 : Int32) &&& 31).toUInt32).toInt32).toInt8.toInt32))) := Eq.symm (by unfold f2_3_ar_a1; rw [if_neg c10, if_neg c10_2, if_pos c10_3]); rw [q]; exact A_a1), E_a1⟩
      · skip
        refine own_aloadN X hx hby (.ref a1) d2_13 rfl rfl 14 rfl ?_
        refine own_iloadN X hx hby (5 : Int32) d2_14 rfl 15 rfl ?_
        refine own_iinc X hx hby d2_15 (x := (5 : Int32)) rfl (by decide) (l' := #[.val (.ref a1), .val (.int (3 : Int32)), .val (.int p3), .val (.int (6 : Int32)), .val (.int ((((p3.toUInt32 >>> ((7 : Int32) &&& 31).toUInt32).toInt32).toUInt32 >>> ((7 : Int32) &&& 31).toUInt32).toInt32))]) rfl 18 rfl ?_
        refine own_iload X hx hby ((((p3.toUInt32 >>> ((7 : Int32) &&& 31).toUInt32).toInt32).toUInt32 >>> ((7 : Int32) &&& 31).toUInt32).toInt32) d2_18 rfl 20 rfl ?_
        refine own_bipush X hx hby (127 : Int32) d2_20 rfl 22 rfl ?_
        refine own_iand X hx hby d2_22 23 rfl ?_
        refine own_sipush X hx hby (128 : Int32) d2_23 rfl 26 rfl ?_
        refine own_ior X hx hby d2_26 27 rfl ?_
        refine own_i2b X hx hby d2_27 28 rfl ?_
        refine own_bastore X hx hby hZ eT A_a1 (by decide) d2_28 29 rfl ?_
        intro T28 h28 X eT W A
        have E_a1 := E_a1.wr W
        have A_a1 : Afi Z h28 a1 .byte 10 (updI (updI (updI ar_a1 3 (nar .byte (((p3 &&& (127 : Int32)) ||| (128 : Int32)).toInt8.toInt32))) 4 (nar .byte (((((p3.toUInt32 >>> ((7 : Int32) &&& 31).toUInt32).toInt32) &&& (127 : Int32)) ||| (128 : Int32)).toInt8.toInt32))) 5 (nar .byte (((((((p3.toUInt32 >>> ((7 : Int32) &&& 31).toUInt32).toInt32).toUInt32 >>> ((7 : Int32) &&& 31).toUInt32).toInt32) &&& (127 : Int32)) ||| (128 : Int32)).toInt8.toInt32))) := A
        have N := Fr.snoc X N g_a1
        have K := K.wr W (Or.inl (List.mem_of_getElem? (i := 0) rfl))
        have Zs := Nat.le_trans Zs (Keep.of_wr W).1
        refine own_iload X hx hby ((((p3.toUInt32 >>> ((7 : Int32) &&& 31).toUInt32).toInt32).toUInt32 >>> ((7 : Int32) &&& 31).toUInt32).toInt32) d2_29 rfl 31 rfl ?_
        refine own_bipush X hx hby (7 : Int32) d2_31 rfl 33 rfl ?_
        refine own_iushr X hx hby d2_33 34 rfl ?_
        refine own_istore X hx hby d2_34 rfl (l' := #[.val (.ref a1), .val (.int (3 : Int32)), .val (.int p3), .val (.int (6 : Int32)), .val (.int ((((((p3.toUInt32 >>> ((7 : Int32) &&& 31).toUInt32).toInt32).toUInt32 >>> ((7 : Int32) &&& 31).toUInt32).toInt32).toUInt32 >>> ((7 : Int32) &&& 31).toUInt32).toInt32))]) rfl 36 rfl ?_
        refine own_goto X hx hby d2_36 5 (by decide) ?_
        refine own_iload X hx hby ((((((p3.toUInt32 >>> ((7 : Int32) &&& 31).toUInt32).toInt32).toUInt32 >>> ((7 : Int32) &&& 31).toUInt32).toInt32).toUInt32 >>> ((7 : Int32) &&& 31).toUInt32).toInt32) d2_5 rfl 7 rfl ?_
        refine own_bipush X hx hby (-128 : Int32) d2_7 rfl 9 rfl ?_
        refine own_iand X hx hby d2_9 10 rfl ?_
        refine own_if_eq X hx hby d2_10 39 13 (by decide) rfl (fun c10_4 => ?_) (fun c10_4 => ?_)
        · skip
          refine own_aloadN X hx hby (.ref a1) d2_39 rfl rfl 40 rfl ?_
          refine own_iloadN X hx hby (6 : Int32) d2_40 rfl 41 rfl ?_
          refine own_iinc X hx hby d2_41 (x := (6 : Int32)) rfl (by decide) (l' := #[.val (.ref a1), .val (.int (3 : Int32)), .val (.int p3), .val (.int (7 : Int32)), .val (.int ((((((p3.toUInt32 >>> ((7 : Int32) &&& 31).toUInt32).toInt32).toUInt32 >>> ((7 : Int32) &&& 31).toUInt32).toInt32).toUInt32 >>> ((7 : Int32) &&& 31).toUInt32).toInt32))]) rfl 44 rfl ?_
          refine own_iload X hx hby ((((((p3.toUInt32 >>> ((7 : Int32) &&& 31).toUInt32).toInt32).toUInt32 >>> ((7 : Int32) &&& 31).toUInt32).toInt32).toUInt32 >>> ((7 : Int32) &&& 31).toUInt32).toInt32) d2_44 rfl 46 rfl ?_
          refine own_i2b X hx hby d2_46 47 rfl ?_
          refine own_bastore X hx hby hZ eT A_a1 (by decide) d2_47 48 rfl ?_
          intro T47 h47 X eT W A
          have E_a1 := E_a1.wr W
          have A_a1 : Afi Z h47 a1 .byte 10 (updI (updI (updI (updI ar_a1 3 (nar .byte (((p3 &&& (127 : Int32)) ||| (128 : Int32)).toInt8.toInt32))) 4 (nar .byte (((((p3.toUInt32 >>> ((7 : Int32) &&& 31).toUInt32).toInt32) &&& (127 : Int32)) ||| (128 : Int32)).toInt8.toInt32))) 5 (nar .byte (((((((p3.toUInt32 >>> ((7 : Int32) &&& 31).toUInt32).toInt32).toUInt32 >>> ((7 : Int32) &&& 31).toUInt32).toInt32) &&& (127 : Int32)) ||| (128 : Int32)).toInt8.toInt32))) 6 (nar .byte (((((((p3.toUInt32 >>> ((7 : Int32) &&& 31).toUInt32).toInt32).toUInt32 >>> ((7 : Int32) &&& 31).toUInt32).toInt32).toUInt32 >>> ((7 : Int32) &&& 31).toUInt32).toInt32).toInt8.toInt32))) := A
          have N := Fr.snoc X N g_a1
          have K := K.wr W (Or.inl (List.mem_of_getElem? (i := 0) rfl))
          have Zs := Nat.le_trans Zs (Keep.of_wr W).1
          refine own_iloadN X hx hby (7 : Int32) d2_48 rfl 49 rfl ?_
          refine own_retI X hx hby hret hlk d2_49 (by decide) (by decide) ?_
          rw [eT]
          exact ⟨congrArg (fun z => some (Value.int z)) (by unfold f2_3; rw [if_neg c10, if_neg c10_2, if_neg c10_3, if_pos c10_4]), N, K, (by have q : (f2_3_ar_a1 p3 ar_a1) = (updI (updI (updI (updI ar_a1 3 (nar .byte (((p3 &&& (127 : Int32)) ||| (128 : Int32)).toInt8.toInt32))) 4 (nar .byte (((((p3.toUInt32 >>> ((7 : Int32) &&& 31).toUInt32).toInt32) &&& (127 : Int32)) ||| (128 : Int32)).toInt8.toInt32))) 5 (nar .byte (((((((p3.toUInt32 >>> ((7 : Int32) &&& 31).toUInt32).toInt32).toUInt32 >>> ((7 : Int32) &&& 31).toUInt32).toInt32) &&& (127 : Int32)) ||| (128 : Int32)).toInt8.toInt32))) 6 (nar .byte (((((((p3.toUInt32 >>> ((7 : Int32) &&& 31).toUInt32).toInt32).toUInt32 >>> ((7 : Int32) &&& 31).toUInt32).toInt32).toUInt32 >>> ((7 : Int32) &&& 31).toUInt32).toInt32).toInt8.toInt32))) := Eq.symm (by unfold f2_3_ar_a1; rw [if_neg c10, if_neg c10_2, if_neg c10_3, if_pos c10_4]); rw [q]; exact A_a1), E_a1⟩
        · skip
          refine own_aloadN X hx hby (.ref a1) d2_13 rfl rfl 14 rfl ?_
          refine own_iloadN X hx hby (6 : Int32) d2_14 rfl 15 rfl ?_
          refine own_iinc X hx hby d2_15 (x := (6 : Int32)) rfl (by decide) (l' := #[.val (.ref a1), .val (.int (3 : Int32)), .val (.int p3), .val (.int (7 : Int32)), .val (.int ((((((p3.toUInt32 >>> ((7 : Int32) &&& 31).toUInt32).toInt32).toUInt32 >>> ((7 : Int32) &&& 31).toUInt32).toInt32).toUInt32 >>> ((7 : Int32) &&& 31).toUInt32).toInt32))]) rfl 18 rfl ?_
          refine own_iload X hx hby ((((((p3.toUInt32 >>> ((7 : Int32) &&& 31).toUInt32).toInt32).toUInt32 >>> ((7 : Int32) &&& 31).toUInt32).toInt32).toUInt32 >>> ((7 : Int32) &&& 31).toUInt32).toInt32) d2_18 rfl 20 rfl ?_
          refine own_bipush X hx hby (127 : Int32) d2_20 rfl 22 rfl ?_
          refine own_iand X hx hby d2_22 23 rfl ?_
          refine own_sipush X hx hby (128 : Int32) d2_23 rfl 26 rfl ?_
          refine own_ior X hx hby d2_26 27 rfl ?_
          refine own_i2b X hx hby d2_27 28 rfl ?_
          refine own_bastore X hx hby hZ eT A_a1 (by decide) d2_28 29 rfl ?_
          intro T28 h28 X eT W A
          have E_a1 := E_a1.wr W
          have A_a1 : Afi Z h28 a1 .byte 10 (updI (updI (updI (updI ar_a1 3 (nar .byte (((p3 &&& (127 : Int32)) ||| (128 : Int32)).toInt8.toInt32))) 4 (nar .byte (((((p3.toUInt32 >>> ((7 : Int32) &&& 31).toUInt32).toInt32) &&& (127 : Int32)) ||| (128 : Int32)).toInt8.toInt32))) 5 (nar .byte (((((((p3.toUInt32 >>> ((7 : Int32) &&& 31).toUInt32).toInt32).toUInt32 >>> ((7 : Int32) &&& 31).toUInt32).toInt32) &&& (127 : Int32)) ||| (128 : Int32)).toInt8.toInt32))) 6 (nar .byte (((((((((p3.toUInt32 >>> ((7 : Int32) &&& 31).toUInt32).toInt32).toUInt32 >>> ((7 : Int32) &&& 31).toUInt32).toInt32).toUInt32 >>> ((7 : Int32) &&& 31).toUInt32).toInt32) &&& (127 : Int32)) ||| (128 : Int32)).toInt8.toInt32))) := A
          have N := Fr.snoc X N g_a1
          have K := K.wr W (Or.inl (List.mem_of_getElem? (i := 0) rfl))
          have Zs := Nat.le_trans Zs (Keep.of_wr W).1
          refine own_iload X hx hby ((((((p3.toUInt32 >>> ((7 : Int32) &&& 31).toUInt32).toInt32).toUInt32 >>> ((7 : Int32) &&& 31).toUInt32).toInt32).toUInt32 >>> ((7 : Int32) &&& 31).toUInt32).toInt32) d2_29 rfl 31 rfl ?_
          refine own_bipush X hx hby (7 : Int32) d2_31 rfl 33 rfl ?_
          refine own_iushr X hx hby d2_33 34 rfl ?_
          refine own_istore X hx hby d2_34 rfl (l' := #[.val (.ref a1), .val (.int (3 : Int32)), .val (.int p3), .val (.int (7 : Int32)), .val (.int ((((((((p3.toUInt32 >>> ((7 : Int32) &&& 31).toUInt32).toInt32).toUInt32 >>> ((7 : Int32) &&& 31).toUInt32).toInt32).toUInt32 >>> ((7 : Int32) &&& 31).toUInt32).toInt32).toUInt32 >>> ((7 : Int32) &&& 31).toUInt32).toInt32))]) rfl 36 rfl ?_
          refine own_goto X hx hby d2_36 5 (by decide) ?_
          refine own_iload X hx hby ((((((((p3.toUInt32 >>> ((7 : Int32) &&& 31).toUInt32).toInt32).toUInt32 >>> ((7 : Int32) &&& 31).toUInt32).toInt32).toUInt32 >>> ((7 : Int32) &&& 31).toUInt32).toInt32).toUInt32 >>> ((7 : Int32) &&& 31).toUInt32).toInt32) d2_5 rfl 7 rfl ?_
          refine own_bipush X hx hby (-128 : Int32) d2_7 rfl 9 rfl ?_
          refine own_iand X hx hby d2_9 10 rfl ?_
          have c10_5 : (((((((((p3.toUInt32 >>> ((7 : Int32) &&& 31).toUInt32).toInt32).toUInt32 >>> ((7 : Int32) &&& 31).toUInt32).toInt32).toUInt32 >>> ((7 : Int32) &&& 31).toUInt32).toInt32).toUInt32 >>> ((7 : Int32) &&& 31).toUInt32).toInt32) &&& (-128 : Int32)) = (0 : Int32) := own_top5 _
          refine own_if_eq X hx hby d2_10 39 13 (by decide) rfl (fun _ => ?_) (fun q => absurd c10_5 q)
          refine own_aloadN X hx hby (.ref a1) d2_39 rfl rfl 40 rfl ?_
          refine own_iloadN X hx hby (7 : Int32) d2_40 rfl 41 rfl ?_
          refine own_iinc X hx hby d2_41 (x := (7 : Int32)) rfl (by decide) (l' := #[.val (.ref a1), .val (.int (3 : Int32)), .val (.int p3), .val (.int (8 : Int32)), .val (.int ((((((((p3.toUInt32 >>> ((7 : Int32) &&& 31).toUInt32).toInt32).toUInt32 >>> ((7 : Int32) &&& 31).toUInt32).toInt32).toUInt32 >>> ((7 : Int32) &&& 31).toUInt32).toInt32).toUInt32 >>> ((7 : Int32) &&& 31).toUInt32).toInt32))]) rfl 44 rfl ?_
          refine own_iload X hx hby ((((((((p3.toUInt32 >>> ((7 : Int32) &&& 31).toUInt32).toInt32).toUInt32 >>> ((7 : Int32) &&& 31).toUInt32).toInt32).toUInt32 >>> ((7 : Int32) &&& 31).toUInt32).toInt32).toUInt32 >>> ((7 : Int32) &&& 31).toUInt32).toInt32) d2_44 rfl 46 rfl ?_
          refine own_i2b X hx hby d2_46 47 rfl ?_
          refine own_bastore X hx hby hZ eT A_a1 (by decide) d2_47 48 rfl ?_
          intro T47 h47 X eT W A
          have E_a1 := E_a1.wr W
          have A_a1 : Afi Z h47 a1 .byte 10 (updI (updI (updI (updI (updI ar_a1 3 (nar .byte (((p3 &&& (127 : Int32)) ||| (128 : Int32)).toInt8.toInt32))) 4 (nar .byte (((((p3.toUInt32 >>> ((7 : Int32) &&& 31).toUInt32).toInt32) &&& (127 : Int32)) ||| (128 : Int32)).toInt8.toInt32))) 5 (nar .byte (((((((p3.toUInt32 >>> ((7 : Int32) &&& 31).toUInt32).toInt32).toUInt32 >>> ((7 : Int32) &&& 31).toUInt32).toInt32) &&& (127 : Int32)) ||| (128 : Int32)).toInt8.toInt32))) 6 (nar .byte (((((((((p3.toUInt32 >>> ((7 : Int32) &&& 31).toUInt32).toInt32).toUInt32 >>> ((7 : Int32) &&& 31).toUInt32).toInt32).toUInt32 >>> ((7 : Int32) &&& 31).toUInt32).toInt32) &&& (127 : Int32)) ||| (128 : Int32)).toInt8.toInt32))) 7 (nar .byte (((((((((p3.toUInt32 >>> ((7 : Int32) &&& 31).toUInt32).toInt32).toUInt32 >>> ((7 : Int32) &&& 31).toUInt32).toInt32).toUInt32 >>> ((7 : Int32) &&& 31).toUInt32).toInt32).toUInt32 >>> ((7 : Int32) &&& 31).toUInt32).toInt32).toInt8.toInt32))) := A
          have N := Fr.snoc X N g_a1
          have K := K.wr W (Or.inl (List.mem_of_getElem? (i := 0) rfl))
          have Zs := Nat.le_trans Zs (Keep.of_wr W).1
          refine own_iloadN X hx hby (8 : Int32) d2_48 rfl 49 rfl ?_
          refine own_retI X hx hby hret hlk d2_49 (by decide) (by decide) ?_
          rw [eT]
          exact ⟨congrArg (fun z => some (Value.int z)) (by unfold f2_3; rw [if_neg c10, if_neg c10_2, if_neg c10_3, if_neg c10_4]), N, K, (by have q : (f2_3_ar_a1 p3 ar_a1) = (updI (updI (updI (updI (updI ar_a1 3 (nar .byte (((p3 &&& (127 : Int32)) ||| (128 : Int32)).toInt8.toInt32))) 4 (nar .byte (((((p3.toUInt32 >>> ((7 : Int32) &&& 31).toUInt32).toInt32) &&& (127 : Int32)) ||| (128 : Int32)).toInt8.toInt32))) 5 (nar .byte (((((((p3.toUInt32 >>> ((7 : Int32) &&& 31).toUInt32).toInt32).toUInt32 >>> ((7 : Int32) &&& 31).toUInt32).toInt32) &&& (127 : Int32)) ||| (128 : Int32)).toInt8.toInt32))) 6 (nar .byte (((((((((p3.toUInt32 >>> ((7 : Int32) &&& 31).toUInt32).toInt32).toUInt32 >>> ((7 : Int32) &&& 31).toUInt32).toInt32).toUInt32 >>> ((7 : Int32) &&& 31).toUInt32).toInt32) &&& (127 : Int32)) ||| (128 : Int32)).toInt8.toInt32))) 7 (nar .byte (((((((((p3.toUInt32 >>> ((7 : Int32) &&& 31).toUInt32).toInt32).toUInt32 >>> ((7 : Int32) &&& 31).toUInt32).toInt32).toUInt32 >>> ((7 : Int32) &&& 31).toUInt32).toInt32).toUInt32 >>> ((7 : Int32) &&& 31).toUInt32).toInt32).toInt8.toInt32))) := Eq.symm (by unfold f2_3_ar_a1; rw [if_neg c10, if_neg c10_2, if_neg c10_3, if_neg c10_4]); rw [q]; exact A_a1), E_a1⟩
theorem ef_3 (p1 : Int32) (p2 : Int32) (p3 : Int32) (p4 : Int32) (p5 : Int32) (m : MethodId) : entryFrame m #[(.int p1), (.int p2), (.int p3), (.int p4), (.int p5)] 7 = mkF m 0 #[.val (.int p1), .val (.int p2), .val (.int p3), .val (.int p4), .val (.int p5), .unset, .unset] [] := by first | (simp [entryFrame, mkF, argsToLocals, Value.category]; done) | rfl
def f3 (p1 : Int32) (p2 : Int32) (p3 : Int32) (p4 : Int32) (p5 : Int32) : Int32 := (if p1 < p2 then (nar .byte p5) else (if p1 < (p2 + p3) then (if (p1 - p2) < (p3 - (1 : Int32)) then (nar .byte (((((p4.toUInt32 >>> (((7 : Int32) * (p1 - p2)) &&& 31).toUInt32).toInt32) &&& (127 : Int32)) ||| (128 : Int32)).toInt8.toInt32)) else (nar .byte ((((p4.toUInt32 >>> (((7 : Int32) * (p1 - p2)) &&& 31).toUInt32).toInt32) &&& (127 : Int32)).toInt8.toInt32))) else (nar .byte p5)))
def Q3 (Z : State) (p1 : Int32) (p2 : Int32) (p3 : Int32) (p4 : Int32) (p5 : Int32) (h0 : Heap) (n0 : Nat) (v : Option Value) (h : Heap) (L : List Loc) : Prop := v = some (.int (f3 p1 p2 p3 p4 p5)) ∧ Fr n0 L ∧ h = h0
set_option maxRecDepth 65536 in
set_option maxHeartbeats 40000000 in
theorem rm3 (l : Launch) (Z : State) (a0 : Array Value) (hw : ∀ d ∈ tables_1, d.before a0 Z = true) (p1 : Int32) (p2 : Int32) (p3 : Int32) (p4 : Int32) (p5 : Int32) (h0 : Heap) (n0 : Nat) (Zs : n0 ≤ h0.size) :
    Met1 l Z (⟨"com/example/kvadtree/kvadtree/FragmentsPutVarintPinLaw", "expected", "(IIIIB)B"⟩ : MethodName) method_3_code 7 (some .byte) ({ frames := 0, cells := 0, slots := 0, locals := 0 } : Room) #[(.int p1), (.int p2), (.int p3), (.int p4), (.int p5)] h0 (Q3 Z p1 p2 p3 p4 p5 h0 n0) := by
  refine own_met_of (plainFor_of_name pn_1) (ef_3 p1 p2 p3 p4 p5) ?_
  intro p e s m below meth c s₁ X hx hby hml hZ hown hnm hret hlk eT
  have hown : s.vm.findClass "com/example/kvadtree/kvadtree/FragmentsPutVarintPinLaw" = some m.cls := hown
  have N := Fr.nil n0
  refine own_iloadN X hx hby p1 d3_0 rfl 1 rfl ?_
  refine own_iloadN X hx hby p2 d3_1 rfl 2 rfl ?_
  refine own_icmp_lt X hx hby d3_2 12 5 (by decide) rfl (fun c2 => ?_) (fun c2 => ?_)
  · skip
    refine own_iload X hx hby p5 d3_12 rfl 14 rfl ?_
    refine own_retN X hx hby hret hlk (t := .byte) (z' := (nar .byte p5)) (by simp) d3_14 (by decide) (by decide) rfl ?_
    rw [eT]
    exact ⟨congrArg (fun z => some (Value.int z)) (by unfold f3; rw [if_pos c2]), N, rfl⟩
  · skip
    refine own_iloadN X hx hby p1 d3_5 rfl 6 rfl ?_
    refine own_iloadN X hx hby p2 d3_6 rfl 7 rfl ?_
    refine own_iloadN X hx hby p3 d3_7 rfl 8 rfl ?_
    refine own_iadd X hx hby d3_8 9 rfl ?_
    refine own_icmp_lt X hx hby d3_9 15 12 (by decide) rfl (fun c9 => ?_) (fun c9 => ?_)
    · skip
      refine own_iloadN X hx hby p1 d3_15 rfl 16 rfl ?_
      refine own_iloadN X hx hby p2 d3_16 rfl 17 rfl ?_
      refine own_isub X hx hby d3_17 18 rfl ?_
      refine own_istore X hx hby d3_18 rfl (l' := #[.val (.int p1), .val (.int p2), .val (.int p3), .val (.int p4), .val (.int p5), .val (.int (p1 - p2)), .unset]) rfl 20 rfl ?_
      refine own_iloadN X hx hby p4 d3_20 rfl 21 rfl ?_
      refine own_bipush X hx hby (7 : Int32) d3_21 rfl 23 rfl ?_
      refine own_iload X hx hby (p1 - p2) d3_23 rfl 25 rfl ?_
      refine own_imul X hx hby d3_25 26 rfl ?_
      refine own_iushr X hx hby d3_26 27 rfl ?_
      refine own_bipush X hx hby (127 : Int32) d3_27 rfl 29 rfl ?_
      refine own_iand X hx hby d3_29 30 rfl ?_
      refine own_istore X hx hby d3_30 rfl (l' := #[.val (.int p1), .val (.int p2), .val (.int p3), .val (.int p4), .val (.int p5), .val (.int (p1 - p2)), .val (.int (((p4.toUInt32 >>> (((7 : Int32) * (p1 - p2)) &&& 31).toUInt32).toInt32) &&& (127 : Int32)))]) rfl 32 rfl ?_
      refine own_iload X hx hby (p1 - p2) d3_32 rfl 34 rfl ?_
      refine own_iloadN X hx hby p3 d3_34 rfl 35 rfl ?_
      refine own_iconst X hx hby (1 : Int32) d3_35 rfl 36 rfl ?_
      refine own_isub X hx hby d3_36 37 rfl ?_
      refine own_icmp_ge X hx hby d3_37 48 40 (by decide) rfl (fun c37 => ?_) (fun c37 => ?_)
      · skip
        refine own_iload X hx hby (((p4.toUInt32 >>> (((7 : Int32) * (p1 - p2)) &&& 31).toUInt32).toInt32) &&& (127 : Int32)) d3_48 rfl 50 rfl ?_
        refine own_i2b X hx hby d3_50 51 rfl ?_
        refine own_retN X hx hby hret hlk (t := .byte) (z' := (nar .byte ((((p4.toUInt32 >>> (((7 : Int32) * (p1 - p2)) &&& 31).toUInt32).toInt32) &&& (127 : Int32)).toInt8.toInt32))) (by simp) d3_51 (by decide) (by decide) rfl ?_
        rw [eT]
        exact ⟨congrArg (fun z => some (Value.int z)) (by unfold f3; rw [if_neg c2, if_pos c9, if_neg c37]), N, rfl⟩
      · skip
        refine own_iload X hx hby (((p4.toUInt32 >>> (((7 : Int32) * (p1 - p2)) &&& 31).toUInt32).toInt32) &&& (127 : Int32)) d3_40 rfl 42 rfl ?_
        refine own_sipush X hx hby (128 : Int32) d3_42 rfl 45 rfl ?_
        refine own_ior X hx hby d3_45 46 rfl ?_
        refine own_istore X hx hby d3_46 rfl (l' := #[.val (.int p1), .val (.int p2), .val (.int p3), .val (.int p4), .val (.int p5), .val (.int (p1 - p2)), .val (.int ((((p4.toUInt32 >>> (((7 : Int32) * (p1 - p2)) &&& 31).toUInt32).toInt32) &&& (127 : Int32)) ||| (128 : Int32)))]) rfl 48 rfl ?_
        refine own_iload X hx hby ((((p4.toUInt32 >>> (((7 : Int32) * (p1 - p2)) &&& 31).toUInt32).toInt32) &&& (127 : Int32)) ||| (128 : Int32)) d3_48 rfl 50 rfl ?_
        refine own_i2b X hx hby d3_50 51 rfl ?_
        refine own_retN X hx hby hret hlk (t := .byte) (z' := (nar .byte (((((p4.toUInt32 >>> (((7 : Int32) * (p1 - p2)) &&& 31).toUInt32).toInt32) &&& (127 : Int32)) ||| (128 : Int32)).toInt8.toInt32))) (by simp) d3_51 (by decide) (by decide) rfl ?_
        rw [eT]
        exact ⟨congrArg (fun z => some (Value.int z)) (by unfold f3; rw [if_neg c2, if_pos c9, if_pos c37]), N, rfl⟩
    · skip
      refine own_iload X hx hby p5 d3_12 rfl 14 rfl ?_
      refine own_retN X hx hby hret hlk (t := .byte) (z' := (nar .byte p5)) (by simp) d3_14 (by decide) (by decide) rfl ?_
      rw [eT]
      exact ⟨congrArg (fun z => some (Value.int z)) (by unfold f3; rw [if_neg c2, if_neg c9]), N, rfl⟩
theorem ef_0 (p1 : Int32) (p2 : Int32) (p3 : Int32) (m : MethodId) : entryFrame m #[(.int p1), (.int p2), (.int p3)] maxLocals = mkF m 0 #[.val (.int p1), .val (.int p2), .val (.int p3), .unset, .unset, .unset, .unset, .unset, .unset] [] := by first | (simp [entryFrame, mkF, argsToLocals, Value.category, maxLocals]; done) | rfl
def Q0 (Z : State) (p1 : Int32) (p2 : Int32) (p3 : Int32) (h0 : Heap) (n0 : Nat) (v : Option Value) (h : Heap) (L : List Loc) : Prop := v = some (.int (1 : Int32)) ∧ Fr n0 L
theorem own_four (z v : Int32) (e : (z &&& (3 : Int32)) = v) : v = (0 : Int32) ∨ v = (1 : Int32) ∨ v = (2 : Int32) ∨ v = (3 : Int32) := by
  have h := c_mask z (3 : Int32) 2 (by decide) (by decide)
  rw [e] at h
  simp only [← Int32.toInt_inj, Int32.reduceToInt]
  omega
theorem own_w_0 (v : Int32) (g : Nat → Int32) : (((v.toUInt32 >>> ((7 : Int32) &&& 31).toUInt32).toInt32) = (0 : Int32) ∧ f1 v = (1 : Int32) ∧ f2_0 v = (1 : Int32) ∧ f2_0_ar_a1 v g = (updI g 0 (nar .byte (v.toInt8.toInt32)))) ∨ (¬ ((v.toUInt32 >>> ((7 : Int32) &&& 31).toUInt32).toInt32) = (0 : Int32) ∧ ((v.toUInt32 >>> ((14 : Int32) &&& 31).toUInt32).toInt32) = (0 : Int32) ∧ f1 v = (2 : Int32) ∧ f2_0 v = (2 : Int32) ∧ f2_0_ar_a1 v g = (updI (updI g 0 (nar .byte (((v &&& (127 : Int32)) ||| (128 : Int32)).toInt8.toInt32))) 1 (nar .byte (((v.toUInt32 >>> ((7 : Int32) &&& 31).toUInt32).toInt32).toInt8.toInt32)))) ∨ (¬ ((v.toUInt32 >>> ((7 : Int32) &&& 31).toUInt32).toInt32) = (0 : Int32) ∧ ¬ ((v.toUInt32 >>> ((14 : Int32) &&& 31).toUInt32).toInt32) = (0 : Int32) ∧ ((v.toUInt32 >>> ((21 : Int32) &&& 31).toUInt32).toInt32) = (0 : Int32) ∧ f1 v = (3 : Int32) ∧ f2_0 v = (3 : Int32) ∧ f2_0_ar_a1 v g = (updI (updI (updI g 0 (nar .byte (((v &&& (127 : Int32)) ||| (128 : Int32)).toInt8.toInt32))) 1 (nar .byte (((((v.toUInt32 >>> ((7 : Int32) &&& 31).toUInt32).toInt32) &&& (127 : Int32)) ||| (128 : Int32)).toInt8.toInt32))) 2 (nar .byte (((v.toUInt32 >>> ((14 : Int32) &&& 31).toUInt32).toInt32).toInt8.toInt32)))) ∨ (¬ ((v.toUInt32 >>> ((7 : Int32) &&& 31).toUInt32).toInt32) = (0 : Int32) ∧ ¬ ((v.toUInt32 >>> ((14 : Int32) &&& 31).toUInt32).toInt32) = (0 : Int32) ∧ ¬ ((v.toUInt32 >>> ((21 : Int32) &&& 31).toUInt32).toInt32) = (0 : Int32) ∧ ((v.toUInt32 >>> ((28 : Int32) &&& 31).toUInt32).toInt32) = (0 : Int32) ∧ f1 v = (4 : Int32) ∧ f2_0 v = (4 : Int32) ∧ f2_0_ar_a1 v g = (updI (updI (updI (updI g 0 (nar .byte (((v &&& (127 : Int32)) ||| (128 : Int32)).toInt8.toInt32))) 1 (nar .byte (((((v.toUInt32 >>> ((7 : Int32) &&& 31).toUInt32).toInt32) &&& (127 : Int32)) ||| (128 : Int32)).toInt8.toInt32))) 2 (nar .byte (((((v.toUInt32 >>> ((14 : Int32) &&& 31).toUInt32).toInt32) &&& (127 : Int32)) ||| (128 : Int32)).toInt8.toInt32))) 3 (nar .byte (((v.toUInt32 >>> ((21 : Int32) &&& 31).toUInt32).toInt32).toInt8.toInt32)))) ∨ (¬ ((v.toUInt32 >>> ((7 : Int32) &&& 31).toUInt32).toInt32) = (0 : Int32) ∧ ¬ ((v.toUInt32 >>> ((14 : Int32) &&& 31).toUInt32).toInt32) = (0 : Int32) ∧ ¬ ((v.toUInt32 >>> ((21 : Int32) &&& 31).toUInt32).toInt32) = (0 : Int32) ∧ ¬ ((v.toUInt32 >>> ((28 : Int32) &&& 31).toUInt32).toInt32) = (0 : Int32) ∧ f1 v = (5 : Int32) ∧ f2_0 v = (5 : Int32) ∧ f2_0_ar_a1 v g = (updI (updI (updI (updI (updI g 0 (nar .byte (((v &&& (127 : Int32)) ||| (128 : Int32)).toInt8.toInt32))) 1 (nar .byte (((((v.toUInt32 >>> ((7 : Int32) &&& 31).toUInt32).toInt32) &&& (127 : Int32)) ||| (128 : Int32)).toInt8.toInt32))) 2 (nar .byte (((((v.toUInt32 >>> ((14 : Int32) &&& 31).toUInt32).toInt32) &&& (127 : Int32)) ||| (128 : Int32)).toInt8.toInt32))) 3 (nar .byte (((((v.toUInt32 >>> ((21 : Int32) &&& 31).toUInt32).toInt32) &&& (127 : Int32)) ||| (128 : Int32)).toInt8.toInt32))) 4 (nar .byte (((v.toUInt32 >>> ((28 : Int32) &&& 31).toUInt32).toInt32).toInt8.toInt32)))) := by
  unfold f1 f2_0 f2_0_ar_a1
  simp only [own_hi, own_y2, own_y3, own_y4]
  by_cases h1 : ((v.toUInt32 >>> ((7 : Int32) &&& 31).toUInt32).toInt32) = (0 : Int32)
  · exact Or.inl ⟨h1, by rw [if_pos h1], by rw [if_pos h1], by rw [if_pos h1]⟩
  · by_cases h2 : ((v.toUInt32 >>> ((14 : Int32) &&& 31).toUInt32).toInt32) = (0 : Int32)
    · exact Or.inr (Or.inl ⟨h1, h2, by rw [if_neg h1, if_pos h2], by rw [if_neg h1, if_pos h2], by rw [if_neg h1, if_pos h2]⟩)
    · by_cases h3 : ((v.toUInt32 >>> ((21 : Int32) &&& 31).toUInt32).toInt32) = (0 : Int32)
      · exact Or.inr (Or.inr (Or.inl ⟨h1, h2, h3, by rw [if_neg h1, if_neg h2, if_pos h3], by rw [if_neg h1, if_neg h2, if_pos h3], by rw [if_neg h1, if_neg h2, if_pos h3]⟩))
      · by_cases h4 : ((v.toUInt32 >>> ((28 : Int32) &&& 31).toUInt32).toInt32) = (0 : Int32)
        · exact Or.inr (Or.inr (Or.inr (Or.inl ⟨h1, h2, h3, h4, by rw [if_neg h1, if_neg h2, if_neg h3, if_pos h4], by rw [if_neg h1, if_neg h2, if_neg h3, if_pos h4], by rw [if_neg h1, if_neg h2, if_neg h3, if_pos h4]⟩)))
        · exact Or.inr (Or.inr (Or.inr (Or.inr (⟨h1, h2, h3, h4, by rw [if_neg h1, if_neg h2, if_neg h3, if_neg h4], by rw [if_neg h1, if_neg h2, if_neg h3, if_neg h4], by rw [if_neg h1, if_neg h2, if_neg h3, if_neg h4]⟩))))
theorem own_r_0 (v s r : Int32) (es : f1 v = s) (er : f2_0 v = r) : r = ((0 : Int32) + s) := by
  rcases own_w_0 v (fun _ => 0) with h | h | h | h | h
  · rw [← er, ← es, h.2.2.1, h.2.1]; rfl
  · rw [← er, ← es, h.2.2.2.1, h.2.2.1]; rfl
  · rw [← er, ← es, h.2.2.2.2.1, h.2.2.2.1]; rfl
  · rw [← er, ← es, h.2.2.2.2.2.1, h.2.2.2.2.1]; rfl
  · rw [← er, ← es, h.2.2.2.2.2.1, h.2.2.2.2.1]; rfl
theorem own_c_0_0 (v b s : Int32) (ar : Nat → Int32) (es : f1 v = s) (ear : f2_0_ar_a1 v (updI (updI (updI (updI (updI (updI (updI (updI (updI (updI (fun _ => (0 : Int32)) 0 (nar .byte b)) 1 (nar .byte b)) 2 (nar .byte b)) 3 (nar .byte b)) 4 (nar .byte b)) 5 (nar .byte b)) 6 (nar .byte b)) 7 (nar .byte b)) 8 (nar .byte b)) 9 (nar .byte b)) = ar) : ar 0 = f3 (0 : Int32) (0 : Int32) s v b := by
  rcases own_w_0 v (updI (updI (updI (updI (updI (updI (updI (updI (updI (updI (fun _ => (0 : Int32)) 0 (nar .byte b)) 1 (nar .byte b)) 2 (nar .byte b)) 3 (nar .byte b)) 4 (nar .byte b)) 5 (nar .byte b)) 6 (nar .byte b)) 7 (nar .byte b)) 8 (nar .byte b)) 9 (nar .byte b)) with h | h | h | h | h
  · rw [← ear, ← es, h.2.1, h.2.2.2]
    unfold f3
    have q : (7 : Int32) * ((0 : Int32) - (0 : Int32)) = (0 : Int32) := by decide
    rw [if_neg (by decide), if_pos (by decide), if_neg (by decide), q, own_s0, own_lo _ h.1]
    rfl
  · rw [← ear, ← es, h.2.2.1, h.2.2.2.2]
    unfold f3
    have q : (7 : Int32) * ((0 : Int32) - (0 : Int32)) = (0 : Int32) := by decide
    rw [if_neg (by decide), if_pos (by decide), if_pos (by decide), q, own_s0]
    rfl
  · rw [← ear, ← es, h.2.2.2.1, h.2.2.2.2.2]
    unfold f3
    have q : (7 : Int32) * ((0 : Int32) - (0 : Int32)) = (0 : Int32) := by decide
    rw [if_neg (by decide), if_pos (by decide), if_pos (by decide), q, own_s0]
    rfl
  · rw [← ear, ← es, h.2.2.2.2.1, h.2.2.2.2.2.2]
    unfold f3
    have q : (7 : Int32) * ((0 : Int32) - (0 : Int32)) = (0 : Int32) := by decide
    rw [if_neg (by decide), if_pos (by decide), if_pos (by decide), q, own_s0]
    rfl
  · rw [← ear, ← es, h.2.2.2.2.1, h.2.2.2.2.2.2]
    unfold f3
    have q : (7 : Int32) * ((0 : Int32) - (0 : Int32)) = (0 : Int32) := by decide
    rw [if_neg (by decide), if_pos (by decide), if_pos (by decide), q, own_s0]
    rfl
theorem own_c_0_1 (v b s : Int32) (ar : Nat → Int32) (es : f1 v = s) (ear : f2_0_ar_a1 v (updI (updI (updI (updI (updI (updI (updI (updI (updI (updI (fun _ => (0 : Int32)) 0 (nar .byte b)) 1 (nar .byte b)) 2 (nar .byte b)) 3 (nar .byte b)) 4 (nar .byte b)) 5 (nar .byte b)) 6 (nar .byte b)) 7 (nar .byte b)) 8 (nar .byte b)) 9 (nar .byte b)) = ar) : ar 1 = f3 (1 : Int32) (0 : Int32) s v b := by
  rcases own_w_0 v (updI (updI (updI (updI (updI (updI (updI (updI (updI (updI (fun _ => (0 : Int32)) 0 (nar .byte b)) 1 (nar .byte b)) 2 (nar .byte b)) 3 (nar .byte b)) 4 (nar .byte b)) 5 (nar .byte b)) 6 (nar .byte b)) 7 (nar .byte b)) 8 (nar .byte b)) 9 (nar .byte b)) with h | h | h | h | h
  · rw [← ear, ← es, h.2.1, h.2.2.2]
    unfold f3
    rw [if_neg (by decide), if_neg (by decide)]
    rfl
  · rw [← ear, ← es, h.2.2.1, h.2.2.2.2]
    unfold f3
    have q : (7 : Int32) * ((1 : Int32) - (0 : Int32)) = (7 : Int32) := by decide
    rw [if_neg (by decide), if_pos (by decide), if_neg (by decide), q, own_lo _ ((own_y2 _).trans h.2.1)]
    rfl
  · rw [← ear, ← es, h.2.2.2.1, h.2.2.2.2.2]
    unfold f3
    have q : (7 : Int32) * ((1 : Int32) - (0 : Int32)) = (7 : Int32) := by decide
    rw [if_neg (by decide), if_pos (by decide), if_pos (by decide), q]
    rfl
  · rw [← ear, ← es, h.2.2.2.2.1, h.2.2.2.2.2.2]
    unfold f3
    have q : (7 : Int32) * ((1 : Int32) - (0 : Int32)) = (7 : Int32) := by decide
    rw [if_neg (by decide), if_pos (by decide), if_pos (by decide), q]
    rfl
  · rw [← ear, ← es, h.2.2.2.2.1, h.2.2.2.2.2.2]
    unfold f3
    have q : (7 : Int32) * ((1 : Int32) - (0 : Int32)) = (7 : Int32) := by decide
    rw [if_neg (by decide), if_pos (by decide), if_pos (by decide), q]
    rfl
theorem own_c_0_2 (v b s : Int32) (ar : Nat → Int32) (es : f1 v = s) (ear : f2_0_ar_a1 v (updI (updI (updI (updI (updI (updI (updI (updI (updI (updI (fun _ => (0 : Int32)) 0 (nar .byte b)) 1 (nar .byte b)) 2 (nar .byte b)) 3 (nar .byte b)) 4 (nar .byte b)) 5 (nar .byte b)) 6 (nar .byte b)) 7 (nar .byte b)) 8 (nar .byte b)) 9 (nar .byte b)) = ar) : ar 2 = f3 (2 : Int32) (0 : Int32) s v b := by
  rcases own_w_0 v (updI (updI (updI (updI (updI (updI (updI (updI (updI (updI (fun _ => (0 : Int32)) 0 (nar .byte b)) 1 (nar .byte b)) 2 (nar .byte b)) 3 (nar .byte b)) 4 (nar .byte b)) 5 (nar .byte b)) 6 (nar .byte b)) 7 (nar .byte b)) 8 (nar .byte b)) 9 (nar .byte b)) with h | h | h | h | h
  · rw [← ear, ← es, h.2.1, h.2.2.2]
    unfold f3
    rw [if_neg (by decide), if_neg (by decide)]
    rfl
  · rw [← ear, ← es, h.2.2.1, h.2.2.2.2]
    unfold f3
    rw [if_neg (by decide), if_neg (by decide)]
    rfl
  · rw [← ear, ← es, h.2.2.2.1, h.2.2.2.2.2]
    unfold f3
    have q : (7 : Int32) * ((2 : Int32) - (0 : Int32)) = (14 : Int32) := by decide
    rw [if_neg (by decide), if_pos (by decide), if_neg (by decide), q, own_lo _ ((own_y3 _).trans h.2.2.1)]
    rfl
  · rw [← ear, ← es, h.2.2.2.2.1, h.2.2.2.2.2.2]
    unfold f3
    have q : (7 : Int32) * ((2 : Int32) - (0 : Int32)) = (14 : Int32) := by decide
    rw [if_neg (by decide), if_pos (by decide), if_pos (by decide), q]
    rfl
  · rw [← ear, ← es, h.2.2.2.2.1, h.2.2.2.2.2.2]
    unfold f3
    have q : (7 : Int32) * ((2 : Int32) - (0 : Int32)) = (14 : Int32) := by decide
    rw [if_neg (by decide), if_pos (by decide), if_pos (by decide), q]
    rfl
theorem own_c_0_3 (v b s : Int32) (ar : Nat → Int32) (es : f1 v = s) (ear : f2_0_ar_a1 v (updI (updI (updI (updI (updI (updI (updI (updI (updI (updI (fun _ => (0 : Int32)) 0 (nar .byte b)) 1 (nar .byte b)) 2 (nar .byte b)) 3 (nar .byte b)) 4 (nar .byte b)) 5 (nar .byte b)) 6 (nar .byte b)) 7 (nar .byte b)) 8 (nar .byte b)) 9 (nar .byte b)) = ar) : ar 3 = f3 (3 : Int32) (0 : Int32) s v b := by
  rcases own_w_0 v (updI (updI (updI (updI (updI (updI (updI (updI (updI (updI (fun _ => (0 : Int32)) 0 (nar .byte b)) 1 (nar .byte b)) 2 (nar .byte b)) 3 (nar .byte b)) 4 (nar .byte b)) 5 (nar .byte b)) 6 (nar .byte b)) 7 (nar .byte b)) 8 (nar .byte b)) 9 (nar .byte b)) with h | h | h | h | h
  · rw [← ear, ← es, h.2.1, h.2.2.2]
    unfold f3
    rw [if_neg (by decide), if_neg (by decide)]
    rfl
  · rw [← ear, ← es, h.2.2.1, h.2.2.2.2]
    unfold f3
    rw [if_neg (by decide), if_neg (by decide)]
    rfl
  · rw [← ear, ← es, h.2.2.2.1, h.2.2.2.2.2]
    unfold f3
    rw [if_neg (by decide), if_neg (by decide)]
    rfl
  · rw [← ear, ← es, h.2.2.2.2.1, h.2.2.2.2.2.2]
    unfold f3
    have q : (7 : Int32) * ((3 : Int32) - (0 : Int32)) = (21 : Int32) := by decide
    rw [if_neg (by decide), if_pos (by decide), if_neg (by decide), q, own_lo _ ((own_y4 _).trans h.2.2.2.1)]
    rfl
  · rw [← ear, ← es, h.2.2.2.2.1, h.2.2.2.2.2.2]
    unfold f3
    have q : (7 : Int32) * ((3 : Int32) - (0 : Int32)) = (21 : Int32) := by decide
    rw [if_neg (by decide), if_pos (by decide), if_pos (by decide), q]
    rfl
theorem own_c_0_4 (v b s : Int32) (ar : Nat → Int32) (es : f1 v = s) (ear : f2_0_ar_a1 v (updI (updI (updI (updI (updI (updI (updI (updI (updI (updI (fun _ => (0 : Int32)) 0 (nar .byte b)) 1 (nar .byte b)) 2 (nar .byte b)) 3 (nar .byte b)) 4 (nar .byte b)) 5 (nar .byte b)) 6 (nar .byte b)) 7 (nar .byte b)) 8 (nar .byte b)) 9 (nar .byte b)) = ar) : ar 4 = f3 (4 : Int32) (0 : Int32) s v b := by
  rcases own_w_0 v (updI (updI (updI (updI (updI (updI (updI (updI (updI (updI (fun _ => (0 : Int32)) 0 (nar .byte b)) 1 (nar .byte b)) 2 (nar .byte b)) 3 (nar .byte b)) 4 (nar .byte b)) 5 (nar .byte b)) 6 (nar .byte b)) 7 (nar .byte b)) 8 (nar .byte b)) 9 (nar .byte b)) with h | h | h | h | h
  · rw [← ear, ← es, h.2.1, h.2.2.2]
    unfold f3
    rw [if_neg (by decide), if_neg (by decide)]
    rfl
  · rw [← ear, ← es, h.2.2.1, h.2.2.2.2]
    unfold f3
    rw [if_neg (by decide), if_neg (by decide)]
    rfl
  · rw [← ear, ← es, h.2.2.2.1, h.2.2.2.2.2]
    unfold f3
    rw [if_neg (by decide), if_neg (by decide)]
    rfl
  · rw [← ear, ← es, h.2.2.2.2.1, h.2.2.2.2.2.2]
    unfold f3
    rw [if_neg (by decide), if_neg (by decide)]
    rfl
  · rw [← ear, ← es, h.2.2.2.2.1, h.2.2.2.2.2.2]
    unfold f3
    have q : (7 : Int32) * ((4 : Int32) - (0 : Int32)) = (28 : Int32) := by decide
    rw [if_neg (by decide), if_pos (by decide), if_neg (by decide), q, own_lo _ (own_y5 _)]
    rfl
theorem own_c_0_5 (v b s : Int32) (ar : Nat → Int32) (es : f1 v = s) (ear : f2_0_ar_a1 v (updI (updI (updI (updI (updI (updI (updI (updI (updI (updI (fun _ => (0 : Int32)) 0 (nar .byte b)) 1 (nar .byte b)) 2 (nar .byte b)) 3 (nar .byte b)) 4 (nar .byte b)) 5 (nar .byte b)) 6 (nar .byte b)) 7 (nar .byte b)) 8 (nar .byte b)) 9 (nar .byte b)) = ar) : ar 5 = f3 (5 : Int32) (0 : Int32) s v b := by
  rcases own_w_0 v (updI (updI (updI (updI (updI (updI (updI (updI (updI (updI (fun _ => (0 : Int32)) 0 (nar .byte b)) 1 (nar .byte b)) 2 (nar .byte b)) 3 (nar .byte b)) 4 (nar .byte b)) 5 (nar .byte b)) 6 (nar .byte b)) 7 (nar .byte b)) 8 (nar .byte b)) 9 (nar .byte b)) with h | h | h | h | h
  · rw [← ear, ← es, h.2.1, h.2.2.2]
    unfold f3
    rw [if_neg (by decide), if_neg (by decide)]
    rfl
  · rw [← ear, ← es, h.2.2.1, h.2.2.2.2]
    unfold f3
    rw [if_neg (by decide), if_neg (by decide)]
    rfl
  · rw [← ear, ← es, h.2.2.2.1, h.2.2.2.2.2]
    unfold f3
    rw [if_neg (by decide), if_neg (by decide)]
    rfl
  · rw [← ear, ← es, h.2.2.2.2.1, h.2.2.2.2.2.2]
    unfold f3
    rw [if_neg (by decide), if_neg (by decide)]
    rfl
  · rw [← ear, ← es, h.2.2.2.2.1, h.2.2.2.2.2.2]
    unfold f3
    rw [if_neg (by decide), if_neg (by decide)]
    rfl
theorem own_c_0_6 (v b s : Int32) (ar : Nat → Int32) (es : f1 v = s) (ear : f2_0_ar_a1 v (updI (updI (updI (updI (updI (updI (updI (updI (updI (updI (fun _ => (0 : Int32)) 0 (nar .byte b)) 1 (nar .byte b)) 2 (nar .byte b)) 3 (nar .byte b)) 4 (nar .byte b)) 5 (nar .byte b)) 6 (nar .byte b)) 7 (nar .byte b)) 8 (nar .byte b)) 9 (nar .byte b)) = ar) : ar 6 = f3 (6 : Int32) (0 : Int32) s v b := by
  rcases own_w_0 v (updI (updI (updI (updI (updI (updI (updI (updI (updI (updI (fun _ => (0 : Int32)) 0 (nar .byte b)) 1 (nar .byte b)) 2 (nar .byte b)) 3 (nar .byte b)) 4 (nar .byte b)) 5 (nar .byte b)) 6 (nar .byte b)) 7 (nar .byte b)) 8 (nar .byte b)) 9 (nar .byte b)) with h | h | h | h | h
  · rw [← ear, ← es, h.2.1, h.2.2.2]
    unfold f3
    rw [if_neg (by decide), if_neg (by decide)]
    rfl
  · rw [← ear, ← es, h.2.2.1, h.2.2.2.2]
    unfold f3
    rw [if_neg (by decide), if_neg (by decide)]
    rfl
  · rw [← ear, ← es, h.2.2.2.1, h.2.2.2.2.2]
    unfold f3
    rw [if_neg (by decide), if_neg (by decide)]
    rfl
  · rw [← ear, ← es, h.2.2.2.2.1, h.2.2.2.2.2.2]
    unfold f3
    rw [if_neg (by decide), if_neg (by decide)]
    rfl
  · rw [← ear, ← es, h.2.2.2.2.1, h.2.2.2.2.2.2]
    unfold f3
    rw [if_neg (by decide), if_neg (by decide)]
    rfl
theorem own_c_0_7 (v b s : Int32) (ar : Nat → Int32) (es : f1 v = s) (ear : f2_0_ar_a1 v (updI (updI (updI (updI (updI (updI (updI (updI (updI (updI (fun _ => (0 : Int32)) 0 (nar .byte b)) 1 (nar .byte b)) 2 (nar .byte b)) 3 (nar .byte b)) 4 (nar .byte b)) 5 (nar .byte b)) 6 (nar .byte b)) 7 (nar .byte b)) 8 (nar .byte b)) 9 (nar .byte b)) = ar) : ar 7 = f3 (7 : Int32) (0 : Int32) s v b := by
  rcases own_w_0 v (updI (updI (updI (updI (updI (updI (updI (updI (updI (updI (fun _ => (0 : Int32)) 0 (nar .byte b)) 1 (nar .byte b)) 2 (nar .byte b)) 3 (nar .byte b)) 4 (nar .byte b)) 5 (nar .byte b)) 6 (nar .byte b)) 7 (nar .byte b)) 8 (nar .byte b)) 9 (nar .byte b)) with h | h | h | h | h
  · rw [← ear, ← es, h.2.1, h.2.2.2]
    unfold f3
    rw [if_neg (by decide), if_neg (by decide)]
    rfl
  · rw [← ear, ← es, h.2.2.1, h.2.2.2.2]
    unfold f3
    rw [if_neg (by decide), if_neg (by decide)]
    rfl
  · rw [← ear, ← es, h.2.2.2.1, h.2.2.2.2.2]
    unfold f3
    rw [if_neg (by decide), if_neg (by decide)]
    rfl
  · rw [← ear, ← es, h.2.2.2.2.1, h.2.2.2.2.2.2]
    unfold f3
    rw [if_neg (by decide), if_neg (by decide)]
    rfl
  · rw [← ear, ← es, h.2.2.2.2.1, h.2.2.2.2.2.2]
    unfold f3
    rw [if_neg (by decide), if_neg (by decide)]
    rfl
theorem own_c_0_8 (v b s : Int32) (ar : Nat → Int32) (es : f1 v = s) (ear : f2_0_ar_a1 v (updI (updI (updI (updI (updI (updI (updI (updI (updI (updI (fun _ => (0 : Int32)) 0 (nar .byte b)) 1 (nar .byte b)) 2 (nar .byte b)) 3 (nar .byte b)) 4 (nar .byte b)) 5 (nar .byte b)) 6 (nar .byte b)) 7 (nar .byte b)) 8 (nar .byte b)) 9 (nar .byte b)) = ar) : ar 8 = f3 (8 : Int32) (0 : Int32) s v b := by
  rcases own_w_0 v (updI (updI (updI (updI (updI (updI (updI (updI (updI (updI (fun _ => (0 : Int32)) 0 (nar .byte b)) 1 (nar .byte b)) 2 (nar .byte b)) 3 (nar .byte b)) 4 (nar .byte b)) 5 (nar .byte b)) 6 (nar .byte b)) 7 (nar .byte b)) 8 (nar .byte b)) 9 (nar .byte b)) with h | h | h | h | h
  · rw [← ear, ← es, h.2.1, h.2.2.2]
    unfold f3
    rw [if_neg (by decide), if_neg (by decide)]
    rfl
  · rw [← ear, ← es, h.2.2.1, h.2.2.2.2]
    unfold f3
    rw [if_neg (by decide), if_neg (by decide)]
    rfl
  · rw [← ear, ← es, h.2.2.2.1, h.2.2.2.2.2]
    unfold f3
    rw [if_neg (by decide), if_neg (by decide)]
    rfl
  · rw [← ear, ← es, h.2.2.2.2.1, h.2.2.2.2.2.2]
    unfold f3
    rw [if_neg (by decide), if_neg (by decide)]
    rfl
  · rw [← ear, ← es, h.2.2.2.2.1, h.2.2.2.2.2.2]
    unfold f3
    rw [if_neg (by decide), if_neg (by decide)]
    rfl
theorem own_c_0_9 (v b s : Int32) (ar : Nat → Int32) (es : f1 v = s) (ear : f2_0_ar_a1 v (updI (updI (updI (updI (updI (updI (updI (updI (updI (updI (fun _ => (0 : Int32)) 0 (nar .byte b)) 1 (nar .byte b)) 2 (nar .byte b)) 3 (nar .byte b)) 4 (nar .byte b)) 5 (nar .byte b)) 6 (nar .byte b)) 7 (nar .byte b)) 8 (nar .byte b)) 9 (nar .byte b)) = ar) : ar 9 = f3 (9 : Int32) (0 : Int32) s v b := by
  rcases own_w_0 v (updI (updI (updI (updI (updI (updI (updI (updI (updI (updI (fun _ => (0 : Int32)) 0 (nar .byte b)) 1 (nar .byte b)) 2 (nar .byte b)) 3 (nar .byte b)) 4 (nar .byte b)) 5 (nar .byte b)) 6 (nar .byte b)) 7 (nar .byte b)) 8 (nar .byte b)) 9 (nar .byte b)) with h | h | h | h | h
  · rw [← ear, ← es, h.2.1, h.2.2.2]
    unfold f3
    rw [if_neg (by decide), if_neg (by decide)]
    rfl
  · rw [← ear, ← es, h.2.2.1, h.2.2.2.2]
    unfold f3
    rw [if_neg (by decide), if_neg (by decide)]
    rfl
  · rw [← ear, ← es, h.2.2.2.1, h.2.2.2.2.2]
    unfold f3
    rw [if_neg (by decide), if_neg (by decide)]
    rfl
  · rw [← ear, ← es, h.2.2.2.2.1, h.2.2.2.2.2.2]
    unfold f3
    rw [if_neg (by decide), if_neg (by decide)]
    rfl
  · rw [← ear, ← es, h.2.2.2.2.1, h.2.2.2.2.2.2]
    unfold f3
    rw [if_neg (by decide), if_neg (by decide)]
    rfl
theorem own_w_1 (v : Int32) (g : Nat → Int32) : (((v.toUInt32 >>> ((7 : Int32) &&& 31).toUInt32).toInt32) = (0 : Int32) ∧ f1 v = (1 : Int32) ∧ f2_1 v = (2 : Int32) ∧ f2_1_ar_a1 v g = (updI g 1 (nar .byte (v.toInt8.toInt32)))) ∨ (¬ ((v.toUInt32 >>> ((7 : Int32) &&& 31).toUInt32).toInt32) = (0 : Int32) ∧ ((v.toUInt32 >>> ((14 : Int32) &&& 31).toUInt32).toInt32) = (0 : Int32) ∧ f1 v = (2 : Int32) ∧ f2_1 v = (3 : Int32) ∧ f2_1_ar_a1 v g = (updI (updI g 1 (nar .byte (((v &&& (127 : Int32)) ||| (128 : Int32)).toInt8.toInt32))) 2 (nar .byte (((v.toUInt32 >>> ((7 : Int32) &&& 31).toUInt32).toInt32).toInt8.toInt32)))) ∨ (¬ ((v.toUInt32 >>> ((7 : Int32) &&& 31).toUInt32).toInt32) = (0 : Int32) ∧ ¬ ((v.toUInt32 >>> ((14 : Int32) &&& 31).toUInt32).toInt32) = (0 : Int32) ∧ ((v.toUInt32 >>> ((21 : Int32) &&& 31).toUInt32).toInt32) = (0 : Int32) ∧ f1 v = (3 : Int32) ∧ f2_1 v = (4 : Int32) ∧ f2_1_ar_a1 v g = (updI (updI (updI g 1 (nar .byte (((v &&& (127 : Int32)) ||| (128 : Int32)).toInt8.toInt32))) 2 (nar .byte (((((v.toUInt32 >>> ((7 : Int32) &&& 31).toUInt32).toInt32) &&& (127 : Int32)) ||| (128 : Int32)).toInt8.toInt32))) 3 (nar .byte (((v.toUInt32 >>> ((14 : Int32) &&& 31).toUInt32).toInt32).toInt8.toInt32)))) ∨ (¬ ((v.toUInt32 >>> ((7 : Int32) &&& 31).toUInt32).toInt32) = (0 : Int32) ∧ ¬ ((v.toUInt32 >>> ((14 : Int32) &&& 31).toUInt32).toInt32) = (0 : Int32) ∧ ¬ ((v.toUInt32 >>> ((21 : Int32) &&& 31).toUInt32).toInt32) = (0 : Int32) ∧ ((v.toUInt32 >>> ((28 : Int32) &&& 31).toUInt32).toInt32) = (0 : Int32) ∧ f1 v = (4 : Int32) ∧ f2_1 v = (5 : Int32) ∧ f2_1_ar_a1 v g = (updI (updI (updI (updI g 1 (nar .byte (((v &&& (127 : Int32)) ||| (128 : Int32)).toInt8.toInt32))) 2 (nar .byte (((((v.toUInt32 >>> ((7 : Int32) &&& 31).toUInt32).toInt32) &&& (127 : Int32)) ||| (128 : Int32)).toInt8.toInt32))) 3 (nar .byte (((((v.toUInt32 >>> ((14 : Int32) &&& 31).toUInt32).toInt32) &&& (127 : Int32)) ||| (128 : Int32)).toInt8.toInt32))) 4 (nar .byte (((v.toUInt32 >>> ((21 : Int32) &&& 31).toUInt32).toInt32).toInt8.toInt32)))) ∨ (¬ ((v.toUInt32 >>> ((7 : Int32) &&& 31).toUInt32).toInt32) = (0 : Int32) ∧ ¬ ((v.toUInt32 >>> ((14 : Int32) &&& 31).toUInt32).toInt32) = (0 : Int32) ∧ ¬ ((v.toUInt32 >>> ((21 : Int32) &&& 31).toUInt32).toInt32) = (0 : Int32) ∧ ¬ ((v.toUInt32 >>> ((28 : Int32) &&& 31).toUInt32).toInt32) = (0 : Int32) ∧ f1 v = (5 : Int32) ∧ f2_1 v = (6 : Int32) ∧ f2_1_ar_a1 v g = (updI (updI (updI (updI (updI g 1 (nar .byte (((v &&& (127 : Int32)) ||| (128 : Int32)).toInt8.toInt32))) 2 (nar .byte (((((v.toUInt32 >>> ((7 : Int32) &&& 31).toUInt32).toInt32) &&& (127 : Int32)) ||| (128 : Int32)).toInt8.toInt32))) 3 (nar .byte (((((v.toUInt32 >>> ((14 : Int32) &&& 31).toUInt32).toInt32) &&& (127 : Int32)) ||| (128 : Int32)).toInt8.toInt32))) 4 (nar .byte (((((v.toUInt32 >>> ((21 : Int32) &&& 31).toUInt32).toInt32) &&& (127 : Int32)) ||| (128 : Int32)).toInt8.toInt32))) 5 (nar .byte (((v.toUInt32 >>> ((28 : Int32) &&& 31).toUInt32).toInt32).toInt8.toInt32)))) := by
  unfold f1 f2_1 f2_1_ar_a1
  simp only [own_hi, own_y2, own_y3, own_y4]
  by_cases h1 : ((v.toUInt32 >>> ((7 : Int32) &&& 31).toUInt32).toInt32) = (0 : Int32)
  · exact Or.inl ⟨h1, by rw [if_pos h1], by rw [if_pos h1], by rw [if_pos h1]⟩
  · by_cases h2 : ((v.toUInt32 >>> ((14 : Int32) &&& 31).toUInt32).toInt32) = (0 : Int32)
    · exact Or.inr (Or.inl ⟨h1, h2, by rw [if_neg h1, if_pos h2], by rw [if_neg h1, if_pos h2], by rw [if_neg h1, if_pos h2]⟩)
    · by_cases h3 : ((v.toUInt32 >>> ((21 : Int32) &&& 31).toUInt32).toInt32) = (0 : Int32)
      · exact Or.inr (Or.inr (Or.inl ⟨h1, h2, h3, by rw [if_neg h1, if_neg h2, if_pos h3], by rw [if_neg h1, if_neg h2, if_pos h3], by rw [if_neg h1, if_neg h2, if_pos h3]⟩))
      · by_cases h4 : ((v.toUInt32 >>> ((28 : Int32) &&& 31).toUInt32).toInt32) = (0 : Int32)
        · exact Or.inr (Or.inr (Or.inr (Or.inl ⟨h1, h2, h3, h4, by rw [if_neg h1, if_neg h2, if_neg h3, if_pos h4], by rw [if_neg h1, if_neg h2, if_neg h3, if_pos h4], by rw [if_neg h1, if_neg h2, if_neg h3, if_pos h4]⟩)))
        · exact Or.inr (Or.inr (Or.inr (Or.inr (⟨h1, h2, h3, h4, by rw [if_neg h1, if_neg h2, if_neg h3, if_neg h4], by rw [if_neg h1, if_neg h2, if_neg h3, if_neg h4], by rw [if_neg h1, if_neg h2, if_neg h3, if_neg h4]⟩))))
theorem own_r_1 (v s r : Int32) (es : f1 v = s) (er : f2_1 v = r) : r = ((1 : Int32) + s) := by
  rcases own_w_1 v (fun _ => 0) with h | h | h | h | h
  · rw [← er, ← es, h.2.2.1, h.2.1]; rfl
  · rw [← er, ← es, h.2.2.2.1, h.2.2.1]; rfl
  · rw [← er, ← es, h.2.2.2.2.1, h.2.2.2.1]; rfl
  · rw [← er, ← es, h.2.2.2.2.2.1, h.2.2.2.2.1]; rfl
  · rw [← er, ← es, h.2.2.2.2.2.1, h.2.2.2.2.1]; rfl
theorem own_c_1_0 (v b s : Int32) (ar : Nat → Int32) (es : f1 v = s) (ear : f2_1_ar_a1 v (updI (updI (updI (updI (updI (updI (updI (updI (updI (updI (fun _ => (0 : Int32)) 0 (nar .byte b)) 1 (nar .byte b)) 2 (nar .byte b)) 3 (nar .byte b)) 4 (nar .byte b)) 5 (nar .byte b)) 6 (nar .byte b)) 7 (nar .byte b)) 8 (nar .byte b)) 9 (nar .byte b)) = ar) : ar 0 = f3 (0 : Int32) (1 : Int32) s v b := by
  rcases own_w_1 v (updI (updI (updI (updI (updI (updI (updI (updI (updI (updI (fun _ => (0 : Int32)) 0 (nar .byte b)) 1 (nar .byte b)) 2 (nar .byte b)) 3 (nar .byte b)) 4 (nar .byte b)) 5 (nar .byte b)) 6 (nar .byte b)) 7 (nar .byte b)) 8 (nar .byte b)) 9 (nar .byte b)) with h | h | h | h | h
  · rw [← ear, ← es, h.2.1, h.2.2.2]
    unfold f3
    rw [if_pos (by decide)]
    rfl
  · rw [← ear, ← es, h.2.2.1, h.2.2.2.2]
    unfold f3
    rw [if_pos (by decide)]
    rfl
  · rw [← ear, ← es, h.2.2.2.1, h.2.2.2.2.2]
    unfold f3
    rw [if_pos (by decide)]
    rfl
  · rw [← ear, ← es, h.2.2.2.2.1, h.2.2.2.2.2.2]
    unfold f3
    rw [if_pos (by decide)]
    rfl
  · rw [← ear, ← es, h.2.2.2.2.1, h.2.2.2.2.2.2]
    unfold f3
    rw [if_pos (by decide)]
    rfl
theorem own_c_1_1 (v b s : Int32) (ar : Nat → Int32) (es : f1 v = s) (ear : f2_1_ar_a1 v (updI (updI (updI (updI (updI (updI (updI (updI (updI (updI (fun _ => (0 : Int32)) 0 (nar .byte b)) 1 (nar .byte b)) 2 (nar .byte b)) 3 (nar .byte b)) 4 (nar .byte b)) 5 (nar .byte b)) 6 (nar .byte b)) 7 (nar .byte b)) 8 (nar .byte b)) 9 (nar .byte b)) = ar) : ar 1 = f3 (1 : Int32) (1 : Int32) s v b := by
  rcases own_w_1 v (updI (updI (updI (updI (updI (updI (updI (updI (updI (updI (fun _ => (0 : Int32)) 0 (nar .byte b)) 1 (nar .byte b)) 2 (nar .byte b)) 3 (nar .byte b)) 4 (nar .byte b)) 5 (nar .byte b)) 6 (nar .byte b)) 7 (nar .byte b)) 8 (nar .byte b)) 9 (nar .byte b)) with h | h | h | h | h
  · rw [← ear, ← es, h.2.1, h.2.2.2]
    unfold f3
    have q : (7 : Int32) * ((1 : Int32) - (1 : Int32)) = (0 : Int32) := by decide
    rw [if_neg (by decide), if_pos (by decide), if_neg (by decide), q, own_s0, own_lo _ h.1]
    rfl
  · rw [← ear, ← es, h.2.2.1, h.2.2.2.2]
    unfold f3
    have q : (7 : Int32) * ((1 : Int32) - (1 : Int32)) = (0 : Int32) := by decide
    rw [if_neg (by decide), if_pos (by decide), if_pos (by decide), q, own_s0]
    rfl
  · rw [← ear, ← es, h.2.2.2.1, h.2.2.2.2.2]
    unfold f3
    have q : (7 : Int32) * ((1 : Int32) - (1 : Int32)) = (0 : Int32) := by decide
    rw [if_neg (by decide), if_pos (by decide), if_pos (by decide), q, own_s0]
    rfl
  · rw [← ear, ← es, h.2.2.2.2.1, h.2.2.2.2.2.2]
    unfold f3
    have q : (7 : Int32) * ((1 : Int32) - (1 : Int32)) = (0 : Int32) := by decide
    rw [if_neg (by decide), if_pos (by decide), if_pos (by decide), q, own_s0]
    rfl
  · rw [← ear, ← es, h.2.2.2.2.1, h.2.2.2.2.2.2]
    unfold f3
    have q : (7 : Int32) * ((1 : Int32) - (1 : Int32)) = (0 : Int32) := by decide
    rw [if_neg (by decide), if_pos (by decide), if_pos (by decide), q, own_s0]
    rfl
theorem own_c_1_2 (v b s : Int32) (ar : Nat → Int32) (es : f1 v = s) (ear : f2_1_ar_a1 v (updI (updI (updI (updI (updI (updI (updI (updI (updI (updI (fun _ => (0 : Int32)) 0 (nar .byte b)) 1 (nar .byte b)) 2 (nar .byte b)) 3 (nar .byte b)) 4 (nar .byte b)) 5 (nar .byte b)) 6 (nar .byte b)) 7 (nar .byte b)) 8 (nar .byte b)) 9 (nar .byte b)) = ar) : ar 2 = f3 (2 : Int32) (1 : Int32) s v b := by
  rcases own_w_1 v (updI (updI (updI (updI (updI (updI (updI (updI (updI (updI (fun _ => (0 : Int32)) 0 (nar .byte b)) 1 (nar .byte b)) 2 (nar .byte b)) 3 (nar .byte b)) 4 (nar .byte b)) 5 (nar .byte b)) 6 (nar .byte b)) 7 (nar .byte b)) 8 (nar .byte b)) 9 (nar .byte b)) with h | h | h | h | h
  · rw [← ear, ← es, h.2.1, h.2.2.2]
    unfold f3
    rw [if_neg (by decide), if_neg (by decide)]
    rfl
  · rw [← ear, ← es, h.2.2.1, h.2.2.2.2]
    unfold f3
    have q : (7 : Int32) * ((2 : Int32) - (1 : Int32)) = (7 : Int32) := by decide
    rw [if_neg (by decide), if_pos (by decide), if_neg (by decide), q, own_lo _ ((own_y2 _).trans h.2.1)]
    rfl
  · rw [← ear, ← es, h.2.2.2.1, h.2.2.2.2.2]
    unfold f3
    have q : (7 : Int32) * ((2 : Int32) - (1 : Int32)) = (7 : Int32) := by decide
    rw [if_neg (by decide), if_pos (by decide), if_pos (by decide), q]
    rfl
  · rw [← ear, ← es, h.2.2.2.2.1, h.2.2.2.2.2.2]
    unfold f3
    have q : (7 : Int32) * ((2 : Int32) - (1 : Int32)) = (7 : Int32) := by decide
    rw [if_neg (by decide), if_pos (by decide), if_pos (by decide), q]
    rfl
  · rw [← ear, ← es, h.2.2.2.2.1, h.2.2.2.2.2.2]
    unfold f3
    have q : (7 : Int32) * ((2 : Int32) - (1 : Int32)) = (7 : Int32) := by decide
    rw [if_neg (by decide), if_pos (by decide), if_pos (by decide), q]
    rfl
theorem own_c_1_3 (v b s : Int32) (ar : Nat → Int32) (es : f1 v = s) (ear : f2_1_ar_a1 v (updI (updI (updI (updI (updI (updI (updI (updI (updI (updI (fun _ => (0 : Int32)) 0 (nar .byte b)) 1 (nar .byte b)) 2 (nar .byte b)) 3 (nar .byte b)) 4 (nar .byte b)) 5 (nar .byte b)) 6 (nar .byte b)) 7 (nar .byte b)) 8 (nar .byte b)) 9 (nar .byte b)) = ar) : ar 3 = f3 (3 : Int32) (1 : Int32) s v b := by
  rcases own_w_1 v (updI (updI (updI (updI (updI (updI (updI (updI (updI (updI (fun _ => (0 : Int32)) 0 (nar .byte b)) 1 (nar .byte b)) 2 (nar .byte b)) 3 (nar .byte b)) 4 (nar .byte b)) 5 (nar .byte b)) 6 (nar .byte b)) 7 (nar .byte b)) 8 (nar .byte b)) 9 (nar .byte b)) with h | h | h | h | h
  · rw [← ear, ← es, h.2.1, h.2.2.2]
    unfold f3
    rw [if_neg (by decide), if_neg (by decide)]
    rfl
  · rw [← ear, ← es, h.2.2.1, h.2.2.2.2]
    unfold f3
    rw [if_neg (by decide), if_neg (by decide)]
    rfl
  · rw [← ear, ← es, h.2.2.2.1, h.2.2.2.2.2]
    unfold f3
    have q : (7 : Int32) * ((3 : Int32) - (1 : Int32)) = (14 : Int32) := by decide
    rw [if_neg (by decide), if_pos (by decide), if_neg (by decide), q, own_lo _ ((own_y3 _).trans h.2.2.1)]
    rfl
  · rw [← ear, ← es, h.2.2.2.2.1, h.2.2.2.2.2.2]
    unfold f3
    have q : (7 : Int32) * ((3 : Int32) - (1 : Int32)) = (14 : Int32) := by decide
    rw [if_neg (by decide), if_pos (by decide), if_pos (by decide), q]
    rfl
  · rw [← ear, ← es, h.2.2.2.2.1, h.2.2.2.2.2.2]
    unfold f3
    have q : (7 : Int32) * ((3 : Int32) - (1 : Int32)) = (14 : Int32) := by decide
    rw [if_neg (by decide), if_pos (by decide), if_pos (by decide), q]
    rfl
theorem own_c_1_4 (v b s : Int32) (ar : Nat → Int32) (es : f1 v = s) (ear : f2_1_ar_a1 v (updI (updI (updI (updI (updI (updI (updI (updI (updI (updI (fun _ => (0 : Int32)) 0 (nar .byte b)) 1 (nar .byte b)) 2 (nar .byte b)) 3 (nar .byte b)) 4 (nar .byte b)) 5 (nar .byte b)) 6 (nar .byte b)) 7 (nar .byte b)) 8 (nar .byte b)) 9 (nar .byte b)) = ar) : ar 4 = f3 (4 : Int32) (1 : Int32) s v b := by
  rcases own_w_1 v (updI (updI (updI (updI (updI (updI (updI (updI (updI (updI (fun _ => (0 : Int32)) 0 (nar .byte b)) 1 (nar .byte b)) 2 (nar .byte b)) 3 (nar .byte b)) 4 (nar .byte b)) 5 (nar .byte b)) 6 (nar .byte b)) 7 (nar .byte b)) 8 (nar .byte b)) 9 (nar .byte b)) with h | h | h | h | h
  · rw [← ear, ← es, h.2.1, h.2.2.2]
    unfold f3
    rw [if_neg (by decide), if_neg (by decide)]
    rfl
  · rw [← ear, ← es, h.2.2.1, h.2.2.2.2]
    unfold f3
    rw [if_neg (by decide), if_neg (by decide)]
    rfl
  · rw [← ear, ← es, h.2.2.2.1, h.2.2.2.2.2]
    unfold f3
    rw [if_neg (by decide), if_neg (by decide)]
    rfl
  · rw [← ear, ← es, h.2.2.2.2.1, h.2.2.2.2.2.2]
    unfold f3
    have q : (7 : Int32) * ((4 : Int32) - (1 : Int32)) = (21 : Int32) := by decide
    rw [if_neg (by decide), if_pos (by decide), if_neg (by decide), q, own_lo _ ((own_y4 _).trans h.2.2.2.1)]
    rfl
  · rw [← ear, ← es, h.2.2.2.2.1, h.2.2.2.2.2.2]
    unfold f3
    have q : (7 : Int32) * ((4 : Int32) - (1 : Int32)) = (21 : Int32) := by decide
    rw [if_neg (by decide), if_pos (by decide), if_pos (by decide), q]
    rfl
theorem own_c_1_5 (v b s : Int32) (ar : Nat → Int32) (es : f1 v = s) (ear : f2_1_ar_a1 v (updI (updI (updI (updI (updI (updI (updI (updI (updI (updI (fun _ => (0 : Int32)) 0 (nar .byte b)) 1 (nar .byte b)) 2 (nar .byte b)) 3 (nar .byte b)) 4 (nar .byte b)) 5 (nar .byte b)) 6 (nar .byte b)) 7 (nar .byte b)) 8 (nar .byte b)) 9 (nar .byte b)) = ar) : ar 5 = f3 (5 : Int32) (1 : Int32) s v b := by
  rcases own_w_1 v (updI (updI (updI (updI (updI (updI (updI (updI (updI (updI (fun _ => (0 : Int32)) 0 (nar .byte b)) 1 (nar .byte b)) 2 (nar .byte b)) 3 (nar .byte b)) 4 (nar .byte b)) 5 (nar .byte b)) 6 (nar .byte b)) 7 (nar .byte b)) 8 (nar .byte b)) 9 (nar .byte b)) with h | h | h | h | h
  · rw [← ear, ← es, h.2.1, h.2.2.2]
    unfold f3
    rw [if_neg (by decide), if_neg (by decide)]
    rfl
  · rw [← ear, ← es, h.2.2.1, h.2.2.2.2]
    unfold f3
    rw [if_neg (by decide), if_neg (by decide)]
    rfl
  · rw [← ear, ← es, h.2.2.2.1, h.2.2.2.2.2]
    unfold f3
    rw [if_neg (by decide), if_neg (by decide)]
    rfl
  · rw [← ear, ← es, h.2.2.2.2.1, h.2.2.2.2.2.2]
    unfold f3
    rw [if_neg (by decide), if_neg (by decide)]
    rfl
  · rw [← ear, ← es, h.2.2.2.2.1, h.2.2.2.2.2.2]
    unfold f3
    have q : (7 : Int32) * ((5 : Int32) - (1 : Int32)) = (28 : Int32) := by decide
    rw [if_neg (by decide), if_pos (by decide), if_neg (by decide), q, own_lo _ (own_y5 _)]
    rfl
theorem own_c_1_6 (v b s : Int32) (ar : Nat → Int32) (es : f1 v = s) (ear : f2_1_ar_a1 v (updI (updI (updI (updI (updI (updI (updI (updI (updI (updI (fun _ => (0 : Int32)) 0 (nar .byte b)) 1 (nar .byte b)) 2 (nar .byte b)) 3 (nar .byte b)) 4 (nar .byte b)) 5 (nar .byte b)) 6 (nar .byte b)) 7 (nar .byte b)) 8 (nar .byte b)) 9 (nar .byte b)) = ar) : ar 6 = f3 (6 : Int32) (1 : Int32) s v b := by
  rcases own_w_1 v (updI (updI (updI (updI (updI (updI (updI (updI (updI (updI (fun _ => (0 : Int32)) 0 (nar .byte b)) 1 (nar .byte b)) 2 (nar .byte b)) 3 (nar .byte b)) 4 (nar .byte b)) 5 (nar .byte b)) 6 (nar .byte b)) 7 (nar .byte b)) 8 (nar .byte b)) 9 (nar .byte b)) with h | h | h | h | h
  · rw [← ear, ← es, h.2.1, h.2.2.2]
    unfold f3
    rw [if_neg (by decide), if_neg (by decide)]
    rfl
  · rw [← ear, ← es, h.2.2.1, h.2.2.2.2]
    unfold f3
    rw [if_neg (by decide), if_neg (by decide)]
    rfl
  · rw [← ear, ← es, h.2.2.2.1, h.2.2.2.2.2]
    unfold f3
    rw [if_neg (by decide), if_neg (by decide)]
    rfl
  · rw [← ear, ← es, h.2.2.2.2.1, h.2.2.2.2.2.2]
    unfold f3
    rw [if_neg (by decide), if_neg (by decide)]
    rfl
  · rw [← ear, ← es, h.2.2.2.2.1, h.2.2.2.2.2.2]
    unfold f3
    rw [if_neg (by decide), if_neg (by decide)]
    rfl
theorem own_c_1_7 (v b s : Int32) (ar : Nat → Int32) (es : f1 v = s) (ear : f2_1_ar_a1 v (updI (updI (updI (updI (updI (updI (updI (updI (updI (updI (fun _ => (0 : Int32)) 0 (nar .byte b)) 1 (nar .byte b)) 2 (nar .byte b)) 3 (nar .byte b)) 4 (nar .byte b)) 5 (nar .byte b)) 6 (nar .byte b)) 7 (nar .byte b)) 8 (nar .byte b)) 9 (nar .byte b)) = ar) : ar 7 = f3 (7 : Int32) (1 : Int32) s v b := by
  rcases own_w_1 v (updI (updI (updI (updI (updI (updI (updI (updI (updI (updI (fun _ => (0 : Int32)) 0 (nar .byte b)) 1 (nar .byte b)) 2 (nar .byte b)) 3 (nar .byte b)) 4 (nar .byte b)) 5 (nar .byte b)) 6 (nar .byte b)) 7 (nar .byte b)) 8 (nar .byte b)) 9 (nar .byte b)) with h | h | h | h | h
  · rw [← ear, ← es, h.2.1, h.2.2.2]
    unfold f3
    rw [if_neg (by decide), if_neg (by decide)]
    rfl
  · rw [← ear, ← es, h.2.2.1, h.2.2.2.2]
    unfold f3
    rw [if_neg (by decide), if_neg (by decide)]
    rfl
  · rw [← ear, ← es, h.2.2.2.1, h.2.2.2.2.2]
    unfold f3
    rw [if_neg (by decide), if_neg (by decide)]
    rfl
  · rw [← ear, ← es, h.2.2.2.2.1, h.2.2.2.2.2.2]
    unfold f3
    rw [if_neg (by decide), if_neg (by decide)]
    rfl
  · rw [← ear, ← es, h.2.2.2.2.1, h.2.2.2.2.2.2]
    unfold f3
    rw [if_neg (by decide), if_neg (by decide)]
    rfl
theorem own_c_1_8 (v b s : Int32) (ar : Nat → Int32) (es : f1 v = s) (ear : f2_1_ar_a1 v (updI (updI (updI (updI (updI (updI (updI (updI (updI (updI (fun _ => (0 : Int32)) 0 (nar .byte b)) 1 (nar .byte b)) 2 (nar .byte b)) 3 (nar .byte b)) 4 (nar .byte b)) 5 (nar .byte b)) 6 (nar .byte b)) 7 (nar .byte b)) 8 (nar .byte b)) 9 (nar .byte b)) = ar) : ar 8 = f3 (8 : Int32) (1 : Int32) s v b := by
  rcases own_w_1 v (updI (updI (updI (updI (updI (updI (updI (updI (updI (updI (fun _ => (0 : Int32)) 0 (nar .byte b)) 1 (nar .byte b)) 2 (nar .byte b)) 3 (nar .byte b)) 4 (nar .byte b)) 5 (nar .byte b)) 6 (nar .byte b)) 7 (nar .byte b)) 8 (nar .byte b)) 9 (nar .byte b)) with h | h | h | h | h
  · rw [← ear, ← es, h.2.1, h.2.2.2]
    unfold f3
    rw [if_neg (by decide), if_neg (by decide)]
    rfl
  · rw [← ear, ← es, h.2.2.1, h.2.2.2.2]
    unfold f3
    rw [if_neg (by decide), if_neg (by decide)]
    rfl
  · rw [← ear, ← es, h.2.2.2.1, h.2.2.2.2.2]
    unfold f3
    rw [if_neg (by decide), if_neg (by decide)]
    rfl
  · rw [← ear, ← es, h.2.2.2.2.1, h.2.2.2.2.2.2]
    unfold f3
    rw [if_neg (by decide), if_neg (by decide)]
    rfl
  · rw [← ear, ← es, h.2.2.2.2.1, h.2.2.2.2.2.2]
    unfold f3
    rw [if_neg (by decide), if_neg (by decide)]
    rfl
theorem own_c_1_9 (v b s : Int32) (ar : Nat → Int32) (es : f1 v = s) (ear : f2_1_ar_a1 v (updI (updI (updI (updI (updI (updI (updI (updI (updI (updI (fun _ => (0 : Int32)) 0 (nar .byte b)) 1 (nar .byte b)) 2 (nar .byte b)) 3 (nar .byte b)) 4 (nar .byte b)) 5 (nar .byte b)) 6 (nar .byte b)) 7 (nar .byte b)) 8 (nar .byte b)) 9 (nar .byte b)) = ar) : ar 9 = f3 (9 : Int32) (1 : Int32) s v b := by
  rcases own_w_1 v (updI (updI (updI (updI (updI (updI (updI (updI (updI (updI (fun _ => (0 : Int32)) 0 (nar .byte b)) 1 (nar .byte b)) 2 (nar .byte b)) 3 (nar .byte b)) 4 (nar .byte b)) 5 (nar .byte b)) 6 (nar .byte b)) 7 (nar .byte b)) 8 (nar .byte b)) 9 (nar .byte b)) with h | h | h | h | h
  · rw [← ear, ← es, h.2.1, h.2.2.2]
    unfold f3
    rw [if_neg (by decide), if_neg (by decide)]
    rfl
  · rw [← ear, ← es, h.2.2.1, h.2.2.2.2]
    unfold f3
    rw [if_neg (by decide), if_neg (by decide)]
    rfl
  · rw [← ear, ← es, h.2.2.2.1, h.2.2.2.2.2]
    unfold f3
    rw [if_neg (by decide), if_neg (by decide)]
    rfl
  · rw [← ear, ← es, h.2.2.2.2.1, h.2.2.2.2.2.2]
    unfold f3
    rw [if_neg (by decide), if_neg (by decide)]
    rfl
  · rw [← ear, ← es, h.2.2.2.2.1, h.2.2.2.2.2.2]
    unfold f3
    rw [if_neg (by decide), if_neg (by decide)]
    rfl
theorem own_w_2 (v : Int32) (g : Nat → Int32) : (((v.toUInt32 >>> ((7 : Int32) &&& 31).toUInt32).toInt32) = (0 : Int32) ∧ f1 v = (1 : Int32) ∧ f2_2 v = (3 : Int32) ∧ f2_2_ar_a1 v g = (updI g 2 (nar .byte (v.toInt8.toInt32)))) ∨ (¬ ((v.toUInt32 >>> ((7 : Int32) &&& 31).toUInt32).toInt32) = (0 : Int32) ∧ ((v.toUInt32 >>> ((14 : Int32) &&& 31).toUInt32).toInt32) = (0 : Int32) ∧ f1 v = (2 : Int32) ∧ f2_2 v = (4 : Int32) ∧ f2_2_ar_a1 v g = (updI (updI g 2 (nar .byte (((v &&& (127 : Int32)) ||| (128 : Int32)).toInt8.toInt32))) 3 (nar .byte (((v.toUInt32 >>> ((7 : Int32) &&& 31).toUInt32).toInt32).toInt8.toInt32)))) ∨ (¬ ((v.toUInt32 >>> ((7 : Int32) &&& 31).toUInt32).toInt32) = (0 : Int32) ∧ ¬ ((v.toUInt32 >>> ((14 : Int32) &&& 31).toUInt32).toInt32) = (0 : Int32) ∧ ((v.toUInt32 >>> ((21 : Int32) &&& 31).toUInt32).toInt32) = (0 : Int32) ∧ f1 v = (3 : Int32) ∧ f2_2 v = (5 : Int32) ∧ f2_2_ar_a1 v g = (updI (updI (updI g 2 (nar .byte (((v &&& (127 : Int32)) ||| (128 : Int32)).toInt8.toInt32))) 3 (nar .byte (((((v.toUInt32 >>> ((7 : Int32) &&& 31).toUInt32).toInt32) &&& (127 : Int32)) ||| (128 : Int32)).toInt8.toInt32))) 4 (nar .byte (((v.toUInt32 >>> ((14 : Int32) &&& 31).toUInt32).toInt32).toInt8.toInt32)))) ∨ (¬ ((v.toUInt32 >>> ((7 : Int32) &&& 31).toUInt32).toInt32) = (0 : Int32) ∧ ¬ ((v.toUInt32 >>> ((14 : Int32) &&& 31).toUInt32).toInt32) = (0 : Int32) ∧ ¬ ((v.toUInt32 >>> ((21 : Int32) &&& 31).toUInt32).toInt32) = (0 : Int32) ∧ ((v.toUInt32 >>> ((28 : Int32) &&& 31).toUInt32).toInt32) = (0 : Int32) ∧ f1 v = (4 : Int32) ∧ f2_2 v = (6 : Int32) ∧ f2_2_ar_a1 v g = (updI (updI (updI (updI g 2 (nar .byte (((v &&& (127 : Int32)) ||| (128 : Int32)).toInt8.toInt32))) 3 (nar .byte (((((v.toUInt32 >>> ((7 : Int32) &&& 31).toUInt32).toInt32) &&& (127 : Int32)) ||| (128 : Int32)).toInt8.toInt32))) 4 (nar .byte (((((v.toUInt32 >>> ((14 : Int32) &&& 31).toUInt32).toInt32) &&& (127 : Int32)) ||| (128 : Int32)).toInt8.toInt32))) 5 (nar .byte (((v.toUInt32 >>> ((21 : Int32) &&& 31).toUInt32).toInt32).toInt8.toInt32)))) ∨ (¬ ((v.toUInt32 >>> ((7 : Int32) &&& 31).toUInt32).toInt32) = (0 : Int32) ∧ ¬ ((v.toUInt32 >>> ((14 : Int32) &&& 31).toUInt32).toInt32) = (0 : Int32) ∧ ¬ ((v.toUInt32 >>> ((21 : Int32) &&& 31).toUInt32).toInt32) = (0 : Int32) ∧ ¬ ((v.toUInt32 >>> ((28 : Int32) &&& 31).toUInt32).toInt32) = (0 : Int32) ∧ f1 v = (5 : Int32) ∧ f2_2 v = (7 : Int32) ∧ f2_2_ar_a1 v g = (updI (updI (updI (updI (updI g 2 (nar .byte (((v &&& (127 : Int32)) ||| (128 : Int32)).toInt8.toInt32))) 3 (nar .byte (((((v.toUInt32 >>> ((7 : Int32) &&& 31).toUInt32).toInt32) &&& (127 : Int32)) ||| (128 : Int32)).toInt8.toInt32))) 4 (nar .byte (((((v.toUInt32 >>> ((14 : Int32) &&& 31).toUInt32).toInt32) &&& (127 : Int32)) ||| (128 : Int32)).toInt8.toInt32))) 5 (nar .byte (((((v.toUInt32 >>> ((21 : Int32) &&& 31).toUInt32).toInt32) &&& (127 : Int32)) ||| (128 : Int32)).toInt8.toInt32))) 6 (nar .byte (((v.toUInt32 >>> ((28 : Int32) &&& 31).toUInt32).toInt32).toInt8.toInt32)))) := by
  unfold f1 f2_2 f2_2_ar_a1
  simp only [own_hi, own_y2, own_y3, own_y4]
  by_cases h1 : ((v.toUInt32 >>> ((7 : Int32) &&& 31).toUInt32).toInt32) = (0 : Int32)
  · exact Or.inl ⟨h1, by rw [if_pos h1], by rw [if_pos h1], by rw [if_pos h1]⟩
  · by_cases h2 : ((v.toUInt32 >>> ((14 : Int32) &&& 31).toUInt32).toInt32) = (0 : Int32)
    · exact Or.inr (Or.inl ⟨h1, h2, by rw [if_neg h1, if_pos h2], by rw [if_neg h1, if_pos h2], by rw [if_neg h1, if_pos h2]⟩)
    · by_cases h3 : ((v.toUInt32 >>> ((21 : Int32) &&& 31).toUInt32).toInt32) = (0 : Int32)
      · exact Or.inr (Or.inr (Or.inl ⟨h1, h2, h3, by rw [if_neg h1, if_neg h2, if_pos h3], by rw [if_neg h1, if_neg h2, if_pos h3], by rw [if_neg h1, if_neg h2, if_pos h3]⟩))
      · by_cases h4 : ((v.toUInt32 >>> ((28 : Int32) &&& 31).toUInt32).toInt32) = (0 : Int32)
        · exact Or.inr (Or.inr (Or.inr (Or.inl ⟨h1, h2, h3, h4, by rw [if_neg h1, if_neg h2, if_neg h3, if_pos h4], by rw [if_neg h1, if_neg h2, if_neg h3, if_pos h4], by rw [if_neg h1, if_neg h2, if_neg h3, if_pos h4]⟩)))
        · exact Or.inr (Or.inr (Or.inr (Or.inr (⟨h1, h2, h3, h4, by rw [if_neg h1, if_neg h2, if_neg h3, if_neg h4], by rw [if_neg h1, if_neg h2, if_neg h3, if_neg h4], by rw [if_neg h1, if_neg h2, if_neg h3, if_neg h4]⟩))))
theorem own_r_2 (v s r : Int32) (es : f1 v = s) (er : f2_2 v = r) : r = ((2 : Int32) + s) := by
  rcases own_w_2 v (fun _ => 0) with h | h | h | h | h
  · rw [← er, ← es, h.2.2.1, h.2.1]; rfl
  · rw [← er, ← es, h.2.2.2.1, h.2.2.1]; rfl
  · rw [← er, ← es, h.2.2.2.2.1, h.2.2.2.1]; rfl
  · rw [← er, ← es, h.2.2.2.2.2.1, h.2.2.2.2.1]; rfl
  · rw [← er, ← es, h.2.2.2.2.2.1, h.2.2.2.2.1]; rfl
theorem own_c_2_0 (v b s : Int32) (ar : Nat → Int32) (es : f1 v = s) (ear : f2_2_ar_a1 v (updI (updI (updI (updI (updI (updI (updI (updI (updI (updI (fun _ => (0 : Int32)) 0 (nar .byte b)) 1 (nar .byte b)) 2 (nar .byte b)) 3 (nar .byte b)) 4 (nar .byte b)) 5 (nar .byte b)) 6 (nar .byte b)) 7 (nar .byte b)) 8 (nar .byte b)) 9 (nar .byte b)) = ar) : ar 0 = f3 (0 : Int32) (2 : Int32) s v b := by
  rcases own_w_2 v (updI (updI (updI (updI (updI (updI (updI (updI (updI (updI (fun _ => (0 : Int32)) 0 (nar .byte b)) 1 (nar .byte b)) 2 (nar .byte b)) 3 (nar .byte b)) 4 (nar .byte b)) 5 (nar .byte b)) 6 (nar .byte b)) 7 (nar .byte b)) 8 (nar .byte b)) 9 (nar .byte b)) with h | h | h | h | h
  · rw [← ear, ← es, h.2.1, h.2.2.2]
    unfold f3
    rw [if_pos (by decide)]
    rfl
  · rw [← ear, ← es, h.2.2.1, h.2.2.2.2]
    unfold f3
    rw [if_pos (by decide)]
    rfl
  · rw [← ear, ← es, h.2.2.2.1, h.2.2.2.2.2]
    unfold f3
    rw [if_pos (by decide)]
    rfl
  · rw [← ear, ← es, h.2.2.2.2.1, h.2.2.2.2.2.2]
    unfold f3
    rw [if_pos (by decide)]
    rfl
  · rw [← ear, ← es, h.2.2.2.2.1, h.2.2.2.2.2.2]
    unfold f3
    rw [if_pos (by decide)]
    rfl
theorem own_c_2_1 (v b s : Int32) (ar : Nat → Int32) (es : f1 v = s) (ear : f2_2_ar_a1 v (updI (updI (updI (updI (updI (updI (updI (updI (updI (updI (fun _ => (0 : Int32)) 0 (nar .byte b)) 1 (nar .byte b)) 2 (nar .byte b)) 3 (nar .byte b)) 4 (nar .byte b)) 5 (nar .byte b)) 6 (nar .byte b)) 7 (nar .byte b)) 8 (nar .byte b)) 9 (nar .byte b)) = ar) : ar 1 = f3 (1 : Int32) (2 : Int32) s v b := by
  rcases own_w_2 v (updI (updI (updI (updI (updI (updI (updI (updI (updI (updI (fun _ => (0 : Int32)) 0 (nar .byte b)) 1 (nar .byte b)) 2 (nar .byte b)) 3 (nar .byte b)) 4 (nar .byte b)) 5 (nar .byte b)) 6 (nar .byte b)) 7 (nar .byte b)) 8 (nar .byte b)) 9 (nar .byte b)) with h | h | h | h | h
  · rw [← ear, ← es, h.2.1, h.2.2.2]
    unfold f3
    rw [if_pos (by decide)]
    rfl
  · rw [← ear, ← es, h.2.2.1, h.2.2.2.2]
    unfold f3
    rw [if_pos (by decide)]
    rfl
  · rw [← ear, ← es, h.2.2.2.1, h.2.2.2.2.2]
    unfold f3
    rw [if_pos (by decide)]
    rfl
  · rw [← ear, ← es, h.2.2.2.2.1, h.2.2.2.2.2.2]
    unfold f3
    rw [if_pos (by decide)]
    rfl
  · rw [← ear, ← es, h.2.2.2.2.1, h.2.2.2.2.2.2]
    unfold f3
    rw [if_pos (by decide)]
    rfl
theorem own_c_2_2 (v b s : Int32) (ar : Nat → Int32) (es : f1 v = s) (ear : f2_2_ar_a1 v (updI (updI (updI (updI (updI (updI (updI (updI (updI (updI (fun _ => (0 : Int32)) 0 (nar .byte b)) 1 (nar .byte b)) 2 (nar .byte b)) 3 (nar .byte b)) 4 (nar .byte b)) 5 (nar .byte b)) 6 (nar .byte b)) 7 (nar .byte b)) 8 (nar .byte b)) 9 (nar .byte b)) = ar) : ar 2 = f3 (2 : Int32) (2 : Int32) s v b := by
  rcases own_w_2 v (updI (updI (updI (updI (updI (updI (updI (updI (updI (updI (fun _ => (0 : Int32)) 0 (nar .byte b)) 1 (nar .byte b)) 2 (nar .byte b)) 3 (nar .byte b)) 4 (nar .byte b)) 5 (nar .byte b)) 6 (nar .byte b)) 7 (nar .byte b)) 8 (nar .byte b)) 9 (nar .byte b)) with h | h | h | h | h
  · rw [← ear, ← es, h.2.1, h.2.2.2]
    unfold f3
    have q : (7 : Int32) * ((2 : Int32) - (2 : Int32)) = (0 : Int32) := by decide
    rw [if_neg (by decide), if_pos (by decide), if_neg (by decide), q, own_s0, own_lo _ h.1]
    rfl
  · rw [← ear, ← es, h.2.2.1, h.2.2.2.2]
    unfold f3
    have q : (7 : Int32) * ((2 : Int32) - (2 : Int32)) = (0 : Int32) := by decide
    rw [if_neg (by decide), if_pos (by decide), if_pos (by decide), q, own_s0]
    rfl
  · rw [← ear, ← es, h.2.2.2.1, h.2.2.2.2.2]
    unfold f3
    have q : (7 : Int32) * ((2 : Int32) - (2 : Int32)) = (0 : Int32) := by decide
    rw [if_neg (by decide), if_pos (by decide), if_pos (by decide), q, own_s0]
    rfl
  · rw [← ear, ← es, h.2.2.2.2.1, h.2.2.2.2.2.2]
    unfold f3
    have q : (7 : Int32) * ((2 : Int32) - (2 : Int32)) = (0 : Int32) := by decide
    rw [if_neg (by decide), if_pos (by decide), if_pos (by decide), q, own_s0]
    rfl
  · rw [← ear, ← es, h.2.2.2.2.1, h.2.2.2.2.2.2]
    unfold f3
    have q : (7 : Int32) * ((2 : Int32) - (2 : Int32)) = (0 : Int32) := by decide
    rw [if_neg (by decide), if_pos (by decide), if_pos (by decide), q, own_s0]
    rfl
theorem own_c_2_3 (v b s : Int32) (ar : Nat → Int32) (es : f1 v = s) (ear : f2_2_ar_a1 v (updI (updI (updI (updI (updI (updI (updI (updI (updI (updI (fun _ => (0 : Int32)) 0 (nar .byte b)) 1 (nar .byte b)) 2 (nar .byte b)) 3 (nar .byte b)) 4 (nar .byte b)) 5 (nar .byte b)) 6 (nar .byte b)) 7 (nar .byte b)) 8 (nar .byte b)) 9 (nar .byte b)) = ar) : ar 3 = f3 (3 : Int32) (2 : Int32) s v b := by
  rcases own_w_2 v (updI (updI (updI (updI (updI (updI (updI (updI (updI (updI (fun _ => (0 : Int32)) 0 (nar .byte b)) 1 (nar .byte b)) 2 (nar .byte b)) 3 (nar .byte b)) 4 (nar .byte b)) 5 (nar .byte b)) 6 (nar .byte b)) 7 (nar .byte b)) 8 (nar .byte b)) 9 (nar .byte b)) with h | h | h | h | h
  · rw [← ear, ← es, h.2.1, h.2.2.2]
    unfold f3
    rw [if_neg (by decide), if_neg (by decide)]
    rfl
  · rw [← ear, ← es, h.2.2.1, h.2.2.2.2]
    unfold f3
    have q : (7 : Int32) * ((3 : Int32) - (2 : Int32)) = (7 : Int32) := by decide
    rw [if_neg (by decide), if_pos (by decide), if_neg (by decide), q, own_lo _ ((own_y2 _).trans h.2.1)]
    rfl
  · rw [← ear, ← es, h.2.2.2.1, h.2.2.2.2.2]
    unfold f3
    have q : (7 : Int32) * ((3 : Int32) - (2 : Int32)) = (7 : Int32) := by decide
    rw [if_neg (by decide), if_pos (by decide), if_pos (by decide), q]
    rfl
  · rw [← ear, ← es, h.2.2.2.2.1, h.2.2.2.2.2.2]
    unfold f3
    have q : (7 : Int32) * ((3 : Int32) - (2 : Int32)) = (7 : Int32) := by decide
    rw [if_neg (by decide), if_pos (by decide), if_pos (by decide), q]
    rfl
  · rw [← ear, ← es, h.2.2.2.2.1, h.2.2.2.2.2.2]
    unfold f3
    have q : (7 : Int32) * ((3 : Int32) - (2 : Int32)) = (7 : Int32) := by decide
    rw [if_neg (by decide), if_pos (by decide), if_pos (by decide), q]
    rfl
theorem own_c_2_4 (v b s : Int32) (ar : Nat → Int32) (es : f1 v = s) (ear : f2_2_ar_a1 v (updI (updI (updI (updI (updI (updI (updI (updI (updI (updI (fun _ => (0 : Int32)) 0 (nar .byte b)) 1 (nar .byte b)) 2 (nar .byte b)) 3 (nar .byte b)) 4 (nar .byte b)) 5 (nar .byte b)) 6 (nar .byte b)) 7 (nar .byte b)) 8 (nar .byte b)) 9 (nar .byte b)) = ar) : ar 4 = f3 (4 : Int32) (2 : Int32) s v b := by
  rcases own_w_2 v (updI (updI (updI (updI (updI (updI (updI (updI (updI (updI (fun _ => (0 : Int32)) 0 (nar .byte b)) 1 (nar .byte b)) 2 (nar .byte b)) 3 (nar .byte b)) 4 (nar .byte b)) 5 (nar .byte b)) 6 (nar .byte b)) 7 (nar .byte b)) 8 (nar .byte b)) 9 (nar .byte b)) with h | h | h | h | h
  · rw [← ear, ← es, h.2.1, h.2.2.2]
    unfold f3
    rw [if_neg (by decide), if_neg (by decide)]
    rfl
  · rw [← ear, ← es, h.2.2.1, h.2.2.2.2]
    unfold f3
    rw [if_neg (by decide), if_neg (by decide)]
    rfl
  · rw [← ear, ← es, h.2.2.2.1, h.2.2.2.2.2]
    unfold f3
    have q : (7 : Int32) * ((4 : Int32) - (2 : Int32)) = (14 : Int32) := by decide
    rw [if_neg (by decide), if_pos (by decide), if_neg (by decide), q, own_lo _ ((own_y3 _).trans h.2.2.1)]
    rfl
  · rw [← ear, ← es, h.2.2.2.2.1, h.2.2.2.2.2.2]
    unfold f3
    have q : (7 : Int32) * ((4 : Int32) - (2 : Int32)) = (14 : Int32) := by decide
    rw [if_neg (by decide), if_pos (by decide), if_pos (by decide), q]
    rfl
  · rw [← ear, ← es, h.2.2.2.2.1, h.2.2.2.2.2.2]
    unfold f3
    have q : (7 : Int32) * ((4 : Int32) - (2 : Int32)) = (14 : Int32) := by decide
    rw [if_neg (by decide), if_pos (by decide), if_pos (by decide), q]
    rfl
theorem own_c_2_5 (v b s : Int32) (ar : Nat → Int32) (es : f1 v = s) (ear : f2_2_ar_a1 v (updI (updI (updI (updI (updI (updI (updI (updI (updI (updI (fun _ => (0 : Int32)) 0 (nar .byte b)) 1 (nar .byte b)) 2 (nar .byte b)) 3 (nar .byte b)) 4 (nar .byte b)) 5 (nar .byte b)) 6 (nar .byte b)) 7 (nar .byte b)) 8 (nar .byte b)) 9 (nar .byte b)) = ar) : ar 5 = f3 (5 : Int32) (2 : Int32) s v b := by
  rcases own_w_2 v (updI (updI (updI (updI (updI (updI (updI (updI (updI (updI (fun _ => (0 : Int32)) 0 (nar .byte b)) 1 (nar .byte b)) 2 (nar .byte b)) 3 (nar .byte b)) 4 (nar .byte b)) 5 (nar .byte b)) 6 (nar .byte b)) 7 (nar .byte b)) 8 (nar .byte b)) 9 (nar .byte b)) with h | h | h | h | h
  · rw [← ear, ← es, h.2.1, h.2.2.2]
    unfold f3
    rw [if_neg (by decide), if_neg (by decide)]
    rfl
  · rw [← ear, ← es, h.2.2.1, h.2.2.2.2]
    unfold f3
    rw [if_neg (by decide), if_neg (by decide)]
    rfl
  · rw [← ear, ← es, h.2.2.2.1, h.2.2.2.2.2]
    unfold f3
    rw [if_neg (by decide), if_neg (by decide)]
    rfl
  · rw [← ear, ← es, h.2.2.2.2.1, h.2.2.2.2.2.2]
    unfold f3
    have q : (7 : Int32) * ((5 : Int32) - (2 : Int32)) = (21 : Int32) := by decide
    rw [if_neg (by decide), if_pos (by decide), if_neg (by decide), q, own_lo _ ((own_y4 _).trans h.2.2.2.1)]
    rfl
  · rw [← ear, ← es, h.2.2.2.2.1, h.2.2.2.2.2.2]
    unfold f3
    have q : (7 : Int32) * ((5 : Int32) - (2 : Int32)) = (21 : Int32) := by decide
    rw [if_neg (by decide), if_pos (by decide), if_pos (by decide), q]
    rfl
theorem own_c_2_6 (v b s : Int32) (ar : Nat → Int32) (es : f1 v = s) (ear : f2_2_ar_a1 v (updI (updI (updI (updI (updI (updI (updI (updI (updI (updI (fun _ => (0 : Int32)) 0 (nar .byte b)) 1 (nar .byte b)) 2 (nar .byte b)) 3 (nar .byte b)) 4 (nar .byte b)) 5 (nar .byte b)) 6 (nar .byte b)) 7 (nar .byte b)) 8 (nar .byte b)) 9 (nar .byte b)) = ar) : ar 6 = f3 (6 : Int32) (2 : Int32) s v b := by
  rcases own_w_2 v (updI (updI (updI (updI (updI (updI (updI (updI (updI (updI (fun _ => (0 : Int32)) 0 (nar .byte b)) 1 (nar .byte b)) 2 (nar .byte b)) 3 (nar .byte b)) 4 (nar .byte b)) 5 (nar .byte b)) 6 (nar .byte b)) 7 (nar .byte b)) 8 (nar .byte b)) 9 (nar .byte b)) with h | h | h | h | h
  · rw [← ear, ← es, h.2.1, h.2.2.2]
    unfold f3
    rw [if_neg (by decide), if_neg (by decide)]
    rfl
  · rw [← ear, ← es, h.2.2.1, h.2.2.2.2]
    unfold f3
    rw [if_neg (by decide), if_neg (by decide)]
    rfl
  · rw [← ear, ← es, h.2.2.2.1, h.2.2.2.2.2]
    unfold f3
    rw [if_neg (by decide), if_neg (by decide)]
    rfl
  · rw [← ear, ← es, h.2.2.2.2.1, h.2.2.2.2.2.2]
    unfold f3
    rw [if_neg (by decide), if_neg (by decide)]
    rfl
  · rw [← ear, ← es, h.2.2.2.2.1, h.2.2.2.2.2.2]
    unfold f3
    have q : (7 : Int32) * ((6 : Int32) - (2 : Int32)) = (28 : Int32) := by decide
    rw [if_neg (by decide), if_pos (by decide), if_neg (by decide), q, own_lo _ (own_y5 _)]
    rfl
theorem own_c_2_7 (v b s : Int32) (ar : Nat → Int32) (es : f1 v = s) (ear : f2_2_ar_a1 v (updI (updI (updI (updI (updI (updI (updI (updI (updI (updI (fun _ => (0 : Int32)) 0 (nar .byte b)) 1 (nar .byte b)) 2 (nar .byte b)) 3 (nar .byte b)) 4 (nar .byte b)) 5 (nar .byte b)) 6 (nar .byte b)) 7 (nar .byte b)) 8 (nar .byte b)) 9 (nar .byte b)) = ar) : ar 7 = f3 (7 : Int32) (2 : Int32) s v b := by
  rcases own_w_2 v (updI (updI (updI (updI (updI (updI (updI (updI (updI (updI (fun _ => (0 : Int32)) 0 (nar .byte b)) 1 (nar .byte b)) 2 (nar .byte b)) 3 (nar .byte b)) 4 (nar .byte b)) 5 (nar .byte b)) 6 (nar .byte b)) 7 (nar .byte b)) 8 (nar .byte b)) 9 (nar .byte b)) with h | h | h | h | h
  · rw [← ear, ← es, h.2.1, h.2.2.2]
    unfold f3
    rw [if_neg (by decide), if_neg (by decide)]
    rfl
  · rw [← ear, ← es, h.2.2.1, h.2.2.2.2]
    unfold f3
    rw [if_neg (by decide), if_neg (by decide)]
    rfl
  · rw [← ear, ← es, h.2.2.2.1, h.2.2.2.2.2]
    unfold f3
    rw [if_neg (by decide), if_neg (by decide)]
    rfl
  · rw [← ear, ← es, h.2.2.2.2.1, h.2.2.2.2.2.2]
    unfold f3
    rw [if_neg (by decide), if_neg (by decide)]
    rfl
  · rw [← ear, ← es, h.2.2.2.2.1, h.2.2.2.2.2.2]
    unfold f3
    rw [if_neg (by decide), if_neg (by decide)]
    rfl
theorem own_c_2_8 (v b s : Int32) (ar : Nat → Int32) (es : f1 v = s) (ear : f2_2_ar_a1 v (updI (updI (updI (updI (updI (updI (updI (updI (updI (updI (fun _ => (0 : Int32)) 0 (nar .byte b)) 1 (nar .byte b)) 2 (nar .byte b)) 3 (nar .byte b)) 4 (nar .byte b)) 5 (nar .byte b)) 6 (nar .byte b)) 7 (nar .byte b)) 8 (nar .byte b)) 9 (nar .byte b)) = ar) : ar 8 = f3 (8 : Int32) (2 : Int32) s v b := by
  rcases own_w_2 v (updI (updI (updI (updI (updI (updI (updI (updI (updI (updI (fun _ => (0 : Int32)) 0 (nar .byte b)) 1 (nar .byte b)) 2 (nar .byte b)) 3 (nar .byte b)) 4 (nar .byte b)) 5 (nar .byte b)) 6 (nar .byte b)) 7 (nar .byte b)) 8 (nar .byte b)) 9 (nar .byte b)) with h | h | h | h | h
  · rw [← ear, ← es, h.2.1, h.2.2.2]
    unfold f3
    rw [if_neg (by decide), if_neg (by decide)]
    rfl
  · rw [← ear, ← es, h.2.2.1, h.2.2.2.2]
    unfold f3
    rw [if_neg (by decide), if_neg (by decide)]
    rfl
  · rw [← ear, ← es, h.2.2.2.1, h.2.2.2.2.2]
    unfold f3
    rw [if_neg (by decide), if_neg (by decide)]
    rfl
  · rw [← ear, ← es, h.2.2.2.2.1, h.2.2.2.2.2.2]
    unfold f3
    rw [if_neg (by decide), if_neg (by decide)]
    rfl
  · rw [← ear, ← es, h.2.2.2.2.1, h.2.2.2.2.2.2]
    unfold f3
    rw [if_neg (by decide), if_neg (by decide)]
    rfl
theorem own_c_2_9 (v b s : Int32) (ar : Nat → Int32) (es : f1 v = s) (ear : f2_2_ar_a1 v (updI (updI (updI (updI (updI (updI (updI (updI (updI (updI (fun _ => (0 : Int32)) 0 (nar .byte b)) 1 (nar .byte b)) 2 (nar .byte b)) 3 (nar .byte b)) 4 (nar .byte b)) 5 (nar .byte b)) 6 (nar .byte b)) 7 (nar .byte b)) 8 (nar .byte b)) 9 (nar .byte b)) = ar) : ar 9 = f3 (9 : Int32) (2 : Int32) s v b := by
  rcases own_w_2 v (updI (updI (updI (updI (updI (updI (updI (updI (updI (updI (fun _ => (0 : Int32)) 0 (nar .byte b)) 1 (nar .byte b)) 2 (nar .byte b)) 3 (nar .byte b)) 4 (nar .byte b)) 5 (nar .byte b)) 6 (nar .byte b)) 7 (nar .byte b)) 8 (nar .byte b)) 9 (nar .byte b)) with h | h | h | h | h
  · rw [← ear, ← es, h.2.1, h.2.2.2]
    unfold f3
    rw [if_neg (by decide), if_neg (by decide)]
    rfl
  · rw [← ear, ← es, h.2.2.1, h.2.2.2.2]
    unfold f3
    rw [if_neg (by decide), if_neg (by decide)]
    rfl
  · rw [← ear, ← es, h.2.2.2.1, h.2.2.2.2.2]
    unfold f3
    rw [if_neg (by decide), if_neg (by decide)]
    rfl
  · rw [← ear, ← es, h.2.2.2.2.1, h.2.2.2.2.2.2]
    unfold f3
    rw [if_neg (by decide), if_neg (by decide)]
    rfl
  · rw [← ear, ← es, h.2.2.2.2.1, h.2.2.2.2.2.2]
    unfold f3
    rw [if_neg (by decide), if_neg (by decide)]
    rfl
theorem own_w_3 (v : Int32) (g : Nat → Int32) : (((v.toUInt32 >>> ((7 : Int32) &&& 31).toUInt32).toInt32) = (0 : Int32) ∧ f1 v = (1 : Int32) ∧ f2_3 v = (4 : Int32) ∧ f2_3_ar_a1 v g = (updI g 3 (nar .byte (v.toInt8.toInt32)))) ∨ (¬ ((v.toUInt32 >>> ((7 : Int32) &&& 31).toUInt32).toInt32) = (0 : Int32) ∧ ((v.toUInt32 >>> ((14 : Int32) &&& 31).toUInt32).toInt32) = (0 : Int32) ∧ f1 v = (2 : Int32) ∧ f2_3 v = (5 : Int32) ∧ f2_3_ar_a1 v g = (updI (updI g 3 (nar .byte (((v &&& (127 : Int32)) ||| (128 : Int32)).toInt8.toInt32))) 4 (nar .byte (((v.toUInt32 >>> ((7 : Int32) &&& 31).toUInt32).toInt32).toInt8.toInt32)))) ∨ (¬ ((v.toUInt32 >>> ((7 : Int32) &&& 31).toUInt32).toInt32) = (0 : Int32) ∧ ¬ ((v.toUInt32 >>> ((14 : Int32) &&& 31).toUInt32).toInt32) = (0 : Int32) ∧ ((v.toUInt32 >>> ((21 : Int32) &&& 31).toUInt32).toInt32) = (0 : Int32) ∧ f1 v = (3 : Int32) ∧ f2_3 v = (6 : Int32) ∧ f2_3_ar_a1 v g = (updI (updI (updI g 3 (nar .byte (((v &&& (127 : Int32)) ||| (128 : Int32)).toInt8.toInt32))) 4 (nar .byte (((((v.toUInt32 >>> ((7 : Int32) &&& 31).toUInt32).toInt32) &&& (127 : Int32)) ||| (128 : Int32)).toInt8.toInt32))) 5 (nar .byte (((v.toUInt32 >>> ((14 : Int32) &&& 31).toUInt32).toInt32).toInt8.toInt32)))) ∨ (¬ ((v.toUInt32 >>> ((7 : Int32) &&& 31).toUInt32).toInt32) = (0 : Int32) ∧ ¬ ((v.toUInt32 >>> ((14 : Int32) &&& 31).toUInt32).toInt32) = (0 : Int32) ∧ ¬ ((v.toUInt32 >>> ((21 : Int32) &&& 31).toUInt32).toInt32) = (0 : Int32) ∧ ((v.toUInt32 >>> ((28 : Int32) &&& 31).toUInt32).toInt32) = (0 : Int32) ∧ f1 v = (4 : Int32) ∧ f2_3 v = (7 : Int32) ∧ f2_3_ar_a1 v g = (updI (updI (updI (updI g 3 (nar .byte (((v &&& (127 : Int32)) ||| (128 : Int32)).toInt8.toInt32))) 4 (nar .byte (((((v.toUInt32 >>> ((7 : Int32) &&& 31).toUInt32).toInt32) &&& (127 : Int32)) ||| (128 : Int32)).toInt8.toInt32))) 5 (nar .byte (((((v.toUInt32 >>> ((14 : Int32) &&& 31).toUInt32).toInt32) &&& (127 : Int32)) ||| (128 : Int32)).toInt8.toInt32))) 6 (nar .byte (((v.toUInt32 >>> ((21 : Int32) &&& 31).toUInt32).toInt32).toInt8.toInt32)))) ∨ (¬ ((v.toUInt32 >>> ((7 : Int32) &&& 31).toUInt32).toInt32) = (0 : Int32) ∧ ¬ ((v.toUInt32 >>> ((14 : Int32) &&& 31).toUInt32).toInt32) = (0 : Int32) ∧ ¬ ((v.toUInt32 >>> ((21 : Int32) &&& 31).toUInt32).toInt32) = (0 : Int32) ∧ ¬ ((v.toUInt32 >>> ((28 : Int32) &&& 31).toUInt32).toInt32) = (0 : Int32) ∧ f1 v = (5 : Int32) ∧ f2_3 v = (8 : Int32) ∧ f2_3_ar_a1 v g = (updI (updI (updI (updI (updI g 3 (nar .byte (((v &&& (127 : Int32)) ||| (128 : Int32)).toInt8.toInt32))) 4 (nar .byte (((((v.toUInt32 >>> ((7 : Int32) &&& 31).toUInt32).toInt32) &&& (127 : Int32)) ||| (128 : Int32)).toInt8.toInt32))) 5 (nar .byte (((((v.toUInt32 >>> ((14 : Int32) &&& 31).toUInt32).toInt32) &&& (127 : Int32)) ||| (128 : Int32)).toInt8.toInt32))) 6 (nar .byte (((((v.toUInt32 >>> ((21 : Int32) &&& 31).toUInt32).toInt32) &&& (127 : Int32)) ||| (128 : Int32)).toInt8.toInt32))) 7 (nar .byte (((v.toUInt32 >>> ((28 : Int32) &&& 31).toUInt32).toInt32).toInt8.toInt32)))) := by
  unfold f1 f2_3 f2_3_ar_a1
  simp only [own_hi, own_y2, own_y3, own_y4]
  by_cases h1 : ((v.toUInt32 >>> ((7 : Int32) &&& 31).toUInt32).toInt32) = (0 : Int32)
  · exact Or.inl ⟨h1, by rw [if_pos h1], by rw [if_pos h1], by rw [if_pos h1]⟩
  · by_cases h2 : ((v.toUInt32 >>> ((14 : Int32) &&& 31).toUInt32).toInt32) = (0 : Int32)
    · exact Or.inr (Or.inl ⟨h1, h2, by rw [if_neg h1, if_pos h2], by rw [if_neg h1, if_pos h2], by rw [if_neg h1, if_pos h2]⟩)
    · by_cases h3 : ((v.toUInt32 >>> ((21 : Int32) &&& 31).toUInt32).toInt32) = (0 : Int32)
      · exact Or.inr (Or.inr (Or.inl ⟨h1, h2, h3, by rw [if_neg h1, if_neg h2, if_pos h3], by rw [if_neg h1, if_neg h2, if_pos h3], by rw [if_neg h1, if_neg h2, if_pos h3]⟩))
      · by_cases h4 : ((v.toUInt32 >>> ((28 : Int32) &&& 31).toUInt32).toInt32) = (0 : Int32)
        · exact Or.inr (Or.inr (Or.inr (Or.inl ⟨h1, h2, h3, h4, by rw [if_neg h1, if_neg h2, if_neg h3, if_pos h4], by rw [if_neg h1, if_neg h2, if_neg h3, if_pos h4], by rw [if_neg h1, if_neg h2, if_neg h3, if_pos h4]⟩)))
        · exact Or.inr (Or.inr (Or.inr (Or.inr (⟨h1, h2, h3, h4, by rw [if_neg h1, if_neg h2, if_neg h3, if_neg h4], by rw [if_neg h1, if_neg h2, if_neg h3, if_neg h4], by rw [if_neg h1, if_neg h2, if_neg h3, if_neg h4]⟩))))
theorem own_r_3 (v s r : Int32) (es : f1 v = s) (er : f2_3 v = r) : r = ((3 : Int32) + s) := by
  rcases own_w_3 v (fun _ => 0) with h | h | h | h | h
  · rw [← er, ← es, h.2.2.1, h.2.1]; rfl
  · rw [← er, ← es, h.2.2.2.1, h.2.2.1]; rfl
  · rw [← er, ← es, h.2.2.2.2.1, h.2.2.2.1]; rfl
  · rw [← er, ← es, h.2.2.2.2.2.1, h.2.2.2.2.1]; rfl
  · rw [← er, ← es, h.2.2.2.2.2.1, h.2.2.2.2.1]; rfl
theorem own_c_3_0 (v b s : Int32) (ar : Nat → Int32) (es : f1 v = s) (ear : f2_3_ar_a1 v (updI (updI (updI (updI (updI (updI (updI (updI (updI (updI (fun _ => (0 : Int32)) 0 (nar .byte b)) 1 (nar .byte b)) 2 (nar .byte b)) 3 (nar .byte b)) 4 (nar .byte b)) 5 (nar .byte b)) 6 (nar .byte b)) 7 (nar .byte b)) 8 (nar .byte b)) 9 (nar .byte b)) = ar) : ar 0 = f3 (0 : Int32) (3 : Int32) s v b := by
  rcases own_w_3 v (updI (updI (updI (updI (updI (updI (updI (updI (updI (updI (fun _ => (0 : Int32)) 0 (nar .byte b)) 1 (nar .byte b)) 2 (nar .byte b)) 3 (nar .byte b)) 4 (nar .byte b)) 5 (nar .byte b)) 6 (nar .byte b)) 7 (nar .byte b)) 8 (nar .byte b)) 9 (nar .byte b)) with h | h | h | h | h
  · rw [← ear, ← es, h.2.1, h.2.2.2]
    unfold f3
    rw [if_pos (by decide)]
    rfl
  · rw [← ear, ← es, h.2.2.1, h.2.2.2.2]
    unfold f3
    rw [if_pos (by decide)]
    rfl
  · rw [← ear, ← es, h.2.2.2.1, h.2.2.2.2.2]
    unfold f3
    rw [if_pos (by decide)]
    rfl
  · rw [← ear, ← es, h.2.2.2.2.1, h.2.2.2.2.2.2]
    unfold f3
    rw [if_pos (by decide)]
    rfl
  · rw [← ear, ← es, h.2.2.2.2.1, h.2.2.2.2.2.2]
    unfold f3
    rw [if_pos (by decide)]
    rfl
theorem own_c_3_1 (v b s : Int32) (ar : Nat → Int32) (es : f1 v = s) (ear : f2_3_ar_a1 v (updI (updI (updI (updI (updI (updI (updI (updI (updI (updI (fun _ => (0 : Int32)) 0 (nar .byte b)) 1 (nar .byte b)) 2 (nar .byte b)) 3 (nar .byte b)) 4 (nar .byte b)) 5 (nar .byte b)) 6 (nar .byte b)) 7 (nar .byte b)) 8 (nar .byte b)) 9 (nar .byte b)) = ar) : ar 1 = f3 (1 : Int32) (3 : Int32) s v b := by
  rcases own_w_3 v (updI (updI (updI (updI (updI (updI (updI (updI (updI (updI (fun _ => (0 : Int32)) 0 (nar .byte b)) 1 (nar .byte b)) 2 (nar .byte b)) 3 (nar .byte b)) 4 (nar .byte b)) 5 (nar .byte b)) 6 (nar .byte b)) 7 (nar .byte b)) 8 (nar .byte b)) 9 (nar .byte b)) with h | h | h | h | h
  · rw [← ear, ← es, h.2.1, h.2.2.2]
    unfold f3
    rw [if_pos (by decide)]
    rfl
  · rw [← ear, ← es, h.2.2.1, h.2.2.2.2]
    unfold f3
    rw [if_pos (by decide)]
    rfl
  · rw [← ear, ← es, h.2.2.2.1, h.2.2.2.2.2]
    unfold f3
    rw [if_pos (by decide)]
    rfl
  · rw [← ear, ← es, h.2.2.2.2.1, h.2.2.2.2.2.2]
    unfold f3
    rw [if_pos (by decide)]
    rfl
  · rw [← ear, ← es, h.2.2.2.2.1, h.2.2.2.2.2.2]
    unfold f3
    rw [if_pos (by decide)]
    rfl
theorem own_c_3_2 (v b s : Int32) (ar : Nat → Int32) (es : f1 v = s) (ear : f2_3_ar_a1 v (updI (updI (updI (updI (updI (updI (updI (updI (updI (updI (fun _ => (0 : Int32)) 0 (nar .byte b)) 1 (nar .byte b)) 2 (nar .byte b)) 3 (nar .byte b)) 4 (nar .byte b)) 5 (nar .byte b)) 6 (nar .byte b)) 7 (nar .byte b)) 8 (nar .byte b)) 9 (nar .byte b)) = ar) : ar 2 = f3 (2 : Int32) (3 : Int32) s v b := by
  rcases own_w_3 v (updI (updI (updI (updI (updI (updI (updI (updI (updI (updI (fun _ => (0 : Int32)) 0 (nar .byte b)) 1 (nar .byte b)) 2 (nar .byte b)) 3 (nar .byte b)) 4 (nar .byte b)) 5 (nar .byte b)) 6 (nar .byte b)) 7 (nar .byte b)) 8 (nar .byte b)) 9 (nar .byte b)) with h | h | h | h | h
  · rw [← ear, ← es, h.2.1, h.2.2.2]
    unfold f3
    rw [if_pos (by decide)]
    rfl
  · rw [← ear, ← es, h.2.2.1, h.2.2.2.2]
    unfold f3
    rw [if_pos (by decide)]
    rfl
  · rw [← ear, ← es, h.2.2.2.1, h.2.2.2.2.2]
    unfold f3
    rw [if_pos (by decide)]
    rfl
  · rw [← ear, ← es, h.2.2.2.2.1, h.2.2.2.2.2.2]
    unfold f3
    rw [if_pos (by decide)]
    rfl
  · rw [← ear, ← es, h.2.2.2.2.1, h.2.2.2.2.2.2]
    unfold f3
    rw [if_pos (by decide)]
    rfl
theorem own_c_3_3 (v b s : Int32) (ar : Nat → Int32) (es : f1 v = s) (ear : f2_3_ar_a1 v (updI (updI (updI (updI (updI (updI (updI (updI (updI (updI (fun _ => (0 : Int32)) 0 (nar .byte b)) 1 (nar .byte b)) 2 (nar .byte b)) 3 (nar .byte b)) 4 (nar .byte b)) 5 (nar .byte b)) 6 (nar .byte b)) 7 (nar .byte b)) 8 (nar .byte b)) 9 (nar .byte b)) = ar) : ar 3 = f3 (3 : Int32) (3 : Int32) s v b := by
  rcases own_w_3 v (updI (updI (updI (updI (updI (updI (updI (updI (updI (updI (fun _ => (0 : Int32)) 0 (nar .byte b)) 1 (nar .byte b)) 2 (nar .byte b)) 3 (nar .byte b)) 4 (nar .byte b)) 5 (nar .byte b)) 6 (nar .byte b)) 7 (nar .byte b)) 8 (nar .byte b)) 9 (nar .byte b)) with h | h | h | h | h
  · rw [← ear, ← es, h.2.1, h.2.2.2]
    unfold f3
    have q : (7 : Int32) * ((3 : Int32) - (3 : Int32)) = (0 : Int32) := by decide
    rw [if_neg (by decide), if_pos (by decide), if_neg (by decide), q, own_s0, own_lo _ h.1]
    rfl
  · rw [← ear, ← es, h.2.2.1, h.2.2.2.2]
    unfold f3
    have q : (7 : Int32) * ((3 : Int32) - (3 : Int32)) = (0 : Int32) := by decide
    rw [if_neg (by decide), if_pos (by decide), if_pos (by decide), q, own_s0]
    rfl
  · rw [← ear, ← es, h.2.2.2.1, h.2.2.2.2.2]
    unfold f3
    have q : (7 : Int32) * ((3 : Int32) - (3 : Int32)) = (0 : Int32) := by decide
    rw [if_neg (by decide), if_pos (by decide), if_pos (by decide), q, own_s0]
    rfl
  · rw [← ear, ← es, h.2.2.2.2.1, h.2.2.2.2.2.2]
    unfold f3
    have q : (7 : Int32) * ((3 : Int32) - (3 : Int32)) = (0 : Int32) := by decide
    rw [if_neg (by decide), if_pos (by decide), if_pos (by decide), q, own_s0]
    rfl
  · rw [← ear, ← es, h.2.2.2.2.1, h.2.2.2.2.2.2]
    unfold f3
    have q : (7 : Int32) * ((3 : Int32) - (3 : Int32)) = (0 : Int32) := by decide
    rw [if_neg (by decide), if_pos (by decide), if_pos (by decide), q, own_s0]
    rfl
theorem own_c_3_4 (v b s : Int32) (ar : Nat → Int32) (es : f1 v = s) (ear : f2_3_ar_a1 v (updI (updI (updI (updI (updI (updI (updI (updI (updI (updI (fun _ => (0 : Int32)) 0 (nar .byte b)) 1 (nar .byte b)) 2 (nar .byte b)) 3 (nar .byte b)) 4 (nar .byte b)) 5 (nar .byte b)) 6 (nar .byte b)) 7 (nar .byte b)) 8 (nar .byte b)) 9 (nar .byte b)) = ar) : ar 4 = f3 (4 : Int32) (3 : Int32) s v b := by
  rcases own_w_3 v (updI (updI (updI (updI (updI (updI (updI (updI (updI (updI (fun _ => (0 : Int32)) 0 (nar .byte b)) 1 (nar .byte b)) 2 (nar .byte b)) 3 (nar .byte b)) 4 (nar .byte b)) 5 (nar .byte b)) 6 (nar .byte b)) 7 (nar .byte b)) 8 (nar .byte b)) 9 (nar .byte b)) with h | h | h | h | h
  · rw [← ear, ← es, h.2.1, h.2.2.2]
    unfold f3
    rw [if_neg (by decide), if_neg (by decide)]
    rfl
  · rw [← ear, ← es, h.2.2.1, h.2.2.2.2]
    unfold f3
    have q : (7 : Int32) * ((4 : Int32) - (3 : Int32)) = (7 : Int32) := by decide
    rw [if_neg (by decide), if_pos (by decide), if_neg (by decide), q, own_lo _ ((own_y2 _).trans h.2.1)]
    rfl
  · rw [← ear, ← es, h.2.2.2.1, h.2.2.2.2.2]
    unfold f3
    have q : (7 : Int32) * ((4 : Int32) - (3 : Int32)) = (7 : Int32) := by decide
    rw [if_neg (by decide), if_pos (by decide), if_pos (by decide), q]
    rfl
  · rw [← ear, ← es, h.2.2.2.2.1, h.2.2.2.2.2.2]
    unfold f3
    have q : (7 : Int32) * ((4 : Int32) - (3 : Int32)) = (7 : Int32) := by decide
    rw [if_neg (by decide), if_pos (by decide), if_pos (by decide), q]
    rfl
  · rw [← ear, ← es, h.2.2.2.2.1, h.2.2.2.2.2.2]
    unfold f3
    have q : (7 : Int32) * ((4 : Int32) - (3 : Int32)) = (7 : Int32) := by decide
    rw [if_neg (by decide), if_pos (by decide), if_pos (by decide), q]
    rfl
theorem own_c_3_5 (v b s : Int32) (ar : Nat → Int32) (es : f1 v = s) (ear : f2_3_ar_a1 v (updI (updI (updI (updI (updI (updI (updI (updI (updI (updI (fun _ => (0 : Int32)) 0 (nar .byte b)) 1 (nar .byte b)) 2 (nar .byte b)) 3 (nar .byte b)) 4 (nar .byte b)) 5 (nar .byte b)) 6 (nar .byte b)) 7 (nar .byte b)) 8 (nar .byte b)) 9 (nar .byte b)) = ar) : ar 5 = f3 (5 : Int32) (3 : Int32) s v b := by
  rcases own_w_3 v (updI (updI (updI (updI (updI (updI (updI (updI (updI (updI (fun _ => (0 : Int32)) 0 (nar .byte b)) 1 (nar .byte b)) 2 (nar .byte b)) 3 (nar .byte b)) 4 (nar .byte b)) 5 (nar .byte b)) 6 (nar .byte b)) 7 (nar .byte b)) 8 (nar .byte b)) 9 (nar .byte b)) with h | h | h | h | h
  · rw [← ear, ← es, h.2.1, h.2.2.2]
    unfold f3
    rw [if_neg (by decide), if_neg (by decide)]
    rfl
  · rw [← ear, ← es, h.2.2.1, h.2.2.2.2]
    unfold f3
    rw [if_neg (by decide), if_neg (by decide)]
    rfl
  · rw [← ear, ← es, h.2.2.2.1, h.2.2.2.2.2]
    unfold f3
    have q : (7 : Int32) * ((5 : Int32) - (3 : Int32)) = (14 : Int32) := by decide
    rw [if_neg (by decide), if_pos (by decide), if_neg (by decide), q, own_lo _ ((own_y3 _).trans h.2.2.1)]
    rfl
  · rw [← ear, ← es, h.2.2.2.2.1, h.2.2.2.2.2.2]
    unfold f3
    have q : (7 : Int32) * ((5 : Int32) - (3 : Int32)) = (14 : Int32) := by decide
    rw [if_neg (by decide), if_pos (by decide), if_pos (by decide), q]
    rfl
  · rw [← ear, ← es, h.2.2.2.2.1, h.2.2.2.2.2.2]
    unfold f3
    have q : (7 : Int32) * ((5 : Int32) - (3 : Int32)) = (14 : Int32) := by decide
    rw [if_neg (by decide), if_pos (by decide), if_pos (by decide), q]
    rfl
theorem own_c_3_6 (v b s : Int32) (ar : Nat → Int32) (es : f1 v = s) (ear : f2_3_ar_a1 v (updI (updI (updI (updI (updI (updI (updI (updI (updI (updI (fun _ => (0 : Int32)) 0 (nar .byte b)) 1 (nar .byte b)) 2 (nar .byte b)) 3 (nar .byte b)) 4 (nar .byte b)) 5 (nar .byte b)) 6 (nar .byte b)) 7 (nar .byte b)) 8 (nar .byte b)) 9 (nar .byte b)) = ar) : ar 6 = f3 (6 : Int32) (3 : Int32) s v b := by
  rcases own_w_3 v (updI (updI (updI (updI (updI (updI (updI (updI (updI (updI (fun _ => (0 : Int32)) 0 (nar .byte b)) 1 (nar .byte b)) 2 (nar .byte b)) 3 (nar .byte b)) 4 (nar .byte b)) 5 (nar .byte b)) 6 (nar .byte b)) 7 (nar .byte b)) 8 (nar .byte b)) 9 (nar .byte b)) with h | h | h | h | h
  · rw [← ear, ← es, h.2.1, h.2.2.2]
    unfold f3
    rw [if_neg (by decide), if_neg (by decide)]
    rfl
  · rw [← ear, ← es, h.2.2.1, h.2.2.2.2]
    unfold f3
    rw [if_neg (by decide), if_neg (by decide)]
    rfl
  · rw [← ear, ← es, h.2.2.2.1, h.2.2.2.2.2]
    unfold f3
    rw [if_neg (by decide), if_neg (by decide)]
    rfl
  · rw [← ear, ← es, h.2.2.2.2.1, h.2.2.2.2.2.2]
    unfold f3
    have q : (7 : Int32) * ((6 : Int32) - (3 : Int32)) = (21 : Int32) := by decide
    rw [if_neg (by decide), if_pos (by decide), if_neg (by decide), q, own_lo _ ((own_y4 _).trans h.2.2.2.1)]
    rfl
  · rw [← ear, ← es, h.2.2.2.2.1, h.2.2.2.2.2.2]
    unfold f3
    have q : (7 : Int32) * ((6 : Int32) - (3 : Int32)) = (21 : Int32) := by decide
    rw [if_neg (by decide), if_pos (by decide), if_pos (by decide), q]
    rfl
theorem own_c_3_7 (v b s : Int32) (ar : Nat → Int32) (es : f1 v = s) (ear : f2_3_ar_a1 v (updI (updI (updI (updI (updI (updI (updI (updI (updI (updI (fun _ => (0 : Int32)) 0 (nar .byte b)) 1 (nar .byte b)) 2 (nar .byte b)) 3 (nar .byte b)) 4 (nar .byte b)) 5 (nar .byte b)) 6 (nar .byte b)) 7 (nar .byte b)) 8 (nar .byte b)) 9 (nar .byte b)) = ar) : ar 7 = f3 (7 : Int32) (3 : Int32) s v b := by
  rcases own_w_3 v (updI (updI (updI (updI (updI (updI (updI (updI (updI (updI (fun _ => (0 : Int32)) 0 (nar .byte b)) 1 (nar .byte b)) 2 (nar .byte b)) 3 (nar .byte b)) 4 (nar .byte b)) 5 (nar .byte b)) 6 (nar .byte b)) 7 (nar .byte b)) 8 (nar .byte b)) 9 (nar .byte b)) with h | h | h | h | h
  · rw [← ear, ← es, h.2.1, h.2.2.2]
    unfold f3
    rw [if_neg (by decide), if_neg (by decide)]
    rfl
  · rw [← ear, ← es, h.2.2.1, h.2.2.2.2]
    unfold f3
    rw [if_neg (by decide), if_neg (by decide)]
    rfl
  · rw [← ear, ← es, h.2.2.2.1, h.2.2.2.2.2]
    unfold f3
    rw [if_neg (by decide), if_neg (by decide)]
    rfl
  · rw [← ear, ← es, h.2.2.2.2.1, h.2.2.2.2.2.2]
    unfold f3
    rw [if_neg (by decide), if_neg (by decide)]
    rfl
  · rw [← ear, ← es, h.2.2.2.2.1, h.2.2.2.2.2.2]
    unfold f3
    have q : (7 : Int32) * ((7 : Int32) - (3 : Int32)) = (28 : Int32) := by decide
    rw [if_neg (by decide), if_pos (by decide), if_neg (by decide), q, own_lo _ (own_y5 _)]
    rfl
theorem own_c_3_8 (v b s : Int32) (ar : Nat → Int32) (es : f1 v = s) (ear : f2_3_ar_a1 v (updI (updI (updI (updI (updI (updI (updI (updI (updI (updI (fun _ => (0 : Int32)) 0 (nar .byte b)) 1 (nar .byte b)) 2 (nar .byte b)) 3 (nar .byte b)) 4 (nar .byte b)) 5 (nar .byte b)) 6 (nar .byte b)) 7 (nar .byte b)) 8 (nar .byte b)) 9 (nar .byte b)) = ar) : ar 8 = f3 (8 : Int32) (3 : Int32) s v b := by
  rcases own_w_3 v (updI (updI (updI (updI (updI (updI (updI (updI (updI (updI (fun _ => (0 : Int32)) 0 (nar .byte b)) 1 (nar .byte b)) 2 (nar .byte b)) 3 (nar .byte b)) 4 (nar .byte b)) 5 (nar .byte b)) 6 (nar .byte b)) 7 (nar .byte b)) 8 (nar .byte b)) 9 (nar .byte b)) with h | h | h | h | h
  · rw [← ear, ← es, h.2.1, h.2.2.2]
    unfold f3
    rw [if_neg (by decide), if_neg (by decide)]
    rfl
  · rw [← ear, ← es, h.2.2.1, h.2.2.2.2]
    unfold f3
    rw [if_neg (by decide), if_neg (by decide)]
    rfl
  · rw [← ear, ← es, h.2.2.2.1, h.2.2.2.2.2]
    unfold f3
    rw [if_neg (by decide), if_neg (by decide)]
    rfl
  · rw [← ear, ← es, h.2.2.2.2.1, h.2.2.2.2.2.2]
    unfold f3
    rw [if_neg (by decide), if_neg (by decide)]
    rfl
  · rw [← ear, ← es, h.2.2.2.2.1, h.2.2.2.2.2.2]
    unfold f3
    rw [if_neg (by decide), if_neg (by decide)]
    rfl
theorem own_c_3_9 (v b s : Int32) (ar : Nat → Int32) (es : f1 v = s) (ear : f2_3_ar_a1 v (updI (updI (updI (updI (updI (updI (updI (updI (updI (updI (fun _ => (0 : Int32)) 0 (nar .byte b)) 1 (nar .byte b)) 2 (nar .byte b)) 3 (nar .byte b)) 4 (nar .byte b)) 5 (nar .byte b)) 6 (nar .byte b)) 7 (nar .byte b)) 8 (nar .byte b)) 9 (nar .byte b)) = ar) : ar 9 = f3 (9 : Int32) (3 : Int32) s v b := by
  rcases own_w_3 v (updI (updI (updI (updI (updI (updI (updI (updI (updI (updI (fun _ => (0 : Int32)) 0 (nar .byte b)) 1 (nar .byte b)) 2 (nar .byte b)) 3 (nar .byte b)) 4 (nar .byte b)) 5 (nar .byte b)) 6 (nar .byte b)) 7 (nar .byte b)) 8 (nar .byte b)) 9 (nar .byte b)) with h | h | h | h | h
  · rw [← ear, ← es, h.2.1, h.2.2.2]
    unfold f3
    rw [if_neg (by decide), if_neg (by decide)]
    rfl
  · rw [← ear, ← es, h.2.2.1, h.2.2.2.2]
    unfold f3
    rw [if_neg (by decide), if_neg (by decide)]
    rfl
  · rw [← ear, ← es, h.2.2.2.1, h.2.2.2.2.2]
    unfold f3
    rw [if_neg (by decide), if_neg (by decide)]
    rfl
  · rw [← ear, ← es, h.2.2.2.2.1, h.2.2.2.2.2.2]
    unfold f3
    rw [if_neg (by decide), if_neg (by decide)]
    rfl
  · rw [← ear, ← es, h.2.2.2.2.1, h.2.2.2.2.2.2]
    unfold f3
    rw [if_neg (by decide), if_neg (by decide)]
    rfl
set_option maxRecDepth 65536 in
set_option maxHeartbeats 40000000 in
theorem rm0 (l : Launch) (Z : State) (a0 : Array Value) (hw : ∀ d ∈ tables_1, d.before a0 Z = true) (p1 : Int32) (p2 : Int32) (p3 : Int32) (h0 : Heap) (n0 : Nat) (Zs : n0 ≤ h0.size) :
    Met1 l Z x code maxLocals ret room_1 #[(.int p1), (.int p2), (.int p3)] h0 (Q0 Z p1 p2 p3 h0 n0) := by
  refine own_met_of (plainFor_of_name pn_1) (ef_0 p1 p2 p3) ?_
  intro p e s m below meth c s₁ X hx hby hml hZ hown hnm hret hlk eT
  have hown : s.vm.findClass "com/example/kvadtree/kvadtree/FragmentsPutVarintPinLaw" = some m.cls := hown
  have N := Fr.nil n0
  have K := Keep.refl h0 []
  refine own_iloadN X hx hby p2 at_0 rfl 1 rfl ?_
  refine own_iconst X hx hby (3 : Int32) at_1 rfl 2 rfl ?_
  refine own_iand X hx hby at_2 3 rfl ?_
  obtain ⟨v3, e3⟩ : ∃ z : Int32, (p2 &&& (3 : Int32)) = z := ⟨_, rfl⟩
  refine own_istoreN X hx hby at_3 e3 (l' := #[.val (.int p1), .val (.int p2), .val (.int p3), .val (.int v3), .unset, .unset, .unset, .unset, .unset]) rfl 4 rfl ?_
  rcases (own_four _ _ e3 : v3 = (0 : Int32) ∨ v3 = (1 : Int32) ∨ v3 = (2 : Int32) ∨ v3 = (3 : Int32)) with rfl | rfl | rfl | rfl
  · skip
    refine own_iloadN X hx hby p3 at_4 rfl 5 rfl ?_
    refine own_i2b X hx hby at_5 6 rfl ?_
    obtain ⟨v6, e6⟩ : ∃ z : Int32, (p3.toInt8.toInt32) = z := ⟨_, rfl⟩
    refine own_istore X hx hby at_6 e6 (l' := #[.val (.int p1), .val (.int p2), .val (.int p3), .val (.int (0 : Int32)), .val (.int v6), .unset, .unset, .unset, .unset]) rfl 8 rfl ?_
    refine own_bipush X hx hby (10 : Int32) at_8 rfl 10 rfl ?_
    refine own_newarray X hx hby hZ (hw _ (List.mem_of_getElem? (i := 0) rfl)) eT at_10 (z := (10 : Int32)) (by decide) (n := 10) rfl (cap := 10) (by decide) (by decide) (by decide) (by decide) (ad := "[B") rfl 12 rfl ?_
    intro T10 h10 b10 gb10 X eT Ex A A2
    have g_b10 : n0 ≤ b10 := by rw [gb10]; exact Zs
    have sz_b10 : h0.size ≤ b10 := by rw [gb10]; exact K.1
    have A_b10 : Afi Z h10 b10 .byte 10 (fun _ => (0 : Int32)) := A
    have E_b10 := A2
    have K := K.ext Ex
    have Zs := Nat.le_trans Zs Ex.1
    refine own_dup X hx hby at_12 rfl 13 rfl ?_
    refine own_iconst X hx hby (0 : Int32) at_13 rfl 14 rfl ?_
    refine own_iload X hx hby v6 at_14 rfl 16 rfl ?_
    refine own_bastore X hx hby hZ eT A_b10 (by decide) at_16 17 rfl ?_
    intro T16 h16 X eT W A
    have E_b10 := E_b10.wr W
    have A_b10 : Afi Z h16 b10 .byte 10 (updI (fun _ => (0 : Int32)) 0 (nar .byte v6)) := A
    have N := Fr.snoc X N g_b10
    have K := K.wr W (Or.inr sz_b10)
    have Zs := Nat.le_trans Zs (Keep.of_wr W).1
    refine own_dup X hx hby at_17 rfl 18 rfl ?_
    refine own_iconst X hx hby (1 : Int32) at_18 rfl 19 rfl ?_
    refine own_iload X hx hby v6 at_19 rfl 21 rfl ?_
    refine own_bastore X hx hby hZ eT A_b10 (by decide) at_21 22 rfl ?_
    intro T21 h21 X eT W A
    have E_b10 := E_b10.wr W
    have A_b10 : Afi Z h21 b10 .byte 10 (updI (updI (fun _ => (0 : Int32)) 0 (nar .byte v6)) 1 (nar .byte v6)) := A
    have N := Fr.snoc X N g_b10
    have K := K.wr W (Or.inr sz_b10)
    have Zs := Nat.le_trans Zs (Keep.of_wr W).1
    refine own_dup X hx hby at_22 rfl 23 rfl ?_
    refine own_iconst X hx hby (2 : Int32) at_23 rfl 24 rfl ?_
    refine own_iload X hx hby v6 at_24 rfl 26 rfl ?_
    refine own_bastore X hx hby hZ eT A_b10 (by decide) at_26 27 rfl ?_
    intro T26 h26 X eT W A
    have E_b10 := E_b10.wr W
    have A_b10 : Afi Z h26 b10 .byte 10 (updI (updI (updI (fun _ => (0 : Int32)) 0 (nar .byte v6)) 1 (nar .byte v6)) 2 (nar .byte v6)) := A
    have N := Fr.snoc X N g_b10
    have K := K.wr W (Or.inr sz_b10)
    have Zs := Nat.le_trans Zs (Keep.of_wr W).1
    refine own_dup X hx hby at_27 rfl 28 rfl ?_
    refine own_iconst X hx hby (3 : Int32) at_28 rfl 29 rfl ?_
    refine own_iload X hx hby v6 at_29 rfl 31 rfl ?_
    refine own_bastore X hx hby hZ eT A_b10 (by decide) at_31 32 rfl ?_
    intro T31 h31 X eT W A
    have E_b10 := E_b10.wr W
    have A_b10 : Afi Z h31 b10 .byte 10 (updI (updI (updI (updI (fun _ => (0 : Int32)) 0 (nar .byte v6)) 1 (nar .byte v6)) 2 (nar .byte v6)) 3 (nar .byte v6)) := A
    have N := Fr.snoc X N g_b10
    have K := K.wr W (Or.inr sz_b10)
    have Zs := Nat.le_trans Zs (Keep.of_wr W).1
    refine own_dup X hx hby at_32 rfl 33 rfl ?_
    refine own_iconst X hx hby (4 : Int32) at_33 rfl 34 rfl ?_
    refine own_iload X hx hby v6 at_34 rfl 36 rfl ?_
    refine own_bastore X hx hby hZ eT A_b10 (by decide) at_36 37 rfl ?_
    intro T36 h36 X eT W A
    have E_b10 := E_b10.wr W
    have A_b10 : Afi Z h36 b10 .byte 10 (updI (updI (updI (updI (updI (fun _ => (0 : Int32)) 0 (nar .byte v6)) 1 (nar .byte v6)) 2 (nar .byte v6)) 3 (nar .byte v6)) 4 (nar .byte v6)) := A
    have N := Fr.snoc X N g_b10
    have K := K.wr W (Or.inr sz_b10)
    have Zs := Nat.le_trans Zs (Keep.of_wr W).1
    refine own_dup X hx hby at_37 rfl 38 rfl ?_
    refine own_iconst X hx hby (5 : Int32) at_38 rfl 39 rfl ?_
    refine own_iload X hx hby v6 at_39 rfl 41 rfl ?_
    refine own_bastore X hx hby hZ eT A_b10 (by decide) at_41 42 rfl ?_
    intro T41 h41 X eT W A
    have E_b10 := E_b10.wr W
    have A_b10 : Afi Z h41 b10 .byte 10 (updI (updI (updI (updI (updI (updI (fun _ => (0 : Int32)) 0 (nar .byte v6)) 1 (nar .byte v6)) 2 (nar .byte v6)) 3 (nar .byte v6)) 4 (nar .byte v6)) 5 (nar .byte v6)) := A
    have N := Fr.snoc X N g_b10
    have K := K.wr W (Or.inr sz_b10)
    have Zs := Nat.le_trans Zs (Keep.of_wr W).1
    refine own_dup X hx hby at_42 rfl 43 rfl ?_
    refine own_bipush X hx hby (6 : Int32) at_43 rfl 45 rfl ?_
    refine own_iload X hx hby v6 at_45 rfl 47 rfl ?_
    refine own_bastore X hx hby hZ eT A_b10 (by decide) at_47 48 rfl ?_
    intro T47 h47 X eT W A
    have E_b10 := E_b10.wr W
    have A_b10 : Afi Z h47 b10 .byte 10 (updI (updI (updI (updI (updI (updI (updI (fun _ => (0 : Int32)) 0 (nar .byte v6)) 1 (nar .byte v6)) 2 (nar .byte v6)) 3 (nar .byte v6)) 4 (nar .byte v6)) 5 (nar .byte v6)) 6 (nar .byte v6)) := A
    have N := Fr.snoc X N g_b10
    have K := K.wr W (Or.inr sz_b10)
    have Zs := Nat.le_trans Zs (Keep.of_wr W).1
    refine own_dup X hx hby at_48 rfl 49 rfl ?_
    refine own_bipush X hx hby (7 : Int32) at_49 rfl 51 rfl ?_
    refine own_iload X hx hby v6 at_51 rfl 53 rfl ?_
    refine own_bastore X hx hby hZ eT A_b10 (by decide) at_53 54 rfl ?_
    intro T53 h53 X eT W A
    have E_b10 := E_b10.wr W
    have A_b10 : Afi Z h53 b10 .byte 10 (updI (updI (updI (updI (updI (updI (updI (updI (fun _ => (0 : Int32)) 0 (nar .byte v6)) 1 (nar .byte v6)) 2 (nar .byte v6)) 3 (nar .byte v6)) 4 (nar .byte v6)) 5 (nar .byte v6)) 6 (nar .byte v6)) 7 (nar .byte v6)) := A
    have N := Fr.snoc X N g_b10
    have K := K.wr W (Or.inr sz_b10)
    have Zs := Nat.le_trans Zs (Keep.of_wr W).1
    refine own_dup X hx hby at_54 rfl 55 rfl ?_
    refine own_bipush X hx hby (8 : Int32) at_55 rfl 57 rfl ?_
    refine own_iload X hx hby v6 at_57 rfl 59 rfl ?_
    refine own_bastore X hx hby hZ eT A_b10 (by decide) at_59 60 rfl ?_
    intro T59 h59 X eT W A
    have E_b10 := E_b10.wr W
    have A_b10 : Afi Z h59 b10 .byte 10 (updI (updI (updI (updI (updI (updI (updI (updI (updI (fun _ => (0 : Int32)) 0 (nar .byte v6)) 1 (nar .byte v6)) 2 (nar .byte v6)) 3 (nar .byte v6)) 4 (nar .byte v6)) 5 (nar .byte v6)) 6 (nar .byte v6)) 7 (nar .byte v6)) 8 (nar .byte v6)) := A
    have N := Fr.snoc X N g_b10
    have K := K.wr W (Or.inr sz_b10)
    have Zs := Nat.le_trans Zs (Keep.of_wr W).1
    refine own_dup X hx hby at_60 rfl 61 rfl ?_
    refine own_bipush X hx hby (9 : Int32) at_61 rfl 63 rfl ?_
    refine own_iload X hx hby v6 at_63 rfl 65 rfl ?_
    refine own_bastore X hx hby hZ eT A_b10 (by decide) at_65 66 rfl ?_
    intro T65 h65 X eT W A
    have E_b10 := E_b10.wr W
    have A_b10 : Afi Z h65 b10 .byte 10 (updI (updI (updI (updI (updI (updI (updI (updI (updI (updI (fun _ => (0 : Int32)) 0 (nar .byte v6)) 1 (nar .byte v6)) 2 (nar .byte v6)) 3 (nar .byte v6)) 4 (nar .byte v6)) 5 (nar .byte v6)) 6 (nar .byte v6)) 7 (nar .byte v6)) 8 (nar .byte v6)) 9 (nar .byte v6)) := A
    have N := Fr.snoc X N g_b10
    have K := K.wr W (Or.inr sz_b10)
    have Zs := Nat.le_trans Zs (Keep.of_wr W).1
    refine own_astore X hx hby at_66 rfl (l' := #[.val (.int p1), .val (.int p2), .val (.int p3), .val (.int (0 : Int32)), .val (.int v6), .val (.ref b10), .unset, .unset, .unset]) rfl 68 rfl ?_
    refine own_iloadN X hx hby p1 at_68 rfl 69 rfl ?_
    refine own_callS X hx hby hZ (st := []) [(.int p1)] rfl hown (hw _ (List.mem_of_getElem? (i := 1) rfl)) (hw _ (List.mem_of_getElem? (i := 2) rfl)) (hw _ (List.mem_of_getElem? (i := 3) rfl)) (hw _ (List.mem_of_getElem? (i := 4) rfl)) (by decide) at_69 (rm1 l Z a0 hw p1 h65 n0 Zs ) eT pd_0 rfl (by rw [hml]; rfl) (by decide) 0 rfl (by decide) (by decide) (by decide) 72 rfl ?_
    intro T69 L9 v9 X hQ
    obtain ⟨rfl, N9, eT⟩ := hQ
    have N := Fr.app N N9
    show Go p e below _ T69 (mkF m 72 #[.val (.int p1), .val (.int p2), .val (.int p3), .val (.int (0 : Int32)), .val (.int v6), .val (.ref b10), .unset, .unset, .unset] [(.int (f1 p1))])
    obtain ⟨v72, e72⟩ : ∃ z : Int32, (f1 p1) = z := ⟨_, rfl⟩
    refine own_istore X hx hby at_72 e72 (l' := #[.val (.int p1), .val (.int p2), .val (.int p3), .val (.int (0 : Int32)), .val (.int v6), .val (.ref b10), .val (.int v72), .unset, .unset]) rfl 74 rfl ?_
    refine own_aload X hx hby (.ref b10) at_74 rfl rfl 76 rfl ?_
    refine own_iloadN X hx hby (0 : Int32) at_76 rfl 77 rfl ?_
    refine own_iloadN X hx hby p1 at_77 rfl 78 rfl ?_
    refine own_callS X hx hby hZ (st := []) [(.ref b10), (.int (0 : Int32)), (.int p1)] rfl hown (hw _ (List.mem_of_getElem? (i := 5) rfl)) (hw _ (List.mem_of_getElem? (i := 6) rfl)) (hw _ (List.mem_of_getElem? (i := 7) rfl)) (hw _ (List.mem_of_getElem? (i := 8) rfl)) (by decide) at_78 (rm2_0 l Z a0 hw b10 p1 (updI (updI (updI (updI (updI (updI (updI (updI (updI (updI (fun _ => (0 : Int32)) 0 (nar .byte v6)) 1 (nar .byte v6)) 2 (nar .byte v6)) 3 (nar .byte v6)) 4 (nar .byte v6)) 5 (nar .byte v6)) 6 (nar .byte v6)) 7 (nar .byte v6)) 8 (nar .byte v6)) 9 (nar .byte v6)) h65 n0 Zs A_b10 E_b10 g_b10) eT pd_2 rfl (by rw [hml]; rfl) (by decide) 0 rfl (by decide) (by decide) (by decide) 81 rfl ?_
    intro T78 L9 v9 X hQ
    obtain ⟨h78, eT⟩ : ∃ z, T78.heap = z := ⟨_, rfl⟩
    rw [eT] at hQ
    obtain ⟨rfl, N9, Kc, A_b10, E_b10⟩ := hQ
    obtain ⟨ar78, ear78⟩ : ∃ z : Nat → Int32, (f2_0_ar_a1 p1 (updI (updI (updI (updI (updI (updI (updI (updI (updI (updI (fun _ => (0 : Int32)) 0 (nar .byte v6)) 1 (nar .byte v6)) 2 (nar .byte v6)) 3 (nar .byte v6)) 4 (nar .byte v6)) 5 (nar .byte v6)) 6 (nar .byte v6)) 7 (nar .byte v6)) 8 (nar .byte v6)) 9 (nar .byte v6))) = z := ⟨_, rfl⟩
    rw [ear78] at A_b10
    have K := K.trans Kc (allS (Or.inr sz_b10) all0)
    have Zs := Nat.le_trans Zs Kc.1
    have N := Fr.app N N9
    show Go p e below _ T78 (mkF m 81 #[.val (.int p1), .val (.int p2), .val (.int p3), .val (.int (0 : Int32)), .val (.int v6), .val (.ref b10), .val (.int v72), .unset, .unset] [(.int (f2_0 p1))])
    obtain ⟨v81, e81⟩ : ∃ z : Int32, (f2_0 p1) = z := ⟨_, rfl⟩
    refine own_istore X hx hby at_81 e81 (l' := #[.val (.int p1), .val (.int p2), .val (.int p3), .val (.int (0 : Int32)), .val (.int v6), .val (.ref b10), .val (.int v72), .val (.int v81), .unset]) rfl 83 rfl ?_
    refine own_iload X hx hby v81 at_83 rfl 85 rfl ?_
    refine own_iloadN X hx hby (0 : Int32) at_85 rfl 86 rfl ?_
    refine own_iload X hx hby v72 at_86 rfl 88 rfl ?_
    refine own_iadd X hx hby at_88 89 rfl ?_
    have c89 : v81 = ((0 : Int32) + v72) := own_r_0 _ _ _ e72 e81
    refine own_icmp_ne X hx hby at_89 96 92 (by decide) rfl (fun q => absurd c89 q) (fun _ => ?_)
    refine own_iconst X hx hby (1 : Int32) at_92 rfl 93 rfl ?_
    refine own_goto X hx hby at_93 97 (by decide) ?_
    refine own_istore X hx hby at_97 rfl (l' := #[.val (.int p1), .val (.int p2), .val (.int p3), .val (.int (0 : Int32)), .val (.int v6), .val (.ref b10), .val (.int v72), .val (.int v81), .val (.int (1 : Int32))]) rfl 99 rfl ?_
    refine own_iload X hx hby (1 : Int32) at_99 rfl 101 rfl ?_
    have c101 : ¬ (1 : Int32) = (0 : Int32) := by decide
    refine own_if_eq X hx hby at_101 125 104 (by decide) rfl (fun q => absurd q c101) (fun _ => ?_)
    refine own_aload X hx hby (.ref b10) at_104 rfl rfl 106 rfl ?_
    refine own_iconst X hx hby (0 : Int32) at_106 rfl 107 rfl ?_
    refine own_baload X hx hby hZ (ar78 0) eT A_b10 (by decide) rfl at_107 108 rfl ?_
    refine own_iconst X hx hby (0 : Int32) at_108 rfl 109 rfl ?_
    refine own_iloadN X hx hby (0 : Int32) at_109 rfl 110 rfl ?_
    refine own_iload X hx hby v72 at_110 rfl 112 rfl ?_
    refine own_iloadN X hx hby p1 at_112 rfl 113 rfl ?_
    refine own_iload X hx hby v6 at_113 rfl 115 rfl ?_
    refine own_callS X hx hby hZ (st := [(.int (ar78 0))]) [(.int (0 : Int32)), (.int (0 : Int32)), (.int v72), (.int p1), (.int v6)] rfl hown (hw _ (List.mem_of_getElem? (i := 9) rfl)) (hw _ (List.mem_of_getElem? (i := 10) rfl)) (hw _ (List.mem_of_getElem? (i := 3) rfl)) (hw _ (List.mem_of_getElem? (i := 11) rfl)) (by decide) at_115 (rm3 l Z a0 hw (0 : Int32) (0 : Int32) v72 p1 v6 h78 n0 Zs ) eT pd_1 rfl (by rw [hml]; rfl) (by decide) 1 rfl (by decide) (by decide) (by decide) 118 rfl ?_
    intro T115 L9 v9 X hQ
    obtain ⟨rfl, N9, eT⟩ := hQ
    have N := Fr.app N N9
    show Go p e below _ T115 (mkF m 118 #[.val (.int p1), .val (.int p2), .val (.int p3), .val (.int (0 : Int32)), .val (.int v6), .val (.ref b10), .val (.int v72), .val (.int v81), .val (.int (1 : Int32))] [(.int (f3 (0 : Int32) (0 : Int32) v72 p1 v6)), (.int (ar78 0))])
    have c118 : (ar78 0) = (f3 (0 : Int32) (0 : Int32) v72 p1 v6) := own_c_0_0 _ _ _ _ e72 ear78
    refine own_icmp_ne X hx hby at_118 125 121 (by decide) rfl (fun q => absurd c118 q) (fun _ => ?_)
    refine own_iconst X hx hby (1 : Int32) at_121 rfl 122 rfl ?_
    refine own_goto X hx hby at_122 126 (by decide) ?_
    refine own_istore X hx hby at_126 rfl (l' := #[.val (.int p1), .val (.int p2), .val (.int p3), .val (.int (0 : Int32)), .val (.int v6), .val (.ref b10), .val (.int v72), .val (.int v81), .val (.int (1 : Int32))]) rfl 128 rfl ?_
    refine own_iload X hx hby (1 : Int32) at_128 rfl 130 rfl ?_
    have c130 : ¬ (1 : Int32) = (0 : Int32) := by decide
    refine own_if_eq X hx hby at_130 154 133 (by decide) rfl (fun q => absurd q c130) (fun _ => ?_)
    refine own_aload X hx hby (.ref b10) at_133 rfl rfl 135 rfl ?_
    refine own_iconst X hx hby (1 : Int32) at_135 rfl 136 rfl ?_
    refine own_baload X hx hby hZ (ar78 1) eT A_b10 (by decide) rfl at_136 137 rfl ?_
    refine own_iconst X hx hby (1 : Int32) at_137 rfl 138 rfl ?_
    refine own_iloadN X hx hby (0 : Int32) at_138 rfl 139 rfl ?_
    refine own_iload X hx hby v72 at_139 rfl 141 rfl ?_
    refine own_iloadN X hx hby p1 at_141 rfl 142 rfl ?_
    refine own_iload X hx hby v6 at_142 rfl 144 rfl ?_
    refine own_callS X hx hby hZ (st := [(.int (ar78 1))]) [(.int (1 : Int32)), (.int (0 : Int32)), (.int v72), (.int p1), (.int v6)] rfl hown (hw _ (List.mem_of_getElem? (i := 9) rfl)) (hw _ (List.mem_of_getElem? (i := 10) rfl)) (hw _ (List.mem_of_getElem? (i := 3) rfl)) (hw _ (List.mem_of_getElem? (i := 11) rfl)) (by decide) at_144 (rm3 l Z a0 hw (1 : Int32) (0 : Int32) v72 p1 v6 h78 n0 Zs ) eT pd_1 rfl (by rw [hml]; rfl) (by decide) 1 rfl (by decide) (by decide) (by decide) 147 rfl ?_
    intro T144 L9 v9 X hQ
    obtain ⟨rfl, N9, eT⟩ := hQ
    have N := Fr.app N N9
    show Go p e below _ T144 (mkF m 147 #[.val (.int p1), .val (.int p2), .val (.int p3), .val (.int (0 : Int32)), .val (.int v6), .val (.ref b10), .val (.int v72), .val (.int v81), .val (.int (1 : Int32))] [(.int (f3 (1 : Int32) (0 : Int32) v72 p1 v6)), (.int (ar78 1))])
    have c147 : (ar78 1) = (f3 (1 : Int32) (0 : Int32) v72 p1 v6) := own_c_0_1 _ _ _ _ e72 ear78
    refine own_icmp_ne X hx hby at_147 154 150 (by decide) rfl (fun q => absurd c147 q) (fun _ => ?_)
    refine own_iconst X hx hby (1 : Int32) at_150 rfl 151 rfl ?_
    refine own_goto X hx hby at_151 155 (by decide) ?_
    refine own_istore X hx hby at_155 rfl (l' := #[.val (.int p1), .val (.int p2), .val (.int p3), .val (.int (0 : Int32)), .val (.int v6), .val (.ref b10), .val (.int v72), .val (.int v81), .val (.int (1 : Int32))]) rfl 157 rfl ?_
    refine own_iload X hx hby (1 : Int32) at_157 rfl 159 rfl ?_
    have c159 : ¬ (1 : Int32) = (0 : Int32) := by decide
    refine own_if_eq X hx hby at_159 183 162 (by decide) rfl (fun q => absurd q c159) (fun _ => ?_)
    refine own_aload X hx hby (.ref b10) at_162 rfl rfl 164 rfl ?_
    refine own_iconst X hx hby (2 : Int32) at_164 rfl 165 rfl ?_
    refine own_baload X hx hby hZ (ar78 2) eT A_b10 (by decide) rfl at_165 166 rfl ?_
    refine own_iconst X hx hby (2 : Int32) at_166 rfl 167 rfl ?_
    refine own_iloadN X hx hby (0 : Int32) at_167 rfl 168 rfl ?_
    refine own_iload X hx hby v72 at_168 rfl 170 rfl ?_
    refine own_iloadN X hx hby p1 at_170 rfl 171 rfl ?_
    refine own_iload X hx hby v6 at_171 rfl 173 rfl ?_
    refine own_callS X hx hby hZ (st := [(.int (ar78 2))]) [(.int (2 : Int32)), (.int (0 : Int32)), (.int v72), (.int p1), (.int v6)] rfl hown (hw _ (List.mem_of_getElem? (i := 9) rfl)) (hw _ (List.mem_of_getElem? (i := 10) rfl)) (hw _ (List.mem_of_getElem? (i := 3) rfl)) (hw _ (List.mem_of_getElem? (i := 11) rfl)) (by decide) at_173 (rm3 l Z a0 hw (2 : Int32) (0 : Int32) v72 p1 v6 h78 n0 Zs ) eT pd_1 rfl (by rw [hml]; rfl) (by decide) 1 rfl (by decide) (by decide) (by decide) 176 rfl ?_
    intro T173 L9 v9 X hQ
    obtain ⟨rfl, N9, eT⟩ := hQ
    have N := Fr.app N N9
    show Go p e below _ T173 (mkF m 176 #[.val (.int p1), .val (.int p2), .val (.int p3), .val (.int (0 : Int32)), .val (.int v6), .val (.ref b10), .val (.int v72), .val (.int v81), .val (.int (1 : Int32))] [(.int (f3 (2 : Int32) (0 : Int32) v72 p1 v6)), (.int (ar78 2))])
    have c176 : (ar78 2) = (f3 (2 : Int32) (0 : Int32) v72 p1 v6) := own_c_0_2 _ _ _ _ e72 ear78
    refine own_icmp_ne X hx hby at_176 183 179 (by decide) rfl (fun q => absurd c176 q) (fun _ => ?_)
    refine own_iconst X hx hby (1 : Int32) at_179 rfl 180 rfl ?_
    refine own_goto X hx hby at_180 184 (by decide) ?_
    refine own_istore X hx hby at_184 rfl (l' := #[.val (.int p1), .val (.int p2), .val (.int p3), .val (.int (0 : Int32)), .val (.int v6), .val (.ref b10), .val (.int v72), .val (.int v81), .val (.int (1 : Int32))]) rfl 186 rfl ?_
    refine own_iload X hx hby (1 : Int32) at_186 rfl 188 rfl ?_
    have c188 : ¬ (1 : Int32) = (0 : Int32) := by decide
    refine own_if_eq X hx hby at_188 212 191 (by decide) rfl (fun q => absurd q c188) (fun _ => ?_)
    refine own_aload X hx hby (.ref b10) at_191 rfl rfl 193 rfl ?_
    refine own_iconst X hx hby (3 : Int32) at_193 rfl 194 rfl ?_
    refine own_baload X hx hby hZ (ar78 3) eT A_b10 (by decide) rfl at_194 195 rfl ?_
    refine own_iconst X hx hby (3 : Int32) at_195 rfl 196 rfl ?_
    refine own_iloadN X hx hby (0 : Int32) at_196 rfl 197 rfl ?_
    refine own_iload X hx hby v72 at_197 rfl 199 rfl ?_
    refine own_iloadN X hx hby p1 at_199 rfl 200 rfl ?_
    refine own_iload X hx hby v6 at_200 rfl 202 rfl ?_
    refine own_callS X hx hby hZ (st := [(.int (ar78 3))]) [(.int (3 : Int32)), (.int (0 : Int32)), (.int v72), (.int p1), (.int v6)] rfl hown (hw _ (List.mem_of_getElem? (i := 9) rfl)) (hw _ (List.mem_of_getElem? (i := 10) rfl)) (hw _ (List.mem_of_getElem? (i := 3) rfl)) (hw _ (List.mem_of_getElem? (i := 11) rfl)) (by decide) at_202 (rm3 l Z a0 hw (3 : Int32) (0 : Int32) v72 p1 v6 h78 n0 Zs ) eT pd_1 rfl (by rw [hml]; rfl) (by decide) 1 rfl (by decide) (by decide) (by decide) 205 rfl ?_
    intro T202 L9 v9 X hQ
    obtain ⟨rfl, N9, eT⟩ := hQ
    have N := Fr.app N N9
    show Go p e below _ T202 (mkF m 205 #[.val (.int p1), .val (.int p2), .val (.int p3), .val (.int (0 : Int32)), .val (.int v6), .val (.ref b10), .val (.int v72), .val (.int v81), .val (.int (1 : Int32))] [(.int (f3 (3 : Int32) (0 : Int32) v72 p1 v6)), (.int (ar78 3))])
    have c205 : (ar78 3) = (f3 (3 : Int32) (0 : Int32) v72 p1 v6) := own_c_0_3 _ _ _ _ e72 ear78
    refine own_icmp_ne X hx hby at_205 212 208 (by decide) rfl (fun q => absurd c205 q) (fun _ => ?_)
    refine own_iconst X hx hby (1 : Int32) at_208 rfl 209 rfl ?_
    refine own_goto X hx hby at_209 213 (by decide) ?_
    refine own_istore X hx hby at_213 rfl (l' := #[.val (.int p1), .val (.int p2), .val (.int p3), .val (.int (0 : Int32)), .val (.int v6), .val (.ref b10), .val (.int v72), .val (.int v81), .val (.int (1 : Int32))]) rfl 215 rfl ?_
    refine own_iload X hx hby (1 : Int32) at_215 rfl 217 rfl ?_
    have c217 : ¬ (1 : Int32) = (0 : Int32) := by decide
    refine own_if_eq X hx hby at_217 241 220 (by decide) rfl (fun q => absurd q c217) (fun _ => ?_)
    refine own_aload X hx hby (.ref b10) at_220 rfl rfl 222 rfl ?_
    refine own_iconst X hx hby (4 : Int32) at_222 rfl 223 rfl ?_
    refine own_baload X hx hby hZ (ar78 4) eT A_b10 (by decide) rfl at_223 224 rfl ?_
    refine own_iconst X hx hby (4 : Int32) at_224 rfl 225 rfl ?_
    refine own_iloadN X hx hby (0 : Int32) at_225 rfl 226 rfl ?_
    refine own_iload X hx hby v72 at_226 rfl 228 rfl ?_
    refine own_iloadN X hx hby p1 at_228 rfl 229 rfl ?_
    refine own_iload X hx hby v6 at_229 rfl 231 rfl ?_
    refine own_callS X hx hby hZ (st := [(.int (ar78 4))]) [(.int (4 : Int32)), (.int (0 : Int32)), (.int v72), (.int p1), (.int v6)] rfl hown (hw _ (List.mem_of_getElem? (i := 9) rfl)) (hw _ (List.mem_of_getElem? (i := 10) rfl)) (hw _ (List.mem_of_getElem? (i := 3) rfl)) (hw _ (List.mem_of_getElem? (i := 11) rfl)) (by decide) at_231 (rm3 l Z a0 hw (4 : Int32) (0 : Int32) v72 p1 v6 h78 n0 Zs ) eT pd_1 rfl (by rw [hml]; rfl) (by decide) 1 rfl (by decide) (by decide) (by decide) 234 rfl ?_
    intro T231 L9 v9 X hQ
    obtain ⟨rfl, N9, eT⟩ := hQ
    have N := Fr.app N N9
    show Go p e below _ T231 (mkF m 234 #[.val (.int p1), .val (.int p2), .val (.int p3), .val (.int (0 : Int32)), .val (.int v6), .val (.ref b10), .val (.int v72), .val (.int v81), .val (.int (1 : Int32))] [(.int (f3 (4 : Int32) (0 : Int32) v72 p1 v6)), (.int (ar78 4))])
    have c234 : (ar78 4) = (f3 (4 : Int32) (0 : Int32) v72 p1 v6) := own_c_0_4 _ _ _ _ e72 ear78
    refine own_icmp_ne X hx hby at_234 241 237 (by decide) rfl (fun q => absurd c234 q) (fun _ => ?_)
    refine own_iconst X hx hby (1 : Int32) at_237 rfl 238 rfl ?_
    refine own_goto X hx hby at_238 242 (by decide) ?_
    refine own_istore X hx hby at_242 rfl (l' := #[.val (.int p1), .val (.int p2), .val (.int p3), .val (.int (0 : Int32)), .val (.int v6), .val (.ref b10), .val (.int v72), .val (.int v81), .val (.int (1 : Int32))]) rfl 244 rfl ?_
    refine own_iload X hx hby (1 : Int32) at_244 rfl 246 rfl ?_
    have c246 : ¬ (1 : Int32) = (0 : Int32) := by decide
    refine own_if_eq X hx hby at_246 270 249 (by decide) rfl (fun q => absurd q c246) (fun _ => ?_)
    refine own_aload X hx hby (.ref b10) at_249 rfl rfl 251 rfl ?_
    refine own_iconst X hx hby (5 : Int32) at_251 rfl 252 rfl ?_
    refine own_baload X hx hby hZ (ar78 5) eT A_b10 (by decide) rfl at_252 253 rfl ?_
    refine own_iconst X hx hby (5 : Int32) at_253 rfl 254 rfl ?_
    refine own_iloadN X hx hby (0 : Int32) at_254 rfl 255 rfl ?_
    refine own_iload X hx hby v72 at_255 rfl 257 rfl ?_
    refine own_iloadN X hx hby p1 at_257 rfl 258 rfl ?_
    refine own_iload X hx hby v6 at_258 rfl 260 rfl ?_
    refine own_callS X hx hby hZ (st := [(.int (ar78 5))]) [(.int (5 : Int32)), (.int (0 : Int32)), (.int v72), (.int p1), (.int v6)] rfl hown (hw _ (List.mem_of_getElem? (i := 9) rfl)) (hw _ (List.mem_of_getElem? (i := 10) rfl)) (hw _ (List.mem_of_getElem? (i := 3) rfl)) (hw _ (List.mem_of_getElem? (i := 11) rfl)) (by decide) at_260 (rm3 l Z a0 hw (5 : Int32) (0 : Int32) v72 p1 v6 h78 n0 Zs ) eT pd_1 rfl (by rw [hml]; rfl) (by decide) 1 rfl (by decide) (by decide) (by decide) 263 rfl ?_
    intro T260 L9 v9 X hQ
    obtain ⟨rfl, N9, eT⟩ := hQ
    have N := Fr.app N N9
    show Go p e below _ T260 (mkF m 263 #[.val (.int p1), .val (.int p2), .val (.int p3), .val (.int (0 : Int32)), .val (.int v6), .val (.ref b10), .val (.int v72), .val (.int v81), .val (.int (1 : Int32))] [(.int (f3 (5 : Int32) (0 : Int32) v72 p1 v6)), (.int (ar78 5))])
    have c263 : (ar78 5) = (f3 (5 : Int32) (0 : Int32) v72 p1 v6) := own_c_0_5 _ _ _ _ e72 ear78
    refine own_icmp_ne X hx hby at_263 270 266 (by decide) rfl (fun q => absurd c263 q) (fun _ => ?_)
    refine own_iconst X hx hby (1 : Int32) at_266 rfl 267 rfl ?_
    refine own_goto X hx hby at_267 271 (by decide) ?_
    refine own_istore X hx hby at_271 rfl (l' := #[.val (.int p1), .val (.int p2), .val (.int p3), .val (.int (0 : Int32)), .val (.int v6), .val (.ref b10), .val (.int v72), .val (.int v81), .val (.int (1 : Int32))]) rfl 273 rfl ?_
    refine own_iload X hx hby (1 : Int32) at_273 rfl 275 rfl ?_
    have c275 : ¬ (1 : Int32) = (0 : Int32) := by decide
    refine own_if_eq X hx hby at_275 301 278 (by decide) rfl (fun q => absurd q c275) (fun _ => ?_)
    refine own_aload X hx hby (.ref b10) at_278 rfl rfl 280 rfl ?_
    refine own_bipush X hx hby (6 : Int32) at_280 rfl 282 rfl ?_
    refine own_baload X hx hby hZ (ar78 6) eT A_b10 (by decide) rfl at_282 283 rfl ?_
    refine own_bipush X hx hby (6 : Int32) at_283 rfl 285 rfl ?_
    refine own_iloadN X hx hby (0 : Int32) at_285 rfl 286 rfl ?_
    refine own_iload X hx hby v72 at_286 rfl 288 rfl ?_
    refine own_iloadN X hx hby p1 at_288 rfl 289 rfl ?_
    refine own_iload X hx hby v6 at_289 rfl 291 rfl ?_
    refine own_callS X hx hby hZ (st := [(.int (ar78 6))]) [(.int (6 : Int32)), (.int (0 : Int32)), (.int v72), (.int p1), (.int v6)] rfl hown (hw _ (List.mem_of_getElem? (i := 9) rfl)) (hw _ (List.mem_of_getElem? (i := 10) rfl)) (hw _ (List.mem_of_getElem? (i := 3) rfl)) (hw _ (List.mem_of_getElem? (i := 11) rfl)) (by decide) at_291 (rm3 l Z a0 hw (6 : Int32) (0 : Int32) v72 p1 v6 h78 n0 Zs ) eT pd_1 rfl (by rw [hml]; rfl) (by decide) 1 rfl (by decide) (by decide) (by decide) 294 rfl ?_
    intro T291 L9 v9 X hQ
    obtain ⟨rfl, N9, eT⟩ := hQ
    have N := Fr.app N N9
    show Go p e below _ T291 (mkF m 294 #[.val (.int p1), .val (.int p2), .val (.int p3), .val (.int (0 : Int32)), .val (.int v6), .val (.ref b10), .val (.int v72), .val (.int v81), .val (.int (1 : Int32))] [(.int (f3 (6 : Int32) (0 : Int32) v72 p1 v6)), (.int (ar78 6))])
    have c294 : (ar78 6) = (f3 (6 : Int32) (0 : Int32) v72 p1 v6) := own_c_0_6 _ _ _ _ e72 ear78
    refine own_icmp_ne X hx hby at_294 301 297 (by decide) rfl (fun q => absurd c294 q) (fun _ => ?_)
    refine own_iconst X hx hby (1 : Int32) at_297 rfl 298 rfl ?_
    refine own_goto X hx hby at_298 302 (by decide) ?_
    refine own_istore X hx hby at_302 rfl (l' := #[.val (.int p1), .val (.int p2), .val (.int p3), .val (.int (0 : Int32)), .val (.int v6), .val (.ref b10), .val (.int v72), .val (.int v81), .val (.int (1 : Int32))]) rfl 304 rfl ?_
    refine own_iload X hx hby (1 : Int32) at_304 rfl 306 rfl ?_
    have c306 : ¬ (1 : Int32) = (0 : Int32) := by decide
    refine own_if_eq X hx hby at_306 332 309 (by decide) rfl (fun q => absurd q c306) (fun _ => ?_)
    refine own_aload X hx hby (.ref b10) at_309 rfl rfl 311 rfl ?_
    refine own_bipush X hx hby (7 : Int32) at_311 rfl 313 rfl ?_
    refine own_baload X hx hby hZ (ar78 7) eT A_b10 (by decide) rfl at_313 314 rfl ?_
    refine own_bipush X hx hby (7 : Int32) at_314 rfl 316 rfl ?_
    refine own_iloadN X hx hby (0 : Int32) at_316 rfl 317 rfl ?_
    refine own_iload X hx hby v72 at_317 rfl 319 rfl ?_
    refine own_iloadN X hx hby p1 at_319 rfl 320 rfl ?_
    refine own_iload X hx hby v6 at_320 rfl 322 rfl ?_
    refine own_callS X hx hby hZ (st := [(.int (ar78 7))]) [(.int (7 : Int32)), (.int (0 : Int32)), (.int v72), (.int p1), (.int v6)] rfl hown (hw _ (List.mem_of_getElem? (i := 9) rfl)) (hw _ (List.mem_of_getElem? (i := 10) rfl)) (hw _ (List.mem_of_getElem? (i := 3) rfl)) (hw _ (List.mem_of_getElem? (i := 11) rfl)) (by decide) at_322 (rm3 l Z a0 hw (7 : Int32) (0 : Int32) v72 p1 v6 h78 n0 Zs ) eT pd_1 rfl (by rw [hml]; rfl) (by decide) 1 rfl (by decide) (by decide) (by decide) 325 rfl ?_
    intro T322 L9 v9 X hQ
    obtain ⟨rfl, N9, eT⟩ := hQ
    have N := Fr.app N N9
    show Go p e below _ T322 (mkF m 325 #[.val (.int p1), .val (.int p2), .val (.int p3), .val (.int (0 : Int32)), .val (.int v6), .val (.ref b10), .val (.int v72), .val (.int v81), .val (.int (1 : Int32))] [(.int (f3 (7 : Int32) (0 : Int32) v72 p1 v6)), (.int (ar78 7))])
    have c325 : (ar78 7) = (f3 (7 : Int32) (0 : Int32) v72 p1 v6) := own_c_0_7 _ _ _ _ e72 ear78
    refine own_icmp_ne X hx hby at_325 332 328 (by decide) rfl (fun q => absurd c325 q) (fun _ => ?_)
    refine own_iconst X hx hby (1 : Int32) at_328 rfl 329 rfl ?_
    refine own_goto X hx hby at_329 333 (by decide) ?_
    refine own_istore X hx hby at_333 rfl (l' := #[.val (.int p1), .val (.int p2), .val (.int p3), .val (.int (0 : Int32)), .val (.int v6), .val (.ref b10), .val (.int v72), .val (.int v81), .val (.int (1 : Int32))]) rfl 335 rfl ?_
    refine own_iload X hx hby (1 : Int32) at_335 rfl 337 rfl ?_
    have c337 : ¬ (1 : Int32) = (0 : Int32) := by decide
    refine own_if_eq X hx hby at_337 363 340 (by decide) rfl (fun q => absurd q c337) (fun _ => ?_)
    refine own_aload X hx hby (.ref b10) at_340 rfl rfl 342 rfl ?_
    refine own_bipush X hx hby (8 : Int32) at_342 rfl 344 rfl ?_
    refine own_baload X hx hby hZ (ar78 8) eT A_b10 (by decide) rfl at_344 345 rfl ?_
    refine own_bipush X hx hby (8 : Int32) at_345 rfl 347 rfl ?_
    refine own_iloadN X hx hby (0 : Int32) at_347 rfl 348 rfl ?_
    refine own_iload X hx hby v72 at_348 rfl 350 rfl ?_
    refine own_iloadN X hx hby p1 at_350 rfl 351 rfl ?_
    refine own_iload X hx hby v6 at_351 rfl 353 rfl ?_
    refine own_callS X hx hby hZ (st := [(.int (ar78 8))]) [(.int (8 : Int32)), (.int (0 : Int32)), (.int v72), (.int p1), (.int v6)] rfl hown (hw _ (List.mem_of_getElem? (i := 9) rfl)) (hw _ (List.mem_of_getElem? (i := 10) rfl)) (hw _ (List.mem_of_getElem? (i := 3) rfl)) (hw _ (List.mem_of_getElem? (i := 11) rfl)) (by decide) at_353 (rm3 l Z a0 hw (8 : Int32) (0 : Int32) v72 p1 v6 h78 n0 Zs ) eT pd_1 rfl (by rw [hml]; rfl) (by decide) 1 rfl (by decide) (by decide) (by decide) 356 rfl ?_
    intro T353 L9 v9 X hQ
    obtain ⟨rfl, N9, eT⟩ := hQ
    have N := Fr.app N N9
    show Go p e below _ T353 (mkF m 356 #[.val (.int p1), .val (.int p2), .val (.int p3), .val (.int (0 : Int32)), .val (.int v6), .val (.ref b10), .val (.int v72), .val (.int v81), .val (.int (1 : Int32))] [(.int (f3 (8 : Int32) (0 : Int32) v72 p1 v6)), (.int (ar78 8))])
    have c356 : (ar78 8) = (f3 (8 : Int32) (0 : Int32) v72 p1 v6) := own_c_0_8 _ _ _ _ e72 ear78
    refine own_icmp_ne X hx hby at_356 363 359 (by decide) rfl (fun q => absurd c356 q) (fun _ => ?_)
    refine own_iconst X hx hby (1 : Int32) at_359 rfl 360 rfl ?_
    refine own_goto X hx hby at_360 364 (by decide) ?_
    refine own_istore X hx hby at_364 rfl (l' := #[.val (.int p1), .val (.int p2), .val (.int p3), .val (.int (0 : Int32)), .val (.int v6), .val (.ref b10), .val (.int v72), .val (.int v81), .val (.int (1 : Int32))]) rfl 366 rfl ?_
    refine own_iload X hx hby (1 : Int32) at_366 rfl 368 rfl ?_
    have c368 : ¬ (1 : Int32) = (0 : Int32) := by decide
    refine own_if_eq X hx hby at_368 394 371 (by decide) rfl (fun q => absurd q c368) (fun _ => ?_)
    refine own_aload X hx hby (.ref b10) at_371 rfl rfl 373 rfl ?_
    refine own_bipush X hx hby (9 : Int32) at_373 rfl 375 rfl ?_
    refine own_baload X hx hby hZ (ar78 9) eT A_b10 (by decide) rfl at_375 376 rfl ?_
    refine own_bipush X hx hby (9 : Int32) at_376 rfl 378 rfl ?_
    refine own_iloadN X hx hby (0 : Int32) at_378 rfl 379 rfl ?_
    refine own_iload X hx hby v72 at_379 rfl 381 rfl ?_
    refine own_iloadN X hx hby p1 at_381 rfl 382 rfl ?_
    refine own_iload X hx hby v6 at_382 rfl 384 rfl ?_
    refine own_callS X hx hby hZ (st := [(.int (ar78 9))]) [(.int (9 : Int32)), (.int (0 : Int32)), (.int v72), (.int p1), (.int v6)] rfl hown (hw _ (List.mem_of_getElem? (i := 9) rfl)) (hw _ (List.mem_of_getElem? (i := 10) rfl)) (hw _ (List.mem_of_getElem? (i := 3) rfl)) (hw _ (List.mem_of_getElem? (i := 11) rfl)) (by decide) at_384 (rm3 l Z a0 hw (9 : Int32) (0 : Int32) v72 p1 v6 h78 n0 Zs ) eT pd_1 rfl (by rw [hml]; rfl) (by decide) 1 rfl (by decide) (by decide) (by decide) 387 rfl ?_
    intro T384 L9 v9 X hQ
    obtain ⟨rfl, N9, eT⟩ := hQ
    have N := Fr.app N N9
    show Go p e below _ T384 (mkF m 387 #[.val (.int p1), .val (.int p2), .val (.int p3), .val (.int (0 : Int32)), .val (.int v6), .val (.ref b10), .val (.int v72), .val (.int v81), .val (.int (1 : Int32))] [(.int (f3 (9 : Int32) (0 : Int32) v72 p1 v6)), (.int (ar78 9))])
    have c387 : (ar78 9) = (f3 (9 : Int32) (0 : Int32) v72 p1 v6) := own_c_0_9 _ _ _ _ e72 ear78
    refine own_icmp_ne X hx hby at_387 394 390 (by decide) rfl (fun q => absurd c387 q) (fun _ => ?_)
    refine own_iconst X hx hby (1 : Int32) at_390 rfl 391 rfl ?_
    refine own_goto X hx hby at_391 395 (by decide) ?_
    refine own_istore X hx hby at_395 rfl (l' := #[.val (.int p1), .val (.int p2), .val (.int p3), .val (.int (0 : Int32)), .val (.int v6), .val (.ref b10), .val (.int v72), .val (.int v81), .val (.int (1 : Int32))]) rfl 397 rfl ?_
    refine own_iload X hx hby (1 : Int32) at_397 rfl 399 rfl ?_
    refine own_retN X hx hby hret hlk (t := .boolean) (z' := (1 : Int32)) (by simp) at_399 (by decide) (by decide) rfl ?_
    rw [eT]
    exact ⟨rfl, N⟩
  · skip
    refine own_iloadN X hx hby p3 at_4 rfl 5 rfl ?_
    refine own_i2b X hx hby at_5 6 rfl ?_
    obtain ⟨v6, e6⟩ : ∃ z : Int32, (p3.toInt8.toInt32) = z := ⟨_, rfl⟩
    refine own_istore X hx hby at_6 e6 (l' := #[.val (.int p1), .val (.int p2), .val (.int p3), .val (.int (1 : Int32)), .val (.int v6), .unset, .unset, .unset, .unset]) rfl 8 rfl ?_
    refine own_bipush X hx hby (10 : Int32) at_8 rfl 10 rfl ?_
    refine own_newarray X hx hby hZ (hw _ (List.mem_of_getElem? (i := 0) rfl)) eT at_10 (z := (10 : Int32)) (by decide) (n := 10) rfl (cap := 10) (by decide) (by decide) (by decide) (by decide) (ad := "[B") rfl 12 rfl ?_
    intro T10 h10 b10 gb10 X eT Ex A A2
    have g_b10 : n0 ≤ b10 := by rw [gb10]; exact Zs
    have sz_b10 : h0.size ≤ b10 := by rw [gb10]; exact K.1
    have A_b10 : Afi Z h10 b10 .byte 10 (fun _ => (0 : Int32)) := A
    have E_b10 := A2
    have K := K.ext Ex
    have Zs := Nat.le_trans Zs Ex.1
    refine own_dup X hx hby at_12 rfl 13 rfl ?_
    refine own_iconst X hx hby (0 : Int32) at_13 rfl 14 rfl ?_
    refine own_iload X hx hby v6 at_14 rfl 16 rfl ?_
    refine own_bastore X hx hby hZ eT A_b10 (by decide) at_16 17 rfl ?_
    intro T16 h16 X eT W A
    have E_b10 := E_b10.wr W
    have A_b10 : Afi Z h16 b10 .byte 10 (updI (fun _ => (0 : Int32)) 0 (nar .byte v6)) := A
    have N := Fr.snoc X N g_b10
    have K := K.wr W (Or.inr sz_b10)
    have Zs := Nat.le_trans Zs (Keep.of_wr W).1
    refine own_dup X hx hby at_17 rfl 18 rfl ?_
    refine own_iconst X hx hby (1 : Int32) at_18 rfl 19 rfl ?_
    refine own_iload X hx hby v6 at_19 rfl 21 rfl ?_
    refine own_bastore X hx hby hZ eT A_b10 (by decide) at_21 22 rfl ?_
    intro T21 h21 X eT W A
    have E_b10 := E_b10.wr W
    have A_b10 : Afi Z h21 b10 .byte 10 (updI (updI (fun _ => (0 : Int32)) 0 (nar .byte v6)) 1 (nar .byte v6)) := A
    have N := Fr.snoc X N g_b10
    have K := K.wr W (Or.inr sz_b10)
    have Zs := Nat.le_trans Zs (Keep.of_wr W).1
    refine own_dup X hx hby at_22 rfl 23 rfl ?_
    refine own_iconst X hx hby (2 : Int32) at_23 rfl 24 rfl ?_
    refine own_iload X hx hby v6 at_24 rfl 26 rfl ?_
    refine own_bastore X hx hby hZ eT A_b10 (by decide) at_26 27 rfl ?_
    intro T26 h26 X eT W A
    have E_b10 := E_b10.wr W
    have A_b10 : Afi Z h26 b10 .byte 10 (updI (updI (updI (fun _ => (0 : Int32)) 0 (nar .byte v6)) 1 (nar .byte v6)) 2 (nar .byte v6)) := A
    have N := Fr.snoc X N g_b10
    have K := K.wr W (Or.inr sz_b10)
    have Zs := Nat.le_trans Zs (Keep.of_wr W).1
    refine own_dup X hx hby at_27 rfl 28 rfl ?_
    refine own_iconst X hx hby (3 : Int32) at_28 rfl 29 rfl ?_
    refine own_iload X hx hby v6 at_29 rfl 31 rfl ?_
    refine own_bastore X hx hby hZ eT A_b10 (by decide) at_31 32 rfl ?_
    intro T31 h31 X eT W A
    have E_b10 := E_b10.wr W
    have A_b10 : Afi Z h31 b10 .byte 10 (updI (updI (updI (updI (fun _ => (0 : Int32)) 0 (nar .byte v6)) 1 (nar .byte v6)) 2 (nar .byte v6)) 3 (nar .byte v6)) := A
    have N := Fr.snoc X N g_b10
    have K := K.wr W (Or.inr sz_b10)
    have Zs := Nat.le_trans Zs (Keep.of_wr W).1
    refine own_dup X hx hby at_32 rfl 33 rfl ?_
    refine own_iconst X hx hby (4 : Int32) at_33 rfl 34 rfl ?_
    refine own_iload X hx hby v6 at_34 rfl 36 rfl ?_
    refine own_bastore X hx hby hZ eT A_b10 (by decide) at_36 37 rfl ?_
    intro T36 h36 X eT W A
    have E_b10 := E_b10.wr W
    have A_b10 : Afi Z h36 b10 .byte 10 (updI (updI (updI (updI (updI (fun _ => (0 : Int32)) 0 (nar .byte v6)) 1 (nar .byte v6)) 2 (nar .byte v6)) 3 (nar .byte v6)) 4 (nar .byte v6)) := A
    have N := Fr.snoc X N g_b10
    have K := K.wr W (Or.inr sz_b10)
    have Zs := Nat.le_trans Zs (Keep.of_wr W).1
    refine own_dup X hx hby at_37 rfl 38 rfl ?_
    refine own_iconst X hx hby (5 : Int32) at_38 rfl 39 rfl ?_
    refine own_iload X hx hby v6 at_39 rfl 41 rfl ?_
    refine own_bastore X hx hby hZ eT A_b10 (by decide) at_41 42 rfl ?_
    intro T41 h41 X eT W A
    have E_b10 := E_b10.wr W
    have A_b10 : Afi Z h41 b10 .byte 10 (updI (updI (updI (updI (updI (updI (fun _ => (0 : Int32)) 0 (nar .byte v6)) 1 (nar .byte v6)) 2 (nar .byte v6)) 3 (nar .byte v6)) 4 (nar .byte v6)) 5 (nar .byte v6)) := A
    have N := Fr.snoc X N g_b10
    have K := K.wr W (Or.inr sz_b10)
    have Zs := Nat.le_trans Zs (Keep.of_wr W).1
    refine own_dup X hx hby at_42 rfl 43 rfl ?_
    refine own_bipush X hx hby (6 : Int32) at_43 rfl 45 rfl ?_
    refine own_iload X hx hby v6 at_45 rfl 47 rfl ?_
    refine own_bastore X hx hby hZ eT A_b10 (by decide) at_47 48 rfl ?_
    intro T47 h47 X eT W A
    have E_b10 := E_b10.wr W
    have A_b10 : Afi Z h47 b10 .byte 10 (updI (updI (updI (updI (updI (updI (updI (fun _ => (0 : Int32)) 0 (nar .byte v6)) 1 (nar .byte v6)) 2 (nar .byte v6)) 3 (nar .byte v6)) 4 (nar .byte v6)) 5 (nar .byte v6)) 6 (nar .byte v6)) := A
    have N := Fr.snoc X N g_b10
    have K := K.wr W (Or.inr sz_b10)
    have Zs := Nat.le_trans Zs (Keep.of_wr W).1
    refine own_dup X hx hby at_48 rfl 49 rfl ?_
    refine own_bipush X hx hby (7 : Int32) at_49 rfl 51 rfl ?_
    refine own_iload X hx hby v6 at_51 rfl 53 rfl ?_
    refine own_bastore X hx hby hZ eT A_b10 (by decide) at_53 54 rfl ?_
    intro T53 h53 X eT W A
    have E_b10 := E_b10.wr W
    have A_b10 : Afi Z h53 b10 .byte 10 (updI (updI (updI (updI (updI (updI (updI (updI (fun _ => (0 : Int32)) 0 (nar .byte v6)) 1 (nar .byte v6)) 2 (nar .byte v6)) 3 (nar .byte v6)) 4 (nar .byte v6)) 5 (nar .byte v6)) 6 (nar .byte v6)) 7 (nar .byte v6)) := A
    have N := Fr.snoc X N g_b10
    have K := K.wr W (Or.inr sz_b10)
    have Zs := Nat.le_trans Zs (Keep.of_wr W).1
    refine own_dup X hx hby at_54 rfl 55 rfl ?_
    refine own_bipush X hx hby (8 : Int32) at_55 rfl 57 rfl ?_
    refine own_iload X hx hby v6 at_57 rfl 59 rfl ?_
    refine own_bastore X hx hby hZ eT A_b10 (by decide) at_59 60 rfl ?_
    intro T59 h59 X eT W A
    have E_b10 := E_b10.wr W
    have A_b10 : Afi Z h59 b10 .byte 10 (updI (updI (updI (updI (updI (updI (updI (updI (updI (fun _ => (0 : Int32)) 0 (nar .byte v6)) 1 (nar .byte v6)) 2 (nar .byte v6)) 3 (nar .byte v6)) 4 (nar .byte v6)) 5 (nar .byte v6)) 6 (nar .byte v6)) 7 (nar .byte v6)) 8 (nar .byte v6)) := A
    have N := Fr.snoc X N g_b10
    have K := K.wr W (Or.inr sz_b10)
    have Zs := Nat.le_trans Zs (Keep.of_wr W).1
    refine own_dup X hx hby at_60 rfl 61 rfl ?_
    refine own_bipush X hx hby (9 : Int32) at_61 rfl 63 rfl ?_
    refine own_iload X hx hby v6 at_63 rfl 65 rfl ?_
    refine own_bastore X hx hby hZ eT A_b10 (by decide) at_65 66 rfl ?_
    intro T65 h65 X eT W A
    have E_b10 := E_b10.wr W
    have A_b10 : Afi Z h65 b10 .byte 10 (updI (updI (updI (updI (updI (updI (updI (updI (updI (updI (fun _ => (0 : Int32)) 0 (nar .byte v6)) 1 (nar .byte v6)) 2 (nar .byte v6)) 3 (nar .byte v6)) 4 (nar .byte v6)) 5 (nar .byte v6)) 6 (nar .byte v6)) 7 (nar .byte v6)) 8 (nar .byte v6)) 9 (nar .byte v6)) := A
    have N := Fr.snoc X N g_b10
    have K := K.wr W (Or.inr sz_b10)
    have Zs := Nat.le_trans Zs (Keep.of_wr W).1
    refine own_astore X hx hby at_66 rfl (l' := #[.val (.int p1), .val (.int p2), .val (.int p3), .val (.int (1 : Int32)), .val (.int v6), .val (.ref b10), .unset, .unset, .unset]) rfl 68 rfl ?_
    refine own_iloadN X hx hby p1 at_68 rfl 69 rfl ?_
    refine own_callS X hx hby hZ (st := []) [(.int p1)] rfl hown (hw _ (List.mem_of_getElem? (i := 1) rfl)) (hw _ (List.mem_of_getElem? (i := 2) rfl)) (hw _ (List.mem_of_getElem? (i := 3) rfl)) (hw _ (List.mem_of_getElem? (i := 4) rfl)) (by decide) at_69 (rm1 l Z a0 hw p1 h65 n0 Zs ) eT pd_0 rfl (by rw [hml]; rfl) (by decide) 0 rfl (by decide) (by decide) (by decide) 72 rfl ?_
    intro T69 L9 v9 X hQ
    obtain ⟨rfl, N9, eT⟩ := hQ
    have N := Fr.app N N9
    show Go p e below _ T69 (mkF m 72 #[.val (.int p1), .val (.int p2), .val (.int p3), .val (.int (1 : Int32)), .val (.int v6), .val (.ref b10), .unset, .unset, .unset] [(.int (f1 p1))])
    obtain ⟨v72, e72⟩ : ∃ z : Int32, (f1 p1) = z := ⟨_, rfl⟩
    refine own_istore X hx hby at_72 e72 (l' := #[.val (.int p1), .val (.int p2), .val (.int p3), .val (.int (1 : Int32)), .val (.int v6), .val (.ref b10), .val (.int v72), .unset, .unset]) rfl 74 rfl ?_
    refine own_aload X hx hby (.ref b10) at_74 rfl rfl 76 rfl ?_
    refine own_iloadN X hx hby (1 : Int32) at_76 rfl 77 rfl ?_
    refine own_iloadN X hx hby p1 at_77 rfl 78 rfl ?_
    refine own_callS X hx hby hZ (st := []) [(.ref b10), (.int (1 : Int32)), (.int p1)] rfl hown (hw _ (List.mem_of_getElem? (i := 5) rfl)) (hw _ (List.mem_of_getElem? (i := 6) rfl)) (hw _ (List.mem_of_getElem? (i := 7) rfl)) (hw _ (List.mem_of_getElem? (i := 8) rfl)) (by decide) at_78 (rm2_1 l Z a0 hw b10 p1 (updI (updI (updI (updI (updI (updI (updI (updI (updI (updI (fun _ => (0 : Int32)) 0 (nar .byte v6)) 1 (nar .byte v6)) 2 (nar .byte v6)) 3 (nar .byte v6)) 4 (nar .byte v6)) 5 (nar .byte v6)) 6 (nar .byte v6)) 7 (nar .byte v6)) 8 (nar .byte v6)) 9 (nar .byte v6)) h65 n0 Zs A_b10 E_b10 g_b10) eT pd_2 rfl (by rw [hml]; rfl) (by decide) 0 rfl (by decide) (by decide) (by decide) 81 rfl ?_
    intro T78 L9 v9 X hQ
    obtain ⟨h78, eT⟩ : ∃ z, T78.heap = z := ⟨_, rfl⟩
    rw [eT] at hQ
    obtain ⟨rfl, N9, Kc, A_b10, E_b10⟩ := hQ
    obtain ⟨ar78, ear78⟩ : ∃ z : Nat → Int32, (f2_1_ar_a1 p1 (updI (updI (updI (updI (updI (updI (updI (updI (updI (updI (fun _ => (0 : Int32)) 0 (nar .byte v6)) 1 (nar .byte v6)) 2 (nar .byte v6)) 3 (nar .byte v6)) 4 (nar .byte v6)) 5 (nar .byte v6)) 6 (nar .byte v6)) 7 (nar .byte v6)) 8 (nar .byte v6)) 9 (nar .byte v6))) = z := ⟨_, rfl⟩
    rw [ear78] at A_b10
    have K := K.trans Kc (allS (Or.inr sz_b10) all0)
    have Zs := Nat.le_trans Zs Kc.1
    have N := Fr.app N N9
    show Go p e below _ T78 (mkF m 81 #[.val (.int p1), .val (.int p2), .val (.int p3), .val (.int (1 : Int32)), .val (.int v6), .val (.ref b10), .val (.int v72), .unset, .unset] [(.int (f2_1 p1))])
    obtain ⟨v81, e81⟩ : ∃ z : Int32, (f2_1 p1) = z := ⟨_, rfl⟩
    refine own_istore X hx hby at_81 e81 (l' := #[.val (.int p1), .val (.int p2), .val (.int p3), .val (.int (1 : Int32)), .val (.int v6), .val (.ref b10), .val (.int v72), .val (.int v81), .unset]) rfl 83 rfl ?_
    refine own_iload X hx hby v81 at_83 rfl 85 rfl ?_
    refine own_iloadN X hx hby (1 : Int32) at_85 rfl 86 rfl ?_
    refine own_iload X hx hby v72 at_86 rfl 88 rfl ?_
    refine own_iadd X hx hby at_88 89 rfl ?_
    have c89 : v81 = ((1 : Int32) + v72) := own_r_1 _ _ _ e72 e81
    refine own_icmp_ne X hx hby at_89 96 92 (by decide) rfl (fun q => absurd c89 q) (fun _ => ?_)
    refine own_iconst X hx hby (1 : Int32) at_92 rfl 93 rfl ?_
    refine own_goto X hx hby at_93 97 (by decide) ?_
    refine own_istore X hx hby at_97 rfl (l' := #[.val (.int p1), .val (.int p2), .val (.int p3), .val (.int (1 : Int32)), .val (.int v6), .val (.ref b10), .val (.int v72), .val (.int v81), .val (.int (1 : Int32))]) rfl 99 rfl ?_
    refine own_iload X hx hby (1 : Int32) at_99 rfl 101 rfl ?_
    have c101 : ¬ (1 : Int32) = (0 : Int32) := by decide
    refine own_if_eq X hx hby at_101 125 104 (by decide) rfl (fun q => absurd q c101) (fun _ => ?_)
    refine own_aload X hx hby (.ref b10) at_104 rfl rfl 106 rfl ?_
    refine own_iconst X hx hby (0 : Int32) at_106 rfl 107 rfl ?_
    refine own_baload X hx hby hZ (ar78 0) eT A_b10 (by decide) rfl at_107 108 rfl ?_
    refine own_iconst X hx hby (0 : Int32) at_108 rfl 109 rfl ?_
    refine own_iloadN X hx hby (1 : Int32) at_109 rfl 110 rfl ?_
    refine own_iload X hx hby v72 at_110 rfl 112 rfl ?_
    refine own_iloadN X hx hby p1 at_112 rfl 113 rfl ?_
    refine own_iload X hx hby v6 at_113 rfl 115 rfl ?_
    refine own_callS X hx hby hZ (st := [(.int (ar78 0))]) [(.int (0 : Int32)), (.int (1 : Int32)), (.int v72), (.int p1), (.int v6)] rfl hown (hw _ (List.mem_of_getElem? (i := 9) rfl)) (hw _ (List.mem_of_getElem? (i := 10) rfl)) (hw _ (List.mem_of_getElem? (i := 3) rfl)) (hw _ (List.mem_of_getElem? (i := 11) rfl)) (by decide) at_115 (rm3 l Z a0 hw (0 : Int32) (1 : Int32) v72 p1 v6 h78 n0 Zs ) eT pd_1 rfl (by rw [hml]; rfl) (by decide) 1 rfl (by decide) (by decide) (by decide) 118 rfl ?_
    intro T115 L9 v9 X hQ
    obtain ⟨rfl, N9, eT⟩ := hQ
    have N := Fr.app N N9
    show Go p e below _ T115 (mkF m 118 #[.val (.int p1), .val (.int p2), .val (.int p3), .val (.int (1 : Int32)), .val (.int v6), .val (.ref b10), .val (.int v72), .val (.int v81), .val (.int (1 : Int32))] [(.int (f3 (0 : Int32) (1 : Int32) v72 p1 v6)), (.int (ar78 0))])
    have c118 : (ar78 0) = (f3 (0 : Int32) (1 : Int32) v72 p1 v6) := own_c_1_0 _ _ _ _ e72 ear78
    refine own_icmp_ne X hx hby at_118 125 121 (by decide) rfl (fun q => absurd c118 q) (fun _ => ?_)
    refine own_iconst X hx hby (1 : Int32) at_121 rfl 122 rfl ?_
    refine own_goto X hx hby at_122 126 (by decide) ?_
    refine own_istore X hx hby at_126 rfl (l' := #[.val (.int p1), .val (.int p2), .val (.int p3), .val (.int (1 : Int32)), .val (.int v6), .val (.ref b10), .val (.int v72), .val (.int v81), .val (.int (1 : Int32))]) rfl 128 rfl ?_
    refine own_iload X hx hby (1 : Int32) at_128 rfl 130 rfl ?_
    have c130 : ¬ (1 : Int32) = (0 : Int32) := by decide
    refine own_if_eq X hx hby at_130 154 133 (by decide) rfl (fun q => absurd q c130) (fun _ => ?_)
    refine own_aload X hx hby (.ref b10) at_133 rfl rfl 135 rfl ?_
    refine own_iconst X hx hby (1 : Int32) at_135 rfl 136 rfl ?_
    refine own_baload X hx hby hZ (ar78 1) eT A_b10 (by decide) rfl at_136 137 rfl ?_
    refine own_iconst X hx hby (1 : Int32) at_137 rfl 138 rfl ?_
    refine own_iloadN X hx hby (1 : Int32) at_138 rfl 139 rfl ?_
    refine own_iload X hx hby v72 at_139 rfl 141 rfl ?_
    refine own_iloadN X hx hby p1 at_141 rfl 142 rfl ?_
    refine own_iload X hx hby v6 at_142 rfl 144 rfl ?_
    refine own_callS X hx hby hZ (st := [(.int (ar78 1))]) [(.int (1 : Int32)), (.int (1 : Int32)), (.int v72), (.int p1), (.int v6)] rfl hown (hw _ (List.mem_of_getElem? (i := 9) rfl)) (hw _ (List.mem_of_getElem? (i := 10) rfl)) (hw _ (List.mem_of_getElem? (i := 3) rfl)) (hw _ (List.mem_of_getElem? (i := 11) rfl)) (by decide) at_144 (rm3 l Z a0 hw (1 : Int32) (1 : Int32) v72 p1 v6 h78 n0 Zs ) eT pd_1 rfl (by rw [hml]; rfl) (by decide) 1 rfl (by decide) (by decide) (by decide) 147 rfl ?_
    intro T144 L9 v9 X hQ
    obtain ⟨rfl, N9, eT⟩ := hQ
    have N := Fr.app N N9
    show Go p e below _ T144 (mkF m 147 #[.val (.int p1), .val (.int p2), .val (.int p3), .val (.int (1 : Int32)), .val (.int v6), .val (.ref b10), .val (.int v72), .val (.int v81), .val (.int (1 : Int32))] [(.int (f3 (1 : Int32) (1 : Int32) v72 p1 v6)), (.int (ar78 1))])
    have c147 : (ar78 1) = (f3 (1 : Int32) (1 : Int32) v72 p1 v6) := own_c_1_1 _ _ _ _ e72 ear78
    refine own_icmp_ne X hx hby at_147 154 150 (by decide) rfl (fun q => absurd c147 q) (fun _ => ?_)
    refine own_iconst X hx hby (1 : Int32) at_150 rfl 151 rfl ?_
    refine own_goto X hx hby at_151 155 (by decide) ?_
    refine own_istore X hx hby at_155 rfl (l' := #[.val (.int p1), .val (.int p2), .val (.int p3), .val (.int (1 : Int32)), .val (.int v6), .val (.ref b10), .val (.int v72), .val (.int v81), .val (.int (1 : Int32))]) rfl 157 rfl ?_
    refine own_iload X hx hby (1 : Int32) at_157 rfl 159 rfl ?_
    have c159 : ¬ (1 : Int32) = (0 : Int32) := by decide
    refine own_if_eq X hx hby at_159 183 162 (by decide) rfl (fun q => absurd q c159) (fun _ => ?_)
    refine own_aload X hx hby (.ref b10) at_162 rfl rfl 164 rfl ?_
    refine own_iconst X hx hby (2 : Int32) at_164 rfl 165 rfl ?_
    refine own_baload X hx hby hZ (ar78 2) eT A_b10 (by decide) rfl at_165 166 rfl ?_
    refine own_iconst X hx hby (2 : Int32) at_166 rfl 167 rfl ?_
    refine own_iloadN X hx hby (1 : Int32) at_167 rfl 168 rfl ?_
    refine own_iload X hx hby v72 at_168 rfl 170 rfl ?_
    refine own_iloadN X hx hby p1 at_170 rfl 171 rfl ?_
    refine own_iload X hx hby v6 at_171 rfl 173 rfl ?_
    refine own_callS X hx hby hZ (st := [(.int (ar78 2))]) [(.int (2 : Int32)), (.int (1 : Int32)), (.int v72), (.int p1), (.int v6)] rfl hown (hw _ (List.mem_of_getElem? (i := 9) rfl)) (hw _ (List.mem_of_getElem? (i := 10) rfl)) (hw _ (List.mem_of_getElem? (i := 3) rfl)) (hw _ (List.mem_of_getElem? (i := 11) rfl)) (by decide) at_173 (rm3 l Z a0 hw (2 : Int32) (1 : Int32) v72 p1 v6 h78 n0 Zs ) eT pd_1 rfl (by rw [hml]; rfl) (by decide) 1 rfl (by decide) (by decide) (by decide) 176 rfl ?_
    intro T173 L9 v9 X hQ
    obtain ⟨rfl, N9, eT⟩ := hQ
    have N := Fr.app N N9
    show Go p e below _ T173 (mkF m 176 #[.val (.int p1), .val (.int p2), .val (.int p3), .val (.int (1 : Int32)), .val (.int v6), .val (.ref b10), .val (.int v72), .val (.int v81), .val (.int (1 : Int32))] [(.int (f3 (2 : Int32) (1 : Int32) v72 p1 v6)), (.int (ar78 2))])
    have c176 : (ar78 2) = (f3 (2 : Int32) (1 : Int32) v72 p1 v6) := own_c_1_2 _ _ _ _ e72 ear78
    refine own_icmp_ne X hx hby at_176 183 179 (by decide) rfl (fun q => absurd c176 q) (fun _ => ?_)
    refine own_iconst X hx hby (1 : Int32) at_179 rfl 180 rfl ?_
    refine own_goto X hx hby at_180 184 (by decide) ?_
    refine own_istore X hx hby at_184 rfl (l' := #[.val (.int p1), .val (.int p2), .val (.int p3), .val (.int (1 : Int32)), .val (.int v6), .val (.ref b10), .val (.int v72), .val (.int v81), .val (.int (1 : Int32))]) rfl 186 rfl ?_
    refine own_iload X hx hby (1 : Int32) at_186 rfl 188 rfl ?_
    have c188 : ¬ (1 : Int32) = (0 : Int32) := by decide
    refine own_if_eq X hx hby at_188 212 191 (by decide) rfl (fun q => absurd q c188) (fun _ => ?_)
    refine own_aload X hx hby (.ref b10) at_191 rfl rfl 193 rfl ?_
    refine own_iconst X hx hby (3 : Int32) at_193 rfl 194 rfl ?_
    refine own_baload X hx hby hZ (ar78 3) eT A_b10 (by decide) rfl at_194 195 rfl ?_
    refine own_iconst X hx hby (3 : Int32) at_195 rfl 196 rfl ?_
    refine own_iloadN X hx hby (1 : Int32) at_196 rfl 197 rfl ?_
    refine own_iload X hx hby v72 at_197 rfl 199 rfl ?_
    refine own_iloadN X hx hby p1 at_199 rfl 200 rfl ?_
    refine own_iload X hx hby v6 at_200 rfl 202 rfl ?_
    refine own_callS X hx hby hZ (st := [(.int (ar78 3))]) [(.int (3 : Int32)), (.int (1 : Int32)), (.int v72), (.int p1), (.int v6)] rfl hown (hw _ (List.mem_of_getElem? (i := 9) rfl)) (hw _ (List.mem_of_getElem? (i := 10) rfl)) (hw _ (List.mem_of_getElem? (i := 3) rfl)) (hw _ (List.mem_of_getElem? (i := 11) rfl)) (by decide) at_202 (rm3 l Z a0 hw (3 : Int32) (1 : Int32) v72 p1 v6 h78 n0 Zs ) eT pd_1 rfl (by rw [hml]; rfl) (by decide) 1 rfl (by decide) (by decide) (by decide) 205 rfl ?_
    intro T202 L9 v9 X hQ
    obtain ⟨rfl, N9, eT⟩ := hQ
    have N := Fr.app N N9
    show Go p e below _ T202 (mkF m 205 #[.val (.int p1), .val (.int p2), .val (.int p3), .val (.int (1 : Int32)), .val (.int v6), .val (.ref b10), .val (.int v72), .val (.int v81), .val (.int (1 : Int32))] [(.int (f3 (3 : Int32) (1 : Int32) v72 p1 v6)), (.int (ar78 3))])
    have c205 : (ar78 3) = (f3 (3 : Int32) (1 : Int32) v72 p1 v6) := own_c_1_3 _ _ _ _ e72 ear78
    refine own_icmp_ne X hx hby at_205 212 208 (by decide) rfl (fun q => absurd c205 q) (fun _ => ?_)
    refine own_iconst X hx hby (1 : Int32) at_208 rfl 209 rfl ?_
    refine own_goto X hx hby at_209 213 (by decide) ?_
    refine own_istore X hx hby at_213 rfl (l' := #[.val (.int p1), .val (.int p2), .val (.int p3), .val (.int (1 : Int32)), .val (.int v6), .val (.ref b10), .val (.int v72), .val (.int v81), .val (.int (1 : Int32))]) rfl 215 rfl ?_
    refine own_iload X hx hby (1 : Int32) at_215 rfl 217 rfl ?_
    have c217 : ¬ (1 : Int32) = (0 : Int32) := by decide
    refine own_if_eq X hx hby at_217 241 220 (by decide) rfl (fun q => absurd q c217) (fun _ => ?_)
    refine own_aload X hx hby (.ref b10) at_220 rfl rfl 222 rfl ?_
    refine own_iconst X hx hby (4 : Int32) at_222 rfl 223 rfl ?_
    refine own_baload X hx hby hZ (ar78 4) eT A_b10 (by decide) rfl at_223 224 rfl ?_
    refine own_iconst X hx hby (4 : Int32) at_224 rfl 225 rfl ?_
    refine own_iloadN X hx hby (1 : Int32) at_225 rfl 226 rfl ?_
    refine own_iload X hx hby v72 at_226 rfl 228 rfl ?_
    refine own_iloadN X hx hby p1 at_228 rfl 229 rfl ?_
    refine own_iload X hx hby v6 at_229 rfl 231 rfl ?_
    refine own_callS X hx hby hZ (st := [(.int (ar78 4))]) [(.int (4 : Int32)), (.int (1 : Int32)), (.int v72), (.int p1), (.int v6)] rfl hown (hw _ (List.mem_of_getElem? (i := 9) rfl)) (hw _ (List.mem_of_getElem? (i := 10) rfl)) (hw _ (List.mem_of_getElem? (i := 3) rfl)) (hw _ (List.mem_of_getElem? (i := 11) rfl)) (by decide) at_231 (rm3 l Z a0 hw (4 : Int32) (1 : Int32) v72 p1 v6 h78 n0 Zs ) eT pd_1 rfl (by rw [hml]; rfl) (by decide) 1 rfl (by decide) (by decide) (by decide) 234 rfl ?_
    intro T231 L9 v9 X hQ
    obtain ⟨rfl, N9, eT⟩ := hQ
    have N := Fr.app N N9
    show Go p e below _ T231 (mkF m 234 #[.val (.int p1), .val (.int p2), .val (.int p3), .val (.int (1 : Int32)), .val (.int v6), .val (.ref b10), .val (.int v72), .val (.int v81), .val (.int (1 : Int32))] [(.int (f3 (4 : Int32) (1 : Int32) v72 p1 v6)), (.int (ar78 4))])
    have c234 : (ar78 4) = (f3 (4 : Int32) (1 : Int32) v72 p1 v6) := own_c_1_4 _ _ _ _ e72 ear78
    refine own_icmp_ne X hx hby at_234 241 237 (by decide) rfl (fun q => absurd c234 q) (fun _ => ?_)
    refine own_iconst X hx hby (1 : Int32) at_237 rfl 238 rfl ?_
    refine own_goto X hx hby at_238 242 (by decide) ?_
    refine own_istore X hx hby at_242 rfl (l' := #[.val (.int p1), .val (.int p2), .val (.int p3), .val (.int (1 : Int32)), .val (.int v6), .val (.ref b10), .val (.int v72), .val (.int v81), .val (.int (1 : Int32))]) rfl 244 rfl ?_
    refine own_iload X hx hby (1 : Int32) at_244 rfl 246 rfl ?_
    have c246 : ¬ (1 : Int32) = (0 : Int32) := by decide
    refine own_if_eq X hx hby at_246 270 249 (by decide) rfl (fun q => absurd q c246) (fun _ => ?_)
    refine own_aload X hx hby (.ref b10) at_249 rfl rfl 251 rfl ?_
    refine own_iconst X hx hby (5 : Int32) at_251 rfl 252 rfl ?_
    refine own_baload X hx hby hZ (ar78 5) eT A_b10 (by decide) rfl at_252 253 rfl ?_
    refine own_iconst X hx hby (5 : Int32) at_253 rfl 254 rfl ?_
    refine own_iloadN X hx hby (1 : Int32) at_254 rfl 255 rfl ?_
    refine own_iload X hx hby v72 at_255 rfl 257 rfl ?_
    refine own_iloadN X hx hby p1 at_257 rfl 258 rfl ?_
    refine own_iload X hx hby v6 at_258 rfl 260 rfl ?_
    refine own_callS X hx hby hZ (st := [(.int (ar78 5))]) [(.int (5 : Int32)), (.int (1 : Int32)), (.int v72), (.int p1), (.int v6)] rfl hown (hw _ (List.mem_of_getElem? (i := 9) rfl)) (hw _ (List.mem_of_getElem? (i := 10) rfl)) (hw _ (List.mem_of_getElem? (i := 3) rfl)) (hw _ (List.mem_of_getElem? (i := 11) rfl)) (by decide) at_260 (rm3 l Z a0 hw (5 : Int32) (1 : Int32) v72 p1 v6 h78 n0 Zs ) eT pd_1 rfl (by rw [hml]; rfl) (by decide) 1 rfl (by decide) (by decide) (by decide) 263 rfl ?_
    intro T260 L9 v9 X hQ
    obtain ⟨rfl, N9, eT⟩ := hQ
    have N := Fr.app N N9
    show Go p e below _ T260 (mkF m 263 #[.val (.int p1), .val (.int p2), .val (.int p3), .val (.int (1 : Int32)), .val (.int v6), .val (.ref b10), .val (.int v72), .val (.int v81), .val (.int (1 : Int32))] [(.int (f3 (5 : Int32) (1 : Int32) v72 p1 v6)), (.int (ar78 5))])
    have c263 : (ar78 5) = (f3 (5 : Int32) (1 : Int32) v72 p1 v6) := own_c_1_5 _ _ _ _ e72 ear78
    refine own_icmp_ne X hx hby at_263 270 266 (by decide) rfl (fun q => absurd c263 q) (fun _ => ?_)
    refine own_iconst X hx hby (1 : Int32) at_266 rfl 267 rfl ?_
    refine own_goto X hx hby at_267 271 (by decide) ?_
    refine own_istore X hx hby at_271 rfl (l' := #[.val (.int p1), .val (.int p2), .val (.int p3), .val (.int (1 : Int32)), .val (.int v6), .val (.ref b10), .val (.int v72), .val (.int v81), .val (.int (1 : Int32))]) rfl 273 rfl ?_
    refine own_iload X hx hby (1 : Int32) at_273 rfl 275 rfl ?_
    have c275 : ¬ (1 : Int32) = (0 : Int32) := by decide
    refine own_if_eq X hx hby at_275 301 278 (by decide) rfl (fun q => absurd q c275) (fun _ => ?_)
    refine own_aload X hx hby (.ref b10) at_278 rfl rfl 280 rfl ?_
    refine own_bipush X hx hby (6 : Int32) at_280 rfl 282 rfl ?_
    refine own_baload X hx hby hZ (ar78 6) eT A_b10 (by decide) rfl at_282 283 rfl ?_
    refine own_bipush X hx hby (6 : Int32) at_283 rfl 285 rfl ?_
    refine own_iloadN X hx hby (1 : Int32) at_285 rfl 286 rfl ?_
    refine own_iload X hx hby v72 at_286 rfl 288 rfl ?_
    refine own_iloadN X hx hby p1 at_288 rfl 289 rfl ?_
    refine own_iload X hx hby v6 at_289 rfl 291 rfl ?_
    refine own_callS X hx hby hZ (st := [(.int (ar78 6))]) [(.int (6 : Int32)), (.int (1 : Int32)), (.int v72), (.int p1), (.int v6)] rfl hown (hw _ (List.mem_of_getElem? (i := 9) rfl)) (hw _ (List.mem_of_getElem? (i := 10) rfl)) (hw _ (List.mem_of_getElem? (i := 3) rfl)) (hw _ (List.mem_of_getElem? (i := 11) rfl)) (by decide) at_291 (rm3 l Z a0 hw (6 : Int32) (1 : Int32) v72 p1 v6 h78 n0 Zs ) eT pd_1 rfl (by rw [hml]; rfl) (by decide) 1 rfl (by decide) (by decide) (by decide) 294 rfl ?_
    intro T291 L9 v9 X hQ
    obtain ⟨rfl, N9, eT⟩ := hQ
    have N := Fr.app N N9
    show Go p e below _ T291 (mkF m 294 #[.val (.int p1), .val (.int p2), .val (.int p3), .val (.int (1 : Int32)), .val (.int v6), .val (.ref b10), .val (.int v72), .val (.int v81), .val (.int (1 : Int32))] [(.int (f3 (6 : Int32) (1 : Int32) v72 p1 v6)), (.int (ar78 6))])
    have c294 : (ar78 6) = (f3 (6 : Int32) (1 : Int32) v72 p1 v6) := own_c_1_6 _ _ _ _ e72 ear78
    refine own_icmp_ne X hx hby at_294 301 297 (by decide) rfl (fun q => absurd c294 q) (fun _ => ?_)
    refine own_iconst X hx hby (1 : Int32) at_297 rfl 298 rfl ?_
    refine own_goto X hx hby at_298 302 (by decide) ?_
    refine own_istore X hx hby at_302 rfl (l' := #[.val (.int p1), .val (.int p2), .val (.int p3), .val (.int (1 : Int32)), .val (.int v6), .val (.ref b10), .val (.int v72), .val (.int v81), .val (.int (1 : Int32))]) rfl 304 rfl ?_
    refine own_iload X hx hby (1 : Int32) at_304 rfl 306 rfl ?_
    have c306 : ¬ (1 : Int32) = (0 : Int32) := by decide
    refine own_if_eq X hx hby at_306 332 309 (by decide) rfl (fun q => absurd q c306) (fun _ => ?_)
    refine own_aload X hx hby (.ref b10) at_309 rfl rfl 311 rfl ?_
    refine own_bipush X hx hby (7 : Int32) at_311 rfl 313 rfl ?_
    refine own_baload X hx hby hZ (ar78 7) eT A_b10 (by decide) rfl at_313 314 rfl ?_
    refine own_bipush X hx hby (7 : Int32) at_314 rfl 316 rfl ?_
    refine own_iloadN X hx hby (1 : Int32) at_316 rfl 317 rfl ?_
    refine own_iload X hx hby v72 at_317 rfl 319 rfl ?_
    refine own_iloadN X hx hby p1 at_319 rfl 320 rfl ?_
    refine own_iload X hx hby v6 at_320 rfl 322 rfl ?_
    refine own_callS X hx hby hZ (st := [(.int (ar78 7))]) [(.int (7 : Int32)), (.int (1 : Int32)), (.int v72), (.int p1), (.int v6)] rfl hown (hw _ (List.mem_of_getElem? (i := 9) rfl)) (hw _ (List.mem_of_getElem? (i := 10) rfl)) (hw _ (List.mem_of_getElem? (i := 3) rfl)) (hw _ (List.mem_of_getElem? (i := 11) rfl)) (by decide) at_322 (rm3 l Z a0 hw (7 : Int32) (1 : Int32) v72 p1 v6 h78 n0 Zs ) eT pd_1 rfl (by rw [hml]; rfl) (by decide) 1 rfl (by decide) (by decide) (by decide) 325 rfl ?_
    intro T322 L9 v9 X hQ
    obtain ⟨rfl, N9, eT⟩ := hQ
    have N := Fr.app N N9
    show Go p e below _ T322 (mkF m 325 #[.val (.int p1), .val (.int p2), .val (.int p3), .val (.int (1 : Int32)), .val (.int v6), .val (.ref b10), .val (.int v72), .val (.int v81), .val (.int (1 : Int32))] [(.int (f3 (7 : Int32) (1 : Int32) v72 p1 v6)), (.int (ar78 7))])
    have c325 : (ar78 7) = (f3 (7 : Int32) (1 : Int32) v72 p1 v6) := own_c_1_7 _ _ _ _ e72 ear78
    refine own_icmp_ne X hx hby at_325 332 328 (by decide) rfl (fun q => absurd c325 q) (fun _ => ?_)
    refine own_iconst X hx hby (1 : Int32) at_328 rfl 329 rfl ?_
    refine own_goto X hx hby at_329 333 (by decide) ?_
    refine own_istore X hx hby at_333 rfl (l' := #[.val (.int p1), .val (.int p2), .val (.int p3), .val (.int (1 : Int32)), .val (.int v6), .val (.ref b10), .val (.int v72), .val (.int v81), .val (.int (1 : Int32))]) rfl 335 rfl ?_
    refine own_iload X hx hby (1 : Int32) at_335 rfl 337 rfl ?_
    have c337 : ¬ (1 : Int32) = (0 : Int32) := by decide
    refine own_if_eq X hx hby at_337 363 340 (by decide) rfl (fun q => absurd q c337) (fun _ => ?_)
    refine own_aload X hx hby (.ref b10) at_340 rfl rfl 342 rfl ?_
    refine own_bipush X hx hby (8 : Int32) at_342 rfl 344 rfl ?_
    refine own_baload X hx hby hZ (ar78 8) eT A_b10 (by decide) rfl at_344 345 rfl ?_
    refine own_bipush X hx hby (8 : Int32) at_345 rfl 347 rfl ?_
    refine own_iloadN X hx hby (1 : Int32) at_347 rfl 348 rfl ?_
    refine own_iload X hx hby v72 at_348 rfl 350 rfl ?_
    refine own_iloadN X hx hby p1 at_350 rfl 351 rfl ?_
    refine own_iload X hx hby v6 at_351 rfl 353 rfl ?_
    refine own_callS X hx hby hZ (st := [(.int (ar78 8))]) [(.int (8 : Int32)), (.int (1 : Int32)), (.int v72), (.int p1), (.int v6)] rfl hown (hw _ (List.mem_of_getElem? (i := 9) rfl)) (hw _ (List.mem_of_getElem? (i := 10) rfl)) (hw _ (List.mem_of_getElem? (i := 3) rfl)) (hw _ (List.mem_of_getElem? (i := 11) rfl)) (by decide) at_353 (rm3 l Z a0 hw (8 : Int32) (1 : Int32) v72 p1 v6 h78 n0 Zs ) eT pd_1 rfl (by rw [hml]; rfl) (by decide) 1 rfl (by decide) (by decide) (by decide) 356 rfl ?_
    intro T353 L9 v9 X hQ
    obtain ⟨rfl, N9, eT⟩ := hQ
    have N := Fr.app N N9
    show Go p e below _ T353 (mkF m 356 #[.val (.int p1), .val (.int p2), .val (.int p3), .val (.int (1 : Int32)), .val (.int v6), .val (.ref b10), .val (.int v72), .val (.int v81), .val (.int (1 : Int32))] [(.int (f3 (8 : Int32) (1 : Int32) v72 p1 v6)), (.int (ar78 8))])
    have c356 : (ar78 8) = (f3 (8 : Int32) (1 : Int32) v72 p1 v6) := own_c_1_8 _ _ _ _ e72 ear78
    refine own_icmp_ne X hx hby at_356 363 359 (by decide) rfl (fun q => absurd c356 q) (fun _ => ?_)
    refine own_iconst X hx hby (1 : Int32) at_359 rfl 360 rfl ?_
    refine own_goto X hx hby at_360 364 (by decide) ?_
    refine own_istore X hx hby at_364 rfl (l' := #[.val (.int p1), .val (.int p2), .val (.int p3), .val (.int (1 : Int32)), .val (.int v6), .val (.ref b10), .val (.int v72), .val (.int v81), .val (.int (1 : Int32))]) rfl 366 rfl ?_
    refine own_iload X hx hby (1 : Int32) at_366 rfl 368 rfl ?_
    have c368 : ¬ (1 : Int32) = (0 : Int32) := by decide
    refine own_if_eq X hx hby at_368 394 371 (by decide) rfl (fun q => absurd q c368) (fun _ => ?_)
    refine own_aload X hx hby (.ref b10) at_371 rfl rfl 373 rfl ?_
    refine own_bipush X hx hby (9 : Int32) at_373 rfl 375 rfl ?_
    refine own_baload X hx hby hZ (ar78 9) eT A_b10 (by decide) rfl at_375 376 rfl ?_
    refine own_bipush X hx hby (9 : Int32) at_376 rfl 378 rfl ?_
    refine own_iloadN X hx hby (1 : Int32) at_378 rfl 379 rfl ?_
    refine own_iload X hx hby v72 at_379 rfl 381 rfl ?_
    refine own_iloadN X hx hby p1 at_381 rfl 382 rfl ?_
    refine own_iload X hx hby v6 at_382 rfl 384 rfl ?_
    refine own_callS X hx hby hZ (st := [(.int (ar78 9))]) [(.int (9 : Int32)), (.int (1 : Int32)), (.int v72), (.int p1), (.int v6)] rfl hown (hw _ (List.mem_of_getElem? (i := 9) rfl)) (hw _ (List.mem_of_getElem? (i := 10) rfl)) (hw _ (List.mem_of_getElem? (i := 3) rfl)) (hw _ (List.mem_of_getElem? (i := 11) rfl)) (by decide) at_384 (rm3 l Z a0 hw (9 : Int32) (1 : Int32) v72 p1 v6 h78 n0 Zs ) eT pd_1 rfl (by rw [hml]; rfl) (by decide) 1 rfl (by decide) (by decide) (by decide) 387 rfl ?_
    intro T384 L9 v9 X hQ
    obtain ⟨rfl, N9, eT⟩ := hQ
    have N := Fr.app N N9
    show Go p e below _ T384 (mkF m 387 #[.val (.int p1), .val (.int p2), .val (.int p3), .val (.int (1 : Int32)), .val (.int v6), .val (.ref b10), .val (.int v72), .val (.int v81), .val (.int (1 : Int32))] [(.int (f3 (9 : Int32) (1 : Int32) v72 p1 v6)), (.int (ar78 9))])
    have c387 : (ar78 9) = (f3 (9 : Int32) (1 : Int32) v72 p1 v6) := own_c_1_9 _ _ _ _ e72 ear78
    refine own_icmp_ne X hx hby at_387 394 390 (by decide) rfl (fun q => absurd c387 q) (fun _ => ?_)
    refine own_iconst X hx hby (1 : Int32) at_390 rfl 391 rfl ?_
    refine own_goto X hx hby at_391 395 (by decide) ?_
    refine own_istore X hx hby at_395 rfl (l' := #[.val (.int p1), .val (.int p2), .val (.int p3), .val (.int (1 : Int32)), .val (.int v6), .val (.ref b10), .val (.int v72), .val (.int v81), .val (.int (1 : Int32))]) rfl 397 rfl ?_
    refine own_iload X hx hby (1 : Int32) at_397 rfl 399 rfl ?_
    refine own_retN X hx hby hret hlk (t := .boolean) (z' := (1 : Int32)) (by simp) at_399 (by decide) (by decide) rfl ?_
    rw [eT]
    exact ⟨rfl, N⟩
  · skip
    refine own_iloadN X hx hby p3 at_4 rfl 5 rfl ?_
    refine own_i2b X hx hby at_5 6 rfl ?_
    obtain ⟨v6, e6⟩ : ∃ z : Int32, (p3.toInt8.toInt32) = z := ⟨_, rfl⟩
    refine own_istore X hx hby at_6 e6 (l' := #[.val (.int p1), .val (.int p2), .val (.int p3), .val (.int (2 : Int32)), .val (.int v6), .unset, .unset, .unset, .unset]) rfl 8 rfl ?_
    refine own_bipush X hx hby (10 : Int32) at_8 rfl 10 rfl ?_
    refine own_newarray X hx hby hZ (hw _ (List.mem_of_getElem? (i := 0) rfl)) eT at_10 (z := (10 : Int32)) (by decide) (n := 10) rfl (cap := 10) (by decide) (by decide) (by decide) (by decide) (ad := "[B") rfl 12 rfl ?_
    intro T10 h10 b10 gb10 X eT Ex A A2
    have g_b10 : n0 ≤ b10 := by rw [gb10]; exact Zs
    have sz_b10 : h0.size ≤ b10 := by rw [gb10]; exact K.1
    have A_b10 : Afi Z h10 b10 .byte 10 (fun _ => (0 : Int32)) := A
    have E_b10 := A2
    have K := K.ext Ex
    have Zs := Nat.le_trans Zs Ex.1
    refine own_dup X hx hby at_12 rfl 13 rfl ?_
    refine own_iconst X hx hby (0 : Int32) at_13 rfl 14 rfl ?_
    refine own_iload X hx hby v6 at_14 rfl 16 rfl ?_
    refine own_bastore X hx hby hZ eT A_b10 (by decide) at_16 17 rfl ?_
    intro T16 h16 X eT W A
    have E_b10 := E_b10.wr W
    have A_b10 : Afi Z h16 b10 .byte 10 (updI (fun _ => (0 : Int32)) 0 (nar .byte v6)) := A
    have N := Fr.snoc X N g_b10
    have K := K.wr W (Or.inr sz_b10)
    have Zs := Nat.le_trans Zs (Keep.of_wr W).1
    refine own_dup X hx hby at_17 rfl 18 rfl ?_
    refine own_iconst X hx hby (1 : Int32) at_18 rfl 19 rfl ?_
    refine own_iload X hx hby v6 at_19 rfl 21 rfl ?_
    refine own_bastore X hx hby hZ eT A_b10 (by decide) at_21 22 rfl ?_
    intro T21 h21 X eT W A
    have E_b10 := E_b10.wr W
    have A_b10 : Afi Z h21 b10 .byte 10 (updI (updI (fun _ => (0 : Int32)) 0 (nar .byte v6)) 1 (nar .byte v6)) := A
    have N := Fr.snoc X N g_b10
    have K := K.wr W (Or.inr sz_b10)
    have Zs := Nat.le_trans Zs (Keep.of_wr W).1
    refine own_dup X hx hby at_22 rfl 23 rfl ?_
    refine own_iconst X hx hby (2 : Int32) at_23 rfl 24 rfl ?_
    refine own_iload X hx hby v6 at_24 rfl 26 rfl ?_
    refine own_bastore X hx hby hZ eT A_b10 (by decide) at_26 27 rfl ?_
    intro T26 h26 X eT W A
    have E_b10 := E_b10.wr W
    have A_b10 : Afi Z h26 b10 .byte 10 (updI (updI (updI (fun _ => (0 : Int32)) 0 (nar .byte v6)) 1 (nar .byte v6)) 2 (nar .byte v6)) := A
    have N := Fr.snoc X N g_b10
    have K := K.wr W (Or.inr sz_b10)
    have Zs := Nat.le_trans Zs (Keep.of_wr W).1
    refine own_dup X hx hby at_27 rfl 28 rfl ?_
    refine own_iconst X hx hby (3 : Int32) at_28 rfl 29 rfl ?_
    refine own_iload X hx hby v6 at_29 rfl 31 rfl ?_
    refine own_bastore X hx hby hZ eT A_b10 (by decide) at_31 32 rfl ?_
    intro T31 h31 X eT W A
    have E_b10 := E_b10.wr W
    have A_b10 : Afi Z h31 b10 .byte 10 (updI (updI (updI (updI (fun _ => (0 : Int32)) 0 (nar .byte v6)) 1 (nar .byte v6)) 2 (nar .byte v6)) 3 (nar .byte v6)) := A
    have N := Fr.snoc X N g_b10
    have K := K.wr W (Or.inr sz_b10)
    have Zs := Nat.le_trans Zs (Keep.of_wr W).1
    refine own_dup X hx hby at_32 rfl 33 rfl ?_
    refine own_iconst X hx hby (4 : Int32) at_33 rfl 34 rfl ?_
    refine own_iload X hx hby v6 at_34 rfl 36 rfl ?_
    refine own_bastore X hx hby hZ eT A_b10 (by decide) at_36 37 rfl ?_
    intro T36 h36 X eT W A
    have E_b10 := E_b10.wr W
    have A_b10 : Afi Z h36 b10 .byte 10 (updI (updI (updI (updI (updI (fun _ => (0 : Int32)) 0 (nar .byte v6)) 1 (nar .byte v6)) 2 (nar .byte v6)) 3 (nar .byte v6)) 4 (nar .byte v6)) := A
    have N := Fr.snoc X N g_b10
    have K := K.wr W (Or.inr sz_b10)
    have Zs := Nat.le_trans Zs (Keep.of_wr W).1
    refine own_dup X hx hby at_37 rfl 38 rfl ?_
    refine own_iconst X hx hby (5 : Int32) at_38 rfl 39 rfl ?_
    refine own_iload X hx hby v6 at_39 rfl 41 rfl ?_
    refine own_bastore X hx hby hZ eT A_b10 (by decide) at_41 42 rfl ?_
    intro T41 h41 X eT W A
    have E_b10 := E_b10.wr W
    have A_b10 : Afi Z h41 b10 .byte 10 (updI (updI (updI (updI (updI (updI (fun _ => (0 : Int32)) 0 (nar .byte v6)) 1 (nar .byte v6)) 2 (nar .byte v6)) 3 (nar .byte v6)) 4 (nar .byte v6)) 5 (nar .byte v6)) := A
    have N := Fr.snoc X N g_b10
    have K := K.wr W (Or.inr sz_b10)
    have Zs := Nat.le_trans Zs (Keep.of_wr W).1
    refine own_dup X hx hby at_42 rfl 43 rfl ?_
    refine own_bipush X hx hby (6 : Int32) at_43 rfl 45 rfl ?_
    refine own_iload X hx hby v6 at_45 rfl 47 rfl ?_
    refine own_bastore X hx hby hZ eT A_b10 (by decide) at_47 48 rfl ?_
    intro T47 h47 X eT W A
    have E_b10 := E_b10.wr W
    have A_b10 : Afi Z h47 b10 .byte 10 (updI (updI (updI (updI (updI (updI (updI (fun _ => (0 : Int32)) 0 (nar .byte v6)) 1 (nar .byte v6)) 2 (nar .byte v6)) 3 (nar .byte v6)) 4 (nar .byte v6)) 5 (nar .byte v6)) 6 (nar .byte v6)) := A
    have N := Fr.snoc X N g_b10
    have K := K.wr W (Or.inr sz_b10)
    have Zs := Nat.le_trans Zs (Keep.of_wr W).1
    refine own_dup X hx hby at_48 rfl 49 rfl ?_
    refine own_bipush X hx hby (7 : Int32) at_49 rfl 51 rfl ?_
    refine own_iload X hx hby v6 at_51 rfl 53 rfl ?_
    refine own_bastore X hx hby hZ eT A_b10 (by decide) at_53 54 rfl ?_
    intro T53 h53 X eT W A
    have E_b10 := E_b10.wr W
    have A_b10 : Afi Z h53 b10 .byte 10 (updI (updI (updI (updI (updI (updI (updI (updI (fun _ => (0 : Int32)) 0 (nar .byte v6)) 1 (nar .byte v6)) 2 (nar .byte v6)) 3 (nar .byte v6)) 4 (nar .byte v6)) 5 (nar .byte v6)) 6 (nar .byte v6)) 7 (nar .byte v6)) := A
    have N := Fr.snoc X N g_b10
    have K := K.wr W (Or.inr sz_b10)
    have Zs := Nat.le_trans Zs (Keep.of_wr W).1
    refine own_dup X hx hby at_54 rfl 55 rfl ?_
    refine own_bipush X hx hby (8 : Int32) at_55 rfl 57 rfl ?_
    refine own_iload X hx hby v6 at_57 rfl 59 rfl ?_
    refine own_bastore X hx hby hZ eT A_b10 (by decide) at_59 60 rfl ?_
    intro T59 h59 X eT W A
    have E_b10 := E_b10.wr W
    have A_b10 : Afi Z h59 b10 .byte 10 (updI (updI (updI (updI (updI (updI (updI (updI (updI (fun _ => (0 : Int32)) 0 (nar .byte v6)) 1 (nar .byte v6)) 2 (nar .byte v6)) 3 (nar .byte v6)) 4 (nar .byte v6)) 5 (nar .byte v6)) 6 (nar .byte v6)) 7 (nar .byte v6)) 8 (nar .byte v6)) := A
    have N := Fr.snoc X N g_b10
    have K := K.wr W (Or.inr sz_b10)
    have Zs := Nat.le_trans Zs (Keep.of_wr W).1
    refine own_dup X hx hby at_60 rfl 61 rfl ?_
    refine own_bipush X hx hby (9 : Int32) at_61 rfl 63 rfl ?_
    refine own_iload X hx hby v6 at_63 rfl 65 rfl ?_
    refine own_bastore X hx hby hZ eT A_b10 (by decide) at_65 66 rfl ?_
    intro T65 h65 X eT W A
    have E_b10 := E_b10.wr W
    have A_b10 : Afi Z h65 b10 .byte 10 (updI (updI (updI (updI (updI (updI (updI (updI (updI (updI (fun _ => (0 : Int32)) 0 (nar .byte v6)) 1 (nar .byte v6)) 2 (nar .byte v6)) 3 (nar .byte v6)) 4 (nar .byte v6)) 5 (nar .byte v6)) 6 (nar .byte v6)) 7 (nar .byte v6)) 8 (nar .byte v6)) 9 (nar .byte v6)) := A
    have N := Fr.snoc X N g_b10
    have K := K.wr W (Or.inr sz_b10)
    have Zs := Nat.le_trans Zs (Keep.of_wr W).1
    refine own_astore X hx hby at_66 rfl (l' := #[.val (.int p1), .val (.int p2), .val (.int p3), .val (.int (2 : Int32)), .val (.int v6), .val (.ref b10), .unset, .unset, .unset]) rfl 68 rfl ?_
    refine own_iloadN X hx hby p1 at_68 rfl 69 rfl ?_
    refine own_callS X hx hby hZ (st := []) [(.int p1)] rfl hown (hw _ (List.mem_of_getElem? (i := 1) rfl)) (hw _ (List.mem_of_getElem? (i := 2) rfl)) (hw _ (List.mem_of_getElem? (i := 3) rfl)) (hw _ (List.mem_of_getElem? (i := 4) rfl)) (by decide) at_69 (rm1 l Z a0 hw p1 h65 n0 Zs ) eT pd_0 rfl (by rw [hml]; rfl) (by decide) 0 rfl (by decide) (by decide) (by decide) 72 rfl ?_
    intro T69 L9 v9 X hQ
    obtain ⟨rfl, N9, eT⟩ := hQ
    have N := Fr.app N N9
    show Go p e below _ T69 (mkF m 72 #[.val (.int p1), .val (.int p2), .val (.int p3), .val (.int (2 : Int32)), .val (.int v6), .val (.ref b10), .unset, .unset, .unset] [(.int (f1 p1))])
    obtain ⟨v72, e72⟩ : ∃ z : Int32, (f1 p1) = z := ⟨_, rfl⟩
    refine own_istore X hx hby at_72 e72 (l' := #[.val (.int p1), .val (.int p2), .val (.int p3), .val (.int (2 : Int32)), .val (.int v6), .val (.ref b10), .val (.int v72), .unset, .unset]) rfl 74 rfl ?_
    refine own_aload X hx hby (.ref b10) at_74 rfl rfl 76 rfl ?_
    refine own_iloadN X hx hby (2 : Int32) at_76 rfl 77 rfl ?_
    refine own_iloadN X hx hby p1 at_77 rfl 78 rfl ?_
    refine own_callS X hx hby hZ (st := []) [(.ref b10), (.int (2 : Int32)), (.int p1)] rfl hown (hw _ (List.mem_of_getElem? (i := 5) rfl)) (hw _ (List.mem_of_getElem? (i := 6) rfl)) (hw _ (List.mem_of_getElem? (i := 7) rfl)) (hw _ (List.mem_of_getElem? (i := 8) rfl)) (by decide) at_78 (rm2_2 l Z a0 hw b10 p1 (updI (updI (updI (updI (updI (updI (updI (updI (updI (updI (fun _ => (0 : Int32)) 0 (nar .byte v6)) 1 (nar .byte v6)) 2 (nar .byte v6)) 3 (nar .byte v6)) 4 (nar .byte v6)) 5 (nar .byte v6)) 6 (nar .byte v6)) 7 (nar .byte v6)) 8 (nar .byte v6)) 9 (nar .byte v6)) h65 n0 Zs A_b10 E_b10 g_b10) eT pd_2 rfl (by rw [hml]; rfl) (by decide) 0 rfl (by decide) (by decide) (by decide) 81 rfl ?_
    intro T78 L9 v9 X hQ
    obtain ⟨h78, eT⟩ : ∃ z, T78.heap = z := ⟨_, rfl⟩
    rw [eT] at hQ
    obtain ⟨rfl, N9, Kc, A_b10, E_b10⟩ := hQ
    obtain ⟨ar78, ear78⟩ : ∃ z : Nat → Int32, (f2_2_ar_a1 p1 (updI (updI (updI (updI (updI (updI (updI (updI (updI (updI (fun _ => (0 : Int32)) 0 (nar .byte v6)) 1 (nar .byte v6)) 2 (nar .byte v6)) 3 (nar .byte v6)) 4 (nar .byte v6)) 5 (nar .byte v6)) 6 (nar .byte v6)) 7 (nar .byte v6)) 8 (nar .byte v6)) 9 (nar .byte v6))) = z := ⟨_, rfl⟩
    rw [ear78] at A_b10
    have K := K.trans Kc (allS (Or.inr sz_b10) all0)
    have Zs := Nat.le_trans Zs Kc.1
    have N := Fr.app N N9
    show Go p e below _ T78 (mkF m 81 #[.val (.int p1), .val (.int p2), .val (.int p3), .val (.int (2 : Int32)), .val (.int v6), .val (.ref b10), .val (.int v72), .unset, .unset] [(.int (f2_2 p1))])
    obtain ⟨v81, e81⟩ : ∃ z : Int32, (f2_2 p1) = z := ⟨_, rfl⟩
    refine own_istore X hx hby at_81 e81 (l' := #[.val (.int p1), .val (.int p2), .val (.int p3), .val (.int (2 : Int32)), .val (.int v6), .val (.ref b10), .val (.int v72), .val (.int v81), .unset]) rfl 83 rfl ?_
    refine own_iload X hx hby v81 at_83 rfl 85 rfl ?_
    refine own_iloadN X hx hby (2 : Int32) at_85 rfl 86 rfl ?_
    refine own_iload X hx hby v72 at_86 rfl 88 rfl ?_
    refine own_iadd X hx hby at_88 89 rfl ?_
    have c89 : v81 = ((2 : Int32) + v72) := own_r_2 _ _ _ e72 e81
    refine own_icmp_ne X hx hby at_89 96 92 (by decide) rfl (fun q => absurd c89 q) (fun _ => ?_)
    refine own_iconst X hx hby (1 : Int32) at_92 rfl 93 rfl ?_
    refine own_goto X hx hby at_93 97 (by decide) ?_
    refine own_istore X hx hby at_97 rfl (l' := #[.val (.int p1), .val (.int p2), .val (.int p3), .val (.int (2 : Int32)), .val (.int v6), .val (.ref b10), .val (.int v72), .val (.int v81), .val (.int (1 : Int32))]) rfl 99 rfl ?_
    refine own_iload X hx hby (1 : Int32) at_99 rfl 101 rfl ?_
    have c101 : ¬ (1 : Int32) = (0 : Int32) := by decide
    refine own_if_eq X hx hby at_101 125 104 (by decide) rfl (fun q => absurd q c101) (fun _ => ?_)
    refine own_aload X hx hby (.ref b10) at_104 rfl rfl 106 rfl ?_
    refine own_iconst X hx hby (0 : Int32) at_106 rfl 107 rfl ?_
    refine own_baload X hx hby hZ (ar78 0) eT A_b10 (by decide) rfl at_107 108 rfl ?_
    refine own_iconst X hx hby (0 : Int32) at_108 rfl 109 rfl ?_
    refine own_iloadN X hx hby (2 : Int32) at_109 rfl 110 rfl ?_
    refine own_iload X hx hby v72 at_110 rfl 112 rfl ?_
    refine own_iloadN X hx hby p1 at_112 rfl 113 rfl ?_
    refine own_iload X hx hby v6 at_113 rfl 115 rfl ?_
    refine own_callS X hx hby hZ (st := [(.int (ar78 0))]) [(.int (0 : Int32)), (.int (2 : Int32)), (.int v72), (.int p1), (.int v6)] rfl hown (hw _ (List.mem_of_getElem? (i := 9) rfl)) (hw _ (List.mem_of_getElem? (i := 10) rfl)) (hw _ (List.mem_of_getElem? (i := 3) rfl)) (hw _ (List.mem_of_getElem? (i := 11) rfl)) (by decide) at_115 (rm3 l Z a0 hw (0 : Int32) (2 : Int32) v72 p1 v6 h78 n0 Zs ) eT pd_1 rfl (by rw [hml]; rfl) (by decide) 1 rfl (by decide) (by decide) (by decide) 118 rfl ?_
    intro T115 L9 v9 X hQ
    obtain ⟨rfl, N9, eT⟩ := hQ
    have N := Fr.app N N9
    show Go p e below _ T115 (mkF m 118 #[.val (.int p1), .val (.int p2), .val (.int p3), .val (.int (2 : Int32)), .val (.int v6), .val (.ref b10), .val (.int v72), .val (.int v81), .val (.int (1 : Int32))] [(.int (f3 (0 : Int32) (2 : Int32) v72 p1 v6)), (.int (ar78 0))])
    have c118 : (ar78 0) = (f3 (0 : Int32) (2 : Int32) v72 p1 v6) := own_c_2_0 _ _ _ _ e72 ear78
    refine own_icmp_ne X hx hby at_118 125 121 (by decide) rfl (fun q => absurd c118 q) (fun _ => ?_)
    refine own_iconst X hx hby (1 : Int32) at_121 rfl 122 rfl ?_
    refine own_goto X hx hby at_122 126 (by decide) ?_
    refine own_istore X hx hby at_126 rfl (l' := #[.val (.int p1), .val (.int p2), .val (.int p3), .val (.int (2 : Int32)), .val (.int v6), .val (.ref b10), .val (.int v72), .val (.int v81), .val (.int (1 : Int32))]) rfl 128 rfl ?_
    refine own_iload X hx hby (1 : Int32) at_128 rfl 130 rfl ?_
    have c130 : ¬ (1 : Int32) = (0 : Int32) := by decide
    refine own_if_eq X hx hby at_130 154 133 (by decide) rfl (fun q => absurd q c130) (fun _ => ?_)
    refine own_aload X hx hby (.ref b10) at_133 rfl rfl 135 rfl ?_
    refine own_iconst X hx hby (1 : Int32) at_135 rfl 136 rfl ?_
    refine own_baload X hx hby hZ (ar78 1) eT A_b10 (by decide) rfl at_136 137 rfl ?_
    refine own_iconst X hx hby (1 : Int32) at_137 rfl 138 rfl ?_
    refine own_iloadN X hx hby (2 : Int32) at_138 rfl 139 rfl ?_
    refine own_iload X hx hby v72 at_139 rfl 141 rfl ?_
    refine own_iloadN X hx hby p1 at_141 rfl 142 rfl ?_
    refine own_iload X hx hby v6 at_142 rfl 144 rfl ?_
    refine own_callS X hx hby hZ (st := [(.int (ar78 1))]) [(.int (1 : Int32)), (.int (2 : Int32)), (.int v72), (.int p1), (.int v6)] rfl hown (hw _ (List.mem_of_getElem? (i := 9) rfl)) (hw _ (List.mem_of_getElem? (i := 10) rfl)) (hw _ (List.mem_of_getElem? (i := 3) rfl)) (hw _ (List.mem_of_getElem? (i := 11) rfl)) (by decide) at_144 (rm3 l Z a0 hw (1 : Int32) (2 : Int32) v72 p1 v6 h78 n0 Zs ) eT pd_1 rfl (by rw [hml]; rfl) (by decide) 1 rfl (by decide) (by decide) (by decide) 147 rfl ?_
    intro T144 L9 v9 X hQ
    obtain ⟨rfl, N9, eT⟩ := hQ
    have N := Fr.app N N9
    show Go p e below _ T144 (mkF m 147 #[.val (.int p1), .val (.int p2), .val (.int p3), .val (.int (2 : Int32)), .val (.int v6), .val (.ref b10), .val (.int v72), .val (.int v81), .val (.int (1 : Int32))] [(.int (f3 (1 : Int32) (2 : Int32) v72 p1 v6)), (.int (ar78 1))])
    have c147 : (ar78 1) = (f3 (1 : Int32) (2 : Int32) v72 p1 v6) := own_c_2_1 _ _ _ _ e72 ear78
    refine own_icmp_ne X hx hby at_147 154 150 (by decide) rfl (fun q => absurd c147 q) (fun _ => ?_)
    refine own_iconst X hx hby (1 : Int32) at_150 rfl 151 rfl ?_
    refine own_goto X hx hby at_151 155 (by decide) ?_
    refine own_istore X hx hby at_155 rfl (l' := #[.val (.int p1), .val (.int p2), .val (.int p3), .val (.int (2 : Int32)), .val (.int v6), .val (.ref b10), .val (.int v72), .val (.int v81), .val (.int (1 : Int32))]) rfl 157 rfl ?_
    refine own_iload X hx hby (1 : Int32) at_157 rfl 159 rfl ?_
    have c159 : ¬ (1 : Int32) = (0 : Int32) := by decide
    refine own_if_eq X hx hby at_159 183 162 (by decide) rfl (fun q => absurd q c159) (fun _ => ?_)
    refine own_aload X hx hby (.ref b10) at_162 rfl rfl 164 rfl ?_
    refine own_iconst X hx hby (2 : Int32) at_164 rfl 165 rfl ?_
    refine own_baload X hx hby hZ (ar78 2) eT A_b10 (by decide) rfl at_165 166 rfl ?_
    refine own_iconst X hx hby (2 : Int32) at_166 rfl 167 rfl ?_
    refine own_iloadN X hx hby (2 : Int32) at_167 rfl 168 rfl ?_
    refine own_iload X hx hby v72 at_168 rfl 170 rfl ?_
    refine own_iloadN X hx hby p1 at_170 rfl 171 rfl ?_
    refine own_iload X hx hby v6 at_171 rfl 173 rfl ?_
    refine own_callS X hx hby hZ (st := [(.int (ar78 2))]) [(.int (2 : Int32)), (.int (2 : Int32)), (.int v72), (.int p1), (.int v6)] rfl hown (hw _ (List.mem_of_getElem? (i := 9) rfl)) (hw _ (List.mem_of_getElem? (i := 10) rfl)) (hw _ (List.mem_of_getElem? (i := 3) rfl)) (hw _ (List.mem_of_getElem? (i := 11) rfl)) (by decide) at_173 (rm3 l Z a0 hw (2 : Int32) (2 : Int32) v72 p1 v6 h78 n0 Zs ) eT pd_1 rfl (by rw [hml]; rfl) (by decide) 1 rfl (by decide) (by decide) (by decide) 176 rfl ?_
    intro T173 L9 v9 X hQ
    obtain ⟨rfl, N9, eT⟩ := hQ
    have N := Fr.app N N9
    show Go p e below _ T173 (mkF m 176 #[.val (.int p1), .val (.int p2), .val (.int p3), .val (.int (2 : Int32)), .val (.int v6), .val (.ref b10), .val (.int v72), .val (.int v81), .val (.int (1 : Int32))] [(.int (f3 (2 : Int32) (2 : Int32) v72 p1 v6)), (.int (ar78 2))])
    have c176 : (ar78 2) = (f3 (2 : Int32) (2 : Int32) v72 p1 v6) := own_c_2_2 _ _ _ _ e72 ear78
    refine own_icmp_ne X hx hby at_176 183 179 (by decide) rfl (fun q => absurd c176 q) (fun _ => ?_)
    refine own_iconst X hx hby (1 : Int32) at_179 rfl 180 rfl ?_
    refine own_goto X hx hby at_180 184 (by decide) ?_
    refine own_istore X hx hby at_184 rfl (l' := #[.val (.int p1), .val (.int p2), .val (.int p3), .val (.int (2 : Int32)), .val (.int v6), .val (.ref b10), .val (.int v72), .val (.int v81), .val (.int (1 : Int32))]) rfl 186 rfl ?_
    refine own_iload X hx hby (1 : Int32) at_186 rfl 188 rfl ?_
    have c188 : ¬ (1 : Int32) = (0 : Int32) := by decide
    refine own_if_eq X hx hby at_188 212 191 (by decide) rfl (fun q => absurd q c188) (fun _ => ?_)
    refine own_aload X hx hby (.ref b10) at_191 rfl rfl 193 rfl ?_
    refine own_iconst X hx hby (3 : Int32) at_193 rfl 194 rfl ?_
    refine own_baload X hx hby hZ (ar78 3) eT A_b10 (by decide) rfl at_194 195 rfl ?_
    refine own_iconst X hx hby (3 : Int32) at_195 rfl 196 rfl ?_
    refine own_iloadN X hx hby (2 : Int32) at_196 rfl 197 rfl ?_
    refine own_iload X hx hby v72 at_197 rfl 199 rfl ?_
    refine own_iloadN X hx hby p1 at_199 rfl 200 rfl ?_
    refine own_iload X hx hby v6 at_200 rfl 202 rfl ?_
    refine own_callS X hx hby hZ (st := [(.int (ar78 3))]) [(.int (3 : Int32)), (.int (2 : Int32)), (.int v72), (.int p1), (.int v6)] rfl hown (hw _ (List.mem_of_getElem? (i := 9) rfl)) (hw _ (List.mem_of_getElem? (i := 10) rfl)) (hw _ (List.mem_of_getElem? (i := 3) rfl)) (hw _ (List.mem_of_getElem? (i := 11) rfl)) (by decide) at_202 (rm3 l Z a0 hw (3 : Int32) (2 : Int32) v72 p1 v6 h78 n0 Zs ) eT pd_1 rfl (by rw [hml]; rfl) (by decide) 1 rfl (by decide) (by decide) (by decide) 205 rfl ?_
    intro T202 L9 v9 X hQ
    obtain ⟨rfl, N9, eT⟩ := hQ
    have N := Fr.app N N9
    show Go p e below _ T202 (mkF m 205 #[.val (.int p1), .val (.int p2), .val (.int p3), .val (.int (2 : Int32)), .val (.int v6), .val (.ref b10), .val (.int v72), .val (.int v81), .val (.int (1 : Int32))] [(.int (f3 (3 : Int32) (2 : Int32) v72 p1 v6)), (.int (ar78 3))])
    have c205 : (ar78 3) = (f3 (3 : Int32) (2 : Int32) v72 p1 v6) := own_c_2_3 _ _ _ _ e72 ear78
    refine own_icmp_ne X hx hby at_205 212 208 (by decide) rfl (fun q => absurd c205 q) (fun _ => ?_)
    refine own_iconst X hx hby (1 : Int32) at_208 rfl 209 rfl ?_
    refine own_goto X hx hby at_209 213 (by decide) ?_
    refine own_istore X hx hby at_213 rfl (l' := #[.val (.int p1), .val (.int p2), .val (.int p3), .val (.int (2 : Int32)), .val (.int v6), .val (.ref b10), .val (.int v72), .val (.int v81), .val (.int (1 : Int32))]) rfl 215 rfl ?_
    refine own_iload X hx hby (1 : Int32) at_215 rfl 217 rfl ?_
    have c217 : ¬ (1 : Int32) = (0 : Int32) := by decide
    refine own_if_eq X hx hby at_217 241 220 (by decide) rfl (fun q => absurd q c217) (fun _ => ?_)
    refine own_aload X hx hby (.ref b10) at_220 rfl rfl 222 rfl ?_
    refine own_iconst X hx hby (4 : Int32) at_222 rfl 223 rfl ?_
    refine own_baload X hx hby hZ (ar78 4) eT A_b10 (by decide) rfl at_223 224 rfl ?_
    refine own_iconst X hx hby (4 : Int32) at_224 rfl 225 rfl ?_
    refine own_iloadN X hx hby (2 : Int32) at_225 rfl 226 rfl ?_
    refine own_iload X hx hby v72 at_226 rfl 228 rfl ?_
    refine own_iloadN X hx hby p1 at_228 rfl 229 rfl ?_
    refine own_iload X hx hby v6 at_229 rfl 231 rfl ?_
    refine own_callS X hx hby hZ (st := [(.int (ar78 4))]) [(.int (4 : Int32)), (.int (2 : Int32)), (.int v72), (.int p1), (.int v6)] rfl hown (hw _ (List.mem_of_getElem? (i := 9) rfl)) (hw _ (List.mem_of_getElem? (i := 10) rfl)) (hw _ (List.mem_of_getElem? (i := 3) rfl)) (hw _ (List.mem_of_getElem? (i := 11) rfl)) (by decide) at_231 (rm3 l Z a0 hw (4 : Int32) (2 : Int32) v72 p1 v6 h78 n0 Zs ) eT pd_1 rfl (by rw [hml]; rfl) (by decide) 1 rfl (by decide) (by decide) (by decide) 234 rfl ?_
    intro T231 L9 v9 X hQ
    obtain ⟨rfl, N9, eT⟩ := hQ
    have N := Fr.app N N9
    show Go p e below _ T231 (mkF m 234 #[.val (.int p1), .val (.int p2), .val (.int p3), .val (.int (2 : Int32)), .val (.int v6), .val (.ref b10), .val (.int v72), .val (.int v81), .val (.int (1 : Int32))] [(.int (f3 (4 : Int32) (2 : Int32) v72 p1 v6)), (.int (ar78 4))])
    have c234 : (ar78 4) = (f3 (4 : Int32) (2 : Int32) v72 p1 v6) := own_c_2_4 _ _ _ _ e72 ear78
    refine own_icmp_ne X hx hby at_234 241 237 (by decide) rfl (fun q => absurd c234 q) (fun _ => ?_)
    refine own_iconst X hx hby (1 : Int32) at_237 rfl 238 rfl ?_
    refine own_goto X hx hby at_238 242 (by decide) ?_
    refine own_istore X hx hby at_242 rfl (l' := #[.val (.int p1), .val (.int p2), .val (.int p3), .val (.int (2 : Int32)), .val (.int v6), .val (.ref b10), .val (.int v72), .val (.int v81), .val (.int (1 : Int32))]) rfl 244 rfl ?_
    refine own_iload X hx hby (1 : Int32) at_244 rfl 246 rfl ?_
    have c246 : ¬ (1 : Int32) = (0 : Int32) := by decide
    refine own_if_eq X hx hby at_246 270 249 (by decide) rfl (fun q => absurd q c246) (fun _ => ?_)
    refine own_aload X hx hby (.ref b10) at_249 rfl rfl 251 rfl ?_
    refine own_iconst X hx hby (5 : Int32) at_251 rfl 252 rfl ?_
    refine own_baload X hx hby hZ (ar78 5) eT A_b10 (by decide) rfl at_252 253 rfl ?_
    refine own_iconst X hx hby (5 : Int32) at_253 rfl 254 rfl ?_
    refine own_iloadN X hx hby (2 : Int32) at_254 rfl 255 rfl ?_
    refine own_iload X hx hby v72 at_255 rfl 257 rfl ?_
    refine own_iloadN X hx hby p1 at_257 rfl 258 rfl ?_
    refine own_iload X hx hby v6 at_258 rfl 260 rfl ?_
    refine own_callS X hx hby hZ (st := [(.int (ar78 5))]) [(.int (5 : Int32)), (.int (2 : Int32)), (.int v72), (.int p1), (.int v6)] rfl hown (hw _ (List.mem_of_getElem? (i := 9) rfl)) (hw _ (List.mem_of_getElem? (i := 10) rfl)) (hw _ (List.mem_of_getElem? (i := 3) rfl)) (hw _ (List.mem_of_getElem? (i := 11) rfl)) (by decide) at_260 (rm3 l Z a0 hw (5 : Int32) (2 : Int32) v72 p1 v6 h78 n0 Zs ) eT pd_1 rfl (by rw [hml]; rfl) (by decide) 1 rfl (by decide) (by decide) (by decide) 263 rfl ?_
    intro T260 L9 v9 X hQ
    obtain ⟨rfl, N9, eT⟩ := hQ
    have N := Fr.app N N9
    show Go p e below _ T260 (mkF m 263 #[.val (.int p1), .val (.int p2), .val (.int p3), .val (.int (2 : Int32)), .val (.int v6), .val (.ref b10), .val (.int v72), .val (.int v81), .val (.int (1 : Int32))] [(.int (f3 (5 : Int32) (2 : Int32) v72 p1 v6)), (.int (ar78 5))])
    have c263 : (ar78 5) = (f3 (5 : Int32) (2 : Int32) v72 p1 v6) := own_c_2_5 _ _ _ _ e72 ear78
    refine own_icmp_ne X hx hby at_263 270 266 (by decide) rfl (fun q => absurd c263 q) (fun _ => ?_)
    refine own_iconst X hx hby (1 : Int32) at_266 rfl 267 rfl ?_
    refine own_goto X hx hby at_267 271 (by decide) ?_
    refine own_istore X hx hby at_271 rfl (l' := #[.val (.int p1), .val (.int p2), .val (.int p3), .val (.int (2 : Int32)), .val (.int v6), .val (.ref b10), .val (.int v72), .val (.int v81), .val (.int (1 : Int32))]) rfl 273 rfl ?_
    refine own_iload X hx hby (1 : Int32) at_273 rfl 275 rfl ?_
    have c275 : ¬ (1 : Int32) = (0 : Int32) := by decide
    refine own_if_eq X hx hby at_275 301 278 (by decide) rfl (fun q => absurd q c275) (fun _ => ?_)
    refine own_aload X hx hby (.ref b10) at_278 rfl rfl 280 rfl ?_
    refine own_bipush X hx hby (6 : Int32) at_280 rfl 282 rfl ?_
    refine own_baload X hx hby hZ (ar78 6) eT A_b10 (by decide) rfl at_282 283 rfl ?_
    refine own_bipush X hx hby (6 : Int32) at_283 rfl 285 rfl ?_
    refine own_iloadN X hx hby (2 : Int32) at_285 rfl 286 rfl ?_
    refine own_iload X hx hby v72 at_286 rfl 288 rfl ?_
    refine own_iloadN X hx hby p1 at_288 rfl 289 rfl ?_
    refine own_iload X hx hby v6 at_289 rfl 291 rfl ?_
    refine own_callS X hx hby hZ (st := [(.int (ar78 6))]) [(.int (6 : Int32)), (.int (2 : Int32)), (.int v72), (.int p1), (.int v6)] rfl hown (hw _ (List.mem_of_getElem? (i := 9) rfl)) (hw _ (List.mem_of_getElem? (i := 10) rfl)) (hw _ (List.mem_of_getElem? (i := 3) rfl)) (hw _ (List.mem_of_getElem? (i := 11) rfl)) (by decide) at_291 (rm3 l Z a0 hw (6 : Int32) (2 : Int32) v72 p1 v6 h78 n0 Zs ) eT pd_1 rfl (by rw [hml]; rfl) (by decide) 1 rfl (by decide) (by decide) (by decide) 294 rfl ?_
    intro T291 L9 v9 X hQ
    obtain ⟨rfl, N9, eT⟩ := hQ
    have N := Fr.app N N9
    show Go p e below _ T291 (mkF m 294 #[.val (.int p1), .val (.int p2), .val (.int p3), .val (.int (2 : Int32)), .val (.int v6), .val (.ref b10), .val (.int v72), .val (.int v81), .val (.int (1 : Int32))] [(.int (f3 (6 : Int32) (2 : Int32) v72 p1 v6)), (.int (ar78 6))])
    have c294 : (ar78 6) = (f3 (6 : Int32) (2 : Int32) v72 p1 v6) := own_c_2_6 _ _ _ _ e72 ear78
    refine own_icmp_ne X hx hby at_294 301 297 (by decide) rfl (fun q => absurd c294 q) (fun _ => ?_)
    refine own_iconst X hx hby (1 : Int32) at_297 rfl 298 rfl ?_
    refine own_goto X hx hby at_298 302 (by decide) ?_
    refine own_istore X hx hby at_302 rfl (l' := #[.val (.int p1), .val (.int p2), .val (.int p3), .val (.int (2 : Int32)), .val (.int v6), .val (.ref b10), .val (.int v72), .val (.int v81), .val (.int (1 : Int32))]) rfl 304 rfl ?_
    refine own_iload X hx hby (1 : Int32) at_304 rfl 306 rfl ?_
    have c306 : ¬ (1 : Int32) = (0 : Int32) := by decide
    refine own_if_eq X hx hby at_306 332 309 (by decide) rfl (fun q => absurd q c306) (fun _ => ?_)
    refine own_aload X hx hby (.ref b10) at_309 rfl rfl 311 rfl ?_
    refine own_bipush X hx hby (7 : Int32) at_311 rfl 313 rfl ?_
    refine own_baload X hx hby hZ (ar78 7) eT A_b10 (by decide) rfl at_313 314 rfl ?_
    refine own_bipush X hx hby (7 : Int32) at_314 rfl 316 rfl ?_
    refine own_iloadN X hx hby (2 : Int32) at_316 rfl 317 rfl ?_
    refine own_iload X hx hby v72 at_317 rfl 319 rfl ?_
    refine own_iloadN X hx hby p1 at_319 rfl 320 rfl ?_
    refine own_iload X hx hby v6 at_320 rfl 322 rfl ?_
    refine own_callS X hx hby hZ (st := [(.int (ar78 7))]) [(.int (7 : Int32)), (.int (2 : Int32)), (.int v72), (.int p1), (.int v6)] rfl hown (hw _ (List.mem_of_getElem? (i := 9) rfl)) (hw _ (List.mem_of_getElem? (i := 10) rfl)) (hw _ (List.mem_of_getElem? (i := 3) rfl)) (hw _ (List.mem_of_getElem? (i := 11) rfl)) (by decide) at_322 (rm3 l Z a0 hw (7 : Int32) (2 : Int32) v72 p1 v6 h78 n0 Zs ) eT pd_1 rfl (by rw [hml]; rfl) (by decide) 1 rfl (by decide) (by decide) (by decide) 325 rfl ?_
    intro T322 L9 v9 X hQ
    obtain ⟨rfl, N9, eT⟩ := hQ
    have N := Fr.app N N9
    show Go p e below _ T322 (mkF m 325 #[.val (.int p1), .val (.int p2), .val (.int p3), .val (.int (2 : Int32)), .val (.int v6), .val (.ref b10), .val (.int v72), .val (.int v81), .val (.int (1 : Int32))] [(.int (f3 (7 : Int32) (2 : Int32) v72 p1 v6)), (.int (ar78 7))])
    have c325 : (ar78 7) = (f3 (7 : Int32) (2 : Int32) v72 p1 v6) := own_c_2_7 _ _ _ _ e72 ear78
    refine own_icmp_ne X hx hby at_325 332 328 (by decide) rfl (fun q => absurd c325 q) (fun _ => ?_)
    refine own_iconst X hx hby (1 : Int32) at_328 rfl 329 rfl ?_
    refine own_goto X hx hby at_329 333 (by decide) ?_
    refine own_istore X hx hby at_333 rfl (l' := #[.val (.int p1), .val (.int p2), .val (.int p3), .val (.int (2 : Int32)), .val (.int v6), .val (.ref b10), .val (.int v72), .val (.int v81), .val (.int (1 : Int32))]) rfl 335 rfl ?_
    refine own_iload X hx hby (1 : Int32) at_335 rfl 337 rfl ?_
    have c337 : ¬ (1 : Int32) = (0 : Int32) := by decide
    refine own_if_eq X hx hby at_337 363 340 (by decide) rfl (fun q => absurd q c337) (fun _ => ?_)
    refine own_aload X hx hby (.ref b10) at_340 rfl rfl 342 rfl ?_
    refine own_bipush X hx hby (8 : Int32) at_342 rfl 344 rfl ?_
    refine own_baload X hx hby hZ (ar78 8) eT A_b10 (by decide) rfl at_344 345 rfl ?_
    refine own_bipush X hx hby (8 : Int32) at_345 rfl 347 rfl ?_
    refine own_iloadN X hx hby (2 : Int32) at_347 rfl 348 rfl ?_
    refine own_iload X hx hby v72 at_348 rfl 350 rfl ?_
    refine own_iloadN X hx hby p1 at_350 rfl 351 rfl ?_
    refine own_iload X hx hby v6 at_351 rfl 353 rfl ?_
    refine own_callS X hx hby hZ (st := [(.int (ar78 8))]) [(.int (8 : Int32)), (.int (2 : Int32)), (.int v72), (.int p1), (.int v6)] rfl hown (hw _ (List.mem_of_getElem? (i := 9) rfl)) (hw _ (List.mem_of_getElem? (i := 10) rfl)) (hw _ (List.mem_of_getElem? (i := 3) rfl)) (hw _ (List.mem_of_getElem? (i := 11) rfl)) (by decide) at_353 (rm3 l Z a0 hw (8 : Int32) (2 : Int32) v72 p1 v6 h78 n0 Zs ) eT pd_1 rfl (by rw [hml]; rfl) (by decide) 1 rfl (by decide) (by decide) (by decide) 356 rfl ?_
    intro T353 L9 v9 X hQ
    obtain ⟨rfl, N9, eT⟩ := hQ
    have N := Fr.app N N9
    show Go p e below _ T353 (mkF m 356 #[.val (.int p1), .val (.int p2), .val (.int p3), .val (.int (2 : Int32)), .val (.int v6), .val (.ref b10), .val (.int v72), .val (.int v81), .val (.int (1 : Int32))] [(.int (f3 (8 : Int32) (2 : Int32) v72 p1 v6)), (.int (ar78 8))])
    have c356 : (ar78 8) = (f3 (8 : Int32) (2 : Int32) v72 p1 v6) := own_c_2_8 _ _ _ _ e72 ear78
    refine own_icmp_ne X hx hby at_356 363 359 (by decide) rfl (fun q => absurd c356 q) (fun _ => ?_)
    refine own_iconst X hx hby (1 : Int32) at_359 rfl 360 rfl ?_
    refine own_goto X hx hby at_360 364 (by decide) ?_
    refine own_istore X hx hby at_364 rfl (l' := #[.val (.int p1), .val (.int p2), .val (.int p3), .val (.int (2 : Int32)), .val (.int v6), .val (.ref b10), .val (.int v72), .val (.int v81), .val (.int (1 : Int32))]) rfl 366 rfl ?_
    refine own_iload X hx hby (1 : Int32) at_366 rfl 368 rfl ?_
    have c368 : ¬ (1 : Int32) = (0 : Int32) := by decide
    refine own_if_eq X hx hby at_368 394 371 (by decide) rfl (fun q => absurd q c368) (fun _ => ?_)
    refine own_aload X hx hby (.ref b10) at_371 rfl rfl 373 rfl ?_
    refine own_bipush X hx hby (9 : Int32) at_373 rfl 375 rfl ?_
    refine own_baload X hx hby hZ (ar78 9) eT A_b10 (by decide) rfl at_375 376 rfl ?_
    refine own_bipush X hx hby (9 : Int32) at_376 rfl 378 rfl ?_
    refine own_iloadN X hx hby (2 : Int32) at_378 rfl 379 rfl ?_
    refine own_iload X hx hby v72 at_379 rfl 381 rfl ?_
    refine own_iloadN X hx hby p1 at_381 rfl 382 rfl ?_
    refine own_iload X hx hby v6 at_382 rfl 384 rfl ?_
    refine own_callS X hx hby hZ (st := [(.int (ar78 9))]) [(.int (9 : Int32)), (.int (2 : Int32)), (.int v72), (.int p1), (.int v6)] rfl hown (hw _ (List.mem_of_getElem? (i := 9) rfl)) (hw _ (List.mem_of_getElem? (i := 10) rfl)) (hw _ (List.mem_of_getElem? (i := 3) rfl)) (hw _ (List.mem_of_getElem? (i := 11) rfl)) (by decide) at_384 (rm3 l Z a0 hw (9 : Int32) (2 : Int32) v72 p1 v6 h78 n0 Zs ) eT pd_1 rfl (by rw [hml]; rfl) (by decide) 1 rfl (by decide) (by decide) (by decide) 387 rfl ?_
    intro T384 L9 v9 X hQ
    obtain ⟨rfl, N9, eT⟩ := hQ
    have N := Fr.app N N9
    show Go p e below _ T384 (mkF m 387 #[.val (.int p1), .val (.int p2), .val (.int p3), .val (.int (2 : Int32)), .val (.int v6), .val (.ref b10), .val (.int v72), .val (.int v81), .val (.int (1 : Int32))] [(.int (f3 (9 : Int32) (2 : Int32) v72 p1 v6)), (.int (ar78 9))])
    have c387 : (ar78 9) = (f3 (9 : Int32) (2 : Int32) v72 p1 v6) := own_c_2_9 _ _ _ _ e72 ear78
    refine own_icmp_ne X hx hby at_387 394 390 (by decide) rfl (fun q => absurd c387 q) (fun _ => ?_)
    refine own_iconst X hx hby (1 : Int32) at_390 rfl 391 rfl ?_
    refine own_goto X hx hby at_391 395 (by decide) ?_
    refine own_istore X hx hby at_395 rfl (l' := #[.val (.int p1), .val (.int p2), .val (.int p3), .val (.int (2 : Int32)), .val (.int v6), .val (.ref b10), .val (.int v72), .val (.int v81), .val (.int (1 : Int32))]) rfl 397 rfl ?_
    refine own_iload X hx hby (1 : Int32) at_397 rfl 399 rfl ?_
    refine own_retN X hx hby hret hlk (t := .boolean) (z' := (1 : Int32)) (by simp) at_399 (by decide) (by decide) rfl ?_
    rw [eT]
    exact ⟨rfl, N⟩
  · skip
    refine own_iloadN X hx hby p3 at_4 rfl 5 rfl ?_
    refine own_i2b X hx hby at_5 6 rfl ?_
    obtain ⟨v6, e6⟩ : ∃ z : Int32, (p3.toInt8.toInt32) = z := ⟨_, rfl⟩
    refine own_istore X hx hby at_6 e6 (l' := #[.val (.int p1), .val (.int p2), .val (.int p3), .val (.int (3 : Int32)), .val (.int v6), .unset, .unset, .unset, .unset]) rfl 8 rfl ?_
    refine own_bipush X hx hby (10 : Int32) at_8 rfl 10 rfl ?_
    refine own_newarray X hx hby hZ (hw _ (List.mem_of_getElem? (i := 0) rfl)) eT at_10 (z := (10 : Int32)) (by decide) (n := 10) rfl (cap := 10) (by decide) (by decide) (by decide) (by decide) (ad := "[B") rfl 12 rfl ?_
    intro T10 h10 b10 gb10 X eT Ex A A2
    have g_b10 : n0 ≤ b10 := by rw [gb10]; exact Zs
    have sz_b10 : h0.size ≤ b10 := by rw [gb10]; exact K.1
    have A_b10 : Afi Z h10 b10 .byte 10 (fun _ => (0 : Int32)) := A
    have E_b10 := A2
    have K := K.ext Ex
    have Zs := Nat.le_trans Zs Ex.1
    refine own_dup X hx hby at_12 rfl 13 rfl ?_
    refine own_iconst X hx hby (0 : Int32) at_13 rfl 14 rfl ?_
    refine own_iload X hx hby v6 at_14 rfl 16 rfl ?_
    refine own_bastore X hx hby hZ eT A_b10 (by decide) at_16 17 rfl ?_
    intro T16 h16 X eT W A
    have E_b10 := E_b10.wr W
    have A_b10 : Afi Z h16 b10 .byte 10 (updI (fun _ => (0 : Int32)) 0 (nar .byte v6)) := A
    have N := Fr.snoc X N g_b10
    have K := K.wr W (Or.inr sz_b10)
    have Zs := Nat.le_trans Zs (Keep.of_wr W).1
    refine own_dup X hx hby at_17 rfl 18 rfl ?_
    refine own_iconst X hx hby (1 : Int32) at_18 rfl 19 rfl ?_
    refine own_iload X hx hby v6 at_19 rfl 21 rfl ?_
    refine own_bastore X hx hby hZ eT A_b10 (by decide) at_21 22 rfl ?_
    intro T21 h21 X eT W A
    have E_b10 := E_b10.wr W
    have A_b10 : Afi Z h21 b10 .byte 10 (updI (updI (fun _ => (0 : Int32)) 0 (nar .byte v6)) 1 (nar .byte v6)) := A
    have N := Fr.snoc X N g_b10
    have K := K.wr W (Or.inr sz_b10)
    have Zs := Nat.le_trans Zs (Keep.of_wr W).1
    refine own_dup X hx hby at_22 rfl 23 rfl ?_
    refine own_iconst X hx hby (2 : Int32) at_23 rfl 24 rfl ?_
    refine own_iload X hx hby v6 at_24 rfl 26 rfl ?_
    refine own_bastore X hx hby hZ eT A_b10 (by decide) at_26 27 rfl ?_
    intro T26 h26 X eT W A
    have E_b10 := E_b10.wr W
    have A_b10 : Afi Z h26 b10 .byte 10 (updI (updI (updI (fun _ => (0 : Int32)) 0 (nar .byte v6)) 1 (nar .byte v6)) 2 (nar .byte v6)) := A
    have N := Fr.snoc X N g_b10
    have K := K.wr W (Or.inr sz_b10)
    have Zs := Nat.le_trans Zs (Keep.of_wr W).1
    refine own_dup X hx hby at_27 rfl 28 rfl ?_
    refine own_iconst X hx hby (3 : Int32) at_28 rfl 29 rfl ?_
    refine own_iload X hx hby v6 at_29 rfl 31 rfl ?_
    refine own_bastore X hx hby hZ eT A_b10 (by decide) at_31 32 rfl ?_
    intro T31 h31 X eT W A
    have E_b10 := E_b10.wr W
    have A_b10 : Afi Z h31 b10 .byte 10 (updI (updI (updI (updI (fun _ => (0 : Int32)) 0 (nar .byte v6)) 1 (nar .byte v6)) 2 (nar .byte v6)) 3 (nar .byte v6)) := A
    have N := Fr.snoc X N g_b10
    have K := K.wr W (Or.inr sz_b10)
    have Zs := Nat.le_trans Zs (Keep.of_wr W).1
    refine own_dup X hx hby at_32 rfl 33 rfl ?_
    refine own_iconst X hx hby (4 : Int32) at_33 rfl 34 rfl ?_
    refine own_iload X hx hby v6 at_34 rfl 36 rfl ?_
    refine own_bastore X hx hby hZ eT A_b10 (by decide) at_36 37 rfl ?_
    intro T36 h36 X eT W A
    have E_b10 := E_b10.wr W
    have A_b10 : Afi Z h36 b10 .byte 10 (updI (updI (updI (updI (updI (fun _ => (0 : Int32)) 0 (nar .byte v6)) 1 (nar .byte v6)) 2 (nar .byte v6)) 3 (nar .byte v6)) 4 (nar .byte v6)) := A
    have N := Fr.snoc X N g_b10
    have K := K.wr W (Or.inr sz_b10)
    have Zs := Nat.le_trans Zs (Keep.of_wr W).1
    refine own_dup X hx hby at_37 rfl 38 rfl ?_
    refine own_iconst X hx hby (5 : Int32) at_38 rfl 39 rfl ?_
    refine own_iload X hx hby v6 at_39 rfl 41 rfl ?_
    refine own_bastore X hx hby hZ eT A_b10 (by decide) at_41 42 rfl ?_
    intro T41 h41 X eT W A
    have E_b10 := E_b10.wr W
    have A_b10 : Afi Z h41 b10 .byte 10 (updI (updI (updI (updI (updI (updI (fun _ => (0 : Int32)) 0 (nar .byte v6)) 1 (nar .byte v6)) 2 (nar .byte v6)) 3 (nar .byte v6)) 4 (nar .byte v6)) 5 (nar .byte v6)) := A
    have N := Fr.snoc X N g_b10
    have K := K.wr W (Or.inr sz_b10)
    have Zs := Nat.le_trans Zs (Keep.of_wr W).1
    refine own_dup X hx hby at_42 rfl 43 rfl ?_
    refine own_bipush X hx hby (6 : Int32) at_43 rfl 45 rfl ?_
    refine own_iload X hx hby v6 at_45 rfl 47 rfl ?_
    refine own_bastore X hx hby hZ eT A_b10 (by decide) at_47 48 rfl ?_
    intro T47 h47 X eT W A
    have E_b10 := E_b10.wr W
    have A_b10 : Afi Z h47 b10 .byte 10 (updI (updI (updI (updI (updI (updI (updI (fun _ => (0 : Int32)) 0 (nar .byte v6)) 1 (nar .byte v6)) 2 (nar .byte v6)) 3 (nar .byte v6)) 4 (nar .byte v6)) 5 (nar .byte v6)) 6 (nar .byte v6)) := A
    have N := Fr.snoc X N g_b10
    have K := K.wr W (Or.inr sz_b10)
    have Zs := Nat.le_trans Zs (Keep.of_wr W).1
    refine own_dup X hx hby at_48 rfl 49 rfl ?_
    refine own_bipush X hx hby (7 : Int32) at_49 rfl 51 rfl ?_
    refine own_iload X hx hby v6 at_51 rfl 53 rfl ?_
    refine own_bastore X hx hby hZ eT A_b10 (by decide) at_53 54 rfl ?_
    intro T53 h53 X eT W A
    have E_b10 := E_b10.wr W
    have A_b10 : Afi Z h53 b10 .byte 10 (updI (updI (updI (updI (updI (updI (updI (updI (fun _ => (0 : Int32)) 0 (nar .byte v6)) 1 (nar .byte v6)) 2 (nar .byte v6)) 3 (nar .byte v6)) 4 (nar .byte v6)) 5 (nar .byte v6)) 6 (nar .byte v6)) 7 (nar .byte v6)) := A
    have N := Fr.snoc X N g_b10
    have K := K.wr W (Or.inr sz_b10)
    have Zs := Nat.le_trans Zs (Keep.of_wr W).1
    refine own_dup X hx hby at_54 rfl 55 rfl ?_
    refine own_bipush X hx hby (8 : Int32) at_55 rfl 57 rfl ?_
    refine own_iload X hx hby v6 at_57 rfl 59 rfl ?_
    refine own_bastore X hx hby hZ eT A_b10 (by decide) at_59 60 rfl ?_
    intro T59 h59 X eT W A
    have E_b10 := E_b10.wr W
    have A_b10 : Afi Z h59 b10 .byte 10 (updI (updI (updI (updI (updI (updI (updI (updI (updI (fun _ => (0 : Int32)) 0 (nar .byte v6)) 1 (nar .byte v6)) 2 (nar .byte v6)) 3 (nar .byte v6)) 4 (nar .byte v6)) 5 (nar .byte v6)) 6 (nar .byte v6)) 7 (nar .byte v6)) 8 (nar .byte v6)) := A
    have N := Fr.snoc X N g_b10
    have K := K.wr W (Or.inr sz_b10)
    have Zs := Nat.le_trans Zs (Keep.of_wr W).1
    refine own_dup X hx hby at_60 rfl 61 rfl ?_
    refine own_bipush X hx hby (9 : Int32) at_61 rfl 63 rfl ?_
    refine own_iload X hx hby v6 at_63 rfl 65 rfl ?_
    refine own_bastore X hx hby hZ eT A_b10 (by decide) at_65 66 rfl ?_
    intro T65 h65 X eT W A
    have E_b10 := E_b10.wr W
    have A_b10 : Afi Z h65 b10 .byte 10 (updI (updI (updI (updI (updI (updI (updI (updI (updI (updI (fun _ => (0 : Int32)) 0 (nar .byte v6)) 1 (nar .byte v6)) 2 (nar .byte v6)) 3 (nar .byte v6)) 4 (nar .byte v6)) 5 (nar .byte v6)) 6 (nar .byte v6)) 7 (nar .byte v6)) 8 (nar .byte v6)) 9 (nar .byte v6)) := A
    have N := Fr.snoc X N g_b10
    have K := K.wr W (Or.inr sz_b10)
    have Zs := Nat.le_trans Zs (Keep.of_wr W).1
    refine own_astore X hx hby at_66 rfl (l' := #[.val (.int p1), .val (.int p2), .val (.int p3), .val (.int (3 : Int32)), .val (.int v6), .val (.ref b10), .unset, .unset, .unset]) rfl 68 rfl ?_
    refine own_iloadN X hx hby p1 at_68 rfl 69 rfl ?_
    refine own_callS X hx hby hZ (st := []) [(.int p1)] rfl hown (hw _ (List.mem_of_getElem? (i := 1) rfl)) (hw _ (List.mem_of_getElem? (i := 2) rfl)) (hw _ (List.mem_of_getElem? (i := 3) rfl)) (hw _ (List.mem_of_getElem? (i := 4) rfl)) (by decide) at_69 (rm1 l Z a0 hw p1 h65 n0 Zs ) eT pd_0 rfl (by rw [hml]; rfl) (by decide) 0 rfl (by decide) (by decide) (by decide) 72 rfl ?_
    intro T69 L9 v9 X hQ
    obtain ⟨rfl, N9, eT⟩ := hQ
    have N := Fr.app N N9
    show Go p e below _ T69 (mkF m 72 #[.val (.int p1), .val (.int p2), .val (.int p3), .val (.int (3 : Int32)), .val (.int v6), .val (.ref b10), .unset, .unset, .unset] [(.int (f1 p1))])
    obtain ⟨v72, e72⟩ : ∃ z : Int32, (f1 p1) = z := ⟨_, rfl⟩
    refine own_istore X hx hby at_72 e72 (l' := #[.val (.int p1), .val (.int p2), .val (.int p3), .val (.int (3 : Int32)), .val (.int v6), .val (.ref b10), .val (.int v72), .unset, .unset]) rfl 74 rfl ?_
    refine own_aload X hx hby (.ref b10) at_74 rfl rfl 76 rfl ?_
    refine own_iloadN X hx hby (3 : Int32) at_76 rfl 77 rfl ?_
    refine own_iloadN X hx hby p1 at_77 rfl 78 rfl ?_
    refine own_callS X hx hby hZ (st := []) [(.ref b10), (.int (3 : Int32)), (.int p1)] rfl hown (hw _ (List.mem_of_getElem? (i := 5) rfl)) (hw _ (List.mem_of_getElem? (i := 6) rfl)) (hw _ (List.mem_of_getElem? (i := 7) rfl)) (hw _ (List.mem_of_getElem? (i := 8) rfl)) (by decide) at_78 (rm2_3 l Z a0 hw b10 p1 (updI (updI (updI (updI (updI (updI (updI (updI (updI (updI (fun _ => (0 : Int32)) 0 (nar .byte v6)) 1 (nar .byte v6)) 2 (nar .byte v6)) 3 (nar .byte v6)) 4 (nar .byte v6)) 5 (nar .byte v6)) 6 (nar .byte v6)) 7 (nar .byte v6)) 8 (nar .byte v6)) 9 (nar .byte v6)) h65 n0 Zs A_b10 E_b10 g_b10) eT pd_2 rfl (by rw [hml]; rfl) (by decide) 0 rfl (by decide) (by decide) (by decide) 81 rfl ?_
    intro T78 L9 v9 X hQ
    obtain ⟨h78, eT⟩ : ∃ z, T78.heap = z := ⟨_, rfl⟩
    rw [eT] at hQ
    obtain ⟨rfl, N9, Kc, A_b10, E_b10⟩ := hQ
    obtain ⟨ar78, ear78⟩ : ∃ z : Nat → Int32, (f2_3_ar_a1 p1 (updI (updI (updI (updI (updI (updI (updI (updI (updI (updI (fun _ => (0 : Int32)) 0 (nar .byte v6)) 1 (nar .byte v6)) 2 (nar .byte v6)) 3 (nar .byte v6)) 4 (nar .byte v6)) 5 (nar .byte v6)) 6 (nar .byte v6)) 7 (nar .byte v6)) 8 (nar .byte v6)) 9 (nar .byte v6))) = z := ⟨_, rfl⟩
    rw [ear78] at A_b10
    have K := K.trans Kc (allS (Or.inr sz_b10) all0)
    have Zs := Nat.le_trans Zs Kc.1
    have N := Fr.app N N9
    show Go p e below _ T78 (mkF m 81 #[.val (.int p1), .val (.int p2), .val (.int p3), .val (.int (3 : Int32)), .val (.int v6), .val (.ref b10), .val (.int v72), .unset, .unset] [(.int (f2_3 p1))])
    obtain ⟨v81, e81⟩ : ∃ z : Int32, (f2_3 p1) = z := ⟨_, rfl⟩
    refine own_istore X hx hby at_81 e81 (l' := #[.val (.int p1), .val (.int p2), .val (.int p3), .val (.int (3 : Int32)), .val (.int v6), .val (.ref b10), .val (.int v72), .val (.int v81), .unset]) rfl 83 rfl ?_
    refine own_iload X hx hby v81 at_83 rfl 85 rfl ?_
    refine own_iloadN X hx hby (3 : Int32) at_85 rfl 86 rfl ?_
    refine own_iload X hx hby v72 at_86 rfl 88 rfl ?_
    refine own_iadd X hx hby at_88 89 rfl ?_
    have c89 : v81 = ((3 : Int32) + v72) := own_r_3 _ _ _ e72 e81
    refine own_icmp_ne X hx hby at_89 96 92 (by decide) rfl (fun q => absurd c89 q) (fun _ => ?_)
    refine own_iconst X hx hby (1 : Int32) at_92 rfl 93 rfl ?_
    refine own_goto X hx hby at_93 97 (by decide) ?_
    refine own_istore X hx hby at_97 rfl (l' := #[.val (.int p1), .val (.int p2), .val (.int p3), .val (.int (3 : Int32)), .val (.int v6), .val (.ref b10), .val (.int v72), .val (.int v81), .val (.int (1 : Int32))]) rfl 99 rfl ?_
    refine own_iload X hx hby (1 : Int32) at_99 rfl 101 rfl ?_
    have c101 : ¬ (1 : Int32) = (0 : Int32) := by decide
    refine own_if_eq X hx hby at_101 125 104 (by decide) rfl (fun q => absurd q c101) (fun _ => ?_)
    refine own_aload X hx hby (.ref b10) at_104 rfl rfl 106 rfl ?_
    refine own_iconst X hx hby (0 : Int32) at_106 rfl 107 rfl ?_
    refine own_baload X hx hby hZ (ar78 0) eT A_b10 (by decide) rfl at_107 108 rfl ?_
    refine own_iconst X hx hby (0 : Int32) at_108 rfl 109 rfl ?_
    refine own_iloadN X hx hby (3 : Int32) at_109 rfl 110 rfl ?_
    refine own_iload X hx hby v72 at_110 rfl 112 rfl ?_
    refine own_iloadN X hx hby p1 at_112 rfl 113 rfl ?_
    refine own_iload X hx hby v6 at_113 rfl 115 rfl ?_
    refine own_callS X hx hby hZ (st := [(.int (ar78 0))]) [(.int (0 : Int32)), (.int (3 : Int32)), (.int v72), (.int p1), (.int v6)] rfl hown (hw _ (List.mem_of_getElem? (i := 9) rfl)) (hw _ (List.mem_of_getElem? (i := 10) rfl)) (hw _ (List.mem_of_getElem? (i := 3) rfl)) (hw _ (List.mem_of_getElem? (i := 11) rfl)) (by decide) at_115 (rm3 l Z a0 hw (0 : Int32) (3 : Int32) v72 p1 v6 h78 n0 Zs ) eT pd_1 rfl (by rw [hml]; rfl) (by decide) 1 rfl (by decide) (by decide) (by decide) 118 rfl ?_
    intro T115 L9 v9 X hQ
    obtain ⟨rfl, N9, eT⟩ := hQ
    have N := Fr.app N N9
    show Go p e below _ T115 (mkF m 118 #[.val (.int p1), .val (.int p2), .val (.int p3), .val (.int (3 : Int32)), .val (.int v6), .val (.ref b10), .val (.int v72), .val (.int v81), .val (.int (1 : Int32))] [(.int (f3 (0 : Int32) (3 : Int32) v72 p1 v6)), (.int (ar78 0))])
    have c118 : (ar78 0) = (f3 (0 : Int32) (3 : Int32) v72 p1 v6) := own_c_3_0 _ _ _ _ e72 ear78
    refine own_icmp_ne X hx hby at_118 125 121 (by decide) rfl (fun q => absurd c118 q) (fun _ => ?_)
    refine own_iconst X hx hby (1 : Int32) at_121 rfl 122 rfl ?_
    refine own_goto X hx hby at_122 126 (by decide) ?_
    refine own_istore X hx hby at_126 rfl (l' := #[.val (.int p1), .val (.int p2), .val (.int p3), .val (.int (3 : Int32)), .val (.int v6), .val (.ref b10), .val (.int v72), .val (.int v81), .val (.int (1 : Int32))]) rfl 128 rfl ?_
    refine own_iload X hx hby (1 : Int32) at_128 rfl 130 rfl ?_
    have c130 : ¬ (1 : Int32) = (0 : Int32) := by decide
    refine own_if_eq X hx hby at_130 154 133 (by decide) rfl (fun q => absurd q c130) (fun _ => ?_)
    refine own_aload X hx hby (.ref b10) at_133 rfl rfl 135 rfl ?_
    refine own_iconst X hx hby (1 : Int32) at_135 rfl 136 rfl ?_
    refine own_baload X hx hby hZ (ar78 1) eT A_b10 (by decide) rfl at_136 137 rfl ?_
    refine own_iconst X hx hby (1 : Int32) at_137 rfl 138 rfl ?_
    refine own_iloadN X hx hby (3 : Int32) at_138 rfl 139 rfl ?_
    refine own_iload X hx hby v72 at_139 rfl 141 rfl ?_
    refine own_iloadN X hx hby p1 at_141 rfl 142 rfl ?_
    refine own_iload X hx hby v6 at_142 rfl 144 rfl ?_
    refine own_callS X hx hby hZ (st := [(.int (ar78 1))]) [(.int (1 : Int32)), (.int (3 : Int32)), (.int v72), (.int p1), (.int v6)] rfl hown (hw _ (List.mem_of_getElem? (i := 9) rfl)) (hw _ (List.mem_of_getElem? (i := 10) rfl)) (hw _ (List.mem_of_getElem? (i := 3) rfl)) (hw _ (List.mem_of_getElem? (i := 11) rfl)) (by decide) at_144 (rm3 l Z a0 hw (1 : Int32) (3 : Int32) v72 p1 v6 h78 n0 Zs ) eT pd_1 rfl (by rw [hml]; rfl) (by decide) 1 rfl (by decide) (by decide) (by decide) 147 rfl ?_
    intro T144 L9 v9 X hQ
    obtain ⟨rfl, N9, eT⟩ := hQ
    have N := Fr.app N N9
    show Go p e below _ T144 (mkF m 147 #[.val (.int p1), .val (.int p2), .val (.int p3), .val (.int (3 : Int32)), .val (.int v6), .val (.ref b10), .val (.int v72), .val (.int v81), .val (.int (1 : Int32))] [(.int (f3 (1 : Int32) (3 : Int32) v72 p1 v6)), (.int (ar78 1))])
    have c147 : (ar78 1) = (f3 (1 : Int32) (3 : Int32) v72 p1 v6) := own_c_3_1 _ _ _ _ e72 ear78
    refine own_icmp_ne X hx hby at_147 154 150 (by decide) rfl (fun q => absurd c147 q) (fun _ => ?_)
    refine own_iconst X hx hby (1 : Int32) at_150 rfl 151 rfl ?_
    refine own_goto X hx hby at_151 155 (by decide) ?_
    refine own_istore X hx hby at_155 rfl (l' := #[.val (.int p1), .val (.int p2), .val (.int p3), .val (.int (3 : Int32)), .val (.int v6), .val (.ref b10), .val (.int v72), .val (.int v81), .val (.int (1 : Int32))]) rfl 157 rfl ?_
    refine own_iload X hx hby (1 : Int32) at_157 rfl 159 rfl ?_
    have c159 : ¬ (1 : Int32) = (0 : Int32) := by decide
    refine own_if_eq X hx hby at_159 183 162 (by decide) rfl (fun q => absurd q c159) (fun _ => ?_)
    refine own_aload X hx hby (.ref b10) at_162 rfl rfl 164 rfl ?_
    refine own_iconst X hx hby (2 : Int32) at_164 rfl 165 rfl ?_
    refine own_baload X hx hby hZ (ar78 2) eT A_b10 (by decide) rfl at_165 166 rfl ?_
    refine own_iconst X hx hby (2 : Int32) at_166 rfl 167 rfl ?_
    refine own_iloadN X hx hby (3 : Int32) at_167 rfl 168 rfl ?_
    refine own_iload X hx hby v72 at_168 rfl 170 rfl ?_
    refine own_iloadN X hx hby p1 at_170 rfl 171 rfl ?_
    refine own_iload X hx hby v6 at_171 rfl 173 rfl ?_
    refine own_callS X hx hby hZ (st := [(.int (ar78 2))]) [(.int (2 : Int32)), (.int (3 : Int32)), (.int v72), (.int p1), (.int v6)] rfl hown (hw _ (List.mem_of_getElem? (i := 9) rfl)) (hw _ (List.mem_of_getElem? (i := 10) rfl)) (hw _ (List.mem_of_getElem? (i := 3) rfl)) (hw _ (List.mem_of_getElem? (i := 11) rfl)) (by decide) at_173 (rm3 l Z a0 hw (2 : Int32) (3 : Int32) v72 p1 v6 h78 n0 Zs ) eT pd_1 rfl (by rw [hml]; rfl) (by decide) 1 rfl (by decide) (by decide) (by decide) 176 rfl ?_
    intro T173 L9 v9 X hQ
    obtain ⟨rfl, N9, eT⟩ := hQ
    have N := Fr.app N N9
    show Go p e below _ T173 (mkF m 176 #[.val (.int p1), .val (.int p2), .val (.int p3), .val (.int (3 : Int32)), .val (.int v6), .val (.ref b10), .val (.int v72), .val (.int v81), .val (.int (1 : Int32))] [(.int (f3 (2 : Int32) (3 : Int32) v72 p1 v6)), (.int (ar78 2))])
    have c176 : (ar78 2) = (f3 (2 : Int32) (3 : Int32) v72 p1 v6) := own_c_3_2 _ _ _ _ e72 ear78
    refine own_icmp_ne X hx hby at_176 183 179 (by decide) rfl (fun q => absurd c176 q) (fun _ => ?_)
    refine own_iconst X hx hby (1 : Int32) at_179 rfl 180 rfl ?_
    refine own_goto X hx hby at_180 184 (by decide) ?_
    refine own_istore X hx hby at_184 rfl (l' := #[.val (.int p1), .val (.int p2), .val (.int p3), .val (.int (3 : Int32)), .val (.int v6), .val (.ref b10), .val (.int v72), .val (.int v81), .val (.int (1 : Int32))]) rfl 186 rfl ?_
    refine own_iload X hx hby (1 : Int32) at_186 rfl 188 rfl ?_
    have c188 : ¬ (1 : Int32) = (0 : Int32) := by decide
    refine own_if_eq X hx hby at_188 212 191 (by decide) rfl (fun q => absurd q c188) (fun _ => ?_)
    refine own_aload X hx hby (.ref b10) at_191 rfl rfl 193 rfl ?_
    refine own_iconst X hx hby (3 : Int32) at_193 rfl 194 rfl ?_
    refine own_baload X hx hby hZ (ar78 3) eT A_b10 (by decide) rfl at_194 195 rfl ?_
    refine own_iconst X hx hby (3 : Int32) at_195 rfl 196 rfl ?_
    refine own_iloadN X hx hby (3 : Int32) at_196 rfl 197 rfl ?_
    refine own_iload X hx hby v72 at_197 rfl 199 rfl ?_
    refine own_iloadN X hx hby p1 at_199 rfl 200 rfl ?_
    refine own_iload X hx hby v6 at_200 rfl 202 rfl ?_
    refine own_callS X hx hby hZ (st := [(.int (ar78 3))]) [(.int (3 : Int32)), (.int (3 : Int32)), (.int v72), (.int p1), (.int v6)] rfl hown (hw _ (List.mem_of_getElem? (i := 9) rfl)) (hw _ (List.mem_of_getElem? (i := 10) rfl)) (hw _ (List.mem_of_getElem? (i := 3) rfl)) (hw _ (List.mem_of_getElem? (i := 11) rfl)) (by decide) at_202 (rm3 l Z a0 hw (3 : Int32) (3 : Int32) v72 p1 v6 h78 n0 Zs ) eT pd_1 rfl (by rw [hml]; rfl) (by decide) 1 rfl (by decide) (by decide) (by decide) 205 rfl ?_
    intro T202 L9 v9 X hQ
    obtain ⟨rfl, N9, eT⟩ := hQ
    have N := Fr.app N N9
    show Go p e below _ T202 (mkF m 205 #[.val (.int p1), .val (.int p2), .val (.int p3), .val (.int (3 : Int32)), .val (.int v6), .val (.ref b10), .val (.int v72), .val (.int v81), .val (.int (1 : Int32))] [(.int (f3 (3 : Int32) (3 : Int32) v72 p1 v6)), (.int (ar78 3))])
    have c205 : (ar78 3) = (f3 (3 : Int32) (3 : Int32) v72 p1 v6) := own_c_3_3 _ _ _ _ e72 ear78
    refine own_icmp_ne X hx hby at_205 212 208 (by decide) rfl (fun q => absurd c205 q) (fun _ => ?_)
    refine own_iconst X hx hby (1 : Int32) at_208 rfl 209 rfl ?_
    refine own_goto X hx hby at_209 213 (by decide) ?_
    refine own_istore X hx hby at_213 rfl (l' := #[.val (.int p1), .val (.int p2), .val (.int p3), .val (.int (3 : Int32)), .val (.int v6), .val (.ref b10), .val (.int v72), .val (.int v81), .val (.int (1 : Int32))]) rfl 215 rfl ?_
    refine own_iload X hx hby (1 : Int32) at_215 rfl 217 rfl ?_
    have c217 : ¬ (1 : Int32) = (0 : Int32) := by decide
    refine own_if_eq X hx hby at_217 241 220 (by decide) rfl (fun q => absurd q c217) (fun _ => ?_)
    refine own_aload X hx hby (.ref b10) at_220 rfl rfl 222 rfl ?_
    refine own_iconst X hx hby (4 : Int32) at_222 rfl 223 rfl ?_
    refine own_baload X hx hby hZ (ar78 4) eT A_b10 (by decide) rfl at_223 224 rfl ?_
    refine own_iconst X hx hby (4 : Int32) at_224 rfl 225 rfl ?_
    refine own_iloadN X hx hby (3 : Int32) at_225 rfl 226 rfl ?_
    refine own_iload X hx hby v72 at_226 rfl 228 rfl ?_
    refine own_iloadN X hx hby p1 at_228 rfl 229 rfl ?_
    refine own_iload X hx hby v6 at_229 rfl 231 rfl ?_
    refine own_callS X hx hby hZ (st := [(.int (ar78 4))]) [(.int (4 : Int32)), (.int (3 : Int32)), (.int v72), (.int p1), (.int v6)] rfl hown (hw _ (List.mem_of_getElem? (i := 9) rfl)) (hw _ (List.mem_of_getElem? (i := 10) rfl)) (hw _ (List.mem_of_getElem? (i := 3) rfl)) (hw _ (List.mem_of_getElem? (i := 11) rfl)) (by decide) at_231 (rm3 l Z a0 hw (4 : Int32) (3 : Int32) v72 p1 v6 h78 n0 Zs ) eT pd_1 rfl (by rw [hml]; rfl) (by decide) 1 rfl (by decide) (by decide) (by decide) 234 rfl ?_
    intro T231 L9 v9 X hQ
    obtain ⟨rfl, N9, eT⟩ := hQ
    have N := Fr.app N N9
    show Go p e below _ T231 (mkF m 234 #[.val (.int p1), .val (.int p2), .val (.int p3), .val (.int (3 : Int32)), .val (.int v6), .val (.ref b10), .val (.int v72), .val (.int v81), .val (.int (1 : Int32))] [(.int (f3 (4 : Int32) (3 : Int32) v72 p1 v6)), (.int (ar78 4))])
    have c234 : (ar78 4) = (f3 (4 : Int32) (3 : Int32) v72 p1 v6) := own_c_3_4 _ _ _ _ e72 ear78
    refine own_icmp_ne X hx hby at_234 241 237 (by decide) rfl (fun q => absurd c234 q) (fun _ => ?_)
    refine own_iconst X hx hby (1 : Int32) at_237 rfl 238 rfl ?_
    refine own_goto X hx hby at_238 242 (by decide) ?_
    refine own_istore X hx hby at_242 rfl (l' := #[.val (.int p1), .val (.int p2), .val (.int p3), .val (.int (3 : Int32)), .val (.int v6), .val (.ref b10), .val (.int v72), .val (.int v81), .val (.int (1 : Int32))]) rfl 244 rfl ?_
    refine own_iload X hx hby (1 : Int32) at_244 rfl 246 rfl ?_
    have c246 : ¬ (1 : Int32) = (0 : Int32) := by decide
    refine own_if_eq X hx hby at_246 270 249 (by decide) rfl (fun q => absurd q c246) (fun _ => ?_)
    refine own_aload X hx hby (.ref b10) at_249 rfl rfl 251 rfl ?_
    refine own_iconst X hx hby (5 : Int32) at_251 rfl 252 rfl ?_
    refine own_baload X hx hby hZ (ar78 5) eT A_b10 (by decide) rfl at_252 253 rfl ?_
    refine own_iconst X hx hby (5 : Int32) at_253 rfl 254 rfl ?_
    refine own_iloadN X hx hby (3 : Int32) at_254 rfl 255 rfl ?_
    refine own_iload X hx hby v72 at_255 rfl 257 rfl ?_
    refine own_iloadN X hx hby p1 at_257 rfl 258 rfl ?_
    refine own_iload X hx hby v6 at_258 rfl 260 rfl ?_
    refine own_callS X hx hby hZ (st := [(.int (ar78 5))]) [(.int (5 : Int32)), (.int (3 : Int32)), (.int v72), (.int p1), (.int v6)] rfl hown (hw _ (List.mem_of_getElem? (i := 9) rfl)) (hw _ (List.mem_of_getElem? (i := 10) rfl)) (hw _ (List.mem_of_getElem? (i := 3) rfl)) (hw _ (List.mem_of_getElem? (i := 11) rfl)) (by decide) at_260 (rm3 l Z a0 hw (5 : Int32) (3 : Int32) v72 p1 v6 h78 n0 Zs ) eT pd_1 rfl (by rw [hml]; rfl) (by decide) 1 rfl (by decide) (by decide) (by decide) 263 rfl ?_
    intro T260 L9 v9 X hQ
    obtain ⟨rfl, N9, eT⟩ := hQ
    have N := Fr.app N N9
    show Go p e below _ T260 (mkF m 263 #[.val (.int p1), .val (.int p2), .val (.int p3), .val (.int (3 : Int32)), .val (.int v6), .val (.ref b10), .val (.int v72), .val (.int v81), .val (.int (1 : Int32))] [(.int (f3 (5 : Int32) (3 : Int32) v72 p1 v6)), (.int (ar78 5))])
    have c263 : (ar78 5) = (f3 (5 : Int32) (3 : Int32) v72 p1 v6) := own_c_3_5 _ _ _ _ e72 ear78
    refine own_icmp_ne X hx hby at_263 270 266 (by decide) rfl (fun q => absurd c263 q) (fun _ => ?_)
    refine own_iconst X hx hby (1 : Int32) at_266 rfl 267 rfl ?_
    refine own_goto X hx hby at_267 271 (by decide) ?_
    refine own_istore X hx hby at_271 rfl (l' := #[.val (.int p1), .val (.int p2), .val (.int p3), .val (.int (3 : Int32)), .val (.int v6), .val (.ref b10), .val (.int v72), .val (.int v81), .val (.int (1 : Int32))]) rfl 273 rfl ?_
    refine own_iload X hx hby (1 : Int32) at_273 rfl 275 rfl ?_
    have c275 : ¬ (1 : Int32) = (0 : Int32) := by decide
    refine own_if_eq X hx hby at_275 301 278 (by decide) rfl (fun q => absurd q c275) (fun _ => ?_)
    refine own_aload X hx hby (.ref b10) at_278 rfl rfl 280 rfl ?_
    refine own_bipush X hx hby (6 : Int32) at_280 rfl 282 rfl ?_
    refine own_baload X hx hby hZ (ar78 6) eT A_b10 (by decide) rfl at_282 283 rfl ?_
    refine own_bipush X hx hby (6 : Int32) at_283 rfl 285 rfl ?_
    refine own_iloadN X hx hby (3 : Int32) at_285 rfl 286 rfl ?_
    refine own_iload X hx hby v72 at_286 rfl 288 rfl ?_
    refine own_iloadN X hx hby p1 at_288 rfl 289 rfl ?_
    refine own_iload X hx hby v6 at_289 rfl 291 rfl ?_
    refine own_callS X hx hby hZ (st := [(.int (ar78 6))]) [(.int (6 : Int32)), (.int (3 : Int32)), (.int v72), (.int p1), (.int v6)] rfl hown (hw _ (List.mem_of_getElem? (i := 9) rfl)) (hw _ (List.mem_of_getElem? (i := 10) rfl)) (hw _ (List.mem_of_getElem? (i := 3) rfl)) (hw _ (List.mem_of_getElem? (i := 11) rfl)) (by decide) at_291 (rm3 l Z a0 hw (6 : Int32) (3 : Int32) v72 p1 v6 h78 n0 Zs ) eT pd_1 rfl (by rw [hml]; rfl) (by decide) 1 rfl (by decide) (by decide) (by decide) 294 rfl ?_
    intro T291 L9 v9 X hQ
    obtain ⟨rfl, N9, eT⟩ := hQ
    have N := Fr.app N N9
    show Go p e below _ T291 (mkF m 294 #[.val (.int p1), .val (.int p2), .val (.int p3), .val (.int (3 : Int32)), .val (.int v6), .val (.ref b10), .val (.int v72), .val (.int v81), .val (.int (1 : Int32))] [(.int (f3 (6 : Int32) (3 : Int32) v72 p1 v6)), (.int (ar78 6))])
    have c294 : (ar78 6) = (f3 (6 : Int32) (3 : Int32) v72 p1 v6) := own_c_3_6 _ _ _ _ e72 ear78
    refine own_icmp_ne X hx hby at_294 301 297 (by decide) rfl (fun q => absurd c294 q) (fun _ => ?_)
    refine own_iconst X hx hby (1 : Int32) at_297 rfl 298 rfl ?_
    refine own_goto X hx hby at_298 302 (by decide) ?_
    refine own_istore X hx hby at_302 rfl (l' := #[.val (.int p1), .val (.int p2), .val (.int p3), .val (.int (3 : Int32)), .val (.int v6), .val (.ref b10), .val (.int v72), .val (.int v81), .val (.int (1 : Int32))]) rfl 304 rfl ?_
    refine own_iload X hx hby (1 : Int32) at_304 rfl 306 rfl ?_
    have c306 : ¬ (1 : Int32) = (0 : Int32) := by decide
    refine own_if_eq X hx hby at_306 332 309 (by decide) rfl (fun q => absurd q c306) (fun _ => ?_)
    refine own_aload X hx hby (.ref b10) at_309 rfl rfl 311 rfl ?_
    refine own_bipush X hx hby (7 : Int32) at_311 rfl 313 rfl ?_
    refine own_baload X hx hby hZ (ar78 7) eT A_b10 (by decide) rfl at_313 314 rfl ?_
    refine own_bipush X hx hby (7 : Int32) at_314 rfl 316 rfl ?_
    refine own_iloadN X hx hby (3 : Int32) at_316 rfl 317 rfl ?_
    refine own_iload X hx hby v72 at_317 rfl 319 rfl ?_
    refine own_iloadN X hx hby p1 at_319 rfl 320 rfl ?_
    refine own_iload X hx hby v6 at_320 rfl 322 rfl ?_
    refine own_callS X hx hby hZ (st := [(.int (ar78 7))]) [(.int (7 : Int32)), (.int (3 : Int32)), (.int v72), (.int p1), (.int v6)] rfl hown (hw _ (List.mem_of_getElem? (i := 9) rfl)) (hw _ (List.mem_of_getElem? (i := 10) rfl)) (hw _ (List.mem_of_getElem? (i := 3) rfl)) (hw _ (List.mem_of_getElem? (i := 11) rfl)) (by decide) at_322 (rm3 l Z a0 hw (7 : Int32) (3 : Int32) v72 p1 v6 h78 n0 Zs ) eT pd_1 rfl (by rw [hml]; rfl) (by decide) 1 rfl (by decide) (by decide) (by decide) 325 rfl ?_
    intro T322 L9 v9 X hQ
    obtain ⟨rfl, N9, eT⟩ := hQ
    have N := Fr.app N N9
    show Go p e below _ T322 (mkF m 325 #[.val (.int p1), .val (.int p2), .val (.int p3), .val (.int (3 : Int32)), .val (.int v6), .val (.ref b10), .val (.int v72), .val (.int v81), .val (.int (1 : Int32))] [(.int (f3 (7 : Int32) (3 : Int32) v72 p1 v6)), (.int (ar78 7))])
    have c325 : (ar78 7) = (f3 (7 : Int32) (3 : Int32) v72 p1 v6) := own_c_3_7 _ _ _ _ e72 ear78
    refine own_icmp_ne X hx hby at_325 332 328 (by decide) rfl (fun q => absurd c325 q) (fun _ => ?_)
    refine own_iconst X hx hby (1 : Int32) at_328 rfl 329 rfl ?_
    refine own_goto X hx hby at_329 333 (by decide) ?_
    refine own_istore X hx hby at_333 rfl (l' := #[.val (.int p1), .val (.int p2), .val (.int p3), .val (.int (3 : Int32)), .val (.int v6), .val (.ref b10), .val (.int v72), .val (.int v81), .val (.int (1 : Int32))]) rfl 335 rfl ?_
    refine own_iload X hx hby (1 : Int32) at_335 rfl 337 rfl ?_
    have c337 : ¬ (1 : Int32) = (0 : Int32) := by decide
    refine own_if_eq X hx hby at_337 363 340 (by decide) rfl (fun q => absurd q c337) (fun _ => ?_)
    refine own_aload X hx hby (.ref b10) at_340 rfl rfl 342 rfl ?_
    refine own_bipush X hx hby (8 : Int32) at_342 rfl 344 rfl ?_
    refine own_baload X hx hby hZ (ar78 8) eT A_b10 (by decide) rfl at_344 345 rfl ?_
    refine own_bipush X hx hby (8 : Int32) at_345 rfl 347 rfl ?_
    refine own_iloadN X hx hby (3 : Int32) at_347 rfl 348 rfl ?_
    refine own_iload X hx hby v72 at_348 rfl 350 rfl ?_
    refine own_iloadN X hx hby p1 at_350 rfl 351 rfl ?_
    refine own_iload X hx hby v6 at_351 rfl 353 rfl ?_
    refine own_callS X hx hby hZ (st := [(.int (ar78 8))]) [(.int (8 : Int32)), (.int (3 : Int32)), (.int v72), (.int p1), (.int v6)] rfl hown (hw _ (List.mem_of_getElem? (i := 9) rfl)) (hw _ (List.mem_of_getElem? (i := 10) rfl)) (hw _ (List.mem_of_getElem? (i := 3) rfl)) (hw _ (List.mem_of_getElem? (i := 11) rfl)) (by decide) at_353 (rm3 l Z a0 hw (8 : Int32) (3 : Int32) v72 p1 v6 h78 n0 Zs ) eT pd_1 rfl (by rw [hml]; rfl) (by decide) 1 rfl (by decide) (by decide) (by decide) 356 rfl ?_
    intro T353 L9 v9 X hQ
    obtain ⟨rfl, N9, eT⟩ := hQ
    have N := Fr.app N N9
    show Go p e below _ T353 (mkF m 356 #[.val (.int p1), .val (.int p2), .val (.int p3), .val (.int (3 : Int32)), .val (.int v6), .val (.ref b10), .val (.int v72), .val (.int v81), .val (.int (1 : Int32))] [(.int (f3 (8 : Int32) (3 : Int32) v72 p1 v6)), (.int (ar78 8))])
    have c356 : (ar78 8) = (f3 (8 : Int32) (3 : Int32) v72 p1 v6) := own_c_3_8 _ _ _ _ e72 ear78
    refine own_icmp_ne X hx hby at_356 363 359 (by decide) rfl (fun q => absurd c356 q) (fun _ => ?_)
    refine own_iconst X hx hby (1 : Int32) at_359 rfl 360 rfl ?_
    refine own_goto X hx hby at_360 364 (by decide) ?_
    refine own_istore X hx hby at_364 rfl (l' := #[.val (.int p1), .val (.int p2), .val (.int p3), .val (.int (3 : Int32)), .val (.int v6), .val (.ref b10), .val (.int v72), .val (.int v81), .val (.int (1 : Int32))]) rfl 366 rfl ?_
    refine own_iload X hx hby (1 : Int32) at_366 rfl 368 rfl ?_
    have c368 : ¬ (1 : Int32) = (0 : Int32) := by decide
    refine own_if_eq X hx hby at_368 394 371 (by decide) rfl (fun q => absurd q c368) (fun _ => ?_)
    refine own_aload X hx hby (.ref b10) at_371 rfl rfl 373 rfl ?_
    refine own_bipush X hx hby (9 : Int32) at_373 rfl 375 rfl ?_
    refine own_baload X hx hby hZ (ar78 9) eT A_b10 (by decide) rfl at_375 376 rfl ?_
    refine own_bipush X hx hby (9 : Int32) at_376 rfl 378 rfl ?_
    refine own_iloadN X hx hby (3 : Int32) at_378 rfl 379 rfl ?_
    refine own_iload X hx hby v72 at_379 rfl 381 rfl ?_
    refine own_iloadN X hx hby p1 at_381 rfl 382 rfl ?_
    refine own_iload X hx hby v6 at_382 rfl 384 rfl ?_
    refine own_callS X hx hby hZ (st := [(.int (ar78 9))]) [(.int (9 : Int32)), (.int (3 : Int32)), (.int v72), (.int p1), (.int v6)] rfl hown (hw _ (List.mem_of_getElem? (i := 9) rfl)) (hw _ (List.mem_of_getElem? (i := 10) rfl)) (hw _ (List.mem_of_getElem? (i := 3) rfl)) (hw _ (List.mem_of_getElem? (i := 11) rfl)) (by decide) at_384 (rm3 l Z a0 hw (9 : Int32) (3 : Int32) v72 p1 v6 h78 n0 Zs ) eT pd_1 rfl (by rw [hml]; rfl) (by decide) 1 rfl (by decide) (by decide) (by decide) 387 rfl ?_
    intro T384 L9 v9 X hQ
    obtain ⟨rfl, N9, eT⟩ := hQ
    have N := Fr.app N N9
    show Go p e below _ T384 (mkF m 387 #[.val (.int p1), .val (.int p2), .val (.int p3), .val (.int (3 : Int32)), .val (.int v6), .val (.ref b10), .val (.int v72), .val (.int v81), .val (.int (1 : Int32))] [(.int (f3 (9 : Int32) (3 : Int32) v72 p1 v6)), (.int (ar78 9))])
    have c387 : (ar78 9) = (f3 (9 : Int32) (3 : Int32) v72 p1 v6) := own_c_3_9 _ _ _ _ e72 ear78
    refine own_icmp_ne X hx hby at_387 394 390 (by decide) rfl (fun q => absurd c387 q) (fun _ => ?_)
    refine own_iconst X hx hby (1 : Int32) at_390 rfl 391 rfl ?_
    refine own_goto X hx hby at_391 395 (by decide) ?_
    refine own_istore X hx hby at_395 rfl (l' := #[.val (.int p1), .val (.int p2), .val (.int p3), .val (.int (3 : Int32)), .val (.int v6), .val (.ref b10), .val (.int v72), .val (.int v81), .val (.int (1 : Int32))]) rfl 397 rfl ?_
    refine own_iload X hx hby (1 : Int32) at_397 rfl 399 rfl ?_
    refine own_retN X hx hby hret hlk (t := .boolean) (z' := (1 : Int32)) (by simp) at_399 (by decide) (by decide) rfl ?_
    rw [eT]
    exact ⟨rfl, N⟩
set_option maxRecDepth 65536 in
set_option maxHeartbeats 40000000 in
theorem comes_1 {Post : Tables → Env → Array Value → State → Outcome → State → Prop} (hpost : ∀ tb e args s v u, (limb_1_1.after args s (.returned v) u = true ∧ limb_1_2.after args s (.returned v) u = true ∧ True) → FrameEnd s (.returned v) u (Jvm.fieldLocs frame_1_writes args s ++ Jvm.arrayLocs frame_1_arrays args s ++ Jvm.staticLocs frame_1_statics s) 16 128 → Post tb e args s (.returned v) u) :
    ArmFor flags0 classFile x code maxLocals ret World_1 tables_1 room_1 Calls_1 rest_1 Pre_1 Post := by
  intro l hfl _ _ p e ha hc hk s m args below hf hA hF happ hP
  obtain ⟨hcalls, hrest, hpre⟩ := hP
  obtain ⟨-, -, -, hnamed, -, -, -, hat⟩ := (Spec.applies_iff hf).mp happ
  obtain ⟨hg, hn⟩ := and_e (Cond.before_iff.mp (show (Jvm.Cond.and given_1 narrow_1).before args s = true from hpre))
  obtain ⟨gg1, gg2⟩ := and_e hg
  obtain ⟨gg3, gg4⟩ := and_e gg2
  obtain ⟨gg5, gg6⟩ := and_e gg4
  obtain ⟨w0, w1, w2, rfl⟩ : ∃ w0 w1 w2 : Value, args = #[w0, w1, w2] := by
    have hs : args.size = 3 := by simpa [Cond.value, given_1] using gg1
    obtain ⟨L⟩ := args
    match L, hs with
    | [w0, w1, w2], _ => exact ⟨w0, w1, w2, rfl⟩
  have hw := fun d (hd : d ∈ tables_1) => atoms_spec (ws := Jvm.Cond.code x code maxLocals ret :: tables_1) hat d (List.mem_cons_of_mem _ hd)
  have hfit : Fit s := fun {y c} hc i hi => by
    obtain ⟨ha, rfl⟩ := Array.getElem?_eq_some_iff.mp hc
    have q := List.all_eq_true.mp ((Array.all_eq_true_iff_forall_mem.mp hF) _ (Array.getElem_mem ha)) i (List.mem_range.mpr hi)
    simpa [Array.getElem?_eq_getElem hi] using q
  obtain ⟨i0, ei0⟩ := is_v gg3
  obtain rfl : w0 = (.int i0) := Option.some.inj ei0
  obtain ⟨i1, ei1⟩ := is_v gg5
  obtain rfl : w1 = (.int i1) := Option.some.inj ei1
  obtain ⟨i2, ei2⟩ := is_v gg6
  obtain rfl : w2 = (.int i2) := Option.some.inj ei2
  obtain ⟨n, o, h1, h2, h3, _, L, rfl, ⟨rfl, N⟩, hq⟩ := rm0 l s _ hw i0 i1 i2  s.heap s.heap.size (Nat.le_refl _)  tables_1 p e ha hc hk s m _ below hf ((Spec.applies_iff_loose hf).mp happ).1 ⟨rfl, State.Warmed39.refl s, rfl⟩ trivial
  refine ⟨n, _, h1, h2, h3, hpost _ _ _ _ _ _ ⟨Cond.after_iff.mpr rfl, Cond.after_iff.mpr (eq_i res_at (Term.int_eval (1)) rfl), trivial⟩ ⟨hq.1, hq.2.1, (hq.2.2.sift fun y hy => Or.inr (N y hy)).mono (by decide) (by decide)⟩⟩
theorem main_1_1 : Claimed_1_1 := comes_1 fun _ _ _ _ _ _ h hF => ⟨h.1, hF⟩
theorem main_1_2 : Claimed_1_2 := comes_1 fun _ _ _ _ _ _ h hF => ⟨h.2.1, hF⟩
end Jvm.Pilot.@@N@@
namespace Jvm.Pilot.@@N@@
open Jvm Jvm.ClassFile Sem Op Lib Jvm.Free Jvm.Stand Jvm.Pilot.@@N@@.Jvm.D
/-! MADE BY PROGRAM (witnessworld.py) out of the Statement's table words and the real class files: 9 classes; the members and pool entries that the words name. The judged class is class 1, her method 3. -/
namespace start1
open Jvm.ClassFile
def u (s : String) : CpInfo := .utf8 (stringToUtf16 s)
/-- a pool by its gaps: so many unusable entries, then the entry; so many at the end -/
def gap : Nat → List CpInfo → List CpInfo
  | 0, r => r
  | n + 1, r => .unusable :: gap n r
def poolList (es : List (Nat × CpInfo)) (last : Nat) : List CpInfo := es.foldr (fun e r => gap e.1 (e.2 :: r)) (gap last [])
def pool (es : List (Nat × CpInfo)) (last : Nat) : Array CpInfo := ⟨poolList es last⟩
def fileOf (pool : Array CpInfo) (this : Nat) (attrs : Array Attribute := #[]) (ms : Array MethodInfo := #[]) (fl : Nat := 33) (sup : Nat := 0) (ifs : Array Nat := #[]) (fds : Array FieldInfo := #[]) : ClassFile where
  minorVersion := 0
  majorVersion := 65
  constantPool := pool
  accessFlags := fl
  thisClass := this
  superClass := sup
  interfaces := ifs
  fields := fds
  methods := ms
  attributes := attrs
def plain (name : String) (sup : Option ClassId) : Class where
  name := name
  kind := .ordinary
  loader := none
  accessFlags := 33
  super := sup
  interfaces := #[]
  cf := none
  fields := #[]
  methods := #[]
  instanceTypes := #[]
  staticTypes := #[]
  resolved := #[]
  callSites := []
  init := .initialized
  statics := none
  mirror := none

def pool0 : Array CpInfo := pool [(5, u "<init>"), (0, u "()V"), (1, .class_ 10), (1, u "java/lang/Object")] 113

def k0m0 : Method := { name := "<init>", desc := "()V", sig := { parameters := [], returnType := none }, accessFlags := 1, code := none }
/-- java/lang/Object -/
def k0 : Class := { plain "java/lang/Object" none with
  accessFlags := 33
  interfaces := #[]
  cf := some (fileOf pool0 8 #[] #[{ accessFlags := 1, nameIndex := 5, descriptorIndex := 6, attributes := #[] }] 33 0 #[] #[])
  fields := #[]
  methods := #[k0m0]
  instanceTypes := #[]
  staticTypes := #[]
  resolved := Array.replicate 124 none
  statics := none }

def pool1 : Array CpInfo := pool [(2, .class_ 4), (1, u "java/lang/Object"), (0, u "<init>"), (0, u "()V"), (0, .methodref 8 9), (0, .class_ 10), (0, .nameAndType 11 12), (0, u "com/example/kvadtree/kvadtree/FragmentsPutVarintPinLaw"), (0, u "size"), (0, u "(I)I"), (0, .methodref 14 15), (0, .class_ 16), (0, .nameAndType 17 18), (0, u "com/example/kvadtree/kvadtree/Fragments"), (0, u "putVarint"), (0, u "([BII)I"), (0, .methodref 8 20), (0, .nameAndType 21 22), (0, u "expected"), (0, u "(IIIIB)B"), (3, u "law"), (0, u "(III)Z")] 4

def k1m0 : Method := { name := "<init>", desc := "()V", sig := { parameters := [], returnType := none }, accessFlags := 2, code := none }
def k1c1 : Code := { maxStack := 2, maxLocals := 1, code := method_2_code, exceptionTable := #[], attributes := #[] }
def k1m1 : Method := { name := "size", desc := "(I)I", sig := { parameters := [.int], returnType := some .int }, accessFlags := 10, code := some k1c1 }
def k1c2 : Code := { maxStack := 3, maxLocals := 7, code := method_3_code, exceptionTable := #[], attributes := #[] }
def k1m2 : Method := { name := "expected", desc := "(IIIIB)B", sig := { parameters := [.int, .int, .int, .int, .byte], returnType := some .byte }, accessFlags := 10, code := some k1c2 }
def k1c3 : Code := { maxStack := 6, maxLocals := 9, code := code, exceptionTable := #[], attributes := #[] }
def k1m3 : Method := { name := "law", desc := "(III)Z", sig := { parameters := [.int, .int, .int], returnType := some .boolean }, accessFlags := 9, code := some k1c3 }
/-- com/example/kvadtree/kvadtree/FragmentsPutVarintPinLaw -/
def k1 : Class := { plain "com/example/kvadtree/kvadtree/FragmentsPutVarintPinLaw" (some 0) with
  accessFlags := 49
  interfaces := #[]
  cf := some (fileOf pool1 8 #[] #[{ accessFlags := 2, nameIndex := 5, descriptorIndex := 6, attributes := #[] }, { accessFlags := 10, nameIndex := 11, descriptorIndex := 12, attributes := #[] }, { accessFlags := 10, nameIndex := 21, descriptorIndex := 22, attributes := #[] }, { accessFlags := 9, nameIndex := 26, descriptorIndex := 27, attributes := #[] }] 49 2 #[] #[])
  fields := #[]
  methods := #[k1m0, k1m1, k1m2, k1m3]
  instanceTypes := #[]
  staticTypes := #[]
  resolved := Array.replicate 32 none
  statics := none }

def pool2 : Array CpInfo := pool [(2, .class_ 4), (1, u "java/lang/Object"), (0, u "<init>"), (0, u "()V"), (1, .class_ 10), (1, u "com/example/kvadtree/kvadtree/Fragments"), (0, u "DOUBLES"), (0, u "Ljava/lang/invoke/VarHandle;"), (10, u "LONGS"), (146, u "REMOVAL"), (0, u "B"), (28, u "putVarint"), (0, u "([BII)I")] 4

def k2m0 : Method := { name := "<init>", desc := "()V", sig := { parameters := [], returnType := none }, accessFlags := 2, code := none }
def k2c1 : Code := { maxStack := 4, maxLocals := 5, code := prog_13_method_18_code, exceptionTable := #[], attributes := #[] }
def k2m1 : Method := { name := "putVarint", desc := "([BII)I", sig := { parameters := [(.array .byte), .int, .int], returnType := some .int }, accessFlags := 8, code := some k2c1 }
/-- com/example/kvadtree/kvadtree/Fragments -/
def k2 : Class := { plain "com/example/kvadtree/kvadtree/Fragments" (some 0) with
  accessFlags := 48
  interfaces := #[]
  cf := some (fileOf pool2 8 #[] #[{ accessFlags := 2, nameIndex := 5, descriptorIndex := 6, attributes := #[] }, { accessFlags := 8, nameIndex := 200, descriptorIndex := 201, attributes := #[] }] 48 2 #[] #[{ accessFlags := 26, nameIndex := 170, descriptorIndex := 171, attributes := #[] }, { accessFlags := 26, nameIndex := 11, descriptorIndex := 12, attributes := #[] }, { accessFlags := 26, nameIndex := 23, descriptorIndex := 12, attributes := #[] }])
  fields := #[{ name := "REMOVAL", type := .byte, accessFlags := 26, slot := 0, constantValue := 0 }, { name := "DOUBLES", type := (.object "java/lang/invoke/VarHandle"), accessFlags := 26, slot := 1, constantValue := 0 }, { name := "LONGS", type := (.object "java/lang/invoke/VarHandle"), accessFlags := 26, slot := 2, constantValue := 0 }]
  methods := #[k2m0, k2m1]
  instanceTypes := #[]
  staticTypes := #[.byte, (.object "java/lang/invoke/VarHandle"), (.object "java/lang/invoke/VarHandle")]
  resolved := Array.replicate 206 none
  statics := none }

def pool3 : Array CpInfo := pool [(1, u "java/lang/Cloneable"), (0, .class_ 1), (0, u "java/lang/Object"), (0, .class_ 3)] 3

/-- java/lang/Cloneable -/
def k3 : Class := { plain "java/lang/Cloneable" (some 0) with
  accessFlags := 1537
  interfaces := #[]
  cf := some (fileOf pool3 2 #[] #[] 1537 4 #[] #[])
  fields := #[]
  methods := #[]
  instanceTypes := #[]
  staticTypes := #[]
  resolved := Array.replicate 8 none
  statics := none }

def pool4 : Array CpInfo := pool [(1, u "java/io/Serializable"), (0, .class_ 1), (0, u "java/lang/Object"), (0, .class_ 3)] 3

/-- java/io/Serializable -/
def k4 : Class := { plain "java/io/Serializable" (some 0) with
  accessFlags := 1537
  interfaces := #[]
  cf := some (fileOf pool4 2 #[] #[] 1537 4 #[] #[])
  fields := #[]
  methods := #[]
  instanceTypes := #[]
  staticTypes := #[]
  resolved := Array.replicate 8 none
  statics := none }

/-- the primitive byte -/
def k5 : Class := { plain "byte" none with kind := .primitive 'B', accessFlags := 0x411 }
/-- [B -/
def k6 : Class := { plain "[B" (some 0) with kind := .array 5 .byte, interfaces := #[3, 4], accessFlags := 1041 }

/-- the primitive int -/
def k7 : Class := { plain "int" none with kind := .primitive 'I', accessFlags := 0x411 }
/-- [I -/
def k8 : Class := { plain "[I" (some 0) with kind := .array 7 .int, interfaces := #[3, 4], accessFlags := 1041 }

def heap : Heap := #[]
def classes : Array Class := #[k0, k1, k2, k3, k4, k5, k6, k7, k8]
def interned : List (Array UInt16 × Addr) := []
def slotsUsed : Nat := 0
def theMethod : MethodId := ⟨1, 3⟩
def args0 : Array Value := #[.int 3, .int 4, .int 5]
def aboutOver (below : List Frame) : State where
  vm := { classes := classes, interned := interned.toArray }
  heap := heap
  slotsUsed := slotsUsed
  threads := #[{ frames := .invoking theMethod args0 :: below }]
def below0 : List Frame := [.native { method := ⟨0, 0⟩, args := #[] }]
def about1 : State := aboutOver below0
def p0 : Program := .bare "" "" ""
def e0 : Env := launch0.env 0 0 0
theorem w_frames : about1.frames = Frame.invoking theMethod args0 :: below0 := rfl
set_option maxRecDepth 65536 in
theorem w_args : argsFit about1.vm theMethod args0 = true := by decide +kernel
set_option maxRecDepth 65536 in
theorem w_heap : heapFits about1 = true := by decide +kernel
set_option maxRecDepth 65536 in
theorem w_runnable : about1.curStatus? = some .runnable := by decide +kernel
set_option maxRecDepth 65536 in
theorem w_alone : about1.alone = true := by decide +kernel
set_option maxRecDepth 65536 in
theorem w_named : about1.methodNamed? x = some theMethod := by decide +kernel
set_option maxRecDepth 65536 in
theorem w_hears : about1.hears theMethod below0 = true := by decide +kernel
set_option maxRecDepth 65536 in
theorem w_ripe : about1.ripe theMethod args0 below0 = true := by decide +kernel
theorem w_running : about1.status = .running := rfl
set_option maxRecDepth 65536 in
theorem w_room : about1.hasRoom e0.platform room_1 = true :=
  launch0.hasRoom_least _ room_1 (by decide +kernel) (by decide +kernel) (by decide +kernel) (by decide +kernel) (by decide +kernel) (by decide +kernel)
theorem allAtoms_all (ts : List Jvm.Cond) (a : Array Jvm.Value) (st : Jvm.State) : (allAtoms ts).before a st = ts.all (fun c => c.before a st) := by
  induction ts with
  | nil => rfl
  | cons c t ih =>
    show (Jvm.Cond.and c (allAtoms t)).before a st = _
    rw [Jvm.Cond.before_and, ih, List.all_cons]
def words1 : List Jvm.Cond := Jvm.Cond.code x code maxLocals ret :: tables_1
/-- a 'code' word, met by the world's own term for the bytes: nothing is compared byte by byte -/
theorem code_word {y : MethodName} {bytes : ByteArray} {mx : Nat} {rt : Option FieldType} {a : Array Value} {s : State} {m : MethodId} {meth : Method} {c : Code} (h1 : s.methodNamed? y = some m) (h2 : s.vm.method? m = some meth) (h3 : meth.code = some c) (h4 : c.code = bytes)
    (h5 : (c.maxLocals == mx && c.exceptionTable.isEmpty && decide (c.maxStack ≤ mostOperands) && decide (meth.sig.returnType = rt) && !meth.locks && decide (parseMethodDescriptor y.desc = some meth.sig)) = true) : (Jvm.Cond.code y bytes mx rt).before a s = true := by
  simp only [Bool.and_eq_true, beq_iff_eq, Bool.not_eq_true', decide_eq_true_eq] at h5
  obtain ⟨⟨⟨⟨⟨g1, g2⟩, g3⟩, g4⟩, g5⟩, g6⟩ := h5
  simp [Cond.before, Cond.holds, Cond.value, h1, h2, h3, h4, g1, g2, g3, g4, g5, g6]
def isCode : Jvm.Cond → Bool
  | .code _ _ _ _ => true
  | _ => false
theorem all_split {L : List Jvm.Cond} {P : Jvm.Cond → Bool} (h1 : L.all (fun c => isCode c || P c) = true) (h2 : ∀ c ∈ L.filter isCode, P c = true) : L.all P = true := by
  refine List.all_eq_true.mpr fun c hc => ?_
  have h := List.all_eq_true.mp h1 c hc
  rcases Bool.eq_false_or_eq_true (isCode c) with hi | hi
  · exact h2 c (List.mem_filter.mpr ⟨hc, hi⟩)
  · simpa [hi] using h
set_option maxRecDepth 65536 in
theorem w_c0 : (Jvm.Cond.code x code maxLocals ret).before args0 about1 = true := code_word (m := ⟨1, 3⟩) (meth := k1m3) (c := k1c3) (by decide +kernel) rfl rfl rfl (by decide +kernel)
set_option maxRecDepth 65536 in
theorem w_c1 : (Jvm.Cond.code ({ cls := "com/example/kvadtree/kvadtree/FragmentsPutVarintPinLaw", name := "size", desc := "(I)I" } : Jvm.MethodName) method_2_code (1 : Nat) (Option.some Jvm.ClassFile.FieldType.int)).before args0 about1 = true := code_word (m := ⟨1, 1⟩) (meth := k1m1) (c := k1c1) (by decide +kernel) rfl rfl rfl (by decide +kernel)
set_option maxRecDepth 65536 in
theorem w_c2 : (Jvm.Cond.code ({ cls := "com/example/kvadtree/kvadtree/Fragments", name := "putVarint", desc := "([BII)I" } : Jvm.MethodName) prog_13_method_18_code (5 : Nat) (Option.some Jvm.ClassFile.FieldType.int)).before args0 about1 = true := code_word (m := ⟨2, 1⟩) (meth := k2m1) (c := k2c1) (by decide +kernel) rfl rfl rfl (by decide +kernel)
set_option maxRecDepth 65536 in
theorem w_c3 : (Jvm.Cond.code ({ cls := "com/example/kvadtree/kvadtree/FragmentsPutVarintPinLaw", name := "expected", desc := "(IIIIB)B" } : Jvm.MethodName) method_3_code (7 : Nat) (Option.some Jvm.ClassFile.FieldType.byte)).before args0 about1 = true := code_word (m := ⟨1, 2⟩) (meth := k1m2) (c := k1c2) (by decide +kernel) rfl rfl rfl (by decide +kernel)
def codes1 : List Jvm.Cond := [Jvm.Cond.code x code maxLocals ret, Jvm.Cond.code ({ cls := "com/example/kvadtree/kvadtree/FragmentsPutVarintPinLaw", name := "size", desc := "(I)I" } : Jvm.MethodName) method_2_code (1 : Nat) (Option.some Jvm.ClassFile.FieldType.int), Jvm.Cond.code ({ cls := "com/example/kvadtree/kvadtree/Fragments", name := "putVarint", desc := "([BII)I" } : Jvm.MethodName) prog_13_method_18_code (5 : Nat) (Option.some Jvm.ClassFile.FieldType.int), Jvm.Cond.code ({ cls := "com/example/kvadtree/kvadtree/FragmentsPutVarintPinLaw", name := "expected", desc := "(IIIIB)B" } : Jvm.MethodName) method_3_code (7 : Nat) (Option.some Jvm.ClassFile.FieldType.byte)]
set_option maxRecDepth 65536 in
theorem codes_eq : words1.filter isCode = codes1 := rfl
theorem w_codes : ∀ c ∈ words1.filter isCode, c.before args0 about1 = true := by
  rw [codes_eq]
  intro c hc
  simp only [codes1, List.mem_cons, List.not_mem_nil, or_false] at hc
  rcases hc with rfl | rfl | rfl | rfl
  · exact w_c0
  · exact w_c1
  · exact w_c2
  · exact w_c3
set_option maxRecDepth 65536 in
theorem w_t1 : words1.all (fun c => isCode c || c.before args0 about1) = true := by decide +kernel
theorem w_tables : (allAtoms (Jvm.Cond.code x code maxLocals ret :: tables_1)).before args0 about1 = true := by
  rw [allAtoms_all]
  show words1.all (fun c => c.before args0 about1) = true
  refine all_split ?_ w_codes
  rw [w_t1]
set_option maxRecDepth 65536 in
theorem w_case : (Jvm.Cond.and given_1 narrow_1).before args0 about1 = true := by decide +kernel
theorem w_applies : (headSpec (Jvm.Cond.code x code maxLocals ret :: tables_1) room_1).applies x e0.platform about1 = true :=
  (Spec.applies_iff w_frames).mpr ⟨w_running, w_runnable, w_alone, w_named, w_hears, w_ripe, w_room, w_tables⟩
theorem atStart : AtStart classFile x code maxLocals ret World_1 tables_1 room_1 Calls_1 rest_1 Pre_1 launch0 p0 e0 about1 theMethod args0 below0 :=
  ⟨lists_1, trivial, launch0.admits_env _ _ _, launch0.least_env, fairChoices_fair.cas, fairChoices_fair.clock, w_frames, w_args, w_heap, w_applies, trivial, trivial, w_case⟩
end start1
theorem witness_1 : WitnessClaimed_1 := ⟨start1.p0, start1.e0, start1.about1, start1.theMethod, start1.args0, start1.below0, start1.atStart⟩
end Jvm.Pilot.@@N@@
