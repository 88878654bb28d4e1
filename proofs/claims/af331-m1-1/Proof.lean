import JvmDerived
import JvmDerived.Pilot.@@N@@Statement
import JvmDerived.Pilot.@@N@@Code
set_option linter.unusedVariables false
set_option linter.unusedSimpArgs false
namespace Jvm.Pilot.@@N@@
open Jvm Jvm.ClassFile Sem Op Lib Jvm.Free Jvm.Stand Jvm.LawKit Jvm.RoadKit Bundle Jvm.Pilot.@@N@@.Jvm.D
/-! ## the run in continuation form: 'Go G T g': from T with the top frame g the run ends as G says -/
def Go (p : Program) (e : Env) (below : List Frame) (G : State → Outcome → Prop) (T : State) (g : JFrame) : Prop :=
  ∃ s₂ o, Steps p.tables e below (T.setTop g) s₂ ∧ s₂.status = .running ∧ Ended s₂ below o ∧ G s₂ o
/-- what a contract asks of the end -/
def FinQ (s : State) (Q : Option Value → Heap → List Loc → Prop) (kc ks : Nat) (U' : State) (o : Outcome) : Prop :=
  ∃ v L, o = .returned v ∧ Q v U'.heap L ∧ FrameEnd s o U' L kc ks
/-- a body's contract, as backOf takes it -/
def Met1 (l : Launch) (Z : State) (y : MethodName) (bytes : ByteArray) (maxL : Nat) (rt : Option FieldType) (rm : Room) (as : Array Value) (h0 : Heap) (Q : Option Value → Heap → List Loc → Prop) : Prop :=
  ∀ ws : List Jvm.Cond, MetFree l y (head1 (Jvm.Cond.code y bytes maxL rt :: ws) rm) (fun a U => a = as ∧ Z.Warmed39 U.vm ∧ U.heap = h0) (fun _ _ _ _ _ => True)
    (fun _ U o U' => ∃ v L, o = .returned v ∧ Q v U'.heap L ∧ FrameEnd U o U' L rm.cells rm.slots)
section OwnGo
variable {p : Program} {l : Launch} {e : Env} {R : Room} {s : State} {m : MethodId} {args : Array Value} {below : List Frame} {meth : Method} {c : Code} {T T' : State} {locs : List Loc} {cells slots : Nat} {G : State → Outcome → Prop} {Ls : Array Slot} {st : List Value} {pc : Nat} {bs : ByteArray} {Z : State} {a0 : Array Value} {h : Heap} {g g' : JFrame}
theorem Go.by (q : ∀ t, Steps p.tables e below (T'.setTop g') t → Steps p.tables e below (T.setTop g) t) (k : Go p e below G T' g') : Go p e below G T g := by
  obtain ⟨s₂, o, h1, h2⟩ := k
  exact ⟨s₂, o, q _ h1, h2⟩
theorem own_met_of {Z : State} {y : MethodName} {bytes : ByteArray} {maxL : Nat} {rt : Option FieldType} {rm : Room} {as : Array Value} {h0 : Heap} {Q : Option Value → Heap → List Loc → Prop} {Ls0 : Array Slot} (hpl : plainFor y = true) (ef : ∀ m, entryFrame m as maxL = mkF m 0 Ls0 [])
    (body : ∀ (p : Program) (e : Env) (s : State) (m : MethodId) (below : List Frame) (meth : Method) (c : Code) (s₁ : State), Stand p l e rm s m as below meth c s₁ [] 0 0 → p.tables.exec = Jvm.exec → c.code = bytes → c.maxLocals = maxL → Z.Warmed39 s.vm → s.vm.findClass y.cls = some m.cls → meth.name = y.name → meth.sig.returnType = rt → meth.locks = false → s₁.heap = h0 →
      Go p e below (FinQ s Q rm.cells rm.slots) s₁ (mkF m 0 Ls0 [])) : Met1 l Z y bytes maxL rt rm as h0 Q := by
  intro ws
  refine MetFree.of_bodySF hpl hisR ?_
  intro p e s m args below meth c s₁ Bd hml0 hP hK
  obtain ⟨rfl, hZ, hh⟩ := hP
  have k := body p e s m below meth c s₁ (Stand.of_body Bd) Bd.exec Bd.bytes hml0 hZ (findClass_of_methodNamed Bd.named) (name_of_methodNamed Bd.named Bd.method).1 Bd.returns Bd.notSynchronized (by rw [← hh, Bd.state]; rfl)
  rw [← ef m] at k
  exact k
theorem own_leave {Q : Option Value → Heap → List Loc → Prop} {kc ks : Nat} {v : Option Value} (X : Stand p l e R s m args below meth c T locs cells slots) (hv : meth.sig.returnType = none → v = none) (hlk : meth.locks = false) (hc : cells ≤ kc) (hs : slots ≤ ks) (hQ : Q v T.heap locs)
    (k : ∀ fs, (∀ (f : JFrame) (acts : List Action), f.method = m → f.locked = none → f.entered = [] → (doReturn e (T.setTop f) acts v).1 = T.setFrames fs) → Steps p.tables e below (T.setTop g) (T.setFrames fs)) : Go p e below (FinQ s Q kc ks) T g := by
  obtain ⟨fs, hr, hrun, hended, hW, hsame⟩ := X.leave (v := v) hv hlk
  exact ⟨_, _, k fs hr, hrun, hended, _, _, rfl, hQ, ⟨_, rfl⟩, hW, hsame.mono hc hs⟩
theorem own_retI {Q : Option Value → Heap → List Loc → Prop} {kc ks : Nat} {z : Int32} (X : Stand p l e R s m args below meth c T locs cells slots) (hx : p.tables.exec = Jvm.exec) (hby : c.code = bs) (hret : meth.sig.returnType = some .int) (hlk : meth.locks = false) (hd : decode bs pc = .ok (.ireturn, 1)) (hc : cells ≤ kc) (hs : slots ≤ ks) (hQ : Q (some (.int z)) T.heap locs) : Go p e below (FinQ s Q kc ks) T (mkF m pc Ls (.int z :: st)) := by
  refine own_leave X (fun q => by rw [hret] at q; cases q) hlk hc hs hQ fun fs hr => ?_
  exact retOut X hx hret rfl (Or.inl ⟨rfl, Or.inl rfl, z, rfl⟩) (hb hby hd) hr
theorem own_retN {Q : Option Value → Heap → List Loc → Prop} {kc ks : Nat} {z z' : Int32} {t : FieldType} (X : Stand p l e R s m args below meth c T locs cells slots) (hx : p.tables.exec = Jvm.exec) (hby : c.code = bs) (hret : meth.sig.returnType = some t) (hlk : meth.locks = false) (ht : t = .boolean ∨ t = .byte ∨ t = .char ∨ t = .short) (hd : decode bs pc = .ok (.ireturn, 1)) (hc : cells ≤ kc) (hs : slots ≤ ks) (hn : nar t z = z') (hQ : Q (some (.int z')) T.heap locs) : Go p e below (FinQ s Q kc ks) T (mkF m pc Ls (.int z :: st)) := by
  subst hn
  refine own_leave X (fun q => by rw [hret] at q; cases q) hlk hc hs hQ fun fs hr => ?_
  exact retN X hx hret ht (hb hby hd) hr
theorem own_retJ {Q : Option Value → Heap → List Loc → Prop} {kc ks : Nat} {z : Int64} (X : Stand p l e R s m args below meth c T locs cells slots) (hx : p.tables.exec = Jvm.exec) (hby : c.code = bs) (hret : meth.sig.returnType = some .long) (hlk : meth.locks = false) (hd : decode bs pc = .ok (.lreturn, 1)) (hc : cells ≤ kc) (hs : slots ≤ ks) (hQ : Q (some (.long z)) T.heap locs) : Go p e below (FinQ s Q kc ks) T (mkF m pc Ls (.long z :: st)) := by
  refine own_leave X (fun q => by rw [hret] at q; cases q) hlk hc hs hQ fun fs hr => ?_
  exact retOut X hx hret rfl (Or.inr (Or.inl ⟨rfl, rfl, z, rfl⟩)) (hb hby hd) hr
theorem own_retA {Q : Option Value → Heap → List Loc → Prop} {kc ks : Nat} {w : Value} {t : FieldType} (X : Stand p l e R s m args below meth c T locs cells slots) (hx : p.tables.exec = Jvm.exec) (hby : c.code = bs) (hret : meth.sig.returnType = some t) (hlk : meth.locks = false) (ht : t.isReference = true) (hw : w.isRef = true) (hn : narrow t w = w) (hd : decode bs pc = .ok (.areturn, 1)) (hc : cells ≤ kc) (hs : slots ≤ ks) (hQ : Q (some w) T.heap locs) : Go p e below (FinQ s Q kc ks) T (mkF m pc Ls (w :: st)) := by
  refine own_leave X (fun q => by rw [hret] at q; cases q) hlk hc hs hQ fun fs hr => ?_
  exact retOut X hx hret hn (Or.inr (Or.inr (Or.inr (Or.inr ⟨rfl, ht, hw⟩)))) (hb hby hd) hr
theorem own_ret {Q : Option Value → Heap → List Loc → Prop} {kc ks : Nat} (X : Stand p l e R s m args below meth c T locs cells slots) (hx : p.tables.exec = Jvm.exec) (hby : c.code = bs) (hret : meth.sig.returnType = none) (hlk : meth.locks = false) (hd : decode bs pc = .ok (.return_, 1)) (hc : cells ≤ kc) (hs : slots ≤ ks) (hQ : Q none T.heap locs) : Go p e below (FinQ s Q kc ks) T (mkF m pc Ls []) := by
  refine own_leave X (fun _ => rfl) hlk hc hs hQ fun fs hr => ?_
  exact X.returnOut hx hret (hb hby hd) hr
theorem own_iload (X : Stand p l e R s m args below meth c T locs cells slots) (hx : p.tables.exec = Jvm.exec) (hby : c.code = bs) {n : Nat} (v : Int32) (hd : decode bs pc = .ok (.iload n, 2)) (hl : Ls[n]? = some (.val (.int v))) (pc' : Nat) (hp : pc + 2 = pc') (k : Go p e below G T (mkF m pc' Ls (.int v :: st))) : Go p e below G T (mkF m pc Ls st) := by
  subst hp
  exact Go.by (fun t q => XS.iload X.here hx rfl (hb hby hd) hl q) k
theorem own_iloadN (X : Stand p l e R s m args below meth c T locs cells slots) (hx : p.tables.exec = Jvm.exec) (hby : c.code = bs) {n : Fin 4} (v : Int32) (hd : decode bs pc = .ok (.iload_n n, 1)) (hl : Ls[n.val]? = some (.val (.int v))) (pc' : Nat) (hp : pc + 1 = pc') (k : Go p e below G T (mkF m pc' Ls (.int v :: st))) : Go p e below G T (mkF m pc Ls st) := by
  subst hp
  exact Go.by (fun t q => XS.iloadN X.here hx rfl (hb hby hd) hl q) k
theorem own_istore (X : Stand p l e R s m args below meth c T locs cells slots) (hx : p.tables.exec = Jvm.exec) (hby : c.code = bs) {n : Nat} {x x' : Int32} (hd : decode bs pc = .ok (.istore n, 2)) (ex : x = x') {l' : Array Slot} (hl : storeLocals Ls n (.int x') = some l') (pc' : Nat) (hp : pc + 2 = pc') (k : Go p e below G T (mkF m pc' l' st)) : Go p e below G T (mkF m pc Ls (.int x :: st)) := by
  subst hp
  subst ex
  exact Go.by (fun t q => XS.istore X.here hx rfl (hb hby hd) rfl hl q) k
theorem own_istoreN (X : Stand p l e R s m args below meth c T locs cells slots) (hx : p.tables.exec = Jvm.exec) (hby : c.code = bs) {n : Fin 4} {x x' : Int32} (hd : decode bs pc = .ok (.istore_n n, 1)) (ex : x = x') {l' : Array Slot} (hl : storeLocals Ls n.val (.int x') = some l') (pc' : Nat) (hp : pc + 1 = pc') (k : Go p e below G T (mkF m pc' l' st)) : Go p e below G T (mkF m pc Ls (.int x :: st)) := by
  subst hp
  subst ex
  exact Go.by (fun t q => XS.istoreN X.here hx rfl (hb hby hd) rfl hl q) k
theorem own_lload (X : Stand p l e R s m args below meth c T locs cells slots) (hx : p.tables.exec = Jvm.exec) (hby : c.code = bs) {n : Nat} (v : Int64) (hd : decode bs pc = .ok (.lload n, 2)) (hl : Ls[n]? = some (.val (.long v))) (pc' : Nat) (hp : pc + 2 = pc') (k : Go p e below G T (mkF m pc' Ls (.long v :: st))) : Go p e below G T (mkF m pc Ls st) := by
  subst hp
  exact Go.by (fun t q => XS.lload X.here hx rfl (hb hby hd) hl q) k
theorem own_lloadN (X : Stand p l e R s m args below meth c T locs cells slots) (hx : p.tables.exec = Jvm.exec) (hby : c.code = bs) {n : Fin 4} (v : Int64) (hd : decode bs pc = .ok (.lload_n n, 1)) (hl : Ls[n.val]? = some (.val (.long v))) (pc' : Nat) (hp : pc + 1 = pc') (k : Go p e below G T (mkF m pc' Ls (.long v :: st))) : Go p e below G T (mkF m pc Ls st) := by
  subst hp
  exact Go.by (fun t q => XS.lloadN X.here hx rfl (hb hby hd) hl q) k
theorem own_lstore (X : Stand p l e R s m args below meth c T locs cells slots) (hx : p.tables.exec = Jvm.exec) (hby : c.code = bs) {n : Nat} {x x' : Int64} (hd : decode bs pc = .ok (.lstore n, 2)) (ex : x = x') {l' : Array Slot} (hl : storeLocals Ls n (.long x') = some l') (pc' : Nat) (hp : pc + 2 = pc') (k : Go p e below G T (mkF m pc' l' st)) : Go p e below G T (mkF m pc Ls (.long x :: st)) := by
  subst hp
  subst ex
  exact Go.by (fun t q => XS.lstore X.here hx rfl (hb hby hd) rfl hl q) k
theorem own_lstoreN (X : Stand p l e R s m args below meth c T locs cells slots) (hx : p.tables.exec = Jvm.exec) (hby : c.code = bs) {n : Fin 4} {x x' : Int64} (hd : decode bs pc = .ok (.lstore_n n, 1)) (ex : x = x') {l' : Array Slot} (hl : storeLocals Ls n.val (.long x') = some l') (pc' : Nat) (hp : pc + 1 = pc') (k : Go p e below G T (mkF m pc' l' st)) : Go p e below G T (mkF m pc Ls (.long x :: st)) := by
  subst hp
  subst ex
  exact Go.by (fun t q => XS.lstoreN X.here hx rfl (hb hby hd) rfl hl q) k
theorem own_aload (X : Stand p l e R s m args below meth c T locs cells slots) (hx : p.tables.exec = Jvm.exec) (hby : c.code = bs) {n : Nat} (v : Value) (hd : decode bs pc = .ok (.aload n, 2)) (hl : Ls[n]? = some (.val v)) (hv : v.isRef = true) (pc' : Nat) (hp : pc + 2 = pc') (k : Go p e below G T (mkF m pc' Ls (v :: st))) : Go p e below G T (mkF m pc Ls st) := by
  subst hp
  exact Go.by (fun t q => XS.aload X.here hx rfl (hb hby hd) hl hv q) k
theorem own_aloadN (X : Stand p l e R s m args below meth c T locs cells slots) (hx : p.tables.exec = Jvm.exec) (hby : c.code = bs) {n : Fin 4} (v : Value) (hd : decode bs pc = .ok (.aload_n n, 1)) (hl : Ls[n.val]? = some (.val v)) (hv : v.isRef = true) (pc' : Nat) (hp : pc + 1 = pc') (k : Go p e below G T (mkF m pc' Ls (v :: st))) : Go p e below G T (mkF m pc Ls st) := by
  subst hp
  exact Go.by (fun t q => XS.aloadN X.here hx rfl (hb hby hd) hl hv q) k
theorem own_astore (X : Stand p l e R s m args below meth c T locs cells slots) (hx : p.tables.exec = Jvm.exec) (hby : c.code = bs) {n : Nat} {x : Value} (hd : decode bs pc = .ok (.astore n, 2)) (hv : x.isRef = true) {l' : Array Slot} (hl : storeLocals Ls n x = some l') (pc' : Nat) (hp : pc + 2 = pc') (k : Go p e below G T (mkF m pc' l' st)) : Go p e below G T (mkF m pc Ls (x :: st)) := by
  subst hp
  exact Go.by (fun t q => XS.astore X.here hx rfl (hb hby hd) rfl hv hl q) k
theorem own_astoreN (X : Stand p l e R s m args below meth c T locs cells slots) (hx : p.tables.exec = Jvm.exec) (hby : c.code = bs) {n : Fin 4} {x : Value} (hd : decode bs pc = .ok (.astore_n n, 1)) (hv : x.isRef = true) {l' : Array Slot} (hl : storeLocals Ls n.val x = some l') (pc' : Nat) (hp : pc + 1 = pc') (k : Go p e below G T (mkF m pc' l' st)) : Go p e below G T (mkF m pc Ls (x :: st)) := by
  subst hp
  exact Go.by (fun t q => XS.astoreN X.here hx rfl (hb hby hd) rfl hv hl q) k
theorem own_iconst (X : Stand p l e R s m args below meth c T locs cells slots) (hx : p.tables.exec = Jvm.exec) (hby : c.code = bs) {i : Int} (v : Int32) (hd : decode bs pc = .ok (.iconst i, 1)) (hv : Int32.ofInt i = v) (pc' : Nat) (hp : pc + 1 = pc') (k : Go p e below G T (mkF m pc' Ls (.int v :: st))) : Go p e below G T (mkF m pc Ls st) := by
  subst hp
  subst hv
  exact Go.by (fun t q => XS.iconst X.here hx rfl (hb hby hd) q) k
theorem own_bipush (X : Stand p l e R s m args below meth c T locs cells slots) (hx : p.tables.exec = Jvm.exec) (hby : c.code = bs) {i : Int} (v : Int32) (hd : decode bs pc = .ok (.bipush i, 2)) (hv : (Int8.ofInt i).toInt32 = v) (pc' : Nat) (hp : pc + 2 = pc') (k : Go p e below G T (mkF m pc' Ls (.int v :: st))) : Go p e below G T (mkF m pc Ls st) := by
  subst hp
  subst hv
  exact Go.by (fun t q => XS.bipush X.here hx rfl (hb hby hd) q) k
theorem own_sipush (X : Stand p l e R s m args below meth c T locs cells slots) (hx : p.tables.exec = Jvm.exec) (hby : c.code = bs) {i : Int} (v : Int32) (hd : decode bs pc = .ok (.sipush i, 3)) (hv : (Int16.ofInt i).toInt32 = v) (pc' : Nat) (hp : pc + 3 = pc') (k : Go p e below G T (mkF m pc' Ls (.int v :: st))) : Go p e below G T (mkF m pc Ls st) := by
  subst hp
  subst hv
  exact Go.by (fun t q => XS.sipush X.here hx rfl (hb hby hd) q) k
theorem own_lconst (X : Stand p l e R s m args below meth c T locs cells slots) (hx : p.tables.exec = Jvm.exec) (hby : c.code = bs) {i : Fin 2} (v : Int64) (hd : decode bs pc = .ok (.lconst i, 1)) (hv : Int64.ofNat i = v) (pc' : Nat) (hp : pc + 1 = pc') (k : Go p e below G T (mkF m pc' Ls (.long v :: st))) : Go p e below G T (mkF m pc Ls st) := by
  subst hp
  subst hv
  exact Go.by (fun t q => XS.lconst X.here hx rfl (hb hby hd) q) k
theorem own_aconstNull (X : Stand p l e R s m args below meth c T locs cells slots) (hx : p.tables.exec = Jvm.exec) (hby : c.code = bs)  (hd : decode bs pc = .ok (.aconst_null, 1))  (pc' : Nat) (hp : pc + 1 = pc') (k : Go p e below G T (mkF m pc' Ls (.null :: st))) : Go p e below G T (mkF m pc Ls st) := by
  subst hp
  exact Go.by (fun t q => XS.aconstNull X.here hx rfl (hb hby hd) q) k
theorem own_iadd (X : Stand p l e R s m args below meth c T locs cells slots) (hx : p.tables.exec = Jvm.exec) (hby : c.code = bs) {x y : Int32} (hd : decode bs pc = .ok (.iadd, 1))  (pc' : Nat) (hp : pc + 1 = pc') (k : Go p e below G T (mkF m pc' Ls (.int (x + y) :: st))) : Go p e below G T (mkF m pc Ls (.int y :: .int x :: st)) := by
  subst hp
  exact Go.by (fun t q => XS.iadd X.here hx rfl (hb hby hd) rfl q) k
theorem own_isub (X : Stand p l e R s m args below meth c T locs cells slots) (hx : p.tables.exec = Jvm.exec) (hby : c.code = bs) {x y : Int32} (hd : decode bs pc = .ok (.isub, 1))  (pc' : Nat) (hp : pc + 1 = pc') (k : Go p e below G T (mkF m pc' Ls (.int (x - y) :: st))) : Go p e below G T (mkF m pc Ls (.int y :: .int x :: st)) := by
  subst hp
  exact Go.by (fun t q => XS.isub X.here hx rfl (hb hby hd) rfl q) k
theorem own_imul (X : Stand p l e R s m args below meth c T locs cells slots) (hx : p.tables.exec = Jvm.exec) (hby : c.code = bs) {x y : Int32} (hd : decode bs pc = .ok (.imul, 1))  (pc' : Nat) (hp : pc + 1 = pc') (k : Go p e below G T (mkF m pc' Ls (.int (x * y) :: st))) : Go p e below G T (mkF m pc Ls (.int y :: .int x :: st)) := by
  subst hp
  exact Go.by (fun t q => XS.imul X.here hx rfl (hb hby hd) rfl q) k
theorem own_iand (X : Stand p l e R s m args below meth c T locs cells slots) (hx : p.tables.exec = Jvm.exec) (hby : c.code = bs) {x y : Int32} (hd : decode bs pc = .ok (.iand, 1))  (pc' : Nat) (hp : pc + 1 = pc') (k : Go p e below G T (mkF m pc' Ls (.int (x &&& y) :: st))) : Go p e below G T (mkF m pc Ls (.int y :: .int x :: st)) := by
  subst hp
  exact Go.by (fun t q => XS.iand X.here hx rfl (hb hby hd) rfl q) k
theorem own_ior (X : Stand p l e R s m args below meth c T locs cells slots) (hx : p.tables.exec = Jvm.exec) (hby : c.code = bs) {x y : Int32} (hd : decode bs pc = .ok (.ior, 1))  (pc' : Nat) (hp : pc + 1 = pc') (k : Go p e below G T (mkF m pc' Ls (.int (x ||| y) :: st))) : Go p e below G T (mkF m pc Ls (.int y :: .int x :: st)) := by
  subst hp
  exact Go.by (fun t q => XS.ior X.here hx rfl (hb hby hd) rfl q) k
theorem own_ixor (X : Stand p l e R s m args below meth c T locs cells slots) (hx : p.tables.exec = Jvm.exec) (hby : c.code = bs) {x y : Int32} (hd : decode bs pc = .ok (.ixor, 1))  (pc' : Nat) (hp : pc + 1 = pc') (k : Go p e below G T (mkF m pc' Ls (.int (x ^^^ y) :: st))) : Go p e below G T (mkF m pc Ls (.int y :: .int x :: st)) := by
  subst hp
  exact Go.by (fun t q => XS.ixor X.here hx rfl (hb hby hd) rfl q) k
theorem own_ishl (X : Stand p l e R s m args below meth c T locs cells slots) (hx : p.tables.exec = Jvm.exec) (hby : c.code = bs) {x y : Int32} (hd : decode bs pc = .ok (.ishl, 1))  (pc' : Nat) (hp : pc + 1 = pc') (k : Go p e below G T (mkF m pc' Ls (.int (x <<< (y &&& 31)) :: st))) : Go p e below G T (mkF m pc Ls (.int y :: .int x :: st)) := by
  subst hp
  exact Go.by (fun t q => XS.ishl X.here hx rfl (hb hby hd) rfl q) k
theorem own_ishr (X : Stand p l e R s m args below meth c T locs cells slots) (hx : p.tables.exec = Jvm.exec) (hby : c.code = bs) {x y : Int32} (hd : decode bs pc = .ok (.ishr, 1))  (pc' : Nat) (hp : pc + 1 = pc') (k : Go p e below G T (mkF m pc' Ls (.int (x >>> (y &&& 31)) :: st))) : Go p e below G T (mkF m pc Ls (.int y :: .int x :: st)) := by
  subst hp
  exact Go.by (fun t q => XS.ishr X.here hx rfl (hb hby hd) rfl q) k
theorem own_iushr (X : Stand p l e R s m args below meth c T locs cells slots) (hx : p.tables.exec = Jvm.exec) (hby : c.code = bs) {x y : Int32} (hd : decode bs pc = .ok (.iushr, 1))  (pc' : Nat) (hp : pc + 1 = pc') (k : Go p e below G T (mkF m pc' Ls (.int ((x.toUInt32 >>> (y &&& 31).toUInt32).toInt32) :: st))) : Go p e below G T (mkF m pc Ls (.int y :: .int x :: st)) := by
  subst hp
  exact Go.by (fun t q => XS.iushr X.here hx rfl (hb hby hd) rfl q) k
theorem own_ladd (X : Stand p l e R s m args below meth c T locs cells slots) (hx : p.tables.exec = Jvm.exec) (hby : c.code = bs) {x y : Int64} (hd : decode bs pc = .ok (.ladd, 1))  (pc' : Nat) (hp : pc + 1 = pc') (k : Go p e below G T (mkF m pc' Ls (.long (x + y) :: st))) : Go p e below G T (mkF m pc Ls (.long y :: .long x :: st)) := by
  subst hp
  exact Go.by (fun t q => XS.ladd X.here hx rfl (hb hby hd) rfl q) k
theorem own_lsub (X : Stand p l e R s m args below meth c T locs cells slots) (hx : p.tables.exec = Jvm.exec) (hby : c.code = bs) {x y : Int64} (hd : decode bs pc = .ok (.lsub, 1))  (pc' : Nat) (hp : pc + 1 = pc') (k : Go p e below G T (mkF m pc' Ls (.long (x - y) :: st))) : Go p e below G T (mkF m pc Ls (.long y :: .long x :: st)) := by
  subst hp
  exact Go.by (fun t q => XS.lsub X.here hx rfl (hb hby hd) rfl q) k
theorem own_lmul (X : Stand p l e R s m args below meth c T locs cells slots) (hx : p.tables.exec = Jvm.exec) (hby : c.code = bs) {x y : Int64} (hd : decode bs pc = .ok (.lmul, 1))  (pc' : Nat) (hp : pc + 1 = pc') (k : Go p e below G T (mkF m pc' Ls (.long (x * y) :: st))) : Go p e below G T (mkF m pc Ls (.long y :: .long x :: st)) := by
  subst hp
  exact Go.by (fun t q => XS.lmul X.here hx rfl (hb hby hd) rfl q) k
theorem own_land (X : Stand p l e R s m args below meth c T locs cells slots) (hx : p.tables.exec = Jvm.exec) (hby : c.code = bs) {x y : Int64} (hd : decode bs pc = .ok (.land, 1))  (pc' : Nat) (hp : pc + 1 = pc') (k : Go p e below G T (mkF m pc' Ls (.long (x &&& y) :: st))) : Go p e below G T (mkF m pc Ls (.long y :: .long x :: st)) := by
  subst hp
  exact Go.by (fun t q => XS.land X.here hx rfl (hb hby hd) rfl q) k
theorem own_lor (X : Stand p l e R s m args below meth c T locs cells slots) (hx : p.tables.exec = Jvm.exec) (hby : c.code = bs) {x y : Int64} (hd : decode bs pc = .ok (.lor, 1))  (pc' : Nat) (hp : pc + 1 = pc') (k : Go p e below G T (mkF m pc' Ls (.long (x ||| y) :: st))) : Go p e below G T (mkF m pc Ls (.long y :: .long x :: st)) := by
  subst hp
  exact Go.by (fun t q => XS.lor X.here hx rfl (hb hby hd) rfl q) k
theorem own_lxor (X : Stand p l e R s m args below meth c T locs cells slots) (hx : p.tables.exec = Jvm.exec) (hby : c.code = bs) {x y : Int64} (hd : decode bs pc = .ok (.lxor, 1))  (pc' : Nat) (hp : pc + 1 = pc') (k : Go p e below G T (mkF m pc' Ls (.long (x ^^^ y) :: st))) : Go p e below G T (mkF m pc Ls (.long y :: .long x :: st)) := by
  subst hp
  exact Go.by (fun t q => XS.lxor X.here hx rfl (hb hby hd) rfl q) k
theorem own_lshl (X : Stand p l e R s m args below meth c T locs cells slots) (hx : p.tables.exec = Jvm.exec) (hby : c.code = bs) {x : Int64} {y : Int32} (hd : decode bs pc = .ok (.lshl, 1))  (pc' : Nat) (hp : pc + 1 = pc') (k : Go p e below G T (mkF m pc' Ls (.long (x <<< (y &&& 0x3f).toInt64) :: st))) : Go p e below G T (mkF m pc Ls (.int y :: .long x :: st)) := by
  subst hp
  exact Go.by (fun t q => XS.lshl X.here hx rfl (hb hby hd) rfl q) k
theorem own_lshr (X : Stand p l e R s m args below meth c T locs cells slots) (hx : p.tables.exec = Jvm.exec) (hby : c.code = bs) {x : Int64} {y : Int32} (hd : decode bs pc = .ok (.lshr, 1))  (pc' : Nat) (hp : pc + 1 = pc') (k : Go p e below G T (mkF m pc' Ls (.long (x >>> (y &&& 0x3f).toInt64) :: st))) : Go p e below G T (mkF m pc Ls (.int y :: .long x :: st)) := by
  subst hp
  exact Go.by (fun t q => XS.lshr X.here hx rfl (hb hby hd) rfl q) k
theorem own_lushr (X : Stand p l e R s m args below meth c T locs cells slots) (hx : p.tables.exec = Jvm.exec) (hby : c.code = bs) {x : Int64} {y : Int32} (hd : decode bs pc = .ok (.lushr, 1))  (pc' : Nat) (hp : pc + 1 = pc') (k : Go p e below G T (mkF m pc' Ls (.long ((x.toUInt64 >>> (y &&& 0x3f).toInt64.toUInt64).toInt64) :: st))) : Go p e below G T (mkF m pc Ls (.int y :: .long x :: st)) := by
  subst hp
  exact Go.by (fun t q => XS.lushr X.here hx rfl (hb hby hd) rfl q) k
theorem own_ineg (X : Stand p l e R s m args below meth c T locs cells slots) (hx : p.tables.exec = Jvm.exec) (hby : c.code = bs) {x : Int32} (hd : decode bs pc = .ok (.ineg, 1))  (pc' : Nat) (hp : pc + 1 = pc') (k : Go p e below G T (mkF m pc' Ls (.int (-x) :: st))) : Go p e below G T (mkF m pc Ls (.int x :: st)) := by
  subst hp
  exact Go.by (fun t q => XS.ineg X.here hx rfl (hb hby hd) rfl q) k
theorem own_lneg (X : Stand p l e R s m args below meth c T locs cells slots) (hx : p.tables.exec = Jvm.exec) (hby : c.code = bs) {x : Int64} (hd : decode bs pc = .ok (.lneg, 1))  (pc' : Nat) (hp : pc + 1 = pc') (k : Go p e below G T (mkF m pc' Ls (.long (-x) :: st))) : Go p e below G T (mkF m pc Ls (.long x :: st)) := by
  subst hp
  exact Go.by (fun t q => XS.lneg X.here hx rfl (hb hby hd) rfl q) k
theorem own_i2l (X : Stand p l e R s m args below meth c T locs cells slots) (hx : p.tables.exec = Jvm.exec) (hby : c.code = bs) {x : Int32} (hd : decode bs pc = .ok (.i2l, 1))  (pc' : Nat) (hp : pc + 1 = pc') (k : Go p e below G T (mkF m pc' Ls (.long (x.toInt64) :: st))) : Go p e below G T (mkF m pc Ls (.int x :: st)) := by
  subst hp
  exact Go.by (fun t q => XS.i2l X.here hx rfl (hb hby hd) rfl q) k
theorem own_l2i (X : Stand p l e R s m args below meth c T locs cells slots) (hx : p.tables.exec = Jvm.exec) (hby : c.code = bs) {x : Int64} (hd : decode bs pc = .ok (.l2i, 1))  (pc' : Nat) (hp : pc + 1 = pc') (k : Go p e below G T (mkF m pc' Ls (.int (x.toInt32) :: st))) : Go p e below G T (mkF m pc Ls (.long x :: st)) := by
  subst hp
  exact Go.by (fun t q => XS.l2i X.here hx rfl (hb hby hd) rfl q) k
theorem own_i2b (X : Stand p l e R s m args below meth c T locs cells slots) (hx : p.tables.exec = Jvm.exec) (hby : c.code = bs) {x : Int32} (hd : decode bs pc = .ok (.i2b, 1))  (pc' : Nat) (hp : pc + 1 = pc') (k : Go p e below G T (mkF m pc' Ls (.int (x.toInt8.toInt32) :: st))) : Go p e below G T (mkF m pc Ls (.int x :: st)) := by
  subst hp
  exact Go.by (fun t q => XS.i2b X.here hx rfl (hb hby hd) rfl q) k
theorem own_i2s (X : Stand p l e R s m args below meth c T locs cells slots) (hx : p.tables.exec = Jvm.exec) (hby : c.code = bs) {x : Int32} (hd : decode bs pc = .ok (.i2s, 1))  (pc' : Nat) (hp : pc + 1 = pc') (k : Go p e below G T (mkF m pc' Ls (.int (x.toInt16.toInt32) :: st))) : Go p e below G T (mkF m pc Ls (.int x :: st)) := by
  subst hp
  exact Go.by (fun t q => XS.i2s X.here hx rfl (hb hby hd) rfl q) k
theorem own_i2c (X : Stand p l e R s m args below meth c T locs cells slots) (hx : p.tables.exec = Jvm.exec) (hby : c.code = bs) {x : Int32} (hd : decode bs pc = .ok (.i2c, 1))  (pc' : Nat) (hp : pc + 1 = pc') (k : Go p e below G T (mkF m pc' Ls (.int (x.toUInt32.toUInt16.toUInt32.toInt32) :: st))) : Go p e below G T (mkF m pc Ls (.int x :: st)) := by
  subst hp
  exact Go.by (fun t q => XS.i2c X.here hx rfl (hb hby hd) rfl q) k
theorem own_idiv (X : Stand p l e R s m args below meth c T locs cells slots) (hx : p.tables.exec = Jvm.exec) (hby : c.code = bs) {x y : Int32} (hd : decode bs pc = .ok (.idiv, 1)) (hy : y ≠ 0) (pc' : Nat) (hp : pc + 1 = pc') (k : Go p e below G T (mkF m pc' Ls (.int (x / y) :: st))) : Go p e below G T (mkF m pc Ls (.int y :: .int x :: st)) := by
  subst hp
  exact Go.by (fun t q => XS.idiv X.here hx rfl (hb hby hd) rfl hy q) k
theorem own_ldiv (X : Stand p l e R s m args below meth c T locs cells slots) (hx : p.tables.exec = Jvm.exec) (hby : c.code = bs) {x y : Int64} (hd : decode bs pc = .ok (.ldiv, 1)) (hy : y ≠ 0) (pc' : Nat) (hp : pc + 1 = pc') (k : Go p e below G T (mkF m pc' Ls (.long (x / y) :: st))) : Go p e below G T (mkF m pc Ls (.long y :: .long x :: st)) := by
  subst hp
  exact Go.by (fun t q => XS.ldiv X.here hx rfl (hb hby hd) rfl hy q) k
theorem own_irem (X : Stand p l e R s m args below meth c T locs cells slots) (hx : p.tables.exec = Jvm.exec) (hby : c.code = bs) {x y : Int32} (hd : decode bs pc = .ok (.irem, 1)) (hy : y ≠ 0) (pc' : Nat) (hp : pc + 1 = pc') (k : Go p e below G T (mkF m pc' Ls (.int (x % y) :: st))) : Go p e below G T (mkF m pc Ls (.int y :: .int x :: st)) := by
  subst hp
  exact Go.by (fun t q => iremM X hx rfl (hb hby hd) rfl hy q) k
theorem own_lrem (X : Stand p l e R s m args below meth c T locs cells slots) (hx : p.tables.exec = Jvm.exec) (hby : c.code = bs) {x y : Int64} (hd : decode bs pc = .ok (.lrem, 1)) (hy : y ≠ 0) (pc' : Nat) (hp : pc + 1 = pc') (k : Go p e below G T (mkF m pc' Ls (.long (x % y) :: st))) : Go p e below G T (mkF m pc Ls (.long y :: .long x :: st)) := by
  subst hp
  rw [← lrem_mod] at k
  exact Go.by (fun t q => XS.lrem X.here hx rfl (hb hby hd) rfl hy q) k
theorem own_iinc (X : Stand p l e R s m args below meth c T locs cells slots) (hx : p.tables.exec = Jvm.exec) (hby : c.code = bs) {n : Nat} {cst : Int} {x x' : Int32} (hd : decode bs pc = .ok (.iinc n cst, 3)) (hl : Ls[n]? = some (.val (.int x))) (ex : x + Int32.ofInt cst = x') {l' : Array Slot} (hl' : storeLocals Ls n (.int x') = some l') (pc' : Nat) (hp : pc + 3 = pc') (k : Go p e below G T (mkF m pc' l' st)) : Go p e below G T (mkF m pc Ls st) := by
  subst hp
  subst ex
  exact Go.by (fun t q => XS.iinc X.here hx rfl (hb hby hd) hl hl' q) k
theorem own_dup (X : Stand p l e R s m args below meth c T locs cells slots) (hx : p.tables.exec = Jvm.exec) (hby : c.code = bs) {x : Value} (hd : decode bs pc = .ok (.dup, 1)) (hc : x.category = 1) (pc' : Nat) (hp : pc + 1 = pc') (k : Go p e below G T (mkF m pc' Ls (x :: x :: st))) : Go p e below G T (mkF m pc Ls (x :: st)) := by
  subst hp
  exact Go.by (fun t q => XS.dup X.here hx rfl (hb hby hd) rfl hc q) k
theorem own_pop (X : Stand p l e R s m args below meth c T locs cells slots) (hx : p.tables.exec = Jvm.exec) (hby : c.code = bs) {x : Value} (hd : decode bs pc = .ok (.pop, 1)) (hc : x.category = 1) (pc' : Nat) (hp : pc + 1 = pc') (k : Go p e below G T (mkF m pc' Ls st)) : Go p e below G T (mkF m pc Ls (x :: st)) := by
  subst hp
  exact Go.by (fun t q => XS.pop X.here hx rfl (hb hby hd) rfl hc q) k
theorem own_dupX1 (X : Stand p l e R s m args below meth c T locs cells slots) (hx : p.tables.exec = Jvm.exec) (hby : c.code = bs) {x y : Value} (hd : decode bs pc = .ok (.dup_x1, 1)) (hc : x.category = 1) (hc2 : y.category = 1) (pc' : Nat) (hp : pc + 1 = pc') (k : Go p e below G T (mkF m pc' Ls (x :: y :: x :: st))) : Go p e below G T (mkF m pc Ls (x :: y :: st)) := by
  subst hp
  exact Go.by (fun t q => XS.dupX1 X.here hx rfl (hb hby hd) rfl hc hc2 q) k
theorem own_dup2 (X : Stand p l e R s m args below meth c T locs cells slots) (hx : p.tables.exec = Jvm.exec) (hby : c.code = bs) {x y : Value} (hd : decode bs pc = .ok (.dup2, 1)) (hc : x.category = 1) (hc2 : y.category = 1) (pc' : Nat) (hp : pc + 1 = pc') (k : Go p e below G T (mkF m pc' Ls (x :: y :: x :: y :: st))) : Go p e below G T (mkF m pc Ls (x :: y :: st)) := by
  subst hp
  exact Go.by (fun t q => XT.dup2 X.here hx rfl (hb hby hd) rfl hc hc2 q) k
theorem own_dup2L (X : Stand p l e R s m args below meth c T locs cells slots) (hx : p.tables.exec = Jvm.exec) (hby : c.code = bs) {x : Int64} (hd : decode bs pc = .ok (.dup2, 1))  (pc' : Nat) (hp : pc + 1 = pc') (k : Go p e below G T (mkF m pc' Ls (.long x :: .long x :: st))) : Go p e below G T (mkF m pc Ls (.long x :: st)) := by
  subst hp
  exact Go.by (fun t q => XT.dup2L X.here hx rfl (hb hby hd) rfl q) k
theorem own_goto (X : Stand p l e R s m args below meth c T locs cells slots) (hx : p.tables.exec = Jvm.exec) (hby : c.code = bs) {o : Int} (hd : decode bs pc = .ok (.goto o, 3)) (pc' : Nat) (hp : 0 ≤ (pc : Int) + o ∧ ((pc : Int) + o).toNat = pc') (k : Go p e below G T (mkF m pc' Ls st)) : Go p e below G T (mkF m pc Ls st) :=
  Go.by (fun t q => XS.goto X.here hx rfl rfl (hb hby hd) hp.1 hp.2 q) k
theorem own_top {v v' : Value} (q : v = v') (k : Go p e below G T (mkF m pc Ls (v' :: st))) : Go p e below G T (mkF m pc Ls (v :: st)) := q ▸ k
theorem own_icmp_eq (X : Stand p l e R s m args below meth c T locs cells slots) (hx : p.tables.exec = Jvm.exec) (hby : c.code = bs) {o : Int} {x y : Int32} (hd : decode bs pc = .ok (.if_icmp .eq o, 3)) (pT pF : Nat) (hp : 0 ≤ (pc : Int) + o ∧ ((pc : Int) + o).toNat = pT) (hpF : pc + 3 = pF) (kT : x = y → Go p e below G T (mkF m pT Ls st)) (kF : ¬ x = y → Go p e below G T (mkF m pF Ls st)) : Go p e below G T (mkF m pc Ls (.int y :: .int x :: st)) := by
  subst hpF
  by_cases q0 : x = y
  · have q := q0
    exact Go.by (fun t r => XS.icmpYes X.here hx rfl rfl (hb hby hd) rfl (teq q).1 hp.1 hp.2 r) (kT q0)
  · have q : ¬ x = y := by first | exact q0 | exact Classical.not_not.mp q0
    exact Go.by (fun t r => XS.icmpNo X.here hx rfl (hb hby hd) rfl (feq q).1 r) (kF q)
theorem own_if_eq (X : Stand p l e R s m args below meth c T locs cells slots) (hx : p.tables.exec = Jvm.exec) (hby : c.code = bs) {o : Int} {x : Int32} (hd : decode bs pc = .ok (.ifCond .eq o, 3)) (pT pF : Nat) (hp : 0 ≤ (pc : Int) + o ∧ ((pc : Int) + o).toNat = pT) (hpF : pc + 3 = pF) (kT : x = (0 : Int32) → Go p e below G T (mkF m pT Ls st)) (kF : ¬ x = (0 : Int32) → Go p e below G T (mkF m pF Ls st)) : Go p e below G T (mkF m pc Ls (.int x :: st)) := by
  subst hpF
  by_cases q0 : x = (0 : Int32)
  · have q := q0
    exact Go.by (fun t r => XS.ifYes X.here hx rfl rfl (hb hby hd) rfl ((if0 _ _).trans (teq q).1) hp.1 hp.2 r) (kT q0)
  · have q : ¬ x = (0 : Int32) := by first | exact q0 | exact Classical.not_not.mp q0
    exact Go.by (fun t r => XS.ifNo X.here hx rfl (hb hby hd) rfl ((if0 _ _).trans (feq q).1) r) (kF q)
theorem own_lcmp_eq (X : Stand p l e R s m args below meth c T locs cells slots) (hx : p.tables.exec = Jvm.exec) (hby : c.code = bs) {o : Int} {x y : Int64} (hd : decode bs pc = .ok (.lcmp, 1)) (hd2 : decode bs (pc + 1) = .ok (.ifCond .eq o, 3)) (pT pF : Nat) (hp : 0 ≤ ((pc + 1 : Nat) : Int) + o ∧ (((pc + 1 : Nat) : Int) + o).toNat = pT) (hpF : pc + 4 = pF) (kT : x = y → Go p e below G T (mkF m pT Ls st)) (kF : ¬ x = y → Go p e below G T (mkF m pF Ls st)) : Go p e below G T (mkF m pc Ls (.long y :: .long x :: st)) := by
  refine Go.by (fun t r => XS.lcmp X.here hx rfl (hb hby hd) rfl r) (g' := mkF m (pc + 1) Ls (.int (lcmpW x y) :: st)) ?_
  refine own_if_eq X hx hby hd2 pT pF hp (by omega) (fun q => kT ?_) (fun q => kF ?_)
  · exact (lw_eq x y).mp q
  · exact fun r => q ((lw_eq x y).mpr r)
theorem own_icmp_ne (X : Stand p l e R s m args below meth c T locs cells slots) (hx : p.tables.exec = Jvm.exec) (hby : c.code = bs) {o : Int} {x y : Int32} (hd : decode bs pc = .ok (.if_icmp .ne o, 3)) (pT pF : Nat) (hp : 0 ≤ (pc : Int) + o ∧ ((pc : Int) + o).toNat = pT) (hpF : pc + 3 = pF) (kT : ¬ x = y → Go p e below G T (mkF m pT Ls st)) (kF : x = y → Go p e below G T (mkF m pF Ls st)) : Go p e below G T (mkF m pc Ls (.int y :: .int x :: st)) := by
  subst hpF
  by_cases q0 : ¬ x = y
  · have q := q0
    exact Go.by (fun t r => XS.icmpYes X.here hx rfl rfl (hb hby hd) rfl (feq q).2 hp.1 hp.2 r) (kT q0)
  · have q : x = y := by first | exact q0 | exact Classical.not_not.mp q0
    exact Go.by (fun t r => XS.icmpNo X.here hx rfl (hb hby hd) rfl (teq q).2 r) (kF q)
theorem own_if_ne (X : Stand p l e R s m args below meth c T locs cells slots) (hx : p.tables.exec = Jvm.exec) (hby : c.code = bs) {o : Int} {x : Int32} (hd : decode bs pc = .ok (.ifCond .ne o, 3)) (pT pF : Nat) (hp : 0 ≤ (pc : Int) + o ∧ ((pc : Int) + o).toNat = pT) (hpF : pc + 3 = pF) (kT : ¬ x = (0 : Int32) → Go p e below G T (mkF m pT Ls st)) (kF : x = (0 : Int32) → Go p e below G T (mkF m pF Ls st)) : Go p e below G T (mkF m pc Ls (.int x :: st)) := by
  subst hpF
  by_cases q0 : ¬ x = (0 : Int32)
  · have q := q0
    exact Go.by (fun t r => XS.ifYes X.here hx rfl rfl (hb hby hd) rfl ((if0 _ _).trans (feq q).2) hp.1 hp.2 r) (kT q0)
  · have q : x = (0 : Int32) := by first | exact q0 | exact Classical.not_not.mp q0
    exact Go.by (fun t r => XS.ifNo X.here hx rfl (hb hby hd) rfl ((if0 _ _).trans (teq q).2) r) (kF q)
theorem own_lcmp_ne (X : Stand p l e R s m args below meth c T locs cells slots) (hx : p.tables.exec = Jvm.exec) (hby : c.code = bs) {o : Int} {x y : Int64} (hd : decode bs pc = .ok (.lcmp, 1)) (hd2 : decode bs (pc + 1) = .ok (.ifCond .ne o, 3)) (pT pF : Nat) (hp : 0 ≤ ((pc + 1 : Nat) : Int) + o ∧ (((pc + 1 : Nat) : Int) + o).toNat = pT) (hpF : pc + 4 = pF) (kT : ¬ x = y → Go p e below G T (mkF m pT Ls st)) (kF : x = y → Go p e below G T (mkF m pF Ls st)) : Go p e below G T (mkF m pc Ls (.long y :: .long x :: st)) := by
  refine Go.by (fun t r => XS.lcmp X.here hx rfl (hb hby hd) rfl r) (g' := mkF m (pc + 1) Ls (.int (lcmpW x y) :: st)) ?_
  refine own_if_ne X hx hby hd2 pT pF hp (by omega) (fun q => kT ?_) (fun q => kF ?_)
  · exact fun r => q ((lw_eq x y).mpr r)
  · exact (lw_eq x y).mp q
theorem own_icmp_lt (X : Stand p l e R s m args below meth c T locs cells slots) (hx : p.tables.exec = Jvm.exec) (hby : c.code = bs) {o : Int} {x y : Int32} (hd : decode bs pc = .ok (.if_icmp .lt o, 3)) (pT pF : Nat) (hp : 0 ≤ (pc : Int) + o ∧ ((pc : Int) + o).toNat = pT) (hpF : pc + 3 = pF) (kT : x < y → Go p e below G T (mkF m pT Ls st)) (kF : ¬ x < y → Go p e below G T (mkF m pF Ls st)) : Go p e below G T (mkF m pc Ls (.int y :: .int x :: st)) := by
  subst hpF
  by_cases q0 : x < y
  · have q := q0
    exact Go.by (fun t r => XS.icmpYes X.here hx rfl rfl (hb hby hd) rfl (tlt q).1 hp.1 hp.2 r) (kT q0)
  · have q : ¬ x < y := by first | exact q0 | exact Classical.not_not.mp q0
    exact Go.by (fun t r => XS.icmpNo X.here hx rfl (hb hby hd) rfl (flt q).1 r) (kF q)
theorem own_if_lt (X : Stand p l e R s m args below meth c T locs cells slots) (hx : p.tables.exec = Jvm.exec) (hby : c.code = bs) {o : Int} {x : Int32} (hd : decode bs pc = .ok (.ifCond .lt o, 3)) (pT pF : Nat) (hp : 0 ≤ (pc : Int) + o ∧ ((pc : Int) + o).toNat = pT) (hpF : pc + 3 = pF) (kT : x < (0 : Int32) → Go p e below G T (mkF m pT Ls st)) (kF : ¬ x < (0 : Int32) → Go p e below G T (mkF m pF Ls st)) : Go p e below G T (mkF m pc Ls (.int x :: st)) := by
  subst hpF
  by_cases q0 : x < (0 : Int32)
  · have q := q0
    exact Go.by (fun t r => XS.ifYes X.here hx rfl rfl (hb hby hd) rfl ((if0 _ _).trans (tlt q).1) hp.1 hp.2 r) (kT q0)
  · have q : ¬ x < (0 : Int32) := by first | exact q0 | exact Classical.not_not.mp q0
    exact Go.by (fun t r => XS.ifNo X.here hx rfl (hb hby hd) rfl ((if0 _ _).trans (flt q).1) r) (kF q)
theorem own_lcmp_lt (X : Stand p l e R s m args below meth c T locs cells slots) (hx : p.tables.exec = Jvm.exec) (hby : c.code = bs) {o : Int} {x y : Int64} (hd : decode bs pc = .ok (.lcmp, 1)) (hd2 : decode bs (pc + 1) = .ok (.ifCond .lt o, 3)) (pT pF : Nat) (hp : 0 ≤ ((pc + 1 : Nat) : Int) + o ∧ (((pc + 1 : Nat) : Int) + o).toNat = pT) (hpF : pc + 4 = pF) (kT : x < y → Go p e below G T (mkF m pT Ls st)) (kF : ¬ x < y → Go p e below G T (mkF m pF Ls st)) : Go p e below G T (mkF m pc Ls (.long y :: .long x :: st)) := by
  refine Go.by (fun t r => XS.lcmp X.here hx rfl (hb hby hd) rfl r) (g' := mkF m (pc + 1) Ls (.int (lcmpW x y) :: st)) ?_
  refine own_if_lt X hx hby hd2 pT pF hp (by omega) (fun q => kT ?_) (fun q => kF ?_)
  · exact (lw_lt x y).mp q
  · exact fun r => q ((lw_lt x y).mpr r)
theorem own_icmp_ge (X : Stand p l e R s m args below meth c T locs cells slots) (hx : p.tables.exec = Jvm.exec) (hby : c.code = bs) {o : Int} {x y : Int32} (hd : decode bs pc = .ok (.if_icmp .ge o, 3)) (pT pF : Nat) (hp : 0 ≤ (pc : Int) + o ∧ ((pc : Int) + o).toNat = pT) (hpF : pc + 3 = pF) (kT : ¬ x < y → Go p e below G T (mkF m pT Ls st)) (kF : x < y → Go p e below G T (mkF m pF Ls st)) : Go p e below G T (mkF m pc Ls (.int y :: .int x :: st)) := by
  subst hpF
  by_cases q0 : ¬ x < y
  · have q := q0
    exact Go.by (fun t r => XS.icmpYes X.here hx rfl rfl (hb hby hd) rfl (flt q).2.1 hp.1 hp.2 r) (kT q0)
  · have q : x < y := by first | exact q0 | exact Classical.not_not.mp q0
    exact Go.by (fun t r => XS.icmpNo X.here hx rfl (hb hby hd) rfl (tlt q).2.1 r) (kF q)
theorem own_if_ge (X : Stand p l e R s m args below meth c T locs cells slots) (hx : p.tables.exec = Jvm.exec) (hby : c.code = bs) {o : Int} {x : Int32} (hd : decode bs pc = .ok (.ifCond .ge o, 3)) (pT pF : Nat) (hp : 0 ≤ (pc : Int) + o ∧ ((pc : Int) + o).toNat = pT) (hpF : pc + 3 = pF) (kT : ¬ x < (0 : Int32) → Go p e below G T (mkF m pT Ls st)) (kF : x < (0 : Int32) → Go p e below G T (mkF m pF Ls st)) : Go p e below G T (mkF m pc Ls (.int x :: st)) := by
  subst hpF
  by_cases q0 : ¬ x < (0 : Int32)
  · have q := q0
    exact Go.by (fun t r => XS.ifYes X.here hx rfl rfl (hb hby hd) rfl ((if0 _ _).trans (flt q).2.1) hp.1 hp.2 r) (kT q0)
  · have q : x < (0 : Int32) := by first | exact q0 | exact Classical.not_not.mp q0
    exact Go.by (fun t r => XS.ifNo X.here hx rfl (hb hby hd) rfl ((if0 _ _).trans (tlt q).2.1) r) (kF q)
theorem own_lcmp_ge (X : Stand p l e R s m args below meth c T locs cells slots) (hx : p.tables.exec = Jvm.exec) (hby : c.code = bs) {o : Int} {x y : Int64} (hd : decode bs pc = .ok (.lcmp, 1)) (hd2 : decode bs (pc + 1) = .ok (.ifCond .ge o, 3)) (pT pF : Nat) (hp : 0 ≤ ((pc + 1 : Nat) : Int) + o ∧ (((pc + 1 : Nat) : Int) + o).toNat = pT) (hpF : pc + 4 = pF) (kT : ¬ x < y → Go p e below G T (mkF m pT Ls st)) (kF : x < y → Go p e below G T (mkF m pF Ls st)) : Go p e below G T (mkF m pc Ls (.long y :: .long x :: st)) := by
  refine Go.by (fun t r => XS.lcmp X.here hx rfl (hb hby hd) rfl r) (g' := mkF m (pc + 1) Ls (.int (lcmpW x y) :: st)) ?_
  refine own_if_ge X hx hby hd2 pT pF hp (by omega) (fun q => kT ?_) (fun q => kF ?_)
  · exact fun r => q ((lw_lt x y).mpr r)
  · exact (lw_lt x y).mp q
theorem own_icmp_gt (X : Stand p l e R s m args below meth c T locs cells slots) (hx : p.tables.exec = Jvm.exec) (hby : c.code = bs) {o : Int} {x y : Int32} (hd : decode bs pc = .ok (.if_icmp .gt o, 3)) (pT pF : Nat) (hp : 0 ≤ (pc : Int) + o ∧ ((pc : Int) + o).toNat = pT) (hpF : pc + 3 = pF) (kT : y < x → Go p e below G T (mkF m pT Ls st)) (kF : ¬ y < x → Go p e below G T (mkF m pF Ls st)) : Go p e below G T (mkF m pc Ls (.int y :: .int x :: st)) := by
  subst hpF
  by_cases q0 : y < x
  · have q := q0
    exact Go.by (fun t r => XS.icmpYes X.here hx rfl rfl (hb hby hd) rfl (tlt q).2.2.1 hp.1 hp.2 r) (kT q0)
  · have q : ¬ y < x := by first | exact q0 | exact Classical.not_not.mp q0
    exact Go.by (fun t r => XS.icmpNo X.here hx rfl (hb hby hd) rfl (flt q).2.2.1 r) (kF q)
theorem own_if_gt (X : Stand p l e R s m args below meth c T locs cells slots) (hx : p.tables.exec = Jvm.exec) (hby : c.code = bs) {o : Int} {x : Int32} (hd : decode bs pc = .ok (.ifCond .gt o, 3)) (pT pF : Nat) (hp : 0 ≤ (pc : Int) + o ∧ ((pc : Int) + o).toNat = pT) (hpF : pc + 3 = pF) (kT : (0 : Int32) < x → Go p e below G T (mkF m pT Ls st)) (kF : ¬ (0 : Int32) < x → Go p e below G T (mkF m pF Ls st)) : Go p e below G T (mkF m pc Ls (.int x :: st)) := by
  subst hpF
  by_cases q0 : (0 : Int32) < x
  · have q := q0
    exact Go.by (fun t r => XS.ifYes X.here hx rfl rfl (hb hby hd) rfl ((if0 _ _).trans (tlt q).2.2.1) hp.1 hp.2 r) (kT q0)
  · have q : ¬ (0 : Int32) < x := by first | exact q0 | exact Classical.not_not.mp q0
    exact Go.by (fun t r => XS.ifNo X.here hx rfl (hb hby hd) rfl ((if0 _ _).trans (flt q).2.2.1) r) (kF q)
theorem own_lcmp_gt (X : Stand p l e R s m args below meth c T locs cells slots) (hx : p.tables.exec = Jvm.exec) (hby : c.code = bs) {o : Int} {x y : Int64} (hd : decode bs pc = .ok (.lcmp, 1)) (hd2 : decode bs (pc + 1) = .ok (.ifCond .gt o, 3)) (pT pF : Nat) (hp : 0 ≤ ((pc + 1 : Nat) : Int) + o ∧ (((pc + 1 : Nat) : Int) + o).toNat = pT) (hpF : pc + 4 = pF) (kT : y < x → Go p e below G T (mkF m pT Ls st)) (kF : ¬ y < x → Go p e below G T (mkF m pF Ls st)) : Go p e below G T (mkF m pc Ls (.long y :: .long x :: st)) := by
  refine Go.by (fun t r => XS.lcmp X.here hx rfl (hb hby hd) rfl r) (g' := mkF m (pc + 1) Ls (.int (lcmpW x y) :: st)) ?_
  refine own_if_gt X hx hby hd2 pT pF hp (by omega) (fun q => kT ?_) (fun q => kF ?_)
  · exact (lw_gt x y).mp q
  · exact fun r => q ((lw_gt x y).mpr r)
theorem own_icmp_le (X : Stand p l e R s m args below meth c T locs cells slots) (hx : p.tables.exec = Jvm.exec) (hby : c.code = bs) {o : Int} {x y : Int32} (hd : decode bs pc = .ok (.if_icmp .le o, 3)) (pT pF : Nat) (hp : 0 ≤ (pc : Int) + o ∧ ((pc : Int) + o).toNat = pT) (hpF : pc + 3 = pF) (kT : ¬ y < x → Go p e below G T (mkF m pT Ls st)) (kF : y < x → Go p e below G T (mkF m pF Ls st)) : Go p e below G T (mkF m pc Ls (.int y :: .int x :: st)) := by
  subst hpF
  by_cases q0 : ¬ y < x
  · have q := q0
    exact Go.by (fun t r => XS.icmpYes X.here hx rfl rfl (hb hby hd) rfl (flt q).2.2.2 hp.1 hp.2 r) (kT q0)
  · have q : y < x := by first | exact q0 | exact Classical.not_not.mp q0
    exact Go.by (fun t r => XS.icmpNo X.here hx rfl (hb hby hd) rfl (tlt q).2.2.2 r) (kF q)
theorem own_if_le (X : Stand p l e R s m args below meth c T locs cells slots) (hx : p.tables.exec = Jvm.exec) (hby : c.code = bs) {o : Int} {x : Int32} (hd : decode bs pc = .ok (.ifCond .le o, 3)) (pT pF : Nat) (hp : 0 ≤ (pc : Int) + o ∧ ((pc : Int) + o).toNat = pT) (hpF : pc + 3 = pF) (kT : ¬ (0 : Int32) < x → Go p e below G T (mkF m pT Ls st)) (kF : (0 : Int32) < x → Go p e below G T (mkF m pF Ls st)) : Go p e below G T (mkF m pc Ls (.int x :: st)) := by
  subst hpF
  by_cases q0 : ¬ (0 : Int32) < x
  · have q := q0
    exact Go.by (fun t r => XS.ifYes X.here hx rfl rfl (hb hby hd) rfl ((if0 _ _).trans (flt q).2.2.2) hp.1 hp.2 r) (kT q0)
  · have q : (0 : Int32) < x := by first | exact q0 | exact Classical.not_not.mp q0
    exact Go.by (fun t r => XS.ifNo X.here hx rfl (hb hby hd) rfl ((if0 _ _).trans (tlt q).2.2.2) r) (kF q)
theorem own_lcmp_le (X : Stand p l e R s m args below meth c T locs cells slots) (hx : p.tables.exec = Jvm.exec) (hby : c.code = bs) {o : Int} {x y : Int64} (hd : decode bs pc = .ok (.lcmp, 1)) (hd2 : decode bs (pc + 1) = .ok (.ifCond .le o, 3)) (pT pF : Nat) (hp : 0 ≤ ((pc + 1 : Nat) : Int) + o ∧ (((pc + 1 : Nat) : Int) + o).toNat = pT) (hpF : pc + 4 = pF) (kT : ¬ y < x → Go p e below G T (mkF m pT Ls st)) (kF : y < x → Go p e below G T (mkF m pF Ls st)) : Go p e below G T (mkF m pc Ls (.long y :: .long x :: st)) := by
  refine Go.by (fun t r => XS.lcmp X.here hx rfl (hb hby hd) rfl r) (g' := mkF m (pc + 1) Ls (.int (lcmpW x y) :: st)) ?_
  refine own_if_le X hx hby hd2 pT pF hp (by omega) (fun q => kT ?_) (fun q => kF ?_)
  · exact fun r => q ((lw_gt x y).mpr r)
  · exact (lw_gt x y).mp q
theorem own_ifnullY (X : Stand p l e R s m args below meth c T locs cells slots) (hx : p.tables.exec = Jvm.exec) (hby : c.code = bs) {o : Int}  (hd : decode bs pc = .ok (.ifnull o, 3)) (pc' : Nat) (hp : 0 ≤ (pc : Int) + o ∧ ((pc : Int) + o).toNat = pc') (k : Go p e below G T (mkF m pc' Ls st)) : Go p e below G T (mkF m pc Ls (.null :: st)) :=
  Go.by (fun t q => XS.ifnullYes X.here hx rfl rfl (hb hby hd) rfl hp.1 hp.2 q) k
theorem own_ifnullN (X : Stand p l e R s m args below meth c T locs cells slots) (hx : p.tables.exec = Jvm.exec) (hby : c.code = bs) {o : Int} {b : Addr} (hd : decode bs pc = .ok (.ifnull o, 3)) (pc' : Nat) (hp : pc + 3 = pc') (k : Go p e below G T (mkF m pc' Ls st)) : Go p e below G T (mkF m pc Ls (.ref b :: st)) := by
  subst hp
  exact Go.by (fun t q => XS.ifnullNo X.here hx rfl (hb hby hd) rfl q) k
theorem own_ifnonnullY (X : Stand p l e R s m args below meth c T locs cells slots) (hx : p.tables.exec = Jvm.exec) (hby : c.code = bs) {o : Int} {b : Addr} (hd : decode bs pc = .ok (.ifnonnull o, 3)) (pc' : Nat) (hp : 0 ≤ (pc : Int) + o ∧ ((pc : Int) + o).toNat = pc') (k : Go p e below G T (mkF m pc' Ls st)) : Go p e below G T (mkF m pc Ls (.ref b :: st)) :=
  Go.by (fun t q => XS.ifnonnullYes X.here hx rfl rfl (hb hby hd) rfl hp.1 hp.2 q) k
theorem own_ifnonnullN (X : Stand p l e R s m args below meth c T locs cells slots) (hx : p.tables.exec = Jvm.exec) (hby : c.code = bs) {o : Int}  (hd : decode bs pc = .ok (.ifnonnull o, 3)) (pc' : Nat) (hp : pc + 3 = pc') (k : Go p e below G T (mkF m pc' Ls st)) : Go p e below G T (mkF m pc Ls (.null :: st)) := by
  subst hp
  exact Go.by (fun t q => XS.ifnonnullNo X.here hx rfl (hb hby hd) rfl q) k
theorem own_ldc (X : Stand p l e R s m args below meth c T locs cells slots) (hx : p.tables.exec = Jvm.exec) (hby : c.code = bs) (hZ : Z.Warmed39 s.vm) {own : String} {idx : Nat} (v : Int32) (hown : s.vm.findClass own = some m.cls) (w : (Jvm.Cond.constant own idx v).before a0 Z = true) (hd : decode bs pc = .ok (.ldc idx, 2)) (pc' : Nat) (hp : pc + 2 = pc') (k : Go p e below G T (mkF m pc' Ls (.int v :: st))) : Go p e below G T (mkF m pc Ls st) := by
  subst hp
  exact Go.by (fun t q => X.ldcInt hx hown (mvT hZ w) (g := mkF m pc Ls st) rfl (hb hby hd) t q) k
theorem own_ldc2 (X : Stand p l e R s m args below meth c T locs cells slots) (hx : p.tables.exec = Jvm.exec) (hby : c.code = bs) (hZ : Z.Warmed39 s.vm) {own : String} {idx : Nat} (v : Int64) (hown : s.vm.findClass own = some m.cls) (w : (Jvm.Cond.constantLong own idx v).before a0 Z = true) (hd : decode bs pc = .ok (.ldc2_w idx, 3)) (pc' : Nat) (hp : pc + 3 = pc') (k : Go p e below G T (mkF m pc' Ls (.long v :: st))) : Go p e below G T (mkF m pc Ls st) := by
  subst hp
  exact Go.by (fun t q => X.ldc2Long hx hown (mvT hZ w) (g := mkF m pc Ls st) rfl (hb hby hd) t q) k
theorem own_callS (X : Stand p l e R s m args below meth c T locs cells slots) (hx : p.tables.exec = Jvm.exec) (hby : c.code = bs) (hZ : Z.Warmed39 s.vm) {own : String} {idx : Nat} {y : MethodName} {yb : ByteArray} {yml : Nat} {yrt : Option FieldType} {rm : Room} {as : Array Value} {Qc : Option Value → Heap → List Loc → Prop} (argsL : List Value) (has : argsL.toArray = as) (hown : s.vm.findClass own = some m.cls) (w1 : (Jvm.Cond.methodLink own idx y).before a0 Z = true) (w2 : (Jvm.Cond.static y).before a0 Z = true) (w3 : (Jvm.Cond.initialized y.cls).before a0 Z = true) (w4 : (Jvm.Cond.code y yb yml yrt).before a0 Z = true) (hy : y.cls ≠ "java/lang/invoke/MethodHandle" ∧ y.cls ≠ "java/lang/invoke/VarHandle") (hd : decode bs pc = .ok (.invokestatic idx, 3)) (hM : Met1 l Z y yb yml yrt rm as h Qc) (eT : T.heap = h) {ps : List FieldType} {pr : Option FieldType} (hpd : parseMethodDescriptor y.desc = some ⟨ps, pr⟩) (hlen : argsL.length = ps.length) (hml : Ls.size = c.maxLocals) (hf : rm.frames + 1 ≤ R.frames) (W : Nat) (hW : (st.map fun v => v.category).sum = W) (hl : W + (yml + 11) + rm.locals ≤ R.locals) (hcl : cells + rm.cells ≤ R.cells) (hsl : slots + rm.slots ≤ R.slots) (pc' : Nat) (hp : pc + 3 = pc') (k : ∀ (T' : State) (L : List Loc) (v : Option Value), Stand p l e R s m args below meth c T' (locs ++ L) (cells + rm.cells) (slots + rm.slots) → Qc v T'.heap L → Go p e below G T' (mkF m pc' Ls (v.toList ++ st))) : Go p e below G T (mkF m pc Ls (argsL.reverse ++ st)) := by
  subst has
  subst hp
  obtain ⟨v, vm₁, ⟨T1, L1, k1, n1⟩, -, X1, ⟨Lc, hQ, l1, y1, z1⟩, st1⟩ := Jvm.LawKit.callS X hx (y := y) hown (mvT hZ w1) (mvT hZ w2) (mvT hZ w3) (mvT hZ w4) hy (backOf (W := W) (hM []) hZ w4 w3 hf hl) (g := mkF m pc Ls (argsL.reverse ++ st)) rfl hml (argsL := argsL) (rest := st) (lenOf hpd hlen) rfl (by show 2 * 0 + _ ≤ _; omega) (hb hby hd) (fun _ _ => ⟨rfl, eT, hcl, hsl⟩)
  dsimp only [Pt.U, Pt.locs, Pt.cells, Pt.slots] at X1 l1 y1 z1 st1 hQ
  subst l1 y1 z1
  exact Go.by (fun t q => st1 t q) (k T1 Lc v X1 hQ)
theorem own_callC (X : Stand p l e R s m args below meth c T locs cells slots) (hx : p.tables.exec = Jvm.exec) (hby : c.code = bs) (hZ : Z.Warmed39 s.vm) {own : String} {idx : Nat} {y : MethodName} {yb : ByteArray} {yml : Nat} {rm : Room} {as : Array Value} {Qc : Option Value → Heap → List Loc → Prop} {a : Addr} (argsL : List Value) (has : (.ref a :: argsL).toArray = as) (hy1 : y.name = "<init>") (hown : s.vm.findClass own = some m.cls) (w1 : (Jvm.Cond.methodLink own idx y).before a0 Z = true) (w2 : (Jvm.Cond.instanceMethod y).before a0 Z = true) (w3 : (Jvm.Cond.initialized y.cls).before a0 Z = true) (w4 : (Jvm.Cond.code y yb yml none).before a0 Z = true) (hy : y.cls ≠ "java/lang/invoke/MethodHandle" ∧ y.cls ≠ "java/lang/invoke/VarHandle") (hd : decode bs pc = .ok (.invokespecial idx, 3)) (hM : Met1 l Z y yb yml none rm as h Qc) (eT : T.heap = h) {ps : List FieldType} {pr : Option FieldType} (hpd : parseMethodDescriptor y.desc = some ⟨ps, pr⟩) (hlen : argsL.length = ps.length) (hml : Ls.size = c.maxLocals) (hf : rm.frames + 1 ≤ R.frames) (W : Nat) (hW : (st.map fun v => v.category).sum = W) (hl : W + (yml + 11) + rm.locals ≤ R.locals) (hcl : cells + rm.cells ≤ R.cells) (hsl : slots + rm.slots ≤ R.slots) (pc' : Nat) (hp : pc + 3 = pc') (k : ∀ (T' : State) (L : List Loc) (v : Option Value), Stand p l e R s m args below meth c T' (locs ++ L) (cells + rm.cells) (slots + rm.slots) → Qc v T'.heap L → Go p e below G T' (mkF m pc' Ls (v.toList ++ st))) : Go p e below G T (mkF m pc Ls (argsL.reverse ++ .ref a :: st)) := by
  subst has
  subst hp
  obtain ⟨v, vm₁, ⟨T1, L1, k1, n1⟩, -, X1, ⟨Lc, hQ, l1, y1, z1⟩, st1⟩ := X.specialBack hx (y := y) hy1 hown (mvT hZ w1) (mvT hZ w2) (mvT hZ w4) hy (backOf (W := W) (hM []) hZ w4 w3 hf hl) (g := mkF m pc Ls (argsL.reverse ++ .ref a :: st)) rfl hml (Steps.refl _) (a := a) (argsL := argsL) (rest := st) (lenOf hpd hlen) rfl (by show 2 * 0 + _ ≤ _; omega) (hb hby hd) (fun _ _ => ⟨rfl, eT, hcl, hsl⟩)
  dsimp only [Pt.U, Pt.locs, Pt.cells, Pt.slots] at X1 l1 y1 z1 st1 hQ
  subst l1 y1 z1
  exact Go.by (fun t q => st1.trans q) (k T1 Lc v X1 hQ)
theorem own_callV (X : Stand p l e R s m args below meth c T locs cells slots) (hx : p.tables.exec = Jvm.exec) (hby : c.code = bs) (hZ : Z.Warmed39 s.vm) {own : String} {idx : Nat} {y : MethodName} {yb : ByteArray} {yml : Nat} {yrt : Option FieldType} {rm : Room} {as : Array Value} {Qc : Option Value → Heap → List Loc → Prop} {a : Addr} {C : String} (argsL : List Value) (has : (.ref a :: argsL).toArray = as) (hown : s.vm.findClass own = some m.cls) (w1 : (Jvm.Cond.methodLink own idx y).before a0 Z = true) (w5 : (Jvm.Cond.declares y).before a0 Z = true) (w6 : (Jvm.Cond.selects C y y).before a0 Z = true) (w2 : (Jvm.Cond.instanceMethod y).before a0 Z = true) (w3 : (Jvm.Cond.initialized y.cls).before a0 Z = true) (w4 : (Jvm.Cond.code y yb yml yrt).before a0 Z = true) (E : Exa Z h a C) (hy : y.cls ≠ "java/lang/invoke/MethodHandle" ∧ y.cls ≠ "java/lang/invoke/VarHandle") (hd : decode bs pc = .ok (.invokevirtual idx, 3)) (hM : Met1 l Z y yb yml yrt rm as h Qc) (eT : T.heap = h) {ps : List FieldType} {pr : Option FieldType} (hpd : parseMethodDescriptor y.desc = some ⟨ps, pr⟩) (hlen : argsL.length = ps.length) (hml : Ls.size = c.maxLocals) (hf : rm.frames + 1 ≤ R.frames) (W : Nat) (hW : (st.map fun v => v.category).sum = W) (hl : W + (yml + 11) + rm.locals ≤ R.locals) (hcl : cells + rm.cells ≤ R.cells) (hsl : slots + rm.slots ≤ R.slots) (pc' : Nat) (hp : pc + 3 = pc') (k : ∀ (T' : State) (L : List Loc) (v : Option Value), Stand p l e R s m args below meth c T' (locs ++ L) (cells + rm.cells) (slots + rm.slots) → Qc v T'.heap L → Go p e below G T' (mkF m pc' Ls (v.toList ++ st))) : Go p e below G T (mkF m pc Ls (argsL.reverse ++ .ref a :: st)) := by
  subst has
  obtain ⟨cq, kq, qa, qb, qc⟩ := isOf hZ eT E
  subst hp
  obtain ⟨v, vm₁, ⟨T1, L1, k1, n1⟩, -, X1, ⟨Lc, hQ, l1, y1, z1⟩, st1⟩ := X.virtualBack hx (y := y) (z := y) hown (mvT hZ w1) (mvT hZ w5) (notFace_of_selects (args := #[]) (mvT hZ w6)) (mvT hZ w6) (mvT hZ w2) hy (backOf (W := W) (hM []) hZ w4 w3 hf hl) qa qc (g := mkF m pc Ls (argsL.reverse ++ .ref a :: st)) rfl hml (Steps.refl _) (argsL := argsL) (rest := st) (lenOf hpd hlen) rfl (by show 2 * 0 + _ ≤ _; omega) (hb hby hd) (fun _ _ => ⟨rfl, eT, hcl, hsl⟩)
  dsimp only [Pt.U, Pt.locs, Pt.cells, Pt.slots] at X1 l1 y1 z1 st1 hQ
  subst l1 y1 z1
  exact Go.by (fun t q => st1.trans q) (k T1 Lc v X1 hQ)
theorem own_getF (X : Stand p l e R s m args below meth c T locs cells slots) (hx : p.tables.exec = Jvm.exec) (hby : c.code = bs) (hZ : Z.Warmed39 s.vm) {own R0 O n d host : String} {idx : Nat} {a : Addr} {v : Value} (hown : s.vm.findClass own = some m.cls) (w : (Jvm.Cond.fieldLink own idx R0 n d).before a0 Z = true ∨ (Jvm.Cond.fieldLinkNest own idx R0 n d host).before a0 Z = true) (via : Via Z R0 O n d) (eT : T.heap = h) (F : Fld Z h a O n d v) (hd : decode bs pc = .ok (.getfield idx, 3)) (pc' : Nat) (hp : pc + 3 = pc') (k : ∀ T', Stand p l e R s m args below meth c T' locs cells slots → T'.heap = h → Go p e below G T' (mkF m pc' Ls (v :: st))) : Go p e below G T (mkF m pc Ls (.ref a :: st)) := by
  subst hp
  obtain ⟨T1, X1, e1, st1⟩ := getF X hx hZ hown w via eT F (g := mkF m pc Ls (.ref a :: st)) rfl rfl (hb hby hd)
  exact Go.by (fun t q => st1 t q) (k T1 X1 e1)
theorem own_putF (X : Stand p l e R s m args below meth c T locs cells slots) (hx : p.tables.exec = Jvm.exec) (hby : c.code = bs) (hZ : Z.Warmed39 s.vm) {own R0 O n d host C : String} {idx kk : Nat} {a : Addr} {v old : Value} {ty : FieldType} (hown : s.vm.findClass own = some m.cls) (w : (Jvm.Cond.fieldLink own idx R0 n d).before a0 Z = true ∨ (Jvm.Cond.fieldLinkNest own idx R0 n d host).before a0 Z = true) (via : Via Z R0 O n d) (eT : T.heap = h) (F : Fld Z h a O n d old) (E : Exa Z h a C) (lw : (Jvm.Cond.lays C O n d).before a0 Z = true ∨ ((Jvm.Cond.laysFinal C O n d).before a0 Z = true ∧ own = O ∧ meth.name = "<init>")) (wi : (Jvm.Cond.instantiable C kk).before a0 Z = true) (hty : parseFieldDescriptor d = some ty) (hn : narrow ty v = v) (hf : fits ty v = true) (hd : decode bs pc = .ok (.putfield idx, 3)) (pc' : Nat) (hp : pc + 3 = pc') (k : ∀ T' h', Stand p l e R s m args below meth c T' (locs ++ [⟨a, Jvm.RoadKit.slotOf Z O n d⟩]) cells slots → T'.heap = h' → Wr h h' a (Jvm.RoadKit.slotOf Z O n d) v → Go p e below G T' (mkF m pc' Ls st)) : Go p e below G T (mkF m pc Ls (v :: .ref a :: st)) := by
  subst hp
  obtain ⟨T1, h1, X1, e1, W1, st1⟩ := putF X hx hZ hown w via eT F E lw wi hty hn hf (g := mkF m pc Ls (v :: .ref a :: st)) rfl rfl (hb hby hd)
  exact Go.by (fun t q => st1 t q) (k T1 h1 X1 e1 W1)
theorem own_new (X : Stand p l e R s m args below meth c T locs cells slots) (hx : p.tables.exec = Jvm.exec) (hby : c.code = bs) (hZ : Z.Warmed39 s.vm) {own C : String} {idx n : Nat} (hown : s.vm.findClass own = some m.cls) (w : (Jvm.Cond.classLink own idx C).before a0 Z = true) (wi : (Jvm.Cond.instantiable C n).before a0 Z = true) (wz : (Jvm.Cond.initialized C).before a0 Z = true) (eT : T.heap = h) (hd : decode bs pc = .ok (.new idx, 3)) (hcl : cells + 1 ≤ R.cells) (hsl : slots + n ≤ R.slots) (pc' : Nat) (hp : pc + 3 = pc') (k : ∀ T' h' (b : Addr), b = h.size → Stand p l e R s m args below meth c T' locs (cells + 1) (slots + n) → T'.heap = h' → Ext h h' → Exa Z h' b C → (∀ {O nm d : String} {ty : FieldType}, Laid Z a0 C O nm d → parseFieldDescriptor d = some ty → Fld Z h' b O nm d (defaultValue ty)) → Go p e below G T' (mkF m pc' Ls (.ref b :: st))) : Go p e below G T (mkF m pc Ls st) := by
  subst hp
  obtain ⟨T1, h1, X1, e1, E1, A1, D1, -, st1⟩ := newO X hx hZ hown w wi wz eT (g := mkF m pc Ls st) rfl (hb hby hd) hcl hsl
  exact Go.by (fun t q => st1 t q) (k T1 h1 _ rfl X1 e1 E1 A1 D1)
theorem own_initO (X : Stand p l e R s m args below meth c T locs cells slots) (hx : p.tables.exec = Jvm.exec) (hby : c.code = bs) (hZ : Z.Warmed39 s.vm) {own : String} {idx : Nat} {a : Addr} (hown : s.vm.findClass own = some m.cls) (w1 : (Jvm.Cond.methodLink own idx Lib.objectInit).before a0 Z = true) (w2 : (Jvm.Cond.instanceMethod Lib.objectInit).before a0 Z = true) (w3 : (Jvm.Cond.code Lib.objectInit ⟨#[0xb1]⟩ 1 none).before a0 Z = true) (eT : T.heap = h) (hml : Ls.size = c.maxLocals) (hd : decode bs pc = .ok (.invokespecial idx, 3)) (hf : 1 ≤ R.frames) (W : Nat) (hW : (st.map fun v => v.category).sum = W) (hl : W + 12 ≤ R.locals) (pc' : Nat) (hp : pc + 3 = pc') (k : ∀ T', Stand p l e R s m args below meth c T' locs cells slots → T'.heap = h → Go p e below G T' (mkF m pc' Ls st)) : Go p e below G T (mkF m pc Ls (.ref a :: st)) := by
  subst hp
  obtain ⟨T1, X1, e1, st1⟩ := initO X hx hZ hown w1 w2 w3 eT (g := mkF m pc Ls (.ref a :: st)) rfl hml rfl (hb hby hd) hf (W := W) (by show 2 * 0 + _ ≤ _; omega) hl
  exact Go.by (fun t q => st1 t q) (k T1 X1 e1)
theorem own_putFN (X : Stand p l e R s m args below meth c T locs cells slots) (hx : p.tables.exec = Jvm.exec) (hby : c.code = bs) (hZ : Z.Warmed39 s.vm) {own R0 O n d C : String} {idx kk : Nat} {a : Addr} {v v' old : Value} {ty : FieldType} (hown : s.vm.findClass own = some m.cls) (w : (Jvm.Cond.fieldLink own idx R0 n d).before a0 Z = true) (via : Via Z R0 O n d) (eT : T.heap = h) (F : Fld Z h a O n d old) (E : Exa Z h a C) (lw : (Jvm.Cond.lays C O n d).before a0 Z = true ∨ ((Jvm.Cond.laysFinal C O n d).before a0 Z = true ∧ own = O ∧ meth.name = "<init>")) (wi : (Jvm.Cond.instantiable C kk).before a0 Z = true) (hty : parseFieldDescriptor d = some ty) (hn : narrow ty v = v') (hf : fits ty v' = true) (hd : decode bs pc = .ok (.putfield idx, 3)) (pc' : Nat) (hp : pc + 3 = pc') (k : ∀ T' h', Stand p l e R s m args below meth c T' (locs ++ [⟨a, Jvm.RoadKit.slotOf Z O n d⟩]) cells slots → T'.heap = h' → Wr h h' a (Jvm.RoadKit.slotOf Z O n d) v' → Go p e below G T' (mkF m pc' Ls st)) : Go p e below G T (mkF m pc Ls (v :: .ref a :: st)) := by
  subst hp
  obtain ⟨T1, h1, X1, e1, W1, st1⟩ := putFN X hx hZ hown w via eT F E lw wi hty hn hf (g := mkF m pc Ls (v :: .ref a :: st)) rfl rfl (hb hby hd)
  exact Go.by (fun t q => st1 t q) (k T1 h1 X1 e1 W1)
theorem own_callP (X : Stand p l e R s m args below meth c T locs cells slots) (hx : p.tables.exec = Jvm.exec) (hby : c.code = bs) (hZ : Z.Warmed39 s.vm) {own : String} {idx : Nat} {y : MethodName} {yb : ByteArray} {yml : Nat} {yrt : Option FieldType} {rm : Room} {as : Array Value} {Qc : Option Value → Heap → List Loc → Prop} {a : Addr} {C : String} (argsL : List Value) (has : (.ref a :: argsL).toArray = as) (hown : s.vm.findClass own = some m.cls) (w1 : (Jvm.Cond.methodLink own idx y).before a0 Z = true) (w2 : (Jvm.Cond.instanceMethod y).before a0 Z = true) {kk : Nat} (w6 : (Jvm.Cond.instantiable y.cls kk).before a0 Z = true) (w7 : (Jvm.Cond.privateMethod y).before a0 Z = true) (w3 : (Jvm.Cond.initialized y.cls).before a0 Z = true) (w4 : (Jvm.Cond.code y yb yml yrt).before a0 Z = true) (E : Exa Z h a C) (hy : y.cls ≠ "java/lang/invoke/MethodHandle" ∧ y.cls ≠ "java/lang/invoke/VarHandle") (hd : decode bs pc = .ok (.invokevirtual idx, 3)) (hM : Met1 l Z y yb yml yrt rm as h Qc) (eT : T.heap = h) {ps : List FieldType} {pr : Option FieldType} (hpd : parseMethodDescriptor y.desc = some ⟨ps, pr⟩) (hlen : argsL.length = ps.length) (hml : Ls.size = c.maxLocals) (hf : rm.frames + 1 ≤ R.frames) (W : Nat) (hW : (st.map fun v => v.category).sum = W) (hl : W + (yml + 11) + rm.locals ≤ R.locals) (hcl : cells + rm.cells ≤ R.cells) (hsl : slots + rm.slots ≤ R.slots) (pc' : Nat) (hp : pc + 3 = pc') (k : ∀ (T' : State) (L : List Loc) (v : Option Value), Stand p l e R s m args below meth c T' (locs ++ L) (cells + rm.cells) (slots + rm.slots) → Qc v T'.heap L → Go p e below G T' (mkF m pc' Ls (v.toList ++ st))) : Go p e below G T (mkF m pc Ls (argsL.reverse ++ .ref a :: st)) := by
  subst has
  obtain ⟨cq, q1, q2⟩ := E.cell
  have pv := Cond.privateMethod_at (mvP hZ w7 (args := #[]))
  have sel : (Jvm.Cond.selects y.cls y y).before args s = true := by
    obtain ⟨c1, k1, r1, r2, -, r3, -, -⟩ := Cond.instantiable_spec (mvT (args := args) hZ w6)
    exact selects_self_of_private r1 r2 (Bool.or_eq_false_iff.mp r3).1 pv (mvT hZ w2) hy
  subst hp
  obtain ⟨v, vm₁, ⟨T1, L1, k1, n1⟩, -, X1, ⟨Lc, hQ, l1, y1, z1⟩, st1⟩ := X.privateBack hx (y := y) hown (mvT hZ w1) (mvT hZ w2) sel pv (mvT hZ w4) hy (backOf (W := W) (hM []) hZ w4 w3 hf hl) (g := mkF m pc Ls (argsL.reverse ++ .ref a :: st)) rfl hml (Steps.refl _) (a := a) (by rw [eT]; exact q1) q2 (argsL := argsL) (rest := st) (lenOf hpd hlen) rfl (by show 2 * 0 + _ ≤ _; omega) (hb hby hd) (fun _ _ => ⟨rfl, eT, hcl, hsl⟩)
  dsimp only [Pt.U, Pt.locs, Pt.cells, Pt.slots] at X1 l1 y1 z1 st1 hQ
  subst l1 y1 z1
  exact Go.by (fun t q => st1.trans q) (k T1 Lc v X1 hQ)
theorem own_instY (X : Stand p l e R s m args below meth c T locs cells slots) (hx : p.tables.exec = Jvm.exec) (hby : c.code = bs) (hZ : Z.Warmed39 s.vm) {own K : String} {idx : Nat} {a : Addr} (hown : s.vm.findClass own = some m.cls) (w : (Jvm.Cond.classLink own idx K).before a0 Z = true) (eT : T.heap = h) (F : Ins Z h a K true) (hd : decode bs pc = .ok (.instanceof idx, 3)) (pc' : Nat) (hp : pc + 3 = pc') (k : ∀ T', Stand p l e R s m args below meth c T' locs cells slots → T'.heap = h → Go p e below G T' (mkF m pc' Ls (.int 1 :: st))) : Go p e below G T (mkF m pc Ls (.ref a :: st)) := by
  subst hp
  obtain ⟨T1, X1, e1, st1⟩ := instY X hx hZ hown w eT F (g := mkF m pc Ls (.ref a :: st)) rfl rfl (hb hby hd)
  exact Go.by (fun t q => st1 t q) (k T1 X1 e1)
theorem own_instNo (X : Stand p l e R s m args below meth c T locs cells slots) (hx : p.tables.exec = Jvm.exec) (hby : c.code = bs) (hZ : Z.Warmed39 s.vm) {own K : String} {idx : Nat} {a : Addr} (hown : s.vm.findClass own = some m.cls) (w : (Jvm.Cond.classLink own idx K).before a0 Z = true) (eT : T.heap = h) {C : String} (E : Exa Z h a C) (F : ∃ c t, Z.vm.findClass C = some c ∧ Z.vm.findClass K = some t ∧ Z.vm.assignable c t = false) (hd : decode bs pc = .ok (.instanceof idx, 3)) (pc' : Nat) (hp : pc + 3 = pc') (k : ∀ T', Stand p l e R s m args below meth c T' locs cells slots → T'.heap = h → Go p e below G T' (mkF m pc' Ls (.int 0 :: st))) : Go p e below G T (mkF m pc Ls (.ref a :: st)) := by
  subst hp
  obtain ⟨T1, X1, e1, st1⟩ := instNo X hx hZ hown w eT E F (g := mkF m pc Ls (.ref a :: st)) rfl rfl (hb hby hd)
  exact Go.by (fun t q => st1 t q) (k T1 X1 e1)
theorem own_castY (X : Stand p l e R s m args below meth c T locs cells slots) (hx : p.tables.exec = Jvm.exec) (hby : c.code = bs) (hZ : Z.Warmed39 s.vm) {own K : String} {idx : Nat} {a : Addr} (hown : s.vm.findClass own = some m.cls) (w : (Jvm.Cond.classLink own idx K).before a0 Z = true) (eT : T.heap = h) (F : Ins Z h a K true) (hd : decode bs pc = .ok (.checkcast idx, 3)) (pc' : Nat) (hp : pc + 3 = pc') (k : ∀ T', Stand p l e R s m args below meth c T' locs cells slots → T'.heap = h → Go p e below G T' (mkF m pc' Ls (.ref a :: st))) : Go p e below G T (mkF m pc Ls (.ref a :: st)) := by
  subst hp
  obtain ⟨T1, X1, e1, st1⟩ := castY X hx hZ hown w eT F (g := mkF m pc Ls (.ref a :: st)) rfl rfl (hb hby hd)
  exact Go.by (fun t q => st1 t q) (k T1 X1 e1)
theorem own_instNull (X : Stand p l e R s m args below meth c T locs cells slots) (hx : p.tables.exec = Jvm.exec) (hby : c.code = bs) {idx : Nat} (hd : decode bs pc = .ok (.instanceof idx, 3)) (pc' : Nat) (hp : pc + 3 = pc') (k : Go p e below G T (mkF m pc' Ls (.int 0 :: st))) : Go p e below G T (mkF m pc Ls (.null :: st)) := by
  subst hp
  exact Go.by (fun t q => X.instanceofNull hx (g := mkF m pc Ls (.null :: st)) rfl rfl (hb hby hd) t q) k
theorem own_castNull (X : Stand p l e R s m args below meth c T locs cells slots) (hx : p.tables.exec = Jvm.exec) (hby : c.code = bs) {idx : Nat} (hd : decode bs pc = .ok (.checkcast idx, 3)) (pc' : Nat) (hp : pc + 3 = pc') (k : Go p e below G T (mkF m pc' Ls (.null :: st))) : Go p e below G T (mkF m pc Ls (.null :: st)) := by
  subst hp
  exact Go.by (fun t q => X.checkcastNull hx (g := mkF m pc Ls (.null :: st)) rfl rfl (hb hby hd) t q) k
theorem own_acmp (X : Stand p l e R s m args below meth c T locs cells slots) (hx : p.tables.exec = Jvm.exec) (hby : c.code = bs) {cd : ACond} {o : Int} {x y : Value} (same : Bool) (hd : decode bs pc = .ok (.if_acmp cd o, 3)) (h1 : x.isRef = true) (h2 : y.isRef = true) (hq : decide (x = y) = same) (ho : 0 ≤ (pc : Int) + o) (pc' : Nat) (hp : pc' = if acV cd same = true then ((pc : Int) + o).toNat else pc + 3) (k : Go p e below G T (mkF m pc' Ls st)) : Go p e below G T (mkF m pc Ls (y :: x :: st)) :=
  Go.by (fun t q => Jvm.RoadKit.acmp (g := mkF m pc Ls (y :: x :: st)) X hx rfl h1 h2 (pc0 := pc) (pc' := pc') (same := same) rfl (hb hby hd) rfl hq ho hp q) k
theorem own_getS (X : Stand p l e R s m args below meth c T locs cells slots) (hx : p.tables.exec = Jvm.exec) (hby : c.code = bs) (hZ : Z.Warmed39 s.vm) {own R0 O n d host : String} {idx : Nat} {v : Value} (hown : s.vm.findClass own = some m.cls) (w : (Jvm.Cond.fieldLink own idx R0 n d).before a0 Z = true ∨ (Jvm.Cond.fieldLinkNest own idx R0 n d host).before a0 Z = true) (via : Via Z R0 O n d) (eT : T.heap = h) (F : Sta Z h O n d v) (hd : decode bs pc = .ok (.getstatic idx, 3)) (pc' : Nat) (hp : pc + 3 = pc') (k : ∀ T', Stand p l e R s m args below meth c T' locs cells slots → T'.heap = h → Go p e below G T' (mkF m pc' Ls (v :: st))) : Go p e below G T (mkF m pc Ls st) := by
  subst hp
  obtain ⟨T1, X1, e1, st1⟩ := getS2 X hx hZ hown w via eT F (g := mkF m pc Ls st) rfl (hb hby hd)
  exact Go.by (fun t q => st1 t q) (k T1 X1 e1)
/-- an array of n places that hold what f says -/
def Afn (Z : State) (h : Heap) (a : Addr) (ty : FieldType) (n : Nat) (f : Nat → Value) : Prop := ∃ cl : Cell, Arr Z h a cl ty ∧ cl.slots.size = n ∧ ∀ i, i < n → cl.slots[i]? = some (f i) ∧ fits ty (f i) = true
def upd (f : Nat → Value) (i : Nat) (v : Value) : Nat → Value := fun j => if j = i then v else f j
theorem Afn.lt {a : Addr} {ty : FieldType} {n : Nat} {f : Nat → Value} (F : Afn Z h a ty n f) : a < h.size := by obtain ⟨cl, A, -⟩ := F; exact A.lt
theorem Afn.ext {h' : Heap} {a : Addr} {ty : FieldType} {n : Nat} {f : Nat → Value} (F : Afn Z h a ty n f) (E : Ext h h') : Afn Z h' a ty n f := by obtain ⟨cl, A, r⟩ := F; exact ⟨cl, A.ext E, r⟩
theorem Afn.other {h' : Heap} {a b : Addr} {sl : Nat} {v : Value} {ty : FieldType} {n : Nat} {f : Nat → Value} (F : Afn Z h b ty n f) (W : Wr h h' a sl v) (q : b ≠ a) : Afn Z h' b ty n f := by obtain ⟨cl, A, r⟩ := F; exact ⟨cl, A.other W q, r⟩
theorem Afn.keep {h' : Heap} {a : Addr} {ws : List Addr} {ty : FieldType} {n : Nat} {f : Nat → Value} (F : Afn Z h a ty n f) (K : Keep h h' ws) (q : a ∉ ws) : Afn Z h' a ty n f := by obtain ⟨cl, A, r⟩ := F; exact ⟨cl, ⟨K.2.1 a cl A.1 q, A.2⟩, r⟩
theorem Afn.to {a : Addr} {ty : FieldType} {n : Nat} {f f' : Nat → Value} (F : Afn Z h a ty n f) (q : ∀ i, i < n → f i = f' i) : Afn Z h a ty n f' := by obtain ⟨cl, A, S, H⟩ := F; exact ⟨cl, A, S, fun i hi => q i hi ▸ H i hi⟩
theorem Afn.new {a : Addr} {k : ClassId} {ty : FieldType} {z : Int32} {n : Nat} (A : Arr Z h a (newA k ty z) ty) (q : z.toNatClampNeg = n) : Afn Z h a ty n (fun _ => defaultValue ty) := by
  refine ⟨_, A, by rw [sz_new]; exact q, fun i hi => ⟨?_, by cases ty <;> rfl⟩⟩
  subst q
  show (Array.replicate z.toNatClampNeg (defaultValue ty))[i]? = _
  rw [Array.getElem?_replicate, if_pos hi]
theorem Afn.set {h' : Heap} {a : Addr} {ty : FieldType} {n i : Nat} {v : Value} {f : Nat → Value} (F : Afn Z h a ty n f) (W : Wr h h' a i v) (hi : i < n) (hv : fits ty v = true) : Afn Z h' a ty n (upd f i v) := by
  obtain ⟨cl, A, S, H⟩ := F
  refine ⟨cl.setSlot i v, A.same W, by rw [sz_set]; exact S, fun j hj => ?_⟩
  unfold upd
  by_cases q : j = i
  · subst q
    rw [if_pos rfl]
    refine ⟨?_, hv⟩
    show (cl.slots.setIfInBounds j v)[j]? = some v
    rw [Array.getElem?_setIfInBounds_self_of_lt (by rw [S]; exact hj)]
  · rw [if_neg q]
    refine ⟨?_, (H j hj).2⟩
    rw [← (H j hj).1]
    exact Array.getElem?_setIfInBounds_ne (Ne.symm q)
theorem own_in {j : Int32} {n : Nat} (h0 : 0 ≤ j.toInt) (h1 : j.toInt < n) : ¬ (j < 0 ∨ n ≤ j.toNatClampNeg) := by
  simp only [Int32.lt_iff_toInt_lt, Int32.toNatClampNeg, Int32.reduceToInt]; omega
/-- an array of ints (bytes, chars, shorts): n places that hold what g says -/
def Afi (Z : State) (h : Heap) (a : Addr) (ty : FieldType) (n : Nat) (g : Nat → Int32) : Prop := Afn Z h a ty n (fun i => .int (g i))
def updI (g : Nat → Int32) (i : Nat) (v : Int32) : Nat → Int32 := fun j => if j = i then v else g j
theorem Afi.lt {a : Addr} {ty : FieldType} {n : Nat} {g : Nat → Int32} (F : Afi Z h a ty n g) : a < h.size := Afn.lt F
theorem Afi.ext {h' : Heap} {a : Addr} {ty : FieldType} {n : Nat} {g : Nat → Int32} (F : Afi Z h a ty n g) (E : Ext h h') : Afi Z h' a ty n g := Afn.ext F E
theorem Afi.other {h' : Heap} {a b : Addr} {sl : Nat} {v : Value} {ty : FieldType} {n : Nat} {g : Nat → Int32} (F : Afi Z h b ty n g) (W : Wr h h' a sl v) (q : b ≠ a) : Afi Z h' b ty n g := Afn.other F W q
theorem Afi.keep {h' : Heap} {a : Addr} {ws : List Addr} {ty : FieldType} {n : Nat} {g : Nat → Int32} (F : Afi Z h a ty n g) (K : Keep h h' ws) (q : a ∉ ws) : Afi Z h' a ty n g := Afn.keep F K q
theorem Afi.to {a : Addr} {ty : FieldType} {n : Nat} {g g' : Nat → Int32} (F : Afi Z h a ty n g) (q : ∀ i, i < n → g i = g' i) : Afi Z h a ty n g' := Afn.to F fun i hi => congrArg Value.int (q i hi)
theorem Afi.set {h' : Heap} {a : Addr} {ty : FieldType} {n i : Nat} {v : Int32} {g : Nat → Int32} (F : Afi Z h a ty n g) (W : Wr h h' a i (.int v)) (hi : i < n) (hv : fits ty (.int v) = true) : Afi Z h' a ty n (updI g i v) :=
  (Afn.set F W hi hv).to fun j _ => by
    unfold upd updI
    by_cases q : j = i
    · rw [if_pos q, if_pos q]
    · rw [if_neg q, if_neg q]
theorem own_iaload (X : Stand p l e R s m args below meth c T locs cells slots) (hx : p.tables.exec = Jvm.exec) (hby : c.code = bs) (hZ : Z.Warmed39 s.vm) {a : Addr} {j : Int32} {n : Nat} {g : Nat → Int32} (v : Int32) (eT : T.heap = h) (F : Afi Z h a .int n g) (hj : ¬ (j < 0 ∨ n ≤ j.toNatClampNeg)) (hv : g j.toNatClampNeg = v) (hd : decode bs pc = .ok (.iaload, 1)) (pc' : Nat) (hp : pc + 1 = pc') (k : Go p e below G T (mkF m pc' Ls (.int v :: st))) : Go p e below G T (mkF m pc Ls (.int j :: .ref a :: st)) := by
  subst hp
  subst hv
  obtain ⟨cl, A, S, H⟩ := F
  subst S
  exact Go.by (fun t q => X.iaload hx (j := j) (v := .int (g j.toNatClampNeg)) (by rw [eT]; exact A.1) (State.isArrayOf_alike hZ.alike A.2.1) A.2.2 hj (H _ (Nat.lt_of_not_le fun q => hj (Or.inr q))).1 (g := mkF m pc Ls (.int j :: .ref a :: st)) rfl rfl (hb hby hd) t q) k
theorem own_baload (X : Stand p l e R s m args below meth c T locs cells slots) (hx : p.tables.exec = Jvm.exec) (hby : c.code = bs) (hZ : Z.Warmed39 s.vm) {a : Addr} {j : Int32} {n : Nat} {g : Nat → Int32} (v : Int32) (eT : T.heap = h) (F : Afi Z h a .byte n g) (hj : ¬ (j < 0 ∨ n ≤ j.toNatClampNeg)) (hv : g j.toNatClampNeg = v) (hd : decode bs pc = .ok (.baload, 1)) (pc' : Nat) (hp : pc + 1 = pc') (k : Go p e below G T (mkF m pc' Ls (.int v :: st))) : Go p e below G T (mkF m pc Ls (.int j :: .ref a :: st)) := by
  subst hp
  subst hv
  obtain ⟨cl, A, S, H⟩ := F
  subst S
  exact Go.by (fun t q => X.baloadBytes hx (j := j) (v := .int (g j.toNatClampNeg)) (by rw [eT]; exact A.1) (State.isArrayOf_alike hZ.alike A.2.1) A.2.2 hj (H _ (Nat.lt_of_not_le fun q => hj (Or.inr q))).1 (g := mkF m pc Ls (.int j :: .ref a :: st)) rfl rfl (hb hby hd) t q) k
theorem own_caload (X : Stand p l e R s m args below meth c T locs cells slots) (hx : p.tables.exec = Jvm.exec) (hby : c.code = bs) (hZ : Z.Warmed39 s.vm) {a : Addr} {j : Int32} {n : Nat} {g : Nat → Int32} (v : Int32) (eT : T.heap = h) (F : Afi Z h a .char n g) (hj : ¬ (j < 0 ∨ n ≤ j.toNatClampNeg)) (hv : g j.toNatClampNeg = v) (hd : decode bs pc = .ok (.caload, 1)) (pc' : Nat) (hp : pc + 1 = pc') (k : Go p e below G T (mkF m pc' Ls (.int v :: st))) : Go p e below G T (mkF m pc Ls (.int j :: .ref a :: st)) := by
  subst hp
  subst hv
  obtain ⟨cl, A, S, H⟩ := F
  subst S
  exact Go.by (fun t q => X.caload hx (j := j) (v := .int (g j.toNatClampNeg)) (by rw [eT]; exact A.1) (State.isArrayOf_alike hZ.alike A.2.1) A.2.2 hj (H _ (Nat.lt_of_not_le fun q => hj (Or.inr q))).1 (g := mkF m pc Ls (.int j :: .ref a :: st)) rfl rfl (hb hby hd) t q) k
theorem own_saload (X : Stand p l e R s m args below meth c T locs cells slots) (hx : p.tables.exec = Jvm.exec) (hby : c.code = bs) (hZ : Z.Warmed39 s.vm) {a : Addr} {j : Int32} {n : Nat} {g : Nat → Int32} (v : Int32) (eT : T.heap = h) (F : Afi Z h a .short n g) (hj : ¬ (j < 0 ∨ n ≤ j.toNatClampNeg)) (hv : g j.toNatClampNeg = v) (hd : decode bs pc = .ok (.saload, 1)) (pc' : Nat) (hp : pc + 1 = pc') (k : Go p e below G T (mkF m pc' Ls (.int v :: st))) : Go p e below G T (mkF m pc Ls (.int j :: .ref a :: st)) := by
  subst hp
  subst hv
  obtain ⟨cl, A, S, H⟩ := F
  subst S
  exact Go.by (fun t q => X.saload hx (j := j) (v := .int (g j.toNatClampNeg)) (by rw [eT]; exact A.1) (State.isArrayOf_alike hZ.alike A.2.1) A.2.2 hj (H _ (Nat.lt_of_not_le fun q => hj (Or.inr q))).1 (g := mkF m pc Ls (.int j :: .ref a :: st)) rfl rfl (hb hby hd) t q) k
theorem own_aaload (X : Stand p l e R s m args below meth c T locs cells slots) (hx : p.tables.exec = Jvm.exec) (hby : c.code = bs) (hZ : Z.Warmed39 s.vm) {a : Addr} {j : Int32} {n : Nat} {ty : FieldType} {f : Nat → Value} (v : Value) (eT : T.heap = h) (F : Afn Z h a ty n f) (hty : ty.isReference = true) (hj : ¬ (j < 0 ∨ n ≤ j.toNatClampNeg)) (hv : f j.toNatClampNeg = v) (hd : decode bs pc = .ok (.aaload, 1)) (pc' : Nat) (hp : pc + 1 = pc') (k : Go p e below G T (mkF m pc' Ls (v :: st))) : Go p e below G T (mkF m pc Ls (.int j :: .ref a :: st)) := by
  subst hp
  subst hv
  obtain ⟨cl, A, S, H⟩ := F
  subst S
  exact Go.by (fun t q => X.aaload hx (j := j) (v := f j.toNatClampNeg) (by rw [eT]; exact A.1) (State.isArrayOf_alike hZ.alike A.2.1) hty A.2.2 hj (H _ (Nat.lt_of_not_le fun q => hj (Or.inr q))).1 (g := mkF m pc Ls (.int j :: .ref a :: st)) rfl rfl (hb hby hd) t q) k
theorem own_arraylength (X : Stand p l e R s m args below meth c T locs cells slots) (hx : p.tables.exec = Jvm.exec) (hby : c.code = bs) (hZ : Z.Warmed39 s.vm) {a : Addr} {ty : FieldType} {n : Nat} {f : Nat → Value} (z : Int32) (eT : T.heap = h) (F : Afn Z h a ty n f) (hz : n.toInt32 = z) (hd : decode bs pc = .ok (.arraylength, 1)) (pc' : Nat) (hp : pc + 1 = pc') (k : Go p e below G T (mkF m pc' Ls (.int z :: st))) : Go p e below G T (mkF m pc Ls (.ref a :: st)) := by
  subst hp
  subst hz
  obtain ⟨cl, A, S, H⟩ := F
  subst S
  exact Go.by (fun t q => X.arraylength hx (by rw [eT]; exact A.1) (State.isArrayOf_alike hZ.alike A.2.1) (g := mkF m pc Ls (.ref a :: st)) rfl rfl (hb hby hd) t q) k
theorem own_iastore (X : Stand p l e R s m args below meth c T locs cells slots) (hx : p.tables.exec = Jvm.exec) (hby : c.code = bs) (hZ : Z.Warmed39 s.vm) {a : Addr} {j x : Int32} {n : Nat} {g : Nat → Int32} (eT : T.heap = h) (F : Afi Z h a .int n g) (hj : ¬ (j < 0 ∨ n ≤ j.toNatClampNeg)) (hd : decode bs pc = .ok (.iastore, 1)) (pc' : Nat) (hp : pc + 1 = pc') (k : ∀ T' h', Stand p l e R s m args below meth c T' (locs ++ [⟨a, j.toNatClampNeg⟩]) cells slots → T'.heap = h' → Wr h h' a j.toNatClampNeg (.int x) → Afi Z h' a .int n (updI g j.toNatClampNeg x) → Go p e below G T' (mkF m pc' Ls st)) : Go p e below G T (mkF m pc Ls (.int x :: .int j :: .ref a :: st)) := by
  subst hp
  have F0 := F
  obtain ⟨cl, A, S, H⟩ := F
  obtain ⟨T1, h1, X1, e1, W1, st1⟩ := stI X hx hZ eT A (j := j) (x := x) (by rw [S]; exact hj) (g := mkF m pc Ls (.int x :: .int j :: .ref a :: st)) rfl rfl (hb hby hd)
  exact Go.by (fun t q => st1 t q) (k T1 h1 X1 e1 W1 (F0.set W1 (Nat.lt_of_not_le fun q => hj (Or.inr q)) rfl))
theorem own_bastore (X : Stand p l e R s m args below meth c T locs cells slots) (hx : p.tables.exec = Jvm.exec) (hby : c.code = bs) (hZ : Z.Warmed39 s.vm) {a : Addr} {j x : Int32} {n : Nat} {g : Nat → Int32} (eT : T.heap = h) (F : Afi Z h a .byte n g) (hj : ¬ (j < 0 ∨ n ≤ j.toNatClampNeg)) (hd : decode bs pc = .ok (.bastore, 1)) (pc' : Nat) (hp : pc + 1 = pc') (k : ∀ T' h', Stand p l e R s m args below meth c T' (locs ++ [⟨a, j.toNatClampNeg⟩]) cells slots → T'.heap = h' → Wr h h' a j.toNatClampNeg (.int (nar .byte x)) → Afi Z h' a .byte n (updI g j.toNatClampNeg (nar .byte x)) → Go p e below G T' (mkF m pc' Ls st)) : Go p e below G T (mkF m pc Ls (.int x :: .int j :: .ref a :: st)) := by
  subst hp
  have F0 := F
  obtain ⟨cl, A, S, H⟩ := F
  obtain ⟨T1, h1, X1, e1, W1, st1⟩ := stB X hx hZ eT A (j := j) (x := x) (by rw [S]; exact hj) (g := mkF m pc Ls (.int x :: .int j :: .ref a :: st)) rfl rfl (hb hby hd)
  exact Go.by (fun t q => st1 t q) (k T1 h1 X1 e1 W1 (F0.set W1 (Nat.lt_of_not_le fun q => hj (Or.inr q)) (fits_nar_byte x)))
theorem own_castore (X : Stand p l e R s m args below meth c T locs cells slots) (hx : p.tables.exec = Jvm.exec) (hby : c.code = bs) (hZ : Z.Warmed39 s.vm) {a : Addr} {j x : Int32} {n : Nat} {g : Nat → Int32} (eT : T.heap = h) (F : Afi Z h a .char n g) (hj : ¬ (j < 0 ∨ n ≤ j.toNatClampNeg)) (hd : decode bs pc = .ok (.castore, 1)) (pc' : Nat) (hp : pc + 1 = pc') (k : ∀ T' h', Stand p l e R s m args below meth c T' (locs ++ [⟨a, j.toNatClampNeg⟩]) cells slots → T'.heap = h' → Wr h h' a j.toNatClampNeg (.int (nar .char x)) → Afi Z h' a .char n (updI g j.toNatClampNeg (nar .char x)) → Go p e below G T' (mkF m pc' Ls st)) : Go p e below G T (mkF m pc Ls (.int x :: .int j :: .ref a :: st)) := by
  subst hp
  have F0 := F
  obtain ⟨cl, A, S, H⟩ := F
  obtain ⟨T1, h1, X1, e1, W1, st1⟩ := stC X hx hZ eT A (j := j) (x := x) (by rw [S]; exact hj) (g := mkF m pc Ls (.int x :: .int j :: .ref a :: st)) rfl rfl (hb hby hd)
  exact Go.by (fun t q => st1 t q) (k T1 h1 X1 e1 W1 (F0.set W1 (Nat.lt_of_not_le fun q => hj (Or.inr q)) (fits_nar_char x)))
theorem own_sastore (X : Stand p l e R s m args below meth c T locs cells slots) (hx : p.tables.exec = Jvm.exec) (hby : c.code = bs) (hZ : Z.Warmed39 s.vm) {a : Addr} {j x : Int32} {n : Nat} {g : Nat → Int32} (eT : T.heap = h) (F : Afi Z h a .short n g) (hj : ¬ (j < 0 ∨ n ≤ j.toNatClampNeg)) (hd : decode bs pc = .ok (.sastore, 1)) (pc' : Nat) (hp : pc + 1 = pc') (k : ∀ T' h', Stand p l e R s m args below meth c T' (locs ++ [⟨a, j.toNatClampNeg⟩]) cells slots → T'.heap = h' → Wr h h' a j.toNatClampNeg (.int (nar .short x)) → Afi Z h' a .short n (updI g j.toNatClampNeg (nar .short x)) → Go p e below G T' (mkF m pc' Ls st)) : Go p e below G T (mkF m pc Ls (.int x :: .int j :: .ref a :: st)) := by
  subst hp
  have F0 := F
  obtain ⟨cl, A, S, H⟩ := F
  obtain ⟨T1, h1, X1, e1, W1, st1⟩ := stS X hx hZ eT A (j := j) (x := x) (by rw [S]; exact hj) (g := mkF m pc Ls (.int x :: .int j :: .ref a :: st)) rfl rfl (hb hby hd)
  exact Go.by (fun t q => st1 t q) (k T1 h1 X1 e1 W1 (F0.set W1 (Nat.lt_of_not_le fun q => hj (Or.inr q)) (fits_nar_short x)))
theorem own_aastore (X : Stand p l e R s m args below meth c T locs cells slots) (hx : p.tables.exec = Jvm.exec) (hby : c.code = bs) (hZ : Z.Warmed39 s.vm) {a : Addr} {j : Int32} {v : Value} {n : Nat} {ty : FieldType} {f : Nat → Value} (eT : T.heap = h) (F : Afn Z h a ty n f) (hj : ¬ (j < 0 ∨ n ≤ j.toNatClampNeg)) (hty : ty.isReference = true) (hfv : fits ty v = true) (So : Sto Z h a v) (hd : decode bs pc = .ok (.aastore, 1)) (pc' : Nat) (hp : pc + 1 = pc') (k : ∀ T' h', Stand p l e R s m args below meth c T' (locs ++ [⟨a, j.toNatClampNeg⟩]) cells slots → T'.heap = h' → Wr h h' a j.toNatClampNeg v → Afn Z h' a ty n (upd f j.toNatClampNeg v) → Go p e below G T' (mkF m pc' Ls st)) : Go p e below G T (mkF m pc Ls (v :: .int j :: .ref a :: st)) := by
  subst hp
  have F0 := F
  obtain ⟨cl, A, S, H⟩ := F
  obtain ⟨T1, h1, X1, e1, W1, st1⟩ := stR X hx hZ eT A (j := j) (by rw [S]; exact hj) hty So (g := mkF m pc Ls (v :: .int j :: .ref a :: st)) rfl rfl (hb hby hd)
  exact Go.by (fun t q => st1 t q) (k T1 h1 X1 e1 W1 (F0.set W1 (Nat.lt_of_not_le fun q => hj (Or.inr q)) hfv))
theorem own_newarray (X : Stand p l e R s m args below meth c T locs cells slots) (hx : p.tables.exec = Jvm.exec) (hby : c.code = bs) (hZ : Z.Warmed39 s.vm) {aty : ArrayType} {z : Int32} {n cap : Nat} {ad : String} (w : (Jvm.Cond.arrayClass (newarray.typeOf aty)).before a0 Z = true) (eT : T.heap = h) (hd : decode bs pc = .ok (.newarray aty, 2)) (hz : ¬ z < 0) (hn : z.toNatClampNeg = n) (hcap : n ≤ cap) (hb8 : cap * 8 ≤ 536870912) (hcl : cells + 1 ≤ R.cells) (hsl : slots + cap ≤ R.slots) (had : "[" ++ (newarray.typeOf aty).toString = ad) (pc' : Nat) (hp : pc + 2 = pc') (k : ∀ T' h' (b : Addr), b = h.size → Stand p l e R s m args below meth c T' locs (cells + 1) (slots + cap) → T'.heap = h' → Ext h h' → Afn Z h' b (newarray.typeOf aty) n (fun _ => defaultValue (newarray.typeOf aty)) → Exa Z h' b ad → Go p e below G T' (mkF m pc' Ls (.ref b :: st))) : Go p e below G T (mkF m pc Ls (.int z :: st)) := by
  subst hp
  obtain ⟨T1, h1, cA, X1, e1, E1, A1, Ex1, st1⟩ := newPE X hx hZ w eT (g := mkF m pc Ls (.int z :: st)) rfl (hb hby hd) rfl hz (cap := cap) (by rw [hn]; exact hcap) hb8 hcl hsl had
  exact Go.by (fun t q => st1 t q) (k T1 h1 _ rfl X1 e1 E1 (Afn.new A1 hn) Ex1)
theorem own_anewarray (X : Stand p l e R s m args below meth c T locs cells slots) (hx : p.tables.exec = Jvm.exec) (hby : c.code = bs) (hZ : Z.Warmed39 s.vm) {own C : String} {idx : Nat} {z : Int32} {n cap : Nat} {ad : String} (hown : s.vm.findClass own = some m.cls) (w1 : (Jvm.Cond.classLink own idx C).before a0 Z = true) (w2 : (Jvm.Cond.arrayOver (.object C)).before a0 Z = true) (eT : T.heap = h) (hd : decode bs pc = .ok (.anewarray idx, 3)) (hz : ¬ z < 0) (hn : z.toNatClampNeg = n) (hcap : n ≤ cap) (hb8 : cap * 8 ≤ 536870912) (hcl : cells + 1 ≤ R.cells) (hsl : slots + cap ≤ R.slots) (had : "[" ++ (FieldType.object C).toString = ad) (pc' : Nat) (hp : pc + 3 = pc') (k : ∀ T' h' (b : Addr) cA, b = h.size → Stand p l e R s m args below meth c T' locs (cells + 1) (slots + cap) → T'.heap = h' → Ext h h' → Afn Z h' b (.object C) n (fun _ => .null) → Exa Z h' b ad → Arr Z h' b (newA cA (.object C) z) (.object C) → Ovr Z cA C → Go p e below G T' (mkF m pc' Ls (.ref b :: st))) : Go p e below G T (mkF m pc Ls (.int z :: st)) := by
  subst hp
  obtain ⟨T1, h1, cA, X1, e1, E1, A1, Ex1, O1, st1⟩ := newRE X hx hZ hown w1 w2 eT (g := mkF m pc Ls (.int z :: st)) rfl (hb hby hd) rfl hz (cap := cap) (by rw [hn]; exact hcap) hb8 hcl hsl had
  exact Go.by (fun t q => st1 t q) (k T1 h1 _ cA rfl X1 e1 E1 (Afn.new A1 hn) Ex1 A1 O1)
theorem own_lremV (x y : Int64) : 0 ≤ x.toInt → 0 < y.toInt → 0 ≤ (x % y).toInt ∧ (x % y).toInt < y.toInt := by
  intro h1 h2
  rw [Int64.toInt_mod, (tr x.toInt y.toInt).1 h1]
  exact ⟨Int.emod_nonneg _ (by omega), Int.emod_lt_of_pos _ h2⟩
theorem own_NSroot {O K : String} {n : Nat} (w : (Jvm.Cond.noSuperclass O).before a0 Z = true) (wk : (Jvm.Cond.instantiable K n).before a0 Z = true) (hn : O ≠ K) : NS Z O K := by
  obtain ⟨c, k, h1, h2, h3, -, -⟩ := Cond.noSuperclass_spec w
  obtain ⟨t, k2, g1, -⟩ := Cond.instantiable_spec wk
  have ne := ids_ne h1 g1 hn
  refine ⟨c, t, h1, g1, fun fuel => ?_⟩
  cases fuel with
  | zero => rfl
  | succ f => simp [Vm.isSubclassAux, ne, h2, h3]
theorem own_NSno {C S K : String} {n : Nat} (w : (Jvm.Cond.superclass C S).before a0 Z = true) (wk : (Jvm.Cond.instantiable K n).before a0 Z = true) (nn : NS Z C K) (hn : C ≠ K) : ∃ c t, Z.vm.findClass C = some c ∧ Z.vm.findClass K = some t ∧ Z.vm.assignable c t = false := by
  obtain ⟨c, t, h0, g0, n3⟩ := nn
  obtain ⟨p, k, kp, h1, h2, h3, h4, h5, -, h7⟩ := Cond.superclass_spec h0 w
  obtain ⟨t', k', g1, g2, g5, g6, -, -⟩ := Cond.instantiable_spec wk
  cases g0.symm.trans g1
  have ne := ids_ne h0 g0 hn
  have g7 : k'.isInterface = false := (Bool.or_eq_false_iff.mp g6).1
  refine ⟨c, t, h0, g0, ?_⟩
  show Z.vm.assignableAux (255 + 1) c t = false
  simp [Vm.assignableAux, ne, h2, g2, h5, g5, g7, Vm.isSubclass, n3]
theorem Keep.ext0 {h0 : Heap} (K : Keep h0 h []) : Ext h0 h := ⟨K.1, fun a c q => K.2.1 a c q nin0⟩
/-- an array of references over the class C takes objects of C -/
def Orr (Z : State) (h : Heap) (b : Addr) (C : String) : Prop := ∃ (c : Cell) (cA : ClassId), Arr Z h b c (.object C) ∧ c.cls = cA ∧ Ovr Z cA C
theorem Orr.lt {b : Addr} {C : String} (F : Orr Z h b C) : b < h.size := by obtain ⟨c, cA, A, -⟩ := F; exact A.lt
theorem Orr.ext {h' : Heap} {b : Addr} {C : String} (F : Orr Z h b C) (E : Ext h h') : Orr Z h' b C := by obtain ⟨c, cA, A, r⟩ := F; exact ⟨c, cA, A.ext E, r⟩
theorem Orr.wr {h' : Heap} {a b : Addr} {C : String} {sl : Nat} {v : Value} (F : Orr Z h b C) (W : Wr h h' a sl v) : Orr Z h' b C := by
  obtain ⟨c, cA, A, q, O⟩ := F
  by_cases e : b = a
  · subst e; exact ⟨_, cA, A.same W, q, O⟩
  · exact ⟨c, cA, A.other W e, q, O⟩
theorem Orr.sto {b y : Addr} {C : String} (F : Orr Z h b C) (I : Ins Z h y C true) : Sto Z h b (.ref y) := by
  obtain ⟨c, cA, A, q, O⟩ := F
  exact Sto.ofV A q O I
theorem own_clone (X : Stand p l e R s m args below meth c T locs cells slots) (hx : p.tables.exec = Jvm.exec) (hby : c.code = bs) (hZ : Z.Warmed39 s.vm) {own ad : String} {idx : Nat} {a : Addr} {ty : FieldType} {n cap : Nat} {g : Nat → Int32} (hown : s.vm.findClass own = some m.cls) (w1 : (Jvm.Cond.methodLink own idx ⟨ad, "clone", "()Ljava/lang/Object;"⟩).before a0 Z = true) (w2 : (Jvm.Cond.sameMethod ad "java/lang/Object" "clone" "()Ljava/lang/Object;").before a0 Z = true) (w3 : (Jvm.Cond.native ⟨"java/lang/Object", "clone", "()Ljava/lang/Object;"⟩).before a0 Z = true)
    (w4 : (Jvm.Cond.instanceMethod ⟨"java/lang/Object", "clone", "()Ljava/lang/Object;"⟩).before a0 Z = true) (w5 : (Jvm.Cond.selects ad ⟨ad, "clone", "()Ljava/lang/Object;"⟩ ⟨"java/lang/Object", "clone", "()Ljava/lang/Object;"⟩).before a0 Z = true) (w6 : (Jvm.Cond.castable ad "java/lang/Cloneable").before a0 Z = true)
    (eT : T.heap = h) (F : Afi Z h a ty n g) (E : Exa Z h a ad) (hml : Ls.size = c.maxLocals) (hd : decode bs pc = .ok (.invokevirtual idx, 3)) (hf : 1 ≤ R.frames) (W : Nat) (hW : (st.map fun v => v.category).sum = W) (hl : W + 14 ≤ R.locals) (hcap : n ≤ cap) (hcl : cells + 1 ≤ R.cells) (hsl : slots + cap ≤ R.slots) (pc' : Nat) (hp : pc + 3 = pc')
    (k : ∀ T' h' (b : Addr), b = h.size → Stand p l e R s m args below meth c T' locs (cells + 1) (slots + cap) → T'.heap = h' → Ext h h' → Afi Z h' b ty n g → Exa Z h' b ad → Go p e below G T' (mkF m pc' Ls (.ref b :: st))) : Go p e below G T (mkF m pc Ls (.ref a :: st)) := by
  subst hp
  obtain ⟨cl, A, S, H⟩ := F
  have FC : FitC Z cl := fitC_of A fun i hi v hv => by rw [(H i (S ▸ hi)).1] at hv; cases hv; exact (H i (S ▸ hi)).2
  obtain ⟨T1, h1, X1, e1, E1, A1, Ex1, st1⟩ := cloneA X hx hZ hown w1 w2 w3 w4 w5 w6 eT A E FC (g := mkF m pc Ls (.ref a :: st)) rfl hml rfl (hb hby hd) hf (W := W) (by show 2 * 0 + _ ≤ _; omega) hl (cap := cap) (by rw [S]; exact hcap) hcl hsl
  exact Go.by (fun t q => st1 t q) (k T1 h1 _ rfl X1 e1 E1 ⟨_, A1, S, H⟩ Ex1)
theorem own_fld_start {t : Term} {C n d : String} {k : Int32} {a : Addr} (ev : t.eval args Z none [] Z = some (.ref a)) (hh : (Jvm.Cond.eq (.field t C n d) (.int k)).value args Z none Z [] = some true) : Fld Z Z.heap a C n d (.int k) := by
  obtain ⟨x, y, h1, h2, h3, h4⟩ := cmp_v (Or.inl hh)
  have h2' : y = .int k := (Option.some.inj h2).symm
  subst h2'
  obtain ⟨z, rfl⟩ := h4
  have q : z = k := by
    simp only [Cond.value, h1, h2] at hh
    exact of_decide_eq_true (Option.some.inj hh)
  subst q
  rw [fld_at ev] at h1
  exact Fld.start h1
end OwnGo

theorem d1_0 : decode prog_8_method_2_code 0 = .ok (.iload_n 0, 1) := by decide +kernel
theorem d1_1 : decode prog_8_method_2_code 1 = .ok (.bipush 9, 2) := by decide +kernel
theorem d1_3 : decode prog_8_method_2_code 3 = .ok (.if_icmp .eq 51, 3) := by decide +kernel
theorem d1_6 : decode prog_8_method_2_code 6 = .ok (.iload_n 0, 1) := by decide +kernel
theorem d1_7 : decode prog_8_method_2_code 7 = .ok (.bipush 10, 2) := by decide +kernel
theorem d1_9 : decode prog_8_method_2_code 9 = .ok (.if_icmp .eq 45, 3) := by decide +kernel
theorem d1_12 : decode prog_8_method_2_code 12 = .ok (.iload_n 0, 1) := by decide +kernel
theorem d1_13 : decode prog_8_method_2_code 13 = .ok (.bipush 13, 2) := by decide +kernel
theorem d1_15 : decode prog_8_method_2_code 15 = .ok (.if_icmp .eq 39, 3) := by decide +kernel
theorem d1_18 : decode prog_8_method_2_code 18 = .ok (.iload_n 0, 1) := by decide +kernel
theorem d1_19 : decode prog_8_method_2_code 19 = .ok (.bipush 32, 2) := by decide +kernel
theorem d1_21 : decode prog_8_method_2_code 21 = .ok (.if_icmp .lt 9, 3) := by decide +kernel
theorem d1_24 : decode prog_8_method_2_code 24 = .ok (.iload_n 0, 1) := by decide +kernel
theorem d1_25 : decode prog_8_method_2_code 25 = .ok (.ldc 7, 2) := by decide +kernel
theorem d1_27 : decode prog_8_method_2_code 27 = .ok (.if_icmp .le 27, 3) := by decide +kernel
theorem d1_30 : decode prog_8_method_2_code 30 = .ok (.iload_n 0, 1) := by decide +kernel
theorem d1_31 : decode prog_8_method_2_code 31 = .ok (.ldc 8, 2) := by decide +kernel
theorem d1_33 : decode prog_8_method_2_code 33 = .ok (.if_icmp .lt 9, 3) := by decide +kernel
theorem d1_36 : decode prog_8_method_2_code 36 = .ok (.iload_n 0, 1) := by decide +kernel
theorem d1_37 : decode prog_8_method_2_code 37 = .ok (.ldc 9, 2) := by decide +kernel
theorem d1_39 : decode prog_8_method_2_code 39 = .ok (.if_icmp .le 15, 3) := by decide +kernel
theorem d1_42 : decode prog_8_method_2_code 42 = .ok (.iload_n 0, 1) := by decide +kernel
theorem d1_43 : decode prog_8_method_2_code 43 = .ok (.ldc 10, 2) := by decide +kernel
theorem d1_45 : decode prog_8_method_2_code 45 = .ok (.if_icmp .lt 13, 3) := by decide +kernel
theorem d1_48 : decode prog_8_method_2_code 48 = .ok (.iload_n 0, 1) := by decide +kernel
theorem d1_49 : decode prog_8_method_2_code 49 = .ok (.ldc 11, 2) := by decide +kernel
theorem d1_51 : decode prog_8_method_2_code 51 = .ok (.if_icmp .gt 7, 3) := by decide +kernel
theorem d1_54 : decode prog_8_method_2_code 54 = .ok (.iconst 1, 1) := by decide +kernel
theorem d1_55 : decode prog_8_method_2_code 55 = .ok (.goto 4, 3) := by decide +kernel
theorem d1_58 : decode prog_8_method_2_code 58 = .ok (.iconst 0, 1) := by decide +kernel
theorem d1_59 : decode prog_8_method_2_code 59 = .ok (.ireturn, 1) := by decide +kernel
theorem pn_1 : plainName "com/example/inflight/inflight/MessageCharacters" = true := by first | (simp [plainName, overriddenIn]; done) | decide +kernel
theorem d2_0 : decode method_3_code 0 = .ok (.iload_n 0, 1) := by decide +kernel
theorem d2_1 : decode method_3_code 1 = .ok (.bipush 32, 2) := by decide +kernel
theorem d2_3 : decode method_3_code 3 = .ok (.if_icmp .ge 27, 3) := by decide +kernel
theorem d2_6 : decode method_3_code 6 = .ok (.iload_n 0, 1) := by decide +kernel
theorem d2_7 : decode method_3_code 7 = .ok (.bipush 9, 2) := by decide +kernel
theorem d2_9 : decode method_3_code 9 = .ok (.if_icmp .eq 15, 3) := by decide +kernel
theorem d2_12 : decode method_3_code 12 = .ok (.iload_n 0, 1) := by decide +kernel
theorem d2_13 : decode method_3_code 13 = .ok (.bipush 10, 2) := by decide +kernel
theorem d2_15 : decode method_3_code 15 = .ok (.if_icmp .eq 9, 3) := by decide +kernel
theorem d2_18 : decode method_3_code 18 = .ok (.iload_n 0, 1) := by decide +kernel
theorem d2_19 : decode method_3_code 19 = .ok (.bipush 13, 2) := by decide +kernel
theorem d2_21 : decode method_3_code 21 = .ok (.if_icmp .ne 7, 3) := by decide +kernel
theorem d2_24 : decode method_3_code 24 = .ok (.iconst 1, 1) := by decide +kernel
theorem d2_25 : decode method_3_code 25 = .ok (.goto 4, 3) := by decide +kernel
theorem d2_28 : decode method_3_code 28 = .ok (.iconst 0, 1) := by decide +kernel
theorem d2_29 : decode method_3_code 29 = .ok (.ireturn, 1) := by decide +kernel
theorem d2_30 : decode method_3_code 30 = .ok (.iload_n 0, 1) := by decide +kernel
theorem d2_31 : decode method_3_code 31 = .ok (.ldc 23, 2) := by decide +kernel
theorem d2_33 : decode method_3_code 33 = .ok (.if_icmp .ge 5, 3) := by decide +kernel
theorem d2_36 : decode method_3_code 36 = .ok (.iconst 1, 1) := by decide +kernel
theorem d2_37 : decode method_3_code 37 = .ok (.ireturn, 1) := by decide +kernel
theorem d2_38 : decode method_3_code 38 = .ok (.iload_n 0, 1) := by decide +kernel
theorem d2_39 : decode method_3_code 39 = .ok (.ldc 8, 2) := by decide +kernel
theorem d2_41 : decode method_3_code 41 = .ok (.if_icmp .ge 5, 3) := by decide +kernel
theorem d2_44 : decode method_3_code 44 = .ok (.iconst 0, 1) := by decide +kernel
theorem d2_45 : decode method_3_code 45 = .ok (.ireturn, 1) := by decide +kernel
theorem d2_46 : decode method_3_code 46 = .ok (.iload_n 0, 1) := by decide +kernel
theorem d2_47 : decode method_3_code 47 = .ok (.ldc 24, 2) := by decide +kernel
theorem d2_49 : decode method_3_code 49 = .ok (.if_icmp .ge 5, 3) := by decide +kernel
theorem d2_52 : decode method_3_code 52 = .ok (.iconst 1, 1) := by decide +kernel
theorem d2_53 : decode method_3_code 53 = .ok (.ireturn, 1) := by decide +kernel
theorem d2_54 : decode method_3_code 54 = .ok (.iload_n 0, 1) := by decide +kernel
theorem d2_55 : decode method_3_code 55 = .ok (.ldc 10, 2) := by decide +kernel
theorem d2_57 : decode method_3_code 57 = .ok (.if_icmp .ge 5, 3) := by decide +kernel
theorem d2_60 : decode method_3_code 60 = .ok (.iconst 0, 1) := by decide +kernel
theorem d2_61 : decode method_3_code 61 = .ok (.ireturn, 1) := by decide +kernel
theorem d2_62 : decode method_3_code 62 = .ok (.iload_n 0, 1) := by decide +kernel
theorem d2_63 : decode method_3_code 63 = .ok (.ldc 25, 2) := by decide +kernel
theorem d2_65 : decode method_3_code 65 = .ok (.if_icmp .ge 7, 3) := by decide +kernel
theorem d2_68 : decode method_3_code 68 = .ok (.iconst 1, 1) := by decide +kernel
theorem d2_69 : decode method_3_code 69 = .ok (.goto 4, 3) := by decide +kernel
theorem d2_72 : decode method_3_code 72 = .ok (.iconst 0, 1) := by decide +kernel
theorem d2_73 : decode method_3_code 73 = .ok (.ireturn, 1) := by decide +kernel
theorem pn_2 : plainName "com/example/inflight/inflight/MessageCharactersIsAllowedPinLaw" = true := by first | (simp [plainName, overriddenIn]; done) | decide +kernel
theorem pd_0 : parseMethodDescriptor "(I)Z" = some ⟨[.int], some .boolean⟩ := by decide +kernel
theorem ef_1 (p1 : Int32) (m : MethodId) : entryFrame m #[(.int p1)] 1 = mkF m 0 #[.val (.int p1)] [] := by first | (simp [entryFrame, mkF, argsToLocals, Value.category]; done) | rfl
def f1 (p1 : Int32) : Int32 := (if p1 = (9 : Int32) then (1 : Int32) else (if p1 = (10 : Int32) then (1 : Int32) else (if p1 = (13 : Int32) then (1 : Int32) else (if p1 < (32 : Int32) then (if p1 < (57344 : Int32) then (if p1 < (65536 : Int32) then (0 : Int32) else (if (1114111 : Int32) < p1 then (0 : Int32) else (1 : Int32))) else (if (65533 : Int32) < p1 then (if p1 < (65536 : Int32) then (0 : Int32) else (if (1114111 : Int32) < p1 then (0 : Int32) else (1 : Int32))) else (1 : Int32))) else (if (55295 : Int32) < p1 then (if p1 < (57344 : Int32) then (if p1 < (65536 : Int32) then (0 : Int32) else (if (1114111 : Int32) < p1 then (0 : Int32) else (1 : Int32))) else (if (65533 : Int32) < p1 then (if p1 < (65536 : Int32) then (0 : Int32) else (if (1114111 : Int32) < p1 then (0 : Int32) else (1 : Int32))) else (1 : Int32))) else (1 : Int32))))))
def Q1 (Z : State) (p1 : Int32) (h0 : Heap) (n0 : Nat) (v : Option Value) (h : Heap) (L : List Loc) : Prop := v = some (.int (f1 p1)) ∧ Fr n0 L ∧ h = h0
set_option maxRecDepth 65536 in
set_option maxHeartbeats 40000000 in
theorem rm1 (l : Launch) (Z : State) (a0 : Array Value) (hw : ∀ d ∈ tables_1, d.before a0 Z = true) (p1 : Int32) (h0 : Heap) (n0 : Nat) (Zs : n0 ≤ h0.size) :
    Met1 l Z (⟨"com/example/inflight/inflight/MessageCharacters", "isAllowed", "(I)Z"⟩ : MethodName) prog_8_method_2_code 1 (some .boolean) ({ frames := 0, cells := 0, slots := 0, locals := 0 } : Room) #[(.int p1)] h0 (Q1 Z p1 h0 n0) := by
  refine own_met_of (plainFor_of_name pn_1) (ef_1 p1) ?_
  intro p e s m below meth c s₁ X hx hby hml hZ hown hnm hret hlk eT
  have hown : s.vm.findClass "com/example/inflight/inflight/MessageCharacters" = some m.cls := hown
  have N := Fr.nil n0
  refine own_iloadN X hx hby p1 d1_0 rfl 1 rfl ?_
  refine own_bipush X hx hby (9 : Int32) d1_1 rfl 3 rfl ?_
  refine own_icmp_eq X hx hby d1_3 54 6 (by decide) rfl (fun c3 => ?_) (fun c3 => ?_)
  · skip
    refine own_iconst X hx hby (1 : Int32) d1_54 rfl 55 rfl ?_
    refine own_goto X hx hby d1_55 59 (by decide) ?_
    refine own_retN X hx hby hret hlk (t := .boolean) (z' := (1 : Int32)) (by simp) d1_59 (by decide) (by decide) rfl ?_
    rw [eT]
    exact ⟨congrArg (fun z => some (Value.int z)) (by unfold f1; rw [if_pos c3]), N, rfl⟩
  · skip
    refine own_iloadN X hx hby p1 d1_6 rfl 7 rfl ?_
    refine own_bipush X hx hby (10 : Int32) d1_7 rfl 9 rfl ?_
    refine own_icmp_eq X hx hby d1_9 54 12 (by decide) rfl (fun c9 => ?_) (fun c9 => ?_)
    · skip
      refine own_iconst X hx hby (1 : Int32) d1_54 rfl 55 rfl ?_
      refine own_goto X hx hby d1_55 59 (by decide) ?_
      refine own_retN X hx hby hret hlk (t := .boolean) (z' := (1 : Int32)) (by simp) d1_59 (by decide) (by decide) rfl ?_
      rw [eT]
      exact ⟨congrArg (fun z => some (Value.int z)) (by unfold f1; rw [if_neg c3, if_pos c9]), N, rfl⟩
    · skip
      refine own_iloadN X hx hby p1 d1_12 rfl 13 rfl ?_
      refine own_bipush X hx hby (13 : Int32) d1_13 rfl 15 rfl ?_
      refine own_icmp_eq X hx hby d1_15 54 18 (by decide) rfl (fun c15 => ?_) (fun c15 => ?_)
      · skip
        refine own_iconst X hx hby (1 : Int32) d1_54 rfl 55 rfl ?_
        refine own_goto X hx hby d1_55 59 (by decide) ?_
        refine own_retN X hx hby hret hlk (t := .boolean) (z' := (1 : Int32)) (by simp) d1_59 (by decide) (by decide) rfl ?_
        rw [eT]
        exact ⟨congrArg (fun z => some (Value.int z)) (by unfold f1; rw [if_neg c3, if_neg c9, if_pos c15]), N, rfl⟩
      · skip
        refine own_iloadN X hx hby p1 d1_18 rfl 19 rfl ?_
        refine own_bipush X hx hby (32 : Int32) d1_19 rfl 21 rfl ?_
        refine own_icmp_lt X hx hby d1_21 30 24 (by decide) rfl (fun c21 => ?_) (fun c21 => ?_)
        · skip
          refine own_iloadN X hx hby p1 d1_30 rfl 31 rfl ?_
          refine own_ldc X hx hby hZ (57344 : Int32) hown (hw _ (List.mem_of_getElem? (i := 10) rfl)) d1_31 33 rfl ?_
          refine own_icmp_lt X hx hby d1_33 42 36 (by decide) rfl (fun c33 => ?_) (fun c33 => ?_)
          · skip
            refine own_iloadN X hx hby p1 d1_42 rfl 43 rfl ?_
            refine own_ldc X hx hby hZ (65536 : Int32) hown (hw _ (List.mem_of_getElem? (i := 11) rfl)) d1_43 45 rfl ?_
            refine own_icmp_lt X hx hby d1_45 58 48 (by decide) rfl (fun c45 => ?_) (fun c45 => ?_)
            · skip
              refine own_iconst X hx hby (0 : Int32) d1_58 rfl 59 rfl ?_
              refine own_retN X hx hby hret hlk (t := .boolean) (z' := (0 : Int32)) (by simp) d1_59 (by decide) (by decide) rfl ?_
              rw [eT]
              exact ⟨congrArg (fun z => some (Value.int z)) (by unfold f1; rw [if_neg c3, if_neg c9, if_neg c15, if_pos c21, if_pos c33, if_pos c45]), N, rfl⟩
            · skip
              refine own_iloadN X hx hby p1 d1_48 rfl 49 rfl ?_
              refine own_ldc X hx hby hZ (1114111 : Int32) hown (hw _ (List.mem_of_getElem? (i := 19) rfl)) d1_49 51 rfl ?_
              refine own_icmp_gt X hx hby d1_51 58 54 (by decide) rfl (fun c51 => ?_) (fun c51 => ?_)
              · skip
                refine own_iconst X hx hby (0 : Int32) d1_58 rfl 59 rfl ?_
                refine own_retN X hx hby hret hlk (t := .boolean) (z' := (0 : Int32)) (by simp) d1_59 (by decide) (by decide) rfl ?_
                rw [eT]
                exact ⟨congrArg (fun z => some (Value.int z)) (by unfold f1; rw [if_neg c3, if_neg c9, if_neg c15, if_pos c21, if_pos c33, if_neg c45, if_pos c51]), N, rfl⟩
              · skip
                refine own_iconst X hx hby (1 : Int32) d1_54 rfl 55 rfl ?_
                refine own_goto X hx hby d1_55 59 (by decide) ?_
                refine own_retN X hx hby hret hlk (t := .boolean) (z' := (1 : Int32)) (by simp) d1_59 (by decide) (by decide) rfl ?_
                rw [eT]
                exact ⟨congrArg (fun z => some (Value.int z)) (by unfold f1; rw [if_neg c3, if_neg c9, if_neg c15, if_pos c21, if_pos c33, if_neg c45, if_neg c51]), N, rfl⟩
          · skip
            refine own_iloadN X hx hby p1 d1_36 rfl 37 rfl ?_
            refine own_ldc X hx hby hZ (65533 : Int32) hown (hw _ (List.mem_of_getElem? (i := 18) rfl)) d1_37 39 rfl ?_
            refine own_icmp_le X hx hby d1_39 54 42 (by decide) rfl (fun c39 => ?_) (fun c39 => ?_)
            · skip
              refine own_iconst X hx hby (1 : Int32) d1_54 rfl 55 rfl ?_
              refine own_goto X hx hby d1_55 59 (by decide) ?_
              refine own_retN X hx hby hret hlk (t := .boolean) (z' := (1 : Int32)) (by simp) d1_59 (by decide) (by decide) rfl ?_
              rw [eT]
              exact ⟨congrArg (fun z => some (Value.int z)) (by unfold f1; rw [if_neg c3, if_neg c9, if_neg c15, if_pos c21, if_neg c33, if_neg c39]), N, rfl⟩
            · skip
              refine own_iloadN X hx hby p1 d1_42 rfl 43 rfl ?_
              refine own_ldc X hx hby hZ (65536 : Int32) hown (hw _ (List.mem_of_getElem? (i := 11) rfl)) d1_43 45 rfl ?_
              refine own_icmp_lt X hx hby d1_45 58 48 (by decide) rfl (fun c45 => ?_) (fun c45 => ?_)
              · skip
                refine own_iconst X hx hby (0 : Int32) d1_58 rfl 59 rfl ?_
                refine own_retN X hx hby hret hlk (t := .boolean) (z' := (0 : Int32)) (by simp) d1_59 (by decide) (by decide) rfl ?_
                rw [eT]
                exact ⟨congrArg (fun z => some (Value.int z)) (by unfold f1; rw [if_neg c3, if_neg c9, if_neg c15, if_pos c21, if_neg c33, if_pos c39, if_pos c45]), N, rfl⟩
              · skip
                refine own_iloadN X hx hby p1 d1_48 rfl 49 rfl ?_
                refine own_ldc X hx hby hZ (1114111 : Int32) hown (hw _ (List.mem_of_getElem? (i := 19) rfl)) d1_49 51 rfl ?_
                refine own_icmp_gt X hx hby d1_51 58 54 (by decide) rfl (fun c51 => ?_) (fun c51 => ?_)
                · skip
                  refine own_iconst X hx hby (0 : Int32) d1_58 rfl 59 rfl ?_
                  refine own_retN X hx hby hret hlk (t := .boolean) (z' := (0 : Int32)) (by simp) d1_59 (by decide) (by decide) rfl ?_
                  rw [eT]
                  exact ⟨congrArg (fun z => some (Value.int z)) (by unfold f1; rw [if_neg c3, if_neg c9, if_neg c15, if_pos c21, if_neg c33, if_pos c39, if_neg c45, if_pos c51]), N, rfl⟩
                · skip
                  refine own_iconst X hx hby (1 : Int32) d1_54 rfl 55 rfl ?_
                  refine own_goto X hx hby d1_55 59 (by decide) ?_
                  refine own_retN X hx hby hret hlk (t := .boolean) (z' := (1 : Int32)) (by simp) d1_59 (by decide) (by decide) rfl ?_
                  rw [eT]
                  exact ⟨congrArg (fun z => some (Value.int z)) (by unfold f1; rw [if_neg c3, if_neg c9, if_neg c15, if_pos c21, if_neg c33, if_pos c39, if_neg c45, if_neg c51]), N, rfl⟩
        · skip
          refine own_iloadN X hx hby p1 d1_24 rfl 25 rfl ?_
          refine own_ldc X hx hby hZ (55295 : Int32) hown (hw _ (List.mem_of_getElem? (i := 16) rfl)) d1_25 27 rfl ?_
          refine own_icmp_le X hx hby d1_27 54 30 (by decide) rfl (fun c27 => ?_) (fun c27 => ?_)
          · skip
            refine own_iconst X hx hby (1 : Int32) d1_54 rfl 55 rfl ?_
            refine own_goto X hx hby d1_55 59 (by decide) ?_
            refine own_retN X hx hby hret hlk (t := .boolean) (z' := (1 : Int32)) (by simp) d1_59 (by decide) (by decide) rfl ?_
            rw [eT]
            exact ⟨congrArg (fun z => some (Value.int z)) (by unfold f1; rw [if_neg c3, if_neg c9, if_neg c15, if_neg c21, if_neg c27]), N, rfl⟩
          · skip
            refine own_iloadN X hx hby p1 d1_30 rfl 31 rfl ?_
            refine own_ldc X hx hby hZ (57344 : Int32) hown (hw _ (List.mem_of_getElem? (i := 10) rfl)) d1_31 33 rfl ?_
            refine own_icmp_lt X hx hby d1_33 42 36 (by decide) rfl (fun c33 => ?_) (fun c33 => ?_)
            · skip
              refine own_iloadN X hx hby p1 d1_42 rfl 43 rfl ?_
              refine own_ldc X hx hby hZ (65536 : Int32) hown (hw _ (List.mem_of_getElem? (i := 11) rfl)) d1_43 45 rfl ?_
              refine own_icmp_lt X hx hby d1_45 58 48 (by decide) rfl (fun c45 => ?_) (fun c45 => ?_)
              · skip
                refine own_iconst X hx hby (0 : Int32) d1_58 rfl 59 rfl ?_
                refine own_retN X hx hby hret hlk (t := .boolean) (z' := (0 : Int32)) (by simp) d1_59 (by decide) (by decide) rfl ?_
                rw [eT]
                exact ⟨congrArg (fun z => some (Value.int z)) (by unfold f1; rw [if_neg c3, if_neg c9, if_neg c15, if_neg c21, if_pos c27, if_pos c33, if_pos c45]), N, rfl⟩
              · skip
                refine own_iloadN X hx hby p1 d1_48 rfl 49 rfl ?_
                refine own_ldc X hx hby hZ (1114111 : Int32) hown (hw _ (List.mem_of_getElem? (i := 19) rfl)) d1_49 51 rfl ?_
                refine own_icmp_gt X hx hby d1_51 58 54 (by decide) rfl (fun c51 => ?_) (fun c51 => ?_)
                · skip
                  refine own_iconst X hx hby (0 : Int32) d1_58 rfl 59 rfl ?_
                  refine own_retN X hx hby hret hlk (t := .boolean) (z' := (0 : Int32)) (by simp) d1_59 (by decide) (by decide) rfl ?_
                  rw [eT]
                  exact ⟨congrArg (fun z => some (Value.int z)) (by unfold f1; rw [if_neg c3, if_neg c9, if_neg c15, if_neg c21, if_pos c27, if_pos c33, if_neg c45, if_pos c51]), N, rfl⟩
                · skip
                  refine own_iconst X hx hby (1 : Int32) d1_54 rfl 55 rfl ?_
                  refine own_goto X hx hby d1_55 59 (by decide) ?_
                  refine own_retN X hx hby hret hlk (t := .boolean) (z' := (1 : Int32)) (by simp) d1_59 (by decide) (by decide) rfl ?_
                  rw [eT]
                  exact ⟨congrArg (fun z => some (Value.int z)) (by unfold f1; rw [if_neg c3, if_neg c9, if_neg c15, if_neg c21, if_pos c27, if_pos c33, if_neg c45, if_neg c51]), N, rfl⟩
            · skip
              refine own_iloadN X hx hby p1 d1_36 rfl 37 rfl ?_
              refine own_ldc X hx hby hZ (65533 : Int32) hown (hw _ (List.mem_of_getElem? (i := 18) rfl)) d1_37 39 rfl ?_
              refine own_icmp_le X hx hby d1_39 54 42 (by decide) rfl (fun c39 => ?_) (fun c39 => ?_)
              · skip
                refine own_iconst X hx hby (1 : Int32) d1_54 rfl 55 rfl ?_
                refine own_goto X hx hby d1_55 59 (by decide) ?_
                refine own_retN X hx hby hret hlk (t := .boolean) (z' := (1 : Int32)) (by simp) d1_59 (by decide) (by decide) rfl ?_
                rw [eT]
                exact ⟨congrArg (fun z => some (Value.int z)) (by unfold f1; rw [if_neg c3, if_neg c9, if_neg c15, if_neg c21, if_pos c27, if_neg c33, if_neg c39]), N, rfl⟩
              · skip
                refine own_iloadN X hx hby p1 d1_42 rfl 43 rfl ?_
                refine own_ldc X hx hby hZ (65536 : Int32) hown (hw _ (List.mem_of_getElem? (i := 11) rfl)) d1_43 45 rfl ?_
                refine own_icmp_lt X hx hby d1_45 58 48 (by decide) rfl (fun c45 => ?_) (fun c45 => ?_)
                · skip
                  refine own_iconst X hx hby (0 : Int32) d1_58 rfl 59 rfl ?_
                  refine own_retN X hx hby hret hlk (t := .boolean) (z' := (0 : Int32)) (by simp) d1_59 (by decide) (by decide) rfl ?_
                  rw [eT]
                  exact ⟨congrArg (fun z => some (Value.int z)) (by unfold f1; rw [if_neg c3, if_neg c9, if_neg c15, if_neg c21, if_pos c27, if_neg c33, if_pos c39, if_pos c45]), N, rfl⟩
                · skip
                  refine own_iloadN X hx hby p1 d1_48 rfl 49 rfl ?_
                  refine own_ldc X hx hby hZ (1114111 : Int32) hown (hw _ (List.mem_of_getElem? (i := 19) rfl)) d1_49 51 rfl ?_
                  refine own_icmp_gt X hx hby d1_51 58 54 (by decide) rfl (fun c51 => ?_) (fun c51 => ?_)
                  · skip
                    refine own_iconst X hx hby (0 : Int32) d1_58 rfl 59 rfl ?_
                    refine own_retN X hx hby hret hlk (t := .boolean) (z' := (0 : Int32)) (by simp) d1_59 (by decide) (by decide) rfl ?_
                    rw [eT]
                    exact ⟨congrArg (fun z => some (Value.int z)) (by unfold f1; rw [if_neg c3, if_neg c9, if_neg c15, if_neg c21, if_pos c27, if_neg c33, if_pos c39, if_neg c45, if_pos c51]), N, rfl⟩
                  · skip
                    refine own_iconst X hx hby (1 : Int32) d1_54 rfl 55 rfl ?_
                    refine own_goto X hx hby d1_55 59 (by decide) ?_
                    refine own_retN X hx hby hret hlk (t := .boolean) (z' := (1 : Int32)) (by simp) d1_59 (by decide) (by decide) rfl ?_
                    rw [eT]
                    exact ⟨congrArg (fun z => some (Value.int z)) (by unfold f1; rw [if_neg c3, if_neg c9, if_neg c15, if_neg c21, if_pos c27, if_neg c33, if_pos c39, if_neg c45, if_neg c51]), N, rfl⟩
theorem ef_2 (p1 : Int32) (m : MethodId) : entryFrame m #[(.int p1)] 1 = mkF m 0 #[.val (.int p1)] [] := by first | (simp [entryFrame, mkF, argsToLocals, Value.category]; done) | rfl
def f2 (p1 : Int32) : Int32 := (if p1 < (32 : Int32) then (if p1 = (9 : Int32) then (1 : Int32) else (if p1 = (10 : Int32) then (1 : Int32) else (if p1 = (13 : Int32) then (1 : Int32) else (0 : Int32)))) else (if p1 < (55296 : Int32) then (1 : Int32) else (if p1 < (57344 : Int32) then (0 : Int32) else (if p1 < (65534 : Int32) then (1 : Int32) else (if p1 < (65536 : Int32) then (0 : Int32) else (if p1 < (1114112 : Int32) then (1 : Int32) else (0 : Int32)))))))
def Q2 (Z : State) (p1 : Int32) (h0 : Heap) (n0 : Nat) (v : Option Value) (h : Heap) (L : List Loc) : Prop := v = some (.int (f2 p1)) ∧ Fr n0 L ∧ h = h0
set_option maxRecDepth 65536 in
set_option maxHeartbeats 40000000 in
theorem rm2 (l : Launch) (Z : State) (a0 : Array Value) (hw : ∀ d ∈ tables_1, d.before a0 Z = true) (p1 : Int32) (h0 : Heap) (n0 : Nat) (Zs : n0 ≤ h0.size) :
    Met1 l Z (⟨"com/example/inflight/inflight/MessageCharactersIsAllowedPinLaw", "ref", "(I)Z"⟩ : MethodName) method_3_code 1 (some .boolean) ({ frames := 0, cells := 0, slots := 0, locals := 0 } : Room) #[(.int p1)] h0 (Q2 Z p1 h0 n0) := by
  refine own_met_of (plainFor_of_name pn_2) (ef_2 p1) ?_
  intro p e s m below meth c s₁ X hx hby hml hZ hown hnm hret hlk eT
  have hown : s.vm.findClass "com/example/inflight/inflight/MessageCharactersIsAllowedPinLaw" = some m.cls := hown
  have N := Fr.nil n0
  refine own_iloadN X hx hby p1 d2_0 rfl 1 rfl ?_
  refine own_bipush X hx hby (32 : Int32) d2_1 rfl 3 rfl ?_
  refine own_icmp_ge X hx hby d2_3 30 6 (by decide) rfl (fun c3 => ?_) (fun c3 => ?_)
  · skip
    refine own_iloadN X hx hby p1 d2_30 rfl 31 rfl ?_
    refine own_ldc X hx hby hZ (55296 : Int32) hown (hw _ (List.mem_of_getElem? (i := 17) rfl)) d2_31 33 rfl ?_
    refine own_icmp_ge X hx hby d2_33 38 36 (by decide) rfl (fun c33 => ?_) (fun c33 => ?_)
    · skip
      refine own_iloadN X hx hby p1 d2_38 rfl 39 rfl ?_
      refine own_ldc X hx hby hZ (57344 : Int32) hown (hw _ (List.mem_of_getElem? (i := 2) rfl)) d2_39 41 rfl ?_
      refine own_icmp_ge X hx hby d2_41 46 44 (by decide) rfl (fun c41 => ?_) (fun c41 => ?_)
      · skip
        refine own_iloadN X hx hby p1 d2_46 rfl 47 rfl ?_
        refine own_ldc X hx hby hZ (65534 : Int32) hown (hw _ (List.mem_of_getElem? (i := 20) rfl)) d2_47 49 rfl ?_
        refine own_icmp_ge X hx hby d2_49 54 52 (by decide) rfl (fun c49 => ?_) (fun c49 => ?_)
        · skip
          refine own_iloadN X hx hby p1 d2_54 rfl 55 rfl ?_
          refine own_ldc X hx hby hZ (65536 : Int32) hown (hw _ (List.mem_of_getElem? (i := 4) rfl)) d2_55 57 rfl ?_
          refine own_icmp_ge X hx hby d2_57 62 60 (by decide) rfl (fun c57 => ?_) (fun c57 => ?_)
          · skip
            refine own_iloadN X hx hby p1 d2_62 rfl 63 rfl ?_
            refine own_ldc X hx hby hZ (1114112 : Int32) hown (hw _ (List.mem_of_getElem? (i := 21) rfl)) d2_63 65 rfl ?_
            refine own_icmp_ge X hx hby d2_65 72 68 (by decide) rfl (fun c65 => ?_) (fun c65 => ?_)
            · skip
              refine own_iconst X hx hby (0 : Int32) d2_72 rfl 73 rfl ?_
              refine own_retN X hx hby hret hlk (t := .boolean) (z' := (0 : Int32)) (by simp) d2_73 (by decide) (by decide) rfl ?_
              rw [eT]
              exact ⟨congrArg (fun z => some (Value.int z)) (by unfold f2; rw [if_neg c3, if_neg c33, if_neg c41, if_neg c49, if_neg c57, if_neg c65]), N, rfl⟩
            · skip
              refine own_iconst X hx hby (1 : Int32) d2_68 rfl 69 rfl ?_
              refine own_goto X hx hby d2_69 73 (by decide) ?_
              refine own_retN X hx hby hret hlk (t := .boolean) (z' := (1 : Int32)) (by simp) d2_73 (by decide) (by decide) rfl ?_
              rw [eT]
              exact ⟨congrArg (fun z => some (Value.int z)) (by unfold f2; rw [if_neg c3, if_neg c33, if_neg c41, if_neg c49, if_neg c57, if_pos c65]), N, rfl⟩
          · skip
            refine own_iconst X hx hby (0 : Int32) d2_60 rfl 61 rfl ?_
            refine own_retN X hx hby hret hlk (t := .boolean) (z' := (0 : Int32)) (by simp) d2_61 (by decide) (by decide) rfl ?_
            rw [eT]
            exact ⟨congrArg (fun z => some (Value.int z)) (by unfold f2; rw [if_neg c3, if_neg c33, if_neg c41, if_neg c49, if_pos c57]), N, rfl⟩
        · skip
          refine own_iconst X hx hby (1 : Int32) d2_52 rfl 53 rfl ?_
          refine own_retN X hx hby hret hlk (t := .boolean) (z' := (1 : Int32)) (by simp) d2_53 (by decide) (by decide) rfl ?_
          rw [eT]
          exact ⟨congrArg (fun z => some (Value.int z)) (by unfold f2; rw [if_neg c3, if_neg c33, if_neg c41, if_pos c49]), N, rfl⟩
      · skip
        refine own_iconst X hx hby (0 : Int32) d2_44 rfl 45 rfl ?_
        refine own_retN X hx hby hret hlk (t := .boolean) (z' := (0 : Int32)) (by simp) d2_45 (by decide) (by decide) rfl ?_
        rw [eT]
        exact ⟨congrArg (fun z => some (Value.int z)) (by unfold f2; rw [if_neg c3, if_neg c33, if_pos c41]), N, rfl⟩
    · skip
      refine own_iconst X hx hby (1 : Int32) d2_36 rfl 37 rfl ?_
      refine own_retN X hx hby hret hlk (t := .boolean) (z' := (1 : Int32)) (by simp) d2_37 (by decide) (by decide) rfl ?_
      rw [eT]
      exact ⟨congrArg (fun z => some (Value.int z)) (by unfold f2; rw [if_neg c3, if_pos c33]), N, rfl⟩
  · skip
    refine own_iloadN X hx hby p1 d2_6 rfl 7 rfl ?_
    refine own_bipush X hx hby (9 : Int32) d2_7 rfl 9 rfl ?_
    refine own_icmp_eq X hx hby d2_9 24 12 (by decide) rfl (fun c9 => ?_) (fun c9 => ?_)
    · skip
      refine own_iconst X hx hby (1 : Int32) d2_24 rfl 25 rfl ?_
      refine own_goto X hx hby d2_25 29 (by decide) ?_
      refine own_retN X hx hby hret hlk (t := .boolean) (z' := (1 : Int32)) (by simp) d2_29 (by decide) (by decide) rfl ?_
      rw [eT]
      exact ⟨congrArg (fun z => some (Value.int z)) (by unfold f2; rw [if_pos c3, if_pos c9]), N, rfl⟩
    · skip
      refine own_iloadN X hx hby p1 d2_12 rfl 13 rfl ?_
      refine own_bipush X hx hby (10 : Int32) d2_13 rfl 15 rfl ?_
      refine own_icmp_eq X hx hby d2_15 24 18 (by decide) rfl (fun c15 => ?_) (fun c15 => ?_)
      · skip
        refine own_iconst X hx hby (1 : Int32) d2_24 rfl 25 rfl ?_
        refine own_goto X hx hby d2_25 29 (by decide) ?_
        refine own_retN X hx hby hret hlk (t := .boolean) (z' := (1 : Int32)) (by simp) d2_29 (by decide) (by decide) rfl ?_
        rw [eT]
        exact ⟨congrArg (fun z => some (Value.int z)) (by unfold f2; rw [if_pos c3, if_neg c9, if_pos c15]), N, rfl⟩
      · skip
        refine own_iloadN X hx hby p1 d2_18 rfl 19 rfl ?_
        refine own_bipush X hx hby (13 : Int32) d2_19 rfl 21 rfl ?_
        refine own_icmp_ne X hx hby d2_21 28 24 (by decide) rfl (fun c21 => ?_) (fun c21 => ?_)
        · skip
          refine own_iconst X hx hby (0 : Int32) d2_28 rfl 29 rfl ?_
          refine own_retN X hx hby hret hlk (t := .boolean) (z' := (0 : Int32)) (by simp) d2_29 (by decide) (by decide) rfl ?_
          rw [eT]
          exact ⟨congrArg (fun z => some (Value.int z)) (by unfold f2; rw [if_pos c3, if_neg c9, if_neg c15, if_neg c21]), N, rfl⟩
        · skip
          refine own_iconst X hx hby (1 : Int32) d2_24 rfl 25 rfl ?_
          refine own_goto X hx hby d2_25 29 (by decide) ?_
          refine own_retN X hx hby hret hlk (t := .boolean) (z' := (1 : Int32)) (by simp) d2_29 (by decide) (by decide) rfl ?_
          rw [eT]
          exact ⟨congrArg (fun z => some (Value.int z)) (by unfold f2; rw [if_pos c3, if_neg c9, if_neg c15, if_pos c21]), N, rfl⟩
theorem ef_0 (p1 : Int32) (p2 : Int32) (p3 : Int32) (m : MethodId) : entryFrame m #[(.int p1), (.int p2), (.int p3)] maxLocals = mkF m 0 #[.val (.int p1), .val (.int p2), .val (.int p3), .unset, .unset] [] := by first | (simp [entryFrame, mkF, argsToLocals, Value.category, maxLocals]; done) | rfl
def Q0 (Z : State) (p1 : Int32) (p2 : Int32) (p3 : Int32) (h0 : Heap) (n0 : Nat) (v : Option Value) (h : Heap) (L : List Loc) : Prop := v = some (.int (1 : Int32)) ∧ Fr n0 L
theorem own_idx (z : Int32) : 0 ≤ (((z.toUInt32 >>> ((1 : Int32) &&& 31).toUInt32).toInt32) % (11 : Int32)).toInt ∧ (((z.toUInt32 >>> ((1 : Int32) &&& 31).toUInt32).toInt32) % (11 : Int32)).toInt < 11 := by
  have h1 := c_iushr z (1 : Int32) 1 (by decide) (by decide)
  have h2 := c_irem ((z.toUInt32 >>> ((1 : Int32) &&& 31).toUInt32).toInt32) (11 : Int32) 11 (by decide)
  have h3 := rng32 z
  generalize (z.toUInt32 >>> ((1 : Int32) &&& 31).toUInt32).toInt32 = y at *
  have h4 : 0 ≤ y.toInt := by omega
  have h5 := h2.1 h4
  omega
theorem own_all (z : Int32) : f1 z = f2 z := by
  unfold f1 f2
  simp only [Int32.lt_iff_toInt_lt, ← Int32.toInt_inj, Int32.reduceToInt]
  repeat' split
  all_goals first | rfl | (exfalso; omega)
set_option maxRecDepth 65536 in
set_option maxHeartbeats 40000000 in
theorem rm0 (l : Launch) (Z : State) (a0 : Array Value) (hw : ∀ d ∈ tables_1, d.before a0 Z = true) (p1 : Int32) (p2 : Int32) (p3 : Int32) (h0 : Heap) (n0 : Nat) (Zs : n0 ≤ h0.size) :
    Met1 l Z x code maxLocals ret room_1 #[(.int p1), (.int p2), (.int p3)] h0 (Q0 Z p1 p2 p3 h0 n0) := by
  refine own_met_of (plainFor_of_name pn_2) (ef_0 p1 p2 p3) ?_
  intro p e s m below meth c s₁ X hx hby hml hZ hown hnm hret hlk eT
  have hown : s.vm.findClass "com/example/inflight/inflight/MessageCharactersIsAllowedPinLaw" = some m.cls := hown
  have N := Fr.nil n0
  have K := Keep.refl h0 []
  refine own_bipush X hx hby (11 : Int32) at_0 rfl 2 rfl ?_
  refine own_newarray X hx hby hZ (hw _ (List.mem_of_getElem? (i := 0) rfl)) eT at_2 (z := (11 : Int32)) (by decide) (n := 11) rfl (cap := 11) (by decide) (by decide) (by decide) (by decide) (ad := "[I") rfl 4 rfl ?_
  intro T2 h2 b2 gb2 X eT Ex A A2
  have g_b2 : n0 ≤ b2 := by rw [gb2]; exact Zs
  have sz_b2 : h0.size ≤ b2 := by rw [gb2]; exact K.1
  have A_b2 : Afi Z h2 b2 .int 11 (fun _ => (0 : Int32)) := A
  have E_b2 := A2
  have K := K.ext Ex
  have Zs := Nat.le_trans Zs Ex.1
  refine own_dup X hx hby at_4 rfl 5 rfl ?_
  refine own_iconst X hx hby (0 : Int32) at_5 rfl 6 rfl ?_
  refine own_iconst X hx hby (0 : Int32) at_6 rfl 7 rfl ?_
  refine own_iastore X hx hby hZ eT A_b2 (by decide) at_7 8 rfl ?_
  intro T7 h7 X eT W A
  have E_b2 := E_b2.wr W
  have A_b2 : Afi Z h7 b2 .int 11 (updI (fun _ => (0 : Int32)) 0 (0 : Int32)) := A
  have N := Fr.snoc X N g_b2
  have K := K.wr W (Or.inr sz_b2)
  have Zs := Nat.le_trans Zs (Keep.of_wr W).1
  refine own_dup X hx hby at_8 rfl 9 rfl ?_
  refine own_iconst X hx hby (1 : Int32) at_9 rfl 10 rfl ?_
  refine own_bipush X hx hby (9 : Int32) at_10 rfl 12 rfl ?_
  refine own_iastore X hx hby hZ eT A_b2 (by decide) at_12 13 rfl ?_
  intro T12 h12 X eT W A
  have E_b2 := E_b2.wr W
  have A_b2 : Afi Z h12 b2 .int 11 (updI (updI (fun _ => (0 : Int32)) 0 (0 : Int32)) 1 (9 : Int32)) := A
  have N := Fr.snoc X N g_b2
  have K := K.wr W (Or.inr sz_b2)
  have Zs := Nat.le_trans Zs (Keep.of_wr W).1
  refine own_dup X hx hby at_13 rfl 14 rfl ?_
  refine own_iconst X hx hby (2 : Int32) at_14 rfl 15 rfl ?_
  refine own_bipush X hx hby (10 : Int32) at_15 rfl 17 rfl ?_
  refine own_iastore X hx hby hZ eT A_b2 (by decide) at_17 18 rfl ?_
  intro T17 h17 X eT W A
  have E_b2 := E_b2.wr W
  have A_b2 : Afi Z h17 b2 .int 11 (updI (updI (updI (fun _ => (0 : Int32)) 0 (0 : Int32)) 1 (9 : Int32)) 2 (10 : Int32)) := A
  have N := Fr.snoc X N g_b2
  have K := K.wr W (Or.inr sz_b2)
  have Zs := Nat.le_trans Zs (Keep.of_wr W).1
  refine own_dup X hx hby at_18 rfl 19 rfl ?_
  refine own_iconst X hx hby (3 : Int32) at_19 rfl 20 rfl ?_
  refine own_bipush X hx hby (13 : Int32) at_20 rfl 22 rfl ?_
  refine own_iastore X hx hby hZ eT A_b2 (by decide) at_22 23 rfl ?_
  intro T22 h22 X eT W A
  have E_b2 := E_b2.wr W
  have A_b2 : Afi Z h22 b2 .int 11 (updI (updI (updI (updI (fun _ => (0 : Int32)) 0 (0 : Int32)) 1 (9 : Int32)) 2 (10 : Int32)) 3 (13 : Int32)) := A
  have N := Fr.snoc X N g_b2
  have K := K.wr W (Or.inr sz_b2)
  have Zs := Nat.le_trans Zs (Keep.of_wr W).1
  refine own_dup X hx hby at_23 rfl 24 rfl ?_
  refine own_iconst X hx hby (4 : Int32) at_24 rfl 25 rfl ?_
  refine own_bipush X hx hby (32 : Int32) at_25 rfl 27 rfl ?_
  refine own_iastore X hx hby hZ eT A_b2 (by decide) at_27 28 rfl ?_
  intro T27 h27 X eT W A
  have E_b2 := E_b2.wr W
  have A_b2 : Afi Z h27 b2 .int 11 (updI (updI (updI (updI (updI (fun _ => (0 : Int32)) 0 (0 : Int32)) 1 (9 : Int32)) 2 (10 : Int32)) 3 (13 : Int32)) 4 (32 : Int32)) := A
  have N := Fr.snoc X N g_b2
  have K := K.wr W (Or.inr sz_b2)
  have Zs := Nat.le_trans Zs (Keep.of_wr W).1
  refine own_dup X hx hby at_28 rfl 29 rfl ?_
  refine own_iconst X hx hby (5 : Int32) at_29 rfl 30 rfl ?_
  refine own_ldc X hx hby hZ (55295 : Int32) hown (hw _ (List.mem_of_getElem? (i := 1) rfl)) at_30 32 rfl ?_
  refine own_iastore X hx hby hZ eT A_b2 (by decide) at_32 33 rfl ?_
  intro T32 h32 X eT W A
  have E_b2 := E_b2.wr W
  have A_b2 : Afi Z h32 b2 .int 11 (updI (updI (updI (updI (updI (updI (fun _ => (0 : Int32)) 0 (0 : Int32)) 1 (9 : Int32)) 2 (10 : Int32)) 3 (13 : Int32)) 4 (32 : Int32)) 5 (55295 : Int32)) := A
  have N := Fr.snoc X N g_b2
  have K := K.wr W (Or.inr sz_b2)
  have Zs := Nat.le_trans Zs (Keep.of_wr W).1
  refine own_dup X hx hby at_33 rfl 34 rfl ?_
  refine own_bipush X hx hby (6 : Int32) at_34 rfl 36 rfl ?_
  refine own_ldc X hx hby hZ (57344 : Int32) hown (hw _ (List.mem_of_getElem? (i := 2) rfl)) at_36 38 rfl ?_
  refine own_iastore X hx hby hZ eT A_b2 (by decide) at_38 39 rfl ?_
  intro T38 h38 X eT W A
  have E_b2 := E_b2.wr W
  have A_b2 : Afi Z h38 b2 .int 11 (updI (updI (updI (updI (updI (updI (updI (fun _ => (0 : Int32)) 0 (0 : Int32)) 1 (9 : Int32)) 2 (10 : Int32)) 3 (13 : Int32)) 4 (32 : Int32)) 5 (55295 : Int32)) 6 (57344 : Int32)) := A
  have N := Fr.snoc X N g_b2
  have K := K.wr W (Or.inr sz_b2)
  have Zs := Nat.le_trans Zs (Keep.of_wr W).1
  refine own_dup X hx hby at_39 rfl 40 rfl ?_
  refine own_bipush X hx hby (7 : Int32) at_40 rfl 42 rfl ?_
  refine own_ldc X hx hby hZ (65533 : Int32) hown (hw _ (List.mem_of_getElem? (i := 3) rfl)) at_42 44 rfl ?_
  refine own_iastore X hx hby hZ eT A_b2 (by decide) at_44 45 rfl ?_
  intro T44 h44 X eT W A
  have E_b2 := E_b2.wr W
  have A_b2 : Afi Z h44 b2 .int 11 (updI (updI (updI (updI (updI (updI (updI (updI (fun _ => (0 : Int32)) 0 (0 : Int32)) 1 (9 : Int32)) 2 (10 : Int32)) 3 (13 : Int32)) 4 (32 : Int32)) 5 (55295 : Int32)) 6 (57344 : Int32)) 7 (65533 : Int32)) := A
  have N := Fr.snoc X N g_b2
  have K := K.wr W (Or.inr sz_b2)
  have Zs := Nat.le_trans Zs (Keep.of_wr W).1
  refine own_dup X hx hby at_45 rfl 46 rfl ?_
  refine own_bipush X hx hby (8 : Int32) at_46 rfl 48 rfl ?_
  refine own_ldc X hx hby hZ (65536 : Int32) hown (hw _ (List.mem_of_getElem? (i := 4) rfl)) at_48 50 rfl ?_
  refine own_iastore X hx hby hZ eT A_b2 (by decide) at_50 51 rfl ?_
  intro T50 h50 X eT W A
  have E_b2 := E_b2.wr W
  have A_b2 : Afi Z h50 b2 .int 11 (updI (updI (updI (updI (updI (updI (updI (updI (updI (fun _ => (0 : Int32)) 0 (0 : Int32)) 1 (9 : Int32)) 2 (10 : Int32)) 3 (13 : Int32)) 4 (32 : Int32)) 5 (55295 : Int32)) 6 (57344 : Int32)) 7 (65533 : Int32)) 8 (65536 : Int32)) := A
  have N := Fr.snoc X N g_b2
  have K := K.wr W (Or.inr sz_b2)
  have Zs := Nat.le_trans Zs (Keep.of_wr W).1
  refine own_dup X hx hby at_51 rfl 52 rfl ?_
  refine own_bipush X hx hby (9 : Int32) at_52 rfl 54 rfl ?_
  refine own_ldc X hx hby hZ (1114111 : Int32) hown (hw _ (List.mem_of_getElem? (i := 5) rfl)) at_54 56 rfl ?_
  refine own_iastore X hx hby hZ eT A_b2 (by decide) at_56 57 rfl ?_
  intro T56 h56 X eT W A
  have E_b2 := E_b2.wr W
  have A_b2 : Afi Z h56 b2 .int 11 (updI (updI (updI (updI (updI (updI (updI (updI (updI (updI (fun _ => (0 : Int32)) 0 (0 : Int32)) 1 (9 : Int32)) 2 (10 : Int32)) 3 (13 : Int32)) 4 (32 : Int32)) 5 (55295 : Int32)) 6 (57344 : Int32)) 7 (65533 : Int32)) 8 (65536 : Int32)) 9 (1114111 : Int32)) := A
  have N := Fr.snoc X N g_b2
  have K := K.wr W (Or.inr sz_b2)
  have Zs := Nat.le_trans Zs (Keep.of_wr W).1
  refine own_dup X hx hby at_57 rfl 58 rfl ?_
  refine own_bipush X hx hby (10 : Int32) at_58 rfl 60 rfl ?_
  refine own_iconst X hx hby (-1 : Int32) at_60 rfl 61 rfl ?_
  refine own_iastore X hx hby hZ eT A_b2 (by decide) at_61 62 rfl ?_
  intro T61 h61 X eT W A
  have E_b2 := E_b2.wr W
  have A_b2 : Afi Z h61 b2 .int 11 (updI (updI (updI (updI (updI (updI (updI (updI (updI (updI (updI (fun _ => (0 : Int32)) 0 (0 : Int32)) 1 (9 : Int32)) 2 (10 : Int32)) 3 (13 : Int32)) 4 (32 : Int32)) 5 (55295 : Int32)) 6 (57344 : Int32)) 7 (65533 : Int32)) 8 (65536 : Int32)) 9 (1114111 : Int32)) 10 (-1 : Int32)) := A
  have N := Fr.snoc X N g_b2
  have K := K.wr W (Or.inr sz_b2)
  have Zs := Nat.le_trans Zs (Keep.of_wr W).1
  refine own_astoreN X hx hby at_62 rfl (l' := #[.val (.int p1), .val (.int p2), .val (.int p3), .val (.ref b2), .unset]) rfl 63 rfl ?_
  refine own_iloadN X hx hby p2 at_63 rfl 64 rfl ?_
  refine own_iconst X hx hby (1 : Int32) at_64 rfl 65 rfl ?_
  refine own_iand X hx hby at_65 66 rfl ?_
  refine own_if_ne X hx hby at_66 75 69 (by decide) rfl (fun c66 => ?_) (fun c66 => ?_)
  · skip
    refine own_aloadN X hx hby (.ref b2) at_75 rfl rfl 76 rfl ?_
    refine own_iloadN X hx hby p2 at_76 rfl 77 rfl ?_
    refine own_iconst X hx hby (1 : Int32) at_77 rfl 78 rfl ?_
    refine own_iushr X hx hby at_78 79 rfl ?_
    refine own_bipush X hx hby (11 : Int32) at_79 rfl 81 rfl ?_
    refine own_irem X hx hby at_81 (by decide) 82 rfl ?_
    refine own_iaload X hx hby hZ ((updI (updI (updI (updI (updI (updI (updI (updI (updI (updI (updI (fun _ => (0 : Int32)) 0 (0 : Int32)) 1 (9 : Int32)) 2 (10 : Int32)) 3 (13 : Int32)) 4 (32 : Int32)) 5 (55295 : Int32)) 6 (57344 : Int32)) 7 (65533 : Int32)) 8 (65536 : Int32)) 9 (1114111 : Int32)) 10 (-1 : Int32)) (Int32.toNatClampNeg (((p2.toUInt32 >>> ((1 : Int32) &&& 31).toUInt32).toInt32) % (11 : Int32)))) eT A_b2 (own_in (own_idx p2).1 (own_idx p2).2) rfl at_82 83 rfl ?_
    refine own_iloadN X hx hby p3 at_83 rfl 84 rfl ?_
    refine own_iconst X hx hby (3 : Int32) at_84 rfl 85 rfl ?_
    refine own_irem X hx hby at_85 (by decide) 86 rfl ?_
    refine own_iadd X hx hby at_86 87 rfl ?_
    obtain ⟨v87, e87⟩ : ∃ z : Int32, (((updI (updI (updI (updI (updI (updI (updI (updI (updI (updI (updI (fun _ => (0 : Int32)) 0 (0 : Int32)) 1 (9 : Int32)) 2 (10 : Int32)) 3 (13 : Int32)) 4 (32 : Int32)) 5 (55295 : Int32)) 6 (57344 : Int32)) 7 (65533 : Int32)) 8 (65536 : Int32)) 9 (1114111 : Int32)) 10 (-1 : Int32)) (Int32.toNatClampNeg (((p2.toUInt32 >>> ((1 : Int32) &&& 31).toUInt32).toInt32) % (11 : Int32)))) + (p3 % (3 : Int32))) = z := ⟨_, rfl⟩
    refine own_istore X hx hby at_87 e87 (l' := #[.val (.int p1), .val (.int p2), .val (.int p3), .val (.ref b2), .val (.int v87)]) rfl 89 rfl ?_
    refine own_iload X hx hby v87 at_89 rfl 91 rfl ?_
    refine own_callS X hx hby hZ (st := []) [(.int v87)] rfl hown (hw _ (List.mem_of_getElem? (i := 6) rfl)) (hw _ (List.mem_of_getElem? (i := 7) rfl)) (hw _ (List.mem_of_getElem? (i := 8) rfl)) (hw _ (List.mem_of_getElem? (i := 9) rfl)) (by decide) at_91 (rm1 l Z a0 hw v87 h61 n0 Zs ) eT pd_0 rfl (by rw [hml]; rfl) (by decide) 0 rfl (by decide) (by decide) (by decide) 94 rfl ?_
    intro T91 L9 v9 X hQ
    obtain ⟨rfl, N9, eT⟩ := hQ
    have N := Fr.app N N9
    show Go p e below _ T91 (mkF m 94 #[.val (.int p1), .val (.int p2), .val (.int p3), .val (.ref b2), .val (.int v87)] [(.int (f1 v87))])
    refine own_iload X hx hby v87 at_94 rfl 96 rfl ?_
    refine own_callS X hx hby hZ (st := [(.int (f1 v87))]) [(.int v87)] rfl hown (hw _ (List.mem_of_getElem? (i := 12) rfl)) (hw _ (List.mem_of_getElem? (i := 13) rfl)) (hw _ (List.mem_of_getElem? (i := 14) rfl)) (hw _ (List.mem_of_getElem? (i := 15) rfl)) (by decide) at_96 (rm2 l Z a0 hw v87 h61 n0 Zs ) eT pd_0 rfl (by rw [hml]; rfl) (by decide) 1 rfl (by decide) (by decide) (by decide) 99 rfl ?_
    intro T96 L9 v9 X hQ
    obtain ⟨rfl, N9, eT⟩ := hQ
    have N := Fr.app N N9
    show Go p e below _ T96 (mkF m 99 #[.val (.int p1), .val (.int p2), .val (.int p3), .val (.ref b2), .val (.int v87)] [(.int (f2 v87)), (.int (f1 v87))])
    have c99 : (f1 v87) = (f2 v87) := by first | exact own_all _ | (subst_vars; exact own_all _)
    refine own_icmp_ne X hx hby at_99 106 102 (by decide) rfl (fun q => absurd c99 q) (fun _ => ?_)
    refine own_iconst X hx hby (1 : Int32) at_102 rfl 103 rfl ?_
    refine own_goto X hx hby at_103 107 (by decide) ?_
    refine own_retN X hx hby hret hlk (t := .boolean) (z' := (1 : Int32)) (by simp) at_107 (by decide) (by decide) rfl ?_
    rw [eT]
    exact ⟨rfl, N⟩
  · skip
    refine own_iloadN X hx hby p1 at_69 rfl 70 rfl ?_
    refine own_istore X hx hby at_70 rfl (l' := #[.val (.int p1), .val (.int p2), .val (.int p3), .val (.ref b2), .val (.int p1)]) rfl 72 rfl ?_
    refine own_goto X hx hby at_72 89 (by decide) ?_
    refine own_iload X hx hby p1 at_89 rfl 91 rfl ?_
    refine own_callS X hx hby hZ (st := []) [(.int p1)] rfl hown (hw _ (List.mem_of_getElem? (i := 6) rfl)) (hw _ (List.mem_of_getElem? (i := 7) rfl)) (hw _ (List.mem_of_getElem? (i := 8) rfl)) (hw _ (List.mem_of_getElem? (i := 9) rfl)) (by decide) at_91 (rm1 l Z a0 hw p1 h61 n0 Zs ) eT pd_0 rfl (by rw [hml]; rfl) (by decide) 0 rfl (by decide) (by decide) (by decide) 94 rfl ?_
    intro T91 L9 v9 X hQ
    obtain ⟨rfl, N9, eT⟩ := hQ
    have N := Fr.app N N9
    show Go p e below _ T91 (mkF m 94 #[.val (.int p1), .val (.int p2), .val (.int p3), .val (.ref b2), .val (.int p1)] [(.int (f1 p1))])
    refine own_iload X hx hby p1 at_94 rfl 96 rfl ?_
    refine own_callS X hx hby hZ (st := [(.int (f1 p1))]) [(.int p1)] rfl hown (hw _ (List.mem_of_getElem? (i := 12) rfl)) (hw _ (List.mem_of_getElem? (i := 13) rfl)) (hw _ (List.mem_of_getElem? (i := 14) rfl)) (hw _ (List.mem_of_getElem? (i := 15) rfl)) (by decide) at_96 (rm2 l Z a0 hw p1 h61 n0 Zs ) eT pd_0 rfl (by rw [hml]; rfl) (by decide) 1 rfl (by decide) (by decide) (by decide) 99 rfl ?_
    intro T96 L9 v9 X hQ
    obtain ⟨rfl, N9, eT⟩ := hQ
    have N := Fr.app N N9
    show Go p e below _ T96 (mkF m 99 #[.val (.int p1), .val (.int p2), .val (.int p3), .val (.ref b2), .val (.int p1)] [(.int (f2 p1)), (.int (f1 p1))])
    have c99 : (f1 p1) = (f2 p1) := by first | exact own_all _ | (subst_vars; exact own_all _)
    refine own_icmp_ne X hx hby at_99 106 102 (by decide) rfl (fun q => absurd c99 q) (fun _ => ?_)
    refine own_iconst X hx hby (1 : Int32) at_102 rfl 103 rfl ?_
    refine own_goto X hx hby at_103 107 (by decide) ?_
    refine own_retN X hx hby hret hlk (t := .boolean) (z' := (1 : Int32)) (by simp) at_107 (by decide) (by decide) rfl ?_
    rw [eT]
    exact ⟨rfl, N⟩
set_option maxRecDepth 65536 in
set_option maxHeartbeats 40000000 in
theorem comes_1 {Post : Tables → Env → Array Value → State → Outcome → State → Prop} (hpost : ∀ tb e args s v u, (limb_1_1.after args s (.returned v) u = true ∧ limb_1_2.after args s (.returned v) u = true ∧ True) → FrameEnd s (.returned v) u (Jvm.fieldLocs frame_1_writes args s ++ Jvm.arrayLocs frame_1_arrays args s ++ Jvm.staticLocs frame_1_statics s) 16 128 → Post tb e args s (.returned v) u) :
    ArmFor flags0 classFile x code maxLocals ret World_1 tables_1 room_1 Calls_1 rest_1 Pre_1 Post := by
  intro l hfl _ _ p e ha hc hk s m args below hf hA hF happ hP
  obtain ⟨hcalls, hrest, hpre⟩ := hP
  obtain ⟨-, -, -, hnamed, -, -, -, hat⟩ := (Spec.applies_iff hf).mp happ
  obtain ⟨hg, hn⟩ := and_e (Cond.before_iff.mp (show (Jvm.Cond.and given_1 narrow_1).before args s = true from hpre))
  obtain ⟨gg1, gg2⟩ := and_e hg
  obtain ⟨gg3, gg4⟩ := and_e gg2
  obtain ⟨gg5, gg6⟩ := and_e gg4
  obtain ⟨w0, w1, w2, rfl⟩ : ∃ w0 w1 w2 : Value, args = #[w0, w1, w2] := by
    have hs : args.size = 3 := by simpa [Cond.value, given_1] using gg1
    obtain ⟨L⟩ := args
    match L, hs with
    | [w0, w1, w2], _ => exact ⟨w0, w1, w2, rfl⟩
  have hw := fun d (hd : d ∈ tables_1) => atoms_spec (ws := Jvm.Cond.code x code maxLocals ret :: tables_1) hat d (List.mem_cons_of_mem _ hd)
  have hfit : Fit s := fun {y c} hc i hi => by
    obtain ⟨ha, rfl⟩ := Array.getElem?_eq_some_iff.mp hc
    have q := List.all_eq_true.mp ((Array.all_eq_true_iff_forall_mem.mp hF) _ (Array.getElem_mem ha)) i (List.mem_range.mpr hi)
    simpa [Array.getElem?_eq_getElem hi] using q
  obtain ⟨i0, ei0⟩ := is_v gg3
  obtain rfl : w0 = (.int i0) := Option.some.inj ei0
  obtain ⟨i1, ei1⟩ := is_v gg5
  obtain rfl : w1 = (.int i1) := Option.some.inj ei1
  obtain ⟨i2, ei2⟩ := is_v gg6
  obtain rfl : w2 = (.int i2) := Option.some.inj ei2
  obtain ⟨n, o, h1, h2, h3, _, L, rfl, ⟨rfl, N⟩, hq⟩ := rm0 l s _ hw i0 i1 i2  s.heap s.heap.size (Nat.le_refl _)  tables_1 p e ha hc hk s m _ below hf ((Spec.applies_iff_loose hf).mp happ).1 ⟨rfl, State.Warmed39.refl s, rfl⟩ trivial
  refine ⟨n, _, h1, h2, h3, hpost _ _ _ _ _ _ ⟨Cond.after_iff.mpr rfl, Cond.after_iff.mpr (eq_i res_at (Term.int_eval (1)) rfl), trivial⟩ ⟨hq.1, hq.2.1, (hq.2.2.sift fun y hy => Or.inr (N y hy)).mono (by decide) (by decide)⟩⟩
theorem main_1_1 : Claimed_1_1 := comes_1 fun _ _ _ _ _ _ h hF => ⟨h.1, hF⟩
theorem main_1_2 : Claimed_1_2 := comes_1 fun _ _ _ _ _ _ h hF => ⟨h.2.1, hF⟩
end Jvm.Pilot.@@N@@
namespace Jvm.Pilot.@@N@@
open Jvm Jvm.ClassFile Sem Op Lib Jvm.Free Jvm.Stand Jvm.Pilot.@@N@@.Jvm.D
/-! MADE BY PROGRAM (witnessworld.py) out of the Statement's table words and the real class files: 9 classes; the members and pool entries that the words name. The judged class is class 1, her method 1. -/
namespace start1
open Jvm.ClassFile
def u (s : String) : CpInfo := .utf8 (stringToUtf16 s)
/-- a pool by its gaps: so many unusable entries, then the entry; so many at the end -/
def gap : Nat → List CpInfo → List CpInfo
  | 0, r => r
  | n + 1, r => .unusable :: gap n r
def poolList (es : List (Nat × CpInfo)) (last : Nat) : List CpInfo := es.foldr (fun e r => gap e.1 (e.2 :: r)) (gap last [])
def pool (es : List (Nat × CpInfo)) (last : Nat) : Array CpInfo := ⟨poolList es last⟩
def fileOf (pool : Array CpInfo) (this : Nat) (attrs : Array Attribute := #[]) (ms : Array MethodInfo := #[]) (fl : Nat := 33) (sup : Nat := 0) (ifs : Array Nat := #[]) (fds : Array FieldInfo := #[]) : ClassFile where
  minorVersion := 0
  majorVersion := 65
  constantPool := pool
  accessFlags := fl
  thisClass := this
  superClass := sup
  interfaces := ifs
  fields := fds
  methods := ms
  attributes := attrs
def plain (name : String) (sup : Option ClassId) : Class where
  name := name
  kind := .ordinary
  loader := none
  accessFlags := 33
  super := sup
  interfaces := #[]
  cf := none
  fields := #[]
  methods := #[]
  instanceTypes := #[]
  staticTypes := #[]
  resolved := #[]
  callSites := []
  init := .initialized
  statics := none
  mirror := none

def pool0 : Array CpInfo := pool [(5, u "<init>"), (0, u "()V"), (1, .class_ 10), (1, u "java/lang/Object")] 113

def k0m0 : Method := { name := "<init>", desc := "()V", sig := { parameters := [], returnType := none }, accessFlags := 1, code := none }
/-- java/lang/Object -/
def k0 : Class := { plain "java/lang/Object" none with
  accessFlags := 33
  interfaces := #[]
  cf := some (fileOf pool0 8 #[] #[{ accessFlags := 1, nameIndex := 5, descriptorIndex := 6, attributes := #[] }] 33 0 #[] #[])
  fields := #[]
  methods := #[k0m0]
  instanceTypes := #[]
  staticTypes := #[]
  resolved := Array.replicate 124 none
  statics := none }

def pool1 : Array CpInfo := pool [(2, .class_ 4), (1, u "java/lang/Object"), (0, u "<init>"), (0, u "()V"), (0, .integer 55295), (0, .integer 57344), (0, .integer 65533), (0, .integer 65536), (0, .integer 1114111), (0, .methodref 13 14), (0, .class_ 15), (0, .nameAndType 16 17), (0, u "com/example/inflight/inflight/MessageCharacters"), (0, u "isAllowed"), (0, u "(I)Z"), (0, .methodref 19 20), (0, .class_ 21), (0, .nameAndType 22 17), (0, u "com/example/inflight/inflight/MessageCharactersIsAllowedPinLaw"), (0, u "ref"), (0, .integer 55296), (0, .integer 65534), (0, .integer 1114112), (2, u "law"), (0, u "(III)Z")] 5

def k1m0 : Method := { name := "<init>", desc := "()V", sig := { parameters := [], returnType := none }, accessFlags := 2, code := none }
def k1c1 : Code := { maxStack := 4, maxLocals := 5, code := code, exceptionTable := #[], attributes := #[] }
def k1m1 : Method := { name := "law", desc := "(III)Z", sig := { parameters := [.int, .int, .int], returnType := some .boolean }, accessFlags := 9, code := some k1c1 }
def k1c2 : Code := { maxStack := 2, maxLocals := 1, code := method_3_code, exceptionTable := #[], attributes := #[] }
def k1m2 : Method := { name := "ref", desc := "(I)Z", sig := { parameters := [.int], returnType := some .boolean }, accessFlags := 10, code := some k1c2 }
/-- com/example/inflight/inflight/MessageCharactersIsAllowedPinLaw -/
def k1 : Class := { plain "com/example/inflight/inflight/MessageCharactersIsAllowedPinLaw" (some 0) with
  accessFlags := 49
  interfaces := #[]
  cf := some (fileOf pool1 19 #[] #[{ accessFlags := 2, nameIndex := 5, descriptorIndex := 6, attributes := #[] }, { accessFlags := 9, nameIndex := 28, descriptorIndex := 29, attributes := #[] }, { accessFlags := 10, nameIndex := 22, descriptorIndex := 17, attributes := #[] }] 49 2 #[] #[])
  fields := #[]
  methods := #[k1m0, k1m1, k1m2]
  instanceTypes := #[]
  staticTypes := #[]
  resolved := Array.replicate 35 none
  statics := none }

def pool2 : Array CpInfo := pool [(2, .class_ 4), (1, u "java/lang/Object"), (0, u "<init>"), (0, u "()V"), (0, .integer 55295), (0, .integer 57344), (0, .integer 65533), (0, .integer 65536), (0, .integer 1114111), (11, .class_ 25), (1, u "com/example/inflight/inflight/MessageCharacters"), (0, u "isAllowed"), (0, u "(I)Z")] 58

def k2m0 : Method := { name := "<init>", desc := "()V", sig := { parameters := [], returnType := none }, accessFlags := 2, code := none }
def k2c1 : Code := { maxStack := 2, maxLocals := 1, code := prog_8_method_2_code, exceptionTable := #[], attributes := #[] }
def k2m1 : Method := { name := "isAllowed", desc := "(I)Z", sig := { parameters := [.int], returnType := some .boolean }, accessFlags := 9, code := some k2c1 }
/-- com/example/inflight/inflight/MessageCharacters -/
def k2 : Class := { plain "com/example/inflight/inflight/MessageCharacters" (some 0) with
  accessFlags := 49
  interfaces := #[]
  cf := some (fileOf pool2 23 #[] #[{ accessFlags := 2, nameIndex := 5, descriptorIndex := 6, attributes := #[] }, { accessFlags := 9, nameIndex := 26, descriptorIndex := 27, attributes := #[] }] 49 2 #[] #[])
  fields := #[]
  methods := #[k2m0, k2m1]
  instanceTypes := #[]
  staticTypes := #[]
  resolved := Array.replicate 86 none
  statics := none }

def pool3 : Array CpInfo := pool [(1, u "java/lang/Cloneable"), (0, .class_ 1), (0, u "java/lang/Object"), (0, .class_ 3)] 3

/-- java/lang/Cloneable -/
def k3 : Class := { plain "java/lang/Cloneable" (some 0) with
  accessFlags := 1537
  interfaces := #[]
  cf := some (fileOf pool3 2 #[] #[] 1537 4 #[] #[])
  fields := #[]
  methods := #[]
  instanceTypes := #[]
  staticTypes := #[]
  resolved := Array.replicate 8 none
  statics := none }

def pool4 : Array CpInfo := pool [(1, u "java/io/Serializable"), (0, .class_ 1), (0, u "java/lang/Object"), (0, .class_ 3)] 3

/-- java/io/Serializable -/
def k4 : Class := { plain "java/io/Serializable" (some 0) with
  accessFlags := 1537
  interfaces := #[]
  cf := some (fileOf pool4 2 #[] #[] 1537 4 #[] #[])
  fields := #[]
  methods := #[]
  instanceTypes := #[]
  staticTypes := #[]
  resolved := Array.replicate 8 none
  statics := none }

/-- the primitive byte -/
def k5 : Class := { plain "byte" none with kind := .primitive 'B', accessFlags := 0x411 }
/-- [B -/
def k6 : Class := { plain "[B" (some 0) with kind := .array 5 .byte, interfaces := #[3, 4], accessFlags := 1041 }

/-- the primitive int -/
def k7 : Class := { plain "int" none with kind := .primitive 'I', accessFlags := 0x411 }
/-- [I -/
def k8 : Class := { plain "[I" (some 0) with kind := .array 7 .int, interfaces := #[3, 4], accessFlags := 1041 }

def heap : Heap := #[]
def classes : Array Class := #[k0, k1, k2, k3, k4, k5, k6, k7, k8]
def interned : List (Array UInt16 × Addr) := []
def slotsUsed : Nat := 0
def theMethod : MethodId := ⟨1, 1⟩
def args0 : Array Value := #[.int 3, .int 4, .int 5]
def aboutOver (below : List Frame) : State where
  vm := { classes := classes, interned := interned.toArray }
  heap := heap
  slotsUsed := slotsUsed
  threads := #[{ frames := .invoking theMethod args0 :: below }]
def below0 : List Frame := [.native { method := ⟨0, 0⟩, args := #[] }]
def about1 : State := aboutOver below0
def p0 : Program := .bare "" "" ""
def e0 : Env := launch0.env 0 0 0
theorem w_frames : about1.frames = Frame.invoking theMethod args0 :: below0 := rfl
set_option maxRecDepth 65536 in
theorem w_args : argsFit about1.vm theMethod args0 = true := by decide +kernel
set_option maxRecDepth 65536 in
theorem w_heap : heapFits about1 = true := by decide +kernel
set_option maxRecDepth 65536 in
theorem w_runnable : about1.curStatus? = some .runnable := by decide +kernel
set_option maxRecDepth 65536 in
theorem w_alone : about1.alone = true := by decide +kernel
set_option maxRecDepth 65536 in
theorem w_named : about1.methodNamed? x = some theMethod := by decide +kernel
set_option maxRecDepth 65536 in
theorem w_hears : about1.hears theMethod below0 = true := by decide +kernel
set_option maxRecDepth 65536 in
theorem w_ripe : about1.ripe theMethod args0 below0 = true := by decide +kernel
theorem w_running : about1.status = .running := rfl
set_option maxRecDepth 65536 in
theorem w_room : about1.hasRoom e0.platform room_1 = true :=
  launch0.hasRoom_least _ room_1 (by decide +kernel) (by decide +kernel) (by decide +kernel) (by decide +kernel) (by decide +kernel) (by decide +kernel)
theorem allAtoms_all (ts : List Jvm.Cond) (a : Array Jvm.Value) (st : Jvm.State) : (allAtoms ts).before a st = ts.all (fun c => c.before a st) := by
  induction ts with
  | nil => rfl
  | cons c t ih =>
    show (Jvm.Cond.and c (allAtoms t)).before a st = _
    rw [Jvm.Cond.before_and, ih, List.all_cons]
def words1 : List Jvm.Cond := Jvm.Cond.code x code maxLocals ret :: tables_1
/-- a 'code' word, met by the world's own term for the bytes: nothing is compared byte by byte -/
theorem code_word {y : MethodName} {bytes : ByteArray} {mx : Nat} {rt : Option FieldType} {a : Array Value} {s : State} {m : MethodId} {meth : Method} {c : Code} (h1 : s.methodNamed? y = some m) (h2 : s.vm.method? m = some meth) (h3 : meth.code = some c) (h4 : c.code = bytes)
    (h5 : (c.maxLocals == mx && c.exceptionTable.isEmpty && decide (c.maxStack ≤ mostOperands) && decide (meth.sig.returnType = rt) && !meth.locks && decide (parseMethodDescriptor y.desc = some meth.sig)) = true) : (Jvm.Cond.code y bytes mx rt).before a s = true := by
  simp only [Bool.and_eq_true, beq_iff_eq, Bool.not_eq_true', decide_eq_true_eq] at h5
  obtain ⟨⟨⟨⟨⟨g1, g2⟩, g3⟩, g4⟩, g5⟩, g6⟩ := h5
  simp [Cond.before, Cond.holds, Cond.value, h1, h2, h3, h4, g1, g2, g3, g4, g5, g6]
def isCode : Jvm.Cond → Bool
  | .code _ _ _ _ => true
  | _ => false
theorem all_split {L : List Jvm.Cond} {P : Jvm.Cond → Bool} (h1 : L.all (fun c => isCode c || P c) = true) (h2 : ∀ c ∈ L.filter isCode, P c = true) : L.all P = true := by
  refine List.all_eq_true.mpr fun c hc => ?_
  have h := List.all_eq_true.mp h1 c hc
  rcases Bool.eq_false_or_eq_true (isCode c) with hi | hi
  · exact h2 c (List.mem_filter.mpr ⟨hc, hi⟩)
  · simpa [hi] using h
set_option maxRecDepth 65536 in
theorem w_c0 : (Jvm.Cond.code x code maxLocals ret).before args0 about1 = true := code_word (m := ⟨1, 1⟩) (meth := k1m1) (c := k1c1) (by decide +kernel) rfl rfl rfl (by decide +kernel)
set_option maxRecDepth 65536 in
theorem w_c1 : (Jvm.Cond.code ({ cls := "com/example/inflight/inflight/MessageCharacters", name := "isAllowed", desc := "(I)Z" } : Jvm.MethodName) prog_8_method_2_code (1 : Nat) (Option.some Jvm.ClassFile.FieldType.boolean)).before args0 about1 = true := code_word (m := ⟨2, 1⟩) (meth := k2m1) (c := k2c1) (by decide +kernel) rfl rfl rfl (by decide +kernel)
set_option maxRecDepth 65536 in
theorem w_c2 : (Jvm.Cond.code ({ cls := "com/example/inflight/inflight/MessageCharactersIsAllowedPinLaw", name := "ref", desc := "(I)Z" } : Jvm.MethodName) method_3_code (1 : Nat) (Option.some Jvm.ClassFile.FieldType.boolean)).before args0 about1 = true := code_word (m := ⟨1, 2⟩) (meth := k1m2) (c := k1c2) (by decide +kernel) rfl rfl rfl (by decide +kernel)
def codes1 : List Jvm.Cond := [Jvm.Cond.code x code maxLocals ret, Jvm.Cond.code ({ cls := "com/example/inflight/inflight/MessageCharacters", name := "isAllowed", desc := "(I)Z" } : Jvm.MethodName) prog_8_method_2_code (1 : Nat) (Option.some Jvm.ClassFile.FieldType.boolean), Jvm.Cond.code ({ cls := "com/example/inflight/inflight/MessageCharactersIsAllowedPinLaw", name := "ref", desc := "(I)Z" } : Jvm.MethodName) method_3_code (1 : Nat) (Option.some Jvm.ClassFile.FieldType.boolean)]
set_option maxRecDepth 65536 in
theorem codes_eq : words1.filter isCode = codes1 := rfl
theorem w_codes : ∀ c ∈ words1.filter isCode, c.before args0 about1 = true := by
  rw [codes_eq]
  intro c hc
  simp only [codes1, List.mem_cons, List.not_mem_nil, or_false] at hc
  rcases hc with rfl | rfl | rfl
  · exact w_c0
  · exact w_c1
  · exact w_c2
set_option maxRecDepth 65536 in
theorem w_t1 : words1.all (fun c => isCode c || c.before args0 about1) = true := by decide +kernel
theorem w_tables : (allAtoms (Jvm.Cond.code x code maxLocals ret :: tables_1)).before args0 about1 = true := by
  rw [allAtoms_all]
  show words1.all (fun c => c.before args0 about1) = true
  refine all_split ?_ w_codes
  rw [w_t1]
set_option maxRecDepth 65536 in
theorem w_case : (Jvm.Cond.and given_1 narrow_1).before args0 about1 = true := by decide +kernel
theorem w_applies : (headSpec (Jvm.Cond.code x code maxLocals ret :: tables_1) room_1).applies x e0.platform about1 = true :=
  (Spec.applies_iff w_frames).mpr ⟨w_running, w_runnable, w_alone, w_named, w_hears, w_ripe, w_room, w_tables⟩
theorem atStart : AtStart classFile x code maxLocals ret World_1 tables_1 room_1 Calls_1 rest_1 Pre_1 launch0 p0 e0 about1 theMethod args0 below0 :=
  ⟨lists_1, trivial, launch0.admits_env _ _ _, launch0.least_env, fairChoices_fair.cas, fairChoices_fair.clock, w_frames, w_args, w_heap, w_applies, trivial, trivial, w_case⟩
end start1
theorem witness_1 : WitnessClaimed_1 := ⟨start1.p0, start1.e0, start1.about1, start1.theMethod, start1.args0, start1.below0, start1.atStart⟩
end Jvm.Pilot.@@N@@
