import JvmDerived
import JvmDerived.Pilot.@@N@@Statement
import JvmDerived.Pilot.@@N@@Code
set_option linter.unusedVariables false
set_option linter.unusedSimpArgs false
namespace Jvm.Pilot.@@N@@
open Jvm Jvm.ClassFile Sem Op Lib Jvm.Free Jvm.Stand Jvm.LawKit Jvm.RoadKit Bundle Jvm.Pilot.@@N@@.Jvm.D
/-! ## the run in continuation form: 'Go G T g': from T with the top frame g the run ends as G says -/
def Go (p : Program) (e : Env) (below : List Frame) (G : State → Outcome → Prop) (T : State) (g : JFrame) : Prop :=
  ∃ s₂ o, Steps p.tables e below (T.setTop g) s₂ ∧ s₂.status = .running ∧ Ended s₂ below o ∧ G s₂ o
/-- what a contract asks of the end -/
def FinQ (s : State) (Q : Option Value → Heap → List Loc → Prop) (kc ks : Nat) (U' : State) (o : Outcome) : Prop :=
  ∃ v L, o = .returned v ∧ Q v U'.heap L ∧ FrameEnd s o U' L kc ks
/-- a body's contract, as backOf takes it -/
def Met1 (l : Launch) (Z : State) (y : MethodName) (bytes : ByteArray) (maxL : Nat) (rt : Option FieldType) (rm : Room) (as : Array Value) (h0 : Heap) (Q : Option Value → Heap → List Loc → Prop) : Prop :=
  ∀ ws : List Jvm.Cond, MetFree l y (head1 (Jvm.Cond.code y bytes maxL rt :: ws) rm) (fun a U => a = as ∧ Z.Warmed39 U.vm ∧ U.heap = h0) (fun _ _ _ _ _ => True)
    (fun _ U o U' => ∃ v L, o = .returned v ∧ Q v U'.heap L ∧ FrameEnd U o U' L rm.cells rm.slots)
section OwnGo
variable {p : Program} {l : Launch} {e : Env} {R : Room} {s : State} {m : MethodId} {args : Array Value} {below : List Frame} {meth : Method} {c : Code} {T T' : State} {locs : List Loc} {cells slots : Nat} {G : State → Outcome → Prop} {Ls : Array Slot} {st : List Value} {pc : Nat} {bs : ByteArray} {Z : State} {a0 : Array Value} {h : Heap} {g g' : JFrame}
theorem Go.by (q : ∀ t, Steps p.tables e below (T'.setTop g') t → Steps p.tables e below (T.setTop g) t) (k : Go p e below G T' g') : Go p e below G T g := by
  obtain ⟨s₂, o, h1, h2⟩ := k
  exact ⟨s₂, o, q _ h1, h2⟩
theorem own_met_of {Z : State} {y : MethodName} {bytes : ByteArray} {maxL : Nat} {rt : Option FieldType} {rm : Room} {as : Array Value} {h0 : Heap} {Q : Option Value → Heap → List Loc → Prop} {Ls0 : Array Slot} (hpl : plainFor y = true) (ef : ∀ m, entryFrame m as maxL = mkF m 0 Ls0 [])
    (body : ∀ (p : Program) (e : Env) (s : State) (m : MethodId) (below : List Frame) (meth : Method) (c : Code) (s₁ : State), Stand p l e rm s m as below meth c s₁ [] 0 0 → p.tables.exec = Jvm.exec → c.code = bytes → c.maxLocals = maxL → Z.Warmed39 s.vm → s.vm.findClass y.cls = some m.cls → meth.name = y.name → meth.sig.returnType = rt → meth.locks = false → s₁.heap = h0 →
      Go p e below (FinQ s Q rm.cells rm.slots) s₁ (mkF m 0 Ls0 [])) : Met1 l Z y bytes maxL rt rm as h0 Q := by
  intro ws
  refine MetFree.of_bodySF hpl hisR ?_
  intro p e s m args below meth c s₁ Bd hml0 hP hK
  obtain ⟨rfl, hZ, hh⟩ := hP
  have k := body p e s m below meth c s₁ (Stand.of_body Bd) Bd.exec Bd.bytes hml0 hZ (findClass_of_methodNamed Bd.named) (name_of_methodNamed Bd.named Bd.method).1 Bd.returns Bd.notSynchronized (by rw [← hh, Bd.state]; rfl)
  rw [← ef m] at k
  exact k
theorem own_leave {Q : Option Value → Heap → List Loc → Prop} {kc ks : Nat} {v : Option Value} (X : Stand p l e R s m args below meth c T locs cells slots) (hv : meth.sig.returnType = none → v = none) (hlk : meth.locks = false) (hc : cells ≤ kc) (hs : slots ≤ ks) (hQ : Q v T.heap locs)
    (k : ∀ fs, (∀ (f : JFrame) (acts : List Action), f.method = m → f.locked = none → f.entered = [] → (doReturn e (T.setTop f) acts v).1 = T.setFrames fs) → Steps p.tables e below (T.setTop g) (T.setFrames fs)) : Go p e below (FinQ s Q kc ks) T g := by
  obtain ⟨fs, hr, hrun, hended, hW, hsame⟩ := X.leave (v := v) hv hlk
  exact ⟨_, _, k fs hr, hrun, hended, _, _, rfl, hQ, ⟨_, rfl⟩, hW, hsame.mono hc hs⟩
theorem own_retI {Q : Option Value → Heap → List Loc → Prop} {kc ks : Nat} {z : Int32} (X : Stand p l e R s m args below meth c T locs cells slots) (hx : p.tables.exec = Jvm.exec) (hby : c.code = bs) (hret : meth.sig.returnType = some .int) (hlk : meth.locks = false) (hd : decode bs pc = .ok (.ireturn, 1)) (hc : cells ≤ kc) (hs : slots ≤ ks) (hQ : Q (some (.int z)) T.heap locs) : Go p e below (FinQ s Q kc ks) T (mkF m pc Ls (.int z :: st)) := by
  refine own_leave X (fun q => by rw [hret] at q; cases q) hlk hc hs hQ fun fs hr => ?_
  exact retOut X hx hret rfl (Or.inl ⟨rfl, Or.inl rfl, z, rfl⟩) (hb hby hd) hr
theorem own_retN {Q : Option Value → Heap → List Loc → Prop} {kc ks : Nat} {z z' : Int32} {t : FieldType} (X : Stand p l e R s m args below meth c T locs cells slots) (hx : p.tables.exec = Jvm.exec) (hby : c.code = bs) (hret : meth.sig.returnType = some t) (hlk : meth.locks = false) (ht : t = .boolean ∨ t = .byte ∨ t = .char ∨ t = .short) (hd : decode bs pc = .ok (.ireturn, 1)) (hc : cells ≤ kc) (hs : slots ≤ ks) (hn : nar t z = z') (hQ : Q (some (.int z')) T.heap locs) : Go p e below (FinQ s Q kc ks) T (mkF m pc Ls (.int z :: st)) := by
  subst hn
  refine own_leave X (fun q => by rw [hret] at q; cases q) hlk hc hs hQ fun fs hr => ?_
  exact retN X hx hret ht (hb hby hd) hr
theorem own_retJ {Q : Option Value → Heap → List Loc → Prop} {kc ks : Nat} {z : Int64} (X : Stand p l e R s m args below meth c T locs cells slots) (hx : p.tables.exec = Jvm.exec) (hby : c.code = bs) (hret : meth.sig.returnType = some .long) (hlk : meth.locks = false) (hd : decode bs pc = .ok (.lreturn, 1)) (hc : cells ≤ kc) (hs : slots ≤ ks) (hQ : Q (some (.long z)) T.heap locs) : Go p e below (FinQ s Q kc ks) T (mkF m pc Ls (.long z :: st)) := by
  refine own_leave X (fun q => by rw [hret] at q; cases q) hlk hc hs hQ fun fs hr => ?_
  exact retOut X hx hret rfl (Or.inr (Or.inl ⟨rfl, rfl, z, rfl⟩)) (hb hby hd) hr
theorem own_retA {Q : Option Value → Heap → List Loc → Prop} {kc ks : Nat} {w : Value} {t : FieldType} (X : Stand p l e R s m args below meth c T locs cells slots) (hx : p.tables.exec = Jvm.exec) (hby : c.code = bs) (hret : meth.sig.returnType = some t) (hlk : meth.locks = false) (ht : t.isReference = true) (hw : w.isRef = true) (hn : narrow t w = w) (hd : decode bs pc = .ok (.areturn, 1)) (hc : cells ≤ kc) (hs : slots ≤ ks) (hQ : Q (some w) T.heap locs) : Go p e below (FinQ s Q kc ks) T (mkF m pc Ls (w :: st)) := by
  refine own_leave X (fun q => by rw [hret] at q; cases q) hlk hc hs hQ fun fs hr => ?_
  exact retOut X hx hret hn (Or.inr (Or.inr (Or.inr (Or.inr ⟨rfl, ht, hw⟩)))) (hb hby hd) hr
theorem own_ret {Q : Option Value → Heap → List Loc → Prop} {kc ks : Nat} (X : Stand p l e R s m args below meth c T locs cells slots) (hx : p.tables.exec = Jvm.exec) (hby : c.code = bs) (hret : meth.sig.returnType = none) (hlk : meth.locks = false) (hd : decode bs pc = .ok (.return_, 1)) (hc : cells ≤ kc) (hs : slots ≤ ks) (hQ : Q none T.heap locs) : Go p e below (FinQ s Q kc ks) T (mkF m pc Ls []) := by
  refine own_leave X (fun _ => rfl) hlk hc hs hQ fun fs hr => ?_
  exact X.returnOut hx hret (hb hby hd) hr
theorem own_iload (X : Stand p l e R s m args below meth c T locs cells slots) (hx : p.tables.exec = Jvm.exec) (hby : c.code = bs) {n : Nat} (v : Int32) (hd : decode bs pc = .ok (.iload n, 2)) (hl : Ls[n]? = some (.val (.int v))) (pc' : Nat) (hp : pc + 2 = pc') (k : Go p e below G T (mkF m pc' Ls (.int v :: st))) : Go p e below G T (mkF m pc Ls st) := by
  subst hp
  exact Go.by (fun t q => XS.iload X.here hx rfl (hb hby hd) hl q) k
theorem own_iloadN (X : Stand p l e R s m args below meth c T locs cells slots) (hx : p.tables.exec = Jvm.exec) (hby : c.code = bs) {n : Fin 4} (v : Int32) (hd : decode bs pc = .ok (.iload_n n, 1)) (hl : Ls[n.val]? = some (.val (.int v))) (pc' : Nat) (hp : pc + 1 = pc') (k : Go p e below G T (mkF m pc' Ls (.int v :: st))) : Go p e below G T (mkF m pc Ls st) := by
  subst hp
  exact Go.by (fun t q => XS.iloadN X.here hx rfl (hb hby hd) hl q) k
theorem own_istore (X : Stand p l e R s m args below meth c T locs cells slots) (hx : p.tables.exec = Jvm.exec) (hby : c.code = bs) {n : Nat} {x x' : Int32} (hd : decode bs pc = .ok (.istore n, 2)) (ex : x = x') {l' : Array Slot} (hl : storeLocals Ls n (.int x') = some l') (pc' : Nat) (hp : pc + 2 = pc') (k : Go p e below G T (mkF m pc' l' st)) : Go p e below G T (mkF m pc Ls (.int x :: st)) := by
  subst hp
  subst ex
  exact Go.by (fun t q => XS.istore X.here hx rfl (hb hby hd) rfl hl q) k
theorem own_istoreN (X : Stand p l e R s m args below meth c T locs cells slots) (hx : p.tables.exec = Jvm.exec) (hby : c.code = bs) {n : Fin 4} {x x' : Int32} (hd : decode bs pc = .ok (.istore_n n, 1)) (ex : x = x') {l' : Array Slot} (hl : storeLocals Ls n.val (.int x') = some l') (pc' : Nat) (hp : pc + 1 = pc') (k : Go p e below G T (mkF m pc' l' st)) : Go p e below G T (mkF m pc Ls (.int x :: st)) := by
  subst hp
  subst ex
  exact Go.by (fun t q => XS.istoreN X.here hx rfl (hb hby hd) rfl hl q) k
theorem own_lload (X : Stand p l e R s m args below meth c T locs cells slots) (hx : p.tables.exec = Jvm.exec) (hby : c.code = bs) {n : Nat} (v : Int64) (hd : decode bs pc = .ok (.lload n, 2)) (hl : Ls[n]? = some (.val (.long v))) (pc' : Nat) (hp : pc + 2 = pc') (k : Go p e below G T (mkF m pc' Ls (.long v :: st))) : Go p e below G T (mkF m pc Ls st) := by
  subst hp
  exact Go.by (fun t q => XS.lload X.here hx rfl (hb hby hd) hl q) k
theorem own_lloadN (X : Stand p l e R s m args below meth c T locs cells slots) (hx : p.tables.exec = Jvm.exec) (hby : c.code = bs) {n : Fin 4} (v : Int64) (hd : decode bs pc = .ok (.lload_n n, 1)) (hl : Ls[n.val]? = some (.val (.long v))) (pc' : Nat) (hp : pc + 1 = pc') (k : Go p e below G T (mkF m pc' Ls (.long v :: st))) : Go p e below G T (mkF m pc Ls st) := by
  subst hp
  exact Go.by (fun t q => XS.lloadN X.here hx rfl (hb hby hd) hl q) k
theorem own_lstore (X : Stand p l e R s m args below meth c T locs cells slots) (hx : p.tables.exec = Jvm.exec) (hby : c.code = bs) {n : Nat} {x x' : Int64} (hd : decode bs pc = .ok (.lstore n, 2)) (ex : x = x') {l' : Array Slot} (hl : storeLocals Ls n (.long x') = some l') (pc' : Nat) (hp : pc + 2 = pc') (k : Go p e below G T (mkF m pc' l' st)) : Go p e below G T (mkF m pc Ls (.long x :: st)) := by
  subst hp
  subst ex
  exact Go.by (fun t q => XS.lstore X.here hx rfl (hb hby hd) rfl hl q) k
theorem own_lstoreN (X : Stand p l e R s m args below meth c T locs cells slots) (hx : p.tables.exec = Jvm.exec) (hby : c.code = bs) {n : Fin 4} {x x' : Int64} (hd : decode bs pc = .ok (.lstore_n n, 1)) (ex : x = x') {l' : Array Slot} (hl : storeLocals Ls n.val (.long x') = some l') (pc' : Nat) (hp : pc + 1 = pc') (k : Go p e below G T (mkF m pc' l' st)) : Go p e below G T (mkF m pc Ls (.long x :: st)) := by
  subst hp
  subst ex
  exact Go.by (fun t q => XS.lstoreN X.here hx rfl (hb hby hd) rfl hl q) k
theorem own_aload (X : Stand p l e R s m args below meth c T locs cells slots) (hx : p.tables.exec = Jvm.exec) (hby : c.code = bs) {n : Nat} (v : Value) (hd : decode bs pc = .ok (.aload n, 2)) (hl : Ls[n]? = some (.val v)) (hv : v.isRef = true) (pc' : Nat) (hp : pc + 2 = pc') (k : Go p e below G T (mkF m pc' Ls (v :: st))) : Go p e below G T (mkF m pc Ls st) := by
  subst hp
  exact Go.by (fun t q => XS.aload X.here hx rfl (hb hby hd) hl hv q) k
theorem own_aloadN (X : Stand p l e R s m args below meth c T locs cells slots) (hx : p.tables.exec = Jvm.exec) (hby : c.code = bs) {n : Fin 4} (v : Value) (hd : decode bs pc = .ok (.aload_n n, 1)) (hl : Ls[n.val]? = some (.val v)) (hv : v.isRef = true) (pc' : Nat) (hp : pc + 1 = pc') (k : Go p e below G T (mkF m pc' Ls (v :: st))) : Go p e below G T (mkF m pc Ls st) := by
  subst hp
  exact Go.by (fun t q => XS.aloadN X.here hx rfl (hb hby hd) hl hv q) k
theorem own_astore (X : Stand p l e R s m args below meth c T locs cells slots) (hx : p.tables.exec = Jvm.exec) (hby : c.code = bs) {n : Nat} {x : Value} (hd : decode bs pc = .ok (.astore n, 2)) (hv : x.isRef = true) {l' : Array Slot} (hl : storeLocals Ls n x = some l') (pc' : Nat) (hp : pc + 2 = pc') (k : Go p e below G T (mkF m pc' l' st)) : Go p e below G T (mkF m pc Ls (x :: st)) := by
  subst hp
  exact Go.by (fun t q => XS.astore X.here hx rfl (hb hby hd) rfl hv hl q) k
theorem own_astoreN (X : Stand p l e R s m args below meth c T locs cells slots) (hx : p.tables.exec = Jvm.exec) (hby : c.code = bs) {n : Fin 4} {x : Value} (hd : decode bs pc = .ok (.astore_n n, 1)) (hv : x.isRef = true) {l' : Array Slot} (hl : storeLocals Ls n.val x = some l') (pc' : Nat) (hp : pc + 1 = pc') (k : Go p e below G T (mkF m pc' l' st)) : Go p e below G T (mkF m pc Ls (x :: st)) := by
  subst hp
  exact Go.by (fun t q => XS.astoreN X.here hx rfl (hb hby hd) rfl hv hl q) k
theorem own_iconst (X : Stand p l e R s m args below meth c T locs cells slots) (hx : p.tables.exec = Jvm.exec) (hby : c.code = bs) {i : Int} (v : Int32) (hd : decode bs pc = .ok (.iconst i, 1)) (hv : Int32.ofInt i = v) (pc' : Nat) (hp : pc + 1 = pc') (k : Go p e below G T (mkF m pc' Ls (.int v :: st))) : Go p e below G T (mkF m pc Ls st) := by
  subst hp
  subst hv
  exact Go.by (fun t q => XS.iconst X.here hx rfl (hb hby hd) q) k
theorem own_bipush (X : Stand p l e R s m args below meth c T locs cells slots) (hx : p.tables.exec = Jvm.exec) (hby : c.code = bs) {i : Int} (v : Int32) (hd : decode bs pc = .ok (.bipush i, 2)) (hv : (Int8.ofInt i).toInt32 = v) (pc' : Nat) (hp : pc + 2 = pc') (k : Go p e below G T (mkF m pc' Ls (.int v :: st))) : Go p e below G T (mkF m pc Ls st) := by
  subst hp
  subst hv
  exact Go.by (fun t q => XS.bipush X.here hx rfl (hb hby hd) q) k
theorem own_sipush (X : Stand p l e R s m args below meth c T locs cells slots) (hx : p.tables.exec = Jvm.exec) (hby : c.code = bs) {i : Int} (v : Int32) (hd : decode bs pc = .ok (.sipush i, 3)) (hv : (Int16.ofInt i).toInt32 = v) (pc' : Nat) (hp : pc + 3 = pc') (k : Go p e below G T (mkF m pc' Ls (.int v :: st))) : Go p e below G T (mkF m pc Ls st) := by
  subst hp
  subst hv
  exact Go.by (fun t q => XS.sipush X.here hx rfl (hb hby hd) q) k
theorem own_lconst (X : Stand p l e R s m args below meth c T locs cells slots) (hx : p.tables.exec = Jvm.exec) (hby : c.code = bs) {i : Fin 2} (v : Int64) (hd : decode bs pc = .ok (.lconst i, 1)) (hv : Int64.ofNat i = v) (pc' : Nat) (hp : pc + 1 = pc') (k : Go p e below G T (mkF m pc' Ls (.long v :: st))) : Go p e below G T (mkF m pc Ls st) := by
  subst hp
  subst hv
  exact Go.by (fun t q => XS.lconst X.here hx rfl (hb hby hd) q) k
theorem own_aconstNull (X : Stand p l e R s m args below meth c T locs cells slots) (hx : p.tables.exec = Jvm.exec) (hby : c.code = bs)  (hd : decode bs pc = .ok (.aconst_null, 1))  (pc' : Nat) (hp : pc + 1 = pc') (k : Go p e below G T (mkF m pc' Ls (.null :: st))) : Go p e below G T (mkF m pc Ls st) := by
  subst hp
  exact Go.by (fun t q => XS.aconstNull X.here hx rfl (hb hby hd) q) k
theorem own_iadd (X : Stand p l e R s m args below meth c T locs cells slots) (hx : p.tables.exec = Jvm.exec) (hby : c.code = bs) {x y : Int32} (hd : decode bs pc = .ok (.iadd, 1))  (pc' : Nat) (hp : pc + 1 = pc') (k : Go p e below G T (mkF m pc' Ls (.int (x + y) :: st))) : Go p e below G T (mkF m pc Ls (.int y :: .int x :: st)) := by
  subst hp
  exact Go.by (fun t q => XS.iadd X.here hx rfl (hb hby hd) rfl q) k
theorem own_isub (X : Stand p l e R s m args below meth c T locs cells slots) (hx : p.tables.exec = Jvm.exec) (hby : c.code = bs) {x y : Int32} (hd : decode bs pc = .ok (.isub, 1))  (pc' : Nat) (hp : pc + 1 = pc') (k : Go p e below G T (mkF m pc' Ls (.int (x - y) :: st))) : Go p e below G T (mkF m pc Ls (.int y :: .int x :: st)) := by
  subst hp
  exact Go.by (fun t q => XS.isub X.here hx rfl (hb hby hd) rfl q) k
theorem own_imul (X : Stand p l e R s m args below meth c T locs cells slots) (hx : p.tables.exec = Jvm.exec) (hby : c.code = bs) {x y : Int32} (hd : decode bs pc = .ok (.imul, 1))  (pc' : Nat) (hp : pc + 1 = pc') (k : Go p e below G T (mkF m pc' Ls (.int (x * y) :: st))) : Go p e below G T (mkF m pc Ls (.int y :: .int x :: st)) := by
  subst hp
  exact Go.by (fun t q => XS.imul X.here hx rfl (hb hby hd) rfl q) k
theorem own_iand (X : Stand p l e R s m args below meth c T locs cells slots) (hx : p.tables.exec = Jvm.exec) (hby : c.code = bs) {x y : Int32} (hd : decode bs pc = .ok (.iand, 1))  (pc' : Nat) (hp : pc + 1 = pc') (k : Go p e below G T (mkF m pc' Ls (.int (x &&& y) :: st))) : Go p e below G T (mkF m pc Ls (.int y :: .int x :: st)) := by
  subst hp
  exact Go.by (fun t q => XS.iand X.here hx rfl (hb hby hd) rfl q) k
theorem own_ior (X : Stand p l e R s m args below meth c T locs cells slots) (hx : p.tables.exec = Jvm.exec) (hby : c.code = bs) {x y : Int32} (hd : decode bs pc = .ok (.ior, 1))  (pc' : Nat) (hp : pc + 1 = pc') (k : Go p e below G T (mkF m pc' Ls (.int (x ||| y) :: st))) : Go p e below G T (mkF m pc Ls (.int y :: .int x :: st)) := by
  subst hp
  exact Go.by (fun t q => XS.ior X.here hx rfl (hb hby hd) rfl q) k
theorem own_ixor (X : Stand p l e R s m args below meth c T locs cells slots) (hx : p.tables.exec = Jvm.exec) (hby : c.code = bs) {x y : Int32} (hd : decode bs pc = .ok (.ixor, 1))  (pc' : Nat) (hp : pc + 1 = pc') (k : Go p e below G T (mkF m pc' Ls (.int (x ^^^ y) :: st))) : Go p e below G T (mkF m pc Ls (.int y :: .int x :: st)) := by
  subst hp
  exact Go.by (fun t q => XS.ixor X.here hx rfl (hb hby hd) rfl q) k
theorem own_ishl (X : Stand p l e R s m args below meth c T locs cells slots) (hx : p.tables.exec = Jvm.exec) (hby : c.code = bs) {x y : Int32} (hd : decode bs pc = .ok (.ishl, 1))  (pc' : Nat) (hp : pc + 1 = pc') (k : Go p e below G T (mkF m pc' Ls (.int (x <<< (y &&& 31)) :: st))) : Go p e below G T (mkF m pc Ls (.int y :: .int x :: st)) := by
  subst hp
  exact Go.by (fun t q => XS.ishl X.here hx rfl (hb hby hd) rfl q) k
theorem own_ishr (X : Stand p l e R s m args below meth c T locs cells slots) (hx : p.tables.exec = Jvm.exec) (hby : c.code = bs) {x y : Int32} (hd : decode bs pc = .ok (.ishr, 1))  (pc' : Nat) (hp : pc + 1 = pc') (k : Go p e below G T (mkF m pc' Ls (.int (x >>> (y &&& 31)) :: st))) : Go p e below G T (mkF m pc Ls (.int y :: .int x :: st)) := by
  subst hp
  exact Go.by (fun t q => XS.ishr X.here hx rfl (hb hby hd) rfl q) k
theorem own_iushr (X : Stand p l e R s m args below meth c T locs cells slots) (hx : p.tables.exec = Jvm.exec) (hby : c.code = bs) {x y : Int32} (hd : decode bs pc = .ok (.iushr, 1))  (pc' : Nat) (hp : pc + 1 = pc') (k : Go p e below G T (mkF m pc' Ls (.int ((x.toUInt32 >>> (y &&& 31).toUInt32).toInt32) :: st))) : Go p e below G T (mkF m pc Ls (.int y :: .int x :: st)) := by
  subst hp
  exact Go.by (fun t q => XS.iushr X.here hx rfl (hb hby hd) rfl q) k
theorem own_ladd (X : Stand p l e R s m args below meth c T locs cells slots) (hx : p.tables.exec = Jvm.exec) (hby : c.code = bs) {x y : Int64} (hd : decode bs pc = .ok (.ladd, 1))  (pc' : Nat) (hp : pc + 1 = pc') (k : Go p e below G T (mkF m pc' Ls (.long (x + y) :: st))) : Go p e below G T (mkF m pc Ls (.long y :: .long x :: st)) := by
  subst hp
  exact Go.by (fun t q => XS.ladd X.here hx rfl (hb hby hd) rfl q) k
theorem own_lsub (X : Stand p l e R s m args below meth c T locs cells slots) (hx : p.tables.exec = Jvm.exec) (hby : c.code = bs) {x y : Int64} (hd : decode bs pc = .ok (.lsub, 1))  (pc' : Nat) (hp : pc + 1 = pc') (k : Go p e below G T (mkF m pc' Ls (.long (x - y) :: st))) : Go p e below G T (mkF m pc Ls (.long y :: .long x :: st)) := by
  subst hp
  exact Go.by (fun t q => XS.lsub X.here hx rfl (hb hby hd) rfl q) k
theorem own_lmul (X : Stand p l e R s m args below meth c T locs cells slots) (hx : p.tables.exec = Jvm.exec) (hby : c.code = bs) {x y : Int64} (hd : decode bs pc = .ok (.lmul, 1))  (pc' : Nat) (hp : pc + 1 = pc') (k : Go p e below G T (mkF m pc' Ls (.long (x * y) :: st))) : Go p e below G T (mkF m pc Ls (.long y :: .long x :: st)) := by
  subst hp
  exact Go.by (fun t q => XS.lmul X.here hx rfl (hb hby hd) rfl q) k
theorem own_land (X : Stand p l e R s m args below meth c T locs cells slots) (hx : p.tables.exec = Jvm.exec) (hby : c.code = bs) {x y : Int64} (hd : decode bs pc = .ok (.land, 1))  (pc' : Nat) (hp : pc + 1 = pc') (k : Go p e below G T (mkF m pc' Ls (.long (x &&& y) :: st))) : Go p e below G T (mkF m pc Ls (.long y :: .long x :: st)) := by
  subst hp
  exact Go.by (fun t q => XS.land X.here hx rfl (hb hby hd) rfl q) k
theorem own_lor (X : Stand p l e R s m args below meth c T locs cells slots) (hx : p.tables.exec = Jvm.exec) (hby : c.code = bs) {x y : Int64} (hd : decode bs pc = .ok (.lor, 1))  (pc' : Nat) (hp : pc + 1 = pc') (k : Go p e below G T (mkF m pc' Ls (.long (x ||| y) :: st))) : Go p e below G T (mkF m pc Ls (.long y :: .long x :: st)) := by
  subst hp
  exact Go.by (fun t q => XS.lor X.here hx rfl (hb hby hd) rfl q) k
theorem own_lxor (X : Stand p l e R s m args below meth c T locs cells slots) (hx : p.tables.exec = Jvm.exec) (hby : c.code = bs) {x y : Int64} (hd : decode bs pc = .ok (.lxor, 1))  (pc' : Nat) (hp : pc + 1 = pc') (k : Go p e below G T (mkF m pc' Ls (.long (x ^^^ y) :: st))) : Go p e below G T (mkF m pc Ls (.long y :: .long x :: st)) := by
  subst hp
  exact Go.by (fun t q => XS.lxor X.here hx rfl (hb hby hd) rfl q) k
theorem own_lshl (X : Stand p l e R s m args below meth c T locs cells slots) (hx : p.tables.exec = Jvm.exec) (hby : c.code = bs) {x : Int64} {y : Int32} (hd : decode bs pc = .ok (.lshl, 1))  (pc' : Nat) (hp : pc + 1 = pc') (k : Go p e below G T (mkF m pc' Ls (.long (x <<< (y &&& 0x3f).toInt64) :: st))) : Go p e below G T (mkF m pc Ls (.int y :: .long x :: st)) := by
  subst hp
  exact Go.by (fun t q => XS.lshl X.here hx rfl (hb hby hd) rfl q) k
theorem own_lshr (X : Stand p l e R s m args below meth c T locs cells slots) (hx : p.tables.exec = Jvm.exec) (hby : c.code = bs) {x : Int64} {y : Int32} (hd : decode bs pc = .ok (.lshr, 1))  (pc' : Nat) (hp : pc + 1 = pc') (k : Go p e below G T (mkF m pc' Ls (.long (x >>> (y &&& 0x3f).toInt64) :: st))) : Go p e below G T (mkF m pc Ls (.int y :: .long x :: st)) := by
  subst hp
  exact Go.by (fun t q => XS.lshr X.here hx rfl (hb hby hd) rfl q) k
theorem own_lushr (X : Stand p l e R s m args below meth c T locs cells slots) (hx : p.tables.exec = Jvm.exec) (hby : c.code = bs) {x : Int64} {y : Int32} (hd : decode bs pc = .ok (.lushr, 1))  (pc' : Nat) (hp : pc + 1 = pc') (k : Go p e below G T (mkF m pc' Ls (.long ((x.toUInt64 >>> (y &&& 0x3f).toInt64.toUInt64).toInt64) :: st))) : Go p e below G T (mkF m pc Ls (.int y :: .long x :: st)) := by
  subst hp
  exact Go.by (fun t q => XS.lushr X.here hx rfl (hb hby hd) rfl q) k
theorem own_ineg (X : Stand p l e R s m args below meth c T locs cells slots) (hx : p.tables.exec = Jvm.exec) (hby : c.code = bs) {x : Int32} (hd : decode bs pc = .ok (.ineg, 1))  (pc' : Nat) (hp : pc + 1 = pc') (k : Go p e below G T (mkF m pc' Ls (.int (-x) :: st))) : Go p e below G T (mkF m pc Ls (.int x :: st)) := by
  subst hp
  exact Go.by (fun t q => XS.ineg X.here hx rfl (hb hby hd) rfl q) k
theorem own_lneg (X : Stand p l e R s m args below meth c T locs cells slots) (hx : p.tables.exec = Jvm.exec) (hby : c.code = bs) {x : Int64} (hd : decode bs pc = .ok (.lneg, 1))  (pc' : Nat) (hp : pc + 1 = pc') (k : Go p e below G T (mkF m pc' Ls (.long (-x) :: st))) : Go p e below G T (mkF m pc Ls (.long x :: st)) := by
  subst hp
  exact Go.by (fun t q => XS.lneg X.here hx rfl (hb hby hd) rfl q) k
theorem own_i2l (X : Stand p l e R s m args below meth c T locs cells slots) (hx : p.tables.exec = Jvm.exec) (hby : c.code = bs) {x : Int32} (hd : decode bs pc = .ok (.i2l, 1))  (pc' : Nat) (hp : pc + 1 = pc') (k : Go p e below G T (mkF m pc' Ls (.long (x.toInt64) :: st))) : Go p e below G T (mkF m pc Ls (.int x :: st)) := by
  subst hp
  exact Go.by (fun t q => XS.i2l X.here hx rfl (hb hby hd) rfl q) k
theorem own_l2i (X : Stand p l e R s m args below meth c T locs cells slots) (hx : p.tables.exec = Jvm.exec) (hby : c.code = bs) {x : Int64} (hd : decode bs pc = .ok (.l2i, 1))  (pc' : Nat) (hp : pc + 1 = pc') (k : Go p e below G T (mkF m pc' Ls (.int (x.toInt32) :: st))) : Go p e below G T (mkF m pc Ls (.long x :: st)) := by
  subst hp
  exact Go.by (fun t q => XS.l2i X.here hx rfl (hb hby hd) rfl q) k
theorem own_i2b (X : Stand p l e R s m args below meth c T locs cells slots) (hx : p.tables.exec = Jvm.exec) (hby : c.code = bs) {x : Int32} (hd : decode bs pc = .ok (.i2b, 1))  (pc' : Nat) (hp : pc + 1 = pc') (k : Go p e below G T (mkF m pc' Ls (.int (x.toInt8.toInt32) :: st))) : Go p e below G T (mkF m pc Ls (.int x :: st)) := by
  subst hp
  exact Go.by (fun t q => XS.i2b X.here hx rfl (hb hby hd) rfl q) k
theorem own_i2s (X : Stand p l e R s m args below meth c T locs cells slots) (hx : p.tables.exec = Jvm.exec) (hby : c.code = bs) {x : Int32} (hd : decode bs pc = .ok (.i2s, 1))  (pc' : Nat) (hp : pc + 1 = pc') (k : Go p e below G T (mkF m pc' Ls (.int (x.toInt16.toInt32) :: st))) : Go p e below G T (mkF m pc Ls (.int x :: st)) := by
  subst hp
  exact Go.by (fun t q => XS.i2s X.here hx rfl (hb hby hd) rfl q) k
theorem own_i2c (X : Stand p l e R s m args below meth c T locs cells slots) (hx : p.tables.exec = Jvm.exec) (hby : c.code = bs) {x : Int32} (hd : decode bs pc = .ok (.i2c, 1))  (pc' : Nat) (hp : pc + 1 = pc') (k : Go p e below G T (mkF m pc' Ls (.int (x.toUInt32.toUInt16.toUInt32.toInt32) :: st))) : Go p e below G T (mkF m pc Ls (.int x :: st)) := by
  subst hp
  exact Go.by (fun t q => XS.i2c X.here hx rfl (hb hby hd) rfl q) k
theorem own_idiv (X : Stand p l e R s m args below meth c T locs cells slots) (hx : p.tables.exec = Jvm.exec) (hby : c.code = bs) {x y : Int32} (hd : decode bs pc = .ok (.idiv, 1)) (hy : y ≠ 0) (pc' : Nat) (hp : pc + 1 = pc') (k : Go p e below G T (mkF m pc' Ls (.int (x / y) :: st))) : Go p e below G T (mkF m pc Ls (.int y :: .int x :: st)) := by
  subst hp
  exact Go.by (fun t q => XS.idiv X.here hx rfl (hb hby hd) rfl hy q) k
theorem own_ldiv (X : Stand p l e R s m args below meth c T locs cells slots) (hx : p.tables.exec = Jvm.exec) (hby : c.code = bs) {x y : Int64} (hd : decode bs pc = .ok (.ldiv, 1)) (hy : y ≠ 0) (pc' : Nat) (hp : pc + 1 = pc') (k : Go p e below G T (mkF m pc' Ls (.long (x / y) :: st))) : Go p e below G T (mkF m pc Ls (.long y :: .long x :: st)) := by
  subst hp
  exact Go.by (fun t q => XS.ldiv X.here hx rfl (hb hby hd) rfl hy q) k
theorem own_irem (X : Stand p l e R s m args below meth c T locs cells slots) (hx : p.tables.exec = Jvm.exec) (hby : c.code = bs) {x y : Int32} (hd : decode bs pc = .ok (.irem, 1)) (hy : y ≠ 0) (pc' : Nat) (hp : pc + 1 = pc') (k : Go p e below G T (mkF m pc' Ls (.int (x % y) :: st))) : Go p e below G T (mkF m pc Ls (.int y :: .int x :: st)) := by
  subst hp
  exact Go.by (fun t q => iremM X hx rfl (hb hby hd) rfl hy q) k
theorem own_lrem (X : Stand p l e R s m args below meth c T locs cells slots) (hx : p.tables.exec = Jvm.exec) (hby : c.code = bs) {x y : Int64} (hd : decode bs pc = .ok (.lrem, 1)) (hy : y ≠ 0) (pc' : Nat) (hp : pc + 1 = pc') (k : Go p e below G T (mkF m pc' Ls (.long (x % y) :: st))) : Go p e below G T (mkF m pc Ls (.long y :: .long x :: st)) := by
  subst hp
  rw [← lrem_mod] at k
  exact Go.by (fun t q => XS.lrem X.here hx rfl (hb hby hd) rfl hy q) k
theorem own_iinc (X : Stand p l e R s m args below meth c T locs cells slots) (hx : p.tables.exec = Jvm.exec) (hby : c.code = bs) {n : Nat} {cst : Int} {x x' : Int32} (hd : decode bs pc = .ok (.iinc n cst, 3)) (hl : Ls[n]? = some (.val (.int x))) (ex : x + Int32.ofInt cst = x') {l' : Array Slot} (hl' : storeLocals Ls n (.int x') = some l') (pc' : Nat) (hp : pc + 3 = pc') (k : Go p e below G T (mkF m pc' l' st)) : Go p e below G T (mkF m pc Ls st) := by
  subst hp
  subst ex
  exact Go.by (fun t q => XS.iinc X.here hx rfl (hb hby hd) hl hl' q) k
theorem own_dup (X : Stand p l e R s m args below meth c T locs cells slots) (hx : p.tables.exec = Jvm.exec) (hby : c.code = bs) {x : Value} (hd : decode bs pc = .ok (.dup, 1)) (hc : x.category = 1) (pc' : Nat) (hp : pc + 1 = pc') (k : Go p e below G T (mkF m pc' Ls (x :: x :: st))) : Go p e below G T (mkF m pc Ls (x :: st)) := by
  subst hp
  exact Go.by (fun t q => XS.dup X.here hx rfl (hb hby hd) rfl hc q) k
theorem own_pop (X : Stand p l e R s m args below meth c T locs cells slots) (hx : p.tables.exec = Jvm.exec) (hby : c.code = bs) {x : Value} (hd : decode bs pc = .ok (.pop, 1)) (hc : x.category = 1) (pc' : Nat) (hp : pc + 1 = pc') (k : Go p e below G T (mkF m pc' Ls st)) : Go p e below G T (mkF m pc Ls (x :: st)) := by
  subst hp
  exact Go.by (fun t q => XS.pop X.here hx rfl (hb hby hd) rfl hc q) k
theorem own_dupX1 (X : Stand p l e R s m args below meth c T locs cells slots) (hx : p.tables.exec = Jvm.exec) (hby : c.code = bs) {x y : Value} (hd : decode bs pc = .ok (.dup_x1, 1)) (hc : x.category = 1) (hc2 : y.category = 1) (pc' : Nat) (hp : pc + 1 = pc') (k : Go p e below G T (mkF m pc' Ls (x :: y :: x :: st))) : Go p e below G T (mkF m pc Ls (x :: y :: st)) := by
  subst hp
  exact Go.by (fun t q => XS.dupX1 X.here hx rfl (hb hby hd) rfl hc hc2 q) k
theorem own_dup2 (X : Stand p l e R s m args below meth c T locs cells slots) (hx : p.tables.exec = Jvm.exec) (hby : c.code = bs) {x y : Value} (hd : decode bs pc = .ok (.dup2, 1)) (hc : x.category = 1) (hc2 : y.category = 1) (pc' : Nat) (hp : pc + 1 = pc') (k : Go p e below G T (mkF m pc' Ls (x :: y :: x :: y :: st))) : Go p e below G T (mkF m pc Ls (x :: y :: st)) := by
  subst hp
  exact Go.by (fun t q => XT.dup2 X.here hx rfl (hb hby hd) rfl hc hc2 q) k
theorem own_dup2L (X : Stand p l e R s m args below meth c T locs cells slots) (hx : p.tables.exec = Jvm.exec) (hby : c.code = bs) {x : Int64} (hd : decode bs pc = .ok (.dup2, 1))  (pc' : Nat) (hp : pc + 1 = pc') (k : Go p e below G T (mkF m pc' Ls (.long x :: .long x :: st))) : Go p e below G T (mkF m pc Ls (.long x :: st)) := by
  subst hp
  exact Go.by (fun t q => XT.dup2L X.here hx rfl (hb hby hd) rfl q) k
theorem own_goto (X : Stand p l e R s m args below meth c T locs cells slots) (hx : p.tables.exec = Jvm.exec) (hby : c.code = bs) {o : Int} (hd : decode bs pc = .ok (.goto o, 3)) (pc' : Nat) (hp : 0 ≤ (pc : Int) + o ∧ ((pc : Int) + o).toNat = pc') (k : Go p e below G T (mkF m pc' Ls st)) : Go p e below G T (mkF m pc Ls st) :=
  Go.by (fun t q => XS.goto X.here hx rfl rfl (hb hby hd) hp.1 hp.2 q) k
theorem own_top {v v' : Value} (q : v = v') (k : Go p e below G T (mkF m pc Ls (v' :: st))) : Go p e below G T (mkF m pc Ls (v :: st)) := q ▸ k
theorem own_icmp_eq (X : Stand p l e R s m args below meth c T locs cells slots) (hx : p.tables.exec = Jvm.exec) (hby : c.code = bs) {o : Int} {x y : Int32} (hd : decode bs pc = .ok (.if_icmp .eq o, 3)) (pT pF : Nat) (hp : 0 ≤ (pc : Int) + o ∧ ((pc : Int) + o).toNat = pT) (hpF : pc + 3 = pF) (kT : x = y → Go p e below G T (mkF m pT Ls st)) (kF : ¬ x = y → Go p e below G T (mkF m pF Ls st)) : Go p e below G T (mkF m pc Ls (.int y :: .int x :: st)) := by
  subst hpF
  by_cases q0 : x = y
  · have q := q0
    exact Go.by (fun t r => XS.icmpYes X.here hx rfl rfl (hb hby hd) rfl (teq q).1 hp.1 hp.2 r) (kT q0)
  · have q : ¬ x = y := by first | exact q0 | exact Classical.not_not.mp q0
    exact Go.by (fun t r => XS.icmpNo X.here hx rfl (hb hby hd) rfl (feq q).1 r) (kF q)
theorem own_if_eq (X : Stand p l e R s m args below meth c T locs cells slots) (hx : p.tables.exec = Jvm.exec) (hby : c.code = bs) {o : Int} {x : Int32} (hd : decode bs pc = .ok (.ifCond .eq o, 3)) (pT pF : Nat) (hp : 0 ≤ (pc : Int) + o ∧ ((pc : Int) + o).toNat = pT) (hpF : pc + 3 = pF) (kT : x = (0 : Int32) → Go p e below G T (mkF m pT Ls st)) (kF : ¬ x = (0 : Int32) → Go p e below G T (mkF m pF Ls st)) : Go p e below G T (mkF m pc Ls (.int x :: st)) := by
  subst hpF
  by_cases q0 : x = (0 : Int32)
  · have q := q0
    exact Go.by (fun t r => XS.ifYes X.here hx rfl rfl (hb hby hd) rfl ((if0 _ _).trans (teq q).1) hp.1 hp.2 r) (kT q0)
  · have q : ¬ x = (0 : Int32) := by first | exact q0 | exact Classical.not_not.mp q0
    exact Go.by (fun t r => XS.ifNo X.here hx rfl (hb hby hd) rfl ((if0 _ _).trans (feq q).1) r) (kF q)
theorem own_lcmp_eq (X : Stand p l e R s m args below meth c T locs cells slots) (hx : p.tables.exec = Jvm.exec) (hby : c.code = bs) {o : Int} {x y : Int64} (hd : decode bs pc = .ok (.lcmp, 1)) (hd2 : decode bs (pc + 1) = .ok (.ifCond .eq o, 3)) (pT pF : Nat) (hp : 0 ≤ ((pc + 1 : Nat) : Int) + o ∧ (((pc + 1 : Nat) : Int) + o).toNat = pT) (hpF : pc + 4 = pF) (kT : x = y → Go p e below G T (mkF m pT Ls st)) (kF : ¬ x = y → Go p e below G T (mkF m pF Ls st)) : Go p e below G T (mkF m pc Ls (.long y :: .long x :: st)) := by
  refine Go.by (fun t r => XS.lcmp X.here hx rfl (hb hby hd) rfl r) (g' := mkF m (pc + 1) Ls (.int (lcmpW x y) :: st)) ?_
  refine own_if_eq X hx hby hd2 pT pF hp (by omega) (fun q => kT ?_) (fun q => kF ?_)
  · exact (lw_eq x y).mp q
  · exact fun r => q ((lw_eq x y).mpr r)
theorem own_icmp_ne (X : Stand p l e R s m args below meth c T locs cells slots) (hx : p.tables.exec = Jvm.exec) (hby : c.code = bs) {o : Int} {x y : Int32} (hd : decode bs pc = .ok (.if_icmp .ne o, 3)) (pT pF : Nat) (hp : 0 ≤ (pc : Int) + o ∧ ((pc : Int) + o).toNat = pT) (hpF : pc + 3 = pF) (kT : ¬ x = y → Go p e below G T (mkF m pT Ls st)) (kF : x = y → Go p e below G T (mkF m pF Ls st)) : Go p e below G T (mkF m pc Ls (.int y :: .int x :: st)) := by
  subst hpF
  by_cases q0 : ¬ x = y
  · have q := q0
    exact Go.by (fun t r => XS.icmpYes X.here hx rfl rfl (hb hby hd) rfl (feq q).2 hp.1 hp.2 r) (kT q0)
  · have q : x = y := by first | exact q0 | exact Classical.not_not.mp q0
    exact Go.by (fun t r => XS.icmpNo X.here hx rfl (hb hby hd) rfl (teq q).2 r) (kF q)
theorem own_if_ne (X : Stand p l e R s m args below meth c T locs cells slots) (hx : p.tables.exec = Jvm.exec) (hby : c.code = bs) {o : Int} {x : Int32} (hd : decode bs pc = .ok (.ifCond .ne o, 3)) (pT pF : Nat) (hp : 0 ≤ (pc : Int) + o ∧ ((pc : Int) + o).toNat = pT) (hpF : pc + 3 = pF) (kT : ¬ x = (0 : Int32) → Go p e below G T (mkF m pT Ls st)) (kF : x = (0 : Int32) → Go p e below G T (mkF m pF Ls st)) : Go p e below G T (mkF m pc Ls (.int x :: st)) := by
  subst hpF
  by_cases q0 : ¬ x = (0 : Int32)
  · have q := q0
    exact Go.by (fun t r => XS.ifYes X.here hx rfl rfl (hb hby hd) rfl ((if0 _ _).trans (feq q).2) hp.1 hp.2 r) (kT q0)
  · have q : x = (0 : Int32) := by first | exact q0 | exact Classical.not_not.mp q0
    exact Go.by (fun t r => XS.ifNo X.here hx rfl (hb hby hd) rfl ((if0 _ _).trans (teq q).2) r) (kF q)
theorem own_lcmp_ne (X : Stand p l e R s m args below meth c T locs cells slots) (hx : p.tables.exec = Jvm.exec) (hby : c.code = bs) {o : Int} {x y : Int64} (hd : decode bs pc = .ok (.lcmp, 1)) (hd2 : decode bs (pc + 1) = .ok (.ifCond .ne o, 3)) (pT pF : Nat) (hp : 0 ≤ ((pc + 1 : Nat) : Int) + o ∧ (((pc + 1 : Nat) : Int) + o).toNat = pT) (hpF : pc + 4 = pF) (kT : ¬ x = y → Go p e below G T (mkF m pT Ls st)) (kF : x = y → Go p e below G T (mkF m pF Ls st)) : Go p e below G T (mkF m pc Ls (.long y :: .long x :: st)) := by
  refine Go.by (fun t r => XS.lcmp X.here hx rfl (hb hby hd) rfl r) (g' := mkF m (pc + 1) Ls (.int (lcmpW x y) :: st)) ?_
  refine own_if_ne X hx hby hd2 pT pF hp (by omega) (fun q => kT ?_) (fun q => kF ?_)
  · exact fun r => q ((lw_eq x y).mpr r)
  · exact (lw_eq x y).mp q
theorem own_icmp_lt (X : Stand p l e R s m args below meth c T locs cells slots) (hx : p.tables.exec = Jvm.exec) (hby : c.code = bs) {o : Int} {x y : Int32} (hd : decode bs pc = .ok (.if_icmp .lt o, 3)) (pT pF : Nat) (hp : 0 ≤ (pc : Int) + o ∧ ((pc : Int) + o).toNat = pT) (hpF : pc + 3 = pF) (kT : x < y → Go p e below G T (mkF m pT Ls st)) (kF : ¬ x < y → Go p e below G T (mkF m pF Ls st)) : Go p e below G T (mkF m pc Ls (.int y :: .int x :: st)) := by
  subst hpF
  by_cases q0 : x < y
  · have q := q0
    exact Go.by (fun t r => XS.icmpYes X.here hx rfl rfl (hb hby hd) rfl (tlt q).1 hp.1 hp.2 r) (kT q0)
  · have q : ¬ x < y := by first | exact q0 | exact Classical.not_not.mp q0
    exact Go.by (fun t r => XS.icmpNo X.here hx rfl (hb hby hd) rfl (flt q).1 r) (kF q)
theorem own_if_lt (X : Stand p l e R s m args below meth c T locs cells slots) (hx : p.tables.exec = Jvm.exec) (hby : c.code = bs) {o : Int} {x : Int32} (hd : decode bs pc = .ok (.ifCond .lt o, 3)) (pT pF : Nat) (hp : 0 ≤ (pc : Int) + o ∧ ((pc : Int) + o).toNat = pT) (hpF : pc + 3 = pF) (kT : x < (0 : Int32) → Go p e below G T (mkF m pT Ls st)) (kF : ¬ x < (0 : Int32) → Go p e below G T (mkF m pF Ls st)) : Go p e below G T (mkF m pc Ls (.int x :: st)) := by
  subst hpF
  by_cases q0 : x < (0 : Int32)
  · have q := q0
    exact Go.by (fun t r => XS.ifYes X.here hx rfl rfl (hb hby hd) rfl ((if0 _ _).trans (tlt q).1) hp.1 hp.2 r) (kT q0)
  · have q : ¬ x < (0 : Int32) := by first | exact q0 | exact Classical.not_not.mp q0
    exact Go.by (fun t r => XS.ifNo X.here hx rfl (hb hby hd) rfl ((if0 _ _).trans (flt q).1) r) (kF q)
theorem own_lcmp_lt (X : Stand p l e R s m args below meth c T locs cells slots) (hx : p.tables.exec = Jvm.exec) (hby : c.code = bs) {o : Int} {x y : Int64} (hd : decode bs pc = .ok (.lcmp, 1)) (hd2 : decode bs (pc + 1) = .ok (.ifCond .lt o, 3)) (pT pF : Nat) (hp : 0 ≤ ((pc + 1 : Nat) : Int) + o ∧ (((pc + 1 : Nat) : Int) + o).toNat = pT) (hpF : pc + 4 = pF) (kT : x < y → Go p e below G T (mkF m pT Ls st)) (kF : ¬ x < y → Go p e below G T (mkF m pF Ls st)) : Go p e below G T (mkF m pc Ls (.long y :: .long x :: st)) := by
  refine Go.by (fun t r => XS.lcmp X.here hx rfl (hb hby hd) rfl r) (g' := mkF m (pc + 1) Ls (.int (lcmpW x y) :: st)) ?_
  refine own_if_lt X hx hby hd2 pT pF hp (by omega) (fun q => kT ?_) (fun q => kF ?_)
  · exact (lw_lt x y).mp q
  · exact fun r => q ((lw_lt x y).mpr r)
theorem own_icmp_ge (X : Stand p l e R s m args below meth c T locs cells slots) (hx : p.tables.exec = Jvm.exec) (hby : c.code = bs) {o : Int} {x y : Int32} (hd : decode bs pc = .ok (.if_icmp .ge o, 3)) (pT pF : Nat) (hp : 0 ≤ (pc : Int) + o ∧ ((pc : Int) + o).toNat = pT) (hpF : pc + 3 = pF) (kT : ¬ x < y → Go p e below G T (mkF m pT Ls st)) (kF : x < y → Go p e below G T (mkF m pF Ls st)) : Go p e below G T (mkF m pc Ls (.int y :: .int x :: st)) := by
  subst hpF
  by_cases q0 : ¬ x < y
  · have q := q0
    exact Go.by (fun t r => XS.icmpYes X.here hx rfl rfl (hb hby hd) rfl (flt q).2.1 hp.1 hp.2 r) (kT q0)
  · have q : x < y := by first | exact q0 | exact Classical.not_not.mp q0
    exact Go.by (fun t r => XS.icmpNo X.here hx rfl (hb hby hd) rfl (tlt q).2.1 r) (kF q)
theorem own_if_ge (X : Stand p l e R s m args below meth c T locs cells slots) (hx : p.tables.exec = Jvm.exec) (hby : c.code = bs) {o : Int} {x : Int32} (hd : decode bs pc = .ok (.ifCond .ge o, 3)) (pT pF : Nat) (hp : 0 ≤ (pc : Int) + o ∧ ((pc : Int) + o).toNat = pT) (hpF : pc + 3 = pF) (kT : ¬ x < (0 : Int32) → Go p e below G T (mkF m pT Ls st)) (kF : x < (0 : Int32) → Go p e below G T (mkF m pF Ls st)) : Go p e below G T (mkF m pc Ls (.int x :: st)) := by
  subst hpF
  by_cases q0 : ¬ x < (0 : Int32)
  · have q := q0
    exact Go.by (fun t r => XS.ifYes X.here hx rfl rfl (hb hby hd) rfl ((if0 _ _).trans (flt q).2.1) hp.1 hp.2 r) (kT q0)
  · have q : x < (0 : Int32) := by first | exact q0 | exact Classical.not_not.mp q0
    exact Go.by (fun t r => XS.ifNo X.here hx rfl (hb hby hd) rfl ((if0 _ _).trans (tlt q).2.1) r) (kF q)
theorem own_lcmp_ge (X : Stand p l e R s m args below meth c T locs cells slots) (hx : p.tables.exec = Jvm.exec) (hby : c.code = bs) {o : Int} {x y : Int64} (hd : decode bs pc = .ok (.lcmp, 1)) (hd2 : decode bs (pc + 1) = .ok (.ifCond .ge o, 3)) (pT pF : Nat) (hp : 0 ≤ ((pc + 1 : Nat) : Int) + o ∧ (((pc + 1 : Nat) : Int) + o).toNat = pT) (hpF : pc + 4 = pF) (kT : ¬ x < y → Go p e below G T (mkF m pT Ls st)) (kF : x < y → Go p e below G T (mkF m pF Ls st)) : Go p e below G T (mkF m pc Ls (.long y :: .long x :: st)) := by
  refine Go.by (fun t r => XS.lcmp X.here hx rfl (hb hby hd) rfl r) (g' := mkF m (pc + 1) Ls (.int (lcmpW x y) :: st)) ?_
  refine own_if_ge X hx hby hd2 pT pF hp (by omega) (fun q => kT ?_) (fun q => kF ?_)
  · exact fun r => q ((lw_lt x y).mpr r)
  · exact (lw_lt x y).mp q
theorem own_icmp_gt (X : Stand p l e R s m args below meth c T locs cells slots) (hx : p.tables.exec = Jvm.exec) (hby : c.code = bs) {o : Int} {x y : Int32} (hd : decode bs pc = .ok (.if_icmp .gt o, 3)) (pT pF : Nat) (hp : 0 ≤ (pc : Int) + o ∧ ((pc : Int) + o).toNat = pT) (hpF : pc + 3 = pF) (kT : y < x → Go p e below G T (mkF m pT Ls st)) (kF : ¬ y < x → Go p e below G T (mkF m pF Ls st)) : Go p e below G T (mkF m pc Ls (.int y :: .int x :: st)) := by
  subst hpF
  by_cases q0 : y < x
  · have q := q0
    exact Go.by (fun t r => XS.icmpYes X.here hx rfl rfl (hb hby hd) rfl (tlt q).2.2.1 hp.1 hp.2 r) (kT q0)
  · have q : ¬ y < x := by first | exact q0 | exact Classical.not_not.mp q0
    exact Go.by (fun t r => XS.icmpNo X.here hx rfl (hb hby hd) rfl (flt q).2.2.1 r) (kF q)
theorem own_if_gt (X : Stand p l e R s m args below meth c T locs cells slots) (hx : p.tables.exec = Jvm.exec) (hby : c.code = bs) {o : Int} {x : Int32} (hd : decode bs pc = .ok (.ifCond .gt o, 3)) (pT pF : Nat) (hp : 0 ≤ (pc : Int) + o ∧ ((pc : Int) + o).toNat = pT) (hpF : pc + 3 = pF) (kT : (0 : Int32) < x → Go p e below G T (mkF m pT Ls st)) (kF : ¬ (0 : Int32) < x → Go p e below G T (mkF m pF Ls st)) : Go p e below G T (mkF m pc Ls (.int x :: st)) := by
  subst hpF
  by_cases q0 : (0 : Int32) < x
  · have q := q0
    exact Go.by (fun t r => XS.ifYes X.here hx rfl rfl (hb hby hd) rfl ((if0 _ _).trans (tlt q).2.2.1) hp.1 hp.2 r) (kT q0)
  · have q : ¬ (0 : Int32) < x := by first | exact q0 | exact Classical.not_not.mp q0
    exact Go.by (fun t r => XS.ifNo X.here hx rfl (hb hby hd) rfl ((if0 _ _).trans (flt q).2.2.1) r) (kF q)
theorem own_lcmp_gt (X : Stand p l e R s m args below meth c T locs cells slots) (hx : p.tables.exec = Jvm.exec) (hby : c.code = bs) {o : Int} {x y : Int64} (hd : decode bs pc = .ok (.lcmp, 1)) (hd2 : decode bs (pc + 1) = .ok (.ifCond .gt o, 3)) (pT pF : Nat) (hp : 0 ≤ ((pc + 1 : Nat) : Int) + o ∧ (((pc + 1 : Nat) : Int) + o).toNat = pT) (hpF : pc + 4 = pF) (kT : y < x → Go p e below G T (mkF m pT Ls st)) (kF : ¬ y < x → Go p e below G T (mkF m pF Ls st)) : Go p e below G T (mkF m pc Ls (.long y :: .long x :: st)) := by
  refine Go.by (fun t r => XS.lcmp X.here hx rfl (hb hby hd) rfl r) (g' := mkF m (pc + 1) Ls (.int (lcmpW x y) :: st)) ?_
  refine own_if_gt X hx hby hd2 pT pF hp (by omega) (fun q => kT ?_) (fun q => kF ?_)
  · exact (lw_gt x y).mp q
  · exact fun r => q ((lw_gt x y).mpr r)
theorem own_icmp_le (X : Stand p l e R s m args below meth c T locs cells slots) (hx : p.tables.exec = Jvm.exec) (hby : c.code = bs) {o : Int} {x y : Int32} (hd : decode bs pc = .ok (.if_icmp .le o, 3)) (pT pF : Nat) (hp : 0 ≤ (pc : Int) + o ∧ ((pc : Int) + o).toNat = pT) (hpF : pc + 3 = pF) (kT : ¬ y < x → Go p e below G T (mkF m pT Ls st)) (kF : y < x → Go p e below G T (mkF m pF Ls st)) : Go p e below G T (mkF m pc Ls (.int y :: .int x :: st)) := by
  subst hpF
  by_cases q0 : ¬ y < x
  · have q := q0
    exact Go.by (fun t r => XS.icmpYes X.here hx rfl rfl (hb hby hd) rfl (flt q).2.2.2 hp.1 hp.2 r) (kT q0)
  · have q : y < x := by first | exact q0 | exact Classical.not_not.mp q0
    exact Go.by (fun t r => XS.icmpNo X.here hx rfl (hb hby hd) rfl (tlt q).2.2.2 r) (kF q)
theorem own_if_le (X : Stand p l e R s m args below meth c T locs cells slots) (hx : p.tables.exec = Jvm.exec) (hby : c.code = bs) {o : Int} {x : Int32} (hd : decode bs pc = .ok (.ifCond .le o, 3)) (pT pF : Nat) (hp : 0 ≤ (pc : Int) + o ∧ ((pc : Int) + o).toNat = pT) (hpF : pc + 3 = pF) (kT : ¬ (0 : Int32) < x → Go p e below G T (mkF m pT Ls st)) (kF : (0 : Int32) < x → Go p e below G T (mkF m pF Ls st)) : Go p e below G T (mkF m pc Ls (.int x :: st)) := by
  subst hpF
  by_cases q0 : ¬ (0 : Int32) < x
  · have q := q0
    exact Go.by (fun t r => XS.ifYes X.here hx rfl rfl (hb hby hd) rfl ((if0 _ _).trans (flt q).2.2.2) hp.1 hp.2 r) (kT q0)
  · have q : (0 : Int32) < x := by first | exact q0 | exact Classical.not_not.mp q0
    exact Go.by (fun t r => XS.ifNo X.here hx rfl (hb hby hd) rfl ((if0 _ _).trans (tlt q).2.2.2) r) (kF q)
theorem own_lcmp_le (X : Stand p l e R s m args below meth c T locs cells slots) (hx : p.tables.exec = Jvm.exec) (hby : c.code = bs) {o : Int} {x y : Int64} (hd : decode bs pc = .ok (.lcmp, 1)) (hd2 : decode bs (pc + 1) = .ok (.ifCond .le o, 3)) (pT pF : Nat) (hp : 0 ≤ ((pc + 1 : Nat) : Int) + o ∧ (((pc + 1 : Nat) : Int) + o).toNat = pT) (hpF : pc + 4 = pF) (kT : ¬ y < x → Go p e below G T (mkF m pT Ls st)) (kF : y < x → Go p e below G T (mkF m pF Ls st)) : Go p e below G T (mkF m pc Ls (.long y :: .long x :: st)) := by
  refine Go.by (fun t r => XS.lcmp X.here hx rfl (hb hby hd) rfl r) (g' := mkF m (pc + 1) Ls (.int (lcmpW x y) :: st)) ?_
  refine own_if_le X hx hby hd2 pT pF hp (by omega) (fun q => kT ?_) (fun q => kF ?_)
  · exact fun r => q ((lw_gt x y).mpr r)
  · exact (lw_gt x y).mp q
theorem own_ifnullY (X : Stand p l e R s m args below meth c T locs cells slots) (hx : p.tables.exec = Jvm.exec) (hby : c.code = bs) {o : Int}  (hd : decode bs pc = .ok (.ifnull o, 3)) (pc' : Nat) (hp : 0 ≤ (pc : Int) + o ∧ ((pc : Int) + o).toNat = pc') (k : Go p e below G T (mkF m pc' Ls st)) : Go p e below G T (mkF m pc Ls (.null :: st)) :=
  Go.by (fun t q => XS.ifnullYes X.here hx rfl rfl (hb hby hd) rfl hp.1 hp.2 q) k
theorem own_ifnullN (X : Stand p l e R s m args below meth c T locs cells slots) (hx : p.tables.exec = Jvm.exec) (hby : c.code = bs) {o : Int} {b : Addr} (hd : decode bs pc = .ok (.ifnull o, 3)) (pc' : Nat) (hp : pc + 3 = pc') (k : Go p e below G T (mkF m pc' Ls st)) : Go p e below G T (mkF m pc Ls (.ref b :: st)) := by
  subst hp
  exact Go.by (fun t q => XS.ifnullNo X.here hx rfl (hb hby hd) rfl q) k
theorem own_ifnonnullY (X : Stand p l e R s m args below meth c T locs cells slots) (hx : p.tables.exec = Jvm.exec) (hby : c.code = bs) {o : Int} {b : Addr} (hd : decode bs pc = .ok (.ifnonnull o, 3)) (pc' : Nat) (hp : 0 ≤ (pc : Int) + o ∧ ((pc : Int) + o).toNat = pc') (k : Go p e below G T (mkF m pc' Ls st)) : Go p e below G T (mkF m pc Ls (.ref b :: st)) :=
  Go.by (fun t q => XS.ifnonnullYes X.here hx rfl rfl (hb hby hd) rfl hp.1 hp.2 q) k
theorem own_ifnonnullN (X : Stand p l e R s m args below meth c T locs cells slots) (hx : p.tables.exec = Jvm.exec) (hby : c.code = bs) {o : Int}  (hd : decode bs pc = .ok (.ifnonnull o, 3)) (pc' : Nat) (hp : pc + 3 = pc') (k : Go p e below G T (mkF m pc' Ls st)) : Go p e below G T (mkF m pc Ls (.null :: st)) := by
  subst hp
  exact Go.by (fun t q => XS.ifnonnullNo X.here hx rfl (hb hby hd) rfl q) k
theorem own_ldc (X : Stand p l e R s m args below meth c T locs cells slots) (hx : p.tables.exec = Jvm.exec) (hby : c.code = bs) (hZ : Z.Warmed39 s.vm) {own : String} {idx : Nat} (v : Int32) (hown : s.vm.findClass own = some m.cls) (w : (Jvm.Cond.constant own idx v).before a0 Z = true) (hd : decode bs pc = .ok (.ldc idx, 2)) (pc' : Nat) (hp : pc + 2 = pc') (k : Go p e below G T (mkF m pc' Ls (.int v :: st))) : Go p e below G T (mkF m pc Ls st) := by
  subst hp
  exact Go.by (fun t q => X.ldcInt hx hown (mvT hZ w) (g := mkF m pc Ls st) rfl (hb hby hd) t q) k
theorem own_ldc2 (X : Stand p l e R s m args below meth c T locs cells slots) (hx : p.tables.exec = Jvm.exec) (hby : c.code = bs) (hZ : Z.Warmed39 s.vm) {own : String} {idx : Nat} (v : Int64) (hown : s.vm.findClass own = some m.cls) (w : (Jvm.Cond.constantLong own idx v).before a0 Z = true) (hd : decode bs pc = .ok (.ldc2_w idx, 3)) (pc' : Nat) (hp : pc + 3 = pc') (k : Go p e below G T (mkF m pc' Ls (.long v :: st))) : Go p e below G T (mkF m pc Ls st) := by
  subst hp
  exact Go.by (fun t q => X.ldc2Long hx hown (mvT hZ w) (g := mkF m pc Ls st) rfl (hb hby hd) t q) k
theorem own_callS (X : Stand p l e R s m args below meth c T locs cells slots) (hx : p.tables.exec = Jvm.exec) (hby : c.code = bs) (hZ : Z.Warmed39 s.vm) {own : String} {idx : Nat} {y : MethodName} {yb : ByteArray} {yml : Nat} {yrt : Option FieldType} {rm : Room} {as : Array Value} {Qc : Option Value → Heap → List Loc → Prop} (argsL : List Value) (has : argsL.toArray = as) (hown : s.vm.findClass own = some m.cls) (w1 : (Jvm.Cond.methodLink own idx y).before a0 Z = true) (w2 : (Jvm.Cond.static y).before a0 Z = true) (w3 : (Jvm.Cond.initialized y.cls).before a0 Z = true) (w4 : (Jvm.Cond.code y yb yml yrt).before a0 Z = true) (hy : y.cls ≠ "java/lang/invoke/MethodHandle" ∧ y.cls ≠ "java/lang/invoke/VarHandle") (hd : decode bs pc = .ok (.invokestatic idx, 3)) (hM : Met1 l Z y yb yml yrt rm as h Qc) (eT : T.heap = h) {ps : List FieldType} {pr : Option FieldType} (hpd : parseMethodDescriptor y.desc = some ⟨ps, pr⟩) (hlen : argsL.length = ps.length) (hml : Ls.size = c.maxLocals) (hf : rm.frames + 1 ≤ R.frames) (W : Nat) (hW : (st.map fun v => v.category).sum = W) (hl : W + (yml + 11) + rm.locals ≤ R.locals) (hcl : cells + rm.cells ≤ R.cells) (hsl : slots + rm.slots ≤ R.slots) (pc' : Nat) (hp : pc + 3 = pc') (k : ∀ (T' : State) (L : List Loc) (v : Option Value), Stand p l e R s m args below meth c T' (locs ++ L) (cells + rm.cells) (slots + rm.slots) → Qc v T'.heap L → Go p e below G T' (mkF m pc' Ls (v.toList ++ st))) : Go p e below G T (mkF m pc Ls (argsL.reverse ++ st)) := by
  subst has
  subst hp
  obtain ⟨v, vm₁, ⟨T1, L1, k1, n1⟩, -, X1, ⟨Lc, hQ, l1, y1, z1⟩, st1⟩ := Jvm.LawKit.callS X hx (y := y) hown (mvT hZ w1) (mvT hZ w2) (mvT hZ w3) (mvT hZ w4) hy (backOf (W := W) (hM []) hZ w4 w3 hf hl) (g := mkF m pc Ls (argsL.reverse ++ st)) rfl hml (argsL := argsL) (rest := st) (lenOf hpd hlen) rfl (by show 2 * 0 + _ ≤ _; omega) (hb hby hd) (fun _ _ => ⟨rfl, eT, hcl, hsl⟩)
  dsimp only [Pt.U, Pt.locs, Pt.cells, Pt.slots] at X1 l1 y1 z1 st1 hQ
  subst l1 y1 z1
  exact Go.by (fun t q => st1 t q) (k T1 Lc v X1 hQ)
theorem own_callC (X : Stand p l e R s m args below meth c T locs cells slots) (hx : p.tables.exec = Jvm.exec) (hby : c.code = bs) (hZ : Z.Warmed39 s.vm) {own : String} {idx : Nat} {y : MethodName} {yb : ByteArray} {yml : Nat} {rm : Room} {as : Array Value} {Qc : Option Value → Heap → List Loc → Prop} {a : Addr} (argsL : List Value) (has : (.ref a :: argsL).toArray = as) (hy1 : y.name = "<init>") (hown : s.vm.findClass own = some m.cls) (w1 : (Jvm.Cond.methodLink own idx y).before a0 Z = true) (w2 : (Jvm.Cond.instanceMethod y).before a0 Z = true) (w3 : (Jvm.Cond.initialized y.cls).before a0 Z = true) (w4 : (Jvm.Cond.code y yb yml none).before a0 Z = true) (hy : y.cls ≠ "java/lang/invoke/MethodHandle" ∧ y.cls ≠ "java/lang/invoke/VarHandle") (hd : decode bs pc = .ok (.invokespecial idx, 3)) (hM : Met1 l Z y yb yml none rm as h Qc) (eT : T.heap = h) {ps : List FieldType} {pr : Option FieldType} (hpd : parseMethodDescriptor y.desc = some ⟨ps, pr⟩) (hlen : argsL.length = ps.length) (hml : Ls.size = c.maxLocals) (hf : rm.frames + 1 ≤ R.frames) (W : Nat) (hW : (st.map fun v => v.category).sum = W) (hl : W + (yml + 11) + rm.locals ≤ R.locals) (hcl : cells + rm.cells ≤ R.cells) (hsl : slots + rm.slots ≤ R.slots) (pc' : Nat) (hp : pc + 3 = pc') (k : ∀ (T' : State) (L : List Loc) (v : Option Value), Stand p l e R s m args below meth c T' (locs ++ L) (cells + rm.cells) (slots + rm.slots) → Qc v T'.heap L → Go p e below G T' (mkF m pc' Ls (v.toList ++ st))) : Go p e below G T (mkF m pc Ls (argsL.reverse ++ .ref a :: st)) := by
  subst has
  subst hp
  obtain ⟨v, vm₁, ⟨T1, L1, k1, n1⟩, -, X1, ⟨Lc, hQ, l1, y1, z1⟩, st1⟩ := X.specialBack hx (y := y) hy1 hown (mvT hZ w1) (mvT hZ w2) (mvT hZ w4) hy (backOf (W := W) (hM []) hZ w4 w3 hf hl) (g := mkF m pc Ls (argsL.reverse ++ .ref a :: st)) rfl hml (Steps.refl _) (a := a) (argsL := argsL) (rest := st) (lenOf hpd hlen) rfl (by show 2 * 0 + _ ≤ _; omega) (hb hby hd) (fun _ _ => ⟨rfl, eT, hcl, hsl⟩)
  dsimp only [Pt.U, Pt.locs, Pt.cells, Pt.slots] at X1 l1 y1 z1 st1 hQ
  subst l1 y1 z1
  exact Go.by (fun t q => st1.trans q) (k T1 Lc v X1 hQ)
theorem own_callV (X : Stand p l e R s m args below meth c T locs cells slots) (hx : p.tables.exec = Jvm.exec) (hby : c.code = bs) (hZ : Z.Warmed39 s.vm) {own : String} {idx : Nat} {y : MethodName} {yb : ByteArray} {yml : Nat} {yrt : Option FieldType} {rm : Room} {as : Array Value} {Qc : Option Value → Heap → List Loc → Prop} {a : Addr} {C : String} (argsL : List Value) (has : (.ref a :: argsL).toArray = as) (hown : s.vm.findClass own = some m.cls) (w1 : (Jvm.Cond.methodLink own idx y).before a0 Z = true) (w5 : (Jvm.Cond.declares y).before a0 Z = true) (w6 : (Jvm.Cond.selects C y y).before a0 Z = true) (w2 : (Jvm.Cond.instanceMethod y).before a0 Z = true) (w3 : (Jvm.Cond.initialized y.cls).before a0 Z = true) (w4 : (Jvm.Cond.code y yb yml yrt).before a0 Z = true) (E : Exa Z h a C) (hy : y.cls ≠ "java/lang/invoke/MethodHandle" ∧ y.cls ≠ "java/lang/invoke/VarHandle") (hd : decode bs pc = .ok (.invokevirtual idx, 3)) (hM : Met1 l Z y yb yml yrt rm as h Qc) (eT : T.heap = h) {ps : List FieldType} {pr : Option FieldType} (hpd : parseMethodDescriptor y.desc = some ⟨ps, pr⟩) (hlen : argsL.length = ps.length) (hml : Ls.size = c.maxLocals) (hf : rm.frames + 1 ≤ R.frames) (W : Nat) (hW : (st.map fun v => v.category).sum = W) (hl : W + (yml + 11) + rm.locals ≤ R.locals) (hcl : cells + rm.cells ≤ R.cells) (hsl : slots + rm.slots ≤ R.slots) (pc' : Nat) (hp : pc + 3 = pc') (k : ∀ (T' : State) (L : List Loc) (v : Option Value), Stand p l e R s m args below meth c T' (locs ++ L) (cells + rm.cells) (slots + rm.slots) → Qc v T'.heap L → Go p e below G T' (mkF m pc' Ls (v.toList ++ st))) : Go p e below G T (mkF m pc Ls (argsL.reverse ++ .ref a :: st)) := by
  subst has
  obtain ⟨cq, kq, qa, qb, qc⟩ := isOf hZ eT E
  subst hp
  obtain ⟨v, vm₁, ⟨T1, L1, k1, n1⟩, -, X1, ⟨Lc, hQ, l1, y1, z1⟩, st1⟩ := X.virtualBack hx (y := y) (z := y) hown (mvT hZ w1) (mvT hZ w5) (notFace_of_selects (args := #[]) (mvT hZ w6)) (mvT hZ w6) (mvT hZ w2) hy (backOf (W := W) (hM []) hZ w4 w3 hf hl) qa qc (g := mkF m pc Ls (argsL.reverse ++ .ref a :: st)) rfl hml (Steps.refl _) (argsL := argsL) (rest := st) (lenOf hpd hlen) rfl (by show 2 * 0 + _ ≤ _; omega) (hb hby hd) (fun _ _ => ⟨rfl, eT, hcl, hsl⟩)
  dsimp only [Pt.U, Pt.locs, Pt.cells, Pt.slots] at X1 l1 y1 z1 st1 hQ
  subst l1 y1 z1
  exact Go.by (fun t q => st1.trans q) (k T1 Lc v X1 hQ)
theorem own_getF (X : Stand p l e R s m args below meth c T locs cells slots) (hx : p.tables.exec = Jvm.exec) (hby : c.code = bs) (hZ : Z.Warmed39 s.vm) {own R0 O n d host : String} {idx : Nat} {a : Addr} {v : Value} (hown : s.vm.findClass own = some m.cls) (w : (Jvm.Cond.fieldLink own idx R0 n d).before a0 Z = true ∨ (Jvm.Cond.fieldLinkNest own idx R0 n d host).before a0 Z = true) (via : Via Z R0 O n d) (eT : T.heap = h) (F : Fld Z h a O n d v) (hd : decode bs pc = .ok (.getfield idx, 3)) (pc' : Nat) (hp : pc + 3 = pc') (k : ∀ T', Stand p l e R s m args below meth c T' locs cells slots → T'.heap = h → Go p e below G T' (mkF m pc' Ls (v :: st))) : Go p e below G T (mkF m pc Ls (.ref a :: st)) := by
  subst hp
  obtain ⟨T1, X1, e1, st1⟩ := getF X hx hZ hown w via eT F (g := mkF m pc Ls (.ref a :: st)) rfl rfl (hb hby hd)
  exact Go.by (fun t q => st1 t q) (k T1 X1 e1)
theorem own_putF (X : Stand p l e R s m args below meth c T locs cells slots) (hx : p.tables.exec = Jvm.exec) (hby : c.code = bs) (hZ : Z.Warmed39 s.vm) {own R0 O n d host C : String} {idx kk : Nat} {a : Addr} {v old : Value} {ty : FieldType} (hown : s.vm.findClass own = some m.cls) (w : (Jvm.Cond.fieldLink own idx R0 n d).before a0 Z = true ∨ (Jvm.Cond.fieldLinkNest own idx R0 n d host).before a0 Z = true) (via : Via Z R0 O n d) (eT : T.heap = h) (F : Fld Z h a O n d old) (E : Exa Z h a C) (lw : (Jvm.Cond.lays C O n d).before a0 Z = true ∨ ((Jvm.Cond.laysFinal C O n d).before a0 Z = true ∧ own = O ∧ meth.name = "<init>")) (wi : (Jvm.Cond.instantiable C kk).before a0 Z = true) (hty : parseFieldDescriptor d = some ty) (hn : narrow ty v = v) (hf : fits ty v = true) (hd : decode bs pc = .ok (.putfield idx, 3)) (pc' : Nat) (hp : pc + 3 = pc') (k : ∀ T' h', Stand p l e R s m args below meth c T' (locs ++ [⟨a, Jvm.RoadKit.slotOf Z O n d⟩]) cells slots → T'.heap = h' → Wr h h' a (Jvm.RoadKit.slotOf Z O n d) v → Go p e below G T' (mkF m pc' Ls st)) : Go p e below G T (mkF m pc Ls (v :: .ref a :: st)) := by
  subst hp
  obtain ⟨T1, h1, X1, e1, W1, st1⟩ := putF X hx hZ hown w via eT F E lw wi hty hn hf (g := mkF m pc Ls (v :: .ref a :: st)) rfl rfl (hb hby hd)
  exact Go.by (fun t q => st1 t q) (k T1 h1 X1 e1 W1)
theorem own_new (X : Stand p l e R s m args below meth c T locs cells slots) (hx : p.tables.exec = Jvm.exec) (hby : c.code = bs) (hZ : Z.Warmed39 s.vm) {own C : String} {idx n : Nat} (hown : s.vm.findClass own = some m.cls) (w : (Jvm.Cond.classLink own idx C).before a0 Z = true) (wi : (Jvm.Cond.instantiable C n).before a0 Z = true) (wz : (Jvm.Cond.initialized C).before a0 Z = true) (eT : T.heap = h) (hd : decode bs pc = .ok (.new idx, 3)) (hcl : cells + 1 ≤ R.cells) (hsl : slots + n ≤ R.slots) (pc' : Nat) (hp : pc + 3 = pc') (k : ∀ T' h' (b : Addr), b = h.size → Stand p l e R s m args below meth c T' locs (cells + 1) (slots + n) → T'.heap = h' → Ext h h' → Exa Z h' b C → (∀ {O nm d : String} {ty : FieldType}, Laid Z a0 C O nm d → parseFieldDescriptor d = some ty → Fld Z h' b O nm d (defaultValue ty)) → Go p e below G T' (mkF m pc' Ls (.ref b :: st))) : Go p e below G T (mkF m pc Ls st) := by
  subst hp
  obtain ⟨T1, h1, X1, e1, E1, A1, D1, -, st1⟩ := newO X hx hZ hown w wi wz eT (g := mkF m pc Ls st) rfl (hb hby hd) hcl hsl
  exact Go.by (fun t q => st1 t q) (k T1 h1 _ rfl X1 e1 E1 A1 D1)
theorem own_initO (X : Stand p l e R s m args below meth c T locs cells slots) (hx : p.tables.exec = Jvm.exec) (hby : c.code = bs) (hZ : Z.Warmed39 s.vm) {own : String} {idx : Nat} {a : Addr} (hown : s.vm.findClass own = some m.cls) (w1 : (Jvm.Cond.methodLink own idx Lib.objectInit).before a0 Z = true) (w2 : (Jvm.Cond.instanceMethod Lib.objectInit).before a0 Z = true) (w3 : (Jvm.Cond.code Lib.objectInit ⟨#[0xb1]⟩ 1 none).before a0 Z = true) (eT : T.heap = h) (hml : Ls.size = c.maxLocals) (hd : decode bs pc = .ok (.invokespecial idx, 3)) (hf : 1 ≤ R.frames) (W : Nat) (hW : (st.map fun v => v.category).sum = W) (hl : W + 12 ≤ R.locals) (pc' : Nat) (hp : pc + 3 = pc') (k : ∀ T', Stand p l e R s m args below meth c T' locs cells slots → T'.heap = h → Go p e below G T' (mkF m pc' Ls st)) : Go p e below G T (mkF m pc Ls (.ref a :: st)) := by
  subst hp
  obtain ⟨T1, X1, e1, st1⟩ := initO X hx hZ hown w1 w2 w3 eT (g := mkF m pc Ls (.ref a :: st)) rfl hml rfl (hb hby hd) hf (W := W) (by show 2 * 0 + _ ≤ _; omega) hl
  exact Go.by (fun t q => st1 t q) (k T1 X1 e1)
theorem own_putFN (X : Stand p l e R s m args below meth c T locs cells slots) (hx : p.tables.exec = Jvm.exec) (hby : c.code = bs) (hZ : Z.Warmed39 s.vm) {own R0 O n d C : String} {idx kk : Nat} {a : Addr} {v v' old : Value} {ty : FieldType} (hown : s.vm.findClass own = some m.cls) (w : (Jvm.Cond.fieldLink own idx R0 n d).before a0 Z = true) (via : Via Z R0 O n d) (eT : T.heap = h) (F : Fld Z h a O n d old) (E : Exa Z h a C) (lw : (Jvm.Cond.lays C O n d).before a0 Z = true ∨ ((Jvm.Cond.laysFinal C O n d).before a0 Z = true ∧ own = O ∧ meth.name = "<init>")) (wi : (Jvm.Cond.instantiable C kk).before a0 Z = true) (hty : parseFieldDescriptor d = some ty) (hn : narrow ty v = v') (hf : fits ty v' = true) (hd : decode bs pc = .ok (.putfield idx, 3)) (pc' : Nat) (hp : pc + 3 = pc') (k : ∀ T' h', Stand p l e R s m args below meth c T' (locs ++ [⟨a, Jvm.RoadKit.slotOf Z O n d⟩]) cells slots → T'.heap = h' → Wr h h' a (Jvm.RoadKit.slotOf Z O n d) v' → Go p e below G T' (mkF m pc' Ls st)) : Go p e below G T (mkF m pc Ls (v :: .ref a :: st)) := by
  subst hp
  obtain ⟨T1, h1, X1, e1, W1, st1⟩ := putFN X hx hZ hown w via eT F E lw wi hty hn hf (g := mkF m pc Ls (v :: .ref a :: st)) rfl rfl (hb hby hd)
  exact Go.by (fun t q => st1 t q) (k T1 h1 X1 e1 W1)
theorem own_callP (X : Stand p l e R s m args below meth c T locs cells slots) (hx : p.tables.exec = Jvm.exec) (hby : c.code = bs) (hZ : Z.Warmed39 s.vm) {own : String} {idx : Nat} {y : MethodName} {yb : ByteArray} {yml : Nat} {yrt : Option FieldType} {rm : Room} {as : Array Value} {Qc : Option Value → Heap → List Loc → Prop} {a : Addr} {C : String} (argsL : List Value) (has : (.ref a :: argsL).toArray = as) (hown : s.vm.findClass own = some m.cls) (w1 : (Jvm.Cond.methodLink own idx y).before a0 Z = true) (w2 : (Jvm.Cond.instanceMethod y).before a0 Z = true) {kk : Nat} (w6 : (Jvm.Cond.instantiable y.cls kk).before a0 Z = true) (w7 : (Jvm.Cond.privateMethod y).before a0 Z = true) (w3 : (Jvm.Cond.initialized y.cls).before a0 Z = true) (w4 : (Jvm.Cond.code y yb yml yrt).before a0 Z = true) (E : Exa Z h a C) (hy : y.cls ≠ "java/lang/invoke/MethodHandle" ∧ y.cls ≠ "java/lang/invoke/VarHandle") (hd : decode bs pc = .ok (.invokevirtual idx, 3)) (hM : Met1 l Z y yb yml yrt rm as h Qc) (eT : T.heap = h) {ps : List FieldType} {pr : Option FieldType} (hpd : parseMethodDescriptor y.desc = some ⟨ps, pr⟩) (hlen : argsL.length = ps.length) (hml : Ls.size = c.maxLocals) (hf : rm.frames + 1 ≤ R.frames) (W : Nat) (hW : (st.map fun v => v.category).sum = W) (hl : W + (yml + 11) + rm.locals ≤ R.locals) (hcl : cells + rm.cells ≤ R.cells) (hsl : slots + rm.slots ≤ R.slots) (pc' : Nat) (hp : pc + 3 = pc') (k : ∀ (T' : State) (L : List Loc) (v : Option Value), Stand p l e R s m args below meth c T' (locs ++ L) (cells + rm.cells) (slots + rm.slots) → Qc v T'.heap L → Go p e below G T' (mkF m pc' Ls (v.toList ++ st))) : Go p e below G T (mkF m pc Ls (argsL.reverse ++ .ref a :: st)) := by
  subst has
  obtain ⟨cq, q1, q2⟩ := E.cell
  have pv := Cond.privateMethod_at (mvP hZ w7 (args := #[]))
  have sel : (Jvm.Cond.selects y.cls y y).before args s = true := by
    obtain ⟨c1, k1, r1, r2, -, r3, -, -⟩ := Cond.instantiable_spec (mvT (args := args) hZ w6)
    exact selects_self_of_private r1 r2 (Bool.or_eq_false_iff.mp r3).1 pv (mvT hZ w2) hy
  subst hp
  obtain ⟨v, vm₁, ⟨T1, L1, k1, n1⟩, -, X1, ⟨Lc, hQ, l1, y1, z1⟩, st1⟩ := X.privateBack hx (y := y) hown (mvT hZ w1) (mvT hZ w2) sel pv (mvT hZ w4) hy (backOf (W := W) (hM []) hZ w4 w3 hf hl) (g := mkF m pc Ls (argsL.reverse ++ .ref a :: st)) rfl hml (Steps.refl _) (a := a) (by rw [eT]; exact q1) q2 (argsL := argsL) (rest := st) (lenOf hpd hlen) rfl (by show 2 * 0 + _ ≤ _; omega) (hb hby hd) (fun _ _ => ⟨rfl, eT, hcl, hsl⟩)
  dsimp only [Pt.U, Pt.locs, Pt.cells, Pt.slots] at X1 l1 y1 z1 st1 hQ
  subst l1 y1 z1
  exact Go.by (fun t q => st1.trans q) (k T1 Lc v X1 hQ)
theorem own_instY (X : Stand p l e R s m args below meth c T locs cells slots) (hx : p.tables.exec = Jvm.exec) (hby : c.code = bs) (hZ : Z.Warmed39 s.vm) {own K : String} {idx : Nat} {a : Addr} (hown : s.vm.findClass own = some m.cls) (w : (Jvm.Cond.classLink own idx K).before a0 Z = true) (eT : T.heap = h) (F : Ins Z h a K true) (hd : decode bs pc = .ok (.instanceof idx, 3)) (pc' : Nat) (hp : pc + 3 = pc') (k : ∀ T', Stand p l e R s m args below meth c T' locs cells slots → T'.heap = h → Go p e below G T' (mkF m pc' Ls (.int 1 :: st))) : Go p e below G T (mkF m pc Ls (.ref a :: st)) := by
  subst hp
  obtain ⟨T1, X1, e1, st1⟩ := instY X hx hZ hown w eT F (g := mkF m pc Ls (.ref a :: st)) rfl rfl (hb hby hd)
  exact Go.by (fun t q => st1 t q) (k T1 X1 e1)
theorem own_instNo (X : Stand p l e R s m args below meth c T locs cells slots) (hx : p.tables.exec = Jvm.exec) (hby : c.code = bs) (hZ : Z.Warmed39 s.vm) {own K : String} {idx : Nat} {a : Addr} (hown : s.vm.findClass own = some m.cls) (w : (Jvm.Cond.classLink own idx K).before a0 Z = true) (eT : T.heap = h) {C : String} (E : Exa Z h a C) (F : ∃ c t, Z.vm.findClass C = some c ∧ Z.vm.findClass K = some t ∧ Z.vm.assignable c t = false) (hd : decode bs pc = .ok (.instanceof idx, 3)) (pc' : Nat) (hp : pc + 3 = pc') (k : ∀ T', Stand p l e R s m args below meth c T' locs cells slots → T'.heap = h → Go p e below G T' (mkF m pc' Ls (.int 0 :: st))) : Go p e below G T (mkF m pc Ls (.ref a :: st)) := by
  subst hp
  obtain ⟨T1, X1, e1, st1⟩ := instNo X hx hZ hown w eT E F (g := mkF m pc Ls (.ref a :: st)) rfl rfl (hb hby hd)
  exact Go.by (fun t q => st1 t q) (k T1 X1 e1)
theorem own_castY (X : Stand p l e R s m args below meth c T locs cells slots) (hx : p.tables.exec = Jvm.exec) (hby : c.code = bs) (hZ : Z.Warmed39 s.vm) {own K : String} {idx : Nat} {a : Addr} (hown : s.vm.findClass own = some m.cls) (w : (Jvm.Cond.classLink own idx K).before a0 Z = true) (eT : T.heap = h) (F : Ins Z h a K true) (hd : decode bs pc = .ok (.checkcast idx, 3)) (pc' : Nat) (hp : pc + 3 = pc') (k : ∀ T', Stand p l e R s m args below meth c T' locs cells slots → T'.heap = h → Go p e below G T' (mkF m pc' Ls (.ref a :: st))) : Go p e below G T (mkF m pc Ls (.ref a :: st)) := by
  subst hp
  obtain ⟨T1, X1, e1, st1⟩ := castY X hx hZ hown w eT F (g := mkF m pc Ls (.ref a :: st)) rfl rfl (hb hby hd)
  exact Go.by (fun t q => st1 t q) (k T1 X1 e1)
theorem own_instNull (X : Stand p l e R s m args below meth c T locs cells slots) (hx : p.tables.exec = Jvm.exec) (hby : c.code = bs) {idx : Nat} (hd : decode bs pc = .ok (.instanceof idx, 3)) (pc' : Nat) (hp : pc + 3 = pc') (k : Go p e below G T (mkF m pc' Ls (.int 0 :: st))) : Go p e below G T (mkF m pc Ls (.null :: st)) := by
  subst hp
  exact Go.by (fun t q => X.instanceofNull hx (g := mkF m pc Ls (.null :: st)) rfl rfl (hb hby hd) t q) k
theorem own_castNull (X : Stand p l e R s m args below meth c T locs cells slots) (hx : p.tables.exec = Jvm.exec) (hby : c.code = bs) {idx : Nat} (hd : decode bs pc = .ok (.checkcast idx, 3)) (pc' : Nat) (hp : pc + 3 = pc') (k : Go p e below G T (mkF m pc' Ls (.null :: st))) : Go p e below G T (mkF m pc Ls (.null :: st)) := by
  subst hp
  exact Go.by (fun t q => X.checkcastNull hx (g := mkF m pc Ls (.null :: st)) rfl rfl (hb hby hd) t q) k
theorem own_acmp (X : Stand p l e R s m args below meth c T locs cells slots) (hx : p.tables.exec = Jvm.exec) (hby : c.code = bs) {cd : ACond} {o : Int} {x y : Value} (same : Bool) (hd : decode bs pc = .ok (.if_acmp cd o, 3)) (h1 : x.isRef = true) (h2 : y.isRef = true) (hq : decide (x = y) = same) (ho : 0 ≤ (pc : Int) + o) (pc' : Nat) (hp : pc' = if acV cd same = true then ((pc : Int) + o).toNat else pc + 3) (k : Go p e below G T (mkF m pc' Ls st)) : Go p e below G T (mkF m pc Ls (y :: x :: st)) :=
  Go.by (fun t q => Jvm.RoadKit.acmp (g := mkF m pc Ls (y :: x :: st)) X hx rfl h1 h2 (pc0 := pc) (pc' := pc') (same := same) rfl (hb hby hd) rfl hq ho hp q) k
theorem own_getS (X : Stand p l e R s m args below meth c T locs cells slots) (hx : p.tables.exec = Jvm.exec) (hby : c.code = bs) (hZ : Z.Warmed39 s.vm) {own R0 O n d host : String} {idx : Nat} {v : Value} (hown : s.vm.findClass own = some m.cls) (w : (Jvm.Cond.fieldLink own idx R0 n d).before a0 Z = true ∨ (Jvm.Cond.fieldLinkNest own idx R0 n d host).before a0 Z = true) (via : Via Z R0 O n d) (eT : T.heap = h) (F : Sta Z h O n d v) (hd : decode bs pc = .ok (.getstatic idx, 3)) (pc' : Nat) (hp : pc + 3 = pc') (k : ∀ T', Stand p l e R s m args below meth c T' locs cells slots → T'.heap = h → Go p e below G T' (mkF m pc' Ls (v :: st))) : Go p e below G T (mkF m pc Ls st) := by
  subst hp
  obtain ⟨T1, X1, e1, st1⟩ := getS2 X hx hZ hown w via eT F (g := mkF m pc Ls st) rfl (hb hby hd)
  exact Go.by (fun t q => st1 t q) (k T1 X1 e1)
/-- an array of n places that hold what f says -/
def Afn (Z : State) (h : Heap) (a : Addr) (ty : FieldType) (n : Nat) (f : Nat → Value) : Prop := ∃ cl : Cell, Arr Z h a cl ty ∧ cl.slots.size = n ∧ ∀ i, i < n → cl.slots[i]? = some (f i) ∧ fits ty (f i) = true
def upd (f : Nat → Value) (i : Nat) (v : Value) : Nat → Value := fun j => if j = i then v else f j
theorem Afn.lt {a : Addr} {ty : FieldType} {n : Nat} {f : Nat → Value} (F : Afn Z h a ty n f) : a < h.size := by obtain ⟨cl, A, -⟩ := F; exact A.lt
theorem Afn.ext {h' : Heap} {a : Addr} {ty : FieldType} {n : Nat} {f : Nat → Value} (F : Afn Z h a ty n f) (E : Ext h h') : Afn Z h' a ty n f := by obtain ⟨cl, A, r⟩ := F; exact ⟨cl, A.ext E, r⟩
theorem Afn.other {h' : Heap} {a b : Addr} {sl : Nat} {v : Value} {ty : FieldType} {n : Nat} {f : Nat → Value} (F : Afn Z h b ty n f) (W : Wr h h' a sl v) (q : b ≠ a) : Afn Z h' b ty n f := by obtain ⟨cl, A, r⟩ := F; exact ⟨cl, A.other W q, r⟩
theorem Afn.keep {h' : Heap} {a : Addr} {ws : List Addr} {ty : FieldType} {n : Nat} {f : Nat → Value} (F : Afn Z h a ty n f) (K : Keep h h' ws) (q : a ∉ ws) : Afn Z h' a ty n f := by obtain ⟨cl, A, r⟩ := F; exact ⟨cl, ⟨K.2.1 a cl A.1 q, A.2⟩, r⟩
theorem Afn.to {a : Addr} {ty : FieldType} {n : Nat} {f f' : Nat → Value} (F : Afn Z h a ty n f) (q : ∀ i, i < n → f i = f' i) : Afn Z h a ty n f' := by obtain ⟨cl, A, S, H⟩ := F; exact ⟨cl, A, S, fun i hi => q i hi ▸ H i hi⟩
theorem Afn.new {a : Addr} {k : ClassId} {ty : FieldType} {z : Int32} {n : Nat} (A : Arr Z h a (newA k ty z) ty) (q : z.toNatClampNeg = n) : Afn Z h a ty n (fun _ => defaultValue ty) := by
  refine ⟨_, A, by rw [sz_new]; exact q, fun i hi => ⟨?_, by cases ty <;> rfl⟩⟩
  subst q
  show (Array.replicate z.toNatClampNeg (defaultValue ty))[i]? = _
  rw [Array.getElem?_replicate, if_pos hi]
theorem Afn.set {h' : Heap} {a : Addr} {ty : FieldType} {n i : Nat} {v : Value} {f : Nat → Value} (F : Afn Z h a ty n f) (W : Wr h h' a i v) (hi : i < n) (hv : fits ty v = true) : Afn Z h' a ty n (upd f i v) := by
  obtain ⟨cl, A, S, H⟩ := F
  refine ⟨cl.setSlot i v, A.same W, by rw [sz_set]; exact S, fun j hj => ?_⟩
  unfold upd
  by_cases q : j = i
  · subst q
    rw [if_pos rfl]
    refine ⟨?_, hv⟩
    show (cl.slots.setIfInBounds j v)[j]? = some v
    rw [Array.getElem?_setIfInBounds_self_of_lt (by rw [S]; exact hj)]
  · rw [if_neg q]
    refine ⟨?_, (H j hj).2⟩
    rw [← (H j hj).1]
    exact Array.getElem?_setIfInBounds_ne (Ne.symm q)
theorem own_in {j : Int32} {n : Nat} (h0 : 0 ≤ j.toInt) (h1 : j.toInt < n) : ¬ (j < 0 ∨ n ≤ j.toNatClampNeg) := by
  simp only [Int32.lt_iff_toInt_lt, Int32.toNatClampNeg, Int32.reduceToInt]; omega
/-- an array of ints (bytes, chars, shorts): n places that hold what g says -/
def Afi (Z : State) (h : Heap) (a : Addr) (ty : FieldType) (n : Nat) (g : Nat → Int32) : Prop := Afn Z h a ty n (fun i => .int (g i))
def updI (g : Nat → Int32) (i : Nat) (v : Int32) : Nat → Int32 := fun j => if j = i then v else g j
theorem Afi.lt {a : Addr} {ty : FieldType} {n : Nat} {g : Nat → Int32} (F : Afi Z h a ty n g) : a < h.size := Afn.lt F
theorem Afi.ext {h' : Heap} {a : Addr} {ty : FieldType} {n : Nat} {g : Nat → Int32} (F : Afi Z h a ty n g) (E : Ext h h') : Afi Z h' a ty n g := Afn.ext F E
theorem Afi.other {h' : Heap} {a b : Addr} {sl : Nat} {v : Value} {ty : FieldType} {n : Nat} {g : Nat → Int32} (F : Afi Z h b ty n g) (W : Wr h h' a sl v) (q : b ≠ a) : Afi Z h' b ty n g := Afn.other F W q
theorem Afi.keep {h' : Heap} {a : Addr} {ws : List Addr} {ty : FieldType} {n : Nat} {g : Nat → Int32} (F : Afi Z h a ty n g) (K : Keep h h' ws) (q : a ∉ ws) : Afi Z h' a ty n g := Afn.keep F K q
theorem Afi.to {a : Addr} {ty : FieldType} {n : Nat} {g g' : Nat → Int32} (F : Afi Z h a ty n g) (q : ∀ i, i < n → g i = g' i) : Afi Z h a ty n g' := Afn.to F fun i hi => congrArg Value.int (q i hi)
theorem Afi.set {h' : Heap} {a : Addr} {ty : FieldType} {n i : Nat} {v : Int32} {g : Nat → Int32} (F : Afi Z h a ty n g) (W : Wr h h' a i (.int v)) (hi : i < n) (hv : fits ty (.int v) = true) : Afi Z h' a ty n (updI g i v) :=
  (Afn.set F W hi hv).to fun j _ => by
    unfold upd updI
    by_cases q : j = i
    · rw [if_pos q, if_pos q]
    · rw [if_neg q, if_neg q]
theorem own_iaload (X : Stand p l e R s m args below meth c T locs cells slots) (hx : p.tables.exec = Jvm.exec) (hby : c.code = bs) (hZ : Z.Warmed39 s.vm) {a : Addr} {j : Int32} {n : Nat} {g : Nat → Int32} (v : Int32) (eT : T.heap = h) (F : Afi Z h a .int n g) (hj : ¬ (j < 0 ∨ n ≤ j.toNatClampNeg)) (hv : g j.toNatClampNeg = v) (hd : decode bs pc = .ok (.iaload, 1)) (pc' : Nat) (hp : pc + 1 = pc') (k : Go p e below G T (mkF m pc' Ls (.int v :: st))) : Go p e below G T (mkF m pc Ls (.int j :: .ref a :: st)) := by
  subst hp
  subst hv
  obtain ⟨cl, A, S, H⟩ := F
  subst S
  exact Go.by (fun t q => X.iaload hx (j := j) (v := .int (g j.toNatClampNeg)) (by rw [eT]; exact A.1) (State.isArrayOf_alike hZ.alike A.2.1) A.2.2 hj (H _ (Nat.lt_of_not_le fun q => hj (Or.inr q))).1 (g := mkF m pc Ls (.int j :: .ref a :: st)) rfl rfl (hb hby hd) t q) k
theorem own_baload (X : Stand p l e R s m args below meth c T locs cells slots) (hx : p.tables.exec = Jvm.exec) (hby : c.code = bs) (hZ : Z.Warmed39 s.vm) {a : Addr} {j : Int32} {n : Nat} {g : Nat → Int32} (v : Int32) (eT : T.heap = h) (F : Afi Z h a .byte n g) (hj : ¬ (j < 0 ∨ n ≤ j.toNatClampNeg)) (hv : g j.toNatClampNeg = v) (hd : decode bs pc = .ok (.baload, 1)) (pc' : Nat) (hp : pc + 1 = pc') (k : Go p e below G T (mkF m pc' Ls (.int v :: st))) : Go p e below G T (mkF m pc Ls (.int j :: .ref a :: st)) := by
  subst hp
  subst hv
  obtain ⟨cl, A, S, H⟩ := F
  subst S
  exact Go.by (fun t q => X.baloadBytes hx (j := j) (v := .int (g j.toNatClampNeg)) (by rw [eT]; exact A.1) (State.isArrayOf_alike hZ.alike A.2.1) A.2.2 hj (H _ (Nat.lt_of_not_le fun q => hj (Or.inr q))).1 (g := mkF m pc Ls (.int j :: .ref a :: st)) rfl rfl (hb hby hd) t q) k
theorem own_caload (X : Stand p l e R s m args below meth c T locs cells slots) (hx : p.tables.exec = Jvm.exec) (hby : c.code = bs) (hZ : Z.Warmed39 s.vm) {a : Addr} {j : Int32} {n : Nat} {g : Nat → Int32} (v : Int32) (eT : T.heap = h) (F : Afi Z h a .char n g) (hj : ¬ (j < 0 ∨ n ≤ j.toNatClampNeg)) (hv : g j.toNatClampNeg = v) (hd : decode bs pc = .ok (.caload, 1)) (pc' : Nat) (hp : pc + 1 = pc') (k : Go p e below G T (mkF m pc' Ls (.int v :: st))) : Go p e below G T (mkF m pc Ls (.int j :: .ref a :: st)) := by
  subst hp
  subst hv
  obtain ⟨cl, A, S, H⟩ := F
  subst S
  exact Go.by (fun t q => X.caload hx (j := j) (v := .int (g j.toNatClampNeg)) (by rw [eT]; exact A.1) (State.isArrayOf_alike hZ.alike A.2.1) A.2.2 hj (H _ (Nat.lt_of_not_le fun q => hj (Or.inr q))).1 (g := mkF m pc Ls (.int j :: .ref a :: st)) rfl rfl (hb hby hd) t q) k
theorem own_saload (X : Stand p l e R s m args below meth c T locs cells slots) (hx : p.tables.exec = Jvm.exec) (hby : c.code = bs) (hZ : Z.Warmed39 s.vm) {a : Addr} {j : Int32} {n : Nat} {g : Nat → Int32} (v : Int32) (eT : T.heap = h) (F : Afi Z h a .short n g) (hj : ¬ (j < 0 ∨ n ≤ j.toNatClampNeg)) (hv : g j.toNatClampNeg = v) (hd : decode bs pc = .ok (.saload, 1)) (pc' : Nat) (hp : pc + 1 = pc') (k : Go p e below G T (mkF m pc' Ls (.int v :: st))) : Go p e below G T (mkF m pc Ls (.int j :: .ref a :: st)) := by
  subst hp
  subst hv
  obtain ⟨cl, A, S, H⟩ := F
  subst S
  exact Go.by (fun t q => X.saload hx (j := j) (v := .int (g j.toNatClampNeg)) (by rw [eT]; exact A.1) (State.isArrayOf_alike hZ.alike A.2.1) A.2.2 hj (H _ (Nat.lt_of_not_le fun q => hj (Or.inr q))).1 (g := mkF m pc Ls (.int j :: .ref a :: st)) rfl rfl (hb hby hd) t q) k
theorem own_aaload (X : Stand p l e R s m args below meth c T locs cells slots) (hx : p.tables.exec = Jvm.exec) (hby : c.code = bs) (hZ : Z.Warmed39 s.vm) {a : Addr} {j : Int32} {n : Nat} {ty : FieldType} {f : Nat → Value} (v : Value) (eT : T.heap = h) (F : Afn Z h a ty n f) (hty : ty.isReference = true) (hj : ¬ (j < 0 ∨ n ≤ j.toNatClampNeg)) (hv : f j.toNatClampNeg = v) (hd : decode bs pc = .ok (.aaload, 1)) (pc' : Nat) (hp : pc + 1 = pc') (k : Go p e below G T (mkF m pc' Ls (v :: st))) : Go p e below G T (mkF m pc Ls (.int j :: .ref a :: st)) := by
  subst hp
  subst hv
  obtain ⟨cl, A, S, H⟩ := F
  subst S
  exact Go.by (fun t q => X.aaload hx (j := j) (v := f j.toNatClampNeg) (by rw [eT]; exact A.1) (State.isArrayOf_alike hZ.alike A.2.1) hty A.2.2 hj (H _ (Nat.lt_of_not_le fun q => hj (Or.inr q))).1 (g := mkF m pc Ls (.int j :: .ref a :: st)) rfl rfl (hb hby hd) t q) k
theorem own_arraylength (X : Stand p l e R s m args below meth c T locs cells slots) (hx : p.tables.exec = Jvm.exec) (hby : c.code = bs) (hZ : Z.Warmed39 s.vm) {a : Addr} {ty : FieldType} {n : Nat} {f : Nat → Value} (z : Int32) (eT : T.heap = h) (F : Afn Z h a ty n f) (hz : n.toInt32 = z) (hd : decode bs pc = .ok (.arraylength, 1)) (pc' : Nat) (hp : pc + 1 = pc') (k : Go p e below G T (mkF m pc' Ls (.int z :: st))) : Go p e below G T (mkF m pc Ls (.ref a :: st)) := by
  subst hp
  subst hz
  obtain ⟨cl, A, S, H⟩ := F
  subst S
  exact Go.by (fun t q => X.arraylength hx (by rw [eT]; exact A.1) (State.isArrayOf_alike hZ.alike A.2.1) (g := mkF m pc Ls (.ref a :: st)) rfl rfl (hb hby hd) t q) k
theorem own_iastore (X : Stand p l e R s m args below meth c T locs cells slots) (hx : p.tables.exec = Jvm.exec) (hby : c.code = bs) (hZ : Z.Warmed39 s.vm) {a : Addr} {j x : Int32} {n : Nat} {g : Nat → Int32} (eT : T.heap = h) (F : Afi Z h a .int n g) (hj : ¬ (j < 0 ∨ n ≤ j.toNatClampNeg)) (hd : decode bs pc = .ok (.iastore, 1)) (pc' : Nat) (hp : pc + 1 = pc') (k : ∀ T' h', Stand p l e R s m args below meth c T' (locs ++ [⟨a, j.toNatClampNeg⟩]) cells slots → T'.heap = h' → Wr h h' a j.toNatClampNeg (.int x) → Afi Z h' a .int n (updI g j.toNatClampNeg x) → Go p e below G T' (mkF m pc' Ls st)) : Go p e below G T (mkF m pc Ls (.int x :: .int j :: .ref a :: st)) := by
  subst hp
  have F0 := F
  obtain ⟨cl, A, S, H⟩ := F
  obtain ⟨T1, h1, X1, e1, W1, st1⟩ := stI X hx hZ eT A (j := j) (x := x) (by rw [S]; exact hj) (g := mkF m pc Ls (.int x :: .int j :: .ref a :: st)) rfl rfl (hb hby hd)
  exact Go.by (fun t q => st1 t q) (k T1 h1 X1 e1 W1 (F0.set W1 (Nat.lt_of_not_le fun q => hj (Or.inr q)) rfl))
theorem own_bastore (X : Stand p l e R s m args below meth c T locs cells slots) (hx : p.tables.exec = Jvm.exec) (hby : c.code = bs) (hZ : Z.Warmed39 s.vm) {a : Addr} {j x : Int32} {n : Nat} {g : Nat → Int32} (eT : T.heap = h) (F : Afi Z h a .byte n g) (hj : ¬ (j < 0 ∨ n ≤ j.toNatClampNeg)) (hd : decode bs pc = .ok (.bastore, 1)) (pc' : Nat) (hp : pc + 1 = pc') (k : ∀ T' h', Stand p l e R s m args below meth c T' (locs ++ [⟨a, j.toNatClampNeg⟩]) cells slots → T'.heap = h' → Wr h h' a j.toNatClampNeg (.int (nar .byte x)) → Afi Z h' a .byte n (updI g j.toNatClampNeg (nar .byte x)) → Go p e below G T' (mkF m pc' Ls st)) : Go p e below G T (mkF m pc Ls (.int x :: .int j :: .ref a :: st)) := by
  subst hp
  have F0 := F
  obtain ⟨cl, A, S, H⟩ := F
  obtain ⟨T1, h1, X1, e1, W1, st1⟩ := stB X hx hZ eT A (j := j) (x := x) (by rw [S]; exact hj) (g := mkF m pc Ls (.int x :: .int j :: .ref a :: st)) rfl rfl (hb hby hd)
  exact Go.by (fun t q => st1 t q) (k T1 h1 X1 e1 W1 (F0.set W1 (Nat.lt_of_not_le fun q => hj (Or.inr q)) (fits_nar_byte x)))
theorem own_castore (X : Stand p l e R s m args below meth c T locs cells slots) (hx : p.tables.exec = Jvm.exec) (hby : c.code = bs) (hZ : Z.Warmed39 s.vm) {a : Addr} {j x : Int32} {n : Nat} {g : Nat → Int32} (eT : T.heap = h) (F : Afi Z h a .char n g) (hj : ¬ (j < 0 ∨ n ≤ j.toNatClampNeg)) (hd : decode bs pc = .ok (.castore, 1)) (pc' : Nat) (hp : pc + 1 = pc') (k : ∀ T' h', Stand p l e R s m args below meth c T' (locs ++ [⟨a, j.toNatClampNeg⟩]) cells slots → T'.heap = h' → Wr h h' a j.toNatClampNeg (.int (nar .char x)) → Afi Z h' a .char n (updI g j.toNatClampNeg (nar .char x)) → Go p e below G T' (mkF m pc' Ls st)) : Go p e below G T (mkF m pc Ls (.int x :: .int j :: .ref a :: st)) := by
  subst hp
  have F0 := F
  obtain ⟨cl, A, S, H⟩ := F
  obtain ⟨T1, h1, X1, e1, W1, st1⟩ := stC X hx hZ eT A (j := j) (x := x) (by rw [S]; exact hj) (g := mkF m pc Ls (.int x :: .int j :: .ref a :: st)) rfl rfl (hb hby hd)
  exact Go.by (fun t q => st1 t q) (k T1 h1 X1 e1 W1 (F0.set W1 (Nat.lt_of_not_le fun q => hj (Or.inr q)) (fits_nar_char x)))
theorem own_sastore (X : Stand p l e R s m args below meth c T locs cells slots) (hx : p.tables.exec = Jvm.exec) (hby : c.code = bs) (hZ : Z.Warmed39 s.vm) {a : Addr} {j x : Int32} {n : Nat} {g : Nat → Int32} (eT : T.heap = h) (F : Afi Z h a .short n g) (hj : ¬ (j < 0 ∨ n ≤ j.toNatClampNeg)) (hd : decode bs pc = .ok (.sastore, 1)) (pc' : Nat) (hp : pc + 1 = pc') (k : ∀ T' h', Stand p l e R s m args below meth c T' (locs ++ [⟨a, j.toNatClampNeg⟩]) cells slots → T'.heap = h' → Wr h h' a j.toNatClampNeg (.int (nar .short x)) → Afi Z h' a .short n (updI g j.toNatClampNeg (nar .short x)) → Go p e below G T' (mkF m pc' Ls st)) : Go p e below G T (mkF m pc Ls (.int x :: .int j :: .ref a :: st)) := by
  subst hp
  have F0 := F
  obtain ⟨cl, A, S, H⟩ := F
  obtain ⟨T1, h1, X1, e1, W1, st1⟩ := stS X hx hZ eT A (j := j) (x := x) (by rw [S]; exact hj) (g := mkF m pc Ls (.int x :: .int j :: .ref a :: st)) rfl rfl (hb hby hd)
  exact Go.by (fun t q => st1 t q) (k T1 h1 X1 e1 W1 (F0.set W1 (Nat.lt_of_not_le fun q => hj (Or.inr q)) (fits_nar_short x)))
theorem own_aastore (X : Stand p l e R s m args below meth c T locs cells slots) (hx : p.tables.exec = Jvm.exec) (hby : c.code = bs) (hZ : Z.Warmed39 s.vm) {a : Addr} {j : Int32} {v : Value} {n : Nat} {ty : FieldType} {f : Nat → Value} (eT : T.heap = h) (F : Afn Z h a ty n f) (hj : ¬ (j < 0 ∨ n ≤ j.toNatClampNeg)) (hty : ty.isReference = true) (hfv : fits ty v = true) (So : Sto Z h a v) (hd : decode bs pc = .ok (.aastore, 1)) (pc' : Nat) (hp : pc + 1 = pc') (k : ∀ T' h', Stand p l e R s m args below meth c T' (locs ++ [⟨a, j.toNatClampNeg⟩]) cells slots → T'.heap = h' → Wr h h' a j.toNatClampNeg v → Afn Z h' a ty n (upd f j.toNatClampNeg v) → Go p e below G T' (mkF m pc' Ls st)) : Go p e below G T (mkF m pc Ls (v :: .int j :: .ref a :: st)) := by
  subst hp
  have F0 := F
  obtain ⟨cl, A, S, H⟩ := F
  obtain ⟨T1, h1, X1, e1, W1, st1⟩ := stR X hx hZ eT A (j := j) (by rw [S]; exact hj) hty So (g := mkF m pc Ls (v :: .int j :: .ref a :: st)) rfl rfl (hb hby hd)
  exact Go.by (fun t q => st1 t q) (k T1 h1 X1 e1 W1 (F0.set W1 (Nat.lt_of_not_le fun q => hj (Or.inr q)) hfv))
theorem own_newarray (X : Stand p l e R s m args below meth c T locs cells slots) (hx : p.tables.exec = Jvm.exec) (hby : c.code = bs) (hZ : Z.Warmed39 s.vm) {aty : ArrayType} {z : Int32} {n cap : Nat} {ad : String} (w : (Jvm.Cond.arrayClass (newarray.typeOf aty)).before a0 Z = true) (eT : T.heap = h) (hd : decode bs pc = .ok (.newarray aty, 2)) (hz : ¬ z < 0) (hn : z.toNatClampNeg = n) (hcap : n ≤ cap) (hb8 : cap * 8 ≤ 536870912) (hcl : cells + 1 ≤ R.cells) (hsl : slots + cap ≤ R.slots) (had : "[" ++ (newarray.typeOf aty).toString = ad) (pc' : Nat) (hp : pc + 2 = pc') (k : ∀ T' h' (b : Addr), b = h.size → Stand p l e R s m args below meth c T' locs (cells + 1) (slots + cap) → T'.heap = h' → Ext h h' → Afn Z h' b (newarray.typeOf aty) n (fun _ => defaultValue (newarray.typeOf aty)) → Exa Z h' b ad → Go p e below G T' (mkF m pc' Ls (.ref b :: st))) : Go p e below G T (mkF m pc Ls (.int z :: st)) := by
  subst hp
  obtain ⟨T1, h1, cA, X1, e1, E1, A1, Ex1, st1⟩ := newPE X hx hZ w eT (g := mkF m pc Ls (.int z :: st)) rfl (hb hby hd) rfl hz (cap := cap) (by rw [hn]; exact hcap) hb8 hcl hsl had
  exact Go.by (fun t q => st1 t q) (k T1 h1 _ rfl X1 e1 E1 (Afn.new A1 hn) Ex1)
theorem own_anewarray (X : Stand p l e R s m args below meth c T locs cells slots) (hx : p.tables.exec = Jvm.exec) (hby : c.code = bs) (hZ : Z.Warmed39 s.vm) {own C : String} {idx : Nat} {z : Int32} {n cap : Nat} {ad : String} (hown : s.vm.findClass own = some m.cls) (w1 : (Jvm.Cond.classLink own idx C).before a0 Z = true) (w2 : (Jvm.Cond.arrayOver (.object C)).before a0 Z = true) (eT : T.heap = h) (hd : decode bs pc = .ok (.anewarray idx, 3)) (hz : ¬ z < 0) (hn : z.toNatClampNeg = n) (hcap : n ≤ cap) (hb8 : cap * 8 ≤ 536870912) (hcl : cells + 1 ≤ R.cells) (hsl : slots + cap ≤ R.slots) (had : "[" ++ (FieldType.object C).toString = ad) (pc' : Nat) (hp : pc + 3 = pc') (k : ∀ T' h' (b : Addr) cA, b = h.size → Stand p l e R s m args below meth c T' locs (cells + 1) (slots + cap) → T'.heap = h' → Ext h h' → Afn Z h' b (.object C) n (fun _ => .null) → Exa Z h' b ad → Arr Z h' b (newA cA (.object C) z) (.object C) → Ovr Z cA C → Go p e below G T' (mkF m pc' Ls (.ref b :: st))) : Go p e below G T (mkF m pc Ls (.int z :: st)) := by
  subst hp
  obtain ⟨T1, h1, cA, X1, e1, E1, A1, Ex1, O1, st1⟩ := newRE X hx hZ hown w1 w2 eT (g := mkF m pc Ls (.int z :: st)) rfl (hb hby hd) rfl hz (cap := cap) (by rw [hn]; exact hcap) hb8 hcl hsl had
  exact Go.by (fun t q => st1 t q) (k T1 h1 _ cA rfl X1 e1 E1 (Afn.new A1 hn) Ex1 A1 O1)
theorem own_lremV (x y : Int64) : 0 ≤ x.toInt → 0 < y.toInt → 0 ≤ (x % y).toInt ∧ (x % y).toInt < y.toInt := by
  intro h1 h2
  rw [Int64.toInt_mod, (tr x.toInt y.toInt).1 h1]
  exact ⟨Int.emod_nonneg _ (by omega), Int.emod_lt_of_pos _ h2⟩
theorem own_NSroot {O K : String} {n : Nat} (w : (Jvm.Cond.noSuperclass O).before a0 Z = true) (wk : (Jvm.Cond.instantiable K n).before a0 Z = true) (hn : O ≠ K) : NS Z O K := by
  obtain ⟨c, k, h1, h2, h3, -, -⟩ := Cond.noSuperclass_spec w
  obtain ⟨t, k2, g1, -⟩ := Cond.instantiable_spec wk
  have ne := ids_ne h1 g1 hn
  refine ⟨c, t, h1, g1, fun fuel => ?_⟩
  cases fuel with
  | zero => rfl
  | succ f => simp [Vm.isSubclassAux, ne, h2, h3]
theorem own_NSno {C S K : String} {n : Nat} (w : (Jvm.Cond.superclass C S).before a0 Z = true) (wk : (Jvm.Cond.instantiable K n).before a0 Z = true) (nn : NS Z C K) (hn : C ≠ K) : ∃ c t, Z.vm.findClass C = some c ∧ Z.vm.findClass K = some t ∧ Z.vm.assignable c t = false := by
  obtain ⟨c, t, h0, g0, n3⟩ := nn
  obtain ⟨p, k, kp, h1, h2, h3, h4, h5, -, h7⟩ := Cond.superclass_spec h0 w
  obtain ⟨t', k', g1, g2, g5, g6, -, -⟩ := Cond.instantiable_spec wk
  cases g0.symm.trans g1
  have ne := ids_ne h0 g0 hn
  have g7 : k'.isInterface = false := (Bool.or_eq_false_iff.mp g6).1
  refine ⟨c, t, h0, g0, ?_⟩
  show Z.vm.assignableAux (255 + 1) c t = false
  simp [Vm.assignableAux, ne, h2, g2, h5, g5, g7, Vm.isSubclass, n3]
theorem own_ext0 {h0 : Heap} (K : Keep h0 h []) : Ext h0 h := ⟨K.1, fun a c q => K.2.1 a c q nin0⟩
/-- an array of references over the class C takes objects of C -/
def Orr (Z : State) (h : Heap) (b : Addr) (C : String) : Prop := ∃ (c : Cell) (cA : ClassId), Arr Z h b c (.object C) ∧ c.cls = cA ∧ Ovr Z cA C
theorem Orr.lt {b : Addr} {C : String} (F : Orr Z h b C) : b < h.size := by obtain ⟨c, cA, A, -⟩ := F; exact A.lt
theorem Orr.ext {h' : Heap} {b : Addr} {C : String} (F : Orr Z h b C) (E : Ext h h') : Orr Z h' b C := by obtain ⟨c, cA, A, r⟩ := F; exact ⟨c, cA, A.ext E, r⟩
theorem Orr.wr {h' : Heap} {a b : Addr} {C : String} {sl : Nat} {v : Value} (F : Orr Z h b C) (W : Wr h h' a sl v) : Orr Z h' b C := by
  obtain ⟨c, cA, A, q, O⟩ := F
  by_cases e : b = a
  · subst e; exact ⟨_, cA, A.same W, q, O⟩
  · exact ⟨c, cA, A.other W e, q, O⟩
theorem Orr.sto {b y : Addr} {C : String} (F : Orr Z h b C) (I : Ins Z h y C true) : Sto Z h b (.ref y) := by
  obtain ⟨c, cA, A, q, O⟩ := F
  exact Sto.ofV A q O I
theorem own_clone (X : Stand p l e R s m args below meth c T locs cells slots) (hx : p.tables.exec = Jvm.exec) (hby : c.code = bs) (hZ : Z.Warmed39 s.vm) {own ad : String} {idx : Nat} {a : Addr} {ty : FieldType} {n cap : Nat} {g : Nat → Int32} (hown : s.vm.findClass own = some m.cls) (w1 : (Jvm.Cond.methodLink own idx ⟨ad, "clone", "()Ljava/lang/Object;"⟩).before a0 Z = true) (w2 : (Jvm.Cond.sameMethod ad "java/lang/Object" "clone" "()Ljava/lang/Object;").before a0 Z = true) (w3 : (Jvm.Cond.native ⟨"java/lang/Object", "clone", "()Ljava/lang/Object;"⟩).before a0 Z = true)
    (w4 : (Jvm.Cond.instanceMethod ⟨"java/lang/Object", "clone", "()Ljava/lang/Object;"⟩).before a0 Z = true) (w5 : (Jvm.Cond.selects ad ⟨ad, "clone", "()Ljava/lang/Object;"⟩ ⟨"java/lang/Object", "clone", "()Ljava/lang/Object;"⟩).before a0 Z = true) (w6 : (Jvm.Cond.castable ad "java/lang/Cloneable").before a0 Z = true)
    (eT : T.heap = h) (F : Afi Z h a ty n g) (E : Exa Z h a ad) (hml : Ls.size = c.maxLocals) (hd : decode bs pc = .ok (.invokevirtual idx, 3)) (hf : 1 ≤ R.frames) (W : Nat) (hW : (st.map fun v => v.category).sum = W) (hl : W + 14 ≤ R.locals) (hcap : n ≤ cap) (hcl : cells + 1 ≤ R.cells) (hsl : slots + cap ≤ R.slots) (pc' : Nat) (hp : pc + 3 = pc')
    (k : ∀ T' h' (b : Addr), b = h.size → Stand p l e R s m args below meth c T' locs (cells + 1) (slots + cap) → T'.heap = h' → Ext h h' → Afi Z h' b ty n g → Exa Z h' b ad → Go p e below G T' (mkF m pc' Ls (.ref b :: st))) : Go p e below G T (mkF m pc Ls (.ref a :: st)) := by
  subst hp
  obtain ⟨cl, A, S, H⟩ := F
  have FC : FitC Z cl := fitC_of A fun i hi v hv => by rw [(H i (S ▸ hi)).1] at hv; cases hv; exact (H i (S ▸ hi)).2
  obtain ⟨T1, h1, X1, e1, E1, A1, Ex1, st1⟩ := cloneA X hx hZ hown w1 w2 w3 w4 w5 w6 eT A E FC (g := mkF m pc Ls (.ref a :: st)) rfl hml rfl (hb hby hd) hf (W := W) (by show 2 * 0 + _ ≤ _; omega) hl (cap := cap) (by rw [S]; exact hcap) hcl hsl
  exact Go.by (fun t q => st1 t q) (k T1 h1 _ rfl X1 e1 E1 ⟨_, A1, S, H⟩ Ex1)
theorem own_fld_start {t : Term} {C n d : String} {k : Int32} {a : Addr} (ev : t.eval args Z none [] Z = some (.ref a)) (hh : (Jvm.Cond.eq (.field t C n d) (.int k)).value args Z none Z [] = some true) : Fld Z Z.heap a C n d (.int k) := by
  obtain ⟨x, y, h1, h2, h3, h4⟩ := cmp_v (Or.inl hh)
  have h2' : y = .int k := (Option.some.inj h2).symm
  subst h2'
  obtain ⟨z, rfl⟩ := h4
  have q : z = k := by
    simp only [Cond.value, h1, h2] at hh
    exact of_decide_eq_true (Option.some.inj hh)
  subst q
  rw [fld_at ev] at h1
  exact Fld.start h1
end OwnGo

/-! ## bodies that may load String constants: the Stand is over the start with the tables of now, 'Since' says how they came to be -/
def FinW (s : State) (Q : Option Value → Heap → List Loc → Prop) (kc ks : Nat) (U' : State) (o : Outcome) : Prop :=
  ∃ v L, o = .returned v ∧ Q v U'.heap L ∧ ReturnedEndW s o U' L kc ks
def Met1W (l : Launch) (Z : State) (y : MethodName) (bytes : ByteArray) (maxL : Nat) (rt : Option FieldType) (rm : Room) (as : Array Value) (h0 : Heap) (Q : Option Value → Heap → List Loc → Prop) : Prop :=
  ∀ ws : List Jvm.Cond, MetFree l y (head1 (Jvm.Cond.code y bytes maxL rt :: ws) rm) (fun a U => a = as ∧ Z.Warmed39 U.vm ∧ U.heap = h0) (fun _ _ _ _ _ => True)
    (fun _ U o U' => ∃ v L, o = .returned v ∧ Q v U'.heap L ∧ ReturnedEndW U o U' L rm.cells rm.slots)
section OwnWide
variable {p : Program} {l : Launch} {e : Env} {R : Room} {s : State} {m : MethodId} {args : Array Value} {below : List Frame} {meth : Method} {c : Code} {T T' : State} {locs : List Loc} {cells slots : Nat} {G : State → Outcome → Prop} {Ls : Array Slot} {st : List Value} {pc : Nat} {bs : ByteArray} {Z : State} {a0 : Array Value} {h : Heap} {g g' : JFrame} {vm0 : Vm}
theorem own_met_ofW {Z : State} {y : MethodName} {bytes : ByteArray} {maxL : Nat} {rt : Option FieldType} {rm : Room} {as : Array Value} {h0 : Heap} {Q : Option Value → Heap → List Loc → Prop} {Ls0 : Array Slot} (hpl : plainFor y = true) (ef : ∀ m, entryFrame m as maxL = mkF m 0 Ls0 [])
    (body : ∀ (p : Program) (e : Env) (s : State) (m : MethodId) (below : List Frame) (meth : Method) (c : Code) (s₁ : State) (vm0 : Vm), Stand p l e rm (s.setVm vm0) m as below meth c s₁ [] 0 0 → p.tables.exec = Jvm.exec → c.code = bytes → c.maxLocals = maxL → Z.Warmed39 (s.setVm vm0).vm → (s.setVm vm0).vm.findClass y.cls = some m.cls → meth.name = y.name → meth.sig.returnType = rt → meth.locks = false → s₁.heap = h0 → s.Since vm0 0 → s.heap = h0 →
      Go p e below (FinW s Q rm.cells rm.slots) s₁ (mkF m 0 Ls0 [])) : Met1W l Z y bytes maxL rt rm as h0 Q := by
  intro ws
  refine MetFree.of_bodySF hpl hisR ?_
  intro p e s m args below meth c s₁ Bd hml0 hP hK
  obtain ⟨rfl, hZ, hh⟩ := hP
  have k := body p e s m below meth c s₁ s.vm (Stand.of_body Bd) Bd.exec Bd.bytes hml0 hZ (findClass_of_methodNamed Bd.named) (name_of_methodNamed Bd.named Bd.method).1 Bd.returns Bd.notSynchronized (by rw [← hh, Bd.state]; rfl) ((State.WarmedH.refl s).since 0) hh
  rw [← ef m] at k
  exact k
theorem own_leaveW {Q : Option Value → Heap → List Loc → Prop} {kc ks k0 : Nat} {v : Option Value} (X : Stand p l e R (s.setVm vm0) m args below meth c T locs cells slots) (hS : s.Since vm0 k0) (hk : k0 ≤ T.heap.size) (hv : meth.sig.returnType = none → v = none) (hlk : meth.locks = false) (hc : cells ≤ kc) (hs : slots ≤ ks) (hQ : Q v T.heap locs)
    (k : ∀ fs, (∀ (f : JFrame) (acts : List Action), f.method = m → f.locked = none → f.entered = [] → (doReturn e (T.setTop f) acts v).1 = T.setFrames fs) → Steps p.tables e below (T.setTop g) (T.setFrames fs)) : Go p e below (FinW s Q kc ks) T g := by
  obtain ⟨fs, hr, hrun, hended, r1, r2, r3, r4⟩ := X.leaveW hS hk (v := v) hv hlk
  exact ⟨_, _, k fs hr, hrun, hended, _, _, rfl, hQ, r1, r2, r3, r4.mono hc hs⟩
theorem own_retNW {Q : Option Value → Heap → List Loc → Prop} {kc ks k0 : Nat} {z z' : Int32} {t : FieldType} (X : Stand p l e R (s.setVm vm0) m args below meth c T locs cells slots) (hx : p.tables.exec = Jvm.exec) (hby : c.code = bs) (hS : s.Since vm0 k0) (hk : k0 ≤ T.heap.size) (hret : meth.sig.returnType = some t) (hlk : meth.locks = false) (ht : t = .boolean ∨ t = .byte ∨ t = .char ∨ t = .short) (hd : decode bs pc = .ok (.ireturn, 1)) (hc : cells ≤ kc) (hs : slots ≤ ks) (hn : nar t z = z') (hQ : Q (some (.int z')) T.heap locs) : Go p e below (FinW s Q kc ks) T (mkF m pc Ls (.int z :: st)) := by
  subst hn
  refine own_leaveW X hS hk (fun q => by rw [hret] at q; cases q) hlk hc hs hQ fun fs hr => ?_
  exact retN X hx hret ht (hb hby hd) hr
theorem own_retW {Q : Option Value → Heap → List Loc → Prop} {kc ks k0 : Nat} (X : Stand p l e R (s.setVm vm0) m args below meth c T locs cells slots) (hx : p.tables.exec = Jvm.exec) (hby : c.code = bs) (hS : s.Since vm0 k0) (hk : k0 ≤ T.heap.size) (hret : meth.sig.returnType = none) (hlk : meth.locks = false) (hd : decode bs pc = .ok (.return_, 1)) (hc : cells ≤ kc) (hs : slots ≤ ks) (hQ : Q none T.heap locs) : Go p e below (FinW s Q kc ks) T (mkF m pc Ls []) := by
  refine own_leaveW X hS hk (fun _ => rfl) hlk hc hs hQ fun fs hr => ?_
  exact X.returnOut hx hret (hb hby hd) hr
theorem own_strAtoms (hZ : Z.Warmed39 (s.setVm vm0).vm) (wS : ∀ a ∈ Bundle.stringAtoms, a.before a0 Z = true) : ∀ a ∈ Bundle.stringAtoms, a.before args (s.setVm vm0) = true := fun d hd => by
  have q := wS d hd
  simp only [Bundle.stringAtoms, List.mem_cons, List.not_mem_nil, or_false] at hd
  rcases hd with rfl | rfl | rfl | rfl | rfl | rfl | rfl
  · exact mv (s := s.setVm vm0) hZ q
  · exact mv (s := s.setVm vm0) hZ q
  · exact mvA (s := s.setVm vm0) hZ q
  · exact mv (s := s.setVm vm0) hZ q
  · exact mv (s := s.setVm vm0) hZ q
  · exact mv (s := s.setVm vm0) hZ q
  · exact mv (s := s.setVm vm0) hZ q
theorem own_ldcS (X : Stand p l e R (s.setVm vm0) m args below meth c T locs cells slots) (hx : p.tables.exec = Jvm.exec) (hby : c.code = bs) (hZ : Z.Warmed39 (s.setVm vm0).vm) {own text : String} {idx k0 : Nat} (hown : (s.setVm vm0).vm.findClass own = some m.cls) (w : (Jvm.Cond.stringLink own idx text).before a0 Z = true) (wS : ∀ a ∈ Bundle.stringAtoms, a.before a0 Z = true) (eT : T.heap = h) (hS : s.Since vm0 k0) (hk : k0 ≤ h.size) (hd : decode bs pc = .ok (.ldc idx, 2)) (n : Nat) (hn : 4 * text.toList.length ≤ n) (hbig : n ≤ 536870912) (hcl : cells + 2 ≤ R.cells) (hsl : slots + (n + 4) ≤ R.slots) (pc' : Nat) (hp : pc + 2 = pc')
    (k : ∀ (T' : State) (h' : Heap) (a : Addr) (vm1 : Vm) (k1 : Nat), Stand p l e R (s.setVm vm1) m args below meth c T' locs (cells + 2) (slots + (n + 4)) → T'.heap = h' → Ext h h' → s.Since vm1 k1 → k1 ≤ h'.size → Z.Warmed39 (s.setVm vm1).vm → (s.setVm vm1).vm.findClass own = some m.cls → Go p e below G T' (mkF m pc' Ls (.ref a :: st))) : Go p e below G T (mkF m pc Ls st) := by
  subst hp
  obtain ⟨a, T1, X1, hS1, -, hb1, -, st1⟩ := X.ldcStringCold hx (own := own) hown (mvS hZ w) (own_strAtoms hZ wS) (g := mkF m pc Ls st) rfl (hb hby hd) hn hbig hcl hsl
  subst eT
  have E := ext_of hb1
  exact Go.by (fun t q => st1 t q) (k T1 _ a T1.vm _ X1 rfl E (hS.trans hS1 (Nat.le_trans hk E.1)) (Nat.le_refl _) (State.Warmed39.trans (t := s.setVm vm0) hZ hS1.1) (by rw [show (s.setVm T1.vm).vm = T1.vm from rfl, hS1.1.alike.findClass]; exact hown))
theorem own_callCW (X : Stand p l e R (s.setVm vm0) m args below meth c T locs cells slots) (hx : p.tables.exec = Jvm.exec) (hby : c.code = bs) (hZ : Z.Warmed39 (s.setVm vm0).vm) {own : String} {idx : Nat} {y : MethodName} {yb : ByteArray} {yml k0 : Nat} {rm : Room} {as : Array Value} {Qc : Option Value → Heap → List Loc → Prop} {a : Addr} (argsL : List Value) (has : (.ref a :: argsL).toArray = as) (hy1 : y.name = "<init>") (hown : (s.setVm vm0).vm.findClass own = some m.cls) (hS : s.Since vm0 k0) (hk : k0 ≤ h.size) (w1 : (Jvm.Cond.methodLink own idx y).before a0 Z = true) (w2 : (Jvm.Cond.instanceMethod y).before a0 Z = true) (w3 : (Jvm.Cond.initialized y.cls).before a0 Z = true) (w4 : (Jvm.Cond.code y yb yml none).before a0 Z = true) (hy : y.cls ≠ "java/lang/invoke/MethodHandle" ∧ y.cls ≠ "java/lang/invoke/VarHandle") (hd : decode bs pc = .ok (.invokespecial idx, 3)) (hM : Met1W l Z y yb yml none rm as h Qc) (eT : T.heap = h) {ps : List FieldType} {pr : Option FieldType} (hpd : parseMethodDescriptor y.desc = some ⟨ps, pr⟩) (hlen : argsL.length = ps.length) (hml : Ls.size = c.maxLocals) (hf : rm.frames + 1 ≤ R.frames) (W : Nat) (hW : (st.map fun v => v.category).sum = W) (hl : W + (yml + 11) + rm.locals ≤ R.locals) (hcl : cells + rm.cells ≤ R.cells) (hsl : slots + rm.slots ≤ R.slots) (pc' : Nat) (hp : pc + 3 = pc') (k : ∀ (T' : State) (L : List Loc) (v : Option Value) (vm1 : Vm), Stand p l e R (s.setVm vm1) m args below meth c T' (locs ++ L) (cells + rm.cells) (slots + rm.slots) → s.Since vm1 T'.heap.size → Z.Warmed39 (s.setVm vm1).vm → (s.setVm vm1).vm.findClass own = some m.cls → Qc v T'.heap L → Go p e below G T' (mkF m pc' Ls (v.toList ++ st))) : Go p e below G T (mkF m pc Ls (argsL.reverse ++ .ref a :: st)) := by
  subst hp
  subst has
  obtain ⟨v, vm₁, ⟨T1, L1, k1, n1⟩, -, X1, hS1, g1, ⟨Lc, hQ, l1, y1, z1⟩, st1⟩ := X.specialBackS hx (y := y) hy1 hown (mvT hZ w1) (mvT hZ w2) (mvT hZ w4) hy (backOfS (W := W) (hM []) hZ w4 w3 hf hl) (g := mkF m pc Ls (argsL.reverse ++ .ref a :: st)) rfl hml (Steps.refl _) (a := a) (argsL := argsL) (rest := st) (lenOf hpd hlen) rfl (by show 2 * 0 + _ ≤ _; omega) (hb hby hd) (fun _ _ => ⟨rfl, eT, hcl, hsl⟩)
  dsimp only [Pt.U, Pt.locs, Pt.cells, Pt.slots] at X1 l1 y1 z1 st1 hQ hS1 g1
  subst l1 y1 z1
  obtain ⟨X2, hS2, hZ2, hown2⟩ := rebS hS (eT ▸ hk) X1 hS1 g1 hZ hown
  exact Go.by (fun t q => st1.trans q) (k T1 Lc v _ X2 hS2 hZ2 hown2 hQ)
end OwnWide

theorem d1_0 : decode method_2_code 0 = .ok (.iload_n 0, 1) := by decide +kernel
theorem d1_1 : decode method_2_code 1 = .ok (.ifCond .ne 7, 3) := by decide +kernel
theorem d1_4 : decode method_2_code 4 = .ok (.getstatic 7, 3) := by decide +kernel
theorem d1_7 : decode method_2_code 7 = .ok (.areturn, 1) := by decide +kernel
theorem d1_8 : decode method_2_code 8 = .ok (.iload_n 0, 1) := by decide +kernel
theorem d1_9 : decode method_2_code 9 = .ok (.iconst 1, 1) := by decide +kernel
theorem d1_10 : decode method_2_code 10 = .ok (.if_icmp .ne 7, 3) := by decide +kernel
theorem d1_13 : decode method_2_code 13 = .ok (.getstatic 13, 3) := by decide +kernel
theorem d1_16 : decode method_2_code 16 = .ok (.areturn, 1) := by decide +kernel
theorem d1_17 : decode method_2_code 17 = .ok (.iload_n 0, 1) := by decide +kernel
theorem d1_18 : decode method_2_code 18 = .ok (.iconst 2, 1) := by decide +kernel
theorem d1_19 : decode method_2_code 19 = .ok (.if_icmp .ne 7, 3) := by decide +kernel
theorem d1_22 : decode method_2_code 22 = .ok (.getstatic 16, 3) := by decide +kernel
theorem d1_25 : decode method_2_code 25 = .ok (.areturn, 1) := by decide +kernel
theorem d1_26 : decode method_2_code 26 = .ok (.getstatic 19, 3) := by decide +kernel
theorem d1_29 : decode method_2_code 29 = .ok (.areturn, 1) := by decide +kernel
theorem pn_1 : plainName "com/example/daylily/daylily/engine/StandingEqualsPinLaw" = true := by first | (simp [plainName, overriddenIn]; done) | decide +kernel
theorem d4_0 : decode jdk_31_method_11_code 0 = .ok (.aload_n 0, 1) := by decide +kernel
theorem d4_1 : decode jdk_31_method_11_code 1 = .ok (.ifnonnull 12, 3) := by decide +kernel
theorem d4_13 : decode jdk_31_method_11_code 13 = .ok (.aload_n 0, 1) := by decide +kernel
theorem d4_14 : decode jdk_31_method_11_code 14 = .ok (.areturn, 1) := by decide +kernel
theorem pn_4 : plainName "java/util/Objects" = true := by first | (simp [plainName, overriddenIn]; done) | decide +kernel
theorem d2_0 : decode prog_16_method_1_code 0 = .ok (.aload_n 0, 1) := by decide +kernel
theorem d2_1 : decode prog_16_method_1_code 1 = .ok (.invokespecial 1, 3) := by decide +kernel
theorem d2_4 : decode prog_16_method_1_code 4 = .ok (.aload_n 0, 1) := by decide +kernel
theorem d2_5 : decode prog_16_method_1_code 5 = .ok (.lload_n 1, 1) := by decide +kernel
theorem d2_6 : decode prog_16_method_1_code 6 = .ok (.putfield 7, 3) := by decide +kernel
theorem d2_9 : decode prog_16_method_1_code 9 = .ok (.aload_n 0, 1) := by decide +kernel
theorem d2_10 : decode prog_16_method_1_code 10 = .ok (.aload_n 3, 1) := by decide +kernel
theorem d2_11 : decode prog_16_method_1_code 11 = .ok (.ldc 13, 2) := by decide +kernel
theorem d2_13 : decode prog_16_method_1_code 13 = .ok (.invokestatic 15, 3) := by decide +kernel
theorem d2_16 : decode prog_16_method_1_code 16 = .ok (.checkcast 21, 3) := by decide +kernel
theorem d2_19 : decode prog_16_method_1_code 19 = .ok (.putfield 23, 3) := by decide +kernel
theorem d2_22 : decode prog_16_method_1_code 22 = .ok (.aload_n 0, 1) := by decide +kernel
theorem d2_23 : decode prog_16_method_1_code 23 = .ok (.lload 4, 2) := by decide +kernel
theorem d2_25 : decode prog_16_method_1_code 25 = .ok (.putfield 26, 3) := by decide +kernel
theorem d2_28 : decode prog_16_method_1_code 28 = .ok (.return_, 1) := by decide +kernel
theorem pn_2 : plainName "com/example/daylily/daylily/engine/Standing" = true := by first | (simp [plainName, overriddenIn]; done) | decide +kernel
theorem pd_6 : parseMethodDescriptor "(Ljava/lang/Object;Ljava/lang/String;)Ljava/lang/Object;" = some ⟨[(.object "java/lang/Object"), (.object "java/lang/String")], some (.object "java/lang/Object")⟩ := by decide +kernel
theorem d8_0 : decode jdk_18_method_1_code 0 = .ok (.aload_n 0, 1) := by decide +kernel
theorem d8_1 : decode jdk_18_method_1_code 1 = .ok (.invokespecial 1, 3) := by decide +kernel
theorem d8_4 : decode jdk_18_method_1_code 4 = .ok (.return_, 1) := by decide +kernel
theorem pn_8 : plainName "java/lang/Number" = true := by first | (simp [plainName, overriddenIn]; done) | decide +kernel
theorem d7_0 : decode jdk_35_method_26_code 0 = .ok (.aload_n 0, 1) := by decide +kernel
theorem d7_1 : decode jdk_35_method_26_code 1 = .ok (.invokespecial 270, 3) := by decide +kernel
theorem d7_4 : decode jdk_35_method_26_code 4 = .ok (.aload_n 0, 1) := by decide +kernel
theorem d7_5 : decode jdk_35_method_26_code 5 = .ok (.lload_n 1, 1) := by decide +kernel
theorem d7_6 : decode jdk_35_method_26_code 6 = .ok (.putfield 273, 3) := by decide +kernel
theorem d7_9 : decode jdk_35_method_26_code 9 = .ok (.return_, 1) := by decide +kernel
theorem pn_7 : plainName "java/lang/Long" = true := by first | (simp [plainName, overriddenIn]; done) | decide +kernel
theorem pd_0 : parseMethodDescriptor "()V" = some ⟨[], none⟩ := by decide +kernel
theorem d6_0 : decode jdk_35_method_24_code 0 = .ok (.sipush 128, 3) := by decide +kernel
theorem d6_3 : decode jdk_35_method_24_code 3 = .ok (.istore_n 2, 1) := by decide +kernel
theorem d6_4 : decode jdk_35_method_24_code 4 = .ok (.lload_n 0, 1) := by decide +kernel
theorem d6_5 : decode jdk_35_method_24_code 5 = .ok (.ldc2_w 230, 3) := by decide +kernel
theorem d6_8 : decode jdk_35_method_24_code 8 = .ok (.lcmp, 1) := by decide +kernel
theorem d6_9 : decode jdk_35_method_24_code 9 = .ok (.ifCond .lt 22, 3) := by decide +kernel
theorem d6_12 : decode jdk_35_method_24_code 12 = .ok (.lload_n 0, 1) := by decide +kernel
theorem d6_13 : decode jdk_35_method_24_code 13 = .ok (.ldc2_w 232, 3) := by decide +kernel
theorem d6_16 : decode jdk_35_method_24_code 16 = .ok (.lcmp, 1) := by decide +kernel
theorem d6_17 : decode jdk_35_method_24_code 17 = .ok (.ifCond .gt 14, 3) := by decide +kernel
theorem d6_20 : decode jdk_35_method_24_code 20 = .ok (.getstatic 234, 3) := by decide +kernel
theorem d6_23 : decode jdk_35_method_24_code 23 = .ok (.lload_n 0, 1) := by decide +kernel
theorem d6_24 : decode jdk_35_method_24_code 24 = .ok (.l2i, 1) := by decide +kernel
theorem d6_25 : decode jdk_35_method_24_code 25 = .ok (.sipush 128, 3) := by decide +kernel
theorem d6_28 : decode jdk_35_method_24_code 28 = .ok (.iadd, 1) := by decide +kernel
theorem d6_29 : decode jdk_35_method_24_code 29 = .ok (.aaload, 1) := by decide +kernel
theorem d6_30 : decode jdk_35_method_24_code 30 = .ok (.areturn, 1) := by decide +kernel
theorem d6_31 : decode jdk_35_method_24_code 31 = .ok (.new 1, 3) := by decide +kernel
theorem d6_34 : decode jdk_35_method_24_code 34 = .ok (.dup, 1) := by decide +kernel
theorem d6_35 : decode jdk_35_method_24_code 35 = .ok (.lload_n 0, 1) := by decide +kernel
theorem d6_36 : decode jdk_35_method_24_code 36 = .ok (.invokespecial 240, 3) := by decide +kernel
theorem d6_39 : decode jdk_35_method_24_code 39 = .ok (.areturn, 1) := by decide +kernel
theorem pd_3 : parseMethodDescriptor "(J)V" = some ⟨[.long], none⟩ := by decide +kernel
theorem d5_0 : decode prog_16_method_5_code 0 = .ok (.aload_n 0, 1) := by decide +kernel
theorem d5_1 : decode prog_16_method_5_code 1 = .ok (.aload_n 1, 1) := by decide +kernel
theorem d5_2 : decode prog_16_method_5_code 2 = .ok (.if_acmp .ne 5, 3) := by decide +kernel
theorem d5_5 : decode prog_16_method_5_code 5 = .ok (.iconst 1, 1) := by decide +kernel
theorem d5_6 : decode prog_16_method_5_code 6 = .ok (.ireturn, 1) := by decide +kernel
theorem d5_7 : decode prog_16_method_5_code 7 = .ok (.aload_n 1, 1) := by decide +kernel
theorem d5_8 : decode prog_16_method_5_code 8 = .ok (.instanceof 8, 3) := by decide +kernel
theorem d5_11 : decode prog_16_method_5_code 11 = .ok (.ifCond .eq 11, 3) := by decide +kernel
theorem d5_14 : decode prog_16_method_5_code 14 = .ok (.aload_n 1, 1) := by decide +kernel
theorem d5_15 : decode prog_16_method_5_code 15 = .ok (.checkcast 8, 3) := by decide +kernel
theorem d5_18 : decode prog_16_method_5_code 18 = .ok (.astore_n 2, 1) := by decide +kernel
theorem d5_19 : decode prog_16_method_5_code 19 = .ok (.goto 5, 3) := by decide +kernel
theorem d5_24 : decode prog_16_method_5_code 24 = .ok (.aload_n 0, 1) := by decide +kernel
theorem d5_25 : decode prog_16_method_5_code 25 = .ok (.getfield 7, 3) := by decide +kernel
theorem d5_28 : decode prog_16_method_5_code 28 = .ok (.aload_n 2, 1) := by decide +kernel
theorem d5_29 : decode prog_16_method_5_code 29 = .ok (.getfield 7, 3) := by decide +kernel
theorem d5_32 : decode prog_16_method_5_code 32 = .ok (.lcmp, 1) := by decide +kernel
theorem d5_33 : decode prog_16_method_5_code 33 = .ok (.ifCond .ne 30, 3) := by decide +kernel
theorem d5_36 : decode prog_16_method_5_code 36 = .ok (.aload_n 0, 1) := by decide +kernel
theorem d5_37 : decode prog_16_method_5_code 37 = .ok (.getfield 23, 3) := by decide +kernel
theorem d5_40 : decode prog_16_method_5_code 40 = .ok (.aload_n 2, 1) := by decide +kernel
theorem d5_41 : decode prog_16_method_5_code 41 = .ok (.getfield 23, 3) := by decide +kernel
theorem d5_44 : decode prog_16_method_5_code 44 = .ok (.if_acmp .ne 19, 3) := by decide +kernel
theorem d5_47 : decode prog_16_method_5_code 47 = .ok (.aload_n 0, 1) := by decide +kernel
theorem d5_48 : decode prog_16_method_5_code 48 = .ok (.getfield 26, 3) := by decide +kernel
theorem d5_51 : decode prog_16_method_5_code 51 = .ok (.aload_n 2, 1) := by decide +kernel
theorem d5_52 : decode prog_16_method_5_code 52 = .ok (.getfield 26, 3) := by decide +kernel
theorem d5_55 : decode prog_16_method_5_code 55 = .ok (.lcmp, 1) := by decide +kernel
theorem d5_56 : decode prog_16_method_5_code 56 = .ok (.ifCond .ne 7, 3) := by decide +kernel
theorem d5_59 : decode prog_16_method_5_code 59 = .ok (.iconst 1, 1) := by decide +kernel
theorem d5_60 : decode prog_16_method_5_code 60 = .ok (.goto 4, 3) := by decide +kernel
theorem d5_63 : decode prog_16_method_5_code 63 = .ok (.iconst 0, 1) := by decide +kernel
theorem d5_64 : decode prog_16_method_5_code 64 = .ok (.ireturn, 1) := by decide +kernel
theorem d5_22 : decode prog_16_method_5_code 22 = .ok (.iconst 0, 1) := by decide +kernel
theorem d5_23 : decode prog_16_method_5_code 23 = .ok (.ireturn, 1) := by decide +kernel
theorem pd_1 : parseMethodDescriptor "(I)Lcom/example/daylily/daylily/engine/PackageState;" = some ⟨[.int], some (.object "com/example/daylily/daylily/engine/PackageState")⟩ := by decide +kernel
theorem pd_4 : parseMethodDescriptor "(JLcom/example/daylily/daylily/engine/PackageState;J)V" = some ⟨[.long, (.object "com/example/daylily/daylily/engine/PackageState"), .long], none⟩ := by decide +kernel
theorem pd_5 : parseMethodDescriptor "(Ljava/lang/Object;)Z" = some ⟨[(.object "java/lang/Object")], some .boolean⟩ := by decide +kernel
theorem pd_2 : parseMethodDescriptor "(J)Ljava/lang/Long;" = some ⟨[.long], some (.object "java/lang/Long")⟩ := by decide +kernel
theorem own_wS {Z : State} {a0 : Array Value} (hw : ∀ d ∈ tables_1, d.before a0 Z = true) : ∀ a ∈ Bundle.stringAtoms, a.before a0 Z = true := fun d hd => by
  simp only [Bundle.stringAtoms, List.mem_cons, List.not_mem_nil, or_false] at hd
  rcases hd with rfl | rfl | rfl | rfl | rfl | rfl | rfl
  · exact (hw _ (List.mem_of_getElem? (i := 19) rfl))
  · exact (hw _ (List.mem_of_getElem? (i := 20) rfl))
  · exact (hw _ (List.mem_of_getElem? (i := 21) rfl))
  · exact (hw _ (List.mem_of_getElem? (i := 22) rfl))
  · exact (hw _ (List.mem_of_getElem? (i := 23) rfl))
  · exact (hw _ (List.mem_of_getElem? (i := 24) rfl))
  · exact (hw _ (List.mem_of_getElem? (i := 25) rfl))
def own_st (k : Int32) (u_ACTIVE u_STOPPING u_RETRYING u_ENDED : Addr) : Addr := if k = (0 : Int32) then u_ACTIVE else (if k = (1 : Int32) then u_STOPPING else (if k = (2 : Int32) then u_RETRYING else u_ENDED))
theorem ef_1 (p1 : Int32) (m : MethodId) : entryFrame m #[(.int p1)] 1 = mkF m 0 #[.val (.int p1)] [] := by first | (simp [entryFrame, mkF, argsToLocals, Value.category]; done) | rfl
def Q1 (Z : State) (p1 : Int32) (u_ACTIVE : Addr) (u_STOPPING : Addr) (u_RETRYING : Addr) (u_ENDED : Addr) (h0 : Heap) (n0 : Nat) (v : Option Value) (h : Heap) (L : List Loc) : Prop := ∃ (rr : Addr), v = some (.ref rr) ∧ Fr n0 L ∧ Keep h0 h [] ∧ Exa Z h rr "com/example/daylily/daylily/engine/PackageState" ∧ rr = own_st p1 u_ACTIVE u_STOPPING u_RETRYING u_ENDED
set_option maxRecDepth 65536 in
set_option maxHeartbeats 40000000 in
theorem rm1 (l : Launch) (Z : State) (a0 : Array Value) (hw : ∀ d ∈ tables_1, d.before a0 Z = true) (p1 : Int32) (u_ACTIVE : Addr) (u_STOPPING : Addr) (u_RETRYING : Addr) (u_ENDED : Addr) (h0 : Heap) (n0 : Nat) (Zs : n0 ≤ h0.size) (S_ACTIVE : Sta Z h0 "com/example/daylily/daylily/engine/PackageState" "ACTIVE" "Lcom/example/daylily/daylily/engine/PackageState;" (.ref u_ACTIVE)) (S_STOPPING : Sta Z h0 "com/example/daylily/daylily/engine/PackageState" "STOPPING" "Lcom/example/daylily/daylily/engine/PackageState;" (.ref u_STOPPING)) (S_RETRYING : Sta Z h0 "com/example/daylily/daylily/engine/PackageState" "RETRYING" "Lcom/example/daylily/daylily/engine/PackageState;" (.ref u_RETRYING)) (S_ENDED : Sta Z h0 "com/example/daylily/daylily/engine/PackageState" "ENDED" "Lcom/example/daylily/daylily/engine/PackageState;" (.ref u_ENDED)) (E_u_ACTIVE : Exa Z h0 u_ACTIVE "com/example/daylily/daylily/engine/PackageState") (E_u_STOPPING : Exa Z h0 u_STOPPING "com/example/daylily/daylily/engine/PackageState") (E_u_RETRYING : Exa Z h0 u_RETRYING "com/example/daylily/daylily/engine/PackageState") (E_u_ENDED : Exa Z h0 u_ENDED "com/example/daylily/daylily/engine/PackageState") :
    Met1 l Z (⟨"com/example/daylily/daylily/engine/StandingEqualsPinLaw", "st", "(I)Lcom/example/daylily/daylily/engine/PackageState;"⟩ : MethodName) method_2_code 1 (some (.object "com/example/daylily/daylily/engine/PackageState")) ({ frames := 0, cells := 0, slots := 0, locals := 0 } : Room) #[(.int p1)] h0 (Q1 Z p1 u_ACTIVE u_STOPPING u_RETRYING u_ENDED h0 n0) := by
  refine own_met_of (plainFor_of_name pn_1) (ef_1 p1) ?_
  intro p e s m below meth c s₁ X hx hby hml hZ hown hnm hret hlk eT
  have hown : s.vm.findClass "com/example/daylily/daylily/engine/StandingEqualsPinLaw" = some m.cls := hown
  have N := Fr.nil n0
  have K := Keep.refl h0 []
  refine own_iloadN X hx hby p1 d1_0 rfl 1 rfl ?_
  refine own_if_ne X hx hby d1_1 8 4 (by decide) rfl (fun c1 => ?_) (fun c1 => ?_)
  · skip
    refine own_iloadN X hx hby p1 d1_8 rfl 9 rfl ?_
    refine own_iconst X hx hby (1 : Int32) d1_9 rfl 10 rfl ?_
    refine own_icmp_ne X hx hby d1_10 17 13 (by decide) rfl (fun c10 => ?_) (fun c10 => ?_)
    · skip
      refine own_iloadN X hx hby p1 d1_17 rfl 18 rfl ?_
      refine own_iconst X hx hby (2 : Int32) d1_18 rfl 19 rfl ?_
      refine own_icmp_ne X hx hby d1_19 26 22 (by decide) rfl (fun c19 => ?_) (fun c19 => ?_)
      · skip
        refine own_getS X hx hby hZ hown (host := "") (Or.inl (hw _ (List.mem_of_getElem? (i := 7) rfl))) Via.refl eT S_ENDED d1_26 29 rfl ?_
        intro T26 X eT
        refine own_retA X hx hby hret hlk rfl rfl rfl d1_29 (by decide) (by decide) ?_
        rw [eT]
        exact ⟨u_ENDED, rfl, N, (Keep.refl _ _), E_u_ENDED, (by unfold own_st; rw [if_neg c1, if_neg c10, if_neg c19])⟩
      · skip
        refine own_getS X hx hby hZ hown (host := "") (Or.inl (hw _ (List.mem_of_getElem? (i := 73) rfl))) Via.refl eT S_RETRYING d1_22 25 rfl ?_
        intro T22 X eT
        refine own_retA X hx hby hret hlk rfl rfl rfl d1_25 (by decide) (by decide) ?_
        rw [eT]
        exact ⟨u_RETRYING, rfl, N, (Keep.refl _ _), E_u_RETRYING, (by unfold own_st; rw [if_neg c1, if_neg c10, if_pos c19])⟩
    · skip
      refine own_getS X hx hby hZ hown (host := "") (Or.inl (hw _ (List.mem_of_getElem? (i := 45) rfl))) Via.refl eT S_STOPPING d1_13 16 rfl ?_
      intro T13 X eT
      refine own_retA X hx hby hret hlk rfl rfl rfl d1_16 (by decide) (by decide) ?_
      rw [eT]
      exact ⟨u_STOPPING, rfl, N, (Keep.refl _ _), E_u_STOPPING, (by unfold own_st; rw [if_neg c1, if_pos c10])⟩
  · skip
    refine own_getS X hx hby hZ hown (host := "") (Or.inl (hw _ (List.mem_of_getElem? (i := 36) rfl))) Via.refl eT S_ACTIVE d1_4 7 rfl ?_
    intro T4 X eT
    refine own_retA X hx hby hret hlk rfl rfl rfl d1_7 (by decide) (by decide) ?_
    rw [eT]
    exact ⟨u_ACTIVE, rfl, N, (Keep.refl _ _), E_u_ACTIVE, (by unfold own_st; rw [if_pos c1])⟩
theorem ef_4 (a1 : Addr) (a2 : Addr) (m : MethodId) : entryFrame m #[(.ref a1), (.ref a2)] 2 = mkF m 0 #[.val (.ref a1), .val (.ref a2)] [] := by first | (simp [entryFrame, mkF, argsToLocals, Value.category]; done) | rfl
def Q4 (Z : State) (a1 : Addr) (a2 : Addr) (h0 : Heap) (n0 : Nat) (v : Option Value) (h : Heap) (L : List Loc) : Prop := v = some (.ref a1) ∧ Fr n0 L ∧ h = h0
set_option maxRecDepth 65536 in
set_option maxHeartbeats 40000000 in
theorem rm4 (l : Launch) (Z : State) (a0 : Array Value) (hw : ∀ d ∈ tables_1, d.before a0 Z = true) (a1 : Addr) (a2 : Addr) (h0 : Heap) (n0 : Nat) (Zs : n0 ≤ h0.size) :
    Met1 l Z (⟨"java/util/Objects", "requireNonNull", "(Ljava/lang/Object;Ljava/lang/String;)Ljava/lang/Object;"⟩ : MethodName) jdk_31_method_11_code 2 (some (.object "java/lang/Object")) ({ frames := 0, cells := 0, slots := 0, locals := 0 } : Room) #[(.ref a1), (.ref a2)] h0 (Q4 Z a1 a2 h0 n0) := by
  refine own_met_of (plainFor_of_name pn_4) (ef_4 a1 a2) ?_
  intro p e s m below meth c s₁ X hx hby hml hZ hown hnm hret hlk eT
  have hown : s.vm.findClass "java/util/Objects" = some m.cls := hown
  have N := Fr.nil n0
  refine own_aloadN X hx hby (.ref a1) d4_0 rfl rfl 1 rfl ?_
  refine own_ifnonnullY X hx hby d4_1 13 (by decide) ?_
  refine own_aloadN X hx hby (.ref a1) d4_13 rfl rfl 14 rfl ?_
  refine own_retA X hx hby hret hlk rfl rfl rfl d4_14 (by decide) (by decide) ?_
  rw [eT]
  exact ⟨rfl, N, rfl⟩
theorem ef_2 (a1 : Addr) (q2 : Int64) (a3 : Addr) (q4 : Int64) (m : MethodId) : entryFrame m #[(.ref a1), (.long q2), (.ref a3), (.long q4)] 6 = mkF m 0 #[.val (.ref a1), .val (.long q2), .second, .val (.ref a3), .val (.long q4), .second] [] := by first | (simp [entryFrame, mkF, argsToLocals, Value.category]; done) | rfl
def Q2 (Z : State) (a1 : Addr) (q2 : Int64) (a3 : Addr) (q4 : Int64) (w_period_a1 : Int64) (w_cyclesAfter_a1 : Int64) (h0 : Heap) (n0 : Nat) (v : Option Value) (h : Heap) (L : List Loc) : Prop := v = none ∧ Fr n0 L ∧ Keep h0 h [a1] ∧ Exa Z h a1 "com/example/daylily/daylily/engine/Standing" ∧ Fld Z h a1 "com/example/daylily/daylily/engine/Standing" "period" "J" (.long q2) ∧ Fld Z h a1 "com/example/daylily/daylily/engine/Standing" "state" "Lcom/example/daylily/daylily/engine/PackageState;" (.ref a3) ∧ Fld Z h a1 "com/example/daylily/daylily/engine/Standing" "cyclesAfter" "J" (.long q4)
set_option maxRecDepth 65536 in
set_option maxHeartbeats 40000000 in
theorem rm2 (l : Launch) (Z : State) (a0 : Array Value) (hw : ∀ d ∈ tables_1, d.before a0 Z = true) (a1 : Addr) (q2 : Int64) (a3 : Addr) (q4 : Int64) (w_period_a1 : Int64) (w_cyclesAfter_a1 : Int64) (h0 : Heap) (n0 : Nat) (Zs : n0 ≤ h0.size) (E_a1 : Exa Z h0 a1 "com/example/daylily/daylily/engine/Standing") (F_period_a1 : Fld Z h0 a1 "com/example/daylily/daylily/engine/Standing" "period" "J" (.long w_period_a1)) (F_state_a1 : Fld Z h0 a1 "com/example/daylily/daylily/engine/Standing" "state" "Lcom/example/daylily/daylily/engine/PackageState;" .null) (F_cyclesAfter_a1 : Fld Z h0 a1 "com/example/daylily/daylily/engine/Standing" "cyclesAfter" "J" (.long w_cyclesAfter_a1)) (g_a1 : n0 ≤ a1) (E_a3 : Exa Z h0 a3 "com/example/daylily/daylily/engine/PackageState") :
    Met1W l Z (⟨"com/example/daylily/daylily/engine/Standing", "<init>", "(JLcom/example/daylily/daylily/engine/PackageState;J)V"⟩ : MethodName) prog_16_method_1_code 6 none ({ frames := 1, cells := 2, slots := 24, locals := 14 } : Room) #[(.ref a1), (.long q2), (.ref a3), (.long q4)] h0 (Q2 Z a1 q2 a3 q4 w_period_a1 w_cyclesAfter_a1 h0 n0) := by
  refine own_met_ofW (plainFor_of_name pn_2) (ef_2 a1 q2 a3 q4) ?_
  intro p e s m below meth c s₁ vm0 X hx hby hml hZ hown hnm hret hlk eT hS hs0
  have hown : (s.setVm vm0).vm.findClass "com/example/daylily/daylily/engine/Standing" = some m.cls := hown
  have hk : 0 ≤ h0.size := Nat.zero_le _
  have N := Fr.nil n0
  have K := Keep.refl h0 [a1]
  have ne_a1_a3 : a1 ≠ a3 := ne_exa E_a1 E_a3 (by decide)
  refine own_aloadN X hx hby (.ref a1) d2_0 rfl rfl 1 rfl ?_
  refine own_initO X hx hby hZ hown (hw _ (List.mem_of_getElem? (i := 13) rfl)) (hw _ (List.mem_of_getElem? (i := 14) rfl)) (hw _ (List.mem_of_getElem? (i := 15) rfl)) eT (by rw [hml]; rfl) d2_1 (by decide) 0 rfl (by decide) 4 rfl ?_
  intro T1 X eT
  refine own_aloadN X hx hby (.ref a1) d2_4 rfl rfl 5 rfl ?_
  refine own_lloadN X hx hby q2 d2_5 rfl 6 rfl ?_
  refine own_putF X hx hby hZ hown (host := "") (Or.inl (hw _ (List.mem_of_getElem? (i := 16) rfl))) Via.refl eT F_period_a1 E_a1 (Or.inr ⟨(hw _ (List.mem_of_getElem? (i := 17) rfl)), rfl, hnm⟩) (hw _ (List.mem_of_getElem? (i := 1) rfl)) (ty := .long) (by decide) rfl rfl d2_6 9 rfl ?_
  intro T6 h6 X eT W
  have hk := Nat.le_trans hk (Keep.of_wr W).1
  have E_a1 := E_a1.wr W
  have F_period_a1 := F_period_a1.same W
  have F_state_a1 := F_state_a1.other W (Or.inr (slot_ne (Or.inr (hw _ (List.mem_of_getElem? (i := 33) rfl))) (Or.inr (hw _ (List.mem_of_getElem? (i := 17) rfl))) (by decide) (t := (.object "com/example/daylily/daylily/engine/PackageState")) (t' := .long) (by decide) (by decide)))
  have F_cyclesAfter_a1 := F_cyclesAfter_a1.other W (Or.inr (slot_ne (Or.inr (hw _ (List.mem_of_getElem? (i := 35) rfl))) (Or.inr (hw _ (List.mem_of_getElem? (i := 17) rfl))) (by decide) (t := .long) (t' := .long) (by decide) (by decide)))
  have E_a3 := E_a3.wr W
  have N := Fr.snoc X N g_a1
  have K := K.wr W (Or.inl (List.mem_of_getElem? (i := 0) rfl))
  have Zs := Nat.le_trans Zs (Keep.of_wr W).1
  refine own_aloadN X hx hby (.ref a1) d2_9 rfl rfl 10 rfl ?_
  refine own_aloadN X hx hby (.ref a3) d2_10 rfl rfl 11 rfl ?_
  refine own_ldcS X hx hby hZ hown (hw _ (List.mem_of_getElem? (i := 18) rfl)) (own_wS hw) eT hS hk d2_11 20 (by decide) (by decide) (by decide) (by decide) 13 rfl ?_
  intro T11 h11 lit11 vm11 k11 X eT Ex hS hk hZ hown
  have E_a1 := E_a1.ext Ex
  have F_period_a1 := F_period_a1.ext Ex
  have F_state_a1 := F_state_a1.ext Ex
  have F_cyclesAfter_a1 := F_cyclesAfter_a1.ext Ex
  have E_a3 := E_a3.ext Ex
  have K := K.ext Ex
  have Zs := Nat.le_trans Zs Ex.1
  refine own_callS X hx hby hZ (st := [(.ref a1)]) [(.ref a3), (.ref lit11)] rfl hown (hw _ (List.mem_of_getElem? (i := 26) rfl)) (hw _ (List.mem_of_getElem? (i := 27) rfl)) (hw _ (List.mem_of_getElem? (i := 28) rfl)) (hw _ (List.mem_of_getElem? (i := 29) rfl)) (by decide) d2_13 (rm4 l Z a0 hw a3 lit11 h11 n0 Zs ) eT pd_6 rfl (by rw [hml]; rfl) (by decide) 1 rfl (by decide) (by decide) (by decide) 16 rfl ?_
  intro T13 L9 v9 X hQ
  obtain ⟨rfl, N9, eT⟩ := hQ
  have N := Fr.app N N9
  show Go p e below _ T13 (mkF m 16 #[.val (.ref a1), .val (.long q2), .second, .val (.ref a3), .val (.long q4), .second] [(.ref a3), (.ref a1)])
  refine own_castY X hx hby hZ hown (hw _ (List.mem_of_getElem? (i := 30) rfl)) eT (Ins.self E_a3) d2_16 19 rfl ?_
  intro T16 X eT
  refine own_putF X hx hby hZ hown (host := "") (Or.inl (hw _ (List.mem_of_getElem? (i := 32) rfl))) Via.refl eT F_state_a1 E_a1 (Or.inr ⟨(hw _ (List.mem_of_getElem? (i := 33) rfl)), rfl, hnm⟩) (hw _ (List.mem_of_getElem? (i := 1) rfl)) (ty := (.object "com/example/daylily/daylily/engine/PackageState")) (by decide) rfl rfl d2_19 22 rfl ?_
  intro T19 h19 X eT W
  have hk := Nat.le_trans hk (Keep.of_wr W).1
  have E_a1 := E_a1.wr W
  have F_period_a1 := F_period_a1.other W (Or.inr (slot_ne (Or.inr (hw _ (List.mem_of_getElem? (i := 17) rfl))) (Or.inr (hw _ (List.mem_of_getElem? (i := 33) rfl))) (by decide) (t := .long) (t' := (.object "com/example/daylily/daylily/engine/PackageState")) (by decide) (by decide)))
  have F_state_a1 := F_state_a1.same W
  have F_cyclesAfter_a1 := F_cyclesAfter_a1.other W (Or.inr (slot_ne (Or.inr (hw _ (List.mem_of_getElem? (i := 35) rfl))) (Or.inr (hw _ (List.mem_of_getElem? (i := 33) rfl))) (by decide) (t := .long) (t' := (.object "com/example/daylily/daylily/engine/PackageState")) (by decide) (by decide)))
  have E_a3 := E_a3.wr W
  have N := Fr.snoc X N g_a1
  have K := K.wr W (Or.inl (List.mem_of_getElem? (i := 0) rfl))
  have Zs := Nat.le_trans Zs (Keep.of_wr W).1
  refine own_aloadN X hx hby (.ref a1) d2_22 rfl rfl 23 rfl ?_
  refine own_lload X hx hby q4 d2_23 rfl 25 rfl ?_
  refine own_putF X hx hby hZ hown (host := "") (Or.inl (hw _ (List.mem_of_getElem? (i := 34) rfl))) Via.refl eT F_cyclesAfter_a1 E_a1 (Or.inr ⟨(hw _ (List.mem_of_getElem? (i := 35) rfl)), rfl, hnm⟩) (hw _ (List.mem_of_getElem? (i := 1) rfl)) (ty := .long) (by decide) rfl rfl d2_25 28 rfl ?_
  intro T25 h25 X eT W
  have hk := Nat.le_trans hk (Keep.of_wr W).1
  have E_a1 := E_a1.wr W
  have F_period_a1 := F_period_a1.other W (Or.inr (slot_ne (Or.inr (hw _ (List.mem_of_getElem? (i := 17) rfl))) (Or.inr (hw _ (List.mem_of_getElem? (i := 35) rfl))) (by decide) (t := .long) (t' := .long) (by decide) (by decide)))
  have F_state_a1 := F_state_a1.other W (Or.inr (slot_ne (Or.inr (hw _ (List.mem_of_getElem? (i := 33) rfl))) (Or.inr (hw _ (List.mem_of_getElem? (i := 35) rfl))) (by decide) (t := (.object "com/example/daylily/daylily/engine/PackageState")) (t' := .long) (by decide) (by decide)))
  have F_cyclesAfter_a1 := F_cyclesAfter_a1.same W
  have E_a3 := E_a3.wr W
  have N := Fr.snoc X N g_a1
  have K := K.wr W (Or.inl (List.mem_of_getElem? (i := 0) rfl))
  have Zs := Nat.le_trans Zs (Keep.of_wr W).1
  refine own_retW X hx hby hS (by rw [eT]; exact hk) hret hlk d2_28 (by decide) (by decide) ?_
  rw [eT]
  exact ⟨rfl, N, K, E_a1, F_period_a1, F_state_a1, F_cyclesAfter_a1⟩
theorem ef_8 (a1 : Addr) (m : MethodId) : entryFrame m #[(.ref a1)] 1 = mkF m 0 #[.val (.ref a1)] [] := by first | (simp [entryFrame, mkF, argsToLocals, Value.category]; done) | rfl
def Q8 (Z : State) (a1 : Addr) (h0 : Heap) (n0 : Nat) (v : Option Value) (h : Heap) (L : List Loc) : Prop := v = none ∧ Fr n0 L ∧ h = h0
set_option maxRecDepth 65536 in
set_option maxHeartbeats 40000000 in
theorem rm8 (l : Launch) (Z : State) (a0 : Array Value) (hw : ∀ d ∈ tables_1, d.before a0 Z = true) (a1 : Addr) (h0 : Heap) (n0 : Nat) (Zs : n0 ≤ h0.size) :
    Met1 l Z (⟨"java/lang/Number", "<init>", "()V"⟩ : MethodName) jdk_18_method_1_code 1 none ({ frames := 1, cells := 0, slots := 0, locals := 12 } : Room) #[(.ref a1)] h0 (Q8 Z a1 h0 n0) := by
  refine own_met_of (plainFor_of_name pn_8) (ef_8 a1) ?_
  intro p e s m below meth c s₁ X hx hby hml hZ hown hnm hret hlk eT
  have hown : s.vm.findClass "java/lang/Number" = some m.cls := hown
  have N := Fr.nil n0
  refine own_aloadN X hx hby (.ref a1) d8_0 rfl rfl 1 rfl ?_
  refine own_initO X hx hby hZ hown (hw _ (List.mem_of_getElem? (i := 65) rfl)) (hw _ (List.mem_of_getElem? (i := 14) rfl)) (hw _ (List.mem_of_getElem? (i := 15) rfl)) eT (by rw [hml]; rfl) d8_1 (by decide) 0 rfl (by decide) 4 rfl ?_
  intro T1 X eT
  refine own_ret X hx hby hret hlk d8_4 (by decide) (by decide) ?_
  rw [eT]
  exact ⟨rfl, N, rfl⟩
theorem ef_7 (a1 : Addr) (q2 : Int64) (m : MethodId) : entryFrame m #[(.ref a1), (.long q2)] 3 = mkF m 0 #[.val (.ref a1), .val (.long q2), .second] [] := by first | (simp [entryFrame, mkF, argsToLocals, Value.category]; done) | rfl
def Q7 (Z : State) (a1 : Addr) (q2 : Int64) (w_value_a1 : Int64) (h0 : Heap) (n0 : Nat) (v : Option Value) (h : Heap) (L : List Loc) : Prop := v = none ∧ Fr n0 L ∧ Keep h0 h [a1] ∧ Exa Z h a1 "java/lang/Long" ∧ Fld Z h a1 "java/lang/Long" "value" "J" (.long q2)
set_option maxRecDepth 65536 in
set_option maxHeartbeats 40000000 in
theorem rm7 (l : Launch) (Z : State) (a0 : Array Value) (hw : ∀ d ∈ tables_1, d.before a0 Z = true) (a1 : Addr) (q2 : Int64) (w_value_a1 : Int64) (h0 : Heap) (n0 : Nat) (Zs : n0 ≤ h0.size) (E_a1 : Exa Z h0 a1 "java/lang/Long") (F_value_a1 : Fld Z h0 a1 "java/lang/Long" "value" "J" (.long w_value_a1)) (g_a1 : n0 ≤ a1) :
    Met1 l Z (⟨"java/lang/Long", "<init>", "(J)V"⟩ : MethodName) jdk_35_method_26_code 3 none ({ frames := 2, cells := 0, slots := 0, locals := 24 } : Room) #[(.ref a1), (.long q2)] h0 (Q7 Z a1 q2 w_value_a1 h0 n0) := by
  refine own_met_of (plainFor_of_name pn_7) (ef_7 a1 q2) ?_
  intro p e s m below meth c s₁ X hx hby hml hZ hown hnm hret hlk eT
  have hown : s.vm.findClass "java/lang/Long" = some m.cls := hown
  have N := Fr.nil n0
  have K := Keep.refl h0 [a1]
  refine own_aloadN X hx hby (.ref a1) d7_0 rfl rfl 1 rfl ?_
  refine own_callC X hx hby hZ (st := []) [] rfl rfl hown (hw _ (List.mem_of_getElem? (i := 59) rfl)) (hw _ (List.mem_of_getElem? (i := 60) rfl)) (hw _ (List.mem_of_getElem? (i := 63) rfl)) (hw _ (List.mem_of_getElem? (i := 64) rfl)) (by decide) d7_1 (rm8 l Z a0 hw a1 h0 n0 Zs ) eT pd_0 rfl (by rw [hml]; rfl) (by decide) 0 rfl (by decide) (by decide) (by decide) 4 rfl ?_
  intro T1 L9 v9 X hQ
  obtain ⟨rfl, N9, eT⟩ := hQ
  have N := Fr.app N N9
  show Go p e below _ T1 (mkF m 4 #[.val (.ref a1), .val (.long q2), .second] [])
  refine own_aloadN X hx hby (.ref a1) d7_4 rfl rfl 5 rfl ?_
  refine own_lloadN X hx hby q2 d7_5 rfl 6 rfl ?_
  refine own_putF X hx hby hZ hown (host := "") (Or.inl (hw _ (List.mem_of_getElem? (i := 66) rfl))) Via.refl eT F_value_a1 E_a1 (Or.inr ⟨(hw _ (List.mem_of_getElem? (i := 67) rfl)), rfl, hnm⟩) (hw _ (List.mem_of_getElem? (i := 54) rfl)) (ty := .long) (by decide) rfl rfl d7_6 9 rfl ?_
  intro T6 h6 X eT W
  have E_a1 := E_a1.wr W
  have F_value_a1 := F_value_a1.same W
  have N := Fr.snoc X N g_a1
  have K := K.wr W (Or.inl (List.mem_of_getElem? (i := 0) rfl))
  have Zs := Nat.le_trans Zs (Keep.of_wr W).1
  refine own_ret X hx hby hret hlk d7_9 (by decide) (by decide) ?_
  rw [eT]
  exact ⟨rfl, N, K, E_a1, F_value_a1⟩
theorem ef_6 (q1 : Int64) (m : MethodId) : entryFrame m #[(.long q1)] 3 = mkF m 0 #[.val (.long q1), .second, .unset] [] := by first | (simp [entryFrame, mkF, argsToLocals, Value.category]; done) | rfl
def Q6 (Z : State) (q1 : Int64) (u_cache : Addr) (fc : Nat → Value) (h0 : Heap) (n0 : Nat) (v : Option Value) (h : Heap) (L : List Loc) : Prop := ∃ (rr : Addr), v = some (.ref rr) ∧ Fr n0 L ∧ Keep h0 h [] ∧ Exa Z h rr "java/lang/Long"
set_option maxRecDepth 65536 in
set_option maxHeartbeats 40000000 in
theorem rm6 (l : Launch) (Z : State) (a0 : Array Value) (hw : ∀ d ∈ tables_1, d.before a0 Z = true) (q1 : Int64) (u_cache : Addr) (fc : Nat → Value) (h0 : Heap) (n0 : Nat) (Zs : n0 ≤ h0.size) (A_cache : Afn Z h0 u_cache (.object "java/lang/Long") 256 fc) (hfc : ∀ i, i < 256 → ∃ r : Addr, fc i = .ref r ∧ Exa Z h0 r "java/lang/Long") (S_cache : Sta Z h0 "java/lang/Long$LongCache" "cache" "[Ljava/lang/Long;" (.ref u_cache)) :
    Met1 l Z (⟨"java/lang/Long", "valueOf", "(J)Ljava/lang/Long;"⟩ : MethodName) jdk_35_method_24_code 3 (some (.object "java/lang/Long")) ({ frames := 3, cells := 1, slots := 1, locals := 39 } : Room) #[(.long q1)] h0 (Q6 Z q1 u_cache fc h0 n0) := by
  refine own_met_of (plainFor_of_name pn_7) (ef_6 q1) ?_
  intro p e s m below meth c s₁ X hx hby hml hZ hown hnm hret hlk eT
  have hown : s.vm.findClass "java/lang/Long" = some m.cls := hown
  have N := Fr.nil n0
  have K := Keep.refl h0 []
  refine own_sipush X hx hby (128 : Int32) d6_0 rfl 3 rfl ?_
  refine own_istoreN X hx hby d6_3 rfl (l' := #[.val (.long q1), .second, .val (.int (128 : Int32))]) rfl 4 rfl ?_
  refine own_lloadN X hx hby q1 d6_4 rfl 5 rfl ?_
  refine own_ldc2 X hx hby hZ (-128 : Int64) hown (hw _ (List.mem_of_getElem? (i := 51) rfl)) d6_5 8 rfl ?_
  refine own_lcmp_lt X hx hby d6_8 d6_9 31 12 (by decide) rfl (fun c9 => ?_) (fun c9 => ?_)
  · skip
    refine own_new X hx hby hZ hown (hw _ (List.mem_of_getElem? (i := 53) rfl)) (hw _ (List.mem_of_getElem? (i := 54) rfl)) (hw _ (List.mem_of_getElem? (i := 49) rfl)) eT d6_31 (by decide) (by decide) 34 rfl ?_
    intro T31 h31 b31 gb31 X eT Ex A D
    have g_b31 : n0 ≤ b31 := by rw [gb31]; exact Zs
    have sz_b31 : h0.size ≤ b31 := by rw [gb31]; exact K.1
    have E_b31 := A
    have F_value_b31 : Fld Z h31 b31 "java/lang/Long" "value" "J" (.long (0 : Int64)) := D (Or.inr (hw _ (List.mem_of_getElem? (i := 67) rfl))) (ty := .long) (by decide)
    have K := K.ext Ex
    have Zs := Nat.le_trans Zs Ex.1
    refine own_dup X hx hby d6_34 rfl 35 rfl ?_
    refine own_lloadN X hx hby q1 d6_35 rfl 36 rfl ?_
    refine own_callC X hx hby hZ (st := [(.ref b31)]) [(.long q1)] rfl rfl hown (hw _ (List.mem_of_getElem? (i := 55) rfl)) (hw _ (List.mem_of_getElem? (i := 56) rfl)) (hw _ (List.mem_of_getElem? (i := 49) rfl)) (hw _ (List.mem_of_getElem? (i := 58) rfl)) (by decide) d6_36 (rm7 l Z a0 hw b31 q1 (0 : Int64) h31 n0 Zs E_b31 F_value_b31 g_b31) eT pd_3 rfl (by rw [hml]; rfl) (by decide) 1 rfl (by decide) (by decide) (by decide) 39 rfl ?_
    intro T36 L9 v9 X hQ
    obtain ⟨h36, eT⟩ : ∃ z, T36.heap = z := ⟨_, rfl⟩
    rw [eT] at hQ
    obtain ⟨rfl, N9, Kc, E_b31, F_value_b31⟩ := hQ
    have K := K.trans Kc (allS (Or.inr sz_b31) all0)
    have Zs := Nat.le_trans Zs Kc.1
    have N := Fr.app N N9
    show Go p e below _ T36 (mkF m 39 #[.val (.long q1), .second, .val (.int (128 : Int32))] [(.ref b31)])
    refine own_retA X hx hby hret hlk rfl rfl rfl d6_39 (by decide) (by decide) ?_
    rw [eT]
    exact ⟨b31, rfl, N, K, E_b31⟩
  · skip
    refine own_lloadN X hx hby q1 d6_12 rfl 13 rfl ?_
    refine own_ldc2 X hx hby hZ (127 : Int64) hown (hw _ (List.mem_of_getElem? (i := 52) rfl)) d6_13 16 rfl ?_
    refine own_lcmp_gt X hx hby d6_16 d6_17 31 20 (by decide) rfl (fun c17 => ?_) (fun c17 => ?_)
    · skip
      refine own_new X hx hby hZ hown (hw _ (List.mem_of_getElem? (i := 53) rfl)) (hw _ (List.mem_of_getElem? (i := 54) rfl)) (hw _ (List.mem_of_getElem? (i := 49) rfl)) eT d6_31 (by decide) (by decide) 34 rfl ?_
      intro T31 h31 b31 gb31 X eT Ex A D
      have g_b31 : n0 ≤ b31 := by rw [gb31]; exact Zs
      have sz_b31 : h0.size ≤ b31 := by rw [gb31]; exact K.1
      have E_b31 := A
      have F_value_b31 : Fld Z h31 b31 "java/lang/Long" "value" "J" (.long (0 : Int64)) := D (Or.inr (hw _ (List.mem_of_getElem? (i := 67) rfl))) (ty := .long) (by decide)
      have K := K.ext Ex
      have Zs := Nat.le_trans Zs Ex.1
      refine own_dup X hx hby d6_34 rfl 35 rfl ?_
      refine own_lloadN X hx hby q1 d6_35 rfl 36 rfl ?_
      refine own_callC X hx hby hZ (st := [(.ref b31)]) [(.long q1)] rfl rfl hown (hw _ (List.mem_of_getElem? (i := 55) rfl)) (hw _ (List.mem_of_getElem? (i := 56) rfl)) (hw _ (List.mem_of_getElem? (i := 49) rfl)) (hw _ (List.mem_of_getElem? (i := 58) rfl)) (by decide) d6_36 (rm7 l Z a0 hw b31 q1 (0 : Int64) h31 n0 Zs E_b31 F_value_b31 g_b31) eT pd_3 rfl (by rw [hml]; rfl) (by decide) 1 rfl (by decide) (by decide) (by decide) 39 rfl ?_
      intro T36 L9 v9 X hQ
      obtain ⟨h36, eT⟩ : ∃ z, T36.heap = z := ⟨_, rfl⟩
      rw [eT] at hQ
      obtain ⟨rfl, N9, Kc, E_b31, F_value_b31⟩ := hQ
      have K := K.trans Kc (allS (Or.inr sz_b31) all0)
      have Zs := Nat.le_trans Zs Kc.1
      have N := Fr.app N N9
      show Go p e below _ T36 (mkF m 39 #[.val (.long q1), .second, .val (.int (128 : Int32))] [(.ref b31)])
      refine own_retA X hx hby hret hlk rfl rfl rfl d6_39 (by decide) (by decide) ?_
      rw [eT]
      exact ⟨b31, rfl, N, K, E_b31⟩
    · skip
      refine own_getS X hx hby hZ hown (host := "") (Or.inl (hw _ (List.mem_of_getElem? (i := 71) rfl))) Via.refl eT S_cache d6_20 23 rfl ?_
      intro T20 X eT
      refine own_lloadN X hx hby q1 d6_23 rfl 24 rfl ?_
      refine own_l2i X hx hby d6_24 25 rfl ?_
      refine own_sipush X hx hby (128 : Int32) d6_25 rfl 28 rfl ?_
      refine own_iadd X hx hby d6_28 29 rfl ?_
      obtain ⟨r29, hr29, E_r29⟩ := hfc (Int32.toNatClampNeg ((q1.toInt32) + (128 : Int32))) (Jvm.Free.LongBox.place_okL q1 c9 c17).2
      refine own_aaload X hx hby hZ (.ref r29) eT A_cache rfl (Jvm.Free.LongBox.place_okL q1 c9 c17).1 hr29 d6_29 30 rfl ?_
      refine own_retA X hx hby hret hlk rfl rfl rfl d6_30 (by decide) (by decide) ?_
      rw [eT]
      exact ⟨r29, rfl, N, K, E_r29⟩
theorem ef_5_s (a1 : Addr) (a2 : Addr) (m : MethodId) : entryFrame m #[(.ref a1), (.ref a2)] 3 = mkF m 0 #[.val (.ref a1), .val (.ref a2), .unset] [] := by first | (simp [entryFrame, mkF, argsToLocals, Value.category]; done) | rfl
def f5_s (a1 : Addr) (a2 : Addr) (w_period_a1 : Int64) (w_period_a2 : Int64) (s1 : Addr) (s2 : Addr) (w_cyclesAfter_a1 : Int64) (w_cyclesAfter_a2 : Int64) : Int32 := (if a1 = a2 then (1 : Int32) else (if w_period_a1 = w_period_a2 then (if s1 = s2 then (if w_cyclesAfter_a1 = w_cyclesAfter_a2 then (1 : Int32) else (0 : Int32)) else (0 : Int32)) else (0 : Int32)))
def Q5_s (Z : State) (a1 : Addr) (a2 : Addr) (w_period_a1 : Int64) (w_period_a2 : Int64) (s1 : Addr) (s2 : Addr) (w_cyclesAfter_a1 : Int64) (w_cyclesAfter_a2 : Int64) (h0 : Heap) (n0 : Nat) (v : Option Value) (h : Heap) (L : List Loc) : Prop := v = some (.int (f5_s a1 a2 w_period_a1 w_period_a2 s1 s2 w_cyclesAfter_a1 w_cyclesAfter_a2)) ∧ Fr n0 L ∧ h = h0
set_option maxRecDepth 65536 in
set_option maxHeartbeats 40000000 in
theorem rm5_s (l : Launch) (Z : State) (a0 : Array Value) (hw : ∀ d ∈ tables_1, d.before a0 Z = true) (a1 : Addr) (a2 : Addr) (w_period_a1 : Int64) (w_period_a2 : Int64) (s1 : Addr) (s2 : Addr) (w_cyclesAfter_a1 : Int64) (w_cyclesAfter_a2 : Int64) (h0 : Heap) (n0 : Nat) (Zs : n0 ≤ h0.size) (E_a1 : Exa Z h0 a1 "com/example/daylily/daylily/engine/Standing") (E_a2 : Exa Z h0 a2 "com/example/daylily/daylily/engine/Standing") (F_period_a1 : Fld Z h0 a1 "com/example/daylily/daylily/engine/Standing" "period" "J" (.long w_period_a1)) (F_period_a2 : Fld Z h0 a2 "com/example/daylily/daylily/engine/Standing" "period" "J" (.long w_period_a2)) (F_state_a1 : Fld Z h0 a1 "com/example/daylily/daylily/engine/Standing" "state" "Lcom/example/daylily/daylily/engine/PackageState;" (.ref s1)) (F_state_a2 : Fld Z h0 a2 "com/example/daylily/daylily/engine/Standing" "state" "Lcom/example/daylily/daylily/engine/PackageState;" (.ref s2)) (F_cyclesAfter_a1 : Fld Z h0 a1 "com/example/daylily/daylily/engine/Standing" "cyclesAfter" "J" (.long w_cyclesAfter_a1)) (F_cyclesAfter_a2 : Fld Z h0 a2 "com/example/daylily/daylily/engine/Standing" "cyclesAfter" "J" (.long w_cyclesAfter_a2)) :
    Met1 l Z (⟨"com/example/daylily/daylily/engine/Standing", "equals", "(Ljava/lang/Object;)Z"⟩ : MethodName) prog_16_method_5_code 3 (some .boolean) ({ frames := 0, cells := 0, slots := 0, locals := 0 } : Room) #[(.ref a1), (.ref a2)] h0 (Q5_s Z a1 a2 w_period_a1 w_period_a2 s1 s2 w_cyclesAfter_a1 w_cyclesAfter_a2 h0 n0) := by
  refine own_met_of (plainFor_of_name pn_2) (ef_5_s a1 a2) ?_
  intro p e s m below meth c s₁ X hx hby hml hZ hown hnm hret hlk eT
  have hown : s.vm.findClass "com/example/daylily/daylily/engine/Standing" = some m.cls := hown
  have N := Fr.nil n0
  refine own_aloadN X hx hby (.ref a1) d5_0 rfl rfl 1 rfl ?_
  refine own_aloadN X hx hby (.ref a2) d5_1 rfl rfl 2 rfl ?_
  by_cases c2 : a1 = a2
  · refine own_acmp X hx hby true d5_2 rfl rfl (decide_eq_true (congrArg Value.ref c2)) (by decide) 5 (by decide) ?_
    refine own_iconst X hx hby (1 : Int32) d5_5 rfl 6 rfl ?_
    refine own_retN X hx hby hret hlk (t := .boolean) (z' := (1 : Int32)) (by simp) d5_6 (by decide) (by decide) rfl ?_
    rw [eT]
    exact ⟨congrArg (fun z => some (Value.int z)) (by unfold f5_s; rw [if_pos c2]), N, rfl⟩
  · refine own_acmp X hx hby false d5_2 rfl rfl (decide_eq_false fun q => c2 (Value.ref.inj q)) (by decide) 7 (by decide) ?_
    refine own_aloadN X hx hby (.ref a2) d5_7 rfl rfl 8 rfl ?_
    refine own_instY X hx hby hZ hown (hw _ (List.mem_of_getElem? (i := 43) rfl)) eT (Ins.self E_a2) d5_8 11 rfl ?_
    intro T8 X eT
    have c11 : ¬ (1 : Int32) = (0 : Int32) := by decide
    refine own_if_eq X hx hby d5_11 22 14 (by decide) rfl (fun q => absurd q c11) (fun _ => ?_)
    refine own_aloadN X hx hby (.ref a2) d5_14 rfl rfl 15 rfl ?_
    refine own_castY X hx hby hZ hown (hw _ (List.mem_of_getElem? (i := 43) rfl)) eT (Ins.self E_a2) d5_15 18 rfl ?_
    intro T15 X eT
    refine own_astoreN X hx hby d5_18 rfl (l' := #[.val (.ref a1), .val (.ref a2), .val (.ref a2)]) rfl 19 rfl ?_
    refine own_goto X hx hby d5_19 24 (by decide) ?_
    refine own_aloadN X hx hby (.ref a1) d5_24 rfl rfl 25 rfl ?_
    refine own_getF X hx hby hZ hown (host := "") (Or.inl (hw _ (List.mem_of_getElem? (i := 16) rfl))) Via.refl eT F_period_a1 d5_25 28 rfl ?_
    intro T25 X eT
    refine own_aloadN X hx hby (.ref a2) d5_28 rfl rfl 29 rfl ?_
    refine own_getF X hx hby hZ hown (host := "") (Or.inl (hw _ (List.mem_of_getElem? (i := 16) rfl))) Via.refl eT F_period_a2 d5_29 32 rfl ?_
    intro T29 X eT
    refine own_lcmp_ne X hx hby d5_32 d5_33 63 36 (by decide) rfl (fun c33 => ?_) (fun c33 => ?_)
    · skip
      refine own_iconst X hx hby (0 : Int32) d5_63 rfl 64 rfl ?_
      refine own_retN X hx hby hret hlk (t := .boolean) (z' := (0 : Int32)) (by simp) d5_64 (by decide) (by decide) rfl ?_
      rw [eT]
      exact ⟨congrArg (fun z => some (Value.int z)) (by unfold f5_s; rw [if_neg c2, if_neg c33]), N, rfl⟩
    · skip
      refine own_aloadN X hx hby (.ref a1) d5_36 rfl rfl 37 rfl ?_
      refine own_getF X hx hby hZ hown (host := "") (Or.inl (hw _ (List.mem_of_getElem? (i := 32) rfl))) Via.refl eT F_state_a1 d5_37 40 rfl ?_
      intro T37 X eT
      refine own_aloadN X hx hby (.ref a2) d5_40 rfl rfl 41 rfl ?_
      refine own_getF X hx hby hZ hown (host := "") (Or.inl (hw _ (List.mem_of_getElem? (i := 32) rfl))) Via.refl eT F_state_a2 d5_41 44 rfl ?_
      intro T41 X eT
      by_cases c44 : s1 = s2
      · refine own_acmp X hx hby true d5_44 rfl rfl (decide_eq_true (congrArg Value.ref c44)) (by decide) 47 (by decide) ?_
        refine own_aloadN X hx hby (.ref a1) d5_47 rfl rfl 48 rfl ?_
        refine own_getF X hx hby hZ hown (host := "") (Or.inl (hw _ (List.mem_of_getElem? (i := 34) rfl))) Via.refl eT F_cyclesAfter_a1 d5_48 51 rfl ?_
        intro T48 X eT
        refine own_aloadN X hx hby (.ref a2) d5_51 rfl rfl 52 rfl ?_
        refine own_getF X hx hby hZ hown (host := "") (Or.inl (hw _ (List.mem_of_getElem? (i := 34) rfl))) Via.refl eT F_cyclesAfter_a2 d5_52 55 rfl ?_
        intro T52 X eT
        refine own_lcmp_ne X hx hby d5_55 d5_56 63 59 (by decide) rfl (fun c56 => ?_) (fun c56 => ?_)
        · skip
          refine own_iconst X hx hby (0 : Int32) d5_63 rfl 64 rfl ?_
          refine own_retN X hx hby hret hlk (t := .boolean) (z' := (0 : Int32)) (by simp) d5_64 (by decide) (by decide) rfl ?_
          rw [eT]
          exact ⟨congrArg (fun z => some (Value.int z)) (by unfold f5_s; rw [if_neg c2, if_pos c33, if_pos c44, if_neg c56]), N, rfl⟩
        · skip
          refine own_iconst X hx hby (1 : Int32) d5_59 rfl 60 rfl ?_
          refine own_goto X hx hby d5_60 64 (by decide) ?_
          refine own_retN X hx hby hret hlk (t := .boolean) (z' := (1 : Int32)) (by simp) d5_64 (by decide) (by decide) rfl ?_
          rw [eT]
          exact ⟨congrArg (fun z => some (Value.int z)) (by unfold f5_s; rw [if_neg c2, if_pos c33, if_pos c44, if_pos c56]), N, rfl⟩
      · refine own_acmp X hx hby false d5_44 rfl rfl (decide_eq_false fun q => c44 (Value.ref.inj q)) (by decide) 63 (by decide) ?_
        refine own_iconst X hx hby (0 : Int32) d5_63 rfl 64 rfl ?_
        refine own_retN X hx hby hret hlk (t := .boolean) (z' := (0 : Int32)) (by simp) d5_64 (by decide) (by decide) rfl ?_
        rw [eT]
        exact ⟨congrArg (fun z => some (Value.int z)) (by unfold f5_s; rw [if_neg c2, if_pos c33, if_neg c44]), N, rfl⟩
theorem ef_5_n (a1 : Addr) (m : MethodId) : entryFrame m #[(.ref a1), .null] 3 = mkF m 0 #[.val (.ref a1), .val .null, .unset] [] := by first | (simp [entryFrame, mkF, argsToLocals, Value.category]; done) | rfl
def Q5_n (Z : State) (a1 : Addr) (h0 : Heap) (n0 : Nat) (v : Option Value) (h : Heap) (L : List Loc) : Prop := v = some (.int (0 : Int32)) ∧ Fr n0 L ∧ h = h0
set_option maxRecDepth 65536 in
set_option maxHeartbeats 40000000 in
theorem rm5_n (l : Launch) (Z : State) (a0 : Array Value) (hw : ∀ d ∈ tables_1, d.before a0 Z = true) (a1 : Addr) (h0 : Heap) (n0 : Nat) (Zs : n0 ≤ h0.size) :
    Met1 l Z (⟨"com/example/daylily/daylily/engine/Standing", "equals", "(Ljava/lang/Object;)Z"⟩ : MethodName) prog_16_method_5_code 3 (some .boolean) ({ frames := 0, cells := 0, slots := 0, locals := 0 } : Room) #[(.ref a1), .null] h0 (Q5_n Z a1 h0 n0) := by
  refine own_met_of (plainFor_of_name pn_2) (ef_5_n a1) ?_
  intro p e s m below meth c s₁ X hx hby hml hZ hown hnm hret hlk eT
  have hown : s.vm.findClass "com/example/daylily/daylily/engine/Standing" = some m.cls := hown
  have N := Fr.nil n0
  refine own_aloadN X hx hby (.ref a1) d5_0 rfl rfl 1 rfl ?_
  refine own_aloadN X hx hby .null d5_1 rfl rfl 2 rfl ?_
  refine own_acmp X hx hby false d5_2 rfl rfl (decide_eq_false nofun) (by decide) 7 (by decide) ?_
  refine own_aloadN X hx hby .null d5_7 rfl rfl 8 rfl ?_
  refine own_instNull X hx hby d5_8 11 rfl ?_
  have c11 : (0 : Int32) = (0 : Int32) := by decide
  refine own_if_eq X hx hby d5_11 22 14 (by decide) rfl (fun _ => ?_) (fun q => absurd c11 q)
  refine own_iconst X hx hby (0 : Int32) d5_22 rfl 23 rfl ?_
  refine own_retN X hx hby hret hlk (t := .boolean) (z' := (0 : Int32)) (by simp) d5_23 (by decide) (by decide) rfl ?_
  rw [eT]
  exact ⟨rfl, N, rfl⟩
theorem ef_5_l (a1 : Addr) (a2 : Addr) (m : MethodId) : entryFrame m #[(.ref a1), (.ref a2)] 3 = mkF m 0 #[.val (.ref a1), .val (.ref a2), .unset] [] := by first | (simp [entryFrame, mkF, argsToLocals, Value.category]; done) | rfl
def Q5_l (Z : State) (a1 : Addr) (a2 : Addr) (h0 : Heap) (n0 : Nat) (v : Option Value) (h : Heap) (L : List Loc) : Prop := v = some (.int (0 : Int32)) ∧ Fr n0 L ∧ h = h0
set_option maxRecDepth 65536 in
set_option maxHeartbeats 40000000 in
theorem rm5_l (l : Launch) (Z : State) (a0 : Array Value) (hw : ∀ d ∈ tables_1, d.before a0 Z = true) (a1 : Addr) (a2 : Addr) (h0 : Heap) (n0 : Nat) (Zs : n0 ≤ h0.size) (E_a1 : Exa Z h0 a1 "com/example/daylily/daylily/engine/Standing") (E_a2 : Exa Z h0 a2 "java/lang/Long") :
    Met1 l Z (⟨"com/example/daylily/daylily/engine/Standing", "equals", "(Ljava/lang/Object;)Z"⟩ : MethodName) prog_16_method_5_code 3 (some .boolean) ({ frames := 0, cells := 0, slots := 0, locals := 0 } : Room) #[(.ref a1), (.ref a2)] h0 (Q5_l Z a1 a2 h0 n0) := by
  refine own_met_of (plainFor_of_name pn_2) (ef_5_l a1 a2) ?_
  intro p e s m below meth c s₁ X hx hby hml hZ hown hnm hret hlk eT
  have hown : s.vm.findClass "com/example/daylily/daylily/engine/Standing" = some m.cls := hown
  have N := Fr.nil n0
  have ne_a1_a2 : a1 ≠ a2 := ne_exa E_a1 E_a2 (by decide)
  refine own_aloadN X hx hby (.ref a1) d5_0 rfl rfl 1 rfl ?_
  refine own_aloadN X hx hby (.ref a2) d5_1 rfl rfl 2 rfl ?_
  refine own_acmp X hx hby false d5_2 rfl rfl (decide_eq_false fun q => ne_a1_a2 (Value.ref.inj q)) (by decide) 7 (by decide) ?_
  refine own_aloadN X hx hby (.ref a2) d5_7 rfl rfl 8 rfl ?_
  refine own_instNo X hx hby hZ hown (hw _ (List.mem_of_getElem? (i := 43) rfl)) eT E_a2 (own_NSno (hw _ (List.mem_of_getElem? (i := 68) rfl)) (hw _ (List.mem_of_getElem? (i := 1) rfl)) (NS.step (hw _ (List.mem_of_getElem? (i := 68) rfl)) (NS.step (hw _ (List.mem_of_getElem? (i := 69) rfl)) (own_NSroot (hw _ (List.mem_of_getElem? (i := 70) rfl)) (hw _ (List.mem_of_getElem? (i := 1) rfl)) (by decide)) (by decide)) (by decide)) (by decide)) d5_8 11 rfl ?_
  intro T8 X eT
  have c11 : (0 : Int32) = (0 : Int32) := by decide
  refine own_if_eq X hx hby d5_11 22 14 (by decide) rfl (fun _ => ?_) (fun q => absurd c11 q)
  refine own_iconst X hx hby (0 : Int32) d5_22 rfl 23 rfl ?_
  refine own_retN X hx hby hret hlk (t := .boolean) (z' := (0 : Int32)) (by simp) d5_23 (by decide) (by decide) rfl ?_
  rw [eT]
  exact ⟨rfl, N, rfl⟩
theorem ef_0 (q1 : Int64) (q2 : Int64) (q3 : Int64) (q4 : Int64) (p5 : Int32) (p6 : Int32) (m : MethodId) : entryFrame m #[(.long q1), (.long q2), (.long q3), (.long q4), (.int p5), (.int p6)] maxLocals = mkF m 0 #[.val (.long q1), .second, .val (.long q2), .second, .val (.long q3), .second, .val (.long q4), .second, .val (.int p5), .val (.int p6), .unset, .unset, .unset, .unset, .unset, .unset, .unset, .unset, .unset, .unset] [] := by first | (simp [entryFrame, mkF, argsToLocals, Value.category, maxLocals]; done) | rfl
def Q0 (Z : State) (q1 : Int64) (q2 : Int64) (q3 : Int64) (q4 : Int64) (p5 : Int32) (p6 : Int32) (u_ACTIVE : Addr) (u_STOPPING : Addr) (u_RETRYING : Addr) (u_ENDED : Addr) (u_cache : Addr) (fc : Nat → Value) (h0 : Heap) (n0 : Nat) (v : Option Value) (h : Heap) (L : List Loc) : Prop := v = some (.int (1 : Int32)) ∧ Fr n0 L
theorem own_four (z v : Int32) (e : (z &&& (3 : Int32)) = v) : v = (0 : Int32) ∨ v = (1 : Int32) ∨ v = (2 : Int32) ∨ v = (3 : Int32) := by
  have h := c_mask z (3 : Int32) 2 (by decide) (by decide)
  rw [e] at h
  simp only [← Int32.toInt_inj, Int32.reduceToInt]
  omega
theorem own_inj (k1 k2 : Int32) (u_ACTIVE u_STOPPING u_RETRYING u_ENDED : Addr) (n_ACTIVE_STOPPING : u_ACTIVE ≠ u_STOPPING) (n_ACTIVE_RETRYING : u_ACTIVE ≠ u_RETRYING) (n_ACTIVE_ENDED : u_ACTIVE ≠ u_ENDED) (n_STOPPING_RETRYING : u_STOPPING ≠ u_RETRYING) (n_STOPPING_ENDED : u_STOPPING ≠ u_ENDED) (n_RETRYING_ENDED : u_RETRYING ≠ u_ENDED) (h1 : k1 = (0 : Int32) ∨ k1 = (1 : Int32) ∨ k1 = (2 : Int32) ∨ k1 = (3 : Int32)) (h2 : k2 = (0 : Int32) ∨ k2 = (1 : Int32) ∨ k2 = (2 : Int32) ∨ k2 = (3 : Int32)) : own_st k1 u_ACTIVE u_STOPPING u_RETRYING u_ENDED = own_st k2 u_ACTIVE u_STOPPING u_RETRYING u_ENDED ↔ k1 = k2 := by
  rcases h1 with rfl | rfl | rfl | rfl <;> rcases h2 with rfl | rfl | rfl | rfl <;> simp [own_st, n_ACTIVE_STOPPING, Ne.symm n_ACTIVE_STOPPING, n_ACTIVE_RETRYING, Ne.symm n_ACTIVE_RETRYING, n_ACTIVE_ENDED, Ne.symm n_ACTIVE_ENDED, n_STOPPING_RETRYING, Ne.symm n_STOPPING_RETRYING, n_STOPPING_ENDED, Ne.symm n_STOPPING_ENDED, n_RETRYING_ENDED, Ne.symm n_RETRYING_ENDED]
theorem own_self (a : Addr) (p c : Int64) (s : Addr) : f5_s a a p p s s c c = 1 := by
  unfold f5_s
  rw [if_pos rfl]
theorem own_eq (a b s1 s2 : Addr) (p1 p2 c1 c2 : Int64) (k1 k2 j : Int32) (hne : a ≠ b) (hs : s1 = s2 ↔ k1 = k2) (ej : j = (if p1 = p2 then (if k1 = k2 then (if c1 = c2 then (1 : Int32) else (0 : Int32)) else (0 : Int32)) else (0 : Int32))) : f5_s a b p1 p2 s1 s2 c1 c2 = j := by
  rw [ej]
  unfold f5_s
  rw [if_neg hne]
  by_cases q1 : p1 = p2
  · rw [if_pos q1, if_pos q1]
    by_cases q2 : k1 = k2
    · rw [if_pos q2, if_pos (hs.mpr q2)]
    · rw [if_neg q2, if_neg (fun z => q2 (hs.mp z))]
  · rw [if_neg q1, if_neg q1]
theorem own_eq2 (a b s1 s2 : Addr) (p1 p2 c1 c2 : Int64) (k1 k2 j : Int32) (hne : a ≠ b) (hs : s1 = s2 ↔ k1 = k2) (ej : j = (if p1 = p2 then (if k1 = k2 then (if c1 = c2 then (1 : Int32) else (0 : Int32)) else (0 : Int32)) else (0 : Int32))) : f5_s b a p2 p1 s2 s1 c2 c1 = j := by
  refine own_eq b a s2 s1 p2 p1 c2 c1 k2 k1 j (Ne.symm hne) ⟨fun q => (hs.mp q.symm).symm, fun q => (hs.mpr q.symm).symm⟩ ?_
  rw [ej]
  by_cases q1 : p1 = p2
  · subst q1
    by_cases q2 : k1 = k2
    · subst q2
      by_cases q3 : c1 = c2
      · subst q3; rfl
      · simp [q3, Ne.symm q3]
    · simp [q2, Ne.symm q2]
  · simp [q1, Ne.symm q1]
set_option maxRecDepth 65536 in
set_option maxHeartbeats 40000000 in
theorem rm0 (l : Launch) (Z : State) (a0 : Array Value) (hw : ∀ d ∈ tables_1, d.before a0 Z = true) (q1 : Int64) (q2 : Int64) (q3 : Int64) (q4 : Int64) (p5 : Int32) (p6 : Int32) (u_ACTIVE : Addr) (u_STOPPING : Addr) (u_RETRYING : Addr) (u_ENDED : Addr) (u_cache : Addr) (fc : Nat → Value) (h0 : Heap) (n0 : Nat) (Zs : n0 ≤ h0.size) (A_cache : Afn Z h0 u_cache (.object "java/lang/Long") 256 fc) (hfc : ∀ i, i < 256 → ∃ r : Addr, fc i = .ref r ∧ Exa Z h0 r "java/lang/Long") (n_ACTIVE_STOPPING : u_ACTIVE ≠ u_STOPPING) (n_ACTIVE_RETRYING : u_ACTIVE ≠ u_RETRYING) (n_ACTIVE_ENDED : u_ACTIVE ≠ u_ENDED) (n_STOPPING_RETRYING : u_STOPPING ≠ u_RETRYING) (n_STOPPING_ENDED : u_STOPPING ≠ u_ENDED) (n_RETRYING_ENDED : u_RETRYING ≠ u_ENDED) (S_ACTIVE : Sta Z h0 "com/example/daylily/daylily/engine/PackageState" "ACTIVE" "Lcom/example/daylily/daylily/engine/PackageState;" (.ref u_ACTIVE)) (S_STOPPING : Sta Z h0 "com/example/daylily/daylily/engine/PackageState" "STOPPING" "Lcom/example/daylily/daylily/engine/PackageState;" (.ref u_STOPPING)) (S_RETRYING : Sta Z h0 "com/example/daylily/daylily/engine/PackageState" "RETRYING" "Lcom/example/daylily/daylily/engine/PackageState;" (.ref u_RETRYING)) (S_ENDED : Sta Z h0 "com/example/daylily/daylily/engine/PackageState" "ENDED" "Lcom/example/daylily/daylily/engine/PackageState;" (.ref u_ENDED)) (S_cache : Sta Z h0 "java/lang/Long$LongCache" "cache" "[Ljava/lang/Long;" (.ref u_cache)) (E_u_ACTIVE : Exa Z h0 u_ACTIVE "com/example/daylily/daylily/engine/PackageState") (E_u_STOPPING : Exa Z h0 u_STOPPING "com/example/daylily/daylily/engine/PackageState") (E_u_RETRYING : Exa Z h0 u_RETRYING "com/example/daylily/daylily/engine/PackageState") (E_u_ENDED : Exa Z h0 u_ENDED "com/example/daylily/daylily/engine/PackageState") :
    Met1W l Z x code maxLocals ret room_1 #[(.long q1), (.long q2), (.long q3), (.long q4), (.int p5), (.int p6)] h0 (Q0 Z q1 q2 q3 q4 p5 p6 u_ACTIVE u_STOPPING u_RETRYING u_ENDED u_cache fc h0 n0) := by
  refine own_met_ofW (plainFor_of_name pn_1) (ef_0 q1 q2 q3 q4 p5 p6) ?_
  intro p e s m below meth c s₁ vm0 X hx hby hml hZ hown hnm hret hlk eT hS hs0
  have hown : (s.setVm vm0).vm.findClass "com/example/daylily/daylily/engine/StandingEqualsPinLaw" = some m.cls := hown
  have hk : 0 ≤ h0.size := Nat.zero_le _
  have N := Fr.nil n0
  have K := Keep.refl h0 []
  refine own_iload X hx hby p5 at_0 rfl 2 rfl ?_
  refine own_iconst X hx hby (3 : Int32) at_2 rfl 3 rfl ?_
  refine own_iand X hx hby at_3 4 rfl ?_
  obtain ⟨v4, e4⟩ : ∃ z : Int32, (p5 &&& (3 : Int32)) = z := ⟨_, rfl⟩
  refine own_istore X hx hby at_4 e4 (l' := #[.val (.long q1), .second, .val (.long q2), .second, .val (.long q3), .second, .val (.long q4), .second, .val (.int p5), .val (.int p6), .val (.int v4), .unset, .unset, .unset, .unset, .unset, .unset, .unset, .unset, .unset]) rfl 6 rfl ?_
  refine own_iload X hx hby p6 at_6 rfl 8 rfl ?_
  refine own_iconst X hx hby (3 : Int32) at_8 rfl 9 rfl ?_
  refine own_iand X hx hby at_9 10 rfl ?_
  obtain ⟨v10, e10⟩ : ∃ z : Int32, (p6 &&& (3 : Int32)) = z := ⟨_, rfl⟩
  refine own_istore X hx hby at_10 e10 (l' := #[.val (.long q1), .second, .val (.long q2), .second, .val (.long q3), .second, .val (.long q4), .second, .val (.int p5), .val (.int p6), .val (.int v4), .val (.int v10), .unset, .unset, .unset, .unset, .unset, .unset, .unset, .unset]) rfl 12 rfl ?_
  refine own_iload X hx hby p5 at_12 rfl 14 rfl ?_
  refine own_iconst X hx hby (2 : Int32) at_14 rfl 15 rfl ?_
  refine own_iushr X hx hby at_15 16 rfl ?_
  refine own_iconst X hx hby (3 : Int32) at_16 rfl 17 rfl ?_
  refine own_iand X hx hby at_17 18 rfl ?_
  obtain ⟨v18, e18⟩ : ∃ z : Int32, (((p5.toUInt32 >>> ((2 : Int32) &&& 31).toUInt32).toInt32) &&& (3 : Int32)) = z := ⟨_, rfl⟩
  refine own_istore X hx hby at_18 e18 (l' := #[.val (.long q1), .second, .val (.long q2), .second, .val (.long q3), .second, .val (.long q4), .second, .val (.int p5), .val (.int p6), .val (.int v4), .val (.int v10), .val (.int v18), .unset, .unset, .unset, .unset, .unset, .unset, .unset]) rfl 20 rfl ?_
  refine own_iload X hx hby p6 at_20 rfl 22 rfl ?_
  refine own_iconst X hx hby (4 : Int32) at_22 rfl 23 rfl ?_
  refine own_iand X hx hby at_23 24 rfl ?_
  have J24 : ∀ (j24_0 : Int64), j24_0 = (if (p6 &&& (4 : Int32)) = (0 : Int32) then q3 else q1) → Go p e below (FinW s (Q0 Z q1 q2 q3 q4 p5 p6 u_ACTIVE u_STOPPING u_RETRYING u_ENDED u_cache fc h0 n0) room_1.cells room_1.slots) s₁ (mkF m 33 #[.val (.long q1), .second, .val (.long q2), .second, .val (.long q3), .second, .val (.long q4), .second, .val (.int p5), .val (.int p6), .val (.int v4), .val (.int v10), .val (.int v18), .unset, .unset, .unset, .unset, .unset, .unset, .unset] [(.long j24_0)]) := by
    intro j24_0 ej24_0
    refine own_lstore X hx hby at_33 rfl (l' := #[.val (.long q1), .second, .val (.long q2), .second, .val (.long q3), .second, .val (.long q4), .second, .val (.int p5), .val (.int p6), .val (.int v4), .val (.int v10), .val (.int v18), .val (.long j24_0), .second, .unset, .unset, .unset, .unset, .unset]) rfl 35 rfl ?_
    refine own_iload X hx hby p6 at_35 rfl 37 rfl ?_
    refine own_bipush X hx hby (8 : Int32) at_37 rfl 39 rfl ?_
    refine own_iand X hx hby at_39 40 rfl ?_
    have J40 : ∀ (j40_0 : Int64), j40_0 = (if (p6 &&& (8 : Int32)) = (0 : Int32) then q4 else q2) → Go p e below (FinW s (Q0 Z q1 q2 q3 q4 p5 p6 u_ACTIVE u_STOPPING u_RETRYING u_ENDED u_cache fc h0 n0) room_1.cells room_1.slots) s₁ (mkF m 49 #[.val (.long q1), .second, .val (.long q2), .second, .val (.long q3), .second, .val (.long q4), .second, .val (.int p5), .val (.int p6), .val (.int v4), .val (.int v10), .val (.int v18), .val (.long j24_0), .second, .unset, .unset, .unset, .unset, .unset] [(.long j40_0)]) := by
      intro j40_0 ej40_0
      refine own_lstore X hx hby at_49 rfl (l' := #[.val (.long q1), .second, .val (.long q2), .second, .val (.long q3), .second, .val (.long q4), .second, .val (.int p5), .val (.int p6), .val (.int v4), .val (.int v10), .val (.int v18), .val (.long j24_0), .second, .val (.long j40_0), .second, .unset, .unset, .unset]) rfl 51 rfl ?_
      refine own_new X hx hby hZ hown (hw _ (List.mem_of_getElem? (i := 0) rfl)) (hw _ (List.mem_of_getElem? (i := 1) rfl)) (hw _ (List.mem_of_getElem? (i := 2) rfl)) eT at_51 (by decide) (by decide) 54 rfl ?_
      intro T51 h51 b51 gb51 X eT Ex A D
      have g_b51 : n0 ≤ b51 := by rw [gb51]; exact Zs
      have sz_b51 : h0.size ≤ b51 := by rw [gb51]; exact K.1
      have hk := Nat.le_trans hk Ex.1
      have E_b51 := A
      have F_period_b51 : Fld Z h51 b51 "com/example/daylily/daylily/engine/Standing" "period" "J" (.long (0 : Int64)) := D (Or.inr (hw _ (List.mem_of_getElem? (i := 17) rfl))) (ty := .long) (by decide)
      have F_state_b51 : Fld Z h51 b51 "com/example/daylily/daylily/engine/Standing" "state" "Lcom/example/daylily/daylily/engine/PackageState;" .null := D (Or.inr (hw _ (List.mem_of_getElem? (i := 33) rfl))) (ty := (.object "com/example/daylily/daylily/engine/PackageState")) (by decide)
      have F_cyclesAfter_b51 : Fld Z h51 b51 "com/example/daylily/daylily/engine/Standing" "cyclesAfter" "J" (.long (0 : Int64)) := D (Or.inr (hw _ (List.mem_of_getElem? (i := 35) rfl))) (ty := .long) (by decide)
      have K := K.ext Ex
      have Zs := Nat.le_trans Zs Ex.1
      refine own_dup X hx hby at_54 rfl 55 rfl ?_
      refine own_lloadN X hx hby q1 at_55 rfl 56 rfl ?_
      refine own_iload X hx hby v4 at_56 rfl 58 rfl ?_
      refine own_callS X hx hby hZ (st := [(.long q1), (.ref b51), (.ref b51)]) [(.int v4)] rfl hown (hw _ (List.mem_of_getElem? (i := 3) rfl)) (hw _ (List.mem_of_getElem? (i := 4) rfl)) (hw _ (List.mem_of_getElem? (i := 5) rfl)) (hw _ (List.mem_of_getElem? (i := 6) rfl)) (by decide) at_58 (rm1 l Z a0 hw v4 u_ACTIVE u_STOPPING u_RETRYING u_ENDED h51 n0 Zs (S_ACTIVE.ext (own_ext0 K)) (S_STOPPING.ext (own_ext0 K)) (S_RETRYING.ext (own_ext0 K)) (S_ENDED.ext (own_ext0 K)) (E_u_ACTIVE.ext (own_ext0 K)) (E_u_STOPPING.ext (own_ext0 K)) (E_u_RETRYING.ext (own_ext0 K)) (E_u_ENDED.ext (own_ext0 K))) eT pd_1 rfl (by rw [hml]; rfl) (by decide) 4 rfl (by decide) (by decide) (by decide) 61 rfl ?_
      intro T58 L9 v9 X hQ
      obtain ⟨h58, eT⟩ : ∃ z, T58.heap = z := ⟨_, rfl⟩
      rw [eT] at hQ
      have lt_b51 := E_b51.lt
      have lt_u_ACTIVE := E_u_ACTIVE.lt
      have lt_u_ENDED := E_u_ENDED.lt
      have lt_u_RETRYING := E_u_RETRYING.lt
      have lt_u_STOPPING := E_u_STOPPING.lt
      obtain ⟨b58rr, rfl, N9, Kc, E_b58rr, er_b58rr⟩ := hQ
      have hk := Nat.le_trans hk Kc.1
      have E_b51 := E_b51.keep Kc
      have F_period_b51 := F_period_b51.keep Kc nin0
      have F_state_b51 := F_state_b51.keep Kc nin0
      have F_cyclesAfter_b51 := F_cyclesAfter_b51.keep Kc nin0
      have K := K.trans Kc all0
      have Zs := Nat.le_trans Zs Kc.1
      have N := Fr.app N N9
      show Go p e below _ T58 (mkF m 61 #[.val (.long q1), .second, .val (.long q2), .second, .val (.long q3), .second, .val (.long q4), .second, .val (.int p5), .val (.int p6), .val (.int v4), .val (.int v10), .val (.int v18), .val (.long j24_0), .second, .val (.long j40_0), .second, .unset, .unset, .unset] [(.ref b58rr), (.long q1), (.ref b51), (.ref b51)])
      refine own_lloadN X hx hby q2 at_61 rfl 62 rfl ?_
      refine own_callCW X hx hby hZ (st := [(.ref b51)]) [(.long q1), (.ref b58rr), (.long q2)] rfl rfl hown hS hk (hw _ (List.mem_of_getElem? (i := 10) rfl)) (hw _ (List.mem_of_getElem? (i := 11) rfl)) (hw _ (List.mem_of_getElem? (i := 2) rfl)) (hw _ (List.mem_of_getElem? (i := 12) rfl)) (by decide) at_62 (rm2 l Z a0 hw b51 q1 b58rr q2 (0 : Int64) (0 : Int64) h58 n0 Zs E_b51 F_period_b51 F_state_b51 F_cyclesAfter_b51 g_b51 E_b58rr) eT pd_4 rfl (by rw [hml]; rfl) (by decide) 1 rfl (by decide) (by decide) (by decide) 65 rfl ?_
      intro T62 L9 v9 vm62 X hS hZ hown hQ
      obtain ⟨h62, eT⟩ : ∃ z, T62.heap = z := ⟨_, rfl⟩
      rw [eT] at hQ
      obtain ⟨rfl, N9, Kc, E_b51, F_period_b51, F_state_b51, F_cyclesAfter_b51⟩ := hQ
      have E_b58rr := E_b58rr.keep Kc
      have hk : T62.heap.size ≤ h62.size := by rw [eT]; exact Nat.le_refl _
      have K := K.trans Kc (allS (Or.inr sz_b51) all0)
      have Zs := Nat.le_trans Zs Kc.1
      have N := Fr.app N N9
      show Go p e below _ T62 (mkF m 65 #[.val (.long q1), .second, .val (.long q2), .second, .val (.long q3), .second, .val (.long q4), .second, .val (.int p5), .val (.int p6), .val (.int v4), .val (.int v10), .val (.int v18), .val (.long j24_0), .second, .val (.long j40_0), .second, .unset, .unset, .unset] [(.ref b51)])
      refine own_astore X hx hby at_65 rfl (l' := #[.val (.long q1), .second, .val (.long q2), .second, .val (.long q3), .second, .val (.long q4), .second, .val (.int p5), .val (.int p6), .val (.int v4), .val (.int v10), .val (.int v18), .val (.long j24_0), .second, .val (.long j40_0), .second, .val (.ref b51), .unset, .unset]) rfl 67 rfl ?_
      refine own_iload X hx hby v18 at_67 rfl 69 rfl ?_
      refine own_iconst X hx hby (2 : Int32) at_69 rfl 70 rfl ?_
      refine own_icmp_ne X hx hby at_70 81 73 (by decide) rfl (fun c70 => ?_) (fun c70 => ?_)
      · skip
        refine own_iload X hx hby v18 at_81 rfl 83 rfl ?_
        refine own_iconst X hx hby (3 : Int32) at_83 rfl 84 rfl ?_
        refine own_icmp_ne X hx hby at_84 121 87 (by decide) rfl (fun c84 => ?_) (fun c84 => ?_)
        · skip
          refine own_new X hx hby hZ hown (hw _ (List.mem_of_getElem? (i := 0) rfl)) (hw _ (List.mem_of_getElem? (i := 1) rfl)) (hw _ (List.mem_of_getElem? (i := 2) rfl)) eT at_121 (by decide) (by decide) 124 rfl ?_
          intro T121 h121 b121 gb121 X eT Ex A D
          have g_b121 : n0 ≤ b121 := by rw [gb121]; exact Zs
          have sz_b121 : h0.size ≤ b121 := by rw [gb121]; exact K.1
          have ne_b58rr_b121 : b58rr ≠ b121 := Nat.ne_of_lt (by rw [gb121]; exact E_b58rr.lt)
          have ne_b51_b121 : b51 ≠ b121 := Nat.ne_of_lt (by rw [gb121]; exact E_b51.lt)
          have hk := Nat.le_trans hk Ex.1
          have E_b51 := E_b51.ext Ex
          have F_period_b51 := F_period_b51.ext Ex
          have F_state_b51 := F_state_b51.ext Ex
          have F_cyclesAfter_b51 := F_cyclesAfter_b51.ext Ex
          have E_b58rr := E_b58rr.ext Ex
          have E_b121 := A
          have F_period_b121 : Fld Z h121 b121 "com/example/daylily/daylily/engine/Standing" "period" "J" (.long (0 : Int64)) := D (Or.inr (hw _ (List.mem_of_getElem? (i := 17) rfl))) (ty := .long) (by decide)
          have F_state_b121 : Fld Z h121 b121 "com/example/daylily/daylily/engine/Standing" "state" "Lcom/example/daylily/daylily/engine/PackageState;" .null := D (Or.inr (hw _ (List.mem_of_getElem? (i := 33) rfl))) (ty := (.object "com/example/daylily/daylily/engine/PackageState")) (by decide)
          have F_cyclesAfter_b121 : Fld Z h121 b121 "com/example/daylily/daylily/engine/Standing" "cyclesAfter" "J" (.long (0 : Int64)) := D (Or.inr (hw _ (List.mem_of_getElem? (i := 35) rfl))) (ty := .long) (by decide)
          have K := K.ext Ex
          have Zs := Nat.le_trans Zs Ex.1
          refine own_dup X hx hby at_124 rfl 125 rfl ?_
          refine own_lload X hx hby j24_0 at_125 rfl 127 rfl ?_
          refine own_iload X hx hby v10 at_127 rfl 129 rfl ?_
          refine own_callS X hx hby hZ (st := [(.long j24_0), (.ref b121), (.ref b121)]) [(.int v10)] rfl hown (hw _ (List.mem_of_getElem? (i := 3) rfl)) (hw _ (List.mem_of_getElem? (i := 4) rfl)) (hw _ (List.mem_of_getElem? (i := 5) rfl)) (hw _ (List.mem_of_getElem? (i := 6) rfl)) (by decide) at_129 (rm1 l Z a0 hw v10 u_ACTIVE u_STOPPING u_RETRYING u_ENDED h121 n0 Zs (S_ACTIVE.ext (own_ext0 K)) (S_STOPPING.ext (own_ext0 K)) (S_RETRYING.ext (own_ext0 K)) (S_ENDED.ext (own_ext0 K)) (E_u_ACTIVE.ext (own_ext0 K)) (E_u_STOPPING.ext (own_ext0 K)) (E_u_RETRYING.ext (own_ext0 K)) (E_u_ENDED.ext (own_ext0 K))) eT pd_1 rfl (by rw [hml]; rfl) (by decide) 4 rfl (by decide) (by decide) (by decide) 132 rfl ?_
          intro T129 L9 v9 X hQ
          obtain ⟨h129, eT⟩ : ∃ z, T129.heap = z := ⟨_, rfl⟩
          rw [eT] at hQ
          have lt_b121 := E_b121.lt
          have lt_b51 := E_b51.lt
          have lt_b58rr := E_b58rr.lt
          have lt_u_ACTIVE := E_u_ACTIVE.lt
          have lt_u_ENDED := E_u_ENDED.lt
          have lt_u_RETRYING := E_u_RETRYING.lt
          have lt_u_STOPPING := E_u_STOPPING.lt
          obtain ⟨b129rr, rfl, N9, Kc, E_b129rr, er_b129rr⟩ := hQ
          have hk := Nat.le_trans hk Kc.1
          have E_b51 := E_b51.keep Kc
          have F_period_b51 := F_period_b51.keep Kc nin0
          have F_state_b51 := F_state_b51.keep Kc nin0
          have F_cyclesAfter_b51 := F_cyclesAfter_b51.keep Kc nin0
          have E_b58rr := E_b58rr.keep Kc
          have E_b121 := E_b121.keep Kc
          have F_period_b121 := F_period_b121.keep Kc nin0
          have F_state_b121 := F_state_b121.keep Kc nin0
          have F_cyclesAfter_b121 := F_cyclesAfter_b121.keep Kc nin0
          have K := K.trans Kc all0
          have Zs := Nat.le_trans Zs Kc.1
          have N := Fr.app N N9
          show Go p e below _ T129 (mkF m 132 #[.val (.long q1), .second, .val (.long q2), .second, .val (.long q3), .second, .val (.long q4), .second, .val (.int p5), .val (.int p6), .val (.int v4), .val (.int v10), .val (.int v18), .val (.long j24_0), .second, .val (.long j40_0), .second, .val (.ref b51), .unset, .unset] [(.ref b129rr), (.long j24_0), (.ref b121), (.ref b121)])
          refine own_lload X hx hby j40_0 at_132 rfl 134 rfl ?_
          refine own_callCW X hx hby hZ (st := [(.ref b121)]) [(.long j24_0), (.ref b129rr), (.long j40_0)] rfl rfl hown hS hk (hw _ (List.mem_of_getElem? (i := 10) rfl)) (hw _ (List.mem_of_getElem? (i := 11) rfl)) (hw _ (List.mem_of_getElem? (i := 2) rfl)) (hw _ (List.mem_of_getElem? (i := 12) rfl)) (by decide) at_134 (rm2 l Z a0 hw b121 j24_0 b129rr j40_0 (0 : Int64) (0 : Int64) h129 n0 Zs E_b121 F_period_b121 F_state_b121 F_cyclesAfter_b121 g_b121 E_b129rr) eT pd_4 rfl (by rw [hml]; rfl) (by decide) 1 rfl (by decide) (by decide) (by decide) 137 rfl ?_
          intro T134 L9 v9 vm134 X hS hZ hown hQ
          obtain ⟨h134, eT⟩ : ∃ z, T134.heap = z := ⟨_, rfl⟩
          rw [eT] at hQ
          obtain ⟨rfl, N9, Kc, E_b121, F_period_b121, F_state_b121, F_cyclesAfter_b121⟩ := hQ
          have E_b51 := E_b51.keep Kc
          have F_period_b51 := F_period_b51.keep Kc (ninS ne_b51_b121 nin0)
          have F_state_b51 := F_state_b51.keep Kc (ninS ne_b51_b121 nin0)
          have F_cyclesAfter_b51 := F_cyclesAfter_b51.keep Kc (ninS ne_b51_b121 nin0)
          have E_b58rr := E_b58rr.keep Kc
          have E_b129rr := E_b129rr.keep Kc
          have hk : T134.heap.size ≤ h134.size := by rw [eT]; exact Nat.le_refl _
          have K := K.trans Kc (allS (Or.inr sz_b121) all0)
          have Zs := Nat.le_trans Zs Kc.1
          have N := Fr.app N N9
          show Go p e below _ T134 (mkF m 137 #[.val (.long q1), .second, .val (.long q2), .second, .val (.long q3), .second, .val (.long q4), .second, .val (.int p5), .val (.int p6), .val (.int v4), .val (.int v10), .val (.int v18), .val (.long j24_0), .second, .val (.long j40_0), .second, .val (.ref b51), .unset, .unset] [(.ref b121)])
          refine own_astore X hx hby at_137 rfl (l' := #[.val (.long q1), .second, .val (.long q2), .second, .val (.long q3), .second, .val (.long q4), .second, .val (.int p5), .val (.int p6), .val (.int v4), .val (.int v10), .val (.int v18), .val (.long j24_0), .second, .val (.long j40_0), .second, .val (.ref b51), .val (.ref b121), .unset]) rfl 139 rfl ?_
          refine own_lloadN X hx hby q1 at_139 rfl 140 rfl ?_
          refine own_lload X hx hby j24_0 at_140 rfl 142 rfl ?_
          have J143 : ∀ (j143_0 : Int32), j143_0 = (if q1 = j24_0 then (if v4 = v10 then (if q2 = j40_0 then (1 : Int32) else (0 : Int32)) else (0 : Int32)) else (0 : Int32)) → Go p e below (FinW s (Q0 Z q1 q2 q3 q4 p5 p6 u_ACTIVE u_STOPPING u_RETRYING u_ENDED u_cache fc h0 n0) room_1.cells room_1.slots) T134 (mkF m 165 #[.val (.long q1), .second, .val (.long q2), .second, .val (.long q3), .second, .val (.long q4), .second, .val (.int p5), .val (.int p6), .val (.int v4), .val (.int v10), .val (.int v18), .val (.long j24_0), .second, .val (.long j40_0), .second, .val (.ref b51), .val (.ref b121), .unset] [(.int j143_0)]) := by
            intro j143_0 ej143_0
            refine own_istore X hx hby at_165 rfl (l' := #[.val (.long q1), .second, .val (.long q2), .second, .val (.long q3), .second, .val (.long q4), .second, .val (.int p5), .val (.int p6), .val (.int v4), .val (.int v10), .val (.int v18), .val (.long j24_0), .second, .val (.long j40_0), .second, .val (.ref b51), .val (.ref b121), .val (.int j143_0)]) rfl 167 rfl ?_
            refine own_aload X hx hby (.ref b51) at_167 rfl rfl 169 rfl ?_
            refine own_aload X hx hby (.ref b121) at_169 rfl rfl 171 rfl ?_
            refine own_callV X hx hby hZ (st := []) [(.ref b121)] rfl hown (hw _ (List.mem_of_getElem? (i := 38) rfl)) (hw _ (List.mem_of_getElem? (i := 39) rfl)) (hw _ (List.mem_of_getElem? (i := 41) rfl)) (hw _ (List.mem_of_getElem? (i := 40) rfl)) (hw _ (List.mem_of_getElem? (i := 2) rfl)) (hw _ (List.mem_of_getElem? (i := 42) rfl)) E_b51 (by decide) at_171 (rm5_s l Z a0 hw b51 b121 q1 j24_0 b58rr b129rr q2 j40_0 h134 n0 Zs E_b51 E_b121 F_period_b51 F_period_b121 F_state_b51 F_state_b121 F_cyclesAfter_b51 F_cyclesAfter_b121) eT pd_5 rfl (by rw [hml]; rfl) (by decide) 0 rfl (by decide) (by decide) (by decide) 174 rfl ?_
            intro T171 L9 v9 X hQ
            obtain ⟨rfl, N9, eT⟩ := hQ
            have N := Fr.app N N9
            show Go p e below _ T171 (mkF m 174 #[.val (.long q1), .second, .val (.long q2), .second, .val (.long q3), .second, .val (.long q4), .second, .val (.int p5), .val (.int p6), .val (.int v4), .val (.int v10), .val (.int v18), .val (.long j24_0), .second, .val (.long j40_0), .second, .val (.ref b51), .val (.ref b121), .val (.int j143_0)] [(.int (f5_s b51 b121 q1 j24_0 b58rr b129rr q2 j40_0))])
            refine own_iload X hx hby j143_0 at_174 rfl 176 rfl ?_
            have c176 : (f5_s b51 b121 q1 j24_0 b58rr b129rr q2 j40_0) = j143_0 := own_eq _ _ _ _ _ _ _ _ _ _ _ ne_b51_b121 (by rw [er_b58rr, er_b129rr]; exact own_inj _ _ u_ACTIVE u_STOPPING u_RETRYING u_ENDED n_ACTIVE_STOPPING n_ACTIVE_RETRYING n_ACTIVE_ENDED n_STOPPING_RETRYING n_STOPPING_ENDED n_RETRYING_ENDED (own_four _ _ e4) (own_four _ _ e10)) ej143_0
            refine own_icmp_ne X hx hby at_176 195 179 (by decide) rfl (fun q => absurd c176 q) (fun _ => ?_)
            refine own_aload X hx hby (.ref b121) at_179 rfl rfl 181 rfl ?_
            refine own_aload X hx hby (.ref b51) at_181 rfl rfl 183 rfl ?_
            refine own_callV X hx hby hZ (st := []) [(.ref b51)] rfl hown (hw _ (List.mem_of_getElem? (i := 38) rfl)) (hw _ (List.mem_of_getElem? (i := 39) rfl)) (hw _ (List.mem_of_getElem? (i := 41) rfl)) (hw _ (List.mem_of_getElem? (i := 40) rfl)) (hw _ (List.mem_of_getElem? (i := 2) rfl)) (hw _ (List.mem_of_getElem? (i := 42) rfl)) E_b121 (by decide) at_183 (rm5_s l Z a0 hw b121 b51 j24_0 q1 b129rr b58rr j40_0 q2 h134 n0 Zs E_b121 E_b51 F_period_b121 F_period_b51 F_state_b121 F_state_b51 F_cyclesAfter_b121 F_cyclesAfter_b51) eT pd_5 rfl (by rw [hml]; rfl) (by decide) 0 rfl (by decide) (by decide) (by decide) 186 rfl ?_
            intro T183 L9 v9 X hQ
            obtain ⟨rfl, N9, eT⟩ := hQ
            have N := Fr.app N N9
            show Go p e below _ T183 (mkF m 186 #[.val (.long q1), .second, .val (.long q2), .second, .val (.long q3), .second, .val (.long q4), .second, .val (.int p5), .val (.int p6), .val (.int v4), .val (.int v10), .val (.int v18), .val (.long j24_0), .second, .val (.long j40_0), .second, .val (.ref b51), .val (.ref b121), .val (.int j143_0)] [(.int (f5_s b121 b51 j24_0 q1 b129rr b58rr j40_0 q2))])
            refine own_iload X hx hby j143_0 at_186 rfl 188 rfl ?_
            have c188 : (f5_s b121 b51 j24_0 q1 b129rr b58rr j40_0 q2) = j143_0 := own_eq2 _ _ _ _ _ _ _ _ _ _ _ ne_b51_b121 (by rw [er_b58rr, er_b129rr]; exact own_inj _ _ u_ACTIVE u_STOPPING u_RETRYING u_ENDED n_ACTIVE_STOPPING n_ACTIVE_RETRYING n_ACTIVE_ENDED n_STOPPING_RETRYING n_STOPPING_ENDED n_RETRYING_ENDED (own_four _ _ e4) (own_four _ _ e10)) ej143_0
            refine own_icmp_ne X hx hby at_188 195 191 (by decide) rfl (fun q => absurd c188 q) (fun _ => ?_)
            refine own_iconst X hx hby (1 : Int32) at_191 rfl 192 rfl ?_
            refine own_goto X hx hby at_192 196 (by decide) ?_
            refine own_retNW X hx hby hS (by rw [eT]; exact hk) hret hlk (t := .boolean) (z' := (1 : Int32)) (by simp) at_196 (by decide) (by decide) rfl ?_
            rw [eT]
            exact ⟨rfl, N⟩
          refine own_lcmp_ne X hx hby at_142 at_143 164 146 (by decide) rfl (fun c143 => ?_) (fun c143 => ?_)
          · skip
            refine own_iconst X hx hby (0 : Int32) at_164 rfl 165 rfl ?_
            exact J143 _ (by rw [if_neg c143])
          · skip
            refine own_iload X hx hby v4 at_146 rfl 148 rfl ?_
            refine own_iload X hx hby v10 at_148 rfl 150 rfl ?_
            refine own_icmp_ne X hx hby at_150 164 153 (by decide) rfl (fun c150 => ?_) (fun c150 => ?_)
            · skip
              refine own_iconst X hx hby (0 : Int32) at_164 rfl 165 rfl ?_
              exact J143 _ (by rw [if_pos c143, if_neg c150])
            · skip
              refine own_lloadN X hx hby q2 at_153 rfl 154 rfl ?_
              refine own_lload X hx hby j40_0 at_154 rfl 156 rfl ?_
              refine own_lcmp_ne X hx hby at_156 at_157 164 160 (by decide) rfl (fun c157 => ?_) (fun c157 => ?_)
              · skip
                refine own_iconst X hx hby (0 : Int32) at_164 rfl 165 rfl ?_
                exact J143 _ (by rw [if_pos c143, if_pos c150, if_neg c157])
              · skip
                refine own_iconst X hx hby (1 : Int32) at_160 rfl 161 rfl ?_
                refine own_goto X hx hby at_161 165 (by decide) ?_
                exact J143 _ (by rw [if_pos c143, if_pos c150, if_pos c157])
        · skip
          refine own_iload X hx hby p6 at_87 rfl 89 rfl ?_
          refine own_bipush X hx hby (16 : Int32) at_89 rfl 91 rfl ?_
          refine own_iand X hx hby at_91 92 rfl ?_
          refine own_if_eq X hx hby at_92 99 95 (by decide) rfl (fun c92 => ?_) (fun c92 => ?_)
          · skip
            refine own_lloadN X hx hby q1 at_99 rfl 100 rfl ?_
            refine own_callS X hx hby hZ (st := []) [(.long q1)] rfl hown (hw _ (List.mem_of_getElem? (i := 47) rfl)) (hw _ (List.mem_of_getElem? (i := 48) rfl)) (hw _ (List.mem_of_getElem? (i := 49) rfl)) (hw _ (List.mem_of_getElem? (i := 50) rfl)) (by decide) at_100 (rm6 l Z a0 hw q1 u_cache fc h62 n0 Zs (A_cache.ext (own_ext0 K)) (fun i hi => by obtain ⟨r, h1, h2⟩ := hfc i hi; exact ⟨r, h1, h2.ext (own_ext0 K)⟩) (S_cache.ext (own_ext0 K))) eT pd_2 rfl (by rw [hml]; rfl) (by decide) 0 rfl (by decide) (by decide) (by decide) 103 rfl ?_
            intro T100 L9 v9 X hQ
            obtain ⟨h100, eT⟩ : ∃ z, T100.heap = z := ⟨_, rfl⟩
            rw [eT] at hQ
            have lt_b51 := E_b51.lt
            have lt_b58rr := E_b58rr.lt
            have lt_u_ACTIVE := E_u_ACTIVE.lt
            have lt_u_ENDED := E_u_ENDED.lt
            have lt_u_RETRYING := E_u_RETRYING.lt
            have lt_u_STOPPING := E_u_STOPPING.lt
            obtain ⟨b100rr, rfl, N9, Kc, E_b100rr⟩ := hQ
            have hk := Nat.le_trans hk Kc.1
            have E_b51 := E_b51.keep Kc
            have F_period_b51 := F_period_b51.keep Kc nin0
            have F_state_b51 := F_state_b51.keep Kc nin0
            have F_cyclesAfter_b51 := F_cyclesAfter_b51.keep Kc nin0
            have E_b58rr := E_b58rr.keep Kc
            have K := K.trans Kc all0
            have Zs := Nat.le_trans Zs Kc.1
            have N := Fr.app N N9
            show Go p e below _ T100 (mkF m 103 #[.val (.long q1), .second, .val (.long q2), .second, .val (.long q3), .second, .val (.long q4), .second, .val (.int p5), .val (.int p6), .val (.int v4), .val (.int v10), .val (.int v18), .val (.long j24_0), .second, .val (.long j40_0), .second, .val (.ref b51), .unset, .unset] [(.ref b100rr)])
            refine own_astore X hx hby at_103 rfl (l' := #[.val (.long q1), .second, .val (.long q2), .second, .val (.long q3), .second, .val (.long q4), .second, .val (.int p5), .val (.int p6), .val (.int v4), .val (.int v10), .val (.int v18), .val (.long j24_0), .second, .val (.long j40_0), .second, .val (.ref b51), .val (.ref b100rr), .unset]) rfl 105 rfl ?_
            refine own_aload X hx hby (.ref b51) at_105 rfl rfl 107 rfl ?_
            refine own_aload X hx hby (.ref b100rr) at_107 rfl rfl 109 rfl ?_
            refine own_callV X hx hby hZ (st := []) [(.ref b100rr)] rfl hown (hw _ (List.mem_of_getElem? (i := 38) rfl)) (hw _ (List.mem_of_getElem? (i := 39) rfl)) (hw _ (List.mem_of_getElem? (i := 41) rfl)) (hw _ (List.mem_of_getElem? (i := 40) rfl)) (hw _ (List.mem_of_getElem? (i := 2) rfl)) (hw _ (List.mem_of_getElem? (i := 42) rfl)) E_b51 (by decide) at_109 (rm5_l l Z a0 hw b51 b100rr h100 n0 Zs E_b51 E_b100rr) eT pd_5 rfl (by rw [hml]; rfl) (by decide) 0 rfl (by decide) (by decide) (by decide) 112 rfl ?_
            intro T109 L9 v9 X hQ
            obtain ⟨rfl, N9, eT⟩ := hQ
            have N := Fr.app N N9
            show Go p e below _ T109 (mkF m 112 #[.val (.long q1), .second, .val (.long q2), .second, .val (.long q3), .second, .val (.long q4), .second, .val (.int p5), .val (.int p6), .val (.int v4), .val (.int v10), .val (.int v18), .val (.long j24_0), .second, .val (.long j40_0), .second, .val (.ref b51), .val (.ref b100rr), .unset] [(.int (0 : Int32))])
            have c112 : (0 : Int32) = (0 : Int32) := by decide
            refine own_if_ne X hx hby at_112 119 115 (by decide) rfl (fun q => absurd c112 q) (fun _ => ?_)
            refine own_iconst X hx hby (1 : Int32) at_115 rfl 116 rfl ?_
            refine own_goto X hx hby at_116 120 (by decide) ?_
            refine own_retNW X hx hby hS (by rw [eT]; exact hk) hret hlk (t := .boolean) (z' := (1 : Int32)) (by simp) at_120 (by decide) (by decide) rfl ?_
            rw [eT]
            exact ⟨rfl, N⟩
          · skip
            refine own_aconstNull X hx hby at_95 96 rfl ?_
            refine own_goto X hx hby at_96 103 (by decide) ?_
            refine own_astore X hx hby at_103 rfl (l' := #[.val (.long q1), .second, .val (.long q2), .second, .val (.long q3), .second, .val (.long q4), .second, .val (.int p5), .val (.int p6), .val (.int v4), .val (.int v10), .val (.int v18), .val (.long j24_0), .second, .val (.long j40_0), .second, .val (.ref b51), .val .null, .unset]) rfl 105 rfl ?_
            refine own_aload X hx hby (.ref b51) at_105 rfl rfl 107 rfl ?_
            refine own_aload X hx hby .null at_107 rfl rfl 109 rfl ?_
            refine own_callV X hx hby hZ (st := []) [.null] rfl hown (hw _ (List.mem_of_getElem? (i := 38) rfl)) (hw _ (List.mem_of_getElem? (i := 39) rfl)) (hw _ (List.mem_of_getElem? (i := 41) rfl)) (hw _ (List.mem_of_getElem? (i := 40) rfl)) (hw _ (List.mem_of_getElem? (i := 2) rfl)) (hw _ (List.mem_of_getElem? (i := 42) rfl)) E_b51 (by decide) at_109 (rm5_n l Z a0 hw b51 h62 n0 Zs ) eT pd_5 rfl (by rw [hml]; rfl) (by decide) 0 rfl (by decide) (by decide) (by decide) 112 rfl ?_
            intro T109 L9 v9 X hQ
            obtain ⟨rfl, N9, eT⟩ := hQ
            have N := Fr.app N N9
            show Go p e below _ T109 (mkF m 112 #[.val (.long q1), .second, .val (.long q2), .second, .val (.long q3), .second, .val (.long q4), .second, .val (.int p5), .val (.int p6), .val (.int v4), .val (.int v10), .val (.int v18), .val (.long j24_0), .second, .val (.long j40_0), .second, .val (.ref b51), .val .null, .unset] [(.int (0 : Int32))])
            have c112 : (0 : Int32) = (0 : Int32) := by decide
            refine own_if_ne X hx hby at_112 119 115 (by decide) rfl (fun q => absurd c112 q) (fun _ => ?_)
            refine own_iconst X hx hby (1 : Int32) at_115 rfl 116 rfl ?_
            refine own_goto X hx hby at_116 120 (by decide) ?_
            refine own_retNW X hx hby hS (by rw [eT]; exact hk) hret hlk (t := .boolean) (z' := (1 : Int32)) (by simp) at_120 (by decide) (by decide) rfl ?_
            rw [eT]
            exact ⟨rfl, N⟩
      · skip
        refine own_aload X hx hby (.ref b51) at_73 rfl rfl 75 rfl ?_
        refine own_aload X hx hby (.ref b51) at_75 rfl rfl 77 rfl ?_
        refine own_callV X hx hby hZ (st := []) [(.ref b51)] rfl hown (hw _ (List.mem_of_getElem? (i := 38) rfl)) (hw _ (List.mem_of_getElem? (i := 39) rfl)) (hw _ (List.mem_of_getElem? (i := 41) rfl)) (hw _ (List.mem_of_getElem? (i := 40) rfl)) (hw _ (List.mem_of_getElem? (i := 2) rfl)) (hw _ (List.mem_of_getElem? (i := 42) rfl)) E_b51 (by decide) at_77 (rm5_s l Z a0 hw b51 b51 q1 q1 b58rr b58rr q2 q2 h62 n0 Zs E_b51 E_b51 F_period_b51 F_period_b51 F_state_b51 F_state_b51 F_cyclesAfter_b51 F_cyclesAfter_b51) eT pd_5 rfl (by rw [hml]; rfl) (by decide) 0 rfl (by decide) (by decide) (by decide) 80 rfl ?_
        intro T77 L9 v9 X hQ
        obtain ⟨rfl, N9, eT⟩ := hQ
        have N := Fr.app N N9
        show Go p e below _ T77 (mkF m 80 #[.val (.long q1), .second, .val (.long q2), .second, .val (.long q3), .second, .val (.long q4), .second, .val (.int p5), .val (.int p6), .val (.int v4), .val (.int v10), .val (.int v18), .val (.long j24_0), .second, .val (.long j40_0), .second, .val (.ref b51), .unset, .unset] [(.int (f5_s b51 b51 q1 q1 b58rr b58rr q2 q2))])
        refine own_top (v' := .int (1 : Int32)) (congrArg Value.int (own_self _ _ _ _)) ?_
        refine own_retNW X hx hby hS (by rw [eT]; exact hk) hret hlk (t := .boolean) (z' := (1 : Int32)) (by simp) at_80 (by decide) (by decide) rfl ?_
        rw [eT]
        exact ⟨rfl, N⟩
    refine own_if_eq X hx hby at_40 47 43 (by decide) rfl (fun c40 => ?_) (fun c40 => ?_)
    · skip
      refine own_lload X hx hby q4 at_47 rfl 49 rfl ?_
      exact J40 _ (by rw [if_pos c40])
    · skip
      refine own_lloadN X hx hby q2 at_43 rfl 44 rfl ?_
      refine own_goto X hx hby at_44 49 (by decide) ?_
      exact J40 _ (by rw [if_neg c40])
  refine own_if_eq X hx hby at_24 31 27 (by decide) rfl (fun c24 => ?_) (fun c24 => ?_)
  · skip
    refine own_lload X hx hby q3 at_31 rfl 33 rfl ?_
    exact J24 _ (by rw [if_pos c24])
  · skip
    refine own_lloadN X hx hby q1 at_27 rfl 28 rfl ?_
    refine own_goto X hx hby at_28 33 (by decide) ?_
    exact J24 _ (by rw [if_neg c24])
theorem own_cache {s : State} {args : Array Value} {t : Term} {u : Addr} {cl : Cell} (hfit : Fit s) (ev : ∀ idx, t.eval args s none idx s = some (.ref u)) (A : Arr s s.heap u cl (.object "java/lang/Long")) (hl : (Jvm.Cond.eq (.length t) (.int 256)).before args s = true)
    {CC : Jvm.Cond} (ha : (Jvm.Cond.all t (.and (.exactly (.elem t (.index 0)) "java/lang/Long") CC)).before args s = true) :
    ∃ fc : Nat → Value, Afn s s.heap u (.object "java/lang/Long") 256 fc ∧ ∀ i, i < 256 → ∃ r : Addr, fc i = .ref r ∧ Exa s s.heap r "java/lang/Long" := by
  obtain ⟨hb, hz⟩ := Jvm.Free.IntBox.length_fwd hl (ev []) A.1 A.2.1 A.2.2
  have hsz : cl.slots.size = 256 := by
    have q := len_toInt hb
    rw [hz] at q
    simp only [Int32.reduceToInt] at q
    omega
  have hat := A.fin (Vm.Alike.refl _)
  have hall := Cond.all_elim (ev []) hat (Cond.before_iff.mp ha)
  have key : ∀ i, i < 256 → ∃ r : Addr, cl.slots[i]? = some (.ref r) ∧ Exa s s.heap r "java/lang/Long" := by
    intro i hi
    have h1 := (and_e (hall i (by rw [hsz]; exact hi))).1
    obtain ⟨r, hr⟩ := exa_v h1
    have hE : Exa s s.heap r "java/lang/Long" := exa_at hr h1
    obtain ⟨hnn, hback⟩ := Jvm.Free.IntBox.place_nonneg i hi
    have e0 : (Term.elem t (.index 0)).eval args s none [i] s = cl.slots[i]? := by simp [Term.eval, ev, hnn, hat, hback]
    exact ⟨r, e0 ▸ hr, hE⟩
  refine ⟨fun i => cl.slots[i]?.getD .null, ⟨cl, A, hsz, fun i hi => ?_⟩, fun i hi => ?_⟩
  · obtain ⟨r, h1, -⟩ := key i hi
    refine ⟨?_, ?_⟩
    · show cl.slots[i]? = some (cl.slots[i]?.getD .null)
      rw [h1]; rfl
    · show fits _ (cl.slots[i]?.getD .null) = true
      rw [h1]; rfl
  · obtain ⟨r, h1, h2⟩ := key i hi
    exact ⟨r, by show cl.slots[i]?.getD .null = _; rw [h1]; rfl, h2⟩
set_option maxRecDepth 65536 in
set_option maxHeartbeats 40000000 in
theorem comes_1 {Post : Tables → Env → Array Value → State → Outcome → State → Prop} (hpost : ∀ tb e args s v u, (limb_1_1.after args s (.returned v) u = true ∧ limb_1_2.after args s (.returned v) u = true ∧ True) → ReturnedEndW s (.returned v) u (Jvm.fieldLocs frame_1_writes args s ++ Jvm.arrayLocs frame_1_arrays args s ++ Jvm.staticLocs frame_1_statics s) 16 1152 → Post tb e args s (.returned v) u) :
    ArmFor flags0 classFile x code maxLocals ret World_1 tables_1 room_1 Calls_1 rest_1 Pre_1 Post := by
  intro l hfl _ _ p e ha hc hk s m args below hf hA hF happ hP
  obtain ⟨hcalls, hrest, hpre⟩ := hP
  obtain ⟨-, -, -, hnamed, -, -, -, hat⟩ := (Spec.applies_iff hf).mp happ
  obtain ⟨hg, hn⟩ := and_e (Cond.before_iff.mp (show (Jvm.Cond.and given_1 narrow_1).before args s = true from hpre))
  obtain ⟨gg1, gg2⟩ := and_e hg
  obtain ⟨gg3, gg4⟩ := and_e gg2
  obtain ⟨gg5, gg6⟩ := and_e gg4
  obtain ⟨gg7, gg8⟩ := and_e gg6
  obtain ⟨gg9, gg10⟩ := and_e gg8
  obtain ⟨gg11, gg12⟩ := and_e gg10
  obtain ⟨w0, w1, w2, w3, w4, w5, rfl⟩ : ∃ w0 w1 w2 w3 w4 w5 : Value, args = #[w0, w1, w2, w3, w4, w5] := by
    have hs : args.size = 6 := by simpa [Cond.value, given_1] using gg1
    obtain ⟨L⟩ := args
    match L, hs with
    | [w0, w1, w2, w3, w4, w5], _ => exact ⟨w0, w1, w2, w3, w4, w5, rfl⟩
  have hw := fun d (hd : d ∈ tables_1) => atoms_spec (ws := Jvm.Cond.code x code maxLocals ret :: tables_1) hat d (List.mem_cons_of_mem _ hd)
  have hfit : Fit s := fun {y c} hc i hi => by
    obtain ⟨ha, rfl⟩ := Array.getElem?_eq_some_iff.mp hc
    have q := List.all_eq_true.mp ((Array.all_eq_true_iff_forall_mem.mp hF) _ (Array.getElem_mem ha)) i (List.mem_range.mpr hi)
    simpa [Array.getElem?_eq_getElem hi] using q
  obtain ⟨hsets, hown0⟩ := atoms_of _ (rest_1_c_eq ▸ (show rest_1_c.before _ s = true from hrest))
  have hr0 := Cond.before_iff.mp hown0
  obtain ⟨i0, ei0⟩ := isL_v gg3
  obtain rfl : w0 = (.long i0) := Option.some.inj ei0
  obtain ⟨i1, ei1⟩ := isL_v gg5
  obtain rfl : w1 = (.long i1) := Option.some.inj ei1
  obtain ⟨i2, ei2⟩ := isL_v gg7
  obtain rfl : w2 = (.long i2) := Option.some.inj ei2
  obtain ⟨i3, ei3⟩ := isL_v gg9
  obtain rfl : w3 = (.long i3) := Option.some.inj ei3
  obtain ⟨i4, ei4⟩ := is_v gg11
  obtain rfl : w4 = (.int i4) := Option.some.inj ei4
  obtain ⟨i5, ei5⟩ := is_v gg12
  obtain rfl : w5 = (.int i5) := Option.some.inj ei5
  obtain ⟨nn1a, nn1b⟩ := and_e hn
  obtain ⟨nn2a, nn2b⟩ := and_e nn1b
  obtain ⟨nn3a, nn3b⟩ := and_e nn2b
  obtain ⟨nn4a, nn4b⟩ := and_e nn3b
  obtain ⟨nn5a, nn5b⟩ := and_e nn4b
  obtain ⟨nn6a, nn6b⟩ := and_e nn5b
  obtain ⟨nn7a, nn7b⟩ := and_e nn6b
  obtain ⟨u_ENDED, ev_ENDED⟩ := exa_v nn1a
  have E_u_ENDED := Exa.start ev_ENDED nn1a
  have S_ENDED := Sta.start ev_ENDED (Or.inr ⟨(hw _ (List.mem_of_getElem? (i := 8) rfl)), (hw _ (List.mem_of_getElem? (i := 9) rfl))⟩)
  obtain ⟨u_ACTIVE, ev_ACTIVE⟩ := exa_v nn2a
  have E_u_ACTIVE := Exa.start ev_ACTIVE nn2a
  have S_ACTIVE := Sta.start ev_ACTIVE (Or.inr ⟨(hw _ (List.mem_of_getElem? (i := 8) rfl)), (hw _ (List.mem_of_getElem? (i := 37) rfl))⟩)
  obtain ⟨u_STOPPING, ev_STOPPING⟩ := exa_v nn3a
  have E_u_STOPPING := Exa.start ev_STOPPING nn3a
  have S_STOPPING := Sta.start ev_STOPPING (Or.inr ⟨(hw _ (List.mem_of_getElem? (i := 8) rfl)), (hw _ (List.mem_of_getElem? (i := 46) rfl))⟩)
  obtain ⟨u_RETRYING, ev_RETRYING⟩ := exa_v nn4a
  have E_u_RETRYING := Exa.start ev_RETRYING nn4a
  have S_RETRYING := Sta.start ev_RETRYING (Or.inr ⟨(hw _ (List.mem_of_getElem? (i := 8) rfl)), (hw _ (List.mem_of_getElem? (i := 74) rfl))⟩)
  have F_ordinal_u_ACTIVE := own_fld_start ev_ACTIVE nn5a
  have F_ordinal_u_ENDED := own_fld_start ev_ENDED nn6a
  have F_ordinal_u_RETRYING := own_fld_start ev_RETRYING nn7a
  have F_ordinal_u_STOPPING := own_fld_start ev_STOPPING nn7b
  obtain ⟨u_cache, evC⟩ := arr_v (Cond.before_iff.mp (hsets _ (List.mem_of_getElem? (i := 2) rfl)))
  have S_cache := Sta.start evC (Or.inl (hsets _ (List.mem_of_getElem? (i := 1) rfl)))
  obtain ⟨clC, ArC⟩ := Arr.start evC (Cond.before_iff.mp (hsets _ (List.mem_of_getElem? (i := 2) rfl)))
  obtain ⟨fc, A_cache, hfc⟩ := own_cache hfit (fun _ => evC) ArC (hsets _ (List.mem_of_getElem? (i := 4) rfl)) (hsets _ (List.mem_of_getElem? (i := 5) rfl))
  have n_ACTIVE_STOPPING := Fld.ne F_ordinal_u_ACTIVE F_ordinal_u_STOPPING (by decide)
  have n_ACTIVE_RETRYING := Fld.ne F_ordinal_u_ACTIVE F_ordinal_u_RETRYING (by decide)
  have n_ACTIVE_ENDED := Fld.ne F_ordinal_u_ACTIVE F_ordinal_u_ENDED (by decide)
  have n_STOPPING_RETRYING := Fld.ne F_ordinal_u_STOPPING F_ordinal_u_RETRYING (by decide)
  have n_STOPPING_ENDED := Fld.ne F_ordinal_u_STOPPING F_ordinal_u_ENDED (by decide)
  have n_RETRYING_ENDED := Fld.ne F_ordinal_u_RETRYING F_ordinal_u_ENDED (by decide)
  obtain ⟨n, o, h1, h2, h3, _, L, rfl, ⟨rfl, N⟩, hq⟩ := rm0 l s _ hw i0 i1 i2 i3 i4 i5 u_ACTIVE u_STOPPING u_RETRYING u_ENDED u_cache fc s.heap s.heap.size (Nat.le_refl _) A_cache hfc n_ACTIVE_STOPPING n_ACTIVE_RETRYING n_ACTIVE_ENDED n_STOPPING_RETRYING n_STOPPING_ENDED n_RETRYING_ENDED S_ACTIVE S_STOPPING S_RETRYING S_ENDED S_cache E_u_ACTIVE E_u_STOPPING E_u_RETRYING E_u_ENDED tables_1 p e ha hc hk s m _ below hf ((Spec.applies_iff_loose hf).mp happ).1 ⟨rfl, State.Warmed39.refl s, rfl⟩ trivial
  refine ⟨n, _, h1, h2, h3, hpost _ _ _ _ _ _ ⟨Cond.after_iff.mpr rfl, Cond.after_iff.mpr (eq_i res_at (Term.int_eval (1)) rfl), trivial⟩ ⟨hq.1, hq.2.1, hq.2.2.1, (hq.2.2.2.sift fun y hy => Or.inr (N y hy)).mono (by decide) (by decide)⟩⟩
theorem main_1_1 : Claimed_1_1 := comes_1 fun _ _ _ _ _ _ h hF => ⟨h.1, hF⟩
theorem main_1_2 : Claimed_1_2 := comes_1 fun _ _ _ _ _ _ h hF => ⟨h.2.1, hF⟩
end Jvm.Pilot.@@N@@
namespace Jvm.Pilot.@@N@@
open Jvm Jvm.ClassFile Sem Op Lib Jvm.Free Jvm.Stand Jvm.Pilot.@@N@@.Jvm.D
/-! MADE BY PROGRAM (witnessworld.py) out of the Statement's table words and the real class files: 21 classes; the members and pool entries that the words name. The judged class is class 1, her method 2. -/
namespace start1
open Jvm.ClassFile
def u (s : String) : CpInfo := .utf8 (stringToUtf16 s)
/-- a pool by its gaps: so many unusable entries, then the entry; so many at the end -/
def gap : Nat → List CpInfo → List CpInfo
  | 0, r => r
  | n + 1, r => .unusable :: gap n r
def poolList (es : List (Nat × CpInfo)) (last : Nat) : List CpInfo := es.foldr (fun e r => gap e.1 (e.2 :: r)) (gap last [])
def pool (es : List (Nat × CpInfo)) (last : Nat) : Array CpInfo := ⟨poolList es last⟩
def fileOf (pool : Array CpInfo) (this : Nat) (attrs : Array Attribute := #[]) (ms : Array MethodInfo := #[]) (fl : Nat := 33) (sup : Nat := 0) (ifs : Array Nat := #[]) (fds : Array FieldInfo := #[]) : ClassFile where
  minorVersion := 0
  majorVersion := 65
  constantPool := pool
  accessFlags := fl
  thisClass := this
  superClass := sup
  interfaces := ifs
  fields := fds
  methods := ms
  attributes := attrs
def plain (name : String) (sup : Option ClassId) : Class where
  name := name
  kind := .ordinary
  loader := none
  accessFlags := 33
  super := sup
  interfaces := #[]
  cf := none
  fields := #[]
  methods := #[]
  instanceTypes := #[]
  staticTypes := #[]
  resolved := #[]
  callSites := []
  init := .initialized
  statics := none
  mirror := none

def pool0 : Array CpInfo := pool [(5, u "<init>"), (0, u "()V"), (1, .class_ 10), (1, u "java/lang/Object")] 113

def k0c0 : Code := { maxStack := 0, maxLocals := 1, code := object_method_1_code, exceptionTable := #[], attributes := #[] }
def k0m0 : Method := { name := "<init>", desc := "()V", sig := { parameters := [], returnType := none }, accessFlags := 1, code := some k0c0 }
/-- java/lang/Object -/
def k0 : Class := { plain "java/lang/Object" none with
  accessFlags := 33
  interfaces := #[]
  cf := some (fileOf pool0 8 #[] #[{ accessFlags := 1, nameIndex := 5, descriptorIndex := 6, attributes := #[] }] 33 0 #[] #[])
  fields := #[]
  methods := #[k0m0]
  instanceTypes := #[]
  staticTypes := #[]
  resolved := Array.replicate 124 none
  statics := none }

def pool1 : Array CpInfo := pool [(2, .class_ 4), (1, u "java/lang/Object"), (0, u "<init>"), (0, u "()V"), (0, .fieldref 8 9), (0, .class_ 10), (0, .nameAndType 11 12), (0, u "com/example/daylily/daylily/engine/PackageState"), (0, u "ACTIVE"), (0, u "Lcom/example/daylily/daylily/engine/PackageState;"), (0, .fieldref 8 14), (0, .nameAndType 15 12), (0, u "STOPPING"), (0, .fieldref 8 17), (0, .nameAndType 18 12), (0, u "RETRYING"), (0, .fieldref 8 20), (0, .nameAndType 21 12), (0, u "ENDED"), (0, .class_ 23), (0, u "com/example/daylily/daylily/engine/Standing"), (0, .methodref 25 26), (0, .class_ 27), (0, .nameAndType 28 29), (0, u "com/example/daylily/daylily/engine/StandingEqualsPinLaw"), (0, u "st"), (0, u "(I)Lcom/example/daylily/daylily/engine/PackageState;"), (0, .methodref 22 31), (0, .nameAndType 5 32), (0, u "(JLcom/example/daylily/daylily/engine/PackageState;J)V"), (0, .methodref 22 34), (0, .nameAndType 35 36), (0, u "equals"), (0, u "(Ljava/lang/Object;)Z"), (0, .methodref 38 39), (0, .class_ 40), (0, .nameAndType 41 42), (0, u "java/lang/Long"), (0, u "valueOf"), (0, u "(J)Ljava/lang/Long;"), (3, u "law"), (0, u "(JJJJII)Z")] 2

def k1m0 : Method := { name := "<init>", desc := "()V", sig := { parameters := [], returnType := none }, accessFlags := 1, code := none }
def k1c1 : Code := { maxStack := 2, maxLocals := 1, code := method_2_code, exceptionTable := #[], attributes := #[] }
def k1m1 : Method := { name := "st", desc := "(I)Lcom/example/daylily/daylily/engine/PackageState;", sig := { parameters := [.int], returnType := some (.object "com/example/daylily/daylily/engine/PackageState") }, accessFlags := 10, code := some k1c1 }
def k1c2 : Code := { maxStack := 7, maxLocals := 20, code := code, exceptionTable := #[], attributes := #[] }
def k1m2 : Method := { name := "law", desc := "(JJJJII)Z", sig := { parameters := [.long, .long, .long, .long, .int, .int], returnType := some .boolean }, accessFlags := 9, code := some k1c2 }
/-- com/example/daylily/daylily/engine/StandingEqualsPinLaw -/
def k1 : Class := { plain "com/example/daylily/daylily/engine/StandingEqualsPinLaw" (some 0) with
  accessFlags := 49
  interfaces := #[]
  cf := some (fileOf pool1 25 #[] #[{ accessFlags := 1, nameIndex := 5, descriptorIndex := 6, attributes := #[] }, { accessFlags := 10, nameIndex := 28, descriptorIndex := 29, attributes := #[] }, { accessFlags := 9, nameIndex := 46, descriptorIndex := 47, attributes := #[] }] 49 2 #[] #[])
  fields := #[]
  methods := #[k1m0, k1m1, k1m2]
  instanceTypes := #[]
  staticTypes := #[]
  resolved := Array.replicate 50 none
  statics := none }

def pool2 : Array CpInfo := pool [(1, .methodref 2 3), (0, .class_ 4), (0, .nameAndType 5 6), (0, u "java/lang/Object"), (0, u "<init>"), (0, u "()V"), (0, .fieldref 8 9), (0, .class_ 10), (0, .nameAndType 11 12), (0, u "com/example/daylily/daylily/engine/Standing"), (0, u "period"), (0, u "J"), (0, .string 14), (0, u "state"), (0, .methodref 16 17), (0, .class_ 18), (0, .nameAndType 19 20), (0, u "java/util/Objects"), (0, u "requireNonNull"), (0, u "(Ljava/lang/Object;Ljava/lang/String;)Ljava/lang/Object;"), (0, .class_ 22), (0, u "com/example/daylily/daylily/engine/PackageState"), (0, .fieldref 8 24), (0, .nameAndType 14 25), (0, u "Lcom/example/daylily/daylily/engine/PackageState;"), (0, .fieldref 8 27), (0, .nameAndType 28 12), (0, u "cyclesAfter"), (10, u "(JLcom/example/daylily/daylily/engine/PackageState;J)V"), (7, u "equals"), (0, u "(Ljava/lang/Object;)Z")] 5

def k2c0 : Code := { maxStack := 3, maxLocals := 6, code := prog_16_method_1_code, exceptionTable := #[], attributes := #[] }
def k2m0 : Method := { name := "<init>", desc := "(JLcom/example/daylily/daylily/engine/PackageState;J)V", sig := { parameters := [.long, (.object "com/example/daylily/daylily/engine/PackageState"), .long], returnType := none }, accessFlags := 0, code := some k2c0 }
def k2c1 : Code := { maxStack := 4, maxLocals := 3, code := prog_16_method_5_code, exceptionTable := #[], attributes := #[] }
def k2m1 : Method := { name := "equals", desc := "(Ljava/lang/Object;)Z", sig := { parameters := [(.object "java/lang/Object")], returnType := some .boolean }, accessFlags := 1, code := some k2c1 }
/-- com/example/daylily/daylily/engine/Standing -/
def k2 : Class := { plain "com/example/daylily/daylily/engine/Standing" (some 0) with
  accessFlags := 48
  interfaces := #[]
  cf := some (fileOf pool2 8 #[] #[{ accessFlags := 0, nameIndex := 5, descriptorIndex := 39, attributes := #[] }, { accessFlags := 1, nameIndex := 47, descriptorIndex := 48, attributes := #[] }] 48 2 #[] #[{ accessFlags := 18, nameIndex := 11, descriptorIndex := 12, attributes := #[] }, { accessFlags := 18, nameIndex := 14, descriptorIndex := 25, attributes := #[] }, { accessFlags := 18, nameIndex := 28, descriptorIndex := 12, attributes := #[] }])
  fields := #[{ name := "period", type := .long, accessFlags := 18, slot := 0, constantValue := 0 }, { name := "state", type := (.object "com/example/daylily/daylily/engine/PackageState"), accessFlags := 18, slot := 1, constantValue := 0 }, { name := "cyclesAfter", type := .long, accessFlags := 18, slot := 2, constantValue := 0 }]
  methods := #[k2m0, k2m1]
  instanceTypes := #[.long, (.object "com/example/daylily/daylily/engine/PackageState"), .long]
  staticTypes := #[]
  resolved := Array.replicate 54 none
  statics := none }

def pool3 : Array CpInfo := pool [(1, .class_ 2), (0, u "java/lang/constant/Constable"), (0, .class_ 4), (0, u "java/lang/Object")] 6

/-- java/lang/constant/Constable -/
def k3 : Class := { plain "java/lang/constant/Constable" (some 0) with
  accessFlags := 1537
  interfaces := #[]
  cf := some (fileOf pool3 1 #[] #[] 1537 3 #[] #[])
  fields := #[]
  methods := #[]
  instanceTypes := #[]
  staticTypes := #[]
  resolved := Array.replicate 11 none
  statics := none }

def pool4 : Array CpInfo := pool [(1, .class_ 2), (0, u "java/lang/Comparable"), (0, .class_ 4), (0, u "java/lang/Object")] 7

/-- java/lang/Comparable -/
def k4 : Class := { plain "java/lang/Comparable" (some 0) with
  accessFlags := 1537
  interfaces := #[]
  cf := some (fileOf pool4 1 #[] #[] 1537 3 #[] #[])
  fields := #[]
  methods := #[]
  instanceTypes := #[]
  staticTypes := #[]
  resolved := Array.replicate 12 none
  statics := none }

def pool5 : Array CpInfo := pool [(1, .class_ 2), (0, u "java/io/Serializable"), (0, .class_ 4), (0, u "java/lang/Object")] 2

/-- java/io/Serializable -/
def k5 : Class := { plain "java/io/Serializable" (some 0) with
  accessFlags := 1537
  interfaces := #[]
  cf := some (fileOf pool5 1 #[] #[] 1537 3 #[] #[])
  fields := #[]
  methods := #[]
  instanceTypes := #[]
  staticTypes := #[]
  resolved := Array.replicate 7 none
  statics := none }

def pool6 : Array CpInfo := pool [(2, .class_ 4), (1, u "java/lang/Enum"), (0, u "name"), (0, u "Ljava/lang/String;"), (2, u "ordinal"), (0, u "I"), (1, .class_ 14), (1, u "java/lang/Object"), (4, u "hash"), (86, .class_ 108), (1, u "java/lang/Enum$EnumDesc"), (2, .class_ 112), (0, u "java/lang/constant/Constable"), (0, .class_ 114), (0, u "java/lang/Comparable"), (0, .class_ 116), (0, u "java/io/Serializable")] 87

/-- java/lang/Enum -/
def k6 : Class := { plain "java/lang/Enum" (some 0) with
  accessFlags := 1057
  interfaces := #[3, 4, 5]
  cf := some (fileOf pool6 2 #[.nestMembers #[106]] #[] 1057 12 #[111, 113, 115] #[{ accessFlags := 18, nameIndex := 5, descriptorIndex := 6, attributes := #[] }, { accessFlags := 18, nameIndex := 9, descriptorIndex := 10, attributes := #[] }, { accessFlags := 2, nameIndex := 19, descriptorIndex := 10, attributes := #[] }])
  fields := #[{ name := "name", type := (.object "java/lang/String"), accessFlags := 18, slot := 0, constantValue := 0 }, { name := "ordinal", type := .int, accessFlags := 18, slot := 1, constantValue := 0 }, { name := "hash", type := .int, accessFlags := 2, slot := 2, constantValue := 0 }]
  methods := #[]
  instanceTypes := #[(.object "java/lang/String"), .int, .int]
  staticTypes := #[]
  resolved := Array.replicate 204 none
  statics := none }

def pool7 : Array CpInfo := pool [(1, .class_ 2), (0, u "com/example/daylily/daylily/engine/PackageState"), (2, u "ACTIVE"), (0, u "Lcom/example/daylily/daylily/engine/PackageState;"), (2, u "STOPPING"), (2, u "RETRYING"), (2, u "ENDED"), (2, u "$VALUES"), (0, u "[Lcom/example/daylily/daylily/engine/PackageState;"), (6, .class_ 28), (1, u "java/lang/Enum"), (8, u "label"), (0, u "Ljava/lang/String;"), (2, u "held"), (0, u "Z")] 114

/-- com/example/daylily/daylily/engine/PackageState -/
def k7 : Class := { plain "com/example/daylily/daylily/engine/PackageState" (some 6) with
  accessFlags := 16433
  interfaces := #[]
  cf := some (fileOf pool7 1 #[] #[] 16433 26 #[] #[{ accessFlags := 16409, nameIndex := 5, descriptorIndex := 6, attributes := #[] }, { accessFlags := 16409, nameIndex := 9, descriptorIndex := 6, attributes := #[] }, { accessFlags := 16409, nameIndex := 12, descriptorIndex := 6, attributes := #[] }, { accessFlags := 16409, nameIndex := 15, descriptorIndex := 6, attributes := #[] }, { accessFlags := 18, nameIndex := 37, descriptorIndex := 38, attributes := #[] }, { accessFlags := 18, nameIndex := 41, descriptorIndex := 42, attributes := #[] }, { accessFlags := 4122, nameIndex := 18, descriptorIndex := 19, attributes := #[] }])
  fields := #[{ name := "ACTIVE", type := (.object "com/example/daylily/daylily/engine/PackageState"), accessFlags := 16409, slot := 0, constantValue := 0 }, { name := "STOPPING", type := (.object "com/example/daylily/daylily/engine/PackageState"), accessFlags := 16409, slot := 1, constantValue := 0 }, { name := "RETRYING", type := (.object "com/example/daylily/daylily/engine/PackageState"), accessFlags := 16409, slot := 2, constantValue := 0 }, { name := "ENDED", type := (.object "com/example/daylily/daylily/engine/PackageState"), accessFlags := 16409, slot := 3, constantValue := 0 }, { name := "label", type := (.object "java/lang/String"), accessFlags := 18, slot := 3, constantValue := 0 }, { name := "held", type := .boolean, accessFlags := 18, slot := 4, constantValue := 0 }, { name := "$VALUES", type := (.array (.object "com/example/daylily/daylily/engine/PackageState")), accessFlags := 4122, slot := 4, constantValue := 0 }]
  methods := #[]
  instanceTypes := #[(.object "java/lang/String"), .int, .int, (.object "java/lang/String"), .boolean]
  staticTypes := #[(.object "com/example/daylily/daylily/engine/PackageState"), (.object "com/example/daylily/daylily/engine/PackageState"), (.object "com/example/daylily/daylily/engine/PackageState"), (.object "com/example/daylily/daylily/engine/PackageState"), (.array (.object "com/example/daylily/daylily/engine/PackageState"))]
  resolved := Array.replicate 157 none
  statics := some 0 }

def pool8 : Array CpInfo := pool [(2, .class_ 4), (1, u "java/lang/CharSequence"), (42, .class_ 48), (0, u "java/lang/CharSequence$1CodePointIterator"), (10, .class_ 60), (0, u "java/lang/CharSequence$1CharIterator"), (5, .class_ 67), (0, u "java/lang/Object")] 63

/-- java/lang/CharSequence -/
def k8 : Class := { plain "java/lang/CharSequence" (some 0) with
  accessFlags := 1537
  interfaces := #[]
  cf := some (fileOf pool8 2 #[.nestMembers #[47, 59]] #[] 1537 66 #[] #[])
  fields := #[]
  methods := #[]
  instanceTypes := #[]
  staticTypes := #[]
  resolved := Array.replicate 131 none
  statics := none }

def pool9 : Array CpInfo := pool [(1, .class_ 2), (0, u "java/lang/constant/ConstantDesc"), (0, .class_ 4), (0, u "java/lang/Object")] 32

/-- java/lang/constant/ConstantDesc -/
def k9 : Class := { plain "java/lang/constant/ConstantDesc" (some 0) with
  accessFlags := 1537
  interfaces := #[]
  cf := some (fileOf pool9 1 #[] #[] 1537 3 #[] #[])
  fields := #[]
  methods := #[]
  instanceTypes := #[]
  staticTypes := #[]
  resolved := Array.replicate 37 none
  statics := none }

def pool10 : Array CpInfo := pool [(2, .class_ 4), (1, u "java/lang/Object"), (0, u "<init>"), (0, u "()V"), (3, .class_ 12), (1, u "java/lang/String"), (0, u "value"), (0, u "[B"), (2, u "coder"), (0, u "B"), (2, u "hash"), (0, u "I"), (2, u "hashIsZero"), (0, u "Z"), (13, u "COMPACT_STRINGS"), (534, .class_ 576), (0, u "java/lang/CharSequence"), (22, u "CASE_INSENSITIVE_ORDER"), (0, u "Ljava/util/Comparator;"), (500, u "serialPersistentFields"), (0, u "[Ljava/io/ObjectStreamField;"), (0, .class_ 1104), (0, u "java/lang/String$CaseInsensitiveComparator"), (1, .class_ 1107), (0, u "java/io/Serializable"), (0, .class_ 1109), (0, u "java/lang/Comparable"), (0, .class_ 1111), (0, u "java/lang/constant/Constable"), (0, .class_ 1113), (0, u "java/lang/constant/ConstantDesc"), (2, u "serialVersionUID"), (0, u "J"), (3, u "REPL"), (0, u "C"), (2, u "LATIN1"), (1, u "UTF16")] 323

def k10m0 : Method := { name := "<init>", desc := "()V", sig := { parameters := [], returnType := none }, accessFlags := 1, code := none }
/-- java/lang/String -/
def k10 : Class := { plain "java/lang/String" (some 0) with
  accessFlags := 49
  interfaces := #[5, 4, 8, 3, 9]
  cf := some (fileOf pool10 10 #[.nestMembers #[1103]] #[{ accessFlags := 1, nameIndex := 5, descriptorIndex := 6, attributes := #[] }] 49 2 #[1106, 1108, 575, 1110, 1112] #[{ accessFlags := 18, nameIndex := 13, descriptorIndex := 14, attributes := #[] }, { accessFlags := 18, nameIndex := 17, descriptorIndex := 18, attributes := #[] }, { accessFlags := 2, nameIndex := 21, descriptorIndex := 22, attributes := #[] }, { accessFlags := 2, nameIndex := 25, descriptorIndex := 26, attributes := #[] }, { accessFlags := 26, nameIndex := 1116, descriptorIndex := 1117, attributes := #[] }, { accessFlags := 24, nameIndex := 40, descriptorIndex := 26, attributes := #[] }, { accessFlags := 26, nameIndex := 1101, descriptorIndex := 1102, attributes := #[] }, { accessFlags := 26, nameIndex := 1121, descriptorIndex := 1122, attributes := #[] }, { accessFlags := 25, nameIndex := 599, descriptorIndex := 600, attributes := #[] }, { accessFlags := 24, nameIndex := 1125, descriptorIndex := 18, attributes := #[] }, { accessFlags := 24, nameIndex := 1127, descriptorIndex := 18, attributes := #[] }])
  fields := #[{ name := "value", type := (.array .byte), accessFlags := 18, slot := 0, constantValue := 0 }, { name := "coder", type := .byte, accessFlags := 18, slot := 1, constantValue := 0 }, { name := "hash", type := .int, accessFlags := 2, slot := 2, constantValue := 0 }, { name := "hashIsZero", type := .boolean, accessFlags := 2, slot := 3, constantValue := 0 }, { name := "serialVersionUID", type := .long, accessFlags := 26, slot := 0, constantValue := 0 }, { name := "COMPACT_STRINGS", type := .boolean, accessFlags := 24, slot := 1, constantValue := 0 }, { name := "serialPersistentFields", type := (.array (.object "java/io/ObjectStreamField")), accessFlags := 26, slot := 2, constantValue := 0 }, { name := "REPL", type := .char, accessFlags := 26, slot := 3, constantValue := 0 }, { name := "CASE_INSENSITIVE_ORDER", type := (.object "java/util/Comparator"), accessFlags := 25, slot := 4, constantValue := 0 }, { name := "LATIN1", type := .byte, accessFlags := 24, slot := 5, constantValue := 0 }, { name := "UTF16", type := .byte, accessFlags := 24, slot := 6, constantValue := 0 }]
  methods := #[k10m0]
  instanceTypes := #[(.array .byte), .byte, .int, .boolean]
  staticTypes := #[.long, .boolean, (.array (.object "java/io/ObjectStreamField")), .char, (.object "java/util/Comparator"), .byte, .byte]
  resolved := Array.replicate 1451 none
  statics := none }

def pool11 : Array CpInfo := pool [(2, .class_ 4), (1, u "java/lang/Object"), (0, u "<init>"), (0, u "()V"), (35, .class_ 44), (1, u "java/util/Objects"), (0, u "requireNonNull"), (48, u "(Ljava/lang/Object;Ljava/lang/String;)Ljava/lang/Object;")] 89

def k11m0 : Method := { name := "<init>", desc := "()V", sig := { parameters := [], returnType := none }, accessFlags := 2, code := none }
def k11c1 : Code := { maxStack := 3, maxLocals := 2, code := jdk_31_method_11_code, exceptionTable := #[], attributes := #[] }
def k11m1 : Method := { name := "requireNonNull", desc := "(Ljava/lang/Object;Ljava/lang/String;)Ljava/lang/Object;", sig := { parameters := [(.object "java/lang/Object"), (.object "java/lang/String")], returnType := some (.object "java/lang/Object") }, accessFlags := 9, code := some k11c1 }
/-- java/util/Objects -/
def k11 : Class := { plain "java/util/Objects" (some 0) with
  accessFlags := 49
  interfaces := #[]
  cf := some (fileOf pool11 42 #[] #[{ accessFlags := 2, nameIndex := 5, descriptorIndex := 6, attributes := #[] }, { accessFlags := 9, nameIndex := 45, descriptorIndex := 94, attributes := #[] }] 49 2 #[] #[])
  fields := #[]
  methods := #[k11m0, k11m1]
  instanceTypes := #[]
  staticTypes := #[]
  resolved := Array.replicate 184 none
  statics := none }

def pool12 : Array CpInfo := pool [(1, .methodref 2 3), (0, .class_ 4), (0, .nameAndType 5 6), (0, u "java/lang/Object"), (0, u "<init>"), (0, u "()V"), (1, .class_ 10), (1, u "java/lang/Number"), (2, .class_ 14), (0, u "java/io/Serializable"), (0, u "serialVersionUID"), (0, u "J")] 20

def k12c0 : Code := { maxStack := 1, maxLocals := 1, code := jdk_18_method_1_code, exceptionTable := #[], attributes := #[] }
def k12m0 : Method := { name := "<init>", desc := "()V", sig := { parameters := [], returnType := none }, accessFlags := 1, code := some k12c0 }
/-- java/lang/Number -/
def k12 : Class := { plain "java/lang/Number" (some 0) with
  accessFlags := 1057
  interfaces := #[5]
  cf := some (fileOf pool12 8 #[] #[{ accessFlags := 1, nameIndex := 5, descriptorIndex := 6, attributes := #[] }] 1057 2 #[13] #[{ accessFlags := 26, nameIndex := 15, descriptorIndex := 16, attributes := #[] }])
  fields := #[{ name := "serialVersionUID", type := .long, accessFlags := 26, slot := 0, constantValue := 0 }]
  methods := #[k12m0]
  instanceTypes := #[]
  staticTypes := #[.long]
  resolved := Array.replicate 37 none
  statics := none }

def pool13 : Array CpInfo := pool [(1, .class_ 2), (0, u "java/lang/Long"), (55, .nameAndType 59 60), (0, u "<init>"), (0, u "()V"), (24, u "valueOf"), (143, u "(J)Ljava/lang/Long;"), (0, .long 18446744073709551488), (1, .long 127), (1, .fieldref 235 236), (0, .class_ 237), (0, .nameAndType 238 239), (0, u "java/lang/Long$LongCache"), (0, u "cache"), (0, u "[Ljava/lang/Long;"), (0, .methodref 1 241), (0, .nameAndType 59 242), (0, u "(J)V"), (27, .methodref 271 58), (0, .class_ 272), (0, u "java/lang/Number"), (0, .fieldref 1 274), (0, .nameAndType 275 276), (0, u "value"), (0, u "J"), (84, u "TYPE"), (0, u "Ljava/lang/Class;"), (0, .class_ 364), (0, u "java/lang/Comparable"), (0, .class_ 366), (0, u "java/lang/constant/Constable"), (0, .class_ 368), (0, u "java/lang/constant/ConstantDesc"), (0, u "MIN_VALUE"), (1, u "MAX_VALUE"), (4, u "SIZE"), (0, u "I"), (1, u "BYTES"), (1, u "serialVersionUID")] 142

def k13c0 : Code := { maxStack := 4, maxLocals := 3, code := jdk_35_method_24_code, exceptionTable := #[], attributes := #[] }
def k13m0 : Method := { name := "valueOf", desc := "(J)Ljava/lang/Long;", sig := { parameters := [.long], returnType := some (.object "java/lang/Long") }, accessFlags := 9, code := some k13c0 }
def k13c1 : Code := { maxStack := 3, maxLocals := 3, code := jdk_35_method_26_code, exceptionTable := #[], attributes := #[] }
def k13m1 : Method := { name := "<init>", desc := "(J)V", sig := { parameters := [.long], returnType := none }, accessFlags := 1, code := some k13c1 }
/-- java/lang/Long -/
def k13 : Class := { plain "java/lang/Long" (some 12) with
  accessFlags := 49
  interfaces := #[4, 3, 9]
  cf := some (fileOf pool13 1 #[.nestMembers #[235]] #[{ accessFlags := 9, nameIndex := 85, descriptorIndex := 229, attributes := #[] }, { accessFlags := 1, nameIndex := 59, descriptorIndex := 242, attributes := #[] }] 49 271 #[363, 365, 367] #[{ accessFlags := 25, nameIndex := 369, descriptorIndex := 276, attributes := #[] }, { accessFlags := 25, nameIndex := 371, descriptorIndex := 276, attributes := #[] }, { accessFlags := 25, nameIndex := 361, descriptorIndex := 362, attributes := #[] }, { accessFlags := 18, nameIndex := 275, descriptorIndex := 276, attributes := #[] }, { accessFlags := 25, nameIndex := 376, descriptorIndex := 377, attributes := #[] }, { accessFlags := 25, nameIndex := 379, descriptorIndex := 377, attributes := #[] }, { accessFlags := 26, nameIndex := 381, descriptorIndex := 276, attributes := #[] }])
  fields := #[{ name := "MIN_VALUE", type := .long, accessFlags := 25, slot := 0, constantValue := 0 }, { name := "MAX_VALUE", type := .long, accessFlags := 25, slot := 1, constantValue := 0 }, { name := "TYPE", type := (.object "java/lang/Class"), accessFlags := 25, slot := 2, constantValue := 0 }, { name := "value", type := .long, accessFlags := 18, slot := 0, constantValue := 0 }, { name := "SIZE", type := .int, accessFlags := 25, slot := 3, constantValue := 0 }, { name := "BYTES", type := .int, accessFlags := 25, slot := 4, constantValue := 0 }, { name := "serialVersionUID", type := .long, accessFlags := 26, slot := 5, constantValue := 0 }]
  methods := #[k13m0, k13m1]
  instanceTypes := #[.long]
  staticTypes := #[.long, .long, (.object "java/lang/Class"), .int, .int, .long]
  resolved := Array.replicate 524 none
  statics := none }

def pool14 : Array CpInfo := pool [(2, .class_ 4), (1, u "java/lang/Object"), (0, u "<init>"), (0, u "()V"), (0, .class_ 8), (0, u "java/lang/Long"), (7, .class_ 18), (1, u "java/lang/Long$LongCache"), (0, u "$assertionsDisabled"), (0, u "Z"), (8, u "archivedCache"), (0, u "[Ljava/lang/Long;"), (7, u "cache")] 24

def k14m0 : Method := { name := "<init>", desc := "()V", sig := { parameters := [], returnType := none }, accessFlags := 2, code := none }
/-- java/lang/Long$LongCache -/
def k14 : Class := { plain "java/lang/Long$LongCache" (some 0) with
  accessFlags := 48
  interfaces := #[]
  cf := some (fileOf pool14 16 #[.nestHost 7] #[{ accessFlags := 2, nameIndex := 5, descriptorIndex := 6, attributes := #[] }] 48 2 #[] #[{ accessFlags := 24, nameIndex := 38, descriptorIndex := 30, attributes := #[] }, { accessFlags := 8, nameIndex := 29, descriptorIndex := 30, attributes := #[] }, { accessFlags := 4120, nameIndex := 19, descriptorIndex := 20, attributes := #[] }])
  fields := #[{ name := "cache", type := (.array (.object "java/lang/Long")), accessFlags := 24, slot := 0, constantValue := 0 }, { name := "archivedCache", type := (.array (.object "java/lang/Long")), accessFlags := 8, slot := 1, constantValue := 0 }, { name := "$assertionsDisabled", type := .boolean, accessFlags := 4120, slot := 2, constantValue := 0 }]
  methods := #[k14m0]
  instanceTypes := #[]
  staticTypes := #[(.array (.object "java/lang/Long")), (.array (.object "java/lang/Long")), .boolean]
  resolved := Array.replicate 63 none
  statics := some 1 }

def pool15 : Array CpInfo := pool [(1, u "java/lang/Cloneable"), (0, .class_ 1), (0, u "java/lang/Object"), (0, .class_ 3)] 3

/-- java/lang/Cloneable -/
def k15 : Class := { plain "java/lang/Cloneable" (some 0) with
  accessFlags := 1537
  interfaces := #[]
  cf := some (fileOf pool15 2 #[] #[] 1537 4 #[] #[])
  fields := #[]
  methods := #[]
  instanceTypes := #[]
  staticTypes := #[]
  resolved := Array.replicate 8 none
  statics := none }

/-- the primitive byte -/
def k16 : Class := { plain "byte" none with kind := .primitive 'B', accessFlags := 0x411 }
/-- [B -/
def k17 : Class := { plain "[B" (some 0) with kind := .array 16 .byte, interfaces := #[15, 5], accessFlags := 1041 }

/-- the primitive int -/
def k18 : Class := { plain "int" none with kind := .primitive 'I', accessFlags := 0x411 }
/-- [I -/
def k19 : Class := { plain "[I" (some 0) with kind := .array 18 .int, interfaces := #[15, 5], accessFlags := 1041 }

/-- [Ljava/lang/Long; -/
def k20 : Class := { plain "[Ljava/lang/Long;" (some 0) with kind := .array 13 (.object "java/lang/Long"), interfaces := #[15, 5], accessFlags := 1041 }

def heap : Heap := #[{ cls := 7, slots := #[.ref 4, .ref 5, .ref 6, .ref 3, .null], vm := .statics 7 },
  { cls := 14, slots := #[.ref 2, .null, .int 0], vm := .statics 14 },
  { cls := 20, slots := #[.ref 7, .ref 8, .ref 9, .ref 10, .ref 11, .ref 12, .ref 13, .ref 14, .ref 15, .ref 16, .ref 17, .ref 18, .ref 19, .ref 20, .ref 21, .ref 22, .ref 23, .ref 24, .ref 25, .ref 26, .ref 27, .ref 28, .ref 29, .ref 30, .ref 31, .ref 32, .ref 33, .ref 34, .ref 35, .ref 36, .ref 37, .ref 38, .ref 39, .ref 40, .ref 41, .ref 42, .ref 43, .ref 44, .ref 45, .ref 46, .ref 47, .ref 48, .ref 49, .ref 50, .ref 51, .ref 52, .ref 53, .ref 54, .ref 55, .ref 56, .ref 57, .ref 58, .ref 59, .ref 60, .ref 61, .ref 62, .ref 63, .ref 64, .ref 65, .ref 66, .ref 67, .ref 68, .ref 69, .ref 70, .ref 71, .ref 72, .ref 73, .ref 74, .ref 75, .ref 76, .ref 77, .ref 78, .ref 79, .ref 80, .ref 81, .ref 82, .ref 83, .ref 84, .ref 85, .ref 86, .ref 87, .ref 88, .ref 89, .ref 90, .ref 91, .ref 92, .ref 93, .ref 94, .ref 95, .ref 96, .ref 97, .ref 98, .ref 99, .ref 100, .ref 101, .ref 102, .ref 103, .ref 104, .ref 105, .ref 106, .ref 107, .ref 108, .ref 109, .ref 110, .ref 111, .ref 112, .ref 113, .ref 114, .ref 115, .ref 116, .ref 117, .ref 118, .ref 119, .ref 120, .ref 121, .ref 122, .ref 123, .ref 124, .ref 125, .ref 126, .ref 127, .ref 128, .ref 129, .ref 130, .ref 131, .ref 132, .ref 133, .ref 134, .ref 135, .ref 136, .ref 137, .ref 138, .ref 139, .ref 140, .ref 141, .ref 142, .ref 143, .ref 144, .ref 145, .ref 146, .ref 147, .ref 148, .ref 149, .ref 150, .ref 151, .ref 152, .ref 153, .ref 154, .ref 155, .ref 156, .ref 157, .ref 158, .ref 159, .ref 160, .ref 161, .ref 162, .ref 163, .ref 164, .ref 165, .ref 166, .ref 167, .ref 168, .ref 169, .ref 170, .ref 171, .ref 172, .ref 173, .ref 174, .ref 175, .ref 176, .ref 177, .ref 178, .ref 179, .ref 180, .ref 181, .ref 182, .ref 183, .ref 184, .ref 185, .ref 186, .ref 187, .ref 188, .ref 189, .ref 190, .ref 191, .ref 192, .ref 193, .ref 194, .ref 195, .ref 196, .ref 197, .ref 198, .ref 199, .ref 200, .ref 201, .ref 202, .ref 203, .ref 204, .ref 205, .ref 206, .ref 207, .ref 208, .ref 209, .ref 210, .ref 211, .ref 212, .ref 213, .ref 214, .ref 215, .ref 216, .ref 217, .ref 218, .ref 219, .ref 220, .ref 221, .ref 222, .ref 223, .ref 224, .ref 225, .ref 226, .ref 227, .ref 228, .ref 229, .ref 230, .ref 231, .ref 232, .ref 233, .ref 234, .ref 235, .ref 236, .ref 237, .ref 238, .ref 239, .ref 240, .ref 241, .ref 242, .ref 243, .ref 244, .ref 245, .ref 246, .ref 247, .ref 248, .ref 249, .ref 250, .ref 251, .ref 252, .ref 253, .ref 254, .ref 255, .ref 256, .ref 257, .ref 258, .ref 259, .ref 260, .ref 261, .ref 262], vm := .none },
  { cls := 7, slots := #[.null, .int 3, .int 0, .null, .int 0], vm := .none },
  { cls := 7, slots := #[.null, .int 0, .int 0, .null, .int 0], vm := .none },
  { cls := 7, slots := #[.null, .int 1, .int 0, .null, .int 0], vm := .none },
  { cls := 7, slots := #[.null, .int 2, .int 0, .null, .int 0], vm := .none },
  { cls := 13, slots := #[.long (-128)], vm := .none },
  { cls := 13, slots := #[.long (-127)], vm := .none },
  { cls := 13, slots := #[.long (-126)], vm := .none },
  { cls := 13, slots := #[.long (-125)], vm := .none },
  { cls := 13, slots := #[.long (-124)], vm := .none },
  { cls := 13, slots := #[.long (-123)], vm := .none },
  { cls := 13, slots := #[.long (-122)], vm := .none },
  { cls := 13, slots := #[.long (-121)], vm := .none },
  { cls := 13, slots := #[.long (-120)], vm := .none },
  { cls := 13, slots := #[.long (-119)], vm := .none },
  { cls := 13, slots := #[.long (-118)], vm := .none },
  { cls := 13, slots := #[.long (-117)], vm := .none },
  { cls := 13, slots := #[.long (-116)], vm := .none },
  { cls := 13, slots := #[.long (-115)], vm := .none },
  { cls := 13, slots := #[.long (-114)], vm := .none },
  { cls := 13, slots := #[.long (-113)], vm := .none },
  { cls := 13, slots := #[.long (-112)], vm := .none },
  { cls := 13, slots := #[.long (-111)], vm := .none },
  { cls := 13, slots := #[.long (-110)], vm := .none },
  { cls := 13, slots := #[.long (-109)], vm := .none },
  { cls := 13, slots := #[.long (-108)], vm := .none },
  { cls := 13, slots := #[.long (-107)], vm := .none },
  { cls := 13, slots := #[.long (-106)], vm := .none },
  { cls := 13, slots := #[.long (-105)], vm := .none },
  { cls := 13, slots := #[.long (-104)], vm := .none },
  { cls := 13, slots := #[.long (-103)], vm := .none },
  { cls := 13, slots := #[.long (-102)], vm := .none },
  { cls := 13, slots := #[.long (-101)], vm := .none },
  { cls := 13, slots := #[.long (-100)], vm := .none },
  { cls := 13, slots := #[.long (-99)], vm := .none },
  { cls := 13, slots := #[.long (-98)], vm := .none },
  { cls := 13, slots := #[.long (-97)], vm := .none },
  { cls := 13, slots := #[.long (-96)], vm := .none },
  { cls := 13, slots := #[.long (-95)], vm := .none },
  { cls := 13, slots := #[.long (-94)], vm := .none },
  { cls := 13, slots := #[.long (-93)], vm := .none },
  { cls := 13, slots := #[.long (-92)], vm := .none },
  { cls := 13, slots := #[.long (-91)], vm := .none },
  { cls := 13, slots := #[.long (-90)], vm := .none },
  { cls := 13, slots := #[.long (-89)], vm := .none },
  { cls := 13, slots := #[.long (-88)], vm := .none },
  { cls := 13, slots := #[.long (-87)], vm := .none },
  { cls := 13, slots := #[.long (-86)], vm := .none },
  { cls := 13, slots := #[.long (-85)], vm := .none },
  { cls := 13, slots := #[.long (-84)], vm := .none },
  { cls := 13, slots := #[.long (-83)], vm := .none },
  { cls := 13, slots := #[.long (-82)], vm := .none },
  { cls := 13, slots := #[.long (-81)], vm := .none },
  { cls := 13, slots := #[.long (-80)], vm := .none },
  { cls := 13, slots := #[.long (-79)], vm := .none },
  { cls := 13, slots := #[.long (-78)], vm := .none },
  { cls := 13, slots := #[.long (-77)], vm := .none },
  { cls := 13, slots := #[.long (-76)], vm := .none },
  { cls := 13, slots := #[.long (-75)], vm := .none },
  { cls := 13, slots := #[.long (-74)], vm := .none },
  { cls := 13, slots := #[.long (-73)], vm := .none },
  { cls := 13, slots := #[.long (-72)], vm := .none },
  { cls := 13, slots := #[.long (-71)], vm := .none },
  { cls := 13, slots := #[.long (-70)], vm := .none },
  { cls := 13, slots := #[.long (-69)], vm := .none },
  { cls := 13, slots := #[.long (-68)], vm := .none },
  { cls := 13, slots := #[.long (-67)], vm := .none },
  { cls := 13, slots := #[.long (-66)], vm := .none },
  { cls := 13, slots := #[.long (-65)], vm := .none },
  { cls := 13, slots := #[.long (-64)], vm := .none },
  { cls := 13, slots := #[.long (-63)], vm := .none },
  { cls := 13, slots := #[.long (-62)], vm := .none },
  { cls := 13, slots := #[.long (-61)], vm := .none },
  { cls := 13, slots := #[.long (-60)], vm := .none },
  { cls := 13, slots := #[.long (-59)], vm := .none },
  { cls := 13, slots := #[.long (-58)], vm := .none },
  { cls := 13, slots := #[.long (-57)], vm := .none },
  { cls := 13, slots := #[.long (-56)], vm := .none },
  { cls := 13, slots := #[.long (-55)], vm := .none },
  { cls := 13, slots := #[.long (-54)], vm := .none },
  { cls := 13, slots := #[.long (-53)], vm := .none },
  { cls := 13, slots := #[.long (-52)], vm := .none },
  { cls := 13, slots := #[.long (-51)], vm := .none },
  { cls := 13, slots := #[.long (-50)], vm := .none },
  { cls := 13, slots := #[.long (-49)], vm := .none },
  { cls := 13, slots := #[.long (-48)], vm := .none },
  { cls := 13, slots := #[.long (-47)], vm := .none },
  { cls := 13, slots := #[.long (-46)], vm := .none },
  { cls := 13, slots := #[.long (-45)], vm := .none },
  { cls := 13, slots := #[.long (-44)], vm := .none },
  { cls := 13, slots := #[.long (-43)], vm := .none },
  { cls := 13, slots := #[.long (-42)], vm := .none },
  { cls := 13, slots := #[.long (-41)], vm := .none },
  { cls := 13, slots := #[.long (-40)], vm := .none },
  { cls := 13, slots := #[.long (-39)], vm := .none },
  { cls := 13, slots := #[.long (-38)], vm := .none },
  { cls := 13, slots := #[.long (-37)], vm := .none },
  { cls := 13, slots := #[.long (-36)], vm := .none },
  { cls := 13, slots := #[.long (-35)], vm := .none },
  { cls := 13, slots := #[.long (-34)], vm := .none },
  { cls := 13, slots := #[.long (-33)], vm := .none },
  { cls := 13, slots := #[.long (-32)], vm := .none },
  { cls := 13, slots := #[.long (-31)], vm := .none },
  { cls := 13, slots := #[.long (-30)], vm := .none },
  { cls := 13, slots := #[.long (-29)], vm := .none },
  { cls := 13, slots := #[.long (-28)], vm := .none },
  { cls := 13, slots := #[.long (-27)], vm := .none },
  { cls := 13, slots := #[.long (-26)], vm := .none },
  { cls := 13, slots := #[.long (-25)], vm := .none },
  { cls := 13, slots := #[.long (-24)], vm := .none },
  { cls := 13, slots := #[.long (-23)], vm := .none },
  { cls := 13, slots := #[.long (-22)], vm := .none },
  { cls := 13, slots := #[.long (-21)], vm := .none },
  { cls := 13, slots := #[.long (-20)], vm := .none },
  { cls := 13, slots := #[.long (-19)], vm := .none },
  { cls := 13, slots := #[.long (-18)], vm := .none },
  { cls := 13, slots := #[.long (-17)], vm := .none },
  { cls := 13, slots := #[.long (-16)], vm := .none },
  { cls := 13, slots := #[.long (-15)], vm := .none },
  { cls := 13, slots := #[.long (-14)], vm := .none },
  { cls := 13, slots := #[.long (-13)], vm := .none },
  { cls := 13, slots := #[.long (-12)], vm := .none },
  { cls := 13, slots := #[.long (-11)], vm := .none },
  { cls := 13, slots := #[.long (-10)], vm := .none },
  { cls := 13, slots := #[.long (-9)], vm := .none },
  { cls := 13, slots := #[.long (-8)], vm := .none },
  { cls := 13, slots := #[.long (-7)], vm := .none },
  { cls := 13, slots := #[.long (-6)], vm := .none },
  { cls := 13, slots := #[.long (-5)], vm := .none },
  { cls := 13, slots := #[.long (-4)], vm := .none },
  { cls := 13, slots := #[.long (-3)], vm := .none },
  { cls := 13, slots := #[.long (-2)], vm := .none },
  { cls := 13, slots := #[.long (-1)], vm := .none },
  { cls := 13, slots := #[.long 0], vm := .none },
  { cls := 13, slots := #[.long 1], vm := .none },
  { cls := 13, slots := #[.long 2], vm := .none },
  { cls := 13, slots := #[.long 3], vm := .none },
  { cls := 13, slots := #[.long 4], vm := .none },
  { cls := 13, slots := #[.long 5], vm := .none },
  { cls := 13, slots := #[.long 6], vm := .none },
  { cls := 13, slots := #[.long 7], vm := .none },
  { cls := 13, slots := #[.long 8], vm := .none },
  { cls := 13, slots := #[.long 9], vm := .none },
  { cls := 13, slots := #[.long 10], vm := .none },
  { cls := 13, slots := #[.long 11], vm := .none },
  { cls := 13, slots := #[.long 12], vm := .none },
  { cls := 13, slots := #[.long 13], vm := .none },
  { cls := 13, slots := #[.long 14], vm := .none },
  { cls := 13, slots := #[.long 15], vm := .none },
  { cls := 13, slots := #[.long 16], vm := .none },
  { cls := 13, slots := #[.long 17], vm := .none },
  { cls := 13, slots := #[.long 18], vm := .none },
  { cls := 13, slots := #[.long 19], vm := .none },
  { cls := 13, slots := #[.long 20], vm := .none },
  { cls := 13, slots := #[.long 21], vm := .none },
  { cls := 13, slots := #[.long 22], vm := .none },
  { cls := 13, slots := #[.long 23], vm := .none },
  { cls := 13, slots := #[.long 24], vm := .none },
  { cls := 13, slots := #[.long 25], vm := .none },
  { cls := 13, slots := #[.long 26], vm := .none },
  { cls := 13, slots := #[.long 27], vm := .none },
  { cls := 13, slots := #[.long 28], vm := .none },
  { cls := 13, slots := #[.long 29], vm := .none },
  { cls := 13, slots := #[.long 30], vm := .none },
  { cls := 13, slots := #[.long 31], vm := .none },
  { cls := 13, slots := #[.long 32], vm := .none },
  { cls := 13, slots := #[.long 33], vm := .none },
  { cls := 13, slots := #[.long 34], vm := .none },
  { cls := 13, slots := #[.long 35], vm := .none },
  { cls := 13, slots := #[.long 36], vm := .none },
  { cls := 13, slots := #[.long 37], vm := .none },
  { cls := 13, slots := #[.long 38], vm := .none },
  { cls := 13, slots := #[.long 39], vm := .none },
  { cls := 13, slots := #[.long 40], vm := .none },
  { cls := 13, slots := #[.long 41], vm := .none },
  { cls := 13, slots := #[.long 42], vm := .none },
  { cls := 13, slots := #[.long 43], vm := .none },
  { cls := 13, slots := #[.long 44], vm := .none },
  { cls := 13, slots := #[.long 45], vm := .none },
  { cls := 13, slots := #[.long 46], vm := .none },
  { cls := 13, slots := #[.long 47], vm := .none },
  { cls := 13, slots := #[.long 48], vm := .none },
  { cls := 13, slots := #[.long 49], vm := .none },
  { cls := 13, slots := #[.long 50], vm := .none },
  { cls := 13, slots := #[.long 51], vm := .none },
  { cls := 13, slots := #[.long 52], vm := .none },
  { cls := 13, slots := #[.long 53], vm := .none },
  { cls := 13, slots := #[.long 54], vm := .none },
  { cls := 13, slots := #[.long 55], vm := .none },
  { cls := 13, slots := #[.long 56], vm := .none },
  { cls := 13, slots := #[.long 57], vm := .none },
  { cls := 13, slots := #[.long 58], vm := .none },
  { cls := 13, slots := #[.long 59], vm := .none },
  { cls := 13, slots := #[.long 60], vm := .none },
  { cls := 13, slots := #[.long 61], vm := .none },
  { cls := 13, slots := #[.long 62], vm := .none },
  { cls := 13, slots := #[.long 63], vm := .none },
  { cls := 13, slots := #[.long 64], vm := .none },
  { cls := 13, slots := #[.long 65], vm := .none },
  { cls := 13, slots := #[.long 66], vm := .none },
  { cls := 13, slots := #[.long 67], vm := .none },
  { cls := 13, slots := #[.long 68], vm := .none },
  { cls := 13, slots := #[.long 69], vm := .none },
  { cls := 13, slots := #[.long 70], vm := .none },
  { cls := 13, slots := #[.long 71], vm := .none },
  { cls := 13, slots := #[.long 72], vm := .none },
  { cls := 13, slots := #[.long 73], vm := .none },
  { cls := 13, slots := #[.long 74], vm := .none },
  { cls := 13, slots := #[.long 75], vm := .none },
  { cls := 13, slots := #[.long 76], vm := .none },
  { cls := 13, slots := #[.long 77], vm := .none },
  { cls := 13, slots := #[.long 78], vm := .none },
  { cls := 13, slots := #[.long 79], vm := .none },
  { cls := 13, slots := #[.long 80], vm := .none },
  { cls := 13, slots := #[.long 81], vm := .none },
  { cls := 13, slots := #[.long 82], vm := .none },
  { cls := 13, slots := #[.long 83], vm := .none },
  { cls := 13, slots := #[.long 84], vm := .none },
  { cls := 13, slots := #[.long 85], vm := .none },
  { cls := 13, slots := #[.long 86], vm := .none },
  { cls := 13, slots := #[.long 87], vm := .none },
  { cls := 13, slots := #[.long 88], vm := .none },
  { cls := 13, slots := #[.long 89], vm := .none },
  { cls := 13, slots := #[.long 90], vm := .none },
  { cls := 13, slots := #[.long 91], vm := .none },
  { cls := 13, slots := #[.long 92], vm := .none },
  { cls := 13, slots := #[.long 93], vm := .none },
  { cls := 13, slots := #[.long 94], vm := .none },
  { cls := 13, slots := #[.long 95], vm := .none },
  { cls := 13, slots := #[.long 96], vm := .none },
  { cls := 13, slots := #[.long 97], vm := .none },
  { cls := 13, slots := #[.long 98], vm := .none },
  { cls := 13, slots := #[.long 99], vm := .none },
  { cls := 13, slots := #[.long 100], vm := .none },
  { cls := 13, slots := #[.long 101], vm := .none },
  { cls := 13, slots := #[.long 102], vm := .none },
  { cls := 13, slots := #[.long 103], vm := .none },
  { cls := 13, slots := #[.long 104], vm := .none },
  { cls := 13, slots := #[.long 105], vm := .none },
  { cls := 13, slots := #[.long 106], vm := .none },
  { cls := 13, slots := #[.long 107], vm := .none },
  { cls := 13, slots := #[.long 108], vm := .none },
  { cls := 13, slots := #[.long 109], vm := .none },
  { cls := 13, slots := #[.long 110], vm := .none },
  { cls := 13, slots := #[.long 111], vm := .none },
  { cls := 13, slots := #[.long 112], vm := .none },
  { cls := 13, slots := #[.long 113], vm := .none },
  { cls := 13, slots := #[.long 114], vm := .none },
  { cls := 13, slots := #[.long 115], vm := .none },
  { cls := 13, slots := #[.long 116], vm := .none },
  { cls := 13, slots := #[.long 117], vm := .none },
  { cls := 13, slots := #[.long 118], vm := .none },
  { cls := 13, slots := #[.long 119], vm := .none },
  { cls := 13, slots := #[.long 120], vm := .none },
  { cls := 13, slots := #[.long 121], vm := .none },
  { cls := 13, slots := #[.long 122], vm := .none },
  { cls := 13, slots := #[.long 123], vm := .none },
  { cls := 13, slots := #[.long 124], vm := .none },
  { cls := 13, slots := #[.long 125], vm := .none },
  { cls := 13, slots := #[.long 126], vm := .none },
  { cls := 13, slots := #[.long 127], vm := .none }]
def classes : Array Class := #[k0, k1, k2, k3, k4, k5, k6, k7, k8, k9, k10, k11, k12, k13, k14, k15, k16, k17, k18, k19, k20]
def interned : List (Array UInt16 × Addr) := []
def slotsUsed : Nat := 540
def theMethod : MethodId := ⟨1, 2⟩
def args0 : Array Value := #[.long 3, .long 4, .long 5, .long 6, .int 7, .int 8]
def aboutOver (below : List Frame) : State where
  vm := { classes := classes, interned := interned.toArray }
  heap := heap
  slotsUsed := slotsUsed
  threads := #[{ frames := .invoking theMethod args0 :: below }]
def below0 : List Frame := [.native { method := ⟨0, 0⟩, args := #[] }]
def about1 : State := aboutOver below0
def p0 : Program := .bare "" "" ""
def e0 : Env := launch0.env 0 0 0
theorem w_frames : about1.frames = Frame.invoking theMethod args0 :: below0 := rfl
set_option maxRecDepth 65536 in
theorem w_args : argsFit about1.vm theMethod args0 = true := by decide +kernel
set_option maxRecDepth 65536 in
theorem w_heap : heapFits about1 = true := by decide +kernel
set_option maxRecDepth 65536 in
theorem w_runnable : about1.curStatus? = some .runnable := by decide +kernel
set_option maxRecDepth 65536 in
theorem w_alone : about1.alone = true := by decide +kernel
set_option maxRecDepth 65536 in
theorem w_named : about1.methodNamed? x = some theMethod := by decide +kernel
set_option maxRecDepth 65536 in
theorem w_hears : about1.hears theMethod below0 = true := by decide +kernel
set_option maxRecDepth 65536 in
theorem w_ripe : about1.ripe theMethod args0 below0 = true := by decide +kernel
theorem w_running : about1.status = .running := rfl
set_option maxRecDepth 65536 in
theorem w_room : about1.hasRoom e0.platform room_1 = true :=
  launch0.hasRoom_least _ room_1 (by decide +kernel) (by decide +kernel) (by decide +kernel) (by decide +kernel) (by decide +kernel) (by decide +kernel)
theorem allAtoms_all (ts : List Jvm.Cond) (a : Array Jvm.Value) (st : Jvm.State) : (allAtoms ts).before a st = ts.all (fun c => c.before a st) := by
  induction ts with
  | nil => rfl
  | cons c t ih =>
    show (Jvm.Cond.and c (allAtoms t)).before a st = _
    rw [Jvm.Cond.before_and, ih, List.all_cons]
def words1 : List Jvm.Cond := Jvm.Cond.code x code maxLocals ret :: tables_1
/-- a 'code' word, met by the world's own term for the bytes: nothing is compared byte by byte -/
theorem code_word {y : MethodName} {bytes : ByteArray} {mx : Nat} {rt : Option FieldType} {a : Array Value} {s : State} {m : MethodId} {meth : Method} {c : Code} (h1 : s.methodNamed? y = some m) (h2 : s.vm.method? m = some meth) (h3 : meth.code = some c) (h4 : c.code = bytes)
    (h5 : (c.maxLocals == mx && c.exceptionTable.isEmpty && decide (c.maxStack ≤ mostOperands) && decide (meth.sig.returnType = rt) && !meth.locks && decide (parseMethodDescriptor y.desc = some meth.sig)) = true) : (Jvm.Cond.code y bytes mx rt).before a s = true := by
  simp only [Bool.and_eq_true, beq_iff_eq, Bool.not_eq_true', decide_eq_true_eq] at h5
  obtain ⟨⟨⟨⟨⟨g1, g2⟩, g3⟩, g4⟩, g5⟩, g6⟩ := h5
  simp [Cond.before, Cond.holds, Cond.value, h1, h2, h3, h4, g1, g2, g3, g4, g5, g6]
def isCode : Jvm.Cond → Bool
  | .code _ _ _ _ => true
  | _ => false
theorem all_split {L : List Jvm.Cond} {P : Jvm.Cond → Bool} (h1 : L.all (fun c => isCode c || P c) = true) (h2 : ∀ c ∈ L.filter isCode, P c = true) : L.all P = true := by
  refine List.all_eq_true.mpr fun c hc => ?_
  have h := List.all_eq_true.mp h1 c hc
  rcases Bool.eq_false_or_eq_true (isCode c) with hi | hi
  · exact h2 c (List.mem_filter.mpr ⟨hc, hi⟩)
  · simpa [hi] using h
set_option maxRecDepth 65536 in
theorem w_c0 : (Jvm.Cond.code x code maxLocals ret).before args0 about1 = true := code_word (m := ⟨1, 2⟩) (meth := k1m2) (c := k1c2) (by decide +kernel) rfl rfl rfl (by decide +kernel)
set_option maxRecDepth 65536 in
theorem w_c1 : (Jvm.Cond.code ({ cls := "com/example/daylily/daylily/engine/StandingEqualsPinLaw", name := "st", desc := "(I)Lcom/example/daylily/daylily/engine/PackageState;" } : Jvm.MethodName) method_2_code (1 : Nat) (Option.some (Jvm.ClassFile.FieldType.object "com/example/daylily/daylily/engine/PackageState"))).before args0 about1 = true := code_word (m := ⟨1, 1⟩) (meth := k1m1) (c := k1c1) (by decide +kernel) rfl rfl rfl (by decide +kernel)
set_option maxRecDepth 65536 in
theorem w_c2 : (Jvm.Cond.code ({ cls := "com/example/daylily/daylily/engine/Standing", name := "<init>", desc := "(JLcom/example/daylily/daylily/engine/PackageState;J)V" } : Jvm.MethodName) prog_16_method_1_code (6 : Nat) (Option.none : Option Jvm.ClassFile.FieldType)).before args0 about1 = true := code_word (m := ⟨2, 0⟩) (meth := k2m0) (c := k2c0) (by decide +kernel) rfl rfl rfl (by decide +kernel)
set_option maxRecDepth 65536 in
theorem w_c3 : (Jvm.Cond.code ({ cls := "java/lang/Object", name := "<init>", desc := "()V" } : Jvm.MethodName) object_method_1_code (1 : Nat) (Option.none : Option Jvm.ClassFile.FieldType)).before args0 about1 = true := code_word (m := ⟨0, 0⟩) (meth := k0m0) (c := k0c0) (by decide +kernel) rfl rfl rfl (by decide +kernel)
set_option maxRecDepth 65536 in
theorem w_c4 : (Jvm.Cond.code ({ cls := "java/util/Objects", name := "requireNonNull", desc := "(Ljava/lang/Object;Ljava/lang/String;)Ljava/lang/Object;" } : Jvm.MethodName) jdk_31_method_11_code (2 : Nat) (Option.some (Jvm.ClassFile.FieldType.object "java/lang/Object"))).before args0 about1 = true := code_word (m := ⟨11, 1⟩) (meth := k11m1) (c := k11c1) (by decide +kernel) rfl rfl rfl (by decide +kernel)
set_option maxRecDepth 65536 in
theorem w_c5 : (Jvm.Cond.code ({ cls := "com/example/daylily/daylily/engine/Standing", name := "equals", desc := "(Ljava/lang/Object;)Z" } : Jvm.MethodName) prog_16_method_5_code (3 : Nat) (Option.some Jvm.ClassFile.FieldType.boolean)).before args0 about1 = true := code_word (m := ⟨2, 1⟩) (meth := k2m1) (c := k2c1) (by decide +kernel) rfl rfl rfl (by decide +kernel)
set_option maxRecDepth 65536 in
theorem w_c6 : (Jvm.Cond.code ({ cls := "java/lang/Long", name := "valueOf", desc := "(J)Ljava/lang/Long;" } : Jvm.MethodName) jdk_35_method_24_code (3 : Nat) (Option.some (Jvm.ClassFile.FieldType.object "java/lang/Long"))).before args0 about1 = true := code_word (m := ⟨13, 0⟩) (meth := k13m0) (c := k13c0) (by decide +kernel) rfl rfl rfl (by decide +kernel)
set_option maxRecDepth 65536 in
theorem w_c7 : (Jvm.Cond.code ({ cls := "java/lang/Long", name := "<init>", desc := "(J)V" } : Jvm.MethodName) jdk_35_method_26_code (3 : Nat) (Option.none : Option Jvm.ClassFile.FieldType)).before args0 about1 = true := code_word (m := ⟨13, 1⟩) (meth := k13m1) (c := k13c1) (by decide +kernel) rfl rfl rfl (by decide +kernel)
set_option maxRecDepth 65536 in
theorem w_c8 : (Jvm.Cond.code ({ cls := "java/lang/Number", name := "<init>", desc := "()V" } : Jvm.MethodName) jdk_18_method_1_code (1 : Nat) (Option.none : Option Jvm.ClassFile.FieldType)).before args0 about1 = true := code_word (m := ⟨12, 0⟩) (meth := k12m0) (c := k12c0) (by decide +kernel) rfl rfl rfl (by decide +kernel)
def codes1 : List Jvm.Cond := [Jvm.Cond.code x code maxLocals ret, Jvm.Cond.code ({ cls := "com/example/daylily/daylily/engine/StandingEqualsPinLaw", name := "st", desc := "(I)Lcom/example/daylily/daylily/engine/PackageState;" } : Jvm.MethodName) method_2_code (1 : Nat) (Option.some (Jvm.ClassFile.FieldType.object "com/example/daylily/daylily/engine/PackageState")), Jvm.Cond.code ({ cls := "com/example/daylily/daylily/engine/Standing", name := "<init>", desc := "(JLcom/example/daylily/daylily/engine/PackageState;J)V" } : Jvm.MethodName) prog_16_method_1_code (6 : Nat) (Option.none : Option Jvm.ClassFile.FieldType), Jvm.Cond.code ({ cls := "java/lang/Object", name := "<init>", desc := "()V" } : Jvm.MethodName) object_method_1_code (1 : Nat) (Option.none : Option Jvm.ClassFile.FieldType), Jvm.Cond.code ({ cls := "java/util/Objects", name := "requireNonNull", desc := "(Ljava/lang/Object;Ljava/lang/String;)Ljava/lang/Object;" } : Jvm.MethodName) jdk_31_method_11_code (2 : Nat) (Option.some (Jvm.ClassFile.FieldType.object "java/lang/Object")), Jvm.Cond.code ({ cls := "com/example/daylily/daylily/engine/Standing", name := "equals", desc := "(Ljava/lang/Object;)Z" } : Jvm.MethodName) prog_16_method_5_code (3 : Nat) (Option.some Jvm.ClassFile.FieldType.boolean), Jvm.Cond.code ({ cls := "java/lang/Long", name := "valueOf", desc := "(J)Ljava/lang/Long;" } : Jvm.MethodName) jdk_35_method_24_code (3 : Nat) (Option.some (Jvm.ClassFile.FieldType.object "java/lang/Long")), Jvm.Cond.code ({ cls := "java/lang/Long", name := "<init>", desc := "(J)V" } : Jvm.MethodName) jdk_35_method_26_code (3 : Nat) (Option.none : Option Jvm.ClassFile.FieldType), Jvm.Cond.code ({ cls := "java/lang/Number", name := "<init>", desc := "()V" } : Jvm.MethodName) jdk_18_method_1_code (1 : Nat) (Option.none : Option Jvm.ClassFile.FieldType)]
set_option maxRecDepth 65536 in
theorem codes_eq : words1.filter isCode = codes1 := rfl
theorem w_codes : ∀ c ∈ words1.filter isCode, c.before args0 about1 = true := by
  rw [codes_eq]
  intro c hc
  simp only [codes1, List.mem_cons, List.not_mem_nil, or_false] at hc
  rcases hc with rfl | rfl | rfl | rfl | rfl | rfl | rfl | rfl | rfl
  · exact w_c0
  · exact w_c1
  · exact w_c2
  · exact w_c3
  · exact w_c4
  · exact w_c5
  · exact w_c6
  · exact w_c7
  · exact w_c8
set_option maxRecDepth 65536 in
theorem w_t1 : (words1.take 24).all (fun c => isCode c || c.before args0 about1) = true := by decide +kernel
set_option maxRecDepth 65536 in
theorem w_t2 : ((words1.drop 24).take 24).all (fun c => isCode c || c.before args0 about1) = true := by decide +kernel
set_option maxRecDepth 65536 in
theorem w_t3 : (((words1.drop 24).drop 24).take 24).all (fun c => isCode c || c.before args0 about1) = true := by decide +kernel
set_option maxRecDepth 65536 in
theorem w_t4 : (((words1.drop 24).drop 24).drop 24).all (fun c => isCode c || c.before args0 about1) = true := by decide +kernel
theorem w_tables : (allAtoms (Jvm.Cond.code x code maxLocals ret :: tables_1)).before args0 about1 = true := by
  rw [allAtoms_all]
  show words1.all (fun c => c.before args0 about1) = true
  refine all_split ?_ w_codes
  rw [← List.take_append_drop 24 words1, List.all_append, w_t1, ← List.take_append_drop 24 (words1.drop 24), List.all_append, w_t2, ← List.take_append_drop 24 ((words1.drop 24).drop 24), List.all_append, w_t3, w_t4]
  rfl
set_option maxRecDepth 65536 in
theorem w_rest : rest_1_c.before args0 about1 = true := by decide +kernel
set_option maxRecDepth 65536 in
theorem w_case : (Jvm.Cond.and given_1 narrow_1).before args0 about1 = true := by decide +kernel
theorem w_applies : (headSpec (Jvm.Cond.code x code maxLocals ret :: tables_1) room_1).applies x e0.platform about1 = true :=
  (Spec.applies_iff w_frames).mpr ⟨w_running, w_runnable, w_alone, w_named, w_hears, w_ripe, w_room, w_tables⟩
theorem atStart : AtStart classFile x code maxLocals ret World_1 tables_1 room_1 Calls_1 rest_1 Pre_1 launch0 p0 e0 about1 theMethod args0 below0 :=
  ⟨lists_1, trivial, launch0.admits_env _ _ _, launch0.least_env, fairChoices_fair.cas, fairChoices_fair.clock, w_frames, w_args, w_heap, w_applies, trivial, w_rest, w_case⟩
end start1
theorem witness_1 : WitnessClaimed_1 := ⟨start1.p0, start1.e0, start1.about1, start1.theMethod, start1.args0, start1.below0, start1.atStart⟩
end Jvm.Pilot.@@N@@
