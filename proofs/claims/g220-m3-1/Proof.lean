import JvmDerived
import JvmDerived.Pilot.@@N@@Statement
import JvmDerived.Pilot.@@N@@Code
set_option linter.unusedVariables false
set_option linter.unusedSimpArgs false
namespace Jvm.OwnGo
open Sem ClassFile Op Lib Jvm.Stand Jvm.Free Jvm.LawKit Jvm.RoadKit Jvm.Free.Fl
/-- from S the run comes to an end of which P speaks -/
def Go (p : Program) (e : Env) (below : List Frame) (P : Outcome → State → Prop) (S : State) : Prop := ∃ s₂ o, Steps p.tables e below S s₂ ∧ s₂.status = .running ∧ Ended s₂ below o ∧ P o s₂
/-- what a body's end says -/
def EndsAt (s : State) (Q : Option Value → Heap → List Loc → Prop) (rm : Room) : Outcome → State → Prop := fun o U' => ∃ v L, o = .returned v ∧ Q v U'.heap L ∧ FrameEnd s o U' L rm.cells rm.slots
/-- a body's contract -/
def Ct (l : Launch) (Z : State) (y : MethodName) (bytes : ByteArray) (ml : Nat) (ret : Option FieldType) (ws : List Jvm.Cond) (rm : Room) (as : Array Value) (h0 : Heap) (Q : Option Value → Heap → List Loc → Prop) : Prop :=
  MetFree l y (head1 (Jvm.Cond.code y bytes ml ret :: ws) rm) (fun a U => a = as ∧ Z.Warmed39 U.vm ∧ U.heap = h0) (fun _ _ _ _ _ => True) (fun _ U o U' => EndsAt U Q rm o U')
section Steps1
variable {p : Program} {l : Launch} {e : Env} {R : Room} {s : State} {m : MethodId} {args : Array Value} {below : List Frame} {meth : Method} {c : Code} {T : State} {locs : List Loc} {cells slots : Nat} {P : Outcome → State → Prop} {pc : Nat} {L L' : Array Slot} {st : List Value} {Z : State} {h h' : Heap} {a0 : Array Value} {rm : Room} {Q : Option Value → Heap → List Loc → Prop}
theorem Go.via {S S' : State} (k : ∀ t, Steps p.tables e below S' t → Steps p.tables e below S t) (g : Go p e below P S') : Go p e below P S := by
  obtain ⟨s2, o, h1, h2⟩ := g; exact ⟨s2, o, k _ h1, h2⟩
theorem Go.tr {S S' : State} (k : Steps p.tables e below S S') (g : Go p e below P S') : Go p e below P S := by
  obtain ⟨s2, o, h1, h2⟩ := g; exact ⟨s2, o, k.trans h1, h2⟩
theorem Ct.intro {y : MethodName} {bytes : ByteArray} {ml : Nat} {ret : Option FieldType} {ws : List Jvm.Cond} {as : Array Value} {h0 : Heap} (hpn : plainFor y = true) (L0 : Array Slot) (hef : ∀ m, entryFrame m as ml = mkF m 0 L0 [])
    (k : ∀ (p : Program) (e : Env) (s : State) (m : MethodId) (below : List Frame) (meth : Method) (c : Code) (T : State), Stand p l e rm s m as below meth c T [] 0 0 → p.tables.exec = Jvm.exec → Z.Warmed39 s.vm → c.code = bytes → c.maxLocals = ml → s.vm.findClass y.cls = some m.cls → meth.name = y.name → meth.sig.returnType = ret → meth.locks = false → T.heap = h0 → Go p e below (EndsAt s Q rm) (T.setTop (mkF m 0 L0 []))) :
    Ct l Z y bytes ml ret ws rm as h0 Q := by
  refine MetFree.of_bodySF hpn hisR ?_
  intro p e s m args below meth c s₁ Bd hml0 hP hK
  obtain ⟨rfl, hZ, hh⟩ := hP
  obtain ⟨s2, o, h1, h2, h3, h4⟩ := k p e s m below meth c s₁ (Stand.of_body Bd) Bd.exec hZ Bd.bytes hml0 (findClass_of_methodNamed Bd.named) (name_of_methodNamed Bd.named Bd.method).1 Bd.returns (BodyLoose.notSynchronized Bd) (by rw [← hh, Bd.state]; rfl)
  exact ⟨s2, o, castTop (hef m) h1, h2, h3, h4⟩
theorem retW (X : Stand p l e R s m args below meth c T locs cells slots) (hx : p.tables.exec = Jvm.exec) (hlk : meth.locks = false) {w : Value} {t : FieldType} {i : Instr} {rest : List Value} (hret : meth.sig.returnType = some t) (hn : narrow t w = w)
    (hi : (i = .ireturn ∧ (t = .int ∨ t = .boolean ∨ t = .byte ∨ t = .char ∨ t = .short) ∧ ∃ z, w = .int z) ∨ (i = .lreturn ∧ t = .long ∧ ∃ z, w = .long z) ∨ (i = .dreturn ∧ t = .double ∧ ∃ z, w = .double z) ∨ (i = .freturn ∧ t = .float ∧ ∃ z, w = .float z) ∨ (i = .areturn ∧ t.isReference = true ∧ w.isRef = true))
    (hd : decode c.code pc = .ok (i, 1)) (eT : T.heap = h) (hq : Q (some w) h locs) (hc : cells ≤ rm.cells) (hs : slots ≤ rm.slots) : Go p e below (EndsAt s Q rm) (T.setTop (mkF m pc L (w :: rest))) := by
  obtain ⟨fs, hr, hrun, hended, hW, hsame⟩ := X.leave (v := some w) (fun q => by rw [hret] at q; cases q) hlk
  refine ⟨_, _, retOut X hx hret hn hi hd hr, hrun, hended, _, _, rfl, ?_, ⟨_, rfl⟩, hW, hsame.mono hc hs⟩
  show Q (some w) T.heap locs
  rw [eT]; exact hq
theorem retI (X : Stand p l e R s m args below meth c T locs cells slots) (hx : p.tables.exec = Jvm.exec) (hlk : meth.locks = false) {z : Int32} {rest : List Value} (hret : meth.sig.returnType = some .int) (hd : decode c.code pc = .ok (.ireturn, 1)) (eT : T.heap = h) (hq : Q (some (.int z)) h locs) (hc : cells ≤ rm.cells) (hs : slots ≤ rm.slots) : Go p e below (EndsAt s Q rm) (T.setTop (mkF m pc L (.int z :: rest))) :=
  retW X hx hlk hret rfl (Or.inl ⟨rfl, Or.inl rfl, z, rfl⟩) hd eT hq hc hs
theorem retZ (X : Stand p l e R s m args below meth c T locs cells slots) (hx : p.tables.exec = Jvm.exec) (hlk : meth.locks = false) {z : Int32} {rest : List Value} (hret : meth.sig.returnType = some .boolean) (hd : decode c.code pc = .ok (.ireturn, 1)) (hn : narrow .boolean (.int z) = .int z) (eT : T.heap = h) (hq : Q (some (.int z)) h locs) (hc : cells ≤ rm.cells) (hs : slots ≤ rm.slots) : Go p e below (EndsAt s Q rm) (T.setTop (mkF m pc L (.int z :: rest))) :=
  retW X hx hlk hret hn (Or.inl ⟨rfl, Or.inr (Or.inl rfl), z, rfl⟩) hd eT hq hc hs
theorem retJ (X : Stand p l e R s m args below meth c T locs cells slots) (hx : p.tables.exec = Jvm.exec) (hlk : meth.locks = false) {z : Int64} {rest : List Value} (hret : meth.sig.returnType = some .long) (hd : decode c.code pc = .ok (.lreturn, 1)) (eT : T.heap = h) (hq : Q (some (.long z)) h locs) (hc : cells ≤ rm.cells) (hs : slots ≤ rm.slots) : Go p e below (EndsAt s Q rm) (T.setTop (mkF m pc L (.long z :: rest))) :=
  retW X hx hlk hret rfl (Or.inr (Or.inl ⟨rfl, rfl, z, rfl⟩)) hd eT hq hc hs
theorem retD (X : Stand p l e R s m args below meth c T locs cells slots) (hx : p.tables.exec = Jvm.exec) (hlk : meth.locks = false) {z : UInt64} {rest : List Value} (hret : meth.sig.returnType = some .double) (hd : decode c.code pc = .ok (.dreturn, 1)) (eT : T.heap = h) (hq : Q (some (.double z)) h locs) (hc : cells ≤ rm.cells) (hs : slots ≤ rm.slots) : Go p e below (EndsAt s Q rm) (T.setTop (mkF m pc L (.double z :: rest))) :=
  retW X hx hlk hret rfl (Or.inr (Or.inr (Or.inl ⟨rfl, rfl, z, rfl⟩))) hd eT hq hc hs
theorem retA (X : Stand p l e R s m args below meth c T locs cells slots) (hx : p.tables.exec = Jvm.exec) (hlk : meth.locks = false) {t : FieldType} {z : Addr} {rest : List Value} (hret : meth.sig.returnType = some t) (ht : t.isReference = true) (hn : narrow t (.ref z) = .ref z) (hd : decode c.code pc = .ok (.areturn, 1)) (eT : T.heap = h) (hq : Q (some (.ref z)) h locs) (hc : cells ≤ rm.cells) (hs : slots ≤ rm.slots) : Go p e below (EndsAt s Q rm) (T.setTop (mkF m pc L (.ref z :: rest))) :=
  retW X hx hlk hret hn (Or.inr (Or.inr (Or.inr (Or.inr ⟨rfl, ht, rfl⟩)))) hd eT hq hc hs
theorem retV (X : Stand p l e R s m args below meth c T locs cells slots) (hx : p.tables.exec = Jvm.exec) (hlk : meth.locks = false) (hret : meth.sig.returnType = none) (hd : decode c.code pc = .ok (.return_, 1)) (eT : T.heap = h) (hq : Q none h locs) (hc : cells ≤ rm.cells) (hs : slots ≤ rm.slots) : Go p e below (EndsAt s Q rm) (T.setTop (mkF m pc L [])) := by
  obtain ⟨fs, hr, hrun, hended, hW, hsame⟩ := X.leave (v := none) (fun _ => rfl) hlk
  refine ⟨_, _, X.returnOut hx hret hd hr, hrun, hended, _, _, rfl, ?_, ⟨_, rfl⟩, hW, hsame.mono hc hs⟩
  show Q none T.heap locs
  rw [eT]; exact hq
theorem s_iload (X : Stand p l e R s m args below meth c T locs cells slots) (hx : p.tables.exec = Jvm.exec) {k : Nat} {v : Int32} (hd : decode c.code pc = .ok (.iload k, 2)) (hl : L[k]? = some (.val (.int v))) (pc' : Nat) (hp : pc + 2 = pc') (g : Go p e below P (T.setTop (mkF m pc' L (.int v :: st)))) : Go p e below P (T.setTop (mkF m pc L (st))) := by
  subst hp; exact Go.via (fun _ k => XS.iload X.here hx rfl hd hl k) g
theorem s_iloadN (X : Stand p l e R s m args below meth c T locs cells slots) (hx : p.tables.exec = Jvm.exec) {k : Fin 4} {v : Int32} (hd : decode c.code pc = .ok (.iload_n k, 1)) (hl : L[k.val]? = some (.val (.int v))) (pc' : Nat) (hp : pc + 1 = pc') (g : Go p e below P (T.setTop (mkF m pc' L (.int v :: st)))) : Go p e below P (T.setTop (mkF m pc L (st))) := by
  subst hp; exact Go.via (fun _ k => XS.iloadN X.here hx rfl hd hl k) g
theorem s_istore (X : Stand p l e R s m args below meth c T locs cells slots) (hx : p.tables.exec = Jvm.exec) {k : Nat} {v : Int32} (hd : decode c.code pc = .ok (.istore k, 2)) (L' : Array Slot) (hl : storeLocals L k (.int v) = some L') (pc' : Nat) (hp : pc + 2 = pc') (g : Go p e below P (T.setTop (mkF m pc' L' (st)))) : Go p e below P (T.setTop (mkF m pc L (.int v :: st))) := by
  subst hp; exact Go.via (fun _ k => XS.istore X.here hx rfl hd rfl hl k) g
theorem s_istoreN (X : Stand p l e R s m args below meth c T locs cells slots) (hx : p.tables.exec = Jvm.exec) {k : Fin 4} {v : Int32} (hd : decode c.code pc = .ok (.istore_n k, 1)) (L' : Array Slot) (hl : storeLocals L k.val (.int v) = some L') (pc' : Nat) (hp : pc + 1 = pc') (g : Go p e below P (T.setTop (mkF m pc' L' (st)))) : Go p e below P (T.setTop (mkF m pc L (.int v :: st))) := by
  subst hp; exact Go.via (fun _ k => XS.istoreN X.here hx rfl hd rfl hl k) g
theorem s_lload (X : Stand p l e R s m args below meth c T locs cells slots) (hx : p.tables.exec = Jvm.exec) {k : Nat} {v : Int64} (hd : decode c.code pc = .ok (.lload k, 2)) (hl : L[k]? = some (.val (.long v))) (pc' : Nat) (hp : pc + 2 = pc') (g : Go p e below P (T.setTop (mkF m pc' L (.long v :: st)))) : Go p e below P (T.setTop (mkF m pc L (st))) := by
  subst hp; exact Go.via (fun _ k => XT.lload X.here hx rfl hd hl k) g
theorem s_lloadN (X : Stand p l e R s m args below meth c T locs cells slots) (hx : p.tables.exec = Jvm.exec) {k : Fin 4} {v : Int64} (hd : decode c.code pc = .ok (.lload_n k, 1)) (hl : L[k.val]? = some (.val (.long v))) (pc' : Nat) (hp : pc + 1 = pc') (g : Go p e below P (T.setTop (mkF m pc' L (.long v :: st)))) : Go p e below P (T.setTop (mkF m pc L (st))) := by
  subst hp; exact Go.via (fun _ k => XT.lloadN X.here hx rfl hd hl k) g
theorem s_lstore (X : Stand p l e R s m args below meth c T locs cells slots) (hx : p.tables.exec = Jvm.exec) {k : Nat} {v : Int64} (hd : decode c.code pc = .ok (.lstore k, 2)) (L' : Array Slot) (hl : storeLocals L k (.long v) = some L') (pc' : Nat) (hp : pc + 2 = pc') (g : Go p e below P (T.setTop (mkF m pc' L' (st)))) : Go p e below P (T.setTop (mkF m pc L (.long v :: st))) := by
  subst hp; exact Go.via (fun _ k => XT.lstore X.here hx rfl hd rfl hl k) g
theorem s_lstoreN (X : Stand p l e R s m args below meth c T locs cells slots) (hx : p.tables.exec = Jvm.exec) {k : Fin 4} {v : Int64} (hd : decode c.code pc = .ok (.lstore_n k, 1)) (L' : Array Slot) (hl : storeLocals L k.val (.long v) = some L') (pc' : Nat) (hp : pc + 1 = pc') (g : Go p e below P (T.setTop (mkF m pc' L' (st)))) : Go p e below P (T.setTop (mkF m pc L (.long v :: st))) := by
  subst hp; exact Go.via (fun _ k => XT.lstoreN X.here hx rfl hd rfl hl k) g
theorem s_dload (X : Stand p l e R s m args below meth c T locs cells slots) (hx : p.tables.exec = Jvm.exec) {k : Nat} {v : UInt64} (hd : decode c.code pc = .ok (.dload k, 2)) (hl : L[k]? = some (.val (.double v))) (pc' : Nat) (hp : pc + 2 = pc') (g : Go p e below P (T.setTop (mkF m pc' L (.double v :: st)))) : Go p e below P (T.setTop (mkF m pc L (st))) := by
  subst hp; exact Go.via (fun _ k => XS.dload X.here hx rfl hd hl k) g
theorem s_dloadN (X : Stand p l e R s m args below meth c T locs cells slots) (hx : p.tables.exec = Jvm.exec) {k : Fin 4} {v : UInt64} (hd : decode c.code pc = .ok (.dload_n k, 1)) (hl : L[k.val]? = some (.val (.double v))) (pc' : Nat) (hp : pc + 1 = pc') (g : Go p e below P (T.setTop (mkF m pc' L (.double v :: st)))) : Go p e below P (T.setTop (mkF m pc L (st))) := by
  subst hp; exact Go.via (fun _ k => XS.dloadN X.here hx rfl hd hl k) g
theorem s_dstore (X : Stand p l e R s m args below meth c T locs cells slots) (hx : p.tables.exec = Jvm.exec) {k : Nat} {v : UInt64} (hd : decode c.code pc = .ok (.dstore k, 2)) (L' : Array Slot) (hl : storeLocals L k (.double v) = some L') (pc' : Nat) (hp : pc + 2 = pc') (g : Go p e below P (T.setTop (mkF m pc' L' (st)))) : Go p e below P (T.setTop (mkF m pc L (.double v :: st))) := by
  subst hp; exact Go.via (fun _ k => XS.dstore X.here hx rfl hd rfl hl k) g
theorem s_dstoreN (X : Stand p l e R s m args below meth c T locs cells slots) (hx : p.tables.exec = Jvm.exec) {k : Fin 4} {v : UInt64} (hd : decode c.code pc = .ok (.dstore_n k, 1)) (L' : Array Slot) (hl : storeLocals L k.val (.double v) = some L') (pc' : Nat) (hp : pc + 1 = pc') (g : Go p e below P (T.setTop (mkF m pc' L' (st)))) : Go p e below P (T.setTop (mkF m pc L (.double v :: st))) := by
  subst hp; exact Go.via (fun _ k => XS.dstoreN X.here hx rfl hd rfl hl k) g
theorem s_aload (X : Stand p l e R s m args below meth c T locs cells slots) (hx : p.tables.exec = Jvm.exec) {k : Nat} {v : Value} (hd : decode c.code pc = .ok (.aload k, 2)) (hl : L[k]? = some (.val v)) (hv : v.isRef = true) (pc' : Nat) (hp : pc + 2 = pc') (g : Go p e below P (T.setTop (mkF m pc' L (v :: st)))) : Go p e below P (T.setTop (mkF m pc L (st))) := by
  subst hp; exact Go.via (fun _ k => XS.aload X.here hx rfl hd hl hv k) g
theorem s_aloadN (X : Stand p l e R s m args below meth c T locs cells slots) (hx : p.tables.exec = Jvm.exec) {k : Fin 4} {v : Value} (hd : decode c.code pc = .ok (.aload_n k, 1)) (hl : L[k.val]? = some (.val v)) (hv : v.isRef = true) (pc' : Nat) (hp : pc + 1 = pc') (g : Go p e below P (T.setTop (mkF m pc' L (v :: st)))) : Go p e below P (T.setTop (mkF m pc L (st))) := by
  subst hp; exact Go.via (fun _ k => XS.aloadN X.here hx rfl hd hl hv k) g
theorem s_astore (X : Stand p l e R s m args below meth c T locs cells slots) (hx : p.tables.exec = Jvm.exec) {k : Nat} {v : Value} (hd : decode c.code pc = .ok (.astore k, 2)) (hv : v.isRef = true) (L' : Array Slot) (hl : storeLocals L k v = some L') (pc' : Nat) (hp : pc + 2 = pc') (g : Go p e below P (T.setTop (mkF m pc' L' (st)))) : Go p e below P (T.setTop (mkF m pc L (v :: st))) := by
  subst hp; exact Go.via (fun _ k => XS.astore X.here hx rfl hd rfl hv hl k) g
theorem s_astoreN (X : Stand p l e R s m args below meth c T locs cells slots) (hx : p.tables.exec = Jvm.exec) {k : Fin 4} {v : Value} (hd : decode c.code pc = .ok (.astore_n k, 1)) (hv : v.isRef = true) (L' : Array Slot) (hl : storeLocals L k.val v = some L') (pc' : Nat) (hp : pc + 1 = pc') (g : Go p e below P (T.setTop (mkF m pc' L' (st)))) : Go p e below P (T.setTop (mkF m pc L (v :: st))) := by
  subst hp; exact Go.via (fun _ k => XS.astoreN X.here hx rfl hd rfl hv hl k) g
theorem s_iconst (X : Stand p l e R s m args below meth c T locs cells slots) (hx : p.tables.exec = Jvm.exec) {i : Int} (hd : decode c.code pc = .ok (.iconst i, 1)) (v : Int32) (hv : Int32.ofInt i = v) (pc' : Nat) (hp : pc + 1 = pc') (g : Go p e below P (T.setTop (mkF m pc' L (.int v :: st)))) : Go p e below P (T.setTop (mkF m pc L (st))) := by
  subst hp hv; exact Go.via (fun _ k => XS.iconst X.here hx rfl hd k) g
theorem s_bipush (X : Stand p l e R s m args below meth c T locs cells slots) (hx : p.tables.exec = Jvm.exec) {i : Int} (hd : decode c.code pc = .ok (.bipush i, 2)) (v : Int32) (hv : (Int8.ofInt i).toInt32 = v) (pc' : Nat) (hp : pc + 2 = pc') (g : Go p e below P (T.setTop (mkF m pc' L (.int v :: st)))) : Go p e below P (T.setTop (mkF m pc L (st))) := by
  subst hp hv; exact Go.via (fun _ k => XS.bipush X.here hx rfl hd k) g
theorem s_sipush (X : Stand p l e R s m args below meth c T locs cells slots) (hx : p.tables.exec = Jvm.exec) {i : Int} (hd : decode c.code pc = .ok (.sipush i, 3)) (v : Int32) (hv : (Int16.ofInt i).toInt32 = v) (pc' : Nat) (hp : pc + 3 = pc') (g : Go p e below P (T.setTop (mkF m pc' L (.int v :: st)))) : Go p e below P (T.setTop (mkF m pc L (st))) := by
  subst hp hv; exact Go.via (fun _ k => XS.sipush X.here hx rfl hd k) g
theorem s_lconst (X : Stand p l e R s m args below meth c T locs cells slots) (hx : p.tables.exec = Jvm.exec) {i : Fin 2} (hd : decode c.code pc = .ok (.lconst i, 1)) (v : Int64) (hv : Int64.ofNat i = v) (pc' : Nat) (hp : pc + 1 = pc') (g : Go p e below P (T.setTop (mkF m pc' L (.long v :: st)))) : Go p e below P (T.setTop (mkF m pc L (st))) := by
  subst hp; exact Go.via (fun _ k => XT.lconstV X.here hx rfl v hd hv k) g
theorem s_null (X : Stand p l e R s m args below meth c T locs cells slots) (hx : p.tables.exec = Jvm.exec)  (hd : decode c.code pc = .ok (.aconst_null, 1))  (pc' : Nat) (hp : pc + 1 = pc') (g : Go p e below P (T.setTop (mkF m pc' L (.null :: st)))) : Go p e below P (T.setTop (mkF m pc L (st))) := by
  subst hp; exact Go.via (fun _ k => XS.aconstNull X.here hx rfl hd k) g
theorem s_dconst0 (X : Stand p l e R s m args below meth c T locs cells slots) (hx : p.tables.exec = Jvm.exec)  (hd : decode c.code pc = .ok (.dconst 0, 1)) (v : UInt64) (hv : FP.dconst0 = v) (pc' : Nat) (hp : pc + 1 = pc') (g : Go p e below P (T.setTop (mkF m pc' L (.double v :: st)))) : Go p e below P (T.setTop (mkF m pc L (st))) := by
  subst hp; exact Go.via (fun _ k => XS.dconst0 X.here hx rfl hd hv k) g
theorem s_dconst1 (X : Stand p l e R s m args below meth c T locs cells slots) (hx : p.tables.exec = Jvm.exec)  (hd : decode c.code pc = .ok (.dconst 1, 1)) (v : UInt64) (hv : FP.dconst1 = v) (pc' : Nat) (hp : pc + 1 = pc') (g : Go p e below P (T.setTop (mkF m pc' L (.double v :: st)))) : Go p e below P (T.setTop (mkF m pc L (st))) := by
  subst hp; exact Go.via (fun _ k => XS.dconst1 X.here hx rfl hd hv k) g
theorem s_ldcI (X : Stand p l e R s m args below meth c T locs cells slots) (hx : p.tables.exec = Jvm.exec) {i : Nat} {v : Int32} (hd : decode c.code pc = .ok (.ldc i, 2)) (hZ : Z.Warmed39 s.vm) {own : String} (hown : s.vm.findClass own = some m.cls) (w : (Cond.constant own i v).before a0 Z = true) (pc' : Nat) (hp : pc + 2 = pc') (g : Go p e below P (T.setTop (mkF m pc' L (.int v :: st)))) : Go p e below P (T.setTop (mkF m pc L (st))) := by
  subst hp; exact Go.via (fun _ k => X.ldcI hx hown (mvT hZ w) rfl hd k) g
theorem s_ldc2J (X : Stand p l e R s m args below meth c T locs cells slots) (hx : p.tables.exec = Jvm.exec) {i : Nat} {v : Int64} (hd : decode c.code pc = .ok (.ldc2_w i, 3)) (hZ : Z.Warmed39 s.vm) {own : String} (hown : s.vm.findClass own = some m.cls) (w : (Cond.constantLong own i v).before a0 Z = true) (pc' : Nat) (hp : pc + 3 = pc') (g : Go p e below P (T.setTop (mkF m pc' L (.long v :: st)))) : Go p e below P (T.setTop (mkF m pc L (st))) := by
  subst hp; exact Go.via (fun _ k => X.ldc2J hx hown (mvT hZ w) rfl hd k) g
theorem s_ldc2D (X : Stand p l e R s m args below meth c T locs cells slots) (hx : p.tables.exec = Jvm.exec) {i : Nat} {v : UInt64} (hd : decode c.code pc = .ok (.ldc2_w i, 3)) (hZ : Z.Warmed39 s.vm) {own : String} (hown : s.vm.findClass own = some m.cls) (w : (Cond.constantDouble own i v).before a0 Z = true) (pc' : Nat) (hp : pc + 3 = pc') (g : Go p e below P (T.setTop (mkF m pc' L (.double v :: st)))) : Go p e below P (T.setTop (mkF m pc L (st))) := by
  subst hp; exact Go.via (fun _ k => X.ldc2DoubleC hx hown (mvT hZ w) (g := mkF m pc L st) rfl hd _ k) g
theorem s_iadd (X : Stand p l e R s m args below meth c T locs cells slots) (hx : p.tables.exec = Jvm.exec) {x y : Int32} (hd : decode c.code pc = .ok (.iadd, 1)) (v : Int32) (hv : x + y = v) (pc' : Nat) (hp : pc + 1 = pc') (g : Go p e below P (T.setTop (mkF m pc' L (.int v :: st)))) : Go p e below P (T.setTop (mkF m pc L (.int y :: .int x :: st))) := by
  subst hp hv; exact Go.via (fun _ k => XS.iadd X.here hx rfl hd rfl k) g
theorem s_isub (X : Stand p l e R s m args below meth c T locs cells slots) (hx : p.tables.exec = Jvm.exec) {x y : Int32} (hd : decode c.code pc = .ok (.isub, 1)) (v : Int32) (hv : x - y = v) (pc' : Nat) (hp : pc + 1 = pc') (g : Go p e below P (T.setTop (mkF m pc' L (.int v :: st)))) : Go p e below P (T.setTop (mkF m pc L (.int y :: .int x :: st))) := by
  subst hp hv; exact Go.via (fun _ k => XS.isub X.here hx rfl hd rfl k) g
theorem s_imul (X : Stand p l e R s m args below meth c T locs cells slots) (hx : p.tables.exec = Jvm.exec) {x y : Int32} (hd : decode c.code pc = .ok (.imul, 1)) (v : Int32) (hv : x * y = v) (pc' : Nat) (hp : pc + 1 = pc') (g : Go p e below P (T.setTop (mkF m pc' L (.int v :: st)))) : Go p e below P (T.setTop (mkF m pc L (.int y :: .int x :: st))) := by
  subst hp hv; exact Go.via (fun _ k => XS.imul X.here hx rfl hd rfl k) g
theorem s_iand (X : Stand p l e R s m args below meth c T locs cells slots) (hx : p.tables.exec = Jvm.exec) {x y : Int32} (hd : decode c.code pc = .ok (.iand, 1)) (v : Int32) (hv : x &&& y = v) (pc' : Nat) (hp : pc + 1 = pc') (g : Go p e below P (T.setTop (mkF m pc' L (.int v :: st)))) : Go p e below P (T.setTop (mkF m pc L (.int y :: .int x :: st))) := by
  subst hp hv; exact Go.via (fun _ k => XS.iand X.here hx rfl hd rfl k) g
theorem s_ixor (X : Stand p l e R s m args below meth c T locs cells slots) (hx : p.tables.exec = Jvm.exec) {x y : Int32} (hd : decode c.code pc = .ok (.ixor, 1)) (v : Int32) (hv : x ^^^ y = v) (pc' : Nat) (hp : pc + 1 = pc') (g : Go p e below P (T.setTop (mkF m pc' L (.int v :: st)))) : Go p e below P (T.setTop (mkF m pc L (.int y :: .int x :: st))) := by
  subst hp hv; exact Go.via (fun _ k => XT.ixor X.here hx rfl hd rfl k) g
theorem s_ior (X : Stand p l e R s m args below meth c T locs cells slots) (hx : p.tables.exec = Jvm.exec) {x y : Int32} (hd : decode c.code pc = .ok (.ior, 1)) (v : Int32) (hv : x ||| y = v) (pc' : Nat) (hp : pc + 1 = pc') (g : Go p e below P (T.setTop (mkF m pc' L (.int v :: st)))) : Go p e below P (T.setTop (mkF m pc L (.int y :: .int x :: st))) := by
  subst hp hv; exact Go.via (fun _ k => XT.ior X.here hx rfl hd rfl k) g
theorem s_ishl (X : Stand p l e R s m args below meth c T locs cells slots) (hx : p.tables.exec = Jvm.exec) {x y : Int32} (hd : decode c.code pc = .ok (.ishl, 1)) (v : Int32) (hv : x <<< (y &&& 31) = v) (pc' : Nat) (hp : pc + 1 = pc') (g : Go p e below P (T.setTop (mkF m pc' L (.int v :: st)))) : Go p e below P (T.setTop (mkF m pc L (.int y :: .int x :: st))) := by
  subst hp hv; exact Go.via (fun _ k => XT.ishl X.here hx rfl hd rfl k) g
theorem s_ishr (X : Stand p l e R s m args below meth c T locs cells slots) (hx : p.tables.exec = Jvm.exec) {x y : Int32} (hd : decode c.code pc = .ok (.ishr, 1)) (v : Int32) (hv : x >>> (y &&& 31) = v) (pc' : Nat) (hp : pc + 1 = pc') (g : Go p e below P (T.setTop (mkF m pc' L (.int v :: st)))) : Go p e below P (T.setTop (mkF m pc L (.int y :: .int x :: st))) := by
  subst hp hv; exact Go.via (fun _ k => XT.ishr X.here hx rfl hd rfl k) g
theorem s_iushr (X : Stand p l e R s m args below meth c T locs cells slots) (hx : p.tables.exec = Jvm.exec) {x y : Int32} (hd : decode c.code pc = .ok (.iushr, 1)) (v : Int32) (hv : XT.ushr x y = v) (pc' : Nat) (hp : pc + 1 = pc') (g : Go p e below P (T.setTop (mkF m pc' L (.int v :: st)))) : Go p e below P (T.setTop (mkF m pc L (.int y :: .int x :: st))) := by
  subst hp hv; exact Go.via (fun _ k => XT.iushr X.here hx rfl hd rfl k) g
theorem s_idiv (X : Stand p l e R s m args below meth c T locs cells slots) (hx : p.tables.exec = Jvm.exec) {x y : Int32} (hd : decode c.code pc = .ok (.idiv, 1)) (hy : y ≠ 0) (v : Int32) (hv : x / y = v) (pc' : Nat) (hp : pc + 1 = pc') (g : Go p e below P (T.setTop (mkF m pc' L (.int v :: st)))) : Go p e below P (T.setTop (mkF m pc L (.int y :: .int x :: st))) := by
  subst hp hv; exact Go.via (fun _ k => XS.idiv X.here hx rfl hd rfl hy k) g
theorem s_irem (X : Stand p l e R s m args below meth c T locs cells slots) (hx : p.tables.exec = Jvm.exec) {x y : Int32} (hd : decode c.code pc = .ok (.irem, 1)) (hy : y ≠ 0) (v : Int32) (hv : x % y = v) (pc' : Nat) (hp : pc + 1 = pc') (g : Go p e below P (T.setTop (mkF m pc' L (.int v :: st)))) : Go p e below P (T.setTop (mkF m pc L (.int y :: .int x :: st))) := by
  subst hp hv; exact Go.via (fun _ k => RoadKit.iremM X hx rfl hd rfl hy k) g
theorem s_ineg (X : Stand p l e R s m args below meth c T locs cells slots) (hx : p.tables.exec = Jvm.exec) {x : Int32} (hd : decode c.code pc = .ok (.ineg, 1)) (v : Int32) (hv : -x = v) (pc' : Nat) (hp : pc + 1 = pc') (g : Go p e below P (T.setTop (mkF m pc' L (.int v :: st)))) : Go p e below P (T.setTop (mkF m pc L (.int x :: st))) := by
  subst hp hv; exact Go.via (fun _ k => XS.ineg X.here hx rfl hd rfl k) g
theorem s_ladd (X : Stand p l e R s m args below meth c T locs cells slots) (hx : p.tables.exec = Jvm.exec) {x y : Int64} (hd : decode c.code pc = .ok (.ladd, 1)) (v : Int64) (hv : x + y = v) (pc' : Nat) (hp : pc + 1 = pc') (g : Go p e below P (T.setTop (mkF m pc' L (.long v :: st)))) : Go p e below P (T.setTop (mkF m pc L (.long y :: .long x :: st))) := by
  subst hp hv; exact Go.via (fun _ k => XT.ladd X.here hx rfl hd rfl k) g
theorem s_lsub (X : Stand p l e R s m args below meth c T locs cells slots) (hx : p.tables.exec = Jvm.exec) {x y : Int64} (hd : decode c.code pc = .ok (.lsub, 1)) (v : Int64) (hv : x - y = v) (pc' : Nat) (hp : pc + 1 = pc') (g : Go p e below P (T.setTop (mkF m pc' L (.long v :: st)))) : Go p e below P (T.setTop (mkF m pc L (.long y :: .long x :: st))) := by
  subst hp hv; exact Go.via (fun _ k => XT.lsub X.here hx rfl hd rfl k) g
theorem s_lmul (X : Stand p l e R s m args below meth c T locs cells slots) (hx : p.tables.exec = Jvm.exec) {x y : Int64} (hd : decode c.code pc = .ok (.lmul, 1)) (v : Int64) (hv : x * y = v) (pc' : Nat) (hp : pc + 1 = pc') (g : Go p e below P (T.setTop (mkF m pc' L (.long v :: st)))) : Go p e below P (T.setTop (mkF m pc L (.long y :: .long x :: st))) := by
  subst hp hv; exact Go.via (fun _ k => XT.lmul X.here hx rfl hd rfl k) g
theorem s_land (X : Stand p l e R s m args below meth c T locs cells slots) (hx : p.tables.exec = Jvm.exec) {x y : Int64} (hd : decode c.code pc = .ok (.land, 1)) (v : Int64) (hv : x &&& y = v) (pc' : Nat) (hp : pc + 1 = pc') (g : Go p e below P (T.setTop (mkF m pc' L (.long v :: st)))) : Go p e below P (T.setTop (mkF m pc L (.long y :: .long x :: st))) := by
  subst hp hv; exact Go.via (fun _ k => XT.land X.here hx rfl hd rfl k) g
theorem s_lor (X : Stand p l e R s m args below meth c T locs cells slots) (hx : p.tables.exec = Jvm.exec) {x y : Int64} (hd : decode c.code pc = .ok (.lor, 1)) (v : Int64) (hv : x ||| y = v) (pc' : Nat) (hp : pc + 1 = pc') (g : Go p e below P (T.setTop (mkF m pc' L (.long v :: st)))) : Go p e below P (T.setTop (mkF m pc L (.long y :: .long x :: st))) := by
  subst hp hv; exact Go.via (fun _ k => XT.lor X.here hx rfl hd rfl k) g
theorem s_lxor (X : Stand p l e R s m args below meth c T locs cells slots) (hx : p.tables.exec = Jvm.exec) {x y : Int64} (hd : decode c.code pc = .ok (.lxor, 1)) (v : Int64) (hv : x ^^^ y = v) (pc' : Nat) (hp : pc + 1 = pc') (g : Go p e below P (T.setTop (mkF m pc' L (.long v :: st)))) : Go p e below P (T.setTop (mkF m pc L (.long y :: .long x :: st))) := by
  subst hp hv; exact Go.via (fun _ k => XT.lxor X.here hx rfl hd rfl k) g
theorem s_ldiv (X : Stand p l e R s m args below meth c T locs cells slots) (hx : p.tables.exec = Jvm.exec) {x y : Int64} (hd : decode c.code pc = .ok (.ldiv, 1)) (hy : y ≠ 0) (v : Int64) (hv : x / y = v) (pc' : Nat) (hp : pc + 1 = pc') (g : Go p e below P (T.setTop (mkF m pc' L (.long v :: st)))) : Go p e below P (T.setTop (mkF m pc L (.long y :: .long x :: st))) := by
  subst hp hv; exact Go.via (fun _ k => XT.ldiv X.here hx rfl hd rfl hy k) g
theorem s_lrem (X : Stand p l e R s m args below meth c T locs cells slots) (hx : p.tables.exec = Jvm.exec) {x y : Int64} (hd : decode c.code pc = .ok (.lrem, 1)) (hy : y ≠ 0) (v : Int64) (hv : x - (x / y) * y = v) (pc' : Nat) (hp : pc + 1 = pc') (g : Go p e below P (T.setTop (mkF m pc' L (.long v :: st)))) : Go p e below P (T.setTop (mkF m pc L (.long y :: .long x :: st))) := by
  subst hp hv; exact Go.via (fun _ k => XT.lrem X.here hx rfl hd rfl hy k) g
theorem s_lneg (X : Stand p l e R s m args below meth c T locs cells slots) (hx : p.tables.exec = Jvm.exec) {x : Int64} (hd : decode c.code pc = .ok (.lneg, 1)) (v : Int64) (hv : -x = v) (pc' : Nat) (hp : pc + 1 = pc') (g : Go p e below P (T.setTop (mkF m pc' L (.long v :: st)))) : Go p e below P (T.setTop (mkF m pc L (.long x :: st))) := by
  subst hp hv; exact Go.via (fun _ k => XT.lneg X.here hx rfl hd rfl k) g
theorem sh64 (y : Int32) : (y.toInt64 &&& 63) = (y &&& 0x3f).toInt64 := by rw [Int32.toInt64_and]; rfl
theorem s_lshl (X : Stand p l e R s m args below meth c T locs cells slots) (hx : p.tables.exec = Jvm.exec) {x : Int64} {y : Int32} (hd : decode c.code pc = .ok (.lshl, 1)) (v : Int64) (hv : x <<< (y &&& 0x3f).toInt64 = v) (pc' : Nat) (hp : pc + 1 = pc') (g : Go p e below P (T.setTop (mkF m pc' L (.long v :: st)))) : Go p e below P (T.setTop (mkF m pc L (.int y :: .long x :: st))) := by
  subst hp hv; exact Go.via (fun _ k => XT.lshl X.here hx rfl hd rfl (by rw [sh64]; exact k)) g
theorem s_lshr (X : Stand p l e R s m args below meth c T locs cells slots) (hx : p.tables.exec = Jvm.exec) {x : Int64} {y : Int32} (hd : decode c.code pc = .ok (.lshr, 1)) (v : Int64) (hv : x >>> (y &&& 0x3f).toInt64 = v) (pc' : Nat) (hp : pc + 1 = pc') (g : Go p e below P (T.setTop (mkF m pc' L (.long v :: st)))) : Go p e below P (T.setTop (mkF m pc L (.int y :: .long x :: st))) := by
  subst hp hv; exact Go.via (fun _ k => XT.lshr X.here hx rfl hd rfl (by rw [sh64]; exact k)) g
theorem s_lushr (X : Stand p l e R s m args below meth c T locs cells slots) (hx : p.tables.exec = Jvm.exec) {x : Int64} {y : Int32} (hd : decode c.code pc = .ok (.lushr, 1)) (v : Int64) (hv : XT.ushrL x y = v) (pc' : Nat) (hp : pc + 1 = pc') (g : Go p e below P (T.setTop (mkF m pc' L (.long v :: st)))) : Go p e below P (T.setTop (mkF m pc L (.int y :: .long x :: st))) := by
  subst hp hv; exact Go.via (fun _ k => XT.lushr X.here hx rfl hd rfl k) g
theorem s_i2l (X : Stand p l e R s m args below meth c T locs cells slots) (hx : p.tables.exec = Jvm.exec) {x : Int32} (hd : decode c.code pc = .ok (.i2l, 1)) (v : Int64) (hv : x.toInt64 = v) (pc' : Nat) (hp : pc + 1 = pc') (g : Go p e below P (T.setTop (mkF m pc' L (.long v :: st)))) : Go p e below P (T.setTop (mkF m pc L (.int x :: st))) := by
  subst hp hv; exact Go.via (fun _ k => XT.i2l X.here hx rfl hd rfl k) g
theorem s_l2i (X : Stand p l e R s m args below meth c T locs cells slots) (hx : p.tables.exec = Jvm.exec) {x : Int64} (hd : decode c.code pc = .ok (.l2i, 1)) (v : Int32) (hv : x.toInt32 = v) (pc' : Nat) (hp : pc + 1 = pc') (g : Go p e below P (T.setTop (mkF m pc' L (.int v :: st)))) : Go p e below P (T.setTop (mkF m pc L (.long x :: st))) := by
  subst hp hv; exact Go.via (fun _ k => XT.l2i X.here hx rfl hd rfl k) g
theorem s_i2b (X : Stand p l e R s m args below meth c T locs cells slots) (hx : p.tables.exec = Jvm.exec) {x : Int32} (hd : decode c.code pc = .ok (.i2b, 1)) (v : Int32) (hv : x.toInt8.toInt32 = v) (pc' : Nat) (hp : pc + 1 = pc') (g : Go p e below P (T.setTop (mkF m pc' L (.int v :: st)))) : Go p e below P (T.setTop (mkF m pc L (.int x :: st))) := by
  subst hp hv; exact Go.via (fun _ k => XT.i2b X.here hx rfl hd rfl k) g
theorem s_i2s (X : Stand p l e R s m args below meth c T locs cells slots) (hx : p.tables.exec = Jvm.exec) {x : Int32} (hd : decode c.code pc = .ok (.i2s, 1)) (v : Int32) (hv : x.toInt16.toInt32 = v) (pc' : Nat) (hp : pc + 1 = pc') (g : Go p e below P (T.setTop (mkF m pc' L (.int v :: st)))) : Go p e below P (T.setTop (mkF m pc L (.int x :: st))) := by
  subst hp hv; exact Go.via (fun _ k => XT.i2s X.here hx rfl hd rfl k) g
theorem s_i2d (X : Stand p l e R s m args below meth c T locs cells slots) (hx : p.tables.exec = Jvm.exec) {x : Int32} (hd : decode c.code pc = .ok (.i2d, 1)) (v : UInt64) (hv : FP.i2d x = v) (pc' : Nat) (hp : pc + 1 = pc') (g : Go p e below P (T.setTop (mkF m pc' L (.double v :: st)))) : Go p e below P (T.setTop (mkF m pc L (.int x :: st))) := by
  subst hp; exact Go.via (fun _ k => XS.i2dS X.here hx rfl hd rfl hv k) g
theorem s_l2d (X : Stand p l e R s m args below meth c T locs cells slots) (hx : p.tables.exec = Jvm.exec) {x : Int64} (hd : decode c.code pc = .ok (.l2d, 1)) (v : UInt64) (hv : FP.l2d x = v) (pc' : Nat) (hp : pc + 1 = pc') (g : Go p e below P (T.setTop (mkF m pc' L (.double v :: st)))) : Go p e below P (T.setTop (mkF m pc L (.long x :: st))) := by
  subst hp; exact Go.via (fun _ k => XS.l2dS X.here hx rfl hd rfl hv k) g
theorem s_dneg (X : Stand p l e R s m args below meth c T locs cells slots) (hx : p.tables.exec = Jvm.exec) {x : UInt64} (hd : decode c.code pc = .ok (.dneg, 1)) (v : UInt64) (hv : FP.dneg x = v) (pc' : Nat) (hp : pc + 1 = pc') (g : Go p e below P (T.setTop (mkF m pc' L (.double v :: st)))) : Go p e below P (T.setTop (mkF m pc L (.double x :: st))) := by
  subst hp; exact Go.via (fun _ k => XS.dnegS X.here hx rfl hd rfl hv k) g
theorem s_dadd (X : Stand p l e R s m args below meth c T locs cells slots) (hx : p.tables.exec = Jvm.exec) {x y : UInt64} (hd : decode c.code pc = .ok (.dadd, 1)) (v : UInt64) (hv : FP.dadd x y = v) (hn : NoNaN64 v) (pc' : Nat) (hp : pc + 1 = pc') (g : Go p e below P (T.setTop (mkF m pc' L (.double v :: st)))) : Go p e below P (T.setTop (mkF m pc L (.double y :: .double x :: st))) := by
  subst hp hv; exact Go.via (fun _ k => XS.daddS X.here hx rfl hd rfl hn rfl k) g
theorem s_dsub (X : Stand p l e R s m args below meth c T locs cells slots) (hx : p.tables.exec = Jvm.exec) {x y : UInt64} (hd : decode c.code pc = .ok (.dsub, 1)) (v : UInt64) (hv : FP.dsub x y = v) (hn : NoNaN64 v) (pc' : Nat) (hp : pc + 1 = pc') (g : Go p e below P (T.setTop (mkF m pc' L (.double v :: st)))) : Go p e below P (T.setTop (mkF m pc L (.double y :: .double x :: st))) := by
  subst hp hv; exact Go.via (fun _ k => XS.dsubS X.here hx rfl hd rfl hn rfl k) g
theorem s_dmul (X : Stand p l e R s m args below meth c T locs cells slots) (hx : p.tables.exec = Jvm.exec) {x y : UInt64} (hd : decode c.code pc = .ok (.dmul, 1)) (v : UInt64) (hv : FP.dmul x y = v) (hn : NoNaN64 v) (pc' : Nat) (hp : pc + 1 = pc') (g : Go p e below P (T.setTop (mkF m pc' L (.double v :: st)))) : Go p e below P (T.setTop (mkF m pc L (.double y :: .double x :: st))) := by
  subst hp hv; exact Go.via (fun _ k => XS.dmulS X.here hx rfl hd rfl hn rfl k) g
theorem s_ddiv (X : Stand p l e R s m args below meth c T locs cells slots) (hx : p.tables.exec = Jvm.exec) {x y : UInt64} (hd : decode c.code pc = .ok (.ddiv, 1)) (v : UInt64) (hv : FP.ddiv x y = v) (hn : NoNaN64 v) (pc' : Nat) (hp : pc + 1 = pc') (g : Go p e below P (T.setTop (mkF m pc' L (.double v :: st)))) : Go p e below P (T.setTop (mkF m pc L (.double y :: .double x :: st))) := by
  subst hp hv; exact Go.via (fun _ k => XS.ddivS X.here hx rfl hd rfl hn rfl k) g
theorem s_dcmp (X : Stand p l e R s m args below meth c T locs cells slots) (hx : p.tables.exec = Jvm.exec) {x y : UInt64} {o : CmpOp} (hd : decode c.code pc = .ok (.dcmp o, 1)) (v : Int32) (hv : cmpValue (FP.dcmp x y) o = v) (pc' : Nat) (hp : pc + 1 = pc') (g : Go p e below P (T.setTop (mkF m pc' L (.int v :: st)))) : Go p e below P (T.setTop (mkF m pc L (.double y :: .double x :: st))) := by
  subst hp; exact Go.via (fun _ k => XS.dcmpS X.here hx rfl hd rfl hv k) g
theorem s_lcmp (X : Stand p l e R s m args below meth c T locs cells slots) (hx : p.tables.exec = Jvm.exec) {x y : Int64} (hd : decode c.code pc = .ok (.lcmp, 1)) (v : Int32) (hv : XT.cmpL x y = v) (pc' : Nat) (hp : pc + 1 = pc') (g : Go p e below P (T.setTop (mkF m pc' L (.int v :: st)))) : Go p e below P (T.setTop (mkF m pc L (.long y :: .long x :: st))) := by
  subst hp hv; exact Go.via (fun _ k => XT.lcmp X.here hx rfl hd rfl k) g
theorem s_dup (X : Stand p l e R s m args below meth c T locs cells slots) (hx : p.tables.exec = Jvm.exec) {x : Value} (hd : decode c.code pc = .ok (.dup, 1)) (hc : x.category = 1) (pc' : Nat) (hp : pc + 1 = pc') (g : Go p e below P (T.setTop (mkF m pc' L (x :: x :: st)))) : Go p e below P (T.setTop (mkF m pc L (x :: st))) := by
  subst hp; exact Go.via (fun _ k => XS.dup X.here hx rfl hd rfl hc k) g
theorem s_pop (X : Stand p l e R s m args below meth c T locs cells slots) (hx : p.tables.exec = Jvm.exec) {x : Value} (hd : decode c.code pc = .ok (.pop, 1)) (hc : x.category = 1) (pc' : Nat) (hp : pc + 1 = pc') (g : Go p e below P (T.setTop (mkF m pc' L (st)))) : Go p e below P (T.setTop (mkF m pc L (x :: st))) := by
  subst hp; exact Go.via (fun _ k => XT.pop X.here hx rfl hd rfl hc k) g
theorem s_dupX1 (X : Stand p l e R s m args below meth c T locs cells slots) (hx : p.tables.exec = Jvm.exec) {x y : Value} (hd : decode c.code pc = .ok (.dup_x1, 1)) (hc : x.category = 1) (hc' : y.category = 1) (pc' : Nat) (hp : pc + 1 = pc') (g : Go p e below P (T.setTop (mkF m pc' L (x :: y :: x :: st)))) : Go p e below P (T.setTop (mkF m pc L (x :: y :: st))) := by
  subst hp; exact Go.via (fun _ k => XT.dupX1 X.here hx rfl hd rfl hc hc' k) g
theorem s_dup2 (X : Stand p l e R s m args below meth c T locs cells slots) (hx : p.tables.exec = Jvm.exec) {x y : Value} (hd : decode c.code pc = .ok (.dup2, 1)) (hc : x.category = 1) (hc' : y.category = 1) (pc' : Nat) (hp : pc + 1 = pc') (g : Go p e below P (T.setTop (mkF m pc' L (x :: y :: x :: y :: st)))) : Go p e below P (T.setTop (mkF m pc L (x :: y :: st))) := by
  subst hp; exact Go.via (fun _ k => XT.dup2 X.here hx rfl hd rfl hc hc' k) g
theorem s_iinc (X : Stand p l e R s m args below meth c T locs cells slots) (hx : p.tables.exec = Jvm.exec) {k : Nat} {cst : Int} {x : Int32} (hd : decode c.code pc = .ok (.iinc k cst, 3)) (v : Int32) (hv : x + Int32.ofInt cst = v) (hl : L[k]? = some (.val (.int x))) (L' : Array Slot) (hl' : storeLocals L k (.int v) = some L') (pc' : Nat) (hp : pc + 3 = pc') (g : Go p e below P (T.setTop (mkF m pc' L' (st)))) : Go p e below P (T.setTop (mkF m pc L (st))) := by
  subst hp hv; exact Go.via (fun _ k => XS.iinc X.here hx rfl hd hl hl' k) g
theorem s_goto (X : Stand p l e R s m args below meth c T locs cells slots) (hx : p.tables.exec = Jvm.exec) {o : Int} (hd : decode c.code pc = .ok (.goto o, 3)) (pc' : Nat) (ho : 0 ≤ (pc : Int) + o) (hp : ((pc : Int) + o).toNat = pc') (g : Go p e below P (T.setTop (mkF m pc' L st))) : Go p e below P (T.setTop (mkF m pc L st)) := Go.via (fun _ k => XS.goto X.here hx rfl rfl hd ho hp k) g
theorem s_ifY (X : Stand p l e R s m args below meth c T locs cells slots) (hx : p.tables.exec = Jvm.exec) {cd : ClassFile.Cond} {o : Int} {x : Int32} (hd : decode c.code pc = .ok (.ifCond cd o, 3)) (hc : ifCond.holds cd x = true) (pc' : Nat) (ho : 0 ≤ (pc : Int) + o) (hp : ((pc : Int) + o).toNat = pc') (g : Go p e below P (T.setTop (mkF m pc' L st))) : Go p e below P (T.setTop (mkF m pc L (.int x :: st))) := Go.via (fun _ k => XS.ifYes X.here hx rfl rfl hd rfl hc ho hp k) g
theorem s_ifN (X : Stand p l e R s m args below meth c T locs cells slots) (hx : p.tables.exec = Jvm.exec) {cd : ClassFile.Cond} {o : Int} {x : Int32} (hd : decode c.code pc = .ok (.ifCond cd o, 3)) (hc : ifCond.holds cd x = false) (pc' : Nat) (hp : pc + 3 = pc') (g : Go p e below P (T.setTop (mkF m pc' L (st)))) : Go p e below P (T.setTop (mkF m pc L (.int x :: st))) := by
  subst hp; exact Go.via (fun _ k => XS.ifNo X.here hx rfl hd rfl hc k) g
theorem s_icmpY (X : Stand p l e R s m args below meth c T locs cells slots) (hx : p.tables.exec = Jvm.exec) {cd : ClassFile.Cond} {o : Int} {x y : Int32} (hd : decode c.code pc = .ok (.if_icmp cd o, 3)) (hc : if_icmp.holds cd x y = true) (pc' : Nat) (ho : 0 ≤ (pc : Int) + o) (hp : ((pc : Int) + o).toNat = pc') (g : Go p e below P (T.setTop (mkF m pc' L st))) : Go p e below P (T.setTop (mkF m pc L (.int y :: .int x :: st))) := Go.via (fun _ k => XS.icmpYes X.here hx rfl rfl hd rfl hc ho hp k) g
theorem s_icmpN (X : Stand p l e R s m args below meth c T locs cells slots) (hx : p.tables.exec = Jvm.exec) {cd : ClassFile.Cond} {o : Int} {x y : Int32} (hd : decode c.code pc = .ok (.if_icmp cd o, 3)) (hc : if_icmp.holds cd x y = false) (pc' : Nat) (hp : pc + 3 = pc') (g : Go p e below P (T.setTop (mkF m pc' L (st)))) : Go p e below P (T.setTop (mkF m pc L (.int y :: .int x :: st))) := by
  subst hp; exact Go.via (fun _ k => XS.icmpNo X.here hx rfl hd rfl hc k) g
theorem s_acmpY (X : Stand p l e R s m args below meth c T locs cells slots) (hx : p.tables.exec = Jvm.exec) {cd : ClassFile.ACond} {o : Int} {x y : Value} (hd : decode c.code pc = .ok (.if_acmp cd o, 3)) (h1 : x.isRef = true) (h2 : y.isRef = true) (hc : XT.acmp cd x y = true) (pc' : Nat) (ho : 0 ≤ (pc : Int) + o) (hp : ((pc : Int) + o).toNat = pc') (g : Go p e below P (T.setTop (mkF m pc' L st))) : Go p e below P (T.setTop (mkF m pc L (y :: x :: st))) := Go.via (fun _ k => XT.acmpYes X.here hx rfl rfl hd rfl h1 h2 hc ho hp k) g
theorem s_acmpN (X : Stand p l e R s m args below meth c T locs cells slots) (hx : p.tables.exec = Jvm.exec) {cd : ClassFile.ACond} {o : Int} {x y : Value} (hd : decode c.code pc = .ok (.if_acmp cd o, 3)) (h1 : x.isRef = true) (h2 : y.isRef = true) (hc : XT.acmp cd x y = false) (pc' : Nat) (hp : pc + 3 = pc') (g : Go p e below P (T.setTop (mkF m pc' L (st)))) : Go p e below P (T.setTop (mkF m pc L (y :: x :: st))) := by
  subst hp; exact Go.via (fun _ k => XT.acmpNo X.here hx rfl hd rfl h1 h2 hc k) g
theorem s_ifnullN (X : Stand p l e R s m args below meth c T locs cells slots) (hx : p.tables.exec = Jvm.exec) {o : Int} {b : Addr} (hd : decode c.code pc = .ok (.ifnull o, 3))  (pc' : Nat) (hp : pc + 3 = pc') (g : Go p e below P (T.setTop (mkF m pc' L (st)))) : Go p e below P (T.setTop (mkF m pc L (.ref b :: st))) := by
  subst hp; exact Go.via (fun _ k => XS.ifnullNo X.here hx rfl hd rfl k) g
theorem s_ifnullY (X : Stand p l e R s m args below meth c T locs cells slots) (hx : p.tables.exec = Jvm.exec) {o : Int} (hd : decode c.code pc = .ok (.ifnull o, 3)) (pc' : Nat) (ho : 0 ≤ (pc : Int) + o) (hp : ((pc : Int) + o).toNat = pc') (g : Go p e below P (T.setTop (mkF m pc' L st))) : Go p e below P (T.setTop (mkF m pc L (.null :: st))) := Go.via (fun _ k => XS.ifnullYes X.here hx rfl rfl hd rfl ho hp k) g
theorem s_ifnonnullN (X : Stand p l e R s m args below meth c T locs cells slots) (hx : p.tables.exec = Jvm.exec) {o : Int} (hd : decode c.code pc = .ok (.ifnonnull o, 3))  (pc' : Nat) (hp : pc + 3 = pc') (g : Go p e below P (T.setTop (mkF m pc' L (st)))) : Go p e below P (T.setTop (mkF m pc L (.null :: st))) := by
  subst hp; exact Go.via (fun _ k => XT.ifnonnullNo X.here hx rfl hd rfl k) g
theorem s_ifnonnullY (X : Stand p l e R s m args below meth c T locs cells slots) (hx : p.tables.exec = Jvm.exec) {o : Int} {b : Addr} (hd : decode c.code pc = .ok (.ifnonnull o, 3)) (pc' : Nat) (ho : 0 ≤ (pc : Int) + o) (hp : ((pc : Int) + o).toNat = pc') (g : Go p e below P (T.setTop (mkF m pc' L st))) : Go p e below P (T.setTop (mkF m pc L (.ref b :: st))) := Go.via (fun _ k => XT.ifnonnullYes X.here hx rfl rfl hd rfl ho hp k) g
section Cmp
variable {r : Option Ordering} {o : CmpOp}
theorem dd_ne_t (h : r ≠ some .eq) : ifCond.holds .ne (cmpValue r o) = true := by rcases r with _ | (_ | _ | _) <;> cases o <;> first | rfl | exact absurd rfl h
theorem dd_ne_f (h : r = some .eq) : ifCond.holds .ne (cmpValue r o) = false := by subst h; cases o <;> rfl
theorem dd_eq_t (h : r = some .eq) : ifCond.holds .eq (cmpValue r o) = true := by subst h; cases o <;> rfl
theorem dd_eq_f (h : r ≠ some .eq) : ifCond.holds .eq (cmpValue r o) = false := by rcases r with _ | (_ | _ | _) <;> cases o <;> first | rfl | exact absurd rfl h
theorem dd_ge_t (h : r ≠ some .lt) : ifCond.holds .ge (cmpValue r .g) = true := by rcases r with _ | (_ | _ | _) <;> first | rfl | exact absurd rfl h
theorem dd_ge_f (h : r = some .lt) : ifCond.holds .ge (cmpValue r .g) = false := by subst h; rfl
theorem dd_le_t (h : r ≠ some .gt) : ifCond.holds .le (cmpValue r .l) = true := by rcases r with _ | (_ | _ | _) <;> first | rfl | exact absurd rfl h
theorem dd_le_f (h : r = some .gt) : ifCond.holds .le (cmpValue r .l) = false := by subst h; rfl
theorem dd_gt_f (h : r = some .lt ∨ r = some .eq) : ifCond.holds .gt (cmpValue r .g) = false := by rcases h with h | h <;> (subst h; rfl)
theorem dd_lt_f (h : r = some .gt ∨ r = some .eq) : ifCond.holds .lt (cmpValue r .l) = false := by rcases h with h | h <;> (subst h; rfl)
theorem dd_lt_t (h : r = some .lt) : ifCond.holds .lt (cmpValue r o) = true := by subst h; cases o <;> rfl
end Cmp
end Steps1
/-! ## arrays, by the list of what they hold -/
section Arrays
variable {p : Program} {l : Launch} {e : Env} {R : Room} {s : State} {m : MethodId} {args : Array Value} {below : List Frame} {meth : Method} {c : Code} {T : State} {locs : List Loc} {cells slots : Nat} {P : Outcome → State → Prop} {pc : Nat} {L : Array Slot} {st : List Value} {Z : State} {h h' : Heap} {a b : Addr} {a0 : Array Value} {k : ClassId} {ty : FieldType} {vs : List Value} {v : Value} {sl : Nat} {ws : List Addr}
/-- at a lies an array of components ty, of the class numbered k, that holds vs -/
def AR (Z : State) (h : Heap) (a : Addr) (k : ClassId) (ty : FieldType) (vs : List Value) : Prop := ∃ c : Cell, Arr Z h a c ty ∧ c.cls = k ∧ c.slots = vs.toArray
theorem AR.lt (F : AR Z h a k ty vs) : a < h.size := by obtain ⟨c, A, -⟩ := F; exact A.lt
theorem AR.ext (F : AR Z h a k ty vs) (E : Ext h h') : AR Z h' a k ty vs := by obtain ⟨c, A, r⟩ := F; exact ⟨c, A.ext E, r⟩
theorem AR.other (F : AR Z h b k ty vs) (W : Wr h h' a sl v) (q : b ≠ a) : AR Z h' b k ty vs := by obtain ⟨c, A, r⟩ := F; exact ⟨c, A.other W q, r⟩
theorem AR.keep (F : AR Z h a k ty vs) (K : Keep h h' ws) (q : a ∉ ws) : AR Z h' a k ty vs := by obtain ⟨c, A, r⟩ := F; exact ⟨c, ⟨K.2.1 a c A.1 q, A.2⟩, r⟩
theorem AR.same (F : AR Z h a k ty vs) (W : Wr h h' a sl v) : AR Z h' a k ty (vs.set sl v) := by
  obtain ⟨c, A, r1, r2⟩ := F
  exact ⟨c.setSlot sl v, A.same W, r1, by simp [Cell.setSlot, r2]⟩
theorem ar_len {c : Cell} (r : c.slots = vs.toArray) : c.slots.size = vs.length := by rw [r]; simp
theorem ar_in {c : Cell} (r : c.slots = vs.toArray) {j : Int32} {i : Nat} (hj : ¬ j < 0 ∧ j.toNatClampNeg = i) (hv : vs[i]? = some v) : ¬ (j < 0 ∨ c.slots.size ≤ j.toNatClampNeg) ∧ c.slots[j.toNatClampNeg]? = some v := by
  obtain ⟨h1, rfl⟩ := hj
  have h2 : j.toNatClampNeg < vs.length := (List.getElem?_eq_some_iff.mp hv).1
  refine ⟨?_, by rw [r]; simpa using hv⟩
  rintro (q | q)
  · exact h1 q
  · rw [ar_len r] at q; omega
theorem s_len (X : Stand p l e R s m args below meth c T locs cells slots) (hx : p.tables.exec = Jvm.exec) (hZ : Z.Warmed39 s.vm) (eT : T.heap = h) (F : AR Z h a k ty vs) (hd : decode c.code pc = .ok (.arraylength, 1)) (n : Int32) (hn : vs.length.toInt32 = n) (pc' : Nat) (hp : pc + 1 = pc') (g : Go p e below P (T.setTop (mkF m pc' L (.int n :: st)))) : Go p e below P (T.setTop (mkF m pc L (.ref a :: st))) := by
  obtain ⟨cl, A, r1, r2⟩ := F
  subst hp hn
  rw [← ar_len r2] at g
  exact Go.via (fun _ k => X.arraylength hx (by rw [eT]; exact A.1) (State.isArrayOf_alike hZ.alike A.2.1) (g := mkF m pc L (.ref a :: st)) rfl rfl hd _ k) g
theorem s_iaload (X : Stand p l e R s m args below meth c T locs cells slots) (hx : p.tables.exec = Jvm.exec) (hZ : Z.Warmed39 s.vm) (eT : T.heap = h) (F : AR Z h a k .int vs) (hd : decode c.code pc = .ok (.iaload, 1)) {j : Int32} (i : Nat) (hj : ¬ j < 0 ∧ j.toNatClampNeg = i) (v : Value) (hv : vs[i]? = some v) (pc' : Nat) (hp : pc + 1 = pc') (g : Go p e below P (T.setTop (mkF m pc' L (v :: st)))) : Go p e below P (T.setTop (mkF m pc L (.int j :: .ref a :: st))) := by
  obtain ⟨cl, A, r1, r2⟩ := F
  obtain ⟨q1, q2⟩ := ar_in r2 hj hv
  subst hp
  exact Go.via (fun _ k => X.iaload hx (by rw [eT]; exact A.1) (State.isArrayOf_alike hZ.alike A.2.1) A.2.2 q1 q2 (g := mkF m pc L (.int j :: .ref a :: st)) rfl rfl hd _ k) g
theorem s_laload (X : Stand p l e R s m args below meth c T locs cells slots) (hx : p.tables.exec = Jvm.exec) (hZ : Z.Warmed39 s.vm) (eT : T.heap = h) (F : AR Z h a k .long vs) (hd : decode c.code pc = .ok (.laload, 1)) {j : Int32} (i : Nat) (hj : ¬ j < 0 ∧ j.toNatClampNeg = i) (v : Value) (hv : vs[i]? = some v) (pc' : Nat) (hp : pc + 1 = pc') (g : Go p e below P (T.setTop (mkF m pc' L (v :: st)))) : Go p e below P (T.setTop (mkF m pc L (.int j :: .ref a :: st))) := by
  obtain ⟨cl, A, r1, r2⟩ := F
  obtain ⟨q1, q2⟩ := ar_in r2 hj hv
  subst hp
  exact Go.via (fun _ k => X.laload hx (by rw [eT]; exact A.1) (State.isArrayOf_alike hZ.alike A.2.1) A.2.2 q1 q2 (g := mkF m pc L (.int j :: .ref a :: st)) rfl rfl hd _ k) g
theorem s_daload (X : Stand p l e R s m args below meth c T locs cells slots) (hx : p.tables.exec = Jvm.exec) (hZ : Z.Warmed39 s.vm) (eT : T.heap = h) (F : AR Z h a k .double vs) (hd : decode c.code pc = .ok (.daload, 1)) {j : Int32} (i : Nat) (hj : ¬ j < 0 ∧ j.toNatClampNeg = i) (v : Value) (hv : vs[i]? = some v) (pc' : Nat) (hp : pc + 1 = pc') (g : Go p e below P (T.setTop (mkF m pc' L (v :: st)))) : Go p e below P (T.setTop (mkF m pc L (.int j :: .ref a :: st))) := by
  obtain ⟨cl, A, r1, r2⟩ := F
  obtain ⟨q1, q2⟩ := ar_in r2 hj hv
  subst hp
  exact Go.via (fun _ k => X.daload hx (by rw [eT]; exact A.1) (State.isArrayOf_alike hZ.alike A.2.1) A.2.2 q1 q2 (g := mkF m pc L (.int j :: .ref a :: st)) rfl rfl hd _ k) g
theorem s_aaload (X : Stand p l e R s m args below meth c T locs cells slots) (hx : p.tables.exec = Jvm.exec) (hZ : Z.Warmed39 s.vm) (eT : T.heap = h) (F : AR Z h a k ty vs) (ht : ty.isReference = true) (hd : decode c.code pc = .ok (.aaload, 1)) {j : Int32} (i : Nat) (hj : ¬ j < 0 ∧ j.toNatClampNeg = i) (v : Value) (hv : vs[i]? = some v) (pc' : Nat) (hp : pc + 1 = pc') (g : Go p e below P (T.setTop (mkF m pc' L (v :: st)))) : Go p e below P (T.setTop (mkF m pc L (.int j :: .ref a :: st))) := by
  obtain ⟨cl, A, r1, r2⟩ := F
  obtain ⟨q1, q2⟩ := ar_in r2 hj hv
  subst hp
  exact Go.via (fun _ k => X.aaload hx (by rw [eT]; exact A.1) (State.isArrayOf_alike hZ.alike A.2.1) ht A.2.2 q1 q2 (g := mkF m pc L (.int j :: .ref a :: st)) rfl rfl hd _ k) g
theorem s_iastore (X : Stand p l e R s m args below meth c T locs cells slots) (hx : p.tables.exec = Jvm.exec) (hZ : Z.Warmed39 s.vm) (eT : T.heap = h) (F : AR Z h a k .int vs) (hd : decode c.code pc = .ok (.iastore, 1)) (L : Array Slot) (st : List Value) {j : Int32} (i : Nat) (hj : ¬ j < 0 ∧ j.toNatClampNeg = i) (hi : i < vs.length) (x : Int32) (vs' : List Value) (hvs : vs.set i (.int x) = vs') (pc' : Nat) (hp : pc + 1 = pc') :
    ∃ T' h', Stand p l e R s m args below meth c T' (locs ++ [⟨a, i⟩]) cells slots ∧ T'.heap = h' ∧ Wr h h' a i (.int x) ∧ AR Z h' a k .int vs' ∧ ∀ t, Steps p.tables e below (T'.setTop (mkF m pc' L st)) t → Steps p.tables e below (T.setTop (mkF m pc L (.int x :: .int j :: .ref a :: st))) t := by
  obtain ⟨cl, A, r1, r2⟩ := F
  obtain ⟨q1, -⟩ := ar_in r2 hj (List.getElem?_eq_getElem hi)
  obtain ⟨hj1, rfl⟩ := hj
  subst hp hvs
  obtain ⟨T', h', X', e', W, st'⟩ := stI X hx hZ eT A q1 (g := mkF m pc L (.int x :: .int j :: .ref a :: st)) rfl rfl hd
  exact ⟨T', h', X', e', W, AR.same ⟨cl, A, r1, r2⟩ W, st'⟩
theorem s_lastore (X : Stand p l e R s m args below meth c T locs cells slots) (hx : p.tables.exec = Jvm.exec) (hZ : Z.Warmed39 s.vm) (eT : T.heap = h) (F : AR Z h a k .long vs) (hd : decode c.code pc = .ok (.lastore, 1)) (L : Array Slot) (st : List Value) {j : Int32} (i : Nat) (hj : ¬ j < 0 ∧ j.toNatClampNeg = i) (hi : i < vs.length) (x : Int64) (vs' : List Value) (hvs : vs.set i (.long x) = vs') (pc' : Nat) (hp : pc + 1 = pc') :
    ∃ T' h', Stand p l e R s m args below meth c T' (locs ++ [⟨a, i⟩]) cells slots ∧ T'.heap = h' ∧ Wr h h' a i (.long x) ∧ AR Z h' a k .long vs' ∧ ∀ t, Steps p.tables e below (T'.setTop (mkF m pc' L st)) t → Steps p.tables e below (T.setTop (mkF m pc L (.long x :: .int j :: .ref a :: st))) t := by
  obtain ⟨cl, A, r1, r2⟩ := F
  obtain ⟨q1, -⟩ := ar_in r2 hj (List.getElem?_eq_getElem hi)
  obtain ⟨hj1, rfl⟩ := hj
  subst hp hvs
  obtain ⟨T', h', X', e', W, st'⟩ := stJ X hx hZ eT A q1 (g := mkF m pc L (.long x :: .int j :: .ref a :: st)) rfl rfl hd
  exact ⟨T', h', X', e', W, AR.same ⟨cl, A, r1, r2⟩ W, st'⟩
theorem s_dastore (X : Stand p l e R s m args below meth c T locs cells slots) (hx : p.tables.exec = Jvm.exec) (hZ : Z.Warmed39 s.vm) (eT : T.heap = h) (F : AR Z h a k .double vs) (hd : decode c.code pc = .ok (.dastore, 1)) (L : Array Slot) (st : List Value) {j : Int32} (i : Nat) (hj : ¬ j < 0 ∧ j.toNatClampNeg = i) (hi : i < vs.length) (x : UInt64) (vs' : List Value) (hvs : vs.set i (.double x) = vs') (pc' : Nat) (hp : pc + 1 = pc') :
    ∃ T' h', Stand p l e R s m args below meth c T' (locs ++ [⟨a, i⟩]) cells slots ∧ T'.heap = h' ∧ Wr h h' a i (.double x) ∧ AR Z h' a k .double vs' ∧ ∀ t, Steps p.tables e below (T'.setTop (mkF m pc' L st)) t → Steps p.tables e below (T.setTop (mkF m pc L (.double x :: .int j :: .ref a :: st))) t := by
  obtain ⟨cl, A, r1, r2⟩ := F
  obtain ⟨q1, -⟩ := ar_in r2 hj (List.getElem?_eq_getElem hi)
  obtain ⟨hj1, rfl⟩ := hj
  subst hp hvs
  obtain ⟨T', h', X', e', W, st'⟩ := stD X hx hZ eT A q1 (g := mkF m pc L (.double x :: .int j :: .ref a :: st)) rfl rfl hd
  exact ⟨T', h', X', e', W, AR.same ⟨cl, A, r1, r2⟩ W, st'⟩
theorem s_aastore (X : Stand p l e R s m args below meth c T locs cells slots) (hx : p.tables.exec = Jvm.exec) (hZ : Z.Warmed39 s.vm) (eT : T.heap = h) (F : AR Z h a k ty vs) (ht : ty.isReference = true) (hd : decode c.code pc = .ok (.aastore, 1)) (L : Array Slot) (st : List Value) {j : Int32} (i : Nat) (hj : ¬ j < 0 ∧ j.toNatClampNeg = i) (hi : i < vs.length) (x : Value) (S : Sto Z h a x) (vs' : List Value) (hvs : vs.set i x = vs') (pc' : Nat) (hp : pc + 1 = pc') :
    ∃ T' h', Stand p l e R s m args below meth c T' (locs ++ [⟨a, i⟩]) cells slots ∧ T'.heap = h' ∧ Wr h h' a i x ∧ AR Z h' a k ty vs' ∧ ∀ t, Steps p.tables e below (T'.setTop (mkF m pc' L st)) t → Steps p.tables e below (T.setTop (mkF m pc L (x :: .int j :: .ref a :: st))) t := by
  obtain ⟨cl, A, r1, r2⟩ := F
  obtain ⟨q1, -⟩ := ar_in r2 hj (List.getElem?_eq_getElem hi)
  obtain ⟨hj1, rfl⟩ := hj
  subst hp hvs
  obtain ⟨T', h', X', e', W, st'⟩ := stR X hx hZ eT A q1 ht S (g := mkF m pc L (x :: .int j :: .ref a :: st)) rfl rfl hd
  exact ⟨T', h', X', e', W, AR.same ⟨cl, A, r1, r2⟩ W, st'⟩
theorem s_newarray (X : Stand p l e R s m args below meth c T locs cells slots) (hx : p.tables.exec = Jvm.exec) (hZ : Z.Warmed39 s.vm) {aty : ArrayType} (w : (Cond.arrayClass (newarray.typeOf aty)).before a0 Z = true) (eT : T.heap = h) (hd : decode c.code pc = .ok (.newarray aty, 2)) (L : Array Slot) (st : List Value) {n : Int32} (cap : Nat) (hn : ¬ n < 0 ∧ n.toNatClampNeg = cap) (vs : List Value) (hvs : List.replicate cap (defaultValue (newarray.typeOf aty)) = vs) (hb : cap * 8 ≤ 536870912) (hc : cells + 1 ≤ R.cells) (hl : slots + cap ≤ R.slots) (pc' : Nat) (hp : pc + 2 = pc') :
    ∃ T' h' cA, Stand p l e R s m args below meth c T' locs (cells + 1) (slots + cap) ∧ T'.heap = h' ∧ Ext h h' ∧ AR Z h' h.size cA (newarray.typeOf aty) vs ∧ ∀ t, Steps p.tables e below (T'.setTop (mkF m pc' L (.ref h.size :: st))) t → Steps p.tables e below (T.setTop (mkF m pc L (.int n :: st))) t := by
  obtain ⟨n1, n2⟩ := hn
  obtain ⟨T', h', cA, X', e', E, A, st'⟩ := newP X hx hZ w eT (g := mkF m pc L (.int n :: st)) rfl hd rfl n1 (cap := cap) (Nat.le_of_eq n2) hb hc hl
  subst hp hvs
  exact ⟨T', h', cA, X', e', E, ⟨_, A, rfl, by simp [newA, n2]⟩, st'⟩
end Arrays
/-! ## calls by contract -/
section Calls
variable {p : Program} {l : Launch} {e : Env} {R : Room} {s : State} {m : MethodId} {args : Array Value} {below : List Frame} {meth : Method} {c : Code} {T : State} {locs : List Loc} {cells slots : Nat} {P : Outcome → State → Prop} {pc : Nat} {L : Array Slot} {st : List Value} {Z : State} {h h' : Heap} {a0 : Array Value} {own : String} {index : Nat} {y : MethodName} {bytes : ByteArray} {ml : Nat} {rm : Room} {as : Array Value} {Q : Option Value → Heap → List Loc → Prop}
theorem ct_back {ret : Option FieldType} {len W : Nat} (C : Ct l Z y bytes ml ret [] rm as h Q) (hZ : Z.Warmed39 s.vm) (wc : (Cond.code y bytes ml ret).before a0 Z = true) (wz : (Cond.initialized y.cls).before a0 Z = true) (hf : rm.frames + 1 ≤ R.frames) (hl : W + (ml + 11) + rm.locals ≤ R.locals) :
    Back l R p e below s args y len W (fun A a => a = as ∧ A.U.heap = h ∧ A.cells + rm.cells ≤ R.cells ∧ A.slots + rm.slots ≤ R.slots)
      (fun A _ v B => ∃ L, Q v B.U.heap L ∧ B.locs = A.locs ++ L ∧ B.cells = A.cells + rm.cells ∧ B.slots = A.slots + rm.slots) := backOf C hZ wc wz hf hl
theorem callStat {ret : Option FieldType} (X : Stand p l e R s m args below meth c T locs cells slots) (hx : p.tables.exec = Jvm.exec) (hZ : Z.Warmed39 s.vm) (hown : s.vm.findClass own = some m.cls) (w1 : (Cond.methodLink own index y).before a0 Z = true) (w2 : (Cond.static y).before a0 Z = true) (w3 : (Cond.initialized y.cls).before a0 Z = true) (w4 : (Cond.code y bytes ml ret).before a0 Z = true) (hy : y.cls ≠ "java/lang/invoke/MethodHandle" ∧ y.cls ≠ "java/lang/invoke/VarHandle") (C : Ct l Z y bytes ml ret [] rm as h Q) (eT : T.heap = h) (hd : decode c.code pc = .ok (.invokestatic index, 3)) (hml : L.size = c.maxLocals) (argsL rest : List Value) (hst : st = argsL.reverse ++ rest) (has : argsL.toArray = as) {ps : List FieldType} {r : Option FieldType} (hpd : parseMethodDescriptor y.desc = some ⟨ps, r⟩) (hln : argsL.length = ps.length) (W : Nat) (hW : 2 * 0 + (rest.map fun v => v.category).sum ≤ W) (hfr : rm.frames + 1 ≤ R.frames) (hlo : W + (ml + 11) + rm.locals ≤ R.locals) (hc : cells + rm.cells ≤ R.cells) (hs : slots + rm.slots ≤ R.slots) :
    ∃ v T' L', Stand p l e R s m args below meth c T' (locs ++ L') (cells + rm.cells) (slots + rm.slots) ∧ Q v T'.heap L' ∧ ∀ t, Steps p.tables e below (T'.setTop (mkF m (pc + 3) L (v.toList ++ rest))) t → Steps p.tables e below (T.setTop (mkF m pc L st)) t := by
  obtain ⟨v, _, ⟨T', L1, k1, n1⟩, -, X', ⟨L', hQ, l1, y1, z1⟩, st'⟩ := Jvm.LawKit.callS X hx (y := y) hown (mvT hZ w1) (mvT hZ w2) (mvT hZ w3) (mvT hZ w4) hy (ct_back (W := W) C hZ w4 w3 hfr hlo) (g := mkF m pc L st) rfl hml (argsL := argsL) (rest := rest) (lenOf hpd hln) hst hW hd (fun _ _ => ⟨has, eT, hc, hs⟩)
  dsimp only [Pt.U, Pt.locs, Pt.cells, Pt.slots] at X' l1 y1 z1 st' hQ
  subst l1 y1 z1
  exact ⟨v, T', L', X', hQ, st'⟩
theorem callInit (X : Stand p l e R s m args below meth c T locs cells slots) (hx : p.tables.exec = Jvm.exec) (hZ : Z.Warmed39 s.vm) (hown : s.vm.findClass own = some m.cls) (hin : y.name = "<init>") (w1 : (Cond.methodLink own index y).before a0 Z = true) (w2 : (Cond.instanceMethod y).before a0 Z = true) (w3 : (Cond.initialized y.cls).before a0 Z = true) (w4 : (Cond.code y bytes ml none).before a0 Z = true) (hy : y.cls ≠ "java/lang/invoke/MethodHandle" ∧ y.cls ≠ "java/lang/invoke/VarHandle") (C : Ct l Z y bytes ml none [] rm as h Q) (eT : T.heap = h) (hd : decode c.code pc = .ok (.invokespecial index, 3)) (hml : L.size = c.maxLocals) (a : Addr) (argsL rest : List Value) (hst : st = argsL.reverse ++ .ref a :: rest) (has : (.ref a :: argsL).toArray = as) {ps : List FieldType} {r : Option FieldType} (hpd : parseMethodDescriptor y.desc = some ⟨ps, r⟩) (hln : argsL.length = ps.length) (W : Nat) (hW : 2 * 0 + (rest.map fun v => v.category).sum ≤ W) (hfr : rm.frames + 1 ≤ R.frames) (hlo : W + (ml + 11) + rm.locals ≤ R.locals) (hc : cells + rm.cells ≤ R.cells) (hs : slots + rm.slots ≤ R.slots) :
    ∃ v T' L', Stand p l e R s m args below meth c T' (locs ++ L') (cells + rm.cells) (slots + rm.slots) ∧ Q v T'.heap L' ∧ ∀ t, Steps p.tables e below (T'.setTop (mkF m (pc + 3) L (v.toList ++ rest))) t → Steps p.tables e below (T.setTop (mkF m pc L st)) t := by
  obtain ⟨v, _, ⟨T', L1, k1, n1⟩, -, X', ⟨L', hQ, l1, y1, z1⟩, st'⟩ := X.specialBack hx (y := y) hin hown (mvT hZ w1) (mvT hZ w2) (mvT hZ w4) hy (ct_back (W := W) C hZ w4 w3 hfr hlo) (g := mkF m pc L st) rfl hml (Steps.refl _) (a := a) (argsL := argsL) (rest := rest) (lenOf hpd hln) hst hW hd (fun _ _ => ⟨has, eT, hc, hs⟩)
  dsimp only [Pt.U, Pt.locs, Pt.cells, Pt.slots] at X' l1 y1 z1 st' hQ
  subst l1 y1 z1
  exact ⟨v, T', L', X', hQ, fun t k => st'.trans k⟩
theorem callVirt {ret : Option FieldType} {C0 : String} (X : Stand p l e R s m args below meth c T locs cells slots) (hx : p.tables.exec = Jvm.exec) (hZ : Z.Warmed39 s.vm) (hown : s.vm.findClass own = some m.cls) (w1 : (Cond.methodLink own index y).before a0 Z = true) (w2 : (Cond.declares y).before a0 Z = true) (w3 : (Cond.selects C0 y y).before a0 Z = true) (w4 : (Cond.instanceMethod y).before a0 Z = true) (w5 : (Cond.initialized y.cls).before a0 Z = true) (w6 : (Cond.code y bytes ml ret).before a0 Z = true) (hy : y.cls ≠ "java/lang/invoke/MethodHandle" ∧ y.cls ≠ "java/lang/invoke/VarHandle") (C : Ct l Z y bytes ml ret [] rm as h Q) (eT : T.heap = h) (a : Addr) (E : Exa Z h a C0) (hd : decode c.code pc = .ok (.invokevirtual index, 3)) (hml : L.size = c.maxLocals) (argsL rest : List Value) (hst : st = argsL.reverse ++ .ref a :: rest) (has : (.ref a :: argsL).toArray = as) {ps : List FieldType} {r : Option FieldType} (hpd : parseMethodDescriptor y.desc = some ⟨ps, r⟩) (hln : argsL.length = ps.length) (W : Nat) (hW : 2 * 0 + (rest.map fun v => v.category).sum ≤ W) (hfr : rm.frames + 1 ≤ R.frames) (hlo : W + (ml + 11) + rm.locals ≤ R.locals) (hc : cells + rm.cells ≤ R.cells) (hs : slots + rm.slots ≤ R.slots) :
    ∃ v T' L', Stand p l e R s m args below meth c T' (locs ++ L') (cells + rm.cells) (slots + rm.slots) ∧ Q v T'.heap L' ∧ ∀ t, Steps p.tables e below (T'.setTop (mkF m (pc + 3) L (v.toList ++ rest))) t → Steps p.tables e below (T.setTop (mkF m pc L st)) t := by
  obtain ⟨cq, kq, qa, qb, qc⟩ := isOf hZ eT E
  obtain ⟨v, _, ⟨T', L1, k1, n1⟩, -, X', ⟨L', hQ, l1, y1, z1⟩, st'⟩ := X.virtualBack hx (y := y) (z := y) hown (mvT hZ w1) (mvT hZ w2) (notFace_of_selects (args := #[]) (mvT hZ w3)) (mvT hZ w3) (mvT hZ w4) hy (ct_back (W := W) C hZ w6 w5 hfr hlo) qa qc (g := mkF m pc L st) rfl hml (Steps.refl _) (argsL := argsL) (rest := rest) (lenOf hpd hln) hst hW hd (fun _ _ => ⟨has, eT, hc, hs⟩)
  dsimp only [Pt.U, Pt.locs, Pt.cells, Pt.slots] at X' l1 y1 z1 st' hQ
  subst l1 y1 z1
  exact ⟨v, T', L', X', hQ, fun t k => st'.trans k⟩
end Calls
end Jvm.OwnGo
namespace Jvm.OwnFP
open Jvm.FP Jvm.FP.Core Jvm.Free.Fl
/-- a * 2^x = b -/
def PE (a b : Nat) (x : Int) : Prop := a * 2 ^ x.toNat = b * 2 ^ (-x).toNat
theorem pe_iff {a b : Nat} {x : Int} (y z : Nat) (h : x = (y : Int) - z) : PE a b x ↔ a * 2 ^ y = b * 2 ^ z := by
  unfold PE
  obtain ⟨d, rfl, rfl⟩ : ∃ d, y = x.toNat + d ∧ z = (-x).toNat + d := ⟨min y z, by omega, by omega⟩
  have p1 : 0 < 2 ^ d := Nat.two_pow_pos _
  rw [Nat.pow_add, Nat.pow_add, ← Nat.mul_assoc, ← Nat.mul_assoc]
  exact ⟨fun q => by rw [q], fun q => Nat.eq_of_mul_eq_mul_right p1 q⟩
theorem PE.symm {a b : Nat} {x : Int} (h : PE a b x) : PE b a (-x) := by
  unfold PE at h ⊢; rw [Int.neg_neg]; exact h.symm
theorem PE.trans {a b c : Nat} {x y : Int} (h : PE a b x) (g : PE b c y) : PE a c (x + y) := by
  rw [pe_iff (x.toNat + y.toNat) ((-x).toNat + (-y).toNat) (by omega)]
  unfold PE at h g
  rw [Nat.pow_add, Nat.pow_add, ← Nat.mul_assoc, h, Nat.mul_right_comm, g, Nat.mul_assoc, Nat.mul_comm (2 ^ (-y).toNat)]
theorem PE.mul {a b : Nat} {x : Int} (h : PE a b x) (c : Nat) : PE (c * a) (c * b) x := by
  unfold PE at h ⊢; rw [Nat.mul_assoc, Nat.mul_assoc, h]
theorem PE.of {a b : Nat} {y z : Nat} (h : a * 2 ^ y = b * 2 ^ z) : PE a b ((y : Int) - z) := (pe_iff y z rfl).mpr h
theorem PE.cast {a b : Nat} {x y : Int} (h : PE a b x) (e : x = y) : PE a b y := e ▸ h
/-- the datum times 2^k -/
def sh (k : Int) : Datum → Datum
  | .fin s c q => .fin s c (q + k)
  | d => d
/-- the double a is i / 2^k, just so -/
def Dy (i : Int) (k : Nat) (a : UInt64) : Prop := Whole i (sh k (val64 a))
theorem Dy.fin {i : Int} {k : Nat} {a : UInt64} (h : Dy i k a) : ∃ s c q, val64 a = .fin s c q := by
  unfold Dy at h
  cases hv : val64 a with
  | nan => rw [hv] at h; exact h.elim
  | inf s => rw [hv] at h; exact h.elim
  | fin s c q => exact ⟨s, c, q, rfl⟩
theorem Dy.dfin {i : Int} {k : Nat} {a : UInt64} (h : Dy i k a) : DFin a := h.fin
theorem Dy.fin64 {i : Int} {k : Nat} {a : UInt64} (h : Dy i k a) : Fin64 a := fin64_core.mpr h.fin
theorem Dy.nn {i : Int} {k : Nat} {a : UInt64} (h : Dy i k a) : NoNaN64 a := h.fin64.noNaN
theorem Dy.ne {i : Int} {k : Nat} {a : UInt64} (h : Dy i k a) : val64 a ≠ .nan := h.dfin.ne_nan
theorem dy_int {i : Int} {a : UInt64} (h : DInt i a) : Dy i 0 a := by
  unfold DInt at h; unfold Dy
  cases hv : val64 a with
  | nan => rw [hv] at h; exact h.elim
  | inf s => rw [hv] at h; exact h.elim
  | fin s c q => rw [hv] at h; show Whole i (.fin s c (q + 0)); rw [Int.add_zero]; exact h
theorem Dy.int {i : Int} {a : UInt64} (h : Dy i 0 a) : DInt i a := by
  obtain ⟨s, c, q, hv⟩ := h.fin
  unfold Dy at h; unfold DInt
  rw [hv] at h ⊢
  have h : Whole i (.fin s c (q + 0)) := h
  rw [Int.add_zero] at h; exact h
theorem dy_i2d (x : Int32) : Dy x.toInt 0 (FP.i2d x) := dy_int (i2d_int x)
theorem dy_l2d {x : Int64} (h : x.toInt.natAbs ≤ 2 ^ 53) : Dy x.toInt 0 (FP.l2d x) := dy_int (l2d_int h)
theorem whole_pe {i : Int} {s : Bool} {c : Nat} {q : Int} (h : Whole i (.fin s c q)) : PE c i.natAbs q := whole_natAbs h
/-- what is so small a multiple of a power of two is a double -/
theorem dy_rnd {i : Int} {k : Nat} {s : Bool} {n : Nat} (hn : i.natAbs = n) (hs : i ≠ 0 → s = decide (i < 0)) (hi : n ≤ 2 ^ 53) (hk : k ≤ 1000) : Whole i (sh k (roundRatio b64 s n 1 (-(k : Int)))) := by
  by_cases h0 : n = 0
  · have : i = 0 := by omega
    subst this
    unfold roundRatio
    rw [if_pos h0]
    show signed s (0 * _) = 0 * _
    rw [Nat.zero_mul, Int.zero_mul]; exact signed_zero s
  · obtain ⟨c, q, hfit, hv⟩ := natFit good_b64 wide_b64 s (n := n) hi
    have hq : q = -1074 ∨ b64.tails ≤ c := by have := hfit.2.2.2; rw [qmin_b64] at this; exact this
    have hv' : n * 2 ^ (-q).toNat = c * 2 ^ q.toNat := by
      rw [show (0 - q).toNat = (-q).toNat by omega, show (q - 0).toNat = q.toNat by omega, Nat.mul_one] at hv; exact hv
    have hc : c < 2 ^ 53 := hfit.1
    have hq2 : q ≤ b64.qmax := hfit.2.2.1
    have hq1 : -53 ≤ q := by
      refine Int.le_of_not_gt fun hlt => ?_
      have e1 : q.toNat = 0 := by omega
      rw [e1, Nat.pow_zero, Nat.mul_one] at hv'
      have : 2 ^ 53 ≤ 2 ^ (-q).toNat := Nat.pow_le_pow_right (by decide) (by omega)
      have h2 : 1 * 2 ^ 53 ≤ n * 2 ^ (-q).toNat := Nat.mul_le_mul (by omega) this
      omega
    have hfit2 : Core.fits b64 (.fin s c (q - k)) := by
      refine ⟨hfit.1, ?_, by omega, Or.inr ?_⟩
      · rw [qmin_b64]; omega
      · rcases hq with hq | hq
        · omega
        · exact hq
    rw [roundRatio_exact good_b64 (by decide) hfit2 (by
      rw [show (-(k : Int) - (q - k)).toNat = (-q).toNat by omega, show (q - (k : Int) - -(k : Int)).toNat = q.toNat by omega, Nat.mul_one]; exact hv')]
    show Whole i (.fin s c (q - k + k))
    rw [show q - (k : Int) + k = q by omega]
    show signed s (c * 2 ^ q.toNat) = i * _
    rw [← hv', signed_mul, hs (by omega)]
    congr 1
    unfold signed
    by_cases h : i < 0 <;> simp [h] <;> omega
theorem dy_round {i : Int} {k : Nat} {s : Bool} {c : Nat} {q : Int} (h : Whole i (.fin s c (q + k))) (hi : i.natAbs ≤ 2 ^ 53) (hk : k ≤ 1000) : Whole i (sh k (round b64 (.fin s c q))) := by
  have e : round b64 (.fin s c q) = roundRatio b64 s i.natAbs 1 (-(k : Int)) := by
    refine roundRatio_congr (by decide) (by decide) ?_
    have := whole_natAbs h
    rw [show (q - -(k : Int)).toNat = (q + k).toNat by omega, show (-(k : Int) - q).toNat = (-(q + k)).toNat by omega]
    simpa using this
  rw [e]
  exact dy_rnd rfl (fun hz => whole_sign h hz) hi hk
theorem sh_sum (k : Int) (s : Bool) (c : Nat) (q : Int) (t : Bool) (d : Nat) (r : Int) : sh k (exactSum (.fin s c q) (.fin t d r)) = exactSum (.fin s c (q + k)) (.fin t d (r + k)) := by
  have e : min (q + k) (r + k) = min q r + k := by omega
  simp only [exactSum, sh, e, sumUnits, inUnits]
  rw [show q + k - (min q r + k) = q - min q r by omega, show r + k - (min q r + k) = r - min q r by omega]
theorem dy_add {i j : Int} {k : Nat} {a b : UInt64} (ha : Dy i k a) (hb : Dy j k b) (h : (i + j).natAbs ≤ 2 ^ 53) (hk : k ≤ 1000) : Dy (i + j) k (FP.dadd a b) := by
  obtain ⟨s, c, q, ea⟩ := ha.fin
  obtain ⟨t, d, r, eb⟩ := hb.fin
  unfold Dy at ha hb ⊢
  rw [ea] at ha; rw [eb] at hb
  have w : Whole (i + j) (sh k (exactSum (.fin s c q) (.fin t d r))) := by rw [sh_sum]; exact whole_sum ha hb
  rw [show FP.dadd a b = Core.dadd a b from rfl, val64_dadd, ea, eb]
  exact dy_round w h hk
theorem dy_neg {i : Int} {k : Nat} {a : UInt64} (ha : Dy i k a) : Dy (-i) k (FP.dneg a) := by
  obtain ⟨s, c, q, ea⟩ := ha.fin
  unfold Dy at ha ⊢
  rw [ea] at ha
  rw [FP.val64_dneg, ea]
  exact whole_negate ha
theorem dy_sub {i j : Int} {k : Nat} {a b : UInt64} (ha : Dy i k a) (hb : Dy j k b) (h : (i - j).natAbs ≤ 2 ^ 53) (hk : k ≤ 1000) : Dy (i - j) k (FP.dsub a b) := by
  obtain ⟨s, c, q, ea⟩ := ha.fin
  obtain ⟨t, d, r, eb⟩ := hb.fin
  unfold Dy at ha hb ⊢
  rw [ea] at ha; rw [eb] at hb
  have hb' : Whole (-j) (.fin (!t) d (r + k)) := whole_negate hb
  have w : Whole (i - j) (sh k (exactSum (.fin s c q) (.fin (!t) d r))) := by rw [sh_sum]; exact whole_sum ha hb'
  rw [show FP.dsub a b = Core.dsub a b from rfl, val64_dsub, ea, eb]
  exact dy_round w h hk
theorem dy_mul {i j : Int} {k n : Nat} {a b : UInt64} (ha : Dy i k a) (hb : Dy j n b) (h : (i * j).natAbs ≤ 2 ^ 53) (hk : k + n ≤ 1000) : Dy (i * j) (k + n) (FP.dmul a b) := by
  obtain ⟨s, c, q, ea⟩ := ha.fin
  obtain ⟨t, d, r, eb⟩ := hb.fin
  unfold Dy at ha hb ⊢
  rw [ea] at ha; rw [eb] at hb
  have w : Whole (i * j) (.fin (s != t) (c * d) (q + r + (k + n : Nat))) := by
    have := whole_product ha hb
    rw [show q + r + ((k + n : Nat) : Int) = q + k + (r + n) by omega]; exact this
  rw [show FP.dmul a b = Core.dmul a b from rfl, val64_dmul, ea, eb]
  exact dy_round w h hk
theorem dy_up {i : Int} {k : Nat} {a : UInt64} (n : Nat) (ha : Dy i k a) : Dy (i * (2 ^ n : Nat)) (k + n) a := by
  obtain ⟨s, c, q, ea⟩ := ha.fin
  unfold Dy at ha ⊢
  rw [ea] at ha ⊢
  have ha : signed s (c * 2 ^ (q + k).toNat) = i * ((2 ^ (-(q + k)).toNat : Nat) : Int) := ha
  show signed s (c * 2 ^ (q + (k + n : Nat)).toNat) = i * (2 ^ n : Nat) * ((2 ^ (-(q + (k + n : Nat))).toNat : Nat) : Int)
  have p2 : ((2 ^ (-(q + (k : Int))).toNat : Nat) : Int) ≠ 0 := by have := Nat.two_pow_pos (-(q + (k : Int))).toNat; omega
  have e1 : (q + ((k + n : Nat) : Int)).toNat + (-(q + (k : Int))).toNat = (q + (k : Int)).toNat + (n + (-(q + ((k + n : Nat) : Int))).toNat) := by omega
  rw [signed_mul] at ha ⊢
  refine Int.eq_of_mul_eq_mul_right p2 ?_
  rw [Int.mul_assoc, ← Int.natCast_mul, ← Nat.pow_add, e1, Nat.pow_add, Int.natCast_mul, ← Int.mul_assoc, ha, Nat.pow_add, Int.natCast_mul]
  ac_rfl
theorem dy_cmp {i j : Int} {k : Nat} {a b : UInt64} (ha : Dy i k a) (hb : Dy j k b) : FP.dcmp a b = some (compare i j) := by
  obtain ⟨s, c, q, ea⟩ := ha.fin
  obtain ⟨t, d, r, eb⟩ := hb.fin
  unfold Dy at ha hb
  rw [ea] at ha; rw [eb] at hb
  have w := order_whole ha hb
  show order (val64 a) (val64 b) = _
  rw [ea, eb, ← w]
  have e : min (q + k) (r + k) = min q r + k := by omega
  simp only [order, sh, e, inUnits]
  rw [show q + k - (min q r + k) = q - min q r by omega, show r + k - (min q r + k) = r - min q r by omega]
theorem dy_div {i j t : Int} {k n r : Nat} {a b : UInt64} (ha : Dy i k a) (hb : Dy j n b) (hj : j ≠ 0) (h : i * (2 ^ (n + r) : Nat) = t * j * (2 ^ k : Nat)) (ht : t.natAbs ≤ 2 ^ 53) (hr : r ≤ 1000) : Dy t r (FP.ddiv a b) := by
  obtain ⟨s, c, q, ea⟩ := ha.fin
  obtain ⟨u, d, z, eb⟩ := hb.fin
  unfold Dy at ha hb ⊢
  rw [ea] at ha; rw [eb] at hb
  have ha : Whole i (.fin s c (q + k)) := ha
  have hb : Whole j (.fin u d (z + n)) := hb
  have hd : d ≠ 0 := fun e => hj ((whole_zero hb).mp e)
  rw [show FP.ddiv a b = Core.ddiv a b from rfl, val64_ddiv, ea, eb]
  show Whole t (sh r (if d = 0 then _ else roundRatio b64 (s != u) c d (q - z)))
  rw [if_neg hd]
  have pn : (0 : Int) < ((2 ^ (n + r) : Nat) : Int) := by have := Nat.two_pow_pos (n + r); omega
  have pk : (0 : Int) < ((2 ^ k : Nat) : Int) := by have := Nat.two_pow_pos k; omega
  have hn : i.natAbs * 2 ^ (n + r) = t.natAbs * j.natAbs * 2 ^ k := by
    have := congrArg Int.natAbs h
    rw [Int.natAbs_mul, Int.natAbs_mul, Int.natAbs_mul, Int.natAbs_natCast, Int.natAbs_natCast] at this
    exact this
  have e : roundRatio b64 (s != u) c d (q - z) = roundRatio b64 (s != u) t.natAbs 1 (-(r : Int)) := by
    refine roundRatio_congr (by omega) (by decide) ?_
    have g := ((whole_pe ha).trans (PE.of hn)).trans ((whole_pe hb).symm.mul t.natAbs)
    have g' : PE c (t.natAbs * d) (q - z + r) := g.cast (by omega)
    unfold PE at g'
    rw [show (q - z - -(r : Int)).toNat = (q - z + r).toNat by omega, show (-(r : Int) - (q - z)).toNat = (-(q - z + r)).toNat by omega, Nat.mul_one]
    exact g'
  rw [e]
  refine dy_rnd rfl (fun hz => ?_) ht hr
  have hi : i ≠ 0 := by
    rintro rfl
    rw [Int.zero_mul] at h
    rcases Int.mul_eq_zero.mp h.symm with q | q
    · rcases Int.mul_eq_zero.mp q with q | q
      · exact hz q
      · exact hj q
    · omega
  rw [whole_sign ha hi, whole_sign hb hj]
  have g1 : i < 0 ↔ t * j < 0 := by
    constructor
    · intro q
      have : t * j * ((2 ^ k : Nat) : Int) < 0 := by rw [← h]; exact Int.mul_neg_of_neg_of_pos q pn
      exact Int.lt_of_not_ge fun q' => by have := Int.mul_nonneg q' (Int.le_of_lt pk); omega
    · intro q
      have : i * ((2 ^ (n + r) : Nat) : Int) < 0 := by rw [h]; exact Int.mul_neg_of_neg_of_pos q pk
      exact Int.lt_of_not_ge fun q' => by have := Int.mul_nonneg q' (Int.le_of_lt pn); omega
  rcases Int.lt_or_lt_of_ne hz with ht0 | ht0 <;> rcases Int.lt_or_lt_of_ne hj with hj0 | hj0
  · have q1 := Int.mul_pos_of_neg_of_neg ht0 hj0
    have q2 : ¬ i < 0 := by rw [g1]; omega
    simp [ht0, hj0, q2]
  · have q1 := Int.mul_neg_of_neg_of_pos ht0 hj0
    have q2 : i < 0 := by rw [g1]; exact q1
    have q3 : ¬ j < 0 := by omega
    simp [ht0, q2, q3]
  · have q1 := Int.mul_neg_of_pos_of_neg ht0 hj0
    have q2 : i < 0 := by rw [g1]; exact q1
    have q3 : ¬ t < 0 := by omega
    simp [hj0, q2, q3]
  · have q1 := Int.mul_pos ht0 hj0
    have q2 : ¬ i < 0 := by rw [g1]; omega
    have q3 : ¬ t < 0 := by omega
    have q4 : ¬ j < 0 := by omega
    simp [q2, q3, q4]
theorem dy_eq {i j : Int} {k : Nat} {a b : UInt64} (ha : Dy i k a) (hb : Dy j k b) (h : i = j) : FP.dcmp a b = some .eq := by
  rw [dy_cmp ha hb, h, compare_self_int]
theorem dy_lt {i j : Int} {k : Nat} {a b : UInt64} (ha : Dy i k a) (hb : Dy j k b) (h : i < j) : FP.dcmp a b = some .lt := by
  rw [dy_cmp ha hb, (compare_lt_iff i j).mpr h]
theorem dy_gt {i j : Int} {k : Nat} {a b : UInt64} (ha : Dy i k a) (hb : Dy j k b) (h : j < i) : FP.dcmp a b = some .gt := by
  rw [dy_cmp ha hb, (compare_gt_iff i j).mpr h]
theorem dy_cast {i j : Int} {k n : Nat} {a : UInt64} (h : Dy i k a) (e : i = j) (e' : k = n) : Dy j n a := by subst e e'; exact h
theorem dy_zero : Dy 0 0 (0 : UInt64) := by
  show Whole 0 (sh 0 (val64 0)); rw [val64_zero]
  show signed false (0 * _) = 0 * _
  rw [Nat.zero_mul, Int.zero_mul]; rfl
end Jvm.OwnFP
namespace Jvm.OwnFP
open Jvm.FP Jvm.FP.Core Jvm.Free.Fl
/-! ## numbers with a bound: an int, a long, a double that is i (over 2^k), i at most N -/
def Ib (N : Nat) (i : Int) (x : Int32) : Prop := x.toInt = i ∧ i.natAbs ≤ N
def Lb (N : Nat) (i : Int) (x : Int64) : Prop := x.toInt = i ∧ i.natAbs ≤ N
def Db (N : Nat) (i : Int) (k : Nat) (a : UInt64) : Prop := Dy i k a ∧ i.natAbs ≤ N
theorem Ib.lit (N : Nat) (i : Int) (x : Int32) (h : x.toInt = i ∧ i.natAbs ≤ N := by decide) : Ib N i x := h
theorem Lb.lit (N : Nat) (i : Int) (x : Int64) (h : x.toInt = i ∧ i.natAbs ≤ N := by decide) : Lb N i x := h
theorem Ib.any (x : Int32) : Ib (2 ^ 31) x.toInt x := ⟨rfl, by have := x.toInt_lt; have := x.le_toInt; omega⟩
theorem Ib.cast {N M : Nat} {i j : Int} {x : Int32} (h : Ib N i x) (e : i = j) (g : j.natAbs ≤ M) : Ib M j x := ⟨h.1.trans e, g⟩
theorem Lb.cast {N M : Nat} {i j : Int} {x : Int64} (h : Lb N i x) (e : i = j) (g : j.natAbs ≤ M) : Lb M j x := ⟨h.1.trans e, g⟩
theorem Db.cast {N M : Nat} {i j : Int} {k : Nat} {a : UInt64} (h : Db N i k a) (e : i = j) (g : j.natAbs ≤ M) : Db M j k a := by subst e; exact ⟨h.1, g⟩
theorem bn_add {a b : Int} {N M : Nat} (h1 : a.natAbs ≤ N) (h2 : b.natAbs ≤ M) : (a + b).natAbs ≤ N + M := by omega
theorem bn_sub {a b : Int} {N M : Nat} (h1 : a.natAbs ≤ N) (h2 : b.natAbs ≤ M) : (a - b).natAbs ≤ N + M := by omega
theorem bn_mul {a b : Int} {N M : Nat} (h1 : a.natAbs ≤ N) (h2 : b.natAbs ≤ M) : (a * b).natAbs ≤ N * M := by rw [Int.natAbs_mul]; exact Nat.mul_le_mul h1 h2
section
variable {N M : Nat} {i j : Int} {k n : Nat}
theorem Ib.add {x y : Int32} (h1 : Ib N i x) (h2 : Ib M j y) (h : N + M < 2147483648) : Ib (N + M) (i + j) (x + y) := by
  obtain ⟨rfl, b1⟩ := h1
  obtain ⟨rfl, b2⟩ := h2
  have b := bn_add b1 b2
  exact ⟨Jvm.Free.XT.add32 ⟨by omega, by omega⟩, b⟩
theorem Ib.sub {x y : Int32} (h1 : Ib N i x) (h2 : Ib M j y) (h : N + M < 2147483648) : Ib (N + M) (i - j) (x - y) := by
  obtain ⟨rfl, b1⟩ := h1
  obtain ⟨rfl, b2⟩ := h2
  have b := bn_sub b1 b2
  exact ⟨Jvm.Free.XT.sub32 ⟨by omega, by omega⟩, b⟩
theorem Ib.mul {x y : Int32} (h1 : Ib N i x) (h2 : Ib M j y) (h : N * M < 2147483648) : Ib (N * M) (i * j) (x * y) := by
  obtain ⟨rfl, b1⟩ := h1
  obtain ⟨rfl, b2⟩ := h2
  have b := bn_mul b1 b2
  exact ⟨Jvm.Free.XT.mul32 ⟨by omega, by omega⟩, b⟩
theorem Lb.add {x y : Int64} (h1 : Lb N i x) (h2 : Lb M j y) (h : N + M < 9223372036854775808) : Lb (N + M) (i + j) (x + y) := by
  obtain ⟨rfl, b1⟩ := h1
  obtain ⟨rfl, b2⟩ := h2
  have b := bn_add b1 b2
  exact ⟨Jvm.Free.XT.add64 ⟨by omega, by omega⟩, b⟩
theorem Lb.sub {x y : Int64} (h1 : Lb N i x) (h2 : Lb M j y) (h : N + M < 9223372036854775808) : Lb (N + M) (i - j) (x - y) := by
  obtain ⟨rfl, b1⟩ := h1
  obtain ⟨rfl, b2⟩ := h2
  have b := bn_sub b1 b2
  exact ⟨Jvm.Free.XT.sub64 ⟨by omega, by omega⟩, b⟩
theorem Lb.mul {x y : Int64} (h1 : Lb N i x) (h2 : Lb M j y) (h : N * M < 9223372036854775808) : Lb (N * M) (i * j) (x * y) := by
  obtain ⟨rfl, b1⟩ := h1
  obtain ⟨rfl, b2⟩ := h2
  have b := bn_mul b1 b2
  exact ⟨Jvm.Free.XT.mul64 ⟨by omega, by omega⟩, b⟩
theorem Lb.neg {x : Int64} (h1 : Lb N i x) (h : N < 9223372036854775808) : Lb N (-i) (-x) := by
  obtain ⟨rfl, h2⟩ := h1
  exact ⟨int64_neg (by omega), by omega⟩
theorem Ib.i2l {x : Int32} (h : Ib N i x) : Lb N i x.toInt64 := ⟨(Int32.toInt_toInt64 x).trans h.1, h.2⟩
theorem Lb.l2i {x : Int64} (h : Lb N i x) (hN : N < 2147483648) : Ib N i x.toInt32 := by
  obtain ⟨rfl, h2⟩ := h
  exact ⟨int64_toInt32 (by omega) (by omega), h2⟩
theorem Ib.i2d {x : Int32} (h : Ib N i x) : Db N i 0 (FP.i2d x) := by obtain ⟨rfl, h2⟩ := h; exact ⟨dy_i2d x, h2⟩
theorem Lb.l2d {x : Int64} (h : Lb N i x) (hN : N ≤ 9007199254740992) : Db N i 0 (FP.l2d x) := by obtain ⟨rfl, h2⟩ := h; exact ⟨dy_l2d (Nat.le_trans h2 hN), h2⟩
theorem Db.nn {a : UInt64} (h : Db N i k a) : NoNaN64 a := h.1.nn
theorem Db.add {a b : UInt64} (h1 : Db N i k a) (h2 : Db M j k b) (h : N + M ≤ 9007199254740992 ∧ k ≤ 1000) : Db (N + M) (i + j) k (FP.dadd a b) :=
  ⟨dy_add h1.1 h2.1 (Nat.le_trans (bn_add h1.2 h2.2) h.1) h.2, bn_add h1.2 h2.2⟩
theorem Db.sub {a b : UInt64} (h1 : Db N i k a) (h2 : Db M j k b) (h : N + M ≤ 9007199254740992 ∧ k ≤ 1000) : Db (N + M) (i - j) k (FP.dsub a b) :=
  ⟨dy_sub h1.1 h2.1 (Nat.le_trans (bn_sub h1.2 h2.2) h.1) h.2, bn_sub h1.2 h2.2⟩
theorem Db.mul {a b : UInt64} (h1 : Db N i k a) (h2 : Db M j n b) (h : N * M ≤ 9007199254740992 ∧ k + n ≤ 1000) : Db (N * M) (i * j) (k + n) (FP.dmul a b) :=
  ⟨dy_mul h1.1 h2.1 (Nat.le_trans (bn_mul h1.2 h2.2) h.1) h.2, bn_mul h1.2 h2.2⟩
theorem Db.neg {a : UInt64} (h1 : Db N i k a) : Db N (-i) k (FP.dneg a) := ⟨dy_neg h1.1, by have := h1.2; omega⟩
theorem Db.eq {a b : UInt64} (h1 : Db N i k a) (h2 : Db M j k b) (e : i = j) : FP.dcmp a b = some .eq := dy_eq h1.1 h2.1 e
theorem Db.up {a : UInt64} (h : Db N i k a) (n : Nat) : Db (N * 2 ^ n) (i * (2 ^ n : Nat)) (k + n) a := ⟨dy_up n h.1, by rw [Int.natAbs_mul, Int.natAbs_natCast]; exact Nat.mul_le_mul_right _ h.2⟩
theorem Db.zero : Db 0 0 0 (0 : UInt64) := ⟨dy_zero, Nat.le_refl _⟩
theorem Db.div2 {a b : UInt64} (e : Nat) (h1 : Db N i k a) (h2 : Db M ((2 ^ e : Nat) : Int) 0 b) (h : N ≤ 9007199254740992 ∧ k + e ≤ 1000) : Db N i (k + e) (FP.ddiv a b) := by
  refine ⟨dy_div h1.1 h2.1 (by have := Nat.two_pow_pos e; omega) ?_ (Nat.le_trans h1.2 h.1) h.2, h1.2⟩
  rw [Nat.zero_add, Nat.pow_add, Int.natCast_mul, Int.mul_assoc, Int.mul_comm ((2 ^ k : Nat) : Int)]
theorem Db.lit {a : UInt64} (s : Bool) (c : Nat) (q : Int) (N : Nat) (i : Int) (k : Nat) (e : val64 a = .fin s c q) (w : signed s (c * 2 ^ (q + k).toNat) = i * ((2 ^ (-(q + (k : Int))).toNat : Nat) : Int) ∧ i.natAbs ≤ N) : Db N i k a := by
  refine ⟨?_, w.2⟩
  unfold Dy; rw [e]; exact w.1
theorem Ib.re {x : Int32} (h : Ib N i x) : Ib N x.toInt x := ⟨rfl, by rw [h.1]; exact h.2⟩
theorem Lb.re {x : Int64} (h : Lb N i x) : Lb N x.toInt x := ⟨rfl, by rw [h.1]; exact h.2⟩
theorem Db.weak {M : Nat} {a : UInt64} (h : Db N i k a) (q : N ≤ M) : Db M i k a := ⟨h.1, Nat.le_trans h.2 q⟩
theorem Lb.weak {M : Nat} {a : Int64} (h : Lb N i a) (q : N ≤ M) : Lb M i a := ⟨h.1, Nat.le_trans h.2 q⟩
theorem Ib.weak {M : Nat} {a : Int32} (h : Ib N i a) (q : N ≤ M) : Ib M i a := ⟨h.1, Nat.le_trans h.2 q⟩
end
end Jvm.OwnFP
namespace Jvm.Pilot.@@N@@
open Jvm Jvm.ClassFile Sem Op Lib Jvm.Free Jvm.Stand Jvm.LawKit Jvm.RoadKit Bundle Jvm.Pilot.@@N@@.Jvm.D Jvm.OwnGo
theorem wd {a0 : Array Value} {Z : State} (hw : ∀ d ∈ tables_1, d.before a0 Z = true) (k : Nat) (d : Jvm.Cond) (hd : tables_1[k]? = some d) : d.before a0 Z = true := hw _ (List.mem_of_getElem? hd)
theorem pn_law : plainFor x = true := plainFor_of_name (by show plainName "com/example/velovector/velovector/graph/SlopesValuesPinLaw" = true; first | (simp [plainName, overriddenIn]; done) | decide +kernel)
open Jvm.OwnFP
theorem d1_0 : decode jdk_30_method_1_code 0 = .ok (.aload_n 0, 1) := by decide +kernel
theorem d1_1 : decode jdk_30_method_1_code 1 = .ok (.invokespecial 1, 3) := by decide +kernel
theorem d1_4 : decode jdk_30_method_1_code 4 = .ok (.return_, 1) := by decide +kernel
theorem pd_1 : parseMethodDescriptor "()V" = some ⟨[], none⟩ := by decide +kernel
theorem pn_1 : plainFor (⟨"java/lang/Record", "<init>", "()V"⟩ : MethodName) = true := plainFor_of_name (by show plainName "java/lang/Record" = true; first | (simp [plainName, overriddenIn]; done) | decide +kernel)
set_option maxRecDepth 65536 in
set_option maxHeartbeats 40000000 in
theorem rm_rec (l : Launch) (Z : State) (a0 : Array Value) (hw : ∀ d ∈ tables_1, d.before a0 Z = true) (ws : List Jvm.Cond) (a1 : Addr) (h0 : Heap) (n0 : Nat) (Z0 : n0 ≤ h0.size)  :
    Ct l Z (⟨"java/lang/Record", "<init>", "()V"⟩ : MethodName) jdk_30_method_1_code 1 none ws ({ frames := 1, cells := 0, slots := 0, locals := 12 } : Room) #[.ref a1] h0 (fun v h L => v = none ∧ Fr n0 L ∧ h = h0) := by
  refine Ct.intro pn_1 #[.val (.ref a1)] (fun _ => by first | (simp [entryFrame, mkF, argsToLocals, Value.category, maxLocals]; done) | rfl) ?_
  intro p e s m below meth c T0 X0 hx hZ hby hml hown hnm hret hlk e0
  have N0 := Fr.nil n0
  refine s_aloadN X0 hx (hb hby d1_0) rfl rfl 1 rfl ?_
  obtain ⟨T1, X1, e1, st1⟩ := initO X0 hx hZ hown (wd hw 11 _ rfl) (wd hw 12 _ rfl) (wd hw 13 _ rfl) e0 (g := (mkF m 1 #[.val (.ref a1)] [.ref a1])) rfl (by rw [hml]; rfl) rfl (hb hby d1_1) (by decide) (W := 0) (by show 2 * 0 + _ ≤ _; exact Nat.le_of_eq rfl) (by decide)
  refine Go.via st1 ?_
  show Go p e below _ (T1.setTop (mkF m 4 #[.val (.ref a1)] []))
  exact retV X1 hx hlk hret (hb hby d1_4) e1 ⟨rfl, N0, rfl⟩ (by decide) (by decide)
theorem d0_0 : decode prog_71_method_1_code 0 = .ok (.aload_n 0, 1) := by decide +kernel
theorem d0_1 : decode prog_71_method_1_code 1 = .ok (.invokespecial 1, 3) := by decide +kernel
theorem d0_4 : decode prog_71_method_1_code 4 = .ok (.aload_n 0, 1) := by decide +kernel
theorem d0_5 : decode prog_71_method_1_code 5 = .ok (.dload_n 1, 1) := by decide +kernel
theorem d0_6 : decode prog_71_method_1_code 6 = .ok (.putfield 7, 3) := by decide +kernel
theorem d0_9 : decode prog_71_method_1_code 9 = .ok (.aload_n 0, 1) := by decide +kernel
theorem d0_10 : decode prog_71_method_1_code 10 = .ok (.dload_n 3, 1) := by decide +kernel
theorem d0_11 : decode prog_71_method_1_code 11 = .ok (.putfield 13, 3) := by decide +kernel
theorem d0_14 : decode prog_71_method_1_code 14 = .ok (.aload_n 0, 1) := by decide +kernel
theorem d0_15 : decode prog_71_method_1_code 15 = .ok (.dload 5, 2) := by decide +kernel
theorem d0_17 : decode prog_71_method_1_code 17 = .ok (.putfield 16, 3) := by decide +kernel
theorem d0_20 : decode prog_71_method_1_code 20 = .ok (.aload_n 0, 1) := by decide +kernel
theorem d0_21 : decode prog_71_method_1_code 21 = .ok (.dload 7, 2) := by decide +kernel
theorem d0_23 : decode prog_71_method_1_code 23 = .ok (.putfield 19, 3) := by decide +kernel
theorem d0_26 : decode prog_71_method_1_code 26 = .ok (.aload_n 0, 1) := by decide +kernel
theorem d0_27 : decode prog_71_method_1_code 27 = .ok (.dload 9, 2) := by decide +kernel
theorem d0_29 : decode prog_71_method_1_code 29 = .ok (.putfield 22, 3) := by decide +kernel
theorem d0_32 : decode prog_71_method_1_code 32 = .ok (.return_, 1) := by decide +kernel
theorem pd_0 : parseMethodDescriptor "(DDDDD)V" = some ⟨[.double, .double, .double, .double, .double], none⟩ := by decide +kernel
theorem pn_0 : plainFor (⟨"com/example/velovector/velovector/graph/Slopes", "<init>", "(DDDDD)V"⟩ : MethodName) = true := plainFor_of_name (by show plainName "com/example/velovector/velovector/graph/Slopes" = true; first | (simp [plainName, overriddenIn]; done) | decide +kernel)
set_option maxRecDepth 65536 in
set_option maxHeartbeats 40000000 in
theorem rm_init (l : Launch) (Z : State) (a0 : Array Value) (hw : ∀ d ∈ tables_1, d.before a0 Z = true) (ws : List Jvm.Cond) (a1 : Addr) (x0 : UInt64) (x1 : UInt64) (x2 : UInt64) (x3 : UInt64) (x4 : UInt64) (h0 : Heap) (n0 : Nat) (Z0 : n0 ≤ h0.size) (E1 : Exa Z h0 a1 "com/example/velovector/velovector/graph/Slopes") (g1 : n0 ≤ a1) (F_0 : Fld Z h0 a1 "com/example/velovector/velovector/graph/Slopes" "climbTimeM" "D" (.double (0 : UInt64))) (F_1 : Fld Z h0 a1 "com/example/velovector/velovector/graph/Slopes" "climbEffortM" "D" (.double (0 : UInt64))) (F_2 : Fld Z h0 a1 "com/example/velovector/velovector/graph/Slopes" "descentGain" "D" (.double (0 : UInt64))) (F_3 : Fld Z h0 a1 "com/example/velovector/velovector/graph/Slopes" "descentFullGrade" "D" (.double (0 : UInt64))) (F_4 : Fld Z h0 a1 "com/example/velovector/velovector/graph/Slopes" "topographyFullDeg" "D" (.double (0 : UInt64)))  :
    Ct l Z (⟨"com/example/velovector/velovector/graph/Slopes", "<init>", "(DDDDD)V"⟩ : MethodName) prog_71_method_1_code 11 none ws ({ frames := 2, cells := 0, slots := 0, locals := 24 } : Room) #[.ref a1, .double x0, .double x1, .double x2, .double x3, .double x4] h0 (fun w h L => w = none ∧ Fr n0 L ∧ Keep h0 h [a1] ∧ Fld Z h a1 "com/example/velovector/velovector/graph/Slopes" "climbTimeM" "D" (.double x0) ∧ Fld Z h a1 "com/example/velovector/velovector/graph/Slopes" "climbEffortM" "D" (.double x1) ∧ Fld Z h a1 "com/example/velovector/velovector/graph/Slopes" "descentGain" "D" (.double x2) ∧ Fld Z h a1 "com/example/velovector/velovector/graph/Slopes" "descentFullGrade" "D" (.double x3) ∧ Fld Z h a1 "com/example/velovector/velovector/graph/Slopes" "topographyFullDeg" "D" (.double x4)) := by
  refine Ct.intro pn_0 #[.val (.ref a1), .val (.double x0), .second, .val (.double x1), .second, .val (.double x2), .second, .val (.double x3), .second, .val (.double x4), .second] (fun _ => by first | (simp [entryFrame, mkF, argsToLocals, Value.category, maxLocals]; done) | rfl) ?_
  intro p e s m below meth c T0 X0 hx hZ hby hml hown hnm hret hlk e0
  have N0 := Fr.nil n0
  have K0 := Keep.refl h0 [a1]
  refine s_aloadN X0 hx (hb hby d0_0) rfl rfl 1 rfl ?_
  obtain ⟨v2, T2, L2, X2, hQ2, st2⟩ := callInit X0 hx hZ hown rfl (wd hw 6 _ rfl) (wd hw 7 _ rfl) (wd hw 9 _ rfl) (wd hw 10 _ rfl) (by decide) (rm_rec l Z a0 hw [] a1 h0 n0 Z0) e0 (L := #[.val (.ref a1), .val (.double x0), .second, .val (.double x1), .second, .val (.double x2), .second, .val (.double x3), .second, .val (.double x4), .second]) (hb hby d0_1) (by rw [hml]; rfl) a1 [] [] rfl rfl pd_1 rfl 0 (by show 2 * 0 + _ ≤ _; exact Nat.le_of_eq rfl) (by decide) (by decide) (by decide) (by decide)
  obtain ⟨rfl, N2, hh2⟩ := hQ2
  have M2 := Fr.app N0 N2
  refine Go.via st2 ?_
  show Go p e below _ (T2.setTop (mkF m 4 #[.val (.ref a1), .val (.double x0), .second, .val (.double x1), .second, .val (.double x2), .second, .val (.double x3), .second, .val (.double x4), .second] []))
  refine s_aloadN X2 hx (hb hby d0_4) rfl rfl 5 rfl ?_
  refine s_dloadN X2 hx (hb hby d0_5) rfl 6 rfl ?_
  obtain ⟨T3, h3, X3, e3, W3, st3⟩ := putF X2 hx hZ hown (host := "") (Or.inl (wd hw 14 _ rfl)) Via.refl hh2 F_0 E1 (Or.inr ⟨(wd hw 15 _ rfl), rfl, hnm⟩) (wd hw 1 _ rfl) (ty := .double) (by decide) rfl rfl (g := (mkF m 6 #[.val (.ref a1), .val (.double x0), .second, .val (.double x1), .second, .val (.double x2), .second, .val (.double x3), .second, .val (.double x4), .second] [.double x0, .ref a1])) rfl rfl (hb hby d0_6)
  have N3 := Fr.snoc X3 M2 g1
  have F4 := F_0.same W3
  have F5 := E1.wr W3
  have F6 := F_1.other W3 (Or.inr (slot_ne (a0 := a0) (t := .double) (t' := .double) (Or.inr (wd hw 17 _ rfl)) (Or.inr (wd hw 15 _ rfl)) (by decide) (by decide) (by decide)))
  have F7 := F_2.other W3 (Or.inr (slot_ne (a0 := a0) (t := .double) (t' := .double) (Or.inr (wd hw 19 _ rfl)) (Or.inr (wd hw 15 _ rfl)) (by decide) (by decide) (by decide)))
  have F8 := F_3.other W3 (Or.inr (slot_ne (a0 := a0) (t := .double) (t' := .double) (Or.inr (wd hw 21 _ rfl)) (Or.inr (wd hw 15 _ rfl)) (by decide) (by decide) (by decide)))
  have F9 := F_4.other W3 (Or.inr (slot_ne (a0 := a0) (t := .double) (t' := .double) (Or.inr (wd hw 23 _ rfl)) (Or.inr (wd hw 15 _ rfl)) (by decide) (by decide) (by decide)))
  have Z10 : n0 ≤ h3.size := by rw [W3.size]; exact Z0
  have K11 := K0.wr W3 (Or.inl (by simp))
  refine Go.via st3 ?_
  show Go p e below _ (T3.setTop (mkF m 9 #[.val (.ref a1), .val (.double x0), .second, .val (.double x1), .second, .val (.double x2), .second, .val (.double x3), .second, .val (.double x4), .second] []))
  refine s_aloadN X3 hx (hb hby d0_9) rfl rfl 10 rfl ?_
  refine s_dloadN X3 hx (hb hby d0_10) rfl 11 rfl ?_
  obtain ⟨T12, h12, X12, e12, W12, st12⟩ := putF X3 hx hZ hown (host := "") (Or.inl (wd hw 16 _ rfl)) Via.refl e3 F6 F5 (Or.inr ⟨(wd hw 17 _ rfl), rfl, hnm⟩) (wd hw 1 _ rfl) (ty := .double) (by decide) rfl rfl (g := (mkF m 11 #[.val (.ref a1), .val (.double x0), .second, .val (.double x1), .second, .val (.double x2), .second, .val (.double x3), .second, .val (.double x4), .second] [.double x1, .ref a1])) rfl rfl (hb hby d0_11)
  have N12 := Fr.snoc X12 N3 g1
  have F13 := F6.same W12
  have F14 := F5.wr W12
  have F15 := F4.other W12 (Or.inr (slot_ne (a0 := a0) (t := .double) (t' := .double) (Or.inr (wd hw 15 _ rfl)) (Or.inr (wd hw 17 _ rfl)) (by decide) (by decide) (by decide)))
  have F16 := F7.other W12 (Or.inr (slot_ne (a0 := a0) (t := .double) (t' := .double) (Or.inr (wd hw 19 _ rfl)) (Or.inr (wd hw 17 _ rfl)) (by decide) (by decide) (by decide)))
  have F17 := F8.other W12 (Or.inr (slot_ne (a0 := a0) (t := .double) (t' := .double) (Or.inr (wd hw 21 _ rfl)) (Or.inr (wd hw 17 _ rfl)) (by decide) (by decide) (by decide)))
  have F18 := F9.other W12 (Or.inr (slot_ne (a0 := a0) (t := .double) (t' := .double) (Or.inr (wd hw 23 _ rfl)) (Or.inr (wd hw 17 _ rfl)) (by decide) (by decide) (by decide)))
  have Z19 : n0 ≤ h12.size := by rw [W12.size]; exact Z10
  have K20 := K11.wr W12 (Or.inl (by simp))
  refine Go.via st12 ?_
  show Go p e below _ (T12.setTop (mkF m 14 #[.val (.ref a1), .val (.double x0), .second, .val (.double x1), .second, .val (.double x2), .second, .val (.double x3), .second, .val (.double x4), .second] []))
  refine s_aloadN X12 hx (hb hby d0_14) rfl rfl 15 rfl ?_
  refine s_dload X12 hx (hb hby d0_15) rfl 17 rfl ?_
  obtain ⟨T21, h21, X21, e21, W21, st21⟩ := putF X12 hx hZ hown (host := "") (Or.inl (wd hw 18 _ rfl)) Via.refl e12 F16 F14 (Or.inr ⟨(wd hw 19 _ rfl), rfl, hnm⟩) (wd hw 1 _ rfl) (ty := .double) (by decide) rfl rfl (g := (mkF m 17 #[.val (.ref a1), .val (.double x0), .second, .val (.double x1), .second, .val (.double x2), .second, .val (.double x3), .second, .val (.double x4), .second] [.double x2, .ref a1])) rfl rfl (hb hby d0_17)
  have N21 := Fr.snoc X21 N12 g1
  have F22 := F16.same W21
  have F23 := F14.wr W21
  have F24 := F15.other W21 (Or.inr (slot_ne (a0 := a0) (t := .double) (t' := .double) (Or.inr (wd hw 15 _ rfl)) (Or.inr (wd hw 19 _ rfl)) (by decide) (by decide) (by decide)))
  have F25 := F13.other W21 (Or.inr (slot_ne (a0 := a0) (t := .double) (t' := .double) (Or.inr (wd hw 17 _ rfl)) (Or.inr (wd hw 19 _ rfl)) (by decide) (by decide) (by decide)))
  have F26 := F17.other W21 (Or.inr (slot_ne (a0 := a0) (t := .double) (t' := .double) (Or.inr (wd hw 21 _ rfl)) (Or.inr (wd hw 19 _ rfl)) (by decide) (by decide) (by decide)))
  have F27 := F18.other W21 (Or.inr (slot_ne (a0 := a0) (t := .double) (t' := .double) (Or.inr (wd hw 23 _ rfl)) (Or.inr (wd hw 19 _ rfl)) (by decide) (by decide) (by decide)))
  have Z28 : n0 ≤ h21.size := by rw [W21.size]; exact Z19
  have K29 := K20.wr W21 (Or.inl (by simp))
  refine Go.via st21 ?_
  show Go p e below _ (T21.setTop (mkF m 20 #[.val (.ref a1), .val (.double x0), .second, .val (.double x1), .second, .val (.double x2), .second, .val (.double x3), .second, .val (.double x4), .second] []))
  refine s_aloadN X21 hx (hb hby d0_20) rfl rfl 21 rfl ?_
  refine s_dload X21 hx (hb hby d0_21) rfl 23 rfl ?_
  obtain ⟨T30, h30, X30, e30, W30, st30⟩ := putF X21 hx hZ hown (host := "") (Or.inl (wd hw 20 _ rfl)) Via.refl e21 F26 F23 (Or.inr ⟨(wd hw 21 _ rfl), rfl, hnm⟩) (wd hw 1 _ rfl) (ty := .double) (by decide) rfl rfl (g := (mkF m 23 #[.val (.ref a1), .val (.double x0), .second, .val (.double x1), .second, .val (.double x2), .second, .val (.double x3), .second, .val (.double x4), .second] [.double x3, .ref a1])) rfl rfl (hb hby d0_23)
  have N30 := Fr.snoc X30 N21 g1
  have F31 := F26.same W30
  have F32 := F23.wr W30
  have F33 := F24.other W30 (Or.inr (slot_ne (a0 := a0) (t := .double) (t' := .double) (Or.inr (wd hw 15 _ rfl)) (Or.inr (wd hw 21 _ rfl)) (by decide) (by decide) (by decide)))
  have F34 := F25.other W30 (Or.inr (slot_ne (a0 := a0) (t := .double) (t' := .double) (Or.inr (wd hw 17 _ rfl)) (Or.inr (wd hw 21 _ rfl)) (by decide) (by decide) (by decide)))
  have F35 := F22.other W30 (Or.inr (slot_ne (a0 := a0) (t := .double) (t' := .double) (Or.inr (wd hw 19 _ rfl)) (Or.inr (wd hw 21 _ rfl)) (by decide) (by decide) (by decide)))
  have F36 := F27.other W30 (Or.inr (slot_ne (a0 := a0) (t := .double) (t' := .double) (Or.inr (wd hw 23 _ rfl)) (Or.inr (wd hw 21 _ rfl)) (by decide) (by decide) (by decide)))
  have Z37 : n0 ≤ h30.size := by rw [W30.size]; exact Z28
  have K38 := K29.wr W30 (Or.inl (by simp))
  refine Go.via st30 ?_
  show Go p e below _ (T30.setTop (mkF m 26 #[.val (.ref a1), .val (.double x0), .second, .val (.double x1), .second, .val (.double x2), .second, .val (.double x3), .second, .val (.double x4), .second] []))
  refine s_aloadN X30 hx (hb hby d0_26) rfl rfl 27 rfl ?_
  refine s_dload X30 hx (hb hby d0_27) rfl 29 rfl ?_
  obtain ⟨T39, h39, X39, e39, W39, st39⟩ := putF X30 hx hZ hown (host := "") (Or.inl (wd hw 22 _ rfl)) Via.refl e30 F36 F32 (Or.inr ⟨(wd hw 23 _ rfl), rfl, hnm⟩) (wd hw 1 _ rfl) (ty := .double) (by decide) rfl rfl (g := (mkF m 29 #[.val (.ref a1), .val (.double x0), .second, .val (.double x1), .second, .val (.double x2), .second, .val (.double x3), .second, .val (.double x4), .second] [.double x4, .ref a1])) rfl rfl (hb hby d0_29)
  have N39 := Fr.snoc X39 N30 g1
  have F40 := F36.same W39
  have F41 := F32.wr W39
  have F42 := F33.other W39 (Or.inr (slot_ne (a0 := a0) (t := .double) (t' := .double) (Or.inr (wd hw 15 _ rfl)) (Or.inr (wd hw 23 _ rfl)) (by decide) (by decide) (by decide)))
  have F43 := F34.other W39 (Or.inr (slot_ne (a0 := a0) (t := .double) (t' := .double) (Or.inr (wd hw 17 _ rfl)) (Or.inr (wd hw 23 _ rfl)) (by decide) (by decide) (by decide)))
  have F44 := F35.other W39 (Or.inr (slot_ne (a0 := a0) (t := .double) (t' := .double) (Or.inr (wd hw 19 _ rfl)) (Or.inr (wd hw 23 _ rfl)) (by decide) (by decide) (by decide)))
  have F45 := F31.other W39 (Or.inr (slot_ne (a0 := a0) (t := .double) (t' := .double) (Or.inr (wd hw 21 _ rfl)) (Or.inr (wd hw 23 _ rfl)) (by decide) (by decide) (by decide)))
  have Z46 : n0 ≤ h39.size := by rw [W39.size]; exact Z37
  have K47 := K38.wr W39 (Or.inl (by simp))
  refine Go.via st39 ?_
  show Go p e below _ (T39.setTop (mkF m 32 #[.val (.ref a1), .val (.double x0), .second, .val (.double x1), .second, .val (.double x2), .second, .val (.double x3), .second, .val (.double x4), .second] []))
  exact retV X39 hx hlk hret (hb hby d0_32) e39 ⟨rfl, N39, K47, F42, F43, F44, F45, F40⟩ (by decide) (by decide)
theorem d3_0 : decode prog_71_method_3_code 0 = .ok (.iconst 5, 1) := by decide +kernel
theorem d3_1 : decode prog_71_method_3_code 1 = .ok (.newarray .double, 2) := by decide +kernel
theorem d3_3 : decode prog_71_method_3_code 3 = .ok (.dup, 1) := by decide +kernel
theorem d3_4 : decode prog_71_method_3_code 4 = .ok (.iconst 0, 1) := by decide +kernel
theorem d3_5 : decode prog_71_method_3_code 5 = .ok (.aload_n 0, 1) := by decide +kernel
theorem d3_6 : decode prog_71_method_3_code 6 = .ok (.getfield 7, 3) := by decide +kernel
theorem d3_9 : decode prog_71_method_3_code 9 = .ok (.dastore, 1) := by decide +kernel
theorem d3_10 : decode prog_71_method_3_code 10 = .ok (.dup, 1) := by decide +kernel
theorem d3_11 : decode prog_71_method_3_code 11 = .ok (.iconst 1, 1) := by decide +kernel
theorem d3_12 : decode prog_71_method_3_code 12 = .ok (.aload_n 0, 1) := by decide +kernel
theorem d3_13 : decode prog_71_method_3_code 13 = .ok (.getfield 13, 3) := by decide +kernel
theorem d3_16 : decode prog_71_method_3_code 16 = .ok (.dastore, 1) := by decide +kernel
theorem d3_17 : decode prog_71_method_3_code 17 = .ok (.dup, 1) := by decide +kernel
theorem d3_18 : decode prog_71_method_3_code 18 = .ok (.iconst 2, 1) := by decide +kernel
theorem d3_19 : decode prog_71_method_3_code 19 = .ok (.aload_n 0, 1) := by decide +kernel
theorem d3_20 : decode prog_71_method_3_code 20 = .ok (.getfield 16, 3) := by decide +kernel
theorem d3_23 : decode prog_71_method_3_code 23 = .ok (.dastore, 1) := by decide +kernel
theorem d3_24 : decode prog_71_method_3_code 24 = .ok (.dup, 1) := by decide +kernel
theorem d3_25 : decode prog_71_method_3_code 25 = .ok (.iconst 3, 1) := by decide +kernel
theorem d3_26 : decode prog_71_method_3_code 26 = .ok (.aload_n 0, 1) := by decide +kernel
theorem d3_27 : decode prog_71_method_3_code 27 = .ok (.getfield 19, 3) := by decide +kernel
theorem d3_30 : decode prog_71_method_3_code 30 = .ok (.dastore, 1) := by decide +kernel
theorem d3_31 : decode prog_71_method_3_code 31 = .ok (.dup, 1) := by decide +kernel
theorem d3_32 : decode prog_71_method_3_code 32 = .ok (.iconst 4, 1) := by decide +kernel
theorem d3_33 : decode prog_71_method_3_code 33 = .ok (.aload_n 0, 1) := by decide +kernel
theorem d3_34 : decode prog_71_method_3_code 34 = .ok (.getfield 22, 3) := by decide +kernel
theorem d3_37 : decode prog_71_method_3_code 37 = .ok (.dastore, 1) := by decide +kernel
theorem d3_38 : decode prog_71_method_3_code 38 = .ok (.areturn, 1) := by decide +kernel
theorem pd_3 : parseMethodDescriptor "()[D" = some ⟨[], some (.array .double)⟩ := by decide +kernel
theorem pn_3 : plainFor (⟨"com/example/velovector/velovector/graph/Slopes", "values", "()[D"⟩ : MethodName) = true := plainFor_of_name (by show plainName "com/example/velovector/velovector/graph/Slopes" = true; first | (simp [plainName, overriddenIn]; done) | decide +kernel)
set_option maxRecDepth 65536 in
set_option maxHeartbeats 40000000 in
theorem rm_values (l : Launch) (Z : State) (a0 : Array Value) (hw : ∀ d ∈ tables_1, d.before a0 Z = true) (ws : List Jvm.Cond) (a1 : Addr) (x0 x1 x2 x3 x4 : UInt64) (h0 : Heap) (n0 : Nat) (Z0 : n0 ≤ h0.size) (F_0 : Fld Z h0 a1 "com/example/velovector/velovector/graph/Slopes" "climbTimeM" "D" (.double x0)) (F_1 : Fld Z h0 a1 "com/example/velovector/velovector/graph/Slopes" "climbEffortM" "D" (.double x1)) (F_2 : Fld Z h0 a1 "com/example/velovector/velovector/graph/Slopes" "descentGain" "D" (.double x2)) (F_3 : Fld Z h0 a1 "com/example/velovector/velovector/graph/Slopes" "descentFullGrade" "D" (.double x3)) (F_4 : Fld Z h0 a1 "com/example/velovector/velovector/graph/Slopes" "topographyFullDeg" "D" (.double x4)) :
    Ct l Z (⟨"com/example/velovector/velovector/graph/Slopes", "values", "()[D"⟩ : MethodName) prog_71_method_3_code 1 (some (.array .double)) ws ({ frames := 0, cells := 1, slots := 5, locals := 0 } : Room) #[.ref a1] h0 (fun v h L => ∃ a k, v = some (.ref a) ∧ Fr n0 L ∧ Keep h0 h [] ∧ h0.size ≤ a ∧ AR Z h a k .double [.double x0, .double x1, .double x2, .double x3, .double x4]) := by
  refine Ct.intro pn_3 #[.val (.ref a1)] (fun _ => by first | (simp [entryFrame, mkF, argsToLocals, Value.category, maxLocals]; done) | rfl) ?_
  intro p e s m below meth c T0 X0 hx hZ hby hml hown hnm hret hlk e0
  have N0 := Fr.nil n0
  have K0 := Keep.refl h0 []
  refine s_iconst X0 hx (hb hby d3_0) (5 : Int32) rfl 1 rfl ?_
  obtain ⟨T48, h48, c48, X48, e48, E48, A48, st48⟩ := s_newarray X0 hx hZ (aty := .double) (wd hw 29 _ rfl) e0 (hb hby d3_1) #[.val (.ref a1)] [] (n := (5 : Int32)) 5 (by decide) [.double (0 : UInt64), .double (0 : UInt64), .double (0 : UInt64), .double (0 : UInt64), .double (0 : UInt64)] rfl (by decide) (by decide) (by decide) 3 rfl
  obtain ⟨a48, g48⟩ : ∃ z, z = h0.size := ⟨_, rfl⟩
  rw [← g48] at A48 st48
  have ne49 : a1 ≠ a48 := by rw [g48]; exact Nat.ne_of_lt F_0.lt
  have q50 : n0 ≤ a48 := by rw [g48]; exact Z0
  have q51 : h0.size ≤ a48 := by rw [g48]; exact K0.1
  have K52 := K0.ext E48
  have F53 := F_0.ext E48
  have F54 := F_1.ext E48
  have F55 := F_2.ext E48
  have F56 := F_3.ext E48
  have F57 := F_4.ext E48
  have Z58 := Nat.le_trans Z0 E48.1
  refine Go.via st48 ?_
  refine s_dup X48 hx (hb hby d3_3) rfl 4 rfl ?_
  refine s_iconst X48 hx (hb hby d3_4) (0 : Int32) rfl 5 rfl ?_
  refine s_aloadN X48 hx (hb hby d3_5) rfl rfl 6 rfl ?_
  obtain ⟨T59, X59, e59, st59⟩ := getF X48 hx hZ hown (host := "") (Or.inl (wd hw 14 _ rfl)) Via.refl e48 F53 (g := (mkF m 6 #[.val (.ref a1)] [.ref a1, .int (0 : Int32), .ref a48, .ref a48])) rfl rfl (hb hby d3_6)
  refine Go.via st59 ?_
  show Go p e below _ (T59.setTop (mkF m 9 #[.val (.ref a1)] [.double x0, .int (0 : Int32), .ref a48, .ref a48]))
  obtain ⟨T60, h60, X60, e60, W60, A60, st60⟩ := s_dastore X59 hx hZ e59 A48 (hb hby d3_9) #[.val (.ref a1)] [.ref a48] (j := (0 : Int32)) 0 (by decide) (by show 0 < 5; decide) x0 [.double x0, .double (0 : UInt64), .double (0 : UInt64), .double (0 : UInt64), .double (0 : UInt64)] rfl 10 rfl
  have N60 := Fr.snoc X60 N0 q50
  have F61 := F53.other W60 (Or.inl ne49)
  have F62 := F54.other W60 (Or.inl ne49)
  have F63 := F55.other W60 (Or.inl ne49)
  have F64 := F56.other W60 (Or.inl ne49)
  have F65 := F57.other W60 (Or.inl ne49)
  have Z66 : n0 ≤ h60.size := by rw [W60.size]; exact Z58
  have K67 := K52.wr W60 (Or.inr q51)
  refine Go.via st60 ?_
  refine s_dup X60 hx (hb hby d3_10) rfl 11 rfl ?_
  refine s_iconst X60 hx (hb hby d3_11) (1 : Int32) rfl 12 rfl ?_
  refine s_aloadN X60 hx (hb hby d3_12) rfl rfl 13 rfl ?_
  obtain ⟨T68, X68, e68, st68⟩ := getF X60 hx hZ hown (host := "") (Or.inl (wd hw 16 _ rfl)) Via.refl e60 F62 (g := (mkF m 13 #[.val (.ref a1)] [.ref a1, .int (1 : Int32), .ref a48, .ref a48])) rfl rfl (hb hby d3_13)
  refine Go.via st68 ?_
  show Go p e below _ (T68.setTop (mkF m 16 #[.val (.ref a1)] [.double x1, .int (1 : Int32), .ref a48, .ref a48]))
  obtain ⟨T69, h69, X69, e69, W69, A69, st69⟩ := s_dastore X68 hx hZ e68 A60 (hb hby d3_16) #[.val (.ref a1)] [.ref a48] (j := (1 : Int32)) 1 (by decide) (by show 1 < 5; decide) x1 [.double x0, .double x1, .double (0 : UInt64), .double (0 : UInt64), .double (0 : UInt64)] rfl 17 rfl
  have N69 := Fr.snoc X69 N60 q50
  have F70 := F61.other W69 (Or.inl ne49)
  have F71 := F62.other W69 (Or.inl ne49)
  have F72 := F63.other W69 (Or.inl ne49)
  have F73 := F64.other W69 (Or.inl ne49)
  have F74 := F65.other W69 (Or.inl ne49)
  have Z75 : n0 ≤ h69.size := by rw [W69.size]; exact Z66
  have K76 := K67.wr W69 (Or.inr q51)
  refine Go.via st69 ?_
  refine s_dup X69 hx (hb hby d3_17) rfl 18 rfl ?_
  refine s_iconst X69 hx (hb hby d3_18) (2 : Int32) rfl 19 rfl ?_
  refine s_aloadN X69 hx (hb hby d3_19) rfl rfl 20 rfl ?_
  obtain ⟨T77, X77, e77, st77⟩ := getF X69 hx hZ hown (host := "") (Or.inl (wd hw 18 _ rfl)) Via.refl e69 F72 (g := (mkF m 20 #[.val (.ref a1)] [.ref a1, .int (2 : Int32), .ref a48, .ref a48])) rfl rfl (hb hby d3_20)
  refine Go.via st77 ?_
  show Go p e below _ (T77.setTop (mkF m 23 #[.val (.ref a1)] [.double x2, .int (2 : Int32), .ref a48, .ref a48]))
  obtain ⟨T78, h78, X78, e78, W78, A78, st78⟩ := s_dastore X77 hx hZ e77 A69 (hb hby d3_23) #[.val (.ref a1)] [.ref a48] (j := (2 : Int32)) 2 (by decide) (by show 2 < 5; decide) x2 [.double x0, .double x1, .double x2, .double (0 : UInt64), .double (0 : UInt64)] rfl 24 rfl
  have N78 := Fr.snoc X78 N69 q50
  have F79 := F70.other W78 (Or.inl ne49)
  have F80 := F71.other W78 (Or.inl ne49)
  have F81 := F72.other W78 (Or.inl ne49)
  have F82 := F73.other W78 (Or.inl ne49)
  have F83 := F74.other W78 (Or.inl ne49)
  have Z84 : n0 ≤ h78.size := by rw [W78.size]; exact Z75
  have K85 := K76.wr W78 (Or.inr q51)
  refine Go.via st78 ?_
  refine s_dup X78 hx (hb hby d3_24) rfl 25 rfl ?_
  refine s_iconst X78 hx (hb hby d3_25) (3 : Int32) rfl 26 rfl ?_
  refine s_aloadN X78 hx (hb hby d3_26) rfl rfl 27 rfl ?_
  obtain ⟨T86, X86, e86, st86⟩ := getF X78 hx hZ hown (host := "") (Or.inl (wd hw 20 _ rfl)) Via.refl e78 F82 (g := (mkF m 27 #[.val (.ref a1)] [.ref a1, .int (3 : Int32), .ref a48, .ref a48])) rfl rfl (hb hby d3_27)
  refine Go.via st86 ?_
  show Go p e below _ (T86.setTop (mkF m 30 #[.val (.ref a1)] [.double x3, .int (3 : Int32), .ref a48, .ref a48]))
  obtain ⟨T87, h87, X87, e87, W87, A87, st87⟩ := s_dastore X86 hx hZ e86 A78 (hb hby d3_30) #[.val (.ref a1)] [.ref a48] (j := (3 : Int32)) 3 (by decide) (by show 3 < 5; decide) x3 [.double x0, .double x1, .double x2, .double x3, .double (0 : UInt64)] rfl 31 rfl
  have N87 := Fr.snoc X87 N78 q50
  have F88 := F79.other W87 (Or.inl ne49)
  have F89 := F80.other W87 (Or.inl ne49)
  have F90 := F81.other W87 (Or.inl ne49)
  have F91 := F82.other W87 (Or.inl ne49)
  have F92 := F83.other W87 (Or.inl ne49)
  have Z93 : n0 ≤ h87.size := by rw [W87.size]; exact Z84
  have K94 := K85.wr W87 (Or.inr q51)
  refine Go.via st87 ?_
  refine s_dup X87 hx (hb hby d3_31) rfl 32 rfl ?_
  refine s_iconst X87 hx (hb hby d3_32) (4 : Int32) rfl 33 rfl ?_
  refine s_aloadN X87 hx (hb hby d3_33) rfl rfl 34 rfl ?_
  obtain ⟨T95, X95, e95, st95⟩ := getF X87 hx hZ hown (host := "") (Or.inl (wd hw 22 _ rfl)) Via.refl e87 F92 (g := (mkF m 34 #[.val (.ref a1)] [.ref a1, .int (4 : Int32), .ref a48, .ref a48])) rfl rfl (hb hby d3_34)
  refine Go.via st95 ?_
  show Go p e below _ (T95.setTop (mkF m 37 #[.val (.ref a1)] [.double x4, .int (4 : Int32), .ref a48, .ref a48]))
  obtain ⟨T96, h96, X96, e96, W96, A96, st96⟩ := s_dastore X95 hx hZ e95 A87 (hb hby d3_37) #[.val (.ref a1)] [.ref a48] (j := (4 : Int32)) 4 (by decide) (by show 4 < 5; decide) x4 [.double x0, .double x1, .double x2, .double x3, .double x4] rfl 38 rfl
  have N96 := Fr.snoc X96 N87 q50
  have F97 := F88.other W96 (Or.inl ne49)
  have F98 := F89.other W96 (Or.inl ne49)
  have F99 := F90.other W96 (Or.inl ne49)
  have F100 := F91.other W96 (Or.inl ne49)
  have F101 := F92.other W96 (Or.inl ne49)
  have Z102 : n0 ≤ h96.size := by rw [W96.size]; exact Z93
  have K103 := K94.wr W96 (Or.inr q51)
  refine Go.via st96 ?_
  exact retA X96 hx hlk hret (by decide) rfl (hb hby d3_38) e96 ⟨_, _, rfl, N96, K103, q51, A96⟩ (by decide) (by decide)
theorem dc_4607182418800017408 : Jvm.OwnFP.Db 1 (1) 0 (4607182418800017408 : UInt64) := Jvm.OwnFP.Db.lit false 4503599627370496 (-52) 1 (1) 0 (by decide +kernel) (by decide +kernel)
set_option maxRecDepth 65536 in
set_option maxHeartbeats 40000000 in
theorem rm_law (l : Launch) (Z : State) (a0 : Array Value) (hw : ∀ d ∈ tables_1, d.before a0 Z = true) (ws : List Jvm.Cond) (i0 i1 i2 i3 i4 : Int32) (h0 : Heap) (n0 : Nat) (Z0 : n0 ≤ h0.size)  :
    Ct l Z x code maxLocals ret ws room_1 #[.int i0, .int i1, .int i2, .int i3, .int i4] h0 (fun v h L => v = some (.int 1) ∧ Fr n0 L) := by
  refine Ct.intro pn_law #[.val (.int i0), .val (.int i1), .val (.int i2), .val (.int i3), .val (.int i4), .unset, .unset, .unset, .unset, .unset, .unset, .unset, .unset, .unset, .unset, .unset, .unset, .unset, .unset, .unset] (fun _ => by first | (simp [entryFrame, mkF, argsToLocals, Value.category, maxLocals]; done) | rfl) ?_
  intro p e s m below meth c T0 X0 hx hZ hby hml hown hnm hret hlk e0
  have N0 := Fr.nil n0
  refine s_iloadN X0 hx (hb hby at_0) rfl 1 rfl ?_
  have Dd104 := Ib.i2d (Ib.any i0)
  obtain ⟨d104, h_d104⟩ : ∃ v, (FP.i2d i0) = v := ⟨_, rfl⟩
  rw [h_d104] at Dd104
  refine s_i2d X0 hx (hb hby at_1) d104 h_d104 2 rfl ?_
  refine s_dstore X0 hx (hb hby at_2) #[.val (.int i0), .val (.int i1), .val (.int i2), .val (.int i3), .val (.int i4), .val (.double d104), .second, .unset, .unset, .unset, .unset, .unset, .unset, .unset, .unset, .unset, .unset, .unset, .unset, .unset] rfl 4 rfl ?_
  refine s_iloadN X0 hx (hb hby at_4) rfl 5 rfl ?_
  have Dd105 := Ib.i2d (Ib.any i1)
  obtain ⟨d105, h_d105⟩ : ∃ v, (FP.i2d i1) = v := ⟨_, rfl⟩
  rw [h_d105] at Dd105
  refine s_i2d X0 hx (hb hby at_5) d105 h_d105 6 rfl ?_
  refine s_dstore X0 hx (hb hby at_6) #[.val (.int i0), .val (.int i1), .val (.int i2), .val (.int i3), .val (.int i4), .val (.double d104), .second, .val (.double d105), .second, .unset, .unset, .unset, .unset, .unset, .unset, .unset, .unset, .unset, .unset, .unset] rfl 8 rfl ?_
  refine s_iloadN X0 hx (hb hby at_8) rfl 9 rfl ?_
  have Dd106 := Ib.i2d (Ib.any i2)
  obtain ⟨d106, h_d106⟩ : ∃ v, (FP.i2d i2) = v := ⟨_, rfl⟩
  rw [h_d106] at Dd106
  refine s_i2d X0 hx (hb hby at_9) d106 h_d106 10 rfl ?_
  refine s_dstore X0 hx (hb hby at_10) #[.val (.int i0), .val (.int i1), .val (.int i2), .val (.int i3), .val (.int i4), .val (.double d104), .second, .val (.double d105), .second, .val (.double d106), .second, .unset, .unset, .unset, .unset, .unset, .unset, .unset, .unset, .unset] rfl 12 rfl ?_
  refine s_iloadN X0 hx (hb hby at_12) rfl 13 rfl ?_
  have Dd107 := Ib.i2d (Ib.any i3)
  obtain ⟨d107, h_d107⟩ : ∃ v, (FP.i2d i3) = v := ⟨_, rfl⟩
  rw [h_d107] at Dd107
  refine s_i2d X0 hx (hb hby at_13) d107 h_d107 14 rfl ?_
  refine s_dstore X0 hx (hb hby at_14) #[.val (.int i0), .val (.int i1), .val (.int i2), .val (.int i3), .val (.int i4), .val (.double d104), .second, .val (.double d105), .second, .val (.double d106), .second, .val (.double d107), .second, .unset, .unset, .unset, .unset, .unset, .unset, .unset] rfl 16 rfl ?_
  refine s_iload X0 hx (hb hby at_16) rfl 18 rfl ?_
  have Dd108 := Ib.i2d (Ib.any i4)
  obtain ⟨d108, h_d108⟩ : ∃ v, (FP.i2d i4) = v := ⟨_, rfl⟩
  rw [h_d108] at Dd108
  refine s_i2d X0 hx (hb hby at_18) d108 h_d108 19 rfl ?_
  refine s_dstore X0 hx (hb hby at_19) #[.val (.int i0), .val (.int i1), .val (.int i2), .val (.int i3), .val (.int i4), .val (.double d104), .second, .val (.double d105), .second, .val (.double d106), .second, .val (.double d107), .second, .val (.double d108), .second, .unset, .unset, .unset, .unset, .unset] rfl 21 rfl ?_
  obtain ⟨T109, h109, X109, e109, E109, A109, D109, -, st109⟩ := newO X0 hx hZ hown (wd hw 0 _ rfl) (wd hw 1 _ rfl) (wd hw 2 _ rfl) e0 (g := (mkF m 21 #[.val (.int i0), .val (.int i1), .val (.int i2), .val (.int i3), .val (.int i4), .val (.double d104), .second, .val (.double d105), .second, .val (.double d106), .second, .val (.double d107), .second, .val (.double d108), .second, .unset, .unset, .unset, .unset, .unset] [])) rfl (hb hby at_21) (by decide) (by decide)
  obtain ⟨a109, g109⟩ : ∃ z, z = h0.size := ⟨_, rfl⟩
  rw [← g109] at A109 D109 st109
  have q110 : n0 ≤ a109 := by rw [g109]; exact Z0
  have Z111 := Nat.le_trans Z0 E109.1
  have F112 : Fld Z h109 a109 "com/example/velovector/velovector/graph/Slopes" "climbTimeM" "D" (.double (0 : UInt64)) := D109 (Or.inr (wd hw 15 _ rfl)) (ty := .double) (by decide)
  have F113 : Fld Z h109 a109 "com/example/velovector/velovector/graph/Slopes" "climbEffortM" "D" (.double (0 : UInt64)) := D109 (Or.inr (wd hw 17 _ rfl)) (ty := .double) (by decide)
  have F114 : Fld Z h109 a109 "com/example/velovector/velovector/graph/Slopes" "descentGain" "D" (.double (0 : UInt64)) := D109 (Or.inr (wd hw 19 _ rfl)) (ty := .double) (by decide)
  have F115 : Fld Z h109 a109 "com/example/velovector/velovector/graph/Slopes" "descentFullGrade" "D" (.double (0 : UInt64)) := D109 (Or.inr (wd hw 21 _ rfl)) (ty := .double) (by decide)
  have F116 : Fld Z h109 a109 "com/example/velovector/velovector/graph/Slopes" "topographyFullDeg" "D" (.double (0 : UInt64)) := D109 (Or.inr (wd hw 23 _ rfl)) (ty := .double) (by decide)
  refine Go.via st109 ?_
  show Go p e below _ (T109.setTop (mkF m 24 #[.val (.int i0), .val (.int i1), .val (.int i2), .val (.int i3), .val (.int i4), .val (.double d104), .second, .val (.double d105), .second, .val (.double d106), .second, .val (.double d107), .second, .val (.double d108), .second, .unset, .unset, .unset, .unset, .unset] [.ref a109]))
  refine s_dup X109 hx (hb hby at_24) rfl 25 rfl ?_
  refine s_dload X109 hx (hb hby at_25) rfl 27 rfl ?_
  refine s_dload X109 hx (hb hby at_27) rfl 29 rfl ?_
  refine s_dload X109 hx (hb hby at_29) rfl 31 rfl ?_
  refine s_dload X109 hx (hb hby at_31) rfl 33 rfl ?_
  refine s_dload X109 hx (hb hby at_33) rfl 35 rfl ?_
  obtain ⟨v117, T117, L117, X117, hQ117, st117⟩ := callInit X109 hx hZ hown rfl (wd hw 3 _ rfl) (wd hw 4 _ rfl) (wd hw 2 _ rfl) (wd hw 5 _ rfl) (by decide) (rm_init l Z a0 hw [] a109 d104 d105 d106 d107 d108 h109 n0 Z111 A109 q110 F112 F113 F114 F115 F116 ) e109 (L := #[.val (.int i0), .val (.int i1), .val (.int i2), .val (.int i3), .val (.int i4), .val (.double d104), .second, .val (.double d105), .second, .val (.double d106), .second, .val (.double d107), .second, .val (.double d108), .second, .unset, .unset, .unset, .unset, .unset]) (hb hby at_35) (by rw [hml]; rfl) a109 [.double d104, .double d105, .double d106, .double d107, .double d108] [.ref a109] rfl rfl pd_0 rfl 1 (by show 2 * 0 + _ ≤ _; exact Nat.le_of_eq rfl) (by decide) (by decide) (by decide) (by decide)
  obtain ⟨rfl, N117, K117, G117_0, G117_1, G117_2, G117_3, G117_4⟩ := hQ117
  have M117 := Fr.app N0 N117
  have F118 := A109.keep K117
  have Z119 := Nat.le_trans Z111 K117.1
  have e117 : T117.heap = T117.heap := rfl
  refine Go.via st117 ?_
  show Go p e below _ (T117.setTop (mkF m 38 #[.val (.int i0), .val (.int i1), .val (.int i2), .val (.int i3), .val (.int i4), .val (.double d104), .second, .val (.double d105), .second, .val (.double d106), .second, .val (.double d107), .second, .val (.double d108), .second, .unset, .unset, .unset, .unset, .unset] [.ref a109]))
  refine s_astore X117 hx (hb hby at_38) rfl #[.val (.int i0), .val (.int i1), .val (.int i2), .val (.int i3), .val (.int i4), .val (.double d104), .second, .val (.double d105), .second, .val (.double d106), .second, .val (.double d107), .second, .val (.double d108), .second, .val (.ref a109), .unset, .unset, .unset, .unset] rfl 40 rfl ?_
  refine s_aload X117 hx (hb hby at_40) rfl rfl 42 rfl ?_
  obtain ⟨v120, T120, L120, X120, hQ120, st120⟩ := callVirt X117 hx hZ hown (wd hw 24 _ rfl) (wd hw 25 _ rfl) (wd hw 27 _ rfl) (wd hw 26 _ rfl) (wd hw 2 _ rfl) (wd hw 28 _ rfl) (by decide) (rm_values l Z a0 hw [] a109 d104 d105 d106 d107 d108 T117.heap n0 Z119 G117_0 G117_1 G117_2 G117_3 G117_4) e117 a109 F118 (L := #[.val (.int i0), .val (.int i1), .val (.int i2), .val (.int i3), .val (.int i4), .val (.double d104), .second, .val (.double d105), .second, .val (.double d106), .second, .val (.double d107), .second, .val (.double d108), .second, .val (.ref a109), .unset, .unset, .unset, .unset]) (hb hby at_42) (by rw [hml]; rfl) [] [] rfl rfl pd_3 rfl 0 (by show 2 * 0 + _ ≤ _; exact Nat.le_of_eq rfl) (by decide) (by decide) (by decide) (by decide)
  obtain ⟨a120, c120, rfl, N120, K120, g120, A120⟩ := hQ120
  have M120 := Fr.app M117 N120
  have ne121 : a109 ≠ a120 := Nat.ne_of_lt (Nat.lt_of_lt_of_le F118.lt g120)
  have q122 : n0 ≤ a120 := Nat.le_trans Z119 g120
  have F123 := F118.keep K120
  have F124 := G117_0.keep K120 nin0
  have F125 := G117_1.keep K120 nin0
  have F126 := G117_2.keep K120 nin0
  have F127 := G117_3.keep K120 nin0
  have F128 := G117_4.keep K120 nin0
  have Z129 := Nat.le_trans Z119 K120.1
  have e120 : T120.heap = T120.heap := rfl
  refine Go.via st120 ?_
  show Go p e below _ (T120.setTop (mkF m 45 #[.val (.int i0), .val (.int i1), .val (.int i2), .val (.int i3), .val (.int i4), .val (.double d104), .second, .val (.double d105), .second, .val (.double d106), .second, .val (.double d107), .second, .val (.double d108), .second, .val (.ref a109), .unset, .unset, .unset, .unset] [.ref a120]))
  refine s_astore X120 hx (hb hby at_45) rfl #[.val (.int i0), .val (.int i1), .val (.int i2), .val (.int i3), .val (.int i4), .val (.double d104), .second, .val (.double d105), .second, .val (.double d106), .second, .val (.double d107), .second, .val (.double d108), .second, .val (.ref a109), .val (.ref a120), .unset, .unset, .unset] rfl 47 rfl ?_
  refine s_aload X120 hx (hb hby at_47) rfl rfl 49 rfl ?_
  refine s_ifnullN X120 hx (hb hby at_49) 52 rfl ?_
  refine s_aload X120 hx (hb hby at_52) rfl rfl 54 rfl ?_
  refine s_len X120 hx hZ e120 A120 (hb hby at_54) (5 : Int32) rfl 55 rfl ?_
  refine s_iconst X120 hx (hb hby at_55) (5 : Int32) rfl 56 rfl ?_
  refine s_icmpY X120 hx (hb hby at_56) (by decide) 61 (by decide) (by decide) ?_
  refine s_aload X120 hx (hb hby at_61) rfl rfl 63 rfl ?_
  refine s_iconst X120 hx (hb hby at_63) (0 : Int32) rfl 64 rfl ?_
  refine s_daload X120 hx hZ e120 A120 (hb hby at_64) (j := (0 : Int32)) 0 (by decide) (.double d104) rfl 65 rfl ?_
  refine s_dload X120 hx (hb hby at_65) rfl 67 rfl ?_
  refine s_dcmp X120 hx (hb hby at_67) (0 : Int32) (by rw [show FP.dcmp d104 d104 = some .eq from (Db.eq Dd104 Dd104 rfl)]; rfl) 68 rfl ?_
  refine s_ifN X120 hx (hb hby at_68) (by decide) 71 rfl ?_
  refine s_aload X120 hx (hb hby at_71) rfl rfl 73 rfl ?_
  refine s_iconst X120 hx (hb hby at_73) (1 : Int32) rfl 74 rfl ?_
  refine s_daload X120 hx hZ e120 A120 (hb hby at_74) (j := (1 : Int32)) 1 (by decide) (.double d105) rfl 75 rfl ?_
  refine s_dload X120 hx (hb hby at_75) rfl 77 rfl ?_
  refine s_dcmp X120 hx (hb hby at_77) (0 : Int32) (by rw [show FP.dcmp d105 d105 = some .eq from (Db.eq Dd105 Dd105 rfl)]; rfl) 78 rfl ?_
  refine s_ifN X120 hx (hb hby at_78) (by decide) 81 rfl ?_
  refine s_aload X120 hx (hb hby at_81) rfl rfl 83 rfl ?_
  refine s_iconst X120 hx (hb hby at_83) (2 : Int32) rfl 84 rfl ?_
  refine s_daload X120 hx hZ e120 A120 (hb hby at_84) (j := (2 : Int32)) 2 (by decide) (.double d106) rfl 85 rfl ?_
  refine s_dload X120 hx (hb hby at_85) rfl 87 rfl ?_
  refine s_dcmp X120 hx (hb hby at_87) (0 : Int32) (by rw [show FP.dcmp d106 d106 = some .eq from (Db.eq Dd106 Dd106 rfl)]; rfl) 88 rfl ?_
  refine s_ifN X120 hx (hb hby at_88) (by decide) 91 rfl ?_
  refine s_aload X120 hx (hb hby at_91) rfl rfl 93 rfl ?_
  refine s_iconst X120 hx (hb hby at_93) (3 : Int32) rfl 94 rfl ?_
  refine s_daload X120 hx hZ e120 A120 (hb hby at_94) (j := (3 : Int32)) 3 (by decide) (.double d107) rfl 95 rfl ?_
  refine s_dload X120 hx (hb hby at_95) rfl 97 rfl ?_
  refine s_dcmp X120 hx (hb hby at_97) (0 : Int32) (by rw [show FP.dcmp d107 d107 = some .eq from (Db.eq Dd107 Dd107 rfl)]; rfl) 98 rfl ?_
  refine s_ifN X120 hx (hb hby at_98) (by decide) 101 rfl ?_
  refine s_aload X120 hx (hb hby at_101) rfl rfl 103 rfl ?_
  refine s_iconst X120 hx (hb hby at_103) (4 : Int32) rfl 104 rfl ?_
  refine s_daload X120 hx hZ e120 A120 (hb hby at_104) (j := (4 : Int32)) 4 (by decide) (.double d108) rfl 105 rfl ?_
  refine s_dload X120 hx (hb hby at_105) rfl 107 rfl ?_
  refine s_dcmp X120 hx (hb hby at_107) (0 : Int32) (by rw [show FP.dcmp d108 d108 = some .eq from (Db.eq Dd108 Dd108 rfl)]; rfl) 108 rfl ?_
  refine s_ifN X120 hx (hb hby at_108) (by decide) 111 rfl ?_
  refine s_iconst X120 hx (hb hby at_111) (1 : Int32) rfl 112 rfl ?_
  refine s_goto X120 hx (hb hby at_112) 116 (by decide) (by decide) ?_
  refine s_istore X120 hx (hb hby at_116) #[.val (.int i0), .val (.int i1), .val (.int i2), .val (.int i3), .val (.int i4), .val (.double d104), .second, .val (.double d105), .second, .val (.double d106), .second, .val (.double d107), .second, .val (.double d108), .second, .val (.ref a109), .val (.ref a120), .val (.int (1 : Int32)), .unset, .unset] rfl 118 rfl ?_
  refine s_aload X120 hx (hb hby at_118) rfl rfl 120 rfl ?_
  refine s_iconst X120 hx (hb hby at_120) (0 : Int32) rfl 121 rfl ?_
  refine s_dload X120 hx (hb hby at_121) rfl 123 rfl ?_
  refine s_dconst1 X120 hx (hb hby at_123) (4607182418800017408 : UInt64) rfl 124 rfl ?_
  have Dd130 := Db.add Dd104 dc_4607182418800017408 (by decide)
  obtain ⟨d130, h_d130⟩ : ∃ v, FP.dadd d104 (4607182418800017408 : UInt64) = v := ⟨_, rfl⟩
  rw [h_d130] at Dd130
  refine s_dadd X120 hx (hb hby at_124) d130 h_d130 Dd130.nn 125 rfl ?_
  obtain ⟨T131, h131, X131, e131, W131, A131, st131⟩ := s_dastore X120 hx hZ e120 A120 (hb hby at_125) #[.val (.int i0), .val (.int i1), .val (.int i2), .val (.int i3), .val (.int i4), .val (.double d104), .second, .val (.double d105), .second, .val (.double d106), .second, .val (.double d107), .second, .val (.double d108), .second, .val (.ref a109), .val (.ref a120), .val (.int (1 : Int32)), .unset, .unset] [] (j := (0 : Int32)) 0 (by decide) (by show 0 < 5; decide) d130 [.double d130, .double d105, .double d106, .double d107, .double d108] rfl 126 rfl
  have N131 := Fr.snoc X131 M120 q122
  have F132 := F123.wr W131
  have F133 := F124.other W131 (Or.inl ne121)
  have F134 := F125.other W131 (Or.inl ne121)
  have F135 := F126.other W131 (Or.inl ne121)
  have F136 := F127.other W131 (Or.inl ne121)
  have F137 := F128.other W131 (Or.inl ne121)
  have Z138 : n0 ≤ h131.size := by rw [W131.size]; exact Z129
  refine Go.via st131 ?_
  refine s_aload X131 hx (hb hby at_126) rfl rfl 128 rfl ?_
  refine s_iconst X131 hx (hb hby at_128) (4 : Int32) rfl 129 rfl ?_
  refine s_dload X131 hx (hb hby at_129) rfl 131 rfl ?_
  refine s_dconst1 X131 hx (hb hby at_131) (4607182418800017408 : UInt64) rfl 132 rfl ?_
  have Dd139 := Db.add Dd108 dc_4607182418800017408 (by decide)
  obtain ⟨d139, h_d139⟩ : ∃ v, FP.dadd d108 (4607182418800017408 : UInt64) = v := ⟨_, rfl⟩
  rw [h_d139] at Dd139
  refine s_dadd X131 hx (hb hby at_132) d139 h_d139 Dd139.nn 133 rfl ?_
  obtain ⟨T140, h140, X140, e140, W140, A140, st140⟩ := s_dastore X131 hx hZ e131 A131 (hb hby at_133) #[.val (.int i0), .val (.int i1), .val (.int i2), .val (.int i3), .val (.int i4), .val (.double d104), .second, .val (.double d105), .second, .val (.double d106), .second, .val (.double d107), .second, .val (.double d108), .second, .val (.ref a109), .val (.ref a120), .val (.int (1 : Int32)), .unset, .unset] [] (j := (4 : Int32)) 4 (by decide) (by show 4 < 5; decide) d139 [.double d130, .double d105, .double d106, .double d107, .double d139] rfl 134 rfl
  have N140 := Fr.snoc X140 N131 q122
  have F141 := F132.wr W140
  have F142 := F133.other W140 (Or.inl ne121)
  have F143 := F134.other W140 (Or.inl ne121)
  have F144 := F135.other W140 (Or.inl ne121)
  have F145 := F136.other W140 (Or.inl ne121)
  have F146 := F137.other W140 (Or.inl ne121)
  have Z147 : n0 ≤ h140.size := by rw [W140.size]; exact Z138
  refine Go.via st140 ?_
  refine s_aload X140 hx (hb hby at_134) rfl rfl 136 rfl ?_
  obtain ⟨v148, T148, L148, X148, hQ148, st148⟩ := callVirt X140 hx hZ hown (wd hw 24 _ rfl) (wd hw 25 _ rfl) (wd hw 27 _ rfl) (wd hw 26 _ rfl) (wd hw 2 _ rfl) (wd hw 28 _ rfl) (by decide) (rm_values l Z a0 hw [] a109 d104 d105 d106 d107 d108 h140 n0 Z147 F142 F143 F144 F145 F146) e140 a109 F141 (L := #[.val (.int i0), .val (.int i1), .val (.int i2), .val (.int i3), .val (.int i4), .val (.double d104), .second, .val (.double d105), .second, .val (.double d106), .second, .val (.double d107), .second, .val (.double d108), .second, .val (.ref a109), .val (.ref a120), .val (.int (1 : Int32)), .unset, .unset]) (hb hby at_136) (by rw [hml]; rfl) [] [] rfl rfl pd_3 rfl 0 (by show 2 * 0 + _ ≤ _; exact Nat.le_of_eq rfl) (by decide) (by decide) (by decide) (by decide)
  obtain ⟨a148, c148, rfl, N148, K148, g148, A148⟩ := hQ148
  have M148 := Fr.app N140 N148
  have ne149 : a109 ≠ a148 := Nat.ne_of_lt (Nat.lt_of_lt_of_le F141.lt g148)
  have ne150 : a120 ≠ a148 := Nat.ne_of_lt (Nat.lt_of_lt_of_le A140.lt g148)
  have q151 : n0 ≤ a148 := Nat.le_trans Z147 g148
  have F152 := F141.keep K148
  have F153 := F142.keep K148 nin0
  have F154 := F143.keep K148 nin0
  have F155 := F144.keep K148 nin0
  have F156 := F145.keep K148 nin0
  have F157 := F146.keep K148 nin0
  have F158 := A140.keep K148 nin0
  have Z159 := Nat.le_trans Z147 K148.1
  have e148 : T148.heap = T148.heap := rfl
  refine Go.via st148 ?_
  show Go p e below _ (T148.setTop (mkF m 139 #[.val (.int i0), .val (.int i1), .val (.int i2), .val (.int i3), .val (.int i4), .val (.double d104), .second, .val (.double d105), .second, .val (.double d106), .second, .val (.double d107), .second, .val (.double d108), .second, .val (.ref a109), .val (.ref a120), .val (.int (1 : Int32)), .unset, .unset] [.ref a148]))
  refine s_astore X148 hx (hb hby at_139) rfl #[.val (.int i0), .val (.int i1), .val (.int i2), .val (.int i3), .val (.int i4), .val (.double d104), .second, .val (.double d105), .second, .val (.double d106), .second, .val (.double d107), .second, .val (.double d108), .second, .val (.ref a109), .val (.ref a120), .val (.int (1 : Int32)), .val (.ref a148), .unset] rfl 141 rfl ?_
  refine s_aload X148 hx (hb hby at_141) rfl rfl 143 rfl ?_
  refine s_ifnullN X148 hx (hb hby at_143) 146 rfl ?_
  refine s_aload X148 hx (hb hby at_146) rfl rfl 148 rfl ?_
  refine s_len X148 hx hZ e148 A148 (hb hby at_148) (5 : Int32) rfl 149 rfl ?_
  refine s_iconst X148 hx (hb hby at_149) (5 : Int32) rfl 150 rfl ?_
  refine s_icmpY X148 hx (hb hby at_150) (by decide) 155 (by decide) (by decide) ?_
  refine s_aload X148 hx (hb hby at_155) rfl rfl 157 rfl ?_
  refine s_iconst X148 hx (hb hby at_157) (0 : Int32) rfl 158 rfl ?_
  refine s_daload X148 hx hZ e148 A148 (hb hby at_158) (j := (0 : Int32)) 0 (by decide) (.double d104) rfl 159 rfl ?_
  refine s_dload X148 hx (hb hby at_159) rfl 161 rfl ?_
  refine s_dcmp X148 hx (hb hby at_161) (0 : Int32) (by rw [show FP.dcmp d104 d104 = some .eq from (Db.eq Dd104 Dd104 rfl)]; rfl) 162 rfl ?_
  refine s_ifN X148 hx (hb hby at_162) (by decide) 165 rfl ?_
  refine s_aload X148 hx (hb hby at_165) rfl rfl 167 rfl ?_
  refine s_iconst X148 hx (hb hby at_167) (1 : Int32) rfl 168 rfl ?_
  refine s_daload X148 hx hZ e148 A148 (hb hby at_168) (j := (1 : Int32)) 1 (by decide) (.double d105) rfl 169 rfl ?_
  refine s_dload X148 hx (hb hby at_169) rfl 171 rfl ?_
  refine s_dcmp X148 hx (hb hby at_171) (0 : Int32) (by rw [show FP.dcmp d105 d105 = some .eq from (Db.eq Dd105 Dd105 rfl)]; rfl) 172 rfl ?_
  refine s_ifN X148 hx (hb hby at_172) (by decide) 175 rfl ?_
  refine s_aload X148 hx (hb hby at_175) rfl rfl 177 rfl ?_
  refine s_iconst X148 hx (hb hby at_177) (2 : Int32) rfl 178 rfl ?_
  refine s_daload X148 hx hZ e148 A148 (hb hby at_178) (j := (2 : Int32)) 2 (by decide) (.double d106) rfl 179 rfl ?_
  refine s_dload X148 hx (hb hby at_179) rfl 181 rfl ?_
  refine s_dcmp X148 hx (hb hby at_181) (0 : Int32) (by rw [show FP.dcmp d106 d106 = some .eq from (Db.eq Dd106 Dd106 rfl)]; rfl) 182 rfl ?_
  refine s_ifN X148 hx (hb hby at_182) (by decide) 185 rfl ?_
  refine s_aload X148 hx (hb hby at_185) rfl rfl 187 rfl ?_
  refine s_iconst X148 hx (hb hby at_187) (3 : Int32) rfl 188 rfl ?_
  refine s_daload X148 hx hZ e148 A148 (hb hby at_188) (j := (3 : Int32)) 3 (by decide) (.double d107) rfl 189 rfl ?_
  refine s_dload X148 hx (hb hby at_189) rfl 191 rfl ?_
  refine s_dcmp X148 hx (hb hby at_191) (0 : Int32) (by rw [show FP.dcmp d107 d107 = some .eq from (Db.eq Dd107 Dd107 rfl)]; rfl) 192 rfl ?_
  refine s_ifN X148 hx (hb hby at_192) (by decide) 195 rfl ?_
  refine s_aload X148 hx (hb hby at_195) rfl rfl 197 rfl ?_
  refine s_iconst X148 hx (hb hby at_197) (4 : Int32) rfl 198 rfl ?_
  refine s_daload X148 hx hZ e148 A148 (hb hby at_198) (j := (4 : Int32)) 4 (by decide) (.double d108) rfl 199 rfl ?_
  refine s_dload X148 hx (hb hby at_199) rfl 201 rfl ?_
  refine s_dcmp X148 hx (hb hby at_201) (0 : Int32) (by rw [show FP.dcmp d108 d108 = some .eq from (Db.eq Dd108 Dd108 rfl)]; rfl) 202 rfl ?_
  refine s_ifN X148 hx (hb hby at_202) (by decide) 205 rfl ?_
  refine s_iconst X148 hx (hb hby at_205) (1 : Int32) rfl 206 rfl ?_
  refine s_goto X148 hx (hb hby at_206) 210 (by decide) (by decide) ?_
  refine s_istore X148 hx (hb hby at_210) #[.val (.int i0), .val (.int i1), .val (.int i2), .val (.int i3), .val (.int i4), .val (.double d104), .second, .val (.double d105), .second, .val (.double d106), .second, .val (.double d107), .second, .val (.double d108), .second, .val (.ref a109), .val (.ref a120), .val (.int (1 : Int32)), .val (.ref a148), .val (.int (1 : Int32))] rfl 212 rfl ?_
  refine s_iload X148 hx (hb hby at_212) rfl 214 rfl ?_
  refine s_ifN X148 hx (hb hby at_214) (by decide) 217 rfl ?_
  refine s_iload X148 hx (hb hby at_217) rfl 219 rfl ?_
  refine s_ifN X148 hx (hb hby at_219) (by decide) 222 rfl ?_
  refine s_iconst X148 hx (hb hby at_222) (1 : Int32) rfl 223 rfl ?_
  refine s_goto X148 hx (hb hby at_223) 227 (by decide) (by decide) ?_
  exact retZ X148 hx hlk hret (hb hby at_227) (by decide) e148 ⟨rfl, M148⟩ (by decide) (by decide)
set_option maxRecDepth 65536 in
set_option maxHeartbeats 40000000 in
theorem comes_1 {Post : Tables → Env → Array Value → State → Outcome → State → Prop} (hpost : ∀ tb e args s v u, (limb_1_1.after args s (.returned v) u = true ∧ limb_1_2.after args s (.returned v) u = true ∧ True) → FrameEnd s (.returned v) u (Jvm.fieldLocs frame_1_writes args s ++ Jvm.arrayLocs frame_1_arrays args s ++ Jvm.staticLocs frame_1_statics s) 16 128 → Post tb e args s (.returned v) u) :
    ArmFor flags0 classFile x code maxLocals ret World_1 tables_1 room_1 Calls_1 rest_1 Pre_1 Post := by
  intro l hfl _ _ p e ha hc hk s m args below hf hA hF happ hP
  obtain ⟨hcalls, hrest, hpre⟩ := hP
  obtain ⟨-, -, -, hnamed, -, -, -, hat⟩ := (Spec.applies_iff hf).mp happ
  obtain ⟨hg, hn⟩ := and_e (Cond.before_iff.mp (show (Jvm.Cond.and given_1 narrow_1).before args s = true from hpre))
  obtain ⟨hg0, hg1⟩ := and_e hg
  obtain ⟨w0, w1, w2, w3, w4, rfl⟩ : ∃ w0 w1 w2 w3 w4 : Value, args = #[w0, w1, w2, w3, w4] := by
    have hs : args.size = 5 := by simpa [Cond.value, given_1] using hg0
    obtain ⟨L⟩ := args
    match L, hs with
    | [w0, w1, w2, w3, w4], _ => exact ⟨w0, w1, w2, w3, w4, rfl⟩
  have hw := fun d (hd : d ∈ tables_1) => atoms_spec (ws := Jvm.Cond.code x code maxLocals ret :: tables_1) hat d (List.mem_cons_of_mem _ hd)
  obtain ⟨ga0, hg2⟩ := and_e hg1
  obtain ⟨ga1, hg3⟩ := and_e hg2
  obtain ⟨ga2, hg4⟩ := and_e hg3
  obtain ⟨ga3, hg5⟩ := and_e hg4
  have ga4 := hg5
  obtain ⟨i0, ei0⟩ := is_v ga0
  obtain rfl : w0 = .int i0 := Option.some.inj ei0
  obtain ⟨i1, ei1⟩ := is_v ga1
  obtain rfl : w1 = .int i1 := Option.some.inj ei1
  obtain ⟨i2, ei2⟩ := is_v ga2
  obtain rfl : w2 = .int i2 := Option.some.inj ei2
  obtain ⟨i3, ei3⟩ := is_v ga3
  obtain rfl : w3 = .int i3 := Option.some.inj ei3
  obtain ⟨i4, ei4⟩ := is_v ga4
  obtain rfl : w4 = .int i4 := Option.some.inj ei4
  obtain ⟨n, o, h1, h2, h3, _, L, rfl, ⟨rfl, N⟩, hq⟩ := rm_law l s _ hw tables_1 i0 i1 i2 i3 i4 s.heap s.heap.size (Nat.le_refl _) p e ha hc hk s m _ below hf ((Spec.applies_iff_loose hf).mp happ).1 ⟨rfl, State.Warmed39.refl s, rfl⟩ trivial
  refine ⟨n, _, h1, h2, h3, hpost _ _ _ _ _ _ ⟨Cond.after_iff.mpr rfl, Cond.after_iff.mpr (eq_i res_at (Term.int_eval (1)) rfl), trivial⟩ ⟨hq.1, hq.2.1, (hq.2.2.sift fun y hy => Or.inr (N y hy)).mono (by decide) (by decide)⟩⟩
theorem main_1_1 : Claimed_1_1 := comes_1 fun _ _ _ _ _ _ h hF => ⟨h.1, hF⟩
theorem main_1_2 : Claimed_1_2 := comes_1 fun _ _ _ _ _ _ h hF => ⟨h.2.1, hF⟩
end Jvm.Pilot.@@N@@
namespace Jvm.Pilot.@@N@@
open Jvm Jvm.ClassFile Sem Op Lib Jvm.Free Jvm.Stand Jvm.Pilot.@@N@@.Jvm.D
/-! MADE BY PROGRAM (witnessworld.py) out of the Statement's table words and the real class files: 12 classes; the members and pool entries that the words name. The judged class is class 1, her method 1. -/
namespace start1
open Jvm.ClassFile
def u (s : String) : CpInfo := .utf8 (stringToUtf16 s)
/-- a pool by its gaps: so many unusable entries, then the entry; so many at the end -/
def gap : Nat → List CpInfo → List CpInfo
  | 0, r => r
  | n + 1, r => .unusable :: gap n r
def poolList (es : List (Nat × CpInfo)) (last : Nat) : List CpInfo := es.foldr (fun e r => gap e.1 (e.2 :: r)) (gap last [])
def pool (es : List (Nat × CpInfo)) (last : Nat) : Array CpInfo := ⟨poolList es last⟩
def fileOf (pool : Array CpInfo) (this : Nat) (attrs : Array Attribute := #[]) (ms : Array MethodInfo := #[]) (fl : Nat := 33) (sup : Nat := 0) (ifs : Array Nat := #[]) (fds : Array FieldInfo := #[]) : ClassFile where
  minorVersion := 0
  majorVersion := 65
  constantPool := pool
  accessFlags := fl
  thisClass := this
  superClass := sup
  interfaces := ifs
  fields := fds
  methods := ms
  attributes := attrs
def plain (name : String) (sup : Option ClassId) : Class where
  name := name
  kind := .ordinary
  loader := none
  accessFlags := 33
  super := sup
  interfaces := #[]
  cf := none
  fields := #[]
  methods := #[]
  instanceTypes := #[]
  staticTypes := #[]
  resolved := #[]
  callSites := []
  init := .initialized
  statics := none
  mirror := none

def pool0 : Array CpInfo := pool [(5, u "<init>"), (0, u "()V"), (1, .class_ 10), (1, u "java/lang/Object")] 113

def k0c0 : Code := { maxStack := 0, maxLocals := 1, code := object_method_1_code, exceptionTable := #[], attributes := #[] }
def k0m0 : Method := { name := "<init>", desc := "()V", sig := { parameters := [], returnType := none }, accessFlags := 1, code := some k0c0 }
/-- java/lang/Object -/
def k0 : Class := { plain "java/lang/Object" none with
  accessFlags := 33
  interfaces := #[]
  cf := some (fileOf pool0 8 #[] #[{ accessFlags := 1, nameIndex := 5, descriptorIndex := 6, attributes := #[] }] 33 0 #[] #[])
  fields := #[]
  methods := #[k0m0]
  instanceTypes := #[]
  staticTypes := #[]
  resolved := Array.replicate 124 none
  statics := none }

def pool1 : Array CpInfo := pool [(2, .class_ 4), (1, u "java/lang/Object"), (0, u "<init>"), (0, u "()V"), (0, .class_ 8), (0, u "com/example/velovector/velovector/graph/Slopes"), (0, .methodref 7 10), (0, .nameAndType 5 11), (0, u "(DDDDD)V"), (0, .methodref 7 13), (0, .nameAndType 14 15), (0, u "values"), (0, u "()[D"), (0, .class_ 17), (0, u "com/example/velovector/velovector/graph/SlopesValuesPinLaw"), (2, u "law"), (0, u "(IIIII)Z")] 5

def k1m0 : Method := { name := "<init>", desc := "()V", sig := { parameters := [], returnType := none }, accessFlags := 1, code := none }
def k1c1 : Code := { maxStack := 12, maxLocals := 20, code := code, exceptionTable := #[], attributes := #[] }
def k1m1 : Method := { name := "law", desc := "(IIIII)Z", sig := { parameters := [.int, .int, .int, .int, .int], returnType := some .boolean }, accessFlags := 9, code := some k1c1 }
/-- com/example/velovector/velovector/graph/SlopesValuesPinLaw -/
def k1 : Class := { plain "com/example/velovector/velovector/graph/SlopesValuesPinLaw" (some 0) with
  accessFlags := 49
  interfaces := #[]
  cf := some (fileOf pool1 16 #[] #[{ accessFlags := 1, nameIndex := 5, descriptorIndex := 6, attributes := #[] }, { accessFlags := 9, nameIndex := 20, descriptorIndex := 21, attributes := #[] }] 49 2 #[] #[])
  fields := #[]
  methods := #[k1m0, k1m1]
  instanceTypes := #[]
  staticTypes := #[]
  resolved := Array.replicate 27 none
  statics := none }

def pool2 : Array CpInfo := pool [(1, .methodref 2 3), (0, .class_ 4), (0, .nameAndType 5 6), (0, u "java/lang/Object"), (0, u "<init>"), (0, u "()V"), (0, .class_ 8), (0, u "java/lang/Record")] 13

def k2c0 : Code := { maxStack := 1, maxLocals := 1, code := jdk_30_method_1_code, exceptionTable := #[], attributes := #[] }
def k2m0 : Method := { name := "<init>", desc := "()V", sig := { parameters := [], returnType := none }, accessFlags := 4, code := some k2c0 }
/-- java/lang/Record -/
def k2 : Class := { plain "java/lang/Record" (some 0) with
  accessFlags := 1057
  interfaces := #[]
  cf := some (fileOf pool2 7 #[] #[{ accessFlags := 4, nameIndex := 5, descriptorIndex := 6, attributes := #[] }] 1057 2 #[] #[])
  fields := #[]
  methods := #[k2m0]
  instanceTypes := #[]
  staticTypes := #[]
  resolved := Array.replicate 22 none
  statics := none }

def pool3 : Array CpInfo := pool [(1, .methodref 2 3), (0, .class_ 4), (0, .nameAndType 5 6), (0, u "java/lang/Record"), (0, u "<init>"), (0, u "()V"), (0, .fieldref 8 9), (0, .class_ 10), (0, .nameAndType 11 12), (0, u "com/example/velovector/velovector/graph/Slopes"), (0, u "climbTimeM"), (0, u "D"), (0, .fieldref 8 14), (0, .nameAndType 15 12), (0, u "climbEffortM"), (0, .fieldref 8 17), (0, .nameAndType 18 12), (0, u "descentGain"), (0, .fieldref 8 20), (0, .nameAndType 21 12), (0, u "descentFullGrade"), (0, .fieldref 8 23), (0, .nameAndType 24 12), (0, u "topographyFullDeg"), (2, u "(DDDDD)V"), (17, u "values"), (0, u "()[D"), (32, u "COUNT"), (0, u "I"), (2, u "MAX_TOPOGRAPHY_FULL_DEG")] 49

def k3c0 : Code := { maxStack := 3, maxLocals := 11, code := prog_71_method_1_code, exceptionTable := #[], attributes := #[] }
def k3m0 : Method := { name := "<init>", desc := "(DDDDD)V", sig := { parameters := [.double, .double, .double, .double, .double], returnType := none }, accessFlags := 1, code := some k3c0 }
def k3c1 : Code := { maxStack := 5, maxLocals := 1, code := prog_71_method_3_code, exceptionTable := #[], attributes := #[] }
def k3m1 : Method := { name := "values", desc := "()[D", sig := { parameters := [], returnType := some (.array .double) }, accessFlags := 0, code := some k3c1 }
/-- com/example/velovector/velovector/graph/Slopes -/
def k3 : Class := { plain "com/example/velovector/velovector/graph/Slopes" (some 2) with
  accessFlags := 49
  interfaces := #[]
  cf := some (fileOf pool3 8 #[] #[{ accessFlags := 1, nameIndex := 5, descriptorIndex := 27, attributes := #[] }, { accessFlags := 0, nameIndex := 45, descriptorIndex := 46, attributes := #[] }] 49 2 #[] #[{ accessFlags := 18, nameIndex := 11, descriptorIndex := 12, attributes := #[] }, { accessFlags := 18, nameIndex := 15, descriptorIndex := 12, attributes := #[] }, { accessFlags := 18, nameIndex := 18, descriptorIndex := 12, attributes := #[] }, { accessFlags := 18, nameIndex := 21, descriptorIndex := 12, attributes := #[] }, { accessFlags := 18, nameIndex := 24, descriptorIndex := 12, attributes := #[] }, { accessFlags := 25, nameIndex := 79, descriptorIndex := 80, attributes := #[] }, { accessFlags := 24, nameIndex := 83, descriptorIndex := 12, attributes := #[] }])
  fields := #[{ name := "climbTimeM", type := .double, accessFlags := 18, slot := 0, constantValue := 0 }, { name := "climbEffortM", type := .double, accessFlags := 18, slot := 1, constantValue := 0 }, { name := "descentGain", type := .double, accessFlags := 18, slot := 2, constantValue := 0 }, { name := "descentFullGrade", type := .double, accessFlags := 18, slot := 3, constantValue := 0 }, { name := "topographyFullDeg", type := .double, accessFlags := 18, slot := 4, constantValue := 0 }, { name := "COUNT", type := .int, accessFlags := 25, slot := 0, constantValue := 0 }, { name := "MAX_TOPOGRAPHY_FULL_DEG", type := .double, accessFlags := 24, slot := 1, constantValue := 0 }]
  methods := #[k3m0, k3m1]
  instanceTypes := #[.double, .double, .double, .double, .double]
  staticTypes := #[.int, .double]
  resolved := Array.replicate 133 none
  statics := none }

def pool4 : Array CpInfo := pool [(1, u "java/lang/Cloneable"), (0, .class_ 1), (0, u "java/lang/Object"), (0, .class_ 3)] 3

/-- java/lang/Cloneable -/
def k4 : Class := { plain "java/lang/Cloneable" (some 0) with
  accessFlags := 1537
  interfaces := #[]
  cf := some (fileOf pool4 2 #[] #[] 1537 4 #[] #[])
  fields := #[]
  methods := #[]
  instanceTypes := #[]
  staticTypes := #[]
  resolved := Array.replicate 8 none
  statics := none }

def pool5 : Array CpInfo := pool [(1, u "java/io/Serializable"), (0, .class_ 1), (0, u "java/lang/Object"), (0, .class_ 3)] 3

/-- java/io/Serializable -/
def k5 : Class := { plain "java/io/Serializable" (some 0) with
  accessFlags := 1537
  interfaces := #[]
  cf := some (fileOf pool5 2 #[] #[] 1537 4 #[] #[])
  fields := #[]
  methods := #[]
  instanceTypes := #[]
  staticTypes := #[]
  resolved := Array.replicate 8 none
  statics := none }

/-- the primitive byte -/
def k6 : Class := { plain "byte" none with kind := .primitive 'B', accessFlags := 0x411 }
/-- [B -/
def k7 : Class := { plain "[B" (some 0) with kind := .array 6 .byte, interfaces := #[4, 5], accessFlags := 1041 }

/-- the primitive double -/
def k8 : Class := { plain "double" none with kind := .primitive 'D', accessFlags := 0x411 }
/-- [D -/
def k9 : Class := { plain "[D" (some 0) with kind := .array 8 .double, interfaces := #[4, 5], accessFlags := 1041 }

/-- the primitive int -/
def k10 : Class := { plain "int" none with kind := .primitive 'I', accessFlags := 0x411 }
/-- [I -/
def k11 : Class := { plain "[I" (some 0) with kind := .array 10 .int, interfaces := #[4, 5], accessFlags := 1041 }

def heap : Heap := #[]
def classes : Array Class := #[k0, k1, k2, k3, k4, k5, k6, k7, k8, k9, k10, k11]
def interned : List (Array UInt16 × Addr) := []
def slotsUsed : Nat := 0
def theMethod : MethodId := ⟨1, 1⟩
def args0 : Array Value := #[.int 3, .int 2, .int 5, .int 1, .int 7]
def aboutOver (below : List Frame) : State where
  vm := { classes := classes, interned := interned.toArray }
  heap := heap
  slotsUsed := slotsUsed
  threads := #[{ frames := .invoking theMethod args0 :: below }]
def below0 : List Frame := [.native { method := ⟨0, 0⟩, args := #[] }]
def about1 : State := aboutOver below0
def p0 : Program := .bare "" "" ""
def e0 : Env := launch0.env 0 0 0
theorem w_frames : about1.frames = Frame.invoking theMethod args0 :: below0 := rfl
set_option maxRecDepth 65536 in
theorem w_args : argsFit about1.vm theMethod args0 = true := by decide +kernel
set_option maxRecDepth 65536 in
theorem w_heap : heapFits about1 = true := by decide +kernel
set_option maxRecDepth 65536 in
theorem w_runnable : about1.curStatus? = some .runnable := by decide +kernel
set_option maxRecDepth 65536 in
theorem w_alone : about1.alone = true := by decide +kernel
set_option maxRecDepth 65536 in
theorem w_named : about1.methodNamed? x = some theMethod := by decide +kernel
set_option maxRecDepth 65536 in
theorem w_hears : about1.hears theMethod below0 = true := by decide +kernel
set_option maxRecDepth 65536 in
theorem w_ripe : about1.ripe theMethod args0 below0 = true := by decide +kernel
theorem w_running : about1.status = .running := rfl
set_option maxRecDepth 65536 in
theorem w_room : about1.hasRoom e0.platform room_1 = true :=
  launch0.hasRoom_least _ room_1 (by decide +kernel) (by decide +kernel) (by decide +kernel) (by decide +kernel) (by decide +kernel) (by decide +kernel)
theorem allAtoms_all (ts : List Jvm.Cond) (a : Array Jvm.Value) (st : Jvm.State) : (allAtoms ts).before a st = ts.all (fun c => c.before a st) := by
  induction ts with
  | nil => rfl
  | cons c t ih =>
    show (Jvm.Cond.and c (allAtoms t)).before a st = _
    rw [Jvm.Cond.before_and, ih, List.all_cons]
def words1 : List Jvm.Cond := Jvm.Cond.code x code maxLocals ret :: tables_1
/-- a 'code' word, met by the world's own term for the bytes: nothing is compared byte by byte -/
theorem code_word {y : MethodName} {bytes : ByteArray} {mx : Nat} {rt : Option FieldType} {a : Array Value} {s : State} {m : MethodId} {meth : Method} {c : Code} (h1 : s.methodNamed? y = some m) (h2 : s.vm.method? m = some meth) (h3 : meth.code = some c) (h4 : c.code = bytes)
    (h5 : (c.maxLocals == mx && c.exceptionTable.isEmpty && decide (c.maxStack ≤ mostOperands) && decide (meth.sig.returnType = rt) && !meth.locks && decide (parseMethodDescriptor y.desc = some meth.sig)) = true) : (Jvm.Cond.code y bytes mx rt).before a s = true := by
  simp only [Bool.and_eq_true, beq_iff_eq, Bool.not_eq_true', decide_eq_true_eq] at h5
  obtain ⟨⟨⟨⟨⟨g1, g2⟩, g3⟩, g4⟩, g5⟩, g6⟩ := h5
  simp [Cond.before, Cond.holds, Cond.value, h1, h2, h3, h4, g1, g2, g3, g4, g5, g6]
def isCode : Jvm.Cond → Bool
  | .code _ _ _ _ => true
  | _ => false
theorem all_split {L : List Jvm.Cond} {P : Jvm.Cond → Bool} (h1 : L.all (fun c => isCode c || P c) = true) (h2 : ∀ c ∈ L.filter isCode, P c = true) : L.all P = true := by
  refine List.all_eq_true.mpr fun c hc => ?_
  have h := List.all_eq_true.mp h1 c hc
  rcases Bool.eq_false_or_eq_true (isCode c) with hi | hi
  · exact h2 c (List.mem_filter.mpr ⟨hc, hi⟩)
  · simpa [hi] using h
set_option maxRecDepth 65536 in
theorem w_c0 : (Jvm.Cond.code x code maxLocals ret).before args0 about1 = true := code_word (m := ⟨1, 1⟩) (meth := k1m1) (c := k1c1) (by decide +kernel) rfl rfl rfl (by decide +kernel)
set_option maxRecDepth 65536 in
theorem w_c1 : (Jvm.Cond.code ({ cls := "com/example/velovector/velovector/graph/Slopes", name := "<init>", desc := "(DDDDD)V" } : Jvm.MethodName) prog_71_method_1_code (11 : Nat) (Option.none : Option Jvm.ClassFile.FieldType)).before args0 about1 = true := code_word (m := ⟨3, 0⟩) (meth := k3m0) (c := k3c0) (by decide +kernel) rfl rfl rfl (by decide +kernel)
set_option maxRecDepth 65536 in
theorem w_c2 : (Jvm.Cond.code ({ cls := "java/lang/Record", name := "<init>", desc := "()V" } : Jvm.MethodName) jdk_30_method_1_code (1 : Nat) (Option.none : Option Jvm.ClassFile.FieldType)).before args0 about1 = true := code_word (m := ⟨2, 0⟩) (meth := k2m0) (c := k2c0) (by decide +kernel) rfl rfl rfl (by decide +kernel)
set_option maxRecDepth 65536 in
theorem w_c3 : (Jvm.Cond.code ({ cls := "java/lang/Object", name := "<init>", desc := "()V" } : Jvm.MethodName) object_method_1_code (1 : Nat) (Option.none : Option Jvm.ClassFile.FieldType)).before args0 about1 = true := code_word (m := ⟨0, 0⟩) (meth := k0m0) (c := k0c0) (by decide +kernel) rfl rfl rfl (by decide +kernel)
set_option maxRecDepth 65536 in
theorem w_c4 : (Jvm.Cond.code ({ cls := "com/example/velovector/velovector/graph/Slopes", name := "values", desc := "()[D" } : Jvm.MethodName) prog_71_method_3_code (1 : Nat) (Option.some (Jvm.ClassFile.FieldType.array Jvm.ClassFile.FieldType.double))).before args0 about1 = true := code_word (m := ⟨3, 1⟩) (meth := k3m1) (c := k3c1) (by decide +kernel) rfl rfl rfl (by decide +kernel)
def codes1 : List Jvm.Cond := [Jvm.Cond.code x code maxLocals ret, Jvm.Cond.code ({ cls := "com/example/velovector/velovector/graph/Slopes", name := "<init>", desc := "(DDDDD)V" } : Jvm.MethodName) prog_71_method_1_code (11 : Nat) (Option.none : Option Jvm.ClassFile.FieldType), Jvm.Cond.code ({ cls := "java/lang/Record", name := "<init>", desc := "()V" } : Jvm.MethodName) jdk_30_method_1_code (1 : Nat) (Option.none : Option Jvm.ClassFile.FieldType), Jvm.Cond.code ({ cls := "java/lang/Object", name := "<init>", desc := "()V" } : Jvm.MethodName) object_method_1_code (1 : Nat) (Option.none : Option Jvm.ClassFile.FieldType), Jvm.Cond.code ({ cls := "com/example/velovector/velovector/graph/Slopes", name := "values", desc := "()[D" } : Jvm.MethodName) prog_71_method_3_code (1 : Nat) (Option.some (Jvm.ClassFile.FieldType.array Jvm.ClassFile.FieldType.double))]
set_option maxRecDepth 65536 in
theorem codes_eq : words1.filter isCode = codes1 := rfl
theorem w_codes : ∀ c ∈ words1.filter isCode, c.before args0 about1 = true := by
  rw [codes_eq]
  intro c hc
  simp only [codes1, List.mem_cons, List.not_mem_nil, or_false] at hc
  rcases hc with rfl | rfl | rfl | rfl | rfl
  · exact w_c0
  · exact w_c1
  · exact w_c2
  · exact w_c3
  · exact w_c4
set_option maxRecDepth 65536 in
theorem w_t1 : (words1.take 24).all (fun c => isCode c || c.before args0 about1) = true := by decide +kernel
set_option maxRecDepth 65536 in
theorem w_t2 : (words1.drop 24).all (fun c => isCode c || c.before args0 about1) = true := by decide +kernel
theorem w_tables : (allAtoms (Jvm.Cond.code x code maxLocals ret :: tables_1)).before args0 about1 = true := by
  rw [allAtoms_all]
  show words1.all (fun c => c.before args0 about1) = true
  refine all_split ?_ w_codes
  rw [← List.take_append_drop 24 words1, List.all_append, w_t1, w_t2]
  rfl
set_option maxRecDepth 65536 in
theorem w_case : (Jvm.Cond.and given_1 narrow_1).before args0 about1 = true := by decide +kernel
theorem w_applies : (headSpec (Jvm.Cond.code x code maxLocals ret :: tables_1) room_1).applies x e0.platform about1 = true :=
  (Spec.applies_iff w_frames).mpr ⟨w_running, w_runnable, w_alone, w_named, w_hears, w_ripe, w_room, w_tables⟩
theorem atStart : AtStart classFile x code maxLocals ret World_1 tables_1 room_1 Calls_1 rest_1 Pre_1 launch0 p0 e0 about1 theMethod args0 below0 :=
  ⟨lists_1, trivial, launch0.admits_env _ _ _, launch0.least_env, fairChoices_fair.cas, fairChoices_fair.clock, w_frames, w_args, w_heap, w_applies, trivial, trivial, w_case⟩
end start1
theorem witness_1 : WitnessClaimed_1 := ⟨start1.p0, start1.e0, start1.about1, start1.theMethod, start1.args0, start1.below0, start1.atStart⟩
end Jvm.Pilot.@@N@@
