import JvmDerived
import JvmDerived.Pilot.@@N@@Statement
import JvmDerived.Pilot.@@N@@Code
set_option linter.unusedVariables false
set_option linter.unusedSimpArgs false
namespace Jvm.OwnGo
open Sem ClassFile Op Lib Jvm.Stand Jvm.Free Jvm.LawKit Jvm.RoadKit Jvm.Free.Fl
/-- from S the run comes to an end of which P speaks -/
def Go (p : Program) (e : Env) (below : List Frame) (P : Outcome → State → Prop) (S : State) : Prop := ∃ s₂ o, Steps p.tables e below S s₂ ∧ s₂.status = .running ∧ Ended s₂ below o ∧ P o s₂
/-- what a body's end says -/
def EndsAt (s : State) (Q : Option Value → Heap → List Loc → Prop) (rm : Room) : Outcome → State → Prop := fun o U' => ∃ v L, o = .returned v ∧ Q v U'.heap L ∧ FrameEnd s o U' L rm.cells rm.slots
/-- a body's contract -/
def Ct (l : Launch) (Z : State) (y : MethodName) (bytes : ByteArray) (ml : Nat) (ret : Option FieldType) (ws : List Jvm.Cond) (rm : Room) (as : Array Value) (h0 : Heap) (Q : Option Value → Heap → List Loc → Prop) : Prop :=
  MetFree l y (head1 (Jvm.Cond.code y bytes ml ret :: ws) rm) (fun a U => a = as ∧ Z.Warmed39 U.vm ∧ U.heap = h0) (fun _ _ _ _ _ => True) (fun _ U o U' => EndsAt U Q rm o U')
section Steps1
variable {p : Program} {l : Launch} {e : Env} {R : Room} {s : State} {m : MethodId} {args : Array Value} {below : List Frame} {meth : Method} {c : Code} {T : State} {locs : List Loc} {cells slots : Nat} {P : Outcome → State → Prop} {pc : Nat} {L L' : Array Slot} {st : List Value} {Z : State} {h h' : Heap} {a0 : Array Value} {rm : Room} {Q : Option Value → Heap → List Loc → Prop}
theorem Go.via {S S' : State} (k : ∀ t, Steps p.tables e below S' t → Steps p.tables e below S t) (g : Go p e below P S') : Go p e below P S := by
  obtain ⟨s2, o, h1, h2⟩ := g; exact ⟨s2, o, k _ h1, h2⟩
theorem Go.tr {S S' : State} (k : Steps p.tables e below S S') (g : Go p e below P S') : Go p e below P S := by
  obtain ⟨s2, o, h1, h2⟩ := g; exact ⟨s2, o, k.trans h1, h2⟩
theorem Ct.intro {y : MethodName} {bytes : ByteArray} {ml : Nat} {ret : Option FieldType} {ws : List Jvm.Cond} {as : Array Value} {h0 : Heap} (hpn : plainFor y = true) (L0 : Array Slot) (hef : ∀ m, entryFrame m as ml = mkF m 0 L0 [])
    (k : ∀ (p : Program) (e : Env) (s : State) (m : MethodId) (below : List Frame) (meth : Method) (c : Code) (T : State), Stand p l e rm s m as below meth c T [] 0 0 → p.tables.exec = Jvm.exec → Z.Warmed39 s.vm → c.code = bytes → c.maxLocals = ml → s.vm.findClass y.cls = some m.cls → meth.name = y.name → meth.sig.returnType = ret → meth.locks = false → T.heap = h0 → Go p e below (EndsAt s Q rm) (T.setTop (mkF m 0 L0 []))) :
    Ct l Z y bytes ml ret ws rm as h0 Q := by
  refine MetFree.of_bodySF hpn hisR ?_
  intro p e s m args below meth c s₁ Bd hml0 hP hK
  obtain ⟨rfl, hZ, hh⟩ := hP
  obtain ⟨s2, o, h1, h2, h3, h4⟩ := k p e s m below meth c s₁ (Stand.of_body Bd) Bd.exec hZ Bd.bytes hml0 (findClass_of_methodNamed Bd.named) (name_of_methodNamed Bd.named Bd.method).1 Bd.returns (BodyLoose.notSynchronized Bd) (by rw [← hh, Bd.state]; rfl)
  exact ⟨s2, o, castTop (hef m) h1, h2, h3, h4⟩
theorem retW (X : Stand p l e R s m args below meth c T locs cells slots) (hx : p.tables.exec = Jvm.exec) (hlk : meth.locks = false) {w : Value} {t : FieldType} {i : Instr} {rest : List Value} (hret : meth.sig.returnType = some t) (hn : narrow t w = w)
    (hi : (i = .ireturn ∧ (t = .int ∨ t = .boolean ∨ t = .byte ∨ t = .char ∨ t = .short) ∧ ∃ z, w = .int z) ∨ (i = .lreturn ∧ t = .long ∧ ∃ z, w = .long z) ∨ (i = .dreturn ∧ t = .double ∧ ∃ z, w = .double z) ∨ (i = .freturn ∧ t = .float ∧ ∃ z, w = .float z) ∨ (i = .areturn ∧ t.isReference = true ∧ w.isRef = true))
    (hd : decode c.code pc = .ok (i, 1)) (eT : T.heap = h) (hq : Q (some w) h locs) (hc : cells ≤ rm.cells) (hs : slots ≤ rm.slots) : Go p e below (EndsAt s Q rm) (T.setTop (mkF m pc L (w :: rest))) := by
  obtain ⟨fs, hr, hrun, hended, hW, hsame⟩ := X.leave (v := some w) (fun q => by rw [hret] at q; cases q) hlk
  refine ⟨_, _, retOut X hx hret hn hi hd hr, hrun, hended, _, _, rfl, ?_, ⟨_, rfl⟩, hW, hsame.mono hc hs⟩
  show Q (some w) T.heap locs
  rw [eT]; exact hq
theorem retI (X : Stand p l e R s m args below meth c T locs cells slots) (hx : p.tables.exec = Jvm.exec) (hlk : meth.locks = false) {z : Int32} {rest : List Value} (hret : meth.sig.returnType = some .int) (hd : decode c.code pc = .ok (.ireturn, 1)) (eT : T.heap = h) (hq : Q (some (.int z)) h locs) (hc : cells ≤ rm.cells) (hs : slots ≤ rm.slots) : Go p e below (EndsAt s Q rm) (T.setTop (mkF m pc L (.int z :: rest))) :=
  retW X hx hlk hret rfl (Or.inl ⟨rfl, Or.inl rfl, z, rfl⟩) hd eT hq hc hs
theorem retZ (X : Stand p l e R s m args below meth c T locs cells slots) (hx : p.tables.exec = Jvm.exec) (hlk : meth.locks = false) {z : Int32} {rest : List Value} (hret : meth.sig.returnType = some .boolean) (hd : decode c.code pc = .ok (.ireturn, 1)) (hn : narrow .boolean (.int z) = .int z) (eT : T.heap = h) (hq : Q (some (.int z)) h locs) (hc : cells ≤ rm.cells) (hs : slots ≤ rm.slots) : Go p e below (EndsAt s Q rm) (T.setTop (mkF m pc L (.int z :: rest))) :=
  retW X hx hlk hret hn (Or.inl ⟨rfl, Or.inr (Or.inl rfl), z, rfl⟩) hd eT hq hc hs
theorem retJ (X : Stand p l e R s m args below meth c T locs cells slots) (hx : p.tables.exec = Jvm.exec) (hlk : meth.locks = false) {z : Int64} {rest : List Value} (hret : meth.sig.returnType = some .long) (hd : decode c.code pc = .ok (.lreturn, 1)) (eT : T.heap = h) (hq : Q (some (.long z)) h locs) (hc : cells ≤ rm.cells) (hs : slots ≤ rm.slots) : Go p e below (EndsAt s Q rm) (T.setTop (mkF m pc L (.long z :: rest))) :=
  retW X hx hlk hret rfl (Or.inr (Or.inl ⟨rfl, rfl, z, rfl⟩)) hd eT hq hc hs
theorem retD (X : Stand p l e R s m args below meth c T locs cells slots) (hx : p.tables.exec = Jvm.exec) (hlk : meth.locks = false) {z : UInt64} {rest : List Value} (hret : meth.sig.returnType = some .double) (hd : decode c.code pc = .ok (.dreturn, 1)) (eT : T.heap = h) (hq : Q (some (.double z)) h locs) (hc : cells ≤ rm.cells) (hs : slots ≤ rm.slots) : Go p e below (EndsAt s Q rm) (T.setTop (mkF m pc L (.double z :: rest))) :=
  retW X hx hlk hret rfl (Or.inr (Or.inr (Or.inl ⟨rfl, rfl, z, rfl⟩))) hd eT hq hc hs
theorem retA (X : Stand p l e R s m args below meth c T locs cells slots) (hx : p.tables.exec = Jvm.exec) (hlk : meth.locks = false) {t : FieldType} {z : Addr} {rest : List Value} (hret : meth.sig.returnType = some t) (ht : t.isReference = true) (hn : narrow t (.ref z) = .ref z) (hd : decode c.code pc = .ok (.areturn, 1)) (eT : T.heap = h) (hq : Q (some (.ref z)) h locs) (hc : cells ≤ rm.cells) (hs : slots ≤ rm.slots) : Go p e below (EndsAt s Q rm) (T.setTop (mkF m pc L (.ref z :: rest))) :=
  retW X hx hlk hret hn (Or.inr (Or.inr (Or.inr (Or.inr ⟨rfl, ht, rfl⟩)))) hd eT hq hc hs
theorem retV (X : Stand p l e R s m args below meth c T locs cells slots) (hx : p.tables.exec = Jvm.exec) (hlk : meth.locks = false) (hret : meth.sig.returnType = none) (hd : decode c.code pc = .ok (.return_, 1)) (eT : T.heap = h) (hq : Q none h locs) (hc : cells ≤ rm.cells) (hs : slots ≤ rm.slots) : Go p e below (EndsAt s Q rm) (T.setTop (mkF m pc L [])) := by
  obtain ⟨fs, hr, hrun, hended, hW, hsame⟩ := X.leave (v := none) (fun _ => rfl) hlk
  refine ⟨_, _, X.returnOut hx hret hd hr, hrun, hended, _, _, rfl, ?_, ⟨_, rfl⟩, hW, hsame.mono hc hs⟩
  show Q none T.heap locs
  rw [eT]; exact hq
theorem s_iload (X : Stand p l e R s m args below meth c T locs cells slots) (hx : p.tables.exec = Jvm.exec) {k : Nat} {v : Int32} (hd : decode c.code pc = .ok (.iload k, 2)) (hl : L[k]? = some (.val (.int v))) (pc' : Nat) (hp : pc + 2 = pc') (g : Go p e below P (T.setTop (mkF m pc' L (.int v :: st)))) : Go p e below P (T.setTop (mkF m pc L (st))) := by
  subst hp; exact Go.via (fun _ k => XS.iload X.here hx rfl hd hl k) g
theorem s_iloadN (X : Stand p l e R s m args below meth c T locs cells slots) (hx : p.tables.exec = Jvm.exec) {k : Fin 4} {v : Int32} (hd : decode c.code pc = .ok (.iload_n k, 1)) (hl : L[k.val]? = some (.val (.int v))) (pc' : Nat) (hp : pc + 1 = pc') (g : Go p e below P (T.setTop (mkF m pc' L (.int v :: st)))) : Go p e below P (T.setTop (mkF m pc L (st))) := by
  subst hp; exact Go.via (fun _ k => XS.iloadN X.here hx rfl hd hl k) g
theorem s_istore (X : Stand p l e R s m args below meth c T locs cells slots) (hx : p.tables.exec = Jvm.exec) {k : Nat} {v : Int32} (hd : decode c.code pc = .ok (.istore k, 2)) (L' : Array Slot) (hl : storeLocals L k (.int v) = some L') (pc' : Nat) (hp : pc + 2 = pc') (g : Go p e below P (T.setTop (mkF m pc' L' (st)))) : Go p e below P (T.setTop (mkF m pc L (.int v :: st))) := by
  subst hp; exact Go.via (fun _ k => XS.istore X.here hx rfl hd rfl hl k) g
theorem s_istoreN (X : Stand p l e R s m args below meth c T locs cells slots) (hx : p.tables.exec = Jvm.exec) {k : Fin 4} {v : Int32} (hd : decode c.code pc = .ok (.istore_n k, 1)) (L' : Array Slot) (hl : storeLocals L k.val (.int v) = some L') (pc' : Nat) (hp : pc + 1 = pc') (g : Go p e below P (T.setTop (mkF m pc' L' (st)))) : Go p e below P (T.setTop (mkF m pc L (.int v :: st))) := by
  subst hp; exact Go.via (fun _ k => XS.istoreN X.here hx rfl hd rfl hl k) g
theorem s_lload (X : Stand p l e R s m args below meth c T locs cells slots) (hx : p.tables.exec = Jvm.exec) {k : Nat} {v : Int64} (hd : decode c.code pc = .ok (.lload k, 2)) (hl : L[k]? = some (.val (.long v))) (pc' : Nat) (hp : pc + 2 = pc') (g : Go p e below P (T.setTop (mkF m pc' L (.long v :: st)))) : Go p e below P (T.setTop (mkF m pc L (st))) := by
  subst hp; exact Go.via (fun _ k => XT.lload X.here hx rfl hd hl k) g
theorem s_lloadN (X : Stand p l e R s m args below meth c T locs cells slots) (hx : p.tables.exec = Jvm.exec) {k : Fin 4} {v : Int64} (hd : decode c.code pc = .ok (.lload_n k, 1)) (hl : L[k.val]? = some (.val (.long v))) (pc' : Nat) (hp : pc + 1 = pc') (g : Go p e below P (T.setTop (mkF m pc' L (.long v :: st)))) : Go p e below P (T.setTop (mkF m pc L (st))) := by
  subst hp; exact Go.via (fun _ k => XT.lloadN X.here hx rfl hd hl k) g
theorem s_lstore (X : Stand p l e R s m args below meth c T locs cells slots) (hx : p.tables.exec = Jvm.exec) {k : Nat} {v : Int64} (hd : decode c.code pc = .ok (.lstore k, 2)) (L' : Array Slot) (hl : storeLocals L k (.long v) = some L') (pc' : Nat) (hp : pc + 2 = pc') (g : Go p e below P (T.setTop (mkF m pc' L' (st)))) : Go p e below P (T.setTop (mkF m pc L (.long v :: st))) := by
  subst hp; exact Go.via (fun _ k => XT.lstore X.here hx rfl hd rfl hl k) g
theorem s_lstoreN (X : Stand p l e R s m args below meth c T locs cells slots) (hx : p.tables.exec = Jvm.exec) {k : Fin 4} {v : Int64} (hd : decode c.code pc = .ok (.lstore_n k, 1)) (L' : Array Slot) (hl : storeLocals L k.val (.long v) = some L') (pc' : Nat) (hp : pc + 1 = pc') (g : Go p e below P (T.setTop (mkF m pc' L' (st)))) : Go p e below P (T.setTop (mkF m pc L (.long v :: st))) := by
  subst hp; exact Go.via (fun _ k => XT.lstoreN X.here hx rfl hd rfl hl k) g
theorem s_dload (X : Stand p l e R s m args below meth c T locs cells slots) (hx : p.tables.exec = Jvm.exec) {k : Nat} {v : UInt64} (hd : decode c.code pc = .ok (.dload k, 2)) (hl : L[k]? = some (.val (.double v))) (pc' : Nat) (hp : pc + 2 = pc') (g : Go p e below P (T.setTop (mkF m pc' L (.double v :: st)))) : Go p e below P (T.setTop (mkF m pc L (st))) := by
  subst hp; exact Go.via (fun _ k => XS.dload X.here hx rfl hd hl k) g
theorem s_dloadN (X : Stand p l e R s m args below meth c T locs cells slots) (hx : p.tables.exec = Jvm.exec) {k : Fin 4} {v : UInt64} (hd : decode c.code pc = .ok (.dload_n k, 1)) (hl : L[k.val]? = some (.val (.double v))) (pc' : Nat) (hp : pc + 1 = pc') (g : Go p e below P (T.setTop (mkF m pc' L (.double v :: st)))) : Go p e below P (T.setTop (mkF m pc L (st))) := by
  subst hp; exact Go.via (fun _ k => XS.dloadN X.here hx rfl hd hl k) g
theorem s_dstore (X : Stand p l e R s m args below meth c T locs cells slots) (hx : p.tables.exec = Jvm.exec) {k : Nat} {v : UInt64} (hd : decode c.code pc = .ok (.dstore k, 2)) (L' : Array Slot) (hl : storeLocals L k (.double v) = some L') (pc' : Nat) (hp : pc + 2 = pc') (g : Go p e below P (T.setTop (mkF m pc' L' (st)))) : Go p e below P (T.setTop (mkF m pc L (.double v :: st))) := by
  subst hp; exact Go.via (fun _ k => XS.dstore X.here hx rfl hd rfl hl k) g
theorem s_dstoreN (X : Stand p l e R s m args below meth c T locs cells slots) (hx : p.tables.exec = Jvm.exec) {k : Fin 4} {v : UInt64} (hd : decode c.code pc = .ok (.dstore_n k, 1)) (L' : Array Slot) (hl : storeLocals L k.val (.double v) = some L') (pc' : Nat) (hp : pc + 1 = pc') (g : Go p e below P (T.setTop (mkF m pc' L' (st)))) : Go p e below P (T.setTop (mkF m pc L (.double v :: st))) := by
  subst hp; exact Go.via (fun _ k => XS.dstoreN X.here hx rfl hd rfl hl k) g
theorem s_aload (X : Stand p l e R s m args below meth c T locs cells slots) (hx : p.tables.exec = Jvm.exec) {k : Nat} {v : Value} (hd : decode c.code pc = .ok (.aload k, 2)) (hl : L[k]? = some (.val v)) (hv : v.isRef = true) (pc' : Nat) (hp : pc + 2 = pc') (g : Go p e below P (T.setTop (mkF m pc' L (v :: st)))) : Go p e below P (T.setTop (mkF m pc L (st))) := by
  subst hp; exact Go.via (fun _ k => XS.aload X.here hx rfl hd hl hv k) g
theorem s_aloadN (X : Stand p l e R s m args below meth c T locs cells slots) (hx : p.tables.exec = Jvm.exec) {k : Fin 4} {v : Value} (hd : decode c.code pc = .ok (.aload_n k, 1)) (hl : L[k.val]? = some (.val v)) (hv : v.isRef = true) (pc' : Nat) (hp : pc + 1 = pc') (g : Go p e below P (T.setTop (mkF m pc' L (v :: st)))) : Go p e below P (T.setTop (mkF m pc L (st))) := by
  subst hp; exact Go.via (fun _ k => XS.aloadN X.here hx rfl hd hl hv k) g
theorem s_astore (X : Stand p l e R s m args below meth c T locs cells slots) (hx : p.tables.exec = Jvm.exec) {k : Nat} {v : Value} (hd : decode c.code pc = .ok (.astore k, 2)) (hv : v.isRef = true) (L' : Array Slot) (hl : storeLocals L k v = some L') (pc' : Nat) (hp : pc + 2 = pc') (g : Go p e below P (T.setTop (mkF m pc' L' (st)))) : Go p e below P (T.setTop (mkF m pc L (v :: st))) := by
  subst hp; exact Go.via (fun _ k => XS.astore X.here hx rfl hd rfl hv hl k) g
theorem s_astoreN (X : Stand p l e R s m args below meth c T locs cells slots) (hx : p.tables.exec = Jvm.exec) {k : Fin 4} {v : Value} (hd : decode c.code pc = .ok (.astore_n k, 1)) (hv : v.isRef = true) (L' : Array Slot) (hl : storeLocals L k.val v = some L') (pc' : Nat) (hp : pc + 1 = pc') (g : Go p e below P (T.setTop (mkF m pc' L' (st)))) : Go p e below P (T.setTop (mkF m pc L (v :: st))) := by
  subst hp; exact Go.via (fun _ k => XS.astoreN X.here hx rfl hd rfl hv hl k) g
theorem s_iconst (X : Stand p l e R s m args below meth c T locs cells slots) (hx : p.tables.exec = Jvm.exec) {i : Int} (hd : decode c.code pc = .ok (.iconst i, 1)) (v : Int32) (hv : Int32.ofInt i = v) (pc' : Nat) (hp : pc + 1 = pc') (g : Go p e below P (T.setTop (mkF m pc' L (.int v :: st)))) : Go p e below P (T.setTop (mkF m pc L (st))) := by
  subst hp hv; exact Go.via (fun _ k => XS.iconst X.here hx rfl hd k) g
theorem s_bipush (X : Stand p l e R s m args below meth c T locs cells slots) (hx : p.tables.exec = Jvm.exec) {i : Int} (hd : decode c.code pc = .ok (.bipush i, 2)) (v : Int32) (hv : (Int8.ofInt i).toInt32 = v) (pc' : Nat) (hp : pc + 2 = pc') (g : Go p e below P (T.setTop (mkF m pc' L (.int v :: st)))) : Go p e below P (T.setTop (mkF m pc L (st))) := by
  subst hp hv; exact Go.via (fun _ k => XS.bipush X.here hx rfl hd k) g
theorem s_sipush (X : Stand p l e R s m args below meth c T locs cells slots) (hx : p.tables.exec = Jvm.exec) {i : Int} (hd : decode c.code pc = .ok (.sipush i, 3)) (v : Int32) (hv : (Int16.ofInt i).toInt32 = v) (pc' : Nat) (hp : pc + 3 = pc') (g : Go p e below P (T.setTop (mkF m pc' L (.int v :: st)))) : Go p e below P (T.setTop (mkF m pc L (st))) := by
  subst hp hv; exact Go.via (fun _ k => XS.sipush X.here hx rfl hd k) g
theorem s_lconst (X : Stand p l e R s m args below meth c T locs cells slots) (hx : p.tables.exec = Jvm.exec) {i : Fin 2} (hd : decode c.code pc = .ok (.lconst i, 1)) (v : Int64) (hv : Int64.ofNat i = v) (pc' : Nat) (hp : pc + 1 = pc') (g : Go p e below P (T.setTop (mkF m pc' L (.long v :: st)))) : Go p e below P (T.setTop (mkF m pc L (st))) := by
  subst hp; exact Go.via (fun _ k => XT.lconstV X.here hx rfl v hd hv k) g
theorem s_null (X : Stand p l e R s m args below meth c T locs cells slots) (hx : p.tables.exec = Jvm.exec)  (hd : decode c.code pc = .ok (.aconst_null, 1))  (pc' : Nat) (hp : pc + 1 = pc') (g : Go p e below P (T.setTop (mkF m pc' L (.null :: st)))) : Go p e below P (T.setTop (mkF m pc L (st))) := by
  subst hp; exact Go.via (fun _ k => XS.aconstNull X.here hx rfl hd k) g
theorem s_dconst0 (X : Stand p l e R s m args below meth c T locs cells slots) (hx : p.tables.exec = Jvm.exec)  (hd : decode c.code pc = .ok (.dconst 0, 1)) (v : UInt64) (hv : FP.dconst0 = v) (pc' : Nat) (hp : pc + 1 = pc') (g : Go p e below P (T.setTop (mkF m pc' L (.double v :: st)))) : Go p e below P (T.setTop (mkF m pc L (st))) := by
  subst hp; exact Go.via (fun _ k => XS.dconst0 X.here hx rfl hd hv k) g
theorem s_dconst1 (X : Stand p l e R s m args below meth c T locs cells slots) (hx : p.tables.exec = Jvm.exec)  (hd : decode c.code pc = .ok (.dconst 1, 1)) (v : UInt64) (hv : FP.dconst1 = v) (pc' : Nat) (hp : pc + 1 = pc') (g : Go p e below P (T.setTop (mkF m pc' L (.double v :: st)))) : Go p e below P (T.setTop (mkF m pc L (st))) := by
  subst hp; exact Go.via (fun _ k => XS.dconst1 X.here hx rfl hd hv k) g
theorem s_ldcI (X : Stand p l e R s m args below meth c T locs cells slots) (hx : p.tables.exec = Jvm.exec) {i : Nat} {v : Int32} (hd : decode c.code pc = .ok (.ldc i, 2)) (hZ : Z.Warmed39 s.vm) {own : String} (hown : s.vm.findClass own = some m.cls) (w : (Cond.constant own i v).before a0 Z = true) (pc' : Nat) (hp : pc + 2 = pc') (g : Go p e below P (T.setTop (mkF m pc' L (.int v :: st)))) : Go p e below P (T.setTop (mkF m pc L (st))) := by
  subst hp; exact Go.via (fun _ k => X.ldcI hx hown (mvT hZ w) rfl hd k) g
theorem s_ldc2J (X : Stand p l e R s m args below meth c T locs cells slots) (hx : p.tables.exec = Jvm.exec) {i : Nat} {v : Int64} (hd : decode c.code pc = .ok (.ldc2_w i, 3)) (hZ : Z.Warmed39 s.vm) {own : String} (hown : s.vm.findClass own = some m.cls) (w : (Cond.constantLong own i v).before a0 Z = true) (pc' : Nat) (hp : pc + 3 = pc') (g : Go p e below P (T.setTop (mkF m pc' L (.long v :: st)))) : Go p e below P (T.setTop (mkF m pc L (st))) := by
  subst hp; exact Go.via (fun _ k => X.ldc2J hx hown (mvT hZ w) rfl hd k) g
theorem s_ldc2D (X : Stand p l e R s m args below meth c T locs cells slots) (hx : p.tables.exec = Jvm.exec) {i : Nat} {v : UInt64} (hd : decode c.code pc = .ok (.ldc2_w i, 3)) (hZ : Z.Warmed39 s.vm) {own : String} (hown : s.vm.findClass own = some m.cls) (w : (Cond.constantDouble own i v).before a0 Z = true) (pc' : Nat) (hp : pc + 3 = pc') (g : Go p e below P (T.setTop (mkF m pc' L (.double v :: st)))) : Go p e below P (T.setTop (mkF m pc L (st))) := by
  subst hp; exact Go.via (fun _ k => X.ldc2DoubleC hx hown (mvT hZ w) (g := mkF m pc L st) rfl hd _ k) g
theorem s_iadd (X : Stand p l e R s m args below meth c T locs cells slots) (hx : p.tables.exec = Jvm.exec) {x y : Int32} (hd : decode c.code pc = .ok (.iadd, 1)) (v : Int32) (hv : x + y = v) (pc' : Nat) (hp : pc + 1 = pc') (g : Go p e below P (T.setTop (mkF m pc' L (.int v :: st)))) : Go p e below P (T.setTop (mkF m pc L (.int y :: .int x :: st))) := by
  subst hp hv; exact Go.via (fun _ k => XS.iadd X.here hx rfl hd rfl k) g
theorem s_isub (X : Stand p l e R s m args below meth c T locs cells slots) (hx : p.tables.exec = Jvm.exec) {x y : Int32} (hd : decode c.code pc = .ok (.isub, 1)) (v : Int32) (hv : x - y = v) (pc' : Nat) (hp : pc + 1 = pc') (g : Go p e below P (T.setTop (mkF m pc' L (.int v :: st)))) : Go p e below P (T.setTop (mkF m pc L (.int y :: .int x :: st))) := by
  subst hp hv; exact Go.via (fun _ k => XS.isub X.here hx rfl hd rfl k) g
theorem s_imul (X : Stand p l e R s m args below meth c T locs cells slots) (hx : p.tables.exec = Jvm.exec) {x y : Int32} (hd : decode c.code pc = .ok (.imul, 1)) (v : Int32) (hv : x * y = v) (pc' : Nat) (hp : pc + 1 = pc') (g : Go p e below P (T.setTop (mkF m pc' L (.int v :: st)))) : Go p e below P (T.setTop (mkF m pc L (.int y :: .int x :: st))) := by
  subst hp hv; exact Go.via (fun _ k => XS.imul X.here hx rfl hd rfl k) g
theorem s_iand (X : Stand p l e R s m args below meth c T locs cells slots) (hx : p.tables.exec = Jvm.exec) {x y : Int32} (hd : decode c.code pc = .ok (.iand, 1)) (v : Int32) (hv : x &&& y = v) (pc' : Nat) (hp : pc + 1 = pc') (g : Go p e below P (T.setTop (mkF m pc' L (.int v :: st)))) : Go p e below P (T.setTop (mkF m pc L (.int y :: .int x :: st))) := by
  subst hp hv; exact Go.via (fun _ k => XS.iand X.here hx rfl hd rfl k) g
theorem s_ixor (X : Stand p l e R s m args below meth c T locs cells slots) (hx : p.tables.exec = Jvm.exec) {x y : Int32} (hd : decode c.code pc = .ok (.ixor, 1)) (v : Int32) (hv : x ^^^ y = v) (pc' : Nat) (hp : pc + 1 = pc') (g : Go p e below P (T.setTop (mkF m pc' L (.int v :: st)))) : Go p e below P (T.setTop (mkF m pc L (.int y :: .int x :: st))) := by
  subst hp hv; exact Go.via (fun _ k => XT.ixor X.here hx rfl hd rfl k) g
theorem s_ior (X : Stand p l e R s m args below meth c T locs cells slots) (hx : p.tables.exec = Jvm.exec) {x y : Int32} (hd : decode c.code pc = .ok (.ior, 1)) (v : Int32) (hv : x ||| y = v) (pc' : Nat) (hp : pc + 1 = pc') (g : Go p e below P (T.setTop (mkF m pc' L (.int v :: st)))) : Go p e below P (T.setTop (mkF m pc L (.int y :: .int x :: st))) := by
  subst hp hv; exact Go.via (fun _ k => XT.ior X.here hx rfl hd rfl k) g
theorem s_ishl (X : Stand p l e R s m args below meth c T locs cells slots) (hx : p.tables.exec = Jvm.exec) {x y : Int32} (hd : decode c.code pc = .ok (.ishl, 1)) (v : Int32) (hv : x <<< (y &&& 31) = v) (pc' : Nat) (hp : pc + 1 = pc') (g : Go p e below P (T.setTop (mkF m pc' L (.int v :: st)))) : Go p e below P (T.setTop (mkF m pc L (.int y :: .int x :: st))) := by
  subst hp hv; exact Go.via (fun _ k => XT.ishl X.here hx rfl hd rfl k) g
theorem s_ishr (X : Stand p l e R s m args below meth c T locs cells slots) (hx : p.tables.exec = Jvm.exec) {x y : Int32} (hd : decode c.code pc = .ok (.ishr, 1)) (v : Int32) (hv : x >>> (y &&& 31) = v) (pc' : Nat) (hp : pc + 1 = pc') (g : Go p e below P (T.setTop (mkF m pc' L (.int v :: st)))) : Go p e below P (T.setTop (mkF m pc L (.int y :: .int x :: st))) := by
  subst hp hv; exact Go.via (fun _ k => XT.ishr X.here hx rfl hd rfl k) g
theorem s_iushr (X : Stand p l e R s m args below meth c T locs cells slots) (hx : p.tables.exec = Jvm.exec) {x y : Int32} (hd : decode c.code pc = .ok (.iushr, 1)) (v : Int32) (hv : XT.ushr x y = v) (pc' : Nat) (hp : pc + 1 = pc') (g : Go p e below P (T.setTop (mkF m pc' L (.int v :: st)))) : Go p e below P (T.setTop (mkF m pc L (.int y :: .int x :: st))) := by
  subst hp hv; exact Go.via (fun _ k => XT.iushr X.here hx rfl hd rfl k) g
theorem s_idiv (X : Stand p l e R s m args below meth c T locs cells slots) (hx : p.tables.exec = Jvm.exec) {x y : Int32} (hd : decode c.code pc = .ok (.idiv, 1)) (hy : y ≠ 0) (v : Int32) (hv : x / y = v) (pc' : Nat) (hp : pc + 1 = pc') (g : Go p e below P (T.setTop (mkF m pc' L (.int v :: st)))) : Go p e below P (T.setTop (mkF m pc L (.int y :: .int x :: st))) := by
  subst hp hv; exact Go.via (fun _ k => XS.idiv X.here hx rfl hd rfl hy k) g
theorem s_irem (X : Stand p l e R s m args below meth c T locs cells slots) (hx : p.tables.exec = Jvm.exec) {x y : Int32} (hd : decode c.code pc = .ok (.irem, 1)) (hy : y ≠ 0) (v : Int32) (hv : x % y = v) (pc' : Nat) (hp : pc + 1 = pc') (g : Go p e below P (T.setTop (mkF m pc' L (.int v :: st)))) : Go p e below P (T.setTop (mkF m pc L (.int y :: .int x :: st))) := by
  subst hp hv; exact Go.via (fun _ k => RoadKit.iremM X hx rfl hd rfl hy k) g
theorem s_ineg (X : Stand p l e R s m args below meth c T locs cells slots) (hx : p.tables.exec = Jvm.exec) {x : Int32} (hd : decode c.code pc = .ok (.ineg, 1)) (v : Int32) (hv : -x = v) (pc' : Nat) (hp : pc + 1 = pc') (g : Go p e below P (T.setTop (mkF m pc' L (.int v :: st)))) : Go p e below P (T.setTop (mkF m pc L (.int x :: st))) := by
  subst hp hv; exact Go.via (fun _ k => XS.ineg X.here hx rfl hd rfl k) g
theorem s_ladd (X : Stand p l e R s m args below meth c T locs cells slots) (hx : p.tables.exec = Jvm.exec) {x y : Int64} (hd : decode c.code pc = .ok (.ladd, 1)) (v : Int64) (hv : x + y = v) (pc' : Nat) (hp : pc + 1 = pc') (g : Go p e below P (T.setTop (mkF m pc' L (.long v :: st)))) : Go p e below P (T.setTop (mkF m pc L (.long y :: .long x :: st))) := by
  subst hp hv; exact Go.via (fun _ k => XT.ladd X.here hx rfl hd rfl k) g
theorem s_lsub (X : Stand p l e R s m args below meth c T locs cells slots) (hx : p.tables.exec = Jvm.exec) {x y : Int64} (hd : decode c.code pc = .ok (.lsub, 1)) (v : Int64) (hv : x - y = v) (pc' : Nat) (hp : pc + 1 = pc') (g : Go p e below P (T.setTop (mkF m pc' L (.long v :: st)))) : Go p e below P (T.setTop (mkF m pc L (.long y :: .long x :: st))) := by
  subst hp hv; exact Go.via (fun _ k => XT.lsub X.here hx rfl hd rfl k) g
theorem s_lmul (X : Stand p l e R s m args below meth c T locs cells slots) (hx : p.tables.exec = Jvm.exec) {x y : Int64} (hd : decode c.code pc = .ok (.lmul, 1)) (v : Int64) (hv : x * y = v) (pc' : Nat) (hp : pc + 1 = pc') (g : Go p e below P (T.setTop (mkF m pc' L (.long v :: st)))) : Go p e below P (T.setTop (mkF m pc L (.long y :: .long x :: st))) := by
  subst hp hv; exact Go.via (fun _ k => XT.lmul X.here hx rfl hd rfl k) g
theorem s_land (X : Stand p l e R s m args below meth c T locs cells slots) (hx : p.tables.exec = Jvm.exec) {x y : Int64} (hd : decode c.code pc = .ok (.land, 1)) (v : Int64) (hv : x &&& y = v) (pc' : Nat) (hp : pc + 1 = pc') (g : Go p e below P (T.setTop (mkF m pc' L (.long v :: st)))) : Go p e below P (T.setTop (mkF m pc L (.long y :: .long x :: st))) := by
  subst hp hv; exact Go.via (fun _ k => XT.land X.here hx rfl hd rfl k) g
theorem s_lor (X : Stand p l e R s m args below meth c T locs cells slots) (hx : p.tables.exec = Jvm.exec) {x y : Int64} (hd : decode c.code pc = .ok (.lor, 1)) (v : Int64) (hv : x ||| y = v) (pc' : Nat) (hp : pc + 1 = pc') (g : Go p e below P (T.setTop (mkF m pc' L (.long v :: st)))) : Go p e below P (T.setTop (mkF m pc L (.long y :: .long x :: st))) := by
  subst hp hv; exact Go.via (fun _ k => XT.lor X.here hx rfl hd rfl k) g
theorem s_lxor (X : Stand p l e R s m args below meth c T locs cells slots) (hx : p.tables.exec = Jvm.exec) {x y : Int64} (hd : decode c.code pc = .ok (.lxor, 1)) (v : Int64) (hv : x ^^^ y = v) (pc' : Nat) (hp : pc + 1 = pc') (g : Go p e below P (T.setTop (mkF m pc' L (.long v :: st)))) : Go p e below P (T.setTop (mkF m pc L (.long y :: .long x :: st))) := by
  subst hp hv; exact Go.via (fun _ k => XT.lxor X.here hx rfl hd rfl k) g
theorem s_ldiv (X : Stand p l e R s m args below meth c T locs cells slots) (hx : p.tables.exec = Jvm.exec) {x y : Int64} (hd : decode c.code pc = .ok (.ldiv, 1)) (hy : y ≠ 0) (v : Int64) (hv : x / y = v) (pc' : Nat) (hp : pc + 1 = pc') (g : Go p e below P (T.setTop (mkF m pc' L (.long v :: st)))) : Go p e below P (T.setTop (mkF m pc L (.long y :: .long x :: st))) := by
  subst hp hv; exact Go.via (fun _ k => XT.ldiv X.here hx rfl hd rfl hy k) g
theorem s_lrem (X : Stand p l e R s m args below meth c T locs cells slots) (hx : p.tables.exec = Jvm.exec) {x y : Int64} (hd : decode c.code pc = .ok (.lrem, 1)) (hy : y ≠ 0) (v : Int64) (hv : x - (x / y) * y = v) (pc' : Nat) (hp : pc + 1 = pc') (g : Go p e below P (T.setTop (mkF m pc' L (.long v :: st)))) : Go p e below P (T.setTop (mkF m pc L (.long y :: .long x :: st))) := by
  subst hp hv; exact Go.via (fun _ k => XT.lrem X.here hx rfl hd rfl hy k) g
theorem s_lneg (X : Stand p l e R s m args below meth c T locs cells slots) (hx : p.tables.exec = Jvm.exec) {x : Int64} (hd : decode c.code pc = .ok (.lneg, 1)) (v : Int64) (hv : -x = v) (pc' : Nat) (hp : pc + 1 = pc') (g : Go p e below P (T.setTop (mkF m pc' L (.long v :: st)))) : Go p e below P (T.setTop (mkF m pc L (.long x :: st))) := by
  subst hp hv; exact Go.via (fun _ k => XT.lneg X.here hx rfl hd rfl k) g
theorem sh64 (y : Int32) : (y.toInt64 &&& 63) = (y &&& 0x3f).toInt64 := by rw [Int32.toInt64_and]; rfl
theorem s_lshl (X : Stand p l e R s m args below meth c T locs cells slots) (hx : p.tables.exec = Jvm.exec) {x : Int64} {y : Int32} (hd : decode c.code pc = .ok (.lshl, 1)) (v : Int64) (hv : x <<< (y &&& 0x3f).toInt64 = v) (pc' : Nat) (hp : pc + 1 = pc') (g : Go p e below P (T.setTop (mkF m pc' L (.long v :: st)))) : Go p e below P (T.setTop (mkF m pc L (.int y :: .long x :: st))) := by
  subst hp hv; exact Go.via (fun _ k => XT.lshl X.here hx rfl hd rfl (by rw [sh64]; exact k)) g
theorem s_lshr (X : Stand p l e R s m args below meth c T locs cells slots) (hx : p.tables.exec = Jvm.exec) {x : Int64} {y : Int32} (hd : decode c.code pc = .ok (.lshr, 1)) (v : Int64) (hv : x >>> (y &&& 0x3f).toInt64 = v) (pc' : Nat) (hp : pc + 1 = pc') (g : Go p e below P (T.setTop (mkF m pc' L (.long v :: st)))) : Go p e below P (T.setTop (mkF m pc L (.int y :: .long x :: st))) := by
  subst hp hv; exact Go.via (fun _ k => XT.lshr X.here hx rfl hd rfl (by rw [sh64]; exact k)) g
theorem s_lushr (X : Stand p l e R s m args below meth c T locs cells slots) (hx : p.tables.exec = Jvm.exec) {x : Int64} {y : Int32} (hd : decode c.code pc = .ok (.lushr, 1)) (v : Int64) (hv : XT.ushrL x y = v) (pc' : Nat) (hp : pc + 1 = pc') (g : Go p e below P (T.setTop (mkF m pc' L (.long v :: st)))) : Go p e below P (T.setTop (mkF m pc L (.int y :: .long x :: st))) := by
  subst hp hv; exact Go.via (fun _ k => XT.lushr X.here hx rfl hd rfl k) g
theorem s_i2l (X : Stand p l e R s m args below meth c T locs cells slots) (hx : p.tables.exec = Jvm.exec) {x : Int32} (hd : decode c.code pc = .ok (.i2l, 1)) (v : Int64) (hv : x.toInt64 = v) (pc' : Nat) (hp : pc + 1 = pc') (g : Go p e below P (T.setTop (mkF m pc' L (.long v :: st)))) : Go p e below P (T.setTop (mkF m pc L (.int x :: st))) := by
  subst hp hv; exact Go.via (fun _ k => XT.i2l X.here hx rfl hd rfl k) g
theorem s_l2i (X : Stand p l e R s m args below meth c T locs cells slots) (hx : p.tables.exec = Jvm.exec) {x : Int64} (hd : decode c.code pc = .ok (.l2i, 1)) (v : Int32) (hv : x.toInt32 = v) (pc' : Nat) (hp : pc + 1 = pc') (g : Go p e below P (T.setTop (mkF m pc' L (.int v :: st)))) : Go p e below P (T.setTop (mkF m pc L (.long x :: st))) := by
  subst hp hv; exact Go.via (fun _ k => XT.l2i X.here hx rfl hd rfl k) g
theorem s_i2b (X : Stand p l e R s m args below meth c T locs cells slots) (hx : p.tables.exec = Jvm.exec) {x : Int32} (hd : decode c.code pc = .ok (.i2b, 1)) (v : Int32) (hv : x.toInt8.toInt32 = v) (pc' : Nat) (hp : pc + 1 = pc') (g : Go p e below P (T.setTop (mkF m pc' L (.int v :: st)))) : Go p e below P (T.setTop (mkF m pc L (.int x :: st))) := by
  subst hp hv; exact Go.via (fun _ k => XT.i2b X.here hx rfl hd rfl k) g
theorem s_i2s (X : Stand p l e R s m args below meth c T locs cells slots) (hx : p.tables.exec = Jvm.exec) {x : Int32} (hd : decode c.code pc = .ok (.i2s, 1)) (v : Int32) (hv : x.toInt16.toInt32 = v) (pc' : Nat) (hp : pc + 1 = pc') (g : Go p e below P (T.setTop (mkF m pc' L (.int v :: st)))) : Go p e below P (T.setTop (mkF m pc L (.int x :: st))) := by
  subst hp hv; exact Go.via (fun _ k => XT.i2s X.here hx rfl hd rfl k) g
theorem s_i2d (X : Stand p l e R s m args below meth c T locs cells slots) (hx : p.tables.exec = Jvm.exec) {x : Int32} (hd : decode c.code pc = .ok (.i2d, 1)) (v : UInt64) (hv : FP.i2d x = v) (pc' : Nat) (hp : pc + 1 = pc') (g : Go p e below P (T.setTop (mkF m pc' L (.double v :: st)))) : Go p e below P (T.setTop (mkF m pc L (.int x :: st))) := by
  subst hp; exact Go.via (fun _ k => XS.i2dS X.here hx rfl hd rfl hv k) g
theorem s_l2d (X : Stand p l e R s m args below meth c T locs cells slots) (hx : p.tables.exec = Jvm.exec) {x : Int64} (hd : decode c.code pc = .ok (.l2d, 1)) (v : UInt64) (hv : FP.l2d x = v) (pc' : Nat) (hp : pc + 1 = pc') (g : Go p e below P (T.setTop (mkF m pc' L (.double v :: st)))) : Go p e below P (T.setTop (mkF m pc L (.long x :: st))) := by
  subst hp; exact Go.via (fun _ k => XS.l2dS X.here hx rfl hd rfl hv k) g
theorem s_dneg (X : Stand p l e R s m args below meth c T locs cells slots) (hx : p.tables.exec = Jvm.exec) {x : UInt64} (hd : decode c.code pc = .ok (.dneg, 1)) (v : UInt64) (hv : FP.dneg x = v) (pc' : Nat) (hp : pc + 1 = pc') (g : Go p e below P (T.setTop (mkF m pc' L (.double v :: st)))) : Go p e below P (T.setTop (mkF m pc L (.double x :: st))) := by
  subst hp; exact Go.via (fun _ k => XS.dnegS X.here hx rfl hd rfl hv k) g
theorem s_dadd (X : Stand p l e R s m args below meth c T locs cells slots) (hx : p.tables.exec = Jvm.exec) {x y : UInt64} (hd : decode c.code pc = .ok (.dadd, 1)) (v : UInt64) (hv : FP.dadd x y = v) (hn : NoNaN64 v) (pc' : Nat) (hp : pc + 1 = pc') (g : Go p e below P (T.setTop (mkF m pc' L (.double v :: st)))) : Go p e below P (T.setTop (mkF m pc L (.double y :: .double x :: st))) := by
  subst hp hv; exact Go.via (fun _ k => XS.daddS X.here hx rfl hd rfl hn rfl k) g
theorem s_dsub (X : Stand p l e R s m args below meth c T locs cells slots) (hx : p.tables.exec = Jvm.exec) {x y : UInt64} (hd : decode c.code pc = .ok (.dsub, 1)) (v : UInt64) (hv : FP.dsub x y = v) (hn : NoNaN64 v) (pc' : Nat) (hp : pc + 1 = pc') (g : Go p e below P (T.setTop (mkF m pc' L (.double v :: st)))) : Go p e below P (T.setTop (mkF m pc L (.double y :: .double x :: st))) := by
  subst hp hv; exact Go.via (fun _ k => XS.dsubS X.here hx rfl hd rfl hn rfl k) g
theorem s_dmul (X : Stand p l e R s m args below meth c T locs cells slots) (hx : p.tables.exec = Jvm.exec) {x y : UInt64} (hd : decode c.code pc = .ok (.dmul, 1)) (v : UInt64) (hv : FP.dmul x y = v) (hn : NoNaN64 v) (pc' : Nat) (hp : pc + 1 = pc') (g : Go p e below P (T.setTop (mkF m pc' L (.double v :: st)))) : Go p e below P (T.setTop (mkF m pc L (.double y :: .double x :: st))) := by
  subst hp hv; exact Go.via (fun _ k => XS.dmulS X.here hx rfl hd rfl hn rfl k) g
theorem s_ddiv (X : Stand p l e R s m args below meth c T locs cells slots) (hx : p.tables.exec = Jvm.exec) {x y : UInt64} (hd : decode c.code pc = .ok (.ddiv, 1)) (v : UInt64) (hv : FP.ddiv x y = v) (hn : NoNaN64 v) (pc' : Nat) (hp : pc + 1 = pc') (g : Go p e below P (T.setTop (mkF m pc' L (.double v :: st)))) : Go p e below P (T.setTop (mkF m pc L (.double y :: .double x :: st))) := by
  subst hp hv; exact Go.via (fun _ k => XS.ddivS X.here hx rfl hd rfl hn rfl k) g
theorem s_dcmp (X : Stand p l e R s m args below meth c T locs cells slots) (hx : p.tables.exec = Jvm.exec) {x y : UInt64} {o : CmpOp} (hd : decode c.code pc = .ok (.dcmp o, 1)) (v : Int32) (hv : cmpValue (FP.dcmp x y) o = v) (pc' : Nat) (hp : pc + 1 = pc') (g : Go p e below P (T.setTop (mkF m pc' L (.int v :: st)))) : Go p e below P (T.setTop (mkF m pc L (.double y :: .double x :: st))) := by
  subst hp; exact Go.via (fun _ k => XS.dcmpS X.here hx rfl hd rfl hv k) g
theorem s_lcmp (X : Stand p l e R s m args below meth c T locs cells slots) (hx : p.tables.exec = Jvm.exec) {x y : Int64} (hd : decode c.code pc = .ok (.lcmp, 1)) (v : Int32) (hv : XT.cmpL x y = v) (pc' : Nat) (hp : pc + 1 = pc') (g : Go p e below P (T.setTop (mkF m pc' L (.int v :: st)))) : Go p e below P (T.setTop (mkF m pc L (.long y :: .long x :: st))) := by
  subst hp hv; exact Go.via (fun _ k => XT.lcmp X.here hx rfl hd rfl k) g
theorem s_dup (X : Stand p l e R s m args below meth c T locs cells slots) (hx : p.tables.exec = Jvm.exec) {x : Value} (hd : decode c.code pc = .ok (.dup, 1)) (hc : x.category = 1) (pc' : Nat) (hp : pc + 1 = pc') (g : Go p e below P (T.setTop (mkF m pc' L (x :: x :: st)))) : Go p e below P (T.setTop (mkF m pc L (x :: st))) := by
  subst hp; exact Go.via (fun _ k => XS.dup X.here hx rfl hd rfl hc k) g
theorem s_pop (X : Stand p l e R s m args below meth c T locs cells slots) (hx : p.tables.exec = Jvm.exec) {x : Value} (hd : decode c.code pc = .ok (.pop, 1)) (hc : x.category = 1) (pc' : Nat) (hp : pc + 1 = pc') (g : Go p e below P (T.setTop (mkF m pc' L (st)))) : Go p e below P (T.setTop (mkF m pc L (x :: st))) := by
  subst hp; exact Go.via (fun _ k => XT.pop X.here hx rfl hd rfl hc k) g
theorem s_dupX1 (X : Stand p l e R s m args below meth c T locs cells slots) (hx : p.tables.exec = Jvm.exec) {x y : Value} (hd : decode c.code pc = .ok (.dup_x1, 1)) (hc : x.category = 1) (hc' : y.category = 1) (pc' : Nat) (hp : pc + 1 = pc') (g : Go p e below P (T.setTop (mkF m pc' L (x :: y :: x :: st)))) : Go p e below P (T.setTop (mkF m pc L (x :: y :: st))) := by
  subst hp; exact Go.via (fun _ k => XT.dupX1 X.here hx rfl hd rfl hc hc' k) g
theorem s_dup2 (X : Stand p l e R s m args below meth c T locs cells slots) (hx : p.tables.exec = Jvm.exec) {x y : Value} (hd : decode c.code pc = .ok (.dup2, 1)) (hc : x.category = 1) (hc' : y.category = 1) (pc' : Nat) (hp : pc + 1 = pc') (g : Go p e below P (T.setTop (mkF m pc' L (x :: y :: x :: y :: st)))) : Go p e below P (T.setTop (mkF m pc L (x :: y :: st))) := by
  subst hp; exact Go.via (fun _ k => XT.dup2 X.here hx rfl hd rfl hc hc' k) g
theorem s_iinc (X : Stand p l e R s m args below meth c T locs cells slots) (hx : p.tables.exec = Jvm.exec) {k : Nat} {cst : Int} {x : Int32} (hd : decode c.code pc = .ok (.iinc k cst, 3)) (v : Int32) (hv : x + Int32.ofInt cst = v) (hl : L[k]? = some (.val (.int x))) (L' : Array Slot) (hl' : storeLocals L k (.int v) = some L') (pc' : Nat) (hp : pc + 3 = pc') (g : Go p e below P (T.setTop (mkF m pc' L' (st)))) : Go p e below P (T.setTop (mkF m pc L (st))) := by
  subst hp hv; exact Go.via (fun _ k => XS.iinc X.here hx rfl hd hl hl' k) g
theorem s_goto (X : Stand p l e R s m args below meth c T locs cells slots) (hx : p.tables.exec = Jvm.exec) {o : Int} (hd : decode c.code pc = .ok (.goto o, 3)) (pc' : Nat) (ho : 0 ≤ (pc : Int) + o) (hp : ((pc : Int) + o).toNat = pc') (g : Go p e below P (T.setTop (mkF m pc' L st))) : Go p e below P (T.setTop (mkF m pc L st)) := Go.via (fun _ k => XS.goto X.here hx rfl rfl hd ho hp k) g
theorem s_ifY (X : Stand p l e R s m args below meth c T locs cells slots) (hx : p.tables.exec = Jvm.exec) {cd : ClassFile.Cond} {o : Int} {x : Int32} (hd : decode c.code pc = .ok (.ifCond cd o, 3)) (hc : ifCond.holds cd x = true) (pc' : Nat) (ho : 0 ≤ (pc : Int) + o) (hp : ((pc : Int) + o).toNat = pc') (g : Go p e below P (T.setTop (mkF m pc' L st))) : Go p e below P (T.setTop (mkF m pc L (.int x :: st))) := Go.via (fun _ k => XS.ifYes X.here hx rfl rfl hd rfl hc ho hp k) g
theorem s_ifN (X : Stand p l e R s m args below meth c T locs cells slots) (hx : p.tables.exec = Jvm.exec) {cd : ClassFile.Cond} {o : Int} {x : Int32} (hd : decode c.code pc = .ok (.ifCond cd o, 3)) (hc : ifCond.holds cd x = false) (pc' : Nat) (hp : pc + 3 = pc') (g : Go p e below P (T.setTop (mkF m pc' L (st)))) : Go p e below P (T.setTop (mkF m pc L (.int x :: st))) := by
  subst hp; exact Go.via (fun _ k => XS.ifNo X.here hx rfl hd rfl hc k) g
theorem s_icmpY (X : Stand p l e R s m args below meth c T locs cells slots) (hx : p.tables.exec = Jvm.exec) {cd : ClassFile.Cond} {o : Int} {x y : Int32} (hd : decode c.code pc = .ok (.if_icmp cd o, 3)) (hc : if_icmp.holds cd x y = true) (pc' : Nat) (ho : 0 ≤ (pc : Int) + o) (hp : ((pc : Int) + o).toNat = pc') (g : Go p e below P (T.setTop (mkF m pc' L st))) : Go p e below P (T.setTop (mkF m pc L (.int y :: .int x :: st))) := Go.via (fun _ k => XS.icmpYes X.here hx rfl rfl hd rfl hc ho hp k) g
theorem s_icmpN (X : Stand p l e R s m args below meth c T locs cells slots) (hx : p.tables.exec = Jvm.exec) {cd : ClassFile.Cond} {o : Int} {x y : Int32} (hd : decode c.code pc = .ok (.if_icmp cd o, 3)) (hc : if_icmp.holds cd x y = false) (pc' : Nat) (hp : pc + 3 = pc') (g : Go p e below P (T.setTop (mkF m pc' L (st)))) : Go p e below P (T.setTop (mkF m pc L (.int y :: .int x :: st))) := by
  subst hp; exact Go.via (fun _ k => XS.icmpNo X.here hx rfl hd rfl hc k) g
theorem s_acmpY (X : Stand p l e R s m args below meth c T locs cells slots) (hx : p.tables.exec = Jvm.exec) {cd : ClassFile.ACond} {o : Int} {x y : Value} (hd : decode c.code pc = .ok (.if_acmp cd o, 3)) (h1 : x.isRef = true) (h2 : y.isRef = true) (hc : XT.acmp cd x y = true) (pc' : Nat) (ho : 0 ≤ (pc : Int) + o) (hp : ((pc : Int) + o).toNat = pc') (g : Go p e below P (T.setTop (mkF m pc' L st))) : Go p e below P (T.setTop (mkF m pc L (y :: x :: st))) := Go.via (fun _ k => XT.acmpYes X.here hx rfl rfl hd rfl h1 h2 hc ho hp k) g
theorem s_acmpN (X : Stand p l e R s m args below meth c T locs cells slots) (hx : p.tables.exec = Jvm.exec) {cd : ClassFile.ACond} {o : Int} {x y : Value} (hd : decode c.code pc = .ok (.if_acmp cd o, 3)) (h1 : x.isRef = true) (h2 : y.isRef = true) (hc : XT.acmp cd x y = false) (pc' : Nat) (hp : pc + 3 = pc') (g : Go p e below P (T.setTop (mkF m pc' L (st)))) : Go p e below P (T.setTop (mkF m pc L (y :: x :: st))) := by
  subst hp; exact Go.via (fun _ k => XT.acmpNo X.here hx rfl hd rfl h1 h2 hc k) g
theorem s_ifnullN (X : Stand p l e R s m args below meth c T locs cells slots) (hx : p.tables.exec = Jvm.exec) {o : Int} {b : Addr} (hd : decode c.code pc = .ok (.ifnull o, 3))  (pc' : Nat) (hp : pc + 3 = pc') (g : Go p e below P (T.setTop (mkF m pc' L (st)))) : Go p e below P (T.setTop (mkF m pc L (.ref b :: st))) := by
  subst hp; exact Go.via (fun _ k => XS.ifnullNo X.here hx rfl hd rfl k) g
theorem s_ifnullY (X : Stand p l e R s m args below meth c T locs cells slots) (hx : p.tables.exec = Jvm.exec) {o : Int} (hd : decode c.code pc = .ok (.ifnull o, 3)) (pc' : Nat) (ho : 0 ≤ (pc : Int) + o) (hp : ((pc : Int) + o).toNat = pc') (g : Go p e below P (T.setTop (mkF m pc' L st))) : Go p e below P (T.setTop (mkF m pc L (.null :: st))) := Go.via (fun _ k => XS.ifnullYes X.here hx rfl rfl hd rfl ho hp k) g
theorem s_ifnonnullN (X : Stand p l e R s m args below meth c T locs cells slots) (hx : p.tables.exec = Jvm.exec) {o : Int} (hd : decode c.code pc = .ok (.ifnonnull o, 3))  (pc' : Nat) (hp : pc + 3 = pc') (g : Go p e below P (T.setTop (mkF m pc' L (st)))) : Go p e below P (T.setTop (mkF m pc L (.null :: st))) := by
  subst hp; exact Go.via (fun _ k => XT.ifnonnullNo X.here hx rfl hd rfl k) g
theorem s_ifnonnullY (X : Stand p l e R s m args below meth c T locs cells slots) (hx : p.tables.exec = Jvm.exec) {o : Int} {b : Addr} (hd : decode c.code pc = .ok (.ifnonnull o, 3)) (pc' : Nat) (ho : 0 ≤ (pc : Int) + o) (hp : ((pc : Int) + o).toNat = pc') (g : Go p e below P (T.setTop (mkF m pc' L st))) : Go p e below P (T.setTop (mkF m pc L (.ref b :: st))) := Go.via (fun _ k => XT.ifnonnullYes X.here hx rfl rfl hd rfl ho hp k) g
section Cmp
variable {r : Option Ordering} {o : CmpOp}
theorem dd_ne_t (h : r ≠ some .eq) : ifCond.holds .ne (cmpValue r o) = true := by rcases r with _ | (_ | _ | _) <;> cases o <;> first | rfl | exact absurd rfl h
theorem dd_ne_f (h : r = some .eq) : ifCond.holds .ne (cmpValue r o) = false := by subst h; cases o <;> rfl
theorem dd_eq_t (h : r = some .eq) : ifCond.holds .eq (cmpValue r o) = true := by subst h; cases o <;> rfl
theorem dd_eq_f (h : r ≠ some .eq) : ifCond.holds .eq (cmpValue r o) = false := by rcases r with _ | (_ | _ | _) <;> cases o <;> first | rfl | exact absurd rfl h
theorem dd_ge_t (h : r ≠ some .lt) : ifCond.holds .ge (cmpValue r .g) = true := by rcases r with _ | (_ | _ | _) <;> first | rfl | exact absurd rfl h
theorem dd_ge_f (h : r = some .lt) : ifCond.holds .ge (cmpValue r .g) = false := by subst h; rfl
theorem dd_le_t (h : r ≠ some .gt) : ifCond.holds .le (cmpValue r .l) = true := by rcases r with _ | (_ | _ | _) <;> first | rfl | exact absurd rfl h
theorem dd_le_f (h : r = some .gt) : ifCond.holds .le (cmpValue r .l) = false := by subst h; rfl
theorem dd_gt_f (h : r = some .lt ∨ r = some .eq) : ifCond.holds .gt (cmpValue r .g) = false := by rcases h with h | h <;> (subst h; rfl)
theorem dd_lt_f (h : r = some .gt ∨ r = some .eq) : ifCond.holds .lt (cmpValue r .l) = false := by rcases h with h | h <;> (subst h; rfl)
theorem dd_lt_t (h : r = some .lt) : ifCond.holds .lt (cmpValue r o) = true := by subst h; cases o <;> rfl
end Cmp
end Steps1
/-! ## arrays, by the list of what they hold -/
section Arrays
variable {p : Program} {l : Launch} {e : Env} {R : Room} {s : State} {m : MethodId} {args : Array Value} {below : List Frame} {meth : Method} {c : Code} {T : State} {locs : List Loc} {cells slots : Nat} {P : Outcome → State → Prop} {pc : Nat} {L : Array Slot} {st : List Value} {Z : State} {h h' : Heap} {a b : Addr} {a0 : Array Value} {k : ClassId} {ty : FieldType} {vs : List Value} {v : Value} {sl : Nat} {ws : List Addr}
/-- at a lies an array of components ty, of the class numbered k, that holds vs -/
def AR (Z : State) (h : Heap) (a : Addr) (k : ClassId) (ty : FieldType) (vs : List Value) : Prop := ∃ c : Cell, Arr Z h a c ty ∧ c.cls = k ∧ c.slots = vs.toArray
theorem AR.lt (F : AR Z h a k ty vs) : a < h.size := by obtain ⟨c, A, -⟩ := F; exact A.lt
theorem AR.ext (F : AR Z h a k ty vs) (E : Ext h h') : AR Z h' a k ty vs := by obtain ⟨c, A, r⟩ := F; exact ⟨c, A.ext E, r⟩
theorem AR.other (F : AR Z h b k ty vs) (W : Wr h h' a sl v) (q : b ≠ a) : AR Z h' b k ty vs := by obtain ⟨c, A, r⟩ := F; exact ⟨c, A.other W q, r⟩
theorem AR.keep (F : AR Z h a k ty vs) (K : Keep h h' ws) (q : a ∉ ws) : AR Z h' a k ty vs := by obtain ⟨c, A, r⟩ := F; exact ⟨c, ⟨K.2.1 a c A.1 q, A.2⟩, r⟩
theorem AR.same (F : AR Z h a k ty vs) (W : Wr h h' a sl v) : AR Z h' a k ty (vs.set sl v) := by
  obtain ⟨c, A, r1, r2⟩ := F
  exact ⟨c.setSlot sl v, A.same W, r1, by simp [Cell.setSlot, r2]⟩
theorem ar_len {c : Cell} (r : c.slots = vs.toArray) : c.slots.size = vs.length := by rw [r]; simp
theorem ar_in {c : Cell} (r : c.slots = vs.toArray) {j : Int32} {i : Nat} (hj : ¬ j < 0 ∧ j.toNatClampNeg = i) (hv : vs[i]? = some v) : ¬ (j < 0 ∨ c.slots.size ≤ j.toNatClampNeg) ∧ c.slots[j.toNatClampNeg]? = some v := by
  obtain ⟨h1, rfl⟩ := hj
  have h2 : j.toNatClampNeg < vs.length := (List.getElem?_eq_some_iff.mp hv).1
  refine ⟨?_, by rw [r]; simpa using hv⟩
  rintro (q | q)
  · exact h1 q
  · rw [ar_len r] at q; omega
theorem s_len (X : Stand p l e R s m args below meth c T locs cells slots) (hx : p.tables.exec = Jvm.exec) (hZ : Z.Warmed39 s.vm) (eT : T.heap = h) (F : AR Z h a k ty vs) (hd : decode c.code pc = .ok (.arraylength, 1)) (n : Int32) (hn : vs.length.toInt32 = n) (pc' : Nat) (hp : pc + 1 = pc') (g : Go p e below P (T.setTop (mkF m pc' L (.int n :: st)))) : Go p e below P (T.setTop (mkF m pc L (.ref a :: st))) := by
  obtain ⟨cl, A, r1, r2⟩ := F
  subst hp hn
  rw [← ar_len r2] at g
  exact Go.via (fun _ k => X.arraylength hx (by rw [eT]; exact A.1) (State.isArrayOf_alike hZ.alike A.2.1) (g := mkF m pc L (.ref a :: st)) rfl rfl hd _ k) g
theorem s_iaload (X : Stand p l e R s m args below meth c T locs cells slots) (hx : p.tables.exec = Jvm.exec) (hZ : Z.Warmed39 s.vm) (eT : T.heap = h) (F : AR Z h a k .int vs) (hd : decode c.code pc = .ok (.iaload, 1)) {j : Int32} (i : Nat) (hj : ¬ j < 0 ∧ j.toNatClampNeg = i) (v : Value) (hv : vs[i]? = some v) (pc' : Nat) (hp : pc + 1 = pc') (g : Go p e below P (T.setTop (mkF m pc' L (v :: st)))) : Go p e below P (T.setTop (mkF m pc L (.int j :: .ref a :: st))) := by
  obtain ⟨cl, A, r1, r2⟩ := F
  obtain ⟨q1, q2⟩ := ar_in r2 hj hv
  subst hp
  exact Go.via (fun _ k => X.iaload hx (by rw [eT]; exact A.1) (State.isArrayOf_alike hZ.alike A.2.1) A.2.2 q1 q2 (g := mkF m pc L (.int j :: .ref a :: st)) rfl rfl hd _ k) g
theorem s_laload (X : Stand p l e R s m args below meth c T locs cells slots) (hx : p.tables.exec = Jvm.exec) (hZ : Z.Warmed39 s.vm) (eT : T.heap = h) (F : AR Z h a k .long vs) (hd : decode c.code pc = .ok (.laload, 1)) {j : Int32} (i : Nat) (hj : ¬ j < 0 ∧ j.toNatClampNeg = i) (v : Value) (hv : vs[i]? = some v) (pc' : Nat) (hp : pc + 1 = pc') (g : Go p e below P (T.setTop (mkF m pc' L (v :: st)))) : Go p e below P (T.setTop (mkF m pc L (.int j :: .ref a :: st))) := by
  obtain ⟨cl, A, r1, r2⟩ := F
  obtain ⟨q1, q2⟩ := ar_in r2 hj hv
  subst hp
  exact Go.via (fun _ k => X.laload hx (by rw [eT]; exact A.1) (State.isArrayOf_alike hZ.alike A.2.1) A.2.2 q1 q2 (g := mkF m pc L (.int j :: .ref a :: st)) rfl rfl hd _ k) g
theorem s_daload (X : Stand p l e R s m args below meth c T locs cells slots) (hx : p.tables.exec = Jvm.exec) (hZ : Z.Warmed39 s.vm) (eT : T.heap = h) (F : AR Z h a k .double vs) (hd : decode c.code pc = .ok (.daload, 1)) {j : Int32} (i : Nat) (hj : ¬ j < 0 ∧ j.toNatClampNeg = i) (v : Value) (hv : vs[i]? = some v) (pc' : Nat) (hp : pc + 1 = pc') (g : Go p e below P (T.setTop (mkF m pc' L (v :: st)))) : Go p e below P (T.setTop (mkF m pc L (.int j :: .ref a :: st))) := by
  obtain ⟨cl, A, r1, r2⟩ := F
  obtain ⟨q1, q2⟩ := ar_in r2 hj hv
  subst hp
  exact Go.via (fun _ k => X.daload hx (by rw [eT]; exact A.1) (State.isArrayOf_alike hZ.alike A.2.1) A.2.2 q1 q2 (g := mkF m pc L (.int j :: .ref a :: st)) rfl rfl hd _ k) g
theorem s_aaload (X : Stand p l e R s m args below meth c T locs cells slots) (hx : p.tables.exec = Jvm.exec) (hZ : Z.Warmed39 s.vm) (eT : T.heap = h) (F : AR Z h a k ty vs) (ht : ty.isReference = true) (hd : decode c.code pc = .ok (.aaload, 1)) {j : Int32} (i : Nat) (hj : ¬ j < 0 ∧ j.toNatClampNeg = i) (v : Value) (hv : vs[i]? = some v) (pc' : Nat) (hp : pc + 1 = pc') (g : Go p e below P (T.setTop (mkF m pc' L (v :: st)))) : Go p e below P (T.setTop (mkF m pc L (.int j :: .ref a :: st))) := by
  obtain ⟨cl, A, r1, r2⟩ := F
  obtain ⟨q1, q2⟩ := ar_in r2 hj hv
  subst hp
  exact Go.via (fun _ k => X.aaload hx (by rw [eT]; exact A.1) (State.isArrayOf_alike hZ.alike A.2.1) ht A.2.2 q1 q2 (g := mkF m pc L (.int j :: .ref a :: st)) rfl rfl hd _ k) g
theorem s_iastore (X : Stand p l e R s m args below meth c T locs cells slots) (hx : p.tables.exec = Jvm.exec) (hZ : Z.Warmed39 s.vm) (eT : T.heap = h) (F : AR Z h a k .int vs) (hd : decode c.code pc = .ok (.iastore, 1)) (L : Array Slot) (st : List Value) {j : Int32} (i : Nat) (hj : ¬ j < 0 ∧ j.toNatClampNeg = i) (hi : i < vs.length) (x : Int32) (vs' : List Value) (hvs : vs.set i (.int x) = vs') (pc' : Nat) (hp : pc + 1 = pc') :
    ∃ T' h', Stand p l e R s m args below meth c T' (locs ++ [⟨a, i⟩]) cells slots ∧ T'.heap = h' ∧ Wr h h' a i (.int x) ∧ AR Z h' a k .int vs' ∧ ∀ t, Steps p.tables e below (T'.setTop (mkF m pc' L st)) t → Steps p.tables e below (T.setTop (mkF m pc L (.int x :: .int j :: .ref a :: st))) t := by
  obtain ⟨cl, A, r1, r2⟩ := F
  obtain ⟨q1, -⟩ := ar_in r2 hj (List.getElem?_eq_getElem hi)
  obtain ⟨hj1, rfl⟩ := hj
  subst hp hvs
  obtain ⟨T', h', X', e', W, st'⟩ := stI X hx hZ eT A q1 (g := mkF m pc L (.int x :: .int j :: .ref a :: st)) rfl rfl hd
  exact ⟨T', h', X', e', W, AR.same ⟨cl, A, r1, r2⟩ W, st'⟩
theorem s_lastore (X : Stand p l e R s m args below meth c T locs cells slots) (hx : p.tables.exec = Jvm.exec) (hZ : Z.Warmed39 s.vm) (eT : T.heap = h) (F : AR Z h a k .long vs) (hd : decode c.code pc = .ok (.lastore, 1)) (L : Array Slot) (st : List Value) {j : Int32} (i : Nat) (hj : ¬ j < 0 ∧ j.toNatClampNeg = i) (hi : i < vs.length) (x : Int64) (vs' : List Value) (hvs : vs.set i (.long x) = vs') (pc' : Nat) (hp : pc + 1 = pc') :
    ∃ T' h', Stand p l e R s m args below meth c T' (locs ++ [⟨a, i⟩]) cells slots ∧ T'.heap = h' ∧ Wr h h' a i (.long x) ∧ AR Z h' a k .long vs' ∧ ∀ t, Steps p.tables e below (T'.setTop (mkF m pc' L st)) t → Steps p.tables e below (T.setTop (mkF m pc L (.long x :: .int j :: .ref a :: st))) t := by
  obtain ⟨cl, A, r1, r2⟩ := F
  obtain ⟨q1, -⟩ := ar_in r2 hj (List.getElem?_eq_getElem hi)
  obtain ⟨hj1, rfl⟩ := hj
  subst hp hvs
  obtain ⟨T', h', X', e', W, st'⟩ := stJ X hx hZ eT A q1 (g := mkF m pc L (.long x :: .int j :: .ref a :: st)) rfl rfl hd
  exact ⟨T', h', X', e', W, AR.same ⟨cl, A, r1, r2⟩ W, st'⟩
theorem s_dastore (X : Stand p l e R s m args below meth c T locs cells slots) (hx : p.tables.exec = Jvm.exec) (hZ : Z.Warmed39 s.vm) (eT : T.heap = h) (F : AR Z h a k .double vs) (hd : decode c.code pc = .ok (.dastore, 1)) (L : Array Slot) (st : List Value) {j : Int32} (i : Nat) (hj : ¬ j < 0 ∧ j.toNatClampNeg = i) (hi : i < vs.length) (x : UInt64) (vs' : List Value) (hvs : vs.set i (.double x) = vs') (pc' : Nat) (hp : pc + 1 = pc') :
    ∃ T' h', Stand p l e R s m args below meth c T' (locs ++ [⟨a, i⟩]) cells slots ∧ T'.heap = h' ∧ Wr h h' a i (.double x) ∧ AR Z h' a k .double vs' ∧ ∀ t, Steps p.tables e below (T'.setTop (mkF m pc' L st)) t → Steps p.tables e below (T.setTop (mkF m pc L (.double x :: .int j :: .ref a :: st))) t := by
  obtain ⟨cl, A, r1, r2⟩ := F
  obtain ⟨q1, -⟩ := ar_in r2 hj (List.getElem?_eq_getElem hi)
  obtain ⟨hj1, rfl⟩ := hj
  subst hp hvs
  obtain ⟨T', h', X', e', W, st'⟩ := stD X hx hZ eT A q1 (g := mkF m pc L (.double x :: .int j :: .ref a :: st)) rfl rfl hd
  exact ⟨T', h', X', e', W, AR.same ⟨cl, A, r1, r2⟩ W, st'⟩
theorem s_aastore (X : Stand p l e R s m args below meth c T locs cells slots) (hx : p.tables.exec = Jvm.exec) (hZ : Z.Warmed39 s.vm) (eT : T.heap = h) (F : AR Z h a k ty vs) (ht : ty.isReference = true) (hd : decode c.code pc = .ok (.aastore, 1)) (L : Array Slot) (st : List Value) {j : Int32} (i : Nat) (hj : ¬ j < 0 ∧ j.toNatClampNeg = i) (hi : i < vs.length) (x : Value) (S : Sto Z h a x) (vs' : List Value) (hvs : vs.set i x = vs') (pc' : Nat) (hp : pc + 1 = pc') :
    ∃ T' h', Stand p l e R s m args below meth c T' (locs ++ [⟨a, i⟩]) cells slots ∧ T'.heap = h' ∧ Wr h h' a i x ∧ AR Z h' a k ty vs' ∧ ∀ t, Steps p.tables e below (T'.setTop (mkF m pc' L st)) t → Steps p.tables e below (T.setTop (mkF m pc L (x :: .int j :: .ref a :: st))) t := by
  obtain ⟨cl, A, r1, r2⟩ := F
  obtain ⟨q1, -⟩ := ar_in r2 hj (List.getElem?_eq_getElem hi)
  obtain ⟨hj1, rfl⟩ := hj
  subst hp hvs
  obtain ⟨T', h', X', e', W, st'⟩ := stR X hx hZ eT A q1 ht S (g := mkF m pc L (x :: .int j :: .ref a :: st)) rfl rfl hd
  exact ⟨T', h', X', e', W, AR.same ⟨cl, A, r1, r2⟩ W, st'⟩
theorem s_newarray (X : Stand p l e R s m args below meth c T locs cells slots) (hx : p.tables.exec = Jvm.exec) (hZ : Z.Warmed39 s.vm) {aty : ArrayType} (w : (Cond.arrayClass (newarray.typeOf aty)).before a0 Z = true) (eT : T.heap = h) (hd : decode c.code pc = .ok (.newarray aty, 2)) (L : Array Slot) (st : List Value) {n : Int32} (cap : Nat) (hn : ¬ n < 0 ∧ n.toNatClampNeg = cap) (vs : List Value) (hvs : List.replicate cap (defaultValue (newarray.typeOf aty)) = vs) (hb : cap * 8 ≤ 536870912) (hc : cells + 1 ≤ R.cells) (hl : slots + cap ≤ R.slots) (pc' : Nat) (hp : pc + 2 = pc') :
    ∃ T' h' cA, Stand p l e R s m args below meth c T' locs (cells + 1) (slots + cap) ∧ T'.heap = h' ∧ Ext h h' ∧ AR Z h' h.size cA (newarray.typeOf aty) vs ∧ ∀ t, Steps p.tables e below (T'.setTop (mkF m pc' L (.ref h.size :: st))) t → Steps p.tables e below (T.setTop (mkF m pc L (.int n :: st))) t := by
  obtain ⟨n1, n2⟩ := hn
  obtain ⟨T', h', cA, X', e', E, A, st'⟩ := newP X hx hZ w eT (g := mkF m pc L (.int n :: st)) rfl hd rfl n1 (cap := cap) (Nat.le_of_eq n2) hb hc hl
  subst hp hvs
  exact ⟨T', h', cA, X', e', E, ⟨_, A, rfl, by simp [newA, n2]⟩, st'⟩
end Arrays
/-! ## calls by contract -/
section Calls
variable {p : Program} {l : Launch} {e : Env} {R : Room} {s : State} {m : MethodId} {args : Array Value} {below : List Frame} {meth : Method} {c : Code} {T : State} {locs : List Loc} {cells slots : Nat} {P : Outcome → State → Prop} {pc : Nat} {L : Array Slot} {st : List Value} {Z : State} {h h' : Heap} {a0 : Array Value} {own : String} {index : Nat} {y : MethodName} {bytes : ByteArray} {ml : Nat} {rm : Room} {as : Array Value} {Q : Option Value → Heap → List Loc → Prop}
theorem ct_back {ret : Option FieldType} {len W : Nat} (C : Ct l Z y bytes ml ret [] rm as h Q) (hZ : Z.Warmed39 s.vm) (wc : (Cond.code y bytes ml ret).before a0 Z = true) (wz : (Cond.initialized y.cls).before a0 Z = true) (hf : rm.frames + 1 ≤ R.frames) (hl : W + (ml + 11) + rm.locals ≤ R.locals) :
    Back l R p e below s args y len W (fun A a => a = as ∧ A.U.heap = h ∧ A.cells + rm.cells ≤ R.cells ∧ A.slots + rm.slots ≤ R.slots)
      (fun A _ v B => ∃ L, Q v B.U.heap L ∧ B.locs = A.locs ++ L ∧ B.cells = A.cells + rm.cells ∧ B.slots = A.slots + rm.slots) := backOf C hZ wc wz hf hl
theorem callStat {ret : Option FieldType} (X : Stand p l e R s m args below meth c T locs cells slots) (hx : p.tables.exec = Jvm.exec) (hZ : Z.Warmed39 s.vm) (hown : s.vm.findClass own = some m.cls) (w1 : (Cond.methodLink own index y).before a0 Z = true) (w2 : (Cond.static y).before a0 Z = true) (w3 : (Cond.initialized y.cls).before a0 Z = true) (w4 : (Cond.code y bytes ml ret).before a0 Z = true) (hy : y.cls ≠ "java/lang/invoke/MethodHandle" ∧ y.cls ≠ "java/lang/invoke/VarHandle") (C : Ct l Z y bytes ml ret [] rm as h Q) (eT : T.heap = h) (hd : decode c.code pc = .ok (.invokestatic index, 3)) (hml : L.size = c.maxLocals) (argsL rest : List Value) (hst : st = argsL.reverse ++ rest) (has : argsL.toArray = as) {ps : List FieldType} {r : Option FieldType} (hpd : parseMethodDescriptor y.desc = some ⟨ps, r⟩) (hln : argsL.length = ps.length) (W : Nat) (hW : 2 * 0 + (rest.map fun v => v.category).sum ≤ W) (hfr : rm.frames + 1 ≤ R.frames) (hlo : W + (ml + 11) + rm.locals ≤ R.locals) (hc : cells + rm.cells ≤ R.cells) (hs : slots + rm.slots ≤ R.slots) :
    ∃ v T' L', Stand p l e R s m args below meth c T' (locs ++ L') (cells + rm.cells) (slots + rm.slots) ∧ Q v T'.heap L' ∧ ∀ t, Steps p.tables e below (T'.setTop (mkF m (pc + 3) L (v.toList ++ rest))) t → Steps p.tables e below (T.setTop (mkF m pc L st)) t := by
  obtain ⟨v, _, ⟨T', L1, k1, n1⟩, -, X', ⟨L', hQ, l1, y1, z1⟩, st'⟩ := Jvm.LawKit.callS X hx (y := y) hown (mvT hZ w1) (mvT hZ w2) (mvT hZ w3) (mvT hZ w4) hy (ct_back (W := W) C hZ w4 w3 hfr hlo) (g := mkF m pc L st) rfl hml (argsL := argsL) (rest := rest) (lenOf hpd hln) hst hW hd (fun _ _ => ⟨has, eT, hc, hs⟩)
  dsimp only [Pt.U, Pt.locs, Pt.cells, Pt.slots] at X' l1 y1 z1 st' hQ
  subst l1 y1 z1
  exact ⟨v, T', L', X', hQ, st'⟩
theorem callInit (X : Stand p l e R s m args below meth c T locs cells slots) (hx : p.tables.exec = Jvm.exec) (hZ : Z.Warmed39 s.vm) (hown : s.vm.findClass own = some m.cls) (hin : y.name = "<init>") (w1 : (Cond.methodLink own index y).before a0 Z = true) (w2 : (Cond.instanceMethod y).before a0 Z = true) (w3 : (Cond.initialized y.cls).before a0 Z = true) (w4 : (Cond.code y bytes ml none).before a0 Z = true) (hy : y.cls ≠ "java/lang/invoke/MethodHandle" ∧ y.cls ≠ "java/lang/invoke/VarHandle") (C : Ct l Z y bytes ml none [] rm as h Q) (eT : T.heap = h) (hd : decode c.code pc = .ok (.invokespecial index, 3)) (hml : L.size = c.maxLocals) (a : Addr) (argsL rest : List Value) (hst : st = argsL.reverse ++ .ref a :: rest) (has : (.ref a :: argsL).toArray = as) {ps : List FieldType} {r : Option FieldType} (hpd : parseMethodDescriptor y.desc = some ⟨ps, r⟩) (hln : argsL.length = ps.length) (W : Nat) (hW : 2 * 0 + (rest.map fun v => v.category).sum ≤ W) (hfr : rm.frames + 1 ≤ R.frames) (hlo : W + (ml + 11) + rm.locals ≤ R.locals) (hc : cells + rm.cells ≤ R.cells) (hs : slots + rm.slots ≤ R.slots) :
    ∃ v T' L', Stand p l e R s m args below meth c T' (locs ++ L') (cells + rm.cells) (slots + rm.slots) ∧ Q v T'.heap L' ∧ ∀ t, Steps p.tables e below (T'.setTop (mkF m (pc + 3) L (v.toList ++ rest))) t → Steps p.tables e below (T.setTop (mkF m pc L st)) t := by
  obtain ⟨v, _, ⟨T', L1, k1, n1⟩, -, X', ⟨L', hQ, l1, y1, z1⟩, st'⟩ := X.specialBack hx (y := y) hin hown (mvT hZ w1) (mvT hZ w2) (mvT hZ w4) hy (ct_back (W := W) C hZ w4 w3 hfr hlo) (g := mkF m pc L st) rfl hml (Steps.refl _) (a := a) (argsL := argsL) (rest := rest) (lenOf hpd hln) hst hW hd (fun _ _ => ⟨has, eT, hc, hs⟩)
  dsimp only [Pt.U, Pt.locs, Pt.cells, Pt.slots] at X' l1 y1 z1 st' hQ
  subst l1 y1 z1
  exact ⟨v, T', L', X', hQ, fun t k => st'.trans k⟩
theorem callVirt {ret : Option FieldType} {C0 : String} (X : Stand p l e R s m args below meth c T locs cells slots) (hx : p.tables.exec = Jvm.exec) (hZ : Z.Warmed39 s.vm) (hown : s.vm.findClass own = some m.cls) (w1 : (Cond.methodLink own index y).before a0 Z = true) (w2 : (Cond.declares y).before a0 Z = true) (w3 : (Cond.selects C0 y y).before a0 Z = true) (w4 : (Cond.instanceMethod y).before a0 Z = true) (w5 : (Cond.initialized y.cls).before a0 Z = true) (w6 : (Cond.code y bytes ml ret).before a0 Z = true) (hy : y.cls ≠ "java/lang/invoke/MethodHandle" ∧ y.cls ≠ "java/lang/invoke/VarHandle") (C : Ct l Z y bytes ml ret [] rm as h Q) (eT : T.heap = h) (a : Addr) (E : Exa Z h a C0) (hd : decode c.code pc = .ok (.invokevirtual index, 3)) (hml : L.size = c.maxLocals) (argsL rest : List Value) (hst : st = argsL.reverse ++ .ref a :: rest) (has : (.ref a :: argsL).toArray = as) {ps : List FieldType} {r : Option FieldType} (hpd : parseMethodDescriptor y.desc = some ⟨ps, r⟩) (hln : argsL.length = ps.length) (W : Nat) (hW : 2 * 0 + (rest.map fun v => v.category).sum ≤ W) (hfr : rm.frames + 1 ≤ R.frames) (hlo : W + (ml + 11) + rm.locals ≤ R.locals) (hc : cells + rm.cells ≤ R.cells) (hs : slots + rm.slots ≤ R.slots) :
    ∃ v T' L', Stand p l e R s m args below meth c T' (locs ++ L') (cells + rm.cells) (slots + rm.slots) ∧ Q v T'.heap L' ∧ ∀ t, Steps p.tables e below (T'.setTop (mkF m (pc + 3) L (v.toList ++ rest))) t → Steps p.tables e below (T.setTop (mkF m pc L st)) t := by
  obtain ⟨cq, kq, qa, qb, qc⟩ := isOf hZ eT E
  obtain ⟨v, _, ⟨T', L1, k1, n1⟩, -, X', ⟨L', hQ, l1, y1, z1⟩, st'⟩ := X.virtualBack hx (y := y) (z := y) hown (mvT hZ w1) (mvT hZ w2) (notFace_of_selects (args := #[]) (mvT hZ w3)) (mvT hZ w3) (mvT hZ w4) hy (ct_back (W := W) C hZ w6 w5 hfr hlo) qa qc (g := mkF m pc L st) rfl hml (Steps.refl _) (argsL := argsL) (rest := rest) (lenOf hpd hln) hst hW hd (fun _ _ => ⟨has, eT, hc, hs⟩)
  dsimp only [Pt.U, Pt.locs, Pt.cells, Pt.slots] at X' l1 y1 z1 st' hQ
  subst l1 y1 z1
  exact ⟨v, T', L', X', hQ, fun t k => st'.trans k⟩
end Calls
end Jvm.OwnGo
namespace Jvm.OwnFP
open Jvm.FP Jvm.FP.Core Jvm.Free.Fl
/-- a * 2^x = b -/
def PE (a b : Nat) (x : Int) : Prop := a * 2 ^ x.toNat = b * 2 ^ (-x).toNat
theorem pe_iff {a b : Nat} {x : Int} (y z : Nat) (h : x = (y : Int) - z) : PE a b x ↔ a * 2 ^ y = b * 2 ^ z := by
  unfold PE
  obtain ⟨d, rfl, rfl⟩ : ∃ d, y = x.toNat + d ∧ z = (-x).toNat + d := ⟨min y z, by omega, by omega⟩
  have p1 : 0 < 2 ^ d := Nat.two_pow_pos _
  rw [Nat.pow_add, Nat.pow_add, ← Nat.mul_assoc, ← Nat.mul_assoc]
  exact ⟨fun q => by rw [q], fun q => Nat.eq_of_mul_eq_mul_right p1 q⟩
theorem PE.symm {a b : Nat} {x : Int} (h : PE a b x) : PE b a (-x) := by
  unfold PE at h ⊢; rw [Int.neg_neg]; exact h.symm
theorem PE.trans {a b c : Nat} {x y : Int} (h : PE a b x) (g : PE b c y) : PE a c (x + y) := by
  rw [pe_iff (x.toNat + y.toNat) ((-x).toNat + (-y).toNat) (by omega)]
  unfold PE at h g
  rw [Nat.pow_add, Nat.pow_add, ← Nat.mul_assoc, h, Nat.mul_right_comm, g, Nat.mul_assoc, Nat.mul_comm (2 ^ (-y).toNat)]
theorem PE.mul {a b : Nat} {x : Int} (h : PE a b x) (c : Nat) : PE (c * a) (c * b) x := by
  unfold PE at h ⊢; rw [Nat.mul_assoc, Nat.mul_assoc, h]
theorem PE.of {a b : Nat} {y z : Nat} (h : a * 2 ^ y = b * 2 ^ z) : PE a b ((y : Int) - z) := (pe_iff y z rfl).mpr h
theorem PE.cast {a b : Nat} {x y : Int} (h : PE a b x) (e : x = y) : PE a b y := e ▸ h
/-- the datum times 2^k -/
def sh (k : Int) : Datum → Datum
  | .fin s c q => .fin s c (q + k)
  | d => d
/-- the double a is i / 2^k, just so -/
def Dy (i : Int) (k : Nat) (a : UInt64) : Prop := Whole i (sh k (val64 a))
theorem Dy.fin {i : Int} {k : Nat} {a : UInt64} (h : Dy i k a) : ∃ s c q, val64 a = .fin s c q := by
  unfold Dy at h
  cases hv : val64 a with
  | nan => rw [hv] at h; exact h.elim
  | inf s => rw [hv] at h; exact h.elim
  | fin s c q => exact ⟨s, c, q, rfl⟩
theorem Dy.dfin {i : Int} {k : Nat} {a : UInt64} (h : Dy i k a) : DFin a := h.fin
theorem Dy.fin64 {i : Int} {k : Nat} {a : UInt64} (h : Dy i k a) : Fin64 a := fin64_core.mpr h.fin
theorem Dy.nn {i : Int} {k : Nat} {a : UInt64} (h : Dy i k a) : NoNaN64 a := h.fin64.noNaN
theorem Dy.ne {i : Int} {k : Nat} {a : UInt64} (h : Dy i k a) : val64 a ≠ .nan := h.dfin.ne_nan
theorem dy_int {i : Int} {a : UInt64} (h : DInt i a) : Dy i 0 a := by
  unfold DInt at h; unfold Dy
  cases hv : val64 a with
  | nan => rw [hv] at h; exact h.elim
  | inf s => rw [hv] at h; exact h.elim
  | fin s c q => rw [hv] at h; show Whole i (.fin s c (q + 0)); rw [Int.add_zero]; exact h
theorem Dy.int {i : Int} {a : UInt64} (h : Dy i 0 a) : DInt i a := by
  obtain ⟨s, c, q, hv⟩ := h.fin
  unfold Dy at h; unfold DInt
  rw [hv] at h ⊢
  have h : Whole i (.fin s c (q + 0)) := h
  rw [Int.add_zero] at h; exact h
theorem dy_i2d (x : Int32) : Dy x.toInt 0 (FP.i2d x) := dy_int (i2d_int x)
theorem dy_l2d {x : Int64} (h : x.toInt.natAbs ≤ 2 ^ 53) : Dy x.toInt 0 (FP.l2d x) := dy_int (l2d_int h)
theorem whole_pe {i : Int} {s : Bool} {c : Nat} {q : Int} (h : Whole i (.fin s c q)) : PE c i.natAbs q := whole_natAbs h
/-- what is so small a multiple of a power of two is a double -/
theorem dy_rnd {i : Int} {k : Nat} {s : Bool} {n : Nat} (hn : i.natAbs = n) (hs : i ≠ 0 → s = decide (i < 0)) (hi : n ≤ 2 ^ 53) (hk : k ≤ 1000) : Whole i (sh k (roundRatio b64 s n 1 (-(k : Int)))) := by
  by_cases h0 : n = 0
  · have : i = 0 := by omega
    subst this
    unfold roundRatio
    rw [if_pos h0]
    show signed s (0 * _) = 0 * _
    rw [Nat.zero_mul, Int.zero_mul]; exact signed_zero s
  · obtain ⟨c, q, hfit, hv⟩ := natFit good_b64 wide_b64 s (n := n) hi
    have hq : q = -1074 ∨ b64.tails ≤ c := by have := hfit.2.2.2; rw [qmin_b64] at this; exact this
    have hv' : n * 2 ^ (-q).toNat = c * 2 ^ q.toNat := by
      rw [show (0 - q).toNat = (-q).toNat by omega, show (q - 0).toNat = q.toNat by omega, Nat.mul_one] at hv; exact hv
    have hc : c < 2 ^ 53 := hfit.1
    have hq2 : q ≤ b64.qmax := hfit.2.2.1
    have hq1 : -53 ≤ q := by
      refine Int.le_of_not_gt fun hlt => ?_
      have e1 : q.toNat = 0 := by omega
      rw [e1, Nat.pow_zero, Nat.mul_one] at hv'
      have : 2 ^ 53 ≤ 2 ^ (-q).toNat := Nat.pow_le_pow_right (by decide) (by omega)
      have h2 : 1 * 2 ^ 53 ≤ n * 2 ^ (-q).toNat := Nat.mul_le_mul (by omega) this
      omega
    have hfit2 : Core.fits b64 (.fin s c (q - k)) := by
      refine ⟨hfit.1, ?_, by omega, Or.inr ?_⟩
      · rw [qmin_b64]; omega
      · rcases hq with hq | hq
        · omega
        · exact hq
    rw [roundRatio_exact good_b64 (by decide) hfit2 (by
      rw [show (-(k : Int) - (q - k)).toNat = (-q).toNat by omega, show (q - (k : Int) - -(k : Int)).toNat = q.toNat by omega, Nat.mul_one]; exact hv')]
    show Whole i (.fin s c (q - k + k))
    rw [show q - (k : Int) + k = q by omega]
    show signed s (c * 2 ^ q.toNat) = i * _
    rw [← hv', signed_mul, hs (by omega)]
    congr 1
    unfold signed
    by_cases h : i < 0 <;> simp [h] <;> omega
theorem dy_round {i : Int} {k : Nat} {s : Bool} {c : Nat} {q : Int} (h : Whole i (.fin s c (q + k))) (hi : i.natAbs ≤ 2 ^ 53) (hk : k ≤ 1000) : Whole i (sh k (round b64 (.fin s c q))) := by
  have e : round b64 (.fin s c q) = roundRatio b64 s i.natAbs 1 (-(k : Int)) := by
    refine roundRatio_congr (by decide) (by decide) ?_
    have := whole_natAbs h
    rw [show (q - -(k : Int)).toNat = (q + k).toNat by omega, show (-(k : Int) - q).toNat = (-(q + k)).toNat by omega]
    simpa using this
  rw [e]
  exact dy_rnd rfl (fun hz => whole_sign h hz) hi hk
theorem sh_sum (k : Int) (s : Bool) (c : Nat) (q : Int) (t : Bool) (d : Nat) (r : Int) : sh k (exactSum (.fin s c q) (.fin t d r)) = exactSum (.fin s c (q + k)) (.fin t d (r + k)) := by
  have e : min (q + k) (r + k) = min q r + k := by omega
  simp only [exactSum, sh, e, sumUnits, inUnits]
  rw [show q + k - (min q r + k) = q - min q r by omega, show r + k - (min q r + k) = r - min q r by omega]
theorem dy_add {i j : Int} {k : Nat} {a b : UInt64} (ha : Dy i k a) (hb : Dy j k b) (h : (i + j).natAbs ≤ 2 ^ 53) (hk : k ≤ 1000) : Dy (i + j) k (FP.dadd a b) := by
  obtain ⟨s, c, q, ea⟩ := ha.fin
  obtain ⟨t, d, r, eb⟩ := hb.fin
  unfold Dy at ha hb ⊢
  rw [ea] at ha; rw [eb] at hb
  have w : Whole (i + j) (sh k (exactSum (.fin s c q) (.fin t d r))) := by rw [sh_sum]; exact whole_sum ha hb
  rw [show FP.dadd a b = Core.dadd a b from rfl, val64_dadd, ea, eb]
  exact dy_round w h hk
theorem dy_neg {i : Int} {k : Nat} {a : UInt64} (ha : Dy i k a) : Dy (-i) k (FP.dneg a) := by
  obtain ⟨s, c, q, ea⟩ := ha.fin
  unfold Dy at ha ⊢
  rw [ea] at ha
  rw [FP.val64_dneg, ea]
  exact whole_negate ha
theorem dy_sub {i j : Int} {k : Nat} {a b : UInt64} (ha : Dy i k a) (hb : Dy j k b) (h : (i - j).natAbs ≤ 2 ^ 53) (hk : k ≤ 1000) : Dy (i - j) k (FP.dsub a b) := by
  obtain ⟨s, c, q, ea⟩ := ha.fin
  obtain ⟨t, d, r, eb⟩ := hb.fin
  unfold Dy at ha hb ⊢
  rw [ea] at ha; rw [eb] at hb
  have hb' : Whole (-j) (.fin (!t) d (r + k)) := whole_negate hb
  have w : Whole (i - j) (sh k (exactSum (.fin s c q) (.fin (!t) d r))) := by rw [sh_sum]; exact whole_sum ha hb'
  rw [show FP.dsub a b = Core.dsub a b from rfl, val64_dsub, ea, eb]
  exact dy_round w h hk
theorem dy_mul {i j : Int} {k n : Nat} {a b : UInt64} (ha : Dy i k a) (hb : Dy j n b) (h : (i * j).natAbs ≤ 2 ^ 53) (hk : k + n ≤ 1000) : Dy (i * j) (k + n) (FP.dmul a b) := by
  obtain ⟨s, c, q, ea⟩ := ha.fin
  obtain ⟨t, d, r, eb⟩ := hb.fin
  unfold Dy at ha hb ⊢
  rw [ea] at ha; rw [eb] at hb
  have w : Whole (i * j) (.fin (s != t) (c * d) (q + r + (k + n : Nat))) := by
    have := whole_product ha hb
    rw [show q + r + ((k + n : Nat) : Int) = q + k + (r + n) by omega]; exact this
  rw [show FP.dmul a b = Core.dmul a b from rfl, val64_dmul, ea, eb]
  exact dy_round w h hk
theorem dy_up {i : Int} {k : Nat} {a : UInt64} (n : Nat) (ha : Dy i k a) : Dy (i * (2 ^ n : Nat)) (k + n) a := by
  obtain ⟨s, c, q, ea⟩ := ha.fin
  unfold Dy at ha ⊢
  rw [ea] at ha ⊢
  have ha : signed s (c * 2 ^ (q + k).toNat) = i * ((2 ^ (-(q + k)).toNat : Nat) : Int) := ha
  show signed s (c * 2 ^ (q + (k + n : Nat)).toNat) = i * (2 ^ n : Nat) * ((2 ^ (-(q + (k + n : Nat))).toNat : Nat) : Int)
  have p2 : ((2 ^ (-(q + (k : Int))).toNat : Nat) : Int) ≠ 0 := by have := Nat.two_pow_pos (-(q + (k : Int))).toNat; omega
  have e1 : (q + ((k + n : Nat) : Int)).toNat + (-(q + (k : Int))).toNat = (q + (k : Int)).toNat + (n + (-(q + ((k + n : Nat) : Int))).toNat) := by omega
  rw [signed_mul] at ha ⊢
  refine Int.eq_of_mul_eq_mul_right p2 ?_
  rw [Int.mul_assoc, ← Int.natCast_mul, ← Nat.pow_add, e1, Nat.pow_add, Int.natCast_mul, ← Int.mul_assoc, ha, Nat.pow_add, Int.natCast_mul]
  ac_rfl
theorem dy_cmp {i j : Int} {k : Nat} {a b : UInt64} (ha : Dy i k a) (hb : Dy j k b) : FP.dcmp a b = some (compare i j) := by
  obtain ⟨s, c, q, ea⟩ := ha.fin
  obtain ⟨t, d, r, eb⟩ := hb.fin
  unfold Dy at ha hb
  rw [ea] at ha; rw [eb] at hb
  have w := order_whole ha hb
  show order (val64 a) (val64 b) = _
  rw [ea, eb, ← w]
  have e : min (q + k) (r + k) = min q r + k := by omega
  simp only [order, sh, e, inUnits]
  rw [show q + k - (min q r + k) = q - min q r by omega, show r + k - (min q r + k) = r - min q r by omega]
theorem dy_div {i j t : Int} {k n r : Nat} {a b : UInt64} (ha : Dy i k a) (hb : Dy j n b) (hj : j ≠ 0) (h : i * (2 ^ (n + r) : Nat) = t * j * (2 ^ k : Nat)) (ht : t.natAbs ≤ 2 ^ 53) (hr : r ≤ 1000) : Dy t r (FP.ddiv a b) := by
  obtain ⟨s, c, q, ea⟩ := ha.fin
  obtain ⟨u, d, z, eb⟩ := hb.fin
  unfold Dy at ha hb ⊢
  rw [ea] at ha; rw [eb] at hb
  have ha : Whole i (.fin s c (q + k)) := ha
  have hb : Whole j (.fin u d (z + n)) := hb
  have hd : d ≠ 0 := fun e => hj ((whole_zero hb).mp e)
  rw [show FP.ddiv a b = Core.ddiv a b from rfl, val64_ddiv, ea, eb]
  show Whole t (sh r (if d = 0 then _ else roundRatio b64 (s != u) c d (q - z)))
  rw [if_neg hd]
  have pn : (0 : Int) < ((2 ^ (n + r) : Nat) : Int) := by have := Nat.two_pow_pos (n + r); omega
  have pk : (0 : Int) < ((2 ^ k : Nat) : Int) := by have := Nat.two_pow_pos k; omega
  have hn : i.natAbs * 2 ^ (n + r) = t.natAbs * j.natAbs * 2 ^ k := by
    have := congrArg Int.natAbs h
    rw [Int.natAbs_mul, Int.natAbs_mul, Int.natAbs_mul, Int.natAbs_natCast, Int.natAbs_natCast] at this
    exact this
  have e : roundRatio b64 (s != u) c d (q - z) = roundRatio b64 (s != u) t.natAbs 1 (-(r : Int)) := by
    refine roundRatio_congr (by omega) (by decide) ?_
    have g := ((whole_pe ha).trans (PE.of hn)).trans ((whole_pe hb).symm.mul t.natAbs)
    have g' : PE c (t.natAbs * d) (q - z + r) := g.cast (by omega)
    unfold PE at g'
    rw [show (q - z - -(r : Int)).toNat = (q - z + r).toNat by omega, show (-(r : Int) - (q - z)).toNat = (-(q - z + r)).toNat by omega, Nat.mul_one]
    exact g'
  rw [e]
  refine dy_rnd rfl (fun hz => ?_) ht hr
  have hi : i ≠ 0 := by
    rintro rfl
    rw [Int.zero_mul] at h
    rcases Int.mul_eq_zero.mp h.symm with q | q
    · rcases Int.mul_eq_zero.mp q with q | q
      · exact hz q
      · exact hj q
    · omega
  rw [whole_sign ha hi, whole_sign hb hj]
  have g1 : i < 0 ↔ t * j < 0 := by
    constructor
    · intro q
      have : t * j * ((2 ^ k : Nat) : Int) < 0 := by rw [← h]; exact Int.mul_neg_of_neg_of_pos q pn
      exact Int.lt_of_not_ge fun q' => by have := Int.mul_nonneg q' (Int.le_of_lt pk); omega
    · intro q
      have : i * ((2 ^ (n + r) : Nat) : Int) < 0 := by rw [h]; exact Int.mul_neg_of_neg_of_pos q pk
      exact Int.lt_of_not_ge fun q' => by have := Int.mul_nonneg q' (Int.le_of_lt pn); omega
  rcases Int.lt_or_lt_of_ne hz with ht0 | ht0 <;> rcases Int.lt_or_lt_of_ne hj with hj0 | hj0
  · have q1 := Int.mul_pos_of_neg_of_neg ht0 hj0
    have q2 : ¬ i < 0 := by rw [g1]; omega
    simp [ht0, hj0, q2]
  · have q1 := Int.mul_neg_of_neg_of_pos ht0 hj0
    have q2 : i < 0 := by rw [g1]; exact q1
    have q3 : ¬ j < 0 := by omega
    simp [ht0, q2, q3]
  · have q1 := Int.mul_neg_of_pos_of_neg ht0 hj0
    have q2 : i < 0 := by rw [g1]; exact q1
    have q3 : ¬ t < 0 := by omega
    simp [hj0, q2, q3]
  · have q1 := Int.mul_pos ht0 hj0
    have q2 : ¬ i < 0 := by rw [g1]; omega
    have q3 : ¬ t < 0 := by omega
    have q4 : ¬ j < 0 := by omega
    simp [q2, q3, q4]
theorem dy_eq {i j : Int} {k : Nat} {a b : UInt64} (ha : Dy i k a) (hb : Dy j k b) (h : i = j) : FP.dcmp a b = some .eq := by
  rw [dy_cmp ha hb, h, compare_self_int]
theorem dy_lt {i j : Int} {k : Nat} {a b : UInt64} (ha : Dy i k a) (hb : Dy j k b) (h : i < j) : FP.dcmp a b = some .lt := by
  rw [dy_cmp ha hb, (compare_lt_iff i j).mpr h]
theorem dy_gt {i j : Int} {k : Nat} {a b : UInt64} (ha : Dy i k a) (hb : Dy j k b) (h : j < i) : FP.dcmp a b = some .gt := by
  rw [dy_cmp ha hb, (compare_gt_iff i j).mpr h]
theorem dy_cast {i j : Int} {k n : Nat} {a : UInt64} (h : Dy i k a) (e : i = j) (e' : k = n) : Dy j n a := by subst e e'; exact h
theorem dy_zero : Dy 0 0 (0 : UInt64) := by
  show Whole 0 (sh 0 (val64 0)); rw [val64_zero]
  show signed false (0 * _) = 0 * _
  rw [Nat.zero_mul, Int.zero_mul]; rfl
end Jvm.OwnFP
namespace Jvm.OwnFP
open Jvm.FP Jvm.FP.Core Jvm.Free.Fl
/-! ## numbers with a bound: an int, a long, a double that is i (over 2^k), i at most N -/
def Ib (N : Nat) (i : Int) (x : Int32) : Prop := x.toInt = i ∧ i.natAbs ≤ N
def Lb (N : Nat) (i : Int) (x : Int64) : Prop := x.toInt = i ∧ i.natAbs ≤ N
def Db (N : Nat) (i : Int) (k : Nat) (a : UInt64) : Prop := Dy i k a ∧ i.natAbs ≤ N
theorem Ib.lit (N : Nat) (i : Int) (x : Int32) (h : x.toInt = i ∧ i.natAbs ≤ N := by decide) : Ib N i x := h
theorem Lb.lit (N : Nat) (i : Int) (x : Int64) (h : x.toInt = i ∧ i.natAbs ≤ N := by decide) : Lb N i x := h
theorem Ib.any (x : Int32) : Ib (2 ^ 31) x.toInt x := ⟨rfl, by have := x.toInt_lt; have := x.le_toInt; omega⟩
theorem Ib.cast {N M : Nat} {i j : Int} {x : Int32} (h : Ib N i x) (e : i = j) (g : j.natAbs ≤ M) : Ib M j x := ⟨h.1.trans e, g⟩
theorem Lb.cast {N M : Nat} {i j : Int} {x : Int64} (h : Lb N i x) (e : i = j) (g : j.natAbs ≤ M) : Lb M j x := ⟨h.1.trans e, g⟩
theorem Db.cast {N M : Nat} {i j : Int} {k : Nat} {a : UInt64} (h : Db N i k a) (e : i = j) (g : j.natAbs ≤ M) : Db M j k a := by subst e; exact ⟨h.1, g⟩
theorem bn_add {a b : Int} {N M : Nat} (h1 : a.natAbs ≤ N) (h2 : b.natAbs ≤ M) : (a + b).natAbs ≤ N + M := by omega
theorem bn_sub {a b : Int} {N M : Nat} (h1 : a.natAbs ≤ N) (h2 : b.natAbs ≤ M) : (a - b).natAbs ≤ N + M := by omega
theorem bn_mul {a b : Int} {N M : Nat} (h1 : a.natAbs ≤ N) (h2 : b.natAbs ≤ M) : (a * b).natAbs ≤ N * M := by rw [Int.natAbs_mul]; exact Nat.mul_le_mul h1 h2
section
variable {N M : Nat} {i j : Int} {k n : Nat}
theorem Ib.add {x y : Int32} (h1 : Ib N i x) (h2 : Ib M j y) (h : N + M < 2147483648) : Ib (N + M) (i + j) (x + y) := by
  obtain ⟨rfl, b1⟩ := h1
  obtain ⟨rfl, b2⟩ := h2
  have b := bn_add b1 b2
  exact ⟨Jvm.Free.XT.add32 ⟨by omega, by omega⟩, b⟩
theorem Ib.sub {x y : Int32} (h1 : Ib N i x) (h2 : Ib M j y) (h : N + M < 2147483648) : Ib (N + M) (i - j) (x - y) := by
  obtain ⟨rfl, b1⟩ := h1
  obtain ⟨rfl, b2⟩ := h2
  have b := bn_sub b1 b2
  exact ⟨Jvm.Free.XT.sub32 ⟨by omega, by omega⟩, b⟩
theorem Ib.mul {x y : Int32} (h1 : Ib N i x) (h2 : Ib M j y) (h : N * M < 2147483648) : Ib (N * M) (i * j) (x * y) := by
  obtain ⟨rfl, b1⟩ := h1
  obtain ⟨rfl, b2⟩ := h2
  have b := bn_mul b1 b2
  exact ⟨Jvm.Free.XT.mul32 ⟨by omega, by omega⟩, b⟩
theorem Lb.add {x y : Int64} (h1 : Lb N i x) (h2 : Lb M j y) (h : N + M < 9223372036854775808) : Lb (N + M) (i + j) (x + y) := by
  obtain ⟨rfl, b1⟩ := h1
  obtain ⟨rfl, b2⟩ := h2
  have b := bn_add b1 b2
  exact ⟨Jvm.Free.XT.add64 ⟨by omega, by omega⟩, b⟩
theorem Lb.sub {x y : Int64} (h1 : Lb N i x) (h2 : Lb M j y) (h : N + M < 9223372036854775808) : Lb (N + M) (i - j) (x - y) := by
  obtain ⟨rfl, b1⟩ := h1
  obtain ⟨rfl, b2⟩ := h2
  have b := bn_sub b1 b2
  exact ⟨Jvm.Free.XT.sub64 ⟨by omega, by omega⟩, b⟩
theorem Lb.mul {x y : Int64} (h1 : Lb N i x) (h2 : Lb M j y) (h : N * M < 9223372036854775808) : Lb (N * M) (i * j) (x * y) := by
  obtain ⟨rfl, b1⟩ := h1
  obtain ⟨rfl, b2⟩ := h2
  have b := bn_mul b1 b2
  exact ⟨Jvm.Free.XT.mul64 ⟨by omega, by omega⟩, b⟩
theorem Lb.neg {x : Int64} (h1 : Lb N i x) (h : N < 9223372036854775808) : Lb N (-i) (-x) := by
  obtain ⟨rfl, h2⟩ := h1
  exact ⟨int64_neg (by omega), by omega⟩
theorem Ib.i2l {x : Int32} (h : Ib N i x) : Lb N i x.toInt64 := ⟨(Int32.toInt_toInt64 x).trans h.1, h.2⟩
theorem Lb.l2i {x : Int64} (h : Lb N i x) (hN : N < 2147483648) : Ib N i x.toInt32 := by
  obtain ⟨rfl, h2⟩ := h
  exact ⟨int64_toInt32 (by omega) (by omega), h2⟩
theorem Ib.i2d {x : Int32} (h : Ib N i x) : Db N i 0 (FP.i2d x) := by obtain ⟨rfl, h2⟩ := h; exact ⟨dy_i2d x, h2⟩
theorem Lb.l2d {x : Int64} (h : Lb N i x) (hN : N ≤ 9007199254740992) : Db N i 0 (FP.l2d x) := by obtain ⟨rfl, h2⟩ := h; exact ⟨dy_l2d (Nat.le_trans h2 hN), h2⟩
theorem Db.nn {a : UInt64} (h : Db N i k a) : NoNaN64 a := h.1.nn
theorem Db.add {a b : UInt64} (h1 : Db N i k a) (h2 : Db M j k b) (h : N + M ≤ 9007199254740992 ∧ k ≤ 1000) : Db (N + M) (i + j) k (FP.dadd a b) :=
  ⟨dy_add h1.1 h2.1 (Nat.le_trans (bn_add h1.2 h2.2) h.1) h.2, bn_add h1.2 h2.2⟩
theorem Db.sub {a b : UInt64} (h1 : Db N i k a) (h2 : Db M j k b) (h : N + M ≤ 9007199254740992 ∧ k ≤ 1000) : Db (N + M) (i - j) k (FP.dsub a b) :=
  ⟨dy_sub h1.1 h2.1 (Nat.le_trans (bn_sub h1.2 h2.2) h.1) h.2, bn_sub h1.2 h2.2⟩
theorem Db.mul {a b : UInt64} (h1 : Db N i k a) (h2 : Db M j n b) (h : N * M ≤ 9007199254740992 ∧ k + n ≤ 1000) : Db (N * M) (i * j) (k + n) (FP.dmul a b) :=
  ⟨dy_mul h1.1 h2.1 (Nat.le_trans (bn_mul h1.2 h2.2) h.1) h.2, bn_mul h1.2 h2.2⟩
theorem Db.neg {a : UInt64} (h1 : Db N i k a) : Db N (-i) k (FP.dneg a) := ⟨dy_neg h1.1, by have := h1.2; omega⟩
theorem Db.eq {a b : UInt64} (h1 : Db N i k a) (h2 : Db M j k b) (e : i = j) : FP.dcmp a b = some .eq := dy_eq h1.1 h2.1 e
theorem Db.up {a : UInt64} (h : Db N i k a) (n : Nat) : Db (N * 2 ^ n) (i * (2 ^ n : Nat)) (k + n) a := ⟨dy_up n h.1, by rw [Int.natAbs_mul, Int.natAbs_natCast]; exact Nat.mul_le_mul_right _ h.2⟩
theorem Db.zero : Db 0 0 0 (0 : UInt64) := ⟨dy_zero, Nat.le_refl _⟩
theorem Db.div2 {a b : UInt64} (e : Nat) (h1 : Db N i k a) (h2 : Db M ((2 ^ e : Nat) : Int) 0 b) (h : N ≤ 9007199254740992 ∧ k + e ≤ 1000) : Db N i (k + e) (FP.ddiv a b) := by
  refine ⟨dy_div h1.1 h2.1 (by have := Nat.two_pow_pos e; omega) ?_ (Nat.le_trans h1.2 h.1) h.2, h1.2⟩
  rw [Nat.zero_add, Nat.pow_add, Int.natCast_mul, Int.mul_assoc, Int.mul_comm ((2 ^ k : Nat) : Int)]
theorem Db.lit {a : UInt64} (s : Bool) (c : Nat) (q : Int) (N : Nat) (i : Int) (k : Nat) (e : val64 a = .fin s c q) (w : signed s (c * 2 ^ (q + k).toNat) = i * ((2 ^ (-(q + (k : Int))).toNat : Nat) : Int) ∧ i.natAbs ≤ N) : Db N i k a := by
  refine ⟨?_, w.2⟩
  unfold Dy; rw [e]; exact w.1
theorem Ib.re {x : Int32} (h : Ib N i x) : Ib N x.toInt x := ⟨rfl, by rw [h.1]; exact h.2⟩
theorem Lb.re {x : Int64} (h : Lb N i x) : Lb N x.toInt x := ⟨rfl, by rw [h.1]; exact h.2⟩
theorem Db.weak {M : Nat} {a : UInt64} (h : Db N i k a) (q : N ≤ M) : Db M i k a := ⟨h.1, Nat.le_trans h.2 q⟩
theorem Lb.weak {M : Nat} {a : Int64} (h : Lb N i a) (q : N ≤ M) : Lb M i a := ⟨h.1, Nat.le_trans h.2 q⟩
theorem Ib.weak {M : Nat} {a : Int32} (h : Ib N i a) (q : N ≤ M) : Ib M i a := ⟨h.1, Nat.le_trans h.2 q⟩
end
end Jvm.OwnFP
namespace Jvm.OwnPlain
open Jvm.FP Jvm.FP.Core Jvm.OwnFP
theorem own_le {i j : Int} {a b : UInt64} (ha : Dy i 0 a) (hb : Dy j 0 b) (h : i ≤ j) : FP.dcmp a b = some .lt ∨ FP.dcmp a b = some .eq := by
  rcases Int.lt_or_eq_of_le h with q | q
  · exact Or.inl (dy_lt ha hb q)
  · exact Or.inr (dy_eq ha hb q)
theorem own_ngt {i j : Int} {a b : UInt64} (ha : Dy i 0 a) (hb : Dy j 0 b) (h : ¬ j < i) : FP.dcmp a b ≠ some .gt := by
  rcases own_le ha hb (by omega) with q | q <;> rw [q] <;> decide
end Jvm.OwnPlain
namespace Jvm.Pilot.@@N@@
open Jvm Jvm.ClassFile Sem Op Lib Jvm.Free Jvm.Stand Jvm.LawKit Jvm.RoadKit Bundle Jvm.Pilot.@@N@@.Jvm.D Jvm.OwnGo
theorem wd {a0 : Array Value} {Z : State} (hw : ∀ d ∈ tables_1, d.before a0 Z = true) (k : Nat) (d : Jvm.Cond) (hd : tables_1[k]? = some d) : d.before a0 Z = true := hw _ (List.mem_of_getElem? hd)
theorem pn_law : plainFor x = true := plainFor_of_name (by show plainName "com/example/trunkwright/trunkwright/planning/OfficeBusiestPinLaw" = true; first | (simp [plainName, overriddenIn]; done) | decide +kernel)
open Jvm.OwnPlain Jvm.OwnFP
theorem d0_0 : decode prog_20_method_8_code 0 = .ok (.iconst 0, 1) := by decide +kernel
theorem d0_1 : decode prog_20_method_8_code 1 = .ok (.istore_n 1, 1) := by decide +kernel
theorem d0_2 : decode prog_20_method_8_code 2 = .ok (.iconst 1, 1) := by decide +kernel
theorem d0_3 : decode prog_20_method_8_code 3 = .ok (.istore_n 2, 1) := by decide +kernel
theorem d0_4 : decode prog_20_method_8_code 4 = .ok (.iload_n 2, 1) := by decide +kernel
theorem d0_5 : decode prog_20_method_8_code 5 = .ok (.aload_n 0, 1) := by decide +kernel
theorem d0_6 : decode prog_20_method_8_code 6 = .ok (.arraylength, 1) := by decide +kernel
theorem d0_7 : decode prog_20_method_8_code 7 = .ok (.if_icmp .ge 21, 3) := by decide +kernel
theorem d0_10 : decode prog_20_method_8_code 10 = .ok (.aload_n 0, 1) := by decide +kernel
theorem d0_11 : decode prog_20_method_8_code 11 = .ok (.iload_n 2, 1) := by decide +kernel
theorem d0_12 : decode prog_20_method_8_code 12 = .ok (.daload, 1) := by decide +kernel
theorem d0_13 : decode prog_20_method_8_code 13 = .ok (.aload_n 0, 1) := by decide +kernel
theorem d0_14 : decode prog_20_method_8_code 14 = .ok (.iload_n 1, 1) := by decide +kernel
theorem d0_15 : decode prog_20_method_8_code 15 = .ok (.daload, 1) := by decide +kernel
theorem d0_16 : decode prog_20_method_8_code 16 = .ok (.dcmp .l, 1) := by decide +kernel
theorem d0_17 : decode prog_20_method_8_code 17 = .ok (.ifCond .le 5, 3) := by decide +kernel
theorem d0_20 : decode prog_20_method_8_code 20 = .ok (.iload_n 2, 1) := by decide +kernel
theorem d0_21 : decode prog_20_method_8_code 21 = .ok (.istore_n 1, 1) := by decide +kernel
theorem d0_22 : decode prog_20_method_8_code 22 = .ok (.iinc 2 1, 3) := by decide +kernel
theorem d0_25 : decode prog_20_method_8_code 25 = .ok (.goto (-21), 3) := by decide +kernel
theorem d0_28 : decode prog_20_method_8_code 28 = .ok (.iload_n 1, 1) := by decide +kernel
theorem d0_29 : decode prog_20_method_8_code 29 = .ok (.ireturn, 1) := by decide +kernel
theorem pd_0 : parseMethodDescriptor "([D)I" = some ⟨[.array .double], some .int⟩ := by decide +kernel
theorem pn_0 : plainFor (⟨"com/example/trunkwright/trunkwright/planning/Office", "busiest", "([D)I"⟩ : MethodName) = true := plainFor_of_name (by show plainName "com/example/trunkwright/trunkwright/planning/Office" = true; first | (simp [plainName, overriddenIn]; done) | decide +kernel)
set_option maxRecDepth 65536 in
set_option maxHeartbeats 40000000 in
theorem rm_busy1 (l : Launch) (Z : State) (a0 : Array Value) (hw : ∀ d ∈ tables_1, d.before a0 Z = true) (ws : List Jvm.Cond) (a1 : Addr) (k1 : ClassId) (x0 : UInt64) (Y0 : Int) (h0 : Heap) (n0 : Nat) (Z0 : n0 ≤ h0.size) (A1 : AR Z h0 a1 k1 .double [.double x0]) (H0 : Dy Y0 0 x0) :
    Ct l Z (⟨"com/example/trunkwright/trunkwright/planning/Office", "busiest", "([D)I"⟩ : MethodName) prog_20_method_8_code 3 (some .int) ws ({ frames := 0, cells := 0, slots := 0, locals := 0 } : Room) #[.ref a1] h0 (fun v h L => Fr n0 L ∧ h = h0 ∧ ((v = some (.int (0 : Int32))))) := by
  refine Ct.intro pn_0 #[.val (.ref a1), .unset, .unset] (fun _ => by first | (simp [entryFrame, mkF, argsToLocals, Value.category, maxLocals]; done) | rfl) ?_
  intro p e s m below meth c T0 X0 hx hZ hby hml hown hnm hret hlk e0
  have N0 := Fr.nil n0
  refine s_iconst X0 hx (hb hby d0_0) (0 : Int32) rfl 1 rfl ?_
  refine s_istoreN X0 hx (hb hby d0_1) #[.val (.ref a1), .val (.int (0 : Int32)), .unset] rfl 2 rfl ?_
  refine s_iconst X0 hx (hb hby d0_2) (1 : Int32) rfl 3 rfl ?_
  refine s_istoreN X0 hx (hb hby d0_3) #[.val (.ref a1), .val (.int (0 : Int32)), .val (.int (1 : Int32))] rfl 4 rfl ?_
  refine s_iloadN X0 hx (hb hby d0_4) rfl 5 rfl ?_
  refine s_aloadN X0 hx (hb hby d0_5) rfl rfl 6 rfl ?_
  refine s_len X0 hx hZ e0 A1 (hb hby d0_6) (1 : Int32) rfl 7 rfl ?_
  refine s_icmpY X0 hx (hb hby d0_7) (by decide) 28 (by decide) (by decide) ?_
  refine s_iloadN X0 hx (hb hby d0_28) rfl 29 rfl ?_
  exact retI X0 hx hlk hret (hb hby d0_29) e0 ⟨N0, rfl, rfl⟩ (by decide) (by decide)
set_option maxRecDepth 65536 in
set_option maxHeartbeats 40000000 in
theorem rm_busy2 (l : Launch) (Z : State) (a0 : Array Value) (hw : ∀ d ∈ tables_1, d.before a0 Z = true) (ws : List Jvm.Cond) (a1 : Addr) (k1 : ClassId) (x0 x1 : UInt64) (Y0 Y1 : Int) (h0 : Heap) (n0 : Nat) (Z0 : n0 ≤ h0.size) (A1 : AR Z h0 a1 k1 .double [.double x0, .double x1]) (H0 : Dy Y0 0 x0) (H1 : Dy Y1 0 x1) :
    Ct l Z (⟨"com/example/trunkwright/trunkwright/planning/Office", "busiest", "([D)I"⟩ : MethodName) prog_20_method_8_code 3 (some .int) ws ({ frames := 0, cells := 0, slots := 0, locals := 0 } : Room) #[.ref a1] h0 (fun v h L => Fr n0 L ∧ h = h0 ∧ ((v = some (.int (0 : Int32)) ∧ Y1 ≤ Y0) ∨ (v = some (.int (1 : Int32)) ∧ Y0 < Y1))) := by
  refine Ct.intro pn_0 #[.val (.ref a1), .unset, .unset] (fun _ => by first | (simp [entryFrame, mkF, argsToLocals, Value.category, maxLocals]; done) | rfl) ?_
  intro p e s m below meth c T0 X0 hx hZ hby hml hown hnm hret hlk e0
  have N0 := Fr.nil n0
  refine s_iconst X0 hx (hb hby d0_0) (0 : Int32) rfl 1 rfl ?_
  refine s_istoreN X0 hx (hb hby d0_1) #[.val (.ref a1), .val (.int (0 : Int32)), .unset] rfl 2 rfl ?_
  refine s_iconst X0 hx (hb hby d0_2) (1 : Int32) rfl 3 rfl ?_
  refine s_istoreN X0 hx (hb hby d0_3) #[.val (.ref a1), .val (.int (0 : Int32)), .val (.int (1 : Int32))] rfl 4 rfl ?_
  refine s_iloadN X0 hx (hb hby d0_4) rfl 5 rfl ?_
  refine s_aloadN X0 hx (hb hby d0_5) rfl rfl 6 rfl ?_
  refine s_len X0 hx hZ e0 A1 (hb hby d0_6) (2 : Int32) rfl 7 rfl ?_
  refine s_icmpN X0 hx (hb hby d0_7) (by decide) 10 rfl ?_
  refine s_aloadN X0 hx (hb hby d0_10) rfl rfl 11 rfl ?_
  refine s_iloadN X0 hx (hb hby d0_11) rfl 12 rfl ?_
  refine s_daload X0 hx hZ e0 A1 (hb hby d0_12) (j := (1 : Int32)) 1 (by decide) (.double x1) rfl 13 rfl ?_
  refine s_aloadN X0 hx (hb hby d0_13) rfl rfl 14 rfl ?_
  refine s_iloadN X0 hx (hb hby d0_14) rfl 15 rfl ?_
  refine s_daload X0 hx hZ e0 A1 (hb hby d0_15) (j := (0 : Int32)) 0 (by decide) (.double x0) rfl 16 rfl ?_
  refine s_dcmp X0 hx (hb hby d0_16) (cmpValue (FP.dcmp x1 x0) .l) rfl 17 rfl ?_
  by_cases hq1 : Y0 < Y1
  · skip
    refine s_ifN X0 hx (hb hby d0_17) (dd_le_f (dy_gt H1 H0 hq1)) 20 rfl ?_
    refine s_iloadN X0 hx (hb hby d0_20) rfl 21 rfl ?_
    refine s_istoreN X0 hx (hb hby d0_21) #[.val (.ref a1), .val (.int (1 : Int32)), .val (.int (1 : Int32))] rfl 22 rfl ?_
    refine s_iinc X0 hx (hb hby d0_22) (2 : Int32) rfl rfl #[.val (.ref a1), .val (.int (1 : Int32)), .val (.int (2 : Int32))] rfl 25 rfl ?_
    refine s_goto X0 hx (hb hby d0_25) 4 (by decide) (by decide) ?_
    refine s_iloadN X0 hx (hb hby d0_4) rfl 5 rfl ?_
    refine s_aloadN X0 hx (hb hby d0_5) rfl rfl 6 rfl ?_
    refine s_len X0 hx hZ e0 A1 (hb hby d0_6) (2 : Int32) rfl 7 rfl ?_
    refine s_icmpY X0 hx (hb hby d0_7) (by decide) 28 (by decide) (by decide) ?_
    refine s_iloadN X0 hx (hb hby d0_28) rfl 29 rfl ?_
    exact retI X0 hx hlk hret (hb hby d0_29) e0 ⟨N0, rfl, (Or.inr ⟨rfl, by omega⟩)⟩ (by decide) (by decide)
  · skip
    refine s_ifY X0 hx (hb hby d0_17) (dd_le_t (own_ngt H1 H0 hq1)) 22 (by decide) (by decide) ?_
    refine s_iinc X0 hx (hb hby d0_22) (2 : Int32) rfl rfl #[.val (.ref a1), .val (.int (0 : Int32)), .val (.int (2 : Int32))] rfl 25 rfl ?_
    refine s_goto X0 hx (hb hby d0_25) 4 (by decide) (by decide) ?_
    refine s_iloadN X0 hx (hb hby d0_4) rfl 5 rfl ?_
    refine s_aloadN X0 hx (hb hby d0_5) rfl rfl 6 rfl ?_
    refine s_len X0 hx hZ e0 A1 (hb hby d0_6) (2 : Int32) rfl 7 rfl ?_
    refine s_icmpY X0 hx (hb hby d0_7) (by decide) 28 (by decide) (by decide) ?_
    refine s_iloadN X0 hx (hb hby d0_28) rfl 29 rfl ?_
    exact retI X0 hx hlk hret (hb hby d0_29) e0 ⟨N0, rfl, (Or.inl (⟨rfl, by omega⟩))⟩ (by decide) (by decide)
set_option maxRecDepth 65536 in
set_option maxHeartbeats 40000000 in
theorem rm_busy3 (l : Launch) (Z : State) (a0 : Array Value) (hw : ∀ d ∈ tables_1, d.before a0 Z = true) (ws : List Jvm.Cond) (a1 : Addr) (k1 : ClassId) (x0 x1 x2 : UInt64) (Y0 Y1 Y2 : Int) (h0 : Heap) (n0 : Nat) (Z0 : n0 ≤ h0.size) (A1 : AR Z h0 a1 k1 .double [.double x0, .double x1, .double x2]) (H0 : Dy Y0 0 x0) (H1 : Dy Y1 0 x1) (H2 : Dy Y2 0 x2) :
    Ct l Z (⟨"com/example/trunkwright/trunkwright/planning/Office", "busiest", "([D)I"⟩ : MethodName) prog_20_method_8_code 3 (some .int) ws ({ frames := 0, cells := 0, slots := 0, locals := 0 } : Room) #[.ref a1] h0 (fun v h L => Fr n0 L ∧ h = h0 ∧ ((v = some (.int (0 : Int32)) ∧ Y1 ≤ Y0 ∧ Y2 ≤ Y0) ∨ (v = some (.int (1 : Int32)) ∧ Y0 < Y1 ∧ Y2 ≤ Y1) ∨ (v = some (.int (2 : Int32)) ∧ Y0 < Y2 ∧ Y1 < Y2))) := by
  refine Ct.intro pn_0 #[.val (.ref a1), .unset, .unset] (fun _ => by first | (simp [entryFrame, mkF, argsToLocals, Value.category, maxLocals]; done) | rfl) ?_
  intro p e s m below meth c T0 X0 hx hZ hby hml hown hnm hret hlk e0
  have N0 := Fr.nil n0
  refine s_iconst X0 hx (hb hby d0_0) (0 : Int32) rfl 1 rfl ?_
  refine s_istoreN X0 hx (hb hby d0_1) #[.val (.ref a1), .val (.int (0 : Int32)), .unset] rfl 2 rfl ?_
  refine s_iconst X0 hx (hb hby d0_2) (1 : Int32) rfl 3 rfl ?_
  refine s_istoreN X0 hx (hb hby d0_3) #[.val (.ref a1), .val (.int (0 : Int32)), .val (.int (1 : Int32))] rfl 4 rfl ?_
  refine s_iloadN X0 hx (hb hby d0_4) rfl 5 rfl ?_
  refine s_aloadN X0 hx (hb hby d0_5) rfl rfl 6 rfl ?_
  refine s_len X0 hx hZ e0 A1 (hb hby d0_6) (3 : Int32) rfl 7 rfl ?_
  refine s_icmpN X0 hx (hb hby d0_7) (by decide) 10 rfl ?_
  refine s_aloadN X0 hx (hb hby d0_10) rfl rfl 11 rfl ?_
  refine s_iloadN X0 hx (hb hby d0_11) rfl 12 rfl ?_
  refine s_daload X0 hx hZ e0 A1 (hb hby d0_12) (j := (1 : Int32)) 1 (by decide) (.double x1) rfl 13 rfl ?_
  refine s_aloadN X0 hx (hb hby d0_13) rfl rfl 14 rfl ?_
  refine s_iloadN X0 hx (hb hby d0_14) rfl 15 rfl ?_
  refine s_daload X0 hx hZ e0 A1 (hb hby d0_15) (j := (0 : Int32)) 0 (by decide) (.double x0) rfl 16 rfl ?_
  refine s_dcmp X0 hx (hb hby d0_16) (cmpValue (FP.dcmp x1 x0) .l) rfl 17 rfl ?_
  by_cases hq1 : Y0 < Y1
  · skip
    refine s_ifN X0 hx (hb hby d0_17) (dd_le_f (dy_gt H1 H0 hq1)) 20 rfl ?_
    refine s_iloadN X0 hx (hb hby d0_20) rfl 21 rfl ?_
    refine s_istoreN X0 hx (hb hby d0_21) #[.val (.ref a1), .val (.int (1 : Int32)), .val (.int (1 : Int32))] rfl 22 rfl ?_
    refine s_iinc X0 hx (hb hby d0_22) (2 : Int32) rfl rfl #[.val (.ref a1), .val (.int (1 : Int32)), .val (.int (2 : Int32))] rfl 25 rfl ?_
    refine s_goto X0 hx (hb hby d0_25) 4 (by decide) (by decide) ?_
    refine s_iloadN X0 hx (hb hby d0_4) rfl 5 rfl ?_
    refine s_aloadN X0 hx (hb hby d0_5) rfl rfl 6 rfl ?_
    refine s_len X0 hx hZ e0 A1 (hb hby d0_6) (3 : Int32) rfl 7 rfl ?_
    refine s_icmpN X0 hx (hb hby d0_7) (by decide) 10 rfl ?_
    refine s_aloadN X0 hx (hb hby d0_10) rfl rfl 11 rfl ?_
    refine s_iloadN X0 hx (hb hby d0_11) rfl 12 rfl ?_
    refine s_daload X0 hx hZ e0 A1 (hb hby d0_12) (j := (2 : Int32)) 2 (by decide) (.double x2) rfl 13 rfl ?_
    refine s_aloadN X0 hx (hb hby d0_13) rfl rfl 14 rfl ?_
    refine s_iloadN X0 hx (hb hby d0_14) rfl 15 rfl ?_
    refine s_daload X0 hx hZ e0 A1 (hb hby d0_15) (j := (1 : Int32)) 1 (by decide) (.double x1) rfl 16 rfl ?_
    refine s_dcmp X0 hx (hb hby d0_16) (cmpValue (FP.dcmp x2 x1) .l) rfl 17 rfl ?_
    by_cases hq2 : Y1 < Y2
    · skip
      refine s_ifN X0 hx (hb hby d0_17) (dd_le_f (dy_gt H2 H1 hq2)) 20 rfl ?_
      refine s_iloadN X0 hx (hb hby d0_20) rfl 21 rfl ?_
      refine s_istoreN X0 hx (hb hby d0_21) #[.val (.ref a1), .val (.int (2 : Int32)), .val (.int (2 : Int32))] rfl 22 rfl ?_
      refine s_iinc X0 hx (hb hby d0_22) (3 : Int32) rfl rfl #[.val (.ref a1), .val (.int (2 : Int32)), .val (.int (3 : Int32))] rfl 25 rfl ?_
      refine s_goto X0 hx (hb hby d0_25) 4 (by decide) (by decide) ?_
      refine s_iloadN X0 hx (hb hby d0_4) rfl 5 rfl ?_
      refine s_aloadN X0 hx (hb hby d0_5) rfl rfl 6 rfl ?_
      refine s_len X0 hx hZ e0 A1 (hb hby d0_6) (3 : Int32) rfl 7 rfl ?_
      refine s_icmpY X0 hx (hb hby d0_7) (by decide) 28 (by decide) (by decide) ?_
      refine s_iloadN X0 hx (hb hby d0_28) rfl 29 rfl ?_
      exact retI X0 hx hlk hret (hb hby d0_29) e0 ⟨N0, rfl, (Or.inr (Or.inr ⟨rfl, by omega, by omega⟩))⟩ (by decide) (by decide)
    · skip
      refine s_ifY X0 hx (hb hby d0_17) (dd_le_t (own_ngt H2 H1 hq2)) 22 (by decide) (by decide) ?_
      refine s_iinc X0 hx (hb hby d0_22) (3 : Int32) rfl rfl #[.val (.ref a1), .val (.int (1 : Int32)), .val (.int (3 : Int32))] rfl 25 rfl ?_
      refine s_goto X0 hx (hb hby d0_25) 4 (by decide) (by decide) ?_
      refine s_iloadN X0 hx (hb hby d0_4) rfl 5 rfl ?_
      refine s_aloadN X0 hx (hb hby d0_5) rfl rfl 6 rfl ?_
      refine s_len X0 hx hZ e0 A1 (hb hby d0_6) (3 : Int32) rfl 7 rfl ?_
      refine s_icmpY X0 hx (hb hby d0_7) (by decide) 28 (by decide) (by decide) ?_
      refine s_iloadN X0 hx (hb hby d0_28) rfl 29 rfl ?_
      exact retI X0 hx hlk hret (hb hby d0_29) e0 ⟨N0, rfl, (Or.inr (Or.inl (⟨rfl, by omega, by omega⟩)))⟩ (by decide) (by decide)
  · skip
    refine s_ifY X0 hx (hb hby d0_17) (dd_le_t (own_ngt H1 H0 hq1)) 22 (by decide) (by decide) ?_
    refine s_iinc X0 hx (hb hby d0_22) (2 : Int32) rfl rfl #[.val (.ref a1), .val (.int (0 : Int32)), .val (.int (2 : Int32))] rfl 25 rfl ?_
    refine s_goto X0 hx (hb hby d0_25) 4 (by decide) (by decide) ?_
    refine s_iloadN X0 hx (hb hby d0_4) rfl 5 rfl ?_
    refine s_aloadN X0 hx (hb hby d0_5) rfl rfl 6 rfl ?_
    refine s_len X0 hx hZ e0 A1 (hb hby d0_6) (3 : Int32) rfl 7 rfl ?_
    refine s_icmpN X0 hx (hb hby d0_7) (by decide) 10 rfl ?_
    refine s_aloadN X0 hx (hb hby d0_10) rfl rfl 11 rfl ?_
    refine s_iloadN X0 hx (hb hby d0_11) rfl 12 rfl ?_
    refine s_daload X0 hx hZ e0 A1 (hb hby d0_12) (j := (2 : Int32)) 2 (by decide) (.double x2) rfl 13 rfl ?_
    refine s_aloadN X0 hx (hb hby d0_13) rfl rfl 14 rfl ?_
    refine s_iloadN X0 hx (hb hby d0_14) rfl 15 rfl ?_
    refine s_daload X0 hx hZ e0 A1 (hb hby d0_15) (j := (0 : Int32)) 0 (by decide) (.double x0) rfl 16 rfl ?_
    refine s_dcmp X0 hx (hb hby d0_16) (cmpValue (FP.dcmp x2 x0) .l) rfl 17 rfl ?_
    by_cases hq2 : Y0 < Y2
    · skip
      refine s_ifN X0 hx (hb hby d0_17) (dd_le_f (dy_gt H2 H0 hq2)) 20 rfl ?_
      refine s_iloadN X0 hx (hb hby d0_20) rfl 21 rfl ?_
      refine s_istoreN X0 hx (hb hby d0_21) #[.val (.ref a1), .val (.int (2 : Int32)), .val (.int (2 : Int32))] rfl 22 rfl ?_
      refine s_iinc X0 hx (hb hby d0_22) (3 : Int32) rfl rfl #[.val (.ref a1), .val (.int (2 : Int32)), .val (.int (3 : Int32))] rfl 25 rfl ?_
      refine s_goto X0 hx (hb hby d0_25) 4 (by decide) (by decide) ?_
      refine s_iloadN X0 hx (hb hby d0_4) rfl 5 rfl ?_
      refine s_aloadN X0 hx (hb hby d0_5) rfl rfl 6 rfl ?_
      refine s_len X0 hx hZ e0 A1 (hb hby d0_6) (3 : Int32) rfl 7 rfl ?_
      refine s_icmpY X0 hx (hb hby d0_7) (by decide) 28 (by decide) (by decide) ?_
      refine s_iloadN X0 hx (hb hby d0_28) rfl 29 rfl ?_
      exact retI X0 hx hlk hret (hb hby d0_29) e0 ⟨N0, rfl, (Or.inr (Or.inr ⟨rfl, by omega, by omega⟩))⟩ (by decide) (by decide)
    · skip
      refine s_ifY X0 hx (hb hby d0_17) (dd_le_t (own_ngt H2 H0 hq2)) 22 (by decide) (by decide) ?_
      refine s_iinc X0 hx (hb hby d0_22) (3 : Int32) rfl rfl #[.val (.ref a1), .val (.int (0 : Int32)), .val (.int (3 : Int32))] rfl 25 rfl ?_
      refine s_goto X0 hx (hb hby d0_25) 4 (by decide) (by decide) ?_
      refine s_iloadN X0 hx (hb hby d0_4) rfl 5 rfl ?_
      refine s_aloadN X0 hx (hb hby d0_5) rfl rfl 6 rfl ?_
      refine s_len X0 hx hZ e0 A1 (hb hby d0_6) (3 : Int32) rfl 7 rfl ?_
      refine s_icmpY X0 hx (hb hby d0_7) (by decide) 28 (by decide) (by decide) ?_
      refine s_iloadN X0 hx (hb hby d0_28) rfl 29 rfl ?_
      exact retI X0 hx hlk hret (hb hby d0_29) e0 ⟨N0, rfl, (Or.inl (⟨rfl, by omega, by omega⟩))⟩ (by decide) (by decide)
set_option maxRecDepth 65536 in
set_option maxHeartbeats 40000000 in
theorem rm_busy4 (l : Launch) (Z : State) (a0 : Array Value) (hw : ∀ d ∈ tables_1, d.before a0 Z = true) (ws : List Jvm.Cond) (a1 : Addr) (k1 : ClassId) (x0 x1 x2 x3 : UInt64) (Y0 Y1 Y2 Y3 : Int) (h0 : Heap) (n0 : Nat) (Z0 : n0 ≤ h0.size) (A1 : AR Z h0 a1 k1 .double [.double x0, .double x1, .double x2, .double x3]) (H0 : Dy Y0 0 x0) (H1 : Dy Y1 0 x1) (H2 : Dy Y2 0 x2) (H3 : Dy Y3 0 x3) :
    Ct l Z (⟨"com/example/trunkwright/trunkwright/planning/Office", "busiest", "([D)I"⟩ : MethodName) prog_20_method_8_code 3 (some .int) ws ({ frames := 0, cells := 0, slots := 0, locals := 0 } : Room) #[.ref a1] h0 (fun v h L => Fr n0 L ∧ h = h0 ∧ ((v = some (.int (0 : Int32)) ∧ Y1 ≤ Y0 ∧ Y2 ≤ Y0 ∧ Y3 ≤ Y0) ∨ (v = some (.int (1 : Int32)) ∧ Y0 < Y1 ∧ Y2 ≤ Y1 ∧ Y3 ≤ Y1) ∨ (v = some (.int (2 : Int32)) ∧ Y0 < Y2 ∧ Y1 < Y2 ∧ Y3 ≤ Y2) ∨ (v = some (.int (3 : Int32)) ∧ Y0 < Y3 ∧ Y1 < Y3 ∧ Y2 < Y3))) := by
  refine Ct.intro pn_0 #[.val (.ref a1), .unset, .unset] (fun _ => by first | (simp [entryFrame, mkF, argsToLocals, Value.category, maxLocals]; done) | rfl) ?_
  intro p e s m below meth c T0 X0 hx hZ hby hml hown hnm hret hlk e0
  have N0 := Fr.nil n0
  refine s_iconst X0 hx (hb hby d0_0) (0 : Int32) rfl 1 rfl ?_
  refine s_istoreN X0 hx (hb hby d0_1) #[.val (.ref a1), .val (.int (0 : Int32)), .unset] rfl 2 rfl ?_
  refine s_iconst X0 hx (hb hby d0_2) (1 : Int32) rfl 3 rfl ?_
  refine s_istoreN X0 hx (hb hby d0_3) #[.val (.ref a1), .val (.int (0 : Int32)), .val (.int (1 : Int32))] rfl 4 rfl ?_
  refine s_iloadN X0 hx (hb hby d0_4) rfl 5 rfl ?_
  refine s_aloadN X0 hx (hb hby d0_5) rfl rfl 6 rfl ?_
  refine s_len X0 hx hZ e0 A1 (hb hby d0_6) (4 : Int32) rfl 7 rfl ?_
  refine s_icmpN X0 hx (hb hby d0_7) (by decide) 10 rfl ?_
  refine s_aloadN X0 hx (hb hby d0_10) rfl rfl 11 rfl ?_
  refine s_iloadN X0 hx (hb hby d0_11) rfl 12 rfl ?_
  refine s_daload X0 hx hZ e0 A1 (hb hby d0_12) (j := (1 : Int32)) 1 (by decide) (.double x1) rfl 13 rfl ?_
  refine s_aloadN X0 hx (hb hby d0_13) rfl rfl 14 rfl ?_
  refine s_iloadN X0 hx (hb hby d0_14) rfl 15 rfl ?_
  refine s_daload X0 hx hZ e0 A1 (hb hby d0_15) (j := (0 : Int32)) 0 (by decide) (.double x0) rfl 16 rfl ?_
  refine s_dcmp X0 hx (hb hby d0_16) (cmpValue (FP.dcmp x1 x0) .l) rfl 17 rfl ?_
  by_cases hq1 : Y0 < Y1
  · skip
    refine s_ifN X0 hx (hb hby d0_17) (dd_le_f (dy_gt H1 H0 hq1)) 20 rfl ?_
    refine s_iloadN X0 hx (hb hby d0_20) rfl 21 rfl ?_
    refine s_istoreN X0 hx (hb hby d0_21) #[.val (.ref a1), .val (.int (1 : Int32)), .val (.int (1 : Int32))] rfl 22 rfl ?_
    refine s_iinc X0 hx (hb hby d0_22) (2 : Int32) rfl rfl #[.val (.ref a1), .val (.int (1 : Int32)), .val (.int (2 : Int32))] rfl 25 rfl ?_
    refine s_goto X0 hx (hb hby d0_25) 4 (by decide) (by decide) ?_
    refine s_iloadN X0 hx (hb hby d0_4) rfl 5 rfl ?_
    refine s_aloadN X0 hx (hb hby d0_5) rfl rfl 6 rfl ?_
    refine s_len X0 hx hZ e0 A1 (hb hby d0_6) (4 : Int32) rfl 7 rfl ?_
    refine s_icmpN X0 hx (hb hby d0_7) (by decide) 10 rfl ?_
    refine s_aloadN X0 hx (hb hby d0_10) rfl rfl 11 rfl ?_
    refine s_iloadN X0 hx (hb hby d0_11) rfl 12 rfl ?_
    refine s_daload X0 hx hZ e0 A1 (hb hby d0_12) (j := (2 : Int32)) 2 (by decide) (.double x2) rfl 13 rfl ?_
    refine s_aloadN X0 hx (hb hby d0_13) rfl rfl 14 rfl ?_
    refine s_iloadN X0 hx (hb hby d0_14) rfl 15 rfl ?_
    refine s_daload X0 hx hZ e0 A1 (hb hby d0_15) (j := (1 : Int32)) 1 (by decide) (.double x1) rfl 16 rfl ?_
    refine s_dcmp X0 hx (hb hby d0_16) (cmpValue (FP.dcmp x2 x1) .l) rfl 17 rfl ?_
    by_cases hq2 : Y1 < Y2
    · skip
      refine s_ifN X0 hx (hb hby d0_17) (dd_le_f (dy_gt H2 H1 hq2)) 20 rfl ?_
      refine s_iloadN X0 hx (hb hby d0_20) rfl 21 rfl ?_
      refine s_istoreN X0 hx (hb hby d0_21) #[.val (.ref a1), .val (.int (2 : Int32)), .val (.int (2 : Int32))] rfl 22 rfl ?_
      refine s_iinc X0 hx (hb hby d0_22) (3 : Int32) rfl rfl #[.val (.ref a1), .val (.int (2 : Int32)), .val (.int (3 : Int32))] rfl 25 rfl ?_
      refine s_goto X0 hx (hb hby d0_25) 4 (by decide) (by decide) ?_
      refine s_iloadN X0 hx (hb hby d0_4) rfl 5 rfl ?_
      refine s_aloadN X0 hx (hb hby d0_5) rfl rfl 6 rfl ?_
      refine s_len X0 hx hZ e0 A1 (hb hby d0_6) (4 : Int32) rfl 7 rfl ?_
      refine s_icmpN X0 hx (hb hby d0_7) (by decide) 10 rfl ?_
      refine s_aloadN X0 hx (hb hby d0_10) rfl rfl 11 rfl ?_
      refine s_iloadN X0 hx (hb hby d0_11) rfl 12 rfl ?_
      refine s_daload X0 hx hZ e0 A1 (hb hby d0_12) (j := (3 : Int32)) 3 (by decide) (.double x3) rfl 13 rfl ?_
      refine s_aloadN X0 hx (hb hby d0_13) rfl rfl 14 rfl ?_
      refine s_iloadN X0 hx (hb hby d0_14) rfl 15 rfl ?_
      refine s_daload X0 hx hZ e0 A1 (hb hby d0_15) (j := (2 : Int32)) 2 (by decide) (.double x2) rfl 16 rfl ?_
      refine s_dcmp X0 hx (hb hby d0_16) (cmpValue (FP.dcmp x3 x2) .l) rfl 17 rfl ?_
      by_cases hq3 : Y2 < Y3
      · skip
        refine s_ifN X0 hx (hb hby d0_17) (dd_le_f (dy_gt H3 H2 hq3)) 20 rfl ?_
        refine s_iloadN X0 hx (hb hby d0_20) rfl 21 rfl ?_
        refine s_istoreN X0 hx (hb hby d0_21) #[.val (.ref a1), .val (.int (3 : Int32)), .val (.int (3 : Int32))] rfl 22 rfl ?_
        refine s_iinc X0 hx (hb hby d0_22) (4 : Int32) rfl rfl #[.val (.ref a1), .val (.int (3 : Int32)), .val (.int (4 : Int32))] rfl 25 rfl ?_
        refine s_goto X0 hx (hb hby d0_25) 4 (by decide) (by decide) ?_
        refine s_iloadN X0 hx (hb hby d0_4) rfl 5 rfl ?_
        refine s_aloadN X0 hx (hb hby d0_5) rfl rfl 6 rfl ?_
        refine s_len X0 hx hZ e0 A1 (hb hby d0_6) (4 : Int32) rfl 7 rfl ?_
        refine s_icmpY X0 hx (hb hby d0_7) (by decide) 28 (by decide) (by decide) ?_
        refine s_iloadN X0 hx (hb hby d0_28) rfl 29 rfl ?_
        exact retI X0 hx hlk hret (hb hby d0_29) e0 ⟨N0, rfl, (Or.inr (Or.inr (Or.inr ⟨rfl, by omega, by omega, by omega⟩)))⟩ (by decide) (by decide)
      · skip
        refine s_ifY X0 hx (hb hby d0_17) (dd_le_t (own_ngt H3 H2 hq3)) 22 (by decide) (by decide) ?_
        refine s_iinc X0 hx (hb hby d0_22) (4 : Int32) rfl rfl #[.val (.ref a1), .val (.int (2 : Int32)), .val (.int (4 : Int32))] rfl 25 rfl ?_
        refine s_goto X0 hx (hb hby d0_25) 4 (by decide) (by decide) ?_
        refine s_iloadN X0 hx (hb hby d0_4) rfl 5 rfl ?_
        refine s_aloadN X0 hx (hb hby d0_5) rfl rfl 6 rfl ?_
        refine s_len X0 hx hZ e0 A1 (hb hby d0_6) (4 : Int32) rfl 7 rfl ?_
        refine s_icmpY X0 hx (hb hby d0_7) (by decide) 28 (by decide) (by decide) ?_
        refine s_iloadN X0 hx (hb hby d0_28) rfl 29 rfl ?_
        exact retI X0 hx hlk hret (hb hby d0_29) e0 ⟨N0, rfl, (Or.inr (Or.inr (Or.inl (⟨rfl, by omega, by omega, by omega⟩))))⟩ (by decide) (by decide)
    · skip
      refine s_ifY X0 hx (hb hby d0_17) (dd_le_t (own_ngt H2 H1 hq2)) 22 (by decide) (by decide) ?_
      refine s_iinc X0 hx (hb hby d0_22) (3 : Int32) rfl rfl #[.val (.ref a1), .val (.int (1 : Int32)), .val (.int (3 : Int32))] rfl 25 rfl ?_
      refine s_goto X0 hx (hb hby d0_25) 4 (by decide) (by decide) ?_
      refine s_iloadN X0 hx (hb hby d0_4) rfl 5 rfl ?_
      refine s_aloadN X0 hx (hb hby d0_5) rfl rfl 6 rfl ?_
      refine s_len X0 hx hZ e0 A1 (hb hby d0_6) (4 : Int32) rfl 7 rfl ?_
      refine s_icmpN X0 hx (hb hby d0_7) (by decide) 10 rfl ?_
      refine s_aloadN X0 hx (hb hby d0_10) rfl rfl 11 rfl ?_
      refine s_iloadN X0 hx (hb hby d0_11) rfl 12 rfl ?_
      refine s_daload X0 hx hZ e0 A1 (hb hby d0_12) (j := (3 : Int32)) 3 (by decide) (.double x3) rfl 13 rfl ?_
      refine s_aloadN X0 hx (hb hby d0_13) rfl rfl 14 rfl ?_
      refine s_iloadN X0 hx (hb hby d0_14) rfl 15 rfl ?_
      refine s_daload X0 hx hZ e0 A1 (hb hby d0_15) (j := (1 : Int32)) 1 (by decide) (.double x1) rfl 16 rfl ?_
      refine s_dcmp X0 hx (hb hby d0_16) (cmpValue (FP.dcmp x3 x1) .l) rfl 17 rfl ?_
      by_cases hq3 : Y1 < Y3
      · skip
        refine s_ifN X0 hx (hb hby d0_17) (dd_le_f (dy_gt H3 H1 hq3)) 20 rfl ?_
        refine s_iloadN X0 hx (hb hby d0_20) rfl 21 rfl ?_
        refine s_istoreN X0 hx (hb hby d0_21) #[.val (.ref a1), .val (.int (3 : Int32)), .val (.int (3 : Int32))] rfl 22 rfl ?_
        refine s_iinc X0 hx (hb hby d0_22) (4 : Int32) rfl rfl #[.val (.ref a1), .val (.int (3 : Int32)), .val (.int (4 : Int32))] rfl 25 rfl ?_
        refine s_goto X0 hx (hb hby d0_25) 4 (by decide) (by decide) ?_
        refine s_iloadN X0 hx (hb hby d0_4) rfl 5 rfl ?_
        refine s_aloadN X0 hx (hb hby d0_5) rfl rfl 6 rfl ?_
        refine s_len X0 hx hZ e0 A1 (hb hby d0_6) (4 : Int32) rfl 7 rfl ?_
        refine s_icmpY X0 hx (hb hby d0_7) (by decide) 28 (by decide) (by decide) ?_
        refine s_iloadN X0 hx (hb hby d0_28) rfl 29 rfl ?_
        exact retI X0 hx hlk hret (hb hby d0_29) e0 ⟨N0, rfl, (Or.inr (Or.inr (Or.inr ⟨rfl, by omega, by omega, by omega⟩)))⟩ (by decide) (by decide)
      · skip
        refine s_ifY X0 hx (hb hby d0_17) (dd_le_t (own_ngt H3 H1 hq3)) 22 (by decide) (by decide) ?_
        refine s_iinc X0 hx (hb hby d0_22) (4 : Int32) rfl rfl #[.val (.ref a1), .val (.int (1 : Int32)), .val (.int (4 : Int32))] rfl 25 rfl ?_
        refine s_goto X0 hx (hb hby d0_25) 4 (by decide) (by decide) ?_
        refine s_iloadN X0 hx (hb hby d0_4) rfl 5 rfl ?_
        refine s_aloadN X0 hx (hb hby d0_5) rfl rfl 6 rfl ?_
        refine s_len X0 hx hZ e0 A1 (hb hby d0_6) (4 : Int32) rfl 7 rfl ?_
        refine s_icmpY X0 hx (hb hby d0_7) (by decide) 28 (by decide) (by decide) ?_
        refine s_iloadN X0 hx (hb hby d0_28) rfl 29 rfl ?_
        exact retI X0 hx hlk hret (hb hby d0_29) e0 ⟨N0, rfl, (Or.inr (Or.inl (⟨rfl, by omega, by omega, by omega⟩)))⟩ (by decide) (by decide)
  · skip
    refine s_ifY X0 hx (hb hby d0_17) (dd_le_t (own_ngt H1 H0 hq1)) 22 (by decide) (by decide) ?_
    refine s_iinc X0 hx (hb hby d0_22) (2 : Int32) rfl rfl #[.val (.ref a1), .val (.int (0 : Int32)), .val (.int (2 : Int32))] rfl 25 rfl ?_
    refine s_goto X0 hx (hb hby d0_25) 4 (by decide) (by decide) ?_
    refine s_iloadN X0 hx (hb hby d0_4) rfl 5 rfl ?_
    refine s_aloadN X0 hx (hb hby d0_5) rfl rfl 6 rfl ?_
    refine s_len X0 hx hZ e0 A1 (hb hby d0_6) (4 : Int32) rfl 7 rfl ?_
    refine s_icmpN X0 hx (hb hby d0_7) (by decide) 10 rfl ?_
    refine s_aloadN X0 hx (hb hby d0_10) rfl rfl 11 rfl ?_
    refine s_iloadN X0 hx (hb hby d0_11) rfl 12 rfl ?_
    refine s_daload X0 hx hZ e0 A1 (hb hby d0_12) (j := (2 : Int32)) 2 (by decide) (.double x2) rfl 13 rfl ?_
    refine s_aloadN X0 hx (hb hby d0_13) rfl rfl 14 rfl ?_
    refine s_iloadN X0 hx (hb hby d0_14) rfl 15 rfl ?_
    refine s_daload X0 hx hZ e0 A1 (hb hby d0_15) (j := (0 : Int32)) 0 (by decide) (.double x0) rfl 16 rfl ?_
    refine s_dcmp X0 hx (hb hby d0_16) (cmpValue (FP.dcmp x2 x0) .l) rfl 17 rfl ?_
    by_cases hq2 : Y0 < Y2
    · skip
      refine s_ifN X0 hx (hb hby d0_17) (dd_le_f (dy_gt H2 H0 hq2)) 20 rfl ?_
      refine s_iloadN X0 hx (hb hby d0_20) rfl 21 rfl ?_
      refine s_istoreN X0 hx (hb hby d0_21) #[.val (.ref a1), .val (.int (2 : Int32)), .val (.int (2 : Int32))] rfl 22 rfl ?_
      refine s_iinc X0 hx (hb hby d0_22) (3 : Int32) rfl rfl #[.val (.ref a1), .val (.int (2 : Int32)), .val (.int (3 : Int32))] rfl 25 rfl ?_
      refine s_goto X0 hx (hb hby d0_25) 4 (by decide) (by decide) ?_
      refine s_iloadN X0 hx (hb hby d0_4) rfl 5 rfl ?_
      refine s_aloadN X0 hx (hb hby d0_5) rfl rfl 6 rfl ?_
      refine s_len X0 hx hZ e0 A1 (hb hby d0_6) (4 : Int32) rfl 7 rfl ?_
      refine s_icmpN X0 hx (hb hby d0_7) (by decide) 10 rfl ?_
      refine s_aloadN X0 hx (hb hby d0_10) rfl rfl 11 rfl ?_
      refine s_iloadN X0 hx (hb hby d0_11) rfl 12 rfl ?_
      refine s_daload X0 hx hZ e0 A1 (hb hby d0_12) (j := (3 : Int32)) 3 (by decide) (.double x3) rfl 13 rfl ?_
      refine s_aloadN X0 hx (hb hby d0_13) rfl rfl 14 rfl ?_
      refine s_iloadN X0 hx (hb hby d0_14) rfl 15 rfl ?_
      refine s_daload X0 hx hZ e0 A1 (hb hby d0_15) (j := (2 : Int32)) 2 (by decide) (.double x2) rfl 16 rfl ?_
      refine s_dcmp X0 hx (hb hby d0_16) (cmpValue (FP.dcmp x3 x2) .l) rfl 17 rfl ?_
      by_cases hq3 : Y2 < Y3
      · skip
        refine s_ifN X0 hx (hb hby d0_17) (dd_le_f (dy_gt H3 H2 hq3)) 20 rfl ?_
        refine s_iloadN X0 hx (hb hby d0_20) rfl 21 rfl ?_
        refine s_istoreN X0 hx (hb hby d0_21) #[.val (.ref a1), .val (.int (3 : Int32)), .val (.int (3 : Int32))] rfl 22 rfl ?_
        refine s_iinc X0 hx (hb hby d0_22) (4 : Int32) rfl rfl #[.val (.ref a1), .val (.int (3 : Int32)), .val (.int (4 : Int32))] rfl 25 rfl ?_
        refine s_goto X0 hx (hb hby d0_25) 4 (by decide) (by decide) ?_
        refine s_iloadN X0 hx (hb hby d0_4) rfl 5 rfl ?_
        refine s_aloadN X0 hx (hb hby d0_5) rfl rfl 6 rfl ?_
        refine s_len X0 hx hZ e0 A1 (hb hby d0_6) (4 : Int32) rfl 7 rfl ?_
        refine s_icmpY X0 hx (hb hby d0_7) (by decide) 28 (by decide) (by decide) ?_
        refine s_iloadN X0 hx (hb hby d0_28) rfl 29 rfl ?_
        exact retI X0 hx hlk hret (hb hby d0_29) e0 ⟨N0, rfl, (Or.inr (Or.inr (Or.inr ⟨rfl, by omega, by omega, by omega⟩)))⟩ (by decide) (by decide)
      · skip
        refine s_ifY X0 hx (hb hby d0_17) (dd_le_t (own_ngt H3 H2 hq3)) 22 (by decide) (by decide) ?_
        refine s_iinc X0 hx (hb hby d0_22) (4 : Int32) rfl rfl #[.val (.ref a1), .val (.int (2 : Int32)), .val (.int (4 : Int32))] rfl 25 rfl ?_
        refine s_goto X0 hx (hb hby d0_25) 4 (by decide) (by decide) ?_
        refine s_iloadN X0 hx (hb hby d0_4) rfl 5 rfl ?_
        refine s_aloadN X0 hx (hb hby d0_5) rfl rfl 6 rfl ?_
        refine s_len X0 hx hZ e0 A1 (hb hby d0_6) (4 : Int32) rfl 7 rfl ?_
        refine s_icmpY X0 hx (hb hby d0_7) (by decide) 28 (by decide) (by decide) ?_
        refine s_iloadN X0 hx (hb hby d0_28) rfl 29 rfl ?_
        exact retI X0 hx hlk hret (hb hby d0_29) e0 ⟨N0, rfl, (Or.inr (Or.inr (Or.inl (⟨rfl, by omega, by omega, by omega⟩))))⟩ (by decide) (by decide)
    · skip
      refine s_ifY X0 hx (hb hby d0_17) (dd_le_t (own_ngt H2 H0 hq2)) 22 (by decide) (by decide) ?_
      refine s_iinc X0 hx (hb hby d0_22) (3 : Int32) rfl rfl #[.val (.ref a1), .val (.int (0 : Int32)), .val (.int (3 : Int32))] rfl 25 rfl ?_
      refine s_goto X0 hx (hb hby d0_25) 4 (by decide) (by decide) ?_
      refine s_iloadN X0 hx (hb hby d0_4) rfl 5 rfl ?_
      refine s_aloadN X0 hx (hb hby d0_5) rfl rfl 6 rfl ?_
      refine s_len X0 hx hZ e0 A1 (hb hby d0_6) (4 : Int32) rfl 7 rfl ?_
      refine s_icmpN X0 hx (hb hby d0_7) (by decide) 10 rfl ?_
      refine s_aloadN X0 hx (hb hby d0_10) rfl rfl 11 rfl ?_
      refine s_iloadN X0 hx (hb hby d0_11) rfl 12 rfl ?_
      refine s_daload X0 hx hZ e0 A1 (hb hby d0_12) (j := (3 : Int32)) 3 (by decide) (.double x3) rfl 13 rfl ?_
      refine s_aloadN X0 hx (hb hby d0_13) rfl rfl 14 rfl ?_
      refine s_iloadN X0 hx (hb hby d0_14) rfl 15 rfl ?_
      refine s_daload X0 hx hZ e0 A1 (hb hby d0_15) (j := (0 : Int32)) 0 (by decide) (.double x0) rfl 16 rfl ?_
      refine s_dcmp X0 hx (hb hby d0_16) (cmpValue (FP.dcmp x3 x0) .l) rfl 17 rfl ?_
      by_cases hq3 : Y0 < Y3
      · skip
        refine s_ifN X0 hx (hb hby d0_17) (dd_le_f (dy_gt H3 H0 hq3)) 20 rfl ?_
        refine s_iloadN X0 hx (hb hby d0_20) rfl 21 rfl ?_
        refine s_istoreN X0 hx (hb hby d0_21) #[.val (.ref a1), .val (.int (3 : Int32)), .val (.int (3 : Int32))] rfl 22 rfl ?_
        refine s_iinc X0 hx (hb hby d0_22) (4 : Int32) rfl rfl #[.val (.ref a1), .val (.int (3 : Int32)), .val (.int (4 : Int32))] rfl 25 rfl ?_
        refine s_goto X0 hx (hb hby d0_25) 4 (by decide) (by decide) ?_
        refine s_iloadN X0 hx (hb hby d0_4) rfl 5 rfl ?_
        refine s_aloadN X0 hx (hb hby d0_5) rfl rfl 6 rfl ?_
        refine s_len X0 hx hZ e0 A1 (hb hby d0_6) (4 : Int32) rfl 7 rfl ?_
        refine s_icmpY X0 hx (hb hby d0_7) (by decide) 28 (by decide) (by decide) ?_
        refine s_iloadN X0 hx (hb hby d0_28) rfl 29 rfl ?_
        exact retI X0 hx hlk hret (hb hby d0_29) e0 ⟨N0, rfl, (Or.inr (Or.inr (Or.inr ⟨rfl, by omega, by omega, by omega⟩)))⟩ (by decide) (by decide)
      · skip
        refine s_ifY X0 hx (hb hby d0_17) (dd_le_t (own_ngt H3 H0 hq3)) 22 (by decide) (by decide) ?_
        refine s_iinc X0 hx (hb hby d0_22) (4 : Int32) rfl rfl #[.val (.ref a1), .val (.int (0 : Int32)), .val (.int (4 : Int32))] rfl 25 rfl ?_
        refine s_goto X0 hx (hb hby d0_25) 4 (by decide) (by decide) ?_
        refine s_iloadN X0 hx (hb hby d0_4) rfl 5 rfl ?_
        refine s_aloadN X0 hx (hb hby d0_5) rfl rfl 6 rfl ?_
        refine s_len X0 hx hZ e0 A1 (hb hby d0_6) (4 : Int32) rfl 7 rfl ?_
        refine s_icmpY X0 hx (hb hby d0_7) (by decide) 28 (by decide) (by decide) ?_
        refine s_iloadN X0 hx (hb hby d0_28) rfl 29 rfl ?_
        exact retI X0 hx hlk hret (hb hby d0_29) e0 ⟨N0, rfl, (Or.inl (⟨rfl, by omega, by omega, by omega⟩))⟩ (by decide) (by decide)
theorem d1_0 : decode method_3_code 0 = .ok (.iload_n 2, 1) := by decide +kernel
theorem d1_1 : decode method_3_code 1 = .ok (.aload_n 0, 1) := by decide +kernel
theorem d1_2 : decode method_3_code 2 = .ok (.arraylength, 1) := by decide +kernel
theorem d1_3 : decode method_3_code 3 = .ok (.if_icmp .lt 5, 3) := by decide +kernel
theorem d1_6 : decode method_3_code 6 = .ok (.iconst 1, 1) := by decide +kernel
theorem d1_7 : decode method_3_code 7 = .ok (.ireturn, 1) := by decide +kernel
theorem d1_8 : decode method_3_code 8 = .ok (.iload_n 2, 1) := by decide +kernel
theorem d1_9 : decode method_3_code 9 = .ok (.iload_n 1, 1) := by decide +kernel
theorem d1_10 : decode method_3_code 10 = .ok (.if_icmp .ge 19, 3) := by decide +kernel
theorem d1_13 : decode method_3_code 13 = .ok (.aload_n 0, 1) := by decide +kernel
theorem d1_14 : decode method_3_code 14 = .ok (.iload_n 2, 1) := by decide +kernel
theorem d1_15 : decode method_3_code 15 = .ok (.daload, 1) := by decide +kernel
theorem d1_16 : decode method_3_code 16 = .ok (.aload_n 0, 1) := by decide +kernel
theorem d1_17 : decode method_3_code 17 = .ok (.iload_n 1, 1) := by decide +kernel
theorem d1_18 : decode method_3_code 18 = .ok (.daload, 1) := by decide +kernel
theorem d1_19 : decode method_3_code 19 = .ok (.dcmp .g, 1) := by decide +kernel
theorem d1_20 : decode method_3_code 20 = .ok (.ifCond .ge 7, 3) := by decide +kernel
theorem d1_23 : decode method_3_code 23 = .ok (.iconst 1, 1) := by decide +kernel
theorem d1_24 : decode method_3_code 24 = .ok (.goto 4, 3) := by decide +kernel
theorem d1_27 : decode method_3_code 27 = .ok (.iconst 0, 1) := by decide +kernel
theorem d1_28 : decode method_3_code 28 = .ok (.ireturn, 1) := by decide +kernel
theorem d1_29 : decode method_3_code 29 = .ok (.aload_n 0, 1) := by decide +kernel
theorem d1_30 : decode method_3_code 30 = .ok (.iload_n 2, 1) := by decide +kernel
theorem d1_31 : decode method_3_code 31 = .ok (.daload, 1) := by decide +kernel
theorem d1_32 : decode method_3_code 32 = .ok (.aload_n 0, 1) := by decide +kernel
theorem d1_33 : decode method_3_code 33 = .ok (.iload_n 1, 1) := by decide +kernel
theorem d1_34 : decode method_3_code 34 = .ok (.daload, 1) := by decide +kernel
theorem d1_35 : decode method_3_code 35 = .ok (.dcmp .g, 1) := by decide +kernel
theorem d1_36 : decode method_3_code 36 = .ok (.ifCond .gt 7, 3) := by decide +kernel
theorem d1_39 : decode method_3_code 39 = .ok (.iconst 1, 1) := by decide +kernel
theorem d1_40 : decode method_3_code 40 = .ok (.goto 4, 3) := by decide +kernel
theorem d1_43 : decode method_3_code 43 = .ok (.iconst 0, 1) := by decide +kernel
theorem d1_44 : decode method_3_code 44 = .ok (.ireturn, 1) := by decide +kernel
theorem pd_1 : parseMethodDescriptor "([DII)Z" = some ⟨[.array .double, .int, .int], some .boolean⟩ := by decide +kernel
theorem pn_1 : plainFor (⟨"com/example/trunkwright/trunkwright/planning/OfficeBusiestPinLaw", "ok", "([DII)Z"⟩ : MethodName) = true := plainFor_of_name (by show plainName "com/example/trunkwright/trunkwright/planning/OfficeBusiestPinLaw" = true; first | (simp [plainName, overriddenIn]; done) | decide +kernel)
set_option maxRecDepth 65536 in
set_option maxHeartbeats 40000000 in
theorem rm_ok100 (l : Launch) (Z : State) (a0 : Array Value) (hw : ∀ d ∈ tables_1, d.before a0 Z = true) (ws : List Jvm.Cond) (a1 : Addr) (k1 : ClassId) (x0 : UInt64) (h0 : Heap) (n0 : Nat) (Z0 : n0 ≤ h0.size) (A1 : AR Z h0 a1 k1 .double [.double x0]) (hc : FP.dcmp x0 x0 = some .lt ∨ FP.dcmp x0 x0 = some .eq) :
    Ct l Z (⟨"com/example/trunkwright/trunkwright/planning/OfficeBusiestPinLaw", "ok", "([DII)Z"⟩ : MethodName) method_3_code 3 (some .boolean) ws ({ frames := 0, cells := 0, slots := 0, locals := 0 } : Room) #[.ref a1, .int (0 : Int32), .int (0 : Int32)] h0 (fun v h L => v = some (.int 1) ∧ Fr n0 L ∧ h = h0) := by
  refine Ct.intro pn_1 #[.val (.ref a1), .val (.int (0 : Int32)), .val (.int (0 : Int32))] (fun _ => by first | (simp [entryFrame, mkF, argsToLocals, Value.category, maxLocals]; done) | rfl) ?_
  intro p e s m below meth c T0 X0 hx hZ hby hml hown hnm hret hlk e0
  have N0 := Fr.nil n0
  refine s_iloadN X0 hx (hb hby d1_0) rfl 1 rfl ?_
  refine s_aloadN X0 hx (hb hby d1_1) rfl rfl 2 rfl ?_
  refine s_len X0 hx hZ e0 A1 (hb hby d1_2) (1 : Int32) rfl 3 rfl ?_
  refine s_icmpY X0 hx (hb hby d1_3) (by decide) 8 (by decide) (by decide) ?_
  refine s_iloadN X0 hx (hb hby d1_8) rfl 9 rfl ?_
  refine s_iloadN X0 hx (hb hby d1_9) rfl 10 rfl ?_
  refine s_icmpY X0 hx (hb hby d1_10) (by decide) 29 (by decide) (by decide) ?_
  refine s_aloadN X0 hx (hb hby d1_29) rfl rfl 30 rfl ?_
  refine s_iloadN X0 hx (hb hby d1_30) rfl 31 rfl ?_
  refine s_daload X0 hx hZ e0 A1 (hb hby d1_31) (j := (0 : Int32)) 0 (by decide) (.double x0) rfl 32 rfl ?_
  refine s_aloadN X0 hx (hb hby d1_32) rfl rfl 33 rfl ?_
  refine s_iloadN X0 hx (hb hby d1_33) rfl 34 rfl ?_
  refine s_daload X0 hx hZ e0 A1 (hb hby d1_34) (j := (0 : Int32)) 0 (by decide) (.double x0) rfl 35 rfl ?_
  refine s_dcmp X0 hx (hb hby d1_35) (cmpValue (FP.dcmp x0 x0) .g) rfl 36 rfl ?_
  refine s_ifN X0 hx (hb hby d1_36) (dd_gt_f hc) 39 rfl ?_
  refine s_iconst X0 hx (hb hby d1_39) (1 : Int32) rfl 40 rfl ?_
  refine s_goto X0 hx (hb hby d1_40) 44 (by decide) (by decide) ?_
  exact retZ X0 hx hlk hret (hb hby d1_44) (by decide) e0 ⟨rfl, N0, rfl⟩ (by decide) (by decide)
set_option maxRecDepth 65536 in
set_option maxHeartbeats 40000000 in
theorem rm_ok101 (l : Launch) (Z : State) (a0 : Array Value) (hw : ∀ d ∈ tables_1, d.before a0 Z = true) (ws : List Jvm.Cond) (a1 : Addr) (k1 : ClassId) (x0 : UInt64) (h0 : Heap) (n0 : Nat) (Z0 : n0 ≤ h0.size) (A1 : AR Z h0 a1 k1 .double [.double x0])  :
    Ct l Z (⟨"com/example/trunkwright/trunkwright/planning/OfficeBusiestPinLaw", "ok", "([DII)Z"⟩ : MethodName) method_3_code 3 (some .boolean) ws ({ frames := 0, cells := 0, slots := 0, locals := 0 } : Room) #[.ref a1, .int (0 : Int32), .int (1 : Int32)] h0 (fun v h L => v = some (.int 1) ∧ Fr n0 L ∧ h = h0) := by
  refine Ct.intro pn_1 #[.val (.ref a1), .val (.int (0 : Int32)), .val (.int (1 : Int32))] (fun _ => by first | (simp [entryFrame, mkF, argsToLocals, Value.category, maxLocals]; done) | rfl) ?_
  intro p e s m below meth c T0 X0 hx hZ hby hml hown hnm hret hlk e0
  have N0 := Fr.nil n0
  refine s_iloadN X0 hx (hb hby d1_0) rfl 1 rfl ?_
  refine s_aloadN X0 hx (hb hby d1_1) rfl rfl 2 rfl ?_
  refine s_len X0 hx hZ e0 A1 (hb hby d1_2) (1 : Int32) rfl 3 rfl ?_
  refine s_icmpN X0 hx (hb hby d1_3) (by decide) 6 rfl ?_
  refine s_iconst X0 hx (hb hby d1_6) (1 : Int32) rfl 7 rfl ?_
  exact retZ X0 hx hlk hret (hb hby d1_7) (by decide) e0 ⟨rfl, N0, rfl⟩ (by decide) (by decide)
set_option maxRecDepth 65536 in
set_option maxHeartbeats 40000000 in
theorem rm_ok102 (l : Launch) (Z : State) (a0 : Array Value) (hw : ∀ d ∈ tables_1, d.before a0 Z = true) (ws : List Jvm.Cond) (a1 : Addr) (k1 : ClassId) (x0 : UInt64) (h0 : Heap) (n0 : Nat) (Z0 : n0 ≤ h0.size) (A1 : AR Z h0 a1 k1 .double [.double x0])  :
    Ct l Z (⟨"com/example/trunkwright/trunkwright/planning/OfficeBusiestPinLaw", "ok", "([DII)Z"⟩ : MethodName) method_3_code 3 (some .boolean) ws ({ frames := 0, cells := 0, slots := 0, locals := 0 } : Room) #[.ref a1, .int (0 : Int32), .int (2 : Int32)] h0 (fun v h L => v = some (.int 1) ∧ Fr n0 L ∧ h = h0) := by
  refine Ct.intro pn_1 #[.val (.ref a1), .val (.int (0 : Int32)), .val (.int (2 : Int32))] (fun _ => by first | (simp [entryFrame, mkF, argsToLocals, Value.category, maxLocals]; done) | rfl) ?_
  intro p e s m below meth c T0 X0 hx hZ hby hml hown hnm hret hlk e0
  have N0 := Fr.nil n0
  refine s_iloadN X0 hx (hb hby d1_0) rfl 1 rfl ?_
  refine s_aloadN X0 hx (hb hby d1_1) rfl rfl 2 rfl ?_
  refine s_len X0 hx hZ e0 A1 (hb hby d1_2) (1 : Int32) rfl 3 rfl ?_
  refine s_icmpN X0 hx (hb hby d1_3) (by decide) 6 rfl ?_
  refine s_iconst X0 hx (hb hby d1_6) (1 : Int32) rfl 7 rfl ?_
  exact retZ X0 hx hlk hret (hb hby d1_7) (by decide) e0 ⟨rfl, N0, rfl⟩ (by decide) (by decide)
set_option maxRecDepth 65536 in
set_option maxHeartbeats 40000000 in
theorem rm_ok103 (l : Launch) (Z : State) (a0 : Array Value) (hw : ∀ d ∈ tables_1, d.before a0 Z = true) (ws : List Jvm.Cond) (a1 : Addr) (k1 : ClassId) (x0 : UInt64) (h0 : Heap) (n0 : Nat) (Z0 : n0 ≤ h0.size) (A1 : AR Z h0 a1 k1 .double [.double x0])  :
    Ct l Z (⟨"com/example/trunkwright/trunkwright/planning/OfficeBusiestPinLaw", "ok", "([DII)Z"⟩ : MethodName) method_3_code 3 (some .boolean) ws ({ frames := 0, cells := 0, slots := 0, locals := 0 } : Room) #[.ref a1, .int (0 : Int32), .int (3 : Int32)] h0 (fun v h L => v = some (.int 1) ∧ Fr n0 L ∧ h = h0) := by
  refine Ct.intro pn_1 #[.val (.ref a1), .val (.int (0 : Int32)), .val (.int (3 : Int32))] (fun _ => by first | (simp [entryFrame, mkF, argsToLocals, Value.category, maxLocals]; done) | rfl) ?_
  intro p e s m below meth c T0 X0 hx hZ hby hml hown hnm hret hlk e0
  have N0 := Fr.nil n0
  refine s_iloadN X0 hx (hb hby d1_0) rfl 1 rfl ?_
  refine s_aloadN X0 hx (hb hby d1_1) rfl rfl 2 rfl ?_
  refine s_len X0 hx hZ e0 A1 (hb hby d1_2) (1 : Int32) rfl 3 rfl ?_
  refine s_icmpN X0 hx (hb hby d1_3) (by decide) 6 rfl ?_
  refine s_iconst X0 hx (hb hby d1_6) (1 : Int32) rfl 7 rfl ?_
  exact retZ X0 hx hlk hret (hb hby d1_7) (by decide) e0 ⟨rfl, N0, rfl⟩ (by decide) (by decide)
set_option maxRecDepth 65536 in
set_option maxHeartbeats 40000000 in
theorem rm_ok200 (l : Launch) (Z : State) (a0 : Array Value) (hw : ∀ d ∈ tables_1, d.before a0 Z = true) (ws : List Jvm.Cond) (a1 : Addr) (k1 : ClassId) (x0 x1 : UInt64) (h0 : Heap) (n0 : Nat) (Z0 : n0 ≤ h0.size) (A1 : AR Z h0 a1 k1 .double [.double x0, .double x1]) (hc : FP.dcmp x0 x0 = some .lt ∨ FP.dcmp x0 x0 = some .eq) :
    Ct l Z (⟨"com/example/trunkwright/trunkwright/planning/OfficeBusiestPinLaw", "ok", "([DII)Z"⟩ : MethodName) method_3_code 3 (some .boolean) ws ({ frames := 0, cells := 0, slots := 0, locals := 0 } : Room) #[.ref a1, .int (0 : Int32), .int (0 : Int32)] h0 (fun v h L => v = some (.int 1) ∧ Fr n0 L ∧ h = h0) := by
  refine Ct.intro pn_1 #[.val (.ref a1), .val (.int (0 : Int32)), .val (.int (0 : Int32))] (fun _ => by first | (simp [entryFrame, mkF, argsToLocals, Value.category, maxLocals]; done) | rfl) ?_
  intro p e s m below meth c T0 X0 hx hZ hby hml hown hnm hret hlk e0
  have N0 := Fr.nil n0
  refine s_iloadN X0 hx (hb hby d1_0) rfl 1 rfl ?_
  refine s_aloadN X0 hx (hb hby d1_1) rfl rfl 2 rfl ?_
  refine s_len X0 hx hZ e0 A1 (hb hby d1_2) (2 : Int32) rfl 3 rfl ?_
  refine s_icmpY X0 hx (hb hby d1_3) (by decide) 8 (by decide) (by decide) ?_
  refine s_iloadN X0 hx (hb hby d1_8) rfl 9 rfl ?_
  refine s_iloadN X0 hx (hb hby d1_9) rfl 10 rfl ?_
  refine s_icmpY X0 hx (hb hby d1_10) (by decide) 29 (by decide) (by decide) ?_
  refine s_aloadN X0 hx (hb hby d1_29) rfl rfl 30 rfl ?_
  refine s_iloadN X0 hx (hb hby d1_30) rfl 31 rfl ?_
  refine s_daload X0 hx hZ e0 A1 (hb hby d1_31) (j := (0 : Int32)) 0 (by decide) (.double x0) rfl 32 rfl ?_
  refine s_aloadN X0 hx (hb hby d1_32) rfl rfl 33 rfl ?_
  refine s_iloadN X0 hx (hb hby d1_33) rfl 34 rfl ?_
  refine s_daload X0 hx hZ e0 A1 (hb hby d1_34) (j := (0 : Int32)) 0 (by decide) (.double x0) rfl 35 rfl ?_
  refine s_dcmp X0 hx (hb hby d1_35) (cmpValue (FP.dcmp x0 x0) .g) rfl 36 rfl ?_
  refine s_ifN X0 hx (hb hby d1_36) (dd_gt_f hc) 39 rfl ?_
  refine s_iconst X0 hx (hb hby d1_39) (1 : Int32) rfl 40 rfl ?_
  refine s_goto X0 hx (hb hby d1_40) 44 (by decide) (by decide) ?_
  exact retZ X0 hx hlk hret (hb hby d1_44) (by decide) e0 ⟨rfl, N0, rfl⟩ (by decide) (by decide)
set_option maxRecDepth 65536 in
set_option maxHeartbeats 40000000 in
theorem rm_ok201 (l : Launch) (Z : State) (a0 : Array Value) (hw : ∀ d ∈ tables_1, d.before a0 Z = true) (ws : List Jvm.Cond) (a1 : Addr) (k1 : ClassId) (x0 x1 : UInt64) (h0 : Heap) (n0 : Nat) (Z0 : n0 ≤ h0.size) (A1 : AR Z h0 a1 k1 .double [.double x0, .double x1]) (hc : FP.dcmp x1 x0 = some .lt ∨ FP.dcmp x1 x0 = some .eq) :
    Ct l Z (⟨"com/example/trunkwright/trunkwright/planning/OfficeBusiestPinLaw", "ok", "([DII)Z"⟩ : MethodName) method_3_code 3 (some .boolean) ws ({ frames := 0, cells := 0, slots := 0, locals := 0 } : Room) #[.ref a1, .int (0 : Int32), .int (1 : Int32)] h0 (fun v h L => v = some (.int 1) ∧ Fr n0 L ∧ h = h0) := by
  refine Ct.intro pn_1 #[.val (.ref a1), .val (.int (0 : Int32)), .val (.int (1 : Int32))] (fun _ => by first | (simp [entryFrame, mkF, argsToLocals, Value.category, maxLocals]; done) | rfl) ?_
  intro p e s m below meth c T0 X0 hx hZ hby hml hown hnm hret hlk e0
  have N0 := Fr.nil n0
  refine s_iloadN X0 hx (hb hby d1_0) rfl 1 rfl ?_
  refine s_aloadN X0 hx (hb hby d1_1) rfl rfl 2 rfl ?_
  refine s_len X0 hx hZ e0 A1 (hb hby d1_2) (2 : Int32) rfl 3 rfl ?_
  refine s_icmpY X0 hx (hb hby d1_3) (by decide) 8 (by decide) (by decide) ?_
  refine s_iloadN X0 hx (hb hby d1_8) rfl 9 rfl ?_
  refine s_iloadN X0 hx (hb hby d1_9) rfl 10 rfl ?_
  refine s_icmpY X0 hx (hb hby d1_10) (by decide) 29 (by decide) (by decide) ?_
  refine s_aloadN X0 hx (hb hby d1_29) rfl rfl 30 rfl ?_
  refine s_iloadN X0 hx (hb hby d1_30) rfl 31 rfl ?_
  refine s_daload X0 hx hZ e0 A1 (hb hby d1_31) (j := (1 : Int32)) 1 (by decide) (.double x1) rfl 32 rfl ?_
  refine s_aloadN X0 hx (hb hby d1_32) rfl rfl 33 rfl ?_
  refine s_iloadN X0 hx (hb hby d1_33) rfl 34 rfl ?_
  refine s_daload X0 hx hZ e0 A1 (hb hby d1_34) (j := (0 : Int32)) 0 (by decide) (.double x0) rfl 35 rfl ?_
  refine s_dcmp X0 hx (hb hby d1_35) (cmpValue (FP.dcmp x1 x0) .g) rfl 36 rfl ?_
  refine s_ifN X0 hx (hb hby d1_36) (dd_gt_f hc) 39 rfl ?_
  refine s_iconst X0 hx (hb hby d1_39) (1 : Int32) rfl 40 rfl ?_
  refine s_goto X0 hx (hb hby d1_40) 44 (by decide) (by decide) ?_
  exact retZ X0 hx hlk hret (hb hby d1_44) (by decide) e0 ⟨rfl, N0, rfl⟩ (by decide) (by decide)
set_option maxRecDepth 65536 in
set_option maxHeartbeats 40000000 in
theorem rm_ok202 (l : Launch) (Z : State) (a0 : Array Value) (hw : ∀ d ∈ tables_1, d.before a0 Z = true) (ws : List Jvm.Cond) (a1 : Addr) (k1 : ClassId) (x0 x1 : UInt64) (h0 : Heap) (n0 : Nat) (Z0 : n0 ≤ h0.size) (A1 : AR Z h0 a1 k1 .double [.double x0, .double x1])  :
    Ct l Z (⟨"com/example/trunkwright/trunkwright/planning/OfficeBusiestPinLaw", "ok", "([DII)Z"⟩ : MethodName) method_3_code 3 (some .boolean) ws ({ frames := 0, cells := 0, slots := 0, locals := 0 } : Room) #[.ref a1, .int (0 : Int32), .int (2 : Int32)] h0 (fun v h L => v = some (.int 1) ∧ Fr n0 L ∧ h = h0) := by
  refine Ct.intro pn_1 #[.val (.ref a1), .val (.int (0 : Int32)), .val (.int (2 : Int32))] (fun _ => by first | (simp [entryFrame, mkF, argsToLocals, Value.category, maxLocals]; done) | rfl) ?_
  intro p e s m below meth c T0 X0 hx hZ hby hml hown hnm hret hlk e0
  have N0 := Fr.nil n0
  refine s_iloadN X0 hx (hb hby d1_0) rfl 1 rfl ?_
  refine s_aloadN X0 hx (hb hby d1_1) rfl rfl 2 rfl ?_
  refine s_len X0 hx hZ e0 A1 (hb hby d1_2) (2 : Int32) rfl 3 rfl ?_
  refine s_icmpN X0 hx (hb hby d1_3) (by decide) 6 rfl ?_
  refine s_iconst X0 hx (hb hby d1_6) (1 : Int32) rfl 7 rfl ?_
  exact retZ X0 hx hlk hret (hb hby d1_7) (by decide) e0 ⟨rfl, N0, rfl⟩ (by decide) (by decide)
set_option maxRecDepth 65536 in
set_option maxHeartbeats 40000000 in
theorem rm_ok203 (l : Launch) (Z : State) (a0 : Array Value) (hw : ∀ d ∈ tables_1, d.before a0 Z = true) (ws : List Jvm.Cond) (a1 : Addr) (k1 : ClassId) (x0 x1 : UInt64) (h0 : Heap) (n0 : Nat) (Z0 : n0 ≤ h0.size) (A1 : AR Z h0 a1 k1 .double [.double x0, .double x1])  :
    Ct l Z (⟨"com/example/trunkwright/trunkwright/planning/OfficeBusiestPinLaw", "ok", "([DII)Z"⟩ : MethodName) method_3_code 3 (some .boolean) ws ({ frames := 0, cells := 0, slots := 0, locals := 0 } : Room) #[.ref a1, .int (0 : Int32), .int (3 : Int32)] h0 (fun v h L => v = some (.int 1) ∧ Fr n0 L ∧ h = h0) := by
  refine Ct.intro pn_1 #[.val (.ref a1), .val (.int (0 : Int32)), .val (.int (3 : Int32))] (fun _ => by first | (simp [entryFrame, mkF, argsToLocals, Value.category, maxLocals]; done) | rfl) ?_
  intro p e s m below meth c T0 X0 hx hZ hby hml hown hnm hret hlk e0
  have N0 := Fr.nil n0
  refine s_iloadN X0 hx (hb hby d1_0) rfl 1 rfl ?_
  refine s_aloadN X0 hx (hb hby d1_1) rfl rfl 2 rfl ?_
  refine s_len X0 hx hZ e0 A1 (hb hby d1_2) (2 : Int32) rfl 3 rfl ?_
  refine s_icmpN X0 hx (hb hby d1_3) (by decide) 6 rfl ?_
  refine s_iconst X0 hx (hb hby d1_6) (1 : Int32) rfl 7 rfl ?_
  exact retZ X0 hx hlk hret (hb hby d1_7) (by decide) e0 ⟨rfl, N0, rfl⟩ (by decide) (by decide)
set_option maxRecDepth 65536 in
set_option maxHeartbeats 40000000 in
theorem rm_ok210 (l : Launch) (Z : State) (a0 : Array Value) (hw : ∀ d ∈ tables_1, d.before a0 Z = true) (ws : List Jvm.Cond) (a1 : Addr) (k1 : ClassId) (x0 x1 : UInt64) (h0 : Heap) (n0 : Nat) (Z0 : n0 ≤ h0.size) (A1 : AR Z h0 a1 k1 .double [.double x0, .double x1]) (hc : FP.dcmp x0 x1 = some .lt) :
    Ct l Z (⟨"com/example/trunkwright/trunkwright/planning/OfficeBusiestPinLaw", "ok", "([DII)Z"⟩ : MethodName) method_3_code 3 (some .boolean) ws ({ frames := 0, cells := 0, slots := 0, locals := 0 } : Room) #[.ref a1, .int (1 : Int32), .int (0 : Int32)] h0 (fun v h L => v = some (.int 1) ∧ Fr n0 L ∧ h = h0) := by
  refine Ct.intro pn_1 #[.val (.ref a1), .val (.int (1 : Int32)), .val (.int (0 : Int32))] (fun _ => by first | (simp [entryFrame, mkF, argsToLocals, Value.category, maxLocals]; done) | rfl) ?_
  intro p e s m below meth c T0 X0 hx hZ hby hml hown hnm hret hlk e0
  have N0 := Fr.nil n0
  refine s_iloadN X0 hx (hb hby d1_0) rfl 1 rfl ?_
  refine s_aloadN X0 hx (hb hby d1_1) rfl rfl 2 rfl ?_
  refine s_len X0 hx hZ e0 A1 (hb hby d1_2) (2 : Int32) rfl 3 rfl ?_
  refine s_icmpY X0 hx (hb hby d1_3) (by decide) 8 (by decide) (by decide) ?_
  refine s_iloadN X0 hx (hb hby d1_8) rfl 9 rfl ?_
  refine s_iloadN X0 hx (hb hby d1_9) rfl 10 rfl ?_
  refine s_icmpN X0 hx (hb hby d1_10) (by decide) 13 rfl ?_
  refine s_aloadN X0 hx (hb hby d1_13) rfl rfl 14 rfl ?_
  refine s_iloadN X0 hx (hb hby d1_14) rfl 15 rfl ?_
  refine s_daload X0 hx hZ e0 A1 (hb hby d1_15) (j := (0 : Int32)) 0 (by decide) (.double x0) rfl 16 rfl ?_
  refine s_aloadN X0 hx (hb hby d1_16) rfl rfl 17 rfl ?_
  refine s_iloadN X0 hx (hb hby d1_17) rfl 18 rfl ?_
  refine s_daload X0 hx hZ e0 A1 (hb hby d1_18) (j := (1 : Int32)) 1 (by decide) (.double x1) rfl 19 rfl ?_
  refine s_dcmp X0 hx (hb hby d1_19) (cmpValue (FP.dcmp x0 x1) .g) rfl 20 rfl ?_
  refine s_ifN X0 hx (hb hby d1_20) (dd_ge_f hc) 23 rfl ?_
  refine s_iconst X0 hx (hb hby d1_23) (1 : Int32) rfl 24 rfl ?_
  refine s_goto X0 hx (hb hby d1_24) 28 (by decide) (by decide) ?_
  exact retZ X0 hx hlk hret (hb hby d1_28) (by decide) e0 ⟨rfl, N0, rfl⟩ (by decide) (by decide)
set_option maxRecDepth 65536 in
set_option maxHeartbeats 40000000 in
theorem rm_ok211 (l : Launch) (Z : State) (a0 : Array Value) (hw : ∀ d ∈ tables_1, d.before a0 Z = true) (ws : List Jvm.Cond) (a1 : Addr) (k1 : ClassId) (x0 x1 : UInt64) (h0 : Heap) (n0 : Nat) (Z0 : n0 ≤ h0.size) (A1 : AR Z h0 a1 k1 .double [.double x0, .double x1]) (hc : FP.dcmp x1 x1 = some .lt ∨ FP.dcmp x1 x1 = some .eq) :
    Ct l Z (⟨"com/example/trunkwright/trunkwright/planning/OfficeBusiestPinLaw", "ok", "([DII)Z"⟩ : MethodName) method_3_code 3 (some .boolean) ws ({ frames := 0, cells := 0, slots := 0, locals := 0 } : Room) #[.ref a1, .int (1 : Int32), .int (1 : Int32)] h0 (fun v h L => v = some (.int 1) ∧ Fr n0 L ∧ h = h0) := by
  refine Ct.intro pn_1 #[.val (.ref a1), .val (.int (1 : Int32)), .val (.int (1 : Int32))] (fun _ => by first | (simp [entryFrame, mkF, argsToLocals, Value.category, maxLocals]; done) | rfl) ?_
  intro p e s m below meth c T0 X0 hx hZ hby hml hown hnm hret hlk e0
  have N0 := Fr.nil n0
  refine s_iloadN X0 hx (hb hby d1_0) rfl 1 rfl ?_
  refine s_aloadN X0 hx (hb hby d1_1) rfl rfl 2 rfl ?_
  refine s_len X0 hx hZ e0 A1 (hb hby d1_2) (2 : Int32) rfl 3 rfl ?_
  refine s_icmpY X0 hx (hb hby d1_3) (by decide) 8 (by decide) (by decide) ?_
  refine s_iloadN X0 hx (hb hby d1_8) rfl 9 rfl ?_
  refine s_iloadN X0 hx (hb hby d1_9) rfl 10 rfl ?_
  refine s_icmpY X0 hx (hb hby d1_10) (by decide) 29 (by decide) (by decide) ?_
  refine s_aloadN X0 hx (hb hby d1_29) rfl rfl 30 rfl ?_
  refine s_iloadN X0 hx (hb hby d1_30) rfl 31 rfl ?_
  refine s_daload X0 hx hZ e0 A1 (hb hby d1_31) (j := (1 : Int32)) 1 (by decide) (.double x1) rfl 32 rfl ?_
  refine s_aloadN X0 hx (hb hby d1_32) rfl rfl 33 rfl ?_
  refine s_iloadN X0 hx (hb hby d1_33) rfl 34 rfl ?_
  refine s_daload X0 hx hZ e0 A1 (hb hby d1_34) (j := (1 : Int32)) 1 (by decide) (.double x1) rfl 35 rfl ?_
  refine s_dcmp X0 hx (hb hby d1_35) (cmpValue (FP.dcmp x1 x1) .g) rfl 36 rfl ?_
  refine s_ifN X0 hx (hb hby d1_36) (dd_gt_f hc) 39 rfl ?_
  refine s_iconst X0 hx (hb hby d1_39) (1 : Int32) rfl 40 rfl ?_
  refine s_goto X0 hx (hb hby d1_40) 44 (by decide) (by decide) ?_
  exact retZ X0 hx hlk hret (hb hby d1_44) (by decide) e0 ⟨rfl, N0, rfl⟩ (by decide) (by decide)
set_option maxRecDepth 65536 in
set_option maxHeartbeats 40000000 in
theorem rm_ok212 (l : Launch) (Z : State) (a0 : Array Value) (hw : ∀ d ∈ tables_1, d.before a0 Z = true) (ws : List Jvm.Cond) (a1 : Addr) (k1 : ClassId) (x0 x1 : UInt64) (h0 : Heap) (n0 : Nat) (Z0 : n0 ≤ h0.size) (A1 : AR Z h0 a1 k1 .double [.double x0, .double x1])  :
    Ct l Z (⟨"com/example/trunkwright/trunkwright/planning/OfficeBusiestPinLaw", "ok", "([DII)Z"⟩ : MethodName) method_3_code 3 (some .boolean) ws ({ frames := 0, cells := 0, slots := 0, locals := 0 } : Room) #[.ref a1, .int (1 : Int32), .int (2 : Int32)] h0 (fun v h L => v = some (.int 1) ∧ Fr n0 L ∧ h = h0) := by
  refine Ct.intro pn_1 #[.val (.ref a1), .val (.int (1 : Int32)), .val (.int (2 : Int32))] (fun _ => by first | (simp [entryFrame, mkF, argsToLocals, Value.category, maxLocals]; done) | rfl) ?_
  intro p e s m below meth c T0 X0 hx hZ hby hml hown hnm hret hlk e0
  have N0 := Fr.nil n0
  refine s_iloadN X0 hx (hb hby d1_0) rfl 1 rfl ?_
  refine s_aloadN X0 hx (hb hby d1_1) rfl rfl 2 rfl ?_
  refine s_len X0 hx hZ e0 A1 (hb hby d1_2) (2 : Int32) rfl 3 rfl ?_
  refine s_icmpN X0 hx (hb hby d1_3) (by decide) 6 rfl ?_
  refine s_iconst X0 hx (hb hby d1_6) (1 : Int32) rfl 7 rfl ?_
  exact retZ X0 hx hlk hret (hb hby d1_7) (by decide) e0 ⟨rfl, N0, rfl⟩ (by decide) (by decide)
set_option maxRecDepth 65536 in
set_option maxHeartbeats 40000000 in
theorem rm_ok213 (l : Launch) (Z : State) (a0 : Array Value) (hw : ∀ d ∈ tables_1, d.before a0 Z = true) (ws : List Jvm.Cond) (a1 : Addr) (k1 : ClassId) (x0 x1 : UInt64) (h0 : Heap) (n0 : Nat) (Z0 : n0 ≤ h0.size) (A1 : AR Z h0 a1 k1 .double [.double x0, .double x1])  :
    Ct l Z (⟨"com/example/trunkwright/trunkwright/planning/OfficeBusiestPinLaw", "ok", "([DII)Z"⟩ : MethodName) method_3_code 3 (some .boolean) ws ({ frames := 0, cells := 0, slots := 0, locals := 0 } : Room) #[.ref a1, .int (1 : Int32), .int (3 : Int32)] h0 (fun v h L => v = some (.int 1) ∧ Fr n0 L ∧ h = h0) := by
  refine Ct.intro pn_1 #[.val (.ref a1), .val (.int (1 : Int32)), .val (.int (3 : Int32))] (fun _ => by first | (simp [entryFrame, mkF, argsToLocals, Value.category, maxLocals]; done) | rfl) ?_
  intro p e s m below meth c T0 X0 hx hZ hby hml hown hnm hret hlk e0
  have N0 := Fr.nil n0
  refine s_iloadN X0 hx (hb hby d1_0) rfl 1 rfl ?_
  refine s_aloadN X0 hx (hb hby d1_1) rfl rfl 2 rfl ?_
  refine s_len X0 hx hZ e0 A1 (hb hby d1_2) (2 : Int32) rfl 3 rfl ?_
  refine s_icmpN X0 hx (hb hby d1_3) (by decide) 6 rfl ?_
  refine s_iconst X0 hx (hb hby d1_6) (1 : Int32) rfl 7 rfl ?_
  exact retZ X0 hx hlk hret (hb hby d1_7) (by decide) e0 ⟨rfl, N0, rfl⟩ (by decide) (by decide)
set_option maxRecDepth 65536 in
set_option maxHeartbeats 40000000 in
theorem rm_ok300 (l : Launch) (Z : State) (a0 : Array Value) (hw : ∀ d ∈ tables_1, d.before a0 Z = true) (ws : List Jvm.Cond) (a1 : Addr) (k1 : ClassId) (x0 x1 x2 : UInt64) (h0 : Heap) (n0 : Nat) (Z0 : n0 ≤ h0.size) (A1 : AR Z h0 a1 k1 .double [.double x0, .double x1, .double x2]) (hc : FP.dcmp x0 x0 = some .lt ∨ FP.dcmp x0 x0 = some .eq) :
    Ct l Z (⟨"com/example/trunkwright/trunkwright/planning/OfficeBusiestPinLaw", "ok", "([DII)Z"⟩ : MethodName) method_3_code 3 (some .boolean) ws ({ frames := 0, cells := 0, slots := 0, locals := 0 } : Room) #[.ref a1, .int (0 : Int32), .int (0 : Int32)] h0 (fun v h L => v = some (.int 1) ∧ Fr n0 L ∧ h = h0) := by
  refine Ct.intro pn_1 #[.val (.ref a1), .val (.int (0 : Int32)), .val (.int (0 : Int32))] (fun _ => by first | (simp [entryFrame, mkF, argsToLocals, Value.category, maxLocals]; done) | rfl) ?_
  intro p e s m below meth c T0 X0 hx hZ hby hml hown hnm hret hlk e0
  have N0 := Fr.nil n0
  refine s_iloadN X0 hx (hb hby d1_0) rfl 1 rfl ?_
  refine s_aloadN X0 hx (hb hby d1_1) rfl rfl 2 rfl ?_
  refine s_len X0 hx hZ e0 A1 (hb hby d1_2) (3 : Int32) rfl 3 rfl ?_
  refine s_icmpY X0 hx (hb hby d1_3) (by decide) 8 (by decide) (by decide) ?_
  refine s_iloadN X0 hx (hb hby d1_8) rfl 9 rfl ?_
  refine s_iloadN X0 hx (hb hby d1_9) rfl 10 rfl ?_
  refine s_icmpY X0 hx (hb hby d1_10) (by decide) 29 (by decide) (by decide) ?_
  refine s_aloadN X0 hx (hb hby d1_29) rfl rfl 30 rfl ?_
  refine s_iloadN X0 hx (hb hby d1_30) rfl 31 rfl ?_
  refine s_daload X0 hx hZ e0 A1 (hb hby d1_31) (j := (0 : Int32)) 0 (by decide) (.double x0) rfl 32 rfl ?_
  refine s_aloadN X0 hx (hb hby d1_32) rfl rfl 33 rfl ?_
  refine s_iloadN X0 hx (hb hby d1_33) rfl 34 rfl ?_
  refine s_daload X0 hx hZ e0 A1 (hb hby d1_34) (j := (0 : Int32)) 0 (by decide) (.double x0) rfl 35 rfl ?_
  refine s_dcmp X0 hx (hb hby d1_35) (cmpValue (FP.dcmp x0 x0) .g) rfl 36 rfl ?_
  refine s_ifN X0 hx (hb hby d1_36) (dd_gt_f hc) 39 rfl ?_
  refine s_iconst X0 hx (hb hby d1_39) (1 : Int32) rfl 40 rfl ?_
  refine s_goto X0 hx (hb hby d1_40) 44 (by decide) (by decide) ?_
  exact retZ X0 hx hlk hret (hb hby d1_44) (by decide) e0 ⟨rfl, N0, rfl⟩ (by decide) (by decide)
set_option maxRecDepth 65536 in
set_option maxHeartbeats 40000000 in
theorem rm_ok301 (l : Launch) (Z : State) (a0 : Array Value) (hw : ∀ d ∈ tables_1, d.before a0 Z = true) (ws : List Jvm.Cond) (a1 : Addr) (k1 : ClassId) (x0 x1 x2 : UInt64) (h0 : Heap) (n0 : Nat) (Z0 : n0 ≤ h0.size) (A1 : AR Z h0 a1 k1 .double [.double x0, .double x1, .double x2]) (hc : FP.dcmp x1 x0 = some .lt ∨ FP.dcmp x1 x0 = some .eq) :
    Ct l Z (⟨"com/example/trunkwright/trunkwright/planning/OfficeBusiestPinLaw", "ok", "([DII)Z"⟩ : MethodName) method_3_code 3 (some .boolean) ws ({ frames := 0, cells := 0, slots := 0, locals := 0 } : Room) #[.ref a1, .int (0 : Int32), .int (1 : Int32)] h0 (fun v h L => v = some (.int 1) ∧ Fr n0 L ∧ h = h0) := by
  refine Ct.intro pn_1 #[.val (.ref a1), .val (.int (0 : Int32)), .val (.int (1 : Int32))] (fun _ => by first | (simp [entryFrame, mkF, argsToLocals, Value.category, maxLocals]; done) | rfl) ?_
  intro p e s m below meth c T0 X0 hx hZ hby hml hown hnm hret hlk e0
  have N0 := Fr.nil n0
  refine s_iloadN X0 hx (hb hby d1_0) rfl 1 rfl ?_
  refine s_aloadN X0 hx (hb hby d1_1) rfl rfl 2 rfl ?_
  refine s_len X0 hx hZ e0 A1 (hb hby d1_2) (3 : Int32) rfl 3 rfl ?_
  refine s_icmpY X0 hx (hb hby d1_3) (by decide) 8 (by decide) (by decide) ?_
  refine s_iloadN X0 hx (hb hby d1_8) rfl 9 rfl ?_
  refine s_iloadN X0 hx (hb hby d1_9) rfl 10 rfl ?_
  refine s_icmpY X0 hx (hb hby d1_10) (by decide) 29 (by decide) (by decide) ?_
  refine s_aloadN X0 hx (hb hby d1_29) rfl rfl 30 rfl ?_
  refine s_iloadN X0 hx (hb hby d1_30) rfl 31 rfl ?_
  refine s_daload X0 hx hZ e0 A1 (hb hby d1_31) (j := (1 : Int32)) 1 (by decide) (.double x1) rfl 32 rfl ?_
  refine s_aloadN X0 hx (hb hby d1_32) rfl rfl 33 rfl ?_
  refine s_iloadN X0 hx (hb hby d1_33) rfl 34 rfl ?_
  refine s_daload X0 hx hZ e0 A1 (hb hby d1_34) (j := (0 : Int32)) 0 (by decide) (.double x0) rfl 35 rfl ?_
  refine s_dcmp X0 hx (hb hby d1_35) (cmpValue (FP.dcmp x1 x0) .g) rfl 36 rfl ?_
  refine s_ifN X0 hx (hb hby d1_36) (dd_gt_f hc) 39 rfl ?_
  refine s_iconst X0 hx (hb hby d1_39) (1 : Int32) rfl 40 rfl ?_
  refine s_goto X0 hx (hb hby d1_40) 44 (by decide) (by decide) ?_
  exact retZ X0 hx hlk hret (hb hby d1_44) (by decide) e0 ⟨rfl, N0, rfl⟩ (by decide) (by decide)
set_option maxRecDepth 65536 in
set_option maxHeartbeats 40000000 in
theorem rm_ok302 (l : Launch) (Z : State) (a0 : Array Value) (hw : ∀ d ∈ tables_1, d.before a0 Z = true) (ws : List Jvm.Cond) (a1 : Addr) (k1 : ClassId) (x0 x1 x2 : UInt64) (h0 : Heap) (n0 : Nat) (Z0 : n0 ≤ h0.size) (A1 : AR Z h0 a1 k1 .double [.double x0, .double x1, .double x2]) (hc : FP.dcmp x2 x0 = some .lt ∨ FP.dcmp x2 x0 = some .eq) :
    Ct l Z (⟨"com/example/trunkwright/trunkwright/planning/OfficeBusiestPinLaw", "ok", "([DII)Z"⟩ : MethodName) method_3_code 3 (some .boolean) ws ({ frames := 0, cells := 0, slots := 0, locals := 0 } : Room) #[.ref a1, .int (0 : Int32), .int (2 : Int32)] h0 (fun v h L => v = some (.int 1) ∧ Fr n0 L ∧ h = h0) := by
  refine Ct.intro pn_1 #[.val (.ref a1), .val (.int (0 : Int32)), .val (.int (2 : Int32))] (fun _ => by first | (simp [entryFrame, mkF, argsToLocals, Value.category, maxLocals]; done) | rfl) ?_
  intro p e s m below meth c T0 X0 hx hZ hby hml hown hnm hret hlk e0
  have N0 := Fr.nil n0
  refine s_iloadN X0 hx (hb hby d1_0) rfl 1 rfl ?_
  refine s_aloadN X0 hx (hb hby d1_1) rfl rfl 2 rfl ?_
  refine s_len X0 hx hZ e0 A1 (hb hby d1_2) (3 : Int32) rfl 3 rfl ?_
  refine s_icmpY X0 hx (hb hby d1_3) (by decide) 8 (by decide) (by decide) ?_
  refine s_iloadN X0 hx (hb hby d1_8) rfl 9 rfl ?_
  refine s_iloadN X0 hx (hb hby d1_9) rfl 10 rfl ?_
  refine s_icmpY X0 hx (hb hby d1_10) (by decide) 29 (by decide) (by decide) ?_
  refine s_aloadN X0 hx (hb hby d1_29) rfl rfl 30 rfl ?_
  refine s_iloadN X0 hx (hb hby d1_30) rfl 31 rfl ?_
  refine s_daload X0 hx hZ e0 A1 (hb hby d1_31) (j := (2 : Int32)) 2 (by decide) (.double x2) rfl 32 rfl ?_
  refine s_aloadN X0 hx (hb hby d1_32) rfl rfl 33 rfl ?_
  refine s_iloadN X0 hx (hb hby d1_33) rfl 34 rfl ?_
  refine s_daload X0 hx hZ e0 A1 (hb hby d1_34) (j := (0 : Int32)) 0 (by decide) (.double x0) rfl 35 rfl ?_
  refine s_dcmp X0 hx (hb hby d1_35) (cmpValue (FP.dcmp x2 x0) .g) rfl 36 rfl ?_
  refine s_ifN X0 hx (hb hby d1_36) (dd_gt_f hc) 39 rfl ?_
  refine s_iconst X0 hx (hb hby d1_39) (1 : Int32) rfl 40 rfl ?_
  refine s_goto X0 hx (hb hby d1_40) 44 (by decide) (by decide) ?_
  exact retZ X0 hx hlk hret (hb hby d1_44) (by decide) e0 ⟨rfl, N0, rfl⟩ (by decide) (by decide)
set_option maxRecDepth 65536 in
set_option maxHeartbeats 40000000 in
theorem rm_ok303 (l : Launch) (Z : State) (a0 : Array Value) (hw : ∀ d ∈ tables_1, d.before a0 Z = true) (ws : List Jvm.Cond) (a1 : Addr) (k1 : ClassId) (x0 x1 x2 : UInt64) (h0 : Heap) (n0 : Nat) (Z0 : n0 ≤ h0.size) (A1 : AR Z h0 a1 k1 .double [.double x0, .double x1, .double x2])  :
    Ct l Z (⟨"com/example/trunkwright/trunkwright/planning/OfficeBusiestPinLaw", "ok", "([DII)Z"⟩ : MethodName) method_3_code 3 (some .boolean) ws ({ frames := 0, cells := 0, slots := 0, locals := 0 } : Room) #[.ref a1, .int (0 : Int32), .int (3 : Int32)] h0 (fun v h L => v = some (.int 1) ∧ Fr n0 L ∧ h = h0) := by
  refine Ct.intro pn_1 #[.val (.ref a1), .val (.int (0 : Int32)), .val (.int (3 : Int32))] (fun _ => by first | (simp [entryFrame, mkF, argsToLocals, Value.category, maxLocals]; done) | rfl) ?_
  intro p e s m below meth c T0 X0 hx hZ hby hml hown hnm hret hlk e0
  have N0 := Fr.nil n0
  refine s_iloadN X0 hx (hb hby d1_0) rfl 1 rfl ?_
  refine s_aloadN X0 hx (hb hby d1_1) rfl rfl 2 rfl ?_
  refine s_len X0 hx hZ e0 A1 (hb hby d1_2) (3 : Int32) rfl 3 rfl ?_
  refine s_icmpN X0 hx (hb hby d1_3) (by decide) 6 rfl ?_
  refine s_iconst X0 hx (hb hby d1_6) (1 : Int32) rfl 7 rfl ?_
  exact retZ X0 hx hlk hret (hb hby d1_7) (by decide) e0 ⟨rfl, N0, rfl⟩ (by decide) (by decide)
set_option maxRecDepth 65536 in
set_option maxHeartbeats 40000000 in
theorem rm_ok310 (l : Launch) (Z : State) (a0 : Array Value) (hw : ∀ d ∈ tables_1, d.before a0 Z = true) (ws : List Jvm.Cond) (a1 : Addr) (k1 : ClassId) (x0 x1 x2 : UInt64) (h0 : Heap) (n0 : Nat) (Z0 : n0 ≤ h0.size) (A1 : AR Z h0 a1 k1 .double [.double x0, .double x1, .double x2]) (hc : FP.dcmp x0 x1 = some .lt) :
    Ct l Z (⟨"com/example/trunkwright/trunkwright/planning/OfficeBusiestPinLaw", "ok", "([DII)Z"⟩ : MethodName) method_3_code 3 (some .boolean) ws ({ frames := 0, cells := 0, slots := 0, locals := 0 } : Room) #[.ref a1, .int (1 : Int32), .int (0 : Int32)] h0 (fun v h L => v = some (.int 1) ∧ Fr n0 L ∧ h = h0) := by
  refine Ct.intro pn_1 #[.val (.ref a1), .val (.int (1 : Int32)), .val (.int (0 : Int32))] (fun _ => by first | (simp [entryFrame, mkF, argsToLocals, Value.category, maxLocals]; done) | rfl) ?_
  intro p e s m below meth c T0 X0 hx hZ hby hml hown hnm hret hlk e0
  have N0 := Fr.nil n0
  refine s_iloadN X0 hx (hb hby d1_0) rfl 1 rfl ?_
  refine s_aloadN X0 hx (hb hby d1_1) rfl rfl 2 rfl ?_
  refine s_len X0 hx hZ e0 A1 (hb hby d1_2) (3 : Int32) rfl 3 rfl ?_
  refine s_icmpY X0 hx (hb hby d1_3) (by decide) 8 (by decide) (by decide) ?_
  refine s_iloadN X0 hx (hb hby d1_8) rfl 9 rfl ?_
  refine s_iloadN X0 hx (hb hby d1_9) rfl 10 rfl ?_
  refine s_icmpN X0 hx (hb hby d1_10) (by decide) 13 rfl ?_
  refine s_aloadN X0 hx (hb hby d1_13) rfl rfl 14 rfl ?_
  refine s_iloadN X0 hx (hb hby d1_14) rfl 15 rfl ?_
  refine s_daload X0 hx hZ e0 A1 (hb hby d1_15) (j := (0 : Int32)) 0 (by decide) (.double x0) rfl 16 rfl ?_
  refine s_aloadN X0 hx (hb hby d1_16) rfl rfl 17 rfl ?_
  refine s_iloadN X0 hx (hb hby d1_17) rfl 18 rfl ?_
  refine s_daload X0 hx hZ e0 A1 (hb hby d1_18) (j := (1 : Int32)) 1 (by decide) (.double x1) rfl 19 rfl ?_
  refine s_dcmp X0 hx (hb hby d1_19) (cmpValue (FP.dcmp x0 x1) .g) rfl 20 rfl ?_
  refine s_ifN X0 hx (hb hby d1_20) (dd_ge_f hc) 23 rfl ?_
  refine s_iconst X0 hx (hb hby d1_23) (1 : Int32) rfl 24 rfl ?_
  refine s_goto X0 hx (hb hby d1_24) 28 (by decide) (by decide) ?_
  exact retZ X0 hx hlk hret (hb hby d1_28) (by decide) e0 ⟨rfl, N0, rfl⟩ (by decide) (by decide)
set_option maxRecDepth 65536 in
set_option maxHeartbeats 40000000 in
theorem rm_ok311 (l : Launch) (Z : State) (a0 : Array Value) (hw : ∀ d ∈ tables_1, d.before a0 Z = true) (ws : List Jvm.Cond) (a1 : Addr) (k1 : ClassId) (x0 x1 x2 : UInt64) (h0 : Heap) (n0 : Nat) (Z0 : n0 ≤ h0.size) (A1 : AR Z h0 a1 k1 .double [.double x0, .double x1, .double x2]) (hc : FP.dcmp x1 x1 = some .lt ∨ FP.dcmp x1 x1 = some .eq) :
    Ct l Z (⟨"com/example/trunkwright/trunkwright/planning/OfficeBusiestPinLaw", "ok", "([DII)Z"⟩ : MethodName) method_3_code 3 (some .boolean) ws ({ frames := 0, cells := 0, slots := 0, locals := 0 } : Room) #[.ref a1, .int (1 : Int32), .int (1 : Int32)] h0 (fun v h L => v = some (.int 1) ∧ Fr n0 L ∧ h = h0) := by
  refine Ct.intro pn_1 #[.val (.ref a1), .val (.int (1 : Int32)), .val (.int (1 : Int32))] (fun _ => by first | (simp [entryFrame, mkF, argsToLocals, Value.category, maxLocals]; done) | rfl) ?_
  intro p e s m below meth c T0 X0 hx hZ hby hml hown hnm hret hlk e0
  have N0 := Fr.nil n0
  refine s_iloadN X0 hx (hb hby d1_0) rfl 1 rfl ?_
  refine s_aloadN X0 hx (hb hby d1_1) rfl rfl 2 rfl ?_
  refine s_len X0 hx hZ e0 A1 (hb hby d1_2) (3 : Int32) rfl 3 rfl ?_
  refine s_icmpY X0 hx (hb hby d1_3) (by decide) 8 (by decide) (by decide) ?_
  refine s_iloadN X0 hx (hb hby d1_8) rfl 9 rfl ?_
  refine s_iloadN X0 hx (hb hby d1_9) rfl 10 rfl ?_
  refine s_icmpY X0 hx (hb hby d1_10) (by decide) 29 (by decide) (by decide) ?_
  refine s_aloadN X0 hx (hb hby d1_29) rfl rfl 30 rfl ?_
  refine s_iloadN X0 hx (hb hby d1_30) rfl 31 rfl ?_
  refine s_daload X0 hx hZ e0 A1 (hb hby d1_31) (j := (1 : Int32)) 1 (by decide) (.double x1) rfl 32 rfl ?_
  refine s_aloadN X0 hx (hb hby d1_32) rfl rfl 33 rfl ?_
  refine s_iloadN X0 hx (hb hby d1_33) rfl 34 rfl ?_
  refine s_daload X0 hx hZ e0 A1 (hb hby d1_34) (j := (1 : Int32)) 1 (by decide) (.double x1) rfl 35 rfl ?_
  refine s_dcmp X0 hx (hb hby d1_35) (cmpValue (FP.dcmp x1 x1) .g) rfl 36 rfl ?_
  refine s_ifN X0 hx (hb hby d1_36) (dd_gt_f hc) 39 rfl ?_
  refine s_iconst X0 hx (hb hby d1_39) (1 : Int32) rfl 40 rfl ?_
  refine s_goto X0 hx (hb hby d1_40) 44 (by decide) (by decide) ?_
  exact retZ X0 hx hlk hret (hb hby d1_44) (by decide) e0 ⟨rfl, N0, rfl⟩ (by decide) (by decide)
set_option maxRecDepth 65536 in
set_option maxHeartbeats 40000000 in
theorem rm_ok312 (l : Launch) (Z : State) (a0 : Array Value) (hw : ∀ d ∈ tables_1, d.before a0 Z = true) (ws : List Jvm.Cond) (a1 : Addr) (k1 : ClassId) (x0 x1 x2 : UInt64) (h0 : Heap) (n0 : Nat) (Z0 : n0 ≤ h0.size) (A1 : AR Z h0 a1 k1 .double [.double x0, .double x1, .double x2]) (hc : FP.dcmp x2 x1 = some .lt ∨ FP.dcmp x2 x1 = some .eq) :
    Ct l Z (⟨"com/example/trunkwright/trunkwright/planning/OfficeBusiestPinLaw", "ok", "([DII)Z"⟩ : MethodName) method_3_code 3 (some .boolean) ws ({ frames := 0, cells := 0, slots := 0, locals := 0 } : Room) #[.ref a1, .int (1 : Int32), .int (2 : Int32)] h0 (fun v h L => v = some (.int 1) ∧ Fr n0 L ∧ h = h0) := by
  refine Ct.intro pn_1 #[.val (.ref a1), .val (.int (1 : Int32)), .val (.int (2 : Int32))] (fun _ => by first | (simp [entryFrame, mkF, argsToLocals, Value.category, maxLocals]; done) | rfl) ?_
  intro p e s m below meth c T0 X0 hx hZ hby hml hown hnm hret hlk e0
  have N0 := Fr.nil n0
  refine s_iloadN X0 hx (hb hby d1_0) rfl 1 rfl ?_
  refine s_aloadN X0 hx (hb hby d1_1) rfl rfl 2 rfl ?_
  refine s_len X0 hx hZ e0 A1 (hb hby d1_2) (3 : Int32) rfl 3 rfl ?_
  refine s_icmpY X0 hx (hb hby d1_3) (by decide) 8 (by decide) (by decide) ?_
  refine s_iloadN X0 hx (hb hby d1_8) rfl 9 rfl ?_
  refine s_iloadN X0 hx (hb hby d1_9) rfl 10 rfl ?_
  refine s_icmpY X0 hx (hb hby d1_10) (by decide) 29 (by decide) (by decide) ?_
  refine s_aloadN X0 hx (hb hby d1_29) rfl rfl 30 rfl ?_
  refine s_iloadN X0 hx (hb hby d1_30) rfl 31 rfl ?_
  refine s_daload X0 hx hZ e0 A1 (hb hby d1_31) (j := (2 : Int32)) 2 (by decide) (.double x2) rfl 32 rfl ?_
  refine s_aloadN X0 hx (hb hby d1_32) rfl rfl 33 rfl ?_
  refine s_iloadN X0 hx (hb hby d1_33) rfl 34 rfl ?_
  refine s_daload X0 hx hZ e0 A1 (hb hby d1_34) (j := (1 : Int32)) 1 (by decide) (.double x1) rfl 35 rfl ?_
  refine s_dcmp X0 hx (hb hby d1_35) (cmpValue (FP.dcmp x2 x1) .g) rfl 36 rfl ?_
  refine s_ifN X0 hx (hb hby d1_36) (dd_gt_f hc) 39 rfl ?_
  refine s_iconst X0 hx (hb hby d1_39) (1 : Int32) rfl 40 rfl ?_
  refine s_goto X0 hx (hb hby d1_40) 44 (by decide) (by decide) ?_
  exact retZ X0 hx hlk hret (hb hby d1_44) (by decide) e0 ⟨rfl, N0, rfl⟩ (by decide) (by decide)
set_option maxRecDepth 65536 in
set_option maxHeartbeats 40000000 in
theorem rm_ok313 (l : Launch) (Z : State) (a0 : Array Value) (hw : ∀ d ∈ tables_1, d.before a0 Z = true) (ws : List Jvm.Cond) (a1 : Addr) (k1 : ClassId) (x0 x1 x2 : UInt64) (h0 : Heap) (n0 : Nat) (Z0 : n0 ≤ h0.size) (A1 : AR Z h0 a1 k1 .double [.double x0, .double x1, .double x2])  :
    Ct l Z (⟨"com/example/trunkwright/trunkwright/planning/OfficeBusiestPinLaw", "ok", "([DII)Z"⟩ : MethodName) method_3_code 3 (some .boolean) ws ({ frames := 0, cells := 0, slots := 0, locals := 0 } : Room) #[.ref a1, .int (1 : Int32), .int (3 : Int32)] h0 (fun v h L => v = some (.int 1) ∧ Fr n0 L ∧ h = h0) := by
  refine Ct.intro pn_1 #[.val (.ref a1), .val (.int (1 : Int32)), .val (.int (3 : Int32))] (fun _ => by first | (simp [entryFrame, mkF, argsToLocals, Value.category, maxLocals]; done) | rfl) ?_
  intro p e s m below meth c T0 X0 hx hZ hby hml hown hnm hret hlk e0
  have N0 := Fr.nil n0
  refine s_iloadN X0 hx (hb hby d1_0) rfl 1 rfl ?_
  refine s_aloadN X0 hx (hb hby d1_1) rfl rfl 2 rfl ?_
  refine s_len X0 hx hZ e0 A1 (hb hby d1_2) (3 : Int32) rfl 3 rfl ?_
  refine s_icmpN X0 hx (hb hby d1_3) (by decide) 6 rfl ?_
  refine s_iconst X0 hx (hb hby d1_6) (1 : Int32) rfl 7 rfl ?_
  exact retZ X0 hx hlk hret (hb hby d1_7) (by decide) e0 ⟨rfl, N0, rfl⟩ (by decide) (by decide)
set_option maxRecDepth 65536 in
set_option maxHeartbeats 40000000 in
theorem rm_ok320 (l : Launch) (Z : State) (a0 : Array Value) (hw : ∀ d ∈ tables_1, d.before a0 Z = true) (ws : List Jvm.Cond) (a1 : Addr) (k1 : ClassId) (x0 x1 x2 : UInt64) (h0 : Heap) (n0 : Nat) (Z0 : n0 ≤ h0.size) (A1 : AR Z h0 a1 k1 .double [.double x0, .double x1, .double x2]) (hc : FP.dcmp x0 x2 = some .lt) :
    Ct l Z (⟨"com/example/trunkwright/trunkwright/planning/OfficeBusiestPinLaw", "ok", "([DII)Z"⟩ : MethodName) method_3_code 3 (some .boolean) ws ({ frames := 0, cells := 0, slots := 0, locals := 0 } : Room) #[.ref a1, .int (2 : Int32), .int (0 : Int32)] h0 (fun v h L => v = some (.int 1) ∧ Fr n0 L ∧ h = h0) := by
  refine Ct.intro pn_1 #[.val (.ref a1), .val (.int (2 : Int32)), .val (.int (0 : Int32))] (fun _ => by first | (simp [entryFrame, mkF, argsToLocals, Value.category, maxLocals]; done) | rfl) ?_
  intro p e s m below meth c T0 X0 hx hZ hby hml hown hnm hret hlk e0
  have N0 := Fr.nil n0
  refine s_iloadN X0 hx (hb hby d1_0) rfl 1 rfl ?_
  refine s_aloadN X0 hx (hb hby d1_1) rfl rfl 2 rfl ?_
  refine s_len X0 hx hZ e0 A1 (hb hby d1_2) (3 : Int32) rfl 3 rfl ?_
  refine s_icmpY X0 hx (hb hby d1_3) (by decide) 8 (by decide) (by decide) ?_
  refine s_iloadN X0 hx (hb hby d1_8) rfl 9 rfl ?_
  refine s_iloadN X0 hx (hb hby d1_9) rfl 10 rfl ?_
  refine s_icmpN X0 hx (hb hby d1_10) (by decide) 13 rfl ?_
  refine s_aloadN X0 hx (hb hby d1_13) rfl rfl 14 rfl ?_
  refine s_iloadN X0 hx (hb hby d1_14) rfl 15 rfl ?_
  refine s_daload X0 hx hZ e0 A1 (hb hby d1_15) (j := (0 : Int32)) 0 (by decide) (.double x0) rfl 16 rfl ?_
  refine s_aloadN X0 hx (hb hby d1_16) rfl rfl 17 rfl ?_
  refine s_iloadN X0 hx (hb hby d1_17) rfl 18 rfl ?_
  refine s_daload X0 hx hZ e0 A1 (hb hby d1_18) (j := (2 : Int32)) 2 (by decide) (.double x2) rfl 19 rfl ?_
  refine s_dcmp X0 hx (hb hby d1_19) (cmpValue (FP.dcmp x0 x2) .g) rfl 20 rfl ?_
  refine s_ifN X0 hx (hb hby d1_20) (dd_ge_f hc) 23 rfl ?_
  refine s_iconst X0 hx (hb hby d1_23) (1 : Int32) rfl 24 rfl ?_
  refine s_goto X0 hx (hb hby d1_24) 28 (by decide) (by decide) ?_
  exact retZ X0 hx hlk hret (hb hby d1_28) (by decide) e0 ⟨rfl, N0, rfl⟩ (by decide) (by decide)
set_option maxRecDepth 65536 in
set_option maxHeartbeats 40000000 in
theorem rm_ok321 (l : Launch) (Z : State) (a0 : Array Value) (hw : ∀ d ∈ tables_1, d.before a0 Z = true) (ws : List Jvm.Cond) (a1 : Addr) (k1 : ClassId) (x0 x1 x2 : UInt64) (h0 : Heap) (n0 : Nat) (Z0 : n0 ≤ h0.size) (A1 : AR Z h0 a1 k1 .double [.double x0, .double x1, .double x2]) (hc : FP.dcmp x1 x2 = some .lt) :
    Ct l Z (⟨"com/example/trunkwright/trunkwright/planning/OfficeBusiestPinLaw", "ok", "([DII)Z"⟩ : MethodName) method_3_code 3 (some .boolean) ws ({ frames := 0, cells := 0, slots := 0, locals := 0 } : Room) #[.ref a1, .int (2 : Int32), .int (1 : Int32)] h0 (fun v h L => v = some (.int 1) ∧ Fr n0 L ∧ h = h0) := by
  refine Ct.intro pn_1 #[.val (.ref a1), .val (.int (2 : Int32)), .val (.int (1 : Int32))] (fun _ => by first | (simp [entryFrame, mkF, argsToLocals, Value.category, maxLocals]; done) | rfl) ?_
  intro p e s m below meth c T0 X0 hx hZ hby hml hown hnm hret hlk e0
  have N0 := Fr.nil n0
  refine s_iloadN X0 hx (hb hby d1_0) rfl 1 rfl ?_
  refine s_aloadN X0 hx (hb hby d1_1) rfl rfl 2 rfl ?_
  refine s_len X0 hx hZ e0 A1 (hb hby d1_2) (3 : Int32) rfl 3 rfl ?_
  refine s_icmpY X0 hx (hb hby d1_3) (by decide) 8 (by decide) (by decide) ?_
  refine s_iloadN X0 hx (hb hby d1_8) rfl 9 rfl ?_
  refine s_iloadN X0 hx (hb hby d1_9) rfl 10 rfl ?_
  refine s_icmpN X0 hx (hb hby d1_10) (by decide) 13 rfl ?_
  refine s_aloadN X0 hx (hb hby d1_13) rfl rfl 14 rfl ?_
  refine s_iloadN X0 hx (hb hby d1_14) rfl 15 rfl ?_
  refine s_daload X0 hx hZ e0 A1 (hb hby d1_15) (j := (1 : Int32)) 1 (by decide) (.double x1) rfl 16 rfl ?_
  refine s_aloadN X0 hx (hb hby d1_16) rfl rfl 17 rfl ?_
  refine s_iloadN X0 hx (hb hby d1_17) rfl 18 rfl ?_
  refine s_daload X0 hx hZ e0 A1 (hb hby d1_18) (j := (2 : Int32)) 2 (by decide) (.double x2) rfl 19 rfl ?_
  refine s_dcmp X0 hx (hb hby d1_19) (cmpValue (FP.dcmp x1 x2) .g) rfl 20 rfl ?_
  refine s_ifN X0 hx (hb hby d1_20) (dd_ge_f hc) 23 rfl ?_
  refine s_iconst X0 hx (hb hby d1_23) (1 : Int32) rfl 24 rfl ?_
  refine s_goto X0 hx (hb hby d1_24) 28 (by decide) (by decide) ?_
  exact retZ X0 hx hlk hret (hb hby d1_28) (by decide) e0 ⟨rfl, N0, rfl⟩ (by decide) (by decide)
set_option maxRecDepth 65536 in
set_option maxHeartbeats 40000000 in
theorem rm_ok322 (l : Launch) (Z : State) (a0 : Array Value) (hw : ∀ d ∈ tables_1, d.before a0 Z = true) (ws : List Jvm.Cond) (a1 : Addr) (k1 : ClassId) (x0 x1 x2 : UInt64) (h0 : Heap) (n0 : Nat) (Z0 : n0 ≤ h0.size) (A1 : AR Z h0 a1 k1 .double [.double x0, .double x1, .double x2]) (hc : FP.dcmp x2 x2 = some .lt ∨ FP.dcmp x2 x2 = some .eq) :
    Ct l Z (⟨"com/example/trunkwright/trunkwright/planning/OfficeBusiestPinLaw", "ok", "([DII)Z"⟩ : MethodName) method_3_code 3 (some .boolean) ws ({ frames := 0, cells := 0, slots := 0, locals := 0 } : Room) #[.ref a1, .int (2 : Int32), .int (2 : Int32)] h0 (fun v h L => v = some (.int 1) ∧ Fr n0 L ∧ h = h0) := by
  refine Ct.intro pn_1 #[.val (.ref a1), .val (.int (2 : Int32)), .val (.int (2 : Int32))] (fun _ => by first | (simp [entryFrame, mkF, argsToLocals, Value.category, maxLocals]; done) | rfl) ?_
  intro p e s m below meth c T0 X0 hx hZ hby hml hown hnm hret hlk e0
  have N0 := Fr.nil n0
  refine s_iloadN X0 hx (hb hby d1_0) rfl 1 rfl ?_
  refine s_aloadN X0 hx (hb hby d1_1) rfl rfl 2 rfl ?_
  refine s_len X0 hx hZ e0 A1 (hb hby d1_2) (3 : Int32) rfl 3 rfl ?_
  refine s_icmpY X0 hx (hb hby d1_3) (by decide) 8 (by decide) (by decide) ?_
  refine s_iloadN X0 hx (hb hby d1_8) rfl 9 rfl ?_
  refine s_iloadN X0 hx (hb hby d1_9) rfl 10 rfl ?_
  refine s_icmpY X0 hx (hb hby d1_10) (by decide) 29 (by decide) (by decide) ?_
  refine s_aloadN X0 hx (hb hby d1_29) rfl rfl 30 rfl ?_
  refine s_iloadN X0 hx (hb hby d1_30) rfl 31 rfl ?_
  refine s_daload X0 hx hZ e0 A1 (hb hby d1_31) (j := (2 : Int32)) 2 (by decide) (.double x2) rfl 32 rfl ?_
  refine s_aloadN X0 hx (hb hby d1_32) rfl rfl 33 rfl ?_
  refine s_iloadN X0 hx (hb hby d1_33) rfl 34 rfl ?_
  refine s_daload X0 hx hZ e0 A1 (hb hby d1_34) (j := (2 : Int32)) 2 (by decide) (.double x2) rfl 35 rfl ?_
  refine s_dcmp X0 hx (hb hby d1_35) (cmpValue (FP.dcmp x2 x2) .g) rfl 36 rfl ?_
  refine s_ifN X0 hx (hb hby d1_36) (dd_gt_f hc) 39 rfl ?_
  refine s_iconst X0 hx (hb hby d1_39) (1 : Int32) rfl 40 rfl ?_
  refine s_goto X0 hx (hb hby d1_40) 44 (by decide) (by decide) ?_
  exact retZ X0 hx hlk hret (hb hby d1_44) (by decide) e0 ⟨rfl, N0, rfl⟩ (by decide) (by decide)
set_option maxRecDepth 65536 in
set_option maxHeartbeats 40000000 in
theorem rm_ok323 (l : Launch) (Z : State) (a0 : Array Value) (hw : ∀ d ∈ tables_1, d.before a0 Z = true) (ws : List Jvm.Cond) (a1 : Addr) (k1 : ClassId) (x0 x1 x2 : UInt64) (h0 : Heap) (n0 : Nat) (Z0 : n0 ≤ h0.size) (A1 : AR Z h0 a1 k1 .double [.double x0, .double x1, .double x2])  :
    Ct l Z (⟨"com/example/trunkwright/trunkwright/planning/OfficeBusiestPinLaw", "ok", "([DII)Z"⟩ : MethodName) method_3_code 3 (some .boolean) ws ({ frames := 0, cells := 0, slots := 0, locals := 0 } : Room) #[.ref a1, .int (2 : Int32), .int (3 : Int32)] h0 (fun v h L => v = some (.int 1) ∧ Fr n0 L ∧ h = h0) := by
  refine Ct.intro pn_1 #[.val (.ref a1), .val (.int (2 : Int32)), .val (.int (3 : Int32))] (fun _ => by first | (simp [entryFrame, mkF, argsToLocals, Value.category, maxLocals]; done) | rfl) ?_
  intro p e s m below meth c T0 X0 hx hZ hby hml hown hnm hret hlk e0
  have N0 := Fr.nil n0
  refine s_iloadN X0 hx (hb hby d1_0) rfl 1 rfl ?_
  refine s_aloadN X0 hx (hb hby d1_1) rfl rfl 2 rfl ?_
  refine s_len X0 hx hZ e0 A1 (hb hby d1_2) (3 : Int32) rfl 3 rfl ?_
  refine s_icmpN X0 hx (hb hby d1_3) (by decide) 6 rfl ?_
  refine s_iconst X0 hx (hb hby d1_6) (1 : Int32) rfl 7 rfl ?_
  exact retZ X0 hx hlk hret (hb hby d1_7) (by decide) e0 ⟨rfl, N0, rfl⟩ (by decide) (by decide)
set_option maxRecDepth 65536 in
set_option maxHeartbeats 40000000 in
theorem rm_ok400 (l : Launch) (Z : State) (a0 : Array Value) (hw : ∀ d ∈ tables_1, d.before a0 Z = true) (ws : List Jvm.Cond) (a1 : Addr) (k1 : ClassId) (x0 x1 x2 x3 : UInt64) (h0 : Heap) (n0 : Nat) (Z0 : n0 ≤ h0.size) (A1 : AR Z h0 a1 k1 .double [.double x0, .double x1, .double x2, .double x3]) (hc : FP.dcmp x0 x0 = some .lt ∨ FP.dcmp x0 x0 = some .eq) :
    Ct l Z (⟨"com/example/trunkwright/trunkwright/planning/OfficeBusiestPinLaw", "ok", "([DII)Z"⟩ : MethodName) method_3_code 3 (some .boolean) ws ({ frames := 0, cells := 0, slots := 0, locals := 0 } : Room) #[.ref a1, .int (0 : Int32), .int (0 : Int32)] h0 (fun v h L => v = some (.int 1) ∧ Fr n0 L ∧ h = h0) := by
  refine Ct.intro pn_1 #[.val (.ref a1), .val (.int (0 : Int32)), .val (.int (0 : Int32))] (fun _ => by first | (simp [entryFrame, mkF, argsToLocals, Value.category, maxLocals]; done) | rfl) ?_
  intro p e s m below meth c T0 X0 hx hZ hby hml hown hnm hret hlk e0
  have N0 := Fr.nil n0
  refine s_iloadN X0 hx (hb hby d1_0) rfl 1 rfl ?_
  refine s_aloadN X0 hx (hb hby d1_1) rfl rfl 2 rfl ?_
  refine s_len X0 hx hZ e0 A1 (hb hby d1_2) (4 : Int32) rfl 3 rfl ?_
  refine s_icmpY X0 hx (hb hby d1_3) (by decide) 8 (by decide) (by decide) ?_
  refine s_iloadN X0 hx (hb hby d1_8) rfl 9 rfl ?_
  refine s_iloadN X0 hx (hb hby d1_9) rfl 10 rfl ?_
  refine s_icmpY X0 hx (hb hby d1_10) (by decide) 29 (by decide) (by decide) ?_
  refine s_aloadN X0 hx (hb hby d1_29) rfl rfl 30 rfl ?_
  refine s_iloadN X0 hx (hb hby d1_30) rfl 31 rfl ?_
  refine s_daload X0 hx hZ e0 A1 (hb hby d1_31) (j := (0 : Int32)) 0 (by decide) (.double x0) rfl 32 rfl ?_
  refine s_aloadN X0 hx (hb hby d1_32) rfl rfl 33 rfl ?_
  refine s_iloadN X0 hx (hb hby d1_33) rfl 34 rfl ?_
  refine s_daload X0 hx hZ e0 A1 (hb hby d1_34) (j := (0 : Int32)) 0 (by decide) (.double x0) rfl 35 rfl ?_
  refine s_dcmp X0 hx (hb hby d1_35) (cmpValue (FP.dcmp x0 x0) .g) rfl 36 rfl ?_
  refine s_ifN X0 hx (hb hby d1_36) (dd_gt_f hc) 39 rfl ?_
  refine s_iconst X0 hx (hb hby d1_39) (1 : Int32) rfl 40 rfl ?_
  refine s_goto X0 hx (hb hby d1_40) 44 (by decide) (by decide) ?_
  exact retZ X0 hx hlk hret (hb hby d1_44) (by decide) e0 ⟨rfl, N0, rfl⟩ (by decide) (by decide)
set_option maxRecDepth 65536 in
set_option maxHeartbeats 40000000 in
theorem rm_ok401 (l : Launch) (Z : State) (a0 : Array Value) (hw : ∀ d ∈ tables_1, d.before a0 Z = true) (ws : List Jvm.Cond) (a1 : Addr) (k1 : ClassId) (x0 x1 x2 x3 : UInt64) (h0 : Heap) (n0 : Nat) (Z0 : n0 ≤ h0.size) (A1 : AR Z h0 a1 k1 .double [.double x0, .double x1, .double x2, .double x3]) (hc : FP.dcmp x1 x0 = some .lt ∨ FP.dcmp x1 x0 = some .eq) :
    Ct l Z (⟨"com/example/trunkwright/trunkwright/planning/OfficeBusiestPinLaw", "ok", "([DII)Z"⟩ : MethodName) method_3_code 3 (some .boolean) ws ({ frames := 0, cells := 0, slots := 0, locals := 0 } : Room) #[.ref a1, .int (0 : Int32), .int (1 : Int32)] h0 (fun v h L => v = some (.int 1) ∧ Fr n0 L ∧ h = h0) := by
  refine Ct.intro pn_1 #[.val (.ref a1), .val (.int (0 : Int32)), .val (.int (1 : Int32))] (fun _ => by first | (simp [entryFrame, mkF, argsToLocals, Value.category, maxLocals]; done) | rfl) ?_
  intro p e s m below meth c T0 X0 hx hZ hby hml hown hnm hret hlk e0
  have N0 := Fr.nil n0
  refine s_iloadN X0 hx (hb hby d1_0) rfl 1 rfl ?_
  refine s_aloadN X0 hx (hb hby d1_1) rfl rfl 2 rfl ?_
  refine s_len X0 hx hZ e0 A1 (hb hby d1_2) (4 : Int32) rfl 3 rfl ?_
  refine s_icmpY X0 hx (hb hby d1_3) (by decide) 8 (by decide) (by decide) ?_
  refine s_iloadN X0 hx (hb hby d1_8) rfl 9 rfl ?_
  refine s_iloadN X0 hx (hb hby d1_9) rfl 10 rfl ?_
  refine s_icmpY X0 hx (hb hby d1_10) (by decide) 29 (by decide) (by decide) ?_
  refine s_aloadN X0 hx (hb hby d1_29) rfl rfl 30 rfl ?_
  refine s_iloadN X0 hx (hb hby d1_30) rfl 31 rfl ?_
  refine s_daload X0 hx hZ e0 A1 (hb hby d1_31) (j := (1 : Int32)) 1 (by decide) (.double x1) rfl 32 rfl ?_
  refine s_aloadN X0 hx (hb hby d1_32) rfl rfl 33 rfl ?_
  refine s_iloadN X0 hx (hb hby d1_33) rfl 34 rfl ?_
  refine s_daload X0 hx hZ e0 A1 (hb hby d1_34) (j := (0 : Int32)) 0 (by decide) (.double x0) rfl 35 rfl ?_
  refine s_dcmp X0 hx (hb hby d1_35) (cmpValue (FP.dcmp x1 x0) .g) rfl 36 rfl ?_
  refine s_ifN X0 hx (hb hby d1_36) (dd_gt_f hc) 39 rfl ?_
  refine s_iconst X0 hx (hb hby d1_39) (1 : Int32) rfl 40 rfl ?_
  refine s_goto X0 hx (hb hby d1_40) 44 (by decide) (by decide) ?_
  exact retZ X0 hx hlk hret (hb hby d1_44) (by decide) e0 ⟨rfl, N0, rfl⟩ (by decide) (by decide)
set_option maxRecDepth 65536 in
set_option maxHeartbeats 40000000 in
theorem rm_ok402 (l : Launch) (Z : State) (a0 : Array Value) (hw : ∀ d ∈ tables_1, d.before a0 Z = true) (ws : List Jvm.Cond) (a1 : Addr) (k1 : ClassId) (x0 x1 x2 x3 : UInt64) (h0 : Heap) (n0 : Nat) (Z0 : n0 ≤ h0.size) (A1 : AR Z h0 a1 k1 .double [.double x0, .double x1, .double x2, .double x3]) (hc : FP.dcmp x2 x0 = some .lt ∨ FP.dcmp x2 x0 = some .eq) :
    Ct l Z (⟨"com/example/trunkwright/trunkwright/planning/OfficeBusiestPinLaw", "ok", "([DII)Z"⟩ : MethodName) method_3_code 3 (some .boolean) ws ({ frames := 0, cells := 0, slots := 0, locals := 0 } : Room) #[.ref a1, .int (0 : Int32), .int (2 : Int32)] h0 (fun v h L => v = some (.int 1) ∧ Fr n0 L ∧ h = h0) := by
  refine Ct.intro pn_1 #[.val (.ref a1), .val (.int (0 : Int32)), .val (.int (2 : Int32))] (fun _ => by first | (simp [entryFrame, mkF, argsToLocals, Value.category, maxLocals]; done) | rfl) ?_
  intro p e s m below meth c T0 X0 hx hZ hby hml hown hnm hret hlk e0
  have N0 := Fr.nil n0
  refine s_iloadN X0 hx (hb hby d1_0) rfl 1 rfl ?_
  refine s_aloadN X0 hx (hb hby d1_1) rfl rfl 2 rfl ?_
  refine s_len X0 hx hZ e0 A1 (hb hby d1_2) (4 : Int32) rfl 3 rfl ?_
  refine s_icmpY X0 hx (hb hby d1_3) (by decide) 8 (by decide) (by decide) ?_
  refine s_iloadN X0 hx (hb hby d1_8) rfl 9 rfl ?_
  refine s_iloadN X0 hx (hb hby d1_9) rfl 10 rfl ?_
  refine s_icmpY X0 hx (hb hby d1_10) (by decide) 29 (by decide) (by decide) ?_
  refine s_aloadN X0 hx (hb hby d1_29) rfl rfl 30 rfl ?_
  refine s_iloadN X0 hx (hb hby d1_30) rfl 31 rfl ?_
  refine s_daload X0 hx hZ e0 A1 (hb hby d1_31) (j := (2 : Int32)) 2 (by decide) (.double x2) rfl 32 rfl ?_
  refine s_aloadN X0 hx (hb hby d1_32) rfl rfl 33 rfl ?_
  refine s_iloadN X0 hx (hb hby d1_33) rfl 34 rfl ?_
  refine s_daload X0 hx hZ e0 A1 (hb hby d1_34) (j := (0 : Int32)) 0 (by decide) (.double x0) rfl 35 rfl ?_
  refine s_dcmp X0 hx (hb hby d1_35) (cmpValue (FP.dcmp x2 x0) .g) rfl 36 rfl ?_
  refine s_ifN X0 hx (hb hby d1_36) (dd_gt_f hc) 39 rfl ?_
  refine s_iconst X0 hx (hb hby d1_39) (1 : Int32) rfl 40 rfl ?_
  refine s_goto X0 hx (hb hby d1_40) 44 (by decide) (by decide) ?_
  exact retZ X0 hx hlk hret (hb hby d1_44) (by decide) e0 ⟨rfl, N0, rfl⟩ (by decide) (by decide)
set_option maxRecDepth 65536 in
set_option maxHeartbeats 40000000 in
theorem rm_ok403 (l : Launch) (Z : State) (a0 : Array Value) (hw : ∀ d ∈ tables_1, d.before a0 Z = true) (ws : List Jvm.Cond) (a1 : Addr) (k1 : ClassId) (x0 x1 x2 x3 : UInt64) (h0 : Heap) (n0 : Nat) (Z0 : n0 ≤ h0.size) (A1 : AR Z h0 a1 k1 .double [.double x0, .double x1, .double x2, .double x3]) (hc : FP.dcmp x3 x0 = some .lt ∨ FP.dcmp x3 x0 = some .eq) :
    Ct l Z (⟨"com/example/trunkwright/trunkwright/planning/OfficeBusiestPinLaw", "ok", "([DII)Z"⟩ : MethodName) method_3_code 3 (some .boolean) ws ({ frames := 0, cells := 0, slots := 0, locals := 0 } : Room) #[.ref a1, .int (0 : Int32), .int (3 : Int32)] h0 (fun v h L => v = some (.int 1) ∧ Fr n0 L ∧ h = h0) := by
  refine Ct.intro pn_1 #[.val (.ref a1), .val (.int (0 : Int32)), .val (.int (3 : Int32))] (fun _ => by first | (simp [entryFrame, mkF, argsToLocals, Value.category, maxLocals]; done) | rfl) ?_
  intro p e s m below meth c T0 X0 hx hZ hby hml hown hnm hret hlk e0
  have N0 := Fr.nil n0
  refine s_iloadN X0 hx (hb hby d1_0) rfl 1 rfl ?_
  refine s_aloadN X0 hx (hb hby d1_1) rfl rfl 2 rfl ?_
  refine s_len X0 hx hZ e0 A1 (hb hby d1_2) (4 : Int32) rfl 3 rfl ?_
  refine s_icmpY X0 hx (hb hby d1_3) (by decide) 8 (by decide) (by decide) ?_
  refine s_iloadN X0 hx (hb hby d1_8) rfl 9 rfl ?_
  refine s_iloadN X0 hx (hb hby d1_9) rfl 10 rfl ?_
  refine s_icmpY X0 hx (hb hby d1_10) (by decide) 29 (by decide) (by decide) ?_
  refine s_aloadN X0 hx (hb hby d1_29) rfl rfl 30 rfl ?_
  refine s_iloadN X0 hx (hb hby d1_30) rfl 31 rfl ?_
  refine s_daload X0 hx hZ e0 A1 (hb hby d1_31) (j := (3 : Int32)) 3 (by decide) (.double x3) rfl 32 rfl ?_
  refine s_aloadN X0 hx (hb hby d1_32) rfl rfl 33 rfl ?_
  refine s_iloadN X0 hx (hb hby d1_33) rfl 34 rfl ?_
  refine s_daload X0 hx hZ e0 A1 (hb hby d1_34) (j := (0 : Int32)) 0 (by decide) (.double x0) rfl 35 rfl ?_
  refine s_dcmp X0 hx (hb hby d1_35) (cmpValue (FP.dcmp x3 x0) .g) rfl 36 rfl ?_
  refine s_ifN X0 hx (hb hby d1_36) (dd_gt_f hc) 39 rfl ?_
  refine s_iconst X0 hx (hb hby d1_39) (1 : Int32) rfl 40 rfl ?_
  refine s_goto X0 hx (hb hby d1_40) 44 (by decide) (by decide) ?_
  exact retZ X0 hx hlk hret (hb hby d1_44) (by decide) e0 ⟨rfl, N0, rfl⟩ (by decide) (by decide)
set_option maxRecDepth 65536 in
set_option maxHeartbeats 40000000 in
theorem rm_ok410 (l : Launch) (Z : State) (a0 : Array Value) (hw : ∀ d ∈ tables_1, d.before a0 Z = true) (ws : List Jvm.Cond) (a1 : Addr) (k1 : ClassId) (x0 x1 x2 x3 : UInt64) (h0 : Heap) (n0 : Nat) (Z0 : n0 ≤ h0.size) (A1 : AR Z h0 a1 k1 .double [.double x0, .double x1, .double x2, .double x3]) (hc : FP.dcmp x0 x1 = some .lt) :
    Ct l Z (⟨"com/example/trunkwright/trunkwright/planning/OfficeBusiestPinLaw", "ok", "([DII)Z"⟩ : MethodName) method_3_code 3 (some .boolean) ws ({ frames := 0, cells := 0, slots := 0, locals := 0 } : Room) #[.ref a1, .int (1 : Int32), .int (0 : Int32)] h0 (fun v h L => v = some (.int 1) ∧ Fr n0 L ∧ h = h0) := by
  refine Ct.intro pn_1 #[.val (.ref a1), .val (.int (1 : Int32)), .val (.int (0 : Int32))] (fun _ => by first | (simp [entryFrame, mkF, argsToLocals, Value.category, maxLocals]; done) | rfl) ?_
  intro p e s m below meth c T0 X0 hx hZ hby hml hown hnm hret hlk e0
  have N0 := Fr.nil n0
  refine s_iloadN X0 hx (hb hby d1_0) rfl 1 rfl ?_
  refine s_aloadN X0 hx (hb hby d1_1) rfl rfl 2 rfl ?_
  refine s_len X0 hx hZ e0 A1 (hb hby d1_2) (4 : Int32) rfl 3 rfl ?_
  refine s_icmpY X0 hx (hb hby d1_3) (by decide) 8 (by decide) (by decide) ?_
  refine s_iloadN X0 hx (hb hby d1_8) rfl 9 rfl ?_
  refine s_iloadN X0 hx (hb hby d1_9) rfl 10 rfl ?_
  refine s_icmpN X0 hx (hb hby d1_10) (by decide) 13 rfl ?_
  refine s_aloadN X0 hx (hb hby d1_13) rfl rfl 14 rfl ?_
  refine s_iloadN X0 hx (hb hby d1_14) rfl 15 rfl ?_
  refine s_daload X0 hx hZ e0 A1 (hb hby d1_15) (j := (0 : Int32)) 0 (by decide) (.double x0) rfl 16 rfl ?_
  refine s_aloadN X0 hx (hb hby d1_16) rfl rfl 17 rfl ?_
  refine s_iloadN X0 hx (hb hby d1_17) rfl 18 rfl ?_
  refine s_daload X0 hx hZ e0 A1 (hb hby d1_18) (j := (1 : Int32)) 1 (by decide) (.double x1) rfl 19 rfl ?_
  refine s_dcmp X0 hx (hb hby d1_19) (cmpValue (FP.dcmp x0 x1) .g) rfl 20 rfl ?_
  refine s_ifN X0 hx (hb hby d1_20) (dd_ge_f hc) 23 rfl ?_
  refine s_iconst X0 hx (hb hby d1_23) (1 : Int32) rfl 24 rfl ?_
  refine s_goto X0 hx (hb hby d1_24) 28 (by decide) (by decide) ?_
  exact retZ X0 hx hlk hret (hb hby d1_28) (by decide) e0 ⟨rfl, N0, rfl⟩ (by decide) (by decide)
set_option maxRecDepth 65536 in
set_option maxHeartbeats 40000000 in
theorem rm_ok411 (l : Launch) (Z : State) (a0 : Array Value) (hw : ∀ d ∈ tables_1, d.before a0 Z = true) (ws : List Jvm.Cond) (a1 : Addr) (k1 : ClassId) (x0 x1 x2 x3 : UInt64) (h0 : Heap) (n0 : Nat) (Z0 : n0 ≤ h0.size) (A1 : AR Z h0 a1 k1 .double [.double x0, .double x1, .double x2, .double x3]) (hc : FP.dcmp x1 x1 = some .lt ∨ FP.dcmp x1 x1 = some .eq) :
    Ct l Z (⟨"com/example/trunkwright/trunkwright/planning/OfficeBusiestPinLaw", "ok", "([DII)Z"⟩ : MethodName) method_3_code 3 (some .boolean) ws ({ frames := 0, cells := 0, slots := 0, locals := 0 } : Room) #[.ref a1, .int (1 : Int32), .int (1 : Int32)] h0 (fun v h L => v = some (.int 1) ∧ Fr n0 L ∧ h = h0) := by
  refine Ct.intro pn_1 #[.val (.ref a1), .val (.int (1 : Int32)), .val (.int (1 : Int32))] (fun _ => by first | (simp [entryFrame, mkF, argsToLocals, Value.category, maxLocals]; done) | rfl) ?_
  intro p e s m below meth c T0 X0 hx hZ hby hml hown hnm hret hlk e0
  have N0 := Fr.nil n0
  refine s_iloadN X0 hx (hb hby d1_0) rfl 1 rfl ?_
  refine s_aloadN X0 hx (hb hby d1_1) rfl rfl 2 rfl ?_
  refine s_len X0 hx hZ e0 A1 (hb hby d1_2) (4 : Int32) rfl 3 rfl ?_
  refine s_icmpY X0 hx (hb hby d1_3) (by decide) 8 (by decide) (by decide) ?_
  refine s_iloadN X0 hx (hb hby d1_8) rfl 9 rfl ?_
  refine s_iloadN X0 hx (hb hby d1_9) rfl 10 rfl ?_
  refine s_icmpY X0 hx (hb hby d1_10) (by decide) 29 (by decide) (by decide) ?_
  refine s_aloadN X0 hx (hb hby d1_29) rfl rfl 30 rfl ?_
  refine s_iloadN X0 hx (hb hby d1_30) rfl 31 rfl ?_
  refine s_daload X0 hx hZ e0 A1 (hb hby d1_31) (j := (1 : Int32)) 1 (by decide) (.double x1) rfl 32 rfl ?_
  refine s_aloadN X0 hx (hb hby d1_32) rfl rfl 33 rfl ?_
  refine s_iloadN X0 hx (hb hby d1_33) rfl 34 rfl ?_
  refine s_daload X0 hx hZ e0 A1 (hb hby d1_34) (j := (1 : Int32)) 1 (by decide) (.double x1) rfl 35 rfl ?_
  refine s_dcmp X0 hx (hb hby d1_35) (cmpValue (FP.dcmp x1 x1) .g) rfl 36 rfl ?_
  refine s_ifN X0 hx (hb hby d1_36) (dd_gt_f hc) 39 rfl ?_
  refine s_iconst X0 hx (hb hby d1_39) (1 : Int32) rfl 40 rfl ?_
  refine s_goto X0 hx (hb hby d1_40) 44 (by decide) (by decide) ?_
  exact retZ X0 hx hlk hret (hb hby d1_44) (by decide) e0 ⟨rfl, N0, rfl⟩ (by decide) (by decide)
set_option maxRecDepth 65536 in
set_option maxHeartbeats 40000000 in
theorem rm_ok412 (l : Launch) (Z : State) (a0 : Array Value) (hw : ∀ d ∈ tables_1, d.before a0 Z = true) (ws : List Jvm.Cond) (a1 : Addr) (k1 : ClassId) (x0 x1 x2 x3 : UInt64) (h0 : Heap) (n0 : Nat) (Z0 : n0 ≤ h0.size) (A1 : AR Z h0 a1 k1 .double [.double x0, .double x1, .double x2, .double x3]) (hc : FP.dcmp x2 x1 = some .lt ∨ FP.dcmp x2 x1 = some .eq) :
    Ct l Z (⟨"com/example/trunkwright/trunkwright/planning/OfficeBusiestPinLaw", "ok", "([DII)Z"⟩ : MethodName) method_3_code 3 (some .boolean) ws ({ frames := 0, cells := 0, slots := 0, locals := 0 } : Room) #[.ref a1, .int (1 : Int32), .int (2 : Int32)] h0 (fun v h L => v = some (.int 1) ∧ Fr n0 L ∧ h = h0) := by
  refine Ct.intro pn_1 #[.val (.ref a1), .val (.int (1 : Int32)), .val (.int (2 : Int32))] (fun _ => by first | (simp [entryFrame, mkF, argsToLocals, Value.category, maxLocals]; done) | rfl) ?_
  intro p e s m below meth c T0 X0 hx hZ hby hml hown hnm hret hlk e0
  have N0 := Fr.nil n0
  refine s_iloadN X0 hx (hb hby d1_0) rfl 1 rfl ?_
  refine s_aloadN X0 hx (hb hby d1_1) rfl rfl 2 rfl ?_
  refine s_len X0 hx hZ e0 A1 (hb hby d1_2) (4 : Int32) rfl 3 rfl ?_
  refine s_icmpY X0 hx (hb hby d1_3) (by decide) 8 (by decide) (by decide) ?_
  refine s_iloadN X0 hx (hb hby d1_8) rfl 9 rfl ?_
  refine s_iloadN X0 hx (hb hby d1_9) rfl 10 rfl ?_
  refine s_icmpY X0 hx (hb hby d1_10) (by decide) 29 (by decide) (by decide) ?_
  refine s_aloadN X0 hx (hb hby d1_29) rfl rfl 30 rfl ?_
  refine s_iloadN X0 hx (hb hby d1_30) rfl 31 rfl ?_
  refine s_daload X0 hx hZ e0 A1 (hb hby d1_31) (j := (2 : Int32)) 2 (by decide) (.double x2) rfl 32 rfl ?_
  refine s_aloadN X0 hx (hb hby d1_32) rfl rfl 33 rfl ?_
  refine s_iloadN X0 hx (hb hby d1_33) rfl 34 rfl ?_
  refine s_daload X0 hx hZ e0 A1 (hb hby d1_34) (j := (1 : Int32)) 1 (by decide) (.double x1) rfl 35 rfl ?_
  refine s_dcmp X0 hx (hb hby d1_35) (cmpValue (FP.dcmp x2 x1) .g) rfl 36 rfl ?_
  refine s_ifN X0 hx (hb hby d1_36) (dd_gt_f hc) 39 rfl ?_
  refine s_iconst X0 hx (hb hby d1_39) (1 : Int32) rfl 40 rfl ?_
  refine s_goto X0 hx (hb hby d1_40) 44 (by decide) (by decide) ?_
  exact retZ X0 hx hlk hret (hb hby d1_44) (by decide) e0 ⟨rfl, N0, rfl⟩ (by decide) (by decide)
set_option maxRecDepth 65536 in
set_option maxHeartbeats 40000000 in
theorem rm_ok413 (l : Launch) (Z : State) (a0 : Array Value) (hw : ∀ d ∈ tables_1, d.before a0 Z = true) (ws : List Jvm.Cond) (a1 : Addr) (k1 : ClassId) (x0 x1 x2 x3 : UInt64) (h0 : Heap) (n0 : Nat) (Z0 : n0 ≤ h0.size) (A1 : AR Z h0 a1 k1 .double [.double x0, .double x1, .double x2, .double x3]) (hc : FP.dcmp x3 x1 = some .lt ∨ FP.dcmp x3 x1 = some .eq) :
    Ct l Z (⟨"com/example/trunkwright/trunkwright/planning/OfficeBusiestPinLaw", "ok", "([DII)Z"⟩ : MethodName) method_3_code 3 (some .boolean) ws ({ frames := 0, cells := 0, slots := 0, locals := 0 } : Room) #[.ref a1, .int (1 : Int32), .int (3 : Int32)] h0 (fun v h L => v = some (.int 1) ∧ Fr n0 L ∧ h = h0) := by
  refine Ct.intro pn_1 #[.val (.ref a1), .val (.int (1 : Int32)), .val (.int (3 : Int32))] (fun _ => by first | (simp [entryFrame, mkF, argsToLocals, Value.category, maxLocals]; done) | rfl) ?_
  intro p e s m below meth c T0 X0 hx hZ hby hml hown hnm hret hlk e0
  have N0 := Fr.nil n0
  refine s_iloadN X0 hx (hb hby d1_0) rfl 1 rfl ?_
  refine s_aloadN X0 hx (hb hby d1_1) rfl rfl 2 rfl ?_
  refine s_len X0 hx hZ e0 A1 (hb hby d1_2) (4 : Int32) rfl 3 rfl ?_
  refine s_icmpY X0 hx (hb hby d1_3) (by decide) 8 (by decide) (by decide) ?_
  refine s_iloadN X0 hx (hb hby d1_8) rfl 9 rfl ?_
  refine s_iloadN X0 hx (hb hby d1_9) rfl 10 rfl ?_
  refine s_icmpY X0 hx (hb hby d1_10) (by decide) 29 (by decide) (by decide) ?_
  refine s_aloadN X0 hx (hb hby d1_29) rfl rfl 30 rfl ?_
  refine s_iloadN X0 hx (hb hby d1_30) rfl 31 rfl ?_
  refine s_daload X0 hx hZ e0 A1 (hb hby d1_31) (j := (3 : Int32)) 3 (by decide) (.double x3) rfl 32 rfl ?_
  refine s_aloadN X0 hx (hb hby d1_32) rfl rfl 33 rfl ?_
  refine s_iloadN X0 hx (hb hby d1_33) rfl 34 rfl ?_
  refine s_daload X0 hx hZ e0 A1 (hb hby d1_34) (j := (1 : Int32)) 1 (by decide) (.double x1) rfl 35 rfl ?_
  refine s_dcmp X0 hx (hb hby d1_35) (cmpValue (FP.dcmp x3 x1) .g) rfl 36 rfl ?_
  refine s_ifN X0 hx (hb hby d1_36) (dd_gt_f hc) 39 rfl ?_
  refine s_iconst X0 hx (hb hby d1_39) (1 : Int32) rfl 40 rfl ?_
  refine s_goto X0 hx (hb hby d1_40) 44 (by decide) (by decide) ?_
  exact retZ X0 hx hlk hret (hb hby d1_44) (by decide) e0 ⟨rfl, N0, rfl⟩ (by decide) (by decide)
set_option maxRecDepth 65536 in
set_option maxHeartbeats 40000000 in
theorem rm_ok420 (l : Launch) (Z : State) (a0 : Array Value) (hw : ∀ d ∈ tables_1, d.before a0 Z = true) (ws : List Jvm.Cond) (a1 : Addr) (k1 : ClassId) (x0 x1 x2 x3 : UInt64) (h0 : Heap) (n0 : Nat) (Z0 : n0 ≤ h0.size) (A1 : AR Z h0 a1 k1 .double [.double x0, .double x1, .double x2, .double x3]) (hc : FP.dcmp x0 x2 = some .lt) :
    Ct l Z (⟨"com/example/trunkwright/trunkwright/planning/OfficeBusiestPinLaw", "ok", "([DII)Z"⟩ : MethodName) method_3_code 3 (some .boolean) ws ({ frames := 0, cells := 0, slots := 0, locals := 0 } : Room) #[.ref a1, .int (2 : Int32), .int (0 : Int32)] h0 (fun v h L => v = some (.int 1) ∧ Fr n0 L ∧ h = h0) := by
  refine Ct.intro pn_1 #[.val (.ref a1), .val (.int (2 : Int32)), .val (.int (0 : Int32))] (fun _ => by first | (simp [entryFrame, mkF, argsToLocals, Value.category, maxLocals]; done) | rfl) ?_
  intro p e s m below meth c T0 X0 hx hZ hby hml hown hnm hret hlk e0
  have N0 := Fr.nil n0
  refine s_iloadN X0 hx (hb hby d1_0) rfl 1 rfl ?_
  refine s_aloadN X0 hx (hb hby d1_1) rfl rfl 2 rfl ?_
  refine s_len X0 hx hZ e0 A1 (hb hby d1_2) (4 : Int32) rfl 3 rfl ?_
  refine s_icmpY X0 hx (hb hby d1_3) (by decide) 8 (by decide) (by decide) ?_
  refine s_iloadN X0 hx (hb hby d1_8) rfl 9 rfl ?_
  refine s_iloadN X0 hx (hb hby d1_9) rfl 10 rfl ?_
  refine s_icmpN X0 hx (hb hby d1_10) (by decide) 13 rfl ?_
  refine s_aloadN X0 hx (hb hby d1_13) rfl rfl 14 rfl ?_
  refine s_iloadN X0 hx (hb hby d1_14) rfl 15 rfl ?_
  refine s_daload X0 hx hZ e0 A1 (hb hby d1_15) (j := (0 : Int32)) 0 (by decide) (.double x0) rfl 16 rfl ?_
  refine s_aloadN X0 hx (hb hby d1_16) rfl rfl 17 rfl ?_
  refine s_iloadN X0 hx (hb hby d1_17) rfl 18 rfl ?_
  refine s_daload X0 hx hZ e0 A1 (hb hby d1_18) (j := (2 : Int32)) 2 (by decide) (.double x2) rfl 19 rfl ?_
  refine s_dcmp X0 hx (hb hby d1_19) (cmpValue (FP.dcmp x0 x2) .g) rfl 20 rfl ?_
  refine s_ifN X0 hx (hb hby d1_20) (dd_ge_f hc) 23 rfl ?_
  refine s_iconst X0 hx (hb hby d1_23) (1 : Int32) rfl 24 rfl ?_
  refine s_goto X0 hx (hb hby d1_24) 28 (by decide) (by decide) ?_
  exact retZ X0 hx hlk hret (hb hby d1_28) (by decide) e0 ⟨rfl, N0, rfl⟩ (by decide) (by decide)
set_option maxRecDepth 65536 in
set_option maxHeartbeats 40000000 in
theorem rm_ok421 (l : Launch) (Z : State) (a0 : Array Value) (hw : ∀ d ∈ tables_1, d.before a0 Z = true) (ws : List Jvm.Cond) (a1 : Addr) (k1 : ClassId) (x0 x1 x2 x3 : UInt64) (h0 : Heap) (n0 : Nat) (Z0 : n0 ≤ h0.size) (A1 : AR Z h0 a1 k1 .double [.double x0, .double x1, .double x2, .double x3]) (hc : FP.dcmp x1 x2 = some .lt) :
    Ct l Z (⟨"com/example/trunkwright/trunkwright/planning/OfficeBusiestPinLaw", "ok", "([DII)Z"⟩ : MethodName) method_3_code 3 (some .boolean) ws ({ frames := 0, cells := 0, slots := 0, locals := 0 } : Room) #[.ref a1, .int (2 : Int32), .int (1 : Int32)] h0 (fun v h L => v = some (.int 1) ∧ Fr n0 L ∧ h = h0) := by
  refine Ct.intro pn_1 #[.val (.ref a1), .val (.int (2 : Int32)), .val (.int (1 : Int32))] (fun _ => by first | (simp [entryFrame, mkF, argsToLocals, Value.category, maxLocals]; done) | rfl) ?_
  intro p e s m below meth c T0 X0 hx hZ hby hml hown hnm hret hlk e0
  have N0 := Fr.nil n0
  refine s_iloadN X0 hx (hb hby d1_0) rfl 1 rfl ?_
  refine s_aloadN X0 hx (hb hby d1_1) rfl rfl 2 rfl ?_
  refine s_len X0 hx hZ e0 A1 (hb hby d1_2) (4 : Int32) rfl 3 rfl ?_
  refine s_icmpY X0 hx (hb hby d1_3) (by decide) 8 (by decide) (by decide) ?_
  refine s_iloadN X0 hx (hb hby d1_8) rfl 9 rfl ?_
  refine s_iloadN X0 hx (hb hby d1_9) rfl 10 rfl ?_
  refine s_icmpN X0 hx (hb hby d1_10) (by decide) 13 rfl ?_
  refine s_aloadN X0 hx (hb hby d1_13) rfl rfl 14 rfl ?_
  refine s_iloadN X0 hx (hb hby d1_14) rfl 15 rfl ?_
  refine s_daload X0 hx hZ e0 A1 (hb hby d1_15) (j := (1 : Int32)) 1 (by decide) (.double x1) rfl 16 rfl ?_
  refine s_aloadN X0 hx (hb hby d1_16) rfl rfl 17 rfl ?_
  refine s_iloadN X0 hx (hb hby d1_17) rfl 18 rfl ?_
  refine s_daload X0 hx hZ e0 A1 (hb hby d1_18) (j := (2 : Int32)) 2 (by decide) (.double x2) rfl 19 rfl ?_
  refine s_dcmp X0 hx (hb hby d1_19) (cmpValue (FP.dcmp x1 x2) .g) rfl 20 rfl ?_
  refine s_ifN X0 hx (hb hby d1_20) (dd_ge_f hc) 23 rfl ?_
  refine s_iconst X0 hx (hb hby d1_23) (1 : Int32) rfl 24 rfl ?_
  refine s_goto X0 hx (hb hby d1_24) 28 (by decide) (by decide) ?_
  exact retZ X0 hx hlk hret (hb hby d1_28) (by decide) e0 ⟨rfl, N0, rfl⟩ (by decide) (by decide)
set_option maxRecDepth 65536 in
set_option maxHeartbeats 40000000 in
theorem rm_ok422 (l : Launch) (Z : State) (a0 : Array Value) (hw : ∀ d ∈ tables_1, d.before a0 Z = true) (ws : List Jvm.Cond) (a1 : Addr) (k1 : ClassId) (x0 x1 x2 x3 : UInt64) (h0 : Heap) (n0 : Nat) (Z0 : n0 ≤ h0.size) (A1 : AR Z h0 a1 k1 .double [.double x0, .double x1, .double x2, .double x3]) (hc : FP.dcmp x2 x2 = some .lt ∨ FP.dcmp x2 x2 = some .eq) :
    Ct l Z (⟨"com/example/trunkwright/trunkwright/planning/OfficeBusiestPinLaw", "ok", "([DII)Z"⟩ : MethodName) method_3_code 3 (some .boolean) ws ({ frames := 0, cells := 0, slots := 0, locals := 0 } : Room) #[.ref a1, .int (2 : Int32), .int (2 : Int32)] h0 (fun v h L => v = some (.int 1) ∧ Fr n0 L ∧ h = h0) := by
  refine Ct.intro pn_1 #[.val (.ref a1), .val (.int (2 : Int32)), .val (.int (2 : Int32))] (fun _ => by first | (simp [entryFrame, mkF, argsToLocals, Value.category, maxLocals]; done) | rfl) ?_
  intro p e s m below meth c T0 X0 hx hZ hby hml hown hnm hret hlk e0
  have N0 := Fr.nil n0
  refine s_iloadN X0 hx (hb hby d1_0) rfl 1 rfl ?_
  refine s_aloadN X0 hx (hb hby d1_1) rfl rfl 2 rfl ?_
  refine s_len X0 hx hZ e0 A1 (hb hby d1_2) (4 : Int32) rfl 3 rfl ?_
  refine s_icmpY X0 hx (hb hby d1_3) (by decide) 8 (by decide) (by decide) ?_
  refine s_iloadN X0 hx (hb hby d1_8) rfl 9 rfl ?_
  refine s_iloadN X0 hx (hb hby d1_9) rfl 10 rfl ?_
  refine s_icmpY X0 hx (hb hby d1_10) (by decide) 29 (by decide) (by decide) ?_
  refine s_aloadN X0 hx (hb hby d1_29) rfl rfl 30 rfl ?_
  refine s_iloadN X0 hx (hb hby d1_30) rfl 31 rfl ?_
  refine s_daload X0 hx hZ e0 A1 (hb hby d1_31) (j := (2 : Int32)) 2 (by decide) (.double x2) rfl 32 rfl ?_
  refine s_aloadN X0 hx (hb hby d1_32) rfl rfl 33 rfl ?_
  refine s_iloadN X0 hx (hb hby d1_33) rfl 34 rfl ?_
  refine s_daload X0 hx hZ e0 A1 (hb hby d1_34) (j := (2 : Int32)) 2 (by decide) (.double x2) rfl 35 rfl ?_
  refine s_dcmp X0 hx (hb hby d1_35) (cmpValue (FP.dcmp x2 x2) .g) rfl 36 rfl ?_
  refine s_ifN X0 hx (hb hby d1_36) (dd_gt_f hc) 39 rfl ?_
  refine s_iconst X0 hx (hb hby d1_39) (1 : Int32) rfl 40 rfl ?_
  refine s_goto X0 hx (hb hby d1_40) 44 (by decide) (by decide) ?_
  exact retZ X0 hx hlk hret (hb hby d1_44) (by decide) e0 ⟨rfl, N0, rfl⟩ (by decide) (by decide)
set_option maxRecDepth 65536 in
set_option maxHeartbeats 40000000 in
theorem rm_ok423 (l : Launch) (Z : State) (a0 : Array Value) (hw : ∀ d ∈ tables_1, d.before a0 Z = true) (ws : List Jvm.Cond) (a1 : Addr) (k1 : ClassId) (x0 x1 x2 x3 : UInt64) (h0 : Heap) (n0 : Nat) (Z0 : n0 ≤ h0.size) (A1 : AR Z h0 a1 k1 .double [.double x0, .double x1, .double x2, .double x3]) (hc : FP.dcmp x3 x2 = some .lt ∨ FP.dcmp x3 x2 = some .eq) :
    Ct l Z (⟨"com/example/trunkwright/trunkwright/planning/OfficeBusiestPinLaw", "ok", "([DII)Z"⟩ : MethodName) method_3_code 3 (some .boolean) ws ({ frames := 0, cells := 0, slots := 0, locals := 0 } : Room) #[.ref a1, .int (2 : Int32), .int (3 : Int32)] h0 (fun v h L => v = some (.int 1) ∧ Fr n0 L ∧ h = h0) := by
  refine Ct.intro pn_1 #[.val (.ref a1), .val (.int (2 : Int32)), .val (.int (3 : Int32))] (fun _ => by first | (simp [entryFrame, mkF, argsToLocals, Value.category, maxLocals]; done) | rfl) ?_
  intro p e s m below meth c T0 X0 hx hZ hby hml hown hnm hret hlk e0
  have N0 := Fr.nil n0
  refine s_iloadN X0 hx (hb hby d1_0) rfl 1 rfl ?_
  refine s_aloadN X0 hx (hb hby d1_1) rfl rfl 2 rfl ?_
  refine s_len X0 hx hZ e0 A1 (hb hby d1_2) (4 : Int32) rfl 3 rfl ?_
  refine s_icmpY X0 hx (hb hby d1_3) (by decide) 8 (by decide) (by decide) ?_
  refine s_iloadN X0 hx (hb hby d1_8) rfl 9 rfl ?_
  refine s_iloadN X0 hx (hb hby d1_9) rfl 10 rfl ?_
  refine s_icmpY X0 hx (hb hby d1_10) (by decide) 29 (by decide) (by decide) ?_
  refine s_aloadN X0 hx (hb hby d1_29) rfl rfl 30 rfl ?_
  refine s_iloadN X0 hx (hb hby d1_30) rfl 31 rfl ?_
  refine s_daload X0 hx hZ e0 A1 (hb hby d1_31) (j := (3 : Int32)) 3 (by decide) (.double x3) rfl 32 rfl ?_
  refine s_aloadN X0 hx (hb hby d1_32) rfl rfl 33 rfl ?_
  refine s_iloadN X0 hx (hb hby d1_33) rfl 34 rfl ?_
  refine s_daload X0 hx hZ e0 A1 (hb hby d1_34) (j := (2 : Int32)) 2 (by decide) (.double x2) rfl 35 rfl ?_
  refine s_dcmp X0 hx (hb hby d1_35) (cmpValue (FP.dcmp x3 x2) .g) rfl 36 rfl ?_
  refine s_ifN X0 hx (hb hby d1_36) (dd_gt_f hc) 39 rfl ?_
  refine s_iconst X0 hx (hb hby d1_39) (1 : Int32) rfl 40 rfl ?_
  refine s_goto X0 hx (hb hby d1_40) 44 (by decide) (by decide) ?_
  exact retZ X0 hx hlk hret (hb hby d1_44) (by decide) e0 ⟨rfl, N0, rfl⟩ (by decide) (by decide)
set_option maxRecDepth 65536 in
set_option maxHeartbeats 40000000 in
theorem rm_ok430 (l : Launch) (Z : State) (a0 : Array Value) (hw : ∀ d ∈ tables_1, d.before a0 Z = true) (ws : List Jvm.Cond) (a1 : Addr) (k1 : ClassId) (x0 x1 x2 x3 : UInt64) (h0 : Heap) (n0 : Nat) (Z0 : n0 ≤ h0.size) (A1 : AR Z h0 a1 k1 .double [.double x0, .double x1, .double x2, .double x3]) (hc : FP.dcmp x0 x3 = some .lt) :
    Ct l Z (⟨"com/example/trunkwright/trunkwright/planning/OfficeBusiestPinLaw", "ok", "([DII)Z"⟩ : MethodName) method_3_code 3 (some .boolean) ws ({ frames := 0, cells := 0, slots := 0, locals := 0 } : Room) #[.ref a1, .int (3 : Int32), .int (0 : Int32)] h0 (fun v h L => v = some (.int 1) ∧ Fr n0 L ∧ h = h0) := by
  refine Ct.intro pn_1 #[.val (.ref a1), .val (.int (3 : Int32)), .val (.int (0 : Int32))] (fun _ => by first | (simp [entryFrame, mkF, argsToLocals, Value.category, maxLocals]; done) | rfl) ?_
  intro p e s m below meth c T0 X0 hx hZ hby hml hown hnm hret hlk e0
  have N0 := Fr.nil n0
  refine s_iloadN X0 hx (hb hby d1_0) rfl 1 rfl ?_
  refine s_aloadN X0 hx (hb hby d1_1) rfl rfl 2 rfl ?_
  refine s_len X0 hx hZ e0 A1 (hb hby d1_2) (4 : Int32) rfl 3 rfl ?_
  refine s_icmpY X0 hx (hb hby d1_3) (by decide) 8 (by decide) (by decide) ?_
  refine s_iloadN X0 hx (hb hby d1_8) rfl 9 rfl ?_
  refine s_iloadN X0 hx (hb hby d1_9) rfl 10 rfl ?_
  refine s_icmpN X0 hx (hb hby d1_10) (by decide) 13 rfl ?_
  refine s_aloadN X0 hx (hb hby d1_13) rfl rfl 14 rfl ?_
  refine s_iloadN X0 hx (hb hby d1_14) rfl 15 rfl ?_
  refine s_daload X0 hx hZ e0 A1 (hb hby d1_15) (j := (0 : Int32)) 0 (by decide) (.double x0) rfl 16 rfl ?_
  refine s_aloadN X0 hx (hb hby d1_16) rfl rfl 17 rfl ?_
  refine s_iloadN X0 hx (hb hby d1_17) rfl 18 rfl ?_
  refine s_daload X0 hx hZ e0 A1 (hb hby d1_18) (j := (3 : Int32)) 3 (by decide) (.double x3) rfl 19 rfl ?_
  refine s_dcmp X0 hx (hb hby d1_19) (cmpValue (FP.dcmp x0 x3) .g) rfl 20 rfl ?_
  refine s_ifN X0 hx (hb hby d1_20) (dd_ge_f hc) 23 rfl ?_
  refine s_iconst X0 hx (hb hby d1_23) (1 : Int32) rfl 24 rfl ?_
  refine s_goto X0 hx (hb hby d1_24) 28 (by decide) (by decide) ?_
  exact retZ X0 hx hlk hret (hb hby d1_28) (by decide) e0 ⟨rfl, N0, rfl⟩ (by decide) (by decide)
set_option maxRecDepth 65536 in
set_option maxHeartbeats 40000000 in
theorem rm_ok431 (l : Launch) (Z : State) (a0 : Array Value) (hw : ∀ d ∈ tables_1, d.before a0 Z = true) (ws : List Jvm.Cond) (a1 : Addr) (k1 : ClassId) (x0 x1 x2 x3 : UInt64) (h0 : Heap) (n0 : Nat) (Z0 : n0 ≤ h0.size) (A1 : AR Z h0 a1 k1 .double [.double x0, .double x1, .double x2, .double x3]) (hc : FP.dcmp x1 x3 = some .lt) :
    Ct l Z (⟨"com/example/trunkwright/trunkwright/planning/OfficeBusiestPinLaw", "ok", "([DII)Z"⟩ : MethodName) method_3_code 3 (some .boolean) ws ({ frames := 0, cells := 0, slots := 0, locals := 0 } : Room) #[.ref a1, .int (3 : Int32), .int (1 : Int32)] h0 (fun v h L => v = some (.int 1) ∧ Fr n0 L ∧ h = h0) := by
  refine Ct.intro pn_1 #[.val (.ref a1), .val (.int (3 : Int32)), .val (.int (1 : Int32))] (fun _ => by first | (simp [entryFrame, mkF, argsToLocals, Value.category, maxLocals]; done) | rfl) ?_
  intro p e s m below meth c T0 X0 hx hZ hby hml hown hnm hret hlk e0
  have N0 := Fr.nil n0
  refine s_iloadN X0 hx (hb hby d1_0) rfl 1 rfl ?_
  refine s_aloadN X0 hx (hb hby d1_1) rfl rfl 2 rfl ?_
  refine s_len X0 hx hZ e0 A1 (hb hby d1_2) (4 : Int32) rfl 3 rfl ?_
  refine s_icmpY X0 hx (hb hby d1_3) (by decide) 8 (by decide) (by decide) ?_
  refine s_iloadN X0 hx (hb hby d1_8) rfl 9 rfl ?_
  refine s_iloadN X0 hx (hb hby d1_9) rfl 10 rfl ?_
  refine s_icmpN X0 hx (hb hby d1_10) (by decide) 13 rfl ?_
  refine s_aloadN X0 hx (hb hby d1_13) rfl rfl 14 rfl ?_
  refine s_iloadN X0 hx (hb hby d1_14) rfl 15 rfl ?_
  refine s_daload X0 hx hZ e0 A1 (hb hby d1_15) (j := (1 : Int32)) 1 (by decide) (.double x1) rfl 16 rfl ?_
  refine s_aloadN X0 hx (hb hby d1_16) rfl rfl 17 rfl ?_
  refine s_iloadN X0 hx (hb hby d1_17) rfl 18 rfl ?_
  refine s_daload X0 hx hZ e0 A1 (hb hby d1_18) (j := (3 : Int32)) 3 (by decide) (.double x3) rfl 19 rfl ?_
  refine s_dcmp X0 hx (hb hby d1_19) (cmpValue (FP.dcmp x1 x3) .g) rfl 20 rfl ?_
  refine s_ifN X0 hx (hb hby d1_20) (dd_ge_f hc) 23 rfl ?_
  refine s_iconst X0 hx (hb hby d1_23) (1 : Int32) rfl 24 rfl ?_
  refine s_goto X0 hx (hb hby d1_24) 28 (by decide) (by decide) ?_
  exact retZ X0 hx hlk hret (hb hby d1_28) (by decide) e0 ⟨rfl, N0, rfl⟩ (by decide) (by decide)
set_option maxRecDepth 65536 in
set_option maxHeartbeats 40000000 in
theorem rm_ok432 (l : Launch) (Z : State) (a0 : Array Value) (hw : ∀ d ∈ tables_1, d.before a0 Z = true) (ws : List Jvm.Cond) (a1 : Addr) (k1 : ClassId) (x0 x1 x2 x3 : UInt64) (h0 : Heap) (n0 : Nat) (Z0 : n0 ≤ h0.size) (A1 : AR Z h0 a1 k1 .double [.double x0, .double x1, .double x2, .double x3]) (hc : FP.dcmp x2 x3 = some .lt) :
    Ct l Z (⟨"com/example/trunkwright/trunkwright/planning/OfficeBusiestPinLaw", "ok", "([DII)Z"⟩ : MethodName) method_3_code 3 (some .boolean) ws ({ frames := 0, cells := 0, slots := 0, locals := 0 } : Room) #[.ref a1, .int (3 : Int32), .int (2 : Int32)] h0 (fun v h L => v = some (.int 1) ∧ Fr n0 L ∧ h = h0) := by
  refine Ct.intro pn_1 #[.val (.ref a1), .val (.int (3 : Int32)), .val (.int (2 : Int32))] (fun _ => by first | (simp [entryFrame, mkF, argsToLocals, Value.category, maxLocals]; done) | rfl) ?_
  intro p e s m below meth c T0 X0 hx hZ hby hml hown hnm hret hlk e0
  have N0 := Fr.nil n0
  refine s_iloadN X0 hx (hb hby d1_0) rfl 1 rfl ?_
  refine s_aloadN X0 hx (hb hby d1_1) rfl rfl 2 rfl ?_
  refine s_len X0 hx hZ e0 A1 (hb hby d1_2) (4 : Int32) rfl 3 rfl ?_
  refine s_icmpY X0 hx (hb hby d1_3) (by decide) 8 (by decide) (by decide) ?_
  refine s_iloadN X0 hx (hb hby d1_8) rfl 9 rfl ?_
  refine s_iloadN X0 hx (hb hby d1_9) rfl 10 rfl ?_
  refine s_icmpN X0 hx (hb hby d1_10) (by decide) 13 rfl ?_
  refine s_aloadN X0 hx (hb hby d1_13) rfl rfl 14 rfl ?_
  refine s_iloadN X0 hx (hb hby d1_14) rfl 15 rfl ?_
  refine s_daload X0 hx hZ e0 A1 (hb hby d1_15) (j := (2 : Int32)) 2 (by decide) (.double x2) rfl 16 rfl ?_
  refine s_aloadN X0 hx (hb hby d1_16) rfl rfl 17 rfl ?_
  refine s_iloadN X0 hx (hb hby d1_17) rfl 18 rfl ?_
  refine s_daload X0 hx hZ e0 A1 (hb hby d1_18) (j := (3 : Int32)) 3 (by decide) (.double x3) rfl 19 rfl ?_
  refine s_dcmp X0 hx (hb hby d1_19) (cmpValue (FP.dcmp x2 x3) .g) rfl 20 rfl ?_
  refine s_ifN X0 hx (hb hby d1_20) (dd_ge_f hc) 23 rfl ?_
  refine s_iconst X0 hx (hb hby d1_23) (1 : Int32) rfl 24 rfl ?_
  refine s_goto X0 hx (hb hby d1_24) 28 (by decide) (by decide) ?_
  exact retZ X0 hx hlk hret (hb hby d1_28) (by decide) e0 ⟨rfl, N0, rfl⟩ (by decide) (by decide)
set_option maxRecDepth 65536 in
set_option maxHeartbeats 40000000 in
theorem rm_ok433 (l : Launch) (Z : State) (a0 : Array Value) (hw : ∀ d ∈ tables_1, d.before a0 Z = true) (ws : List Jvm.Cond) (a1 : Addr) (k1 : ClassId) (x0 x1 x2 x3 : UInt64) (h0 : Heap) (n0 : Nat) (Z0 : n0 ≤ h0.size) (A1 : AR Z h0 a1 k1 .double [.double x0, .double x1, .double x2, .double x3]) (hc : FP.dcmp x3 x3 = some .lt ∨ FP.dcmp x3 x3 = some .eq) :
    Ct l Z (⟨"com/example/trunkwright/trunkwright/planning/OfficeBusiestPinLaw", "ok", "([DII)Z"⟩ : MethodName) method_3_code 3 (some .boolean) ws ({ frames := 0, cells := 0, slots := 0, locals := 0 } : Room) #[.ref a1, .int (3 : Int32), .int (3 : Int32)] h0 (fun v h L => v = some (.int 1) ∧ Fr n0 L ∧ h = h0) := by
  refine Ct.intro pn_1 #[.val (.ref a1), .val (.int (3 : Int32)), .val (.int (3 : Int32))] (fun _ => by first | (simp [entryFrame, mkF, argsToLocals, Value.category, maxLocals]; done) | rfl) ?_
  intro p e s m below meth c T0 X0 hx hZ hby hml hown hnm hret hlk e0
  have N0 := Fr.nil n0
  refine s_iloadN X0 hx (hb hby d1_0) rfl 1 rfl ?_
  refine s_aloadN X0 hx (hb hby d1_1) rfl rfl 2 rfl ?_
  refine s_len X0 hx hZ e0 A1 (hb hby d1_2) (4 : Int32) rfl 3 rfl ?_
  refine s_icmpY X0 hx (hb hby d1_3) (by decide) 8 (by decide) (by decide) ?_
  refine s_iloadN X0 hx (hb hby d1_8) rfl 9 rfl ?_
  refine s_iloadN X0 hx (hb hby d1_9) rfl 10 rfl ?_
  refine s_icmpY X0 hx (hb hby d1_10) (by decide) 29 (by decide) (by decide) ?_
  refine s_aloadN X0 hx (hb hby d1_29) rfl rfl 30 rfl ?_
  refine s_iloadN X0 hx (hb hby d1_30) rfl 31 rfl ?_
  refine s_daload X0 hx hZ e0 A1 (hb hby d1_31) (j := (3 : Int32)) 3 (by decide) (.double x3) rfl 32 rfl ?_
  refine s_aloadN X0 hx (hb hby d1_32) rfl rfl 33 rfl ?_
  refine s_iloadN X0 hx (hb hby d1_33) rfl 34 rfl ?_
  refine s_daload X0 hx hZ e0 A1 (hb hby d1_34) (j := (3 : Int32)) 3 (by decide) (.double x3) rfl 35 rfl ?_
  refine s_dcmp X0 hx (hb hby d1_35) (cmpValue (FP.dcmp x3 x3) .g) rfl 36 rfl ?_
  refine s_ifN X0 hx (hb hby d1_36) (dd_gt_f hc) 39 rfl ?_
  refine s_iconst X0 hx (hb hby d1_39) (1 : Int32) rfl 40 rfl ?_
  refine s_goto X0 hx (hb hby d1_40) 44 (by decide) (by decide) ?_
  exact retZ X0 hx hlk hret (hb hby d1_44) (by decide) e0 ⟨rfl, N0, rfl⟩ (by decide) (by decide)
set_option maxRecDepth 65536 in
set_option maxHeartbeats 40000000 in
theorem rm_law (l : Launch) (Z : State) (a0 : Array Value) (hw : ∀ d ∈ tables_1, d.before a0 Z = true) (ws : List Jvm.Cond) (i0 i1 i2 i3 i4 : Int32) (h0 : Heap) (n0 : Nat) (Z0 : n0 ≤ h0.size)  :
    Ct l Z x code maxLocals ret ws room_1 #[.int i0, .int i1, .int i2, .int i3, .int i4] h0 (fun v h L => v = some (.int 1) ∧ Fr n0 L) := by
  refine Ct.intro pn_law #[.val (.int i0), .val (.int i1), .val (.int i2), .val (.int i3), .val (.int i4), .unset, .unset, .unset, .unset, .unset, .unset, .unset, .unset, .unset, .unset, .unset] (fun _ => by first | (simp [entryFrame, mkF, argsToLocals, Value.category, maxLocals]; done) | rfl) ?_
  intro p e s m below meth c T0 X0 hx hZ hby hml hown hnm hret hlk e0
  have N0 := Fr.nil n0
  refine s_iload X0 hx (hb hby at_0) rfl 2 rfl ?_
  refine s_iconst X0 hx (hb hby at_2) (3 : Int32) rfl 3 rfl ?_
  refine s_iand X0 hx (hb hby at_3) (i4 &&& (3 : Int32)) rfl 4 rfl ?_
  refine s_iconst X0 hx (hb hby at_4) (1 : Int32) rfl 5 rfl ?_
  refine s_iadd X0 hx (hb hby at_5) ((i4 &&& (3 : Int32)) + (1 : Int32)) rfl 6 rfl ?_
  refine s_istore X0 hx (hb hby at_6) #[.val (.int i0), .val (.int i1), .val (.int i2), .val (.int i3), .val (.int i4), .val (.int ((i4 &&& (3 : Int32)) + (1 : Int32))), .unset, .unset, .unset, .unset, .unset, .unset, .unset, .unset, .unset, .unset] rfl 8 rfl ?_
  refine s_iloadN X0 hx (hb hby at_8) rfl 9 rfl ?_
  refine s_i2d X0 hx (hb hby at_9) (FP.i2d i0) rfl 10 rfl ?_
  refine s_dstore X0 hx (hb hby at_10) #[.val (.int i0), .val (.int i1), .val (.int i2), .val (.int i3), .val (.int i4), .val (.int ((i4 &&& (3 : Int32)) + (1 : Int32))), .val (.double (FP.i2d i0)), .second, .unset, .unset, .unset, .unset, .unset, .unset, .unset, .unset] rfl 12 rfl ?_
  refine s_iloadN X0 hx (hb hby at_12) rfl 13 rfl ?_
  refine s_i2d X0 hx (hb hby at_13) (FP.i2d i1) rfl 14 rfl ?_
  refine s_dstore X0 hx (hb hby at_14) #[.val (.int i0), .val (.int i1), .val (.int i2), .val (.int i3), .val (.int i4), .val (.int ((i4 &&& (3 : Int32)) + (1 : Int32))), .val (.double (FP.i2d i0)), .second, .val (.double (FP.i2d i1)), .second, .unset, .unset, .unset, .unset, .unset, .unset] rfl 16 rfl ?_
  refine s_iloadN X0 hx (hb hby at_16) rfl 17 rfl ?_
  refine s_i2d X0 hx (hb hby at_17) (FP.i2d i2) rfl 18 rfl ?_
  refine s_dstore X0 hx (hb hby at_18) #[.val (.int i0), .val (.int i1), .val (.int i2), .val (.int i3), .val (.int i4), .val (.int ((i4 &&& (3 : Int32)) + (1 : Int32))), .val (.double (FP.i2d i0)), .second, .val (.double (FP.i2d i1)), .second, .val (.double (FP.i2d i2)), .second, .unset, .unset, .unset, .unset] rfl 20 rfl ?_
  refine s_iloadN X0 hx (hb hby at_20) rfl 21 rfl ?_
  refine s_i2d X0 hx (hb hby at_21) (FP.i2d i3) rfl 22 rfl ?_
  refine s_dstore X0 hx (hb hby at_22) #[.val (.int i0), .val (.int i1), .val (.int i2), .val (.int i3), .val (.int i4), .val (.int ((i4 &&& (3 : Int32)) + (1 : Int32))), .val (.double (FP.i2d i0)), .second, .val (.double (FP.i2d i1)), .second, .val (.double (FP.i2d i2)), .second, .val (.double (FP.i2d i3)), .second, .unset, .unset] rfl 24 rfl ?_
  refine s_iload X0 hx (hb hby at_24) rfl 26 rfl ?_
  refine s_iconst X0 hx (hb hby at_26) (1 : Int32) rfl 27 rfl ?_
  by_cases hn0 : ((i4 &&& (3 : Int32)) + (1 : Int32)) = (1 : Int32)
  · skip
    refine s_icmpN X0 hx (hb hby at_27) (XT.ii_ne_f hn0) 30 rfl ?_
    refine s_iconst X0 hx (hb hby at_30) (1 : Int32) rfl 31 rfl ?_
    obtain ⟨T1, h1, c1, X1, e1, E1, A1, st1⟩ := s_newarray X0 hx hZ (aty := .double) (wd hw 0 _ rfl) e0 (hb hby at_31) #[.val (.int i0), .val (.int i1), .val (.int i2), .val (.int i3), .val (.int i4), .val (.int ((i4 &&& (3 : Int32)) + (1 : Int32))), .val (.double (FP.i2d i0)), .second, .val (.double (FP.i2d i1)), .second, .val (.double (FP.i2d i2)), .second, .val (.double (FP.i2d i3)), .second, .unset, .unset] [] (n := (1 : Int32)) 1 (by decide) [.double (0 : UInt64)] rfl (by decide) (by decide) (by decide) 33 rfl
    obtain ⟨a1, g1⟩ : ∃ z, z = h0.size := ⟨_, rfl⟩
    rw [← g1] at A1 st1
    have q2 : n0 ≤ a1 := by rw [g1]; exact Z0
    have Z3 := Nat.le_trans Z0 E1.1
    refine Go.via st1 ?_
    refine s_dup X1 hx (hb hby at_33) rfl 34 rfl ?_
    refine s_iconst X1 hx (hb hby at_34) (0 : Int32) rfl 35 rfl ?_
    refine s_dload X1 hx (hb hby at_35) rfl 37 rfl ?_
    obtain ⟨T4, h4, X4, e4, W4, A4, st4⟩ := s_dastore X1 hx hZ e1 A1 (hb hby at_37) #[.val (.int i0), .val (.int i1), .val (.int i2), .val (.int i3), .val (.int i4), .val (.int ((i4 &&& (3 : Int32)) + (1 : Int32))), .val (.double (FP.i2d i0)), .second, .val (.double (FP.i2d i1)), .second, .val (.double (FP.i2d i2)), .second, .val (.double (FP.i2d i3)), .second, .unset, .unset] [.ref a1] (j := (0 : Int32)) 0 (by decide) (by show 0 < 1; decide) (FP.i2d i0) [.double (FP.i2d i0)] rfl 38 rfl
    have N4 := Fr.snoc X4 N0 q2
    have Z5 : n0 ≤ h4.size := by rw [W4.size]; exact Z3
    refine Go.via st4 ?_
    refine s_astore X4 hx (hb hby at_38) rfl #[.val (.int i0), .val (.int i1), .val (.int i2), .val (.int i3), .val (.int i4), .val (.int ((i4 &&& (3 : Int32)) + (1 : Int32))), .val (.double (FP.i2d i0)), .second, .val (.double (FP.i2d i1)), .second, .val (.double (FP.i2d i2)), .second, .val (.double (FP.i2d i3)), .second, .val (.ref a1), .unset] rfl 40 rfl ?_
    refine s_goto X4 hx (hb hby at_40) 121 (by decide) (by decide) ?_
    refine s_aload X4 hx (hb hby at_121) rfl rfl 123 rfl ?_
    obtain ⟨v6, T6, L6, X6, hQ6, st6⟩ := callStat X4 hx hZ hown (wd hw 1 _ rfl) (wd hw 2 _ rfl) (wd hw 3 _ rfl) (wd hw 4 _ rfl) (by decide) (rm_busy1 l Z a0 hw [] a1 c1 (FP.i2d i0) i0.toInt h4 n0 Z5 A4 (dy_i2d i0)) e4 (L := #[.val (.int i0), .val (.int i1), .val (.int i2), .val (.int i3), .val (.int i4), .val (.int ((i4 &&& (3 : Int32)) + (1 : Int32))), .val (.double (FP.i2d i0)), .second, .val (.double (FP.i2d i1)), .second, .val (.double (FP.i2d i2)), .second, .val (.double (FP.i2d i3)), .second, .val (.ref a1), .unset]) (hb hby at_123) (by rw [hml]; rfl) [.ref a1] [] rfl rfl pd_0 rfl 0 (by show 2 * 0 + _ ≤ _; exact Nat.le_of_eq rfl) (by decide) (by decide) (by decide) (by decide)
    obtain ⟨N6, hh6, hor6⟩ := hQ6
    have M6 := Fr.app N4 N6
    rcases hor6 with rfl
    · skip
      refine Go.via st6 ?_
      show Go p e below _ (T6.setTop (mkF m 126 #[.val (.int i0), .val (.int i1), .val (.int i2), .val (.int i3), .val (.int i4), .val (.int ((i4 &&& (3 : Int32)) + (1 : Int32))), .val (.double (FP.i2d i0)), .second, .val (.double (FP.i2d i1)), .second, .val (.double (FP.i2d i2)), .second, .val (.double (FP.i2d i3)), .second, .val (.ref a1), .unset] [.int (0 : Int32)]))
      refine s_istore X6 hx (hb hby at_126) #[.val (.int i0), .val (.int i1), .val (.int i2), .val (.int i3), .val (.int i4), .val (.int ((i4 &&& (3 : Int32)) + (1 : Int32))), .val (.double (FP.i2d i0)), .second, .val (.double (FP.i2d i1)), .second, .val (.double (FP.i2d i2)), .second, .val (.double (FP.i2d i3)), .second, .val (.ref a1), .val (.int (0 : Int32))] rfl 128 rfl ?_
      refine s_iload X6 hx (hb hby at_128) rfl 130 rfl ?_
      refine s_ifN X6 hx (hb hby at_130) (by decide) 133 rfl ?_
      refine s_iload X6 hx (hb hby at_133) rfl 135 rfl ?_
      refine s_aload X6 hx (hb hby at_135) rfl rfl 137 rfl ?_
      refine s_len X6 hx hZ hh6 A4 (hb hby at_137) (1 : Int32) rfl 138 rfl ?_
      refine s_icmpY X6 hx (hb hby at_138) (by decide) 143 (by decide) (by decide) ?_
      refine s_aload X6 hx (hb hby at_143) rfl rfl 145 rfl ?_
      refine s_iload X6 hx (hb hby at_145) rfl 147 rfl ?_
      refine s_iconst X6 hx (hb hby at_147) (0 : Int32) rfl 148 rfl ?_
      obtain ⟨v7, T7, L7, X7, hQ7, st7⟩ := callStat X6 hx hZ hown (wd hw 5 _ rfl) (wd hw 6 _ rfl) (wd hw 7 _ rfl) (wd hw 8 _ rfl) (by decide) (rm_ok100 l Z a0 hw [] a1 c1 (FP.i2d i0) h4 n0 Z5 A4 (own_le (dy_i2d i0) (dy_i2d i0) (Int.le_refl _))) hh6 (L := #[.val (.int i0), .val (.int i1), .val (.int i2), .val (.int i3), .val (.int i4), .val (.int ((i4 &&& (3 : Int32)) + (1 : Int32))), .val (.double (FP.i2d i0)), .second, .val (.double (FP.i2d i1)), .second, .val (.double (FP.i2d i2)), .second, .val (.double (FP.i2d i3)), .second, .val (.ref a1), .val (.int (0 : Int32))]) (hb hby at_148) (by rw [hml]; rfl) [.ref a1, .int (0 : Int32), .int (0 : Int32)] [] rfl rfl pd_1 rfl 0 (by show 2 * 0 + _ ≤ _; exact Nat.le_of_eq rfl) (by decide) (by decide) (by decide) (by decide)
      obtain ⟨rfl, N7, hh7⟩ := hQ7
      have M7 := Fr.app M6 N7
      refine Go.via st7 ?_
      show Go p e below _ (T7.setTop (mkF m 151 #[.val (.int i0), .val (.int i1), .val (.int i2), .val (.int i3), .val (.int i4), .val (.int ((i4 &&& (3 : Int32)) + (1 : Int32))), .val (.double (FP.i2d i0)), .second, .val (.double (FP.i2d i1)), .second, .val (.double (FP.i2d i2)), .second, .val (.double (FP.i2d i3)), .second, .val (.ref a1), .val (.int (0 : Int32))] [.int (1 : Int32)]))
      refine s_ifN X7 hx (hb hby at_151) (by decide) 154 rfl ?_
      refine s_aload X7 hx (hb hby at_154) rfl rfl 156 rfl ?_
      refine s_iload X7 hx (hb hby at_156) rfl 158 rfl ?_
      refine s_iconst X7 hx (hb hby at_158) (1 : Int32) rfl 159 rfl ?_
      obtain ⟨v8, T8, L8, X8, hQ8, st8⟩ := callStat X7 hx hZ hown (wd hw 5 _ rfl) (wd hw 6 _ rfl) (wd hw 7 _ rfl) (wd hw 8 _ rfl) (by decide) (rm_ok101 l Z a0 hw [] a1 c1 (FP.i2d i0) h4 n0 Z5 A4 ) hh7 (L := #[.val (.int i0), .val (.int i1), .val (.int i2), .val (.int i3), .val (.int i4), .val (.int ((i4 &&& (3 : Int32)) + (1 : Int32))), .val (.double (FP.i2d i0)), .second, .val (.double (FP.i2d i1)), .second, .val (.double (FP.i2d i2)), .second, .val (.double (FP.i2d i3)), .second, .val (.ref a1), .val (.int (0 : Int32))]) (hb hby at_159) (by rw [hml]; rfl) [.ref a1, .int (0 : Int32), .int (1 : Int32)] [] rfl rfl pd_1 rfl 0 (by show 2 * 0 + _ ≤ _; exact Nat.le_of_eq rfl) (by decide) (by decide) (by decide) (by decide)
      obtain ⟨rfl, N8, hh8⟩ := hQ8
      have M8 := Fr.app M7 N8
      refine Go.via st8 ?_
      show Go p e below _ (T8.setTop (mkF m 162 #[.val (.int i0), .val (.int i1), .val (.int i2), .val (.int i3), .val (.int i4), .val (.int ((i4 &&& (3 : Int32)) + (1 : Int32))), .val (.double (FP.i2d i0)), .second, .val (.double (FP.i2d i1)), .second, .val (.double (FP.i2d i2)), .second, .val (.double (FP.i2d i3)), .second, .val (.ref a1), .val (.int (0 : Int32))] [.int (1 : Int32)]))
      refine s_ifN X8 hx (hb hby at_162) (by decide) 165 rfl ?_
      refine s_aload X8 hx (hb hby at_165) rfl rfl 167 rfl ?_
      refine s_iload X8 hx (hb hby at_167) rfl 169 rfl ?_
      refine s_iconst X8 hx (hb hby at_169) (2 : Int32) rfl 170 rfl ?_
      obtain ⟨v9, T9, L9, X9, hQ9, st9⟩ := callStat X8 hx hZ hown (wd hw 5 _ rfl) (wd hw 6 _ rfl) (wd hw 7 _ rfl) (wd hw 8 _ rfl) (by decide) (rm_ok102 l Z a0 hw [] a1 c1 (FP.i2d i0) h4 n0 Z5 A4 ) hh8 (L := #[.val (.int i0), .val (.int i1), .val (.int i2), .val (.int i3), .val (.int i4), .val (.int ((i4 &&& (3 : Int32)) + (1 : Int32))), .val (.double (FP.i2d i0)), .second, .val (.double (FP.i2d i1)), .second, .val (.double (FP.i2d i2)), .second, .val (.double (FP.i2d i3)), .second, .val (.ref a1), .val (.int (0 : Int32))]) (hb hby at_170) (by rw [hml]; rfl) [.ref a1, .int (0 : Int32), .int (2 : Int32)] [] rfl rfl pd_1 rfl 0 (by show 2 * 0 + _ ≤ _; exact Nat.le_of_eq rfl) (by decide) (by decide) (by decide) (by decide)
      obtain ⟨rfl, N9, hh9⟩ := hQ9
      have M9 := Fr.app M8 N9
      refine Go.via st9 ?_
      show Go p e below _ (T9.setTop (mkF m 173 #[.val (.int i0), .val (.int i1), .val (.int i2), .val (.int i3), .val (.int i4), .val (.int ((i4 &&& (3 : Int32)) + (1 : Int32))), .val (.double (FP.i2d i0)), .second, .val (.double (FP.i2d i1)), .second, .val (.double (FP.i2d i2)), .second, .val (.double (FP.i2d i3)), .second, .val (.ref a1), .val (.int (0 : Int32))] [.int (1 : Int32)]))
      refine s_ifN X9 hx (hb hby at_173) (by decide) 176 rfl ?_
      refine s_aload X9 hx (hb hby at_176) rfl rfl 178 rfl ?_
      refine s_iload X9 hx (hb hby at_178) rfl 180 rfl ?_
      refine s_iconst X9 hx (hb hby at_180) (3 : Int32) rfl 181 rfl ?_
      obtain ⟨v10, T10, L10, X10, hQ10, st10⟩ := callStat X9 hx hZ hown (wd hw 5 _ rfl) (wd hw 6 _ rfl) (wd hw 7 _ rfl) (wd hw 8 _ rfl) (by decide) (rm_ok103 l Z a0 hw [] a1 c1 (FP.i2d i0) h4 n0 Z5 A4 ) hh9 (L := #[.val (.int i0), .val (.int i1), .val (.int i2), .val (.int i3), .val (.int i4), .val (.int ((i4 &&& (3 : Int32)) + (1 : Int32))), .val (.double (FP.i2d i0)), .second, .val (.double (FP.i2d i1)), .second, .val (.double (FP.i2d i2)), .second, .val (.double (FP.i2d i3)), .second, .val (.ref a1), .val (.int (0 : Int32))]) (hb hby at_181) (by rw [hml]; rfl) [.ref a1, .int (0 : Int32), .int (3 : Int32)] [] rfl rfl pd_1 rfl 0 (by show 2 * 0 + _ ≤ _; exact Nat.le_of_eq rfl) (by decide) (by decide) (by decide) (by decide)
      obtain ⟨rfl, N10, hh10⟩ := hQ10
      have M10 := Fr.app M9 N10
      refine Go.via st10 ?_
      show Go p e below _ (T10.setTop (mkF m 184 #[.val (.int i0), .val (.int i1), .val (.int i2), .val (.int i3), .val (.int i4), .val (.int ((i4 &&& (3 : Int32)) + (1 : Int32))), .val (.double (FP.i2d i0)), .second, .val (.double (FP.i2d i1)), .second, .val (.double (FP.i2d i2)), .second, .val (.double (FP.i2d i3)), .second, .val (.ref a1), .val (.int (0 : Int32))] [.int (1 : Int32)]))
      refine s_ifN X10 hx (hb hby at_184) (by decide) 187 rfl ?_
      refine s_iconst X10 hx (hb hby at_187) (1 : Int32) rfl 188 rfl ?_
      refine s_goto X10 hx (hb hby at_188) 192 (by decide) (by decide) ?_
      exact retZ X10 hx hlk hret (hb hby at_192) (by decide) hh10 ⟨rfl, M10⟩ (by decide) (by decide)
  · skip
    refine s_icmpY X0 hx (hb hby at_27) (XT.ii_ne_t hn0) 43 (by decide) (by decide) ?_
    refine s_iload X0 hx (hb hby at_43) rfl 45 rfl ?_
    refine s_iconst X0 hx (hb hby at_45) (2 : Int32) rfl 46 rfl ?_
    by_cases hn1 : ((i4 &&& (3 : Int32)) + (1 : Int32)) = (2 : Int32)
    · skip
      refine s_icmpN X0 hx (hb hby at_46) (XT.ii_ne_f hn1) 49 rfl ?_
      refine s_iconst X0 hx (hb hby at_49) (2 : Int32) rfl 50 rfl ?_
      obtain ⟨T11, h11, c11, X11, e11, E11, A11, st11⟩ := s_newarray X0 hx hZ (aty := .double) (wd hw 0 _ rfl) e0 (hb hby at_50) #[.val (.int i0), .val (.int i1), .val (.int i2), .val (.int i3), .val (.int i4), .val (.int ((i4 &&& (3 : Int32)) + (1 : Int32))), .val (.double (FP.i2d i0)), .second, .val (.double (FP.i2d i1)), .second, .val (.double (FP.i2d i2)), .second, .val (.double (FP.i2d i3)), .second, .unset, .unset] [] (n := (2 : Int32)) 2 (by decide) [.double (0 : UInt64), .double (0 : UInt64)] rfl (by decide) (by decide) (by decide) 52 rfl
      obtain ⟨a11, g11⟩ : ∃ z, z = h0.size := ⟨_, rfl⟩
      rw [← g11] at A11 st11
      have q12 : n0 ≤ a11 := by rw [g11]; exact Z0
      have Z13 := Nat.le_trans Z0 E11.1
      refine Go.via st11 ?_
      refine s_dup X11 hx (hb hby at_52) rfl 53 rfl ?_
      refine s_iconst X11 hx (hb hby at_53) (0 : Int32) rfl 54 rfl ?_
      refine s_dload X11 hx (hb hby at_54) rfl 56 rfl ?_
      obtain ⟨T14, h14, X14, e14, W14, A14, st14⟩ := s_dastore X11 hx hZ e11 A11 (hb hby at_56) #[.val (.int i0), .val (.int i1), .val (.int i2), .val (.int i3), .val (.int i4), .val (.int ((i4 &&& (3 : Int32)) + (1 : Int32))), .val (.double (FP.i2d i0)), .second, .val (.double (FP.i2d i1)), .second, .val (.double (FP.i2d i2)), .second, .val (.double (FP.i2d i3)), .second, .unset, .unset] [.ref a11] (j := (0 : Int32)) 0 (by decide) (by show 0 < 2; decide) (FP.i2d i0) [.double (FP.i2d i0), .double (0 : UInt64)] rfl 57 rfl
      have N14 := Fr.snoc X14 N0 q12
      have Z15 : n0 ≤ h14.size := by rw [W14.size]; exact Z13
      refine Go.via st14 ?_
      refine s_dup X14 hx (hb hby at_57) rfl 58 rfl ?_
      refine s_iconst X14 hx (hb hby at_58) (1 : Int32) rfl 59 rfl ?_
      refine s_dload X14 hx (hb hby at_59) rfl 61 rfl ?_
      obtain ⟨T16, h16, X16, e16, W16, A16, st16⟩ := s_dastore X14 hx hZ e14 A14 (hb hby at_61) #[.val (.int i0), .val (.int i1), .val (.int i2), .val (.int i3), .val (.int i4), .val (.int ((i4 &&& (3 : Int32)) + (1 : Int32))), .val (.double (FP.i2d i0)), .second, .val (.double (FP.i2d i1)), .second, .val (.double (FP.i2d i2)), .second, .val (.double (FP.i2d i3)), .second, .unset, .unset] [.ref a11] (j := (1 : Int32)) 1 (by decide) (by show 1 < 2; decide) (FP.i2d i1) [.double (FP.i2d i0), .double (FP.i2d i1)] rfl 62 rfl
      have N16 := Fr.snoc X16 N14 q12
      have Z17 : n0 ≤ h16.size := by rw [W16.size]; exact Z15
      refine Go.via st16 ?_
      refine s_astore X16 hx (hb hby at_62) rfl #[.val (.int i0), .val (.int i1), .val (.int i2), .val (.int i3), .val (.int i4), .val (.int ((i4 &&& (3 : Int32)) + (1 : Int32))), .val (.double (FP.i2d i0)), .second, .val (.double (FP.i2d i1)), .second, .val (.double (FP.i2d i2)), .second, .val (.double (FP.i2d i3)), .second, .val (.ref a11), .unset] rfl 64 rfl ?_
      refine s_goto X16 hx (hb hby at_64) 121 (by decide) (by decide) ?_
      refine s_aload X16 hx (hb hby at_121) rfl rfl 123 rfl ?_
      obtain ⟨v18, T18, L18, X18, hQ18, st18⟩ := callStat X16 hx hZ hown (wd hw 1 _ rfl) (wd hw 2 _ rfl) (wd hw 3 _ rfl) (wd hw 4 _ rfl) (by decide) (rm_busy2 l Z a0 hw [] a11 c11 (FP.i2d i0) (FP.i2d i1) i0.toInt i1.toInt h16 n0 Z17 A16 (dy_i2d i0) (dy_i2d i1)) e16 (L := #[.val (.int i0), .val (.int i1), .val (.int i2), .val (.int i3), .val (.int i4), .val (.int ((i4 &&& (3 : Int32)) + (1 : Int32))), .val (.double (FP.i2d i0)), .second, .val (.double (FP.i2d i1)), .second, .val (.double (FP.i2d i2)), .second, .val (.double (FP.i2d i3)), .second, .val (.ref a11), .unset]) (hb hby at_123) (by rw [hml]; rfl) [.ref a11] [] rfl rfl pd_0 rfl 0 (by show 2 * 0 + _ ≤ _; exact Nat.le_of_eq rfl) (by decide) (by decide) (by decide) (by decide)
      obtain ⟨N18, hh18, hor18⟩ := hQ18
      have M18 := Fr.app N16 N18
      rcases hor18 with ⟨rfl, hp1⟩ | ⟨rfl, hp0⟩
      · skip
        refine Go.via st18 ?_
        show Go p e below _ (T18.setTop (mkF m 126 #[.val (.int i0), .val (.int i1), .val (.int i2), .val (.int i3), .val (.int i4), .val (.int ((i4 &&& (3 : Int32)) + (1 : Int32))), .val (.double (FP.i2d i0)), .second, .val (.double (FP.i2d i1)), .second, .val (.double (FP.i2d i2)), .second, .val (.double (FP.i2d i3)), .second, .val (.ref a11), .unset] [.int (0 : Int32)]))
        refine s_istore X18 hx (hb hby at_126) #[.val (.int i0), .val (.int i1), .val (.int i2), .val (.int i3), .val (.int i4), .val (.int ((i4 &&& (3 : Int32)) + (1 : Int32))), .val (.double (FP.i2d i0)), .second, .val (.double (FP.i2d i1)), .second, .val (.double (FP.i2d i2)), .second, .val (.double (FP.i2d i3)), .second, .val (.ref a11), .val (.int (0 : Int32))] rfl 128 rfl ?_
        refine s_iload X18 hx (hb hby at_128) rfl 130 rfl ?_
        refine s_ifN X18 hx (hb hby at_130) (by decide) 133 rfl ?_
        refine s_iload X18 hx (hb hby at_133) rfl 135 rfl ?_
        refine s_aload X18 hx (hb hby at_135) rfl rfl 137 rfl ?_
        refine s_len X18 hx hZ hh18 A16 (hb hby at_137) (2 : Int32) rfl 138 rfl ?_
        refine s_icmpY X18 hx (hb hby at_138) (by decide) 143 (by decide) (by decide) ?_
        refine s_aload X18 hx (hb hby at_143) rfl rfl 145 rfl ?_
        refine s_iload X18 hx (hb hby at_145) rfl 147 rfl ?_
        refine s_iconst X18 hx (hb hby at_147) (0 : Int32) rfl 148 rfl ?_
        obtain ⟨v19, T19, L19, X19, hQ19, st19⟩ := callStat X18 hx hZ hown (wd hw 5 _ rfl) (wd hw 6 _ rfl) (wd hw 7 _ rfl) (wd hw 8 _ rfl) (by decide) (rm_ok200 l Z a0 hw [] a11 c11 (FP.i2d i0) (FP.i2d i1) h16 n0 Z17 A16 (own_le (dy_i2d i0) (dy_i2d i0) (Int.le_refl _))) hh18 (L := #[.val (.int i0), .val (.int i1), .val (.int i2), .val (.int i3), .val (.int i4), .val (.int ((i4 &&& (3 : Int32)) + (1 : Int32))), .val (.double (FP.i2d i0)), .second, .val (.double (FP.i2d i1)), .second, .val (.double (FP.i2d i2)), .second, .val (.double (FP.i2d i3)), .second, .val (.ref a11), .val (.int (0 : Int32))]) (hb hby at_148) (by rw [hml]; rfl) [.ref a11, .int (0 : Int32), .int (0 : Int32)] [] rfl rfl pd_1 rfl 0 (by show 2 * 0 + _ ≤ _; exact Nat.le_of_eq rfl) (by decide) (by decide) (by decide) (by decide)
        obtain ⟨rfl, N19, hh19⟩ := hQ19
        have M19 := Fr.app M18 N19
        refine Go.via st19 ?_
        show Go p e below _ (T19.setTop (mkF m 151 #[.val (.int i0), .val (.int i1), .val (.int i2), .val (.int i3), .val (.int i4), .val (.int ((i4 &&& (3 : Int32)) + (1 : Int32))), .val (.double (FP.i2d i0)), .second, .val (.double (FP.i2d i1)), .second, .val (.double (FP.i2d i2)), .second, .val (.double (FP.i2d i3)), .second, .val (.ref a11), .val (.int (0 : Int32))] [.int (1 : Int32)]))
        refine s_ifN X19 hx (hb hby at_151) (by decide) 154 rfl ?_
        refine s_aload X19 hx (hb hby at_154) rfl rfl 156 rfl ?_
        refine s_iload X19 hx (hb hby at_156) rfl 158 rfl ?_
        refine s_iconst X19 hx (hb hby at_158) (1 : Int32) rfl 159 rfl ?_
        obtain ⟨v20, T20, L20, X20, hQ20, st20⟩ := callStat X19 hx hZ hown (wd hw 5 _ rfl) (wd hw 6 _ rfl) (wd hw 7 _ rfl) (wd hw 8 _ rfl) (by decide) (rm_ok201 l Z a0 hw [] a11 c11 (FP.i2d i0) (FP.i2d i1) h16 n0 Z17 A16 (own_le (dy_i2d i1) (dy_i2d i0) hp1)) hh19 (L := #[.val (.int i0), .val (.int i1), .val (.int i2), .val (.int i3), .val (.int i4), .val (.int ((i4 &&& (3 : Int32)) + (1 : Int32))), .val (.double (FP.i2d i0)), .second, .val (.double (FP.i2d i1)), .second, .val (.double (FP.i2d i2)), .second, .val (.double (FP.i2d i3)), .second, .val (.ref a11), .val (.int (0 : Int32))]) (hb hby at_159) (by rw [hml]; rfl) [.ref a11, .int (0 : Int32), .int (1 : Int32)] [] rfl rfl pd_1 rfl 0 (by show 2 * 0 + _ ≤ _; exact Nat.le_of_eq rfl) (by decide) (by decide) (by decide) (by decide)
        obtain ⟨rfl, N20, hh20⟩ := hQ20
        have M20 := Fr.app M19 N20
        refine Go.via st20 ?_
        show Go p e below _ (T20.setTop (mkF m 162 #[.val (.int i0), .val (.int i1), .val (.int i2), .val (.int i3), .val (.int i4), .val (.int ((i4 &&& (3 : Int32)) + (1 : Int32))), .val (.double (FP.i2d i0)), .second, .val (.double (FP.i2d i1)), .second, .val (.double (FP.i2d i2)), .second, .val (.double (FP.i2d i3)), .second, .val (.ref a11), .val (.int (0 : Int32))] [.int (1 : Int32)]))
        refine s_ifN X20 hx (hb hby at_162) (by decide) 165 rfl ?_
        refine s_aload X20 hx (hb hby at_165) rfl rfl 167 rfl ?_
        refine s_iload X20 hx (hb hby at_167) rfl 169 rfl ?_
        refine s_iconst X20 hx (hb hby at_169) (2 : Int32) rfl 170 rfl ?_
        obtain ⟨v21, T21, L21, X21, hQ21, st21⟩ := callStat X20 hx hZ hown (wd hw 5 _ rfl) (wd hw 6 _ rfl) (wd hw 7 _ rfl) (wd hw 8 _ rfl) (by decide) (rm_ok202 l Z a0 hw [] a11 c11 (FP.i2d i0) (FP.i2d i1) h16 n0 Z17 A16 ) hh20 (L := #[.val (.int i0), .val (.int i1), .val (.int i2), .val (.int i3), .val (.int i4), .val (.int ((i4 &&& (3 : Int32)) + (1 : Int32))), .val (.double (FP.i2d i0)), .second, .val (.double (FP.i2d i1)), .second, .val (.double (FP.i2d i2)), .second, .val (.double (FP.i2d i3)), .second, .val (.ref a11), .val (.int (0 : Int32))]) (hb hby at_170) (by rw [hml]; rfl) [.ref a11, .int (0 : Int32), .int (2 : Int32)] [] rfl rfl pd_1 rfl 0 (by show 2 * 0 + _ ≤ _; exact Nat.le_of_eq rfl) (by decide) (by decide) (by decide) (by decide)
        obtain ⟨rfl, N21, hh21⟩ := hQ21
        have M21 := Fr.app M20 N21
        refine Go.via st21 ?_
        show Go p e below _ (T21.setTop (mkF m 173 #[.val (.int i0), .val (.int i1), .val (.int i2), .val (.int i3), .val (.int i4), .val (.int ((i4 &&& (3 : Int32)) + (1 : Int32))), .val (.double (FP.i2d i0)), .second, .val (.double (FP.i2d i1)), .second, .val (.double (FP.i2d i2)), .second, .val (.double (FP.i2d i3)), .second, .val (.ref a11), .val (.int (0 : Int32))] [.int (1 : Int32)]))
        refine s_ifN X21 hx (hb hby at_173) (by decide) 176 rfl ?_
        refine s_aload X21 hx (hb hby at_176) rfl rfl 178 rfl ?_
        refine s_iload X21 hx (hb hby at_178) rfl 180 rfl ?_
        refine s_iconst X21 hx (hb hby at_180) (3 : Int32) rfl 181 rfl ?_
        obtain ⟨v22, T22, L22, X22, hQ22, st22⟩ := callStat X21 hx hZ hown (wd hw 5 _ rfl) (wd hw 6 _ rfl) (wd hw 7 _ rfl) (wd hw 8 _ rfl) (by decide) (rm_ok203 l Z a0 hw [] a11 c11 (FP.i2d i0) (FP.i2d i1) h16 n0 Z17 A16 ) hh21 (L := #[.val (.int i0), .val (.int i1), .val (.int i2), .val (.int i3), .val (.int i4), .val (.int ((i4 &&& (3 : Int32)) + (1 : Int32))), .val (.double (FP.i2d i0)), .second, .val (.double (FP.i2d i1)), .second, .val (.double (FP.i2d i2)), .second, .val (.double (FP.i2d i3)), .second, .val (.ref a11), .val (.int (0 : Int32))]) (hb hby at_181) (by rw [hml]; rfl) [.ref a11, .int (0 : Int32), .int (3 : Int32)] [] rfl rfl pd_1 rfl 0 (by show 2 * 0 + _ ≤ _; exact Nat.le_of_eq rfl) (by decide) (by decide) (by decide) (by decide)
        obtain ⟨rfl, N22, hh22⟩ := hQ22
        have M22 := Fr.app M21 N22
        refine Go.via st22 ?_
        show Go p e below _ (T22.setTop (mkF m 184 #[.val (.int i0), .val (.int i1), .val (.int i2), .val (.int i3), .val (.int i4), .val (.int ((i4 &&& (3 : Int32)) + (1 : Int32))), .val (.double (FP.i2d i0)), .second, .val (.double (FP.i2d i1)), .second, .val (.double (FP.i2d i2)), .second, .val (.double (FP.i2d i3)), .second, .val (.ref a11), .val (.int (0 : Int32))] [.int (1 : Int32)]))
        refine s_ifN X22 hx (hb hby at_184) (by decide) 187 rfl ?_
        refine s_iconst X22 hx (hb hby at_187) (1 : Int32) rfl 188 rfl ?_
        refine s_goto X22 hx (hb hby at_188) 192 (by decide) (by decide) ?_
        exact retZ X22 hx hlk hret (hb hby at_192) (by decide) hh22 ⟨rfl, M22⟩ (by decide) (by decide)
      · skip
        refine Go.via st18 ?_
        show Go p e below _ (T18.setTop (mkF m 126 #[.val (.int i0), .val (.int i1), .val (.int i2), .val (.int i3), .val (.int i4), .val (.int ((i4 &&& (3 : Int32)) + (1 : Int32))), .val (.double (FP.i2d i0)), .second, .val (.double (FP.i2d i1)), .second, .val (.double (FP.i2d i2)), .second, .val (.double (FP.i2d i3)), .second, .val (.ref a11), .unset] [.int (1 : Int32)]))
        refine s_istore X18 hx (hb hby at_126) #[.val (.int i0), .val (.int i1), .val (.int i2), .val (.int i3), .val (.int i4), .val (.int ((i4 &&& (3 : Int32)) + (1 : Int32))), .val (.double (FP.i2d i0)), .second, .val (.double (FP.i2d i1)), .second, .val (.double (FP.i2d i2)), .second, .val (.double (FP.i2d i3)), .second, .val (.ref a11), .val (.int (1 : Int32))] rfl 128 rfl ?_
        refine s_iload X18 hx (hb hby at_128) rfl 130 rfl ?_
        refine s_ifN X18 hx (hb hby at_130) (by decide) 133 rfl ?_
        refine s_iload X18 hx (hb hby at_133) rfl 135 rfl ?_
        refine s_aload X18 hx (hb hby at_135) rfl rfl 137 rfl ?_
        refine s_len X18 hx hZ hh18 A16 (hb hby at_137) (2 : Int32) rfl 138 rfl ?_
        refine s_icmpY X18 hx (hb hby at_138) (by decide) 143 (by decide) (by decide) ?_
        refine s_aload X18 hx (hb hby at_143) rfl rfl 145 rfl ?_
        refine s_iload X18 hx (hb hby at_145) rfl 147 rfl ?_
        refine s_iconst X18 hx (hb hby at_147) (0 : Int32) rfl 148 rfl ?_
        obtain ⟨v23, T23, L23, X23, hQ23, st23⟩ := callStat X18 hx hZ hown (wd hw 5 _ rfl) (wd hw 6 _ rfl) (wd hw 7 _ rfl) (wd hw 8 _ rfl) (by decide) (rm_ok210 l Z a0 hw [] a11 c11 (FP.i2d i0) (FP.i2d i1) h16 n0 Z17 A16 (dy_lt (dy_i2d i0) (dy_i2d i1) hp0)) hh18 (L := #[.val (.int i0), .val (.int i1), .val (.int i2), .val (.int i3), .val (.int i4), .val (.int ((i4 &&& (3 : Int32)) + (1 : Int32))), .val (.double (FP.i2d i0)), .second, .val (.double (FP.i2d i1)), .second, .val (.double (FP.i2d i2)), .second, .val (.double (FP.i2d i3)), .second, .val (.ref a11), .val (.int (1 : Int32))]) (hb hby at_148) (by rw [hml]; rfl) [.ref a11, .int (1 : Int32), .int (0 : Int32)] [] rfl rfl pd_1 rfl 0 (by show 2 * 0 + _ ≤ _; exact Nat.le_of_eq rfl) (by decide) (by decide) (by decide) (by decide)
        obtain ⟨rfl, N23, hh23⟩ := hQ23
        have M23 := Fr.app M18 N23
        refine Go.via st23 ?_
        show Go p e below _ (T23.setTop (mkF m 151 #[.val (.int i0), .val (.int i1), .val (.int i2), .val (.int i3), .val (.int i4), .val (.int ((i4 &&& (3 : Int32)) + (1 : Int32))), .val (.double (FP.i2d i0)), .second, .val (.double (FP.i2d i1)), .second, .val (.double (FP.i2d i2)), .second, .val (.double (FP.i2d i3)), .second, .val (.ref a11), .val (.int (1 : Int32))] [.int (1 : Int32)]))
        refine s_ifN X23 hx (hb hby at_151) (by decide) 154 rfl ?_
        refine s_aload X23 hx (hb hby at_154) rfl rfl 156 rfl ?_
        refine s_iload X23 hx (hb hby at_156) rfl 158 rfl ?_
        refine s_iconst X23 hx (hb hby at_158) (1 : Int32) rfl 159 rfl ?_
        obtain ⟨v24, T24, L24, X24, hQ24, st24⟩ := callStat X23 hx hZ hown (wd hw 5 _ rfl) (wd hw 6 _ rfl) (wd hw 7 _ rfl) (wd hw 8 _ rfl) (by decide) (rm_ok211 l Z a0 hw [] a11 c11 (FP.i2d i0) (FP.i2d i1) h16 n0 Z17 A16 (own_le (dy_i2d i1) (dy_i2d i1) (Int.le_refl _))) hh23 (L := #[.val (.int i0), .val (.int i1), .val (.int i2), .val (.int i3), .val (.int i4), .val (.int ((i4 &&& (3 : Int32)) + (1 : Int32))), .val (.double (FP.i2d i0)), .second, .val (.double (FP.i2d i1)), .second, .val (.double (FP.i2d i2)), .second, .val (.double (FP.i2d i3)), .second, .val (.ref a11), .val (.int (1 : Int32))]) (hb hby at_159) (by rw [hml]; rfl) [.ref a11, .int (1 : Int32), .int (1 : Int32)] [] rfl rfl pd_1 rfl 0 (by show 2 * 0 + _ ≤ _; exact Nat.le_of_eq rfl) (by decide) (by decide) (by decide) (by decide)
        obtain ⟨rfl, N24, hh24⟩ := hQ24
        have M24 := Fr.app M23 N24
        refine Go.via st24 ?_
        show Go p e below _ (T24.setTop (mkF m 162 #[.val (.int i0), .val (.int i1), .val (.int i2), .val (.int i3), .val (.int i4), .val (.int ((i4 &&& (3 : Int32)) + (1 : Int32))), .val (.double (FP.i2d i0)), .second, .val (.double (FP.i2d i1)), .second, .val (.double (FP.i2d i2)), .second, .val (.double (FP.i2d i3)), .second, .val (.ref a11), .val (.int (1 : Int32))] [.int (1 : Int32)]))
        refine s_ifN X24 hx (hb hby at_162) (by decide) 165 rfl ?_
        refine s_aload X24 hx (hb hby at_165) rfl rfl 167 rfl ?_
        refine s_iload X24 hx (hb hby at_167) rfl 169 rfl ?_
        refine s_iconst X24 hx (hb hby at_169) (2 : Int32) rfl 170 rfl ?_
        obtain ⟨v25, T25, L25, X25, hQ25, st25⟩ := callStat X24 hx hZ hown (wd hw 5 _ rfl) (wd hw 6 _ rfl) (wd hw 7 _ rfl) (wd hw 8 _ rfl) (by decide) (rm_ok212 l Z a0 hw [] a11 c11 (FP.i2d i0) (FP.i2d i1) h16 n0 Z17 A16 ) hh24 (L := #[.val (.int i0), .val (.int i1), .val (.int i2), .val (.int i3), .val (.int i4), .val (.int ((i4 &&& (3 : Int32)) + (1 : Int32))), .val (.double (FP.i2d i0)), .second, .val (.double (FP.i2d i1)), .second, .val (.double (FP.i2d i2)), .second, .val (.double (FP.i2d i3)), .second, .val (.ref a11), .val (.int (1 : Int32))]) (hb hby at_170) (by rw [hml]; rfl) [.ref a11, .int (1 : Int32), .int (2 : Int32)] [] rfl rfl pd_1 rfl 0 (by show 2 * 0 + _ ≤ _; exact Nat.le_of_eq rfl) (by decide) (by decide) (by decide) (by decide)
        obtain ⟨rfl, N25, hh25⟩ := hQ25
        have M25 := Fr.app M24 N25
        refine Go.via st25 ?_
        show Go p e below _ (T25.setTop (mkF m 173 #[.val (.int i0), .val (.int i1), .val (.int i2), .val (.int i3), .val (.int i4), .val (.int ((i4 &&& (3 : Int32)) + (1 : Int32))), .val (.double (FP.i2d i0)), .second, .val (.double (FP.i2d i1)), .second, .val (.double (FP.i2d i2)), .second, .val (.double (FP.i2d i3)), .second, .val (.ref a11), .val (.int (1 : Int32))] [.int (1 : Int32)]))
        refine s_ifN X25 hx (hb hby at_173) (by decide) 176 rfl ?_
        refine s_aload X25 hx (hb hby at_176) rfl rfl 178 rfl ?_
        refine s_iload X25 hx (hb hby at_178) rfl 180 rfl ?_
        refine s_iconst X25 hx (hb hby at_180) (3 : Int32) rfl 181 rfl ?_
        obtain ⟨v26, T26, L26, X26, hQ26, st26⟩ := callStat X25 hx hZ hown (wd hw 5 _ rfl) (wd hw 6 _ rfl) (wd hw 7 _ rfl) (wd hw 8 _ rfl) (by decide) (rm_ok213 l Z a0 hw [] a11 c11 (FP.i2d i0) (FP.i2d i1) h16 n0 Z17 A16 ) hh25 (L := #[.val (.int i0), .val (.int i1), .val (.int i2), .val (.int i3), .val (.int i4), .val (.int ((i4 &&& (3 : Int32)) + (1 : Int32))), .val (.double (FP.i2d i0)), .second, .val (.double (FP.i2d i1)), .second, .val (.double (FP.i2d i2)), .second, .val (.double (FP.i2d i3)), .second, .val (.ref a11), .val (.int (1 : Int32))]) (hb hby at_181) (by rw [hml]; rfl) [.ref a11, .int (1 : Int32), .int (3 : Int32)] [] rfl rfl pd_1 rfl 0 (by show 2 * 0 + _ ≤ _; exact Nat.le_of_eq rfl) (by decide) (by decide) (by decide) (by decide)
        obtain ⟨rfl, N26, hh26⟩ := hQ26
        have M26 := Fr.app M25 N26
        refine Go.via st26 ?_
        show Go p e below _ (T26.setTop (mkF m 184 #[.val (.int i0), .val (.int i1), .val (.int i2), .val (.int i3), .val (.int i4), .val (.int ((i4 &&& (3 : Int32)) + (1 : Int32))), .val (.double (FP.i2d i0)), .second, .val (.double (FP.i2d i1)), .second, .val (.double (FP.i2d i2)), .second, .val (.double (FP.i2d i3)), .second, .val (.ref a11), .val (.int (1 : Int32))] [.int (1 : Int32)]))
        refine s_ifN X26 hx (hb hby at_184) (by decide) 187 rfl ?_
        refine s_iconst X26 hx (hb hby at_187) (1 : Int32) rfl 188 rfl ?_
        refine s_goto X26 hx (hb hby at_188) 192 (by decide) (by decide) ?_
        exact retZ X26 hx hlk hret (hb hby at_192) (by decide) hh26 ⟨rfl, M26⟩ (by decide) (by decide)
    · skip
      refine s_icmpY X0 hx (hb hby at_46) (XT.ii_ne_t hn1) 67 (by decide) (by decide) ?_
      refine s_iload X0 hx (hb hby at_67) rfl 69 rfl ?_
      refine s_iconst X0 hx (hb hby at_69) (3 : Int32) rfl 70 rfl ?_
      by_cases hn2 : ((i4 &&& (3 : Int32)) + (1 : Int32)) = (3 : Int32)
      · skip
        refine s_icmpN X0 hx (hb hby at_70) (XT.ii_ne_f hn2) 73 rfl ?_
        refine s_iconst X0 hx (hb hby at_73) (3 : Int32) rfl 74 rfl ?_
        obtain ⟨T27, h27, c27, X27, e27, E27, A27, st27⟩ := s_newarray X0 hx hZ (aty := .double) (wd hw 0 _ rfl) e0 (hb hby at_74) #[.val (.int i0), .val (.int i1), .val (.int i2), .val (.int i3), .val (.int i4), .val (.int ((i4 &&& (3 : Int32)) + (1 : Int32))), .val (.double (FP.i2d i0)), .second, .val (.double (FP.i2d i1)), .second, .val (.double (FP.i2d i2)), .second, .val (.double (FP.i2d i3)), .second, .unset, .unset] [] (n := (3 : Int32)) 3 (by decide) [.double (0 : UInt64), .double (0 : UInt64), .double (0 : UInt64)] rfl (by decide) (by decide) (by decide) 76 rfl
        obtain ⟨a27, g27⟩ : ∃ z, z = h0.size := ⟨_, rfl⟩
        rw [← g27] at A27 st27
        have q28 : n0 ≤ a27 := by rw [g27]; exact Z0
        have Z29 := Nat.le_trans Z0 E27.1
        refine Go.via st27 ?_
        refine s_dup X27 hx (hb hby at_76) rfl 77 rfl ?_
        refine s_iconst X27 hx (hb hby at_77) (0 : Int32) rfl 78 rfl ?_
        refine s_dload X27 hx (hb hby at_78) rfl 80 rfl ?_
        obtain ⟨T30, h30, X30, e30, W30, A30, st30⟩ := s_dastore X27 hx hZ e27 A27 (hb hby at_80) #[.val (.int i0), .val (.int i1), .val (.int i2), .val (.int i3), .val (.int i4), .val (.int ((i4 &&& (3 : Int32)) + (1 : Int32))), .val (.double (FP.i2d i0)), .second, .val (.double (FP.i2d i1)), .second, .val (.double (FP.i2d i2)), .second, .val (.double (FP.i2d i3)), .second, .unset, .unset] [.ref a27] (j := (0 : Int32)) 0 (by decide) (by show 0 < 3; decide) (FP.i2d i0) [.double (FP.i2d i0), .double (0 : UInt64), .double (0 : UInt64)] rfl 81 rfl
        have N30 := Fr.snoc X30 N0 q28
        have Z31 : n0 ≤ h30.size := by rw [W30.size]; exact Z29
        refine Go.via st30 ?_
        refine s_dup X30 hx (hb hby at_81) rfl 82 rfl ?_
        refine s_iconst X30 hx (hb hby at_82) (1 : Int32) rfl 83 rfl ?_
        refine s_dload X30 hx (hb hby at_83) rfl 85 rfl ?_
        obtain ⟨T32, h32, X32, e32, W32, A32, st32⟩ := s_dastore X30 hx hZ e30 A30 (hb hby at_85) #[.val (.int i0), .val (.int i1), .val (.int i2), .val (.int i3), .val (.int i4), .val (.int ((i4 &&& (3 : Int32)) + (1 : Int32))), .val (.double (FP.i2d i0)), .second, .val (.double (FP.i2d i1)), .second, .val (.double (FP.i2d i2)), .second, .val (.double (FP.i2d i3)), .second, .unset, .unset] [.ref a27] (j := (1 : Int32)) 1 (by decide) (by show 1 < 3; decide) (FP.i2d i1) [.double (FP.i2d i0), .double (FP.i2d i1), .double (0 : UInt64)] rfl 86 rfl
        have N32 := Fr.snoc X32 N30 q28
        have Z33 : n0 ≤ h32.size := by rw [W32.size]; exact Z31
        refine Go.via st32 ?_
        refine s_dup X32 hx (hb hby at_86) rfl 87 rfl ?_
        refine s_iconst X32 hx (hb hby at_87) (2 : Int32) rfl 88 rfl ?_
        refine s_dload X32 hx (hb hby at_88) rfl 90 rfl ?_
        obtain ⟨T34, h34, X34, e34, W34, A34, st34⟩ := s_dastore X32 hx hZ e32 A32 (hb hby at_90) #[.val (.int i0), .val (.int i1), .val (.int i2), .val (.int i3), .val (.int i4), .val (.int ((i4 &&& (3 : Int32)) + (1 : Int32))), .val (.double (FP.i2d i0)), .second, .val (.double (FP.i2d i1)), .second, .val (.double (FP.i2d i2)), .second, .val (.double (FP.i2d i3)), .second, .unset, .unset] [.ref a27] (j := (2 : Int32)) 2 (by decide) (by show 2 < 3; decide) (FP.i2d i2) [.double (FP.i2d i0), .double (FP.i2d i1), .double (FP.i2d i2)] rfl 91 rfl
        have N34 := Fr.snoc X34 N32 q28
        have Z35 : n0 ≤ h34.size := by rw [W34.size]; exact Z33
        refine Go.via st34 ?_
        refine s_astore X34 hx (hb hby at_91) rfl #[.val (.int i0), .val (.int i1), .val (.int i2), .val (.int i3), .val (.int i4), .val (.int ((i4 &&& (3 : Int32)) + (1 : Int32))), .val (.double (FP.i2d i0)), .second, .val (.double (FP.i2d i1)), .second, .val (.double (FP.i2d i2)), .second, .val (.double (FP.i2d i3)), .second, .val (.ref a27), .unset] rfl 93 rfl ?_
        refine s_goto X34 hx (hb hby at_93) 121 (by decide) (by decide) ?_
        refine s_aload X34 hx (hb hby at_121) rfl rfl 123 rfl ?_
        obtain ⟨v36, T36, L36, X36, hQ36, st36⟩ := callStat X34 hx hZ hown (wd hw 1 _ rfl) (wd hw 2 _ rfl) (wd hw 3 _ rfl) (wd hw 4 _ rfl) (by decide) (rm_busy3 l Z a0 hw [] a27 c27 (FP.i2d i0) (FP.i2d i1) (FP.i2d i2) i0.toInt i1.toInt i2.toInt h34 n0 Z35 A34 (dy_i2d i0) (dy_i2d i1) (dy_i2d i2)) e34 (L := #[.val (.int i0), .val (.int i1), .val (.int i2), .val (.int i3), .val (.int i4), .val (.int ((i4 &&& (3 : Int32)) + (1 : Int32))), .val (.double (FP.i2d i0)), .second, .val (.double (FP.i2d i1)), .second, .val (.double (FP.i2d i2)), .second, .val (.double (FP.i2d i3)), .second, .val (.ref a27), .unset]) (hb hby at_123) (by rw [hml]; rfl) [.ref a27] [] rfl rfl pd_0 rfl 0 (by show 2 * 0 + _ ≤ _; exact Nat.le_of_eq rfl) (by decide) (by decide) (by decide) (by decide)
        obtain ⟨N36, hh36, hor36⟩ := hQ36
        have M36 := Fr.app N34 N36
        rcases hor36 with ⟨rfl, hp1, hp2⟩ | ⟨rfl, hp0, hp2⟩ | ⟨rfl, hp0, hp1⟩
        · skip
          refine Go.via st36 ?_
          show Go p e below _ (T36.setTop (mkF m 126 #[.val (.int i0), .val (.int i1), .val (.int i2), .val (.int i3), .val (.int i4), .val (.int ((i4 &&& (3 : Int32)) + (1 : Int32))), .val (.double (FP.i2d i0)), .second, .val (.double (FP.i2d i1)), .second, .val (.double (FP.i2d i2)), .second, .val (.double (FP.i2d i3)), .second, .val (.ref a27), .unset] [.int (0 : Int32)]))
          refine s_istore X36 hx (hb hby at_126) #[.val (.int i0), .val (.int i1), .val (.int i2), .val (.int i3), .val (.int i4), .val (.int ((i4 &&& (3 : Int32)) + (1 : Int32))), .val (.double (FP.i2d i0)), .second, .val (.double (FP.i2d i1)), .second, .val (.double (FP.i2d i2)), .second, .val (.double (FP.i2d i3)), .second, .val (.ref a27), .val (.int (0 : Int32))] rfl 128 rfl ?_
          refine s_iload X36 hx (hb hby at_128) rfl 130 rfl ?_
          refine s_ifN X36 hx (hb hby at_130) (by decide) 133 rfl ?_
          refine s_iload X36 hx (hb hby at_133) rfl 135 rfl ?_
          refine s_aload X36 hx (hb hby at_135) rfl rfl 137 rfl ?_
          refine s_len X36 hx hZ hh36 A34 (hb hby at_137) (3 : Int32) rfl 138 rfl ?_
          refine s_icmpY X36 hx (hb hby at_138) (by decide) 143 (by decide) (by decide) ?_
          refine s_aload X36 hx (hb hby at_143) rfl rfl 145 rfl ?_
          refine s_iload X36 hx (hb hby at_145) rfl 147 rfl ?_
          refine s_iconst X36 hx (hb hby at_147) (0 : Int32) rfl 148 rfl ?_
          obtain ⟨v37, T37, L37, X37, hQ37, st37⟩ := callStat X36 hx hZ hown (wd hw 5 _ rfl) (wd hw 6 _ rfl) (wd hw 7 _ rfl) (wd hw 8 _ rfl) (by decide) (rm_ok300 l Z a0 hw [] a27 c27 (FP.i2d i0) (FP.i2d i1) (FP.i2d i2) h34 n0 Z35 A34 (own_le (dy_i2d i0) (dy_i2d i0) (Int.le_refl _))) hh36 (L := #[.val (.int i0), .val (.int i1), .val (.int i2), .val (.int i3), .val (.int i4), .val (.int ((i4 &&& (3 : Int32)) + (1 : Int32))), .val (.double (FP.i2d i0)), .second, .val (.double (FP.i2d i1)), .second, .val (.double (FP.i2d i2)), .second, .val (.double (FP.i2d i3)), .second, .val (.ref a27), .val (.int (0 : Int32))]) (hb hby at_148) (by rw [hml]; rfl) [.ref a27, .int (0 : Int32), .int (0 : Int32)] [] rfl rfl pd_1 rfl 0 (by show 2 * 0 + _ ≤ _; exact Nat.le_of_eq rfl) (by decide) (by decide) (by decide) (by decide)
          obtain ⟨rfl, N37, hh37⟩ := hQ37
          have M37 := Fr.app M36 N37
          refine Go.via st37 ?_
          show Go p e below _ (T37.setTop (mkF m 151 #[.val (.int i0), .val (.int i1), .val (.int i2), .val (.int i3), .val (.int i4), .val (.int ((i4 &&& (3 : Int32)) + (1 : Int32))), .val (.double (FP.i2d i0)), .second, .val (.double (FP.i2d i1)), .second, .val (.double (FP.i2d i2)), .second, .val (.double (FP.i2d i3)), .second, .val (.ref a27), .val (.int (0 : Int32))] [.int (1 : Int32)]))
          refine s_ifN X37 hx (hb hby at_151) (by decide) 154 rfl ?_
          refine s_aload X37 hx (hb hby at_154) rfl rfl 156 rfl ?_
          refine s_iload X37 hx (hb hby at_156) rfl 158 rfl ?_
          refine s_iconst X37 hx (hb hby at_158) (1 : Int32) rfl 159 rfl ?_
          obtain ⟨v38, T38, L38, X38, hQ38, st38⟩ := callStat X37 hx hZ hown (wd hw 5 _ rfl) (wd hw 6 _ rfl) (wd hw 7 _ rfl) (wd hw 8 _ rfl) (by decide) (rm_ok301 l Z a0 hw [] a27 c27 (FP.i2d i0) (FP.i2d i1) (FP.i2d i2) h34 n0 Z35 A34 (own_le (dy_i2d i1) (dy_i2d i0) hp1)) hh37 (L := #[.val (.int i0), .val (.int i1), .val (.int i2), .val (.int i3), .val (.int i4), .val (.int ((i4 &&& (3 : Int32)) + (1 : Int32))), .val (.double (FP.i2d i0)), .second, .val (.double (FP.i2d i1)), .second, .val (.double (FP.i2d i2)), .second, .val (.double (FP.i2d i3)), .second, .val (.ref a27), .val (.int (0 : Int32))]) (hb hby at_159) (by rw [hml]; rfl) [.ref a27, .int (0 : Int32), .int (1 : Int32)] [] rfl rfl pd_1 rfl 0 (by show 2 * 0 + _ ≤ _; exact Nat.le_of_eq rfl) (by decide) (by decide) (by decide) (by decide)
          obtain ⟨rfl, N38, hh38⟩ := hQ38
          have M38 := Fr.app M37 N38
          refine Go.via st38 ?_
          show Go p e below _ (T38.setTop (mkF m 162 #[.val (.int i0), .val (.int i1), .val (.int i2), .val (.int i3), .val (.int i4), .val (.int ((i4 &&& (3 : Int32)) + (1 : Int32))), .val (.double (FP.i2d i0)), .second, .val (.double (FP.i2d i1)), .second, .val (.double (FP.i2d i2)), .second, .val (.double (FP.i2d i3)), .second, .val (.ref a27), .val (.int (0 : Int32))] [.int (1 : Int32)]))
          refine s_ifN X38 hx (hb hby at_162) (by decide) 165 rfl ?_
          refine s_aload X38 hx (hb hby at_165) rfl rfl 167 rfl ?_
          refine s_iload X38 hx (hb hby at_167) rfl 169 rfl ?_
          refine s_iconst X38 hx (hb hby at_169) (2 : Int32) rfl 170 rfl ?_
          obtain ⟨v39, T39, L39, X39, hQ39, st39⟩ := callStat X38 hx hZ hown (wd hw 5 _ rfl) (wd hw 6 _ rfl) (wd hw 7 _ rfl) (wd hw 8 _ rfl) (by decide) (rm_ok302 l Z a0 hw [] a27 c27 (FP.i2d i0) (FP.i2d i1) (FP.i2d i2) h34 n0 Z35 A34 (own_le (dy_i2d i2) (dy_i2d i0) hp2)) hh38 (L := #[.val (.int i0), .val (.int i1), .val (.int i2), .val (.int i3), .val (.int i4), .val (.int ((i4 &&& (3 : Int32)) + (1 : Int32))), .val (.double (FP.i2d i0)), .second, .val (.double (FP.i2d i1)), .second, .val (.double (FP.i2d i2)), .second, .val (.double (FP.i2d i3)), .second, .val (.ref a27), .val (.int (0 : Int32))]) (hb hby at_170) (by rw [hml]; rfl) [.ref a27, .int (0 : Int32), .int (2 : Int32)] [] rfl rfl pd_1 rfl 0 (by show 2 * 0 + _ ≤ _; exact Nat.le_of_eq rfl) (by decide) (by decide) (by decide) (by decide)
          obtain ⟨rfl, N39, hh39⟩ := hQ39
          have M39 := Fr.app M38 N39
          refine Go.via st39 ?_
          show Go p e below _ (T39.setTop (mkF m 173 #[.val (.int i0), .val (.int i1), .val (.int i2), .val (.int i3), .val (.int i4), .val (.int ((i4 &&& (3 : Int32)) + (1 : Int32))), .val (.double (FP.i2d i0)), .second, .val (.double (FP.i2d i1)), .second, .val (.double (FP.i2d i2)), .second, .val (.double (FP.i2d i3)), .second, .val (.ref a27), .val (.int (0 : Int32))] [.int (1 : Int32)]))
          refine s_ifN X39 hx (hb hby at_173) (by decide) 176 rfl ?_
          refine s_aload X39 hx (hb hby at_176) rfl rfl 178 rfl ?_
          refine s_iload X39 hx (hb hby at_178) rfl 180 rfl ?_
          refine s_iconst X39 hx (hb hby at_180) (3 : Int32) rfl 181 rfl ?_
          obtain ⟨v40, T40, L40, X40, hQ40, st40⟩ := callStat X39 hx hZ hown (wd hw 5 _ rfl) (wd hw 6 _ rfl) (wd hw 7 _ rfl) (wd hw 8 _ rfl) (by decide) (rm_ok303 l Z a0 hw [] a27 c27 (FP.i2d i0) (FP.i2d i1) (FP.i2d i2) h34 n0 Z35 A34 ) hh39 (L := #[.val (.int i0), .val (.int i1), .val (.int i2), .val (.int i3), .val (.int i4), .val (.int ((i4 &&& (3 : Int32)) + (1 : Int32))), .val (.double (FP.i2d i0)), .second, .val (.double (FP.i2d i1)), .second, .val (.double (FP.i2d i2)), .second, .val (.double (FP.i2d i3)), .second, .val (.ref a27), .val (.int (0 : Int32))]) (hb hby at_181) (by rw [hml]; rfl) [.ref a27, .int (0 : Int32), .int (3 : Int32)] [] rfl rfl pd_1 rfl 0 (by show 2 * 0 + _ ≤ _; exact Nat.le_of_eq rfl) (by decide) (by decide) (by decide) (by decide)
          obtain ⟨rfl, N40, hh40⟩ := hQ40
          have M40 := Fr.app M39 N40
          refine Go.via st40 ?_
          show Go p e below _ (T40.setTop (mkF m 184 #[.val (.int i0), .val (.int i1), .val (.int i2), .val (.int i3), .val (.int i4), .val (.int ((i4 &&& (3 : Int32)) + (1 : Int32))), .val (.double (FP.i2d i0)), .second, .val (.double (FP.i2d i1)), .second, .val (.double (FP.i2d i2)), .second, .val (.double (FP.i2d i3)), .second, .val (.ref a27), .val (.int (0 : Int32))] [.int (1 : Int32)]))
          refine s_ifN X40 hx (hb hby at_184) (by decide) 187 rfl ?_
          refine s_iconst X40 hx (hb hby at_187) (1 : Int32) rfl 188 rfl ?_
          refine s_goto X40 hx (hb hby at_188) 192 (by decide) (by decide) ?_
          exact retZ X40 hx hlk hret (hb hby at_192) (by decide) hh40 ⟨rfl, M40⟩ (by decide) (by decide)
        · skip
          refine Go.via st36 ?_
          show Go p e below _ (T36.setTop (mkF m 126 #[.val (.int i0), .val (.int i1), .val (.int i2), .val (.int i3), .val (.int i4), .val (.int ((i4 &&& (3 : Int32)) + (1 : Int32))), .val (.double (FP.i2d i0)), .second, .val (.double (FP.i2d i1)), .second, .val (.double (FP.i2d i2)), .second, .val (.double (FP.i2d i3)), .second, .val (.ref a27), .unset] [.int (1 : Int32)]))
          refine s_istore X36 hx (hb hby at_126) #[.val (.int i0), .val (.int i1), .val (.int i2), .val (.int i3), .val (.int i4), .val (.int ((i4 &&& (3 : Int32)) + (1 : Int32))), .val (.double (FP.i2d i0)), .second, .val (.double (FP.i2d i1)), .second, .val (.double (FP.i2d i2)), .second, .val (.double (FP.i2d i3)), .second, .val (.ref a27), .val (.int (1 : Int32))] rfl 128 rfl ?_
          refine s_iload X36 hx (hb hby at_128) rfl 130 rfl ?_
          refine s_ifN X36 hx (hb hby at_130) (by decide) 133 rfl ?_
          refine s_iload X36 hx (hb hby at_133) rfl 135 rfl ?_
          refine s_aload X36 hx (hb hby at_135) rfl rfl 137 rfl ?_
          refine s_len X36 hx hZ hh36 A34 (hb hby at_137) (3 : Int32) rfl 138 rfl ?_
          refine s_icmpY X36 hx (hb hby at_138) (by decide) 143 (by decide) (by decide) ?_
          refine s_aload X36 hx (hb hby at_143) rfl rfl 145 rfl ?_
          refine s_iload X36 hx (hb hby at_145) rfl 147 rfl ?_
          refine s_iconst X36 hx (hb hby at_147) (0 : Int32) rfl 148 rfl ?_
          obtain ⟨v41, T41, L41, X41, hQ41, st41⟩ := callStat X36 hx hZ hown (wd hw 5 _ rfl) (wd hw 6 _ rfl) (wd hw 7 _ rfl) (wd hw 8 _ rfl) (by decide) (rm_ok310 l Z a0 hw [] a27 c27 (FP.i2d i0) (FP.i2d i1) (FP.i2d i2) h34 n0 Z35 A34 (dy_lt (dy_i2d i0) (dy_i2d i1) hp0)) hh36 (L := #[.val (.int i0), .val (.int i1), .val (.int i2), .val (.int i3), .val (.int i4), .val (.int ((i4 &&& (3 : Int32)) + (1 : Int32))), .val (.double (FP.i2d i0)), .second, .val (.double (FP.i2d i1)), .second, .val (.double (FP.i2d i2)), .second, .val (.double (FP.i2d i3)), .second, .val (.ref a27), .val (.int (1 : Int32))]) (hb hby at_148) (by rw [hml]; rfl) [.ref a27, .int (1 : Int32), .int (0 : Int32)] [] rfl rfl pd_1 rfl 0 (by show 2 * 0 + _ ≤ _; exact Nat.le_of_eq rfl) (by decide) (by decide) (by decide) (by decide)
          obtain ⟨rfl, N41, hh41⟩ := hQ41
          have M41 := Fr.app M36 N41
          refine Go.via st41 ?_
          show Go p e below _ (T41.setTop (mkF m 151 #[.val (.int i0), .val (.int i1), .val (.int i2), .val (.int i3), .val (.int i4), .val (.int ((i4 &&& (3 : Int32)) + (1 : Int32))), .val (.double (FP.i2d i0)), .second, .val (.double (FP.i2d i1)), .second, .val (.double (FP.i2d i2)), .second, .val (.double (FP.i2d i3)), .second, .val (.ref a27), .val (.int (1 : Int32))] [.int (1 : Int32)]))
          refine s_ifN X41 hx (hb hby at_151) (by decide) 154 rfl ?_
          refine s_aload X41 hx (hb hby at_154) rfl rfl 156 rfl ?_
          refine s_iload X41 hx (hb hby at_156) rfl 158 rfl ?_
          refine s_iconst X41 hx (hb hby at_158) (1 : Int32) rfl 159 rfl ?_
          obtain ⟨v42, T42, L42, X42, hQ42, st42⟩ := callStat X41 hx hZ hown (wd hw 5 _ rfl) (wd hw 6 _ rfl) (wd hw 7 _ rfl) (wd hw 8 _ rfl) (by decide) (rm_ok311 l Z a0 hw [] a27 c27 (FP.i2d i0) (FP.i2d i1) (FP.i2d i2) h34 n0 Z35 A34 (own_le (dy_i2d i1) (dy_i2d i1) (Int.le_refl _))) hh41 (L := #[.val (.int i0), .val (.int i1), .val (.int i2), .val (.int i3), .val (.int i4), .val (.int ((i4 &&& (3 : Int32)) + (1 : Int32))), .val (.double (FP.i2d i0)), .second, .val (.double (FP.i2d i1)), .second, .val (.double (FP.i2d i2)), .second, .val (.double (FP.i2d i3)), .second, .val (.ref a27), .val (.int (1 : Int32))]) (hb hby at_159) (by rw [hml]; rfl) [.ref a27, .int (1 : Int32), .int (1 : Int32)] [] rfl rfl pd_1 rfl 0 (by show 2 * 0 + _ ≤ _; exact Nat.le_of_eq rfl) (by decide) (by decide) (by decide) (by decide)
          obtain ⟨rfl, N42, hh42⟩ := hQ42
          have M42 := Fr.app M41 N42
          refine Go.via st42 ?_
          show Go p e below _ (T42.setTop (mkF m 162 #[.val (.int i0), .val (.int i1), .val (.int i2), .val (.int i3), .val (.int i4), .val (.int ((i4 &&& (3 : Int32)) + (1 : Int32))), .val (.double (FP.i2d i0)), .second, .val (.double (FP.i2d i1)), .second, .val (.double (FP.i2d i2)), .second, .val (.double (FP.i2d i3)), .second, .val (.ref a27), .val (.int (1 : Int32))] [.int (1 : Int32)]))
          refine s_ifN X42 hx (hb hby at_162) (by decide) 165 rfl ?_
          refine s_aload X42 hx (hb hby at_165) rfl rfl 167 rfl ?_
          refine s_iload X42 hx (hb hby at_167) rfl 169 rfl ?_
          refine s_iconst X42 hx (hb hby at_169) (2 : Int32) rfl 170 rfl ?_
          obtain ⟨v43, T43, L43, X43, hQ43, st43⟩ := callStat X42 hx hZ hown (wd hw 5 _ rfl) (wd hw 6 _ rfl) (wd hw 7 _ rfl) (wd hw 8 _ rfl) (by decide) (rm_ok312 l Z a0 hw [] a27 c27 (FP.i2d i0) (FP.i2d i1) (FP.i2d i2) h34 n0 Z35 A34 (own_le (dy_i2d i2) (dy_i2d i1) hp2)) hh42 (L := #[.val (.int i0), .val (.int i1), .val (.int i2), .val (.int i3), .val (.int i4), .val (.int ((i4 &&& (3 : Int32)) + (1 : Int32))), .val (.double (FP.i2d i0)), .second, .val (.double (FP.i2d i1)), .second, .val (.double (FP.i2d i2)), .second, .val (.double (FP.i2d i3)), .second, .val (.ref a27), .val (.int (1 : Int32))]) (hb hby at_170) (by rw [hml]; rfl) [.ref a27, .int (1 : Int32), .int (2 : Int32)] [] rfl rfl pd_1 rfl 0 (by show 2 * 0 + _ ≤ _; exact Nat.le_of_eq rfl) (by decide) (by decide) (by decide) (by decide)
          obtain ⟨rfl, N43, hh43⟩ := hQ43
          have M43 := Fr.app M42 N43
          refine Go.via st43 ?_
          show Go p e below _ (T43.setTop (mkF m 173 #[.val (.int i0), .val (.int i1), .val (.int i2), .val (.int i3), .val (.int i4), .val (.int ((i4 &&& (3 : Int32)) + (1 : Int32))), .val (.double (FP.i2d i0)), .second, .val (.double (FP.i2d i1)), .second, .val (.double (FP.i2d i2)), .second, .val (.double (FP.i2d i3)), .second, .val (.ref a27), .val (.int (1 : Int32))] [.int (1 : Int32)]))
          refine s_ifN X43 hx (hb hby at_173) (by decide) 176 rfl ?_
          refine s_aload X43 hx (hb hby at_176) rfl rfl 178 rfl ?_
          refine s_iload X43 hx (hb hby at_178) rfl 180 rfl ?_
          refine s_iconst X43 hx (hb hby at_180) (3 : Int32) rfl 181 rfl ?_
          obtain ⟨v44, T44, L44, X44, hQ44, st44⟩ := callStat X43 hx hZ hown (wd hw 5 _ rfl) (wd hw 6 _ rfl) (wd hw 7 _ rfl) (wd hw 8 _ rfl) (by decide) (rm_ok313 l Z a0 hw [] a27 c27 (FP.i2d i0) (FP.i2d i1) (FP.i2d i2) h34 n0 Z35 A34 ) hh43 (L := #[.val (.int i0), .val (.int i1), .val (.int i2), .val (.int i3), .val (.int i4), .val (.int ((i4 &&& (3 : Int32)) + (1 : Int32))), .val (.double (FP.i2d i0)), .second, .val (.double (FP.i2d i1)), .second, .val (.double (FP.i2d i2)), .second, .val (.double (FP.i2d i3)), .second, .val (.ref a27), .val (.int (1 : Int32))]) (hb hby at_181) (by rw [hml]; rfl) [.ref a27, .int (1 : Int32), .int (3 : Int32)] [] rfl rfl pd_1 rfl 0 (by show 2 * 0 + _ ≤ _; exact Nat.le_of_eq rfl) (by decide) (by decide) (by decide) (by decide)
          obtain ⟨rfl, N44, hh44⟩ := hQ44
          have M44 := Fr.app M43 N44
          refine Go.via st44 ?_
          show Go p e below _ (T44.setTop (mkF m 184 #[.val (.int i0), .val (.int i1), .val (.int i2), .val (.int i3), .val (.int i4), .val (.int ((i4 &&& (3 : Int32)) + (1 : Int32))), .val (.double (FP.i2d i0)), .second, .val (.double (FP.i2d i1)), .second, .val (.double (FP.i2d i2)), .second, .val (.double (FP.i2d i3)), .second, .val (.ref a27), .val (.int (1 : Int32))] [.int (1 : Int32)]))
          refine s_ifN X44 hx (hb hby at_184) (by decide) 187 rfl ?_
          refine s_iconst X44 hx (hb hby at_187) (1 : Int32) rfl 188 rfl ?_
          refine s_goto X44 hx (hb hby at_188) 192 (by decide) (by decide) ?_
          exact retZ X44 hx hlk hret (hb hby at_192) (by decide) hh44 ⟨rfl, M44⟩ (by decide) (by decide)
        · skip
          refine Go.via st36 ?_
          show Go p e below _ (T36.setTop (mkF m 126 #[.val (.int i0), .val (.int i1), .val (.int i2), .val (.int i3), .val (.int i4), .val (.int ((i4 &&& (3 : Int32)) + (1 : Int32))), .val (.double (FP.i2d i0)), .second, .val (.double (FP.i2d i1)), .second, .val (.double (FP.i2d i2)), .second, .val (.double (FP.i2d i3)), .second, .val (.ref a27), .unset] [.int (2 : Int32)]))
          refine s_istore X36 hx (hb hby at_126) #[.val (.int i0), .val (.int i1), .val (.int i2), .val (.int i3), .val (.int i4), .val (.int ((i4 &&& (3 : Int32)) + (1 : Int32))), .val (.double (FP.i2d i0)), .second, .val (.double (FP.i2d i1)), .second, .val (.double (FP.i2d i2)), .second, .val (.double (FP.i2d i3)), .second, .val (.ref a27), .val (.int (2 : Int32))] rfl 128 rfl ?_
          refine s_iload X36 hx (hb hby at_128) rfl 130 rfl ?_
          refine s_ifN X36 hx (hb hby at_130) (by decide) 133 rfl ?_
          refine s_iload X36 hx (hb hby at_133) rfl 135 rfl ?_
          refine s_aload X36 hx (hb hby at_135) rfl rfl 137 rfl ?_
          refine s_len X36 hx hZ hh36 A34 (hb hby at_137) (3 : Int32) rfl 138 rfl ?_
          refine s_icmpY X36 hx (hb hby at_138) (by decide) 143 (by decide) (by decide) ?_
          refine s_aload X36 hx (hb hby at_143) rfl rfl 145 rfl ?_
          refine s_iload X36 hx (hb hby at_145) rfl 147 rfl ?_
          refine s_iconst X36 hx (hb hby at_147) (0 : Int32) rfl 148 rfl ?_
          obtain ⟨v45, T45, L45, X45, hQ45, st45⟩ := callStat X36 hx hZ hown (wd hw 5 _ rfl) (wd hw 6 _ rfl) (wd hw 7 _ rfl) (wd hw 8 _ rfl) (by decide) (rm_ok320 l Z a0 hw [] a27 c27 (FP.i2d i0) (FP.i2d i1) (FP.i2d i2) h34 n0 Z35 A34 (dy_lt (dy_i2d i0) (dy_i2d i2) hp0)) hh36 (L := #[.val (.int i0), .val (.int i1), .val (.int i2), .val (.int i3), .val (.int i4), .val (.int ((i4 &&& (3 : Int32)) + (1 : Int32))), .val (.double (FP.i2d i0)), .second, .val (.double (FP.i2d i1)), .second, .val (.double (FP.i2d i2)), .second, .val (.double (FP.i2d i3)), .second, .val (.ref a27), .val (.int (2 : Int32))]) (hb hby at_148) (by rw [hml]; rfl) [.ref a27, .int (2 : Int32), .int (0 : Int32)] [] rfl rfl pd_1 rfl 0 (by show 2 * 0 + _ ≤ _; exact Nat.le_of_eq rfl) (by decide) (by decide) (by decide) (by decide)
          obtain ⟨rfl, N45, hh45⟩ := hQ45
          have M45 := Fr.app M36 N45
          refine Go.via st45 ?_
          show Go p e below _ (T45.setTop (mkF m 151 #[.val (.int i0), .val (.int i1), .val (.int i2), .val (.int i3), .val (.int i4), .val (.int ((i4 &&& (3 : Int32)) + (1 : Int32))), .val (.double (FP.i2d i0)), .second, .val (.double (FP.i2d i1)), .second, .val (.double (FP.i2d i2)), .second, .val (.double (FP.i2d i3)), .second, .val (.ref a27), .val (.int (2 : Int32))] [.int (1 : Int32)]))
          refine s_ifN X45 hx (hb hby at_151) (by decide) 154 rfl ?_
          refine s_aload X45 hx (hb hby at_154) rfl rfl 156 rfl ?_
          refine s_iload X45 hx (hb hby at_156) rfl 158 rfl ?_
          refine s_iconst X45 hx (hb hby at_158) (1 : Int32) rfl 159 rfl ?_
          obtain ⟨v46, T46, L46, X46, hQ46, st46⟩ := callStat X45 hx hZ hown (wd hw 5 _ rfl) (wd hw 6 _ rfl) (wd hw 7 _ rfl) (wd hw 8 _ rfl) (by decide) (rm_ok321 l Z a0 hw [] a27 c27 (FP.i2d i0) (FP.i2d i1) (FP.i2d i2) h34 n0 Z35 A34 (dy_lt (dy_i2d i1) (dy_i2d i2) hp1)) hh45 (L := #[.val (.int i0), .val (.int i1), .val (.int i2), .val (.int i3), .val (.int i4), .val (.int ((i4 &&& (3 : Int32)) + (1 : Int32))), .val (.double (FP.i2d i0)), .second, .val (.double (FP.i2d i1)), .second, .val (.double (FP.i2d i2)), .second, .val (.double (FP.i2d i3)), .second, .val (.ref a27), .val (.int (2 : Int32))]) (hb hby at_159) (by rw [hml]; rfl) [.ref a27, .int (2 : Int32), .int (1 : Int32)] [] rfl rfl pd_1 rfl 0 (by show 2 * 0 + _ ≤ _; exact Nat.le_of_eq rfl) (by decide) (by decide) (by decide) (by decide)
          obtain ⟨rfl, N46, hh46⟩ := hQ46
          have M46 := Fr.app M45 N46
          refine Go.via st46 ?_
          show Go p e below _ (T46.setTop (mkF m 162 #[.val (.int i0), .val (.int i1), .val (.int i2), .val (.int i3), .val (.int i4), .val (.int ((i4 &&& (3 : Int32)) + (1 : Int32))), .val (.double (FP.i2d i0)), .second, .val (.double (FP.i2d i1)), .second, .val (.double (FP.i2d i2)), .second, .val (.double (FP.i2d i3)), .second, .val (.ref a27), .val (.int (2 : Int32))] [.int (1 : Int32)]))
          refine s_ifN X46 hx (hb hby at_162) (by decide) 165 rfl ?_
          refine s_aload X46 hx (hb hby at_165) rfl rfl 167 rfl ?_
          refine s_iload X46 hx (hb hby at_167) rfl 169 rfl ?_
          refine s_iconst X46 hx (hb hby at_169) (2 : Int32) rfl 170 rfl ?_
          obtain ⟨v47, T47, L47, X47, hQ47, st47⟩ := callStat X46 hx hZ hown (wd hw 5 _ rfl) (wd hw 6 _ rfl) (wd hw 7 _ rfl) (wd hw 8 _ rfl) (by decide) (rm_ok322 l Z a0 hw [] a27 c27 (FP.i2d i0) (FP.i2d i1) (FP.i2d i2) h34 n0 Z35 A34 (own_le (dy_i2d i2) (dy_i2d i2) (Int.le_refl _))) hh46 (L := #[.val (.int i0), .val (.int i1), .val (.int i2), .val (.int i3), .val (.int i4), .val (.int ((i4 &&& (3 : Int32)) + (1 : Int32))), .val (.double (FP.i2d i0)), .second, .val (.double (FP.i2d i1)), .second, .val (.double (FP.i2d i2)), .second, .val (.double (FP.i2d i3)), .second, .val (.ref a27), .val (.int (2 : Int32))]) (hb hby at_170) (by rw [hml]; rfl) [.ref a27, .int (2 : Int32), .int (2 : Int32)] [] rfl rfl pd_1 rfl 0 (by show 2 * 0 + _ ≤ _; exact Nat.le_of_eq rfl) (by decide) (by decide) (by decide) (by decide)
          obtain ⟨rfl, N47, hh47⟩ := hQ47
          have M47 := Fr.app M46 N47
          refine Go.via st47 ?_
          show Go p e below _ (T47.setTop (mkF m 173 #[.val (.int i0), .val (.int i1), .val (.int i2), .val (.int i3), .val (.int i4), .val (.int ((i4 &&& (3 : Int32)) + (1 : Int32))), .val (.double (FP.i2d i0)), .second, .val (.double (FP.i2d i1)), .second, .val (.double (FP.i2d i2)), .second, .val (.double (FP.i2d i3)), .second, .val (.ref a27), .val (.int (2 : Int32))] [.int (1 : Int32)]))
          refine s_ifN X47 hx (hb hby at_173) (by decide) 176 rfl ?_
          refine s_aload X47 hx (hb hby at_176) rfl rfl 178 rfl ?_
          refine s_iload X47 hx (hb hby at_178) rfl 180 rfl ?_
          refine s_iconst X47 hx (hb hby at_180) (3 : Int32) rfl 181 rfl ?_
          obtain ⟨v48, T48, L48, X48, hQ48, st48⟩ := callStat X47 hx hZ hown (wd hw 5 _ rfl) (wd hw 6 _ rfl) (wd hw 7 _ rfl) (wd hw 8 _ rfl) (by decide) (rm_ok323 l Z a0 hw [] a27 c27 (FP.i2d i0) (FP.i2d i1) (FP.i2d i2) h34 n0 Z35 A34 ) hh47 (L := #[.val (.int i0), .val (.int i1), .val (.int i2), .val (.int i3), .val (.int i4), .val (.int ((i4 &&& (3 : Int32)) + (1 : Int32))), .val (.double (FP.i2d i0)), .second, .val (.double (FP.i2d i1)), .second, .val (.double (FP.i2d i2)), .second, .val (.double (FP.i2d i3)), .second, .val (.ref a27), .val (.int (2 : Int32))]) (hb hby at_181) (by rw [hml]; rfl) [.ref a27, .int (2 : Int32), .int (3 : Int32)] [] rfl rfl pd_1 rfl 0 (by show 2 * 0 + _ ≤ _; exact Nat.le_of_eq rfl) (by decide) (by decide) (by decide) (by decide)
          obtain ⟨rfl, N48, hh48⟩ := hQ48
          have M48 := Fr.app M47 N48
          refine Go.via st48 ?_
          show Go p e below _ (T48.setTop (mkF m 184 #[.val (.int i0), .val (.int i1), .val (.int i2), .val (.int i3), .val (.int i4), .val (.int ((i4 &&& (3 : Int32)) + (1 : Int32))), .val (.double (FP.i2d i0)), .second, .val (.double (FP.i2d i1)), .second, .val (.double (FP.i2d i2)), .second, .val (.double (FP.i2d i3)), .second, .val (.ref a27), .val (.int (2 : Int32))] [.int (1 : Int32)]))
          refine s_ifN X48 hx (hb hby at_184) (by decide) 187 rfl ?_
          refine s_iconst X48 hx (hb hby at_187) (1 : Int32) rfl 188 rfl ?_
          refine s_goto X48 hx (hb hby at_188) 192 (by decide) (by decide) ?_
          exact retZ X48 hx hlk hret (hb hby at_192) (by decide) hh48 ⟨rfl, M48⟩ (by decide) (by decide)
      · skip
        refine s_icmpY X0 hx (hb hby at_70) (XT.ii_ne_t hn2) 96 (by decide) (by decide) ?_
        refine s_iconst X0 hx (hb hby at_96) (4 : Int32) rfl 97 rfl ?_
        obtain ⟨T49, h49, c49, X49, e49, E49, A49, st49⟩ := s_newarray X0 hx hZ (aty := .double) (wd hw 0 _ rfl) e0 (hb hby at_97) #[.val (.int i0), .val (.int i1), .val (.int i2), .val (.int i3), .val (.int i4), .val (.int ((i4 &&& (3 : Int32)) + (1 : Int32))), .val (.double (FP.i2d i0)), .second, .val (.double (FP.i2d i1)), .second, .val (.double (FP.i2d i2)), .second, .val (.double (FP.i2d i3)), .second, .unset, .unset] [] (n := (4 : Int32)) 4 (by decide) [.double (0 : UInt64), .double (0 : UInt64), .double (0 : UInt64), .double (0 : UInt64)] rfl (by decide) (by decide) (by decide) 99 rfl
        obtain ⟨a49, g49⟩ : ∃ z, z = h0.size := ⟨_, rfl⟩
        rw [← g49] at A49 st49
        have q50 : n0 ≤ a49 := by rw [g49]; exact Z0
        have Z51 := Nat.le_trans Z0 E49.1
        refine Go.via st49 ?_
        refine s_dup X49 hx (hb hby at_99) rfl 100 rfl ?_
        refine s_iconst X49 hx (hb hby at_100) (0 : Int32) rfl 101 rfl ?_
        refine s_dload X49 hx (hb hby at_101) rfl 103 rfl ?_
        obtain ⟨T52, h52, X52, e52, W52, A52, st52⟩ := s_dastore X49 hx hZ e49 A49 (hb hby at_103) #[.val (.int i0), .val (.int i1), .val (.int i2), .val (.int i3), .val (.int i4), .val (.int ((i4 &&& (3 : Int32)) + (1 : Int32))), .val (.double (FP.i2d i0)), .second, .val (.double (FP.i2d i1)), .second, .val (.double (FP.i2d i2)), .second, .val (.double (FP.i2d i3)), .second, .unset, .unset] [.ref a49] (j := (0 : Int32)) 0 (by decide) (by show 0 < 4; decide) (FP.i2d i0) [.double (FP.i2d i0), .double (0 : UInt64), .double (0 : UInt64), .double (0 : UInt64)] rfl 104 rfl
        have N52 := Fr.snoc X52 N0 q50
        have Z53 : n0 ≤ h52.size := by rw [W52.size]; exact Z51
        refine Go.via st52 ?_
        refine s_dup X52 hx (hb hby at_104) rfl 105 rfl ?_
        refine s_iconst X52 hx (hb hby at_105) (1 : Int32) rfl 106 rfl ?_
        refine s_dload X52 hx (hb hby at_106) rfl 108 rfl ?_
        obtain ⟨T54, h54, X54, e54, W54, A54, st54⟩ := s_dastore X52 hx hZ e52 A52 (hb hby at_108) #[.val (.int i0), .val (.int i1), .val (.int i2), .val (.int i3), .val (.int i4), .val (.int ((i4 &&& (3 : Int32)) + (1 : Int32))), .val (.double (FP.i2d i0)), .second, .val (.double (FP.i2d i1)), .second, .val (.double (FP.i2d i2)), .second, .val (.double (FP.i2d i3)), .second, .unset, .unset] [.ref a49] (j := (1 : Int32)) 1 (by decide) (by show 1 < 4; decide) (FP.i2d i1) [.double (FP.i2d i0), .double (FP.i2d i1), .double (0 : UInt64), .double (0 : UInt64)] rfl 109 rfl
        have N54 := Fr.snoc X54 N52 q50
        have Z55 : n0 ≤ h54.size := by rw [W54.size]; exact Z53
        refine Go.via st54 ?_
        refine s_dup X54 hx (hb hby at_109) rfl 110 rfl ?_
        refine s_iconst X54 hx (hb hby at_110) (2 : Int32) rfl 111 rfl ?_
        refine s_dload X54 hx (hb hby at_111) rfl 113 rfl ?_
        obtain ⟨T56, h56, X56, e56, W56, A56, st56⟩ := s_dastore X54 hx hZ e54 A54 (hb hby at_113) #[.val (.int i0), .val (.int i1), .val (.int i2), .val (.int i3), .val (.int i4), .val (.int ((i4 &&& (3 : Int32)) + (1 : Int32))), .val (.double (FP.i2d i0)), .second, .val (.double (FP.i2d i1)), .second, .val (.double (FP.i2d i2)), .second, .val (.double (FP.i2d i3)), .second, .unset, .unset] [.ref a49] (j := (2 : Int32)) 2 (by decide) (by show 2 < 4; decide) (FP.i2d i2) [.double (FP.i2d i0), .double (FP.i2d i1), .double (FP.i2d i2), .double (0 : UInt64)] rfl 114 rfl
        have N56 := Fr.snoc X56 N54 q50
        have Z57 : n0 ≤ h56.size := by rw [W56.size]; exact Z55
        refine Go.via st56 ?_
        refine s_dup X56 hx (hb hby at_114) rfl 115 rfl ?_
        refine s_iconst X56 hx (hb hby at_115) (3 : Int32) rfl 116 rfl ?_
        refine s_dload X56 hx (hb hby at_116) rfl 118 rfl ?_
        obtain ⟨T58, h58, X58, e58, W58, A58, st58⟩ := s_dastore X56 hx hZ e56 A56 (hb hby at_118) #[.val (.int i0), .val (.int i1), .val (.int i2), .val (.int i3), .val (.int i4), .val (.int ((i4 &&& (3 : Int32)) + (1 : Int32))), .val (.double (FP.i2d i0)), .second, .val (.double (FP.i2d i1)), .second, .val (.double (FP.i2d i2)), .second, .val (.double (FP.i2d i3)), .second, .unset, .unset] [.ref a49] (j := (3 : Int32)) 3 (by decide) (by show 3 < 4; decide) (FP.i2d i3) [.double (FP.i2d i0), .double (FP.i2d i1), .double (FP.i2d i2), .double (FP.i2d i3)] rfl 119 rfl
        have N58 := Fr.snoc X58 N56 q50
        have Z59 : n0 ≤ h58.size := by rw [W58.size]; exact Z57
        refine Go.via st58 ?_
        refine s_astore X58 hx (hb hby at_119) rfl #[.val (.int i0), .val (.int i1), .val (.int i2), .val (.int i3), .val (.int i4), .val (.int ((i4 &&& (3 : Int32)) + (1 : Int32))), .val (.double (FP.i2d i0)), .second, .val (.double (FP.i2d i1)), .second, .val (.double (FP.i2d i2)), .second, .val (.double (FP.i2d i3)), .second, .val (.ref a49), .unset] rfl 121 rfl ?_
        refine s_aload X58 hx (hb hby at_121) rfl rfl 123 rfl ?_
        obtain ⟨v60, T60, L60, X60, hQ60, st60⟩ := callStat X58 hx hZ hown (wd hw 1 _ rfl) (wd hw 2 _ rfl) (wd hw 3 _ rfl) (wd hw 4 _ rfl) (by decide) (rm_busy4 l Z a0 hw [] a49 c49 (FP.i2d i0) (FP.i2d i1) (FP.i2d i2) (FP.i2d i3) i0.toInt i1.toInt i2.toInt i3.toInt h58 n0 Z59 A58 (dy_i2d i0) (dy_i2d i1) (dy_i2d i2) (dy_i2d i3)) e58 (L := #[.val (.int i0), .val (.int i1), .val (.int i2), .val (.int i3), .val (.int i4), .val (.int ((i4 &&& (3 : Int32)) + (1 : Int32))), .val (.double (FP.i2d i0)), .second, .val (.double (FP.i2d i1)), .second, .val (.double (FP.i2d i2)), .second, .val (.double (FP.i2d i3)), .second, .val (.ref a49), .unset]) (hb hby at_123) (by rw [hml]; rfl) [.ref a49] [] rfl rfl pd_0 rfl 0 (by show 2 * 0 + _ ≤ _; exact Nat.le_of_eq rfl) (by decide) (by decide) (by decide) (by decide)
        obtain ⟨N60, hh60, hor60⟩ := hQ60
        have M60 := Fr.app N58 N60
        rcases hor60 with ⟨rfl, hp1, hp2, hp3⟩ | ⟨rfl, hp0, hp2, hp3⟩ | ⟨rfl, hp0, hp1, hp3⟩ | ⟨rfl, hp0, hp1, hp2⟩
        · skip
          refine Go.via st60 ?_
          show Go p e below _ (T60.setTop (mkF m 126 #[.val (.int i0), .val (.int i1), .val (.int i2), .val (.int i3), .val (.int i4), .val (.int ((i4 &&& (3 : Int32)) + (1 : Int32))), .val (.double (FP.i2d i0)), .second, .val (.double (FP.i2d i1)), .second, .val (.double (FP.i2d i2)), .second, .val (.double (FP.i2d i3)), .second, .val (.ref a49), .unset] [.int (0 : Int32)]))
          refine s_istore X60 hx (hb hby at_126) #[.val (.int i0), .val (.int i1), .val (.int i2), .val (.int i3), .val (.int i4), .val (.int ((i4 &&& (3 : Int32)) + (1 : Int32))), .val (.double (FP.i2d i0)), .second, .val (.double (FP.i2d i1)), .second, .val (.double (FP.i2d i2)), .second, .val (.double (FP.i2d i3)), .second, .val (.ref a49), .val (.int (0 : Int32))] rfl 128 rfl ?_
          refine s_iload X60 hx (hb hby at_128) rfl 130 rfl ?_
          refine s_ifN X60 hx (hb hby at_130) (by decide) 133 rfl ?_
          refine s_iload X60 hx (hb hby at_133) rfl 135 rfl ?_
          refine s_aload X60 hx (hb hby at_135) rfl rfl 137 rfl ?_
          refine s_len X60 hx hZ hh60 A58 (hb hby at_137) (4 : Int32) rfl 138 rfl ?_
          refine s_icmpY X60 hx (hb hby at_138) (by decide) 143 (by decide) (by decide) ?_
          refine s_aload X60 hx (hb hby at_143) rfl rfl 145 rfl ?_
          refine s_iload X60 hx (hb hby at_145) rfl 147 rfl ?_
          refine s_iconst X60 hx (hb hby at_147) (0 : Int32) rfl 148 rfl ?_
          obtain ⟨v61, T61, L61, X61, hQ61, st61⟩ := callStat X60 hx hZ hown (wd hw 5 _ rfl) (wd hw 6 _ rfl) (wd hw 7 _ rfl) (wd hw 8 _ rfl) (by decide) (rm_ok400 l Z a0 hw [] a49 c49 (FP.i2d i0) (FP.i2d i1) (FP.i2d i2) (FP.i2d i3) h58 n0 Z59 A58 (own_le (dy_i2d i0) (dy_i2d i0) (Int.le_refl _))) hh60 (L := #[.val (.int i0), .val (.int i1), .val (.int i2), .val (.int i3), .val (.int i4), .val (.int ((i4 &&& (3 : Int32)) + (1 : Int32))), .val (.double (FP.i2d i0)), .second, .val (.double (FP.i2d i1)), .second, .val (.double (FP.i2d i2)), .second, .val (.double (FP.i2d i3)), .second, .val (.ref a49), .val (.int (0 : Int32))]) (hb hby at_148) (by rw [hml]; rfl) [.ref a49, .int (0 : Int32), .int (0 : Int32)] [] rfl rfl pd_1 rfl 0 (by show 2 * 0 + _ ≤ _; exact Nat.le_of_eq rfl) (by decide) (by decide) (by decide) (by decide)
          obtain ⟨rfl, N61, hh61⟩ := hQ61
          have M61 := Fr.app M60 N61
          refine Go.via st61 ?_
          show Go p e below _ (T61.setTop (mkF m 151 #[.val (.int i0), .val (.int i1), .val (.int i2), .val (.int i3), .val (.int i4), .val (.int ((i4 &&& (3 : Int32)) + (1 : Int32))), .val (.double (FP.i2d i0)), .second, .val (.double (FP.i2d i1)), .second, .val (.double (FP.i2d i2)), .second, .val (.double (FP.i2d i3)), .second, .val (.ref a49), .val (.int (0 : Int32))] [.int (1 : Int32)]))
          refine s_ifN X61 hx (hb hby at_151) (by decide) 154 rfl ?_
          refine s_aload X61 hx (hb hby at_154) rfl rfl 156 rfl ?_
          refine s_iload X61 hx (hb hby at_156) rfl 158 rfl ?_
          refine s_iconst X61 hx (hb hby at_158) (1 : Int32) rfl 159 rfl ?_
          obtain ⟨v62, T62, L62, X62, hQ62, st62⟩ := callStat X61 hx hZ hown (wd hw 5 _ rfl) (wd hw 6 _ rfl) (wd hw 7 _ rfl) (wd hw 8 _ rfl) (by decide) (rm_ok401 l Z a0 hw [] a49 c49 (FP.i2d i0) (FP.i2d i1) (FP.i2d i2) (FP.i2d i3) h58 n0 Z59 A58 (own_le (dy_i2d i1) (dy_i2d i0) hp1)) hh61 (L := #[.val (.int i0), .val (.int i1), .val (.int i2), .val (.int i3), .val (.int i4), .val (.int ((i4 &&& (3 : Int32)) + (1 : Int32))), .val (.double (FP.i2d i0)), .second, .val (.double (FP.i2d i1)), .second, .val (.double (FP.i2d i2)), .second, .val (.double (FP.i2d i3)), .second, .val (.ref a49), .val (.int (0 : Int32))]) (hb hby at_159) (by rw [hml]; rfl) [.ref a49, .int (0 : Int32), .int (1 : Int32)] [] rfl rfl pd_1 rfl 0 (by show 2 * 0 + _ ≤ _; exact Nat.le_of_eq rfl) (by decide) (by decide) (by decide) (by decide)
          obtain ⟨rfl, N62, hh62⟩ := hQ62
          have M62 := Fr.app M61 N62
          refine Go.via st62 ?_
          show Go p e below _ (T62.setTop (mkF m 162 #[.val (.int i0), .val (.int i1), .val (.int i2), .val (.int i3), .val (.int i4), .val (.int ((i4 &&& (3 : Int32)) + (1 : Int32))), .val (.double (FP.i2d i0)), .second, .val (.double (FP.i2d i1)), .second, .val (.double (FP.i2d i2)), .second, .val (.double (FP.i2d i3)), .second, .val (.ref a49), .val (.int (0 : Int32))] [.int (1 : Int32)]))
          refine s_ifN X62 hx (hb hby at_162) (by decide) 165 rfl ?_
          refine s_aload X62 hx (hb hby at_165) rfl rfl 167 rfl ?_
          refine s_iload X62 hx (hb hby at_167) rfl 169 rfl ?_
          refine s_iconst X62 hx (hb hby at_169) (2 : Int32) rfl 170 rfl ?_
          obtain ⟨v63, T63, L63, X63, hQ63, st63⟩ := callStat X62 hx hZ hown (wd hw 5 _ rfl) (wd hw 6 _ rfl) (wd hw 7 _ rfl) (wd hw 8 _ rfl) (by decide) (rm_ok402 l Z a0 hw [] a49 c49 (FP.i2d i0) (FP.i2d i1) (FP.i2d i2) (FP.i2d i3) h58 n0 Z59 A58 (own_le (dy_i2d i2) (dy_i2d i0) hp2)) hh62 (L := #[.val (.int i0), .val (.int i1), .val (.int i2), .val (.int i3), .val (.int i4), .val (.int ((i4 &&& (3 : Int32)) + (1 : Int32))), .val (.double (FP.i2d i0)), .second, .val (.double (FP.i2d i1)), .second, .val (.double (FP.i2d i2)), .second, .val (.double (FP.i2d i3)), .second, .val (.ref a49), .val (.int (0 : Int32))]) (hb hby at_170) (by rw [hml]; rfl) [.ref a49, .int (0 : Int32), .int (2 : Int32)] [] rfl rfl pd_1 rfl 0 (by show 2 * 0 + _ ≤ _; exact Nat.le_of_eq rfl) (by decide) (by decide) (by decide) (by decide)
          obtain ⟨rfl, N63, hh63⟩ := hQ63
          have M63 := Fr.app M62 N63
          refine Go.via st63 ?_
          show Go p e below _ (T63.setTop (mkF m 173 #[.val (.int i0), .val (.int i1), .val (.int i2), .val (.int i3), .val (.int i4), .val (.int ((i4 &&& (3 : Int32)) + (1 : Int32))), .val (.double (FP.i2d i0)), .second, .val (.double (FP.i2d i1)), .second, .val (.double (FP.i2d i2)), .second, .val (.double (FP.i2d i3)), .second, .val (.ref a49), .val (.int (0 : Int32))] [.int (1 : Int32)]))
          refine s_ifN X63 hx (hb hby at_173) (by decide) 176 rfl ?_
          refine s_aload X63 hx (hb hby at_176) rfl rfl 178 rfl ?_
          refine s_iload X63 hx (hb hby at_178) rfl 180 rfl ?_
          refine s_iconst X63 hx (hb hby at_180) (3 : Int32) rfl 181 rfl ?_
          obtain ⟨v64, T64, L64, X64, hQ64, st64⟩ := callStat X63 hx hZ hown (wd hw 5 _ rfl) (wd hw 6 _ rfl) (wd hw 7 _ rfl) (wd hw 8 _ rfl) (by decide) (rm_ok403 l Z a0 hw [] a49 c49 (FP.i2d i0) (FP.i2d i1) (FP.i2d i2) (FP.i2d i3) h58 n0 Z59 A58 (own_le (dy_i2d i3) (dy_i2d i0) hp3)) hh63 (L := #[.val (.int i0), .val (.int i1), .val (.int i2), .val (.int i3), .val (.int i4), .val (.int ((i4 &&& (3 : Int32)) + (1 : Int32))), .val (.double (FP.i2d i0)), .second, .val (.double (FP.i2d i1)), .second, .val (.double (FP.i2d i2)), .second, .val (.double (FP.i2d i3)), .second, .val (.ref a49), .val (.int (0 : Int32))]) (hb hby at_181) (by rw [hml]; rfl) [.ref a49, .int (0 : Int32), .int (3 : Int32)] [] rfl rfl pd_1 rfl 0 (by show 2 * 0 + _ ≤ _; exact Nat.le_of_eq rfl) (by decide) (by decide) (by decide) (by decide)
          obtain ⟨rfl, N64, hh64⟩ := hQ64
          have M64 := Fr.app M63 N64
          refine Go.via st64 ?_
          show Go p e below _ (T64.setTop (mkF m 184 #[.val (.int i0), .val (.int i1), .val (.int i2), .val (.int i3), .val (.int i4), .val (.int ((i4 &&& (3 : Int32)) + (1 : Int32))), .val (.double (FP.i2d i0)), .second, .val (.double (FP.i2d i1)), .second, .val (.double (FP.i2d i2)), .second, .val (.double (FP.i2d i3)), .second, .val (.ref a49), .val (.int (0 : Int32))] [.int (1 : Int32)]))
          refine s_ifN X64 hx (hb hby at_184) (by decide) 187 rfl ?_
          refine s_iconst X64 hx (hb hby at_187) (1 : Int32) rfl 188 rfl ?_
          refine s_goto X64 hx (hb hby at_188) 192 (by decide) (by decide) ?_
          exact retZ X64 hx hlk hret (hb hby at_192) (by decide) hh64 ⟨rfl, M64⟩ (by decide) (by decide)
        · skip
          refine Go.via st60 ?_
          show Go p e below _ (T60.setTop (mkF m 126 #[.val (.int i0), .val (.int i1), .val (.int i2), .val (.int i3), .val (.int i4), .val (.int ((i4 &&& (3 : Int32)) + (1 : Int32))), .val (.double (FP.i2d i0)), .second, .val (.double (FP.i2d i1)), .second, .val (.double (FP.i2d i2)), .second, .val (.double (FP.i2d i3)), .second, .val (.ref a49), .unset] [.int (1 : Int32)]))
          refine s_istore X60 hx (hb hby at_126) #[.val (.int i0), .val (.int i1), .val (.int i2), .val (.int i3), .val (.int i4), .val (.int ((i4 &&& (3 : Int32)) + (1 : Int32))), .val (.double (FP.i2d i0)), .second, .val (.double (FP.i2d i1)), .second, .val (.double (FP.i2d i2)), .second, .val (.double (FP.i2d i3)), .second, .val (.ref a49), .val (.int (1 : Int32))] rfl 128 rfl ?_
          refine s_iload X60 hx (hb hby at_128) rfl 130 rfl ?_
          refine s_ifN X60 hx (hb hby at_130) (by decide) 133 rfl ?_
          refine s_iload X60 hx (hb hby at_133) rfl 135 rfl ?_
          refine s_aload X60 hx (hb hby at_135) rfl rfl 137 rfl ?_
          refine s_len X60 hx hZ hh60 A58 (hb hby at_137) (4 : Int32) rfl 138 rfl ?_
          refine s_icmpY X60 hx (hb hby at_138) (by decide) 143 (by decide) (by decide) ?_
          refine s_aload X60 hx (hb hby at_143) rfl rfl 145 rfl ?_
          refine s_iload X60 hx (hb hby at_145) rfl 147 rfl ?_
          refine s_iconst X60 hx (hb hby at_147) (0 : Int32) rfl 148 rfl ?_
          obtain ⟨v65, T65, L65, X65, hQ65, st65⟩ := callStat X60 hx hZ hown (wd hw 5 _ rfl) (wd hw 6 _ rfl) (wd hw 7 _ rfl) (wd hw 8 _ rfl) (by decide) (rm_ok410 l Z a0 hw [] a49 c49 (FP.i2d i0) (FP.i2d i1) (FP.i2d i2) (FP.i2d i3) h58 n0 Z59 A58 (dy_lt (dy_i2d i0) (dy_i2d i1) hp0)) hh60 (L := #[.val (.int i0), .val (.int i1), .val (.int i2), .val (.int i3), .val (.int i4), .val (.int ((i4 &&& (3 : Int32)) + (1 : Int32))), .val (.double (FP.i2d i0)), .second, .val (.double (FP.i2d i1)), .second, .val (.double (FP.i2d i2)), .second, .val (.double (FP.i2d i3)), .second, .val (.ref a49), .val (.int (1 : Int32))]) (hb hby at_148) (by rw [hml]; rfl) [.ref a49, .int (1 : Int32), .int (0 : Int32)] [] rfl rfl pd_1 rfl 0 (by show 2 * 0 + _ ≤ _; exact Nat.le_of_eq rfl) (by decide) (by decide) (by decide) (by decide)
          obtain ⟨rfl, N65, hh65⟩ := hQ65
          have M65 := Fr.app M60 N65
          refine Go.via st65 ?_
          show Go p e below _ (T65.setTop (mkF m 151 #[.val (.int i0), .val (.int i1), .val (.int i2), .val (.int i3), .val (.int i4), .val (.int ((i4 &&& (3 : Int32)) + (1 : Int32))), .val (.double (FP.i2d i0)), .second, .val (.double (FP.i2d i1)), .second, .val (.double (FP.i2d i2)), .second, .val (.double (FP.i2d i3)), .second, .val (.ref a49), .val (.int (1 : Int32))] [.int (1 : Int32)]))
          refine s_ifN X65 hx (hb hby at_151) (by decide) 154 rfl ?_
          refine s_aload X65 hx (hb hby at_154) rfl rfl 156 rfl ?_
          refine s_iload X65 hx (hb hby at_156) rfl 158 rfl ?_
          refine s_iconst X65 hx (hb hby at_158) (1 : Int32) rfl 159 rfl ?_
          obtain ⟨v66, T66, L66, X66, hQ66, st66⟩ := callStat X65 hx hZ hown (wd hw 5 _ rfl) (wd hw 6 _ rfl) (wd hw 7 _ rfl) (wd hw 8 _ rfl) (by decide) (rm_ok411 l Z a0 hw [] a49 c49 (FP.i2d i0) (FP.i2d i1) (FP.i2d i2) (FP.i2d i3) h58 n0 Z59 A58 (own_le (dy_i2d i1) (dy_i2d i1) (Int.le_refl _))) hh65 (L := #[.val (.int i0), .val (.int i1), .val (.int i2), .val (.int i3), .val (.int i4), .val (.int ((i4 &&& (3 : Int32)) + (1 : Int32))), .val (.double (FP.i2d i0)), .second, .val (.double (FP.i2d i1)), .second, .val (.double (FP.i2d i2)), .second, .val (.double (FP.i2d i3)), .second, .val (.ref a49), .val (.int (1 : Int32))]) (hb hby at_159) (by rw [hml]; rfl) [.ref a49, .int (1 : Int32), .int (1 : Int32)] [] rfl rfl pd_1 rfl 0 (by show 2 * 0 + _ ≤ _; exact Nat.le_of_eq rfl) (by decide) (by decide) (by decide) (by decide)
          obtain ⟨rfl, N66, hh66⟩ := hQ66
          have M66 := Fr.app M65 N66
          refine Go.via st66 ?_
          show Go p e below _ (T66.setTop (mkF m 162 #[.val (.int i0), .val (.int i1), .val (.int i2), .val (.int i3), .val (.int i4), .val (.int ((i4 &&& (3 : Int32)) + (1 : Int32))), .val (.double (FP.i2d i0)), .second, .val (.double (FP.i2d i1)), .second, .val (.double (FP.i2d i2)), .second, .val (.double (FP.i2d i3)), .second, .val (.ref a49), .val (.int (1 : Int32))] [.int (1 : Int32)]))
          refine s_ifN X66 hx (hb hby at_162) (by decide) 165 rfl ?_
          refine s_aload X66 hx (hb hby at_165) rfl rfl 167 rfl ?_
          refine s_iload X66 hx (hb hby at_167) rfl 169 rfl ?_
          refine s_iconst X66 hx (hb hby at_169) (2 : Int32) rfl 170 rfl ?_
          obtain ⟨v67, T67, L67, X67, hQ67, st67⟩ := callStat X66 hx hZ hown (wd hw 5 _ rfl) (wd hw 6 _ rfl) (wd hw 7 _ rfl) (wd hw 8 _ rfl) (by decide) (rm_ok412 l Z a0 hw [] a49 c49 (FP.i2d i0) (FP.i2d i1) (FP.i2d i2) (FP.i2d i3) h58 n0 Z59 A58 (own_le (dy_i2d i2) (dy_i2d i1) hp2)) hh66 (L := #[.val (.int i0), .val (.int i1), .val (.int i2), .val (.int i3), .val (.int i4), .val (.int ((i4 &&& (3 : Int32)) + (1 : Int32))), .val (.double (FP.i2d i0)), .second, .val (.double (FP.i2d i1)), .second, .val (.double (FP.i2d i2)), .second, .val (.double (FP.i2d i3)), .second, .val (.ref a49), .val (.int (1 : Int32))]) (hb hby at_170) (by rw [hml]; rfl) [.ref a49, .int (1 : Int32), .int (2 : Int32)] [] rfl rfl pd_1 rfl 0 (by show 2 * 0 + _ ≤ _; exact Nat.le_of_eq rfl) (by decide) (by decide) (by decide) (by decide)
          obtain ⟨rfl, N67, hh67⟩ := hQ67
          have M67 := Fr.app M66 N67
          refine Go.via st67 ?_
          show Go p e below _ (T67.setTop (mkF m 173 #[.val (.int i0), .val (.int i1), .val (.int i2), .val (.int i3), .val (.int i4), .val (.int ((i4 &&& (3 : Int32)) + (1 : Int32))), .val (.double (FP.i2d i0)), .second, .val (.double (FP.i2d i1)), .second, .val (.double (FP.i2d i2)), .second, .val (.double (FP.i2d i3)), .second, .val (.ref a49), .val (.int (1 : Int32))] [.int (1 : Int32)]))
          refine s_ifN X67 hx (hb hby at_173) (by decide) 176 rfl ?_
          refine s_aload X67 hx (hb hby at_176) rfl rfl 178 rfl ?_
          refine s_iload X67 hx (hb hby at_178) rfl 180 rfl ?_
          refine s_iconst X67 hx (hb hby at_180) (3 : Int32) rfl 181 rfl ?_
          obtain ⟨v68, T68, L68, X68, hQ68, st68⟩ := callStat X67 hx hZ hown (wd hw 5 _ rfl) (wd hw 6 _ rfl) (wd hw 7 _ rfl) (wd hw 8 _ rfl) (by decide) (rm_ok413 l Z a0 hw [] a49 c49 (FP.i2d i0) (FP.i2d i1) (FP.i2d i2) (FP.i2d i3) h58 n0 Z59 A58 (own_le (dy_i2d i3) (dy_i2d i1) hp3)) hh67 (L := #[.val (.int i0), .val (.int i1), .val (.int i2), .val (.int i3), .val (.int i4), .val (.int ((i4 &&& (3 : Int32)) + (1 : Int32))), .val (.double (FP.i2d i0)), .second, .val (.double (FP.i2d i1)), .second, .val (.double (FP.i2d i2)), .second, .val (.double (FP.i2d i3)), .second, .val (.ref a49), .val (.int (1 : Int32))]) (hb hby at_181) (by rw [hml]; rfl) [.ref a49, .int (1 : Int32), .int (3 : Int32)] [] rfl rfl pd_1 rfl 0 (by show 2 * 0 + _ ≤ _; exact Nat.le_of_eq rfl) (by decide) (by decide) (by decide) (by decide)
          obtain ⟨rfl, N68, hh68⟩ := hQ68
          have M68 := Fr.app M67 N68
          refine Go.via st68 ?_
          show Go p e below _ (T68.setTop (mkF m 184 #[.val (.int i0), .val (.int i1), .val (.int i2), .val (.int i3), .val (.int i4), .val (.int ((i4 &&& (3 : Int32)) + (1 : Int32))), .val (.double (FP.i2d i0)), .second, .val (.double (FP.i2d i1)), .second, .val (.double (FP.i2d i2)), .second, .val (.double (FP.i2d i3)), .second, .val (.ref a49), .val (.int (1 : Int32))] [.int (1 : Int32)]))
          refine s_ifN X68 hx (hb hby at_184) (by decide) 187 rfl ?_
          refine s_iconst X68 hx (hb hby at_187) (1 : Int32) rfl 188 rfl ?_
          refine s_goto X68 hx (hb hby at_188) 192 (by decide) (by decide) ?_
          exact retZ X68 hx hlk hret (hb hby at_192) (by decide) hh68 ⟨rfl, M68⟩ (by decide) (by decide)
        · skip
          refine Go.via st60 ?_
          show Go p e below _ (T60.setTop (mkF m 126 #[.val (.int i0), .val (.int i1), .val (.int i2), .val (.int i3), .val (.int i4), .val (.int ((i4 &&& (3 : Int32)) + (1 : Int32))), .val (.double (FP.i2d i0)), .second, .val (.double (FP.i2d i1)), .second, .val (.double (FP.i2d i2)), .second, .val (.double (FP.i2d i3)), .second, .val (.ref a49), .unset] [.int (2 : Int32)]))
          refine s_istore X60 hx (hb hby at_126) #[.val (.int i0), .val (.int i1), .val (.int i2), .val (.int i3), .val (.int i4), .val (.int ((i4 &&& (3 : Int32)) + (1 : Int32))), .val (.double (FP.i2d i0)), .second, .val (.double (FP.i2d i1)), .second, .val (.double (FP.i2d i2)), .second, .val (.double (FP.i2d i3)), .second, .val (.ref a49), .val (.int (2 : Int32))] rfl 128 rfl ?_
          refine s_iload X60 hx (hb hby at_128) rfl 130 rfl ?_
          refine s_ifN X60 hx (hb hby at_130) (by decide) 133 rfl ?_
          refine s_iload X60 hx (hb hby at_133) rfl 135 rfl ?_
          refine s_aload X60 hx (hb hby at_135) rfl rfl 137 rfl ?_
          refine s_len X60 hx hZ hh60 A58 (hb hby at_137) (4 : Int32) rfl 138 rfl ?_
          refine s_icmpY X60 hx (hb hby at_138) (by decide) 143 (by decide) (by decide) ?_
          refine s_aload X60 hx (hb hby at_143) rfl rfl 145 rfl ?_
          refine s_iload X60 hx (hb hby at_145) rfl 147 rfl ?_
          refine s_iconst X60 hx (hb hby at_147) (0 : Int32) rfl 148 rfl ?_
          obtain ⟨v69, T69, L69, X69, hQ69, st69⟩ := callStat X60 hx hZ hown (wd hw 5 _ rfl) (wd hw 6 _ rfl) (wd hw 7 _ rfl) (wd hw 8 _ rfl) (by decide) (rm_ok420 l Z a0 hw [] a49 c49 (FP.i2d i0) (FP.i2d i1) (FP.i2d i2) (FP.i2d i3) h58 n0 Z59 A58 (dy_lt (dy_i2d i0) (dy_i2d i2) hp0)) hh60 (L := #[.val (.int i0), .val (.int i1), .val (.int i2), .val (.int i3), .val (.int i4), .val (.int ((i4 &&& (3 : Int32)) + (1 : Int32))), .val (.double (FP.i2d i0)), .second, .val (.double (FP.i2d i1)), .second, .val (.double (FP.i2d i2)), .second, .val (.double (FP.i2d i3)), .second, .val (.ref a49), .val (.int (2 : Int32))]) (hb hby at_148) (by rw [hml]; rfl) [.ref a49, .int (2 : Int32), .int (0 : Int32)] [] rfl rfl pd_1 rfl 0 (by show 2 * 0 + _ ≤ _; exact Nat.le_of_eq rfl) (by decide) (by decide) (by decide) (by decide)
          obtain ⟨rfl, N69, hh69⟩ := hQ69
          have M69 := Fr.app M60 N69
          refine Go.via st69 ?_
          show Go p e below _ (T69.setTop (mkF m 151 #[.val (.int i0), .val (.int i1), .val (.int i2), .val (.int i3), .val (.int i4), .val (.int ((i4 &&& (3 : Int32)) + (1 : Int32))), .val (.double (FP.i2d i0)), .second, .val (.double (FP.i2d i1)), .second, .val (.double (FP.i2d i2)), .second, .val (.double (FP.i2d i3)), .second, .val (.ref a49), .val (.int (2 : Int32))] [.int (1 : Int32)]))
          refine s_ifN X69 hx (hb hby at_151) (by decide) 154 rfl ?_
          refine s_aload X69 hx (hb hby at_154) rfl rfl 156 rfl ?_
          refine s_iload X69 hx (hb hby at_156) rfl 158 rfl ?_
          refine s_iconst X69 hx (hb hby at_158) (1 : Int32) rfl 159 rfl ?_
          obtain ⟨v70, T70, L70, X70, hQ70, st70⟩ := callStat X69 hx hZ hown (wd hw 5 _ rfl) (wd hw 6 _ rfl) (wd hw 7 _ rfl) (wd hw 8 _ rfl) (by decide) (rm_ok421 l Z a0 hw [] a49 c49 (FP.i2d i0) (FP.i2d i1) (FP.i2d i2) (FP.i2d i3) h58 n0 Z59 A58 (dy_lt (dy_i2d i1) (dy_i2d i2) hp1)) hh69 (L := #[.val (.int i0), .val (.int i1), .val (.int i2), .val (.int i3), .val (.int i4), .val (.int ((i4 &&& (3 : Int32)) + (1 : Int32))), .val (.double (FP.i2d i0)), .second, .val (.double (FP.i2d i1)), .second, .val (.double (FP.i2d i2)), .second, .val (.double (FP.i2d i3)), .second, .val (.ref a49), .val (.int (2 : Int32))]) (hb hby at_159) (by rw [hml]; rfl) [.ref a49, .int (2 : Int32), .int (1 : Int32)] [] rfl rfl pd_1 rfl 0 (by show 2 * 0 + _ ≤ _; exact Nat.le_of_eq rfl) (by decide) (by decide) (by decide) (by decide)
          obtain ⟨rfl, N70, hh70⟩ := hQ70
          have M70 := Fr.app M69 N70
          refine Go.via st70 ?_
          show Go p e below _ (T70.setTop (mkF m 162 #[.val (.int i0), .val (.int i1), .val (.int i2), .val (.int i3), .val (.int i4), .val (.int ((i4 &&& (3 : Int32)) + (1 : Int32))), .val (.double (FP.i2d i0)), .second, .val (.double (FP.i2d i1)), .second, .val (.double (FP.i2d i2)), .second, .val (.double (FP.i2d i3)), .second, .val (.ref a49), .val (.int (2 : Int32))] [.int (1 : Int32)]))
          refine s_ifN X70 hx (hb hby at_162) (by decide) 165 rfl ?_
          refine s_aload X70 hx (hb hby at_165) rfl rfl 167 rfl ?_
          refine s_iload X70 hx (hb hby at_167) rfl 169 rfl ?_
          refine s_iconst X70 hx (hb hby at_169) (2 : Int32) rfl 170 rfl ?_
          obtain ⟨v71, T71, L71, X71, hQ71, st71⟩ := callStat X70 hx hZ hown (wd hw 5 _ rfl) (wd hw 6 _ rfl) (wd hw 7 _ rfl) (wd hw 8 _ rfl) (by decide) (rm_ok422 l Z a0 hw [] a49 c49 (FP.i2d i0) (FP.i2d i1) (FP.i2d i2) (FP.i2d i3) h58 n0 Z59 A58 (own_le (dy_i2d i2) (dy_i2d i2) (Int.le_refl _))) hh70 (L := #[.val (.int i0), .val (.int i1), .val (.int i2), .val (.int i3), .val (.int i4), .val (.int ((i4 &&& (3 : Int32)) + (1 : Int32))), .val (.double (FP.i2d i0)), .second, .val (.double (FP.i2d i1)), .second, .val (.double (FP.i2d i2)), .second, .val (.double (FP.i2d i3)), .second, .val (.ref a49), .val (.int (2 : Int32))]) (hb hby at_170) (by rw [hml]; rfl) [.ref a49, .int (2 : Int32), .int (2 : Int32)] [] rfl rfl pd_1 rfl 0 (by show 2 * 0 + _ ≤ _; exact Nat.le_of_eq rfl) (by decide) (by decide) (by decide) (by decide)
          obtain ⟨rfl, N71, hh71⟩ := hQ71
          have M71 := Fr.app M70 N71
          refine Go.via st71 ?_
          show Go p e below _ (T71.setTop (mkF m 173 #[.val (.int i0), .val (.int i1), .val (.int i2), .val (.int i3), .val (.int i4), .val (.int ((i4 &&& (3 : Int32)) + (1 : Int32))), .val (.double (FP.i2d i0)), .second, .val (.double (FP.i2d i1)), .second, .val (.double (FP.i2d i2)), .second, .val (.double (FP.i2d i3)), .second, .val (.ref a49), .val (.int (2 : Int32))] [.int (1 : Int32)]))
          refine s_ifN X71 hx (hb hby at_173) (by decide) 176 rfl ?_
          refine s_aload X71 hx (hb hby at_176) rfl rfl 178 rfl ?_
          refine s_iload X71 hx (hb hby at_178) rfl 180 rfl ?_
          refine s_iconst X71 hx (hb hby at_180) (3 : Int32) rfl 181 rfl ?_
          obtain ⟨v72, T72, L72, X72, hQ72, st72⟩ := callStat X71 hx hZ hown (wd hw 5 _ rfl) (wd hw 6 _ rfl) (wd hw 7 _ rfl) (wd hw 8 _ rfl) (by decide) (rm_ok423 l Z a0 hw [] a49 c49 (FP.i2d i0) (FP.i2d i1) (FP.i2d i2) (FP.i2d i3) h58 n0 Z59 A58 (own_le (dy_i2d i3) (dy_i2d i2) hp3)) hh71 (L := #[.val (.int i0), .val (.int i1), .val (.int i2), .val (.int i3), .val (.int i4), .val (.int ((i4 &&& (3 : Int32)) + (1 : Int32))), .val (.double (FP.i2d i0)), .second, .val (.double (FP.i2d i1)), .second, .val (.double (FP.i2d i2)), .second, .val (.double (FP.i2d i3)), .second, .val (.ref a49), .val (.int (2 : Int32))]) (hb hby at_181) (by rw [hml]; rfl) [.ref a49, .int (2 : Int32), .int (3 : Int32)] [] rfl rfl pd_1 rfl 0 (by show 2 * 0 + _ ≤ _; exact Nat.le_of_eq rfl) (by decide) (by decide) (by decide) (by decide)
          obtain ⟨rfl, N72, hh72⟩ := hQ72
          have M72 := Fr.app M71 N72
          refine Go.via st72 ?_
          show Go p e below _ (T72.setTop (mkF m 184 #[.val (.int i0), .val (.int i1), .val (.int i2), .val (.int i3), .val (.int i4), .val (.int ((i4 &&& (3 : Int32)) + (1 : Int32))), .val (.double (FP.i2d i0)), .second, .val (.double (FP.i2d i1)), .second, .val (.double (FP.i2d i2)), .second, .val (.double (FP.i2d i3)), .second, .val (.ref a49), .val (.int (2 : Int32))] [.int (1 : Int32)]))
          refine s_ifN X72 hx (hb hby at_184) (by decide) 187 rfl ?_
          refine s_iconst X72 hx (hb hby at_187) (1 : Int32) rfl 188 rfl ?_
          refine s_goto X72 hx (hb hby at_188) 192 (by decide) (by decide) ?_
          exact retZ X72 hx hlk hret (hb hby at_192) (by decide) hh72 ⟨rfl, M72⟩ (by decide) (by decide)
        · skip
          refine Go.via st60 ?_
          show Go p e below _ (T60.setTop (mkF m 126 #[.val (.int i0), .val (.int i1), .val (.int i2), .val (.int i3), .val (.int i4), .val (.int ((i4 &&& (3 : Int32)) + (1 : Int32))), .val (.double (FP.i2d i0)), .second, .val (.double (FP.i2d i1)), .second, .val (.double (FP.i2d i2)), .second, .val (.double (FP.i2d i3)), .second, .val (.ref a49), .unset] [.int (3 : Int32)]))
          refine s_istore X60 hx (hb hby at_126) #[.val (.int i0), .val (.int i1), .val (.int i2), .val (.int i3), .val (.int i4), .val (.int ((i4 &&& (3 : Int32)) + (1 : Int32))), .val (.double (FP.i2d i0)), .second, .val (.double (FP.i2d i1)), .second, .val (.double (FP.i2d i2)), .second, .val (.double (FP.i2d i3)), .second, .val (.ref a49), .val (.int (3 : Int32))] rfl 128 rfl ?_
          refine s_iload X60 hx (hb hby at_128) rfl 130 rfl ?_
          refine s_ifN X60 hx (hb hby at_130) (by decide) 133 rfl ?_
          refine s_iload X60 hx (hb hby at_133) rfl 135 rfl ?_
          refine s_aload X60 hx (hb hby at_135) rfl rfl 137 rfl ?_
          refine s_len X60 hx hZ hh60 A58 (hb hby at_137) (4 : Int32) rfl 138 rfl ?_
          refine s_icmpY X60 hx (hb hby at_138) (by decide) 143 (by decide) (by decide) ?_
          refine s_aload X60 hx (hb hby at_143) rfl rfl 145 rfl ?_
          refine s_iload X60 hx (hb hby at_145) rfl 147 rfl ?_
          refine s_iconst X60 hx (hb hby at_147) (0 : Int32) rfl 148 rfl ?_
          obtain ⟨v73, T73, L73, X73, hQ73, st73⟩ := callStat X60 hx hZ hown (wd hw 5 _ rfl) (wd hw 6 _ rfl) (wd hw 7 _ rfl) (wd hw 8 _ rfl) (by decide) (rm_ok430 l Z a0 hw [] a49 c49 (FP.i2d i0) (FP.i2d i1) (FP.i2d i2) (FP.i2d i3) h58 n0 Z59 A58 (dy_lt (dy_i2d i0) (dy_i2d i3) hp0)) hh60 (L := #[.val (.int i0), .val (.int i1), .val (.int i2), .val (.int i3), .val (.int i4), .val (.int ((i4 &&& (3 : Int32)) + (1 : Int32))), .val (.double (FP.i2d i0)), .second, .val (.double (FP.i2d i1)), .second, .val (.double (FP.i2d i2)), .second, .val (.double (FP.i2d i3)), .second, .val (.ref a49), .val (.int (3 : Int32))]) (hb hby at_148) (by rw [hml]; rfl) [.ref a49, .int (3 : Int32), .int (0 : Int32)] [] rfl rfl pd_1 rfl 0 (by show 2 * 0 + _ ≤ _; exact Nat.le_of_eq rfl) (by decide) (by decide) (by decide) (by decide)
          obtain ⟨rfl, N73, hh73⟩ := hQ73
          have M73 := Fr.app M60 N73
          refine Go.via st73 ?_
          show Go p e below _ (T73.setTop (mkF m 151 #[.val (.int i0), .val (.int i1), .val (.int i2), .val (.int i3), .val (.int i4), .val (.int ((i4 &&& (3 : Int32)) + (1 : Int32))), .val (.double (FP.i2d i0)), .second, .val (.double (FP.i2d i1)), .second, .val (.double (FP.i2d i2)), .second, .val (.double (FP.i2d i3)), .second, .val (.ref a49), .val (.int (3 : Int32))] [.int (1 : Int32)]))
          refine s_ifN X73 hx (hb hby at_151) (by decide) 154 rfl ?_
          refine s_aload X73 hx (hb hby at_154) rfl rfl 156 rfl ?_
          refine s_iload X73 hx (hb hby at_156) rfl 158 rfl ?_
          refine s_iconst X73 hx (hb hby at_158) (1 : Int32) rfl 159 rfl ?_
          obtain ⟨v74, T74, L74, X74, hQ74, st74⟩ := callStat X73 hx hZ hown (wd hw 5 _ rfl) (wd hw 6 _ rfl) (wd hw 7 _ rfl) (wd hw 8 _ rfl) (by decide) (rm_ok431 l Z a0 hw [] a49 c49 (FP.i2d i0) (FP.i2d i1) (FP.i2d i2) (FP.i2d i3) h58 n0 Z59 A58 (dy_lt (dy_i2d i1) (dy_i2d i3) hp1)) hh73 (L := #[.val (.int i0), .val (.int i1), .val (.int i2), .val (.int i3), .val (.int i4), .val (.int ((i4 &&& (3 : Int32)) + (1 : Int32))), .val (.double (FP.i2d i0)), .second, .val (.double (FP.i2d i1)), .second, .val (.double (FP.i2d i2)), .second, .val (.double (FP.i2d i3)), .second, .val (.ref a49), .val (.int (3 : Int32))]) (hb hby at_159) (by rw [hml]; rfl) [.ref a49, .int (3 : Int32), .int (1 : Int32)] [] rfl rfl pd_1 rfl 0 (by show 2 * 0 + _ ≤ _; exact Nat.le_of_eq rfl) (by decide) (by decide) (by decide) (by decide)
          obtain ⟨rfl, N74, hh74⟩ := hQ74
          have M74 := Fr.app M73 N74
          refine Go.via st74 ?_
          show Go p e below _ (T74.setTop (mkF m 162 #[.val (.int i0), .val (.int i1), .val (.int i2), .val (.int i3), .val (.int i4), .val (.int ((i4 &&& (3 : Int32)) + (1 : Int32))), .val (.double (FP.i2d i0)), .second, .val (.double (FP.i2d i1)), .second, .val (.double (FP.i2d i2)), .second, .val (.double (FP.i2d i3)), .second, .val (.ref a49), .val (.int (3 : Int32))] [.int (1 : Int32)]))
          refine s_ifN X74 hx (hb hby at_162) (by decide) 165 rfl ?_
          refine s_aload X74 hx (hb hby at_165) rfl rfl 167 rfl ?_
          refine s_iload X74 hx (hb hby at_167) rfl 169 rfl ?_
          refine s_iconst X74 hx (hb hby at_169) (2 : Int32) rfl 170 rfl ?_
          obtain ⟨v75, T75, L75, X75, hQ75, st75⟩ := callStat X74 hx hZ hown (wd hw 5 _ rfl) (wd hw 6 _ rfl) (wd hw 7 _ rfl) (wd hw 8 _ rfl) (by decide) (rm_ok432 l Z a0 hw [] a49 c49 (FP.i2d i0) (FP.i2d i1) (FP.i2d i2) (FP.i2d i3) h58 n0 Z59 A58 (dy_lt (dy_i2d i2) (dy_i2d i3) hp2)) hh74 (L := #[.val (.int i0), .val (.int i1), .val (.int i2), .val (.int i3), .val (.int i4), .val (.int ((i4 &&& (3 : Int32)) + (1 : Int32))), .val (.double (FP.i2d i0)), .second, .val (.double (FP.i2d i1)), .second, .val (.double (FP.i2d i2)), .second, .val (.double (FP.i2d i3)), .second, .val (.ref a49), .val (.int (3 : Int32))]) (hb hby at_170) (by rw [hml]; rfl) [.ref a49, .int (3 : Int32), .int (2 : Int32)] [] rfl rfl pd_1 rfl 0 (by show 2 * 0 + _ ≤ _; exact Nat.le_of_eq rfl) (by decide) (by decide) (by decide) (by decide)
          obtain ⟨rfl, N75, hh75⟩ := hQ75
          have M75 := Fr.app M74 N75
          refine Go.via st75 ?_
          show Go p e below _ (T75.setTop (mkF m 173 #[.val (.int i0), .val (.int i1), .val (.int i2), .val (.int i3), .val (.int i4), .val (.int ((i4 &&& (3 : Int32)) + (1 : Int32))), .val (.double (FP.i2d i0)), .second, .val (.double (FP.i2d i1)), .second, .val (.double (FP.i2d i2)), .second, .val (.double (FP.i2d i3)), .second, .val (.ref a49), .val (.int (3 : Int32))] [.int (1 : Int32)]))
          refine s_ifN X75 hx (hb hby at_173) (by decide) 176 rfl ?_
          refine s_aload X75 hx (hb hby at_176) rfl rfl 178 rfl ?_
          refine s_iload X75 hx (hb hby at_178) rfl 180 rfl ?_
          refine s_iconst X75 hx (hb hby at_180) (3 : Int32) rfl 181 rfl ?_
          obtain ⟨v76, T76, L76, X76, hQ76, st76⟩ := callStat X75 hx hZ hown (wd hw 5 _ rfl) (wd hw 6 _ rfl) (wd hw 7 _ rfl) (wd hw 8 _ rfl) (by decide) (rm_ok433 l Z a0 hw [] a49 c49 (FP.i2d i0) (FP.i2d i1) (FP.i2d i2) (FP.i2d i3) h58 n0 Z59 A58 (own_le (dy_i2d i3) (dy_i2d i3) (Int.le_refl _))) hh75 (L := #[.val (.int i0), .val (.int i1), .val (.int i2), .val (.int i3), .val (.int i4), .val (.int ((i4 &&& (3 : Int32)) + (1 : Int32))), .val (.double (FP.i2d i0)), .second, .val (.double (FP.i2d i1)), .second, .val (.double (FP.i2d i2)), .second, .val (.double (FP.i2d i3)), .second, .val (.ref a49), .val (.int (3 : Int32))]) (hb hby at_181) (by rw [hml]; rfl) [.ref a49, .int (3 : Int32), .int (3 : Int32)] [] rfl rfl pd_1 rfl 0 (by show 2 * 0 + _ ≤ _; exact Nat.le_of_eq rfl) (by decide) (by decide) (by decide) (by decide)
          obtain ⟨rfl, N76, hh76⟩ := hQ76
          have M76 := Fr.app M75 N76
          refine Go.via st76 ?_
          show Go p e below _ (T76.setTop (mkF m 184 #[.val (.int i0), .val (.int i1), .val (.int i2), .val (.int i3), .val (.int i4), .val (.int ((i4 &&& (3 : Int32)) + (1 : Int32))), .val (.double (FP.i2d i0)), .second, .val (.double (FP.i2d i1)), .second, .val (.double (FP.i2d i2)), .second, .val (.double (FP.i2d i3)), .second, .val (.ref a49), .val (.int (3 : Int32))] [.int (1 : Int32)]))
          refine s_ifN X76 hx (hb hby at_184) (by decide) 187 rfl ?_
          refine s_iconst X76 hx (hb hby at_187) (1 : Int32) rfl 188 rfl ?_
          refine s_goto X76 hx (hb hby at_188) 192 (by decide) (by decide) ?_
          exact retZ X76 hx hlk hret (hb hby at_192) (by decide) hh76 ⟨rfl, M76⟩ (by decide) (by decide)
set_option maxRecDepth 65536 in
set_option maxHeartbeats 40000000 in
theorem comes_1 {Post : Tables → Env → Array Value → State → Outcome → State → Prop} (hpost : ∀ tb e args s v u, (limb_1_1.after args s (.returned v) u = true ∧ limb_1_2.after args s (.returned v) u = true ∧ True) → FrameEnd s (.returned v) u (Jvm.fieldLocs frame_1_writes args s ++ Jvm.arrayLocs frame_1_arrays args s ++ Jvm.staticLocs frame_1_statics s) 16 128 → Post tb e args s (.returned v) u) :
    ArmFor flags0 classFile x code maxLocals ret World_1 tables_1 room_1 Calls_1 rest_1 Pre_1 Post := by
  intro l hfl _ _ p e ha hc hk s m args below hf hA hF happ hP
  obtain ⟨hcalls, hrest, hpre⟩ := hP
  obtain ⟨-, -, -, hnamed, -, -, -, hat⟩ := (Spec.applies_iff hf).mp happ
  obtain ⟨hg, hn⟩ := and_e (Cond.before_iff.mp (show (Jvm.Cond.and given_1 narrow_1).before args s = true from hpre))
  obtain ⟨hg0, hg1⟩ := and_e hg
  obtain ⟨w0, w1, w2, w3, w4, rfl⟩ : ∃ w0 w1 w2 w3 w4 : Value, args = #[w0, w1, w2, w3, w4] := by
    have hs : args.size = 5 := by simpa [Cond.value, given_1] using hg0
    obtain ⟨L⟩ := args
    match L, hs with
    | [w0, w1, w2, w3, w4], _ => exact ⟨w0, w1, w2, w3, w4, rfl⟩
  have hw := fun d (hd : d ∈ tables_1) => atoms_spec (ws := Jvm.Cond.code x code maxLocals ret :: tables_1) hat d (List.mem_cons_of_mem _ hd)
  obtain ⟨ga0, hg2⟩ := and_e hg1
  obtain ⟨ga1, hg3⟩ := and_e hg2
  obtain ⟨ga2, hg4⟩ := and_e hg3
  obtain ⟨ga3, hg5⟩ := and_e hg4
  have ga4 := hg5
  obtain ⟨i0, ei0⟩ := is_v ga0
  obtain rfl : w0 = .int i0 := Option.some.inj ei0
  obtain ⟨i1, ei1⟩ := is_v ga1
  obtain rfl : w1 = .int i1 := Option.some.inj ei1
  obtain ⟨i2, ei2⟩ := is_v ga2
  obtain rfl : w2 = .int i2 := Option.some.inj ei2
  obtain ⟨i3, ei3⟩ := is_v ga3
  obtain rfl : w3 = .int i3 := Option.some.inj ei3
  obtain ⟨i4, ei4⟩ := is_v ga4
  obtain rfl : w4 = .int i4 := Option.some.inj ei4
  obtain ⟨n, o, h1, h2, h3, _, L, rfl, ⟨rfl, N⟩, hq⟩ := rm_law l s _ hw tables_1 i0 i1 i2 i3 i4 s.heap s.heap.size (Nat.le_refl _) p e ha hc hk s m _ below hf ((Spec.applies_iff_loose hf).mp happ).1 ⟨rfl, State.Warmed39.refl s, rfl⟩ trivial
  refine ⟨n, _, h1, h2, h3, hpost _ _ _ _ _ _ ⟨Cond.after_iff.mpr rfl, Cond.after_iff.mpr (eq_i res_at (Term.int_eval (1)) rfl), trivial⟩ ⟨hq.1, hq.2.1, (hq.2.2.sift fun y hy => Or.inr (N y hy)).mono (by decide) (by decide)⟩⟩
theorem main_1_1 : Claimed_1_1 := comes_1 fun _ _ _ _ _ _ h hF => ⟨h.1, hF⟩
theorem main_1_2 : Claimed_1_2 := comes_1 fun _ _ _ _ _ _ h hF => ⟨h.2.1, hF⟩
end Jvm.Pilot.@@N@@
namespace Jvm.Pilot.@@N@@
open Jvm Jvm.ClassFile Sem Op Lib Jvm.Free Jvm.Stand Jvm.Pilot.@@N@@.Jvm.D
/-! MADE BY PROGRAM (witnessworld.py) out of the Statement's table words and the real class files: 11 classes; the members and pool entries that the words name. The judged class is class 1, her method 1. -/
namespace start1
open Jvm.ClassFile
def u (s : String) : CpInfo := .utf8 (stringToUtf16 s)
/-- a pool by its gaps: so many unusable entries, then the entry; so many at the end -/
def gap : Nat → List CpInfo → List CpInfo
  | 0, r => r
  | n + 1, r => .unusable :: gap n r
def poolList (es : List (Nat × CpInfo)) (last : Nat) : List CpInfo := es.foldr (fun e r => gap e.1 (e.2 :: r)) (gap last [])
def pool (es : List (Nat × CpInfo)) (last : Nat) : Array CpInfo := ⟨poolList es last⟩
def fileOf (pool : Array CpInfo) (this : Nat) (attrs : Array Attribute := #[]) (ms : Array MethodInfo := #[]) (fl : Nat := 33) (sup : Nat := 0) (ifs : Array Nat := #[]) (fds : Array FieldInfo := #[]) : ClassFile where
  minorVersion := 0
  majorVersion := 65
  constantPool := pool
  accessFlags := fl
  thisClass := this
  superClass := sup
  interfaces := ifs
  fields := fds
  methods := ms
  attributes := attrs
def plain (name : String) (sup : Option ClassId) : Class where
  name := name
  kind := .ordinary
  loader := none
  accessFlags := 33
  super := sup
  interfaces := #[]
  cf := none
  fields := #[]
  methods := #[]
  instanceTypes := #[]
  staticTypes := #[]
  resolved := #[]
  callSites := []
  init := .initialized
  statics := none
  mirror := none

def pool0 : Array CpInfo := pool [(5, u "<init>"), (0, u "()V"), (1, .class_ 10), (1, u "java/lang/Object")] 113

def k0m0 : Method := { name := "<init>", desc := "()V", sig := { parameters := [], returnType := none }, accessFlags := 1, code := none }
/-- java/lang/Object -/
def k0 : Class := { plain "java/lang/Object" none with
  accessFlags := 33
  interfaces := #[]
  cf := some (fileOf pool0 8 #[] #[{ accessFlags := 1, nameIndex := 5, descriptorIndex := 6, attributes := #[] }] 33 0 #[] #[])
  fields := #[]
  methods := #[k0m0]
  instanceTypes := #[]
  staticTypes := #[]
  resolved := Array.replicate 124 none
  statics := none }

def pool1 : Array CpInfo := pool [(2, .class_ 4), (1, u "java/lang/Object"), (0, u "<init>"), (0, u "()V"), (0, .methodref 8 9), (0, .class_ 10), (0, .nameAndType 11 12), (0, u "com/example/trunkwright/trunkwright/planning/Office"), (0, u "busiest"), (0, u "([D)I"), (0, .methodref 14 15), (0, .class_ 16), (0, .nameAndType 17 18), (0, u "com/example/trunkwright/trunkwright/planning/OfficeBusiestPinLaw"), (0, u "ok"), (0, u "([DII)Z"), (2, u "law"), (0, u "(IIIII)Z")] 5

def k1m0 : Method := { name := "<init>", desc := "()V", sig := { parameters := [], returnType := none }, accessFlags := 2, code := none }
def k1c1 : Code := { maxStack := 5, maxLocals := 16, code := code, exceptionTable := #[], attributes := #[] }
def k1m1 : Method := { name := "law", desc := "(IIIII)Z", sig := { parameters := [.int, .int, .int, .int, .int], returnType := some .boolean }, accessFlags := 9, code := some k1c1 }
def k1c2 : Code := { maxStack := 4, maxLocals := 3, code := method_3_code, exceptionTable := #[], attributes := #[] }
def k1m2 : Method := { name := "ok", desc := "([DII)Z", sig := { parameters := [(.array .double), .int, .int], returnType := some .boolean }, accessFlags := 10, code := some k1c2 }
/-- com/example/trunkwright/trunkwright/planning/OfficeBusiestPinLaw -/
def k1 : Class := { plain "com/example/trunkwright/trunkwright/planning/OfficeBusiestPinLaw" (some 0) with
  accessFlags := 49
  interfaces := #[]
  cf := some (fileOf pool1 14 #[] #[{ accessFlags := 2, nameIndex := 5, descriptorIndex := 6, attributes := #[] }, { accessFlags := 9, nameIndex := 21, descriptorIndex := 22, attributes := #[] }, { accessFlags := 10, nameIndex := 17, descriptorIndex := 18, attributes := #[] }] 49 2 #[] #[])
  fields := #[]
  methods := #[k1m0, k1m1, k1m2]
  instanceTypes := #[]
  staticTypes := #[]
  resolved := Array.replicate 28 none
  statics := none }

def pool2 : Array CpInfo := pool [(2, .class_ 4), (1, u "java/lang/Object"), (9, .class_ 16), (1, u "com/example/trunkwright/trunkwright/planning/Office"), (0, u "groups"), (0, u "Ljava/util/List;"), (2, u "hours"), (25, u "loads"), (0, u "[[D"), (18, u "busiest"), (0, u "([D)I"), (21, u "CCS_PER_ERLANG"), (0, u "D")] 44

def k2c0 : Code := { maxStack := 4, maxLocals := 3, code := prog_20_method_8_code, exceptionTable := #[], attributes := #[] }
def k2m0 : Method := { name := "busiest", desc := "([D)I", sig := { parameters := [(.array .double)], returnType := some .int }, accessFlags := 8, code := some k2c0 }
/-- com/example/trunkwright/trunkwright/planning/Office -/
def k2 : Class := { plain "com/example/trunkwright/trunkwright/planning/Office" (some 0) with
  accessFlags := 49
  interfaces := #[]
  cf := some (fileOf pool2 14 #[] #[{ accessFlags := 8, nameIndex := 67, descriptorIndex := 68, attributes := #[] }] 49 2 #[] #[{ accessFlags := 25, nameIndex := 90, descriptorIndex := 91, attributes := #[] }, { accessFlags := 18, nameIndex := 17, descriptorIndex := 18, attributes := #[] }, { accessFlags := 18, nameIndex := 21, descriptorIndex := 18, attributes := #[] }, { accessFlags := 18, nameIndex := 47, descriptorIndex := 48, attributes := #[] }])
  fields := #[{ name := "CCS_PER_ERLANG", type := .double, accessFlags := 25, slot := 0, constantValue := 0 }, { name := "groups", type := (.object "java/util/List"), accessFlags := 18, slot := 0, constantValue := 0 }, { name := "hours", type := (.object "java/util/List"), accessFlags := 18, slot := 1, constantValue := 0 }, { name := "loads", type := (.array (.array .double)), accessFlags := 18, slot := 2, constantValue := 0 }]
  methods := #[k2m0]
  instanceTypes := #[(.object "java/util/List"), (.object "java/util/List"), (.array (.array .double))]
  staticTypes := #[.double]
  resolved := Array.replicate 136 none
  statics := none }

def pool3 : Array CpInfo := pool [(1, u "java/lang/Cloneable"), (0, .class_ 1), (0, u "java/lang/Object"), (0, .class_ 3)] 3

/-- java/lang/Cloneable -/
def k3 : Class := { plain "java/lang/Cloneable" (some 0) with
  accessFlags := 1537
  interfaces := #[]
  cf := some (fileOf pool3 2 #[] #[] 1537 4 #[] #[])
  fields := #[]
  methods := #[]
  instanceTypes := #[]
  staticTypes := #[]
  resolved := Array.replicate 8 none
  statics := none }

def pool4 : Array CpInfo := pool [(1, u "java/io/Serializable"), (0, .class_ 1), (0, u "java/lang/Object"), (0, .class_ 3)] 3

/-- java/io/Serializable -/
def k4 : Class := { plain "java/io/Serializable" (some 0) with
  accessFlags := 1537
  interfaces := #[]
  cf := some (fileOf pool4 2 #[] #[] 1537 4 #[] #[])
  fields := #[]
  methods := #[]
  instanceTypes := #[]
  staticTypes := #[]
  resolved := Array.replicate 8 none
  statics := none }

/-- the primitive byte -/
def k5 : Class := { plain "byte" none with kind := .primitive 'B', accessFlags := 0x411 }
/-- [B -/
def k6 : Class := { plain "[B" (some 0) with kind := .array 5 .byte, interfaces := #[3, 4], accessFlags := 1041 }

/-- the primitive double -/
def k7 : Class := { plain "double" none with kind := .primitive 'D', accessFlags := 0x411 }
/-- [D -/
def k8 : Class := { plain "[D" (some 0) with kind := .array 7 .double, interfaces := #[3, 4], accessFlags := 1041 }

/-- the primitive int -/
def k9 : Class := { plain "int" none with kind := .primitive 'I', accessFlags := 0x411 }
/-- [I -/
def k10 : Class := { plain "[I" (some 0) with kind := .array 9 .int, interfaces := #[3, 4], accessFlags := 1041 }

def heap : Heap := #[]
def classes : Array Class := #[k0, k1, k2, k3, k4, k5, k6, k7, k8, k9, k10]
def interned : List (Array UInt16 × Addr) := []
def slotsUsed : Nat := 0
def theMethod : MethodId := ⟨1, 1⟩
def args0 : Array Value := #[.int 3, .int 2, .int 5, .int 1, .int 2]
def aboutOver (below : List Frame) : State where
  vm := { classes := classes, interned := interned.toArray }
  heap := heap
  slotsUsed := slotsUsed
  threads := #[{ frames := .invoking theMethod args0 :: below }]
def below0 : List Frame := [.native { method := ⟨0, 0⟩, args := #[] }]
def about1 : State := aboutOver below0
def p0 : Program := .bare "" "" ""
def e0 : Env := launch0.env 0 0 0
theorem w_frames : about1.frames = Frame.invoking theMethod args0 :: below0 := rfl
set_option maxRecDepth 65536 in
theorem w_args : argsFit about1.vm theMethod args0 = true := by decide +kernel
set_option maxRecDepth 65536 in
theorem w_heap : heapFits about1 = true := by decide +kernel
set_option maxRecDepth 65536 in
theorem w_runnable : about1.curStatus? = some .runnable := by decide +kernel
set_option maxRecDepth 65536 in
theorem w_alone : about1.alone = true := by decide +kernel
set_option maxRecDepth 65536 in
theorem w_named : about1.methodNamed? x = some theMethod := by decide +kernel
set_option maxRecDepth 65536 in
theorem w_hears : about1.hears theMethod below0 = true := by decide +kernel
set_option maxRecDepth 65536 in
theorem w_ripe : about1.ripe theMethod args0 below0 = true := by decide +kernel
theorem w_running : about1.status = .running := rfl
set_option maxRecDepth 65536 in
theorem w_room : about1.hasRoom e0.platform room_1 = true :=
  launch0.hasRoom_least _ room_1 (by decide +kernel) (by decide +kernel) (by decide +kernel) (by decide +kernel) (by decide +kernel) (by decide +kernel)
theorem allAtoms_all (ts : List Jvm.Cond) (a : Array Jvm.Value) (st : Jvm.State) : (allAtoms ts).before a st = ts.all (fun c => c.before a st) := by
  induction ts with
  | nil => rfl
  | cons c t ih =>
    show (Jvm.Cond.and c (allAtoms t)).before a st = _
    rw [Jvm.Cond.before_and, ih, List.all_cons]
def words1 : List Jvm.Cond := Jvm.Cond.code x code maxLocals ret :: tables_1
/-- a 'code' word, met by the world's own term for the bytes: nothing is compared byte by byte -/
theorem code_word {y : MethodName} {bytes : ByteArray} {mx : Nat} {rt : Option FieldType} {a : Array Value} {s : State} {m : MethodId} {meth : Method} {c : Code} (h1 : s.methodNamed? y = some m) (h2 : s.vm.method? m = some meth) (h3 : meth.code = some c) (h4 : c.code = bytes)
    (h5 : (c.maxLocals == mx && c.exceptionTable.isEmpty && decide (c.maxStack ≤ mostOperands) && decide (meth.sig.returnType = rt) && !meth.locks && decide (parseMethodDescriptor y.desc = some meth.sig)) = true) : (Jvm.Cond.code y bytes mx rt).before a s = true := by
  simp only [Bool.and_eq_true, beq_iff_eq, Bool.not_eq_true', decide_eq_true_eq] at h5
  obtain ⟨⟨⟨⟨⟨g1, g2⟩, g3⟩, g4⟩, g5⟩, g6⟩ := h5
  simp [Cond.before, Cond.holds, Cond.value, h1, h2, h3, h4, g1, g2, g3, g4, g5, g6]
def isCode : Jvm.Cond → Bool
  | .code _ _ _ _ => true
  | _ => false
theorem all_split {L : List Jvm.Cond} {P : Jvm.Cond → Bool} (h1 : L.all (fun c => isCode c || P c) = true) (h2 : ∀ c ∈ L.filter isCode, P c = true) : L.all P = true := by
  refine List.all_eq_true.mpr fun c hc => ?_
  have h := List.all_eq_true.mp h1 c hc
  rcases Bool.eq_false_or_eq_true (isCode c) with hi | hi
  · exact h2 c (List.mem_filter.mpr ⟨hc, hi⟩)
  · simpa [hi] using h
set_option maxRecDepth 65536 in
theorem w_c0 : (Jvm.Cond.code x code maxLocals ret).before args0 about1 = true := code_word (m := ⟨1, 1⟩) (meth := k1m1) (c := k1c1) (by decide +kernel) rfl rfl rfl (by decide +kernel)
set_option maxRecDepth 65536 in
theorem w_c1 : (Jvm.Cond.code ({ cls := "com/example/trunkwright/trunkwright/planning/Office", name := "busiest", desc := "([D)I" } : Jvm.MethodName) prog_20_method_8_code (3 : Nat) (Option.some Jvm.ClassFile.FieldType.int)).before args0 about1 = true := code_word (m := ⟨2, 0⟩) (meth := k2m0) (c := k2c0) (by decide +kernel) rfl rfl rfl (by decide +kernel)
set_option maxRecDepth 65536 in
theorem w_c2 : (Jvm.Cond.code ({ cls := "com/example/trunkwright/trunkwright/planning/OfficeBusiestPinLaw", name := "ok", desc := "([DII)Z" } : Jvm.MethodName) method_3_code (3 : Nat) (Option.some Jvm.ClassFile.FieldType.boolean)).before args0 about1 = true := code_word (m := ⟨1, 2⟩) (meth := k1m2) (c := k1c2) (by decide +kernel) rfl rfl rfl (by decide +kernel)
def codes1 : List Jvm.Cond := [Jvm.Cond.code x code maxLocals ret, Jvm.Cond.code ({ cls := "com/example/trunkwright/trunkwright/planning/Office", name := "busiest", desc := "([D)I" } : Jvm.MethodName) prog_20_method_8_code (3 : Nat) (Option.some Jvm.ClassFile.FieldType.int), Jvm.Cond.code ({ cls := "com/example/trunkwright/trunkwright/planning/OfficeBusiestPinLaw", name := "ok", desc := "([DII)Z" } : Jvm.MethodName) method_3_code (3 : Nat) (Option.some Jvm.ClassFile.FieldType.boolean)]
set_option maxRecDepth 65536 in
theorem codes_eq : words1.filter isCode = codes1 := rfl
theorem w_codes : ∀ c ∈ words1.filter isCode, c.before args0 about1 = true := by
  rw [codes_eq]
  intro c hc
  simp only [codes1, List.mem_cons, List.not_mem_nil, or_false] at hc
  rcases hc with rfl | rfl | rfl
  · exact w_c0
  · exact w_c1
  · exact w_c2
set_option maxRecDepth 65536 in
theorem w_t1 : words1.all (fun c => isCode c || c.before args0 about1) = true := by decide +kernel
theorem w_tables : (allAtoms (Jvm.Cond.code x code maxLocals ret :: tables_1)).before args0 about1 = true := by
  rw [allAtoms_all]
  show words1.all (fun c => c.before args0 about1) = true
  refine all_split ?_ w_codes
  rw [w_t1]
set_option maxRecDepth 65536 in
theorem w_case : (Jvm.Cond.and given_1 narrow_1).before args0 about1 = true := by decide +kernel
theorem w_applies : (headSpec (Jvm.Cond.code x code maxLocals ret :: tables_1) room_1).applies x e0.platform about1 = true :=
  (Spec.applies_iff w_frames).mpr ⟨w_running, w_runnable, w_alone, w_named, w_hears, w_ripe, w_room, w_tables⟩
theorem atStart : AtStart classFile x code maxLocals ret World_1 tables_1 room_1 Calls_1 rest_1 Pre_1 launch0 p0 e0 about1 theMethod args0 below0 :=
  ⟨lists_1, trivial, launch0.admits_env _ _ _, launch0.least_env, fairChoices_fair.cas, fairChoices_fair.clock, w_frames, w_args, w_heap, w_applies, trivial, trivial, w_case⟩
end start1
theorem witness_1 : WitnessClaimed_1 := ⟨start1.p0, start1.e0, start1.about1, start1.theMethod, start1.args0, start1.below0, start1.atStart⟩
end Jvm.Pilot.@@N@@
