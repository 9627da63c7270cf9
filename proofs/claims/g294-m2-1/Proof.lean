import JvmDerived
import JvmDerived.Pilot.@@N@@Statement
import JvmDerived.Pilot.@@N@@Code
set_option linter.unusedVariables false
set_option linter.unusedSimpArgs false
namespace Jvm.OwnGo
open Sem ClassFile Op Lib Jvm.Stand Jvm.Free Jvm.LawKit Jvm.RoadKit Jvm.Free.Fl
/-- from S the run comes to an end of which P speaks -/
def Go (p : Program) (e : Env) (below : List Frame) (P : Outcome → State → Prop) (S : State) : Prop := ∃ s₂ o, Steps p.tables e below S s₂ ∧ s₂.status = .running ∧ Ended s₂ below o ∧ P o s₂
/-- what a body's end says -/
def EndsAt (s : State) (Q : Option Value → Heap → List Loc → Prop) (rm : Room) : Outcome → State → Prop := fun o U' => ∃ v L, o = .returned v ∧ Q v U'.heap L ∧ FrameEnd s o U' L rm.cells rm.slots
/-- a body's contract -/
def Ct (l : Launch) (Z : State) (y : MethodName) (bytes : ByteArray) (ml : Nat) (ret : Option FieldType) (ws : List Jvm.Cond) (rm : Room) (as : Array Value) (h0 : Heap) (Q : Option Value → Heap → List Loc → Prop) : Prop :=
  MetFree l y (head1 (Jvm.Cond.code y bytes ml ret :: ws) rm) (fun a U => a = as ∧ Z.Warmed39 U.vm ∧ U.heap = h0) (fun _ _ _ _ _ => True) (fun _ U o U' => EndsAt U Q rm o U')
section Steps1
variable {p : Program} {l : Launch} {e : Env} {R : Room} {s : State} {m : MethodId} {args : Array Value} {below : List Frame} {meth : Method} {c : Code} {T : State} {locs : List Loc} {cells slots : Nat} {P : Outcome → State → Prop} {pc : Nat} {L L' : Array Slot} {st : List Value} {Z : State} {h h' : Heap} {a0 : Array Value} {rm : Room} {Q : Option Value → Heap → List Loc → Prop}
theorem Go.via {S S' : State} (k : ∀ t, Steps p.tables e below S' t → Steps p.tables e below S t) (g : Go p e below P S') : Go p e below P S := by
  obtain ⟨s2, o, h1, h2⟩ := g; exact ⟨s2, o, k _ h1, h2⟩
theorem Go.tr {S S' : State} (k : Steps p.tables e below S S') (g : Go p e below P S') : Go p e below P S := by
  obtain ⟨s2, o, h1, h2⟩ := g; exact ⟨s2, o, k.trans h1, h2⟩
theorem Ct.intro {y : MethodName} {bytes : ByteArray} {ml : Nat} {ret : Option FieldType} {ws : List Jvm.Cond} {as : Array Value} {h0 : Heap} (hpn : plainFor y = true) (L0 : Array Slot) (hef : ∀ m, entryFrame m as ml = mkF m 0 L0 [])
    (k : ∀ (p : Program) (e : Env) (s : State) (m : MethodId) (below : List Frame) (meth : Method) (c : Code) (T : State), Stand p l e rm s m as below meth c T [] 0 0 → p.tables.exec = Jvm.exec → Z.Warmed39 s.vm → c.code = bytes → c.maxLocals = ml → s.vm.findClass y.cls = some m.cls → meth.name = y.name → meth.sig.returnType = ret → meth.locks = false → T.heap = h0 → Go p e below (EndsAt s Q rm) (T.setTop (mkF m 0 L0 []))) :
    Ct l Z y bytes ml ret ws rm as h0 Q := by
  refine MetFree.of_bodySF hpn hisR ?_
  intro p e s m args below meth c s₁ Bd hml0 hP hK
  obtain ⟨rfl, hZ, hh⟩ := hP
  obtain ⟨s2, o, h1, h2, h3, h4⟩ := k p e s m below meth c s₁ (Stand.of_body Bd) Bd.exec hZ Bd.bytes hml0 (findClass_of_methodNamed Bd.named) (name_of_methodNamed Bd.named Bd.method).1 Bd.returns (BodyLoose.notSynchronized Bd) (by rw [← hh, Bd.state]; rfl)
  exact ⟨s2, o, castTop (hef m) h1, h2, h3, h4⟩
theorem retW (X : Stand p l e R s m args below meth c T locs cells slots) (hx : p.tables.exec = Jvm.exec) (hlk : meth.locks = false) {w : Value} {t : FieldType} {i : Instr} {rest : List Value} (hret : meth.sig.returnType = some t) (hn : narrow t w = w)
    (hi : (i = .ireturn ∧ (t = .int ∨ t = .boolean ∨ t = .byte ∨ t = .char ∨ t = .short) ∧ ∃ z, w = .int z) ∨ (i = .lreturn ∧ t = .long ∧ ∃ z, w = .long z) ∨ (i = .dreturn ∧ t = .double ∧ ∃ z, w = .double z) ∨ (i = .freturn ∧ t = .float ∧ ∃ z, w = .float z) ∨ (i = .areturn ∧ t.isReference = true ∧ w.isRef = true))
    (hd : decode c.code pc = .ok (i, 1)) (eT : T.heap = h) (hq : Q (some w) h locs) (hc : cells ≤ rm.cells) (hs : slots ≤ rm.slots) : Go p e below (EndsAt s Q rm) (T.setTop (mkF m pc L (w :: rest))) := by
  obtain ⟨fs, hr, hrun, hended, hW, hsame⟩ := X.leave (v := some w) (fun q => by rw [hret] at q; cases q) hlk
  refine ⟨_, _, retOut X hx hret hn hi hd hr, hrun, hended, _, _, rfl, ?_, ⟨_, rfl⟩, hW, hsame.mono hc hs⟩
  show Q (some w) T.heap locs
  rw [eT]; exact hq
theorem retI (X : Stand p l e R s m args below meth c T locs cells slots) (hx : p.tables.exec = Jvm.exec) (hlk : meth.locks = false) {z : Int32} {rest : List Value} (hret : meth.sig.returnType = some .int) (hd : decode c.code pc = .ok (.ireturn, 1)) (eT : T.heap = h) (hq : Q (some (.int z)) h locs) (hc : cells ≤ rm.cells) (hs : slots ≤ rm.slots) : Go p e below (EndsAt s Q rm) (T.setTop (mkF m pc L (.int z :: rest))) :=
  retW X hx hlk hret rfl (Or.inl ⟨rfl, Or.inl rfl, z, rfl⟩) hd eT hq hc hs
theorem retZ (X : Stand p l e R s m args below meth c T locs cells slots) (hx : p.tables.exec = Jvm.exec) (hlk : meth.locks = false) {z : Int32} {rest : List Value} (hret : meth.sig.returnType = some .boolean) (hd : decode c.code pc = .ok (.ireturn, 1)) (hn : narrow .boolean (.int z) = .int z) (eT : T.heap = h) (hq : Q (some (.int z)) h locs) (hc : cells ≤ rm.cells) (hs : slots ≤ rm.slots) : Go p e below (EndsAt s Q rm) (T.setTop (mkF m pc L (.int z :: rest))) :=
  retW X hx hlk hret hn (Or.inl ⟨rfl, Or.inr (Or.inl rfl), z, rfl⟩) hd eT hq hc hs
theorem retJ (X : Stand p l e R s m args below meth c T locs cells slots) (hx : p.tables.exec = Jvm.exec) (hlk : meth.locks = false) {z : Int64} {rest : List Value} (hret : meth.sig.returnType = some .long) (hd : decode c.code pc = .ok (.lreturn, 1)) (eT : T.heap = h) (hq : Q (some (.long z)) h locs) (hc : cells ≤ rm.cells) (hs : slots ≤ rm.slots) : Go p e below (EndsAt s Q rm) (T.setTop (mkF m pc L (.long z :: rest))) :=
  retW X hx hlk hret rfl (Or.inr (Or.inl ⟨rfl, rfl, z, rfl⟩)) hd eT hq hc hs
theorem retD (X : Stand p l e R s m args below meth c T locs cells slots) (hx : p.tables.exec = Jvm.exec) (hlk : meth.locks = false) {z : UInt64} {rest : List Value} (hret : meth.sig.returnType = some .double) (hd : decode c.code pc = .ok (.dreturn, 1)) (eT : T.heap = h) (hq : Q (some (.double z)) h locs) (hc : cells ≤ rm.cells) (hs : slots ≤ rm.slots) : Go p e below (EndsAt s Q rm) (T.setTop (mkF m pc L (.double z :: rest))) :=
  retW X hx hlk hret rfl (Or.inr (Or.inr (Or.inl ⟨rfl, rfl, z, rfl⟩))) hd eT hq hc hs
theorem retA (X : Stand p l e R s m args below meth c T locs cells slots) (hx : p.tables.exec = Jvm.exec) (hlk : meth.locks = false) {t : FieldType} {z : Addr} {rest : List Value} (hret : meth.sig.returnType = some t) (ht : t.isReference = true) (hn : narrow t (.ref z) = .ref z) (hd : decode c.code pc = .ok (.areturn, 1)) (eT : T.heap = h) (hq : Q (some (.ref z)) h locs) (hc : cells ≤ rm.cells) (hs : slots ≤ rm.slots) : Go p e below (EndsAt s Q rm) (T.setTop (mkF m pc L (.ref z :: rest))) :=
  retW X hx hlk hret hn (Or.inr (Or.inr (Or.inr (Or.inr ⟨rfl, ht, rfl⟩)))) hd eT hq hc hs
theorem retV (X : Stand p l e R s m args below meth c T locs cells slots) (hx : p.tables.exec = Jvm.exec) (hlk : meth.locks = false) (hret : meth.sig.returnType = none) (hd : decode c.code pc = .ok (.return_, 1)) (eT : T.heap = h) (hq : Q none h locs) (hc : cells ≤ rm.cells) (hs : slots ≤ rm.slots) : Go p e below (EndsAt s Q rm) (T.setTop (mkF m pc L [])) := by
  obtain ⟨fs, hr, hrun, hended, hW, hsame⟩ := X.leave (v := none) (fun _ => rfl) hlk
  refine ⟨_, _, X.returnOut hx hret hd hr, hrun, hended, _, _, rfl, ?_, ⟨_, rfl⟩, hW, hsame.mono hc hs⟩
  show Q none T.heap locs
  rw [eT]; exact hq
theorem s_iload (X : Stand p l e R s m args below meth c T locs cells slots) (hx : p.tables.exec = Jvm.exec) {k : Nat} {v : Int32} (hd : decode c.code pc = .ok (.iload k, 2)) (hl : L[k]? = some (.val (.int v))) (pc' : Nat) (hp : pc + 2 = pc') (g : Go p e below P (T.setTop (mkF m pc' L (.int v :: st)))) : Go p e below P (T.setTop (mkF m pc L (st))) := by
  subst hp; exact Go.via (fun _ k => XS.iload X.here hx rfl hd hl k) g
theorem s_iloadN (X : Stand p l e R s m args below meth c T locs cells slots) (hx : p.tables.exec = Jvm.exec) {k : Fin 4} {v : Int32} (hd : decode c.code pc = .ok (.iload_n k, 1)) (hl : L[k.val]? = some (.val (.int v))) (pc' : Nat) (hp : pc + 1 = pc') (g : Go p e below P (T.setTop (mkF m pc' L (.int v :: st)))) : Go p e below P (T.setTop (mkF m pc L (st))) := by
  subst hp; exact Go.via (fun _ k => XS.iloadN X.here hx rfl hd hl k) g
theorem s_istore (X : Stand p l e R s m args below meth c T locs cells slots) (hx : p.tables.exec = Jvm.exec) {k : Nat} {v : Int32} (hd : decode c.code pc = .ok (.istore k, 2)) (L' : Array Slot) (hl : storeLocals L k (.int v) = some L') (pc' : Nat) (hp : pc + 2 = pc') (g : Go p e below P (T.setTop (mkF m pc' L' (st)))) : Go p e below P (T.setTop (mkF m pc L (.int v :: st))) := by
  subst hp; exact Go.via (fun _ k => XS.istore X.here hx rfl hd rfl hl k) g
theorem s_istoreN (X : Stand p l e R s m args below meth c T locs cells slots) (hx : p.tables.exec = Jvm.exec) {k : Fin 4} {v : Int32} (hd : decode c.code pc = .ok (.istore_n k, 1)) (L' : Array Slot) (hl : storeLocals L k.val (.int v) = some L') (pc' : Nat) (hp : pc + 1 = pc') (g : Go p e below P (T.setTop (mkF m pc' L' (st)))) : Go p e below P (T.setTop (mkF m pc L (.int v :: st))) := by
  subst hp; exact Go.via (fun _ k => XS.istoreN X.here hx rfl hd rfl hl k) g
theorem s_lload (X : Stand p l e R s m args below meth c T locs cells slots) (hx : p.tables.exec = Jvm.exec) {k : Nat} {v : Int64} (hd : decode c.code pc = .ok (.lload k, 2)) (hl : L[k]? = some (.val (.long v))) (pc' : Nat) (hp : pc + 2 = pc') (g : Go p e below P (T.setTop (mkF m pc' L (.long v :: st)))) : Go p e below P (T.setTop (mkF m pc L (st))) := by
  subst hp; exact Go.via (fun _ k => XT.lload X.here hx rfl hd hl k) g
theorem s_lloadN (X : Stand p l e R s m args below meth c T locs cells slots) (hx : p.tables.exec = Jvm.exec) {k : Fin 4} {v : Int64} (hd : decode c.code pc = .ok (.lload_n k, 1)) (hl : L[k.val]? = some (.val (.long v))) (pc' : Nat) (hp : pc + 1 = pc') (g : Go p e below P (T.setTop (mkF m pc' L (.long v :: st)))) : Go p e below P (T.setTop (mkF m pc L (st))) := by
  subst hp; exact Go.via (fun _ k => XT.lloadN X.here hx rfl hd hl k) g
theorem s_lstore (X : Stand p l e R s m args below meth c T locs cells slots) (hx : p.tables.exec = Jvm.exec) {k : Nat} {v : Int64} (hd : decode c.code pc = .ok (.lstore k, 2)) (L' : Array Slot) (hl : storeLocals L k (.long v) = some L') (pc' : Nat) (hp : pc + 2 = pc') (g : Go p e below P (T.setTop (mkF m pc' L' (st)))) : Go p e below P (T.setTop (mkF m pc L (.long v :: st))) := by
  subst hp; exact Go.via (fun _ k => XT.lstore X.here hx rfl hd rfl hl k) g
theorem s_lstoreN (X : Stand p l e R s m args below meth c T locs cells slots) (hx : p.tables.exec = Jvm.exec) {k : Fin 4} {v : Int64} (hd : decode c.code pc = .ok (.lstore_n k, 1)) (L' : Array Slot) (hl : storeLocals L k.val (.long v) = some L') (pc' : Nat) (hp : pc + 1 = pc') (g : Go p e below P (T.setTop (mkF m pc' L' (st)))) : Go p e below P (T.setTop (mkF m pc L (.long v :: st))) := by
  subst hp; exact Go.via (fun _ k => XT.lstoreN X.here hx rfl hd rfl hl k) g
theorem s_dload (X : Stand p l e R s m args below meth c T locs cells slots) (hx : p.tables.exec = Jvm.exec) {k : Nat} {v : UInt64} (hd : decode c.code pc = .ok (.dload k, 2)) (hl : L[k]? = some (.val (.double v))) (pc' : Nat) (hp : pc + 2 = pc') (g : Go p e below P (T.setTop (mkF m pc' L (.double v :: st)))) : Go p e below P (T.setTop (mkF m pc L (st))) := by
  subst hp; exact Go.via (fun _ k => XS.dload X.here hx rfl hd hl k) g
theorem s_dloadN (X : Stand p l e R s m args below meth c T locs cells slots) (hx : p.tables.exec = Jvm.exec) {k : Fin 4} {v : UInt64} (hd : decode c.code pc = .ok (.dload_n k, 1)) (hl : L[k.val]? = some (.val (.double v))) (pc' : Nat) (hp : pc + 1 = pc') (g : Go p e below P (T.setTop (mkF m pc' L (.double v :: st)))) : Go p e below P (T.setTop (mkF m pc L (st))) := by
  subst hp; exact Go.via (fun _ k => XS.dloadN X.here hx rfl hd hl k) g
theorem s_dstore (X : Stand p l e R s m args below meth c T locs cells slots) (hx : p.tables.exec = Jvm.exec) {k : Nat} {v : UInt64} (hd : decode c.code pc = .ok (.dstore k, 2)) (L' : Array Slot) (hl : storeLocals L k (.double v) = some L') (pc' : Nat) (hp : pc + 2 = pc') (g : Go p e below P (T.setTop (mkF m pc' L' (st)))) : Go p e below P (T.setTop (mkF m pc L (.double v :: st))) := by
  subst hp; exact Go.via (fun _ k => XS.dstore X.here hx rfl hd rfl hl k) g
theorem s_dstoreN (X : Stand p l e R s m args below meth c T locs cells slots) (hx : p.tables.exec = Jvm.exec) {k : Fin 4} {v : UInt64} (hd : decode c.code pc = .ok (.dstore_n k, 1)) (L' : Array Slot) (hl : storeLocals L k.val (.double v) = some L') (pc' : Nat) (hp : pc + 1 = pc') (g : Go p e below P (T.setTop (mkF m pc' L' (st)))) : Go p e below P (T.setTop (mkF m pc L (.double v :: st))) := by
  subst hp; exact Go.via (fun _ k => XS.dstoreN X.here hx rfl hd rfl hl k) g
theorem s_aload (X : Stand p l e R s m args below meth c T locs cells slots) (hx : p.tables.exec = Jvm.exec) {k : Nat} {v : Value} (hd : decode c.code pc = .ok (.aload k, 2)) (hl : L[k]? = some (.val v)) (hv : v.isRef = true) (pc' : Nat) (hp : pc + 2 = pc') (g : Go p e below P (T.setTop (mkF m pc' L (v :: st)))) : Go p e below P (T.setTop (mkF m pc L (st))) := by
  subst hp; exact Go.via (fun _ k => XS.aload X.here hx rfl hd hl hv k) g
theorem s_aloadN (X : Stand p l e R s m args below meth c T locs cells slots) (hx : p.tables.exec = Jvm.exec) {k : Fin 4} {v : Value} (hd : decode c.code pc = .ok (.aload_n k, 1)) (hl : L[k.val]? = some (.val v)) (hv : v.isRef = true) (pc' : Nat) (hp : pc + 1 = pc') (g : Go p e below P (T.setTop (mkF m pc' L (v :: st)))) : Go p e below P (T.setTop (mkF m pc L (st))) := by
  subst hp; exact Go.via (fun _ k => XS.aloadN X.here hx rfl hd hl hv k) g
theorem s_astore (X : Stand p l e R s m args below meth c T locs cells slots) (hx : p.tables.exec = Jvm.exec) {k : Nat} {v : Value} (hd : decode c.code pc = .ok (.astore k, 2)) (hv : v.isRef = true) (L' : Array Slot) (hl : storeLocals L k v = some L') (pc' : Nat) (hp : pc + 2 = pc') (g : Go p e below P (T.setTop (mkF m pc' L' (st)))) : Go p e below P (T.setTop (mkF m pc L (v :: st))) := by
  subst hp; exact Go.via (fun _ k => XS.astore X.here hx rfl hd rfl hv hl k) g
theorem s_astoreN (X : Stand p l e R s m args below meth c T locs cells slots) (hx : p.tables.exec = Jvm.exec) {k : Fin 4} {v : Value} (hd : decode c.code pc = .ok (.astore_n k, 1)) (hv : v.isRef = true) (L' : Array Slot) (hl : storeLocals L k.val v = some L') (pc' : Nat) (hp : pc + 1 = pc') (g : Go p e below P (T.setTop (mkF m pc' L' (st)))) : Go p e below P (T.setTop (mkF m pc L (v :: st))) := by
  subst hp; exact Go.via (fun _ k => XS.astoreN X.here hx rfl hd rfl hv hl k) g
theorem s_iconst (X : Stand p l e R s m args below meth c T locs cells slots) (hx : p.tables.exec = Jvm.exec) {i : Int} (hd : decode c.code pc = .ok (.iconst i, 1)) (v : Int32) (hv : Int32.ofInt i = v) (pc' : Nat) (hp : pc + 1 = pc') (g : Go p e below P (T.setTop (mkF m pc' L (.int v :: st)))) : Go p e below P (T.setTop (mkF m pc L (st))) := by
  subst hp hv; exact Go.via (fun _ k => XS.iconst X.here hx rfl hd k) g
theorem s_bipush (X : Stand p l e R s m args below meth c T locs cells slots) (hx : p.tables.exec = Jvm.exec) {i : Int} (hd : decode c.code pc = .ok (.bipush i, 2)) (v : Int32) (hv : (Int8.ofInt i).toInt32 = v) (pc' : Nat) (hp : pc + 2 = pc') (g : Go p e below P (T.setTop (mkF m pc' L (.int v :: st)))) : Go p e below P (T.setTop (mkF m pc L (st))) := by
  subst hp hv; exact Go.via (fun _ k => XS.bipush X.here hx rfl hd k) g
theorem s_sipush (X : Stand p l e R s m args below meth c T locs cells slots) (hx : p.tables.exec = Jvm.exec) {i : Int} (hd : decode c.code pc = .ok (.sipush i, 3)) (v : Int32) (hv : (Int16.ofInt i).toInt32 = v) (pc' : Nat) (hp : pc + 3 = pc') (g : Go p e below P (T.setTop (mkF m pc' L (.int v :: st)))) : Go p e below P (T.setTop (mkF m pc L (st))) := by
  subst hp hv; exact Go.via (fun _ k => XS.sipush X.here hx rfl hd k) g
theorem s_lconst (X : Stand p l e R s m args below meth c T locs cells slots) (hx : p.tables.exec = Jvm.exec) {i : Fin 2} (hd : decode c.code pc = .ok (.lconst i, 1)) (v : Int64) (hv : Int64.ofNat i = v) (pc' : Nat) (hp : pc + 1 = pc') (g : Go p e below P (T.setTop (mkF m pc' L (.long v :: st)))) : Go p e below P (T.setTop (mkF m pc L (st))) := by
  subst hp; exact Go.via (fun _ k => XT.lconstV X.here hx rfl v hd hv k) g
theorem s_null (X : Stand p l e R s m args below meth c T locs cells slots) (hx : p.tables.exec = Jvm.exec)  (hd : decode c.code pc = .ok (.aconst_null, 1))  (pc' : Nat) (hp : pc + 1 = pc') (g : Go p e below P (T.setTop (mkF m pc' L (.null :: st)))) : Go p e below P (T.setTop (mkF m pc L (st))) := by
  subst hp; exact Go.via (fun _ k => XS.aconstNull X.here hx rfl hd k) g
theorem s_dconst0 (X : Stand p l e R s m args below meth c T locs cells slots) (hx : p.tables.exec = Jvm.exec)  (hd : decode c.code pc = .ok (.dconst 0, 1)) (v : UInt64) (hv : FP.dconst0 = v) (pc' : Nat) (hp : pc + 1 = pc') (g : Go p e below P (T.setTop (mkF m pc' L (.double v :: st)))) : Go p e below P (T.setTop (mkF m pc L (st))) := by
  subst hp; exact Go.via (fun _ k => XS.dconst0 X.here hx rfl hd hv k) g
theorem s_dconst1 (X : Stand p l e R s m args below meth c T locs cells slots) (hx : p.tables.exec = Jvm.exec)  (hd : decode c.code pc = .ok (.dconst 1, 1)) (v : UInt64) (hv : FP.dconst1 = v) (pc' : Nat) (hp : pc + 1 = pc') (g : Go p e below P (T.setTop (mkF m pc' L (.double v :: st)))) : Go p e below P (T.setTop (mkF m pc L (st))) := by
  subst hp; exact Go.via (fun _ k => XS.dconst1 X.here hx rfl hd hv k) g
theorem s_ldcI (X : Stand p l e R s m args below meth c T locs cells slots) (hx : p.tables.exec = Jvm.exec) {i : Nat} {v : Int32} (hd : decode c.code pc = .ok (.ldc i, 2)) (hZ : Z.Warmed39 s.vm) {own : String} (hown : s.vm.findClass own = some m.cls) (w : (Cond.constant own i v).before a0 Z = true) (pc' : Nat) (hp : pc + 2 = pc') (g : Go p e below P (T.setTop (mkF m pc' L (.int v :: st)))) : Go p e below P (T.setTop (mkF m pc L (st))) := by
  subst hp; exact Go.via (fun _ k => X.ldcI hx hown (mvT hZ w) rfl hd k) g
theorem s_ldc2J (X : Stand p l e R s m args below meth c T locs cells slots) (hx : p.tables.exec = Jvm.exec) {i : Nat} {v : Int64} (hd : decode c.code pc = .ok (.ldc2_w i, 3)) (hZ : Z.Warmed39 s.vm) {own : String} (hown : s.vm.findClass own = some m.cls) (w : (Cond.constantLong own i v).before a0 Z = true) (pc' : Nat) (hp : pc + 3 = pc') (g : Go p e below P (T.setTop (mkF m pc' L (.long v :: st)))) : Go p e below P (T.setTop (mkF m pc L (st))) := by
  subst hp; exact Go.via (fun _ k => X.ldc2J hx hown (mvT hZ w) rfl hd k) g
theorem s_ldc2D (X : Stand p l e R s m args below meth c T locs cells slots) (hx : p.tables.exec = Jvm.exec) {i : Nat} {v : UInt64} (hd : decode c.code pc = .ok (.ldc2_w i, 3)) (hZ : Z.Warmed39 s.vm) {own : String} (hown : s.vm.findClass own = some m.cls) (w : (Cond.constantDouble own i v).before a0 Z = true) (pc' : Nat) (hp : pc + 3 = pc') (g : Go p e below P (T.setTop (mkF m pc' L (.double v :: st)))) : Go p e below P (T.setTop (mkF m pc L (st))) := by
  subst hp; exact Go.via (fun _ k => X.ldc2DoubleC hx hown (mvT hZ w) (g := mkF m pc L st) rfl hd _ k) g
theorem s_iadd (X : Stand p l e R s m args below meth c T locs cells slots) (hx : p.tables.exec = Jvm.exec) {x y : Int32} (hd : decode c.code pc = .ok (.iadd, 1)) (v : Int32) (hv : x + y = v) (pc' : Nat) (hp : pc + 1 = pc') (g : Go p e below P (T.setTop (mkF m pc' L (.int v :: st)))) : Go p e below P (T.setTop (mkF m pc L (.int y :: .int x :: st))) := by
  subst hp hv; exact Go.via (fun _ k => XS.iadd X.here hx rfl hd rfl k) g
theorem s_isub (X : Stand p l e R s m args below meth c T locs cells slots) (hx : p.tables.exec = Jvm.exec) {x y : Int32} (hd : decode c.code pc = .ok (.isub, 1)) (v : Int32) (hv : x - y = v) (pc' : Nat) (hp : pc + 1 = pc') (g : Go p e below P (T.setTop (mkF m pc' L (.int v :: st)))) : Go p e below P (T.setTop (mkF m pc L (.int y :: .int x :: st))) := by
  subst hp hv; exact Go.via (fun _ k => XS.isub X.here hx rfl hd rfl k) g
theorem s_imul (X : Stand p l e R s m args below meth c T locs cells slots) (hx : p.tables.exec = Jvm.exec) {x y : Int32} (hd : decode c.code pc = .ok (.imul, 1)) (v : Int32) (hv : x * y = v) (pc' : Nat) (hp : pc + 1 = pc') (g : Go p e below P (T.setTop (mkF m pc' L (.int v :: st)))) : Go p e below P (T.setTop (mkF m pc L (.int y :: .int x :: st))) := by
  subst hp hv; exact Go.via (fun _ k => XS.imul X.here hx rfl hd rfl k) g
theorem s_iand (X : Stand p l e R s m args below meth c T locs cells slots) (hx : p.tables.exec = Jvm.exec) {x y : Int32} (hd : decode c.code pc = .ok (.iand, 1)) (v : Int32) (hv : x &&& y = v) (pc' : Nat) (hp : pc + 1 = pc') (g : Go p e below P (T.setTop (mkF m pc' L (.int v :: st)))) : Go p e below P (T.setTop (mkF m pc L (.int y :: .int x :: st))) := by
  subst hp hv; exact Go.via (fun _ k => XS.iand X.here hx rfl hd rfl k) g
theorem s_ixor (X : Stand p l e R s m args below meth c T locs cells slots) (hx : p.tables.exec = Jvm.exec) {x y : Int32} (hd : decode c.code pc = .ok (.ixor, 1)) (v : Int32) (hv : x ^^^ y = v) (pc' : Nat) (hp : pc + 1 = pc') (g : Go p e below P (T.setTop (mkF m pc' L (.int v :: st)))) : Go p e below P (T.setTop (mkF m pc L (.int y :: .int x :: st))) := by
  subst hp hv; exact Go.via (fun _ k => XT.ixor X.here hx rfl hd rfl k) g
theorem s_ior (X : Stand p l e R s m args below meth c T locs cells slots) (hx : p.tables.exec = Jvm.exec) {x y : Int32} (hd : decode c.code pc = .ok (.ior, 1)) (v : Int32) (hv : x ||| y = v) (pc' : Nat) (hp : pc + 1 = pc') (g : Go p e below P (T.setTop (mkF m pc' L (.int v :: st)))) : Go p e below P (T.setTop (mkF m pc L (.int y :: .int x :: st))) := by
  subst hp hv; exact Go.via (fun _ k => XT.ior X.here hx rfl hd rfl k) g
theorem s_ishl (X : Stand p l e R s m args below meth c T locs cells slots) (hx : p.tables.exec = Jvm.exec) {x y : Int32} (hd : decode c.code pc = .ok (.ishl, 1)) (v : Int32) (hv : x <<< (y &&& 31) = v) (pc' : Nat) (hp : pc + 1 = pc') (g : Go p e below P (T.setTop (mkF m pc' L (.int v :: st)))) : Go p e below P (T.setTop (mkF m pc L (.int y :: .int x :: st))) := by
  subst hp hv; exact Go.via (fun _ k => XT.ishl X.here hx rfl hd rfl k) g
theorem s_ishr (X : Stand p l e R s m args below meth c T locs cells slots) (hx : p.tables.exec = Jvm.exec) {x y : Int32} (hd : decode c.code pc = .ok (.ishr, 1)) (v : Int32) (hv : x >>> (y &&& 31) = v) (pc' : Nat) (hp : pc + 1 = pc') (g : Go p e below P (T.setTop (mkF m pc' L (.int v :: st)))) : Go p e below P (T.setTop (mkF m pc L (.int y :: .int x :: st))) := by
  subst hp hv; exact Go.via (fun _ k => XT.ishr X.here hx rfl hd rfl k) g
theorem s_iushr (X : Stand p l e R s m args below meth c T locs cells slots) (hx : p.tables.exec = Jvm.exec) {x y : Int32} (hd : decode c.code pc = .ok (.iushr, 1)) (v : Int32) (hv : XT.ushr x y = v) (pc' : Nat) (hp : pc + 1 = pc') (g : Go p e below P (T.setTop (mkF m pc' L (.int v :: st)))) : Go p e below P (T.setTop (mkF m pc L (.int y :: .int x :: st))) := by
  subst hp hv; exact Go.via (fun _ k => XT.iushr X.here hx rfl hd rfl k) g
theorem s_idiv (X : Stand p l e R s m args below meth c T locs cells slots) (hx : p.tables.exec = Jvm.exec) {x y : Int32} (hd : decode c.code pc = .ok (.idiv, 1)) (hy : y ≠ 0) (v : Int32) (hv : x / y = v) (pc' : Nat) (hp : pc + 1 = pc') (g : Go p e below P (T.setTop (mkF m pc' L (.int v :: st)))) : Go p e below P (T.setTop (mkF m pc L (.int y :: .int x :: st))) := by
  subst hp hv; exact Go.via (fun _ k => XS.idiv X.here hx rfl hd rfl hy k) g
theorem s_irem (X : Stand p l e R s m args below meth c T locs cells slots) (hx : p.tables.exec = Jvm.exec) {x y : Int32} (hd : decode c.code pc = .ok (.irem, 1)) (hy : y ≠ 0) (v : Int32) (hv : x % y = v) (pc' : Nat) (hp : pc + 1 = pc') (g : Go p e below P (T.setTop (mkF m pc' L (.int v :: st)))) : Go p e below P (T.setTop (mkF m pc L (.int y :: .int x :: st))) := by
  subst hp hv; exact Go.via (fun _ k => RoadKit.iremM X hx rfl hd rfl hy k) g
theorem s_ineg (X : Stand p l e R s m args below meth c T locs cells slots) (hx : p.tables.exec = Jvm.exec) {x : Int32} (hd : decode c.code pc = .ok (.ineg, 1)) (v : Int32) (hv : -x = v) (pc' : Nat) (hp : pc + 1 = pc') (g : Go p e below P (T.setTop (mkF m pc' L (.int v :: st)))) : Go p e below P (T.setTop (mkF m pc L (.int x :: st))) := by
  subst hp hv; exact Go.via (fun _ k => XS.ineg X.here hx rfl hd rfl k) g
theorem s_ladd (X : Stand p l e R s m args below meth c T locs cells slots) (hx : p.tables.exec = Jvm.exec) {x y : Int64} (hd : decode c.code pc = .ok (.ladd, 1)) (v : Int64) (hv : x + y = v) (pc' : Nat) (hp : pc + 1 = pc') (g : Go p e below P (T.setTop (mkF m pc' L (.long v :: st)))) : Go p e below P (T.setTop (mkF m pc L (.long y :: .long x :: st))) := by
  subst hp hv; exact Go.via (fun _ k => XT.ladd X.here hx rfl hd rfl k) g
theorem s_lsub (X : Stand p l e R s m args below meth c T locs cells slots) (hx : p.tables.exec = Jvm.exec) {x y : Int64} (hd : decode c.code pc = .ok (.lsub, 1)) (v : Int64) (hv : x - y = v) (pc' : Nat) (hp : pc + 1 = pc') (g : Go p e below P (T.setTop (mkF m pc' L (.long v :: st)))) : Go p e below P (T.setTop (mkF m pc L (.long y :: .long x :: st))) := by
  subst hp hv; exact Go.via (fun _ k => XT.lsub X.here hx rfl hd rfl k) g
theorem s_lmul (X : Stand p l e R s m args below meth c T locs cells slots) (hx : p.tables.exec = Jvm.exec) {x y : Int64} (hd : decode c.code pc = .ok (.lmul, 1)) (v : Int64) (hv : x * y = v) (pc' : Nat) (hp : pc + 1 = pc') (g : Go p e below P (T.setTop (mkF m pc' L (.long v :: st)))) : Go p e below P (T.setTop (mkF m pc L (.long y :: .long x :: st))) := by
  subst hp hv; exact Go.via (fun _ k => XT.lmul X.here hx rfl hd rfl k) g
theorem s_land (X : Stand p l e R s m args below meth c T locs cells slots) (hx : p.tables.exec = Jvm.exec) {x y : Int64} (hd : decode c.code pc = .ok (.land, 1)) (v : Int64) (hv : x &&& y = v) (pc' : Nat) (hp : pc + 1 = pc') (g : Go p e below P (T.setTop (mkF m pc' L (.long v :: st)))) : Go p e below P (T.setTop (mkF m pc L (.long y :: .long x :: st))) := by
  subst hp hv; exact Go.via (fun _ k => XT.land X.here hx rfl hd rfl k) g
theorem s_lor (X : Stand p l e R s m args below meth c T locs cells slots) (hx : p.tables.exec = Jvm.exec) {x y : Int64} (hd : decode c.code pc = .ok (.lor, 1)) (v : Int64) (hv : x ||| y = v) (pc' : Nat) (hp : pc + 1 = pc') (g : Go p e below P (T.setTop (mkF m pc' L (.long v :: st)))) : Go p e below P (T.setTop (mkF m pc L (.long y :: .long x :: st))) := by
  subst hp hv; exact Go.via (fun _ k => XT.lor X.here hx rfl hd rfl k) g
theorem s_lxor (X : Stand p l e R s m args below meth c T locs cells slots) (hx : p.tables.exec = Jvm.exec) {x y : Int64} (hd : decode c.code pc = .ok (.lxor, 1)) (v : Int64) (hv : x ^^^ y = v) (pc' : Nat) (hp : pc + 1 = pc') (g : Go p e below P (T.setTop (mkF m pc' L (.long v :: st)))) : Go p e below P (T.setTop (mkF m pc L (.long y :: .long x :: st))) := by
  subst hp hv; exact Go.via (fun _ k => XT.lxor X.here hx rfl hd rfl k) g
theorem s_ldiv (X : Stand p l e R s m args below meth c T locs cells slots) (hx : p.tables.exec = Jvm.exec) {x y : Int64} (hd : decode c.code pc = .ok (.ldiv, 1)) (hy : y ≠ 0) (v : Int64) (hv : x / y = v) (pc' : Nat) (hp : pc + 1 = pc') (g : Go p e below P (T.setTop (mkF m pc' L (.long v :: st)))) : Go p e below P (T.setTop (mkF m pc L (.long y :: .long x :: st))) := by
  subst hp hv; exact Go.via (fun _ k => XT.ldiv X.here hx rfl hd rfl hy k) g
theorem s_lrem (X : Stand p l e R s m args below meth c T locs cells slots) (hx : p.tables.exec = Jvm.exec) {x y : Int64} (hd : decode c.code pc = .ok (.lrem, 1)) (hy : y ≠ 0) (v : Int64) (hv : x - (x / y) * y = v) (pc' : Nat) (hp : pc + 1 = pc') (g : Go p e below P (T.setTop (mkF m pc' L (.long v :: st)))) : Go p e below P (T.setTop (mkF m pc L (.long y :: .long x :: st))) := by
  subst hp hv; exact Go.via (fun _ k => XT.lrem X.here hx rfl hd rfl hy k) g
theorem s_lneg (X : Stand p l e R s m args below meth c T locs cells slots) (hx : p.tables.exec = Jvm.exec) {x : Int64} (hd : decode c.code pc = .ok (.lneg, 1)) (v : Int64) (hv : -x = v) (pc' : Nat) (hp : pc + 1 = pc') (g : Go p e below P (T.setTop (mkF m pc' L (.long v :: st)))) : Go p e below P (T.setTop (mkF m pc L (.long x :: st))) := by
  subst hp hv; exact Go.via (fun _ k => XT.lneg X.here hx rfl hd rfl k) g
theorem sh64 (y : Int32) : (y.toInt64 &&& 63) = (y &&& 0x3f).toInt64 := by rw [Int32.toInt64_and]; rfl
theorem s_lshl (X : Stand p l e R s m args below meth c T locs cells slots) (hx : p.tables.exec = Jvm.exec) {x : Int64} {y : Int32} (hd : decode c.code pc = .ok (.lshl, 1)) (v : Int64) (hv : x <<< (y &&& 0x3f).toInt64 = v) (pc' : Nat) (hp : pc + 1 = pc') (g : Go p e below P (T.setTop (mkF m pc' L (.long v :: st)))) : Go p e below P (T.setTop (mkF m pc L (.int y :: .long x :: st))) := by
  subst hp hv; exact Go.via (fun _ k => XT.lshl X.here hx rfl hd rfl (by rw [sh64]; exact k)) g
theorem s_lshr (X : Stand p l e R s m args below meth c T locs cells slots) (hx : p.tables.exec = Jvm.exec) {x : Int64} {y : Int32} (hd : decode c.code pc = .ok (.lshr, 1)) (v : Int64) (hv : x >>> (y &&& 0x3f).toInt64 = v) (pc' : Nat) (hp : pc + 1 = pc') (g : Go p e below P (T.setTop (mkF m pc' L (.long v :: st)))) : Go p e below P (T.setTop (mkF m pc L (.int y :: .long x :: st))) := by
  subst hp hv; exact Go.via (fun _ k => XT.lshr X.here hx rfl hd rfl (by rw [sh64]; exact k)) g
theorem s_lushr (X : Stand p l e R s m args below meth c T locs cells slots) (hx : p.tables.exec = Jvm.exec) {x : Int64} {y : Int32} (hd : decode c.code pc = .ok (.lushr, 1)) (v : Int64) (hv : XT.ushrL x y = v) (pc' : Nat) (hp : pc + 1 = pc') (g : Go p e below P (T.setTop (mkF m pc' L (.long v :: st)))) : Go p e below P (T.setTop (mkF m pc L (.int y :: .long x :: st))) := by
  subst hp hv; exact Go.via (fun _ k => XT.lushr X.here hx rfl hd rfl k) g
theorem s_i2l (X : Stand p l e R s m args below meth c T locs cells slots) (hx : p.tables.exec = Jvm.exec) {x : Int32} (hd : decode c.code pc = .ok (.i2l, 1)) (v : Int64) (hv : x.toInt64 = v) (pc' : Nat) (hp : pc + 1 = pc') (g : Go p e below P (T.setTop (mkF m pc' L (.long v :: st)))) : Go p e below P (T.setTop (mkF m pc L (.int x :: st))) := by
  subst hp hv; exact Go.via (fun _ k => XT.i2l X.here hx rfl hd rfl k) g
theorem s_l2i (X : Stand p l e R s m args below meth c T locs cells slots) (hx : p.tables.exec = Jvm.exec) {x : Int64} (hd : decode c.code pc = .ok (.l2i, 1)) (v : Int32) (hv : x.toInt32 = v) (pc' : Nat) (hp : pc + 1 = pc') (g : Go p e below P (T.setTop (mkF m pc' L (.int v :: st)))) : Go p e below P (T.setTop (mkF m pc L (.long x :: st))) := by
  subst hp hv; exact Go.via (fun _ k => XT.l2i X.here hx rfl hd rfl k) g
theorem s_i2b (X : Stand p l e R s m args below meth c T locs cells slots) (hx : p.tables.exec = Jvm.exec) {x : Int32} (hd : decode c.code pc = .ok (.i2b, 1)) (v : Int32) (hv : x.toInt8.toInt32 = v) (pc' : Nat) (hp : pc + 1 = pc') (g : Go p e below P (T.setTop (mkF m pc' L (.int v :: st)))) : Go p e below P (T.setTop (mkF m pc L (.int x :: st))) := by
  subst hp hv; exact Go.via (fun _ k => XT.i2b X.here hx rfl hd rfl k) g
theorem s_i2s (X : Stand p l e R s m args below meth c T locs cells slots) (hx : p.tables.exec = Jvm.exec) {x : Int32} (hd : decode c.code pc = .ok (.i2s, 1)) (v : Int32) (hv : x.toInt16.toInt32 = v) (pc' : Nat) (hp : pc + 1 = pc') (g : Go p e below P (T.setTop (mkF m pc' L (.int v :: st)))) : Go p e below P (T.setTop (mkF m pc L (.int x :: st))) := by
  subst hp hv; exact Go.via (fun _ k => XT.i2s X.here hx rfl hd rfl k) g
theorem s_i2d (X : Stand p l e R s m args below meth c T locs cells slots) (hx : p.tables.exec = Jvm.exec) {x : Int32} (hd : decode c.code pc = .ok (.i2d, 1)) (v : UInt64) (hv : FP.i2d x = v) (pc' : Nat) (hp : pc + 1 = pc') (g : Go p e below P (T.setTop (mkF m pc' L (.double v :: st)))) : Go p e below P (T.setTop (mkF m pc L (.int x :: st))) := by
  subst hp; exact Go.via (fun _ k => XS.i2dS X.here hx rfl hd rfl hv k) g
theorem s_l2d (X : Stand p l e R s m args below meth c T locs cells slots) (hx : p.tables.exec = Jvm.exec) {x : Int64} (hd : decode c.code pc = .ok (.l2d, 1)) (v : UInt64) (hv : FP.l2d x = v) (pc' : Nat) (hp : pc + 1 = pc') (g : Go p e below P (T.setTop (mkF m pc' L (.double v :: st)))) : Go p e below P (T.setTop (mkF m pc L (.long x :: st))) := by
  subst hp; exact Go.via (fun _ k => XS.l2dS X.here hx rfl hd rfl hv k) g
theorem s_dneg (X : Stand p l e R s m args below meth c T locs cells slots) (hx : p.tables.exec = Jvm.exec) {x : UInt64} (hd : decode c.code pc = .ok (.dneg, 1)) (v : UInt64) (hv : FP.dneg x = v) (pc' : Nat) (hp : pc + 1 = pc') (g : Go p e below P (T.setTop (mkF m pc' L (.double v :: st)))) : Go p e below P (T.setTop (mkF m pc L (.double x :: st))) := by
  subst hp; exact Go.via (fun _ k => XS.dnegS X.here hx rfl hd rfl hv k) g
theorem s_dadd (X : Stand p l e R s m args below meth c T locs cells slots) (hx : p.tables.exec = Jvm.exec) {x y : UInt64} (hd : decode c.code pc = .ok (.dadd, 1)) (v : UInt64) (hv : FP.dadd x y = v) (hn : NoNaN64 v) (pc' : Nat) (hp : pc + 1 = pc') (g : Go p e below P (T.setTop (mkF m pc' L (.double v :: st)))) : Go p e below P (T.setTop (mkF m pc L (.double y :: .double x :: st))) := by
  subst hp hv; exact Go.via (fun _ k => XS.daddS X.here hx rfl hd rfl hn rfl k) g
theorem s_dsub (X : Stand p l e R s m args below meth c T locs cells slots) (hx : p.tables.exec = Jvm.exec) {x y : UInt64} (hd : decode c.code pc = .ok (.dsub, 1)) (v : UInt64) (hv : FP.dsub x y = v) (hn : NoNaN64 v) (pc' : Nat) (hp : pc + 1 = pc') (g : Go p e below P (T.setTop (mkF m pc' L (.double v :: st)))) : Go p e below P (T.setTop (mkF m pc L (.double y :: .double x :: st))) := by
  subst hp hv; exact Go.via (fun _ k => XS.dsubS X.here hx rfl hd rfl hn rfl k) g
theorem s_dmul (X : Stand p l e R s m args below meth c T locs cells slots) (hx : p.tables.exec = Jvm.exec) {x y : UInt64} (hd : decode c.code pc = .ok (.dmul, 1)) (v : UInt64) (hv : FP.dmul x y = v) (hn : NoNaN64 v) (pc' : Nat) (hp : pc + 1 = pc') (g : Go p e below P (T.setTop (mkF m pc' L (.double v :: st)))) : Go p e below P (T.setTop (mkF m pc L (.double y :: .double x :: st))) := by
  subst hp hv; exact Go.via (fun _ k => XS.dmulS X.here hx rfl hd rfl hn rfl k) g
theorem s_ddiv (X : Stand p l e R s m args below meth c T locs cells slots) (hx : p.tables.exec = Jvm.exec) {x y : UInt64} (hd : decode c.code pc = .ok (.ddiv, 1)) (v : UInt64) (hv : FP.ddiv x y = v) (hn : NoNaN64 v) (pc' : Nat) (hp : pc + 1 = pc') (g : Go p e below P (T.setTop (mkF m pc' L (.double v :: st)))) : Go p e below P (T.setTop (mkF m pc L (.double y :: .double x :: st))) := by
  subst hp hv; exact Go.via (fun _ k => XS.ddivS X.here hx rfl hd rfl hn rfl k) g
theorem s_dcmp (X : Stand p l e R s m args below meth c T locs cells slots) (hx : p.tables.exec = Jvm.exec) {x y : UInt64} {o : CmpOp} (hd : decode c.code pc = .ok (.dcmp o, 1)) (v : Int32) (hv : cmpValue (FP.dcmp x y) o = v) (pc' : Nat) (hp : pc + 1 = pc') (g : Go p e below P (T.setTop (mkF m pc' L (.int v :: st)))) : Go p e below P (T.setTop (mkF m pc L (.double y :: .double x :: st))) := by
  subst hp; exact Go.via (fun _ k => XS.dcmpS X.here hx rfl hd rfl hv k) g
theorem s_lcmp (X : Stand p l e R s m args below meth c T locs cells slots) (hx : p.tables.exec = Jvm.exec) {x y : Int64} (hd : decode c.code pc = .ok (.lcmp, 1)) (v : Int32) (hv : XT.cmpL x y = v) (pc' : Nat) (hp : pc + 1 = pc') (g : Go p e below P (T.setTop (mkF m pc' L (.int v :: st)))) : Go p e below P (T.setTop (mkF m pc L (.long y :: .long x :: st))) := by
  subst hp hv; exact Go.via (fun _ k => XT.lcmp X.here hx rfl hd rfl k) g
theorem s_dup (X : Stand p l e R s m args below meth c T locs cells slots) (hx : p.tables.exec = Jvm.exec) {x : Value} (hd : decode c.code pc = .ok (.dup, 1)) (hc : x.category = 1) (pc' : Nat) (hp : pc + 1 = pc') (g : Go p e below P (T.setTop (mkF m pc' L (x :: x :: st)))) : Go p e below P (T.setTop (mkF m pc L (x :: st))) := by
  subst hp; exact Go.via (fun _ k => XS.dup X.here hx rfl hd rfl hc k) g
theorem s_pop (X : Stand p l e R s m args below meth c T locs cells slots) (hx : p.tables.exec = Jvm.exec) {x : Value} (hd : decode c.code pc = .ok (.pop, 1)) (hc : x.category = 1) (pc' : Nat) (hp : pc + 1 = pc') (g : Go p e below P (T.setTop (mkF m pc' L (st)))) : Go p e below P (T.setTop (mkF m pc L (x :: st))) := by
  subst hp; exact Go.via (fun _ k => XT.pop X.here hx rfl hd rfl hc k) g
theorem s_dupX1 (X : Stand p l e R s m args below meth c T locs cells slots) (hx : p.tables.exec = Jvm.exec) {x y : Value} (hd : decode c.code pc = .ok (.dup_x1, 1)) (hc : x.category = 1) (hc' : y.category = 1) (pc' : Nat) (hp : pc + 1 = pc') (g : Go p e below P (T.setTop (mkF m pc' L (x :: y :: x :: st)))) : Go p e below P (T.setTop (mkF m pc L (x :: y :: st))) := by
  subst hp; exact Go.via (fun _ k => XT.dupX1 X.here hx rfl hd rfl hc hc' k) g
theorem s_dup2 (X : Stand p l e R s m args below meth c T locs cells slots) (hx : p.tables.exec = Jvm.exec) {x y : Value} (hd : decode c.code pc = .ok (.dup2, 1)) (hc : x.category = 1) (hc' : y.category = 1) (pc' : Nat) (hp : pc + 1 = pc') (g : Go p e below P (T.setTop (mkF m pc' L (x :: y :: x :: y :: st)))) : Go p e below P (T.setTop (mkF m pc L (x :: y :: st))) := by
  subst hp; exact Go.via (fun _ k => XT.dup2 X.here hx rfl hd rfl hc hc' k) g
theorem s_iinc (X : Stand p l e R s m args below meth c T locs cells slots) (hx : p.tables.exec = Jvm.exec) {k : Nat} {cst : Int} {x : Int32} (hd : decode c.code pc = .ok (.iinc k cst, 3)) (v : Int32) (hv : x + Int32.ofInt cst = v) (hl : L[k]? = some (.val (.int x))) (L' : Array Slot) (hl' : storeLocals L k (.int v) = some L') (pc' : Nat) (hp : pc + 3 = pc') (g : Go p e below P (T.setTop (mkF m pc' L' (st)))) : Go p e below P (T.setTop (mkF m pc L (st))) := by
  subst hp hv; exact Go.via (fun _ k => XS.iinc X.here hx rfl hd hl hl' k) g
theorem s_goto (X : Stand p l e R s m args below meth c T locs cells slots) (hx : p.tables.exec = Jvm.exec) {o : Int} (hd : decode c.code pc = .ok (.goto o, 3)) (pc' : Nat) (ho : 0 ≤ (pc : Int) + o) (hp : ((pc : Int) + o).toNat = pc') (g : Go p e below P (T.setTop (mkF m pc' L st))) : Go p e below P (T.setTop (mkF m pc L st)) := Go.via (fun _ k => XS.goto X.here hx rfl rfl hd ho hp k) g
theorem s_ifY (X : Stand p l e R s m args below meth c T locs cells slots) (hx : p.tables.exec = Jvm.exec) {cd : ClassFile.Cond} {o : Int} {x : Int32} (hd : decode c.code pc = .ok (.ifCond cd o, 3)) (hc : ifCond.holds cd x = true) (pc' : Nat) (ho : 0 ≤ (pc : Int) + o) (hp : ((pc : Int) + o).toNat = pc') (g : Go p e below P (T.setTop (mkF m pc' L st))) : Go p e below P (T.setTop (mkF m pc L (.int x :: st))) := Go.via (fun _ k => XS.ifYes X.here hx rfl rfl hd rfl hc ho hp k) g
theorem s_ifN (X : Stand p l e R s m args below meth c T locs cells slots) (hx : p.tables.exec = Jvm.exec) {cd : ClassFile.Cond} {o : Int} {x : Int32} (hd : decode c.code pc = .ok (.ifCond cd o, 3)) (hc : ifCond.holds cd x = false) (pc' : Nat) (hp : pc + 3 = pc') (g : Go p e below P (T.setTop (mkF m pc' L (st)))) : Go p e below P (T.setTop (mkF m pc L (.int x :: st))) := by
  subst hp; exact Go.via (fun _ k => XS.ifNo X.here hx rfl hd rfl hc k) g
theorem s_icmpY (X : Stand p l e R s m args below meth c T locs cells slots) (hx : p.tables.exec = Jvm.exec) {cd : ClassFile.Cond} {o : Int} {x y : Int32} (hd : decode c.code pc = .ok (.if_icmp cd o, 3)) (hc : if_icmp.holds cd x y = true) (pc' : Nat) (ho : 0 ≤ (pc : Int) + o) (hp : ((pc : Int) + o).toNat = pc') (g : Go p e below P (T.setTop (mkF m pc' L st))) : Go p e below P (T.setTop (mkF m pc L (.int y :: .int x :: st))) := Go.via (fun _ k => XS.icmpYes X.here hx rfl rfl hd rfl hc ho hp k) g
theorem s_icmpN (X : Stand p l e R s m args below meth c T locs cells slots) (hx : p.tables.exec = Jvm.exec) {cd : ClassFile.Cond} {o : Int} {x y : Int32} (hd : decode c.code pc = .ok (.if_icmp cd o, 3)) (hc : if_icmp.holds cd x y = false) (pc' : Nat) (hp : pc + 3 = pc') (g : Go p e below P (T.setTop (mkF m pc' L (st)))) : Go p e below P (T.setTop (mkF m pc L (.int y :: .int x :: st))) := by
  subst hp; exact Go.via (fun _ k => XS.icmpNo X.here hx rfl hd rfl hc k) g
theorem s_acmpY (X : Stand p l e R s m args below meth c T locs cells slots) (hx : p.tables.exec = Jvm.exec) {cd : ClassFile.ACond} {o : Int} {x y : Value} (hd : decode c.code pc = .ok (.if_acmp cd o, 3)) (h1 : x.isRef = true) (h2 : y.isRef = true) (hc : XT.acmp cd x y = true) (pc' : Nat) (ho : 0 ≤ (pc : Int) + o) (hp : ((pc : Int) + o).toNat = pc') (g : Go p e below P (T.setTop (mkF m pc' L st))) : Go p e below P (T.setTop (mkF m pc L (y :: x :: st))) := Go.via (fun _ k => XT.acmpYes X.here hx rfl rfl hd rfl h1 h2 hc ho hp k) g
theorem s_acmpN (X : Stand p l e R s m args below meth c T locs cells slots) (hx : p.tables.exec = Jvm.exec) {cd : ClassFile.ACond} {o : Int} {x y : Value} (hd : decode c.code pc = .ok (.if_acmp cd o, 3)) (h1 : x.isRef = true) (h2 : y.isRef = true) (hc : XT.acmp cd x y = false) (pc' : Nat) (hp : pc + 3 = pc') (g : Go p e below P (T.setTop (mkF m pc' L (st)))) : Go p e below P (T.setTop (mkF m pc L (y :: x :: st))) := by
  subst hp; exact Go.via (fun _ k => XT.acmpNo X.here hx rfl hd rfl h1 h2 hc k) g
theorem s_ifnullN (X : Stand p l e R s m args below meth c T locs cells slots) (hx : p.tables.exec = Jvm.exec) {o : Int} {b : Addr} (hd : decode c.code pc = .ok (.ifnull o, 3))  (pc' : Nat) (hp : pc + 3 = pc') (g : Go p e below P (T.setTop (mkF m pc' L (st)))) : Go p e below P (T.setTop (mkF m pc L (.ref b :: st))) := by
  subst hp; exact Go.via (fun _ k => XS.ifnullNo X.here hx rfl hd rfl k) g
theorem s_ifnullY (X : Stand p l e R s m args below meth c T locs cells slots) (hx : p.tables.exec = Jvm.exec) {o : Int} (hd : decode c.code pc = .ok (.ifnull o, 3)) (pc' : Nat) (ho : 0 ≤ (pc : Int) + o) (hp : ((pc : Int) + o).toNat = pc') (g : Go p e below P (T.setTop (mkF m pc' L st))) : Go p e below P (T.setTop (mkF m pc L (.null :: st))) := Go.via (fun _ k => XS.ifnullYes X.here hx rfl rfl hd rfl ho hp k) g
theorem s_ifnonnullN (X : Stand p l e R s m args below meth c T locs cells slots) (hx : p.tables.exec = Jvm.exec) {o : Int} (hd : decode c.code pc = .ok (.ifnonnull o, 3))  (pc' : Nat) (hp : pc + 3 = pc') (g : Go p e below P (T.setTop (mkF m pc' L (st)))) : Go p e below P (T.setTop (mkF m pc L (.null :: st))) := by
  subst hp; exact Go.via (fun _ k => XT.ifnonnullNo X.here hx rfl hd rfl k) g
theorem s_ifnonnullY (X : Stand p l e R s m args below meth c T locs cells slots) (hx : p.tables.exec = Jvm.exec) {o : Int} {b : Addr} (hd : decode c.code pc = .ok (.ifnonnull o, 3)) (pc' : Nat) (ho : 0 ≤ (pc : Int) + o) (hp : ((pc : Int) + o).toNat = pc') (g : Go p e below P (T.setTop (mkF m pc' L st))) : Go p e below P (T.setTop (mkF m pc L (.ref b :: st))) := Go.via (fun _ k => XT.ifnonnullYes X.here hx rfl rfl hd rfl ho hp k) g
section Cmp
variable {r : Option Ordering} {o : CmpOp}
theorem dd_ne_t (h : r ≠ some .eq) : ifCond.holds .ne (cmpValue r o) = true := by rcases r with _ | (_ | _ | _) <;> cases o <;> first | rfl | exact absurd rfl h
theorem dd_ne_f (h : r = some .eq) : ifCond.holds .ne (cmpValue r o) = false := by subst h; cases o <;> rfl
theorem dd_eq_t (h : r = some .eq) : ifCond.holds .eq (cmpValue r o) = true := by subst h; cases o <;> rfl
theorem dd_eq_f (h : r ≠ some .eq) : ifCond.holds .eq (cmpValue r o) = false := by rcases r with _ | (_ | _ | _) <;> cases o <;> first | rfl | exact absurd rfl h
theorem dd_ge_t (h : r ≠ some .lt) : ifCond.holds .ge (cmpValue r .g) = true := by rcases r with _ | (_ | _ | _) <;> first | rfl | exact absurd rfl h
theorem dd_ge_f (h : r = some .lt) : ifCond.holds .ge (cmpValue r .g) = false := by subst h; rfl
theorem dd_le_t (h : r ≠ some .gt) : ifCond.holds .le (cmpValue r .l) = true := by rcases r with _ | (_ | _ | _) <;> first | rfl | exact absurd rfl h
theorem dd_le_f (h : r = some .gt) : ifCond.holds .le (cmpValue r .l) = false := by subst h; rfl
theorem dd_gt_f (h : r = some .lt ∨ r = some .eq) : ifCond.holds .gt (cmpValue r .g) = false := by rcases h with h | h <;> (subst h; rfl)
theorem dd_lt_f (h : r = some .gt ∨ r = some .eq) : ifCond.holds .lt (cmpValue r .l) = false := by rcases h with h | h <;> (subst h; rfl)
theorem dd_lt_t (h : r = some .lt) : ifCond.holds .lt (cmpValue r o) = true := by subst h; cases o <;> rfl
end Cmp
end Steps1
/-! ## arrays, by the list of what they hold -/
section Arrays
variable {p : Program} {l : Launch} {e : Env} {R : Room} {s : State} {m : MethodId} {args : Array Value} {below : List Frame} {meth : Method} {c : Code} {T : State} {locs : List Loc} {cells slots : Nat} {P : Outcome → State → Prop} {pc : Nat} {L : Array Slot} {st : List Value} {Z : State} {h h' : Heap} {a b : Addr} {a0 : Array Value} {k : ClassId} {ty : FieldType} {vs : List Value} {v : Value} {sl : Nat} {ws : List Addr}
/-- at a lies an array of components ty, of the class numbered k, that holds vs -/
def AR (Z : State) (h : Heap) (a : Addr) (k : ClassId) (ty : FieldType) (vs : List Value) : Prop := ∃ c : Cell, Arr Z h a c ty ∧ c.cls = k ∧ c.slots = vs.toArray
theorem AR.lt (F : AR Z h a k ty vs) : a < h.size := by obtain ⟨c, A, -⟩ := F; exact A.lt
theorem AR.ext (F : AR Z h a k ty vs) (E : Ext h h') : AR Z h' a k ty vs := by obtain ⟨c, A, r⟩ := F; exact ⟨c, A.ext E, r⟩
theorem AR.other (F : AR Z h b k ty vs) (W : Wr h h' a sl v) (q : b ≠ a) : AR Z h' b k ty vs := by obtain ⟨c, A, r⟩ := F; exact ⟨c, A.other W q, r⟩
theorem AR.keep (F : AR Z h a k ty vs) (K : Keep h h' ws) (q : a ∉ ws) : AR Z h' a k ty vs := by obtain ⟨c, A, r⟩ := F; exact ⟨c, ⟨K.2.1 a c A.1 q, A.2⟩, r⟩
theorem AR.same (F : AR Z h a k ty vs) (W : Wr h h' a sl v) : AR Z h' a k ty (vs.set sl v) := by
  obtain ⟨c, A, r1, r2⟩ := F
  exact ⟨c.setSlot sl v, A.same W, r1, by simp [Cell.setSlot, r2]⟩
theorem ar_len {c : Cell} (r : c.slots = vs.toArray) : c.slots.size = vs.length := by rw [r]; simp
theorem ar_in {c : Cell} (r : c.slots = vs.toArray) {j : Int32} {i : Nat} (hj : ¬ j < 0 ∧ j.toNatClampNeg = i) (hv : vs[i]? = some v) : ¬ (j < 0 ∨ c.slots.size ≤ j.toNatClampNeg) ∧ c.slots[j.toNatClampNeg]? = some v := by
  obtain ⟨h1, rfl⟩ := hj
  have h2 : j.toNatClampNeg < vs.length := (List.getElem?_eq_some_iff.mp hv).1
  refine ⟨?_, by rw [r]; simpa using hv⟩
  rintro (q | q)
  · exact h1 q
  · rw [ar_len r] at q; omega
theorem s_len (X : Stand p l e R s m args below meth c T locs cells slots) (hx : p.tables.exec = Jvm.exec) (hZ : Z.Warmed39 s.vm) (eT : T.heap = h) (F : AR Z h a k ty vs) (hd : decode c.code pc = .ok (.arraylength, 1)) (n : Int32) (hn : vs.length.toInt32 = n) (pc' : Nat) (hp : pc + 1 = pc') (g : Go p e below P (T.setTop (mkF m pc' L (.int n :: st)))) : Go p e below P (T.setTop (mkF m pc L (.ref a :: st))) := by
  obtain ⟨cl, A, r1, r2⟩ := F
  subst hp hn
  rw [← ar_len r2] at g
  exact Go.via (fun _ k => X.arraylength hx (by rw [eT]; exact A.1) (State.isArrayOf_alike hZ.alike A.2.1) (g := mkF m pc L (.ref a :: st)) rfl rfl hd _ k) g
theorem s_iaload (X : Stand p l e R s m args below meth c T locs cells slots) (hx : p.tables.exec = Jvm.exec) (hZ : Z.Warmed39 s.vm) (eT : T.heap = h) (F : AR Z h a k .int vs) (hd : decode c.code pc = .ok (.iaload, 1)) {j : Int32} (i : Nat) (hj : ¬ j < 0 ∧ j.toNatClampNeg = i) (v : Value) (hv : vs[i]? = some v) (pc' : Nat) (hp : pc + 1 = pc') (g : Go p e below P (T.setTop (mkF m pc' L (v :: st)))) : Go p e below P (T.setTop (mkF m pc L (.int j :: .ref a :: st))) := by
  obtain ⟨cl, A, r1, r2⟩ := F
  obtain ⟨q1, q2⟩ := ar_in r2 hj hv
  subst hp
  exact Go.via (fun _ k => X.iaload hx (by rw [eT]; exact A.1) (State.isArrayOf_alike hZ.alike A.2.1) A.2.2 q1 q2 (g := mkF m pc L (.int j :: .ref a :: st)) rfl rfl hd _ k) g
theorem s_laload (X : Stand p l e R s m args below meth c T locs cells slots) (hx : p.tables.exec = Jvm.exec) (hZ : Z.Warmed39 s.vm) (eT : T.heap = h) (F : AR Z h a k .long vs) (hd : decode c.code pc = .ok (.laload, 1)) {j : Int32} (i : Nat) (hj : ¬ j < 0 ∧ j.toNatClampNeg = i) (v : Value) (hv : vs[i]? = some v) (pc' : Nat) (hp : pc + 1 = pc') (g : Go p e below P (T.setTop (mkF m pc' L (v :: st)))) : Go p e below P (T.setTop (mkF m pc L (.int j :: .ref a :: st))) := by
  obtain ⟨cl, A, r1, r2⟩ := F
  obtain ⟨q1, q2⟩ := ar_in r2 hj hv
  subst hp
  exact Go.via (fun _ k => X.laload hx (by rw [eT]; exact A.1) (State.isArrayOf_alike hZ.alike A.2.1) A.2.2 q1 q2 (g := mkF m pc L (.int j :: .ref a :: st)) rfl rfl hd _ k) g
theorem s_daload (X : Stand p l e R s m args below meth c T locs cells slots) (hx : p.tables.exec = Jvm.exec) (hZ : Z.Warmed39 s.vm) (eT : T.heap = h) (F : AR Z h a k .double vs) (hd : decode c.code pc = .ok (.daload, 1)) {j : Int32} (i : Nat) (hj : ¬ j < 0 ∧ j.toNatClampNeg = i) (v : Value) (hv : vs[i]? = some v) (pc' : Nat) (hp : pc + 1 = pc') (g : Go p e below P (T.setTop (mkF m pc' L (v :: st)))) : Go p e below P (T.setTop (mkF m pc L (.int j :: .ref a :: st))) := by
  obtain ⟨cl, A, r1, r2⟩ := F
  obtain ⟨q1, q2⟩ := ar_in r2 hj hv
  subst hp
  exact Go.via (fun _ k => X.daload hx (by rw [eT]; exact A.1) (State.isArrayOf_alike hZ.alike A.2.1) A.2.2 q1 q2 (g := mkF m pc L (.int j :: .ref a :: st)) rfl rfl hd _ k) g
theorem s_aaload (X : Stand p l e R s m args below meth c T locs cells slots) (hx : p.tables.exec = Jvm.exec) (hZ : Z.Warmed39 s.vm) (eT : T.heap = h) (F : AR Z h a k ty vs) (ht : ty.isReference = true) (hd : decode c.code pc = .ok (.aaload, 1)) {j : Int32} (i : Nat) (hj : ¬ j < 0 ∧ j.toNatClampNeg = i) (v : Value) (hv : vs[i]? = some v) (pc' : Nat) (hp : pc + 1 = pc') (g : Go p e below P (T.setTop (mkF m pc' L (v :: st)))) : Go p e below P (T.setTop (mkF m pc L (.int j :: .ref a :: st))) := by
  obtain ⟨cl, A, r1, r2⟩ := F
  obtain ⟨q1, q2⟩ := ar_in r2 hj hv
  subst hp
  exact Go.via (fun _ k => X.aaload hx (by rw [eT]; exact A.1) (State.isArrayOf_alike hZ.alike A.2.1) ht A.2.2 q1 q2 (g := mkF m pc L (.int j :: .ref a :: st)) rfl rfl hd _ k) g
theorem s_iastore (X : Stand p l e R s m args below meth c T locs cells slots) (hx : p.tables.exec = Jvm.exec) (hZ : Z.Warmed39 s.vm) (eT : T.heap = h) (F : AR Z h a k .int vs) (hd : decode c.code pc = .ok (.iastore, 1)) (L : Array Slot) (st : List Value) {j : Int32} (i : Nat) (hj : ¬ j < 0 ∧ j.toNatClampNeg = i) (hi : i < vs.length) (x : Int32) (vs' : List Value) (hvs : vs.set i (.int x) = vs') (pc' : Nat) (hp : pc + 1 = pc') :
    ∃ T' h', Stand p l e R s m args below meth c T' (locs ++ [⟨a, i⟩]) cells slots ∧ T'.heap = h' ∧ Wr h h' a i (.int x) ∧ AR Z h' a k .int vs' ∧ ∀ t, Steps p.tables e below (T'.setTop (mkF m pc' L st)) t → Steps p.tables e below (T.setTop (mkF m pc L (.int x :: .int j :: .ref a :: st))) t := by
  obtain ⟨cl, A, r1, r2⟩ := F
  obtain ⟨q1, -⟩ := ar_in r2 hj (List.getElem?_eq_getElem hi)
  obtain ⟨hj1, rfl⟩ := hj
  subst hp hvs
  obtain ⟨T', h', X', e', W, st'⟩ := stI X hx hZ eT A q1 (g := mkF m pc L (.int x :: .int j :: .ref a :: st)) rfl rfl hd
  exact ⟨T', h', X', e', W, AR.same ⟨cl, A, r1, r2⟩ W, st'⟩
theorem s_lastore (X : Stand p l e R s m args below meth c T locs cells slots) (hx : p.tables.exec = Jvm.exec) (hZ : Z.Warmed39 s.vm) (eT : T.heap = h) (F : AR Z h a k .long vs) (hd : decode c.code pc = .ok (.lastore, 1)) (L : Array Slot) (st : List Value) {j : Int32} (i : Nat) (hj : ¬ j < 0 ∧ j.toNatClampNeg = i) (hi : i < vs.length) (x : Int64) (vs' : List Value) (hvs : vs.set i (.long x) = vs') (pc' : Nat) (hp : pc + 1 = pc') :
    ∃ T' h', Stand p l e R s m args below meth c T' (locs ++ [⟨a, i⟩]) cells slots ∧ T'.heap = h' ∧ Wr h h' a i (.long x) ∧ AR Z h' a k .long vs' ∧ ∀ t, Steps p.tables e below (T'.setTop (mkF m pc' L st)) t → Steps p.tables e below (T.setTop (mkF m pc L (.long x :: .int j :: .ref a :: st))) t := by
  obtain ⟨cl, A, r1, r2⟩ := F
  obtain ⟨q1, -⟩ := ar_in r2 hj (List.getElem?_eq_getElem hi)
  obtain ⟨hj1, rfl⟩ := hj
  subst hp hvs
  obtain ⟨T', h', X', e', W, st'⟩ := stJ X hx hZ eT A q1 (g := mkF m pc L (.long x :: .int j :: .ref a :: st)) rfl rfl hd
  exact ⟨T', h', X', e', W, AR.same ⟨cl, A, r1, r2⟩ W, st'⟩
theorem s_dastore (X : Stand p l e R s m args below meth c T locs cells slots) (hx : p.tables.exec = Jvm.exec) (hZ : Z.Warmed39 s.vm) (eT : T.heap = h) (F : AR Z h a k .double vs) (hd : decode c.code pc = .ok (.dastore, 1)) (L : Array Slot) (st : List Value) {j : Int32} (i : Nat) (hj : ¬ j < 0 ∧ j.toNatClampNeg = i) (hi : i < vs.length) (x : UInt64) (vs' : List Value) (hvs : vs.set i (.double x) = vs') (pc' : Nat) (hp : pc + 1 = pc') :
    ∃ T' h', Stand p l e R s m args below meth c T' (locs ++ [⟨a, i⟩]) cells slots ∧ T'.heap = h' ∧ Wr h h' a i (.double x) ∧ AR Z h' a k .double vs' ∧ ∀ t, Steps p.tables e below (T'.setTop (mkF m pc' L st)) t → Steps p.tables e below (T.setTop (mkF m pc L (.double x :: .int j :: .ref a :: st))) t := by
  obtain ⟨cl, A, r1, r2⟩ := F
  obtain ⟨q1, -⟩ := ar_in r2 hj (List.getElem?_eq_getElem hi)
  obtain ⟨hj1, rfl⟩ := hj
  subst hp hvs
  obtain ⟨T', h', X', e', W, st'⟩ := stD X hx hZ eT A q1 (g := mkF m pc L (.double x :: .int j :: .ref a :: st)) rfl rfl hd
  exact ⟨T', h', X', e', W, AR.same ⟨cl, A, r1, r2⟩ W, st'⟩
theorem s_aastore (X : Stand p l e R s m args below meth c T locs cells slots) (hx : p.tables.exec = Jvm.exec) (hZ : Z.Warmed39 s.vm) (eT : T.heap = h) (F : AR Z h a k ty vs) (ht : ty.isReference = true) (hd : decode c.code pc = .ok (.aastore, 1)) (L : Array Slot) (st : List Value) {j : Int32} (i : Nat) (hj : ¬ j < 0 ∧ j.toNatClampNeg = i) (hi : i < vs.length) (x : Value) (S : Sto Z h a x) (vs' : List Value) (hvs : vs.set i x = vs') (pc' : Nat) (hp : pc + 1 = pc') :
    ∃ T' h', Stand p l e R s m args below meth c T' (locs ++ [⟨a, i⟩]) cells slots ∧ T'.heap = h' ∧ Wr h h' a i x ∧ AR Z h' a k ty vs' ∧ ∀ t, Steps p.tables e below (T'.setTop (mkF m pc' L st)) t → Steps p.tables e below (T.setTop (mkF m pc L (x :: .int j :: .ref a :: st))) t := by
  obtain ⟨cl, A, r1, r2⟩ := F
  obtain ⟨q1, -⟩ := ar_in r2 hj (List.getElem?_eq_getElem hi)
  obtain ⟨hj1, rfl⟩ := hj
  subst hp hvs
  obtain ⟨T', h', X', e', W, st'⟩ := stR X hx hZ eT A q1 ht S (g := mkF m pc L (x :: .int j :: .ref a :: st)) rfl rfl hd
  exact ⟨T', h', X', e', W, AR.same ⟨cl, A, r1, r2⟩ W, st'⟩
theorem s_newarray (X : Stand p l e R s m args below meth c T locs cells slots) (hx : p.tables.exec = Jvm.exec) (hZ : Z.Warmed39 s.vm) {aty : ArrayType} (w : (Cond.arrayClass (newarray.typeOf aty)).before a0 Z = true) (eT : T.heap = h) (hd : decode c.code pc = .ok (.newarray aty, 2)) (L : Array Slot) (st : List Value) {n : Int32} (cap : Nat) (hn : ¬ n < 0 ∧ n.toNatClampNeg = cap) (vs : List Value) (hvs : List.replicate cap (defaultValue (newarray.typeOf aty)) = vs) (hb : cap * 8 ≤ 536870912) (hc : cells + 1 ≤ R.cells) (hl : slots + cap ≤ R.slots) (pc' : Nat) (hp : pc + 2 = pc') :
    ∃ T' h' cA, Stand p l e R s m args below meth c T' locs (cells + 1) (slots + cap) ∧ T'.heap = h' ∧ Ext h h' ∧ AR Z h' h.size cA (newarray.typeOf aty) vs ∧ ∀ t, Steps p.tables e below (T'.setTop (mkF m pc' L (.ref h.size :: st))) t → Steps p.tables e below (T.setTop (mkF m pc L (.int n :: st))) t := by
  obtain ⟨n1, n2⟩ := hn
  obtain ⟨T', h', cA, X', e', E, A, st'⟩ := newP X hx hZ w eT (g := mkF m pc L (.int n :: st)) rfl hd rfl n1 (cap := cap) (Nat.le_of_eq n2) hb hc hl
  subst hp hvs
  exact ⟨T', h', cA, X', e', E, ⟨_, A, rfl, by simp [newA, n2]⟩, st'⟩
end Arrays
/-! ## calls by contract -/
section Calls
variable {p : Program} {l : Launch} {e : Env} {R : Room} {s : State} {m : MethodId} {args : Array Value} {below : List Frame} {meth : Method} {c : Code} {T : State} {locs : List Loc} {cells slots : Nat} {P : Outcome → State → Prop} {pc : Nat} {L : Array Slot} {st : List Value} {Z : State} {h h' : Heap} {a0 : Array Value} {own : String} {index : Nat} {y : MethodName} {bytes : ByteArray} {ml : Nat} {rm : Room} {as : Array Value} {Q : Option Value → Heap → List Loc → Prop}
theorem ct_back {ret : Option FieldType} {len W : Nat} (C : Ct l Z y bytes ml ret [] rm as h Q) (hZ : Z.Warmed39 s.vm) (wc : (Cond.code y bytes ml ret).before a0 Z = true) (wz : (Cond.initialized y.cls).before a0 Z = true) (hf : rm.frames + 1 ≤ R.frames) (hl : W + (ml + 11) + rm.locals ≤ R.locals) :
    Back l R p e below s args y len W (fun A a => a = as ∧ A.U.heap = h ∧ A.cells + rm.cells ≤ R.cells ∧ A.slots + rm.slots ≤ R.slots)
      (fun A _ v B => ∃ L, Q v B.U.heap L ∧ B.locs = A.locs ++ L ∧ B.cells = A.cells + rm.cells ∧ B.slots = A.slots + rm.slots) := backOf C hZ wc wz hf hl
theorem callStat {ret : Option FieldType} (X : Stand p l e R s m args below meth c T locs cells slots) (hx : p.tables.exec = Jvm.exec) (hZ : Z.Warmed39 s.vm) (hown : s.vm.findClass own = some m.cls) (w1 : (Cond.methodLink own index y).before a0 Z = true) (w2 : (Cond.static y).before a0 Z = true) (w3 : (Cond.initialized y.cls).before a0 Z = true) (w4 : (Cond.code y bytes ml ret).before a0 Z = true) (hy : y.cls ≠ "java/lang/invoke/MethodHandle" ∧ y.cls ≠ "java/lang/invoke/VarHandle") (C : Ct l Z y bytes ml ret [] rm as h Q) (eT : T.heap = h) (hd : decode c.code pc = .ok (.invokestatic index, 3)) (hml : L.size = c.maxLocals) (argsL rest : List Value) (hst : st = argsL.reverse ++ rest) (has : argsL.toArray = as) {ps : List FieldType} {r : Option FieldType} (hpd : parseMethodDescriptor y.desc = some ⟨ps, r⟩) (hln : argsL.length = ps.length) (W : Nat) (hW : 2 * 0 + (rest.map fun v => v.category).sum ≤ W) (hfr : rm.frames + 1 ≤ R.frames) (hlo : W + (ml + 11) + rm.locals ≤ R.locals) (hc : cells + rm.cells ≤ R.cells) (hs : slots + rm.slots ≤ R.slots) :
    ∃ v T' L', Stand p l e R s m args below meth c T' (locs ++ L') (cells + rm.cells) (slots + rm.slots) ∧ Q v T'.heap L' ∧ ∀ t, Steps p.tables e below (T'.setTop (mkF m (pc + 3) L (v.toList ++ rest))) t → Steps p.tables e below (T.setTop (mkF m pc L st)) t := by
  obtain ⟨v, _, ⟨T', L1, k1, n1⟩, -, X', ⟨L', hQ, l1, y1, z1⟩, st'⟩ := Jvm.LawKit.callS X hx (y := y) hown (mvT hZ w1) (mvT hZ w2) (mvT hZ w3) (mvT hZ w4) hy (ct_back (W := W) C hZ w4 w3 hfr hlo) (g := mkF m pc L st) rfl hml (argsL := argsL) (rest := rest) (lenOf hpd hln) hst hW hd (fun _ _ => ⟨has, eT, hc, hs⟩)
  dsimp only [Pt.U, Pt.locs, Pt.cells, Pt.slots] at X' l1 y1 z1 st' hQ
  subst l1 y1 z1
  exact ⟨v, T', L', X', hQ, st'⟩
theorem callInit (X : Stand p l e R s m args below meth c T locs cells slots) (hx : p.tables.exec = Jvm.exec) (hZ : Z.Warmed39 s.vm) (hown : s.vm.findClass own = some m.cls) (hin : y.name = "<init>") (w1 : (Cond.methodLink own index y).before a0 Z = true) (w2 : (Cond.instanceMethod y).before a0 Z = true) (w3 : (Cond.initialized y.cls).before a0 Z = true) (w4 : (Cond.code y bytes ml none).before a0 Z = true) (hy : y.cls ≠ "java/lang/invoke/MethodHandle" ∧ y.cls ≠ "java/lang/invoke/VarHandle") (C : Ct l Z y bytes ml none [] rm as h Q) (eT : T.heap = h) (hd : decode c.code pc = .ok (.invokespecial index, 3)) (hml : L.size = c.maxLocals) (a : Addr) (argsL rest : List Value) (hst : st = argsL.reverse ++ .ref a :: rest) (has : (.ref a :: argsL).toArray = as) {ps : List FieldType} {r : Option FieldType} (hpd : parseMethodDescriptor y.desc = some ⟨ps, r⟩) (hln : argsL.length = ps.length) (W : Nat) (hW : 2 * 0 + (rest.map fun v => v.category).sum ≤ W) (hfr : rm.frames + 1 ≤ R.frames) (hlo : W + (ml + 11) + rm.locals ≤ R.locals) (hc : cells + rm.cells ≤ R.cells) (hs : slots + rm.slots ≤ R.slots) :
    ∃ v T' L', Stand p l e R s m args below meth c T' (locs ++ L') (cells + rm.cells) (slots + rm.slots) ∧ Q v T'.heap L' ∧ ∀ t, Steps p.tables e below (T'.setTop (mkF m (pc + 3) L (v.toList ++ rest))) t → Steps p.tables e below (T.setTop (mkF m pc L st)) t := by
  obtain ⟨v, _, ⟨T', L1, k1, n1⟩, -, X', ⟨L', hQ, l1, y1, z1⟩, st'⟩ := X.specialBack hx (y := y) hin hown (mvT hZ w1) (mvT hZ w2) (mvT hZ w4) hy (ct_back (W := W) C hZ w4 w3 hfr hlo) (g := mkF m pc L st) rfl hml (Steps.refl _) (a := a) (argsL := argsL) (rest := rest) (lenOf hpd hln) hst hW hd (fun _ _ => ⟨has, eT, hc, hs⟩)
  dsimp only [Pt.U, Pt.locs, Pt.cells, Pt.slots] at X' l1 y1 z1 st' hQ
  subst l1 y1 z1
  exact ⟨v, T', L', X', hQ, fun t k => st'.trans k⟩
theorem callVirt {ret : Option FieldType} {C0 : String} (X : Stand p l e R s m args below meth c T locs cells slots) (hx : p.tables.exec = Jvm.exec) (hZ : Z.Warmed39 s.vm) (hown : s.vm.findClass own = some m.cls) (w1 : (Cond.methodLink own index y).before a0 Z = true) (w2 : (Cond.declares y).before a0 Z = true) (w3 : (Cond.selects C0 y y).before a0 Z = true) (w4 : (Cond.instanceMethod y).before a0 Z = true) (w5 : (Cond.initialized y.cls).before a0 Z = true) (w6 : (Cond.code y bytes ml ret).before a0 Z = true) (hy : y.cls ≠ "java/lang/invoke/MethodHandle" ∧ y.cls ≠ "java/lang/invoke/VarHandle") (C : Ct l Z y bytes ml ret [] rm as h Q) (eT : T.heap = h) (a : Addr) (E : Exa Z h a C0) (hd : decode c.code pc = .ok (.invokevirtual index, 3)) (hml : L.size = c.maxLocals) (argsL rest : List Value) (hst : st = argsL.reverse ++ .ref a :: rest) (has : (.ref a :: argsL).toArray = as) {ps : List FieldType} {r : Option FieldType} (hpd : parseMethodDescriptor y.desc = some ⟨ps, r⟩) (hln : argsL.length = ps.length) (W : Nat) (hW : 2 * 0 + (rest.map fun v => v.category).sum ≤ W) (hfr : rm.frames + 1 ≤ R.frames) (hlo : W + (ml + 11) + rm.locals ≤ R.locals) (hc : cells + rm.cells ≤ R.cells) (hs : slots + rm.slots ≤ R.slots) :
    ∃ v T' L', Stand p l e R s m args below meth c T' (locs ++ L') (cells + rm.cells) (slots + rm.slots) ∧ Q v T'.heap L' ∧ ∀ t, Steps p.tables e below (T'.setTop (mkF m (pc + 3) L (v.toList ++ rest))) t → Steps p.tables e below (T.setTop (mkF m pc L st)) t := by
  obtain ⟨cq, kq, qa, qb, qc⟩ := isOf hZ eT E
  obtain ⟨v, _, ⟨T', L1, k1, n1⟩, -, X', ⟨L', hQ, l1, y1, z1⟩, st'⟩ := X.virtualBack hx (y := y) (z := y) hown (mvT hZ w1) (mvT hZ w2) (notFace_of_selects (args := #[]) (mvT hZ w3)) (mvT hZ w3) (mvT hZ w4) hy (ct_back (W := W) C hZ w6 w5 hfr hlo) qa qc (g := mkF m pc L st) rfl hml (Steps.refl _) (argsL := argsL) (rest := rest) (lenOf hpd hln) hst hW hd (fun _ _ => ⟨has, eT, hc, hs⟩)
  dsimp only [Pt.U, Pt.locs, Pt.cells, Pt.slots] at X' l1 y1 z1 st' hQ
  subst l1 y1 z1
  exact ⟨v, T', L', X', hQ, fun t k => st'.trans k⟩
theorem callPriv {ret : Option FieldType} {C0 : String} {nI : Nat} (X : Stand p l e R s m args below meth c T locs cells slots) (hx : p.tables.exec = Jvm.exec) (hZ : Z.Warmed39 s.vm) (hown : s.vm.findClass own = some m.cls) (w1 : (Cond.methodLink own index y).before a0 Z = true) (w2 : (Cond.privateMethod y).before a0 Z = true) (w3 : (Cond.instantiable y.cls nI).before a0 Z = true) (w4 : (Cond.instanceMethod y).before a0 Z = true) (w5 : (Cond.initialized y.cls).before a0 Z = true) (w6 : (Cond.code y bytes ml ret).before a0 Z = true) (hy : y.cls ≠ "java/lang/invoke/MethodHandle" ∧ y.cls ≠ "java/lang/invoke/VarHandle") (C : Ct l Z y bytes ml ret [] rm as h Q) (eT : T.heap = h) (a : Addr) (E : Exa Z h a C0) (hd : decode c.code pc = .ok (.invokevirtual index, 3)) (hml : L.size = c.maxLocals) (argsL rest : List Value) (hst : st = argsL.reverse ++ .ref a :: rest) (has : (.ref a :: argsL).toArray = as) {ps : List FieldType} {r : Option FieldType} (hpd : parseMethodDescriptor y.desc = some ⟨ps, r⟩) (hln : argsL.length = ps.length) (W : Nat) (hW : 2 * 0 + (rest.map fun v => v.category).sum ≤ W) (hfr : rm.frames + 1 ≤ R.frames) (hlo : W + (ml + 11) + rm.locals ≤ R.locals) (hc : cells + rm.cells ≤ R.cells) (hs : slots + rm.slots ≤ R.slots) :
    ∃ v T' L', Stand p l e R s m args below meth c T' (locs ++ L') (cells + rm.cells) (slots + rm.slots) ∧ Q v T'.heap L' ∧ ∀ t, Steps p.tables e below (T'.setTop (mkF m (pc + 3) L (v.toList ++ rest))) t → Steps p.tables e below (T.setTop (mkF m pc L st)) t := by
  obtain ⟨cell, qa, qc⟩ := E.cell
  rw [← eT] at qa
  have hpr : s.PrivateAt y := Cond.privateMethod_at (mvT (args := #[]) hZ w2)
  obtain ⟨ci, ki, i1, i2, -, i4, -⟩ := Cond.instantiable_spec (mvT (args := args) hZ w3)
  have hsel := selects_self_of_private (args := args) i1 i2 (by simp at i4; exact i4.1) hpr (mvT hZ w4) hy
  obtain ⟨v, _, ⟨T', L1, k1, n1⟩, -, X', ⟨L', hQ, l1, y1, z1⟩, st'⟩ := X.privateBack hx (y := y) hown (mvT hZ w1) (mvT hZ w4) hsel hpr (mvT hZ w6) hy (ct_back (W := W) C hZ w6 w5 hfr hlo) (g := mkF m pc L st) rfl hml (Steps.refl _) qa qc (argsL := argsL) (rest := rest) (lenOf hpd hln) hst hW hd (fun _ _ => ⟨has, eT, hc, hs⟩)
  dsimp only [Pt.U, Pt.locs, Pt.cells, Pt.slots] at X' l1 y1 z1 st' hQ
  subst l1 y1 z1
  exact ⟨v, T', L', X', hQ, fun t k => st'.trans k⟩
end Calls
end Jvm.OwnGo
namespace Jvm.OwnGo
open Sem ClassFile Op Lib Jvm.Stand Jvm.Free Jvm.LawKit Jvm.RoadKit
section Refs
variable {p : Program} {l : Launch} {e : Env} {R : Room} {s : State} {m : MethodId} {args : Array Value} {below : List Frame} {meth : Method} {c : Code} {T : State} {locs : List Loc} {cells slots : Nat} {pc : Nat} {Z : State} {h h' : Heap} {a y : Addr} {a0 : Array Value} {k : ClassId} {ty : FieldType} {vs : List Value} {C : String}
/-- the array class numbered k has components of type ty, whose class is C -/
def OvA (Z : State) (k : ClassId) (ty : FieldType) (C : String) : Prop := ∃ (kk : Class) (comp : ClassId), Z.vm.classes[k]? = some kk ∧ kk.kind = .array comp ty ∧ Z.vm.findClass C = some comp
theorem sto_of (A : AR Z h a k ty vs) {t : FieldType} (O : OvA Z k t C) (I : Ins Z h y C true) : Sto Z h a (.ref y) := by
  obtain ⟨cl, A1, rfl, -⟩ := A
  obtain ⟨kk, comp, o1, o2, o3⟩ := O
  obtain ⟨cv, cT, i1, i2, i3⟩ := I
  cases o3.symm.trans i2
  simp only [Bool.and_eq_true, Bool.not_eq_true'] at i3
  obtain ⟨kc, q⟩ := Vm.classAt_of_findClass o3
  obtain ⟨kv, q2⟩ := Vm.classAt_of_assignable i3.2 ⟨kc, q⟩
  exact Or.inr ⟨cl, cv, kk, kv, kc, _, _, y, A1.1, o1, o2, q, rfl, i1, i3.1, q2, i3.2⟩
/-- the word 'arrayOver' of an array type, opened -/
theorem ov_spec {t : FieldType} (w : (Cond.arrayOver (.array t)).before args s = true) : ∃ comp cA kA, s.vm.findClass (FieldType.array t).toString = some comp ∧ (s.vm.classes.findIdx? fun (x : Class) => match x.kind with | .array component _ => component == comp | _ => false) = some cA ∧ s.vm.classes[cA]? = some kA ∧ kA.kind = .array comp (.array t) ∧ s.vm.findClass ("[" ++ (FieldType.array t).toString) = some cA := by
  simp only [Cond.before, Cond.holds, Cond.value, beq_iff_eq] at w
  cases hc : s.vm.findClass (FieldType.array t).toString with
  | none => simp [hc] at w
  | some comp =>
    simp only [hc, Option.bind_some, Option.bind_eq_some_iff, Option.map_eq_some_iff] at w
    obtain ⟨cA, hi, kA, hk, hb⟩ := w
    obtain ⟨hlt, hp, -⟩ := Array.findIdx?_eq_some_iff_getElem.mp hi
    rw [(Array.getElem?_eq_some_iff.mp hk).2] at hp
    cases hkind : kA.kind with
    | array component ty =>
      rw [hkind] at hb hp
      have hp' : component = comp := by simpa using hp
      simp at hb
      exact ⟨comp, cA, kA, rfl, hi, hk, by rw [hkind, hp', hb.1], hb.2⟩
    | _ => rw [hkind] at hb; simp at hb
theorem ov_at {t : FieldType} (hZ : Z.Warmed39 s.vm) (w : (Cond.arrayOver (.array t)).before a0 Z = true) : (Cond.arrayOver (.array t)).before args s = true := by
  have h1 : (Cond.arrayOver (.array t)).before a0 (Z.setVm s.vm) = true := by rw [Cond.arrayOver_setVmC hZ.alike]; exact w
  exact h1
/-- anewarray of arrays -/
theorem s_anewarrayA (X : Stand p l e R s m args below meth c T locs cells slots) (hx : p.tables.exec = Jvm.exec) (hZ : Z.Warmed39 s.vm) {own : String} {index : Nat} {t : FieldType} (hown : s.vm.findClass own = some m.cls) (w1 : (Cond.classLink own index C).before a0 Z = true) (w2 : (Cond.arrayOver (.array t)).before a0 Z = true) (hC : (FieldType.array t).toString = C) (eT : T.heap = h) (hd : decode c.code pc = .ok (.anewarray index, 3)) (L : Array Slot) (st : List Value) {n : Int32} (cap : Nat) (hn : ¬ n < 0 ∧ n.toNatClampNeg = cap) (vs : List Value) (hvs : List.replicate cap Value.null = vs) (hb : cap * 4 ≤ 536870912) (hc : cells + 1 ≤ R.cells) (hl : slots + cap ≤ R.slots) (pc' : Nat) (hp : pc + 3 = pc') :
    ∃ T' h' cA, Stand p l e R s m args below meth c T' locs (cells + 1) (slots + cap) ∧ T'.heap = h' ∧ Ext h h' ∧ AR Z h' h.size cA (.array t) vs ∧ OvA Z cA (.array t) C ∧ ∀ tg, Steps p.tables e below (T'.setTop (mkF m pc' L (.ref h.size :: st))) tg → Steps p.tables e below (T.setTop (mkF m pc L (.int n :: st))) tg := by
  subst hp hvs hC eT
  obtain ⟨n1, n2⟩ := hn
  have hpl : e.platform.magicAccessors = ({} : Platform).magicAccessors := by rw [X.admits.platform]
  obtain ⟨comp, cA, kA, hcomp, hidx, hkA, hkindA, hnameA⟩ := ov_spec (args := args) (ov_at hZ w2)
  obtain ⟨kComp, hkComp, -⟩ := Vm.findClass_spec hcomp
  obtain ⟨cc, hfcc, hcl⟩ := Cond.classLink_spec hown (mv (args := args) hZ w1) e.platform hpl
  cases hcomp.symm.trans hfcc
  obtain ⟨hg₁, hwarm₁, hready₁⟩ := State.classEntry (e := e) X.warmed hcl
  generalize T.vm.noted m.cls index (.cls comp) = vm₁ at hg₁ hwarm₁ hready₁
  have hal : s.vm.Alike vm₁ := hwarm₁.alike
  obtain ⟨kComp₁, hkComp₁, -⟩ := hal.2.2 _ _ hkComp
  obtain ⟨kA₁, hkA₁, heA⟩ := hal.2.2 _ _ hkA
  have hkindA₁ : kA₁.kind = .array comp (.array t) := by rw [heA]; exact hkindA
  have hidx₁ : (vm₁.classes.findIdx? fun (x : Class) => match x.kind with | .array component _ => component == comp | _ => false) = some cA := by
    rw [hal.findIdx?_eqK _ (fun _ => rfl)]; exact hidx
  have hlimit : ¬ n.toNatClampNeg > e.platform.arrayLengthLimit := by rw [Launch.admits_arrayLengthLimit X.admits]; omega
  have hheap : ¬ n.toNatClampNeg * componentBytes (.array t) > e.platform.maxHeapBytes := by
    rw [Launch.admits_maxHeapBytes X.admits]; show ¬ n.toNatClampNeg * 4 > 536870912; omega
  have X₂ := (X.noted hwarm₁).pushed { cls := cA, slots := Array.replicate n.toNatClampNeg .null, vm := .none }
  obtain ⟨hr1, hr2⟩ := X.roomAbove hc (by rw [n2]; exact hl : slots + n.toNatClampNeg ≤ R.slots)
  rw [hZ.alike.findClass] at hnameA hcomp
  obtain ⟨kZ, z1, -⟩ := Vm.findClass_spec hnameA
  obtain ⟨k', z2, z3⟩ := hZ.alike.2.2 _ _ z1
  cases hkA.symm.trans z2
  have kk : kZ.kind = .array comp (.array t) := by rw [← hkindA, z3]
  refine ⟨((T.setVm vm₁).pushCell { cls := cA, slots := Array.replicate n.toNatClampNeg .null, vm := .none }), _, cA, (by have q := X₂; rw [← n2]; simpa using q), rfl, ext_of fun a q => Array.getElem?_push_lt q |>.trans (Array.getElem?_eq_getElem q).symm, ⟨{ cls := cA, slots := Array.replicate n.toNatClampNeg .null, vm := .none }, ⟨by show (T.heap.push _)[T.heap.size]? = _; simp, ⟨by simp, kZ, z1, comp, kk⟩, by simp⟩, rfl, by simp [n2]⟩, ⟨kZ, comp, z1, kk, hcomp⟩, fun target hrest => ?_⟩
  jvm_step X.here [hx, hd, anewarray.wp_cold (e := e) (s := T) (f := mkF m pc L (.int n :: st)) X.here.top hg₁ hready₁,
    anewarray.wp_ready (e := e) (s := T.setVm vm₁) (f := mkF m pc L (.int n :: st)) (kc := kComp₁) (k := kA₁) (type := .array t) X.here.top hready₁ hkComp₁ hidx₁ hkA₁ hkindA₁ rfl rfl n1 hlimit hheap]
  exact ⟨by show T.heap.size < _; omega, by show T.slotsUsed + _ ≤ _; exact hr2, hrest⟩
/-- newarray, with the new array's class by name -/
theorem s_newarrayE (X : Stand p l e R s m args below meth c T locs cells slots) (hx : p.tables.exec = Jvm.exec) (hZ : Z.Warmed39 s.vm) {aty : ArrayType} (w : (Cond.arrayClass (newarray.typeOf aty)).before a0 Z = true) (eT : T.heap = h) (hd : decode c.code pc = .ok (.newarray aty, 2)) (L : Array Slot) (st : List Value) {n : Int32} (cap : Nat) (hn : ¬ n < 0 ∧ n.toNatClampNeg = cap) (vs : List Value) (hvs : List.replicate cap (defaultValue (newarray.typeOf aty)) = vs) (hb : cap * 8 ≤ 536870912) (hc : cells + 1 ≤ R.cells) (hl : slots + cap ≤ R.slots) (pc' : Nat) (hp : pc + 2 = pc') (ad : String) (had : "[" ++ (newarray.typeOf aty).toString = ad) :
    ∃ T' h' cA, Stand p l e R s m args below meth c T' locs (cells + 1) (slots + cap) ∧ T'.heap = h' ∧ Ext h h' ∧ AR Z h' h.size cA (newarray.typeOf aty) vs ∧ Exa Z h' h.size ad ∧ ∀ t, Steps p.tables e below (T'.setTop (mkF m pc' L (.ref h.size :: st))) t → Steps p.tables e below (T.setTop (mkF m pc L (.int n :: st))) t := by
  obtain ⟨n1, n2⟩ := hn
  obtain ⟨T', h', cA, X', e', E, A, B, st'⟩ := newPE X hx hZ w eT (g := mkF m pc L (.int n :: st)) rfl hd rfl n1 (cap := cap) (Nat.le_of_eq n2) hb hc hl had
  subst hp hvs
  exact ⟨T', h', cA, X', e', E, ⟨_, A, rfl, by simp [newA, n2]⟩, B, st'⟩
end Refs
end Jvm.OwnGo
namespace Jvm.OwnGo
open Sem ClassFile Op Lib Jvm.Stand Jvm.Free Jvm.LawKit Jvm.RoadKit
section Bag
variable {p : Program} {l : Launch} {e : Env} {R : Room} {s : State} {m : MethodId} {args : Array Value} {below : List Frame} {meth : Method} {c : Code} {T : State} {locs : List Loc} {cells slots : Nat} {pc : Nat} {Z : State} {h h' : Heap} {a b y : Addr} {a0 : Array Value} {k k' : ClassId} {ty : FieldType} {vs vd : List Value} {C : String}
/-- getfield through an entry that is resolved already -/
theorem getFR (X : Stand p l e R s m args below meth c T locs cells slots) (hx : p.tables.exec = Jvm.exec) (hZ : Z.Warmed39 s.vm) {own O n d : String} {index : Nat} (hown : s.vm.findClass own = some m.cls) (w : (Cond.fieldRef own index O n d).before a0 Z = true)
    (eT : T.heap = h) {v : Value} (F : Fld Z h a O n d v) {g : JFrame} (hg : g.method = m) {rest : List Value} (hs : g.stack = .ref a :: rest) (hd : decode c.code g.pc = .ok (.getfield index, 3)) : ∃ T', Stand p l e R s m args below meth c T' locs cells slots ∧ T'.heap = h ∧ ∀ target, Steps p.tables e below (T'.setTop { g with pc := g.pc + 3, stack := v :: rest }) target → Steps p.tables e below (T.setTop g) target := by
  obtain ⟨cell, cf, kk, i, f, h1, h2, h3, h4, -, -, h7⟩ := F
  have wT : (Cond.fieldRef own index O n d).before args (Z.setVm T.vm) = true := Cond.fieldRef_warmed39 (hZ.trans X.warmed.wide) w
  have hownT : (Z.setVm T.vm).vm.findClass own = some m.cls := by
    show T.vm.findClass own = some m.cls
    rw [X.warmed.alike.findClass]; exact hown
  obtain ⟨c2, k2, i2, f2, q1, q2⟩ := Cond.fieldRef_spec hownT wT
  obtain ⟨k3, hi, ek⟩ := State.fieldFound?_setVm (s := Z) (hZ.trans X.warmed.wide).alike h2
  cases q1.symm.trans hi
  exact ⟨T, X, eT, fun target r => (X.getfieldR hx hg q2 h3 hs (by rw [eT]; exact h1) h4 h7 hd (Steps.refl _)).trans r⟩
theorem s_anewarrayO (X : Stand p l e R s m args below meth c T locs cells slots) (hx : p.tables.exec = Jvm.exec) (hZ : Z.Warmed39 s.vm) {own : String} {index : Nat} (hown : s.vm.findClass own = some m.cls) (w1 : (Cond.classLink own index C).before a0 Z = true) (w2 : (Cond.arrayOver (.object C)).before a0 Z = true) (eT : T.heap = h) (hd : decode c.code pc = .ok (.anewarray index, 3)) (L : Array Slot) (st : List Value) {n : Int32} (cap : Nat) (hn : ¬ n < 0 ∧ n.toNatClampNeg = cap) (vs : List Value) (hvs : List.replicate cap Value.null = vs) (hb : cap * 8 ≤ 536870912) (hc : cells + 1 ≤ R.cells) (hl : slots + cap ≤ R.slots) (pc' : Nat) (hp : pc + 3 = pc') :
    ∃ T' h' cA, Stand p l e R s m args below meth c T' locs (cells + 1) (slots + cap) ∧ T'.heap = h' ∧ Ext h h' ∧ AR Z h' h.size cA (.object C) vs ∧ OvA Z cA (.object C) C ∧ ∀ t, Steps p.tables e below (T'.setTop (mkF m pc' L (.ref h.size :: st))) t → Steps p.tables e below (T.setTop (mkF m pc L (.int n :: st))) t := by
  obtain ⟨n1, n2⟩ := hn
  obtain ⟨T', h', cA, X', e', E, A, O, st'⟩ := newR X hx hZ hown w1 w2 eT (g := mkF m pc L (.int n :: st)) rfl hd rfl n1 (cap := cap) (Nat.le_of_eq n2) hb hc hl
  subst hp hvs
  exact ⟨T', h', cA, X', e', E, ⟨_, A, rfl, by simp [newA, n2, defaultValue]⟩, O, st'⟩
theorem AR.arv (A : AR Z h a k ty vs) (hf : (vs.all fun v => fits ty v) = true) (z : Int32) (hz : ¬ z < 0 ∧ z.toNatClampNeg = vs.length) (d : Value) : Arv Z h a k ty z vs d := by
  obtain ⟨cl, A1, A2, A3⟩ := A
  have hs : cl.slots.size = vs.length := by rw [A3]; simp
  refine ⟨cl, A1, A2, by rw [hs, hz.2], hz.1, fun j hj => ?_, fun j hj => ?_⟩
  · rw [hs] at hj
    rw [A3, List.getElem?_toArray, List.getD_eq_getElem?_getD, List.getElem?_eq_getElem hj]; rfl
  · rw [hs] at hj
    rw [List.getD_eq_getElem?_getD, List.getElem?_eq_getElem hj]
    exact List.all_eq_true.mp hf _ (List.getElem_mem hj)
theorem ar_of_arv {z : Int32} {d : Value} (A : Arv Z h a k ty z vs d) (hz : z.toNatClampNeg = vs.length) : AR Z h a k ty vs := by
  obtain ⟨cl, A1, A2, A3, -, A5, -⟩ := A
  refine ⟨cl, A1, A2, ?_⟩
  have hs : cl.slots.size = vs.length := by rw [A3, hz]
  apply Array.ext
  · rw [hs]; simp
  · intro j h1 h2
    have q := A5 j h1
    rw [Array.getElem?_eq_getElem h1] at q
    have h3 : j < vs.length := by rw [← hs]; exact h1
    rw [List.getD_eq_getElem?_getD, List.getElem?_eq_getElem h3] at q
    simpa using Option.some.inj q
theorem s_acopy (X : Stand p l e R s m args below meth c T locs cells slots) (hx : p.tables.exec = Jvm.exec) (hZ : Z.Warmed39 s.vm) {own : String} {index : Nat} (hown : s.vm.findClass own = some m.cls) (w1 : (Cond.methodLink own index Jvm.Stand.acN).before a0 Z = true) (w2 : (Cond.native Jvm.Stand.acN).before a0 Z = true) (w3 : (Cond.static Jvm.Stand.acN).before a0 Z = true) (w4 : (Cond.initialized "java/lang/System").before a0 Z = true) (eT : T.heap = h)
    (A : AR Z h a k ty vs) (B : AR Z h b k' ty vd) (hk : refKind ty = false) (fa : (vs.all fun v => fits ty v) = true) (fb : (vd.all fun v => fits ty v) = true) (hd : decode c.code pc = .ok (.invokestatic index, 3)) (L : Array Slot) (hml : L.size = c.maxLocals) (st : List Value) {sp dp nn : Int32} (z z' : Int32) (hz : ¬ z < 0 ∧ z.toNatClampNeg = vs.length) (hz' : ¬ z' < 0 ∧ z'.toNatClampNeg = vd.length)
    (hr : (¬ sp < 0 ∧ ¬ dp < 0 ∧ ¬ nn < 0) ∧ sp.toNatClampNeg + nn.toNatClampNeg ≤ vs.length ∧ dp.toNatClampNeg + nn.toNatClampNeg ≤ vd.length) (us vd' : List Value) (hus : us = (List.range nn.toNatClampNeg).map fun i => vs.getD (sp.toNatClampNeg + i) (.int 0)) (hv : vd.take dp.toNatClampNeg ++ us ++ vd.drop (dp.toNatClampNeg + nn.toNatClampNeg) = vd') (hlen : vd'.length = vd.length) {n0 : Nat} (N : Fr n0 locs) (ge : n0 ≤ b)
    (hf : 1 ≤ R.frames) (W : Nat) (hW : 2 * 0 + (st.map fun v => v.category).sum ≤ W) (hlo : W + (nativeFrameWords "java/lang/System" "arraycopy" 5 + 11) ≤ R.locals) (pc' : Nat) (hp : pc + 3 = pc') :
    ∃ T' h' Lc, Stand p l e R s m args below meth c T' Lc cells slots ∧ T'.heap = h' ∧ Fr n0 Lc ∧ Keep h h' [b] ∧ AR Z h' b k' ty vd' ∧ ∀ t, Steps p.tables e below (T'.setTop (mkF m pc' L st)) t → Steps p.tables e below (T.setTop (mkF m pc L (.int nn :: .int dp :: .ref b :: .int sp :: .ref a :: st))) t := by
  subst hp hv
  obtain ⟨⟨r1, r2, r3⟩, r4, r5⟩ := hr
  obtain ⟨T', h', Lc, X', e', N', K, A', st'⟩ := cpA X hx hZ hown w1 w2 w3 w4 eT (A.arv fa z hz (.int 0)) (B.arv fb z' hz' (.int 0)) (Or.inl ⟨rfl, hk⟩) r1 r2 r3 (by rw [hz.2]; exact r4) (by rw [hz'.2]; exact r5) hus r5 N ge (g := mkF m pc L (.int nn :: .int dp :: .ref b :: .int sp :: .ref a :: st)) rfl hml rfl hd hf (W := W) hW hlo
  exact ⟨T', h', Lc, X', e', N', K, ar_of_arv A' (by rw [hz'.2, hlen]), st'⟩
end Bag
end Jvm.OwnGo
namespace Jvm.OwnFP
open Jvm.FP Jvm.FP.Core Jvm.Free.Fl
/-- a * 2^x = b -/
def PE (a b : Nat) (x : Int) : Prop := a * 2 ^ x.toNat = b * 2 ^ (-x).toNat
theorem pe_iff {a b : Nat} {x : Int} (y z : Nat) (h : x = (y : Int) - z) : PE a b x ↔ a * 2 ^ y = b * 2 ^ z := by
  unfold PE
  obtain ⟨d, rfl, rfl⟩ : ∃ d, y = x.toNat + d ∧ z = (-x).toNat + d := ⟨min y z, by omega, by omega⟩
  have p1 : 0 < 2 ^ d := Nat.two_pow_pos _
  rw [Nat.pow_add, Nat.pow_add, ← Nat.mul_assoc, ← Nat.mul_assoc]
  exact ⟨fun q => by rw [q], fun q => Nat.eq_of_mul_eq_mul_right p1 q⟩
theorem PE.symm {a b : Nat} {x : Int} (h : PE a b x) : PE b a (-x) := by
  unfold PE at h ⊢; rw [Int.neg_neg]; exact h.symm
theorem PE.trans {a b c : Nat} {x y : Int} (h : PE a b x) (g : PE b c y) : PE a c (x + y) := by
  rw [pe_iff (x.toNat + y.toNat) ((-x).toNat + (-y).toNat) (by omega)]
  unfold PE at h g
  rw [Nat.pow_add, Nat.pow_add, ← Nat.mul_assoc, h, Nat.mul_right_comm, g, Nat.mul_assoc, Nat.mul_comm (2 ^ (-y).toNat)]
theorem PE.mul {a b : Nat} {x : Int} (h : PE a b x) (c : Nat) : PE (c * a) (c * b) x := by
  unfold PE at h ⊢; rw [Nat.mul_assoc, Nat.mul_assoc, h]
theorem PE.of {a b : Nat} {y z : Nat} (h : a * 2 ^ y = b * 2 ^ z) : PE a b ((y : Int) - z) := (pe_iff y z rfl).mpr h
theorem PE.cast {a b : Nat} {x y : Int} (h : PE a b x) (e : x = y) : PE a b y := e ▸ h
/-- the datum times 2^k -/
def sh (k : Int) : Datum → Datum
  | .fin s c q => .fin s c (q + k)
  | d => d
/-- the double a is i / 2^k, just so -/
def Dy (i : Int) (k : Nat) (a : UInt64) : Prop := Whole i (sh k (val64 a))
theorem Dy.fin {i : Int} {k : Nat} {a : UInt64} (h : Dy i k a) : ∃ s c q, val64 a = .fin s c q := by
  unfold Dy at h
  cases hv : val64 a with
  | nan => rw [hv] at h; exact h.elim
  | inf s => rw [hv] at h; exact h.elim
  | fin s c q => exact ⟨s, c, q, rfl⟩
theorem Dy.dfin {i : Int} {k : Nat} {a : UInt64} (h : Dy i k a) : DFin a := h.fin
theorem Dy.fin64 {i : Int} {k : Nat} {a : UInt64} (h : Dy i k a) : Fin64 a := fin64_core.mpr h.fin
theorem Dy.nn {i : Int} {k : Nat} {a : UInt64} (h : Dy i k a) : NoNaN64 a := h.fin64.noNaN
theorem Dy.ne {i : Int} {k : Nat} {a : UInt64} (h : Dy i k a) : val64 a ≠ .nan := h.dfin.ne_nan
theorem dy_int {i : Int} {a : UInt64} (h : DInt i a) : Dy i 0 a := by
  unfold DInt at h; unfold Dy
  cases hv : val64 a with
  | nan => rw [hv] at h; exact h.elim
  | inf s => rw [hv] at h; exact h.elim
  | fin s c q => rw [hv] at h; show Whole i (.fin s c (q + 0)); rw [Int.add_zero]; exact h
theorem Dy.int {i : Int} {a : UInt64} (h : Dy i 0 a) : DInt i a := by
  obtain ⟨s, c, q, hv⟩ := h.fin
  unfold Dy at h; unfold DInt
  rw [hv] at h ⊢
  have h : Whole i (.fin s c (q + 0)) := h
  rw [Int.add_zero] at h; exact h
theorem dy_i2d (x : Int32) : Dy x.toInt 0 (FP.i2d x) := dy_int (i2d_int x)
theorem dy_l2d {x : Int64} (h : x.toInt.natAbs ≤ 2 ^ 53) : Dy x.toInt 0 (FP.l2d x) := dy_int (l2d_int h)
theorem whole_pe {i : Int} {s : Bool} {c : Nat} {q : Int} (h : Whole i (.fin s c q)) : PE c i.natAbs q := whole_natAbs h
/-- what is so small a multiple of a power of two is a double -/
theorem dy_rnd {i : Int} {k : Nat} {s : Bool} {n : Nat} (hn : i.natAbs = n) (hs : i ≠ 0 → s = decide (i < 0)) (hi : n ≤ 2 ^ 53) (hk : k ≤ 1000) : Whole i (sh k (roundRatio b64 s n 1 (-(k : Int)))) := by
  by_cases h0 : n = 0
  · have : i = 0 := by omega
    subst this
    unfold roundRatio
    rw [if_pos h0]
    show signed s (0 * _) = 0 * _
    rw [Nat.zero_mul, Int.zero_mul]; exact signed_zero s
  · obtain ⟨c, q, hfit, hv⟩ := natFit good_b64 wide_b64 s (n := n) hi
    have hq : q = -1074 ∨ b64.tails ≤ c := by have := hfit.2.2.2; rw [qmin_b64] at this; exact this
    have hv' : n * 2 ^ (-q).toNat = c * 2 ^ q.toNat := by
      rw [show (0 - q).toNat = (-q).toNat by omega, show (q - 0).toNat = q.toNat by omega, Nat.mul_one] at hv; exact hv
    have hc : c < 2 ^ 53 := hfit.1
    have hq2 : q ≤ b64.qmax := hfit.2.2.1
    have hq1 : -53 ≤ q := by
      refine Int.le_of_not_gt fun hlt => ?_
      have e1 : q.toNat = 0 := by omega
      rw [e1, Nat.pow_zero, Nat.mul_one] at hv'
      have : 2 ^ 53 ≤ 2 ^ (-q).toNat := Nat.pow_le_pow_right (by decide) (by omega)
      have h2 : 1 * 2 ^ 53 ≤ n * 2 ^ (-q).toNat := Nat.mul_le_mul (by omega) this
      omega
    have hfit2 : Core.fits b64 (.fin s c (q - k)) := by
      refine ⟨hfit.1, ?_, by omega, Or.inr ?_⟩
      · rw [qmin_b64]; omega
      · rcases hq with hq | hq
        · omega
        · exact hq
    rw [roundRatio_exact good_b64 (by decide) hfit2 (by
      rw [show (-(k : Int) - (q - k)).toNat = (-q).toNat by omega, show (q - (k : Int) - -(k : Int)).toNat = q.toNat by omega, Nat.mul_one]; exact hv')]
    show Whole i (.fin s c (q - k + k))
    rw [show q - (k : Int) + k = q by omega]
    show signed s (c * 2 ^ q.toNat) = i * _
    rw [← hv', signed_mul, hs (by omega)]
    congr 1
    unfold signed
    by_cases h : i < 0 <;> simp [h] <;> omega
theorem dy_round {i : Int} {k : Nat} {s : Bool} {c : Nat} {q : Int} (h : Whole i (.fin s c (q + k))) (hi : i.natAbs ≤ 2 ^ 53) (hk : k ≤ 1000) : Whole i (sh k (round b64 (.fin s c q))) := by
  have e : round b64 (.fin s c q) = roundRatio b64 s i.natAbs 1 (-(k : Int)) := by
    refine roundRatio_congr (by decide) (by decide) ?_
    have := whole_natAbs h
    rw [show (q - -(k : Int)).toNat = (q + k).toNat by omega, show (-(k : Int) - q).toNat = (-(q + k)).toNat by omega]
    simpa using this
  rw [e]
  exact dy_rnd rfl (fun hz => whole_sign h hz) hi hk
theorem sh_sum (k : Int) (s : Bool) (c : Nat) (q : Int) (t : Bool) (d : Nat) (r : Int) : sh k (exactSum (.fin s c q) (.fin t d r)) = exactSum (.fin s c (q + k)) (.fin t d (r + k)) := by
  have e : min (q + k) (r + k) = min q r + k := by omega
  simp only [exactSum, sh, e, sumUnits, inUnits]
  rw [show q + k - (min q r + k) = q - min q r by omega, show r + k - (min q r + k) = r - min q r by omega]
theorem dy_add {i j : Int} {k : Nat} {a b : UInt64} (ha : Dy i k a) (hb : Dy j k b) (h : (i + j).natAbs ≤ 2 ^ 53) (hk : k ≤ 1000) : Dy (i + j) k (FP.dadd a b) := by
  obtain ⟨s, c, q, ea⟩ := ha.fin
  obtain ⟨t, d, r, eb⟩ := hb.fin
  unfold Dy at ha hb ⊢
  rw [ea] at ha; rw [eb] at hb
  have w : Whole (i + j) (sh k (exactSum (.fin s c q) (.fin t d r))) := by rw [sh_sum]; exact whole_sum ha hb
  rw [show FP.dadd a b = Core.dadd a b from rfl, val64_dadd, ea, eb]
  exact dy_round w h hk
theorem dy_neg {i : Int} {k : Nat} {a : UInt64} (ha : Dy i k a) : Dy (-i) k (FP.dneg a) := by
  obtain ⟨s, c, q, ea⟩ := ha.fin
  unfold Dy at ha ⊢
  rw [ea] at ha
  rw [FP.val64_dneg, ea]
  exact whole_negate ha
theorem dy_sub {i j : Int} {k : Nat} {a b : UInt64} (ha : Dy i k a) (hb : Dy j k b) (h : (i - j).natAbs ≤ 2 ^ 53) (hk : k ≤ 1000) : Dy (i - j) k (FP.dsub a b) := by
  obtain ⟨s, c, q, ea⟩ := ha.fin
  obtain ⟨t, d, r, eb⟩ := hb.fin
  unfold Dy at ha hb ⊢
  rw [ea] at ha; rw [eb] at hb
  have hb' : Whole (-j) (.fin (!t) d (r + k)) := whole_negate hb
  have w : Whole (i - j) (sh k (exactSum (.fin s c q) (.fin (!t) d r))) := by rw [sh_sum]; exact whole_sum ha hb'
  rw [show FP.dsub a b = Core.dsub a b from rfl, val64_dsub, ea, eb]
  exact dy_round w h hk
theorem dy_mul {i j : Int} {k n : Nat} {a b : UInt64} (ha : Dy i k a) (hb : Dy j n b) (h : (i * j).natAbs ≤ 2 ^ 53) (hk : k + n ≤ 1000) : Dy (i * j) (k + n) (FP.dmul a b) := by
  obtain ⟨s, c, q, ea⟩ := ha.fin
  obtain ⟨t, d, r, eb⟩ := hb.fin
  unfold Dy at ha hb ⊢
  rw [ea] at ha; rw [eb] at hb
  have w : Whole (i * j) (.fin (s != t) (c * d) (q + r + (k + n : Nat))) := by
    have := whole_product ha hb
    rw [show q + r + ((k + n : Nat) : Int) = q + k + (r + n) by omega]; exact this
  rw [show FP.dmul a b = Core.dmul a b from rfl, val64_dmul, ea, eb]
  exact dy_round w h hk
theorem dy_up {i : Int} {k : Nat} {a : UInt64} (n : Nat) (ha : Dy i k a) : Dy (i * (2 ^ n : Nat)) (k + n) a := by
  obtain ⟨s, c, q, ea⟩ := ha.fin
  unfold Dy at ha ⊢
  rw [ea] at ha ⊢
  have ha : signed s (c * 2 ^ (q + k).toNat) = i * ((2 ^ (-(q + k)).toNat : Nat) : Int) := ha
  show signed s (c * 2 ^ (q + (k + n : Nat)).toNat) = i * (2 ^ n : Nat) * ((2 ^ (-(q + (k + n : Nat))).toNat : Nat) : Int)
  have p2 : ((2 ^ (-(q + (k : Int))).toNat : Nat) : Int) ≠ 0 := by have := Nat.two_pow_pos (-(q + (k : Int))).toNat; omega
  have e1 : (q + ((k + n : Nat) : Int)).toNat + (-(q + (k : Int))).toNat = (q + (k : Int)).toNat + (n + (-(q + ((k + n : Nat) : Int))).toNat) := by omega
  rw [signed_mul] at ha ⊢
  refine Int.eq_of_mul_eq_mul_right p2 ?_
  rw [Int.mul_assoc, ← Int.natCast_mul, ← Nat.pow_add, e1, Nat.pow_add, Int.natCast_mul, ← Int.mul_assoc, ha, Nat.pow_add, Int.natCast_mul]
  ac_rfl
theorem dy_cmp {i j : Int} {k : Nat} {a b : UInt64} (ha : Dy i k a) (hb : Dy j k b) : FP.dcmp a b = some (compare i j) := by
  obtain ⟨s, c, q, ea⟩ := ha.fin
  obtain ⟨t, d, r, eb⟩ := hb.fin
  unfold Dy at ha hb
  rw [ea] at ha; rw [eb] at hb
  have w := order_whole ha hb
  show order (val64 a) (val64 b) = _
  rw [ea, eb, ← w]
  have e : min (q + k) (r + k) = min q r + k := by omega
  simp only [order, sh, e, inUnits]
  rw [show q + k - (min q r + k) = q - min q r by omega, show r + k - (min q r + k) = r - min q r by omega]
theorem dy_div {i j t : Int} {k n r : Nat} {a b : UInt64} (ha : Dy i k a) (hb : Dy j n b) (hj : j ≠ 0) (h : i * (2 ^ (n + r) : Nat) = t * j * (2 ^ k : Nat)) (ht : t.natAbs ≤ 2 ^ 53) (hr : r ≤ 1000) : Dy t r (FP.ddiv a b) := by
  obtain ⟨s, c, q, ea⟩ := ha.fin
  obtain ⟨u, d, z, eb⟩ := hb.fin
  unfold Dy at ha hb ⊢
  rw [ea] at ha; rw [eb] at hb
  have ha : Whole i (.fin s c (q + k)) := ha
  have hb : Whole j (.fin u d (z + n)) := hb
  have hd : d ≠ 0 := fun e => hj ((whole_zero hb).mp e)
  rw [show FP.ddiv a b = Core.ddiv a b from rfl, val64_ddiv, ea, eb]
  show Whole t (sh r (if d = 0 then _ else roundRatio b64 (s != u) c d (q - z)))
  rw [if_neg hd]
  have pn : (0 : Int) < ((2 ^ (n + r) : Nat) : Int) := by have := Nat.two_pow_pos (n + r); omega
  have pk : (0 : Int) < ((2 ^ k : Nat) : Int) := by have := Nat.two_pow_pos k; omega
  have hn : i.natAbs * 2 ^ (n + r) = t.natAbs * j.natAbs * 2 ^ k := by
    have := congrArg Int.natAbs h
    rw [Int.natAbs_mul, Int.natAbs_mul, Int.natAbs_mul, Int.natAbs_natCast, Int.natAbs_natCast] at this
    exact this
  have e : roundRatio b64 (s != u) c d (q - z) = roundRatio b64 (s != u) t.natAbs 1 (-(r : Int)) := by
    refine roundRatio_congr (by omega) (by decide) ?_
    have g := ((whole_pe ha).trans (PE.of hn)).trans ((whole_pe hb).symm.mul t.natAbs)
    have g' : PE c (t.natAbs * d) (q - z + r) := g.cast (by omega)
    unfold PE at g'
    rw [show (q - z - -(r : Int)).toNat = (q - z + r).toNat by omega, show (-(r : Int) - (q - z)).toNat = (-(q - z + r)).toNat by omega, Nat.mul_one]
    exact g'
  rw [e]
  refine dy_rnd rfl (fun hz => ?_) ht hr
  have hi : i ≠ 0 := by
    rintro rfl
    rw [Int.zero_mul] at h
    rcases Int.mul_eq_zero.mp h.symm with q | q
    · rcases Int.mul_eq_zero.mp q with q | q
      · exact hz q
      · exact hj q
    · omega
  rw [whole_sign ha hi, whole_sign hb hj]
  have g1 : i < 0 ↔ t * j < 0 := by
    constructor
    · intro q
      have : t * j * ((2 ^ k : Nat) : Int) < 0 := by rw [← h]; exact Int.mul_neg_of_neg_of_pos q pn
      exact Int.lt_of_not_ge fun q' => by have := Int.mul_nonneg q' (Int.le_of_lt pk); omega
    · intro q
      have : i * ((2 ^ (n + r) : Nat) : Int) < 0 := by rw [h]; exact Int.mul_neg_of_neg_of_pos q pk
      exact Int.lt_of_not_ge fun q' => by have := Int.mul_nonneg q' (Int.le_of_lt pn); omega
  rcases Int.lt_or_lt_of_ne hz with ht0 | ht0 <;> rcases Int.lt_or_lt_of_ne hj with hj0 | hj0
  · have q1 := Int.mul_pos_of_neg_of_neg ht0 hj0
    have q2 : ¬ i < 0 := by rw [g1]; omega
    simp [ht0, hj0, q2]
  · have q1 := Int.mul_neg_of_neg_of_pos ht0 hj0
    have q2 : i < 0 := by rw [g1]; exact q1
    have q3 : ¬ j < 0 := by omega
    simp [ht0, q2, q3]
  · have q1 := Int.mul_neg_of_pos_of_neg ht0 hj0
    have q2 : i < 0 := by rw [g1]; exact q1
    have q3 : ¬ t < 0 := by omega
    simp [hj0, q2, q3]
  · have q1 := Int.mul_pos ht0 hj0
    have q2 : ¬ i < 0 := by rw [g1]; omega
    have q3 : ¬ t < 0 := by omega
    have q4 : ¬ j < 0 := by omega
    simp [q2, q3, q4]
theorem dy_eq {i j : Int} {k : Nat} {a b : UInt64} (ha : Dy i k a) (hb : Dy j k b) (h : i = j) : FP.dcmp a b = some .eq := by
  rw [dy_cmp ha hb, h, compare_self_int]
theorem dy_lt {i j : Int} {k : Nat} {a b : UInt64} (ha : Dy i k a) (hb : Dy j k b) (h : i < j) : FP.dcmp a b = some .lt := by
  rw [dy_cmp ha hb, (compare_lt_iff i j).mpr h]
theorem dy_gt {i j : Int} {k : Nat} {a b : UInt64} (ha : Dy i k a) (hb : Dy j k b) (h : j < i) : FP.dcmp a b = some .gt := by
  rw [dy_cmp ha hb, (compare_gt_iff i j).mpr h]
theorem dy_cast {i j : Int} {k n : Nat} {a : UInt64} (h : Dy i k a) (e : i = j) (e' : k = n) : Dy j n a := by subst e e'; exact h
theorem dy_zero : Dy 0 0 (0 : UInt64) := by
  show Whole 0 (sh 0 (val64 0)); rw [val64_zero]
  show signed false (0 * _) = 0 * _
  rw [Nat.zero_mul, Int.zero_mul]; rfl
end Jvm.OwnFP
namespace Jvm.OwnFP
open Jvm.FP Jvm.FP.Core Jvm.Free.Fl
/-! ## numbers with a bound: an int, a long, a double that is i (over 2^k), i at most N -/
def Ib (N : Nat) (i : Int) (x : Int32) : Prop := x.toInt = i ∧ i.natAbs ≤ N
def Lb (N : Nat) (i : Int) (x : Int64) : Prop := x.toInt = i ∧ i.natAbs ≤ N
def Db (N : Nat) (i : Int) (k : Nat) (a : UInt64) : Prop := Dy i k a ∧ i.natAbs ≤ N
theorem Ib.lit (N : Nat) (i : Int) (x : Int32) (h : x.toInt = i ∧ i.natAbs ≤ N := by decide) : Ib N i x := h
theorem Lb.lit (N : Nat) (i : Int) (x : Int64) (h : x.toInt = i ∧ i.natAbs ≤ N := by decide) : Lb N i x := h
theorem Ib.any (x : Int32) : Ib (2 ^ 31) x.toInt x := ⟨rfl, by have := x.toInt_lt; have := x.le_toInt; omega⟩
theorem Ib.cast {N M : Nat} {i j : Int} {x : Int32} (h : Ib N i x) (e : i = j) (g : j.natAbs ≤ M) : Ib M j x := ⟨h.1.trans e, g⟩
theorem Lb.cast {N M : Nat} {i j : Int} {x : Int64} (h : Lb N i x) (e : i = j) (g : j.natAbs ≤ M) : Lb M j x := ⟨h.1.trans e, g⟩
theorem Db.cast {N M : Nat} {i j : Int} {k : Nat} {a : UInt64} (h : Db N i k a) (e : i = j) (g : j.natAbs ≤ M) : Db M j k a := by subst e; exact ⟨h.1, g⟩
theorem bn_add {a b : Int} {N M : Nat} (h1 : a.natAbs ≤ N) (h2 : b.natAbs ≤ M) : (a + b).natAbs ≤ N + M := by omega
theorem bn_sub {a b : Int} {N M : Nat} (h1 : a.natAbs ≤ N) (h2 : b.natAbs ≤ M) : (a - b).natAbs ≤ N + M := by omega
theorem bn_mul {a b : Int} {N M : Nat} (h1 : a.natAbs ≤ N) (h2 : b.natAbs ≤ M) : (a * b).natAbs ≤ N * M := by rw [Int.natAbs_mul]; exact Nat.mul_le_mul h1 h2
section
variable {N M : Nat} {i j : Int} {k n : Nat}
theorem Ib.add {x y : Int32} (h1 : Ib N i x) (h2 : Ib M j y) (h : N + M < 2147483648) : Ib (N + M) (i + j) (x + y) := by
  obtain ⟨rfl, b1⟩ := h1
  obtain ⟨rfl, b2⟩ := h2
  have b := bn_add b1 b2
  exact ⟨Jvm.Free.XT.add32 ⟨by omega, by omega⟩, b⟩
theorem Ib.sub {x y : Int32} (h1 : Ib N i x) (h2 : Ib M j y) (h : N + M < 2147483648) : Ib (N + M) (i - j) (x - y) := by
  obtain ⟨rfl, b1⟩ := h1
  obtain ⟨rfl, b2⟩ := h2
  have b := bn_sub b1 b2
  exact ⟨Jvm.Free.XT.sub32 ⟨by omega, by omega⟩, b⟩
theorem Ib.mul {x y : Int32} (h1 : Ib N i x) (h2 : Ib M j y) (h : N * M < 2147483648) : Ib (N * M) (i * j) (x * y) := by
  obtain ⟨rfl, b1⟩ := h1
  obtain ⟨rfl, b2⟩ := h2
  have b := bn_mul b1 b2
  exact ⟨Jvm.Free.XT.mul32 ⟨by omega, by omega⟩, b⟩
theorem Lb.add {x y : Int64} (h1 : Lb N i x) (h2 : Lb M j y) (h : N + M < 9223372036854775808) : Lb (N + M) (i + j) (x + y) := by
  obtain ⟨rfl, b1⟩ := h1
  obtain ⟨rfl, b2⟩ := h2
  have b := bn_add b1 b2
  exact ⟨Jvm.Free.XT.add64 ⟨by omega, by omega⟩, b⟩
theorem Lb.sub {x y : Int64} (h1 : Lb N i x) (h2 : Lb M j y) (h : N + M < 9223372036854775808) : Lb (N + M) (i - j) (x - y) := by
  obtain ⟨rfl, b1⟩ := h1
  obtain ⟨rfl, b2⟩ := h2
  have b := bn_sub b1 b2
  exact ⟨Jvm.Free.XT.sub64 ⟨by omega, by omega⟩, b⟩
theorem Lb.mul {x y : Int64} (h1 : Lb N i x) (h2 : Lb M j y) (h : N * M < 9223372036854775808) : Lb (N * M) (i * j) (x * y) := by
  obtain ⟨rfl, b1⟩ := h1
  obtain ⟨rfl, b2⟩ := h2
  have b := bn_mul b1 b2
  exact ⟨Jvm.Free.XT.mul64 ⟨by omega, by omega⟩, b⟩
theorem Lb.neg {x : Int64} (h1 : Lb N i x) (h : N < 9223372036854775808) : Lb N (-i) (-x) := by
  obtain ⟨rfl, h2⟩ := h1
  exact ⟨int64_neg (by omega), by omega⟩
theorem Ib.i2l {x : Int32} (h : Ib N i x) : Lb N i x.toInt64 := ⟨(Int32.toInt_toInt64 x).trans h.1, h.2⟩
theorem Lb.l2i {x : Int64} (h : Lb N i x) (hN : N < 2147483648) : Ib N i x.toInt32 := by
  obtain ⟨rfl, h2⟩ := h
  exact ⟨int64_toInt32 (by omega) (by omega), h2⟩
theorem Ib.i2d {x : Int32} (h : Ib N i x) : Db N i 0 (FP.i2d x) := by obtain ⟨rfl, h2⟩ := h; exact ⟨dy_i2d x, h2⟩
theorem Lb.l2d {x : Int64} (h : Lb N i x) (hN : N ≤ 9007199254740992) : Db N i 0 (FP.l2d x) := by obtain ⟨rfl, h2⟩ := h; exact ⟨dy_l2d (Nat.le_trans h2 hN), h2⟩
theorem Db.nn {a : UInt64} (h : Db N i k a) : NoNaN64 a := h.1.nn
theorem Db.add {a b : UInt64} (h1 : Db N i k a) (h2 : Db M j k b) (h : N + M ≤ 9007199254740992 ∧ k ≤ 1000) : Db (N + M) (i + j) k (FP.dadd a b) :=
  ⟨dy_add h1.1 h2.1 (Nat.le_trans (bn_add h1.2 h2.2) h.1) h.2, bn_add h1.2 h2.2⟩
theorem Db.sub {a b : UInt64} (h1 : Db N i k a) (h2 : Db M j k b) (h : N + M ≤ 9007199254740992 ∧ k ≤ 1000) : Db (N + M) (i - j) k (FP.dsub a b) :=
  ⟨dy_sub h1.1 h2.1 (Nat.le_trans (bn_sub h1.2 h2.2) h.1) h.2, bn_sub h1.2 h2.2⟩
theorem Db.mul {a b : UInt64} (h1 : Db N i k a) (h2 : Db M j n b) (h : N * M ≤ 9007199254740992 ∧ k + n ≤ 1000) : Db (N * M) (i * j) (k + n) (FP.dmul a b) :=
  ⟨dy_mul h1.1 h2.1 (Nat.le_trans (bn_mul h1.2 h2.2) h.1) h.2, bn_mul h1.2 h2.2⟩
theorem Db.neg {a : UInt64} (h1 : Db N i k a) : Db N (-i) k (FP.dneg a) := ⟨dy_neg h1.1, by have := h1.2; omega⟩
theorem Db.eq {a b : UInt64} (h1 : Db N i k a) (h2 : Db M j k b) (e : i = j) : FP.dcmp a b = some .eq := dy_eq h1.1 h2.1 e
theorem Db.up {a : UInt64} (h : Db N i k a) (n : Nat) : Db (N * 2 ^ n) (i * (2 ^ n : Nat)) (k + n) a := ⟨dy_up n h.1, by rw [Int.natAbs_mul, Int.natAbs_natCast]; exact Nat.mul_le_mul_right _ h.2⟩
theorem Db.zero : Db 0 0 0 (0 : UInt64) := ⟨dy_zero, Nat.le_refl _⟩
theorem Db.div2 {a b : UInt64} (e : Nat) (h1 : Db N i k a) (h2 : Db M ((2 ^ e : Nat) : Int) 0 b) (h : N ≤ 9007199254740992 ∧ k + e ≤ 1000) : Db N i (k + e) (FP.ddiv a b) := by
  refine ⟨dy_div h1.1 h2.1 (by have := Nat.two_pow_pos e; omega) ?_ (Nat.le_trans h1.2 h.1) h.2, h1.2⟩
  rw [Nat.zero_add, Nat.pow_add, Int.natCast_mul, Int.mul_assoc, Int.mul_comm ((2 ^ k : Nat) : Int)]
theorem Db.lit {a : UInt64} (s : Bool) (c : Nat) (q : Int) (N : Nat) (i : Int) (k : Nat) (e : val64 a = .fin s c q) (w : signed s (c * 2 ^ (q + k).toNat) = i * ((2 ^ (-(q + (k : Int))).toNat : Nat) : Int) ∧ i.natAbs ≤ N) : Db N i k a := by
  refine ⟨?_, w.2⟩
  unfold Dy; rw [e]; exact w.1
theorem Ib.re {x : Int32} (h : Ib N i x) : Ib N x.toInt x := ⟨rfl, by rw [h.1]; exact h.2⟩
theorem Lb.re {x : Int64} (h : Lb N i x) : Lb N x.toInt x := ⟨rfl, by rw [h.1]; exact h.2⟩
theorem Db.weak {M : Nat} {a : UInt64} (h : Db N i k a) (q : N ≤ M) : Db M i k a := ⟨h.1, Nat.le_trans h.2 q⟩
theorem Lb.weak {M : Nat} {a : Int64} (h : Lb N i a) (q : N ≤ M) : Lb M i a := ⟨h.1, Nat.le_trans h.2 q⟩
theorem Ib.weak {M : Nat} {a : Int32} (h : Ib N i a) (q : N ≤ M) : Ib M i a := ⟨h.1, Nat.le_trans h.2 q⟩
end
end Jvm.OwnFP
namespace Jvm.OwnGo
open Sem ClassFile Op Lib Jvm.Stand Jvm.Free Jvm.LawKit Jvm.RoadKit
section Mir
variable {p : Program} {l : Launch} {e : Env} {R : Room} {s : State} {m : MethodId} {args : Array Value} {below : List Frame} {meth : Method} {c : Code} {T : State} {locs : List Loc} {cells slots : Nat} {pc : Nat} {Z : State} {h h' : Heap} {a b y : Addr} {a0 : Array Value} {k k' : ClassId} {ty : FieldType} {vs vd : List Value} {C : String}
/-- the Class object of the class called C has been made: it is mr -/
def Mi (Z : State) (C : String) (mr : Addr) : Prop := ∃ (cc : ClassId) (kc : Class), Z.vm.findClass C = some cc ∧ Z.vm.classes[cc]? = some kc ∧ kc.mirror = some mr
theorem s_getClass (X : Stand p l e R s m args below meth c T locs cells slots) (hx : p.tables.exec = Jvm.exec) (hZ : Z.Warmed39 s.vm) {own : String} {index : Nat} (hown : s.vm.findClass own = some m.cls) (w1 : (Cond.methodLink own index ⟨"java/lang/Object", "getClass", "()Ljava/lang/Class;"⟩).before a0 Z = true) (w2 : (Cond.declares ⟨"java/lang/Object", "getClass", "()Ljava/lang/Class;"⟩).before a0 Z = true) (w4 : (Cond.selects C ⟨"java/lang/Object", "getClass", "()Ljava/lang/Class;"⟩ ⟨"java/lang/Object", "getClass", "()Ljava/lang/Class;"⟩).before a0 Z = true) (w5 : (Cond.instanceMethod ⟨"java/lang/Object", "getClass", "()Ljava/lang/Class;"⟩).before a0 Z = true) (w6 : (Cond.native ⟨"java/lang/Object", "getClass", "()Ljava/lang/Class;"⟩).before a0 Z = true)
    (eT : T.heap = h) (E : Exa Z h a C) {mr : Addr} (M : Mi Z C mr) (hd : decode c.code pc = .ok (.invokevirtual index, 3)) (L : Array Slot) (hml : L.size = c.maxLocals) (st : List Value) (hf : 1 ≤ R.frames) (W : Nat) (hW : 2 * 0 + (st.map fun v => v.category).sum ≤ W) (hl : W + (nativeFrameWords "java/lang/Object" "getClass" 1 + 11) ≤ R.locals) (pc' : Nat) (hp : pc + 3 = pc') :
    ∃ T', Stand p l e R s m args below meth c T' locs cells slots ∧ T'.heap = h ∧ ∀ t, Steps p.tables e below (T'.setTop (mkF m pc' L (.ref mr :: st))) t → Steps p.tables e below (T.setTop (mkF m pc L (.ref a :: st))) t := by
  subst hp
  obtain ⟨cB, kB, i1, i2, i3⟩ := isOf hZ eT E
  obtain ⟨cc, kc, m1, m2, m3⟩ := M
  rw [hZ.alike.findClass] at i1
  cases i1.symm.trans m1
  obtain ⟨k', q, ek⟩ := hZ.alike.2.2 _ _ m2
  have hnf : NotFace s ⟨"java/lang/Object", "getClass", "()Ljava/lang/Class;"⟩ := fun r0 h0 => by
    obtain ⟨c2, r2, m2, q1, q2, q3, q4, kP, hkP, hkPi⟩ := Cond.selects_spec (mvT (args := args) hZ w4)
    have h1 := findClass_of_methodNamed h0; have h2 := findClass_of_methodNamed q3
    have h3 : m2.cls = r0.cls := Option.some.inj (h2.symm.trans h1)
    exact ⟨kP, by rw [← h3]; exact hkP, hkPi⟩
  obtain ⟨vm', X', st'⟩ := X.getClassOf hx hown (mvT hZ w1) (mvT hZ w2) hnf (mvT hZ w4) (mvT hZ w5) (mvT hZ w6) (by rw [hZ.alike.findClass]; exact m1) i3 q (by rw [ek]; exact m3) (g := mkF m pc L (.ref a :: st)) rfl hml rfl hd hf (Nat.le_trans (Nat.add_le_add_right hW _) hl)
  exact ⟨_, X', eT, st'⟩
theorem s_ldcC (X : Stand p l e R s m args below meth c T locs cells slots) (hx : p.tables.exec = Jvm.exec) (hZ : Z.Warmed39 s.vm) {own : String} {index : Nat} (hown : s.vm.findClass own = some m.cls) (w : (Cond.classLink own index C).before a0 Z = true) {mr : Addr} (M : Mi Z C mr) (eT : T.heap = h) (hd : decode c.code pc = .ok (.ldc index, 2)) (L : Array Slot) (st : List Value) (pc' : Nat) (hp : pc + 2 = pc') :
    ∃ T', Stand p l e R s m args below meth c T' locs cells slots ∧ T'.heap = h ∧ ∀ t, Steps p.tables e below (T'.setTop (mkF m pc' L (.ref mr :: st))) t → Steps p.tables e below (T.setTop (mkF m pc L st)) t := by
  subst hp
  obtain ⟨cc, kc, m1, m2, m3⟩ := M
  obtain ⟨k', q, ek⟩ := hZ.alike.2.2 _ _ m2
  have hev : (Term.mirror C).eval args s none [] s = some (.ref mr) := by
    have h1 : s.vm.findClass C = some cc := by rw [hZ.alike.findClass]; exact m1
    have h3 : k'.mirror = some mr := by rw [ek]; exact m3
    simp [Term.eval, h1, q, h3]
  obtain ⟨vm', X', st'⟩ := X.ldcMirror hx hown (mv hZ w) hev (g := mkF m pc L st) rfl hd
  exact ⟨_, X', eT, st'⟩
theorem s_anewarrayE (X : Stand p l e R s m args below meth c T locs cells slots) (hx : p.tables.exec = Jvm.exec) (hZ : Z.Warmed39 s.vm) {own : String} {index : Nat} (hown : s.vm.findClass own = some m.cls) (w1 : (Cond.classLink own index C).before a0 Z = true) (w2 : (Cond.arrayOver (.object C)).before a0 Z = true) (eT : T.heap = h) (hd : decode c.code pc = .ok (.anewarray index, 3)) (L : Array Slot) (st : List Value) {n : Int32} (cap : Nat) (hn : ¬ n < 0 ∧ n.toNatClampNeg = cap) (vs : List Value) (hvs : List.replicate cap Value.null = vs) (hb : cap * 8 ≤ 536870912) (hc : cells + 1 ≤ R.cells) (hl : slots + cap ≤ R.slots) (pc' : Nat) (hp : pc + 3 = pc') (ad : String) (had : "[" ++ (FieldType.object C).toString = ad) :
    ∃ T' h' cA, Stand p l e R s m args below meth c T' locs (cells + 1) (slots + cap) ∧ T'.heap = h' ∧ Ext h h' ∧ AR Z h' h.size cA (.object C) vs ∧ Exa Z h' h.size ad ∧ ∀ t, Steps p.tables e below (T'.setTop (mkF m pc' L (.ref h.size :: st))) t → Steps p.tables e below (T.setTop (mkF m pc L (.int n :: st))) t := by
  obtain ⟨n1, n2⟩ := hn
  obtain ⟨T', h', cA, X', e', E, A, B, O, st'⟩ := newRE X hx hZ hown w1 w2 eT (g := mkF m pc L (.int n :: st)) rfl hd rfl n1 (cap := cap) (Nat.le_of_eq n2) hb hc hl had
  subst hp hvs
  exact ⟨T', h', cA, X', e', E, ⟨_, A, rfl, by simp [newA, n2, defaultValue]⟩, B, st'⟩
/-- System.arraycopy of no component between arrays of references -/
theorem s_acopyR0 (X : Stand p l e R s m args below meth c T locs cells slots) (hx : p.tables.exec = Jvm.exec) (hZ : Z.Warmed39 s.vm) {own : String} {index : Nat} (hown : s.vm.findClass own = some m.cls) (w1 : (Cond.methodLink own index Jvm.Stand.acN).before a0 Z = true) (w2 : (Cond.native Jvm.Stand.acN).before a0 Z = true) (w3 : (Cond.static Jvm.Stand.acN).before a0 Z = true) (w4 : (Cond.initialized "java/lang/System").before a0 Z = true) (eT : T.heap = h)
    (A : AR Z h a k ty vs) (B : AR Z h b k' ty vd) (hk : refKind ty = true) (fa : (vs.all fun v => fits ty v) = true) (fb : (vd.all fun v => fits ty v) = true) (hd : decode c.code pc = .ok (.invokestatic index, 3)) (L : Array Slot) (hml : L.size = c.maxLocals) (st : List Value) (z z' : Int32) (hz : ¬ z < 0 ∧ z.toNatClampNeg = vs.length) (hz' : ¬ z' < 0 ∧ z'.toNatClampNeg = vd.length) {n0 : Nat} (N : Fr n0 locs) (ge : n0 ≤ b)
    (hf : 1 ≤ R.frames) (W : Nat) (hW : 2 * 0 + (st.map fun v => v.category).sum ≤ W) (hlo : W + (nativeFrameWords "java/lang/System" "arraycopy" 5 + 11) ≤ R.locals) (pc' : Nat) (hp : pc + 3 = pc') :
    ∃ T' h' Lc, Stand p l e R s m args below meth c T' Lc cells slots ∧ T'.heap = h' ∧ Fr n0 Lc ∧ Keep h h' [b] ∧ AR Z h' b k' ty vd ∧ ∀ t, Steps p.tables e below (T'.setTop (mkF m pc' L st)) t → Steps p.tables e below (T.setTop (mkF m pc L (.int 0 :: .int 0 :: .ref b :: .int 0 :: .ref a :: st))) t := by
  subst hp
  obtain ⟨T', h', Lc, X', e', N', K, A', st'⟩ := cpA X hx hZ hown w1 w2 w3 w4 eT (A.arv fa z hz (.int 0)) (B.arv fb z' hz' (.int 0)) (us := []) (Or.inr ⟨hk, hk, trivial⟩) (sp := 0) (dp := 0) (nn := 0) (by decide) (by decide) (by decide) (Nat.zero_le _) (Nat.zero_le _) rfl (Nat.zero_le _) N ge (g := mkF m pc L (.int 0 :: .int 0 :: .ref b :: .int 0 :: .ref a :: st)) rfl hml rfl hd hf (W := W) hW hlo
  exact ⟨T', h', Lc, X', e', N', K, ar_of_arv (vs := vd) A' hz'.2, st'⟩
theorem s_d2raw (X : Stand p l e R s m args below meth c T locs cells slots) (hx : p.tables.exec = Jvm.exec) (hZ : Z.Warmed39 s.vm) {own : String} {index : Nat} (hown : s.vm.findClass own = some m.cls) (w1 : (Cond.methodLink own index doubleToRawLongBitsName).before a0 Z = true) (w2 : (Cond.native doubleToRawLongBitsName).before a0 Z = true) (w3 : (Cond.static doubleToRawLongBitsName).before a0 Z = true) (w4 : (Cond.initialized "java/lang/Double").before a0 Z = true) (eT : T.heap = h) (hd : decode c.code pc = .ok (.invokestatic index, 3)) (L : Array Slot) (hml : L.size = c.maxLocals) (d : UInt64) (st : List Value) (v : Int64) (hv : d.toInt64 = v)
    (hf : 1 ≤ R.frames) (W : Nat) (hW : 2 * 0 + (st.map fun v => v.category).sum ≤ W) (hlo : W + (nativeFrameWords "java/lang/Double" "doubleToRawLongBits" 2 + 11) ≤ R.locals) (pc' : Nat) (hp : pc + 3 = pc') :
    ∃ T', Stand p l e R s m args below meth c T' locs cells slots ∧ T'.heap = h ∧ ∀ t, Steps p.tables e below (T'.setTop (mkF m pc' L (.long v :: st))) t → Steps p.tables e below (T.setTop (mkF m pc L (.double d :: st))) t := by
  subst hp hv
  obtain ⟨vm', X', st'⟩ := X.doubleToRawLongBits hx hown (mvT hZ w1) (mvT hZ w2) (mvT hZ w3) (mvT hZ w4) (g := mkF m pc L (.double d :: st)) rfl hml rfl hd hf (Nat.le_trans (Nat.add_le_add_right hW _) hlo)
  exact ⟨_, X', eT, st'⟩
theorem s_raw2d (X : Stand p l e R s m args below meth c T locs cells slots) (hx : p.tables.exec = Jvm.exec) (hZ : Z.Warmed39 s.vm) {own : String} {index : Nat} (hown : s.vm.findClass own = some m.cls) (w1 : (Cond.methodLink own index longBitsToDoubleName).before a0 Z = true) (w2 : (Cond.native longBitsToDoubleName).before a0 Z = true) (w3 : (Cond.static longBitsToDoubleName).before a0 Z = true) (w4 : (Cond.initialized "java/lang/Double").before a0 Z = true) (eT : T.heap = h) (hd : decode c.code pc = .ok (.invokestatic index, 3)) (L : Array Slot) (hml : L.size = c.maxLocals) (d : Int64) (hq : (d.toUInt64 &&& 0x7fffffffffffffff > 0x7ff0000000000000 && d.toUInt64 &&& 0x0008000000000000 == 0) = false) (st : List Value) (v : UInt64) (hv : d.toUInt64 = v)
    (hf : 1 ≤ R.frames) (W : Nat) (hW : 2 * 0 + (st.map fun v => v.category).sum ≤ W) (hlo : W + (nativeFrameWords "java/lang/Double" "longBitsToDouble" 2 + 11) ≤ R.locals) (pc' : Nat) (hp : pc + 3 = pc') :
    ∃ T', Stand p l e R s m args below meth c T' locs cells slots ∧ T'.heap = h ∧ ∀ t, Steps p.tables e below (T'.setTop (mkF m pc' L (.double v :: st))) t → Steps p.tables e below (T.setTop (mkF m pc L (.long d :: st))) t := by
  subst hp hv
  obtain ⟨vm', X', st'⟩ := X.longBitsToDouble hx hown (mvT hZ w1) (mvT hZ w2) (mvT hZ w3) (mvT hZ w4) (g := mkF m pc L (.long d :: st)) rfl hml hq rfl hd hf (Nat.le_trans (Nat.add_le_add_right hW _) hlo)
  exact ⟨_, X', eT, st'⟩
end Mir
end Jvm.OwnGo
namespace Jvm.OwnFP
open Jvm.FP Jvm.FP.Core Jvm.Free.Fl
def kOf (d : UInt64) : Int64 := Jvm.Free.XT.ushrL (d.toInt64 &&& (9223372036854775807 : Int64)) (45 : Int32)
def eOf (d : UInt64) : Int64 := kOf d <<< ((45 : Int32) &&& 0x3f).toInt64
def ndOf (d : UInt64) : UInt64 := if d = 0 then 9223372036854775809 else (d.toInt64 + (-1 : Int64)).toUInt64
def okB (v : Int64) : Bool := (v.toUInt64 &&& 0x7fffffffffffffff > 0x7ff0000000000000 && v.toUInt64 &&& 0x0008000000000000 == 0)
/-- the double of an int from 0 to 255 -/
def PD (d : UInt64) : Prop := ∃ n : Fin 256, d = FP.i2d (Int32.ofNat n.val)
theorem all_p : ∀ n : Fin 256, (FP.dcmp (FP.i2d (Int32.ofNat n.val)) 18442240474082181120 = some .gt ∧ Native.java_lang_Math.nans.pick64 false 9218868437227405312 (FP.i2d (Int32.ofNat n.val)) = FP.i2d (Int32.ofNat n.val)) ∧
    ((eOf (FP.i2d (Int32.ofNat n.val))).toUInt64 = FP.i2d (Int32.ofNat n.val) ∧ okB (eOf (FP.i2d (Int32.ofNat n.val))) = false) ∧
    (FP.dcmp (FP.i2d (Int32.ofNat n.val)) (FP.i2d (Int32.ofNat n.val)) = some .eq ∧ ((FP.i2d (Int32.ofNat n.val) = 0 ∧ FP.dcmp (FP.i2d (Int32.ofNat n.val)) 0 = some .eq) ∨ (FP.i2d (Int32.ofNat n.val) ≠ 0 ∧ FP.dcmp (FP.i2d (Int32.ofNat n.val)) 0 = some .gt))) ∧
    (okB ((FP.i2d (Int32.ofNat n.val)).toInt64 + (-1 : Int64)) = false ∨ FP.i2d (Int32.ofNat n.val) = 0) ∧
    (Native.java_lang_Math.nans.pick64 true 18442240474082181120 (ndOf (FP.i2d (Int32.ofNat n.val))) = ndOf (FP.i2d (Int32.ofNat n.val)) ∧ ndOf (FP.i2d (Int32.ofNat n.val)) &&& 0x7fffffffffffffff ≤ 0x7ff0000000000000 ∧ FP.i2d (Int32.ofNat n.val) &&& 0x7fffffffffffffff ≤ 0x7ff0000000000000) := by decide +kernel
section
variable {d : UInt64}
theorem PD.top (h : PD d) : FP.dcmp d 18442240474082181120 = some .gt := by obtain ⟨n, rfl⟩ := h; exact (all_p n).1.1
theorem PD.min (h : PD d) : Native.java_lang_Math.nans.pick64 false 9218868437227405312 d = d := by obtain ⟨n, rfl⟩ := h; exact (all_p n).1.2
theorem PD.edge (h : PD d) : (eOf d).toUInt64 = d := by obtain ⟨n, rfl⟩ := h; exact (all_p n).2.1.1
theorem PD.edgeOk (h : PD d) : okB (eOf d) = false := by obtain ⟨n, rfl⟩ := h; exact (all_p n).2.1.2
theorem PD.self (h : PD d) : FP.dcmp d d = some .eq := by obtain ⟨n, rfl⟩ := h; exact (all_p n).2.2.1.1
theorem PD.zero (h : PD d) : (d = 0 ∧ FP.dcmp d 0 = some .eq) ∨ (d ≠ 0 ∧ FP.dcmp d 0 = some .gt) := by obtain ⟨n, rfl⟩ := h; exact (all_p n).2.2.1.2
theorem PD.downOk (h : PD d) (h0 : d ≠ 0) : okB (d.toInt64 + (-1 : Int64)) = false := by obtain ⟨n, rfl⟩ := h; exact (all_p n).2.2.2.1.resolve_right h0
theorem PD.max (h : PD d) : Native.java_lang_Math.nans.pick64 true 18442240474082181120 (ndOf d) = ndOf d := by obtain ⟨n, rfl⟩ := h; exact (all_p n).2.2.2.2.1
theorem PD.ndn (h : PD d) : NoNaN64 (ndOf d) := by obtain ⟨n, rfl⟩ := h; exact (all_p n).2.2.2.2.2.1
theorem PD.nn (h : PD d) : NoNaN64 d := by obtain ⟨n, rfl⟩ := h; exact (all_p n).2.2.2.2.2.2
theorem nd_zero (h : d = 0) : ndOf d = 9223372036854775809 := if_pos h
theorem nd_pos (h : d ≠ 0) : ndOf d = (d.toInt64 + (-1 : Int64)).toUInt64 := if_neg h
end
/-- n / 64 -/
def q64 (n : Nat) : UInt64 := FP.ddiv (FP.i2d (Int32.ofNat n)) 4634204016564240384
/-- the product that 'refuses' compares with -/
def mm (pn an : Nat) : UInt64 := FP.dmul (ndOf (FP.i2d (Int32.ofNat pn))) (q64 an)
def chk (pn an : Nat) : Bool := match val64 (mm pn an) with
  | .fin false c q => decide (0 ≤ q + 60) && (decide (((pn * an : Nat) : Int) * 2 ^ 54 - 2 ^ 54 < ((c * 2 ^ (q + 60).toNat : Nat) : Int)) && decide (c * 2 ^ (q + 60).toNat ≤ pn * an * 2 ^ 54))
  | _ => false
theorem chk_dy {pn an : Nat} (h : chk pn an = true) : ∃ i : Int, Dy i 60 (mm pn an) ∧ ((pn * an : Nat) : Int) * 2 ^ 54 - 2 ^ 54 < i ∧ i ≤ ((pn * an : Nat) : Int) * 2 ^ 54 := by
  unfold chk at h
  split at h
  · rename_i c q hv
    rw [Bool.and_eq_true, Bool.and_eq_true, decide_eq_true_eq, decide_eq_true_eq, decide_eq_true_eq] at h
    obtain ⟨h1, h2, h3⟩ := h
    refine ⟨((c * 2 ^ (q + 60).toNat : Nat) : Int), ?_, h2, by exact_mod_cast h3⟩
    unfold Dy
    rw [hv]
    show signed false (c * 2 ^ (q + ((60 : Nat) : Int)).toNat) = ((c * 2 ^ (q + 60).toNat : Nat) : Int) * ((2 ^ (-(q + ((60 : Nat) : Int))).toNat : Nat) : Int)
    have e : (-(q + ((60 : Nat) : Int))).toNat = 0 := by omega
    rw [e]; simp [signed]
  · cases h
theorem chk_r0 : (List.range 16).all (fun r => r + 0 == 0 || (List.range 64).all fun a => chk (0 * 16 + r) (a + 1)) = true := by decide +kernel
theorem chk_r1 : (List.range 16).all (fun r => r + 1 == 0 || (List.range 64).all fun a => chk (1 * 16 + r) (a + 1)) = true := by decide +kernel
theorem chk_r2 : (List.range 16).all (fun r => r + 2 == 0 || (List.range 64).all fun a => chk (2 * 16 + r) (a + 1)) = true := by decide +kernel
theorem chk_r3 : (List.range 16).all (fun r => r + 3 == 0 || (List.range 64).all fun a => chk (3 * 16 + r) (a + 1)) = true := by decide +kernel
theorem chk_r4 : (List.range 16).all (fun r => r + 4 == 0 || (List.range 64).all fun a => chk (4 * 16 + r) (a + 1)) = true := by decide +kernel
theorem chk_r5 : (List.range 16).all (fun r => r + 5 == 0 || (List.range 64).all fun a => chk (5 * 16 + r) (a + 1)) = true := by decide +kernel
theorem chk_r6 : (List.range 16).all (fun r => r + 6 == 0 || (List.range 64).all fun a => chk (6 * 16 + r) (a + 1)) = true := by decide +kernel
theorem chk_r7 : (List.range 16).all (fun r => r + 7 == 0 || (List.range 64).all fun a => chk (7 * 16 + r) (a + 1)) = true := by decide +kernel
theorem chk_r8 : (List.range 16).all (fun r => r + 8 == 0 || (List.range 64).all fun a => chk (8 * 16 + r) (a + 1)) = true := by decide +kernel
theorem chk_r9 : (List.range 16).all (fun r => r + 9 == 0 || (List.range 64).all fun a => chk (9 * 16 + r) (a + 1)) = true := by decide +kernel
theorem chk_r10 : (List.range 16).all (fun r => r + 10 == 0 || (List.range 64).all fun a => chk (10 * 16 + r) (a + 1)) = true := by decide +kernel
theorem chk_r11 : (List.range 16).all (fun r => r + 11 == 0 || (List.range 64).all fun a => chk (11 * 16 + r) (a + 1)) = true := by decide +kernel
theorem chk_r12 : (List.range 16).all (fun r => r + 12 == 0 || (List.range 64).all fun a => chk (12 * 16 + r) (a + 1)) = true := by decide +kernel
theorem chk_r13 : (List.range 16).all (fun r => r + 13 == 0 || (List.range 64).all fun a => chk (13 * 16 + r) (a + 1)) = true := by decide +kernel
theorem chk_r14 : (List.range 16).all (fun r => r + 14 == 0 || (List.range 64).all fun a => chk (14 * 16 + r) (a + 1)) = true := by decide +kernel
theorem chk_r15 : (List.range 16).all (fun r => r + 15 == 0 || (List.range 64).all fun a => chk (15 * 16 + r) (a + 1)) = true := by decide +kernel
theorem chk_all (n a : Nat) (h1 : 1 ≤ n) (h2 : n < 256) (h3 : a < 64) : chk n (a + 1) = true := by
  have hr : n % 16 < 16 := Nat.mod_lt _ (by decide)
  have hb : n / 16 = 0 ∨ n / 16 = 1 ∨ n / 16 = 2 ∨ n / 16 = 3 ∨ n / 16 = 4 ∨ n / 16 = 5 ∨ n / 16 = 6 ∨ n / 16 = 7 ∨ n / 16 = 8 ∨ n / 16 = 9 ∨ n / 16 = 10 ∨ n / 16 = 11 ∨ n / 16 = 12 ∨ n / 16 = 13 ∨ n / 16 = 14 ∨ n / 16 = 15 := by omega
  have hn : n = n / 16 * 16 + n % 16 := by omega
  generalize n % 16 = r at hr hn
  have ga : ∀ {f : Nat → Bool} {k : Nat}, (List.range k).all f = true → ∀ x, x < k → f x = true := fun h x hx => List.all_eq_true.mp h x (List.mem_range.mpr hx)
  rcases hb with q | q | q | q | q | q | q | q | q | q | q | q | q | q | q | q
  · rw [q] at hn; have t := ga chk_r0 r hr; rw [Bool.or_eq_true] at t; rcases t with t | t
    · have : r + 0 = 0 := beq_iff_eq.mp t
      omega
    · rw [hn]; exact ga t a h3
  · rw [q] at hn; have t := ga chk_r1 r hr; rw [Bool.or_eq_true] at t; rcases t with t | t
    · have : r + 1 = 0 := beq_iff_eq.mp t
      omega
    · rw [hn]; exact ga t a h3
  · rw [q] at hn; have t := ga chk_r2 r hr; rw [Bool.or_eq_true] at t; rcases t with t | t
    · have : r + 2 = 0 := beq_iff_eq.mp t
      omega
    · rw [hn]; exact ga t a h3
  · rw [q] at hn; have t := ga chk_r3 r hr; rw [Bool.or_eq_true] at t; rcases t with t | t
    · have : r + 3 = 0 := beq_iff_eq.mp t
      omega
    · rw [hn]; exact ga t a h3
  · rw [q] at hn; have t := ga chk_r4 r hr; rw [Bool.or_eq_true] at t; rcases t with t | t
    · have : r + 4 = 0 := beq_iff_eq.mp t
      omega
    · rw [hn]; exact ga t a h3
  · rw [q] at hn; have t := ga chk_r5 r hr; rw [Bool.or_eq_true] at t; rcases t with t | t
    · have : r + 5 = 0 := beq_iff_eq.mp t
      omega
    · rw [hn]; exact ga t a h3
  · rw [q] at hn; have t := ga chk_r6 r hr; rw [Bool.or_eq_true] at t; rcases t with t | t
    · have : r + 6 = 0 := beq_iff_eq.mp t
      omega
    · rw [hn]; exact ga t a h3
  · rw [q] at hn; have t := ga chk_r7 r hr; rw [Bool.or_eq_true] at t; rcases t with t | t
    · have : r + 7 = 0 := beq_iff_eq.mp t
      omega
    · rw [hn]; exact ga t a h3
  · rw [q] at hn; have t := ga chk_r8 r hr; rw [Bool.or_eq_true] at t; rcases t with t | t
    · have : r + 8 = 0 := beq_iff_eq.mp t
      omega
    · rw [hn]; exact ga t a h3
  · rw [q] at hn; have t := ga chk_r9 r hr; rw [Bool.or_eq_true] at t; rcases t with t | t
    · have : r + 9 = 0 := beq_iff_eq.mp t
      omega
    · rw [hn]; exact ga t a h3
  · rw [q] at hn; have t := ga chk_r10 r hr; rw [Bool.or_eq_true] at t; rcases t with t | t
    · have : r + 10 = 0 := beq_iff_eq.mp t
      omega
    · rw [hn]; exact ga t a h3
  · rw [q] at hn; have t := ga chk_r11 r hr; rw [Bool.or_eq_true] at t; rcases t with t | t
    · have : r + 11 = 0 := beq_iff_eq.mp t
      omega
    · rw [hn]; exact ga t a h3
  · rw [q] at hn; have t := ga chk_r12 r hr; rw [Bool.or_eq_true] at t; rcases t with t | t
    · have : r + 12 = 0 := beq_iff_eq.mp t
      omega
    · rw [hn]; exact ga t a h3
  · rw [q] at hn; have t := ga chk_r13 r hr; rw [Bool.or_eq_true] at t; rcases t with t | t
    · have : r + 13 = 0 := beq_iff_eq.mp t
      omega
    · rw [hn]; exact ga t a h3
  · rw [q] at hn; have t := ga chk_r14 r hr; rw [Bool.or_eq_true] at t; rcases t with t | t
    · have : r + 14 = 0 := beq_iff_eq.mp t
      omega
    · rw [hn]; exact ga t a h3
  · rw [q] at hn; have t := ga chk_r15 r hr; rw [Bool.or_eq_true] at t; rcases t with t | t
    · have : r + 15 = 0 := beq_iff_eq.mp t
      omega
    · rw [hn]; exact ga t a h3
theorem down0 : ∀ a : Fin 64, (val64 (mm 0 (a.val + 1)) = .fin true 1 (-1074) ∨ val64 (mm 0 (a.val + 1)) = .fin true 0 (-1074)) := by decide +kernel
theorem ninf_mul : ∀ a : Fin 64, FP.dmul 18442240474082181120 (q64 (a.val + 1)) = 18442240474082181120 := by decide +kernel
theorem above_ninf {i : Int} {k : Nat} {w : UInt64} (h : Dy i k w) : FP.dcmp w 18442240474082181120 ≠ some .lt := by
  obtain ⟨s, c, q, hv⟩ := h.fin
  have hi : val64 18442240474082181120 = .inf true := by decide +kernel
  have e : FP.dcmp w 18442240474082181120 = order (val64 w) (val64 18442240474082181120) := rfl
  rw [e, hv, hi]
  exact (by decide : (some (compare (0 : Int) (signed true 1)) : Option Ordering) ≠ some .lt)
/-- the law's plain part -/
theorem down_dy {an : Nat} (h : an < 64) : ∃ i : Int, Dy i 1074 (mm 0 (an + 1)) ∧ i ≤ 0 := by
  rcases down0 ⟨an, h⟩ with q | q
  · refine ⟨-1, ?_, by decide⟩
    unfold Dy
    rw [q]
    show signed true (1 * 2 ^ ((-1074 : Int) + ((1074 : Nat) : Int)).toNat) = (-1 : Int) * ((2 ^ (-((-1074 : Int) + ((1074 : Nat) : Int))).toNat : Nat) : Int)
    decide
  · refine ⟨0, ?_, by decide⟩
    unfold Dy
    rw [q]
    show signed true (0 * 2 ^ ((-1074 : Int) + ((1074 : Nat) : Int)).toNat) = (0 : Int) * ((2 ^ (-((-1074 : Int) + ((1074 : Nat) : Int))).toNat : Nat) : Int)
    decide
theorem ref_yes {wn pn an : Nat} {w : UInt64} (hw : Dy (wn : Int) 6 w) (hp : pn < 256) (ha : an < 64) (h : wn < pn * (an + 1)) : FP.dcmp w (mm pn (an + 1)) = some .lt := by
  have h1 : 1 ≤ pn := by rcases Nat.eq_zero_or_pos pn with q | q; (rw [q, Nat.zero_mul] at h; omega); exact q
  obtain ⟨i, d, l1, l2⟩ := chk_dy (chk_all pn an h1 hp ha)
  have u := dy_up 54 hw
  refine dy_lt u d ?_
  generalize pn * (an + 1) = x at h l1 l2
  have : ((2 ^ 54 : Nat) : Int) = 2 ^ 54 := by norm_cast
  rw [this]
  omega
theorem ref_no {wn pn an : Nat} {w : UInt64} (hw : Dy (wn : Int) 6 w) (hp : pn < 256) (ha : an < 64) (h : ¬ wn < pn * (an + 1)) : FP.dcmp w (mm pn (an + 1)) ≠ some .lt := by
  rcases Nat.eq_zero_or_pos pn with q | q
  · subst q
    obtain ⟨i, d, l⟩ := down_dy ha
    have u := dy_up 1068 hw
    have hge : i ≤ (wn : Int) * ((2 ^ 1068 : Nat) : Int) := Int.le_trans l (Int.mul_nonneg (by omega) (by omega))
    rcases Int.lt_or_eq_of_le hge with r | r
    · rw [dy_gt u d r]; decide
    · rw [dy_eq u d r.symm]; decide
  · obtain ⟨i, d, l1, l2⟩ := chk_dy (chk_all pn an q hp ha)
    have u := dy_up 54 hw
    have this : ((2 ^ 54 : Nat) : Int) = 2 ^ 54 := by norm_cast
    generalize pn * (an + 1) = x at h l1 l2
    have hge : i ≤ (wn : Int) * ((2 ^ 54 : Nat) : Int) := by rw [this]; omega
    rcases Int.lt_or_eq_of_le hge with r | r
    · rw [dy_gt u d r]; decide
    · rw [dy_eq u d r.symm]; decide
theorem mm_nn {pn an : Nat} (hp : pn < 256) (ha : an < 64) : NoNaN64 (mm pn (an + 1)) := by
  rcases Nat.eq_zero_or_pos pn with q | q
  · subst q; obtain ⟨i, d, l⟩ := down_dy ha; exact d.nn
  · obtain ⟨i, d, -⟩ := chk_dy (chk_all pn an q hp ha); exact d.nn
end Jvm.OwnFP
namespace Jvm.Pilot.@@N@@
open Jvm Jvm.ClassFile Sem Op Lib Jvm.Free Jvm.Stand Jvm.LawKit Jvm.RoadKit Bundle Jvm.Pilot.@@N@@.Jvm.D Jvm.OwnGo
theorem wd {a0 : Array Value} {Z : State} (hw : ∀ d ∈ tables_1, d.before a0 Z = true) (k : Nat) (d : Jvm.Cond) (hd : tables_1[k]? = some d) : d.before a0 Z = true := hw _ (List.mem_of_getElem? hd)
theorem pn_law : plainFor x = true := plainFor_of_name (by show plainName "com/example/priorsum/priorsum/RankedRowsRefusesPinLaw" = true; first | (simp [plainName, overriddenIn]; done) | decide +kernel)
open Jvm.OwnFP Jvm.Free.Fl
def z2047 : List Value := List.replicate 2047 (.int (0 : Int32))
theorem zz : (Value.int (0 : Int32) :: z2047) = List.replicate 2048 (.int (0 : Int32)) := rfl
theorem zlen : (Value.int (0 : Int32) :: z2047).length = 2048 := by rw [zz, List.length_replicate]
theorem zset (i : Nat) : (Value.int (0 : Int32) :: z2047).set i (.int (0 : Int32)) = (Value.int (0 : Int32) :: z2047) := by rw [zz]; exact List.set_replicate_self
theorem one_len (x : Value) : (x :: z2047).length = 2048 := by show z2047.length + 1 = 2048; rw [z2047, List.length_replicate]
theorem and1 (x : Int32) : x &&& (1 : Int32) = 0 ∨ x &&& (1 : Int32) = 1 := by
  have h : (x &&& (1 : Int32)).toInt = x.toInt % ((2 ^ 1 : Nat) : Int) := c_mask x 1 1 (by decide) (by decide)
  have k : ∀ n : Int32, (x &&& (1 : Int32)).toInt = n.toInt → x &&& (1 : Int32) = n := fun n q => Int32.toInt_inj.mp q
  have h3 : (x &&& (1 : Int32)).toInt = 0 ∨ (x &&& (1 : Int32)).toInt = 1 := by rw [h]; omega
  rcases h3 with q | q
  · exact Or.inl (k 0 q)
  · exact Or.inr (k 1 q)
theorem cv_ge_t {o : Option Ordering} (h : o ≠ some .lt) : ifCond.holds .ge (cmpValue o .g) = true := by
  cases o with
  | none => decide
  | some x => cases x <;> first | decide | exact absurd rfl h
theorem cv_ge_f {o : Option Ordering} (h : o = some .lt) : ifCond.holds .ge (cmpValue o .g) = false := by rw [h]; decide
theorem nat_of {x : Int32} {n : Nat} (h : x.toInt = (n : Int)) : Int32.ofNat n = x := by
  have hx := Int32.toInt_lt x
  exact Int32.toInt_inj.mp ((Int32.toInt_ofNat_of_lt (by omega)).trans h.symm)
theorem pd_of {x : Int32} {n : Nat} (h : x.toInt = (n : Int)) (hn : n < 256) : PD (FP.i2d x) := ⟨⟨n, hn⟩, by rw [nat_of h]⟩
theorem mask_nat (x : Int32) (m : Int32) (k : Nat) (hk : k ≤ 31) (hm : m.toBitVec.toNat = 2 ^ k - 1) : ∃ n : Nat, (x &&& m).toInt = (n : Int) ∧ n < 2 ^ k := by
  have h := c_mask x m k hk hm
  have h0 : (0 : Int) < ((2 ^ k : Nat) : Int) := by have := Nat.two_pow_pos k; omega
  have h1 := Int.emod_nonneg x.toInt (Int.ne_of_gt h0); have h2 := Int.emod_lt_of_pos x.toInt h0
  exact ⟨(x.toInt % ((2 ^ k : Nat) : Int)).toNat, by rw [h]; omega, by omega⟩
theorem add1_nat {x : Int32} {n : Nat} (h : x.toInt = (n : Int)) (hn : n < 64) : (x + (1 : Int32)).toInt = ((n + 1 : Nat) : Int) := by
  rw [Int32.toInt_add, h]; show ((n : Int) + 1).bmod (2 ^ 32) = _; rw [Int.bmod_eq_of_le] <;> omega
theorem mul_nat {x y : Int32} {a b : Nat} (h : x.toInt = (a : Int)) (g : y.toInt = (b : Int)) (ha : a < 256) (hb : b ≤ 64) : (x * y).toInt = ((a * b : Nat) : Int) := by
  have hm : a * b ≤ 255 * 64 := Nat.mul_le_mul (by omega) hb
  rw [Int32.toInt_mul, h, g]; have e : (a : Int) * (b : Int) = ((a * b : Nat) : Int) := by push_cast; rfl
  rw [e]; generalize a * b = z at hm; rw [Int.bmod_eq_of_le] <;> omega
theorem d5_0 : decode jdk_29_method_66_code 0 = .ok (.lload_n 0, 1) := by decide +kernel
theorem d5_1 : decode jdk_29_method_66_code 1 = .ok (.lload_n 2, 1) := by decide +kernel
theorem d5_2 : decode jdk_29_method_66_code 2 = .ok (.lcmp, 1) := by decide +kernel
theorem d5_3 : decode jdk_29_method_66_code 3 = .ok (.ifCond .lt 7, 3) := by decide +kernel
theorem d5_6 : decode jdk_29_method_66_code 6 = .ok (.lload_n 0, 1) := by decide +kernel
theorem d5_7 : decode jdk_29_method_66_code 7 = .ok (.goto 4, 3) := by decide +kernel
theorem d5_10 : decode jdk_29_method_66_code 10 = .ok (.lload_n 2, 1) := by decide +kernel
theorem d5_11 : decode jdk_29_method_66_code 11 = .ok (.lreturn, 1) := by decide +kernel
theorem pd_5 : parseMethodDescriptor "(JJ)J" = some ⟨[.long, .long], some .long⟩ := by decide +kernel
theorem pn_5 : plainFor (⟨"java/lang/Math", "max", "(JJ)J"⟩ : MethodName) = true := by decide +kernel
set_option maxRecDepth 65536 in
set_option maxHeartbeats 40000000 in
theorem c_maxJ (l : Launch) (Z : State) (a0 : Array Value) (hw : ∀ d ∈ tables_1, d.before a0 Z = true) (ws : List Jvm.Cond)  (h0 : Heap) (n0 : Nat) (Z0 : n0 ≤ h0.size)  :
    Ct l Z (⟨"java/lang/Math", "max", "(JJ)J"⟩ : MethodName) jdk_29_method_66_code 4 (some .long) ws ({ frames := 0, cells := 0, slots := 0, locals := 0 } : Room) #[.long (16 : Int64), .long (0 : Int64)] h0 (fun v h L => v = some (.long (16 : Int64)) ∧ Fr n0 L ∧ h = h0) := by
  refine Ct.intro pn_5 #[.val (.long (16 : Int64)), .second, .val (.long (0 : Int64)), .second] (fun _ => by first | (simp [entryFrame, mkF, argsToLocals, Value.category, maxLocals]; done) | rfl) ?_
  intro p e s m below meth c T0 X0 hx hZ hby hml hown hnm hret hlk e0
  have N0 := Fr.nil n0
  refine s_lloadN X0 hx (hb hby d5_0) rfl 1 rfl ?_
  refine s_lloadN X0 hx (hb hby d5_1) rfl 2 rfl ?_
  refine s_lcmp X0 hx (hb hby d5_2) (1 : Int32) rfl 3 rfl ?_
  refine s_ifN X0 hx (hb hby d5_3) (by decide) 6 rfl ?_
  refine s_lloadN X0 hx (hb hby d5_6) rfl 7 rfl ?_
  refine s_goto X0 hx (hb hby d5_7) 11 (by decide) (by decide) ?_
  exact retJ X0 hx hlk hret (hb hby d5_11) e0 ⟨rfl, N0, rfl⟩ (by decide) (by decide)
theorem d6_0 : decode jdk_29_method_70_code 0 = .ok (.lload_n 0, 1) := by decide +kernel
theorem d6_1 : decode jdk_29_method_70_code 1 = .ok (.lload_n 2, 1) := by decide +kernel
theorem d6_2 : decode jdk_29_method_70_code 2 = .ok (.lcmp, 1) := by decide +kernel
theorem d6_3 : decode jdk_29_method_70_code 3 = .ok (.ifCond .gt 7, 3) := by decide +kernel
theorem d6_6 : decode jdk_29_method_70_code 6 = .ok (.lload_n 0, 1) := by decide +kernel
theorem d6_7 : decode jdk_29_method_70_code 7 = .ok (.goto 4, 3) := by decide +kernel
theorem d6_10 : decode jdk_29_method_70_code 10 = .ok (.lload_n 2, 1) := by decide +kernel
theorem d6_11 : decode jdk_29_method_70_code 11 = .ok (.lreturn, 1) := by decide +kernel
theorem pd_6 : parseMethodDescriptor "(JJ)J" = some ⟨[.long, .long], some .long⟩ := by decide +kernel
theorem pn_6 : plainFor (⟨"java/lang/Math", "min", "(JJ)J"⟩ : MethodName) = true := by decide +kernel
set_option maxRecDepth 65536 in
set_option maxHeartbeats 40000000 in
theorem c_minJ1 (l : Launch) (Z : State) (a0 : Array Value) (hw : ∀ d ∈ tables_1, d.before a0 Z = true) (ws : List Jvm.Cond)  (h0 : Heap) (n0 : Nat) (Z0 : n0 ≤ h0.size)  :
    Ct l Z (⟨"java/lang/Math", "min", "(JJ)J"⟩ : MethodName) jdk_29_method_70_code 4 (some .long) ws ({ frames := 0, cells := 0, slots := 0, locals := 0 } : Room) #[.long (2 : Int64), .long (16 : Int64)] h0 (fun v h L => v = some (.long (2 : Int64)) ∧ Fr n0 L ∧ h = h0) := by
  refine Ct.intro pn_6 #[.val (.long (2 : Int64)), .second, .val (.long (16 : Int64)), .second] (fun _ => by first | (simp [entryFrame, mkF, argsToLocals, Value.category, maxLocals]; done) | rfl) ?_
  intro p e s m below meth c T0 X0 hx hZ hby hml hown hnm hret hlk e0
  have N0 := Fr.nil n0
  refine s_lloadN X0 hx (hb hby d6_0) rfl 1 rfl ?_
  refine s_lloadN X0 hx (hb hby d6_1) rfl 2 rfl ?_
  refine s_lcmp X0 hx (hb hby d6_2) (-1 : Int32) rfl 3 rfl ?_
  refine s_ifN X0 hx (hb hby d6_3) (by decide) 6 rfl ?_
  refine s_lloadN X0 hx (hb hby d6_6) rfl 7 rfl ?_
  refine s_goto X0 hx (hb hby d6_7) 11 (by decide) (by decide) ?_
  exact retJ X0 hx hlk hret (hb hby d6_11) e0 ⟨rfl, N0, rfl⟩ (by decide) (by decide)
set_option maxRecDepth 65536 in
set_option maxHeartbeats 40000000 in
theorem c_minJ2 (l : Launch) (Z : State) (a0 : Array Value) (hw : ∀ d ∈ tables_1, d.before a0 Z = true) (ws : List Jvm.Cond)  (h0 : Heap) (n0 : Nat) (Z0 : n0 ≤ h0.size)  :
    Ct l Z (⟨"java/lang/Math", "min", "(JJ)J"⟩ : MethodName) jdk_29_method_70_code 4 (some .long) ws ({ frames := 0, cells := 0, slots := 0, locals := 0 } : Room) #[.long (0 : Int64), .long (2047 : Int64)] h0 (fun v h L => v = some (.long (0 : Int64)) ∧ Fr n0 L ∧ h = h0) := by
  refine Ct.intro pn_6 #[.val (.long (0 : Int64)), .second, .val (.long (2047 : Int64)), .second] (fun _ => by first | (simp [entryFrame, mkF, argsToLocals, Value.category, maxLocals]; done) | rfl) ?_
  intro p e s m below meth c T0 X0 hx hZ hby hml hown hnm hret hlk e0
  have N0 := Fr.nil n0
  refine s_lloadN X0 hx (hb hby d6_0) rfl 1 rfl ?_
  refine s_lloadN X0 hx (hb hby d6_1) rfl 2 rfl ?_
  refine s_lcmp X0 hx (hb hby d6_2) (-1 : Int32) rfl 3 rfl ?_
  refine s_ifN X0 hx (hb hby d6_3) (by decide) 6 rfl ?_
  refine s_lloadN X0 hx (hb hby d6_6) rfl 7 rfl ?_
  refine s_goto X0 hx (hb hby d6_7) 11 (by decide) (by decide) ?_
  exact retJ X0 hx hlk hret (hb hby d6_11) e0 ⟨rfl, N0, rfl⟩ (by decide) (by decide)
theorem d8_0 : decode jdk_29_method_69_code 0 = .ok (.iload_n 0, 1) := by decide +kernel
theorem d8_1 : decode jdk_29_method_69_code 1 = .ok (.iload_n 1, 1) := by decide +kernel
theorem d8_2 : decode jdk_29_method_69_code 2 = .ok (.if_icmp .gt 7, 3) := by decide +kernel
theorem d8_5 : decode jdk_29_method_69_code 5 = .ok (.iload_n 0, 1) := by decide +kernel
theorem d8_6 : decode jdk_29_method_69_code 6 = .ok (.goto 4, 3) := by decide +kernel
theorem d8_9 : decode jdk_29_method_69_code 9 = .ok (.iload_n 1, 1) := by decide +kernel
theorem d8_10 : decode jdk_29_method_69_code 10 = .ok (.ireturn, 1) := by decide +kernel
theorem pd_8 : parseMethodDescriptor "(II)I" = some ⟨[.int, .int], some .int⟩ := by decide +kernel
theorem pn_8 : plainFor (⟨"java/lang/Math", "min", "(II)I"⟩ : MethodName) = true := by decide +kernel
set_option maxRecDepth 65536 in
set_option maxHeartbeats 40000000 in
theorem c_minI (l : Launch) (Z : State) (a0 : Array Value) (hw : ∀ d ∈ tables_1, d.before a0 Z = true) (ws : List Jvm.Cond)  (h0 : Heap) (n0 : Nat) (Z0 : n0 ≤ h0.size)  :
    Ct l Z (⟨"java/lang/Math", "min", "(II)I"⟩ : MethodName) jdk_29_method_69_code 2 (some .int) ws ({ frames := 0, cells := 0, slots := 0, locals := 0 } : Room) #[.int (0 : Int32), .int (2 : Int32)] h0 (fun v h L => v = some (.int (0 : Int32)) ∧ Fr n0 L ∧ h = h0) := by
  refine Ct.intro pn_8 #[.val (.int (0 : Int32)), .val (.int (2 : Int32))] (fun _ => by first | (simp [entryFrame, mkF, argsToLocals, Value.category, maxLocals]; done) | rfl) ?_
  intro p e s m below meth c T0 X0 hx hZ hby hml hown hnm hret hlk e0
  have N0 := Fr.nil n0
  refine s_iloadN X0 hx (hb hby d8_0) rfl 1 rfl ?_
  refine s_iloadN X0 hx (hb hby d8_1) rfl 2 rfl ?_
  refine s_icmpN X0 hx (hb hby d8_2) (by decide) 5 rfl ?_
  refine s_iloadN X0 hx (hb hby d8_5) rfl 6 rfl ?_
  refine s_goto X0 hx (hb hby d8_6) 10 (by decide) (by decide) ?_
  exact retI X0 hx hlk hret (hb hby d8_10) e0 ⟨rfl, N0, rfl⟩ (by decide) (by decide)
theorem d7_0 : decode jdk_65_method_127_code 0 = .ok (.iload_n 1, 1) := by decide +kernel
theorem d7_1 : decode jdk_65_method_127_code 1 = .ok (.aload_n 0, 1) := by decide +kernel
theorem d7_2 : decode jdk_65_method_127_code 2 = .ok (.arraylength, 1) := by decide +kernel
theorem d7_3 : decode jdk_65_method_127_code 3 = .ok (.if_icmp .ne 11, 3) := by decide +kernel
theorem d7_6 : decode jdk_65_method_127_code 6 = .ok (.aload_n 0, 1) := by decide +kernel
theorem d7_7 : decode jdk_65_method_127_code 7 = .ok (.invokevirtual 328, 3) := by decide +kernel
theorem d7_10 : decode jdk_65_method_127_code 10 = .ok (.checkcast 329, 3) := by decide +kernel
theorem d7_13 : decode jdk_65_method_127_code 13 = .ok (.areturn, 1) := by decide +kernel
theorem d7_14 : decode jdk_65_method_127_code 14 = .ok (.iload_n 1, 1) := by decide +kernel
theorem d7_15 : decode jdk_65_method_127_code 15 = .ok (.newarray .double, 2) := by decide +kernel
theorem d7_17 : decode jdk_65_method_127_code 17 = .ok (.astore_n 2, 1) := by decide +kernel
theorem d7_18 : decode jdk_65_method_127_code 18 = .ok (.aload_n 0, 1) := by decide +kernel
theorem d7_19 : decode jdk_65_method_127_code 19 = .ok (.iconst 0, 1) := by decide +kernel
theorem d7_20 : decode jdk_65_method_127_code 20 = .ok (.aload_n 2, 1) := by decide +kernel
theorem d7_21 : decode jdk_65_method_127_code 21 = .ok (.iconst 0, 1) := by decide +kernel
theorem d7_22 : decode jdk_65_method_127_code 22 = .ok (.aload_n 0, 1) := by decide +kernel
theorem d7_23 : decode jdk_65_method_127_code 23 = .ok (.arraylength, 1) := by decide +kernel
theorem d7_24 : decode jdk_65_method_127_code 24 = .ok (.iload_n 1, 1) := by decide +kernel
theorem d7_25 : decode jdk_65_method_127_code 25 = .ok (.invokestatic 304, 3) := by decide +kernel
theorem d7_28 : decode jdk_65_method_127_code 28 = .ok (.invokestatic 150, 3) := by decide +kernel
theorem d7_31 : decode jdk_65_method_127_code 31 = .ok (.aload_n 2, 1) := by decide +kernel
theorem d7_32 : decode jdk_65_method_127_code 32 = .ok (.areturn, 1) := by decide +kernel
theorem pd_7 : parseMethodDescriptor "([DI)[D" = some ⟨[.array .double, .int], some (.array .double)⟩ := by decide +kernel
theorem pn_7 : plainFor (⟨"java/util/Arrays", "copyOf", "([DI)[D"⟩ : MethodName) = true := by decide +kernel
set_option maxRecDepth 65536 in
set_option maxHeartbeats 40000000 in
theorem c_copyD (l : Launch) (Z : State) (a0 : Array Value) (hw : ∀ d ∈ tables_1, d.before a0 Z = true) (ws : List Jvm.Cond) (a1 : Addr) (k1 : ClassId) (h0 : Heap) (n0 : Nat) (Z0 : n0 ≤ h0.size) (A1 : AR Z h0 a1 k1 .double []) :
    Ct l Z (⟨"java/util/Arrays", "copyOf", "([DI)[D"⟩ : MethodName) jdk_65_method_127_code 3 (some (.array .double)) ws ({ frames := 1, cells := 1, slots := 2, locals := 40 } : Room) #[.ref a1, .int (2 : Int32)] h0 (fun v h L => ∃ a k, v = some (.ref a) ∧ Fr n0 L ∧ Keep h0 h [] ∧ h0.size ≤ a ∧ AR Z h a k .double [.double (0 : UInt64), .double (0 : UInt64)]) := by
  refine Ct.intro pn_7 #[.val (.ref a1), .val (.int (2 : Int32)), .unset] (fun _ => by first | (simp [entryFrame, mkF, argsToLocals, Value.category, maxLocals]; done) | rfl) ?_
  intro p e s m below meth c T0 X0 hx hZ hby hml hown hnm hret hlk e0
  have N0 := Fr.nil n0
  have K0 := Keep.refl h0 []
  refine s_iloadN X0 hx (hb hby d7_0) rfl 1 rfl ?_
  refine s_aloadN X0 hx (hb hby d7_1) rfl rfl 2 rfl ?_
  refine s_len X0 hx hZ e0 A1 (hb hby d7_2) (0 : Int32) rfl 3 rfl ?_
  refine s_icmpY X0 hx (hb hby d7_3) (by decide) 14 (by decide) (by decide) ?_
  refine s_iloadN X0 hx (hb hby d7_14) rfl 15 rfl ?_
  obtain ⟨T101, h101, c101, X101, e101, E101, A101, st101⟩ := s_newarray X0 hx hZ (aty := .double) (wd hw 9 _ rfl) e0 (hb hby d7_15) #[.val (.ref a1), .val (.int (2 : Int32)), .unset] [] (n := (2 : Int32)) 2 (by decide) [.double (0 : UInt64), .double (0 : UInt64)] rfl (by decide) (by decide) (by decide) 17 rfl
  obtain ⟨a101, g101⟩ : ∃ z, z = h0.size := ⟨_, rfl⟩
  rw [← g101] at A101 st101
  have ne102 : a1 ≠ a101 := by rw [g101]; exact Nat.ne_of_lt A1.lt
  have q103 : n0 ≤ a101 := by rw [g101]; exact Z0
  have q104 : h0.size ≤ a101 := by rw [g101]; exact K0.1
  have K105 := K0.ext E101
  have F106 := A1.ext E101
  have Z107 := Nat.le_trans Z0 E101.1
  refine Go.via st101 ?_
  refine s_astoreN X101 hx (hb hby d7_17) rfl #[.val (.ref a1), .val (.int (2 : Int32)), .val (.ref a101)] rfl 18 rfl ?_
  refine s_aloadN X101 hx (hb hby d7_18) rfl rfl 19 rfl ?_
  refine s_iconst X101 hx (hb hby d7_19) (0 : Int32) rfl 20 rfl ?_
  refine s_aloadN X101 hx (hb hby d7_20) rfl rfl 21 rfl ?_
  refine s_iconst X101 hx (hb hby d7_21) (0 : Int32) rfl 22 rfl ?_
  refine s_aloadN X101 hx (hb hby d7_22) rfl rfl 23 rfl ?_
  refine s_len X101 hx hZ e101 F106 (hb hby d7_23) (0 : Int32) rfl 24 rfl ?_
  refine s_iloadN X101 hx (hb hby d7_24) rfl 25 rfl ?_
  obtain ⟨v108, T108, L108, X108, hQ108, st108⟩ := callStat X101 hx hZ hown (wd hw 61 _ rfl) (wd hw 62 _ rfl) (wd hw 52 _ rfl) (wd hw 63 _ rfl) (by decide) (c_minI l Z a0 hw [] h101 n0 Z107) e101 (L := #[.val (.ref a1), .val (.int (2 : Int32)), .val (.ref a101)]) (hb hby d7_25) (by rw [hml]; rfl) [.int (0 : Int32), .int (2 : Int32)] [.int (0 : Int32), .ref a101, .int (0 : Int32), .ref a1] rfl rfl pd_8 rfl 4 (by show 2 * 0 + _ ≤ _; exact Nat.le_of_eq rfl) (by decide) (by decide) (by decide) (by decide)
  obtain ⟨rfl, N108, hh108⟩ := hQ108
  have M108 := Fr.app N0 N108
  refine Go.via st108 ?_
  show Go p e below _ (T108.setTop (mkF m 28 #[.val (.ref a1), .val (.int (2 : Int32)), .val (.ref a101)] [.int (0 : Int32), .int (0 : Int32), .ref a101, .int (0 : Int32), .ref a1]))
  obtain ⟨T109, h109, Lc109, X109, e109, N109, K109, A109, st109⟩ := s_acopy X108 hx hZ hown (wd hw 64 _ rfl) (wd hw 67 _ rfl) (wd hw 65 _ rfl) (wd hw 66 _ rfl) hh108 F106 A101 rfl rfl rfl (hb hby d7_28) #[.val (.ref a1), .val (.int (2 : Int32)), .val (.ref a101)] (by rw [hml]; rfl) [] (sp := (0 : Int32)) (dp := (0 : Int32)) (nn := (0 : Int32)) (0 : Int32) (2 : Int32) (by show ¬ (0 : Int32) < 0 ∧ (0 : Int32).toNatClampNeg = 0; decide) (by show ¬ (2 : Int32) < 0 ∧ (2 : Int32).toNatClampNeg = 2; decide) ⟨by decide, (by show 0 + 0 ≤ 0; decide), (by show 0 + 0 ≤ 2; decide)⟩ [] [.double (0 : UInt64), .double (0 : UInt64)] rfl rfl rfl M108 q103 (by decide) 0 (by show 2 * 0 + _ ≤ _; exact Nat.le_of_eq rfl) (by decide) 31 rfl
  have F110 := F106.keep K109 (ninS ne102 nin0)
  have Z111 := Nat.le_trans Z107 K109.1
  have K112 := K105.trans K109 (allS (Or.inr q104) all0)
  refine Go.via st109 ?_
  show Go p e below _ (T109.setTop (mkF m 31 #[.val (.ref a1), .val (.int (2 : Int32)), .val (.ref a101)] []))
  refine s_aloadN X109 hx (hb hby d7_31) rfl rfl 32 rfl ?_
  exact retA X109 hx hlk hret (by decide) rfl (hb hby d7_32) e109 ⟨a101, _, rfl, N109, K112, q104, A109⟩ (by decide) (by decide)
theorem d9_0 : decode jdk_65_method_124_code 0 = .ok (.iload_n 1, 1) := by decide +kernel
theorem d9_1 : decode jdk_65_method_124_code 1 = .ok (.aload_n 0, 1) := by decide +kernel
theorem d9_2 : decode jdk_65_method_124_code 2 = .ok (.arraylength, 1) := by decide +kernel
theorem d9_3 : decode jdk_65_method_124_code 3 = .ok (.if_icmp .ne 11, 3) := by decide +kernel
theorem d9_6 : decode jdk_65_method_124_code 6 = .ok (.aload_n 0, 1) := by decide +kernel
theorem d9_7 : decode jdk_65_method_124_code 7 = .ok (.invokevirtual 319, 3) := by decide +kernel
theorem d9_10 : decode jdk_65_method_124_code 10 = .ok (.checkcast 320, 3) := by decide +kernel
theorem d9_13 : decode jdk_65_method_124_code 13 = .ok (.areturn, 1) := by decide +kernel
theorem d9_14 : decode jdk_65_method_124_code 14 = .ok (.iload_n 1, 1) := by decide +kernel
theorem d9_15 : decode jdk_65_method_124_code 15 = .ok (.newarray .long, 2) := by decide +kernel
theorem d9_17 : decode jdk_65_method_124_code 17 = .ok (.astore_n 2, 1) := by decide +kernel
theorem d9_18 : decode jdk_65_method_124_code 18 = .ok (.aload_n 0, 1) := by decide +kernel
theorem d9_19 : decode jdk_65_method_124_code 19 = .ok (.iconst 0, 1) := by decide +kernel
theorem d9_20 : decode jdk_65_method_124_code 20 = .ok (.aload_n 2, 1) := by decide +kernel
theorem d9_21 : decode jdk_65_method_124_code 21 = .ok (.iconst 0, 1) := by decide +kernel
theorem d9_22 : decode jdk_65_method_124_code 22 = .ok (.aload_n 0, 1) := by decide +kernel
theorem d9_23 : decode jdk_65_method_124_code 23 = .ok (.arraylength, 1) := by decide +kernel
theorem d9_24 : decode jdk_65_method_124_code 24 = .ok (.iload_n 1, 1) := by decide +kernel
theorem d9_25 : decode jdk_65_method_124_code 25 = .ok (.invokestatic 304, 3) := by decide +kernel
theorem d9_28 : decode jdk_65_method_124_code 28 = .ok (.invokestatic 150, 3) := by decide +kernel
theorem d9_31 : decode jdk_65_method_124_code 31 = .ok (.aload_n 2, 1) := by decide +kernel
theorem d9_32 : decode jdk_65_method_124_code 32 = .ok (.areturn, 1) := by decide +kernel
theorem pd_9 : parseMethodDescriptor "([JI)[J" = some ⟨[.array .long, .int], some (.array .long)⟩ := by decide +kernel
theorem pn_9 : plainFor (⟨"java/util/Arrays", "copyOf", "([JI)[J"⟩ : MethodName) = true := by decide +kernel
set_option maxRecDepth 65536 in
set_option maxHeartbeats 40000000 in
theorem c_copyJ (l : Launch) (Z : State) (a0 : Array Value) (hw : ∀ d ∈ tables_1, d.before a0 Z = true) (ws : List Jvm.Cond) (a1 : Addr) (k1 : ClassId) (h0 : Heap) (n0 : Nat) (Z0 : n0 ≤ h0.size) (A1 : AR Z h0 a1 k1 .long []) :
    Ct l Z (⟨"java/util/Arrays", "copyOf", "([JI)[J"⟩ : MethodName) jdk_65_method_124_code 3 (some (.array .long)) ws ({ frames := 1, cells := 1, slots := 2, locals := 40 } : Room) #[.ref a1, .int (2 : Int32)] h0 (fun v h L => ∃ a k, v = some (.ref a) ∧ Fr n0 L ∧ Keep h0 h [] ∧ h0.size ≤ a ∧ AR Z h a k .long [.long (0 : Int64), .long (0 : Int64)]) := by
  refine Ct.intro pn_9 #[.val (.ref a1), .val (.int (2 : Int32)), .unset] (fun _ => by first | (simp [entryFrame, mkF, argsToLocals, Value.category, maxLocals]; done) | rfl) ?_
  intro p e s m below meth c T0 X0 hx hZ hby hml hown hnm hret hlk e0
  have N0 := Fr.nil n0
  have K0 := Keep.refl h0 []
  refine s_iloadN X0 hx (hb hby d9_0) rfl 1 rfl ?_
  refine s_aloadN X0 hx (hb hby d9_1) rfl rfl 2 rfl ?_
  refine s_len X0 hx hZ e0 A1 (hb hby d9_2) (0 : Int32) rfl 3 rfl ?_
  refine s_icmpY X0 hx (hb hby d9_3) (by decide) 14 (by decide) (by decide) ?_
  refine s_iloadN X0 hx (hb hby d9_14) rfl 15 rfl ?_
  obtain ⟨T113, h113, c113, X113, e113, E113, A113, st113⟩ := s_newarray X0 hx hZ (aty := .long) (wd hw 12 _ rfl) e0 (hb hby d9_15) #[.val (.ref a1), .val (.int (2 : Int32)), .unset] [] (n := (2 : Int32)) 2 (by decide) [.long (0 : Int64), .long (0 : Int64)] rfl (by decide) (by decide) (by decide) 17 rfl
  obtain ⟨a113, g113⟩ : ∃ z, z = h0.size := ⟨_, rfl⟩
  rw [← g113] at A113 st113
  have ne114 : a1 ≠ a113 := by rw [g113]; exact Nat.ne_of_lt A1.lt
  have q115 : n0 ≤ a113 := by rw [g113]; exact Z0
  have q116 : h0.size ≤ a113 := by rw [g113]; exact K0.1
  have K117 := K0.ext E113
  have F118 := A1.ext E113
  have Z119 := Nat.le_trans Z0 E113.1
  refine Go.via st113 ?_
  refine s_astoreN X113 hx (hb hby d9_17) rfl #[.val (.ref a1), .val (.int (2 : Int32)), .val (.ref a113)] rfl 18 rfl ?_
  refine s_aloadN X113 hx (hb hby d9_18) rfl rfl 19 rfl ?_
  refine s_iconst X113 hx (hb hby d9_19) (0 : Int32) rfl 20 rfl ?_
  refine s_aloadN X113 hx (hb hby d9_20) rfl rfl 21 rfl ?_
  refine s_iconst X113 hx (hb hby d9_21) (0 : Int32) rfl 22 rfl ?_
  refine s_aloadN X113 hx (hb hby d9_22) rfl rfl 23 rfl ?_
  refine s_len X113 hx hZ e113 F118 (hb hby d9_23) (0 : Int32) rfl 24 rfl ?_
  refine s_iloadN X113 hx (hb hby d9_24) rfl 25 rfl ?_
  obtain ⟨v120, T120, L120, X120, hQ120, st120⟩ := callStat X113 hx hZ hown (wd hw 61 _ rfl) (wd hw 62 _ rfl) (wd hw 52 _ rfl) (wd hw 63 _ rfl) (by decide) (c_minI l Z a0 hw [] h113 n0 Z119) e113 (L := #[.val (.ref a1), .val (.int (2 : Int32)), .val (.ref a113)]) (hb hby d9_25) (by rw [hml]; rfl) [.int (0 : Int32), .int (2 : Int32)] [.int (0 : Int32), .ref a113, .int (0 : Int32), .ref a1] rfl rfl pd_8 rfl 4 (by show 2 * 0 + _ ≤ _; exact Nat.le_of_eq rfl) (by decide) (by decide) (by decide) (by decide)
  obtain ⟨rfl, N120, hh120⟩ := hQ120
  have M120 := Fr.app N0 N120
  refine Go.via st120 ?_
  show Go p e below _ (T120.setTop (mkF m 28 #[.val (.ref a1), .val (.int (2 : Int32)), .val (.ref a113)] [.int (0 : Int32), .int (0 : Int32), .ref a113, .int (0 : Int32), .ref a1]))
  obtain ⟨T121, h121, Lc121, X121, e121, N121, K121, A121, st121⟩ := s_acopy X120 hx hZ hown (wd hw 64 _ rfl) (wd hw 67 _ rfl) (wd hw 65 _ rfl) (wd hw 66 _ rfl) hh120 F118 A113 rfl rfl rfl (hb hby d9_28) #[.val (.ref a1), .val (.int (2 : Int32)), .val (.ref a113)] (by rw [hml]; rfl) [] (sp := (0 : Int32)) (dp := (0 : Int32)) (nn := (0 : Int32)) (0 : Int32) (2 : Int32) (by show ¬ (0 : Int32) < 0 ∧ (0 : Int32).toNatClampNeg = 0; decide) (by show ¬ (2 : Int32) < 0 ∧ (2 : Int32).toNatClampNeg = 2; decide) ⟨by decide, (by show 0 + 0 ≤ 0; decide), (by show 0 + 0 ≤ 2; decide)⟩ [] [.long (0 : Int64), .long (0 : Int64)] rfl rfl rfl M120 q115 (by decide) 0 (by show 2 * 0 + _ ≤ _; exact Nat.le_of_eq rfl) (by decide) 31 rfl
  have F122 := F118.keep K121 (ninS ne114 nin0)
  have Z123 := Nat.le_trans Z119 K121.1
  have K124 := K117.trans K121 (allS (Or.inr q116) all0)
  refine Go.via st121 ?_
  show Go p e below _ (T121.setTop (mkF m 31 #[.val (.ref a1), .val (.int (2 : Int32)), .val (.ref a113)] []))
  refine s_aloadN X121 hx (hb hby d9_31) rfl rfl 32 rfl ?_
  exact retA X121 hx hlk hret (by decide) rfl (hb hby d9_32) e121 ⟨a113, _, rfl, N121, K124, q116, A121⟩ (by decide) (by decide)
theorem d11_0 : decode jdk_65_method_120_code 0 = .ok (.aload_n 2, 1) := by decide +kernel
theorem d11_1 : decode jdk_65_method_120_code 1 = .ok (.ldc 110, 2) := by decide +kernel
theorem d11_3 : decode jdk_65_method_120_code 3 = .ok (.if_acmp .ne 10, 3) := by decide +kernel
theorem d11_6 : decode jdk_65_method_120_code 6 = .ok (.iload_n 1, 1) := by decide +kernel
theorem d11_7 : decode jdk_65_method_120_code 7 = .ok (.anewarray 2, 3) := by decide +kernel
theorem d11_10 : decode jdk_65_method_120_code 10 = .ok (.goto 14, 3) := by decide +kernel
theorem d11_13 : decode jdk_65_method_120_code 13 = .ok (.aload_n 2, 1) := by decide +kernel
theorem d11_14 : decode jdk_65_method_120_code 14 = .ok (.invokevirtual 90, 3) := by decide +kernel
theorem d11_17 : decode jdk_65_method_120_code 17 = .ok (.iload_n 1, 1) := by decide +kernel
theorem d11_18 : decode jdk_65_method_120_code 18 = .ok (.invokestatic 95, 3) := by decide +kernel
theorem d11_21 : decode jdk_65_method_120_code 21 = .ok (.checkcast 110, 3) := by decide +kernel
theorem d11_24 : decode jdk_65_method_120_code 24 = .ok (.astore_n 3, 1) := by decide +kernel
theorem d11_25 : decode jdk_65_method_120_code 25 = .ok (.aload_n 0, 1) := by decide +kernel
theorem d11_26 : decode jdk_65_method_120_code 26 = .ok (.iconst 0, 1) := by decide +kernel
theorem d11_27 : decode jdk_65_method_120_code 27 = .ok (.aload_n 3, 1) := by decide +kernel
theorem d11_28 : decode jdk_65_method_120_code 28 = .ok (.iconst 0, 1) := by decide +kernel
theorem d11_29 : decode jdk_65_method_120_code 29 = .ok (.aload_n 0, 1) := by decide +kernel
theorem d11_30 : decode jdk_65_method_120_code 30 = .ok (.arraylength, 1) := by decide +kernel
theorem d11_31 : decode jdk_65_method_120_code 31 = .ok (.iload_n 1, 1) := by decide +kernel
theorem d11_32 : decode jdk_65_method_120_code 32 = .ok (.invokestatic 304, 3) := by decide +kernel
theorem d11_35 : decode jdk_65_method_120_code 35 = .ok (.invokestatic 150, 3) := by decide +kernel
theorem d11_38 : decode jdk_65_method_120_code 38 = .ok (.aload_n 3, 1) := by decide +kernel
theorem d11_39 : decode jdk_65_method_120_code 39 = .ok (.areturn, 1) := by decide +kernel
theorem pd_11 : parseMethodDescriptor "([Ljava/lang/Object;ILjava/lang/Class;)[Ljava/lang/Object;" = some ⟨[.array (.object "java/lang/Object"), .int, .object "java/lang/Class"], some (.array (.object "java/lang/Object"))⟩ := by decide +kernel
theorem pn_11 : plainFor (⟨"java/util/Arrays", "copyOf", "([Ljava/lang/Object;ILjava/lang/Class;)[Ljava/lang/Object;"⟩ : MethodName) = true := by decide +kernel
set_option maxRecDepth 65536 in
set_option maxHeartbeats 40000000 in
theorem c_copy3 (l : Launch) (Z : State) (a0 : Array Value) (hw : ∀ d ∈ tables_1, d.before a0 Z = true) (ws : List Jvm.Cond) (a1 mr : Addr) (k1 : ClassId) (h0 : Heap) (n0 : Nat) (Z0 : n0 ≤ h0.size) (A1 : AR Z h0 a1 k1 (.object "java/lang/Object") []) (Mm : Mi Z "[Ljava/lang/Object;" mr) :
    Ct l Z (⟨"java/util/Arrays", "copyOf", "([Ljava/lang/Object;ILjava/lang/Class;)[Ljava/lang/Object;"⟩ : MethodName) jdk_65_method_120_code 4 (some (.array (.object "java/lang/Object"))) ws ({ frames := 1, cells := 1, slots := 2, locals := 40 } : Room) #[.ref a1, .int (2 : Int32), .ref mr] h0 (fun v h L => ∃ a k, v = some (.ref a) ∧ Fr n0 L ∧ Keep h0 h [] ∧ h0.size ≤ a ∧ AR Z h a k (.object "java/lang/Object") [.null, .null]) := by
  refine Ct.intro pn_11 #[.val (.ref a1), .val (.int (2 : Int32)), .val (.ref mr), .unset] (fun _ => by first | (simp [entryFrame, mkF, argsToLocals, Value.category, maxLocals]; done) | rfl) ?_
  intro p e s m below meth c T0 X0 hx hZ hby hml hown hnm hret hlk e0
  have N0 := Fr.nil n0
  have K0 := Keep.refl h0 []
  refine s_aloadN X0 hx (hb hby d11_0) rfl rfl 1 rfl ?_
  obtain ⟨T125, X125, e125, st125⟩ := s_ldcC X0 hx hZ hown (wd hw 83 _ rfl) Mm e0 (hb hby d11_1) #[.val (.ref a1), .val (.int (2 : Int32)), .val (.ref mr), .unset] [.ref mr] 3 rfl
  refine Go.via st125 ?_
  show Go p e below _ (T125.setTop (mkF m 3 #[.val (.ref a1), .val (.int (2 : Int32)), .val (.ref mr), .unset] [.ref mr, .ref mr]))
  refine s_acmpN X125 hx (hb hby d11_3) rfl rfl (XT.aa_ne_f rfl) 6 rfl ?_
  refine s_iloadN X125 hx (hb hby d11_6) rfl 7 rfl ?_
  obtain ⟨T126, h126, c126, X126, e126, E126, A126, B126, st126⟩ := s_anewarrayE X125 hx hZ hown (wd hw 84 _ rfl) (wd hw 18 _ rfl) e125 (hb hby d11_7) #[.val (.ref a1), .val (.int (2 : Int32)), .val (.ref mr), .unset] [] (n := (2 : Int32)) 2 (by decide) [.null, .null] rfl (by decide) (by decide) (by decide) 10 rfl "[Ljava/lang/Object;" (by decide)
  obtain ⟨a126, g126⟩ : ∃ z, z = h0.size := ⟨_, rfl⟩
  rw [← g126] at A126 B126 st126
  have ne127 : a1 ≠ a126 := by rw [g126]; exact Nat.ne_of_lt A1.lt
  have q128 : n0 ≤ a126 := by rw [g126]; exact Z0
  have q129 : h0.size ≤ a126 := by rw [g126]; exact K0.1
  have K130 := K0.ext E126
  have F131 := A1.ext E126
  have Z132 := Nat.le_trans Z0 E126.1
  refine Go.via st126 ?_
  refine s_goto X126 hx (hb hby d11_10) 24 (by decide) (by decide) ?_
  refine s_astoreN X126 hx (hb hby d11_24) rfl #[.val (.ref a1), .val (.int (2 : Int32)), .val (.ref mr), .val (.ref a126)] rfl 25 rfl ?_
  refine s_aloadN X126 hx (hb hby d11_25) rfl rfl 26 rfl ?_
  refine s_iconst X126 hx (hb hby d11_26) (0 : Int32) rfl 27 rfl ?_
  refine s_aloadN X126 hx (hb hby d11_27) rfl rfl 28 rfl ?_
  refine s_iconst X126 hx (hb hby d11_28) (0 : Int32) rfl 29 rfl ?_
  refine s_aloadN X126 hx (hb hby d11_29) rfl rfl 30 rfl ?_
  refine s_len X126 hx hZ e126 F131 (hb hby d11_30) (0 : Int32) rfl 31 rfl ?_
  refine s_iloadN X126 hx (hb hby d11_31) rfl 32 rfl ?_
  obtain ⟨v133, T133, L133, X133, hQ133, st133⟩ := callStat X126 hx hZ hown (wd hw 61 _ rfl) (wd hw 62 _ rfl) (wd hw 52 _ rfl) (wd hw 63 _ rfl) (by decide) (c_minI l Z a0 hw [] h126 n0 Z132) e126 (L := #[.val (.ref a1), .val (.int (2 : Int32)), .val (.ref mr), .val (.ref a126)]) (hb hby d11_32) (by rw [hml]; rfl) [.int (0 : Int32), .int (2 : Int32)] [.int (0 : Int32), .ref a126, .int (0 : Int32), .ref a1] rfl rfl pd_8 rfl 4 (by show 2 * 0 + _ ≤ _; exact Nat.le_of_eq rfl) (by decide) (by decide) (by decide) (by decide)
  obtain ⟨rfl, N133, hh133⟩ := hQ133
  have M133 := Fr.app N0 N133
  refine Go.via st133 ?_
  show Go p e below _ (T133.setTop (mkF m 35 #[.val (.ref a1), .val (.int (2 : Int32)), .val (.ref mr), .val (.ref a126)] [.int (0 : Int32), .int (0 : Int32), .ref a126, .int (0 : Int32), .ref a1]))
  obtain ⟨T134, h134, Lc134, X134, e134, N134, K134, A134, st134⟩ := s_acopyR0 X133 hx hZ hown (wd hw 64 _ rfl) (wd hw 67 _ rfl) (wd hw 65 _ rfl) (wd hw 66 _ rfl) hh133 F131 A126 rfl rfl rfl (hb hby d11_35) #[.val (.ref a1), .val (.int (2 : Int32)), .val (.ref mr), .val (.ref a126)] (by rw [hml]; rfl) [] (0 : Int32) (2 : Int32) (by show ¬ (0 : Int32) < 0 ∧ (0 : Int32).toNatClampNeg = 0; decide) (by show ¬ (2 : Int32) < 0 ∧ (2 : Int32).toNatClampNeg = 2; decide) M133 q128 (by decide) 0 (by show 2 * 0 + _ ≤ _; exact Nat.le_of_eq rfl) (by decide) 38 rfl
  have F135 := F131.keep K134 (ninS ne127 nin0)
  have F136 := B126.keep K134
  have Z137 := Nat.le_trans Z132 K134.1
  have K138 := K130.trans K134 (allS (Or.inr q129) all0)
  refine Go.via st134 ?_
  show Go p e below _ (T134.setTop (mkF m 38 #[.val (.ref a1), .val (.int (2 : Int32)), .val (.ref mr), .val (.ref a126)] []))
  refine s_aloadN X134 hx (hb hby d11_38) rfl rfl 39 rfl ?_
  exact retA X134 hx hlk hret (by decide) rfl (hb hby d11_39) e134 ⟨a126, _, rfl, N134, K138, q129, A134⟩ (by decide) (by decide)
theorem d10_0 : decode jdk_65_method_119_code 0 = .ok (.aload_n 0, 1) := by decide +kernel
theorem d10_1 : decode jdk_65_method_119_code 1 = .ok (.iload_n 1, 1) := by decide +kernel
theorem d10_2 : decode jdk_65_method_119_code 2 = .ok (.aload_n 0, 1) := by decide +kernel
theorem d10_3 : decode jdk_65_method_119_code 3 = .ok (.invokevirtual 86, 3) := by decide +kernel
theorem d10_6 : decode jdk_65_method_119_code 6 = .ok (.invokestatic 300, 3) := by decide +kernel
theorem d10_9 : decode jdk_65_method_119_code 9 = .ok (.areturn, 1) := by decide +kernel
theorem pd_10 : parseMethodDescriptor "([Ljava/lang/Object;I)[Ljava/lang/Object;" = some ⟨[.array (.object "java/lang/Object"), .int], some (.array (.object "java/lang/Object"))⟩ := by decide +kernel
theorem pn_10 : plainFor (⟨"java/util/Arrays", "copyOf", "([Ljava/lang/Object;I)[Ljava/lang/Object;"⟩ : MethodName) = true := by decide +kernel
set_option maxRecDepth 65536 in
set_option maxHeartbeats 40000000 in
theorem c_copy2 (l : Launch) (Z : State) (a0 : Array Value) (hw : ∀ d ∈ tables_1, d.before a0 Z = true) (ws : List Jvm.Cond) (a1 mr : Addr) (k1 : ClassId) (h0 : Heap) (n0 : Nat) (Z0 : n0 ≤ h0.size) (A1 : AR Z h0 a1 k1 (.object "java/lang/Object") []) (E1 : Exa Z h0 a1 "[Ljava/lang/Object;") (Mm : Mi Z "[Ljava/lang/Object;" mr) :
    Ct l Z (⟨"java/util/Arrays", "copyOf", "([Ljava/lang/Object;I)[Ljava/lang/Object;"⟩ : MethodName) jdk_65_method_119_code 2 (some (.array (.object "java/lang/Object"))) ws ({ frames := 2, cells := 1, slots := 2, locals := 55 } : Room) #[.ref a1, .int (2 : Int32)] h0 (fun v h L => ∃ a k, v = some (.ref a) ∧ Fr n0 L ∧ Keep h0 h [] ∧ h0.size ≤ a ∧ AR Z h a k (.object "java/lang/Object") [.null, .null]) := by
  refine Ct.intro pn_10 #[.val (.ref a1), .val (.int (2 : Int32))] (fun _ => by first | (simp [entryFrame, mkF, argsToLocals, Value.category, maxLocals]; done) | rfl) ?_
  intro p e s m below meth c T0 X0 hx hZ hby hml hown hnm hret hlk e0
  have N0 := Fr.nil n0
  have K0 := Keep.refl h0 []
  refine s_aloadN X0 hx (hb hby d10_0) rfl rfl 1 rfl ?_
  refine s_iloadN X0 hx (hb hby d10_1) rfl 2 rfl ?_
  refine s_aloadN X0 hx (hb hby d10_2) rfl rfl 3 rfl ?_
  obtain ⟨T139, X139, e139, st139⟩ := s_getClass X0 hx hZ hown (wd hw 74 _ rfl) (wd hw 75 _ rfl) (wd hw 77 _ rfl) (wd hw 76 _ rfl) (wd hw 78 _ rfl) e0 E1 Mm (hb hby d10_3) #[.val (.ref a1), .val (.int (2 : Int32))] (by rw [hml]; rfl) [.int (2 : Int32), .ref a1] (by decide) 2 (by show 2 * 0 + _ ≤ _; exact Nat.le_of_eq rfl) (by decide) 6 rfl
  refine Go.via st139 ?_
  show Go p e below _ (T139.setTop (mkF m 6 #[.val (.ref a1), .val (.int (2 : Int32))] [.ref mr, .int (2 : Int32), .ref a1]))
  obtain ⟨v140, T140, L140, X140, hQ140, st140⟩ := callStat X139 hx hZ hown (wd hw 80 _ rfl) (wd hw 81 _ rfl) (wd hw 59 _ rfl) (wd hw 82 _ rfl) (by decide) (c_copy3 l Z a0 hw [] a1 mr k1 h0 n0 Z0 A1 Mm) e139 (L := #[.val (.ref a1), .val (.int (2 : Int32))]) (hb hby d10_6) (by rw [hml]; rfl) [.ref a1, .int (2 : Int32), .ref mr] [] rfl rfl pd_11 rfl 0 (by show 2 * 0 + _ ≤ _; exact Nat.le_of_eq rfl) (by decide) (by decide) (by decide) (by decide)
  obtain ⟨a140, c140, rfl, N140, K140, g140, A140⟩ := hQ140
  have M140 := Fr.app N0 N140
  have ne141 : a1 ≠ a140 := Nat.ne_of_lt (Nat.lt_of_lt_of_le A1.lt g140)
  have q142 : n0 ≤ a140 := Nat.le_trans Z0 g140
  have q143 : h0.size ≤ a140 := Nat.le_trans K0.1 g140
  have K144 := K0.trans K140 all0
  have F145 := A1.keep K140 nin0
  have F146 := E1.keep K140
  have Z147 := Nat.le_trans Z0 K140.1
  have e140 : T140.heap = T140.heap := rfl
  refine Go.via st140 ?_
  show Go p e below _ (T140.setTop (mkF m 9 #[.val (.ref a1), .val (.int (2 : Int32))] [.ref a140]))
  exact retA X140 hx hlk hret (by decide) rfl (hb hby d10_9) e140 ⟨a140, _, rfl, M140, K144, q143, A140⟩ (by decide) (by decide)
theorem d0_0 : decode prog_15_method_1_code 0 = .ok (.aload_n 0, 1) := by decide +kernel
theorem d0_1 : decode prog_15_method_1_code 1 = .ok (.invokespecial 1, 3) := by decide +kernel
theorem d0_4 : decode prog_15_method_1_code 4 = .ok (.aload_n 0, 1) := by decide +kernel
theorem d0_5 : decode prog_15_method_1_code 5 = .ok (.iconst 0, 1) := by decide +kernel
theorem d0_6 : decode prog_15_method_1_code 6 = .ok (.newarray .double, 2) := by decide +kernel
theorem d0_8 : decode prog_15_method_1_code 8 = .ok (.putfield 7, 3) := by decide +kernel
theorem d0_11 : decode prog_15_method_1_code 11 = .ok (.aload_n 0, 1) := by decide +kernel
theorem d0_12 : decode prog_15_method_1_code 12 = .ok (.iconst 0, 1) := by decide +kernel
theorem d0_13 : decode prog_15_method_1_code 13 = .ok (.newarray .long, 2) := by decide +kernel
theorem d0_15 : decode prog_15_method_1_code 15 = .ok (.putfield 13, 3) := by decide +kernel
theorem d0_18 : decode prog_15_method_1_code 18 = .ok (.aload_n 0, 1) := by decide +kernel
theorem d0_19 : decode prog_15_method_1_code 19 = .ok (.iconst 0, 1) := by decide +kernel
theorem d0_20 : decode prog_15_method_1_code 20 = .ok (.newarray .double, 2) := by decide +kernel
theorem d0_22 : decode prog_15_method_1_code 22 = .ok (.putfield 17, 3) := by decide +kernel
theorem d0_25 : decode prog_15_method_1_code 25 = .ok (.aload_n 0, 1) := by decide +kernel
theorem d0_26 : decode prog_15_method_1_code 26 = .ok (.iconst 0, 1) := by decide +kernel
theorem d0_27 : decode prog_15_method_1_code 27 = .ok (.anewarray 2, 3) := by decide +kernel
theorem d0_30 : decode prog_15_method_1_code 30 = .ok (.putfield 20, 3) := by decide +kernel
theorem d0_33 : decode prog_15_method_1_code 33 = .ok (.aload_n 0, 1) := by decide +kernel
theorem d0_34 : decode prog_15_method_1_code 34 = .ok (.ldc2_w 26, 3) := by decide +kernel
theorem d0_37 : decode prog_15_method_1_code 37 = .ok (.putfield 28, 3) := by decide +kernel
theorem d0_40 : decode prog_15_method_1_code 40 = .ok (.aload_n 0, 1) := by decide +kernel
theorem d0_41 : decode prog_15_method_1_code 41 = .ok (.iconst 0, 1) := by decide +kernel
theorem d0_42 : decode prog_15_method_1_code 42 = .ok (.newarray .int, 2) := by decide +kernel
theorem d0_44 : decode prog_15_method_1_code 44 = .ok (.putfield 32, 3) := by decide +kernel
theorem d0_47 : decode prog_15_method_1_code 47 = .ok (.aload_n 0, 1) := by decide +kernel
theorem d0_48 : decode prog_15_method_1_code 48 = .ok (.iconst 0, 1) := by decide +kernel
theorem d0_49 : decode prog_15_method_1_code 49 = .ok (.newarray .double, 2) := by decide +kernel
theorem d0_51 : decode prog_15_method_1_code 51 = .ok (.putfield 36, 3) := by decide +kernel
theorem d0_54 : decode prog_15_method_1_code 54 = .ok (.aload_n 0, 1) := by decide +kernel
theorem d0_55 : decode prog_15_method_1_code 55 = .ok (.iload_n 1, 1) := by decide +kernel
theorem d0_56 : decode prog_15_method_1_code 56 = .ok (.putfield 39, 3) := by decide +kernel
theorem d0_59 : decode prog_15_method_1_code 59 = .ok (.aload_n 0, 1) := by decide +kernel
theorem d0_60 : decode prog_15_method_1_code 60 = .ok (.iconst 2, 1) := by decide +kernel
theorem d0_61 : decode prog_15_method_1_code 61 = .ok (.iload_n 1, 1) := by decide +kernel
theorem d0_62 : decode prog_15_method_1_code 62 = .ok (.imul, 1) := by decide +kernel
theorem d0_63 : decode prog_15_method_1_code 63 = .ok (.putfield 43, 3) := by decide +kernel
theorem d0_66 : decode prog_15_method_1_code 66 = .ok (.return_, 1) := by decide +kernel
theorem pd_0 : parseMethodDescriptor "(I)V" = some ⟨[.int], none⟩ := by decide +kernel
theorem pn_0 : plainFor (⟨"com/example/priorsum/priorsum/RankedRows", "<init>", "(I)V"⟩ : MethodName) = true := plainFor_of_name (by show plainName "com/example/priorsum/priorsum/RankedRows" = true; first | (simp [plainName, overriddenIn]; done) | decide +kernel)
set_option maxRecDepth 65536 in
set_option maxHeartbeats 40000000 in
theorem c_ctor (l : Launch) (Z : State) (a0 : Array Value) (hw : ∀ d ∈ tables_1, d.before a0 Z = true) (ws : List Jvm.Cond) (a1 : Addr) (h0 : Heap) (n0 : Nat) (Z0 : n0 ≤ h0.size) (E1 : Exa Z h0 a1 "com/example/priorsum/priorsum/RankedRows") (g1 : n0 ≤ a1) (F_priorities : Fld Z h0 a1 "com/example/priorsum/priorsum/RankedRows" "priorities" "[D" (.null)) (F_indices : Fld Z h0 a1 "com/example/priorsum/priorsum/RankedRows" "indices" "[J" (.null)) (F_weights : Fld Z h0 a1 "com/example/priorsum/priorsum/RankedRows" "weights" "[D" (.null)) (F_items : Fld Z h0 a1 "com/example/priorsum/priorsum/RankedRows" "items" "[Ljava/lang/Object;" (.null)) (F_floor : Fld Z h0 a1 "com/example/priorsum/priorsum/RankedRows" "floor" "D" (.double (0 : UInt64))) (F_kept : Fld Z h0 a1 "com/example/priorsum/priorsum/RankedRows" "kept" "[I" (.null)) (F_scratch : Fld Z h0 a1 "com/example/priorsum/priorsum/RankedRows" "scratch" "[D" (.null)) (F_keep : Fld Z h0 a1 "com/example/priorsum/priorsum/RankedRows" "keep" "I" (.int (0 : Int32))) (F_capacity : Fld Z h0 a1 "com/example/priorsum/priorsum/RankedRows" "capacity" "I" (.int (0 : Int32))) (F_held : Fld Z h0 a1 "com/example/priorsum/priorsum/RankedRows" "held" "I" (.int (0 : Int32))) (F_counts : Fld Z h0 a1 "com/example/priorsum/priorsum/RankedRows" "counts" "[I" (.null)) (F_base : Fld Z h0 a1 "com/example/priorsum/priorsum/RankedRows" "base" "J" (.long (0 : Int64))) (F_floorBucket : Fld Z h0 a1 "com/example/priorsum/priorsum/RankedRows" "floorBucket" "I" (.int (0 : Int32))) (F_above : Fld Z h0 a1 "com/example/priorsum/priorsum/RankedRows" "above" "I" (.int (0 : Int32))) :
    Ct l Z (⟨"com/example/priorsum/priorsum/RankedRows", "<init>", "(I)V"⟩ : MethodName) prog_15_method_1_code 2 none ws ({ frames := 1, cells := 6, slots := 0, locals := 12 } : Room) #[.ref a1, .int (1 : Int32)] h0 (fun v h L => ∃ bP bI bW bT jP jI jW jT, v = none ∧ Fr n0 L ∧ Keep h0 h [a1] ∧ h0.size ≤ bP ∧ h0.size ≤ bI ∧ h0.size ≤ bW ∧ h0.size ≤ bT ∧ Fld Z h a1 "com/example/priorsum/priorsum/RankedRows" "priorities" "[D" (.ref bP) ∧ Fld Z h a1 "com/example/priorsum/priorsum/RankedRows" "indices" "[J" (.ref bI) ∧ Fld Z h a1 "com/example/priorsum/priorsum/RankedRows" "weights" "[D" (.ref bW) ∧ Fld Z h a1 "com/example/priorsum/priorsum/RankedRows" "items" "[Ljava/lang/Object;" (.ref bT) ∧ Fld Z h a1 "com/example/priorsum/priorsum/RankedRows" "floor" "D" (.double (18442240474082181120 : UInt64)) ∧ Fld Z h a1 "com/example/priorsum/priorsum/RankedRows" "keep" "I" (.int (1 : Int32)) ∧ Fld Z h a1 "com/example/priorsum/priorsum/RankedRows" "capacity" "I" (.int (2 : Int32)) ∧ Fld Z h a1 "com/example/priorsum/priorsum/RankedRows" "held" "I" (.int (0 : Int32)) ∧ Fld Z h a1 "com/example/priorsum/priorsum/RankedRows" "counts" "[I" (.null) ∧ Fld Z h a1 "com/example/priorsum/priorsum/RankedRows" "base" "J" (.long (0 : Int64)) ∧ Fld Z h a1 "com/example/priorsum/priorsum/RankedRows" "floorBucket" "I" (.int (0 : Int32)) ∧ Fld Z h a1 "com/example/priorsum/priorsum/RankedRows" "above" "I" (.int (0 : Int32)) ∧ AR Z h bP jP (.double) [] ∧ AR Z h bI jI (.long) [] ∧ AR Z h bW jW (.double) [] ∧ AR Z h bT jT (.object "java/lang/Object") [] ∧ Exa Z h bT "[Ljava/lang/Object;") := by
  refine Ct.intro pn_0 #[.val (.ref a1), .val (.int (1 : Int32))] (fun _ => by first | (simp [entryFrame, mkF, argsToLocals, Value.category, maxLocals]; done) | rfl) ?_
  intro p e s m below meth c T0 X0 hx hZ hby hml hown hnm hret hlk e0
  have N0 := Fr.nil n0
  have K0 := Keep.refl h0 [a1]
  refine s_aloadN X0 hx (hb hby d0_0) rfl rfl 1 rfl ?_
  obtain ⟨T148, X148, e148, st148⟩ := initO X0 hx hZ hown (wd hw 6 _ rfl) (wd hw 7 _ rfl) (wd hw 8 _ rfl) e0 (g := (mkF m 1 #[.val (.ref a1), .val (.int (1 : Int32))] [.ref a1])) rfl (by rw [hml]; rfl) rfl (hb hby d0_1) (by decide) (W := 0) (by show 2 * 0 + _ ≤ _; exact Nat.le_of_eq rfl) (by decide)
  refine Go.via st148 ?_
  show Go p e below _ (T148.setTop (mkF m 4 #[.val (.ref a1), .val (.int (1 : Int32))] []))
  refine s_aloadN X148 hx (hb hby d0_4) rfl rfl 5 rfl ?_
  refine s_iconst X148 hx (hb hby d0_5) (0 : Int32) rfl 6 rfl ?_
  obtain ⟨T149, h149, c149, X149, e149, E149, A149, st149⟩ := s_newarray X148 hx hZ (aty := .double) (wd hw 9 _ rfl) e148 (hb hby d0_6) #[.val (.ref a1), .val (.int (1 : Int32))] [.ref a1] (n := (0 : Int32)) 0 (by decide) [] rfl (by decide) (by decide) (by decide) 8 rfl
  obtain ⟨a149, g149⟩ : ∃ z, z = h0.size := ⟨_, rfl⟩
  rw [← g149] at A149 st149
  have ne150 : a1 ≠ a149 := by rw [g149]; exact Nat.ne_of_lt E1.lt
  have q151 : n0 ≤ a149 := by rw [g149]; exact Z0
  have q152 : h0.size ≤ a149 := by rw [g149]; exact K0.1
  have K153 := K0.ext E149
  have F154 := E1.ext E149
  have F155 := F_priorities.ext E149
  have F156 := F_indices.ext E149
  have F157 := F_weights.ext E149
  have F158 := F_items.ext E149
  have F159 := F_floor.ext E149
  have F160 := F_kept.ext E149
  have F161 := F_scratch.ext E149
  have F162 := F_keep.ext E149
  have F163 := F_capacity.ext E149
  have F164 := F_held.ext E149
  have F165 := F_counts.ext E149
  have F166 := F_base.ext E149
  have F167 := F_floorBucket.ext E149
  have F168 := F_above.ext E149
  have Z169 := Nat.le_trans Z0 E149.1
  refine Go.via st149 ?_
  obtain ⟨T170, h170, X170, e170, W170, st170⟩ := putF X149 hx hZ hown (host := "") (Or.inl (wd hw 10 _ rfl)) Via.refl e149 F155 F154 (Or.inl (wd hw 11 _ rfl)) (wd hw 1 _ rfl) (ty := .array .double) (by decide) rfl rfl (g := (mkF m 8 #[.val (.ref a1), .val (.int (1 : Int32))] [.ref a149, .ref a1])) rfl rfl (hb hby d0_8)
  have N170 := Fr.snoc X170 N0 g1
  have F171 := F155.same W170
  have F172 := F154.wr W170
  have F173 := F156.other W170 (Or.inr (slot_ne (a0 := a0) (t := .array .long) (t' := .array .double) (Or.inl (wd hw 14 _ rfl)) (Or.inl (wd hw 11 _ rfl)) (by decide) (by decide) (by decide)))
  have F174 := F157.other W170 (Or.inr (slot_ne (a0 := a0) (t := .array .double) (t' := .array .double) (Or.inl (wd hw 16 _ rfl)) (Or.inl (wd hw 11 _ rfl)) (by decide) (by decide) (by decide)))
  have F175 := F158.other W170 (Or.inr (slot_ne (a0 := a0) (t := .array (.object "java/lang/Object")) (t' := .array .double) (Or.inl (wd hw 20 _ rfl)) (Or.inl (wd hw 11 _ rfl)) (by decide) (by decide) (by decide)))
  have F176 := F159.other W170 (Or.inr (slot_ne (a0 := a0) (t := .double) (t' := .array .double) (Or.inl (wd hw 23 _ rfl)) (Or.inl (wd hw 11 _ rfl)) (by decide) (by decide) (by decide)))
  have F177 := F160.other W170 (Or.inr (slot_ne (a0 := a0) (t := .array .int) (t' := .array .double) (Or.inl (wd hw 26 _ rfl)) (Or.inl (wd hw 11 _ rfl)) (by decide) (by decide) (by decide)))
  have F178 := F161.other W170 (Or.inr (slot_ne (a0 := a0) (t := .array .double) (t' := .array .double) (Or.inl (wd hw 28 _ rfl)) (Or.inl (wd hw 11 _ rfl)) (by decide) (by decide) (by decide)))
  have F179 := F162.other W170 (Or.inr (slot_ne (a0 := a0) (t := .int) (t' := .array .double) (Or.inr (wd hw 30 _ rfl)) (Or.inl (wd hw 11 _ rfl)) (by decide) (by decide) (by decide)))
  have F180 := F163.other W170 (Or.inr (slot_ne (a0 := a0) (t := .int) (t' := .array .double) (Or.inr (wd hw 32 _ rfl)) (Or.inl (wd hw 11 _ rfl)) (by decide) (by decide) (by decide)))
  have F181 := F164.other W170 (Or.inr (slot_ne (a0 := a0) (t := .int) (t' := .array .double) (Or.inl (wd hw 39 _ rfl)) (Or.inl (wd hw 11 _ rfl)) (by decide) (by decide) (by decide)))
  have F182 := F165.other W170 (Or.inr (slot_ne (a0 := a0) (t := .array .int) (t' := .array .double) (Or.inl (wd hw 86 _ rfl)) (Or.inl (wd hw 11 _ rfl)) (by decide) (by decide) (by decide)))
  have F183 := F166.other W170 (Or.inr (slot_ne (a0 := a0) (t := .long) (t' := .array .double) (Or.inl (wd hw 111 _ rfl)) (Or.inl (wd hw 11 _ rfl)) (by decide) (by decide) (by decide)))
  have F184 := F167.other W170 (Or.inr (slot_ne (a0 := a0) (t := .int) (t' := .array .double) (Or.inl (wd hw 113 _ rfl)) (Or.inl (wd hw 11 _ rfl)) (by decide) (by decide) (by decide)))
  have F185 := F168.other W170 (Or.inr (slot_ne (a0 := a0) (t := .int) (t' := .array .double) (Or.inl (wd hw 120 _ rfl)) (Or.inl (wd hw 11 _ rfl)) (by decide) (by decide) (by decide)))
  have F186 := A149.other W170 ((ne150).symm)
  have Z187 : n0 ≤ h170.size := by rw [W170.size]; exact Z169
  have K188 := K153.wr W170 (Or.inl (by simp))
  refine Go.via st170 ?_
  show Go p e below _ (T170.setTop (mkF m 11 #[.val (.ref a1), .val (.int (1 : Int32))] []))
  refine s_aloadN X170 hx (hb hby d0_11) rfl rfl 12 rfl ?_
  refine s_iconst X170 hx (hb hby d0_12) (0 : Int32) rfl 13 rfl ?_
  obtain ⟨T189, h189, c189, X189, e189, E189, A189, st189⟩ := s_newarray X170 hx hZ (aty := .long) (wd hw 12 _ rfl) e170 (hb hby d0_13) #[.val (.ref a1), .val (.int (1 : Int32))] [.ref a1] (n := (0 : Int32)) 0 (by decide) [] rfl (by decide) (by decide) (by decide) 15 rfl
  obtain ⟨a189, g189⟩ : ∃ z, z = h170.size := ⟨_, rfl⟩
  rw [← g189] at A189 st189
  have ne190 : a1 ≠ a189 := by rw [g189]; exact Nat.ne_of_lt F172.lt
  have ne191 : a149 ≠ a189 := by rw [g189]; exact Nat.ne_of_lt F186.lt
  have q192 : n0 ≤ a189 := by rw [g189]; exact Z187
  have q193 : h0.size ≤ a189 := by rw [g189]; exact K188.1
  have K194 := K188.ext E189
  have F195 := F172.ext E189
  have F196 := F171.ext E189
  have F197 := F173.ext E189
  have F198 := F174.ext E189
  have F199 := F175.ext E189
  have F200 := F176.ext E189
  have F201 := F177.ext E189
  have F202 := F178.ext E189
  have F203 := F179.ext E189
  have F204 := F180.ext E189
  have F205 := F181.ext E189
  have F206 := F182.ext E189
  have F207 := F183.ext E189
  have F208 := F184.ext E189
  have F209 := F185.ext E189
  have F210 := F186.ext E189
  have Z211 := Nat.le_trans Z187 E189.1
  refine Go.via st189 ?_
  obtain ⟨T212, h212, X212, e212, W212, st212⟩ := putF X189 hx hZ hown (host := "") (Or.inl (wd hw 13 _ rfl)) Via.refl e189 F197 F195 (Or.inl (wd hw 14 _ rfl)) (wd hw 1 _ rfl) (ty := .array .long) (by decide) rfl rfl (g := (mkF m 15 #[.val (.ref a1), .val (.int (1 : Int32))] [.ref a189, .ref a1])) rfl rfl (hb hby d0_15)
  have N212 := Fr.snoc X212 N170 g1
  have F213 := F197.same W212
  have F214 := F195.wr W212
  have F215 := F196.other W212 (Or.inr (slot_ne (a0 := a0) (t := .array .double) (t' := .array .long) (Or.inl (wd hw 11 _ rfl)) (Or.inl (wd hw 14 _ rfl)) (by decide) (by decide) (by decide)))
  have F216 := F198.other W212 (Or.inr (slot_ne (a0 := a0) (t := .array .double) (t' := .array .long) (Or.inl (wd hw 16 _ rfl)) (Or.inl (wd hw 14 _ rfl)) (by decide) (by decide) (by decide)))
  have F217 := F199.other W212 (Or.inr (slot_ne (a0 := a0) (t := .array (.object "java/lang/Object")) (t' := .array .long) (Or.inl (wd hw 20 _ rfl)) (Or.inl (wd hw 14 _ rfl)) (by decide) (by decide) (by decide)))
  have F218 := F200.other W212 (Or.inr (slot_ne (a0 := a0) (t := .double) (t' := .array .long) (Or.inl (wd hw 23 _ rfl)) (Or.inl (wd hw 14 _ rfl)) (by decide) (by decide) (by decide)))
  have F219 := F201.other W212 (Or.inr (slot_ne (a0 := a0) (t := .array .int) (t' := .array .long) (Or.inl (wd hw 26 _ rfl)) (Or.inl (wd hw 14 _ rfl)) (by decide) (by decide) (by decide)))
  have F220 := F202.other W212 (Or.inr (slot_ne (a0 := a0) (t := .array .double) (t' := .array .long) (Or.inl (wd hw 28 _ rfl)) (Or.inl (wd hw 14 _ rfl)) (by decide) (by decide) (by decide)))
  have F221 := F203.other W212 (Or.inr (slot_ne (a0 := a0) (t := .int) (t' := .array .long) (Or.inr (wd hw 30 _ rfl)) (Or.inl (wd hw 14 _ rfl)) (by decide) (by decide) (by decide)))
  have F222 := F204.other W212 (Or.inr (slot_ne (a0 := a0) (t := .int) (t' := .array .long) (Or.inr (wd hw 32 _ rfl)) (Or.inl (wd hw 14 _ rfl)) (by decide) (by decide) (by decide)))
  have F223 := F205.other W212 (Or.inr (slot_ne (a0 := a0) (t := .int) (t' := .array .long) (Or.inl (wd hw 39 _ rfl)) (Or.inl (wd hw 14 _ rfl)) (by decide) (by decide) (by decide)))
  have F224 := F206.other W212 (Or.inr (slot_ne (a0 := a0) (t := .array .int) (t' := .array .long) (Or.inl (wd hw 86 _ rfl)) (Or.inl (wd hw 14 _ rfl)) (by decide) (by decide) (by decide)))
  have F225 := F207.other W212 (Or.inr (slot_ne (a0 := a0) (t := .long) (t' := .array .long) (Or.inl (wd hw 111 _ rfl)) (Or.inl (wd hw 14 _ rfl)) (by decide) (by decide) (by decide)))
  have F226 := F208.other W212 (Or.inr (slot_ne (a0 := a0) (t := .int) (t' := .array .long) (Or.inl (wd hw 113 _ rfl)) (Or.inl (wd hw 14 _ rfl)) (by decide) (by decide) (by decide)))
  have F227 := F209.other W212 (Or.inr (slot_ne (a0 := a0) (t := .int) (t' := .array .long) (Or.inl (wd hw 120 _ rfl)) (Or.inl (wd hw 14 _ rfl)) (by decide) (by decide) (by decide)))
  have F228 := F210.other W212 ((ne150).symm)
  have F229 := A189.other W212 ((ne190).symm)
  have Z230 : n0 ≤ h212.size := by rw [W212.size]; exact Z211
  have K231 := K194.wr W212 (Or.inl (by simp))
  refine Go.via st212 ?_
  show Go p e below _ (T212.setTop (mkF m 18 #[.val (.ref a1), .val (.int (1 : Int32))] []))
  refine s_aloadN X212 hx (hb hby d0_18) rfl rfl 19 rfl ?_
  refine s_iconst X212 hx (hb hby d0_19) (0 : Int32) rfl 20 rfl ?_
  obtain ⟨T232, h232, c232, X232, e232, E232, A232, st232⟩ := s_newarray X212 hx hZ (aty := .double) (wd hw 9 _ rfl) e212 (hb hby d0_20) #[.val (.ref a1), .val (.int (1 : Int32))] [.ref a1] (n := (0 : Int32)) 0 (by decide) [] rfl (by decide) (by decide) (by decide) 22 rfl
  obtain ⟨a232, g232⟩ : ∃ z, z = h212.size := ⟨_, rfl⟩
  rw [← g232] at A232 st232
  have ne233 : a1 ≠ a232 := by rw [g232]; exact Nat.ne_of_lt F214.lt
  have ne234 : a149 ≠ a232 := by rw [g232]; exact Nat.ne_of_lt F228.lt
  have ne235 : a189 ≠ a232 := by rw [g232]; exact Nat.ne_of_lt F229.lt
  have q236 : n0 ≤ a232 := by rw [g232]; exact Z230
  have q237 : h0.size ≤ a232 := by rw [g232]; exact K231.1
  have K238 := K231.ext E232
  have F239 := F214.ext E232
  have F240 := F215.ext E232
  have F241 := F213.ext E232
  have F242 := F216.ext E232
  have F243 := F217.ext E232
  have F244 := F218.ext E232
  have F245 := F219.ext E232
  have F246 := F220.ext E232
  have F247 := F221.ext E232
  have F248 := F222.ext E232
  have F249 := F223.ext E232
  have F250 := F224.ext E232
  have F251 := F225.ext E232
  have F252 := F226.ext E232
  have F253 := F227.ext E232
  have F254 := F228.ext E232
  have F255 := F229.ext E232
  have Z256 := Nat.le_trans Z230 E232.1
  refine Go.via st232 ?_
  obtain ⟨T257, h257, X257, e257, W257, st257⟩ := putF X232 hx hZ hown (host := "") (Or.inl (wd hw 15 _ rfl)) Via.refl e232 F242 F239 (Or.inl (wd hw 16 _ rfl)) (wd hw 1 _ rfl) (ty := .array .double) (by decide) rfl rfl (g := (mkF m 22 #[.val (.ref a1), .val (.int (1 : Int32))] [.ref a232, .ref a1])) rfl rfl (hb hby d0_22)
  have N257 := Fr.snoc X257 N212 g1
  have F258 := F242.same W257
  have F259 := F239.wr W257
  have F260 := F240.other W257 (Or.inr (slot_ne (a0 := a0) (t := .array .double) (t' := .array .double) (Or.inl (wd hw 11 _ rfl)) (Or.inl (wd hw 16 _ rfl)) (by decide) (by decide) (by decide)))
  have F261 := F241.other W257 (Or.inr (slot_ne (a0 := a0) (t := .array .long) (t' := .array .double) (Or.inl (wd hw 14 _ rfl)) (Or.inl (wd hw 16 _ rfl)) (by decide) (by decide) (by decide)))
  have F262 := F243.other W257 (Or.inr (slot_ne (a0 := a0) (t := .array (.object "java/lang/Object")) (t' := .array .double) (Or.inl (wd hw 20 _ rfl)) (Or.inl (wd hw 16 _ rfl)) (by decide) (by decide) (by decide)))
  have F263 := F244.other W257 (Or.inr (slot_ne (a0 := a0) (t := .double) (t' := .array .double) (Or.inl (wd hw 23 _ rfl)) (Or.inl (wd hw 16 _ rfl)) (by decide) (by decide) (by decide)))
  have F264 := F245.other W257 (Or.inr (slot_ne (a0 := a0) (t := .array .int) (t' := .array .double) (Or.inl (wd hw 26 _ rfl)) (Or.inl (wd hw 16 _ rfl)) (by decide) (by decide) (by decide)))
  have F265 := F246.other W257 (Or.inr (slot_ne (a0 := a0) (t := .array .double) (t' := .array .double) (Or.inl (wd hw 28 _ rfl)) (Or.inl (wd hw 16 _ rfl)) (by decide) (by decide) (by decide)))
  have F266 := F247.other W257 (Or.inr (slot_ne (a0 := a0) (t := .int) (t' := .array .double) (Or.inr (wd hw 30 _ rfl)) (Or.inl (wd hw 16 _ rfl)) (by decide) (by decide) (by decide)))
  have F267 := F248.other W257 (Or.inr (slot_ne (a0 := a0) (t := .int) (t' := .array .double) (Or.inr (wd hw 32 _ rfl)) (Or.inl (wd hw 16 _ rfl)) (by decide) (by decide) (by decide)))
  have F268 := F249.other W257 (Or.inr (slot_ne (a0 := a0) (t := .int) (t' := .array .double) (Or.inl (wd hw 39 _ rfl)) (Or.inl (wd hw 16 _ rfl)) (by decide) (by decide) (by decide)))
  have F269 := F250.other W257 (Or.inr (slot_ne (a0 := a0) (t := .array .int) (t' := .array .double) (Or.inl (wd hw 86 _ rfl)) (Or.inl (wd hw 16 _ rfl)) (by decide) (by decide) (by decide)))
  have F270 := F251.other W257 (Or.inr (slot_ne (a0 := a0) (t := .long) (t' := .array .double) (Or.inl (wd hw 111 _ rfl)) (Or.inl (wd hw 16 _ rfl)) (by decide) (by decide) (by decide)))
  have F271 := F252.other W257 (Or.inr (slot_ne (a0 := a0) (t := .int) (t' := .array .double) (Or.inl (wd hw 113 _ rfl)) (Or.inl (wd hw 16 _ rfl)) (by decide) (by decide) (by decide)))
  have F272 := F253.other W257 (Or.inr (slot_ne (a0 := a0) (t := .int) (t' := .array .double) (Or.inl (wd hw 120 _ rfl)) (Or.inl (wd hw 16 _ rfl)) (by decide) (by decide) (by decide)))
  have F273 := F254.other W257 ((ne150).symm)
  have F274 := F255.other W257 ((ne190).symm)
  have F275 := A232.other W257 ((ne233).symm)
  have Z276 : n0 ≤ h257.size := by rw [W257.size]; exact Z256
  have K277 := K238.wr W257 (Or.inl (by simp))
  refine Go.via st257 ?_
  show Go p e below _ (T257.setTop (mkF m 25 #[.val (.ref a1), .val (.int (1 : Int32))] []))
  refine s_aloadN X257 hx (hb hby d0_25) rfl rfl 26 rfl ?_
  refine s_iconst X257 hx (hb hby d0_26) (0 : Int32) rfl 27 rfl ?_
  obtain ⟨T278, h278, c278, X278, e278, E278, A278, B278, st278⟩ := s_anewarrayE X257 hx hZ hown (wd hw 17 _ rfl) (wd hw 18 _ rfl) e257 (hb hby d0_27) #[.val (.ref a1), .val (.int (1 : Int32))] [.ref a1] (n := (0 : Int32)) 0 (by decide) [] rfl (by decide) (by decide) (by decide) 30 rfl "[Ljava/lang/Object;" (by decide)
  obtain ⟨a278, g278⟩ : ∃ z, z = h257.size := ⟨_, rfl⟩
  rw [← g278] at A278 B278 st278
  have ne279 : a1 ≠ a278 := by rw [g278]; exact Nat.ne_of_lt F259.lt
  have ne280 : a149 ≠ a278 := by rw [g278]; exact Nat.ne_of_lt F273.lt
  have ne281 : a189 ≠ a278 := by rw [g278]; exact Nat.ne_of_lt F274.lt
  have ne282 : a232 ≠ a278 := by rw [g278]; exact Nat.ne_of_lt F275.lt
  have q283 : n0 ≤ a278 := by rw [g278]; exact Z276
  have q284 : h0.size ≤ a278 := by rw [g278]; exact K277.1
  have K285 := K277.ext E278
  have F286 := F259.ext E278
  have F287 := F260.ext E278
  have F288 := F261.ext E278
  have F289 := F258.ext E278
  have F290 := F262.ext E278
  have F291 := F263.ext E278
  have F292 := F264.ext E278
  have F293 := F265.ext E278
  have F294 := F266.ext E278
  have F295 := F267.ext E278
  have F296 := F268.ext E278
  have F297 := F269.ext E278
  have F298 := F270.ext E278
  have F299 := F271.ext E278
  have F300 := F272.ext E278
  have F301 := F273.ext E278
  have F302 := F274.ext E278
  have F303 := F275.ext E278
  have Z304 := Nat.le_trans Z276 E278.1
  refine Go.via st278 ?_
  obtain ⟨T305, h305, X305, e305, W305, st305⟩ := putF X278 hx hZ hown (host := "") (Or.inl (wd hw 19 _ rfl)) Via.refl e278 F290 F286 (Or.inl (wd hw 20 _ rfl)) (wd hw 1 _ rfl) (ty := .array (.object "java/lang/Object")) (by decide) rfl rfl (g := (mkF m 30 #[.val (.ref a1), .val (.int (1 : Int32))] [.ref a278, .ref a1])) rfl rfl (hb hby d0_30)
  have N305 := Fr.snoc X305 N257 g1
  have F306 := F290.same W305
  have F307 := F286.wr W305
  have F308 := F287.other W305 (Or.inr (slot_ne (a0 := a0) (t := .array .double) (t' := .array (.object "java/lang/Object")) (Or.inl (wd hw 11 _ rfl)) (Or.inl (wd hw 20 _ rfl)) (by decide) (by decide) (by decide)))
  have F309 := F288.other W305 (Or.inr (slot_ne (a0 := a0) (t := .array .long) (t' := .array (.object "java/lang/Object")) (Or.inl (wd hw 14 _ rfl)) (Or.inl (wd hw 20 _ rfl)) (by decide) (by decide) (by decide)))
  have F310 := F289.other W305 (Or.inr (slot_ne (a0 := a0) (t := .array .double) (t' := .array (.object "java/lang/Object")) (Or.inl (wd hw 16 _ rfl)) (Or.inl (wd hw 20 _ rfl)) (by decide) (by decide) (by decide)))
  have F311 := F291.other W305 (Or.inr (slot_ne (a0 := a0) (t := .double) (t' := .array (.object "java/lang/Object")) (Or.inl (wd hw 23 _ rfl)) (Or.inl (wd hw 20 _ rfl)) (by decide) (by decide) (by decide)))
  have F312 := F292.other W305 (Or.inr (slot_ne (a0 := a0) (t := .array .int) (t' := .array (.object "java/lang/Object")) (Or.inl (wd hw 26 _ rfl)) (Or.inl (wd hw 20 _ rfl)) (by decide) (by decide) (by decide)))
  have F313 := F293.other W305 (Or.inr (slot_ne (a0 := a0) (t := .array .double) (t' := .array (.object "java/lang/Object")) (Or.inl (wd hw 28 _ rfl)) (Or.inl (wd hw 20 _ rfl)) (by decide) (by decide) (by decide)))
  have F314 := F294.other W305 (Or.inr (slot_ne (a0 := a0) (t := .int) (t' := .array (.object "java/lang/Object")) (Or.inr (wd hw 30 _ rfl)) (Or.inl (wd hw 20 _ rfl)) (by decide) (by decide) (by decide)))
  have F315 := F295.other W305 (Or.inr (slot_ne (a0 := a0) (t := .int) (t' := .array (.object "java/lang/Object")) (Or.inr (wd hw 32 _ rfl)) (Or.inl (wd hw 20 _ rfl)) (by decide) (by decide) (by decide)))
  have F316 := F296.other W305 (Or.inr (slot_ne (a0 := a0) (t := .int) (t' := .array (.object "java/lang/Object")) (Or.inl (wd hw 39 _ rfl)) (Or.inl (wd hw 20 _ rfl)) (by decide) (by decide) (by decide)))
  have F317 := F297.other W305 (Or.inr (slot_ne (a0 := a0) (t := .array .int) (t' := .array (.object "java/lang/Object")) (Or.inl (wd hw 86 _ rfl)) (Or.inl (wd hw 20 _ rfl)) (by decide) (by decide) (by decide)))
  have F318 := F298.other W305 (Or.inr (slot_ne (a0 := a0) (t := .long) (t' := .array (.object "java/lang/Object")) (Or.inl (wd hw 111 _ rfl)) (Or.inl (wd hw 20 _ rfl)) (by decide) (by decide) (by decide)))
  have F319 := F299.other W305 (Or.inr (slot_ne (a0 := a0) (t := .int) (t' := .array (.object "java/lang/Object")) (Or.inl (wd hw 113 _ rfl)) (Or.inl (wd hw 20 _ rfl)) (by decide) (by decide) (by decide)))
  have F320 := F300.other W305 (Or.inr (slot_ne (a0 := a0) (t := .int) (t' := .array (.object "java/lang/Object")) (Or.inl (wd hw 120 _ rfl)) (Or.inl (wd hw 20 _ rfl)) (by decide) (by decide) (by decide)))
  have F321 := F301.other W305 ((ne150).symm)
  have F322 := F302.other W305 ((ne190).symm)
  have F323 := F303.other W305 ((ne233).symm)
  have F324 := A278.other W305 ((ne279).symm)
  have F325 := B278.wr W305
  have Z326 : n0 ≤ h305.size := by rw [W305.size]; exact Z304
  have K327 := K285.wr W305 (Or.inl (by simp))
  refine Go.via st305 ?_
  show Go p e below _ (T305.setTop (mkF m 33 #[.val (.ref a1), .val (.int (1 : Int32))] []))
  refine s_aloadN X305 hx (hb hby d0_33) rfl rfl 34 rfl ?_
  refine s_ldc2D X305 hx (hb hby d0_34) hZ hown (wd hw 21 _ rfl) 37 rfl ?_
  obtain ⟨T328, h328, X328, e328, W328, st328⟩ := putF X305 hx hZ hown (host := "") (Or.inl (wd hw 22 _ rfl)) Via.refl e305 F311 F307 (Or.inl (wd hw 23 _ rfl)) (wd hw 1 _ rfl) (ty := .double) (by decide) rfl rfl (g := (mkF m 37 #[.val (.ref a1), .val (.int (1 : Int32))] [.double (18442240474082181120 : UInt64), .ref a1])) rfl rfl (hb hby d0_37)
  have N328 := Fr.snoc X328 N305 g1
  have F329 := F311.same W328
  have F330 := F307.wr W328
  have F331 := F308.other W328 (Or.inr (slot_ne (a0 := a0) (t := .array .double) (t' := .double) (Or.inl (wd hw 11 _ rfl)) (Or.inl (wd hw 23 _ rfl)) (by decide) (by decide) (by decide)))
  have F332 := F309.other W328 (Or.inr (slot_ne (a0 := a0) (t := .array .long) (t' := .double) (Or.inl (wd hw 14 _ rfl)) (Or.inl (wd hw 23 _ rfl)) (by decide) (by decide) (by decide)))
  have F333 := F310.other W328 (Or.inr (slot_ne (a0 := a0) (t := .array .double) (t' := .double) (Or.inl (wd hw 16 _ rfl)) (Or.inl (wd hw 23 _ rfl)) (by decide) (by decide) (by decide)))
  have F334 := F306.other W328 (Or.inr (slot_ne (a0 := a0) (t := .array (.object "java/lang/Object")) (t' := .double) (Or.inl (wd hw 20 _ rfl)) (Or.inl (wd hw 23 _ rfl)) (by decide) (by decide) (by decide)))
  have F335 := F312.other W328 (Or.inr (slot_ne (a0 := a0) (t := .array .int) (t' := .double) (Or.inl (wd hw 26 _ rfl)) (Or.inl (wd hw 23 _ rfl)) (by decide) (by decide) (by decide)))
  have F336 := F313.other W328 (Or.inr (slot_ne (a0 := a0) (t := .array .double) (t' := .double) (Or.inl (wd hw 28 _ rfl)) (Or.inl (wd hw 23 _ rfl)) (by decide) (by decide) (by decide)))
  have F337 := F314.other W328 (Or.inr (slot_ne (a0 := a0) (t := .int) (t' := .double) (Or.inr (wd hw 30 _ rfl)) (Or.inl (wd hw 23 _ rfl)) (by decide) (by decide) (by decide)))
  have F338 := F315.other W328 (Or.inr (slot_ne (a0 := a0) (t := .int) (t' := .double) (Or.inr (wd hw 32 _ rfl)) (Or.inl (wd hw 23 _ rfl)) (by decide) (by decide) (by decide)))
  have F339 := F316.other W328 (Or.inr (slot_ne (a0 := a0) (t := .int) (t' := .double) (Or.inl (wd hw 39 _ rfl)) (Or.inl (wd hw 23 _ rfl)) (by decide) (by decide) (by decide)))
  have F340 := F317.other W328 (Or.inr (slot_ne (a0 := a0) (t := .array .int) (t' := .double) (Or.inl (wd hw 86 _ rfl)) (Or.inl (wd hw 23 _ rfl)) (by decide) (by decide) (by decide)))
  have F341 := F318.other W328 (Or.inr (slot_ne (a0 := a0) (t := .long) (t' := .double) (Or.inl (wd hw 111 _ rfl)) (Or.inl (wd hw 23 _ rfl)) (by decide) (by decide) (by decide)))
  have F342 := F319.other W328 (Or.inr (slot_ne (a0 := a0) (t := .int) (t' := .double) (Or.inl (wd hw 113 _ rfl)) (Or.inl (wd hw 23 _ rfl)) (by decide) (by decide) (by decide)))
  have F343 := F320.other W328 (Or.inr (slot_ne (a0 := a0) (t := .int) (t' := .double) (Or.inl (wd hw 120 _ rfl)) (Or.inl (wd hw 23 _ rfl)) (by decide) (by decide) (by decide)))
  have F344 := F321.other W328 ((ne150).symm)
  have F345 := F322.other W328 ((ne190).symm)
  have F346 := F323.other W328 ((ne233).symm)
  have F347 := F324.other W328 ((ne279).symm)
  have F348 := F325.wr W328
  have Z349 : n0 ≤ h328.size := by rw [W328.size]; exact Z326
  have K350 := K327.wr W328 (Or.inl (by simp))
  refine Go.via st328 ?_
  show Go p e below _ (T328.setTop (mkF m 40 #[.val (.ref a1), .val (.int (1 : Int32))] []))
  refine s_aloadN X328 hx (hb hby d0_40) rfl rfl 41 rfl ?_
  refine s_iconst X328 hx (hb hby d0_41) (0 : Int32) rfl 42 rfl ?_
  obtain ⟨T351, h351, c351, X351, e351, E351, A351, st351⟩ := s_newarray X328 hx hZ (aty := .int) (wd hw 24 _ rfl) e328 (hb hby d0_42) #[.val (.ref a1), .val (.int (1 : Int32))] [.ref a1] (n := (0 : Int32)) 0 (by decide) [] rfl (by decide) (by decide) (by decide) 44 rfl
  obtain ⟨a351, g351⟩ : ∃ z, z = h328.size := ⟨_, rfl⟩
  rw [← g351] at A351 st351
  have ne352 : a1 ≠ a351 := by rw [g351]; exact Nat.ne_of_lt F330.lt
  have ne353 : a149 ≠ a351 := by rw [g351]; exact Nat.ne_of_lt F344.lt
  have ne354 : a189 ≠ a351 := by rw [g351]; exact Nat.ne_of_lt F345.lt
  have ne355 : a232 ≠ a351 := by rw [g351]; exact Nat.ne_of_lt F346.lt
  have ne356 : a278 ≠ a351 := by rw [g351]; exact Nat.ne_of_lt F347.lt
  have q357 : n0 ≤ a351 := by rw [g351]; exact Z349
  have q358 : h0.size ≤ a351 := by rw [g351]; exact K350.1
  have K359 := K350.ext E351
  have F360 := F330.ext E351
  have F361 := F331.ext E351
  have F362 := F332.ext E351
  have F363 := F333.ext E351
  have F364 := F334.ext E351
  have F365 := F329.ext E351
  have F366 := F335.ext E351
  have F367 := F336.ext E351
  have F368 := F337.ext E351
  have F369 := F338.ext E351
  have F370 := F339.ext E351
  have F371 := F340.ext E351
  have F372 := F341.ext E351
  have F373 := F342.ext E351
  have F374 := F343.ext E351
  have F375 := F344.ext E351
  have F376 := F345.ext E351
  have F377 := F346.ext E351
  have F378 := F347.ext E351
  have F379 := F348.ext E351
  have Z380 := Nat.le_trans Z349 E351.1
  refine Go.via st351 ?_
  obtain ⟨T381, h381, X381, e381, W381, st381⟩ := putF X351 hx hZ hown (host := "") (Or.inl (wd hw 25 _ rfl)) Via.refl e351 F366 F360 (Or.inl (wd hw 26 _ rfl)) (wd hw 1 _ rfl) (ty := .array .int) (by decide) rfl rfl (g := (mkF m 44 #[.val (.ref a1), .val (.int (1 : Int32))] [.ref a351, .ref a1])) rfl rfl (hb hby d0_44)
  have N381 := Fr.snoc X381 N328 g1
  have F382 := F366.same W381
  have F383 := F360.wr W381
  have F384 := F361.other W381 (Or.inr (slot_ne (a0 := a0) (t := .array .double) (t' := .array .int) (Or.inl (wd hw 11 _ rfl)) (Or.inl (wd hw 26 _ rfl)) (by decide) (by decide) (by decide)))
  have F385 := F362.other W381 (Or.inr (slot_ne (a0 := a0) (t := .array .long) (t' := .array .int) (Or.inl (wd hw 14 _ rfl)) (Or.inl (wd hw 26 _ rfl)) (by decide) (by decide) (by decide)))
  have F386 := F363.other W381 (Or.inr (slot_ne (a0 := a0) (t := .array .double) (t' := .array .int) (Or.inl (wd hw 16 _ rfl)) (Or.inl (wd hw 26 _ rfl)) (by decide) (by decide) (by decide)))
  have F387 := F364.other W381 (Or.inr (slot_ne (a0 := a0) (t := .array (.object "java/lang/Object")) (t' := .array .int) (Or.inl (wd hw 20 _ rfl)) (Or.inl (wd hw 26 _ rfl)) (by decide) (by decide) (by decide)))
  have F388 := F365.other W381 (Or.inr (slot_ne (a0 := a0) (t := .double) (t' := .array .int) (Or.inl (wd hw 23 _ rfl)) (Or.inl (wd hw 26 _ rfl)) (by decide) (by decide) (by decide)))
  have F389 := F367.other W381 (Or.inr (slot_ne (a0 := a0) (t := .array .double) (t' := .array .int) (Or.inl (wd hw 28 _ rfl)) (Or.inl (wd hw 26 _ rfl)) (by decide) (by decide) (by decide)))
  have F390 := F368.other W381 (Or.inr (slot_ne (a0 := a0) (t := .int) (t' := .array .int) (Or.inr (wd hw 30 _ rfl)) (Or.inl (wd hw 26 _ rfl)) (by decide) (by decide) (by decide)))
  have F391 := F369.other W381 (Or.inr (slot_ne (a0 := a0) (t := .int) (t' := .array .int) (Or.inr (wd hw 32 _ rfl)) (Or.inl (wd hw 26 _ rfl)) (by decide) (by decide) (by decide)))
  have F392 := F370.other W381 (Or.inr (slot_ne (a0 := a0) (t := .int) (t' := .array .int) (Or.inl (wd hw 39 _ rfl)) (Or.inl (wd hw 26 _ rfl)) (by decide) (by decide) (by decide)))
  have F393 := F371.other W381 (Or.inr (slot_ne (a0 := a0) (t := .array .int) (t' := .array .int) (Or.inl (wd hw 86 _ rfl)) (Or.inl (wd hw 26 _ rfl)) (by decide) (by decide) (by decide)))
  have F394 := F372.other W381 (Or.inr (slot_ne (a0 := a0) (t := .long) (t' := .array .int) (Or.inl (wd hw 111 _ rfl)) (Or.inl (wd hw 26 _ rfl)) (by decide) (by decide) (by decide)))
  have F395 := F373.other W381 (Or.inr (slot_ne (a0 := a0) (t := .int) (t' := .array .int) (Or.inl (wd hw 113 _ rfl)) (Or.inl (wd hw 26 _ rfl)) (by decide) (by decide) (by decide)))
  have F396 := F374.other W381 (Or.inr (slot_ne (a0 := a0) (t := .int) (t' := .array .int) (Or.inl (wd hw 120 _ rfl)) (Or.inl (wd hw 26 _ rfl)) (by decide) (by decide) (by decide)))
  have F397 := F375.other W381 ((ne150).symm)
  have F398 := F376.other W381 ((ne190).symm)
  have F399 := F377.other W381 ((ne233).symm)
  have F400 := F378.other W381 ((ne279).symm)
  have F401 := F379.wr W381
  have F402 := A351.other W381 ((ne352).symm)
  have Z403 : n0 ≤ h381.size := by rw [W381.size]; exact Z380
  have K404 := K359.wr W381 (Or.inl (by simp))
  refine Go.via st381 ?_
  show Go p e below _ (T381.setTop (mkF m 47 #[.val (.ref a1), .val (.int (1 : Int32))] []))
  refine s_aloadN X381 hx (hb hby d0_47) rfl rfl 48 rfl ?_
  refine s_iconst X381 hx (hb hby d0_48) (0 : Int32) rfl 49 rfl ?_
  obtain ⟨T405, h405, c405, X405, e405, E405, A405, st405⟩ := s_newarray X381 hx hZ (aty := .double) (wd hw 9 _ rfl) e381 (hb hby d0_49) #[.val (.ref a1), .val (.int (1 : Int32))] [.ref a1] (n := (0 : Int32)) 0 (by decide) [] rfl (by decide) (by decide) (by decide) 51 rfl
  obtain ⟨a405, g405⟩ : ∃ z, z = h381.size := ⟨_, rfl⟩
  rw [← g405] at A405 st405
  have ne406 : a1 ≠ a405 := by rw [g405]; exact Nat.ne_of_lt F383.lt
  have ne407 : a149 ≠ a405 := by rw [g405]; exact Nat.ne_of_lt F397.lt
  have ne408 : a189 ≠ a405 := by rw [g405]; exact Nat.ne_of_lt F398.lt
  have ne409 : a232 ≠ a405 := by rw [g405]; exact Nat.ne_of_lt F399.lt
  have ne410 : a278 ≠ a405 := by rw [g405]; exact Nat.ne_of_lt F400.lt
  have ne411 : a351 ≠ a405 := by rw [g405]; exact Nat.ne_of_lt F402.lt
  have q412 : n0 ≤ a405 := by rw [g405]; exact Z403
  have q413 : h0.size ≤ a405 := by rw [g405]; exact K404.1
  have K414 := K404.ext E405
  have F415 := F383.ext E405
  have F416 := F384.ext E405
  have F417 := F385.ext E405
  have F418 := F386.ext E405
  have F419 := F387.ext E405
  have F420 := F388.ext E405
  have F421 := F382.ext E405
  have F422 := F389.ext E405
  have F423 := F390.ext E405
  have F424 := F391.ext E405
  have F425 := F392.ext E405
  have F426 := F393.ext E405
  have F427 := F394.ext E405
  have F428 := F395.ext E405
  have F429 := F396.ext E405
  have F430 := F397.ext E405
  have F431 := F398.ext E405
  have F432 := F399.ext E405
  have F433 := F400.ext E405
  have F434 := F401.ext E405
  have F435 := F402.ext E405
  have Z436 := Nat.le_trans Z403 E405.1
  refine Go.via st405 ?_
  obtain ⟨T437, h437, X437, e437, W437, st437⟩ := putF X405 hx hZ hown (host := "") (Or.inl (wd hw 27 _ rfl)) Via.refl e405 F422 F415 (Or.inl (wd hw 28 _ rfl)) (wd hw 1 _ rfl) (ty := .array .double) (by decide) rfl rfl (g := (mkF m 51 #[.val (.ref a1), .val (.int (1 : Int32))] [.ref a405, .ref a1])) rfl rfl (hb hby d0_51)
  have N437 := Fr.snoc X437 N381 g1
  have F438 := F422.same W437
  have F439 := F415.wr W437
  have F440 := F416.other W437 (Or.inr (slot_ne (a0 := a0) (t := .array .double) (t' := .array .double) (Or.inl (wd hw 11 _ rfl)) (Or.inl (wd hw 28 _ rfl)) (by decide) (by decide) (by decide)))
  have F441 := F417.other W437 (Or.inr (slot_ne (a0 := a0) (t := .array .long) (t' := .array .double) (Or.inl (wd hw 14 _ rfl)) (Or.inl (wd hw 28 _ rfl)) (by decide) (by decide) (by decide)))
  have F442 := F418.other W437 (Or.inr (slot_ne (a0 := a0) (t := .array .double) (t' := .array .double) (Or.inl (wd hw 16 _ rfl)) (Or.inl (wd hw 28 _ rfl)) (by decide) (by decide) (by decide)))
  have F443 := F419.other W437 (Or.inr (slot_ne (a0 := a0) (t := .array (.object "java/lang/Object")) (t' := .array .double) (Or.inl (wd hw 20 _ rfl)) (Or.inl (wd hw 28 _ rfl)) (by decide) (by decide) (by decide)))
  have F444 := F420.other W437 (Or.inr (slot_ne (a0 := a0) (t := .double) (t' := .array .double) (Or.inl (wd hw 23 _ rfl)) (Or.inl (wd hw 28 _ rfl)) (by decide) (by decide) (by decide)))
  have F445 := F421.other W437 (Or.inr (slot_ne (a0 := a0) (t := .array .int) (t' := .array .double) (Or.inl (wd hw 26 _ rfl)) (Or.inl (wd hw 28 _ rfl)) (by decide) (by decide) (by decide)))
  have F446 := F423.other W437 (Or.inr (slot_ne (a0 := a0) (t := .int) (t' := .array .double) (Or.inr (wd hw 30 _ rfl)) (Or.inl (wd hw 28 _ rfl)) (by decide) (by decide) (by decide)))
  have F447 := F424.other W437 (Or.inr (slot_ne (a0 := a0) (t := .int) (t' := .array .double) (Or.inr (wd hw 32 _ rfl)) (Or.inl (wd hw 28 _ rfl)) (by decide) (by decide) (by decide)))
  have F448 := F425.other W437 (Or.inr (slot_ne (a0 := a0) (t := .int) (t' := .array .double) (Or.inl (wd hw 39 _ rfl)) (Or.inl (wd hw 28 _ rfl)) (by decide) (by decide) (by decide)))
  have F449 := F426.other W437 (Or.inr (slot_ne (a0 := a0) (t := .array .int) (t' := .array .double) (Or.inl (wd hw 86 _ rfl)) (Or.inl (wd hw 28 _ rfl)) (by decide) (by decide) (by decide)))
  have F450 := F427.other W437 (Or.inr (slot_ne (a0 := a0) (t := .long) (t' := .array .double) (Or.inl (wd hw 111 _ rfl)) (Or.inl (wd hw 28 _ rfl)) (by decide) (by decide) (by decide)))
  have F451 := F428.other W437 (Or.inr (slot_ne (a0 := a0) (t := .int) (t' := .array .double) (Or.inl (wd hw 113 _ rfl)) (Or.inl (wd hw 28 _ rfl)) (by decide) (by decide) (by decide)))
  have F452 := F429.other W437 (Or.inr (slot_ne (a0 := a0) (t := .int) (t' := .array .double) (Or.inl (wd hw 120 _ rfl)) (Or.inl (wd hw 28 _ rfl)) (by decide) (by decide) (by decide)))
  have F453 := F430.other W437 ((ne150).symm)
  have F454 := F431.other W437 ((ne190).symm)
  have F455 := F432.other W437 ((ne233).symm)
  have F456 := F433.other W437 ((ne279).symm)
  have F457 := F434.wr W437
  have F458 := F435.other W437 ((ne352).symm)
  have F459 := A405.other W437 ((ne406).symm)
  have Z460 : n0 ≤ h437.size := by rw [W437.size]; exact Z436
  have K461 := K414.wr W437 (Or.inl (by simp))
  refine Go.via st437 ?_
  show Go p e below _ (T437.setTop (mkF m 54 #[.val (.ref a1), .val (.int (1 : Int32))] []))
  refine s_aloadN X437 hx (hb hby d0_54) rfl rfl 55 rfl ?_
  refine s_iloadN X437 hx (hb hby d0_55) rfl 56 rfl ?_
  obtain ⟨T462, h462, X462, e462, W462, st462⟩ := putF X437 hx hZ hown (host := "") (Or.inl (wd hw 29 _ rfl)) Via.refl e437 F446 F439 (Or.inr ⟨(wd hw 30 _ rfl), rfl, hnm⟩) (wd hw 1 _ rfl) (ty := .int) (by decide) rfl rfl (g := (mkF m 56 #[.val (.ref a1), .val (.int (1 : Int32))] [.int (1 : Int32), .ref a1])) rfl rfl (hb hby d0_56)
  have N462 := Fr.snoc X462 N437 g1
  have F463 := F446.same W462
  have F464 := F439.wr W462
  have F465 := F440.other W462 (Or.inr (slot_ne (a0 := a0) (t := .array .double) (t' := .int) (Or.inl (wd hw 11 _ rfl)) (Or.inr (wd hw 30 _ rfl)) (by decide) (by decide) (by decide)))
  have F466 := F441.other W462 (Or.inr (slot_ne (a0 := a0) (t := .array .long) (t' := .int) (Or.inl (wd hw 14 _ rfl)) (Or.inr (wd hw 30 _ rfl)) (by decide) (by decide) (by decide)))
  have F467 := F442.other W462 (Or.inr (slot_ne (a0 := a0) (t := .array .double) (t' := .int) (Or.inl (wd hw 16 _ rfl)) (Or.inr (wd hw 30 _ rfl)) (by decide) (by decide) (by decide)))
  have F468 := F443.other W462 (Or.inr (slot_ne (a0 := a0) (t := .array (.object "java/lang/Object")) (t' := .int) (Or.inl (wd hw 20 _ rfl)) (Or.inr (wd hw 30 _ rfl)) (by decide) (by decide) (by decide)))
  have F469 := F444.other W462 (Or.inr (slot_ne (a0 := a0) (t := .double) (t' := .int) (Or.inl (wd hw 23 _ rfl)) (Or.inr (wd hw 30 _ rfl)) (by decide) (by decide) (by decide)))
  have F470 := F445.other W462 (Or.inr (slot_ne (a0 := a0) (t := .array .int) (t' := .int) (Or.inl (wd hw 26 _ rfl)) (Or.inr (wd hw 30 _ rfl)) (by decide) (by decide) (by decide)))
  have F471 := F438.other W462 (Or.inr (slot_ne (a0 := a0) (t := .array .double) (t' := .int) (Or.inl (wd hw 28 _ rfl)) (Or.inr (wd hw 30 _ rfl)) (by decide) (by decide) (by decide)))
  have F472 := F447.other W462 (Or.inr (slot_ne (a0 := a0) (t := .int) (t' := .int) (Or.inr (wd hw 32 _ rfl)) (Or.inr (wd hw 30 _ rfl)) (by decide) (by decide) (by decide)))
  have F473 := F448.other W462 (Or.inr (slot_ne (a0 := a0) (t := .int) (t' := .int) (Or.inl (wd hw 39 _ rfl)) (Or.inr (wd hw 30 _ rfl)) (by decide) (by decide) (by decide)))
  have F474 := F449.other W462 (Or.inr (slot_ne (a0 := a0) (t := .array .int) (t' := .int) (Or.inl (wd hw 86 _ rfl)) (Or.inr (wd hw 30 _ rfl)) (by decide) (by decide) (by decide)))
  have F475 := F450.other W462 (Or.inr (slot_ne (a0 := a0) (t := .long) (t' := .int) (Or.inl (wd hw 111 _ rfl)) (Or.inr (wd hw 30 _ rfl)) (by decide) (by decide) (by decide)))
  have F476 := F451.other W462 (Or.inr (slot_ne (a0 := a0) (t := .int) (t' := .int) (Or.inl (wd hw 113 _ rfl)) (Or.inr (wd hw 30 _ rfl)) (by decide) (by decide) (by decide)))
  have F477 := F452.other W462 (Or.inr (slot_ne (a0 := a0) (t := .int) (t' := .int) (Or.inl (wd hw 120 _ rfl)) (Or.inr (wd hw 30 _ rfl)) (by decide) (by decide) (by decide)))
  have F478 := F453.other W462 ((ne150).symm)
  have F479 := F454.other W462 ((ne190).symm)
  have F480 := F455.other W462 ((ne233).symm)
  have F481 := F456.other W462 ((ne279).symm)
  have F482 := F457.wr W462
  have F483 := F458.other W462 ((ne352).symm)
  have F484 := F459.other W462 ((ne406).symm)
  have Z485 : n0 ≤ h462.size := by rw [W462.size]; exact Z460
  have K486 := K461.wr W462 (Or.inl (by simp))
  refine Go.via st462 ?_
  show Go p e below _ (T462.setTop (mkF m 59 #[.val (.ref a1), .val (.int (1 : Int32))] []))
  refine s_aloadN X462 hx (hb hby d0_59) rfl rfl 60 rfl ?_
  refine s_iconst X462 hx (hb hby d0_60) (2 : Int32) rfl 61 rfl ?_
  refine s_iloadN X462 hx (hb hby d0_61) rfl 62 rfl ?_
  refine s_imul X462 hx (hb hby d0_62) (2 : Int32) rfl 63 rfl ?_
  obtain ⟨T487, h487, X487, e487, W487, st487⟩ := putF X462 hx hZ hown (host := "") (Or.inl (wd hw 31 _ rfl)) Via.refl e462 F472 F464 (Or.inr ⟨(wd hw 32 _ rfl), rfl, hnm⟩) (wd hw 1 _ rfl) (ty := .int) (by decide) rfl rfl (g := (mkF m 63 #[.val (.ref a1), .val (.int (1 : Int32))] [.int (2 : Int32), .ref a1])) rfl rfl (hb hby d0_63)
  have N487 := Fr.snoc X487 N462 g1
  have F488 := F472.same W487
  have F489 := F464.wr W487
  have F490 := F465.other W487 (Or.inr (slot_ne (a0 := a0) (t := .array .double) (t' := .int) (Or.inl (wd hw 11 _ rfl)) (Or.inr (wd hw 32 _ rfl)) (by decide) (by decide) (by decide)))
  have F491 := F466.other W487 (Or.inr (slot_ne (a0 := a0) (t := .array .long) (t' := .int) (Or.inl (wd hw 14 _ rfl)) (Or.inr (wd hw 32 _ rfl)) (by decide) (by decide) (by decide)))
  have F492 := F467.other W487 (Or.inr (slot_ne (a0 := a0) (t := .array .double) (t' := .int) (Or.inl (wd hw 16 _ rfl)) (Or.inr (wd hw 32 _ rfl)) (by decide) (by decide) (by decide)))
  have F493 := F468.other W487 (Or.inr (slot_ne (a0 := a0) (t := .array (.object "java/lang/Object")) (t' := .int) (Or.inl (wd hw 20 _ rfl)) (Or.inr (wd hw 32 _ rfl)) (by decide) (by decide) (by decide)))
  have F494 := F469.other W487 (Or.inr (slot_ne (a0 := a0) (t := .double) (t' := .int) (Or.inl (wd hw 23 _ rfl)) (Or.inr (wd hw 32 _ rfl)) (by decide) (by decide) (by decide)))
  have F495 := F470.other W487 (Or.inr (slot_ne (a0 := a0) (t := .array .int) (t' := .int) (Or.inl (wd hw 26 _ rfl)) (Or.inr (wd hw 32 _ rfl)) (by decide) (by decide) (by decide)))
  have F496 := F471.other W487 (Or.inr (slot_ne (a0 := a0) (t := .array .double) (t' := .int) (Or.inl (wd hw 28 _ rfl)) (Or.inr (wd hw 32 _ rfl)) (by decide) (by decide) (by decide)))
  have F497 := F463.other W487 (Or.inr (slot_ne (a0 := a0) (t := .int) (t' := .int) (Or.inr (wd hw 30 _ rfl)) (Or.inr (wd hw 32 _ rfl)) (by decide) (by decide) (by decide)))
  have F498 := F473.other W487 (Or.inr (slot_ne (a0 := a0) (t := .int) (t' := .int) (Or.inl (wd hw 39 _ rfl)) (Or.inr (wd hw 32 _ rfl)) (by decide) (by decide) (by decide)))
  have F499 := F474.other W487 (Or.inr (slot_ne (a0 := a0) (t := .array .int) (t' := .int) (Or.inl (wd hw 86 _ rfl)) (Or.inr (wd hw 32 _ rfl)) (by decide) (by decide) (by decide)))
  have F500 := F475.other W487 (Or.inr (slot_ne (a0 := a0) (t := .long) (t' := .int) (Or.inl (wd hw 111 _ rfl)) (Or.inr (wd hw 32 _ rfl)) (by decide) (by decide) (by decide)))
  have F501 := F476.other W487 (Or.inr (slot_ne (a0 := a0) (t := .int) (t' := .int) (Or.inl (wd hw 113 _ rfl)) (Or.inr (wd hw 32 _ rfl)) (by decide) (by decide) (by decide)))
  have F502 := F477.other W487 (Or.inr (slot_ne (a0 := a0) (t := .int) (t' := .int) (Or.inl (wd hw 120 _ rfl)) (Or.inr (wd hw 32 _ rfl)) (by decide) (by decide) (by decide)))
  have F503 := F478.other W487 ((ne150).symm)
  have F504 := F479.other W487 ((ne190).symm)
  have F505 := F480.other W487 ((ne233).symm)
  have F506 := F481.other W487 ((ne279).symm)
  have F507 := F482.wr W487
  have F508 := F483.other W487 ((ne352).symm)
  have F509 := F484.other W487 ((ne406).symm)
  have Z510 : n0 ≤ h487.size := by rw [W487.size]; exact Z485
  have K511 := K486.wr W487 (Or.inl (by simp))
  refine Go.via st487 ?_
  show Go p e below _ (T487.setTop (mkF m 66 #[.val (.ref a1), .val (.int (1 : Int32))] []))
  exact retV X487 hx hlk hret (hb hby d0_66) e487 ⟨a149, a189, a232, a278, _, _, _, _, rfl, N487, K511, q152, q193, q237, q284, F490, F491, F492, F493, F494, F497, F488, F498, F499, F500, F501, F502, F503, F504, F505, F506, F507⟩ (by decide) (by decide)
theorem d4_0 : decode prog_15_method_23_code 0 = .ok (.aload_n 0, 1) := by decide +kernel
theorem d4_1 : decode prog_15_method_23_code 1 = .ok (.getfield 43, 3) := by decide +kernel
theorem d4_4 : decode prog_15_method_23_code 4 = .ok (.i2l, 1) := by decide +kernel
theorem d4_5 : decode prog_15_method_23_code 5 = .ok (.ldc2_w 156, 3) := by decide +kernel
theorem d4_8 : decode prog_15_method_23_code 8 = .ok (.ldc2_w 158, 3) := by decide +kernel
theorem d4_11 : decode prog_15_method_23_code 11 = .ok (.aload_n 0, 1) := by decide +kernel
theorem d4_12 : decode prog_15_method_23_code 12 = .ok (.getfield 7, 3) := by decide +kernel
theorem d4_15 : decode prog_15_method_23_code 15 = .ok (.arraylength, 1) := by decide +kernel
theorem d4_16 : decode prog_15_method_23_code 16 = .ok (.i2l, 1) := by decide +kernel
theorem d4_17 : decode prog_15_method_23_code 17 = .ok (.lmul, 1) := by decide +kernel
theorem d4_18 : decode prog_15_method_23_code 18 = .ok (.invokestatic 160, 3) := by decide +kernel
theorem d4_21 : decode prog_15_method_23_code 21 = .ok (.invokestatic 126, 3) := by decide +kernel
theorem d4_24 : decode prog_15_method_23_code 24 = .ok (.l2i, 1) := by decide +kernel
theorem d4_25 : decode prog_15_method_23_code 25 = .ok (.istore_n 1, 1) := by decide +kernel
theorem d4_26 : decode prog_15_method_23_code 26 = .ok (.aload_n 0, 1) := by decide +kernel
theorem d4_27 : decode prog_15_method_23_code 27 = .ok (.aload_n 0, 1) := by decide +kernel
theorem d4_28 : decode prog_15_method_23_code 28 = .ok (.getfield 7, 3) := by decide +kernel
theorem d4_31 : decode prog_15_method_23_code 31 = .ok (.iload_n 1, 1) := by decide +kernel
theorem d4_32 : decode prog_15_method_23_code 32 = .ok (.invokestatic 162, 3) := by decide +kernel
theorem d4_35 : decode prog_15_method_23_code 35 = .ok (.putfield 7, 3) := by decide +kernel
theorem d4_38 : decode prog_15_method_23_code 38 = .ok (.aload_n 0, 1) := by decide +kernel
theorem d4_39 : decode prog_15_method_23_code 39 = .ok (.aload_n 0, 1) := by decide +kernel
theorem d4_40 : decode prog_15_method_23_code 40 = .ok (.getfield 13, 3) := by decide +kernel
theorem d4_43 : decode prog_15_method_23_code 43 = .ok (.iload_n 1, 1) := by decide +kernel
theorem d4_44 : decode prog_15_method_23_code 44 = .ok (.invokestatic 166, 3) := by decide +kernel
theorem d4_47 : decode prog_15_method_23_code 47 = .ok (.putfield 13, 3) := by decide +kernel
theorem d4_50 : decode prog_15_method_23_code 50 = .ok (.aload_n 0, 1) := by decide +kernel
theorem d4_51 : decode prog_15_method_23_code 51 = .ok (.aload_n 0, 1) := by decide +kernel
theorem d4_52 : decode prog_15_method_23_code 52 = .ok (.getfield 17, 3) := by decide +kernel
theorem d4_55 : decode prog_15_method_23_code 55 = .ok (.iload_n 1, 1) := by decide +kernel
theorem d4_56 : decode prog_15_method_23_code 56 = .ok (.invokestatic 162, 3) := by decide +kernel
theorem d4_59 : decode prog_15_method_23_code 59 = .ok (.putfield 17, 3) := by decide +kernel
theorem d4_62 : decode prog_15_method_23_code 62 = .ok (.aload_n 0, 1) := by decide +kernel
theorem d4_63 : decode prog_15_method_23_code 63 = .ok (.aload_n 0, 1) := by decide +kernel
theorem d4_64 : decode prog_15_method_23_code 64 = .ok (.getfield 20, 3) := by decide +kernel
theorem d4_67 : decode prog_15_method_23_code 67 = .ok (.iload_n 1, 1) := by decide +kernel
theorem d4_68 : decode prog_15_method_23_code 68 = .ok (.invokestatic 169, 3) := by decide +kernel
theorem d4_71 : decode prog_15_method_23_code 71 = .ok (.putfield 20, 3) := by decide +kernel
theorem d4_74 : decode prog_15_method_23_code 74 = .ok (.return_, 1) := by decide +kernel
theorem pd_4 : parseMethodDescriptor "()V" = some ⟨[], none⟩ := by decide +kernel
theorem pn_4 : plainFor (⟨"com/example/priorsum/priorsum/RankedRows", "grow", "()V"⟩ : MethodName) = true := plainFor_of_name (by show plainName "com/example/priorsum/priorsum/RankedRows" = true; first | (simp [plainName, overriddenIn]; done) | decide +kernel)
set_option maxRecDepth 65536 in
set_option maxHeartbeats 40000000 in
theorem c_grow (l : Launch) (Z : State) (a0 : Array Value) (hw : ∀ d ∈ tables_1, d.before a0 Z = true) (ws : List Jvm.Cond) (a1 aP aI aW aT mr : Addr) (kP kI kW kT : ClassId) (h0 : Heap) (n0 : Nat) (Z0 : n0 ≤ h0.size) (E1 : Exa Z h0 a1 "com/example/priorsum/priorsum/RankedRows") (g1 : n0 ≤ a1) (F_priorities : Fld Z h0 a1 "com/example/priorsum/priorsum/RankedRows" "priorities" "[D" (.ref aP)) (F_indices : Fld Z h0 a1 "com/example/priorsum/priorsum/RankedRows" "indices" "[J" (.ref aI)) (F_weights : Fld Z h0 a1 "com/example/priorsum/priorsum/RankedRows" "weights" "[D" (.ref aW)) (F_items : Fld Z h0 a1 "com/example/priorsum/priorsum/RankedRows" "items" "[Ljava/lang/Object;" (.ref aT)) (F_floor : Fld Z h0 a1 "com/example/priorsum/priorsum/RankedRows" "floor" "D" (.double (18442240474082181120 : UInt64))) (F_keep : Fld Z h0 a1 "com/example/priorsum/priorsum/RankedRows" "keep" "I" (.int (1 : Int32))) (F_capacity : Fld Z h0 a1 "com/example/priorsum/priorsum/RankedRows" "capacity" "I" (.int (2 : Int32))) (F_held : Fld Z h0 a1 "com/example/priorsum/priorsum/RankedRows" "held" "I" (.int (0 : Int32))) (F_counts : Fld Z h0 a1 "com/example/priorsum/priorsum/RankedRows" "counts" "[I" (.null)) (F_base : Fld Z h0 a1 "com/example/priorsum/priorsum/RankedRows" "base" "J" (.long (0 : Int64))) (F_floorBucket : Fld Z h0 a1 "com/example/priorsum/priorsum/RankedRows" "floorBucket" "I" (.int (0 : Int32))) (F_above : Fld Z h0 a1 "com/example/priorsum/priorsum/RankedRows" "above" "I" (.int (0 : Int32))) (A_aP : AR Z h0 aP kP .double []) (A_aI : AR Z h0 aI kI .long []) (A_aW : AR Z h0 aW kW .double []) (A_aT : AR Z h0 aT kT (.object "java/lang/Object") []) (E_aT : Exa Z h0 aT "[Ljava/lang/Object;") (ne_a1_aP : a1 ≠ aP) (ne_a1_aI : a1 ≠ aI) (ne_a1_aW : a1 ≠ aW) (ne_a1_aT : a1 ≠ aT) (Mm : Mi Z "[Ljava/lang/Object;" mr) :
    Ct l Z (⟨"com/example/priorsum/priorsum/RankedRows", "grow", "()V"⟩ : MethodName) prog_15_method_23_code 2 none ws ({ frames := 3, cells := 4, slots := 8, locals := 69 } : Room) #[.ref a1] h0 (fun v h L => ∃ bP bI bW bT jP jI jW jT, v = none ∧ Fr n0 L ∧ Keep h0 h [a1] ∧ h0.size ≤ bP ∧ h0.size ≤ bI ∧ h0.size ≤ bW ∧ h0.size ≤ bT ∧ bP ≠ bI ∧ bP ≠ bW ∧ bP ≠ bT ∧ bI ≠ bW ∧ bI ≠ bT ∧ bW ≠ bT ∧ Fld Z h a1 "com/example/priorsum/priorsum/RankedRows" "priorities" "[D" (.ref bP) ∧ Fld Z h a1 "com/example/priorsum/priorsum/RankedRows" "indices" "[J" (.ref bI) ∧ Fld Z h a1 "com/example/priorsum/priorsum/RankedRows" "weights" "[D" (.ref bW) ∧ Fld Z h a1 "com/example/priorsum/priorsum/RankedRows" "items" "[Ljava/lang/Object;" (.ref bT) ∧ Fld Z h a1 "com/example/priorsum/priorsum/RankedRows" "floor" "D" (.double (18442240474082181120 : UInt64)) ∧ Fld Z h a1 "com/example/priorsum/priorsum/RankedRows" "keep" "I" (.int (1 : Int32)) ∧ Fld Z h a1 "com/example/priorsum/priorsum/RankedRows" "capacity" "I" (.int (2 : Int32)) ∧ Fld Z h a1 "com/example/priorsum/priorsum/RankedRows" "held" "I" (.int (0 : Int32)) ∧ Fld Z h a1 "com/example/priorsum/priorsum/RankedRows" "counts" "[I" (.null) ∧ Fld Z h a1 "com/example/priorsum/priorsum/RankedRows" "base" "J" (.long (0 : Int64)) ∧ Fld Z h a1 "com/example/priorsum/priorsum/RankedRows" "floorBucket" "I" (.int (0 : Int32)) ∧ Fld Z h a1 "com/example/priorsum/priorsum/RankedRows" "above" "I" (.int (0 : Int32)) ∧ AR Z h bP jP (.double) [.double (0 : UInt64), .double (0 : UInt64)] ∧ AR Z h bI jI (.long) [.long (0 : Int64), .long (0 : Int64)] ∧ AR Z h bW jW (.double) [.double (0 : UInt64), .double (0 : UInt64)] ∧ AR Z h bT jT (.object "java/lang/Object") [.null, .null]) := by
  refine Ct.intro pn_4 #[.val (.ref a1), .unset] (fun _ => by first | (simp [entryFrame, mkF, argsToLocals, Value.category, maxLocals]; done) | rfl) ?_
  intro p e s m below meth c T0 X0 hx hZ hby hml hown hnm hret hlk e0
  have N0 := Fr.nil n0
  have K0 := Keep.refl h0 [a1]
  refine s_aloadN X0 hx (hb hby d4_0) rfl rfl 1 rfl ?_
  obtain ⟨T512, X512, e512, st512⟩ := getF X0 hx hZ hown (host := "") (Or.inl (wd hw 31 _ rfl)) Via.refl e0 F_capacity (g := (mkF m 1 #[.val (.ref a1), .unset] [.ref a1])) rfl rfl (hb hby d4_1)
  refine Go.via st512 ?_
  show Go p e below _ (T512.setTop (mkF m 4 #[.val (.ref a1), .unset] [.int (2 : Int32)]))
  refine s_i2l X512 hx (hb hby d4_4) (2 : Int64) rfl 5 rfl ?_
  refine s_ldc2J X512 hx (hb hby d4_5) hZ hown (wd hw 48 _ rfl) 8 rfl ?_
  refine s_ldc2J X512 hx (hb hby d4_8) hZ hown (wd hw 49 _ rfl) 11 rfl ?_
  refine s_aloadN X512 hx (hb hby d4_11) rfl rfl 12 rfl ?_
  obtain ⟨T513, X513, e513, st513⟩ := getF X512 hx hZ hown (host := "") (Or.inl (wd hw 10 _ rfl)) Via.refl e512 F_priorities (g := (mkF m 12 #[.val (.ref a1), .unset] [.ref a1, .long (2 : Int64), .long (16 : Int64), .long (2 : Int64)])) rfl rfl (hb hby d4_12)
  refine Go.via st513 ?_
  show Go p e below _ (T513.setTop (mkF m 15 #[.val (.ref a1), .unset] [.ref aP, .long (2 : Int64), .long (16 : Int64), .long (2 : Int64)]))
  refine s_len X513 hx hZ e513 A_aP (hb hby d4_15) (0 : Int32) rfl 16 rfl ?_
  refine s_i2l X513 hx (hb hby d4_16) (0 : Int64) rfl 17 rfl ?_
  refine s_lmul X513 hx (hb hby d4_17) (0 : Int64) rfl 18 rfl ?_
  obtain ⟨v514, T514, L514, X514, hQ514, st514⟩ := callStat X513 hx hZ hown (wd hw 50 _ rfl) (wd hw 51 _ rfl) (wd hw 52 _ rfl) (wd hw 53 _ rfl) (by decide) (c_maxJ l Z a0 hw [] h0 n0 Z0) e513 (L := #[.val (.ref a1), .unset]) (hb hby d4_18) (by rw [hml]; rfl) [.long (16 : Int64), .long (0 : Int64)] [.long (2 : Int64)] rfl rfl pd_5 rfl 2 (by show 2 * 0 + _ ≤ _; exact Nat.le_of_eq rfl) (by decide) (by decide) (by decide) (by decide)
  obtain ⟨rfl, N514, hh514⟩ := hQ514
  have M514 := Fr.app N0 N514
  refine Go.via st514 ?_
  show Go p e below _ (T514.setTop (mkF m 21 #[.val (.ref a1), .unset] [.long (16 : Int64), .long (2 : Int64)]))
  obtain ⟨v515, T515, L515, X515, hQ515, st515⟩ := callStat X514 hx hZ hown (wd hw 54 _ rfl) (wd hw 55 _ rfl) (wd hw 52 _ rfl) (wd hw 56 _ rfl) (by decide) (c_minJ1 l Z a0 hw [] h0 n0 Z0) hh514 (L := #[.val (.ref a1), .unset]) (hb hby d4_21) (by rw [hml]; rfl) [.long (2 : Int64), .long (16 : Int64)] [] rfl rfl pd_6 rfl 0 (by show 2 * 0 + _ ≤ _; exact Nat.le_of_eq rfl) (by decide) (by decide) (by decide) (by decide)
  obtain ⟨rfl, N515, hh515⟩ := hQ515
  have M515 := Fr.app M514 N515
  refine Go.via st515 ?_
  show Go p e below _ (T515.setTop (mkF m 24 #[.val (.ref a1), .unset] [.long (2 : Int64)]))
  refine s_l2i X515 hx (hb hby d4_24) (2 : Int32) rfl 25 rfl ?_
  refine s_istoreN X515 hx (hb hby d4_25) #[.val (.ref a1), .val (.int (2 : Int32))] rfl 26 rfl ?_
  refine s_aloadN X515 hx (hb hby d4_26) rfl rfl 27 rfl ?_
  refine s_aloadN X515 hx (hb hby d4_27) rfl rfl 28 rfl ?_
  obtain ⟨T516, X516, e516, st516⟩ := getF X515 hx hZ hown (host := "") (Or.inl (wd hw 10 _ rfl)) Via.refl hh515 F_priorities (g := (mkF m 28 #[.val (.ref a1), .val (.int (2 : Int32))] [.ref a1, .ref a1])) rfl rfl (hb hby d4_28)
  refine Go.via st516 ?_
  show Go p e below _ (T516.setTop (mkF m 31 #[.val (.ref a1), .val (.int (2 : Int32))] [.ref aP, .ref a1]))
  refine s_iloadN X516 hx (hb hby d4_31) rfl 32 rfl ?_
  obtain ⟨v517, T517, L517, X517, hQ517, st517⟩ := callStat X516 hx hZ hown (wd hw 57 _ rfl) (wd hw 58 _ rfl) (wd hw 59 _ rfl) (wd hw 60 _ rfl) (by decide) (c_copyD l Z a0 hw [] aP kP h0 n0 Z0 A_aP) e516 (L := #[.val (.ref a1), .val (.int (2 : Int32))]) (hb hby d4_32) (by rw [hml]; rfl) [.ref aP, .int (2 : Int32)] [.ref a1] rfl rfl pd_7 rfl 1 (by show 2 * 0 + _ ≤ _; exact Nat.le_of_eq rfl) (by decide) (by decide) (by decide) (by decide)
  obtain ⟨a517, c517, rfl, N517, K517, g517, A517⟩ := hQ517
  have M517 := Fr.app M515 N517
  have ne518 : a1 ≠ a517 := Nat.ne_of_lt (Nat.lt_of_lt_of_le E1.lt g517)
  have ne519 : aP ≠ a517 := Nat.ne_of_lt (Nat.lt_of_lt_of_le A_aP.lt g517)
  have ne520 : aI ≠ a517 := Nat.ne_of_lt (Nat.lt_of_lt_of_le A_aI.lt g517)
  have ne521 : aW ≠ a517 := Nat.ne_of_lt (Nat.lt_of_lt_of_le A_aW.lt g517)
  have ne522 : aT ≠ a517 := Nat.ne_of_lt (Nat.lt_of_lt_of_le A_aT.lt g517)
  have q523 : n0 ≤ a517 := Nat.le_trans Z0 g517
  have q524 : h0.size ≤ a517 := Nat.le_trans K0.1 g517
  have K525 := K0.trans K517 all0
  have F526 := E1.keep K517
  have F527 := F_priorities.keep K517 nin0
  have F528 := F_indices.keep K517 nin0
  have F529 := F_weights.keep K517 nin0
  have F530 := F_items.keep K517 nin0
  have F531 := F_floor.keep K517 nin0
  have F532 := F_keep.keep K517 nin0
  have F533 := F_capacity.keep K517 nin0
  have F534 := F_held.keep K517 nin0
  have F535 := F_counts.keep K517 nin0
  have F536 := F_base.keep K517 nin0
  have F537 := F_floorBucket.keep K517 nin0
  have F538 := F_above.keep K517 nin0
  have F539 := A_aP.keep K517 nin0
  have F540 := A_aI.keep K517 nin0
  have F541 := A_aW.keep K517 nin0
  have F542 := A_aT.keep K517 nin0
  have F543 := E_aT.keep K517
  have Z544 := Nat.le_trans Z0 K517.1
  have e517 : T517.heap = T517.heap := rfl
  refine Go.via st517 ?_
  show Go p e below _ (T517.setTop (mkF m 35 #[.val (.ref a1), .val (.int (2 : Int32))] [.ref a517, .ref a1]))
  obtain ⟨T545, h545, X545, e545, W545, st545⟩ := putF X517 hx hZ hown (host := "") (Or.inl (wd hw 10 _ rfl)) Via.refl e517 F527 F526 (Or.inl (wd hw 11 _ rfl)) (wd hw 1 _ rfl) (ty := .array .double) (by decide) rfl rfl (g := (mkF m 35 #[.val (.ref a1), .val (.int (2 : Int32))] [.ref a517, .ref a1])) rfl rfl (hb hby d4_35)
  have N545 := Fr.snoc X545 M517 g1
  have F546 := F527.same W545
  have F547 := F526.wr W545
  have F548 := F528.other W545 (Or.inr (slot_ne (a0 := a0) (t := .array .long) (t' := .array .double) (Or.inl (wd hw 14 _ rfl)) (Or.inl (wd hw 11 _ rfl)) (by decide) (by decide) (by decide)))
  have F549 := F529.other W545 (Or.inr (slot_ne (a0 := a0) (t := .array .double) (t' := .array .double) (Or.inl (wd hw 16 _ rfl)) (Or.inl (wd hw 11 _ rfl)) (by decide) (by decide) (by decide)))
  have F550 := F530.other W545 (Or.inr (slot_ne (a0 := a0) (t := .array (.object "java/lang/Object")) (t' := .array .double) (Or.inl (wd hw 20 _ rfl)) (Or.inl (wd hw 11 _ rfl)) (by decide) (by decide) (by decide)))
  have F551 := F531.other W545 (Or.inr (slot_ne (a0 := a0) (t := .double) (t' := .array .double) (Or.inl (wd hw 23 _ rfl)) (Or.inl (wd hw 11 _ rfl)) (by decide) (by decide) (by decide)))
  have F552 := F532.other W545 (Or.inr (slot_ne (a0 := a0) (t := .int) (t' := .array .double) (Or.inr (wd hw 30 _ rfl)) (Or.inl (wd hw 11 _ rfl)) (by decide) (by decide) (by decide)))
  have F553 := F533.other W545 (Or.inr (slot_ne (a0 := a0) (t := .int) (t' := .array .double) (Or.inr (wd hw 32 _ rfl)) (Or.inl (wd hw 11 _ rfl)) (by decide) (by decide) (by decide)))
  have F554 := F534.other W545 (Or.inr (slot_ne (a0 := a0) (t := .int) (t' := .array .double) (Or.inl (wd hw 39 _ rfl)) (Or.inl (wd hw 11 _ rfl)) (by decide) (by decide) (by decide)))
  have F555 := F535.other W545 (Or.inr (slot_ne (a0 := a0) (t := .array .int) (t' := .array .double) (Or.inl (wd hw 86 _ rfl)) (Or.inl (wd hw 11 _ rfl)) (by decide) (by decide) (by decide)))
  have F556 := F536.other W545 (Or.inr (slot_ne (a0 := a0) (t := .long) (t' := .array .double) (Or.inl (wd hw 111 _ rfl)) (Or.inl (wd hw 11 _ rfl)) (by decide) (by decide) (by decide)))
  have F557 := F537.other W545 (Or.inr (slot_ne (a0 := a0) (t := .int) (t' := .array .double) (Or.inl (wd hw 113 _ rfl)) (Or.inl (wd hw 11 _ rfl)) (by decide) (by decide) (by decide)))
  have F558 := F538.other W545 (Or.inr (slot_ne (a0 := a0) (t := .int) (t' := .array .double) (Or.inl (wd hw 120 _ rfl)) (Or.inl (wd hw 11 _ rfl)) (by decide) (by decide) (by decide)))
  have F559 := F539.other W545 ((ne_a1_aP).symm)
  have F560 := F540.other W545 ((ne_a1_aI).symm)
  have F561 := F541.other W545 ((ne_a1_aW).symm)
  have F562 := F542.other W545 ((ne_a1_aT).symm)
  have F563 := F543.wr W545
  have F564 := A517.other W545 ((ne518).symm)
  have Z565 : n0 ≤ h545.size := by rw [W545.size]; exact Z544
  have K566 := K525.wr W545 (Or.inl (by simp))
  refine Go.via st545 ?_
  show Go p e below _ (T545.setTop (mkF m 38 #[.val (.ref a1), .val (.int (2 : Int32))] []))
  refine s_aloadN X545 hx (hb hby d4_38) rfl rfl 39 rfl ?_
  refine s_aloadN X545 hx (hb hby d4_39) rfl rfl 40 rfl ?_
  obtain ⟨T567, X567, e567, st567⟩ := getF X545 hx hZ hown (host := "") (Or.inl (wd hw 13 _ rfl)) Via.refl e545 F548 (g := (mkF m 40 #[.val (.ref a1), .val (.int (2 : Int32))] [.ref a1, .ref a1])) rfl rfl (hb hby d4_40)
  refine Go.via st567 ?_
  show Go p e below _ (T567.setTop (mkF m 43 #[.val (.ref a1), .val (.int (2 : Int32))] [.ref aI, .ref a1]))
  refine s_iloadN X567 hx (hb hby d4_43) rfl 44 rfl ?_
  obtain ⟨v568, T568, L568, X568, hQ568, st568⟩ := callStat X567 hx hZ hown (wd hw 68 _ rfl) (wd hw 69 _ rfl) (wd hw 59 _ rfl) (wd hw 70 _ rfl) (by decide) (c_copyJ l Z a0 hw [] aI kI h545 n0 Z565 F560) e567 (L := #[.val (.ref a1), .val (.int (2 : Int32))]) (hb hby d4_44) (by rw [hml]; rfl) [.ref aI, .int (2 : Int32)] [.ref a1] rfl rfl pd_9 rfl 1 (by show 2 * 0 + _ ≤ _; exact Nat.le_of_eq rfl) (by decide) (by decide) (by decide) (by decide)
  obtain ⟨a568, c568, rfl, N568, K568, g568, A568⟩ := hQ568
  have M568 := Fr.app N545 N568
  have ne569 : a1 ≠ a568 := Nat.ne_of_lt (Nat.lt_of_lt_of_le F547.lt g568)
  have ne570 : aP ≠ a568 := Nat.ne_of_lt (Nat.lt_of_lt_of_le F559.lt g568)
  have ne571 : aI ≠ a568 := Nat.ne_of_lt (Nat.lt_of_lt_of_le F560.lt g568)
  have ne572 : aW ≠ a568 := Nat.ne_of_lt (Nat.lt_of_lt_of_le F561.lt g568)
  have ne573 : aT ≠ a568 := Nat.ne_of_lt (Nat.lt_of_lt_of_le F562.lt g568)
  have ne574 : a517 ≠ a568 := Nat.ne_of_lt (Nat.lt_of_lt_of_le F564.lt g568)
  have q575 : n0 ≤ a568 := Nat.le_trans Z565 g568
  have q576 : h0.size ≤ a568 := Nat.le_trans K566.1 g568
  have K577 := K566.trans K568 all0
  have F578 := F547.keep K568
  have F579 := F546.keep K568 nin0
  have F580 := F548.keep K568 nin0
  have F581 := F549.keep K568 nin0
  have F582 := F550.keep K568 nin0
  have F583 := F551.keep K568 nin0
  have F584 := F552.keep K568 nin0
  have F585 := F553.keep K568 nin0
  have F586 := F554.keep K568 nin0
  have F587 := F555.keep K568 nin0
  have F588 := F556.keep K568 nin0
  have F589 := F557.keep K568 nin0
  have F590 := F558.keep K568 nin0
  have F591 := F559.keep K568 nin0
  have F592 := F560.keep K568 nin0
  have F593 := F561.keep K568 nin0
  have F594 := F562.keep K568 nin0
  have F595 := F563.keep K568
  have F596 := F564.keep K568 nin0
  have Z597 := Nat.le_trans Z565 K568.1
  have e568 : T568.heap = T568.heap := rfl
  refine Go.via st568 ?_
  show Go p e below _ (T568.setTop (mkF m 47 #[.val (.ref a1), .val (.int (2 : Int32))] [.ref a568, .ref a1]))
  obtain ⟨T598, h598, X598, e598, W598, st598⟩ := putF X568 hx hZ hown (host := "") (Or.inl (wd hw 13 _ rfl)) Via.refl e568 F580 F578 (Or.inl (wd hw 14 _ rfl)) (wd hw 1 _ rfl) (ty := .array .long) (by decide) rfl rfl (g := (mkF m 47 #[.val (.ref a1), .val (.int (2 : Int32))] [.ref a568, .ref a1])) rfl rfl (hb hby d4_47)
  have N598 := Fr.snoc X598 M568 g1
  have F599 := F580.same W598
  have F600 := F578.wr W598
  have F601 := F579.other W598 (Or.inr (slot_ne (a0 := a0) (t := .array .double) (t' := .array .long) (Or.inl (wd hw 11 _ rfl)) (Or.inl (wd hw 14 _ rfl)) (by decide) (by decide) (by decide)))
  have F602 := F581.other W598 (Or.inr (slot_ne (a0 := a0) (t := .array .double) (t' := .array .long) (Or.inl (wd hw 16 _ rfl)) (Or.inl (wd hw 14 _ rfl)) (by decide) (by decide) (by decide)))
  have F603 := F582.other W598 (Or.inr (slot_ne (a0 := a0) (t := .array (.object "java/lang/Object")) (t' := .array .long) (Or.inl (wd hw 20 _ rfl)) (Or.inl (wd hw 14 _ rfl)) (by decide) (by decide) (by decide)))
  have F604 := F583.other W598 (Or.inr (slot_ne (a0 := a0) (t := .double) (t' := .array .long) (Or.inl (wd hw 23 _ rfl)) (Or.inl (wd hw 14 _ rfl)) (by decide) (by decide) (by decide)))
  have F605 := F584.other W598 (Or.inr (slot_ne (a0 := a0) (t := .int) (t' := .array .long) (Or.inr (wd hw 30 _ rfl)) (Or.inl (wd hw 14 _ rfl)) (by decide) (by decide) (by decide)))
  have F606 := F585.other W598 (Or.inr (slot_ne (a0 := a0) (t := .int) (t' := .array .long) (Or.inr (wd hw 32 _ rfl)) (Or.inl (wd hw 14 _ rfl)) (by decide) (by decide) (by decide)))
  have F607 := F586.other W598 (Or.inr (slot_ne (a0 := a0) (t := .int) (t' := .array .long) (Or.inl (wd hw 39 _ rfl)) (Or.inl (wd hw 14 _ rfl)) (by decide) (by decide) (by decide)))
  have F608 := F587.other W598 (Or.inr (slot_ne (a0 := a0) (t := .array .int) (t' := .array .long) (Or.inl (wd hw 86 _ rfl)) (Or.inl (wd hw 14 _ rfl)) (by decide) (by decide) (by decide)))
  have F609 := F588.other W598 (Or.inr (slot_ne (a0 := a0) (t := .long) (t' := .array .long) (Or.inl (wd hw 111 _ rfl)) (Or.inl (wd hw 14 _ rfl)) (by decide) (by decide) (by decide)))
  have F610 := F589.other W598 (Or.inr (slot_ne (a0 := a0) (t := .int) (t' := .array .long) (Or.inl (wd hw 113 _ rfl)) (Or.inl (wd hw 14 _ rfl)) (by decide) (by decide) (by decide)))
  have F611 := F590.other W598 (Or.inr (slot_ne (a0 := a0) (t := .int) (t' := .array .long) (Or.inl (wd hw 120 _ rfl)) (Or.inl (wd hw 14 _ rfl)) (by decide) (by decide) (by decide)))
  have F612 := F591.other W598 ((ne_a1_aP).symm)
  have F613 := F592.other W598 ((ne_a1_aI).symm)
  have F614 := F593.other W598 ((ne_a1_aW).symm)
  have F615 := F594.other W598 ((ne_a1_aT).symm)
  have F616 := F595.wr W598
  have F617 := F596.other W598 ((ne518).symm)
  have F618 := A568.other W598 ((ne569).symm)
  have Z619 : n0 ≤ h598.size := by rw [W598.size]; exact Z597
  have K620 := K577.wr W598 (Or.inl (by simp))
  refine Go.via st598 ?_
  show Go p e below _ (T598.setTop (mkF m 50 #[.val (.ref a1), .val (.int (2 : Int32))] []))
  refine s_aloadN X598 hx (hb hby d4_50) rfl rfl 51 rfl ?_
  refine s_aloadN X598 hx (hb hby d4_51) rfl rfl 52 rfl ?_
  obtain ⟨T621, X621, e621, st621⟩ := getF X598 hx hZ hown (host := "") (Or.inl (wd hw 15 _ rfl)) Via.refl e598 F602 (g := (mkF m 52 #[.val (.ref a1), .val (.int (2 : Int32))] [.ref a1, .ref a1])) rfl rfl (hb hby d4_52)
  refine Go.via st621 ?_
  show Go p e below _ (T621.setTop (mkF m 55 #[.val (.ref a1), .val (.int (2 : Int32))] [.ref aW, .ref a1]))
  refine s_iloadN X621 hx (hb hby d4_55) rfl 56 rfl ?_
  obtain ⟨v622, T622, L622, X622, hQ622, st622⟩ := callStat X621 hx hZ hown (wd hw 57 _ rfl) (wd hw 58 _ rfl) (wd hw 59 _ rfl) (wd hw 60 _ rfl) (by decide) (c_copyD l Z a0 hw [] aW kW h598 n0 Z619 F614) e621 (L := #[.val (.ref a1), .val (.int (2 : Int32))]) (hb hby d4_56) (by rw [hml]; rfl) [.ref aW, .int (2 : Int32)] [.ref a1] rfl rfl pd_7 rfl 1 (by show 2 * 0 + _ ≤ _; exact Nat.le_of_eq rfl) (by decide) (by decide) (by decide) (by decide)
  obtain ⟨a622, c622, rfl, N622, K622, g622, A622⟩ := hQ622
  have M622 := Fr.app N598 N622
  have ne623 : a1 ≠ a622 := Nat.ne_of_lt (Nat.lt_of_lt_of_le F600.lt g622)
  have ne624 : aP ≠ a622 := Nat.ne_of_lt (Nat.lt_of_lt_of_le F612.lt g622)
  have ne625 : aI ≠ a622 := Nat.ne_of_lt (Nat.lt_of_lt_of_le F613.lt g622)
  have ne626 : aW ≠ a622 := Nat.ne_of_lt (Nat.lt_of_lt_of_le F614.lt g622)
  have ne627 : aT ≠ a622 := Nat.ne_of_lt (Nat.lt_of_lt_of_le F615.lt g622)
  have ne628 : a517 ≠ a622 := Nat.ne_of_lt (Nat.lt_of_lt_of_le F617.lt g622)
  have ne629 : a568 ≠ a622 := Nat.ne_of_lt (Nat.lt_of_lt_of_le F618.lt g622)
  have q630 : n0 ≤ a622 := Nat.le_trans Z619 g622
  have q631 : h0.size ≤ a622 := Nat.le_trans K620.1 g622
  have K632 := K620.trans K622 all0
  have F633 := F600.keep K622
  have F634 := F601.keep K622 nin0
  have F635 := F599.keep K622 nin0
  have F636 := F602.keep K622 nin0
  have F637 := F603.keep K622 nin0
  have F638 := F604.keep K622 nin0
  have F639 := F605.keep K622 nin0
  have F640 := F606.keep K622 nin0
  have F641 := F607.keep K622 nin0
  have F642 := F608.keep K622 nin0
  have F643 := F609.keep K622 nin0
  have F644 := F610.keep K622 nin0
  have F645 := F611.keep K622 nin0
  have F646 := F612.keep K622 nin0
  have F647 := F613.keep K622 nin0
  have F648 := F614.keep K622 nin0
  have F649 := F615.keep K622 nin0
  have F650 := F616.keep K622
  have F651 := F617.keep K622 nin0
  have F652 := F618.keep K622 nin0
  have Z653 := Nat.le_trans Z619 K622.1
  have e622 : T622.heap = T622.heap := rfl
  refine Go.via st622 ?_
  show Go p e below _ (T622.setTop (mkF m 59 #[.val (.ref a1), .val (.int (2 : Int32))] [.ref a622, .ref a1]))
  obtain ⟨T654, h654, X654, e654, W654, st654⟩ := putF X622 hx hZ hown (host := "") (Or.inl (wd hw 15 _ rfl)) Via.refl e622 F636 F633 (Or.inl (wd hw 16 _ rfl)) (wd hw 1 _ rfl) (ty := .array .double) (by decide) rfl rfl (g := (mkF m 59 #[.val (.ref a1), .val (.int (2 : Int32))] [.ref a622, .ref a1])) rfl rfl (hb hby d4_59)
  have N654 := Fr.snoc X654 M622 g1
  have F655 := F636.same W654
  have F656 := F633.wr W654
  have F657 := F634.other W654 (Or.inr (slot_ne (a0 := a0) (t := .array .double) (t' := .array .double) (Or.inl (wd hw 11 _ rfl)) (Or.inl (wd hw 16 _ rfl)) (by decide) (by decide) (by decide)))
  have F658 := F635.other W654 (Or.inr (slot_ne (a0 := a0) (t := .array .long) (t' := .array .double) (Or.inl (wd hw 14 _ rfl)) (Or.inl (wd hw 16 _ rfl)) (by decide) (by decide) (by decide)))
  have F659 := F637.other W654 (Or.inr (slot_ne (a0 := a0) (t := .array (.object "java/lang/Object")) (t' := .array .double) (Or.inl (wd hw 20 _ rfl)) (Or.inl (wd hw 16 _ rfl)) (by decide) (by decide) (by decide)))
  have F660 := F638.other W654 (Or.inr (slot_ne (a0 := a0) (t := .double) (t' := .array .double) (Or.inl (wd hw 23 _ rfl)) (Or.inl (wd hw 16 _ rfl)) (by decide) (by decide) (by decide)))
  have F661 := F639.other W654 (Or.inr (slot_ne (a0 := a0) (t := .int) (t' := .array .double) (Or.inr (wd hw 30 _ rfl)) (Or.inl (wd hw 16 _ rfl)) (by decide) (by decide) (by decide)))
  have F662 := F640.other W654 (Or.inr (slot_ne (a0 := a0) (t := .int) (t' := .array .double) (Or.inr (wd hw 32 _ rfl)) (Or.inl (wd hw 16 _ rfl)) (by decide) (by decide) (by decide)))
  have F663 := F641.other W654 (Or.inr (slot_ne (a0 := a0) (t := .int) (t' := .array .double) (Or.inl (wd hw 39 _ rfl)) (Or.inl (wd hw 16 _ rfl)) (by decide) (by decide) (by decide)))
  have F664 := F642.other W654 (Or.inr (slot_ne (a0 := a0) (t := .array .int) (t' := .array .double) (Or.inl (wd hw 86 _ rfl)) (Or.inl (wd hw 16 _ rfl)) (by decide) (by decide) (by decide)))
  have F665 := F643.other W654 (Or.inr (slot_ne (a0 := a0) (t := .long) (t' := .array .double) (Or.inl (wd hw 111 _ rfl)) (Or.inl (wd hw 16 _ rfl)) (by decide) (by decide) (by decide)))
  have F666 := F644.other W654 (Or.inr (slot_ne (a0 := a0) (t := .int) (t' := .array .double) (Or.inl (wd hw 113 _ rfl)) (Or.inl (wd hw 16 _ rfl)) (by decide) (by decide) (by decide)))
  have F667 := F645.other W654 (Or.inr (slot_ne (a0 := a0) (t := .int) (t' := .array .double) (Or.inl (wd hw 120 _ rfl)) (Or.inl (wd hw 16 _ rfl)) (by decide) (by decide) (by decide)))
  have F668 := F646.other W654 ((ne_a1_aP).symm)
  have F669 := F647.other W654 ((ne_a1_aI).symm)
  have F670 := F648.other W654 ((ne_a1_aW).symm)
  have F671 := F649.other W654 ((ne_a1_aT).symm)
  have F672 := F650.wr W654
  have F673 := F651.other W654 ((ne518).symm)
  have F674 := F652.other W654 ((ne569).symm)
  have F675 := A622.other W654 ((ne623).symm)
  have Z676 : n0 ≤ h654.size := by rw [W654.size]; exact Z653
  have K677 := K632.wr W654 (Or.inl (by simp))
  refine Go.via st654 ?_
  show Go p e below _ (T654.setTop (mkF m 62 #[.val (.ref a1), .val (.int (2 : Int32))] []))
  refine s_aloadN X654 hx (hb hby d4_62) rfl rfl 63 rfl ?_
  refine s_aloadN X654 hx (hb hby d4_63) rfl rfl 64 rfl ?_
  obtain ⟨T678, X678, e678, st678⟩ := getF X654 hx hZ hown (host := "") (Or.inl (wd hw 19 _ rfl)) Via.refl e654 F659 (g := (mkF m 64 #[.val (.ref a1), .val (.int (2 : Int32))] [.ref a1, .ref a1])) rfl rfl (hb hby d4_64)
  refine Go.via st678 ?_
  show Go p e below _ (T678.setTop (mkF m 67 #[.val (.ref a1), .val (.int (2 : Int32))] [.ref aT, .ref a1]))
  refine s_iloadN X678 hx (hb hby d4_67) rfl 68 rfl ?_
  obtain ⟨v679, T679, L679, X679, hQ679, st679⟩ := callStat X678 hx hZ hown (wd hw 71 _ rfl) (wd hw 72 _ rfl) (wd hw 59 _ rfl) (wd hw 73 _ rfl) (by decide) (c_copy2 l Z a0 hw [] aT mr kT h654 n0 Z676 F671 F672 Mm) e678 (L := #[.val (.ref a1), .val (.int (2 : Int32))]) (hb hby d4_68) (by rw [hml]; rfl) [.ref aT, .int (2 : Int32)] [.ref a1] rfl rfl pd_10 rfl 1 (by show 2 * 0 + _ ≤ _; exact Nat.le_of_eq rfl) (by decide) (by decide) (by decide) (by decide)
  obtain ⟨a679, c679, rfl, N679, K679, g679, A679⟩ := hQ679
  have M679 := Fr.app N654 N679
  have ne680 : a1 ≠ a679 := Nat.ne_of_lt (Nat.lt_of_lt_of_le F656.lt g679)
  have ne681 : aP ≠ a679 := Nat.ne_of_lt (Nat.lt_of_lt_of_le F668.lt g679)
  have ne682 : aI ≠ a679 := Nat.ne_of_lt (Nat.lt_of_lt_of_le F669.lt g679)
  have ne683 : aW ≠ a679 := Nat.ne_of_lt (Nat.lt_of_lt_of_le F670.lt g679)
  have ne684 : aT ≠ a679 := Nat.ne_of_lt (Nat.lt_of_lt_of_le F671.lt g679)
  have ne685 : a517 ≠ a679 := Nat.ne_of_lt (Nat.lt_of_lt_of_le F673.lt g679)
  have ne686 : a568 ≠ a679 := Nat.ne_of_lt (Nat.lt_of_lt_of_le F674.lt g679)
  have ne687 : a622 ≠ a679 := Nat.ne_of_lt (Nat.lt_of_lt_of_le F675.lt g679)
  have q688 : n0 ≤ a679 := Nat.le_trans Z676 g679
  have q689 : h0.size ≤ a679 := Nat.le_trans K677.1 g679
  have K690 := K677.trans K679 all0
  have F691 := F656.keep K679
  have F692 := F657.keep K679 nin0
  have F693 := F658.keep K679 nin0
  have F694 := F655.keep K679 nin0
  have F695 := F659.keep K679 nin0
  have F696 := F660.keep K679 nin0
  have F697 := F661.keep K679 nin0
  have F698 := F662.keep K679 nin0
  have F699 := F663.keep K679 nin0
  have F700 := F664.keep K679 nin0
  have F701 := F665.keep K679 nin0
  have F702 := F666.keep K679 nin0
  have F703 := F667.keep K679 nin0
  have F704 := F668.keep K679 nin0
  have F705 := F669.keep K679 nin0
  have F706 := F670.keep K679 nin0
  have F707 := F671.keep K679 nin0
  have F708 := F672.keep K679
  have F709 := F673.keep K679 nin0
  have F710 := F674.keep K679 nin0
  have F711 := F675.keep K679 nin0
  have Z712 := Nat.le_trans Z676 K679.1
  have e679 : T679.heap = T679.heap := rfl
  refine Go.via st679 ?_
  show Go p e below _ (T679.setTop (mkF m 71 #[.val (.ref a1), .val (.int (2 : Int32))] [.ref a679, .ref a1]))
  obtain ⟨T713, h713, X713, e713, W713, st713⟩ := putF X679 hx hZ hown (host := "") (Or.inl (wd hw 19 _ rfl)) Via.refl e679 F695 F691 (Or.inl (wd hw 20 _ rfl)) (wd hw 1 _ rfl) (ty := .array (.object "java/lang/Object")) (by decide) rfl rfl (g := (mkF m 71 #[.val (.ref a1), .val (.int (2 : Int32))] [.ref a679, .ref a1])) rfl rfl (hb hby d4_71)
  have N713 := Fr.snoc X713 M679 g1
  have F714 := F695.same W713
  have F715 := F691.wr W713
  have F716 := F692.other W713 (Or.inr (slot_ne (a0 := a0) (t := .array .double) (t' := .array (.object "java/lang/Object")) (Or.inl (wd hw 11 _ rfl)) (Or.inl (wd hw 20 _ rfl)) (by decide) (by decide) (by decide)))
  have F717 := F693.other W713 (Or.inr (slot_ne (a0 := a0) (t := .array .long) (t' := .array (.object "java/lang/Object")) (Or.inl (wd hw 14 _ rfl)) (Or.inl (wd hw 20 _ rfl)) (by decide) (by decide) (by decide)))
  have F718 := F694.other W713 (Or.inr (slot_ne (a0 := a0) (t := .array .double) (t' := .array (.object "java/lang/Object")) (Or.inl (wd hw 16 _ rfl)) (Or.inl (wd hw 20 _ rfl)) (by decide) (by decide) (by decide)))
  have F719 := F696.other W713 (Or.inr (slot_ne (a0 := a0) (t := .double) (t' := .array (.object "java/lang/Object")) (Or.inl (wd hw 23 _ rfl)) (Or.inl (wd hw 20 _ rfl)) (by decide) (by decide) (by decide)))
  have F720 := F697.other W713 (Or.inr (slot_ne (a0 := a0) (t := .int) (t' := .array (.object "java/lang/Object")) (Or.inr (wd hw 30 _ rfl)) (Or.inl (wd hw 20 _ rfl)) (by decide) (by decide) (by decide)))
  have F721 := F698.other W713 (Or.inr (slot_ne (a0 := a0) (t := .int) (t' := .array (.object "java/lang/Object")) (Or.inr (wd hw 32 _ rfl)) (Or.inl (wd hw 20 _ rfl)) (by decide) (by decide) (by decide)))
  have F722 := F699.other W713 (Or.inr (slot_ne (a0 := a0) (t := .int) (t' := .array (.object "java/lang/Object")) (Or.inl (wd hw 39 _ rfl)) (Or.inl (wd hw 20 _ rfl)) (by decide) (by decide) (by decide)))
  have F723 := F700.other W713 (Or.inr (slot_ne (a0 := a0) (t := .array .int) (t' := .array (.object "java/lang/Object")) (Or.inl (wd hw 86 _ rfl)) (Or.inl (wd hw 20 _ rfl)) (by decide) (by decide) (by decide)))
  have F724 := F701.other W713 (Or.inr (slot_ne (a0 := a0) (t := .long) (t' := .array (.object "java/lang/Object")) (Or.inl (wd hw 111 _ rfl)) (Or.inl (wd hw 20 _ rfl)) (by decide) (by decide) (by decide)))
  have F725 := F702.other W713 (Or.inr (slot_ne (a0 := a0) (t := .int) (t' := .array (.object "java/lang/Object")) (Or.inl (wd hw 113 _ rfl)) (Or.inl (wd hw 20 _ rfl)) (by decide) (by decide) (by decide)))
  have F726 := F703.other W713 (Or.inr (slot_ne (a0 := a0) (t := .int) (t' := .array (.object "java/lang/Object")) (Or.inl (wd hw 120 _ rfl)) (Or.inl (wd hw 20 _ rfl)) (by decide) (by decide) (by decide)))
  have F727 := F704.other W713 ((ne_a1_aP).symm)
  have F728 := F705.other W713 ((ne_a1_aI).symm)
  have F729 := F706.other W713 ((ne_a1_aW).symm)
  have F730 := F707.other W713 ((ne_a1_aT).symm)
  have F731 := F708.wr W713
  have F732 := F709.other W713 ((ne518).symm)
  have F733 := F710.other W713 ((ne569).symm)
  have F734 := F711.other W713 ((ne623).symm)
  have F735 := A679.other W713 ((ne680).symm)
  have Z736 : n0 ≤ h713.size := by rw [W713.size]; exact Z712
  have K737 := K690.wr W713 (Or.inl (by simp))
  refine Go.via st713 ?_
  show Go p e below _ (T713.setTop (mkF m 74 #[.val (.ref a1), .val (.int (2 : Int32))] []))
  exact retV X713 hx hlk hret (hb hby d4_74) e713 ⟨a517, a568, a622, a679, _, _, _, _, rfl, N713, K737, q524, q576, q631, q689, ne574, ne628, ne685, ne629, ne686, ne687, F716, F717, F718, F714, F719, F720, F721, F722, F723, F724, F725, F726, F732, F733, F734, F735⟩ (by decide) (by decide)
theorem d3_0 : decode prog_15_method_16_code 0 = .ok (.aload_n 0, 1) := by decide +kernel
theorem d3_1 : decode prog_15_method_16_code 1 = .ok (.getfield 46, 3) := by decide +kernel
theorem d3_4 : decode prog_15_method_16_code 4 = .ok (.aload_n 0, 1) := by decide +kernel
theorem d3_5 : decode prog_15_method_16_code 5 = .ok (.getfield 43, 3) := by decide +kernel
theorem d3_8 : decode prog_15_method_16_code 8 = .ok (.if_icmp .ge 8, 3) := by decide +kernel
theorem d3_11 : decode prog_15_method_16_code 11 = .ok (.aload_n 0, 1) := by decide +kernel
theorem d3_12 : decode prog_15_method_16_code 12 = .ok (.invokevirtual 139, 3) := by decide +kernel
theorem d3_15 : decode prog_15_method_16_code 15 = .ok (.return_, 1) := by decide +kernel
theorem d3_16 : decode prog_15_method_16_code 16 = .ok (.aload_n 0, 1) := by decide +kernel
theorem d3_17 : decode prog_15_method_16_code 17 = .ok (.aload_n 0, 1) := by decide +kernel
theorem d3_18 : decode prog_15_method_16_code 18 = .ok (.aload_n 0, 1) := by decide +kernel
theorem d3_19 : decode prog_15_method_16_code 19 = .ok (.getfield 28, 3) := by decide +kernel
theorem d3_22 : decode prog_15_method_16_code 22 = .ok (.iconst 0, 1) := by decide +kernel
theorem d3_23 : decode prog_15_method_16_code 23 = .ok (.aload_n 0, 1) := by decide +kernel
theorem d3_24 : decode prog_15_method_16_code 24 = .ok (.invokevirtual 87, 3) := by decide +kernel
theorem d3_27 : decode prog_15_method_16_code 27 = .ok (.invokevirtual 93, 3) := by decide +kernel
theorem d3_30 : decode prog_15_method_16_code 30 = .ok (.invokevirtual 142, 3) := by decide +kernel
theorem d3_33 : decode prog_15_method_16_code 33 = .ok (.aload_n 0, 1) := by decide +kernel
theorem d3_34 : decode prog_15_method_16_code 34 = .ok (.getfield 46, 3) := by decide +kernel
theorem d3_37 : decode prog_15_method_16_code 37 = .ok (.aload_n 0, 1) := by decide +kernel
theorem d3_38 : decode prog_15_method_16_code 38 = .ok (.getfield 43, 3) := by decide +kernel
theorem d3_41 : decode prog_15_method_16_code 41 = .ok (.aload_n 0, 1) := by decide +kernel
theorem d3_42 : decode prog_15_method_16_code 42 = .ok (.getfield 39, 3) := by decide +kernel
theorem d3_45 : decode prog_15_method_16_code 45 = .ok (.iconst 2, 1) := by decide +kernel
theorem d3_46 : decode prog_15_method_16_code 46 = .ok (.idiv, 1) := by decide +kernel
theorem d3_47 : decode prog_15_method_16_code 47 = .ok (.isub, 1) := by decide +kernel
theorem d3_48 : decode prog_15_method_16_code 48 = .ok (.if_icmp .le 67, 3) := by decide +kernel
theorem d3_51 : decode prog_15_method_16_code 51 = .ok (.aload_n 0, 1) := by decide +kernel
theorem d3_52 : decode prog_15_method_16_code 52 = .ok (.getfield 7, 3) := by decide +kernel
theorem d3_55 : decode prog_15_method_16_code 55 = .ok (.aload_n 0, 1) := by decide +kernel
theorem d3_56 : decode prog_15_method_16_code 56 = .ok (.getfield 46, 3) := by decide +kernel
theorem d3_59 : decode prog_15_method_16_code 59 = .ok (.aload_n 0, 1) := by decide +kernel
theorem d3_60 : decode prog_15_method_16_code 60 = .ok (.getfield 46, 3) := by decide +kernel
theorem d3_63 : decode prog_15_method_16_code 63 = .ok (.aload_n 0, 1) := by decide +kernel
theorem d3_64 : decode prog_15_method_16_code 64 = .ok (.getfield 39, 3) := by decide +kernel
theorem d3_67 : decode prog_15_method_16_code 67 = .ok (.isub, 1) := by decide +kernel
theorem d3_68 : decode prog_15_method_16_code 68 = .ok (.aload_n 0, 1) := by decide +kernel
theorem d3_69 : decode prog_15_method_16_code 69 = .ok (.invokevirtual 146, 3) := by decide +kernel
theorem d3_72 : decode prog_15_method_16_code 72 = .ok (.invokestatic 81, 3) := by decide +kernel
theorem d3_75 : decode prog_15_method_16_code 75 = .ok (.dstore_n 1, 1) := by decide +kernel
theorem d3_76 : decode prog_15_method_16_code 76 = .ok (.aload_n 0, 1) := by decide +kernel
theorem d3_77 : decode prog_15_method_16_code 77 = .ok (.aload_n 0, 1) := by decide +kernel
theorem d3_78 : decode prog_15_method_16_code 78 = .ok (.dload_n 1, 1) := by decide +kernel
theorem d3_79 : decode prog_15_method_16_code 79 = .ok (.aload_n 0, 1) := by decide +kernel
theorem d3_80 : decode prog_15_method_16_code 80 = .ok (.getfield 39, 3) := by decide +kernel
theorem d3_83 : decode prog_15_method_16_code 83 = .ok (.aload_n 0, 1) := by decide +kernel
theorem d3_84 : decode prog_15_method_16_code 84 = .ok (.dload_n 1, 1) := by decide +kernel
theorem d3_85 : decode prog_15_method_16_code 85 = .ok (.invokevirtual 90, 3) := by decide +kernel
theorem d3_88 : decode prog_15_method_16_code 88 = .ok (.isub, 1) := by decide +kernel
theorem d3_89 : decode prog_15_method_16_code 89 = .ok (.aload_n 0, 1) := by decide +kernel
theorem d3_90 : decode prog_15_method_16_code 90 = .ok (.invokevirtual 87, 3) := by decide +kernel
theorem d3_93 : decode prog_15_method_16_code 93 = .ok (.invokevirtual 93, 3) := by decide +kernel
theorem d3_96 : decode prog_15_method_16_code 96 = .ok (.invokevirtual 142, 3) := by decide +kernel
theorem d3_99 : decode prog_15_method_16_code 99 = .ok (.aload_n 0, 1) := by decide +kernel
theorem d3_100 : decode prog_15_method_16_code 100 = .ok (.dload_n 1, 1) := by decide +kernel
theorem d3_101 : decode prog_15_method_16_code 101 = .ok (.putfield 28, 3) := by decide +kernel
theorem d3_104 : decode prog_15_method_16_code 104 = .ok (.aload_n 0, 1) := by decide +kernel
theorem d3_105 : decode prog_15_method_16_code 105 = .ok (.dload_n 1, 1) := by decide +kernel
theorem d3_106 : decode prog_15_method_16_code 106 = .ok (.invokestatic 103, 3) := by decide +kernel
theorem d3_109 : decode prog_15_method_16_code 109 = .ok (.invokevirtual 107, 3) := by decide +kernel
theorem d3_112 : decode prog_15_method_16_code 112 = .ok (.goto 27, 3) := by decide +kernel
theorem d3_115 : decode prog_15_method_16_code 115 = .ok (.aload_n 0, 1) := by decide +kernel
theorem d3_116 : decode prog_15_method_16_code 116 = .ok (.getfield 62, 3) := by decide +kernel
theorem d3_119 : decode prog_15_method_16_code 119 = .ok (.sipush 1024, 3) := by decide +kernel
theorem d3_122 : decode prog_15_method_16_code 122 = .ok (.if_icmp .lt 17, 3) := by decide +kernel
theorem d3_125 : decode prog_15_method_16_code 125 = .ok (.aload_n 0, 1) := by decide +kernel
theorem d3_126 : decode prog_15_method_16_code 126 = .ok (.aload_n 0, 1) := by decide +kernel
theorem d3_127 : decode prog_15_method_16_code 127 = .ok (.getfield 71, 3) := by decide +kernel
theorem d3_130 : decode prog_15_method_16_code 130 = .ok (.aload_n 0, 1) := by decide +kernel
theorem d3_131 : decode prog_15_method_16_code 131 = .ok (.getfield 62, 3) := by decide +kernel
theorem d3_134 : decode prog_15_method_16_code 134 = .ok (.i2l, 1) := by decide +kernel
theorem d3_135 : decode prog_15_method_16_code 135 = .ok (.ladd, 1) := by decide +kernel
theorem d3_136 : decode prog_15_method_16_code 136 = .ok (.invokevirtual 107, 3) := by decide +kernel
theorem d3_139 : decode prog_15_method_16_code 139 = .ok (.return_, 1) := by decide +kernel
theorem pd_3 : parseMethodDescriptor "()V" = some ⟨[], none⟩ := by decide +kernel
theorem pn_3 : plainFor (⟨"com/example/priorsum/priorsum/RankedRows", "makeRoom", "()V"⟩ : MethodName) = true := plainFor_of_name (by show plainName "com/example/priorsum/priorsum/RankedRows" = true; first | (simp [plainName, overriddenIn]; done) | decide +kernel)
set_option maxRecDepth 65536 in
set_option maxHeartbeats 40000000 in
theorem c_room (l : Launch) (Z : State) (a0 : Array Value) (hw : ∀ d ∈ tables_1, d.before a0 Z = true) (ws : List Jvm.Cond) (a1 aP aI aW aT mr : Addr) (kP kI kW kT : ClassId) (h0 : Heap) (n0 : Nat) (Z0 : n0 ≤ h0.size) (E1 : Exa Z h0 a1 "com/example/priorsum/priorsum/RankedRows") (g1 : n0 ≤ a1) (F_priorities : Fld Z h0 a1 "com/example/priorsum/priorsum/RankedRows" "priorities" "[D" (.ref aP)) (F_indices : Fld Z h0 a1 "com/example/priorsum/priorsum/RankedRows" "indices" "[J" (.ref aI)) (F_weights : Fld Z h0 a1 "com/example/priorsum/priorsum/RankedRows" "weights" "[D" (.ref aW)) (F_items : Fld Z h0 a1 "com/example/priorsum/priorsum/RankedRows" "items" "[Ljava/lang/Object;" (.ref aT)) (F_floor : Fld Z h0 a1 "com/example/priorsum/priorsum/RankedRows" "floor" "D" (.double (18442240474082181120 : UInt64))) (F_keep : Fld Z h0 a1 "com/example/priorsum/priorsum/RankedRows" "keep" "I" (.int (1 : Int32))) (F_capacity : Fld Z h0 a1 "com/example/priorsum/priorsum/RankedRows" "capacity" "I" (.int (2 : Int32))) (F_held : Fld Z h0 a1 "com/example/priorsum/priorsum/RankedRows" "held" "I" (.int (0 : Int32))) (F_counts : Fld Z h0 a1 "com/example/priorsum/priorsum/RankedRows" "counts" "[I" (.null)) (F_base : Fld Z h0 a1 "com/example/priorsum/priorsum/RankedRows" "base" "J" (.long (0 : Int64))) (F_floorBucket : Fld Z h0 a1 "com/example/priorsum/priorsum/RankedRows" "floorBucket" "I" (.int (0 : Int32))) (F_above : Fld Z h0 a1 "com/example/priorsum/priorsum/RankedRows" "above" "I" (.int (0 : Int32))) (A_aP : AR Z h0 aP kP .double []) (A_aI : AR Z h0 aI kI .long []) (A_aW : AR Z h0 aW kW .double []) (A_aT : AR Z h0 aT kT (.object "java/lang/Object") []) (E_aT : Exa Z h0 aT "[Ljava/lang/Object;") (ne_a1_aP : a1 ≠ aP) (ne_a1_aI : a1 ≠ aI) (ne_a1_aW : a1 ≠ aW) (ne_a1_aT : a1 ≠ aT) (Mm : Mi Z "[Ljava/lang/Object;" mr) :
    Ct l Z (⟨"com/example/priorsum/priorsum/RankedRows", "makeRoom", "()V"⟩ : MethodName) prog_15_method_16_code 3 none ws ({ frames := 4, cells := 4, slots := 8, locals := 82 } : Room) #[.ref a1] h0 (fun v h L => ∃ bP bI bW bT jP jI jW jT, v = none ∧ Fr n0 L ∧ Keep h0 h [a1] ∧ h0.size ≤ bP ∧ h0.size ≤ bI ∧ h0.size ≤ bW ∧ h0.size ≤ bT ∧ bP ≠ bI ∧ bP ≠ bW ∧ bP ≠ bT ∧ bI ≠ bW ∧ bI ≠ bT ∧ bW ≠ bT ∧ Fld Z h a1 "com/example/priorsum/priorsum/RankedRows" "priorities" "[D" (.ref bP) ∧ Fld Z h a1 "com/example/priorsum/priorsum/RankedRows" "indices" "[J" (.ref bI) ∧ Fld Z h a1 "com/example/priorsum/priorsum/RankedRows" "weights" "[D" (.ref bW) ∧ Fld Z h a1 "com/example/priorsum/priorsum/RankedRows" "items" "[Ljava/lang/Object;" (.ref bT) ∧ Fld Z h a1 "com/example/priorsum/priorsum/RankedRows" "floor" "D" (.double (18442240474082181120 : UInt64)) ∧ Fld Z h a1 "com/example/priorsum/priorsum/RankedRows" "keep" "I" (.int (1 : Int32)) ∧ Fld Z h a1 "com/example/priorsum/priorsum/RankedRows" "capacity" "I" (.int (2 : Int32)) ∧ Fld Z h a1 "com/example/priorsum/priorsum/RankedRows" "held" "I" (.int (0 : Int32)) ∧ Fld Z h a1 "com/example/priorsum/priorsum/RankedRows" "counts" "[I" (.null) ∧ Fld Z h a1 "com/example/priorsum/priorsum/RankedRows" "base" "J" (.long (0 : Int64)) ∧ Fld Z h a1 "com/example/priorsum/priorsum/RankedRows" "floorBucket" "I" (.int (0 : Int32)) ∧ Fld Z h a1 "com/example/priorsum/priorsum/RankedRows" "above" "I" (.int (0 : Int32)) ∧ AR Z h bP jP (.double) [.double (0 : UInt64), .double (0 : UInt64)] ∧ AR Z h bI jI (.long) [.long (0 : Int64), .long (0 : Int64)] ∧ AR Z h bW jW (.double) [.double (0 : UInt64), .double (0 : UInt64)] ∧ AR Z h bT jT (.object "java/lang/Object") [.null, .null]) := by
  refine Ct.intro pn_3 #[.val (.ref a1), .unset, .unset] (fun _ => by first | (simp [entryFrame, mkF, argsToLocals, Value.category, maxLocals]; done) | rfl) ?_
  intro p e s m below meth c T0 X0 hx hZ hby hml hown hnm hret hlk e0
  have N0 := Fr.nil n0
  have K0 := Keep.refl h0 [a1]
  refine s_aloadN X0 hx (hb hby d3_0) rfl rfl 1 rfl ?_
  obtain ⟨T738, X738, e738, st738⟩ := getF X0 hx hZ hown (host := "") (Or.inl (wd hw 38 _ rfl)) Via.refl e0 F_held (g := (mkF m 1 #[.val (.ref a1), .unset, .unset] [.ref a1])) rfl rfl (hb hby d3_1)
  refine Go.via st738 ?_
  show Go p e below _ (T738.setTop (mkF m 4 #[.val (.ref a1), .unset, .unset] [.int (0 : Int32)]))
  refine s_aloadN X738 hx (hb hby d3_4) rfl rfl 5 rfl ?_
  obtain ⟨T739, X739, e739, st739⟩ := getF X738 hx hZ hown (host := "") (Or.inl (wd hw 31 _ rfl)) Via.refl e738 F_capacity (g := (mkF m 5 #[.val (.ref a1), .unset, .unset] [.ref a1, .int (0 : Int32)])) rfl rfl (hb hby d3_5)
  refine Go.via st739 ?_
  show Go p e below _ (T739.setTop (mkF m 8 #[.val (.ref a1), .unset, .unset] [.int (2 : Int32), .int (0 : Int32)]))
  refine s_icmpN X739 hx (hb hby d3_8) (by decide) 11 rfl ?_
  refine s_aloadN X739 hx (hb hby d3_11) rfl rfl 12 rfl ?_
  obtain ⟨v740, T740, L740, X740, hQ740, st740⟩ := callPriv X739 hx hZ hown (wd hw 44 _ rfl) (wd hw 46 _ rfl) (wd hw 1 _ rfl) (wd hw 45 _ rfl) (wd hw 2 _ rfl) (wd hw 47 _ rfl) (by decide) (c_grow l Z a0 hw [] a1 aP aI aW aT mr kP kI kW kT h0 n0 Z0 E1 g1 F_priorities F_indices F_weights F_items F_floor F_keep F_capacity F_held F_counts F_base F_floorBucket F_above A_aP A_aI A_aW A_aT E_aT ne_a1_aP ne_a1_aI ne_a1_aW ne_a1_aT Mm) e739 a1 E1 (L := #[.val (.ref a1), .unset, .unset]) (hb hby d3_12) (by rw [hml]; rfl) [] [] rfl rfl pd_4 rfl 0 (by show 2 * 0 + _ ≤ _; exact Nat.le_of_eq rfl) (by decide) (by decide) (by decide) (by decide)
  obtain ⟨bP740, bI740, bW740, bT740, jP740, jI740, jW740, jT740, rfl, N740, K740, g740_P, g740_I, g740_W, g740_T, u740_PI, u740_PW, u740_PT, u740_IW, u740_IT, u740_WT, G740_priorities, G740_indices, G740_weights, G740_items, G740_floor, G740_keep, G740_capacity, G740_held, G740_counts, G740_base, G740_floorBucket, G740_above, A740_P, A740_I, A740_W, A740_T⟩ := hQ740
  have ne741 : a1 ≠ bP740 := Nat.ne_of_lt (Nat.lt_of_lt_of_le E1.lt g740_P)
  have ne742 : aP ≠ bP740 := Nat.ne_of_lt (Nat.lt_of_lt_of_le A_aP.lt g740_P)
  have ne743 : aI ≠ bP740 := Nat.ne_of_lt (Nat.lt_of_lt_of_le A_aI.lt g740_P)
  have ne744 : aW ≠ bP740 := Nat.ne_of_lt (Nat.lt_of_lt_of_le A_aW.lt g740_P)
  have ne745 : aT ≠ bP740 := Nat.ne_of_lt (Nat.lt_of_lt_of_le A_aT.lt g740_P)
  have q746 : n0 ≤ bP740 := Nat.le_trans Z0 g740_P
  have q747 : h0.size ≤ bP740 := Nat.le_trans K0.1 g740_P
  have ne748 : a1 ≠ bI740 := Nat.ne_of_lt (Nat.lt_of_lt_of_le E1.lt g740_I)
  have ne749 : aP ≠ bI740 := Nat.ne_of_lt (Nat.lt_of_lt_of_le A_aP.lt g740_I)
  have ne750 : aI ≠ bI740 := Nat.ne_of_lt (Nat.lt_of_lt_of_le A_aI.lt g740_I)
  have ne751 : aW ≠ bI740 := Nat.ne_of_lt (Nat.lt_of_lt_of_le A_aW.lt g740_I)
  have ne752 : aT ≠ bI740 := Nat.ne_of_lt (Nat.lt_of_lt_of_le A_aT.lt g740_I)
  have q753 : n0 ≤ bI740 := Nat.le_trans Z0 g740_I
  have q754 : h0.size ≤ bI740 := Nat.le_trans K0.1 g740_I
  have ne755 : a1 ≠ bW740 := Nat.ne_of_lt (Nat.lt_of_lt_of_le E1.lt g740_W)
  have ne756 : aP ≠ bW740 := Nat.ne_of_lt (Nat.lt_of_lt_of_le A_aP.lt g740_W)
  have ne757 : aI ≠ bW740 := Nat.ne_of_lt (Nat.lt_of_lt_of_le A_aI.lt g740_W)
  have ne758 : aW ≠ bW740 := Nat.ne_of_lt (Nat.lt_of_lt_of_le A_aW.lt g740_W)
  have ne759 : aT ≠ bW740 := Nat.ne_of_lt (Nat.lt_of_lt_of_le A_aT.lt g740_W)
  have q760 : n0 ≤ bW740 := Nat.le_trans Z0 g740_W
  have q761 : h0.size ≤ bW740 := Nat.le_trans K0.1 g740_W
  have ne762 : a1 ≠ bT740 := Nat.ne_of_lt (Nat.lt_of_lt_of_le E1.lt g740_T)
  have ne763 : aP ≠ bT740 := Nat.ne_of_lt (Nat.lt_of_lt_of_le A_aP.lt g740_T)
  have ne764 : aI ≠ bT740 := Nat.ne_of_lt (Nat.lt_of_lt_of_le A_aI.lt g740_T)
  have ne765 : aW ≠ bT740 := Nat.ne_of_lt (Nat.lt_of_lt_of_le A_aW.lt g740_T)
  have ne766 : aT ≠ bT740 := Nat.ne_of_lt (Nat.lt_of_lt_of_le A_aT.lt g740_T)
  have q767 : n0 ≤ bT740 := Nat.le_trans Z0 g740_T
  have q768 : h0.size ≤ bT740 := Nat.le_trans K0.1 g740_T
  have M740 := Fr.app N0 N740
  have F769 := E1.keep K740
  have F770 := A_aP.keep K740 (ninS ((ne_a1_aP).symm) nin0)
  have F771 := A_aI.keep K740 (ninS ((ne_a1_aI).symm) nin0)
  have F772 := A_aW.keep K740 (ninS ((ne_a1_aW).symm) nin0)
  have F773 := A_aT.keep K740 (ninS ((ne_a1_aT).symm) nin0)
  have F774 := E_aT.keep K740
  have Z775 := Nat.le_trans Z0 K740.1
  have K776 := K0.trans K740 (allS (Or.inl (by simp)) all0)
  have e740 : T740.heap = T740.heap := rfl
  refine Go.via st740 ?_
  show Go p e below _ (T740.setTop (mkF m 15 #[.val (.ref a1), .unset, .unset] []))
  exact retV X740 hx hlk hret (hb hby d3_15) e740 ⟨bP740, bI740, bW740, bT740, _, _, _, _, rfl, M740, K776, q747, q754, q761, q768, u740_PI, u740_PW, u740_PT, u740_IW, u740_IT, u740_WT, G740_priorities, G740_indices, G740_weights, G740_items, G740_floor, G740_keep, G740_capacity, G740_held, G740_counts, G740_base, G740_floorBucket, G740_above, A740_P, A740_I, A740_W, A740_T⟩ (by decide) (by decide)
theorem d14_0 : decode prog_15_method_14_code 0 = .ok (.dload_n 0, 1) := by decide +kernel
theorem d14_1 : decode prog_15_method_14_code 1 = .ok (.invokestatic 129, 3) := by decide +kernel
theorem d14_4 : decode prog_15_method_14_code 4 = .ok (.ldc2_w 134, 3) := by decide +kernel
theorem d14_7 : decode prog_15_method_14_code 7 = .ok (.land, 1) := by decide +kernel
theorem d14_8 : decode prog_15_method_14_code 8 = .ok (.bipush 45, 2) := by decide +kernel
theorem d14_10 : decode prog_15_method_14_code 10 = .ok (.lushr, 1) := by decide +kernel
theorem d14_11 : decode prog_15_method_14_code 11 = .ok (.lreturn, 1) := by decide +kernel
theorem pd_14 : parseMethodDescriptor "(D)J" = some ⟨[.double], some .long⟩ := by decide +kernel
theorem pn_14 : plainFor (⟨"com/example/priorsum/priorsum/RankedRows", "key", "(D)J"⟩ : MethodName) = true := plainFor_of_name (by show plainName "com/example/priorsum/priorsum/RankedRows" = true; first | (simp [plainName, overriddenIn]; done) | decide +kernel)
set_option maxRecDepth 65536 in
set_option maxHeartbeats 40000000 in
theorem c_key (l : Launch) (Z : State) (a0 : Array Value) (hw : ∀ d ∈ tables_1, d.before a0 Z = true) (ws : List Jvm.Cond) (d : UInt64) (h0 : Heap) (n0 : Nat) (Z0 : n0 ≤ h0.size)  :
    Ct l Z (⟨"com/example/priorsum/priorsum/RankedRows", "key", "(D)J"⟩ : MethodName) prog_15_method_14_code 2 (some .long) ws ({ frames := 1, cells := 0, slots := 0, locals := 40 } : Room) #[.double d] h0 (fun v h L => v = some (.long (kOf d)) ∧ Fr n0 L ∧ h = h0) := by
  refine Ct.intro pn_14 #[.val (.double d), .second] (fun _ => by first | (simp [entryFrame, mkF, argsToLocals, Value.category, maxLocals]; done) | rfl) ?_
  intro p e s m below meth c T0 X0 hx hZ hby hml hown hnm hret hlk e0
  have N0 := Fr.nil n0
  refine s_dloadN X0 hx (hb hby d14_0) rfl 1 rfl ?_
  obtain ⟨T777, X777, e777, st777⟩ := s_d2raw X0 hx hZ hown (wd hw 98 _ rfl) (wd hw 101 _ rfl) (wd hw 99 _ rfl) (wd hw 100 _ rfl) e0 (hb hby d14_1) #[.val (.double d), .second] (by rw [hml]; rfl) d [] d.toInt64 rfl (by decide) 0 (by show 2 * 0 + _ ≤ _; exact Nat.le_of_eq rfl) (by decide) 4 rfl
  refine Go.via st777 ?_
  show Go p e below _ (T777.setTop (mkF m 4 #[.val (.double d), .second] [.long d.toInt64]))
  refine s_ldc2J X777 hx (hb hby d14_4) hZ hown (wd hw 102 _ rfl) 7 rfl ?_
  refine s_land X777 hx (hb hby d14_7) (d.toInt64 &&& (9223372036854775807 : Int64)) rfl 8 rfl ?_
  refine s_bipush X777 hx (hb hby d14_8) (45 : Int32) rfl 10 rfl ?_
  refine s_lushr X777 hx (hb hby d14_10) (XT.ushrL (d.toInt64 &&& (9223372036854775807 : Int64)) (45 : Int32)) rfl 11 rfl ?_
  exact retJ X777 hx hlk hret (hb hby d14_11) e777 ⟨rfl, N0, rfl⟩ (by decide) (by decide)
theorem d19_0 : decode prog_15_method_15_code 0 = .ok (.lload_n 0, 1) := by decide +kernel
theorem d19_1 : decode prog_15_method_15_code 1 = .ok (.bipush 45, 2) := by decide +kernel
theorem d19_3 : decode prog_15_method_15_code 3 = .ok (.lshl, 1) := by decide +kernel
theorem d19_4 : decode prog_15_method_15_code 4 = .ok (.invokestatic 136, 3) := by decide +kernel
theorem d19_7 : decode prog_15_method_15_code 7 = .ok (.dreturn, 1) := by decide +kernel
theorem pd_19 : parseMethodDescriptor "(J)D" = some ⟨[.long], some .double⟩ := by decide +kernel
theorem pn_19 : plainFor (⟨"com/example/priorsum/priorsum/RankedRows", "edge", "(J)D"⟩ : MethodName) = true := plainFor_of_name (by show plainName "com/example/priorsum/priorsum/RankedRows" = true; first | (simp [plainName, overriddenIn]; done) | decide +kernel)
set_option maxRecDepth 65536 in
set_option maxHeartbeats 40000000 in
theorem c_edge (l : Launch) (Z : State) (a0 : Array Value) (hw : ∀ d ∈ tables_1, d.before a0 Z = true) (ws : List Jvm.Cond) (d : UInt64) (h0 : Heap) (n0 : Nat) (Z0 : n0 ≤ h0.size) (hP : PD d) :
    Ct l Z (⟨"com/example/priorsum/priorsum/RankedRows", "edge", "(J)D"⟩ : MethodName) prog_15_method_15_code 2 (some .double) ws ({ frames := 1, cells := 0, slots := 0, locals := 40 } : Room) #[.long (kOf d)] h0 (fun v h L => v = some (.double d) ∧ Fr n0 L ∧ h = h0) := by
  refine Ct.intro pn_19 #[.val (.long (kOf d)), .second] (fun _ => by first | (simp [entryFrame, mkF, argsToLocals, Value.category, maxLocals]; done) | rfl) ?_
  intro p e s m below meth c T0 X0 hx hZ hby hml hown hnm hret hlk e0
  have N0 := Fr.nil n0
  refine s_lloadN X0 hx (hb hby d19_0) rfl 1 rfl ?_
  refine s_bipush X0 hx (hb hby d19_1) (45 : Int32) rfl 3 rfl ?_
  refine s_lshl X0 hx (hb hby d19_3) ((kOf d) <<< ((45 : Int32) &&& 0x3f).toInt64) rfl 4 rfl ?_
  obtain ⟨T778, X778, e778, st778⟩ := s_raw2d X0 hx hZ hown (wd hw 128 _ rfl) (wd hw 130 _ rfl) (wd hw 129 _ rfl) (wd hw 100 _ rfl) e0 (hb hby d19_4) #[.val (.long (kOf d)), .second] (by rw [hml]; rfl) ((kOf d) <<< ((45 : Int32) &&& 0x3f).toInt64) hP.edgeOk [] d hP.edge (by decide) 0 (by show 2 * 0 + _ ≤ _; exact Nat.le_of_eq rfl) (by decide) 7 rfl
  refine Go.via st778 ?_
  show Go p e below _ (T778.setTop (mkF m 7 #[.val (.long (kOf d)), .second] [.double d]))
  exact retD X778 hx hlk hret (hb hby d19_7) e778 ⟨rfl, N0, rfl⟩ (by decide) (by decide)
theorem d21_0 : decode jdk_117_method_6_code 0 = .ok (.dload_n 0, 1) := by decide +kernel
theorem d21_1 : decode jdk_117_method_6_code 1 = .ok (.dload_n 0, 1) := by decide +kernel
theorem d21_2 : decode jdk_117_method_6_code 2 = .ok (.dcmp .l, 1) := by decide +kernel
theorem d21_3 : decode jdk_117_method_6_code 3 = .ok (.ifCond .eq 7, 3) := by decide +kernel
theorem d21_6 : decode jdk_117_method_6_code 6 = .ok (.iconst 1, 1) := by decide +kernel
theorem d21_7 : decode jdk_117_method_6_code 7 = .ok (.goto 4, 3) := by decide +kernel
theorem d21_10 : decode jdk_117_method_6_code 10 = .ok (.iconst 0, 1) := by decide +kernel
theorem d21_11 : decode jdk_117_method_6_code 11 = .ok (.ireturn, 1) := by decide +kernel
theorem pd_21 : parseMethodDescriptor "(D)Z" = some ⟨[.double], some .boolean⟩ := by decide +kernel
theorem pn_21 : plainFor (⟨"java/lang/Double", "isNaN", "(D)Z"⟩ : MethodName) = true := by first | decide +kernel | exact plainFor_of_name (by show plainName "java/lang/Double" = true; first | (simp [plainName, overriddenIn]; done) | decide +kernel)
set_option maxRecDepth 65536 in
set_option maxHeartbeats 40000000 in
theorem c_nan (l : Launch) (Z : State) (a0 : Array Value) (hw : ∀ d ∈ tables_1, d.before a0 Z = true) (ws : List Jvm.Cond) (d : UInt64) (h0 : Heap) (n0 : Nat) (Z0 : n0 ≤ h0.size) (hs : FP.dcmp d d = some .eq) :
    Ct l Z (⟨"java/lang/Double", "isNaN", "(D)Z"⟩ : MethodName) jdk_117_method_6_code 2 (some .boolean) ws ({ frames := 0, cells := 0, slots := 0, locals := 0 } : Room) #[.double d] h0 (fun v h L => v = some (.int 0) ∧ Fr n0 L ∧ h = h0) := by
  refine Ct.intro pn_21 #[.val (.double d), .second] (fun _ => by first | (simp [entryFrame, mkF, argsToLocals, Value.category, maxLocals]; done) | rfl) ?_
  intro p e s m below meth c T0 X0 hx hZ hby hml hown hnm hret hlk e0
  have N0 := Fr.nil n0
  refine s_dloadN X0 hx (hb hby d21_0) rfl 1 rfl ?_
  refine s_dloadN X0 hx (hb hby d21_1) rfl 2 rfl ?_
  refine s_dcmp X0 hx (hb hby d21_2) (0 : Int32) (by rw [show FP.dcmp d d = some .eq from hs]; rfl) 3 rfl ?_
  refine s_ifY X0 hx (hb hby d21_3) (by decide) 10 (by decide) (by decide) ?_
  refine s_iconst X0 hx (hb hby d21_10) (0 : Int32) rfl 11 rfl ?_
  exact retZ X0 hx hlk hret (hb hby d21_11) (by decide) e0 ⟨rfl, N0, rfl⟩ (by decide) (by decide)
theorem d20_0 : decode jdk_29_method_97_code 0 = .ok (.dload_n 0, 1) := by decide +kernel
theorem d20_1 : decode jdk_29_method_97_code 1 = .ok (.invokestatic 205, 3) := by decide +kernel
theorem d20_4 : decode jdk_29_method_97_code 4 = .ok (.ifCond .ne 11, 3) := by decide +kernel
theorem d20_7 : decode jdk_29_method_97_code 7 = .ok (.dload_n 0, 1) := by decide +kernel
theorem d20_8 : decode jdk_29_method_97_code 8 = .ok (.ldc2_w 330, 3) := by decide +kernel
theorem d20_11 : decode jdk_29_method_97_code 11 = .ok (.dcmp .l, 1) := by decide +kernel
theorem d20_12 : decode jdk_29_method_97_code 12 = .ok (.ifCond .ne 5, 3) := by decide +kernel
theorem d20_15 : decode jdk_29_method_97_code 15 = .ok (.dload_n 0, 1) := by decide +kernel
theorem d20_16 : decode jdk_29_method_97_code 16 = .ok (.dreturn, 1) := by decide +kernel
theorem d20_17 : decode jdk_29_method_97_code 17 = .ok (.dload_n 0, 1) := by decide +kernel
theorem d20_18 : decode jdk_29_method_97_code 18 = .ok (.dconst 0, 1) := by decide +kernel
theorem d20_19 : decode jdk_29_method_97_code 19 = .ok (.dcmp .l, 1) := by decide +kernel
theorem d20_20 : decode jdk_29_method_97_code 20 = .ok (.ifCond .ne 7, 3) := by decide +kernel
theorem d20_23 : decode jdk_29_method_97_code 23 = .ok (.ldc2_w 324, 3) := by decide +kernel
theorem d20_26 : decode jdk_29_method_97_code 26 = .ok (.dreturn, 1) := by decide +kernel
theorem d20_27 : decode jdk_29_method_97_code 27 = .ok (.dload_n 0, 1) := by decide +kernel
theorem d20_28 : decode jdk_29_method_97_code 28 = .ok (.invokestatic 79, 3) := by decide +kernel
theorem d20_31 : decode jdk_29_method_97_code 31 = .ok (.dload_n 0, 1) := by decide +kernel
theorem d20_32 : decode jdk_29_method_97_code 32 = .ok (.dconst 0, 1) := by decide +kernel
theorem d20_33 : decode jdk_29_method_97_code 33 = .ok (.dcmp .l, 1) := by decide +kernel
theorem d20_34 : decode jdk_29_method_97_code 34 = .ok (.ifCond .le 9, 3) := by decide +kernel
theorem d20_37 : decode jdk_29_method_97_code 37 = .ok (.ldc2_w 130, 3) := by decide +kernel
theorem d20_40 : decode jdk_29_method_97_code 40 = .ok (.goto 4, 3) := by decide +kernel
theorem d20_43 : decode jdk_29_method_97_code 43 = .ok (.lconst 1, 1) := by decide +kernel
theorem d20_44 : decode jdk_29_method_97_code 44 = .ok (.ladd, 1) := by decide +kernel
theorem d20_45 : decode jdk_29_method_97_code 45 = .ok (.invokestatic 166, 3) := by decide +kernel
theorem d20_48 : decode jdk_29_method_97_code 48 = .ok (.dreturn, 1) := by decide +kernel
theorem pd_20 : parseMethodDescriptor "(D)D" = some ⟨[.double], some .double⟩ := by decide +kernel
theorem pn_20 : plainFor (⟨"java/lang/Math", "nextDown", "(D)D"⟩ : MethodName) = true := by decide +kernel
set_option maxRecDepth 65536 in
set_option maxHeartbeats 40000000 in
theorem c_down (l : Launch) (Z : State) (a0 : Array Value) (hw : ∀ d ∈ tables_1, d.before a0 Z = true) (ws : List Jvm.Cond) (d : UInt64) (h0 : Heap) (n0 : Nat) (Z0 : n0 ≤ h0.size) (hP : PD d) :
    Ct l Z (⟨"java/lang/Math", "nextDown", "(D)D"⟩ : MethodName) jdk_29_method_97_code 2 (some .double) ws ({ frames := 1, cells := 0, slots := 0, locals := 40 } : Room) #[.double d] h0 (fun v h L => v = some (.double (ndOf d)) ∧ Fr n0 L ∧ h = h0) := by
  refine Ct.intro pn_20 #[.val (.double d), .second] (fun _ => by first | (simp [entryFrame, mkF, argsToLocals, Value.category, maxLocals]; done) | rfl) ?_
  intro p e s m below meth c T0 X0 hx hZ hby hml hown hnm hret hlk e0
  have N0 := Fr.nil n0
  refine s_dloadN X0 hx (hb hby d20_0) rfl 1 rfl ?_
  obtain ⟨v779, T779, L779, X779, hQ779, st779⟩ := callStat X0 hx hZ hown (wd hw 134 _ rfl) (wd hw 135 _ rfl) (wd hw 100 _ rfl) (wd hw 136 _ rfl) (by decide) (c_nan l Z a0 hw [] d h0 n0 Z0 hP.self) e0 (L := #[.val (.double d), .second]) (hb hby d20_1) (by rw [hml]; rfl) [.double d] [] rfl rfl pd_21 rfl 0 (by show 2 * 0 + _ ≤ _; exact Nat.le_of_eq rfl) (by decide) (by decide) (by decide) (by decide)
  obtain ⟨rfl, N779, hh779⟩ := hQ779
  have M779 := Fr.app N0 N779
  refine Go.via st779 ?_
  show Go p e below _ (T779.setTop (mkF m 4 #[.val (.double d), .second] [.int (0 : Int32)]))
  refine s_ifN X779 hx (hb hby d20_4) (by decide) 7 rfl ?_
  refine s_dloadN X779 hx (hb hby d20_7) rfl 8 rfl ?_
  refine s_ldc2D X779 hx (hb hby d20_8) hZ hown (wd hw 137 _ rfl) 11 rfl ?_
  refine s_dcmp X779 hx (hb hby d20_11) (1 : Int32) (by rw [show FP.dcmp d (18442240474082181120 : UInt64) = some .gt from hP.top]; rfl) 12 rfl ?_
  refine s_ifY X779 hx (hb hby d20_12) (by decide) 17 (by decide) (by decide) ?_
  rcases hP.zero with ⟨z0, z1⟩ | ⟨z0, z1⟩
  · skip
    refine s_dloadN X779 hx (hb hby d20_17) rfl 18 rfl ?_
    refine s_dconst0 X779 hx (hb hby d20_18) (0 : UInt64) rfl 19 rfl ?_
    refine s_dcmp X779 hx (hb hby d20_19) (0 : Int32) (by rw [show FP.dcmp d (0 : UInt64) = some .eq from z1]; rfl) 20 rfl ?_
    refine s_ifN X779 hx (hb hby d20_20) (by decide) 23 rfl ?_
    refine s_ldc2D X779 hx (hb hby d20_23) hZ hown (wd hw 150 _ rfl) 26 rfl ?_
    exact retD X779 hx hlk hret (hb hby d20_26) hh779 ⟨congrArg (fun q => some (Value.double q)) (nd_zero z0).symm, M779, rfl⟩ (by decide) (by decide)
  · skip
    refine s_dloadN X779 hx (hb hby d20_17) rfl 18 rfl ?_
    refine s_dconst0 X779 hx (hb hby d20_18) (0 : UInt64) rfl 19 rfl ?_
    refine s_dcmp X779 hx (hb hby d20_19) (1 : Int32) (by rw [show FP.dcmp d (0 : UInt64) = some .gt from z1]; rfl) 20 rfl ?_
    refine s_ifY X779 hx (hb hby d20_20) (by decide) 27 (by decide) (by decide) ?_
    refine s_dloadN X779 hx (hb hby d20_27) rfl 28 rfl ?_
    obtain ⟨T780, X780, e780, st780⟩ := s_d2raw X779 hx hZ hown (wd hw 138 _ rfl) (wd hw 101 _ rfl) (wd hw 99 _ rfl) (wd hw 100 _ rfl) hh779 (hb hby d20_28) #[.val (.double d), .second] (by rw [hml]; rfl) d [] d.toInt64 rfl (by decide) 0 (by show 2 * 0 + _ ≤ _; exact Nat.le_of_eq rfl) (by decide) 31 rfl
    refine Go.via st780 ?_
    show Go p e below _ (T780.setTop (mkF m 31 #[.val (.double d), .second] [.long d.toInt64]))
    refine s_dloadN X780 hx (hb hby d20_31) rfl 32 rfl ?_
    refine s_dconst0 X780 hx (hb hby d20_32) (0 : UInt64) rfl 33 rfl ?_
    refine s_dcmp X780 hx (hb hby d20_33) (1 : Int32) (by rw [show FP.dcmp d (0 : UInt64) = some .gt from z1]; rfl) 34 rfl ?_
    refine s_ifN X780 hx (hb hby d20_34) (by decide) 37 rfl ?_
    refine s_ldc2J X780 hx (hb hby d20_37) hZ hown (wd hw 139 _ rfl) 40 rfl ?_
    refine s_goto X780 hx (hb hby d20_40) 44 (by decide) (by decide) ?_
    refine s_ladd X780 hx (hb hby d20_44) (d.toInt64 + (-1 : Int64)) rfl 45 rfl ?_
    obtain ⟨T781, X781, e781, st781⟩ := s_raw2d X780 hx hZ hown (wd hw 140 _ rfl) (wd hw 130 _ rfl) (wd hw 129 _ rfl) (wd hw 100 _ rfl) e780 (hb hby d20_45) #[.val (.double d), .second] (by rw [hml]; rfl) (d.toInt64 + (-1 : Int64)) (hP.downOk z0) [] (d.toInt64 + (-1 : Int64)).toUInt64 rfl (by decide) 0 (by show 2 * 0 + _ ≤ _; exact Nat.le_of_eq rfl) (by decide) 48 rfl
    refine Go.via st781 ?_
    show Go p e below _ (T781.setTop (mkF m 48 #[.val (.double d), .second] [.double ((d.toInt64 + (-1 : Int64)).toUInt64)]))
    exact retD X781 hx hlk hret (hb hby d20_48) e781 ⟨congrArg (fun q => some (Value.double q)) (nd_pos z0).symm, M779, rfl⟩ (by decide) (by decide)
theorem d18_0 : decode prog_15_method_12_code 0 = .ok (.aload_n 0, 1) := by decide +kernel
theorem d18_1 : decode prog_15_method_12_code 1 = .ok (.getfield 65, 3) := by decide +kernel
theorem d18_4 : decode prog_15_method_12_code 4 = .ok (.aload_n 0, 1) := by decide +kernel
theorem d18_5 : decode prog_15_method_12_code 5 = .ok (.getfield 39, 3) := by decide +kernel
theorem d18_8 : decode prog_15_method_12_code 8 = .ok (.if_icmp .lt 34, 3) := by decide +kernel
theorem d18_11 : decode prog_15_method_12_code 11 = .ok (.aload_n 0, 1) := by decide +kernel
theorem d18_12 : decode prog_15_method_12_code 12 = .ok (.dup, 1) := by decide +kernel
theorem d18_13 : decode prog_15_method_12_code 13 = .ok (.getfield 62, 3) := by decide +kernel
theorem d18_16 : decode prog_15_method_12_code 16 = .ok (.iconst 1, 1) := by decide +kernel
theorem d18_17 : decode prog_15_method_12_code 17 = .ok (.iadd, 1) := by decide +kernel
theorem d18_18 : decode prog_15_method_12_code 18 = .ok (.putfield 62, 3) := by decide +kernel
theorem d18_21 : decode prog_15_method_12_code 21 = .ok (.aload_n 0, 1) := by decide +kernel
theorem d18_22 : decode prog_15_method_12_code 22 = .ok (.dup, 1) := by decide +kernel
theorem d18_23 : decode prog_15_method_12_code 23 = .ok (.getfield 65, 3) := by decide +kernel
theorem d18_26 : decode prog_15_method_12_code 26 = .ok (.aload_n 0, 1) := by decide +kernel
theorem d18_27 : decode prog_15_method_12_code 27 = .ok (.getfield 52, 3) := by decide +kernel
theorem d18_30 : decode prog_15_method_12_code 30 = .ok (.aload_n 0, 1) := by decide +kernel
theorem d18_31 : decode prog_15_method_12_code 31 = .ok (.getfield 62, 3) := by decide +kernel
theorem d18_34 : decode prog_15_method_12_code 34 = .ok (.iaload, 1) := by decide +kernel
theorem d18_35 : decode prog_15_method_12_code 35 = .ok (.isub, 1) := by decide +kernel
theorem d18_36 : decode prog_15_method_12_code 36 = .ok (.putfield 65, 3) := by decide +kernel
theorem d18_39 : decode prog_15_method_12_code 39 = .ok (.goto (-39), 3) := by decide +kernel
theorem d18_42 : decode prog_15_method_12_code 42 = .ok (.aload_n 0, 1) := by decide +kernel
theorem d18_43 : decode prog_15_method_12_code 43 = .ok (.aload_n 0, 1) := by decide +kernel
theorem d18_44 : decode prog_15_method_12_code 44 = .ok (.getfield 28, 3) := by decide +kernel
theorem d18_47 : decode prog_15_method_12_code 47 = .ok (.aload_n 0, 1) := by decide +kernel
theorem d18_48 : decode prog_15_method_12_code 48 = .ok (.getfield 71, 3) := by decide +kernel
theorem d18_51 : decode prog_15_method_12_code 51 = .ok (.aload_n 0, 1) := by decide +kernel
theorem d18_52 : decode prog_15_method_12_code 52 = .ok (.getfield 62, 3) := by decide +kernel
theorem d18_55 : decode prog_15_method_12_code 55 = .ok (.i2l, 1) := by decide +kernel
theorem d18_56 : decode prog_15_method_12_code 56 = .ok (.ladd, 1) := by decide +kernel
theorem d18_57 : decode prog_15_method_12_code 57 = .ok (.invokestatic 75, 3) := by decide +kernel
theorem d18_60 : decode prog_15_method_12_code 60 = .ok (.invokestatic 117, 3) := by decide +kernel
theorem d18_63 : decode prog_15_method_12_code 63 = .ok (.invokestatic 121, 3) := by decide +kernel
theorem d18_66 : decode prog_15_method_12_code 66 = .ok (.putfield 28, 3) := by decide +kernel
theorem d18_69 : decode prog_15_method_12_code 69 = .ok (.return_, 1) := by decide +kernel
theorem pd_18 : parseMethodDescriptor "()V" = some ⟨[], none⟩ := by decide +kernel
theorem pn_18 : plainFor (⟨"com/example/priorsum/priorsum/RankedRows", "raiseFloor", "()V"⟩ : MethodName) = true := plainFor_of_name (by show plainName "com/example/priorsum/priorsum/RankedRows" = true; first | (simp [plainName, overriddenIn]; done) | decide +kernel)
set_option maxRecDepth 65536 in
set_option maxHeartbeats 40000000 in
theorem c_raise (l : Launch) (Z : State) (a0 : Array Value) (hw : ∀ d ∈ tables_1, d.before a0 Z = true) (ws : List Jvm.Cond) (a1 : Addr) (d : UInt64) (h0 : Heap) (n0 : Nat) (Z0 : n0 ≤ h0.size) (E1 : Exa Z h0 a1 "com/example/priorsum/priorsum/RankedRows") (g1 : n0 ≤ a1) (F_floor : Fld Z h0 a1 "com/example/priorsum/priorsum/RankedRows" "floor" "D" (.double (18442240474082181120 : UInt64))) (F_keep : Fld Z h0 a1 "com/example/priorsum/priorsum/RankedRows" "keep" "I" (.int (1 : Int32))) (F_base : Fld Z h0 a1 "com/example/priorsum/priorsum/RankedRows" "base" "J" (.long (kOf d))) (F_floorBucket : Fld Z h0 a1 "com/example/priorsum/priorsum/RankedRows" "floorBucket" "I" (.int (0 : Int32))) (F_above : Fld Z h0 a1 "com/example/priorsum/priorsum/RankedRows" "above" "I" (.int (0 : Int32))) (hP : PD d) :
    Ct l Z (⟨"com/example/priorsum/priorsum/RankedRows", "raiseFloor", "()V"⟩ : MethodName) prog_15_method_12_code 1 none ws ({ frames := 2, cells := 0, slots := 0, locals := 56 } : Room) #[.ref a1] h0 (fun v h L => v = none ∧ Fr n0 L ∧ Keep h0 h [a1] ∧ Fld Z h a1 "com/example/priorsum/priorsum/RankedRows" "floor" "D" (.double (ndOf d))) := by
  refine Ct.intro pn_18 #[.val (.ref a1)] (fun _ => by first | (simp [entryFrame, mkF, argsToLocals, Value.category, maxLocals]; done) | rfl) ?_
  intro p e s m below meth c T0 X0 hx hZ hby hml hown hnm hret hlk e0
  have N0 := Fr.nil n0
  have K0 := Keep.refl h0 [a1]
  refine s_aloadN X0 hx (hb hby d18_0) rfl rfl 1 rfl ?_
  obtain ⟨T782, X782, e782, st782⟩ := getF X0 hx hZ hown (host := "") (Or.inl (wd hw 119 _ rfl)) Via.refl e0 F_above (g := (mkF m 1 #[.val (.ref a1)] [.ref a1])) rfl rfl (hb hby d18_1)
  refine Go.via st782 ?_
  show Go p e below _ (T782.setTop (mkF m 4 #[.val (.ref a1)] [.int (0 : Int32)]))
  refine s_aloadN X782 hx (hb hby d18_4) rfl rfl 5 rfl ?_
  obtain ⟨T783, X783, e783, st783⟩ := getF X782 hx hZ hown (host := "") (Or.inl (wd hw 29 _ rfl)) Via.refl e782 F_keep (g := (mkF m 5 #[.val (.ref a1)] [.ref a1, .int (0 : Int32)])) rfl rfl (hb hby d18_5)
  refine Go.via st783 ?_
  show Go p e below _ (T783.setTop (mkF m 8 #[.val (.ref a1)] [.int (1 : Int32), .int (0 : Int32)]))
  refine s_icmpY X783 hx (hb hby d18_8) (by decide) 42 (by decide) (by decide) ?_
  refine s_aloadN X783 hx (hb hby d18_42) rfl rfl 43 rfl ?_
  refine s_aloadN X783 hx (hb hby d18_43) rfl rfl 44 rfl ?_
  obtain ⟨T784, X784, e784, st784⟩ := getF X783 hx hZ hown (host := "") (Or.inl (wd hw 22 _ rfl)) Via.refl e783 F_floor (g := (mkF m 44 #[.val (.ref a1)] [.ref a1, .ref a1])) rfl rfl (hb hby d18_44)
  refine Go.via st784 ?_
  show Go p e below _ (T784.setTop (mkF m 47 #[.val (.ref a1)] [.double (18442240474082181120 : UInt64), .ref a1]))
  refine s_aloadN X784 hx (hb hby d18_47) rfl rfl 48 rfl ?_
  obtain ⟨T785, X785, e785, st785⟩ := getF X784 hx hZ hown (host := "") (Or.inl (wd hw 110 _ rfl)) Via.refl e784 F_base (g := (mkF m 48 #[.val (.ref a1)] [.ref a1, .double (18442240474082181120 : UInt64), .ref a1])) rfl rfl (hb hby d18_48)
  refine Go.via st785 ?_
  show Go p e below _ (T785.setTop (mkF m 51 #[.val (.ref a1)] [.long (kOf d), .double (18442240474082181120 : UInt64), .ref a1]))
  refine s_aloadN X785 hx (hb hby d18_51) rfl rfl 52 rfl ?_
  obtain ⟨T786, X786, e786, st786⟩ := getF X785 hx hZ hown (host := "") (Or.inl (wd hw 112 _ rfl)) Via.refl e785 F_floorBucket (g := (mkF m 52 #[.val (.ref a1)] [.ref a1, .long (kOf d), .double (18442240474082181120 : UInt64), .ref a1])) rfl rfl (hb hby d18_52)
  refine Go.via st786 ?_
  show Go p e below _ (T786.setTop (mkF m 55 #[.val (.ref a1)] [.int (0 : Int32), .long (kOf d), .double (18442240474082181120 : UInt64), .ref a1]))
  refine s_i2l X786 hx (hb hby d18_55) (0 : Int64) rfl 56 rfl ?_
  refine s_ladd X786 hx (hb hby d18_56) (kOf d) (Int64.add_zero _) 57 rfl ?_
  obtain ⟨v787, T787, L787, X787, hQ787, st787⟩ := callStat X786 hx hZ hown (wd hw 125 _ rfl) (wd hw 126 _ rfl) (wd hw 2 _ rfl) (wd hw 127 _ rfl) (by decide) (c_edge l Z a0 hw [] d h0 n0 Z0 hP) e786 (L := #[.val (.ref a1)]) (hb hby d18_57) (by rw [hml]; rfl) [.long (kOf d)] [.double (18442240474082181120 : UInt64), .ref a1] rfl rfl pd_19 rfl 3 (by show 2 * 0 + _ ≤ _; exact Nat.le_of_eq rfl) (by decide) (by decide) (by decide) (by decide)
  obtain ⟨rfl, N787, hh787⟩ := hQ787
  have M787 := Fr.app N0 N787
  refine Go.via st787 ?_
  show Go p e below _ (T787.setTop (mkF m 60 #[.val (.ref a1)] [.double d, .double (18442240474082181120 : UInt64), .ref a1]))
  obtain ⟨v788, T788, L788, X788, hQ788, st788⟩ := callStat X787 hx hZ hown (wd hw 131 _ rfl) (wd hw 132 _ rfl) (wd hw 52 _ rfl) (wd hw 133 _ rfl) (by decide) (c_down l Z a0 hw [] d h0 n0 Z0 hP) hh787 (L := #[.val (.ref a1)]) (hb hby d18_60) (by rw [hml]; rfl) [.double d] [.double (18442240474082181120 : UInt64), .ref a1] rfl rfl pd_20 rfl 3 (by show 2 * 0 + _ ≤ _; exact Nat.le_of_eq rfl) (by decide) (by decide) (by decide) (by decide)
  obtain ⟨rfl, N788, hh788⟩ := hQ788
  have M788 := Fr.app M787 N788
  refine Go.via st788 ?_
  show Go p e below _ (T788.setTop (mkF m 63 #[.val (.ref a1)] [.double (ndOf d), .double (18442240474082181120 : UInt64), .ref a1]))
  obtain ⟨T789, X789, e789, st789⟩ := natS X788 hx hZ hown (wd hw 141 _ rfl) (wd hw 142 _ rfl) (wd hw 52 _ rfl) (wd hw 143 _ rfl) (by decide) hh788 (W := 1) (val' := .double (ndOf d)) (fun q => Jvm.Free.Fl.Abs.maxD_pays (18442240474082181120 : UInt64) (ndOf d) q (by decide) (by decide)) (g := (mkF m 63 #[.val (.ref a1)] [.double (ndOf d), .double (18442240474082181120 : UInt64), .ref a1])) rfl (by rw [hml]; rfl) (argsL := [.double (18442240474082181120 : UInt64), .double (ndOf d)]) (rest := [.ref a1]) (lenOf (d := "(DD)D") (ps := [.double, .double]) (r := some .double) (by decide +kernel) rfl) rfl (by show 2 * 0 + _ ≤ _; exact Nat.le_of_eq rfl) (hb hby d18_63) (by decide) (by decide) ⟨rfl, (by show (_ : UInt64) ≤ _; decide +kernel), hP.ndn⟩ (by rw [hP.max])
  refine Go.via st789 ?_
  show Go p e below _ (T789.setTop (mkF m 66 #[.val (.ref a1)] [.double (ndOf d), .ref a1]))
  obtain ⟨T790, h790, X790, e790, W790, st790⟩ := putF X789 hx hZ hown (host := "") (Or.inl (wd hw 22 _ rfl)) Via.refl e789 F_floor E1 (Or.inl (wd hw 23 _ rfl)) (wd hw 1 _ rfl) (ty := .double) (by decide) rfl rfl (g := (mkF m 66 #[.val (.ref a1)] [.double (ndOf d), .ref a1])) rfl rfl (hb hby d18_66)
  have N790 := Fr.snoc X790 M788 g1
  have F791 := F_floor.same W790
  have F792 := E1.wr W790
  have F793 := F_keep.other W790 (Or.inr (slot_ne (a0 := a0) (t := .int) (t' := .double) (Or.inr (wd hw 30 _ rfl)) (Or.inl (wd hw 23 _ rfl)) (by decide) (by decide) (by decide)))
  have F794 := F_base.other W790 (Or.inr (slot_ne (a0 := a0) (t := .long) (t' := .double) (Or.inl (wd hw 111 _ rfl)) (Or.inl (wd hw 23 _ rfl)) (by decide) (by decide) (by decide)))
  have F795 := F_floorBucket.other W790 (Or.inr (slot_ne (a0 := a0) (t := .int) (t' := .double) (Or.inl (wd hw 113 _ rfl)) (Or.inl (wd hw 23 _ rfl)) (by decide) (by decide) (by decide)))
  have F796 := F_above.other W790 (Or.inr (slot_ne (a0 := a0) (t := .int) (t' := .double) (Or.inl (wd hw 120 _ rfl)) (Or.inl (wd hw 23 _ rfl)) (by decide) (by decide) (by decide)))
  have Z797 : n0 ≤ h790.size := by rw [W790.size]; exact Z0
  have K798 := K0.wr W790 (Or.inl (by simp))
  refine Go.via st790 ?_
  show Go p e below _ (T790.setTop (mkF m 69 #[.val (.ref a1)] []))
  exact retV X790 hx hlk hret (hb hby d18_69) e790 ⟨rfl, N790, K798, F791⟩ (by decide) (by decide)
theorem d17_0 : decode prog_15_method_13_code 0 = .ok (.dload_n 1, 1) := by decide +kernel
theorem d17_1 : decode prog_15_method_13_code 1 = .ok (.invokestatic 103, 3) := by decide +kernel
theorem d17_4 : decode prog_15_method_13_code 4 = .ok (.aload_n 0, 1) := by decide +kernel
theorem d17_5 : decode prog_15_method_13_code 5 = .ok (.getfield 71, 3) := by decide +kernel
theorem d17_8 : decode prog_15_method_13_code 8 = .ok (.lsub, 1) := by decide +kernel
theorem d17_9 : decode prog_15_method_13_code 9 = .ok (.ldc2_w 124, 3) := by decide +kernel
theorem d17_12 : decode prog_15_method_13_code 12 = .ok (.invokestatic 126, 3) := by decide +kernel
theorem d17_15 : decode prog_15_method_13_code 15 = .ok (.l2i, 1) := by decide +kernel
theorem d17_16 : decode prog_15_method_13_code 16 = .ok (.ireturn, 1) := by decide +kernel
theorem pd_17 : parseMethodDescriptor "(D)I" = some ⟨[.double], some .int⟩ := by decide +kernel
theorem pn_17 : plainFor (⟨"com/example/priorsum/priorsum/RankedRows", "bucket", "(D)I"⟩ : MethodName) = true := plainFor_of_name (by show plainName "com/example/priorsum/priorsum/RankedRows" = true; first | (simp [plainName, overriddenIn]; done) | decide +kernel)
set_option maxRecDepth 65536 in
set_option maxHeartbeats 40000000 in
theorem c_bucket (l : Launch) (Z : State) (a0 : Array Value) (hw : ∀ d ∈ tables_1, d.before a0 Z = true) (ws : List Jvm.Cond) (a1 : Addr) (d : UInt64) (h0 : Heap) (n0 : Nat) (Z0 : n0 ≤ h0.size) (E1 : Exa Z h0 a1 "com/example/priorsum/priorsum/RankedRows") (F_base : Fld Z h0 a1 "com/example/priorsum/priorsum/RankedRows" "base" "J" (.long (kOf d))) :
    Ct l Z (⟨"com/example/priorsum/priorsum/RankedRows", "bucket", "(D)I"⟩ : MethodName) prog_15_method_13_code 3 (some .int) ws ({ frames := 2, cells := 0, slots := 0, locals := 53 } : Room) #[.ref a1, .double d] h0 (fun v h L => v = some (.int 0) ∧ Fr n0 L ∧ h = h0) := by
  refine Ct.intro pn_17 #[.val (.ref a1), .val (.double d), .second] (fun _ => by first | (simp [entryFrame, mkF, argsToLocals, Value.category, maxLocals]; done) | rfl) ?_
  intro p e s m below meth c T0 X0 hx hZ hby hml hown hnm hret hlk e0
  have N0 := Fr.nil n0
  refine s_dloadN X0 hx (hb hby d17_0) rfl 1 rfl ?_
  obtain ⟨v799, T799, L799, X799, hQ799, st799⟩ := callStat X0 hx hZ hown (wd hw 95 _ rfl) (wd hw 96 _ rfl) (wd hw 2 _ rfl) (wd hw 97 _ rfl) (by decide) (c_key l Z a0 hw [] d h0 n0 Z0) e0 (L := #[.val (.ref a1), .val (.double d), .second]) (hb hby d17_1) (by rw [hml]; rfl) [.double d] [] rfl rfl pd_14 rfl 0 (by show 2 * 0 + _ ≤ _; exact Nat.le_of_eq rfl) (by decide) (by decide) (by decide) (by decide)
  obtain ⟨rfl, N799, hh799⟩ := hQ799
  have M799 := Fr.app N0 N799
  refine Go.via st799 ?_
  show Go p e below _ (T799.setTop (mkF m 4 #[.val (.ref a1), .val (.double d), .second] [.long (kOf d)]))
  refine s_aloadN X799 hx (hb hby d17_4) rfl rfl 5 rfl ?_
  obtain ⟨T800, X800, e800, st800⟩ := getF X799 hx hZ hown (host := "") (Or.inl (wd hw 110 _ rfl)) Via.refl hh799 F_base (g := (mkF m 5 #[.val (.ref a1), .val (.double d), .second] [.ref a1, .long (kOf d)])) rfl rfl (hb hby d17_5)
  refine Go.via st800 ?_
  show Go p e below _ (T800.setTop (mkF m 8 #[.val (.ref a1), .val (.double d), .second] [.long (kOf d), .long (kOf d)]))
  refine s_lsub X800 hx (hb hby d17_8) (0 : Int64) (Int64.sub_self _) 9 rfl ?_
  refine s_ldc2J X800 hx (hb hby d17_9) hZ hown (wd hw 118 _ rfl) 12 rfl ?_
  obtain ⟨v801, T801, L801, X801, hQ801, st801⟩ := callStat X800 hx hZ hown (wd hw 54 _ rfl) (wd hw 55 _ rfl) (wd hw 52 _ rfl) (wd hw 56 _ rfl) (by decide) (c_minJ2 l Z a0 hw [] h0 n0 Z0) e800 (L := #[.val (.ref a1), .val (.double d), .second]) (hb hby d17_12) (by rw [hml]; rfl) [.long (0 : Int64), .long (2047 : Int64)] [] rfl rfl pd_6 rfl 0 (by show 2 * 0 + _ ≤ _; exact Nat.le_of_eq rfl) (by decide) (by decide) (by decide) (by decide)
  obtain ⟨rfl, N801, hh801⟩ := hQ801
  have M801 := Fr.app M799 N801
  refine Go.via st801 ?_
  show Go p e below _ (T801.setTop (mkF m 15 #[.val (.ref a1), .val (.double d), .second] [.long (0 : Int64)]))
  refine s_l2i X801 hx (hb hby d17_15) (0 : Int32) rfl 16 rfl ?_
  exact retI X801 hx hlk hret (hb hby d17_16) hh801 ⟨rfl, M801, rfl⟩ (by decide) (by decide)
theorem d16_0 : decode jdk_65_method_103_code 0 = .ok (.iconst 0, 1) := by decide +kernel
theorem d16_1 : decode jdk_65_method_103_code 1 = .ok (.istore_n 2, 1) := by decide +kernel
theorem d16_2 : decode jdk_65_method_103_code 2 = .ok (.aload_n 0, 1) := by decide +kernel
theorem d16_3 : decode jdk_65_method_103_code 3 = .ok (.arraylength, 1) := by decide +kernel
theorem d16_4 : decode jdk_65_method_103_code 4 = .ok (.istore_n 3, 1) := by decide +kernel
theorem d16_5 : decode jdk_65_method_103_code 5 = .ok (.iload_n 2, 1) := by decide +kernel
theorem d16_6 : decode jdk_65_method_103_code 6 = .ok (.iload_n 3, 1) := by decide +kernel
theorem d16_7 : decode jdk_65_method_103_code 7 = .ok (.if_icmp .ge 13, 3) := by decide +kernel
theorem d16_10 : decode jdk_65_method_103_code 10 = .ok (.aload_n 0, 1) := by decide +kernel
theorem d16_11 : decode jdk_65_method_103_code 11 = .ok (.iload_n 2, 1) := by decide +kernel
theorem d16_12 : decode jdk_65_method_103_code 12 = .ok (.iload_n 1, 1) := by decide +kernel
theorem d16_13 : decode jdk_65_method_103_code 13 = .ok (.iastore, 1) := by decide +kernel
theorem d16_14 : decode jdk_65_method_103_code 14 = .ok (.iinc 2 1, 3) := by decide +kernel
theorem d16_17 : decode jdk_65_method_103_code 17 = .ok (.goto (-12), 3) := by decide +kernel
theorem d16_20 : decode jdk_65_method_103_code 20 = .ok (.return_, 1) := by decide +kernel
theorem pd_16 : parseMethodDescriptor "([II)V" = some ⟨[.array .int, .int], none⟩ := by decide +kernel
theorem pn_16 : plainFor (⟨"java/util/Arrays", "fill", "([II)V"⟩ : MethodName) = true := by decide +kernel
set_option maxRecDepth 65536 in
set_option maxHeartbeats 40000000 in
theorem c_fill (l : Launch) (Z : State) (a0 : Array Value) (hw : ∀ d ∈ tables_1, d.before a0 Z = true) (ws : List Jvm.Cond) (a1 : Addr) (k1 : ClassId) (h0 : Heap) (n0 : Nat) (Z0 : n0 ≤ h0.size) (A1 : AR Z h0 a1 k1 .int (Value.int (0 : Int32) :: z2047)) (g1 : n0 ≤ a1) :
    Ct l Z (⟨"java/util/Arrays", "fill", "([II)V"⟩ : MethodName) jdk_65_method_103_code 4 none ws ({ frames := 0, cells := 0, slots := 0, locals := 0 } : Room) #[.ref a1, .int (0 : Int32)] h0 (fun v h L => v = none ∧ Fr n0 L ∧ Keep h0 h [a1] ∧ AR Z h a1 k1 .int (Value.int (0 : Int32) :: z2047)) := by
  refine Ct.intro pn_16 #[.val (.ref a1), .val (.int (0 : Int32)), .unset, .unset] (fun _ => by first | (simp [entryFrame, mkF, argsToLocals, Value.category, maxLocals]; done) | rfl) ?_
  intro p e s m below meth c T0 X0 hx hZ hby hml hown hnm hret hlk e0
  have N0 := Fr.nil n0
  have loop : ∀ (dd i : Nat) (T1 : State) (h1 : Heap) (Lc1 : List Loc), i + dd = 2048 → Stand p l e ({ frames := 0, cells := 0, slots := 0, locals := 0 } : Room) s m #[.ref a1, .int (0 : Int32)] below meth c T1 Lc1 0 0 → T1.heap = h1 → Fr n0 Lc1 → Keep h0 h1 [a1] → AR Z h1 a1 k1 .int (Value.int (0 : Int32) :: z2047) → Go p e below (EndsAt s (fun v h L => v = none ∧ Fr n0 L ∧ Keep h0 h [a1] ∧ AR Z h a1 k1 .int (Value.int (0 : Int32) :: z2047)) ({ frames := 0, cells := 0, slots := 0, locals := 0 } : Room)) (T1.setTop (mkF m 5 #[.val (.ref a1), .val (.int (0 : Int32)), .val (.int (Int32.ofNat i)), .val (.int (2048 : Int32))] [])) := by
    intro dd
    induction dd with
    | zero =>
      intro i T1 h1 Lc1 hi X1 e1 N1 K1 A1
      obtain rfl : i = 2048 := by omega
      refine s_iloadN X1 hx (hb hby d16_5) rfl 6 rfl ?_
      refine s_iloadN X1 hx (hb hby d16_6) rfl 7 rfl ?_
      refine s_icmpY X1 hx (hb hby d16_7) (by decide) 20 (by decide) (by decide) ?_
      exact retV X1 hx hlk hret (hb hby d16_20) e1 ⟨rfl, N1, K1, A1⟩ (by decide) (by decide)
    | succ dd ih =>
      intro i T1 h1 Lc1 hi X1 e1 N1 K1 A1
      have hlt : i < 2048 := by omega
      have ti : (Int32.ofNat i).toInt = (i : Int) := Int32.toInt_ofNat_of_lt (by omega)
      have z0 : (0 : Int32).toInt = 0 := rfl
      have z1 : (2048 : Int32).toInt = 2048 := rfl
      refine s_iloadN X1 hx (hb hby d16_5) rfl 6 rfl ?_
      refine s_iloadN X1 hx (hb hby d16_6) rfl 7 rfl ?_
      refine s_icmpN X1 hx (hb hby d16_7) (XT.ii_ge_f (by rw [Int32.lt_iff_toInt_lt, ti, z1]; omega)) 10 rfl ?_
      refine s_aloadN X1 hx (hb hby d16_10) rfl rfl 11 rfl ?_
      refine s_iloadN X1 hx (hb hby d16_11) rfl 12 rfl ?_
      refine s_iloadN X1 hx (hb hby d16_12) rfl 13 rfl ?_
      obtain ⟨T2, h2, X2, e2, W2, A2, st2⟩ := s_iastore X1 hx hZ e1 A1 (hb hby d16_13) #[.val (.ref a1), .val (.int (0 : Int32)), .val (.int (Int32.ofNat i)), .val (.int (2048 : Int32))] [] (j := Int32.ofNat i) i ⟨by rw [Int32.lt_iff_toInt_lt, ti, z0]; omega, by simp only [Int32.toNatClampNeg, ti]; rfl⟩ (by rw [zlen]; exact hlt) (0 : Int32) (Value.int (0 : Int32) :: z2047) (zset i) 14 rfl
      have N2 := Fr.snoc X2 N1 g1
      have K2 := K1.wr W2 (Or.inl (by simp))
      refine Go.via st2 ?_
      refine s_iinc X2 hx (hb hby d16_14) (Int32.ofNat (i + 1)) (by rw [Int32.ofNat_add]; rfl) rfl #[.val (.ref a1), .val (.int (0 : Int32)), .val (.int (Int32.ofNat (i + 1))), .val (.int (2048 : Int32))] rfl 17 rfl ?_
      refine s_goto X2 hx (hb hby d16_17) 5 (by decide) (by decide) ?_
      exact ih (i + 1) T2 h2 _ (by omega) X2 e2 N2 K2 A2
  refine s_iconst X0 hx (hb hby d16_0) (0 : Int32) rfl 1 rfl ?_
  refine s_istoreN X0 hx (hb hby d16_1) #[.val (.ref a1), .val (.int (0 : Int32)), .val (.int (0 : Int32)), .unset] rfl 2 rfl ?_
  refine s_aloadN X0 hx (hb hby d16_2) rfl rfl 3 rfl ?_
  refine s_len X0 hx hZ e0 A1 (hb hby d16_3) (2048 : Int32) (by rw [zlen]; rfl) 4 rfl ?_
  refine s_istoreN X0 hx (hb hby d16_4) #[.val (.ref a1), .val (.int (0 : Int32)), .val (.int (0 : Int32)), .val (.int (2048 : Int32))] rfl 5 rfl ?_
  exact loop 2048 0 T0 h0 [] rfl X0 e0 N0 (Keep.refl h0 [a1]) A1
theorem d15_0 : decode prog_15_method_11_code 0 = .ok (.aload_n 0, 1) := by decide +kernel
theorem d15_1 : decode prog_15_method_11_code 1 = .ok (.getfield 52, 3) := by decide +kernel
theorem d15_4 : decode prog_15_method_11_code 4 = .ok (.iconst 0, 1) := by decide +kernel
theorem d15_5 : decode prog_15_method_11_code 5 = .ok (.invokestatic 111, 3) := by decide +kernel
theorem d15_8 : decode prog_15_method_11_code 8 = .ok (.aload_n 0, 1) := by decide +kernel
theorem d15_9 : decode prog_15_method_11_code 9 = .ok (.lload_n 1, 1) := by decide +kernel
theorem d15_10 : decode prog_15_method_11_code 10 = .ok (.putfield 71, 3) := by decide +kernel
theorem d15_13 : decode prog_15_method_11_code 13 = .ok (.aload_n 0, 1) := by decide +kernel
theorem d15_14 : decode prog_15_method_11_code 14 = .ok (.iconst 0, 1) := by decide +kernel
theorem d15_15 : decode prog_15_method_11_code 15 = .ok (.putfield 62, 3) := by decide +kernel
theorem d15_18 : decode prog_15_method_11_code 18 = .ok (.iconst 0, 1) := by decide +kernel
theorem d15_19 : decode prog_15_method_11_code 19 = .ok (.istore_n 3, 1) := by decide +kernel
theorem d15_20 : decode prog_15_method_11_code 20 = .ok (.iconst 0, 1) := by decide +kernel
theorem d15_21 : decode prog_15_method_11_code 21 = .ok (.istore 4, 2) := by decide +kernel
theorem d15_23 : decode prog_15_method_11_code 23 = .ok (.iload 4, 2) := by decide +kernel
theorem d15_25 : decode prog_15_method_11_code 25 = .ok (.aload_n 0, 1) := by decide +kernel
theorem d15_26 : decode prog_15_method_11_code 26 = .ok (.getfield 46, 3) := by decide +kernel
theorem d15_29 : decode prog_15_method_11_code 29 = .ok (.if_icmp .ge 46, 3) := by decide +kernel
theorem d15_32 : decode prog_15_method_11_code 32 = .ok (.aload_n 0, 1) := by decide +kernel
theorem d15_33 : decode prog_15_method_11_code 33 = .ok (.aload_n 0, 1) := by decide +kernel
theorem d15_34 : decode prog_15_method_11_code 34 = .ok (.getfield 7, 3) := by decide +kernel
theorem d15_37 : decode prog_15_method_11_code 37 = .ok (.iload 4, 2) := by decide +kernel
theorem d15_39 : decode prog_15_method_11_code 39 = .ok (.daload, 1) := by decide +kernel
theorem d15_40 : decode prog_15_method_11_code 40 = .ok (.invokevirtual 58, 3) := by decide +kernel
theorem d15_43 : decode prog_15_method_11_code 43 = .ok (.istore 5, 2) := by decide +kernel
theorem d15_45 : decode prog_15_method_11_code 45 = .ok (.aload_n 0, 1) := by decide +kernel
theorem d15_46 : decode prog_15_method_11_code 46 = .ok (.getfield 52, 3) := by decide +kernel
theorem d15_49 : decode prog_15_method_11_code 49 = .ok (.iload 5, 2) := by decide +kernel
theorem d15_51 : decode prog_15_method_11_code 51 = .ok (.dup2, 1) := by decide +kernel
theorem d15_52 : decode prog_15_method_11_code 52 = .ok (.iaload, 1) := by decide +kernel
theorem d15_53 : decode prog_15_method_11_code 53 = .ok (.iconst 1, 1) := by decide +kernel
theorem d15_54 : decode prog_15_method_11_code 54 = .ok (.iadd, 1) := by decide +kernel
theorem d15_55 : decode prog_15_method_11_code 55 = .ok (.iastore, 1) := by decide +kernel
theorem d15_56 : decode prog_15_method_11_code 56 = .ok (.iload_n 3, 1) := by decide +kernel
theorem d15_57 : decode prog_15_method_11_code 57 = .ok (.iload 5, 2) := by decide +kernel
theorem d15_59 : decode prog_15_method_11_code 59 = .ok (.ifCond .le 7, 3) := by decide +kernel
theorem d15_62 : decode prog_15_method_11_code 62 = .ok (.iconst 1, 1) := by decide +kernel
theorem d15_63 : decode prog_15_method_11_code 63 = .ok (.goto 4, 3) := by decide +kernel
theorem d15_66 : decode prog_15_method_11_code 66 = .ok (.iconst 0, 1) := by decide +kernel
theorem d15_67 : decode prog_15_method_11_code 67 = .ok (.iadd, 1) := by decide +kernel
theorem d15_68 : decode prog_15_method_11_code 68 = .ok (.istore_n 3, 1) := by decide +kernel
theorem d15_69 : decode prog_15_method_11_code 69 = .ok (.iinc 4 1, 3) := by decide +kernel
theorem d15_72 : decode prog_15_method_11_code 72 = .ok (.goto (-49), 3) := by decide +kernel
theorem d15_75 : decode prog_15_method_11_code 75 = .ok (.aload_n 0, 1) := by decide +kernel
theorem d15_76 : decode prog_15_method_11_code 76 = .ok (.iload_n 3, 1) := by decide +kernel
theorem d15_77 : decode prog_15_method_11_code 77 = .ok (.putfield 65, 3) := by decide +kernel
theorem d15_80 : decode prog_15_method_11_code 80 = .ok (.aload_n 0, 1) := by decide +kernel
theorem d15_81 : decode prog_15_method_11_code 81 = .ok (.invokevirtual 68, 3) := by decide +kernel
theorem d15_84 : decode prog_15_method_11_code 84 = .ok (.return_, 1) := by decide +kernel
theorem pd_15 : parseMethodDescriptor "(J)V" = some ⟨[.long], none⟩ := by decide +kernel
theorem pn_15 : plainFor (⟨"com/example/priorsum/priorsum/RankedRows", "countFrom", "(J)V"⟩ : MethodName) = true := plainFor_of_name (by show plainName "com/example/priorsum/priorsum/RankedRows" = true; first | (simp [plainName, overriddenIn]; done) | decide +kernel)
set_option maxRecDepth 65536 in
set_option maxHeartbeats 40000000 in
theorem c_count (l : Launch) (Z : State) (a0 : Array Value) (hw : ∀ d ∈ tables_1, d.before a0 Z = true) (ws : List Jvm.Cond) (a1 aP aC : Addr) (kP kC : ClassId) (d : UInt64) (h0 : Heap) (n0 : Nat) (Z0 : n0 ≤ h0.size) (E1 : Exa Z h0 a1 "com/example/priorsum/priorsum/RankedRows") (g1 : n0 ≤ a1) (F_priorities : Fld Z h0 a1 "com/example/priorsum/priorsum/RankedRows" "priorities" "[D" (.ref aP)) (F_floor : Fld Z h0 a1 "com/example/priorsum/priorsum/RankedRows" "floor" "D" (.double (18442240474082181120 : UInt64))) (F_keep : Fld Z h0 a1 "com/example/priorsum/priorsum/RankedRows" "keep" "I" (.int (1 : Int32))) (F_held : Fld Z h0 a1 "com/example/priorsum/priorsum/RankedRows" "held" "I" (.int (1 : Int32))) (F_counts : Fld Z h0 a1 "com/example/priorsum/priorsum/RankedRows" "counts" "[I" (.ref aC)) (F_base : Fld Z h0 a1 "com/example/priorsum/priorsum/RankedRows" "base" "J" (.long (0 : Int64))) (F_floorBucket : Fld Z h0 a1 "com/example/priorsum/priorsum/RankedRows" "floorBucket" "I" (.int (0 : Int32))) (F_above : Fld Z h0 a1 "com/example/priorsum/priorsum/RankedRows" "above" "I" (.int (0 : Int32))) (A_aP : AR Z h0 aP kP .double [.double d, .double (0 : UInt64)]) (A_aC : AR Z h0 aC kC .int (.int (0 : Int32) :: z2047)) (ne_a1_aP : a1 ≠ aP) (ne_a1_aC : a1 ≠ aC) (ne_aP_aC : aP ≠ aC) (gC : n0 ≤ aC) (hP : PD d) :
    Ct l Z (⟨"com/example/priorsum/priorsum/RankedRows", "countFrom", "(J)V"⟩ : MethodName) prog_15_method_11_code 6 none ws ({ frames := 3, cells := 0, slots := 0, locals := 68 } : Room) #[.ref a1, .long (kOf d)] h0 (fun v h L => v = none ∧ Fr n0 L ∧ Keep h0 h [a1, aC] ∧ Fld Z h a1 "com/example/priorsum/priorsum/RankedRows" "floor" "D" (.double (ndOf d))) := by
  refine Ct.intro pn_15 #[.val (.ref a1), .val (.long (kOf d)), .second, .unset, .unset, .unset] (fun _ => by first | (simp [entryFrame, mkF, argsToLocals, Value.category, maxLocals]; done) | rfl) ?_
  intro p e s m below meth c T0 X0 hx hZ hby hml hown hnm hret hlk e0
  have N0 := Fr.nil n0
  have K0 := Keep.refl h0 [a1, aC]
  refine s_aloadN X0 hx (hb hby d15_0) rfl rfl 1 rfl ?_
  obtain ⟨T802, X802, e802, st802⟩ := getF X0 hx hZ hown (host := "") (Or.inl (wd hw 85 _ rfl)) Via.refl e0 F_counts (g := (mkF m 1 #[.val (.ref a1), .val (.long (kOf d)), .second, .unset, .unset, .unset] [.ref a1])) rfl rfl (hb hby d15_1)
  refine Go.via st802 ?_
  show Go p e below _ (T802.setTop (mkF m 4 #[.val (.ref a1), .val (.long (kOf d)), .second, .unset, .unset, .unset] [.ref aC]))
  refine s_iconst X802 hx (hb hby d15_4) (0 : Int32) rfl 5 rfl ?_
  obtain ⟨v803, T803, L803, X803, hQ803, st803⟩ := callStat X802 hx hZ hown (wd hw 107 _ rfl) (wd hw 108 _ rfl) (wd hw 59 _ rfl) (wd hw 109 _ rfl) (by decide) (c_fill l Z a0 hw [] aC kC h0 n0 Z0 A_aC gC) e802 (L := #[.val (.ref a1), .val (.long (kOf d)), .second, .unset, .unset, .unset]) (hb hby d15_5) (by rw [hml]; rfl) [.ref aC, .int (0 : Int32)] [] rfl rfl pd_16 rfl 0 (by show 2 * 0 + _ ≤ _; exact Nat.le_of_eq rfl) (by decide) (by decide) (by decide) (by decide)
  obtain ⟨rfl, N803, K803, G803⟩ := hQ803
  have M803 := Fr.app N0 N803
  have F804 := E1.keep K803
  have F805 := F_priorities.keep K803 (ninS ne_a1_aC nin0)
  have F806 := F_floor.keep K803 (ninS ne_a1_aC nin0)
  have F807 := F_keep.keep K803 (ninS ne_a1_aC nin0)
  have F808 := F_held.keep K803 (ninS ne_a1_aC nin0)
  have F809 := F_counts.keep K803 (ninS ne_a1_aC nin0)
  have F810 := F_base.keep K803 (ninS ne_a1_aC nin0)
  have F811 := F_floorBucket.keep K803 (ninS ne_a1_aC nin0)
  have F812 := F_above.keep K803 (ninS ne_a1_aC nin0)
  have F813 := A_aP.keep K803 (ninS ne_aP_aC nin0)
  have Z814 := Nat.le_trans Z0 K803.1
  have K815 := K0.trans K803 (allS (Or.inl (by simp)) all0)
  have e803 : T803.heap = T803.heap := rfl
  refine Go.via st803 ?_
  show Go p e below _ (T803.setTop (mkF m 8 #[.val (.ref a1), .val (.long (kOf d)), .second, .unset, .unset, .unset] []))
  refine s_aloadN X803 hx (hb hby d15_8) rfl rfl 9 rfl ?_
  refine s_lloadN X803 hx (hb hby d15_9) rfl 10 rfl ?_
  obtain ⟨T816, h816, X816, e816, W816, st816⟩ := putF X803 hx hZ hown (host := "") (Or.inl (wd hw 110 _ rfl)) Via.refl e803 F810 F804 (Or.inl (wd hw 111 _ rfl)) (wd hw 1 _ rfl) (ty := .long) (by decide) rfl rfl (g := (mkF m 10 #[.val (.ref a1), .val (.long (kOf d)), .second, .unset, .unset, .unset] [.long (kOf d), .ref a1])) rfl rfl (hb hby d15_10)
  have N816 := Fr.snoc X816 M803 g1
  have F817 := F810.same W816
  have F818 := F804.wr W816
  have F819 := F805.other W816 (Or.inr (slot_ne (a0 := a0) (t := .array .double) (t' := .long) (Or.inl (wd hw 11 _ rfl)) (Or.inl (wd hw 111 _ rfl)) (by decide) (by decide) (by decide)))
  have F820 := F806.other W816 (Or.inr (slot_ne (a0 := a0) (t := .double) (t' := .long) (Or.inl (wd hw 23 _ rfl)) (Or.inl (wd hw 111 _ rfl)) (by decide) (by decide) (by decide)))
  have F821 := F807.other W816 (Or.inr (slot_ne (a0 := a0) (t := .int) (t' := .long) (Or.inr (wd hw 30 _ rfl)) (Or.inl (wd hw 111 _ rfl)) (by decide) (by decide) (by decide)))
  have F822 := F808.other W816 (Or.inr (slot_ne (a0 := a0) (t := .int) (t' := .long) (Or.inl (wd hw 39 _ rfl)) (Or.inl (wd hw 111 _ rfl)) (by decide) (by decide) (by decide)))
  have F823 := F809.other W816 (Or.inr (slot_ne (a0 := a0) (t := .array .int) (t' := .long) (Or.inl (wd hw 86 _ rfl)) (Or.inl (wd hw 111 _ rfl)) (by decide) (by decide) (by decide)))
  have F824 := F811.other W816 (Or.inr (slot_ne (a0 := a0) (t := .int) (t' := .long) (Or.inl (wd hw 113 _ rfl)) (Or.inl (wd hw 111 _ rfl)) (by decide) (by decide) (by decide)))
  have F825 := F812.other W816 (Or.inr (slot_ne (a0 := a0) (t := .int) (t' := .long) (Or.inl (wd hw 120 _ rfl)) (Or.inl (wd hw 111 _ rfl)) (by decide) (by decide) (by decide)))
  have F826 := F813.other W816 ((ne_a1_aP).symm)
  have F827 := G803.other W816 ((ne_a1_aC).symm)
  have Z828 : n0 ≤ h816.size := by rw [W816.size]; exact Z814
  have K829 := K815.wr W816 (Or.inl (by simp))
  refine Go.via st816 ?_
  show Go p e below _ (T816.setTop (mkF m 13 #[.val (.ref a1), .val (.long (kOf d)), .second, .unset, .unset, .unset] []))
  refine s_aloadN X816 hx (hb hby d15_13) rfl rfl 14 rfl ?_
  refine s_iconst X816 hx (hb hby d15_14) (0 : Int32) rfl 15 rfl ?_
  obtain ⟨T830, h830, X830, e830, W830, st830⟩ := putF X816 hx hZ hown (host := "") (Or.inl (wd hw 112 _ rfl)) Via.refl e816 F824 F818 (Or.inl (wd hw 113 _ rfl)) (wd hw 1 _ rfl) (ty := .int) (by decide) rfl rfl (g := (mkF m 15 #[.val (.ref a1), .val (.long (kOf d)), .second, .unset, .unset, .unset] [.int (0 : Int32), .ref a1])) rfl rfl (hb hby d15_15)
  have N830 := Fr.snoc X830 N816 g1
  have F831 := F824.same W830
  have F832 := F818.wr W830
  have F833 := F819.other W830 (Or.inr (slot_ne (a0 := a0) (t := .array .double) (t' := .int) (Or.inl (wd hw 11 _ rfl)) (Or.inl (wd hw 113 _ rfl)) (by decide) (by decide) (by decide)))
  have F834 := F820.other W830 (Or.inr (slot_ne (a0 := a0) (t := .double) (t' := .int) (Or.inl (wd hw 23 _ rfl)) (Or.inl (wd hw 113 _ rfl)) (by decide) (by decide) (by decide)))
  have F835 := F821.other W830 (Or.inr (slot_ne (a0 := a0) (t := .int) (t' := .int) (Or.inr (wd hw 30 _ rfl)) (Or.inl (wd hw 113 _ rfl)) (by decide) (by decide) (by decide)))
  have F836 := F822.other W830 (Or.inr (slot_ne (a0 := a0) (t := .int) (t' := .int) (Or.inl (wd hw 39 _ rfl)) (Or.inl (wd hw 113 _ rfl)) (by decide) (by decide) (by decide)))
  have F837 := F823.other W830 (Or.inr (slot_ne (a0 := a0) (t := .array .int) (t' := .int) (Or.inl (wd hw 86 _ rfl)) (Or.inl (wd hw 113 _ rfl)) (by decide) (by decide) (by decide)))
  have F838 := F817.other W830 (Or.inr (slot_ne (a0 := a0) (t := .long) (t' := .int) (Or.inl (wd hw 111 _ rfl)) (Or.inl (wd hw 113 _ rfl)) (by decide) (by decide) (by decide)))
  have F839 := F825.other W830 (Or.inr (slot_ne (a0 := a0) (t := .int) (t' := .int) (Or.inl (wd hw 120 _ rfl)) (Or.inl (wd hw 113 _ rfl)) (by decide) (by decide) (by decide)))
  have F840 := F826.other W830 ((ne_a1_aP).symm)
  have F841 := F827.other W830 ((ne_a1_aC).symm)
  have Z842 : n0 ≤ h830.size := by rw [W830.size]; exact Z828
  have K843 := K829.wr W830 (Or.inl (by simp))
  refine Go.via st830 ?_
  show Go p e below _ (T830.setTop (mkF m 18 #[.val (.ref a1), .val (.long (kOf d)), .second, .unset, .unset, .unset] []))
  refine s_iconst X830 hx (hb hby d15_18) (0 : Int32) rfl 19 rfl ?_
  refine s_istoreN X830 hx (hb hby d15_19) #[.val (.ref a1), .val (.long (kOf d)), .second, .val (.int (0 : Int32)), .unset, .unset] rfl 20 rfl ?_
  refine s_iconst X830 hx (hb hby d15_20) (0 : Int32) rfl 21 rfl ?_
  refine s_istore X830 hx (hb hby d15_21) #[.val (.ref a1), .val (.long (kOf d)), .second, .val (.int (0 : Int32)), .val (.int (0 : Int32)), .unset] rfl 23 rfl ?_
  refine s_iload X830 hx (hb hby d15_23) rfl 25 rfl ?_
  refine s_aloadN X830 hx (hb hby d15_25) rfl rfl 26 rfl ?_
  obtain ⟨T844, X844, e844, st844⟩ := getF X830 hx hZ hown (host := "") (Or.inl (wd hw 38 _ rfl)) Via.refl e830 F836 (g := (mkF m 26 #[.val (.ref a1), .val (.long (kOf d)), .second, .val (.int (0 : Int32)), .val (.int (0 : Int32)), .unset] [.ref a1, .int (0 : Int32)])) rfl rfl (hb hby d15_26)
  refine Go.via st844 ?_
  show Go p e below _ (T844.setTop (mkF m 29 #[.val (.ref a1), .val (.long (kOf d)), .second, .val (.int (0 : Int32)), .val (.int (0 : Int32)), .unset] [.int (1 : Int32), .int (0 : Int32)]))
  refine s_icmpN X844 hx (hb hby d15_29) (by decide) 32 rfl ?_
  refine s_aloadN X844 hx (hb hby d15_32) rfl rfl 33 rfl ?_
  refine s_aloadN X844 hx (hb hby d15_33) rfl rfl 34 rfl ?_
  obtain ⟨T845, X845, e845, st845⟩ := getF X844 hx hZ hown (host := "") (Or.inl (wd hw 10 _ rfl)) Via.refl e844 F833 (g := (mkF m 34 #[.val (.ref a1), .val (.long (kOf d)), .second, .val (.int (0 : Int32)), .val (.int (0 : Int32)), .unset] [.ref a1, .ref a1])) rfl rfl (hb hby d15_34)
  refine Go.via st845 ?_
  show Go p e below _ (T845.setTop (mkF m 37 #[.val (.ref a1), .val (.long (kOf d)), .second, .val (.int (0 : Int32)), .val (.int (0 : Int32)), .unset] [.ref aP, .ref a1]))
  refine s_iload X845 hx (hb hby d15_37) rfl 39 rfl ?_
  refine s_daload X845 hx hZ e845 F840 (hb hby d15_39) (j := (0 : Int32)) 0 (by decide) (.double d) rfl 40 rfl ?_
  obtain ⟨v846, T846, L846, X846, hQ846, st846⟩ := callPriv X845 hx hZ hown (wd hw 114 _ rfl) (wd hw 116 _ rfl) (wd hw 1 _ rfl) (wd hw 115 _ rfl) (wd hw 2 _ rfl) (wd hw 117 _ rfl) (by decide) (c_bucket l Z a0 hw [] a1 d h830 n0 Z842 F832 F838) e845 a1 F832 (L := #[.val (.ref a1), .val (.long (kOf d)), .second, .val (.int (0 : Int32)), .val (.int (0 : Int32)), .unset]) (hb hby d15_40) (by rw [hml]; rfl) [.double d] [] rfl rfl pd_17 rfl 0 (by show 2 * 0 + _ ≤ _; exact Nat.le_of_eq rfl) (by decide) (by decide) (by decide) (by decide)
  obtain ⟨rfl, N846, hh846⟩ := hQ846
  have M846 := Fr.app N830 N846
  refine Go.via st846 ?_
  show Go p e below _ (T846.setTop (mkF m 43 #[.val (.ref a1), .val (.long (kOf d)), .second, .val (.int (0 : Int32)), .val (.int (0 : Int32)), .unset] [.int (0 : Int32)]))
  refine s_istore X846 hx (hb hby d15_43) #[.val (.ref a1), .val (.long (kOf d)), .second, .val (.int (0 : Int32)), .val (.int (0 : Int32)), .val (.int (0 : Int32))] rfl 45 rfl ?_
  refine s_aloadN X846 hx (hb hby d15_45) rfl rfl 46 rfl ?_
  obtain ⟨T847, X847, e847, st847⟩ := getF X846 hx hZ hown (host := "") (Or.inl (wd hw 85 _ rfl)) Via.refl hh846 F837 (g := (mkF m 46 #[.val (.ref a1), .val (.long (kOf d)), .second, .val (.int (0 : Int32)), .val (.int (0 : Int32)), .val (.int (0 : Int32))] [.ref a1])) rfl rfl (hb hby d15_46)
  refine Go.via st847 ?_
  show Go p e below _ (T847.setTop (mkF m 49 #[.val (.ref a1), .val (.long (kOf d)), .second, .val (.int (0 : Int32)), .val (.int (0 : Int32)), .val (.int (0 : Int32))] [.ref aC]))
  refine s_iload X847 hx (hb hby d15_49) rfl 51 rfl ?_
  refine s_dup2 X847 hx (hb hby d15_51) rfl rfl 52 rfl ?_
  refine s_iaload X847 hx hZ e847 F841 (hb hby d15_52) (j := (0 : Int32)) 0 (by decide) (.int (0 : Int32)) rfl 53 rfl ?_
  refine s_iconst X847 hx (hb hby d15_53) (1 : Int32) rfl 54 rfl ?_
  refine s_iadd X847 hx (hb hby d15_54) (1 : Int32) rfl 55 rfl ?_
  obtain ⟨T848, h848, X848, e848, W848, A848, st848⟩ := s_iastore X847 hx hZ e847 F841 (hb hby d15_55) #[.val (.ref a1), .val (.long (kOf d)), .second, .val (.int (0 : Int32)), .val (.int (0 : Int32)), .val (.int (0 : Int32))] [] (j := (0 : Int32)) 0 (by decide) (by rw [one_len]; decide) (1 : Int32) (.int (1 : Int32) :: z2047) rfl 56 rfl
  have N848 := Fr.snoc X848 M846 gC
  have F849 := F832.wr W848
  have F850 := F833.other W848 (Or.inl ne_a1_aC)
  have F851 := F834.other W848 (Or.inl ne_a1_aC)
  have F852 := F835.other W848 (Or.inl ne_a1_aC)
  have F853 := F836.other W848 (Or.inl ne_a1_aC)
  have F854 := F837.other W848 (Or.inl ne_a1_aC)
  have F855 := F838.other W848 (Or.inl ne_a1_aC)
  have F856 := F831.other W848 (Or.inl ne_a1_aC)
  have F857 := F839.other W848 (Or.inl ne_a1_aC)
  have F858 := F840.other W848 ne_aP_aC
  have Z859 : n0 ≤ h848.size := by rw [W848.size]; exact Z842
  have K860 := K843.wr W848 (Or.inl (by simp))
  refine Go.via st848 ?_
  refine s_iloadN X848 hx (hb hby d15_56) rfl 57 rfl ?_
  refine s_iload X848 hx (hb hby d15_57) rfl 59 rfl ?_
  refine s_ifY X848 hx (hb hby d15_59) (by decide) 66 (by decide) (by decide) ?_
  refine s_iconst X848 hx (hb hby d15_66) (0 : Int32) rfl 67 rfl ?_
  refine s_iadd X848 hx (hb hby d15_67) (0 : Int32) rfl 68 rfl ?_
  refine s_istoreN X848 hx (hb hby d15_68) #[.val (.ref a1), .val (.long (kOf d)), .second, .val (.int (0 : Int32)), .val (.int (0 : Int32)), .val (.int (0 : Int32))] rfl 69 rfl ?_
  refine s_iinc X848 hx (hb hby d15_69) (1 : Int32) rfl rfl #[.val (.ref a1), .val (.long (kOf d)), .second, .val (.int (0 : Int32)), .val (.int (1 : Int32)), .val (.int (0 : Int32))] rfl 72 rfl ?_
  refine s_goto X848 hx (hb hby d15_72) 23 (by decide) (by decide) ?_
  refine s_iload X848 hx (hb hby d15_23) rfl 25 rfl ?_
  refine s_aloadN X848 hx (hb hby d15_25) rfl rfl 26 rfl ?_
  obtain ⟨T861, X861, e861, st861⟩ := getF X848 hx hZ hown (host := "") (Or.inl (wd hw 38 _ rfl)) Via.refl e848 F853 (g := (mkF m 26 #[.val (.ref a1), .val (.long (kOf d)), .second, .val (.int (0 : Int32)), .val (.int (1 : Int32)), .val (.int (0 : Int32))] [.ref a1, .int (1 : Int32)])) rfl rfl (hb hby d15_26)
  refine Go.via st861 ?_
  show Go p e below _ (T861.setTop (mkF m 29 #[.val (.ref a1), .val (.long (kOf d)), .second, .val (.int (0 : Int32)), .val (.int (1 : Int32)), .val (.int (0 : Int32))] [.int (1 : Int32), .int (1 : Int32)]))
  refine s_icmpY X861 hx (hb hby d15_29) (by decide) 75 (by decide) (by decide) ?_
  refine s_aloadN X861 hx (hb hby d15_75) rfl rfl 76 rfl ?_
  refine s_iloadN X861 hx (hb hby d15_76) rfl 77 rfl ?_
  obtain ⟨T862, h862, X862, e862, W862, st862⟩ := putF X861 hx hZ hown (host := "") (Or.inl (wd hw 119 _ rfl)) Via.refl e861 F857 F849 (Or.inl (wd hw 120 _ rfl)) (wd hw 1 _ rfl) (ty := .int) (by decide) rfl rfl (g := (mkF m 77 #[.val (.ref a1), .val (.long (kOf d)), .second, .val (.int (0 : Int32)), .val (.int (1 : Int32)), .val (.int (0 : Int32))] [.int (0 : Int32), .ref a1])) rfl rfl (hb hby d15_77)
  have N862 := Fr.snoc X862 N848 g1
  have F863 := F857.same W862
  have F864 := F849.wr W862
  have F865 := F850.other W862 (Or.inr (slot_ne (a0 := a0) (t := .array .double) (t' := .int) (Or.inl (wd hw 11 _ rfl)) (Or.inl (wd hw 120 _ rfl)) (by decide) (by decide) (by decide)))
  have F866 := F851.other W862 (Or.inr (slot_ne (a0 := a0) (t := .double) (t' := .int) (Or.inl (wd hw 23 _ rfl)) (Or.inl (wd hw 120 _ rfl)) (by decide) (by decide) (by decide)))
  have F867 := F852.other W862 (Or.inr (slot_ne (a0 := a0) (t := .int) (t' := .int) (Or.inr (wd hw 30 _ rfl)) (Or.inl (wd hw 120 _ rfl)) (by decide) (by decide) (by decide)))
  have F868 := F853.other W862 (Or.inr (slot_ne (a0 := a0) (t := .int) (t' := .int) (Or.inl (wd hw 39 _ rfl)) (Or.inl (wd hw 120 _ rfl)) (by decide) (by decide) (by decide)))
  have F869 := F854.other W862 (Or.inr (slot_ne (a0 := a0) (t := .array .int) (t' := .int) (Or.inl (wd hw 86 _ rfl)) (Or.inl (wd hw 120 _ rfl)) (by decide) (by decide) (by decide)))
  have F870 := F855.other W862 (Or.inr (slot_ne (a0 := a0) (t := .long) (t' := .int) (Or.inl (wd hw 111 _ rfl)) (Or.inl (wd hw 120 _ rfl)) (by decide) (by decide) (by decide)))
  have F871 := F856.other W862 (Or.inr (slot_ne (a0 := a0) (t := .int) (t' := .int) (Or.inl (wd hw 113 _ rfl)) (Or.inl (wd hw 120 _ rfl)) (by decide) (by decide) (by decide)))
  have F872 := F858.other W862 ((ne_a1_aP).symm)
  have F873 := A848.other W862 ((ne_a1_aC).symm)
  have Z874 : n0 ≤ h862.size := by rw [W862.size]; exact Z859
  have K875 := K860.wr W862 (Or.inl (by simp))
  refine Go.via st862 ?_
  show Go p e below _ (T862.setTop (mkF m 80 #[.val (.ref a1), .val (.long (kOf d)), .second, .val (.int (0 : Int32)), .val (.int (1 : Int32)), .val (.int (0 : Int32))] []))
  refine s_aloadN X862 hx (hb hby d15_80) rfl rfl 81 rfl ?_
  obtain ⟨v876, T876, L876, X876, hQ876, st876⟩ := callPriv X862 hx hZ hown (wd hw 121 _ rfl) (wd hw 123 _ rfl) (wd hw 1 _ rfl) (wd hw 122 _ rfl) (wd hw 2 _ rfl) (wd hw 124 _ rfl) (by decide) (c_raise l Z a0 hw [] a1 d h862 n0 Z874 F864 g1 F866 F867 F870 F871 F863 hP) e862 a1 F864 (L := #[.val (.ref a1), .val (.long (kOf d)), .second, .val (.int (0 : Int32)), .val (.int (1 : Int32)), .val (.int (0 : Int32))]) (hb hby d15_81) (by rw [hml]; rfl) [] [] rfl rfl pd_18 rfl 0 (by show 2 * 0 + _ ≤ _; exact Nat.le_of_eq rfl) (by decide) (by decide) (by decide) (by decide)
  obtain ⟨rfl, N876, K876, G876⟩ := hQ876
  have M876 := Fr.app N862 N876
  have F877 := F864.keep K876
  have F878 := F872.keep K876 (ninS ((ne_a1_aP).symm) nin0)
  have F879 := F873.keep K876 (ninS ((ne_a1_aC).symm) nin0)
  have Z880 := Nat.le_trans Z874 K876.1
  have K881 := K875.trans K876 (allS (Or.inl (by simp)) all0)
  have e876 : T876.heap = T876.heap := rfl
  refine Go.via st876 ?_
  show Go p e below _ (T876.setTop (mkF m 84 #[.val (.ref a1), .val (.long (kOf d)), .second, .val (.int (0 : Int32)), .val (.int (1 : Int32)), .val (.int (0 : Int32))] []))
  exact retV X876 hx hlk hret (hb hby d15_84) e876 ⟨rfl, M876, K881, G876⟩ (by decide) (by decide)
theorem d12_0 : decode prog_15_method_10_code 0 = .ok (.ldc2_w 79, 3) := by decide +kernel
theorem d12_3 : decode prog_15_method_10_code 3 = .ok (.dstore_n 1, 1) := by decide +kernel
theorem d12_4 : decode prog_15_method_10_code 4 = .ok (.iconst 0, 1) := by decide +kernel
theorem d12_5 : decode prog_15_method_10_code 5 = .ok (.istore_n 3, 1) := by decide +kernel
theorem d12_6 : decode prog_15_method_10_code 6 = .ok (.iload_n 3, 1) := by decide +kernel
theorem d12_7 : decode prog_15_method_10_code 7 = .ok (.aload_n 0, 1) := by decide +kernel
theorem d12_8 : decode prog_15_method_10_code 8 = .ok (.getfield 46, 3) := by decide +kernel
theorem d12_11 : decode prog_15_method_10_code 11 = .ok (.if_icmp .ge 20, 3) := by decide +kernel
theorem d12_14 : decode prog_15_method_10_code 14 = .ok (.dload_n 1, 1) := by decide +kernel
theorem d12_15 : decode prog_15_method_10_code 15 = .ok (.aload_n 0, 1) := by decide +kernel
theorem d12_16 : decode prog_15_method_10_code 16 = .ok (.getfield 7, 3) := by decide +kernel
theorem d12_19 : decode prog_15_method_10_code 19 = .ok (.iload_n 3, 1) := by decide +kernel
theorem d12_20 : decode prog_15_method_10_code 20 = .ok (.daload, 1) := by decide +kernel
theorem d12_21 : decode prog_15_method_10_code 21 = .ok (.invokestatic 97, 3) := by decide +kernel
theorem d12_24 : decode prog_15_method_10_code 24 = .ok (.dstore_n 1, 1) := by decide +kernel
theorem d12_25 : decode prog_15_method_10_code 25 = .ok (.iinc 3 1, 3) := by decide +kernel
theorem d12_28 : decode prog_15_method_10_code 28 = .ok (.goto (-22), 3) := by decide +kernel
theorem d12_31 : decode prog_15_method_10_code 31 = .ok (.aload_n 0, 1) := by decide +kernel
theorem d12_32 : decode prog_15_method_10_code 32 = .ok (.sipush 2048, 3) := by decide +kernel
theorem d12_35 : decode prog_15_method_10_code 35 = .ok (.newarray .int, 2) := by decide +kernel
theorem d12_37 : decode prog_15_method_10_code 37 = .ok (.putfield 52, 3) := by decide +kernel
theorem d12_40 : decode prog_15_method_10_code 40 = .ok (.aload_n 0, 1) := by decide +kernel
theorem d12_41 : decode prog_15_method_10_code 41 = .ok (.dload_n 1, 1) := by decide +kernel
theorem d12_42 : decode prog_15_method_10_code 42 = .ok (.invokestatic 103, 3) := by decide +kernel
theorem d12_45 : decode prog_15_method_10_code 45 = .ok (.invokevirtual 107, 3) := by decide +kernel
theorem d12_48 : decode prog_15_method_10_code 48 = .ok (.return_, 1) := by decide +kernel
theorem pd_12 : parseMethodDescriptor "()V" = some ⟨[], none⟩ := by decide +kernel
theorem pn_12 : plainFor (⟨"com/example/priorsum/priorsum/RankedRows", "startCounting", "()V"⟩ : MethodName) = true := plainFor_of_name (by show plainName "com/example/priorsum/priorsum/RankedRows" = true; first | (simp [plainName, overriddenIn]; done) | decide +kernel)
set_option maxRecDepth 65536 in
set_option maxHeartbeats 40000000 in
theorem c_start (l : Launch) (Z : State) (a0 : Array Value) (hw : ∀ d ∈ tables_1, d.before a0 Z = true) (ws : List Jvm.Cond) (a1 aP : Addr) (kP : ClassId) (d : UInt64) (h0 : Heap) (n0 : Nat) (Z0 : n0 ≤ h0.size) (E1 : Exa Z h0 a1 "com/example/priorsum/priorsum/RankedRows") (g1 : n0 ≤ a1) (F_priorities : Fld Z h0 a1 "com/example/priorsum/priorsum/RankedRows" "priorities" "[D" (.ref aP)) (F_floor : Fld Z h0 a1 "com/example/priorsum/priorsum/RankedRows" "floor" "D" (.double (18442240474082181120 : UInt64))) (F_keep : Fld Z h0 a1 "com/example/priorsum/priorsum/RankedRows" "keep" "I" (.int (1 : Int32))) (F_held : Fld Z h0 a1 "com/example/priorsum/priorsum/RankedRows" "held" "I" (.int (1 : Int32))) (F_counts : Fld Z h0 a1 "com/example/priorsum/priorsum/RankedRows" "counts" "[I" (.null)) (F_base : Fld Z h0 a1 "com/example/priorsum/priorsum/RankedRows" "base" "J" (.long (0 : Int64))) (F_floorBucket : Fld Z h0 a1 "com/example/priorsum/priorsum/RankedRows" "floorBucket" "I" (.int (0 : Int32))) (F_above : Fld Z h0 a1 "com/example/priorsum/priorsum/RankedRows" "above" "I" (.int (0 : Int32))) (A_aP : AR Z h0 aP kP .double [.double d, .double (0 : UInt64)]) (ne_a1_aP : a1 ≠ aP) (hP : PD d) :
    Ct l Z (⟨"com/example/priorsum/priorsum/RankedRows", "startCounting", "()V"⟩ : MethodName) prog_15_method_10_code 4 none ws ({ frames := 4, cells := 1, slots := 2048, locals := 85 } : Room) #[.ref a1] h0 (fun v h L => v = none ∧ Fr n0 L ∧ Keep h0 h [a1] ∧ Fld Z h a1 "com/example/priorsum/priorsum/RankedRows" "floor" "D" (.double (ndOf d))) := by
  refine Ct.intro pn_12 #[.val (.ref a1), .unset, .unset, .unset] (fun _ => by first | (simp [entryFrame, mkF, argsToLocals, Value.category, maxLocals]; done) | rfl) ?_
  intro p e s m below meth c T0 X0 hx hZ hby hml hown hnm hret hlk e0
  have N0 := Fr.nil n0
  have K0 := Keep.refl h0 [a1]
  refine s_ldc2D X0 hx (hb hby d12_0) hZ hown (wd hw 91 _ rfl) 3 rfl ?_
  refine s_dstoreN X0 hx (hb hby d12_3) #[.val (.ref a1), .val (.double (9218868437227405312 : UInt64)), .second, .unset] rfl 4 rfl ?_
  refine s_iconst X0 hx (hb hby d12_4) (0 : Int32) rfl 5 rfl ?_
  refine s_istoreN X0 hx (hb hby d12_5) #[.val (.ref a1), .val (.double (9218868437227405312 : UInt64)), .second, .val (.int (0 : Int32))] rfl 6 rfl ?_
  refine s_iloadN X0 hx (hb hby d12_6) rfl 7 rfl ?_
  refine s_aloadN X0 hx (hb hby d12_7) rfl rfl 8 rfl ?_
  obtain ⟨T882, X882, e882, st882⟩ := getF X0 hx hZ hown (host := "") (Or.inl (wd hw 38 _ rfl)) Via.refl e0 F_held (g := (mkF m 8 #[.val (.ref a1), .val (.double (9218868437227405312 : UInt64)), .second, .val (.int (0 : Int32))] [.ref a1, .int (0 : Int32)])) rfl rfl (hb hby d12_8)
  refine Go.via st882 ?_
  show Go p e below _ (T882.setTop (mkF m 11 #[.val (.ref a1), .val (.double (9218868437227405312 : UInt64)), .second, .val (.int (0 : Int32))] [.int (1 : Int32), .int (0 : Int32)]))
  refine s_icmpN X882 hx (hb hby d12_11) (by decide) 14 rfl ?_
  refine s_dloadN X882 hx (hb hby d12_14) rfl 15 rfl ?_
  refine s_aloadN X882 hx (hb hby d12_15) rfl rfl 16 rfl ?_
  obtain ⟨T883, X883, e883, st883⟩ := getF X882 hx hZ hown (host := "") (Or.inl (wd hw 10 _ rfl)) Via.refl e882 F_priorities (g := (mkF m 16 #[.val (.ref a1), .val (.double (9218868437227405312 : UInt64)), .second, .val (.int (0 : Int32))] [.ref a1, .double (9218868437227405312 : UInt64)])) rfl rfl (hb hby d12_16)
  refine Go.via st883 ?_
  show Go p e below _ (T883.setTop (mkF m 19 #[.val (.ref a1), .val (.double (9218868437227405312 : UInt64)), .second, .val (.int (0 : Int32))] [.ref aP, .double (9218868437227405312 : UInt64)]))
  refine s_iloadN X883 hx (hb hby d12_19) rfl 20 rfl ?_
  refine s_daload X883 hx hZ e883 A_aP (hb hby d12_20) (j := (0 : Int32)) 0 (by decide) (.double d) rfl 21 rfl ?_
  obtain ⟨T884, X884, e884, st884⟩ := natS X883 hx hZ hown (wd hw 92 _ rfl) (wd hw 93 _ rfl) (wd hw 52 _ rfl) (wd hw 94 _ rfl) (by decide) e883 (W := 0) (val' := .double d) (fun q => Jvm.Free.Fl.Abs.minD_pays (9218868437227405312 : UInt64) d q (by decide) (by decide)) (g := (mkF m 21 #[.val (.ref a1), .val (.double (9218868437227405312 : UInt64)), .second, .val (.int (0 : Int32))] [.double d, .double (9218868437227405312 : UInt64)])) rfl (by rw [hml]; rfl) (argsL := [.double (9218868437227405312 : UInt64), .double d]) (rest := []) (lenOf (d := "(DD)D") (ps := [.double, .double]) (r := some .double) (by decide +kernel) rfl) rfl (by show 2 * 0 + _ ≤ _; exact Nat.le_of_eq rfl) (hb hby d12_21) (by decide) (by decide) ⟨rfl, (by show (_ : UInt64) ≤ _; decide +kernel), hP.nn⟩ (by rw [hP.min])
  refine Go.via st884 ?_
  show Go p e below _ (T884.setTop (mkF m 24 #[.val (.ref a1), .val (.double (9218868437227405312 : UInt64)), .second, .val (.int (0 : Int32))] [.double d]))
  refine s_dstoreN X884 hx (hb hby d12_24) #[.val (.ref a1), .val (.double d), .second, .val (.int (0 : Int32))] rfl 25 rfl ?_
  refine s_iinc X884 hx (hb hby d12_25) (1 : Int32) rfl rfl #[.val (.ref a1), .val (.double d), .second, .val (.int (1 : Int32))] rfl 28 rfl ?_
  refine s_goto X884 hx (hb hby d12_28) 6 (by decide) (by decide) ?_
  refine s_iloadN X884 hx (hb hby d12_6) rfl 7 rfl ?_
  refine s_aloadN X884 hx (hb hby d12_7) rfl rfl 8 rfl ?_
  obtain ⟨T885, X885, e885, st885⟩ := getF X884 hx hZ hown (host := "") (Or.inl (wd hw 38 _ rfl)) Via.refl e884 F_held (g := (mkF m 8 #[.val (.ref a1), .val (.double d), .second, .val (.int (1 : Int32))] [.ref a1, .int (1 : Int32)])) rfl rfl (hb hby d12_8)
  refine Go.via st885 ?_
  show Go p e below _ (T885.setTop (mkF m 11 #[.val (.ref a1), .val (.double d), .second, .val (.int (1 : Int32))] [.int (1 : Int32), .int (1 : Int32)]))
  refine s_icmpY X885 hx (hb hby d12_11) (by decide) 31 (by decide) (by decide) ?_
  refine s_aloadN X885 hx (hb hby d12_31) rfl rfl 32 rfl ?_
  refine s_sipush X885 hx (hb hby d12_32) (2048 : Int32) rfl 35 rfl ?_
  obtain ⟨T886, h886, c886, X886, e886, E886, A886, st886⟩ := s_newarray X885 hx hZ (aty := .int) (wd hw 24 _ rfl) e885 (hb hby d12_35) #[.val (.ref a1), .val (.double d), .second, .val (.int (1 : Int32))] [.ref a1] (n := (2048 : Int32)) 2048 (by decide) (.int (0 : Int32) :: z2047) rfl (by decide) (by decide) (by decide) 37 rfl
  obtain ⟨a886, g886⟩ : ∃ z, z = h0.size := ⟨_, rfl⟩
  rw [← g886] at A886 st886
  have ne887 : a1 ≠ a886 := by rw [g886]; exact Nat.ne_of_lt E1.lt
  have ne888 : aP ≠ a886 := by rw [g886]; exact Nat.ne_of_lt A_aP.lt
  have q889 : n0 ≤ a886 := by rw [g886]; exact Z0
  have q890 : h0.size ≤ a886 := by rw [g886]; exact K0.1
  have K891 := K0.ext E886
  have F892 := E1.ext E886
  have F893 := F_priorities.ext E886
  have F894 := F_floor.ext E886
  have F895 := F_keep.ext E886
  have F896 := F_held.ext E886
  have F897 := F_counts.ext E886
  have F898 := F_base.ext E886
  have F899 := F_floorBucket.ext E886
  have F900 := F_above.ext E886
  have F901 := A_aP.ext E886
  have Z902 := Nat.le_trans Z0 E886.1
  refine Go.via st886 ?_
  obtain ⟨T903, h903, X903, e903, W903, st903⟩ := putF X886 hx hZ hown (host := "") (Or.inl (wd hw 85 _ rfl)) Via.refl e886 F897 F892 (Or.inl (wd hw 86 _ rfl)) (wd hw 1 _ rfl) (ty := .array .int) (by decide) rfl rfl (g := (mkF m 37 #[.val (.ref a1), .val (.double d), .second, .val (.int (1 : Int32))] [.ref a886, .ref a1])) rfl rfl (hb hby d12_37)
  have N903 := Fr.snoc X903 N0 g1
  have F904 := F897.same W903
  have F905 := F892.wr W903
  have F906 := F893.other W903 (Or.inr (slot_ne (a0 := a0) (t := .array .double) (t' := .array .int) (Or.inl (wd hw 11 _ rfl)) (Or.inl (wd hw 86 _ rfl)) (by decide) (by decide) (by decide)))
  have F907 := F894.other W903 (Or.inr (slot_ne (a0 := a0) (t := .double) (t' := .array .int) (Or.inl (wd hw 23 _ rfl)) (Or.inl (wd hw 86 _ rfl)) (by decide) (by decide) (by decide)))
  have F908 := F895.other W903 (Or.inr (slot_ne (a0 := a0) (t := .int) (t' := .array .int) (Or.inr (wd hw 30 _ rfl)) (Or.inl (wd hw 86 _ rfl)) (by decide) (by decide) (by decide)))
  have F909 := F896.other W903 (Or.inr (slot_ne (a0 := a0) (t := .int) (t' := .array .int) (Or.inl (wd hw 39 _ rfl)) (Or.inl (wd hw 86 _ rfl)) (by decide) (by decide) (by decide)))
  have F910 := F898.other W903 (Or.inr (slot_ne (a0 := a0) (t := .long) (t' := .array .int) (Or.inl (wd hw 111 _ rfl)) (Or.inl (wd hw 86 _ rfl)) (by decide) (by decide) (by decide)))
  have F911 := F899.other W903 (Or.inr (slot_ne (a0 := a0) (t := .int) (t' := .array .int) (Or.inl (wd hw 113 _ rfl)) (Or.inl (wd hw 86 _ rfl)) (by decide) (by decide) (by decide)))
  have F912 := F900.other W903 (Or.inr (slot_ne (a0 := a0) (t := .int) (t' := .array .int) (Or.inl (wd hw 120 _ rfl)) (Or.inl (wd hw 86 _ rfl)) (by decide) (by decide) (by decide)))
  have F913 := F901.other W903 ((ne_a1_aP).symm)
  have F914 := A886.other W903 ((ne887).symm)
  have Z915 : n0 ≤ h903.size := by rw [W903.size]; exact Z902
  have K916 := K891.wr W903 (Or.inl (by simp))
  refine Go.via st903 ?_
  show Go p e below _ (T903.setTop (mkF m 40 #[.val (.ref a1), .val (.double d), .second, .val (.int (1 : Int32))] []))
  refine s_aloadN X903 hx (hb hby d12_40) rfl rfl 41 rfl ?_
  refine s_dloadN X903 hx (hb hby d12_41) rfl 42 rfl ?_
  obtain ⟨v917, T917, L917, X917, hQ917, st917⟩ := callStat X903 hx hZ hown (wd hw 95 _ rfl) (wd hw 96 _ rfl) (wd hw 2 _ rfl) (wd hw 97 _ rfl) (by decide) (c_key l Z a0 hw [] d h903 n0 Z915) e903 (L := #[.val (.ref a1), .val (.double d), .second, .val (.int (1 : Int32))]) (hb hby d12_42) (by rw [hml]; rfl) [.double d] [.ref a1] rfl rfl pd_14 rfl 1 (by show 2 * 0 + _ ≤ _; exact Nat.le_of_eq rfl) (by decide) (by decide) (by decide) (by decide)
  obtain ⟨rfl, N917, hh917⟩ := hQ917
  have M917 := Fr.app N903 N917
  refine Go.via st917 ?_
  show Go p e below _ (T917.setTop (mkF m 45 #[.val (.ref a1), .val (.double d), .second, .val (.int (1 : Int32))] [.long (kOf d), .ref a1]))
  obtain ⟨v918, T918, L918, X918, hQ918, st918⟩ := callPriv X917 hx hZ hown (wd hw 103 _ rfl) (wd hw 105 _ rfl) (wd hw 1 _ rfl) (wd hw 104 _ rfl) (wd hw 2 _ rfl) (wd hw 106 _ rfl) (by decide) (c_count l Z a0 hw [] a1 aP a886 kP c886 d h903 n0 Z915 F905 g1 F906 F907 F908 F909 F904 F910 F911 F912 F913 F914 ne_a1_aP ne887 ne888 q889 hP) hh917 a1 F905 (L := #[.val (.ref a1), .val (.double d), .second, .val (.int (1 : Int32))]) (hb hby d12_45) (by rw [hml]; rfl) [.long (kOf d)] [] rfl rfl pd_15 rfl 0 (by show 2 * 0 + _ ≤ _; exact Nat.le_of_eq rfl) (by decide) (by decide) (by decide) (by decide)
  obtain ⟨rfl, N918, K918, G918⟩ := hQ918
  have M918 := Fr.app M917 N918
  have F919 := F905.keep K918
  have F920 := F913.keep K918 (ninS ((ne_a1_aP).symm) (ninS ne888 nin0))
  have Z921 := Nat.le_trans Z915 K918.1
  have K922 := K916.trans K918 (allS (Or.inl (by simp)) (allS (Or.inr q890) all0))
  have e918 : T918.heap = T918.heap := rfl
  refine Go.via st918 ?_
  show Go p e below _ (T918.setTop (mkF m 48 #[.val (.ref a1), .val (.double d), .second, .val (.int (1 : Int32))] []))
  exact retV X918 hx hlk hret (hb hby d12_48) e918 ⟨rfl, M918, K922, G918⟩ (by decide) (by decide)
theorem d2_0 : decode prog_15_method_3_code 0 = .ok (.aload_n 0, 1) := by decide +kernel
theorem d2_1 : decode prog_15_method_3_code 1 = .ok (.getfield 46, 3) := by decide +kernel
theorem d2_4 : decode prog_15_method_3_code 4 = .ok (.aload_n 0, 1) := by decide +kernel
theorem d2_5 : decode prog_15_method_3_code 5 = .ok (.getfield 7, 3) := by decide +kernel
theorem d2_8 : decode prog_15_method_3_code 8 = .ok (.arraylength, 1) := by decide +kernel
theorem d2_9 : decode prog_15_method_3_code 9 = .ok (.if_icmp .ne 7, 3) := by decide +kernel
theorem d2_12 : decode prog_15_method_3_code 12 = .ok (.aload_n 0, 1) := by decide +kernel
theorem d2_13 : decode prog_15_method_3_code 13 = .ok (.invokevirtual 49, 3) := by decide +kernel
theorem d2_16 : decode prog_15_method_3_code 16 = .ok (.dload 6, 2) := by decide +kernel
theorem d2_18 : decode prog_15_method_3_code 18 = .ok (.aload_n 0, 1) := by decide +kernel
theorem d2_19 : decode prog_15_method_3_code 19 = .ok (.getfield 28, 3) := by decide +kernel
theorem d2_22 : decode prog_15_method_3_code 22 = .ok (.dcmp .g, 1) := by decide +kernel
theorem d2_23 : decode prog_15_method_3_code 23 = .ok (.ifCond .gt 4, 3) := by decide +kernel
theorem d2_26 : decode prog_15_method_3_code 26 = .ok (.return_, 1) := by decide +kernel
theorem d2_27 : decode prog_15_method_3_code 27 = .ok (.aload_n 0, 1) := by decide +kernel
theorem d2_28 : decode prog_15_method_3_code 28 = .ok (.getfield 46, 3) := by decide +kernel
theorem d2_31 : decode prog_15_method_3_code 31 = .ok (.istore 8, 2) := by decide +kernel
theorem d2_33 : decode prog_15_method_3_code 33 = .ok (.aload_n 0, 1) := by decide +kernel
theorem d2_34 : decode prog_15_method_3_code 34 = .ok (.getfield 7, 3) := by decide +kernel
theorem d2_37 : decode prog_15_method_3_code 37 = .ok (.iload 8, 2) := by decide +kernel
theorem d2_39 : decode prog_15_method_3_code 39 = .ok (.dload 6, 2) := by decide +kernel
theorem d2_41 : decode prog_15_method_3_code 41 = .ok (.dastore, 1) := by decide +kernel
theorem d2_42 : decode prog_15_method_3_code 42 = .ok (.aload_n 0, 1) := by decide +kernel
theorem d2_43 : decode prog_15_method_3_code 43 = .ok (.getfield 13, 3) := by decide +kernel
theorem d2_46 : decode prog_15_method_3_code 46 = .ok (.iload 8, 2) := by decide +kernel
theorem d2_48 : decode prog_15_method_3_code 48 = .ok (.lload_n 1, 1) := by decide +kernel
theorem d2_49 : decode prog_15_method_3_code 49 = .ok (.lastore, 1) := by decide +kernel
theorem d2_50 : decode prog_15_method_3_code 50 = .ok (.aload_n 0, 1) := by decide +kernel
theorem d2_51 : decode prog_15_method_3_code 51 = .ok (.getfield 17, 3) := by decide +kernel
theorem d2_54 : decode prog_15_method_3_code 54 = .ok (.iload 8, 2) := by decide +kernel
theorem d2_56 : decode prog_15_method_3_code 56 = .ok (.dload 4, 2) := by decide +kernel
theorem d2_58 : decode prog_15_method_3_code 58 = .ok (.dastore, 1) := by decide +kernel
theorem d2_59 : decode prog_15_method_3_code 59 = .ok (.aload_n 0, 1) := by decide +kernel
theorem d2_60 : decode prog_15_method_3_code 60 = .ok (.getfield 20, 3) := by decide +kernel
theorem d2_63 : decode prog_15_method_3_code 63 = .ok (.iload 8, 2) := by decide +kernel
theorem d2_65 : decode prog_15_method_3_code 65 = .ok (.aload_n 3, 1) := by decide +kernel
theorem d2_66 : decode prog_15_method_3_code 66 = .ok (.aastore, 1) := by decide +kernel
theorem d2_67 : decode prog_15_method_3_code 67 = .ok (.aload_n 0, 1) := by decide +kernel
theorem d2_68 : decode prog_15_method_3_code 68 = .ok (.iload 8, 2) := by decide +kernel
theorem d2_70 : decode prog_15_method_3_code 70 = .ok (.iconst 1, 1) := by decide +kernel
theorem d2_71 : decode prog_15_method_3_code 71 = .ok (.iadd, 1) := by decide +kernel
theorem d2_72 : decode prog_15_method_3_code 72 = .ok (.putfield 46, 3) := by decide +kernel
theorem d2_75 : decode prog_15_method_3_code 75 = .ok (.aload_n 0, 1) := by decide +kernel
theorem d2_76 : decode prog_15_method_3_code 76 = .ok (.getfield 52, 3) := by decide +kernel
theorem d2_79 : decode prog_15_method_3_code 79 = .ok (.astore 9, 2) := by decide +kernel
theorem d2_81 : decode prog_15_method_3_code 81 = .ok (.aload 9, 2) := by decide +kernel
theorem d2_83 : decode prog_15_method_3_code 83 = .ok (.ifnonnull 19, 3) := by decide +kernel
theorem d2_86 : decode prog_15_method_3_code 86 = .ok (.aload_n 0, 1) := by decide +kernel
theorem d2_87 : decode prog_15_method_3_code 87 = .ok (.getfield 46, 3) := by decide +kernel
theorem d2_90 : decode prog_15_method_3_code 90 = .ok (.aload_n 0, 1) := by decide +kernel
theorem d2_91 : decode prog_15_method_3_code 91 = .ok (.getfield 39, 3) := by decide +kernel
theorem d2_94 : decode prog_15_method_3_code 94 = .ok (.if_icmp .ne 7, 3) := by decide +kernel
theorem d2_97 : decode prog_15_method_3_code 97 = .ok (.aload_n 0, 1) := by decide +kernel
theorem d2_98 : decode prog_15_method_3_code 98 = .ok (.invokevirtual 55, 3) := by decide +kernel
theorem d2_101 : decode prog_15_method_3_code 101 = .ok (.return_, 1) := by decide +kernel
theorem d2_102 : decode prog_15_method_3_code 102 = .ok (.aload_n 0, 1) := by decide +kernel
theorem d2_103 : decode prog_15_method_3_code 103 = .ok (.dload 6, 2) := by decide +kernel
theorem d2_105 : decode prog_15_method_3_code 105 = .ok (.invokevirtual 58, 3) := by decide +kernel
theorem d2_108 : decode prog_15_method_3_code 108 = .ok (.istore 10, 2) := by decide +kernel
theorem d2_110 : decode prog_15_method_3_code 110 = .ok (.aload 9, 2) := by decide +kernel
theorem d2_112 : decode prog_15_method_3_code 112 = .ok (.iload 10, 2) := by decide +kernel
theorem d2_114 : decode prog_15_method_3_code 114 = .ok (.dup2, 1) := by decide +kernel
theorem d2_115 : decode prog_15_method_3_code 115 = .ok (.iaload, 1) := by decide +kernel
theorem d2_116 : decode prog_15_method_3_code 116 = .ok (.iconst 1, 1) := by decide +kernel
theorem d2_117 : decode prog_15_method_3_code 117 = .ok (.iadd, 1) := by decide +kernel
theorem d2_118 : decode prog_15_method_3_code 118 = .ok (.iastore, 1) := by decide +kernel
theorem d2_119 : decode prog_15_method_3_code 119 = .ok (.iload 10, 2) := by decide +kernel
theorem d2_121 : decode prog_15_method_3_code 121 = .ok (.aload_n 0, 1) := by decide +kernel
theorem d2_122 : decode prog_15_method_3_code 122 = .ok (.getfield 62, 3) := by decide +kernel
theorem d2_125 : decode prog_15_method_3_code 125 = .ok (.if_icmp .le 25, 3) := by decide +kernel
theorem d2_128 : decode prog_15_method_3_code 128 = .ok (.aload_n 0, 1) := by decide +kernel
theorem d2_129 : decode prog_15_method_3_code 129 = .ok (.dup, 1) := by decide +kernel
theorem d2_130 : decode prog_15_method_3_code 130 = .ok (.getfield 65, 3) := by decide +kernel
theorem d2_133 : decode prog_15_method_3_code 133 = .ok (.iconst 1, 1) := by decide +kernel
theorem d2_134 : decode prog_15_method_3_code 134 = .ok (.iadd, 1) := by decide +kernel
theorem d2_135 : decode prog_15_method_3_code 135 = .ok (.dup_x1, 1) := by decide +kernel
theorem d2_136 : decode prog_15_method_3_code 136 = .ok (.putfield 65, 3) := by decide +kernel
theorem d2_139 : decode prog_15_method_3_code 139 = .ok (.aload_n 0, 1) := by decide +kernel
theorem d2_140 : decode prog_15_method_3_code 140 = .ok (.getfield 39, 3) := by decide +kernel
theorem d2_143 : decode prog_15_method_3_code 143 = .ok (.if_icmp .lt 7, 3) := by decide +kernel
theorem d2_146 : decode prog_15_method_3_code 146 = .ok (.aload_n 0, 1) := by decide +kernel
theorem d2_147 : decode prog_15_method_3_code 147 = .ok (.invokevirtual 68, 3) := by decide +kernel
theorem d2_150 : decode prog_15_method_3_code 150 = .ok (.return_, 1) := by decide +kernel
theorem pd_2 : parseMethodDescriptor "(JLjava/lang/Object;DD)V" = some ⟨[.long, .object "java/lang/Object", .double, .double], none⟩ := by decide +kernel
theorem pn_2 : plainFor (⟨"com/example/priorsum/priorsum/RankedRows", "add", "(JLjava/lang/Object;DD)V"⟩ : MethodName) = true := plainFor_of_name (by show plainName "com/example/priorsum/priorsum/RankedRows" = true; first | (simp [plainName, overriddenIn]; done) | decide +kernel)
set_option maxRecDepth 65536 in
set_option maxHeartbeats 40000000 in
theorem c_add (l : Launch) (Z : State) (a0 : Array Value) (hw : ∀ d ∈ tables_1, d.before a0 Z = true) (ws : List Jvm.Cond) (a1 aP aI aW aT mr : Addr) (kP kI kW kT : ClassId) (j : Int64) (d : UInt64) (h0 : Heap) (n0 : Nat) (Z0 : n0 ≤ h0.size) (E1 : Exa Z h0 a1 "com/example/priorsum/priorsum/RankedRows") (g1 : n0 ≤ a1) (F_priorities : Fld Z h0 a1 "com/example/priorsum/priorsum/RankedRows" "priorities" "[D" (.ref aP)) (F_indices : Fld Z h0 a1 "com/example/priorsum/priorsum/RankedRows" "indices" "[J" (.ref aI)) (F_weights : Fld Z h0 a1 "com/example/priorsum/priorsum/RankedRows" "weights" "[D" (.ref aW)) (F_items : Fld Z h0 a1 "com/example/priorsum/priorsum/RankedRows" "items" "[Ljava/lang/Object;" (.ref aT)) (F_floor : Fld Z h0 a1 "com/example/priorsum/priorsum/RankedRows" "floor" "D" (.double (18442240474082181120 : UInt64))) (F_keep : Fld Z h0 a1 "com/example/priorsum/priorsum/RankedRows" "keep" "I" (.int (1 : Int32))) (F_capacity : Fld Z h0 a1 "com/example/priorsum/priorsum/RankedRows" "capacity" "I" (.int (2 : Int32))) (F_held : Fld Z h0 a1 "com/example/priorsum/priorsum/RankedRows" "held" "I" (.int (0 : Int32))) (F_counts : Fld Z h0 a1 "com/example/priorsum/priorsum/RankedRows" "counts" "[I" (.null)) (F_base : Fld Z h0 a1 "com/example/priorsum/priorsum/RankedRows" "base" "J" (.long (0 : Int64))) (F_floorBucket : Fld Z h0 a1 "com/example/priorsum/priorsum/RankedRows" "floorBucket" "I" (.int (0 : Int32))) (F_above : Fld Z h0 a1 "com/example/priorsum/priorsum/RankedRows" "above" "I" (.int (0 : Int32))) (A_aP : AR Z h0 aP kP .double []) (A_aI : AR Z h0 aI kI .long []) (A_aW : AR Z h0 aW kW .double []) (A_aT : AR Z h0 aT kT (.object "java/lang/Object") []) (E_aT : Exa Z h0 aT "[Ljava/lang/Object;") (ne_a1_aP : a1 ≠ aP) (ne_a1_aI : a1 ≠ aI) (ne_a1_aW : a1 ≠ aW) (ne_a1_aT : a1 ≠ aT) (Mm : Mi Z "[Ljava/lang/Object;" mr) (hP : PD d) :
    Ct l Z (⟨"com/example/priorsum/priorsum/RankedRows", "add", "(JLjava/lang/Object;DD)V"⟩ : MethodName) prog_15_method_3_code 11 none ws ({ frames := 5, cells := 5, slots := 2056, locals := 100 } : Room) #[.ref a1, .long j, .null, .double (4607182418800017408 : UInt64), .double d] h0 (fun v h L => v = none ∧ Fr n0 L ∧ Keep h0 h [a1] ∧ Fld Z h a1 "com/example/priorsum/priorsum/RankedRows" "floor" "D" (.double (ndOf d))) := by
  refine Ct.intro pn_2 #[.val (.ref a1), .val (.long j), .second, .val (.null), .val (.double (4607182418800017408 : UInt64)), .second, .val (.double d), .second, .unset, .unset, .unset] (fun _ => by first | (simp [entryFrame, mkF, argsToLocals, Value.category, maxLocals]; done) | rfl) ?_
  intro p e s m below meth c T0 X0 hx hZ hby hml hown hnm hret hlk e0
  have N0 := Fr.nil n0
  have K0 := Keep.refl h0 [a1]
  refine s_aloadN X0 hx (hb hby d2_0) rfl rfl 1 rfl ?_
  obtain ⟨T923, X923, e923, st923⟩ := getF X0 hx hZ hown (host := "") (Or.inl (wd hw 38 _ rfl)) Via.refl e0 F_held (g := (mkF m 1 #[.val (.ref a1), .val (.long j), .second, .val (.null), .val (.double (4607182418800017408 : UInt64)), .second, .val (.double d), .second, .unset, .unset, .unset] [.ref a1])) rfl rfl (hb hby d2_1)
  refine Go.via st923 ?_
  show Go p e below _ (T923.setTop (mkF m 4 #[.val (.ref a1), .val (.long j), .second, .val (.null), .val (.double (4607182418800017408 : UInt64)), .second, .val (.double d), .second, .unset, .unset, .unset] [.int (0 : Int32)]))
  refine s_aloadN X923 hx (hb hby d2_4) rfl rfl 5 rfl ?_
  obtain ⟨T924, X924, e924, st924⟩ := getF X923 hx hZ hown (host := "") (Or.inl (wd hw 10 _ rfl)) Via.refl e923 F_priorities (g := (mkF m 5 #[.val (.ref a1), .val (.long j), .second, .val (.null), .val (.double (4607182418800017408 : UInt64)), .second, .val (.double d), .second, .unset, .unset, .unset] [.ref a1, .int (0 : Int32)])) rfl rfl (hb hby d2_5)
  refine Go.via st924 ?_
  show Go p e below _ (T924.setTop (mkF m 8 #[.val (.ref a1), .val (.long j), .second, .val (.null), .val (.double (4607182418800017408 : UInt64)), .second, .val (.double d), .second, .unset, .unset, .unset] [.ref aP, .int (0 : Int32)]))
  refine s_len X924 hx hZ e924 A_aP (hb hby d2_8) (0 : Int32) rfl 9 rfl ?_
  refine s_icmpN X924 hx (hb hby d2_9) (by decide) 12 rfl ?_
  refine s_aloadN X924 hx (hb hby d2_12) rfl rfl 13 rfl ?_
  obtain ⟨v925, T925, L925, X925, hQ925, st925⟩ := callPriv X924 hx hZ hown (wd hw 40 _ rfl) (wd hw 42 _ rfl) (wd hw 1 _ rfl) (wd hw 41 _ rfl) (wd hw 2 _ rfl) (wd hw 43 _ rfl) (by decide) (c_room l Z a0 hw [] a1 aP aI aW aT mr kP kI kW kT h0 n0 Z0 E1 g1 F_priorities F_indices F_weights F_items F_floor F_keep F_capacity F_held F_counts F_base F_floorBucket F_above A_aP A_aI A_aW A_aT E_aT ne_a1_aP ne_a1_aI ne_a1_aW ne_a1_aT Mm) e924 a1 E1 (L := #[.val (.ref a1), .val (.long j), .second, .val (.null), .val (.double (4607182418800017408 : UInt64)), .second, .val (.double d), .second, .unset, .unset, .unset]) (hb hby d2_13) (by rw [hml]; rfl) [] [] rfl rfl pd_3 rfl 0 (by show 2 * 0 + _ ≤ _; exact Nat.le_of_eq rfl) (by decide) (by decide) (by decide) (by decide)
  obtain ⟨bP925, bI925, bW925, bT925, jP925, jI925, jW925, jT925, rfl, N925, K925, g925_P, g925_I, g925_W, g925_T, u925_PI, u925_PW, u925_PT, u925_IW, u925_IT, u925_WT, G925_priorities, G925_indices, G925_weights, G925_items, G925_floor, G925_keep, G925_capacity, G925_held, G925_counts, G925_base, G925_floorBucket, G925_above, A925_P, A925_I, A925_W, A925_T⟩ := hQ925
  have ne926 : a1 ≠ bP925 := Nat.ne_of_lt (Nat.lt_of_lt_of_le E1.lt g925_P)
  have ne927 : aP ≠ bP925 := Nat.ne_of_lt (Nat.lt_of_lt_of_le A_aP.lt g925_P)
  have ne928 : aI ≠ bP925 := Nat.ne_of_lt (Nat.lt_of_lt_of_le A_aI.lt g925_P)
  have ne929 : aW ≠ bP925 := Nat.ne_of_lt (Nat.lt_of_lt_of_le A_aW.lt g925_P)
  have ne930 : aT ≠ bP925 := Nat.ne_of_lt (Nat.lt_of_lt_of_le A_aT.lt g925_P)
  have q931 : n0 ≤ bP925 := Nat.le_trans Z0 g925_P
  have q932 : h0.size ≤ bP925 := Nat.le_trans K0.1 g925_P
  have ne933 : a1 ≠ bI925 := Nat.ne_of_lt (Nat.lt_of_lt_of_le E1.lt g925_I)
  have ne934 : aP ≠ bI925 := Nat.ne_of_lt (Nat.lt_of_lt_of_le A_aP.lt g925_I)
  have ne935 : aI ≠ bI925 := Nat.ne_of_lt (Nat.lt_of_lt_of_le A_aI.lt g925_I)
  have ne936 : aW ≠ bI925 := Nat.ne_of_lt (Nat.lt_of_lt_of_le A_aW.lt g925_I)
  have ne937 : aT ≠ bI925 := Nat.ne_of_lt (Nat.lt_of_lt_of_le A_aT.lt g925_I)
  have q938 : n0 ≤ bI925 := Nat.le_trans Z0 g925_I
  have q939 : h0.size ≤ bI925 := Nat.le_trans K0.1 g925_I
  have ne940 : a1 ≠ bW925 := Nat.ne_of_lt (Nat.lt_of_lt_of_le E1.lt g925_W)
  have ne941 : aP ≠ bW925 := Nat.ne_of_lt (Nat.lt_of_lt_of_le A_aP.lt g925_W)
  have ne942 : aI ≠ bW925 := Nat.ne_of_lt (Nat.lt_of_lt_of_le A_aI.lt g925_W)
  have ne943 : aW ≠ bW925 := Nat.ne_of_lt (Nat.lt_of_lt_of_le A_aW.lt g925_W)
  have ne944 : aT ≠ bW925 := Nat.ne_of_lt (Nat.lt_of_lt_of_le A_aT.lt g925_W)
  have q945 : n0 ≤ bW925 := Nat.le_trans Z0 g925_W
  have q946 : h0.size ≤ bW925 := Nat.le_trans K0.1 g925_W
  have ne947 : a1 ≠ bT925 := Nat.ne_of_lt (Nat.lt_of_lt_of_le E1.lt g925_T)
  have ne948 : aP ≠ bT925 := Nat.ne_of_lt (Nat.lt_of_lt_of_le A_aP.lt g925_T)
  have ne949 : aI ≠ bT925 := Nat.ne_of_lt (Nat.lt_of_lt_of_le A_aI.lt g925_T)
  have ne950 : aW ≠ bT925 := Nat.ne_of_lt (Nat.lt_of_lt_of_le A_aW.lt g925_T)
  have ne951 : aT ≠ bT925 := Nat.ne_of_lt (Nat.lt_of_lt_of_le A_aT.lt g925_T)
  have q952 : n0 ≤ bT925 := Nat.le_trans Z0 g925_T
  have q953 : h0.size ≤ bT925 := Nat.le_trans K0.1 g925_T
  have M925 := Fr.app N0 N925
  have F954 := E1.keep K925
  have F955 := A_aP.keep K925 (ninS ((ne_a1_aP).symm) nin0)
  have F956 := A_aI.keep K925 (ninS ((ne_a1_aI).symm) nin0)
  have F957 := A_aW.keep K925 (ninS ((ne_a1_aW).symm) nin0)
  have F958 := A_aT.keep K925 (ninS ((ne_a1_aT).symm) nin0)
  have F959 := E_aT.keep K925
  have Z960 := Nat.le_trans Z0 K925.1
  have K961 := K0.trans K925 (allS (Or.inl (by simp)) all0)
  have e925 : T925.heap = T925.heap := rfl
  refine Go.via st925 ?_
  show Go p e below _ (T925.setTop (mkF m 16 #[.val (.ref a1), .val (.long j), .second, .val (.null), .val (.double (4607182418800017408 : UInt64)), .second, .val (.double d), .second, .unset, .unset, .unset] []))
  refine s_dload X925 hx (hb hby d2_16) rfl 18 rfl ?_
  refine s_aloadN X925 hx (hb hby d2_18) rfl rfl 19 rfl ?_
  obtain ⟨T962, X962, e962, st962⟩ := getF X925 hx hZ hown (host := "") (Or.inl (wd hw 22 _ rfl)) Via.refl e925 G925_floor (g := (mkF m 19 #[.val (.ref a1), .val (.long j), .second, .val (.null), .val (.double (4607182418800017408 : UInt64)), .second, .val (.double d), .second, .unset, .unset, .unset] [.ref a1, .double d])) rfl rfl (hb hby d2_19)
  refine Go.via st962 ?_
  show Go p e below _ (T962.setTop (mkF m 22 #[.val (.ref a1), .val (.long j), .second, .val (.null), .val (.double (4607182418800017408 : UInt64)), .second, .val (.double d), .second, .unset, .unset, .unset] [.double (18442240474082181120 : UInt64), .double d]))
  refine s_dcmp X962 hx (hb hby d2_22) (1 : Int32) (by rw [show FP.dcmp d (18442240474082181120 : UInt64) = some .gt from hP.top]; rfl) 23 rfl ?_
  refine s_ifY X962 hx (hb hby d2_23) (by decide) 27 (by decide) (by decide) ?_
  refine s_aloadN X962 hx (hb hby d2_27) rfl rfl 28 rfl ?_
  obtain ⟨T963, X963, e963, st963⟩ := getF X962 hx hZ hown (host := "") (Or.inl (wd hw 38 _ rfl)) Via.refl e962 G925_held (g := (mkF m 28 #[.val (.ref a1), .val (.long j), .second, .val (.null), .val (.double (4607182418800017408 : UInt64)), .second, .val (.double d), .second, .unset, .unset, .unset] [.ref a1])) rfl rfl (hb hby d2_28)
  refine Go.via st963 ?_
  show Go p e below _ (T963.setTop (mkF m 31 #[.val (.ref a1), .val (.long j), .second, .val (.null), .val (.double (4607182418800017408 : UInt64)), .second, .val (.double d), .second, .unset, .unset, .unset] [.int (0 : Int32)]))
  refine s_istore X963 hx (hb hby d2_31) #[.val (.ref a1), .val (.long j), .second, .val (.null), .val (.double (4607182418800017408 : UInt64)), .second, .val (.double d), .second, .val (.int (0 : Int32)), .unset, .unset] rfl 33 rfl ?_
  refine s_aloadN X963 hx (hb hby d2_33) rfl rfl 34 rfl ?_
  obtain ⟨T964, X964, e964, st964⟩ := getF X963 hx hZ hown (host := "") (Or.inl (wd hw 10 _ rfl)) Via.refl e963 G925_priorities (g := (mkF m 34 #[.val (.ref a1), .val (.long j), .second, .val (.null), .val (.double (4607182418800017408 : UInt64)), .second, .val (.double d), .second, .val (.int (0 : Int32)), .unset, .unset] [.ref a1])) rfl rfl (hb hby d2_34)
  refine Go.via st964 ?_
  show Go p e below _ (T964.setTop (mkF m 37 #[.val (.ref a1), .val (.long j), .second, .val (.null), .val (.double (4607182418800017408 : UInt64)), .second, .val (.double d), .second, .val (.int (0 : Int32)), .unset, .unset] [.ref bP925]))
  refine s_iload X964 hx (hb hby d2_37) rfl 39 rfl ?_
  refine s_dload X964 hx (hb hby d2_39) rfl 41 rfl ?_
  obtain ⟨T965, h965, X965, e965, W965, A965, st965⟩ := s_dastore X964 hx hZ e964 A925_P (hb hby d2_41) #[.val (.ref a1), .val (.long j), .second, .val (.null), .val (.double (4607182418800017408 : UInt64)), .second, .val (.double d), .second, .val (.int (0 : Int32)), .unset, .unset] [] (j := (0 : Int32)) 0 (by decide) (by show 0 < 2; decide) d [.double d, .double (0 : UInt64)] rfl 42 rfl
  have N965 := Fr.snoc X965 M925 q931
  have F966 := F954.wr W965
  have F967 := F955.other W965 ne927
  have F968 := F956.other W965 ne928
  have F969 := F957.other W965 ne929
  have F970 := F958.other W965 ne930
  have F971 := F959.wr W965
  have F972 := G925_priorities.other W965 (Or.inl ne926)
  have F973 := G925_indices.other W965 (Or.inl ne926)
  have F974 := G925_weights.other W965 (Or.inl ne926)
  have F975 := G925_items.other W965 (Or.inl ne926)
  have F976 := G925_floor.other W965 (Or.inl ne926)
  have F977 := G925_keep.other W965 (Or.inl ne926)
  have F978 := G925_capacity.other W965 (Or.inl ne926)
  have F979 := G925_held.other W965 (Or.inl ne926)
  have F980 := G925_counts.other W965 (Or.inl ne926)
  have F981 := G925_base.other W965 (Or.inl ne926)
  have F982 := G925_floorBucket.other W965 (Or.inl ne926)
  have F983 := G925_above.other W965 (Or.inl ne926)
  have F984 := A925_I.other W965 ((u925_PI).symm)
  have F985 := A925_W.other W965 ((u925_PW).symm)
  have F986 := A925_T.other W965 ((u925_PT).symm)
  have Z987 : n0 ≤ h965.size := by rw [W965.size]; exact Z960
  have K988 := K961.wr W965 (Or.inr q932)
  refine Go.via st965 ?_
  refine s_aloadN X965 hx (hb hby d2_42) rfl rfl 43 rfl ?_
  obtain ⟨T989, X989, e989, st989⟩ := getF X965 hx hZ hown (host := "") (Or.inl (wd hw 13 _ rfl)) Via.refl e965 F973 (g := (mkF m 43 #[.val (.ref a1), .val (.long j), .second, .val (.null), .val (.double (4607182418800017408 : UInt64)), .second, .val (.double d), .second, .val (.int (0 : Int32)), .unset, .unset] [.ref a1])) rfl rfl (hb hby d2_43)
  refine Go.via st989 ?_
  show Go p e below _ (T989.setTop (mkF m 46 #[.val (.ref a1), .val (.long j), .second, .val (.null), .val (.double (4607182418800017408 : UInt64)), .second, .val (.double d), .second, .val (.int (0 : Int32)), .unset, .unset] [.ref bI925]))
  refine s_iload X989 hx (hb hby d2_46) rfl 48 rfl ?_
  refine s_lloadN X989 hx (hb hby d2_48) rfl 49 rfl ?_
  obtain ⟨T990, h990, X990, e990, W990, A990, st990⟩ := s_lastore X989 hx hZ e989 F984 (hb hby d2_49) #[.val (.ref a1), .val (.long j), .second, .val (.null), .val (.double (4607182418800017408 : UInt64)), .second, .val (.double d), .second, .val (.int (0 : Int32)), .unset, .unset] [] (j := (0 : Int32)) 0 (by decide) (by show 0 < 2; decide) j [.long j, .long (0 : Int64)] rfl 50 rfl
  have N990 := Fr.snoc X990 N965 q938
  have F991 := F966.wr W990
  have F992 := F967.other W990 ne934
  have F993 := F968.other W990 ne935
  have F994 := F969.other W990 ne936
  have F995 := F970.other W990 ne937
  have F996 := F971.wr W990
  have F997 := F972.other W990 (Or.inl ne933)
  have F998 := F973.other W990 (Or.inl ne933)
  have F999 := F974.other W990 (Or.inl ne933)
  have F1000 := F975.other W990 (Or.inl ne933)
  have F1001 := F976.other W990 (Or.inl ne933)
  have F1002 := F977.other W990 (Or.inl ne933)
  have F1003 := F978.other W990 (Or.inl ne933)
  have F1004 := F979.other W990 (Or.inl ne933)
  have F1005 := F980.other W990 (Or.inl ne933)
  have F1006 := F981.other W990 (Or.inl ne933)
  have F1007 := F982.other W990 (Or.inl ne933)
  have F1008 := F983.other W990 (Or.inl ne933)
  have F1009 := A965.other W990 u925_PI
  have F1010 := F985.other W990 ((u925_IW).symm)
  have F1011 := F986.other W990 ((u925_IT).symm)
  have Z1012 : n0 ≤ h990.size := by rw [W990.size]; exact Z987
  have K1013 := K988.wr W990 (Or.inr q939)
  refine Go.via st990 ?_
  refine s_aloadN X990 hx (hb hby d2_50) rfl rfl 51 rfl ?_
  obtain ⟨T1014, X1014, e1014, st1014⟩ := getF X990 hx hZ hown (host := "") (Or.inl (wd hw 15 _ rfl)) Via.refl e990 F999 (g := (mkF m 51 #[.val (.ref a1), .val (.long j), .second, .val (.null), .val (.double (4607182418800017408 : UInt64)), .second, .val (.double d), .second, .val (.int (0 : Int32)), .unset, .unset] [.ref a1])) rfl rfl (hb hby d2_51)
  refine Go.via st1014 ?_
  show Go p e below _ (T1014.setTop (mkF m 54 #[.val (.ref a1), .val (.long j), .second, .val (.null), .val (.double (4607182418800017408 : UInt64)), .second, .val (.double d), .second, .val (.int (0 : Int32)), .unset, .unset] [.ref bW925]))
  refine s_iload X1014 hx (hb hby d2_54) rfl 56 rfl ?_
  refine s_dload X1014 hx (hb hby d2_56) rfl 58 rfl ?_
  obtain ⟨T1015, h1015, X1015, e1015, W1015, A1015, st1015⟩ := s_dastore X1014 hx hZ e1014 F1010 (hb hby d2_58) #[.val (.ref a1), .val (.long j), .second, .val (.null), .val (.double (4607182418800017408 : UInt64)), .second, .val (.double d), .second, .val (.int (0 : Int32)), .unset, .unset] [] (j := (0 : Int32)) 0 (by decide) (by show 0 < 2; decide) (4607182418800017408 : UInt64) [.double (4607182418800017408 : UInt64), .double (0 : UInt64)] rfl 59 rfl
  have N1015 := Fr.snoc X1015 N990 q945
  have F1016 := F991.wr W1015
  have F1017 := F992.other W1015 ne941
  have F1018 := F993.other W1015 ne942
  have F1019 := F994.other W1015 ne943
  have F1020 := F995.other W1015 ne944
  have F1021 := F996.wr W1015
  have F1022 := F997.other W1015 (Or.inl ne940)
  have F1023 := F998.other W1015 (Or.inl ne940)
  have F1024 := F999.other W1015 (Or.inl ne940)
  have F1025 := F1000.other W1015 (Or.inl ne940)
  have F1026 := F1001.other W1015 (Or.inl ne940)
  have F1027 := F1002.other W1015 (Or.inl ne940)
  have F1028 := F1003.other W1015 (Or.inl ne940)
  have F1029 := F1004.other W1015 (Or.inl ne940)
  have F1030 := F1005.other W1015 (Or.inl ne940)
  have F1031 := F1006.other W1015 (Or.inl ne940)
  have F1032 := F1007.other W1015 (Or.inl ne940)
  have F1033 := F1008.other W1015 (Or.inl ne940)
  have F1034 := F1009.other W1015 u925_PW
  have F1035 := A990.other W1015 u925_IW
  have F1036 := F1011.other W1015 ((u925_WT).symm)
  have Z1037 : n0 ≤ h1015.size := by rw [W1015.size]; exact Z1012
  have K1038 := K1013.wr W1015 (Or.inr q946)
  refine Go.via st1015 ?_
  refine s_aloadN X1015 hx (hb hby d2_59) rfl rfl 60 rfl ?_
  obtain ⟨T1039, X1039, e1039, st1039⟩ := getF X1015 hx hZ hown (host := "") (Or.inl (wd hw 19 _ rfl)) Via.refl e1015 F1025 (g := (mkF m 60 #[.val (.ref a1), .val (.long j), .second, .val (.null), .val (.double (4607182418800017408 : UInt64)), .second, .val (.double d), .second, .val (.int (0 : Int32)), .unset, .unset] [.ref a1])) rfl rfl (hb hby d2_60)
  refine Go.via st1039 ?_
  show Go p e below _ (T1039.setTop (mkF m 63 #[.val (.ref a1), .val (.long j), .second, .val (.null), .val (.double (4607182418800017408 : UInt64)), .second, .val (.double d), .second, .val (.int (0 : Int32)), .unset, .unset] [.ref bT925]))
  refine s_iload X1039 hx (hb hby d2_63) rfl 65 rfl ?_
  refine s_aloadN X1039 hx (hb hby d2_65) rfl rfl 66 rfl ?_
  obtain ⟨T1040, h1040, X1040, e1040, W1040, A1040, st1040⟩ := s_aastore X1039 hx hZ e1039 F1036 rfl (hb hby d2_66) #[.val (.ref a1), .val (.long j), .second, .val (.null), .val (.double (4607182418800017408 : UInt64)), .second, .val (.double d), .second, .val (.int (0 : Int32)), .unset, .unset] [] (j := (0 : Int32)) 0 (by decide) (by show 0 < 2; decide) (.null) (Or.inl rfl) [.null, .null] rfl 67 rfl
  have N1040 := Fr.snoc X1040 N1015 q952
  have F1041 := F1016.wr W1040
  have F1042 := F1017.other W1040 ne948
  have F1043 := F1018.other W1040 ne949
  have F1044 := F1019.other W1040 ne950
  have F1045 := F1020.other W1040 ne951
  have F1046 := F1021.wr W1040
  have F1047 := F1022.other W1040 (Or.inl ne947)
  have F1048 := F1023.other W1040 (Or.inl ne947)
  have F1049 := F1024.other W1040 (Or.inl ne947)
  have F1050 := F1025.other W1040 (Or.inl ne947)
  have F1051 := F1026.other W1040 (Or.inl ne947)
  have F1052 := F1027.other W1040 (Or.inl ne947)
  have F1053 := F1028.other W1040 (Or.inl ne947)
  have F1054 := F1029.other W1040 (Or.inl ne947)
  have F1055 := F1030.other W1040 (Or.inl ne947)
  have F1056 := F1031.other W1040 (Or.inl ne947)
  have F1057 := F1032.other W1040 (Or.inl ne947)
  have F1058 := F1033.other W1040 (Or.inl ne947)
  have F1059 := F1034.other W1040 u925_PT
  have F1060 := F1035.other W1040 u925_IT
  have F1061 := A1015.other W1040 u925_WT
  have Z1062 : n0 ≤ h1040.size := by rw [W1040.size]; exact Z1037
  have K1063 := K1038.wr W1040 (Or.inr q953)
  refine Go.via st1040 ?_
  refine s_aloadN X1040 hx (hb hby d2_67) rfl rfl 68 rfl ?_
  refine s_iload X1040 hx (hb hby d2_68) rfl 70 rfl ?_
  refine s_iconst X1040 hx (hb hby d2_70) (1 : Int32) rfl 71 rfl ?_
  refine s_iadd X1040 hx (hb hby d2_71) (1 : Int32) rfl 72 rfl ?_
  obtain ⟨T1064, h1064, X1064, e1064, W1064, st1064⟩ := putF X1040 hx hZ hown (host := "") (Or.inl (wd hw 38 _ rfl)) Via.refl e1040 F1054 F1041 (Or.inl (wd hw 39 _ rfl)) (wd hw 1 _ rfl) (ty := .int) (by decide) rfl rfl (g := (mkF m 72 #[.val (.ref a1), .val (.long j), .second, .val (.null), .val (.double (4607182418800017408 : UInt64)), .second, .val (.double d), .second, .val (.int (0 : Int32)), .unset, .unset] [.int (1 : Int32), .ref a1])) rfl rfl (hb hby d2_72)
  have N1064 := Fr.snoc X1064 N1040 g1
  have F1065 := F1054.same W1064
  have F1066 := F1041.wr W1064
  have F1067 := F1042.other W1064 ((ne_a1_aP).symm)
  have F1068 := F1043.other W1064 ((ne_a1_aI).symm)
  have F1069 := F1044.other W1064 ((ne_a1_aW).symm)
  have F1070 := F1045.other W1064 ((ne_a1_aT).symm)
  have F1071 := F1046.wr W1064
  have F1072 := F1047.other W1064 (Or.inr (slot_ne (a0 := a0) (t := .array .double) (t' := .int) (Or.inl (wd hw 11 _ rfl)) (Or.inl (wd hw 39 _ rfl)) (by decide) (by decide) (by decide)))
  have F1073 := F1048.other W1064 (Or.inr (slot_ne (a0 := a0) (t := .array .long) (t' := .int) (Or.inl (wd hw 14 _ rfl)) (Or.inl (wd hw 39 _ rfl)) (by decide) (by decide) (by decide)))
  have F1074 := F1049.other W1064 (Or.inr (slot_ne (a0 := a0) (t := .array .double) (t' := .int) (Or.inl (wd hw 16 _ rfl)) (Or.inl (wd hw 39 _ rfl)) (by decide) (by decide) (by decide)))
  have F1075 := F1050.other W1064 (Or.inr (slot_ne (a0 := a0) (t := .array (.object "java/lang/Object")) (t' := .int) (Or.inl (wd hw 20 _ rfl)) (Or.inl (wd hw 39 _ rfl)) (by decide) (by decide) (by decide)))
  have F1076 := F1051.other W1064 (Or.inr (slot_ne (a0 := a0) (t := .double) (t' := .int) (Or.inl (wd hw 23 _ rfl)) (Or.inl (wd hw 39 _ rfl)) (by decide) (by decide) (by decide)))
  have F1077 := F1052.other W1064 (Or.inr (slot_ne (a0 := a0) (t := .int) (t' := .int) (Or.inr (wd hw 30 _ rfl)) (Or.inl (wd hw 39 _ rfl)) (by decide) (by decide) (by decide)))
  have F1078 := F1053.other W1064 (Or.inr (slot_ne (a0 := a0) (t := .int) (t' := .int) (Or.inr (wd hw 32 _ rfl)) (Or.inl (wd hw 39 _ rfl)) (by decide) (by decide) (by decide)))
  have F1079 := F1055.other W1064 (Or.inr (slot_ne (a0 := a0) (t := .array .int) (t' := .int) (Or.inl (wd hw 86 _ rfl)) (Or.inl (wd hw 39 _ rfl)) (by decide) (by decide) (by decide)))
  have F1080 := F1056.other W1064 (Or.inr (slot_ne (a0 := a0) (t := .long) (t' := .int) (Or.inl (wd hw 111 _ rfl)) (Or.inl (wd hw 39 _ rfl)) (by decide) (by decide) (by decide)))
  have F1081 := F1057.other W1064 (Or.inr (slot_ne (a0 := a0) (t := .int) (t' := .int) (Or.inl (wd hw 113 _ rfl)) (Or.inl (wd hw 39 _ rfl)) (by decide) (by decide) (by decide)))
  have F1082 := F1058.other W1064 (Or.inr (slot_ne (a0 := a0) (t := .int) (t' := .int) (Or.inl (wd hw 120 _ rfl)) (Or.inl (wd hw 39 _ rfl)) (by decide) (by decide) (by decide)))
  have F1083 := F1059.other W1064 ((ne926).symm)
  have F1084 := F1060.other W1064 ((ne933).symm)
  have F1085 := F1061.other W1064 ((ne940).symm)
  have F1086 := A1040.other W1064 ((ne947).symm)
  have Z1087 : n0 ≤ h1064.size := by rw [W1064.size]; exact Z1062
  have K1088 := K1063.wr W1064 (Or.inl (by simp))
  refine Go.via st1064 ?_
  show Go p e below _ (T1064.setTop (mkF m 75 #[.val (.ref a1), .val (.long j), .second, .val (.null), .val (.double (4607182418800017408 : UInt64)), .second, .val (.double d), .second, .val (.int (0 : Int32)), .unset, .unset] []))
  refine s_aloadN X1064 hx (hb hby d2_75) rfl rfl 76 rfl ?_
  obtain ⟨T1089, X1089, e1089, st1089⟩ := getF X1064 hx hZ hown (host := "") (Or.inl (wd hw 85 _ rfl)) Via.refl e1064 F1079 (g := (mkF m 76 #[.val (.ref a1), .val (.long j), .second, .val (.null), .val (.double (4607182418800017408 : UInt64)), .second, .val (.double d), .second, .val (.int (0 : Int32)), .unset, .unset] [.ref a1])) rfl rfl (hb hby d2_76)
  refine Go.via st1089 ?_
  show Go p e below _ (T1089.setTop (mkF m 79 #[.val (.ref a1), .val (.long j), .second, .val (.null), .val (.double (4607182418800017408 : UInt64)), .second, .val (.double d), .second, .val (.int (0 : Int32)), .unset, .unset] [.null]))
  refine s_astore X1089 hx (hb hby d2_79) rfl #[.val (.ref a1), .val (.long j), .second, .val (.null), .val (.double (4607182418800017408 : UInt64)), .second, .val (.double d), .second, .val (.int (0 : Int32)), .val (.null), .unset] rfl 81 rfl ?_
  refine s_aload X1089 hx (hb hby d2_81) rfl rfl 83 rfl ?_
  refine s_ifnonnullN X1089 hx (hb hby d2_83) 86 rfl ?_
  refine s_aloadN X1089 hx (hb hby d2_86) rfl rfl 87 rfl ?_
  obtain ⟨T1090, X1090, e1090, st1090⟩ := getF X1089 hx hZ hown (host := "") (Or.inl (wd hw 38 _ rfl)) Via.refl e1089 F1065 (g := (mkF m 87 #[.val (.ref a1), .val (.long j), .second, .val (.null), .val (.double (4607182418800017408 : UInt64)), .second, .val (.double d), .second, .val (.int (0 : Int32)), .val (.null), .unset] [.ref a1])) rfl rfl (hb hby d2_87)
  refine Go.via st1090 ?_
  show Go p e below _ (T1090.setTop (mkF m 90 #[.val (.ref a1), .val (.long j), .second, .val (.null), .val (.double (4607182418800017408 : UInt64)), .second, .val (.double d), .second, .val (.int (0 : Int32)), .val (.null), .unset] [.int (1 : Int32)]))
  refine s_aloadN X1090 hx (hb hby d2_90) rfl rfl 91 rfl ?_
  obtain ⟨T1091, X1091, e1091, st1091⟩ := getF X1090 hx hZ hown (host := "") (Or.inl (wd hw 29 _ rfl)) Via.refl e1090 F1077 (g := (mkF m 91 #[.val (.ref a1), .val (.long j), .second, .val (.null), .val (.double (4607182418800017408 : UInt64)), .second, .val (.double d), .second, .val (.int (0 : Int32)), .val (.null), .unset] [.ref a1, .int (1 : Int32)])) rfl rfl (hb hby d2_91)
  refine Go.via st1091 ?_
  show Go p e below _ (T1091.setTop (mkF m 94 #[.val (.ref a1), .val (.long j), .second, .val (.null), .val (.double (4607182418800017408 : UInt64)), .second, .val (.double d), .second, .val (.int (0 : Int32)), .val (.null), .unset] [.int (1 : Int32), .int (1 : Int32)]))
  refine s_icmpN X1091 hx (hb hby d2_94) (by decide) 97 rfl ?_
  refine s_aloadN X1091 hx (hb hby d2_97) rfl rfl 98 rfl ?_
  obtain ⟨v1092, T1092, L1092, X1092, hQ1092, st1092⟩ := callPriv X1091 hx hZ hown (wd hw 87 _ rfl) (wd hw 89 _ rfl) (wd hw 1 _ rfl) (wd hw 88 _ rfl) (wd hw 2 _ rfl) (wd hw 90 _ rfl) (by decide) (c_start l Z a0 hw [] a1 bP925 jP925 d h1064 n0 Z1087 F1066 g1 F1072 F1076 F1077 F1065 F1079 F1080 F1081 F1082 F1083 ne926 hP) e1091 a1 F1066 (L := #[.val (.ref a1), .val (.long j), .second, .val (.null), .val (.double (4607182418800017408 : UInt64)), .second, .val (.double d), .second, .val (.int (0 : Int32)), .val (.null), .unset]) (hb hby d2_98) (by rw [hml]; rfl) [] [] rfl rfl pd_12 rfl 0 (by show 2 * 0 + _ ≤ _; exact Nat.le_of_eq rfl) (by decide) (by decide) (by decide) (by decide)
  obtain ⟨rfl, N1092, K1092, G1092⟩ := hQ1092
  have M1092 := Fr.app N1064 N1092
  have F1093 := F1066.keep K1092
  have F1094 := F1067.keep K1092 (ninS ((ne_a1_aP).symm) nin0)
  have F1095 := F1068.keep K1092 (ninS ((ne_a1_aI).symm) nin0)
  have F1096 := F1069.keep K1092 (ninS ((ne_a1_aW).symm) nin0)
  have F1097 := F1070.keep K1092 (ninS ((ne_a1_aT).symm) nin0)
  have F1098 := F1071.keep K1092
  have F1099 := F1083.keep K1092 (ninS ((ne926).symm) nin0)
  have F1100 := F1084.keep K1092 (ninS ((ne933).symm) nin0)
  have F1101 := F1085.keep K1092 (ninS ((ne940).symm) nin0)
  have F1102 := F1086.keep K1092 (ninS ((ne947).symm) nin0)
  have Z1103 := Nat.le_trans Z1087 K1092.1
  have K1104 := K1088.trans K1092 (allS (Or.inl (by simp)) all0)
  have e1092 : T1092.heap = T1092.heap := rfl
  refine Go.via st1092 ?_
  show Go p e below _ (T1092.setTop (mkF m 101 #[.val (.ref a1), .val (.long j), .second, .val (.null), .val (.double (4607182418800017408 : UInt64)), .second, .val (.double d), .second, .val (.int (0 : Int32)), .val (.null), .unset] []))
  exact retV X1092 hx hlk hret (hb hby d2_101) e1092 ⟨rfl, M1092, K1104, G1092⟩ (by decide) (by decide)
theorem d23_0 : decode prog_15_method_2_code 0 = .ok (.dload_n 1, 1) := by decide +kernel
theorem d23_1 : decode prog_15_method_2_code 1 = .ok (.aload_n 0, 1) := by decide +kernel
theorem d23_2 : decode prog_15_method_2_code 2 = .ok (.getfield 28, 3) := by decide +kernel
theorem d23_5 : decode prog_15_method_2_code 5 = .ok (.dload_n 3, 1) := by decide +kernel
theorem d23_6 : decode prog_15_method_2_code 6 = .ok (.dmul, 1) := by decide +kernel
theorem d23_7 : decode prog_15_method_2_code 7 = .ok (.dcmp .g, 1) := by decide +kernel
theorem d23_8 : decode prog_15_method_2_code 8 = .ok (.ifCond .ge 7, 3) := by decide +kernel
theorem d23_11 : decode prog_15_method_2_code 11 = .ok (.iconst 1, 1) := by decide +kernel
theorem d23_12 : decode prog_15_method_2_code 12 = .ok (.goto 4, 3) := by decide +kernel
theorem d23_15 : decode prog_15_method_2_code 15 = .ok (.iconst 0, 1) := by decide +kernel
theorem d23_16 : decode prog_15_method_2_code 16 = .ok (.ireturn, 1) := by decide +kernel
theorem pd_23 : parseMethodDescriptor "(DD)Z" = some ⟨[.double, .double], some .boolean⟩ := by decide +kernel
theorem pn_23 : plainFor (⟨"com/example/priorsum/priorsum/RankedRows", "refuses", "(DD)Z"⟩ : MethodName) = true := plainFor_of_name (by show plainName "com/example/priorsum/priorsum/RankedRows" = true; first | (simp [plainName, overriddenIn]; done) | decide +kernel)
set_option maxRecDepth 65536 in
set_option maxHeartbeats 40000000 in
theorem c_ref_t (l : Launch) (Z : State) (a0 : Array Value) (hw : ∀ d ∈ tables_1, d.before a0 Z = true) (ws : List Jvm.Cond) (a1 : Addr) (xw xa xf : UInt64) (h0 : Heap) (n0 : Nat) (Z0 : n0 ≤ h0.size) (E1 : Exa Z h0 a1 "com/example/priorsum/priorsum/RankedRows") (F_floor : Fld Z h0 a1 "com/example/priorsum/priorsum/RankedRows" "floor" "D" (.double xf)) (hnn : NoNaN64 (FP.dmul xf xa)) (hc : FP.dcmp xw (FP.dmul xf xa) = some .lt) :
    Ct l Z (⟨"com/example/priorsum/priorsum/RankedRows", "refuses", "(DD)Z"⟩ : MethodName) prog_15_method_2_code 5 (some .boolean) ws ({ frames := 0, cells := 0, slots := 0, locals := 0 } : Room) #[.ref a1, .double xw, .double xa] h0 (fun v h L => v = some (.int 1) ∧ Fr n0 L ∧ h = h0) := by
  refine Ct.intro pn_23 #[.val (.ref a1), .val (.double xw), .second, .val (.double xa), .second] (fun _ => by first | (simp [entryFrame, mkF, argsToLocals, Value.category, maxLocals]; done) | rfl) ?_
  intro p e s m below meth c T0 X0 hx hZ hby hml hown hnm hret hlk e0
  have N0 := Fr.nil n0
  refine s_dloadN X0 hx (hb hby d23_0) rfl 1 rfl ?_
  refine s_aloadN X0 hx (hb hby d23_1) rfl rfl 2 rfl ?_
  obtain ⟨T1105, X1105, e1105, st1105⟩ := getF X0 hx hZ hown (host := "") (Or.inl (wd hw 22 _ rfl)) Via.refl e0 F_floor (g := (mkF m 2 #[.val (.ref a1), .val (.double xw), .second, .val (.double xa), .second] [.ref a1, .double xw])) rfl rfl (hb hby d23_2)
  refine Go.via st1105 ?_
  show Go p e below _ (T1105.setTop (mkF m 5 #[.val (.ref a1), .val (.double xw), .second, .val (.double xa), .second] [.double xf, .double xw]))
  refine s_dloadN X1105 hx (hb hby d23_5) rfl 6 rfl ?_
  refine s_dmul X1105 hx (hb hby d23_6) (FP.dmul xf xa) rfl hnn 7 rfl ?_
  refine s_dcmp X1105 hx (hb hby d23_7) (cmpValue (FP.dcmp xw (FP.dmul xf xa)) .g) rfl 8 rfl ?_
  refine s_ifN X1105 hx (hb hby d23_8) (cv_ge_f hc) 11 rfl ?_
  refine s_iconst X1105 hx (hb hby d23_11) (1 : Int32) rfl 12 rfl ?_
  refine s_goto X1105 hx (hb hby d23_12) 16 (by decide) (by decide) ?_
  exact retZ X1105 hx hlk hret (hb hby d23_16) (by decide) e1105 ⟨rfl, N0, rfl⟩ (by decide) (by decide)
set_option maxRecDepth 65536 in
set_option maxHeartbeats 40000000 in
theorem c_ref_f (l : Launch) (Z : State) (a0 : Array Value) (hw : ∀ d ∈ tables_1, d.before a0 Z = true) (ws : List Jvm.Cond) (a1 : Addr) (xw xa xf : UInt64) (h0 : Heap) (n0 : Nat) (Z0 : n0 ≤ h0.size) (E1 : Exa Z h0 a1 "com/example/priorsum/priorsum/RankedRows") (F_floor : Fld Z h0 a1 "com/example/priorsum/priorsum/RankedRows" "floor" "D" (.double xf)) (hnn : NoNaN64 (FP.dmul xf xa)) (hc : FP.dcmp xw (FP.dmul xf xa) ≠ some .lt) :
    Ct l Z (⟨"com/example/priorsum/priorsum/RankedRows", "refuses", "(DD)Z"⟩ : MethodName) prog_15_method_2_code 5 (some .boolean) ws ({ frames := 0, cells := 0, slots := 0, locals := 0 } : Room) #[.ref a1, .double xw, .double xa] h0 (fun v h L => v = some (.int 0) ∧ Fr n0 L ∧ h = h0) := by
  refine Ct.intro pn_23 #[.val (.ref a1), .val (.double xw), .second, .val (.double xa), .second] (fun _ => by first | (simp [entryFrame, mkF, argsToLocals, Value.category, maxLocals]; done) | rfl) ?_
  intro p e s m below meth c T0 X0 hx hZ hby hml hown hnm hret hlk e0
  have N0 := Fr.nil n0
  refine s_dloadN X0 hx (hb hby d23_0) rfl 1 rfl ?_
  refine s_aloadN X0 hx (hb hby d23_1) rfl rfl 2 rfl ?_
  obtain ⟨T1106, X1106, e1106, st1106⟩ := getF X0 hx hZ hown (host := "") (Or.inl (wd hw 22 _ rfl)) Via.refl e0 F_floor (g := (mkF m 2 #[.val (.ref a1), .val (.double xw), .second, .val (.double xa), .second] [.ref a1, .double xw])) rfl rfl (hb hby d23_2)
  refine Go.via st1106 ?_
  show Go p e below _ (T1106.setTop (mkF m 5 #[.val (.ref a1), .val (.double xw), .second, .val (.double xa), .second] [.double xf, .double xw]))
  refine s_dloadN X1106 hx (hb hby d23_5) rfl 6 rfl ?_
  refine s_dmul X1106 hx (hb hby d23_6) (FP.dmul xf xa) rfl hnn 7 rfl ?_
  refine s_dcmp X1106 hx (hb hby d23_7) (cmpValue (FP.dcmp xw (FP.dmul xf xa)) .g) rfl 8 rfl ?_
  refine s_ifY X1106 hx (hb hby d23_8) (cv_ge_t hc) 15 (by decide) (by decide) ?_
  refine s_iconst X1106 hx (hb hby d23_15) (0 : Int32) rfl 16 rfl ?_
  exact retZ X1106 hx hlk hret (hb hby d23_16) (by decide) e1106 ⟨rfl, N0, rfl⟩ (by decide) (by decide)
theorem dc_4634204016564240384 : Jvm.OwnFP.Db 64 (64) 0 (4634204016564240384 : UInt64) := Jvm.OwnFP.Db.lit false 4503599627370496 (-46) 64 (64) 0 (by decide +kernel) (by decide +kernel)
set_option maxRecDepth 65536 in
set_option maxHeartbeats 40000000 in
theorem rm_law (l : Launch) (Z : State) (a0 : Array Value) (hw : ∀ d ∈ tables_1, d.before a0 Z = true) (ws : List Jvm.Cond) (i0 i1 i2 i3 : Int32) (h0 : Heap) (n0 : Nat) (Z0 : n0 ≤ h0.size) (Mc : Jvm.D.MirrorMade Z "[Ljava/lang/Object;") :
    Ct l Z x code maxLocals ret ws room_1 #[.int i0, .int i1, .int i2, .int i3] h0 (fun v h L => v = some (.int 1) ∧ Fr n0 L) := by
  refine Ct.intro pn_law #[.val (.int i0), .val (.int i1), .val (.int i2), .val (.int i3), .unset, .unset, .unset, .unset, .unset, .unset, .unset, .unset, .unset, .unset, .unset] (fun _ => by first | (simp [entryFrame, mkF, argsToLocals, Value.category, maxLocals]; done) | rfl) ?_
  intro p e s m below meth c T0 X0 hx hZ hby hml hown hnm hret hlk e0
  have N0 := Fr.nil n0
  obtain ⟨mcc, mkc, mr, mq1, mq2, mq3⟩ := Mc
  have Mm : Mi Z "[Ljava/lang/Object;" mr := ⟨mcc, mkc, mq1, mq2, mq3.1⟩
  obtain ⟨nw, tw, bw⟩ := mask_nat i0 (32767 : Int32) 15 (by decide) (by decide)
  obtain ⟨na, ta, ba⟩ := mask_nat i1 (63 : Int32) 6 (by decide) (by decide)
  obtain ⟨np, tp, bp⟩ := mask_nat i2 (255 : Int32) 8 (by decide) (by decide)
  refine s_iloadN X0 hx (hb hby at_0) rfl 1 rfl ?_
  refine s_sipush X0 hx (hb hby at_1) (32767 : Int32) rfl 4 rfl ?_
  refine s_iand X0 hx (hb hby at_4) (i0 &&& (32767 : Int32)) rfl 5 rfl ?_
  obtain ⟨wn, h_wn⟩ : ∃ v, v = (i0 &&& (32767 : Int32)) := ⟨_, rfl⟩
  have t_wn : wn.toInt = (nw : Int) := by rw [h_wn]; exact tw
  refine s_istore X0 hx (hb hby at_5) #[.val (.int i0), .val (.int i1), .val (.int i2), .val (.int i3), .val (.int wn), .unset, .unset, .unset, .unset, .unset, .unset, .unset, .unset, .unset, .unset] (by rw [h_wn]; rfl) 7 rfl ?_
  refine s_iloadN X0 hx (hb hby at_7) rfl 8 rfl ?_
  refine s_bipush X0 hx (hb hby at_8) (63 : Int32) rfl 10 rfl ?_
  refine s_iand X0 hx (hb hby at_10) (i1 &&& (63 : Int32)) rfl 11 rfl ?_
  refine s_iconst X0 hx (hb hby at_11) (1 : Int32) rfl 12 rfl ?_
  refine s_iadd X0 hx (hb hby at_12) ((i1 &&& (63 : Int32)) + (1 : Int32)) rfl 13 rfl ?_
  obtain ⟨an, h_an⟩ : ∃ v, v = ((i1 &&& (63 : Int32)) + (1 : Int32)) := ⟨_, rfl⟩
  have t_an : an.toInt = ((na + 1 : Nat) : Int) := by rw [h_an]; exact (add1_nat ta ba)
  refine s_istore X0 hx (hb hby at_13) #[.val (.int i0), .val (.int i1), .val (.int i2), .val (.int i3), .val (.int wn), .val (.int an), .unset, .unset, .unset, .unset, .unset, .unset, .unset, .unset, .unset] (by rw [h_an]; rfl) 15 rfl ?_
  refine s_iloadN X0 hx (hb hby at_15) rfl 16 rfl ?_
  refine s_sipush X0 hx (hb hby at_16) (255 : Int32) rfl 19 rfl ?_
  refine s_iand X0 hx (hb hby at_19) (i2 &&& (255 : Int32)) rfl 20 rfl ?_
  obtain ⟨pn, h_pn⟩ : ∃ v, v = (i2 &&& (255 : Int32)) := ⟨_, rfl⟩
  have t_pn : pn.toInt = (np : Int) := by rw [h_pn]; exact tp
  refine s_istore X0 hx (hb hby at_20) #[.val (.int i0), .val (.int i1), .val (.int i2), .val (.int i3), .val (.int wn), .val (.int an), .val (.int pn), .unset, .unset, .unset, .unset, .unset, .unset, .unset, .unset] (by rw [h_pn]; rfl) 22 rfl ?_
  refine s_iloadN X0 hx (hb hby at_22) rfl 23 rfl ?_
  refine s_iconst X0 hx (hb hby at_23) (1 : Int32) rfl 24 rfl ?_
  refine s_iand X0 hx (hb hby at_24) (i3 &&& (1 : Int32)) rfl 25 rfl ?_
  rcases and1 i3 with hf | hf
  · skip
    rw [hf]
    show Go p e below _ (T0.setTop (mkF m 25 #[.val (.int i0), .val (.int i1), .val (.int i2), .val (.int i3), .val (.int wn), .val (.int an), .val (.int pn), .unset, .unset, .unset, .unset, .unset, .unset, .unset, .unset] [.int (0 : Int32)]))
    refine s_ifY X0 hx (hb hby at_25) (by decide) 32 (by decide) (by decide) ?_
    refine s_iconst X0 hx (hb hby at_32) (0 : Int32) rfl 33 rfl ?_
    refine s_istore X0 hx (hb hby at_33) #[.val (.int i0), .val (.int i1), .val (.int i2), .val (.int i3), .val (.int wn), .val (.int an), .val (.int pn), .val (.int (0 : Int32)), .unset, .unset, .unset, .unset, .unset, .unset, .unset] rfl 35 rfl ?_
    obtain ⟨T1107, h1107, X1107, e1107, E1107, A1107, D1107, -, st1107⟩ := newO X0 hx hZ hown (wd hw 0 _ rfl) (wd hw 1 _ rfl) (wd hw 2 _ rfl) e0 (g := (mkF m 35 #[.val (.int i0), .val (.int i1), .val (.int i2), .val (.int i3), .val (.int wn), .val (.int an), .val (.int pn), .val (.int (0 : Int32)), .unset, .unset, .unset, .unset, .unset, .unset, .unset] [])) rfl (hb hby at_35) (by decide) (by decide)
    obtain ⟨a1107, g1107⟩ : ∃ z, z = h0.size := ⟨_, rfl⟩
    rw [← g1107] at A1107 D1107 st1107
    have q1108 : n0 ≤ a1107 := by rw [g1107]; exact Z0
    have Z1109 := Nat.le_trans Z0 E1107.1
    have F1110 : Fld Z h1107 a1107 "com/example/priorsum/priorsum/RankedRows" "priorities" "[D" (.null) := D1107 (Or.inl (wd hw 11 _ rfl)) (ty := .array .double) (by decide)
    have F1111 : Fld Z h1107 a1107 "com/example/priorsum/priorsum/RankedRows" "indices" "[J" (.null) := D1107 (Or.inl (wd hw 14 _ rfl)) (ty := .array .long) (by decide)
    have F1112 : Fld Z h1107 a1107 "com/example/priorsum/priorsum/RankedRows" "weights" "[D" (.null) := D1107 (Or.inl (wd hw 16 _ rfl)) (ty := .array .double) (by decide)
    have F1113 : Fld Z h1107 a1107 "com/example/priorsum/priorsum/RankedRows" "items" "[Ljava/lang/Object;" (.null) := D1107 (Or.inl (wd hw 20 _ rfl)) (ty := .array (.object "java/lang/Object")) (by decide)
    have F1114 : Fld Z h1107 a1107 "com/example/priorsum/priorsum/RankedRows" "floor" "D" (.double (0 : UInt64)) := D1107 (Or.inl (wd hw 23 _ rfl)) (ty := .double) (by decide)
    have F1115 : Fld Z h1107 a1107 "com/example/priorsum/priorsum/RankedRows" "kept" "[I" (.null) := D1107 (Or.inl (wd hw 26 _ rfl)) (ty := .array .int) (by decide)
    have F1116 : Fld Z h1107 a1107 "com/example/priorsum/priorsum/RankedRows" "scratch" "[D" (.null) := D1107 (Or.inl (wd hw 28 _ rfl)) (ty := .array .double) (by decide)
    have F1117 : Fld Z h1107 a1107 "com/example/priorsum/priorsum/RankedRows" "keep" "I" (.int (0 : Int32)) := D1107 (Or.inr (wd hw 30 _ rfl)) (ty := .int) (by decide)
    have F1118 : Fld Z h1107 a1107 "com/example/priorsum/priorsum/RankedRows" "capacity" "I" (.int (0 : Int32)) := D1107 (Or.inr (wd hw 32 _ rfl)) (ty := .int) (by decide)
    have F1119 : Fld Z h1107 a1107 "com/example/priorsum/priorsum/RankedRows" "held" "I" (.int (0 : Int32)) := D1107 (Or.inl (wd hw 39 _ rfl)) (ty := .int) (by decide)
    have F1120 : Fld Z h1107 a1107 "com/example/priorsum/priorsum/RankedRows" "counts" "[I" (.null) := D1107 (Or.inl (wd hw 86 _ rfl)) (ty := .array .int) (by decide)
    have F1121 : Fld Z h1107 a1107 "com/example/priorsum/priorsum/RankedRows" "base" "J" (.long (0 : Int64)) := D1107 (Or.inl (wd hw 111 _ rfl)) (ty := .long) (by decide)
    have F1122 : Fld Z h1107 a1107 "com/example/priorsum/priorsum/RankedRows" "floorBucket" "I" (.int (0 : Int32)) := D1107 (Or.inl (wd hw 113 _ rfl)) (ty := .int) (by decide)
    have F1123 : Fld Z h1107 a1107 "com/example/priorsum/priorsum/RankedRows" "above" "I" (.int (0 : Int32)) := D1107 (Or.inl (wd hw 120 _ rfl)) (ty := .int) (by decide)
    refine Go.via st1107 ?_
    show Go p e below _ (T1107.setTop (mkF m 38 #[.val (.int i0), .val (.int i1), .val (.int i2), .val (.int i3), .val (.int wn), .val (.int an), .val (.int pn), .val (.int (0 : Int32)), .unset, .unset, .unset, .unset, .unset, .unset, .unset] [.ref a1107]))
    refine s_dup X1107 hx (hb hby at_38) rfl 39 rfl ?_
    refine s_iconst X1107 hx (hb hby at_39) (1 : Int32) rfl 40 rfl ?_
    obtain ⟨v1124, T1124, L1124, X1124, hQ1124, st1124⟩ := callInit X1107 hx hZ hown rfl (wd hw 3 _ rfl) (wd hw 4 _ rfl) (wd hw 2 _ rfl) (wd hw 5 _ rfl) (by decide) (c_ctor l Z a0 hw [] a1107 h1107 n0 Z1109 A1107 q1108 F1110 F1111 F1112 F1113 F1114 F1115 F1116 F1117 F1118 F1119 F1120 F1121 F1122 F1123) e1107 (L := #[.val (.int i0), .val (.int i1), .val (.int i2), .val (.int i3), .val (.int wn), .val (.int an), .val (.int pn), .val (.int (0 : Int32)), .unset, .unset, .unset, .unset, .unset, .unset, .unset]) (hb hby at_40) (by rw [hml]; rfl) a1107 [.int (1 : Int32)] [.ref a1107] rfl rfl pd_0 rfl 1 (by show 2 * 0 + _ ≤ _; exact Nat.le_of_eq rfl) (by decide) (by decide) (by decide) (by decide)
    obtain ⟨bP1124, bI1124, bW1124, bT1124, jP1124, jI1124, jW1124, jT1124, rfl, N1124, K1124, g1124_P, g1124_I, g1124_W, g1124_T, G1124_priorities, G1124_indices, G1124_weights, G1124_items, G1124_floor, G1124_keep, G1124_capacity, G1124_held, G1124_counts, G1124_base, G1124_floorBucket, G1124_above, A1124_P, A1124_I, A1124_W, A1124_T, B1124⟩ := hQ1124
    have ne1125 : a1107 ≠ bP1124 := Nat.ne_of_lt (Nat.lt_of_lt_of_le A1107.lt g1124_P)
    have q1126 : n0 ≤ bP1124 := Nat.le_trans Z1109 g1124_P
    have ne1127 : a1107 ≠ bI1124 := Nat.ne_of_lt (Nat.lt_of_lt_of_le A1107.lt g1124_I)
    have q1128 : n0 ≤ bI1124 := Nat.le_trans Z1109 g1124_I
    have ne1129 : a1107 ≠ bW1124 := Nat.ne_of_lt (Nat.lt_of_lt_of_le A1107.lt g1124_W)
    have q1130 : n0 ≤ bW1124 := Nat.le_trans Z1109 g1124_W
    have ne1131 : a1107 ≠ bT1124 := Nat.ne_of_lt (Nat.lt_of_lt_of_le A1107.lt g1124_T)
    have q1132 : n0 ≤ bT1124 := Nat.le_trans Z1109 g1124_T
    have M1124 := Fr.app N0 N1124
    have F1133 := A1107.keep K1124
    have Z1134 := Nat.le_trans Z1109 K1124.1
    have e1124 : T1124.heap = T1124.heap := rfl
    refine Go.via st1124 ?_
    show Go p e below _ (T1124.setTop (mkF m 43 #[.val (.int i0), .val (.int i1), .val (.int i2), .val (.int i3), .val (.int wn), .val (.int an), .val (.int pn), .val (.int (0 : Int32)), .unset, .unset, .unset, .unset, .unset, .unset, .unset] [.ref a1107]))
    refine s_astore X1124 hx (hb hby at_43) rfl #[.val (.int i0), .val (.int i1), .val (.int i2), .val (.int i3), .val (.int wn), .val (.int an), .val (.int pn), .val (.int (0 : Int32)), .val (.ref a1107), .unset, .unset, .unset, .unset, .unset, .unset] rfl 45 rfl ?_
    refine s_iload X1124 hx (hb hby at_45) rfl 47 rfl ?_
    refine s_ifY X1124 hx (hb hby at_47) (by decide) 62 (by decide) (by decide) ?_
    have fw : Db 32768 (nw : Int) 0 (FP.i2d wn) := ⟨by rw [← t_wn]; exact dy_i2d wn, by omega⟩
    have fa : Db 64 ((na + 1 : Nat) : Int) 0 (FP.i2d an) := ⟨by rw [← t_an]; exact dy_i2d an, by omega⟩
    have dw := Db.div2 6 fw dc_4634204016564240384 (by decide)
    have da := Db.div2 6 fa dc_4634204016564240384 (by decide)
    refine s_iload X1124 hx (hb hby at_62) rfl 64 rfl ?_
    refine s_i2d X1124 hx (hb hby at_64) (FP.i2d wn) rfl 65 rfl ?_
    refine s_ldc2D X1124 hx (hb hby at_65) hZ hown (wd hw 144 _ rfl) 68 rfl ?_
    refine s_ddiv X1124 hx (hb hby at_68) (FP.ddiv (FP.i2d wn) (4634204016564240384 : UInt64)) rfl dw.nn 69 rfl ?_
    refine s_dstore X1124 hx (hb hby at_69) #[.val (.int i0), .val (.int i1), .val (.int i2), .val (.int i3), .val (.int wn), .val (.int an), .val (.int pn), .val (.int (0 : Int32)), .val (.ref a1107), .val (.double (FP.ddiv (FP.i2d wn) (4634204016564240384 : UInt64))), .second, .unset, .unset, .unset, .unset] rfl 71 rfl ?_
    refine s_iload X1124 hx (hb hby at_71) rfl 73 rfl ?_
    refine s_i2d X1124 hx (hb hby at_73) (FP.i2d an) rfl 74 rfl ?_
    refine s_ldc2D X1124 hx (hb hby at_74) hZ hown (wd hw 144 _ rfl) 77 rfl ?_
    refine s_ddiv X1124 hx (hb hby at_77) (FP.ddiv (FP.i2d an) (4634204016564240384 : UInt64)) rfl da.nn 78 rfl ?_
    refine s_dstore X1124 hx (hb hby at_78) #[.val (.int i0), .val (.int i1), .val (.int i2), .val (.int i3), .val (.int wn), .val (.int an), .val (.int pn), .val (.int (0 : Int32)), .val (.ref a1107), .val (.double (FP.ddiv (FP.i2d wn) (4634204016564240384 : UInt64))), .second, .val (.double (FP.ddiv (FP.i2d an) (4634204016564240384 : UInt64))), .second, .unset, .unset] rfl 80 rfl ?_
    refine s_aload X1124 hx (hb hby at_80) rfl rfl 82 rfl ?_
    refine s_dload X1124 hx (hb hby at_82) rfl 84 rfl ?_
    refine s_dload X1124 hx (hb hby at_84) rfl 86 rfl ?_
    have eqa : FP.ddiv (FP.i2d an) (4634204016564240384 : UInt64) = q64 (na + 1) := by rw [q64, nat_of t_an]
    have em : FP.dmul (18442240474082181120 : UInt64) (FP.ddiv (FP.i2d an) (4634204016564240384 : UInt64)) = 18442240474082181120 := by rw [eqa]; exact ninf_mul ⟨na, ba⟩
    obtain ⟨v1135, T1135, L1135, X1135, hQ1135, st1135⟩ := callVirt X1124 hx hZ hown (wd hw 145 _ rfl) (wd hw 146 _ rfl) (wd hw 148 _ rfl) (wd hw 147 _ rfl) (wd hw 2 _ rfl) (wd hw 149 _ rfl) (by decide) (c_ref_f l Z a0 hw [] a1107 (FP.ddiv (FP.i2d wn) (4634204016564240384 : UInt64)) (FP.ddiv (FP.i2d an) (4634204016564240384 : UInt64)) (18442240474082181120 : UInt64) T1124.heap n0 Z1134 F1133 G1124_floor (by rw [em]; show (_ : UInt64) ≤ _; decide +kernel) (by rw [em]; exact above_ninf dw.1)) e1124 a1107 F1133 (L := #[.val (.int i0), .val (.int i1), .val (.int i2), .val (.int i3), .val (.int wn), .val (.int an), .val (.int pn), .val (.int (0 : Int32)), .val (.ref a1107), .val (.double (FP.ddiv (FP.i2d wn) (4634204016564240384 : UInt64))), .second, .val (.double (FP.ddiv (FP.i2d an) (4634204016564240384 : UInt64))), .second, .unset, .unset]) (hb hby at_86) (by rw [hml]; rfl) [.double (FP.ddiv (FP.i2d wn) (4634204016564240384 : UInt64)), .double (FP.ddiv (FP.i2d an) (4634204016564240384 : UInt64))] [] rfl rfl pd_23 rfl 0 (by show 2 * 0 + _ ≤ _; exact Nat.le_of_eq rfl) (by decide) (by decide) (by decide) (by decide)
    obtain ⟨rfl, N1135, hh1135⟩ := hQ1135
    have M1135 := Fr.app M1124 N1135
    refine Go.via st1135 ?_
    show Go p e below _ (T1135.setTop (mkF m 89 #[.val (.int i0), .val (.int i1), .val (.int i2), .val (.int i3), .val (.int wn), .val (.int an), .val (.int pn), .val (.int (0 : Int32)), .val (.ref a1107), .val (.double (FP.ddiv (FP.i2d wn) (4634204016564240384 : UInt64))), .second, .val (.double (FP.ddiv (FP.i2d an) (4634204016564240384 : UInt64))), .second, .unset, .unset] [.int (0 : Int32)]))
    refine s_istore X1135 hx (hb hby at_89) #[.val (.int i0), .val (.int i1), .val (.int i2), .val (.int i3), .val (.int wn), .val (.int an), .val (.int pn), .val (.int (0 : Int32)), .val (.ref a1107), .val (.double (FP.ddiv (FP.i2d wn) (4634204016564240384 : UInt64))), .second, .val (.double (FP.ddiv (FP.i2d an) (4634204016564240384 : UInt64))), .second, .val (.int (0 : Int32)), .unset] rfl 91 rfl ?_
    refine s_iload X1135 hx (hb hby at_91) rfl 93 rfl ?_
    refine s_ifY X1135 hx (hb hby at_93) (by decide) 110 (by decide) (by decide) ?_
    refine s_iconst X1135 hx (hb hby at_110) (0 : Int32) rfl 111 rfl ?_
    refine s_istore X1135 hx (hb hby at_111) #[.val (.int i0), .val (.int i1), .val (.int i2), .val (.int i3), .val (.int wn), .val (.int an), .val (.int pn), .val (.int (0 : Int32)), .val (.ref a1107), .val (.double (FP.ddiv (FP.i2d wn) (4634204016564240384 : UInt64))), .second, .val (.double (FP.ddiv (FP.i2d an) (4634204016564240384 : UInt64))), .second, .val (.int (0 : Int32)), .val (.int (0 : Int32))] rfl 113 rfl ?_
    refine s_iload X1135 hx (hb hby at_113) rfl 115 rfl ?_
    refine s_iload X1135 hx (hb hby at_115) rfl 117 rfl ?_
    refine s_icmpN X1135 hx (hb hby at_117) (by decide) 120 rfl ?_
    refine s_iconst X1135 hx (hb hby at_120) (1 : Int32) rfl 121 rfl ?_
    refine s_goto X1135 hx (hb hby at_121) 125 (by decide) (by decide) ?_
    exact retZ X1135 hx hlk hret (hb hby at_125) (by decide) hh1135 ⟨rfl, M1135⟩ (by decide) (by decide)
  · skip
    rw [hf]
    show Go p e below _ (T0.setTop (mkF m 25 #[.val (.int i0), .val (.int i1), .val (.int i2), .val (.int i3), .val (.int wn), .val (.int an), .val (.int pn), .unset, .unset, .unset, .unset, .unset, .unset, .unset, .unset] [.int (1 : Int32)]))
    refine s_ifN X0 hx (hb hby at_25) (by decide) 28 rfl ?_
    refine s_iconst X0 hx (hb hby at_28) (1 : Int32) rfl 29 rfl ?_
    refine s_goto X0 hx (hb hby at_29) 33 (by decide) (by decide) ?_
    refine s_istore X0 hx (hb hby at_33) #[.val (.int i0), .val (.int i1), .val (.int i2), .val (.int i3), .val (.int wn), .val (.int an), .val (.int pn), .val (.int (1 : Int32)), .unset, .unset, .unset, .unset, .unset, .unset, .unset] rfl 35 rfl ?_
    obtain ⟨T1136, h1136, X1136, e1136, E1136, A1136, D1136, -, st1136⟩ := newO X0 hx hZ hown (wd hw 0 _ rfl) (wd hw 1 _ rfl) (wd hw 2 _ rfl) e0 (g := (mkF m 35 #[.val (.int i0), .val (.int i1), .val (.int i2), .val (.int i3), .val (.int wn), .val (.int an), .val (.int pn), .val (.int (1 : Int32)), .unset, .unset, .unset, .unset, .unset, .unset, .unset] [])) rfl (hb hby at_35) (by decide) (by decide)
    obtain ⟨a1136, g1136⟩ : ∃ z, z = h0.size := ⟨_, rfl⟩
    rw [← g1136] at A1136 D1136 st1136
    have q1137 : n0 ≤ a1136 := by rw [g1136]; exact Z0
    have Z1138 := Nat.le_trans Z0 E1136.1
    have F1139 : Fld Z h1136 a1136 "com/example/priorsum/priorsum/RankedRows" "priorities" "[D" (.null) := D1136 (Or.inl (wd hw 11 _ rfl)) (ty := .array .double) (by decide)
    have F1140 : Fld Z h1136 a1136 "com/example/priorsum/priorsum/RankedRows" "indices" "[J" (.null) := D1136 (Or.inl (wd hw 14 _ rfl)) (ty := .array .long) (by decide)
    have F1141 : Fld Z h1136 a1136 "com/example/priorsum/priorsum/RankedRows" "weights" "[D" (.null) := D1136 (Or.inl (wd hw 16 _ rfl)) (ty := .array .double) (by decide)
    have F1142 : Fld Z h1136 a1136 "com/example/priorsum/priorsum/RankedRows" "items" "[Ljava/lang/Object;" (.null) := D1136 (Or.inl (wd hw 20 _ rfl)) (ty := .array (.object "java/lang/Object")) (by decide)
    have F1143 : Fld Z h1136 a1136 "com/example/priorsum/priorsum/RankedRows" "floor" "D" (.double (0 : UInt64)) := D1136 (Or.inl (wd hw 23 _ rfl)) (ty := .double) (by decide)
    have F1144 : Fld Z h1136 a1136 "com/example/priorsum/priorsum/RankedRows" "kept" "[I" (.null) := D1136 (Or.inl (wd hw 26 _ rfl)) (ty := .array .int) (by decide)
    have F1145 : Fld Z h1136 a1136 "com/example/priorsum/priorsum/RankedRows" "scratch" "[D" (.null) := D1136 (Or.inl (wd hw 28 _ rfl)) (ty := .array .double) (by decide)
    have F1146 : Fld Z h1136 a1136 "com/example/priorsum/priorsum/RankedRows" "keep" "I" (.int (0 : Int32)) := D1136 (Or.inr (wd hw 30 _ rfl)) (ty := .int) (by decide)
    have F1147 : Fld Z h1136 a1136 "com/example/priorsum/priorsum/RankedRows" "capacity" "I" (.int (0 : Int32)) := D1136 (Or.inr (wd hw 32 _ rfl)) (ty := .int) (by decide)
    have F1148 : Fld Z h1136 a1136 "com/example/priorsum/priorsum/RankedRows" "held" "I" (.int (0 : Int32)) := D1136 (Or.inl (wd hw 39 _ rfl)) (ty := .int) (by decide)
    have F1149 : Fld Z h1136 a1136 "com/example/priorsum/priorsum/RankedRows" "counts" "[I" (.null) := D1136 (Or.inl (wd hw 86 _ rfl)) (ty := .array .int) (by decide)
    have F1150 : Fld Z h1136 a1136 "com/example/priorsum/priorsum/RankedRows" "base" "J" (.long (0 : Int64)) := D1136 (Or.inl (wd hw 111 _ rfl)) (ty := .long) (by decide)
    have F1151 : Fld Z h1136 a1136 "com/example/priorsum/priorsum/RankedRows" "floorBucket" "I" (.int (0 : Int32)) := D1136 (Or.inl (wd hw 113 _ rfl)) (ty := .int) (by decide)
    have F1152 : Fld Z h1136 a1136 "com/example/priorsum/priorsum/RankedRows" "above" "I" (.int (0 : Int32)) := D1136 (Or.inl (wd hw 120 _ rfl)) (ty := .int) (by decide)
    refine Go.via st1136 ?_
    show Go p e below _ (T1136.setTop (mkF m 38 #[.val (.int i0), .val (.int i1), .val (.int i2), .val (.int i3), .val (.int wn), .val (.int an), .val (.int pn), .val (.int (1 : Int32)), .unset, .unset, .unset, .unset, .unset, .unset, .unset] [.ref a1136]))
    refine s_dup X1136 hx (hb hby at_38) rfl 39 rfl ?_
    refine s_iconst X1136 hx (hb hby at_39) (1 : Int32) rfl 40 rfl ?_
    obtain ⟨v1153, T1153, L1153, X1153, hQ1153, st1153⟩ := callInit X1136 hx hZ hown rfl (wd hw 3 _ rfl) (wd hw 4 _ rfl) (wd hw 2 _ rfl) (wd hw 5 _ rfl) (by decide) (c_ctor l Z a0 hw [] a1136 h1136 n0 Z1138 A1136 q1137 F1139 F1140 F1141 F1142 F1143 F1144 F1145 F1146 F1147 F1148 F1149 F1150 F1151 F1152) e1136 (L := #[.val (.int i0), .val (.int i1), .val (.int i2), .val (.int i3), .val (.int wn), .val (.int an), .val (.int pn), .val (.int (1 : Int32)), .unset, .unset, .unset, .unset, .unset, .unset, .unset]) (hb hby at_40) (by rw [hml]; rfl) a1136 [.int (1 : Int32)] [.ref a1136] rfl rfl pd_0 rfl 1 (by show 2 * 0 + _ ≤ _; exact Nat.le_of_eq rfl) (by decide) (by decide) (by decide) (by decide)
    obtain ⟨bP1153, bI1153, bW1153, bT1153, jP1153, jI1153, jW1153, jT1153, rfl, N1153, K1153, g1153_P, g1153_I, g1153_W, g1153_T, G1153_priorities, G1153_indices, G1153_weights, G1153_items, G1153_floor, G1153_keep, G1153_capacity, G1153_held, G1153_counts, G1153_base, G1153_floorBucket, G1153_above, A1153_P, A1153_I, A1153_W, A1153_T, B1153⟩ := hQ1153
    have ne1154 : a1136 ≠ bP1153 := Nat.ne_of_lt (Nat.lt_of_lt_of_le A1136.lt g1153_P)
    have q1155 : n0 ≤ bP1153 := Nat.le_trans Z1138 g1153_P
    have ne1156 : a1136 ≠ bI1153 := Nat.ne_of_lt (Nat.lt_of_lt_of_le A1136.lt g1153_I)
    have q1157 : n0 ≤ bI1153 := Nat.le_trans Z1138 g1153_I
    have ne1158 : a1136 ≠ bW1153 := Nat.ne_of_lt (Nat.lt_of_lt_of_le A1136.lt g1153_W)
    have q1159 : n0 ≤ bW1153 := Nat.le_trans Z1138 g1153_W
    have ne1160 : a1136 ≠ bT1153 := Nat.ne_of_lt (Nat.lt_of_lt_of_le A1136.lt g1153_T)
    have q1161 : n0 ≤ bT1153 := Nat.le_trans Z1138 g1153_T
    have M1153 := Fr.app N0 N1153
    have F1162 := A1136.keep K1153
    have Z1163 := Nat.le_trans Z1138 K1153.1
    have e1153 : T1153.heap = T1153.heap := rfl
    refine Go.via st1153 ?_
    show Go p e below _ (T1153.setTop (mkF m 43 #[.val (.int i0), .val (.int i1), .val (.int i2), .val (.int i3), .val (.int wn), .val (.int an), .val (.int pn), .val (.int (1 : Int32)), .unset, .unset, .unset, .unset, .unset, .unset, .unset] [.ref a1136]))
    refine s_astore X1153 hx (hb hby at_43) rfl #[.val (.int i0), .val (.int i1), .val (.int i2), .val (.int i3), .val (.int wn), .val (.int an), .val (.int pn), .val (.int (1 : Int32)), .val (.ref a1136), .unset, .unset, .unset, .unset, .unset, .unset] rfl 45 rfl ?_
    refine s_iload X1153 hx (hb hby at_45) rfl 47 rfl ?_
    refine s_ifN X1153 hx (hb hby at_47) (by decide) 50 rfl ?_
    refine s_aload X1153 hx (hb hby at_50) rfl rfl 52 rfl ?_
    refine s_iloadN X1153 hx (hb hby at_52) rfl 53 rfl ?_
    refine s_i2l X1153 hx (hb hby at_53) i0.toInt64 rfl 54 rfl ?_
    refine s_null X1153 hx (hb hby at_54) 55 rfl ?_
    refine s_dconst1 X1153 hx (hb hby at_55) (4607182418800017408 : UInt64) rfl 56 rfl ?_
    refine s_iload X1153 hx (hb hby at_56) rfl 58 rfl ?_
    refine s_i2d X1153 hx (hb hby at_58) (FP.i2d pn) rfl 59 rfl ?_
    have hP : PD (FP.i2d pn) := pd_of t_pn bp
    obtain ⟨v1164, T1164, L1164, X1164, hQ1164, st1164⟩ := callVirt X1153 hx hZ hown (wd hw 33 _ rfl) (wd hw 34 _ rfl) (wd hw 36 _ rfl) (wd hw 35 _ rfl) (wd hw 2 _ rfl) (wd hw 37 _ rfl) (by decide) (c_add l Z a0 hw [] a1136 bP1153 bI1153 bW1153 bT1153 mr jP1153 jI1153 jW1153 jT1153 i0.toInt64 (FP.i2d pn) T1153.heap n0 Z1163 F1162 q1137 G1153_priorities G1153_indices G1153_weights G1153_items G1153_floor G1153_keep G1153_capacity G1153_held G1153_counts G1153_base G1153_floorBucket G1153_above A1153_P A1153_I A1153_W A1153_T B1153 ne1154 ne1156 ne1158 ne1160 Mm hP) e1153 a1136 F1162 (L := #[.val (.int i0), .val (.int i1), .val (.int i2), .val (.int i3), .val (.int wn), .val (.int an), .val (.int pn), .val (.int (1 : Int32)), .val (.ref a1136), .unset, .unset, .unset, .unset, .unset, .unset]) (hb hby at_59) (by rw [hml]; rfl) [.long i0.toInt64, .null, .double (4607182418800017408 : UInt64), .double (FP.i2d pn)] [] rfl rfl pd_2 rfl 0 (by show 2 * 0 + _ ≤ _; exact Nat.le_of_eq rfl) (by decide) (by decide) (by decide) (by decide)
    obtain ⟨rfl, N1164, K1164, G1164⟩ := hQ1164
    have M1164 := Fr.app M1153 N1164
    have F1165 := F1162.keep K1164
    have F1166 := A1153_P.keep K1164 (ninS ((ne1154).symm) nin0)
    have F1167 := A1153_I.keep K1164 (ninS ((ne1156).symm) nin0)
    have F1168 := A1153_W.keep K1164 (ninS ((ne1158).symm) nin0)
    have F1169 := A1153_T.keep K1164 (ninS ((ne1160).symm) nin0)
    have F1170 := B1153.keep K1164
    have Z1171 := Nat.le_trans Z1163 K1164.1
    have e1164 : T1164.heap = T1164.heap := rfl
    refine Go.via st1164 ?_
    show Go p e below _ (T1164.setTop (mkF m 62 #[.val (.int i0), .val (.int i1), .val (.int i2), .val (.int i3), .val (.int wn), .val (.int an), .val (.int pn), .val (.int (1 : Int32)), .val (.ref a1136), .unset, .unset, .unset, .unset, .unset, .unset] []))
    have fw : Db 32768 (nw : Int) 0 (FP.i2d wn) := ⟨by rw [← t_wn]; exact dy_i2d wn, by omega⟩
    have fa : Db 64 ((na + 1 : Nat) : Int) 0 (FP.i2d an) := ⟨by rw [← t_an]; exact dy_i2d an, by omega⟩
    have dw := Db.div2 6 fw dc_4634204016564240384 (by decide)
    have da := Db.div2 6 fa dc_4634204016564240384 (by decide)
    refine s_iload X1164 hx (hb hby at_62) rfl 64 rfl ?_
    refine s_i2d X1164 hx (hb hby at_64) (FP.i2d wn) rfl 65 rfl ?_
    refine s_ldc2D X1164 hx (hb hby at_65) hZ hown (wd hw 144 _ rfl) 68 rfl ?_
    refine s_ddiv X1164 hx (hb hby at_68) (FP.ddiv (FP.i2d wn) (4634204016564240384 : UInt64)) rfl dw.nn 69 rfl ?_
    refine s_dstore X1164 hx (hb hby at_69) #[.val (.int i0), .val (.int i1), .val (.int i2), .val (.int i3), .val (.int wn), .val (.int an), .val (.int pn), .val (.int (1 : Int32)), .val (.ref a1136), .val (.double (FP.ddiv (FP.i2d wn) (4634204016564240384 : UInt64))), .second, .unset, .unset, .unset, .unset] rfl 71 rfl ?_
    refine s_iload X1164 hx (hb hby at_71) rfl 73 rfl ?_
    refine s_i2d X1164 hx (hb hby at_73) (FP.i2d an) rfl 74 rfl ?_
    refine s_ldc2D X1164 hx (hb hby at_74) hZ hown (wd hw 144 _ rfl) 77 rfl ?_
    refine s_ddiv X1164 hx (hb hby at_77) (FP.ddiv (FP.i2d an) (4634204016564240384 : UInt64)) rfl da.nn 78 rfl ?_
    refine s_dstore X1164 hx (hb hby at_78) #[.val (.int i0), .val (.int i1), .val (.int i2), .val (.int i3), .val (.int wn), .val (.int an), .val (.int pn), .val (.int (1 : Int32)), .val (.ref a1136), .val (.double (FP.ddiv (FP.i2d wn) (4634204016564240384 : UInt64))), .second, .val (.double (FP.ddiv (FP.i2d an) (4634204016564240384 : UInt64))), .second, .unset, .unset] rfl 80 rfl ?_
    refine s_aload X1164 hx (hb hby at_80) rfl rfl 82 rfl ?_
    refine s_dload X1164 hx (hb hby at_82) rfl 84 rfl ?_
    refine s_dload X1164 hx (hb hby at_84) rfl 86 rfl ?_
    have eqa : FP.ddiv (FP.i2d an) (4634204016564240384 : UInt64) = q64 (na + 1) := by rw [q64, nat_of t_an]
    have ep : FP.i2d pn = FP.i2d (Int32.ofNat np) := by rw [nat_of t_pn]
    have em : FP.dmul (ndOf (FP.i2d pn)) (FP.ddiv (FP.i2d an) (4634204016564240384 : UInt64)) = mm np (na + 1) := by rw [eqa, ep]; rfl
    have tm : (pn * an).toInt = ((np * (na + 1) : Nat) : Int) := mul_nat t_pn t_an bp (by omega)
    rcases Decidable.em (nw < np * (na + 1)) with hl | hl
    · skip
      obtain ⟨v1172, T1172, L1172, X1172, hQ1172, st1172⟩ := callVirt X1164 hx hZ hown (wd hw 145 _ rfl) (wd hw 146 _ rfl) (wd hw 148 _ rfl) (wd hw 147 _ rfl) (wd hw 2 _ rfl) (wd hw 149 _ rfl) (by decide) (c_ref_t l Z a0 hw [] a1136 (FP.ddiv (FP.i2d wn) (4634204016564240384 : UInt64)) (FP.ddiv (FP.i2d an) (4634204016564240384 : UInt64)) (ndOf (FP.i2d pn)) T1164.heap n0 Z1171 F1165 G1164 (by rw [em]; exact mm_nn bp ba) (by rw [em]; exact ref_yes dw.1 bp ba hl)) e1164 a1136 F1165 (L := #[.val (.int i0), .val (.int i1), .val (.int i2), .val (.int i3), .val (.int wn), .val (.int an), .val (.int pn), .val (.int (1 : Int32)), .val (.ref a1136), .val (.double (FP.ddiv (FP.i2d wn) (4634204016564240384 : UInt64))), .second, .val (.double (FP.ddiv (FP.i2d an) (4634204016564240384 : UInt64))), .second, .unset, .unset]) (hb hby at_86) (by rw [hml]; rfl) [.double (FP.ddiv (FP.i2d wn) (4634204016564240384 : UInt64)), .double (FP.ddiv (FP.i2d an) (4634204016564240384 : UInt64))] [] rfl rfl pd_23 rfl 0 (by show 2 * 0 + _ ≤ _; exact Nat.le_of_eq rfl) (by decide) (by decide) (by decide) (by decide)
      obtain ⟨rfl, N1172, hh1172⟩ := hQ1172
      have M1172 := Fr.app M1164 N1172
      refine Go.via st1172 ?_
      show Go p e below _ (T1172.setTop (mkF m 89 #[.val (.int i0), .val (.int i1), .val (.int i2), .val (.int i3), .val (.int wn), .val (.int an), .val (.int pn), .val (.int (1 : Int32)), .val (.ref a1136), .val (.double (FP.ddiv (FP.i2d wn) (4634204016564240384 : UInt64))), .second, .val (.double (FP.ddiv (FP.i2d an) (4634204016564240384 : UInt64))), .second, .unset, .unset] [.int (1 : Int32)]))
      refine s_istore X1172 hx (hb hby at_89) #[.val (.int i0), .val (.int i1), .val (.int i2), .val (.int i3), .val (.int wn), .val (.int an), .val (.int pn), .val (.int (1 : Int32)), .val (.ref a1136), .val (.double (FP.ddiv (FP.i2d wn) (4634204016564240384 : UInt64))), .second, .val (.double (FP.ddiv (FP.i2d an) (4634204016564240384 : UInt64))), .second, .val (.int (1 : Int32)), .unset] rfl 91 rfl ?_
      refine s_iload X1172 hx (hb hby at_91) rfl 93 rfl ?_
      refine s_ifN X1172 hx (hb hby at_93) (by decide) 96 rfl ?_
      refine s_iload X1172 hx (hb hby at_96) rfl 98 rfl ?_
      refine s_iload X1172 hx (hb hby at_98) rfl 100 rfl ?_
      refine s_iload X1172 hx (hb hby at_100) rfl 102 rfl ?_
      refine s_imul X1172 hx (hb hby at_102) (pn * an) rfl 103 rfl ?_
      refine s_icmpN X1172 hx (hb hby at_103) (XT.ii_ge_f (by rw [Int32.lt_iff_toInt_lt, tm, t_wn]; exact_mod_cast hl)) 106 rfl ?_
      refine s_iconst X1172 hx (hb hby at_106) (1 : Int32) rfl 107 rfl ?_
      refine s_goto X1172 hx (hb hby at_107) 111 (by decide) (by decide) ?_
      refine s_istore X1172 hx (hb hby at_111) #[.val (.int i0), .val (.int i1), .val (.int i2), .val (.int i3), .val (.int wn), .val (.int an), .val (.int pn), .val (.int (1 : Int32)), .val (.ref a1136), .val (.double (FP.ddiv (FP.i2d wn) (4634204016564240384 : UInt64))), .second, .val (.double (FP.ddiv (FP.i2d an) (4634204016564240384 : UInt64))), .second, .val (.int (1 : Int32)), .val (.int (1 : Int32))] rfl 113 rfl ?_
      refine s_iload X1172 hx (hb hby at_113) rfl 115 rfl ?_
      refine s_iload X1172 hx (hb hby at_115) rfl 117 rfl ?_
      refine s_icmpN X1172 hx (hb hby at_117) (by decide) 120 rfl ?_
      refine s_iconst X1172 hx (hb hby at_120) (1 : Int32) rfl 121 rfl ?_
      refine s_goto X1172 hx (hb hby at_121) 125 (by decide) (by decide) ?_
      exact retZ X1172 hx hlk hret (hb hby at_125) (by decide) hh1172 ⟨rfl, M1172⟩ (by decide) (by decide)
    · skip
      obtain ⟨v1173, T1173, L1173, X1173, hQ1173, st1173⟩ := callVirt X1164 hx hZ hown (wd hw 145 _ rfl) (wd hw 146 _ rfl) (wd hw 148 _ rfl) (wd hw 147 _ rfl) (wd hw 2 _ rfl) (wd hw 149 _ rfl) (by decide) (c_ref_f l Z a0 hw [] a1136 (FP.ddiv (FP.i2d wn) (4634204016564240384 : UInt64)) (FP.ddiv (FP.i2d an) (4634204016564240384 : UInt64)) (ndOf (FP.i2d pn)) T1164.heap n0 Z1171 F1165 G1164 (by rw [em]; exact mm_nn bp ba) (by rw [em]; exact ref_no dw.1 bp ba hl)) e1164 a1136 F1165 (L := #[.val (.int i0), .val (.int i1), .val (.int i2), .val (.int i3), .val (.int wn), .val (.int an), .val (.int pn), .val (.int (1 : Int32)), .val (.ref a1136), .val (.double (FP.ddiv (FP.i2d wn) (4634204016564240384 : UInt64))), .second, .val (.double (FP.ddiv (FP.i2d an) (4634204016564240384 : UInt64))), .second, .unset, .unset]) (hb hby at_86) (by rw [hml]; rfl) [.double (FP.ddiv (FP.i2d wn) (4634204016564240384 : UInt64)), .double (FP.ddiv (FP.i2d an) (4634204016564240384 : UInt64))] [] rfl rfl pd_23 rfl 0 (by show 2 * 0 + _ ≤ _; exact Nat.le_of_eq rfl) (by decide) (by decide) (by decide) (by decide)
      obtain ⟨rfl, N1173, hh1173⟩ := hQ1173
      have M1173 := Fr.app M1164 N1173
      refine Go.via st1173 ?_
      show Go p e below _ (T1173.setTop (mkF m 89 #[.val (.int i0), .val (.int i1), .val (.int i2), .val (.int i3), .val (.int wn), .val (.int an), .val (.int pn), .val (.int (1 : Int32)), .val (.ref a1136), .val (.double (FP.ddiv (FP.i2d wn) (4634204016564240384 : UInt64))), .second, .val (.double (FP.ddiv (FP.i2d an) (4634204016564240384 : UInt64))), .second, .unset, .unset] [.int (0 : Int32)]))
      refine s_istore X1173 hx (hb hby at_89) #[.val (.int i0), .val (.int i1), .val (.int i2), .val (.int i3), .val (.int wn), .val (.int an), .val (.int pn), .val (.int (1 : Int32)), .val (.ref a1136), .val (.double (FP.ddiv (FP.i2d wn) (4634204016564240384 : UInt64))), .second, .val (.double (FP.ddiv (FP.i2d an) (4634204016564240384 : UInt64))), .second, .val (.int (0 : Int32)), .unset] rfl 91 rfl ?_
      refine s_iload X1173 hx (hb hby at_91) rfl 93 rfl ?_
      refine s_ifN X1173 hx (hb hby at_93) (by decide) 96 rfl ?_
      refine s_iload X1173 hx (hb hby at_96) rfl 98 rfl ?_
      refine s_iload X1173 hx (hb hby at_98) rfl 100 rfl ?_
      refine s_iload X1173 hx (hb hby at_100) rfl 102 rfl ?_
      refine s_imul X1173 hx (hb hby at_102) (pn * an) rfl 103 rfl ?_
      refine s_icmpY X1173 hx (hb hby at_103) (XT.ii_ge_t (by rw [Int32.lt_iff_toInt_lt, tm, t_wn]; exact_mod_cast hl)) 110 (by decide) (by decide) ?_
      refine s_iconst X1173 hx (hb hby at_110) (0 : Int32) rfl 111 rfl ?_
      refine s_istore X1173 hx (hb hby at_111) #[.val (.int i0), .val (.int i1), .val (.int i2), .val (.int i3), .val (.int wn), .val (.int an), .val (.int pn), .val (.int (1 : Int32)), .val (.ref a1136), .val (.double (FP.ddiv (FP.i2d wn) (4634204016564240384 : UInt64))), .second, .val (.double (FP.ddiv (FP.i2d an) (4634204016564240384 : UInt64))), .second, .val (.int (0 : Int32)), .val (.int (0 : Int32))] rfl 113 rfl ?_
      refine s_iload X1173 hx (hb hby at_113) rfl 115 rfl ?_
      refine s_iload X1173 hx (hb hby at_115) rfl 117 rfl ?_
      refine s_icmpN X1173 hx (hb hby at_117) (by decide) 120 rfl ?_
      refine s_iconst X1173 hx (hb hby at_120) (1 : Int32) rfl 121 rfl ?_
      refine s_goto X1173 hx (hb hby at_121) 125 (by decide) (by decide) ?_
      exact retZ X1173 hx hlk hret (hb hby at_125) (by decide) hh1173 ⟨rfl, M1173⟩ (by decide) (by decide)
set_option maxRecDepth 65536 in
set_option maxHeartbeats 40000000 in
theorem comes_1 {Post : Tables → Env → Array Value → State → Outcome → State → Prop} (hpost : ∀ tb e args s v u, (limb_1_1.after args s (.returned v) u = true ∧ limb_1_2.after args s (.returned v) u = true ∧ True) → FrameEnd s (.returned v) u (Jvm.fieldLocs frame_1_writes args s ++ Jvm.arrayLocs frame_1_arrays args s ++ Jvm.staticLocs frame_1_statics s) 32 4224 → Post tb e args s (.returned v) u) :
    ArmFor flags0 classFile x code maxLocals ret World_1 tables_1 room_1 Calls_1 rest_1 Pre_1 Post := by
  intro l hfl _ _ p e ha hc hk s m args below hf hA hF happ hP
  obtain ⟨hcalls, hrest, hpre⟩ := hP
  obtain ⟨-, -, -, hnamed, -, -, -, hat⟩ := (Spec.applies_iff hf).mp happ
  obtain ⟨hg, hn⟩ := and_e (Cond.before_iff.mp (show (Jvm.Cond.and given_1 narrow_1).before args s = true from hpre))
  obtain ⟨hg0, hg1⟩ := and_e hg
  obtain ⟨w0, w1, w2, w3, rfl⟩ : ∃ w0 w1 w2 w3 : Value, args = #[w0, w1, w2, w3] := by
    have hs : args.size = 4 := by simpa [Cond.value, given_1] using hg0
    obtain ⟨L⟩ := args
    match L, hs with
    | [w0, w1, w2, w3], _ => exact ⟨w0, w1, w2, w3, rfl⟩
  have hw := fun d (hd : d ∈ tables_1) => atoms_spec (ws := Jvm.Cond.code x code maxLocals ret :: tables_1) hat d (List.mem_cons_of_mem _ hd)
  obtain ⟨ga0, hg2⟩ := and_e hg1
  obtain ⟨ga1, hg3⟩ := and_e hg2
  obtain ⟨ga2, hg4⟩ := and_e hg3
  have ga3 := hg4
  obtain ⟨i0, ei0⟩ := is_v ga0
  obtain rfl : w0 = .int i0 := Option.some.inj ei0
  obtain ⟨i1, ei1⟩ := is_v ga1
  obtain rfl : w1 = .int i1 := Option.some.inj ei1
  obtain ⟨i2, ei2⟩ := is_v ga2
  obtain rfl : w2 = .int i2 := Option.some.inj ei2
  obtain ⟨i3, ei3⟩ := is_v ga3
  obtain rfl : w3 = .int i3 := Option.some.inj ei3
  obtain ⟨n, o, h1, h2, h3, _, L, rfl, ⟨rfl, N⟩, hq⟩ := rm_law l s _ hw tables_1 i0 i1 i2 i3 s.heap s.heap.size (Nat.le_refl _) hcalls.1 p e ha hc hk s m _ below hf ((Spec.applies_iff_loose hf).mp happ).1 ⟨rfl, State.Warmed39.refl s, rfl⟩ trivial
  refine ⟨n, _, h1, h2, h3, hpost _ _ _ _ _ _ ⟨Cond.after_iff.mpr rfl, Cond.after_iff.mpr (eq_i res_at (Term.int_eval (1)) rfl), trivial⟩ ⟨hq.1, hq.2.1, (hq.2.2.sift fun y hy => Or.inr (N y hy)).mono (by decide) (by decide)⟩⟩
theorem main_1_1 : Claimed_1_1 := comes_1 fun _ _ _ _ _ _ h hF => ⟨h.1, hF⟩
theorem main_1_2 : Claimed_1_2 := comes_1 fun _ _ _ _ _ _ h hF => ⟨h.2.1, hF⟩
end Jvm.Pilot.@@N@@
namespace Jvm.Pilot.@@N@@
open Jvm Jvm.ClassFile Sem Op Lib Jvm.Free Jvm.Stand Jvm.Pilot.@@N@@.Jvm.D
/-! MADE BY PROGRAM (witnessworld.py) out of the Statement's table words and the real class files: 23 classes; the members and pool entries that the words name. The judged class is class 1, her method 1. -/
namespace start1
open Jvm.ClassFile
def u (s : String) : CpInfo := .utf8 (stringToUtf16 s)
/-- a pool by its gaps: so many unusable entries, then the entry; so many at the end -/
def gap : Nat → List CpInfo → List CpInfo
  | 0, r => r
  | n + 1, r => .unusable :: gap n r
def poolList (es : List (Nat × CpInfo)) (last : Nat) : List CpInfo := es.foldr (fun e r => gap e.1 (e.2 :: r)) (gap last [])
def pool (es : List (Nat × CpInfo)) (last : Nat) : Array CpInfo := ⟨poolList es last⟩
def fileOf (pool : Array CpInfo) (this : Nat) (attrs : Array Attribute := #[]) (ms : Array MethodInfo := #[]) (fl : Nat := 33) (sup : Nat := 0) (ifs : Array Nat := #[]) (fds : Array FieldInfo := #[]) : ClassFile where
  minorVersion := 0
  majorVersion := 65
  constantPool := pool
  accessFlags := fl
  thisClass := this
  superClass := sup
  interfaces := ifs
  fields := fds
  methods := ms
  attributes := attrs
def plain (name : String) (sup : Option ClassId) : Class where
  name := name
  kind := .ordinary
  loader := none
  accessFlags := 33
  super := sup
  interfaces := #[]
  cf := none
  fields := #[]
  methods := #[]
  instanceTypes := #[]
  staticTypes := #[]
  resolved := #[]
  callSites := []
  init := .initialized
  statics := none
  mirror := none

def pool0 : Array CpInfo := pool [(5, u "<init>"), (0, u "()V"), (1, .class_ 10), (1, u "java/lang/Object"), (0, u "getClass"), (0, u "()Ljava/lang/Class;")] 111

def k0c0 : Code := { maxStack := 0, maxLocals := 1, code := object_method_1_code, exceptionTable := #[], attributes := #[] }
def k0m0 : Method := { name := "<init>", desc := "()V", sig := { parameters := [], returnType := none }, accessFlags := 1, code := some k0c0 }
def k0m1 : Method := { name := "getClass", desc := "()Ljava/lang/Class;", sig := { parameters := [], returnType := some (.object "java/lang/Class") }, accessFlags := 273, code := none }
/-- java/lang/Object -/
def k0 : Class := { plain "java/lang/Object" none with
  accessFlags := 33
  interfaces := #[]
  cf := some (fileOf pool0 8 #[] #[{ accessFlags := 1, nameIndex := 5, descriptorIndex := 6, attributes := #[] }, { accessFlags := 273, nameIndex := 11, descriptorIndex := 12, attributes := #[] }] 33 0 #[] #[])
  fields := #[]
  methods := #[k0m0, k0m1]
  instanceTypes := #[]
  staticTypes := #[]
  resolved := Array.replicate 124 none
  statics := none }

def pool1 : Array CpInfo := pool [(2, .class_ 4), (1, u "java/lang/Object"), (0, u "<init>"), (0, u "()V"), (0, .class_ 8), (0, u "com/example/priorsum/priorsum/RankedRows"), (0, .methodref 7 10), (0, .nameAndType 5 11), (0, u "(I)V"), (0, .methodref 7 13), (0, .nameAndType 14 15), (0, u "add"), (0, u "(JLjava/lang/Object;DD)V"), (0, .double 4634204016564240384), (1, .methodref 7 19), (0, .nameAndType 20 21), (0, u "refuses"), (0, u "(DD)Z"), (0, .class_ 23), (0, u "com/example/priorsum/priorsum/RankedRowsRefusesPinLaw"), (2, u "law"), (0, u "(IIII)Z")] 3

def k1m0 : Method := { name := "<init>", desc := "()V", sig := { parameters := [], returnType := none }, accessFlags := 1, code := none }
def k1c1 : Code := { maxStack := 8, maxLocals := 15, code := code, exceptionTable := #[], attributes := #[] }
def k1m1 : Method := { name := "law", desc := "(IIII)Z", sig := { parameters := [.int, .int, .int, .int], returnType := some .boolean }, accessFlags := 9, code := some k1c1 }
/-- com/example/priorsum/priorsum/RankedRowsRefusesPinLaw -/
def k1 : Class := { plain "com/example/priorsum/priorsum/RankedRowsRefusesPinLaw" (some 0) with
  accessFlags := 49
  interfaces := #[]
  cf := some (fileOf pool1 22 #[] #[{ accessFlags := 1, nameIndex := 5, descriptorIndex := 6, attributes := #[] }, { accessFlags := 9, nameIndex := 26, descriptorIndex := 27, attributes := #[] }] 49 2 #[] #[])
  fields := #[]
  methods := #[k1m0, k1m1]
  instanceTypes := #[]
  staticTypes := #[]
  resolved := Array.replicate 31 none
  statics := none }

def pool2 : Array CpInfo := pool [(1, .methodref 2 3), (0, .class_ 4), (0, .nameAndType 5 6), (0, u "java/lang/Object"), (0, u "<init>"), (0, u "()V"), (0, .fieldref 8 9), (0, .class_ 10), (0, .nameAndType 11 12), (0, u "com/example/priorsum/priorsum/RankedRows"), (0, u "priorities"), (0, u "[D"), (0, .fieldref 8 14), (0, .nameAndType 15 16), (0, u "indices"), (0, u "[J"), (0, .fieldref 8 18), (0, .nameAndType 19 12), (0, u "weights"), (0, .fieldref 8 21), (0, .nameAndType 22 23), (0, u "items"), (0, u "[Ljava/lang/Object;"), (0, .class_ 25), (0, u "java/lang/Double"), (0, .double 18442240474082181120), (1, .fieldref 8 29), (0, .nameAndType 30 31), (0, u "floor"), (0, u "D"), (0, .fieldref 8 33), (0, .nameAndType 34 35), (0, u "kept"), (0, u "[I"), (0, .fieldref 8 37), (0, .nameAndType 38 12), (0, u "scratch"), (0, .fieldref 8 40), (0, .nameAndType 41 42), (0, u "keep"), (0, u "I"), (0, .fieldref 8 44), (0, .nameAndType 45 42), (0, u "capacity"), (0, .fieldref 8 47), (0, .nameAndType 48 42), (0, u "held"), (0, .methodref 8 50), (0, .nameAndType 51 6), (0, u "makeRoom"), (0, .fieldref 8 53), (0, .nameAndType 54 35), (0, u "counts"), (0, .methodref 8 56), (0, .nameAndType 57 6), (0, u "startCounting"), (0, .methodref 8 59), (0, .nameAndType 60 61), (0, u "bucket"), (0, u "(D)I"), (0, .fieldref 8 63), (0, .nameAndType 64 42), (0, u "floorBucket"), (0, .fieldref 8 66), (0, .nameAndType 67 42), (0, u "above"), (0, .methodref 8 69), (0, .nameAndType 70 6), (0, u "raiseFloor"), (0, .fieldref 8 72), (0, .nameAndType 73 74), (0, u "base"), (0, u "J"), (0, .methodref 8 76), (0, .nameAndType 77 78), (0, u "edge"), (0, u "(J)D"), (0, .double 9218868437227405312), (17, .methodref 98 99), (0, .class_ 100), (0, .nameAndType 101 102), (0, u "java/lang/Math"), (0, u "min"), (0, u "(DD)D"), (0, .methodref 8 104), (0, .nameAndType 105 106), (0, u "key"), (0, u "(D)J"), (0, .methodref 8 108), (0, .nameAndType 109 110), (0, u "countFrom"), (0, u "(J)V"), (0, .methodref 112 113), (0, .class_ 114), (0, .nameAndType 115 116), (0, u "java/util/Arrays"), (0, u "fill"), (0, u "([II)V"), (0, .methodref 98 118), (0, .nameAndType 119 120), (0, u "nextDown"), (0, u "(D)D"), (0, .methodref 98 122), (0, .nameAndType 123 102), (0, u "max"), (0, .long 2047), (1, .methodref 98 127), (0, .nameAndType 101 128), (0, u "(JJ)J"), (0, .methodref 24 130), (0, .nameAndType 131 106), (0, u "doubleToRawLongBits"), (2, .long 9223372036854775807), (1, .methodref 24 137), (0, .nameAndType 138 78), (0, u "longBitsToDouble"), (0, .methodref 8 140), (0, .nameAndType 141 6), (0, u "grow"), (3, u "(I)V"), (10, .long 16), (1, .long 2), (1, .methodref 98 161), (0, .nameAndType 123 128), (0, .methodref 112 163), (0, .nameAndType 164 165), (0, u "copyOf"), (0, u "([DI)[D"), (0, .methodref 112 167), (0, .nameAndType 164 168), (0, u "([JI)[J"), (0, .methodref 112 170), (0, .nameAndType 164 171), (0, u "([Ljava/lang/Object;I)[Ljava/lang/Object;"), (0, u "BUCKET_SHIFT"), (2, u "BUCKETS"), (3, u "refuses"), (0, u "(DD)Z"), (1, u "add"), (0, u "(JLjava/lang/Object;DD)V")] 22

def k2c0 : Code := { maxStack := 3, maxLocals := 2, code := prog_15_method_1_code, exceptionTable := #[], attributes := #[] }
def k2m0 : Method := { name := "<init>", desc := "(I)V", sig := { parameters := [.int], returnType := none }, accessFlags := 0, code := some k2c0 }
def k2c1 : Code := { maxStack := 6, maxLocals := 5, code := prog_15_method_2_code, exceptionTable := #[], attributes := #[] }
def k2m1 : Method := { name := "refuses", desc := "(DD)Z", sig := { parameters := [.double, .double], returnType := some .boolean }, accessFlags := 0, code := some k2c1 }
def k2c2 : Code := { maxStack := 4, maxLocals := 11, code := prog_15_method_3_code, exceptionTable := #[], attributes := #[] }
def k2m2 : Method := { name := "add", desc := "(JLjava/lang/Object;DD)V", sig := { parameters := [.long, (.object "java/lang/Object"), .double, .double], returnType := none }, accessFlags := 0, code := some k2c2 }
def k2c3 : Code := { maxStack := 4, maxLocals := 4, code := prog_15_method_10_code, exceptionTable := #[], attributes := #[] }
def k2m3 : Method := { name := "startCounting", desc := "()V", sig := { parameters := [], returnType := none }, accessFlags := 2, code := some k2c3 }
def k2c4 : Code := { maxStack := 4, maxLocals := 6, code := prog_15_method_11_code, exceptionTable := #[], attributes := #[] }
def k2m4 : Method := { name := "countFrom", desc := "(J)V", sig := { parameters := [.long], returnType := none }, accessFlags := 2, code := some k2c4 }
def k2c5 : Code := { maxStack := 7, maxLocals := 1, code := prog_15_method_12_code, exceptionTable := #[], attributes := #[] }
def k2m5 : Method := { name := "raiseFloor", desc := "()V", sig := { parameters := [], returnType := none }, accessFlags := 2, code := some k2c5 }
def k2c6 : Code := { maxStack := 4, maxLocals := 3, code := prog_15_method_13_code, exceptionTable := #[], attributes := #[] }
def k2m6 : Method := { name := "bucket", desc := "(D)I", sig := { parameters := [.double], returnType := some .int }, accessFlags := 2, code := some k2c6 }
def k2c7 : Code := { maxStack := 4, maxLocals := 2, code := prog_15_method_14_code, exceptionTable := #[], attributes := #[] }
def k2m7 : Method := { name := "key", desc := "(D)J", sig := { parameters := [.double], returnType := some .long }, accessFlags := 10, code := some k2c7 }
def k2c8 : Code := { maxStack := 3, maxLocals := 2, code := prog_15_method_15_code, exceptionTable := #[], attributes := #[] }
def k2m8 : Method := { name := "edge", desc := "(J)D", sig := { parameters := [.long], returnType := some .double }, accessFlags := 10, code := some k2c8 }
def k2c9 : Code := { maxStack := 8, maxLocals := 3, code := prog_15_method_16_code, exceptionTable := #[], attributes := #[] }
def k2m9 : Method := { name := "makeRoom", desc := "()V", sig := { parameters := [], returnType := none }, accessFlags := 2, code := some k2c9 }
def k2c10 : Code := { maxStack := 8, maxLocals := 2, code := prog_15_method_23_code, exceptionTable := #[], attributes := #[] }
def k2m10 : Method := { name := "grow", desc := "()V", sig := { parameters := [], returnType := none }, accessFlags := 2, code := some k2c10 }
/-- com/example/priorsum/priorsum/RankedRows -/
def k2 : Class := { plain "com/example/priorsum/priorsum/RankedRows" (some 0) with
  accessFlags := 48
  interfaces := #[]
  cf := some (fileOf pool2 8 #[] #[{ accessFlags := 0, nameIndex := 5, descriptorIndex := 145, attributes := #[] }, { accessFlags := 0, nameIndex := 179, descriptorIndex := 180, attributes := #[] }, { accessFlags := 0, nameIndex := 182, descriptorIndex := 183, attributes := #[] }, { accessFlags := 2, nameIndex := 57, descriptorIndex := 6, attributes := #[] }, { accessFlags := 2, nameIndex := 109, descriptorIndex := 110, attributes := #[] }, { accessFlags := 2, nameIndex := 70, descriptorIndex := 6, attributes := #[] }, { accessFlags := 2, nameIndex := 60, descriptorIndex := 61, attributes := #[] }, { accessFlags := 10, nameIndex := 105, descriptorIndex := 106, attributes := #[] }, { accessFlags := 10, nameIndex := 77, descriptorIndex := 78, attributes := #[] }, { accessFlags := 2, nameIndex := 51, descriptorIndex := 6, attributes := #[] }, { accessFlags := 2, nameIndex := 141, descriptorIndex := 6, attributes := #[] }] 48 2 #[] #[{ accessFlags := 26, nameIndex := 172, descriptorIndex := 42, attributes := #[] }, { accessFlags := 26, nameIndex := 175, descriptorIndex := 42, attributes := #[] }, { accessFlags := 18, nameIndex := 41, descriptorIndex := 42, attributes := #[] }, { accessFlags := 18, nameIndex := 45, descriptorIndex := 42, attributes := #[] }, { accessFlags := 2, nameIndex := 11, descriptorIndex := 12, attributes := #[] }, { accessFlags := 2, nameIndex := 15, descriptorIndex := 16, attributes := #[] }, { accessFlags := 2, nameIndex := 19, descriptorIndex := 12, attributes := #[] }, { accessFlags := 2, nameIndex := 22, descriptorIndex := 23, attributes := #[] }, { accessFlags := 2, nameIndex := 48, descriptorIndex := 42, attributes := #[] }, { accessFlags := 2, nameIndex := 30, descriptorIndex := 31, attributes := #[] }, { accessFlags := 2, nameIndex := 54, descriptorIndex := 35, attributes := #[] }, { accessFlags := 2, nameIndex := 73, descriptorIndex := 74, attributes := #[] }, { accessFlags := 2, nameIndex := 64, descriptorIndex := 42, attributes := #[] }, { accessFlags := 2, nameIndex := 67, descriptorIndex := 42, attributes := #[] }, { accessFlags := 2, nameIndex := 34, descriptorIndex := 35, attributes := #[] }, { accessFlags := 2, nameIndex := 38, descriptorIndex := 12, attributes := #[] }])
  fields := #[{ name := "BUCKET_SHIFT", type := .int, accessFlags := 26, slot := 0, constantValue := 0 }, { name := "BUCKETS", type := .int, accessFlags := 26, slot := 1, constantValue := 0 }, { name := "keep", type := .int, accessFlags := 18, slot := 0, constantValue := 0 }, { name := "capacity", type := .int, accessFlags := 18, slot := 1, constantValue := 0 }, { name := "priorities", type := (.array .double), accessFlags := 2, slot := 2, constantValue := 0 }, { name := "indices", type := (.array .long), accessFlags := 2, slot := 3, constantValue := 0 }, { name := "weights", type := (.array .double), accessFlags := 2, slot := 4, constantValue := 0 }, { name := "items", type := (.array (.object "java/lang/Object")), accessFlags := 2, slot := 5, constantValue := 0 }, { name := "held", type := .int, accessFlags := 2, slot := 6, constantValue := 0 }, { name := "floor", type := .double, accessFlags := 2, slot := 7, constantValue := 0 }, { name := "counts", type := (.array .int), accessFlags := 2, slot := 8, constantValue := 0 }, { name := "base", type := .long, accessFlags := 2, slot := 9, constantValue := 0 }, { name := "floorBucket", type := .int, accessFlags := 2, slot := 10, constantValue := 0 }, { name := "above", type := .int, accessFlags := 2, slot := 11, constantValue := 0 }, { name := "kept", type := (.array .int), accessFlags := 2, slot := 12, constantValue := 0 }, { name := "scratch", type := (.array .double), accessFlags := 2, slot := 13, constantValue := 0 }]
  methods := #[k2m0, k2m1, k2m2, k2m3, k2m4, k2m5, k2m6, k2m7, k2m8, k2m9, k2m10]
  instanceTypes := #[.int, .int, (.array .double), (.array .long), (.array .double), (.array (.object "java/lang/Object")), .int, .double, (.array .int), .long, .int, .int, (.array .int), (.array .double)]
  staticTypes := #[.int, .int]
  resolved := Array.replicate 206 none
  statics := none }

def pool3 : Array CpInfo := pool [(1, .class_ 2), (0, u "java/lang/Math"), (1, .class_ 6), (1, u "java/lang/Object"), (0, u "<init>"), (0, u "()V"), (5, u "(D)D"), (37, u "(DD)D"), (26, .methodref 80 81), (0, .class_ 82), (0, .nameAndType 83 84), (0, u "java/lang/Double"), (0, u "doubleToRawLongBits"), (0, u "(D)J"), (13, .class_ 100), (1, u "java/lang/Math$RandomNumberGeneratorHolder"), (20, u "(JJ)J"), (8, .long 18446744073709551615), (35, .methodref 80 167), (0, .nameAndType 168 169), (0, u "longBitsToDouble"), (0, u "(J)D"), (2, u "negativeZeroFloatBits"), (0, u "J"), (2, u "negativeZeroDoubleBits"), (21, u "max"), (2, u "min"), (3, .methodref 80 206), (0, .nameAndType 207 208), (0, u "isNaN"), (0, u "(D)Z"), (36, u "$assertionsDisabled"), (0, u "Z"), (77, .double 9223372036854775809), (5, .double 18442240474082181120), (4, u "(II)I"), (2, u "twoToTheDoubleScaleDown"), (0, u "D"), (4, u "twoToTheDoubleScaleUp"), (9, u "E"), (3, u "PI"), (2, u "TAU"), (2, u "DEGREES_TO_RADIANS"), (0, u "RADIANS_TO_DEGREES"), (78, u "nextDown")] 15

def k3m0 : Method := { name := "<init>", desc := "()V", sig := { parameters := [], returnType := none }, accessFlags := 2, code := none }
def k3c1 : Code := { maxStack := 4, maxLocals := 4, code := jdk_29_method_66_code, exceptionTable := #[], attributes := #[] }
def k3m1 : Method := { name := "max", desc := "(JJ)J", sig := { parameters := [.long, .long], returnType := some .long }, accessFlags := 9, code := some k3c1 }
def k3c2 : Code := { maxStack := 4, maxLocals := 4, code := jdk_29_method_68_code, exceptionTable := #[], attributes := #[] }
def k3m2 : Method := { name := "max", desc := "(DD)D", sig := { parameters := [.double, .double], returnType := some .double }, accessFlags := 9, code := some k3c2 }
def k3c3 : Code := { maxStack := 2, maxLocals := 2, code := jdk_29_method_69_code, exceptionTable := #[], attributes := #[] }
def k3m3 : Method := { name := "min", desc := "(II)I", sig := { parameters := [.int, .int], returnType := some .int }, accessFlags := 9, code := some k3c3 }
def k3c4 : Code := { maxStack := 4, maxLocals := 4, code := jdk_29_method_70_code, exceptionTable := #[], attributes := #[] }
def k3m4 : Method := { name := "min", desc := "(JJ)J", sig := { parameters := [.long, .long], returnType := some .long }, accessFlags := 9, code := some k3c4 }
def k3c5 : Code := { maxStack := 4, maxLocals := 4, code := jdk_29_method_72_code, exceptionTable := #[], attributes := #[] }
def k3m5 : Method := { name := "min", desc := "(DD)D", sig := { parameters := [.double, .double], returnType := some .double }, accessFlags := 9, code := some k3c5 }
def k3c6 : Code := { maxStack := 6, maxLocals := 2, code := jdk_29_method_97_code, exceptionTable := #[], attributes := #[] }
def k3m6 : Method := { name := "nextDown", desc := "(D)D", sig := { parameters := [.double], returnType := some .double }, accessFlags := 9, code := some k3c6 }
/-- java/lang/Math -/
def k3 : Class := { plain "java/lang/Math" (some 0) with
  accessFlags := 49
  interfaces := #[]
  cf := some (fileOf pool3 1 #[.nestMembers #[98]] #[{ accessFlags := 2, nameIndex := 7, descriptorIndex := 8, attributes := #[] }, { accessFlags := 9, nameIndex := 198, descriptorIndex := 121, attributes := #[] }, { accessFlags := 9, nameIndex := 198, descriptorIndex := 52, attributes := #[] }, { accessFlags := 9, nameIndex := 201, descriptorIndex := 335, attributes := #[] }, { accessFlags := 9, nameIndex := 201, descriptorIndex := 121, attributes := #[] }, { accessFlags := 9, nameIndex := 201, descriptorIndex := 52, attributes := #[] }, { accessFlags := 9, nameIndex := 444, descriptorIndex := 14, attributes := #[] }] 49 4 #[] #[{ accessFlags := 25, nameIndex := 354, descriptorIndex := 339, attributes := #[] }, { accessFlags := 25, nameIndex := 358, descriptorIndex := 339, attributes := #[] }, { accessFlags := 25, nameIndex := 361, descriptorIndex := 339, attributes := #[] }, { accessFlags := 26, nameIndex := 364, descriptorIndex := 339, attributes := #[] }, { accessFlags := 26, nameIndex := 365, descriptorIndex := 339, attributes := #[] }, { accessFlags := 26, nameIndex := 172, descriptorIndex := 173, attributes := #[] }, { accessFlags := 26, nameIndex := 176, descriptorIndex := 173, attributes := #[] }, { accessFlags := 8, nameIndex := 344, descriptorIndex := 339, attributes := #[] }, { accessFlags := 8, nameIndex := 338, descriptorIndex := 339, attributes := #[] }, { accessFlags := 4120, nameIndex := 245, descriptorIndex := 246, attributes := #[] }])
  fields := #[{ name := "E", type := .double, accessFlags := 25, slot := 0, constantValue := 0 }, { name := "PI", type := .double, accessFlags := 25, slot := 1, constantValue := 0 }, { name := "TAU", type := .double, accessFlags := 25, slot := 2, constantValue := 0 }, { name := "DEGREES_TO_RADIANS", type := .double, accessFlags := 26, slot := 3, constantValue := 0 }, { name := "RADIANS_TO_DEGREES", type := .double, accessFlags := 26, slot := 4, constantValue := 0 }, { name := "negativeZeroFloatBits", type := .long, accessFlags := 26, slot := 5, constantValue := 0 }, { name := "negativeZeroDoubleBits", type := .long, accessFlags := 26, slot := 6, constantValue := 0 }, { name := "twoToTheDoubleScaleUp", type := .double, accessFlags := 8, slot := 7, constantValue := 0 }, { name := "twoToTheDoubleScaleDown", type := .double, accessFlags := 8, slot := 8, constantValue := 0 }, { name := "$assertionsDisabled", type := .boolean, accessFlags := 4120, slot := 9, constantValue := 0 }]
  methods := #[k3m0, k3m1, k3m2, k3m3, k3m4, k3m5, k3m6]
  instanceTypes := #[]
  staticTypes := #[.double, .double, .double, .double, .double, .long, .long, .double, .double, .boolean]
  resolved := Array.replicate 460 none
  statics := none }

def pool4 : Array CpInfo := pool [(2, .class_ 4), (1, u "java/lang/Object"), (0, u "<init>"), (0, u "()V"), (7, .class_ 16), (1, u "java/util/Arrays"), (57, .class_ 76), (1, u "java/util/Arrays$NaturalOrder"), (9, .methodref 2 87), (0, .nameAndType 88 89), (0, u "getClass"), (0, u "()Ljava/lang/Class;"), (20, .class_ 111), (0, u "[Ljava/lang/Object;"), (1, .class_ 115), (1, u "java/util/Arrays$LegacyMergeSort"), (1, u "Z"), (32, .methodref 151 152), (0, .class_ 153), (0, .nameAndType 154 155), (0, u "java/lang/System"), (0, u "arraycopy"), (0, u "(Ljava/lang/Object;ILjava/lang/Object;II)V"), (144, .methodref 14 301), (0, .nameAndType 302 303), (0, u "copyOf"), (0, u "([Ljava/lang/Object;ILjava/lang/Class;)[Ljava/lang/Object;"), (0, .methodref 305 306), (0, .class_ 307), (0, .nameAndType 308 309), (0, u "java/lang/Math"), (0, u "min"), (0, u "(II)I"), (65, .class_ 376), (0, u "java/util/Arrays$ArrayList"), (68, u "$assertionsDisabled"), (269, u "MIN_ARRAY_SORT_GRAN"), (0, u "I"), (2, u "INSERTIONSORT_THRESHOLD"), (120, u "fill"), (4, u "([II)V"), (14, u "([Ljava/lang/Object;I)[Ljava/lang/Object;"), (11, u "([JI)[J"), (2, u "([DI)[D"), (99, .class_ 976), (0, u "java/util/Arrays$ArrayItr")] 52

def k4m0 : Method := { name := "<init>", desc := "()V", sig := { parameters := [], returnType := none }, accessFlags := 2, code := none }
def k4c1 : Code := { maxStack := 3, maxLocals := 4, code := jdk_65_method_103_code, exceptionTable := #[], attributes := #[] }
def k4m1 : Method := { name := "fill", desc := "([II)V", sig := { parameters := [(.array .int), .int], returnType := none }, accessFlags := 9, code := some k4c1 }
def k4c2 : Code := { maxStack := 3, maxLocals := 2, code := jdk_65_method_119_code, exceptionTable := #[], attributes := #[] }
def k4m2 : Method := { name := "copyOf", desc := "([Ljava/lang/Object;I)[Ljava/lang/Object;", sig := { parameters := [(.array (.object "java/lang/Object")), .int], returnType := some (.array (.object "java/lang/Object")) }, accessFlags := 9, code := some k4c2 }
def k4c3 : Code := { maxStack := 6, maxLocals := 4, code := jdk_65_method_120_code, exceptionTable := #[], attributes := #[] }
def k4m3 : Method := { name := "copyOf", desc := "([Ljava/lang/Object;ILjava/lang/Class;)[Ljava/lang/Object;", sig := { parameters := [(.array (.object "java/lang/Object")), .int, (.object "java/lang/Class")], returnType := some (.array (.object "java/lang/Object")) }, accessFlags := 9, code := some k4c3 }
def k4c4 : Code := { maxStack := 6, maxLocals := 3, code := jdk_65_method_124_code, exceptionTable := #[], attributes := #[] }
def k4m4 : Method := { name := "copyOf", desc := "([JI)[J", sig := { parameters := [(.array .long), .int], returnType := some (.array .long) }, accessFlags := 9, code := some k4c4 }
def k4c5 : Code := { maxStack := 6, maxLocals := 3, code := jdk_65_method_127_code, exceptionTable := #[], attributes := #[] }
def k4m5 : Method := { name := "copyOf", desc := "([DI)[D", sig := { parameters := [(.array .double), .int], returnType := some (.array .double) }, accessFlags := 9, code := some k4c5 }
/-- java/util/Arrays -/
def k4 : Class := { plain "java/util/Arrays" (some 0) with
  accessFlags := 49
  interfaces := #[]
  cf := some (fileOf pool4 14 #[.nestMembers #[975, 375, 113, 74]] #[{ accessFlags := 2, nameIndex := 5, descriptorIndex := 6, attributes := #[] }, { accessFlags := 9, nameIndex := 840, descriptorIndex := 845, attributes := #[] }, { accessFlags := 9, nameIndex := 302, descriptorIndex := 860, attributes := #[] }, { accessFlags := 9, nameIndex := 302, descriptorIndex := 303, attributes := #[] }, { accessFlags := 9, nameIndex := 302, descriptorIndex := 872, attributes := #[] }, { accessFlags := 9, nameIndex := 302, descriptorIndex := 875, attributes := #[] }] 49 2 #[] #[{ accessFlags := 26, nameIndex := 715, descriptorIndex := 716, attributes := #[] }, { accessFlags := 26, nameIndex := 719, descriptorIndex := 716, attributes := #[] }, { accessFlags := 4120, nameIndex := 445, descriptorIndex := 117, attributes := #[] }])
  fields := #[{ name := "MIN_ARRAY_SORT_GRAN", type := .int, accessFlags := 26, slot := 0, constantValue := 0 }, { name := "INSERTIONSORT_THRESHOLD", type := .int, accessFlags := 26, slot := 1, constantValue := 0 }, { name := "$assertionsDisabled", type := .boolean, accessFlags := 4120, slot := 2, constantValue := 0 }]
  methods := #[k4m0, k4m1, k4m2, k4m3, k4m4, k4m5]
  instanceTypes := #[]
  staticTypes := #[.int, .int, .boolean]
  resolved := Array.replicate 1029 none
  statics := none }

def pool5 : Array CpInfo := pool [(2, .class_ 4), (1, u "java/lang/Object"), (0, u "<init>"), (0, u "()V"), (1, .class_ 10), (1, u "java/lang/System"), (0, u "allowSecurityManager"), (0, u "I"), (16, u "cons"), (0, u "Ljava/io/Console;"), (77, .class_ 110), (1, u "java/lang/System$CallersHolder"), (43, u "initialErrStream"), (0, u "Ljava/io/PrintStream;"), (19, u "security"), (0, u "Ljava/lang/SecurityManager;"), (31, .class_ 209), (0, u "java/lang/System$1"), (7, u "props"), (0, u "Ljava/util/Properties;"), (2, u "lineSeparator"), (0, u "Ljava/lang/String;"), (96, .class_ 321), (1, u "java/lang/System$LoggerFinder"), (5, .class_ 328), (0, u "java/lang/System$Logger"), (67, u "err"), (2, u "out"), (91, u "notSupportedJnuEncoding"), (15, u "in"), (17, u "initialIn"), (0, u "Ljava/io/InputStream;"), (35, u "bootLayer"), (0, u "Ljava/lang/ModuleLayer;"), (99, .class_ 664), (0, u "java/lang/System$2"), (9, u "NEVER"), (2, u "MAYBE"), (49, u "arraycopy"), (0, u "(Ljava/lang/Object;ILjava/lang/Object;II)V"), (72, .class_ 802), (0, u "java/lang/System$Logger$Level")] 31

def k5m0 : Method := { name := "<init>", desc := "()V", sig := { parameters := [], returnType := none }, accessFlags := 2, code := none }
def k5m1 : Method := { name := "arraycopy", desc := "(Ljava/lang/Object;ILjava/lang/Object;II)V", sig := { parameters := [(.object "java/lang/Object"), .int, (.object "java/lang/Object"), .int, .int], returnType := none }, accessFlags := 265, code := none }
/-- java/lang/System -/
def k5 : Class := { plain "java/lang/System" (some 0) with
  accessFlags := 49
  interfaces := #[]
  cf := some (fileOf pool5 8 #[.nestMembers #[319, 327, 801, 108, 663, 208]] #[{ accessFlags := 2, nameIndex := 5, descriptorIndex := 6, attributes := #[] }, { accessFlags := 265, nameIndex := 727, descriptorIndex := 728, attributes := #[] }] 49 2 #[] #[{ accessFlags := 25, nameIndex := 507, descriptorIndex := 526, attributes := #[] }, { accessFlags := 25, nameIndex := 399, descriptorIndex := 155, attributes := #[] }, { accessFlags := 25, nameIndex := 396, descriptorIndex := 155, attributes := #[] }, { accessFlags := 10, nameIndex := 525, descriptorIndex := 526, attributes := #[] }, { accessFlags := 26, nameIndex := 674, descriptorIndex := 12, attributes := #[] }, { accessFlags := 26, nameIndex := 677, descriptorIndex := 12, attributes := #[] }, { accessFlags := 10, nameIndex := 11, descriptorIndex := 12, attributes := #[] }, { accessFlags := 74, nameIndex := 175, descriptorIndex := 176, attributes := #[] }, { accessFlags := 10, nameIndex := 491, descriptorIndex := 222, attributes := #[] }, { accessFlags := 74, nameIndex := 29, descriptorIndex := 30, attributes := #[] }, { accessFlags := 74, nameIndex := 154, descriptorIndex := 155, attributes := #[] }, { accessFlags := 10, nameIndex := 217, descriptorIndex := 218, attributes := #[] }, { accessFlags := 10, nameIndex := 221, descriptorIndex := 222, attributes := #[] }, { accessFlags := 8, nameIndex := 562, descriptorIndex := 563, attributes := #[] }])
  fields := #[{ name := "in", type := (.object "java/io/InputStream"), accessFlags := 25, slot := 0, constantValue := 0 }, { name := "out", type := (.object "java/io/PrintStream"), accessFlags := 25, slot := 1, constantValue := 0 }, { name := "err", type := (.object "java/io/PrintStream"), accessFlags := 25, slot := 2, constantValue := 0 }, { name := "initialIn", type := (.object "java/io/InputStream"), accessFlags := 10, slot := 3, constantValue := 0 }, { name := "NEVER", type := .int, accessFlags := 26, slot := 4, constantValue := 0 }, { name := "MAYBE", type := .int, accessFlags := 26, slot := 5, constantValue := 0 }, { name := "allowSecurityManager", type := .int, accessFlags := 10, slot := 6, constantValue := 0 }, { name := "security", type := (.object "java/lang/SecurityManager"), accessFlags := 74, slot := 7, constantValue := 0 }, { name := "notSupportedJnuEncoding", type := (.object "java/lang/String"), accessFlags := 10, slot := 8, constantValue := 0 }, { name := "cons", type := (.object "java/io/Console"), accessFlags := 74, slot := 9, constantValue := 0 }, { name := "initialErrStream", type := (.object "java/io/PrintStream"), accessFlags := 74, slot := 10, constantValue := 0 }, { name := "props", type := (.object "java/util/Properties"), accessFlags := 10, slot := 11, constantValue := 0 }, { name := "lineSeparator", type := (.object "java/lang/String"), accessFlags := 10, slot := 12, constantValue := 0 }, { name := "bootLayer", type := (.object "java/lang/ModuleLayer"), accessFlags := 8, slot := 13, constantValue := 0 }]
  methods := #[k5m0, k5m1]
  instanceTypes := #[]
  staticTypes := #[(.object "java/io/InputStream"), (.object "java/io/PrintStream"), (.object "java/io/PrintStream"), (.object "java/io/InputStream"), .int, .int, .int, (.object "java/lang/SecurityManager"), (.object "java/lang/String"), (.object "java/io/Console"), (.object "java/io/PrintStream"), (.object "java/util/Properties"), (.object "java/lang/String"), (.object "java/lang/ModuleLayer")]
  resolved := Array.replicate 834 none
  statics := none }

def pool6 : Array CpInfo := pool [(1, .class_ 2), (0, u "java/io/Serializable"), (0, .class_ 4), (0, u "java/lang/Object")] 2

/-- java/io/Serializable -/
def k6 : Class := { plain "java/io/Serializable" (some 0) with
  accessFlags := 1537
  interfaces := #[]
  cf := some (fileOf pool6 1 #[] #[] 1537 3 #[] #[])
  fields := #[]
  methods := #[]
  instanceTypes := #[]
  staticTypes := #[]
  resolved := Array.replicate 7 none
  statics := none }

def pool7 : Array CpInfo := pool [(2, .class_ 4), (1, u "java/lang/Object"), (0, u "<init>"), (0, u "()V"), (1, .class_ 10), (1, u "java/lang/Number"), (2, .class_ 14), (0, u "java/io/Serializable"), (0, u "serialVersionUID"), (0, u "J")] 20

def k7m0 : Method := { name := "<init>", desc := "()V", sig := { parameters := [], returnType := none }, accessFlags := 1, code := none }
/-- java/lang/Number -/
def k7 : Class := { plain "java/lang/Number" (some 0) with
  accessFlags := 1057
  interfaces := #[6]
  cf := some (fileOf pool7 8 #[] #[{ accessFlags := 1, nameIndex := 5, descriptorIndex := 6, attributes := #[] }] 1057 2 #[13] #[{ accessFlags := 26, nameIndex := 15, descriptorIndex := 16, attributes := #[] }])
  fields := #[{ name := "serialVersionUID", type := .long, accessFlags := 26, slot := 0, constantValue := 0 }]
  methods := #[k7m0]
  instanceTypes := #[]
  staticTypes := #[.long]
  resolved := Array.replicate 37 none
  statics := none }

def pool8 : Array CpInfo := pool [(1, .class_ 2), (0, u "java/lang/Comparable"), (0, .class_ 4), (0, u "java/lang/Object")] 7

/-- java/lang/Comparable -/
def k8 : Class := { plain "java/lang/Comparable" (some 0) with
  accessFlags := 1537
  interfaces := #[]
  cf := some (fileOf pool8 1 #[] #[] 1537 3 #[] #[])
  fields := #[]
  methods := #[]
  instanceTypes := #[]
  staticTypes := #[]
  resolved := Array.replicate 12 none
  statics := none }

def pool9 : Array CpInfo := pool [(1, .class_ 2), (0, u "java/lang/constant/Constable"), (0, .class_ 4), (0, u "java/lang/Object")] 6

/-- java/lang/constant/Constable -/
def k9 : Class := { plain "java/lang/constant/Constable" (some 0) with
  accessFlags := 1537
  interfaces := #[]
  cf := some (fileOf pool9 1 #[] #[] 1537 3 #[] #[])
  fields := #[]
  methods := #[]
  instanceTypes := #[]
  staticTypes := #[]
  resolved := Array.replicate 11 none
  statics := none }

def pool10 : Array CpInfo := pool [(1, .class_ 2), (0, u "java/lang/constant/ConstantDesc"), (0, .class_ 4), (0, u "java/lang/Object")] 32

/-- java/lang/constant/ConstantDesc -/
def k10 : Class := { plain "java/lang/constant/ConstantDesc" (some 0) with
  accessFlags := 1537
  interfaces := #[]
  cf := some (fileOf pool10 1 #[] #[] 1537 3 #[] #[])
  fields := #[]
  methods := #[]
  instanceTypes := #[]
  staticTypes := #[]
  resolved := Array.replicate 37 none
  statics := none }

def pool11 : Array CpInfo := pool [(1, .class_ 2), (0, u "java/lang/Double"), (11, u "(D)Z"), (34, u "(D)J"), (64, .class_ 116), (1, u "java/lang/Number"), (3, u "value"), (0, u "D"), (2, u "isNaN"), (11, u "doubleToRawLongBits"), (36, u "TYPE"), (0, u "Ljava/lang/Class;"), (0, .class_ 176), (0, u "java/lang/Comparable"), (0, .class_ 178), (0, u "java/lang/constant/Constable"), (0, .class_ 180), (0, u "java/lang/constant/ConstantDesc"), (0, u "POSITIVE_INFINITY"), (3, u "NEGATIVE_INFINITY"), (2, u "NaN"), (2, u "MAX_VALUE"), (0, u "MIN_NORMAL"), (0, u "MIN_VALUE"), (2, u "SIZE"), (0, u "I"), (1, u "PRECISION"), (1, u "MAX_EXPONENT"), (1, u "MIN_EXPONENT"), (1, u "BYTES"), (3, u "serialVersionUID"), (0, u "J"), (48, u "longBitsToDouble"), (0, u "(J)D")] 29

def k11c0 : Code := { maxStack := 4, maxLocals := 2, code := jdk_117_method_6_code, exceptionTable := #[], attributes := #[] }
def k11m0 : Method := { name := "isNaN", desc := "(D)Z", sig := { parameters := [.double], returnType := some .boolean }, accessFlags := 9, code := some k11c0 }
def k11m1 : Method := { name := "doubleToRawLongBits", desc := "(D)J", sig := { parameters := [.double], returnType := some .long }, accessFlags := 265, code := none }
def k11m2 : Method := { name := "longBitsToDouble", desc := "(J)D", sig := { parameters := [.long], returnType := some .double }, accessFlags := 265, code := none }
/-- java/lang/Double -/
def k11 : Class := { plain "java/lang/Double" (some 7) with
  accessFlags := 49
  interfaces := #[8, 9, 10]
  cf := some (fileOf pool11 1 #[] #[{ accessFlags := 9, nameIndex := 124, descriptorIndex := 14, attributes := #[] }, { accessFlags := 265, nameIndex := 136, descriptorIndex := 49, attributes := #[] }, { accessFlags := 265, nameIndex := 259, descriptorIndex := 260, attributes := #[] }] 49 114 #[175, 177, 179] #[{ accessFlags := 25, nameIndex := 181, descriptorIndex := 121, attributes := #[] }, { accessFlags := 25, nameIndex := 185, descriptorIndex := 121, attributes := #[] }, { accessFlags := 25, nameIndex := 188, descriptorIndex := 121, attributes := #[] }, { accessFlags := 25, nameIndex := 191, descriptorIndex := 121, attributes := #[] }, { accessFlags := 25, nameIndex := 192, descriptorIndex := 121, attributes := #[] }, { accessFlags := 25, nameIndex := 193, descriptorIndex := 121, attributes := #[] }, { accessFlags := 25, nameIndex := 196, descriptorIndex := 197, attributes := #[] }, { accessFlags := 25, nameIndex := 199, descriptorIndex := 197, attributes := #[] }, { accessFlags := 25, nameIndex := 201, descriptorIndex := 197, attributes := #[] }, { accessFlags := 25, nameIndex := 203, descriptorIndex := 197, attributes := #[] }, { accessFlags := 25, nameIndex := 205, descriptorIndex := 197, attributes := #[] }, { accessFlags := 25, nameIndex := 173, descriptorIndex := 174, attributes := #[] }, { accessFlags := 18, nameIndex := 120, descriptorIndex := 121, attributes := #[] }, { accessFlags := 26, nameIndex := 209, descriptorIndex := 210, attributes := #[] }])
  fields := #[{ name := "POSITIVE_INFINITY", type := .double, accessFlags := 25, slot := 0, constantValue := 0 }, { name := "NEGATIVE_INFINITY", type := .double, accessFlags := 25, slot := 1, constantValue := 0 }, { name := "NaN", type := .double, accessFlags := 25, slot := 2, constantValue := 0 }, { name := "MAX_VALUE", type := .double, accessFlags := 25, slot := 3, constantValue := 0 }, { name := "MIN_NORMAL", type := .double, accessFlags := 25, slot := 4, constantValue := 0 }, { name := "MIN_VALUE", type := .double, accessFlags := 25, slot := 5, constantValue := 0 }, { name := "SIZE", type := .int, accessFlags := 25, slot := 6, constantValue := 0 }, { name := "PRECISION", type := .int, accessFlags := 25, slot := 7, constantValue := 0 }, { name := "MAX_EXPONENT", type := .int, accessFlags := 25, slot := 8, constantValue := 0 }, { name := "MIN_EXPONENT", type := .int, accessFlags := 25, slot := 9, constantValue := 0 }, { name := "BYTES", type := .int, accessFlags := 25, slot := 10, constantValue := 0 }, { name := "TYPE", type := (.object "java/lang/Class"), accessFlags := 25, slot := 11, constantValue := 0 }, { name := "value", type := .double, accessFlags := 18, slot := 0, constantValue := 0 }, { name := "serialVersionUID", type := .long, accessFlags := 26, slot := 12, constantValue := 0 }]
  methods := #[k11m0, k11m1, k11m2]
  instanceTypes := #[.double]
  staticTypes := #[.double, .double, .double, .double, .double, .double, .int, .int, .int, .int, .int, (.object "java/lang/Class"), .long]
  resolved := Array.replicate 290 none
  statics := none }

def pool12 : Array CpInfo := pool [(1, u "java/lang/Class"), (0, .class_ 1), (0, u "java/lang/Object"), (0, .class_ 3)] 3

/-- java/lang/Class -/
def k12 : Class := { plain "java/lang/Class" (some 0) with
  accessFlags := 49
  interfaces := #[]
  cf := some (fileOf pool12 2 #[] #[] 49 4 #[] #[])
  fields := #[]
  methods := #[]
  instanceTypes := #[]
  staticTypes := #[]
  resolved := Array.replicate 8 none
  statics := none }

def pool13 : Array CpInfo := pool [(1, u "java/lang/Cloneable"), (0, .class_ 1), (0, u "java/lang/Object"), (0, .class_ 3)] 3

/-- java/lang/Cloneable -/
def k13 : Class := { plain "java/lang/Cloneable" (some 0) with
  accessFlags := 1537
  interfaces := #[]
  cf := some (fileOf pool13 2 #[] #[] 1537 4 #[] #[])
  fields := #[]
  methods := #[]
  instanceTypes := #[]
  staticTypes := #[]
  resolved := Array.replicate 8 none
  statics := none }

/-- the primitive byte -/
def k14 : Class := { plain "byte" none with kind := .primitive 'B', accessFlags := 0x411 }
/-- [B -/
def k15 : Class := { plain "[B" (some 0) with kind := .array 14 .byte, interfaces := #[13, 6], accessFlags := 1041 }

/-- the primitive double -/
def k16 : Class := { plain "double" none with kind := .primitive 'D', accessFlags := 0x411 }
/-- [D -/
def k17 : Class := { plain "[D" (some 0) with kind := .array 16 .double, interfaces := #[13, 6], accessFlags := 1041 }

/-- the primitive int -/
def k18 : Class := { plain "int" none with kind := .primitive 'I', accessFlags := 0x411 }
/-- [I -/
def k19 : Class := { plain "[I" (some 0) with kind := .array 18 .int, interfaces := #[13, 6], accessFlags := 1041 }

/-- the primitive long -/
def k20 : Class := { plain "long" none with kind := .primitive 'J', accessFlags := 0x411 }
/-- [J -/
def k21 : Class := { plain "[J" (some 0) with kind := .array 20 .long, interfaces := #[13, 6], accessFlags := 1041 }

/-- [Ljava/lang/Object; -/
def k22 : Class := { plain "[Ljava/lang/Object;" (some 0) with kind := .array 0 (.object "java/lang/Object"), interfaces := #[13, 6], accessFlags := 1041, mirror := some 0 }

def heap : Heap := #[{ cls := 12, slots := #[], vm := .mirror 22 }]
def classes : Array Class := #[k0, k1, k2, k3, k4, k5, k6, k7, k8, k9, k10, k11, k12, k13, k14, k15, k16, k17, k18, k19, k20, k21, k22]
def interned : List (Array UInt16 × Addr) := []
def slotsUsed : Nat := 0
def theMethod : MethodId := ⟨1, 1⟩
def args0 : Array Value := #[.int 5, .int 3, .int 7, .int 1]
def aboutOver (below : List Frame) : State where
  vm := { classes := classes, interned := interned.toArray }
  heap := heap
  slotsUsed := slotsUsed
  threads := #[{ frames := .invoking theMethod args0 :: below }]
def below0 : List Frame := [.native { method := ⟨0, 0⟩, args := #[] }]
def about1 : State := aboutOver below0
def p0 : Program := .bare "" "" ""
def e0 : Env := launch0.env 0 0 0
theorem w_frames : about1.frames = Frame.invoking theMethod args0 :: below0 := rfl
set_option maxRecDepth 65536 in
theorem w_args : argsFit about1.vm theMethod args0 = true := by decide +kernel
set_option maxRecDepth 65536 in
theorem w_heap : heapFits about1 = true := by decide +kernel
set_option maxRecDepth 65536 in
theorem w_runnable : about1.curStatus? = some .runnable := by decide +kernel
set_option maxRecDepth 65536 in
theorem w_alone : about1.alone = true := by decide +kernel
set_option maxRecDepth 65536 in
theorem w_named : about1.methodNamed? x = some theMethod := by decide +kernel
set_option maxRecDepth 65536 in
theorem w_hears : about1.hears theMethod below0 = true := by decide +kernel
set_option maxRecDepth 65536 in
theorem w_ripe : about1.ripe theMethod args0 below0 = true := by decide +kernel
theorem w_running : about1.status = .running := rfl
set_option maxRecDepth 65536 in
theorem w_room : about1.hasRoom e0.platform room_1 = true :=
  launch0.hasRoom_least _ room_1 (by decide +kernel) (by decide +kernel) (by decide +kernel) (by decide +kernel) (by decide +kernel) (by decide +kernel)
theorem allAtoms_all (ts : List Jvm.Cond) (a : Array Jvm.Value) (st : Jvm.State) : (allAtoms ts).before a st = ts.all (fun c => c.before a st) := by
  induction ts with
  | nil => rfl
  | cons c t ih =>
    show (Jvm.Cond.and c (allAtoms t)).before a st = _
    rw [Jvm.Cond.before_and, ih, List.all_cons]
def words1 : List Jvm.Cond := Jvm.Cond.code x code maxLocals ret :: tables_1
/-- a 'code' word, met by the world's own term for the bytes: nothing is compared byte by byte -/
theorem code_word {y : MethodName} {bytes : ByteArray} {mx : Nat} {rt : Option FieldType} {a : Array Value} {s : State} {m : MethodId} {meth : Method} {c : Code} (h1 : s.methodNamed? y = some m) (h2 : s.vm.method? m = some meth) (h3 : meth.code = some c) (h4 : c.code = bytes)
    (h5 : (c.maxLocals == mx && c.exceptionTable.isEmpty && decide (c.maxStack ≤ mostOperands) && decide (meth.sig.returnType = rt) && !meth.locks && decide (parseMethodDescriptor y.desc = some meth.sig)) = true) : (Jvm.Cond.code y bytes mx rt).before a s = true := by
  simp only [Bool.and_eq_true, beq_iff_eq, Bool.not_eq_true', decide_eq_true_eq] at h5
  obtain ⟨⟨⟨⟨⟨g1, g2⟩, g3⟩, g4⟩, g5⟩, g6⟩ := h5
  simp [Cond.before, Cond.holds, Cond.value, h1, h2, h3, h4, g1, g2, g3, g4, g5, g6]
def isCode : Jvm.Cond → Bool
  | .code _ _ _ _ => true
  | _ => false
theorem all_split {L : List Jvm.Cond} {P : Jvm.Cond → Bool} (h1 : L.all (fun c => isCode c || P c) = true) (h2 : ∀ c ∈ L.filter isCode, P c = true) : L.all P = true := by
  refine List.all_eq_true.mpr fun c hc => ?_
  have h := List.all_eq_true.mp h1 c hc
  rcases Bool.eq_false_or_eq_true (isCode c) with hi | hi
  · exact h2 c (List.mem_filter.mpr ⟨hc, hi⟩)
  · simpa [hi] using h
set_option maxRecDepth 65536 in
theorem w_c0 : (Jvm.Cond.code x code maxLocals ret).before args0 about1 = true := code_word (m := ⟨1, 1⟩) (meth := k1m1) (c := k1c1) (by decide +kernel) rfl rfl rfl (by decide +kernel)
set_option maxRecDepth 65536 in
theorem w_c1 : (Jvm.Cond.code ({ cls := "com/example/priorsum/priorsum/RankedRows", name := "<init>", desc := "(I)V" } : Jvm.MethodName) prog_15_method_1_code (2 : Nat) (Option.none : Option Jvm.ClassFile.FieldType)).before args0 about1 = true := code_word (m := ⟨2, 0⟩) (meth := k2m0) (c := k2c0) (by decide +kernel) rfl rfl rfl (by decide +kernel)
set_option maxRecDepth 65536 in
theorem w_c2 : (Jvm.Cond.code ({ cls := "java/lang/Object", name := "<init>", desc := "()V" } : Jvm.MethodName) object_method_1_code (1 : Nat) (Option.none : Option Jvm.ClassFile.FieldType)).before args0 about1 = true := code_word (m := ⟨0, 0⟩) (meth := k0m0) (c := k0c0) (by decide +kernel) rfl rfl rfl (by decide +kernel)
set_option maxRecDepth 65536 in
theorem w_c3 : (Jvm.Cond.code ({ cls := "com/example/priorsum/priorsum/RankedRows", name := "add", desc := "(JLjava/lang/Object;DD)V" } : Jvm.MethodName) prog_15_method_3_code (11 : Nat) (Option.none : Option Jvm.ClassFile.FieldType)).before args0 about1 = true := code_word (m := ⟨2, 2⟩) (meth := k2m2) (c := k2c2) (by decide +kernel) rfl rfl rfl (by decide +kernel)
set_option maxRecDepth 65536 in
theorem w_c4 : (Jvm.Cond.code ({ cls := "com/example/priorsum/priorsum/RankedRows", name := "makeRoom", desc := "()V" } : Jvm.MethodName) prog_15_method_16_code (3 : Nat) (Option.none : Option Jvm.ClassFile.FieldType)).before args0 about1 = true := code_word (m := ⟨2, 9⟩) (meth := k2m9) (c := k2c9) (by decide +kernel) rfl rfl rfl (by decide +kernel)
set_option maxRecDepth 65536 in
theorem w_c5 : (Jvm.Cond.code ({ cls := "com/example/priorsum/priorsum/RankedRows", name := "grow", desc := "()V" } : Jvm.MethodName) prog_15_method_23_code (2 : Nat) (Option.none : Option Jvm.ClassFile.FieldType)).before args0 about1 = true := code_word (m := ⟨2, 10⟩) (meth := k2m10) (c := k2c10) (by decide +kernel) rfl rfl rfl (by decide +kernel)
set_option maxRecDepth 65536 in
theorem w_c6 : (Jvm.Cond.code ({ cls := "java/lang/Math", name := "max", desc := "(JJ)J" } : Jvm.MethodName) jdk_29_method_66_code (4 : Nat) (Option.some Jvm.ClassFile.FieldType.long)).before args0 about1 = true := code_word (m := ⟨3, 1⟩) (meth := k3m1) (c := k3c1) (by decide +kernel) rfl rfl rfl (by decide +kernel)
set_option maxRecDepth 65536 in
theorem w_c7 : (Jvm.Cond.code ({ cls := "java/lang/Math", name := "min", desc := "(JJ)J" } : Jvm.MethodName) jdk_29_method_70_code (4 : Nat) (Option.some Jvm.ClassFile.FieldType.long)).before args0 about1 = true := code_word (m := ⟨3, 4⟩) (meth := k3m4) (c := k3c4) (by decide +kernel) rfl rfl rfl (by decide +kernel)
set_option maxRecDepth 65536 in
theorem w_c8 : (Jvm.Cond.code ({ cls := "java/util/Arrays", name := "copyOf", desc := "([DI)[D" } : Jvm.MethodName) jdk_65_method_127_code (3 : Nat) (Option.some (Jvm.ClassFile.FieldType.array Jvm.ClassFile.FieldType.double))).before args0 about1 = true := code_word (m := ⟨4, 5⟩) (meth := k4m5) (c := k4c5) (by decide +kernel) rfl rfl rfl (by decide +kernel)
set_option maxRecDepth 65536 in
theorem w_c9 : (Jvm.Cond.code ({ cls := "java/lang/Math", name := "min", desc := "(II)I" } : Jvm.MethodName) jdk_29_method_69_code (2 : Nat) (Option.some Jvm.ClassFile.FieldType.int)).before args0 about1 = true := code_word (m := ⟨3, 3⟩) (meth := k3m3) (c := k3c3) (by decide +kernel) rfl rfl rfl (by decide +kernel)
set_option maxRecDepth 65536 in
theorem w_c10 : (Jvm.Cond.code ({ cls := "java/util/Arrays", name := "copyOf", desc := "([JI)[J" } : Jvm.MethodName) jdk_65_method_124_code (3 : Nat) (Option.some (Jvm.ClassFile.FieldType.array Jvm.ClassFile.FieldType.long))).before args0 about1 = true := code_word (m := ⟨4, 4⟩) (meth := k4m4) (c := k4c4) (by decide +kernel) rfl rfl rfl (by decide +kernel)
set_option maxRecDepth 65536 in
theorem w_c11 : (Jvm.Cond.code ({ cls := "java/util/Arrays", name := "copyOf", desc := "([Ljava/lang/Object;I)[Ljava/lang/Object;" } : Jvm.MethodName) jdk_65_method_119_code (2 : Nat) (Option.some (Jvm.ClassFile.FieldType.array (Jvm.ClassFile.FieldType.object "java/lang/Object")))).before args0 about1 = true := code_word (m := ⟨4, 2⟩) (meth := k4m2) (c := k4c2) (by decide +kernel) rfl rfl rfl (by decide +kernel)
set_option maxRecDepth 65536 in
theorem w_c12 : (Jvm.Cond.code ({ cls := "java/util/Arrays", name := "copyOf", desc := "([Ljava/lang/Object;ILjava/lang/Class;)[Ljava/lang/Object;" } : Jvm.MethodName) jdk_65_method_120_code (4 : Nat) (Option.some (Jvm.ClassFile.FieldType.array (Jvm.ClassFile.FieldType.object "java/lang/Object")))).before args0 about1 = true := code_word (m := ⟨4, 3⟩) (meth := k4m3) (c := k4c3) (by decide +kernel) rfl rfl rfl (by decide +kernel)
set_option maxRecDepth 65536 in
theorem w_c13 : (Jvm.Cond.code ({ cls := "com/example/priorsum/priorsum/RankedRows", name := "startCounting", desc := "()V" } : Jvm.MethodName) prog_15_method_10_code (4 : Nat) (Option.none : Option Jvm.ClassFile.FieldType)).before args0 about1 = true := code_word (m := ⟨2, 3⟩) (meth := k2m3) (c := k2c3) (by decide +kernel) rfl rfl rfl (by decide +kernel)
set_option maxRecDepth 65536 in
theorem w_c14 : (Jvm.Cond.code ({ cls := "java/lang/Math", name := "min", desc := "(DD)D" } : Jvm.MethodName) jdk_29_method_72_code (4 : Nat) (Option.some Jvm.ClassFile.FieldType.double)).before args0 about1 = true := code_word (m := ⟨3, 5⟩) (meth := k3m5) (c := k3c5) (by decide +kernel) rfl rfl rfl (by decide +kernel)
set_option maxRecDepth 65536 in
theorem w_c15 : (Jvm.Cond.code ({ cls := "com/example/priorsum/priorsum/RankedRows", name := "key", desc := "(D)J" } : Jvm.MethodName) prog_15_method_14_code (2 : Nat) (Option.some Jvm.ClassFile.FieldType.long)).before args0 about1 = true := code_word (m := ⟨2, 7⟩) (meth := k2m7) (c := k2c7) (by decide +kernel) rfl rfl rfl (by decide +kernel)
set_option maxRecDepth 65536 in
theorem w_c16 : (Jvm.Cond.code ({ cls := "com/example/priorsum/priorsum/RankedRows", name := "countFrom", desc := "(J)V" } : Jvm.MethodName) prog_15_method_11_code (6 : Nat) (Option.none : Option Jvm.ClassFile.FieldType)).before args0 about1 = true := code_word (m := ⟨2, 4⟩) (meth := k2m4) (c := k2c4) (by decide +kernel) rfl rfl rfl (by decide +kernel)
set_option maxRecDepth 65536 in
theorem w_c17 : (Jvm.Cond.code ({ cls := "java/util/Arrays", name := "fill", desc := "([II)V" } : Jvm.MethodName) jdk_65_method_103_code (4 : Nat) (Option.none : Option Jvm.ClassFile.FieldType)).before args0 about1 = true := code_word (m := ⟨4, 1⟩) (meth := k4m1) (c := k4c1) (by decide +kernel) rfl rfl rfl (by decide +kernel)
set_option maxRecDepth 65536 in
theorem w_c18 : (Jvm.Cond.code ({ cls := "com/example/priorsum/priorsum/RankedRows", name := "bucket", desc := "(D)I" } : Jvm.MethodName) prog_15_method_13_code (3 : Nat) (Option.some Jvm.ClassFile.FieldType.int)).before args0 about1 = true := code_word (m := ⟨2, 6⟩) (meth := k2m6) (c := k2c6) (by decide +kernel) rfl rfl rfl (by decide +kernel)
set_option maxRecDepth 65536 in
theorem w_c19 : (Jvm.Cond.code ({ cls := "com/example/priorsum/priorsum/RankedRows", name := "raiseFloor", desc := "()V" } : Jvm.MethodName) prog_15_method_12_code (1 : Nat) (Option.none : Option Jvm.ClassFile.FieldType)).before args0 about1 = true := code_word (m := ⟨2, 5⟩) (meth := k2m5) (c := k2c5) (by decide +kernel) rfl rfl rfl (by decide +kernel)
set_option maxRecDepth 65536 in
theorem w_c20 : (Jvm.Cond.code ({ cls := "com/example/priorsum/priorsum/RankedRows", name := "edge", desc := "(J)D" } : Jvm.MethodName) prog_15_method_15_code (2 : Nat) (Option.some Jvm.ClassFile.FieldType.double)).before args0 about1 = true := code_word (m := ⟨2, 8⟩) (meth := k2m8) (c := k2c8) (by decide +kernel) rfl rfl rfl (by decide +kernel)
set_option maxRecDepth 65536 in
theorem w_c21 : (Jvm.Cond.code ({ cls := "java/lang/Math", name := "nextDown", desc := "(D)D" } : Jvm.MethodName) jdk_29_method_97_code (2 : Nat) (Option.some Jvm.ClassFile.FieldType.double)).before args0 about1 = true := code_word (m := ⟨3, 6⟩) (meth := k3m6) (c := k3c6) (by decide +kernel) rfl rfl rfl (by decide +kernel)
set_option maxRecDepth 65536 in
theorem w_c22 : (Jvm.Cond.code ({ cls := "java/lang/Double", name := "isNaN", desc := "(D)Z" } : Jvm.MethodName) jdk_117_method_6_code (2 : Nat) (Option.some Jvm.ClassFile.FieldType.boolean)).before args0 about1 = true := code_word (m := ⟨11, 0⟩) (meth := k11m0) (c := k11c0) (by decide +kernel) rfl rfl rfl (by decide +kernel)
set_option maxRecDepth 65536 in
theorem w_c23 : (Jvm.Cond.code ({ cls := "java/lang/Math", name := "max", desc := "(DD)D" } : Jvm.MethodName) jdk_29_method_68_code (4 : Nat) (Option.some Jvm.ClassFile.FieldType.double)).before args0 about1 = true := code_word (m := ⟨3, 2⟩) (meth := k3m2) (c := k3c2) (by decide +kernel) rfl rfl rfl (by decide +kernel)
set_option maxRecDepth 65536 in
theorem w_c24 : (Jvm.Cond.code ({ cls := "com/example/priorsum/priorsum/RankedRows", name := "refuses", desc := "(DD)Z" } : Jvm.MethodName) prog_15_method_2_code (5 : Nat) (Option.some Jvm.ClassFile.FieldType.boolean)).before args0 about1 = true := code_word (m := ⟨2, 1⟩) (meth := k2m1) (c := k2c1) (by decide +kernel) rfl rfl rfl (by decide +kernel)
def codes1 : List Jvm.Cond := [Jvm.Cond.code x code maxLocals ret, Jvm.Cond.code ({ cls := "com/example/priorsum/priorsum/RankedRows", name := "<init>", desc := "(I)V" } : Jvm.MethodName) prog_15_method_1_code (2 : Nat) (Option.none : Option Jvm.ClassFile.FieldType), Jvm.Cond.code ({ cls := "java/lang/Object", name := "<init>", desc := "()V" } : Jvm.MethodName) object_method_1_code (1 : Nat) (Option.none : Option Jvm.ClassFile.FieldType), Jvm.Cond.code ({ cls := "com/example/priorsum/priorsum/RankedRows", name := "add", desc := "(JLjava/lang/Object;DD)V" } : Jvm.MethodName) prog_15_method_3_code (11 : Nat) (Option.none : Option Jvm.ClassFile.FieldType), Jvm.Cond.code ({ cls := "com/example/priorsum/priorsum/RankedRows", name := "makeRoom", desc := "()V" } : Jvm.MethodName) prog_15_method_16_code (3 : Nat) (Option.none : Option Jvm.ClassFile.FieldType), Jvm.Cond.code ({ cls := "com/example/priorsum/priorsum/RankedRows", name := "grow", desc := "()V" } : Jvm.MethodName) prog_15_method_23_code (2 : Nat) (Option.none : Option Jvm.ClassFile.FieldType), Jvm.Cond.code ({ cls := "java/lang/Math", name := "max", desc := "(JJ)J" } : Jvm.MethodName) jdk_29_method_66_code (4 : Nat) (Option.some Jvm.ClassFile.FieldType.long), Jvm.Cond.code ({ cls := "java/lang/Math", name := "min", desc := "(JJ)J" } : Jvm.MethodName) jdk_29_method_70_code (4 : Nat) (Option.some Jvm.ClassFile.FieldType.long), Jvm.Cond.code ({ cls := "java/util/Arrays", name := "copyOf", desc := "([DI)[D" } : Jvm.MethodName) jdk_65_method_127_code (3 : Nat) (Option.some (Jvm.ClassFile.FieldType.array Jvm.ClassFile.FieldType.double)), Jvm.Cond.code ({ cls := "java/lang/Math", name := "min", desc := "(II)I" } : Jvm.MethodName) jdk_29_method_69_code (2 : Nat) (Option.some Jvm.ClassFile.FieldType.int), Jvm.Cond.code ({ cls := "java/util/Arrays", name := "copyOf", desc := "([JI)[J" } : Jvm.MethodName) jdk_65_method_124_code (3 : Nat) (Option.some (Jvm.ClassFile.FieldType.array Jvm.ClassFile.FieldType.long)), Jvm.Cond.code ({ cls := "java/util/Arrays", name := "copyOf", desc := "([Ljava/lang/Object;I)[Ljava/lang/Object;" } : Jvm.MethodName) jdk_65_method_119_code (2 : Nat) (Option.some (Jvm.ClassFile.FieldType.array (Jvm.ClassFile.FieldType.object "java/lang/Object"))), Jvm.Cond.code ({ cls := "java/util/Arrays", name := "copyOf", desc := "([Ljava/lang/Object;ILjava/lang/Class;)[Ljava/lang/Object;" } : Jvm.MethodName) jdk_65_method_120_code (4 : Nat) (Option.some (Jvm.ClassFile.FieldType.array (Jvm.ClassFile.FieldType.object "java/lang/Object"))), Jvm.Cond.code ({ cls := "com/example/priorsum/priorsum/RankedRows", name := "startCounting", desc := "()V" } : Jvm.MethodName) prog_15_method_10_code (4 : Nat) (Option.none : Option Jvm.ClassFile.FieldType), Jvm.Cond.code ({ cls := "java/lang/Math", name := "min", desc := "(DD)D" } : Jvm.MethodName) jdk_29_method_72_code (4 : Nat) (Option.some Jvm.ClassFile.FieldType.double), Jvm.Cond.code ({ cls := "com/example/priorsum/priorsum/RankedRows", name := "key", desc := "(D)J" } : Jvm.MethodName) prog_15_method_14_code (2 : Nat) (Option.some Jvm.ClassFile.FieldType.long), Jvm.Cond.code ({ cls := "com/example/priorsum/priorsum/RankedRows", name := "countFrom", desc := "(J)V" } : Jvm.MethodName) prog_15_method_11_code (6 : Nat) (Option.none : Option Jvm.ClassFile.FieldType), Jvm.Cond.code ({ cls := "java/util/Arrays", name := "fill", desc := "([II)V" } : Jvm.MethodName) jdk_65_method_103_code (4 : Nat) (Option.none : Option Jvm.ClassFile.FieldType), Jvm.Cond.code ({ cls := "com/example/priorsum/priorsum/RankedRows", name := "bucket", desc := "(D)I" } : Jvm.MethodName) prog_15_method_13_code (3 : Nat) (Option.some Jvm.ClassFile.FieldType.int), Jvm.Cond.code ({ cls := "com/example/priorsum/priorsum/RankedRows", name := "raiseFloor", desc := "()V" } : Jvm.MethodName) prog_15_method_12_code (1 : Nat) (Option.none : Option Jvm.ClassFile.FieldType), Jvm.Cond.code ({ cls := "com/example/priorsum/priorsum/RankedRows", name := "edge", desc := "(J)D" } : Jvm.MethodName) prog_15_method_15_code (2 : Nat) (Option.some Jvm.ClassFile.FieldType.double), Jvm.Cond.code ({ cls := "java/lang/Math", name := "nextDown", desc := "(D)D" } : Jvm.MethodName) jdk_29_method_97_code (2 : Nat) (Option.some Jvm.ClassFile.FieldType.double), Jvm.Cond.code ({ cls := "java/lang/Double", name := "isNaN", desc := "(D)Z" } : Jvm.MethodName) jdk_117_method_6_code (2 : Nat) (Option.some Jvm.ClassFile.FieldType.boolean), Jvm.Cond.code ({ cls := "java/lang/Math", name := "max", desc := "(DD)D" } : Jvm.MethodName) jdk_29_method_68_code (4 : Nat) (Option.some Jvm.ClassFile.FieldType.double), Jvm.Cond.code ({ cls := "com/example/priorsum/priorsum/RankedRows", name := "refuses", desc := "(DD)Z" } : Jvm.MethodName) prog_15_method_2_code (5 : Nat) (Option.some Jvm.ClassFile.FieldType.boolean)]
set_option maxRecDepth 65536 in
theorem codes_eq : words1.filter isCode = codes1 := rfl
theorem w_codes : ∀ c ∈ words1.filter isCode, c.before args0 about1 = true := by
  rw [codes_eq]
  intro c hc
  simp only [codes1, List.mem_cons, List.not_mem_nil, or_false] at hc
  rcases hc with rfl | rfl | rfl | rfl | rfl | rfl | rfl | rfl | rfl | rfl | rfl | rfl | rfl | rfl | rfl | rfl | rfl | rfl | rfl | rfl | rfl | rfl | rfl | rfl | rfl
  · exact w_c0
  · exact w_c1
  · exact w_c2
  · exact w_c3
  · exact w_c4
  · exact w_c5
  · exact w_c6
  · exact w_c7
  · exact w_c8
  · exact w_c9
  · exact w_c10
  · exact w_c11
  · exact w_c12
  · exact w_c13
  · exact w_c14
  · exact w_c15
  · exact w_c16
  · exact w_c17
  · exact w_c18
  · exact w_c19
  · exact w_c20
  · exact w_c21
  · exact w_c22
  · exact w_c23
  · exact w_c24
set_option maxRecDepth 65536 in
theorem w_t1 : (words1.take 24).all (fun c => isCode c || c.before args0 about1) = true := by decide +kernel
set_option maxRecDepth 65536 in
theorem w_t2 : ((words1.drop 24).take 24).all (fun c => isCode c || c.before args0 about1) = true := by decide +kernel
set_option maxRecDepth 65536 in
theorem w_t3 : (((words1.drop 24).drop 24).take 24).all (fun c => isCode c || c.before args0 about1) = true := by decide +kernel
set_option maxRecDepth 65536 in
theorem w_t4 : ((((words1.drop 24).drop 24).drop 24).take 24).all (fun c => isCode c || c.before args0 about1) = true := by decide +kernel
set_option maxRecDepth 65536 in
theorem w_t5 : (((((words1.drop 24).drop 24).drop 24).drop 24).take 24).all (fun c => isCode c || c.before args0 about1) = true := by decide +kernel
set_option maxRecDepth 65536 in
theorem w_t6 : ((((((words1.drop 24).drop 24).drop 24).drop 24).drop 24).take 24).all (fun c => isCode c || c.before args0 about1) = true := by decide +kernel
set_option maxRecDepth 65536 in
theorem w_t7 : ((((((words1.drop 24).drop 24).drop 24).drop 24).drop 24).drop 24).all (fun c => isCode c || c.before args0 about1) = true := by decide +kernel
theorem w_tables : (allAtoms (Jvm.Cond.code x code maxLocals ret :: tables_1)).before args0 about1 = true := by
  rw [allAtoms_all]
  show words1.all (fun c => c.before args0 about1) = true
  refine all_split ?_ w_codes
  rw [← List.take_append_drop 24 words1, List.all_append, w_t1, ← List.take_append_drop 24 (words1.drop 24), List.all_append, w_t2, ← List.take_append_drop 24 ((words1.drop 24).drop 24), List.all_append, w_t3, ← List.take_append_drop 24 (((words1.drop 24).drop 24).drop 24), List.all_append, w_t4, ← List.take_append_drop 24 ((((words1.drop 24).drop 24).drop 24).drop 24), List.all_append, w_t5, ← List.take_append_drop 24 (((((words1.drop 24).drop 24).drop 24).drop 24).drop 24), List.all_append, w_t6, w_t7]
  rfl
set_option maxRecDepth 65536 in
theorem w_case : (Jvm.Cond.and given_1 narrow_1).before args0 about1 = true := by decide +kernel
theorem w_applies : (headSpec (Jvm.Cond.code x code maxLocals ret :: tables_1) room_1).applies x e0.platform about1 = true :=
  (Spec.applies_iff w_frames).mpr ⟨w_running, w_runnable, w_alone, w_named, w_hears, w_ripe, w_room, w_tables⟩
theorem atStart : AtStart classFile x code maxLocals ret World_1 tables_1 room_1 Calls_1 rest_1 Pre_1 launch0 p0 e0 about1 theMethod args0 below0 :=
  ⟨lists_1, trivial, launch0.admits_env _ _ _, launch0.least_env, fairChoices_fair.cas, fairChoices_fair.clock, w_frames, w_args, w_heap, w_applies, ⟨⟨22, k22, 0, by decide +kernel, rfl, rfl, _, rfl, rfl⟩, trivial⟩, trivial, w_case⟩
end start1
theorem witness_1 : WitnessClaimed_1 := ⟨start1.p0, start1.e0, start1.about1, start1.theMethod, start1.args0, start1.below0, start1.atStart⟩
end Jvm.Pilot.@@N@@
