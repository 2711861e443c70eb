import JvmDerived
import JvmDerived.Pilot.@@N@@Statement
import JvmDerived.Pilot.@@N@@Code
set_option linter.unusedVariables false
set_option linter.unusedSimpArgs false
namespace Jvm.Pilot.@@N@@
open Jvm Jvm.ClassFile Sem Op Lib Jvm.Free Jvm.Stand Jvm.LawKit Jvm.RoadKit Bundle Jvm.Pilot.@@N@@.Jvm.D
section Kit
/-- from the frame g over T the run comes to a state of which P holds -/
def Run (p : Program) (e : Env) (below : List Frame) (P : State → Prop) (T : State) (g : JFrame) : Prop := ∃ t, Steps p.tables e below (T.setTop g) t ∧ P t
/-- where the walk stands: the library's Stand with what goes along with it; Z: the law's own start; h: the heap at hand -/
def St (Z : State) (own : String) (bs : ByteArray) (mL : Nat) (p : Program) (l : Launch) (e : Env) (R : Room) (s : State) (m : MethodId) (args : Array Value) (below : List Frame) (meth : Method) (c : Code) (T : State) (h : Heap) (cells slots : Nat) : Prop :=
  ∃ locs, Stand p l e R s m args below meth c T locs cells slots ∧ Fr Z.heap.size locs ∧ Ext Z.heap h ∧ T.heap = h ∧ p.tables.exec = Jvm.exec ∧ c.code = bs ∧ c.maxLocals = mL ∧ Z.Warmed39 s.vm ∧ s.vm.findClass own = some m.cls
/-- how a body ends -/
def Fini (Z : State) (s : State) (below : List Frame) (k n : Nat) (Q : Option Value → Heap → Prop) (t : State) : Prop :=
  ∃ o, t.status = .running ∧ Ended t below o ∧ ∃ v L, o = .returned v ∧ (Q v t.heap ∧ Fr Z.heap.size L ∧ Ext Z.heap t.heap) ∧ FrameEnd s o t L k n
/-- a body's contract -/
def Con (l : Launch) (y : MethodName) (bs : ByteArray) (mL : Nat) (ret : Option FieldType) (ws : List Jvm.Cond) (rm : Room) (Z : State) (as : Array Value) (h0 : Heap) (Q : Option Value → Heap → Prop) : Prop :=
  MetFree l y (head1 (Jvm.Cond.code y bs mL ret :: ws) rm) (fun a U => a = as ∧ Z.Warmed39 U.vm ∧ U.heap = h0) (fun _ _ _ _ _ => True) (fun _ U o U' => ∃ v L, o = .returned v ∧ (Q v U'.heap ∧ Fr Z.heap.size L ∧ Ext Z.heap U'.heap) ∧ FrameEnd U o U' L rm.cells rm.slots)
def pu (v : Option Value) (S : List Value) : List Value := match v with | none => S | some w => w :: S
/-- a comparison in plain words -/
def cp (cd : ClassFile.Cond) (x y : Int32) : Prop := match cd with | .eq => x = y | .ne => ¬ x = y | .lt => x < y | .ge => ¬ x < y | .gt => y < x | .le => ¬ y < x
def cpn (cd : ClassFile.Cond) (x y : Int32) : Prop := match cd with | .eq => ¬ x = y | .ne => x = y | .lt => ¬ x < y | .ge => x < y | .gt => ¬ y < x | .le => y < x
variable {Z : State} {a0 : Array Value} {own : String} {bs : ByteArray} {mL : Nat} {p : Program} {l : Launch} {e : Env} {R : Room} {s : State} {m : MethodId} {args : Array Value} {below : List Frame} {meth : Method} {c : Code} {T : State} {h : Heap} {cells slots : Nat} {P : State → Prop} {pc pc' : Nat} {Ls : Array Slot} {S : List Value} {y : MethodName} {ret : Option FieldType} {rm : Room} {ws : List Jvm.Cond} {as : Array Value} {h0 : Heap} {Q : Option Value → Heap → Prop} {kc kn : Nat}
theorem St.here (K : St Z own bs mL p l e R s m args below meth c T h cells slots) : At T m c below := by obtain ⟨_, X, -⟩ := K; exact X.here
theorem St.hx (K : St Z own bs mL p l e R s m args below meth c T h cells slots) : p.tables.exec = Jvm.exec := by obtain ⟨_, -, -, -, -, q, -⟩ := K; exact q
theorem St.bts (K : St Z own bs mL p l e R s m args below meth c T h cells slots) : c.code = bs := by obtain ⟨_, -, -, -, -, -, q, -⟩ := K; exact q
theorem St.ext (K : St Z own bs mL p l e R s m args below meth c T h cells slots) : Ext Z.heap h := by obtain ⟨_, -, -, q, -⟩ := K; exact q
theorem St.sz (K : St Z own bs mL p l e R s m args below meth c T h cells slots) : Z.heap.size ≤ h.size := K.ext.1
theorem St.more (K : St Z own bs mL p l e R s m args below meth c T h cells slots) {c' s' : Nat} (h1 : cells ≤ c') (h2 : slots ≤ s') : St Z own bs mL p l e R s m args below meth c T h c' s' := by obtain ⟨lo, X, r⟩ := K; exact ⟨lo, X.more h1 h2, r⟩
theorem con_intro (hpn : plainFor y = true) (hx0 : Ext Z.heap h0)
    (body : ∀ (p : Program) (e : Env) (s : State) (m : MethodId) (below : List Frame) (meth : Method) (c : Code) (T : State), St Z y.cls bs mL p l e rm s m as below meth c T h0 0 0 → meth.sig.returnType = ret → meth.locks = false → meth.name = y.name →
      Run p e below (Fini Z s below rm.cells rm.slots Q) T (entryFrame m as mL)) : Con l y bs mL ret ws rm Z as h0 Q := by
  refine MetFree.of_bodySF hpn hisR ?_
  intro p e s m args below meth c s₁ Bd hml0 hP hK
  obtain ⟨rfl, hZ, hh⟩ := hP
  have hnm := (name_of_methodNamed Bd.named Bd.method).1
  have X0 : Stand p l e rm s m args below meth c s₁ [] 0 0 := Stand.of_body Bd
  have e0 : s₁.heap = h0 := by rw [← hh, Bd.state]; rfl
  obtain ⟨t, st, o, h1, h2, h3⟩ := body p e s m below meth c s₁ ⟨[], X0, Fr.nil _, hx0, e0, Bd.exec, Bd.bytes, hml0, hZ, findClass_of_methodNamed Bd.named⟩ Bd.returns Bd.notSynchronized hnm
  exact ⟨t, o, st, h1, h2, h3⟩
theorem Con.mono {Q' : Option Value → Heap → Prop} (M : Con l y bs mL ret ws rm Z as h0 Q) (hq : ∀ v h, Q v h → Q' v h) : Con l y bs mL ret ws rm Z as h0 Q' := by
  intro p e ha hc hk s m args below hf hA hP hK
  obtain ⟨n, o, h1, h2, h3, v, L, h4, ⟨h5, h6⟩, h7⟩ := M p e ha hc hk s m args below hf hA hP hK
  exact ⟨n, o, h1, h2, h3, v, L, h4, ⟨hq _ _ h5, h6⟩, h7⟩
theorem r_ret (K : St Z own bs mL p l e R s m args below meth c T h cells slots) {t : FieldType} {w : Value} {i : Instr} (hret : meth.sig.returnType = some t) (hlk : meth.locks = false) (hn : narrow t w = w)
    (hi : (i = .ireturn ∧ (t = .int ∨ t = .boolean ∨ t = .byte ∨ t = .char ∨ t = .short) ∧ ∃ z, w = .int z) ∨ (i = .lreturn ∧ t = .long ∧ ∃ z, w = .long z) ∨ (i = .dreturn ∧ t = .double ∧ ∃ z, w = .double z) ∨ (i = .freturn ∧ t = .float ∧ ∃ z, w = .float z) ∨ (i = .areturn ∧ t.isReference = true ∧ w.isRef = true))
    (hd : decode bs pc = .ok (i, 1)) (hc : cells ≤ kc) (hs : slots ≤ kn) (hq : Q (some w) h) : Run p e below (Fini Z s below kc kn Q) T (mkF m pc Ls (w :: S)) := by
  obtain ⟨locs, X, N, E, eT, hx, hby, hml, hZ, hown⟩ := K
  obtain ⟨fs, hr, hrun, hended, hW, hsame⟩ := X.leave (v := some w) (fun q => by rw [hret] at q; cases q)
  exact ⟨_, retOut X hx hret hn hi (hb hby hd) hr, _, hrun, hended, _, _, rfl, ⟨eT.symm ▸ hq, N, eT.symm ▸ E⟩, ⟨_, rfl⟩, hW, hsame.mono hc hs⟩
theorem r_retI (K : St Z own bs mL p l e R s m args below meth c T h cells slots) {z : Int32} (hret : meth.sig.returnType = some .int) (hlk : meth.locks = false) (hd : decode bs pc = .ok (.ireturn, 1)) (hc : cells ≤ kc) (hs : slots ≤ kn) (hq : Q (some (.int z)) h) :
    Run p e below (Fini Z s below kc kn Q) T (mkF m pc Ls (.int z :: S)) := r_ret K hret hlk rfl (Or.inl ⟨rfl, Or.inl rfl, _, rfl⟩) hd hc hs hq
theorem r_retZ (K : St Z own bs mL p l e R s m args below meth c T h cells slots) {z : Int32} (hret : meth.sig.returnType = some .boolean) (hlk : meth.locks = false) (hn : narrow .boolean (.int z) = .int z) (hd : decode bs pc = .ok (.ireturn, 1)) (hc : cells ≤ kc) (hs : slots ≤ kn) (hq : Q (some (.int z)) h) :
    Run p e below (Fini Z s below kc kn Q) T (mkF m pc Ls (.int z :: S)) := r_ret K hret hlk hn (Or.inl ⟨rfl, Or.inr (Or.inl rfl), _, rfl⟩) hd hc hs hq
theorem r_retC (K : St Z own bs mL p l e R s m args below meth c T h cells slots) {z : Int32} (hret : meth.sig.returnType = some .char) (hlk : meth.locks = false) (hn : narrow .char (.int z) = .int z) (hd : decode bs pc = .ok (.ireturn, 1)) (hc : cells ≤ kc) (hs : slots ≤ kn) (hq : Q (some (.int z)) h) :
    Run p e below (Fini Z s below kc kn Q) T (mkF m pc Ls (.int z :: S)) := r_ret K hret hlk hn (Or.inl ⟨rfl, Or.inr (Or.inr (Or.inr (Or.inl rfl))), _, rfl⟩) hd hc hs hq
theorem r_retB (K : St Z own bs mL p l e R s m args below meth c T h cells slots) {z : Int32} (hret : meth.sig.returnType = some .byte) (hlk : meth.locks = false) (hn : narrow .byte (.int z) = .int z) (hd : decode bs pc = .ok (.ireturn, 1)) (hc : cells ≤ kc) (hs : slots ≤ kn) (hq : Q (some (.int z)) h) :
    Run p e below (Fini Z s below kc kn Q) T (mkF m pc Ls (.int z :: S)) := r_ret K hret hlk hn (Or.inl ⟨rfl, Or.inr (Or.inr (Or.inl rfl)), _, rfl⟩) hd hc hs hq
theorem r_retJ (K : St Z own bs mL p l e R s m args below meth c T h cells slots) {z : Int64} (hret : meth.sig.returnType = some .long) (hlk : meth.locks = false) (hd : decode bs pc = .ok (.lreturn, 1)) (hc : cells ≤ kc) (hs : slots ≤ kn) (hq : Q (some (.long z)) h) :
    Run p e below (Fini Z s below kc kn Q) T (mkF m pc Ls (.long z :: S)) := r_ret K hret hlk rfl (Or.inr (Or.inl ⟨rfl, rfl, _, rfl⟩)) hd hc hs hq
theorem r_retA (K : St Z own bs mL p l e R s m args below meth c T h cells slots) {t : FieldType} {w : Value} (hret : meth.sig.returnType = some t) (hlk : meth.locks = false) (ht : t.isReference = true) (hw : w.isRef = true) (hd : decode bs pc = .ok (.areturn, 1)) (hc : cells ≤ kc) (hs : slots ≤ kn) (hq : Q (some w) h) :
    Run p e below (Fini Z s below kc kn Q) T (mkF m pc Ls (w :: S)) := r_ret K hret hlk (by cases t <;> cases w <;> first | rfl | (simp [FieldType.isReference, Value.isRef] at ht hw)) (Or.inr (Or.inr (Or.inr (Or.inr ⟨rfl, ht, hw⟩)))) hd hc hs hq
theorem r_retV (K : St Z own bs mL p l e R s m args below meth c T h cells slots) (hret : meth.sig.returnType = none) (hlk : meth.locks = false) (hd : decode bs pc = .ok (.return_, 1)) (hc : cells ≤ kc) (hs : slots ≤ kn) (hq : Q none h) :
    Run p e below (Fini Z s below kc kn Q) T (mkF m pc Ls []) := by
  obtain ⟨locs, X, N, E, eT, hx, hby, hml, hZ, hown⟩ := K
  obtain ⟨fs, hr, hrun, hended, hW, hsame⟩ := X.leave (v := none) (fun _ => rfl)
  exact ⟨_, X.returnOut hx hret (hb hby hd) hr, _, hrun, hended, _, _, rfl, ⟨eT.symm ▸ hq, N, eT.symm ▸ E⟩, ⟨_, rfl⟩, hW, hsame.mono hc hs⟩
theorem r_iload (K : St Z own bs mL p l e R s m args below meth c T h cells slots) {k : Nat} {v : Int32} (hd : decode bs pc = .ok (.iload k, 2)) (hp : pc + 2 = pc') (hl : Ls[k]? = some (.val (.int v))) (r : Run p e below P T (mkF m pc' Ls (.int v :: S))) : Run p e below P T (mkF m pc Ls S) := by
  subst hp; obtain ⟨t, st, q⟩ := r; exact ⟨t, XS.iload K.here K.hx rfl (hb K.bts hd) hl st, q⟩
theorem r_iloadN (K : St Z own bs mL p l e R s m args below meth c T h cells slots) {k : Fin 4} {v : Int32} (hd : decode bs pc = .ok (.iload_n k, 1)) (hp : pc + 1 = pc') (hl : Ls[k.val]? = some (.val (.int v))) (r : Run p e below P T (mkF m pc' Ls (.int v :: S))) : Run p e below P T (mkF m pc Ls S) := by
  subst hp; obtain ⟨t, st, q⟩ := r; exact ⟨t, XS.iloadN K.here K.hx rfl (hb K.bts hd) hl st, q⟩
theorem r_lload (K : St Z own bs mL p l e R s m args below meth c T h cells slots) {k : Nat} {v : Int64} (hd : decode bs pc = .ok (.lload k, 2)) (hp : pc + 2 = pc') (hl : Ls[k]? = some (.val (.long v))) (r : Run p e below P T (mkF m pc' Ls (.long v :: S))) : Run p e below P T (mkF m pc Ls S) := by
  subst hp; obtain ⟨t, st, q⟩ := r; exact ⟨t, XS.lload K.here K.hx rfl (hb K.bts hd) hl st, q⟩
theorem r_lloadN (K : St Z own bs mL p l e R s m args below meth c T h cells slots) {k : Fin 4} {v : Int64} (hd : decode bs pc = .ok (.lload_n k, 1)) (hp : pc + 1 = pc') (hl : Ls[k.val]? = some (.val (.long v))) (r : Run p e below P T (mkF m pc' Ls (.long v :: S))) : Run p e below P T (mkF m pc Ls S) := by
  subst hp; obtain ⟨t, st, q⟩ := r; exact ⟨t, XS.lloadN K.here K.hx rfl (hb K.bts hd) hl st, q⟩
theorem r_aload (K : St Z own bs mL p l e R s m args below meth c T h cells slots) {k : Nat} {v : Value} (hd : decode bs pc = .ok (.aload k, 2)) (hp : pc + 2 = pc') (hl : Ls[k]? = some (.val v)) (hv : v.isRef = true) (r : Run p e below P T (mkF m pc' Ls (v :: S))) : Run p e below P T (mkF m pc Ls S) := by
  subst hp; obtain ⟨t, st, q⟩ := r; exact ⟨t, XS.aload K.here K.hx rfl (hb K.bts hd) hl hv st, q⟩
theorem r_aloadN (K : St Z own bs mL p l e R s m args below meth c T h cells slots) {k : Fin 4} {v : Value} (hd : decode bs pc = .ok (.aload_n k, 1)) (hp : pc + 1 = pc') (hl : Ls[k.val]? = some (.val v)) (hv : v.isRef = true) (r : Run p e below P T (mkF m pc' Ls (v :: S))) : Run p e below P T (mkF m pc Ls S) := by
  subst hp; obtain ⟨t, st, q⟩ := r; exact ⟨t, XS.aloadN K.here K.hx rfl (hb K.bts hd) hl hv st, q⟩
theorem r_istore (K : St Z own bs mL p l e R s m args below meth c T h cells slots) {k : Nat} {x : Int32} {Ls' : Array Slot} (hd : decode bs pc = .ok (.istore k, 2)) (hp : pc + 2 = pc') (hl : storeLocals Ls k (.int x) = some Ls') (r : Run p e below P T (mkF m pc' Ls' S)) : Run p e below P T (mkF m pc Ls (.int x :: S)) := by
  subst hp; obtain ⟨t, st, q⟩ := r; exact ⟨t, XS.istore K.here K.hx rfl (hb K.bts hd) rfl hl st, q⟩
theorem r_istoreN (K : St Z own bs mL p l e R s m args below meth c T h cells slots) {k : Fin 4} {x : Int32} {Ls' : Array Slot} (hd : decode bs pc = .ok (.istore_n k, 1)) (hp : pc + 1 = pc') (hl : storeLocals Ls k.val (.int x) = some Ls') (r : Run p e below P T (mkF m pc' Ls' S)) : Run p e below P T (mkF m pc Ls (.int x :: S)) := by
  subst hp; obtain ⟨t, st, q⟩ := r; exact ⟨t, XS.istoreN K.here K.hx rfl (hb K.bts hd) rfl hl st, q⟩
theorem r_lstore (K : St Z own bs mL p l e R s m args below meth c T h cells slots) {k : Nat} {x : Int64} {Ls' : Array Slot} (hd : decode bs pc = .ok (.lstore k, 2)) (hp : pc + 2 = pc') (hl : storeLocals Ls k (.long x) = some Ls') (r : Run p e below P T (mkF m pc' Ls' S)) : Run p e below P T (mkF m pc Ls (.long x :: S)) := by
  subst hp; obtain ⟨t, st, q⟩ := r; exact ⟨t, XS.lstore K.here K.hx rfl (hb K.bts hd) rfl hl st, q⟩
theorem r_lstoreN (K : St Z own bs mL p l e R s m args below meth c T h cells slots) {k : Fin 4} {x : Int64} {Ls' : Array Slot} (hd : decode bs pc = .ok (.lstore_n k, 1)) (hp : pc + 1 = pc') (hl : storeLocals Ls k.val (.long x) = some Ls') (r : Run p e below P T (mkF m pc' Ls' S)) : Run p e below P T (mkF m pc Ls (.long x :: S)) := by
  subst hp; obtain ⟨t, st, q⟩ := r; exact ⟨t, XS.lstoreN K.here K.hx rfl (hb K.bts hd) rfl hl st, q⟩
theorem r_astore (K : St Z own bs mL p l e R s m args below meth c T h cells slots) {k : Nat} {x : Value} {Ls' : Array Slot} (hd : decode bs pc = .ok (.astore k, 2)) (hp : pc + 2 = pc') (hv : x.isRef = true) (hl : storeLocals Ls k x = some Ls') (r : Run p e below P T (mkF m pc' Ls' S)) : Run p e below P T (mkF m pc Ls (x :: S)) := by
  subst hp; obtain ⟨t, st, q⟩ := r; exact ⟨t, XS.astore K.here K.hx rfl (hb K.bts hd) rfl hv hl st, q⟩
theorem r_astoreN (K : St Z own bs mL p l e R s m args below meth c T h cells slots) {k : Fin 4} {x : Value} {Ls' : Array Slot} (hd : decode bs pc = .ok (.astore_n k, 1)) (hp : pc + 1 = pc') (hv : x.isRef = true) (hl : storeLocals Ls k.val x = some Ls') (r : Run p e below P T (mkF m pc' Ls' S)) : Run p e below P T (mkF m pc Ls (x :: S)) := by
  subst hp; obtain ⟨t, st, q⟩ := r; exact ⟨t, XS.astoreN K.here K.hx rfl (hb K.bts hd) rfl hv hl st, q⟩
theorem r_iinc (K : St Z own bs mL p l e R s m args below meth c T h cells slots) {k : Nat} {cst : Int} {x v : Int32} {Ls' : Array Slot} (hd : decode bs pc = .ok (.iinc k cst, 3)) (hp : pc + 3 = pc') (hv : Int32.ofInt cst = v) (hl : Ls[k]? = some (.val (.int x))) (hl' : storeLocals Ls k (.int (x + v)) = some Ls') (r : Run p e below P T (mkF m pc' Ls' S)) : Run p e below P T (mkF m pc Ls S) := by
  subst hp hv; obtain ⟨t, st, q⟩ := r; exact ⟨t, XS.iinc K.here K.hx rfl (hb K.bts hd) hl hl' st, q⟩
theorem r_iconst (K : St Z own bs mL p l e R s m args below meth c T h cells slots) {i : Int} {v : Int32} (hd : decode bs pc = .ok (.iconst i, 1)) (hp : pc + 1 = pc') (hv : Int32.ofInt i = v) (r : Run p e below P T (mkF m pc' Ls (.int v :: S))) : Run p e below P T (mkF m pc Ls S) := by
  subst hp hv; obtain ⟨t, st, q⟩ := r; exact ⟨t, XS.iconst K.here K.hx rfl (hb K.bts hd) st, q⟩
theorem r_bipush (K : St Z own bs mL p l e R s m args below meth c T h cells slots) {i : Int} {v : Int32} (hd : decode bs pc = .ok (.bipush i, 2)) (hp : pc + 2 = pc') (hv : (Int8.ofInt i).toInt32 = v) (r : Run p e below P T (mkF m pc' Ls (.int v :: S))) : Run p e below P T (mkF m pc Ls S) := by
  subst hp hv; obtain ⟨t, st, q⟩ := r; exact ⟨t, XS.bipush K.here K.hx rfl (hb K.bts hd) st, q⟩
theorem r_sipush (K : St Z own bs mL p l e R s m args below meth c T h cells slots) {i : Int} {v : Int32} (hd : decode bs pc = .ok (.sipush i, 3)) (hp : pc + 3 = pc') (hv : (Int16.ofInt i).toInt32 = v) (r : Run p e below P T (mkF m pc' Ls (.int v :: S))) : Run p e below P T (mkF m pc Ls S) := by
  subst hp hv; obtain ⟨t, st, q⟩ := r; exact ⟨t, XS.sipush K.here K.hx rfl (hb K.bts hd) st, q⟩
theorem r_lconst (K : St Z own bs mL p l e R s m args below meth c T h cells slots) {k : Fin 2} {v : Int64} (hd : decode bs pc = .ok (.lconst k, 1)) (hp : pc + 1 = pc') (hv : Int64.ofNat k = v) (r : Run p e below P T (mkF m pc' Ls (.long v :: S))) : Run p e below P T (mkF m pc Ls S) := by
  subst hp hv; obtain ⟨t, st, q⟩ := r; exact ⟨t, XS.lconst K.here K.hx rfl (hb K.bts hd) st, q⟩
theorem r_aconstNull (K : St Z own bs mL p l e R s m args below meth c T h cells slots)  (hd : decode bs pc = .ok (.aconst_null, 1)) (hp : pc + 1 = pc')  (r : Run p e below P T (mkF m pc' Ls (.null :: S))) : Run p e below P T (mkF m pc Ls S) := by
  subst hp; obtain ⟨t, st, q⟩ := r; exact ⟨t, XS.aconstNull K.here K.hx rfl (hb K.bts hd)  st, q⟩
theorem r_iadd (K : St Z own bs mL p l e R s m args below meth c T h cells slots) {x y : Int32} (hd : decode bs pc = .ok (.iadd, 1)) (hp : pc + 1 = pc')  (r : Run p e below P T (mkF m pc' Ls (.int (x + y) :: S))) : Run p e below P T (mkF m pc Ls (.int y :: .int x :: S)) := by
  subst hp; obtain ⟨t, st, q⟩ := r; exact ⟨t, XS.iadd K.here K.hx rfl (hb K.bts hd) rfl st, q⟩
theorem r_isub (K : St Z own bs mL p l e R s m args below meth c T h cells slots) {x y : Int32} (hd : decode bs pc = .ok (.isub, 1)) (hp : pc + 1 = pc')  (r : Run p e below P T (mkF m pc' Ls (.int (x - y) :: S))) : Run p e below P T (mkF m pc Ls (.int y :: .int x :: S)) := by
  subst hp; obtain ⟨t, st, q⟩ := r; exact ⟨t, XS.isub K.here K.hx rfl (hb K.bts hd) rfl st, q⟩
theorem r_imul (K : St Z own bs mL p l e R s m args below meth c T h cells slots) {x y : Int32} (hd : decode bs pc = .ok (.imul, 1)) (hp : pc + 1 = pc')  (r : Run p e below P T (mkF m pc' Ls (.int (x * y) :: S))) : Run p e below P T (mkF m pc Ls (.int y :: .int x :: S)) := by
  subst hp; obtain ⟨t, st, q⟩ := r; exact ⟨t, XS.imul K.here K.hx rfl (hb K.bts hd) rfl st, q⟩
theorem r_iand (K : St Z own bs mL p l e R s m args below meth c T h cells slots) {x y : Int32} (hd : decode bs pc = .ok (.iand, 1)) (hp : pc + 1 = pc')  (r : Run p e below P T (mkF m pc' Ls (.int (x &&& y) :: S))) : Run p e below P T (mkF m pc Ls (.int y :: .int x :: S)) := by
  subst hp; obtain ⟨t, st, q⟩ := r; exact ⟨t, XS.iand K.here K.hx rfl (hb K.bts hd) rfl st, q⟩
theorem r_ior (K : St Z own bs mL p l e R s m args below meth c T h cells slots) {x y : Int32} (hd : decode bs pc = .ok (.ior, 1)) (hp : pc + 1 = pc')  (r : Run p e below P T (mkF m pc' Ls (.int (x ||| y) :: S))) : Run p e below P T (mkF m pc Ls (.int y :: .int x :: S)) := by
  subst hp; obtain ⟨t, st, q⟩ := r; exact ⟨t, XS.ior K.here K.hx rfl (hb K.bts hd) rfl st, q⟩
theorem r_ixor (K : St Z own bs mL p l e R s m args below meth c T h cells slots) {x y : Int32} (hd : decode bs pc = .ok (.ixor, 1)) (hp : pc + 1 = pc')  (r : Run p e below P T (mkF m pc' Ls (.int (x ^^^ y) :: S))) : Run p e below P T (mkF m pc Ls (.int y :: .int x :: S)) := by
  subst hp; obtain ⟨t, st, q⟩ := r; exact ⟨t, XS.ixor K.here K.hx rfl (hb K.bts hd) rfl st, q⟩
theorem r_ishl (K : St Z own bs mL p l e R s m args below meth c T h cells slots) {x y : Int32} (hd : decode bs pc = .ok (.ishl, 1)) (hp : pc + 1 = pc')  (r : Run p e below P T (mkF m pc' Ls (.int (x <<< (y &&& 31)) :: S))) : Run p e below P T (mkF m pc Ls (.int y :: .int x :: S)) := by
  subst hp; obtain ⟨t, st, q⟩ := r; exact ⟨t, XS.ishl K.here K.hx rfl (hb K.bts hd) rfl st, q⟩
theorem r_ishr (K : St Z own bs mL p l e R s m args below meth c T h cells slots) {x y : Int32} (hd : decode bs pc = .ok (.ishr, 1)) (hp : pc + 1 = pc')  (r : Run p e below P T (mkF m pc' Ls (.int (x >>> (y &&& 31)) :: S))) : Run p e below P T (mkF m pc Ls (.int y :: .int x :: S)) := by
  subst hp; obtain ⟨t, st, q⟩ := r; exact ⟨t, XS.ishr K.here K.hx rfl (hb K.bts hd) rfl st, q⟩
theorem r_iushr (K : St Z own bs mL p l e R s m args below meth c T h cells slots) {x y : Int32} (hd : decode bs pc = .ok (.iushr, 1)) (hp : pc + 1 = pc')  (r : Run p e below P T (mkF m pc' Ls (.int ((x.toUInt32 >>> (y &&& 31).toUInt32).toInt32) :: S))) : Run p e below P T (mkF m pc Ls (.int y :: .int x :: S)) := by
  subst hp; obtain ⟨t, st, q⟩ := r; exact ⟨t, XS.iushr K.here K.hx rfl (hb K.bts hd) rfl st, q⟩
theorem r_ladd (K : St Z own bs mL p l e R s m args below meth c T h cells slots) {x y : Int64} (hd : decode bs pc = .ok (.ladd, 1)) (hp : pc + 1 = pc')  (r : Run p e below P T (mkF m pc' Ls (.long (x + y) :: S))) : Run p e below P T (mkF m pc Ls (.long y :: .long x :: S)) := by
  subst hp; obtain ⟨t, st, q⟩ := r; exact ⟨t, XS.ladd K.here K.hx rfl (hb K.bts hd) rfl st, q⟩
theorem r_lsub (K : St Z own bs mL p l e R s m args below meth c T h cells slots) {x y : Int64} (hd : decode bs pc = .ok (.lsub, 1)) (hp : pc + 1 = pc')  (r : Run p e below P T (mkF m pc' Ls (.long (x - y) :: S))) : Run p e below P T (mkF m pc Ls (.long y :: .long x :: S)) := by
  subst hp; obtain ⟨t, st, q⟩ := r; exact ⟨t, XS.lsub K.here K.hx rfl (hb K.bts hd) rfl st, q⟩
theorem r_lmul (K : St Z own bs mL p l e R s m args below meth c T h cells slots) {x y : Int64} (hd : decode bs pc = .ok (.lmul, 1)) (hp : pc + 1 = pc')  (r : Run p e below P T (mkF m pc' Ls (.long (x * y) :: S))) : Run p e below P T (mkF m pc Ls (.long y :: .long x :: S)) := by
  subst hp; obtain ⟨t, st, q⟩ := r; exact ⟨t, XS.lmul K.here K.hx rfl (hb K.bts hd) rfl st, q⟩
theorem r_land (K : St Z own bs mL p l e R s m args below meth c T h cells slots) {x y : Int64} (hd : decode bs pc = .ok (.land, 1)) (hp : pc + 1 = pc')  (r : Run p e below P T (mkF m pc' Ls (.long (x &&& y) :: S))) : Run p e below P T (mkF m pc Ls (.long y :: .long x :: S)) := by
  subst hp; obtain ⟨t, st, q⟩ := r; exact ⟨t, XS.land K.here K.hx rfl (hb K.bts hd) rfl st, q⟩
theorem r_idiv (K : St Z own bs mL p l e R s m args below meth c T h cells slots) {x y : Int32} (hd : decode bs pc = .ok (.idiv, 1)) (hp : pc + 1 = pc') (hy : y ≠ 0) (r : Run p e below P T (mkF m pc' Ls (.int (x / y) :: S))) : Run p e below P T (mkF m pc Ls (.int y :: .int x :: S)) := by
  subst hp; obtain ⟨t, st, q⟩ := r; exact ⟨t, XS.idiv K.here K.hx rfl (hb K.bts hd) rfl hy st, q⟩
theorem r_ldiv (K : St Z own bs mL p l e R s m args below meth c T h cells slots) {x y : Int64} (hd : decode bs pc = .ok (.ldiv, 1)) (hp : pc + 1 = pc') (hy : y ≠ 0) (r : Run p e below P T (mkF m pc' Ls (.long (x / y) :: S))) : Run p e below P T (mkF m pc Ls (.long y :: .long x :: S)) := by
  subst hp; obtain ⟨t, st, q⟩ := r; exact ⟨t, XS.ldiv K.here K.hx rfl (hb K.bts hd) rfl hy st, q⟩
theorem r_lrem (K : St Z own bs mL p l e R s m args below meth c T h cells slots) {x y : Int64} (hd : decode bs pc = .ok (.lrem, 1)) (hp : pc + 1 = pc') (hy : y ≠ 0) (r : Run p e below P T (mkF m pc' Ls (.long (x - (x / y) * y) :: S))) : Run p e below P T (mkF m pc Ls (.long y :: .long x :: S)) := by
  subst hp; obtain ⟨t, st, q⟩ := r; exact ⟨t, XS.lrem K.here K.hx rfl (hb K.bts hd) rfl hy st, q⟩
theorem r_irem (K : St Z own bs mL p l e R s m args below meth c T h cells slots) {x y : Int32} (hd : decode bs pc = .ok (.irem, 1)) (hp : pc + 1 = pc') (hy : y ≠ 0) (r : Run p e below P T (mkF m pc' Ls (.int (x % y) :: S))) : Run p e below P T (mkF m pc Ls (.int y :: .int x :: S)) := by
  subst hp; obtain ⟨_, X, -⟩ := id K; obtain ⟨t, st, q⟩ := r; exact ⟨t, iremM X K.hx rfl (hb K.bts hd) rfl hy st, q⟩
theorem r_ineg (K : St Z own bs mL p l e R s m args below meth c T h cells slots) {x : Int32} (hd : decode bs pc = .ok (.ineg, 1)) (hp : pc + 1 = pc')  (r : Run p e below P T (mkF m pc' Ls (.int (-x) :: S))) : Run p e below P T (mkF m pc Ls (.int x :: S)) := by
  subst hp; obtain ⟨t, st, q⟩ := r; exact ⟨t, XS.ineg K.here K.hx rfl (hb K.bts hd) rfl st, q⟩
theorem r_i2b (K : St Z own bs mL p l e R s m args below meth c T h cells slots) {x : Int32} (hd : decode bs pc = .ok (.i2b, 1)) (hp : pc + 1 = pc')  (r : Run p e below P T (mkF m pc' Ls (.int (x.toInt8.toInt32) :: S))) : Run p e below P T (mkF m pc Ls (.int x :: S)) := by
  subst hp; obtain ⟨t, st, q⟩ := r; exact ⟨t, XS.i2b K.here K.hx rfl (hb K.bts hd) rfl st, q⟩
theorem r_i2c (K : St Z own bs mL p l e R s m args below meth c T h cells slots) {x : Int32} (hd : decode bs pc = .ok (.i2c, 1)) (hp : pc + 1 = pc')  (r : Run p e below P T (mkF m pc' Ls (.int (x.toUInt32.toUInt16.toUInt32.toInt32) :: S))) : Run p e below P T (mkF m pc Ls (.int x :: S)) := by
  subst hp; obtain ⟨t, st, q⟩ := r; exact ⟨t, XS.i2c K.here K.hx rfl (hb K.bts hd) rfl st, q⟩
theorem r_i2l (K : St Z own bs mL p l e R s m args below meth c T h cells slots) {x : Int32} (hd : decode bs pc = .ok (.i2l, 1)) (hp : pc + 1 = pc')  (r : Run p e below P T (mkF m pc' Ls (.long (x.toInt64) :: S))) : Run p e below P T (mkF m pc Ls (.int x :: S)) := by
  subst hp; obtain ⟨t, st, q⟩ := r; exact ⟨t, XS.i2l K.here K.hx rfl (hb K.bts hd) rfl st, q⟩
theorem r_l2i (K : St Z own bs mL p l e R s m args below meth c T h cells slots) {x : Int64} (hd : decode bs pc = .ok (.l2i, 1)) (hp : pc + 1 = pc')  (r : Run p e below P T (mkF m pc' Ls (.int (x.toInt32) :: S))) : Run p e below P T (mkF m pc Ls (.long x :: S)) := by
  subst hp; obtain ⟨t, st, q⟩ := r; exact ⟨t, XS.l2i K.here K.hx rfl (hb K.bts hd) rfl st, q⟩
theorem r_lneg (K : St Z own bs mL p l e R s m args below meth c T h cells slots) {x : Int64} (hd : decode bs pc = .ok (.lneg, 1)) (hp : pc + 1 = pc')  (r : Run p e below P T (mkF m pc' Ls (.long (-x) :: S))) : Run p e below P T (mkF m pc Ls (.long x :: S)) := by
  subst hp; obtain ⟨t, st, q⟩ := r; exact ⟨t, XS.lneg K.here K.hx rfl (hb K.bts hd) rfl st, q⟩
theorem r_dup (K : St Z own bs mL p l e R s m args below meth c T h cells slots) {x : Value} (hd : decode bs pc = .ok (.dup, 1)) (hp : pc + 1 = pc') (hc : x.category = 1) (r : Run p e below P T (mkF m pc' Ls (x :: x :: S))) : Run p e below P T (mkF m pc Ls (x :: S)) := by
  subst hp; obtain ⟨t, st, q⟩ := r; exact ⟨t, XS.dup K.here K.hx rfl (hb K.bts hd) rfl hc st, q⟩
theorem r_pop (K : St Z own bs mL p l e R s m args below meth c T h cells slots) {x : Value} (hd : decode bs pc = .ok (.pop, 1)) (hp : pc + 1 = pc') (hc : x.category = 1) (r : Run p e below P T (mkF m pc' Ls S)) : Run p e below P T (mkF m pc Ls (x :: S)) := by
  subst hp; obtain ⟨t, st, q⟩ := r; exact ⟨t, XS.pop K.here K.hx rfl (hb K.bts hd) rfl hc st, q⟩
theorem r_lcmp (K : St Z own bs mL p l e R s m args below meth c T h cells slots) {x y : Int64} (hd : decode bs pc = .ok (.lcmp, 1)) (hp : pc + 1 = pc')  (r : Run p e below P T (mkF m pc' Ls (.int (lcmpW x y) :: S))) : Run p e below P T (mkF m pc Ls (.long y :: .long x :: S)) := by
  subst hp; obtain ⟨t, st, q⟩ := r; exact ⟨t, XS.lcmp K.here K.hx rfl (hb K.bts hd) rfl st, q⟩
theorem r_goto (K : St Z own bs mL p l e R s m args below meth c T h cells slots) {o : Int} (hd : decode bs pc = .ok (.goto o, 3)) (ho : 0 ≤ (pc : Int) + o) (hp : ((pc : Int) + o).toNat = pc') (r : Run p e below P T (mkF m pc' Ls S)) : Run p e below P T (mkF m pc Ls S) := by
  obtain ⟨t, st, q⟩ := r; exact ⟨t, XS.goto K.here K.hx rfl (pc0 := pc) (pc' := pc') rfl (hb K.bts hd) ho hp st, q⟩
theorem cp_t {cd : ClassFile.Cond} {x y : Int32} (h : cp cd x y) : if_icmp.holds cd x y = true := by
  cases cd
  · exact (teq h).1
  · exact (feq h).2
  · exact (tlt h).1
  · exact (flt h).2.1
  · exact (tlt h).2.2.1
  · exact (flt h).2.2.2
theorem cp_n {cd : ClassFile.Cond} {x y : Int32} (h : ¬ cp cd x y) : cpn cd x y := by
  cases cd
  · exact h
  · exact Classical.not_not.mp h
  · exact h
  · exact Classical.not_not.mp h
  · exact h
  · exact Classical.not_not.mp h
theorem cp_f {cd : ClassFile.Cond} {x y : Int32} (h : cpn cd x y) : if_icmp.holds cd x y = false := by
  cases cd
  · exact (feq h).1
  · exact (teq h).2
  · exact (flt h).1
  · exact (tlt h).2.1
  · exact (flt h).2.2.1
  · exact (tlt h).2.2.2
theorem r_icmp (K : St Z own bs mL p l e R s m args below meth c T h cells slots) {cd : ClassFile.Cond} {x y : Int32} {o : Int} {pc1 pc2 : Nat} (hd : decode bs pc = .ok (.if_icmp cd o, 3)) (h1 : pc + 3 = pc1) (ho : 0 ≤ (pc : Int) + o) (h2 : ((pc : Int) + o).toNat = pc2)
    (r2 : cp cd x y → Run p e below P T (mkF m pc2 Ls S)) (r1 : cpn cd x y → Run p e below P T (mkF m pc1 Ls S)) : Run p e below P T (mkF m pc Ls (.int y :: .int x :: S)) := by
  subst h1
  by_cases hc : cp cd x y
  · obtain ⟨t, st, q⟩ := r2 hc; exact ⟨t, XS.icmpYes K.here K.hx rfl (pc0 := pc) (pc' := pc2) rfl (hb K.bts hd) rfl (cp_t hc) ho h2 st, q⟩
  · obtain ⟨t, st, q⟩ := r1 (cp_n hc); exact ⟨t, XS.icmpNo K.here K.hx rfl (hb K.bts hd) rfl (cp_f (cp_n hc)) st, q⟩
theorem r_if (K : St Z own bs mL p l e R s m args below meth c T h cells slots) {cd : ClassFile.Cond} {x : Int32} {o : Int} {pc1 pc2 : Nat} (hd : decode bs pc = .ok (.ifCond cd o, 3)) (h1 : pc + 3 = pc1) (ho : 0 ≤ (pc : Int) + o) (h2 : ((pc : Int) + o).toNat = pc2)
    (r2 : cp cd x 0 → Run p e below P T (mkF m pc2 Ls S)) (r1 : cpn cd x 0 → Run p e below P T (mkF m pc1 Ls S)) : Run p e below P T (mkF m pc Ls (.int x :: S)) := by
  subst h1
  by_cases hc : cp cd x 0
  · obtain ⟨t, st, q⟩ := r2 hc; exact ⟨t, XS.ifYes K.here K.hx rfl (pc0 := pc) (pc' := pc2) rfl (hb K.bts hd) rfl ((if0 _ _).trans (cp_t hc)) ho h2 st, q⟩
  · obtain ⟨t, st, q⟩ := r1 (cp_n hc); exact ⟨t, XS.ifNo K.here K.hx rfl (hb K.bts hd) rfl ((if0 _ _).trans (cp_f (cp_n hc))) st, q⟩
theorem r_nonnullYes (K : St Z own bs mL p l e R s m args below meth c T h cells slots) {b : Addr} {o : Int} (hd : decode bs pc = .ok (.ifnonnull o, 3)) (ho : 0 ≤ (pc : Int) + o) (h2 : ((pc : Int) + o).toNat = pc') (r : Run p e below P T (mkF m pc' Ls S)) : Run p e below P T (mkF m pc Ls (.ref b :: S)) := by
  obtain ⟨t, st, q⟩ := r; exact ⟨t, XS.ifnonnullYes K.here K.hx rfl (pc0 := pc) (pc' := pc') rfl (hb K.bts hd) rfl ho h2 st, q⟩
theorem r_nonnullNo (K : St Z own bs mL p l e R s m args below meth c T h cells slots) {o : Int} (hd : decode bs pc = .ok (.ifnonnull o, 3)) (h1 : pc + 3 = pc') (r : Run p e below P T (mkF m pc' Ls S)) : Run p e below P T (mkF m pc Ls (.null :: S)) := by
  subst h1; obtain ⟨t, st, q⟩ := r; exact ⟨t, XS.ifnonnullNo K.here K.hx rfl (hb K.bts hd) rfl st, q⟩
theorem r_getF (K : St Z own bs mL p l e R s m args below meth c T h cells slots) {O n d : String} {index : Nat} {a : Addr} {v : Value} (w : (Jvm.Cond.fieldLink own index O n d).before a0 Z = true) (F : Fld Z h a O n d v) (hd : decode bs pc = .ok (.getfield index, 3)) (hp : pc + 3 = pc')
    (r : ∀ T', St Z own bs mL p l e R s m args below meth c T' h cells slots → Run p e below P T' (mkF m pc' Ls (v :: S))) : Run p e below P T (mkF m pc Ls (.ref a :: S)) := by
  subst hp; obtain ⟨locs, X, N, E, eT, hx, hby, hml, hZ, hown⟩ := K
  obtain ⟨T', X', e', st⟩ := getF X hx hZ hown (host := "") (Or.inl w) Via.refl eT F (g := mkF m pc Ls (.ref a :: S)) rfl rfl (hb hby hd)
  obtain ⟨t, st2, q⟩ := r T' ⟨locs, X', N, E, e', hx, hby, hml, hZ, hown⟩
  exact ⟨t, st _ st2, q⟩
theorem r_getS (K : St Z own bs mL p l e R s m args below meth c T h cells slots) {O n d : String} {index : Nat} {v : Value} (w : (Jvm.Cond.fieldLink own index O n d).before a0 Z = true) (F : Sta Z h O n d v) (hd : decode bs pc = .ok (.getstatic index, 3)) (hp : pc + 3 = pc')
    (r : ∀ T', St Z own bs mL p l e R s m args below meth c T' h cells slots → Run p e below P T' (mkF m pc' Ls (v :: S))) : Run p e below P T (mkF m pc Ls S) := by
  subst hp; obtain ⟨locs, X, N, E, eT, hx, hby, hml, hZ, hown⟩ := K
  obtain ⟨T', X', e', st⟩ := getS X hx hZ hown (host := "") w Via.refl eT F (g := mkF m pc Ls S) rfl (hb hby hd)
  obtain ⟨t, st2, q⟩ := r T' ⟨locs, X', N, E, e', hx, hby, hml, hZ, hown⟩
  exact ⟨t, st _ st2, q⟩
theorem old_wr {a : Addr} {sl : Nat} {v : Value} {h' : Heap} (E : Ext Z.heap h) (W : Wr h h' a sl v) (g : Z.heap.size ≤ a) : Ext Z.heap h' := (Old.wr (Z := Z) (n0 := Z.heap.size) ⟨rfl, E⟩ W g).2
theorem fr_snoc {a : Addr} {sl k : Nat} {locs : List Loc} (N : Fr k locs) (g : k ≤ a) : Fr k (locs ++ [⟨a, sl⟩]) := N.app fun y hy => by cases List.mem_singleton.mp hy; exact g
theorem r_putF (K : St Z own bs mL p l e R s m args below meth c T h cells slots) {O n d C : String} {index kk : Nat} {ty : FieldType} {a : Addr} {v old : Value} (w : (Jvm.Cond.fieldLink own index O n d).before a0 Z = true) (F : Fld Z h a O n d old) (E0 : Exa Z h a C) (g : Z.heap.size ≤ a)
    (L : (Jvm.Cond.lays C O n d).before a0 Z = true ∨ ((Jvm.Cond.laysFinal C O n d).before a0 Z = true ∧ own = O ∧ meth.name = "<init>")) (wi : (Jvm.Cond.instantiable C kk).before a0 Z = true) (hty : parseFieldDescriptor d = some ty) (hn : narrow ty v = v) (hf : fits ty v = true) (hd : decode bs pc = .ok (.putfield index, 3)) (hp : pc + 3 = pc')
    (r : ∀ T' h', St Z own bs mL p l e R s m args below meth c T' h' cells slots → Wr h h' a (Jvm.RoadKit.slotOf Z O n d) v → Run p e below P T' (mkF m pc' Ls S)) : Run p e below P T (mkF m pc Ls (v :: .ref a :: S)) := by
  subst hp; obtain ⟨locs, X, N, E, eT, hx, hby, hml, hZ, hown⟩ := K
  obtain ⟨T', h', X', e', W, st⟩ := putF X hx hZ hown (host := "") (Or.inl w) Via.refl eT F E0 L wi hty hn hf (g := mkF m pc Ls (v :: .ref a :: S)) rfl rfl (hb hby hd)
  obtain ⟨t, st2, q⟩ := r T' h' ⟨_, X', fr_snoc N g, old_wr E W g, e', hx, hby, hml, hZ, hown⟩ W
  exact ⟨t, st _ st2, q⟩
theorem ext_tr {h1 h2 h3 : Heap} (E : Ext h1 h2) (F : Ext h2 h3) : Ext h1 h3 := ⟨Nat.le_trans E.1 F.1, fun a c q => F.2 a c (E.2 a c q)⟩
theorem r_new (K : St Z own bs mL p l e R s m args below meth c T h cells slots) {C : String} {index n : Nat} (w : (Jvm.Cond.classLink own index C).before a0 Z = true) (wi : (Jvm.Cond.instantiable C n).before a0 Z = true) (wz : (Jvm.Cond.initialized C).before a0 Z = true) (hd : decode bs pc = .ok (.new index, 3)) (hp : pc + 3 = pc') (hc : cells + 1 ≤ R.cells) (hl : slots + n ≤ R.slots)
    (r : ∀ T' h' a, a = h.size → St Z own bs mL p l e R s m args below meth c T' h' (cells + 1) (slots + n) → Ext h h' → Exa Z h' a C → (∀ {O nm d : String} {ty : FieldType}, Laid Z a0 C O nm d → parseFieldDescriptor d = some ty → Fld Z h' a O nm d (defaultValue ty)) → Run p e below P T' (mkF m pc' Ls (.ref a :: S))) : Run p e below P T (mkF m pc Ls S) := by
  subst hp; obtain ⟨locs, X, N, E, eT, hx, hby, hml, hZ, hown⟩ := K
  obtain ⟨T', h', X', e', E', A, D, -, st⟩ := newO X hx hZ hown w wi wz eT (g := mkF m pc Ls S) rfl (hb hby hd) hc hl
  obtain ⟨t, st2, q⟩ := r T' h' _ rfl ⟨_, X', N, ext_tr E E', e', hx, hby, hml, hZ, hown⟩ E' A D
  exact ⟨t, st _ st2, q⟩
theorem r_newarr (K : St Z own bs mL p l e R s m args below meth c T h cells slots) {aty : ArrayType} {n : Int32} {cap : Nat} (w : (Jvm.Cond.arrayClass (newarray.typeOf aty)).before a0 Z = true) (hd : decode bs pc = .ok (.newarray aty, 2)) (hp : pc + 2 = pc') (hn : ¬ n < 0) (hcap : n.toNatClampNeg ≤ cap) (hb8 : cap * 8 ≤ 536870912) (hc : cells + 1 ≤ R.cells) (hl : slots + cap ≤ R.slots)
    (r : ∀ T' h' a k, a = h.size → St Z own bs mL p l e R s m args below meth c T' h' (cells + 1) (slots + cap) → Ext h h' → Arv Z h' a k (newarray.typeOf aty) n [] (defaultValue (newarray.typeOf aty)) → Run p e below P T' (mkF m pc' Ls (.ref a :: S))) : Run p e below P T (mkF m pc Ls (.int n :: S)) := by
  subst hp; obtain ⟨locs, X, N, E, eT, hx, hby, hml, hZ, hown⟩ := K
  obtain ⟨T', h', cA, X', e', E', A, st⟩ := newP X hx hZ w eT (g := mkF m pc Ls (.int n :: S)) rfl (hb hby hd) rfl hn hcap hb8 hc hl
  obtain ⟨t, st2, q⟩ := r T' h' _ cA rfl ⟨_, X', N, ext_tr E E', e', hx, hby, hml, hZ, hown⟩ E' (Arv.new A hn)
  exact ⟨t, st _ st2, q⟩
theorem r_init (K : St Z own bs mL p l e R s m args below meth c T h cells slots) {index W : Nat} {a : Addr} (w1 : (Jvm.Cond.methodLink own index Lib.objectInit).before a0 Z = true) (w2 : (Jvm.Cond.instanceMethod Lib.objectInit).before a0 Z = true) (w3 : (Jvm.Cond.code Lib.objectInit object_method_1_code 1 none).before a0 Z = true) (hsz : Ls.size = mL) (hd : decode bs pc = .ok (.invokespecial index, 3)) (hp : pc + 3 = pc')
    (hf : 1 ≤ R.frames) (hW : (S.map fun v => v.category).sum ≤ W) (hl : W + 12 ≤ R.locals) (r : ∀ T', St Z own bs mL p l e R s m args below meth c T' h cells slots → Run p e below P T' (mkF m pc' Ls S)) : Run p e below P T (mkF m pc Ls (.ref a :: S)) := by
  subst hp; obtain ⟨locs, X, N, E, eT, hx, hby, hml, hZ, hown⟩ := K
  obtain ⟨T', X', e', st⟩ := initO X hx hZ hown w1 w2 w3 eT (g := mkF m pc Ls (.ref a :: S)) rfl (by rw [hml]; exact hsz) rfl (hb hby hd) hf (W := W) (by show 2 * 0 + _ ≤ _; omega) hl
  obtain ⟨t, st2, q⟩ := r T' ⟨_, X', N, E, e', hx, hby, hml, hZ, hown⟩
  exact ⟨t, st _ st2, q⟩
theorem r_static (K : St Z own bs mL p l e R s m args below meth c T h cells slots) {index : Nat} {bs' : ByteArray} {mL' : Nat} {argsL rest : List Value} {W : Nat} {ps : List FieldType} {rt : Option FieldType} (M : Con l y bs' mL' ret [] rm Z argsL.toArray h Q)
    (w1 : (Jvm.Cond.methodLink own index y).before a0 Z = true) (w2 : (Jvm.Cond.static y).before a0 Z = true) (w3 : (Jvm.Cond.initialized y.cls).before a0 Z = true) (w4 : (Jvm.Cond.code y bs' mL' ret).before a0 Z = true) (hy : y.cls ≠ "java/lang/invoke/MethodHandle" ∧ y.cls ≠ "java/lang/invoke/VarHandle")
    (pd : parseMethodDescriptor y.desc = some ⟨ps, rt⟩) (hlen : argsL.length = ps.length) (hS : S = argsL.reverse ++ rest) (hsz : Ls.size = mL) (hW : (rest.map fun v => v.category).sum ≤ W) (hf : rm.frames + 1 ≤ R.frames) (hl : W + (mL' + 11) + rm.locals ≤ R.locals) (hc : cells + rm.cells ≤ R.cells) (hs : slots + rm.slots ≤ R.slots)
    (hd : decode bs pc = .ok (.invokestatic index, 3)) (hp : pc + 3 = pc')
    (r : ∀ v T' h', St Z own bs mL p l e R s m args below meth c T' h' (cells + rm.cells) (slots + rm.slots) → Q v h' → Run p e below P T' (mkF m pc' Ls (pu v rest))) : Run p e below P T (mkF m pc Ls S) := by
  subst hp hS; obtain ⟨locs, X, N, E, eT, hx, hby, hml, hZ, hown⟩ := K
  obtain ⟨v, vm₁, ⟨T', L', k', n'⟩, -, X', ⟨Lc, hQ, l1, y1, z1⟩, st⟩ := Jvm.LawKit.callS X hx (y := y) hown (mvT hZ w1) (mvT hZ w2) (mvT hZ w3) (mvT hZ w4) hy (backOf (W := W) (as' := argsL.toArray) (h := h) (Q := fun v h L => Q v h ∧ Fr Z.heap.size L ∧ Ext Z.heap h) M hZ w4 w3 hf hl) (g := mkF m pc Ls (argsL.reverse ++ rest)) rfl (by rw [hml]; exact hsz) (argsL := argsL) (rest := rest) (lenOf pd hlen) rfl (by show 2 * 0 + _ ≤ _; omega) (hb hby hd) (fun _ _ => ⟨rfl, eT, hc, hs⟩)
  dsimp only [Pt.U, Pt.locs, Pt.cells, Pt.slots] at X' l1 y1 z1 st hQ
  subst l1 y1 z1
  obtain ⟨t, st2, q⟩ := r v T' T'.heap ⟨_, X', N.app hQ.2.1, hQ.2.2, rfl, hx, hby, hml, hZ, hown⟩ hQ.1
  refine ⟨t, st _ ?_, q⟩
  cases v <;> exact st2
theorem r_special (K : St Z own bs mL p l e R s m args below meth c T h cells slots) {index : Nat} {bs' : ByteArray} {mL' : Nat} {a : Addr} {argsL rest : List Value} {W : Nat} {ps : List FieldType} {rt : Option FieldType} (M : Con l y bs' mL' none [] rm Z (Value.ref a :: argsL).toArray h Q) (hy1 : y.name = "<init>")
    (w1 : (Jvm.Cond.methodLink own index y).before a0 Z = true) (w2 : (Jvm.Cond.instanceMethod y).before a0 Z = true) (w3 : (Jvm.Cond.initialized y.cls).before a0 Z = true) (w4 : (Jvm.Cond.code y bs' mL' none).before a0 Z = true) (hy : y.cls ≠ "java/lang/invoke/MethodHandle" ∧ y.cls ≠ "java/lang/invoke/VarHandle")
    (pd : parseMethodDescriptor y.desc = some ⟨ps, rt⟩) (hlen : argsL.length = ps.length) (hS : S = argsL.reverse ++ .ref a :: rest) (hsz : Ls.size = mL) (hW : (rest.map fun v => v.category).sum ≤ W) (hf : rm.frames + 1 ≤ R.frames) (hl : W + (mL' + 11) + rm.locals ≤ R.locals) (hc : cells + rm.cells ≤ R.cells) (hs : slots + rm.slots ≤ R.slots)
    (hd : decode bs pc = .ok (.invokespecial index, 3)) (hp : pc + 3 = pc')
    (r : ∀ v T' h', St Z own bs mL p l e R s m args below meth c T' h' (cells + rm.cells) (slots + rm.slots) → Q v h' → Run p e below P T' (mkF m pc' Ls (pu v rest))) : Run p e below P T (mkF m pc Ls S) := by
  subst hp hS; obtain ⟨locs, X, N, E, eT, hx, hby, hml, hZ, hown⟩ := K
  obtain ⟨v, vm₁, ⟨T', L', k', n'⟩, -, X', ⟨Lc, hQ, l1, y1, z1⟩, st⟩ := X.specialBack hx (y := y) hy1 hown (mvT hZ w1) (mvT hZ w2) (mvT hZ w4) hy (backOf (W := W) (as' := (Value.ref a :: argsL).toArray) (h := h) (Q := fun v h L => Q v h ∧ Fr Z.heap.size L ∧ Ext Z.heap h) M hZ w4 w3 hf hl) (g := mkF m pc Ls (argsL.reverse ++ .ref a :: rest)) rfl (by rw [hml]; exact hsz) (Steps.refl _) (a := a) (argsL := argsL) (rest := rest) (lenOf pd hlen) rfl (by show 2 * 0 + _ ≤ _; omega) (hb hby hd) (fun _ _ => ⟨rfl, eT, hc, hs⟩)
  dsimp only [Pt.U, Pt.locs, Pt.cells, Pt.slots] at X' l1 y1 z1 st hQ
  subst l1 y1 z1
  obtain ⟨t, st2, q⟩ := r v T' T'.heap ⟨_, X', N.app hQ.2.1, hQ.2.2, rfl, hx, hby, hml, hZ, hown⟩ hQ.1
  refine ⟨t, st.trans ?_, q⟩
  cases v <;> exact st2
theorem r_virtual (K : St Z own bs mL p l e R s m args below meth c T h cells slots) {index : Nat} {C : String} {bs' : ByteArray} {mL' : Nat} {a : Addr} {argsL rest : List Value} {W : Nat} {ps : List FieldType} {rt : Option FieldType} (M : Con l y bs' mL' ret [] rm Z (Value.ref a :: argsL).toArray h Q) (E0 : Exa Z h a C)
    (w1 : (Jvm.Cond.methodLink own index y).before a0 Z = true) (wd : (Jvm.Cond.declares y).before a0 Z = true) (wse : (Jvm.Cond.selects C y y).before a0 Z = true) (w2 : (Jvm.Cond.instanceMethod y).before a0 Z = true) (w3 : (Jvm.Cond.initialized y.cls).before a0 Z = true) (w4 : (Jvm.Cond.code y bs' mL' ret).before a0 Z = true) (hy : y.cls ≠ "java/lang/invoke/MethodHandle" ∧ y.cls ≠ "java/lang/invoke/VarHandle")
    (pd : parseMethodDescriptor y.desc = some ⟨ps, rt⟩) (hlen : argsL.length = ps.length) (hS : S = argsL.reverse ++ .ref a :: rest) (hsz : Ls.size = mL) (hW : (rest.map fun v => v.category).sum ≤ W) (hf : rm.frames + 1 ≤ R.frames) (hl : W + (mL' + 11) + rm.locals ≤ R.locals) (hc : cells + rm.cells ≤ R.cells) (hs : slots + rm.slots ≤ R.slots)
    (hd : decode bs pc = .ok (.invokevirtual index, 3)) (hp : pc + 3 = pc')
    (r : ∀ v T' h', St Z own bs mL p l e R s m args below meth c T' h' (cells + rm.cells) (slots + rm.slots) → Q v h' → Run p e below P T' (mkF m pc' Ls (pu v rest))) : Run p e below P T (mkF m pc Ls S) := by
  subst hp hS; obtain ⟨locs, X, N, E, eT, hx, hby, hml, hZ, hown⟩ := K
  obtain ⟨cq, kq, qa, qb, qc⟩ := isOf (s := s) (T := T) hZ eT E0
  obtain ⟨v, vm₁, ⟨T', L', k', n'⟩, -, X', ⟨Lc, hQ, l1, y1, z1⟩, st⟩ := X.virtualBack hx (y := y) (z := y) hown (mvT hZ w1) (mvT hZ wd) (notFace_of_selects (args := #[]) (mvT hZ wse)) (mvT hZ wse) (mvT hZ w2) hy (backOf (W := W) (as' := (Value.ref a :: argsL).toArray) (h := h) (Q := fun v h L => Q v h ∧ Fr Z.heap.size L ∧ Ext Z.heap h) M hZ w4 w3 hf hl) qa qc (g := mkF m pc Ls (argsL.reverse ++ .ref a :: rest)) rfl (by rw [hml]; exact hsz) (Steps.refl _) (argsL := argsL) (rest := rest) (lenOf pd hlen) rfl (by show 2 * 0 + _ ≤ _; omega) (hb hby hd) (fun _ _ => ⟨rfl, eT, hc, hs⟩)
  dsimp only [Pt.U, Pt.locs, Pt.cells, Pt.slots] at X' l1 y1 z1 st hQ
  subst l1 y1 z1
  obtain ⟨t, st2, q⟩ := r v T' T'.heap ⟨_, X', N.app hQ.2.1, hQ.2.2, rfl, hx, hby, hml, hZ, hown⟩ hQ.1
  refine ⟨t, st.trans ?_, q⟩
  cases v <;> exact st2
theorem r_alen (K : St Z own bs mL p l e R s m args below meth c T h cells slots) {a : Addr} {k : ClassId} {ty : FieldType} {z : Int32} {vs : List Value} {dv : Value} (A : Arv Z h a k ty z vs dv) (hd : decode bs pc = .ok (.arraylength, 1)) (hp : pc + 1 = pc') (r : Run p e below P T (mkF m pc' Ls (.int z :: S))) : Run p e below P T (mkF m pc Ls (.ref a :: S)) := by
  subst hp; obtain ⟨locs, X, N, E, eT, hx, hby, hml, hZ, hown⟩ := K
  obtain ⟨cl, Ar, -, Sz, Nn, -, -⟩ := A
  obtain ⟨t, st2, q⟩ := r
  refine ⟨t, X.arraylength hx (cell := cl) (by rw [eT]; exact Ar.1) (State.isArrayOf_alike hZ.alike Ar.2.1) (g := mkF m pc Ls (.ref a :: S)) rfl (rest := S) rfl (hb hby hd) _ ?_, q⟩
  rw [len_of Sz Nn]; exact st2
theorem r_iaload (K : St Z own bs mL p l e R s m args below meth c T h cells slots) {a : Addr} {k : ClassId} {z j : Int32} {vs : List Value} {dv v : Value} (A : Arv Z h a k .int z vs dv) (hj : ¬ j < 0 ∧ j < z) (hv : vs.getD j.toNatClampNeg dv = v) (hd : decode bs pc = .ok (.iaload, 1)) (hp : pc + 1 = pc') (r : Run p e below P T (mkF m pc' Ls (v :: S))) : Run p e below P T (mkF m pc Ls (.int j :: .ref a :: S)) := by
  subst hp; obtain ⟨locs, X, N, E, eT, hx, hby, hml, hZ, hown⟩ := K
  obtain ⟨cl, Ar, -, Sz, Nn, H, -⟩ := A
  have hin := inb_of Sz hj
  obtain ⟨t, st2, q⟩ := r
  exact ⟨t, X.iaload hx (cell := cl) (j := j) (v := v) (by rw [eT]; exact Ar.1) (State.isArrayOf_alike hZ.alike Ar.2.1) Ar.2.2 hin (H.at hin hv) (g := mkF m pc Ls (.int j :: .ref a :: S)) rfl rfl (hb hby hd) _ st2, q⟩
theorem r_iastore (K : St Z own bs mL p l e R s m args below meth c T h cells slots) {a : Addr} {k : ClassId} {z j x : Int32} {vs : List Value} {dv : Value} {i : Nat} (A : Arv Z h a k .int z vs dv) (g : Z.heap.size ≤ a) (hj : ¬ j < 0 ∧ j < z) (hi : j.toNatClampNeg = i) (hl : i < vs.length) (hd : decode bs pc = .ok (.iastore, 1)) (hp : pc + 1 = pc')
    (r : ∀ T' h', St Z own bs mL p l e R s m args below meth c T' h' cells slots → Wr h h' a j.toNatClampNeg (.int x) → Arv Z h' a k .int z (vs.set i (.int x)) dv → Run p e below P T' (mkF m pc' Ls S)) : Run p e below P T (mkF m pc Ls (.int x :: .int j :: .ref a :: S)) := by
  subst hp; obtain ⟨locs, X, N, E, eT, hx, hby, hml, hZ, hown⟩ := K
  obtain ⟨cl, Ar, q1, Sz, Nn, H, G⟩ := A
  have hin := inb_of Sz hj
  obtain ⟨T', h', X', e', W, st⟩ := stI X hx hZ eT Ar hin (x := x) (g := mkF m pc Ls (.int x :: .int j :: .ref a :: S)) rfl rfl (hb hby hd)
  obtain ⟨t, st2, q⟩ := r T' h' ⟨_, X', fr_snoc N g, old_wr E W g, e', hx, hby, hml, hZ, hown⟩ W (Arv.set Ar q1 Sz Nn H G rfl W i hi hl)
  exact ⟨t, st _ st2, q⟩
theorem r_copy (K : St Z own bs mL p l e R s m args below meth c T h cells slots) {index W : Nat} {a b : Addr} {k k' : ClassId} {ty : FieldType} {z z' sp dp nn : Int32} {vs vd us : List Value} {dv dd : Value}
    (w1 : (Jvm.Cond.methodLink own index Jvm.Stand.acN).before a0 Z = true) (w2 : (Jvm.Cond.native Jvm.Stand.acN).before a0 Z = true) (w3 : (Jvm.Cond.static Jvm.Stand.acN).before a0 Z = true) (w4 : (Jvm.Cond.initialized "java/lang/System").before a0 Z = true)
    (A : Arv Z h a k ty z vs dv) (B : Arv Z h b k' ty z' vd dd) (hty : refKind ty = false) (h1 : ¬ sp < 0) (h2 : ¬ dp < 0) (h3 : ¬ nn < 0) (h4 : sp.toNatClampNeg + nn.toNatClampNeg ≤ z.toNatClampNeg) (h5 : dp.toNatClampNeg + nn.toNatClampNeg ≤ z'.toNatClampNeg)
    (hus : us = (List.range nn.toNatClampNeg).map fun i => vs.getD (sp.toNatClampNeg + i) dv) (hl : dp.toNatClampNeg + nn.toNatClampNeg ≤ vd.length) (ge : Z.heap.size ≤ b) (hsz : Ls.size = mL) (hd : decode bs pc = .ok (.invokestatic index, 3)) (hp : pc + 3 = pc')
    (hf : 1 ≤ R.frames) (hW : (S.map fun v => v.category).sum ≤ W) (hlo : W + (nativeFrameWords "java/lang/System" "arraycopy" 5 + 11) ≤ R.locals)
    (r : ∀ T' h', St Z own bs mL p l e R s m args below meth c T' h' cells slots → Keep h h' [b] → Arv Z h' b k' ty z' (vd.take dp.toNatClampNeg ++ us ++ vd.drop (dp.toNatClampNeg + nn.toNatClampNeg)) dd → Run p e below P T' (mkF m pc' Ls S)) : Run p e below P T (mkF m pc Ls (.int nn :: .int dp :: .ref b :: .int sp :: .ref a :: S)) := by
  subst hp; obtain ⟨locs, X, N, E, eT, hx, hby, hml, hZ, hown⟩ := K
  obtain ⟨T', h', L', X', e', N', Kp, B', st⟩ := cpA X hx hZ hown w1 w2 w3 w4 eT A B (Or.inl ⟨rfl, hty⟩) h1 h2 h3 h4 h5 hus hl N ge (g := mkF m pc Ls (.int nn :: .int dp :: .ref b :: .int sp :: .ref a :: S)) rfl (by rw [hml]; exact hsz) rfl (hb hby hd) hf (W := W) (by show 2 * 0 + _ ≤ _; omega) hlo
  obtain ⟨t, st2, q⟩ := r T' h' ⟨_, X', N', (Old.keep (Z := Z) (n0 := Z.heap.size) ⟨rfl, E⟩ Kp (allS ge all0)).2, e', hx, hby, hml, hZ, hown⟩ Kp B'
  exact ⟨t, st _ st2, q⟩
theorem r_caload (K : St Z own bs mL p l e R s m args below meth c T h cells slots) {a : Addr} {k : ClassId} {z j : Int32} {vs : List Value} {dv v : Value} (A : Arv Z h a k .char z vs dv) (hj : ¬ j < 0 ∧ j < z) (hv : vs.getD j.toNatClampNeg dv = v) (hd : decode bs pc = .ok (.caload, 1)) (hp : pc + 1 = pc') (r : Run p e below P T (mkF m pc' Ls (v :: S))) : Run p e below P T (mkF m pc Ls (.int j :: .ref a :: S)) := by
  subst hp; obtain ⟨locs, X, N, E, eT, hx, hby, hml, hZ, hown⟩ := K
  obtain ⟨cl, Ar, -, Sz, Nn, H, -⟩ := A
  have hin := inb_of Sz hj
  obtain ⟨t, st2, q⟩ := r
  exact ⟨t, X.caload hx (cell := cl) (j := j) (v := v) (by rw [eT]; exact Ar.1) (State.isArrayOf_alike hZ.alike Ar.2.1) Ar.2.2 hin (H.at hin hv) (g := mkF m pc Ls (.int j :: .ref a :: S)) rfl rfl (hb hby hd) _ st2, q⟩
theorem r_baload (K : St Z own bs mL p l e R s m args below meth c T h cells slots) {a : Addr} {k : ClassId} {z j : Int32} {vs : List Value} {dv v : Value} (A : Arv Z h a k .byte z vs dv) (hj : ¬ j < 0 ∧ j < z) (hv : vs.getD j.toNatClampNeg dv = v) (hd : decode bs pc = .ok (.baload, 1)) (hp : pc + 1 = pc') (r : Run p e below P T (mkF m pc' Ls (v :: S))) : Run p e below P T (mkF m pc Ls (.int j :: .ref a :: S)) := by
  subst hp; obtain ⟨locs, X, N, E, eT, hx, hby, hml, hZ, hown⟩ := K
  obtain ⟨cl, Ar, -, Sz, Nn, H, -⟩ := A
  have hin := inb_of Sz hj
  obtain ⟨t, st2, q⟩ := r
  exact ⟨t, X.baloadBytes hx (cell := cl) (j := j) (v := v) (by rw [eT]; exact Ar.1) (State.isArrayOf_alike hZ.alike Ar.2.1) Ar.2.2 hin (H.at hin hv) (g := mkF m pc Ls (.int j :: .ref a :: S)) rfl rfl (hb hby hd) _ st2, q⟩
theorem r_castore (K : St Z own bs mL p l e R s m args below meth c T h cells slots) {a : Addr} {k : ClassId} {z j x : Int32} {vs : List Value} {dv : Value} {i : Nat} (A : Arv Z h a k .char z vs dv) (g : Z.heap.size ≤ a) (hj : ¬ j < 0 ∧ j < z) (hi : j.toNatClampNeg = i) (hl : i < vs.length) (hd : decode bs pc = .ok (.castore, 1)) (hp : pc + 1 = pc')
    (r : ∀ T' h', St Z own bs mL p l e R s m args below meth c T' h' cells slots → Wr h h' a j.toNatClampNeg (.int (nar .char x)) → Arv Z h' a k .char z (vs.set i (.int (nar .char x))) dv → Run p e below P T' (mkF m pc' Ls S)) : Run p e below P T (mkF m pc Ls (.int x :: .int j :: .ref a :: S)) := by
  subst hp; obtain ⟨locs, X, N, E, eT, hx, hby, hml, hZ, hown⟩ := K
  obtain ⟨cl, Ar, q1, Sz, Nn, H, G⟩ := A
  have hin := inb_of Sz hj
  obtain ⟨T', h', X', e', W, st⟩ := stC X hx hZ eT Ar hin (x := x) (g := mkF m pc Ls (.int x :: .int j :: .ref a :: S)) rfl rfl (hb hby hd)
  obtain ⟨t, st2, q⟩ := r T' h' ⟨_, X', fr_snoc N g, old_wr E W g, e', hx, hby, hml, hZ, hown⟩ W (Arv.set Ar q1 Sz Nn H G (fits_nar_char _) W i hi hl)
  exact ⟨t, st _ st2, q⟩
theorem r_bastore (K : St Z own bs mL p l e R s m args below meth c T h cells slots) {a : Addr} {k : ClassId} {z j x : Int32} {vs : List Value} {dv : Value} {i : Nat} (A : Arv Z h a k .byte z vs dv) (g : Z.heap.size ≤ a) (hj : ¬ j < 0 ∧ j < z) (hi : j.toNatClampNeg = i) (hl : i < vs.length) (hd : decode bs pc = .ok (.bastore, 1)) (hp : pc + 1 = pc')
    (r : ∀ T' h', St Z own bs mL p l e R s m args below meth c T' h' cells slots → Wr h h' a j.toNatClampNeg (.int (nar .byte x)) → Arv Z h' a k .byte z (vs.set i (.int (nar .byte x))) dv → Run p e below P T' (mkF m pc' Ls S)) : Run p e below P T (mkF m pc Ls (.int x :: .int j :: .ref a :: S)) := by
  subst hp; obtain ⟨locs, X, N, E, eT, hx, hby, hml, hZ, hown⟩ := K
  obtain ⟨cl, Ar, q1, Sz, Nn, H, G⟩ := A
  have hin := inb_of Sz hj
  obtain ⟨T', h', X', e', W, st⟩ := stB X hx hZ eT Ar hin (x := x) (g := mkF m pc Ls (.int x :: .int j :: .ref a :: S)) rfl rfl (hb hby hd)
  obtain ⟨t, st2, q⟩ := r T' h' ⟨_, X', fr_snoc N g, old_wr E W g, e', hx, hby, hml, hZ, hown⟩ W (Arv.set Ar q1 Sz Nn H G (fits_nar_byte _) W i hi hl)
  exact ⟨t, st _ st2, q⟩
theorem r_ldcI (K : St Z own bs mL p l e R s m args below meth c T h cells slots) {index : Nat} {v : Int32} (w : (Jvm.Cond.constant own index v).before a0 Z = true) (hd : decode bs pc = .ok (.ldc index, 2)) (hp : pc + 2 = pc') (r : Run p e below P T (mkF m pc' Ls (.int v :: S))) : Run p e below P T (mkF m pc Ls S) := by
  subst hp; obtain ⟨locs, X, N, E, eT, hx, hby, hml, hZ, hown⟩ := K
  obtain ⟨t, st2, q⟩ := r
  exact ⟨t, X.ldcI hx hown (mvT hZ w) (g := mkF m pc Ls S) rfl (hb hby hd) st2, q⟩
theorem r_instY (K : St Z own bs mL p l e R s m args below meth c T h cells slots) {C : String} {index : Nat} {a : Addr} (w : (Jvm.Cond.classLink own index C).before a0 Z = true) (F : Ins Z h a C true) (hd : decode bs pc = .ok (.instanceof index, 3)) (hp : pc + 3 = pc') (r : ∀ T', St Z own bs mL p l e R s m args below meth c T' h cells slots → Run p e below P T' (mkF m pc' Ls (.int 1 :: S))) : Run p e below P T (mkF m pc Ls (.ref a :: S)) := by
  subst hp; obtain ⟨locs, X, N, E, eT, hx, hby, hml, hZ, hown⟩ := K
  obtain ⟨T', X', e', st⟩ := instY X hx hZ hown w eT F (g := mkF m pc Ls (.ref a :: S)) rfl rfl (hb hby hd)
  obtain ⟨t, st2, q⟩ := r T' ⟨locs, X', N, E, e', hx, hby, hml, hZ, hown⟩
  exact ⟨t, st _ st2, q⟩
theorem r_castY (K : St Z own bs mL p l e R s m args below meth c T h cells slots) {C : String} {index : Nat} {a : Addr} (w : (Jvm.Cond.classLink own index C).before a0 Z = true) (F : Ins Z h a C true) (hd : decode bs pc = .ok (.checkcast index, 3)) (hp : pc + 3 = pc') (r : ∀ T', St Z own bs mL p l e R s m args below meth c T' h cells slots → Run p e below P T' (mkF m pc' Ls (.ref a :: S))) : Run p e below P T (mkF m pc Ls (.ref a :: S)) := by
  subst hp; obtain ⟨locs, X, N, E, eT, hx, hby, hml, hZ, hown⟩ := K
  obtain ⟨T', X', e', st⟩ := castY X hx hZ hown w eT F (g := mkF m pc Ls (.ref a :: S)) rfl rfl (hb hby hd)
  obtain ⟨t, st2, q⟩ := r T' ⟨locs, X', N, E, e', hx, hby, hml, hZ, hown⟩
  exact ⟨t, st _ st2, q⟩
theorem r_instNo (K : St Z own bs mL p l e R s m args below meth c T h cells slots) {C D : String} {index : Nat} {a : Addr} (w : (Jvm.Cond.classLink own index C).before a0 Z = true) (E0 : Exa Z h a D) (F : ∃ c t, Z.vm.findClass D = some c ∧ Z.vm.findClass C = some t ∧ Z.vm.assignable c t = false) (hd : decode bs pc = .ok (.instanceof index, 3)) (hp : pc + 3 = pc') (r : ∀ T', St Z own bs mL p l e R s m args below meth c T' h cells slots → Run p e below P T' (mkF m pc' Ls (.int 0 :: S))) : Run p e below P T (mkF m pc Ls (.ref a :: S)) := by
  subst hp; obtain ⟨locs, X, N, E, eT, hx, hby, hml, hZ, hown⟩ := K
  obtain ⟨T', X', e', st⟩ := instNo X hx hZ hown w eT E0 F (g := mkF m pc Ls (.ref a :: S)) rfl rfl (hb hby hd)
  obtain ⟨t, st2, q⟩ := r T' ⟨locs, X', N, E, e', hx, hby, hml, hZ, hown⟩
  exact ⟨t, st _ st2, q⟩
theorem r_instNull (K : St Z own bs mL p l e R s m args below meth c T h cells slots) {index : Nat} (hd : decode bs pc = .ok (.instanceof index, 3)) (hp : pc + 3 = pc') (r : Run p e below P T (mkF m pc' Ls (.int 0 :: S))) : Run p e below P T (mkF m pc Ls (.null :: S)) := by
  subst hp; obtain ⟨locs, X, N, E, eT, hx, hby, hml, hZ, hown⟩ := K
  obtain ⟨t, st2, q⟩ := r
  exact ⟨t, X.instanceofNull hx (g := mkF m pc Ls (.null :: S)) rfl rfl (hb hby hd) _ st2, q⟩
theorem r_acmpNe (K : St Z own bs mL p l e R s m args below meth c T h cells slots) {a b : Addr} {o : Int} {pc1 pc2 : Nat} (hd : decode bs pc = .ok (.if_acmp .ne o, 3)) (h1 : pc + 3 = pc1) (ho : 0 ≤ (pc : Int) + o) (h2 : ((pc : Int) + o).toNat = pc2)
    (r2 : a ≠ b → Run p e below P T (mkF m pc2 Ls S)) (r1 : a = b → Run p e below P T (mkF m pc1 Ls S)) : Run p e below P T (mkF m pc Ls (.ref b :: .ref a :: S)) := by
  subst h1
  by_cases hc : a = b
  · obtain ⟨t, st, q⟩ := r1 hc; exact ⟨t, XS.acmpNo K.here K.hx rfl (hb K.bts hd) rfl (by simp [if_acmp.holds, hc]) st, q⟩
  · obtain ⟨t, st, q⟩ := r2 hc; exact ⟨t, XS.acmpYes K.here K.hx rfl (pc0 := pc) (pc' := pc2) rfl (hb K.bts hd) rfl (by simp [if_acmp.holds, hc]) ho h2 st, q⟩
end Kit
section KitW
/-- what goes along in a walk that may have loaded String constants: since the body's start s; vm0: the tables at hand -/
def Inv (Z : State) (EL : List (String × Nat)) (s : State) (vm0 : Vm) (h : Heap) : Prop := (∃ k0, s.Since vm0 k0 ∧ k0 ≤ h.size) ∧ CHr Z EL s.vm s.heap vm0 h
def FinW (Z : State) (EL : List (String × Nat)) (s : State) (below : List Frame) (k n : Nat) (Q : Option Value → Heap → Prop) (t : State) : Prop :=
  ∃ o, t.status = .running ∧ Ended t below o ∧ ∃ v L, o = .returned v ∧ (Q v t.heap ∧ Fr Z.heap.size L ∧ Ext Z.heap t.heap) ∧ CHr Z EL s.vm s.heap t.vm t.heap ∧ ReturnedEndW s o t L k n
def ConW (l : Launch) (y : MethodName) (bs : ByteArray) (mL : Nat) (ret : Option FieldType) (ws : List Jvm.Cond) (rm : Room) (Z : State) (EL : List (String × Nat)) (as : Array Value) (h0 : Heap) (Q : Option Value → Heap → Prop) : Prop :=
  MetFree l y (head1 (Jvm.Cond.code y bs mL ret :: ws) rm) (fun a U => a = as ∧ Z.Warmed39 U.vm ∧ U.heap = h0 ∧ CHv Z EL U.vm h0) (fun _ _ _ _ _ => True) (fun _ U o U' => ∃ v L, o = .returned v ∧ (Q v U'.heap ∧ Fr Z.heap.size L ∧ Ext Z.heap U'.heap) ∧ CHr Z EL U.vm U.heap U'.vm U'.heap ∧ ReturnedEndW U o U' L rm.cells rm.slots)
variable {Z : State} {a0 : Array Value} {own : String} {bs : ByteArray} {mL : Nat} {p : Program} {l : Launch} {e : Env} {R : Room} {s : State} {m : MethodId} {args : Array Value} {below : List Frame} {meth : Method} {c : Code} {T : State} {h h' : Heap} {cells slots : Nat} {P : State → Prop} {pc pc' : Nat} {Ls : Array Slot} {S : List Value} {y : MethodName} {ret : Option FieldType} {rm : Room} {ws : List Jvm.Cond} {as : Array Value} {h0 : Heap} {Q : Option Value → Heap → Prop} {kc kn : Nat} {EL : List (String × Nat)} {vm0 : Vm}
theorem Inv.ch (I : Inv Z EL s vm0 h) : CHv Z EL vm0 h := I.2.1
theorem Inv.step (I : Inv Z EL s vm0 h) (C : CHr Z EL vm0 h vm0 h') : Inv Z EL s vm0 h' := by
  obtain ⟨⟨k0, h1, h2⟩, h3⟩ := I
  exact ⟨⟨k0, h1, Nat.le_trans h2 C.2.1⟩, h3.trans C⟩
theorem Inv.ext (I : Inv Z EL s vm0 h) (E : Ext h h') : Inv Z EL s vm0 h' := I.step (CHr.ext E I.ch)
theorem Inv.wr (I : Inv Z EL s vm0 h) {a : Addr} {sl : Nat} {v : Value} (W : Wr h h' a sl v) (F : Safe Z EL vm0 h a) : Inv Z EL s vm0 h' := I.step (CHr.wr W F I.ch)
theorem Inv.keep (I : Inv Z EL s vm0 h) {ws : List Addr} (Kp : Keep h h' ws) (F : ∀ x ∈ ws, Safe Z EL vm0 h x) : Inv Z EL s vm0 h' := I.step (CHr.keep Kp F I.ch)
theorem Inv.fresh (I : Inv Z EL s vm0 h) (E : Ext h h') {a : Addr} (g : h.size ≤ a) : Safe Z EL vm0 h' a := Safe.ext E I.ch (Safe.new g)
theorem St.al (K : St Z own bs mL p l e R (s.setVm vm0) m args below meth c T h cells slots) : Z.vm.Alike vm0 := by obtain ⟨_, -, -, -, -, -, -, -, q, -⟩ := K; exact State.Warmed39.alike (show Z.Warmed39 vm0 from q)
theorem con_introW (hpn : plainFor y = true) (hx0 : Ext Z.heap h0)
    (body : ∀ (p : Program) (e : Env) (s : State) (m : MethodId) (below : List Frame) (meth : Method) (c : Code) (T : State), St Z y.cls bs mL p l e rm (s.setVm s.vm) m as below meth c T h0 0 0 → Inv Z EL s s.vm h0 → meth.sig.returnType = ret → meth.locks = false → meth.name = y.name →
      Run p e below (FinW Z EL s below rm.cells rm.slots Q) T (entryFrame m as mL)) : ConW l y bs mL ret ws rm Z EL as h0 Q := by
  refine MetFree.of_bodySF hpn hisR ?_
  intro p e s m args below meth c s₁ Bd hml0 hP hK
  obtain ⟨rfl, hZ, hh, hC⟩ := hP
  have hnm := (name_of_methodNamed Bd.named Bd.method).1
  have X0 : Stand p l e rm s m args below meth c s₁ [] 0 0 := Stand.of_body Bd
  have e0 : s₁.heap = h0 := by rw [← hh, Bd.state]; rfl
  have I0 : Inv Z EL s s.vm h0 := ⟨⟨0, (State.WarmedH.refl s).since 0, Nat.zero_le _⟩, by rw [hh]; exact CHr.refl hC⟩
  obtain ⟨t, st, o, h1, h2, h3⟩ := body p e s m below meth c s₁ ⟨[], X0, Fr.nil _, hx0, e0, Bd.exec, Bd.bytes, hml0, hZ, findClass_of_methodNamed Bd.named⟩ I0 Bd.returns Bd.notSynchronized hnm
  exact ⟨t, o, st, h1, h2, h3⟩
theorem w_ret (K : St Z own bs mL p l e R (s.setVm vm0) m args below meth c T h cells slots) (I : Inv Z EL s vm0 h) (hEL : EW Z a0 EL) {t : FieldType} {w : Value} {i : Instr} (hret : meth.sig.returnType = some t) (hlk : meth.locks = false) (hn : narrow t w = w)
    (hi : (i = .ireturn ∧ (t = .int ∨ t = .boolean ∨ t = .byte ∨ t = .char ∨ t = .short) ∧ ∃ z, w = .int z) ∨ (i = .lreturn ∧ t = .long ∧ ∃ z, w = .long z) ∨ (i = .dreturn ∧ t = .double ∧ ∃ z, w = .double z) ∨ (i = .freturn ∧ t = .float ∧ ∃ z, w = .float z) ∨ (i = .areturn ∧ t.isReference = true ∧ w.isRef = true))
    (hd : decode bs pc = .ok (i, 1)) (hc : cells ≤ kc) (hs : slots ≤ kn) (hq : Q (some w) h) : Run p e below (FinW Z EL s below kc kn Q) T (mkF m pc Ls (w :: S)) := by
  obtain ⟨locs, X, N, E, eT, hx, hby, hml, hZ, hown⟩ := K
  obtain ⟨⟨k0, i1, i2⟩, i3⟩ := I
  have X := X.more hc hs
  obtain ⟨fs, hr, hrun, hended, hend⟩ := X.leaveW i1 (by rw [eT]; exact i2) (v := some w) (fun q => by rw [hret] at q; cases q)
  refine ⟨_, retOut X hx hret hn hi (hb hby hd) hr, _, hrun, hended, _, _, rfl, ⟨eT.symm ▸ hq, N, eT.symm ▸ E⟩, ?_, hend⟩
  subst eT
  have C := i3.trans (CHv.at X hZ hEL i3.1)
  exact C
theorem w_retZ (K : St Z own bs mL p l e R (s.setVm vm0) m args below meth c T h cells slots) (I : Inv Z EL s vm0 h) (hEL : EW Z a0 EL) {z : Int32} (hret : meth.sig.returnType = some .boolean) (hlk : meth.locks = false) (hn : narrow .boolean (.int z) = .int z) (hd : decode bs pc = .ok (.ireturn, 1)) (hc : cells ≤ kc) (hs : slots ≤ kn) (hq : Q (some (.int z)) h) :
    Run p e below (FinW Z EL s below kc kn Q) T (mkF m pc Ls (.int z :: S)) := w_ret K I hEL hret hlk hn (Or.inl ⟨rfl, Or.inr (Or.inl rfl), _, rfl⟩) hd hc hs hq
theorem w_retA (K : St Z own bs mL p l e R (s.setVm vm0) m args below meth c T h cells slots) (I : Inv Z EL s vm0 h) (hEL : EW Z a0 EL) {t : FieldType} {w : Value} (hret : meth.sig.returnType = some t) (hlk : meth.locks = false) (ht : t.isReference = true) (hw : w.isRef = true) (hd : decode bs pc = .ok (.areturn, 1)) (hc : cells ≤ kc) (hs : slots ≤ kn) (hq : Q (some w) h) :
    Run p e below (FinW Z EL s below kc kn Q) T (mkF m pc Ls (w :: S)) := w_ret K I hEL hret hlk (by cases t <;> cases w <;> first | rfl | (simp [FieldType.isReference, Value.isRef] at ht hw)) (Or.inr (Or.inr (Or.inr (Or.inr ⟨rfl, ht, hw⟩)))) hd hc hs hq
theorem w_retV (K : St Z own bs mL p l e R (s.setVm vm0) m args below meth c T h cells slots) (I : Inv Z EL s vm0 h) (hEL : EW Z a0 EL) (hret : meth.sig.returnType = none) (hlk : meth.locks = false) (hd : decode bs pc = .ok (.return_, 1)) (hc : cells ≤ kc) (hs : slots ≤ kn) (hq : Q none h) :
    Run p e below (FinW Z EL s below kc kn Q) T (mkF m pc Ls []) := by
  obtain ⟨locs, X, N, E, eT, hx, hby, hml, hZ, hown⟩ := K
  obtain ⟨⟨k0, i1, i2⟩, i3⟩ := I
  have X := X.more hc hs
  obtain ⟨fs, hr, hrun, hended, hend⟩ := X.leaveW i1 (by rw [eT]; exact i2) (v := none) (fun _ => rfl)
  refine ⟨_, X.returnOut hx hret (hb hby hd) hr, _, hrun, hended, _, _, rfl, ⟨eT.symm ▸ hq, N, eT.symm ▸ E⟩, ?_, hend⟩
  subst eT
  have C := i3.trans (CHv.at X hZ hEL i3.1)
  exact C
theorem w_ldc (K : St Z own bs mL p l e R (s.setVm vm0) m args below meth c T h cells slots) (I : Inv Z EL s vm0 h) (hEL : EW Z a0 EL) {text : String} {index n : Nat} (hmem : (own, index) ∈ EL) (w : (Jvm.Cond.stringLink own index text).before a0 Z = true) (wS : ∀ a ∈ Bundle.stringAtoms, a.before a0 Z = true) {vs : List Value} {z : Int32} (ht : (∀ c ∈ text.toList, c.toNat < 256) ∧ text.toList.map (fun c => Value.int (Jvm.Lit.byteI c.toNat.toUInt16)) = vs) (hz : ¬ z < 0) (hl : z.toNatClampNeg = vs.length)
    (hd : decode bs pc = .ok (.ldc index, 2)) (hp : pc + 2 = pc') (hn : 4 * text.toList.length ≤ n) (hbig : n ≤ 536870912) (hc : cells + 2 ≤ R.cells) (hl' : slots + (n + 4) ≤ R.slots)
    (r : ∀ a T' h' vm1 b k, St Z own bs mL p l e R (s.setVm vm1) m args below meth c T' h' (cells + 2) (slots + (n + 4)) → Inv Z EL s vm1 h' → Ext h h' → CHr Z EL vm0 h vm1 h' → Exa Z h' a "java/lang/String" → Fld Z h' a "java/lang/String" "coder" "B" (.int 0) → Fld Z h' a "java/lang/String" "value" "[B" (.ref b) → Arv Z h' b k .byte z vs (.int 0) → (∀ x, Safe Z EL vm1 h' x → x ≠ a ∧ x ≠ b) → Run p e below P T' (mkF m pc' Ls (.ref a :: S))) : Run p e below P T (mkF m pc Ls S) := by
  subst hp; obtain ⟨locs, X, N, E, eT, hx, hby, hml, hZ, hown⟩ := K
  obtain ⟨⟨k0, i1, i2⟩, i3⟩ := I
  obtain ⟨a, T', h', k1, b, k, X', e', E', s1, s2, s3, s4, A1, A2, A3, A4, -, -, C, -, N', st⟩ := ldcCH X hx (show Z.Warmed39 vm0 from hZ) (show vm0.findClass own = some m.cls from hown) w wS eT i1 i2 hEL hmem i3.1 ht hz hl (g := mkF m pc Ls S) rfl (hb hby hd) hn hbig hc hl'
  obtain ⟨t, st2, q⟩ := r a T' h' T'.vm b k ⟨_, X', N, ext_tr E E', e', hx, hby, hml, s3, s4⟩ ⟨⟨k1, s1, s2⟩, i3.trans C⟩ E' C A1 A2 A3 A4 N'
  exact ⟨t, st _ st2, q⟩
theorem w_ldcO (K : St Z own bs mL p l e R (s.setVm vm0) m args below meth c T h cells slots) (I : Inv Z EL s vm0 h) (hEL : EW Z a0 EL) {text : String} {index n : Nat} (w : (Jvm.Cond.stringLink own index text).before a0 Z = true) (wS : ∀ a ∈ Bundle.stringAtoms, a.before a0 Z = true)
    (hd : decode bs pc = .ok (.ldc index, 2)) (hp : pc + 2 = pc') (hn : 4 * text.toList.length ≤ n) (hbig : n ≤ 536870912) (hc : cells + 2 ≤ R.cells) (hl' : slots + (n + 4) ≤ R.slots)
    (r : ∀ a T' h' vm1, St Z own bs mL p l e R (s.setVm vm1) m args below meth c T' h' (cells + 2) (slots + (n + 4)) → Inv Z EL s vm1 h' → Ext h h' → CHr Z EL vm0 h vm1 h' → Run p e below P T' (mkF m pc' Ls (.ref a :: S))) : Run p e below P T (mkF m pc Ls S) := by
  subst hp; obtain ⟨locs, X, N, E, eT, hx, hby, hml, hZ, hown⟩ := K
  obtain ⟨⟨k0, i1, i2⟩, i3⟩ := I
  obtain ⟨a, T', h', k1, X', e', E', s1, s2, s3, s4, C, -, st⟩ := ldcOH X hx (show Z.Warmed39 vm0 from hZ) (show vm0.findClass own = some m.cls from hown) w wS eT i1 i2 hEL i3.1 (g := mkF m pc Ls S) rfl (hb hby hd) hn hbig hc hl'
  obtain ⟨t, st2, q⟩ := r a T' h' T'.vm ⟨_, X', N, ext_tr E E', e', hx, hby, hml, s3, s4⟩ ⟨⟨k1, s1, s2⟩, i3.trans C⟩ E' C
  exact ⟨t, st _ st2, q⟩
theorem w_static (K : St Z own bs mL p l e R (s.setVm vm0) m args below meth c T h cells slots) (I : Inv Z EL s vm0 h) (hEL : EW Z a0 EL) {index : Nat} {bs' : ByteArray} {mL' : Nat} {argsL rest : List Value} {W : Nat} {ps : List FieldType} {rt : Option FieldType} (M : ConW l y bs' mL' ret [] rm Z EL argsL.toArray h Q)
    (w1 : (Jvm.Cond.methodLink own index y).before a0 Z = true) (w2 : (Jvm.Cond.static y).before a0 Z = true) (w3 : (Jvm.Cond.initialized y.cls).before a0 Z = true) (w4 : (Jvm.Cond.code y bs' mL' ret).before a0 Z = true) (hy : y.cls ≠ "java/lang/invoke/MethodHandle" ∧ y.cls ≠ "java/lang/invoke/VarHandle")
    (pd : parseMethodDescriptor y.desc = some ⟨ps, rt⟩) (hlen : argsL.length = ps.length) (hS : S = argsL.reverse ++ rest) (hsz : Ls.size = mL) (hW : (rest.map fun v => v.category).sum ≤ W) (hf : rm.frames + 1 ≤ R.frames) (hl : W + (mL' + 11) + rm.locals ≤ R.locals) (hc : cells + rm.cells ≤ R.cells) (hs : slots + rm.slots ≤ R.slots)
    (hd : decode bs pc = .ok (.invokestatic index, 3)) (hp : pc + 3 = pc')
    (r : ∀ v T' h' vm1, St Z own bs mL p l e R (s.setVm vm1) m args below meth c T' h' (cells + rm.cells) (slots + rm.slots) → Inv Z EL s vm1 h' → CHr Z EL vm0 h vm1 h' → Q v h' → Run p e below P T' (mkF m pc' Ls (pu v rest))) : Run p e below P T (mkF m pc Ls S) := by
  subst hp hS; obtain ⟨locs, X, N, E, eT, hx, hby, hml, hZ, hown⟩ := K
  obtain ⟨⟨k0, i1, i2⟩, i3⟩ := I
  obtain ⟨v, vm₁, ⟨T', L', k', n'⟩, -, X', hS', hg', ⟨Lc, hQ, l1, y1, z1, C⟩, st⟩ := callSS X hx (y := y) hown (mvT hZ w1) (mvT hZ w2) (mvT hZ w3) (mvT hZ w4) hy (backOfSH (W := W) (as' := argsL.toArray) (h := h) (Q := fun v h L => Q v h ∧ Fr Z.heap.size L ∧ Ext Z.heap h) M (show Z.Warmed39 vm0 from hZ) w4 w3 hf hl hEL i3.1) (g := mkF m pc Ls (argsL.reverse ++ rest)) rfl (by rw [hml]; exact hsz) (argsL := argsL) (rest := rest) (lenOf pd hlen) rfl (by show 2 * 0 + _ ≤ _; omega) (hb hby hd) (fun _ _ => ⟨rfl, eT, hc, hs⟩)
  dsimp only [Pt.U, Pt.locs, Pt.cells, Pt.slots] at X' l1 y1 z1 st hQ C hS' hg'
  subst l1 y1 z1
  obtain ⟨X2, s1, s2, s3⟩ := rebS i1 (n1 := T.heap.size) (by rw [eT]; exact i2) X' hS' hg' hZ hown
  obtain ⟨t, st2, q⟩ := r v T' T'.heap T'.vm ⟨_, X2, N.app hQ.2.1, hQ.2.2, rfl, hx, hby, hml, s2, s3⟩ ⟨⟨_, s1, Nat.le_refl _⟩, i3.trans C⟩ C hQ.1
  refine ⟨t, st.trans ?_, q⟩
  cases v <;> exact st2
theorem w_special (K : St Z own bs mL p l e R (s.setVm vm0) m args below meth c T h cells slots) (I : Inv Z EL s vm0 h) (hEL : EW Z a0 EL) {index : Nat} {bs' : ByteArray} {mL' : Nat} {a : Addr} {argsL rest : List Value} {W : Nat} {ps : List FieldType} {rt : Option FieldType} (M : ConW l y bs' mL' none [] rm Z EL (Value.ref a :: argsL).toArray h Q) (hy1 : y.name = "<init>")
    (w1 : (Jvm.Cond.methodLink own index y).before a0 Z = true) (w2 : (Jvm.Cond.instanceMethod y).before a0 Z = true) (w3 : (Jvm.Cond.initialized y.cls).before a0 Z = true) (w4 : (Jvm.Cond.code y bs' mL' none).before a0 Z = true) (hy : y.cls ≠ "java/lang/invoke/MethodHandle" ∧ y.cls ≠ "java/lang/invoke/VarHandle")
    (pd : parseMethodDescriptor y.desc = some ⟨ps, rt⟩) (hlen : argsL.length = ps.length) (hS : S = argsL.reverse ++ .ref a :: rest) (hsz : Ls.size = mL) (hW : (rest.map fun v => v.category).sum ≤ W) (hf : rm.frames + 1 ≤ R.frames) (hl : W + (mL' + 11) + rm.locals ≤ R.locals) (hc : cells + rm.cells ≤ R.cells) (hs : slots + rm.slots ≤ R.slots)
    (hd : decode bs pc = .ok (.invokespecial index, 3)) (hp : pc + 3 = pc')
    (r : ∀ v T' h' vm1, St Z own bs mL p l e R (s.setVm vm1) m args below meth c T' h' (cells + rm.cells) (slots + rm.slots) → Inv Z EL s vm1 h' → CHr Z EL vm0 h vm1 h' → Q v h' → Run p e below P T' (mkF m pc' Ls (pu v rest))) : Run p e below P T (mkF m pc Ls S) := by
  subst hp hS; obtain ⟨locs, X, N, E, eT, hx, hby, hml, hZ, hown⟩ := K
  obtain ⟨⟨k0, i1, i2⟩, i3⟩ := I
  obtain ⟨v, vm₁, ⟨T', L', k', n'⟩, -, X', hS', hg', ⟨Lc, hQ, l1, y1, z1, C⟩, st⟩ := X.specialBackS hx (y := y) hy1 hown (mvT hZ w1) (mvT hZ w2) (mvT hZ w4) hy (backOfSH (W := W) (as' := (Value.ref a :: argsL).toArray) (h := h) (Q := fun v h L => Q v h ∧ Fr Z.heap.size L ∧ Ext Z.heap h) M (show Z.Warmed39 vm0 from hZ) w4 w3 hf hl hEL i3.1) (g := mkF m pc Ls (argsL.reverse ++ .ref a :: rest)) rfl (by rw [hml]; exact hsz) (Steps.refl _) (a := a) (argsL := argsL) (rest := rest) (lenOf pd hlen) rfl (by show 2 * 0 + _ ≤ _; omega) (hb hby hd) (fun _ _ => ⟨rfl, eT, hc, hs⟩)
  dsimp only [Pt.U, Pt.locs, Pt.cells, Pt.slots] at X' l1 y1 z1 st hQ C hS' hg'
  subst l1 y1 z1
  obtain ⟨X2, s1, s2, s3⟩ := rebS i1 (n1 := T.heap.size) (by rw [eT]; exact i2) X' hS' hg' hZ hown
  obtain ⟨t, st2, q⟩ := r v T' T'.heap T'.vm ⟨_, X2, N.app hQ.2.1, hQ.2.2, rfl, hx, hby, hml, s2, s3⟩ ⟨⟨_, s1, Nat.le_refl _⟩, i3.trans C⟩ C hQ.1
  refine ⟨t, st.trans ?_, q⟩
  cases v <;> exact st2
end KitW
section Kit3
variable {Z : State} {a0 : Array Value} {own : String} {bs : ByteArray} {mL : Nat} {p : Program} {l : Launch} {e : Env} {R : Room} {s : State} {m : MethodId} {args : Array Value} {below : List Frame} {meth : Method} {c : Code} {T : State} {h : Heap} {cells slots : Nat} {P : State → Prop} {pc pc' : Nat} {Ls : Array Slot} {S : List Value} {y : MethodName} {ret : Option FieldType} {rm : Room} {ws : List Jvm.Cond} {as : Array Value} {h0 : Heap} {Q : Option Value → Heap → Prop} {kc kn : Nat}
theorem r_i2s (K : St Z own bs mL p l e R s m args below meth c T h cells slots) {x : Int32} (hd : decode bs pc = .ok (.i2s, 1)) (hp : pc + 1 = pc')  (r : Run p e below P T (mkF m pc' Ls (.int (x.toInt16.toInt32) :: S))) : Run p e below P T (mkF m pc Ls (.int x :: S)) := by
  subst hp; obtain ⟨t, st, q⟩ := r; exact ⟨t, Jvm.Free.XT.i2s K.here K.hx rfl (hb K.bts hd) rfl st, q⟩
theorem pop2L {tb : Tables} [Ours tb] {e : Env} {below : List Frame} {T target : State} {m : MethodId} {c : Code} {g : JFrame} (h : At T m c below) (hx : tb.exec = Jvm.exec) (hg : g.method = m) {x : Int64} {rest : List Value} (hd : decode c.code g.pc = .ok (.pop2, 1)) (hs : g.stack = .long x :: rest)
    (hr : Steps tb e below (T.setTop { g with pc := g.pc + 1, stack := rest }) target) : Steps tb e below (T.setTop g) target := by
  subst hg
  jvm_step h [h.top, hx, hd, hs, Value.category]
  exact hr
theorem r_pop2 (K : St Z own bs mL p l e R s m args below meth c T h cells slots) {x : Int64} (hd : decode bs pc = .ok (.pop2, 1)) (hp : pc + 1 = pc') (r : Run p e below P T (mkF m pc' Ls S)) : Run p e below P T (mkF m pc Ls (.long x :: S)) := by
  subst hp; obtain ⟨t, st, q⟩ := r; exact ⟨t, pop2L K.here K.hx rfl (hb K.bts hd) rfl st, q⟩
theorem r_ldc2J (K : St Z own bs mL p l e R s m args below meth c T h cells slots) {index : Nat} {v : Int64} (w : (Jvm.Cond.constantLong own index v).before a0 Z = true) (hd : decode bs pc = .ok (.ldc2_w index, 3)) (hp : pc + 3 = pc') (r : Run p e below P T (mkF m pc' Ls (.long v :: S))) : Run p e below P T (mkF m pc Ls S) := by
  subst hp; obtain ⟨locs, X, N, E, eT, hx, hby, hml, hZ, hown⟩ := K
  obtain ⟨t, st2, q⟩ := r
  exact ⟨t, X.ldc2J hx hown (mvT hZ w) (g := mkF m pc Ls S) rfl (hb hby hd) st2, q⟩
theorem r_tswIn (K : St Z own bs mL p l e R s m args below meth c T h cells slots) {dflt low high : Int} {offs : Array Int} {len : Nat} {o : Int} {i : Int32} (hd : decode bs pc = .ok (.tableswitch dflt low high offs, len)) (hin : ¬ (i.toInt < low ∨ i.toInt > high)) (hoff : offs[(i.toInt - low).toNat]? = some o) (ho : 0 ≤ (pc : Int) + o) (hp : ((pc : Int) + o).toNat = pc') (r : Run p e below P T (mkF m pc' Ls S)) : Run p e below P T (mkF m pc Ls (.int i :: S)) := by
  obtain ⟨t, st, q⟩ := r; exact ⟨t, Jvm.Free.XS.tswIn K.here K.hx rfl (pc0 := pc) (pc' := pc') rfl (hb K.bts hd) rfl hin hoff ho hp st, q⟩
theorem r_virtualUp (K : St Z own bs mL p l e R s m args below meth c T h cells slots) {index : Nat} {C owner : String} {x : MethodName} {bs' : ByteArray} {mL' : Nat} {a : Addr} {argsL rest : List Value} {W : Nat} {ps : List FieldType} {rt : Option FieldType} (M : Con l y bs' mL' ret [] rm Z (Value.ref a :: argsL).toArray h Q) (E0 : Exa Z h a C)
    (w1 : (Jvm.Cond.methodLink own index x).before a0 Z = true) (wsm : (Jvm.Cond.sameMethod x.cls owner x.name x.desc).before a0 Z = true) (wd : (Jvm.Cond.declares ⟨owner, x.name, x.desc⟩).before a0 Z = true) (wse : (Jvm.Cond.selects C x y).before a0 Z = true) (w2 : (Jvm.Cond.instanceMethod y).before a0 Z = true) (w3 : (Jvm.Cond.initialized y.cls).before a0 Z = true) (w4 : (Jvm.Cond.code y bs' mL' ret).before a0 Z = true) (hy : owner ≠ "java/lang/invoke/MethodHandle" ∧ owner ≠ "java/lang/invoke/VarHandle")
    (pd : parseMethodDescriptor x.desc = some ⟨ps, rt⟩) (hlen : argsL.length = ps.length) (hS : S = argsL.reverse ++ .ref a :: rest) (hsz : Ls.size = mL) (hW : (rest.map fun v => v.category).sum ≤ W) (hf : rm.frames + 1 ≤ R.frames) (hl : W + (mL' + 11) + rm.locals ≤ R.locals) (hc : cells + rm.cells ≤ R.cells) (hs : slots + rm.slots ≤ R.slots)
    (hd : decode bs pc = .ok (.invokevirtual index, 3)) (hp : pc + 3 = pc')
    (r : ∀ v T' h', St Z own bs mL p l e R s m args below meth c T' h' (cells + rm.cells) (slots + rm.slots) → Q v h' → Run p e below P T' (mkF m pc' Ls (pu v rest))) : Run p e below P T (mkF m pc Ls S) := by
  subst hp hS; obtain ⟨locs, X, N, E, eT, hx, hby, hml, hZ, hown⟩ := K
  obtain ⟨cq, kq, qa, qb, qc⟩ := isOf (s := s) (T := T) hZ eT E0
  obtain ⟨v, vm₁, ⟨T', L', k', n'⟩, -, X', ⟨Lc, hQ, l1, y1, z1⟩, st⟩ := X.virtualBackUp hx (x := x) (y := y) hown (mvT hZ w1) (mvT hZ wsm) (mvT hZ wd) hy (mvT hZ wse) (mvT hZ w2) (backOf (W := W) (as' := (Value.ref a :: argsL).toArray) (h := h) (Q := fun v h L => Q v h ∧ Fr Z.heap.size L ∧ Ext Z.heap h) M hZ w4 w3 hf hl) qa qc (g := mkF m pc Ls (argsL.reverse ++ .ref a :: rest)) rfl (by rw [hml]; exact hsz) (Steps.refl _) (argsL := argsL) (rest := rest) (lenOf pd hlen) rfl (by show 2 * 0 + _ ≤ _; omega) (hb hby hd) (fun _ _ => ⟨rfl, eT, hc, hs⟩)
  dsimp only [Pt.U, Pt.locs, Pt.cells, Pt.slots] at X' l1 y1 z1 st hQ
  subst l1 y1 z1
  obtain ⟨t, st2, q⟩ := r v T' T'.heap ⟨_, X', N.app hQ.2.1, hQ.2.2, rfl, hx, hby, hml, hZ, hown⟩ hQ.1
  refine ⟨t, st.trans ?_, q⟩
  cases v <;> exact st2
theorem ext_keep {h h1 h2 : Heap} {ws : List Addr} (E : Ext h h1) (Kp : Keep h1 h2 ws) (hw : ∀ x ∈ ws, h.size ≤ x) : Ext h h2 := by
  have K := ((Keep.refl h []).ext E).trans Kp (fun x hx => Or.inr (hw x hx))
  exact ⟨K.1, fun a c q => K.2.1 a c q nin0⟩
end Kit3
theorem i_add {x y : Int32} {a b : Int} (hx : x.toInt = a) (hy : y.toInt = b) (h : -2147483648 ≤ a + b ∧ a + b < 2147483648) : (x + y).toInt = a + b := by
  subst hx hy; have q := c_iadd x y; have r := rng32 (x + y)
  generalize (x + y).toInt = u at *; generalize x.toInt + y.toInt = w at *; omega
theorem i_sub {x y : Int32} {a b : Int} (hx : x.toInt = a) (hy : y.toInt = b) (h : -2147483648 ≤ a - b ∧ a - b < 2147483648) : (x - y).toInt = a - b := by
  subst hx hy; have q := c_isub x y; have r := rng32 (x - y)
  generalize (x - y).toInt = u at *; generalize x.toInt - y.toInt = w at *; omega
theorem i_mul {x y : Int32} {a b : Int} (hx : x.toInt = a) (hy : y.toInt = b) (h : -2147483648 ≤ a * b ∧ a * b < 2147483648) : (x * y).toInt = a * b := by
  subst hx hy; have q := c_imul x y; have r := rng32 (x * y)
  generalize (x * y).toInt = u at *; generalize x.toInt * y.toInt = w at *; omega
theorem i_div {x y : Int32} {a d : Int} (hx : x.toInt = a) (hy : y.toInt = d) (hd : 0 < d) (h : 0 ≤ a) : (x / y).toInt = a / d := by
  subst hx; exact (c_idiv x y d hy (fun q => by rw [q] at hy; have : (-1 : Int32).toInt = -1 := rfl; omega)).1 h
theorem i_rem {x y : Int32} {a d : Int} (hx : x.toInt = a) (hy : y.toInt = d) (h : 0 ≤ a) : (x % y).toInt = a % d := by
  subst hx; exact (c_irem x y d hy).1 h
theorem l_add {x y : Int64} {a b : Int} (hx : x.toInt = a) (hy : y.toInt = b) (h : -9223372036854775808 ≤ a + b ∧ a + b < 9223372036854775808) : (x + y).toInt = a + b := by
  subst hx hy; have q := c_ladd x y; have r := rng64 (x + y)
  generalize (x + y).toInt = u at *; generalize x.toInt + y.toInt = w at *; omega
theorem l_sub {x y : Int64} {a b : Int} (hx : x.toInt = a) (hy : y.toInt = b) (h : -9223372036854775808 ≤ a - b ∧ a - b < 9223372036854775808) : (x - y).toInt = a - b := by
  subst hx hy; have q := c_lsub x y; have r := rng64 (x - y)
  generalize (x - y).toInt = u at *; generalize x.toInt - y.toInt = w at *; omega
theorem l_mul {x y : Int64} {a b : Int} (hx : x.toInt = a) (hy : y.toInt = b) (h : -9223372036854775808 ≤ a * b ∧ a * b < 9223372036854775808) : (x * y).toInt = a * b := by
  subst hx hy; have q := c_lmul x y; have r := rng64 (x * y)
  generalize (x * y).toInt = u at *; generalize x.toInt * y.toInt = w at *; omega
theorem l_div {x y : Int64} {a d : Int} (hx : x.toInt = a) (hy : y.toInt = d) (hd : 0 < d) (h : 0 ≤ a) : (x / y).toInt = a / d := by
  subst hx; exact (c_ldiv x y d hy (fun q => by rw [q] at hy; have : (-1 : Int64).toInt = -1 := rfl; omega)).1 h
theorem l_rem {x y : Int64} {a d : Int} (hx : x.toInt = a) (hy : y.toInt = d) (h : 0 ≤ a) : (x - (x / y) * y).toInt = a % d := by
  subst hx; exact (c_lrem x y d hy).1 h
theorem l_remS {x y : Int64} {a d : Int} (hx : x.toInt = a) (hy : y.toInt = d) : (0 ≤ a → (x - (x / y) * y).toInt = a % d) ∧ (a < 0 → (x - (x / y) * y).toInt = -((-a) % d)) := by subst hx; exact c_lrem x y d hy
theorem i_l {x : Int32} {a : Int} (hx : x.toInt = a) : x.toInt64.toInt = a := (c_i2l x).trans hx
theorem l_i {x : Int64} {a : Int} (hx : x.toInt = a) (h : -2147483648 ≤ a ∧ a < 2147483648) : x.toInt32.toInt = a := by
  have q := c_l2i x; have r := rng32 x.toInt32; omega
theorem lq_eq {x y : Int64} {b : Int} (hy : y.toInt = b) (h : lcmpW x y = 0) : x.toInt = b := by rw [lw_eq] at h; rw [h, hy]
theorem lq_ne {x y : Int64} {b : Int} (hy : y.toInt = b) (h : ¬ lcmpW x y = 0) : ¬ x.toInt = b := by rw [lw_eq] at h; subst hy; exact fun q => h (Int64.toInt_inj.mp q)
theorem lq_lt {x y : Int64} {b : Int} (hy : y.toInt = b) (h : lcmpW x y < 0) : x.toInt < b := by rw [lw_lt, Int64.lt_iff_toInt_lt] at h; omega
theorem lq_ge {x y : Int64} {b : Int} (hy : y.toInt = b) (h : ¬ lcmpW x y < 0) : ¬ x.toInt < b := by rw [lw_lt, Int64.lt_iff_toInt_lt] at h; omega
theorem lq_gt {x y : Int64} {b : Int} (hy : y.toInt = b) (h : 0 < lcmpW x y) : b < x.toInt := by rw [lw_gt, Int64.lt_iff_toInt_lt] at h; omega
theorem lq_le {x y : Int64} {b : Int} (hy : y.toInt = b) (h : ¬ 0 < lcmpW x y) : ¬ b < x.toInt := by rw [lw_gt, Int64.lt_iff_toInt_lt] at h; omega
theorem z_0 : (0 : Int64).toInt = 0 := rfl
theorem z_28 : (28 : Int64).toInt = 28 := rfl
theorem z_59 : (59 : Int64).toInt = 59 := rfl
theorem own_s {x : Int32} (h1 : -1000 ≤ x.toInt) (h2 : x.toInt ≤ 1000) : x.toInt16.toInt32 = x := by
  apply Int32.toInt_inj.mp
  have q := c_i2s x
  omega
theorem own_sfit {x : Int32} (h1 : -1000 ≤ x.toInt) (h2 : x.toInt ≤ 1000) : fits .short (.int x) = true := by
  have a : (-32768 : Int32) ≤ x := by rw [Int32.le_iff_toInt_le]; have : (-32768 : Int32).toInt = -32768 := rfl; omega
  have b : x ≤ (32767 : Int32) := by rw [Int32.le_iff_toInt_le]; have : (32767 : Int32).toInt = 32767 := rfl; omega
  simp [fits, a, b]
theorem pl_x (c : Int) (h : 0 ≤ c) : c - c / 4 = 3 * (c + 1) / 4 := by omega
theorem pl_z (c : Int) (h : 0 ≤ c) : (c - (c + 8) / 25 + 1) / 3 = (8 * (c + 1) + 5) / 25 := by
  generalize hu : (c + 8) / 25 = u
  have : ∃ r : Int, c = 25 * u - 8 + r ∧ 0 ≤ r ∧ r < 25 := ⟨c + 8 - 25 * u, by omega, by omega, by omega⟩
  obtain ⟨r, rfl, h1, h2⟩ := this
  have : r = 0 ∨ r = 1 ∨ r = 2 ∨ r = 3 ∨ r = 4 ∨ r = 5 ∨ r = 6 ∨ r = 7 ∨ r = 8 ∨ r = 9 ∨ r = 10 ∨ r = 11 ∨ r = 12 ∨ r = 13 ∨ r = 14 ∨ r = 15 ∨ r = 16 ∨ r = 17 ∨ r = 18 ∨ r = 19 ∨ r = 20 ∨ r = 21 ∨ r = 22 ∨ r = 23 ∨ r = 24 := by omega
  rcases this with rfl | rfl | rfl | rfl | rfl | rfl | rfl | rfl | rfl | rfl | rfl | rfl | rfl | rfl | rfl | rfl | rfl | rfl | rfl | rfl | rfl | rfl | rfl | rfl | rfl <;> omega
/-- the program's day -/
def Dof (Y D : Int) : Prop := ∃ g c o ep wo co : Int, g = Y % 19 ∧ c = Y / 100 ∧ o = Y % 100 ∧ ep = (19 * g + c - c / 4 - (c - (c + 8) / 25 + 1) / 3 + 15) % 30 ∧ wo = (32 + 2 * (c % 4) + 2 * (o / 4) - ep - o % 4) % 7 ∧ co = (g + 11 * ep + 22 * wo) / 451 ∧ D = ep + wo - 7 * co
theorem pl_epE (g c X Z E ep : Int) (hX : X = 3 * (c + 1) / 4 - 12) (hZ : Z = (8 * (c + 1) + 5) / 25 - 5) (hc : 0 ≤ c) (hE : E = (11 * (g + 1) + 20 + Z - X) % 30) (he : ep = (19 * g + c - c / 4 - (c - (c + 8) / 25 + 1) / 3 + 15) % 30) : (E + ep) % 30 = 23 := by
  rw [pl_z c hc] at he
  have h1 := pl_x c hc
  generalize (8 * (c + 1) + 5) / 25 = z at *
  generalize 3 * (c + 1) / 4 = x at *
  generalize c / 4 = q at *
  omega
theorem pl_wo (Y c o d ep wo : Int) (hY : 0 ≤ Y) (hc : c = Y / 100) (ho : o = Y % 100) (hd : d = 5 * Y / 4 - (3 * (c + 1) / 4 - 12) - 10) (hw : wo = (32 + 2 * (c % 4) + 2 * (o / 4) - ep - o % 4) % 7) : (d + 22 + ep + wo) % 7 = 0 := by
  rw [← pl_x c (by omega)] at hd
  have e1 : 5 * Y / 4 = 125 * c + o + o / 4 := by omega
  rw [e1] at hd
  generalize hq : c / 4 = q at *
  generalize hr : c % 4 = r at *
  generalize ha : o / 4 = a at *
  generalize hb : o % 4 = b at *
  have e2 : c = 4 * q + r := by omega
  have e3 : o = 4 * a + b := by omega
  subst e2 e3
  clear hq hr ha hb hc ho e1
  subst hd
  omega
theorem pl_law (Y D : Int) (h0 : 1583 ≤ Y) (h : Dof Y D) (G C X Z d E E2 N N2 N3 : Int) (hG : G = Y % 19 + 1) (hC : C = Y / 100 + 1) (hX : X = 3 * C / 4 - 12) (hZ : Z = (8 * C + 5) / 25 - 5) (hd : d = 5 * Y / 4 - X - 10) (hE : E = (11 * G + 20 + Z - X) % 30)
    (hE2 : ((E = 25 ∧ 11 < G ∨ E = 24) ∧ E2 = E + 1) ∨ (¬ (E = 25 ∧ 11 < G ∨ E = 24) ∧ E2 = E)) (hN : N = 44 - E2) (hN2 : (N < 21 ∧ N2 = N + 30) ∨ (¬ N < 21 ∧ N2 = N)) (hN3 : N3 = N2 + 7 - (d + N2) % 7) : N3 = 22 + D := by
  obtain ⟨g, c, o, ep, wo, co, hg, hc, ho, hep, hwo, hco, hD⟩ := h
  have k1 : (E + ep) % 30 = 23 := pl_epE g c X Z E ep (by omega) (by rw [hZ, hC, ← hc]) (by omega) (by rw [hE, hG, hg]) hep
  have k2 : (d + 22 + ep + wo) % 7 = 0 := pl_wo Y c o d ep wo (by omega) hc ho (by rw [hd, hX, hC, ← hc]) hwo
  have b1 : 0 ≤ ep ∧ ep < 30 := by omega
  have b2 : 0 ≤ wo ∧ wo < 7 := by omega
  have b3 : 0 ≤ E ∧ E < 30 := by omega
  have b4 : 0 ≤ g ∧ g < 19 ∧ G = g + 1 := by omega
  clear hep hwo hE hd hX hZ hC hc ho hg hG
  have b5 : (co = 0 ∧ g + 11 * ep + 22 * wo < 451) ∨ (co = 1 ∧ 451 ≤ g + 11 * ep + 22 * wo) := by omega
  have b6 : E = 23 - ep ∨ E = 53 - ep := by omega
  omega
theorem Dof.rng {Y D : Int} (h0 : 1583 ≤ Y) (h : Dof Y D) : 0 ≤ D ∧ D ≤ 35 := by
  obtain ⟨g, c, o, ep, wo, co, hg, hc, ho, hep, hwo, hco, hD⟩ := h
  have b1 : 0 ≤ ep ∧ ep < 30 := by omega
  have b2 : 0 ≤ wo ∧ wo < 7 := by omega
  have b4 : 0 ≤ g ∧ g < 19 := by omega
  clear hep hwo hc ho hg
  omega
theorem pnLaw : plainName "com/example/indentary/indentary/conventions/GoodFridayEasterSundayPinLaw" = true := by first | (simp [plainName, overriddenIn]; done) | decide +kernel
theorem pnGF : plainName "com/example/indentary/indentary/conventions/Holiday$GoodFriday" = true := by first | (simp [plainName, overriddenIn]; done) | decide +kernel
theorem pnLD : plainName "java/time/LocalDate" = true := by first | (simp [plainName, overriddenIn]; done) | decide +kernel
theorem pnMO : plainName "java/time/Month" = true := by first | (simp [plainName, overriddenIn]; done) | decide +kernel
theorem pnCF : plainName "java/time/temporal/ChronoField" = true := by first | (simp [plainName, overriddenIn]; done) | decide +kernel
theorem pnVR : plainName "java/time/temporal/ValueRange" = true := by first | (simp [plainName, overriddenIn]; done) | decide +kernel
theorem pnEN : plainName "java/lang/Enum" = true := by first | (simp [plainName, overriddenIn]; done) | decide +kernel
theorem pnOB : plainName "java/util/Objects" = true := by first | (simp [plainName, overriddenIn]; done) | decide +kernel
theorem pdJ : parseMethodDescriptor "()J" = some ⟨[], some .long⟩ := by decide +kernel
theorem pdI : parseMethodDescriptor "()I" = some ⟨[], some .int⟩ := by decide +kernel
theorem pdJZ : parseMethodDescriptor "(J)Z" = some ⟨[.long], some .boolean⟩ := by decide +kernel
theorem pdJJ : parseMethodDescriptor "(J)J" = some ⟨[.long], some .long⟩ := by decide +kernel
theorem pdVV : parseMethodDescriptor "(JLjava/time/temporal/TemporalField;)J" = some ⟨[.long, (.object "java/time/temporal/TemporalField")], some .long⟩ := by decide +kernel
theorem pdR : parseMethodDescriptor "()Ljava/time/temporal/ValueRange;" = some ⟨[], some (.object "java/time/temporal/ValueRange")⟩ := by decide +kernel
theorem pdNN : parseMethodDescriptor "(Ljava/lang/Object;Ljava/lang/String;)Ljava/lang/Object;" = some ⟨[(.object "java/lang/Object"), (.object "java/lang/String")], some (.object "java/lang/Object")⟩ := by decide +kernel
theorem pd3V : parseMethodDescriptor "(III)V" = some ⟨[.int, .int, .int], none⟩ := by decide +kernel
theorem pd3 : parseMethodDescriptor "(III)Ljava/time/LocalDate;" = some ⟨[.int, .int, .int], some (.object "java/time/LocalDate")⟩ := by decide +kernel
theorem pdOf : parseMethodDescriptor "(ILjava/time/Month;I)Ljava/time/LocalDate;" = some ⟨[.int, (.object "java/time/Month"), .int], some (.object "java/time/LocalDate")⟩ := by decide +kernel
theorem pdPl : parseMethodDescriptor "(J)Ljava/time/LocalDate;" = some ⟨[.long], some (.object "java/time/LocalDate")⟩ := by decide +kernel
theorem pdEs : parseMethodDescriptor "(I)Ljava/time/LocalDate;" = some ⟨[.int], some (.object "java/time/LocalDate")⟩ := by decide +kernel
/-- a ValueRange from lo to hi -/
def VRo (Z : State) (h : Heap) (r : Addr) (lo hi : Int64) : Prop := Exa Z h r "java/time/temporal/ValueRange" ∧ Fld Z h r "java/time/temporal/ValueRange" "minSmallest" "J" (.long lo) ∧ Fld Z h r "java/time/temporal/ValueRange" "maxLargest" "J" (.long hi)
/-- a ChronoField whose range goes from lo to hi -/
def CFo (Z : State) (h : Heap) (f : Addr) (lo hi : Int64) : Prop := Exa Z h f "java/time/temporal/ChronoField" ∧ ∃ r, Fld Z h f "java/time/temporal/ChronoField" "range" "Ljava/time/temporal/ValueRange;" (.ref r) ∧ VRo Z h r lo hi
/-- a LocalDate -/
def LDo (Z : State) (h : Heap) (o : Addr) (y mo dd : Int32) : Prop := Exa Z h o "java/time/LocalDate" ∧ Fld Z h o "java/time/LocalDate" "year" "I" (.int y) ∧ Fld Z h o "java/time/LocalDate" "month" "S" (.int mo) ∧ Fld Z h o "java/time/LocalDate" "day" "S" (.int dd)
section Ob
variable {Z : State} {h h' : Heap} {r f o : Addr} {lo hi : Int64} {y mo dd : Int32}
theorem VRo.ext (F : VRo Z h r lo hi) (E : Ext h h') : VRo Z h' r lo hi := ⟨F.1.ext E, F.2.1.ext E, F.2.2.ext E⟩
theorem CFo.ext (F : CFo Z h f lo hi) (E : Ext h h') : CFo Z h' f lo hi := by
  obtain ⟨a, r, b, c⟩ := F; exact ⟨a.ext E, r, b.ext E, c.ext E⟩
theorem LDo.ext (F : LDo Z h o y mo dd) (E : Ext h h') : LDo Z h' o y mo dd := ⟨F.1.ext E, F.2.1.ext E, F.2.2.1.ext E, F.2.2.2.ext E⟩
end Ob
theorem dgm_0 : decode jdk_2423_method_6_code 0 = .ok (.aload_n 0, 1) := by decide +kernel
theorem dgm_1 : decode jdk_2423_method_6_code 1 = .ok (.getfield 33, 3) := by decide +kernel
theorem dgm_4 : decode jdk_2423_method_6_code 4 = .ok (.lreturn, 1) := by decide +kernel
set_option maxRecDepth 65536 in
set_option maxHeartbeats 4000000 in
theorem c_gmin (l : Launch) {Z : State} {a0 : Array Value} (hw : ∀ d ∈ tables_1, d.before a0 Z = true) {h : Heap} (hE : Ext Z.heap h) {a : Addr} {lo hi : Int64} (F : VRo Z h a lo hi) :
    Con l (⟨"java/time/temporal/ValueRange", "getMinimum", "()J"⟩ : MethodName) jdk_2423_method_6_code 1 (some .long) [] ({ frames := 0, cells := 0, slots := 0, locals := 0 } : Room) Z #[.ref a] h (fun v h' => v = some (.long lo) ∧ h' = h) := by
  refine con_intro (by first | exact plainFor_of_name pnVR | decide +kernel) hE ?_
  intro p e s m below meth c T K hret hlk hnm
  have ef : entryFrame m #[.ref a] 1 = (mkF m 0 #[.val (.ref a)] []) := by first | (simp [entryFrame, mkF, argsToLocals, Value.category]; done) | rfl
  rw [ef]
  refine r_aloadN (pc' := 1) K dgm_0 rfl rfl rfl ?_
  refine r_getF (pc' := 4) K (hw _ (List.mem_of_getElem? (i := 42) rfl)) F.2.1 dgm_1 rfl ?_
  intro T1 K1
  exact r_retJ K1 hret hlk dgm_4 (by decide) (by decide) ⟨rfl, rfl⟩
theorem dgx_0 : decode jdk_2423_method_9_code 0 = .ok (.aload_n 0, 1) := by decide +kernel
theorem dgx_1 : decode jdk_2423_method_9_code 1 = .ok (.getfield 43, 3) := by decide +kernel
theorem dgx_4 : decode jdk_2423_method_9_code 4 = .ok (.lreturn, 1) := by decide +kernel
set_option maxRecDepth 65536 in
set_option maxHeartbeats 4000000 in
theorem c_gmax (l : Launch) {Z : State} {a0 : Array Value} (hw : ∀ d ∈ tables_1, d.before a0 Z = true) {h : Heap} (hE : Ext Z.heap h) {a : Addr} {lo hi : Int64} (F : VRo Z h a lo hi) :
    Con l (⟨"java/time/temporal/ValueRange", "getMaximum", "()J"⟩ : MethodName) jdk_2423_method_9_code 1 (some .long) [] ({ frames := 0, cells := 0, slots := 0, locals := 0 } : Room) Z #[.ref a] h (fun v h' => v = some (.long hi) ∧ h' = h) := by
  refine con_intro (by first | exact plainFor_of_name pnVR | decide +kernel) hE ?_
  intro p e s m below meth c T K hret hlk hnm
  have ef : entryFrame m #[.ref a] 1 = (mkF m 0 #[.val (.ref a)] []) := by first | (simp [entryFrame, mkF, argsToLocals, Value.category]; done) | rfl
  rw [ef]
  refine r_aloadN (pc' := 1) K dgx_0 rfl rfl rfl ?_
  refine r_getF (pc' := 4) K (hw _ (List.mem_of_getElem? (i := 49) rfl)) F.2.2 dgx_1 rfl ?_
  intro T1 K1
  exact r_retJ K1 hret hlk dgx_4 (by decide) (by decide) ⟨rfl, rfl⟩
theorem drg_0 : decode jdk_2395_method_8_code 0 = .ok (.aload_n 0, 1) := by decide +kernel
theorem drg_1 : decode jdk_2395_method_8_code 1 = .ok (.getfield 124, 3) := by decide +kernel
theorem drg_4 : decode jdk_2395_method_8_code 4 = .ok (.areturn, 1) := by decide +kernel
set_option maxRecDepth 65536 in
set_option maxHeartbeats 4000000 in
theorem c_range (l : Launch) {Z : State} {a0 : Array Value} (hw : ∀ d ∈ tables_1, d.before a0 Z = true) {h : Heap} (hE : Ext Z.heap h) {a : Addr} {r : Addr} (F : Fld Z h a "java/time/temporal/ChronoField" "range" "Ljava/time/temporal/ValueRange;" (.ref r)) :
    Con l (⟨"java/time/temporal/ChronoField", "range", "()Ljava/time/temporal/ValueRange;"⟩ : MethodName) jdk_2395_method_8_code 1 (some (.object "java/time/temporal/ValueRange")) [] ({ frames := 0, cells := 0, slots := 0, locals := 0 } : Room) Z #[.ref a] h (fun v h' => v = some (.ref r) ∧ h' = h) := by
  refine con_intro (by first | exact plainFor_of_name pnCF | decide +kernel) hE ?_
  intro p e s m below meth c T K hret hlk hnm
  have ef : entryFrame m #[.ref a] 1 = (mkF m 0 #[.val (.ref a)] []) := by first | (simp [entryFrame, mkF, argsToLocals, Value.category]; done) | rfl
  rw [ef]
  refine r_aloadN (pc' := 1) K drg_0 rfl rfl rfl ?_
  refine r_getF (pc' := 4) K (hw _ (List.mem_of_getElem? (i := 24) rfl)) F drg_1 rfl ?_
  intro T1 K1
  exact r_retA K1 hret hlk rfl rfl drg_4 (by decide) (by decide) ⟨rfl, rfl⟩
theorem dor_0 : decode jdk_37_method_2_code 0 = .ok (.aload_n 0, 1) := by decide +kernel
theorem dor_1 : decode jdk_37_method_2_code 1 = .ok (.getfield 7, 3) := by decide +kernel
theorem dor_4 : decode jdk_37_method_2_code 4 = .ok (.ireturn, 1) := by decide +kernel
set_option maxRecDepth 65536 in
set_option maxHeartbeats 4000000 in
theorem c_ord (l : Launch) {Z : State} {a0 : Array Value} (hw : ∀ d ∈ tables_1, d.before a0 Z = true) {h : Heap} (hE : Ext Z.heap h) {a : Addr} {x : Int32} (F : Fld Z h a "java/lang/Enum" "ordinal" "I" (.int x)) :
    Con l (⟨"java/lang/Enum", "ordinal", "()I"⟩ : MethodName) jdk_37_method_2_code 1 (some .int) [] ({ frames := 0, cells := 0, slots := 0, locals := 0 } : Room) Z #[.ref a] h (fun v h' => v = some (.int x) ∧ h' = h) := by
  refine con_intro (by first | exact plainFor_of_name pnEN | decide +kernel) hE ?_
  intro p e s m below meth c T K hret hlk hnm
  have ef : entryFrame m #[.ref a] 1 = (mkF m 0 #[.val (.ref a)] []) := by first | (simp [entryFrame, mkF, argsToLocals, Value.category]; done) | rfl
  rw [ef]
  refine r_aloadN (pc' := 1) K dor_0 rfl rfl rfl ?_
  refine r_getF (pc' := 4) K (hw _ (List.mem_of_getElem? (i := 76) rfl)) F dor_1 rfl ?_
  intro T1 K1
  exact r_retI K1 hret hlk dor_4 (by decide) (by decide) ⟨rfl, rfl⟩
theorem dgy_0 : decode jdk_2323_method_24_code 0 = .ok (.aload_n 0, 1) := by decide +kernel
theorem dgy_1 : decode jdk_2323_method_24_code 1 = .ok (.getfield 246, 3) := by decide +kernel
theorem dgy_4 : decode jdk_2323_method_24_code 4 = .ok (.ireturn, 1) := by decide +kernel
set_option maxRecDepth 65536 in
set_option maxHeartbeats 4000000 in
theorem c_gy (l : Launch) {Z : State} {a0 : Array Value} (hw : ∀ d ∈ tables_1, d.before a0 Z = true) {h : Heap} (hE : Ext Z.heap h) {a : Addr} {y mo dd : Int32} (F : LDo Z h a y mo dd) :
    Con l (⟨"java/time/LocalDate", "getYear", "()I"⟩ : MethodName) jdk_2323_method_24_code 1 (some .int) [] ({ frames := 0, cells := 0, slots := 0, locals := 0 } : Room) Z #[.ref a] h (fun v h' => v = some (.int y) ∧ h' = h) := by
  refine con_intro (by first | exact plainFor_of_name pnLD | decide +kernel) hE ?_
  intro p e s m below meth c T K hret hlk hnm
  have ef : entryFrame m #[.ref a] 1 = (mkF m 0 #[.val (.ref a)] []) := by first | (simp [entryFrame, mkF, argsToLocals, Value.category]; done) | rfl
  rw [ef]
  refine r_aloadN (pc' := 1) K dgy_0 rfl rfl rfl ?_
  refine r_getF (pc' := 4) K (hw _ (List.mem_of_getElem? (i := 90) rfl)) F.2.1 dgy_1 rfl ?_
  intro T1 K1
  exact r_retI K1 hret hlk dgy_4 (by decide) (by decide) ⟨rfl, rfl⟩
theorem dgmo_0 : decode jdk_2323_method_25_code 0 = .ok (.aload_n 0, 1) := by decide +kernel
theorem dgmo_1 : decode jdk_2323_method_25_code 1 = .ok (.getfield 250, 3) := by decide +kernel
theorem dgmo_4 : decode jdk_2323_method_25_code 4 = .ok (.ireturn, 1) := by decide +kernel
set_option maxRecDepth 65536 in
set_option maxHeartbeats 4000000 in
theorem c_gm (l : Launch) {Z : State} {a0 : Array Value} (hw : ∀ d ∈ tables_1, d.before a0 Z = true) {h : Heap} (hE : Ext Z.heap h) {a : Addr} {y mo dd : Int32} (F : LDo Z h a y mo dd) :
    Con l (⟨"java/time/LocalDate", "getMonthValue", "()I"⟩ : MethodName) jdk_2323_method_25_code 1 (some .int) [] ({ frames := 0, cells := 0, slots := 0, locals := 0 } : Room) Z #[.ref a] h (fun v h' => v = some (.int mo) ∧ h' = h) := by
  refine con_intro (by first | exact plainFor_of_name pnLD | decide +kernel) hE ?_
  intro p e s m below meth c T K hret hlk hnm
  have ef : entryFrame m #[.ref a] 1 = (mkF m 0 #[.val (.ref a)] []) := by first | (simp [entryFrame, mkF, argsToLocals, Value.category]; done) | rfl
  rw [ef]
  refine r_aloadN (pc' := 1) K dgmo_0 rfl rfl rfl ?_
  refine r_getF (pc' := 4) K (hw _ (List.mem_of_getElem? (i := 92) rfl)) F.2.2.1 dgmo_1 rfl ?_
  intro T1 K1
  exact r_retI K1 hret hlk dgmo_4 (by decide) (by decide) ⟨rfl, rfl⟩
theorem dgd_0 : decode jdk_2323_method_27_code 0 = .ok (.aload_n 0, 1) := by decide +kernel
theorem dgd_1 : decode jdk_2323_method_27_code 1 = .ok (.getfield 253, 3) := by decide +kernel
theorem dgd_4 : decode jdk_2323_method_27_code 4 = .ok (.ireturn, 1) := by decide +kernel
set_option maxRecDepth 65536 in
set_option maxHeartbeats 4000000 in
theorem c_gd (l : Launch) {Z : State} {a0 : Array Value} (hw : ∀ d ∈ tables_1, d.before a0 Z = true) {h : Heap} (hE : Ext Z.heap h) {a : Addr} {y mo dd : Int32} (F : LDo Z h a y mo dd) :
    Con l (⟨"java/time/LocalDate", "getDayOfMonth", "()I"⟩ : MethodName) jdk_2323_method_27_code 1 (some .int) [] ({ frames := 0, cells := 0, slots := 0, locals := 0 } : Room) Z #[.ref a] h (fun v h' => v = some (.int dd) ∧ h' = h) := by
  refine con_intro (by first | exact plainFor_of_name pnLD | decide +kernel) hE ?_
  intro p e s m below meth c T K hret hlk hnm
  have ef : entryFrame m #[.ref a] 1 = (mkF m 0 #[.val (.ref a)] []) := by first | (simp [entryFrame, mkF, argsToLocals, Value.category]; done) | rfl
  rw [ef]
  refine r_aloadN (pc' := 1) K dgd_0 rfl rfl rfl ?_
  refine r_getF (pc' := 4) K (hw _ (List.mem_of_getElem? (i := 94) rfl)) F.2.2.2 dgd_1 rfl ?_
  intro T1 K1
  exact r_retI K1 hret hlk dgd_4 (by decide) (by decide) ⟨rfl, rfl⟩
theorem div_0 : decode jdk_2423_method_11_code 0 = .ok (.lload_n 1, 1) := by decide +kernel
theorem div_1 : decode jdk_2423_method_11_code 1 = .ok (.aload_n 0, 1) := by decide +kernel
theorem div_2 : decode jdk_2423_method_11_code 2 = .ok (.invokevirtual 46, 3) := by decide +kernel
theorem div_5 : decode jdk_2423_method_11_code 5 = .ok (.lcmp, 1) := by decide +kernel
theorem div_6 : decode jdk_2423_method_11_code 6 = .ok (.ifCond .lt 16, 3) := by decide +kernel
theorem div_9 : decode jdk_2423_method_11_code 9 = .ok (.lload_n 1, 1) := by decide +kernel
theorem div_10 : decode jdk_2423_method_11_code 10 = .ok (.aload_n 0, 1) := by decide +kernel
theorem div_11 : decode jdk_2423_method_11_code 11 = .ok (.invokevirtual 54, 3) := by decide +kernel
theorem div_14 : decode jdk_2423_method_11_code 14 = .ok (.lcmp, 1) := by decide +kernel
theorem div_15 : decode jdk_2423_method_11_code 15 = .ok (.ifCond .gt 7, 3) := by decide +kernel
theorem div_18 : decode jdk_2423_method_11_code 18 = .ok (.iconst 1, 1) := by decide +kernel
theorem div_19 : decode jdk_2423_method_11_code 19 = .ok (.goto 4, 3) := by decide +kernel
theorem div_22 : decode jdk_2423_method_11_code 22 = .ok (.iconst 0, 1) := by decide +kernel
theorem div_23 : decode jdk_2423_method_11_code 23 = .ok (.ireturn, 1) := by decide +kernel
set_option maxRecDepth 65536 in
set_option maxHeartbeats 4000000 in
theorem c_iv (l : Launch) {Z : State} {a0 : Array Value} (hw : ∀ d ∈ tables_1, d.before a0 Z = true) {h : Heap} (hE : Ext Z.heap h) {a : Addr} {lo hi : Int64} (F : VRo Z h a lo hi) {x : Int64} (h1 : ¬ x.toInt < lo.toInt) (h2 : ¬ hi.toInt < x.toInt) :
    Con l (⟨"java/time/temporal/ValueRange", "isValidValue", "(J)Z"⟩ : MethodName) jdk_2423_method_11_code 3 (some .boolean) [] ({ frames := 1, cells := 0, slots := 0, locals := 14 } : Room) Z #[.ref a, .long x] h (fun v h' => v = some (.int 1) ∧ h' = h) := by
  refine con_intro (by first | exact plainFor_of_name pnVR | decide +kernel) hE ?_
  intro p e s m below meth c T K hret hlk hnm
  have ef : entryFrame m #[.ref a, .long x] 3 = (mkF m 0 #[.val (.ref a), .val (.long x), .second] []) := by first | (simp [entryFrame, mkF, argsToLocals, Value.category]; done) | rfl
  rw [ef]
  refine r_lloadN (pc' := 1) K div_0 rfl rfl ?_
  refine r_aloadN (pc' := 2) K div_1 rfl rfl rfl ?_
  refine r_virtual (pc' := 5) (argsL := []) (rest := [.long x]) (W := 2) K (c_gmin l hw K.ext F) F.1 (hw _ (List.mem_of_getElem? (i := 37) rfl)) (hw _ (List.mem_of_getElem? (i := 38) rfl)) (hw _ (List.mem_of_getElem? (i := 40) rfl)) (hw _ (List.mem_of_getElem? (i := 39) rfl)) (hw _ (List.mem_of_getElem? (i := 30) rfl)) (hw _ (List.mem_of_getElem? (i := 41) rfl)) (by decide) pdJ rfl rfl rfl (Nat.le_refl _) (by decide) (by decide) (by decide) (by decide) div_2 rfl ?_
  rintro _ T1 _ K1 ⟨rfl, rfl⟩
  refine r_lcmp (pc' := 6) K1 div_5 rfl ?_
  refine r_if (pc1 := 9) (pc2 := 22) K1 div_6 rfl (by decide) (by decide) ?_ ?_
  · intro (hc : (lcmpW x lo) < (0 : Int32))
    exact absurd (lq_lt rfl hc) h1
  · intro (hc : ¬ (lcmpW x lo) < (0 : Int32))
    refine r_lloadN (pc' := 10) K1 div_9 rfl rfl ?_
    refine r_aloadN (pc' := 11) K1 div_10 rfl rfl rfl ?_
    refine r_virtual (pc' := 14) (argsL := []) (rest := [.long x]) (W := 2) K1 (c_gmax l hw K1.ext F) F.1 (hw _ (List.mem_of_getElem? (i := 44) rfl)) (hw _ (List.mem_of_getElem? (i := 45) rfl)) (hw _ (List.mem_of_getElem? (i := 47) rfl)) (hw _ (List.mem_of_getElem? (i := 46) rfl)) (hw _ (List.mem_of_getElem? (i := 30) rfl)) (hw _ (List.mem_of_getElem? (i := 48) rfl)) (by decide) pdJ rfl rfl rfl (Nat.le_refl _) (by decide) (by decide) (by decide) (by decide) div_11 rfl ?_
    rintro _ T2 _ K2 ⟨rfl, rfl⟩
    refine r_lcmp (pc' := 15) K2 div_14 rfl ?_
    refine r_if (pc1 := 18) (pc2 := 22) K2 div_15 rfl (by decide) (by decide) ?_ ?_
    · intro (hc2 : (0 : Int32) < (lcmpW x hi))
      exact absurd (lq_gt rfl hc2) h2
    · intro (hc2 : ¬ (0 : Int32) < (lcmpW x hi))
      refine r_iconst (v := (1 : Int32)) (pc' := 19) K2 div_18 rfl (by decide) ?_
      refine r_goto (pc' := 23) K2 div_19 (by decide) (by decide) ?_
      exact r_retZ K2 hret hlk (by decide) div_23 (by decide) (by decide) ⟨rfl, rfl⟩
theorem dvv_0 : decode jdk_2423_method_13_code 0 = .ok (.aload_n 0, 1) := by decide +kernel
theorem dvv_1 : decode jdk_2423_method_13_code 1 = .ok (.lload_n 1, 1) := by decide +kernel
theorem dvv_2 : decode jdk_2423_method_13_code 2 = .ok (.invokevirtual 63, 3) := by decide +kernel
theorem dvv_5 : decode jdk_2423_method_13_code 5 = .ok (.ifCond .ne 17, 3) := by decide +kernel
theorem dvv_8 : decode jdk_2423_method_13_code 8 = .ok (.new 67, 3) := by decide +kernel
theorem dvv_11 : decode jdk_2423_method_13_code 11 = .ok (.dup, 1) := by decide +kernel
theorem dvv_12 : decode jdk_2423_method_13_code 12 = .ok (.aload_n 0, 1) := by decide +kernel
theorem dvv_13 : decode jdk_2423_method_13_code 13 = .ok (.aload_n 3, 1) := by decide +kernel
theorem dvv_14 : decode jdk_2423_method_13_code 14 = .ok (.lload_n 1, 1) := by decide +kernel
theorem dvv_15 : decode jdk_2423_method_13_code 15 = .ok (.invokevirtual 69, 3) := by decide +kernel
theorem dvv_18 : decode jdk_2423_method_13_code 18 = .ok (.invokespecial 73, 3) := by decide +kernel
theorem dvv_21 : decode jdk_2423_method_13_code 21 = .ok (.athrow, 1) := by decide +kernel
theorem dvv_22 : decode jdk_2423_method_13_code 22 = .ok (.lload_n 1, 1) := by decide +kernel
theorem dvv_23 : decode jdk_2423_method_13_code 23 = .ok (.lreturn, 1) := by decide +kernel
set_option maxRecDepth 65536 in
set_option maxHeartbeats 4000000 in
theorem c_vv (l : Launch) {Z : State} {a0 : Array Value} (hw : ∀ d ∈ tables_1, d.before a0 Z = true) {h : Heap} (hE : Ext Z.heap h) {a f : Addr} {lo hi : Int64} (F : VRo Z h a lo hi) {x : Int64} (h1 : ¬ x.toInt < lo.toInt) (h2 : ¬ hi.toInt < x.toInt) :
    Con l (⟨"java/time/temporal/ValueRange", "checkValidValue", "(JLjava/time/temporal/TemporalField;)J"⟩ : MethodName) jdk_2423_method_13_code 4 (some .long) [] ({ frames := 2, cells := 0, slots := 0, locals := 28 } : Room) Z #[.ref a, .long x, .ref f] h (fun v h' => v = some (.long x) ∧ h' = h) := by
  refine con_intro (by first | exact plainFor_of_name pnVR | decide +kernel) hE ?_
  intro p e s m below meth c T K hret hlk hnm
  have ef : entryFrame m #[.ref a, .long x, .ref f] 4 = (mkF m 0 #[.val (.ref a), .val (.long x), .second, .val (.ref f)] []) := by first | (simp [entryFrame, mkF, argsToLocals, Value.category]; done) | rfl
  rw [ef]
  refine r_aloadN (pc' := 1) K dvv_0 rfl rfl rfl ?_
  refine r_lloadN (pc' := 2) K dvv_1 rfl rfl ?_
  refine r_virtual (pc' := 5) (argsL := [.long x]) (rest := []) (W := 0) K (c_iv l hw K.ext F h1 h2) F.1 (hw _ (List.mem_of_getElem? (i := 32) rfl)) (hw _ (List.mem_of_getElem? (i := 33) rfl)) (hw _ (List.mem_of_getElem? (i := 35) rfl)) (hw _ (List.mem_of_getElem? (i := 34) rfl)) (hw _ (List.mem_of_getElem? (i := 30) rfl)) (hw _ (List.mem_of_getElem? (i := 36) rfl)) (by decide) pdJZ rfl rfl rfl (Nat.le_refl _) (by decide) (by decide) (by decide) (by decide) dvv_2 rfl ?_
  rintro _ T1 _ K1 ⟨rfl, rfl⟩
  refine r_if (pc1 := 8) (pc2 := 22) K1 dvv_5 rfl (by decide) (by decide) ?_ ?_
  · intro (hc : ¬ (1 : Int32) = (0 : Int32))
    refine r_lloadN (pc' := 23) K1 dvv_22 rfl rfl ?_
    exact r_retJ K1 hret hlk dvv_23 (by decide) (by decide) ⟨rfl, rfl⟩
  · intro (hc : (1 : Int32) = (0 : Int32))
    exact absurd hc (by decide)
theorem dcv_0 : decode jdk_2395_method_11_code 0 = .ok (.aload_n 0, 1) := by decide +kernel
theorem dcv_1 : decode jdk_2395_method_11_code 1 = .ok (.invokevirtual 190, 3) := by decide +kernel
theorem dcv_4 : decode jdk_2395_method_11_code 4 = .ok (.lload_n 1, 1) := by decide +kernel
theorem dcv_5 : decode jdk_2395_method_11_code 5 = .ok (.aload_n 0, 1) := by decide +kernel
theorem dcv_6 : decode jdk_2395_method_11_code 6 = .ok (.invokevirtual 193, 3) := by decide +kernel
theorem dcv_9 : decode jdk_2395_method_11_code 9 = .ok (.lreturn, 1) := by decide +kernel
set_option maxRecDepth 65536 in
set_option maxHeartbeats 4000000 in
theorem c_cv (l : Launch) {Z : State} {a0 : Array Value} (hw : ∀ d ∈ tables_1, d.before a0 Z = true) {h : Heap} (hE : Ext Z.heap h) {a : Addr} {lo hi : Int64} (F : CFo Z h a lo hi) {x : Int64} (h1 : ¬ x.toInt < lo.toInt) (h2 : ¬ hi.toInt < x.toInt) :
    Con l (⟨"java/time/temporal/ChronoField", "checkValidValue", "(J)J"⟩ : MethodName) jdk_2395_method_11_code 3 (some .long) [] ({ frames := 3, cells := 0, slots := 0, locals := 43 } : Room) Z #[.ref a, .long x] h (fun v h' => v = some (.long x) ∧ h' = h) := by
  refine con_intro (by first | exact plainFor_of_name pnCF | decide +kernel) hE ?_
  intro p e s m below meth c T K hret hlk hnm
  have ef : entryFrame m #[.ref a, .long x] 3 = (mkF m 0 #[.val (.ref a), .val (.long x), .second] []) := by first | (simp [entryFrame, mkF, argsToLocals, Value.category]; done) | rfl
  rw [ef]
  obtain ⟨E0, r, G, F⟩ := F
  refine r_aloadN (pc' := 1) K dcv_0 rfl rfl rfl ?_
  refine r_virtual (pc' := 4) (argsL := []) (rest := []) (W := 0) K (c_range l hw K.ext G) E0 (hw _ (List.mem_of_getElem? (i := 19) rfl)) (hw _ (List.mem_of_getElem? (i := 20) rfl)) (hw _ (List.mem_of_getElem? (i := 22) rfl)) (hw _ (List.mem_of_getElem? (i := 21) rfl)) (hw _ (List.mem_of_getElem? (i := 13) rfl)) (hw _ (List.mem_of_getElem? (i := 23) rfl)) (by decide) pdR rfl rfl rfl (Nat.le_refl _) (by decide) (by decide) (by decide) (by decide) dcv_1 rfl ?_
  rintro _ T1 _ K1 ⟨rfl, rfl⟩
  refine r_lloadN (pc' := 5) K1 dcv_4 rfl rfl ?_
  refine r_aloadN (pc' := 6) K1 dcv_5 rfl rfl rfl ?_
  refine r_virtual (pc' := 9) (argsL := [.long x, .ref a]) (rest := []) (W := 0) K1 (c_vv l hw K1.ext F h1 h2) F.1 (hw _ (List.mem_of_getElem? (i := 26) rfl)) (hw _ (List.mem_of_getElem? (i := 27) rfl)) (hw _ (List.mem_of_getElem? (i := 29) rfl)) (hw _ (List.mem_of_getElem? (i := 28) rfl)) (hw _ (List.mem_of_getElem? (i := 30) rfl)) (hw _ (List.mem_of_getElem? (i := 31) rfl)) (by decide) pdVV rfl rfl rfl (Nat.le_refl _) (by decide) (by decide) (by decide) (by decide) dcv_6 rfl ?_
  rintro _ T2 _ K2 ⟨rfl, rfl⟩
  exact r_retJ K2 hret hlk dcv_9 (by decide) (by decide) ⟨rfl, rfl⟩
theorem dnn_0 : decode jdk_31_method_11_code 0 = .ok (.aload_n 0, 1) := by decide +kernel
theorem dnn_1 : decode jdk_31_method_11_code 1 = .ok (.ifnonnull 12, 3) := by decide +kernel
theorem dnn_4 : decode jdk_31_method_11_code 4 = .ok (.new 84, 3) := by decide +kernel
theorem dnn_7 : decode jdk_31_method_11_code 7 = .ok (.dup, 1) := by decide +kernel
theorem dnn_8 : decode jdk_31_method_11_code 8 = .ok (.aload_n 1, 1) := by decide +kernel
theorem dnn_9 : decode jdk_31_method_11_code 9 = .ok (.invokespecial 87, 3) := by decide +kernel
theorem dnn_12 : decode jdk_31_method_11_code 12 = .ok (.athrow, 1) := by decide +kernel
theorem dnn_13 : decode jdk_31_method_11_code 13 = .ok (.aload_n 0, 1) := by decide +kernel
theorem dnn_14 : decode jdk_31_method_11_code 14 = .ok (.areturn, 1) := by decide +kernel
set_option maxRecDepth 65536 in
set_option maxHeartbeats 4000000 in
theorem c_nn (l : Launch) {Z : State} {a0 : Array Value} (hw : ∀ d ∈ tables_1, d.before a0 Z = true) {h : Heap} (hE : Ext Z.heap h) {a q : Addr} :
    Con l (⟨"java/util/Objects", "requireNonNull", "(Ljava/lang/Object;Ljava/lang/String;)Ljava/lang/Object;"⟩ : MethodName) jdk_31_method_11_code 2 (some (.object "java/lang/Object")) [] ({ frames := 0, cells := 0, slots := 0, locals := 0 } : Room) Z #[.ref a, .ref q] h (fun v h' => v = some (.ref a) ∧ h' = h) := by
  refine con_intro (by first | exact plainFor_of_name pnOB | decide +kernel) hE ?_
  intro p e s m below meth c T K hret hlk hnm
  have ef : entryFrame m #[.ref a, .ref q] 2 = (mkF m 0 #[.val (.ref a), .val (.ref q)] []) := by first | (simp [entryFrame, mkF, argsToLocals, Value.category]; done) | rfl
  rw [ef]
  refine r_aloadN (pc' := 1) K dnn_0 rfl rfl rfl ?_
  refine r_nonnullYes (pc' := 13) K dnn_1 (by decide) (by decide) ?_
  refine r_aloadN (pc' := 14) K dnn_13 rfl rfl rfl ?_
  exact r_retA K hret hlk rfl rfl dnn_14 (by decide) (by decide) ⟨rfl, rfl⟩
theorem dgv_0 : decode jdk_2329_method_6_code 0 = .ok (.aload_n 0, 1) := by decide +kernel
theorem dgv_1 : decode jdk_2329_method_6_code 1 = .ok (.invokevirtual 141, 3) := by decide +kernel
theorem dgv_4 : decode jdk_2329_method_6_code 4 = .ok (.iconst 1, 1) := by decide +kernel
theorem dgv_5 : decode jdk_2329_method_6_code 5 = .ok (.iadd, 1) := by decide +kernel
theorem dgv_6 : decode jdk_2329_method_6_code 6 = .ok (.ireturn, 1) := by decide +kernel
set_option maxRecDepth 65536 in
set_option maxHeartbeats 4000000 in
theorem c_gv (l : Launch) {Z : State} {a0 : Array Value} (hw : ∀ d ∈ tables_1, d.before a0 Z = true) {h : Heap} (hE : Ext Z.heap h) {a : Addr} (E : Exa Z h a "java/time/Month") (F : Fld Z h a "java/lang/Enum" "ordinal" "I" (.int 2)) :
    Con l (⟨"java/time/Month", "getValue", "()I"⟩ : MethodName) jdk_2329_method_6_code 1 (some .int) [] ({ frames := 1, cells := 0, slots := 0, locals := 12 } : Room) Z #[.ref a] h (fun v h' => v = some (.int 3) ∧ h' = h) := by
  refine con_intro (by first | exact plainFor_of_name pnMO | decide +kernel) hE ?_
  intro p e s m below meth c T K hret hlk hnm
  have ef : entryFrame m #[.ref a] 1 = (mkF m 0 #[.val (.ref a)] []) := by first | (simp [entryFrame, mkF, argsToLocals, Value.category]; done) | rfl
  rw [ef]
  refine r_aloadN (pc' := 1) K dgv_0 rfl rfl rfl ?_
  refine r_virtualUp (pc' := 4) (argsL := []) (rest := []) (W := 0) K (c_ord l hw K.ext F) E (hw _ (List.mem_of_getElem? (i := 69) rfl)) (hw _ (List.mem_of_getElem? (i := 70) rfl)) (hw _ (List.mem_of_getElem? (i := 71) rfl)) (hw _ (List.mem_of_getElem? (i := 73) rfl)) (hw _ (List.mem_of_getElem? (i := 72) rfl)) (hw _ (List.mem_of_getElem? (i := 74) rfl)) (hw _ (List.mem_of_getElem? (i := 75) rfl)) (by decide) pdI rfl rfl rfl (Nat.le_refl _) (by decide) (by decide) (by decide) (by decide) dgv_1 rfl ?_
  rintro _ T1 _ K1 ⟨rfl, rfl⟩
  refine r_iconst (v := (1 : Int32)) (pc' := 5) K1 dgv_4 rfl (by decide) ?_
  refine r_iadd (pc' := 6) K1 dgv_5 rfl ?_
  exact r_retI K1 hret hlk dgv_6 (by decide) (by decide) ⟨rfl, rfl⟩
theorem dli_0 : decode jdk_2323_method_14_code 0 = .ok (.aload_n 0, 1) := by decide +kernel
theorem dli_1 : decode jdk_2323_method_14_code 1 = .ok (.invokespecial 243, 3) := by decide +kernel
theorem dli_4 : decode jdk_2323_method_14_code 4 = .ok (.aload_n 0, 1) := by decide +kernel
theorem dli_5 : decode jdk_2323_method_14_code 5 = .ok (.iload_n 1, 1) := by decide +kernel
theorem dli_6 : decode jdk_2323_method_14_code 6 = .ok (.putfield 246, 3) := by decide +kernel
theorem dli_9 : decode jdk_2323_method_14_code 9 = .ok (.aload_n 0, 1) := by decide +kernel
theorem dli_10 : decode jdk_2323_method_14_code 10 = .ok (.iload_n 2, 1) := by decide +kernel
theorem dli_11 : decode jdk_2323_method_14_code 11 = .ok (.i2s, 1) := by decide +kernel
theorem dli_12 : decode jdk_2323_method_14_code 12 = .ok (.putfield 250, 3) := by decide +kernel
theorem dli_15 : decode jdk_2323_method_14_code 15 = .ok (.aload_n 0, 1) := by decide +kernel
theorem dli_16 : decode jdk_2323_method_14_code 16 = .ok (.iload_n 3, 1) := by decide +kernel
theorem dli_17 : decode jdk_2323_method_14_code 17 = .ok (.i2s, 1) := by decide +kernel
theorem dli_18 : decode jdk_2323_method_14_code 18 = .ok (.putfield 253, 3) := by decide +kernel
theorem dli_21 : decode jdk_2323_method_14_code 21 = .ok (.return_, 1) := by decide +kernel
set_option maxRecDepth 65536 in
set_option maxHeartbeats 4000000 in
theorem c_ld (l : Launch) {Z : State} {a0 : Array Value} (hw : ∀ d ∈ tables_1, d.before a0 Z = true) {h : Heap} (hE : Ext Z.heap h) {o : Addr} {y mo dd : Int32} (hm : -1000 ≤ mo.toInt ∧ mo.toInt ≤ 1000) (hd : -1000 ≤ dd.toInt ∧ dd.toInt ≤ 1000) (ga : Z.heap.size ≤ o) (E : Exa Z h o "java/time/LocalDate") (F_year : Fld Z h o "java/time/LocalDate" "year" "I" (.int 0)) (F_month : Fld Z h o "java/time/LocalDate" "month" "S" (.int 0)) (F_day : Fld Z h o "java/time/LocalDate" "day" "S" (.int 0)) :
    Con l (⟨"java/time/LocalDate", "<init>", "(III)V"⟩ : MethodName) jdk_2323_method_14_code 4 none [] ({ frames := 1, cells := 0, slots := 0, locals := 12 } : Room) Z #[.ref o, .int y, .int mo, .int dd] h (fun v h' => v = none ∧ Keep h h' [o] ∧ LDo Z h' o y mo dd) := by
  refine con_intro (by first | exact plainFor_of_name pnLD | decide +kernel) hE ?_
  intro p e s m below meth c T K hret hlk hnm
  have ef : entryFrame m #[.ref o, .int y, .int mo, .int dd] 4 = (mkF m 0 #[.val (.ref o), .val (.int y), .val (.int mo), .val (.int dd)] []) := by first | (simp [entryFrame, mkF, argsToLocals, Value.category]; done) | rfl
  rw [ef]
  refine r_aloadN (pc' := 1) K dli_0 rfl rfl rfl ?_
  refine r_init (pc' := 4) (W := 0) K (hw _ (List.mem_of_getElem? (i := 87) rfl)) (hw _ (List.mem_of_getElem? (i := 88) rfl)) (hw _ (List.mem_of_getElem? (i := 89) rfl)) rfl dli_1 rfl (by decide) (Nat.le_refl _) (by decide) ?_
  intro T1 K1
  refine r_aloadN (pc' := 5) K1 dli_4 rfl rfl rfl ?_
  refine r_iloadN (pc' := 6) K1 dli_5 rfl rfl ?_
  refine r_putF (pc' := 9) K1 (hw _ (List.mem_of_getElem? (i := 90) rfl)) F_year E ga (Or.inr ⟨(hw _ (List.mem_of_getElem? (i := 91) rfl)), rfl, hnm⟩) (hw _ (List.mem_of_getElem? (i := 82) rfl)) (ty := .int) (by decide) rfl rfl dli_6 rfl ?_
  intro T2 h2 K2 W2
  have E2 := E.wr W2
  have Kp2 := (Keep.refl _ [o]).wr W2 (Or.inl (List.mem_of_getElem? (i := 0) rfl))
  have F2_year := F_year.same W2
  have F2_month := F_month.other W2 (Or.inr (slot_ne (Or.inr (hw _ (List.mem_of_getElem? (i := 93) rfl))) (Or.inr (hw _ (List.mem_of_getElem? (i := 91) rfl))) (by decide) (t := .short) (t' := .int) (by decide) (by decide)))
  have F2_day := F_day.other W2 (Or.inr (slot_ne (Or.inr (hw _ (List.mem_of_getElem? (i := 95) rfl))) (Or.inr (hw _ (List.mem_of_getElem? (i := 91) rfl))) (by decide) (t := .short) (t' := .int) (by decide) (by decide)))
  refine r_aloadN (pc' := 10) K2 dli_9 rfl rfl rfl ?_
  refine r_iloadN (pc' := 11) K2 dli_10 rfl rfl ?_
  refine r_i2s (pc' := 12) K2 dli_11 rfl ?_
  rw [own_s hm.1 hm.2]
  refine r_putF (pc' := 15) K2 (hw _ (List.mem_of_getElem? (i := 92) rfl)) F2_month E2 ga (Or.inr ⟨(hw _ (List.mem_of_getElem? (i := 93) rfl)), rfl, hnm⟩) (hw _ (List.mem_of_getElem? (i := 82) rfl)) (ty := .short) (by decide) (congrArg Value.int (own_s hm.1 hm.2)) (own_sfit hm.1 hm.2) dli_12 rfl ?_
  intro T3 h3 K3 W3
  have E3 := E2.wr W3
  have Kp3 := Kp2.wr W3 (Or.inl (List.mem_of_getElem? (i := 0) rfl))
  have F3_year := F2_year.other W3 (Or.inr (slot_ne (Or.inr (hw _ (List.mem_of_getElem? (i := 91) rfl))) (Or.inr (hw _ (List.mem_of_getElem? (i := 93) rfl))) (by decide) (t := .int) (t' := .short) (by decide) (by decide)))
  have F3_month := F2_month.same W3
  have F3_day := F2_day.other W3 (Or.inr (slot_ne (Or.inr (hw _ (List.mem_of_getElem? (i := 95) rfl))) (Or.inr (hw _ (List.mem_of_getElem? (i := 93) rfl))) (by decide) (t := .short) (t' := .short) (by decide) (by decide)))
  refine r_aloadN (pc' := 16) K3 dli_15 rfl rfl rfl ?_
  refine r_iloadN (pc' := 17) K3 dli_16 rfl rfl ?_
  refine r_i2s (pc' := 18) K3 dli_17 rfl ?_
  rw [own_s hd.1 hd.2]
  refine r_putF (pc' := 21) K3 (hw _ (List.mem_of_getElem? (i := 94) rfl)) F3_day E3 ga (Or.inr ⟨(hw _ (List.mem_of_getElem? (i := 95) rfl)), rfl, hnm⟩) (hw _ (List.mem_of_getElem? (i := 82) rfl)) (ty := .short) (by decide) (congrArg Value.int (own_s hd.1 hd.2)) (own_sfit hd.1 hd.2) dli_18 rfl ?_
  intro T4 h4 K4 W4
  have E4 := E3.wr W4
  have Kp4 := Kp3.wr W4 (Or.inl (List.mem_of_getElem? (i := 0) rfl))
  have F4_year := F3_year.other W4 (Or.inr (slot_ne (Or.inr (hw _ (List.mem_of_getElem? (i := 91) rfl))) (Or.inr (hw _ (List.mem_of_getElem? (i := 95) rfl))) (by decide) (t := .int) (t' := .short) (by decide) (by decide)))
  have F4_month := F3_month.other W4 (Or.inr (slot_ne (Or.inr (hw _ (List.mem_of_getElem? (i := 93) rfl))) (Or.inr (hw _ (List.mem_of_getElem? (i := 95) rfl))) (by decide) (t := .short) (t' := .short) (by decide) (by decide)))
  have F4_day := F3_day.same W4
  exact r_retV K4 hret hlk dli_21 (by decide) (by decide) ⟨rfl, Kp4, E4, F4_year, F4_month, F4_day⟩
theorem dcr_0 : decode jdk_2323_method_12_code 0 = .ok (.iload_n 2, 1) := by decide +kernel
theorem dcr_1 : decode jdk_2323_method_12_code 1 = .ok (.bipush 28, 2) := by decide +kernel
theorem dcr_3 : decode jdk_2323_method_12_code 3 = .ok (.if_icmp .le 176, 3) := by decide +kernel
theorem dcr_179 : decode jdk_2323_method_12_code 179 = .ok (.new 1, 3) := by decide +kernel
theorem dcr_182 : decode jdk_2323_method_12_code 182 = .ok (.dup, 1) := by decide +kernel
theorem dcr_183 : decode jdk_2323_method_12_code 183 = .ok (.iload_n 0, 1) := by decide +kernel
theorem dcr_184 : decode jdk_2323_method_12_code 184 = .ok (.iload_n 1, 1) := by decide +kernel
theorem dcr_185 : decode jdk_2323_method_12_code 185 = .ok (.iload_n 2, 1) := by decide +kernel
theorem dcr_186 : decode jdk_2323_method_12_code 186 = .ok (.invokespecial 121, 3) := by decide +kernel
theorem dcr_189 : decode jdk_2323_method_12_code 189 = .ok (.areturn, 1) := by decide +kernel
set_option maxRecDepth 65536 in
set_option maxHeartbeats 4000000 in
theorem c_cr (l : Launch) {Z : State} {a0 : Array Value} (hw : ∀ d ∈ tables_1, d.before a0 Z = true) {h : Heap} (hE : Ext Z.heap h) {y mo dd : Int32} (hm : -1000 ≤ mo.toInt ∧ mo.toInt ≤ 1000) (hd : 0 ≤ dd.toInt ∧ dd.toInt ≤ 28) :
    Con l (⟨"java/time/LocalDate", "create", "(III)Ljava/time/LocalDate;"⟩ : MethodName) jdk_2323_method_12_code 4 (some (.object "java/time/LocalDate")) [] ({ frames := 2, cells := 1, slots := 3, locals := 28 } : Room) Z #[.int y, .int mo, .int dd] h (fun v h' => ∃ o, v = some (.ref o) ∧ Ext h h' ∧ LDo Z h' o y mo dd) := by
  refine con_intro (by first | exact plainFor_of_name pnLD | decide +kernel) hE ?_
  intro p e s m below meth c T K hret hlk hnm
  have ef : entryFrame m #[.int y, .int mo, .int dd] 4 = (mkF m 0 #[.val (.int y), .val (.int mo), .val (.int dd), .unset] []) := by first | (simp [entryFrame, mkF, argsToLocals, Value.category]; done) | rfl
  rw [ef]
  refine r_iloadN (pc' := 1) K dcr_0 rfl rfl ?_
  refine r_bipush (v := (28 : Int32)) (pc' := 3) K dcr_1 rfl (by decide) ?_
  refine r_icmp (pc1 := 6) (pc2 := 179) K dcr_3 rfl (by decide) (by decide) ?_ ?_
  · intro (hc : ¬ (28 : Int32) < dd)
    refine r_new (pc' := 182) K (hw _ (List.mem_of_getElem? (i := 81) rfl)) (hw _ (List.mem_of_getElem? (i := 82) rfl)) (hw _ (List.mem_of_getElem? (i := 10) rfl)) dcr_179 rfl (by decide) (by decide) ?_
    intro Ta1 ha1 o ho Ka1 Ea1 Oa1 Da1
    refine r_dup (pc' := 183) Ka1 dcr_182 rfl rfl ?_
    refine r_iloadN (pc' := 184) Ka1 dcr_183 rfl rfl ?_
    refine r_iloadN (pc' := 185) Ka1 dcr_184 rfl rfl ?_
    refine r_iloadN (pc' := 186) Ka1 dcr_185 rfl rfl ?_
    refine r_special (pc' := 189) (argsL := [.int y, .int mo, .int dd]) (rest := [.ref o]) (W := 1) Ka1 (c_ld l hw Ka1.ext hm ⟨by omega, by omega⟩ (by rw [ho]; exact K.sz) Oa1 (Da1 (Or.inr (hw _ (List.mem_of_getElem? (i := 91) rfl))) (ty := .int) (by decide)) (Da1 (Or.inr (hw _ (List.mem_of_getElem? (i := 93) rfl))) (ty := .short) (by decide)) (Da1 (Or.inr (hw _ (List.mem_of_getElem? (i := 95) rfl))) (ty := .short) (by decide))) rfl (hw _ (List.mem_of_getElem? (i := 83) rfl)) (hw _ (List.mem_of_getElem? (i := 84) rfl)) (hw _ (List.mem_of_getElem? (i := 10) rfl)) (hw _ (List.mem_of_getElem? (i := 86) rfl)) (by decide) pd3V rfl rfl rfl (Nat.le_refl _) (by decide) (by decide) (by decide) (by decide) dcr_186 rfl ?_
    rintro _ Ta2 ha2 Ka2 ⟨rfl, Kpa, La⟩
    have Xa := ext_keep Ea1 Kpa (allS (Nat.le_of_eq ho.symm) all0)
    exact r_retA Ka2 hret hlk rfl rfl dcr_189 (by decide) (by decide) ⟨o, rfl, Xa, La⟩
  · intro (hc : (28 : Int32) < dd)
    rw [Int32.lt_iff_toInt_lt] at hc; have : (28 : Int32).toInt = 28 := rfl; omega
theorem dlm_0 : decode jdk_2323_method_31_code 0 = .ok (.aload_n 0, 1) := by decide +kernel
theorem dlm_1 : decode jdk_2323_method_31_code 1 = .ok (.getfield 250, 3) := by decide +kernel
theorem dlm_4 : decode jdk_2323_method_31_code 4 = .ok (.tableswitch 78 2 11 #[56, 78, 73, 78, 73, 78, 78, 73, 78, 73], 56) := by decide +kernel
theorem dlm_82 : decode jdk_2323_method_31_code 82 = .ok (.bipush 31, 2) := by decide +kernel
theorem dlm_84 : decode jdk_2323_method_31_code 84 = .ok (.ireturn, 1) := by decide +kernel
set_option maxRecDepth 65536 in
set_option maxHeartbeats 4000000 in
theorem c_len (l : Launch) {Z : State} {a0 : Array Value} (hw : ∀ d ∈ tables_1, d.before a0 Z = true) {h : Heap} (hE : Ext Z.heap h) {a : Addr} {y dd : Int32} (F : LDo Z h a y 3 dd) :
    Con l (⟨"java/time/LocalDate", "lengthOfMonth", "()I"⟩ : MethodName) jdk_2323_method_31_code 1 (some .int) [] ({ frames := 0, cells := 0, slots := 0, locals := 0 } : Room) Z #[.ref a] h (fun v h' => v = some (.int 31) ∧ h' = h) := by
  refine con_intro (by first | exact plainFor_of_name pnLD | decide +kernel) hE ?_
  intro p e s m below meth c T K hret hlk hnm
  have ef : entryFrame m #[.ref a] 1 = (mkF m 0 #[.val (.ref a)] []) := by first | (simp [entryFrame, mkF, argsToLocals, Value.category]; done) | rfl
  rw [ef]
  refine r_aloadN (pc' := 1) K dlm_0 rfl rfl rfl ?_
  refine r_getF (pc' := 4) K (hw _ (List.mem_of_getElem? (i := 92) rfl)) F.2.2.1 dlm_1 rfl ?_
  intro T1 K1
  refine r_tswIn (pc' := 82) (o := 78) K1 dlm_4 (by decide) (by decide) (by decide) (by decide) ?_
  refine r_bipush (v := (31 : Int32)) (pc' := 84) K1 dlm_82 rfl (by decide) ?_
  exact r_retI K1 hret hlk dlm_84 (by decide) (by decide) ⟨rfl, rfl⟩
theorem dpl_0 : decode jdk_2323_method_44_code 0 = .ok (.lload_n 1, 1) := by decide +kernel
theorem dpl_1 : decode jdk_2323_method_44_code 1 = .ok (.lconst 0, 1) := by decide +kernel
theorem dpl_2 : decode jdk_2323_method_44_code 2 = .ok (.lcmp, 1) := by decide +kernel
theorem dpl_3 : decode jdk_2323_method_44_code 3 = .ok (.ifCond .ne 5, 3) := by decide +kernel
theorem dpl_6 : decode jdk_2323_method_44_code 6 = .ok (.aload_n 0, 1) := by decide +kernel
theorem dpl_7 : decode jdk_2323_method_44_code 7 = .ok (.areturn, 1) := by decide +kernel
theorem dpl_8 : decode jdk_2323_method_44_code 8 = .ok (.aload_n 0, 1) := by decide +kernel
theorem dpl_9 : decode jdk_2323_method_44_code 9 = .ok (.getfield 253, 3) := by decide +kernel
theorem dpl_12 : decode jdk_2323_method_44_code 12 = .ok (.i2l, 1) := by decide +kernel
theorem dpl_13 : decode jdk_2323_method_44_code 13 = .ok (.lload_n 1, 1) := by decide +kernel
theorem dpl_14 : decode jdk_2323_method_44_code 14 = .ok (.ladd, 1) := by decide +kernel
theorem dpl_15 : decode jdk_2323_method_44_code 15 = .ok (.lstore_n 3, 1) := by decide +kernel
theorem dpl_16 : decode jdk_2323_method_44_code 16 = .ok (.lload_n 3, 1) := by decide +kernel
theorem dpl_17 : decode jdk_2323_method_44_code 17 = .ok (.lconst 0, 1) := by decide +kernel
theorem dpl_18 : decode jdk_2323_method_44_code 18 = .ok (.lcmp, 1) := by decide +kernel
theorem dpl_19 : decode jdk_2323_method_44_code 19 = .ok (.ifCond .le 135, 3) := by decide +kernel
theorem dpl_22 : decode jdk_2323_method_44_code 22 = .ok (.lload_n 3, 1) := by decide +kernel
theorem dpl_23 : decode jdk_2323_method_44_code 23 = .ok (.ldc2_w 483, 3) := by decide +kernel
theorem dpl_26 : decode jdk_2323_method_44_code 26 = .ok (.lcmp, 1) := by decide +kernel
theorem dpl_27 : decode jdk_2323_method_44_code 27 = .ok (.ifCond .gt 21, 3) := by decide +kernel
theorem dpl_30 : decode jdk_2323_method_44_code 30 = .ok (.new 1, 3) := by decide +kernel
theorem dpl_33 : decode jdk_2323_method_44_code 33 = .ok (.dup, 1) := by decide +kernel
theorem dpl_34 : decode jdk_2323_method_44_code 34 = .ok (.aload_n 0, 1) := by decide +kernel
theorem dpl_35 : decode jdk_2323_method_44_code 35 = .ok (.getfield 246, 3) := by decide +kernel
theorem dpl_38 : decode jdk_2323_method_44_code 38 = .ok (.aload_n 0, 1) := by decide +kernel
theorem dpl_39 : decode jdk_2323_method_44_code 39 = .ok (.getfield 250, 3) := by decide +kernel
theorem dpl_42 : decode jdk_2323_method_44_code 42 = .ok (.lload_n 3, 1) := by decide +kernel
theorem dpl_43 : decode jdk_2323_method_44_code 43 = .ok (.l2i, 1) := by decide +kernel
theorem dpl_44 : decode jdk_2323_method_44_code 44 = .ok (.invokespecial 121, 3) := by decide +kernel
theorem dpl_47 : decode jdk_2323_method_44_code 47 = .ok (.areturn, 1) := by decide +kernel
theorem dpl_48 : decode jdk_2323_method_44_code 48 = .ok (.lload_n 3, 1) := by decide +kernel
theorem dpl_49 : decode jdk_2323_method_44_code 49 = .ok (.ldc2_w 485, 3) := by decide +kernel
theorem dpl_52 : decode jdk_2323_method_44_code 52 = .ok (.lcmp, 1) := by decide +kernel
theorem dpl_53 : decode jdk_2323_method_44_code 53 = .ok (.ifCond .gt 101, 3) := by decide +kernel
theorem dpl_56 : decode jdk_2323_method_44_code 56 = .ok (.aload_n 0, 1) := by decide +kernel
theorem dpl_57 : decode jdk_2323_method_44_code 57 = .ok (.invokevirtual 278, 3) := by decide +kernel
theorem dpl_60 : decode jdk_2323_method_44_code 60 = .ok (.i2l, 1) := by decide +kernel
theorem dpl_61 : decode jdk_2323_method_44_code 61 = .ok (.lstore 5, 2) := by decide +kernel
theorem dpl_63 : decode jdk_2323_method_44_code 63 = .ok (.lload_n 3, 1) := by decide +kernel
theorem dpl_64 : decode jdk_2323_method_44_code 64 = .ok (.lload 5, 2) := by decide +kernel
theorem dpl_66 : decode jdk_2323_method_44_code 66 = .ok (.lcmp, 1) := by decide +kernel
theorem dpl_67 : decode jdk_2323_method_44_code 67 = .ok (.ifCond .gt 21, 3) := by decide +kernel
theorem dpl_70 : decode jdk_2323_method_44_code 70 = .ok (.new 1, 3) := by decide +kernel
theorem dpl_73 : decode jdk_2323_method_44_code 73 = .ok (.dup, 1) := by decide +kernel
theorem dpl_74 : decode jdk_2323_method_44_code 74 = .ok (.aload_n 0, 1) := by decide +kernel
theorem dpl_75 : decode jdk_2323_method_44_code 75 = .ok (.getfield 246, 3) := by decide +kernel
theorem dpl_78 : decode jdk_2323_method_44_code 78 = .ok (.aload_n 0, 1) := by decide +kernel
theorem dpl_79 : decode jdk_2323_method_44_code 79 = .ok (.getfield 250, 3) := by decide +kernel
theorem dpl_82 : decode jdk_2323_method_44_code 82 = .ok (.lload_n 3, 1) := by decide +kernel
theorem dpl_83 : decode jdk_2323_method_44_code 83 = .ok (.l2i, 1) := by decide +kernel
theorem dpl_84 : decode jdk_2323_method_44_code 84 = .ok (.invokespecial 121, 3) := by decide +kernel
theorem dpl_87 : decode jdk_2323_method_44_code 87 = .ok (.areturn, 1) := by decide +kernel
theorem dpl_88 : decode jdk_2323_method_44_code 88 = .ok (.aload_n 0, 1) := by decide +kernel
theorem dpl_89 : decode jdk_2323_method_44_code 89 = .ok (.getfield 250, 3) := by decide +kernel
theorem dpl_92 : decode jdk_2323_method_44_code 92 = .ok (.bipush 12, 2) := by decide +kernel
theorem dpl_94 : decode jdk_2323_method_44_code 94 = .ok (.if_icmp .ge 26, 3) := by decide +kernel
theorem dpl_97 : decode jdk_2323_method_44_code 97 = .ok (.new 1, 3) := by decide +kernel
theorem dpl_100 : decode jdk_2323_method_44_code 100 = .ok (.dup, 1) := by decide +kernel
theorem dpl_101 : decode jdk_2323_method_44_code 101 = .ok (.aload_n 0, 1) := by decide +kernel
theorem dpl_102 : decode jdk_2323_method_44_code 102 = .ok (.getfield 246, 3) := by decide +kernel
theorem dpl_105 : decode jdk_2323_method_44_code 105 = .ok (.aload_n 0, 1) := by decide +kernel
theorem dpl_106 : decode jdk_2323_method_44_code 106 = .ok (.getfield 250, 3) := by decide +kernel
theorem dpl_109 : decode jdk_2323_method_44_code 109 = .ok (.iconst 1, 1) := by decide +kernel
theorem dpl_110 : decode jdk_2323_method_44_code 110 = .ok (.iadd, 1) := by decide +kernel
theorem dpl_111 : decode jdk_2323_method_44_code 111 = .ok (.lload_n 3, 1) := by decide +kernel
theorem dpl_112 : decode jdk_2323_method_44_code 112 = .ok (.lload 5, 2) := by decide +kernel
theorem dpl_114 : decode jdk_2323_method_44_code 114 = .ok (.lsub, 1) := by decide +kernel
theorem dpl_115 : decode jdk_2323_method_44_code 115 = .ok (.l2i, 1) := by decide +kernel
theorem dpl_116 : decode jdk_2323_method_44_code 116 = .ok (.invokespecial 121, 3) := by decide +kernel
theorem dpl_119 : decode jdk_2323_method_44_code 119 = .ok (.areturn, 1) := by decide +kernel
set_option maxRecDepth 65536 in
set_option maxHeartbeats 4000000 in
theorem c_pl (l : Launch) {Z : State} {a0 : Array Value} (hw : ∀ d ∈ tables_1, d.before a0 Z = true) {h : Heap} (hE : Ext Z.heap h) {a : Addr} {y : Int32} (F : LDo Z h a y 3 22) {n : Int64} (n1 : 0 ≤ n.toInt) (n2 : n.toInt ≤ 35) :
    Con l (⟨"java/time/LocalDate", "plusDays", "(J)Ljava/time/LocalDate;"⟩ : MethodName) jdk_2323_method_44_code 7 (some (.object "java/time/LocalDate")) [] ({ frames := 2, cells := 1, slots := 3, locals := 28 } : Room) Z #[.ref a, .long n] h (fun v h' => ∃ (o : Addr) (mo dd : Int32), v = some (.ref o) ∧ Ext h h' ∧ LDo Z h' o y mo dd ∧ (22 + n.toInt ≤ 31 ∧ mo.toInt = 3 ∧ dd.toInt = 22 + n.toInt ∨ 31 < 22 + n.toInt ∧ mo.toInt = 4 ∧ dd.toInt = 22 + n.toInt - 31)) := by
  refine con_intro (by first | exact plainFor_of_name pnLD | decide +kernel) hE ?_
  intro p e s m below meth c T K hret hlk hnm
  have ef : entryFrame m #[.ref a, .long n] 7 = (mkF m 0 #[.val (.ref a), .val (.long n), .second, .unset, .unset, .unset, .unset] []) := by first | (simp [entryFrame, mkF, argsToLocals, Value.category]; done) | rfl
  rw [ef]
  refine r_lloadN (pc' := 1) K dpl_0 rfl rfl ?_
  refine r_lconst (v := (0 : Int64)) (pc' := 2) K dpl_1 rfl (by decide) ?_
  refine r_lcmp (pc' := 3) K dpl_2 rfl ?_
  refine r_if (pc1 := 6) (pc2 := 8) K dpl_3 rfl (by decide) (by decide) ?_ ?_
  · intro (hc : ¬ (lcmpW n (0 : Int64)) = (0 : Int32))
    have hc := lq_ne z_0 hc
    refine r_aloadN (pc' := 9) K dpl_8 rfl rfl rfl ?_
    refine r_getF (pc' := 12) K (hw _ (List.mem_of_getElem? (i := 94) rfl)) F.2.2.2 dpl_9 rfl ?_
    intro T1 K1
    refine r_i2l (pc' := 13) K1 dpl_12 rfl ?_
    refine r_lloadN (pc' := 14) K1 dpl_13 rfl rfl ?_
    refine r_ladd (pc' := 15) K1 dpl_14 rfl ?_
    have qt := (l_add (i_l (show (22 : Int32).toInt = 22 from rfl)) (show n.toInt = n.toInt from rfl) (by omega))
    generalize ((22 : Int32).toInt64 + n) = t at qt ⊢
    refine r_lstoreN (Ls' := #[.val (.ref a), .val (.long n), .second, .val (.long t), .second, .unset, .unset]) (pc' := 16) K1 dpl_15 rfl rfl ?_
    refine r_lloadN (pc' := 17) K1 dpl_16 rfl rfl ?_
    refine r_lconst (v := (0 : Int64)) (pc' := 18) K1 dpl_17 rfl (by decide) ?_
    refine r_lcmp (pc' := 19) K1 dpl_18 rfl ?_
    refine r_if (pc1 := 22) (pc2 := 154) K1 dpl_19 rfl (by decide) (by decide) ?_ ?_
    · intro (hc2 : ¬ (0 : Int32) < (lcmpW t (0 : Int64)))
      have hc2 := lq_le z_0 hc2; omega
    · intro (hc2 : (0 : Int32) < (lcmpW t (0 : Int64)))
      have hc2 := lq_gt z_0 hc2
      refine r_lloadN (pc' := 23) K1 dpl_22 rfl rfl ?_
      refine r_ldc2J (pc' := 26) K1 (hw _ (List.mem_of_getElem? (i := 101) rfl)) dpl_23 rfl ?_
      refine r_lcmp (pc' := 27) K1 dpl_26 rfl ?_
      refine r_if (pc1 := 30) (pc2 := 48) K1 dpl_27 rfl (by decide) (by decide) ?_ ?_
      · intro (hc3 : (0 : Int32) < (lcmpW t (28 : Int64)))
        have hc3 := lq_gt z_28 hc3
        refine r_lloadN (pc' := 49) K1 dpl_48 rfl rfl ?_
        refine r_ldc2J (pc' := 52) K1 (hw _ (List.mem_of_getElem? (i := 102) rfl)) dpl_49 rfl ?_
        refine r_lcmp (pc' := 53) K1 dpl_52 rfl ?_
        refine r_if (pc1 := 56) (pc2 := 154) K1 dpl_53 rfl (by decide) (by decide) ?_ ?_
        · intro (hc4 : (0 : Int32) < (lcmpW t (59 : Int64)))
          have hc4 := lq_gt z_59 hc4; omega
        · intro (hc4 : ¬ (0 : Int32) < (lcmpW t (59 : Int64)))
          refine r_aloadN (pc' := 57) K1 dpl_56 rfl rfl rfl ?_
          refine r_virtual (pc' := 60) (argsL := []) (rest := []) (W := 0) K1 (c_len l hw K1.ext F) F.1 (hw _ (List.mem_of_getElem? (i := 103) rfl)) (hw _ (List.mem_of_getElem? (i := 104) rfl)) (hw _ (List.mem_of_getElem? (i := 106) rfl)) (hw _ (List.mem_of_getElem? (i := 105) rfl)) (hw _ (List.mem_of_getElem? (i := 10) rfl)) (hw _ (List.mem_of_getElem? (i := 107) rfl)) (by decide) pdI rfl rfl rfl (Nat.le_refl _) (by decide) (by decide) (by decide) (by decide) dpl_57 rfl ?_
          rintro _ T3 _ K3 ⟨rfl, rfl⟩
          refine r_i2l (pc' := 61) K3 dpl_60 rfl ?_
          have qu := (i_l (show (31 : Int32).toInt = 31 from rfl))
          generalize (31 : Int32).toInt64 = u at qu ⊢
          refine r_lstore (Ls' := #[.val (.ref a), .val (.long n), .second, .val (.long t), .second, .val (.long u), .second]) (pc' := 63) K3 dpl_61 rfl rfl ?_
          refine r_lloadN (pc' := 64) K3 dpl_63 rfl rfl ?_
          refine r_lload (pc' := 66) K3 dpl_64 rfl rfl ?_
          refine r_lcmp (pc' := 67) K3 dpl_66 rfl ?_
          refine r_if (pc1 := 70) (pc2 := 88) K3 dpl_67 rfl (by decide) (by decide) ?_ ?_
          · intro (hc5 : (0 : Int32) < (lcmpW t u))
            have hc5 := lq_gt qu hc5
            refine r_aloadN (pc' := 89) K3 dpl_88 rfl rfl rfl ?_
            refine r_getF (pc' := 92) K3 (hw _ (List.mem_of_getElem? (i := 92) rfl)) F.2.2.1 dpl_89 rfl ?_
            intro T4 K4
            refine r_bipush (v := (12 : Int32)) (pc' := 94) K4 dpl_92 rfl (by decide) ?_
            refine r_icmp (pc1 := 97) (pc2 := 120) K4 dpl_94 rfl (by decide) (by decide) ?_ ?_
            · intro (hc6 : ¬ (3 : Int32) < (12 : Int32))
              exact absurd (by decide) hc6
            · intro (hc6 : (3 : Int32) < (12 : Int32))
              refine r_new (pc' := 100) K4 (hw _ (List.mem_of_getElem? (i := 81) rfl)) (hw _ (List.mem_of_getElem? (i := 82) rfl)) (hw _ (List.mem_of_getElem? (i := 10) rfl)) dpl_97 rfl (by decide) (by decide) ?_
              intro Tc1 hc1 o ho Kc1 Ec1 Oc1 Dc1
              have F := F.ext Ec1
              refine r_dup (pc' := 101) Kc1 dpl_100 rfl rfl ?_
              refine r_aloadN (pc' := 102) Kc1 dpl_101 rfl rfl rfl ?_
              refine r_getF (pc' := 105) Kc1 (hw _ (List.mem_of_getElem? (i := 90) rfl)) F.2.1 dpl_102 rfl ?_
              intro Tc102 Kc102
              refine r_aloadN (pc' := 106) Kc102 dpl_105 rfl rfl rfl ?_
              refine r_getF (pc' := 109) Kc102 (hw _ (List.mem_of_getElem? (i := 92) rfl)) F.2.2.1 dpl_106 rfl ?_
              intro Tc106 Kc106
              refine r_iconst (v := (1 : Int32)) (pc' := 110) Kc106 dpl_109 rfl (by decide) ?_
              refine r_iadd (pc' := 111) Kc106 dpl_110 rfl ?_
              refine r_lloadN (pc' := 112) Kc106 dpl_111 rfl rfl ?_
              refine r_lload (pc' := 114) Kc106 dpl_112 rfl rfl ?_
              refine r_lsub (pc' := 115) Kc106 dpl_114 rfl ?_
              refine r_l2i (pc' := 116) Kc106 dpl_115 rfl ?_
              have qdd := (l_i (l_sub (show t.toInt = t.toInt from rfl) (show u.toInt = u.toInt from rfl) (by omega)) (by omega))
              generalize (t - u).toInt32 = dd at qdd ⊢
              rw [show ((3 : Int32) + (1 : Int32)) = 4 from rfl]
              refine r_special (pc' := 119) (argsL := [.int y, .int (4 : Int32), .int dd]) (rest := [.ref o]) (W := 1) Kc106 (c_ld l hw Kc106.ext (by decide) ⟨by omega, by omega⟩ (by rw [ho]; exact K4.sz) Oc1 (Dc1 (Or.inr (hw _ (List.mem_of_getElem? (i := 91) rfl))) (ty := .int) (by decide)) (Dc1 (Or.inr (hw _ (List.mem_of_getElem? (i := 93) rfl))) (ty := .short) (by decide)) (Dc1 (Or.inr (hw _ (List.mem_of_getElem? (i := 95) rfl))) (ty := .short) (by decide))) rfl (hw _ (List.mem_of_getElem? (i := 83) rfl)) (hw _ (List.mem_of_getElem? (i := 84) rfl)) (hw _ (List.mem_of_getElem? (i := 10) rfl)) (hw _ (List.mem_of_getElem? (i := 86) rfl)) (by decide) pd3V rfl rfl rfl (Nat.le_refl _) (by decide) (by decide) (by decide) (by decide) dpl_116 rfl ?_
              rintro _ Tc2 hc2 Kc2 ⟨rfl, Kpc, Lc⟩
              have Xc := ext_keep Ec1 Kpc (allS (Nat.le_of_eq ho.symm) all0)
              exact r_retA Kc2 hret hlk rfl rfl dpl_119 (by decide) (by decide) ⟨o, 4, dd, rfl, Xc, Lc, Or.inr ⟨by omega, rfl, by omega⟩⟩
          · intro (hc5 : ¬ (0 : Int32) < (lcmpW t u))
            have hc5 := lq_le qu hc5
            refine r_new (pc' := 73) K3 (hw _ (List.mem_of_getElem? (i := 81) rfl)) (hw _ (List.mem_of_getElem? (i := 82) rfl)) (hw _ (List.mem_of_getElem? (i := 10) rfl)) dpl_70 rfl (by decide) (by decide) ?_
            intro Tb1 hb1 o ho Kb1 Eb1 Ob1 Db1
            have F := F.ext Eb1
            refine r_dup (pc' := 74) Kb1 dpl_73 rfl rfl ?_
            refine r_aloadN (pc' := 75) Kb1 dpl_74 rfl rfl rfl ?_
            refine r_getF (pc' := 78) Kb1 (hw _ (List.mem_of_getElem? (i := 90) rfl)) F.2.1 dpl_75 rfl ?_
            intro Tb75 Kb75
            refine r_aloadN (pc' := 79) Kb75 dpl_78 rfl rfl rfl ?_
            refine r_getF (pc' := 82) Kb75 (hw _ (List.mem_of_getElem? (i := 92) rfl)) F.2.2.1 dpl_79 rfl ?_
            intro Tb79 Kb79
            refine r_lloadN (pc' := 83) Kb79 dpl_82 rfl rfl ?_
            refine r_l2i (pc' := 84) Kb79 dpl_83 rfl ?_
            have qdd := (l_i (show t.toInt = t.toInt from rfl) (by omega))
            generalize t.toInt32 = dd at qdd ⊢
            refine r_special (pc' := 87) (argsL := [.int y, .int (3 : Int32), .int dd]) (rest := [.ref o]) (W := 1) Kb79 (c_ld l hw Kb79.ext (by decide) ⟨by omega, by omega⟩ (by rw [ho]; exact K3.sz) Ob1 (Db1 (Or.inr (hw _ (List.mem_of_getElem? (i := 91) rfl))) (ty := .int) (by decide)) (Db1 (Or.inr (hw _ (List.mem_of_getElem? (i := 93) rfl))) (ty := .short) (by decide)) (Db1 (Or.inr (hw _ (List.mem_of_getElem? (i := 95) rfl))) (ty := .short) (by decide))) rfl (hw _ (List.mem_of_getElem? (i := 83) rfl)) (hw _ (List.mem_of_getElem? (i := 84) rfl)) (hw _ (List.mem_of_getElem? (i := 10) rfl)) (hw _ (List.mem_of_getElem? (i := 86) rfl)) (by decide) pd3V rfl rfl rfl (Nat.le_refl _) (by decide) (by decide) (by decide) (by decide) dpl_84 rfl ?_
            rintro _ Tb2 hb2 Kb2 ⟨rfl, Kpb, Lb⟩
            have Xb := ext_keep Eb1 Kpb (allS (Nat.le_of_eq ho.symm) all0)
            exact r_retA Kb2 hret hlk rfl rfl dpl_87 (by decide) (by decide) ⟨o, 3, dd, rfl, Xb, Lb, Or.inl ⟨by omega, rfl, by omega⟩⟩
      · intro (hc3 : ¬ (0 : Int32) < (lcmpW t (28 : Int64)))
        have hc3 := lq_le z_28 hc3
        refine r_new (pc' := 33) K1 (hw _ (List.mem_of_getElem? (i := 81) rfl)) (hw _ (List.mem_of_getElem? (i := 82) rfl)) (hw _ (List.mem_of_getElem? (i := 10) rfl)) dpl_30 rfl (by decide) (by decide) ?_
        intro Ta1 ha1 o ho Ka1 Ea1 Oa1 Da1
        have F := F.ext Ea1
        refine r_dup (pc' := 34) Ka1 dpl_33 rfl rfl ?_
        refine r_aloadN (pc' := 35) Ka1 dpl_34 rfl rfl rfl ?_
        refine r_getF (pc' := 38) Ka1 (hw _ (List.mem_of_getElem? (i := 90) rfl)) F.2.1 dpl_35 rfl ?_
        intro Ta35 Ka35
        refine r_aloadN (pc' := 39) Ka35 dpl_38 rfl rfl rfl ?_
        refine r_getF (pc' := 42) Ka35 (hw _ (List.mem_of_getElem? (i := 92) rfl)) F.2.2.1 dpl_39 rfl ?_
        intro Ta39 Ka39
        refine r_lloadN (pc' := 43) Ka39 dpl_42 rfl rfl ?_
        refine r_l2i (pc' := 44) Ka39 dpl_43 rfl ?_
        have qdd := (l_i (show t.toInt = t.toInt from rfl) (by omega))
        generalize t.toInt32 = dd at qdd ⊢
        refine r_special (pc' := 47) (argsL := [.int y, .int (3 : Int32), .int dd]) (rest := [.ref o]) (W := 1) Ka39 (c_ld l hw Ka39.ext (by decide) ⟨by omega, by omega⟩ (by rw [ho]; exact K1.sz) Oa1 (Da1 (Or.inr (hw _ (List.mem_of_getElem? (i := 91) rfl))) (ty := .int) (by decide)) (Da1 (Or.inr (hw _ (List.mem_of_getElem? (i := 93) rfl))) (ty := .short) (by decide)) (Da1 (Or.inr (hw _ (List.mem_of_getElem? (i := 95) rfl))) (ty := .short) (by decide))) rfl (hw _ (List.mem_of_getElem? (i := 83) rfl)) (hw _ (List.mem_of_getElem? (i := 84) rfl)) (hw _ (List.mem_of_getElem? (i := 10) rfl)) (hw _ (List.mem_of_getElem? (i := 86) rfl)) (by decide) pd3V rfl rfl rfl (Nat.le_refl _) (by decide) (by decide) (by decide) (by decide) dpl_44 rfl ?_
        rintro _ Ta2 ha2 Ka2 ⟨rfl, Kpa, La⟩
        have Xa := ext_keep Ea1 Kpa (allS (Nat.le_of_eq ho.symm) all0)
        exact r_retA Ka2 hret hlk rfl rfl dpl_47 (by decide) (by decide) ⟨o, 3, dd, rfl, Xa, La, Or.inl ⟨by omega, rfl, by omega⟩⟩
  · intro (hc : (lcmpW n (0 : Int64)) = (0 : Int32))
    have hc := lq_eq z_0 hc
    refine r_aloadN (pc' := 7) K dpl_6 rfl rfl rfl ?_
    exact r_retA K hret hlk rfl rfl dpl_7 (by decide) (by decide) ⟨a, 3, 22, rfl, ⟨Nat.le_refl _, fun _ _ q => q⟩, F, Or.inl ⟨by omega, rfl, by rw [hc]; rfl⟩⟩
theorem own_wS {Z : State} {a0 : Array Value} (hw : ∀ d ∈ tables_1, d.before a0 Z = true) : ∀ a ∈ Bundle.stringAtoms, a.before a0 Z = true := fun d hd => by
  simp only [Bundle.stringAtoms, List.mem_cons, List.not_mem_nil, or_false] at hd
  rcases hd with rfl | rfl | rfl | rfl | rfl | rfl | rfl
  · exact (hw _ (List.mem_of_getElem? (i := 52) rfl))
  · exact (hw _ (List.mem_of_getElem? (i := 53) rfl))
  · exact (hw _ (List.mem_of_getElem? (i := 54) rfl))
  · exact (hw _ (List.mem_of_getElem? (i := 55) rfl))
  · exact (hw _ (List.mem_of_getElem? (i := 56) rfl))
  · exact (hw _ (List.mem_of_getElem? (i := 57) rfl))
  · exact (hw _ (List.mem_of_getElem? (i := 58) rfl))
theorem dof_0 : decode jdk_2323_method_4_code 0 = .ok (.getstatic 39, 3) := by decide +kernel
theorem dof_3 : decode jdk_2323_method_4_code 3 = .ok (.iload_n 0, 1) := by decide +kernel
theorem dof_4 : decode jdk_2323_method_4_code 4 = .ok (.i2l, 1) := by decide +kernel
theorem dof_5 : decode jdk_2323_method_4_code 5 = .ok (.invokevirtual 45, 3) := by decide +kernel
theorem dof_8 : decode jdk_2323_method_4_code 8 = .ok (.pop2, 1) := by decide +kernel
theorem dof_9 : decode jdk_2323_method_4_code 9 = .ok (.aload_n 1, 1) := by decide +kernel
theorem dof_10 : decode jdk_2323_method_4_code 10 = .ok (.ldc 49, 2) := by decide +kernel
theorem dof_12 : decode jdk_2323_method_4_code 12 = .ok (.invokestatic 21, 3) := by decide +kernel
theorem dof_15 : decode jdk_2323_method_4_code 15 = .ok (.pop, 1) := by decide +kernel
theorem dof_16 : decode jdk_2323_method_4_code 16 = .ok (.getstatic 51, 3) := by decide +kernel
theorem dof_19 : decode jdk_2323_method_4_code 19 = .ok (.iload_n 2, 1) := by decide +kernel
theorem dof_20 : decode jdk_2323_method_4_code 20 = .ok (.i2l, 1) := by decide +kernel
theorem dof_21 : decode jdk_2323_method_4_code 21 = .ok (.invokevirtual 45, 3) := by decide +kernel
theorem dof_24 : decode jdk_2323_method_4_code 24 = .ok (.pop2, 1) := by decide +kernel
theorem dof_25 : decode jdk_2323_method_4_code 25 = .ok (.iload_n 0, 1) := by decide +kernel
theorem dof_26 : decode jdk_2323_method_4_code 26 = .ok (.aload_n 1, 1) := by decide +kernel
theorem dof_27 : decode jdk_2323_method_4_code 27 = .ok (.invokevirtual 54, 3) := by decide +kernel
theorem dof_30 : decode jdk_2323_method_4_code 30 = .ok (.iload_n 2, 1) := by decide +kernel
theorem dof_31 : decode jdk_2323_method_4_code 31 = .ok (.invokestatic 60, 3) := by decide +kernel
theorem dof_34 : decode jdk_2323_method_4_code 34 = .ok (.areturn, 1) := by decide +kernel
set_option maxRecDepth 65536 in
set_option maxHeartbeats 4000000 in
theorem c_of (l : Launch) {Z : State} {a0 : Array Value} (hw : ∀ d ∈ tables_1, d.before a0 Z = true) {h : Heap} (hE : Ext Z.heap h) (hEL : EW Z a0 []) {ma fy fd : Addr} (Sm : Sta Z Z.heap "java/time/Month" "MARCH" "Ljava/time/Month;" (.ref ma)) (Em : Exa Z Z.heap ma "java/time/Month") (Fm : Fld Z Z.heap ma "java/lang/Enum" "ordinal" "I" (.int 2)) (Sy : Sta Z Z.heap "java/time/temporal/ChronoField" "YEAR" "Ljava/time/temporal/ChronoField;" (.ref fy)) (Cy : CFo Z Z.heap fy (-999999999) 999999999) (Sd : Sta Z Z.heap "java/time/temporal/ChronoField" "DAY_OF_MONTH" "Ljava/time/temporal/ChronoField;" (.ref fd)) (Cd : CFo Z Z.heap fd 1 31) {y : Int32} (y1 : 1583 ≤ y.toInt) (y2 : y.toInt ≤ 999999999) :
    ConW l (⟨"java/time/LocalDate", "of", "(ILjava/time/Month;I)Ljava/time/LocalDate;"⟩ : MethodName) jdk_2323_method_4_code 3 (some (.object "java/time/LocalDate")) [] ({ frames := 4, cells := 3, slots := 27, locals := 57 } : Room) Z [] #[.int y, .ref ma, .int 22] h (fun v h' => ∃ o, v = some (.ref o) ∧ Ext h h' ∧ LDo Z h' o y 3 22) := by
  refine con_introW (by first | exact plainFor_of_name pnLD | decide +kernel) hE ?_
  intro p e s m below meth c T K I0 hret hlk hnm
  have ef : entryFrame m #[.int y, .ref ma, .int 22] 3 = (mkF m 0 #[.val (.int y), .val (.ref ma), .val (.int (22 : Int32))] []) := by first | (simp [entryFrame, mkF, argsToLocals, Value.category]; done) | rfl
  rw [ef]
  refine r_getS (pc' := 3) K (hw _ (List.mem_of_getElem? (i := 12) rfl)) (Sy.ext K.ext) dof_0 rfl ?_
  intro T1 K1
  refine r_iloadN (pc' := 4) K1 dof_3 rfl rfl ?_
  refine r_i2l (pc' := 5) K1 dof_4 rfl ?_
  have qyl := (i_l (show y.toInt = y.toInt from rfl))
  generalize y.toInt64 = yl at qyl ⊢
  have z1 : (-999999999 : Int64).toInt = -999999999 := rfl
  have z2 : (999999999 : Int64).toInt = 999999999 := rfl
  refine r_virtual (pc' := 8) (argsL := [.long yl]) (rest := []) (W := 0) K1 (c_cv l hw K1.ext (Cy.ext K1.ext) (by omega) (by omega)) (Cy.ext K1.ext).1 (hw _ (List.mem_of_getElem? (i := 14) rfl)) (hw _ (List.mem_of_getElem? (i := 15) rfl)) (hw _ (List.mem_of_getElem? (i := 17) rfl)) (hw _ (List.mem_of_getElem? (i := 16) rfl)) (hw _ (List.mem_of_getElem? (i := 13) rfl)) (hw _ (List.mem_of_getElem? (i := 18) rfl)) (by decide) pdJJ rfl rfl rfl (Nat.le_refl _) (by decide) (by decide) (by decide) (by decide) dof_5 rfl ?_
  rintro _ T2 _ K2 ⟨rfl, rfl⟩
  refine r_pop2 (pc' := 9) K2 dof_8 rfl ?_
  refine r_aloadN (pc' := 10) K2 dof_9 rfl rfl rfl ?_
  refine w_ldcO (pc' := 12) (text := "month") (n := 20) K2 I0 hEL (hw _ (List.mem_of_getElem? (i := 51) rfl)) (own_wS hw) dof_10 rfl (by decide) (by decide) (by decide) (by decide) ?_
  intro q T3 h3 vm3 K3 I3 E3 C3
  refine r_static (pc' := 15) (argsL := [.ref ma, .ref q]) (rest := []) (W := 0) K3 (c_nn l hw K3.ext) (hw _ (List.mem_of_getElem? (i := 59) rfl)) (hw _ (List.mem_of_getElem? (i := 60) rfl)) (hw _ (List.mem_of_getElem? (i := 61) rfl)) (hw _ (List.mem_of_getElem? (i := 62) rfl)) (by decide) pdNN rfl rfl rfl (Nat.le_refl _) (by decide) (by decide) (by decide) (by decide) dof_12 rfl ?_
  rintro _ T4 _ K4 ⟨rfl, rfl⟩
  refine r_pop (pc' := 16) K4 dof_15 rfl rfl ?_
  refine r_getS (pc' := 19) K4 (hw _ (List.mem_of_getElem? (i := 63) rfl)) (Sd.ext K4.ext) dof_16 rfl ?_
  intro T5 K5
  refine r_iloadN (pc' := 20) K5 dof_19 rfl rfl ?_
  refine r_i2l (pc' := 21) K5 dof_20 rfl ?_
  have qdl := (i_l (show (22 : Int32).toInt = (22 : Int32).toInt from rfl))
  generalize (22 : Int32).toInt64 = dl at qdl ⊢
  have z3 : (1 : Int64).toInt = 1 := rfl
  have z4 : (31 : Int64).toInt = 31 := rfl
  have z5 : (22 : Int32).toInt = 22 := rfl
  refine r_virtual (pc' := 24) (argsL := [.long dl]) (rest := []) (W := 0) K5 (c_cv l hw K5.ext (Cd.ext K5.ext) (by omega) (by omega)) (Cd.ext K5.ext).1 (hw _ (List.mem_of_getElem? (i := 14) rfl)) (hw _ (List.mem_of_getElem? (i := 15) rfl)) (hw _ (List.mem_of_getElem? (i := 17) rfl)) (hw _ (List.mem_of_getElem? (i := 16) rfl)) (hw _ (List.mem_of_getElem? (i := 13) rfl)) (hw _ (List.mem_of_getElem? (i := 18) rfl)) (by decide) pdJJ rfl rfl rfl (Nat.le_refl _) (by decide) (by decide) (by decide) (by decide) dof_21 rfl ?_
  rintro _ T6 _ K6 ⟨rfl, rfl⟩
  refine r_pop2 (pc' := 25) K6 dof_24 rfl ?_
  refine r_iloadN (pc' := 26) K6 dof_25 rfl rfl ?_
  refine r_aloadN (pc' := 27) K6 dof_26 rfl rfl rfl ?_
  refine r_virtual (pc' := 30) (argsL := []) (rest := [.int y]) (W := 1) K6 (c_gv l hw K6.ext (Em.ext K6.ext) (Fm.ext K6.ext)) (Em.ext K6.ext) (hw _ (List.mem_of_getElem? (i := 64) rfl)) (hw _ (List.mem_of_getElem? (i := 65) rfl)) (hw _ (List.mem_of_getElem? (i := 67) rfl)) (hw _ (List.mem_of_getElem? (i := 66) rfl)) (hw _ (List.mem_of_getElem? (i := 7) rfl)) (hw _ (List.mem_of_getElem? (i := 68) rfl)) (by decide) pdI rfl rfl rfl (Nat.le_refl _) (by decide) (by decide) (by decide) (by decide) dof_27 rfl ?_
  rintro _ T7 _ K7 ⟨rfl, rfl⟩
  refine r_iloadN (pc' := 31) K7 dof_30 rfl rfl ?_
  refine r_static (pc' := 34) (argsL := [.int y, .int (3 : Int32), .int (22 : Int32)]) (rest := []) (W := 0) K7 (c_cr l hw K7.ext (by decide) (by decide)) (hw _ (List.mem_of_getElem? (i := 78) rfl)) (hw _ (List.mem_of_getElem? (i := 79) rfl)) (hw _ (List.mem_of_getElem? (i := 10) rfl)) (hw _ (List.mem_of_getElem? (i := 80) rfl)) (by decide) pd3 rfl rfl rfl (Nat.le_refl _) (by decide) (by decide) (by decide) (by decide) dof_31 rfl ?_
  rintro _ T8 h8 K8 ⟨o, rfl, E8, L8⟩
  exact w_retA K8 (I3.ext E8) hEL hret hlk rfl rfl dof_34 (by decide) (by decide) ⟨o, rfl, ext_tr E3 E8, L8⟩
theorem des_0 : decode prog_18_method_3_code 0 = .ok (.iload_n 0, 1) := by decide +kernel
theorem des_1 : decode prog_18_method_3_code 1 = .ok (.bipush 19, 2) := by decide +kernel
theorem des_3 : decode prog_18_method_3_code 3 = .ok (.irem, 1) := by decide +kernel
theorem des_4 : decode prog_18_method_3_code 4 = .ok (.istore_n 1, 1) := by decide +kernel
theorem des_5 : decode prog_18_method_3_code 5 = .ok (.iload_n 0, 1) := by decide +kernel
theorem des_6 : decode prog_18_method_3_code 6 = .ok (.bipush 100, 2) := by decide +kernel
theorem des_8 : decode prog_18_method_3_code 8 = .ok (.idiv, 1) := by decide +kernel
theorem des_9 : decode prog_18_method_3_code 9 = .ok (.istore_n 2, 1) := by decide +kernel
theorem des_10 : decode prog_18_method_3_code 10 = .ok (.iload_n 0, 1) := by decide +kernel
theorem des_11 : decode prog_18_method_3_code 11 = .ok (.bipush 100, 2) := by decide +kernel
theorem des_13 : decode prog_18_method_3_code 13 = .ok (.irem, 1) := by decide +kernel
theorem des_14 : decode prog_18_method_3_code 14 = .ok (.istore_n 3, 1) := by decide +kernel
theorem des_15 : decode prog_18_method_3_code 15 = .ok (.bipush 19, 2) := by decide +kernel
theorem des_17 : decode prog_18_method_3_code 17 = .ok (.iload_n 1, 1) := by decide +kernel
theorem des_18 : decode prog_18_method_3_code 18 = .ok (.imul, 1) := by decide +kernel
theorem des_19 : decode prog_18_method_3_code 19 = .ok (.iload_n 2, 1) := by decide +kernel
theorem des_20 : decode prog_18_method_3_code 20 = .ok (.iadd, 1) := by decide +kernel
theorem des_21 : decode prog_18_method_3_code 21 = .ok (.iload_n 2, 1) := by decide +kernel
theorem des_22 : decode prog_18_method_3_code 22 = .ok (.iconst 4, 1) := by decide +kernel
theorem des_23 : decode prog_18_method_3_code 23 = .ok (.idiv, 1) := by decide +kernel
theorem des_24 : decode prog_18_method_3_code 24 = .ok (.isub, 1) := by decide +kernel
theorem des_25 : decode prog_18_method_3_code 25 = .ok (.iload_n 2, 1) := by decide +kernel
theorem des_26 : decode prog_18_method_3_code 26 = .ok (.iload_n 2, 1) := by decide +kernel
theorem des_27 : decode prog_18_method_3_code 27 = .ok (.bipush 8, 2) := by decide +kernel
theorem des_29 : decode prog_18_method_3_code 29 = .ok (.iadd, 1) := by decide +kernel
theorem des_30 : decode prog_18_method_3_code 30 = .ok (.bipush 25, 2) := by decide +kernel
theorem des_32 : decode prog_18_method_3_code 32 = .ok (.idiv, 1) := by decide +kernel
theorem des_33 : decode prog_18_method_3_code 33 = .ok (.isub, 1) := by decide +kernel
theorem des_34 : decode prog_18_method_3_code 34 = .ok (.iconst 1, 1) := by decide +kernel
theorem des_35 : decode prog_18_method_3_code 35 = .ok (.iadd, 1) := by decide +kernel
theorem des_36 : decode prog_18_method_3_code 36 = .ok (.iconst 3, 1) := by decide +kernel
theorem des_37 : decode prog_18_method_3_code 37 = .ok (.idiv, 1) := by decide +kernel
theorem des_38 : decode prog_18_method_3_code 38 = .ok (.isub, 1) := by decide +kernel
theorem des_39 : decode prog_18_method_3_code 39 = .ok (.bipush 15, 2) := by decide +kernel
theorem des_41 : decode prog_18_method_3_code 41 = .ok (.iadd, 1) := by decide +kernel
theorem des_42 : decode prog_18_method_3_code 42 = .ok (.bipush 30, 2) := by decide +kernel
theorem des_44 : decode prog_18_method_3_code 44 = .ok (.irem, 1) := by decide +kernel
theorem des_45 : decode prog_18_method_3_code 45 = .ok (.istore 4, 2) := by decide +kernel
theorem des_47 : decode prog_18_method_3_code 47 = .ok (.bipush 32, 2) := by decide +kernel
theorem des_49 : decode prog_18_method_3_code 49 = .ok (.iconst 2, 1) := by decide +kernel
theorem des_50 : decode prog_18_method_3_code 50 = .ok (.iload_n 2, 1) := by decide +kernel
theorem des_51 : decode prog_18_method_3_code 51 = .ok (.iconst 4, 1) := by decide +kernel
theorem des_52 : decode prog_18_method_3_code 52 = .ok (.irem, 1) := by decide +kernel
theorem des_53 : decode prog_18_method_3_code 53 = .ok (.imul, 1) := by decide +kernel
theorem des_54 : decode prog_18_method_3_code 54 = .ok (.iadd, 1) := by decide +kernel
theorem des_55 : decode prog_18_method_3_code 55 = .ok (.iconst 2, 1) := by decide +kernel
theorem des_56 : decode prog_18_method_3_code 56 = .ok (.iload_n 3, 1) := by decide +kernel
theorem des_57 : decode prog_18_method_3_code 57 = .ok (.iconst 4, 1) := by decide +kernel
theorem des_58 : decode prog_18_method_3_code 58 = .ok (.idiv, 1) := by decide +kernel
theorem des_59 : decode prog_18_method_3_code 59 = .ok (.imul, 1) := by decide +kernel
theorem des_60 : decode prog_18_method_3_code 60 = .ok (.iadd, 1) := by decide +kernel
theorem des_61 : decode prog_18_method_3_code 61 = .ok (.iload 4, 2) := by decide +kernel
theorem des_63 : decode prog_18_method_3_code 63 = .ok (.isub, 1) := by decide +kernel
theorem des_64 : decode prog_18_method_3_code 64 = .ok (.iload_n 3, 1) := by decide +kernel
theorem des_65 : decode prog_18_method_3_code 65 = .ok (.iconst 4, 1) := by decide +kernel
theorem des_66 : decode prog_18_method_3_code 66 = .ok (.irem, 1) := by decide +kernel
theorem des_67 : decode prog_18_method_3_code 67 = .ok (.isub, 1) := by decide +kernel
theorem des_68 : decode prog_18_method_3_code 68 = .ok (.bipush 7, 2) := by decide +kernel
theorem des_70 : decode prog_18_method_3_code 70 = .ok (.irem, 1) := by decide +kernel
theorem des_71 : decode prog_18_method_3_code 71 = .ok (.istore 5, 2) := by decide +kernel
theorem des_73 : decode prog_18_method_3_code 73 = .ok (.iload_n 1, 1) := by decide +kernel
theorem des_74 : decode prog_18_method_3_code 74 = .ok (.bipush 11, 2) := by decide +kernel
theorem des_76 : decode prog_18_method_3_code 76 = .ok (.iload 4, 2) := by decide +kernel
theorem des_78 : decode prog_18_method_3_code 78 = .ok (.imul, 1) := by decide +kernel
theorem des_79 : decode prog_18_method_3_code 79 = .ok (.iadd, 1) := by decide +kernel
theorem des_80 : decode prog_18_method_3_code 80 = .ok (.bipush 22, 2) := by decide +kernel
theorem des_82 : decode prog_18_method_3_code 82 = .ok (.iload 5, 2) := by decide +kernel
theorem des_84 : decode prog_18_method_3_code 84 = .ok (.imul, 1) := by decide +kernel
theorem des_85 : decode prog_18_method_3_code 85 = .ok (.iadd, 1) := by decide +kernel
theorem des_86 : decode prog_18_method_3_code 86 = .ok (.sipush 451, 3) := by decide +kernel
theorem des_89 : decode prog_18_method_3_code 89 = .ok (.idiv, 1) := by decide +kernel
theorem des_90 : decode prog_18_method_3_code 90 = .ok (.istore 6, 2) := by decide +kernel
theorem des_92 : decode prog_18_method_3_code 92 = .ok (.iload 4, 2) := by decide +kernel
theorem des_94 : decode prog_18_method_3_code 94 = .ok (.iload 5, 2) := by decide +kernel
theorem des_96 : decode prog_18_method_3_code 96 = .ok (.iadd, 1) := by decide +kernel
theorem des_97 : decode prog_18_method_3_code 97 = .ok (.bipush 7, 2) := by decide +kernel
theorem des_99 : decode prog_18_method_3_code 99 = .ok (.iload 6, 2) := by decide +kernel
theorem des_101 : decode prog_18_method_3_code 101 = .ok (.imul, 1) := by decide +kernel
theorem des_102 : decode prog_18_method_3_code 102 = .ok (.isub, 1) := by decide +kernel
theorem des_103 : decode prog_18_method_3_code 103 = .ok (.istore 7, 2) := by decide +kernel
theorem des_105 : decode prog_18_method_3_code 105 = .ok (.iload_n 0, 1) := by decide +kernel
theorem des_106 : decode prog_18_method_3_code 106 = .ok (.getstatic 29, 3) := by decide +kernel
theorem des_109 : decode prog_18_method_3_code 109 = .ok (.bipush 22, 2) := by decide +kernel
theorem des_111 : decode prog_18_method_3_code 111 = .ok (.invokestatic 35, 3) := by decide +kernel
theorem des_114 : decode prog_18_method_3_code 114 = .ok (.iload 7, 2) := by decide +kernel
theorem des_116 : decode prog_18_method_3_code 116 = .ok (.i2l, 1) := by decide +kernel
theorem des_117 : decode prog_18_method_3_code 117 = .ok (.invokevirtual 39, 3) := by decide +kernel
theorem des_120 : decode prog_18_method_3_code 120 = .ok (.areturn, 1) := by decide +kernel
set_option maxRecDepth 65536 in
set_option maxHeartbeats 4000000 in
theorem c_es (l : Launch) {Z : State} {a0 : Array Value} (hw : ∀ d ∈ tables_1, d.before a0 Z = true) {h : Heap} (hE : Ext Z.heap h) (hEL : EW Z a0 []) {ma fy fd : Addr} (Sm : Sta Z Z.heap "java/time/Month" "MARCH" "Ljava/time/Month;" (.ref ma)) (Em : Exa Z Z.heap ma "java/time/Month") (Fm : Fld Z Z.heap ma "java/lang/Enum" "ordinal" "I" (.int 2)) (Sy : Sta Z Z.heap "java/time/temporal/ChronoField" "YEAR" "Ljava/time/temporal/ChronoField;" (.ref fy)) (Cy : CFo Z Z.heap fy (-999999999) 999999999) (Sd : Sta Z Z.heap "java/time/temporal/ChronoField" "DAY_OF_MONTH" "Ljava/time/temporal/ChronoField;" (.ref fd)) (Cd : CFo Z Z.heap fd 1 31) {y : Int32} (y1 : 1583 ≤ y.toInt) (y2 : y.toInt ≤ 999999999) :
    ConW l (⟨"com/example/indentary/indentary/conventions/Holiday$GoodFriday", "easterSunday", "(I)Ljava/time/LocalDate;"⟩ : MethodName) prog_18_method_3_code 8 (some (.object "java/time/LocalDate")) [] ({ frames := 5, cells := 4, slots := 30, locals := 71 } : Room) Z [] #[.int y] h (fun v h' => ∃ (o : Addr) (mo dd : Int32) (D : Int), v = some (.ref o) ∧ LDo Z h' o y mo dd ∧ Dof y.toInt D ∧ (22 + D ≤ 31 ∧ mo.toInt = 3 ∧ dd.toInt = 22 + D ∨ 31 < 22 + D ∧ mo.toInt = 4 ∧ dd.toInt = 22 + D - 31)) := by
  refine con_introW (by first | exact plainFor_of_name pnGF | decide +kernel) hE ?_
  intro p e s m below meth c T K I0 hret hlk hnm
  have ef : entryFrame m #[.int y] 8 = (mkF m 0 #[.val (.int y), .unset, .unset, .unset, .unset, .unset, .unset, .unset] []) := by first | (simp [entryFrame, mkF, argsToLocals, Value.category]; done) | rfl
  rw [ef]
  refine r_iloadN (pc' := 1) K des_0 rfl rfl ?_
  refine r_bipush (v := (19 : Int32)) (pc' := 3) K des_1 rfl (by decide) ?_
  refine r_irem (pc' := 4) K des_3 rfl (by decide) ?_
  have qg := (i_rem (show y.toInt = y.toInt from rfl) (show (19 : Int32).toInt = 19 from rfl) (by omega))
  generalize (y % (19 : Int32)) = g at qg ⊢
  refine r_istoreN (Ls' := #[.val (.int y), .val (.int g), .unset, .unset, .unset, .unset, .unset, .unset]) (pc' := 5) K des_4 rfl rfl ?_
  refine r_iloadN (pc' := 6) K des_5 rfl rfl ?_
  refine r_bipush (v := (100 : Int32)) (pc' := 8) K des_6 rfl (by decide) ?_
  refine r_idiv (pc' := 9) K des_8 rfl (by decide) ?_
  have qcc := (i_div (show y.toInt = y.toInt from rfl) (show (100 : Int32).toInt = 100 from rfl) (by omega) (by omega))
  generalize (y / (100 : Int32)) = cc at qcc ⊢
  refine r_istoreN (Ls' := #[.val (.int y), .val (.int g), .val (.int cc), .unset, .unset, .unset, .unset, .unset]) (pc' := 10) K des_9 rfl rfl ?_
  refine r_iloadN (pc' := 11) K des_10 rfl rfl ?_
  refine r_bipush (v := (100 : Int32)) (pc' := 13) K des_11 rfl (by decide) ?_
  refine r_irem (pc' := 14) K des_13 rfl (by decide) ?_
  have qoo := (i_rem (show y.toInt = y.toInt from rfl) (show (100 : Int32).toInt = 100 from rfl) (by omega))
  generalize (y % (100 : Int32)) = oo at qoo ⊢
  refine r_istoreN (Ls' := #[.val (.int y), .val (.int g), .val (.int cc), .val (.int oo), .unset, .unset, .unset, .unset]) (pc' := 15) K des_14 rfl rfl ?_
  refine r_bipush (v := (19 : Int32)) (pc' := 17) K des_15 rfl (by decide) ?_
  refine r_iloadN (pc' := 18) K des_17 rfl rfl ?_
  refine r_imul (pc' := 19) K des_18 rfl ?_
  refine r_iloadN (pc' := 20) K des_19 rfl rfl ?_
  refine r_iadd (pc' := 21) K des_20 rfl ?_
  refine r_iloadN (pc' := 22) K des_21 rfl rfl ?_
  refine r_iconst (v := (4 : Int32)) (pc' := 23) K des_22 rfl (by decide) ?_
  refine r_idiv (pc' := 24) K des_23 rfl (by decide) ?_
  refine r_isub (pc' := 25) K des_24 rfl ?_
  refine r_iloadN (pc' := 26) K des_25 rfl rfl ?_
  refine r_iloadN (pc' := 27) K des_26 rfl rfl ?_
  refine r_bipush (v := (8 : Int32)) (pc' := 29) K des_27 rfl (by decide) ?_
  refine r_iadd (pc' := 30) K des_29 rfl ?_
  refine r_bipush (v := (25 : Int32)) (pc' := 32) K des_30 rfl (by decide) ?_
  refine r_idiv (pc' := 33) K des_32 rfl (by decide) ?_
  refine r_isub (pc' := 34) K des_33 rfl ?_
  refine r_iconst (v := (1 : Int32)) (pc' := 35) K des_34 rfl (by decide) ?_
  refine r_iadd (pc' := 36) K des_35 rfl ?_
  refine r_iconst (v := (3 : Int32)) (pc' := 37) K des_36 rfl (by decide) ?_
  refine r_idiv (pc' := 38) K des_37 rfl (by decide) ?_
  refine r_isub (pc' := 39) K des_38 rfl ?_
  refine r_bipush (v := (15 : Int32)) (pc' := 41) K des_39 rfl (by decide) ?_
  refine r_iadd (pc' := 42) K des_41 rfl ?_
  refine r_bipush (v := (30 : Int32)) (pc' := 44) K des_42 rfl (by decide) ?_
  refine r_irem (pc' := 45) K des_44 rfl (by decide) ?_
  have qep := (i_rem (i_add (i_sub (i_sub (i_add (i_mul (show (19 : Int32).toInt = 19 from rfl) (show g.toInt = g.toInt from rfl) (by omega)) (show cc.toInt = cc.toInt from rfl) (by omega)) (i_div (show cc.toInt = cc.toInt from rfl) (show (4 : Int32).toInt = 4 from rfl) (by omega) (by omega)) (by omega)) (i_div (i_add (i_sub (show cc.toInt = cc.toInt from rfl) (i_div (i_add (show cc.toInt = cc.toInt from rfl) (show (8 : Int32).toInt = 8 from rfl) (by omega)) (show (25 : Int32).toInt = 25 from rfl) (by omega) (by omega)) (by omega)) (show (1 : Int32).toInt = 1 from rfl) (by omega)) (show (3 : Int32).toInt = 3 from rfl) (by omega) (by omega)) (by omega)) (show (15 : Int32).toInt = 15 from rfl) (by omega)) (show (30 : Int32).toInt = 30 from rfl) (by omega))
  generalize (((((((19 : Int32) * g) + cc) - (cc / (4 : Int32))) - (((cc - ((cc + (8 : Int32)) / (25 : Int32))) + (1 : Int32)) / (3 : Int32))) + (15 : Int32)) % (30 : Int32)) = ep at qep ⊢
  refine r_istore (Ls' := #[.val (.int y), .val (.int g), .val (.int cc), .val (.int oo), .val (.int ep), .unset, .unset, .unset]) (pc' := 47) K des_45 rfl rfl ?_
  refine r_bipush (v := (32 : Int32)) (pc' := 49) K des_47 rfl (by decide) ?_
  refine r_iconst (v := (2 : Int32)) (pc' := 50) K des_49 rfl (by decide) ?_
  refine r_iloadN (pc' := 51) K des_50 rfl rfl ?_
  refine r_iconst (v := (4 : Int32)) (pc' := 52) K des_51 rfl (by decide) ?_
  refine r_irem (pc' := 53) K des_52 rfl (by decide) ?_
  refine r_imul (pc' := 54) K des_53 rfl ?_
  refine r_iadd (pc' := 55) K des_54 rfl ?_
  refine r_iconst (v := (2 : Int32)) (pc' := 56) K des_55 rfl (by decide) ?_
  refine r_iloadN (pc' := 57) K des_56 rfl rfl ?_
  refine r_iconst (v := (4 : Int32)) (pc' := 58) K des_57 rfl (by decide) ?_
  refine r_idiv (pc' := 59) K des_58 rfl (by decide) ?_
  refine r_imul (pc' := 60) K des_59 rfl ?_
  refine r_iadd (pc' := 61) K des_60 rfl ?_
  refine r_iload (pc' := 63) K des_61 rfl rfl ?_
  refine r_isub (pc' := 64) K des_63 rfl ?_
  refine r_iloadN (pc' := 65) K des_64 rfl rfl ?_
  refine r_iconst (v := (4 : Int32)) (pc' := 66) K des_65 rfl (by decide) ?_
  refine r_irem (pc' := 67) K des_66 rfl (by decide) ?_
  refine r_isub (pc' := 68) K des_67 rfl ?_
  refine r_bipush (v := (7 : Int32)) (pc' := 70) K des_68 rfl (by decide) ?_
  refine r_irem (pc' := 71) K des_70 rfl (by decide) ?_
  have qwo := (i_rem (i_sub (i_sub (i_add (i_add (show (32 : Int32).toInt = 32 from rfl) (i_mul (show (2 : Int32).toInt = 2 from rfl) (i_rem (show cc.toInt = cc.toInt from rfl) (show (4 : Int32).toInt = 4 from rfl) (by omega)) (by omega)) (by omega)) (i_mul (show (2 : Int32).toInt = 2 from rfl) (i_div (show oo.toInt = oo.toInt from rfl) (show (4 : Int32).toInt = 4 from rfl) (by omega) (by omega)) (by omega)) (by omega)) (show ep.toInt = ep.toInt from rfl) (by omega)) (i_rem (show oo.toInt = oo.toInt from rfl) (show (4 : Int32).toInt = 4 from rfl) (by omega)) (by omega)) (show (7 : Int32).toInt = 7 from rfl) (by omega))
  generalize ((((((32 : Int32) + ((2 : Int32) * (cc % (4 : Int32)))) + ((2 : Int32) * (oo / (4 : Int32)))) - ep) - (oo % (4 : Int32))) % (7 : Int32)) = wo at qwo ⊢
  refine r_istore (Ls' := #[.val (.int y), .val (.int g), .val (.int cc), .val (.int oo), .val (.int ep), .val (.int wo), .unset, .unset]) (pc' := 73) K des_71 rfl rfl ?_
  refine r_iloadN (pc' := 74) K des_73 rfl rfl ?_
  refine r_bipush (v := (11 : Int32)) (pc' := 76) K des_74 rfl (by decide) ?_
  refine r_iload (pc' := 78) K des_76 rfl rfl ?_
  refine r_imul (pc' := 79) K des_78 rfl ?_
  refine r_iadd (pc' := 80) K des_79 rfl ?_
  refine r_bipush (v := (22 : Int32)) (pc' := 82) K des_80 rfl (by decide) ?_
  refine r_iload (pc' := 84) K des_82 rfl rfl ?_
  refine r_imul (pc' := 85) K des_84 rfl ?_
  refine r_iadd (pc' := 86) K des_85 rfl ?_
  refine r_sipush (v := (451 : Int32)) (pc' := 89) K des_86 rfl (by decide) ?_
  refine r_idiv (pc' := 90) K des_89 rfl (by decide) ?_
  have qco := (i_div (i_add (i_add (show g.toInt = g.toInt from rfl) (i_mul (show (11 : Int32).toInt = 11 from rfl) (show ep.toInt = ep.toInt from rfl) (by omega)) (by omega)) (i_mul (show (22 : Int32).toInt = 22 from rfl) (show wo.toInt = wo.toInt from rfl) (by omega)) (by omega)) (show (451 : Int32).toInt = 451 from rfl) (by omega) (by omega))
  generalize (((g + ((11 : Int32) * ep)) + ((22 : Int32) * wo)) / (451 : Int32)) = co at qco ⊢
  refine r_istore (Ls' := #[.val (.int y), .val (.int g), .val (.int cc), .val (.int oo), .val (.int ep), .val (.int wo), .val (.int co), .unset]) (pc' := 92) K des_90 rfl rfl ?_
  refine r_iload (pc' := 94) K des_92 rfl rfl ?_
  refine r_iload (pc' := 96) K des_94 rfl rfl ?_
  refine r_iadd (pc' := 97) K des_96 rfl ?_
  refine r_bipush (v := (7 : Int32)) (pc' := 99) K des_97 rfl (by decide) ?_
  refine r_iload (pc' := 101) K des_99 rfl rfl ?_
  refine r_imul (pc' := 102) K des_101 rfl ?_
  refine r_isub (pc' := 103) K des_102 rfl ?_
  have qdx := (i_sub (i_add (show ep.toInt = ep.toInt from rfl) (show wo.toInt = wo.toInt from rfl) (by omega)) (i_mul (show (7 : Int32).toInt = 7 from rfl) (show co.toInt = co.toInt from rfl) (by omega)) (by omega))
  generalize ((ep + wo) - ((7 : Int32) * co)) = dx at qdx ⊢
  refine r_istore (Ls' := #[.val (.int y), .val (.int g), .val (.int cc), .val (.int oo), .val (.int ep), .val (.int wo), .val (.int co), .val (.int dx)]) (pc' := 105) K des_103 rfl rfl ?_
  refine r_iloadN (pc' := 106) K des_105 rfl rfl ?_
  have hD : Dof y.toInt dx.toInt := ⟨g.toInt, cc.toInt, oo.toInt, ep.toInt, wo.toInt, co.toInt, qg, qcc, qoo, qep, qwo, qco, qdx⟩
  have hR := hD.rng y1
  refine r_getS (pc' := 109) K (hw _ (List.mem_of_getElem? (i := 6) rfl)) (Sm.ext K.ext) des_106 rfl ?_
  intro T1 K1
  refine r_bipush (v := (22 : Int32)) (pc' := 111) K1 des_109 rfl (by decide) ?_
  refine w_static (pc' := 114) (argsL := [.int y, .ref ma, .int (22 : Int32)]) (rest := []) (W := 0) K1 I0 hEL (c_of l hw K1.ext hEL Sm Em Fm Sy Cy Sd Cd y1 y2) (hw _ (List.mem_of_getElem? (i := 8) rfl)) (hw _ (List.mem_of_getElem? (i := 9) rfl)) (hw _ (List.mem_of_getElem? (i := 10) rfl)) (hw _ (List.mem_of_getElem? (i := 11) rfl)) (by decide) pdOf rfl rfl rfl (Nat.le_refl _) (by decide) (by decide) (by decide) (by decide) des_111 rfl ?_
  rintro _ T2 h2 vm2 K2 I2 C2 ⟨o, rfl, E2, L2⟩
  refine r_iload (pc' := 116) K2 des_114 rfl rfl ?_
  refine r_i2l (pc' := 117) K2 des_116 rfl ?_
  have qdn := (i_l (show dx.toInt = dx.toInt from rfl))
  generalize dx.toInt64 = dn at qdn ⊢
  refine r_virtual (pc' := 120) (argsL := [.long dn]) (rest := []) (W := 0) K2 (c_pl l hw K2.ext L2 (by omega) (by omega)) L2.1 (hw _ (List.mem_of_getElem? (i := 96) rfl)) (hw _ (List.mem_of_getElem? (i := 97) rfl)) (hw _ (List.mem_of_getElem? (i := 99) rfl)) (hw _ (List.mem_of_getElem? (i := 98) rfl)) (hw _ (List.mem_of_getElem? (i := 10) rfl)) (hw _ (List.mem_of_getElem? (i := 100) rfl)) (by decide) pdPl rfl rfl rfl (Nat.le_refl _) (by decide) (by decide) (by decide) (by decide) des_117 rfl ?_
  rintro _ T3 h3 K3 ⟨o2, mo, dd, rfl, E3, L3, hq⟩
  rw [qdn] at hq
  exact w_retA K3 (I2.ext E3) hEL hret hlk rfl rfl des_120 (by decide) (by decide) ⟨o2, mo, dd, _, rfl, L3, hD, hq⟩
set_option maxRecDepth 65536 in
set_option maxHeartbeats 4000000 in
theorem con0 (l : Launch) {Z : State} {a0 : Array Value} (hw : ∀ d ∈ tables_1, d.before a0 Z = true) {h : Heap} (hE : Ext Z.heap h) (hEL : EW Z a0 []) {ma fy fd : Addr} (Sm : Sta Z Z.heap "java/time/Month" "MARCH" "Ljava/time/Month;" (.ref ma)) (Em : Exa Z Z.heap ma "java/time/Month") (Fm : Fld Z Z.heap ma "java/lang/Enum" "ordinal" "I" (.int 2)) (Sy : Sta Z Z.heap "java/time/temporal/ChronoField" "YEAR" "Ljava/time/temporal/ChronoField;" (.ref fy)) (Cy : CFo Z Z.heap fy (-999999999) 999999999) (Sd : Sta Z Z.heap "java/time/temporal/ChronoField" "DAY_OF_MONTH" "Ljava/time/temporal/ChronoField;" (.ref fd)) (Cd : CFo Z Z.heap fd 1 31) {i0 : Int32} :
    ConW l x code maxLocals ret tables_1 room_1 Z [] #[.int i0] h (fun v h' => v = some (.int 1)) := by
  refine con_introW (by first | exact plainFor_of_name pnLaw | decide +kernel) hE ?_
  intro p e s m below meth c T K I0 hret hlk hnm
  have K : St Z "com/example/indentary/indentary/conventions/GoodFridayEasterSundayPinLaw" code 22 p l e room_1 (s.setVm s.vm) m #[.int i0] below meth c T h 0 0 := K
  have ef : entryFrame m #[.int i0] maxLocals = (mkF m 0 #[.val (.int i0), .unset, .unset, .unset, .unset, .unset, .unset, .unset, .unset, .unset, .unset, .unset, .unset, .unset, .unset, .unset, .unset, .unset, .unset, .unset, .unset, .unset] []) := by first | (simp [entryFrame, mkF, argsToLocals, Value.category, maxLocals]; done) | rfl
  rw [ef]
  refine r_sipush (v := (1583 : Int32)) (pc' := 3) K at_0 rfl (by decide) ?_
  refine r_iloadN (pc' := 4) K at_3 rfl rfl ?_
  refine r_ldcI (pc' := 6) K (hw _ (List.mem_of_getElem? (i := 0) rfl)) at_4 rfl ?_
  refine r_iand (pc' := 7) K at_6 rfl ?_
  have qj := c_mask i0 2147483647 31 (by decide) (by decide)
  simp only [show ((2 ^ 31 : Nat) : Int) = 2147483648 from rfl] at qj
  generalize (i0 &&& (2147483647 : Int32)) = j at qj ⊢
  refine r_ldcI (pc' := 9) K (hw _ (List.mem_of_getElem? (i := 1) rfl)) at_7 rfl ?_
  refine r_irem (pc' := 10) K at_9 rfl (by decide) ?_
  refine r_iadd (pc' := 11) K at_10 rfl ?_
  have qy := (i_add (show (1583 : Int32).toInt = 1583 from rfl) (i_rem (show j.toInt = j.toInt from rfl) (show (999998417 : Int32).toInt = 999998417 from rfl) (by omega)) (by omega))
  generalize ((1583 : Int32) + (j % (999998417 : Int32))) = y at qy ⊢
  refine r_istoreN (Ls' := #[.val (.int i0), .val (.int y), .unset, .unset, .unset, .unset, .unset, .unset, .unset, .unset, .unset, .unset, .unset, .unset, .unset, .unset, .unset, .unset, .unset, .unset, .unset, .unset]) (pc' := 12) K at_11 rfl rfl ?_
  refine r_iloadN (pc' := 13) K at_12 rfl rfl ?_
  have y1 : 1583 ≤ y.toInt := by omega
  have y2 : y.toInt ≤ 999999999 := by omega
  clear qj qy
  refine w_static (pc' := 16) (argsL := [.int y]) (rest := []) (W := 0) K I0 hEL (c_es l hw K.ext hEL Sm Em Fm Sy Cy Sd Cd y1 y2) (hw _ (List.mem_of_getElem? (i := 2) rfl)) (hw _ (List.mem_of_getElem? (i := 3) rfl)) (hw _ (List.mem_of_getElem? (i := 4) rfl)) (hw _ (List.mem_of_getElem? (i := 5) rfl)) (by decide) pdEs rfl rfl rfl (Nat.le_refl _) (by decide) (by decide) (by decide) (by decide) at_13 rfl ?_
  rintro _ T1 h1 vm1 K1 I1 C1 ⟨o, mo, dd, D, rfl, L1, hD, hq⟩
  refine r_astoreN (Ls' := #[.val (.int i0), .val (.int y), .val (.ref o), .unset, .unset, .unset, .unset, .unset, .unset, .unset, .unset, .unset, .unset, .unset, .unset, .unset, .unset, .unset, .unset, .unset, .unset, .unset]) (pc' := 17) K1 at_16 rfl rfl rfl ?_
  refine r_iloadN (pc' := 18) K1 at_17 rfl rfl ?_
  refine r_i2l (pc' := 19) K1 at_18 rfl ?_
  have qyl := (i_l (show y.toInt = y.toInt from rfl))
  generalize y.toInt64 = yl at qyl ⊢
  refine r_lstoreN (Ls' := #[.val (.int i0), .val (.int y), .val (.ref o), .val (.long yl), .second, .unset, .unset, .unset, .unset, .unset, .unset, .unset, .unset, .unset, .unset, .unset, .unset, .unset, .unset, .unset, .unset, .unset]) (pc' := 20) K1 at_19 rfl rfl ?_
  refine r_lloadN (pc' := 21) K1 at_20 rfl rfl ?_
  refine r_ldc2J (pc' := 24) K1 (hw _ (List.mem_of_getElem? (i := 108) rfl)) at_21 rfl ?_
  refine r_lrem (pc' := 25) K1 at_24 rfl (by decide) ?_
  refine r_lconst (v := (1 : Int64)) (pc' := 26) K1 at_25 rfl (by decide) ?_
  refine r_ladd (pc' := 27) K1 at_26 rfl ?_
  have qg := (l_add (l_rem (show yl.toInt = yl.toInt from rfl) (show (19 : Int64).toInt = 19 from rfl) (by omega)) (show (1 : Int64).toInt = 1 from rfl) (by omega))
  generalize ((yl - (yl / (19 : Int64)) * (19 : Int64)) + (1 : Int64)) = g at qg ⊢
  refine r_lstore (Ls' := #[.val (.int i0), .val (.int y), .val (.ref o), .val (.long yl), .second, .val (.long g), .second, .unset, .unset, .unset, .unset, .unset, .unset, .unset, .unset, .unset, .unset, .unset, .unset, .unset, .unset, .unset]) (pc' := 29) K1 at_27 rfl rfl ?_
  refine r_lloadN (pc' := 30) K1 at_29 rfl rfl ?_
  refine r_ldc2J (pc' := 33) K1 (hw _ (List.mem_of_getElem? (i := 109) rfl)) at_30 rfl ?_
  refine r_ldiv (pc' := 34) K1 at_33 rfl (by decide) ?_
  refine r_lconst (v := (1 : Int64)) (pc' := 35) K1 at_34 rfl (by decide) ?_
  refine r_ladd (pc' := 36) K1 at_35 rfl ?_
  have qcc := (l_add (l_div (show yl.toInt = yl.toInt from rfl) (show (100 : Int64).toInt = 100 from rfl) (by omega) (by omega)) (show (1 : Int64).toInt = 1 from rfl) (by omega))
  generalize ((yl / (100 : Int64)) + (1 : Int64)) = cc at qcc ⊢
  refine r_lstore (Ls' := #[.val (.int i0), .val (.int y), .val (.ref o), .val (.long yl), .second, .val (.long g), .second, .val (.long cc), .second, .unset, .unset, .unset, .unset, .unset, .unset, .unset, .unset, .unset, .unset, .unset, .unset, .unset]) (pc' := 38) K1 at_36 rfl rfl ?_
  refine r_ldc2J (pc' := 41) K1 (hw _ (List.mem_of_getElem? (i := 110) rfl)) at_38 rfl ?_
  refine r_lload (pc' := 43) K1 at_41 rfl rfl ?_
  refine r_lmul (pc' := 44) K1 at_43 rfl ?_
  refine r_ldc2J (pc' := 47) K1 (hw _ (List.mem_of_getElem? (i := 111) rfl)) at_44 rfl ?_
  refine r_ldiv (pc' := 48) K1 at_47 rfl (by decide) ?_
  refine r_ldc2J (pc' := 51) K1 (hw _ (List.mem_of_getElem? (i := 112) rfl)) at_48 rfl ?_
  refine r_lsub (pc' := 52) K1 at_51 rfl ?_
  have qxx := (l_sub (l_div (l_mul (show (3 : Int64).toInt = 3 from rfl) (show cc.toInt = cc.toInt from rfl) (by omega)) (show (4 : Int64).toInt = 4 from rfl) (by omega) (by omega)) (show (12 : Int64).toInt = 12 from rfl) (by omega))
  generalize ((((3 : Int64) * cc) / (4 : Int64)) - (12 : Int64)) = xx at qxx ⊢
  refine r_lstore (Ls' := #[.val (.int i0), .val (.int y), .val (.ref o), .val (.long yl), .second, .val (.long g), .second, .val (.long cc), .second, .val (.long xx), .second, .unset, .unset, .unset, .unset, .unset, .unset, .unset, .unset, .unset, .unset, .unset]) (pc' := 54) K1 at_52 rfl rfl ?_
  refine r_ldc2J (pc' := 57) K1 (hw _ (List.mem_of_getElem? (i := 113) rfl)) at_54 rfl ?_
  refine r_lload (pc' := 59) K1 at_57 rfl rfl ?_
  refine r_lmul (pc' := 60) K1 at_59 rfl ?_
  refine r_ldc2J (pc' := 63) K1 (hw _ (List.mem_of_getElem? (i := 114) rfl)) at_60 rfl ?_
  refine r_ladd (pc' := 64) K1 at_63 rfl ?_
  refine r_ldc2J (pc' := 67) K1 (hw _ (List.mem_of_getElem? (i := 115) rfl)) at_64 rfl ?_
  refine r_ldiv (pc' := 68) K1 at_67 rfl (by decide) ?_
  refine r_ldc2J (pc' := 71) K1 (hw _ (List.mem_of_getElem? (i := 114) rfl)) at_68 rfl ?_
  refine r_lsub (pc' := 72) K1 at_71 rfl ?_
  have qzz := (l_sub (l_div (l_add (l_mul (show (8 : Int64).toInt = 8 from rfl) (show cc.toInt = cc.toInt from rfl) (by omega)) (show (5 : Int64).toInt = 5 from rfl) (by omega)) (show (25 : Int64).toInt = 25 from rfl) (by omega) (by omega)) (show (5 : Int64).toInt = 5 from rfl) (by omega))
  generalize (((((8 : Int64) * cc) + (5 : Int64)) / (25 : Int64)) - (5 : Int64)) = zz at qzz ⊢
  refine r_lstore (Ls' := #[.val (.int i0), .val (.int y), .val (.ref o), .val (.long yl), .second, .val (.long g), .second, .val (.long cc), .second, .val (.long xx), .second, .val (.long zz), .second, .unset, .unset, .unset, .unset, .unset, .unset, .unset, .unset, .unset]) (pc' := 74) K1 at_72 rfl rfl ?_
  refine r_ldc2J (pc' := 77) K1 (hw _ (List.mem_of_getElem? (i := 114) rfl)) at_74 rfl ?_
  refine r_lloadN (pc' := 78) K1 at_77 rfl rfl ?_
  refine r_lmul (pc' := 79) K1 at_78 rfl ?_
  refine r_ldc2J (pc' := 82) K1 (hw _ (List.mem_of_getElem? (i := 111) rfl)) at_79 rfl ?_
  refine r_ldiv (pc' := 83) K1 at_82 rfl (by decide) ?_
  refine r_lload (pc' := 85) K1 at_83 rfl rfl ?_
  refine r_lsub (pc' := 86) K1 at_85 rfl ?_
  refine r_ldc2J (pc' := 89) K1 (hw _ (List.mem_of_getElem? (i := 116) rfl)) at_86 rfl ?_
  refine r_lsub (pc' := 90) K1 at_89 rfl ?_
  have qd := (l_sub (l_sub (l_div (l_mul (show (5 : Int64).toInt = 5 from rfl) (show yl.toInt = yl.toInt from rfl) (by omega)) (show (4 : Int64).toInt = 4 from rfl) (by omega) (by omega)) (show xx.toInt = xx.toInt from rfl) (by omega)) (show (10 : Int64).toInt = 10 from rfl) (by omega))
  generalize (((((5 : Int64) * yl) / (4 : Int64)) - xx) - (10 : Int64)) = d at qd ⊢
  refine r_lstore (Ls' := #[.val (.int i0), .val (.int y), .val (.ref o), .val (.long yl), .second, .val (.long g), .second, .val (.long cc), .second, .val (.long xx), .second, .val (.long zz), .second, .val (.long d), .second, .unset, .unset, .unset, .unset, .unset, .unset, .unset]) (pc' := 92) K1 at_90 rfl rfl ?_
  refine r_ldc2J (pc' := 95) K1 (hw _ (List.mem_of_getElem? (i := 117) rfl)) at_92 rfl ?_
  refine r_lload (pc' := 97) K1 at_95 rfl rfl ?_
  refine r_lmul (pc' := 98) K1 at_97 rfl ?_
  refine r_ldc2J (pc' := 101) K1 (hw _ (List.mem_of_getElem? (i := 118) rfl)) at_98 rfl ?_
  refine r_ladd (pc' := 102) K1 at_101 rfl ?_
  refine r_lload (pc' := 104) K1 at_102 rfl rfl ?_
  refine r_ladd (pc' := 105) K1 at_104 rfl ?_
  refine r_lload (pc' := 107) K1 at_105 rfl rfl ?_
  refine r_lsub (pc' := 108) K1 at_107 rfl ?_
  refine r_ldc2J (pc' := 111) K1 (hw _ (List.mem_of_getElem? (i := 119) rfl)) at_108 rfl ?_
  have qr := l_remS (l_sub (l_add (l_add (l_mul (show (11 : Int64).toInt = 11 from rfl) (show g.toInt = g.toInt from rfl) (by omega)) (show (20 : Int64).toInt = 20 from rfl) (by omega)) (show zz.toInt = zz.toInt from rfl) (by omega)) (show xx.toInt = xx.toInt from rfl) (by omega)) (show (30 : Int64).toInt = 30 from rfl)
  refine r_lrem (pc' := 112) K1 at_111 rfl (by decide) ?_
  generalize ((((((11 : Int64) * g) + (20 : Int64)) + zz) - xx) - ((((((11 : Int64) * g) + (20 : Int64)) + zz) - xx) / (30 : Int64)) * (30 : Int64)) = r at qr ⊢
  have br : -30 < r.toInt ∧ r.toInt < 30 := by omega
  refine r_ldc2J (pc' := 115) K1 (hw _ (List.mem_of_getElem? (i := 119) rfl)) at_112 rfl ?_
  refine r_ladd (pc' := 116) K1 at_115 rfl ?_
  refine r_ldc2J (pc' := 119) K1 (hw _ (List.mem_of_getElem? (i := 119) rfl)) at_116 rfl ?_
  refine r_lrem (pc' := 120) K1 at_119 rfl (by decide) ?_
  have qee := (l_rem (l_add (show r.toInt = r.toInt from rfl) (show (30 : Int64).toInt = 30 from rfl) (by omega)) (show (30 : Int64).toInt = 30 from rfl) (by omega))
  generalize ((r + (30 : Int64)) - ((r + (30 : Int64)) / (30 : Int64)) * (30 : Int64)) = ee at qee ⊢
  refine r_lstore (Ls' := #[.val (.int i0), .val (.int y), .val (.ref o), .val (.long yl), .second, .val (.long g), .second, .val (.long cc), .second, .val (.long xx), .second, .val (.long zz), .second, .val (.long d), .second, .val (.long ee), .second, .unset, .unset, .unset, .unset, .unset]) (pc' := 122) K1 at_120 rfl rfl ?_
  refine r_lload (pc' := 124) K1 at_122 rfl rfl ?_
  refine r_ldc2J (pc' := 127) K1 (hw _ (List.mem_of_getElem? (i := 115) rfl)) at_124 rfl ?_
  refine r_lcmp (pc' := 128) K1 at_127 rfl ?_
  have qE : ee.toInt = (11 * g.toInt + 20 + zz.toInt - xx.toInt) % 30 := by omega
  clear qr br qee
  have k25 : (25 : Int64).toInt = 25 := rfl
  have k11 : (11 : Int64).toInt = 11 := rfl
  have k24 : (24 : Int64).toInt = 24 := rfl
  have k21 : (21 : Int64).toInt = 21 := rfl
  have k31 : (31 : Int64).toInt = 31 := rfl
  have k7 : (7 : Int64).toInt = 7 := rfl
  have k30 : (30 : Int64).toInt = 30 := rfl
  have J155 : ∀ e2 : Int64, (((ee.toInt = 25 ∧ 11 < g.toInt ∨ ee.toInt = 24) ∧ e2.toInt = ee.toInt + 1) ∨ (¬ (ee.toInt = 25 ∧ 11 < g.toInt ∨ ee.toInt = 24) ∧ e2.toInt = ee.toInt)) → Run p e below (FinW Z [] s below 16 1152 (fun v h' => v = some (.int 1))) T1 (mkF m 155 #[.val (.int i0), .val (.int y), .val (.ref o), .val (.long yl), .second, .val (.long g), .second, .val (.long cc), .second, .val (.long xx), .second, .val (.long zz), .second, .val (.long d), .second, .val (.long e2), .second, .unset, .unset, .unset, .unset, .unset] []) := by
    intro e2 he2
    refine r_ldc2J (pc' := 158) K1 (hw _ (List.mem_of_getElem? (i := 121) rfl)) at_155 rfl ?_
    refine r_lload (pc' := 160) K1 at_158 rfl rfl ?_
    refine r_lsub (pc' := 161) K1 at_160 rfl ?_
    have qn := (l_sub (show (44 : Int64).toInt = 44 from rfl) (show e2.toInt = e2.toInt from rfl) (by omega))
    generalize ((44 : Int64) - e2) = n at qn ⊢
    refine r_lstore (Ls' := #[.val (.int i0), .val (.int y), .val (.ref o), .val (.long yl), .second, .val (.long g), .second, .val (.long cc), .second, .val (.long xx), .second, .val (.long zz), .second, .val (.long d), .second, .val (.long e2), .second, .val (.long n), .second, .unset, .unset, .unset]) (pc' := 163) K1 at_161 rfl rfl ?_
    refine r_lload (pc' := 165) K1 at_163 rfl rfl ?_
    refine r_ldc2J (pc' := 168) K1 (hw _ (List.mem_of_getElem? (i := 122) rfl)) at_165 rfl ?_
    refine r_lcmp (pc' := 169) K1 at_168 rfl ?_
    have J180 : ∀ n2 : Int64, ((n.toInt < 21 ∧ n2.toInt = n.toInt + 30) ∨ (¬ n.toInt < 21 ∧ n2.toInt = n.toInt)) → Run p e below (FinW Z [] s below 16 1152 (fun v h' => v = some (.int 1))) T1 (mkF m 180 #[.val (.int i0), .val (.int y), .val (.ref o), .val (.long yl), .second, .val (.long g), .second, .val (.long cc), .second, .val (.long xx), .second, .val (.long zz), .second, .val (.long d), .second, .val (.long e2), .second, .val (.long n2), .second, .unset, .unset, .unset] []) := by
      intro n2 hn2
      have bn : 0 ≤ n2.toInt ∧ n2.toInt ≤ 100 := by omega
      have bd : 0 ≤ d.toInt ∧ d.toInt ≤ 9000000000 := by omega
      refine r_lload (pc' := 182) K1 at_180 rfl rfl ?_
      refine r_ldc2J (pc' := 185) K1 (hw _ (List.mem_of_getElem? (i := 123) rfl)) at_182 rfl ?_
      refine r_ladd (pc' := 186) K1 at_185 rfl ?_
      refine r_lload (pc' := 188) K1 at_186 rfl rfl ?_
      refine r_lload (pc' := 190) K1 at_188 rfl rfl ?_
      refine r_ladd (pc' := 191) K1 at_190 rfl ?_
      refine r_ldc2J (pc' := 194) K1 (hw _ (List.mem_of_getElem? (i := 123) rfl)) at_191 rfl ?_
      refine r_lrem (pc' := 195) K1 at_194 rfl (by decide) ?_
      refine r_lsub (pc' := 196) K1 at_195 rfl ?_
      have qn3 := (l_sub (l_add (show n2.toInt = n2.toInt from rfl) (show (7 : Int64).toInt = 7 from rfl) (by omega)) (l_rem (l_add (show d.toInt = d.toInt from rfl) (show n2.toInt = n2.toInt from rfl) (by omega)) (show (7 : Int64).toInt = 7 from rfl) (by omega)) (by omega))
      generalize ((n2 + (7 : Int64)) - ((d + n2) - ((d + n2) / (7 : Int64)) * (7 : Int64))) = n3 at qn3 ⊢
      have hN : n3.toInt = 22 + D := pl_law y.toInt D y1 hD g.toInt cc.toInt xx.toInt zz.toInt d.toInt ee.toInt e2.toInt n.toInt n2.toInt n3.toInt (by rw [qg, qyl]) (by rw [qcc, qyl]) qxx qzz (by rw [qd, qyl]) qE he2 qn hn2 qn3
      rw [← hN] at hq
      refine r_lstore (Ls' := #[.val (.int i0), .val (.int y), .val (.ref o), .val (.long yl), .second, .val (.long g), .second, .val (.long cc), .second, .val (.long xx), .second, .val (.long zz), .second, .val (.long d), .second, .val (.long e2), .second, .val (.long n3), .second, .unset, .unset, .unset]) (pc' := 198) K1 at_196 rfl rfl ?_
      refine r_lload (pc' := 200) K1 at_198 rfl rfl ?_
      refine r_ldc2J (pc' := 203) K1 (hw _ (List.mem_of_getElem? (i := 124) rfl)) at_200 rfl ?_
      refine r_lcmp (pc' := 204) K1 at_203 rfl ?_
      refine r_if (pc1 := 207) (pc2 := 211) K1 at_204 rfl (by decide) (by decide) ?_ ?_
      · intro (c1 : ¬ (0 : Int32) < (lcmpW n3 (31 : Int64)))
        have c1 := lq_le k31 c1
        refine r_iconst (v := (3 : Int32)) (pc' := 212) K1 at_211 rfl (by decide) ?_
        refine r_istore (Ls' := #[.val (.int i0), .val (.int y), .val (.ref o), .val (.long yl), .second, .val (.long g), .second, .val (.long cc), .second, .val (.long xx), .second, .val (.long zz), .second, .val (.long d), .second, .val (.long e2), .second, .val (.long n3), .second, .val (.int (3 : Int32)), .unset, .unset]) (pc' := 214) K1 at_212 rfl rfl ?_
        refine r_lload (pc' := 216) K1 at_214 rfl rfl ?_
        refine r_ldc2J (pc' := 219) K1 (hw _ (List.mem_of_getElem? (i := 124) rfl)) at_216 rfl ?_
        refine r_lcmp (pc' := 220) K1 at_219 rfl ?_
        refine r_if (pc1 := 223) (pc2 := 232) K1 at_220 rfl (by decide) (by decide) ?_ ?_
        · intro (c2 : ¬ (0 : Int32) < (lcmpW n3 (31 : Int64)))
          refine r_lload (pc' := 234) K1 at_232 rfl rfl ?_
          refine r_lstore (Ls' := #[.val (.int i0), .val (.int y), .val (.ref o), .val (.long yl), .second, .val (.long g), .second, .val (.long cc), .second, .val (.long xx), .second, .val (.long zz), .second, .val (.long d), .second, .val (.long e2), .second, .val (.long n3), .second, .val (.int (3 : Int32)), .val (.long n3), .second]) (pc' := 236) K1 at_234 rfl rfl ?_
          have L1 := L1
          refine r_aloadN (pc' := 237) K1 at_236 rfl rfl rfl ?_
          refine r_virtual (pc' := 240) (argsL := []) (rest := []) (W := 0) K1 (c_gy l hw K1.ext L1) L1.1 (hw _ (List.mem_of_getElem? (i := 125) rfl)) (hw _ (List.mem_of_getElem? (i := 126) rfl)) (hw _ (List.mem_of_getElem? (i := 128) rfl)) (hw _ (List.mem_of_getElem? (i := 127) rfl)) (hw _ (List.mem_of_getElem? (i := 10) rfl)) (hw _ (List.mem_of_getElem? (i := 129) rfl)) (by decide) pdI rfl rfl rfl (Nat.le_refl _) (by decide) (by decide) (by decide) (by decide) at_237 rfl ?_
          rintro _ T5 _ K5 ⟨rfl, rfl⟩
          refine r_iloadN (pc' := 241) K5 at_240 rfl rfl ?_
          refine r_icmp (pc1 := 244) (pc2 := 268) K5 at_241 rfl (by decide) (by decide) ?_ ?_
          · intro (e1 : ¬ y = y)
            exact absurd rfl e1
          · intro (e1 : y = y)
            refine r_aloadN (pc' := 245) K5 at_244 rfl rfl rfl ?_
            refine r_virtual (pc' := 248) (argsL := []) (rest := []) (W := 0) K5 (c_gm l hw K5.ext L1) L1.1 (hw _ (List.mem_of_getElem? (i := 130) rfl)) (hw _ (List.mem_of_getElem? (i := 131) rfl)) (hw _ (List.mem_of_getElem? (i := 133) rfl)) (hw _ (List.mem_of_getElem? (i := 132) rfl)) (hw _ (List.mem_of_getElem? (i := 10) rfl)) (hw _ (List.mem_of_getElem? (i := 134) rfl)) (by decide) pdI rfl rfl rfl (Nat.le_refl _) (by decide) (by decide) (by decide) (by decide) at_245 rfl ?_
            rintro _ T6 _ K6 ⟨rfl, rfl⟩
            refine r_iload (pc' := 250) K6 at_248 rfl rfl ?_
            refine r_icmp (pc1 := 253) (pc2 := 268) K6 at_250 rfl (by decide) (by decide) ?_ ?_
            · intro (e2 : ¬ mo = (3 : Int32))
              exact absurd (Int32.toInt_inj.mp (by have : (3 : Int32).toInt = 3 := rfl; omega)) e2
            · intro (e2 : mo = (3 : Int32))
              refine r_aloadN (pc' := 254) K6 at_253 rfl rfl rfl ?_
              refine r_virtual (pc' := 257) (argsL := []) (rest := []) (W := 0) K6 (c_gd l hw K6.ext L1) L1.1 (hw _ (List.mem_of_getElem? (i := 135) rfl)) (hw _ (List.mem_of_getElem? (i := 136) rfl)) (hw _ (List.mem_of_getElem? (i := 138) rfl)) (hw _ (List.mem_of_getElem? (i := 137) rfl)) (hw _ (List.mem_of_getElem? (i := 10) rfl)) (hw _ (List.mem_of_getElem? (i := 139) rfl)) (by decide) pdI rfl rfl rfl (Nat.le_refl _) (by decide) (by decide) (by decide) (by decide) at_254 rfl ?_
              rintro _ T7 _ K7 ⟨rfl, rfl⟩
              refine r_i2l (pc' := 258) K7 at_257 rfl ?_
              have qdl := (i_l (show dd.toInt = dd.toInt from rfl))
              generalize dd.toInt64 = dl at qdl ⊢
              refine r_lload (pc' := 260) K7 at_258 rfl rfl ?_
              refine r_lcmp (pc' := 261) K7 at_260 rfl ?_
              refine r_if (pc1 := 264) (pc2 := 268) K7 at_261 rfl (by decide) (by decide) ?_ ?_
              · intro (e3 : ¬ (lcmpW dl n3) = (0 : Int32))
                exact absurd (by omega) (lq_ne rfl e3)
              · intro (e3 : (lcmpW dl n3) = (0 : Int32))
                refine r_iconst (v := (1 : Int32)) (pc' := 265) K7 at_264 rfl (by decide) ?_
                refine r_goto (pc' := 269) K7 at_265 (by decide) (by decide) ?_
                exact w_retZ K7 I1 hEL hret hlk (by decide) at_269 (by decide) (by decide) rfl
        · intro (c2 : (0 : Int32) < (lcmpW n3 (31 : Int64)))
          exact absurd (lq_gt k31 c2) c1
      · intro (c1 : (0 : Int32) < (lcmpW n3 (31 : Int64)))
        have c1 := lq_gt k31 c1
        refine r_iconst (v := (4 : Int32)) (pc' := 208) K1 at_207 rfl (by decide) ?_
        refine r_goto (pc' := 212) K1 at_208 (by decide) (by decide) ?_
        refine r_istore (Ls' := #[.val (.int i0), .val (.int y), .val (.ref o), .val (.long yl), .second, .val (.long g), .second, .val (.long cc), .second, .val (.long xx), .second, .val (.long zz), .second, .val (.long d), .second, .val (.long e2), .second, .val (.long n3), .second, .val (.int (4 : Int32)), .unset, .unset]) (pc' := 214) K1 at_212 rfl rfl ?_
        refine r_lload (pc' := 216) K1 at_214 rfl rfl ?_
        refine r_ldc2J (pc' := 219) K1 (hw _ (List.mem_of_getElem? (i := 124) rfl)) at_216 rfl ?_
        refine r_lcmp (pc' := 220) K1 at_219 rfl ?_
        refine r_if (pc1 := 223) (pc2 := 232) K1 at_220 rfl (by decide) (by decide) ?_ ?_
        · intro (c2 : ¬ (0 : Int32) < (lcmpW n3 (31 : Int64)))
          exact absurd c1 (lq_le k31 c2)
        · intro (c2 : (0 : Int32) < (lcmpW n3 (31 : Int64)))
          refine r_lload (pc' := 225) K1 at_223 rfl rfl ?_
          refine r_ldc2J (pc' := 228) K1 (hw _ (List.mem_of_getElem? (i := 124) rfl)) at_225 rfl ?_
          refine r_lsub (pc' := 229) K1 at_228 rfl ?_
          have qn4 := (l_sub (show n3.toInt = n3.toInt from rfl) (show (31 : Int64).toInt = 31 from rfl) (by omega))
          generalize (n3 - (31 : Int64)) = n4 at qn4 ⊢
          refine r_goto (pc' := 234) K1 at_229 (by decide) (by decide) ?_
          refine r_lstore (Ls' := #[.val (.int i0), .val (.int y), .val (.ref o), .val (.long yl), .second, .val (.long g), .second, .val (.long cc), .second, .val (.long xx), .second, .val (.long zz), .second, .val (.long d), .second, .val (.long e2), .second, .val (.long n3), .second, .val (.int (4 : Int32)), .val (.long n4), .second]) (pc' := 236) K1 at_234 rfl rfl ?_
          have L1 := L1
          refine r_aloadN (pc' := 237) K1 at_236 rfl rfl rfl ?_
          refine r_virtual (pc' := 240) (argsL := []) (rest := []) (W := 0) K1 (c_gy l hw K1.ext L1) L1.1 (hw _ (List.mem_of_getElem? (i := 125) rfl)) (hw _ (List.mem_of_getElem? (i := 126) rfl)) (hw _ (List.mem_of_getElem? (i := 128) rfl)) (hw _ (List.mem_of_getElem? (i := 127) rfl)) (hw _ (List.mem_of_getElem? (i := 10) rfl)) (hw _ (List.mem_of_getElem? (i := 129) rfl)) (by decide) pdI rfl rfl rfl (Nat.le_refl _) (by decide) (by decide) (by decide) (by decide) at_237 rfl ?_
          rintro _ T5 _ K5 ⟨rfl, rfl⟩
          refine r_iloadN (pc' := 241) K5 at_240 rfl rfl ?_
          refine r_icmp (pc1 := 244) (pc2 := 268) K5 at_241 rfl (by decide) (by decide) ?_ ?_
          · intro (e1 : ¬ y = y)
            exact absurd rfl e1
          · intro (e1 : y = y)
            refine r_aloadN (pc' := 245) K5 at_244 rfl rfl rfl ?_
            refine r_virtual (pc' := 248) (argsL := []) (rest := []) (W := 0) K5 (c_gm l hw K5.ext L1) L1.1 (hw _ (List.mem_of_getElem? (i := 130) rfl)) (hw _ (List.mem_of_getElem? (i := 131) rfl)) (hw _ (List.mem_of_getElem? (i := 133) rfl)) (hw _ (List.mem_of_getElem? (i := 132) rfl)) (hw _ (List.mem_of_getElem? (i := 10) rfl)) (hw _ (List.mem_of_getElem? (i := 134) rfl)) (by decide) pdI rfl rfl rfl (Nat.le_refl _) (by decide) (by decide) (by decide) (by decide) at_245 rfl ?_
            rintro _ T6 _ K6 ⟨rfl, rfl⟩
            refine r_iload (pc' := 250) K6 at_248 rfl rfl ?_
            refine r_icmp (pc1 := 253) (pc2 := 268) K6 at_250 rfl (by decide) (by decide) ?_ ?_
            · intro (e2 : ¬ mo = (4 : Int32))
              exact absurd (Int32.toInt_inj.mp (by have : (4 : Int32).toInt = 4 := rfl; omega)) e2
            · intro (e2 : mo = (4 : Int32))
              refine r_aloadN (pc' := 254) K6 at_253 rfl rfl rfl ?_
              refine r_virtual (pc' := 257) (argsL := []) (rest := []) (W := 0) K6 (c_gd l hw K6.ext L1) L1.1 (hw _ (List.mem_of_getElem? (i := 135) rfl)) (hw _ (List.mem_of_getElem? (i := 136) rfl)) (hw _ (List.mem_of_getElem? (i := 138) rfl)) (hw _ (List.mem_of_getElem? (i := 137) rfl)) (hw _ (List.mem_of_getElem? (i := 10) rfl)) (hw _ (List.mem_of_getElem? (i := 139) rfl)) (by decide) pdI rfl rfl rfl (Nat.le_refl _) (by decide) (by decide) (by decide) (by decide) at_254 rfl ?_
              rintro _ T7 _ K7 ⟨rfl, rfl⟩
              refine r_i2l (pc' := 258) K7 at_257 rfl ?_
              have qdl := (i_l (show dd.toInt = dd.toInt from rfl))
              generalize dd.toInt64 = dl at qdl ⊢
              refine r_lload (pc' := 260) K7 at_258 rfl rfl ?_
              refine r_lcmp (pc' := 261) K7 at_260 rfl ?_
              refine r_if (pc1 := 264) (pc2 := 268) K7 at_261 rfl (by decide) (by decide) ?_ ?_
              · intro (e3 : ¬ (lcmpW dl n4) = (0 : Int32))
                exact absurd (by omega) (lq_ne rfl e3)
              · intro (e3 : (lcmpW dl n4) = (0 : Int32))
                refine r_iconst (v := (1 : Int32)) (pc' := 265) K7 at_264 rfl (by decide) ?_
                refine r_goto (pc' := 269) K7 at_265 (by decide) (by decide) ?_
                exact w_retZ K7 I1 hEL hret hlk (by decide) at_269 (by decide) (by decide) rfl
    refine r_if (pc1 := 172) (pc2 := 180) K1 at_169 rfl (by decide) (by decide) ?_ ?_
    · intro (c3 : ¬ (lcmpW n (21 : Int64)) < (0 : Int32))
      have c3 := lq_ge k21 c3
      exact J180 n (Or.inr ⟨c3, rfl⟩)
    · intro (c3 : (lcmpW n (21 : Int64)) < (0 : Int32))
      have c3 := lq_lt k21 c3
      refine r_lload (pc' := 174) K1 at_172 rfl rfl ?_
      refine r_ldc2J (pc' := 177) K1 (hw _ (List.mem_of_getElem? (i := 119) rfl)) at_174 rfl ?_
      refine r_ladd (pc' := 178) K1 at_177 rfl ?_
      have qn2 := (l_add (show n.toInt = n.toInt from rfl) (show (30 : Int64).toInt = 30 from rfl) (by omega))
      generalize (n + (30 : Int64)) = n2 at qn2 ⊢
      refine r_lstore (Ls' := #[.val (.int i0), .val (.int y), .val (.ref o), .val (.long yl), .second, .val (.long g), .second, .val (.long cc), .second, .val (.long xx), .second, .val (.long zz), .second, .val (.long d), .second, .val (.long e2), .second, .val (.long n2), .second, .unset, .unset, .unset]) (pc' := 180) K1 at_178 rfl rfl ?_
      exact J180 n2 (Or.inl ⟨c3, qn2⟩)
  refine r_if (pc1 := 131) (pc2 := 140) K1 at_128 rfl (by decide) (by decide) ?_ ?_
  · intro (c4 : ¬ (lcmpW ee (25 : Int64)) = (0 : Int32))
    have c4 := lq_ne k25 c4
    refine r_lload (pc' := 142) K1 at_140 rfl rfl ?_
    refine r_ldc2J (pc' := 145) K1 (hw _ (List.mem_of_getElem? (i := 120) rfl)) at_142 rfl ?_
    refine r_lcmp (pc' := 146) K1 at_145 rfl ?_
    refine r_if (pc1 := 149) (pc2 := 155) K1 at_146 rfl (by decide) (by decide) ?_ ?_
    · intro (c6 : ¬ (lcmpW ee (24 : Int64)) = (0 : Int32))
      have c6 := lq_ne k24 c6
      exact J155 ee (Or.inr ⟨by omega, rfl⟩)
    · intro (c6 : (lcmpW ee (24 : Int64)) = (0 : Int32))
      have c6 := lq_eq k24 c6
      refine r_lload (pc' := 151) K1 at_149 rfl rfl ?_
      refine r_lconst (v := (1 : Int64)) (pc' := 152) K1 at_151 rfl (by decide) ?_
      refine r_ladd (pc' := 153) K1 at_152 rfl ?_
      have qe2 := (l_add (show ee.toInt = ee.toInt from rfl) (show (1 : Int64).toInt = 1 from rfl) (by omega))
      generalize (ee + (1 : Int64)) = e2 at qe2 ⊢
      refine r_lstore (Ls' := #[.val (.int i0), .val (.int y), .val (.ref o), .val (.long yl), .second, .val (.long g), .second, .val (.long cc), .second, .val (.long xx), .second, .val (.long zz), .second, .val (.long d), .second, .val (.long e2), .second, .unset, .unset, .unset, .unset, .unset]) (pc' := 155) K1 at_153 rfl rfl ?_
      exact J155 e2 (Or.inl ⟨by omega, qe2⟩)
  · intro (c4 : (lcmpW ee (25 : Int64)) = (0 : Int32))
    have c4 := lq_eq k25 c4
    refine r_lload (pc' := 133) K1 at_131 rfl rfl ?_
    refine r_ldc2J (pc' := 136) K1 (hw _ (List.mem_of_getElem? (i := 117) rfl)) at_133 rfl ?_
    refine r_lcmp (pc' := 137) K1 at_136 rfl ?_
    refine r_if (pc1 := 140) (pc2 := 149) K1 at_137 rfl (by decide) (by decide) ?_ ?_
    · intro (c5 : (0 : Int32) < (lcmpW g (11 : Int64)))
      have c5 := lq_gt k11 c5
      refine r_lload (pc' := 151) K1 at_149 rfl rfl ?_
      refine r_lconst (v := (1 : Int64)) (pc' := 152) K1 at_151 rfl (by decide) ?_
      refine r_ladd (pc' := 153) K1 at_152 rfl ?_
      have qe2 := (l_add (show ee.toInt = ee.toInt from rfl) (show (1 : Int64).toInt = 1 from rfl) (by omega))
      generalize (ee + (1 : Int64)) = e2 at qe2 ⊢
      refine r_lstore (Ls' := #[.val (.int i0), .val (.int y), .val (.ref o), .val (.long yl), .second, .val (.long g), .second, .val (.long cc), .second, .val (.long xx), .second, .val (.long zz), .second, .val (.long d), .second, .val (.long e2), .second, .unset, .unset, .unset, .unset, .unset]) (pc' := 155) K1 at_153 rfl rfl ?_
      exact J155 e2 (Or.inl ⟨by omega, qe2⟩)
    · intro (c5 : ¬ (0 : Int32) < (lcmpW g (11 : Int64)))
      have c5 := lq_le k11 c5
      refine r_lload (pc' := 142) K1 at_140 rfl rfl ?_
      refine r_ldc2J (pc' := 145) K1 (hw _ (List.mem_of_getElem? (i := 120) rfl)) at_142 rfl ?_
      refine r_lcmp (pc' := 146) K1 at_145 rfl ?_
      refine r_if (pc1 := 149) (pc2 := 155) K1 at_146 rfl (by decide) (by decide) ?_ ?_
      · intro (c6 : ¬ (lcmpW ee (24 : Int64)) = (0 : Int32))
        have c6 := lq_ne k24 c6
        exact J155 ee (Or.inr ⟨by omega, rfl⟩)
      · intro (c6 : (lcmpW ee (24 : Int64)) = (0 : Int32))
        have c6 := lq_eq k24 c6
        refine r_lload (pc' := 151) K1 at_149 rfl rfl ?_
        refine r_lconst (v := (1 : Int64)) (pc' := 152) K1 at_151 rfl (by decide) ?_
        refine r_ladd (pc' := 153) K1 at_152 rfl ?_
        have qe2 := (l_add (show ee.toInt = ee.toInt from rfl) (show (1 : Int64).toInt = 1 from rfl) (by omega))
        generalize (ee + (1 : Int64)) = e2 at qe2 ⊢
        refine r_lstore (Ls' := #[.val (.int i0), .val (.int y), .val (.ref o), .val (.long yl), .second, .val (.long g), .second, .val (.long cc), .second, .val (.long xx), .second, .val (.long zz), .second, .val (.long d), .second, .val (.long e2), .second, .unset, .unset, .unset, .unset, .unset]) (pc' := 155) K1 at_153 rfl rfl ?_
        exact J155 e2 (Or.inl ⟨by omega, qe2⟩)
theorem own_eqJ {args : Array Value} {Z : State} {t : Term} {n : Int64} (h : (Jvm.Cond.eq t (.long n)).value args Z none Z [] = some true) : t.eval args Z none [] Z = some (.long n) := by
  simp only [Cond.value, Term.eval] at h
  cases ht : t.eval args Z none [] Z with
  | none => simp [ht] at h
  | some x => cases x <;> simp [ht] at h ⊢ <;> exact h
theorem own_eqI {args : Array Value} {Z : State} {t : Term} {n : Int32} (h : (Jvm.Cond.eq t (.int n)).value args Z none Z [] = some true) : t.eval args Z none [] Z = some (.int n) := by
  simp only [Cond.value, Term.eval] at h
  cases ht : t.eval args Z none [] Z with
  | none => simp [ht] at h
  | some x => cases x <;> simp [ht] at h ⊢ <;> exact h
set_option maxRecDepth 65536 in
set_option maxHeartbeats 4000000 in
theorem comes_1 {Post : Tables → Env → Array Value → State → Outcome → State → Prop} (hpost : ∀ tb e args s v u, (limb_1_1.after args s (.returned v) u = true ∧ limb_1_2.after args s (.returned v) u = true ∧ True) → FramedW s (.returned v) u (Jvm.fieldLocs frame_1_writes args s ++ Jvm.arrayLocs frame_1_arrays args s ++ Jvm.staticLocs frame_1_statics s) 16 1152 → Post tb e args s (.returned v) u) :
    ArmFor flags0 classFile x code maxLocals ret World_1 tables_1 room_1 Calls_1 rest_1 Pre_1 Post := by
  intro l hfl _ _ p e ha hc hk s m args below hf hA hF happ hP
  obtain ⟨hcalls, hrest, hpre⟩ := hP
  obtain ⟨-, -, -, hnamed, -, -, -, hat⟩ := (Spec.applies_iff hf).mp happ
  obtain ⟨hg, hn⟩ := and_e (Cond.before_iff.mp (show (Jvm.Cond.and given_1 narrow_1).before args s = true from hpre))
  obtain ⟨g0, r0⟩ := and_e hg
  have g1 := r0
  obtain ⟨w0, rfl⟩ : ∃ w0 : Value, args = #[w0] := by
    have hs : args.size = 1 := by simpa [Cond.value, given_1] using g0
    obtain ⟨L⟩ := args
    match L, hs with
    | [w0], _ => exact ⟨w0, rfl⟩
  have hw := fun d (hd : d ∈ tables_1) => atoms_spec (ws := Jvm.Cond.code x code maxLocals ret :: tables_1) hat d (List.mem_cons_of_mem _ hd)
  obtain ⟨hsets, hown0⟩ := atoms_of _ (rest_1_c_eq ▸ (show rest_1_c.before _ s = true from hrest))
  obtain ⟨i0, e0⟩ := is_v g1
  obtain rfl : w0 = (.int i0) := Option.some.inj e0
  obtain ⟨ma, em⟩ := exa_v (Cond.before_iff.mp (hsets _ (List.mem_of_getElem? (i := 2) rfl)))
  have Sm := Sta.start em (Or.inl (hsets _ (List.mem_of_getElem? (i := 1) rfl)))
  have Em := exa_at em (Cond.before_iff.mp (hsets _ (List.mem_of_getElem? (i := 2) rfl)))
  have Fm := Fld.start ((fld_at em).symm.trans (own_eqI (Cond.before_iff.mp (hsets _ (List.mem_of_getElem? (i := 4) rfl)))))
  obtain ⟨fy, ey⟩ := exa_v (Cond.before_iff.mp (hsets _ (List.mem_of_getElem? (i := 11) rfl)))
  obtain ⟨ry, ky⟩ := exa_v (Cond.before_iff.mp (hsets _ (List.mem_of_getElem? (i := 27) rfl)))
  have Sy := Sta.start ey (Or.inl (hsets _ (List.mem_of_getElem? (i := 6) rfl)))
  have Cy := (⟨exa_at ey (Cond.before_iff.mp (hsets _ (List.mem_of_getElem? (i := 11) rfl))), ry, Fld.start ((fld_at ey).symm.trans ky), exa_at ky (Cond.before_iff.mp (hsets _ (List.mem_of_getElem? (i := 27) rfl))), Fld.start ((fld_at ky).symm.trans (own_eqJ (Cond.before_iff.mp (hsets _ (List.mem_of_getElem? (i := 28) rfl))))), Fld.start ((fld_at ky).symm.trans (own_eqJ (Cond.before_iff.mp (hsets _ (List.mem_of_getElem? (i := 31) rfl)))))⟩ : CFo s s.heap fy _ _)
  obtain ⟨fd, ed⟩ := exa_v (Cond.before_iff.mp (hsets _ (List.mem_of_getElem? (i := 39) rfl)))
  obtain ⟨rd, kd⟩ := exa_v (Cond.before_iff.mp (hsets _ (List.mem_of_getElem? (i := 55) rfl)))
  have Sd := Sta.start ed (Or.inl (hsets _ (List.mem_of_getElem? (i := 34) rfl)))
  have Cd := (⟨exa_at ed (Cond.before_iff.mp (hsets _ (List.mem_of_getElem? (i := 39) rfl))), rd, Fld.start ((fld_at ed).symm.trans kd), exa_at kd (Cond.before_iff.mp (hsets _ (List.mem_of_getElem? (i := 55) rfl))), Fld.start ((fld_at kd).symm.trans (own_eqJ (Cond.before_iff.mp (hsets _ (List.mem_of_getElem? (i := 56) rfl))))), Fld.start ((fld_at kd).symm.trans (own_eqJ (Cond.before_iff.mp (hsets _ (List.mem_of_getElem? (i := 59) rfl)))))⟩ : CFo s s.heap fd _ _)
  obtain ⟨n, o, h1, h2, h3, _, L, rfl, ⟨rfl, N, -⟩, -, hq⟩ := con0 l (Z := s) hw (h := s.heap) ⟨Nat.le_refl _, fun _ _ q => q⟩ EW.nil Sm Em Fm Sy Cy Sd Cd p e ha hc hk s m _ below hf ((Spec.applies_iff_loose hf).mp happ).1 ⟨rfl, State.Warmed39.refl s, rfl, fun _ hp => nomatch hp⟩ trivial
  refine ⟨n, _, h1, h2, h3, hpost _ _ _ _ _ _ ⟨Cond.after_iff.mpr rfl, Cond.after_iff.mpr (eq_i res_at (Term.int_eval (1)) rfl), trivial⟩ ⟨hq.1, hq.2.1, hq.2.2.1, (hq.2.2.2.sift fun y hy => Or.inr (N y hy)).mono (by decide) (by decide)⟩⟩
theorem main_1_1 : Claimed_1_1 := comes_1 fun _ _ _ _ _ _ h hF => ⟨h.1, hF⟩
theorem main_1_2 : Claimed_1_2 := comes_1 fun _ _ _ _ _ _ h hF => ⟨h.2.1, hF⟩
end Jvm.Pilot.@@N@@
namespace Jvm.Pilot.@@N@@
open Jvm Jvm.ClassFile Sem Op Lib Jvm.Free Jvm.Stand Jvm.Pilot.@@N@@.Jvm.D
/-! MADE BY PROGRAM (witnessworld.py) out of the Statement's table words and the real class files: 31 classes; the members and pool entries that the words name. The judged class is class 1, her method 1. -/
namespace start1
open Jvm.ClassFile
def u (s : String) : CpInfo := .utf8 (stringToUtf16 s)
/-- a pool by its gaps: so many unusable entries, then the entry; so many at the end -/
def gap : Nat → List CpInfo → List CpInfo
  | 0, r => r
  | n + 1, r => .unusable :: gap n r
def poolList (es : List (Nat × CpInfo)) (last : Nat) : List CpInfo := es.foldr (fun e r => gap e.1 (e.2 :: r)) (gap last [])
def pool (es : List (Nat × CpInfo)) (last : Nat) : Array CpInfo := ⟨poolList es last⟩
def fileOf (pool : Array CpInfo) (this : Nat) (attrs : Array Attribute := #[]) (ms : Array MethodInfo := #[]) (fl : Nat := 33) (sup : Nat := 0) (ifs : Array Nat := #[]) (fds : Array FieldInfo := #[]) : ClassFile where
  minorVersion := 0
  majorVersion := 65
  constantPool := pool
  accessFlags := fl
  thisClass := this
  superClass := sup
  interfaces := ifs
  fields := fds
  methods := ms
  attributes := attrs
def plain (name : String) (sup : Option ClassId) : Class where
  name := name
  kind := .ordinary
  loader := none
  accessFlags := 33
  super := sup
  interfaces := #[]
  cf := none
  fields := #[]
  methods := #[]
  instanceTypes := #[]
  staticTypes := #[]
  resolved := #[]
  callSites := []
  init := .initialized
  statics := none
  mirror := none

def pool0 : Array CpInfo := pool [(5, u "<init>"), (0, u "()V"), (1, .class_ 10), (1, u "java/lang/Object")] 113

def k0c0 : Code := { maxStack := 0, maxLocals := 1, code := object_method_1_code, exceptionTable := #[], attributes := #[] }
def k0m0 : Method := { name := "<init>", desc := "()V", sig := { parameters := [], returnType := none }, accessFlags := 1, code := some k0c0 }
/-- java/lang/Object -/
def k0 : Class := { plain "java/lang/Object" none with
  accessFlags := 33
  interfaces := #[]
  cf := some (fileOf pool0 8 #[] #[{ accessFlags := 1, nameIndex := 5, descriptorIndex := 6, attributes := #[] }] 33 0 #[] #[])
  fields := #[]
  methods := #[k0m0]
  instanceTypes := #[]
  staticTypes := #[]
  resolved := Array.replicate 124 none
  statics := none }

def pool1 : Array CpInfo := pool [(2, .class_ 4), (1, u "java/lang/Object"), (0, u "<init>"), (0, u "()V"), (0, .integer 2147483647), (0, .integer 999998417), (0, .methodref 10 11), (0, .class_ 12), (0, .nameAndType 13 14), (0, u "com/example/indentary/indentary/conventions/Holiday$GoodFriday"), (0, u "easterSunday"), (0, u "(I)Ljava/time/LocalDate;"), (0, .long 19), (1, .long 100), (1, .long 3), (1, .long 4), (1, .long 12), (1, .long 8), (1, .long 5), (1, .long 25), (1, .long 10), (1, .long 11), (1, .long 20), (1, .long 30), (1, .long 24), (1, .long 44), (1, .long 21), (1, .long 7), (1, .long 31), (1, .methodref 50 51), (0, .class_ 52), (0, .nameAndType 53 54), (0, u "java/time/LocalDate"), (0, u "getYear"), (0, u "()I"), (0, .methodref 50 56), (0, .nameAndType 57 54), (0, u "getMonthValue"), (0, .methodref 50 59), (0, .nameAndType 60 54), (0, u "getDayOfMonth"), (0, .class_ 62), (0, u "com/example/indentary/indentary/conventions/GoodFridayEasterSundayPinLaw"), (2, u "law"), (0, u "(I)Z")] 7

def k1m0 : Method := { name := "<init>", desc := "()V", sig := { parameters := [], returnType := none }, accessFlags := 1, code := none }
def k1c1 : Code := { maxStack := 6, maxLocals := 22, code := code, exceptionTable := #[], attributes := #[] }
def k1m1 : Method := { name := "law", desc := "(I)Z", sig := { parameters := [.int], returnType := some .boolean }, accessFlags := 9, code := some k1c1 }
/-- com/example/indentary/indentary/conventions/GoodFridayEasterSundayPinLaw -/
def k1 : Class := { plain "com/example/indentary/indentary/conventions/GoodFridayEasterSundayPinLaw" (some 0) with
  accessFlags := 49
  interfaces := #[]
  cf := some (fileOf pool1 61 #[] #[{ accessFlags := 1, nameIndex := 5, descriptorIndex := 6, attributes := #[] }, { accessFlags := 9, nameIndex := 65, descriptorIndex := 66, attributes := #[] }] 49 2 #[] #[])
  fields := #[]
  methods := #[k1m0, k1m1]
  instanceTypes := #[]
  staticTypes := #[]
  resolved := Array.replicate 74 none
  statics := none }

def pool2 : Array CpInfo := pool [(2, .class_ 4), (1, u "java/lang/Object"), (0, u "<init>"), (0, u "()V"), (0, .class_ 8), (0, u "java/lang/Record")] 13

def k2m0 : Method := { name := "<init>", desc := "()V", sig := { parameters := [], returnType := none }, accessFlags := 4, code := none }
/-- java/lang/Record -/
def k2 : Class := { plain "java/lang/Record" (some 0) with
  accessFlags := 1057
  interfaces := #[]
  cf := some (fileOf pool2 7 #[] #[{ accessFlags := 4, nameIndex := 5, descriptorIndex := 6, attributes := #[] }] 1057 2 #[] #[])
  fields := #[]
  methods := #[k2m0]
  instanceTypes := #[]
  staticTypes := #[]
  resolved := Array.replicate 22 none
  statics := none }

def pool3 : Array CpInfo := pool [(16, .class_ 17), (0, u "com/example/indentary/indentary/conventions/Holiday"), (0, .class_ 19), (0, u "java/lang/Object"), (9, .class_ 30), (0, u "com/example/indentary/indentary/conventions/Holiday$1"), (0, .class_ 32), (0, u "com/example/indentary/indentary/conventions/Holiday$GoodFriday"), (0, .class_ 34), (0, u "com/example/indentary/indentary/conventions/Holiday$WeekdayHoliday"), (0, .class_ 36), (0, u "com/example/indentary/indentary/conventions/Holiday$FixedHoliday"), (0, .class_ 38), (0, u "com/example/indentary/indentary/conventions/Holiday$Observed")] 5

/-- com/example/indentary/indentary/conventions/Holiday -/
def k3 : Class := { plain "com/example/indentary/indentary/conventions/Holiday" (some 0) with
  accessFlags := 1536
  interfaces := #[]
  cf := some (fileOf pool3 16 #[.nestMembers #[29, 31, 33, 35, 37]] #[] 1536 18 #[] #[])
  fields := #[]
  methods := #[]
  instanceTypes := #[]
  staticTypes := #[]
  resolved := Array.replicate 44 none
  statics := none }

def pool4 : Array CpInfo := pool [(2, .class_ 4), (1, u "java/lang/Record"), (0, u "<init>"), (0, u "()V"), (1, .class_ 10), (1, u "java/time/LocalDate"), (3, .class_ 16), (1, u "com/example/indentary/indentary/conventions/Holiday$GoodFriday"), (0, u "easterSunday"), (0, u "(I)Ljava/time/LocalDate;"), (5, u "(J)Ljava/time/LocalDate;"), (4, .fieldref 30 31), (0, .class_ 32), (0, .nameAndType 33 34), (0, u "java/time/Month"), (0, u "MARCH"), (0, u "Ljava/time/Month;"), (0, .methodref 8 36), (0, .nameAndType 37 38), (0, u "of"), (0, u "(ILjava/time/Month;I)Ljava/time/LocalDate;"), (0, .methodref 8 40), (0, .nameAndType 41 24), (0, u "plusDays"), (11, .class_ 54), (0, u "com/example/indentary/indentary/conventions/Holiday")] 26

def k4m0 : Method := { name := "<init>", desc := "()V", sig := { parameters := [], returnType := none }, accessFlags := 1, code := none }
def k4c1 : Code := { maxStack := 4, maxLocals := 8, code := prog_18_method_3_code, exceptionTable := #[], attributes := #[] }
def k4m1 : Method := { name := "easterSunday", desc := "(I)Ljava/time/LocalDate;", sig := { parameters := [.int], returnType := some (.object "java/time/LocalDate") }, accessFlags := 8, code := some k4c1 }
/-- com/example/indentary/indentary/conventions/Holiday$GoodFriday -/
def k4 : Class := { plain "com/example/indentary/indentary/conventions/Holiday$GoodFriday" (some 2) with
  accessFlags := 49
  interfaces := #[3]
  cf := some (fileOf pool4 14 #[.nestHost 53] #[{ accessFlags := 1, nameIndex := 5, descriptorIndex := 6, attributes := #[] }, { accessFlags := 8, nameIndex := 17, descriptorIndex := 18, attributes := #[] }] 49 2 #[53] #[])
  fields := #[]
  methods := #[k4m0, k4m1]
  instanceTypes := #[]
  staticTypes := #[]
  resolved := Array.replicate 81 none
  statics := none }

def pool5 : Array CpInfo := pool [(1, .class_ 2), (0, u "java/lang/constant/Constable"), (0, .class_ 4), (0, u "java/lang/Object")] 6

/-- java/lang/constant/Constable -/
def k5 : Class := { plain "java/lang/constant/Constable" (some 0) with
  accessFlags := 1537
  interfaces := #[]
  cf := some (fileOf pool5 1 #[] #[] 1537 3 #[] #[])
  fields := #[]
  methods := #[]
  instanceTypes := #[]
  staticTypes := #[]
  resolved := Array.replicate 11 none
  statics := none }

def pool6 : Array CpInfo := pool [(1, .class_ 2), (0, u "java/lang/Comparable"), (0, .class_ 4), (0, u "java/lang/Object")] 7

/-- java/lang/Comparable -/
def k6 : Class := { plain "java/lang/Comparable" (some 0) with
  accessFlags := 1537
  interfaces := #[]
  cf := some (fileOf pool6 1 #[] #[] 1537 3 #[] #[])
  fields := #[]
  methods := #[]
  instanceTypes := #[]
  staticTypes := #[]
  resolved := Array.replicate 12 none
  statics := none }

def pool7 : Array CpInfo := pool [(1, .class_ 2), (0, u "java/io/Serializable"), (0, .class_ 4), (0, u "java/lang/Object")] 2

/-- java/io/Serializable -/
def k7 : Class := { plain "java/io/Serializable" (some 0) with
  accessFlags := 1537
  interfaces := #[]
  cf := some (fileOf pool7 1 #[] #[] 1537 3 #[] #[])
  fields := #[]
  methods := #[]
  instanceTypes := #[]
  staticTypes := #[]
  resolved := Array.replicate 7 none
  statics := none }

def pool8 : Array CpInfo := pool [(2, .class_ 4), (1, u "java/lang/Enum"), (0, u "name"), (0, u "Ljava/lang/String;"), (0, .fieldref 2 8), (0, .nameAndType 9 10), (0, u "ordinal"), (0, u "I"), (1, .class_ 14), (1, u "java/lang/Object"), (4, u "hash"), (86, .class_ 108), (1, u "java/lang/Enum$EnumDesc"), (2, .class_ 112), (0, u "java/lang/constant/Constable"), (0, .class_ 114), (0, u "java/lang/Comparable"), (0, .class_ 116), (0, u "java/io/Serializable"), (9, u "()I")] 77

def k8c0 : Code := { maxStack := 1, maxLocals := 1, code := jdk_37_method_2_code, exceptionTable := #[], attributes := #[] }
def k8m0 : Method := { name := "ordinal", desc := "()I", sig := { parameters := [], returnType := some .int }, accessFlags := 17, code := some k8c0 }
/-- java/lang/Enum -/
def k8 : Class := { plain "java/lang/Enum" (some 0) with
  accessFlags := 1057
  interfaces := #[5, 6, 7]
  cf := some (fileOf pool8 2 #[.nestMembers #[106]] #[{ accessFlags := 17, nameIndex := 9, descriptorIndex := 126, attributes := #[] }] 1057 12 #[111, 113, 115] #[{ accessFlags := 18, nameIndex := 5, descriptorIndex := 6, attributes := #[] }, { accessFlags := 18, nameIndex := 9, descriptorIndex := 10, attributes := #[] }, { accessFlags := 2, nameIndex := 19, descriptorIndex := 10, attributes := #[] }])
  fields := #[{ name := "name", type := (.object "java/lang/String"), accessFlags := 18, slot := 0, constantValue := 0 }, { name := "ordinal", type := .int, accessFlags := 18, slot := 1, constantValue := 0 }, { name := "hash", type := .int, accessFlags := 2, slot := 2, constantValue := 0 }]
  methods := #[k8m0]
  instanceTypes := #[(.object "java/lang/String"), .int, .int]
  staticTypes := #[]
  resolved := Array.replicate 204 none
  statics := none }

def pool9 : Array CpInfo := pool [(4, .class_ 6), (1, u "java/time/temporal/TemporalAccessor"), (95, .class_ 103), (0, u "java/lang/Object")] 21

/-- java/time/temporal/TemporalAccessor -/
def k9 : Class := { plain "java/time/temporal/TemporalAccessor" (some 0) with
  accessFlags := 1537
  interfaces := #[]
  cf := some (fileOf pool9 4 #[] #[] 1537 102 #[] #[])
  fields := #[]
  methods := #[]
  instanceTypes := #[]
  staticTypes := #[]
  resolved := Array.replicate 125 none
  statics := none }

def pool10 : Array CpInfo := pool [(1, .class_ 2), (0, u "java/time/temporal/TemporalAdjuster"), (0, .class_ 4), (0, u "java/lang/Object")] 6

/-- java/time/temporal/TemporalAdjuster -/
def k10 : Class := { plain "java/time/temporal/TemporalAdjuster" (some 0) with
  accessFlags := 1537
  interfaces := #[]
  cf := some (fileOf pool10 1 #[] #[] 1537 3 #[] #[])
  fields := #[]
  methods := #[]
  instanceTypes := #[]
  staticTypes := #[]
  resolved := Array.replicate 11 none
  statics := none }

def pool11 : Array CpInfo := pool [(1, .class_ 2), (0, u "java/time/Month"), (2, u "JANUARY"), (0, u "Ljava/time/Month;"), (2, u "FEBRUARY"), (2, u "MARCH"), (2, u "APRIL"), (2, u "MAY"), (2, u "JUNE"), (2, u "JULY"), (2, u "AUGUST"), (2, u "SEPTEMBER"), (2, u "OCTOBER"), (2, u "NOVEMBER"), (2, u "DECEMBER"), (2, u "$VALUES"), (0, u "[Ljava/time/Month;"), (6, .class_ 52), (1, u "java/lang/Enum"), (31, u "ENUMS"), (28, .class_ 115), (1, u "java/time/temporal/TemporalAccessor"), (25, .methodref 1 142), (0, .nameAndType 143 144), (0, u "ordinal"), (0, u "()I"), (32, u "getValue"), (63, .class_ 242), (0, u "java/time/temporal/TemporalAdjuster")] 54

def k11c0 : Code := { maxStack := 2, maxLocals := 1, code := jdk_2329_method_6_code, exceptionTable := #[], attributes := #[] }
def k11m0 : Method := { name := "getValue", desc := "()I", sig := { parameters := [], returnType := some .int }, accessFlags := 1, code := some k11c0 }
/-- java/time/Month -/
def k11 : Class := { plain "java/time/Month" (some 8) with
  accessFlags := 16433
  interfaces := #[9, 10]
  cf := some (fileOf pool11 1 #[] #[{ accessFlags := 1, nameIndex := 177, descriptorIndex := 144, attributes := #[] }] 16433 50 #[113, 241] #[{ accessFlags := 16409, nameIndex := 5, descriptorIndex := 6, attributes := #[] }, { accessFlags := 16409, nameIndex := 9, descriptorIndex := 6, attributes := #[] }, { accessFlags := 16409, nameIndex := 12, descriptorIndex := 6, attributes := #[] }, { accessFlags := 16409, nameIndex := 15, descriptorIndex := 6, attributes := #[] }, { accessFlags := 16409, nameIndex := 18, descriptorIndex := 6, attributes := #[] }, { accessFlags := 16409, nameIndex := 21, descriptorIndex := 6, attributes := #[] }, { accessFlags := 16409, nameIndex := 24, descriptorIndex := 6, attributes := #[] }, { accessFlags := 16409, nameIndex := 27, descriptorIndex := 6, attributes := #[] }, { accessFlags := 16409, nameIndex := 30, descriptorIndex := 6, attributes := #[] }, { accessFlags := 16409, nameIndex := 33, descriptorIndex := 6, attributes := #[] }, { accessFlags := 16409, nameIndex := 36, descriptorIndex := 6, attributes := #[] }, { accessFlags := 16409, nameIndex := 39, descriptorIndex := 6, attributes := #[] }, { accessFlags := 26, nameIndex := 84, descriptorIndex := 43, attributes := #[] }, { accessFlags := 4122, nameIndex := 42, descriptorIndex := 43, attributes := #[] }])
  fields := #[{ name := "JANUARY", type := (.object "java/time/Month"), accessFlags := 16409, slot := 0, constantValue := 0 }, { name := "FEBRUARY", type := (.object "java/time/Month"), accessFlags := 16409, slot := 1, constantValue := 0 }, { name := "MARCH", type := (.object "java/time/Month"), accessFlags := 16409, slot := 2, constantValue := 0 }, { name := "APRIL", type := (.object "java/time/Month"), accessFlags := 16409, slot := 3, constantValue := 0 }, { name := "MAY", type := (.object "java/time/Month"), accessFlags := 16409, slot := 4, constantValue := 0 }, { name := "JUNE", type := (.object "java/time/Month"), accessFlags := 16409, slot := 5, constantValue := 0 }, { name := "JULY", type := (.object "java/time/Month"), accessFlags := 16409, slot := 6, constantValue := 0 }, { name := "AUGUST", type := (.object "java/time/Month"), accessFlags := 16409, slot := 7, constantValue := 0 }, { name := "SEPTEMBER", type := (.object "java/time/Month"), accessFlags := 16409, slot := 8, constantValue := 0 }, { name := "OCTOBER", type := (.object "java/time/Month"), accessFlags := 16409, slot := 9, constantValue := 0 }, { name := "NOVEMBER", type := (.object "java/time/Month"), accessFlags := 16409, slot := 10, constantValue := 0 }, { name := "DECEMBER", type := (.object "java/time/Month"), accessFlags := 16409, slot := 11, constantValue := 0 }, { name := "ENUMS", type := (.array (.object "java/time/Month")), accessFlags := 26, slot := 12, constantValue := 0 }, { name := "$VALUES", type := (.array (.object "java/time/Month")), accessFlags := 4122, slot := 13, constantValue := 0 }]
  methods := #[k11m0]
  instanceTypes := #[(.object "java/lang/String"), .int, .int]
  staticTypes := #[(.object "java/time/Month"), (.object "java/time/Month"), (.object "java/time/Month"), (.object "java/time/Month"), (.object "java/time/Month"), (.object "java/time/Month"), (.object "java/time/Month"), (.object "java/time/Month"), (.object "java/time/Month"), (.object "java/time/Month"), (.object "java/time/Month"), (.object "java/time/Month"), (.array (.object "java/time/Month")), (.array (.object "java/time/Month"))]
  resolved := Array.replicate 297 none
  statics := some 0 }

def pool12 : Array CpInfo := pool [(22, .class_ 24), (1, u "java/time/temporal/Temporal"), (2, .class_ 28), (0, u "java/lang/Object"), (0, .class_ 30), (0, u "java/time/temporal/TemporalAccessor")] 25

/-- java/time/temporal/Temporal -/
def k12 : Class := { plain "java/time/temporal/Temporal" (some 0) with
  accessFlags := 1537
  interfaces := #[9]
  cf := some (fileOf pool12 22 #[] #[] 1537 27 #[29] #[])
  fields := #[]
  methods := #[]
  instanceTypes := #[]
  staticTypes := #[]
  resolved := Array.replicate 56 none
  statics := none }

def pool13 : Array CpInfo := pool [(9, .class_ 10), (0, u "java/time/chrono/ChronoLocalDate"), (104, .class_ 117), (1, u "java/time/temporal/Temporal"), (134, .class_ 253), (0, u "java/lang/Object"), (23, .class_ 278), (0, u "java/time/temporal/TemporalAdjuster"), (0, .class_ 280), (0, u "java/lang/Comparable")] 86

/-- java/time/chrono/ChronoLocalDate -/
def k13 : Class := { plain "java/time/chrono/ChronoLocalDate" (some 0) with
  accessFlags := 1537
  interfaces := #[12, 10, 6]
  cf := some (fileOf pool13 9 #[] #[] 1537 252 #[115, 277, 279] #[])
  fields := #[]
  methods := #[]
  instanceTypes := #[]
  staticTypes := #[]
  resolved := Array.replicate 367 none
  statics := none }

def pool14 : Array CpInfo := pool [(1, .class_ 2), (0, u "java/time/LocalDate"), (18, .methodref 22 23), (0, .class_ 24), (0, .nameAndType 25 26), (0, u "java/util/Objects"), (0, u "requireNonNull"), (0, u "(Ljava/lang/Object;Ljava/lang/String;)Ljava/lang/Object;"), (12, .fieldref 40 41), (0, .class_ 42), (0, .nameAndType 43 44), (0, u "java/time/temporal/ChronoField"), (0, u "YEAR"), (0, u "Ljava/time/temporal/ChronoField;"), (0, .methodref 40 46), (0, .nameAndType 47 48), (0, u "checkValidValue"), (0, u "(J)J"), (0, .string 50), (0, u "month"), (0, .fieldref 40 52), (0, .nameAndType 53 44), (0, u "DAY_OF_MONTH"), (0, .methodref 55 56), (0, .class_ 57), (0, .nameAndType 58 59), (0, u "java/time/Month"), (0, u "getValue"), (0, u "()I"), (0, .methodref 1 61), (0, .nameAndType 62 63), (0, u "create"), (0, u "(III)Ljava/time/LocalDate;"), (21, .nameAndType 86 87), (0, u "<init>"), (0, u "()V"), (20, u "of"), (12, .methodref 1 122), (0, .nameAndType 86 123), (0, u "(III)V"), (36, u "(J)Ljava/time/LocalDate;"), (82, .methodref 244 85), (0, .class_ 245), (0, u "java/lang/Object"), (0, .fieldref 1 247), (0, .nameAndType 248 249), (0, u "year"), (0, u "I"), (0, .fieldref 1 251), (0, .nameAndType 50 252), (0, u "S"), (0, .fieldref 1 254), (0, .nameAndType 255 252), (0, u "day"), (1, .class_ 259), (1, u "java/time/chrono/ChronoLocalDate"), (10, .class_ 272), (1, u "java/time/LocalDate$1"), (5, .methodref 1 279), (0, .nameAndType 280 59), (0, u "lengthOfMonth"), (22, u "getYear"), (76, .class_ 382), (1, u "java/time/temporal/TemporalAdjuster"), (4, u "plusDays"), (95, .long 28), (1, .long 59), (50, u "getDayOfMonth"), (51, u "MAX"), (0, u "Ljava/time/LocalDate;"), (2, u "MIN"), (176, u "EPOCH"), (0, .class_ 771), (0, u "java/time/temporal/Temporal"), (0, .class_ 773), (0, u "java/io/Serializable"), (0, u "serialVersionUID"), (0, u "J"), (3, u "DAYS_PER_CYCLE"), (1, u "DAYS_0000_TO_1970"), (8, u "(ILjava/time/Month;I)Ljava/time/LocalDate;"), (33, u "getMonthValue")] 163

def k14c0 : Code := { maxStack := 3, maxLocals := 3, code := jdk_2323_method_4_code, exceptionTable := #[], attributes := #[] }
def k14m0 : Method := { name := "of", desc := "(ILjava/time/Month;I)Ljava/time/LocalDate;", sig := { parameters := [.int, (.object "java/time/Month"), .int], returnType := some (.object "java/time/LocalDate") }, accessFlags := 9, code := some k14c0 }
def k14c1 : Code := { maxStack := 5, maxLocals := 4, code := jdk_2323_method_12_code, exceptionTable := #[], attributes := #[] }
def k14m1 : Method := { name := "create", desc := "(III)Ljava/time/LocalDate;", sig := { parameters := [.int, .int, .int], returnType := some (.object "java/time/LocalDate") }, accessFlags := 10, code := some k14c1 }
def k14c2 : Code := { maxStack := 2, maxLocals := 4, code := jdk_2323_method_14_code, exceptionTable := #[], attributes := #[] }
def k14m2 : Method := { name := "<init>", desc := "(III)V", sig := { parameters := [.int, .int, .int], returnType := none }, accessFlags := 2, code := some k14c2 }
def k14c3 : Code := { maxStack := 1, maxLocals := 1, code := jdk_2323_method_24_code, exceptionTable := #[], attributes := #[] }
def k14m3 : Method := { name := "getYear", desc := "()I", sig := { parameters := [], returnType := some .int }, accessFlags := 1, code := some k14c3 }
def k14c4 : Code := { maxStack := 1, maxLocals := 1, code := jdk_2323_method_25_code, exceptionTable := #[], attributes := #[] }
def k14m4 : Method := { name := "getMonthValue", desc := "()I", sig := { parameters := [], returnType := some .int }, accessFlags := 1, code := some k14c4 }
def k14c5 : Code := { maxStack := 1, maxLocals := 1, code := jdk_2323_method_27_code, exceptionTable := #[], attributes := #[] }
def k14m5 : Method := { name := "getDayOfMonth", desc := "()I", sig := { parameters := [], returnType := some .int }, accessFlags := 1, code := some k14c5 }
def k14c6 : Code := { maxStack := 1, maxLocals := 1, code := jdk_2323_method_31_code, exceptionTable := #[], attributes := #[] }
def k14m6 : Method := { name := "lengthOfMonth", desc := "()I", sig := { parameters := [], returnType := some .int }, accessFlags := 1, code := some k14c6 }
def k14c7 : Code := { maxStack := 8, maxLocals := 7, code := jdk_2323_method_44_code, exceptionTable := #[], attributes := #[] }
def k14m7 : Method := { name := "plusDays", desc := "(J)Ljava/time/LocalDate;", sig := { parameters := [.long], returnType := some (.object "java/time/LocalDate") }, accessFlags := 1, code := some k14c7 }
/-- java/time/LocalDate -/
def k14 : Class := { plain "java/time/LocalDate" (some 0) with
  accessFlags := 49
  interfaces := #[12, 10, 13, 7]
  cf := some (fileOf pool14 1 #[.nestMembers #[270]] #[{ accessFlags := 9, nameIndex := 108, descriptorIndex := 790, attributes := #[] }, { accessFlags := 10, nameIndex := 62, descriptorIndex := 63, attributes := #[] }, { accessFlags := 2, nameIndex := 86, descriptorIndex := 123, attributes := #[] }, { accessFlags := 1, nameIndex := 303, descriptorIndex := 59, attributes := #[] }, { accessFlags := 1, nameIndex := 824, descriptorIndex := 59, attributes := #[] }, { accessFlags := 1, nameIndex := 536, descriptorIndex := 59, attributes := #[] }, { accessFlags := 1, nameIndex := 280, descriptorIndex := 59, attributes := #[] }, { accessFlags := 1, nameIndex := 387, descriptorIndex := 160, attributes := #[] }] 49 244 #[770, 380, 257, 772] #[{ accessFlags := 25, nameIndex := 592, descriptorIndex := 589, attributes := #[] }, { accessFlags := 25, nameIndex := 588, descriptorIndex := 589, attributes := #[] }, { accessFlags := 25, nameIndex := 769, descriptorIndex := 589, attributes := #[] }, { accessFlags := 26, nameIndex := 774, descriptorIndex := 775, attributes := #[] }, { accessFlags := 26, nameIndex := 779, descriptorIndex := 249, attributes := #[] }, { accessFlags := 24, nameIndex := 781, descriptorIndex := 775, attributes := #[] }, { accessFlags := 18, nameIndex := 248, descriptorIndex := 249, attributes := #[] }, { accessFlags := 18, nameIndex := 50, descriptorIndex := 252, attributes := #[] }, { accessFlags := 18, nameIndex := 255, descriptorIndex := 252, attributes := #[] }])
  fields := #[{ name := "MIN", type := (.object "java/time/LocalDate"), accessFlags := 25, slot := 0, constantValue := 0 }, { name := "MAX", type := (.object "java/time/LocalDate"), accessFlags := 25, slot := 1, constantValue := 0 }, { name := "EPOCH", type := (.object "java/time/LocalDate"), accessFlags := 25, slot := 2, constantValue := 0 }, { name := "serialVersionUID", type := .long, accessFlags := 26, slot := 3, constantValue := 0 }, { name := "DAYS_PER_CYCLE", type := .int, accessFlags := 26, slot := 4, constantValue := 0 }, { name := "DAYS_0000_TO_1970", type := .long, accessFlags := 24, slot := 5, constantValue := 0 }, { name := "year", type := .int, accessFlags := 18, slot := 0, constantValue := 0 }, { name := "month", type := .short, accessFlags := 18, slot := 1, constantValue := 0 }, { name := "day", type := .short, accessFlags := 18, slot := 2, constantValue := 0 }]
  methods := #[k14m0, k14m1, k14m2, k14m3, k14m4, k14m5, k14m6, k14m7]
  instanceTypes := #[.int, .short, .short]
  staticTypes := #[(.object "java/time/LocalDate"), (.object "java/time/LocalDate"), (.object "java/time/LocalDate"), .long, .int, .long]
  resolved := Array.replicate 988 none
  statics := none }

def pool15 : Array CpInfo := pool [(10, .class_ 12), (1, u "java/time/temporal/TemporalField"), (2, .class_ 16), (0, u "java/lang/Object")] 39

/-- java/time/temporal/TemporalField -/
def k15 : Class := { plain "java/time/temporal/TemporalField" (some 0) with
  accessFlags := 1537
  interfaces := #[]
  cf := some (fileOf pool15 10 #[] #[] 1537 15 #[] #[])
  fields := #[]
  methods := #[]
  instanceTypes := #[]
  staticTypes := #[]
  resolved := Array.replicate 56 none
  statics := none }

def pool16 : Array CpInfo := pool [(1, .class_ 2), (0, u "java/time/temporal/ChronoField"), (2, u "NANO_OF_SECOND"), (0, u "Ljava/time/temporal/ChronoField;"), (2, u "NANO_OF_DAY"), (2, u "MICRO_OF_SECOND"), (2, u "MICRO_OF_DAY"), (2, u "MILLI_OF_SECOND"), (2, u "MILLI_OF_DAY"), (2, u "SECOND_OF_MINUTE"), (2, u "SECOND_OF_DAY"), (2, u "MINUTE_OF_HOUR"), (2, u "MINUTE_OF_DAY"), (2, u "HOUR_OF_AMPM"), (2, u "CLOCK_HOUR_OF_AMPM"), (2, u "HOUR_OF_DAY"), (2, u "CLOCK_HOUR_OF_DAY"), (2, u "AMPM_OF_DAY"), (2, u "DAY_OF_WEEK"), (2, u "ALIGNED_DAY_OF_WEEK_IN_MONTH"), (2, u "ALIGNED_DAY_OF_WEEK_IN_YEAR"), (2, u "DAY_OF_MONTH"), (2, u "DAY_OF_YEAR"), (2, u "EPOCH_DAY"), (2, u "ALIGNED_WEEK_OF_MONTH"), (2, u "ALIGNED_WEEK_OF_YEAR"), (2, u "MONTH_OF_YEAR"), (2, u "PROLEPTIC_MONTH"), (2, u "YEAR_OF_ERA"), (2, u "YEAR"), (2, u "ERA"), (2, u "INSTANT_SECONDS"), (2, u "OFFSET_SECONDS"), (2, u "$VALUES"), (0, u "[Ljava/time/temporal/ChronoField;"), (6, .class_ 106), (1, u "java/lang/Enum"), (8, u "name"), (0, u "Ljava/lang/String;"), (2, u "baseUnit"), (0, u "Ljava/time/temporal/TemporalUnit;"), (2, u "rangeUnit"), (0, .fieldref 1 125), (0, .nameAndType 126 127), (0, u "range"), (0, u "Ljava/time/temporal/ValueRange;"), (2, u "displayNameKey"), (59, .methodref 1 191), (0, .nameAndType 126 192), (0, u "()Ljava/time/temporal/ValueRange;"), (0, .methodref 194 195), (0, .class_ 196), (0, .nameAndType 197 198), (0, u "java/time/temporal/ValueRange"), (0, u "checkValidValue"), (0, u "(JLjava/time/temporal/TemporalField;)J"), (256, .class_ 456), (0, u "java/time/temporal/TemporalField"), (27, u "(J)J")] 22

def k16c0 : Code := { maxStack := 1, maxLocals := 1, code := jdk_2395_method_8_code, exceptionTable := #[], attributes := #[] }
def k16m0 : Method := { name := "range", desc := "()Ljava/time/temporal/ValueRange;", sig := { parameters := [], returnType := some (.object "java/time/temporal/ValueRange") }, accessFlags := 1, code := some k16c0 }
def k16c1 : Code := { maxStack := 4, maxLocals := 3, code := jdk_2395_method_11_code, exceptionTable := #[], attributes := #[] }
def k16m1 : Method := { name := "checkValidValue", desc := "(J)J", sig := { parameters := [.long], returnType := some .long }, accessFlags := 1, code := some k16c1 }
/-- java/time/temporal/ChronoField -/
def k16 : Class := { plain "java/time/temporal/ChronoField" (some 8) with
  accessFlags := 16433
  interfaces := #[15]
  cf := some (fileOf pool16 1 #[] #[{ accessFlags := 1, nameIndex := 126, descriptorIndex := 192, attributes := #[] }, { accessFlags := 1, nameIndex := 197, descriptorIndex := 484, attributes := #[] }] 16433 104 #[455] #[{ accessFlags := 16409, nameIndex := 5, descriptorIndex := 6, attributes := #[] }, { accessFlags := 16409, nameIndex := 9, descriptorIndex := 6, attributes := #[] }, { accessFlags := 16409, nameIndex := 12, descriptorIndex := 6, attributes := #[] }, { accessFlags := 16409, nameIndex := 15, descriptorIndex := 6, attributes := #[] }, { accessFlags := 16409, nameIndex := 18, descriptorIndex := 6, attributes := #[] }, { accessFlags := 16409, nameIndex := 21, descriptorIndex := 6, attributes := #[] }, { accessFlags := 16409, nameIndex := 24, descriptorIndex := 6, attributes := #[] }, { accessFlags := 16409, nameIndex := 27, descriptorIndex := 6, attributes := #[] }, { accessFlags := 16409, nameIndex := 30, descriptorIndex := 6, attributes := #[] }, { accessFlags := 16409, nameIndex := 33, descriptorIndex := 6, attributes := #[] }, { accessFlags := 16409, nameIndex := 36, descriptorIndex := 6, attributes := #[] }, { accessFlags := 16409, nameIndex := 39, descriptorIndex := 6, attributes := #[] }, { accessFlags := 16409, nameIndex := 42, descriptorIndex := 6, attributes := #[] }, { accessFlags := 16409, nameIndex := 45, descriptorIndex := 6, attributes := #[] }, { accessFlags := 16409, nameIndex := 48, descriptorIndex := 6, attributes := #[] }, { accessFlags := 16409, nameIndex := 51, descriptorIndex := 6, attributes := #[] }, { accessFlags := 16409, nameIndex := 54, descriptorIndex := 6, attributes := #[] }, { accessFlags := 16409, nameIndex := 57, descriptorIndex := 6, attributes := #[] }, { accessFlags := 16409, nameIndex := 60, descriptorIndex := 6, attributes := #[] }, { accessFlags := 16409, nameIndex := 63, descriptorIndex := 6, attributes := #[] }, { accessFlags := 16409, nameIndex := 66, descriptorIndex := 6, attributes := #[] }, { accessFlags := 16409, nameIndex := 69, descriptorIndex := 6, attributes := #[] }, { accessFlags := 16409, nameIndex := 72, descriptorIndex := 6, attributes := #[] }, { accessFlags := 16409, nameIndex := 75, descriptorIndex := 6, attributes := #[] }, { accessFlags := 16409, nameIndex := 78, descriptorIndex := 6, attributes := #[] }, { accessFlags := 16409, nameIndex := 81, descriptorIndex := 6, attributes := #[] }, { accessFlags := 16409, nameIndex := 84, descriptorIndex := 6, attributes := #[] }, { accessFlags := 16409, nameIndex := 87, descriptorIndex := 6, attributes := #[] }, { accessFlags := 16409, nameIndex := 90, descriptorIndex := 6, attributes := #[] }, { accessFlags := 16409, nameIndex := 93, descriptorIndex := 6, attributes := #[] }, { accessFlags := 18, nameIndex := 115, descriptorIndex := 116, attributes := #[] }, { accessFlags := 18, nameIndex := 119, descriptorIndex := 120, attributes := #[] }, { accessFlags := 18, nameIndex := 123, descriptorIndex := 120, attributes := #[] }, { accessFlags := 18, nameIndex := 126, descriptorIndex := 127, attributes := #[] }, { accessFlags := 18, nameIndex := 130, descriptorIndex := 116, attributes := #[] }, { accessFlags := 4122, nameIndex := 96, descriptorIndex := 97, attributes := #[] }])
  fields := #[{ name := "NANO_OF_SECOND", type := (.object "java/time/temporal/ChronoField"), accessFlags := 16409, slot := 0, constantValue := 0 }, { name := "NANO_OF_DAY", type := (.object "java/time/temporal/ChronoField"), accessFlags := 16409, slot := 1, constantValue := 0 }, { name := "MICRO_OF_SECOND", type := (.object "java/time/temporal/ChronoField"), accessFlags := 16409, slot := 2, constantValue := 0 }, { name := "MICRO_OF_DAY", type := (.object "java/time/temporal/ChronoField"), accessFlags := 16409, slot := 3, constantValue := 0 }, { name := "MILLI_OF_SECOND", type := (.object "java/time/temporal/ChronoField"), accessFlags := 16409, slot := 4, constantValue := 0 }, { name := "MILLI_OF_DAY", type := (.object "java/time/temporal/ChronoField"), accessFlags := 16409, slot := 5, constantValue := 0 }, { name := "SECOND_OF_MINUTE", type := (.object "java/time/temporal/ChronoField"), accessFlags := 16409, slot := 6, constantValue := 0 }, { name := "SECOND_OF_DAY", type := (.object "java/time/temporal/ChronoField"), accessFlags := 16409, slot := 7, constantValue := 0 }, { name := "MINUTE_OF_HOUR", type := (.object "java/time/temporal/ChronoField"), accessFlags := 16409, slot := 8, constantValue := 0 }, { name := "MINUTE_OF_DAY", type := (.object "java/time/temporal/ChronoField"), accessFlags := 16409, slot := 9, constantValue := 0 }, { name := "HOUR_OF_AMPM", type := (.object "java/time/temporal/ChronoField"), accessFlags := 16409, slot := 10, constantValue := 0 }, { name := "CLOCK_HOUR_OF_AMPM", type := (.object "java/time/temporal/ChronoField"), accessFlags := 16409, slot := 11, constantValue := 0 }, { name := "HOUR_OF_DAY", type := (.object "java/time/temporal/ChronoField"), accessFlags := 16409, slot := 12, constantValue := 0 }, { name := "CLOCK_HOUR_OF_DAY", type := (.object "java/time/temporal/ChronoField"), accessFlags := 16409, slot := 13, constantValue := 0 }, { name := "AMPM_OF_DAY", type := (.object "java/time/temporal/ChronoField"), accessFlags := 16409, slot := 14, constantValue := 0 }, { name := "DAY_OF_WEEK", type := (.object "java/time/temporal/ChronoField"), accessFlags := 16409, slot := 15, constantValue := 0 }, { name := "ALIGNED_DAY_OF_WEEK_IN_MONTH", type := (.object "java/time/temporal/ChronoField"), accessFlags := 16409, slot := 16, constantValue := 0 }, { name := "ALIGNED_DAY_OF_WEEK_IN_YEAR", type := (.object "java/time/temporal/ChronoField"), accessFlags := 16409, slot := 17, constantValue := 0 }, { name := "DAY_OF_MONTH", type := (.object "java/time/temporal/ChronoField"), accessFlags := 16409, slot := 18, constantValue := 0 }, { name := "DAY_OF_YEAR", type := (.object "java/time/temporal/ChronoField"), accessFlags := 16409, slot := 19, constantValue := 0 }, { name := "EPOCH_DAY", type := (.object "java/time/temporal/ChronoField"), accessFlags := 16409, slot := 20, constantValue := 0 }, { name := "ALIGNED_WEEK_OF_MONTH", type := (.object "java/time/temporal/ChronoField"), accessFlags := 16409, slot := 21, constantValue := 0 }, { name := "ALIGNED_WEEK_OF_YEAR", type := (.object "java/time/temporal/ChronoField"), accessFlags := 16409, slot := 22, constantValue := 0 }, { name := "MONTH_OF_YEAR", type := (.object "java/time/temporal/ChronoField"), accessFlags := 16409, slot := 23, constantValue := 0 }, { name := "PROLEPTIC_MONTH", type := (.object "java/time/temporal/ChronoField"), accessFlags := 16409, slot := 24, constantValue := 0 }, { name := "YEAR_OF_ERA", type := (.object "java/time/temporal/ChronoField"), accessFlags := 16409, slot := 25, constantValue := 0 }, { name := "YEAR", type := (.object "java/time/temporal/ChronoField"), accessFlags := 16409, slot := 26, constantValue := 0 }, { name := "ERA", type := (.object "java/time/temporal/ChronoField"), accessFlags := 16409, slot := 27, constantValue := 0 }, { name := "INSTANT_SECONDS", type := (.object "java/time/temporal/ChronoField"), accessFlags := 16409, slot := 28, constantValue := 0 }, { name := "OFFSET_SECONDS", type := (.object "java/time/temporal/ChronoField"), accessFlags := 16409, slot := 29, constantValue := 0 }, { name := "name", type := (.object "java/lang/String"), accessFlags := 18, slot := 3, constantValue := 0 }, { name := "baseUnit", type := (.object "java/time/temporal/TemporalUnit"), accessFlags := 18, slot := 4, constantValue := 0 }, { name := "rangeUnit", type := (.object "java/time/temporal/TemporalUnit"), accessFlags := 18, slot := 5, constantValue := 0 }, { name := "range", type := (.object "java/time/temporal/ValueRange"), accessFlags := 18, slot := 6, constantValue := 0 }, { name := "displayNameKey", type := (.object "java/lang/String"), accessFlags := 18, slot := 7, constantValue := 0 }, { name := "$VALUES", type := (.array (.object "java/time/temporal/ChronoField")), accessFlags := 4122, slot := 30, constantValue := 0 }]
  methods := #[k16m0, k16m1]
  instanceTypes := #[(.object "java/lang/String"), .int, .int, (.object "java/lang/String"), (.object "java/time/temporal/TemporalUnit"), (.object "java/time/temporal/TemporalUnit"), (.object "java/time/temporal/ValueRange"), (.object "java/lang/String")]
  staticTypes := #[(.object "java/time/temporal/ChronoField"), (.object "java/time/temporal/ChronoField"), (.object "java/time/temporal/ChronoField"), (.object "java/time/temporal/ChronoField"), (.object "java/time/temporal/ChronoField"), (.object "java/time/temporal/ChronoField"), (.object "java/time/temporal/ChronoField"), (.object "java/time/temporal/ChronoField"), (.object "java/time/temporal/ChronoField"), (.object "java/time/temporal/ChronoField"), (.object "java/time/temporal/ChronoField"), (.object "java/time/temporal/ChronoField"), (.object "java/time/temporal/ChronoField"), (.object "java/time/temporal/ChronoField"), (.object "java/time/temporal/ChronoField"), (.object "java/time/temporal/ChronoField"), (.object "java/time/temporal/ChronoField"), (.object "java/time/temporal/ChronoField"), (.object "java/time/temporal/ChronoField"), (.object "java/time/temporal/ChronoField"), (.object "java/time/temporal/ChronoField"), (.object "java/time/temporal/ChronoField"), (.object "java/time/temporal/ChronoField"), (.object "java/time/temporal/ChronoField"), (.object "java/time/temporal/ChronoField"), (.object "java/time/temporal/ChronoField"), (.object "java/time/temporal/ChronoField"), (.object "java/time/temporal/ChronoField"), (.object "java/time/temporal/ChronoField"), (.object "java/time/temporal/ChronoField"), (.array (.object "java/time/temporal/ChronoField"))]
  resolved := Array.replicate 507 none
  statics := some 1 }

def pool17 : Array CpInfo := pool [(9, .class_ 10), (0, u "java/time/temporal/ValueRange"), (18, .class_ 31), (1, u "java/lang/Object"), (1, .fieldref 9 34), (0, .nameAndType 35 36), (0, u "minSmallest"), (0, u "J"), (2, u "minLargest"), (2, u "maxSmallest"), (0, .fieldref 9 44), (0, .nameAndType 45 36), (0, u "maxLargest"), (0, .methodref 9 47), (0, .nameAndType 48 49), (0, u "getMinimum"), (0, u "()J"), (4, .methodref 9 55), (0, .nameAndType 56 49), (0, u "getMaximum"), (6, .methodref 9 64), (0, .nameAndType 65 66), (0, u "isValidValue"), (0, u "(J)Z"), (54, .class_ 122), (0, u "java/io/Serializable"), (0, u "serialVersionUID"), (17, u "checkValidValue"), (0, u "(JLjava/time/temporal/TemporalField;)J")] 24

def k17c0 : Code := { maxStack := 2, maxLocals := 1, code := jdk_2423_method_6_code, exceptionTable := #[], attributes := #[] }
def k17m0 : Method := { name := "getMinimum", desc := "()J", sig := { parameters := [], returnType := some .long }, accessFlags := 1, code := some k17c0 }
def k17c1 : Code := { maxStack := 2, maxLocals := 1, code := jdk_2423_method_9_code, exceptionTable := #[], attributes := #[] }
def k17m1 : Method := { name := "getMaximum", desc := "()J", sig := { parameters := [], returnType := some .long }, accessFlags := 1, code := some k17c1 }
def k17c2 : Code := { maxStack := 4, maxLocals := 3, code := jdk_2423_method_11_code, exceptionTable := #[], attributes := #[] }
def k17m2 : Method := { name := "isValidValue", desc := "(J)Z", sig := { parameters := [.long], returnType := some .boolean }, accessFlags := 1, code := some k17c2 }
def k17c3 : Code := { maxStack := 6, maxLocals := 4, code := jdk_2423_method_13_code, exceptionTable := #[], attributes := #[] }
def k17m3 : Method := { name := "checkValidValue", desc := "(JLjava/time/temporal/TemporalField;)J", sig := { parameters := [.long, (.object "java/time/temporal/TemporalField")], returnType := some .long }, accessFlags := 1, code := some k17c3 }
/-- java/time/temporal/ValueRange -/
def k17 : Class := { plain "java/time/temporal/ValueRange" (some 0) with
  accessFlags := 49
  interfaces := #[7]
  cf := some (fileOf pool17 9 #[] #[{ accessFlags := 1, nameIndex := 48, descriptorIndex := 49, attributes := #[] }, { accessFlags := 1, nameIndex := 56, descriptorIndex := 49, attributes := #[] }, { accessFlags := 1, nameIndex := 65, descriptorIndex := 66, attributes := #[] }, { accessFlags := 1, nameIndex := 141, descriptorIndex := 142, attributes := #[] }] 49 29 #[121] #[{ accessFlags := 26, nameIndex := 123, descriptorIndex := 36, attributes := #[] }, { accessFlags := 18, nameIndex := 35, descriptorIndex := 36, attributes := #[] }, { accessFlags := 18, nameIndex := 39, descriptorIndex := 36, attributes := #[] }, { accessFlags := 18, nameIndex := 42, descriptorIndex := 36, attributes := #[] }, { accessFlags := 18, nameIndex := 45, descriptorIndex := 36, attributes := #[] }])
  fields := #[{ name := "serialVersionUID", type := .long, accessFlags := 26, slot := 0, constantValue := 0 }, { name := "minSmallest", type := .long, accessFlags := 18, slot := 0, constantValue := 0 }, { name := "minLargest", type := .long, accessFlags := 18, slot := 1, constantValue := 0 }, { name := "maxSmallest", type := .long, accessFlags := 18, slot := 2, constantValue := 0 }, { name := "maxLargest", type := .long, accessFlags := 18, slot := 3, constantValue := 0 }]
  methods := #[k17m0, k17m1, k17m2, k17m3]
  instanceTypes := #[.long, .long, .long, .long]
  staticTypes := #[.long]
  resolved := Array.replicate 167 none
  statics := none }

def pool18 : Array CpInfo := pool [(2, .class_ 4), (1, u "java/lang/CharSequence"), (42, .class_ 48), (0, u "java/lang/CharSequence$1CodePointIterator"), (10, .class_ 60), (0, u "java/lang/CharSequence$1CharIterator"), (5, .class_ 67), (0, u "java/lang/Object")] 63

/-- java/lang/CharSequence -/
def k18 : Class := { plain "java/lang/CharSequence" (some 0) with
  accessFlags := 1537
  interfaces := #[]
  cf := some (fileOf pool18 2 #[.nestMembers #[47, 59]] #[] 1537 66 #[] #[])
  fields := #[]
  methods := #[]
  instanceTypes := #[]
  staticTypes := #[]
  resolved := Array.replicate 131 none
  statics := none }

def pool19 : Array CpInfo := pool [(1, .class_ 2), (0, u "java/lang/constant/ConstantDesc"), (0, .class_ 4), (0, u "java/lang/Object")] 32

/-- java/lang/constant/ConstantDesc -/
def k19 : Class := { plain "java/lang/constant/ConstantDesc" (some 0) with
  accessFlags := 1537
  interfaces := #[]
  cf := some (fileOf pool19 1 #[] #[] 1537 3 #[] #[])
  fields := #[]
  methods := #[]
  instanceTypes := #[]
  staticTypes := #[]
  resolved := Array.replicate 37 none
  statics := none }

def pool20 : Array CpInfo := pool [(2, .class_ 4), (1, u "java/lang/Object"), (0, u "<init>"), (0, u "()V"), (3, .class_ 12), (1, u "java/lang/String"), (0, u "value"), (0, u "[B"), (2, u "coder"), (0, u "B"), (2, u "hash"), (0, u "I"), (2, u "hashIsZero"), (0, u "Z"), (13, u "COMPACT_STRINGS"), (534, .class_ 576), (0, u "java/lang/CharSequence"), (22, u "CASE_INSENSITIVE_ORDER"), (0, u "Ljava/util/Comparator;"), (500, u "serialPersistentFields"), (0, u "[Ljava/io/ObjectStreamField;"), (0, .class_ 1104), (0, u "java/lang/String$CaseInsensitiveComparator"), (1, .class_ 1107), (0, u "java/io/Serializable"), (0, .class_ 1109), (0, u "java/lang/Comparable"), (0, .class_ 1111), (0, u "java/lang/constant/Constable"), (0, .class_ 1113), (0, u "java/lang/constant/ConstantDesc"), (2, u "serialVersionUID"), (0, u "J"), (3, u "REPL"), (0, u "C"), (2, u "LATIN1"), (1, u "UTF16")] 323

def k20m0 : Method := { name := "<init>", desc := "()V", sig := { parameters := [], returnType := none }, accessFlags := 1, code := none }
/-- java/lang/String -/
def k20 : Class := { plain "java/lang/String" (some 0) with
  accessFlags := 49
  interfaces := #[7, 6, 18, 5, 19]
  cf := some (fileOf pool20 10 #[.nestMembers #[1103]] #[{ accessFlags := 1, nameIndex := 5, descriptorIndex := 6, attributes := #[] }] 49 2 #[1106, 1108, 575, 1110, 1112] #[{ accessFlags := 18, nameIndex := 13, descriptorIndex := 14, attributes := #[] }, { accessFlags := 18, nameIndex := 17, descriptorIndex := 18, attributes := #[] }, { accessFlags := 2, nameIndex := 21, descriptorIndex := 22, attributes := #[] }, { accessFlags := 2, nameIndex := 25, descriptorIndex := 26, attributes := #[] }, { accessFlags := 26, nameIndex := 1116, descriptorIndex := 1117, attributes := #[] }, { accessFlags := 24, nameIndex := 40, descriptorIndex := 26, attributes := #[] }, { accessFlags := 26, nameIndex := 1101, descriptorIndex := 1102, attributes := #[] }, { accessFlags := 26, nameIndex := 1121, descriptorIndex := 1122, attributes := #[] }, { accessFlags := 25, nameIndex := 599, descriptorIndex := 600, attributes := #[] }, { accessFlags := 24, nameIndex := 1125, descriptorIndex := 18, attributes := #[] }, { accessFlags := 24, nameIndex := 1127, descriptorIndex := 18, attributes := #[] }])
  fields := #[{ name := "value", type := (.array .byte), accessFlags := 18, slot := 0, constantValue := 0 }, { name := "coder", type := .byte, accessFlags := 18, slot := 1, constantValue := 0 }, { name := "hash", type := .int, accessFlags := 2, slot := 2, constantValue := 0 }, { name := "hashIsZero", type := .boolean, accessFlags := 2, slot := 3, constantValue := 0 }, { name := "serialVersionUID", type := .long, accessFlags := 26, slot := 0, constantValue := 0 }, { name := "COMPACT_STRINGS", type := .boolean, accessFlags := 24, slot := 1, constantValue := 0 }, { name := "serialPersistentFields", type := (.array (.object "java/io/ObjectStreamField")), accessFlags := 26, slot := 2, constantValue := 0 }, { name := "REPL", type := .char, accessFlags := 26, slot := 3, constantValue := 0 }, { name := "CASE_INSENSITIVE_ORDER", type := (.object "java/util/Comparator"), accessFlags := 25, slot := 4, constantValue := 0 }, { name := "LATIN1", type := .byte, accessFlags := 24, slot := 5, constantValue := 0 }, { name := "UTF16", type := .byte, accessFlags := 24, slot := 6, constantValue := 0 }]
  methods := #[k20m0]
  instanceTypes := #[(.array .byte), .byte, .int, .boolean]
  staticTypes := #[.long, .boolean, (.array (.object "java/io/ObjectStreamField")), .char, (.object "java/util/Comparator"), .byte, .byte]
  resolved := Array.replicate 1451 none
  statics := none }

def pool21 : Array CpInfo := pool [(2, .class_ 4), (1, u "java/lang/Object"), (0, u "<init>"), (0, u "()V"), (35, .class_ 44), (1, u "java/util/Objects"), (0, u "requireNonNull"), (48, u "(Ljava/lang/Object;Ljava/lang/String;)Ljava/lang/Object;")] 89

def k21m0 : Method := { name := "<init>", desc := "()V", sig := { parameters := [], returnType := none }, accessFlags := 2, code := none }
def k21c1 : Code := { maxStack := 3, maxLocals := 2, code := jdk_31_method_11_code, exceptionTable := #[], attributes := #[] }
def k21m1 : Method := { name := "requireNonNull", desc := "(Ljava/lang/Object;Ljava/lang/String;)Ljava/lang/Object;", sig := { parameters := [(.object "java/lang/Object"), (.object "java/lang/String")], returnType := some (.object "java/lang/Object") }, accessFlags := 9, code := some k21c1 }
/-- java/util/Objects -/
def k21 : Class := { plain "java/util/Objects" (some 0) with
  accessFlags := 49
  interfaces := #[]
  cf := some (fileOf pool21 42 #[] #[{ accessFlags := 2, nameIndex := 5, descriptorIndex := 6, attributes := #[] }, { accessFlags := 9, nameIndex := 45, descriptorIndex := 94, attributes := #[] }] 49 2 #[] #[])
  fields := #[]
  methods := #[k21m0, k21m1]
  instanceTypes := #[]
  staticTypes := #[]
  resolved := Array.replicate 184 none
  statics := none }

def pool22 : Array CpInfo := pool [(4, .class_ 6), (1, u "java/time/temporal/TemporalUnit"), (23, .class_ 31), (0, u "java/lang/Object")] 27

/-- java/time/temporal/TemporalUnit -/
def k22 : Class := { plain "java/time/temporal/TemporalUnit" (some 0) with
  accessFlags := 1537
  interfaces := #[]
  cf := some (fileOf pool22 4 #[] #[] 1537 30 #[] #[])
  fields := #[]
  methods := #[]
  instanceTypes := #[]
  staticTypes := #[]
  resolved := Array.replicate 59 none
  statics := none }

def pool23 : Array CpInfo := pool [(1, .class_ 2), (0, u "java/time/temporal/ChronoUnit"), (2, u "NANOS"), (0, u "Ljava/time/temporal/ChronoUnit;"), (2, u "MICROS"), (2, u "MILLIS"), (2, u "SECONDS"), (2, u "MINUTES"), (2, u "HOURS"), (2, u "HALF_DAYS"), (2, u "DAYS"), (2, u "WEEKS"), (2, u "MONTHS"), (2, u "YEARS"), (2, u "DECADES"), (2, u "CENTURIES"), (2, u "MILLENNIA"), (2, u "ERAS"), (2, u "FOREVER"), (2, u "$VALUES"), (0, u "[Ljava/time/temporal/ChronoUnit;"), (6, .class_ 64), (1, u "java/lang/Enum"), (8, u "name"), (0, u "Ljava/lang/String;"), (2, u "duration"), (0, u "Ljava/time/Duration;"), (117, .class_ 197), (0, u "java/time/temporal/TemporalUnit")] 39

/-- java/time/temporal/ChronoUnit -/
def k23 : Class := { plain "java/time/temporal/ChronoUnit" (some 8) with
  accessFlags := 16433
  interfaces := #[22]
  cf := some (fileOf pool23 1 #[] #[] 16433 62 #[196] #[{ accessFlags := 16409, nameIndex := 5, descriptorIndex := 6, attributes := #[] }, { accessFlags := 16409, nameIndex := 9, descriptorIndex := 6, attributes := #[] }, { accessFlags := 16409, nameIndex := 12, descriptorIndex := 6, attributes := #[] }, { accessFlags := 16409, nameIndex := 15, descriptorIndex := 6, attributes := #[] }, { accessFlags := 16409, nameIndex := 18, descriptorIndex := 6, attributes := #[] }, { accessFlags := 16409, nameIndex := 21, descriptorIndex := 6, attributes := #[] }, { accessFlags := 16409, nameIndex := 24, descriptorIndex := 6, attributes := #[] }, { accessFlags := 16409, nameIndex := 27, descriptorIndex := 6, attributes := #[] }, { accessFlags := 16409, nameIndex := 30, descriptorIndex := 6, attributes := #[] }, { accessFlags := 16409, nameIndex := 33, descriptorIndex := 6, attributes := #[] }, { accessFlags := 16409, nameIndex := 36, descriptorIndex := 6, attributes := #[] }, { accessFlags := 16409, nameIndex := 39, descriptorIndex := 6, attributes := #[] }, { accessFlags := 16409, nameIndex := 42, descriptorIndex := 6, attributes := #[] }, { accessFlags := 16409, nameIndex := 45, descriptorIndex := 6, attributes := #[] }, { accessFlags := 16409, nameIndex := 48, descriptorIndex := 6, attributes := #[] }, { accessFlags := 16409, nameIndex := 51, descriptorIndex := 6, attributes := #[] }, { accessFlags := 18, nameIndex := 73, descriptorIndex := 74, attributes := #[] }, { accessFlags := 18, nameIndex := 77, descriptorIndex := 78, attributes := #[] }, { accessFlags := 4122, nameIndex := 54, descriptorIndex := 55, attributes := #[] }])
  fields := #[{ name := "NANOS", type := (.object "java/time/temporal/ChronoUnit"), accessFlags := 16409, slot := 0, constantValue := 0 }, { name := "MICROS", type := (.object "java/time/temporal/ChronoUnit"), accessFlags := 16409, slot := 1, constantValue := 0 }, { name := "MILLIS", type := (.object "java/time/temporal/ChronoUnit"), accessFlags := 16409, slot := 2, constantValue := 0 }, { name := "SECONDS", type := (.object "java/time/temporal/ChronoUnit"), accessFlags := 16409, slot := 3, constantValue := 0 }, { name := "MINUTES", type := (.object "java/time/temporal/ChronoUnit"), accessFlags := 16409, slot := 4, constantValue := 0 }, { name := "HOURS", type := (.object "java/time/temporal/ChronoUnit"), accessFlags := 16409, slot := 5, constantValue := 0 }, { name := "HALF_DAYS", type := (.object "java/time/temporal/ChronoUnit"), accessFlags := 16409, slot := 6, constantValue := 0 }, { name := "DAYS", type := (.object "java/time/temporal/ChronoUnit"), accessFlags := 16409, slot := 7, constantValue := 0 }, { name := "WEEKS", type := (.object "java/time/temporal/ChronoUnit"), accessFlags := 16409, slot := 8, constantValue := 0 }, { name := "MONTHS", type := (.object "java/time/temporal/ChronoUnit"), accessFlags := 16409, slot := 9, constantValue := 0 }, { name := "YEARS", type := (.object "java/time/temporal/ChronoUnit"), accessFlags := 16409, slot := 10, constantValue := 0 }, { name := "DECADES", type := (.object "java/time/temporal/ChronoUnit"), accessFlags := 16409, slot := 11, constantValue := 0 }, { name := "CENTURIES", type := (.object "java/time/temporal/ChronoUnit"), accessFlags := 16409, slot := 12, constantValue := 0 }, { name := "MILLENNIA", type := (.object "java/time/temporal/ChronoUnit"), accessFlags := 16409, slot := 13, constantValue := 0 }, { name := "ERAS", type := (.object "java/time/temporal/ChronoUnit"), accessFlags := 16409, slot := 14, constantValue := 0 }, { name := "FOREVER", type := (.object "java/time/temporal/ChronoUnit"), accessFlags := 16409, slot := 15, constantValue := 0 }, { name := "name", type := (.object "java/lang/String"), accessFlags := 18, slot := 3, constantValue := 0 }, { name := "duration", type := (.object "java/time/Duration"), accessFlags := 18, slot := 4, constantValue := 0 }, { name := "$VALUES", type := (.array (.object "java/time/temporal/ChronoUnit")), accessFlags := 4122, slot := 16, constantValue := 0 }]
  methods := #[]
  instanceTypes := #[(.object "java/lang/String"), .int, .int, (.object "java/lang/String"), (.object "java/time/Duration")]
  staticTypes := #[(.object "java/time/temporal/ChronoUnit"), (.object "java/time/temporal/ChronoUnit"), (.object "java/time/temporal/ChronoUnit"), (.object "java/time/temporal/ChronoUnit"), (.object "java/time/temporal/ChronoUnit"), (.object "java/time/temporal/ChronoUnit"), (.object "java/time/temporal/ChronoUnit"), (.object "java/time/temporal/ChronoUnit"), (.object "java/time/temporal/ChronoUnit"), (.object "java/time/temporal/ChronoUnit"), (.object "java/time/temporal/ChronoUnit"), (.object "java/time/temporal/ChronoUnit"), (.object "java/time/temporal/ChronoUnit"), (.object "java/time/temporal/ChronoUnit"), (.object "java/time/temporal/ChronoUnit"), (.object "java/time/temporal/ChronoUnit"), (.array (.object "java/time/temporal/ChronoUnit"))]
  resolved := Array.replicate 237 none
  statics := some 2 }

def pool24 : Array CpInfo := pool [(1, .class_ 2), (0, u "java/time/temporal/TemporalAmount"), (0, .class_ 4), (0, u "java/lang/Object")] 11

/-- java/time/temporal/TemporalAmount -/
def k24 : Class := { plain "java/time/temporal/TemporalAmount" (some 0) with
  accessFlags := 1537
  interfaces := #[]
  cf := some (fileOf pool24 1 #[] #[] 1537 3 #[] #[])
  fields := #[]
  methods := #[]
  instanceTypes := #[]
  staticTypes := #[]
  resolved := Array.replicate 16 none
  statics := none }

def pool25 : Array CpInfo := pool [(11, .class_ 13), (1, u "java/time/Duration"), (20, u "ZERO"), (0, u "Ljava/time/Duration;"), (13, .class_ 51), (1, u "java/time/temporal/TemporalAmount"), (27, .class_ 81), (1, u "java/time/Duration$Lazy"), (35, u "seconds"), (101, .class_ 220), (0, u "java/lang/Object"), (2, u "J"), (2, u "nanos"), (0, u "I"), (11, .class_ 241), (1, u "java/time/Duration$DurationUnits"), (27, .class_ 271), (1, u "java/time/Duration$1"), (91, u "BI_NANOS_PER_SECOND"), (0, u "Ljava/math/BigInteger;"), (120, .class_ 486), (0, u "java/lang/Comparable"), (0, .class_ 488), (0, u "java/io/Serializable"), (0, u "serialVersionUID")] 166

/-- java/time/Duration -/
def k25 : Class := { plain "java/time/Duration" (some 0) with
  accessFlags := 49
  interfaces := #[24, 6, 7]
  cf := some (fileOf pool25 11 #[.nestMembers #[269, 239, 79]] #[] 49 219 #[49, 485, 487] #[{ accessFlags := 25, nameIndex := 34, descriptorIndex := 35, attributes := #[] }, { accessFlags := 26, nameIndex := 489, descriptorIndex := 223, attributes := #[] }, { accessFlags := 26, nameIndex := 363, descriptorIndex := 364, attributes := #[] }, { accessFlags := 18, nameIndex := 117, descriptorIndex := 223, attributes := #[] }, { accessFlags := 18, nameIndex := 226, descriptorIndex := 227, attributes := #[] }])
  fields := #[{ name := "ZERO", type := (.object "java/time/Duration"), accessFlags := 25, slot := 0, constantValue := 0 }, { name := "serialVersionUID", type := .long, accessFlags := 26, slot := 1, constantValue := 0 }, { name := "BI_NANOS_PER_SECOND", type := (.object "java/math/BigInteger"), accessFlags := 26, slot := 2, constantValue := 0 }, { name := "seconds", type := .long, accessFlags := 18, slot := 0, constantValue := 0 }, { name := "nanos", type := .int, accessFlags := 18, slot := 1, constantValue := 0 }]
  methods := #[]
  instanceTypes := #[.long, .int]
  staticTypes := #[(.object "java/time/Duration"), .long, (.object "java/math/BigInteger")]
  resolved := Array.replicate 656 none
  statics := none }

def pool26 : Array CpInfo := pool [(1, u "java/lang/Cloneable"), (0, .class_ 1), (0, u "java/lang/Object"), (0, .class_ 3)] 3

/-- java/lang/Cloneable -/
def k26 : Class := { plain "java/lang/Cloneable" (some 0) with
  accessFlags := 1537
  interfaces := #[]
  cf := some (fileOf pool26 2 #[] #[] 1537 4 #[] #[])
  fields := #[]
  methods := #[]
  instanceTypes := #[]
  staticTypes := #[]
  resolved := Array.replicate 8 none
  statics := none }

/-- the primitive byte -/
def k27 : Class := { plain "byte" none with kind := .primitive 'B', accessFlags := 0x411 }
/-- [B -/
def k28 : Class := { plain "[B" (some 0) with kind := .array 27 .byte, interfaces := #[26, 7], accessFlags := 1041 }

/-- the primitive int -/
def k29 : Class := { plain "int" none with kind := .primitive 'I', accessFlags := 0x411 }
/-- [I -/
def k30 : Class := { plain "[I" (some 0) with kind := .array 29 .int, interfaces := #[26, 7], accessFlags := 1041 }

def heap : Heap := #[{ cls := 11, slots := #[.null, .null, .ref 13, .null, .null, .null, .null, .null, .null, .null, .null, .null, .null, .null], vm := .statics 11 },
  { cls := 16, slots := #[.null, .null, .null, .null, .null, .null, .null, .null, .null, .null, .null, .null, .null, .null, .null, .null, .null, .null, .ref 12, .null, .null, .null, .null, .null, .null, .null, .ref 11, .null, .null, .null, .null], vm := .statics 16 },
  { cls := 23, slots := #[.null, .null, .null, .null, .null, .null, .null, .ref 7, .null, .ref 8, .ref 5, .null, .null, .null, .null, .ref 6, .null], vm := .statics 23 },
  { cls := 20, slots := #[.null, .int 0, .int 0, .int 0], vm := .none },
  { cls := 25, slots := #[.long 0, .int 0], vm := .none },
  { cls := 23, slots := #[.ref 3, .int 10, .int 0, .ref 3, .ref 4], vm := .none },
  { cls := 23, slots := #[.ref 3, .int 15, .int 0, .ref 3, .ref 4], vm := .none },
  { cls := 23, slots := #[.ref 3, .int 7, .int 0, .ref 3, .ref 4], vm := .none },
  { cls := 23, slots := #[.ref 3, .int 9, .int 0, .ref 3, .ref 4], vm := .none },
  { cls := 17, slots := #[.long (-999999999), .long (-999999999), .long 999999999, .long 999999999], vm := .none },
  { cls := 17, slots := #[.long 1, .long 1, .long 28, .long 31], vm := .none },
  { cls := 16, slots := #[.ref 3, .int 26, .int 0, .ref 3, .ref 5, .ref 6, .ref 9, .ref 3], vm := .none },
  { cls := 16, slots := #[.ref 3, .int 18, .int 0, .ref 3, .ref 7, .ref 8, .ref 10, .ref 3], vm := .none },
  { cls := 11, slots := #[.ref 3, .int 2, .int 0], vm := .none }]
def classes : Array Class := #[k0, k1, k2, k3, k4, k5, k6, k7, k8, k9, k10, k11, k12, k13, k14, k15, k16, k17, k18, k19, k20, k21, k22, k23, k24, k25, k26, k27, k28, k29, k30]
def interned : List (Array UInt16 × Addr) := []
def slotsUsed : Nat := 115
def theMethod : MethodId := ⟨1, 1⟩
def args0 : Array Value := #[.int 441]
def aboutOver (below : List Frame) : State where
  vm := { classes := classes, interned := interned.toArray }
  heap := heap
  slotsUsed := slotsUsed
  threads := #[{ frames := .invoking theMethod args0 :: below }]
def below0 : List Frame := [.native { method := ⟨0, 0⟩, args := #[] }]
def about1 : State := aboutOver below0
def p0 : Program := .bare "" "" ""
def e0 : Env := launch0.env 0 0 0
theorem w_frames : about1.frames = Frame.invoking theMethod args0 :: below0 := rfl
set_option maxRecDepth 65536 in
theorem w_args : argsFit about1.vm theMethod args0 = true := by decide +kernel
set_option maxRecDepth 65536 in
theorem w_heap : heapFits about1 = true := by decide +kernel
set_option maxRecDepth 65536 in
theorem w_runnable : about1.curStatus? = some .runnable := by decide +kernel
set_option maxRecDepth 65536 in
theorem w_alone : about1.alone = true := by decide +kernel
set_option maxRecDepth 65536 in
theorem w_named : about1.methodNamed? x = some theMethod := by decide +kernel
set_option maxRecDepth 65536 in
theorem w_hears : about1.hears theMethod below0 = true := by decide +kernel
set_option maxRecDepth 65536 in
theorem w_ripe : about1.ripe theMethod args0 below0 = true := by decide +kernel
theorem w_running : about1.status = .running := rfl
set_option maxRecDepth 65536 in
theorem w_room : about1.hasRoom e0.platform room_1 = true :=
  launch0.hasRoom_least _ room_1 (by decide +kernel) (by decide +kernel) (by decide +kernel) (by decide +kernel) (by decide +kernel) (by decide +kernel)
theorem allAtoms_all (ts : List Jvm.Cond) (a : Array Jvm.Value) (st : Jvm.State) : (allAtoms ts).before a st = ts.all (fun c => c.before a st) := by
  induction ts with
  | nil => rfl
  | cons c t ih =>
    show (Jvm.Cond.and c (allAtoms t)).before a st = _
    rw [Jvm.Cond.before_and, ih, List.all_cons]
def words1 : List Jvm.Cond := Jvm.Cond.code x code maxLocals ret :: tables_1
/-- a 'code' word, met by the world's own term for the bytes: nothing is compared byte by byte -/
theorem code_word {y : MethodName} {bytes : ByteArray} {mx : Nat} {rt : Option FieldType} {a : Array Value} {s : State} {m : MethodId} {meth : Method} {c : Code} (h1 : s.methodNamed? y = some m) (h2 : s.vm.method? m = some meth) (h3 : meth.code = some c) (h4 : c.code = bytes)
    (h5 : (c.maxLocals == mx && c.exceptionTable.isEmpty && decide (c.maxStack ≤ mostOperands) && decide (meth.sig.returnType = rt) && !meth.locks && decide (parseMethodDescriptor y.desc = some meth.sig)) = true) : (Jvm.Cond.code y bytes mx rt).before a s = true := by
  simp only [Bool.and_eq_true, beq_iff_eq, Bool.not_eq_true', decide_eq_true_eq] at h5
  obtain ⟨⟨⟨⟨⟨g1, g2⟩, g3⟩, g4⟩, g5⟩, g6⟩ := h5
  simp [Cond.before, Cond.holds, Cond.value, h1, h2, h3, h4, g1, g2, g3, g4, g5, g6]
def isCode : Jvm.Cond → Bool
  | .code _ _ _ _ => true
  | _ => false
theorem all_split {L : List Jvm.Cond} {P : Jvm.Cond → Bool} (h1 : L.all (fun c => isCode c || P c) = true) (h2 : ∀ c ∈ L.filter isCode, P c = true) : L.all P = true := by
  refine List.all_eq_true.mpr fun c hc => ?_
  have h := List.all_eq_true.mp h1 c hc
  rcases Bool.eq_false_or_eq_true (isCode c) with hi | hi
  · exact h2 c (List.mem_filter.mpr ⟨hc, hi⟩)
  · simpa [hi] using h
set_option maxRecDepth 65536 in
theorem w_c0 : (Jvm.Cond.code x code maxLocals ret).before args0 about1 = true := code_word (m := ⟨1, 1⟩) (meth := k1m1) (c := k1c1) (by decide +kernel) rfl rfl rfl (by decide +kernel)
set_option maxRecDepth 65536 in
theorem w_c1 : (Jvm.Cond.code ({ cls := "com/example/indentary/indentary/conventions/Holiday$GoodFriday", name := "easterSunday", desc := "(I)Ljava/time/LocalDate;" } : Jvm.MethodName) prog_18_method_3_code (8 : Nat) (Option.some (Jvm.ClassFile.FieldType.object "java/time/LocalDate"))).before args0 about1 = true := code_word (m := ⟨4, 1⟩) (meth := k4m1) (c := k4c1) (by decide +kernel) rfl rfl rfl (by decide +kernel)
set_option maxRecDepth 65536 in
theorem w_c2 : (Jvm.Cond.code ({ cls := "java/time/LocalDate", name := "of", desc := "(ILjava/time/Month;I)Ljava/time/LocalDate;" } : Jvm.MethodName) jdk_2323_method_4_code (3 : Nat) (Option.some (Jvm.ClassFile.FieldType.object "java/time/LocalDate"))).before args0 about1 = true := code_word (m := ⟨14, 0⟩) (meth := k14m0) (c := k14c0) (by decide +kernel) rfl rfl rfl (by decide +kernel)
set_option maxRecDepth 65536 in
theorem w_c3 : (Jvm.Cond.code ({ cls := "java/time/temporal/ChronoField", name := "checkValidValue", desc := "(J)J" } : Jvm.MethodName) jdk_2395_method_11_code (3 : Nat) (Option.some Jvm.ClassFile.FieldType.long)).before args0 about1 = true := code_word (m := ⟨16, 1⟩) (meth := k16m1) (c := k16c1) (by decide +kernel) rfl rfl rfl (by decide +kernel)
set_option maxRecDepth 65536 in
theorem w_c4 : (Jvm.Cond.code ({ cls := "java/time/temporal/ChronoField", name := "range", desc := "()Ljava/time/temporal/ValueRange;" } : Jvm.MethodName) jdk_2395_method_8_code (1 : Nat) (Option.some (Jvm.ClassFile.FieldType.object "java/time/temporal/ValueRange"))).before args0 about1 = true := code_word (m := ⟨16, 0⟩) (meth := k16m0) (c := k16c0) (by decide +kernel) rfl rfl rfl (by decide +kernel)
set_option maxRecDepth 65536 in
theorem w_c5 : (Jvm.Cond.code ({ cls := "java/time/temporal/ValueRange", name := "checkValidValue", desc := "(JLjava/time/temporal/TemporalField;)J" } : Jvm.MethodName) jdk_2423_method_13_code (4 : Nat) (Option.some Jvm.ClassFile.FieldType.long)).before args0 about1 = true := code_word (m := ⟨17, 3⟩) (meth := k17m3) (c := k17c3) (by decide +kernel) rfl rfl rfl (by decide +kernel)
set_option maxRecDepth 65536 in
theorem w_c6 : (Jvm.Cond.code ({ cls := "java/time/temporal/ValueRange", name := "isValidValue", desc := "(J)Z" } : Jvm.MethodName) jdk_2423_method_11_code (3 : Nat) (Option.some Jvm.ClassFile.FieldType.boolean)).before args0 about1 = true := code_word (m := ⟨17, 2⟩) (meth := k17m2) (c := k17c2) (by decide +kernel) rfl rfl rfl (by decide +kernel)
set_option maxRecDepth 65536 in
theorem w_c7 : (Jvm.Cond.code ({ cls := "java/time/temporal/ValueRange", name := "getMinimum", desc := "()J" } : Jvm.MethodName) jdk_2423_method_6_code (1 : Nat) (Option.some Jvm.ClassFile.FieldType.long)).before args0 about1 = true := code_word (m := ⟨17, 0⟩) (meth := k17m0) (c := k17c0) (by decide +kernel) rfl rfl rfl (by decide +kernel)
set_option maxRecDepth 65536 in
theorem w_c8 : (Jvm.Cond.code ({ cls := "java/time/temporal/ValueRange", name := "getMaximum", desc := "()J" } : Jvm.MethodName) jdk_2423_method_9_code (1 : Nat) (Option.some Jvm.ClassFile.FieldType.long)).before args0 about1 = true := code_word (m := ⟨17, 1⟩) (meth := k17m1) (c := k17c1) (by decide +kernel) rfl rfl rfl (by decide +kernel)
set_option maxRecDepth 65536 in
theorem w_c9 : (Jvm.Cond.code ({ cls := "java/util/Objects", name := "requireNonNull", desc := "(Ljava/lang/Object;Ljava/lang/String;)Ljava/lang/Object;" } : Jvm.MethodName) jdk_31_method_11_code (2 : Nat) (Option.some (Jvm.ClassFile.FieldType.object "java/lang/Object"))).before args0 about1 = true := code_word (m := ⟨21, 1⟩) (meth := k21m1) (c := k21c1) (by decide +kernel) rfl rfl rfl (by decide +kernel)
set_option maxRecDepth 65536 in
theorem w_c10 : (Jvm.Cond.code ({ cls := "java/time/Month", name := "getValue", desc := "()I" } : Jvm.MethodName) jdk_2329_method_6_code (1 : Nat) (Option.some Jvm.ClassFile.FieldType.int)).before args0 about1 = true := code_word (m := ⟨11, 0⟩) (meth := k11m0) (c := k11c0) (by decide +kernel) rfl rfl rfl (by decide +kernel)
set_option maxRecDepth 65536 in
theorem w_c11 : (Jvm.Cond.code ({ cls := "java/lang/Enum", name := "ordinal", desc := "()I" } : Jvm.MethodName) jdk_37_method_2_code (1 : Nat) (Option.some Jvm.ClassFile.FieldType.int)).before args0 about1 = true := code_word (m := ⟨8, 0⟩) (meth := k8m0) (c := k8c0) (by decide +kernel) rfl rfl rfl (by decide +kernel)
set_option maxRecDepth 65536 in
theorem w_c12 : (Jvm.Cond.code ({ cls := "java/time/LocalDate", name := "create", desc := "(III)Ljava/time/LocalDate;" } : Jvm.MethodName) jdk_2323_method_12_code (4 : Nat) (Option.some (Jvm.ClassFile.FieldType.object "java/time/LocalDate"))).before args0 about1 = true := code_word (m := ⟨14, 1⟩) (meth := k14m1) (c := k14c1) (by decide +kernel) rfl rfl rfl (by decide +kernel)
set_option maxRecDepth 65536 in
theorem w_c13 : (Jvm.Cond.code ({ cls := "java/time/LocalDate", name := "<init>", desc := "(III)V" } : Jvm.MethodName) jdk_2323_method_14_code (4 : Nat) (Option.none : Option Jvm.ClassFile.FieldType)).before args0 about1 = true := code_word (m := ⟨14, 2⟩) (meth := k14m2) (c := k14c2) (by decide +kernel) rfl rfl rfl (by decide +kernel)
set_option maxRecDepth 65536 in
theorem w_c14 : (Jvm.Cond.code ({ cls := "java/lang/Object", name := "<init>", desc := "()V" } : Jvm.MethodName) object_method_1_code (1 : Nat) (Option.none : Option Jvm.ClassFile.FieldType)).before args0 about1 = true := code_word (m := ⟨0, 0⟩) (meth := k0m0) (c := k0c0) (by decide +kernel) rfl rfl rfl (by decide +kernel)
set_option maxRecDepth 65536 in
theorem w_c15 : (Jvm.Cond.code ({ cls := "java/time/LocalDate", name := "plusDays", desc := "(J)Ljava/time/LocalDate;" } : Jvm.MethodName) jdk_2323_method_44_code (7 : Nat) (Option.some (Jvm.ClassFile.FieldType.object "java/time/LocalDate"))).before args0 about1 = true := code_word (m := ⟨14, 7⟩) (meth := k14m7) (c := k14c7) (by decide +kernel) rfl rfl rfl (by decide +kernel)
set_option maxRecDepth 65536 in
theorem w_c16 : (Jvm.Cond.code ({ cls := "java/time/LocalDate", name := "lengthOfMonth", desc := "()I" } : Jvm.MethodName) jdk_2323_method_31_code (1 : Nat) (Option.some Jvm.ClassFile.FieldType.int)).before args0 about1 = true := code_word (m := ⟨14, 6⟩) (meth := k14m6) (c := k14c6) (by decide +kernel) rfl rfl rfl (by decide +kernel)
set_option maxRecDepth 65536 in
theorem w_c17 : (Jvm.Cond.code ({ cls := "java/time/LocalDate", name := "getYear", desc := "()I" } : Jvm.MethodName) jdk_2323_method_24_code (1 : Nat) (Option.some Jvm.ClassFile.FieldType.int)).before args0 about1 = true := code_word (m := ⟨14, 3⟩) (meth := k14m3) (c := k14c3) (by decide +kernel) rfl rfl rfl (by decide +kernel)
set_option maxRecDepth 65536 in
theorem w_c18 : (Jvm.Cond.code ({ cls := "java/time/LocalDate", name := "getMonthValue", desc := "()I" } : Jvm.MethodName) jdk_2323_method_25_code (1 : Nat) (Option.some Jvm.ClassFile.FieldType.int)).before args0 about1 = true := code_word (m := ⟨14, 4⟩) (meth := k14m4) (c := k14c4) (by decide +kernel) rfl rfl rfl (by decide +kernel)
set_option maxRecDepth 65536 in
theorem w_c19 : (Jvm.Cond.code ({ cls := "java/time/LocalDate", name := "getDayOfMonth", desc := "()I" } : Jvm.MethodName) jdk_2323_method_27_code (1 : Nat) (Option.some Jvm.ClassFile.FieldType.int)).before args0 about1 = true := code_word (m := ⟨14, 5⟩) (meth := k14m5) (c := k14c5) (by decide +kernel) rfl rfl rfl (by decide +kernel)
def codes1 : List Jvm.Cond := [Jvm.Cond.code x code maxLocals ret, Jvm.Cond.code ({ cls := "com/example/indentary/indentary/conventions/Holiday$GoodFriday", name := "easterSunday", desc := "(I)Ljava/time/LocalDate;" } : Jvm.MethodName) prog_18_method_3_code (8 : Nat) (Option.some (Jvm.ClassFile.FieldType.object "java/time/LocalDate")), Jvm.Cond.code ({ cls := "java/time/LocalDate", name := "of", desc := "(ILjava/time/Month;I)Ljava/time/LocalDate;" } : Jvm.MethodName) jdk_2323_method_4_code (3 : Nat) (Option.some (Jvm.ClassFile.FieldType.object "java/time/LocalDate")), Jvm.Cond.code ({ cls := "java/time/temporal/ChronoField", name := "checkValidValue", desc := "(J)J" } : Jvm.MethodName) jdk_2395_method_11_code (3 : Nat) (Option.some Jvm.ClassFile.FieldType.long), Jvm.Cond.code ({ cls := "java/time/temporal/ChronoField", name := "range", desc := "()Ljava/time/temporal/ValueRange;" } : Jvm.MethodName) jdk_2395_method_8_code (1 : Nat) (Option.some (Jvm.ClassFile.FieldType.object "java/time/temporal/ValueRange")), Jvm.Cond.code ({ cls := "java/time/temporal/ValueRange", name := "checkValidValue", desc := "(JLjava/time/temporal/TemporalField;)J" } : Jvm.MethodName) jdk_2423_method_13_code (4 : Nat) (Option.some Jvm.ClassFile.FieldType.long), Jvm.Cond.code ({ cls := "java/time/temporal/ValueRange", name := "isValidValue", desc := "(J)Z" } : Jvm.MethodName) jdk_2423_method_11_code (3 : Nat) (Option.some Jvm.ClassFile.FieldType.boolean), Jvm.Cond.code ({ cls := "java/time/temporal/ValueRange", name := "getMinimum", desc := "()J" } : Jvm.MethodName) jdk_2423_method_6_code (1 : Nat) (Option.some Jvm.ClassFile.FieldType.long), Jvm.Cond.code ({ cls := "java/time/temporal/ValueRange", name := "getMaximum", desc := "()J" } : Jvm.MethodName) jdk_2423_method_9_code (1 : Nat) (Option.some Jvm.ClassFile.FieldType.long), Jvm.Cond.code ({ cls := "java/util/Objects", name := "requireNonNull", desc := "(Ljava/lang/Object;Ljava/lang/String;)Ljava/lang/Object;" } : Jvm.MethodName) jdk_31_method_11_code (2 : Nat) (Option.some (Jvm.ClassFile.FieldType.object "java/lang/Object")), Jvm.Cond.code ({ cls := "java/time/Month", name := "getValue", desc := "()I" } : Jvm.MethodName) jdk_2329_method_6_code (1 : Nat) (Option.some Jvm.ClassFile.FieldType.int), Jvm.Cond.code ({ cls := "java/lang/Enum", name := "ordinal", desc := "()I" } : Jvm.MethodName) jdk_37_method_2_code (1 : Nat) (Option.some Jvm.ClassFile.FieldType.int), Jvm.Cond.code ({ cls := "java/time/LocalDate", name := "create", desc := "(III)Ljava/time/LocalDate;" } : Jvm.MethodName) jdk_2323_method_12_code (4 : Nat) (Option.some (Jvm.ClassFile.FieldType.object "java/time/LocalDate")), Jvm.Cond.code ({ cls := "java/time/LocalDate", name := "<init>", desc := "(III)V" } : Jvm.MethodName) jdk_2323_method_14_code (4 : Nat) (Option.none : Option Jvm.ClassFile.FieldType), Jvm.Cond.code ({ cls := "java/lang/Object", name := "<init>", desc := "()V" } : Jvm.MethodName) object_method_1_code (1 : Nat) (Option.none : Option Jvm.ClassFile.FieldType), Jvm.Cond.code ({ cls := "java/time/LocalDate", name := "plusDays", desc := "(J)Ljava/time/LocalDate;" } : Jvm.MethodName) jdk_2323_method_44_code (7 : Nat) (Option.some (Jvm.ClassFile.FieldType.object "java/time/LocalDate")), Jvm.Cond.code ({ cls := "java/time/LocalDate", name := "lengthOfMonth", desc := "()I" } : Jvm.MethodName) jdk_2323_method_31_code (1 : Nat) (Option.some Jvm.ClassFile.FieldType.int), Jvm.Cond.code ({ cls := "java/time/LocalDate", name := "getYear", desc := "()I" } : Jvm.MethodName) jdk_2323_method_24_code (1 : Nat) (Option.some Jvm.ClassFile.FieldType.int), Jvm.Cond.code ({ cls := "java/time/LocalDate", name := "getMonthValue", desc := "()I" } : Jvm.MethodName) jdk_2323_method_25_code (1 : Nat) (Option.some Jvm.ClassFile.FieldType.int), Jvm.Cond.code ({ cls := "java/time/LocalDate", name := "getDayOfMonth", desc := "()I" } : Jvm.MethodName) jdk_2323_method_27_code (1 : Nat) (Option.some Jvm.ClassFile.FieldType.int)]
set_option maxRecDepth 65536 in
theorem codes_eq : words1.filter isCode = codes1 := rfl
theorem w_codes : ∀ c ∈ words1.filter isCode, c.before args0 about1 = true := by
  rw [codes_eq]
  intro c hc
  simp only [codes1, List.mem_cons, List.not_mem_nil, or_false] at hc
  rcases hc with rfl | rfl | rfl | rfl | rfl | rfl | rfl | rfl | rfl | rfl | rfl | rfl | rfl | rfl | rfl | rfl | rfl | rfl | rfl | rfl
  · exact w_c0
  · exact w_c1
  · exact w_c2
  · exact w_c3
  · exact w_c4
  · exact w_c5
  · exact w_c6
  · exact w_c7
  · exact w_c8
  · exact w_c9
  · exact w_c10
  · exact w_c11
  · exact w_c12
  · exact w_c13
  · exact w_c14
  · exact w_c15
  · exact w_c16
  · exact w_c17
  · exact w_c18
  · exact w_c19
set_option maxRecDepth 65536 in
theorem w_t1 : (words1.take 24).all (fun c => isCode c || c.before args0 about1) = true := by decide +kernel
set_option maxRecDepth 65536 in
theorem w_t2 : ((words1.drop 24).take 24).all (fun c => isCode c || c.before args0 about1) = true := by decide +kernel
set_option maxRecDepth 65536 in
theorem w_t3 : (((words1.drop 24).drop 24).take 24).all (fun c => isCode c || c.before args0 about1) = true := by decide +kernel
set_option maxRecDepth 65536 in
theorem w_t4 : ((((words1.drop 24).drop 24).drop 24).take 24).all (fun c => isCode c || c.before args0 about1) = true := by decide +kernel
set_option maxRecDepth 65536 in
theorem w_t5 : (((((words1.drop 24).drop 24).drop 24).drop 24).take 24).all (fun c => isCode c || c.before args0 about1) = true := by decide +kernel
set_option maxRecDepth 65536 in
theorem w_t6 : (((((words1.drop 24).drop 24).drop 24).drop 24).drop 24).all (fun c => isCode c || c.before args0 about1) = true := by decide +kernel
theorem w_tables : (allAtoms (Jvm.Cond.code x code maxLocals ret :: tables_1)).before args0 about1 = true := by
  rw [allAtoms_all]
  show words1.all (fun c => c.before args0 about1) = true
  refine all_split ?_ w_codes
  rw [← List.take_append_drop 24 words1, List.all_append, w_t1, ← List.take_append_drop 24 (words1.drop 24), List.all_append, w_t2, ← List.take_append_drop 24 ((words1.drop 24).drop 24), List.all_append, w_t3, ← List.take_append_drop 24 (((words1.drop 24).drop 24).drop 24), List.all_append, w_t4, ← List.take_append_drop 24 ((((words1.drop 24).drop 24).drop 24).drop 24), List.all_append, w_t5, w_t6]
  rfl
set_option maxRecDepth 65536 in
theorem w_rest : rest_1_c.before args0 about1 = true := by decide +kernel
set_option maxRecDepth 65536 in
theorem w_case : (Jvm.Cond.and given_1 narrow_1).before args0 about1 = true := by decide +kernel
theorem w_applies : (headSpec (Jvm.Cond.code x code maxLocals ret :: tables_1) room_1).applies x e0.platform about1 = true :=
  (Spec.applies_iff w_frames).mpr ⟨w_running, w_runnable, w_alone, w_named, w_hears, w_ripe, w_room, w_tables⟩
theorem atStart : AtStart classFile x code maxLocals ret World_1 tables_1 room_1 Calls_1 rest_1 Pre_1 launch0 p0 e0 about1 theMethod args0 below0 :=
  ⟨lists_1, trivial, launch0.admits_env _ _ _, launch0.least_env, fairChoices_fair.cas, fairChoices_fair.clock, w_frames, w_args, w_heap, w_applies, trivial, w_rest, w_case⟩
end start1
theorem witness_1 : WitnessClaimed_1 := ⟨start1.p0, start1.e0, start1.about1, start1.theMethod, start1.args0, start1.below0, start1.atStart⟩
end Jvm.Pilot.@@N@@
