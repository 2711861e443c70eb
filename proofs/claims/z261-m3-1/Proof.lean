import JvmDerived
import JvmDerived.Pilot.@@N@@Statement
import JvmDerived.Pilot.@@N@@Code
set_option linter.unusedVariables false
set_option linter.unusedSimpArgs false
namespace Jvm.Pilot.@@N@@
open Jvm Jvm.ClassFile Sem Op Lib Jvm.Free Jvm.Stand Jvm.LawKit Jvm.RoadKit Bundle Jvm.Pilot.@@N@@.Jvm.D
section Kit
/-- from the frame g over T the run comes to a state of which P holds -/
def Run (p : Program) (e : Env) (below : List Frame) (P : State → Prop) (T : State) (g : JFrame) : Prop := ∃ t, Steps p.tables e below (T.setTop g) t ∧ P t
/-- where the walk stands: the library's Stand with what goes along with it; Z: the law's own start; h: the heap at hand -/
def St (Z : State) (own : String) (bs : ByteArray) (mL : Nat) (p : Program) (l : Launch) (e : Env) (R : Room) (s : State) (m : MethodId) (args : Array Value) (below : List Frame) (meth : Method) (c : Code) (T : State) (h : Heap) (cells slots : Nat) : Prop :=
  ∃ locs, Stand p l e R s m args below meth c T locs cells slots ∧ Fr Z.heap.size locs ∧ Ext Z.heap h ∧ T.heap = h ∧ p.tables.exec = Jvm.exec ∧ c.code = bs ∧ c.maxLocals = mL ∧ Z.Warmed39 s.vm ∧ s.vm.findClass own = some m.cls
/-- how a body ends -/
def Fini (Z : State) (s : State) (below : List Frame) (k n : Nat) (Q : Option Value → Heap → Prop) (t : State) : Prop :=
  ∃ o, t.status = .running ∧ Ended t below o ∧ ∃ v L, o = .returned v ∧ (Q v t.heap ∧ Fr Z.heap.size L ∧ Ext Z.heap t.heap) ∧ FrameEnd s o t L k n
/-- a body's contract -/
def Con (l : Launch) (y : MethodName) (bs : ByteArray) (mL : Nat) (ret : Option FieldType) (ws : List Jvm.Cond) (rm : Room) (Z : State) (as : Array Value) (h0 : Heap) (Q : Option Value → Heap → Prop) : Prop :=
  MetFree l y (head1 (Jvm.Cond.code y bs mL ret :: ws) rm) (fun a U => a = as ∧ Z.Warmed39 U.vm ∧ U.heap = h0) (fun _ _ _ _ _ => True) (fun _ U o U' => ∃ v L, o = .returned v ∧ (Q v U'.heap ∧ Fr Z.heap.size L ∧ Ext Z.heap U'.heap) ∧ FrameEnd U o U' L rm.cells rm.slots)
def pu (v : Option Value) (S : List Value) : List Value := match v with | none => S | some w => w :: S
/-- a comparison in plain words -/
def cp (cd : ClassFile.Cond) (x y : Int32) : Prop := match cd with | .eq => x = y | .ne => ¬ x = y | .lt => x < y | .ge => ¬ x < y | .gt => y < x | .le => ¬ y < x
def cpn (cd : ClassFile.Cond) (x y : Int32) : Prop := match cd with | .eq => ¬ x = y | .ne => x = y | .lt => ¬ x < y | .ge => x < y | .gt => ¬ y < x | .le => y < x
variable {Z : State} {a0 : Array Value} {own : String} {bs : ByteArray} {mL : Nat} {p : Program} {l : Launch} {e : Env} {R : Room} {s : State} {m : MethodId} {args : Array Value} {below : List Frame} {meth : Method} {c : Code} {T : State} {h : Heap} {cells slots : Nat} {P : State → Prop} {pc pc' : Nat} {Ls : Array Slot} {S : List Value} {y : MethodName} {ret : Option FieldType} {rm : Room} {ws : List Jvm.Cond} {as : Array Value} {h0 : Heap} {Q : Option Value → Heap → Prop} {kc kn : Nat}
theorem St.here (K : St Z own bs mL p l e R s m args below meth c T h cells slots) : At T m c below := by obtain ⟨_, X, -⟩ := K; exact X.here
theorem St.hx (K : St Z own bs mL p l e R s m args below meth c T h cells slots) : p.tables.exec = Jvm.exec := by obtain ⟨_, -, -, -, -, q, -⟩ := K; exact q
theorem St.bts (K : St Z own bs mL p l e R s m args below meth c T h cells slots) : c.code = bs := by obtain ⟨_, -, -, -, -, -, q, -⟩ := K; exact q
theorem St.ext (K : St Z own bs mL p l e R s m args below meth c T h cells slots) : Ext Z.heap h := by obtain ⟨_, -, -, q, -⟩ := K; exact q
theorem St.sz (K : St Z own bs mL p l e R s m args below meth c T h cells slots) : Z.heap.size ≤ h.size := K.ext.1
theorem St.more (K : St Z own bs mL p l e R s m args below meth c T h cells slots) {c' s' : Nat} (h1 : cells ≤ c') (h2 : slots ≤ s') : St Z own bs mL p l e R s m args below meth c T h c' s' := by obtain ⟨lo, X, r⟩ := K; exact ⟨lo, X.more h1 h2, r⟩
theorem con_intro (hpn : plainFor y = true) (hx0 : Ext Z.heap h0)
    (body : ∀ (p : Program) (e : Env) (s : State) (m : MethodId) (below : List Frame) (meth : Method) (c : Code) (T : State), St Z y.cls bs mL p l e rm s m as below meth c T h0 0 0 → meth.sig.returnType = ret → meth.locks = false → meth.name = y.name →
      Run p e below (Fini Z s below rm.cells rm.slots Q) T (entryFrame m as mL)) : Con l y bs mL ret ws rm Z as h0 Q := by
  refine MetFree.of_bodySF hpn hisR ?_
  intro p e s m args below meth c s₁ Bd hml0 hP hK
  obtain ⟨rfl, hZ, hh⟩ := hP
  have hnm := (name_of_methodNamed Bd.named Bd.method).1
  have X0 : Stand p l e rm s m args below meth c s₁ [] 0 0 := Stand.of_body Bd
  have e0 : s₁.heap = h0 := by rw [← hh, Bd.state]; rfl
  obtain ⟨t, st, o, h1, h2, h3⟩ := body p e s m below meth c s₁ ⟨[], X0, Fr.nil _, hx0, e0, Bd.exec, Bd.bytes, hml0, hZ, findClass_of_methodNamed Bd.named⟩ Bd.returns Bd.notSynchronized hnm
  exact ⟨t, o, st, h1, h2, h3⟩
theorem Con.mono {Q' : Option Value → Heap → Prop} (M : Con l y bs mL ret ws rm Z as h0 Q) (hq : ∀ v h, Q v h → Q' v h) : Con l y bs mL ret ws rm Z as h0 Q' := by
  intro p e ha hc hk s m args below hf hA hP hK
  obtain ⟨n, o, h1, h2, h3, v, L, h4, ⟨h5, h6⟩, h7⟩ := M p e ha hc hk s m args below hf hA hP hK
  exact ⟨n, o, h1, h2, h3, v, L, h4, ⟨hq _ _ h5, h6⟩, h7⟩
theorem r_ret (K : St Z own bs mL p l e R s m args below meth c T h cells slots) {t : FieldType} {w : Value} {i : Instr} (hret : meth.sig.returnType = some t) (hlk : meth.locks = false) (hn : narrow t w = w)
    (hi : (i = .ireturn ∧ (t = .int ∨ t = .boolean ∨ t = .byte ∨ t = .char ∨ t = .short) ∧ ∃ z, w = .int z) ∨ (i = .lreturn ∧ t = .long ∧ ∃ z, w = .long z) ∨ (i = .dreturn ∧ t = .double ∧ ∃ z, w = .double z) ∨ (i = .freturn ∧ t = .float ∧ ∃ z, w = .float z) ∨ (i = .areturn ∧ t.isReference = true ∧ w.isRef = true))
    (hd : decode bs pc = .ok (i, 1)) (hc : cells ≤ kc) (hs : slots ≤ kn) (hq : Q (some w) h) : Run p e below (Fini Z s below kc kn Q) T (mkF m pc Ls (w :: S)) := by
  obtain ⟨locs, X, N, E, eT, hx, hby, hml, hZ, hown⟩ := K
  obtain ⟨fs, hr, hrun, hended, hW, hsame⟩ := X.leave (v := some w) (fun q => by rw [hret] at q; cases q)
  exact ⟨_, retOut X hx hret hn hi (hb hby hd) hr, _, hrun, hended, _, _, rfl, ⟨eT.symm ▸ hq, N, eT.symm ▸ E⟩, ⟨_, rfl⟩, hW, hsame.mono hc hs⟩
theorem r_retI (K : St Z own bs mL p l e R s m args below meth c T h cells slots) {z : Int32} (hret : meth.sig.returnType = some .int) (hlk : meth.locks = false) (hd : decode bs pc = .ok (.ireturn, 1)) (hc : cells ≤ kc) (hs : slots ≤ kn) (hq : Q (some (.int z)) h) :
    Run p e below (Fini Z s below kc kn Q) T (mkF m pc Ls (.int z :: S)) := r_ret K hret hlk rfl (Or.inl ⟨rfl, Or.inl rfl, _, rfl⟩) hd hc hs hq
theorem r_retZ (K : St Z own bs mL p l e R s m args below meth c T h cells slots) {z : Int32} (hret : meth.sig.returnType = some .boolean) (hlk : meth.locks = false) (hn : narrow .boolean (.int z) = .int z) (hd : decode bs pc = .ok (.ireturn, 1)) (hc : cells ≤ kc) (hs : slots ≤ kn) (hq : Q (some (.int z)) h) :
    Run p e below (Fini Z s below kc kn Q) T (mkF m pc Ls (.int z :: S)) := r_ret K hret hlk hn (Or.inl ⟨rfl, Or.inr (Or.inl rfl), _, rfl⟩) hd hc hs hq
theorem r_retC (K : St Z own bs mL p l e R s m args below meth c T h cells slots) {z : Int32} (hret : meth.sig.returnType = some .char) (hlk : meth.locks = false) (hn : narrow .char (.int z) = .int z) (hd : decode bs pc = .ok (.ireturn, 1)) (hc : cells ≤ kc) (hs : slots ≤ kn) (hq : Q (some (.int z)) h) :
    Run p e below (Fini Z s below kc kn Q) T (mkF m pc Ls (.int z :: S)) := r_ret K hret hlk hn (Or.inl ⟨rfl, Or.inr (Or.inr (Or.inr (Or.inl rfl))), _, rfl⟩) hd hc hs hq
theorem r_retB (K : St Z own bs mL p l e R s m args below meth c T h cells slots) {z : Int32} (hret : meth.sig.returnType = some .byte) (hlk : meth.locks = false) (hn : narrow .byte (.int z) = .int z) (hd : decode bs pc = .ok (.ireturn, 1)) (hc : cells ≤ kc) (hs : slots ≤ kn) (hq : Q (some (.int z)) h) :
    Run p e below (Fini Z s below kc kn Q) T (mkF m pc Ls (.int z :: S)) := r_ret K hret hlk hn (Or.inl ⟨rfl, Or.inr (Or.inr (Or.inl rfl)), _, rfl⟩) hd hc hs hq
theorem r_retJ (K : St Z own bs mL p l e R s m args below meth c T h cells slots) {z : Int64} (hret : meth.sig.returnType = some .long) (hlk : meth.locks = false) (hd : decode bs pc = .ok (.lreturn, 1)) (hc : cells ≤ kc) (hs : slots ≤ kn) (hq : Q (some (.long z)) h) :
    Run p e below (Fini Z s below kc kn Q) T (mkF m pc Ls (.long z :: S)) := r_ret K hret hlk rfl (Or.inr (Or.inl ⟨rfl, rfl, _, rfl⟩)) hd hc hs hq
theorem r_retA (K : St Z own bs mL p l e R s m args below meth c T h cells slots) {t : FieldType} {w : Value} (hret : meth.sig.returnType = some t) (hlk : meth.locks = false) (ht : t.isReference = true) (hw : w.isRef = true) (hd : decode bs pc = .ok (.areturn, 1)) (hc : cells ≤ kc) (hs : slots ≤ kn) (hq : Q (some w) h) :
    Run p e below (Fini Z s below kc kn Q) T (mkF m pc Ls (w :: S)) := r_ret K hret hlk (by cases t <;> cases w <;> first | rfl | (simp [FieldType.isReference, Value.isRef] at ht hw)) (Or.inr (Or.inr (Or.inr (Or.inr ⟨rfl, ht, hw⟩)))) hd hc hs hq
theorem r_retV (K : St Z own bs mL p l e R s m args below meth c T h cells slots) (hret : meth.sig.returnType = none) (hlk : meth.locks = false) (hd : decode bs pc = .ok (.return_, 1)) (hc : cells ≤ kc) (hs : slots ≤ kn) (hq : Q none h) :
    Run p e below (Fini Z s below kc kn Q) T (mkF m pc Ls []) := by
  obtain ⟨locs, X, N, E, eT, hx, hby, hml, hZ, hown⟩ := K
  obtain ⟨fs, hr, hrun, hended, hW, hsame⟩ := X.leave (v := none) (fun _ => rfl)
  exact ⟨_, X.returnOut hx hret (hb hby hd) hr, _, hrun, hended, _, _, rfl, ⟨eT.symm ▸ hq, N, eT.symm ▸ E⟩, ⟨_, rfl⟩, hW, hsame.mono hc hs⟩
theorem r_iload (K : St Z own bs mL p l e R s m args below meth c T h cells slots) {k : Nat} {v : Int32} (hd : decode bs pc = .ok (.iload k, 2)) (hp : pc + 2 = pc') (hl : Ls[k]? = some (.val (.int v))) (r : Run p e below P T (mkF m pc' Ls (.int v :: S))) : Run p e below P T (mkF m pc Ls S) := by
  subst hp; obtain ⟨t, st, q⟩ := r; exact ⟨t, XS.iload K.here K.hx rfl (hb K.bts hd) hl st, q⟩
theorem r_iloadN (K : St Z own bs mL p l e R s m args below meth c T h cells slots) {k : Fin 4} {v : Int32} (hd : decode bs pc = .ok (.iload_n k, 1)) (hp : pc + 1 = pc') (hl : Ls[k.val]? = some (.val (.int v))) (r : Run p e below P T (mkF m pc' Ls (.int v :: S))) : Run p e below P T (mkF m pc Ls S) := by
  subst hp; obtain ⟨t, st, q⟩ := r; exact ⟨t, XS.iloadN K.here K.hx rfl (hb K.bts hd) hl st, q⟩
theorem r_lload (K : St Z own bs mL p l e R s m args below meth c T h cells slots) {k : Nat} {v : Int64} (hd : decode bs pc = .ok (.lload k, 2)) (hp : pc + 2 = pc') (hl : Ls[k]? = some (.val (.long v))) (r : Run p e below P T (mkF m pc' Ls (.long v :: S))) : Run p e below P T (mkF m pc Ls S) := by
  subst hp; obtain ⟨t, st, q⟩ := r; exact ⟨t, XS.lload K.here K.hx rfl (hb K.bts hd) hl st, q⟩
theorem r_lloadN (K : St Z own bs mL p l e R s m args below meth c T h cells slots) {k : Fin 4} {v : Int64} (hd : decode bs pc = .ok (.lload_n k, 1)) (hp : pc + 1 = pc') (hl : Ls[k.val]? = some (.val (.long v))) (r : Run p e below P T (mkF m pc' Ls (.long v :: S))) : Run p e below P T (mkF m pc Ls S) := by
  subst hp; obtain ⟨t, st, q⟩ := r; exact ⟨t, XS.lloadN K.here K.hx rfl (hb K.bts hd) hl st, q⟩
theorem r_aload (K : St Z own bs mL p l e R s m args below meth c T h cells slots) {k : Nat} {v : Value} (hd : decode bs pc = .ok (.aload k, 2)) (hp : pc + 2 = pc') (hl : Ls[k]? = some (.val v)) (hv : v.isRef = true) (r : Run p e below P T (mkF m pc' Ls (v :: S))) : Run p e below P T (mkF m pc Ls S) := by
  subst hp; obtain ⟨t, st, q⟩ := r; exact ⟨t, XS.aload K.here K.hx rfl (hb K.bts hd) hl hv st, q⟩
theorem r_aloadN (K : St Z own bs mL p l e R s m args below meth c T h cells slots) {k : Fin 4} {v : Value} (hd : decode bs pc = .ok (.aload_n k, 1)) (hp : pc + 1 = pc') (hl : Ls[k.val]? = some (.val v)) (hv : v.isRef = true) (r : Run p e below P T (mkF m pc' Ls (v :: S))) : Run p e below P T (mkF m pc Ls S) := by
  subst hp; obtain ⟨t, st, q⟩ := r; exact ⟨t, XS.aloadN K.here K.hx rfl (hb K.bts hd) hl hv st, q⟩
theorem r_istore (K : St Z own bs mL p l e R s m args below meth c T h cells slots) {k : Nat} {x : Int32} {Ls' : Array Slot} (hd : decode bs pc = .ok (.istore k, 2)) (hp : pc + 2 = pc') (hl : storeLocals Ls k (.int x) = some Ls') (r : Run p e below P T (mkF m pc' Ls' S)) : Run p e below P T (mkF m pc Ls (.int x :: S)) := by
  subst hp; obtain ⟨t, st, q⟩ := r; exact ⟨t, XS.istore K.here K.hx rfl (hb K.bts hd) rfl hl st, q⟩
theorem r_istoreN (K : St Z own bs mL p l e R s m args below meth c T h cells slots) {k : Fin 4} {x : Int32} {Ls' : Array Slot} (hd : decode bs pc = .ok (.istore_n k, 1)) (hp : pc + 1 = pc') (hl : storeLocals Ls k.val (.int x) = some Ls') (r : Run p e below P T (mkF m pc' Ls' S)) : Run p e below P T (mkF m pc Ls (.int x :: S)) := by
  subst hp; obtain ⟨t, st, q⟩ := r; exact ⟨t, XS.istoreN K.here K.hx rfl (hb K.bts hd) rfl hl st, q⟩
theorem r_lstore (K : St Z own bs mL p l e R s m args below meth c T h cells slots) {k : Nat} {x : Int64} {Ls' : Array Slot} (hd : decode bs pc = .ok (.lstore k, 2)) (hp : pc + 2 = pc') (hl : storeLocals Ls k (.long x) = some Ls') (r : Run p e below P T (mkF m pc' Ls' S)) : Run p e below P T (mkF m pc Ls (.long x :: S)) := by
  subst hp; obtain ⟨t, st, q⟩ := r; exact ⟨t, XS.lstore K.here K.hx rfl (hb K.bts hd) rfl hl st, q⟩
theorem r_lstoreN (K : St Z own bs mL p l e R s m args below meth c T h cells slots) {k : Fin 4} {x : Int64} {Ls' : Array Slot} (hd : decode bs pc = .ok (.lstore_n k, 1)) (hp : pc + 1 = pc') (hl : storeLocals Ls k.val (.long x) = some Ls') (r : Run p e below P T (mkF m pc' Ls' S)) : Run p e below P T (mkF m pc Ls (.long x :: S)) := by
  subst hp; obtain ⟨t, st, q⟩ := r; exact ⟨t, XS.lstoreN K.here K.hx rfl (hb K.bts hd) rfl hl st, q⟩
theorem r_astore (K : St Z own bs mL p l e R s m args below meth c T h cells slots) {k : Nat} {x : Value} {Ls' : Array Slot} (hd : decode bs pc = .ok (.astore k, 2)) (hp : pc + 2 = pc') (hv : x.isRef = true) (hl : storeLocals Ls k x = some Ls') (r : Run p e below P T (mkF m pc' Ls' S)) : Run p e below P T (mkF m pc Ls (x :: S)) := by
  subst hp; obtain ⟨t, st, q⟩ := r; exact ⟨t, XS.astore K.here K.hx rfl (hb K.bts hd) rfl hv hl st, q⟩
theorem r_astoreN (K : St Z own bs mL p l e R s m args below meth c T h cells slots) {k : Fin 4} {x : Value} {Ls' : Array Slot} (hd : decode bs pc = .ok (.astore_n k, 1)) (hp : pc + 1 = pc') (hv : x.isRef = true) (hl : storeLocals Ls k.val x = some Ls') (r : Run p e below P T (mkF m pc' Ls' S)) : Run p e below P T (mkF m pc Ls (x :: S)) := by
  subst hp; obtain ⟨t, st, q⟩ := r; exact ⟨t, XS.astoreN K.here K.hx rfl (hb K.bts hd) rfl hv hl st, q⟩
theorem r_iinc (K : St Z own bs mL p l e R s m args below meth c T h cells slots) {k : Nat} {cst : Int} {x v : Int32} {Ls' : Array Slot} (hd : decode bs pc = .ok (.iinc k cst, 3)) (hp : pc + 3 = pc') (hv : Int32.ofInt cst = v) (hl : Ls[k]? = some (.val (.int x))) (hl' : storeLocals Ls k (.int (x + v)) = some Ls') (r : Run p e below P T (mkF m pc' Ls' S)) : Run p e below P T (mkF m pc Ls S) := by
  subst hp hv; obtain ⟨t, st, q⟩ := r; exact ⟨t, XS.iinc K.here K.hx rfl (hb K.bts hd) hl hl' st, q⟩
theorem r_iconst (K : St Z own bs mL p l e R s m args below meth c T h cells slots) {i : Int} {v : Int32} (hd : decode bs pc = .ok (.iconst i, 1)) (hp : pc + 1 = pc') (hv : Int32.ofInt i = v) (r : Run p e below P T (mkF m pc' Ls (.int v :: S))) : Run p e below P T (mkF m pc Ls S) := by
  subst hp hv; obtain ⟨t, st, q⟩ := r; exact ⟨t, XS.iconst K.here K.hx rfl (hb K.bts hd) st, q⟩
theorem r_bipush (K : St Z own bs mL p l e R s m args below meth c T h cells slots) {i : Int} {v : Int32} (hd : decode bs pc = .ok (.bipush i, 2)) (hp : pc + 2 = pc') (hv : (Int8.ofInt i).toInt32 = v) (r : Run p e below P T (mkF m pc' Ls (.int v :: S))) : Run p e below P T (mkF m pc Ls S) := by
  subst hp hv; obtain ⟨t, st, q⟩ := r; exact ⟨t, XS.bipush K.here K.hx rfl (hb K.bts hd) st, q⟩
theorem r_sipush (K : St Z own bs mL p l e R s m args below meth c T h cells slots) {i : Int} {v : Int32} (hd : decode bs pc = .ok (.sipush i, 3)) (hp : pc + 3 = pc') (hv : (Int16.ofInt i).toInt32 = v) (r : Run p e below P T (mkF m pc' Ls (.int v :: S))) : Run p e below P T (mkF m pc Ls S) := by
  subst hp hv; obtain ⟨t, st, q⟩ := r; exact ⟨t, XS.sipush K.here K.hx rfl (hb K.bts hd) st, q⟩
theorem r_lconst (K : St Z own bs mL p l e R s m args below meth c T h cells slots) {k : Fin 2} {v : Int64} (hd : decode bs pc = .ok (.lconst k, 1)) (hp : pc + 1 = pc') (hv : Int64.ofNat k = v) (r : Run p e below P T (mkF m pc' Ls (.long v :: S))) : Run p e below P T (mkF m pc Ls S) := by
  subst hp hv; obtain ⟨t, st, q⟩ := r; exact ⟨t, XS.lconst K.here K.hx rfl (hb K.bts hd) st, q⟩
theorem r_aconstNull (K : St Z own bs mL p l e R s m args below meth c T h cells slots)  (hd : decode bs pc = .ok (.aconst_null, 1)) (hp : pc + 1 = pc')  (r : Run p e below P T (mkF m pc' Ls (.null :: S))) : Run p e below P T (mkF m pc Ls S) := by
  subst hp; obtain ⟨t, st, q⟩ := r; exact ⟨t, XS.aconstNull K.here K.hx rfl (hb K.bts hd)  st, q⟩
theorem r_iadd (K : St Z own bs mL p l e R s m args below meth c T h cells slots) {x y : Int32} (hd : decode bs pc = .ok (.iadd, 1)) (hp : pc + 1 = pc')  (r : Run p e below P T (mkF m pc' Ls (.int (x + y) :: S))) : Run p e below P T (mkF m pc Ls (.int y :: .int x :: S)) := by
  subst hp; obtain ⟨t, st, q⟩ := r; exact ⟨t, XS.iadd K.here K.hx rfl (hb K.bts hd) rfl st, q⟩
theorem r_isub (K : St Z own bs mL p l e R s m args below meth c T h cells slots) {x y : Int32} (hd : decode bs pc = .ok (.isub, 1)) (hp : pc + 1 = pc')  (r : Run p e below P T (mkF m pc' Ls (.int (x - y) :: S))) : Run p e below P T (mkF m pc Ls (.int y :: .int x :: S)) := by
  subst hp; obtain ⟨t, st, q⟩ := r; exact ⟨t, XS.isub K.here K.hx rfl (hb K.bts hd) rfl st, q⟩
theorem r_imul (K : St Z own bs mL p l e R s m args below meth c T h cells slots) {x y : Int32} (hd : decode bs pc = .ok (.imul, 1)) (hp : pc + 1 = pc')  (r : Run p e below P T (mkF m pc' Ls (.int (x * y) :: S))) : Run p e below P T (mkF m pc Ls (.int y :: .int x :: S)) := by
  subst hp; obtain ⟨t, st, q⟩ := r; exact ⟨t, XS.imul K.here K.hx rfl (hb K.bts hd) rfl st, q⟩
theorem r_iand (K : St Z own bs mL p l e R s m args below meth c T h cells slots) {x y : Int32} (hd : decode bs pc = .ok (.iand, 1)) (hp : pc + 1 = pc')  (r : Run p e below P T (mkF m pc' Ls (.int (x &&& y) :: S))) : Run p e below P T (mkF m pc Ls (.int y :: .int x :: S)) := by
  subst hp; obtain ⟨t, st, q⟩ := r; exact ⟨t, XS.iand K.here K.hx rfl (hb K.bts hd) rfl st, q⟩
theorem r_ior (K : St Z own bs mL p l e R s m args below meth c T h cells slots) {x y : Int32} (hd : decode bs pc = .ok (.ior, 1)) (hp : pc + 1 = pc')  (r : Run p e below P T (mkF m pc' Ls (.int (x ||| y) :: S))) : Run p e below P T (mkF m pc Ls (.int y :: .int x :: S)) := by
  subst hp; obtain ⟨t, st, q⟩ := r; exact ⟨t, XS.ior K.here K.hx rfl (hb K.bts hd) rfl st, q⟩
theorem r_ixor (K : St Z own bs mL p l e R s m args below meth c T h cells slots) {x y : Int32} (hd : decode bs pc = .ok (.ixor, 1)) (hp : pc + 1 = pc')  (r : Run p e below P T (mkF m pc' Ls (.int (x ^^^ y) :: S))) : Run p e below P T (mkF m pc Ls (.int y :: .int x :: S)) := by
  subst hp; obtain ⟨t, st, q⟩ := r; exact ⟨t, XS.ixor K.here K.hx rfl (hb K.bts hd) rfl st, q⟩
theorem r_ishl (K : St Z own bs mL p l e R s m args below meth c T h cells slots) {x y : Int32} (hd : decode bs pc = .ok (.ishl, 1)) (hp : pc + 1 = pc')  (r : Run p e below P T (mkF m pc' Ls (.int (x <<< (y &&& 31)) :: S))) : Run p e below P T (mkF m pc Ls (.int y :: .int x :: S)) := by
  subst hp; obtain ⟨t, st, q⟩ := r; exact ⟨t, XS.ishl K.here K.hx rfl (hb K.bts hd) rfl st, q⟩
theorem r_ishr (K : St Z own bs mL p l e R s m args below meth c T h cells slots) {x y : Int32} (hd : decode bs pc = .ok (.ishr, 1)) (hp : pc + 1 = pc')  (r : Run p e below P T (mkF m pc' Ls (.int (x >>> (y &&& 31)) :: S))) : Run p e below P T (mkF m pc Ls (.int y :: .int x :: S)) := by
  subst hp; obtain ⟨t, st, q⟩ := r; exact ⟨t, XS.ishr K.here K.hx rfl (hb K.bts hd) rfl st, q⟩
theorem r_iushr (K : St Z own bs mL p l e R s m args below meth c T h cells slots) {x y : Int32} (hd : decode bs pc = .ok (.iushr, 1)) (hp : pc + 1 = pc')  (r : Run p e below P T (mkF m pc' Ls (.int ((x.toUInt32 >>> (y &&& 31).toUInt32).toInt32) :: S))) : Run p e below P T (mkF m pc Ls (.int y :: .int x :: S)) := by
  subst hp; obtain ⟨t, st, q⟩ := r; exact ⟨t, XS.iushr K.here K.hx rfl (hb K.bts hd) rfl st, q⟩
theorem r_ladd (K : St Z own bs mL p l e R s m args below meth c T h cells slots) {x y : Int64} (hd : decode bs pc = .ok (.ladd, 1)) (hp : pc + 1 = pc')  (r : Run p e below P T (mkF m pc' Ls (.long (x + y) :: S))) : Run p e below P T (mkF m pc Ls (.long y :: .long x :: S)) := by
  subst hp; obtain ⟨t, st, q⟩ := r; exact ⟨t, XS.ladd K.here K.hx rfl (hb K.bts hd) rfl st, q⟩
theorem r_lsub (K : St Z own bs mL p l e R s m args below meth c T h cells slots) {x y : Int64} (hd : decode bs pc = .ok (.lsub, 1)) (hp : pc + 1 = pc')  (r : Run p e below P T (mkF m pc' Ls (.long (x - y) :: S))) : Run p e below P T (mkF m pc Ls (.long y :: .long x :: S)) := by
  subst hp; obtain ⟨t, st, q⟩ := r; exact ⟨t, XS.lsub K.here K.hx rfl (hb K.bts hd) rfl st, q⟩
theorem r_lmul (K : St Z own bs mL p l e R s m args below meth c T h cells slots) {x y : Int64} (hd : decode bs pc = .ok (.lmul, 1)) (hp : pc + 1 = pc')  (r : Run p e below P T (mkF m pc' Ls (.long (x * y) :: S))) : Run p e below P T (mkF m pc Ls (.long y :: .long x :: S)) := by
  subst hp; obtain ⟨t, st, q⟩ := r; exact ⟨t, XS.lmul K.here K.hx rfl (hb K.bts hd) rfl st, q⟩
theorem r_land (K : St Z own bs mL p l e R s m args below meth c T h cells slots) {x y : Int64} (hd : decode bs pc = .ok (.land, 1)) (hp : pc + 1 = pc')  (r : Run p e below P T (mkF m pc' Ls (.long (x &&& y) :: S))) : Run p e below P T (mkF m pc Ls (.long y :: .long x :: S)) := by
  subst hp; obtain ⟨t, st, q⟩ := r; exact ⟨t, XS.land K.here K.hx rfl (hb K.bts hd) rfl st, q⟩
theorem r_idiv (K : St Z own bs mL p l e R s m args below meth c T h cells slots) {x y : Int32} (hd : decode bs pc = .ok (.idiv, 1)) (hp : pc + 1 = pc') (hy : y ≠ 0) (r : Run p e below P T (mkF m pc' Ls (.int (x / y) :: S))) : Run p e below P T (mkF m pc Ls (.int y :: .int x :: S)) := by
  subst hp; obtain ⟨t, st, q⟩ := r; exact ⟨t, XS.idiv K.here K.hx rfl (hb K.bts hd) rfl hy st, q⟩
theorem r_ldiv (K : St Z own bs mL p l e R s m args below meth c T h cells slots) {x y : Int64} (hd : decode bs pc = .ok (.ldiv, 1)) (hp : pc + 1 = pc') (hy : y ≠ 0) (r : Run p e below P T (mkF m pc' Ls (.long (x / y) :: S))) : Run p e below P T (mkF m pc Ls (.long y :: .long x :: S)) := by
  subst hp; obtain ⟨t, st, q⟩ := r; exact ⟨t, XS.ldiv K.here K.hx rfl (hb K.bts hd) rfl hy st, q⟩
theorem r_lrem (K : St Z own bs mL p l e R s m args below meth c T h cells slots) {x y : Int64} (hd : decode bs pc = .ok (.lrem, 1)) (hp : pc + 1 = pc') (hy : y ≠ 0) (r : Run p e below P T (mkF m pc' Ls (.long (x - (x / y) * y) :: S))) : Run p e below P T (mkF m pc Ls (.long y :: .long x :: S)) := by
  subst hp; obtain ⟨t, st, q⟩ := r; exact ⟨t, XS.lrem K.here K.hx rfl (hb K.bts hd) rfl hy st, q⟩
theorem r_irem (K : St Z own bs mL p l e R s m args below meth c T h cells slots) {x y : Int32} (hd : decode bs pc = .ok (.irem, 1)) (hp : pc + 1 = pc') (hy : y ≠ 0) (r : Run p e below P T (mkF m pc' Ls (.int (x % y) :: S))) : Run p e below P T (mkF m pc Ls (.int y :: .int x :: S)) := by
  subst hp; obtain ⟨_, X, -⟩ := id K; obtain ⟨t, st, q⟩ := r; exact ⟨t, iremM X K.hx rfl (hb K.bts hd) rfl hy st, q⟩
theorem r_ineg (K : St Z own bs mL p l e R s m args below meth c T h cells slots) {x : Int32} (hd : decode bs pc = .ok (.ineg, 1)) (hp : pc + 1 = pc')  (r : Run p e below P T (mkF m pc' Ls (.int (-x) :: S))) : Run p e below P T (mkF m pc Ls (.int x :: S)) := by
  subst hp; obtain ⟨t, st, q⟩ := r; exact ⟨t, XS.ineg K.here K.hx rfl (hb K.bts hd) rfl st, q⟩
theorem r_i2b (K : St Z own bs mL p l e R s m args below meth c T h cells slots) {x : Int32} (hd : decode bs pc = .ok (.i2b, 1)) (hp : pc + 1 = pc')  (r : Run p e below P T (mkF m pc' Ls (.int (x.toInt8.toInt32) :: S))) : Run p e below P T (mkF m pc Ls (.int x :: S)) := by
  subst hp; obtain ⟨t, st, q⟩ := r; exact ⟨t, XS.i2b K.here K.hx rfl (hb K.bts hd) rfl st, q⟩
theorem r_i2c (K : St Z own bs mL p l e R s m args below meth c T h cells slots) {x : Int32} (hd : decode bs pc = .ok (.i2c, 1)) (hp : pc + 1 = pc')  (r : Run p e below P T (mkF m pc' Ls (.int (x.toUInt32.toUInt16.toUInt32.toInt32) :: S))) : Run p e below P T (mkF m pc Ls (.int x :: S)) := by
  subst hp; obtain ⟨t, st, q⟩ := r; exact ⟨t, XS.i2c K.here K.hx rfl (hb K.bts hd) rfl st, q⟩
theorem r_i2l (K : St Z own bs mL p l e R s m args below meth c T h cells slots) {x : Int32} (hd : decode bs pc = .ok (.i2l, 1)) (hp : pc + 1 = pc')  (r : Run p e below P T (mkF m pc' Ls (.long (x.toInt64) :: S))) : Run p e below P T (mkF m pc Ls (.int x :: S)) := by
  subst hp; obtain ⟨t, st, q⟩ := r; exact ⟨t, XS.i2l K.here K.hx rfl (hb K.bts hd) rfl st, q⟩
theorem r_l2i (K : St Z own bs mL p l e R s m args below meth c T h cells slots) {x : Int64} (hd : decode bs pc = .ok (.l2i, 1)) (hp : pc + 1 = pc')  (r : Run p e below P T (mkF m pc' Ls (.int (x.toInt32) :: S))) : Run p e below P T (mkF m pc Ls (.long x :: S)) := by
  subst hp; obtain ⟨t, st, q⟩ := r; exact ⟨t, XS.l2i K.here K.hx rfl (hb K.bts hd) rfl st, q⟩
theorem r_lneg (K : St Z own bs mL p l e R s m args below meth c T h cells slots) {x : Int64} (hd : decode bs pc = .ok (.lneg, 1)) (hp : pc + 1 = pc')  (r : Run p e below P T (mkF m pc' Ls (.long (-x) :: S))) : Run p e below P T (mkF m pc Ls (.long x :: S)) := by
  subst hp; obtain ⟨t, st, q⟩ := r; exact ⟨t, XS.lneg K.here K.hx rfl (hb K.bts hd) rfl st, q⟩
theorem r_dup (K : St Z own bs mL p l e R s m args below meth c T h cells slots) {x : Value} (hd : decode bs pc = .ok (.dup, 1)) (hp : pc + 1 = pc') (hc : x.category = 1) (r : Run p e below P T (mkF m pc' Ls (x :: x :: S))) : Run p e below P T (mkF m pc Ls (x :: S)) := by
  subst hp; obtain ⟨t, st, q⟩ := r; exact ⟨t, XS.dup K.here K.hx rfl (hb K.bts hd) rfl hc st, q⟩
theorem r_pop (K : St Z own bs mL p l e R s m args below meth c T h cells slots) {x : Value} (hd : decode bs pc = .ok (.pop, 1)) (hp : pc + 1 = pc') (hc : x.category = 1) (r : Run p e below P T (mkF m pc' Ls S)) : Run p e below P T (mkF m pc Ls (x :: S)) := by
  subst hp; obtain ⟨t, st, q⟩ := r; exact ⟨t, XS.pop K.here K.hx rfl (hb K.bts hd) rfl hc st, q⟩
theorem r_lcmp (K : St Z own bs mL p l e R s m args below meth c T h cells slots) {x y : Int64} (hd : decode bs pc = .ok (.lcmp, 1)) (hp : pc + 1 = pc')  (r : Run p e below P T (mkF m pc' Ls (.int (lcmpW x y) :: S))) : Run p e below P T (mkF m pc Ls (.long y :: .long x :: S)) := by
  subst hp; obtain ⟨t, st, q⟩ := r; exact ⟨t, XS.lcmp K.here K.hx rfl (hb K.bts hd) rfl st, q⟩
theorem r_goto (K : St Z own bs mL p l e R s m args below meth c T h cells slots) {o : Int} (hd : decode bs pc = .ok (.goto o, 3)) (ho : 0 ≤ (pc : Int) + o) (hp : ((pc : Int) + o).toNat = pc') (r : Run p e below P T (mkF m pc' Ls S)) : Run p e below P T (mkF m pc Ls S) := by
  obtain ⟨t, st, q⟩ := r; exact ⟨t, XS.goto K.here K.hx rfl (pc0 := pc) (pc' := pc') rfl (hb K.bts hd) ho hp st, q⟩
theorem cp_t {cd : ClassFile.Cond} {x y : Int32} (h : cp cd x y) : if_icmp.holds cd x y = true := by
  cases cd
  · exact (teq h).1
  · exact (feq h).2
  · exact (tlt h).1
  · exact (flt h).2.1
  · exact (tlt h).2.2.1
  · exact (flt h).2.2.2
theorem cp_n {cd : ClassFile.Cond} {x y : Int32} (h : ¬ cp cd x y) : cpn cd x y := by
  cases cd
  · exact h
  · exact Classical.not_not.mp h
  · exact h
  · exact Classical.not_not.mp h
  · exact h
  · exact Classical.not_not.mp h
theorem cp_f {cd : ClassFile.Cond} {x y : Int32} (h : cpn cd x y) : if_icmp.holds cd x y = false := by
  cases cd
  · exact (feq h).1
  · exact (teq h).2
  · exact (flt h).1
  · exact (tlt h).2.1
  · exact (flt h).2.2.1
  · exact (tlt h).2.2.2
theorem r_icmp (K : St Z own bs mL p l e R s m args below meth c T h cells slots) {cd : ClassFile.Cond} {x y : Int32} {o : Int} {pc1 pc2 : Nat} (hd : decode bs pc = .ok (.if_icmp cd o, 3)) (h1 : pc + 3 = pc1) (ho : 0 ≤ (pc : Int) + o) (h2 : ((pc : Int) + o).toNat = pc2)
    (r2 : cp cd x y → Run p e below P T (mkF m pc2 Ls S)) (r1 : cpn cd x y → Run p e below P T (mkF m pc1 Ls S)) : Run p e below P T (mkF m pc Ls (.int y :: .int x :: S)) := by
  subst h1
  by_cases hc : cp cd x y
  · obtain ⟨t, st, q⟩ := r2 hc; exact ⟨t, XS.icmpYes K.here K.hx rfl (pc0 := pc) (pc' := pc2) rfl (hb K.bts hd) rfl (cp_t hc) ho h2 st, q⟩
  · obtain ⟨t, st, q⟩ := r1 (cp_n hc); exact ⟨t, XS.icmpNo K.here K.hx rfl (hb K.bts hd) rfl (cp_f (cp_n hc)) st, q⟩
theorem r_if (K : St Z own bs mL p l e R s m args below meth c T h cells slots) {cd : ClassFile.Cond} {x : Int32} {o : Int} {pc1 pc2 : Nat} (hd : decode bs pc = .ok (.ifCond cd o, 3)) (h1 : pc + 3 = pc1) (ho : 0 ≤ (pc : Int) + o) (h2 : ((pc : Int) + o).toNat = pc2)
    (r2 : cp cd x 0 → Run p e below P T (mkF m pc2 Ls S)) (r1 : cpn cd x 0 → Run p e below P T (mkF m pc1 Ls S)) : Run p e below P T (mkF m pc Ls (.int x :: S)) := by
  subst h1
  by_cases hc : cp cd x 0
  · obtain ⟨t, st, q⟩ := r2 hc; exact ⟨t, XS.ifYes K.here K.hx rfl (pc0 := pc) (pc' := pc2) rfl (hb K.bts hd) rfl ((if0 _ _).trans (cp_t hc)) ho h2 st, q⟩
  · obtain ⟨t, st, q⟩ := r1 (cp_n hc); exact ⟨t, XS.ifNo K.here K.hx rfl (hb K.bts hd) rfl ((if0 _ _).trans (cp_f (cp_n hc))) st, q⟩
theorem r_nonnullYes (K : St Z own bs mL p l e R s m args below meth c T h cells slots) {b : Addr} {o : Int} (hd : decode bs pc = .ok (.ifnonnull o, 3)) (ho : 0 ≤ (pc : Int) + o) (h2 : ((pc : Int) + o).toNat = pc') (r : Run p e below P T (mkF m pc' Ls S)) : Run p e below P T (mkF m pc Ls (.ref b :: S)) := by
  obtain ⟨t, st, q⟩ := r; exact ⟨t, XS.ifnonnullYes K.here K.hx rfl (pc0 := pc) (pc' := pc') rfl (hb K.bts hd) rfl ho h2 st, q⟩
theorem r_nonnullNo (K : St Z own bs mL p l e R s m args below meth c T h cells slots) {o : Int} (hd : decode bs pc = .ok (.ifnonnull o, 3)) (h1 : pc + 3 = pc') (r : Run p e below P T (mkF m pc' Ls S)) : Run p e below P T (mkF m pc Ls (.null :: S)) := by
  subst h1; obtain ⟨t, st, q⟩ := r; exact ⟨t, XS.ifnonnullNo K.here K.hx rfl (hb K.bts hd) rfl st, q⟩
theorem r_getF (K : St Z own bs mL p l e R s m args below meth c T h cells slots) {O n d : String} {index : Nat} {a : Addr} {v : Value} (w : (Jvm.Cond.fieldLink own index O n d).before a0 Z = true) (F : Fld Z h a O n d v) (hd : decode bs pc = .ok (.getfield index, 3)) (hp : pc + 3 = pc')
    (r : ∀ T', St Z own bs mL p l e R s m args below meth c T' h cells slots → Run p e below P T' (mkF m pc' Ls (v :: S))) : Run p e below P T (mkF m pc Ls (.ref a :: S)) := by
  subst hp; obtain ⟨locs, X, N, E, eT, hx, hby, hml, hZ, hown⟩ := K
  obtain ⟨T', X', e', st⟩ := getF X hx hZ hown (host := "") (Or.inl w) Via.refl eT F (g := mkF m pc Ls (.ref a :: S)) rfl rfl (hb hby hd)
  obtain ⟨t, st2, q⟩ := r T' ⟨locs, X', N, E, e', hx, hby, hml, hZ, hown⟩
  exact ⟨t, st _ st2, q⟩
theorem r_getS (K : St Z own bs mL p l e R s m args below meth c T h cells slots) {O n d : String} {index : Nat} {v : Value} (w : (Jvm.Cond.fieldLink own index O n d).before a0 Z = true) (F : Sta Z h O n d v) (hd : decode bs pc = .ok (.getstatic index, 3)) (hp : pc + 3 = pc')
    (r : ∀ T', St Z own bs mL p l e R s m args below meth c T' h cells slots → Run p e below P T' (mkF m pc' Ls (v :: S))) : Run p e below P T (mkF m pc Ls S) := by
  subst hp; obtain ⟨locs, X, N, E, eT, hx, hby, hml, hZ, hown⟩ := K
  obtain ⟨T', X', e', st⟩ := getS X hx hZ hown (host := "") w Via.refl eT F (g := mkF m pc Ls S) rfl (hb hby hd)
  obtain ⟨t, st2, q⟩ := r T' ⟨locs, X', N, E, e', hx, hby, hml, hZ, hown⟩
  exact ⟨t, st _ st2, q⟩
theorem old_wr {a : Addr} {sl : Nat} {v : Value} {h' : Heap} (E : Ext Z.heap h) (W : Wr h h' a sl v) (g : Z.heap.size ≤ a) : Ext Z.heap h' := (Old.wr (Z := Z) (n0 := Z.heap.size) ⟨rfl, E⟩ W g).2
theorem fr_snoc {a : Addr} {sl k : Nat} {locs : List Loc} (N : Fr k locs) (g : k ≤ a) : Fr k (locs ++ [⟨a, sl⟩]) := N.app fun y hy => by cases List.mem_singleton.mp hy; exact g
theorem r_putF (K : St Z own bs mL p l e R s m args below meth c T h cells slots) {O n d C : String} {index kk : Nat} {ty : FieldType} {a : Addr} {v old : Value} (w : (Jvm.Cond.fieldLink own index O n d).before a0 Z = true) (F : Fld Z h a O n d old) (E0 : Exa Z h a C) (g : Z.heap.size ≤ a)
    (L : (Jvm.Cond.lays C O n d).before a0 Z = true ∨ ((Jvm.Cond.laysFinal C O n d).before a0 Z = true ∧ own = O ∧ meth.name = "<init>")) (wi : (Jvm.Cond.instantiable C kk).before a0 Z = true) (hty : parseFieldDescriptor d = some ty) (hn : narrow ty v = v) (hf : fits ty v = true) (hd : decode bs pc = .ok (.putfield index, 3)) (hp : pc + 3 = pc')
    (r : ∀ T' h', St Z own bs mL p l e R s m args below meth c T' h' cells slots → Wr h h' a (Jvm.RoadKit.slotOf Z O n d) v → Run p e below P T' (mkF m pc' Ls S)) : Run p e below P T (mkF m pc Ls (v :: .ref a :: S)) := by
  subst hp; obtain ⟨locs, X, N, E, eT, hx, hby, hml, hZ, hown⟩ := K
  obtain ⟨T', h', X', e', W, st⟩ := putF X hx hZ hown (host := "") (Or.inl w) Via.refl eT F E0 L wi hty hn hf (g := mkF m pc Ls (v :: .ref a :: S)) rfl rfl (hb hby hd)
  obtain ⟨t, st2, q⟩ := r T' h' ⟨_, X', fr_snoc N g, old_wr E W g, e', hx, hby, hml, hZ, hown⟩ W
  exact ⟨t, st _ st2, q⟩
theorem ext_tr {h1 h2 h3 : Heap} (E : Ext h1 h2) (F : Ext h2 h3) : Ext h1 h3 := ⟨Nat.le_trans E.1 F.1, fun a c q => F.2 a c (E.2 a c q)⟩
theorem r_new (K : St Z own bs mL p l e R s m args below meth c T h cells slots) {C : String} {index n : Nat} (w : (Jvm.Cond.classLink own index C).before a0 Z = true) (wi : (Jvm.Cond.instantiable C n).before a0 Z = true) (wz : (Jvm.Cond.initialized C).before a0 Z = true) (hd : decode bs pc = .ok (.new index, 3)) (hp : pc + 3 = pc') (hc : cells + 1 ≤ R.cells) (hl : slots + n ≤ R.slots)
    (r : ∀ T' h' a, a = h.size → St Z own bs mL p l e R s m args below meth c T' h' (cells + 1) (slots + n) → Ext h h' → Exa Z h' a C → (∀ {O nm d : String} {ty : FieldType}, Laid Z a0 C O nm d → parseFieldDescriptor d = some ty → Fld Z h' a O nm d (defaultValue ty)) → Run p e below P T' (mkF m pc' Ls (.ref a :: S))) : Run p e below P T (mkF m pc Ls S) := by
  subst hp; obtain ⟨locs, X, N, E, eT, hx, hby, hml, hZ, hown⟩ := K
  obtain ⟨T', h', X', e', E', A, D, -, st⟩ := newO X hx hZ hown w wi wz eT (g := mkF m pc Ls S) rfl (hb hby hd) hc hl
  obtain ⟨t, st2, q⟩ := r T' h' _ rfl ⟨_, X', N, ext_tr E E', e', hx, hby, hml, hZ, hown⟩ E' A D
  exact ⟨t, st _ st2, q⟩
theorem r_newarr (K : St Z own bs mL p l e R s m args below meth c T h cells slots) {aty : ArrayType} {n : Int32} {cap : Nat} (w : (Jvm.Cond.arrayClass (newarray.typeOf aty)).before a0 Z = true) (hd : decode bs pc = .ok (.newarray aty, 2)) (hp : pc + 2 = pc') (hn : ¬ n < 0) (hcap : n.toNatClampNeg ≤ cap) (hb8 : cap * 8 ≤ 536870912) (hc : cells + 1 ≤ R.cells) (hl : slots + cap ≤ R.slots)
    (r : ∀ T' h' a k, a = h.size → St Z own bs mL p l e R s m args below meth c T' h' (cells + 1) (slots + cap) → Ext h h' → Arv Z h' a k (newarray.typeOf aty) n [] (defaultValue (newarray.typeOf aty)) → Run p e below P T' (mkF m pc' Ls (.ref a :: S))) : Run p e below P T (mkF m pc Ls (.int n :: S)) := by
  subst hp; obtain ⟨locs, X, N, E, eT, hx, hby, hml, hZ, hown⟩ := K
  obtain ⟨T', h', cA, X', e', E', A, st⟩ := newP X hx hZ w eT (g := mkF m pc Ls (.int n :: S)) rfl (hb hby hd) rfl hn hcap hb8 hc hl
  obtain ⟨t, st2, q⟩ := r T' h' _ cA rfl ⟨_, X', N, ext_tr E E', e', hx, hby, hml, hZ, hown⟩ E' (Arv.new A hn)
  exact ⟨t, st _ st2, q⟩
theorem r_init (K : St Z own bs mL p l e R s m args below meth c T h cells slots) {index W : Nat} {a : Addr} (w1 : (Jvm.Cond.methodLink own index Lib.objectInit).before a0 Z = true) (w2 : (Jvm.Cond.instanceMethod Lib.objectInit).before a0 Z = true) (w3 : (Jvm.Cond.code Lib.objectInit object_method_1_code 1 none).before a0 Z = true) (hsz : Ls.size = mL) (hd : decode bs pc = .ok (.invokespecial index, 3)) (hp : pc + 3 = pc')
    (hf : 1 ≤ R.frames) (hW : (S.map fun v => v.category).sum ≤ W) (hl : W + 12 ≤ R.locals) (r : ∀ T', St Z own bs mL p l e R s m args below meth c T' h cells slots → Run p e below P T' (mkF m pc' Ls S)) : Run p e below P T (mkF m pc Ls (.ref a :: S)) := by
  subst hp; obtain ⟨locs, X, N, E, eT, hx, hby, hml, hZ, hown⟩ := K
  obtain ⟨T', X', e', st⟩ := initO X hx hZ hown w1 w2 w3 eT (g := mkF m pc Ls (.ref a :: S)) rfl (by rw [hml]; exact hsz) rfl (hb hby hd) hf (W := W) (by show 2 * 0 + _ ≤ _; omega) hl
  obtain ⟨t, st2, q⟩ := r T' ⟨_, X', N, E, e', hx, hby, hml, hZ, hown⟩
  exact ⟨t, st _ st2, q⟩
theorem r_static (K : St Z own bs mL p l e R s m args below meth c T h cells slots) {index : Nat} {bs' : ByteArray} {mL' : Nat} {argsL rest : List Value} {W : Nat} {ps : List FieldType} {rt : Option FieldType} (M : Con l y bs' mL' ret [] rm Z argsL.toArray h Q)
    (w1 : (Jvm.Cond.methodLink own index y).before a0 Z = true) (w2 : (Jvm.Cond.static y).before a0 Z = true) (w3 : (Jvm.Cond.initialized y.cls).before a0 Z = true) (w4 : (Jvm.Cond.code y bs' mL' ret).before a0 Z = true) (hy : y.cls ≠ "java/lang/invoke/MethodHandle" ∧ y.cls ≠ "java/lang/invoke/VarHandle")
    (pd : parseMethodDescriptor y.desc = some ⟨ps, rt⟩) (hlen : argsL.length = ps.length) (hS : S = argsL.reverse ++ rest) (hsz : Ls.size = mL) (hW : (rest.map fun v => v.category).sum ≤ W) (hf : rm.frames + 1 ≤ R.frames) (hl : W + (mL' + 11) + rm.locals ≤ R.locals) (hc : cells + rm.cells ≤ R.cells) (hs : slots + rm.slots ≤ R.slots)
    (hd : decode bs pc = .ok (.invokestatic index, 3)) (hp : pc + 3 = pc')
    (r : ∀ v T' h', St Z own bs mL p l e R s m args below meth c T' h' (cells + rm.cells) (slots + rm.slots) → Q v h' → Run p e below P T' (mkF m pc' Ls (pu v rest))) : Run p e below P T (mkF m pc Ls S) := by
  subst hp hS; obtain ⟨locs, X, N, E, eT, hx, hby, hml, hZ, hown⟩ := K
  obtain ⟨v, vm₁, ⟨T', L', k', n'⟩, -, X', ⟨Lc, hQ, l1, y1, z1⟩, st⟩ := Jvm.LawKit.callS X hx (y := y) hown (mvT hZ w1) (mvT hZ w2) (mvT hZ w3) (mvT hZ w4) hy (backOf (W := W) (as' := argsL.toArray) (h := h) (Q := fun v h L => Q v h ∧ Fr Z.heap.size L ∧ Ext Z.heap h) M hZ w4 w3 hf hl) (g := mkF m pc Ls (argsL.reverse ++ rest)) rfl (by rw [hml]; exact hsz) (argsL := argsL) (rest := rest) (lenOf pd hlen) rfl (by show 2 * 0 + _ ≤ _; omega) (hb hby hd) (fun _ _ => ⟨rfl, eT, hc, hs⟩)
  dsimp only [Pt.U, Pt.locs, Pt.cells, Pt.slots] at X' l1 y1 z1 st hQ
  subst l1 y1 z1
  obtain ⟨t, st2, q⟩ := r v T' T'.heap ⟨_, X', N.app hQ.2.1, hQ.2.2, rfl, hx, hby, hml, hZ, hown⟩ hQ.1
  refine ⟨t, st _ ?_, q⟩
  cases v <;> exact st2
theorem r_special (K : St Z own bs mL p l e R s m args below meth c T h cells slots) {index : Nat} {bs' : ByteArray} {mL' : Nat} {a : Addr} {argsL rest : List Value} {W : Nat} {ps : List FieldType} {rt : Option FieldType} (M : Con l y bs' mL' none [] rm Z (Value.ref a :: argsL).toArray h Q) (hy1 : y.name = "<init>")
    (w1 : (Jvm.Cond.methodLink own index y).before a0 Z = true) (w2 : (Jvm.Cond.instanceMethod y).before a0 Z = true) (w3 : (Jvm.Cond.initialized y.cls).before a0 Z = true) (w4 : (Jvm.Cond.code y bs' mL' none).before a0 Z = true) (hy : y.cls ≠ "java/lang/invoke/MethodHandle" ∧ y.cls ≠ "java/lang/invoke/VarHandle")
    (pd : parseMethodDescriptor y.desc = some ⟨ps, rt⟩) (hlen : argsL.length = ps.length) (hS : S = argsL.reverse ++ .ref a :: rest) (hsz : Ls.size = mL) (hW : (rest.map fun v => v.category).sum ≤ W) (hf : rm.frames + 1 ≤ R.frames) (hl : W + (mL' + 11) + rm.locals ≤ R.locals) (hc : cells + rm.cells ≤ R.cells) (hs : slots + rm.slots ≤ R.slots)
    (hd : decode bs pc = .ok (.invokespecial index, 3)) (hp : pc + 3 = pc')
    (r : ∀ v T' h', St Z own bs mL p l e R s m args below meth c T' h' (cells + rm.cells) (slots + rm.slots) → Q v h' → Run p e below P T' (mkF m pc' Ls (pu v rest))) : Run p e below P T (mkF m pc Ls S) := by
  subst hp hS; obtain ⟨locs, X, N, E, eT, hx, hby, hml, hZ, hown⟩ := K
  obtain ⟨v, vm₁, ⟨T', L', k', n'⟩, -, X', ⟨Lc, hQ, l1, y1, z1⟩, st⟩ := X.specialBack hx (y := y) hy1 hown (mvT hZ w1) (mvT hZ w2) (mvT hZ w4) hy (backOf (W := W) (as' := (Value.ref a :: argsL).toArray) (h := h) (Q := fun v h L => Q v h ∧ Fr Z.heap.size L ∧ Ext Z.heap h) M hZ w4 w3 hf hl) (g := mkF m pc Ls (argsL.reverse ++ .ref a :: rest)) rfl (by rw [hml]; exact hsz) (Steps.refl _) (a := a) (argsL := argsL) (rest := rest) (lenOf pd hlen) rfl (by show 2 * 0 + _ ≤ _; omega) (hb hby hd) (fun _ _ => ⟨rfl, eT, hc, hs⟩)
  dsimp only [Pt.U, Pt.locs, Pt.cells, Pt.slots] at X' l1 y1 z1 st hQ
  subst l1 y1 z1
  obtain ⟨t, st2, q⟩ := r v T' T'.heap ⟨_, X', N.app hQ.2.1, hQ.2.2, rfl, hx, hby, hml, hZ, hown⟩ hQ.1
  refine ⟨t, st.trans ?_, q⟩
  cases v <;> exact st2
theorem r_virtual (K : St Z own bs mL p l e R s m args below meth c T h cells slots) {index : Nat} {C : String} {bs' : ByteArray} {mL' : Nat} {a : Addr} {argsL rest : List Value} {W : Nat} {ps : List FieldType} {rt : Option FieldType} (M : Con l y bs' mL' ret [] rm Z (Value.ref a :: argsL).toArray h Q) (E0 : Exa Z h a C)
    (w1 : (Jvm.Cond.methodLink own index y).before a0 Z = true) (wd : (Jvm.Cond.declares y).before a0 Z = true) (wse : (Jvm.Cond.selects C y y).before a0 Z = true) (w2 : (Jvm.Cond.instanceMethod y).before a0 Z = true) (w3 : (Jvm.Cond.initialized y.cls).before a0 Z = true) (w4 : (Jvm.Cond.code y bs' mL' ret).before a0 Z = true) (hy : y.cls ≠ "java/lang/invoke/MethodHandle" ∧ y.cls ≠ "java/lang/invoke/VarHandle")
    (pd : parseMethodDescriptor y.desc = some ⟨ps, rt⟩) (hlen : argsL.length = ps.length) (hS : S = argsL.reverse ++ .ref a :: rest) (hsz : Ls.size = mL) (hW : (rest.map fun v => v.category).sum ≤ W) (hf : rm.frames + 1 ≤ R.frames) (hl : W + (mL' + 11) + rm.locals ≤ R.locals) (hc : cells + rm.cells ≤ R.cells) (hs : slots + rm.slots ≤ R.slots)
    (hd : decode bs pc = .ok (.invokevirtual index, 3)) (hp : pc + 3 = pc')
    (r : ∀ v T' h', St Z own bs mL p l e R s m args below meth c T' h' (cells + rm.cells) (slots + rm.slots) → Q v h' → Run p e below P T' (mkF m pc' Ls (pu v rest))) : Run p e below P T (mkF m pc Ls S) := by
  subst hp hS; obtain ⟨locs, X, N, E, eT, hx, hby, hml, hZ, hown⟩ := K
  obtain ⟨cq, kq, qa, qb, qc⟩ := isOf (s := s) (T := T) hZ eT E0
  obtain ⟨v, vm₁, ⟨T', L', k', n'⟩, -, X', ⟨Lc, hQ, l1, y1, z1⟩, st⟩ := X.virtualBack hx (y := y) (z := y) hown (mvT hZ w1) (mvT hZ wd) (notFace_of_selects (args := #[]) (mvT hZ wse)) (mvT hZ wse) (mvT hZ w2) hy (backOf (W := W) (as' := (Value.ref a :: argsL).toArray) (h := h) (Q := fun v h L => Q v h ∧ Fr Z.heap.size L ∧ Ext Z.heap h) M hZ w4 w3 hf hl) qa qc (g := mkF m pc Ls (argsL.reverse ++ .ref a :: rest)) rfl (by rw [hml]; exact hsz) (Steps.refl _) (argsL := argsL) (rest := rest) (lenOf pd hlen) rfl (by show 2 * 0 + _ ≤ _; omega) (hb hby hd) (fun _ _ => ⟨rfl, eT, hc, hs⟩)
  dsimp only [Pt.U, Pt.locs, Pt.cells, Pt.slots] at X' l1 y1 z1 st hQ
  subst l1 y1 z1
  obtain ⟨t, st2, q⟩ := r v T' T'.heap ⟨_, X', N.app hQ.2.1, hQ.2.2, rfl, hx, hby, hml, hZ, hown⟩ hQ.1
  refine ⟨t, st.trans ?_, q⟩
  cases v <;> exact st2
theorem r_alen (K : St Z own bs mL p l e R s m args below meth c T h cells slots) {a : Addr} {k : ClassId} {ty : FieldType} {z : Int32} {vs : List Value} {dv : Value} (A : Arv Z h a k ty z vs dv) (hd : decode bs pc = .ok (.arraylength, 1)) (hp : pc + 1 = pc') (r : Run p e below P T (mkF m pc' Ls (.int z :: S))) : Run p e below P T (mkF m pc Ls (.ref a :: S)) := by
  subst hp; obtain ⟨locs, X, N, E, eT, hx, hby, hml, hZ, hown⟩ := K
  obtain ⟨cl, Ar, -, Sz, Nn, -, -⟩ := A
  obtain ⟨t, st2, q⟩ := r
  refine ⟨t, X.arraylength hx (cell := cl) (by rw [eT]; exact Ar.1) (State.isArrayOf_alike hZ.alike Ar.2.1) (g := mkF m pc Ls (.ref a :: S)) rfl (rest := S) rfl (hb hby hd) _ ?_, q⟩
  rw [len_of Sz Nn]; exact st2
theorem r_iaload (K : St Z own bs mL p l e R s m args below meth c T h cells slots) {a : Addr} {k : ClassId} {z j : Int32} {vs : List Value} {dv v : Value} (A : Arv Z h a k .int z vs dv) (hj : ¬ j < 0 ∧ j < z) (hv : vs.getD j.toNatClampNeg dv = v) (hd : decode bs pc = .ok (.iaload, 1)) (hp : pc + 1 = pc') (r : Run p e below P T (mkF m pc' Ls (v :: S))) : Run p e below P T (mkF m pc Ls (.int j :: .ref a :: S)) := by
  subst hp; obtain ⟨locs, X, N, E, eT, hx, hby, hml, hZ, hown⟩ := K
  obtain ⟨cl, Ar, -, Sz, Nn, H, -⟩ := A
  have hin := inb_of Sz hj
  obtain ⟨t, st2, q⟩ := r
  exact ⟨t, X.iaload hx (cell := cl) (j := j) (v := v) (by rw [eT]; exact Ar.1) (State.isArrayOf_alike hZ.alike Ar.2.1) Ar.2.2 hin (H.at hin hv) (g := mkF m pc Ls (.int j :: .ref a :: S)) rfl rfl (hb hby hd) _ st2, q⟩
theorem r_iastore (K : St Z own bs mL p l e R s m args below meth c T h cells slots) {a : Addr} {k : ClassId} {z j x : Int32} {vs : List Value} {dv : Value} {i : Nat} (A : Arv Z h a k .int z vs dv) (g : Z.heap.size ≤ a) (hj : ¬ j < 0 ∧ j < z) (hi : j.toNatClampNeg = i) (hl : i < vs.length) (hd : decode bs pc = .ok (.iastore, 1)) (hp : pc + 1 = pc')
    (r : ∀ T' h', St Z own bs mL p l e R s m args below meth c T' h' cells slots → Wr h h' a j.toNatClampNeg (.int x) → Arv Z h' a k .int z (vs.set i (.int x)) dv → Run p e below P T' (mkF m pc' Ls S)) : Run p e below P T (mkF m pc Ls (.int x :: .int j :: .ref a :: S)) := by
  subst hp; obtain ⟨locs, X, N, E, eT, hx, hby, hml, hZ, hown⟩ := K
  obtain ⟨cl, Ar, q1, Sz, Nn, H, G⟩ := A
  have hin := inb_of Sz hj
  obtain ⟨T', h', X', e', W, st⟩ := stI X hx hZ eT Ar hin (x := x) (g := mkF m pc Ls (.int x :: .int j :: .ref a :: S)) rfl rfl (hb hby hd)
  obtain ⟨t, st2, q⟩ := r T' h' ⟨_, X', fr_snoc N g, old_wr E W g, e', hx, hby, hml, hZ, hown⟩ W (Arv.set Ar q1 Sz Nn H G rfl W i hi hl)
  exact ⟨t, st _ st2, q⟩
theorem r_copy (K : St Z own bs mL p l e R s m args below meth c T h cells slots) {index W : Nat} {a b : Addr} {k k' : ClassId} {ty : FieldType} {z z' sp dp nn : Int32} {vs vd us : List Value} {dv dd : Value}
    (w1 : (Jvm.Cond.methodLink own index Jvm.Stand.acN).before a0 Z = true) (w2 : (Jvm.Cond.native Jvm.Stand.acN).before a0 Z = true) (w3 : (Jvm.Cond.static Jvm.Stand.acN).before a0 Z = true) (w4 : (Jvm.Cond.initialized "java/lang/System").before a0 Z = true)
    (A : Arv Z h a k ty z vs dv) (B : Arv Z h b k' ty z' vd dd) (hty : refKind ty = false) (h1 : ¬ sp < 0) (h2 : ¬ dp < 0) (h3 : ¬ nn < 0) (h4 : sp.toNatClampNeg + nn.toNatClampNeg ≤ z.toNatClampNeg) (h5 : dp.toNatClampNeg + nn.toNatClampNeg ≤ z'.toNatClampNeg)
    (hus : us = (List.range nn.toNatClampNeg).map fun i => vs.getD (sp.toNatClampNeg + i) dv) (hl : dp.toNatClampNeg + nn.toNatClampNeg ≤ vd.length) (ge : Z.heap.size ≤ b) (hsz : Ls.size = mL) (hd : decode bs pc = .ok (.invokestatic index, 3)) (hp : pc + 3 = pc')
    (hf : 1 ≤ R.frames) (hW : (S.map fun v => v.category).sum ≤ W) (hlo : W + (nativeFrameWords "java/lang/System" "arraycopy" 5 + 11) ≤ R.locals)
    (r : ∀ T' h', St Z own bs mL p l e R s m args below meth c T' h' cells slots → Keep h h' [b] → Arv Z h' b k' ty z' (vd.take dp.toNatClampNeg ++ us ++ vd.drop (dp.toNatClampNeg + nn.toNatClampNeg)) dd → Run p e below P T' (mkF m pc' Ls S)) : Run p e below P T (mkF m pc Ls (.int nn :: .int dp :: .ref b :: .int sp :: .ref a :: S)) := by
  subst hp; obtain ⟨locs, X, N, E, eT, hx, hby, hml, hZ, hown⟩ := K
  obtain ⟨T', h', L', X', e', N', Kp, B', st⟩ := cpA X hx hZ hown w1 w2 w3 w4 eT A B (Or.inl ⟨rfl, hty⟩) h1 h2 h3 h4 h5 hus hl N ge (g := mkF m pc Ls (.int nn :: .int dp :: .ref b :: .int sp :: .ref a :: S)) rfl (by rw [hml]; exact hsz) rfl (hb hby hd) hf (W := W) (by show 2 * 0 + _ ≤ _; omega) hlo
  obtain ⟨t, st2, q⟩ := r T' h' ⟨_, X', N', (Old.keep (Z := Z) (n0 := Z.heap.size) ⟨rfl, E⟩ Kp (allS ge all0)).2, e', hx, hby, hml, hZ, hown⟩ Kp B'
  exact ⟨t, st _ st2, q⟩
end Kit
-- numbers
theorem own_ti {n : Nat} (hn : n ≤ 255) : (Int32.ofNat n).toInt = n := Int32.toInt_ofNat_of_lt (by omega)
theorem own_lt {i n : Nat} (h : i < n) (hn : n ≤ 255) : Int32.ofNat i < Int32.ofNat n := by
  rw [Int32.lt_iff_toInt_lt, own_ti (by omega), own_ti hn]; omega
theorem own_nlt {i n : Nat} (h : n ≤ i) (hn : i ≤ 255) : ¬ Int32.ofNat i < Int32.ofNat n := by
  rw [Int32.lt_iff_toInt_lt, own_ti (by omega), own_ti (by omega)]; omega
theorem own_nn {n : Nat} (hn : n ≤ 255) : ¬ Int32.ofNat n < 0 := own_nlt (n := 0) (Nat.zero_le _) hn
theorem own_n32 {n : Nat} (hn : n ≤ 255) : (Int32.ofNat n).toNatClampNeg = n := by
  rw [Int32.toNatClampNeg, own_ti hn]; rfl
theorem own_one (i : Nat) : Int32.ofNat i + (1 : Int32) = Int32.ofNat (i + 1) := (Int32.ofNat_add i 1).symm
theorem own_dec {i : Nat} (h : 1 ≤ i) : Int32.ofNat i - (1 : Int32) = Int32.ofNat (i - 1) := by
  obtain ⟨j, rfl⟩ : ∃ j, i = j + 1 := ⟨i - 1, by omega⟩
  rw [← own_one, Int32.add_sub_cancel]; rfl
theorem own_hi {lo hi : Nat} (h1 : lo ≤ hi) (h2 : hi ≤ 255) : Int32.ofNat hi - (1 : Int32) < Int32.ofNat lo ↔ hi = lo := by
  rw [Int32.lt_iff_toInt_lt, own_ti (by omega), sub_ti h2]; omega
where sub_ti {hi : Nat} (h2 : hi ≤ 255) : (Int32.ofNat hi - (1 : Int32)).toInt = (hi : Int) - 1 := by
        have h := c_isub (Int32.ofNat hi) 1
        have r := rng32 (Int32.ofNat hi - 1)
        rw [own_ti h2] at h
        have : (1 : Int32).toInt = 1 := rfl
        omega
theorem own_mid {lo hi : Nat} (h1 : lo < hi) (h2 : hi ≤ 255) : ((Int32.ofNat lo + (Int32.ofNat hi - (1 : Int32))).toUInt32 >>> ((1 : Int32) &&& 31).toUInt32).toInt32 = Int32.ofNat ((lo + hi - 1) / 2) := by
  apply Int32.toInt_inj.mp
  rw [c_iushr _ 1 1 (by decide) (by decide), own_ti (by omega), own_dec (by omega), ← Int32.ofNat_add, Int32.toInt_ofNat_of_lt (by omega)]
  omega
theorem own_neg (i : Nat) : (-(-(Int32.ofNat i + (1 : Int32)))) - (1 : Int32) = Int32.ofNat i := by rw [Int32.neg_neg, Int32.add_sub_cancel]
theorem own_ineg {i : Nat} (h : i ≤ 255) : -(Int32.ofNat i + (1 : Int32)) < 0 := by
  rw [own_one, Int32.lt_iff_toInt_lt]
  have q := c_ineg (Int32.ofNat (i + 1))
  have r := rng32 (-(Int32.ofNat (i + 1)))
  rw [Int32.toInt_ofNat_of_lt (by omega)] at q
  have : (0 : Int32).toInt = 0 := rfl
  omega
theorem own_sub {i n : Nat} (h : i ≤ n) : Int32.ofNat n - Int32.ofNat i = Int32.ofNat (n - i) := by
  obtain ⟨j, rfl⟩ : ∃ j, n = i + j := ⟨n - i, by omega⟩
  rw [Int32.ofNat_add, Int32.add_comm, Int32.add_sub_cancel]; congr; omega
theorem own_eq {i n : Nat} (hi : i ≤ 255) (hn : n ≤ 255) (h : Int32.ofNat i = Int32.ofNat n) : i = n := by
  have q := congrArg Int32.toInt h
  rw [own_ti hi, own_ti hn] at q; omega
-- the object: its class, its two fields, its array; xs: the numbers held, cap: the array's length
def PS (Z : State) (h : Heap) (a : Addr) (xs : List Int32) (cap : Nat) : Prop := ∃ (b : Addr) (k : ClassId) (ys : List Int32), Z.heap.size ≤ a ∧ Z.heap.size ≤ b ∧ a ≠ b ∧ Exa Z h a "com/example/dataset_expiry/datasetexpiry/listing/Postings" ∧ Fld Z h a "com/example/dataset_expiry/datasetexpiry/listing/Postings" "numbers" "[I" (.ref b) ∧ Fld Z h a "com/example/dataset_expiry/datasetexpiry/listing/Postings" "size" "I" (.int (Int32.ofNat xs.length)) ∧ Arv Z h b k .int (Int32.ofNat cap) ((xs ++ ys).map Value.int) (.int 0) ∧ (xs ++ ys).length = cap
def Srt (xs : List Int32) : Prop := ∀ (i j : Nat) (x y : Int32), i < j → xs[i]? = some x → xs[j]? = some y → x < y
/-- what the search says -/
def BS (xs : List Int32) (key r : Int32) : Prop := (∃ i, i < xs.length ∧ xs[i]? = some key ∧ r = Int32.ofNat i) ∨ (∃ i, i ≤ xs.length ∧ r = -(Int32.ofNat i + (1 : Int32)) ∧ (∀ (j : Nat) (y : Int32), j < i → xs[j]? = some y → y < key) ∧ (∀ (j : Nat) (y : Int32), i ≤ j → xs[j]? = some y → key < y))
theorem own_at {xs ys : List Int32} {j : Nat} {y : Int32} (h : xs[j]? = some y) : ((xs ++ ys).map Value.int).getD j (.int 0) = .int y := by
  have hj : j < xs.length := (List.getElem?_eq_some_iff.mp h).1
  rw [List.getD_eq_getElem?_getD, List.getElem?_map, List.getElem?_append_left hj, h]; rfl
theorem own_get {xs : List Int32} {j : Nat} (h : j < xs.length) : ∃ y, xs[j]? = some y := ⟨xs[j], List.getElem?_eq_getElem h⟩
theorem d1_0 : decode prog_11_method_1_code 0 = .ok (.aload_n 0, 1) := by decide +kernel
theorem d1_1 : decode prog_11_method_1_code 1 = .ok (.invokespecial 1, 3) := by decide +kernel
theorem d1_4 : decode prog_11_method_1_code 4 = .ok (.aload_n 0, 1) := by decide +kernel
theorem d1_5 : decode prog_11_method_1_code 5 = .ok (.iconst 2, 1) := by decide +kernel
theorem d1_6 : decode prog_11_method_1_code 6 = .ok (.newarray .int, 2) := by decide +kernel
theorem d1_8 : decode prog_11_method_1_code 8 = .ok (.putfield 9, 3) := by decide +kernel
theorem d1_11 : decode prog_11_method_1_code 11 = .ok (.return_, 1) := by decide +kernel
theorem d3_0 : decode prog_11_method_9_code 0 = .ok (.aload_n 0, 1) := by decide +kernel
theorem d3_1 : decode prog_11_method_9_code 1 = .ok (.getfield 9, 3) := by decide +kernel
theorem d3_4 : decode prog_11_method_9_code 4 = .ok (.iconst 0, 1) := by decide +kernel
theorem d3_5 : decode prog_11_method_9_code 5 = .ok (.aload_n 0, 1) := by decide +kernel
theorem d3_6 : decode prog_11_method_9_code 6 = .ok (.getfield 13, 3) := by decide +kernel
theorem d3_9 : decode prog_11_method_9_code 9 = .ok (.iload_n 1, 1) := by decide +kernel
theorem d3_10 : decode prog_11_method_9_code 10 = .ok (.invokestatic 23, 3) := by decide +kernel
theorem d3_13 : decode prog_11_method_9_code 13 = .ok (.istore_n 2, 1) := by decide +kernel
theorem d3_14 : decode prog_11_method_9_code 14 = .ok (.iload_n 2, 1) := by decide +kernel
theorem d3_15 : decode prog_11_method_9_code 15 = .ok (.ifCond .lt 4, 3) := by decide +kernel
theorem d3_18 : decode prog_11_method_9_code 18 = .ok (.return_, 1) := by decide +kernel
theorem d3_19 : decode prog_11_method_9_code 19 = .ok (.iload_n 2, 1) := by decide +kernel
theorem d3_20 : decode prog_11_method_9_code 20 = .ok (.ineg, 1) := by decide +kernel
theorem d3_21 : decode prog_11_method_9_code 21 = .ok (.iconst 1, 1) := by decide +kernel
theorem d3_22 : decode prog_11_method_9_code 22 = .ok (.isub, 1) := by decide +kernel
theorem d3_23 : decode prog_11_method_9_code 23 = .ok (.istore_n 3, 1) := by decide +kernel
theorem d3_24 : decode prog_11_method_9_code 24 = .ok (.aload_n 0, 1) := by decide +kernel
theorem d3_25 : decode prog_11_method_9_code 25 = .ok (.getfield 13, 3) := by decide +kernel
theorem d3_28 : decode prog_11_method_9_code 28 = .ok (.aload_n 0, 1) := by decide +kernel
theorem d3_29 : decode prog_11_method_9_code 29 = .ok (.getfield 9, 3) := by decide +kernel
theorem d3_32 : decode prog_11_method_9_code 32 = .ok (.arraylength, 1) := by decide +kernel
theorem d3_33 : decode prog_11_method_9_code 33 = .ok (.if_icmp .ne 20, 3) := by decide +kernel
theorem d3_36 : decode prog_11_method_9_code 36 = .ok (.aload_n 0, 1) := by decide +kernel
theorem d3_37 : decode prog_11_method_9_code 37 = .ok (.aload_n 0, 1) := by decide +kernel
theorem d3_38 : decode prog_11_method_9_code 38 = .ok (.getfield 9, 3) := by decide +kernel
theorem d3_41 : decode prog_11_method_9_code 41 = .ok (.aload_n 0, 1) := by decide +kernel
theorem d3_42 : decode prog_11_method_9_code 42 = .ok (.getfield 13, 3) := by decide +kernel
theorem d3_45 : decode prog_11_method_9_code 45 = .ok (.iconst 2, 1) := by decide +kernel
theorem d3_46 : decode prog_11_method_9_code 46 = .ok (.imul, 1) := by decide +kernel
theorem d3_47 : decode prog_11_method_9_code 47 = .ok (.invokestatic 45, 3) := by decide +kernel
theorem d3_50 : decode prog_11_method_9_code 50 = .ok (.putfield 9, 3) := by decide +kernel
theorem d3_53 : decode prog_11_method_9_code 53 = .ok (.aload_n 0, 1) := by decide +kernel
theorem d3_54 : decode prog_11_method_9_code 54 = .ok (.getfield 9, 3) := by decide +kernel
theorem d3_57 : decode prog_11_method_9_code 57 = .ok (.iload_n 3, 1) := by decide +kernel
theorem d3_58 : decode prog_11_method_9_code 58 = .ok (.aload_n 0, 1) := by decide +kernel
theorem d3_59 : decode prog_11_method_9_code 59 = .ok (.getfield 9, 3) := by decide +kernel
theorem d3_62 : decode prog_11_method_9_code 62 = .ok (.iload_n 3, 1) := by decide +kernel
theorem d3_63 : decode prog_11_method_9_code 63 = .ok (.iconst 1, 1) := by decide +kernel
theorem d3_64 : decode prog_11_method_9_code 64 = .ok (.iadd, 1) := by decide +kernel
theorem d3_65 : decode prog_11_method_9_code 65 = .ok (.aload_n 0, 1) := by decide +kernel
theorem d3_66 : decode prog_11_method_9_code 66 = .ok (.getfield 13, 3) := by decide +kernel
theorem d3_69 : decode prog_11_method_9_code 69 = .ok (.iload_n 3, 1) := by decide +kernel
theorem d3_70 : decode prog_11_method_9_code 70 = .ok (.isub, 1) := by decide +kernel
theorem d3_71 : decode prog_11_method_9_code 71 = .ok (.invokestatic 49, 3) := by decide +kernel
theorem d3_74 : decode prog_11_method_9_code 74 = .ok (.aload_n 0, 1) := by decide +kernel
theorem d3_75 : decode prog_11_method_9_code 75 = .ok (.getfield 9, 3) := by decide +kernel
theorem d3_78 : decode prog_11_method_9_code 78 = .ok (.iload_n 3, 1) := by decide +kernel
theorem d3_79 : decode prog_11_method_9_code 79 = .ok (.iload_n 1, 1) := by decide +kernel
theorem d3_80 : decode prog_11_method_9_code 80 = .ok (.iastore, 1) := by decide +kernel
theorem d3_81 : decode prog_11_method_9_code 81 = .ok (.aload_n 0, 1) := by decide +kernel
theorem d3_82 : decode prog_11_method_9_code 82 = .ok (.dup, 1) := by decide +kernel
theorem d3_83 : decode prog_11_method_9_code 83 = .ok (.getfield 13, 3) := by decide +kernel
theorem d3_86 : decode prog_11_method_9_code 86 = .ok (.iconst 1, 1) := by decide +kernel
theorem d3_87 : decode prog_11_method_9_code 87 = .ok (.iadd, 1) := by decide +kernel
theorem d3_88 : decode prog_11_method_9_code 88 = .ok (.putfield 13, 3) := by decide +kernel
theorem d3_91 : decode prog_11_method_9_code 91 = .ok (.return_, 1) := by decide +kernel
theorem d4_0 : decode jdk_65_method_58_code 0 = .ok (.aload_n 0, 1) := by decide +kernel
theorem d4_1 : decode jdk_65_method_58_code 1 = .ok (.arraylength, 1) := by decide +kernel
theorem d4_2 : decode jdk_65_method_58_code 2 = .ok (.iload_n 1, 1) := by decide +kernel
theorem d4_3 : decode jdk_65_method_58_code 3 = .ok (.iload_n 2, 1) := by decide +kernel
theorem d4_4 : decode jdk_65_method_58_code 4 = .ok (.invokestatic 13, 3) := by decide +kernel
theorem d4_7 : decode jdk_65_method_58_code 7 = .ok (.aload_n 0, 1) := by decide +kernel
theorem d4_8 : decode jdk_65_method_58_code 8 = .ok (.iload_n 1, 1) := by decide +kernel
theorem d4_9 : decode jdk_65_method_58_code 9 = .ok (.iload_n 2, 1) := by decide +kernel
theorem d4_10 : decode jdk_65_method_58_code 10 = .ok (.iload_n 3, 1) := by decide +kernel
theorem d4_11 : decode jdk_65_method_58_code 11 = .ok (.invokestatic 209, 3) := by decide +kernel
theorem d4_14 : decode jdk_65_method_58_code 14 = .ok (.ireturn, 1) := by decide +kernel
theorem d6_0 : decode jdk_65_method_59_code 0 = .ok (.iload_n 1, 1) := by decide +kernel
theorem d6_1 : decode jdk_65_method_59_code 1 = .ok (.istore 4, 2) := by decide +kernel
theorem d6_3 : decode jdk_65_method_59_code 3 = .ok (.iload_n 2, 1) := by decide +kernel
theorem d6_4 : decode jdk_65_method_59_code 4 = .ok (.iconst 1, 1) := by decide +kernel
theorem d6_5 : decode jdk_65_method_59_code 5 = .ok (.isub, 1) := by decide +kernel
theorem d6_6 : decode jdk_65_method_59_code 6 = .ok (.istore 5, 2) := by decide +kernel
theorem d6_8 : decode jdk_65_method_59_code 8 = .ok (.iload 4, 2) := by decide +kernel
theorem d6_10 : decode jdk_65_method_59_code 10 = .ok (.iload 5, 2) := by decide +kernel
theorem d6_12 : decode jdk_65_method_59_code 12 = .ok (.if_icmp .gt 54, 3) := by decide +kernel
theorem d6_15 : decode jdk_65_method_59_code 15 = .ok (.iload 4, 2) := by decide +kernel
theorem d6_17 : decode jdk_65_method_59_code 17 = .ok (.iload 5, 2) := by decide +kernel
theorem d6_19 : decode jdk_65_method_59_code 19 = .ok (.iadd, 1) := by decide +kernel
theorem d6_20 : decode jdk_65_method_59_code 20 = .ok (.iconst 1, 1) := by decide +kernel
theorem d6_21 : decode jdk_65_method_59_code 21 = .ok (.iushr, 1) := by decide +kernel
theorem d6_22 : decode jdk_65_method_59_code 22 = .ok (.istore 6, 2) := by decide +kernel
theorem d6_24 : decode jdk_65_method_59_code 24 = .ok (.aload_n 0, 1) := by decide +kernel
theorem d6_25 : decode jdk_65_method_59_code 25 = .ok (.iload 6, 2) := by decide +kernel
theorem d6_27 : decode jdk_65_method_59_code 27 = .ok (.iaload, 1) := by decide +kernel
theorem d6_28 : decode jdk_65_method_59_code 28 = .ok (.istore 7, 2) := by decide +kernel
theorem d6_30 : decode jdk_65_method_59_code 30 = .ok (.iload 7, 2) := by decide +kernel
theorem d6_32 : decode jdk_65_method_59_code 32 = .ok (.iload_n 3, 1) := by decide +kernel
theorem d6_33 : decode jdk_65_method_59_code 33 = .ok (.if_icmp .ge 12, 3) := by decide +kernel
theorem d6_36 : decode jdk_65_method_59_code 36 = .ok (.iload 6, 2) := by decide +kernel
theorem d6_38 : decode jdk_65_method_59_code 38 = .ok (.iconst 1, 1) := by decide +kernel
theorem d6_39 : decode jdk_65_method_59_code 39 = .ok (.iadd, 1) := by decide +kernel
theorem d6_40 : decode jdk_65_method_59_code 40 = .ok (.istore 4, 2) := by decide +kernel
theorem d6_42 : decode jdk_65_method_59_code 42 = .ok (.goto 21, 3) := by decide +kernel
theorem d6_45 : decode jdk_65_method_59_code 45 = .ok (.iload 7, 2) := by decide +kernel
theorem d6_47 : decode jdk_65_method_59_code 47 = .ok (.iload_n 3, 1) := by decide +kernel
theorem d6_48 : decode jdk_65_method_59_code 48 = .ok (.if_icmp .le 12, 3) := by decide +kernel
theorem d6_51 : decode jdk_65_method_59_code 51 = .ok (.iload 6, 2) := by decide +kernel
theorem d6_53 : decode jdk_65_method_59_code 53 = .ok (.iconst 1, 1) := by decide +kernel
theorem d6_54 : decode jdk_65_method_59_code 54 = .ok (.isub, 1) := by decide +kernel
theorem d6_55 : decode jdk_65_method_59_code 55 = .ok (.istore 5, 2) := by decide +kernel
theorem d6_57 : decode jdk_65_method_59_code 57 = .ok (.goto 6, 3) := by decide +kernel
theorem d6_60 : decode jdk_65_method_59_code 60 = .ok (.iload 6, 2) := by decide +kernel
theorem d6_62 : decode jdk_65_method_59_code 62 = .ok (.ireturn, 1) := by decide +kernel
theorem d6_63 : decode jdk_65_method_59_code 63 = .ok (.goto (-55), 3) := by decide +kernel
theorem d6_66 : decode jdk_65_method_59_code 66 = .ok (.iload 4, 2) := by decide +kernel
theorem d6_68 : decode jdk_65_method_59_code 68 = .ok (.iconst 1, 1) := by decide +kernel
theorem d6_69 : decode jdk_65_method_59_code 69 = .ok (.iadd, 1) := by decide +kernel
theorem d6_70 : decode jdk_65_method_59_code 70 = .ok (.ineg, 1) := by decide +kernel
theorem d6_71 : decode jdk_65_method_59_code 71 = .ok (.ireturn, 1) := by decide +kernel
theorem d7_0 : decode prog_11_method_2_code 0 = .ok (.aload_n 0, 1) := by decide +kernel
theorem d7_1 : decode prog_11_method_2_code 1 = .ok (.getfield 13, 3) := by decide +kernel
theorem d7_4 : decode prog_11_method_2_code 4 = .ok (.ireturn, 1) := by decide +kernel
theorem d8_0 : decode prog_11_method_4_code 0 = .ok (.aload_n 0, 1) := by decide +kernel
theorem d8_1 : decode prog_11_method_4_code 1 = .ok (.getfield 9, 3) := by decide +kernel
theorem d8_4 : decode prog_11_method_4_code 4 = .ok (.aload_n 0, 1) := by decide +kernel
theorem d8_5 : decode prog_11_method_4_code 5 = .ok (.getfield 13, 3) := by decide +kernel
theorem d8_8 : decode prog_11_method_4_code 8 = .ok (.iconst 1, 1) := by decide +kernel
theorem d8_9 : decode prog_11_method_4_code 9 = .ok (.isub, 1) := by decide +kernel
theorem d8_10 : decode prog_11_method_4_code 10 = .ok (.iaload, 1) := by decide +kernel
theorem d8_11 : decode prog_11_method_4_code 11 = .ok (.ireturn, 1) := by decide +kernel
theorem d9_0 : decode prog_11_method_10_code 0 = .ok (.aload_n 0, 1) := by decide +kernel
theorem d9_1 : decode prog_11_method_10_code 1 = .ok (.getfield 9, 3) := by decide +kernel
theorem d9_4 : decode prog_11_method_10_code 4 = .ok (.iconst 0, 1) := by decide +kernel
theorem d9_5 : decode prog_11_method_10_code 5 = .ok (.aload_n 0, 1) := by decide +kernel
theorem d9_6 : decode prog_11_method_10_code 6 = .ok (.getfield 13, 3) := by decide +kernel
theorem d9_9 : decode prog_11_method_10_code 9 = .ok (.iload_n 1, 1) := by decide +kernel
theorem d9_10 : decode prog_11_method_10_code 10 = .ok (.invokestatic 23, 3) := by decide +kernel
theorem d9_13 : decode prog_11_method_10_code 13 = .ok (.istore_n 2, 1) := by decide +kernel
theorem d9_14 : decode prog_11_method_10_code 14 = .ok (.iload_n 2, 1) := by decide +kernel
theorem d9_15 : decode prog_11_method_10_code 15 = .ok (.ifCond .ge 4, 3) := by decide +kernel
theorem d9_18 : decode prog_11_method_10_code 18 = .ok (.return_, 1) := by decide +kernel
theorem d9_19 : decode prog_11_method_10_code 19 = .ok (.aload_n 0, 1) := by decide +kernel
theorem d9_20 : decode prog_11_method_10_code 20 = .ok (.getfield 9, 3) := by decide +kernel
theorem d9_23 : decode prog_11_method_10_code 23 = .ok (.iload_n 2, 1) := by decide +kernel
theorem d9_24 : decode prog_11_method_10_code 24 = .ok (.iconst 1, 1) := by decide +kernel
theorem d9_25 : decode prog_11_method_10_code 25 = .ok (.iadd, 1) := by decide +kernel
theorem d9_26 : decode prog_11_method_10_code 26 = .ok (.aload_n 0, 1) := by decide +kernel
theorem d9_27 : decode prog_11_method_10_code 27 = .ok (.getfield 9, 3) := by decide +kernel
theorem d9_30 : decode prog_11_method_10_code 30 = .ok (.iload_n 2, 1) := by decide +kernel
theorem d9_31 : decode prog_11_method_10_code 31 = .ok (.aload_n 0, 1) := by decide +kernel
theorem d9_32 : decode prog_11_method_10_code 32 = .ok (.getfield 13, 3) := by decide +kernel
theorem d9_35 : decode prog_11_method_10_code 35 = .ok (.iload_n 2, 1) := by decide +kernel
theorem d9_36 : decode prog_11_method_10_code 36 = .ok (.isub, 1) := by decide +kernel
theorem d9_37 : decode prog_11_method_10_code 37 = .ok (.iconst 1, 1) := by decide +kernel
theorem d9_38 : decode prog_11_method_10_code 38 = .ok (.isub, 1) := by decide +kernel
theorem d9_39 : decode prog_11_method_10_code 39 = .ok (.invokestatic 49, 3) := by decide +kernel
theorem d9_42 : decode prog_11_method_10_code 42 = .ok (.aload_n 0, 1) := by decide +kernel
theorem d9_43 : decode prog_11_method_10_code 43 = .ok (.dup, 1) := by decide +kernel
theorem d9_44 : decode prog_11_method_10_code 44 = .ok (.getfield 13, 3) := by decide +kernel
theorem d9_47 : decode prog_11_method_10_code 47 = .ok (.iconst 1, 1) := by decide +kernel
theorem d9_48 : decode prog_11_method_10_code 48 = .ok (.isub, 1) := by decide +kernel
theorem d9_49 : decode prog_11_method_10_code 49 = .ok (.putfield 13, 3) := by decide +kernel
theorem d9_52 : decode prog_11_method_10_code 52 = .ok (.aload_n 0, 1) := by decide +kernel
theorem d9_53 : decode prog_11_method_10_code 53 = .ok (.getfield 13, 3) := by decide +kernel
theorem d9_56 : decode prog_11_method_10_code 56 = .ok (.aload_n 0, 1) := by decide +kernel
theorem d9_57 : decode prog_11_method_10_code 57 = .ok (.getfield 9, 3) := by decide +kernel
theorem d9_60 : decode prog_11_method_10_code 60 = .ok (.arraylength, 1) := by decide +kernel
theorem d9_61 : decode prog_11_method_10_code 61 = .ok (.iconst 4, 1) := by decide +kernel
theorem d9_62 : decode prog_11_method_10_code 62 = .ok (.idiv, 1) := by decide +kernel
theorem d9_63 : decode prog_11_method_10_code 63 = .ok (.if_icmp .ge 34, 3) := by decide +kernel
theorem d9_66 : decode prog_11_method_10_code 66 = .ok (.aload_n 0, 1) := by decide +kernel
theorem d9_67 : decode prog_11_method_10_code 67 = .ok (.getfield 9, 3) := by decide +kernel
theorem d9_70 : decode prog_11_method_10_code 70 = .ok (.arraylength, 1) := by decide +kernel
theorem d9_71 : decode prog_11_method_10_code 71 = .ok (.iconst 2, 1) := by decide +kernel
theorem d9_72 : decode prog_11_method_10_code 72 = .ok (.if_icmp .le 25, 3) := by decide +kernel
theorem d9_75 : decode prog_11_method_10_code 75 = .ok (.aload_n 0, 1) := by decide +kernel
theorem d9_76 : decode prog_11_method_10_code 76 = .ok (.aload_n 0, 1) := by decide +kernel
theorem d9_77 : decode prog_11_method_10_code 77 = .ok (.getfield 9, 3) := by decide +kernel
theorem d9_80 : decode prog_11_method_10_code 80 = .ok (.iconst 2, 1) := by decide +kernel
theorem d9_81 : decode prog_11_method_10_code 81 = .ok (.aload_n 0, 1) := by decide +kernel
theorem d9_82 : decode prog_11_method_10_code 82 = .ok (.getfield 9, 3) := by decide +kernel
theorem d9_85 : decode prog_11_method_10_code 85 = .ok (.arraylength, 1) := by decide +kernel
theorem d9_86 : decode prog_11_method_10_code 86 = .ok (.iconst 2, 1) := by decide +kernel
theorem d9_87 : decode prog_11_method_10_code 87 = .ok (.idiv, 1) := by decide +kernel
theorem d9_88 : decode prog_11_method_10_code 88 = .ok (.invokestatic 55, 3) := by decide +kernel
theorem d9_91 : decode prog_11_method_10_code 91 = .ok (.invokestatic 45, 3) := by decide +kernel
theorem d9_94 : decode prog_11_method_10_code 94 = .ok (.putfield 9, 3) := by decide +kernel
theorem d9_97 : decode prog_11_method_10_code 97 = .ok (.return_, 1) := by decide +kernel
theorem d10_0 : decode jdk_65_method_123_code 0 = .ok (.iload_n 1, 1) := by decide +kernel
theorem d10_1 : decode jdk_65_method_123_code 1 = .ok (.aload_n 0, 1) := by decide +kernel
theorem d10_2 : decode jdk_65_method_123_code 2 = .ok (.arraylength, 1) := by decide +kernel
theorem d10_3 : decode jdk_65_method_123_code 3 = .ok (.if_icmp .ne 11, 3) := by decide +kernel
theorem d10_6 : decode jdk_65_method_123_code 6 = .ok (.aload_n 0, 1) := by decide +kernel
theorem d10_7 : decode jdk_65_method_123_code 7 = .ok (.invokevirtual 316, 3) := by decide +kernel
theorem d10_10 : decode jdk_65_method_123_code 10 = .ok (.checkcast 317, 3) := by decide +kernel
theorem d10_13 : decode jdk_65_method_123_code 13 = .ok (.areturn, 1) := by decide +kernel
theorem d10_14 : decode jdk_65_method_123_code 14 = .ok (.iload_n 1, 1) := by decide +kernel
theorem d10_15 : decode jdk_65_method_123_code 15 = .ok (.newarray .int, 2) := by decide +kernel
theorem d10_17 : decode jdk_65_method_123_code 17 = .ok (.astore_n 2, 1) := by decide +kernel
theorem d10_18 : decode jdk_65_method_123_code 18 = .ok (.aload_n 0, 1) := by decide +kernel
theorem d10_19 : decode jdk_65_method_123_code 19 = .ok (.iconst 0, 1) := by decide +kernel
theorem d10_20 : decode jdk_65_method_123_code 20 = .ok (.aload_n 2, 1) := by decide +kernel
theorem d10_21 : decode jdk_65_method_123_code 21 = .ok (.iconst 0, 1) := by decide +kernel
theorem d10_22 : decode jdk_65_method_123_code 22 = .ok (.aload_n 0, 1) := by decide +kernel
theorem d10_23 : decode jdk_65_method_123_code 23 = .ok (.arraylength, 1) := by decide +kernel
theorem d10_24 : decode jdk_65_method_123_code 24 = .ok (.iload_n 1, 1) := by decide +kernel
theorem d10_25 : decode jdk_65_method_123_code 25 = .ok (.invokestatic 304, 3) := by decide +kernel
theorem d10_28 : decode jdk_65_method_123_code 28 = .ok (.invokestatic 150, 3) := by decide +kernel
theorem d10_31 : decode jdk_65_method_123_code 31 = .ok (.aload_n 2, 1) := by decide +kernel
theorem d10_32 : decode jdk_65_method_123_code 32 = .ok (.areturn, 1) := by decide +kernel
theorem d11_0 : decode jdk_29_method_69_code 0 = .ok (.iload_n 0, 1) := by decide +kernel
theorem d11_1 : decode jdk_29_method_69_code 1 = .ok (.iload_n 1, 1) := by decide +kernel
theorem d11_2 : decode jdk_29_method_69_code 2 = .ok (.if_icmp .gt 7, 3) := by decide +kernel
theorem d11_5 : decode jdk_29_method_69_code 5 = .ok (.iload_n 0, 1) := by decide +kernel
theorem d11_6 : decode jdk_29_method_69_code 6 = .ok (.goto 4, 3) := by decide +kernel
theorem d11_9 : decode jdk_29_method_69_code 9 = .ok (.iload_n 1, 1) := by decide +kernel
theorem d11_10 : decode jdk_29_method_69_code 10 = .ok (.ireturn, 1) := by decide +kernel
theorem d5_0 : decode jdk_65_method_30_code 0 = .ok (.iload_n 1, 1) := by decide +kernel
theorem d5_1 : decode jdk_65_method_30_code 1 = .ok (.iload_n 2, 1) := by decide +kernel
theorem d5_2 : decode jdk_65_method_30_code 2 = .ok (.if_icmp .le 44, 3) := by decide +kernel
theorem d5_46 : decode jdk_65_method_30_code 46 = .ok (.iload_n 1, 1) := by decide +kernel
theorem d5_47 : decode jdk_65_method_30_code 47 = .ok (.ifCond .ge 12, 3) := by decide +kernel
theorem d5_59 : decode jdk_65_method_30_code 59 = .ok (.iload_n 2, 1) := by decide +kernel
theorem d5_60 : decode jdk_65_method_30_code 60 = .ok (.iload_n 0, 1) := by decide +kernel
theorem d5_61 : decode jdk_65_method_30_code 61 = .ok (.if_icmp .le 12, 3) := by decide +kernel
theorem d5_73 : decode jdk_65_method_30_code 73 = .ok (.return_, 1) := by decide +kernel
theorem pnP : plainName "com/example/dataset_expiry/datasetexpiry/listing/Postings" = true := by first | (simp [plainName, overriddenIn]; done) | decide +kernel
theorem pnA : plainName "java/util/Arrays" = true := by first | (simp [plainName, overriddenIn]; done) | decide +kernel
theorem pnL : plainName "com/example/dataset_expiry/datasetexpiry/listing/PostingsLastPinLaw" = true := by first | (simp [plainName, overriddenIn]; done) | decide +kernel
theorem pdB : parseMethodDescriptor "([IIII)I" = some ⟨[(.array .int), .int, .int, .int], some .int⟩ := by decide +kernel
theorem pdR : parseMethodDescriptor "(III)V" = some ⟨[.int, .int, .int], none⟩ := by decide +kernel
theorem pdC : parseMethodDescriptor "([II)[I" = some ⟨[(.array .int), .int], some (.array .int)⟩ := by decide +kernel
theorem pdM : parseMethodDescriptor "(II)I" = some ⟨[.int, .int], some .int⟩ := by decide +kernel
theorem pdV : parseMethodDescriptor "()V" = some ⟨[], none⟩ := by decide +kernel
theorem pdI : parseMethodDescriptor "(I)V" = some ⟨[.int], none⟩ := by decide +kernel
theorem pdG : parseMethodDescriptor "()I" = some ⟨[], some .int⟩ := by decide +kernel
section Own
variable {Z : State} {a0 : Array Value} {p : Program} {l : Launch} {e : Env} {R : Room} {s : State} {m : MethodId} {args : Array Value} {below : List Frame} {meth : Method} {c : Code} {T : State} {h : Heap} {cells slots : Nat} {P : State → Prop}
theorem own_s6 {z0 : Value} {z1 : Value} {z2 : Value} {z3 : Value} {z4 : Value} {z5 : Value} {s6 : Slot} {s7 : Slot} {v : Int32} (h : One s6) : storeLocals #[.val z0, .val z1, .val z2, .val z3, .val z4, .val z5, s6, s7] 6 (.int v) = some #[.val z0, .val z1, .val z2, .val z3, .val z4, .val z5, .val (.int v), s7] := by
  rcases h with rfl | ⟨w, rfl, hw⟩
  · rfl
  · cases w <;> first | rfl | (simp [Value.category] at hw)
theorem own_s7 {z0 : Value} {z1 : Value} {z2 : Value} {z3 : Value} {z4 : Value} {z5 : Value} {z6 : Value} {s7 : Slot} {v : Int32} (h : One s7) : storeLocals #[.val z0, .val z1, .val z2, .val z3, .val z4, .val z5, .val z6, s7] 7 (.int v) = some #[.val z0, .val z1, .val z2, .val z3, .val z4, .val z5, .val z6, .val (.int v)] := by
  rcases h with rfl | ⟨w, rfl, hw⟩
  · rfl
  · cases w <;> first | rfl | (simp [Value.category] at hw)
set_option maxRecDepth 65536 in
set_option maxHeartbeats 4000000 in
theorem loop6 (K : St Z "java/util/Arrays" jdk_65_method_59_code 8 p l e R s m args below meth c T h cells slots) {b : Addr} {k : ClassId} {xs ys : List Int32} {cap : Nat} {key z1 z2 : Int32} (hcap : cap ≤ 255) (A : Arv Z h b k .int (Int32.ofNat cap) ((xs ++ ys).map Value.int) (.int 0)) (hlen : (xs ++ ys).length = cap) (hs : Srt xs)
    (hfd : ∀ i (s4 s5 s7 : Slot), i < xs.length → xs[i]? = some key → Run p e below P T (mkF m 60 #[.val (.ref b), .val (.int z1), .val (.int z2), .val (.int key), s4, s5, .val (.int (Int32.ofNat i)), s7] []))
    (hnf : ∀ i (s5 s6 s7 : Slot), i ≤ xs.length → (∀ (j : Nat) (y : Int32), j < i → xs[j]? = some y → y < key) → (∀ (j : Nat) (y : Int32), i ≤ j → xs[j]? = some y → key < y) → Run p e below P T (mkF m 66 #[.val (.ref b), .val (.int z1), .val (.int z2), .val (.int key), .val (.int (Int32.ofNat i)), s5, s6, s7] [])) :
    ∀ (n lo hi : Nat) (s6 s7 : Slot), hi - lo ≤ n → lo ≤ hi → hi ≤ xs.length → One s6 → One s7 → (∀ (j : Nat) (y : Int32), j < lo → xs[j]? = some y → y < key) → (∀ (j : Nat) (y : Int32), hi ≤ j → xs[j]? = some y → key < y) →
      Run p e below P T (mkF m 8 #[.val (.ref b), .val (.int z1), .val (.int z2), .val (.int key), .val (.int (Int32.ofNat lo)), .val (.int (Int32.ofNat hi - (1 : Int32))), s6, s7] []) := by
  have hxl : xs.length ≤ cap := by rw [← hlen, List.length_append]; omega
  intro n
  induction n with
  | zero =>
    intro lo hi s6 s7 h0 h1 h2 hs6 hs7 hlo hhi
    obtain rfl : lo = hi := by omega
    refine r_iload (pc' := 10) K d6_8 rfl rfl ?_
    refine r_iload (pc' := 12) K d6_10 rfl rfl ?_
    refine r_icmp (pc1 := 15) (pc2 := 66) K d6_12 rfl (by decide) (by decide) ?_ ?_
    · intro (hc : (Int32.ofNat lo - (1 : Int32)) < (Int32.ofNat lo))
      exact hnf _ _ _ _ h2 hlo hhi
    · intro (hc : ¬ (Int32.ofNat lo - (1 : Int32)) < (Int32.ofNat lo))
      exact absurd ((own_hi (Nat.le_refl _) (by omega)).mpr rfl) hc
  | succ n ih =>
    intro lo hi s6 s7 h0 h1 h2 hs6 hs7 hlo hhi
    refine r_iload (pc' := 10) K d6_8 rfl rfl ?_
    refine r_iload (pc' := 12) K d6_10 rfl rfl ?_
    refine r_icmp (pc1 := 15) (pc2 := 66) K d6_12 rfl (by decide) (by decide) ?_ ?_
    · intro (hc : (Int32.ofNat hi - (1 : Int32)) < (Int32.ofNat lo))
      have hq := ((own_hi h1 (by omega)).mp hc).symm
      subst hq
      exact hnf _ _ _ _ (by omega) hlo (fun j y h2 h3 => hhi j y h2 h3)
    · intro (hc : ¬ (Int32.ofNat hi - (1 : Int32)) < (Int32.ofNat lo))
      have hlt : lo < hi := by
        have := mt (own_hi h1 (by omega)).mpr hc; omega
      refine r_iload (pc' := 17) K d6_15 rfl rfl ?_
      refine r_iload (pc' := 19) K d6_17 rfl rfl ?_
      refine r_iadd (pc' := 20) K d6_19 rfl ?_
      refine r_iconst (v := (1 : Int32)) (pc' := 21) K d6_20 rfl (by decide) ?_
      refine r_iushr (pc' := 22) K d6_21 rfl ?_
      rw [own_mid hlt (by omega)]
      obtain ⟨md, hmd⟩ : ∃ md, md = (lo + hi - 1) / 2 := ⟨_, rfl⟩
      rw [← hmd]
      obtain ⟨y, hy⟩ := own_get (xs := xs) (j := md) (by omega)
      refine r_istore (Ls' := #[.val (.ref b), .val (.int z1), .val (.int z2), .val (.int key), .val (.int (Int32.ofNat lo)), .val (.int (Int32.ofNat hi - (1 : Int32))), .val (.int (Int32.ofNat md)), s7]) (pc' := 24) K d6_22 rfl (own_s6 hs6) ?_
      refine r_aloadN (pc' := 25) K d6_24 rfl rfl rfl ?_
      refine r_iload (pc' := 27) K d6_25 rfl rfl ?_
      refine r_iaload (pc' := 28) (v := .int y) K A ⟨own_nn (by omega), own_lt (by omega) hcap⟩ (by rw [own_n32 (by omega)]; exact own_at hy) d6_27 rfl ?_
      refine r_istore (Ls' := #[.val (.ref b), .val (.int z1), .val (.int z2), .val (.int key), .val (.int (Int32.ofNat lo)), .val (.int (Int32.ofNat hi - (1 : Int32))), .val (.int (Int32.ofNat md)), .val (.int y)]) (pc' := 30) K d6_28 rfl (own_s7 hs7) ?_
      refine r_iload (pc' := 32) K d6_30 rfl rfl ?_
      refine r_iloadN (pc' := 33) K d6_32 rfl rfl ?_
      refine r_icmp (pc1 := 36) (pc2 := 45) K d6_33 rfl (by decide) (by decide) ?_ ?_
      · intro (hc33 : ¬ y < key)
        refine r_iload (pc' := 47) K d6_45 rfl rfl ?_
        refine r_iloadN (pc' := 48) K d6_47 rfl rfl ?_
        refine r_icmp (pc1 := 51) (pc2 := 60) K d6_48 rfl (by decide) (by decide) ?_ ?_
        · intro (hc48 : ¬ key < y)
          have hyk : y = key := Int32.le_antisymm (Int32.not_lt.mp hc48) (Int32.not_lt.mp hc33)
          subst hyk
          exact hfd md _ _ _ (by omega) hy
        · intro (hc48 : key < y)
          refine r_iload (pc' := 53) K d6_51 rfl rfl ?_
          refine r_iconst (v := (1 : Int32)) (pc' := 54) K d6_53 rfl (by decide) ?_
          refine r_isub (pc' := 55) K d6_54 rfl ?_
          refine r_istore (Ls' := #[.val (.ref b), .val (.int z1), .val (.int z2), .val (.int key), .val (.int (Int32.ofNat lo)), .val (.int ((Int32.ofNat md) - (1 : Int32))), .val (.int (Int32.ofNat md)), .val (.int y)]) (pc' := 57) K d6_55 rfl rfl ?_
          refine r_goto (pc' := 63) K d6_57 (by decide) (by decide) ?_
          refine r_goto (pc' := 8) K d6_63 (by decide) (by decide) ?_
          refine ih lo md (.val (.int (Int32.ofNat md))) (.val (.int y)) (by omega) (by omega) (by omega) (One.val rfl) (One.val rfl) hlo (fun j y' h2 h3 => ?_)
          by_cases hj : j = md
          · subst hj; rw [hy] at h3; cases h3; exact hc48
          · exact Int32.lt_trans hc48 (hs md j y y' (by omega) hy h3)
      · intro (hc33 : y < key)
        refine r_iload (pc' := 38) K d6_36 rfl rfl ?_
        refine r_iconst (v := (1 : Int32)) (pc' := 39) K d6_38 rfl (by decide) ?_
        refine r_iadd (pc' := 40) K d6_39 rfl ?_
        rw [own_one]
        refine r_istore (Ls' := #[.val (.ref b), .val (.int z1), .val (.int z2), .val (.int key), .val (.int (Int32.ofNat (md + 1))), .val (.int (Int32.ofNat hi - (1 : Int32))), .val (.int (Int32.ofNat md)), .val (.int y)]) (pc' := 42) K d6_40 rfl rfl ?_
        refine r_goto (pc' := 63) K d6_42 (by decide) (by decide) ?_
        refine r_goto (pc' := 8) K d6_63 (by decide) (by decide) ?_
        refine ih (md + 1) hi (.val (.int (Int32.ofNat md))) (.val (.int y)) (by omega) (by omega) (by omega) (One.val rfl) (One.val rfl) (fun j y' h2 h3 => ?_) hhi
        by_cases hj : j = md
        · subst hj; rw [hy] at h3; cases h3; exact hc33
        · exact Int32.lt_trans (hs j md y' y (by omega) h3 hy) hc33
set_option maxRecDepth 65536 in
set_option maxHeartbeats 4000000 in
theorem con6 (l : Launch) {Z : State} {a0 : Array Value} (hw : ∀ d ∈ tables_1, d.before a0 Z = true) {h : Heap} (hE : Ext Z.heap h) {b : Addr} {k : ClassId} {xs ys : List Int32} {cap : Nat} {key : Int32} (hcap : cap ≤ 255) (A : Arv Z h b k .int (Int32.ofNat cap) ((xs ++ ys).map Value.int) (.int 0)) (hlen : (xs ++ ys).length = cap) (hs : Srt xs) :
    Con l (⟨"java/util/Arrays", "binarySearch0", "([IIII)I"⟩ : MethodName) jdk_65_method_59_code 8 (some .int) [] ({ frames := 0, cells := 0, slots := 0, locals := 0 } : Room) Z #[.ref b, .int 0, .int (Int32.ofNat xs.length), .int key] h (fun v h' => ∃ r, v = some (.int r) ∧ h' = h ∧ BS xs key r) := by
  refine con_intro (by first | exact plainFor_of_name pnA | decide +kernel) hE ?_
  intro p e s m below meth c T K hret hlk hnm
  have ef : entryFrame m #[.ref b, .int 0, .int (Int32.ofNat xs.length), .int key] 8 = (mkF m 0 #[.val (.ref b), .val (.int (0 : Int32)), .val (.int (Int32.ofNat xs.length)), .val (.int key), .unset, .unset, .unset, .unset] []) := by first | rfl | (simp [entryFrame, mkF, argsToLocals, Value.category]; done)
  rw [ef]
  refine r_iloadN (pc' := 1) K d6_0 rfl rfl ?_
  refine r_istore (Ls' := #[.val (.ref b), .val (.int (0 : Int32)), .val (.int (Int32.ofNat xs.length)), .val (.int key), .val (.int (0 : Int32)), .unset, .unset, .unset]) (pc' := 3) K d6_1 rfl rfl ?_
  refine r_iloadN (pc' := 4) K d6_3 rfl rfl ?_
  refine r_iconst (v := (1 : Int32)) (pc' := 5) K d6_4 rfl (by decide) ?_
  refine r_isub (pc' := 6) K d6_5 rfl ?_
  refine r_istore (Ls' := #[.val (.ref b), .val (.int (0 : Int32)), .val (.int (Int32.ofNat xs.length)), .val (.int key), .val (.int (0 : Int32)), .val (.int ((Int32.ofNat xs.length) - (1 : Int32))), .unset, .unset]) (pc' := 8) K d6_6 rfl rfl ?_
  refine loop6 (z1 := 0) (z2 := Int32.ofNat xs.length) K hcap A hlen hs ?_ ?_ xs.length 0 xs.length _ _ (by omega) (by omega) (Nat.le_refl _) One.u One.u (fun j y h2 => absurd h2 (Nat.not_lt_zero _)) (fun j y h2 h3 => absurd (List.getElem?_eq_some_iff.mp h3).1 (Nat.not_lt.mpr h2))
  · intro i s4 s5 s7 hi hk
    refine r_iload (pc' := 62) K d6_60 rfl rfl ?_
    exact r_retI K hret hlk d6_62 (Nat.le_refl _) (Nat.le_refl _) ⟨_, rfl, rfl, Or.inl ⟨i, hi, hk, rfl⟩⟩
  · intro i s5 s6 s7 hi hlo hhi
    refine r_iload (pc' := 68) K d6_66 rfl rfl ?_
    refine r_iconst (v := (1 : Int32)) (pc' := 69) K d6_68 rfl (by decide) ?_
    refine r_iadd (pc' := 70) K d6_69 rfl ?_
    refine r_ineg (pc' := 71) K d6_70 rfl ?_
    exact r_retI K hret hlk d6_71 (Nat.le_refl _) (Nat.le_refl _) ⟨_, rfl, rfl, Or.inr ⟨i, hi, rfl, hlo, hhi⟩⟩
set_option maxRecDepth 65536 in
set_option maxHeartbeats 4000000 in
theorem con5 (l : Launch) {Z : State} {a0 : Array Value} (hw : ∀ d ∈ tables_1, d.before a0 Z = true) {h : Heap} (hE : Ext Z.heap h) {cap n : Nat} (hcap : cap ≤ 255) (h1 : n ≤ cap) :
    Con l (⟨"java/util/Arrays", "rangeCheck", "(III)V"⟩ : MethodName) jdk_65_method_30_code 3 none [] ({ frames := 0, cells := 0, slots := 0, locals := 0 } : Room) Z #[.int (Int32.ofNat cap), .int 0, .int (Int32.ofNat n)] h (fun v h' => v = none ∧ h' = h) := by
  refine con_intro (by first | exact plainFor_of_name pnA | decide +kernel) hE ?_
  intro p e s m below meth c T K hret hlk hnm
  have ef : entryFrame m #[.int (Int32.ofNat cap), .int 0, .int (Int32.ofNat n)] 3 = (mkF m 0 #[.val (.int (Int32.ofNat cap)), .val (.int (0 : Int32)), .val (.int (Int32.ofNat n))] []) := by first | rfl | (simp [entryFrame, mkF, argsToLocals, Value.category]; done)
  rw [ef]
  refine r_iloadN (pc' := 1) K d5_0 rfl rfl ?_
  refine r_iloadN (pc' := 2) K d5_1 rfl rfl ?_
  refine r_icmp (pc1 := 5) (pc2 := 46) K d5_2 rfl (by decide) (by decide) ?_ ?_
  · intro (hc : ¬ (Int32.ofNat n) < (0 : Int32))
    refine r_iloadN (pc' := 47) K d5_46 rfl rfl ?_
    refine r_if (pc1 := 50) (pc2 := 59) K d5_47 rfl (by decide) (by decide) ?_ ?_
    · intro (hc : ¬ (0 : Int32) < (0 : Int32))
      refine r_iloadN (pc' := 60) K d5_59 rfl rfl ?_
      refine r_iloadN (pc' := 61) K d5_60 rfl rfl ?_
      refine r_icmp (pc1 := 64) (pc2 := 73) K d5_61 rfl (by decide) (by decide) ?_ ?_
      · intro (hc : ¬ (Int32.ofNat cap) < (Int32.ofNat n))
        exact r_retV K hret hlk d5_73 (Nat.le_refl _) (Nat.le_refl _) ⟨rfl, rfl⟩
      · intro (hc : (Int32.ofNat cap) < (Int32.ofNat n))
        exact absurd hc (own_nlt h1 hcap)
    · intro (hc : (0 : Int32) < (0 : Int32))
      exact absurd hc (by decide)
  · intro (hc : (Int32.ofNat n) < (0 : Int32))
    exact absurd hc (own_nn (by omega))
set_option maxRecDepth 65536 in
set_option maxHeartbeats 4000000 in
theorem con4 (l : Launch) {Z : State} {a0 : Array Value} (hw : ∀ d ∈ tables_1, d.before a0 Z = true) {h : Heap} (hE : Ext Z.heap h) {b : Addr} {k : ClassId} {xs ys : List Int32} {cap : Nat} {key : Int32} (hcap : cap ≤ 255) (A : Arv Z h b k .int (Int32.ofNat cap) ((xs ++ ys).map Value.int) (.int 0)) (hlen : (xs ++ ys).length = cap) (hs : Srt xs) :
    Con l (⟨"java/util/Arrays", "binarySearch", "([IIII)I"⟩ : MethodName) jdk_65_method_58_code 4 (some .int) [] ({ frames := 1, cells := 0, slots := 0, locals := 19 } : Room) Z #[.ref b, .int 0, .int (Int32.ofNat xs.length), .int key] h (fun v h' => ∃ r, v = some (.int r) ∧ h' = h ∧ BS xs key r) := by
  refine con_intro (by first | exact plainFor_of_name pnA | decide +kernel) hE ?_
  intro p e s m below meth c T K hret hlk hnm
  have hxl : xs.length ≤ cap := by rw [← hlen, List.length_append]; omega
  have ef : entryFrame m #[.ref b, .int 0, .int (Int32.ofNat xs.length), .int key] 4 = (mkF m 0 #[.val (.ref b), .val (.int (0 : Int32)), .val (.int (Int32.ofNat xs.length)), .val (.int key)] []) := by first | rfl | (simp [entryFrame, mkF, argsToLocals, Value.category]; done)
  rw [ef]
  refine r_aloadN (pc' := 1) K d4_0 rfl rfl rfl ?_
  refine r_alen (pc' := 2) K A d4_1 rfl ?_
  refine r_iloadN (pc' := 3) K d4_2 rfl rfl ?_
  refine r_iloadN (pc' := 4) K d4_3 rfl rfl ?_
  refine r_static (pc' := 7) (argsL := [.int (Int32.ofNat cap), .int (0 : Int32), .int (Int32.ofNat xs.length)]) (rest := []) (W := 0) K (con5 l hw hE (n := xs.length) hcap hxl) (hw _ (List.mem_of_getElem? (i := 23) rfl)) (hw _ (List.mem_of_getElem? (i := 24) rfl)) (hw _ (List.mem_of_getElem? (i := 21) rfl)) (hw _ (List.mem_of_getElem? (i := 25) rfl)) (by decide) pdR rfl rfl rfl (Nat.le_refl _) (by decide) (by decide) (by decide) (by decide) d4_4 rfl ?_
  rintro _ T1 _ K1 ⟨rfl, rfl⟩
  refine r_aloadN (pc' := 8) K1 d4_7 rfl rfl rfl ?_
  refine r_iloadN (pc' := 9) K1 d4_8 rfl rfl ?_
  refine r_iloadN (pc' := 10) K1 d4_9 rfl rfl ?_
  refine r_iloadN (pc' := 11) K1 d4_10 rfl rfl ?_
  refine r_static (pc' := 14) (argsL := [.ref b, .int (0 : Int32), .int (Int32.ofNat xs.length), .int key]) (rest := []) (W := 0) K1 (con6 l hw hE hcap A hlen hs) (hw _ (List.mem_of_getElem? (i := 26) rfl)) (hw _ (List.mem_of_getElem? (i := 27) rfl)) (hw _ (List.mem_of_getElem? (i := 21) rfl)) (hw _ (List.mem_of_getElem? (i := 28) rfl)) (by decide) pdB rfl rfl rfl (Nat.le_refl _) (by decide) (by decide) (by decide) (by decide) d4_11 rfl ?_
  rintro _ T2 _ K2 ⟨r, rfl, rfl, hbs⟩
  exact r_retI K2 hret hlk d4_14 (Nat.le_refl _) (Nat.le_refl _) ⟨_, rfl, rfl, hbs⟩
set_option maxRecDepth 65536 in
set_option maxHeartbeats 4000000 in
theorem con11 (l : Launch) {Z : State} {a0 : Array Value} (hw : ∀ d ∈ tables_1, d.before a0 Z = true) {h : Heap} (hE : Ext Z.heap h) {x y : Int32} (hxy : ¬ y < x) :
    Con l (⟨"java/lang/Math", "min", "(II)I"⟩ : MethodName) jdk_29_method_69_code 2 (some .int) [] ({ frames := 0, cells := 0, slots := 0, locals := 0 } : Room) Z #[.int x, .int y] h (fun v h' => v = some (.int x) ∧ h' = h) := by
  refine con_intro (by first | exact plainFor_of_name pnP | decide +kernel) hE ?_
  intro p e s m below meth c T K hret hlk hnm
  have ef : entryFrame m #[.int x, .int y] 2 = (mkF m 0 #[.val (.int x), .val (.int y)] []) := by first | rfl | (simp [entryFrame, mkF, argsToLocals, Value.category]; done)
  rw [ef]
  refine r_iloadN (pc' := 1) K d11_0 rfl rfl ?_
  refine r_iloadN (pc' := 2) K d11_1 rfl rfl ?_
  refine r_icmp (pc1 := 5) (pc2 := 9) K d11_2 rfl (by decide) (by decide) ?_ ?_
  · intro (hc : y < x)
    exact absurd hc hxy
  · intro (hc : ¬ y < x)
    refine r_iloadN (pc' := 6) K d11_5 rfl rfl ?_
    refine r_goto (pc' := 10) K d11_6 (by decide) (by decide) ?_
    exact r_retI K hret hlk d11_10 (Nat.le_refl _) (Nat.le_refl _) ⟨rfl, rfl⟩
theorem ext_keep {h1 h2 : Heap} {ws : List Addr} (E : Ext h h1) (Kp : Keep h1 h2 ws) (hw : ∀ x ∈ ws, h.size ≤ x) : Ext h h2 := by
  have K := ((Keep.refl h []).ext E).trans Kp (fun x hx => Or.inr (hw x hx))
  exact ⟨K.1, fun a c q => K.2.1 a c q nin0⟩
theorem own_two {zs : List Int32} (hz : zs.length = 2) : ∃ u v, zs = [u, v] := by
  match zs, hz with
  | [u, v], _ => exact ⟨u, v, rfl⟩
set_option maxRecDepth 65536 in
set_option maxHeartbeats 4000000 in
theorem con10 (l : Launch) {Z : State} {a0 : Array Value} (hw : ∀ d ∈ tables_1, d.before a0 Z = true) {h : Heap} (hE : Ext Z.heap h) {b : Addr} {k : ClassId} {zs : List Int32} (hz : zs.length = 2) (A : Arv Z h b k .int (Int32.ofNat 2) (zs.map Value.int) (.int 0)) :
    Con l (⟨"java/util/Arrays", "copyOf", "([II)[I"⟩ : MethodName) jdk_65_method_123_code 3 (some (.array .int)) [] ({ frames := 1, cells := 1, slots := 4, locals := 18 } : Room) Z #[.ref b, .int 4] h (fun v h' => ∃ b' k', v = some (.ref b') ∧ h.size ≤ b' ∧ Ext h h' ∧ Arv Z h' b' k' .int (Int32.ofNat 4) ((zs ++ [0, 0]).map Value.int) (.int 0)) := by
  refine con_intro (by first | exact plainFor_of_name pnA | decide +kernel) hE ?_
  intro p e s m below meth c T K hret hlk hnm
  obtain ⟨u, v, rfl⟩ := own_two hz
  have ef : entryFrame m #[.ref b, .int 4] 3 = (mkF m 0 #[.val (.ref b), .val (.int (4 : Int32)), .unset] []) := by first | rfl | (simp [entryFrame, mkF, argsToLocals, Value.category]; done)
  rw [ef]
  refine r_iloadN (pc' := 1) K d10_0 rfl rfl ?_
  refine r_aloadN (pc' := 2) K d10_1 rfl rfl rfl ?_
  refine r_alen (pc' := 3) K A d10_2 rfl ?_
  refine r_icmp (pc1 := 6) (pc2 := 14) K d10_3 rfl (by decide) (by decide) ?_ ?_
  · intro (hc : ¬ (4 : Int32) = (Int32.ofNat 2))
    refine r_iloadN (pc' := 15) K d10_14 rfl rfl ?_
    refine r_newarr (pc' := 17) (cap := 4) K (hw _ (List.mem_of_getElem? (i := 9) rfl)) d10_15 rfl (by decide) (by decide) (by decide) (by decide) (by decide) ?_
    intro T1 h1 b' k' hb' K1 E1 A1
    refine r_astoreN (Ls' := #[.val (.ref b), .val (.int (4 : Int32)), .val (.ref b')]) (pc' := 18) K1 d10_17 rfl rfl rfl ?_
    refine r_aloadN (pc' := 19) K1 d10_18 rfl rfl rfl ?_
    refine r_iconst (v := (0 : Int32)) (pc' := 20) K1 d10_19 rfl (by decide) ?_
    refine r_aloadN (pc' := 21) K1 d10_20 rfl rfl rfl ?_
    refine r_iconst (v := (0 : Int32)) (pc' := 22) K1 d10_21 rfl (by decide) ?_
    refine r_aloadN (pc' := 23) K1 d10_22 rfl rfl rfl ?_
    refine r_alen (pc' := 24) K1 (A.ext E1) d10_23 rfl ?_
    refine r_iloadN (pc' := 25) K1 d10_24 rfl rfl ?_
    refine r_static (pc' := 28) (argsL := [.int (Int32.ofNat 2), .int (4 : Int32)]) (rest := [.int (0 : Int32), .ref b', .int (0 : Int32), .ref b]) (W := 4) K1 (con11 l hw K1.ext (x := Int32.ofNat 2) (y := 4) (by decide)) (hw _ (List.mem_of_getElem? (i := 51) rfl)) (hw _ (List.mem_of_getElem? (i := 52) rfl)) (hw _ (List.mem_of_getElem? (i := 53) rfl)) (hw _ (List.mem_of_getElem? (i := 54) rfl)) (by decide) pdM rfl rfl rfl (Nat.le_refl _) (by decide) (by decide) (by decide) (by decide) d10_25 rfl ?_
    rintro _ T2 _ K2 ⟨rfl, rfl⟩
    refine r_copy (pc' := 31) (W := 0) K2 (hw _ (List.mem_of_getElem? (i := 55) rfl)) (hw _ (List.mem_of_getElem? (i := 32) rfl)) (hw _ (List.mem_of_getElem? (i := 30) rfl)) (hw _ (List.mem_of_getElem? (i := 31) rfl)) (A.ext E1) (A1.pad (vs' := [.int 0, .int 0, .int 0, .int 0]) (pad_rep [] (.int 0) 4)) rfl (by decide) (by decide) (by decide) (by decide) (by decide) rfl (by decide) (by rw [hb']; exact K.sz) rfl d10_28 rfl (by decide) (by decide) (by decide) ?_
    intro T3 h3 K3 Kp A3
    refine r_aloadN (pc' := 32) K3 d10_31 rfl rfl rfl ?_
    exact r_retA K3 hret hlk rfl rfl d10_32 (Nat.le_refl _) (Nat.le_refl _) ⟨b', k', rfl, Nat.le_of_eq hb'.symm, ext_keep E1 Kp (allS (Nat.le_of_eq hb'.symm) all0), A3⟩
  · intro (hc : (4 : Int32) = (Int32.ofNat 2))
    exact absurd hc (by decide)
set_option maxRecDepth 65536 in
set_option maxHeartbeats 4000000 in
theorem con1 (l : Launch) {Z : State} {a0 : Array Value} (hw : ∀ d ∈ tables_1, d.before a0 Z = true) {h : Heap} (hE : Ext Z.heap h) {a : Addr} (g : Z.heap.size ≤ a) (E : Exa Z h a "com/example/dataset_expiry/datasetexpiry/listing/Postings") (Fn : Fld Z h a "com/example/dataset_expiry/datasetexpiry/listing/Postings" "numbers" "[I" .null) (Fs : Fld Z h a "com/example/dataset_expiry/datasetexpiry/listing/Postings" "size" "I" (.int 0)) :
    Con l (⟨"com/example/dataset_expiry/datasetexpiry/listing/Postings", "<init>", "()V"⟩ : MethodName) prog_11_method_1_code 1 none [] ({ frames := 1, cells := 1, slots := 2, locals := 12 } : Room) Z #[.ref a] h (fun v h' => v = none ∧ PS Z h' a [] 2) := by
  refine con_intro (by first | exact plainFor_of_name pnP | decide +kernel) hE ?_
  intro p e s m below meth c T K hret hlk hnm
  have ef : entryFrame m #[.ref a] 1 = (mkF m 0 #[.val (.ref a)] []) := by first | rfl | (simp [entryFrame, mkF, argsToLocals, Value.category]; done)
  rw [ef]
  refine r_aloadN (pc' := 1) K d1_0 rfl rfl rfl ?_
  refine r_init (pc' := 4) (W := 0) K (hw _ (List.mem_of_getElem? (i := 6) rfl)) (hw _ (List.mem_of_getElem? (i := 7) rfl)) (hw _ (List.mem_of_getElem? (i := 8) rfl)) rfl d1_1 rfl (by decide) (by decide) (by decide) ?_
  intro T1 K1
  refine r_aloadN (pc' := 5) K1 d1_4 rfl rfl rfl ?_
  refine r_iconst (v := (2 : Int32)) (pc' := 6) K1 d1_5 rfl (by decide) ?_
  refine r_newarr (pc' := 8) (cap := 2) K1 (hw _ (List.mem_of_getElem? (i := 9) rfl)) d1_6 rfl (by decide) (by decide) (by decide) (by decide) (by decide) ?_
  intro T2 h2 b k hb K2 E2 A2
  refine r_putF (pc' := 11) K2 (hw _ (List.mem_of_getElem? (i := 10) rfl)) (Fn.ext E2) (E.ext E2) g (Or.inl (hw _ (List.mem_of_getElem? (i := 11) rfl))) (hw _ (List.mem_of_getElem? (i := 1) rfl)) (ty := .array .int) (by decide) rfl rfl d1_8 rfl ?_
  intro T3 h3 K3 W3
  have hab : b ≠ a := by rw [hb]; exact Nat.ne_of_gt E.lt
  exact r_retV K3 hret hlk d1_11 (Nat.le_refl _) (Nat.le_refl _) ⟨rfl, b, k, [0, 0], g, by rw [hb]; exact K.sz, hab.symm, (E.ext E2).wr W3, (Fn.ext E2).same W3, (Fs.ext E2).other W3 (Or.inr (slot_ne (Or.inl (hw _ (List.mem_of_getElem? (i := 18) rfl))) (Or.inl (hw _ (List.mem_of_getElem? (i := 11) rfl))) (by decide) (t := .int) (t' := .array .int) (by decide) (by decide))), ((A2.pad (vs' := [.int 0, .int 0]) (pad_rep [] (.int 0) 2)).other W3 hab), rfl⟩
theorem own_us (xs ys : List Int32) {i k : Nat} (hi : i + k = xs.length) : ((List.range k).map fun j => ((xs ++ ys).map Value.int).getD (i + j) (.int 0)) = (xs.drop i).map Value.int := by
  apply List.ext_getElem?
  intro j
  by_cases hj : j < k
  · have hj2 : i + j < xs.length := by omega
    rw [List.getElem?_map, List.getElem?_range hj, List.getElem?_map, List.getElem?_drop, Option.map_some, List.getD_eq_getElem?_getD, List.getElem?_map, List.getElem?_append_left hj2, List.getElem?_eq_getElem hj2]; rfl
  · have hj2 : xs.length ≤ i + j := by omega
    rw [List.getElem?_eq_none (by simp; omega), List.getElem?_eq_none (by simp; omega)]
theorem own_ins (xs ys : List Int32) (x : Int32) {i : Nat} (hi : i ≤ xs.length) (hy : 1 ≤ ys.length) :
    ((((xs ++ ys).map Value.int).take (i + 1) ++ ((List.range (xs.length - i)).map fun j => ((xs ++ ys).map Value.int).getD (i + j) (.int 0)) ++ ((xs ++ ys).map Value.int).drop ((i + 1) + (xs.length - i))).set i (.int x)) = ((xs.take i ++ x :: xs.drop i) ++ ys.drop 1).map Value.int := by
  rw [own_us xs ys (by omega), ← List.map_take, ← List.map_drop, ← List.map_append, ← List.map_append, ← List.map_set]
  congr 1
  obtain ⟨y, ys', rfl⟩ : ∃ y ys', ys = y :: ys' := by cases ys with | nil => simp at hy | cons y ys' => exact ⟨y, ys', rfl⟩
  obtain ⟨A, B, rfl, rfl⟩ : ∃ A B, xs = A ++ B ∧ i = A.length := ⟨xs.take i, xs.drop i, by simp, by simp; omega⟩
  have h1 : (A.length + 1) + ((A ++ B).length - A.length) = (A ++ B).length + 1 := by simp; omega
  rw [h1]
  have h2 : ((A ++ B) ++ y :: ys').drop ((A ++ B).length + 1) = ys' := by
    rw [List.drop_append]; simp
  rw [h2]
  obtain ⟨c, r, hc⟩ : ∃ c r, B ++ y :: ys' = c :: r := by cases B with | nil => exact ⟨y, ys', rfl⟩ | cons b B => exact ⟨b, B ++ y :: ys', rfl⟩
  have h3 : ((A ++ B) ++ y :: ys').take (A.length + 1) = A ++ [c] := by
    rw [List.append_assoc, hc, List.take_append, List.take_of_length_le (by omega)]; simp
  rw [h3]
  simp
theorem own_insget (xs : List Int32) (x : Int32) {i : Nat} (hi : i ≤ xs.length) (j : Nat) : (xs.take i ++ x :: xs.drop i)[j]? = if j < i then xs[j]? else if j = i then some x else xs[j - 1]? := by
  have hl : (xs.take i).length = i := by simp; omega
  by_cases h1 : j < i
  · rw [if_pos h1, List.getElem?_append_left (by omega), List.getElem?_take_of_lt h1]
  · rw [if_neg h1, List.getElem?_append_right (by omega), hl]
    by_cases h2 : j = i
    · simp [h2]
    · rw [if_neg h2]
      obtain ⟨d, hd⟩ : ∃ d, j - i = d + 1 := ⟨j - i - 1, by omega⟩
      rw [hd, List.getElem?_cons_succ, List.getElem?_drop]
      congr 1; omega
theorem own_inssrt {xs : List Int32} {x : Int32} {i : Nat} (hi : i ≤ xs.length) (hs : Srt xs) (h1 : ∀ (j : Nat) (y : Int32), j < i → xs[j]? = some y → y < x) (h2 : ∀ (j : Nat) (y : Int32), i ≤ j → xs[j]? = some y → x < y) : Srt (xs.take i ++ x :: xs.drop i) := by
  intro j k u v hjk hu hv
  rw [own_insget xs x hi] at hu hv
  by_cases a1 : j < i
  · rw [if_pos a1] at hu
    by_cases b1 : k < i
    · rw [if_pos b1] at hv; exact hs j k u v hjk hu hv
    · rw [if_neg b1] at hv
      by_cases b2 : k = i
      · rw [if_pos b2] at hv; cases hv; exact h1 j u a1 hu
      · rw [if_neg b2] at hv; exact hs j (k - 1) u v (by omega) hu hv
  · rw [if_neg a1] at hu
    rw [if_neg (by omega)] at hv
    by_cases a2 : j = i
    · rw [if_pos a2] at hu; cases hu
      rw [if_neg (by omega)] at hv; exact h2 (k - 1) v (by omega) hv
    · rw [if_neg a2] at hu
      rw [if_neg (by omega)] at hv; exact hs (j - 1) (k - 1) u v (by omega) hu hv
theorem own_insmem (xs : List Int32) (x : Int32) (i : Nat) (y : Int32) : y ∈ xs.take i ++ x :: xs.drop i ↔ y = x ∨ y ∈ xs := by
  conv => rhs; rw [← List.take_append_drop i xs]
  simp only [List.mem_append, List.mem_cons]
  constructor
  · rintro (q | q | q)
    · exact Or.inr (Or.inl q)
    · exact Or.inl q
    · exact Or.inr (Or.inr q)
  · rintro (q | q | q)
    · exact Or.inr (Or.inl q)
    · exact Or.inl q
    · exact Or.inr (Or.inr q)
theorem own_del (xs ys : List Int32) {i : Nat} (hi : i < xs.length) :
    (((xs ++ ys).map Value.int).take i ++ ((List.range (xs.length - i - 1)).map fun j => ((xs ++ ys).map Value.int).getD ((i + 1) + j) (.int 0)) ++ ((xs ++ ys).map Value.int).drop (i + (xs.length - i - 1))) = (xs.eraseIdx i ++ (xs ++ ys).drop (xs.length - 1)).map Value.int := by
  rw [own_us xs ys (by omega), ← List.map_take, ← List.map_drop, ← List.map_append, ← List.map_append, show i + (xs.length - i - 1) = xs.length - 1 by omega, List.take_append_of_le_length (by omega), List.eraseIdx_eq_take_drop_succ]
theorem own_delsrt {xs : List Int32} (hs : Srt xs) (i : Nat) : Srt (xs.eraseIdx i) := by
  intro j k u v hjk hu hv
  rw [List.getElem?_eraseIdx] at hu hv
  split at hu <;> split at hv
  · exact hs _ _ _ _ hjk hu hv
  · exact hs _ _ _ _ (by omega) hu hv
  · omega
  · exact hs _ _ _ _ (by omega) hu hv
theorem own_inj {xs : List Int32} (hs : Srt xs) {i j : Nat} {x : Int32} (h1 : xs[i]? = some x) (h2 : xs[j]? = some x) : i = j := by
  rcases Nat.lt_trichotomy i j with h | h | h
  · exact absurd (hs i j x x h h1 h2) Int32.lt_irrefl
  · exact h
  · exact absurd (hs j i x x h h2 h1) Int32.lt_irrefl
theorem own_delmem {xs : List Int32} (hs : Srt xs) {i : Nat} {x : Int32} (hx : xs[i]? = some x) (y : Int32) : y ∈ xs.eraseIdx i ↔ y ∈ xs ∧ y ≠ x := by
  simp only [List.mem_iff_getElem?, List.getElem?_eraseIdx]
  constructor
  · rintro ⟨j, hj⟩
    split at hj
    · refine ⟨⟨j, hj⟩, fun q => ?_⟩
      subst q; have := own_inj hs hj hx; omega
    · refine ⟨⟨_, hj⟩, fun q => ?_⟩
      subst q; have := own_inj hs hj hx; omega
  · rintro ⟨⟨j, hj⟩, hne⟩
    by_cases h : j < i
    · exact ⟨j, by rw [if_pos h]; exact hj⟩
    · have : j ≠ i := fun q => by subst q; rw [hj] at hx; exact hne (Option.some.inj hx)
      exact ⟨j - 1, by rw [if_neg (by omega), show j - 1 + 1 = j by omega]; exact hj⟩
theorem own_absent {xs : List Int32} {x : Int32} {i : Nat} (h1 : ∀ (j : Nat) (y : Int32), j < i → xs[j]? = some y → y < x) (h2 : ∀ (j : Nat) (y : Int32), i ≤ j → xs[j]? = some y → x < y) (h : x ∈ xs) : False := by
  obtain ⟨j, hj⟩ := List.mem_iff_getElem?.mp h
  by_cases q : j < i
  · exact Int32.lt_irrefl (h1 j x q hj)
  · exact Int32.lt_irrefl (h2 j x (by omega) hj)
set_option maxRecDepth 65536 in
set_option maxHeartbeats 4000000 in
theorem seg3 (hw : ∀ d ∈ tables_1, d.before a0 Z = true) (K : St Z "com/example/dataset_expiry/datasetexpiry/listing/Postings" prog_11_method_9_code 4 p l e R s m args below meth c T h cells slots) {a b : Addr} {k : ClassId} {xs ys : List Int32} {cap i kc kn : Nat} {x rr : Int32} (hret : meth.sig.returnType = none) (hlk : meth.locks = false) (ga : Z.heap.size ≤ a) (gb : Z.heap.size ≤ b) (hab : a ≠ b) (E : Exa Z h a "com/example/dataset_expiry/datasetexpiry/listing/Postings") (Fn : Fld Z h a "com/example/dataset_expiry/datasetexpiry/listing/Postings" "numbers" "[I" (.ref b)) (Fs : Fld Z h a "com/example/dataset_expiry/datasetexpiry/listing/Postings" "size" "I" (.int (Int32.ofNat xs.length)))
    (A : Arv Z h b k .int (Int32.ofNat cap) ((xs ++ ys).map Value.int) (.int 0)) (hlen : (xs ++ ys).length = cap) (hs : Srt xs) (hi : i ≤ xs.length) (hb1 : ∀ (j : Nat) (y : Int32), j < i → xs[j]? = some y → y < x) (hb2 : ∀ (j : Nat) (y : Int32), i ≤ j → xs[j]? = some y → x < y) (hcap : cap = 2 ∧ xs.length ≤ 1 ∨ cap = 4 ∧ xs.length = 2) (hfr : 1 ≤ R.frames) (hlo : 0 + (nativeFrameWords "java/lang/System" "arraycopy" 5 + 11) ≤ R.locals) (hc1 : cells ≤ kc) (hc2 : slots ≤ kn) :
    Run p e below (Fini Z s below kc kn (fun v h' => v = none ∧ ∃ xs' cap', PS Z h' a xs' cap' ∧ Srt xs' ∧ (∀ y, y ∈ xs' ↔ y = x ∨ y ∈ xs) ∧ (cap' = 2 ∧ xs'.length ≤ 2 ∧ xs'.length ≤ xs.length + 1 ∨ cap' = 4 ∧ xs'.length = 3 ∧ xs.length = 2))) T (mkF m 53 #[.val (.ref a), .val (.int x), .val (.int rr), .val (.int (Int32.ofNat i))] []) := by
  have hl := List.length_append (as := xs) (bs := ys)
  have hy : 1 ≤ ys.length := by omega
  refine r_aloadN (pc' := 54) K d3_53 rfl rfl rfl ?_
  refine r_getF (pc' := 57) K (hw _ (List.mem_of_getElem? (i := 10) rfl)) Fn d3_54 rfl ?_
  intro T1 K1
  refine r_iloadN (pc' := 58) K1 d3_57 rfl rfl ?_
  refine r_aloadN (pc' := 59) K1 d3_58 rfl rfl rfl ?_
  refine r_getF (pc' := 62) K1 (hw _ (List.mem_of_getElem? (i := 10) rfl)) Fn d3_59 rfl ?_
  intro T2 K2
  refine r_iloadN (pc' := 63) K2 d3_62 rfl rfl ?_
  refine r_iconst (v := (1 : Int32)) (pc' := 64) K2 d3_63 rfl (by decide) ?_
  refine r_iadd (pc' := 65) K2 d3_64 rfl ?_
  refine r_aloadN (pc' := 66) K2 d3_65 rfl rfl rfl ?_
  refine r_getF (pc' := 69) K2 (hw _ (List.mem_of_getElem? (i := 17) rfl)) Fs d3_66 rfl ?_
  intro T3 K3
  refine r_iloadN (pc' := 70) K3 d3_69 rfl rfl ?_
  refine r_isub (pc' := 71) K3 d3_70 rfl ?_
  rw [own_sub hi, own_one]
  refine r_copy (pc' := 74) (W := 0) K3 (hw _ (List.mem_of_getElem? (i := 29) rfl)) (hw _ (List.mem_of_getElem? (i := 32) rfl)) (hw _ (List.mem_of_getElem? (i := 30) rfl)) (hw _ (List.mem_of_getElem? (i := 31) rfl)) A A rfl (own_nn (by omega)) (own_nn (by omega)) (own_nn (by omega)) (by rw [own_n32 (by omega), own_n32 (by omega), own_n32 (by omega)]; omega) (by rw [own_n32 (by omega), own_n32 (by omega), own_n32 (by omega)]; omega) rfl (by rw [own_n32 (by omega), own_n32 (by omega), List.length_map, hlen]; omega) gb rfl d3_71 rfl hfr (by decide) hlo ?_
  intro T4 h4 K4 Kp A4
  rw [own_n32 (by omega), own_n32 (by omega), own_n32 (by omega)] at A4
  have nab : a ∉ [b] := ninS hab nin0
  have Fn4 := Fn.keep Kp nab
  have Fs4 := Fs.keep Kp nab
  have E4 := E.keep Kp
  refine r_aloadN (pc' := 75) K4 d3_74 rfl rfl rfl ?_
  refine r_getF (pc' := 78) K4 (hw _ (List.mem_of_getElem? (i := 10) rfl)) Fn4 d3_75 rfl ?_
  intro T5 K5
  refine r_iloadN (pc' := 79) K5 d3_78 rfl rfl ?_
  refine r_iloadN (pc' := 80) K5 d3_79 rfl rfl ?_
  refine r_iastore (pc' := 81) (i := i) K5 A4 gb ⟨own_nn (by omega), own_lt (by omega) (by omega)⟩ (own_n32 (by omega)) (by simp; omega) d3_80 rfl ?_
  intro T6 h6 K6 W6 A6
  rw [own_ins xs ys x hi hy] at A6
  have Fn6 := Fn4.other W6 (Or.inl hab)
  have Fs6 := Fs4.other W6 (Or.inl hab)
  have E6 := E4.wr W6
  refine r_aloadN (pc' := 82) K6 d3_81 rfl rfl rfl ?_
  refine r_dup (pc' := 83) K6 d3_82 rfl rfl ?_
  refine r_getF (pc' := 86) K6 (hw _ (List.mem_of_getElem? (i := 17) rfl)) Fs6 d3_83 rfl ?_
  intro T7 K7
  refine r_iconst (v := (1 : Int32)) (pc' := 87) K7 d3_86 rfl (by decide) ?_
  refine r_iadd (pc' := 88) K7 d3_87 rfl ?_
  rw [own_one]
  refine r_putF (pc' := 91) K7 (hw _ (List.mem_of_getElem? (i := 17) rfl)) Fs6 E6 ga (Or.inl (hw _ (List.mem_of_getElem? (i := 18) rfl))) (hw _ (List.mem_of_getElem? (i := 1) rfl)) (ty := .int) (by decide) rfl rfl d3_88 rfl ?_
  intro T8 h8 K8 W8
  have hl1 : (xs.take i ++ x :: xs.drop i).length = xs.length + 1 := by simp; omega
  refine r_retV K8 hret hlk d3_91 hc1 hc2 ⟨rfl, xs.take i ++ x :: xs.drop i, cap, ⟨b, k, ys.drop 1, ga, gb, hab, E6.wr W8, Fn6.other W8 (Or.inr (slot_ne (Or.inl (hw _ (List.mem_of_getElem? (i := 11) rfl))) (Or.inl (hw _ (List.mem_of_getElem? (i := 18) rfl))) (by decide) (t := .array .int) (t' := .int) (by decide) (by decide))), by rw [hl1]; exact Fs6.same W8, A6.other W8 hab.symm, ?_⟩, own_inssrt hi hs hb1 hb2, own_insmem xs x i, ?_⟩
  · rw [List.length_append, hl1, List.length_drop]; rw [List.length_append] at hlen; omega
  · rw [hl1]; omega
set_option maxRecDepth 65536 in
set_option maxHeartbeats 4000000 in
theorem con3 (l : Launch) {Z : State} {a0 : Array Value} (hw : ∀ d ∈ tables_1, d.before a0 Z = true) {h : Heap} (hE : Ext Z.heap h) {a : Addr} {xs : List Int32} {x : Int32} (hP : PS Z h a xs 2) (hs : Srt xs) (hl2 : xs.length ≤ 2) :
    Con l (⟨"com/example/dataset_expiry/datasetexpiry/listing/Postings", "add", "(I)V"⟩ : MethodName) prog_11_method_9_code 4 none [] ({ frames := 2, cells := 1, slots := 4, locals := 34 } : Room) Z #[.ref a, .int x] h (fun v h' => v = none ∧ ∃ xs' cap', PS Z h' a xs' cap' ∧ Srt xs' ∧ (∀ y, y ∈ xs' ↔ y = x ∨ y ∈ xs) ∧ (cap' = 2 ∧ xs'.length ≤ 2 ∧ xs'.length ≤ xs.length + 1 ∨ cap' = 4 ∧ xs'.length = 3 ∧ xs.length = 2)) := by
  refine con_intro (by first | exact plainFor_of_name pnP | decide +kernel) hE ?_
  intro p e s m below meth c T K hret hlk hnm
  obtain ⟨b, k, ys, ga, gb, hab, E, Fn, Fs, A, hlen⟩ := hP
  have ef : entryFrame m #[.ref a, .int x] 4 = (mkF m 0 #[.val (.ref a), .val (.int x), .unset, .unset] []) := by first | rfl | (simp [entryFrame, mkF, argsToLocals, Value.category]; done)
  rw [ef]
  refine r_aloadN (pc' := 1) K d3_0 rfl rfl rfl ?_
  refine r_getF (pc' := 4) K (hw _ (List.mem_of_getElem? (i := 10) rfl)) Fn d3_1 rfl ?_
  intro T1 K1
  refine r_iconst (v := (0 : Int32)) (pc' := 5) K1 d3_4 rfl (by decide) ?_
  refine r_aloadN (pc' := 6) K1 d3_5 rfl rfl rfl ?_
  refine r_getF (pc' := 9) K1 (hw _ (List.mem_of_getElem? (i := 17) rfl)) Fs d3_6 rfl ?_
  intro T2 K2
  refine r_iloadN (pc' := 10) K2 d3_9 rfl rfl ?_
  refine r_static (pc' := 13) (argsL := [.ref b, .int (0 : Int32), .int (Int32.ofNat xs.length), .int x]) (rest := []) (W := 0) K2 (con4 l hw hE (by decide) A hlen hs) (hw _ (List.mem_of_getElem? (i := 19) rfl)) (hw _ (List.mem_of_getElem? (i := 20) rfl)) (hw _ (List.mem_of_getElem? (i := 21) rfl)) (hw _ (List.mem_of_getElem? (i := 22) rfl)) (by decide) pdB rfl rfl rfl (Nat.le_refl _) (by decide) (by decide) (by decide) (by decide) d3_10 rfl ?_
  rintro _ T3 _ K3 ⟨r, rfl, rfl, hbs⟩
  refine r_istoreN (Ls' := #[.val (.ref a), .val (.int x), .val (.int r), .unset]) (pc' := 14) K3 d3_13 rfl rfl ?_
  refine r_iloadN (pc' := 15) K3 d3_14 rfl rfl ?_
  rcases hbs with ⟨i, hi, hx, rfl⟩ | ⟨i, hi, rfl, hb1, hb2⟩
  · skip
    refine r_if (pc1 := 18) (pc2 := 19) K3 d3_15 rfl (by decide) (by decide) ?_ ?_
    · intro (hc : (Int32.ofNat i) < (0 : Int32))
      exact absurd hc (own_nn (by omega))
    · intro (hc : ¬ (Int32.ofNat i) < (0 : Int32))
      exact r_retV K3 hret hlk d3_18 (by decide) (by decide) ⟨rfl, xs, 2, ⟨b, k, ys, ga, gb, hab, E, Fn, Fs, A, hlen⟩, hs, fun y => ⟨Or.inr, fun q => q.elim (fun u => u ▸ List.mem_of_getElem? hx) id⟩, Or.inl ⟨rfl, hl2, by omega⟩⟩
  · skip
    refine r_if (pc1 := 18) (pc2 := 19) K3 d3_15 rfl (by decide) (by decide) ?_ ?_
    · intro (hc : (-(Int32.ofNat i + (1 : Int32))) < (0 : Int32))
      refine r_iloadN (pc' := 20) K3 d3_19 rfl rfl ?_
      refine r_ineg (pc' := 21) K3 d3_20 rfl ?_
      refine r_iconst (v := (1 : Int32)) (pc' := 22) K3 d3_21 rfl (by decide) ?_
      refine r_isub (pc' := 23) K3 d3_22 rfl ?_
      rw [own_neg]
      refine r_istoreN (Ls' := #[.val (.ref a), .val (.int x), .val (.int (-(Int32.ofNat i + (1 : Int32)))), .val (.int (Int32.ofNat i))]) (pc' := 24) K3 d3_23 rfl rfl ?_
      refine r_aloadN (pc' := 25) K3 d3_24 rfl rfl rfl ?_
      refine r_getF (pc' := 28) K3 (hw _ (List.mem_of_getElem? (i := 17) rfl)) Fs d3_25 rfl ?_
      intro T4 K4
      refine r_aloadN (pc' := 29) K4 d3_28 rfl rfl rfl ?_
      refine r_getF (pc' := 32) K4 (hw _ (List.mem_of_getElem? (i := 10) rfl)) Fn d3_29 rfl ?_
      intro T5 K5
      refine r_alen (pc' := 33) K5 A d3_32 rfl ?_
      refine r_icmp (pc1 := 36) (pc2 := 53) K5 d3_33 rfl (by decide) (by decide) ?_ ?_
      · intro (hc2 : ¬ (Int32.ofNat xs.length) = (Int32.ofNat 2))
        have h1 : xs.length ≤ 1 := by
          have : xs.length ≠ 2 := fun q => hc2 (by rw [q])
          omega
        exact seg3 hw K5 hret hlk ga gb hab E Fn Fs A hlen hs hi hb1 hb2 (Or.inl ⟨rfl, h1⟩) (by decide) (by decide) (by decide) (by decide)
      · intro (hc2 : (Int32.ofNat xs.length) = (Int32.ofNat 2))
        have h2 : xs.length = 2 := own_eq (by omega) (by decide) hc2
        refine r_aloadN (pc' := 37) K5 d3_36 rfl rfl rfl ?_
        refine r_aloadN (pc' := 38) K5 d3_37 rfl rfl rfl ?_
        refine r_getF (pc' := 41) K5 (hw _ (List.mem_of_getElem? (i := 10) rfl)) Fn d3_38 rfl ?_
        intro T6 K6
        refine r_aloadN (pc' := 42) K6 d3_41 rfl rfl rfl ?_
        refine r_getF (pc' := 45) K6 (hw _ (List.mem_of_getElem? (i := 17) rfl)) Fs d3_42 rfl ?_
        intro T7 K7
        refine r_iconst (v := (2 : Int32)) (pc' := 46) K7 d3_45 rfl (by decide) ?_
        refine r_imul (pc' := 47) K7 d3_46 rfl ?_
        rw [show Int32.ofNat xs.length * (2 : Int32) = 4 from by rw [h2]; decide]
        refine r_static (pc' := 50) (argsL := [.ref b, .int (4 : Int32)]) (rest := [.ref a]) (W := 1) K7 (con10 l hw hE hlen A) (hw _ (List.mem_of_getElem? (i := 48) rfl)) (hw _ (List.mem_of_getElem? (i := 49) rfl)) (hw _ (List.mem_of_getElem? (i := 21) rfl)) (hw _ (List.mem_of_getElem? (i := 50) rfl)) (by decide) pdC rfl rfl rfl (Nat.le_refl _) (by decide) (by decide) (by decide) (by decide) d3_47 rfl ?_
        rintro _ T8 h8 K8 ⟨b', k', rfl, hb8, E8, A8⟩
        refine r_putF (pc' := 53) K8 (hw _ (List.mem_of_getElem? (i := 10) rfl)) (Fn.ext E8) (E.ext E8) ga (Or.inl (hw _ (List.mem_of_getElem? (i := 11) rfl))) (hw _ (List.mem_of_getElem? (i := 1) rfl)) (ty := .array .int) (by decide) rfl rfl d3_50 rfl ?_
        intro T9 h9 K9 W9
        have hab' : b' ≠ a := Nat.ne_of_gt (Nat.lt_of_lt_of_le E.lt hb8)
        refine seg3 hw K9 (b := b') (k := k') (ys := ys ++ [0, 0]) (cap := 4) hret hlk ga (Nat.le_trans K.sz hb8) hab'.symm ((E.ext E8).wr W9) ((Fn.ext E8).same W9) ((Fs.ext E8).other W9 (Or.inr (slot_ne (Or.inl (hw _ (List.mem_of_getElem? (i := 18) rfl))) (Or.inl (hw _ (List.mem_of_getElem? (i := 11) rfl))) (by decide) (t := .int) (t' := .array .int) (by decide) (by decide)))) ?_ ?_ hs hi hb1 hb2 (Or.inr ⟨rfl, h2⟩) (by decide) (by decide) (by decide) (by decide)
        · rw [← List.append_assoc]; exact A8.other W9 hab'
        · rw [← List.append_assoc, List.length_append, hlen]; rfl
    · intro (hc : ¬ (-(Int32.ofNat i + (1 : Int32))) < (0 : Int32))
      exact absurd (own_ineg (by omega)) hc
set_option maxRecDepth 65536 in
set_option maxHeartbeats 4000000 in
theorem con9 (l : Launch) {Z : State} {a0 : Array Value} (hw : ∀ d ∈ tables_1, d.before a0 Z = true) {h : Heap} (hE : Ext Z.heap h) {a : Addr} {xs : List Int32} {cap : Nat} {x : Int32} (hP : PS Z h a xs cap) (hs : Srt xs) (hcap : cap = 2 ∧ xs.length ≤ 2 ∨ cap = 4 ∧ xs.length = 3) :
    Con l (⟨"com/example/dataset_expiry/datasetexpiry/listing/Postings", "remove", "(I)V"⟩ : MethodName) prog_11_method_10_code 3 none [] ({ frames := 2, cells := 0, slots := 0, locals := 34 } : Room) Z #[.ref a, .int x] h (fun v h' => v = none ∧ ∃ xs' cap', PS Z h' a xs' cap' ∧ cap' ≤ 255 ∧ Srt xs' ∧ (∀ y, y ∈ xs' ↔ y ∈ xs ∧ y ≠ x)) := by
  refine con_intro (by first | exact plainFor_of_name pnP | decide +kernel) hE ?_
  intro p e s m below meth c T K hret hlk hnm
  obtain ⟨b, k, ys, ga, gb, hab, E, Fn, Fs, A, hlen⟩ := hP
  have hl := List.length_append (as := xs) (bs := ys)
  have ef : entryFrame m #[.ref a, .int x] 3 = (mkF m 0 #[.val (.ref a), .val (.int x), .unset] []) := by first | rfl | (simp [entryFrame, mkF, argsToLocals, Value.category]; done)
  rw [ef]
  refine r_aloadN (pc' := 1) K d9_0 rfl rfl rfl ?_
  refine r_getF (pc' := 4) K (hw _ (List.mem_of_getElem? (i := 10) rfl)) Fn d9_1 rfl ?_
  intro T1 K1
  refine r_iconst (v := (0 : Int32)) (pc' := 5) K1 d9_4 rfl (by decide) ?_
  refine r_aloadN (pc' := 6) K1 d9_5 rfl rfl rfl ?_
  refine r_getF (pc' := 9) K1 (hw _ (List.mem_of_getElem? (i := 17) rfl)) Fs d9_6 rfl ?_
  intro T2 K2
  refine r_iloadN (pc' := 10) K2 d9_9 rfl rfl ?_
  refine r_static (pc' := 13) (argsL := [.ref b, .int (0 : Int32), .int (Int32.ofNat xs.length), .int x]) (rest := []) (W := 0) K2 (con4 l hw hE (by omega) A hlen hs) (hw _ (List.mem_of_getElem? (i := 19) rfl)) (hw _ (List.mem_of_getElem? (i := 20) rfl)) (hw _ (List.mem_of_getElem? (i := 21) rfl)) (hw _ (List.mem_of_getElem? (i := 22) rfl)) (by decide) pdB rfl rfl rfl (Nat.le_refl _) (by decide) (by decide) (by decide) (by decide) d9_10 rfl ?_
  rintro _ T3 _ K3 ⟨r, rfl, rfl, hbs⟩
  refine r_istoreN (Ls' := #[.val (.ref a), .val (.int x), .val (.int r)]) (pc' := 14) K3 d9_13 rfl rfl ?_
  refine r_iloadN (pc' := 15) K3 d9_14 rfl rfl ?_
  rcases hbs with ⟨i, hi, hx, rfl⟩ | ⟨i, hi, rfl, hb1, hb2⟩
  · skip
    refine r_if (pc1 := 18) (pc2 := 19) K3 d9_15 rfl (by decide) (by decide) ?_ ?_
    · intro (hc : ¬ (Int32.ofNat i) < (0 : Int32))
      refine r_aloadN (pc' := 20) K3 d9_19 rfl rfl rfl ?_
      refine r_getF (pc' := 23) K3 (hw _ (List.mem_of_getElem? (i := 10) rfl)) Fn d9_20 rfl ?_
      intro T4 K4
      refine r_iloadN (pc' := 24) K4 d9_23 rfl rfl ?_
      refine r_iconst (v := (1 : Int32)) (pc' := 25) K4 d9_24 rfl (by decide) ?_
      refine r_iadd (pc' := 26) K4 d9_25 rfl ?_
      refine r_aloadN (pc' := 27) K4 d9_26 rfl rfl rfl ?_
      refine r_getF (pc' := 30) K4 (hw _ (List.mem_of_getElem? (i := 10) rfl)) Fn d9_27 rfl ?_
      intro T5 K5
      refine r_iloadN (pc' := 31) K5 d9_30 rfl rfl ?_
      refine r_aloadN (pc' := 32) K5 d9_31 rfl rfl rfl ?_
      refine r_getF (pc' := 35) K5 (hw _ (List.mem_of_getElem? (i := 17) rfl)) Fs d9_32 rfl ?_
      intro T6 K6
      refine r_iloadN (pc' := 36) K6 d9_35 rfl rfl ?_
      refine r_isub (pc' := 37) K6 d9_36 rfl ?_
      refine r_iconst (v := (1 : Int32)) (pc' := 38) K6 d9_37 rfl (by decide) ?_
      refine r_isub (pc' := 39) K6 d9_38 rfl ?_
      rw [own_sub (by omega), own_dec (by omega), own_one]
      refine r_copy (pc' := 42) (W := 0) K6 (hw _ (List.mem_of_getElem? (i := 29) rfl)) (hw _ (List.mem_of_getElem? (i := 32) rfl)) (hw _ (List.mem_of_getElem? (i := 30) rfl)) (hw _ (List.mem_of_getElem? (i := 31) rfl)) A A rfl (own_nn (by omega)) (own_nn (by omega)) (own_nn (by omega)) (by rw [own_n32 (by omega), own_n32 (by omega), own_n32 (by omega)]; omega) (by rw [own_n32 (by omega), own_n32 (by omega), own_n32 (by omega)]; omega) rfl (by rw [own_n32 (by omega), own_n32 (by omega), List.length_map, hlen]; omega) gb rfl d9_39 rfl (by decide) (by decide) (by decide) ?_
      intro T7 h7 K7 Kp A7
      rw [own_n32 (by omega), own_n32 (by omega), own_n32 (by omega), own_del xs ys hi] at A7
      have nab : a ∉ [b] := ninS hab nin0
      have Fn7 := Fn.keep Kp nab
      have Fs7 := Fs.keep Kp nab
      have E7 := E.keep Kp
      refine r_aloadN (pc' := 43) K7 d9_42 rfl rfl rfl ?_
      refine r_dup (pc' := 44) K7 d9_43 rfl rfl ?_
      refine r_getF (pc' := 47) K7 (hw _ (List.mem_of_getElem? (i := 17) rfl)) Fs7 d9_44 rfl ?_
      intro T8 K8
      refine r_iconst (v := (1 : Int32)) (pc' := 48) K8 d9_47 rfl (by decide) ?_
      refine r_isub (pc' := 49) K8 d9_48 rfl ?_
      rw [own_dec (by omega)]
      refine r_putF (pc' := 52) K8 (hw _ (List.mem_of_getElem? (i := 17) rfl)) Fs7 E7 ga (Or.inl (hw _ (List.mem_of_getElem? (i := 18) rfl))) (hw _ (List.mem_of_getElem? (i := 1) rfl)) (ty := .int) (by decide) rfl rfl d9_49 rfl ?_
      intro T9 h9 K9 W9
      have Fn9 := Fn7.other W9 (Or.inr (slot_ne (Or.inl (hw _ (List.mem_of_getElem? (i := 11) rfl))) (Or.inl (hw _ (List.mem_of_getElem? (i := 18) rfl))) (by decide) (t := .array .int) (t' := .int) (by decide) (by decide)))
      have Fs9 := Fs7.same W9
      have A9 := A7.other W9 hab.symm
      refine r_aloadN (pc' := 53) K9 d9_52 rfl rfl rfl ?_
      refine r_getF (pc' := 56) K9 (hw _ (List.mem_of_getElem? (i := 17) rfl)) Fs9 d9_53 rfl ?_
      intro T10 K10
      refine r_aloadN (pc' := 57) K10 d9_56 rfl rfl rfl ?_
      refine r_getF (pc' := 60) K10 (hw _ (List.mem_of_getElem? (i := 10) rfl)) Fn9 d9_57 rfl ?_
      intro T11 K11
      refine r_alen (pc' := 61) K11 A9 d9_60 rfl ?_
      refine r_iconst (v := (4 : Int32)) (pc' := 62) K11 d9_61 rfl (by decide) ?_
      refine r_idiv (pc' := 63) K11 d9_62 rfl (by decide) ?_
      refine r_icmp (pc1 := 66) (pc2 := 97) K11 d9_63 rfl (by decide) (by decide) ?_ ?_
      · intro (hc2 : ¬ (Int32.ofNat (xs.length - 1)) < ((Int32.ofNat cap) / (4 : Int32)))
        have hl1 : (xs.eraseIdx i).length = xs.length - 1 := List.length_eraseIdx_of_lt hi
        refine r_retV K11 hret hlk d9_97 (by decide) (by decide) ⟨rfl, xs.eraseIdx i, cap, ⟨b, k, (xs ++ ys).drop (xs.length - 1), ga, gb, hab, E7.wr W9, Fn9, by rw [hl1]; exact Fs9, A9, ?_⟩, by omega, own_delsrt hs i, own_delmem hs hx⟩
        rw [List.length_append, hl1, List.length_drop]; omega
      · intro (hc2 : (Int32.ofNat (xs.length - 1)) < ((Int32.ofNat cap) / (4 : Int32)))
        exfalso
        rcases hcap with ⟨rfl, hq⟩ | ⟨rfl, hq⟩
        · rw [show Int32.ofNat 2 / (4 : Int32) = 0 from by decide] at hc2; exact own_nn (by omega) hc2
        · rw [show Int32.ofNat 4 / (4 : Int32) = Int32.ofNat 1 from by decide] at hc2; exact own_nlt (by omega) (by omega) hc2
    · intro (hc : (Int32.ofNat i) < (0 : Int32))
      exact absurd hc (own_nn (by omega))
  · skip
    refine r_if (pc1 := 18) (pc2 := 19) K3 d9_15 rfl (by decide) (by decide) ?_ ?_
    · intro (hc : ¬ (-(Int32.ofNat i + (1 : Int32))) < (0 : Int32))
      exact absurd (own_ineg (by omega)) hc
    · intro (hc : (-(Int32.ofNat i + (1 : Int32))) < (0 : Int32))
      exact r_retV K3 hret hlk d9_18 (by decide) (by decide) ⟨rfl, xs, cap, ⟨b, k, ys, ga, gb, hab, E, Fn, Fs, A, hlen⟩, by omega, hs, fun y => ⟨fun q => ⟨q, fun u => own_absent hb1 hb2 (u ▸ q)⟩, fun q => q.1⟩⟩
set_option maxRecDepth 65536 in
set_option maxHeartbeats 4000000 in
theorem con7 (l : Launch) {Z : State} {a0 : Array Value} (hw : ∀ d ∈ tables_1, d.before a0 Z = true) {h : Heap} (hE : Ext Z.heap h) {a : Addr} {xs : List Int32} {cap : Nat} (hP : PS Z h a xs cap) :
    Con l (⟨"com/example/dataset_expiry/datasetexpiry/listing/Postings", "size", "()I"⟩ : MethodName) prog_11_method_2_code 1 (some .int) [] ({ frames := 0, cells := 0, slots := 0, locals := 0 } : Room) Z #[.ref a] h (fun v h' => v = some (.int (Int32.ofNat xs.length)) ∧ h' = h) := by
  refine con_intro (by first | exact plainFor_of_name pnP | decide +kernel) hE ?_
  intro p e s m below meth c T K hret hlk hnm
  obtain ⟨b, k, ys, ga, gb, hab, E, Fn, Fs, A, hlen⟩ := hP
  have ef : entryFrame m #[.ref a] 1 = (mkF m 0 #[.val (.ref a)] []) := by first | rfl | (simp [entryFrame, mkF, argsToLocals, Value.category]; done)
  rw [ef]
  refine r_aloadN (pc' := 1) K d7_0 rfl rfl rfl ?_
  refine r_getF (pc' := 4) K (hw _ (List.mem_of_getElem? (i := 17) rfl)) Fs d7_1 rfl ?_
  intro T1 K1
  exact r_retI K1 hret hlk d7_4 (by decide) (by decide) ⟨rfl, rfl⟩
set_option maxRecDepth 65536 in
set_option maxHeartbeats 4000000 in
theorem con8 (l : Launch) {Z : State} {a0 : Array Value} (hw : ∀ d ∈ tables_1, d.before a0 Z = true) {h : Heap} (hE : Ext Z.heap h) {a : Addr} {xs : List Int32} {cap : Nat} {z : Int32} (hP : PS Z h a xs cap) (hcap : cap ≤ 255) (hz : xs[xs.length - 1]? = some z) :
    Con l (⟨"com/example/dataset_expiry/datasetexpiry/listing/Postings", "last", "()I"⟩ : MethodName) prog_11_method_4_code 1 (some .int) [] ({ frames := 0, cells := 0, slots := 0, locals := 0 } : Room) Z #[.ref a] h (fun v h' => v = some (.int z) ∧ h' = h) := by
  refine con_intro (by first | exact plainFor_of_name pnP | decide +kernel) hE ?_
  intro p e s m below meth c T K hret hlk hnm
  obtain ⟨b, k, ys, ga, gb, hab, E, Fn, Fs, A, hlen⟩ := hP
  have hl := List.length_append (as := xs) (bs := ys)
  have hj := (List.getElem?_eq_some_iff.mp hz).1
  have ef : entryFrame m #[.ref a] 1 = (mkF m 0 #[.val (.ref a)] []) := by first | rfl | (simp [entryFrame, mkF, argsToLocals, Value.category]; done)
  rw [ef]
  refine r_aloadN (pc' := 1) K d8_0 rfl rfl rfl ?_
  refine r_getF (pc' := 4) K (hw _ (List.mem_of_getElem? (i := 10) rfl)) Fn d8_1 rfl ?_
  intro T1 K1
  refine r_aloadN (pc' := 5) K1 d8_4 rfl rfl rfl ?_
  refine r_getF (pc' := 8) K1 (hw _ (List.mem_of_getElem? (i := 17) rfl)) Fs d8_5 rfl ?_
  intro T2 K2
  refine r_iconst (v := (1 : Int32)) (pc' := 9) K2 d8_8 rfl (by decide) ?_
  refine r_isub (pc' := 10) K2 d8_9 rfl ?_
  rw [own_dec (by omega)]
  refine r_iaload (pc' := 11) (v := .int z) K2 A ⟨own_nn (by omega), own_lt (by omega) hcap⟩ (by rw [own_n32 (by omega)]; exact own_at hz) d8_10 rfl ?_
  exact r_retI K2 hret hlk d8_11 (by decide) (by decide) ⟨rfl, rfl⟩
variable {xa xb xc xd xm u5 u6 u7 u8 r : Int32} {q : Addr} {u11 u12 u13 any best : Int32}
set_option maxRecDepth 65536 in
set_option maxHeartbeats 4000000 in
theorem sg0 (K : St Z "com/example/dataset_expiry/datasetexpiry/listing/PostingsLastPinLaw" code 16 p l e R s m args below meth c T h cells slots)  (hk : ∀ u5 : Int32, (u5 = 0 ∨ u5 = 1) → Run p e below P T (mkF m 14 #[.val (.int xa), .val (.int xb), .val (.int xc), .val (.int xd), .val (.int xm), .val (.int u5), .unset, .unset, .unset, .unset, .unset, .unset, .unset, .unset, .unset, .unset] [])) : Run p e below P T (mkF m 0 #[.val (.int xa), .val (.int xb), .val (.int xc), .val (.int xd), .val (.int xm), .unset, .unset, .unset, .unset, .unset, .unset, .unset, .unset, .unset, .unset, .unset] []) := by
  refine r_iload (pc' := 2) K at_0 rfl rfl ?_
  refine r_iconst (v := (4 : Int32)) (pc' := 3) K at_2 rfl (by decide) ?_
  refine r_iand (pc' := 4) K at_3 rfl ?_
  refine r_if (pc1 := 7) (pc2 := 11) K at_4 rfl (by decide) (by decide) ?_ ?_
  · intro (hc : (xm &&& (4 : Int32)) = (0 : Int32))
    refine r_iconst (v := (0 : Int32)) (pc' := 12) K at_11 rfl (by decide) ?_
    refine r_istore (Ls' := #[.val (.int xa), .val (.int xb), .val (.int xc), .val (.int xd), .val (.int xm), .val (.int (0 : Int32)), .unset, .unset, .unset, .unset, .unset, .unset, .unset, .unset, .unset, .unset]) (pc' := 14) K at_12 rfl rfl ?_
    exact hk _ (Or.inl rfl)
  · intro (hc : ¬ (xm &&& (4 : Int32)) = (0 : Int32))
    refine r_iconst (v := (1 : Int32)) (pc' := 8) K at_7 rfl (by decide) ?_
    refine r_goto (pc' := 12) K at_8 (by decide) (by decide) ?_
    refine r_istore (Ls' := #[.val (.int xa), .val (.int xb), .val (.int xc), .val (.int xd), .val (.int xm), .val (.int (1 : Int32)), .unset, .unset, .unset, .unset, .unset, .unset, .unset, .unset, .unset, .unset]) (pc' := 14) K at_12 rfl rfl ?_
    exact hk _ (Or.inr rfl)
set_option maxRecDepth 65536 in
set_option maxHeartbeats 4000000 in
theorem sg14 (K : St Z "com/example/dataset_expiry/datasetexpiry/listing/PostingsLastPinLaw" code 16 p l e R s m args below meth c T h cells slots)  (hk : ∀ u6 : Int32, (u6 = 0 ∨ u6 = 1) → Run p e below P T (mkF m 29 #[.val (.int xa), .val (.int xb), .val (.int xc), .val (.int xd), .val (.int xm), .val (.int u5), .val (.int u6), .unset, .unset, .unset, .unset, .unset, .unset, .unset, .unset, .unset] [])) : Run p e below P T (mkF m 14 #[.val (.int xa), .val (.int xb), .val (.int xc), .val (.int xd), .val (.int xm), .val (.int u5), .unset, .unset, .unset, .unset, .unset, .unset, .unset, .unset, .unset, .unset] []) := by
  refine r_iload (pc' := 16) K at_14 rfl rfl ?_
  refine r_bipush (v := (8 : Int32)) (pc' := 18) K at_16 rfl (by decide) ?_
  refine r_iand (pc' := 19) K at_18 rfl ?_
  refine r_if (pc1 := 22) (pc2 := 26) K at_19 rfl (by decide) (by decide) ?_ ?_
  · intro (hc : (xm &&& (8 : Int32)) = (0 : Int32))
    refine r_iconst (v := (0 : Int32)) (pc' := 27) K at_26 rfl (by decide) ?_
    refine r_istore (Ls' := #[.val (.int xa), .val (.int xb), .val (.int xc), .val (.int xd), .val (.int xm), .val (.int u5), .val (.int (0 : Int32)), .unset, .unset, .unset, .unset, .unset, .unset, .unset, .unset, .unset]) (pc' := 29) K at_27 rfl rfl ?_
    exact hk _ (Or.inl rfl)
  · intro (hc : ¬ (xm &&& (8 : Int32)) = (0 : Int32))
    refine r_iconst (v := (1 : Int32)) (pc' := 23) K at_22 rfl (by decide) ?_
    refine r_goto (pc' := 27) K at_23 (by decide) (by decide) ?_
    refine r_istore (Ls' := #[.val (.int xa), .val (.int xb), .val (.int xc), .val (.int xd), .val (.int xm), .val (.int u5), .val (.int (1 : Int32)), .unset, .unset, .unset, .unset, .unset, .unset, .unset, .unset, .unset]) (pc' := 29) K at_27 rfl rfl ?_
    exact hk _ (Or.inr rfl)
set_option maxRecDepth 65536 in
set_option maxHeartbeats 4000000 in
theorem sg29 (K : St Z "com/example/dataset_expiry/datasetexpiry/listing/PostingsLastPinLaw" code 16 p l e R s m args below meth c T h cells slots)  (hk : ∀ u7 u8 : Int32, (u8 = 0 ∨ u8 = 1) → Run p e below P T (mkF m 49 #[.val (.int xa), .val (.int xb), .val (.int xc), .val (.int xd), .val (.int xm), .val (.int u5), .val (.int u6), .val (.int u7), .val (.int u8), .unset, .unset, .unset, .unset, .unset, .unset, .unset] [])) : Run p e below P T (mkF m 29 #[.val (.int xa), .val (.int xb), .val (.int xc), .val (.int xd), .val (.int xm), .val (.int u5), .val (.int u6), .unset, .unset, .unset, .unset, .unset, .unset, .unset, .unset, .unset] []) := by
  refine r_iload (pc' := 31) K at_29 rfl rfl ?_
  refine r_iconst (v := (4 : Int32)) (pc' := 32) K at_31 rfl (by decide) ?_
  refine r_iushr (pc' := 33) K at_32 rfl ?_
  refine r_iconst (v := (3 : Int32)) (pc' := 34) K at_33 rfl (by decide) ?_
  refine r_iand (pc' := 35) K at_34 rfl ?_
  generalize ((xm.toUInt32 >>> ((4 : Int32) &&& 31).toUInt32).toInt32 &&& (3 : Int32)) = u7
  refine r_istore (Ls' := #[.val (.int xa), .val (.int xb), .val (.int xc), .val (.int xd), .val (.int xm), .val (.int u5), .val (.int u6), .val (.int u7), .unset, .unset, .unset, .unset, .unset, .unset, .unset, .unset]) (pc' := 37) K at_35 rfl rfl ?_
  refine r_iload (pc' := 39) K at_37 rfl rfl ?_
  refine r_if (pc1 := 42) (pc2 := 46) K at_39 rfl (by decide) (by decide) ?_ ?_
  · intro (hc : u7 = (0 : Int32))
    refine r_iconst (v := (0 : Int32)) (pc' := 47) K at_46 rfl (by decide) ?_
    refine r_istore (Ls' := #[.val (.int xa), .val (.int xb), .val (.int xc), .val (.int xd), .val (.int xm), .val (.int u5), .val (.int u6), .val (.int u7), .val (.int (0 : Int32)), .unset, .unset, .unset, .unset, .unset, .unset, .unset]) (pc' := 49) K at_47 rfl rfl ?_
    exact hk _ _ (Or.inl rfl)
  · intro (hc : ¬ u7 = (0 : Int32))
    refine r_iconst (v := (1 : Int32)) (pc' := 43) K at_42 rfl (by decide) ?_
    refine r_goto (pc' := 47) K at_43 (by decide) (by decide) ?_
    refine r_istore (Ls' := #[.val (.int xa), .val (.int xb), .val (.int xc), .val (.int xd), .val (.int xm), .val (.int u5), .val (.int u6), .val (.int u7), .val (.int (1 : Int32)), .unset, .unset, .unset, .unset, .unset, .unset, .unset]) (pc' := 49) K at_47 rfl rfl ?_
    exact hk _ _ (Or.inr rfl)
set_option maxRecDepth 65536 in
set_option maxHeartbeats 4000000 in
theorem sg49 (K : St Z "com/example/dataset_expiry/datasetexpiry/listing/PostingsLastPinLaw" code 16 p l e R s m args below meth c T h cells slots)  (hk : ∀ r : Int32, Run p e below P T (mkF m 72 #[.val (.int xa), .val (.int xb), .val (.int xc), .val (.int xd), .val (.int xm), .val (.int u5), .val (.int u6), .val (.int u7), .val (.int u8), .val (.int r), .unset, .unset, .unset, .unset, .unset, .unset] [])) : Run p e below P T (mkF m 49 #[.val (.int xa), .val (.int xb), .val (.int xc), .val (.int xd), .val (.int xm), .val (.int u5), .val (.int u6), .val (.int u7), .val (.int u8), .unset, .unset, .unset, .unset, .unset, .unset, .unset] []) := by
  refine r_iload (pc' := 51) K at_49 rfl rfl ?_
  refine r_iconst (v := (1 : Int32)) (pc' := 52) K at_51 rfl (by decide) ?_
  refine r_icmp (pc1 := 55) (pc2 := 59) K at_52 rfl (by decide) (by decide) ?_ ?_
  · intro (hc : ¬ u7 = (1 : Int32))
    refine r_iload (pc' := 61) K at_59 rfl rfl ?_
    refine r_iconst (v := (2 : Int32)) (pc' := 62) K at_61 rfl (by decide) ?_
    refine r_icmp (pc1 := 65) (pc2 := 69) K at_62 rfl (by decide) (by decide) ?_ ?_
    · intro (hc2 : ¬ u7 = (2 : Int32))
      refine r_iloadN (pc' := 70) K at_69 rfl rfl ?_
      refine r_istore (Ls' := #[.val (.int xa), .val (.int xb), .val (.int xc), .val (.int xd), .val (.int xm), .val (.int u5), .val (.int u6), .val (.int u7), .val (.int u8), .val (.int xd), .unset, .unset, .unset, .unset, .unset, .unset]) (pc' := 72) K at_70 rfl rfl ?_
      exact hk _
    · intro (hc2 : u7 = (2 : Int32))
      refine r_iloadN (pc' := 66) K at_65 rfl rfl ?_
      refine r_goto (pc' := 70) K at_66 (by decide) (by decide) ?_
      refine r_istore (Ls' := #[.val (.int xa), .val (.int xb), .val (.int xc), .val (.int xd), .val (.int xm), .val (.int u5), .val (.int u6), .val (.int u7), .val (.int u8), .val (.int xb), .unset, .unset, .unset, .unset, .unset, .unset]) (pc' := 72) K at_70 rfl rfl ?_
      exact hk _
  · intro (hc : u7 = (1 : Int32))
    refine r_iloadN (pc' := 56) K at_55 rfl rfl ?_
    refine r_goto (pc' := 70) K at_56 (by decide) (by decide) ?_
    refine r_istore (Ls' := #[.val (.int xa), .val (.int xb), .val (.int xc), .val (.int xd), .val (.int xm), .val (.int u5), .val (.int u6), .val (.int u7), .val (.int u8), .val (.int xa), .unset, .unset, .unset, .unset, .unset, .unset]) (pc' := 72) K at_70 rfl rfl ?_
    exact hk _
theorem PS.exa {a : Addr} {xs : List Int32} {cap : Nat} (hP : PS Z h a xs cap) : Exa Z h a "com/example/dataset_expiry/datasetexpiry/listing/Postings" := by obtain ⟨_, _, _, _, _, _, E, -⟩ := hP; exact E
set_option maxRecDepth 65536 in
set_option maxHeartbeats 4000000 in
theorem sg87 (K : St Z "com/example/dataset_expiry/datasetexpiry/listing/PostingsLastPinLaw" code 16 p l e room_1 s m args below meth c T h 3 8) (hw : ∀ d ∈ tables_1, d.before a0 Z = true) {xs : List Int32} (hP : PS Z h q xs 2) (hs : Srt xs) (hl : xs.length ≤ 1) (hk : ∀ T' h' xs' cap', St Z "com/example/dataset_expiry/datasetexpiry/listing/PostingsLastPinLaw" code 16 p l e room_1 s m args below meth c T' h' 4 12 → PS Z h' q xs' cap' → Srt xs' → (∀ y, y ∈ xs' ↔ (¬ u5 = 0 ∧ y = xb) ∨ y ∈ xs) → (cap' = 2 ∧ xs'.length ≤ 2 ∧ xs'.length ≤ xs.length + 1 ∨ cap' = 4 ∧ xs'.length = 3 ∧ xs.length = 2) → Run p e below P T' (mkF m 98 #[.val (.int xa), .val (.int xb), .val (.int xc), .val (.int xd), .val (.int xm), .val (.int u5), .val (.int u6), .val (.int u7), .val (.int u8), .val (.int r), .val (.ref q), .unset, .unset, .unset, .unset, .unset] [])) : Run p e below P T (mkF m 87 #[.val (.int xa), .val (.int xb), .val (.int xc), .val (.int xd), .val (.int xm), .val (.int u5), .val (.int u6), .val (.int u7), .val (.int u8), .val (.int r), .val (.ref q), .unset, .unset, .unset, .unset, .unset] []) := by
  refine r_iload (pc' := 89) K at_87 rfl rfl ?_
  refine r_if (pc1 := 92) (pc2 := 98) K at_89 rfl (by decide) (by decide) ?_ ?_
  · intro (hc : u5 = (0 : Int32))
    exact hk T h xs 2 (K.more (by decide) (by decide)) hP hs (fun y => ⟨Or.inr, fun g => g.elim (fun g => absurd hc g.1) id⟩) (Or.inl ⟨rfl, by omega, by omega⟩)
  · intro (hc : ¬ u5 = (0 : Int32))
    refine r_aload (pc' := 94) K at_92 rfl rfl rfl ?_
    refine r_iloadN (pc' := 95) K at_94 rfl rfl ?_
    refine r_virtual (pc' := 98) (argsL := [.int xb]) (rest := []) (W := 0) K (con3 l hw K.ext hP hs (by omega) (x := xb)) hP.exa (hw _ (List.mem_of_getElem? (i := 12) rfl)) (hw _ (List.mem_of_getElem? (i := 13) rfl)) (hw _ (List.mem_of_getElem? (i := 15) rfl)) (hw _ (List.mem_of_getElem? (i := 14) rfl)) (hw _ (List.mem_of_getElem? (i := 2) rfl)) (hw _ (List.mem_of_getElem? (i := 16) rfl)) (by decide) pdI rfl rfl rfl (Nat.le_refl _) (by decide) (by decide) (by decide) (by decide) at_95 rfl ?_
    rintro _ T1 h1 K1 ⟨rfl, xs', cap', hP', hs', hm, hcap⟩
    exact hk T1 h1 xs' cap' K1 hP' hs' (fun y => ⟨fun g => ((hm y).mp g).elim (fun g => Or.inl ⟨hc, g⟩) Or.inr, fun g => (hm y).mpr (g.elim (fun g => Or.inl g.2) Or.inr)⟩) (by omega)
set_option maxRecDepth 65536 in
set_option maxHeartbeats 4000000 in
theorem sg98 (K : St Z "com/example/dataset_expiry/datasetexpiry/listing/PostingsLastPinLaw" code 16 p l e room_1 s m args below meth c T h 4 12) (hw : ∀ d ∈ tables_1, d.before a0 Z = true) {xs : List Int32} (hP : PS Z h q xs 2) (hs : Srt xs) (hl : xs.length ≤ 2) (hk : ∀ T' h' xs' cap', St Z "com/example/dataset_expiry/datasetexpiry/listing/PostingsLastPinLaw" code 16 p l e room_1 s m args below meth c T' h' 5 16 → PS Z h' q xs' cap' → Srt xs' → (∀ y, y ∈ xs' ↔ (¬ u6 = 0 ∧ y = xc) ∨ y ∈ xs) → (cap' = 2 ∧ xs'.length ≤ 2 ∧ xs'.length ≤ xs.length + 1 ∨ cap' = 4 ∧ xs'.length = 3 ∧ xs.length = 2) → Run p e below P T' (mkF m 109 #[.val (.int xa), .val (.int xb), .val (.int xc), .val (.int xd), .val (.int xm), .val (.int u5), .val (.int u6), .val (.int u7), .val (.int u8), .val (.int r), .val (.ref q), .unset, .unset, .unset, .unset, .unset] [])) : Run p e below P T (mkF m 98 #[.val (.int xa), .val (.int xb), .val (.int xc), .val (.int xd), .val (.int xm), .val (.int u5), .val (.int u6), .val (.int u7), .val (.int u8), .val (.int r), .val (.ref q), .unset, .unset, .unset, .unset, .unset] []) := by
  refine r_iload (pc' := 100) K at_98 rfl rfl ?_
  refine r_if (pc1 := 103) (pc2 := 109) K at_100 rfl (by decide) (by decide) ?_ ?_
  · intro (hc : u6 = (0 : Int32))
    exact hk T h xs 2 (K.more (by decide) (by decide)) hP hs (fun y => ⟨Or.inr, fun g => g.elim (fun g => absurd hc g.1) id⟩) (Or.inl ⟨rfl, by omega, by omega⟩)
  · intro (hc : ¬ u6 = (0 : Int32))
    refine r_aload (pc' := 105) K at_103 rfl rfl rfl ?_
    refine r_iloadN (pc' := 106) K at_105 rfl rfl ?_
    refine r_virtual (pc' := 109) (argsL := [.int xc]) (rest := []) (W := 0) K (con3 l hw K.ext hP hs (by omega) (x := xc)) hP.exa (hw _ (List.mem_of_getElem? (i := 12) rfl)) (hw _ (List.mem_of_getElem? (i := 13) rfl)) (hw _ (List.mem_of_getElem? (i := 15) rfl)) (hw _ (List.mem_of_getElem? (i := 14) rfl)) (hw _ (List.mem_of_getElem? (i := 2) rfl)) (hw _ (List.mem_of_getElem? (i := 16) rfl)) (by decide) pdI rfl rfl rfl (Nat.le_refl _) (by decide) (by decide) (by decide) (by decide) at_106 rfl ?_
    rintro _ T1 h1 K1 ⟨rfl, xs', cap', hP', hs', hm, hcap⟩
    exact hk T1 h1 xs' cap' K1 hP' hs' (fun y => ⟨fun g => ((hm y).mp g).elim (fun g => Or.inl ⟨hc, g⟩) Or.inr, fun g => (hm y).mpr (g.elim (fun g => Or.inl g.2) Or.inr)⟩) (by omega)
set_option maxRecDepth 65536 in
set_option maxHeartbeats 4000000 in
theorem sg109 (K : St Z "com/example/dataset_expiry/datasetexpiry/listing/PostingsLastPinLaw" code 16 p l e room_1 s m args below meth c T h 5 16) (hw : ∀ d ∈ tables_1, d.before a0 Z = true) {xs : List Int32} {cap : Nat} (hP : PS Z h q xs cap) (hs : Srt xs) (hcap : cap = 2 ∧ xs.length ≤ 2 ∨ cap = 4 ∧ xs.length = 3) (hk : ∀ T' h' xs' cap', St Z "com/example/dataset_expiry/datasetexpiry/listing/PostingsLastPinLaw" code 16 p l e room_1 s m args below meth c T' h' 5 16 → PS Z h' q xs' cap' → cap' ≤ 255 → Srt xs' → (∀ y, y ∈ xs' ↔ y ∈ xs ∧ ¬ (¬ u8 = 0 ∧ y = r)) → Run p e below P T' (mkF m 121 #[.val (.int xa), .val (.int xb), .val (.int xc), .val (.int xd), .val (.int xm), .val (.int u5), .val (.int u6), .val (.int u7), .val (.int u8), .val (.int r), .val (.ref q), .unset, .unset, .unset, .unset, .unset] [])) : Run p e below P T (mkF m 109 #[.val (.int xa), .val (.int xb), .val (.int xc), .val (.int xd), .val (.int xm), .val (.int u5), .val (.int u6), .val (.int u7), .val (.int u8), .val (.int r), .val (.ref q), .unset, .unset, .unset, .unset, .unset] []) := by
  refine r_iload (pc' := 111) K at_109 rfl rfl ?_
  refine r_if (pc1 := 114) (pc2 := 121) K at_111 rfl (by decide) (by decide) ?_ ?_
  · intro (hc : u8 = (0 : Int32))
    exact hk T h xs cap K hP (by omega) hs (fun y => ⟨fun g => ⟨g, fun k => k.1 hc⟩, fun g => g.1⟩)
  · intro (hc : ¬ u8 = (0 : Int32))
    refine r_aload (pc' := 116) K at_114 rfl rfl rfl ?_
    refine r_iload (pc' := 118) K at_116 rfl rfl ?_
    refine r_virtual (pc' := 121) (argsL := [.int r]) (rest := []) (W := 0) K (con9 l hw K.ext hP hs hcap (x := r)) hP.exa (hw _ (List.mem_of_getElem? (i := 43) rfl)) (hw _ (List.mem_of_getElem? (i := 44) rfl)) (hw _ (List.mem_of_getElem? (i := 46) rfl)) (hw _ (List.mem_of_getElem? (i := 45) rfl)) (hw _ (List.mem_of_getElem? (i := 2) rfl)) (hw _ (List.mem_of_getElem? (i := 47) rfl)) (by decide) pdI rfl rfl rfl (Nat.le_refl _) (by decide) (by decide) (by decide) (by decide) at_118 rfl ?_
    rintro _ T1 h1 K1 ⟨rfl, xs', cap', hP', hcap', hs', hm⟩
    exact hk T1 h1 xs' cap' K1 hP' hcap' hs' (fun y => ⟨fun g => ⟨((hm y).mp g).1, fun k => ((hm y).mp g).2 k.2⟩, fun g => (hm y).mpr ⟨g.1, fun k => g.2 ⟨hc, k⟩⟩⟩)
set_option maxRecDepth 65536 in
set_option maxHeartbeats 4000000 in
theorem sg121 (K : St Z "com/example/dataset_expiry/datasetexpiry/listing/PostingsLastPinLaw" code 16 p l e R s m args below meth c T h cells slots)  (hk : ∀ u11 : Int32, (u11 = 0 ∧ (¬ u8 = 0 ∧ xa = r) ∨ u11 = 1 ∧ ¬ (¬ u8 = 0 ∧ xa = r)) → Run p e below P T (mkF m 139 #[.val (.int xa), .val (.int xb), .val (.int xc), .val (.int xd), .val (.int xm), .val (.int u5), .val (.int u6), .val (.int u7), .val (.int u8), .val (.int r), .val (.ref q), .val (.int u11), .unset, .unset, .unset, .unset] [])) : Run p e below P T (mkF m 121 #[.val (.int xa), .val (.int xb), .val (.int xc), .val (.int xd), .val (.int xm), .val (.int u5), .val (.int u6), .val (.int u7), .val (.int u8), .val (.int r), .val (.ref q), .unset, .unset, .unset, .unset, .unset] []) := by
  refine r_iload (pc' := 123) K at_121 rfl rfl ?_
  refine r_if (pc1 := 126) (pc2 := 132) K at_123 rfl (by decide) (by decide) ?_ ?_
  · intro (hc : u8 = (0 : Int32))
    refine r_iconst (v := (1 : Int32)) (pc' := 133) K at_132 rfl (by decide) ?_
    refine r_goto (pc' := 137) K at_133 (by decide) (by decide) ?_
    refine r_istore (Ls' := #[.val (.int xa), .val (.int xb), .val (.int xc), .val (.int xd), .val (.int xm), .val (.int u5), .val (.int u6), .val (.int u7), .val (.int u8), .val (.int r), .val (.ref q), .val (.int (1 : Int32)), .unset, .unset, .unset, .unset]) (pc' := 139) K at_137 rfl rfl ?_
    exact hk _ (Or.inr ⟨rfl, fun g => g.1 hc⟩)
  · intro (hc : ¬ u8 = (0 : Int32))
    refine r_iloadN (pc' := 127) K at_126 rfl rfl ?_
    refine r_iload (pc' := 129) K at_127 rfl rfl ?_
    refine r_icmp (pc1 := 132) (pc2 := 136) K at_129 rfl (by decide) (by decide) ?_ ?_
    · intro (hc2 : xa = r)
      refine r_iconst (v := (0 : Int32)) (pc' := 137) K at_136 rfl (by decide) ?_
      refine r_istore (Ls' := #[.val (.int xa), .val (.int xb), .val (.int xc), .val (.int xd), .val (.int xm), .val (.int u5), .val (.int u6), .val (.int u7), .val (.int u8), .val (.int r), .val (.ref q), .val (.int (0 : Int32)), .unset, .unset, .unset, .unset]) (pc' := 139) K at_137 rfl rfl ?_
      exact hk _ (Or.inl ⟨rfl, hc, hc2⟩)
    · intro (hc2 : ¬ xa = r)
      refine r_iconst (v := (1 : Int32)) (pc' := 133) K at_132 rfl (by decide) ?_
      refine r_goto (pc' := 137) K at_133 (by decide) (by decide) ?_
      refine r_istore (Ls' := #[.val (.int xa), .val (.int xb), .val (.int xc), .val (.int xd), .val (.int xm), .val (.int u5), .val (.int u6), .val (.int u7), .val (.int u8), .val (.int r), .val (.ref q), .val (.int (1 : Int32)), .unset, .unset, .unset, .unset]) (pc' := 139) K at_137 rfl rfl ?_
      exact hk _ (Or.inr ⟨rfl, fun g => hc2 g.2⟩)
set_option maxRecDepth 65536 in
set_option maxHeartbeats 4000000 in
theorem sg139 (K : St Z "com/example/dataset_expiry/datasetexpiry/listing/PostingsLastPinLaw" code 16 p l e R s m args below meth c T h cells slots)  (hk : ∀ u12 : Int32, (u12 = 0 ∧ ¬ (¬ u5 = 0 ∧ ¬ (¬ u8 = 0 ∧ xb = r)) ∨ u12 = 1 ∧ (¬ u5 = 0 ∧ ¬ (¬ u8 = 0 ∧ xb = r))) → Run p e below P T (mkF m 162 #[.val (.int xa), .val (.int xb), .val (.int xc), .val (.int xd), .val (.int xm), .val (.int u5), .val (.int u6), .val (.int u7), .val (.int u8), .val (.int r), .val (.ref q), .val (.int u11), .val (.int u12), .unset, .unset, .unset] [])) : Run p e below P T (mkF m 139 #[.val (.int xa), .val (.int xb), .val (.int xc), .val (.int xd), .val (.int xm), .val (.int u5), .val (.int u6), .val (.int u7), .val (.int u8), .val (.int r), .val (.ref q), .val (.int u11), .unset, .unset, .unset, .unset] []) := by
  refine r_iload (pc' := 141) K at_139 rfl rfl ?_
  refine r_if (pc1 := 144) (pc2 := 159) K at_141 rfl (by decide) (by decide) ?_ ?_
  · intro (hc : u5 = (0 : Int32))
    refine r_iconst (v := (0 : Int32)) (pc' := 160) K at_159 rfl (by decide) ?_
    refine r_istore (Ls' := #[.val (.int xa), .val (.int xb), .val (.int xc), .val (.int xd), .val (.int xm), .val (.int u5), .val (.int u6), .val (.int u7), .val (.int u8), .val (.int r), .val (.ref q), .val (.int u11), .val (.int (0 : Int32)), .unset, .unset, .unset]) (pc' := 162) K at_160 rfl rfl ?_
    exact hk _ (Or.inl ⟨rfl, fun g => g.1 hc⟩)
  · intro (hc : ¬ u5 = (0 : Int32))
    refine r_iload (pc' := 146) K at_144 rfl rfl ?_
    refine r_if (pc1 := 149) (pc2 := 155) K at_146 rfl (by decide) (by decide) ?_ ?_
    · intro (hc2 : u8 = (0 : Int32))
      refine r_iconst (v := (1 : Int32)) (pc' := 156) K at_155 rfl (by decide) ?_
      refine r_goto (pc' := 160) K at_156 (by decide) (by decide) ?_
      refine r_istore (Ls' := #[.val (.int xa), .val (.int xb), .val (.int xc), .val (.int xd), .val (.int xm), .val (.int u5), .val (.int u6), .val (.int u7), .val (.int u8), .val (.int r), .val (.ref q), .val (.int u11), .val (.int (1 : Int32)), .unset, .unset, .unset]) (pc' := 162) K at_160 rfl rfl ?_
      exact hk _ (Or.inr ⟨rfl, hc, fun g => g.1 hc2⟩)
    · intro (hc2 : ¬ u8 = (0 : Int32))
      refine r_iloadN (pc' := 150) K at_149 rfl rfl ?_
      refine r_iload (pc' := 152) K at_150 rfl rfl ?_
      refine r_icmp (pc1 := 155) (pc2 := 159) K at_152 rfl (by decide) (by decide) ?_ ?_
      · intro (hc3 : xb = r)
        refine r_iconst (v := (0 : Int32)) (pc' := 160) K at_159 rfl (by decide) ?_
        refine r_istore (Ls' := #[.val (.int xa), .val (.int xb), .val (.int xc), .val (.int xd), .val (.int xm), .val (.int u5), .val (.int u6), .val (.int u7), .val (.int u8), .val (.int r), .val (.ref q), .val (.int u11), .val (.int (0 : Int32)), .unset, .unset, .unset]) (pc' := 162) K at_160 rfl rfl ?_
        exact hk _ (Or.inl ⟨rfl, fun g => g.2 ⟨hc2, hc3⟩⟩)
      · intro (hc3 : ¬ xb = r)
        refine r_iconst (v := (1 : Int32)) (pc' := 156) K at_155 rfl (by decide) ?_
        refine r_goto (pc' := 160) K at_156 (by decide) (by decide) ?_
        refine r_istore (Ls' := #[.val (.int xa), .val (.int xb), .val (.int xc), .val (.int xd), .val (.int xm), .val (.int u5), .val (.int u6), .val (.int u7), .val (.int u8), .val (.int r), .val (.ref q), .val (.int u11), .val (.int (1 : Int32)), .unset, .unset, .unset]) (pc' := 162) K at_160 rfl rfl ?_
        exact hk _ (Or.inr ⟨rfl, hc, fun g => hc3 g.2⟩)
set_option maxRecDepth 65536 in
set_option maxHeartbeats 4000000 in
theorem sg162 (K : St Z "com/example/dataset_expiry/datasetexpiry/listing/PostingsLastPinLaw" code 16 p l e R s m args below meth c T h cells slots)  (hk : ∀ u13 : Int32, (u13 = 0 ∧ ¬ (¬ u6 = 0 ∧ ¬ (¬ u8 = 0 ∧ xc = r)) ∨ u13 = 1 ∧ (¬ u6 = 0 ∧ ¬ (¬ u8 = 0 ∧ xc = r))) → Run p e below P T (mkF m 185 #[.val (.int xa), .val (.int xb), .val (.int xc), .val (.int xd), .val (.int xm), .val (.int u5), .val (.int u6), .val (.int u7), .val (.int u8), .val (.int r), .val (.ref q), .val (.int u11), .val (.int u12), .val (.int u13), .unset, .unset] [])) : Run p e below P T (mkF m 162 #[.val (.int xa), .val (.int xb), .val (.int xc), .val (.int xd), .val (.int xm), .val (.int u5), .val (.int u6), .val (.int u7), .val (.int u8), .val (.int r), .val (.ref q), .val (.int u11), .val (.int u12), .unset, .unset, .unset] []) := by
  refine r_iload (pc' := 164) K at_162 rfl rfl ?_
  refine r_if (pc1 := 167) (pc2 := 182) K at_164 rfl (by decide) (by decide) ?_ ?_
  · intro (hc : u6 = (0 : Int32))
    refine r_iconst (v := (0 : Int32)) (pc' := 183) K at_182 rfl (by decide) ?_
    refine r_istore (Ls' := #[.val (.int xa), .val (.int xb), .val (.int xc), .val (.int xd), .val (.int xm), .val (.int u5), .val (.int u6), .val (.int u7), .val (.int u8), .val (.int r), .val (.ref q), .val (.int u11), .val (.int u12), .val (.int (0 : Int32)), .unset, .unset]) (pc' := 185) K at_183 rfl rfl ?_
    exact hk _ (Or.inl ⟨rfl, fun g => g.1 hc⟩)
  · intro (hc : ¬ u6 = (0 : Int32))
    refine r_iload (pc' := 169) K at_167 rfl rfl ?_
    refine r_if (pc1 := 172) (pc2 := 178) K at_169 rfl (by decide) (by decide) ?_ ?_
    · intro (hc2 : u8 = (0 : Int32))
      refine r_iconst (v := (1 : Int32)) (pc' := 179) K at_178 rfl (by decide) ?_
      refine r_goto (pc' := 183) K at_179 (by decide) (by decide) ?_
      refine r_istore (Ls' := #[.val (.int xa), .val (.int xb), .val (.int xc), .val (.int xd), .val (.int xm), .val (.int u5), .val (.int u6), .val (.int u7), .val (.int u8), .val (.int r), .val (.ref q), .val (.int u11), .val (.int u12), .val (.int (1 : Int32)), .unset, .unset]) (pc' := 185) K at_183 rfl rfl ?_
      exact hk _ (Or.inr ⟨rfl, hc, fun g => g.1 hc2⟩)
    · intro (hc2 : ¬ u8 = (0 : Int32))
      refine r_iloadN (pc' := 173) K at_172 rfl rfl ?_
      refine r_iload (pc' := 175) K at_173 rfl rfl ?_
      refine r_icmp (pc1 := 178) (pc2 := 182) K at_175 rfl (by decide) (by decide) ?_ ?_
      · intro (hc3 : xc = r)
        refine r_iconst (v := (0 : Int32)) (pc' := 183) K at_182 rfl (by decide) ?_
        refine r_istore (Ls' := #[.val (.int xa), .val (.int xb), .val (.int xc), .val (.int xd), .val (.int xm), .val (.int u5), .val (.int u6), .val (.int u7), .val (.int u8), .val (.int r), .val (.ref q), .val (.int u11), .val (.int u12), .val (.int (0 : Int32)), .unset, .unset]) (pc' := 185) K at_183 rfl rfl ?_
        exact hk _ (Or.inl ⟨rfl, fun g => g.2 ⟨hc2, hc3⟩⟩)
      · intro (hc3 : ¬ xc = r)
        refine r_iconst (v := (1 : Int32)) (pc' := 179) K at_178 rfl (by decide) ?_
        refine r_goto (pc' := 183) K at_179 (by decide) (by decide) ?_
        refine r_istore (Ls' := #[.val (.int xa), .val (.int xb), .val (.int xc), .val (.int xd), .val (.int xm), .val (.int u5), .val (.int u6), .val (.int u7), .val (.int u8), .val (.int r), .val (.ref q), .val (.int u11), .val (.int u12), .val (.int (1 : Int32)), .unset, .unset]) (pc' := 185) K at_183 rfl rfl ?_
        exact hk _ (Or.inr ⟨rfl, hc, fun g => hc3 g.2⟩)
/-- any: whether there is one; best: the greatest of them -/
def Bst (M : Int32 → Prop) (any best : Int32) : Prop := (any = 0 ∧ ∀ y, ¬ M y) ∨ (any = 1 ∧ M best ∧ ∀ y, M y → ¬ best < y)
set_option maxRecDepth 65536 in
set_option maxHeartbeats 4000000 in
theorem sg185 (K : St Z "com/example/dataset_expiry/datasetexpiry/listing/PostingsLastPinLaw" code 16 p l e R s m args below meth c T h cells slots)  (hk : ∀ any best : Int32, Bst (fun y => ¬ u11 = 0 ∧ y = xa) any best → Run p e below P T (mkF m 202 #[.val (.int xa), .val (.int xb), .val (.int xc), .val (.int xd), .val (.int xm), .val (.int u5), .val (.int u6), .val (.int u7), .val (.int u8), .val (.int r), .val (.ref q), .val (.int u11), .val (.int u12), .val (.int u13), .val (.int any), .val (.int best)] [])) : Run p e below P T (mkF m 185 #[.val (.int xa), .val (.int xb), .val (.int xc), .val (.int xd), .val (.int xm), .val (.int u5), .val (.int u6), .val (.int u7), .val (.int u8), .val (.int r), .val (.ref q), .val (.int u11), .val (.int u12), .val (.int u13), .unset, .unset] []) := by
  refine r_iconst (v := (0 : Int32)) (pc' := 186) K at_185 rfl (by decide) ?_
  refine r_istore (Ls' := #[.val (.int xa), .val (.int xb), .val (.int xc), .val (.int xd), .val (.int xm), .val (.int u5), .val (.int u6), .val (.int u7), .val (.int u8), .val (.int r), .val (.ref q), .val (.int u11), .val (.int u12), .val (.int u13), .val (.int (0 : Int32)), .unset]) (pc' := 188) K at_186 rfl rfl ?_
  refine r_iconst (v := (0 : Int32)) (pc' := 189) K at_188 rfl (by decide) ?_
  refine r_istore (Ls' := #[.val (.int xa), .val (.int xb), .val (.int xc), .val (.int xd), .val (.int xm), .val (.int u5), .val (.int u6), .val (.int u7), .val (.int u8), .val (.int r), .val (.ref q), .val (.int u11), .val (.int u12), .val (.int u13), .val (.int (0 : Int32)), .val (.int (0 : Int32))]) (pc' := 191) K at_189 rfl rfl ?_
  refine r_iload (pc' := 193) K at_191 rfl rfl ?_
  refine r_if (pc1 := 196) (pc2 := 202) K at_193 rfl (by decide) (by decide) ?_ ?_
  · intro (hc : u11 = (0 : Int32))
    exact hk _ _ (Or.inl ⟨rfl, fun y g => g.1 hc⟩)
  · intro (hc : ¬ u11 = (0 : Int32))
    refine r_iloadN (pc' := 197) K at_196 rfl rfl ?_
    refine r_istore (Ls' := #[.val (.int xa), .val (.int xb), .val (.int xc), .val (.int xd), .val (.int xm), .val (.int u5), .val (.int u6), .val (.int u7), .val (.int u8), .val (.int r), .val (.ref q), .val (.int u11), .val (.int u12), .val (.int u13), .val (.int (0 : Int32)), .val (.int xa)]) (pc' := 199) K at_197 rfl rfl ?_
    refine r_iconst (v := (1 : Int32)) (pc' := 200) K at_199 rfl (by decide) ?_
    refine r_istore (Ls' := #[.val (.int xa), .val (.int xb), .val (.int xc), .val (.int xd), .val (.int xm), .val (.int u5), .val (.int u6), .val (.int u7), .val (.int u8), .val (.int r), .val (.ref q), .val (.int u11), .val (.int u12), .val (.int u13), .val (.int (1 : Int32)), .val (.int xa)]) (pc' := 202) K at_200 rfl rfl ?_
    exact hk _ _ (Or.inr ⟨rfl, ⟨hc, rfl⟩, fun y g => by rw [g.2]; exact Int32.lt_irrefl⟩)
set_option maxRecDepth 65536 in
set_option maxHeartbeats 4000000 in
theorem sg202 (K : St Z "com/example/dataset_expiry/datasetexpiry/listing/PostingsLastPinLaw" code 16 p l e R s m args below meth c T h cells slots) {M : Int32 → Prop} (hB : Bst M any best) (hk : ∀ any best : Int32, Bst (fun y => M y ∨ ¬ u12 = 0 ∧ y = xb) any best → Run p e below P T (mkF m 224 #[.val (.int xa), .val (.int xb), .val (.int xc), .val (.int xd), .val (.int xm), .val (.int u5), .val (.int u6), .val (.int u7), .val (.int u8), .val (.int r), .val (.ref q), .val (.int u11), .val (.int u12), .val (.int u13), .val (.int any), .val (.int best)] [])) : Run p e below P T (mkF m 202 #[.val (.int xa), .val (.int xb), .val (.int xc), .val (.int xd), .val (.int xm), .val (.int u5), .val (.int u6), .val (.int u7), .val (.int u8), .val (.int r), .val (.ref q), .val (.int u11), .val (.int u12), .val (.int u13), .val (.int any), .val (.int best)] []) := by
  refine r_iload (pc' := 204) K at_202 rfl rfl ?_
  refine r_if (pc1 := 207) (pc2 := 224) K at_204 rfl (by decide) (by decide) ?_ ?_
  · intro (hc : u12 = (0 : Int32))
    refine hk _ _ ?_
    rcases hB with ⟨g1, g2⟩ | ⟨g1, g2, g3⟩
    · exact Or.inl ⟨g1, fun y g => g.elim (g2 y) (fun g => g.1 hc)⟩
    · exact Or.inr ⟨g1, Or.inl g2, fun y g => g.elim (g3 y) (fun g => absurd hc g.1)⟩
  · intro (hc : ¬ u12 = (0 : Int32))
    refine r_iload (pc' := 209) K at_207 rfl rfl ?_
    refine r_if (pc1 := 212) (pc2 := 218) K at_209 rfl (by decide) (by decide) ?_ ?_
    · intro (hc2 : any = (0 : Int32))
      refine r_iloadN (pc' := 219) K at_218 rfl rfl ?_
      refine r_istore (Ls' := #[.val (.int xa), .val (.int xb), .val (.int xc), .val (.int xd), .val (.int xm), .val (.int u5), .val (.int u6), .val (.int u7), .val (.int u8), .val (.int r), .val (.ref q), .val (.int u11), .val (.int u12), .val (.int u13), .val (.int any), .val (.int xb)]) (pc' := 221) K at_219 rfl rfl ?_
      refine r_iconst (v := (1 : Int32)) (pc' := 222) K at_221 rfl (by decide) ?_
      refine r_istore (Ls' := #[.val (.int xa), .val (.int xb), .val (.int xc), .val (.int xd), .val (.int xm), .val (.int u5), .val (.int u6), .val (.int u7), .val (.int u8), .val (.int r), .val (.ref q), .val (.int u11), .val (.int u12), .val (.int u13), .val (.int (1 : Int32)), .val (.int xb)]) (pc' := 224) K at_222 rfl rfl ?_
      refine hk _ _ ?_
      rcases hB with ⟨g1, g2⟩ | ⟨g1, g2, g3⟩
      · exact Or.inr ⟨rfl, Or.inr ⟨hc, rfl⟩, fun y g => g.elim (fun g => absurd g (g2 y)) (fun g => by rw [g.2]; exact Int32.lt_irrefl)⟩
      · rw [g1] at hc2; exact absurd hc2 (by decide)
    · intro (hc2 : ¬ any = (0 : Int32))
      refine r_iloadN (pc' := 213) K at_212 rfl rfl ?_
      refine r_iload (pc' := 215) K at_213 rfl rfl ?_
      refine r_icmp (pc1 := 218) (pc2 := 221) K at_215 rfl (by decide) (by decide) ?_ ?_
      · intro (hc3 : ¬ best < xb)
        refine r_iconst (v := (1 : Int32)) (pc' := 222) K at_221 rfl (by decide) ?_
        refine r_istore (Ls' := #[.val (.int xa), .val (.int xb), .val (.int xc), .val (.int xd), .val (.int xm), .val (.int u5), .val (.int u6), .val (.int u7), .val (.int u8), .val (.int r), .val (.ref q), .val (.int u11), .val (.int u12), .val (.int u13), .val (.int (1 : Int32)), .val (.int best)]) (pc' := 224) K at_222 rfl rfl ?_
        refine hk _ _ ?_
        rcases hB with ⟨g1, g2⟩ | ⟨g1, g2, g3⟩
        · exact absurd g1 hc2
        · exact Or.inr ⟨rfl, Or.inl g2, fun y g => g.elim (g3 y) (fun g => by rw [g.2]; exact hc3)⟩
      · intro (hc3 : best < xb)
        refine r_iloadN (pc' := 219) K at_218 rfl rfl ?_
        refine r_istore (Ls' := #[.val (.int xa), .val (.int xb), .val (.int xc), .val (.int xd), .val (.int xm), .val (.int u5), .val (.int u6), .val (.int u7), .val (.int u8), .val (.int r), .val (.ref q), .val (.int u11), .val (.int u12), .val (.int u13), .val (.int any), .val (.int xb)]) (pc' := 221) K at_219 rfl rfl ?_
        refine r_iconst (v := (1 : Int32)) (pc' := 222) K at_221 rfl (by decide) ?_
        refine r_istore (Ls' := #[.val (.int xa), .val (.int xb), .val (.int xc), .val (.int xd), .val (.int xm), .val (.int u5), .val (.int u6), .val (.int u7), .val (.int u8), .val (.int r), .val (.ref q), .val (.int u11), .val (.int u12), .val (.int u13), .val (.int (1 : Int32)), .val (.int xb)]) (pc' := 224) K at_222 rfl rfl ?_
        refine hk _ _ ?_
        rcases hB with ⟨g1, g2⟩ | ⟨g1, g2, g3⟩
        · exact absurd g1 hc2
        · exact Or.inr ⟨rfl, Or.inr ⟨hc, rfl⟩, fun y g => g.elim (fun g k => g3 y g (Int32.lt_trans hc3 k)) (fun g => by rw [g.2]; exact Int32.lt_irrefl)⟩
set_option maxRecDepth 65536 in
set_option maxHeartbeats 4000000 in
theorem sg224 (K : St Z "com/example/dataset_expiry/datasetexpiry/listing/PostingsLastPinLaw" code 16 p l e R s m args below meth c T h cells slots) {M : Int32 → Prop} (hB : Bst M any best) (hk : ∀ any best : Int32, Bst (fun y => M y ∨ ¬ u13 = 0 ∧ y = xc) any best → Run p e below P T (mkF m 246 #[.val (.int xa), .val (.int xb), .val (.int xc), .val (.int xd), .val (.int xm), .val (.int u5), .val (.int u6), .val (.int u7), .val (.int u8), .val (.int r), .val (.ref q), .val (.int u11), .val (.int u12), .val (.int u13), .val (.int any), .val (.int best)] [])) : Run p e below P T (mkF m 224 #[.val (.int xa), .val (.int xb), .val (.int xc), .val (.int xd), .val (.int xm), .val (.int u5), .val (.int u6), .val (.int u7), .val (.int u8), .val (.int r), .val (.ref q), .val (.int u11), .val (.int u12), .val (.int u13), .val (.int any), .val (.int best)] []) := by
  refine r_iload (pc' := 226) K at_224 rfl rfl ?_
  refine r_if (pc1 := 229) (pc2 := 246) K at_226 rfl (by decide) (by decide) ?_ ?_
  · intro (hc : u13 = (0 : Int32))
    refine hk _ _ ?_
    rcases hB with ⟨g1, g2⟩ | ⟨g1, g2, g3⟩
    · exact Or.inl ⟨g1, fun y g => g.elim (g2 y) (fun g => g.1 hc)⟩
    · exact Or.inr ⟨g1, Or.inl g2, fun y g => g.elim (g3 y) (fun g => absurd hc g.1)⟩
  · intro (hc : ¬ u13 = (0 : Int32))
    refine r_iload (pc' := 231) K at_229 rfl rfl ?_
    refine r_if (pc1 := 234) (pc2 := 240) K at_231 rfl (by decide) (by decide) ?_ ?_
    · intro (hc2 : any = (0 : Int32))
      refine r_iloadN (pc' := 241) K at_240 rfl rfl ?_
      refine r_istore (Ls' := #[.val (.int xa), .val (.int xb), .val (.int xc), .val (.int xd), .val (.int xm), .val (.int u5), .val (.int u6), .val (.int u7), .val (.int u8), .val (.int r), .val (.ref q), .val (.int u11), .val (.int u12), .val (.int u13), .val (.int any), .val (.int xc)]) (pc' := 243) K at_241 rfl rfl ?_
      refine r_iconst (v := (1 : Int32)) (pc' := 244) K at_243 rfl (by decide) ?_
      refine r_istore (Ls' := #[.val (.int xa), .val (.int xb), .val (.int xc), .val (.int xd), .val (.int xm), .val (.int u5), .val (.int u6), .val (.int u7), .val (.int u8), .val (.int r), .val (.ref q), .val (.int u11), .val (.int u12), .val (.int u13), .val (.int (1 : Int32)), .val (.int xc)]) (pc' := 246) K at_244 rfl rfl ?_
      refine hk _ _ ?_
      rcases hB with ⟨g1, g2⟩ | ⟨g1, g2, g3⟩
      · exact Or.inr ⟨rfl, Or.inr ⟨hc, rfl⟩, fun y g => g.elim (fun g => absurd g (g2 y)) (fun g => by rw [g.2]; exact Int32.lt_irrefl)⟩
      · rw [g1] at hc2; exact absurd hc2 (by decide)
    · intro (hc2 : ¬ any = (0 : Int32))
      refine r_iloadN (pc' := 235) K at_234 rfl rfl ?_
      refine r_iload (pc' := 237) K at_235 rfl rfl ?_
      refine r_icmp (pc1 := 240) (pc2 := 243) K at_237 rfl (by decide) (by decide) ?_ ?_
      · intro (hc3 : ¬ best < xc)
        refine r_iconst (v := (1 : Int32)) (pc' := 244) K at_243 rfl (by decide) ?_
        refine r_istore (Ls' := #[.val (.int xa), .val (.int xb), .val (.int xc), .val (.int xd), .val (.int xm), .val (.int u5), .val (.int u6), .val (.int u7), .val (.int u8), .val (.int r), .val (.ref q), .val (.int u11), .val (.int u12), .val (.int u13), .val (.int (1 : Int32)), .val (.int best)]) (pc' := 246) K at_244 rfl rfl ?_
        refine hk _ _ ?_
        rcases hB with ⟨g1, g2⟩ | ⟨g1, g2, g3⟩
        · exact absurd g1 hc2
        · exact Or.inr ⟨rfl, Or.inl g2, fun y g => g.elim (g3 y) (fun g => by rw [g.2]; exact hc3)⟩
      · intro (hc3 : best < xc)
        refine r_iloadN (pc' := 241) K at_240 rfl rfl ?_
        refine r_istore (Ls' := #[.val (.int xa), .val (.int xb), .val (.int xc), .val (.int xd), .val (.int xm), .val (.int u5), .val (.int u6), .val (.int u7), .val (.int u8), .val (.int r), .val (.ref q), .val (.int u11), .val (.int u12), .val (.int u13), .val (.int any), .val (.int xc)]) (pc' := 243) K at_241 rfl rfl ?_
        refine r_iconst (v := (1 : Int32)) (pc' := 244) K at_243 rfl (by decide) ?_
        refine r_istore (Ls' := #[.val (.int xa), .val (.int xb), .val (.int xc), .val (.int xd), .val (.int xm), .val (.int u5), .val (.int u6), .val (.int u7), .val (.int u8), .val (.int r), .val (.ref q), .val (.int u11), .val (.int u12), .val (.int u13), .val (.int (1 : Int32)), .val (.int xc)]) (pc' := 246) K at_244 rfl rfl ?_
        refine hk _ _ ?_
        rcases hB with ⟨g1, g2⟩ | ⟨g1, g2, g3⟩
        · exact absurd g1 hc2
        · exact Or.inr ⟨rfl, Or.inr ⟨hc, rfl⟩, fun y g => g.elim (fun g k => g3 y g (Int32.lt_trans hc3 k)) (fun g => by rw [g.2]; exact Int32.lt_irrefl)⟩
theorem own_last {xs : List Int32} (hs : Srt xs) {M : Int32 → Prop} (hm : ∀ y, y ∈ xs ↔ M y) {best : Int32} (h1 : M best) (h2 : ∀ y, M y → ¬ best < y) : xs[xs.length - 1]? = some best := by
  obtain ⟨j, hj⟩ := List.mem_iff_getElem?.mp ((hm best).mpr h1)
  have hjl := (List.getElem?_eq_some_iff.mp hj).1
  by_cases q : j = xs.length - 1
  · rw [← q]; exact hj
  · obtain ⟨z, hz⟩ := own_get (xs := xs) (j := xs.length - 1) (by omega)
    exact absurd (hs j (xs.length - 1) best z (by omega) hj hz) (h2 z ((hm z).mp (List.mem_of_getElem? hz)))
theorem own_nil {xs : List Int32} {M : Int32 → Prop} (hm : ∀ y, y ∈ xs ↔ M y) (h : ∀ y, ¬ M y) : xs = [] := List.eq_nil_iff_forall_not_mem.mpr fun y g => h y ((hm y).mp g)
set_option maxRecDepth 65536 in
set_option maxHeartbeats 4000000 in
theorem sg246 (K : St Z "com/example/dataset_expiry/datasetexpiry/listing/PostingsLastPinLaw" code 16 p l e room_1 s m args below meth c T h 5 16) (hw : ∀ d ∈ tables_1, d.before a0 Z = true) (hret : meth.sig.returnType = some .boolean) (hlk : meth.locks = false) {xs : List Int32} {cap : Nat} {M : Int32 → Prop} (hP : PS Z h q xs cap) (hcap : cap ≤ 255) (hs : Srt xs) (hm : ∀ y, y ∈ xs ↔ M y) (hB : Bst M any best) : Run p e below (Fini Z s below 16 128 (fun v h' => v = some (.int 1))) T (mkF m 246 #[.val (.int xa), .val (.int xb), .val (.int xc), .val (.int xd), .val (.int xm), .val (.int u5), .val (.int u6), .val (.int u7), .val (.int u8), .val (.int r), .val (.ref q), .val (.int u11), .val (.int u12), .val (.int u13), .val (.int any), .val (.int best)] []) := by
  have hl : xs.length ≤ cap := by obtain ⟨_, _, ys, _, _, _, _, _, _, _, q⟩ := hP; rw [← q, List.length_append]; omega
  refine r_iload (pc' := 248) K at_246 rfl rfl ?_
  refine r_if (pc1 := 251) (pc2 := 265) K at_248 rfl (by decide) (by decide) ?_ ?_
  · intro (hc : ¬ any = (0 : Int32))
    rcases hB with ⟨g1, g2⟩ | ⟨g1, g2, g3⟩
    · exact absurd g1 hc
    have hz := own_last hs hm g2 g3
    have hpos : 0 < xs.length := Nat.lt_of_le_of_lt (Nat.zero_le _) (List.getElem?_eq_some_iff.mp hz).1
    refine r_aload (pc' := 267) K at_265 rfl rfl rfl ?_
    refine r_virtual (pc' := 270) (argsL := []) (rest := []) (W := 0) K (con7 l hw K.ext hP) hP.exa (hw _ (List.mem_of_getElem? (i := 33) rfl)) (hw _ (List.mem_of_getElem? (i := 34) rfl)) (hw _ (List.mem_of_getElem? (i := 36) rfl)) (hw _ (List.mem_of_getElem? (i := 35) rfl)) (hw _ (List.mem_of_getElem? (i := 2) rfl)) (hw _ (List.mem_of_getElem? (i := 37) rfl)) (by decide) pdG rfl rfl rfl (Nat.le_refl _) (by decide) (by decide) (by decide) (by decide) at_267 rfl ?_
    rintro _ T1 _ K1 ⟨rfl, rfl⟩
    refine r_if (pc1 := 273) (pc2 := 287) K1 at_270 rfl (by decide) (by decide) ?_ ?_
    · intro (hc2 : ¬ (0 : Int32) < (Int32.ofNat xs.length))
      exact absurd (own_lt (i := 0) hpos (by omega)) hc2
    · intro (hc2 : (0 : Int32) < (Int32.ofNat xs.length))
      refine r_aload (pc' := 275) K1 at_273 rfl rfl rfl ?_
      refine r_virtual (pc' := 278) (argsL := []) (rest := []) (W := 0) K1 (con8 l hw K.ext hP hcap hz) hP.exa (hw _ (List.mem_of_getElem? (i := 38) rfl)) (hw _ (List.mem_of_getElem? (i := 39) rfl)) (hw _ (List.mem_of_getElem? (i := 41) rfl)) (hw _ (List.mem_of_getElem? (i := 40) rfl)) (hw _ (List.mem_of_getElem? (i := 2) rfl)) (hw _ (List.mem_of_getElem? (i := 42) rfl)) (by decide) pdG rfl rfl rfl (Nat.le_refl _) (by decide) (by decide) (by decide) (by decide) at_275 rfl ?_
      rintro _ T2 _ K2 ⟨rfl, rfl⟩
      refine r_iload (pc' := 280) K2 at_278 rfl rfl ?_
      refine r_icmp (pc1 := 283) (pc2 := 287) K2 at_280 rfl (by decide) (by decide) ?_ ?_
      · intro (hc3 : ¬ best = best)
        exact absurd rfl hc3
      · intro (hc3 : best = best)
        refine r_iconst (v := (1 : Int32)) (pc' := 284) K2 at_283 rfl (by decide) ?_
        refine r_goto (pc' := 288) K2 at_284 (by decide) (by decide) ?_
        exact r_retZ K2 hret hlk rfl at_288 (by decide) (by decide) rfl
  · intro (hc : any = (0 : Int32))
    rcases hB with ⟨g1, g2⟩ | ⟨g1, g2, g3⟩
    case inr => rw [g1] at hc; exact absurd hc (by decide)
    have hz := own_nil hm g2
    subst hz
    refine r_aload (pc' := 253) K at_251 rfl rfl rfl ?_
    refine r_virtual (pc' := 256) (argsL := []) (rest := []) (W := 0) K (con7 l hw K.ext hP) hP.exa (hw _ (List.mem_of_getElem? (i := 33) rfl)) (hw _ (List.mem_of_getElem? (i := 34) rfl)) (hw _ (List.mem_of_getElem? (i := 36) rfl)) (hw _ (List.mem_of_getElem? (i := 35) rfl)) (hw _ (List.mem_of_getElem? (i := 2) rfl)) (hw _ (List.mem_of_getElem? (i := 37) rfl)) (by decide) pdG rfl rfl rfl (Nat.le_refl _) (by decide) (by decide) (by decide) (by decide) at_253 rfl ?_
    rintro _ T1 _ K1 ⟨rfl, rfl⟩
    refine r_if (pc1 := 259) (pc2 := 263) K1 at_256 rfl (by decide) (by decide) ?_ ?_
    · intro (hc2 : ¬ (Int32.ofNat 0) = (0 : Int32))
      exact absurd rfl hc2
    · intro (hc2 : (Int32.ofNat 0) = (0 : Int32))
      refine r_iconst (v := (1 : Int32)) (pc' := 260) K1 at_259 rfl (by decide) ?_
      refine r_goto (pc' := 264) K1 at_260 (by decide) (by decide) ?_
      exact r_retZ K1 hret hlk rfl at_264 (by decide) (by decide) rfl
theorem own_set {xa xb xc r u5 u6 u8 u11 u12 u13 : Int32} (e11 : u11 = 0 ∧ (¬ u8 = 0 ∧ xa = r) ∨ u11 = 1 ∧ ¬ (¬ u8 = 0 ∧ xa = r)) (e12 : u12 = 0 ∧ ¬ (¬ u5 = 0 ∧ ¬ (¬ u8 = 0 ∧ xb = r)) ∨ u12 = 1 ∧ (¬ u5 = 0 ∧ ¬ (¬ u8 = 0 ∧ xb = r)))
    (e13 : u13 = 0 ∧ ¬ (¬ u6 = 0 ∧ ¬ (¬ u8 = 0 ∧ xc = r)) ∨ u13 = 1 ∧ (¬ u6 = 0 ∧ ¬ (¬ u8 = 0 ∧ xc = r))) (y : Int32) (xs : List Int32) :
    (((¬ u6 = 0 ∧ y = xc) ∨ (¬ u5 = 0 ∧ y = xb) ∨ (y = xa ∨ y ∈ ([] : List Int32))) ∧ ¬ (¬ u8 = 0 ∧ y = r)) ↔ (((¬ u11 = 0 ∧ y = xa) ∨ ¬ u12 = 0 ∧ y = xb) ∨ ¬ u13 = 0 ∧ y = xc) := by
  have n1 : ¬ (1 : Int32) = 0 := by decide
  have f11 : ¬ u11 = 0 ↔ ¬ (¬ u8 = 0 ∧ xa = r) := by
    rcases e11 with ⟨q, w⟩ | ⟨q, w⟩
    · exact ⟨fun g => absurd q g, fun g => absurd w g⟩
    · exact ⟨fun _ => w, fun _ => by rw [q]; exact n1⟩
  have f12 : ¬ u12 = 0 ↔ (¬ u5 = 0 ∧ ¬ (¬ u8 = 0 ∧ xb = r)) := by
    rcases e12 with ⟨q, w⟩ | ⟨q, w⟩
    · exact ⟨fun g => absurd q g, fun g => absurd g w⟩
    · exact ⟨fun _ => w, fun _ => by rw [q]; exact n1⟩
  have f13 : ¬ u13 = 0 ↔ (¬ u6 = 0 ∧ ¬ (¬ u8 = 0 ∧ xc = r)) := by
    rcases e13 with ⟨q, w⟩ | ⟨q, w⟩
    · exact ⟨fun g => absurd q g, fun g => absurd g w⟩
    · exact ⟨fun _ => w, fun _ => by rw [q]; exact n1⟩
  rw [f11, f12, f13]
  constructor
  · rintro ⟨g | g | g | g, w⟩
    · exact Or.inr ⟨⟨g.1, g.2 ▸ w⟩, g.2⟩
    · exact Or.inl (Or.inr ⟨⟨g.1, g.2 ▸ w⟩, g.2⟩)
    · exact Or.inl (Or.inl ⟨g ▸ w, g⟩)
    · exact absurd g (by simp)
  · rintro ((⟨g, w⟩ | ⟨g, w⟩) | ⟨g, w⟩)
    · exact ⟨Or.inr (Or.inr (Or.inl w)), w ▸ g⟩
    · exact ⟨Or.inr (Or.inl ⟨g.1, w⟩), w ▸ g.2⟩
    · exact ⟨Or.inl ⟨g.1, w⟩, w ▸ g.2⟩
set_option maxRecDepth 65536 in
set_option maxHeartbeats 4000000 in
theorem con0 (l : Launch) {Z : State} {a0 : Array Value} (hw : ∀ d ∈ tables_1, d.before a0 Z = true) {h : Heap} (hE : Ext Z.heap h) {xa xb xc xd xm : Int32} :
    Con l x code maxLocals ret tables_1 room_1 Z #[.int xa, .int xb, .int xc, .int xd, .int xm] h (fun v h' => v = some (.int 1)) := by
  refine con_intro (by first | exact plainFor_of_name pnL | decide +kernel) hE ?_
  intro p e s m below meth c T K hret hlk hnm
  have K : St Z "com/example/dataset_expiry/datasetexpiry/listing/PostingsLastPinLaw" code 16 p l e room_1 s m #[.int xa, .int xb, .int xc, .int xd, .int xm] below meth c T h 0 0 := K
  have ef : entryFrame m #[.int xa, .int xb, .int xc, .int xd, .int xm] maxLocals = (mkF m 0 #[.val (.int xa), .val (.int xb), .val (.int xc), .val (.int xd), .val (.int xm), .unset, .unset, .unset, .unset, .unset, .unset, .unset, .unset, .unset, .unset, .unset] []) := by first | rfl | (simp [entryFrame, mkF, argsToLocals, Value.category]; done)
  rw [ef]
  refine sg0 K ?_
  intro u5 h5
  refine sg14 K ?_
  intro u6 h6
  refine sg29 K ?_
  intro u7 u8 h8
  refine sg49 K ?_
  intro r
  refine r_new (pc' := 75) K (hw _ (List.mem_of_getElem? (i := 0) rfl)) (hw _ (List.mem_of_getElem? (i := 1) rfl)) (hw _ (List.mem_of_getElem? (i := 2) rfl)) at_72 rfl (by decide) (by decide) ?_
  intro T1 h1 q hq K1 E1 A1 D1
  refine r_dup (pc' := 76) K1 at_75 rfl rfl ?_
  have gq : Z.heap.size ≤ q := by rw [hq]; exact K.sz
  refine r_special (pc' := 79) (argsL := []) (rest := [.ref q]) (W := 1) K1 (con1 l hw K1.ext gq A1 (D1 (Or.inl (hw _ (List.mem_of_getElem? (i := 11) rfl))) (ty := .array .int) (by decide)) (D1 (Or.inl (hw _ (List.mem_of_getElem? (i := 18) rfl))) (ty := .int) (by decide))) rfl (hw _ (List.mem_of_getElem? (i := 3) rfl)) (hw _ (List.mem_of_getElem? (i := 4) rfl)) (hw _ (List.mem_of_getElem? (i := 2) rfl)) (hw _ (List.mem_of_getElem? (i := 5) rfl)) (by decide) pdV rfl rfl rfl (Nat.le_refl _) (by decide) (by decide) (by decide) (by decide) at_76 rfl ?_
  rintro _ T2 h2 K2 ⟨rfl, hP2⟩
  refine r_astore (Ls' := #[.val (.int xa), .val (.int xb), .val (.int xc), .val (.int xd), .val (.int xm), .val (.int u5), .val (.int u6), .val (.int u7), .val (.int u8), .val (.int r), .val (.ref q), .unset, .unset, .unset, .unset, .unset]) (pc' := 81) K2 at_79 rfl rfl rfl ?_
  refine r_aload (pc' := 83) K2 at_81 rfl rfl rfl ?_
  refine r_iloadN (pc' := 84) K2 at_83 rfl rfl ?_
  refine r_virtual (pc' := 87) (argsL := [.int xa]) (rest := []) (W := 0) K2 (con3 l hw K2.ext hP2 (fun i j x y _ g => by simp at g) (Nat.zero_le _) (x := xa)) hP2.exa (hw _ (List.mem_of_getElem? (i := 12) rfl)) (hw _ (List.mem_of_getElem? (i := 13) rfl)) (hw _ (List.mem_of_getElem? (i := 15) rfl)) (hw _ (List.mem_of_getElem? (i := 14) rfl)) (hw _ (List.mem_of_getElem? (i := 2) rfl)) (hw _ (List.mem_of_getElem? (i := 16) rfl)) (by decide) pdI rfl rfl rfl (Nat.le_refl _) (by decide) (by decide) (by decide) (by decide) at_84 rfl ?_
  rintro _ T3 h3 K3 ⟨rfl, xs3, cap3, hP3, hs3, hm3, hcap3⟩
  obtain ⟨rfl, hl3⟩ : cap3 = 2 ∧ xs3.length ≤ 1 := by simp at hcap3; omega
  refine sg87 K3 hw hP3 hs3 hl3 ?_
  intro T4 h4 xs4 cap4 K4 hP4 hs4 hm4 hcap4
  obtain ⟨rfl, hl4⟩ : cap4 = 2 ∧ xs4.length ≤ 2 := by omega
  refine sg98 K4 hw hP4 hs4 hl4 ?_
  intro T5 h5' xs5 cap5 K5 hP5 hs5 hm5 hcap5
  refine sg109 K5 hw hP5 hs5 (by omega) ?_
  intro T6 h6' xs6 cap6 K6 hP6 hcap6 hs6 hm6
  refine sg121 K6 ?_
  intro u11 e11
  refine sg139 K6 ?_
  intro u12 e12
  refine sg162 K6 ?_
  intro u13 e13
  refine sg185 K6 ?_
  intro any1 best1 B1
  refine sg202 K6 B1 ?_
  intro any2 best2 B2
  refine sg224 K6 B2 ?_
  intro any3 best3 B3
  refine sg246 K6 hw hret hlk hP6 hcap6 hs6 (fun y => ?_) B3
  rw [hm6, hm5, hm4, hm3]
  exact own_set e11 e12 e13 y xs3
end Own
set_option maxRecDepth 65536 in
set_option maxHeartbeats 4000000 in
theorem comes_1 {Post : Tables → Env → Array Value → State → Outcome → State → Prop} (hpost : ∀ tb e args s v u, (limb_1_1.after args s (.returned v) u = true ∧ limb_1_2.after args s (.returned v) u = true ∧ True) → FrameEnd s (.returned v) u (Jvm.fieldLocs frame_1_writes args s ++ Jvm.arrayLocs frame_1_arrays args s ++ Jvm.staticLocs frame_1_statics s) 16 128 → Post tb e args s (.returned v) u) :
    ArmFor flags0 classFile x code maxLocals ret World_1 tables_1 room_1 Calls_1 rest_1 Pre_1 Post := by
  intro l hfl _ _ p e ha hc hk s m args below hf hA hF happ hP
  obtain ⟨hcalls, hrest, hpre⟩ := hP
  obtain ⟨-, -, -, hnamed, -, -, -, hat⟩ := (Spec.applies_iff hf).mp happ
  obtain ⟨hg, hn⟩ := and_e (Cond.before_iff.mp (show (Jvm.Cond.and given_1 narrow_1).before args s = true from hpre))
  obtain ⟨h1, h2⟩ := and_e hg
  obtain ⟨h3, h4⟩ := and_e h2
  obtain ⟨h5, h6⟩ := and_e h4
  obtain ⟨h7, h8⟩ := and_e h6
  obtain ⟨h9, h10⟩ := and_e h8
  obtain ⟨w0, w1, w2, w3, w4, rfl⟩ : ∃ w0 w1 w2 w3 w4 : Value, args = #[w0, w1, w2, w3, w4] := by
    have hs : args.size = 5 := by simpa [Cond.value, given_1] using h1
    obtain ⟨L⟩ := args
    match L, hs with
    | [w0, w1, w2, w3, w4], _ => exact ⟨w0, w1, w2, w3, w4, rfl⟩
  have hw := fun d (hd : d ∈ tables_1) => atoms_spec (ws := Jvm.Cond.code x code maxLocals ret :: tables_1) hat d (List.mem_cons_of_mem _ hd)
  obtain ⟨i0, e0⟩ := is_v h3
  obtain rfl : w0 = (.int i0) := Option.some.inj e0
  obtain ⟨i1, e1⟩ := is_v h5
  obtain rfl : w1 = (.int i1) := Option.some.inj e1
  obtain ⟨i2, e2⟩ := is_v h7
  obtain rfl : w2 = (.int i2) := Option.some.inj e2
  obtain ⟨i3, e3⟩ := is_v h9
  obtain rfl : w3 = (.int i3) := Option.some.inj e3
  obtain ⟨i4, e4⟩ := is_v h10
  obtain rfl : w4 = (.int i4) := Option.some.inj e4
  obtain ⟨n, o, h1, h2, h3, _, L, rfl, ⟨rfl, N, -⟩, hq⟩ := con0 l (Z := s) (a0 := _) hw (h := s.heap) ⟨Nat.le_refl _, fun _ _ q => q⟩ p e ha hc hk s m _ below hf ((Spec.applies_iff_loose hf).mp happ).1 ⟨rfl, State.Warmed39.refl s, rfl⟩ trivial
  refine ⟨n, _, h1, h2, h3, hpost _ _ _ _ _ _ ⟨Cond.after_iff.mpr rfl, Cond.after_iff.mpr (eq_i res_at (Term.int_eval (1)) rfl), trivial⟩ ⟨hq.1, hq.2.1, (hq.2.2.sift fun y hy => Or.inr (N y hy)).mono (by decide) (by decide)⟩⟩
theorem main_1_1 : Claimed_1_1 := comes_1 fun _ _ _ _ _ _ h hF => ⟨h.1, hF⟩
theorem main_1_2 : Claimed_1_2 := comes_1 fun _ _ _ _ _ _ h hF => ⟨h.2.1, hF⟩
end Jvm.Pilot.@@N@@
namespace Jvm.Pilot.@@N@@
open Jvm Jvm.ClassFile Sem Op Lib Jvm.Free Jvm.Stand Jvm.Pilot.@@N@@.Jvm.D
/-! MADE BY PROGRAM (witnessworld.py) out of the Statement's table words and the real class files: 12 classes; the members and pool entries that the words name. The judged class is class 1, her method 1. -/
namespace start1
open Jvm.ClassFile
def u (s : String) : CpInfo := .utf8 (stringToUtf16 s)
/-- a pool by its gaps: so many unusable entries, then the entry; so many at the end -/
def gap : Nat → List CpInfo → List CpInfo
  | 0, r => r
  | n + 1, r => .unusable :: gap n r
def poolList (es : List (Nat × CpInfo)) (last : Nat) : List CpInfo := es.foldr (fun e r => gap e.1 (e.2 :: r)) (gap last [])
def pool (es : List (Nat × CpInfo)) (last : Nat) : Array CpInfo := ⟨poolList es last⟩
def fileOf (pool : Array CpInfo) (this : Nat) (attrs : Array Attribute := #[]) (ms : Array MethodInfo := #[]) (fl : Nat := 33) (sup : Nat := 0) (ifs : Array Nat := #[]) (fds : Array FieldInfo := #[]) : ClassFile where
  minorVersion := 0
  majorVersion := 65
  constantPool := pool
  accessFlags := fl
  thisClass := this
  superClass := sup
  interfaces := ifs
  fields := fds
  methods := ms
  attributes := attrs
def plain (name : String) (sup : Option ClassId) : Class where
  name := name
  kind := .ordinary
  loader := none
  accessFlags := 33
  super := sup
  interfaces := #[]
  cf := none
  fields := #[]
  methods := #[]
  instanceTypes := #[]
  staticTypes := #[]
  resolved := #[]
  callSites := []
  init := .initialized
  statics := none
  mirror := none

def pool0 : Array CpInfo := pool [(5, u "<init>"), (0, u "()V"), (1, .class_ 10), (1, u "java/lang/Object")] 113

def k0c0 : Code := { maxStack := 0, maxLocals := 1, code := object_method_1_code, exceptionTable := #[], attributes := #[] }
def k0m0 : Method := { name := "<init>", desc := "()V", sig := { parameters := [], returnType := none }, accessFlags := 1, code := some k0c0 }
/-- java/lang/Object -/
def k0 : Class := { plain "java/lang/Object" none with
  accessFlags := 33
  interfaces := #[]
  cf := some (fileOf pool0 8 #[] #[{ accessFlags := 1, nameIndex := 5, descriptorIndex := 6, attributes := #[] }] 33 0 #[] #[])
  fields := #[]
  methods := #[k0m0]
  instanceTypes := #[]
  staticTypes := #[]
  resolved := Array.replicate 124 none
  statics := none }

def pool1 : Array CpInfo := pool [(2, .class_ 4), (0, .nameAndType 5 6), (0, u "java/lang/Object"), (0, u "<init>"), (0, u "()V"), (0, .class_ 8), (0, u "com/example/dataset_expiry/datasetexpiry/listing/Postings"), (0, .methodref 7 3), (0, .methodref 7 11), (0, .nameAndType 12 13), (0, u "add"), (0, u "(I)V"), (0, .methodref 7 15), (0, .nameAndType 16 13), (0, u "remove"), (0, .methodref 7 18), (0, .nameAndType 19 20), (0, u "size"), (0, u "()I"), (0, .methodref 7 22), (0, .nameAndType 23 20), (0, u "last"), (0, .class_ 25), (0, u "com/example/dataset_expiry/datasetexpiry/listing/PostingsLastPinLaw"), (2, u "law"), (0, u "(IIIII)Z")] 3

def k1m0 : Method := { name := "<init>", desc := "()V", sig := { parameters := [], returnType := none }, accessFlags := 1, code := none }
def k1c1 : Code := { maxStack := 2, maxLocals := 16, code := code, exceptionTable := #[], attributes := #[] }
def k1m1 : Method := { name := "law", desc := "(IIIII)Z", sig := { parameters := [.int, .int, .int, .int, .int], returnType := some .boolean }, accessFlags := 9, code := some k1c1 }
/-- com/example/dataset_expiry/datasetexpiry/listing/PostingsLastPinLaw -/
def k1 : Class := { plain "com/example/dataset_expiry/datasetexpiry/listing/PostingsLastPinLaw" (some 0) with
  accessFlags := 49
  interfaces := #[]
  cf := some (fileOf pool1 24 #[] #[{ accessFlags := 1, nameIndex := 5, descriptorIndex := 6, attributes := #[] }, { accessFlags := 9, nameIndex := 28, descriptorIndex := 29, attributes := #[] }] 49 2 #[] #[])
  fields := #[]
  methods := #[k1m0, k1m1]
  instanceTypes := #[]
  staticTypes := #[]
  resolved := Array.replicate 33 none
  statics := none }

def pool2 : Array CpInfo := pool [(1, .methodref 2 3), (0, .class_ 4), (0, .nameAndType 5 6), (0, u "java/lang/Object"), (0, u "<init>"), (0, u "()V"), (0, .class_ 8), (0, u "com/example/dataset_expiry/datasetexpiry/listing/Postings"), (0, .fieldref 7 10), (0, .nameAndType 11 12), (0, u "numbers"), (0, u "[I"), (0, .fieldref 7 14), (0, .nameAndType 15 16), (0, u "size"), (0, u "I"), (1, .class_ 20), (1, u "java/util/Arrays"), (2, .methodref 18 24), (0, .nameAndType 25 26), (0, u "binarySearch"), (0, u "([IIII)I"), (14, u "(I)V"), (3, .methodref 18 46), (0, .nameAndType 47 48), (0, u "copyOf"), (0, u "([II)[I"), (0, .methodref 50 51), (0, .class_ 52), (0, .nameAndType 53 54), (0, u "java/lang/System"), (0, u "arraycopy"), (0, u "(Ljava/lang/Object;ILjava/lang/Object;II)V"), (3, u "SMALLEST"), (4, u "()I"), (1, u "last"), (7, u "add"), (0, u "remove")] 2

def k2c0 : Code := { maxStack := 2, maxLocals := 1, code := prog_11_method_1_code, exceptionTable := #[], attributes := #[] }
def k2m0 : Method := { name := "<init>", desc := "()V", sig := { parameters := [], returnType := none }, accessFlags := 0, code := some k2c0 }
def k2c1 : Code := { maxStack := 1, maxLocals := 1, code := prog_11_method_2_code, exceptionTable := #[], attributes := #[] }
def k2m1 : Method := { name := "size", desc := "()I", sig := { parameters := [], returnType := some .int }, accessFlags := 16, code := some k2c1 }
def k2c2 : Code := { maxStack := 3, maxLocals := 1, code := prog_11_method_4_code, exceptionTable := #[], attributes := #[] }
def k2m2 : Method := { name := "last", desc := "()I", sig := { parameters := [], returnType := some .int }, accessFlags := 16, code := some k2c2 }
def k2c3 : Code := { maxStack := 6, maxLocals := 4, code := prog_11_method_9_code, exceptionTable := #[], attributes := #[] }
def k2m3 : Method := { name := "add", desc := "(I)V", sig := { parameters := [.int], returnType := none }, accessFlags := 16, code := some k2c3 }
def k2c4 : Code := { maxStack := 6, maxLocals := 3, code := prog_11_method_10_code, exceptionTable := #[], attributes := #[] }
def k2m4 : Method := { name := "remove", desc := "(I)V", sig := { parameters := [.int], returnType := none }, accessFlags := 16, code := some k2c4 }
/-- com/example/dataset_expiry/datasetexpiry/listing/Postings -/
def k2 : Class := { plain "com/example/dataset_expiry/datasetexpiry/listing/Postings" (some 0) with
  accessFlags := 32
  interfaces := #[]
  cf := some (fileOf pool2 7 #[] #[{ accessFlags := 0, nameIndex := 5, descriptorIndex := 6, attributes := #[] }, { accessFlags := 16, nameIndex := 15, descriptorIndex := 63, attributes := #[] }, { accessFlags := 16, nameIndex := 65, descriptorIndex := 63, attributes := #[] }, { accessFlags := 16, nameIndex := 73, descriptorIndex := 41, attributes := #[] }, { accessFlags := 16, nameIndex := 74, descriptorIndex := 41, attributes := #[] }] 32 2 #[] #[{ accessFlags := 26, nameIndex := 58, descriptorIndex := 16, attributes := #[] }, { accessFlags := 2, nameIndex := 11, descriptorIndex := 12, attributes := #[] }, { accessFlags := 2, nameIndex := 15, descriptorIndex := 16, attributes := #[] }])
  fields := #[{ name := "SMALLEST", type := .int, accessFlags := 26, slot := 0, constantValue := 0 }, { name := "numbers", type := (.array .int), accessFlags := 2, slot := 0, constantValue := 0 }, { name := "size", type := .int, accessFlags := 2, slot := 1, constantValue := 0 }]
  methods := #[k2m0, k2m1, k2m2, k2m3, k2m4]
  instanceTypes := #[(.array .int), .int]
  staticTypes := #[.int]
  resolved := Array.replicate 77 none
  statics := none }

def pool3 : Array CpInfo := pool [(2, .class_ 4), (1, u "java/lang/Object"), (0, u "<init>"), (0, u "()V"), (6, .methodref 14 15), (0, .class_ 16), (0, .nameAndType 17 18), (0, u "java/util/Arrays"), (0, u "rangeCheck"), (0, u "(III)V"), (55, .class_ 76), (1, u "java/util/Arrays$NaturalOrder"), (36, .class_ 115), (1, u "java/util/Arrays$LegacyMergeSort"), (1, u "Z"), (32, .methodref 151 152), (0, .class_ 153), (0, .nameAndType 154 155), (0, u "java/lang/System"), (0, u "arraycopy"), (0, u "(Ljava/lang/Object;ILjava/lang/Object;II)V"), (51, u "binarySearch0"), (1, .methodref 14 210), (0, .nameAndType 207 211), (0, u "([IIII)I"), (90, u "copyOf"), (1, .methodref 305 306), (0, .class_ 307), (0, .nameAndType 308 309), (0, u "java/lang/Math"), (0, u "min"), (0, u "(II)I"), (65, .class_ 376), (0, u "java/util/Arrays$ArrayList"), (68, u "$assertionsDisabled"), (269, u "MIN_ARRAY_SORT_GRAN"), (0, u "I"), (2, u "INSERTIONSORT_THRESHOLD"), (74, u "binarySearch"), (76, u "([II)[I"), (103, .class_ 976), (0, u "java/util/Arrays$ArrayItr")] 52

def k3m0 : Method := { name := "<init>", desc := "()V", sig := { parameters := [], returnType := none }, accessFlags := 2, code := none }
def k3c1 : Code := { maxStack := 4, maxLocals := 3, code := jdk_65_method_30_code, exceptionTable := #[], attributes := #[] }
def k3m1 : Method := { name := "rangeCheck", desc := "(III)V", sig := { parameters := [.int, .int, .int], returnType := none }, accessFlags := 8, code := some k3c1 }
def k3c2 : Code := { maxStack := 4, maxLocals := 4, code := jdk_65_method_58_code, exceptionTable := #[], attributes := #[] }
def k3m2 : Method := { name := "binarySearch", desc := "([IIII)I", sig := { parameters := [(.array .int), .int, .int, .int], returnType := some .int }, accessFlags := 9, code := some k3c2 }
def k3c3 : Code := { maxStack := 2, maxLocals := 8, code := jdk_65_method_59_code, exceptionTable := #[], attributes := #[] }
def k3m3 : Method := { name := "binarySearch0", desc := "([IIII)I", sig := { parameters := [(.array .int), .int, .int, .int], returnType := some .int }, accessFlags := 10, code := some k3c3 }
def k3c4 : Code := { maxStack := 6, maxLocals := 3, code := jdk_65_method_123_code, exceptionTable := #[], attributes := #[] }
def k3m4 : Method := { name := "copyOf", desc := "([II)[I", sig := { parameters := [(.array .int), .int], returnType := some (.array .int) }, accessFlags := 9, code := some k3c4 }
/-- java/util/Arrays -/
def k3 : Class := { plain "java/util/Arrays" (some 0) with
  accessFlags := 49
  interfaces := #[]
  cf := some (fileOf pool3 14 #[.nestMembers #[975, 375, 113, 74]] #[{ accessFlags := 2, nameIndex := 5, descriptorIndex := 6, attributes := #[] }, { accessFlags := 8, nameIndex := 17, descriptorIndex := 18, attributes := #[] }, { accessFlags := 9, nameIndex := 794, descriptorIndex := 211, attributes := #[] }, { accessFlags := 10, nameIndex := 207, descriptorIndex := 211, attributes := #[] }, { accessFlags := 9, nameIndex := 302, descriptorIndex := 871, attributes := #[] }] 49 2 #[] #[{ accessFlags := 26, nameIndex := 715, descriptorIndex := 716, attributes := #[] }, { accessFlags := 26, nameIndex := 719, descriptorIndex := 716, attributes := #[] }, { accessFlags := 4120, nameIndex := 445, descriptorIndex := 117, attributes := #[] }])
  fields := #[{ name := "MIN_ARRAY_SORT_GRAN", type := .int, accessFlags := 26, slot := 0, constantValue := 0 }, { name := "INSERTIONSORT_THRESHOLD", type := .int, accessFlags := 26, slot := 1, constantValue := 0 }, { name := "$assertionsDisabled", type := .boolean, accessFlags := 4120, slot := 2, constantValue := 0 }]
  methods := #[k3m0, k3m1, k3m2, k3m3, k3m4]
  instanceTypes := #[]
  staticTypes := #[.int, .int, .boolean]
  resolved := Array.replicate 1029 none
  statics := none }

def pool4 : Array CpInfo := pool [(2, .class_ 4), (1, u "java/lang/Object"), (0, u "<init>"), (0, u "()V"), (1, .class_ 10), (1, u "java/lang/System"), (0, u "allowSecurityManager"), (0, u "I"), (16, u "cons"), (0, u "Ljava/io/Console;"), (77, .class_ 110), (1, u "java/lang/System$CallersHolder"), (43, u "initialErrStream"), (0, u "Ljava/io/PrintStream;"), (19, u "security"), (0, u "Ljava/lang/SecurityManager;"), (31, .class_ 209), (0, u "java/lang/System$1"), (7, u "props"), (0, u "Ljava/util/Properties;"), (2, u "lineSeparator"), (0, u "Ljava/lang/String;"), (96, .class_ 321), (1, u "java/lang/System$LoggerFinder"), (5, .class_ 328), (0, u "java/lang/System$Logger"), (67, u "err"), (2, u "out"), (91, u "notSupportedJnuEncoding"), (15, u "in"), (17, u "initialIn"), (0, u "Ljava/io/InputStream;"), (35, u "bootLayer"), (0, u "Ljava/lang/ModuleLayer;"), (99, .class_ 664), (0, u "java/lang/System$2"), (9, u "NEVER"), (2, u "MAYBE"), (49, u "arraycopy"), (0, u "(Ljava/lang/Object;ILjava/lang/Object;II)V"), (72, .class_ 802), (0, u "java/lang/System$Logger$Level")] 31

def k4m0 : Method := { name := "<init>", desc := "()V", sig := { parameters := [], returnType := none }, accessFlags := 2, code := none }
def k4m1 : Method := { name := "arraycopy", desc := "(Ljava/lang/Object;ILjava/lang/Object;II)V", sig := { parameters := [(.object "java/lang/Object"), .int, (.object "java/lang/Object"), .int, .int], returnType := none }, accessFlags := 265, code := none }
/-- java/lang/System -/
def k4 : Class := { plain "java/lang/System" (some 0) with
  accessFlags := 49
  interfaces := #[]
  cf := some (fileOf pool4 8 #[.nestMembers #[319, 327, 801, 108, 663, 208]] #[{ accessFlags := 2, nameIndex := 5, descriptorIndex := 6, attributes := #[] }, { accessFlags := 265, nameIndex := 727, descriptorIndex := 728, attributes := #[] }] 49 2 #[] #[{ accessFlags := 25, nameIndex := 507, descriptorIndex := 526, attributes := #[] }, { accessFlags := 25, nameIndex := 399, descriptorIndex := 155, attributes := #[] }, { accessFlags := 25, nameIndex := 396, descriptorIndex := 155, attributes := #[] }, { accessFlags := 10, nameIndex := 525, descriptorIndex := 526, attributes := #[] }, { accessFlags := 26, nameIndex := 674, descriptorIndex := 12, attributes := #[] }, { accessFlags := 26, nameIndex := 677, descriptorIndex := 12, attributes := #[] }, { accessFlags := 10, nameIndex := 11, descriptorIndex := 12, attributes := #[] }, { accessFlags := 74, nameIndex := 175, descriptorIndex := 176, attributes := #[] }, { accessFlags := 10, nameIndex := 491, descriptorIndex := 222, attributes := #[] }, { accessFlags := 74, nameIndex := 29, descriptorIndex := 30, attributes := #[] }, { accessFlags := 74, nameIndex := 154, descriptorIndex := 155, attributes := #[] }, { accessFlags := 10, nameIndex := 217, descriptorIndex := 218, attributes := #[] }, { accessFlags := 10, nameIndex := 221, descriptorIndex := 222, attributes := #[] }, { accessFlags := 8, nameIndex := 562, descriptorIndex := 563, attributes := #[] }])
  fields := #[{ name := "in", type := (.object "java/io/InputStream"), accessFlags := 25, slot := 0, constantValue := 0 }, { name := "out", type := (.object "java/io/PrintStream"), accessFlags := 25, slot := 1, constantValue := 0 }, { name := "err", type := (.object "java/io/PrintStream"), accessFlags := 25, slot := 2, constantValue := 0 }, { name := "initialIn", type := (.object "java/io/InputStream"), accessFlags := 10, slot := 3, constantValue := 0 }, { name := "NEVER", type := .int, accessFlags := 26, slot := 4, constantValue := 0 }, { name := "MAYBE", type := .int, accessFlags := 26, slot := 5, constantValue := 0 }, { name := "allowSecurityManager", type := .int, accessFlags := 10, slot := 6, constantValue := 0 }, { name := "security", type := (.object "java/lang/SecurityManager"), accessFlags := 74, slot := 7, constantValue := 0 }, { name := "notSupportedJnuEncoding", type := (.object "java/lang/String"), accessFlags := 10, slot := 8, constantValue := 0 }, { name := "cons", type := (.object "java/io/Console"), accessFlags := 74, slot := 9, constantValue := 0 }, { name := "initialErrStream", type := (.object "java/io/PrintStream"), accessFlags := 74, slot := 10, constantValue := 0 }, { name := "props", type := (.object "java/util/Properties"), accessFlags := 10, slot := 11, constantValue := 0 }, { name := "lineSeparator", type := (.object "java/lang/String"), accessFlags := 10, slot := 12, constantValue := 0 }, { name := "bootLayer", type := (.object "java/lang/ModuleLayer"), accessFlags := 8, slot := 13, constantValue := 0 }]
  methods := #[k4m0, k4m1]
  instanceTypes := #[]
  staticTypes := #[(.object "java/io/InputStream"), (.object "java/io/PrintStream"), (.object "java/io/PrintStream"), (.object "java/io/InputStream"), .int, .int, .int, (.object "java/lang/SecurityManager"), (.object "java/lang/String"), (.object "java/io/Console"), (.object "java/io/PrintStream"), (.object "java/util/Properties"), (.object "java/lang/String"), (.object "java/lang/ModuleLayer")]
  resolved := Array.replicate 834 none
  statics := none }

def pool5 : Array CpInfo := pool [(1, .class_ 2), (0, u "java/lang/Math"), (1, .class_ 6), (1, u "java/lang/Object"), (0, u "<init>"), (0, u "()V"), (89, .class_ 100), (1, u "java/lang/Math$RandomNumberGeneratorHolder"), (71, u "negativeZeroFloatBits"), (0, u "J"), (2, u "negativeZeroDoubleBits"), (24, u "min"), (43, u "$assertionsDisabled"), (0, u "Z"), (88, u "(II)I"), (2, u "twoToTheDoubleScaleDown"), (0, u "D"), (4, u "twoToTheDoubleScaleUp"), (9, u "E"), (3, u "PI"), (2, u "TAU"), (2, u "DEGREES_TO_RADIANS"), (0, u "RADIANS_TO_DEGREES")] 94

def k5m0 : Method := { name := "<init>", desc := "()V", sig := { parameters := [], returnType := none }, accessFlags := 2, code := none }
def k5c1 : Code := { maxStack := 2, maxLocals := 2, code := jdk_29_method_69_code, exceptionTable := #[], attributes := #[] }
def k5m1 : Method := { name := "min", desc := "(II)I", sig := { parameters := [.int, .int], returnType := some .int }, accessFlags := 9, code := some k5c1 }
/-- java/lang/Math -/
def k5 : Class := { plain "java/lang/Math" (some 0) with
  accessFlags := 49
  interfaces := #[]
  cf := some (fileOf pool5 1 #[.nestMembers #[98]] #[{ accessFlags := 2, nameIndex := 7, descriptorIndex := 8, attributes := #[] }, { accessFlags := 9, nameIndex := 201, descriptorIndex := 335, attributes := #[] }] 49 4 #[] #[{ accessFlags := 25, nameIndex := 354, descriptorIndex := 339, attributes := #[] }, { accessFlags := 25, nameIndex := 358, descriptorIndex := 339, attributes := #[] }, { accessFlags := 25, nameIndex := 361, descriptorIndex := 339, attributes := #[] }, { accessFlags := 26, nameIndex := 364, descriptorIndex := 339, attributes := #[] }, { accessFlags := 26, nameIndex := 365, descriptorIndex := 339, attributes := #[] }, { accessFlags := 26, nameIndex := 172, descriptorIndex := 173, attributes := #[] }, { accessFlags := 26, nameIndex := 176, descriptorIndex := 173, attributes := #[] }, { accessFlags := 8, nameIndex := 344, descriptorIndex := 339, attributes := #[] }, { accessFlags := 8, nameIndex := 338, descriptorIndex := 339, attributes := #[] }, { accessFlags := 4120, nameIndex := 245, descriptorIndex := 246, attributes := #[] }])
  fields := #[{ name := "E", type := .double, accessFlags := 25, slot := 0, constantValue := 0 }, { name := "PI", type := .double, accessFlags := 25, slot := 1, constantValue := 0 }, { name := "TAU", type := .double, accessFlags := 25, slot := 2, constantValue := 0 }, { name := "DEGREES_TO_RADIANS", type := .double, accessFlags := 26, slot := 3, constantValue := 0 }, { name := "RADIANS_TO_DEGREES", type := .double, accessFlags := 26, slot := 4, constantValue := 0 }, { name := "negativeZeroFloatBits", type := .long, accessFlags := 26, slot := 5, constantValue := 0 }, { name := "negativeZeroDoubleBits", type := .long, accessFlags := 26, slot := 6, constantValue := 0 }, { name := "twoToTheDoubleScaleUp", type := .double, accessFlags := 8, slot := 7, constantValue := 0 }, { name := "twoToTheDoubleScaleDown", type := .double, accessFlags := 8, slot := 8, constantValue := 0 }, { name := "$assertionsDisabled", type := .boolean, accessFlags := 4120, slot := 9, constantValue := 0 }]
  methods := #[k5m0, k5m1]
  instanceTypes := #[]
  staticTypes := #[.double, .double, .double, .double, .double, .long, .long, .double, .double, .boolean]
  resolved := Array.replicate 460 none
  statics := none }

def pool6 : Array CpInfo := pool [(1, u "java/lang/Cloneable"), (0, .class_ 1), (0, u "java/lang/Object"), (0, .class_ 3)] 3

/-- java/lang/Cloneable -/
def k6 : Class := { plain "java/lang/Cloneable" (some 0) with
  accessFlags := 1537
  interfaces := #[]
  cf := some (fileOf pool6 2 #[] #[] 1537 4 #[] #[])
  fields := #[]
  methods := #[]
  instanceTypes := #[]
  staticTypes := #[]
  resolved := Array.replicate 8 none
  statics := none }

def pool7 : Array CpInfo := pool [(1, u "java/io/Serializable"), (0, .class_ 1), (0, u "java/lang/Object"), (0, .class_ 3)] 3

/-- java/io/Serializable -/
def k7 : Class := { plain "java/io/Serializable" (some 0) with
  accessFlags := 1537
  interfaces := #[]
  cf := some (fileOf pool7 2 #[] #[] 1537 4 #[] #[])
  fields := #[]
  methods := #[]
  instanceTypes := #[]
  staticTypes := #[]
  resolved := Array.replicate 8 none
  statics := none }

/-- the primitive byte -/
def k8 : Class := { plain "byte" none with kind := .primitive 'B', accessFlags := 0x411 }
/-- [B -/
def k9 : Class := { plain "[B" (some 0) with kind := .array 8 .byte, interfaces := #[6, 7], accessFlags := 1041 }

/-- the primitive int -/
def k10 : Class := { plain "int" none with kind := .primitive 'I', accessFlags := 0x411 }
/-- [I -/
def k11 : Class := { plain "[I" (some 0) with kind := .array 10 .int, interfaces := #[6, 7], accessFlags := 1041 }

def heap : Heap := #[]
def classes : Array Class := #[k0, k1, k2, k3, k4, k5, k6, k7, k8, k9, k10, k11]
def interned : List (Array UInt16 × Addr) := []
def slotsUsed : Nat := 0
def theMethod : MethodId := ⟨1, 1⟩
def args0 : Array Value := #[.int 5, .int 7, .int 3, .int 4, .int 12]
def aboutOver (below : List Frame) : State where
  vm := { classes := classes, interned := interned.toArray }
  heap := heap
  slotsUsed := slotsUsed
  threads := #[{ frames := .invoking theMethod args0 :: below }]
def below0 : List Frame := [.native { method := ⟨0, 0⟩, args := #[] }]
def about1 : State := aboutOver below0
def p0 : Program := .bare "" "" ""
def e0 : Env := launch0.env 0 0 0
theorem w_frames : about1.frames = Frame.invoking theMethod args0 :: below0 := rfl
set_option maxRecDepth 65536 in
theorem w_args : argsFit about1.vm theMethod args0 = true := by decide +kernel
set_option maxRecDepth 65536 in
theorem w_heap : heapFits about1 = true := by decide +kernel
set_option maxRecDepth 65536 in
theorem w_runnable : about1.curStatus? = some .runnable := by decide +kernel
set_option maxRecDepth 65536 in
theorem w_alone : about1.alone = true := by decide +kernel
set_option maxRecDepth 65536 in
theorem w_named : about1.methodNamed? x = some theMethod := by decide +kernel
set_option maxRecDepth 65536 in
theorem w_hears : about1.hears theMethod below0 = true := by decide +kernel
set_option maxRecDepth 65536 in
theorem w_ripe : about1.ripe theMethod args0 below0 = true := by decide +kernel
theorem w_running : about1.status = .running := rfl
set_option maxRecDepth 65536 in
theorem w_room : about1.hasRoom e0.platform room_1 = true :=
  launch0.hasRoom_least _ room_1 (by decide +kernel) (by decide +kernel) (by decide +kernel) (by decide +kernel) (by decide +kernel) (by decide +kernel)
theorem allAtoms_all (ts : List Jvm.Cond) (a : Array Jvm.Value) (st : Jvm.State) : (allAtoms ts).before a st = ts.all (fun c => c.before a st) := by
  induction ts with
  | nil => rfl
  | cons c t ih =>
    show (Jvm.Cond.and c (allAtoms t)).before a st = _
    rw [Jvm.Cond.before_and, ih, List.all_cons]
def words1 : List Jvm.Cond := Jvm.Cond.code x code maxLocals ret :: tables_1
/-- a 'code' word, met by the world's own term for the bytes: nothing is compared byte by byte -/
theorem code_word {y : MethodName} {bytes : ByteArray} {mx : Nat} {rt : Option FieldType} {a : Array Value} {s : State} {m : MethodId} {meth : Method} {c : Code} (h1 : s.methodNamed? y = some m) (h2 : s.vm.method? m = some meth) (h3 : meth.code = some c) (h4 : c.code = bytes)
    (h5 : (c.maxLocals == mx && c.exceptionTable.isEmpty && decide (c.maxStack ≤ mostOperands) && decide (meth.sig.returnType = rt) && !meth.locks && decide (parseMethodDescriptor y.desc = some meth.sig)) = true) : (Jvm.Cond.code y bytes mx rt).before a s = true := by
  simp only [Bool.and_eq_true, beq_iff_eq, Bool.not_eq_true', decide_eq_true_eq] at h5
  obtain ⟨⟨⟨⟨⟨g1, g2⟩, g3⟩, g4⟩, g5⟩, g6⟩ := h5
  simp [Cond.before, Cond.holds, Cond.value, h1, h2, h3, h4, g1, g2, g3, g4, g5, g6]
def isCode : Jvm.Cond → Bool
  | .code _ _ _ _ => true
  | _ => false
theorem all_split {L : List Jvm.Cond} {P : Jvm.Cond → Bool} (h1 : L.all (fun c => isCode c || P c) = true) (h2 : ∀ c ∈ L.filter isCode, P c = true) : L.all P = true := by
  refine List.all_eq_true.mpr fun c hc => ?_
  have h := List.all_eq_true.mp h1 c hc
  rcases Bool.eq_false_or_eq_true (isCode c) with hi | hi
  · exact h2 c (List.mem_filter.mpr ⟨hc, hi⟩)
  · simpa [hi] using h
set_option maxRecDepth 65536 in
theorem w_c0 : (Jvm.Cond.code x code maxLocals ret).before args0 about1 = true := code_word (m := ⟨1, 1⟩) (meth := k1m1) (c := k1c1) (by decide +kernel) rfl rfl rfl (by decide +kernel)
set_option maxRecDepth 65536 in
theorem w_c1 : (Jvm.Cond.code ({ cls := "com/example/dataset_expiry/datasetexpiry/listing/Postings", name := "<init>", desc := "()V" } : Jvm.MethodName) prog_11_method_1_code (1 : Nat) (Option.none : Option Jvm.ClassFile.FieldType)).before args0 about1 = true := code_word (m := ⟨2, 0⟩) (meth := k2m0) (c := k2c0) (by decide +kernel) rfl rfl rfl (by decide +kernel)
set_option maxRecDepth 65536 in
theorem w_c2 : (Jvm.Cond.code ({ cls := "java/lang/Object", name := "<init>", desc := "()V" } : Jvm.MethodName) object_method_1_code (1 : Nat) (Option.none : Option Jvm.ClassFile.FieldType)).before args0 about1 = true := code_word (m := ⟨0, 0⟩) (meth := k0m0) (c := k0c0) (by decide +kernel) rfl rfl rfl (by decide +kernel)
set_option maxRecDepth 65536 in
theorem w_c3 : (Jvm.Cond.code ({ cls := "com/example/dataset_expiry/datasetexpiry/listing/Postings", name := "add", desc := "(I)V" } : Jvm.MethodName) prog_11_method_9_code (4 : Nat) (Option.none : Option Jvm.ClassFile.FieldType)).before args0 about1 = true := code_word (m := ⟨2, 3⟩) (meth := k2m3) (c := k2c3) (by decide +kernel) rfl rfl rfl (by decide +kernel)
set_option maxRecDepth 65536 in
theorem w_c4 : (Jvm.Cond.code ({ cls := "java/util/Arrays", name := "binarySearch", desc := "([IIII)I" } : Jvm.MethodName) jdk_65_method_58_code (4 : Nat) (Option.some Jvm.ClassFile.FieldType.int)).before args0 about1 = true := code_word (m := ⟨3, 2⟩) (meth := k3m2) (c := k3c2) (by decide +kernel) rfl rfl rfl (by decide +kernel)
set_option maxRecDepth 65536 in
theorem w_c5 : (Jvm.Cond.code ({ cls := "java/util/Arrays", name := "rangeCheck", desc := "(III)V" } : Jvm.MethodName) jdk_65_method_30_code (3 : Nat) (Option.none : Option Jvm.ClassFile.FieldType)).before args0 about1 = true := code_word (m := ⟨3, 1⟩) (meth := k3m1) (c := k3c1) (by decide +kernel) rfl rfl rfl (by decide +kernel)
set_option maxRecDepth 65536 in
theorem w_c6 : (Jvm.Cond.code ({ cls := "java/util/Arrays", name := "binarySearch0", desc := "([IIII)I" } : Jvm.MethodName) jdk_65_method_59_code (8 : Nat) (Option.some Jvm.ClassFile.FieldType.int)).before args0 about1 = true := code_word (m := ⟨3, 3⟩) (meth := k3m3) (c := k3c3) (by decide +kernel) rfl rfl rfl (by decide +kernel)
set_option maxRecDepth 65536 in
theorem w_c7 : (Jvm.Cond.code ({ cls := "com/example/dataset_expiry/datasetexpiry/listing/Postings", name := "size", desc := "()I" } : Jvm.MethodName) prog_11_method_2_code (1 : Nat) (Option.some Jvm.ClassFile.FieldType.int)).before args0 about1 = true := code_word (m := ⟨2, 1⟩) (meth := k2m1) (c := k2c1) (by decide +kernel) rfl rfl rfl (by decide +kernel)
set_option maxRecDepth 65536 in
theorem w_c8 : (Jvm.Cond.code ({ cls := "com/example/dataset_expiry/datasetexpiry/listing/Postings", name := "last", desc := "()I" } : Jvm.MethodName) prog_11_method_4_code (1 : Nat) (Option.some Jvm.ClassFile.FieldType.int)).before args0 about1 = true := code_word (m := ⟨2, 2⟩) (meth := k2m2) (c := k2c2) (by decide +kernel) rfl rfl rfl (by decide +kernel)
set_option maxRecDepth 65536 in
theorem w_c9 : (Jvm.Cond.code ({ cls := "com/example/dataset_expiry/datasetexpiry/listing/Postings", name := "remove", desc := "(I)V" } : Jvm.MethodName) prog_11_method_10_code (3 : Nat) (Option.none : Option Jvm.ClassFile.FieldType)).before args0 about1 = true := code_word (m := ⟨2, 4⟩) (meth := k2m4) (c := k2c4) (by decide +kernel) rfl rfl rfl (by decide +kernel)
set_option maxRecDepth 65536 in
theorem w_c10 : (Jvm.Cond.code ({ cls := "java/util/Arrays", name := "copyOf", desc := "([II)[I" } : Jvm.MethodName) jdk_65_method_123_code (3 : Nat) (Option.some (Jvm.ClassFile.FieldType.array Jvm.ClassFile.FieldType.int))).before args0 about1 = true := code_word (m := ⟨3, 4⟩) (meth := k3m4) (c := k3c4) (by decide +kernel) rfl rfl rfl (by decide +kernel)
set_option maxRecDepth 65536 in
theorem w_c11 : (Jvm.Cond.code ({ cls := "java/lang/Math", name := "min", desc := "(II)I" } : Jvm.MethodName) jdk_29_method_69_code (2 : Nat) (Option.some Jvm.ClassFile.FieldType.int)).before args0 about1 = true := code_word (m := ⟨5, 1⟩) (meth := k5m1) (c := k5c1) (by decide +kernel) rfl rfl rfl (by decide +kernel)
def codes1 : List Jvm.Cond := [Jvm.Cond.code x code maxLocals ret, Jvm.Cond.code ({ cls := "com/example/dataset_expiry/datasetexpiry/listing/Postings", name := "<init>", desc := "()V" } : Jvm.MethodName) prog_11_method_1_code (1 : Nat) (Option.none : Option Jvm.ClassFile.FieldType), Jvm.Cond.code ({ cls := "java/lang/Object", name := "<init>", desc := "()V" } : Jvm.MethodName) object_method_1_code (1 : Nat) (Option.none : Option Jvm.ClassFile.FieldType), Jvm.Cond.code ({ cls := "com/example/dataset_expiry/datasetexpiry/listing/Postings", name := "add", desc := "(I)V" } : Jvm.MethodName) prog_11_method_9_code (4 : Nat) (Option.none : Option Jvm.ClassFile.FieldType), Jvm.Cond.code ({ cls := "java/util/Arrays", name := "binarySearch", desc := "([IIII)I" } : Jvm.MethodName) jdk_65_method_58_code (4 : Nat) (Option.some Jvm.ClassFile.FieldType.int), Jvm.Cond.code ({ cls := "java/util/Arrays", name := "rangeCheck", desc := "(III)V" } : Jvm.MethodName) jdk_65_method_30_code (3 : Nat) (Option.none : Option Jvm.ClassFile.FieldType), Jvm.Cond.code ({ cls := "java/util/Arrays", name := "binarySearch0", desc := "([IIII)I" } : Jvm.MethodName) jdk_65_method_59_code (8 : Nat) (Option.some Jvm.ClassFile.FieldType.int), Jvm.Cond.code ({ cls := "com/example/dataset_expiry/datasetexpiry/listing/Postings", name := "size", desc := "()I" } : Jvm.MethodName) prog_11_method_2_code (1 : Nat) (Option.some Jvm.ClassFile.FieldType.int), Jvm.Cond.code ({ cls := "com/example/dataset_expiry/datasetexpiry/listing/Postings", name := "last", desc := "()I" } : Jvm.MethodName) prog_11_method_4_code (1 : Nat) (Option.some Jvm.ClassFile.FieldType.int), Jvm.Cond.code ({ cls := "com/example/dataset_expiry/datasetexpiry/listing/Postings", name := "remove", desc := "(I)V" } : Jvm.MethodName) prog_11_method_10_code (3 : Nat) (Option.none : Option Jvm.ClassFile.FieldType), Jvm.Cond.code ({ cls := "java/util/Arrays", name := "copyOf", desc := "([II)[I" } : Jvm.MethodName) jdk_65_method_123_code (3 : Nat) (Option.some (Jvm.ClassFile.FieldType.array Jvm.ClassFile.FieldType.int)), Jvm.Cond.code ({ cls := "java/lang/Math", name := "min", desc := "(II)I" } : Jvm.MethodName) jdk_29_method_69_code (2 : Nat) (Option.some Jvm.ClassFile.FieldType.int)]
set_option maxRecDepth 65536 in
theorem codes_eq : words1.filter isCode = codes1 := rfl
theorem w_codes : ∀ c ∈ words1.filter isCode, c.before args0 about1 = true := by
  rw [codes_eq]
  intro c hc
  simp only [codes1, List.mem_cons, List.not_mem_nil, or_false] at hc
  rcases hc with rfl | rfl | rfl | rfl | rfl | rfl | rfl | rfl | rfl | rfl | rfl | rfl
  · exact w_c0
  · exact w_c1
  · exact w_c2
  · exact w_c3
  · exact w_c4
  · exact w_c5
  · exact w_c6
  · exact w_c7
  · exact w_c8
  · exact w_c9
  · exact w_c10
  · exact w_c11
set_option maxRecDepth 65536 in
theorem w_t1 : (words1.take 24).all (fun c => isCode c || c.before args0 about1) = true := by decide +kernel
set_option maxRecDepth 65536 in
theorem w_t2 : ((words1.drop 24).take 24).all (fun c => isCode c || c.before args0 about1) = true := by decide +kernel
set_option maxRecDepth 65536 in
theorem w_t3 : ((words1.drop 24).drop 24).all (fun c => isCode c || c.before args0 about1) = true := by decide +kernel
theorem w_tables : (allAtoms (Jvm.Cond.code x code maxLocals ret :: tables_1)).before args0 about1 = true := by
  rw [allAtoms_all]
  show words1.all (fun c => c.before args0 about1) = true
  refine all_split ?_ w_codes
  rw [← List.take_append_drop 24 words1, List.all_append, w_t1, ← List.take_append_drop 24 (words1.drop 24), List.all_append, w_t2, w_t3]
  rfl
set_option maxRecDepth 65536 in
theorem w_case : (Jvm.Cond.and given_1 narrow_1).before args0 about1 = true := by decide +kernel
theorem w_applies : (headSpec (Jvm.Cond.code x code maxLocals ret :: tables_1) room_1).applies x e0.platform about1 = true :=
  (Spec.applies_iff w_frames).mpr ⟨w_running, w_runnable, w_alone, w_named, w_hears, w_ripe, w_room, w_tables⟩
theorem atStart : AtStart classFile x code maxLocals ret World_1 tables_1 room_1 Calls_1 rest_1 Pre_1 launch0 p0 e0 about1 theMethod args0 below0 :=
  ⟨lists_1, trivial, launch0.admits_env _ _ _, launch0.least_env, fairChoices_fair.cas, fairChoices_fair.clock, w_frames, w_args, w_heap, w_applies, trivial, trivial, w_case⟩
end start1
theorem witness_1 : WitnessClaimed_1 := ⟨start1.p0, start1.e0, start1.about1, start1.theMethod, start1.args0, start1.below0, start1.atStart⟩
end Jvm.Pilot.@@N@@
