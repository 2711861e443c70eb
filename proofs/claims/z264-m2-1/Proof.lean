import JvmDerived
import JvmDerived.Pilot.@@N@@Statement
import JvmDerived.Pilot.@@N@@Code
set_option linter.unusedVariables false
set_option linter.unusedSimpArgs false
namespace Jvm.Pilot.@@N@@
open Jvm Jvm.ClassFile Sem Op Lib Jvm.Free Jvm.Stand Jvm.LawKit Jvm.RoadKit Bundle Jvm.Pilot.@@N@@.Jvm.D
section Kit
/-- from the frame g over T the run comes to a state of which P holds -/
def Run (p : Program) (e : Env) (below : List Frame) (P : State → Prop) (T : State) (g : JFrame) : Prop := ∃ t, Steps p.tables e below (T.setTop g) t ∧ P t
/-- where the walk stands: the library's Stand with what goes along with it; Z: the law's own start; h: the heap at hand -/
def St (Z : State) (own : String) (bs : ByteArray) (mL : Nat) (p : Program) (l : Launch) (e : Env) (R : Room) (s : State) (m : MethodId) (args : Array Value) (below : List Frame) (meth : Method) (c : Code) (T : State) (h : Heap) (cells slots : Nat) : Prop :=
  ∃ locs, Stand p l e R s m args below meth c T locs cells slots ∧ Fr Z.heap.size locs ∧ Ext Z.heap h ∧ T.heap = h ∧ p.tables.exec = Jvm.exec ∧ c.code = bs ∧ c.maxLocals = mL ∧ Z.Warmed39 s.vm ∧ s.vm.findClass own = some m.cls
/-- how a body ends -/
def Fini (Z : State) (s : State) (below : List Frame) (k n : Nat) (Q : Option Value → Heap → Prop) (t : State) : Prop :=
  ∃ o, t.status = .running ∧ Ended t below o ∧ ∃ v L, o = .returned v ∧ (Q v t.heap ∧ Fr Z.heap.size L ∧ Ext Z.heap t.heap) ∧ FrameEnd s o t L k n
/-- a body's contract -/
def Con (l : Launch) (y : MethodName) (bs : ByteArray) (mL : Nat) (ret : Option FieldType) (ws : List Jvm.Cond) (rm : Room) (Z : State) (as : Array Value) (h0 : Heap) (Q : Option Value → Heap → Prop) : Prop :=
  MetFree l y (head1 (Jvm.Cond.code y bs mL ret :: ws) rm) (fun a U => a = as ∧ Z.Warmed39 U.vm ∧ U.heap = h0) (fun _ _ _ _ _ => True) (fun _ U o U' => ∃ v L, o = .returned v ∧ (Q v U'.heap ∧ Fr Z.heap.size L ∧ Ext Z.heap U'.heap) ∧ FrameEnd U o U' L rm.cells rm.slots)
def pu (v : Option Value) (S : List Value) : List Value := match v with | none => S | some w => w :: S
/-- a comparison in plain words -/
def cp (cd : ClassFile.Cond) (x y : Int32) : Prop := match cd with | .eq => x = y | .ne => ¬ x = y | .lt => x < y | .ge => ¬ x < y | .gt => y < x | .le => ¬ y < x
def cpn (cd : ClassFile.Cond) (x y : Int32) : Prop := match cd with | .eq => ¬ x = y | .ne => x = y | .lt => ¬ x < y | .ge => x < y | .gt => ¬ y < x | .le => y < x
variable {Z : State} {a0 : Array Value} {own : String} {bs : ByteArray} {mL : Nat} {p : Program} {l : Launch} {e : Env} {R : Room} {s : State} {m : MethodId} {args : Array Value} {below : List Frame} {meth : Method} {c : Code} {T : State} {h : Heap} {cells slots : Nat} {P : State → Prop} {pc pc' : Nat} {Ls : Array Slot} {S : List Value} {y : MethodName} {ret : Option FieldType} {rm : Room} {ws : List Jvm.Cond} {as : Array Value} {h0 : Heap} {Q : Option Value → Heap → Prop} {kc kn : Nat}
theorem St.here (K : St Z own bs mL p l e R s m args below meth c T h cells slots) : At T m c below := by obtain ⟨_, X, -⟩ := K; exact X.here
theorem St.hx (K : St Z own bs mL p l e R s m args below meth c T h cells slots) : p.tables.exec = Jvm.exec := by obtain ⟨_, -, -, -, -, q, -⟩ := K; exact q
theorem St.bts (K : St Z own bs mL p l e R s m args below meth c T h cells slots) : c.code = bs := by obtain ⟨_, -, -, -, -, -, q, -⟩ := K; exact q
theorem St.ext (K : St Z own bs mL p l e R s m args below meth c T h cells slots) : Ext Z.heap h := by obtain ⟨_, -, -, q, -⟩ := K; exact q
theorem St.sz (K : St Z own bs mL p l e R s m args below meth c T h cells slots) : Z.heap.size ≤ h.size := K.ext.1
theorem St.more (K : St Z own bs mL p l e R s m args below meth c T h cells slots) {c' s' : Nat} (h1 : cells ≤ c') (h2 : slots ≤ s') : St Z own bs mL p l e R s m args below meth c T h c' s' := by obtain ⟨lo, X, r⟩ := K; exact ⟨lo, X.more h1 h2, r⟩
theorem con_intro (hpn : plainFor y = true) (hx0 : Ext Z.heap h0)
    (body : ∀ (p : Program) (e : Env) (s : State) (m : MethodId) (below : List Frame) (meth : Method) (c : Code) (T : State), St Z y.cls bs mL p l e rm s m as below meth c T h0 0 0 → meth.sig.returnType = ret → meth.locks = false → meth.name = y.name →
      Run p e below (Fini Z s below rm.cells rm.slots Q) T (entryFrame m as mL)) : Con l y bs mL ret ws rm Z as h0 Q := by
  refine MetFree.of_bodySF hpn hisR ?_
  intro p e s m args below meth c s₁ Bd hml0 hP hK
  obtain ⟨rfl, hZ, hh⟩ := hP
  have hnm := (name_of_methodNamed Bd.named Bd.method).1
  have X0 : Stand p l e rm s m args below meth c s₁ [] 0 0 := Stand.of_body Bd
  have e0 : s₁.heap = h0 := by rw [← hh, Bd.state]; rfl
  obtain ⟨t, st, o, h1, h2, h3⟩ := body p e s m below meth c s₁ ⟨[], X0, Fr.nil _, hx0, e0, Bd.exec, Bd.bytes, hml0, hZ, findClass_of_methodNamed Bd.named⟩ Bd.returns Bd.notSynchronized hnm
  exact ⟨t, o, st, h1, h2, h3⟩
theorem Con.mono {Q' : Option Value → Heap → Prop} (M : Con l y bs mL ret ws rm Z as h0 Q) (hq : ∀ v h, Q v h → Q' v h) : Con l y bs mL ret ws rm Z as h0 Q' := by
  intro p e ha hc hk s m args below hf hA hP hK
  obtain ⟨n, o, h1, h2, h3, v, L, h4, ⟨h5, h6⟩, h7⟩ := M p e ha hc hk s m args below hf hA hP hK
  exact ⟨n, o, h1, h2, h3, v, L, h4, ⟨hq _ _ h5, h6⟩, h7⟩
theorem r_ret (K : St Z own bs mL p l e R s m args below meth c T h cells slots) {t : FieldType} {w : Value} {i : Instr} (hret : meth.sig.returnType = some t) (hlk : meth.locks = false) (hn : narrow t w = w)
    (hi : (i = .ireturn ∧ (t = .int ∨ t = .boolean ∨ t = .byte ∨ t = .char ∨ t = .short) ∧ ∃ z, w = .int z) ∨ (i = .lreturn ∧ t = .long ∧ ∃ z, w = .long z) ∨ (i = .dreturn ∧ t = .double ∧ ∃ z, w = .double z) ∨ (i = .freturn ∧ t = .float ∧ ∃ z, w = .float z) ∨ (i = .areturn ∧ t.isReference = true ∧ w.isRef = true))
    (hd : decode bs pc = .ok (i, 1)) (hc : cells ≤ kc) (hs : slots ≤ kn) (hq : Q (some w) h) : Run p e below (Fini Z s below kc kn Q) T (mkF m pc Ls (w :: S)) := by
  obtain ⟨locs, X, N, E, eT, hx, hby, hml, hZ, hown⟩ := K
  obtain ⟨fs, hr, hrun, hended, hW, hsame⟩ := X.leave (v := some w) (fun q => by rw [hret] at q; cases q)
  exact ⟨_, retOut X hx hret hn hi (hb hby hd) hr, _, hrun, hended, _, _, rfl, ⟨eT.symm ▸ hq, N, eT.symm ▸ E⟩, ⟨_, rfl⟩, hW, hsame.mono hc hs⟩
theorem r_retI (K : St Z own bs mL p l e R s m args below meth c T h cells slots) {z : Int32} (hret : meth.sig.returnType = some .int) (hlk : meth.locks = false) (hd : decode bs pc = .ok (.ireturn, 1)) (hc : cells ≤ kc) (hs : slots ≤ kn) (hq : Q (some (.int z)) h) :
    Run p e below (Fini Z s below kc kn Q) T (mkF m pc Ls (.int z :: S)) := r_ret K hret hlk rfl (Or.inl ⟨rfl, Or.inl rfl, _, rfl⟩) hd hc hs hq
theorem r_retZ (K : St Z own bs mL p l e R s m args below meth c T h cells slots) {z : Int32} (hret : meth.sig.returnType = some .boolean) (hlk : meth.locks = false) (hn : narrow .boolean (.int z) = .int z) (hd : decode bs pc = .ok (.ireturn, 1)) (hc : cells ≤ kc) (hs : slots ≤ kn) (hq : Q (some (.int z)) h) :
    Run p e below (Fini Z s below kc kn Q) T (mkF m pc Ls (.int z :: S)) := r_ret K hret hlk hn (Or.inl ⟨rfl, Or.inr (Or.inl rfl), _, rfl⟩) hd hc hs hq
theorem r_retC (K : St Z own bs mL p l e R s m args below meth c T h cells slots) {z : Int32} (hret : meth.sig.returnType = some .char) (hlk : meth.locks = false) (hn : narrow .char (.int z) = .int z) (hd : decode bs pc = .ok (.ireturn, 1)) (hc : cells ≤ kc) (hs : slots ≤ kn) (hq : Q (some (.int z)) h) :
    Run p e below (Fini Z s below kc kn Q) T (mkF m pc Ls (.int z :: S)) := r_ret K hret hlk hn (Or.inl ⟨rfl, Or.inr (Or.inr (Or.inr (Or.inl rfl))), _, rfl⟩) hd hc hs hq
theorem r_retB (K : St Z own bs mL p l e R s m args below meth c T h cells slots) {z : Int32} (hret : meth.sig.returnType = some .byte) (hlk : meth.locks = false) (hn : narrow .byte (.int z) = .int z) (hd : decode bs pc = .ok (.ireturn, 1)) (hc : cells ≤ kc) (hs : slots ≤ kn) (hq : Q (some (.int z)) h) :
    Run p e below (Fini Z s below kc kn Q) T (mkF m pc Ls (.int z :: S)) := r_ret K hret hlk hn (Or.inl ⟨rfl, Or.inr (Or.inr (Or.inl rfl)), _, rfl⟩) hd hc hs hq
theorem r_retJ (K : St Z own bs mL p l e R s m args below meth c T h cells slots) {z : Int64} (hret : meth.sig.returnType = some .long) (hlk : meth.locks = false) (hd : decode bs pc = .ok (.lreturn, 1)) (hc : cells ≤ kc) (hs : slots ≤ kn) (hq : Q (some (.long z)) h) :
    Run p e below (Fini Z s below kc kn Q) T (mkF m pc Ls (.long z :: S)) := r_ret K hret hlk rfl (Or.inr (Or.inl ⟨rfl, rfl, _, rfl⟩)) hd hc hs hq
theorem r_retA (K : St Z own bs mL p l e R s m args below meth c T h cells slots) {t : FieldType} {w : Value} (hret : meth.sig.returnType = some t) (hlk : meth.locks = false) (ht : t.isReference = true) (hw : w.isRef = true) (hd : decode bs pc = .ok (.areturn, 1)) (hc : cells ≤ kc) (hs : slots ≤ kn) (hq : Q (some w) h) :
    Run p e below (Fini Z s below kc kn Q) T (mkF m pc Ls (w :: S)) := r_ret K hret hlk (by cases t <;> cases w <;> first | rfl | (simp [FieldType.isReference, Value.isRef] at ht hw)) (Or.inr (Or.inr (Or.inr (Or.inr ⟨rfl, ht, hw⟩)))) hd hc hs hq
theorem r_retV (K : St Z own bs mL p l e R s m args below meth c T h cells slots) (hret : meth.sig.returnType = none) (hlk : meth.locks = false) (hd : decode bs pc = .ok (.return_, 1)) (hc : cells ≤ kc) (hs : slots ≤ kn) (hq : Q none h) :
    Run p e below (Fini Z s below kc kn Q) T (mkF m pc Ls []) := by
  obtain ⟨locs, X, N, E, eT, hx, hby, hml, hZ, hown⟩ := K
  obtain ⟨fs, hr, hrun, hended, hW, hsame⟩ := X.leave (v := none) (fun _ => rfl)
  exact ⟨_, X.returnOut hx hret (hb hby hd) hr, _, hrun, hended, _, _, rfl, ⟨eT.symm ▸ hq, N, eT.symm ▸ E⟩, ⟨_, rfl⟩, hW, hsame.mono hc hs⟩
theorem r_iload (K : St Z own bs mL p l e R s m args below meth c T h cells slots) {k : Nat} {v : Int32} (hd : decode bs pc = .ok (.iload k, 2)) (hp : pc + 2 = pc') (hl : Ls[k]? = some (.val (.int v))) (r : Run p e below P T (mkF m pc' Ls (.int v :: S))) : Run p e below P T (mkF m pc Ls S) := by
  subst hp; obtain ⟨t, st, q⟩ := r; exact ⟨t, XS.iload K.here K.hx rfl (hb K.bts hd) hl st, q⟩
theorem r_iloadN (K : St Z own bs mL p l e R s m args below meth c T h cells slots) {k : Fin 4} {v : Int32} (hd : decode bs pc = .ok (.iload_n k, 1)) (hp : pc + 1 = pc') (hl : Ls[k.val]? = some (.val (.int v))) (r : Run p e below P T (mkF m pc' Ls (.int v :: S))) : Run p e below P T (mkF m pc Ls S) := by
  subst hp; obtain ⟨t, st, q⟩ := r; exact ⟨t, XS.iloadN K.here K.hx rfl (hb K.bts hd) hl st, q⟩
theorem r_lload (K : St Z own bs mL p l e R s m args below meth c T h cells slots) {k : Nat} {v : Int64} (hd : decode bs pc = .ok (.lload k, 2)) (hp : pc + 2 = pc') (hl : Ls[k]? = some (.val (.long v))) (r : Run p e below P T (mkF m pc' Ls (.long v :: S))) : Run p e below P T (mkF m pc Ls S) := by
  subst hp; obtain ⟨t, st, q⟩ := r; exact ⟨t, XS.lload K.here K.hx rfl (hb K.bts hd) hl st, q⟩
theorem r_lloadN (K : St Z own bs mL p l e R s m args below meth c T h cells slots) {k : Fin 4} {v : Int64} (hd : decode bs pc = .ok (.lload_n k, 1)) (hp : pc + 1 = pc') (hl : Ls[k.val]? = some (.val (.long v))) (r : Run p e below P T (mkF m pc' Ls (.long v :: S))) : Run p e below P T (mkF m pc Ls S) := by
  subst hp; obtain ⟨t, st, q⟩ := r; exact ⟨t, XS.lloadN K.here K.hx rfl (hb K.bts hd) hl st, q⟩
theorem r_aload (K : St Z own bs mL p l e R s m args below meth c T h cells slots) {k : Nat} {v : Value} (hd : decode bs pc = .ok (.aload k, 2)) (hp : pc + 2 = pc') (hl : Ls[k]? = some (.val v)) (hv : v.isRef = true) (r : Run p e below P T (mkF m pc' Ls (v :: S))) : Run p e below P T (mkF m pc Ls S) := by
  subst hp; obtain ⟨t, st, q⟩ := r; exact ⟨t, XS.aload K.here K.hx rfl (hb K.bts hd) hl hv st, q⟩
theorem r_aloadN (K : St Z own bs mL p l e R s m args below meth c T h cells slots) {k : Fin 4} {v : Value} (hd : decode bs pc = .ok (.aload_n k, 1)) (hp : pc + 1 = pc') (hl : Ls[k.val]? = some (.val v)) (hv : v.isRef = true) (r : Run p e below P T (mkF m pc' Ls (v :: S))) : Run p e below P T (mkF m pc Ls S) := by
  subst hp; obtain ⟨t, st, q⟩ := r; exact ⟨t, XS.aloadN K.here K.hx rfl (hb K.bts hd) hl hv st, q⟩
theorem r_istore (K : St Z own bs mL p l e R s m args below meth c T h cells slots) {k : Nat} {x : Int32} {Ls' : Array Slot} (hd : decode bs pc = .ok (.istore k, 2)) (hp : pc + 2 = pc') (hl : storeLocals Ls k (.int x) = some Ls') (r : Run p e below P T (mkF m pc' Ls' S)) : Run p e below P T (mkF m pc Ls (.int x :: S)) := by
  subst hp; obtain ⟨t, st, q⟩ := r; exact ⟨t, XS.istore K.here K.hx rfl (hb K.bts hd) rfl hl st, q⟩
theorem r_istoreN (K : St Z own bs mL p l e R s m args below meth c T h cells slots) {k : Fin 4} {x : Int32} {Ls' : Array Slot} (hd : decode bs pc = .ok (.istore_n k, 1)) (hp : pc + 1 = pc') (hl : storeLocals Ls k.val (.int x) = some Ls') (r : Run p e below P T (mkF m pc' Ls' S)) : Run p e below P T (mkF m pc Ls (.int x :: S)) := by
  subst hp; obtain ⟨t, st, q⟩ := r; exact ⟨t, XS.istoreN K.here K.hx rfl (hb K.bts hd) rfl hl st, q⟩
theorem r_lstore (K : St Z own bs mL p l e R s m args below meth c T h cells slots) {k : Nat} {x : Int64} {Ls' : Array Slot} (hd : decode bs pc = .ok (.lstore k, 2)) (hp : pc + 2 = pc') (hl : storeLocals Ls k (.long x) = some Ls') (r : Run p e below P T (mkF m pc' Ls' S)) : Run p e below P T (mkF m pc Ls (.long x :: S)) := by
  subst hp; obtain ⟨t, st, q⟩ := r; exact ⟨t, XS.lstore K.here K.hx rfl (hb K.bts hd) rfl hl st, q⟩
theorem r_lstoreN (K : St Z own bs mL p l e R s m args below meth c T h cells slots) {k : Fin 4} {x : Int64} {Ls' : Array Slot} (hd : decode bs pc = .ok (.lstore_n k, 1)) (hp : pc + 1 = pc') (hl : storeLocals Ls k.val (.long x) = some Ls') (r : Run p e below P T (mkF m pc' Ls' S)) : Run p e below P T (mkF m pc Ls (.long x :: S)) := by
  subst hp; obtain ⟨t, st, q⟩ := r; exact ⟨t, XS.lstoreN K.here K.hx rfl (hb K.bts hd) rfl hl st, q⟩
theorem r_astore (K : St Z own bs mL p l e R s m args below meth c T h cells slots) {k : Nat} {x : Value} {Ls' : Array Slot} (hd : decode bs pc = .ok (.astore k, 2)) (hp : pc + 2 = pc') (hv : x.isRef = true) (hl : storeLocals Ls k x = some Ls') (r : Run p e below P T (mkF m pc' Ls' S)) : Run p e below P T (mkF m pc Ls (x :: S)) := by
  subst hp; obtain ⟨t, st, q⟩ := r; exact ⟨t, XS.astore K.here K.hx rfl (hb K.bts hd) rfl hv hl st, q⟩
theorem r_astoreN (K : St Z own bs mL p l e R s m args below meth c T h cells slots) {k : Fin 4} {x : Value} {Ls' : Array Slot} (hd : decode bs pc = .ok (.astore_n k, 1)) (hp : pc + 1 = pc') (hv : x.isRef = true) (hl : storeLocals Ls k.val x = some Ls') (r : Run p e below P T (mkF m pc' Ls' S)) : Run p e below P T (mkF m pc Ls (x :: S)) := by
  subst hp; obtain ⟨t, st, q⟩ := r; exact ⟨t, XS.astoreN K.here K.hx rfl (hb K.bts hd) rfl hv hl st, q⟩
theorem r_iinc (K : St Z own bs mL p l e R s m args below meth c T h cells slots) {k : Nat} {cst : Int} {x v : Int32} {Ls' : Array Slot} (hd : decode bs pc = .ok (.iinc k cst, 3)) (hp : pc + 3 = pc') (hv : Int32.ofInt cst = v) (hl : Ls[k]? = some (.val (.int x))) (hl' : storeLocals Ls k (.int (x + v)) = some Ls') (r : Run p e below P T (mkF m pc' Ls' S)) : Run p e below P T (mkF m pc Ls S) := by
  subst hp hv; obtain ⟨t, st, q⟩ := r; exact ⟨t, XS.iinc K.here K.hx rfl (hb K.bts hd) hl hl' st, q⟩
theorem r_iconst (K : St Z own bs mL p l e R s m args below meth c T h cells slots) {i : Int} {v : Int32} (hd : decode bs pc = .ok (.iconst i, 1)) (hp : pc + 1 = pc') (hv : Int32.ofInt i = v) (r : Run p e below P T (mkF m pc' Ls (.int v :: S))) : Run p e below P T (mkF m pc Ls S) := by
  subst hp hv; obtain ⟨t, st, q⟩ := r; exact ⟨t, XS.iconst K.here K.hx rfl (hb K.bts hd) st, q⟩
theorem r_bipush (K : St Z own bs mL p l e R s m args below meth c T h cells slots) {i : Int} {v : Int32} (hd : decode bs pc = .ok (.bipush i, 2)) (hp : pc + 2 = pc') (hv : (Int8.ofInt i).toInt32 = v) (r : Run p e below P T (mkF m pc' Ls (.int v :: S))) : Run p e below P T (mkF m pc Ls S) := by
  subst hp hv; obtain ⟨t, st, q⟩ := r; exact ⟨t, XS.bipush K.here K.hx rfl (hb K.bts hd) st, q⟩
theorem r_sipush (K : St Z own bs mL p l e R s m args below meth c T h cells slots) {i : Int} {v : Int32} (hd : decode bs pc = .ok (.sipush i, 3)) (hp : pc + 3 = pc') (hv : (Int16.ofInt i).toInt32 = v) (r : Run p e below P T (mkF m pc' Ls (.int v :: S))) : Run p e below P T (mkF m pc Ls S) := by
  subst hp hv; obtain ⟨t, st, q⟩ := r; exact ⟨t, XS.sipush K.here K.hx rfl (hb K.bts hd) st, q⟩
theorem r_lconst (K : St Z own bs mL p l e R s m args below meth c T h cells slots) {k : Fin 2} {v : Int64} (hd : decode bs pc = .ok (.lconst k, 1)) (hp : pc + 1 = pc') (hv : Int64.ofNat k = v) (r : Run p e below P T (mkF m pc' Ls (.long v :: S))) : Run p e below P T (mkF m pc Ls S) := by
  subst hp hv; obtain ⟨t, st, q⟩ := r; exact ⟨t, XS.lconst K.here K.hx rfl (hb K.bts hd) st, q⟩
theorem r_aconstNull (K : St Z own bs mL p l e R s m args below meth c T h cells slots)  (hd : decode bs pc = .ok (.aconst_null, 1)) (hp : pc + 1 = pc')  (r : Run p e below P T (mkF m pc' Ls (.null :: S))) : Run p e below P T (mkF m pc Ls S) := by
  subst hp; obtain ⟨t, st, q⟩ := r; exact ⟨t, XS.aconstNull K.here K.hx rfl (hb K.bts hd)  st, q⟩
theorem r_iadd (K : St Z own bs mL p l e R s m args below meth c T h cells slots) {x y : Int32} (hd : decode bs pc = .ok (.iadd, 1)) (hp : pc + 1 = pc')  (r : Run p e below P T (mkF m pc' Ls (.int (x + y) :: S))) : Run p e below P T (mkF m pc Ls (.int y :: .int x :: S)) := by
  subst hp; obtain ⟨t, st, q⟩ := r; exact ⟨t, XS.iadd K.here K.hx rfl (hb K.bts hd) rfl st, q⟩
theorem r_isub (K : St Z own bs mL p l e R s m args below meth c T h cells slots) {x y : Int32} (hd : decode bs pc = .ok (.isub, 1)) (hp : pc + 1 = pc')  (r : Run p e below P T (mkF m pc' Ls (.int (x - y) :: S))) : Run p e below P T (mkF m pc Ls (.int y :: .int x :: S)) := by
  subst hp; obtain ⟨t, st, q⟩ := r; exact ⟨t, XS.isub K.here K.hx rfl (hb K.bts hd) rfl st, q⟩
theorem r_imul (K : St Z own bs mL p l e R s m args below meth c T h cells slots) {x y : Int32} (hd : decode bs pc = .ok (.imul, 1)) (hp : pc + 1 = pc')  (r : Run p e below P T (mkF m pc' Ls (.int (x * y) :: S))) : Run p e below P T (mkF m pc Ls (.int y :: .int x :: S)) := by
  subst hp; obtain ⟨t, st, q⟩ := r; exact ⟨t, XS.imul K.here K.hx rfl (hb K.bts hd) rfl st, q⟩
theorem r_iand (K : St Z own bs mL p l e R s m args below meth c T h cells slots) {x y : Int32} (hd : decode bs pc = .ok (.iand, 1)) (hp : pc + 1 = pc')  (r : Run p e below P T (mkF m pc' Ls (.int (x &&& y) :: S))) : Run p e below P T (mkF m pc Ls (.int y :: .int x :: S)) := by
  subst hp; obtain ⟨t, st, q⟩ := r; exact ⟨t, XS.iand K.here K.hx rfl (hb K.bts hd) rfl st, q⟩
theorem r_ior (K : St Z own bs mL p l e R s m args below meth c T h cells slots) {x y : Int32} (hd : decode bs pc = .ok (.ior, 1)) (hp : pc + 1 = pc')  (r : Run p e below P T (mkF m pc' Ls (.int (x ||| y) :: S))) : Run p e below P T (mkF m pc Ls (.int y :: .int x :: S)) := by
  subst hp; obtain ⟨t, st, q⟩ := r; exact ⟨t, XS.ior K.here K.hx rfl (hb K.bts hd) rfl st, q⟩
theorem r_ixor (K : St Z own bs mL p l e R s m args below meth c T h cells slots) {x y : Int32} (hd : decode bs pc = .ok (.ixor, 1)) (hp : pc + 1 = pc')  (r : Run p e below P T (mkF m pc' Ls (.int (x ^^^ y) :: S))) : Run p e below P T (mkF m pc Ls (.int y :: .int x :: S)) := by
  subst hp; obtain ⟨t, st, q⟩ := r; exact ⟨t, XS.ixor K.here K.hx rfl (hb K.bts hd) rfl st, q⟩
theorem r_ishl (K : St Z own bs mL p l e R s m args below meth c T h cells slots) {x y : Int32} (hd : decode bs pc = .ok (.ishl, 1)) (hp : pc + 1 = pc')  (r : Run p e below P T (mkF m pc' Ls (.int (x <<< (y &&& 31)) :: S))) : Run p e below P T (mkF m pc Ls (.int y :: .int x :: S)) := by
  subst hp; obtain ⟨t, st, q⟩ := r; exact ⟨t, XS.ishl K.here K.hx rfl (hb K.bts hd) rfl st, q⟩
theorem r_ishr (K : St Z own bs mL p l e R s m args below meth c T h cells slots) {x y : Int32} (hd : decode bs pc = .ok (.ishr, 1)) (hp : pc + 1 = pc')  (r : Run p e below P T (mkF m pc' Ls (.int (x >>> (y &&& 31)) :: S))) : Run p e below P T (mkF m pc Ls (.int y :: .int x :: S)) := by
  subst hp; obtain ⟨t, st, q⟩ := r; exact ⟨t, XS.ishr K.here K.hx rfl (hb K.bts hd) rfl st, q⟩
theorem r_iushr (K : St Z own bs mL p l e R s m args below meth c T h cells slots) {x y : Int32} (hd : decode bs pc = .ok (.iushr, 1)) (hp : pc + 1 = pc')  (r : Run p e below P T (mkF m pc' Ls (.int ((x.toUInt32 >>> (y &&& 31).toUInt32).toInt32) :: S))) : Run p e below P T (mkF m pc Ls (.int y :: .int x :: S)) := by
  subst hp; obtain ⟨t, st, q⟩ := r; exact ⟨t, XS.iushr K.here K.hx rfl (hb K.bts hd) rfl st, q⟩
theorem r_ladd (K : St Z own bs mL p l e R s m args below meth c T h cells slots) {x y : Int64} (hd : decode bs pc = .ok (.ladd, 1)) (hp : pc + 1 = pc')  (r : Run p e below P T (mkF m pc' Ls (.long (x + y) :: S))) : Run p e below P T (mkF m pc Ls (.long y :: .long x :: S)) := by
  subst hp; obtain ⟨t, st, q⟩ := r; exact ⟨t, XS.ladd K.here K.hx rfl (hb K.bts hd) rfl st, q⟩
theorem r_lsub (K : St Z own bs mL p l e R s m args below meth c T h cells slots) {x y : Int64} (hd : decode bs pc = .ok (.lsub, 1)) (hp : pc + 1 = pc')  (r : Run p e below P T (mkF m pc' Ls (.long (x - y) :: S))) : Run p e below P T (mkF m pc Ls (.long y :: .long x :: S)) := by
  subst hp; obtain ⟨t, st, q⟩ := r; exact ⟨t, XS.lsub K.here K.hx rfl (hb K.bts hd) rfl st, q⟩
theorem r_lmul (K : St Z own bs mL p l e R s m args below meth c T h cells slots) {x y : Int64} (hd : decode bs pc = .ok (.lmul, 1)) (hp : pc + 1 = pc')  (r : Run p e below P T (mkF m pc' Ls (.long (x * y) :: S))) : Run p e below P T (mkF m pc Ls (.long y :: .long x :: S)) := by
  subst hp; obtain ⟨t, st, q⟩ := r; exact ⟨t, XS.lmul K.here K.hx rfl (hb K.bts hd) rfl st, q⟩
theorem r_land (K : St Z own bs mL p l e R s m args below meth c T h cells slots) {x y : Int64} (hd : decode bs pc = .ok (.land, 1)) (hp : pc + 1 = pc')  (r : Run p e below P T (mkF m pc' Ls (.long (x &&& y) :: S))) : Run p e below P T (mkF m pc Ls (.long y :: .long x :: S)) := by
  subst hp; obtain ⟨t, st, q⟩ := r; exact ⟨t, XS.land K.here K.hx rfl (hb K.bts hd) rfl st, q⟩
theorem r_idiv (K : St Z own bs mL p l e R s m args below meth c T h cells slots) {x y : Int32} (hd : decode bs pc = .ok (.idiv, 1)) (hp : pc + 1 = pc') (hy : y ≠ 0) (r : Run p e below P T (mkF m pc' Ls (.int (x / y) :: S))) : Run p e below P T (mkF m pc Ls (.int y :: .int x :: S)) := by
  subst hp; obtain ⟨t, st, q⟩ := r; exact ⟨t, XS.idiv K.here K.hx rfl (hb K.bts hd) rfl hy st, q⟩
theorem r_ldiv (K : St Z own bs mL p l e R s m args below meth c T h cells slots) {x y : Int64} (hd : decode bs pc = .ok (.ldiv, 1)) (hp : pc + 1 = pc') (hy : y ≠ 0) (r : Run p e below P T (mkF m pc' Ls (.long (x / y) :: S))) : Run p e below P T (mkF m pc Ls (.long y :: .long x :: S)) := by
  subst hp; obtain ⟨t, st, q⟩ := r; exact ⟨t, XS.ldiv K.here K.hx rfl (hb K.bts hd) rfl hy st, q⟩
theorem r_lrem (K : St Z own bs mL p l e R s m args below meth c T h cells slots) {x y : Int64} (hd : decode bs pc = .ok (.lrem, 1)) (hp : pc + 1 = pc') (hy : y ≠ 0) (r : Run p e below P T (mkF m pc' Ls (.long (x - (x / y) * y) :: S))) : Run p e below P T (mkF m pc Ls (.long y :: .long x :: S)) := by
  subst hp; obtain ⟨t, st, q⟩ := r; exact ⟨t, XS.lrem K.here K.hx rfl (hb K.bts hd) rfl hy st, q⟩
theorem r_irem (K : St Z own bs mL p l e R s m args below meth c T h cells slots) {x y : Int32} (hd : decode bs pc = .ok (.irem, 1)) (hp : pc + 1 = pc') (hy : y ≠ 0) (r : Run p e below P T (mkF m pc' Ls (.int (x % y) :: S))) : Run p e below P T (mkF m pc Ls (.int y :: .int x :: S)) := by
  subst hp; obtain ⟨_, X, -⟩ := id K; obtain ⟨t, st, q⟩ := r; exact ⟨t, iremM X K.hx rfl (hb K.bts hd) rfl hy st, q⟩
theorem r_ineg (K : St Z own bs mL p l e R s m args below meth c T h cells slots) {x : Int32} (hd : decode bs pc = .ok (.ineg, 1)) (hp : pc + 1 = pc')  (r : Run p e below P T (mkF m pc' Ls (.int (-x) :: S))) : Run p e below P T (mkF m pc Ls (.int x :: S)) := by
  subst hp; obtain ⟨t, st, q⟩ := r; exact ⟨t, XS.ineg K.here K.hx rfl (hb K.bts hd) rfl st, q⟩
theorem r_i2b (K : St Z own bs mL p l e R s m args below meth c T h cells slots) {x : Int32} (hd : decode bs pc = .ok (.i2b, 1)) (hp : pc + 1 = pc')  (r : Run p e below P T (mkF m pc' Ls (.int (x.toInt8.toInt32) :: S))) : Run p e below P T (mkF m pc Ls (.int x :: S)) := by
  subst hp; obtain ⟨t, st, q⟩ := r; exact ⟨t, XS.i2b K.here K.hx rfl (hb K.bts hd) rfl st, q⟩
theorem r_i2c (K : St Z own bs mL p l e R s m args below meth c T h cells slots) {x : Int32} (hd : decode bs pc = .ok (.i2c, 1)) (hp : pc + 1 = pc')  (r : Run p e below P T (mkF m pc' Ls (.int (x.toUInt32.toUInt16.toUInt32.toInt32) :: S))) : Run p e below P T (mkF m pc Ls (.int x :: S)) := by
  subst hp; obtain ⟨t, st, q⟩ := r; exact ⟨t, XS.i2c K.here K.hx rfl (hb K.bts hd) rfl st, q⟩
theorem r_i2l (K : St Z own bs mL p l e R s m args below meth c T h cells slots) {x : Int32} (hd : decode bs pc = .ok (.i2l, 1)) (hp : pc + 1 = pc')  (r : Run p e below P T (mkF m pc' Ls (.long (x.toInt64) :: S))) : Run p e below P T (mkF m pc Ls (.int x :: S)) := by
  subst hp; obtain ⟨t, st, q⟩ := r; exact ⟨t, XS.i2l K.here K.hx rfl (hb K.bts hd) rfl st, q⟩
theorem r_l2i (K : St Z own bs mL p l e R s m args below meth c T h cells slots) {x : Int64} (hd : decode bs pc = .ok (.l2i, 1)) (hp : pc + 1 = pc')  (r : Run p e below P T (mkF m pc' Ls (.int (x.toInt32) :: S))) : Run p e below P T (mkF m pc Ls (.long x :: S)) := by
  subst hp; obtain ⟨t, st, q⟩ := r; exact ⟨t, XS.l2i K.here K.hx rfl (hb K.bts hd) rfl st, q⟩
theorem r_lneg (K : St Z own bs mL p l e R s m args below meth c T h cells slots) {x : Int64} (hd : decode bs pc = .ok (.lneg, 1)) (hp : pc + 1 = pc')  (r : Run p e below P T (mkF m pc' Ls (.long (-x) :: S))) : Run p e below P T (mkF m pc Ls (.long x :: S)) := by
  subst hp; obtain ⟨t, st, q⟩ := r; exact ⟨t, XS.lneg K.here K.hx rfl (hb K.bts hd) rfl st, q⟩
theorem r_dup (K : St Z own bs mL p l e R s m args below meth c T h cells slots) {x : Value} (hd : decode bs pc = .ok (.dup, 1)) (hp : pc + 1 = pc') (hc : x.category = 1) (r : Run p e below P T (mkF m pc' Ls (x :: x :: S))) : Run p e below P T (mkF m pc Ls (x :: S)) := by
  subst hp; obtain ⟨t, st, q⟩ := r; exact ⟨t, XS.dup K.here K.hx rfl (hb K.bts hd) rfl hc st, q⟩
theorem r_pop (K : St Z own bs mL p l e R s m args below meth c T h cells slots) {x : Value} (hd : decode bs pc = .ok (.pop, 1)) (hp : pc + 1 = pc') (hc : x.category = 1) (r : Run p e below P T (mkF m pc' Ls S)) : Run p e below P T (mkF m pc Ls (x :: S)) := by
  subst hp; obtain ⟨t, st, q⟩ := r; exact ⟨t, XS.pop K.here K.hx rfl (hb K.bts hd) rfl hc st, q⟩
theorem r_lcmp (K : St Z own bs mL p l e R s m args below meth c T h cells slots) {x y : Int64} (hd : decode bs pc = .ok (.lcmp, 1)) (hp : pc + 1 = pc')  (r : Run p e below P T (mkF m pc' Ls (.int (lcmpW x y) :: S))) : Run p e below P T (mkF m pc Ls (.long y :: .long x :: S)) := by
  subst hp; obtain ⟨t, st, q⟩ := r; exact ⟨t, XS.lcmp K.here K.hx rfl (hb K.bts hd) rfl st, q⟩
theorem r_goto (K : St Z own bs mL p l e R s m args below meth c T h cells slots) {o : Int} (hd : decode bs pc = .ok (.goto o, 3)) (ho : 0 ≤ (pc : Int) + o) (hp : ((pc : Int) + o).toNat = pc') (r : Run p e below P T (mkF m pc' Ls S)) : Run p e below P T (mkF m pc Ls S) := by
  obtain ⟨t, st, q⟩ := r; exact ⟨t, XS.goto K.here K.hx rfl (pc0 := pc) (pc' := pc') rfl (hb K.bts hd) ho hp st, q⟩
theorem cp_t {cd : ClassFile.Cond} {x y : Int32} (h : cp cd x y) : if_icmp.holds cd x y = true := by
  cases cd
  · exact (teq h).1
  · exact (feq h).2
  · exact (tlt h).1
  · exact (flt h).2.1
  · exact (tlt h).2.2.1
  · exact (flt h).2.2.2
theorem cp_n {cd : ClassFile.Cond} {x y : Int32} (h : ¬ cp cd x y) : cpn cd x y := by
  cases cd
  · exact h
  · exact Classical.not_not.mp h
  · exact h
  · exact Classical.not_not.mp h
  · exact h
  · exact Classical.not_not.mp h
theorem cp_f {cd : ClassFile.Cond} {x y : Int32} (h : cpn cd x y) : if_icmp.holds cd x y = false := by
  cases cd
  · exact (feq h).1
  · exact (teq h).2
  · exact (flt h).1
  · exact (tlt h).2.1
  · exact (flt h).2.2.1
  · exact (tlt h).2.2.2
theorem r_icmp (K : St Z own bs mL p l e R s m args below meth c T h cells slots) {cd : ClassFile.Cond} {x y : Int32} {o : Int} {pc1 pc2 : Nat} (hd : decode bs pc = .ok (.if_icmp cd o, 3)) (h1 : pc + 3 = pc1) (ho : 0 ≤ (pc : Int) + o) (h2 : ((pc : Int) + o).toNat = pc2)
    (r2 : cp cd x y → Run p e below P T (mkF m pc2 Ls S)) (r1 : cpn cd x y → Run p e below P T (mkF m pc1 Ls S)) : Run p e below P T (mkF m pc Ls (.int y :: .int x :: S)) := by
  subst h1
  by_cases hc : cp cd x y
  · obtain ⟨t, st, q⟩ := r2 hc; exact ⟨t, XS.icmpYes K.here K.hx rfl (pc0 := pc) (pc' := pc2) rfl (hb K.bts hd) rfl (cp_t hc) ho h2 st, q⟩
  · obtain ⟨t, st, q⟩ := r1 (cp_n hc); exact ⟨t, XS.icmpNo K.here K.hx rfl (hb K.bts hd) rfl (cp_f (cp_n hc)) st, q⟩
theorem r_if (K : St Z own bs mL p l e R s m args below meth c T h cells slots) {cd : ClassFile.Cond} {x : Int32} {o : Int} {pc1 pc2 : Nat} (hd : decode bs pc = .ok (.ifCond cd o, 3)) (h1 : pc + 3 = pc1) (ho : 0 ≤ (pc : Int) + o) (h2 : ((pc : Int) + o).toNat = pc2)
    (r2 : cp cd x 0 → Run p e below P T (mkF m pc2 Ls S)) (r1 : cpn cd x 0 → Run p e below P T (mkF m pc1 Ls S)) : Run p e below P T (mkF m pc Ls (.int x :: S)) := by
  subst h1
  by_cases hc : cp cd x 0
  · obtain ⟨t, st, q⟩ := r2 hc; exact ⟨t, XS.ifYes K.here K.hx rfl (pc0 := pc) (pc' := pc2) rfl (hb K.bts hd) rfl ((if0 _ _).trans (cp_t hc)) ho h2 st, q⟩
  · obtain ⟨t, st, q⟩ := r1 (cp_n hc); exact ⟨t, XS.ifNo K.here K.hx rfl (hb K.bts hd) rfl ((if0 _ _).trans (cp_f (cp_n hc))) st, q⟩
theorem r_nonnullYes (K : St Z own bs mL p l e R s m args below meth c T h cells slots) {b : Addr} {o : Int} (hd : decode bs pc = .ok (.ifnonnull o, 3)) (ho : 0 ≤ (pc : Int) + o) (h2 : ((pc : Int) + o).toNat = pc') (r : Run p e below P T (mkF m pc' Ls S)) : Run p e below P T (mkF m pc Ls (.ref b :: S)) := by
  obtain ⟨t, st, q⟩ := r; exact ⟨t, XS.ifnonnullYes K.here K.hx rfl (pc0 := pc) (pc' := pc') rfl (hb K.bts hd) rfl ho h2 st, q⟩
theorem r_nonnullNo (K : St Z own bs mL p l e R s m args below meth c T h cells slots) {o : Int} (hd : decode bs pc = .ok (.ifnonnull o, 3)) (h1 : pc + 3 = pc') (r : Run p e below P T (mkF m pc' Ls S)) : Run p e below P T (mkF m pc Ls (.null :: S)) := by
  subst h1; obtain ⟨t, st, q⟩ := r; exact ⟨t, XS.ifnonnullNo K.here K.hx rfl (hb K.bts hd) rfl st, q⟩
theorem r_getF (K : St Z own bs mL p l e R s m args below meth c T h cells slots) {O n d : String} {index : Nat} {a : Addr} {v : Value} (w : (Jvm.Cond.fieldLink own index O n d).before a0 Z = true) (F : Fld Z h a O n d v) (hd : decode bs pc = .ok (.getfield index, 3)) (hp : pc + 3 = pc')
    (r : ∀ T', St Z own bs mL p l e R s m args below meth c T' h cells slots → Run p e below P T' (mkF m pc' Ls (v :: S))) : Run p e below P T (mkF m pc Ls (.ref a :: S)) := by
  subst hp; obtain ⟨locs, X, N, E, eT, hx, hby, hml, hZ, hown⟩ := K
  obtain ⟨T', X', e', st⟩ := getF X hx hZ hown (host := "") (Or.inl w) Via.refl eT F (g := mkF m pc Ls (.ref a :: S)) rfl rfl (hb hby hd)
  obtain ⟨t, st2, q⟩ := r T' ⟨locs, X', N, E, e', hx, hby, hml, hZ, hown⟩
  exact ⟨t, st _ st2, q⟩
theorem r_getS (K : St Z own bs mL p l e R s m args below meth c T h cells slots) {O n d : String} {index : Nat} {v : Value} (w : (Jvm.Cond.fieldLink own index O n d).before a0 Z = true) (F : Sta Z h O n d v) (hd : decode bs pc = .ok (.getstatic index, 3)) (hp : pc + 3 = pc')
    (r : ∀ T', St Z own bs mL p l e R s m args below meth c T' h cells slots → Run p e below P T' (mkF m pc' Ls (v :: S))) : Run p e below P T (mkF m pc Ls S) := by
  subst hp; obtain ⟨locs, X, N, E, eT, hx, hby, hml, hZ, hown⟩ := K
  obtain ⟨T', X', e', st⟩ := getS X hx hZ hown (host := "") w Via.refl eT F (g := mkF m pc Ls S) rfl (hb hby hd)
  obtain ⟨t, st2, q⟩ := r T' ⟨locs, X', N, E, e', hx, hby, hml, hZ, hown⟩
  exact ⟨t, st _ st2, q⟩
theorem old_wr {a : Addr} {sl : Nat} {v : Value} {h' : Heap} (E : Ext Z.heap h) (W : Wr h h' a sl v) (g : Z.heap.size ≤ a) : Ext Z.heap h' := (Old.wr (Z := Z) (n0 := Z.heap.size) ⟨rfl, E⟩ W g).2
theorem fr_snoc {a : Addr} {sl k : Nat} {locs : List Loc} (N : Fr k locs) (g : k ≤ a) : Fr k (locs ++ [⟨a, sl⟩]) := N.app fun y hy => by cases List.mem_singleton.mp hy; exact g
theorem r_putF (K : St Z own bs mL p l e R s m args below meth c T h cells slots) {O n d C : String} {index kk : Nat} {ty : FieldType} {a : Addr} {v old : Value} (w : (Jvm.Cond.fieldLink own index O n d).before a0 Z = true) (F : Fld Z h a O n d old) (E0 : Exa Z h a C) (g : Z.heap.size ≤ a)
    (L : (Jvm.Cond.lays C O n d).before a0 Z = true ∨ ((Jvm.Cond.laysFinal C O n d).before a0 Z = true ∧ own = O ∧ meth.name = "<init>")) (wi : (Jvm.Cond.instantiable C kk).before a0 Z = true) (hty : parseFieldDescriptor d = some ty) (hn : narrow ty v = v) (hf : fits ty v = true) (hd : decode bs pc = .ok (.putfield index, 3)) (hp : pc + 3 = pc')
    (r : ∀ T' h', St Z own bs mL p l e R s m args below meth c T' h' cells slots → Wr h h' a (Jvm.RoadKit.slotOf Z O n d) v → Run p e below P T' (mkF m pc' Ls S)) : Run p e below P T (mkF m pc Ls (v :: .ref a :: S)) := by
  subst hp; obtain ⟨locs, X, N, E, eT, hx, hby, hml, hZ, hown⟩ := K
  obtain ⟨T', h', X', e', W, st⟩ := putF X hx hZ hown (host := "") (Or.inl w) Via.refl eT F E0 L wi hty hn hf (g := mkF m pc Ls (v :: .ref a :: S)) rfl rfl (hb hby hd)
  obtain ⟨t, st2, q⟩ := r T' h' ⟨_, X', fr_snoc N g, old_wr E W g, e', hx, hby, hml, hZ, hown⟩ W
  exact ⟨t, st _ st2, q⟩
theorem ext_tr {h1 h2 h3 : Heap} (E : Ext h1 h2) (F : Ext h2 h3) : Ext h1 h3 := ⟨Nat.le_trans E.1 F.1, fun a c q => F.2 a c (E.2 a c q)⟩
theorem r_new (K : St Z own bs mL p l e R s m args below meth c T h cells slots) {C : String} {index n : Nat} (w : (Jvm.Cond.classLink own index C).before a0 Z = true) (wi : (Jvm.Cond.instantiable C n).before a0 Z = true) (wz : (Jvm.Cond.initialized C).before a0 Z = true) (hd : decode bs pc = .ok (.new index, 3)) (hp : pc + 3 = pc') (hc : cells + 1 ≤ R.cells) (hl : slots + n ≤ R.slots)
    (r : ∀ T' h' a, a = h.size → St Z own bs mL p l e R s m args below meth c T' h' (cells + 1) (slots + n) → Ext h h' → Exa Z h' a C → (∀ {O nm d : String} {ty : FieldType}, Laid Z a0 C O nm d → parseFieldDescriptor d = some ty → Fld Z h' a O nm d (defaultValue ty)) → Run p e below P T' (mkF m pc' Ls (.ref a :: S))) : Run p e below P T (mkF m pc Ls S) := by
  subst hp; obtain ⟨locs, X, N, E, eT, hx, hby, hml, hZ, hown⟩ := K
  obtain ⟨T', h', X', e', E', A, D, -, st⟩ := newO X hx hZ hown w wi wz eT (g := mkF m pc Ls S) rfl (hb hby hd) hc hl
  obtain ⟨t, st2, q⟩ := r T' h' _ rfl ⟨_, X', N, ext_tr E E', e', hx, hby, hml, hZ, hown⟩ E' A D
  exact ⟨t, st _ st2, q⟩
theorem r_newarr (K : St Z own bs mL p l e R s m args below meth c T h cells slots) {aty : ArrayType} {n : Int32} {cap : Nat} (w : (Jvm.Cond.arrayClass (newarray.typeOf aty)).before a0 Z = true) (hd : decode bs pc = .ok (.newarray aty, 2)) (hp : pc + 2 = pc') (hn : ¬ n < 0) (hcap : n.toNatClampNeg ≤ cap) (hb8 : cap * 8 ≤ 536870912) (hc : cells + 1 ≤ R.cells) (hl : slots + cap ≤ R.slots)
    (r : ∀ T' h' a k, a = h.size → St Z own bs mL p l e R s m args below meth c T' h' (cells + 1) (slots + cap) → Ext h h' → Arv Z h' a k (newarray.typeOf aty) n [] (defaultValue (newarray.typeOf aty)) → Run p e below P T' (mkF m pc' Ls (.ref a :: S))) : Run p e below P T (mkF m pc Ls (.int n :: S)) := by
  subst hp; obtain ⟨locs, X, N, E, eT, hx, hby, hml, hZ, hown⟩ := K
  obtain ⟨T', h', cA, X', e', E', A, st⟩ := newP X hx hZ w eT (g := mkF m pc Ls (.int n :: S)) rfl (hb hby hd) rfl hn hcap hb8 hc hl
  obtain ⟨t, st2, q⟩ := r T' h' _ cA rfl ⟨_, X', N, ext_tr E E', e', hx, hby, hml, hZ, hown⟩ E' (Arv.new A hn)
  exact ⟨t, st _ st2, q⟩
theorem r_init (K : St Z own bs mL p l e R s m args below meth c T h cells slots) {index W : Nat} {a : Addr} (w1 : (Jvm.Cond.methodLink own index Lib.objectInit).before a0 Z = true) (w2 : (Jvm.Cond.instanceMethod Lib.objectInit).before a0 Z = true) (w3 : (Jvm.Cond.code Lib.objectInit object_method_1_code 1 none).before a0 Z = true) (hsz : Ls.size = mL) (hd : decode bs pc = .ok (.invokespecial index, 3)) (hp : pc + 3 = pc')
    (hf : 1 ≤ R.frames) (hW : (S.map fun v => v.category).sum ≤ W) (hl : W + 12 ≤ R.locals) (r : ∀ T', St Z own bs mL p l e R s m args below meth c T' h cells slots → Run p e below P T' (mkF m pc' Ls S)) : Run p e below P T (mkF m pc Ls (.ref a :: S)) := by
  subst hp; obtain ⟨locs, X, N, E, eT, hx, hby, hml, hZ, hown⟩ := K
  obtain ⟨T', X', e', st⟩ := initO X hx hZ hown w1 w2 w3 eT (g := mkF m pc Ls (.ref a :: S)) rfl (by rw [hml]; exact hsz) rfl (hb hby hd) hf (W := W) (by show 2 * 0 + _ ≤ _; omega) hl
  obtain ⟨t, st2, q⟩ := r T' ⟨_, X', N, E, e', hx, hby, hml, hZ, hown⟩
  exact ⟨t, st _ st2, q⟩
theorem r_static (K : St Z own bs mL p l e R s m args below meth c T h cells slots) {index : Nat} {bs' : ByteArray} {mL' : Nat} {argsL rest : List Value} {W : Nat} {ps : List FieldType} {rt : Option FieldType} (M : Con l y bs' mL' ret [] rm Z argsL.toArray h Q)
    (w1 : (Jvm.Cond.methodLink own index y).before a0 Z = true) (w2 : (Jvm.Cond.static y).before a0 Z = true) (w3 : (Jvm.Cond.initialized y.cls).before a0 Z = true) (w4 : (Jvm.Cond.code y bs' mL' ret).before a0 Z = true) (hy : y.cls ≠ "java/lang/invoke/MethodHandle" ∧ y.cls ≠ "java/lang/invoke/VarHandle")
    (pd : parseMethodDescriptor y.desc = some ⟨ps, rt⟩) (hlen : argsL.length = ps.length) (hS : S = argsL.reverse ++ rest) (hsz : Ls.size = mL) (hW : (rest.map fun v => v.category).sum ≤ W) (hf : rm.frames + 1 ≤ R.frames) (hl : W + (mL' + 11) + rm.locals ≤ R.locals) (hc : cells + rm.cells ≤ R.cells) (hs : slots + rm.slots ≤ R.slots)
    (hd : decode bs pc = .ok (.invokestatic index, 3)) (hp : pc + 3 = pc')
    (r : ∀ v T' h', St Z own bs mL p l e R s m args below meth c T' h' (cells + rm.cells) (slots + rm.slots) → Q v h' → Run p e below P T' (mkF m pc' Ls (pu v rest))) : Run p e below P T (mkF m pc Ls S) := by
  subst hp hS; obtain ⟨locs, X, N, E, eT, hx, hby, hml, hZ, hown⟩ := K
  obtain ⟨v, vm₁, ⟨T', L', k', n'⟩, -, X', ⟨Lc, hQ, l1, y1, z1⟩, st⟩ := Jvm.LawKit.callS X hx (y := y) hown (mvT hZ w1) (mvT hZ w2) (mvT hZ w3) (mvT hZ w4) hy (backOf (W := W) (as' := argsL.toArray) (h := h) (Q := fun v h L => Q v h ∧ Fr Z.heap.size L ∧ Ext Z.heap h) M hZ w4 w3 hf hl) (g := mkF m pc Ls (argsL.reverse ++ rest)) rfl (by rw [hml]; exact hsz) (argsL := argsL) (rest := rest) (lenOf pd hlen) rfl (by show 2 * 0 + _ ≤ _; omega) (hb hby hd) (fun _ _ => ⟨rfl, eT, hc, hs⟩)
  dsimp only [Pt.U, Pt.locs, Pt.cells, Pt.slots] at X' l1 y1 z1 st hQ
  subst l1 y1 z1
  obtain ⟨t, st2, q⟩ := r v T' T'.heap ⟨_, X', N.app hQ.2.1, hQ.2.2, rfl, hx, hby, hml, hZ, hown⟩ hQ.1
  refine ⟨t, st _ ?_, q⟩
  cases v <;> exact st2
theorem r_special (K : St Z own bs mL p l e R s m args below meth c T h cells slots) {index : Nat} {bs' : ByteArray} {mL' : Nat} {a : Addr} {argsL rest : List Value} {W : Nat} {ps : List FieldType} {rt : Option FieldType} (M : Con l y bs' mL' none [] rm Z (Value.ref a :: argsL).toArray h Q) (hy1 : y.name = "<init>")
    (w1 : (Jvm.Cond.methodLink own index y).before a0 Z = true) (w2 : (Jvm.Cond.instanceMethod y).before a0 Z = true) (w3 : (Jvm.Cond.initialized y.cls).before a0 Z = true) (w4 : (Jvm.Cond.code y bs' mL' none).before a0 Z = true) (hy : y.cls ≠ "java/lang/invoke/MethodHandle" ∧ y.cls ≠ "java/lang/invoke/VarHandle")
    (pd : parseMethodDescriptor y.desc = some ⟨ps, rt⟩) (hlen : argsL.length = ps.length) (hS : S = argsL.reverse ++ .ref a :: rest) (hsz : Ls.size = mL) (hW : (rest.map fun v => v.category).sum ≤ W) (hf : rm.frames + 1 ≤ R.frames) (hl : W + (mL' + 11) + rm.locals ≤ R.locals) (hc : cells + rm.cells ≤ R.cells) (hs : slots + rm.slots ≤ R.slots)
    (hd : decode bs pc = .ok (.invokespecial index, 3)) (hp : pc + 3 = pc')
    (r : ∀ v T' h', St Z own bs mL p l e R s m args below meth c T' h' (cells + rm.cells) (slots + rm.slots) → Q v h' → Run p e below P T' (mkF m pc' Ls (pu v rest))) : Run p e below P T (mkF m pc Ls S) := by
  subst hp hS; obtain ⟨locs, X, N, E, eT, hx, hby, hml, hZ, hown⟩ := K
  obtain ⟨v, vm₁, ⟨T', L', k', n'⟩, -, X', ⟨Lc, hQ, l1, y1, z1⟩, st⟩ := X.specialBack hx (y := y) hy1 hown (mvT hZ w1) (mvT hZ w2) (mvT hZ w4) hy (backOf (W := W) (as' := (Value.ref a :: argsL).toArray) (h := h) (Q := fun v h L => Q v h ∧ Fr Z.heap.size L ∧ Ext Z.heap h) M hZ w4 w3 hf hl) (g := mkF m pc Ls (argsL.reverse ++ .ref a :: rest)) rfl (by rw [hml]; exact hsz) (Steps.refl _) (a := a) (argsL := argsL) (rest := rest) (lenOf pd hlen) rfl (by show 2 * 0 + _ ≤ _; omega) (hb hby hd) (fun _ _ => ⟨rfl, eT, hc, hs⟩)
  dsimp only [Pt.U, Pt.locs, Pt.cells, Pt.slots] at X' l1 y1 z1 st hQ
  subst l1 y1 z1
  obtain ⟨t, st2, q⟩ := r v T' T'.heap ⟨_, X', N.app hQ.2.1, hQ.2.2, rfl, hx, hby, hml, hZ, hown⟩ hQ.1
  refine ⟨t, st.trans ?_, q⟩
  cases v <;> exact st2
theorem r_virtual (K : St Z own bs mL p l e R s m args below meth c T h cells slots) {index : Nat} {C : String} {bs' : ByteArray} {mL' : Nat} {a : Addr} {argsL rest : List Value} {W : Nat} {ps : List FieldType} {rt : Option FieldType} (M : Con l y bs' mL' ret [] rm Z (Value.ref a :: argsL).toArray h Q) (E0 : Exa Z h a C)
    (w1 : (Jvm.Cond.methodLink own index y).before a0 Z = true) (wd : (Jvm.Cond.declares y).before a0 Z = true) (wse : (Jvm.Cond.selects C y y).before a0 Z = true) (w2 : (Jvm.Cond.instanceMethod y).before a0 Z = true) (w3 : (Jvm.Cond.initialized y.cls).before a0 Z = true) (w4 : (Jvm.Cond.code y bs' mL' ret).before a0 Z = true) (hy : y.cls ≠ "java/lang/invoke/MethodHandle" ∧ y.cls ≠ "java/lang/invoke/VarHandle")
    (pd : parseMethodDescriptor y.desc = some ⟨ps, rt⟩) (hlen : argsL.length = ps.length) (hS : S = argsL.reverse ++ .ref a :: rest) (hsz : Ls.size = mL) (hW : (rest.map fun v => v.category).sum ≤ W) (hf : rm.frames + 1 ≤ R.frames) (hl : W + (mL' + 11) + rm.locals ≤ R.locals) (hc : cells + rm.cells ≤ R.cells) (hs : slots + rm.slots ≤ R.slots)
    (hd : decode bs pc = .ok (.invokevirtual index, 3)) (hp : pc + 3 = pc')
    (r : ∀ v T' h', St Z own bs mL p l e R s m args below meth c T' h' (cells + rm.cells) (slots + rm.slots) → Q v h' → Run p e below P T' (mkF m pc' Ls (pu v rest))) : Run p e below P T (mkF m pc Ls S) := by
  subst hp hS; obtain ⟨locs, X, N, E, eT, hx, hby, hml, hZ, hown⟩ := K
  obtain ⟨cq, kq, qa, qb, qc⟩ := isOf (s := s) (T := T) hZ eT E0
  obtain ⟨v, vm₁, ⟨T', L', k', n'⟩, -, X', ⟨Lc, hQ, l1, y1, z1⟩, st⟩ := X.virtualBack hx (y := y) (z := y) hown (mvT hZ w1) (mvT hZ wd) (notFace_of_selects (args := #[]) (mvT hZ wse)) (mvT hZ wse) (mvT hZ w2) hy (backOf (W := W) (as' := (Value.ref a :: argsL).toArray) (h := h) (Q := fun v h L => Q v h ∧ Fr Z.heap.size L ∧ Ext Z.heap h) M hZ w4 w3 hf hl) qa qc (g := mkF m pc Ls (argsL.reverse ++ .ref a :: rest)) rfl (by rw [hml]; exact hsz) (Steps.refl _) (argsL := argsL) (rest := rest) (lenOf pd hlen) rfl (by show 2 * 0 + _ ≤ _; omega) (hb hby hd) (fun _ _ => ⟨rfl, eT, hc, hs⟩)
  dsimp only [Pt.U, Pt.locs, Pt.cells, Pt.slots] at X' l1 y1 z1 st hQ
  subst l1 y1 z1
  obtain ⟨t, st2, q⟩ := r v T' T'.heap ⟨_, X', N.app hQ.2.1, hQ.2.2, rfl, hx, hby, hml, hZ, hown⟩ hQ.1
  refine ⟨t, st.trans ?_, q⟩
  cases v <;> exact st2
theorem r_alen (K : St Z own bs mL p l e R s m args below meth c T h cells slots) {a : Addr} {k : ClassId} {ty : FieldType} {z : Int32} {vs : List Value} {dv : Value} (A : Arv Z h a k ty z vs dv) (hd : decode bs pc = .ok (.arraylength, 1)) (hp : pc + 1 = pc') (r : Run p e below P T (mkF m pc' Ls (.int z :: S))) : Run p e below P T (mkF m pc Ls (.ref a :: S)) := by
  subst hp; obtain ⟨locs, X, N, E, eT, hx, hby, hml, hZ, hown⟩ := K
  obtain ⟨cl, Ar, -, Sz, Nn, -, -⟩ := A
  obtain ⟨t, st2, q⟩ := r
  refine ⟨t, X.arraylength hx (cell := cl) (by rw [eT]; exact Ar.1) (State.isArrayOf_alike hZ.alike Ar.2.1) (g := mkF m pc Ls (.ref a :: S)) rfl (rest := S) rfl (hb hby hd) _ ?_, q⟩
  rw [len_of Sz Nn]; exact st2
theorem r_iaload (K : St Z own bs mL p l e R s m args below meth c T h cells slots) {a : Addr} {k : ClassId} {z j : Int32} {vs : List Value} {dv v : Value} (A : Arv Z h a k .int z vs dv) (hj : ¬ j < 0 ∧ j < z) (hv : vs.getD j.toNatClampNeg dv = v) (hd : decode bs pc = .ok (.iaload, 1)) (hp : pc + 1 = pc') (r : Run p e below P T (mkF m pc' Ls (v :: S))) : Run p e below P T (mkF m pc Ls (.int j :: .ref a :: S)) := by
  subst hp; obtain ⟨locs, X, N, E, eT, hx, hby, hml, hZ, hown⟩ := K
  obtain ⟨cl, Ar, -, Sz, Nn, H, -⟩ := A
  have hin := inb_of Sz hj
  obtain ⟨t, st2, q⟩ := r
  exact ⟨t, X.iaload hx (cell := cl) (j := j) (v := v) (by rw [eT]; exact Ar.1) (State.isArrayOf_alike hZ.alike Ar.2.1) Ar.2.2 hin (H.at hin hv) (g := mkF m pc Ls (.int j :: .ref a :: S)) rfl rfl (hb hby hd) _ st2, q⟩
theorem r_iastore (K : St Z own bs mL p l e R s m args below meth c T h cells slots) {a : Addr} {k : ClassId} {z j x : Int32} {vs : List Value} {dv : Value} {i : Nat} (A : Arv Z h a k .int z vs dv) (g : Z.heap.size ≤ a) (hj : ¬ j < 0 ∧ j < z) (hi : j.toNatClampNeg = i) (hl : i < vs.length) (hd : decode bs pc = .ok (.iastore, 1)) (hp : pc + 1 = pc')
    (r : ∀ T' h', St Z own bs mL p l e R s m args below meth c T' h' cells slots → Wr h h' a j.toNatClampNeg (.int x) → Arv Z h' a k .int z (vs.set i (.int x)) dv → Run p e below P T' (mkF m pc' Ls S)) : Run p e below P T (mkF m pc Ls (.int x :: .int j :: .ref a :: S)) := by
  subst hp; obtain ⟨locs, X, N, E, eT, hx, hby, hml, hZ, hown⟩ := K
  obtain ⟨cl, Ar, q1, Sz, Nn, H, G⟩ := A
  have hin := inb_of Sz hj
  obtain ⟨T', h', X', e', W, st⟩ := stI X hx hZ eT Ar hin (x := x) (g := mkF m pc Ls (.int x :: .int j :: .ref a :: S)) rfl rfl (hb hby hd)
  obtain ⟨t, st2, q⟩ := r T' h' ⟨_, X', fr_snoc N g, old_wr E W g, e', hx, hby, hml, hZ, hown⟩ W (Arv.set Ar q1 Sz Nn H G rfl W i hi hl)
  exact ⟨t, st _ st2, q⟩
theorem r_copy (K : St Z own bs mL p l e R s m args below meth c T h cells slots) {index W : Nat} {a b : Addr} {k k' : ClassId} {ty : FieldType} {z z' sp dp nn : Int32} {vs vd us : List Value} {dv dd : Value}
    (w1 : (Jvm.Cond.methodLink own index Jvm.Stand.acN).before a0 Z = true) (w2 : (Jvm.Cond.native Jvm.Stand.acN).before a0 Z = true) (w3 : (Jvm.Cond.static Jvm.Stand.acN).before a0 Z = true) (w4 : (Jvm.Cond.initialized "java/lang/System").before a0 Z = true)
    (A : Arv Z h a k ty z vs dv) (B : Arv Z h b k' ty z' vd dd) (hty : refKind ty = false) (h1 : ¬ sp < 0) (h2 : ¬ dp < 0) (h3 : ¬ nn < 0) (h4 : sp.toNatClampNeg + nn.toNatClampNeg ≤ z.toNatClampNeg) (h5 : dp.toNatClampNeg + nn.toNatClampNeg ≤ z'.toNatClampNeg)
    (hus : us = (List.range nn.toNatClampNeg).map fun i => vs.getD (sp.toNatClampNeg + i) dv) (hl : dp.toNatClampNeg + nn.toNatClampNeg ≤ vd.length) (ge : Z.heap.size ≤ b) (hsz : Ls.size = mL) (hd : decode bs pc = .ok (.invokestatic index, 3)) (hp : pc + 3 = pc')
    (hf : 1 ≤ R.frames) (hW : (S.map fun v => v.category).sum ≤ W) (hlo : W + (nativeFrameWords "java/lang/System" "arraycopy" 5 + 11) ≤ R.locals)
    (r : ∀ T' h', St Z own bs mL p l e R s m args below meth c T' h' cells slots → Keep h h' [b] → Arv Z h' b k' ty z' (vd.take dp.toNatClampNeg ++ us ++ vd.drop (dp.toNatClampNeg + nn.toNatClampNeg)) dd → Run p e below P T' (mkF m pc' Ls S)) : Run p e below P T (mkF m pc Ls (.int nn :: .int dp :: .ref b :: .int sp :: .ref a :: S)) := by
  subst hp; obtain ⟨locs, X, N, E, eT, hx, hby, hml, hZ, hown⟩ := K
  obtain ⟨T', h', L', X', e', N', Kp, B', st⟩ := cpA X hx hZ hown w1 w2 w3 w4 eT A B (Or.inl ⟨rfl, hty⟩) h1 h2 h3 h4 h5 hus hl N ge (g := mkF m pc Ls (.int nn :: .int dp :: .ref b :: .int sp :: .ref a :: S)) rfl (by rw [hml]; exact hsz) rfl (hb hby hd) hf (W := W) (by show 2 * 0 + _ ≤ _; omega) hlo
  obtain ⟨t, st2, q⟩ := r T' h' ⟨_, X', N', (Old.keep (Z := Z) (n0 := Z.heap.size) ⟨rfl, E⟩ Kp (allS ge all0)).2, e', hx, hby, hml, hZ, hown⟩ Kp B'
  exact ⟨t, st _ st2, q⟩
theorem r_caload (K : St Z own bs mL p l e R s m args below meth c T h cells slots) {a : Addr} {k : ClassId} {z j : Int32} {vs : List Value} {dv v : Value} (A : Arv Z h a k .char z vs dv) (hj : ¬ j < 0 ∧ j < z) (hv : vs.getD j.toNatClampNeg dv = v) (hd : decode bs pc = .ok (.caload, 1)) (hp : pc + 1 = pc') (r : Run p e below P T (mkF m pc' Ls (v :: S))) : Run p e below P T (mkF m pc Ls (.int j :: .ref a :: S)) := by
  subst hp; obtain ⟨locs, X, N, E, eT, hx, hby, hml, hZ, hown⟩ := K
  obtain ⟨cl, Ar, -, Sz, Nn, H, -⟩ := A
  have hin := inb_of Sz hj
  obtain ⟨t, st2, q⟩ := r
  exact ⟨t, X.caload hx (cell := cl) (j := j) (v := v) (by rw [eT]; exact Ar.1) (State.isArrayOf_alike hZ.alike Ar.2.1) Ar.2.2 hin (H.at hin hv) (g := mkF m pc Ls (.int j :: .ref a :: S)) rfl rfl (hb hby hd) _ st2, q⟩
theorem r_baload (K : St Z own bs mL p l e R s m args below meth c T h cells slots) {a : Addr} {k : ClassId} {z j : Int32} {vs : List Value} {dv v : Value} (A : Arv Z h a k .byte z vs dv) (hj : ¬ j < 0 ∧ j < z) (hv : vs.getD j.toNatClampNeg dv = v) (hd : decode bs pc = .ok (.baload, 1)) (hp : pc + 1 = pc') (r : Run p e below P T (mkF m pc' Ls (v :: S))) : Run p e below P T (mkF m pc Ls (.int j :: .ref a :: S)) := by
  subst hp; obtain ⟨locs, X, N, E, eT, hx, hby, hml, hZ, hown⟩ := K
  obtain ⟨cl, Ar, -, Sz, Nn, H, -⟩ := A
  have hin := inb_of Sz hj
  obtain ⟨t, st2, q⟩ := r
  exact ⟨t, X.baloadBytes hx (cell := cl) (j := j) (v := v) (by rw [eT]; exact Ar.1) (State.isArrayOf_alike hZ.alike Ar.2.1) Ar.2.2 hin (H.at hin hv) (g := mkF m pc Ls (.int j :: .ref a :: S)) rfl rfl (hb hby hd) _ st2, q⟩
theorem r_castore (K : St Z own bs mL p l e R s m args below meth c T h cells slots) {a : Addr} {k : ClassId} {z j x : Int32} {vs : List Value} {dv : Value} {i : Nat} (A : Arv Z h a k .char z vs dv) (g : Z.heap.size ≤ a) (hj : ¬ j < 0 ∧ j < z) (hi : j.toNatClampNeg = i) (hl : i < vs.length) (hd : decode bs pc = .ok (.castore, 1)) (hp : pc + 1 = pc')
    (r : ∀ T' h', St Z own bs mL p l e R s m args below meth c T' h' cells slots → Wr h h' a j.toNatClampNeg (.int (nar .char x)) → Arv Z h' a k .char z (vs.set i (.int (nar .char x))) dv → Run p e below P T' (mkF m pc' Ls S)) : Run p e below P T (mkF m pc Ls (.int x :: .int j :: .ref a :: S)) := by
  subst hp; obtain ⟨locs, X, N, E, eT, hx, hby, hml, hZ, hown⟩ := K
  obtain ⟨cl, Ar, q1, Sz, Nn, H, G⟩ := A
  have hin := inb_of Sz hj
  obtain ⟨T', h', X', e', W, st⟩ := stC X hx hZ eT Ar hin (x := x) (g := mkF m pc Ls (.int x :: .int j :: .ref a :: S)) rfl rfl (hb hby hd)
  obtain ⟨t, st2, q⟩ := r T' h' ⟨_, X', fr_snoc N g, old_wr E W g, e', hx, hby, hml, hZ, hown⟩ W (Arv.set Ar q1 Sz Nn H G (fits_nar_char _) W i hi hl)
  exact ⟨t, st _ st2, q⟩
theorem r_bastore (K : St Z own bs mL p l e R s m args below meth c T h cells slots) {a : Addr} {k : ClassId} {z j x : Int32} {vs : List Value} {dv : Value} {i : Nat} (A : Arv Z h a k .byte z vs dv) (g : Z.heap.size ≤ a) (hj : ¬ j < 0 ∧ j < z) (hi : j.toNatClampNeg = i) (hl : i < vs.length) (hd : decode bs pc = .ok (.bastore, 1)) (hp : pc + 1 = pc')
    (r : ∀ T' h', St Z own bs mL p l e R s m args below meth c T' h' cells slots → Wr h h' a j.toNatClampNeg (.int (nar .byte x)) → Arv Z h' a k .byte z (vs.set i (.int (nar .byte x))) dv → Run p e below P T' (mkF m pc' Ls S)) : Run p e below P T (mkF m pc Ls (.int x :: .int j :: .ref a :: S)) := by
  subst hp; obtain ⟨locs, X, N, E, eT, hx, hby, hml, hZ, hown⟩ := K
  obtain ⟨cl, Ar, q1, Sz, Nn, H, G⟩ := A
  have hin := inb_of Sz hj
  obtain ⟨T', h', X', e', W, st⟩ := stB X hx hZ eT Ar hin (x := x) (g := mkF m pc Ls (.int x :: .int j :: .ref a :: S)) rfl rfl (hb hby hd)
  obtain ⟨t, st2, q⟩ := r T' h' ⟨_, X', fr_snoc N g, old_wr E W g, e', hx, hby, hml, hZ, hown⟩ W (Arv.set Ar q1 Sz Nn H G (fits_nar_byte _) W i hi hl)
  exact ⟨t, st _ st2, q⟩
theorem r_instY (K : St Z own bs mL p l e R s m args below meth c T h cells slots) {C : String} {index : Nat} {a : Addr} (w : (Jvm.Cond.classLink own index C).before a0 Z = true) (F : Ins Z h a C true) (hd : decode bs pc = .ok (.instanceof index, 3)) (hp : pc + 3 = pc') (r : ∀ T', St Z own bs mL p l e R s m args below meth c T' h cells slots → Run p e below P T' (mkF m pc' Ls (.int 1 :: S))) : Run p e below P T (mkF m pc Ls (.ref a :: S)) := by
  subst hp; obtain ⟨locs, X, N, E, eT, hx, hby, hml, hZ, hown⟩ := K
  obtain ⟨T', X', e', st⟩ := instY X hx hZ hown w eT F (g := mkF m pc Ls (.ref a :: S)) rfl rfl (hb hby hd)
  obtain ⟨t, st2, q⟩ := r T' ⟨locs, X', N, E, e', hx, hby, hml, hZ, hown⟩
  exact ⟨t, st _ st2, q⟩
theorem r_castY (K : St Z own bs mL p l e R s m args below meth c T h cells slots) {C : String} {index : Nat} {a : Addr} (w : (Jvm.Cond.classLink own index C).before a0 Z = true) (F : Ins Z h a C true) (hd : decode bs pc = .ok (.checkcast index, 3)) (hp : pc + 3 = pc') (r : ∀ T', St Z own bs mL p l e R s m args below meth c T' h cells slots → Run p e below P T' (mkF m pc' Ls (.ref a :: S))) : Run p e below P T (mkF m pc Ls (.ref a :: S)) := by
  subst hp; obtain ⟨locs, X, N, E, eT, hx, hby, hml, hZ, hown⟩ := K
  obtain ⟨T', X', e', st⟩ := castY X hx hZ hown w eT F (g := mkF m pc Ls (.ref a :: S)) rfl rfl (hb hby hd)
  obtain ⟨t, st2, q⟩ := r T' ⟨locs, X', N, E, e', hx, hby, hml, hZ, hown⟩
  exact ⟨t, st _ st2, q⟩
theorem r_instNo (K : St Z own bs mL p l e R s m args below meth c T h cells slots) {C D : String} {index : Nat} {a : Addr} (w : (Jvm.Cond.classLink own index C).before a0 Z = true) (E0 : Exa Z h a D) (F : ∃ c t, Z.vm.findClass D = some c ∧ Z.vm.findClass C = some t ∧ Z.vm.assignable c t = false) (hd : decode bs pc = .ok (.instanceof index, 3)) (hp : pc + 3 = pc') (r : ∀ T', St Z own bs mL p l e R s m args below meth c T' h cells slots → Run p e below P T' (mkF m pc' Ls (.int 0 :: S))) : Run p e below P T (mkF m pc Ls (.ref a :: S)) := by
  subst hp; obtain ⟨locs, X, N, E, eT, hx, hby, hml, hZ, hown⟩ := K
  obtain ⟨T', X', e', st⟩ := instNo X hx hZ hown w eT E0 F (g := mkF m pc Ls (.ref a :: S)) rfl rfl (hb hby hd)
  obtain ⟨t, st2, q⟩ := r T' ⟨locs, X', N, E, e', hx, hby, hml, hZ, hown⟩
  exact ⟨t, st _ st2, q⟩
theorem r_instNull (K : St Z own bs mL p l e R s m args below meth c T h cells slots) {index : Nat} (hd : decode bs pc = .ok (.instanceof index, 3)) (hp : pc + 3 = pc') (r : Run p e below P T (mkF m pc' Ls (.int 0 :: S))) : Run p e below P T (mkF m pc Ls (.null :: S)) := by
  subst hp; obtain ⟨locs, X, N, E, eT, hx, hby, hml, hZ, hown⟩ := K
  obtain ⟨t, st2, q⟩ := r
  exact ⟨t, X.instanceofNull hx (g := mkF m pc Ls (.null :: S)) rfl rfl (hb hby hd) _ st2, q⟩
theorem r_acmpNe (K : St Z own bs mL p l e R s m args below meth c T h cells slots) {a b : Addr} {o : Int} {pc1 pc2 : Nat} (hd : decode bs pc = .ok (.if_acmp .ne o, 3)) (h1 : pc + 3 = pc1) (ho : 0 ≤ (pc : Int) + o) (h2 : ((pc : Int) + o).toNat = pc2)
    (r2 : a ≠ b → Run p e below P T (mkF m pc2 Ls S)) (r1 : a = b → Run p e below P T (mkF m pc1 Ls S)) : Run p e below P T (mkF m pc Ls (.ref b :: .ref a :: S)) := by
  subst h1
  by_cases hc : a = b
  · obtain ⟨t, st, q⟩ := r1 hc; exact ⟨t, XS.acmpNo K.here K.hx rfl (hb K.bts hd) rfl (by simp [if_acmp.holds, hc]) st, q⟩
  · obtain ⟨t, st, q⟩ := r2 hc; exact ⟨t, XS.acmpYes K.here K.hx rfl (pc0 := pc) (pc' := pc2) rfl (hb K.bts hd) rfl (by simp [if_acmp.holds, hc]) ho h2 st, q⟩
end Kit
section KitW
/-- what goes along in a walk that may have loaded String constants: since the body's start s; vm0: the tables at hand -/
def Inv (Z : State) (EL : List (String × Nat)) (s : State) (vm0 : Vm) (h : Heap) : Prop := (∃ k0, s.Since vm0 k0 ∧ k0 ≤ h.size) ∧ CHr Z EL s.vm s.heap vm0 h
def FinW (Z : State) (EL : List (String × Nat)) (s : State) (below : List Frame) (k n : Nat) (Q : Option Value → Heap → Prop) (t : State) : Prop :=
  ∃ o, t.status = .running ∧ Ended t below o ∧ ∃ v L, o = .returned v ∧ (Q v t.heap ∧ Fr Z.heap.size L ∧ Ext Z.heap t.heap) ∧ CHr Z EL s.vm s.heap t.vm t.heap ∧ ReturnedEndW s o t L k n
def ConW (l : Launch) (y : MethodName) (bs : ByteArray) (mL : Nat) (ret : Option FieldType) (ws : List Jvm.Cond) (rm : Room) (Z : State) (EL : List (String × Nat)) (as : Array Value) (h0 : Heap) (Q : Option Value → Heap → Prop) : Prop :=
  MetFree l y (head1 (Jvm.Cond.code y bs mL ret :: ws) rm) (fun a U => a = as ∧ Z.Warmed39 U.vm ∧ U.heap = h0 ∧ CHv Z EL U.vm h0) (fun _ _ _ _ _ => True) (fun _ U o U' => ∃ v L, o = .returned v ∧ (Q v U'.heap ∧ Fr Z.heap.size L ∧ Ext Z.heap U'.heap) ∧ CHr Z EL U.vm U.heap U'.vm U'.heap ∧ ReturnedEndW U o U' L rm.cells rm.slots)
variable {Z : State} {a0 : Array Value} {own : String} {bs : ByteArray} {mL : Nat} {p : Program} {l : Launch} {e : Env} {R : Room} {s : State} {m : MethodId} {args : Array Value} {below : List Frame} {meth : Method} {c : Code} {T : State} {h h' : Heap} {cells slots : Nat} {P : State → Prop} {pc pc' : Nat} {Ls : Array Slot} {S : List Value} {y : MethodName} {ret : Option FieldType} {rm : Room} {ws : List Jvm.Cond} {as : Array Value} {h0 : Heap} {Q : Option Value → Heap → Prop} {kc kn : Nat} {EL : List (String × Nat)} {vm0 : Vm}
theorem Inv.ch (I : Inv Z EL s vm0 h) : CHv Z EL vm0 h := I.2.1
theorem Inv.step (I : Inv Z EL s vm0 h) (C : CHr Z EL vm0 h vm0 h') : Inv Z EL s vm0 h' := by
  obtain ⟨⟨k0, h1, h2⟩, h3⟩ := I
  exact ⟨⟨k0, h1, Nat.le_trans h2 C.2.1⟩, h3.trans C⟩
theorem Inv.ext (I : Inv Z EL s vm0 h) (E : Ext h h') : Inv Z EL s vm0 h' := I.step (CHr.ext E I.ch)
theorem Inv.wr (I : Inv Z EL s vm0 h) {a : Addr} {sl : Nat} {v : Value} (W : Wr h h' a sl v) (F : Safe Z EL vm0 h a) : Inv Z EL s vm0 h' := I.step (CHr.wr W F I.ch)
theorem Inv.keep (I : Inv Z EL s vm0 h) {ws : List Addr} (Kp : Keep h h' ws) (F : ∀ x ∈ ws, Safe Z EL vm0 h x) : Inv Z EL s vm0 h' := I.step (CHr.keep Kp F I.ch)
theorem Inv.fresh (I : Inv Z EL s vm0 h) (E : Ext h h') {a : Addr} (g : h.size ≤ a) : Safe Z EL vm0 h' a := Safe.ext E I.ch (Safe.new g)
theorem St.al (K : St Z own bs mL p l e R (s.setVm vm0) m args below meth c T h cells slots) : Z.vm.Alike vm0 := by obtain ⟨_, -, -, -, -, -, -, -, q, -⟩ := K; exact State.Warmed39.alike (show Z.Warmed39 vm0 from q)
theorem con_introW (hpn : plainFor y = true) (hx0 : Ext Z.heap h0)
    (body : ∀ (p : Program) (e : Env) (s : State) (m : MethodId) (below : List Frame) (meth : Method) (c : Code) (T : State), St Z y.cls bs mL p l e rm (s.setVm s.vm) m as below meth c T h0 0 0 → Inv Z EL s s.vm h0 → meth.sig.returnType = ret → meth.locks = false → meth.name = y.name →
      Run p e below (FinW Z EL s below rm.cells rm.slots Q) T (entryFrame m as mL)) : ConW l y bs mL ret ws rm Z EL as h0 Q := by
  refine MetFree.of_bodySF hpn hisR ?_
  intro p e s m args below meth c s₁ Bd hml0 hP hK
  obtain ⟨rfl, hZ, hh, hC⟩ := hP
  have hnm := (name_of_methodNamed Bd.named Bd.method).1
  have X0 : Stand p l e rm s m args below meth c s₁ [] 0 0 := Stand.of_body Bd
  have e0 : s₁.heap = h0 := by rw [← hh, Bd.state]; rfl
  have I0 : Inv Z EL s s.vm h0 := ⟨⟨0, (State.WarmedH.refl s).since 0, Nat.zero_le _⟩, by rw [hh]; exact CHr.refl hC⟩
  obtain ⟨t, st, o, h1, h2, h3⟩ := body p e s m below meth c s₁ ⟨[], X0, Fr.nil _, hx0, e0, Bd.exec, Bd.bytes, hml0, hZ, findClass_of_methodNamed Bd.named⟩ I0 Bd.returns Bd.notSynchronized hnm
  exact ⟨t, o, st, h1, h2, h3⟩
theorem w_ret (K : St Z own bs mL p l e R (s.setVm vm0) m args below meth c T h cells slots) (I : Inv Z EL s vm0 h) (hEL : EW Z a0 EL) {t : FieldType} {w : Value} {i : Instr} (hret : meth.sig.returnType = some t) (hlk : meth.locks = false) (hn : narrow t w = w)
    (hi : (i = .ireturn ∧ (t = .int ∨ t = .boolean ∨ t = .byte ∨ t = .char ∨ t = .short) ∧ ∃ z, w = .int z) ∨ (i = .lreturn ∧ t = .long ∧ ∃ z, w = .long z) ∨ (i = .dreturn ∧ t = .double ∧ ∃ z, w = .double z) ∨ (i = .freturn ∧ t = .float ∧ ∃ z, w = .float z) ∨ (i = .areturn ∧ t.isReference = true ∧ w.isRef = true))
    (hd : decode bs pc = .ok (i, 1)) (hc : cells ≤ kc) (hs : slots ≤ kn) (hq : Q (some w) h) : Run p e below (FinW Z EL s below kc kn Q) T (mkF m pc Ls (w :: S)) := by
  obtain ⟨locs, X, N, E, eT, hx, hby, hml, hZ, hown⟩ := K
  obtain ⟨⟨k0, i1, i2⟩, i3⟩ := I
  have X := X.more hc hs
  obtain ⟨fs, hr, hrun, hended, hend⟩ := X.leaveW i1 (by rw [eT]; exact i2) (v := some w) (fun q => by rw [hret] at q; cases q)
  refine ⟨_, retOut X hx hret hn hi (hb hby hd) hr, _, hrun, hended, _, _, rfl, ⟨eT.symm ▸ hq, N, eT.symm ▸ E⟩, ?_, hend⟩
  subst eT
  have C := i3.trans (CHv.at X hZ hEL i3.1)
  exact C
theorem w_retZ (K : St Z own bs mL p l e R (s.setVm vm0) m args below meth c T h cells slots) (I : Inv Z EL s vm0 h) (hEL : EW Z a0 EL) {z : Int32} (hret : meth.sig.returnType = some .boolean) (hlk : meth.locks = false) (hn : narrow .boolean (.int z) = .int z) (hd : decode bs pc = .ok (.ireturn, 1)) (hc : cells ≤ kc) (hs : slots ≤ kn) (hq : Q (some (.int z)) h) :
    Run p e below (FinW Z EL s below kc kn Q) T (mkF m pc Ls (.int z :: S)) := w_ret K I hEL hret hlk hn (Or.inl ⟨rfl, Or.inr (Or.inl rfl), _, rfl⟩) hd hc hs hq
theorem w_retA (K : St Z own bs mL p l e R (s.setVm vm0) m args below meth c T h cells slots) (I : Inv Z EL s vm0 h) (hEL : EW Z a0 EL) {t : FieldType} {w : Value} (hret : meth.sig.returnType = some t) (hlk : meth.locks = false) (ht : t.isReference = true) (hw : w.isRef = true) (hd : decode bs pc = .ok (.areturn, 1)) (hc : cells ≤ kc) (hs : slots ≤ kn) (hq : Q (some w) h) :
    Run p e below (FinW Z EL s below kc kn Q) T (mkF m pc Ls (w :: S)) := w_ret K I hEL hret hlk (by cases t <;> cases w <;> first | rfl | (simp [FieldType.isReference, Value.isRef] at ht hw)) (Or.inr (Or.inr (Or.inr (Or.inr ⟨rfl, ht, hw⟩)))) hd hc hs hq
theorem w_retV (K : St Z own bs mL p l e R (s.setVm vm0) m args below meth c T h cells slots) (I : Inv Z EL s vm0 h) (hEL : EW Z a0 EL) (hret : meth.sig.returnType = none) (hlk : meth.locks = false) (hd : decode bs pc = .ok (.return_, 1)) (hc : cells ≤ kc) (hs : slots ≤ kn) (hq : Q none h) :
    Run p e below (FinW Z EL s below kc kn Q) T (mkF m pc Ls []) := by
  obtain ⟨locs, X, N, E, eT, hx, hby, hml, hZ, hown⟩ := K
  obtain ⟨⟨k0, i1, i2⟩, i3⟩ := I
  have X := X.more hc hs
  obtain ⟨fs, hr, hrun, hended, hend⟩ := X.leaveW i1 (by rw [eT]; exact i2) (v := none) (fun _ => rfl)
  refine ⟨_, X.returnOut hx hret (hb hby hd) hr, _, hrun, hended, _, _, rfl, ⟨eT.symm ▸ hq, N, eT.symm ▸ E⟩, ?_, hend⟩
  subst eT
  have C := i3.trans (CHv.at X hZ hEL i3.1)
  exact C
theorem w_ldc (K : St Z own bs mL p l e R (s.setVm vm0) m args below meth c T h cells slots) (I : Inv Z EL s vm0 h) (hEL : EW Z a0 EL) {text : String} {index n : Nat} (hmem : (own, index) ∈ EL) (w : (Jvm.Cond.stringLink own index text).before a0 Z = true) (wS : ∀ a ∈ Bundle.stringAtoms, a.before a0 Z = true) {vs : List Value} {z : Int32} (ht : (∀ c ∈ text.toList, c.toNat < 256) ∧ text.toList.map (fun c => Value.int (Jvm.Lit.byteI c.toNat.toUInt16)) = vs) (hz : ¬ z < 0) (hl : z.toNatClampNeg = vs.length)
    (hd : decode bs pc = .ok (.ldc index, 2)) (hp : pc + 2 = pc') (hn : 4 * text.toList.length ≤ n) (hbig : n ≤ 536870912) (hc : cells + 2 ≤ R.cells) (hl' : slots + (n + 4) ≤ R.slots)
    (r : ∀ a T' h' vm1 b k, St Z own bs mL p l e R (s.setVm vm1) m args below meth c T' h' (cells + 2) (slots + (n + 4)) → Inv Z EL s vm1 h' → Ext h h' → CHr Z EL vm0 h vm1 h' → Exa Z h' a "java/lang/String" → Fld Z h' a "java/lang/String" "coder" "B" (.int 0) → Fld Z h' a "java/lang/String" "value" "[B" (.ref b) → Arv Z h' b k .byte z vs (.int 0) → (∀ x, Safe Z EL vm1 h' x → x ≠ a ∧ x ≠ b) → Run p e below P T' (mkF m pc' Ls (.ref a :: S))) : Run p e below P T (mkF m pc Ls S) := by
  subst hp; obtain ⟨locs, X, N, E, eT, hx, hby, hml, hZ, hown⟩ := K
  obtain ⟨⟨k0, i1, i2⟩, i3⟩ := I
  obtain ⟨a, T', h', k1, b, k, X', e', E', s1, s2, s3, s4, A1, A2, A3, A4, -, -, C, -, N', st⟩ := ldcCH X hx (show Z.Warmed39 vm0 from hZ) (show vm0.findClass own = some m.cls from hown) w wS eT i1 i2 hEL hmem i3.1 ht hz hl (g := mkF m pc Ls S) rfl (hb hby hd) hn hbig hc hl'
  obtain ⟨t, st2, q⟩ := r a T' h' T'.vm b k ⟨_, X', N, ext_tr E E', e', hx, hby, hml, s3, s4⟩ ⟨⟨k1, s1, s2⟩, i3.trans C⟩ E' C A1 A2 A3 A4 N'
  exact ⟨t, st _ st2, q⟩
theorem w_ldcO (K : St Z own bs mL p l e R (s.setVm vm0) m args below meth c T h cells slots) (I : Inv Z EL s vm0 h) (hEL : EW Z a0 EL) {text : String} {index n : Nat} (w : (Jvm.Cond.stringLink own index text).before a0 Z = true) (wS : ∀ a ∈ Bundle.stringAtoms, a.before a0 Z = true)
    (hd : decode bs pc = .ok (.ldc index, 2)) (hp : pc + 2 = pc') (hn : 4 * text.toList.length ≤ n) (hbig : n ≤ 536870912) (hc : cells + 2 ≤ R.cells) (hl' : slots + (n + 4) ≤ R.slots)
    (r : ∀ a T' h' vm1, St Z own bs mL p l e R (s.setVm vm1) m args below meth c T' h' (cells + 2) (slots + (n + 4)) → Inv Z EL s vm1 h' → Ext h h' → CHr Z EL vm0 h vm1 h' → Run p e below P T' (mkF m pc' Ls (.ref a :: S))) : Run p e below P T (mkF m pc Ls S) := by
  subst hp; obtain ⟨locs, X, N, E, eT, hx, hby, hml, hZ, hown⟩ := K
  obtain ⟨⟨k0, i1, i2⟩, i3⟩ := I
  obtain ⟨a, T', h', k1, X', e', E', s1, s2, s3, s4, C, -, st⟩ := ldcOH X hx (show Z.Warmed39 vm0 from hZ) (show vm0.findClass own = some m.cls from hown) w wS eT i1 i2 hEL i3.1 (g := mkF m pc Ls S) rfl (hb hby hd) hn hbig hc hl'
  obtain ⟨t, st2, q⟩ := r a T' h' T'.vm ⟨_, X', N, ext_tr E E', e', hx, hby, hml, s3, s4⟩ ⟨⟨k1, s1, s2⟩, i3.trans C⟩ E' C
  exact ⟨t, st _ st2, q⟩
theorem w_static (K : St Z own bs mL p l e R (s.setVm vm0) m args below meth c T h cells slots) (I : Inv Z EL s vm0 h) (hEL : EW Z a0 EL) {index : Nat} {bs' : ByteArray} {mL' : Nat} {argsL rest : List Value} {W : Nat} {ps : List FieldType} {rt : Option FieldType} (M : ConW l y bs' mL' ret [] rm Z EL argsL.toArray h Q)
    (w1 : (Jvm.Cond.methodLink own index y).before a0 Z = true) (w2 : (Jvm.Cond.static y).before a0 Z = true) (w3 : (Jvm.Cond.initialized y.cls).before a0 Z = true) (w4 : (Jvm.Cond.code y bs' mL' ret).before a0 Z = true) (hy : y.cls ≠ "java/lang/invoke/MethodHandle" ∧ y.cls ≠ "java/lang/invoke/VarHandle")
    (pd : parseMethodDescriptor y.desc = some ⟨ps, rt⟩) (hlen : argsL.length = ps.length) (hS : S = argsL.reverse ++ rest) (hsz : Ls.size = mL) (hW : (rest.map fun v => v.category).sum ≤ W) (hf : rm.frames + 1 ≤ R.frames) (hl : W + (mL' + 11) + rm.locals ≤ R.locals) (hc : cells + rm.cells ≤ R.cells) (hs : slots + rm.slots ≤ R.slots)
    (hd : decode bs pc = .ok (.invokestatic index, 3)) (hp : pc + 3 = pc')
    (r : ∀ v T' h' vm1, St Z own bs mL p l e R (s.setVm vm1) m args below meth c T' h' (cells + rm.cells) (slots + rm.slots) → Inv Z EL s vm1 h' → CHr Z EL vm0 h vm1 h' → Q v h' → Run p e below P T' (mkF m pc' Ls (pu v rest))) : Run p e below P T (mkF m pc Ls S) := by
  subst hp hS; obtain ⟨locs, X, N, E, eT, hx, hby, hml, hZ, hown⟩ := K
  obtain ⟨⟨k0, i1, i2⟩, i3⟩ := I
  obtain ⟨v, vm₁, ⟨T', L', k', n'⟩, -, X', hS', hg', ⟨Lc, hQ, l1, y1, z1, C⟩, st⟩ := callSS X hx (y := y) hown (mvT hZ w1) (mvT hZ w2) (mvT hZ w3) (mvT hZ w4) hy (backOfSH (W := W) (as' := argsL.toArray) (h := h) (Q := fun v h L => Q v h ∧ Fr Z.heap.size L ∧ Ext Z.heap h) M (show Z.Warmed39 vm0 from hZ) w4 w3 hf hl hEL i3.1) (g := mkF m pc Ls (argsL.reverse ++ rest)) rfl (by rw [hml]; exact hsz) (argsL := argsL) (rest := rest) (lenOf pd hlen) rfl (by show 2 * 0 + _ ≤ _; omega) (hb hby hd) (fun _ _ => ⟨rfl, eT, hc, hs⟩)
  dsimp only [Pt.U, Pt.locs, Pt.cells, Pt.slots] at X' l1 y1 z1 st hQ C hS' hg'
  subst l1 y1 z1
  obtain ⟨X2, s1, s2, s3⟩ := rebS i1 (n1 := T.heap.size) (by rw [eT]; exact i2) X' hS' hg' hZ hown
  obtain ⟨t, st2, q⟩ := r v T' T'.heap T'.vm ⟨_, X2, N.app hQ.2.1, hQ.2.2, rfl, hx, hby, hml, s2, s3⟩ ⟨⟨_, s1, Nat.le_refl _⟩, i3.trans C⟩ C hQ.1
  refine ⟨t, st.trans ?_, q⟩
  cases v <;> exact st2
theorem w_special (K : St Z own bs mL p l e R (s.setVm vm0) m args below meth c T h cells slots) (I : Inv Z EL s vm0 h) (hEL : EW Z a0 EL) {index : Nat} {bs' : ByteArray} {mL' : Nat} {a : Addr} {argsL rest : List Value} {W : Nat} {ps : List FieldType} {rt : Option FieldType} (M : ConW l y bs' mL' none [] rm Z EL (Value.ref a :: argsL).toArray h Q) (hy1 : y.name = "<init>")
    (w1 : (Jvm.Cond.methodLink own index y).before a0 Z = true) (w2 : (Jvm.Cond.instanceMethod y).before a0 Z = true) (w3 : (Jvm.Cond.initialized y.cls).before a0 Z = true) (w4 : (Jvm.Cond.code y bs' mL' none).before a0 Z = true) (hy : y.cls ≠ "java/lang/invoke/MethodHandle" ∧ y.cls ≠ "java/lang/invoke/VarHandle")
    (pd : parseMethodDescriptor y.desc = some ⟨ps, rt⟩) (hlen : argsL.length = ps.length) (hS : S = argsL.reverse ++ .ref a :: rest) (hsz : Ls.size = mL) (hW : (rest.map fun v => v.category).sum ≤ W) (hf : rm.frames + 1 ≤ R.frames) (hl : W + (mL' + 11) + rm.locals ≤ R.locals) (hc : cells + rm.cells ≤ R.cells) (hs : slots + rm.slots ≤ R.slots)
    (hd : decode bs pc = .ok (.invokespecial index, 3)) (hp : pc + 3 = pc')
    (r : ∀ v T' h' vm1, St Z own bs mL p l e R (s.setVm vm1) m args below meth c T' h' (cells + rm.cells) (slots + rm.slots) → Inv Z EL s vm1 h' → CHr Z EL vm0 h vm1 h' → Q v h' → Run p e below P T' (mkF m pc' Ls (pu v rest))) : Run p e below P T (mkF m pc Ls S) := by
  subst hp hS; obtain ⟨locs, X, N, E, eT, hx, hby, hml, hZ, hown⟩ := K
  obtain ⟨⟨k0, i1, i2⟩, i3⟩ := I
  obtain ⟨v, vm₁, ⟨T', L', k', n'⟩, -, X', hS', hg', ⟨Lc, hQ, l1, y1, z1, C⟩, st⟩ := X.specialBackS hx (y := y) hy1 hown (mvT hZ w1) (mvT hZ w2) (mvT hZ w4) hy (backOfSH (W := W) (as' := (Value.ref a :: argsL).toArray) (h := h) (Q := fun v h L => Q v h ∧ Fr Z.heap.size L ∧ Ext Z.heap h) M (show Z.Warmed39 vm0 from hZ) w4 w3 hf hl hEL i3.1) (g := mkF m pc Ls (argsL.reverse ++ .ref a :: rest)) rfl (by rw [hml]; exact hsz) (Steps.refl _) (a := a) (argsL := argsL) (rest := rest) (lenOf pd hlen) rfl (by show 2 * 0 + _ ≤ _; omega) (hb hby hd) (fun _ _ => ⟨rfl, eT, hc, hs⟩)
  dsimp only [Pt.U, Pt.locs, Pt.cells, Pt.slots] at X' l1 y1 z1 st hQ C hS' hg'
  subst l1 y1 z1
  obtain ⟨X2, s1, s2, s3⟩ := rebS i1 (n1 := T.heap.size) (by rw [eT]; exact i2) X' hS' hg' hZ hown
  obtain ⟨t, st2, q⟩ := r v T' T'.heap T'.vm ⟨_, X2, N.app hQ.2.1, hQ.2.2, rfl, hx, hby, hml, s2, s3⟩ ⟨⟨_, s1, Nat.le_refl _⟩, i3.trans C⟩ C hQ.1
  refine ⟨t, st.trans ?_, q⟩
  cases v <;> exact st2
end KitW
theorem own_ti {n : Nat} (hn : n ≤ 255) : (Int32.ofNat n).toInt = n := Int32.toInt_ofNat_of_lt (by omega)
theorem own_lt {i n : Nat} (h : i < n) (hn : n ≤ 255) : Int32.ofNat i < Int32.ofNat n := by
  rw [Int32.lt_iff_toInt_lt, own_ti (by omega), own_ti hn]; omega
theorem own_nlt {i n : Nat} (h : n ≤ i) (hn : i ≤ 255) : ¬ Int32.ofNat i < Int32.ofNat n := by
  rw [Int32.lt_iff_toInt_lt, own_ti (by omega), own_ti (by omega)]; omega
theorem own_nn {n : Nat} (hn : n ≤ 255) : ¬ Int32.ofNat n < 0 := own_nlt (n := 0) (Nat.zero_le _) hn
theorem own_n32 {n : Nat} (hn : n ≤ 255) : (Int32.ofNat n).toNatClampNeg = n := by
  rw [Int32.toNatClampNeg, own_ti hn]; rfl
theorem own_one (i : Nat) : Int32.ofNat i + (1 : Int32) = Int32.ofNat (i + 1) := (Int32.ofNat_add i 1).symm
theorem own_eq {i n : Nat} (hi : i ≤ 255) (hn : n ≤ 255) (h : Int32.ofNat i = Int32.ofNat n) : i = n := by
  have q := congrArg Int32.toInt h
  rw [own_ti hi, own_ti hn] at q; omega
/-- the String at a is Latin-1 and its bytes are bs -/
def StrL (Z : State) (h : Heap) (a : Addr) (bs : List Int32) : Prop := ∃ (b : Addr) (k : ClassId), Exa Z h a "java/lang/String" ∧ Fld Z h a "java/lang/String" "coder" "B" (.int 0) ∧ Fld Z h a "java/lang/String" "value" "[B" (.ref b) ∧ Arv Z h b k .byte (Int32.ofNat bs.length) (bs.map Value.int) (.int 0)
theorem StrL.ext {Z : State} {h h' : Heap} {a : Addr} {bs : List Int32} (F : StrL Z h a bs) (E : Ext h h') : StrL Z h' a bs := by
  obtain ⟨b, k, h1, h2, h3, h4⟩ := F
  exact ⟨b, k, h1.ext E, h2.ext E, h3.ext E, h4.ext E⟩
theorem StrL.exa {Z : State} {h : Heap} {a : Addr} {bs : List Int32} (F : StrL Z h a bs) : Exa Z h a "java/lang/String" := by
  obtain ⟨b, k, h1, -⟩ := F; exact h1
def byt (x : Int32) : Int32 := x.toInt8.toInt32
theorem own_b8 (x : Int32) : nar .byte x.toInt8.toInt32 = byt x := by simp [nar, byt]
theorem ext_keep {h h1 h2 : Heap} {ws : List Addr} (E : Ext h h1) (Kp : Keep h1 h2 ws) (hw : ∀ x ∈ ws, h.size ≤ x) : Ext h h2 := by
  have K := ((Keep.refl h []).ext E).trans Kp (fun x hx => Or.inr (hw x hx))
  exact ⟨K.1, fun a c q => K.2.1 a c q nin0⟩
/-- a String whose value is still null is no booked one -/
theorem safe_blank {Z : State} {EL : List (String × Nat)} {vm : Vm} {h : Heap} {x : Addr} (hal : Z.vm.Alike vm) (E : Exa Z h x "java/lang/String") (F : Fld Z h x "java/lang/String" "value" "[B" .null) : Safe Z EL vm h x := fun B => by
  obtain ⟨cell, k, e1, e2, -⟩ := E
  obtain ⟨c1, cf, k1, i1, f, f1, f2, -, -, -, -, f7⟩ := F
  cases e1.symm.trans f1
  obtain ⟨p, -, u, a, -, q, -, F, rfl | rfl⟩ := B
  · obtain ⟨cS, ⟨⟨s1, s2, s3, ⟨cv, kv, iv, s4, s4'⟩, ⟨cc, kc, ic, s5, s5'⟩, s6, s7, s8, -⟩, -⟩, -⟩ := F
    cases (show h[q.sa]? = some q.sC from s1).symm.trans e1
    obtain ⟨kv', z4⟩ := ff_back (U := Wst Z vm h) hal s4
    cases f2.symm.trans z4
    rw [s8] at f7
    cases f7
  · cases (show h[q.sd]? = some q.SA from F.hd).symm.trans e1
    obtain ⟨cS, -, -, g, -⟩ := F
    have g : vm.findClass "[B" = some q.SA.cls := g
    rw [hal.findClass] at g
    obtain ⟨k3, q1, q2⟩ := Vm.findClass_spec g
    obtain ⟨k4, q3, q4⟩ := Vm.findClass_spec e2
    cases q1.symm.trans q3
    have := q2.symm.trans q4
    exact absurd this (by decide)
theorem pnS : plainName "java/lang/String" = true := by first | (simp [plainName, overriddenIn]; done) | decide +kernel
theorem pnL1 : plainName "java/lang/StringLatin1" = true := by first | (simp [plainName, overriddenIn]; done) | decide +kernel
theorem pnU : plainName "java/lang/StringUTF16" = true := by first | (simp [plainName, overriddenIn]; done) | decide +kernel
theorem dcan_0 : decode jdk_43_method_3_code 0 = .ok (.iload_n 0, 1) := by decide +kernel
theorem dcan_1 : decode jdk_43_method_3_code 1 = .ok (.sipush 255, 3) := by decide +kernel
theorem dcan_4 : decode jdk_43_method_3_code 4 = .ok (.if_icmp .gt 7, 3) := by decide +kernel
theorem dcan_7 : decode jdk_43_method_3_code 7 = .ok (.iconst 1, 1) := by decide +kernel
theorem dcan_8 : decode jdk_43_method_3_code 8 = .ok (.goto 4, 3) := by decide +kernel
theorem dcan_11 : decode jdk_43_method_3_code 11 = .ok (.iconst 0, 1) := by decide +kernel
theorem dcan_12 : decode jdk_43_method_3_code 12 = .ok (.ireturn, 1) := by decide +kernel
theorem dtob_0 : decode jdk_43_method_46_code 0 = .ok (.iconst 1, 1) := by decide +kernel
theorem dtob_1 : decode jdk_43_method_46_code 1 = .ok (.newarray .byte, 2) := by decide +kernel
theorem dtob_3 : decode jdk_43_method_46_code 3 = .ok (.dup, 1) := by decide +kernel
theorem dtob_4 : decode jdk_43_method_46_code 4 = .ok (.iconst 0, 1) := by decide +kernel
theorem dtob_5 : decode jdk_43_method_46_code 5 = .ok (.iload_n 0, 1) := by decide +kernel
theorem dtob_6 : decode jdk_43_method_46_code 6 = .ok (.i2b, 1) := by decide +kernel
theorem dtob_7 : decode jdk_43_method_46_code 7 = .ok (.bastore, 1) := by decide +kernel
theorem dtob_8 : decode jdk_43_method_46_code 8 = .ok (.areturn, 1) := by decide +kernel
theorem dbb_0 : decode jdk_42_method_151_code 0 = .ok (.aload_n 0, 1) := by decide +kernel
theorem dbb_1 : decode jdk_42_method_151_code 1 = .ok (.invokespecial 1, 3) := by decide +kernel
theorem dbb_4 : decode jdk_42_method_151_code 4 = .ok (.aload_n 0, 1) := by decide +kernel
theorem dbb_5 : decode jdk_42_method_151_code 5 = .ok (.aload_n 1, 1) := by decide +kernel
theorem dbb_6 : decode jdk_42_method_151_code 6 = .ok (.putfield 9, 3) := by decide +kernel
theorem dbb_9 : decode jdk_42_method_151_code 9 = .ok (.aload_n 0, 1) := by decide +kernel
theorem dbb_10 : decode jdk_42_method_151_code 10 = .ok (.iload_n 2, 1) := by decide +kernel
theorem dbb_11 : decode jdk_42_method_151_code 11 = .ok (.putfield 15, 3) := by decide +kernel
theorem dbb_14 : decode jdk_42_method_151_code 14 = .ok (.return_, 1) := by decide +kernel
theorem dvo_0 : decode jdk_42_method_139_code 0 = .ok (.getstatic 38, 3) := by decide +kernel
theorem dvo_3 : decode jdk_42_method_139_code 3 = .ok (.ifCond .eq 23, 3) := by decide +kernel
theorem dvo_6 : decode jdk_42_method_139_code 6 = .ok (.iload_n 0, 1) := by decide +kernel
theorem dvo_7 : decode jdk_42_method_139_code 7 = .ok (.invokestatic 1015, 3) := by decide +kernel
theorem dvo_10 : decode jdk_42_method_139_code 10 = .ok (.ifCond .eq 16, 3) := by decide +kernel
theorem dvo_13 : decode jdk_42_method_139_code 13 = .ok (.new 10, 3) := by decide +kernel
theorem dvo_16 : decode jdk_42_method_139_code 16 = .ok (.dup, 1) := by decide +kernel
theorem dvo_17 : decode jdk_42_method_139_code 17 = .ok (.iload_n 0, 1) := by decide +kernel
theorem dvo_18 : decode jdk_42_method_139_code 18 = .ok (.invokestatic 1018, 3) := by decide +kernel
theorem dvo_21 : decode jdk_42_method_139_code 21 = .ok (.iconst 0, 1) := by decide +kernel
theorem dvo_22 : decode jdk_42_method_139_code 22 = .ok (.invokespecial 209, 3) := by decide +kernel
theorem dvo_25 : decode jdk_42_method_139_code 25 = .ok (.areturn, 1) := by decide +kernel
theorem dvo_26 : decode jdk_42_method_139_code 26 = .ok (.new 10, 3) := by decide +kernel
theorem dvo_29 : decode jdk_42_method_139_code 29 = .ok (.dup, 1) := by decide +kernel
theorem dvo_30 : decode jdk_42_method_139_code 30 = .ok (.iload_n 0, 1) := by decide +kernel
theorem dvo_31 : decode jdk_42_method_139_code 31 = .ok (.invokestatic 1021, 3) := by decide +kernel
theorem dvo_34 : decode jdk_42_method_139_code 34 = .ok (.iconst 1, 1) := by decide +kernel
theorem dvo_35 : decode jdk_42_method_139_code 35 = .ok (.invokespecial 209, 3) := by decide +kernel
theorem dvo_38 : decode jdk_42_method_139_code 38 = .ok (.areturn, 1) := by decide +kernel
theorem pdCZ : parseMethodDescriptor "(C)Z" = some ⟨[.char], some .boolean⟩ := by decide +kernel
theorem pdCB : parseMethodDescriptor "(C)[B" = some ⟨[.char], some (.array .byte)⟩ := by decide +kernel
theorem pdBB : parseMethodDescriptor "([BB)V" = some ⟨[(.array .byte), .byte], none⟩ := by decide +kernel
theorem pdCS : parseMethodDescriptor "(C)Ljava/lang/String;" = some ⟨[.char], some (.object "java/lang/String")⟩ := by decide +kernel
set_option maxRecDepth 65536 in
set_option maxHeartbeats 4000000 in
theorem c_can (l : Launch) {Z : State} {a0 : Array Value} (hw : ∀ d ∈ tables_1, d.before a0 Z = true) {h : Heap} (hE : Ext Z.heap h) {x : Int32} (hx : ¬ 255 < x) :
    Con l (⟨"java/lang/StringLatin1", "canEncode", "(C)Z"⟩ : MethodName) jdk_43_method_3_code 1 (some .boolean) [] ({ frames := 0, cells := 0, slots := 0, locals := 0 } : Room) Z #[.int x] h (fun v h' => v = some (.int 1) ∧ h' = h) := by
  refine con_intro (by first | exact plainFor_of_name pnL1 | decide +kernel) hE ?_
  intro p e s m below meth c T K hret hlk hnm
  have ef : entryFrame m #[.int x] 1 = (mkF m 0 #[.val (.int x)] []) := by first | (simp [entryFrame, mkF, argsToLocals, Value.category]; done) | rfl
  rw [ef]
  refine r_iloadN (pc' := 1) K dcan_0 rfl rfl ?_
  refine r_sipush (v := (255 : Int32)) (pc' := 4) K dcan_1 rfl (by decide) ?_
  refine r_icmp (pc1 := 7) (pc2 := 11) K dcan_4 rfl (by decide) (by decide) ?_ ?_
  · intro (hc : (255 : Int32) < x)
    exact absurd hc hx
  · intro (hc : ¬ (255 : Int32) < x)
    refine r_iconst (v := (1 : Int32)) (pc' := 8) K dcan_7 rfl (by decide) ?_
    refine r_goto (pc' := 12) K dcan_8 (by decide) (by decide) ?_
    exact r_retZ K hret hlk (by decide) dcan_12 (by decide) (by decide) ⟨rfl, rfl⟩
set_option maxRecDepth 65536 in
set_option maxHeartbeats 4000000 in
theorem c_toB (l : Launch) {Z : State} {a0 : Array Value} (hw : ∀ d ∈ tables_1, d.before a0 Z = true) {h : Heap} (hE : Ext Z.heap h) {x : Int32} :
    Con l (⟨"java/lang/StringLatin1", "toBytes", "(C)[B"⟩ : MethodName) jdk_43_method_46_code 1 (some (.array .byte)) [] ({ frames := 0, cells := 1, slots := 1, locals := 0 } : Room) Z #[.int x] h (fun v h' => ∃ b k, v = some (.ref b) ∧ h.size ≤ b ∧ Ext h h' ∧ Arv Z h' b k .byte (Int32.ofNat 1) [.int (byt x)] (.int 0)) := by
  refine con_intro (by first | exact plainFor_of_name pnL1 | decide +kernel) hE ?_
  intro p e s m below meth c T K hret hlk hnm
  have ef : entryFrame m #[.int x] 1 = (mkF m 0 #[.val (.int x)] []) := by first | (simp [entryFrame, mkF, argsToLocals, Value.category]; done) | rfl
  rw [ef]
  refine r_iconst (v := (1 : Int32)) (pc' := 1) K dtob_0 rfl (by decide) ?_
  refine r_newarr (pc' := 3) (cap := 1) K (hw _ (List.mem_of_getElem? (i := 19) rfl)) dtob_1 rfl (by decide) (by decide) (by decide) (by decide) (by decide) ?_
  intro T1 h1 b k hb1 K1 E1 A1
  refine r_dup (pc' := 4) K1 dtob_3 rfl rfl ?_
  refine r_iconst (v := (0 : Int32)) (pc' := 5) K1 dtob_4 rfl (by decide) ?_
  refine r_iloadN (pc' := 6) K1 dtob_5 rfl rfl ?_
  refine r_i2b (pc' := 7) K1 dtob_6 rfl ?_
  refine r_bastore (pc' := 8) (i := 0) K1 (A1.pad (vs' := [.int 0]) (pad_rep [] (.int 0) 1)) (by rw [hb1]; exact K.sz) (by decide) (by decide) (by decide) dtob_7 rfl ?_
  intro T2 h2 K2 W2 A2
  rw [own_b8] at A2
  exact r_retA K2 hret hlk rfl rfl dtob_8 (by decide) (by decide) ⟨b, k, rfl, Nat.le_of_eq hb1.symm, ext_keep E1 (Keep.of_wr W2) (allS (Nat.le_of_eq hb1.symm) all0), A2⟩
set_option maxRecDepth 65536 in
set_option maxHeartbeats 4000000 in
theorem c_iBB (l : Launch) {Z : State} {a0 : Array Value} (hw : ∀ d ∈ tables_1, d.before a0 Z = true) {h : Heap} (hE : Ext Z.heap h) {a b : Addr} (ga : Z.heap.size ≤ a) (E : Exa Z h a "java/lang/String") (Fv : Fld Z h a "java/lang/String" "value" "[B" .null) (Fc : Fld Z h a "java/lang/String" "coder" "B" (.int 0)) :
    Con l (⟨"java/lang/String", "<init>", "([BB)V"⟩ : MethodName) jdk_42_method_151_code 3 none [] ({ frames := 1, cells := 0, slots := 0, locals := 12 } : Room) Z #[.ref a, .ref b, .int 0] h (fun v h' => v = none ∧ Keep h h' [a] ∧ Exa Z h' a "java/lang/String" ∧ Fld Z h' a "java/lang/String" "coder" "B" (.int 0) ∧ Fld Z h' a "java/lang/String" "value" "[B" (.ref b)) := by
  refine con_intro (by first | exact plainFor_of_name pnS | decide +kernel) hE ?_
  intro p e s m below meth c T K hret hlk hnm
  have ef : entryFrame m #[.ref a, .ref b, .int 0] 3 = (mkF m 0 #[.val (.ref a), .val (.ref b), .val (.int (0 : Int32))] []) := by first | (simp [entryFrame, mkF, argsToLocals, Value.category]; done) | rfl
  rw [ef]
  refine r_aloadN (pc' := 1) K dbb_0 rfl rfl rfl ?_
  refine r_init (pc' := 4) (W := 0) K (hw _ (List.mem_of_getElem? (i := 15) rfl)) (hw _ (List.mem_of_getElem? (i := 16) rfl)) (hw _ (List.mem_of_getElem? (i := 17) rfl)) rfl dbb_1 rfl (by decide) (Nat.le_refl _) (by decide) ?_
  intro T1 K1
  refine r_aloadN (pc' := 5) K1 dbb_4 rfl rfl rfl ?_
  refine r_aloadN (pc' := 6) K1 dbb_5 rfl rfl rfl ?_
  refine r_putF (pc' := 9) K1 (hw _ (List.mem_of_getElem? (i := 24) rfl)) Fv E ga (Or.inr ⟨(hw _ (List.mem_of_getElem? (i := 20) rfl)), rfl, hnm⟩) (hw _ (List.mem_of_getElem? (i := 5) rfl)) (ty := .array .byte) (by decide) rfl rfl dbb_6 rfl ?_
  intro T2 h2 K2 W2
  refine r_aloadN (pc' := 10) K2 dbb_9 rfl rfl rfl ?_
  refine r_iloadN (pc' := 11) K2 dbb_10 rfl rfl ?_
  refine r_putF (pc' := 14) K2 (hw _ (List.mem_of_getElem? (i := 25) rfl)) (Fc.other W2 (Or.inr (slot_ne (Or.inr (hw _ (List.mem_of_getElem? (i := 21) rfl))) (Or.inr (hw _ (List.mem_of_getElem? (i := 20) rfl))) (by decide) (t := .byte) (t' := .array .byte) (by decide) (by decide)))) (E.wr W2) ga (Or.inr ⟨(hw _ (List.mem_of_getElem? (i := 21) rfl)), rfl, hnm⟩) (hw _ (List.mem_of_getElem? (i := 5) rfl)) (ty := .byte) (by decide) rfl rfl dbb_11 rfl ?_
  intro T3 h3 K3 W3
  exact r_retV K3 hret hlk dbb_14 (by decide) (by decide) ⟨rfl, ((Keep.refl _ _).wr W2 (Or.inl (List.mem_of_getElem? (i := 0) rfl))).wr W3 (Or.inl (List.mem_of_getElem? (i := 0) rfl)), (E.wr W2).wr W3, (Fc.other W2 (Or.inr (slot_ne (Or.inr (hw _ (List.mem_of_getElem? (i := 21) rfl))) (Or.inr (hw _ (List.mem_of_getElem? (i := 20) rfl))) (by decide) (t := .byte) (t' := .array .byte) (by decide) (by decide)))).same W3, (Fv.same W2).other W3 (Or.inr (slot_ne (Or.inr (hw _ (List.mem_of_getElem? (i := 20) rfl))) (Or.inr (hw _ (List.mem_of_getElem? (i := 21) rfl))) (by decide) (t := .array .byte) (t' := .byte) (by decide) (by decide)))⟩
set_option maxRecDepth 65536 in
set_option maxHeartbeats 4000000 in
theorem c_vOf (l : Launch) {Z : State} {a0 : Array Value} (hw : ∀ d ∈ tables_1, d.before a0 Z = true) {h : Heap} (hE : Ext Z.heap h) {x : Int32} (hx : ¬ 255 < x) {cs0 : Int32} (Cs : Sta Z Z.heap "java/lang/String" "COMPACT_STRINGS" "Z" (.int cs0)) (hcs : ¬ cs0 = 0) :
    Con l (⟨"java/lang/String", "valueOf", "(C)Ljava/lang/String;"⟩ : MethodName) jdk_42_method_139_code 1 (some (.object "java/lang/String")) [] ({ frames := 2, cells := 2, slots := 5, locals := 27 } : Room) Z #[.int x] h (fun v h' => ∃ a, v = some (.ref a) ∧ h.size ≤ a ∧ Ext h h' ∧ StrL Z h' a [byt x]) := by
  refine con_intro (by first | exact plainFor_of_name pnS | decide +kernel) hE ?_
  intro p e s m below meth c T K hret hlk hnm
  have ef : entryFrame m #[.int x] 1 = (mkF m 0 #[.val (.int x)] []) := by first | (simp [entryFrame, mkF, argsToLocals, Value.category]; done) | rfl
  rw [ef]
  refine r_getS (pc' := 3) K (hw _ (List.mem_of_getElem? (i := 55) rfl)) (Cs.ext K.ext) dvo_0 rfl ?_
  intro T1 K1
  refine r_if (pc1 := 6) (pc2 := 26) K1 dvo_3 rfl (by decide) (by decide) ?_ ?_
  · intro (hc : cs0 = (0 : Int32))
    exact absurd hc hcs
  · intro (hc : ¬ cs0 = (0 : Int32))
    refine r_iloadN (pc' := 7) K1 dvo_6 rfl rfl ?_
    refine r_static (pc' := 10) (argsL := [.int x]) (rest := []) (W := 0) K1 (c_can l hw hE hx) (hw _ (List.mem_of_getElem? (i := 73) rfl)) (hw _ (List.mem_of_getElem? (i := 74) rfl)) (hw _ (List.mem_of_getElem? (i := 58) rfl)) (hw _ (List.mem_of_getElem? (i := 75) rfl)) (by decide) pdCZ rfl rfl rfl (Nat.le_refl _) (by decide) (by decide) (by decide) (by decide) dvo_7 rfl ?_
    rintro _ T2 _ K2 ⟨rfl, rfl⟩
    refine r_if (pc1 := 13) (pc2 := 26) K2 dvo_10 rfl (by decide) (by decide) ?_ ?_
    · intro (hc2 : (1 : Int32) = (0 : Int32))
      exact absurd hc2 (by decide)
    · intro (hc2 : ¬ (1 : Int32) = (0 : Int32))
      refine r_new (pc' := 16) K2 (hw _ (List.mem_of_getElem? (i := 54) rfl)) (hw _ (List.mem_of_getElem? (i := 5) rfl)) (hw _ (List.mem_of_getElem? (i := 6) rfl)) dvo_13 rfl (by decide) (by decide) ?_
      intro T3 h3 a ha K3 E3 A3 D3
      refine r_dup (pc' := 17) K3 dvo_16 rfl rfl ?_
      refine r_iloadN (pc' := 18) K3 dvo_17 rfl rfl ?_
      refine r_static (pc' := 21) (argsL := [.int x]) (rest := [.ref a, .ref a]) (W := 2) K3 (c_toB l hw K3.ext (x := x)) (hw _ (List.mem_of_getElem? (i := 76) rfl)) (hw _ (List.mem_of_getElem? (i := 77) rfl)) (hw _ (List.mem_of_getElem? (i := 58) rfl)) (hw _ (List.mem_of_getElem? (i := 78) rfl)) (by decide) pdCB rfl rfl rfl (Nat.le_refl _) (by decide) (by decide) (by decide) (by decide) dvo_18 rfl ?_
      rintro _ T4 h4 K4 ⟨b, kb, rfl, hb4, E4, A4⟩
      refine r_iconst (v := (0 : Int32)) (pc' := 22) K4 dvo_21 rfl (by decide) ?_
      have ga : Z.heap.size ≤ a := by rw [ha]; exact K.sz
      refine r_special (pc' := 25) (argsL := [.ref b, .int (0 : Int32)]) (rest := [.ref a]) (W := 1) K4 (c_iBB l hw K4.ext (b := b) ga (A3.ext E4) ((D3 (Or.inr (hw _ (List.mem_of_getElem? (i := 20) rfl))) (ty := .array .byte) (by decide)).ext E4) ((D3 (Or.inr (hw _ (List.mem_of_getElem? (i := 21) rfl))) (ty := .byte) (by decide)).ext E4)) rfl (hw _ (List.mem_of_getElem? (i := 79) rfl)) (hw _ (List.mem_of_getElem? (i := 80) rfl)) (hw _ (List.mem_of_getElem? (i := 6) rfl)) (hw _ (List.mem_of_getElem? (i := 81) rfl)) (by decide) pdBB rfl rfl rfl (Nat.le_refl _) (by decide) (by decide) (by decide) (by decide) dvo_22 rfl ?_
      rintro _ T5 h5 K5 ⟨rfl, Kp, A5, Fc5, Fv5⟩
      have hab : b ≠ a := Nat.ne_of_gt (Nat.lt_of_lt_of_le A3.lt hb4)
      exact r_retA K5 hret hlk rfl rfl dvo_25 (by decide) (by decide) ⟨a, rfl, Nat.le_of_eq ha.symm, ext_keep (ext_tr E3 E4) Kp (allS (Nat.le_of_eq ha.symm) all0), b, kb, A5, Fc5, Fv5, A4.keep Kp (ninS hab nin0)⟩
theorem dsc_0 : decode jdk_42_method_3_code 0 = .ok (.aload_n 0, 1) := by decide +kernel
theorem dsc_1 : decode jdk_42_method_3_code 1 = .ok (.aload_n 1, 1) := by decide +kernel
theorem dsc_2 : decode jdk_42_method_3_code 2 = .ok (.iconst 0, 1) := by decide +kernel
theorem dsc_3 : decode jdk_42_method_3_code 3 = .ok (.aload_n 1, 1) := by decide +kernel
theorem dsc_4 : decode jdk_42_method_3_code 4 = .ok (.arraylength, 1) := by decide +kernel
theorem dsc_5 : decode jdk_42_method_3_code 5 = .ok (.aconst_null, 1) := by decide +kernel
theorem dsc_6 : decode jdk_42_method_3_code 6 = .ok (.invokespecial 27, 3) := by decide +kernel
theorem dsc_9 : decode jdk_42_method_3_code 9 = .ok (.return_, 1) := by decide +kernel
theorem dsv_0 : decode jdk_42_method_149_code 0 = .ok (.aload_n 0, 1) := by decide +kernel
theorem dsv_1 : decode jdk_42_method_149_code 1 = .ok (.invokespecial 1, 3) := by decide +kernel
theorem dsv_4 : decode jdk_42_method_149_code 4 = .ok (.iload_n 3, 1) := by decide +kernel
theorem dsv_5 : decode jdk_42_method_149_code 5 = .ok (.ifCond .ne 22, 3) := by decide +kernel
theorem dsv_8 : decode jdk_42_method_149_code 8 = .ok (.aload_n 0, 1) := by decide +kernel
theorem dsv_9 : decode jdk_42_method_149_code 9 = .ok (.ldc 7, 2) := by decide +kernel
theorem dsv_11 : decode jdk_42_method_149_code 11 = .ok (.getfield 9, 3) := by decide +kernel
theorem dsv_14 : decode jdk_42_method_149_code 14 = .ok (.putfield 9, 3) := by decide +kernel
theorem dsv_17 : decode jdk_42_method_149_code 17 = .ok (.aload_n 0, 1) := by decide +kernel
theorem dsv_18 : decode jdk_42_method_149_code 18 = .ok (.ldc 7, 2) := by decide +kernel
theorem dsv_20 : decode jdk_42_method_149_code 20 = .ok (.getfield 15, 3) := by decide +kernel
theorem dsv_23 : decode jdk_42_method_149_code 23 = .ok (.putfield 15, 3) := by decide +kernel
theorem dsv_26 : decode jdk_42_method_149_code 26 = .ok (.return_, 1) := by decide +kernel
theorem dsv_27 : decode jdk_42_method_149_code 27 = .ok (.getstatic 38, 3) := by decide +kernel
theorem dsv_30 : decode jdk_42_method_149_code 30 = .ok (.ifCond .eq 28, 3) := by decide +kernel
theorem dsv_33 : decode jdk_42_method_149_code 33 = .ok (.aload_n 1, 1) := by decide +kernel
theorem dsv_34 : decode jdk_42_method_149_code 34 = .ok (.iload_n 2, 1) := by decide +kernel
theorem dsv_35 : decode jdk_42_method_149_code 35 = .ok (.iload_n 3, 1) := by decide +kernel
theorem dsv_36 : decode jdk_42_method_149_code 36 = .ok (.invokestatic 177, 3) := by decide +kernel
theorem dsv_39 : decode jdk_42_method_149_code 39 = .ok (.astore 5, 2) := by decide +kernel
theorem dsv_41 : decode jdk_42_method_149_code 41 = .ok (.aload_n 0, 1) := by decide +kernel
theorem dsv_42 : decode jdk_42_method_149_code 42 = .ok (.aload 5, 2) := by decide +kernel
theorem dsv_44 : decode jdk_42_method_149_code 44 = .ok (.iload_n 3, 1) := by decide +kernel
theorem dsv_45 : decode jdk_42_method_149_code 45 = .ok (.invokestatic 47, 3) := by decide +kernel
theorem dsv_48 : decode jdk_42_method_149_code 48 = .ok (.putfield 15, 3) := by decide +kernel
theorem dsv_51 : decode jdk_42_method_149_code 51 = .ok (.aload_n 0, 1) := by decide +kernel
theorem dsv_52 : decode jdk_42_method_149_code 52 = .ok (.aload 5, 2) := by decide +kernel
theorem dsv_54 : decode jdk_42_method_149_code 54 = .ok (.putfield 9, 3) := by decide +kernel
theorem dsv_57 : decode jdk_42_method_149_code 57 = .ok (.return_, 1) := by decide +kernel
theorem dsv_58 : decode jdk_42_method_149_code 58 = .ok (.aload_n 0, 1) := by decide +kernel
theorem dsv_59 : decode jdk_42_method_149_code 59 = .ok (.iconst 1, 1) := by decide +kernel
theorem dsv_60 : decode jdk_42_method_149_code 60 = .ok (.putfield 15, 3) := by decide +kernel
theorem dsv_63 : decode jdk_42_method_149_code 63 = .ok (.aload_n 0, 1) := by decide +kernel
theorem dsv_64 : decode jdk_42_method_149_code 64 = .ok (.aload_n 1, 1) := by decide +kernel
theorem dsv_65 : decode jdk_42_method_149_code 65 = .ok (.iload_n 2, 1) := by decide +kernel
theorem dsv_66 : decode jdk_42_method_149_code 66 = .ok (.iload_n 3, 1) := by decide +kernel
theorem dsv_67 : decode jdk_42_method_149_code 67 = .ok (.invokestatic 180, 3) := by decide +kernel
theorem dsv_70 : decode jdk_42_method_149_code 70 = .ok (.putfield 9, 3) := by decide +kernel
theorem dsv_73 : decode jdk_42_method_149_code 73 = .ok (.return_, 1) := by decide +kernel
theorem dcm_0 : decode jdk_52_method_16_code 0 = .ok (.iload_n 2, 1) := by decide +kernel
theorem dcm_1 : decode jdk_52_method_16_code 1 = .ok (.newarray .byte, 2) := by decide +kernel
theorem dcm_3 : decode jdk_52_method_16_code 3 = .ok (.astore_n 3, 1) := by decide +kernel
theorem dcm_4 : decode jdk_52_method_16_code 4 = .ok (.aload_n 0, 1) := by decide +kernel
theorem dcm_5 : decode jdk_52_method_16_code 5 = .ok (.iload_n 1, 1) := by decide +kernel
theorem dcm_6 : decode jdk_52_method_16_code 6 = .ok (.aload_n 3, 1) := by decide +kernel
theorem dcm_7 : decode jdk_52_method_16_code 7 = .ok (.iconst 0, 1) := by decide +kernel
theorem dcm_8 : decode jdk_52_method_16_code 8 = .ok (.iload_n 2, 1) := by decide +kernel
theorem dcm_9 : decode jdk_52_method_16_code 9 = .ok (.invokestatic 115, 3) := by decide +kernel
theorem dcm_12 : decode jdk_52_method_16_code 12 = .ok (.istore 4, 2) := by decide +kernel
theorem dcm_14 : decode jdk_52_method_16_code 14 = .ok (.iload 4, 2) := by decide +kernel
theorem dcm_16 : decode jdk_52_method_16_code 16 = .ok (.iload_n 2, 1) := by decide +kernel
theorem dcm_17 : decode jdk_52_method_16_code 17 = .ok (.if_icmp .eq 40, 3) := by decide +kernel
theorem dcm_20 : decode jdk_52_method_16_code 20 = .ok (.aload_n 0, 1) := by decide +kernel
theorem dcm_21 : decode jdk_52_method_16_code 21 = .ok (.iload_n 1, 1) := by decide +kernel
theorem dcm_22 : decode jdk_52_method_16_code 22 = .ok (.iload_n 2, 1) := by decide +kernel
theorem dcm_23 : decode jdk_52_method_16_code 23 = .ok (.invokestatic 119, 3) := by decide +kernel
theorem dcm_26 : decode jdk_52_method_16_code 26 = .ok (.astore 5, 2) := by decide +kernel
theorem dcm_28 : decode jdk_52_method_16_code 28 = .ok (.aload 5, 2) := by decide +kernel
theorem dcm_30 : decode jdk_52_method_16_code 30 = .ok (.iload 4, 2) := by decide +kernel
theorem dcm_32 : decode jdk_52_method_16_code 32 = .ok (.invokestatic 71, 3) := by decide +kernel
theorem dcm_35 : decode jdk_52_method_16_code 35 = .ok (.sipush 255, 3) := by decide +kernel
theorem dcm_38 : decode jdk_52_method_16_code 38 = .ok (.if_icmp .gt 16, 3) := by decide +kernel
theorem dcm_41 : decode jdk_52_method_16_code 41 = .ok (.aload 5, 2) := by decide +kernel
theorem dcm_43 : decode jdk_52_method_16_code 43 = .ok (.iconst 0, 1) := by decide +kernel
theorem dcm_44 : decode jdk_52_method_16_code 44 = .ok (.aload_n 3, 1) := by decide +kernel
theorem dcm_45 : decode jdk_52_method_16_code 45 = .ok (.iconst 0, 1) := by decide +kernel
theorem dcm_46 : decode jdk_52_method_16_code 46 = .ok (.iload_n 2, 1) := by decide +kernel
theorem dcm_47 : decode jdk_52_method_16_code 47 = .ok (.invokestatic 123, 3) := by decide +kernel
theorem dcm_50 : decode jdk_52_method_16_code 50 = .ok (.iload_n 2, 1) := by decide +kernel
theorem dcm_51 : decode jdk_52_method_16_code 51 = .ok (.if_icmp .eq 6, 3) := by decide +kernel
theorem dcm_54 : decode jdk_52_method_16_code 54 = .ok (.aload 5, 2) := by decide +kernel
theorem dcm_56 : decode jdk_52_method_16_code 56 = .ok (.areturn, 1) := by decide +kernel
theorem dcm_57 : decode jdk_52_method_16_code 57 = .ok (.aload_n 3, 1) := by decide +kernel
theorem dcm_58 : decode jdk_52_method_16_code 58 = .ok (.areturn, 1) := by decide +kernel
theorem dcl_0 : decode jdk_52_method_21_code 0 = .ok (.iconst 0, 1) := by decide +kernel
theorem dcl_1 : decode jdk_52_method_21_code 1 = .ok (.istore 5, 2) := by decide +kernel
theorem dcl_3 : decode jdk_52_method_21_code 3 = .ok (.iload 5, 2) := by decide +kernel
theorem dcl_5 : decode jdk_52_method_21_code 5 = .ok (.iload 4, 2) := by decide +kernel
theorem dcl_7 : decode jdk_52_method_21_code 7 = .ok (.if_icmp .ge 37, 3) := by decide +kernel
theorem dcl_10 : decode jdk_52_method_21_code 10 = .ok (.aload_n 0, 1) := by decide +kernel
theorem dcl_11 : decode jdk_52_method_21_code 11 = .ok (.iload_n 1, 1) := by decide +kernel
theorem dcl_12 : decode jdk_52_method_21_code 12 = .ok (.caload, 1) := by decide +kernel
theorem dcl_13 : decode jdk_52_method_21_code 13 = .ok (.istore 6, 2) := by decide +kernel
theorem dcl_15 : decode jdk_52_method_21_code 15 = .ok (.iload 6, 2) := by decide +kernel
theorem dcl_17 : decode jdk_52_method_21_code 17 = .ok (.sipush 255, 3) := by decide +kernel
theorem dcl_20 : decode jdk_52_method_21_code 20 = .ok (.if_icmp .le 6, 3) := by decide +kernel
theorem dcl_23 : decode jdk_52_method_21_code 23 = .ok (.iload 5, 2) := by decide +kernel
theorem dcl_25 : decode jdk_52_method_21_code 25 = .ok (.ireturn, 1) := by decide +kernel
theorem dcl_26 : decode jdk_52_method_21_code 26 = .ok (.aload_n 2, 1) := by decide +kernel
theorem dcl_27 : decode jdk_52_method_21_code 27 = .ok (.iload_n 3, 1) := by decide +kernel
theorem dcl_28 : decode jdk_52_method_21_code 28 = .ok (.iload 6, 2) := by decide +kernel
theorem dcl_30 : decode jdk_52_method_21_code 30 = .ok (.i2b, 1) := by decide +kernel
theorem dcl_31 : decode jdk_52_method_21_code 31 = .ok (.bastore, 1) := by decide +kernel
theorem dcl_32 : decode jdk_52_method_21_code 32 = .ok (.iinc 1 1, 3) := by decide +kernel
theorem dcl_35 : decode jdk_52_method_21_code 35 = .ok (.iinc 3 1, 3) := by decide +kernel
theorem dcl_38 : decode jdk_52_method_21_code 38 = .ok (.iinc 5 1, 3) := by decide +kernel
theorem dcl_41 : decode jdk_52_method_21_code 41 = .ok (.goto (-38), 3) := by decide +kernel
theorem dcl_44 : decode jdk_52_method_21_code 44 = .ok (.iload 4, 2) := by decide +kernel
theorem dcl_46 : decode jdk_52_method_21_code 46 = .ok (.ireturn, 1) := by decide +kernel
theorem dco_0 : decode jdk_52_method_15_code 0 = .ok (.iload_n 1, 1) := by decide +kernel
theorem dco_1 : decode jdk_52_method_15_code 1 = .ok (.aload_n 0, 1) := by decide +kernel
theorem dco_2 : decode jdk_52_method_15_code 2 = .ok (.arraylength, 1) := by decide +kernel
theorem dco_3 : decode jdk_52_method_15_code 3 = .ok (.isub, 1) := by decide +kernel
theorem dco_4 : decode jdk_52_method_15_code 4 = .ok (.bipush 31, 2) := by decide +kernel
theorem dco_6 : decode jdk_52_method_15_code 6 = .ok (.iushr, 1) := by decide +kernel
theorem dco_7 : decode jdk_52_method_15_code 7 = .ok (.i2b, 1) := by decide +kernel
theorem dco_8 : decode jdk_52_method_15_code 8 = .ok (.ireturn, 1) := by decide +kernel
theorem pdSV : parseMethodDescriptor "([CIILjava/lang/Void;)V" = some ⟨[(.array .char), .int, .int, (.object "java/lang/Void")], none⟩ := by decide +kernel
theorem pdSC : parseMethodDescriptor "([C)V" = some ⟨[(.array .char)], none⟩ := by decide +kernel
theorem pdCM : parseMethodDescriptor "([CII)[B" = some ⟨[(.array .char), .int, .int], some (.array .byte)⟩ := by decide +kernel
theorem pdCL : parseMethodDescriptor "([CI[BII)I" = some ⟨[(.array .char), .int, (.array .byte), .int, .int], some .int⟩ := by decide +kernel
theorem pdCO : parseMethodDescriptor "([BI)B" = some ⟨[(.array .byte), .int], some .byte⟩ := by decide +kernel
theorem own_get {xs : List Int32} {j : Nat} (h : j < xs.length) : ∃ y, xs[j]? = some y := ⟨xs[j], List.getElem?_eq_getElem h⟩
theorem own_gv {cs : List Int32} {i : Nat} {x : Int32} (h : cs[i]? = some x) : (cs.map Value.int).getD i (.int 0) = .int x := by
  simp [List.getD_eq_getElem?_getD, h]
/-- dst when i signs are written -/
def own_dst (cs : List Int32) (i : Nat) : List Value := ((cs.take i).map fun x => Value.int (byt x)) ++ List.replicate (cs.length - i) (.int 0)
theorem own_dst0 (cs : List Int32) : own_dst cs 0 = List.replicate cs.length (.int 0) := by simp [own_dst]
theorem own_dstn (cs : List Int32) : own_dst cs cs.length = (cs.map byt).map Value.int := by simp [own_dst]
theorem own_dstl (cs : List Int32) {i : Nat} (hi : i ≤ cs.length) : (own_dst cs i).length = cs.length := by simp [own_dst]; omega
theorem own_dsts {cs : List Int32} {i : Nat} {x : Int32} (h : cs[i]? = some x) : (own_dst cs i).set i (.int (byt x)) = own_dst cs (i + 1) := by
  have hi := (List.getElem?_eq_some_iff.mp h).1
  have hx := (List.getElem?_eq_some_iff.mp h).2
  obtain ⟨d, hd⟩ : ∃ d, cs.length - i = d + 1 := ⟨cs.length - i - 1, by omega⟩
  have hd2 : cs.length - (i + 1) = d := by omega
  have hl : ((cs.take i).map fun x => Value.int (byt x)).length = i := by simp; omega
  unfold own_dst
  rw [hd, hd2, List.replicate_succ, List.set_append, if_neg (by omega), hl, Nat.sub_self, List.set_cons_zero, List.take_add_one, h]
  simp
theorem own_s6c {z0 z1 z2 z3 z4 z5 : Value} {s6 : Slot} {v : Int32} (h : One s6) : storeLocals #[.val z0, .val z1, .val z2, .val z3, .val z4, .val z5, s6] 6 (.int v) = some #[.val z0, .val z1, .val z2, .val z3, .val z4, .val z5, .val (.int v)] := by
  rcases h with rfl | ⟨w, rfl, hw⟩
  · rfl
  · cases w <;> first | rfl | (simp [Value.category] at hw)
section Lp
variable {Z : State} {a0 : Array Value} {p : Program} {l : Launch} {e : Env} {R : Room} {s : State} {m : MethodId} {args : Array Value} {below : List Frame} {meth : Method} {c : Code} {T : State} {h : Heap} {cells slots : Nat} {P : State → Prop}
set_option maxRecDepth 65536 in
set_option maxHeartbeats 4000000 in
theorem c_loop {src dst : Addr} {ks kd : ClassId} {cs : List Int32} (hn : cs.length ≤ 4) (hlat : ∀ (i : Nat) (x : Int32), cs[i]? = some x → ¬ 255 < x) (gd : Z.heap.size ≤ dst) (hsd : src ≠ dst)
    (hk : ∀ s6 T' h', St Z "java/lang/StringUTF16" jdk_52_method_21_code 7 p l e R s m args below meth c T' h' cells slots → Keep h h' [dst] → Arv Z h' dst kd .byte (Int32.ofNat cs.length) ((cs.map byt).map Value.int) (.int 0) → Run p e below P T' (mkF m 44 #[.val (.ref src), .val (.int (Int32.ofNat cs.length)), .val (.ref dst), .val (.int (Int32.ofNat cs.length)), .val (.int (Int32.ofNat cs.length)), .val (.int (Int32.ofNat cs.length)), s6] [])) :
    ∀ (k i : Nat) (s6 : Slot) (T : State) (h' : Heap), i + k = cs.length → One s6 → St Z "java/lang/StringUTF16" jdk_52_method_21_code 7 p l e R s m args below meth c T h' cells slots → Keep h h' [dst] → Arv Z h' src ks .char (Int32.ofNat cs.length) (cs.map Value.int) (.int 0) → Arv Z h' dst kd .byte (Int32.ofNat cs.length) (own_dst cs i) (.int 0) → Run p e below P T (mkF m 3 #[.val (.ref src), .val (.int (Int32.ofNat i)), .val (.ref dst), .val (.int (Int32.ofNat i)), .val (.int (Int32.ofNat cs.length)), .val (.int (Int32.ofNat i)), s6] []) := by
  intro k
  induction k with
  | zero =>
    intro i s6 T h' hi hs6 K Kp A D
    obtain rfl : i = cs.length := by omega
    refine r_iload (pc' := 5) K dcl_3 rfl rfl ?_
    refine r_iload (pc' := 7) K dcl_5 rfl rfl ?_
    refine r_icmp (pc1 := 10) (pc2 := 44) K dcl_7 rfl (by decide) (by decide) ?_ ?_
    · intro (hc : ¬ (Int32.ofNat cs.length) < (Int32.ofNat cs.length))
      exact hk s6 T h' K Kp (by rw [← own_dstn]; exact D)
    · intro (hc : (Int32.ofNat cs.length) < (Int32.ofNat cs.length))
      exact absurd hc Int32.lt_irrefl
  | succ k ih =>
    intro i s6 T h' hi hs6 K Kp A D
    refine r_iload (pc' := 5) K dcl_3 rfl rfl ?_
    refine r_iload (pc' := 7) K dcl_5 rfl rfl ?_
    refine r_icmp (pc1 := 10) (pc2 := 44) K dcl_7 rfl (by decide) (by decide) ?_ ?_
    · intro (hc : ¬ (Int32.ofNat i) < (Int32.ofNat cs.length))
      exact absurd (own_lt (by omega) (by omega)) hc
    · intro (hc : (Int32.ofNat i) < (Int32.ofNat cs.length))
      obtain ⟨x, hx⟩ := own_get (xs := cs) (j := i) (by omega)
      refine r_aloadN (pc' := 11) K dcl_10 rfl rfl rfl ?_
      refine r_iloadN (pc' := 12) K dcl_11 rfl rfl ?_
      refine r_caload (pc' := 13) (v := .int x) K A ⟨own_nn (by omega), own_lt (by omega) (by omega)⟩ (by rw [own_n32 (by omega)]; exact own_gv hx) dcl_12 rfl ?_
      refine r_istore (Ls' := #[.val (.ref src), .val (.int (Int32.ofNat i)), .val (.ref dst), .val (.int (Int32.ofNat i)), .val (.int (Int32.ofNat cs.length)), .val (.int (Int32.ofNat i)), .val (.int x)]) (pc' := 15) K dcl_13 rfl (own_s6c hs6) ?_
      refine r_iload (pc' := 17) K dcl_15 rfl rfl ?_
      refine r_sipush (v := (255 : Int32)) (pc' := 20) K dcl_17 rfl (by decide) ?_
      refine r_icmp (pc1 := 23) (pc2 := 26) K dcl_20 rfl (by decide) (by decide) ?_ ?_
      · intro (hc2 : ¬ (255 : Int32) < x)
        refine r_aloadN (pc' := 27) K dcl_26 rfl rfl rfl ?_
        refine r_iloadN (pc' := 28) K dcl_27 rfl rfl ?_
        refine r_iload (pc' := 30) K dcl_28 rfl rfl ?_
        refine r_i2b (pc' := 31) K dcl_30 rfl ?_
        refine r_bastore (pc' := 32) (i := i) K D gd ⟨own_nn (by omega), own_lt (by omega) (by omega)⟩ (own_n32 (by omega)) (by rw [own_dstl cs (by omega)]; omega) dcl_31 rfl ?_
        intro T2 h2 K2 W2 D2
        rw [own_b8, own_dsts hx] at D2
        refine r_iinc (v := (1 : Int32)) (Ls' := #[.val (.ref src), .val (.int ((Int32.ofNat i) + (1 : Int32))), .val (.ref dst), .val (.int (Int32.ofNat i)), .val (.int (Int32.ofNat cs.length)), .val (.int (Int32.ofNat i)), .val (.int x)]) (pc' := 35) K2 dcl_32 rfl (by decide) rfl rfl ?_
        refine r_iinc (v := (1 : Int32)) (Ls' := #[.val (.ref src), .val (.int ((Int32.ofNat i) + (1 : Int32))), .val (.ref dst), .val (.int ((Int32.ofNat i) + (1 : Int32))), .val (.int (Int32.ofNat cs.length)), .val (.int (Int32.ofNat i)), .val (.int x)]) (pc' := 38) K2 dcl_35 rfl (by decide) rfl rfl ?_
        refine r_iinc (v := (1 : Int32)) (Ls' := #[.val (.ref src), .val (.int ((Int32.ofNat i) + (1 : Int32))), .val (.ref dst), .val (.int ((Int32.ofNat i) + (1 : Int32))), .val (.int (Int32.ofNat cs.length)), .val (.int ((Int32.ofNat i) + (1 : Int32))), .val (.int x)]) (pc' := 41) K2 dcl_38 rfl (by decide) rfl rfl ?_
        simp only [own_one]
        refine r_goto (pc' := 3) K2 dcl_41 (by decide) (by decide) ?_
        exact ih (i + 1) (.val (.int x)) T2 h2 (by omega) (One.val rfl) K2 (Kp.wr W2 (Or.inl (List.mem_of_getElem? (i := 0) rfl))) (A.other W2 hsd) D2
      · intro (hc2 : (255 : Int32) < x)
        exact absurd hc2 (hlat i x hx)
end Lp
set_option maxRecDepth 65536 in
set_option maxHeartbeats 4000000 in
theorem c_cmpL (l : Launch) {Z : State} {a0 : Array Value} (hw : ∀ d ∈ tables_1, d.before a0 Z = true) {h : Heap} (hE : Ext Z.heap h) {src : Addr} {ks : ClassId} {cs : List Int32} (hn : cs.length ≤ 4) (A : Arv Z h src ks .char (Int32.ofNat cs.length) (cs.map Value.int) (.int 0)) {dst : Addr} {kd : ClassId} (hlat : ∀ (i : Nat) (x : Int32), cs[i]? = some x → ¬ 255 < x) (gd : Z.heap.size ≤ dst) (hsd : src ≠ dst) (D : Arv Z h dst kd .byte (Int32.ofNat cs.length) (List.replicate cs.length (.int 0)) (.int 0)) :
    Con l (⟨"java/lang/StringUTF16", "compress", "([CI[BII)I"⟩ : MethodName) jdk_52_method_21_code 7 (some .int) [] ({ frames := 0, cells := 0, slots := 0, locals := 0 } : Room) Z #[.ref src, .int 0, .ref dst, .int 0, .int (Int32.ofNat cs.length)] h (fun v h' => v = some (.int (Int32.ofNat cs.length)) ∧ Keep h h' [dst] ∧ Arv Z h' dst kd .byte (Int32.ofNat cs.length) ((cs.map byt).map Value.int) (.int 0)) := by
  refine con_intro (by first | exact plainFor_of_name pnU | decide +kernel) hE ?_
  intro p e s m below meth c T K hret hlk hnm
  have ef : entryFrame m #[.ref src, .int 0, .ref dst, .int 0, .int (Int32.ofNat cs.length)] 7 = (mkF m 0 #[.val (.ref src), .val (.int (0 : Int32)), .val (.ref dst), .val (.int (0 : Int32)), .val (.int (Int32.ofNat cs.length)), .unset, .unset] []) := by first | (simp [entryFrame, mkF, argsToLocals, Value.category]; done) | rfl
  rw [ef]
  refine r_iconst (v := (0 : Int32)) (pc' := 1) K dcl_0 rfl (by decide) ?_
  refine r_istore (Ls' := #[.val (.ref src), .val (.int (0 : Int32)), .val (.ref dst), .val (.int (0 : Int32)), .val (.int (Int32.ofNat cs.length)), .val (.int (0 : Int32)), .unset]) (pc' := 3) K dcl_1 rfl rfl ?_
  refine c_loop (h := h) hn hlat gd hsd ?_ cs.length 0 .unset T h (by omega) One.u K (Keep.refl _ _) A (by rw [own_dst0]; exact D)
  intro s6 T1 h1 K1 Kp1 D1
  refine r_iload (pc' := 46) K1 dcl_44 rfl rfl ?_
  exact r_retI K1 hret hlk dcl_46 (by decide) (by decide) ⟨rfl, Kp1, D1⟩
set_option maxRecDepth 65536 in
set_option maxHeartbeats 4000000 in
theorem c_cmp (l : Launch) {Z : State} {a0 : Array Value} (hw : ∀ d ∈ tables_1, d.before a0 Z = true) {h : Heap} (hE : Ext Z.heap h) {src : Addr} {ks : ClassId} {cs : List Int32} (hn : cs.length ≤ 4) (A : Arv Z h src ks .char (Int32.ofNat cs.length) (cs.map Value.int) (.int 0)) (hlat : ∀ (i : Nat) (x : Int32), cs[i]? = some x → ¬ 255 < x) :
    Con l (⟨"java/lang/StringUTF16", "compress", "([CII)[B"⟩ : MethodName) jdk_52_method_16_code 6 (some (.array .byte)) [] ({ frames := 1, cells := 1, slots := 4, locals := 18 } : Room) Z #[.ref src, .int 0, .int (Int32.ofNat cs.length)] h (fun v h' => ∃ b k, v = some (.ref b) ∧ h.size ≤ b ∧ Ext h h' ∧ Arv Z h' b k .byte (Int32.ofNat cs.length) ((cs.map byt).map Value.int) (.int 0)) := by
  refine con_intro (by first | exact plainFor_of_name pnU | decide +kernel) hE ?_
  intro p e s m below meth c T K hret hlk hnm
  have ef : entryFrame m #[.ref src, .int 0, .int (Int32.ofNat cs.length)] 6 = (mkF m 0 #[.val (.ref src), .val (.int (0 : Int32)), .val (.int (Int32.ofNat cs.length)), .unset, .unset, .unset] []) := by first | (simp [entryFrame, mkF, argsToLocals, Value.category]; done) | rfl
  rw [ef]
  refine r_iloadN (pc' := 1) K dcm_0 rfl rfl ?_
  refine r_newarr (pc' := 3) (cap := 4) K (hw _ (List.mem_of_getElem? (i := 19) rfl)) dcm_1 rfl (own_nn (by omega)) (by rw [own_n32 (by omega)]; exact hn) (by decide) (by decide) (by decide) ?_
  intro T1 h1 b k hb1 K1 E1 A1
  refine r_astoreN (Ls' := #[.val (.ref src), .val (.int (0 : Int32)), .val (.int (Int32.ofNat cs.length)), .val (.ref b), .unset, .unset]) (pc' := 4) K1 dcm_3 rfl rfl rfl ?_
  refine r_aloadN (pc' := 5) K1 dcm_4 rfl rfl rfl ?_
  refine r_iloadN (pc' := 6) K1 dcm_5 rfl rfl ?_
  refine r_aloadN (pc' := 7) K1 dcm_6 rfl rfl rfl ?_
  refine r_iconst (v := (0 : Int32)) (pc' := 8) K1 dcm_7 rfl (by decide) ?_
  refine r_iloadN (pc' := 9) K1 dcm_8 rfl rfl ?_
  have hsd : src ≠ b := by rw [hb1]; exact Nat.ne_of_lt A.lt
  refine r_static (pc' := 12) (argsL := [.ref src, .int (0 : Int32), .ref b, .int (0 : Int32), .int (Int32.ofNat cs.length)]) (rest := []) (W := 0) K1 (c_cmpL l hw K1.ext hn (A.ext E1) hlat (by rw [hb1]; exact K.sz) hsd (A1.pad (by intro i; simp [List.getD_eq_getElem?_getD, List.getElem?_replicate]; split <;> rfl))) (hw _ (List.mem_of_getElem? (i := 64) rfl)) (hw _ (List.mem_of_getElem? (i := 65) rfl)) (hw _ (List.mem_of_getElem? (i := 62) rfl)) (hw _ (List.mem_of_getElem? (i := 66) rfl)) (by decide) pdCL rfl rfl rfl (Nat.le_refl _) (by decide) (by decide) (by decide) (by decide) dcm_9 rfl ?_
  rintro _ T2 h2 K2 ⟨rfl, Kp2, A2⟩
  refine r_istore (Ls' := #[.val (.ref src), .val (.int (0 : Int32)), .val (.int (Int32.ofNat cs.length)), .val (.ref b), .val (.int (Int32.ofNat cs.length)), .unset]) (pc' := 14) K2 dcm_12 rfl rfl ?_
  refine r_iload (pc' := 16) K2 dcm_14 rfl rfl ?_
  refine r_iloadN (pc' := 17) K2 dcm_16 rfl rfl ?_
  refine r_icmp (pc1 := 20) (pc2 := 57) K2 dcm_17 rfl (by decide) (by decide) ?_ ?_
  · intro (hc : (Int32.ofNat cs.length) = (Int32.ofNat cs.length))
    refine r_aloadN (pc' := 58) K2 dcm_57 rfl rfl rfl ?_
    exact r_retA K2 hret hlk rfl rfl dcm_58 (by decide) (by decide) ⟨b, k, rfl, Nat.le_of_eq hb1.symm, ext_keep E1 Kp2 (allS (Nat.le_of_eq hb1.symm) all0), A2⟩
  · intro (hc : ¬ (Int32.ofNat cs.length) = (Int32.ofNat cs.length))
    exact absurd rfl hc
set_option maxRecDepth 65536 in
set_option maxHeartbeats 4000000 in
theorem c_cod (l : Launch) {Z : State} {a0 : Array Value} (hw : ∀ d ∈ tables_1, d.before a0 Z = true) {h : Heap} (hE : Ext Z.heap h) {b : Addr} {k : ClassId} {z : Int32} {vs : List Value} (A : Arv Z h b k .byte z vs (.int 0)) :
    Con l (⟨"java/lang/StringUTF16", "coderFromArrayLen", "([BI)B"⟩ : MethodName) jdk_52_method_15_code 2 (some .byte) [] ({ frames := 0, cells := 0, slots := 0, locals := 0 } : Room) Z #[.ref b, .int z] h (fun v h' => v = some (.int 0) ∧ h' = h) := by
  refine con_intro (by first | exact plainFor_of_name pnU | decide +kernel) hE ?_
  intro p e s m below meth c T K hret hlk hnm
  have ef : entryFrame m #[.ref b, .int z] 2 = (mkF m 0 #[.val (.ref b), .val (.int z)] []) := by first | (simp [entryFrame, mkF, argsToLocals, Value.category]; done) | rfl
  rw [ef]
  refine r_iloadN (pc' := 1) K dco_0 rfl rfl ?_
  refine r_aloadN (pc' := 2) K dco_1 rfl rfl rfl ?_
  refine r_alen (pc' := 3) K A dco_2 rfl ?_
  refine r_isub (pc' := 4) K dco_3 rfl ?_
  refine r_bipush (v := (31 : Int32)) (pc' := 6) K dco_4 rfl (by decide) ?_
  refine r_iushr (pc' := 7) K dco_6 rfl ?_
  refine r_i2b (pc' := 8) K dco_7 rfl ?_
  rw [Int32.sub_self, show ((0 : Int32).toUInt32 >>> ((31 : Int32) &&& 31).toUInt32).toInt32.toInt8.toInt32 = 0 from by decide]
  exact r_retB K hret hlk (by decide) dco_8 (by decide) (by decide) ⟨rfl, rfl⟩
set_option maxRecDepth 65536 in
set_option maxHeartbeats 4000000 in
theorem c_iV (l : Launch) {Z : State} {a0 : Array Value} (hw : ∀ d ∈ tables_1, d.before a0 Z = true) {h : Heap} (hE : Ext Z.heap h) {a : Addr} (ga : Z.heap.size ≤ a) (E : Exa Z h a "java/lang/String") (Fv : Fld Z h a "java/lang/String" "value" "[B" .null) (Fc : Fld Z h a "java/lang/String" "coder" "B" (.int 0)) {src : Addr} {ks : ClassId} {cs : List Int32} (hn : cs.length ≤ 4) (A : Arv Z h src ks .char (Int32.ofNat cs.length) (cs.map Value.int) (.int 0)) (h1 : 1 ≤ cs.length) (hlat : ∀ (i : Nat) (x : Int32), cs[i]? = some x → ¬ 255 < x) {cs0 : Int32} (Cs : Sta Z Z.heap "java/lang/String" "COMPACT_STRINGS" "Z" (.int cs0)) (hcs : ¬ cs0 = 0) :
    Con l (⟨"java/lang/String", "<init>", "([CIILjava/lang/Void;)V"⟩ : MethodName) jdk_42_method_149_code 6 none [] ({ frames := 2, cells := 1, slots := 4, locals := 35 } : Room) Z #[.ref a, .ref src, .int 0, .int (Int32.ofNat cs.length), .null] h (fun v h' => v = none ∧ Keep h h' [a] ∧ StrL Z h' a (cs.map byt)) := by
  refine con_intro (by first | exact plainFor_of_name pnS | decide +kernel) hE ?_
  intro p e s m below meth c T K hret hlk hnm
  have ef : entryFrame m #[.ref a, .ref src, .int 0, .int (Int32.ofNat cs.length), .null] 6 = (mkF m 0 #[.val (.ref a), .val (.ref src), .val (.int (0 : Int32)), .val (.int (Int32.ofNat cs.length)), .val (.null), .unset] []) := by first | (simp [entryFrame, mkF, argsToLocals, Value.category]; done) | rfl
  rw [ef]
  refine r_aloadN (pc' := 1) K dsv_0 rfl rfl rfl ?_
  refine r_init (pc' := 4) (W := 0) K (hw _ (List.mem_of_getElem? (i := 15) rfl)) (hw _ (List.mem_of_getElem? (i := 16) rfl)) (hw _ (List.mem_of_getElem? (i := 17) rfl)) rfl dsv_1 rfl (by decide) (Nat.le_refl _) (by decide) ?_
  intro T1 K1
  refine r_iloadN (pc' := 5) K1 dsv_4 rfl rfl ?_
  refine r_if (pc1 := 8) (pc2 := 27) K1 dsv_5 rfl (by decide) (by decide) ?_ ?_
  · intro (hc : ¬ (Int32.ofNat cs.length) = (0 : Int32))
    refine r_getS (pc' := 30) K1 (hw _ (List.mem_of_getElem? (i := 55) rfl)) (Cs.ext K.ext) dsv_27 rfl ?_
    intro T2 K2
    refine r_if (pc1 := 33) (pc2 := 58) K2 dsv_30 rfl (by decide) (by decide) ?_ ?_
    · intro (hc2 : cs0 = (0 : Int32))
      exact absurd hc2 hcs
    · intro (hc2 : ¬ cs0 = (0 : Int32))
      refine r_aloadN (pc' := 34) K2 dsv_33 rfl rfl rfl ?_
      refine r_iloadN (pc' := 35) K2 dsv_34 rfl rfl ?_
      refine r_iloadN (pc' := 36) K2 dsv_35 rfl rfl ?_
      refine r_static (pc' := 39) (argsL := [.ref src, .int (0 : Int32), .int (Int32.ofNat cs.length)]) (rest := []) (W := 0) K2 (c_cmp l hw hE hn A hlat) (hw _ (List.mem_of_getElem? (i := 60) rfl)) (hw _ (List.mem_of_getElem? (i := 61) rfl)) (hw _ (List.mem_of_getElem? (i := 62) rfl)) (hw _ (List.mem_of_getElem? (i := 63) rfl)) (by decide) pdCM rfl rfl rfl (Nat.le_refl _) (by decide) (by decide) (by decide) (by decide) dsv_36 rfl ?_
      rintro _ T3 h3 K3 ⟨b, kb, rfl, hb3, E3, A3⟩
      refine r_astore (Ls' := #[.val (.ref a), .val (.ref src), .val (.int (0 : Int32)), .val (.int (Int32.ofNat cs.length)), .val (.null), .val (.ref b)]) (pc' := 41) K3 dsv_39 rfl rfl rfl ?_
      refine r_aloadN (pc' := 42) K3 dsv_41 rfl rfl rfl ?_
      refine r_aload (pc' := 44) K3 dsv_42 rfl rfl rfl ?_
      refine r_iloadN (pc' := 45) K3 dsv_44 rfl rfl ?_
      refine r_static (pc' := 48) (argsL := [.ref b, .int (Int32.ofNat cs.length)]) (rest := [.ref a]) (W := 1) K3 (c_cod l hw K3.ext A3) (hw _ (List.mem_of_getElem? (i := 67) rfl)) (hw _ (List.mem_of_getElem? (i := 68) rfl)) (hw _ (List.mem_of_getElem? (i := 62) rfl)) (hw _ (List.mem_of_getElem? (i := 69) rfl)) (by decide) pdCO rfl rfl rfl (Nat.le_refl _) (by decide) (by decide) (by decide) (by decide) dsv_45 rfl ?_
      rintro _ T4 _ K4 ⟨rfl, rfl⟩
      refine r_putF (pc' := 51) K4 (hw _ (List.mem_of_getElem? (i := 25) rfl)) (Fc.ext E3) (E.ext E3) ga (Or.inr ⟨(hw _ (List.mem_of_getElem? (i := 21) rfl)), rfl, hnm⟩) (hw _ (List.mem_of_getElem? (i := 5) rfl)) (ty := .byte) (by decide) rfl rfl dsv_48 rfl ?_
      intro T5 h5 K5 W5
      refine r_aloadN (pc' := 52) K5 dsv_51 rfl rfl rfl ?_
      refine r_aload (pc' := 54) K5 dsv_52 rfl rfl rfl ?_
      refine r_putF (pc' := 57) K5 (hw _ (List.mem_of_getElem? (i := 24) rfl)) ((Fv.ext E3).other W5 (Or.inr (slot_ne (Or.inr (hw _ (List.mem_of_getElem? (i := 20) rfl))) (Or.inr (hw _ (List.mem_of_getElem? (i := 21) rfl))) (by decide) (t := .array .byte) (t' := .byte) (by decide) (by decide)))) ((E.ext E3).wr W5) ga (Or.inr ⟨(hw _ (List.mem_of_getElem? (i := 20) rfl)), rfl, hnm⟩) (hw _ (List.mem_of_getElem? (i := 5) rfl)) (ty := .array .byte) (by decide) rfl rfl dsv_54 rfl ?_
      intro T6 h6 K6 W6
      have hab : b ≠ a := Nat.ne_of_gt (Nat.lt_of_lt_of_le E.lt hb3)
      exact r_retV K6 hret hlk dsv_57 (by decide) (by decide) ⟨rfl, ((((Keep.refl _ _).ext E3).wr W5 (Or.inl (List.mem_of_getElem? (i := 0) rfl))).wr W6 (Or.inl (List.mem_of_getElem? (i := 0) rfl))), b, kb, ((E.ext E3).wr W5).wr W6, ((Fc.ext E3).same W5).other W6 (Or.inr (slot_ne (Or.inr (hw _ (List.mem_of_getElem? (i := 21) rfl))) (Or.inr (hw _ (List.mem_of_getElem? (i := 20) rfl))) (by decide) (t := .byte) (t' := .array .byte) (by decide) (by decide))), ((Fv.ext E3).other W5 (Or.inr (slot_ne (Or.inr (hw _ (List.mem_of_getElem? (i := 20) rfl))) (Or.inr (hw _ (List.mem_of_getElem? (i := 21) rfl))) (by decide) (t := .array .byte) (t' := .byte) (by decide) (by decide)))).same W6, by rw [List.length_map]; exact (A3.other W5 hab).other W6 hab⟩
  · intro (hc : (Int32.ofNat cs.length) = (0 : Int32))
    exact absurd (own_eq (i := cs.length) (n := 0) (by omega) (by omega) hc) (by omega)
set_option maxRecDepth 65536 in
set_option maxHeartbeats 4000000 in
theorem c_iC (l : Launch) {Z : State} {a0 : Array Value} (hw : ∀ d ∈ tables_1, d.before a0 Z = true) {h : Heap} (hE : Ext Z.heap h) {a : Addr} (ga : Z.heap.size ≤ a) (E : Exa Z h a "java/lang/String") (Fv : Fld Z h a "java/lang/String" "value" "[B" .null) (Fc : Fld Z h a "java/lang/String" "coder" "B" (.int 0)) {src : Addr} {ks : ClassId} {cs : List Int32} (hn : cs.length ≤ 4) (A : Arv Z h src ks .char (Int32.ofNat cs.length) (cs.map Value.int) (.int 0)) (h1 : 1 ≤ cs.length) (hlat : ∀ (i : Nat) (x : Int32), cs[i]? = some x → ¬ 255 < x) {cs0 : Int32} (Cs : Sta Z Z.heap "java/lang/String" "COMPACT_STRINGS" "Z" (.int cs0)) (hcs : ¬ cs0 = 0) :
    Con l (⟨"java/lang/String", "<init>", "([C)V"⟩ : MethodName) jdk_42_method_3_code 2 none [] ({ frames := 3, cells := 1, slots := 4, locals := 52 } : Room) Z #[.ref a, .ref src] h (fun v h' => v = none ∧ Keep h h' [a] ∧ StrL Z h' a (cs.map byt)) := by
  refine con_intro (by first | exact plainFor_of_name pnS | decide +kernel) hE ?_
  intro p e s m below meth c T K hret hlk hnm
  have ef : entryFrame m #[.ref a, .ref src] 2 = (mkF m 0 #[.val (.ref a), .val (.ref src)] []) := by first | (simp [entryFrame, mkF, argsToLocals, Value.category]; done) | rfl
  rw [ef]
  refine r_aloadN (pc' := 1) K dsc_0 rfl rfl rfl ?_
  refine r_aloadN (pc' := 2) K dsc_1 rfl rfl rfl ?_
  refine r_iconst (v := (0 : Int32)) (pc' := 3) K dsc_2 rfl (by decide) ?_
  refine r_aloadN (pc' := 4) K dsc_3 rfl rfl rfl ?_
  refine r_alen (pc' := 5) K A dsc_4 rfl ?_
  refine r_aconstNull (pc' := 6) K dsc_5 rfl ?_
  refine r_special (pc' := 9) (argsL := [.ref src, .int (0 : Int32), .int (Int32.ofNat cs.length), .null]) (rest := []) (W := 0) K (c_iV l hw hE ga E Fv Fc hn A h1 hlat Cs hcs) rfl (hw _ (List.mem_of_getElem? (i := 11) rfl)) (hw _ (List.mem_of_getElem? (i := 12) rfl)) (hw _ (List.mem_of_getElem? (i := 6) rfl)) (hw _ (List.mem_of_getElem? (i := 14) rfl)) (by decide) pdSV rfl rfl rfl (Nat.le_refl _) (by decide) (by decide) (by decide) (by decide) dsc_6 rfl ?_
  rintro _ T1 h1' K1 ⟨rfl, Kp, F⟩
  exact r_retV K1 hret hlk dsc_9 (by decide) (by decide) ⟨rfl, Kp, F⟩
theorem own_wS {Z : State} {a0 : Array Value} (hw : ∀ d ∈ tables_1, d.before a0 Z = true) : ∀ a ∈ Bundle.stringAtoms, a.before a0 Z = true := fun d hd => by
  simp only [Bundle.stringAtoms, List.mem_cons, List.not_mem_nil, or_false] at hd
  rcases hd with rfl | rfl | rfl | rfl | rfl | rfl | rfl
  · exact (hw _ (List.mem_of_getElem? (i := 6) rfl))
  · exact (hw _ (List.mem_of_getElem? (i := 5) rfl))
  · exact (hw _ (List.mem_of_getElem? (i := 19) rfl))
  · exact (hw _ (List.mem_of_getElem? (i := 20) rfl))
  · exact (hw _ (List.mem_of_getElem? (i := 21) rfl))
  · exact (hw _ (List.mem_of_getElem? (i := 22) rfl))
  · exact (hw _ (List.mem_of_getElem? (i := 23) rfl))
set_option maxRecDepth 65536 in
set_option maxHeartbeats 4000000 in
theorem c_iVe (l : Launch) {Z : State} {a0 : Array Value} (hw : ∀ d ∈ tables_1, d.before a0 Z = true) {h : Heap} (hE : Ext Z.heap h) (hEL : EW Z a0 [("java/lang/String", 7)]) {a : Addr} (ga : Z.heap.size ≤ a) (E : Exa Z h a "java/lang/String") (Fv : Fld Z h a "java/lang/String" "value" "[B" .null) (Fc : Fld Z h a "java/lang/String" "coder" "B" (.int 0)) {src : Addr} :
    ConW l (⟨"java/lang/String", "<init>", "([CIILjava/lang/Void;)V"⟩ : MethodName) jdk_42_method_149_code 6 none [] ({ frames := 1, cells := 4, slots := 8, locals := 12 } : Room) Z [("java/lang/String", 7)] #[.ref a, .ref src, .int 0, .int 0, .null] h (fun v h' => v = none ∧ Keep h h' [a] ∧ StrL Z h' a []) := by
  refine con_introW (by first | exact plainFor_of_name pnS | decide +kernel) hE ?_
  intro p e s m below meth c T K I0 hret hlk hnm
  have ef : entryFrame m #[.ref a, .ref src, .int 0, .int 0, .null] 6 = (mkF m 0 #[.val (.ref a), .val (.ref src), .val (.int (0 : Int32)), .val (.int (0 : Int32)), .val (.null), .unset] []) := by first | (simp [entryFrame, mkF, argsToLocals, Value.category]; done) | rfl
  rw [ef]
  refine r_aloadN (pc' := 1) K dsv_0 rfl rfl rfl ?_
  refine r_init (pc' := 4) (W := 0) K (hw _ (List.mem_of_getElem? (i := 15) rfl)) (hw _ (List.mem_of_getElem? (i := 16) rfl)) (hw _ (List.mem_of_getElem? (i := 17) rfl)) rfl dsv_1 rfl (by decide) (Nat.le_refl _) (by decide) ?_
  intro T1 K1
  refine r_iloadN (pc' := 5) K1 dsv_4 rfl rfl ?_
  refine r_if (pc1 := 8) (pc2 := 27) K1 dsv_5 rfl (by decide) (by decide) ?_ ?_
  · intro (hc : ¬ (0 : Int32) = (0 : Int32))
    exact absurd rfl hc
  · intro (hc : (0 : Int32) = (0 : Int32))
    have Sf := safe_blank (EL := [("java/lang/String", 7)]) K.al E Fv
    refine r_aloadN (pc' := 9) K1 dsv_8 rfl rfl rfl ?_
    refine w_ldc (pc' := 11) (text := "") (n := 0) (vs := []) (z := Int32.ofNat 0) K1 I0 hEL (by simp) (hw _ (List.mem_of_getElem? (i := 18) rfl)) (own_wS hw) ⟨by simp, rfl⟩ (by decide) rfl dsv_9 rfl (by decide) (by decide) (by decide) (by decide) ?_
    intro q T2 h2 vm2 b kb K2 I2 E2 C2 Aq2 Fcq2 Fvq2 Ab2 N2
    have Sf2 := C2.safe E.lt Sf
    refine r_getF (pc' := 14) K2 (hw _ (List.mem_of_getElem? (i := 24) rfl)) Fvq2 dsv_11 rfl ?_
    intro T3 K3
    refine r_putF (pc' := 17) K3 (hw _ (List.mem_of_getElem? (i := 24) rfl)) (Fv.ext E2) (E.ext E2) ga (Or.inr ⟨(hw _ (List.mem_of_getElem? (i := 20) rfl)), rfl, hnm⟩) (hw _ (List.mem_of_getElem? (i := 5) rfl)) (ty := .array .byte) (by decide) rfl rfl dsv_14 rfl ?_
    intro T4 h4 K4 W4
    have I4 := I2.wr W4 Sf2
    have Sf4 := Safe.wr W4 Sf2 I2.ch Sf2
    refine r_aloadN (pc' := 18) K4 dsv_17 rfl rfl rfl ?_
    refine w_ldc (pc' := 20) (text := "") (n := 0) (vs := []) (z := Int32.ofNat 0) K4 I4 hEL (by simp) (hw _ (List.mem_of_getElem? (i := 18) rfl)) (own_wS hw) ⟨by simp, rfl⟩ (by decide) rfl dsv_18 rfl (by decide) (by decide) (by decide) (by decide) ?_
    intro q' T5 h5 vm5 b' kb' K5 I5 E5 C5 Aq5 Fcq5 Fvq5 Ab5 N5
    have Sf5 := C5.safe ((E.ext E2).wr W4).lt Sf4
    refine r_getF (pc' := 23) K5 (hw _ (List.mem_of_getElem? (i := 25) rfl)) Fcq5 dsv_20 rfl ?_
    intro T6 K6
    have Fc5 := ((Fc.ext E2).other W4 (Or.inr (slot_ne (Or.inr (hw _ (List.mem_of_getElem? (i := 21) rfl))) (Or.inr (hw _ (List.mem_of_getElem? (i := 20) rfl))) (by decide) (t := .byte) (t' := .array .byte) (by decide) (by decide)))).ext E5
    have A5 := ((E.ext E2).wr W4).ext E5
    refine r_putF (pc' := 26) K6 (hw _ (List.mem_of_getElem? (i := 25) rfl)) Fc5 A5 ga (Or.inr ⟨(hw _ (List.mem_of_getElem? (i := 21) rfl)), rfl, hnm⟩) (hw _ (List.mem_of_getElem? (i := 5) rfl)) (ty := .byte) (by decide) rfl rfl dsv_23 rfl ?_
    intro T7 h7 K7 W7
    have hba : b ≠ a := (N2 a Sf2).2.symm
    exact w_retV K7 (I5.wr W7 Sf5) hEL hret hlk dsv_26 (by decide) (by decide) ⟨rfl, (((((Keep.refl _ _).ext E2).wr W4 (Or.inl (List.mem_of_getElem? (i := 0) rfl))).ext E5).wr W7 (Or.inl (List.mem_of_getElem? (i := 0) rfl))), b, kb, A5.wr W7, Fc5.same W7, (((Fv.ext E2).same W4).ext E5).other W7 (Or.inr (slot_ne (Or.inr (hw _ (List.mem_of_getElem? (i := 20) rfl))) (Or.inr (hw _ (List.mem_of_getElem? (i := 21) rfl))) (by decide) (t := .array .byte) (t' := .byte) (by decide) (by decide))), ((Ab2.other W4 hba).ext E5).other W7 hba⟩
set_option maxRecDepth 65536 in
set_option maxHeartbeats 4000000 in
theorem c_iCe (l : Launch) {Z : State} {a0 : Array Value} (hw : ∀ d ∈ tables_1, d.before a0 Z = true) {h : Heap} (hE : Ext Z.heap h) (hEL : EW Z a0 [("java/lang/String", 7)]) {a : Addr} (ga : Z.heap.size ≤ a) (E : Exa Z h a "java/lang/String") (Fv : Fld Z h a "java/lang/String" "value" "[B" .null) (Fc : Fld Z h a "java/lang/String" "coder" "B" (.int 0)) {src : Addr} {ks : ClassId} {vs : List Value} {dv : Value} (A : Arv Z h src ks .char 0 vs dv) :
    ConW l (⟨"java/lang/String", "<init>", "([C)V"⟩ : MethodName) jdk_42_method_3_code 2 none [] ({ frames := 2, cells := 4, slots := 8, locals := 29 } : Room) Z [("java/lang/String", 7)] #[.ref a, .ref src] h (fun v h' => v = none ∧ Keep h h' [a] ∧ StrL Z h' a []) := by
  refine con_introW (by first | exact plainFor_of_name pnS | decide +kernel) hE ?_
  intro p e s m below meth c T K I0 hret hlk hnm
  have ef : entryFrame m #[.ref a, .ref src] 2 = (mkF m 0 #[.val (.ref a), .val (.ref src)] []) := by first | (simp [entryFrame, mkF, argsToLocals, Value.category]; done) | rfl
  rw [ef]
  refine r_aloadN (pc' := 1) K dsc_0 rfl rfl rfl ?_
  refine r_aloadN (pc' := 2) K dsc_1 rfl rfl rfl ?_
  refine r_iconst (v := (0 : Int32)) (pc' := 3) K dsc_2 rfl (by decide) ?_
  refine r_aloadN (pc' := 4) K dsc_3 rfl rfl rfl ?_
  refine r_alen (pc' := 5) K A dsc_4 rfl ?_
  refine r_aconstNull (pc' := 6) K dsc_5 rfl ?_
  refine w_special (pc' := 9) (argsL := [.ref src, .int (0 : Int32), .int (0 : Int32), .null]) (rest := []) (W := 0) K I0 hEL (c_iVe l hw hE hEL ga E Fv Fc) rfl (hw _ (List.mem_of_getElem? (i := 11) rfl)) (hw _ (List.mem_of_getElem? (i := 12) rfl)) (hw _ (List.mem_of_getElem? (i := 6) rfl)) (hw _ (List.mem_of_getElem? (i := 14) rfl)) (by decide) pdSV rfl rfl rfl (Nat.le_refl _) (by decide) (by decide) (by decide) (by decide) dsc_6 rfl ?_
  rintro _ T1 h1' vm1 K1 I1 C1 ⟨rfl, Kp, F⟩
  exact w_retV K1 I1 hEL hret hlk dsc_9 (by decide) (by decide) ⟨rfl, Kp, F⟩
theorem pnC : plainName "com/example/allot/allot/Catalog$CheckConstraint" = true := by first | (simp [plainName, overriddenIn]; done) | decide +kernel
theorem pnLaw : plainName "com/example/allot/allot/CheckConstraintEqualsPinLaw" = true := by first | (simp [plainName, overriddenIn]; done) | decide +kernel
theorem dle_0 : decode jdk_43_method_13_code 0 = .ok (.aload_n 0, 1) := by decide +kernel
theorem dle_1 : decode jdk_43_method_13_code 1 = .ok (.arraylength, 1) := by decide +kernel
theorem dle_2 : decode jdk_43_method_13_code 2 = .ok (.aload_n 1, 1) := by decide +kernel
theorem dle_3 : decode jdk_43_method_13_code 3 = .ok (.arraylength, 1) := by decide +kernel
theorem dle_4 : decode jdk_43_method_13_code 4 = .ok (.if_icmp .ne 30, 3) := by decide +kernel
theorem dle_7 : decode jdk_43_method_13_code 7 = .ok (.iconst 0, 1) := by decide +kernel
theorem dle_8 : decode jdk_43_method_13_code 8 = .ok (.istore_n 2, 1) := by decide +kernel
theorem dle_9 : decode jdk_43_method_13_code 9 = .ok (.iload_n 2, 1) := by decide +kernel
theorem dle_10 : decode jdk_43_method_13_code 10 = .ok (.aload_n 0, 1) := by decide +kernel
theorem dle_11 : decode jdk_43_method_13_code 11 = .ok (.arraylength, 1) := by decide +kernel
theorem dle_12 : decode jdk_43_method_13_code 12 = .ok (.if_icmp .ge 20, 3) := by decide +kernel
theorem dle_15 : decode jdk_43_method_13_code 15 = .ok (.aload_n 0, 1) := by decide +kernel
theorem dle_16 : decode jdk_43_method_13_code 16 = .ok (.iload_n 2, 1) := by decide +kernel
theorem dle_17 : decode jdk_43_method_13_code 17 = .ok (.baload, 1) := by decide +kernel
theorem dle_18 : decode jdk_43_method_13_code 18 = .ok (.aload_n 1, 1) := by decide +kernel
theorem dle_19 : decode jdk_43_method_13_code 19 = .ok (.iload_n 2, 1) := by decide +kernel
theorem dle_20 : decode jdk_43_method_13_code 20 = .ok (.baload, 1) := by decide +kernel
theorem dle_21 : decode jdk_43_method_13_code 21 = .ok (.if_icmp .eq 5, 3) := by decide +kernel
theorem dle_24 : decode jdk_43_method_13_code 24 = .ok (.iconst 0, 1) := by decide +kernel
theorem dle_25 : decode jdk_43_method_13_code 25 = .ok (.ireturn, 1) := by decide +kernel
theorem dle_26 : decode jdk_43_method_13_code 26 = .ok (.iinc 2 1, 3) := by decide +kernel
theorem dle_29 : decode jdk_43_method_13_code 29 = .ok (.goto (-20), 3) := by decide +kernel
theorem dle_32 : decode jdk_43_method_13_code 32 = .ok (.iconst 1, 1) := by decide +kernel
theorem dle_33 : decode jdk_43_method_13_code 33 = .ok (.ireturn, 1) := by decide +kernel
theorem dle_34 : decode jdk_43_method_13_code 34 = .ok (.iconst 0, 1) := by decide +kernel
theorem dle_35 : decode jdk_43_method_13_code 35 = .ok (.ireturn, 1) := by decide +kernel
theorem dse_0 : decode jdk_42_method_66_code 0 = .ok (.aload_n 0, 1) := by decide +kernel
theorem dse_1 : decode jdk_42_method_66_code 1 = .ok (.aload_n 1, 1) := by decide +kernel
theorem dse_2 : decode jdk_42_method_66_code 2 = .ok (.if_acmp .ne 5, 3) := by decide +kernel
theorem dse_5 : decode jdk_42_method_66_code 5 = .ok (.iconst 1, 1) := by decide +kernel
theorem dse_6 : decode jdk_42_method_66_code 6 = .ok (.ireturn, 1) := by decide +kernel
theorem dse_7 : decode jdk_42_method_66_code 7 = .ok (.aload_n 1, 1) := by decide +kernel
theorem dse_8 : decode jdk_42_method_66_code 8 = .ok (.instanceof 10, 3) := by decide +kernel
theorem dse_11 : decode jdk_42_method_66_code 11 = .ok (.ifCond .eq 43, 3) := by decide +kernel
theorem dse_14 : decode jdk_42_method_66_code 14 = .ok (.aload_n 1, 1) := by decide +kernel
theorem dse_15 : decode jdk_42_method_66_code 15 = .ok (.checkcast 10, 3) := by decide +kernel
theorem dse_18 : decode jdk_42_method_66_code 18 = .ok (.astore_n 2, 1) := by decide +kernel
theorem dse_19 : decode jdk_42_method_66_code 19 = .ok (.getstatic 38, 3) := by decide +kernel
theorem dse_22 : decode jdk_42_method_66_code 22 = .ok (.ifCond .eq 14, 3) := by decide +kernel
theorem dse_25 : decode jdk_42_method_66_code 25 = .ok (.aload_n 0, 1) := by decide +kernel
theorem dse_26 : decode jdk_42_method_66_code 26 = .ok (.getfield 15, 3) := by decide +kernel
theorem dse_29 : decode jdk_42_method_66_code 29 = .ok (.aload_n 2, 1) := by decide +kernel
theorem dse_30 : decode jdk_42_method_66_code 30 = .ok (.getfield 15, 3) := by decide +kernel
theorem dse_33 : decode jdk_42_method_66_code 33 = .ok (.if_icmp .ne 21, 3) := by decide +kernel
theorem dse_36 : decode jdk_42_method_66_code 36 = .ok (.aload_n 0, 1) := by decide +kernel
theorem dse_37 : decode jdk_42_method_66_code 37 = .ok (.getfield 9, 3) := by decide +kernel
theorem dse_40 : decode jdk_42_method_66_code 40 = .ok (.aload_n 2, 1) := by decide +kernel
theorem dse_41 : decode jdk_42_method_66_code 41 = .ok (.getfield 9, 3) := by decide +kernel
theorem dse_44 : decode jdk_42_method_66_code 44 = .ok (.invokestatic 541, 3) := by decide +kernel
theorem dse_47 : decode jdk_42_method_66_code 47 = .ok (.ifCond .eq 7, 3) := by decide +kernel
theorem dse_50 : decode jdk_42_method_66_code 50 = .ok (.iconst 1, 1) := by decide +kernel
theorem dse_51 : decode jdk_42_method_66_code 51 = .ok (.goto 4, 3) := by decide +kernel
theorem dse_54 : decode jdk_42_method_66_code 54 = .ok (.iconst 0, 1) := by decide +kernel
theorem dse_55 : decode jdk_42_method_66_code 55 = .ok (.ireturn, 1) := by decide +kernel
theorem dci_0 : decode prog_7_method_1_code 0 = .ok (.aload_n 0, 1) := by decide +kernel
theorem dci_1 : decode prog_7_method_1_code 1 = .ok (.invokespecial 1, 3) := by decide +kernel
theorem dci_4 : decode prog_7_method_1_code 4 = .ok (.aload_n 0, 1) := by decide +kernel
theorem dci_5 : decode prog_7_method_1_code 5 = .ok (.aload_n 1, 1) := by decide +kernel
theorem dci_6 : decode prog_7_method_1_code 6 = .ok (.putfield 7, 3) := by decide +kernel
theorem dci_9 : decode prog_7_method_1_code 9 = .ok (.aload_n 0, 1) := by decide +kernel
theorem dci_10 : decode prog_7_method_1_code 10 = .ok (.aload_n 2, 1) := by decide +kernel
theorem dci_11 : decode prog_7_method_1_code 11 = .ok (.putfield 13, 3) := by decide +kernel
theorem dci_14 : decode prog_7_method_1_code 14 = .ok (.aload_n 0, 1) := by decide +kernel
theorem dci_15 : decode prog_7_method_1_code 15 = .ok (.iload_n 3, 1) := by decide +kernel
theorem dci_16 : decode prog_7_method_1_code 16 = .ok (.putfield 16, 3) := by decide +kernel
theorem dci_19 : decode prog_7_method_1_code 19 = .ok (.return_, 1) := by decide +kernel
theorem dce_0 : decode prog_7_method_5_code 0 = .ok (.aload_n 1, 1) := by decide +kernel
theorem dce_1 : decode prog_7_method_5_code 1 = .ok (.instanceof 8, 3) := by decide +kernel
theorem dce_4 : decode prog_7_method_5_code 4 = .ok (.ifCond .eq 55, 3) := by decide +kernel
theorem dce_7 : decode prog_7_method_5_code 7 = .ok (.aload_n 0, 1) := by decide +kernel
theorem dce_8 : decode prog_7_method_5_code 8 = .ok (.getfield 7, 3) := by decide +kernel
theorem dce_11 : decode prog_7_method_5_code 11 = .ok (.aload_n 1, 1) := by decide +kernel
theorem dce_12 : decode prog_7_method_5_code 12 = .ok (.checkcast 8, 3) := by decide +kernel
theorem dce_15 : decode prog_7_method_5_code 15 = .ok (.getfield 7, 3) := by decide +kernel
theorem dce_18 : decode prog_7_method_5_code 18 = .ok (.invokevirtual 20, 3) := by decide +kernel
theorem dce_21 : decode prog_7_method_5_code 21 = .ok (.ifCond .eq 38, 3) := by decide +kernel
theorem dce_24 : decode prog_7_method_5_code 24 = .ok (.aload_n 0, 1) := by decide +kernel
theorem dce_25 : decode prog_7_method_5_code 25 = .ok (.getfield 13, 3) := by decide +kernel
theorem dce_28 : decode prog_7_method_5_code 28 = .ok (.aload_n 1, 1) := by decide +kernel
theorem dce_29 : decode prog_7_method_5_code 29 = .ok (.checkcast 8, 3) := by decide +kernel
theorem dce_32 : decode prog_7_method_5_code 32 = .ok (.getfield 13, 3) := by decide +kernel
theorem dce_35 : decode prog_7_method_5_code 35 = .ok (.invokevirtual 20, 3) := by decide +kernel
theorem dce_38 : decode prog_7_method_5_code 38 = .ok (.ifCond .eq 21, 3) := by decide +kernel
theorem dce_41 : decode prog_7_method_5_code 41 = .ok (.aload_n 0, 1) := by decide +kernel
theorem dce_42 : decode prog_7_method_5_code 42 = .ok (.getfield 16, 3) := by decide +kernel
theorem dce_45 : decode prog_7_method_5_code 45 = .ok (.aload_n 1, 1) := by decide +kernel
theorem dce_46 : decode prog_7_method_5_code 46 = .ok (.checkcast 8, 3) := by decide +kernel
theorem dce_49 : decode prog_7_method_5_code 49 = .ok (.getfield 16, 3) := by decide +kernel
theorem dce_52 : decode prog_7_method_5_code 52 = .ok (.if_icmp .ne 7, 3) := by decide +kernel
theorem dce_55 : decode prog_7_method_5_code 55 = .ok (.iconst 1, 1) := by decide +kernel
theorem dce_56 : decode prog_7_method_5_code 56 = .ok (.goto 4, 3) := by decide +kernel
theorem dce_59 : decode prog_7_method_5_code 59 = .ok (.iconst 0, 1) := by decide +kernel
theorem dce_60 : decode prog_7_method_5_code 60 = .ok (.ireturn, 1) := by decide +kernel
theorem dtx_0 : decode method_2_code 0 = .ok (.iload_n 0, 1) := by decide +kernel
theorem dtx_1 : decode method_2_code 1 = .ok (.ifCond .ne 14, 3) := by decide +kernel
theorem dtx_4 : decode method_2_code 4 = .ok (.new 7, 3) := by decide +kernel
theorem dtx_7 : decode method_2_code 7 = .ok (.dup, 1) := by decide +kernel
theorem dtx_8 : decode method_2_code 8 = .ok (.iconst 0, 1) := by decide +kernel
theorem dtx_9 : decode method_2_code 9 = .ok (.newarray .char, 2) := by decide +kernel
theorem dtx_11 : decode method_2_code 11 = .ok (.invokespecial 9, 3) := by decide +kernel
theorem dtx_14 : decode method_2_code 14 = .ok (.areturn, 1) := by decide +kernel
theorem dtx_15 : decode method_2_code 15 = .ok (.iload_n 0, 1) := by decide +kernel
theorem dtx_16 : decode method_2_code 16 = .ok (.iconst 1, 1) := by decide +kernel
theorem dtx_17 : decode method_2_code 17 = .ok (.if_icmp .ne 8, 3) := by decide +kernel
theorem dtx_20 : decode method_2_code 20 = .ok (.iload_n 1, 1) := by decide +kernel
theorem dtx_21 : decode method_2_code 21 = .ok (.invokestatic 12, 3) := by decide +kernel
theorem dtx_24 : decode method_2_code 24 = .ok (.areturn, 1) := by decide +kernel
theorem dtx_25 : decode method_2_code 25 = .ok (.new 7, 3) := by decide +kernel
theorem dtx_28 : decode method_2_code 28 = .ok (.dup, 1) := by decide +kernel
theorem dtx_29 : decode method_2_code 29 = .ok (.iconst 2, 1) := by decide +kernel
theorem dtx_30 : decode method_2_code 30 = .ok (.newarray .char, 2) := by decide +kernel
theorem dtx_32 : decode method_2_code 32 = .ok (.dup, 1) := by decide +kernel
theorem dtx_33 : decode method_2_code 33 = .ok (.iconst 0, 1) := by decide +kernel
theorem dtx_34 : decode method_2_code 34 = .ok (.iload_n 1, 1) := by decide +kernel
theorem dtx_35 : decode method_2_code 35 = .ok (.castore, 1) := by decide +kernel
theorem dtx_36 : decode method_2_code 36 = .ok (.dup, 1) := by decide +kernel
theorem dtx_37 : decode method_2_code 37 = .ok (.iconst 1, 1) := by decide +kernel
theorem dtx_38 : decode method_2_code 38 = .ok (.iload_n 2, 1) := by decide +kernel
theorem dtx_39 : decode method_2_code 39 = .ok (.castore, 1) := by decide +kernel
theorem dtx_40 : decode method_2_code 40 = .ok (.invokespecial 9, 3) := by decide +kernel
theorem dtx_43 : decode method_2_code 43 = .ok (.areturn, 1) := by decide +kernel
theorem dsa_0 : decode method_3_code 0 = .ok (.iload_n 0, 1) := by decide +kernel
theorem dsa_1 : decode method_3_code 1 = .ok (.iload_n 3, 1) := by decide +kernel
theorem dsa_2 : decode method_3_code 2 = .ok (.if_icmp .eq 5, 3) := by decide +kernel
theorem dsa_5 : decode method_3_code 5 = .ok (.iconst 0, 1) := by decide +kernel
theorem dsa_6 : decode method_3_code 6 = .ok (.ireturn, 1) := by decide +kernel
theorem dsa_7 : decode method_3_code 7 = .ok (.iload_n 0, 1) := by decide +kernel
theorem dsa_8 : decode method_3_code 8 = .ok (.iconst 1, 1) := by decide +kernel
theorem dsa_9 : decode method_3_code 9 = .ok (.if_icmp .lt 11, 3) := by decide +kernel
theorem dsa_12 : decode method_3_code 12 = .ok (.iload_n 1, 1) := by decide +kernel
theorem dsa_13 : decode method_3_code 13 = .ok (.iload 4, 2) := by decide +kernel
theorem dsa_15 : decode method_3_code 15 = .ok (.if_icmp .eq 5, 3) := by decide +kernel
theorem dsa_18 : decode method_3_code 18 = .ok (.iconst 0, 1) := by decide +kernel
theorem dsa_19 : decode method_3_code 19 = .ok (.ireturn, 1) := by decide +kernel
theorem dsa_20 : decode method_3_code 20 = .ok (.iload_n 0, 1) := by decide +kernel
theorem dsa_21 : decode method_3_code 21 = .ok (.iconst 2, 1) := by decide +kernel
theorem dsa_22 : decode method_3_code 22 = .ok (.if_icmp .lt 11, 3) := by decide +kernel
theorem dsa_25 : decode method_3_code 25 = .ok (.iload_n 2, 1) := by decide +kernel
theorem dsa_26 : decode method_3_code 26 = .ok (.iload 5, 2) := by decide +kernel
theorem dsa_28 : decode method_3_code 28 = .ok (.if_icmp .eq 5, 3) := by decide +kernel
theorem dsa_31 : decode method_3_code 31 = .ok (.iconst 0, 1) := by decide +kernel
theorem dsa_32 : decode method_3_code 32 = .ok (.ireturn, 1) := by decide +kernel
theorem dsa_33 : decode method_3_code 33 = .ok (.iconst 1, 1) := by decide +kernel
theorem dsa_34 : decode method_3_code 34 = .ok (.ireturn, 1) := by decide +kernel
theorem pdBBZ : parseMethodDescriptor "([B[B)Z" = some ⟨[(.array .byte), (.array .byte)], some .boolean⟩ := by decide +kernel
theorem pdOZ : parseMethodDescriptor "(Ljava/lang/Object;)Z" = some ⟨[(.object "java/lang/Object")], some .boolean⟩ := by decide +kernel
theorem pdCC : parseMethodDescriptor "(Ljava/lang/String;Ljava/lang/String;Z)V" = some ⟨[(.object "java/lang/String"), (.object "java/lang/String"), .boolean], none⟩ := by decide +kernel
theorem pdTX : parseMethodDescriptor "(ICC)Ljava/lang/String;" = some ⟨[.int, .char, .char], some (.object "java/lang/String")⟩ := by decide +kernel
theorem pdSM : parseMethodDescriptor "(ICCICC)Z" = some ⟨[.int, .char, .char, .int, .char, .char], some .boolean⟩ := by decide +kernel
theorem own_take {us vs : List Int32} (hl : us.length = vs.length) (h : ∀ j : Nat, j < us.length → us[j]? = vs[j]?) : us = vs := by
  apply List.ext_getElem?
  intro j
  by_cases hj : j < us.length
  · exact h j hj
  · rw [List.getElem?_eq_none (by omega), List.getElem?_eq_none (by omega)]
section Lp
variable {Z : State} {a0 : Array Value} {p : Program} {l : Launch} {e : Env} {R : Room} {s : State} {m : MethodId} {args : Array Value} {below : List Frame} {meth : Method} {c : Code} {T : State} {h : Heap} {cells slots : Nat} {P : State → Prop}
set_option maxRecDepth 65536 in
set_option maxHeartbeats 4000000 in
theorem q_loop (K : St Z "java/lang/StringLatin1" jdk_43_method_13_code 3 p l e R s m args below meth c T h cells slots) {b1 b2 : Addr} {k1 k2 : ClassId} {us vs : List Int32} (hn : us.length ≤ 4) (hl : us.length = vs.length) (A1 : Arv Z h b1 k1 .byte (Int32.ofNat us.length) (us.map Value.int) (.int 0)) (A2 : Arv Z h b2 k2 .byte (Int32.ofNat vs.length) (vs.map Value.int) (.int 0))
    (hk1 : ∀ s2 : Slot, us = vs → Run p e below P T (mkF m 32 #[.val (.ref b1), .val (.ref b2), s2] [])) (hk0 : ∀ s2 : Slot, ¬ us = vs → Run p e below P T (mkF m 24 #[.val (.ref b1), .val (.ref b2), s2] [])) :
    ∀ (k i : Nat), i + k = us.length → (∀ j : Nat, j < i → us[j]? = vs[j]?) → Run p e below P T (mkF m 9 #[.val (.ref b1), .val (.ref b2), .val (.int (Int32.ofNat i))] []) := by
  intro k
  induction k with
  | zero =>
    intro i hi hj
    obtain rfl : i = us.length := by omega
    refine r_iloadN (pc' := 10) K dle_9 rfl rfl ?_
    refine r_aloadN (pc' := 11) K dle_10 rfl rfl rfl ?_
    refine r_alen (pc' := 12) K A1 dle_11 rfl ?_
    refine r_icmp (pc1 := 15) (pc2 := 32) K dle_12 rfl (by decide) (by decide) ?_ ?_
    · intro (hc : ¬ (Int32.ofNat us.length) < (Int32.ofNat us.length))
      exact hk1 _ (own_take hl hj)
    · intro (hc : (Int32.ofNat us.length) < (Int32.ofNat us.length))
      exact absurd hc Int32.lt_irrefl
  | succ k ih =>
    intro i hi hj
    refine r_iloadN (pc' := 10) K dle_9 rfl rfl ?_
    refine r_aloadN (pc' := 11) K dle_10 rfl rfl rfl ?_
    refine r_alen (pc' := 12) K A1 dle_11 rfl ?_
    refine r_icmp (pc1 := 15) (pc2 := 32) K dle_12 rfl (by decide) (by decide) ?_ ?_
    · intro (hc : ¬ (Int32.ofNat i) < (Int32.ofNat us.length))
      exact absurd (own_lt (by omega) (by omega)) hc
    · intro (hc : (Int32.ofNat i) < (Int32.ofNat us.length))
      obtain ⟨x, hx⟩ := own_get (xs := us) (j := i) (by omega)
      obtain ⟨y, hy⟩ := own_get (xs := vs) (j := i) (by omega)
      refine r_aloadN (pc' := 16) K dle_15 rfl rfl rfl ?_
      refine r_iloadN (pc' := 17) K dle_16 rfl rfl ?_
      refine r_baload (pc' := 18) (v := .int x) K A1 ⟨own_nn (by omega), own_lt (by omega) (by omega)⟩ (by rw [own_n32 (by omega)]; exact own_gv hx) dle_17 rfl ?_
      refine r_aloadN (pc' := 19) K dle_18 rfl rfl rfl ?_
      refine r_iloadN (pc' := 20) K dle_19 rfl rfl ?_
      refine r_baload (pc' := 21) (v := .int y) K A2 ⟨own_nn (by omega), own_lt (by omega) (by omega)⟩ (by rw [own_n32 (by omega)]; exact own_gv hy) dle_20 rfl ?_
      refine r_icmp (pc1 := 24) (pc2 := 26) K dle_21 rfl (by decide) (by decide) ?_ ?_
      · intro (hc2 : x = y)
        refine r_iinc (v := (1 : Int32)) (Ls' := #[.val (.ref b1), .val (.ref b2), .val (.int ((Int32.ofNat i) + (1 : Int32)))]) (pc' := 29) K dle_26 rfl (by decide) rfl rfl ?_
        rw [own_one]
        refine r_goto (pc' := 9) K dle_29 (by decide) (by decide) ?_
        exact ih (i + 1) (by omega) (fun j q => by by_cases q2 : j = i; (subst q2; rw [hx, hy, hc2]); exact hj j (by omega))
      · intro (hc2 : ¬ x = y)
        exact hk0 _ (fun q => hc2 (by rw [q, hy] at hx; exact (Option.some.inj hx).symm))
end Lp
set_option maxRecDepth 65536 in
set_option maxHeartbeats 4000000 in
theorem c_leq (l : Launch) {Z : State} {a0 : Array Value} (hw : ∀ d ∈ tables_1, d.before a0 Z = true) {h : Heap} (hE : Ext Z.heap h) {b1 b2 : Addr} {k1 k2 : ClassId} {us vs : List Int32} (h1 : us.length ≤ 4) (h2 : vs.length ≤ 4) (A1 : Arv Z h b1 k1 .byte (Int32.ofNat us.length) (us.map Value.int) (.int 0)) (A2 : Arv Z h b2 k2 .byte (Int32.ofNat vs.length) (vs.map Value.int) (.int 0)) :
    Con l (⟨"java/lang/StringLatin1", "equals", "([B[B)Z"⟩ : MethodName) jdk_43_method_13_code 3 (some .boolean) [] ({ frames := 0, cells := 0, slots := 0, locals := 0 } : Room) Z #[.ref b1, .ref b2] h (fun v h' => h' = h ∧ (v = some (.int 1) ∧ us = vs ∨ v = some (.int 0) ∧ ¬ (us = vs))) := by
  refine con_intro (by first | exact plainFor_of_name pnL1 | decide +kernel) hE ?_
  intro p e s m below meth c T K hret hlk hnm
  have ef : entryFrame m #[.ref b1, .ref b2] 3 = (mkF m 0 #[.val (.ref b1), .val (.ref b2), .unset] []) := by first | (simp [entryFrame, mkF, argsToLocals, Value.category]; done) | rfl
  rw [ef]
  refine r_aloadN (pc' := 1) K dle_0 rfl rfl rfl ?_
  refine r_alen (pc' := 2) K A1 dle_1 rfl ?_
  refine r_aloadN (pc' := 3) K dle_2 rfl rfl rfl ?_
  refine r_alen (pc' := 4) K A2 dle_3 rfl ?_
  refine r_icmp (pc1 := 7) (pc2 := 34) K dle_4 rfl (by decide) (by decide) ?_ ?_
  · intro (hc : ¬ (Int32.ofNat us.length) = (Int32.ofNat vs.length))
    refine r_iconst (v := (0 : Int32)) (pc' := 35) K dle_34 rfl (by decide) ?_
    exact r_retZ K hret hlk (by decide) dle_35 (by decide) (by decide) ⟨rfl, Or.inr ⟨rfl, fun q => hc (by rw [q])⟩⟩
  · intro (hc : (Int32.ofNat us.length) = (Int32.ofNat vs.length))
    have hl : us.length = vs.length := own_eq (by omega) (by omega) hc
    refine r_iconst (v := (0 : Int32)) (pc' := 8) K dle_7 rfl (by decide) ?_
    refine r_istoreN (Ls' := #[.val (.ref b1), .val (.ref b2), .val (.int (0 : Int32))]) (pc' := 9) K dle_8 rfl rfl ?_
    refine q_loop K h1 hl A1 A2 ?_ ?_ us.length 0 (by omega) (fun j q => absurd q (Nat.not_lt_zero _))
    · intro s2 hq
      refine r_iconst (v := (1 : Int32)) (pc' := 33) K dle_32 rfl (by decide) ?_
      exact r_retZ K hret hlk (by decide) dle_33 (by decide) (by decide) ⟨rfl, Or.inl ⟨rfl, hq⟩⟩
    · intro s2 hq
      refine r_iconst (v := (0 : Int32)) (pc' := 25) K dle_24 rfl (by decide) ?_
      exact r_retZ K hret hlk (by decide) dle_25 (by decide) (by decide) ⟨rfl, Or.inr ⟨rfl, hq⟩⟩
theorem own_arvdet {Z : State} {h : Heap} {b : Addr} {k1 k2 : ClassId} {us vs : List Int32} (h1 : us.length ≤ 4) (h2 : vs.length ≤ 4) (A1 : Arv Z h b k1 .byte (Int32.ofNat us.length) (us.map Value.int) (.int 0)) (A2 : Arv Z h b k2 .byte (Int32.ofNat vs.length) (vs.map Value.int) (.int 0)) : us = vs := by
  obtain ⟨c1, a1, -, s1, -, H1, -⟩ := A1
  obtain ⟨c2, a2, -, s2, -, H2, -⟩ := A2
  cases a1.1.symm.trans a2.1
  rw [own_n32 (by omega)] at s1 s2
  refine own_take (by omega) (fun j hj => ?_)
  have q1 := H1 j (by omega)
  have q2 := H2 j (by omega)
  obtain ⟨x, hx⟩ := own_get (xs := us) (j := j) hj
  obtain ⟨y, hy⟩ := own_get (xs := vs) (j := j) (by omega)
  rw [own_gv hx] at q1
  rw [own_gv hy] at q2
  rw [hx, hy]
  cases q1.symm.trans q2
  rfl
theorem StrL.det {Z : State} {h : Heap} {a : Addr} {us vs : List Int32} (h1 : us.length ≤ 4) (h2 : vs.length ≤ 4) (F : StrL Z h a us) (G : StrL Z h a vs) : us = vs := by
  obtain ⟨b, k, -, -, f, A⟩ := F
  obtain ⟨b', k', -, -, f', A'⟩ := G
  have : b = b' := Classical.byContradiction fun q => f.ne f' (fun r => q (Value.ref.inj r)) rfl
  subst this
  exact own_arvdet h1 h2 A A'
set_option maxRecDepth 65536 in
set_option maxHeartbeats 4000000 in
theorem c_seq (l : Launch) {Z : State} {a0 : Array Value} (hw : ∀ d ∈ tables_1, d.before a0 Z = true) {h : Heap} (hE : Ext Z.heap h) {cs0 : Int32} (Cs : Sta Z Z.heap "java/lang/String" "COMPACT_STRINGS" "Z" (.int cs0)) (hcs : ¬ cs0 = 0) {a b : Addr} {us vs : List Int32} (h1 : us.length ≤ 4) (h2 : vs.length ≤ 4) (Fa : StrL Z h a us) (Fb : StrL Z h b vs) :
    Con l (⟨"java/lang/String", "equals", "(Ljava/lang/Object;)Z"⟩ : MethodName) jdk_42_method_66_code 3 (some .boolean) [] ({ frames := 1, cells := 0, slots := 0, locals := 14 } : Room) Z #[.ref a, .ref b] h (fun v h' => h' = h ∧ (v = some (.int 1) ∧ us = vs ∨ v = some (.int 0) ∧ ¬ (us = vs))) := by
  refine con_intro (by first | exact plainFor_of_name pnS | decide +kernel) hE ?_
  intro p e s m below meth c T K hret hlk hnm
  have ef : entryFrame m #[.ref a, .ref b] 3 = (mkF m 0 #[.val (.ref a), .val (.ref b), .unset] []) := by first | (simp [entryFrame, mkF, argsToLocals, Value.category]; done) | rfl
  rw [ef]
  refine r_aloadN (pc' := 1) K dse_0 rfl rfl rfl ?_
  refine r_aloadN (pc' := 2) K dse_1 rfl rfl rfl ?_
  refine r_acmpNe (pc1 := 5) (pc2 := 7) K dse_2 rfl (by decide) (by decide) ?_ ?_
  · intro hab
    obtain ⟨va, ka, Ea, Ca, Va, Aa⟩ := Fa
    obtain ⟨vb, kb, Eb, Cb, Vb, Ab⟩ := Fb
    refine r_aloadN (pc' := 8) K dse_7 rfl rfl rfl ?_
    refine r_instY (pc' := 11) K (hw _ (List.mem_of_getElem? (i := 54) rfl)) (Ins.of_exa Eb (hw _ (List.mem_of_getElem? (i := 13) rfl))) dse_8 rfl ?_
    intro T1 K1
    refine r_if (pc1 := 14) (pc2 := 54) K1 dse_11 rfl (by decide) (by decide) ?_ ?_
    · intro (hc : (1 : Int32) = (0 : Int32))
      exact absurd hc (by decide)
    · intro (hc : ¬ (1 : Int32) = (0 : Int32))
      refine r_aloadN (pc' := 15) K1 dse_14 rfl rfl rfl ?_
      refine r_castY (pc' := 18) K1 (hw _ (List.mem_of_getElem? (i := 54) rfl)) (Ins.of_exa Eb (hw _ (List.mem_of_getElem? (i := 13) rfl))) dse_15 rfl ?_
      intro T2 K2
      refine r_astoreN (Ls' := #[.val (.ref a), .val (.ref b), .val (.ref b)]) (pc' := 19) K2 dse_18 rfl rfl rfl ?_
      refine r_getS (pc' := 22) K2 (hw _ (List.mem_of_getElem? (i := 55) rfl)) (Cs.ext K.ext) dse_19 rfl ?_
      intro T3 K3
      refine r_if (pc1 := 25) (pc2 := 36) K3 dse_22 rfl (by decide) (by decide) ?_ ?_
      · intro (hc2 : cs0 = (0 : Int32))
        exact absurd hc2 hcs
      · intro (hc2 : ¬ cs0 = (0 : Int32))
        refine r_aloadN (pc' := 26) K3 dse_25 rfl rfl rfl ?_
        refine r_getF (pc' := 29) K3 (hw _ (List.mem_of_getElem? (i := 25) rfl)) Ca dse_26 rfl ?_
        intro T4 K4
        refine r_aloadN (pc' := 30) K4 dse_29 rfl rfl rfl ?_
        refine r_getF (pc' := 33) K4 (hw _ (List.mem_of_getElem? (i := 25) rfl)) Cb dse_30 rfl ?_
        intro T5 K5
        refine r_icmp (pc1 := 36) (pc2 := 54) K5 dse_33 rfl (by decide) (by decide) ?_ ?_
        · intro (hc3 : ¬ (0 : Int32) = (0 : Int32))
          exact absurd rfl hc3
        · intro (hc3 : (0 : Int32) = (0 : Int32))
          refine r_aloadN (pc' := 37) K5 dse_36 rfl rfl rfl ?_
          refine r_getF (pc' := 40) K5 (hw _ (List.mem_of_getElem? (i := 24) rfl)) Va dse_37 rfl ?_
          intro T6 K6
          refine r_aloadN (pc' := 41) K6 dse_40 rfl rfl rfl ?_
          refine r_getF (pc' := 44) K6 (hw _ (List.mem_of_getElem? (i := 24) rfl)) Vb dse_41 rfl ?_
          intro T7 K7
          refine r_static (pc' := 47) (argsL := [.ref va, .ref vb]) (rest := []) (W := 0) K7 (c_leq l hw hE h1 h2 Aa Ab) (hw _ (List.mem_of_getElem? (i := 56) rfl)) (hw _ (List.mem_of_getElem? (i := 57) rfl)) (hw _ (List.mem_of_getElem? (i := 58) rfl)) (hw _ (List.mem_of_getElem? (i := 59) rfl)) (by decide) pdBBZ rfl rfl rfl (Nat.le_refl _) (by decide) (by decide) (by decide) (by decide) dse_44 rfl ?_
          rintro _ T8 _ K8 ⟨rfl, ⟨rfl, hq⟩ | ⟨rfl, hq⟩⟩
          · skip
            refine r_if (pc1 := 50) (pc2 := 54) K8 dse_47 rfl (by decide) (by decide) ?_ ?_
            · intro (hc9 : (1 : Int32) = (0 : Int32))
              exact absurd hc9 (by decide)
            · intro (hc9 : ¬ (1 : Int32) = (0 : Int32))
              refine r_iconst (v := (1 : Int32)) (pc' := 51) K8 dse_50 rfl (by decide) ?_
              refine r_goto (pc' := 55) K8 dse_51 (by decide) (by decide) ?_
              exact r_retZ K8 hret hlk (by decide) dse_55 (by decide) (by decide) ⟨rfl, Or.inl ⟨rfl, hq⟩⟩
          · skip
            refine r_if (pc1 := 50) (pc2 := 54) K8 dse_47 rfl (by decide) (by decide) ?_ ?_
            · intro (hc9 : (0 : Int32) = (0 : Int32))
              refine r_iconst (v := (0 : Int32)) (pc' := 55) K8 dse_54 rfl (by decide) ?_
              exact r_retZ K8 hret hlk (by decide) dse_55 (by decide) (by decide) ⟨rfl, Or.inr ⟨rfl, hq⟩⟩
            · intro (hc9 : ¬ (0 : Int32) = (0 : Int32))
              exact absurd rfl hc9
  · intro hab
    subst hab
    refine r_iconst (v := (1 : Int32)) (pc' := 6) K dse_5 rfl (by decide) ?_
    exact r_retZ K hret hlk (by decide) dse_6 (by decide) (by decide) ⟨rfl, Or.inl ⟨rfl, StrL.det h1 h2 Fa Fb⟩⟩
/-- a constraint: its name, its condition (their bytes), its flag -/
def CCo (Z : State) (h : Heap) (o : Addr) (us cs : List Int32) (w : Int32) : Prop := ∃ (n c : Addr), Exa Z h o "com/example/allot/allot/Catalog$CheckConstraint" ∧ Fld Z h o "com/example/allot/allot/Catalog$CheckConstraint" "name" "Ljava/lang/String;" (.ref n) ∧ StrL Z h n us ∧ Fld Z h o "com/example/allot/allot/Catalog$CheckConstraint" "condition" "Ljava/lang/String;" (.ref c) ∧ StrL Z h c cs ∧ Fld Z h o "com/example/allot/allot/Catalog$CheckConstraint" "readsWholeRow" "Z" (.int w)
theorem CCo.ext {Z : State} {h h' : Heap} {o : Addr} {us cs : List Int32} {w : Int32} (F : CCo Z h o us cs w) (E : Ext h h') : CCo Z h' o us cs w := by
  obtain ⟨n, c, h1, h2, h3, h4, h5, h6⟩ := F
  exact ⟨n, c, h1.ext E, h2.ext E, h3.ext E, h4.ext E, h5.ext E, h6.ext E⟩
theorem CCo.exa {Z : State} {h : Heap} {o : Addr} {us cs : List Int32} {w : Int32} (F : CCo Z h o us cs w) : Exa Z h o "com/example/allot/allot/Catalog$CheckConstraint" := by
  obtain ⟨n, c, h1, -⟩ := F; exact h1
set_option maxRecDepth 65536 in
set_option maxHeartbeats 4000000 in
theorem c_cc (l : Launch) {Z : State} {a0 : Array Value} (hw : ∀ d ∈ tables_1, d.before a0 Z = true) {h : Heap} (hE : Ext Z.heap h) {o n0 c0 : Addr} {z0 : Int32} (hz1 : narrow .boolean (.int z0) = .int z0) (hz2 : fits .boolean (.int z0) = true) (ga : Z.heap.size ≤ o) (E : Exa Z h o "com/example/allot/allot/Catalog$CheckConstraint") (F_name : Fld Z h o "com/example/allot/allot/Catalog$CheckConstraint" "name" "Ljava/lang/String;" .null) (F_condition : Fld Z h o "com/example/allot/allot/Catalog$CheckConstraint" "condition" "Ljava/lang/String;" .null) (F_readsWholeRow : Fld Z h o "com/example/allot/allot/Catalog$CheckConstraint" "readsWholeRow" "Z" (.int 0)) :
    Con l (⟨"com/example/allot/allot/Catalog$CheckConstraint", "<init>", "(Ljava/lang/String;Ljava/lang/String;Z)V"⟩ : MethodName) prog_7_method_1_code 4 none [] ({ frames := 1, cells := 0, slots := 0, locals := 12 } : Room) Z #[.ref o, .ref n0, .ref c0, .int z0] h (fun v h' => v = none ∧ Keep h h' [o] ∧ Exa Z h' o "com/example/allot/allot/Catalog$CheckConstraint" ∧ Fld Z h' o "com/example/allot/allot/Catalog$CheckConstraint" "name" "Ljava/lang/String;" (.ref n0) ∧ Fld Z h' o "com/example/allot/allot/Catalog$CheckConstraint" "condition" "Ljava/lang/String;" (.ref c0) ∧ Fld Z h' o "com/example/allot/allot/Catalog$CheckConstraint" "readsWholeRow" "Z" (.int z0)) := by
  refine con_intro (by first | exact plainFor_of_name pnC | decide +kernel) hE ?_
  intro p e s m below meth c T K hret hlk hnm
  have ef : entryFrame m #[.ref o, .ref n0, .ref c0, .int z0] 4 = (mkF m 0 #[.val (.ref o), .val (.ref n0), .val (.ref c0), .val (.int z0)] []) := by first | (simp [entryFrame, mkF, argsToLocals, Value.category]; done) | rfl
  rw [ef]
  refine r_aloadN (pc' := 1) K dci_0 rfl rfl rfl ?_
  refine r_init (pc' := 4) (W := 0) K (hw _ (List.mem_of_getElem? (i := 32) rfl)) (hw _ (List.mem_of_getElem? (i := 16) rfl)) (hw _ (List.mem_of_getElem? (i := 17) rfl)) rfl dci_1 rfl (by decide) (Nat.le_refl _) (by decide) ?_
  intro T1 K1
  refine r_aloadN (pc' := 5) K1 dci_4 rfl rfl rfl ?_
  refine r_aloadN (pc' := 6) K1 dci_5 rfl rfl rfl ?_
  refine r_putF (pc' := 9) K1 (hw _ (List.mem_of_getElem? (i := 33) rfl)) F_name E ga (Or.inr ⟨(hw _ (List.mem_of_getElem? (i := 34) rfl)), rfl, hnm⟩) (hw _ (List.mem_of_getElem? (i := 27) rfl)) (ty := .object "java/lang/String") (by decide) rfl rfl dci_6 rfl ?_
  intro T2 h2 K2 W2
  have E2 := E.wr W2
  have Kp2 := (Keep.refl _ [o]).wr W2 (Or.inl (List.mem_of_getElem? (i := 0) rfl))
  have F2_name := F_name.same W2
  have F2_condition := F_condition.other W2 (Or.inr (slot_ne (Or.inr (hw _ (List.mem_of_getElem? (i := 36) rfl))) (Or.inr (hw _ (List.mem_of_getElem? (i := 34) rfl))) (by decide) (t := .object "java/lang/String") (t' := .object "java/lang/String") (by decide) (by decide)))
  have F2_readsWholeRow := F_readsWholeRow.other W2 (Or.inr (slot_ne (Or.inr (hw _ (List.mem_of_getElem? (i := 38) rfl))) (Or.inr (hw _ (List.mem_of_getElem? (i := 34) rfl))) (by decide) (t := .boolean) (t' := .object "java/lang/String") (by decide) (by decide)))
  refine r_aloadN (pc' := 10) K2 dci_9 rfl rfl rfl ?_
  refine r_aloadN (pc' := 11) K2 dci_10 rfl rfl rfl ?_
  refine r_putF (pc' := 14) K2 (hw _ (List.mem_of_getElem? (i := 35) rfl)) F2_condition E2 ga (Or.inr ⟨(hw _ (List.mem_of_getElem? (i := 36) rfl)), rfl, hnm⟩) (hw _ (List.mem_of_getElem? (i := 27) rfl)) (ty := .object "java/lang/String") (by decide) rfl rfl dci_11 rfl ?_
  intro T3 h3 K3 W3
  have E3 := E2.wr W3
  have Kp3 := Kp2.wr W3 (Or.inl (List.mem_of_getElem? (i := 0) rfl))
  have F3_name := F2_name.other W3 (Or.inr (slot_ne (Or.inr (hw _ (List.mem_of_getElem? (i := 34) rfl))) (Or.inr (hw _ (List.mem_of_getElem? (i := 36) rfl))) (by decide) (t := .object "java/lang/String") (t' := .object "java/lang/String") (by decide) (by decide)))
  have F3_condition := F2_condition.same W3
  have F3_readsWholeRow := F2_readsWholeRow.other W3 (Or.inr (slot_ne (Or.inr (hw _ (List.mem_of_getElem? (i := 38) rfl))) (Or.inr (hw _ (List.mem_of_getElem? (i := 36) rfl))) (by decide) (t := .boolean) (t' := .object "java/lang/String") (by decide) (by decide)))
  refine r_aloadN (pc' := 15) K3 dci_14 rfl rfl rfl ?_
  refine r_iloadN (pc' := 16) K3 dci_15 rfl rfl ?_
  refine r_putF (pc' := 19) K3 (hw _ (List.mem_of_getElem? (i := 37) rfl)) F3_readsWholeRow E3 ga (Or.inr ⟨(hw _ (List.mem_of_getElem? (i := 38) rfl)), rfl, hnm⟩) (hw _ (List.mem_of_getElem? (i := 27) rfl)) (ty := .boolean) (by decide) hz1 hz2 dci_16 rfl ?_
  intro T4 h4 K4 W4
  have E4 := E3.wr W4
  have Kp4 := Kp3.wr W4 (Or.inl (List.mem_of_getElem? (i := 0) rfl))
  have F4_name := F3_name.other W4 (Or.inr (slot_ne (Or.inr (hw _ (List.mem_of_getElem? (i := 34) rfl))) (Or.inr (hw _ (List.mem_of_getElem? (i := 38) rfl))) (by decide) (t := .object "java/lang/String") (t' := .boolean) (by decide) (by decide)))
  have F4_condition := F3_condition.other W4 (Or.inr (slot_ne (Or.inr (hw _ (List.mem_of_getElem? (i := 36) rfl))) (Or.inr (hw _ (List.mem_of_getElem? (i := 38) rfl))) (by decide) (t := .object "java/lang/String") (t' := .boolean) (by decide) (by decide)))
  have F4_readsWholeRow := F3_readsWholeRow.same W4
  exact r_retV K4 hret hlk dci_19 (by decide) (by decide) ⟨rfl, Kp4, E4, F4_name, F4_condition, F4_readsWholeRow⟩
set_option maxRecDepth 65536 in
set_option maxHeartbeats 4000000 in
theorem c_ceN (l : Launch) {Z : State} {a0 : Array Value} (hw : ∀ d ∈ tables_1, d.before a0 Z = true) {h : Heap} (hE : Ext Z.heap h) {o : Addr} :
    Con l (⟨"com/example/allot/allot/Catalog$CheckConstraint", "equals", "(Ljava/lang/Object;)Z"⟩ : MethodName) prog_7_method_5_code 2 (some .boolean) [] ({ frames := 2, cells := 0, slots := 0, locals := 28 } : Room) Z #[.ref o, .null] h (fun v h' => v = some (.int 0) ∧ h' = h) := by
  refine con_intro (by first | exact plainFor_of_name pnC | decide +kernel) hE ?_
  intro p e s m below meth c T K hret hlk hnm
  have ef : entryFrame m #[.ref o, .null] 2 = (mkF m 0 #[.val (.ref o), .val (.null)] []) := by first | (simp [entryFrame, mkF, argsToLocals, Value.category]; done) | rfl
  rw [ef]
  refine r_aloadN (pc' := 1) K dce_0 rfl rfl rfl ?_
  refine r_instNull (pc' := 4) K dce_1 rfl ?_
  refine r_if (pc1 := 7) (pc2 := 59) K dce_4 rfl (by decide) (by decide) ?_ ?_
  · intro (hc : (0 : Int32) = (0 : Int32))
    refine r_iconst (v := (0 : Int32)) (pc' := 60) K dce_59 rfl (by decide) ?_
    exact r_retZ K hret hlk (by decide) dce_60 (by decide) (by decide) ⟨rfl, rfl⟩
  · intro (hc : ¬ (0 : Int32) = (0 : Int32))
    exact absurd rfl hc
theorem own_noinst {Z : State} {a0 : Array Value} (hw : ∀ d ∈ tables_1, d.before a0 Z = true) : ∃ c t, Z.vm.findClass "java/lang/String" = some c ∧ Z.vm.findClass "com/example/allot/allot/Catalog$CheckConstraint" = some t ∧ Z.vm.assignable c t = false := by
  obtain ⟨c0, k0, h1, h2, h3, -, -⟩ := Cond.noSuperclass_spec (hw _ (List.mem_of_getElem? (i := 83) rfl))
  obtain ⟨t, kt, g1, g2, g3, g4, -, -⟩ := Cond.instantiable_spec (hw _ (List.mem_of_getElem? (i := 27) rfl))
  obtain ⟨c, hc⟩ := found_sup (hw _ (List.mem_of_getElem? (i := 82) rfl))
  obtain ⟨p, k, kp, q1, q2, q3, q4, q5, -, q7⟩ := Cond.superclass_spec hc (hw _ (List.mem_of_getElem? (i := 82) rfl))
  cases h1.symm.trans q1
  cases h2.symm.trans q3
  have n1 := ids_ne hc g1 (by decide)
  have n2 := ids_ne h1 g1 (by decide)
  have g5 : kt.isInterface = false := by
    cases hi : kt.isInterface
    · rfl
    · rw [hi] at g4; cases g4
  have n3 : ∀ fuel, Z.vm.isSubclassAux fuel c t = false := fun fuel => by
    cases fuel with
    | zero => rfl
    | succ f =>
      cases f with
      | zero => simp [Vm.isSubclassAux, n1, q2, q4]
      | succ f => simp [Vm.isSubclassAux, n1, n2, q2, q4, h2, h3]
  refine ⟨c, t, hc, g1, ?_⟩
  show Z.vm.assignableAux (255 + 1) c t = false
  simp [Vm.assignableAux, n1, q2, g2, q5, g3, g5, Vm.isSubclass, n3]
set_option maxRecDepth 65536 in
set_option maxHeartbeats 4000000 in
theorem c_ceS (l : Launch) {Z : State} {a0 : Array Value} (hw : ∀ d ∈ tables_1, d.before a0 Z = true) {h : Heap} (hE : Ext Z.heap h) {o q : Addr} (Eq : Exa Z h q "java/lang/String") :
    Con l (⟨"com/example/allot/allot/Catalog$CheckConstraint", "equals", "(Ljava/lang/Object;)Z"⟩ : MethodName) prog_7_method_5_code 2 (some .boolean) [] ({ frames := 2, cells := 0, slots := 0, locals := 28 } : Room) Z #[.ref o, .ref q] h (fun v h' => v = some (.int 0) ∧ h' = h) := by
  refine con_intro (by first | exact plainFor_of_name pnC | decide +kernel) hE ?_
  intro p e s m below meth c T K hret hlk hnm
  have ef : entryFrame m #[.ref o, .ref q] 2 = (mkF m 0 #[.val (.ref o), .val (.ref q)] []) := by first | (simp [entryFrame, mkF, argsToLocals, Value.category]; done) | rfl
  rw [ef]
  refine r_aloadN (pc' := 1) K dce_0 rfl rfl rfl ?_
  refine r_instNo (pc' := 4) K (hw _ (List.mem_of_getElem? (i := 47) rfl)) Eq (own_noinst hw) dce_1 rfl ?_
  intro T1 K1
  refine r_if (pc1 := 7) (pc2 := 59) K1 dce_4 rfl (by decide) (by decide) ?_ ?_
  · intro (hc : (0 : Int32) = (0 : Int32))
    refine r_iconst (v := (0 : Int32)) (pc' := 60) K1 dce_59 rfl (by decide) ?_
    exact r_retZ K1 hret hlk (by decide) dce_60 (by decide) (by decide) ⟨rfl, rfl⟩
  · intro (hc : ¬ (0 : Int32) = (0 : Int32))
    exact absurd rfl hc
set_option maxRecDepth 65536 in
set_option maxHeartbeats 4000000 in
theorem c_ceq (l : Launch) {Z : State} {a0 : Array Value} (hw : ∀ d ∈ tables_1, d.before a0 Z = true) {h : Heap} (hE : Ext Z.heap h) {cs0 : Int32} (Cs : Sta Z Z.heap "java/lang/String" "COMPACT_STRINGS" "Z" (.int cs0)) (hcs : ¬ cs0 = 0) {o q : Addr} {us1 us2 cs1 cs2 : List Int32} {w1 w2 : Int32} (l1 : us1.length ≤ 4) (l2 : us2.length ≤ 4) (l3 : cs1.length ≤ 4) (l4 : cs2.length ≤ 4) (F1 : CCo Z h o us1 cs1 w1) (F2 : CCo Z h q us2 cs2 w2) :
    Con l (⟨"com/example/allot/allot/Catalog$CheckConstraint", "equals", "(Ljava/lang/Object;)Z"⟩ : MethodName) prog_7_method_5_code 2 (some .boolean) [] ({ frames := 2, cells := 0, slots := 0, locals := 28 } : Room) Z #[.ref o, .ref q] h (fun v h' => h' = h ∧ (v = some (.int 1) ∧ us1 = us2 ∧ cs1 = cs2 ∧ w1 = w2 ∨ v = some (.int 0) ∧ ¬ (us1 = us2 ∧ cs1 = cs2 ∧ w1 = w2))) := by
  refine con_intro (by first | exact plainFor_of_name pnC | decide +kernel) hE ?_
  intro p e s m below meth c T K hret hlk hnm
  have ef : entryFrame m #[.ref o, .ref q] 2 = (mkF m 0 #[.val (.ref o), .val (.ref q)] []) := by first | (simp [entryFrame, mkF, argsToLocals, Value.category]; done) | rfl
  rw [ef]
  obtain ⟨n1, c1, E1, N1, S1, C1, R1, Z1⟩ := F1
  obtain ⟨n2, c2, E2, N2, S2, C2, R2, Z2⟩ := F2
  refine r_aloadN (pc' := 1) K dce_0 rfl rfl rfl ?_
  refine r_instY (pc' := 4) K (hw _ (List.mem_of_getElem? (i := 47) rfl)) (Ins.of_exa E2 (hw _ (List.mem_of_getElem? (i := 48) rfl))) dce_1 rfl ?_
  intro T1 K1
  refine r_if (pc1 := 7) (pc2 := 59) K1 dce_4 rfl (by decide) (by decide) ?_ ?_
  · intro (hc : (1 : Int32) = (0 : Int32))
    exact absurd hc (by decide)
  · intro (hc : ¬ (1 : Int32) = (0 : Int32))
    refine r_aloadN (pc' := 8) K1 dce_7 rfl rfl rfl ?_
    refine r_getF (pc' := 11) K1 (hw _ (List.mem_of_getElem? (i := 33) rfl)) N1 dce_8 rfl ?_
    intro T2 K2
    refine r_aloadN (pc' := 12) K2 dce_11 rfl rfl rfl ?_
    refine r_castY (pc' := 15) K2 (hw _ (List.mem_of_getElem? (i := 47) rfl)) (Ins.of_exa E2 (hw _ (List.mem_of_getElem? (i := 48) rfl))) dce_12 rfl ?_
    intro T3 K3
    refine r_getF (pc' := 18) K3 (hw _ (List.mem_of_getElem? (i := 33) rfl)) N2 dce_15 rfl ?_
    intro T4 K4
    refine r_virtual (pc' := 21) (argsL := [.ref n2]) (rest := []) (W := 0) K4 (c_seq l hw hE Cs hcs l1 l2 S1 S2) S1.exa (hw _ (List.mem_of_getElem? (i := 49) rfl)) (hw _ (List.mem_of_getElem? (i := 50) rfl)) (hw _ (List.mem_of_getElem? (i := 52) rfl)) (hw _ (List.mem_of_getElem? (i := 51) rfl)) (hw _ (List.mem_of_getElem? (i := 6) rfl)) (hw _ (List.mem_of_getElem? (i := 53) rfl)) (by decide) pdOZ rfl rfl rfl (Nat.le_refl _) (by decide) (by decide) (by decide) (by decide) dce_18 rfl ?_
    rintro _ T5 _ K5 ⟨rfl, ⟨rfl, hq⟩ | ⟨rfl, hq⟩⟩
    rotate_left
    · skip
      refine r_if (pc1 := 24) (pc2 := 59) K5 dce_21 rfl (by decide) (by decide) ?_ ?_
      · intro (hc5 : (0 : Int32) = (0 : Int32))
        refine r_iconst (v := (0 : Int32)) (pc' := 60) K5 dce_59 rfl (by decide) ?_
        exact r_retZ K5 hret hlk (by decide) dce_60 (by decide) (by decide) ⟨rfl, Or.inr ⟨rfl, fun q => hq q.1⟩⟩
      · intro (hc5 : ¬ (0 : Int32) = (0 : Int32))
        exact absurd rfl hc5
    refine r_if (pc1 := 24) (pc2 := 59) K5 dce_21 rfl (by decide) (by decide) ?_ ?_
    · intro (hc5 : (1 : Int32) = (0 : Int32))
      exact absurd hc5 (by decide)
    · intro (hc5 : ¬ (1 : Int32) = (0 : Int32))
      refine r_aloadN (pc' := 25) K5 dce_24 rfl rfl rfl ?_
      refine r_getF (pc' := 28) K5 (hw _ (List.mem_of_getElem? (i := 35) rfl)) C1 dce_25 rfl ?_
      intro T6 K6
      refine r_aloadN (pc' := 29) K6 dce_28 rfl rfl rfl ?_
      refine r_castY (pc' := 32) K6 (hw _ (List.mem_of_getElem? (i := 47) rfl)) (Ins.of_exa E2 (hw _ (List.mem_of_getElem? (i := 48) rfl))) dce_29 rfl ?_
      intro T7 K7
      refine r_getF (pc' := 35) K7 (hw _ (List.mem_of_getElem? (i := 35) rfl)) C2 dce_32 rfl ?_
      intro T8 K8
      refine r_virtual (pc' := 38) (argsL := [.ref c2]) (rest := []) (W := 0) K8 (c_seq l hw hE Cs hcs l3 l4 R1 R2) R1.exa (hw _ (List.mem_of_getElem? (i := 49) rfl)) (hw _ (List.mem_of_getElem? (i := 50) rfl)) (hw _ (List.mem_of_getElem? (i := 52) rfl)) (hw _ (List.mem_of_getElem? (i := 51) rfl)) (hw _ (List.mem_of_getElem? (i := 6) rfl)) (hw _ (List.mem_of_getElem? (i := 53) rfl)) (by decide) pdOZ rfl rfl rfl (Nat.le_refl _) (by decide) (by decide) (by decide) (by decide) dce_35 rfl ?_
      rintro _ T9 _ K9 ⟨rfl, ⟨rfl, hq2⟩ | ⟨rfl, hq2⟩⟩
      rotate_left
      · skip
        refine r_if (pc1 := 41) (pc2 := 59) K9 dce_38 rfl (by decide) (by decide) ?_ ?_
        · intro (hc9 : (0 : Int32) = (0 : Int32))
          refine r_iconst (v := (0 : Int32)) (pc' := 60) K9 dce_59 rfl (by decide) ?_
          exact r_retZ K9 hret hlk (by decide) dce_60 (by decide) (by decide) ⟨rfl, Or.inr ⟨rfl, fun q => hq2 q.2.1⟩⟩
        · intro (hc9 : ¬ (0 : Int32) = (0 : Int32))
          exact absurd rfl hc9
      refine r_if (pc1 := 41) (pc2 := 59) K9 dce_38 rfl (by decide) (by decide) ?_ ?_
      · intro (hc9 : (1 : Int32) = (0 : Int32))
        exact absurd hc9 (by decide)
      · intro (hc9 : ¬ (1 : Int32) = (0 : Int32))
        refine r_aloadN (pc' := 42) K9 dce_41 rfl rfl rfl ?_
        refine r_getF (pc' := 45) K9 (hw _ (List.mem_of_getElem? (i := 37) rfl)) Z1 dce_42 rfl ?_
        intro T10 K10
        refine r_aloadN (pc' := 46) K10 dce_45 rfl rfl rfl ?_
        refine r_castY (pc' := 49) K10 (hw _ (List.mem_of_getElem? (i := 47) rfl)) (Ins.of_exa E2 (hw _ (List.mem_of_getElem? (i := 48) rfl))) dce_46 rfl ?_
        intro T11 K11
        refine r_getF (pc' := 52) K11 (hw _ (List.mem_of_getElem? (i := 37) rfl)) Z2 dce_49 rfl ?_
        intro T12 K12
        refine r_icmp (pc1 := 55) (pc2 := 59) K12 dce_52 rfl (by decide) (by decide) ?_ ?_
        · intro (hcz : ¬ w1 = w2)
          refine r_iconst (v := (0 : Int32)) (pc' := 60) K12 dce_59 rfl (by decide) ?_
          exact r_retZ K12 hret hlk (by decide) dce_60 (by decide) (by decide) ⟨rfl, Or.inr ⟨rfl, fun q => hcz q.2.2⟩⟩
        · intro (hcz : w1 = w2)
          refine r_iconst (v := (1 : Int32)) (pc' := 56) K12 dce_55 rfl (by decide) ?_
          refine r_goto (pc' := 60) K12 dce_56 (by decide) (by decide) ?_
          exact r_retZ K12 hret hlk (by decide) dce_60 (by decide) (by decide) ⟨rfl, Or.inl ⟨rfl, hq, hq2, hcz⟩⟩
def Sm (la a0 a1 lb b0 b1 : Int32) : Prop := la = lb ∧ (¬ la < 1 → a0 = b0) ∧ (¬ la < 2 → a1 = b1)
set_option maxRecDepth 65536 in
set_option maxHeartbeats 4000000 in
theorem c_same (l : Launch) {Z : State} {a0 : Array Value} (hw : ∀ d ∈ tables_1, d.before a0 Z = true) {h : Heap} (hE : Ext Z.heap h) {la x0 x1 lb y0 y1 : Int32} :
    Con l (⟨"com/example/allot/allot/CheckConstraintEqualsPinLaw", "same", "(ICCICC)Z"⟩ : MethodName) method_3_code 6 (some .boolean) [] ({ frames := 0, cells := 0, slots := 0, locals := 0 } : Room) Z #[.int la, .int x0, .int x1, .int lb, .int y0, .int y1] h (fun v h' => h' = h ∧ (v = some (.int 1) ∧ Sm la x0 x1 lb y0 y1 ∨ v = some (.int 0) ∧ ¬ (Sm la x0 x1 lb y0 y1))) := by
  refine con_intro (by first | exact plainFor_of_name pnLaw | decide +kernel) hE ?_
  intro p e s m below meth c T K hret hlk hnm
  have ef : entryFrame m #[.int la, .int x0, .int x1, .int lb, .int y0, .int y1] 6 = (mkF m 0 #[.val (.int la), .val (.int x0), .val (.int x1), .val (.int lb), .val (.int y0), .val (.int y1)] []) := by first | (simp [entryFrame, mkF, argsToLocals, Value.category]; done) | rfl
  rw [ef]
  refine r_iloadN (pc' := 1) K dsa_0 rfl rfl ?_
  refine r_iloadN (pc' := 2) K dsa_1 rfl rfl ?_
  refine r_icmp (pc1 := 5) (pc2 := 7) K dsa_2 rfl (by decide) (by decide) ?_ ?_
  · intro (hc : la = lb)
    refine r_iloadN (pc' := 8) K dsa_7 rfl rfl ?_
    refine r_iconst (v := (1 : Int32)) (pc' := 9) K dsa_8 rfl (by decide) ?_
    refine r_icmp (pc1 := 12) (pc2 := 20) K dsa_9 rfl (by decide) (by decide) ?_ ?_
    · intro (hc2 : la < (1 : Int32))
      refine r_iloadN (pc' := 21) K dsa_20 rfl rfl ?_
      refine r_iconst (v := (2 : Int32)) (pc' := 22) K dsa_21 rfl (by decide) ?_
      refine r_icmp (pc1 := 25) (pc2 := 33) K dsa_22 rfl (by decide) (by decide) ?_ ?_
      · intro (hc3 : la < (2 : Int32))
        refine r_iconst (v := (1 : Int32)) (pc' := 34) K dsa_33 rfl (by decide) ?_
        exact r_retZ K hret hlk (by decide) dsa_34 (by decide) (by decide) ⟨rfl, Or.inl ⟨rfl, ⟨hc, fun q => absurd hc2 q, fun q => absurd hc3 q⟩⟩⟩
      · intro (hc3 : ¬ la < (2 : Int32))
        refine r_iloadN (pc' := 26) K dsa_25 rfl rfl ?_
        refine r_iload (pc' := 28) K dsa_26 rfl rfl ?_
        refine r_icmp (pc1 := 31) (pc2 := 33) K dsa_28 rfl (by decide) (by decide) ?_ ?_
        · intro (hc4 : x1 = y1)
          refine r_iconst (v := (1 : Int32)) (pc' := 34) K dsa_33 rfl (by decide) ?_
          exact r_retZ K hret hlk (by decide) dsa_34 (by decide) (by decide) ⟨rfl, Or.inl ⟨rfl, ⟨hc, fun q => absurd hc2 q, fun _ => hc4⟩⟩⟩
        · intro (hc4 : ¬ x1 = y1)
          refine r_iconst (v := (0 : Int32)) (pc' := 32) K dsa_31 rfl (by decide) ?_
          exact r_retZ K hret hlk (by decide) dsa_32 (by decide) (by decide) ⟨rfl, Or.inr ⟨rfl, fun q => hc4 (q.2.2 hc3)⟩⟩
    · intro (hc2 : ¬ la < (1 : Int32))
      refine r_iloadN (pc' := 13) K dsa_12 rfl rfl ?_
      refine r_iload (pc' := 15) K dsa_13 rfl rfl ?_
      refine r_icmp (pc1 := 18) (pc2 := 20) K dsa_15 rfl (by decide) (by decide) ?_ ?_
      · intro (hc2b : x0 = y0)
        refine r_iloadN (pc' := 21) K dsa_20 rfl rfl ?_
        refine r_iconst (v := (2 : Int32)) (pc' := 22) K dsa_21 rfl (by decide) ?_
        refine r_icmp (pc1 := 25) (pc2 := 33) K dsa_22 rfl (by decide) (by decide) ?_ ?_
        · intro (hc3 : la < (2 : Int32))
          refine r_iconst (v := (1 : Int32)) (pc' := 34) K dsa_33 rfl (by decide) ?_
          exact r_retZ K hret hlk (by decide) dsa_34 (by decide) (by decide) ⟨rfl, Or.inl ⟨rfl, ⟨hc, fun _ => hc2b, fun q => absurd hc3 q⟩⟩⟩
        · intro (hc3 : ¬ la < (2 : Int32))
          refine r_iloadN (pc' := 26) K dsa_25 rfl rfl ?_
          refine r_iload (pc' := 28) K dsa_26 rfl rfl ?_
          refine r_icmp (pc1 := 31) (pc2 := 33) K dsa_28 rfl (by decide) (by decide) ?_ ?_
          · intro (hc4 : x1 = y1)
            refine r_iconst (v := (1 : Int32)) (pc' := 34) K dsa_33 rfl (by decide) ?_
            exact r_retZ K hret hlk (by decide) dsa_34 (by decide) (by decide) ⟨rfl, Or.inl ⟨rfl, ⟨hc, fun _ => hc2b, fun _ => hc4⟩⟩⟩
          · intro (hc4 : ¬ x1 = y1)
            refine r_iconst (v := (0 : Int32)) (pc' := 32) K dsa_31 rfl (by decide) ?_
            exact r_retZ K hret hlk (by decide) dsa_32 (by decide) (by decide) ⟨rfl, Or.inr ⟨rfl, fun q => hc4 (q.2.2 hc3)⟩⟩
      · intro (hc2b : ¬ x0 = y0)
        refine r_iconst (v := (0 : Int32)) (pc' := 19) K dsa_18 rfl (by decide) ?_
        exact r_retZ K hret hlk (by decide) dsa_19 (by decide) (by decide) ⟨rfl, Or.inr ⟨rfl, fun q => hc2b (q.2.1 hc2)⟩⟩
  · intro (hc : ¬ la = lb)
    refine r_iconst (v := (0 : Int32)) (pc' := 6) K dsa_5 rfl (by decide) ?_
    exact r_retZ K hret hlk (by decide) dsa_6 (by decide) (by decide) ⟨rfl, Or.inr ⟨rfl, fun q => hc q.1⟩⟩
def Chr (x : Int32) : Prop := ¬ x < 0 ∧ ¬ 255 < x ∧ nar .char x = x
def Ln (x : Int32) : Prop := x = 0 ∨ x = 1 ∨ x = 2
def TX (ln x0 x1 : Int32) : List Int32 := if ln = 0 then [] else if ln = 1 then [byt x0] else [byt x0, byt x1]
theorem TX.len (ln x0 x1 : Int32) : (TX ln x0 x1).length ≤ 4 := by
  unfold TX
  split
  · simp
  · split <;> simp
theorem own_lat2 {x y : Int32} (hx : ¬ 255 < x) (hy : ¬ 255 < y) : ∀ (i : Nat) (z : Int32), [x, y][i]? = some z → ¬ 255 < z := by
  intro i z h
  match i, h with
  | 0, h => cases h; exact hx
  | 1, h => cases h; exact hy
  | n + 2, h => simp at h
theorem own_byt {x y : Int32} (hx : Chr x) (hy : Chr y) : byt x = byt y ↔ x = y := by
  refine ⟨fun h => ?_, fun h => by rw [h]⟩
  obtain ⟨a1, a2, -⟩ := hx
  obtain ⟨b1, b2, -⟩ := hy
  rw [Int32.lt_iff_toInt_lt] at a1 a2 b1 b2
  have e1 : (255 : Int32).toInt = 255 := by decide
  have e0 : (0 : Int32).toInt = 0 := by decide
  have p := c_i2b x
  have q := c_i2b y
  have h2 : x.toInt8.toInt32.toInt = y.toInt8.toInt32.toInt := congrArg Int32.toInt h
  apply Int32.toInt_inj.mp
  omega
theorem own_txt {la x0 x1 lb y0 y1 : Int32} (ha : Ln la) (hb : Ln lb) (c0 : Chr x0) (c1 : Chr x1) (d0 : Chr y0) (d1 : Chr y1) : TX la x0 x1 = TX lb y0 y1 ↔ Sm la x0 x1 lb y0 y1 := by
  rcases ha with rfl | rfl | rfl <;> rcases hb with rfl | rfl | rfl <;> simp [TX, Sm, own_byt c0 d0, own_byt c1 d1]
set_option maxRecDepth 65536 in
set_option maxHeartbeats 4000000 in
theorem c_txt (l : Launch) {Z : State} {a0 : Array Value} (hw : ∀ d ∈ tables_1, d.before a0 Z = true) {h : Heap} (hE : Ext Z.heap h) (hEL : EW Z a0 [("java/lang/String", 7)]) {cs0 : Int32} (Cs : Sta Z Z.heap "java/lang/String" "COMPACT_STRINGS" "Z" (.int cs0)) (hcs : ¬ cs0 = 0) {ln x0 x1 : Int32} (hx0 : Chr x0) (hx1 : Chr x1) :
    ConW l (⟨"com/example/allot/allot/CheckConstraintEqualsPinLaw", "text", "(ICC)Ljava/lang/String;"⟩ : MethodName) method_2_code 3 (some (.object "java/lang/String")) [] ({ frames := 4, cells := 6, slots := 12, locals := 66 } : Room) Z [("java/lang/String", 7)] #[.int ln, .int x0, .int x1] h (fun v h' => ∃ o, v = some (.ref o) ∧ Ext h h' ∧ StrL Z h' o (TX ln x0 x1)) := by
  refine con_introW (by first | exact plainFor_of_name pnLaw | decide +kernel) hE ?_
  intro p e s m below meth c T K I0 hret hlk hnm
  have ef : entryFrame m #[.int ln, .int x0, .int x1] 3 = (mkF m 0 #[.val (.int ln), .val (.int x0), .val (.int x1)] []) := by first | (simp [entryFrame, mkF, argsToLocals, Value.category]; done) | rfl
  rw [ef]
  refine r_iloadN (pc' := 1) K dtx_0 rfl rfl ?_
  refine r_if (pc1 := 4) (pc2 := 15) K dtx_1 rfl (by decide) (by decide) ?_ ?_
  · intro (hc : ¬ ln = (0 : Int32))
    refine r_iloadN (pc' := 16) K dtx_15 rfl rfl ?_
    refine r_iconst (v := (1 : Int32)) (pc' := 17) K dtx_16 rfl (by decide) ?_
    refine r_icmp (pc1 := 20) (pc2 := 25) K dtx_17 rfl (by decide) (by decide) ?_ ?_
    · intro (hc2 : ¬ ln = (1 : Int32))
      refine r_new (pc' := 28) K (hw _ (List.mem_of_getElem? (i := 4) rfl)) (hw _ (List.mem_of_getElem? (i := 5) rfl)) (hw _ (List.mem_of_getElem? (i := 6) rfl)) dtx_25 rfl (by decide) (by decide) ?_
      intro T1 h1 o ho K1 E1 O1 D1
      refine r_dup (pc' := 29) K1 dtx_28 rfl rfl ?_
      refine r_iconst (v := (2 : Int32)) (pc' := 30) K1 dtx_29 rfl (by decide) ?_
      refine r_newarr (pc' := 32) (cap := 2) K1 (hw _ (List.mem_of_getElem? (i := 7) rfl)) dtx_30 rfl (by decide) (by decide) (by decide) (by decide) (by decide) ?_
      intro T2 h2 d kd hd K2 E2 A2
      have gd : Z.heap.size ≤ d := by rw [hd]; exact K1.sz
      have A2' := A2.pad (vs' := [.int 0, .int 0]) (pad_rep [] (.int 0) 2)
      refine r_dup (pc' := 33) K2 dtx_32 rfl rfl ?_
      refine r_iconst (v := (0 : Int32)) (pc' := 34) K2 dtx_33 rfl (by decide) ?_
      refine r_iloadN (pc' := 35) K2 dtx_34 rfl rfl ?_
      refine r_castore (pc' := 36) (i := 0) K2 A2' gd (by decide) (by decide) (by decide) dtx_35 rfl ?_
      intro T3 h3 K3 W3 A3
      refine r_dup (pc' := 37) K3 dtx_36 rfl rfl ?_
      refine r_iconst (v := (1 : Int32)) (pc' := 38) K3 dtx_37 rfl (by decide) ?_
      refine r_iloadN (pc' := 39) K3 dtx_38 rfl rfl ?_
      refine r_castore (pc' := 40) (i := 1) K3 A3 gd (by decide) (by decide) (by simp) dtx_39 rfl ?_
      intro T4 h4 K4 W4 A4
      have A5 : Arv Z h4 d kd .char (Int32.ofNat [x0, x1].length) ([x0, x1].map Value.int) (.int 0) := by
        have q := A4; rw [hx0.2.2, hx1.2.2] at q; exact q
      have hdo : o ≠ d := by rw [hd]; exact Nat.ne_of_lt O1.lt
      have O4 := ((O1.ext E2).wr W3).wr W4
      have V4 := (((D1 (Or.inr (hw _ (List.mem_of_getElem? (i := 20) rfl))) (ty := .array .byte) (by decide)).ext E2).other W3 (Or.inl hdo)).other W4 (Or.inl hdo)
      have C4 := (((D1 (Or.inr (hw _ (List.mem_of_getElem? (i := 21) rfl))) (ty := .byte) (by decide)).ext E2).other W3 (Or.inl hdo)).other W4 (Or.inl hdo)
      have go : Z.heap.size ≤ o := by rw [ho]; exact K.sz
      refine r_special (pc' := 43) (argsL := [.ref d]) (rest := [.ref o]) (W := 1) K4 (c_iC l hw K4.ext go O4 V4 C4 (by simp) A5 (by simp) (own_lat2 hx0.2.1 hx1.2.1) Cs hcs) rfl (hw _ (List.mem_of_getElem? (i := 8) rfl)) (hw _ (List.mem_of_getElem? (i := 9) rfl)) (hw _ (List.mem_of_getElem? (i := 6) rfl)) (hw _ (List.mem_of_getElem? (i := 10) rfl)) (by decide) pdSC rfl rfl rfl (Nat.le_refl _) (by decide) (by decide) (by decide) (by decide) dtx_40 rfl ?_
      rintro _ T5 h5 K5 ⟨rfl, Kp5, S5⟩
      have hod : h.size ≤ o := Nat.le_of_eq ho.symm
      have hdd : h.size ≤ d := by rw [hd]; exact E1.1
      have X4 : Ext h h4 := ext_keep (ext_keep (ext_tr E1 E2) (Keep.of_wr W3) (allS hdd all0)) (Keep.of_wr W4) (allS hdd all0)
      have J2 := (I0.ext E1).ext E2
      have Fd : Safe Z [("java/lang/String", 7)] _ h2 d := (I0.ext E1).fresh E2 (Nat.le_of_eq hd.symm)
      have Fo : Safe Z [("java/lang/String", 7)] _ h2 o := Safe.ext E2 (I0.ext E1).ch (I0.fresh E1 hod)
      have J3 := J2.wr W3 Fd
      have Fd3 := Safe.wr W3 Fd J2.ch Fd
      have Fo3 := Safe.wr W3 Fd J2.ch Fo
      have J4 := J3.wr W4 Fd3
      have Fo4 := Safe.wr W4 Fd3 J3.ch Fo3
      have J5 := J4.keep Kp5 (sfS Fo4 sf0)
      exact w_retA K5 J5 hEL hret hlk rfl rfl dtx_43 (by decide) (by decide) ⟨o, rfl, ext_keep X4 Kp5 (allS hod all0), by simp only [TX, if_neg hc, if_neg hc2]; exact S5⟩
    · intro (hc2 : ln = (1 : Int32))
      refine r_iloadN (pc' := 21) K dtx_20 rfl rfl ?_
      refine r_static (pc' := 24) (argsL := [.int x0]) (rest := []) (W := 0) K (c_vOf l hw hE hx0.2.1 Cs hcs) (hw _ (List.mem_of_getElem? (i := 70) rfl)) (hw _ (List.mem_of_getElem? (i := 71) rfl)) (hw _ (List.mem_of_getElem? (i := 6) rfl)) (hw _ (List.mem_of_getElem? (i := 72) rfl)) (by decide) pdCS rfl rfl rfl (Nat.le_refl _) (by decide) (by decide) (by decide) (by decide) dtx_21 rfl ?_
      rintro _ T1 h1 K1 ⟨o, rfl, ho, E1, S1⟩
      exact w_retA K1 (I0.ext E1) hEL hret hlk rfl rfl dtx_24 (by decide) (by decide) ⟨o, rfl, E1, by rw [hc2]; exact S1⟩
  · intro (hc : ln = (0 : Int32))
    refine r_new (pc' := 7) K (hw _ (List.mem_of_getElem? (i := 4) rfl)) (hw _ (List.mem_of_getElem? (i := 5) rfl)) (hw _ (List.mem_of_getElem? (i := 6) rfl)) dtx_4 rfl (by decide) (by decide) ?_
    intro T1 h1 o ho K1 E1 O1 D1
    refine r_dup (pc' := 8) K1 dtx_7 rfl rfl ?_
    refine r_iconst (v := (0 : Int32)) (pc' := 9) K1 dtx_8 rfl (by decide) ?_
    refine r_newarr (pc' := 11) (cap := 0) K1 (hw _ (List.mem_of_getElem? (i := 7) rfl)) dtx_9 rfl (by decide) (by decide) (by decide) (by decide) (by decide) ?_
    intro T2 h2 d kd hd K2 E2 A2
    have I2 := (I0.ext E1).ext E2
    refine w_special (pc' := 14) (argsL := [.ref d]) (rest := [.ref o]) (W := 1) K2 I2 hEL (c_iCe l hw K2.ext hEL (by rw [ho]; exact K.sz) (O1.ext E2) ((D1 (Or.inr (hw _ (List.mem_of_getElem? (i := 20) rfl))) (ty := .array .byte) (by decide)).ext E2) ((D1 (Or.inr (hw _ (List.mem_of_getElem? (i := 21) rfl))) (ty := .byte) (by decide)).ext E2) A2) rfl (hw _ (List.mem_of_getElem? (i := 8) rfl)) (hw _ (List.mem_of_getElem? (i := 9) rfl)) (hw _ (List.mem_of_getElem? (i := 6) rfl)) (hw _ (List.mem_of_getElem? (i := 10) rfl)) (by decide) pdSC rfl rfl rfl (Nat.le_refl _) (by decide) (by decide) (by decide) (by decide) dtx_11 rfl ?_
    rintro _ T3 h3 vm3 K3 I3 C3 ⟨rfl, Kp3, S3⟩
    exact w_retA K3 I3 hEL hret hlk rfl rfl dtx_14 (by decide) (by decide) ⟨o, rfl, ext_keep (ext_tr E1 E2) Kp3 (allS (Nat.le_of_eq ho.symm) all0), by rw [hc]; exact S3⟩
section Own
variable {Z : State} {a0 : Array Value} {p : Program} {l : Launch} {e : Env} {R : Room} {s : State} {m : MethodId} {args : Array Value} {below : List Frame} {meth : Method} {c : Code} {T : State} {h : Heap} {cells slots : Nat} {P : State → Prop} {vm0 : Vm}
variable {xn xm xc xd xf xs l1 l2 l3 l4 w1 w2 n0 n1 m0 m1 c0 c1 d0 d1 kd ex : Int32} {s1 s2 s3 s4 oa ob : Addr}
theorem own_ln (x : Int32) : Ln ((x &&& (3 : Int32)) % (3 : Int32)) := by
  have h := c_and x 3 (by decide)
  have q := (c_irem (x &&& 3) 3 3 (by decide)).1 h.1
  have e3 : (3 : Int32).toInt = 3 := by decide
  have : ((x &&& (3 : Int32)) % (3 : Int32)).toInt = 0 ∨ ((x &&& (3 : Int32)) % (3 : Int32)).toInt = 1 ∨ ((x &&& (3 : Int32)) % (3 : Int32)).toInt = 2 := by omega
  rcases this with q | q | q
  · exact Or.inl (Int32.toInt_inj.mp q)
  · exact Or.inr (Or.inl (Int32.toInt_inj.mp q))
  · exact Or.inr (Or.inr (Int32.toInt_inj.mp q))
theorem own_chr (x : Int32) : Chr (x &&& (255 : Int32)).toUInt32.toUInt16.toUInt32.toInt32 := by
  rw [i2c_mask]
  have h := c_and x 255 (by decide)
  have e1 : (255 : Int32).toInt = 255 := by decide
  have e0 : (0 : Int32).toInt = 0 := by decide
  refine ⟨?_, ?_, i2c_mask x⟩
  · rw [Int32.lt_iff_toInt_lt]; omega
  · rw [Int32.lt_iff_toInt_lt]; omega
set_option maxRecDepth 65536 in
set_option maxHeartbeats 4000000 in
theorem sg0 (K : St Z "com/example/allot/allot/CheckConstraintEqualsPinLaw" code 28 p l e room_1 (s.setVm vm0) m args below meth c T h cells slots)  (hk : ∀ l1 l2 l3 l4, Ln l1 → Ln l2 → Ln l3 → Ln l4 → Run p e below P T (mkF m 39 #[.val (.int xn), .val (.int xm), .val (.int xc), .val (.int xd), .val (.int xf), .val (.int xs), .val (.int l1), .val (.int l2), .val (.int l3), .val (.int l4), .unset, .unset, .unset, .unset, .unset, .unset, .unset, .unset, .unset, .unset, .unset, .unset, .unset, .unset, .unset, .unset, .unset, .unset] [])) : Run p e below P T (mkF m 0 #[.val (.int xn), .val (.int xm), .val (.int xc), .val (.int xd), .val (.int xf), .val (.int xs), .unset, .unset, .unset, .unset, .unset, .unset, .unset, .unset, .unset, .unset, .unset, .unset, .unset, .unset, .unset, .unset, .unset, .unset, .unset, .unset, .unset, .unset] []) := by
  refine r_iload (pc' := 2) K at_0 rfl rfl ?_
  refine r_iconst (v := (3 : Int32)) (pc' := 3) K at_2 rfl (by decide) ?_
  refine r_iand (pc' := 4) K at_3 rfl ?_
  refine r_iconst (v := (3 : Int32)) (pc' := 5) K at_4 rfl (by decide) ?_
  refine r_irem (pc' := 6) K at_5 rfl (by decide) ?_
  have hl1 := own_ln xf
  generalize ((xf &&& (3 : Int32)) % (3 : Int32)) = l1 at hl1 ⊢
  refine r_istore (Ls' := #[.val (.int xn), .val (.int xm), .val (.int xc), .val (.int xd), .val (.int xf), .val (.int xs), .val (.int l1), .unset, .unset, .unset, .unset, .unset, .unset, .unset, .unset, .unset, .unset, .unset, .unset, .unset, .unset, .unset, .unset, .unset, .unset, .unset, .unset, .unset]) (pc' := 8) K at_6 rfl rfl ?_
  refine r_iload (pc' := 10) K at_8 rfl rfl ?_
  refine r_iconst (v := (2 : Int32)) (pc' := 11) K at_10 rfl (by decide) ?_
  refine r_iushr (pc' := 12) K at_11 rfl ?_
  refine r_iconst (v := (3 : Int32)) (pc' := 13) K at_12 rfl (by decide) ?_
  refine r_iand (pc' := 14) K at_13 rfl ?_
  refine r_iconst (v := (3 : Int32)) (pc' := 15) K at_14 rfl (by decide) ?_
  refine r_irem (pc' := 16) K at_15 rfl (by decide) ?_
  have hl2 := own_ln ((xf.toUInt32 >>> ((2 : Int32) &&& 31).toUInt32).toInt32)
  generalize ((((xf.toUInt32 >>> ((2 : Int32) &&& 31).toUInt32).toInt32) &&& (3 : Int32)) % (3 : Int32)) = l2 at hl2 ⊢
  refine r_istore (Ls' := #[.val (.int xn), .val (.int xm), .val (.int xc), .val (.int xd), .val (.int xf), .val (.int xs), .val (.int l1), .val (.int l2), .unset, .unset, .unset, .unset, .unset, .unset, .unset, .unset, .unset, .unset, .unset, .unset, .unset, .unset, .unset, .unset, .unset, .unset, .unset, .unset]) (pc' := 18) K at_16 rfl rfl ?_
  refine r_iload (pc' := 20) K at_18 rfl rfl ?_
  refine r_iconst (v := (4 : Int32)) (pc' := 21) K at_20 rfl (by decide) ?_
  refine r_iushr (pc' := 22) K at_21 rfl ?_
  refine r_iconst (v := (3 : Int32)) (pc' := 23) K at_22 rfl (by decide) ?_
  refine r_iand (pc' := 24) K at_23 rfl ?_
  refine r_iconst (v := (3 : Int32)) (pc' := 25) K at_24 rfl (by decide) ?_
  refine r_irem (pc' := 26) K at_25 rfl (by decide) ?_
  have hl3 := own_ln ((xf.toUInt32 >>> ((4 : Int32) &&& 31).toUInt32).toInt32)
  generalize ((((xf.toUInt32 >>> ((4 : Int32) &&& 31).toUInt32).toInt32) &&& (3 : Int32)) % (3 : Int32)) = l3 at hl3 ⊢
  refine r_istore (Ls' := #[.val (.int xn), .val (.int xm), .val (.int xc), .val (.int xd), .val (.int xf), .val (.int xs), .val (.int l1), .val (.int l2), .val (.int l3), .unset, .unset, .unset, .unset, .unset, .unset, .unset, .unset, .unset, .unset, .unset, .unset, .unset, .unset, .unset, .unset, .unset, .unset, .unset]) (pc' := 28) K at_26 rfl rfl ?_
  refine r_iload (pc' := 30) K at_28 rfl rfl ?_
  refine r_bipush (v := (6 : Int32)) (pc' := 32) K at_30 rfl (by decide) ?_
  refine r_iushr (pc' := 33) K at_32 rfl ?_
  refine r_iconst (v := (3 : Int32)) (pc' := 34) K at_33 rfl (by decide) ?_
  refine r_iand (pc' := 35) K at_34 rfl ?_
  refine r_iconst (v := (3 : Int32)) (pc' := 36) K at_35 rfl (by decide) ?_
  refine r_irem (pc' := 37) K at_36 rfl (by decide) ?_
  have hl4 := own_ln ((xf.toUInt32 >>> ((6 : Int32) &&& 31).toUInt32).toInt32)
  generalize ((((xf.toUInt32 >>> ((6 : Int32) &&& 31).toUInt32).toInt32) &&& (3 : Int32)) % (3 : Int32)) = l4 at hl4 ⊢
  refine r_istore (Ls' := #[.val (.int xn), .val (.int xm), .val (.int xc), .val (.int xd), .val (.int xf), .val (.int xs), .val (.int l1), .val (.int l2), .val (.int l3), .val (.int l4), .unset, .unset, .unset, .unset, .unset, .unset, .unset, .unset, .unset, .unset, .unset, .unset, .unset, .unset, .unset, .unset, .unset, .unset]) (pc' := 39) K at_37 rfl rfl ?_
  exact hk _ _ _ _ hl1 hl2 hl3 hl4
set_option maxRecDepth 65536 in
set_option maxHeartbeats 4000000 in
theorem sg39 (K : St Z "com/example/allot/allot/CheckConstraintEqualsPinLaw" code 28 p l e room_1 (s.setVm vm0) m args below meth c T h cells slots)  (hk : ∀ w1, (w1 = 0 ∨ w1 = 1) → Run p e below P T (mkF m 56 #[.val (.int xn), .val (.int xm), .val (.int xc), .val (.int xd), .val (.int xf), .val (.int xs), .val (.int l1), .val (.int l2), .val (.int l3), .val (.int l4), .val (.int w1), .unset, .unset, .unset, .unset, .unset, .unset, .unset, .unset, .unset, .unset, .unset, .unset, .unset, .unset, .unset, .unset, .unset] [])) : Run p e below P T (mkF m 39 #[.val (.int xn), .val (.int xm), .val (.int xc), .val (.int xd), .val (.int xf), .val (.int xs), .val (.int l1), .val (.int l2), .val (.int l3), .val (.int l4), .unset, .unset, .unset, .unset, .unset, .unset, .unset, .unset, .unset, .unset, .unset, .unset, .unset, .unset, .unset, .unset, .unset, .unset] []) := by
  refine r_iload (pc' := 41) K at_39 rfl rfl ?_
  refine r_bipush (v := (8 : Int32)) (pc' := 43) K at_41 rfl (by decide) ?_
  refine r_iushr (pc' := 44) K at_43 rfl ?_
  refine r_iconst (v := (1 : Int32)) (pc' := 45) K at_44 rfl (by decide) ?_
  refine r_iand (pc' := 46) K at_45 rfl ?_
  refine r_if (pc1 := 49) (pc2 := 53) K at_46 rfl (by decide) (by decide) ?_ ?_
  · intro (hc : (((xf.toUInt32 >>> ((8 : Int32) &&& 31).toUInt32).toInt32) &&& (1 : Int32)) = (0 : Int32))
    refine r_iconst (v := (0 : Int32)) (pc' := 54) K at_53 rfl (by decide) ?_
    refine r_istore (Ls' := #[.val (.int xn), .val (.int xm), .val (.int xc), .val (.int xd), .val (.int xf), .val (.int xs), .val (.int l1), .val (.int l2), .val (.int l3), .val (.int l4), .val (.int (0 : Int32)), .unset, .unset, .unset, .unset, .unset, .unset, .unset, .unset, .unset, .unset, .unset, .unset, .unset, .unset, .unset, .unset, .unset]) (pc' := 56) K at_54 rfl rfl ?_
    exact hk _ (Or.inl rfl)
  · intro (hc : ¬ (((xf.toUInt32 >>> ((8 : Int32) &&& 31).toUInt32).toInt32) &&& (1 : Int32)) = (0 : Int32))
    refine r_iconst (v := (1 : Int32)) (pc' := 50) K at_49 rfl (by decide) ?_
    refine r_goto (pc' := 54) K at_50 (by decide) (by decide) ?_
    refine r_istore (Ls' := #[.val (.int xn), .val (.int xm), .val (.int xc), .val (.int xd), .val (.int xf), .val (.int xs), .val (.int l1), .val (.int l2), .val (.int l3), .val (.int l4), .val (.int (1 : Int32)), .unset, .unset, .unset, .unset, .unset, .unset, .unset, .unset, .unset, .unset, .unset, .unset, .unset, .unset, .unset, .unset, .unset]) (pc' := 56) K at_54 rfl rfl ?_
    exact hk _ (Or.inr rfl)
set_option maxRecDepth 65536 in
set_option maxHeartbeats 4000000 in
theorem sg56 (K : St Z "com/example/allot/allot/CheckConstraintEqualsPinLaw" code 28 p l e room_1 (s.setVm vm0) m args below meth c T h cells slots)  (hk : ∀ w2, (w2 = 0 ∨ w2 = 1) → Run p e below P T (mkF m 73 #[.val (.int xn), .val (.int xm), .val (.int xc), .val (.int xd), .val (.int xf), .val (.int xs), .val (.int l1), .val (.int l2), .val (.int l3), .val (.int l4), .val (.int w1), .val (.int w2), .unset, .unset, .unset, .unset, .unset, .unset, .unset, .unset, .unset, .unset, .unset, .unset, .unset, .unset, .unset, .unset] [])) : Run p e below P T (mkF m 56 #[.val (.int xn), .val (.int xm), .val (.int xc), .val (.int xd), .val (.int xf), .val (.int xs), .val (.int l1), .val (.int l2), .val (.int l3), .val (.int l4), .val (.int w1), .unset, .unset, .unset, .unset, .unset, .unset, .unset, .unset, .unset, .unset, .unset, .unset, .unset, .unset, .unset, .unset, .unset] []) := by
  refine r_iload (pc' := 58) K at_56 rfl rfl ?_
  refine r_bipush (v := (9 : Int32)) (pc' := 60) K at_58 rfl (by decide) ?_
  refine r_iushr (pc' := 61) K at_60 rfl ?_
  refine r_iconst (v := (1 : Int32)) (pc' := 62) K at_61 rfl (by decide) ?_
  refine r_iand (pc' := 63) K at_62 rfl ?_
  refine r_if (pc1 := 66) (pc2 := 70) K at_63 rfl (by decide) (by decide) ?_ ?_
  · intro (hc : (((xf.toUInt32 >>> ((9 : Int32) &&& 31).toUInt32).toInt32) &&& (1 : Int32)) = (0 : Int32))
    refine r_iconst (v := (0 : Int32)) (pc' := 71) K at_70 rfl (by decide) ?_
    refine r_istore (Ls' := #[.val (.int xn), .val (.int xm), .val (.int xc), .val (.int xd), .val (.int xf), .val (.int xs), .val (.int l1), .val (.int l2), .val (.int l3), .val (.int l4), .val (.int w1), .val (.int (0 : Int32)), .unset, .unset, .unset, .unset, .unset, .unset, .unset, .unset, .unset, .unset, .unset, .unset, .unset, .unset, .unset, .unset]) (pc' := 73) K at_71 rfl rfl ?_
    exact hk _ (Or.inl rfl)
  · intro (hc : ¬ (((xf.toUInt32 >>> ((9 : Int32) &&& 31).toUInt32).toInt32) &&& (1 : Int32)) = (0 : Int32))
    refine r_iconst (v := (1 : Int32)) (pc' := 67) K at_66 rfl (by decide) ?_
    refine r_goto (pc' := 71) K at_67 (by decide) (by decide) ?_
    refine r_istore (Ls' := #[.val (.int xn), .val (.int xm), .val (.int xc), .val (.int xd), .val (.int xf), .val (.int xs), .val (.int l1), .val (.int l2), .val (.int l3), .val (.int l4), .val (.int w1), .val (.int (1 : Int32)), .unset, .unset, .unset, .unset, .unset, .unset, .unset, .unset, .unset, .unset, .unset, .unset, .unset, .unset, .unset, .unset]) (pc' := 73) K at_71 rfl rfl ?_
    exact hk _ (Or.inr rfl)
set_option maxRecDepth 65536 in
set_option maxHeartbeats 4000000 in
theorem sg73 (K : St Z "com/example/allot/allot/CheckConstraintEqualsPinLaw" code 28 p l e room_1 (s.setVm vm0) m args below meth c T h cells slots)  (hk : ∀ n0 n1, Chr n0 → Chr n1 → Run p e below P T (mkF m 92 #[.val (.int xn), .val (.int xm), .val (.int xc), .val (.int xd), .val (.int xf), .val (.int xs), .val (.int l1), .val (.int l2), .val (.int l3), .val (.int l4), .val (.int w1), .val (.int w2), .val (.int n0), .val (.int n1), .unset, .unset, .unset, .unset, .unset, .unset, .unset, .unset, .unset, .unset, .unset, .unset, .unset, .unset] [])) : Run p e below P T (mkF m 73 #[.val (.int xn), .val (.int xm), .val (.int xc), .val (.int xd), .val (.int xf), .val (.int xs), .val (.int l1), .val (.int l2), .val (.int l3), .val (.int l4), .val (.int w1), .val (.int w2), .unset, .unset, .unset, .unset, .unset, .unset, .unset, .unset, .unset, .unset, .unset, .unset, .unset, .unset, .unset, .unset] []) := by
  refine r_iloadN (pc' := 74) K at_73 rfl rfl ?_
  refine r_sipush (v := (255 : Int32)) (pc' := 77) K at_74 rfl (by decide) ?_
  refine r_iand (pc' := 78) K at_77 rfl ?_
  refine r_i2c (pc' := 79) K at_78 rfl ?_
  have hn0 := own_chr xn
  generalize (xn &&& (255 : Int32)).toUInt32.toUInt16.toUInt32.toInt32 = n0 at hn0 ⊢
  refine r_istore (Ls' := #[.val (.int xn), .val (.int xm), .val (.int xc), .val (.int xd), .val (.int xf), .val (.int xs), .val (.int l1), .val (.int l2), .val (.int l3), .val (.int l4), .val (.int w1), .val (.int w2), .val (.int n0), .unset, .unset, .unset, .unset, .unset, .unset, .unset, .unset, .unset, .unset, .unset, .unset, .unset, .unset, .unset]) (pc' := 81) K at_79 rfl rfl ?_
  refine r_iloadN (pc' := 82) K at_81 rfl rfl ?_
  refine r_bipush (v := (8 : Int32)) (pc' := 84) K at_82 rfl (by decide) ?_
  refine r_iushr (pc' := 85) K at_84 rfl ?_
  refine r_sipush (v := (255 : Int32)) (pc' := 88) K at_85 rfl (by decide) ?_
  refine r_iand (pc' := 89) K at_88 rfl ?_
  refine r_i2c (pc' := 90) K at_89 rfl ?_
  have hn1 := own_chr ((xn.toUInt32 >>> ((8 : Int32) &&& 31).toUInt32).toInt32)
  generalize (((xn.toUInt32 >>> ((8 : Int32) &&& 31).toUInt32).toInt32) &&& (255 : Int32)).toUInt32.toUInt16.toUInt32.toInt32 = n1 at hn1 ⊢
  refine r_istore (Ls' := #[.val (.int xn), .val (.int xm), .val (.int xc), .val (.int xd), .val (.int xf), .val (.int xs), .val (.int l1), .val (.int l2), .val (.int l3), .val (.int l4), .val (.int w1), .val (.int w2), .val (.int n0), .val (.int n1), .unset, .unset, .unset, .unset, .unset, .unset, .unset, .unset, .unset, .unset, .unset, .unset, .unset, .unset]) (pc' := 92) K at_90 rfl rfl ?_
  exact hk _ _ hn0 hn1
set_option maxRecDepth 65536 in
set_option maxHeartbeats 4000000 in
theorem sg92 (K : St Z "com/example/allot/allot/CheckConstraintEqualsPinLaw" code 28 p l e room_1 (s.setVm vm0) m args below meth c T h cells slots) (hn0 : Chr n0) (hk : ∀ m0, Chr m0 → Run p e below P T (mkF m 112 #[.val (.int xn), .val (.int xm), .val (.int xc), .val (.int xd), .val (.int xf), .val (.int xs), .val (.int l1), .val (.int l2), .val (.int l3), .val (.int l4), .val (.int w1), .val (.int w2), .val (.int n0), .val (.int n1), .val (.int m0), .unset, .unset, .unset, .unset, .unset, .unset, .unset, .unset, .unset, .unset, .unset, .unset, .unset] [])) : Run p e below P T (mkF m 92 #[.val (.int xn), .val (.int xm), .val (.int xc), .val (.int xd), .val (.int xf), .val (.int xs), .val (.int l1), .val (.int l2), .val (.int l3), .val (.int l4), .val (.int w1), .val (.int w2), .val (.int n0), .val (.int n1), .unset, .unset, .unset, .unset, .unset, .unset, .unset, .unset, .unset, .unset, .unset, .unset, .unset, .unset] []) := by
  refine r_iload (pc' := 94) K at_92 rfl rfl ?_
  refine r_iconst (v := (1 : Int32)) (pc' := 95) K at_94 rfl (by decide) ?_
  refine r_iand (pc' := 96) K at_95 rfl ?_
  refine r_if (pc1 := 99) (pc2 := 104) K at_96 rfl (by decide) (by decide) ?_ ?_
  · intro (hc : (xs &&& (1 : Int32)) = (0 : Int32))
    refine r_iloadN (pc' := 105) K at_104 rfl rfl ?_
    refine r_sipush (v := (255 : Int32)) (pc' := 108) K at_105 rfl (by decide) ?_
    refine r_iand (pc' := 109) K at_108 rfl ?_
    refine r_i2c (pc' := 110) K at_109 rfl ?_
    have hm0 := own_chr xm
    generalize (xm &&& (255 : Int32)).toUInt32.toUInt16.toUInt32.toInt32 = m0 at hm0 ⊢
    refine r_istore (Ls' := #[.val (.int xn), .val (.int xm), .val (.int xc), .val (.int xd), .val (.int xf), .val (.int xs), .val (.int l1), .val (.int l2), .val (.int l3), .val (.int l4), .val (.int w1), .val (.int w2), .val (.int n0), .val (.int n1), .val (.int m0), .unset, .unset, .unset, .unset, .unset, .unset, .unset, .unset, .unset, .unset, .unset, .unset, .unset]) (pc' := 112) K at_110 rfl rfl ?_
    exact hk _ hm0
  · intro (hc : ¬ (xs &&& (1 : Int32)) = (0 : Int32))
    refine r_iload (pc' := 101) K at_99 rfl rfl ?_
    refine r_goto (pc' := 110) K at_101 (by decide) (by decide) ?_
    refine r_istore (Ls' := #[.val (.int xn), .val (.int xm), .val (.int xc), .val (.int xd), .val (.int xf), .val (.int xs), .val (.int l1), .val (.int l2), .val (.int l3), .val (.int l4), .val (.int w1), .val (.int w2), .val (.int n0), .val (.int n1), .val (.int n0), .unset, .unset, .unset, .unset, .unset, .unset, .unset, .unset, .unset, .unset, .unset, .unset, .unset]) (pc' := 112) K at_110 rfl rfl ?_
    exact hk _ hn0
set_option maxRecDepth 65536 in
set_option maxHeartbeats 4000000 in
theorem sg112 (K : St Z "com/example/allot/allot/CheckConstraintEqualsPinLaw" code 28 p l e room_1 (s.setVm vm0) m args below meth c T h cells slots) (hn1 : Chr n1) (hk : ∀ m1, Chr m1 → Run p e below P T (mkF m 135 #[.val (.int xn), .val (.int xm), .val (.int xc), .val (.int xd), .val (.int xf), .val (.int xs), .val (.int l1), .val (.int l2), .val (.int l3), .val (.int l4), .val (.int w1), .val (.int w2), .val (.int n0), .val (.int n1), .val (.int m0), .val (.int m1), .unset, .unset, .unset, .unset, .unset, .unset, .unset, .unset, .unset, .unset, .unset, .unset] [])) : Run p e below P T (mkF m 112 #[.val (.int xn), .val (.int xm), .val (.int xc), .val (.int xd), .val (.int xf), .val (.int xs), .val (.int l1), .val (.int l2), .val (.int l3), .val (.int l4), .val (.int w1), .val (.int w2), .val (.int n0), .val (.int n1), .val (.int m0), .unset, .unset, .unset, .unset, .unset, .unset, .unset, .unset, .unset, .unset, .unset, .unset, .unset] []) := by
  refine r_iload (pc' := 114) K at_112 rfl rfl ?_
  refine r_iconst (v := (1 : Int32)) (pc' := 115) K at_114 rfl (by decide) ?_
  refine r_iand (pc' := 116) K at_115 rfl ?_
  refine r_if (pc1 := 119) (pc2 := 124) K at_116 rfl (by decide) (by decide) ?_ ?_
  · intro (hc : (xs &&& (1 : Int32)) = (0 : Int32))
    refine r_iloadN (pc' := 125) K at_124 rfl rfl ?_
    refine r_bipush (v := (8 : Int32)) (pc' := 127) K at_125 rfl (by decide) ?_
    refine r_iushr (pc' := 128) K at_127 rfl ?_
    refine r_sipush (v := (255 : Int32)) (pc' := 131) K at_128 rfl (by decide) ?_
    refine r_iand (pc' := 132) K at_131 rfl ?_
    refine r_i2c (pc' := 133) K at_132 rfl ?_
    have hm1 := own_chr ((xm.toUInt32 >>> ((8 : Int32) &&& 31).toUInt32).toInt32)
    generalize (((xm.toUInt32 >>> ((8 : Int32) &&& 31).toUInt32).toInt32) &&& (255 : Int32)).toUInt32.toUInt16.toUInt32.toInt32 = m1 at hm1 ⊢
    refine r_istore (Ls' := #[.val (.int xn), .val (.int xm), .val (.int xc), .val (.int xd), .val (.int xf), .val (.int xs), .val (.int l1), .val (.int l2), .val (.int l3), .val (.int l4), .val (.int w1), .val (.int w2), .val (.int n0), .val (.int n1), .val (.int m0), .val (.int m1), .unset, .unset, .unset, .unset, .unset, .unset, .unset, .unset, .unset, .unset, .unset, .unset]) (pc' := 135) K at_133 rfl rfl ?_
    exact hk _ hm1
  · intro (hc : ¬ (xs &&& (1 : Int32)) = (0 : Int32))
    refine r_iload (pc' := 121) K at_119 rfl rfl ?_
    refine r_goto (pc' := 133) K at_121 (by decide) (by decide) ?_
    refine r_istore (Ls' := #[.val (.int xn), .val (.int xm), .val (.int xc), .val (.int xd), .val (.int xf), .val (.int xs), .val (.int l1), .val (.int l2), .val (.int l3), .val (.int l4), .val (.int w1), .val (.int w2), .val (.int n0), .val (.int n1), .val (.int m0), .val (.int n1), .unset, .unset, .unset, .unset, .unset, .unset, .unset, .unset, .unset, .unset, .unset, .unset]) (pc' := 135) K at_133 rfl rfl ?_
    exact hk _ hn1
set_option maxRecDepth 65536 in
set_option maxHeartbeats 4000000 in
theorem sg135 (K : St Z "com/example/allot/allot/CheckConstraintEqualsPinLaw" code 28 p l e room_1 (s.setVm vm0) m args below meth c T h cells slots)  (hk : ∀ c0 c1, Chr c0 → Chr c1 → Run p e below P T (mkF m 154 #[.val (.int xn), .val (.int xm), .val (.int xc), .val (.int xd), .val (.int xf), .val (.int xs), .val (.int l1), .val (.int l2), .val (.int l3), .val (.int l4), .val (.int w1), .val (.int w2), .val (.int n0), .val (.int n1), .val (.int m0), .val (.int m1), .val (.int c0), .val (.int c1), .unset, .unset, .unset, .unset, .unset, .unset, .unset, .unset, .unset, .unset] [])) : Run p e below P T (mkF m 135 #[.val (.int xn), .val (.int xm), .val (.int xc), .val (.int xd), .val (.int xf), .val (.int xs), .val (.int l1), .val (.int l2), .val (.int l3), .val (.int l4), .val (.int w1), .val (.int w2), .val (.int n0), .val (.int n1), .val (.int m0), .val (.int m1), .unset, .unset, .unset, .unset, .unset, .unset, .unset, .unset, .unset, .unset, .unset, .unset] []) := by
  refine r_iloadN (pc' := 136) K at_135 rfl rfl ?_
  refine r_sipush (v := (255 : Int32)) (pc' := 139) K at_136 rfl (by decide) ?_
  refine r_iand (pc' := 140) K at_139 rfl ?_
  refine r_i2c (pc' := 141) K at_140 rfl ?_
  have hc0 := own_chr xc
  generalize (xc &&& (255 : Int32)).toUInt32.toUInt16.toUInt32.toInt32 = c0 at hc0 ⊢
  refine r_istore (Ls' := #[.val (.int xn), .val (.int xm), .val (.int xc), .val (.int xd), .val (.int xf), .val (.int xs), .val (.int l1), .val (.int l2), .val (.int l3), .val (.int l4), .val (.int w1), .val (.int w2), .val (.int n0), .val (.int n1), .val (.int m0), .val (.int m1), .val (.int c0), .unset, .unset, .unset, .unset, .unset, .unset, .unset, .unset, .unset, .unset, .unset]) (pc' := 143) K at_141 rfl rfl ?_
  refine r_iloadN (pc' := 144) K at_143 rfl rfl ?_
  refine r_bipush (v := (8 : Int32)) (pc' := 146) K at_144 rfl (by decide) ?_
  refine r_iushr (pc' := 147) K at_146 rfl ?_
  refine r_sipush (v := (255 : Int32)) (pc' := 150) K at_147 rfl (by decide) ?_
  refine r_iand (pc' := 151) K at_150 rfl ?_
  refine r_i2c (pc' := 152) K at_151 rfl ?_
  have hc1 := own_chr ((xc.toUInt32 >>> ((8 : Int32) &&& 31).toUInt32).toInt32)
  generalize (((xc.toUInt32 >>> ((8 : Int32) &&& 31).toUInt32).toInt32) &&& (255 : Int32)).toUInt32.toUInt16.toUInt32.toInt32 = c1 at hc1 ⊢
  refine r_istore (Ls' := #[.val (.int xn), .val (.int xm), .val (.int xc), .val (.int xd), .val (.int xf), .val (.int xs), .val (.int l1), .val (.int l2), .val (.int l3), .val (.int l4), .val (.int w1), .val (.int w2), .val (.int n0), .val (.int n1), .val (.int m0), .val (.int m1), .val (.int c0), .val (.int c1), .unset, .unset, .unset, .unset, .unset, .unset, .unset, .unset, .unset, .unset]) (pc' := 154) K at_152 rfl rfl ?_
  exact hk _ _ hc0 hc1
set_option maxRecDepth 65536 in
set_option maxHeartbeats 4000000 in
theorem sg154 (K : St Z "com/example/allot/allot/CheckConstraintEqualsPinLaw" code 28 p l e room_1 (s.setVm vm0) m args below meth c T h cells slots) (hc0 : Chr c0) (hk : ∀ d0, Chr d0 → Run p e below P T (mkF m 174 #[.val (.int xn), .val (.int xm), .val (.int xc), .val (.int xd), .val (.int xf), .val (.int xs), .val (.int l1), .val (.int l2), .val (.int l3), .val (.int l4), .val (.int w1), .val (.int w2), .val (.int n0), .val (.int n1), .val (.int m0), .val (.int m1), .val (.int c0), .val (.int c1), .val (.int d0), .unset, .unset, .unset, .unset, .unset, .unset, .unset, .unset, .unset] [])) : Run p e below P T (mkF m 154 #[.val (.int xn), .val (.int xm), .val (.int xc), .val (.int xd), .val (.int xf), .val (.int xs), .val (.int l1), .val (.int l2), .val (.int l3), .val (.int l4), .val (.int w1), .val (.int w2), .val (.int n0), .val (.int n1), .val (.int m0), .val (.int m1), .val (.int c0), .val (.int c1), .unset, .unset, .unset, .unset, .unset, .unset, .unset, .unset, .unset, .unset] []) := by
  refine r_iload (pc' := 156) K at_154 rfl rfl ?_
  refine r_iconst (v := (2 : Int32)) (pc' := 157) K at_156 rfl (by decide) ?_
  refine r_iand (pc' := 158) K at_157 rfl ?_
  refine r_if (pc1 := 161) (pc2 := 166) K at_158 rfl (by decide) (by decide) ?_ ?_
  · intro (hc : (xs &&& (2 : Int32)) = (0 : Int32))
    refine r_iloadN (pc' := 167) K at_166 rfl rfl ?_
    refine r_sipush (v := (255 : Int32)) (pc' := 170) K at_167 rfl (by decide) ?_
    refine r_iand (pc' := 171) K at_170 rfl ?_
    refine r_i2c (pc' := 172) K at_171 rfl ?_
    have hd0 := own_chr xd
    generalize (xd &&& (255 : Int32)).toUInt32.toUInt16.toUInt32.toInt32 = d0 at hd0 ⊢
    refine r_istore (Ls' := #[.val (.int xn), .val (.int xm), .val (.int xc), .val (.int xd), .val (.int xf), .val (.int xs), .val (.int l1), .val (.int l2), .val (.int l3), .val (.int l4), .val (.int w1), .val (.int w2), .val (.int n0), .val (.int n1), .val (.int m0), .val (.int m1), .val (.int c0), .val (.int c1), .val (.int d0), .unset, .unset, .unset, .unset, .unset, .unset, .unset, .unset, .unset]) (pc' := 174) K at_172 rfl rfl ?_
    exact hk _ hd0
  · intro (hc : ¬ (xs &&& (2 : Int32)) = (0 : Int32))
    refine r_iload (pc' := 163) K at_161 rfl rfl ?_
    refine r_goto (pc' := 172) K at_163 (by decide) (by decide) ?_
    refine r_istore (Ls' := #[.val (.int xn), .val (.int xm), .val (.int xc), .val (.int xd), .val (.int xf), .val (.int xs), .val (.int l1), .val (.int l2), .val (.int l3), .val (.int l4), .val (.int w1), .val (.int w2), .val (.int n0), .val (.int n1), .val (.int m0), .val (.int m1), .val (.int c0), .val (.int c1), .val (.int c0), .unset, .unset, .unset, .unset, .unset, .unset, .unset, .unset, .unset]) (pc' := 174) K at_172 rfl rfl ?_
    exact hk _ hc0
set_option maxRecDepth 65536 in
set_option maxHeartbeats 4000000 in
theorem sg174 (K : St Z "com/example/allot/allot/CheckConstraintEqualsPinLaw" code 28 p l e room_1 (s.setVm vm0) m args below meth c T h cells slots) (hc1 : Chr c1) (hk : ∀ d1, Chr d1 → Run p e below P T (mkF m 197 #[.val (.int xn), .val (.int xm), .val (.int xc), .val (.int xd), .val (.int xf), .val (.int xs), .val (.int l1), .val (.int l2), .val (.int l3), .val (.int l4), .val (.int w1), .val (.int w2), .val (.int n0), .val (.int n1), .val (.int m0), .val (.int m1), .val (.int c0), .val (.int c1), .val (.int d0), .val (.int d1), .unset, .unset, .unset, .unset, .unset, .unset, .unset, .unset] [])) : Run p e below P T (mkF m 174 #[.val (.int xn), .val (.int xm), .val (.int xc), .val (.int xd), .val (.int xf), .val (.int xs), .val (.int l1), .val (.int l2), .val (.int l3), .val (.int l4), .val (.int w1), .val (.int w2), .val (.int n0), .val (.int n1), .val (.int m0), .val (.int m1), .val (.int c0), .val (.int c1), .val (.int d0), .unset, .unset, .unset, .unset, .unset, .unset, .unset, .unset, .unset] []) := by
  refine r_iload (pc' := 176) K at_174 rfl rfl ?_
  refine r_iconst (v := (2 : Int32)) (pc' := 177) K at_176 rfl (by decide) ?_
  refine r_iand (pc' := 178) K at_177 rfl ?_
  refine r_if (pc1 := 181) (pc2 := 186) K at_178 rfl (by decide) (by decide) ?_ ?_
  · intro (hc : (xs &&& (2 : Int32)) = (0 : Int32))
    refine r_iloadN (pc' := 187) K at_186 rfl rfl ?_
    refine r_bipush (v := (8 : Int32)) (pc' := 189) K at_187 rfl (by decide) ?_
    refine r_iushr (pc' := 190) K at_189 rfl ?_
    refine r_sipush (v := (255 : Int32)) (pc' := 193) K at_190 rfl (by decide) ?_
    refine r_iand (pc' := 194) K at_193 rfl ?_
    refine r_i2c (pc' := 195) K at_194 rfl ?_
    have hd1 := own_chr ((xd.toUInt32 >>> ((8 : Int32) &&& 31).toUInt32).toInt32)
    generalize (((xd.toUInt32 >>> ((8 : Int32) &&& 31).toUInt32).toInt32) &&& (255 : Int32)).toUInt32.toUInt16.toUInt32.toInt32 = d1 at hd1 ⊢
    refine r_istore (Ls' := #[.val (.int xn), .val (.int xm), .val (.int xc), .val (.int xd), .val (.int xf), .val (.int xs), .val (.int l1), .val (.int l2), .val (.int l3), .val (.int l4), .val (.int w1), .val (.int w2), .val (.int n0), .val (.int n1), .val (.int m0), .val (.int m1), .val (.int c0), .val (.int c1), .val (.int d0), .val (.int d1), .unset, .unset, .unset, .unset, .unset, .unset, .unset, .unset]) (pc' := 197) K at_195 rfl rfl ?_
    exact hk _ hd1
  · intro (hc : ¬ (xs &&& (2 : Int32)) = (0 : Int32))
    refine r_iload (pc' := 183) K at_181 rfl rfl ?_
    refine r_goto (pc' := 195) K at_183 (by decide) (by decide) ?_
    refine r_istore (Ls' := #[.val (.int xn), .val (.int xm), .val (.int xc), .val (.int xd), .val (.int xf), .val (.int xs), .val (.int l1), .val (.int l2), .val (.int l3), .val (.int l4), .val (.int w1), .val (.int w2), .val (.int n0), .val (.int n1), .val (.int m0), .val (.int m1), .val (.int c0), .val (.int c1), .val (.int d0), .val (.int c1), .unset, .unset, .unset, .unset, .unset, .unset, .unset, .unset]) (pc' := 197) K at_195 rfl rfl ?_
    exact hk _ hc1
set_option maxRecDepth 65536 in
set_option maxHeartbeats 4000000 in
theorem sg197 (hw : ∀ d ∈ tables_1, d.before a0 Z = true) (hEL : EW Z a0 [("java/lang/String", 7)]) {cs0 : Int32} (Cs : Sta Z Z.heap "java/lang/String" "COMPACT_STRINGS" "Z" (.int cs0)) (hcs : ¬ cs0 = 0) (K : St Z "com/example/allot/allot/CheckConstraintEqualsPinLaw" code 28 p l e room_1 (s.setVm vm0) m args below meth c T h 0 0) (I : Inv Z [("java/lang/String", 7)] s vm0 h) (hn0 : Chr n0) (hn1 : Chr n1) (hm0 : Chr m0) (hm1 : Chr m1) (hc0 : Chr c0) (hc1 : Chr c1) (hd0 : Chr d0) (hd1 : Chr d1) (hk : ∀ s1 s2 s3 s4 T' h' vm1, St Z "com/example/allot/allot/CheckConstraintEqualsPinLaw" code 28 p l e room_1 (s.setVm vm1) m args below meth c T' h' 24 48 → Inv Z [("java/lang/String", 7)] s vm1 h' → StrL Z h' s1 (TX l1 n0 n1) → StrL Z h' s2 (TX l2 m0 m1) → StrL Z h' s3 (TX l3 c0 c1) → StrL Z h' s4 (TX l4 d0 d1) → Run p e below P T' (mkF m 241 #[.val (.int xn), .val (.int xm), .val (.int xc), .val (.int xd), .val (.int xf), .val (.int xs), .val (.int l1), .val (.int l2), .val (.int l3), .val (.int l4), .val (.int w1), .val (.int w2), .val (.int n0), .val (.int n1), .val (.int m0), .val (.int m1), .val (.int c0), .val (.int c1), .val (.int d0), .val (.int d1), .val (.ref s1), .val (.ref s2), .val (.ref s3), .val (.ref s4), .unset, .unset, .unset, .unset] [])) : Run p e below P T (mkF m 197 #[.val (.int xn), .val (.int xm), .val (.int xc), .val (.int xd), .val (.int xf), .val (.int xs), .val (.int l1), .val (.int l2), .val (.int l3), .val (.int l4), .val (.int w1), .val (.int w2), .val (.int n0), .val (.int n1), .val (.int m0), .val (.int m1), .val (.int c0), .val (.int c1), .val (.int d0), .val (.int d1), .unset, .unset, .unset, .unset, .unset, .unset, .unset, .unset] []) := by
  refine r_iload (pc' := 199) K at_197 rfl rfl ?_
  refine r_iload (pc' := 201) K at_199 rfl rfl ?_
  refine r_iload (pc' := 203) K at_201 rfl rfl ?_
  refine w_static (pc' := 206) (argsL := [.int l1, .int n0, .int n1]) (rest := []) (W := 0) K I hEL (c_txt l hw K.ext hEL Cs hcs hn0 hn1) (hw _ (List.mem_of_getElem? (i := 0) rfl)) (hw _ (List.mem_of_getElem? (i := 1) rfl)) (hw _ (List.mem_of_getElem? (i := 2) rfl)) (hw _ (List.mem_of_getElem? (i := 3) rfl)) (by decide) pdTX rfl rfl rfl (Nat.le_refl _) (by decide) (by decide) (by decide) (by decide) at_203 rfl ?_
  rintro _ T1 h1 vm1 K1 I1 C1 ⟨s1, rfl, E1, S1⟩
  refine r_astore (Ls' := #[.val (.int xn), .val (.int xm), .val (.int xc), .val (.int xd), .val (.int xf), .val (.int xs), .val (.int l1), .val (.int l2), .val (.int l3), .val (.int l4), .val (.int w1), .val (.int w2), .val (.int n0), .val (.int n1), .val (.int m0), .val (.int m1), .val (.int c0), .val (.int c1), .val (.int d0), .val (.int d1), .val (.ref s1), .unset, .unset, .unset, .unset, .unset, .unset, .unset]) (pc' := 208) K1 at_206 rfl rfl rfl ?_
  refine r_iload (pc' := 210) K1 at_208 rfl rfl ?_
  refine r_iload (pc' := 212) K1 at_210 rfl rfl ?_
  refine r_iload (pc' := 214) K1 at_212 rfl rfl ?_
  refine w_static (pc' := 217) (argsL := [.int l2, .int m0, .int m1]) (rest := []) (W := 0) K1 I1 hEL (c_txt l hw K1.ext hEL Cs hcs hm0 hm1) (hw _ (List.mem_of_getElem? (i := 0) rfl)) (hw _ (List.mem_of_getElem? (i := 1) rfl)) (hw _ (List.mem_of_getElem? (i := 2) rfl)) (hw _ (List.mem_of_getElem? (i := 3) rfl)) (by decide) pdTX rfl rfl rfl (Nat.le_refl _) (by decide) (by decide) (by decide) (by decide) at_214 rfl ?_
  rintro _ T2 h2 vm2 K2 I2 C2 ⟨s2, rfl, E2, S2⟩
  refine r_astore (Ls' := #[.val (.int xn), .val (.int xm), .val (.int xc), .val (.int xd), .val (.int xf), .val (.int xs), .val (.int l1), .val (.int l2), .val (.int l3), .val (.int l4), .val (.int w1), .val (.int w2), .val (.int n0), .val (.int n1), .val (.int m0), .val (.int m1), .val (.int c0), .val (.int c1), .val (.int d0), .val (.int d1), .val (.ref s1), .val (.ref s2), .unset, .unset, .unset, .unset, .unset, .unset]) (pc' := 219) K2 at_217 rfl rfl rfl ?_
  refine r_iload (pc' := 221) K2 at_219 rfl rfl ?_
  refine r_iload (pc' := 223) K2 at_221 rfl rfl ?_
  refine r_iload (pc' := 225) K2 at_223 rfl rfl ?_
  refine w_static (pc' := 228) (argsL := [.int l3, .int c0, .int c1]) (rest := []) (W := 0) K2 I2 hEL (c_txt l hw K2.ext hEL Cs hcs hc0 hc1) (hw _ (List.mem_of_getElem? (i := 0) rfl)) (hw _ (List.mem_of_getElem? (i := 1) rfl)) (hw _ (List.mem_of_getElem? (i := 2) rfl)) (hw _ (List.mem_of_getElem? (i := 3) rfl)) (by decide) pdTX rfl rfl rfl (Nat.le_refl _) (by decide) (by decide) (by decide) (by decide) at_225 rfl ?_
  rintro _ T3 h3 vm3 K3 I3 C3 ⟨s3, rfl, E3, S3⟩
  refine r_astore (Ls' := #[.val (.int xn), .val (.int xm), .val (.int xc), .val (.int xd), .val (.int xf), .val (.int xs), .val (.int l1), .val (.int l2), .val (.int l3), .val (.int l4), .val (.int w1), .val (.int w2), .val (.int n0), .val (.int n1), .val (.int m0), .val (.int m1), .val (.int c0), .val (.int c1), .val (.int d0), .val (.int d1), .val (.ref s1), .val (.ref s2), .val (.ref s3), .unset, .unset, .unset, .unset, .unset]) (pc' := 230) K3 at_228 rfl rfl rfl ?_
  refine r_iload (pc' := 232) K3 at_230 rfl rfl ?_
  refine r_iload (pc' := 234) K3 at_232 rfl rfl ?_
  refine r_iload (pc' := 236) K3 at_234 rfl rfl ?_
  refine w_static (pc' := 239) (argsL := [.int l4, .int d0, .int d1]) (rest := []) (W := 0) K3 I3 hEL (c_txt l hw K3.ext hEL Cs hcs hd0 hd1) (hw _ (List.mem_of_getElem? (i := 0) rfl)) (hw _ (List.mem_of_getElem? (i := 1) rfl)) (hw _ (List.mem_of_getElem? (i := 2) rfl)) (hw _ (List.mem_of_getElem? (i := 3) rfl)) (by decide) pdTX rfl rfl rfl (Nat.le_refl _) (by decide) (by decide) (by decide) (by decide) at_236 rfl ?_
  rintro _ T4 h4 vm4 K4 I4 C4 ⟨s4, rfl, E4, S4⟩
  refine r_astore (Ls' := #[.val (.int xn), .val (.int xm), .val (.int xc), .val (.int xd), .val (.int xf), .val (.int xs), .val (.int l1), .val (.int l2), .val (.int l3), .val (.int l4), .val (.int w1), .val (.int w2), .val (.int n0), .val (.int n1), .val (.int m0), .val (.int m1), .val (.int c0), .val (.int c1), .val (.int d0), .val (.int d1), .val (.ref s1), .val (.ref s2), .val (.ref s3), .val (.ref s4), .unset, .unset, .unset, .unset]) (pc' := 241) K4 at_239 rfl rfl rfl ?_
  exact hk _ _ _ _ T4 h4 vm4 K4 I4 ((((S1.ext E2).ext E3).ext E4)) ((S2.ext E3).ext E4) (S3.ext E4) S4
theorem own_bool {z : Int32} (h : z = 0 ∨ z = 1) : narrow .boolean (.int z) = .int z ∧ fits .boolean (.int z) = true := by
  rcases h with rfl | rfl <;> exact ⟨rfl, rfl⟩
set_option maxRecDepth 65536 in
set_option maxHeartbeats 4000000 in
theorem sg336 (hw : ∀ d ∈ tables_1, d.before a0 Z = true) (K : St Z "com/example/allot/allot/CheckConstraintEqualsPinLaw" code 28 p l e room_1 (s.setVm vm0) m args below meth c T h 26 54) (hk : ∀ ex T', St Z "com/example/allot/allot/CheckConstraintEqualsPinLaw" code 28 p l e room_1 (s.setVm vm0) m args below meth c T' h 26 54 → (ex = 1 ∧ (Sm l1 n0 n1 l2 m0 m1 ∧ Sm l3 c0 c1 l4 d0 d1 ∧ w1 = w2) ∨ ex = 0 ∧ ¬ (Sm l1 n0 n1 l2 m0 m1 ∧ Sm l3 c0 c1 l4 d0 d1 ∧ w1 = w2)) → Run p e below P T' (mkF m 386 #[.val (.int xn), .val (.int xm), .val (.int xc), .val (.int xd), .val (.int xf), .val (.int xs), .val (.int l1), .val (.int l2), .val (.int l3), .val (.int l4), .val (.int w1), .val (.int w2), .val (.int n0), .val (.int n1), .val (.int m0), .val (.int m1), .val (.int c0), .val (.int c1), .val (.int d0), .val (.int d1), .val (.ref s1), .val (.ref s2), .val (.ref s3), .val (.ref s4), .val (.ref oa), .val (.int kd), .val (.ref ob), .val (.int ex)] [])) : Run p e below P T (mkF m 336 #[.val (.int xn), .val (.int xm), .val (.int xc), .val (.int xd), .val (.int xf), .val (.int xs), .val (.int l1), .val (.int l2), .val (.int l3), .val (.int l4), .val (.int w1), .val (.int w2), .val (.int n0), .val (.int n1), .val (.int m0), .val (.int m1), .val (.int c0), .val (.int c1), .val (.int d0), .val (.int d1), .val (.ref s1), .val (.ref s2), .val (.ref s3), .val (.ref s4), .val (.ref oa), .val (.int kd), .val (.ref ob), .unset] []) := by
  refine r_iload (pc' := 338) K at_336 rfl rfl ?_
  refine r_iload (pc' := 340) K at_338 rfl rfl ?_
  refine r_iload (pc' := 342) K at_340 rfl rfl ?_
  refine r_iload (pc' := 344) K at_342 rfl rfl ?_
  refine r_iload (pc' := 346) K at_344 rfl rfl ?_
  refine r_iload (pc' := 348) K at_346 rfl rfl ?_
  refine r_static (pc' := 351) (argsL := [.int l1, .int n0, .int n1, .int l2, .int m0, .int m1]) (rest := []) (W := 0) K (c_same l hw K.ext) (hw _ (List.mem_of_getElem? (i := 39) rfl)) (hw _ (List.mem_of_getElem? (i := 40) rfl)) (hw _ (List.mem_of_getElem? (i := 2) rfl)) (hw _ (List.mem_of_getElem? (i := 41) rfl)) (by decide) pdSM rfl rfl rfl (Nat.le_refl _) (by decide) (by decide) (by decide) (by decide) at_348 rfl ?_
  rintro _ T1 _ K1 ⟨rfl, ⟨rfl, q1⟩ | ⟨rfl, q1⟩⟩
  rotate_left
  · skip
    refine r_if (pc1 := 354) (pc2 := 383) K1 at_351 rfl (by decide) (by decide) ?_ ?_
    · intro (e1 : (0 : Int32) = (0 : Int32))
      refine r_iconst (v := (0 : Int32)) (pc' := 384) K1 at_383 rfl (by decide) ?_
      refine r_istore (Ls' := #[.val (.int xn), .val (.int xm), .val (.int xc), .val (.int xd), .val (.int xf), .val (.int xs), .val (.int l1), .val (.int l2), .val (.int l3), .val (.int l4), .val (.int w1), .val (.int w2), .val (.int n0), .val (.int n1), .val (.int m0), .val (.int m1), .val (.int c0), .val (.int c1), .val (.int d0), .val (.int d1), .val (.ref s1), .val (.ref s2), .val (.ref s3), .val (.ref s4), .val (.ref oa), .val (.int kd), .val (.ref ob), .val (.int (0 : Int32))]) (pc' := 386) K1 at_384 rfl rfl ?_
      exact hk _ T1 K1 (Or.inr ⟨rfl, fun q => q1 q.1⟩)
    · intro (e1 : ¬ (0 : Int32) = (0 : Int32))
      exact absurd rfl e1
  refine r_if (pc1 := 354) (pc2 := 383) K1 at_351 rfl (by decide) (by decide) ?_ ?_
  · intro (e1 : (1 : Int32) = (0 : Int32))
    exact absurd e1 (by decide)
  · intro (e1 : ¬ (1 : Int32) = (0 : Int32))
    refine r_iload (pc' := 356) K1 at_354 rfl rfl ?_
    refine r_iload (pc' := 358) K1 at_356 rfl rfl ?_
    refine r_iload (pc' := 360) K1 at_358 rfl rfl ?_
    refine r_iload (pc' := 362) K1 at_360 rfl rfl ?_
    refine r_iload (pc' := 364) K1 at_362 rfl rfl ?_
    refine r_iload (pc' := 366) K1 at_364 rfl rfl ?_
    refine r_static (pc' := 369) (argsL := [.int l3, .int c0, .int c1, .int l4, .int d0, .int d1]) (rest := []) (W := 0) K1 (c_same l hw K.ext) (hw _ (List.mem_of_getElem? (i := 39) rfl)) (hw _ (List.mem_of_getElem? (i := 40) rfl)) (hw _ (List.mem_of_getElem? (i := 2) rfl)) (hw _ (List.mem_of_getElem? (i := 41) rfl)) (by decide) pdSM rfl rfl rfl (Nat.le_refl _) (by decide) (by decide) (by decide) (by decide) at_366 rfl ?_
    rintro _ T2 _ K2 ⟨rfl, ⟨rfl, q2⟩ | ⟨rfl, q2⟩⟩
    rotate_left
    · skip
      refine r_if (pc1 := 372) (pc2 := 383) K2 at_369 rfl (by decide) (by decide) ?_ ?_
      · intro (e2 : (0 : Int32) = (0 : Int32))
        refine r_iconst (v := (0 : Int32)) (pc' := 384) K2 at_383 rfl (by decide) ?_
        refine r_istore (Ls' := #[.val (.int xn), .val (.int xm), .val (.int xc), .val (.int xd), .val (.int xf), .val (.int xs), .val (.int l1), .val (.int l2), .val (.int l3), .val (.int l4), .val (.int w1), .val (.int w2), .val (.int n0), .val (.int n1), .val (.int m0), .val (.int m1), .val (.int c0), .val (.int c1), .val (.int d0), .val (.int d1), .val (.ref s1), .val (.ref s2), .val (.ref s3), .val (.ref s4), .val (.ref oa), .val (.int kd), .val (.ref ob), .val (.int (0 : Int32))]) (pc' := 386) K2 at_384 rfl rfl ?_
        exact hk _ T2 K2 (Or.inr ⟨rfl, fun q => q2 q.2.1⟩)
      · intro (e2 : ¬ (0 : Int32) = (0 : Int32))
        exact absurd rfl e2
    refine r_if (pc1 := 372) (pc2 := 383) K2 at_369 rfl (by decide) (by decide) ?_ ?_
    · intro (e2 : (1 : Int32) = (0 : Int32))
      exact absurd e2 (by decide)
    · intro (e2 : ¬ (1 : Int32) = (0 : Int32))
      refine r_iload (pc' := 374) K2 at_372 rfl rfl ?_
      refine r_iload (pc' := 376) K2 at_374 rfl rfl ?_
      refine r_icmp (pc1 := 379) (pc2 := 383) K2 at_376 rfl (by decide) (by decide) ?_ ?_
      · intro (e3 : ¬ w1 = w2)
        refine r_iconst (v := (0 : Int32)) (pc' := 384) K2 at_383 rfl (by decide) ?_
        refine r_istore (Ls' := #[.val (.int xn), .val (.int xm), .val (.int xc), .val (.int xd), .val (.int xf), .val (.int xs), .val (.int l1), .val (.int l2), .val (.int l3), .val (.int l4), .val (.int w1), .val (.int w2), .val (.int n0), .val (.int n1), .val (.int m0), .val (.int m1), .val (.int c0), .val (.int c1), .val (.int d0), .val (.int d1), .val (.ref s1), .val (.ref s2), .val (.ref s3), .val (.ref s4), .val (.ref oa), .val (.int kd), .val (.ref ob), .val (.int (0 : Int32))]) (pc' := 386) K2 at_384 rfl rfl ?_
        exact hk _ T2 K2 (Or.inr ⟨rfl, fun q => e3 q.2.2⟩)
      · intro (e3 : w1 = w2)
        refine r_iconst (v := (1 : Int32)) (pc' := 380) K2 at_379 rfl (by decide) ?_
        refine r_goto (pc' := 384) K2 at_380 (by decide) (by decide) ?_
        refine r_istore (Ls' := #[.val (.int xn), .val (.int xm), .val (.int xc), .val (.int xd), .val (.int xf), .val (.int xs), .val (.int l1), .val (.int l2), .val (.int l3), .val (.int l4), .val (.int w1), .val (.int w2), .val (.int n0), .val (.int n1), .val (.int m0), .val (.int m1), .val (.int c0), .val (.int c1), .val (.int d0), .val (.int d1), .val (.ref s1), .val (.ref s2), .val (.ref s3), .val (.ref s4), .val (.ref oa), .val (.int kd), .val (.ref ob), .val (.int (1 : Int32))]) (pc' := 386) K2 at_384 rfl rfl ?_
        exact hk _ T2 K2 (Or.inl ⟨rfl, q1, q2, e3⟩)
theorem own_exp1 {A B C A' B' : Prop} {ex : Int32} {v : Option Value} (t1 : A ↔ A') (t2 : B ↔ B') (hex : ex = 1 ∧ (A' ∧ B' ∧ C) ∨ ex = 0 ∧ ¬ (A' ∧ B' ∧ C)) (r : v = some (.int 1) ∧ (A ∧ B ∧ C) ∨ v = some (.int 0) ∧ ¬ (A ∧ B ∧ C)) : v = some (.int ex) := by
  rw [← t1, ← t2] at hex
  rcases hex with ⟨rfl, q⟩ | ⟨rfl, q⟩ <;> rcases r with ⟨rfl, w⟩ | ⟨rfl, w⟩
  · rfl
  · exact absurd q w
  · exact absurd w q
  · rfl
theorem own_flip {us1 us2 cs1 cs2 : List Int32} {w1 w2 : Int32} {v : Option Value} (r : v = some (.int 1) ∧ (us2 = us1 ∧ cs2 = cs1 ∧ w2 = w1) ∨ v = some (.int 0) ∧ ¬ (us2 = us1 ∧ cs2 = cs1 ∧ w2 = w1)) : v = some (.int 1) ∧ (us1 = us2 ∧ cs1 = cs2 ∧ w1 = w2) ∨ v = some (.int 0) ∧ ¬ (us1 = us2 ∧ cs1 = cs2 ∧ w1 = w2) := by
  rcases r with ⟨h, a, b, c⟩ | ⟨h, q⟩
  · exact Or.inl ⟨h, a.symm, b.symm, c.symm⟩
  · exact Or.inr ⟨h, fun w => q ⟨w.1.symm, w.2.1.symm, w.2.2.symm⟩⟩
set_option maxRecDepth 65536 in
set_option maxHeartbeats 4000000 in
theorem sg386 (hw : ∀ d ∈ tables_1, d.before a0 Z = true) (hEL : EW Z a0 [("java/lang/String", 7)]) {cs0 : Int32} (Cs : Sta Z Z.heap "java/lang/String" "COMPACT_STRINGS" "Z" (.int cs0)) (hcs : ¬ cs0 = 0) (K : St Z "com/example/allot/allot/CheckConstraintEqualsPinLaw" code 28 p l e room_1 (s.setVm vm0) m args below meth c T h 26 54) (I : Inv Z [("java/lang/String", 7)] s vm0 h) (hret : meth.sig.returnType = some .boolean) (hlk : meth.locks = false) (hn0 : Chr n0) (hn1 : Chr n1) (hm0 : Chr m0) (hm1 : Chr m1) (hc0 : Chr c0) (hc1 : Chr c1) (hd0 : Chr d0) (hd1 : Chr d1) (hl1 : Ln l1) (hl2 : Ln l2) (hl3 : Ln l3) (hl4 : Ln l4) (Fa : CCo Z h oa (TX l1 n0 n1) (TX l3 c0 c1) w1) (Fb : CCo Z h ob (TX l2 m0 m1) (TX l4 d0 d1) w2) (hex : ex = 1 ∧ (Sm l1 n0 n1 l2 m0 m1 ∧ Sm l3 c0 c1 l4 d0 d1 ∧ w1 = w2) ∨ ex = 0 ∧ ¬ (Sm l1 n0 n1 l2 m0 m1 ∧ Sm l3 c0 c1 l4 d0 d1 ∧ w1 = w2)) : Run p e below (FinW Z [("java/lang/String", 7)] s below 40 1216 (fun v h' => v = some (.int 1))) T (mkF m 386 #[.val (.int xn), .val (.int xm), .val (.int xc), .val (.int xd), .val (.int xf), .val (.int xs), .val (.int l1), .val (.int l2), .val (.int l3), .val (.int l4), .val (.int w1), .val (.int w2), .val (.int n0), .val (.int n1), .val (.int m0), .val (.int m1), .val (.int c0), .val (.int c1), .val (.int d0), .val (.int d1), .val (.ref s1), .val (.ref s2), .val (.ref s3), .val (.ref s4), .val (.ref oa), .val (.int kd), .val (.ref ob), .val (.int ex)] []) := by
  refine r_aload (pc' := 388) K at_386 rfl rfl rfl ?_
  refine r_aload (pc' := 390) K at_388 rfl rfl rfl ?_
  have t1 := own_txt hl1 hl2 hn0 hn1 hm0 hm1
  have t2 := own_txt hl3 hl4 hc0 hc1 hd0 hd1
  refine r_virtual (pc' := 393) (argsL := [.ref ob]) (rest := []) (W := 0) K (c_ceq l hw K.ext Cs hcs (TX.len _ _ _) (TX.len _ _ _) (TX.len _ _ _) (TX.len _ _ _) Fa Fb) Fa.exa (hw _ (List.mem_of_getElem? (i := 42) rfl)) (hw _ (List.mem_of_getElem? (i := 43) rfl)) (hw _ (List.mem_of_getElem? (i := 45) rfl)) (hw _ (List.mem_of_getElem? (i := 44) rfl)) (hw _ (List.mem_of_getElem? (i := 28) rfl)) (hw _ (List.mem_of_getElem? (i := 46) rfl)) (by decide) pdOZ rfl rfl rfl (Nat.le_refl _) (by decide) (by decide) (by decide) (by decide) at_390 rfl ?_
  rintro v1 T1 _ K1 ⟨rfl, r1⟩
  obtain rfl : v1 = some (.int ex) := own_exp1 t1 t2 hex r1
  refine r_iload (pc' := 395) K1 at_393 rfl rfl ?_
  refine r_icmp (pc1 := 398) (pc2 := 414) K1 at_395 rfl (by decide) (by decide) ?_ ?_
  · intro (g1 : ¬ ex = ex)
    exact absurd rfl g1
  · intro (g1 : ex = ex)
    refine r_aload (pc' := 400) K1 at_398 rfl rfl rfl ?_
    refine r_aload (pc' := 402) K1 at_400 rfl rfl rfl ?_
    refine r_virtual (pc' := 405) (argsL := [.ref oa]) (rest := []) (W := 0) K1 (c_ceq l hw K.ext Cs hcs (TX.len _ _ _) (TX.len _ _ _) (TX.len _ _ _) (TX.len _ _ _) Fb Fa) Fb.exa (hw _ (List.mem_of_getElem? (i := 42) rfl)) (hw _ (List.mem_of_getElem? (i := 43) rfl)) (hw _ (List.mem_of_getElem? (i := 45) rfl)) (hw _ (List.mem_of_getElem? (i := 44) rfl)) (hw _ (List.mem_of_getElem? (i := 28) rfl)) (hw _ (List.mem_of_getElem? (i := 46) rfl)) (by decide) pdOZ rfl rfl rfl (Nat.le_refl _) (by decide) (by decide) (by decide) (by decide) at_402 rfl ?_
    rintro v2 T2 _ K2 ⟨rfl, r2⟩
    obtain rfl : v2 = some (.int ex) := own_exp1 t1 t2 hex (own_flip r2)
    refine r_iload (pc' := 407) K2 at_405 rfl rfl ?_
    refine r_icmp (pc1 := 410) (pc2 := 414) K2 at_407 rfl (by decide) (by decide) ?_ ?_
    · intro (g2 : ¬ ex = ex)
      exact absurd rfl g2
    · intro (g2 : ex = ex)
      refine r_iconst (v := (1 : Int32)) (pc' := 411) K2 at_410 rfl (by decide) ?_
      refine r_goto (pc' := 415) K2 at_411 (by decide) (by decide) ?_
      exact w_retZ K2 I hEL hret hlk (by decide) at_415 (by decide) (by decide) rfl
set_option maxRecDepth 65536 in
set_option maxHeartbeats 4000000 in
theorem sg241 (hw : ∀ d ∈ tables_1, d.before a0 Z = true) (hEL : EW Z a0 [("java/lang/String", 7)]) {cs0 : Int32} (Cs : Sta Z Z.heap "java/lang/String" "COMPACT_STRINGS" "Z" (.int cs0)) (hcs : ¬ cs0 = 0) (K : St Z "com/example/allot/allot/CheckConstraintEqualsPinLaw" code 28 p l e room_1 (s.setVm vm0) m args below meth c T h 24 48) (I : Inv Z [("java/lang/String", 7)] s vm0 h) (hret : meth.sig.returnType = some .boolean) (hlk : meth.locks = false) (hn0 : Chr n0) (hn1 : Chr n1) (hm0 : Chr m0) (hm1 : Chr m1) (hc0 : Chr c0) (hc1 : Chr c1) (hd0 : Chr d0) (hd1 : Chr d1) (hl1 : Ln l1) (hl2 : Ln l2) (hl3 : Ln l3) (hl4 : Ln l4) (hw1 : w1 = 0 ∨ w1 = 1) (hw2 : w2 = 0 ∨ w2 = 1) (S1 : StrL Z h s1 (TX l1 n0 n1)) (S2 : StrL Z h s2 (TX l2 m0 m1)) (S3 : StrL Z h s3 (TX l3 c0 c1)) (S4 : StrL Z h s4 (TX l4 d0 d1)) : Run p e below (FinW Z [("java/lang/String", 7)] s below 40 1216 (fun v h' => v = some (.int 1))) T (mkF m 241 #[.val (.int xn), .val (.int xm), .val (.int xc), .val (.int xd), .val (.int xf), .val (.int xs), .val (.int l1), .val (.int l2), .val (.int l3), .val (.int l4), .val (.int w1), .val (.int w2), .val (.int n0), .val (.int n1), .val (.int m0), .val (.int m1), .val (.int c0), .val (.int c1), .val (.int d0), .val (.int d1), .val (.ref s1), .val (.ref s2), .val (.ref s3), .val (.ref s4), .unset, .unset, .unset, .unset] []) := by
  refine r_new (pc' := 244) K (hw _ (List.mem_of_getElem? (i := 26) rfl)) (hw _ (List.mem_of_getElem? (i := 27) rfl)) (hw _ (List.mem_of_getElem? (i := 28) rfl)) at_241 rfl (by decide) (by decide) ?_
  intro Ta1 ha1 oa hoa Ka1 Ea1 Oa1 Da1
  refine r_dup (pc' := 245) Ka1 at_244 rfl rfl ?_
  refine r_aload (pc' := 247) Ka1 at_245 rfl rfl rfl ?_
  refine r_aload (pc' := 249) Ka1 at_247 rfl rfl rfl ?_
  refine r_iload (pc' := 251) Ka1 at_249 rfl rfl ?_
  refine r_special (pc' := 254) (argsL := [.ref s1, .ref s3, .int w1]) (rest := [.ref oa]) (W := 1) Ka1 (c_cc l hw Ka1.ext (own_bool hw1).1 (own_bool hw1).2 (by rw [hoa]; exact K.sz) Oa1 (Da1 (Or.inr (hw _ (List.mem_of_getElem? (i := 34) rfl))) (ty := .object "java/lang/String") (by decide)) (Da1 (Or.inr (hw _ (List.mem_of_getElem? (i := 36) rfl))) (ty := .object "java/lang/String") (by decide)) (Da1 (Or.inr (hw _ (List.mem_of_getElem? (i := 38) rfl))) (ty := .boolean) (by decide))) rfl (hw _ (List.mem_of_getElem? (i := 29) rfl)) (hw _ (List.mem_of_getElem? (i := 30) rfl)) (hw _ (List.mem_of_getElem? (i := 28) rfl)) (hw _ (List.mem_of_getElem? (i := 31) rfl)) (by decide) pdCC rfl rfl rfl (Nat.le_refl _) (by decide) (by decide) (by decide) (by decide) at_251 rfl ?_
  rintro _ Ta2 ha2 Ka2 ⟨rfl, Kpa, Oa2, FNa, FCa, FZa⟩
  have Xa := ext_keep Ea1 Kpa (allS (Nat.le_of_eq hoa.symm) all0)
  have Ja := (I.ext Ea1).keep Kpa (sfS (I.fresh Ea1 (Nat.le_of_eq hoa.symm)) sf0)
  have Fa : CCo Z ha2 oa (TX l1 n0 n1) (TX l3 c0 c1) w1 := ⟨s1, s3, Oa2, FNa, S1.ext Xa, FCa, S3.ext Xa, FZa⟩
  refine r_astore (Ls' := #[.val (.int xn), .val (.int xm), .val (.int xc), .val (.int xd), .val (.int xf), .val (.int xs), .val (.int l1), .val (.int l2), .val (.int l3), .val (.int l4), .val (.int w1), .val (.int w2), .val (.int n0), .val (.int n1), .val (.int m0), .val (.int m1), .val (.int c0), .val (.int c1), .val (.int d0), .val (.int d1), .val (.ref s1), .val (.ref s2), .val (.ref s3), .val (.ref s4), .val (.ref oa), .unset, .unset, .unset]) (pc' := 256) Ka2 at_254 rfl rfl rfl ?_
  refine r_iload (pc' := 258) Ka2 at_256 rfl rfl ?_
  refine r_iconst (v := (2 : Int32)) (pc' := 259) Ka2 at_258 rfl (by decide) ?_
  refine r_iushr (pc' := 260) Ka2 at_259 rfl ?_
  refine r_iconst (v := (3 : Int32)) (pc' := 261) Ka2 at_260 rfl (by decide) ?_
  refine r_iand (pc' := 262) Ka2 at_261 rfl ?_
  generalize ((xs.toUInt32 >>> ((2 : Int32) &&& 31).toUInt32).toInt32 &&& (3 : Int32)) = kd
  refine r_istore (Ls' := #[.val (.int xn), .val (.int xm), .val (.int xc), .val (.int xd), .val (.int xf), .val (.int xs), .val (.int l1), .val (.int l2), .val (.int l3), .val (.int l4), .val (.int w1), .val (.int w2), .val (.int n0), .val (.int n1), .val (.int m0), .val (.int m1), .val (.int c0), .val (.int c1), .val (.int d0), .val (.int d1), .val (.ref s1), .val (.ref s2), .val (.ref s3), .val (.ref s4), .val (.ref oa), .val (.int kd), .unset, .unset]) (pc' := 264) Ka2 at_262 rfl rfl ?_
  refine r_iload (pc' := 266) Ka2 at_264 rfl rfl ?_
  refine r_iconst (v := (1 : Int32)) (pc' := 267) Ka2 at_266 rfl (by decide) ?_
  refine r_icmp (pc1 := 270) (pc2 := 285) Ka2 at_267 rfl (by decide) (by decide) ?_ ?_
  · intro (e1 : ¬ kd = (1 : Int32))
    refine r_iload (pc' := 287) Ka2 at_285 rfl rfl ?_
    refine r_iconst (v := (2 : Int32)) (pc' := 288) Ka2 at_287 rfl (by decide) ?_
    refine r_icmp (pc1 := 291) (pc2 := 307) Ka2 at_288 rfl (by decide) (by decide) ?_ ?_
    · intro (e2 : ¬ kd = (2 : Int32))
      refine r_iload (pc' := 309) Ka2 at_307 rfl rfl ?_
      refine r_iconst (v := (3 : Int32)) (pc' := 310) Ka2 at_309 rfl (by decide) ?_
      refine r_icmp (pc1 := 313) (pc2 := 321) Ka2 at_310 rfl (by decide) (by decide) ?_ ?_
      · intro (e3 : ¬ kd = (3 : Int32))
        refine r_new (pc' := 324) Ka2 (hw _ (List.mem_of_getElem? (i := 26) rfl)) (hw _ (List.mem_of_getElem? (i := 27) rfl)) (hw _ (List.mem_of_getElem? (i := 28) rfl)) at_321 rfl (by decide) (by decide) ?_
        intro Tb1 hb1 ob hob Kb1 Eb1 Ob1 Db1
        refine r_dup (pc' := 325) Kb1 at_324 rfl rfl ?_
        refine r_aload (pc' := 327) Kb1 at_325 rfl rfl rfl ?_
        refine r_aload (pc' := 329) Kb1 at_327 rfl rfl rfl ?_
        refine r_iload (pc' := 331) Kb1 at_329 rfl rfl ?_
        refine r_special (pc' := 334) (argsL := [.ref s2, .ref s4, .int w2]) (rest := [.ref ob]) (W := 1) Kb1 (c_cc l hw Kb1.ext (own_bool hw2).1 (own_bool hw2).2 (by rw [hob]; exact Ka2.sz) Ob1 (Db1 (Or.inr (hw _ (List.mem_of_getElem? (i := 34) rfl))) (ty := .object "java/lang/String") (by decide)) (Db1 (Or.inr (hw _ (List.mem_of_getElem? (i := 36) rfl))) (ty := .object "java/lang/String") (by decide)) (Db1 (Or.inr (hw _ (List.mem_of_getElem? (i := 38) rfl))) (ty := .boolean) (by decide))) rfl (hw _ (List.mem_of_getElem? (i := 29) rfl)) (hw _ (List.mem_of_getElem? (i := 30) rfl)) (hw _ (List.mem_of_getElem? (i := 28) rfl)) (hw _ (List.mem_of_getElem? (i := 31) rfl)) (by decide) pdCC rfl rfl rfl (Nat.le_refl _) (by decide) (by decide) (by decide) (by decide) at_331 rfl ?_
        rintro _ Tb2 hb2 Kb2 ⟨rfl, Kpb, Ob2, FNb, FCb, FZb⟩
        have Xb := ext_keep Eb1 Kpb (allS (Nat.le_of_eq hob.symm) all0)
        have Jb := (Ja.ext Eb1).keep Kpb (sfS (Ja.fresh Eb1 (Nat.le_of_eq hob.symm)) sf0)
        have Fb : CCo Z hb2 ob (TX l2 m0 m1) (TX l4 d0 d1) w2 := ⟨s2, s4, Ob2, FNb, (S2.ext Xa).ext Xb, FCb, (S4.ext Xa).ext Xb, FZb⟩
        refine r_astore (Ls' := #[.val (.int xn), .val (.int xm), .val (.int xc), .val (.int xd), .val (.int xf), .val (.int xs), .val (.int l1), .val (.int l2), .val (.int l3), .val (.int l4), .val (.int w1), .val (.int w2), .val (.int n0), .val (.int n1), .val (.int m0), .val (.int m1), .val (.int c0), .val (.int c1), .val (.int d0), .val (.int d1), .val (.ref s1), .val (.ref s2), .val (.ref s3), .val (.ref s4), .val (.ref oa), .val (.int kd), .val (.ref ob), .unset]) (pc' := 336) Kb2 at_334 rfl rfl rfl ?_
        refine sg336 hw Kb2 ?_
        intro ex T6 K6 hex
        exact sg386 hw hEL Cs hcs K6 Jb hret hlk hn0 hn1 hm0 hm1 hc0 hc1 hd0 hd1 hl1 hl2 hl3 hl4 (Fa.ext Xb) Fb hex
      · intro (e3 : kd = (3 : Int32))
        refine r_aload (pc' := 315) Ka2 at_313 rfl rfl rfl ?_
        refine r_aload (pc' := 317) Ka2 at_315 rfl rfl rfl ?_
        refine r_virtual (pc' := 320) (argsL := [.ref oa]) (rest := []) (W := 0) Ka2 (c_ceq l hw Ka2.ext Cs hcs (TX.len _ _ _) (TX.len _ _ _) (TX.len _ _ _) (TX.len _ _ _) Fa Fa) Oa2 (hw _ (List.mem_of_getElem? (i := 42) rfl)) (hw _ (List.mem_of_getElem? (i := 43) rfl)) (hw _ (List.mem_of_getElem? (i := 45) rfl)) (hw _ (List.mem_of_getElem? (i := 44) rfl)) (hw _ (List.mem_of_getElem? (i := 28) rfl)) (hw _ (List.mem_of_getElem? (i := 46) rfl)) (by decide) pdOZ rfl rfl rfl (Nat.le_refl _) (by decide) (by decide) (by decide) (by decide) at_317 rfl ?_
        rintro _ T5 _ K5 ⟨rfl, ⟨rfl, q⟩ | ⟨rfl, q⟩⟩
        · exact w_retZ K5 Ja hEL hret hlk (by decide) at_320 (by decide) (by decide) rfl
        · exact absurd ⟨rfl, rfl, rfl⟩ q
    · intro (e2 : kd = (2 : Int32))
      refine r_aload (pc' := 293) Ka2 at_291 rfl rfl rfl ?_
      refine r_aload (pc' := 295) Ka2 at_293 rfl rfl rfl ?_
      refine r_virtual (pc' := 298) (argsL := [.ref s2]) (rest := []) (W := 0) Ka2 (c_ceS l hw Ka2.ext (S2.ext Xa).exa) Oa2 (hw _ (List.mem_of_getElem? (i := 42) rfl)) (hw _ (List.mem_of_getElem? (i := 43) rfl)) (hw _ (List.mem_of_getElem? (i := 45) rfl)) (hw _ (List.mem_of_getElem? (i := 44) rfl)) (hw _ (List.mem_of_getElem? (i := 28) rfl)) (hw _ (List.mem_of_getElem? (i := 46) rfl)) (by decide) pdOZ rfl rfl rfl (Nat.le_refl _) (by decide) (by decide) (by decide) (by decide) at_295 rfl ?_
      rintro _ T5 _ K5 ⟨rfl, rfl⟩
      refine r_if (pc1 := 301) (pc2 := 305) K5 at_298 rfl (by decide) (by decide) ?_ ?_
      · intro (g1 : ¬ (0 : Int32) = (0 : Int32))
        exact absurd rfl g1
      · intro (g1 : (0 : Int32) = (0 : Int32))
        refine r_iconst (v := (1 : Int32)) (pc' := 302) K5 at_301 rfl (by decide) ?_
        refine r_goto (pc' := 306) K5 at_302 (by decide) (by decide) ?_
        exact w_retZ K5 Ja hEL hret hlk (by decide) at_306 (by decide) (by decide) rfl
  · intro (e1 : kd = (1 : Int32))
    refine r_aload (pc' := 272) Ka2 at_270 rfl rfl rfl ?_
    refine r_aconstNull (pc' := 273) Ka2 at_272 rfl ?_
    refine r_virtual (pc' := 276) (argsL := [.null]) (rest := []) (W := 0) Ka2 (c_ceN l hw Ka2.ext) Oa2 (hw _ (List.mem_of_getElem? (i := 42) rfl)) (hw _ (List.mem_of_getElem? (i := 43) rfl)) (hw _ (List.mem_of_getElem? (i := 45) rfl)) (hw _ (List.mem_of_getElem? (i := 44) rfl)) (hw _ (List.mem_of_getElem? (i := 28) rfl)) (hw _ (List.mem_of_getElem? (i := 46) rfl)) (by decide) pdOZ rfl rfl rfl (Nat.le_refl _) (by decide) (by decide) (by decide) (by decide) at_273 rfl ?_
    rintro _ T5 _ K5 ⟨rfl, rfl⟩
    refine r_if (pc1 := 279) (pc2 := 283) K5 at_276 rfl (by decide) (by decide) ?_ ?_
    · intro (g1 : ¬ (0 : Int32) = (0 : Int32))
      exact absurd rfl g1
    · intro (g1 : (0 : Int32) = (0 : Int32))
      refine r_iconst (v := (1 : Int32)) (pc' := 280) K5 at_279 rfl (by decide) ?_
      refine r_goto (pc' := 284) K5 at_280 (by decide) (by decide) ?_
      exact w_retZ K5 Ja hEL hret hlk (by decide) at_284 (by decide) (by decide) rfl
set_option maxRecDepth 65536 in
set_option maxHeartbeats 4000000 in
theorem con0 (l : Launch) {Z : State} {a0 : Array Value} (hw : ∀ d ∈ tables_1, d.before a0 Z = true) {h : Heap} (hE : Ext Z.heap h) (hEL : EW Z a0 [("java/lang/String", 7)]) {cs0 : Int32} (Cs : Sta Z Z.heap "java/lang/String" "COMPACT_STRINGS" "Z" (.int cs0)) (hcs : ¬ cs0 = 0) {xn xm xc xd xf xs : Int32} :
    ConW l x code maxLocals ret tables_1 room_1 Z [("java/lang/String", 7)] #[.int xn, .int xm, .int xc, .int xd, .int xf, .int xs] h (fun v h' => v = some (.int 1)) := by
  refine con_introW (by first | exact plainFor_of_name pnLaw | decide +kernel) hE ?_
  intro p e s m below meth c T K I0 hret hlk hnm
  have K : St Z "com/example/allot/allot/CheckConstraintEqualsPinLaw" code 28 p l e room_1 (s.setVm s.vm) m #[.int xn, .int xm, .int xc, .int xd, .int xf, .int xs] below meth c T h 0 0 := K
  have ef : entryFrame m #[.int xn, .int xm, .int xc, .int xd, .int xf, .int xs] maxLocals = (mkF m 0 #[.val (.int xn), .val (.int xm), .val (.int xc), .val (.int xd), .val (.int xf), .val (.int xs), .unset, .unset, .unset, .unset, .unset, .unset, .unset, .unset, .unset, .unset, .unset, .unset, .unset, .unset, .unset, .unset, .unset, .unset, .unset, .unset, .unset, .unset] []) := by first | (simp [entryFrame, mkF, argsToLocals, Value.category, maxLocals]; done) | rfl
  rw [ef]
  refine sg0 K ?_
  intro l1 l2 l3 l4 hl1 hl2 hl3 hl4
  refine sg39 K ?_
  intro w1 hw1
  refine sg56 K ?_
  intro w2 hw2
  refine sg73 K ?_
  intro n0 n1 hn0 hn1
  refine sg92 K hn0 ?_
  intro m0 hm0
  refine sg112 K hn1 ?_
  intro m1 hm1
  refine sg135 K ?_
  intro c0 c1 hc0 hc1
  refine sg154 K hc0 ?_
  intro d0 hd0
  refine sg174 K hc1 ?_
  intro d1 hd1
  refine sg197 hw hEL Cs hcs K I0 hn0 hn1 hm0 hm1 hc0 hc1 hd0 hd1 ?_
  intro s1 s2 s3 s4 T1 h1 vm1 K1 I1 S1 S2 S3 S4
  exact sg241 hw hEL Cs hcs K1 I1 hret hlk hn0 hn1 hm0 hm1 hc0 hc1 hd0 hd1 hl1 hl2 hl3 hl4 hw1 hw2 S1 S2 S3 S4
end Own
set_option maxRecDepth 65536 in
set_option maxHeartbeats 4000000 in
theorem comes_1 {Post : Tables → Env → Array Value → State → Outcome → State → Prop} (hpost : ∀ tb e args s v u, (limb_1_1.after args s (.returned v) u = true ∧ limb_1_2.after args s (.returned v) u = true ∧ True) → FramedW s (.returned v) u (Jvm.fieldLocs frame_1_writes args s ++ Jvm.arrayLocs frame_1_arrays args s ++ Jvm.staticLocs frame_1_statics s) 40 1216 → Post tb e args s (.returned v) u) :
    ArmFor flags0 classFile x code maxLocals ret World_1 tables_1 room_1 Calls_1 rest_1 Pre_1 Post := by
  intro l hfl _ _ p e ha hc hk s m args below hf hA hF happ hP
  obtain ⟨hcalls, hrest, hpre⟩ := hP
  obtain ⟨-, -, -, hnamed, -, -, -, hat⟩ := (Spec.applies_iff hf).mp happ
  obtain ⟨hg, hn⟩ := and_e (Cond.before_iff.mp (show (Jvm.Cond.and given_1 narrow_1).before args s = true from hpre))
  obtain ⟨g0, r0⟩ := and_e hg
  obtain ⟨g1, r1⟩ := and_e r0
  obtain ⟨g2, r2⟩ := and_e r1
  obtain ⟨g3, r3⟩ := and_e r2
  obtain ⟨g4, r4⟩ := and_e r3
  obtain ⟨g5, r5⟩ := and_e r4
  have g6 := r5
  obtain ⟨w0, w1, w2, w3, w4, w5, rfl⟩ : ∃ w0 w1 w2 w3 w4 w5 : Value, args = #[w0, w1, w2, w3, w4, w5] := by
    have hs : args.size = 6 := by simpa [Cond.value, given_1] using g0
    obtain ⟨L⟩ := args
    match L, hs with
    | [w0, w1, w2, w3, w4, w5], _ => exact ⟨w0, w1, w2, w3, w4, w5, rfl⟩
  have hw := fun d (hd : d ∈ tables_1) => atoms_spec (ws := Jvm.Cond.code x code maxLocals ret :: tables_1) hat d (List.mem_cons_of_mem _ hd)
  obtain ⟨hsets, hown0⟩ := atoms_of _ (rest_1_c_eq ▸ (show rest_1_c.before _ s = true from hrest))
  obtain ⟨i0, e0⟩ := is_v g1
  obtain rfl : w0 = (.int i0) := Option.some.inj e0
  obtain ⟨i1, e1⟩ := is_v g2
  obtain rfl : w1 = (.int i1) := Option.some.inj e1
  obtain ⟨i2, e2⟩ := is_v g3
  obtain rfl : w2 = (.int i2) := Option.some.inj e2
  obtain ⟨i3, e3⟩ := is_v g4
  obtain rfl : w3 = (.int i3) := Option.some.inj e3
  obtain ⟨i4, e4⟩ := is_v g5
  obtain rfl : w4 = (.int i4) := Option.some.inj e4
  obtain ⟨i5, e5⟩ := is_v g6
  obtain rfl : w5 = (.int i5) := Option.some.inj e5
  have n5 := not_v (Cond.before_iff.mp (hsets _ (List.mem_of_getElem? (i := 2) rfl)))
  obtain ⟨i11, e10⟩ := is_v (Cond.before_iff.mp (hsets _ (List.mem_of_getElem? (i := 1) rfl)))
  have S12 : Sta s s.heap "java/lang/String" "COMPACT_STRINGS" "Z" (.int i11) := Sta.start e10 (Or.inl (hsets _ (List.mem_of_getElem? (i := 0) rfl)))
  have c17 : ¬ (i11 = (0 : Int32)) := gotF (Cond.eq_ints e10 (Term.int_eval (0))) n5
  have wl := (hw _ (List.mem_of_getElem? (i := 18) rfl))
  have hEL : EW s _ [("java/lang/String", 7)] := EW.cons wl (by simp) EW.nil
  have hC : CHv s [("java/lang/String", 7)] s.vm s.heap := CHv.start hEL (fun p hp => by rw [List.mem_singleton] at hp; subst hp; exact hcalls.1 _ (List.mem_singleton.mpr rfl)) (hsets _ (List.mem_of_getElem? (i := 2) rfl)) (hw _ (List.mem_of_getElem? (i := 19) rfl)) (hw _ (List.mem_of_getElem? (i := 5) rfl))
  obtain ⟨n, o, h1, h2, h3, _, L, rfl, ⟨rfl, N, -⟩, -, hq⟩ := con0 l (Z := s) hw (h := s.heap) ⟨Nat.le_refl _, fun _ _ q => q⟩ hEL S12 c17  p e ha hc hk s m _ below hf ((Spec.applies_iff_loose hf).mp happ).1 ⟨rfl, State.Warmed39.refl s, rfl, hC⟩ trivial
  refine ⟨n, _, h1, h2, h3, hpost _ _ _ _ _ _ ⟨Cond.after_iff.mpr rfl, Cond.after_iff.mpr (eq_i res_at (Term.int_eval (1)) rfl), trivial⟩ ⟨hq.1, hq.2.1, hq.2.2.1, (hq.2.2.2.sift fun y hy => Or.inr (N y hy)).mono (by decide) (by decide)⟩⟩
theorem main_1_1 : Claimed_1_1 := comes_1 fun _ _ _ _ _ _ h hF => ⟨h.1, hF⟩
theorem main_1_2 : Claimed_1_2 := comes_1 fun _ _ _ _ _ _ h hF => ⟨h.2.1, hF⟩
end Jvm.Pilot.@@N@@
namespace Jvm.Pilot.@@N@@
open Jvm Jvm.ClassFile Sem Op Lib Jvm.Free Jvm.Stand Jvm.Pilot.@@N@@.Jvm.D
/-! MADE BY PROGRAM (witnessworld.py) out of the Statement's table words and the real class files: 20 classes; the members and pool entries that the words name. The judged class is class 1, her method 3. -/
namespace start1
open Jvm.ClassFile
def u (s : String) : CpInfo := .utf8 (stringToUtf16 s)
/-- a pool by its gaps: so many unusable entries, then the entry; so many at the end -/
def gap : Nat → List CpInfo → List CpInfo
  | 0, r => r
  | n + 1, r => .unusable :: gap n r
def poolList (es : List (Nat × CpInfo)) (last : Nat) : List CpInfo := es.foldr (fun e r => gap e.1 (e.2 :: r)) (gap last [])
def pool (es : List (Nat × CpInfo)) (last : Nat) : Array CpInfo := ⟨poolList es last⟩
def fileOf (pool : Array CpInfo) (this : Nat) (attrs : Array Attribute := #[]) (ms : Array MethodInfo := #[]) (fl : Nat := 33) (sup : Nat := 0) (ifs : Array Nat := #[]) (fds : Array FieldInfo := #[]) : ClassFile where
  minorVersion := 0
  majorVersion := 65
  constantPool := pool
  accessFlags := fl
  thisClass := this
  superClass := sup
  interfaces := ifs
  fields := fds
  methods := ms
  attributes := attrs
def plain (name : String) (sup : Option ClassId) : Class where
  name := name
  kind := .ordinary
  loader := none
  accessFlags := 33
  super := sup
  interfaces := #[]
  cf := none
  fields := #[]
  methods := #[]
  instanceTypes := #[]
  staticTypes := #[]
  resolved := #[]
  callSites := []
  init := .initialized
  statics := none
  mirror := none

def pool0 : Array CpInfo := pool [(5, u "<init>"), (0, u "()V"), (1, .class_ 10), (1, u "java/lang/Object")] 113

def k0c0 : Code := { maxStack := 0, maxLocals := 1, code := object_method_1_code, exceptionTable := #[], attributes := #[] }
def k0m0 : Method := { name := "<init>", desc := "()V", sig := { parameters := [], returnType := none }, accessFlags := 1, code := some k0c0 }
/-- java/lang/Object -/
def k0 : Class := { plain "java/lang/Object" none with
  accessFlags := 33
  interfaces := #[]
  cf := some (fileOf pool0 8 #[] #[{ accessFlags := 1, nameIndex := 5, descriptorIndex := 6, attributes := #[] }] 33 0 #[] #[])
  fields := #[]
  methods := #[k0m0]
  instanceTypes := #[]
  staticTypes := #[]
  resolved := Array.replicate 124 none
  statics := none }

def pool1 : Array CpInfo := pool [(2, .class_ 4), (1, u "java/lang/Object"), (0, u "<init>"), (0, u "()V"), (0, .class_ 8), (0, u "java/lang/String"), (0, .methodref 7 10), (0, .nameAndType 5 11), (0, u "([C)V"), (0, .methodref 7 13), (0, .nameAndType 14 15), (0, u "valueOf"), (0, u "(C)Ljava/lang/String;"), (0, .methodref 17 18), (0, .class_ 19), (0, .nameAndType 20 21), (0, u "com/example/allot/allot/CheckConstraintEqualsPinLaw"), (0, u "text"), (0, u "(ICC)Ljava/lang/String;"), (0, .class_ 23), (0, u "com/example/allot/allot/Catalog$CheckConstraint"), (0, .methodref 22 25), (0, .nameAndType 5 26), (0, u "(Ljava/lang/String;Ljava/lang/String;Z)V"), (0, .methodref 22 28), (0, .nameAndType 29 30), (0, u "equals"), (0, u "(Ljava/lang/Object;)Z"), (0, .methodref 17 32), (0, .nameAndType 33 34), (0, u "same"), (0, u "(ICCICC)Z"), (3, u "law"), (0, u "(IIIIII)Z")] 6

def k1m0 : Method := { name := "<init>", desc := "()V", sig := { parameters := [], returnType := none }, accessFlags := 2, code := none }
def k1c1 : Code := { maxStack := 6, maxLocals := 3, code := method_2_code, exceptionTable := #[], attributes := #[] }
def k1m1 : Method := { name := "text", desc := "(ICC)Ljava/lang/String;", sig := { parameters := [.int, .char, .char], returnType := some (.object "java/lang/String") }, accessFlags := 10, code := some k1c1 }
def k1c2 : Code := { maxStack := 2, maxLocals := 6, code := method_3_code, exceptionTable := #[], attributes := #[] }
def k1m2 : Method := { name := "same", desc := "(ICCICC)Z", sig := { parameters := [.int, .char, .char, .int, .char, .char], returnType := some .boolean }, accessFlags := 10, code := some k1c2 }
def k1c3 : Code := { maxStack := 6, maxLocals := 28, code := code, exceptionTable := #[], attributes := #[] }
def k1m3 : Method := { name := "law", desc := "(IIIIII)Z", sig := { parameters := [.int, .int, .int, .int, .int, .int], returnType := some .boolean }, accessFlags := 9, code := some k1c3 }
/-- com/example/allot/allot/CheckConstraintEqualsPinLaw -/
def k1 : Class := { plain "com/example/allot/allot/CheckConstraintEqualsPinLaw" (some 0) with
  accessFlags := 49
  interfaces := #[]
  cf := some (fileOf pool1 17 #[] #[{ accessFlags := 2, nameIndex := 5, descriptorIndex := 6, attributes := #[] }, { accessFlags := 10, nameIndex := 20, descriptorIndex := 21, attributes := #[] }, { accessFlags := 10, nameIndex := 33, descriptorIndex := 34, attributes := #[] }, { accessFlags := 9, nameIndex := 38, descriptorIndex := 39, attributes := #[] }] 49 2 #[] #[])
  fields := #[]
  methods := #[k1m0, k1m1, k1m2, k1m3]
  instanceTypes := #[]
  staticTypes := #[]
  resolved := Array.replicate 46 none
  statics := none }

def pool2 : Array CpInfo := pool [(1, .class_ 2), (0, u "java/io/Serializable"), (0, .class_ 4), (0, u "java/lang/Object")] 2

/-- java/io/Serializable -/
def k2 : Class := { plain "java/io/Serializable" (some 0) with
  accessFlags := 1537
  interfaces := #[]
  cf := some (fileOf pool2 1 #[] #[] 1537 3 #[] #[])
  fields := #[]
  methods := #[]
  instanceTypes := #[]
  staticTypes := #[]
  resolved := Array.replicate 7 none
  statics := none }

def pool3 : Array CpInfo := pool [(1, .class_ 2), (0, u "java/lang/Comparable"), (0, .class_ 4), (0, u "java/lang/Object")] 7

/-- java/lang/Comparable -/
def k3 : Class := { plain "java/lang/Comparable" (some 0) with
  accessFlags := 1537
  interfaces := #[]
  cf := some (fileOf pool3 1 #[] #[] 1537 3 #[] #[])
  fields := #[]
  methods := #[]
  instanceTypes := #[]
  staticTypes := #[]
  resolved := Array.replicate 12 none
  statics := none }

def pool4 : Array CpInfo := pool [(2, .class_ 4), (1, u "java/lang/CharSequence"), (42, .class_ 48), (0, u "java/lang/CharSequence$1CodePointIterator"), (10, .class_ 60), (0, u "java/lang/CharSequence$1CharIterator"), (5, .class_ 67), (0, u "java/lang/Object")] 63

/-- java/lang/CharSequence -/
def k4 : Class := { plain "java/lang/CharSequence" (some 0) with
  accessFlags := 1537
  interfaces := #[]
  cf := some (fileOf pool4 2 #[.nestMembers #[47, 59]] #[] 1537 66 #[] #[])
  fields := #[]
  methods := #[]
  instanceTypes := #[]
  staticTypes := #[]
  resolved := Array.replicate 131 none
  statics := none }

def pool5 : Array CpInfo := pool [(1, .class_ 2), (0, u "java/lang/constant/Constable"), (0, .class_ 4), (0, u "java/lang/Object")] 6

/-- java/lang/constant/Constable -/
def k5 : Class := { plain "java/lang/constant/Constable" (some 0) with
  accessFlags := 1537
  interfaces := #[]
  cf := some (fileOf pool5 1 #[] #[] 1537 3 #[] #[])
  fields := #[]
  methods := #[]
  instanceTypes := #[]
  staticTypes := #[]
  resolved := Array.replicate 11 none
  statics := none }

def pool6 : Array CpInfo := pool [(1, .class_ 2), (0, u "java/lang/constant/ConstantDesc"), (0, .class_ 4), (0, u "java/lang/Object")] 32

/-- java/lang/constant/ConstantDesc -/
def k6 : Class := { plain "java/lang/constant/ConstantDesc" (some 0) with
  accessFlags := 1537
  interfaces := #[]
  cf := some (fileOf pool6 1 #[] #[] 1537 3 #[] #[])
  fields := #[]
  methods := #[]
  instanceTypes := #[]
  staticTypes := #[]
  resolved := Array.replicate 37 none
  statics := none }

def pool7 : Array CpInfo := pool [(1, .methodref 2 3), (0, .class_ 4), (0, .nameAndType 5 6), (0, u "java/lang/Object"), (0, u "<init>"), (0, u "()V"), (0, .string 8), (0, u ""), (0, .fieldref 10 11), (0, .class_ 12), (0, .nameAndType 13 14), (0, u "java/lang/String"), (0, u "value"), (0, u "[B"), (0, .fieldref 10 16), (0, .nameAndType 17 18), (0, u "coder"), (0, u "B"), (2, u "hash"), (0, u "I"), (2, u "hashIsZero"), (0, u "Z"), (0, .methodref 10 28), (0, .nameAndType 5 29), (0, u "([CIILjava/lang/Void;)V"), (8, .fieldref 10 39), (0, .nameAndType 40 26), (0, u "COMPACT_STRINGS"), (1, .class_ 44), (1, u "java/lang/StringUTF16"), (0, u "compress"), (1, .methodref 42 48), (0, .nameAndType 49 50), (0, u "coderFromArrayLen"), (0, u "([BI)B"), (2, u "toBytes"), (53, .class_ 109), (1, u "java/lang/StringLatin1"), (67, .methodref 42 178), (0, .nameAndType 45 179), (0, u "([CII)[B"), (29, .methodref 10 210), (0, .nameAndType 5 211), (0, u "([BB)V"), (157, u "(C)Z"), (171, .methodref 107 542), (0, .nameAndType 543 544), (0, u "equals"), (0, u "([B[B)Z"), (28, u "(Ljava/lang/Object;)Z"), (1, .class_ 576), (0, u "java/lang/CharSequence"), (22, u "CASE_INSENSITIVE_ORDER"), (0, u "Ljava/util/Comparator;"), (181, u "valueOf"), (0, u "(C)Ljava/lang/String;"), (226, u "([C)V"), (4, .methodref 107 1016), (0, .nameAndType 1017 369), (0, u "canEncode"), (0, .methodref 107 1019), (0, .nameAndType 53 1020), (0, u "(C)[B"), (80, u "serialPersistentFields"), (0, u "[Ljava/io/ObjectStreamField;"), (0, .class_ 1104), (0, u "java/lang/String$CaseInsensitiveComparator"), (1, .class_ 1107), (0, u "java/io/Serializable"), (0, .class_ 1109), (0, u "java/lang/Comparable"), (0, .class_ 1111), (0, u "java/lang/constant/Constable"), (0, .class_ 1113), (0, u "java/lang/constant/ConstantDesc"), (2, u "serialVersionUID"), (0, u "J"), (3, u "REPL"), (0, u "C"), (2, u "LATIN1"), (1, u "UTF16")] 323

def k7m0 : Method := { name := "<init>", desc := "()V", sig := { parameters := [], returnType := none }, accessFlags := 1, code := none }
def k7c1 : Code := { maxStack := 5, maxLocals := 2, code := jdk_42_method_3_code, exceptionTable := #[], attributes := #[] }
def k7m1 : Method := { name := "<init>", desc := "([C)V", sig := { parameters := [(.array .char)], returnType := none }, accessFlags := 1, code := some k7c1 }
def k7c2 : Code := { maxStack := 2, maxLocals := 3, code := jdk_42_method_66_code, exceptionTable := #[], attributes := #[] }
def k7m2 : Method := { name := "equals", desc := "(Ljava/lang/Object;)Z", sig := { parameters := [(.object "java/lang/Object")], returnType := some .boolean }, accessFlags := 1, code := some k7c2 }
def k7c3 : Code := { maxStack := 4, maxLocals := 1, code := jdk_42_method_139_code, exceptionTable := #[], attributes := #[] }
def k7m3 : Method := { name := "valueOf", desc := "(C)Ljava/lang/String;", sig := { parameters := [.char], returnType := some (.object "java/lang/String") }, accessFlags := 9, code := some k7c3 }
def k7c4 : Code := { maxStack := 4, maxLocals := 6, code := jdk_42_method_149_code, exceptionTable := #[], attributes := #[] }
def k7m4 : Method := { name := "<init>", desc := "([CIILjava/lang/Void;)V", sig := { parameters := [(.array .char), .int, .int, (.object "java/lang/Void")], returnType := none }, accessFlags := 2, code := some k7c4 }
def k7c5 : Code := { maxStack := 2, maxLocals := 3, code := jdk_42_method_151_code, exceptionTable := #[], attributes := #[] }
def k7m5 : Method := { name := "<init>", desc := "([BB)V", sig := { parameters := [(.array .byte), .byte], returnType := none }, accessFlags := 0, code := some k7c5 }
/-- java/lang/String -/
def k7 : Class := { plain "java/lang/String" (some 0) with
  accessFlags := 49
  interfaces := #[2, 3, 4, 5, 6]
  cf := some (fileOf pool7 10 #[.nestMembers #[1103]] #[{ accessFlags := 1, nameIndex := 5, descriptorIndex := 6, attributes := #[] }, { accessFlags := 1, nameIndex := 5, descriptorIndex := 1010, attributes := #[] }, { accessFlags := 1, nameIndex := 543, descriptorIndex := 573, attributes := #[] }, { accessFlags := 9, nameIndex := 782, descriptorIndex := 783, attributes := #[] }, { accessFlags := 2, nameIndex := 5, descriptorIndex := 29, attributes := #[] }, { accessFlags := 0, nameIndex := 5, descriptorIndex := 211, attributes := #[] }] 49 2 #[1106, 1108, 575, 1110, 1112] #[{ accessFlags := 18, nameIndex := 13, descriptorIndex := 14, attributes := #[] }, { accessFlags := 18, nameIndex := 17, descriptorIndex := 18, attributes := #[] }, { accessFlags := 2, nameIndex := 21, descriptorIndex := 22, attributes := #[] }, { accessFlags := 2, nameIndex := 25, descriptorIndex := 26, attributes := #[] }, { accessFlags := 26, nameIndex := 1116, descriptorIndex := 1117, attributes := #[] }, { accessFlags := 24, nameIndex := 40, descriptorIndex := 26, attributes := #[] }, { accessFlags := 26, nameIndex := 1101, descriptorIndex := 1102, attributes := #[] }, { accessFlags := 26, nameIndex := 1121, descriptorIndex := 1122, attributes := #[] }, { accessFlags := 25, nameIndex := 599, descriptorIndex := 600, attributes := #[] }, { accessFlags := 24, nameIndex := 1125, descriptorIndex := 18, attributes := #[] }, { accessFlags := 24, nameIndex := 1127, descriptorIndex := 18, attributes := #[] }])
  fields := #[{ name := "value", type := (.array .byte), accessFlags := 18, slot := 0, constantValue := 0 }, { name := "coder", type := .byte, accessFlags := 18, slot := 1, constantValue := 0 }, { name := "hash", type := .int, accessFlags := 2, slot := 2, constantValue := 0 }, { name := "hashIsZero", type := .boolean, accessFlags := 2, slot := 3, constantValue := 0 }, { name := "serialVersionUID", type := .long, accessFlags := 26, slot := 0, constantValue := 0 }, { name := "COMPACT_STRINGS", type := .boolean, accessFlags := 24, slot := 1, constantValue := 0 }, { name := "serialPersistentFields", type := (.array (.object "java/io/ObjectStreamField")), accessFlags := 26, slot := 2, constantValue := 0 }, { name := "REPL", type := .char, accessFlags := 26, slot := 3, constantValue := 0 }, { name := "CASE_INSENSITIVE_ORDER", type := (.object "java/util/Comparator"), accessFlags := 25, slot := 4, constantValue := 0 }, { name := "LATIN1", type := .byte, accessFlags := 24, slot := 5, constantValue := 0 }, { name := "UTF16", type := .byte, accessFlags := 24, slot := 6, constantValue := 0 }]
  methods := #[k7m0, k7m1, k7m2, k7m3, k7m4, k7m5]
  instanceTypes := #[(.array .byte), .byte, .int, .boolean]
  staticTypes := #[.long, .boolean, (.array (.object "java/io/ObjectStreamField")), .char, (.object "java/util/Comparator"), .byte, .byte]
  resolved := Array.replicate 1451 none
  statics := some 0 }

def pool8 : Array CpInfo := pool [(1, .methodref 2 3), (0, .class_ 4), (0, .nameAndType 5 6), (0, u "java/lang/Object"), (0, u "<init>"), (0, u "()V"), (0, .fieldref 8 9), (0, .class_ 10), (0, .nameAndType 11 12), (0, u "com/example/allot/allot/Catalog$CheckConstraint"), (0, u "name"), (0, u "Ljava/lang/String;"), (0, .fieldref 8 14), (0, .nameAndType 15 12), (0, u "condition"), (0, .fieldref 8 17), (0, .nameAndType 18 19), (0, u "readsWholeRow"), (0, u "Z"), (0, .methodref 21 22), (0, .class_ 23), (0, .nameAndType 24 25), (0, u "java/lang/String"), (0, u "equals"), (0, u "(Ljava/lang/Object;)Z"), (12, u "(Ljava/lang/String;Ljava/lang/String;Z)V"), (10, .class_ 50), (0, u "com/example/allot/allot/Catalog")] 2

def k8c0 : Code := { maxStack := 2, maxLocals := 4, code := prog_7_method_1_code, exceptionTable := #[], attributes := #[] }
def k8m0 : Method := { name := "<init>", desc := "(Ljava/lang/String;Ljava/lang/String;Z)V", sig := { parameters := [(.object "java/lang/String"), (.object "java/lang/String"), .boolean], returnType := none }, accessFlags := 0, code := some k8c0 }
def k8c1 : Code := { maxStack := 2, maxLocals := 2, code := prog_7_method_5_code, exceptionTable := #[], attributes := #[] }
def k8m1 : Method := { name := "equals", desc := "(Ljava/lang/Object;)Z", sig := { parameters := [(.object "java/lang/Object")], returnType := some .boolean }, accessFlags := 1, code := some k8c1 }
/-- com/example/allot/allot/Catalog$CheckConstraint -/
def k8 : Class := { plain "com/example/allot/allot/Catalog$CheckConstraint" (some 0) with
  accessFlags := 48
  interfaces := #[]
  cf := some (fileOf pool8 8 #[.nestHost 49] #[{ accessFlags := 0, nameIndex := 5, descriptorIndex := 38, attributes := #[] }, { accessFlags := 1, nameIndex := 24, descriptorIndex := 25, attributes := #[] }] 48 2 #[] #[{ accessFlags := 18, nameIndex := 11, descriptorIndex := 12, attributes := #[] }, { accessFlags := 18, nameIndex := 15, descriptorIndex := 12, attributes := #[] }, { accessFlags := 18, nameIndex := 18, descriptorIndex := 19, attributes := #[] }])
  fields := #[{ name := "name", type := (.object "java/lang/String"), accessFlags := 18, slot := 0, constantValue := 0 }, { name := "condition", type := (.object "java/lang/String"), accessFlags := 18, slot := 1, constantValue := 0 }, { name := "readsWholeRow", type := .boolean, accessFlags := 18, slot := 2, constantValue := 0 }]
  methods := #[k8m0, k8m1]
  instanceTypes := #[(.object "java/lang/String"), (.object "java/lang/String"), .boolean]
  staticTypes := #[]
  resolved := Array.replicate 53 none
  statics := none }

def pool9 : Array CpInfo := pool [(4, .class_ 6), (1, u "java/lang/Object"), (0, u "<init>"), (0, u "()V"), (5, .class_ 16), (1, u "java/lang/StringLatin1"), (73, u "canEncode"), (14, u "(C)Z"), (15, u "$assertionsDisabled"), (0, u "Z"), (98, .class_ 223), (1, u "java/lang/StringLatin1$LinesSpliterator"), (57, u "equals"), (0, u "([B[B)Z"), (97, u "toBytes"), (1, u "(C)[B"), (7, .class_ 391), (0, u "java/lang/StringLatin1$CharsSpliterator")] 3

def k9m0 : Method := { name := "<init>", desc := "()V", sig := { parameters := [], returnType := none }, accessFlags := 0, code := none }
def k9c1 : Code := { maxStack := 2, maxLocals := 1, code := jdk_43_method_3_code, exceptionTable := #[], attributes := #[] }
def k9m1 : Method := { name := "canEncode", desc := "(C)Z", sig := { parameters := [.char], returnType := some .boolean }, accessFlags := 9, code := some k9c1 }
def k9c2 : Code := { maxStack := 3, maxLocals := 3, code := jdk_43_method_13_code, exceptionTable := #[], attributes := #[] }
def k9m2 : Method := { name := "equals", desc := "([B[B)Z", sig := { parameters := [(.array .byte), (.array .byte)], returnType := some .boolean }, accessFlags := 9, code := some k9c2 }
def k9c3 : Code := { maxStack := 4, maxLocals := 1, code := jdk_43_method_46_code, exceptionTable := #[], attributes := #[] }
def k9m3 : Method := { name := "toBytes", desc := "(C)[B", sig := { parameters := [.char], returnType := some (.array .byte) }, accessFlags := 9, code := some k9c3 }
/-- java/lang/StringLatin1 -/
def k9 : Class := { plain "java/lang/StringLatin1" (some 0) with
  accessFlags := 48
  interfaces := #[]
  cf := some (fileOf pool9 14 #[.nestMembers #[390, 221]] #[{ accessFlags := 0, nameIndex := 7, descriptorIndex := 8, attributes := #[] }, { accessFlags := 9, nameIndex := 90, descriptorIndex := 105, attributes := #[] }, { accessFlags := 9, nameIndex := 281, descriptorIndex := 282, attributes := #[] }, { accessFlags := 9, nameIndex := 380, descriptorIndex := 382, attributes := #[] }] 48 4 #[] #[{ accessFlags := 4120, nameIndex := 121, descriptorIndex := 122, attributes := #[] }])
  fields := #[{ name := "$assertionsDisabled", type := .boolean, accessFlags := 4120, slot := 0, constantValue := 0 }]
  methods := #[k9m0, k9m1, k9m2, k9m3]
  instanceTypes := #[]
  staticTypes := #[.boolean]
  resolved := Array.replicate 395 none
  statics := none }

def pool10 : Array CpInfo := pool [(6, .class_ 8), (1, u "java/lang/Object"), (0, u "<init>"), (0, u "()V"), (1, .class_ 14), (1, u "java/lang/StringUTF16"), (31, u "$assertionsDisabled"), (0, u "Z"), (13, u "HI_BYTE_SHIFT"), (0, u "I"), (2, u "LO_BYTE_SHIFT"), (49, .methodref 12 116), (0, .nameAndType 117 118), (0, u "compress"), (0, u "([CI[BII)I"), (3, u "([CII)[B"), (138, u "coderFromArrayLen"), (0, u "([BI)B"), (106, .class_ 371), (1, u "java/lang/StringUTF16$LinesSpliterator"), (58, u "MAX_LENGTH"), (196, .class_ 628), (0, u "java/lang/StringUTF16$CodePointsSpliterator"), (0, .class_ 630), (0, u "java/lang/StringUTF16$CharsSpliterator")] 4

def k10m0 : Method := { name := "<init>", desc := "()V", sig := { parameters := [], returnType := none }, accessFlags := 0, code := none }
def k10c1 : Code := { maxStack := 2, maxLocals := 2, code := jdk_52_method_15_code, exceptionTable := #[], attributes := #[] }
def k10m1 : Method := { name := "coderFromArrayLen", desc := "([BI)B", sig := { parameters := [(.array .byte), .int], returnType := some .byte }, accessFlags := 8, code := some k10c1 }
def k10c2 : Code := { maxStack := 5, maxLocals := 6, code := jdk_52_method_16_code, exceptionTable := #[], attributes := #[] }
def k10m2 : Method := { name := "compress", desc := "([CII)[B", sig := { parameters := [(.array .char), .int, .int], returnType := some (.array .byte) }, accessFlags := 9, code := some k10c2 }
def k10c3 : Code := { maxStack := 3, maxLocals := 7, code := jdk_52_method_21_code, exceptionTable := #[], attributes := #[] }
def k10m3 : Method := { name := "compress", desc := "([CI[BII)I", sig := { parameters := [(.array .char), .int, (.array .byte), .int, .int], returnType := some .int }, accessFlags := 9, code := some k10c3 }
/-- java/lang/StringUTF16 -/
def k10 : Class := { plain "java/lang/StringUTF16" (some 0) with
  accessFlags := 48
  interfaces := #[]
  cf := some (fileOf pool10 12 #[.nestMembers #[627, 629, 369]] #[{ accessFlags := 0, nameIndex := 9, descriptorIndex := 10, attributes := #[] }, { accessFlags := 8, nameIndex := 261, descriptorIndex := 262, attributes := #[] }, { accessFlags := 9, nameIndex := 117, descriptorIndex := 122, attributes := #[] }, { accessFlags := 9, nameIndex := 117, descriptorIndex := 118, attributes := #[] }] 48 6 #[] #[{ accessFlags := 26, nameIndex := 61, descriptorIndex := 62, attributes := #[] }, { accessFlags := 26, nameIndex := 65, descriptorIndex := 62, attributes := #[] }, { accessFlags := 24, nameIndex := 430, descriptorIndex := 62, attributes := #[] }, { accessFlags := 4120, nameIndex := 46, descriptorIndex := 47, attributes := #[] }])
  fields := #[{ name := "HI_BYTE_SHIFT", type := .int, accessFlags := 26, slot := 0, constantValue := 0 }, { name := "LO_BYTE_SHIFT", type := .int, accessFlags := 26, slot := 1, constantValue := 0 }, { name := "MAX_LENGTH", type := .int, accessFlags := 24, slot := 2, constantValue := 0 }, { name := "$assertionsDisabled", type := .boolean, accessFlags := 4120, slot := 3, constantValue := 0 }]
  methods := #[k10m0, k10m1, k10m2, k10m3]
  instanceTypes := #[]
  staticTypes := #[.int, .int, .int, .boolean]
  resolved := Array.replicate 635 none
  statics := none }

def pool11 : Array CpInfo := pool [(2, .class_ 4), (1, u "java/lang/Object"), (0, u "<init>"), (0, u "()V"), (17, .class_ 26), (1, u "jdk/internal/util/Preconditions"), (28, .class_ 56), (0, u "jdk/internal/util/Preconditions$4"), (57, .class_ 115), (0, u "jdk/internal/util/Preconditions$1"), (7, u "SIOOBE_FORMATTER"), (0, u "Ljava/util/function/BiFunction;"), (0, .class_ 126), (0, u "jdk/internal/util/Preconditions$2"), (3, u "AIOOBE_FORMATTER"), (0, .class_ 132), (0, u "jdk/internal/util/Preconditions$3"), (3, u "IOOBE_FORMATTER")] 57

def k11m0 : Method := { name := "<init>", desc := "()V", sig := { parameters := [], returnType := none }, accessFlags := 1, code := none }
/-- jdk/internal/util/Preconditions -/
def k11 : Class := { plain "jdk/internal/util/Preconditions" (some 0) with
  accessFlags := 33
  interfaces := #[]
  cf := some (fileOf pool11 24 #[.nestMembers #[55, 131, 125, 114]] #[{ accessFlags := 1, nameIndex := 5, descriptorIndex := 6, attributes := #[] }] 33 2 #[] #[{ accessFlags := 25, nameIndex := 123, descriptorIndex := 124, attributes := #[] }, { accessFlags := 25, nameIndex := 130, descriptorIndex := 124, attributes := #[] }, { accessFlags := 25, nameIndex := 136, descriptorIndex := 124, attributes := #[] }])
  fields := #[{ name := "SIOOBE_FORMATTER", type := (.object "java/util/function/BiFunction"), accessFlags := 25, slot := 0, constantValue := 0 }, { name := "AIOOBE_FORMATTER", type := (.object "java/util/function/BiFunction"), accessFlags := 25, slot := 1, constantValue := 0 }, { name := "IOOBE_FORMATTER", type := (.object "java/util/function/BiFunction"), accessFlags := 25, slot := 2, constantValue := 0 }]
  methods := #[k11m0]
  instanceTypes := #[]
  staticTypes := #[(.object "java/util/function/BiFunction"), (.object "java/util/function/BiFunction"), (.object "java/util/function/BiFunction")]
  resolved := Array.replicate 194 none
  statics := some 1 }

def pool12 : Array CpInfo := pool [(9, u "<init>"), (6, .class_ 18), (1, u "java/lang/Object"), (0, u "()V"), (1, .class_ 23), (1, u "jdk/internal/util/ArraysSupport"), (0, u "LOG2_ARRAY_LONG_INDEX_SCALE"), (0, u "I"), (2, u "U"), (0, u "Ljdk/internal/misc/Unsafe;"), (8, u "BIG_ENDIAN"), (0, u "Z"), (8, u "LOG2_BYTE_BIT_SIZE"), (4, u "LOG2_ARRAY_INT_INDEX_SCALE"), (54, u "JLA"), (0, u "Ljdk/internal/access/JavaLangAccess;"), (11, u "LOG2_ARRAY_BOOLEAN_INDEX_SCALE"), (9, u "LOG2_ARRAY_BYTE_INDEX_SCALE"), (5, u "LOG2_ARRAY_CHAR_INDEX_SCALE"), (5, u "LOG2_ARRAY_SHORT_INDEX_SCALE"), (18, u "LOG2_ARRAY_FLOAT_INDEX_SCALE"), (24, u "LOG2_ARRAY_DOUBLE_INDEX_SCALE"), (89, u "T_BOOLEAN"), (2, u "T_CHAR"), (1, u "T_FLOAT"), (1, u "T_DOUBLE"), (1, u "T_BYTE"), (1, u "T_SHORT"), (1, u "T_INT"), (1, u "T_LONG"), (1, u "SOFT_MAX_ARRAY_LENGTH")] 83

def k12m0 : Method := { name := "<init>", desc := "()V", sig := { parameters := [], returnType := none }, accessFlags := 2, code := none }
/-- jdk/internal/util/ArraysSupport -/
def k12 : Class := { plain "jdk/internal/util/ArraysSupport" (some 0) with
  accessFlags := 33
  interfaces := #[]
  cf := some (fileOf pool12 21 #[] #[{ accessFlags := 2, nameIndex := 9, descriptorIndex := 19, attributes := #[] }] 33 16 #[] #[{ accessFlags := 24, nameIndex := 28, descriptorIndex := 29, attributes := #[] }, { accessFlags := 26, nameIndex := 38, descriptorIndex := 39, attributes := #[] }, { accessFlags := 25, nameIndex := 121, descriptorIndex := 25, attributes := #[] }, { accessFlags := 25, nameIndex := 131, descriptorIndex := 25, attributes := #[] }, { accessFlags := 25, nameIndex := 137, descriptorIndex := 25, attributes := #[] }, { accessFlags := 25, nameIndex := 143, descriptorIndex := 25, attributes := #[] }, { accessFlags := 25, nameIndex := 53, descriptorIndex := 25, attributes := #[] }, { accessFlags := 25, nameIndex := 24, descriptorIndex := 25, attributes := #[] }, { accessFlags := 25, nameIndex := 162, descriptorIndex := 25, attributes := #[] }, { accessFlags := 25, nameIndex := 187, descriptorIndex := 25, attributes := #[] }, { accessFlags := 26, nameIndex := 48, descriptorIndex := 25, attributes := #[] }, { accessFlags := 25, nameIndex := 277, descriptorIndex := 25, attributes := #[] }, { accessFlags := 25, nameIndex := 280, descriptorIndex := 25, attributes := #[] }, { accessFlags := 25, nameIndex := 282, descriptorIndex := 25, attributes := #[] }, { accessFlags := 25, nameIndex := 284, descriptorIndex := 25, attributes := #[] }, { accessFlags := 25, nameIndex := 286, descriptorIndex := 25, attributes := #[] }, { accessFlags := 25, nameIndex := 288, descriptorIndex := 25, attributes := #[] }, { accessFlags := 25, nameIndex := 290, descriptorIndex := 25, attributes := #[] }, { accessFlags := 25, nameIndex := 292, descriptorIndex := 25, attributes := #[] }, { accessFlags := 26, nameIndex := 108, descriptorIndex := 109, attributes := #[] }, { accessFlags := 25, nameIndex := 294, descriptorIndex := 25, attributes := #[] }])
  fields := #[{ name := "U", type := (.object "jdk/internal/misc/Unsafe"), accessFlags := 24, slot := 0, constantValue := 0 }, { name := "BIG_ENDIAN", type := .boolean, accessFlags := 26, slot := 1, constantValue := 0 }, { name := "LOG2_ARRAY_BOOLEAN_INDEX_SCALE", type := .int, accessFlags := 25, slot := 2, constantValue := 0 }, { name := "LOG2_ARRAY_BYTE_INDEX_SCALE", type := .int, accessFlags := 25, slot := 3, constantValue := 0 }, { name := "LOG2_ARRAY_CHAR_INDEX_SCALE", type := .int, accessFlags := 25, slot := 4, constantValue := 0 }, { name := "LOG2_ARRAY_SHORT_INDEX_SCALE", type := .int, accessFlags := 25, slot := 5, constantValue := 0 }, { name := "LOG2_ARRAY_INT_INDEX_SCALE", type := .int, accessFlags := 25, slot := 6, constantValue := 0 }, { name := "LOG2_ARRAY_LONG_INDEX_SCALE", type := .int, accessFlags := 25, slot := 7, constantValue := 0 }, { name := "LOG2_ARRAY_FLOAT_INDEX_SCALE", type := .int, accessFlags := 25, slot := 8, constantValue := 0 }, { name := "LOG2_ARRAY_DOUBLE_INDEX_SCALE", type := .int, accessFlags := 25, slot := 9, constantValue := 0 }, { name := "LOG2_BYTE_BIT_SIZE", type := .int, accessFlags := 26, slot := 10, constantValue := 0 }, { name := "T_BOOLEAN", type := .int, accessFlags := 25, slot := 11, constantValue := 0 }, { name := "T_CHAR", type := .int, accessFlags := 25, slot := 12, constantValue := 0 }, { name := "T_FLOAT", type := .int, accessFlags := 25, slot := 13, constantValue := 0 }, { name := "T_DOUBLE", type := .int, accessFlags := 25, slot := 14, constantValue := 0 }, { name := "T_BYTE", type := .int, accessFlags := 25, slot := 15, constantValue := 0 }, { name := "T_SHORT", type := .int, accessFlags := 25, slot := 16, constantValue := 0 }, { name := "T_INT", type := .int, accessFlags := 25, slot := 17, constantValue := 0 }, { name := "T_LONG", type := .int, accessFlags := 25, slot := 18, constantValue := 0 }, { name := "JLA", type := (.object "jdk/internal/access/JavaLangAccess"), accessFlags := 26, slot := 19, constantValue := 0 }, { name := "SOFT_MAX_ARRAY_LENGTH", type := .int, accessFlags := 25, slot := 20, constantValue := 0 }]
  methods := #[k12m0]
  instanceTypes := #[]
  staticTypes := #[(.object "jdk/internal/misc/Unsafe"), .boolean, .int, .int, .int, .int, .int, .int, .int, .int, .int, .int, .int, .int, .int, .int, .int, .int, .int, (.object "jdk/internal/access/JavaLangAccess"), .int]
  resolved := Array.replicate 378 none
  statics := none }

def pool13 : Array CpInfo := pool [(1, u "java/lang/Cloneable"), (0, .class_ 1), (0, u "java/lang/Object"), (0, .class_ 3)] 3

/-- java/lang/Cloneable -/
def k13 : Class := { plain "java/lang/Cloneable" (some 0) with
  accessFlags := 1537
  interfaces := #[]
  cf := some (fileOf pool13 2 #[] #[] 1537 4 #[] #[])
  fields := #[]
  methods := #[]
  instanceTypes := #[]
  staticTypes := #[]
  resolved := Array.replicate 8 none
  statics := none }

/-- the primitive byte -/
def k14 : Class := { plain "byte" none with kind := .primitive 'B', accessFlags := 0x411 }
/-- [B -/
def k15 : Class := { plain "[B" (some 0) with kind := .array 14 .byte, interfaces := #[13, 2], accessFlags := 1041 }

/-- the primitive char -/
def k16 : Class := { plain "char" none with kind := .primitive 'C', accessFlags := 0x411 }
/-- [C -/
def k17 : Class := { plain "[C" (some 0) with kind := .array 16 .char, interfaces := #[13, 2], accessFlags := 1041 }

/-- the primitive int -/
def k18 : Class := { plain "int" none with kind := .primitive 'I', accessFlags := 0x411 }
/-- [I -/
def k19 : Class := { plain "[I" (some 0) with kind := .array 18 .int, interfaces := #[13, 2], accessFlags := 1041 }

def heap : Heap := #[{ cls := 7, slots := #[.long 0, .int 1, .null, .int 0, .null, .int 0, .int 0], vm := .statics 7 },
  { cls := 11, slots := #[.null, .null, .null], vm := .statics 11 }]
def classes : Array Class := #[k0, k1, k2, k3, k4, k5, k6, k7, k8, k9, k10, k11, k12, k13, k14, k15, k16, k17, k18, k19]
def interned : List (Array UInt16 × Addr) := []
def slotsUsed : Nat := 10
def theMethod : MethodId := ⟨1, 3⟩
def args0 : Array Value := #[.int 5, .int 7, .int 3, .int 4, .int 9, .int 2]
def aboutOver (below : List Frame) : State where
  vm := { classes := classes, interned := interned.toArray }
  heap := heap
  slotsUsed := slotsUsed
  threads := #[{ frames := .invoking theMethod args0 :: below }]
def below0 : List Frame := [.native { method := ⟨0, 0⟩, args := #[] }]
def about1 : State := aboutOver below0
def p0 : Program := .bare "" "" ""
def e0 : Env := launch0.env 0 0 0
theorem w_frames : about1.frames = Frame.invoking theMethod args0 :: below0 := rfl
set_option maxRecDepth 65536 in
theorem w_args : argsFit about1.vm theMethod args0 = true := by decide +kernel
set_option maxRecDepth 65536 in
theorem w_heap : heapFits about1 = true := by decide +kernel
set_option maxRecDepth 65536 in
theorem w_runnable : about1.curStatus? = some .runnable := by decide +kernel
set_option maxRecDepth 65536 in
theorem w_alone : about1.alone = true := by decide +kernel
set_option maxRecDepth 65536 in
theorem w_named : about1.methodNamed? x = some theMethod := by decide +kernel
set_option maxRecDepth 65536 in
theorem w_hears : about1.hears theMethod below0 = true := by decide +kernel
set_option maxRecDepth 65536 in
theorem w_ripe : about1.ripe theMethod args0 below0 = true := by decide +kernel
theorem w_running : about1.status = .running := rfl
set_option maxRecDepth 65536 in
theorem w_room : about1.hasRoom e0.platform room_1 = true :=
  launch0.hasRoom_least _ room_1 (by decide +kernel) (by decide +kernel) (by decide +kernel) (by decide +kernel) (by decide +kernel) (by decide +kernel)
theorem allAtoms_all (ts : List Jvm.Cond) (a : Array Jvm.Value) (st : Jvm.State) : (allAtoms ts).before a st = ts.all (fun c => c.before a st) := by
  induction ts with
  | nil => rfl
  | cons c t ih =>
    show (Jvm.Cond.and c (allAtoms t)).before a st = _
    rw [Jvm.Cond.before_and, ih, List.all_cons]
def words1 : List Jvm.Cond := Jvm.Cond.code x code maxLocals ret :: tables_1
/-- a 'code' word, met by the world's own term for the bytes: nothing is compared byte by byte -/
theorem code_word {y : MethodName} {bytes : ByteArray} {mx : Nat} {rt : Option FieldType} {a : Array Value} {s : State} {m : MethodId} {meth : Method} {c : Code} (h1 : s.methodNamed? y = some m) (h2 : s.vm.method? m = some meth) (h3 : meth.code = some c) (h4 : c.code = bytes)
    (h5 : (c.maxLocals == mx && c.exceptionTable.isEmpty && decide (c.maxStack ≤ mostOperands) && decide (meth.sig.returnType = rt) && !meth.locks && decide (parseMethodDescriptor y.desc = some meth.sig)) = true) : (Jvm.Cond.code y bytes mx rt).before a s = true := by
  simp only [Bool.and_eq_true, beq_iff_eq, Bool.not_eq_true', decide_eq_true_eq] at h5
  obtain ⟨⟨⟨⟨⟨g1, g2⟩, g3⟩, g4⟩, g5⟩, g6⟩ := h5
  simp [Cond.before, Cond.holds, Cond.value, h1, h2, h3, h4, g1, g2, g3, g4, g5, g6]
def isCode : Jvm.Cond → Bool
  | .code _ _ _ _ => true
  | _ => false
theorem all_split {L : List Jvm.Cond} {P : Jvm.Cond → Bool} (h1 : L.all (fun c => isCode c || P c) = true) (h2 : ∀ c ∈ L.filter isCode, P c = true) : L.all P = true := by
  refine List.all_eq_true.mpr fun c hc => ?_
  have h := List.all_eq_true.mp h1 c hc
  rcases Bool.eq_false_or_eq_true (isCode c) with hi | hi
  · exact h2 c (List.mem_filter.mpr ⟨hc, hi⟩)
  · simpa [hi] using h
set_option maxRecDepth 65536 in
theorem w_c0 : (Jvm.Cond.code x code maxLocals ret).before args0 about1 = true := code_word (m := ⟨1, 3⟩) (meth := k1m3) (c := k1c3) (by decide +kernel) rfl rfl rfl (by decide +kernel)
set_option maxRecDepth 65536 in
theorem w_c1 : (Jvm.Cond.code ({ cls := "com/example/allot/allot/CheckConstraintEqualsPinLaw", name := "text", desc := "(ICC)Ljava/lang/String;" } : Jvm.MethodName) method_2_code (3 : Nat) (Option.some (Jvm.ClassFile.FieldType.object "java/lang/String"))).before args0 about1 = true := code_word (m := ⟨1, 1⟩) (meth := k1m1) (c := k1c1) (by decide +kernel) rfl rfl rfl (by decide +kernel)
set_option maxRecDepth 65536 in
theorem w_c2 : (Jvm.Cond.code ({ cls := "java/lang/String", name := "<init>", desc := "([C)V" } : Jvm.MethodName) jdk_42_method_3_code (2 : Nat) (Option.none : Option Jvm.ClassFile.FieldType)).before args0 about1 = true := code_word (m := ⟨7, 1⟩) (meth := k7m1) (c := k7c1) (by decide +kernel) rfl rfl rfl (by decide +kernel)
set_option maxRecDepth 65536 in
theorem w_c3 : (Jvm.Cond.code ({ cls := "java/lang/String", name := "<init>", desc := "([CIILjava/lang/Void;)V" } : Jvm.MethodName) jdk_42_method_149_code (6 : Nat) (Option.none : Option Jvm.ClassFile.FieldType)).before args0 about1 = true := code_word (m := ⟨7, 4⟩) (meth := k7m4) (c := k7c4) (by decide +kernel) rfl rfl rfl (by decide +kernel)
set_option maxRecDepth 65536 in
theorem w_c4 : (Jvm.Cond.code ({ cls := "java/lang/Object", name := "<init>", desc := "()V" } : Jvm.MethodName) object_method_1_code (1 : Nat) (Option.none : Option Jvm.ClassFile.FieldType)).before args0 about1 = true := code_word (m := ⟨0, 0⟩) (meth := k0m0) (c := k0c0) (by decide +kernel) rfl rfl rfl (by decide +kernel)
set_option maxRecDepth 65536 in
theorem w_c5 : (Jvm.Cond.code ({ cls := "com/example/allot/allot/Catalog$CheckConstraint", name := "<init>", desc := "(Ljava/lang/String;Ljava/lang/String;Z)V" } : Jvm.MethodName) prog_7_method_1_code (4 : Nat) (Option.none : Option Jvm.ClassFile.FieldType)).before args0 about1 = true := code_word (m := ⟨8, 0⟩) (meth := k8m0) (c := k8c0) (by decide +kernel) rfl rfl rfl (by decide +kernel)
set_option maxRecDepth 65536 in
theorem w_c6 : (Jvm.Cond.code ({ cls := "com/example/allot/allot/CheckConstraintEqualsPinLaw", name := "same", desc := "(ICCICC)Z" } : Jvm.MethodName) method_3_code (6 : Nat) (Option.some Jvm.ClassFile.FieldType.boolean)).before args0 about1 = true := code_word (m := ⟨1, 2⟩) (meth := k1m2) (c := k1c2) (by decide +kernel) rfl rfl rfl (by decide +kernel)
set_option maxRecDepth 65536 in
theorem w_c7 : (Jvm.Cond.code ({ cls := "com/example/allot/allot/Catalog$CheckConstraint", name := "equals", desc := "(Ljava/lang/Object;)Z" } : Jvm.MethodName) prog_7_method_5_code (2 : Nat) (Option.some Jvm.ClassFile.FieldType.boolean)).before args0 about1 = true := code_word (m := ⟨8, 1⟩) (meth := k8m1) (c := k8c1) (by decide +kernel) rfl rfl rfl (by decide +kernel)
set_option maxRecDepth 65536 in
theorem w_c8 : (Jvm.Cond.code ({ cls := "java/lang/String", name := "equals", desc := "(Ljava/lang/Object;)Z" } : Jvm.MethodName) jdk_42_method_66_code (3 : Nat) (Option.some Jvm.ClassFile.FieldType.boolean)).before args0 about1 = true := code_word (m := ⟨7, 2⟩) (meth := k7m2) (c := k7c2) (by decide +kernel) rfl rfl rfl (by decide +kernel)
set_option maxRecDepth 65536 in
theorem w_c9 : (Jvm.Cond.code ({ cls := "java/lang/StringLatin1", name := "equals", desc := "([B[B)Z" } : Jvm.MethodName) jdk_43_method_13_code (3 : Nat) (Option.some Jvm.ClassFile.FieldType.boolean)).before args0 about1 = true := code_word (m := ⟨9, 2⟩) (meth := k9m2) (c := k9c2) (by decide +kernel) rfl rfl rfl (by decide +kernel)
set_option maxRecDepth 65536 in
theorem w_c10 : (Jvm.Cond.code ({ cls := "java/lang/StringUTF16", name := "compress", desc := "([CII)[B" } : Jvm.MethodName) jdk_52_method_16_code (6 : Nat) (Option.some (Jvm.ClassFile.FieldType.array Jvm.ClassFile.FieldType.byte))).before args0 about1 = true := code_word (m := ⟨10, 2⟩) (meth := k10m2) (c := k10c2) (by decide +kernel) rfl rfl rfl (by decide +kernel)
set_option maxRecDepth 65536 in
theorem w_c11 : (Jvm.Cond.code ({ cls := "java/lang/StringUTF16", name := "compress", desc := "([CI[BII)I" } : Jvm.MethodName) jdk_52_method_21_code (7 : Nat) (Option.some Jvm.ClassFile.FieldType.int)).before args0 about1 = true := code_word (m := ⟨10, 3⟩) (meth := k10m3) (c := k10c3) (by decide +kernel) rfl rfl rfl (by decide +kernel)
set_option maxRecDepth 65536 in
theorem w_c12 : (Jvm.Cond.code ({ cls := "java/lang/StringUTF16", name := "coderFromArrayLen", desc := "([BI)B" } : Jvm.MethodName) jdk_52_method_15_code (2 : Nat) (Option.some Jvm.ClassFile.FieldType.byte)).before args0 about1 = true := code_word (m := ⟨10, 1⟩) (meth := k10m1) (c := k10c1) (by decide +kernel) rfl rfl rfl (by decide +kernel)
set_option maxRecDepth 65536 in
theorem w_c13 : (Jvm.Cond.code ({ cls := "java/lang/String", name := "valueOf", desc := "(C)Ljava/lang/String;" } : Jvm.MethodName) jdk_42_method_139_code (1 : Nat) (Option.some (Jvm.ClassFile.FieldType.object "java/lang/String"))).before args0 about1 = true := code_word (m := ⟨7, 3⟩) (meth := k7m3) (c := k7c3) (by decide +kernel) rfl rfl rfl (by decide +kernel)
set_option maxRecDepth 65536 in
theorem w_c14 : (Jvm.Cond.code ({ cls := "java/lang/StringLatin1", name := "canEncode", desc := "(C)Z" } : Jvm.MethodName) jdk_43_method_3_code (1 : Nat) (Option.some Jvm.ClassFile.FieldType.boolean)).before args0 about1 = true := code_word (m := ⟨9, 1⟩) (meth := k9m1) (c := k9c1) (by decide +kernel) rfl rfl rfl (by decide +kernel)
set_option maxRecDepth 65536 in
theorem w_c15 : (Jvm.Cond.code ({ cls := "java/lang/StringLatin1", name := "toBytes", desc := "(C)[B" } : Jvm.MethodName) jdk_43_method_46_code (1 : Nat) (Option.some (Jvm.ClassFile.FieldType.array Jvm.ClassFile.FieldType.byte))).before args0 about1 = true := code_word (m := ⟨9, 3⟩) (meth := k9m3) (c := k9c3) (by decide +kernel) rfl rfl rfl (by decide +kernel)
set_option maxRecDepth 65536 in
theorem w_c16 : (Jvm.Cond.code ({ cls := "java/lang/String", name := "<init>", desc := "([BB)V" } : Jvm.MethodName) jdk_42_method_151_code (3 : Nat) (Option.none : Option Jvm.ClassFile.FieldType)).before args0 about1 = true := code_word (m := ⟨7, 5⟩) (meth := k7m5) (c := k7c5) (by decide +kernel) rfl rfl rfl (by decide +kernel)
def codes1 : List Jvm.Cond := [Jvm.Cond.code x code maxLocals ret, Jvm.Cond.code ({ cls := "com/example/allot/allot/CheckConstraintEqualsPinLaw", name := "text", desc := "(ICC)Ljava/lang/String;" } : Jvm.MethodName) method_2_code (3 : Nat) (Option.some (Jvm.ClassFile.FieldType.object "java/lang/String")), Jvm.Cond.code ({ cls := "java/lang/String", name := "<init>", desc := "([C)V" } : Jvm.MethodName) jdk_42_method_3_code (2 : Nat) (Option.none : Option Jvm.ClassFile.FieldType), Jvm.Cond.code ({ cls := "java/lang/String", name := "<init>", desc := "([CIILjava/lang/Void;)V" } : Jvm.MethodName) jdk_42_method_149_code (6 : Nat) (Option.none : Option Jvm.ClassFile.FieldType), Jvm.Cond.code ({ cls := "java/lang/Object", name := "<init>", desc := "()V" } : Jvm.MethodName) object_method_1_code (1 : Nat) (Option.none : Option Jvm.ClassFile.FieldType), Jvm.Cond.code ({ cls := "com/example/allot/allot/Catalog$CheckConstraint", name := "<init>", desc := "(Ljava/lang/String;Ljava/lang/String;Z)V" } : Jvm.MethodName) prog_7_method_1_code (4 : Nat) (Option.none : Option Jvm.ClassFile.FieldType), Jvm.Cond.code ({ cls := "com/example/allot/allot/CheckConstraintEqualsPinLaw", name := "same", desc := "(ICCICC)Z" } : Jvm.MethodName) method_3_code (6 : Nat) (Option.some Jvm.ClassFile.FieldType.boolean), Jvm.Cond.code ({ cls := "com/example/allot/allot/Catalog$CheckConstraint", name := "equals", desc := "(Ljava/lang/Object;)Z" } : Jvm.MethodName) prog_7_method_5_code (2 : Nat) (Option.some Jvm.ClassFile.FieldType.boolean), Jvm.Cond.code ({ cls := "java/lang/String", name := "equals", desc := "(Ljava/lang/Object;)Z" } : Jvm.MethodName) jdk_42_method_66_code (3 : Nat) (Option.some Jvm.ClassFile.FieldType.boolean), Jvm.Cond.code ({ cls := "java/lang/StringLatin1", name := "equals", desc := "([B[B)Z" } : Jvm.MethodName) jdk_43_method_13_code (3 : Nat) (Option.some Jvm.ClassFile.FieldType.boolean), Jvm.Cond.code ({ cls := "java/lang/StringUTF16", name := "compress", desc := "([CII)[B" } : Jvm.MethodName) jdk_52_method_16_code (6 : Nat) (Option.some (Jvm.ClassFile.FieldType.array Jvm.ClassFile.FieldType.byte)), Jvm.Cond.code ({ cls := "java/lang/StringUTF16", name := "compress", desc := "([CI[BII)I" } : Jvm.MethodName) jdk_52_method_21_code (7 : Nat) (Option.some Jvm.ClassFile.FieldType.int), Jvm.Cond.code ({ cls := "java/lang/StringUTF16", name := "coderFromArrayLen", desc := "([BI)B" } : Jvm.MethodName) jdk_52_method_15_code (2 : Nat) (Option.some Jvm.ClassFile.FieldType.byte), Jvm.Cond.code ({ cls := "java/lang/String", name := "valueOf", desc := "(C)Ljava/lang/String;" } : Jvm.MethodName) jdk_42_method_139_code (1 : Nat) (Option.some (Jvm.ClassFile.FieldType.object "java/lang/String")), Jvm.Cond.code ({ cls := "java/lang/StringLatin1", name := "canEncode", desc := "(C)Z" } : Jvm.MethodName) jdk_43_method_3_code (1 : Nat) (Option.some Jvm.ClassFile.FieldType.boolean), Jvm.Cond.code ({ cls := "java/lang/StringLatin1", name := "toBytes", desc := "(C)[B" } : Jvm.MethodName) jdk_43_method_46_code (1 : Nat) (Option.some (Jvm.ClassFile.FieldType.array Jvm.ClassFile.FieldType.byte)), Jvm.Cond.code ({ cls := "java/lang/String", name := "<init>", desc := "([BB)V" } : Jvm.MethodName) jdk_42_method_151_code (3 : Nat) (Option.none : Option Jvm.ClassFile.FieldType)]
set_option maxRecDepth 65536 in
theorem codes_eq : words1.filter isCode = codes1 := rfl
theorem w_codes : ∀ c ∈ words1.filter isCode, c.before args0 about1 = true := by
  rw [codes_eq]
  intro c hc
  simp only [codes1, List.mem_cons, List.not_mem_nil, or_false] at hc
  rcases hc with rfl | rfl | rfl | rfl | rfl | rfl | rfl | rfl | rfl | rfl | rfl | rfl | rfl | rfl | rfl | rfl | rfl
  · exact w_c0
  · exact w_c1
  · exact w_c2
  · exact w_c3
  · exact w_c4
  · exact w_c5
  · exact w_c6
  · exact w_c7
  · exact w_c8
  · exact w_c9
  · exact w_c10
  · exact w_c11
  · exact w_c12
  · exact w_c13
  · exact w_c14
  · exact w_c15
  · exact w_c16
set_option maxRecDepth 65536 in
theorem w_t1 : (words1.take 24).all (fun c => isCode c || c.before args0 about1) = true := by decide +kernel
set_option maxRecDepth 65536 in
theorem w_t2 : ((words1.drop 24).take 24).all (fun c => isCode c || c.before args0 about1) = true := by decide +kernel
set_option maxRecDepth 65536 in
theorem w_t3 : (((words1.drop 24).drop 24).take 24).all (fun c => isCode c || c.before args0 about1) = true := by decide +kernel
set_option maxRecDepth 65536 in
theorem w_t4 : (((words1.drop 24).drop 24).drop 24).all (fun c => isCode c || c.before args0 about1) = true := by decide +kernel
theorem w_tables : (allAtoms (Jvm.Cond.code x code maxLocals ret :: tables_1)).before args0 about1 = true := by
  rw [allAtoms_all]
  show words1.all (fun c => c.before args0 about1) = true
  refine all_split ?_ w_codes
  rw [← List.take_append_drop 24 words1, List.all_append, w_t1, ← List.take_append_drop 24 (words1.drop 24), List.all_append, w_t2, ← List.take_append_drop 24 ((words1.drop 24).drop 24), List.all_append, w_t3, w_t4]
  rfl
set_option maxRecDepth 65536 in
theorem w_rest : rest_1_c.before args0 about1 = true := by decide +kernel
set_option maxRecDepth 65536 in
theorem w_case : (Jvm.Cond.and given_1 narrow_1).before args0 about1 = true := by decide +kernel
set_option maxRecDepth 65536 in
theorem w_consts : constsHeld consts_1 about1 := Jvm.Lit.constsHeldB_iff.mp (by decide +kernel)
theorem w_applies : (headSpec (Jvm.Cond.code x code maxLocals ret :: tables_1) room_1).applies x e0.platform about1 = true :=
  (Spec.applies_iff w_frames).mpr ⟨w_running, w_runnable, w_alone, w_named, w_hears, w_ripe, w_room, w_tables⟩
theorem atStart : AtStart classFile x code maxLocals ret World_1 tables_1 room_1 Calls_1 rest_1 Pre_1 launch0 p0 e0 about1 theMethod args0 below0 :=
  ⟨lists_1, trivial, launch0.admits_env _ _ _, launch0.least_env, fairChoices_fair.cas, fairChoices_fair.clock, w_frames, w_args, w_heap, w_applies, ⟨w_consts, trivial⟩, w_rest, w_case⟩
end start1
theorem witness_1 : WitnessClaimed_1 := ⟨start1.p0, start1.e0, start1.about1, start1.theMethod, start1.args0, start1.below0, start1.atStart⟩
end Jvm.Pilot.@@N@@
