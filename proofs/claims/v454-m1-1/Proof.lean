import JvmDerived
import JvmDerived.Pilot.@@N@@Statement
import JvmDerived.Pilot.@@N@@Code
set_option linter.unusedVariables false
set_option linter.unusedSimpArgs false
namespace Jvm.OwnW
open Sem ClassFile Op Lib Jvm.Free Jvm.Stand Jvm.LawKit Jvm.RoadKit Jvm.Free.XT
/-! ## a walk's fixed data, and what is asked of the rest of it -/
abbrev Cx : Type := Program × Launch × Env × Room × State × MethodId × Array Value × List Frame × Method × Code
abbrev Cx.p (x : Cx) : Program := x.1
abbrev Cx.l (x : Cx) : Launch := x.2.1
abbrev Cx.e (x : Cx) : Env := x.2.2.1
abbrev Cx.R (x : Cx) : Room := x.2.2.2.1
abbrev Cx.s (x : Cx) : State := x.2.2.2.2.1
abbrev Cx.m (x : Cx) : MethodId := x.2.2.2.2.2.1
abbrev Cx.args (x : Cx) : Array Value := x.2.2.2.2.2.2.1
abbrev Cx.below (x : Cx) : List Frame := x.2.2.2.2.2.2.2.1
abbrev Cx.meth (x : Cx) : Method := x.2.2.2.2.2.2.2.2.1
abbrev Cx.c (x : Cx) : Code := x.2.2.2.2.2.2.2.2.2
abbrev Sd (x : Cx) (T : State) (locs : List Loc) (k n : Nat) : Prop := Stand x.p x.l x.e x.R x.s x.m x.args x.below x.meth x.c T locs k n
/-- what is known of a walk of the method nm (of the class own) over the tables of Z -/
def Ok (x : Cx) (Z : State) (own nm : String) (bytes : ByteArray) (ml : Nat) (rt : Option FieldType) (R : Room) : Prop :=
  x.p.tables.exec = Jvm.exec ∧ x.c.code = bytes ∧ x.c.maxLocals = ml ∧ x.s.vm.findClass own = some x.m.cls ∧ x.meth.name = nm ∧ Z.Warmed39 x.s.vm ∧ x.meth.sig.returnType = rt ∧ x.meth.locks = false ∧ x.R = R
abbrev Post : Type := Option Value → Heap → Prop
def Done (x : Cx) (n0 : Nat) (Q : Post) (U : State) : Prop :=
  ∃ s₂ o, Steps x.p.tables x.e x.below U s₂ ∧ s₂.status = .running ∧ Ended s₂ x.below o ∧ ∃ v L, o = .returned v ∧ (Q v s₂.heap ∧ Fr n0 L) ∧ FrameEnd x.s o s₂ L x.R.cells x.R.slots
/-- from here (heap h; k cells and n slots made so far; the frame) the walk comes to its end, and Q holds of it -/
def WP (x : Cx) (n0 : Nat) (Q : Post) (h : Heap) (k n : Nat) (pc : Nat) (L : Array Slot) (S : List Value) : Prop :=
  ∀ T locs, Sd x T locs k n → T.heap = h → Fr n0 locs → Done x n0 Q (T.setTop (mkF x.m pc L S))
/-- a method's contract at one heap and one list of arguments -/
def Con (l : Launch) (Z : State) (y : MethodName) (bytes : ByteArray) (maxL : Nat) (ret : Option FieldType) (rm : Room) (as : Array Value) (h : Heap) (n0 : Nat) (Q : Post) (ws : List Jvm.Cond) : Prop :=
  MetFree l y (head1 (Jvm.Cond.code y bytes maxL ret :: ws) rm) (fun a U => a = as ∧ Z.Warmed39 U.vm ∧ U.heap = h) (fun _ _ _ _ _ => True) (fun _ U o U' => ∃ v L, o = .returned v ∧ (Q v U'.heap ∧ Fr n0 L) ∧ FrameEnd U o U' L rm.cells rm.slots)
theorem wd {ts : List Jvm.Cond} {a0 : Array Value} {Z : State} (hw : ∀ d ∈ ts, d.before a0 Z = true) (k : Nat) {d : Jvm.Cond} (h : ts[k]? = some d) : d.before a0 Z = true := hw d (List.mem_of_getElem? h)
theorem ne_new {h : Heap} {a b : Addr} (hb : b < h.size) (e : a = h.size) : b ≠ a := by rw [e]; exact Nat.ne_of_lt hb
theorem Fld_c {Z : State} {h : Heap} {a : Addr} {O n d : String} {v w : Value} (F : Fld Z h a O n d v) (e : v = w) : Fld Z h a O n d w := e ▸ F
section Rules
variable {x : Cx} {Z : State} {own nm : String} {bytes : ByteArray} {ml : Nat} {rt : Option FieldType} {R : Room} {n0 : Nat} {Q : Post} {h : Heap} {k n : Nat} {pc pc' : Nat} {L L' : Array Slot} {S S' rest : List Value} {a0 : Array Value} {a : Addr} {v : Value}
theorem con_of_wp {l : Launch} {y : MethodName} {as : Array Value} {L0 : Array Slot} {ws : List Jvm.Cond} (pn : plainFor y = true) (ef : ∀ m, entryFrame m as ml = mkF m 0 L0 [])
    (H : ∀ x : Cx, x.l = l → Ok x Z y.cls y.name bytes ml rt R → WP x n0 Q h 0 0 0 L0 []) : Con l Z y bytes ml rt R as h n0 Q ws := by
  refine MetFree.of_bodySF pn hisR ?_
  intro p e s m args below meth c s₁ Bd hml0 hP hK
  obtain ⟨rfl, hZ, hh⟩ := hP
  have X0 : Stand p l e R s m args below meth c s₁ [] 0 0 := Stand.of_body Bd
  have e0 : s₁.heap = h := by rw [← hh, Bd.state]; rfl
  have ok : Ok (p, l, e, R, s, m, args, below, meth, c) Z y.cls y.name bytes ml rt R := ⟨Bd.exec, Bd.bytes, hml0, findClass_of_methodNamed Bd.named, (name_of_methodNamed Bd.named Bd.method).1, hZ, Bd.returns, Bd.notSynchronized, rfl⟩
  obtain ⟨s₂, o, h1, h2, h3, h4⟩ := H (p, l, e, R, s, m, args, below, meth, c) rfl ok s₁ [] X0 e0 (Fr.nil n0)
  exact ⟨s₂, o, castTop (ef m) h1, h2, h3, h4⟩
theorem wp_more {k' n' : Nat} (hk : k ≤ k') (hn : n ≤ n') (w : WP x n0 Q h k' n' pc L S) : WP x n0 Q h k n pc L S := fun T locs X e N => w T locs (X.more hk hn) e N
theorem wp_steps (st : ∀ T locs target, Sd x T locs k n → T.heap = h → Steps x.p.tables x.e x.below (T.setTop (mkF x.m pc' L' S')) target → Steps x.p.tables x.e x.below (T.setTop (mkF x.m pc L S)) target) (w : WP x n0 Q h k n pc' L' S') : WP x n0 Q h k n pc L S := fun T locs X e N => by
  obtain ⟨s₂, o, h1, r⟩ := w T locs X e N
  exact ⟨s₂, o, st T locs _ X e h1, r⟩
/-! ## returns -/
theorem wp_done {v' : Option Value} (ok : Ok x Z own nm bytes ml rt R) (hk : k ≤ R.cells) (hn : n ≤ R.slots) (hv : rt = none → v' = none) (hq : Q v' h)
    (st : ∀ T locs fs, Sd x T locs k n → (∀ (f : JFrame) (acts : List Action), f.method = x.m → f.locked = none → f.entered = [] → (doReturn x.e (T.setTop f) acts v').1 = T.setFrames fs) → Steps x.p.tables x.e x.below (T.setTop (mkF x.m pc L S)) (T.setFrames fs)) : WP x n0 Q h k n pc L S := fun T locs X e N => by
  obtain ⟨hx, hby, hml, hown, hnm, hZ, hrt, hlk, hR⟩ := ok
  have hlocks : x.meth.locks = false := hlk
  obtain ⟨fs, hr, hrun, hended, hW, hsame⟩ := X.leave (v := v') (fun q => hv (hrt.symm.trans q)) hlocks
  refine ⟨_, _, st T locs fs X hr, hrun, hended, _, locs, rfl, ⟨?_, N⟩, ⟨_, rfl⟩, hW, hsame.mono (by rw [hR]; exact hk) (by rw [hR]; exact hn)⟩
  show Q v' T.heap
  rw [e]; exact hq
theorem wp_retV (ok : Ok x Z own nm bytes ml none R) (hd : decode bytes pc = .ok (.return_, 1)) (hk : k ≤ R.cells) (hn : n ≤ R.slots) (hq : Q none h) : WP x n0 Q h k n pc L [] :=
  wp_done ok hk hn (fun _ => rfl) hq fun T locs fs X hr => X.returnOut ok.1 ok.2.2.2.2.2.2.1 (hb ok.2.1 hd) hr
theorem wp_retZ {z : Int32} {t : FieldType} (ok : Ok x Z own nm bytes ml (some t) R) (ht : t = .boolean ∨ t = .byte ∨ t = .char ∨ t = .short) (hd : decode bytes pc = .ok (.ireturn, 1)) (hk : k ≤ R.cells) (hn : n ≤ R.slots) (hq : Q (some (.int (nar t z))) h) : WP x n0 Q h k n pc L (.int z :: rest) :=
  wp_done ok hk hn (fun q => nomatch q) hq fun T locs fs X hr => retN X ok.1 ok.2.2.2.2.2.2.1 ht (hb ok.2.1 hd) hr
theorem wp_retI {z : Int32} (ok : Ok x Z own nm bytes ml (some .int) R) (hd : decode bytes pc = .ok (.ireturn, 1)) (hk : k ≤ R.cells) (hn : n ≤ R.slots) (hq : Q (some (.int z)) h) : WP x n0 Q h k n pc L (.int z :: rest) :=
  wp_done ok hk hn (fun q => nomatch q) hq fun T locs fs X hr => retOut X ok.1 ok.2.2.2.2.2.2.1 (w := .int z) rfl (Or.inl ⟨rfl, Or.inl rfl, z, rfl⟩) (hb ok.2.1 hd) hr
theorem wp_retJ {z : Int64} (ok : Ok x Z own nm bytes ml (some .long) R) (hd : decode bytes pc = .ok (.lreturn, 1)) (hk : k ≤ R.cells) (hn : n ≤ R.slots) (hq : Q (some (.long z)) h) : WP x n0 Q h k n pc L (.long z :: rest) :=
  wp_done ok hk hn (fun q => nomatch q) hq fun T locs fs X hr => retOut X ok.1 ok.2.2.2.2.2.2.1 (w := .long z) rfl (Or.inr (Or.inl ⟨rfl, rfl, z, rfl⟩)) (hb ok.2.1 hd) hr
theorem wp_retA {w : Value} {t : FieldType} (ok : Ok x Z own nm bytes ml (some t) R) (ht : t.isReference = true) (hw : w.isRef = true) (hd : decode bytes pc = .ok (.areturn, 1)) (hk : k ≤ R.cells) (hn : n ≤ R.slots) (hq : Q (some w) h) : WP x n0 Q h k n pc L [w] :=
  wp_done ok hk hn (fun q => nomatch q) hq fun T locs fs X hr => X.areturnOut ok.1 hw ok.2.2.2.2.2.2.1 ht (hb ok.2.1 hd) hr
/-! ## the heap -/
theorem wp_getF {O nf d : String} {index : Nat} (ok : Ok x Z own nm bytes ml rt R) (w : (Jvm.Cond.fieldLink own index O nf d).before a0 Z = true) (F : Fld Z h a O nf d v) (hd : decode bytes pc = .ok (.getfield index, 3)) (hw : WP x n0 Q h k n (pc + 3) L (v :: rest)) : WP x n0 Q h k n pc L (.ref a :: rest) := fun T locs X e N => by
  obtain ⟨T', X', e', st⟩ := getF X ok.1 ok.2.2.2.2.2.1 ok.2.2.2.1 (host := "") (Or.inl w) Via.refl e F (g := mkF x.m pc L (.ref a :: rest)) rfl rfl (hb ok.2.1 hd)
  obtain ⟨s₂, o, h1, r⟩ := hw T' locs X' e' N
  exact ⟨s₂, o, st _ h1, r⟩
theorem wp_putF {O nf d C : String} {index kk : Nat} {ty : FieldType} {old : Value} (ok : Ok x Z own nm bytes ml rt R) (w : (Jvm.Cond.fieldLink own index O nf d).before a0 Z = true) (F : Fld Z h a O nf d old) (E : Exa Z h a C)
    (Ly : (Jvm.Cond.lays C O nf d).before a0 Z = true ∨ ((Jvm.Cond.laysFinal C O nf d).before a0 Z = true ∧ own = O ∧ nm = "<init>")) (wi : (Jvm.Cond.instantiable C kk).before a0 Z = true) (hty : parseFieldDescriptor d = some ty) (hnw : narrow ty v = v) (hf : fits ty v = true) (hd : decode bytes pc = .ok (.putfield index, 3)) (ha : n0 ≤ a)
    (hw : ∀ h', Wr h h' a (Jvm.RoadKit.slotOf Z O nf d) v → WP x n0 Q h' k n (pc + 3) L rest) : WP x n0 Q h k n pc L (v :: .ref a :: rest) := fun T locs X e N => by
  obtain ⟨T', h', X', e', W, st⟩ := putF X ok.1 ok.2.2.2.2.2.1 ok.2.2.2.1 (host := "") (Or.inl w) Via.refl e F E (Ly.imp id fun q => ⟨q.1, q.2.1, ok.2.2.2.2.1.trans q.2.2⟩) wi hty hnw hf (g := mkF x.m pc L (v :: .ref a :: rest)) rfl rfl (hb ok.2.1 hd)
  obtain ⟨s₂, o, h1, r⟩ := hw h' W T' _ X' e' (Fr.snoc X' N ha)
  exact ⟨s₂, o, st _ h1, r⟩
theorem wp_new {C : String} {index sz : Nat} (ok : Ok x Z own nm bytes ml rt R) (w : (Jvm.Cond.classLink own index C).before a0 Z = true) (wi : (Jvm.Cond.instantiable C sz).before a0 Z = true) (wz : (Jvm.Cond.initialized C).before a0 Z = true) (hd : decode bytes pc = .ok (.new index, 3)) (hk : k + 1 ≤ R.cells) (hn : n + sz ≤ R.slots)
    (hw : ∀ h' a, a = h.size → Ext h h' → Exa Z h' a C → (∀ {O nf d : String} {ty : FieldType}, Laid Z a0 C O nf d → parseFieldDescriptor d = some ty → Fld Z h' a O nf d (defaultValue ty)) → WP x n0 Q h' (k + 1) (n + sz) (pc + 3) L (.ref a :: S)) : WP x n0 Q h k n pc L S := fun T locs X e N => by
  obtain ⟨T', h', X', e', E, A, D, -, st⟩ := newO X ok.1 ok.2.2.2.2.2.1 ok.2.2.2.1 w wi wz e (g := mkF x.m pc L S) rfl (hb ok.2.1 hd) (by rw [ok.2.2.2.2.2.2.2.2]; exact hk) (by rw [ok.2.2.2.2.2.2.2.2]; exact hn)
  obtain ⟨s₂, o, h1, r⟩ := hw h' h.size rfl E A D T' _ X' e' N
  exact ⟨s₂, o, st _ h1, r⟩
theorem wp_initO {index : Nat} (ok : Ok x Z own nm bytes ml rt R) (w1 : (Jvm.Cond.methodLink own index Lib.objectInit).before a0 Z = true) (w2 : (Jvm.Cond.instanceMethod Lib.objectInit).before a0 Z = true) (w3 : (Jvm.Cond.code Lib.objectInit ⟨#[0xb1]⟩ 1 none).before a0 Z = true) (hL : L.size = ml)
    (hd : decode bytes pc = .ok (.invokespecial index, 3)) (hf : 1 ≤ R.frames) (hl : (rest.map fun v => v.category).sum + 12 ≤ R.locals) (hw : WP x n0 Q h k n (pc + 3) L rest) : WP x n0 Q h k n pc L (.ref a :: rest) := fun T locs X e N => by
  obtain ⟨T', X', e', st⟩ := initO X ok.1 ok.2.2.2.2.2.1 ok.2.2.2.1 w1 w2 w3 e (g := mkF x.m pc L (.ref a :: rest)) rfl (by show L.size = _; rw [ok.2.2.1]; exact hL) rfl (hb ok.2.1 hd) (by rw [ok.2.2.2.2.2.2.2.2]; exact hf) (W := (rest.map fun v => v.category).sum) (by show 2 * 0 + _ ≤ _; omega) (by rw [ok.2.2.2.2.2.2.2.2]; exact hl)
  obtain ⟨s₂, o, h1, r⟩ := hw T' locs X' e' N
  exact ⟨s₂, o, st _ h1, r⟩
/-! ## calls by contract -/
theorem wp_static {y : MethodName} {cb : ByteArray} {cm : Nat} {cr : Option FieldType} {rm : Room} {index : Nat} {argsL : List Value} {Q' : Post} {ps : List FieldType} (ok : Ok x Z own nm bytes ml rt R) (w1 : (Jvm.Cond.methodLink own index y).before a0 Z = true) (w2 : (Jvm.Cond.static y).before a0 Z = true) (w3 : (Jvm.Cond.initialized y.cls).before a0 Z = true) (w4 : (Jvm.Cond.code y cb cm cr).before a0 Z = true)
    (hy : y.cls ≠ "java/lang/invoke/MethodHandle" ∧ y.cls ≠ "java/lang/invoke/VarHandle") (C : Con x.l Z y cb cm cr rm argsL.toArray h n0 Q' []) (pd : parseMethodDescriptor y.desc = some ⟨ps, cr⟩) (hlen : argsL.length = ps.length) (hst : S = argsL.reverse ++ rest) (hL : L.size = ml) (hd : decode bytes pc = .ok (.invokestatic index, 3))
    (hf : rm.frames + 1 ≤ R.frames) (hl : (rest.map fun v => v.category).sum + (cm + 11) + rm.locals ≤ R.locals) (hk : k + rm.cells ≤ R.cells) (hn : n + rm.slots ≤ R.slots)
    (hw : ∀ v h', Q' v h' → WP x n0 Q h' (k + rm.cells) (n + rm.slots) (pc + 3) L (v.toList ++ rest)) : WP x n0 Q h k n pc L S := fun T locs X e N => by
  have hZ := ok.2.2.2.2.2.1
  have hR := ok.2.2.2.2.2.2.2.2
  obtain ⟨v, _, ⟨T', L2, k2, n2⟩, -, X', ⟨Lc, hQ, l1, y1, z1⟩, st⟩ := Jvm.LawKit.callS X ok.1 (y := y) ok.2.2.2.1 (mvT hZ w1) (mvT hZ w2) (mvT hZ w3) (mvT hZ w4) hy (backOf (W := (rest.map fun v => v.category).sum) (Q := fun v h L => Q' v h ∧ Fr n0 L) C hZ w4 w3 (by rw [hR]; exact hf) (by rw [hR]; exact hl)) (g := mkF x.m pc L S) rfl (by show L.size = _; rw [ok.2.2.1]; exact hL) (argsL := argsL) (rest := rest) (lenOf pd hlen) hst (by show 2 * 0 + _ ≤ _; omega) (hb ok.2.1 hd) (fun _ _ => ⟨rfl, e, by rw [hR]; exact hk, by rw [hR]; exact hn⟩)
  dsimp only [Pt.U, Pt.locs, Pt.cells, Pt.slots] at X' l1 y1 z1 st hQ
  subst l1 y1 z1
  obtain ⟨s₂, o, h1, r⟩ := hw v _ hQ.1 T' _ X' rfl (Fr.app N hQ.2)
  exact ⟨s₂, o, st _ h1, r⟩
theorem wp_special {y : MethodName} {cb : ByteArray} {cm : Nat} {rm : Room} {index : Nat} {argsL : List Value} {Q' : Post} {ps : List FieldType} (ok : Ok x Z own nm bytes ml rt R) (hy1 : y.name = "<init>") (w1 : (Jvm.Cond.methodLink own index y).before a0 Z = true) (w2 : (Jvm.Cond.instanceMethod y).before a0 Z = true) (w3 : (Jvm.Cond.initialized y.cls).before a0 Z = true) (w4 : (Jvm.Cond.code y cb cm none).before a0 Z = true)
    (hy : y.cls ≠ "java/lang/invoke/MethodHandle" ∧ y.cls ≠ "java/lang/invoke/VarHandle") (C : Con x.l Z y cb cm none rm (Value.ref a :: argsL).toArray h n0 Q' []) (pd : parseMethodDescriptor y.desc = some ⟨ps, none⟩) (hlen : argsL.length = ps.length) (hst : S = argsL.reverse ++ .ref a :: rest) (hL : L.size = ml) (hd : decode bytes pc = .ok (.invokespecial index, 3))
    (hf : rm.frames + 1 ≤ R.frames) (hl : (rest.map fun v => v.category).sum + (cm + 11) + rm.locals ≤ R.locals) (hk : k + rm.cells ≤ R.cells) (hn : n + rm.slots ≤ R.slots)
    (hw : ∀ v h', Q' v h' → WP x n0 Q h' (k + rm.cells) (n + rm.slots) (pc + 3) L (v.toList ++ rest)) : WP x n0 Q h k n pc L S := fun T locs X e N => by
  have hZ := ok.2.2.2.2.2.1
  have hR := ok.2.2.2.2.2.2.2.2
  obtain ⟨v, _, ⟨T', L2, k2, n2⟩, -, X', ⟨Lc, hQ, l1, y1, z1⟩, st⟩ := X.specialBack ok.1 (y := y) hy1 ok.2.2.2.1 (mvT hZ w1) (mvT hZ w2) (mvT hZ w4) hy (backOf (W := (rest.map fun v => v.category).sum) (Q := fun v h L => Q' v h ∧ Fr n0 L) C hZ w4 w3 (by rw [hR]; exact hf) (by rw [hR]; exact hl)) (g := mkF x.m pc L S) rfl (by show L.size = _; rw [ok.2.2.1]; exact hL) (Steps.refl _) (a := a) (argsL := argsL) (rest := rest) (lenOf pd hlen) hst (by show 2 * 0 + _ ≤ _; omega) (hb ok.2.1 hd) (fun _ _ => ⟨rfl, e, by rw [hR]; exact hk, by rw [hR]; exact hn⟩)
  dsimp only [Pt.U, Pt.locs, Pt.cells, Pt.slots] at X' l1 y1 z1 st hQ
  subst l1 y1 z1
  obtain ⟨s₂, o, h1, r⟩ := hw v _ hQ.1 T' _ X' rfl (Fr.app N hQ.2)
  exact ⟨s₂, o, st.trans h1, r⟩
theorem wp_virtual {y : MethodName} {cb : ByteArray} {cm : Nat} {cr : Option FieldType} {rm : Room} {index : Nat} {argsL : List Value} {Q' : Post} {ps : List FieldType} {C : String} (ok : Ok x Z own nm bytes ml rt R) (w1 : (Jvm.Cond.methodLink own index y).before a0 Z = true) (w5 : (Jvm.Cond.declares y).before a0 Z = true) (w6 : (Jvm.Cond.selects C y y).before a0 Z = true) (w2 : (Jvm.Cond.instanceMethod y).before a0 Z = true) (w3 : (Jvm.Cond.initialized y.cls).before a0 Z = true) (w4 : (Jvm.Cond.code y cb cm cr).before a0 Z = true)
    (hy : y.cls ≠ "java/lang/invoke/MethodHandle" ∧ y.cls ≠ "java/lang/invoke/VarHandle") (E : Exa Z h a C) (Cn : Con x.l Z y cb cm cr rm (Value.ref a :: argsL).toArray h n0 Q' []) (pd : parseMethodDescriptor y.desc = some ⟨ps, cr⟩) (hlen : argsL.length = ps.length) (hst : S = argsL.reverse ++ .ref a :: rest) (hL : L.size = ml) (hd : decode bytes pc = .ok (.invokevirtual index, 3))
    (hf : rm.frames + 1 ≤ R.frames) (hl : (rest.map fun v => v.category).sum + (cm + 11) + rm.locals ≤ R.locals) (hk : k + rm.cells ≤ R.cells) (hn : n + rm.slots ≤ R.slots)
    (hw : ∀ v h', Q' v h' → WP x n0 Q h' (k + rm.cells) (n + rm.slots) (pc + 3) L (v.toList ++ rest)) : WP x n0 Q h k n pc L S := fun T locs X e N => by
  have hZ := ok.2.2.2.2.2.1
  have hR := ok.2.2.2.2.2.2.2.2
  obtain ⟨cq, kq, qa, qb, qc⟩ := isOf (T := T) (s := x.s) hZ e E
  obtain ⟨v, _, ⟨T', L2, k2, n2⟩, -, X', ⟨Lc, hQ, l1, y1, z1⟩, st⟩ := X.virtualBack ok.1 (y := y) (z := y) ok.2.2.2.1 (mvT hZ w1) (mvT hZ w5) (notFace_of_selects (args := #[]) (mvT hZ w6)) (mvT hZ w6) (mvT hZ w2) hy (backOf (W := (rest.map fun v => v.category).sum) (Q := fun v h L => Q' v h ∧ Fr n0 L) Cn hZ w4 w3 (by rw [hR]; exact hf) (by rw [hR]; exact hl)) qa qc (g := mkF x.m pc L S) rfl (by show L.size = _; rw [ok.2.2.1]; exact hL) (Steps.refl _) (argsL := argsL) (rest := rest) (lenOf pd hlen) hst (by show 2 * 0 + _ ≤ _; omega) (hb ok.2.1 hd) (fun _ _ => ⟨rfl, e, by rw [hR]; exact hk, by rw [hR]; exact hn⟩)
  dsimp only [Pt.U, Pt.locs, Pt.cells, Pt.slots] at X' l1 y1 z1 st hQ
  subst l1 y1 z1
  obtain ⟨s₂, o, h1, r⟩ := hw v _ hQ.1 T' _ X' rfl (Fr.app N hQ.2)
  exact ⟨s₂, o, st.trans h1, r⟩
/-! ## arrays -/
theorem wp_newA {aty : ArrayType} {z : Int32} {cap : Nat} (ok : Ok x Z own nm bytes ml rt R) (w : (Jvm.Cond.arrayClass (newarray.typeOf aty)).before a0 Z = true) (hd : decode bytes pc = .ok (.newarray aty, 2)) (hz : ¬ z < 0) (hcap : z.toNatClampNeg ≤ cap) (hb8 : cap * 8 ≤ 536870912) (hk : k + 1 ≤ R.cells) (hn : n + cap ≤ R.slots)
    (hw : ∀ h' a cA, a = h.size → Ext h h' → Arr Z h' a (newA cA (newarray.typeOf aty) z) (newarray.typeOf aty) → WP x n0 Q h' (k + 1) (n + cap) (pc + 2) L (.ref a :: rest)) : WP x n0 Q h k n pc L (.int z :: rest) := fun T locs X e N => by
  obtain ⟨T', h', cA, X', e', E, A, st⟩ := newP X ok.1 ok.2.2.2.2.2.1 w e (g := mkF x.m pc L (.int z :: rest)) rfl (hb ok.2.1 hd) rfl hz hcap hb8 (by rw [ok.2.2.2.2.2.2.2.2]; exact hk) (by rw [ok.2.2.2.2.2.2.2.2]; exact hn)
  obtain ⟨s₂, o, h1, r⟩ := hw h' _ cA rfl E A T' _ X' e' N
  exact ⟨s₂, o, st _ h1, r⟩
theorem wp_stI {cl : Cell} {j z : Int32} (ok : Ok x Z own nm bytes ml rt R) (A : Arr Z h a cl .int) (hj : ¬ (j < 0 ∨ cl.slots.size ≤ j.toNatClampNeg)) (hd : decode bytes pc = .ok (.iastore, 1)) (ha : n0 ≤ a)
    (hw : ∀ h', Wr h h' a j.toNatClampNeg (.int z) → WP x n0 Q h' k n (pc + 1) L rest) : WP x n0 Q h k n pc L (.int z :: .int j :: .ref a :: rest) := fun T locs X e N => by
  obtain ⟨T', h', X', e', W, st⟩ := stI X ok.1 ok.2.2.2.2.2.1 e A hj (g := mkF x.m pc L (.int z :: .int j :: .ref a :: rest)) rfl rfl (hb ok.2.1 hd)
  obtain ⟨s₂, o, h1, r⟩ := hw h' W T' _ X' e' (Fr.snoc X' N ha)
  exact ⟨s₂, o, st _ h1, r⟩
theorem wp_stJ {cl : Cell} {j : Int32} {z : Int64} (ok : Ok x Z own nm bytes ml rt R) (A : Arr Z h a cl .long) (hj : ¬ (j < 0 ∨ cl.slots.size ≤ j.toNatClampNeg)) (hd : decode bytes pc = .ok (.lastore, 1)) (ha : n0 ≤ a)
    (hw : ∀ h', Wr h h' a j.toNatClampNeg (.long z) → WP x n0 Q h' k n (pc + 1) L rest) : WP x n0 Q h k n pc L (.long z :: .int j :: .ref a :: rest) := fun T locs X e N => by
  obtain ⟨T', h', X', e', W, st⟩ := stJ X ok.1 ok.2.2.2.2.2.1 e A hj (g := mkF x.m pc L (.long z :: .int j :: .ref a :: rest)) rfl rfl (hb ok.2.1 hd)
  obtain ⟨s₂, o, h1, r⟩ := hw h' W T' _ X' e' (Fr.snoc X' N ha)
  exact ⟨s₂, o, st _ h1, r⟩
theorem wp_ldI {cl : Cell} {j : Int32} (ok : Ok x Z own nm bytes ml rt R) (A : Arr Z h a cl .int) (hj : ¬ (j < 0 ∨ cl.slots.size ≤ j.toNatClampNeg)) (hv : cl.slots[j.toNatClampNeg]? = some v) (hd : decode bytes pc = .ok (.iaload, 1)) (hw : WP x n0 Q h k n (pc + 1) L (v :: rest)) : WP x n0 Q h k n pc L (.int j :: .ref a :: rest) :=
  wp_steps (fun T locs target X e hr => X.iaload ok.1 (by rw [e]; exact A.1) (State.isArrayOf_alike ok.2.2.2.2.2.1.alike A.2.1) A.2.2 hj hv (g := mkF x.m pc L (.int j :: .ref a :: rest)) rfl rfl (hb ok.2.1 hd) target hr) hw
theorem wp_ldJ {cl : Cell} {j : Int32} (ok : Ok x Z own nm bytes ml rt R) (A : Arr Z h a cl .long) (hj : ¬ (j < 0 ∨ cl.slots.size ≤ j.toNatClampNeg)) (hv : cl.slots[j.toNatClampNeg]? = some v) (hd : decode bytes pc = .ok (.laload, 1)) (hw : WP x n0 Q h k n (pc + 1) L (v :: rest)) : WP x n0 Q h k n pc L (.int j :: .ref a :: rest) :=
  wp_steps (fun T locs target X e hr => X.laload ok.1 (by rw [e]; exact A.1) (State.isArrayOf_alike ok.2.2.2.2.2.1.alike A.2.1) A.2.2 hj hv (g := mkF x.m pc L (.int j :: .ref a :: rest)) rfl rfl (hb ok.2.1 hd) target hr) hw
theorem wp_ldB {cl : Cell} {j : Int32} (ok : Ok x Z own nm bytes ml rt R) (A : Arr Z h a cl .byte) (hj : ¬ (j < 0 ∨ cl.slots.size ≤ j.toNatClampNeg)) (hv : cl.slots[j.toNatClampNeg]? = some v) (hd : decode bytes pc = .ok (.baload, 1)) (hw : WP x n0 Q h k n (pc + 1) L (v :: rest)) : WP x n0 Q h k n pc L (.int j :: .ref a :: rest) :=
  wp_steps (fun T locs target X e hr => X.baloadBytes ok.1 (by rw [e]; exact A.1) (State.isArrayOf_alike ok.2.2.2.2.2.1.alike A.2.1) A.2.2 hj hv (g := mkF x.m pc L (.int j :: .ref a :: rest)) rfl rfl (hb ok.2.1 hd) target hr) hw
theorem wp_ldZ {cl : Cell} {j : Int32} (ok : Ok x Z own nm bytes ml rt R) (A : Arr Z h a cl .boolean) (hj : ¬ (j < 0 ∨ cl.slots.size ≤ j.toNatClampNeg)) (hv : cl.slots[j.toNatClampNeg]? = some v) (hd : decode bytes pc = .ok (.baload, 1)) (hw : WP x n0 Q h k n (pc + 1) L (v :: rest)) : WP x n0 Q h k n pc L (.int j :: .ref a :: rest) :=
  wp_steps (fun T locs target X e hr => X.baloadBooleans ok.1 (by rw [e]; exact A.1) (State.isArrayOf_alike ok.2.2.2.2.2.1.alike A.2.1) A.2.2 hj hv (g := mkF x.m pc L (.int j :: .ref a :: rest)) rfl rfl (hb ok.2.1 hd) target hr) hw
theorem wp_len {cl : Cell} {ty : FieldType} (ok : Ok x Z own nm bytes ml rt R) (A : Arr Z h a cl ty) (hd : decode bytes pc = .ok (.arraylength, 1)) (hw : WP x n0 Q h k n (pc + 1) L (.int cl.slots.size.toInt32 :: rest)) : WP x n0 Q h k n pc L (.ref a :: rest) :=
  wp_steps (fun T locs target X e hr => X.arraylength ok.1 (by rw [e]; exact A.1) (State.isArrayOf_alike ok.2.2.2.2.2.1.alike A.2.1) (g := mkF x.m pc L (.ref a :: rest)) rfl rfl (hb ok.2.1 hd) target hr) hw
end Rules
end Jvm.OwnW
namespace Jvm.OwnW
open Jvm.RoadKit
theorem c_lmod (x y : Int64) (d : Int) (hy : y.toInt = d) : (0 ≤ x.toInt → (x % y).toInt = x.toInt % d) ∧ (x.toInt < 0 → (x % y).toInt = -((-x.toInt) % d)) := by rw [← lrem_mod]; exact c_lrem x y d hy
theorem x_ladd {x y : Int64} (h1 : -9223372036854775808 ≤ x.toInt + y.toInt) (h2 : x.toInt + y.toInt < 9223372036854775808) : (x + y).toInt = x.toInt + y.toInt := by
  have := c_ladd x y; have := (x + y).toInt_lt; have := (x + y).le_toInt; omega
theorem x_lsub {x y : Int64} (h1 : -9223372036854775808 ≤ x.toInt - y.toInt) (h2 : x.toInt - y.toInt < 9223372036854775808) : (x - y).toInt = x.toInt - y.toInt := by
  have := c_lsub x y; have := (x - y).toInt_lt; have := (x - y).le_toInt; omega
theorem x_lmul {x y : Int64} (h1 : -9223372036854775808 ≤ x.toInt * y.toInt) (h2 : x.toInt * y.toInt < 9223372036854775808) : (x * y).toInt = x.toInt * y.toInt := by
  have q := c_lmul x y; have := (x * y).toInt_lt; have := (x * y).le_toInt
  generalize x.toInt * y.toInt = p at *; omega
theorem x_iadd {x y : Int32} (h1 : -2147483648 ≤ x.toInt + y.toInt) (h2 : x.toInt + y.toInt < 2147483648) : (x + y).toInt = x.toInt + y.toInt := by
  have := c_iadd x y; have := (x + y).toInt_lt; have := (x + y).le_toInt; omega
theorem x_isub {x y : Int32} (h1 : -2147483648 ≤ x.toInt - y.toInt) (h2 : x.toInt - y.toInt < 2147483648) : (x - y).toInt = x.toInt - y.toInt := by
  have := c_isub x y; have := (x - y).toInt_lt; have := (x - y).le_toInt; omega
theorem x_imul {x y : Int32} (h1 : -2147483648 ≤ x.toInt * y.toInt) (h2 : x.toInt * y.toInt < 2147483648) : (x * y).toInt = x.toInt * y.toInt := by
  have q := c_imul x y; have := (x * y).toInt_lt; have := (x * y).le_toInt
  generalize x.toInt * y.toInt = p at *; omega
theorem nar01 {z : Int32} (h : z = 0 ∨ z = 1) : nar .boolean z = z := by rcases h with rfl | rfl <;> rfl
end Jvm.OwnW
namespace Jvm.OwnW
open Sem ClassFile Op Lib Jvm.Free Jvm.Stand Jvm.LawKit Jvm.RoadKit Jvm.Free.XT
/-! ## plain steps, by evaluation: a block of instructions from a frame to a frame, with the props that it asks (a branch's direction, a divisor) -/
def ush (x y : Int32) : Int32 := (x.toUInt32 >>> (y &&& 31).toUInt32).toInt32
def ushL (x : Int64) (y : Int32) : Int64 := (x.toUInt64 >>> (y &&& 63).toInt64.toUInt64).toInt64
theorem c_ush (x q : Int32) (k : Nat) (hk : q.toBitVec.toNat % 32 = k) (h0 : 0 < k) : (ush x q).toInt = (x.toInt % 4294967296) / (2 ^ k : Nat) := c_iushr x q k hk h0
theorem c_ushL (x : Int64) (q : Int32) (k : Nat) (hk : q.toBitVec.toNat % 64 = k) (h0 : 0 < k) : (ushL x q).toInt = (x.toInt % 18446744073709551616) / (2 ^ k : Nat) := c_lushr x q k hk h0
abbrev Res : Type := Option (List Prop × Nat × Array Slot × List Value)
def bin32 (f : Int32 → Int32 → Int32) (pc : Nat) (L : Array Slot) : List Value → Res
  | .int y :: .int z :: r => some ([], pc + 1, L, .int (f z y) :: r)
  | _ => none
def bin64 (f : Int64 → Int64 → Int64) (pc : Nat) (L : Array Slot) : List Value → Res
  | .long y :: .long z :: r => some ([], pc + 1, L, .long (f z y) :: r)
  | _ => none
def sh64 (f : Int64 → Int32 → Int64) (pc : Nat) (L : Array Slot) : List Value → Res
  | .int y :: .long z :: r => some ([], pc + 1, L, .long (f z y) :: r)
  | _ => none
def un32 (f : Int32 → Value) (pc : Nat) (L : Array Slot) : List Value → Res
  | .int z :: r => some ([], pc + 1, L, f z :: r)
  | _ => none
def un64 (f : Int64 → Value) (pc : Nat) (L : Array Slot) : List Value → Res
  | .long z :: r => some ([], pc + 1, L, f z :: r)
  | _ => none
def ldK (ok : Value → Bool) (i pc' : Nat) (L : Array Slot) (S : List Value) : Res :=
  match L[i]? with
  | some (.val v) => if ok v = true then some ([], pc', L, v :: S) else none
  | _ => none
def stK (ok : Value → Bool) (i pc' : Nat) (L : Array Slot) : List Value → Res
  | v :: r => if ok v = true then (match storeLocals L i v with | some L' => some ([], pc', L', r) | none => none) else none
  | [] => none
def isI : Value → Bool | .int _ => true | _ => false
def isJ : Value → Bool | .long _ => true | _ => false
def constI : Option Value → Option Int32 | some (.int z) => some z | _ => none
def constJ : Option Value → Option Int64 | some (.long z) => some z | _ => none
def look (K : List (Nat × Value)) (i : Nat) : Option Value := match K with
  | [] => none
  | (j, v) :: r => if j = i then some v else look r i
def jump (pc : Nat) (o : Int) : Option Nat := if 0 ≤ (pc : Int) + o then some ((pc : Int) + o).toNat else none
def br (p : Prop) (b : Bool) (pc : Nat) (o : Int) (L : Array Slot) (S : List Value) : Res :=
  if b = true then (match jump pc o with | some q => some ([p], q, L, S) | none => none) else some ([p], pc + 3, L, S)
def stp (K : List (Nat × Value)) (b : Bool) (i : Instr) (pc : Nat) (L : Array Slot) (S : List Value) : Res :=
  match i with
  | .iconst z => some ([], pc + 1, L, .int (Int32.ofInt z) :: S)
  | .bipush z => some ([], pc + 2, L, .int (Int8.ofInt z).toInt32 :: S)
  | .sipush z => some ([], pc + 3, L, .int (Int16.ofInt z).toInt32 :: S)
  | .lconst z => some ([], pc + 1, L, .long (Int64.ofNat z) :: S)
  | .aconst_null => some ([], pc + 1, L, .null :: S)
  | .ldc j => (match constI (look K j) with | some z => some ([], pc + 2, L, .int z :: S) | none => none)
  | .ldc2_w j => (match constJ (look K j) with | some z => some ([], pc + 3, L, .long z :: S) | none => none)
  | .iload_n j => ldK isI j.val (pc + 1) L S
  | .iload j => ldK isI j (pc + 2) L S
  | .lload_n j => ldK isJ j.val (pc + 1) L S
  | .lload j => ldK isJ j (pc + 2) L S
  | .aload_n j => ldK Value.isRef j.val (pc + 1) L S
  | .aload j => ldK Value.isRef j (pc + 2) L S
  | .istore_n j => stK isI j.val (pc + 1) L S
  | .istore j => stK isI j (pc + 2) L S
  | .lstore_n j => stK isJ j.val (pc + 1) L S
  | .lstore j => stK isJ j (pc + 2) L S
  | .astore_n j => stK Value.isRef j.val (pc + 1) L S
  | .astore j => stK Value.isRef j (pc + 2) L S
  | .iadd => bin32 (fun z y => z + y) pc L S
  | .isub => bin32 (fun z y => z - y) pc L S
  | .imul => bin32 (fun z y => z * y) pc L S
  | .iand => bin32 (fun z y => z &&& y) pc L S
  | .ior => bin32 (fun z y => z ||| y) pc L S
  | .ixor => bin32 (fun z y => z ^^^ y) pc L S
  | .ishl => bin32 (fun z y => z <<< (y &&& 31)) pc L S
  | .ishr => bin32 (fun z y => z >>> (y &&& 31)) pc L S
  | .iushr => bin32 (fun z y => ush z y) pc L S
  | .ladd => bin64 (fun z y => z + y) pc L S
  | .lsub => bin64 (fun z y => z - y) pc L S
  | .lmul => bin64 (fun z y => z * y) pc L S
  | .land => bin64 (fun z y => z &&& y) pc L S
  | .lor => bin64 (fun z y => z ||| y) pc L S
  | .lxor => bin64 (fun z y => z ^^^ y) pc L S
  | .lshl => sh64 (fun z y => z <<< (y &&& 63).toInt64) pc L S
  | .lshr => sh64 (fun z y => z >>> (y &&& 63).toInt64) pc L S
  | .lushr => sh64 (fun z y => ushL z y) pc L S
  | .ineg => un32 (fun z => .int (-z)) pc L S
  | .lneg => un64 (fun z => .long (-z)) pc L S
  | .i2l => un32 (fun z => .long z.toInt64) pc L S
  | .l2i => un64 (fun z => .int z.toInt32) pc L S
  | .i2b => un32 (fun z => .int z.toInt8.toInt32) pc L S
  | .i2c => un32 (fun z => .int z.toUInt32.toUInt16.toUInt32.toInt32) pc L S
  | .i2s => un32 (fun z => .int z.toInt16.toInt32) pc L S
  | .idiv => (match S with | .int y :: .int z :: r => some ([y ≠ 0], pc + 1, L, .int (z / y) :: r) | _ => none)
  | .irem => (match S with | .int y :: .int z :: r => some ([y ≠ 0], pc + 1, L, .int (z % y) :: r) | _ => none)
  | .ldiv => (match S with | .long y :: .long z :: r => some ([y ≠ 0], pc + 1, L, .long (z / y) :: r) | _ => none)
  | .lrem => (match S with | .long y :: .long z :: r => some ([y ≠ 0], pc + 1, L, .long (z % y) :: r) | _ => none)
  | .lcmp => (match S with | .long y :: .long z :: r => some ([], pc + 1, L, .int (cmpL z y) :: r) | _ => none)
  | .pop => (match S with | v :: r => if v.category = 1 then some ([], pc + 1, L, r) else none | _ => none)
  | .dup => (match S with | v :: r => if v.category = 1 then some ([], pc + 1, L, v :: v :: r) else none | _ => none)
  | .dup_x1 => (match S with | v :: w :: r => if v.category = 1 ∧ w.category = 1 then some ([], pc + 1, L, v :: w :: v :: r) else none | _ => none)
  | .dup2 => (match S with | v :: w :: r => if v.category = 1 ∧ w.category = 1 then some ([], pc + 1, L, v :: w :: v :: w :: r) else none | _ => none)
  | .iinc j c => (match L[j]? with | some (.val (.int z)) => (match storeLocals L j (.int (z + Int32.ofInt c)) with | some L' => some ([], pc + 3, L', S) | none => none) | _ => none)
  | .goto o => (match jump pc o with | some q => some ([], q, L, S) | none => none)
  | .ifCond cd o => (match S with | .int z :: r => br (ifCond.holds cd z = b) b pc o L r | _ => none)
  | .if_icmp cd o => (match S with | .int y :: .int z :: r => br (if_icmp.holds cd z y = b) b pc o L r | _ => none)
  | .ifnull o => (match S with | .null :: r => if b = true then br True b pc o L r else none | .ref _ :: r => if b = true then none else br True b pc o L r | _ => none)
  | .ifnonnull o => (match S with | .null :: r => if b = true then none else br True b pc o L r | .ref _ :: r => if b = true then br True b pc o L r else none | _ => none)
  | _ => none
def ilen : Instr → Nat
  | .bipush _ => 2 | .ldc _ => 2 | .iload _ => 2 | .lload _ => 2 | .aload _ => 2 | .istore _ => 2 | .lstore _ => 2 | .astore _ => 2
  | .sipush _ => 3 | .ldc2_w _ => 3 | .iinc _ _ => 3 | .goto _ => 3 | .ifCond _ _ => 3 | .if_icmp _ _ => 3 | .ifnull _ => 3 | .ifnonnull _ => 3
  | _ => 1
def runL (K : List (Nat × Value)) : List (Nat × Instr × Bool) → Nat → Array Slot → List Value → Res
  | [], pc, L, S => some ([], pc, L, S)
  | (q, i, b) :: r, pc, L, S => if q = pc then (match stp K b i pc L S with
      | none => none
      | some (ps, pc', L', S') => match runL K r pc' L' S' with
        | none => none
        | some (ps', t) => some (ps ++ ps', t)) else none
def decs (bytes : ByteArray) (B : List (Nat × Instr × Bool)) : Bool := B.all fun q => decide (decode bytes q.1 = .ok (q.2.1, ilen q.2.1))
def allP : List Prop → Prop
  | [] => True
  | p :: r => p ∧ allP r
theorem allP_append {ps qs : List Prop} (h : allP (ps ++ qs)) : allP ps ∧ allP qs := by
  induction ps with
  | nil => exact ⟨trivial, h⟩
  | cons p r ih => exact ⟨⟨h.1, (ih h.2).1⟩, (ih h.2).2⟩
def Konst (Z : State) (a0 : Array Value) (own : String) : List (Nat × Value) → Prop
  | [] => True
  | (i, v) :: r => ((∃ z, v = .int z ∧ (Jvm.Cond.constant own i z).before a0 Z = true) ∨ (∃ z, v = .long z ∧ (Jvm.Cond.constantLong own i z).before a0 Z = true)) ∧ Konst Z a0 own r
theorem look_spec {Z : State} {a0 : Array Value} {own : String} {K : List (Nat × Value)} (hK : Konst Z a0 own K) {i : Nat} {v : Value} (h : look K i = some v) : (∃ z, v = .int z ∧ (Jvm.Cond.constant own i z).before a0 Z = true) ∨ (∃ z, v = .long z ∧ (Jvm.Cond.constantLong own i z).before a0 Z = true) := by
  induction K with
  | nil => cases h
  | cons q r ih =>
    obtain ⟨j, w⟩ := q
    simp only [look] at h
    split at h
    · rename_i e; subst e; cases h; exact hK.1
    · exact ih hK.2 h
theorem constI_spec {o : Option Value} {z : Int32} (h : constI o = some z) : o = some (.int z) := by
  cases o with
  | none => cases h
  | some v => cases v <;> simp [constI] at h; rw [h]
theorem constJ_spec {o : Option Value} {z : Int64} (h : constJ o = some z) : o = some (.long z) := by
  cases o with
  | none => cases h
  | some v => cases v <;> simp [constJ] at h; rw [h]
theorem ldK_spec {ok : Value → Bool} {i q : Nat} {L : Array Slot} {S : List Value} {ps : List Prop} {pc' : Nat} {L' : Array Slot} {S' : List Value} (h : ldK ok i q L S = some (ps, pc', L', S')) : ∃ v, L[i]? = some (.val v) ∧ ok v = true ∧ pc' = q ∧ L' = L ∧ S' = v :: S := by
  unfold ldK at h
  split at h
  · split at h
    · rename_i v e1 e2; cases h; exact ⟨v, e1, e2, rfl, rfl, rfl⟩
    · cases h
  · cases h
theorem stK_spec {ok : Value → Bool} {i q : Nat} {L : Array Slot} {S : List Value} {ps : List Prop} {pc' : Nat} {L' : Array Slot} {S' : List Value} (h : stK ok i q L S = some (ps, pc', L', S')) : ∃ v, S = v :: S' ∧ ok v = true ∧ pc' = q ∧ storeLocals L i v = some L' := by
  cases S with
  | nil => cases h
  | cons v r =>
    simp only [stK] at h
    split at h
    · split at h
      · rename_i e1 _ _ e2; cases h; exact ⟨v, rfl, e1, rfl, e2⟩
      · cases h
    · cases h
theorem isI_spec {v : Value} (h : isI v = true) : ∃ z, v = .int z := by cases v <;> simp [isI] at h ⊢
theorem isJ_spec {v : Value} (h : isJ v = true) : ∃ z, v = .long z := by cases v <;> simp [isJ] at h ⊢
theorem bin32_spec {f : Int32 → Int32 → Int32} {pc : Nat} {L : Array Slot} {S : List Value} {ps : List Prop} {pc' : Nat} {L' : Array Slot} {S' : List Value} (h : bin32 f pc L S = some (ps, pc', L', S')) : ∃ z y r, S = .int y :: .int z :: r ∧ pc' = pc + 1 ∧ L' = L ∧ S' = .int (f z y) :: r := by
  unfold bin32 at h; split at h
  · cases h; exact ⟨_, _, _, rfl, rfl, rfl, rfl⟩
  · cases h
theorem bin64_spec {f : Int64 → Int64 → Int64} {pc : Nat} {L : Array Slot} {S : List Value} {ps : List Prop} {pc' : Nat} {L' : Array Slot} {S' : List Value} (h : bin64 f pc L S = some (ps, pc', L', S')) : ∃ z y r, S = .long y :: .long z :: r ∧ pc' = pc + 1 ∧ L' = L ∧ S' = .long (f z y) :: r := by
  unfold bin64 at h; split at h
  · cases h; exact ⟨_, _, _, rfl, rfl, rfl, rfl⟩
  · cases h
theorem sh64_spec {f : Int64 → Int32 → Int64} {pc : Nat} {L : Array Slot} {S : List Value} {ps : List Prop} {pc' : Nat} {L' : Array Slot} {S' : List Value} (h : sh64 f pc L S = some (ps, pc', L', S')) : ∃ z y r, S = .int y :: .long z :: r ∧ pc' = pc + 1 ∧ L' = L ∧ S' = .long (f z y) :: r := by
  unfold sh64 at h; split at h
  · cases h; exact ⟨_, _, _, rfl, rfl, rfl, rfl⟩
  · cases h
theorem un32_spec {f : Int32 → Value} {pc : Nat} {L : Array Slot} {S : List Value} {ps : List Prop} {pc' : Nat} {L' : Array Slot} {S' : List Value} (h : un32 f pc L S = some (ps, pc', L', S')) : ∃ z r, S = .int z :: r ∧ pc' = pc + 1 ∧ L' = L ∧ S' = f z :: r := by
  unfold un32 at h; split at h
  · cases h; exact ⟨_, _, rfl, rfl, rfl, rfl⟩
  · cases h
theorem un64_spec {f : Int64 → Value} {pc : Nat} {L : Array Slot} {S : List Value} {ps : List Prop} {pc' : Nat} {L' : Array Slot} {S' : List Value} (h : un64 f pc L S = some (ps, pc', L', S')) : ∃ z r, S = .long z :: r ∧ pc' = pc + 1 ∧ L' = L ∧ S' = f z :: r := by
  unfold un64 at h; split at h
  · cases h; exact ⟨_, _, rfl, rfl, rfl, rfl⟩
  · cases h
theorem jump_spec {pc q : Nat} {o : Int} (h : jump pc o = some q) : 0 ≤ (pc : Int) + o ∧ ((pc : Int) + o).toNat = q := by
  unfold jump at h; split at h
  · cases h; exact ⟨by assumption, rfl⟩
  · cases h
theorem br_spec {p : Prop} {b : Bool} {pc : Nat} {o : Int} {L : Array Slot} {S : List Value} {ps : List Prop} {pc' : Nat} {L' : Array Slot} {S' : List Value} (h : br p b pc o L S = some (ps, pc', L', S')) : ps = [p] ∧ L' = L ∧ S' = S ∧ ((b = true ∧ jump pc o = some pc') ∨ (b = false ∧ pc' = pc + 3)) := by
  unfold br at h; split at h
  · rename_i e; split at h
    · rename_i e2; cases h; exact ⟨rfl, rfl, rfl, Or.inl ⟨e, e2⟩⟩
    · cases h
  · rename_i e; cases h; exact ⟨rfl, rfl, rfl, Or.inr ⟨by simpa using e, rfl⟩⟩
section Run
variable {x : Cx} {Z : State} {own nm : String} {bytes : ByteArray} {ml : Nat} {rt : Option FieldType} {R : Room} {n0 : Nat} {Q : Post} {h : Heap} {k n : Nat} {pc pc' : Nat} {L L' : Array Slot} {S S' rest : List Value} {a0 : Array Value} {K : List (Nat × Value)} {ps : List Prop}
theorem stp_ok (ok : Ok x Z own nm bytes ml rt R) (hK : Konst Z a0 own K) {b : Bool} {i : Instr} (hd : decode bytes pc = .ok (i, ilen i)) (hs : stp K b i pc L S = some (ps, pc', L', S')) (hp : allP ps)
    {T : State} {locs : List Loc} {target : State} (X : Sd x T locs k n) (hr : Steps x.p.tables x.e x.below (T.setTop (mkF x.m pc' L' S')) target) : Steps x.p.tables x.e x.below (T.setTop (mkF x.m pc L S)) target := by
  obtain ⟨hx, hby, -, hown, -, hZ, -⟩ := ok
  have hd' := hb hby hd
  have hA : At T x.m x.c x.below := X.here
  cases i
  case iconst z => cases hs; exact XS.iconst hA hx rfl hd' hr
  case bipush z => cases hs; exact XS.bipush hA hx rfl hd' hr
  case sipush z => cases hs; exact XS.sipush hA hx rfl hd' hr
  case lconst z => cases hs; exact XS.lconst hA hx rfl hd' hr
  case aconst_null => cases hs; exact XS.aconstNull hA hx rfl hd' hr
  case ldc j =>
    simp only [stp] at hs
    split at hs
    · rename_i e
      cases hs
      rcases look_spec hK (constI_spec e) with ⟨z, e1, e2⟩ | ⟨z, e1, e2⟩
      · cases e1; exact X.ldcI hx hown (mvT hZ e2) rfl hd' hr
      · cases e1
    · cases hs
  case ldc2_w j =>
    simp only [stp] at hs
    split at hs
    · rename_i e
      cases hs
      rcases look_spec hK (constJ_spec e) with ⟨z, e1, e2⟩ | ⟨z, e1, e2⟩
      · cases e1
      · cases e1; exact X.ldc2J hx hown (mvT hZ e2) rfl hd' hr
    · cases hs
  case iload_n j => obtain ⟨v, e1, e2, rfl, rfl, rfl⟩ := ldK_spec hs; obtain ⟨z, rfl⟩ := isI_spec e2; exact XS.iloadN hA hx rfl hd' e1 hr
  case iload j => obtain ⟨v, e1, e2, rfl, rfl, rfl⟩ := ldK_spec hs; obtain ⟨z, rfl⟩ := isI_spec e2; exact XS.iload hA hx rfl hd' e1 hr
  case lload_n j => obtain ⟨v, e1, e2, rfl, rfl, rfl⟩ := ldK_spec hs; obtain ⟨z, rfl⟩ := isJ_spec e2; exact XS.lloadN hA hx rfl hd' e1 hr
  case lload j => obtain ⟨v, e1, e2, rfl, rfl, rfl⟩ := ldK_spec hs; obtain ⟨z, rfl⟩ := isJ_spec e2; exact XS.lload hA hx rfl hd' e1 hr
  case aload_n j => obtain ⟨v, e1, e2, rfl, rfl, rfl⟩ := ldK_spec hs; exact XS.aloadN hA hx rfl hd' e1 e2 hr
  case aload j => obtain ⟨v, e1, e2, rfl, rfl, rfl⟩ := ldK_spec hs; exact XS.aload hA hx rfl hd' e1 e2 hr
  case istore_n j => obtain ⟨v, rfl, e2, rfl, e3⟩ := stK_spec hs; obtain ⟨z, rfl⟩ := isI_spec e2; exact XS.istoreN hA hx rfl hd' rfl e3 hr
  case istore j => obtain ⟨v, rfl, e2, rfl, e3⟩ := stK_spec hs; obtain ⟨z, rfl⟩ := isI_spec e2; exact XS.istore hA hx rfl hd' rfl e3 hr
  case lstore_n j => obtain ⟨v, rfl, e2, rfl, e3⟩ := stK_spec hs; obtain ⟨z, rfl⟩ := isJ_spec e2; exact XS.lstoreN hA hx rfl hd' rfl e3 hr
  case lstore j => obtain ⟨v, rfl, e2, rfl, e3⟩ := stK_spec hs; obtain ⟨z, rfl⟩ := isJ_spec e2; exact XS.lstore hA hx rfl hd' rfl e3 hr
  case astore_n j => obtain ⟨v, rfl, e2, rfl, e3⟩ := stK_spec hs; exact XS.astoreN hA hx rfl hd' rfl e2 e3 hr
  case astore j => obtain ⟨v, rfl, e2, rfl, e3⟩ := stK_spec hs; exact XS.astore hA hx rfl hd' rfl e2 e3 hr
  case iadd => obtain ⟨z, y, r, rfl, rfl, rfl, rfl⟩ := bin32_spec hs; exact XS.iadd hA hx rfl hd' rfl hr
  case isub => obtain ⟨z, y, r, rfl, rfl, rfl, rfl⟩ := bin32_spec hs; exact XS.isub hA hx rfl hd' rfl hr
  case imul => obtain ⟨z, y, r, rfl, rfl, rfl, rfl⟩ := bin32_spec hs; exact XS.imul hA hx rfl hd' rfl hr
  case iand => obtain ⟨z, y, r, rfl, rfl, rfl, rfl⟩ := bin32_spec hs; exact XS.iand hA hx rfl hd' rfl hr
  case ior => obtain ⟨z, y, r, rfl, rfl, rfl, rfl⟩ := bin32_spec hs; exact XS.ior hA hx rfl hd' rfl hr
  case ixor => obtain ⟨z, y, r, rfl, rfl, rfl, rfl⟩ := bin32_spec hs; exact XS.ixor hA hx rfl hd' rfl hr
  case ishl => obtain ⟨z, y, r, rfl, rfl, rfl, rfl⟩ := bin32_spec hs; exact XS.ishl hA hx rfl hd' rfl hr
  case ishr => obtain ⟨z, y, r, rfl, rfl, rfl, rfl⟩ := bin32_spec hs; exact XS.ishr hA hx rfl hd' rfl hr
  case iushr => obtain ⟨z, y, r, rfl, rfl, rfl, rfl⟩ := bin32_spec hs; exact XS.iushr hA hx rfl hd' rfl hr
  case ladd => obtain ⟨z, y, r, rfl, rfl, rfl, rfl⟩ := bin64_spec hs; exact XS.ladd hA hx rfl hd' rfl hr
  case lsub => obtain ⟨z, y, r, rfl, rfl, rfl, rfl⟩ := bin64_spec hs; exact XS.lsub hA hx rfl hd' rfl hr
  case lmul => obtain ⟨z, y, r, rfl, rfl, rfl, rfl⟩ := bin64_spec hs; exact XS.lmul hA hx rfl hd' rfl hr
  case land => obtain ⟨z, y, r, rfl, rfl, rfl, rfl⟩ := bin64_spec hs; exact XS.land hA hx rfl hd' rfl hr
  case lor => obtain ⟨z, y, r, rfl, rfl, rfl, rfl⟩ := bin64_spec hs; exact XS.lor hA hx rfl hd' rfl hr
  case lxor => obtain ⟨z, y, r, rfl, rfl, rfl, rfl⟩ := bin64_spec hs; exact XS.lxor hA hx rfl hd' rfl hr
  case lshl => obtain ⟨z, y, r, rfl, rfl, rfl, rfl⟩ := sh64_spec hs; exact XS.lshl hA hx rfl hd' rfl hr
  case lshr => obtain ⟨z, y, r, rfl, rfl, rfl, rfl⟩ := sh64_spec hs; exact XS.lshr hA hx rfl hd' rfl hr
  case lushr => obtain ⟨z, y, r, rfl, rfl, rfl, rfl⟩ := sh64_spec hs; exact XS.lushr hA hx rfl hd' rfl hr
  case ineg => obtain ⟨z, r, rfl, rfl, rfl, rfl⟩ := un32_spec hs; exact XS.ineg hA hx rfl hd' rfl hr
  case lneg => obtain ⟨z, r, rfl, rfl, rfl, rfl⟩ := un64_spec hs; exact XS.lneg hA hx rfl hd' rfl hr
  case i2l => obtain ⟨z, r, rfl, rfl, rfl, rfl⟩ := un32_spec hs; exact XS.i2l hA hx rfl hd' rfl hr
  case l2i => obtain ⟨z, r, rfl, rfl, rfl, rfl⟩ := un64_spec hs; exact XS.l2i hA hx rfl hd' rfl hr
  case i2b => obtain ⟨z, r, rfl, rfl, rfl, rfl⟩ := un32_spec hs; exact XS.i2b hA hx rfl hd' rfl hr
  case i2c => obtain ⟨z, r, rfl, rfl, rfl, rfl⟩ := un32_spec hs; exact XS.i2c hA hx rfl hd' rfl hr
  case i2s => obtain ⟨z, r, rfl, rfl, rfl, rfl⟩ := un32_spec hs; exact XS.i2s hA hx rfl hd' rfl hr
  case idiv =>
    simp only [stp] at hs
    split at hs
    · cases hs; exact XS.idiv hA hx rfl hd' rfl hp.1 hr
    · cases hs
  case irem =>
    simp only [stp] at hs
    split at hs
    · cases hs; exact iremM X hx rfl hd' rfl hp.1 hr
    · cases hs
  case ldiv =>
    simp only [stp] at hs
    split at hs
    · cases hs; exact XS.ldiv hA hx rfl hd' rfl hp.1 hr
    · cases hs
  case lrem =>
    simp only [stp] at hs
    split at hs
    · rename_i y z r
      cases hs
      have q : z - z / y * y = z % y := lrem_mod z y
      exact XS.lrem hA hx rfl hd' rfl hp.1 (by rw [q]; exact hr)
    · cases hs
  case lcmp =>
    simp only [stp] at hs
    split at hs
    · cases hs; exact XS.lcmp hA hx rfl hd' rfl hr
    · cases hs
  case pop =>
    simp only [stp] at hs
    split at hs
    · split at hs
      · rename_i e; cases hs; exact XS.pop hA hx rfl hd' rfl e hr
      · cases hs
    · cases hs
  case dup =>
    simp only [stp] at hs
    split at hs
    · split at hs
      · rename_i e; cases hs; exact XS.dup hA hx rfl hd' rfl e hr
      · cases hs
    · cases hs
  case dup_x1 =>
    simp only [stp] at hs
    split at hs
    · split at hs
      · rename_i e; cases hs; exact XS.dupX1 hA hx rfl hd' rfl e.1 e.2 hr
      · cases hs
    · cases hs
  case dup2 =>
    simp only [stp] at hs
    split at hs
    · split at hs
      · rename_i e; cases hs; exact XT.dup2 hA hx rfl hd' rfl e.1 e.2 hr
      · cases hs
    · cases hs
  case iinc j c =>
    simp only [stp] at hs
    split at hs
    · rename_i e1
      split at hs
      · rename_i e2; cases hs; exact XS.iinc hA hx rfl hd' e1 e2 hr
      · cases hs
    · cases hs
  case goto o =>
    simp only [stp] at hs
    split at hs
    · rename_i e; cases hs; obtain ⟨e1, e2⟩ := jump_spec e; exact XS.goto hA hx rfl rfl hd' e1 e2 hr
    · cases hs
  case ifCond cd o =>
    simp only [stp] at hs
    split at hs
    · obtain ⟨rfl, rfl, rfl, ⟨rfl, e⟩ | ⟨rfl, rfl⟩⟩ := br_spec hs
      · obtain ⟨e1, e2⟩ := jump_spec e; exact XS.ifYes hA hx rfl rfl hd' rfl hp.1 e1 e2 hr
      · exact XS.ifNo hA hx rfl hd' rfl hp.1 hr
    · cases hs
  case if_icmp cd o =>
    simp only [stp] at hs
    split at hs
    · obtain ⟨rfl, rfl, rfl, ⟨rfl, e⟩ | ⟨rfl, rfl⟩⟩ := br_spec hs
      · obtain ⟨e1, e2⟩ := jump_spec e; exact XS.icmpYes hA hx rfl rfl hd' rfl hp.1 e1 e2 hr
      · exact XS.icmpNo hA hx rfl hd' rfl hp.1 hr
    · cases hs
  case ifnull o =>
    simp only [stp] at hs
    split at hs
    · split at hs
      · rename_i e0; subst e0
        obtain ⟨rfl, rfl, rfl, ⟨-, e⟩ | ⟨e, -⟩⟩ := br_spec hs
        · obtain ⟨e1, e2⟩ := jump_spec e; exact XS.ifnullYes hA hx rfl rfl hd' rfl e1 e2 hr
        · cases e
      · cases hs
    · split at hs
      · cases hs
      · rename_i e0
        obtain ⟨rfl, rfl, rfl, ⟨e, -⟩ | ⟨-, rfl⟩⟩ := br_spec hs
        · exact absurd e e0
        · exact XS.ifnullNo hA hx rfl hd' rfl hr
    · cases hs
  case ifnonnull o =>
    simp only [stp] at hs
    split at hs
    · split at hs
      · cases hs
      · rename_i e0
        obtain ⟨rfl, rfl, rfl, ⟨e, -⟩ | ⟨-, rfl⟩⟩ := br_spec hs
        · exact absurd e e0
        · exact XS.ifnonnullNo hA hx rfl hd' rfl hr
    · split at hs
      · rename_i e0; subst e0
        obtain ⟨rfl, rfl, rfl, ⟨-, e⟩ | ⟨e, -⟩⟩ := br_spec hs
        · obtain ⟨e1, e2⟩ := jump_spec e; exact XS.ifnonnullYes hA hx rfl rfl hd' rfl e1 e2 hr
        · cases e
      · cases hs
    · cases hs
  all_goals cases hs
theorem run_ok (ok : Ok x Z own nm bytes ml rt R) (hK : Konst Z a0 own K) : ∀ (B : List (Nat × Instr × Bool)) {pc : Nat} {L : Array Slot} {S : List Value} {ps : List Prop} {pc' : Nat} {L' : Array Slot} {S' : List Value}, decs bytes B = true → runL K B pc L S = some (ps, pc', L', S') → allP ps →
    ∀ {T : State} {locs : List Loc} {target : State}, Sd x T locs k n → Steps x.p.tables x.e x.below (T.setTop (mkF x.m pc' L' S')) target → Steps x.p.tables x.e x.below (T.setTop (mkF x.m pc L S)) target
  | [], pc, L, S, ps, pc', L', S', _, hr, _, T, locs, target, X, st => by cases hr; exact st
  | (q, i, b) :: r, pc, L, S, ps, pc', L', S', hd, hr, hp, T, locs, target, X, st => by
    simp only [decs, List.all_cons, Bool.and_eq_true, decide_eq_true_eq] at hd
    simp only [runL] at hr
    split at hr
    · rename_i e; subst e
      split at hr
      · cases hr
      · rename_i ps1 pc1 L1 S1 e1
        split at hr
        · cases hr
        · rename_i ps2 t e2
          cases hr
          obtain ⟨p1, p2⟩ := allP_append hp
          exact stp_ok ok hK hd.1 e1 p1 X (run_ok ok hK r hd.2 e2 p2 X st)
    · cases hr
theorem wp_run (ok : Ok x Z own nm bytes ml rt R) (hK : Konst Z a0 own K) {B : List (Nat × Instr × Bool)} (hd : decs bytes B = true) (hr : runL K B pc L S = some (ps, pc', L', S')) (hp : allP ps) (w : WP x n0 Q h k n pc' L' S') : WP x n0 Q h k n pc L S :=
  wp_steps (fun T locs target X _ st => run_ok ok hK B hd hr hp X st) w
end Run
end Jvm.OwnW
namespace Jvm.OwnW
open Sem ClassFile Op Lib Jvm.Free Jvm.Stand Jvm.LawKit Jvm.RoadKit Jvm.Free.XT
/-! ## arrays by length and content -/
def Ar (Z : State) (h : Heap) (a : Addr) (ty : FieldType) (n : Nat) (f : Nat → Value) : Prop := ∃ c : Cell, Arr Z h a c ty ∧ c.slots.size = n ∧ ∀ i, i < n → c.slots[i]? = some (f i)
theorem idx_of {j : Int32} {i : Nat} (hj : j.toInt = i) : j.toNatClampNeg = i ∧ ¬ j < 0 := by
  refine ⟨by simp only [Int32.toNatClampNeg, hj]; exact Int.toNat_natCast i, ?_⟩
  rw [Int32.lt_iff_toInt_lt, hj]; show ¬ (i : Int) < 0; omega
theorem idx_in' {j : Int32} {i n : Nat} (hj : j.toInt = i) (hi : i < n) : ¬ (j < 0 ∨ n ≤ j.toNatClampNeg) := by
  obtain ⟨q1, q2⟩ := idx_of hj
  rw [q1]; intro q; rcases q with q | q
  · exact q2 q
  · omega
section Facts
variable {Z : State} {h h' : Heap} {a b : Addr} {ty : FieldType} {n : Nat} {f g : Nat → Value} {sl : Nat} {v : Value} {ws : List Addr}
theorem Ar.lt (A : Ar Z h a ty n f) : a < h.size := by obtain ⟨c, A, -⟩ := A; exact A.lt
theorem Ar.ext (A : Ar Z h a ty n f) (E : Ext h h') : Ar Z h' a ty n f := by obtain ⟨c, A, r⟩ := A; exact ⟨c, A.ext E, r⟩
theorem Ar.other (A : Ar Z h b ty n f) (W : Wr h h' a sl v) (q : b ≠ a) : Ar Z h' b ty n f := by obtain ⟨c, A, r⟩ := A; exact ⟨c, A.other W q, r⟩
theorem Ar.keep (A : Ar Z h a ty n f) (K : Keep h h' ws) (q : a ∉ ws) : Ar Z h' a ty n f := by obtain ⟨c, A, r⟩ := A; exact ⟨c, ⟨K.2.1 a c A.1 q, A.2⟩, r⟩
theorem Ar.cong (A : Ar Z h a ty n f) (e : ∀ i, i < n → f i = g i) : Ar Z h a ty n g := by obtain ⟨c, A, s, r⟩ := A; exact ⟨c, A, s, fun i hi => by rw [← e i hi]; exact r i hi⟩
theorem Ar.same (A : Ar Z h a ty n f) (W : Wr h h' a sl v) (hs : sl < n) : Ar Z h' a ty n (fun i => if i = sl then v else f i) := by
  obtain ⟨c, A, s, r⟩ := A
  refine ⟨_, A.same W, by rw [sz_set]; exact s, fun i hi => ?_⟩
  show (c.setSlot sl v).slots[i]? = some (if i = sl then v else f i)
  by_cases e : i = sl
  · subst e; rw [if_pos rfl]; simp [Cell.setSlot, s, hs]
  · rw [if_neg e]; simp only [Cell.setSlot]; rw [Array.getElem?_setIfInBounds_ne (Ne.symm e)]; exact r i hi
theorem Ar.new {cA : ClassId} {z : Int32} (A : Arr Z h a (newA cA ty z) ty) (hz : z.toNatClampNeg = n) : Ar Z h a ty n (fun _ => defaultValue ty) := ⟨_, A, by rw [sz_new]; exact hz, fun i hi => by simp [newA, hz, hi]⟩
theorem Ar.toArv (A : Ar Z h a ty n f) (hn : n < 2 ^ 31) (hf : ∀ i, i < n → fits ty (f i) = true) (dv : Value) : ∃ k, Arv Z h a k ty (Int32.ofNat n) ((List.range n).map f) dv := by
  obtain ⟨c, A, s, r⟩ := A
  have e : (Int32.ofNat n).toInt = n := len_toInt hn
  obtain ⟨q1, q2⟩ := idx_of e
  have gd : ∀ i, i < n → ((List.range n).map f).getD i dv = f i := fun i hi => by simp [hi]
  exact ⟨c.cls, c, A, rfl, by rw [s, q1], q2, fun i hi => by rw [s] at hi; rw [gd i hi]; exact r i hi, fun i hi => by rw [s] at hi; rw [gd i hi]; exact hf i hi⟩
theorem Ar.ofArv {k : ClassId} {z : Int32} {vs : List Value} {dv : Value} (A : Arv Z h a k ty z vs dv) (hz : z.toNatClampNeg = n) : Ar Z h a ty n (fun i => vs.getD i dv) := by
  obtain ⟨c, A, -, s, -, H, -⟩ := A
  exact ⟨c, A, s.trans hz, fun i hi => H i (by rw [s, hz]; exact hi)⟩
theorem ne_ar {C : String} {a0 : Array Value} {k : Nat} (F : Exa Z h a C) (wi : (Jvm.Cond.instantiable C k).before a0 Z = true) (G : Ar Z h b ty n f) : a ≠ b := by obtain ⟨c, A, -⟩ := G; exact ne_arr F wi A
end Facts
section Rules
variable {x : Cx} {Z : State} {own nm : String} {bytes : ByteArray} {ml : Nat} {rt : Option FieldType} {R : Room} {n0 : Nat} {Q : Post} {h : Heap} {k n : Nat} {pc : Nat} {L : Array Slot} {S rest : List Value} {a0 : Array Value} {a : Addr} {v : Value} {len i : Nat} {f : Nat → Value} {j : Int32}
theorem wp_aI (ok : Ok x Z own nm bytes ml rt R) (A : Ar Z h a .int len f) (hj : j.toInt = i) (hi : i < len) (hv : f i = v) (hd : decode bytes pc = .ok (.iaload, 1)) (hw : WP x n0 Q h k n (pc + 1) L (v :: rest)) : WP x n0 Q h k n pc L (.int j :: .ref a :: rest) := by
  obtain ⟨c, A, s, r⟩ := A
  exact wp_ldI ok A (by rw [s]; exact idx_in' hj hi) (by rw [(idx_of hj).1, ← hv]; exact r i hi) hd hw
theorem wp_aJ (ok : Ok x Z own nm bytes ml rt R) (A : Ar Z h a .long len f) (hj : j.toInt = i) (hi : i < len) (hv : f i = v) (hd : decode bytes pc = .ok (.laload, 1)) (hw : WP x n0 Q h k n (pc + 1) L (v :: rest)) : WP x n0 Q h k n pc L (.int j :: .ref a :: rest) := by
  obtain ⟨c, A, s, r⟩ := A
  exact wp_ldJ ok A (by rw [s]; exact idx_in' hj hi) (by rw [(idx_of hj).1, ← hv]; exact r i hi) hd hw
theorem wp_aB (ok : Ok x Z own nm bytes ml rt R) (A : Ar Z h a .byte len f) (hj : j.toInt = i) (hi : i < len) (hv : f i = v) (hd : decode bytes pc = .ok (.baload, 1)) (hw : WP x n0 Q h k n (pc + 1) L (v :: rest)) : WP x n0 Q h k n pc L (.int j :: .ref a :: rest) := by
  obtain ⟨c, A, s, r⟩ := A
  exact wp_ldB ok A (by rw [s]; exact idx_in' hj hi) (by rw [(idx_of hj).1, ← hv]; exact r i hi) hd hw
theorem wp_aZ (ok : Ok x Z own nm bytes ml rt R) (A : Ar Z h a .boolean len f) (hj : j.toInt = i) (hi : i < len) (hv : f i = v) (hd : decode bytes pc = .ok (.baload, 1)) (hw : WP x n0 Q h k n (pc + 1) L (v :: rest)) : WP x n0 Q h k n pc L (.int j :: .ref a :: rest) := by
  obtain ⟨c, A, s, r⟩ := A
  exact wp_ldZ ok A (by rw [s]; exact idx_in' hj hi) (by rw [(idx_of hj).1, ← hv]; exact r i hi) hd hw
theorem wp_alen {ty : FieldType} (ok : Ok x Z own nm bytes ml rt R) (A : Ar Z h a ty len f) (hd : decode bytes pc = .ok (.arraylength, 1)) (hw : WP x n0 Q h k n (pc + 1) L (.int (Int32.ofNat len) :: rest)) : WP x n0 Q h k n pc L (.ref a :: rest) := by
  obtain ⟨c, A, s, r⟩ := A
  refine wp_len ok A hd ?_
  rw [s]; exact hw
theorem wp_sI {z : Int32} (ok : Ok x Z own nm bytes ml rt R) (A : Ar Z h a .int len f) (hj : j.toInt = i) (hi : i < len) (hd : decode bytes pc = .ok (.iastore, 1)) (ha : n0 ≤ a)
    (hw : ∀ h', Wr h h' a i (.int z) → Ar Z h' a .int len (fun q => if q = i then .int z else f q) → WP x n0 Q h' k n (pc + 1) L rest) : WP x n0 Q h k n pc L (.int z :: .int j :: .ref a :: rest) := by
  have A0 := A
  obtain ⟨c, A, s, r⟩ := A
  refine wp_stI ok A (by rw [s]; exact idx_in' hj hi) hd ha ?_
  rw [(idx_of hj).1]
  exact fun h' W => hw h' W (A0.same W hi)
theorem wp_sJ {z : Int64} (ok : Ok x Z own nm bytes ml rt R) (A : Ar Z h a .long len f) (hj : j.toInt = i) (hi : i < len) (hd : decode bytes pc = .ok (.lastore, 1)) (ha : n0 ≤ a)
    (hw : ∀ h', Wr h h' a i (.long z) → Ar Z h' a .long len (fun q => if q = i then .long z else f q) → WP x n0 Q h' k n (pc + 1) L rest) : WP x n0 Q h k n pc L (.long z :: .int j :: .ref a :: rest) := by
  have A0 := A
  obtain ⟨c, A, s, r⟩ := A
  refine wp_stJ ok A (by rw [s]; exact idx_in' hj hi) hd ha ?_
  rw [(idx_of hj).1]
  exact fun h' W => hw h' W (A0.same W hi)
theorem wp_sB {z : Int32} (ok : Ok x Z own nm bytes ml rt R) (A : Ar Z h a .byte len f) (hj : j.toInt = i) (hi : i < len) (hd : decode bytes pc = .ok (.bastore, 1)) (ha : n0 ≤ a)
    (hw : ∀ h', Wr h h' a i (.int (nar .byte z)) → Ar Z h' a .byte len (fun q => if q = i then .int (nar .byte z) else f q) → WP x n0 Q h' k n (pc + 1) L rest) : WP x n0 Q h k n pc L (.int z :: .int j :: .ref a :: rest) := fun T locs X e N => by
  have A0 := A
  obtain ⟨c, A, s, r⟩ := A
  obtain ⟨T', h', X', e', W, st⟩ := stB X ok.1 ok.2.2.2.2.2.1 e A (by rw [s]; exact idx_in' hj hi) (g := mkF x.m pc L (.int z :: .int j :: .ref a :: rest)) rfl rfl (hb ok.2.1 hd)
  have W' := W
  rw [(idx_of hj).1] at W'
  obtain ⟨s₂, o, h1, r⟩ := hw h' W' (A0.same W' hi) T' _ X' e' (Fr.snoc X' N ha)
  exact ⟨s₂, o, st _ h1, r⟩
theorem wp_sZ {z : Int32} (ok : Ok x Z own nm bytes ml rt R) (A : Ar Z h a .boolean len f) (hj : j.toInt = i) (hi : i < len) (hd : decode bytes pc = .ok (.bastore, 1)) (ha : n0 ≤ a)
    (hw : ∀ h', Wr h h' a i (.int (nar .boolean z)) → Ar Z h' a .boolean len (fun q => if q = i then .int (nar .boolean z) else f q) → WP x n0 Q h' k n (pc + 1) L rest) : WP x n0 Q h k n pc L (.int z :: .int j :: .ref a :: rest) := fun T locs X e N => by
  have A0 := A
  obtain ⟨c, A, s, r⟩ := A
  obtain ⟨T', h', X', e', W, st⟩ := stZ X ok.1 ok.2.2.2.2.2.1 e A (by rw [s]; exact idx_in' hj hi) (g := mkF x.m pc L (.int z :: .int j :: .ref a :: rest)) rfl rfl (hb ok.2.1 hd)
  have W' := W
  rw [(idx_of hj).1] at W'
  obtain ⟨s₂, o, h1, r⟩ := hw h' W' (A0.same W' hi) T' _ X' e' (Fr.snoc X' N ha)
  exact ⟨s₂, o, st _ h1, r⟩
theorem wp_nA {aty : ArrayType} {z : Int32} {cap : Nat} (ok : Ok x Z own nm bytes ml rt R) (w : (Jvm.Cond.arrayClass (newarray.typeOf aty)).before a0 Z = true) (hd : decode bytes pc = .ok (.newarray aty, 2)) (hz : z.toInt = cap) (hb8 : cap * 8 ≤ 536870912) (hk : k + 1 ≤ R.cells) (hn : n + cap ≤ R.slots)
    (hw : ∀ h' a, a = h.size → Ext h h' → Ar Z h' a (newarray.typeOf aty) cap (fun _ => defaultValue (newarray.typeOf aty)) → WP x n0 Q h' (k + 1) (n + cap) (pc + 2) L (.ref a :: rest)) : WP x n0 Q h k n pc L (.int z :: rest) :=
  wp_newA ok w hd (idx_of hz).2 (Nat.le_of_eq (idx_of hz).1) hb8 hk hn fun h' a cA e E A => hw h' a e E (Ar.new A (idx_of hz).1)
end Rules
end Jvm.OwnW
namespace Jvm.OwnW
open Jvm.RoadKit
def lst (vs : List Value) : Nat → Value := fun i => vs.getD i .null
theorem lst_set {Z : State} {h : Heap} {a : Addr} {ty : ClassFile.FieldType} {n i : Nat} {v : Value} {vs vs' : List Value} (A : Ar Z h a ty n (fun q => if q = i then v else lst vs q)) (hn : vs.length = n) (hi : i < n) (e : vs.set i v = vs') : Ar Z h a ty n (lst vs') := A.cong fun q hq => by
  subst e
  by_cases p : q = i
  · subst p; rw [if_pos rfl]; simp [lst, hn, hi]
  · rw [if_neg p]; simp only [lst, List.getD_eq_getElem?_getD]; rw [List.getElem?_set_ne (Ne.symm p)]
theorem lst_new {Z : State} {h : Heap} {a : Addr} {ty : ClassFile.FieldType} {n : Nat} {v : Value} {vs : List Value} (A : Ar Z h a ty n (fun _ => v)) (e : List.replicate n v = vs) : Ar Z h a ty n (lst vs) := A.cong fun q hq => by
  subst e; simp [lst, hq]
end Jvm.OwnW
namespace Jvm.Pilot.@@N@@
open Jvm Jvm.ClassFile Sem Op Lib Jvm.Free Jvm.Stand Jvm.LawKit Jvm.RoadKit Bundle Jvm.OwnW Jvm.Free.XT Jvm.Pilot.@@N@@.Jvm.D
def lowF : Nat → Nat → Nat
  | 0, _ => 0
  | f + 1, i => if i = 0 then 0 else if i % 2 = 1 then 1 else 1 + lowF f (i / 2)
def low (i : Nat) : Nat := lowF 8 i
/-- the law's own record of the Hold: i the renewed entries as bits, j the count; or it is over -/
def SI (k : Nat) (m n d c r : Int32) : Prop := (d = 1) ∨ (d = 0 ∧ ∃ i j : Nat, 1 ≤ j ∧ j ≤ k ∧ i < 2 ^ j ∧ m = Int32.ofNat i ∧ n = Int32.ofNat j ∧ c = Int32.ofNat j ∧ r = Int32.ofNat (low i))
theorem tabE : ∀ j : Fin 7, ∀ i : Fin 64, 1 ≤ j.1 → i.1 < 2 ^ j.1 →
    i.1 + 2 ^ j.1 < 2 ^ (j.1 + 1) ∧ Int32.ofNat i.1 ||| ((1 : Int32) <<< (Int32.ofNat j.1 &&& 31)) = Int32.ofNat (i.1 + 2 ^ j.1) ∧ Int32.ofNat j.1 + 1 = Int32.ofNat (j.1 + 1) ∧
    (if Int32.ofNat (low i.1) = 0 then Int32.ofNat j.1 + 1 else Int32.ofNat (low i.1)) = Int32.ofNat (low (i.1 + 2 ^ j.1)) ∧ low (i.1 + 2 ^ j.1) ≠ 0 ∧ (0 : Int32) < Int32.ofNat (low (i.1 + 2 ^ j.1)) ∧ ¬ Int32.ofNat (i.1 + 2 ^ j.1) = 0 := by decide +kernel
theorem tabX : ∀ j : Fin 7, ∀ i : Fin 64, 1 ≤ j.1 → i.1 < 2 ^ j.1 →
    i.1 % 2 ^ (j.1 - 1) < 2 ^ (j.1 - 1) ∧ Int32.ofNat i.1 &&& (((1 : Int32) <<< ((Int32.ofNat j.1 - 1) &&& 31)) - 1) = Int32.ofNat (i.1 % 2 ^ (j.1 - 1)) ∧ Int32.ofNat j.1 - 1 = Int32.ofNat (j.1 - 1) ∧
    (if (Int32.ofNat j.1 - 1) < Int32.ofNat (low i.1) then (0 : Int32) else Int32.ofNat (low i.1)) = Int32.ofNat (low (i.1 % 2 ^ (j.1 - 1))) ∧ (Int32.ofNat (j.1 - 1) = 0 ↔ j.1 = 1) := by decide +kernel
theorem tabR : ∀ i : Fin 128, ((0 : Int32) < Int32.ofNat (low i.1) ↔ ¬ Int32.ofNat i.1 = 0) := by decide +kernel

def k_ini : List (Nat × Value) := []
def Q_ini (Z : State) (a : Addr) (ti : Int64) (tk : Int64) (fl : Int32) (t0 : Int64) (k0 : Int64) (c0 : Int32) (r0 : Int32) (h0 : Heap) : Post := fun v h => v = none ∧ Keep h0 h [a] ∧ Fld Z h a "com/example/exclude/exclude/lock/Hold" "threadId" "J" (.long ti) ∧ Fld Z h a "com/example/exclude/exclude/lock/Hold" "lease" "Lcom/example/exclude/exclude/lease/Lease;" (.null) ∧ Fld Z h a "com/example/exclude/exclude/lock/Hold" "fencingToken" "J" (.long tk) ∧ Fld Z h a "com/example/exclude/exclude/lock/Hold" "count" "I" (.int (1 : Int32)) ∧ Fld Z h a "com/example/exclude/exclude/lock/Hold" "renewedFrom" "I" (.int (if fl = (0 : Int32) then (0 : Int32) else (1 : Int32)))
theorem own_ini_1 (ti : Int64) (tk : Int64) (fl : Int32) (t0 : Int64) (k0 : Int64) (c0 : Int32) (r0 : Int32) (s36_0 : Int32) (h_s36_0 : s36_0 = (if fl = (0 : Int32) then (0 : Int32) else (1 : Int32))) : s36_0 = (if fl = (0 : Int32) then (0 : Int32) else (1 : Int32)) := by
  simp [*]
theorem pn_ini : plainFor (⟨"com/example/exclude/exclude/lock/Hold", "<init>", "(JLcom/example/exclude/exclude/lease/Lease;JZ)V"⟩ : MethodName) = true := by first | (refine plainFor_of_name ?_; simp [plainName, overriddenIn]; done) | decide +kernel
set_option maxRecDepth 65536 in
set_option maxHeartbeats 40000000 in
theorem c_ini (l : Launch) (Z : State) (a0 : Array Value) (hw : ∀ d ∈ tables_1, d.before a0 Z = true) (a : Addr) (ti : Int64) (tk : Int64) (fl : Int32) (t0 : Int64) (k0 : Int64) (c0 : Int32) (r0 : Int32) (h0 : Heap) (n0 : Nat) (Z0 : n0 ≤ h0.size) (E_a : Exa Z h0 a "com/example/exclude/exclude/lock/Hold") (F_a_threadId : Fld Z h0 a "com/example/exclude/exclude/lock/Hold" "threadId" "J" (.long t0)) (F_a_lease : Fld Z h0 a "com/example/exclude/exclude/lock/Hold" "lease" "Lcom/example/exclude/exclude/lease/Lease;" (.null)) (F_a_fencingToken : Fld Z h0 a "com/example/exclude/exclude/lock/Hold" "fencingToken" "J" (.long k0)) (F_a_count : Fld Z h0 a "com/example/exclude/exclude/lock/Hold" "count" "I" (.int c0)) (F_a_renewedFrom : Fld Z h0 a "com/example/exclude/exclude/lock/Hold" "renewedFrom" "I" (.int r0)) (g_a : n0 ≤ a) :
    Con l Z (⟨"com/example/exclude/exclude/lock/Hold", "<init>", "(JLcom/example/exclude/exclude/lease/Lease;JZ)V"⟩ : MethodName) prog_3_method_1_code 7 (none : Option FieldType) ({ frames := 1, cells := 0, slots := 0, locals := 12 } : Room) #[(.ref a), .long ti, .null, .long tk, .int fl] h0 n0 (Q_ini Z a ti tk fl t0 k0 c0 r0 h0) [] := by
  refine con_of_wp pn_ini (L0 := #[.val ((.ref a)), .val (.long ti), .second, .val (.null), .val (.long tk), .second, .val (.int fl)]) (fun m => by first | (simp [entryFrame, mkF, argsToLocals, Value.category]; done) | rfl) (fun X hl ok => ?_)
  subst hl
  have hK : Konst Z a0 "com/example/exclude/exclude/lock/Hold" k_ini := trivial
  have K0 : Keep h0 h0 [a] := Keep.refl _ _
  refine wp_run ok hK (B := [(0, .aload_n 0, false)]) (by decide +kernel) (pc' := 1) (L' := #[.val ((.ref a)), .val (.long ti), .second, .val (.null), .val (.long tk), .second, .val (.int fl)]) (S' := [(.ref a)]) rfl trivial ?_
  refine wp_initO ok (wd hw 6 rfl) (wd hw 7 rfl) (wd hw 8 rfl) (by rfl) (by decide +kernel) (by decide) (Nat.le_of_ble_eq_true rfl) ?_
  refine wp_run ok hK (B := [(4, .aload_n 0, false), (5, .lload_n 1, false)]) (by decide +kernel) (pc' := 6) (L' := #[.val ((.ref a)), .val (.long ti), .second, .val (.null), .val (.long tk), .second, .val (.int fl)]) (S' := [.long ti, (.ref a)]) rfl trivial ?_
  refine wp_putF ok (wd hw 9 rfl) F_a_threadId E_a (Or.inr ⟨(wd hw 10 rfl), rfl, rfl⟩) (wd hw 1 rfl) (ty := .long) (by decide) rfl rfl (by decide +kernel) g_a ?_
  intro h1 W2
  have F3 := F_a_threadId.same W2
  have F4 := F_a_lease.other W2 (Or.inr (slot_ne (C := "com/example/exclude/exclude/lock/Hold") (a0 := a0) (Or.inr (wd hw 12 rfl)) (Or.inr (wd hw 10 rfl)) (by decide +kernel) (t := (.object "com/example/exclude/exclude/lease/Lease")) (t' := .long) (by decide +kernel) (by decide +kernel)))
  have F5 := F_a_fencingToken.other W2 (Or.inr (slot_ne (C := "com/example/exclude/exclude/lock/Hold") (a0 := a0) (Or.inr (wd hw 14 rfl)) (Or.inr (wd hw 10 rfl)) (by decide +kernel) (t := .long) (t' := .long) (by decide +kernel) (by decide +kernel)))
  have F6 := F_a_count.other W2 (Or.inr (slot_ne (C := "com/example/exclude/exclude/lock/Hold") (a0 := a0) (Or.inl (wd hw 16 rfl)) (Or.inr (wd hw 10 rfl)) (by decide +kernel) (t := .int) (t' := .long) (by decide +kernel) (by decide +kernel)))
  have F7 := F_a_renewedFrom.other W2 (Or.inr (slot_ne (C := "com/example/exclude/exclude/lock/Hold") (a0 := a0) (Or.inl (wd hw 18 rfl)) (Or.inr (wd hw 10 rfl)) (by decide +kernel) (t := .int) (t' := .long) (by decide +kernel) (by decide +kernel)))
  have E8 := E_a.wr W2
  have Z9 : n0 ≤ h1.size := by rw [W2.size]; exact Z0
  have K10 := K0.wr W2 (Or.inl (by simp))
  refine wp_run ok hK (B := [(9, .aload_n 0, false), (10, .aload_n 3, false)]) (by decide +kernel) (pc' := 11) (L' := #[.val ((.ref a)), .val (.long ti), .second, .val (.null), .val (.long tk), .second, .val (.int fl)]) (S' := [.null, (.ref a)]) rfl trivial ?_
  refine wp_putF ok (wd hw 11 rfl) F4 E8 (Or.inr ⟨(wd hw 12 rfl), rfl, rfl⟩) (wd hw 1 rfl) (ty := (.object "com/example/exclude/exclude/lease/Lease")) (by decide) rfl rfl (by decide +kernel) g_a ?_
  intro h11 W12
  have F13 := F3.other W12 (Or.inr (slot_ne (C := "com/example/exclude/exclude/lock/Hold") (a0 := a0) (Or.inr (wd hw 10 rfl)) (Or.inr (wd hw 12 rfl)) (by decide +kernel) (t := .long) (t' := (.object "com/example/exclude/exclude/lease/Lease")) (by decide +kernel) (by decide +kernel)))
  have F14 := F4.same W12
  have F15 := F5.other W12 (Or.inr (slot_ne (C := "com/example/exclude/exclude/lock/Hold") (a0 := a0) (Or.inr (wd hw 14 rfl)) (Or.inr (wd hw 12 rfl)) (by decide +kernel) (t := .long) (t' := (.object "com/example/exclude/exclude/lease/Lease")) (by decide +kernel) (by decide +kernel)))
  have F16 := F6.other W12 (Or.inr (slot_ne (C := "com/example/exclude/exclude/lock/Hold") (a0 := a0) (Or.inl (wd hw 16 rfl)) (Or.inr (wd hw 12 rfl)) (by decide +kernel) (t := .int) (t' := (.object "com/example/exclude/exclude/lease/Lease")) (by decide +kernel) (by decide +kernel)))
  have F17 := F7.other W12 (Or.inr (slot_ne (C := "com/example/exclude/exclude/lock/Hold") (a0 := a0) (Or.inl (wd hw 18 rfl)) (Or.inr (wd hw 12 rfl)) (by decide +kernel) (t := .int) (t' := (.object "com/example/exclude/exclude/lease/Lease")) (by decide +kernel) (by decide +kernel)))
  have E18 := E8.wr W12
  have Z19 : n0 ≤ h11.size := by rw [W12.size]; exact Z9
  have K20 := K10.wr W12 (Or.inl (by simp))
  refine wp_run ok hK (B := [(14, .aload_n 0, false), (15, .lload 4, false)]) (by decide +kernel) (pc' := 17) (L' := #[.val ((.ref a)), .val (.long ti), .second, .val (.null), .val (.long tk), .second, .val (.int fl)]) (S' := [.long tk, (.ref a)]) rfl trivial ?_
  refine wp_putF ok (wd hw 13 rfl) F15 E18 (Or.inr ⟨(wd hw 14 rfl), rfl, rfl⟩) (wd hw 1 rfl) (ty := .long) (by decide) rfl rfl (by decide +kernel) g_a ?_
  intro h21 W22
  have F23 := F13.other W22 (Or.inr (slot_ne (C := "com/example/exclude/exclude/lock/Hold") (a0 := a0) (Or.inr (wd hw 10 rfl)) (Or.inr (wd hw 14 rfl)) (by decide +kernel) (t := .long) (t' := .long) (by decide +kernel) (by decide +kernel)))
  have F24 := F14.other W22 (Or.inr (slot_ne (C := "com/example/exclude/exclude/lock/Hold") (a0 := a0) (Or.inr (wd hw 12 rfl)) (Or.inr (wd hw 14 rfl)) (by decide +kernel) (t := (.object "com/example/exclude/exclude/lease/Lease")) (t' := .long) (by decide +kernel) (by decide +kernel)))
  have F25 := F15.same W22
  have F26 := F16.other W22 (Or.inr (slot_ne (C := "com/example/exclude/exclude/lock/Hold") (a0 := a0) (Or.inl (wd hw 16 rfl)) (Or.inr (wd hw 14 rfl)) (by decide +kernel) (t := .int) (t' := .long) (by decide +kernel) (by decide +kernel)))
  have F27 := F17.other W22 (Or.inr (slot_ne (C := "com/example/exclude/exclude/lock/Hold") (a0 := a0) (Or.inl (wd hw 18 rfl)) (Or.inr (wd hw 14 rfl)) (by decide +kernel) (t := .int) (t' := .long) (by decide +kernel) (by decide +kernel)))
  have E28 := E18.wr W22
  have Z29 : n0 ≤ h21.size := by rw [W22.size]; exact Z19
  have K30 := K20.wr W22 (Or.inl (by simp))
  refine wp_run ok hK (B := [(20, .aload_n 0, false), (21, .iconst 1, false)]) (by decide +kernel) (pc' := 22) (L' := #[.val ((.ref a)), .val (.long ti), .second, .val (.null), .val (.long tk), .second, .val (.int fl)]) (S' := [.int (1 : Int32), (.ref a)]) rfl trivial ?_
  refine wp_putF ok (wd hw 15 rfl) F26 E28 (Or.inl (wd hw 16 rfl)) (wd hw 1 rfl) (ty := .int) (by decide) rfl rfl (by decide +kernel) g_a ?_
  intro h31 W32
  have F33 := F23.other W32 (Or.inr (slot_ne (C := "com/example/exclude/exclude/lock/Hold") (a0 := a0) (Or.inr (wd hw 10 rfl)) (Or.inl (wd hw 16 rfl)) (by decide +kernel) (t := .long) (t' := .int) (by decide +kernel) (by decide +kernel)))
  have F34 := F24.other W32 (Or.inr (slot_ne (C := "com/example/exclude/exclude/lock/Hold") (a0 := a0) (Or.inr (wd hw 12 rfl)) (Or.inl (wd hw 16 rfl)) (by decide +kernel) (t := (.object "com/example/exclude/exclude/lease/Lease")) (t' := .int) (by decide +kernel) (by decide +kernel)))
  have F35 := F25.other W32 (Or.inr (slot_ne (C := "com/example/exclude/exclude/lock/Hold") (a0 := a0) (Or.inr (wd hw 14 rfl)) (Or.inl (wd hw 16 rfl)) (by decide +kernel) (t := .long) (t' := .int) (by decide +kernel) (by decide +kernel)))
  have F36 := F26.same W32
  have F37 := F27.other W32 (Or.inr (slot_ne (C := "com/example/exclude/exclude/lock/Hold") (a0 := a0) (Or.inl (wd hw 18 rfl)) (Or.inl (wd hw 16 rfl)) (by decide +kernel) (t := .int) (t' := .int) (by decide +kernel) (by decide +kernel)))
  have E38 := E28.wr W32
  have Z39 : n0 ≤ h31.size := by rw [W32.size]; exact Z29
  have K40 := K30.wr W32 (Or.inl (by simp))
  refine wp_run ok hK (B := [(25, .aload_n 0, false), (26, .iload 6, false)]) (by decide +kernel) (pc' := 28) (L' := #[.val ((.ref a)), .val (.long ti), .second, .val (.null), .val (.long tk), .second, .val (.int fl)]) (S' := [.int fl, (.ref a)]) rfl trivial ?_
  have J36_42 : ∀ (s36_0 : Int32) (h_s36_0 : s36_0 = (if fl = (0 : Int32) then (0 : Int32) else (1 : Int32))), WP X n0 (Q_ini Z a ti tk fl t0 k0 c0 r0 h0) h31 0 0 36 #[.val ((.ref a)), .val (.long ti), .second, .val (.null), .val (.long tk), .second, .val (.int fl)] [.int s36_0, (.ref a)] := by
    intro s36_0 h_s36_0
    refine wp_putF ok (wd hw 17 rfl) F37 E38 (Or.inl (wd hw 18 rfl)) (wd hw 1 rfl) (ty := .int) (by decide) rfl rfl (by decide +kernel) g_a ?_
    intro h43 W44
    have F45 := F33.other W44 (Or.inr (slot_ne (C := "com/example/exclude/exclude/lock/Hold") (a0 := a0) (Or.inr (wd hw 10 rfl)) (Or.inl (wd hw 18 rfl)) (by decide +kernel) (t := .long) (t' := .int) (by decide +kernel) (by decide +kernel)))
    have F46 := F34.other W44 (Or.inr (slot_ne (C := "com/example/exclude/exclude/lock/Hold") (a0 := a0) (Or.inr (wd hw 12 rfl)) (Or.inl (wd hw 18 rfl)) (by decide +kernel) (t := (.object "com/example/exclude/exclude/lease/Lease")) (t' := .int) (by decide +kernel) (by decide +kernel)))
    have F47 := F35.other W44 (Or.inr (slot_ne (C := "com/example/exclude/exclude/lock/Hold") (a0 := a0) (Or.inr (wd hw 14 rfl)) (Or.inl (wd hw 18 rfl)) (by decide +kernel) (t := .long) (t' := .int) (by decide +kernel) (by decide +kernel)))
    have F48 := F36.other W44 (Or.inr (slot_ne (C := "com/example/exclude/exclude/lock/Hold") (a0 := a0) (Or.inl (wd hw 16 rfl)) (Or.inl (wd hw 18 rfl)) (by decide +kernel) (t := .int) (t' := .int) (by decide +kernel) (by decide +kernel)))
    have F49 := F37.same W44
    have E50 := E38.wr W44
    have Z51 : n0 ≤ h43.size := by rw [W44.size]; exact Z39
    have K52 := K40.wr W44 (Or.inl (by simp))
    refine wp_retV ok (by decide +kernel) (by decide) (by decide) ?_
    exact ⟨rfl, K52, F45, F46, F47, F48, (Fld_c F49 (congrArg Value.int (own_ini_1 ti tk fl t0 k0 c0 r0 s36_0 h_s36_0)))⟩
  by_cases c41 : fl = (0 : Int32)
  · refine wp_run ok hK (B := [(28, .ifCond .eq 7, true), (35, .iconst 0, false)]) (by decide +kernel) (pc' := 36) (L' := #[.val ((.ref a)), .val (.long ti), .second, .val (.null), .val (.long tk), .second, .val (.int fl)]) (S' := [.int (0 : Int32), (.ref a)]) rfl ⟨(XT.i0_eq_t c41), trivial⟩ ?_
    exact J36_42 _ (by rw [if_pos c41])
  · refine wp_run ok hK (B := [(28, .ifCond .eq 7, false), (31, .iconst 1, false), (32, .goto 4, false)]) (by decide +kernel) (pc' := 36) (L' := #[.val ((.ref a)), .val (.long ti), .second, .val (.null), .val (.long tk), .second, .val (.int fl)]) (S' := [.int (1 : Int32), (.ref a)]) rfl ⟨(XT.i0_eq_f c41), trivial⟩ ?_
    exact J36_42 _ (by rw [if_neg c41])
def k_ent : List (Nat × Value) := []
def Q_ent (Z : State) (a : Addr) (z : Int32) (c : Int32) (r : Int32) (h0 : Heap) : Post := fun v h => v = none ∧ Keep h0 h [a] ∧ Fld Z h a "com/example/exclude/exclude/lock/Hold" "count" "I" (.int (c + (1 : Int32))) ∧ Fld Z h a "com/example/exclude/exclude/lock/Hold" "renewedFrom" "I" (.int (if z = (0 : Int32) then r else (if r = (0 : Int32) then (c + (1 : Int32)) else r)))
theorem own_ent_1 (z : Int32) (c : Int32) (r : Int32) (hc11 : z = (0 : Int32)) : r = (if z = (0 : Int32) then r else (if r = (0 : Int32) then (c + (1 : Int32)) else r)) := by
  simp [*]
theorem own_ent_2 (z : Int32) (c : Int32) (r : Int32) (hc11 : ¬ (z = (0 : Int32))) (hc18 : r = (0 : Int32)) : (c + (1 : Int32)) = (if z = (0 : Int32) then r else (if r = (0 : Int32) then (c + (1 : Int32)) else r)) := by
  simp [*]
theorem own_ent_3 (z : Int32) (c : Int32) (r : Int32) (hc11 : ¬ (z = (0 : Int32))) (hc18 : ¬ (r = (0 : Int32))) : r = (if z = (0 : Int32) then r else (if r = (0 : Int32) then (c + (1 : Int32)) else r)) := by
  simp [*]
theorem pn_ent : plainFor (⟨"com/example/exclude/exclude/lock/Hold", "enterAgain", "(Z)V"⟩ : MethodName) = true := by first | (refine plainFor_of_name ?_; simp [plainName, overriddenIn]; done) | decide +kernel
set_option maxRecDepth 65536 in
set_option maxHeartbeats 40000000 in
theorem c_ent (l : Launch) (Z : State) (a0 : Array Value) (hw : ∀ d ∈ tables_1, d.before a0 Z = true) (a : Addr) (z : Int32) (c : Int32) (r : Int32) (h0 : Heap) (n0 : Nat) (Z0 : n0 ≤ h0.size) (E_a : Exa Z h0 a "com/example/exclude/exclude/lock/Hold") (F_a_count : Fld Z h0 a "com/example/exclude/exclude/lock/Hold" "count" "I" (.int c)) (F_a_renewedFrom : Fld Z h0 a "com/example/exclude/exclude/lock/Hold" "renewedFrom" "I" (.int r)) (g_a : n0 ≤ a) :
    Con l Z (⟨"com/example/exclude/exclude/lock/Hold", "enterAgain", "(Z)V"⟩ : MethodName) prog_3_method_8_code 2 (none : Option FieldType) ({ frames := 0, cells := 0, slots := 0, locals := 0 } : Room) #[(.ref a), .int z] h0 n0 (Q_ent Z a z c r h0) [] := by
  refine con_of_wp pn_ent (L0 := #[.val ((.ref a)), .val (.int z)]) (fun m => by first | (simp [entryFrame, mkF, argsToLocals, Value.category]; done) | rfl) (fun X hl ok => ?_)
  subst hl
  have hK : Konst Z a0 "com/example/exclude/exclude/lock/Hold" k_ent := trivial
  have K0 : Keep h0 h0 [a] := Keep.refl _ _
  refine wp_run ok hK (B := [(0, .aload_n 0, false), (1, .dup, false)]) (by decide +kernel) (pc' := 2) (L' := #[.val ((.ref a)), .val (.int z)]) (S' := [(.ref a), (.ref a)]) rfl trivial ?_
  refine wp_getF ok (wd hw 15 rfl) F_a_count (by decide +kernel) ?_
  refine wp_run ok hK (B := [(5, .iconst 1, false), (6, .iadd, false)]) (by decide +kernel) (pc' := 7) (L' := #[.val ((.ref a)), .val (.int z)]) (S' := [.int (c + (1 : Int32)), (.ref a)]) rfl trivial ?_
  refine wp_putF ok (wd hw 15 rfl) F_a_count E_a (Or.inl (wd hw 16 rfl)) (wd hw 1 rfl) (ty := .int) (by decide) rfl rfl (by decide +kernel) g_a ?_
  intro h1 W2
  have F3 := F_a_count.same W2
  have F4 := F_a_renewedFrom.other W2 (Or.inr (slot_ne (C := "com/example/exclude/exclude/lock/Hold") (a0 := a0) (Or.inl (wd hw 18 rfl)) (Or.inl (wd hw 16 rfl)) (by decide +kernel) (t := .int) (t' := .int) (by decide +kernel) (by decide +kernel)))
  have E5 := E_a.wr W2
  have Z6 : n0 ≤ h1.size := by rw [W2.size]; exact Z0
  have K7 := K0.wr W2 (Or.inl (by simp))
  refine wp_run ok hK (B := [(10, .iload_n 1, false)]) (by decide +kernel) (pc' := 11) (L' := #[.val ((.ref a)), .val (.int z)]) (S' := [.int z]) rfl trivial ?_
  by_cases hc11 : z = (0 : Int32)
  · refine wp_run ok hK (B := [(11, .ifCond .eq 18, true)]) (by decide +kernel) (pc' := 29) (L' := #[.val ((.ref a)), .val (.int z)]) (S' := []) rfl ⟨(XT.i0_eq_t hc11), trivial⟩ ?_
    refine wp_retV ok (by decide +kernel) (by decide) (by decide) ?_
    exact ⟨rfl, K7, F3, (Fld_c F4 (congrArg Value.int (own_ent_1 z c r hc11)))⟩
  · refine wp_run ok hK (B := [(11, .ifCond .eq 18, false)]) (by decide +kernel) (pc' := 14) (L' := #[.val ((.ref a)), .val (.int z)]) (S' := []) rfl ⟨(XT.i0_eq_f hc11), trivial⟩ ?_
    refine wp_run ok hK (B := [(14, .aload_n 0, false)]) (by decide +kernel) (pc' := 15) (L' := #[.val ((.ref a)), .val (.int z)]) (S' := [(.ref a)]) rfl trivial ?_
    refine wp_getF ok (wd hw 17 rfl) F4 (by decide +kernel) ?_
    by_cases hc18 : r = (0 : Int32)
    · refine wp_run ok hK (B := [(18, .ifCond .ne 11, false)]) (by decide +kernel) (pc' := 21) (L' := #[.val ((.ref a)), .val (.int z)]) (S' := []) rfl ⟨(XT.i0_ne_f hc18), trivial⟩ ?_
      refine wp_run ok hK (B := [(21, .aload_n 0, false), (22, .aload_n 0, false)]) (by decide +kernel) (pc' := 23) (L' := #[.val ((.ref a)), .val (.int z)]) (S' := [(.ref a), (.ref a)]) rfl trivial ?_
      refine wp_getF ok (wd hw 15 rfl) F3 (by decide +kernel) ?_
      refine wp_putF ok (wd hw 17 rfl) F4 E5 (Or.inl (wd hw 18 rfl)) (wd hw 1 rfl) (ty := .int) (by decide) rfl rfl (by decide +kernel) g_a ?_
      intro h8 W9
      have F10 := F3.other W9 (Or.inr (slot_ne (C := "com/example/exclude/exclude/lock/Hold") (a0 := a0) (Or.inl (wd hw 16 rfl)) (Or.inl (wd hw 18 rfl)) (by decide +kernel) (t := .int) (t' := .int) (by decide +kernel) (by decide +kernel)))
      have F11 := F4.same W9
      have E12 := E5.wr W9
      have Z13 : n0 ≤ h8.size := by rw [W9.size]; exact Z6
      have K14 := K7.wr W9 (Or.inl (by simp))
      refine wp_retV ok (by decide +kernel) (by decide) (by decide) ?_
      exact ⟨rfl, K14, F10, (Fld_c F11 (congrArg Value.int (own_ent_2 z c r hc11 hc18)))⟩
    · refine wp_run ok hK (B := [(18, .ifCond .ne 11, true)]) (by decide +kernel) (pc' := 29) (L' := #[.val ((.ref a)), .val (.int z)]) (S' := []) rfl ⟨(XT.i0_ne_t hc18), trivial⟩ ?_
      refine wp_retV ok (by decide +kernel) (by decide) (by decide) ?_
      exact ⟨rfl, K7, F3, (Fld_c F4 (congrArg Value.int (own_ent_3 z c r hc11 hc18)))⟩
def k_cnt : List (Nat × Value) := []
def Q_cnt (Z : State) (a : Addr) (c : Int32) (h0 : Heap) : Post := fun v h => v = some (.int c) ∧ h0 = h
theorem pn_cnt : plainFor (⟨"com/example/exclude/exclude/lock/Hold", "count", "()I"⟩ : MethodName) = true := by first | (refine plainFor_of_name ?_; simp [plainName, overriddenIn]; done) | decide +kernel
set_option maxRecDepth 65536 in
set_option maxHeartbeats 40000000 in
theorem c_cnt (l : Launch) (Z : State) (a0 : Array Value) (hw : ∀ d ∈ tables_1, d.before a0 Z = true) (a : Addr) (c : Int32) (h0 : Heap) (n0 : Nat) (Z0 : n0 ≤ h0.size) (E_a : Exa Z h0 a "com/example/exclude/exclude/lock/Hold") (F_a_count : Fld Z h0 a "com/example/exclude/exclude/lock/Hold" "count" "I" (.int c)) (g_a : n0 ≤ a) :
    Con l Z (⟨"com/example/exclude/exclude/lock/Hold", "count", "()I"⟩ : MethodName) prog_3_method_7_code 1 (some .int) ({ frames := 0, cells := 0, slots := 0, locals := 0 } : Room) #[(.ref a)] h0 n0 (Q_cnt Z a c h0) [] := by
  refine con_of_wp pn_cnt (L0 := #[.val ((.ref a))]) (fun m => by first | (simp [entryFrame, mkF, argsToLocals, Value.category]; done) | rfl) (fun X hl ok => ?_)
  subst hl
  have hK : Konst Z a0 "com/example/exclude/exclude/lock/Hold" k_cnt := trivial
  refine wp_run ok hK (B := [(0, .aload_n 0, false)]) (by decide +kernel) (pc' := 1) (L' := #[.val ((.ref a))]) (S' := [(.ref a)]) rfl trivial ?_
  refine wp_getF ok (wd hw 15 rfl) F_a_count (by decide +kernel) ?_
  refine wp_retI ok (by decide +kernel) (by decide) (by decide) ?_
  exact ⟨rfl, rfl⟩
def k_ren : List (Nat × Value) := []
def Q_ren (Z : State) (a : Addr) (r : Int32) (h0 : Heap) : Post := fun v h => v = some (.int (if (0 : Int32) < r then (1 : Int32) else (0 : Int32))) ∧ h0 = h
theorem own_ren_1 (r : Int32) (s12_0 : Int32) (h_s12_0 : s12_0 = (if (0 : Int32) < r then (1 : Int32) else (0 : Int32))) : nar .boolean s12_0 = (if (0 : Int32) < r then (1 : Int32) else (0 : Int32)) := by
  subst h_s12_0; split <;> rfl
theorem pn_ren : plainFor (⟨"com/example/exclude/exclude/lock/Hold", "isRenewed", "()Z"⟩ : MethodName) = true := by first | (refine plainFor_of_name ?_; simp [plainName, overriddenIn]; done) | decide +kernel
set_option maxRecDepth 65536 in
set_option maxHeartbeats 40000000 in
theorem c_ren (l : Launch) (Z : State) (a0 : Array Value) (hw : ∀ d ∈ tables_1, d.before a0 Z = true) (a : Addr) (r : Int32) (h0 : Heap) (n0 : Nat) (Z0 : n0 ≤ h0.size) (E_a : Exa Z h0 a "com/example/exclude/exclude/lock/Hold") (F_a_renewedFrom : Fld Z h0 a "com/example/exclude/exclude/lock/Hold" "renewedFrom" "I" (.int r)) (g_a : n0 ≤ a) :
    Con l Z (⟨"com/example/exclude/exclude/lock/Hold", "isRenewed", "()Z"⟩ : MethodName) prog_3_method_6_code 1 (some .boolean) ({ frames := 0, cells := 0, slots := 0, locals := 0 } : Room) #[(.ref a)] h0 n0 (Q_ren Z a r h0) [] := by
  refine con_of_wp pn_ren (L0 := #[.val ((.ref a))]) (fun m => by first | (simp [entryFrame, mkF, argsToLocals, Value.category]; done) | rfl) (fun X hl ok => ?_)
  subst hl
  have hK : Konst Z a0 "com/example/exclude/exclude/lock/Hold" k_ren := trivial
  refine wp_run ok hK (B := [(0, .aload_n 0, false)]) (by decide +kernel) (pc' := 1) (L' := #[.val ((.ref a))]) (S' := [(.ref a)]) rfl trivial ?_
  refine wp_getF ok (wd hw 17 rfl) F_a_renewedFrom (by decide +kernel) ?_
  have J12_2 : ∀ (s12_0 : Int32) (h_s12_0 : s12_0 = (if (0 : Int32) < r then (1 : Int32) else (0 : Int32))), WP X n0 (Q_ren Z a r h0) h0 0 0 12 #[.val ((.ref a))] [.int s12_0] := by
    intro s12_0 h_s12_0
    refine wp_retZ ok (t := .boolean) (by simp) (by decide +kernel) (by decide) (by decide) ?_
    exact ⟨congrArg (fun z => some (Value.int z)) (own_ren_1 r s12_0 h_s12_0), rfl⟩
  by_cases c1 : (0 : Int32) < r
  · refine wp_run ok hK (B := [(4, .ifCond .le 7, false), (7, .iconst 1, false), (8, .goto 4, false)]) (by decide +kernel) (pc' := 12) (L' := #[.val ((.ref a))]) (S' := [.int (1 : Int32)]) rfl ⟨(XT.i0_le_f c1), trivial⟩ ?_
    exact J12_2 _ (by rw [if_pos c1])
  · refine wp_run ok hK (B := [(4, .ifCond .le 7, true), (11, .iconst 0, false)]) (by decide +kernel) (pc' := 12) (L' := #[.val ((.ref a))]) (S' := [.int (0 : Int32)]) rfl ⟨(XT.i0_le_t c1), trivial⟩ ?_
    exact J12_2 _ (by rw [if_neg c1])
def k_ext : List (Nat × Value) := []
def Q_ext (Z : State) (a : Addr) (c : Int32) (r : Int32) (h0 : Heap) : Post := fun v h => v = some (.int (if (c - (1 : Int32)) = (0 : Int32) then (1 : Int32) else (0 : Int32))) ∧ Keep h0 h [a] ∧ Fld Z h a "com/example/exclude/exclude/lock/Hold" "count" "I" (.int (c - (1 : Int32))) ∧ Fld Z h a "com/example/exclude/exclude/lock/Hold" "renewedFrom" "I" (.int (if (c - (1 : Int32)) < r then (0 : Int32) else r))
theorem own_ext_1 (c : Int32) (r : Int32) (hc18 : (c - (1 : Int32)) < r) (s38_0 : Int32) (h_s38_0 : s38_0 = (if (c - (1 : Int32)) = (0 : Int32) then (1 : Int32) else (0 : Int32))) : nar .boolean s38_0 = (if (c - (1 : Int32)) = (0 : Int32) then (1 : Int32) else (0 : Int32)) := by
  subst h_s38_0; split <;> rfl
theorem own_ext_2 (c : Int32) (r : Int32) (hc18 : (c - (1 : Int32)) < r) (s38_0 : Int32) (h_s38_0 : s38_0 = (if (c - (1 : Int32)) = (0 : Int32) then (1 : Int32) else (0 : Int32))) : (0 : Int32) = (if (c - (1 : Int32)) < r then (0 : Int32) else r) := by
  simp [*]
theorem own_ext_3 (c : Int32) (r : Int32) (hc18 : ¬ ((c - (1 : Int32)) < r)) (s38_0 : Int32) (h_s38_0 : s38_0 = (if (c - (1 : Int32)) = (0 : Int32) then (1 : Int32) else (0 : Int32))) : nar .boolean s38_0 = (if (c - (1 : Int32)) = (0 : Int32) then (1 : Int32) else (0 : Int32)) := by
  subst h_s38_0; split <;> rfl
theorem own_ext_4 (c : Int32) (r : Int32) (hc18 : ¬ ((c - (1 : Int32)) < r)) (s38_0 : Int32) (h_s38_0 : s38_0 = (if (c - (1 : Int32)) = (0 : Int32) then (1 : Int32) else (0 : Int32))) : r = (if (c - (1 : Int32)) < r then (0 : Int32) else r) := by
  simp [*]
theorem pn_ext : plainFor (⟨"com/example/exclude/exclude/lock/Hold", "exit", "()Z"⟩ : MethodName) = true := by first | (refine plainFor_of_name ?_; simp [plainName, overriddenIn]; done) | decide +kernel
set_option maxRecDepth 65536 in
set_option maxHeartbeats 40000000 in
theorem c_ext (l : Launch) (Z : State) (a0 : Array Value) (hw : ∀ d ∈ tables_1, d.before a0 Z = true) (a : Addr) (c : Int32) (r : Int32) (h0 : Heap) (n0 : Nat) (Z0 : n0 ≤ h0.size) (E_a : Exa Z h0 a "com/example/exclude/exclude/lock/Hold") (F_a_count : Fld Z h0 a "com/example/exclude/exclude/lock/Hold" "count" "I" (.int c)) (F_a_renewedFrom : Fld Z h0 a "com/example/exclude/exclude/lock/Hold" "renewedFrom" "I" (.int r)) (g_a : n0 ≤ a) :
    Con l Z (⟨"com/example/exclude/exclude/lock/Hold", "exit", "()Z"⟩ : MethodName) prog_3_method_9_code 1 (some .boolean) ({ frames := 0, cells := 0, slots := 0, locals := 0 } : Room) #[(.ref a)] h0 n0 (Q_ext Z a c r h0) [] := by
  refine con_of_wp pn_ext (L0 := #[.val ((.ref a))]) (fun m => by first | (simp [entryFrame, mkF, argsToLocals, Value.category]; done) | rfl) (fun X hl ok => ?_)
  subst hl
  have hK : Konst Z a0 "com/example/exclude/exclude/lock/Hold" k_ext := trivial
  have K0 : Keep h0 h0 [a] := Keep.refl _ _
  refine wp_run ok hK (B := [(0, .aload_n 0, false), (1, .dup, false)]) (by decide +kernel) (pc' := 2) (L' := #[.val ((.ref a))]) (S' := [(.ref a), (.ref a)]) rfl trivial ?_
  refine wp_getF ok (wd hw 15 rfl) F_a_count (by decide +kernel) ?_
  refine wp_run ok hK (B := [(5, .iconst 1, false), (6, .isub, false)]) (by decide +kernel) (pc' := 7) (L' := #[.val ((.ref a))]) (S' := [.int (c - (1 : Int32)), (.ref a)]) rfl trivial ?_
  refine wp_putF ok (wd hw 15 rfl) F_a_count E_a (Or.inl (wd hw 16 rfl)) (wd hw 1 rfl) (ty := .int) (by decide) rfl rfl (by decide +kernel) g_a ?_
  intro h1 W2
  have F3 := F_a_count.same W2
  have F4 := F_a_renewedFrom.other W2 (Or.inr (slot_ne (C := "com/example/exclude/exclude/lock/Hold") (a0 := a0) (Or.inl (wd hw 18 rfl)) (Or.inl (wd hw 16 rfl)) (by decide +kernel) (t := .int) (t' := .int) (by decide +kernel) (by decide +kernel)))
  have E5 := E_a.wr W2
  have Z6 : n0 ≤ h1.size := by rw [W2.size]; exact Z0
  have K7 := K0.wr W2 (Or.inl (by simp))
  refine wp_run ok hK (B := [(10, .aload_n 0, false)]) (by decide +kernel) (pc' := 11) (L' := #[.val ((.ref a))]) (S' := [(.ref a)]) rfl trivial ?_
  refine wp_getF ok (wd hw 15 rfl) F3 (by decide +kernel) ?_
  refine wp_run ok hK (B := [(14, .aload_n 0, false)]) (by decide +kernel) (pc' := 15) (L' := #[.val ((.ref a))]) (S' := [(.ref a), .int (c - (1 : Int32))]) rfl trivial ?_
  refine wp_getF ok (wd hw 17 rfl) F4 (by decide +kernel) ?_
  by_cases hc18 : (c - (1 : Int32)) < r
  · refine wp_run ok hK (B := [(18, .if_icmp .ge 8, false)]) (by decide +kernel) (pc' := 21) (L' := #[.val ((.ref a))]) (S' := []) rfl ⟨(XT.ii_ge_f hc18), trivial⟩ ?_
    refine wp_run ok hK (B := [(21, .aload_n 0, false), (22, .iconst 0, false)]) (by decide +kernel) (pc' := 23) (L' := #[.val ((.ref a))]) (S' := [.int (0 : Int32), (.ref a)]) rfl trivial ?_
    refine wp_putF ok (wd hw 17 rfl) F4 E5 (Or.inl (wd hw 18 rfl)) (wd hw 1 rfl) (ty := .int) (by decide) rfl rfl (by decide +kernel) g_a ?_
    intro h8 W9
    have F10 := F3.other W9 (Or.inr (slot_ne (C := "com/example/exclude/exclude/lock/Hold") (a0 := a0) (Or.inl (wd hw 16 rfl)) (Or.inl (wd hw 18 rfl)) (by decide +kernel) (t := .int) (t' := .int) (by decide +kernel) (by decide +kernel)))
    have F11 := F4.same W9
    have E12 := E5.wr W9
    have Z13 : n0 ≤ h8.size := by rw [W9.size]; exact Z6
    have K14 := K7.wr W9 (Or.inl (by simp))
    refine wp_run ok hK (B := [(26, .aload_n 0, false)]) (by decide +kernel) (pc' := 27) (L' := #[.val ((.ref a))]) (S' := [(.ref a)]) rfl trivial ?_
    refine wp_getF ok (wd hw 15 rfl) F10 (by decide +kernel) ?_
    have J38_16 : ∀ (s38_0 : Int32) (h_s38_0 : s38_0 = (if (c - (1 : Int32)) = (0 : Int32) then (1 : Int32) else (0 : Int32))), WP X n0 (Q_ext Z a c r h0) h8 0 0 38 #[.val ((.ref a))] [.int s38_0] := by
      intro s38_0 h_s38_0
      refine wp_retZ ok (t := .boolean) (by simp) (by decide +kernel) (by decide) (by decide) ?_
      exact ⟨congrArg (fun z => some (Value.int z)) (own_ext_1 c r hc18 s38_0 h_s38_0), K14, F10, (Fld_c F11 (congrArg Value.int (own_ext_2 c r hc18 s38_0 h_s38_0)))⟩
    by_cases c15 : (c - (1 : Int32)) = (0 : Int32)
    · refine wp_run ok hK (B := [(30, .ifCond .ne 7, false), (33, .iconst 1, false), (34, .goto 4, false)]) (by decide +kernel) (pc' := 38) (L' := #[.val ((.ref a))]) (S' := [.int (1 : Int32)]) rfl ⟨(XT.i0_ne_f c15), trivial⟩ ?_
      exact J38_16 _ (by rw [if_pos c15])
    · refine wp_run ok hK (B := [(30, .ifCond .ne 7, true), (37, .iconst 0, false)]) (by decide +kernel) (pc' := 38) (L' := #[.val ((.ref a))]) (S' := [.int (0 : Int32)]) rfl ⟨(XT.i0_ne_t c15), trivial⟩ ?_
      exact J38_16 _ (by rw [if_neg c15])
  · refine wp_run ok hK (B := [(18, .if_icmp .ge 8, true)]) (by decide +kernel) (pc' := 26) (L' := #[.val ((.ref a))]) (S' := []) rfl ⟨(XT.ii_ge_t hc18), trivial⟩ ?_
    refine wp_run ok hK (B := [(26, .aload_n 0, false)]) (by decide +kernel) (pc' := 27) (L' := #[.val ((.ref a))]) (S' := [(.ref a)]) rfl trivial ?_
    refine wp_getF ok (wd hw 15 rfl) F3 (by decide +kernel) ?_
    have J38_18 : ∀ (s38_0 : Int32) (h_s38_0 : s38_0 = (if (c - (1 : Int32)) = (0 : Int32) then (1 : Int32) else (0 : Int32))), WP X n0 (Q_ext Z a c r h0) h1 0 0 38 #[.val ((.ref a))] [.int s38_0] := by
      intro s38_0 h_s38_0
      refine wp_retZ ok (t := .boolean) (by simp) (by decide +kernel) (by decide) (by decide) ?_
      exact ⟨congrArg (fun z => some (Value.int z)) (own_ext_3 c r hc18 s38_0 h_s38_0), K7, F3, (Fld_c F4 (congrArg Value.int (own_ext_4 c r hc18 s38_0 h_s38_0)))⟩
    by_cases c17 : (c - (1 : Int32)) = (0 : Int32)
    · refine wp_run ok hK (B := [(30, .ifCond .ne 7, false), (33, .iconst 1, false), (34, .goto 4, false)]) (by decide +kernel) (pc' := 38) (L' := #[.val ((.ref a))]) (S' := [.int (1 : Int32)]) rfl ⟨(XT.i0_ne_f c17), trivial⟩ ?_
      exact J38_18 _ (by rw [if_pos c17])
    · refine wp_run ok hK (B := [(30, .ifCond .ne 7, true), (37, .iconst 0, false)]) (by decide +kernel) (pc' := 38) (L' := #[.val ((.ref a))]) (S' := [.int (0 : Int32)]) rfl ⟨(XT.i0_ne_t c17), trivial⟩ ?_
      exact J38_18 _ (by rw [if_neg c17])
def k_step : List (Nat × Value) := []
def Q_step (Z : State) (hh : Addr) (op : Int32) (st : Addr) (c : Int32) (r : Int32) (m : Int32) (n : Int32) (d : Int32) (kk : Nat) (h0 : Heap) : Post := fun v h => v = some (.int (1 : Int32)) ∧ Keep h0 h [hh, st] ∧ ∃ m2 n2 d2 c2 r2 : Int32, SI (kk + 1) m2 n2 d2 c2 r2 ∧ Fld Z h hh "com/example/exclude/exclude/lock/Hold" "count" "I" (.int c2) ∧ Fld Z h hh "com/example/exclude/exclude/lock/Hold" "renewedFrom" "I" (.int r2) ∧ Ar Z h st .int 3 (lst [.int m2, .int n2, .int d2])
theorem own_step_1 (op : Int32) (c : Int32) (r : Int32) (m : Int32) (n : Int32) (d : Int32) (kk : Nat) (hs : SI kk m n d c r) (hk : kk ≤ 6) (hc3 : d = (0 : Int32)) (s19_0 : Int32) (h_s19_0 : s19_0 = (if (op &&& (2 : Int32)) = (0 : Int32) then (0 : Int32) else (1 : Int32))) (hc23 : (op &&& (1 : Int32)) = (0 : Int32)) (count28 : Int32) (h_count28 : count28 = (c + (1 : Int32))) (renewedFrom28 : Int32) (h_renewedFrom28 : renewedFrom28 = (if s19_0 = (0 : Int32) then r else (if r = (0 : Int32) then (c + (1 : Int32)) else r))) (hc32 : s19_0 = (0 : Int32)) : count28 = (n + (1 : Int32)) := by
  obtain hd | ⟨hd, i, j, j1, j2, i1, rfl, rfl, rfl, rfl⟩ := hs
  · exfalso; rw [hd] at hc3; exact absurd hc3 (by decide)
  have i2 : i < 64 := Nat.lt_of_lt_of_le i1 (Nat.pow_le_pow_right (by decide) (by omega : j ≤ 6))
  obtain ⟨e1, e2, e3, e4, e5, e6, e7⟩ := tabE ⟨j, by omega⟩ ⟨i, i2⟩ j1 i1
  obtain ⟨x1, x2, x3, x4, x5⟩ := tabX ⟨j, by omega⟩ ⟨i, i2⟩ j1 i1
  dsimp only at e1 e2 e3 e4 e5 e6 e7 x1 x2 x3 x4 x5
  exact h_count28
theorem own_step_2 (op : Int32) (c : Int32) (r : Int32) (m : Int32) (n : Int32) (d : Int32) (kk : Nat) (hs : SI kk m n d c r) (hk : kk ≤ 6) (hc3 : d = (0 : Int32)) (s19_0 : Int32) (h_s19_0 : s19_0 = (if (op &&& (2 : Int32)) = (0 : Int32) then (0 : Int32) else (1 : Int32))) (hc23 : (op &&& (1 : Int32)) = (0 : Int32)) (count28 : Int32) (h_count28 : count28 = (c + (1 : Int32))) (renewedFrom28 : Int32) (h_renewedFrom28 : renewedFrom28 = (if s19_0 = (0 : Int32) then r else (if r = (0 : Int32) then (c + (1 : Int32)) else r))) (hc32 : s19_0 = (0 : Int32)) (z66 : Int32) (h_z66 : z66 = (if (0 : Int32) < renewedFrom28 then (1 : Int32) else (0 : Int32))) (s80_0 : Int32) (h_s80_0 : s80_0 = (if m = (0 : Int32) then (0 : Int32) else (1 : Int32))) : z66 = s80_0 := by
  obtain hd | ⟨hd, i, j, j1, j2, i1, rfl, rfl, rfl, rfl⟩ := hs
  · exfalso; rw [hd] at hc3; exact absurd hc3 (by decide)
  have i2 : i < 64 := Nat.lt_of_lt_of_le i1 (Nat.pow_le_pow_right (by decide) (by omega : j ≤ 6))
  obtain ⟨e1, e2, e3, e4, e5, e6, e7⟩ := tabE ⟨j, by omega⟩ ⟨i, i2⟩ j1 i1
  obtain ⟨x1, x2, x3, x4, x5⟩ := tabX ⟨j, by omega⟩ ⟨i, i2⟩ j1 i1
  dsimp only at e1 e2 e3 e4 e5 e6 e7 x1 x2 x3 x4 x5
  first
  | (rw [h_renewedFrom28, if_pos hc32] at h_z66
     have t := tabR ⟨i, by omega⟩
     dsimp only at t
     rw [h_z66, h_s80_0]
     by_cases q : Int32.ofNat i = 0
     · rw [if_neg (fun w => (t.mp w) q), if_pos q]
     · rw [if_pos (t.mpr q), if_neg q])
  | (rw [h_renewedFrom28, if_neg hc32, e4] at h_z66
     rw [e2] at h_s80_0
     rw [h_z66, h_s80_0, if_pos e6, if_neg e7])
theorem own_step_3 (op : Int32) (c : Int32) (r : Int32) (m : Int32) (n : Int32) (d : Int32) (kk : Nat) (hs : SI kk m n d c r) (hk : kk ≤ 6) (hc3 : d = (0 : Int32)) (s19_0 : Int32) (h_s19_0 : s19_0 = (if (op &&& (2 : Int32)) = (0 : Int32) then (0 : Int32) else (1 : Int32))) (hc23 : (op &&& (1 : Int32)) = (0 : Int32)) (count28 : Int32) (h_count28 : count28 = (c + (1 : Int32))) (renewedFrom28 : Int32) (h_renewedFrom28 : renewedFrom28 = (if s19_0 = (0 : Int32) then r else (if r = (0 : Int32) then (c + (1 : Int32)) else r))) (hc32 : s19_0 = (0 : Int32)) (z66 : Int32) (h_z66 : z66 = (if (0 : Int32) < renewedFrom28 then (1 : Int32) else (0 : Int32))) (s80_0 : Int32) (h_s80_0 : s80_0 = (if m = (0 : Int32) then (0 : Int32) else (1 : Int32))) : SI (kk + 1) m (n + (1 : Int32)) d count28 renewedFrom28 := by
  obtain hd | ⟨hd, i, j, j1, j2, i1, rfl, rfl, rfl, rfl⟩ := hs
  · exfalso; rw [hd] at hc3; exact absurd hc3 (by decide)
  have i2 : i < 64 := Nat.lt_of_lt_of_le i1 (Nat.pow_le_pow_right (by decide) (by omega : j ≤ 6))
  obtain ⟨e1, e2, e3, e4, e5, e6, e7⟩ := tabE ⟨j, by omega⟩ ⟨i, i2⟩ j1 i1
  obtain ⟨x1, x2, x3, x4, x5⟩ := tabX ⟨j, by omega⟩ ⟨i, i2⟩ j1 i1
  dsimp only at e1 e2 e3 e4 e5 e6 e7 x1 x2 x3 x4 x5
  first
  | exact Or.inr ⟨hd, i, j + 1, by omega, by omega, Nat.lt_of_le_of_lt (Nat.le_add_right _ _) e1, rfl, e3, h_count28.trans e3, by rw [h_renewedFrom28, if_pos hc32]⟩
  | exact Or.inr ⟨hd, i + 2 ^ j, j + 1, by omega, by omega, e1, e2, e3, h_count28.trans e3, by rw [h_renewedFrom28, if_neg hc32, e4]⟩
theorem own_step_4 (op : Int32) (c : Int32) (r : Int32) (m : Int32) (n : Int32) (d : Int32) (kk : Nat) (hs : SI kk m n d c r) (hk : kk ≤ 6) (hc3 : d = (0 : Int32)) (s19_0 : Int32) (h_s19_0 : s19_0 = (if (op &&& (2 : Int32)) = (0 : Int32) then (0 : Int32) else (1 : Int32))) (hc23 : (op &&& (1 : Int32)) = (0 : Int32)) (count28 : Int32) (h_count28 : count28 = (c + (1 : Int32))) (renewedFrom28 : Int32) (h_renewedFrom28 : renewedFrom28 = (if s19_0 = (0 : Int32) then r else (if r = (0 : Int32) then (c + (1 : Int32)) else r))) (hc32 : ¬ (s19_0 = (0 : Int32))) : count28 = (n + (1 : Int32)) := by
  obtain hd | ⟨hd, i, j, j1, j2, i1, rfl, rfl, rfl, rfl⟩ := hs
  · exfalso; rw [hd] at hc3; exact absurd hc3 (by decide)
  have i2 : i < 64 := Nat.lt_of_lt_of_le i1 (Nat.pow_le_pow_right (by decide) (by omega : j ≤ 6))
  obtain ⟨e1, e2, e3, e4, e5, e6, e7⟩ := tabE ⟨j, by omega⟩ ⟨i, i2⟩ j1 i1
  obtain ⟨x1, x2, x3, x4, x5⟩ := tabX ⟨j, by omega⟩ ⟨i, i2⟩ j1 i1
  dsimp only at e1 e2 e3 e4 e5 e6 e7 x1 x2 x3 x4 x5
  exact h_count28
theorem own_step_5 (op : Int32) (c : Int32) (r : Int32) (m : Int32) (n : Int32) (d : Int32) (kk : Nat) (hs : SI kk m n d c r) (hk : kk ≤ 6) (hc3 : d = (0 : Int32)) (s19_0 : Int32) (h_s19_0 : s19_0 = (if (op &&& (2 : Int32)) = (0 : Int32) then (0 : Int32) else (1 : Int32))) (hc23 : (op &&& (1 : Int32)) = (0 : Int32)) (count28 : Int32) (h_count28 : count28 = (c + (1 : Int32))) (renewedFrom28 : Int32) (h_renewedFrom28 : renewedFrom28 = (if s19_0 = (0 : Int32) then r else (if r = (0 : Int32) then (c + (1 : Int32)) else r))) (hc32 : ¬ (s19_0 = (0 : Int32))) (z66 : Int32) (h_z66 : z66 = (if (0 : Int32) < renewedFrom28 then (1 : Int32) else (0 : Int32))) (s80_0 : Int32) (h_s80_0 : s80_0 = (if (m ||| ((1 : Int32) <<< (n &&& 31))) = (0 : Int32) then (0 : Int32) else (1 : Int32))) : z66 = s80_0 := by
  obtain hd | ⟨hd, i, j, j1, j2, i1, rfl, rfl, rfl, rfl⟩ := hs
  · exfalso; rw [hd] at hc3; exact absurd hc3 (by decide)
  have i2 : i < 64 := Nat.lt_of_lt_of_le i1 (Nat.pow_le_pow_right (by decide) (by omega : j ≤ 6))
  obtain ⟨e1, e2, e3, e4, e5, e6, e7⟩ := tabE ⟨j, by omega⟩ ⟨i, i2⟩ j1 i1
  obtain ⟨x1, x2, x3, x4, x5⟩ := tabX ⟨j, by omega⟩ ⟨i, i2⟩ j1 i1
  dsimp only at e1 e2 e3 e4 e5 e6 e7 x1 x2 x3 x4 x5
  first
  | (rw [h_renewedFrom28, if_pos hc32] at h_z66
     have t := tabR ⟨i, by omega⟩
     dsimp only at t
     rw [h_z66, h_s80_0]
     by_cases q : Int32.ofNat i = 0
     · rw [if_neg (fun w => (t.mp w) q), if_pos q]
     · rw [if_pos (t.mpr q), if_neg q])
  | (rw [h_renewedFrom28, if_neg hc32, e4] at h_z66
     rw [e2] at h_s80_0
     rw [h_z66, h_s80_0, if_pos e6, if_neg e7])
theorem own_step_6 (op : Int32) (c : Int32) (r : Int32) (m : Int32) (n : Int32) (d : Int32) (kk : Nat) (hs : SI kk m n d c r) (hk : kk ≤ 6) (hc3 : d = (0 : Int32)) (s19_0 : Int32) (h_s19_0 : s19_0 = (if (op &&& (2 : Int32)) = (0 : Int32) then (0 : Int32) else (1 : Int32))) (hc23 : (op &&& (1 : Int32)) = (0 : Int32)) (count28 : Int32) (h_count28 : count28 = (c + (1 : Int32))) (renewedFrom28 : Int32) (h_renewedFrom28 : renewedFrom28 = (if s19_0 = (0 : Int32) then r else (if r = (0 : Int32) then (c + (1 : Int32)) else r))) (hc32 : ¬ (s19_0 = (0 : Int32))) (z66 : Int32) (h_z66 : z66 = (if (0 : Int32) < renewedFrom28 then (1 : Int32) else (0 : Int32))) (s80_0 : Int32) (h_s80_0 : s80_0 = (if (m ||| ((1 : Int32) <<< (n &&& 31))) = (0 : Int32) then (0 : Int32) else (1 : Int32))) : SI (kk + 1) (m ||| ((1 : Int32) <<< (n &&& 31))) (n + (1 : Int32)) d count28 renewedFrom28 := by
  obtain hd | ⟨hd, i, j, j1, j2, i1, rfl, rfl, rfl, rfl⟩ := hs
  · exfalso; rw [hd] at hc3; exact absurd hc3 (by decide)
  have i2 : i < 64 := Nat.lt_of_lt_of_le i1 (Nat.pow_le_pow_right (by decide) (by omega : j ≤ 6))
  obtain ⟨e1, e2, e3, e4, e5, e6, e7⟩ := tabE ⟨j, by omega⟩ ⟨i, i2⟩ j1 i1
  obtain ⟨x1, x2, x3, x4, x5⟩ := tabX ⟨j, by omega⟩ ⟨i, i2⟩ j1 i1
  dsimp only at e1 e2 e3 e4 e5 e6 e7 x1 x2 x3 x4 x5
  first
  | exact Or.inr ⟨hd, i, j + 1, by omega, by omega, Nat.lt_of_le_of_lt (Nat.le_add_right _ _) e1, rfl, e3, h_count28.trans e3, by rw [h_renewedFrom28, if_pos hc32]⟩
  | exact Or.inr ⟨hd, i + 2 ^ j, j + 1, by omega, by omega, e1, e2, e3, h_count28.trans e3, by rw [h_renewedFrom28, if_neg hc32, e4]⟩
theorem own_step_7 (op : Int32) (c : Int32) (r : Int32) (m : Int32) (n : Int32) (d : Int32) (kk : Nat) (hs : SI kk m n d c r) (hk : kk ≤ 6) (hc3 : d = (0 : Int32)) (s19_0 : Int32) (h_s19_0 : s19_0 = (if (op &&& (2 : Int32)) = (0 : Int32) then (0 : Int32) else (1 : Int32))) (hc23 : ¬ ((op &&& (1 : Int32)) = (0 : Int32))) (z90 : Int32) (h_z90 : z90 = (if (c - (1 : Int32)) = (0 : Int32) then (1 : Int32) else (0 : Int32))) (count90 : Int32) (h_count90 : count90 = (c - (1 : Int32))) (renewedFrom90 : Int32) (h_renewedFrom90 : renewedFrom90 = (if (c - (1 : Int32)) < r then (0 : Int32) else r)) (hc120 : (n - (1 : Int32)) = (0 : Int32)) : z90 = (1 : Int32) := by
  obtain hd | ⟨hd, i, j, j1, j2, i1, rfl, rfl, rfl, rfl⟩ := hs
  · exfalso; rw [hd] at hc3; exact absurd hc3 (by decide)
  have i2 : i < 64 := Nat.lt_of_lt_of_le i1 (Nat.pow_le_pow_right (by decide) (by omega : j ≤ 6))
  obtain ⟨e1, e2, e3, e4, e5, e6, e7⟩ := tabE ⟨j, by omega⟩ ⟨i, i2⟩ j1 i1
  obtain ⟨x1, x2, x3, x4, x5⟩ := tabX ⟨j, by omega⟩ ⟨i, i2⟩ j1 i1
  dsimp only at e1 e2 e3 e4 e5 e6 e7 x1 x2 x3 x4 x5
  first | rw [h_z90, if_pos hc120] | rw [h_z90, if_neg hc120]
theorem own_step_8 (op : Int32) (c : Int32) (r : Int32) (m : Int32) (n : Int32) (d : Int32) (kk : Nat) (hs : SI kk m n d c r) (hk : kk ≤ 6) (hc3 : d = (0 : Int32)) (s19_0 : Int32) (h_s19_0 : s19_0 = (if (op &&& (2 : Int32)) = (0 : Int32) then (0 : Int32) else (1 : Int32))) (hc23 : ¬ ((op &&& (1 : Int32)) = (0 : Int32))) (z90 : Int32) (h_z90 : z90 = (if (c - (1 : Int32)) = (0 : Int32) then (1 : Int32) else (0 : Int32))) (count90 : Int32) (h_count90 : count90 = (c - (1 : Int32))) (renewedFrom90 : Int32) (h_renewedFrom90 : renewedFrom90 = (if (c - (1 : Int32)) < r then (0 : Int32) else r)) (hc120 : (n - (1 : Int32)) = (0 : Int32)) : count90 = (n - (1 : Int32)) := by
  obtain hd | ⟨hd, i, j, j1, j2, i1, rfl, rfl, rfl, rfl⟩ := hs
  · exfalso; rw [hd] at hc3; exact absurd hc3 (by decide)
  have i2 : i < 64 := Nat.lt_of_lt_of_le i1 (Nat.pow_le_pow_right (by decide) (by omega : j ≤ 6))
  obtain ⟨e1, e2, e3, e4, e5, e6, e7⟩ := tabE ⟨j, by omega⟩ ⟨i, i2⟩ j1 i1
  obtain ⟨x1, x2, x3, x4, x5⟩ := tabX ⟨j, by omega⟩ ⟨i, i2⟩ j1 i1
  dsimp only at e1 e2 e3 e4 e5 e6 e7 x1 x2 x3 x4 x5
  exact h_count90
theorem own_step_9 (op : Int32) (c : Int32) (r : Int32) (m : Int32) (n : Int32) (d : Int32) (kk : Nat) (hs : SI kk m n d c r) (hk : kk ≤ 6) (hc3 : d = (0 : Int32)) (s19_0 : Int32) (h_s19_0 : s19_0 = (if (op &&& (2 : Int32)) = (0 : Int32) then (0 : Int32) else (1 : Int32))) (hc23 : ¬ ((op &&& (1 : Int32)) = (0 : Int32))) (z90 : Int32) (h_z90 : z90 = (if (c - (1 : Int32)) = (0 : Int32) then (1 : Int32) else (0 : Int32))) (count90 : Int32) (h_count90 : count90 = (c - (1 : Int32))) (renewedFrom90 : Int32) (h_renewedFrom90 : renewedFrom90 = (if (c - (1 : Int32)) < r then (0 : Int32) else r)) (hc120 : (n - (1 : Int32)) = (0 : Int32)) (z154 : Int32) (h_z154 : z154 = (if (0 : Int32) < renewedFrom90 then (1 : Int32) else (0 : Int32))) (s168_0 : Int32) (h_s168_0 : s168_0 = (if (m &&& (((1 : Int32) <<< ((n - (1 : Int32)) &&& 31)) - (1 : Int32))) = (0 : Int32) then (0 : Int32) else (1 : Int32))) : z154 = s168_0 := by
  obtain hd | ⟨hd, i, j, j1, j2, i1, rfl, rfl, rfl, rfl⟩ := hs
  · exfalso; rw [hd] at hc3; exact absurd hc3 (by decide)
  have i2 : i < 64 := Nat.lt_of_lt_of_le i1 (Nat.pow_le_pow_right (by decide) (by omega : j ≤ 6))
  obtain ⟨e1, e2, e3, e4, e5, e6, e7⟩ := tabE ⟨j, by omega⟩ ⟨i, i2⟩ j1 i1
  obtain ⟨x1, x2, x3, x4, x5⟩ := tabX ⟨j, by omega⟩ ⟨i, i2⟩ j1 i1
  dsimp only at e1 e2 e3 e4 e5 e6 e7 x1 x2 x3 x4 x5
  rw [h_renewedFrom90, x4] at h_z154
  rw [x2] at h_s168_0
  have t := tabR ⟨i % 2 ^ (j - 1), Nat.lt_of_le_of_lt (Nat.mod_le _ _) (by omega)⟩
  dsimp only at t
  rw [h_z154, h_s168_0]
  by_cases q : Int32.ofNat (i % 2 ^ (j - 1)) = 0
  · rw [if_neg (fun w => (t.mp w) q), if_pos q]
  · rw [if_pos (t.mpr q), if_neg q]
theorem own_step_10 (op : Int32) (c : Int32) (r : Int32) (m : Int32) (n : Int32) (d : Int32) (kk : Nat) (hs : SI kk m n d c r) (hk : kk ≤ 6) (hc3 : d = (0 : Int32)) (s19_0 : Int32) (h_s19_0 : s19_0 = (if (op &&& (2 : Int32)) = (0 : Int32) then (0 : Int32) else (1 : Int32))) (hc23 : ¬ ((op &&& (1 : Int32)) = (0 : Int32))) (z90 : Int32) (h_z90 : z90 = (if (c - (1 : Int32)) = (0 : Int32) then (1 : Int32) else (0 : Int32))) (count90 : Int32) (h_count90 : count90 = (c - (1 : Int32))) (renewedFrom90 : Int32) (h_renewedFrom90 : renewedFrom90 = (if (c - (1 : Int32)) < r then (0 : Int32) else r)) (hc120 : (n - (1 : Int32)) = (0 : Int32)) (z154 : Int32) (h_z154 : z154 = (if (0 : Int32) < renewedFrom90 then (1 : Int32) else (0 : Int32))) (s168_0 : Int32) (h_s168_0 : s168_0 = (if (m &&& (((1 : Int32) <<< ((n - (1 : Int32)) &&& 31)) - (1 : Int32))) = (0 : Int32) then (0 : Int32) else (1 : Int32))) : SI (kk + 1) (m &&& (((1 : Int32) <<< ((n - (1 : Int32)) &&& 31)) - (1 : Int32))) (n - (1 : Int32)) (1 : Int32) count90 renewedFrom90 := by
  obtain hd | ⟨hd, i, j, j1, j2, i1, rfl, rfl, rfl, rfl⟩ := hs
  · exfalso; rw [hd] at hc3; exact absurd hc3 (by decide)
  have i2 : i < 64 := Nat.lt_of_lt_of_le i1 (Nat.pow_le_pow_right (by decide) (by omega : j ≤ 6))
  obtain ⟨e1, e2, e3, e4, e5, e6, e7⟩ := tabE ⟨j, by omega⟩ ⟨i, i2⟩ j1 i1
  obtain ⟨x1, x2, x3, x4, x5⟩ := tabX ⟨j, by omega⟩ ⟨i, i2⟩ j1 i1
  dsimp only at e1 e2 e3 e4 e5 e6 e7 x1 x2 x3 x4 x5
  by_cases q : Int32.ofNat j - 1 = 0
  · first | exact Or.inl rfl | exact absurd q hc120
  · first
    | exact absurd hc120 q
    | (have q' := q
       rw [x3, x5] at q'
       exact Or.inr ⟨hd, i % 2 ^ (j - 1), j - 1, by omega, by omega, x1, x2, x3, h_count90.trans x3, by rw [h_renewedFrom90, x4]⟩)
theorem own_step_11 (op : Int32) (c : Int32) (r : Int32) (m : Int32) (n : Int32) (d : Int32) (kk : Nat) (hs : SI kk m n d c r) (hk : kk ≤ 6) (hc3 : d = (0 : Int32)) (s19_0 : Int32) (h_s19_0 : s19_0 = (if (op &&& (2 : Int32)) = (0 : Int32) then (0 : Int32) else (1 : Int32))) (hc23 : ¬ ((op &&& (1 : Int32)) = (0 : Int32))) (z90 : Int32) (h_z90 : z90 = (if (c - (1 : Int32)) = (0 : Int32) then (1 : Int32) else (0 : Int32))) (count90 : Int32) (h_count90 : count90 = (c - (1 : Int32))) (renewedFrom90 : Int32) (h_renewedFrom90 : renewedFrom90 = (if (c - (1 : Int32)) < r then (0 : Int32) else r)) (hc120 : ¬ ((n - (1 : Int32)) = (0 : Int32))) : z90 = (0 : Int32) := by
  obtain hd | ⟨hd, i, j, j1, j2, i1, rfl, rfl, rfl, rfl⟩ := hs
  · exfalso; rw [hd] at hc3; exact absurd hc3 (by decide)
  have i2 : i < 64 := Nat.lt_of_lt_of_le i1 (Nat.pow_le_pow_right (by decide) (by omega : j ≤ 6))
  obtain ⟨e1, e2, e3, e4, e5, e6, e7⟩ := tabE ⟨j, by omega⟩ ⟨i, i2⟩ j1 i1
  obtain ⟨x1, x2, x3, x4, x5⟩ := tabX ⟨j, by omega⟩ ⟨i, i2⟩ j1 i1
  dsimp only at e1 e2 e3 e4 e5 e6 e7 x1 x2 x3 x4 x5
  first | rw [h_z90, if_pos hc120] | rw [h_z90, if_neg hc120]
theorem own_step_12 (op : Int32) (c : Int32) (r : Int32) (m : Int32) (n : Int32) (d : Int32) (kk : Nat) (hs : SI kk m n d c r) (hk : kk ≤ 6) (hc3 : d = (0 : Int32)) (s19_0 : Int32) (h_s19_0 : s19_0 = (if (op &&& (2 : Int32)) = (0 : Int32) then (0 : Int32) else (1 : Int32))) (hc23 : ¬ ((op &&& (1 : Int32)) = (0 : Int32))) (z90 : Int32) (h_z90 : z90 = (if (c - (1 : Int32)) = (0 : Int32) then (1 : Int32) else (0 : Int32))) (count90 : Int32) (h_count90 : count90 = (c - (1 : Int32))) (renewedFrom90 : Int32) (h_renewedFrom90 : renewedFrom90 = (if (c - (1 : Int32)) < r then (0 : Int32) else r)) (hc120 : ¬ ((n - (1 : Int32)) = (0 : Int32))) : count90 = (n - (1 : Int32)) := by
  obtain hd | ⟨hd, i, j, j1, j2, i1, rfl, rfl, rfl, rfl⟩ := hs
  · exfalso; rw [hd] at hc3; exact absurd hc3 (by decide)
  have i2 : i < 64 := Nat.lt_of_lt_of_le i1 (Nat.pow_le_pow_right (by decide) (by omega : j ≤ 6))
  obtain ⟨e1, e2, e3, e4, e5, e6, e7⟩ := tabE ⟨j, by omega⟩ ⟨i, i2⟩ j1 i1
  obtain ⟨x1, x2, x3, x4, x5⟩ := tabX ⟨j, by omega⟩ ⟨i, i2⟩ j1 i1
  dsimp only at e1 e2 e3 e4 e5 e6 e7 x1 x2 x3 x4 x5
  exact h_count90
theorem own_step_13 (op : Int32) (c : Int32) (r : Int32) (m : Int32) (n : Int32) (d : Int32) (kk : Nat) (hs : SI kk m n d c r) (hk : kk ≤ 6) (hc3 : d = (0 : Int32)) (s19_0 : Int32) (h_s19_0 : s19_0 = (if (op &&& (2 : Int32)) = (0 : Int32) then (0 : Int32) else (1 : Int32))) (hc23 : ¬ ((op &&& (1 : Int32)) = (0 : Int32))) (z90 : Int32) (h_z90 : z90 = (if (c - (1 : Int32)) = (0 : Int32) then (1 : Int32) else (0 : Int32))) (count90 : Int32) (h_count90 : count90 = (c - (1 : Int32))) (renewedFrom90 : Int32) (h_renewedFrom90 : renewedFrom90 = (if (c - (1 : Int32)) < r then (0 : Int32) else r)) (hc120 : ¬ ((n - (1 : Int32)) = (0 : Int32))) (z154 : Int32) (h_z154 : z154 = (if (0 : Int32) < renewedFrom90 then (1 : Int32) else (0 : Int32))) (s168_0 : Int32) (h_s168_0 : s168_0 = (if (m &&& (((1 : Int32) <<< ((n - (1 : Int32)) &&& 31)) - (1 : Int32))) = (0 : Int32) then (0 : Int32) else (1 : Int32))) : z154 = s168_0 := by
  obtain hd | ⟨hd, i, j, j1, j2, i1, rfl, rfl, rfl, rfl⟩ := hs
  · exfalso; rw [hd] at hc3; exact absurd hc3 (by decide)
  have i2 : i < 64 := Nat.lt_of_lt_of_le i1 (Nat.pow_le_pow_right (by decide) (by omega : j ≤ 6))
  obtain ⟨e1, e2, e3, e4, e5, e6, e7⟩ := tabE ⟨j, by omega⟩ ⟨i, i2⟩ j1 i1
  obtain ⟨x1, x2, x3, x4, x5⟩ := tabX ⟨j, by omega⟩ ⟨i, i2⟩ j1 i1
  dsimp only at e1 e2 e3 e4 e5 e6 e7 x1 x2 x3 x4 x5
  rw [h_renewedFrom90, x4] at h_z154
  rw [x2] at h_s168_0
  have t := tabR ⟨i % 2 ^ (j - 1), Nat.lt_of_le_of_lt (Nat.mod_le _ _) (by omega)⟩
  dsimp only at t
  rw [h_z154, h_s168_0]
  by_cases q : Int32.ofNat (i % 2 ^ (j - 1)) = 0
  · rw [if_neg (fun w => (t.mp w) q), if_pos q]
  · rw [if_pos (t.mpr q), if_neg q]
theorem own_step_14 (op : Int32) (c : Int32) (r : Int32) (m : Int32) (n : Int32) (d : Int32) (kk : Nat) (hs : SI kk m n d c r) (hk : kk ≤ 6) (hc3 : d = (0 : Int32)) (s19_0 : Int32) (h_s19_0 : s19_0 = (if (op &&& (2 : Int32)) = (0 : Int32) then (0 : Int32) else (1 : Int32))) (hc23 : ¬ ((op &&& (1 : Int32)) = (0 : Int32))) (z90 : Int32) (h_z90 : z90 = (if (c - (1 : Int32)) = (0 : Int32) then (1 : Int32) else (0 : Int32))) (count90 : Int32) (h_count90 : count90 = (c - (1 : Int32))) (renewedFrom90 : Int32) (h_renewedFrom90 : renewedFrom90 = (if (c - (1 : Int32)) < r then (0 : Int32) else r)) (hc120 : ¬ ((n - (1 : Int32)) = (0 : Int32))) (z154 : Int32) (h_z154 : z154 = (if (0 : Int32) < renewedFrom90 then (1 : Int32) else (0 : Int32))) (s168_0 : Int32) (h_s168_0 : s168_0 = (if (m &&& (((1 : Int32) <<< ((n - (1 : Int32)) &&& 31)) - (1 : Int32))) = (0 : Int32) then (0 : Int32) else (1 : Int32))) : SI (kk + 1) (m &&& (((1 : Int32) <<< ((n - (1 : Int32)) &&& 31)) - (1 : Int32))) (n - (1 : Int32)) d count90 renewedFrom90 := by
  obtain hd | ⟨hd, i, j, j1, j2, i1, rfl, rfl, rfl, rfl⟩ := hs
  · exfalso; rw [hd] at hc3; exact absurd hc3 (by decide)
  have i2 : i < 64 := Nat.lt_of_lt_of_le i1 (Nat.pow_le_pow_right (by decide) (by omega : j ≤ 6))
  obtain ⟨e1, e2, e3, e4, e5, e6, e7⟩ := tabE ⟨j, by omega⟩ ⟨i, i2⟩ j1 i1
  obtain ⟨x1, x2, x3, x4, x5⟩ := tabX ⟨j, by omega⟩ ⟨i, i2⟩ j1 i1
  dsimp only at e1 e2 e3 e4 e5 e6 e7 x1 x2 x3 x4 x5
  by_cases q : Int32.ofNat j - 1 = 0
  · first | exact Or.inl rfl | exact absurd q hc120
  · first
    | exact absurd hc120 q
    | (have q' := q
       rw [x3, x5] at q'
       exact Or.inr ⟨hd, i % 2 ^ (j - 1), j - 1, by omega, by omega, x1, x2, x3, h_count90.trans x3, by rw [h_renewedFrom90, x4]⟩)
theorem own_step_15 (op : Int32) (c : Int32) (r : Int32) (m : Int32) (n : Int32) (d : Int32) (kk : Nat) (hs : SI kk m n d c r) (hk : kk ≤ 6) (hc3 : ¬ (d = (0 : Int32))) : SI (kk + 1) m n d c r := by
  obtain hd | ⟨hd, -⟩ := hs
  · exact Or.inl hd
  · exact absurd hd hc3
theorem pn_step : plainFor (⟨"com/example/exclude/exclude/lock/HoldExitPinLaw", "step", "(Lcom/example/exclude/exclude/lock/Hold;I[I)Z"⟩ : MethodName) = true := by first | (refine plainFor_of_name ?_; simp [plainName, overriddenIn]; done) | decide +kernel
set_option maxRecDepth 65536 in
set_option maxHeartbeats 40000000 in
theorem c_step (l : Launch) (Z : State) (a0 : Array Value) (hw : ∀ d ∈ tables_1, d.before a0 Z = true) (hh : Addr) (op : Int32) (st : Addr) (c : Int32) (r : Int32) (m : Int32) (n : Int32) (d : Int32) (kk : Nat) (h0 : Heap) (n0 : Nat) (Z0 : n0 ≤ h0.size) (E_hh : Exa Z h0 hh "com/example/exclude/exclude/lock/Hold") (F_hh_count : Fld Z h0 hh "com/example/exclude/exclude/lock/Hold" "count" "I" (.int c)) (F_hh_renewedFrom : Fld Z h0 hh "com/example/exclude/exclude/lock/Hold" "renewedFrom" "I" (.int r)) (g_hh : n0 ≤ hh) (A_st : Ar Z h0 st .int 3 (lst [.int m, .int n, .int d])) (g_st : n0 ≤ st) (hs : SI kk m n d c r) (hk : kk ≤ 6) :
    Con l Z (⟨"com/example/exclude/exclude/lock/HoldExitPinLaw", "step", "(Lcom/example/exclude/exclude/lock/Hold;I[I)Z"⟩ : MethodName) method_3_code 5 (some .boolean) ({ frames := 1, cells := 0, slots := 0, locals := 13 } : Room) #[(.ref hh), .int op, (.ref st)] h0 n0 (Q_step Z hh op st c r m n d kk h0) [] := by
  refine con_of_wp pn_step (L0 := #[.val ((.ref hh)), .val (.int op), .val ((.ref st)), .unset, .unset]) (fun m => by first | (simp [entryFrame, mkF, argsToLocals, Value.category]; done) | rfl) (fun X hl ok => ?_)
  subst hl
  have hK : Konst Z a0 "com/example/exclude/exclude/lock/HoldExitPinLaw" k_step := trivial
  have ne_hh_st : hh ≠ st := (ne_ar E_hh (wd hw 1 rfl) A_st)
  have K0 : Keep h0 h0 [hh, st] := Keep.refl _ _
  refine wp_run ok hK (B := [(0, .aload_n 2, false), (1, .iconst 2, false)]) (by decide +kernel) (pc' := 2) (L' := #[.val ((.ref hh)), .val (.int op), .val ((.ref st)), .unset, .unset]) (S' := [.int (2 : Int32), (.ref st)]) rfl trivial ?_
  refine wp_aI ok A_st (i := 2) (v := .int d) (by rfl) (by decide) rfl (by decide +kernel) ?_
  by_cases hc3 : d = (0 : Int32)
  · refine wp_run ok hK (B := [(3, .ifCond .eq 5, true)]) (by decide +kernel) (pc' := 8) (L' := #[.val ((.ref hh)), .val (.int op), .val ((.ref st)), .unset, .unset]) (S' := []) rfl ⟨(XT.i0_eq_t hc3), trivial⟩ ?_
    refine wp_run ok hK (B := [(8, .iload_n 1, false), (9, .iconst 2, false), (10, .iand, false)]) (by decide +kernel) (pc' := 11) (L' := #[.val ((.ref hh)), .val (.int op), .val ((.ref st)), .unset, .unset]) (S' := [.int (op &&& (2 : Int32))]) rfl trivial ?_
    have J19_2 : ∀ (s19_0 : Int32) (h_s19_0 : s19_0 = (if (op &&& (2 : Int32)) = (0 : Int32) then (0 : Int32) else (1 : Int32))), WP X n0 (Q_step Z hh op st c r m n d kk h0) h0 0 0 19 #[.val ((.ref hh)), .val (.int op), .val ((.ref st)), .unset, .unset] [.int s19_0] := by
      intro s19_0 h_s19_0
      refine wp_run ok hK (B := [(19, .istore_n 3, false), (20, .iload_n 1, false), (21, .iconst 1, false), (22, .iand, false)]) (by decide +kernel) (pc' := 23) (L' := #[.val ((.ref hh)), .val (.int op), .val ((.ref st)), .val (.int s19_0), .unset]) (S' := [.int (op &&& (1 : Int32))]) rfl trivial ?_
      by_cases hc23 : (op &&& (1 : Int32)) = (0 : Int32)
      · refine wp_run ok hK (B := [(23, .ifCond .ne 66, false)]) (by decide +kernel) (pc' := 26) (L' := #[.val ((.ref hh)), .val (.int op), .val ((.ref st)), .val (.int s19_0), .unset]) (S' := []) rfl ⟨(XT.i0_ne_f hc23), trivial⟩ ?_
        refine wp_run ok hK (B := [(26, .aload_n 0, false), (27, .iload_n 3, false)]) (by decide +kernel) (pc' := 28) (L' := #[.val ((.ref hh)), .val (.int op), .val ((.ref st)), .val (.int s19_0), .unset]) (S' := [.int s19_0, (.ref hh)]) rfl trivial ?_
        refine wp_virtual ok (wd hw 39 rfl) (wd hw 40 rfl) (wd hw 42 rfl) (wd hw 41 rfl) (wd hw 2 rfl) (wd hw 43 rfl) (by decide) (argsL := [.int s19_0]) (rest := []) E_hh (c_ent _ Z a0 hw hh s19_0 c r h0 n0 Z0 E_hh F_hh_count F_hh_renewedFrom g_hh) (ps := [.boolean]) (by decide +kernel) (by rfl) (by rfl) (by rfl) (by decide +kernel) (by decide) (Nat.le_of_ble_eq_true rfl) (by decide) (by decide) ?_
        intro r3 h4 q5
        obtain ⟨rfl, K6, F7, F8⟩ := q5
        have E9 := E_hh.keep K6
        obtain ⟨count28, h_count28⟩ : ∃ z : Int32, z = (c + (1 : Int32)) := ⟨_, rfl⟩
        rw [← h_count28] at F7
        obtain ⟨renewedFrom28, h_renewedFrom28⟩ : ∃ z : Int32, z = (if s19_0 = (0 : Int32) then r else (if r = (0 : Int32) then (c + (1 : Int32)) else r)) := ⟨_, rfl⟩
        rw [← h_renewedFrom28] at F8
        have A10 := A_st.keep K6 (by simp only [List.mem_cons, List.not_mem_nil, or_false, not_or]; exact (Ne.symm ne_hh_st))
        have Z11 : n0 ≤ h4.size := Nat.le_trans Z0 K6.1
        have K12 := K0.trans K6 (allS (P := fun z => z ∈ [hh, st] ∨ h0.size ≤ z) (Or.inl (by simp)) all0)
        show WP X n0 (Q_step Z hh op st c r m n d kk h0) h4 0 0 31 #[.val ((.ref hh)), .val (.int op), .val ((.ref st)), .val (.int s19_0), .unset] []
        refine wp_run ok hK (B := [(31, .iload_n 3, false)]) (by decide +kernel) (pc' := 32) (L' := #[.val ((.ref hh)), .val (.int op), .val ((.ref st)), .val (.int s19_0), .unset]) (S' := [.int s19_0]) rfl trivial ?_
        by_cases hc32 : s19_0 = (0 : Int32)
        · refine wp_run ok hK (B := [(32, .ifCond .eq 15, true)]) (by decide +kernel) (pc' := 47) (L' := #[.val ((.ref hh)), .val (.int op), .val ((.ref st)), .val (.int s19_0), .unset]) (S' := []) rfl ⟨(XT.i0_eq_t hc32), trivial⟩ ?_
          refine wp_run ok hK (B := [(47, .aload_n 2, false), (48, .iconst 1, false), (49, .aload_n 2, false), (50, .iconst 1, false)]) (by decide +kernel) (pc' := 51) (L' := #[.val ((.ref hh)), .val (.int op), .val ((.ref st)), .val (.int s19_0), .unset]) (S' := [.int (1 : Int32), (.ref st), .int (1 : Int32), (.ref st)]) rfl trivial ?_
          refine wp_aI ok A10 (i := 1) (v := .int n) (by rfl) (by decide) rfl (by decide +kernel) ?_
          refine wp_run ok hK (B := [(52, .iconst 1, false), (53, .iadd, false)]) (by decide +kernel) (pc' := 54) (L' := #[.val ((.ref hh)), .val (.int op), .val ((.ref st)), .val (.int s19_0), .unset]) (S' := [.int (n + (1 : Int32)), .int (1 : Int32), (.ref st)]) rfl trivial ?_
          refine wp_sI ok A10 (i := 1) (by rfl) (by decide) (by decide +kernel) g_st ?_
          intro h13 W14 A15
          have A16 : Ar Z h13 st .int 3 (lst [.int m, .int (n + (1 : Int32)), .int d]) := lst_set A15 rfl (by decide) rfl
          have F17 := F7.other W14 (Or.inl ne_hh_st)
          have F18 := F8.other W14 (Or.inl ne_hh_st)
          have E19 := E9.wr W14
          have Z20 : n0 ≤ h13.size := by rw [W14.size]; exact Z11
          have K21 := K12.wr W14 (Or.inl (by simp))
          refine wp_run ok hK (B := [(55, .aload_n 0, false)]) (by decide +kernel) (pc' := 56) (L' := #[.val ((.ref hh)), .val (.int op), .val ((.ref st)), .val (.int s19_0), .unset]) (S' := [(.ref hh)]) rfl trivial ?_
          refine wp_virtual ok (wd hw 20 rfl) (wd hw 21 rfl) (wd hw 23 rfl) (wd hw 22 rfl) (wd hw 2 rfl) (wd hw 24 rfl) (by decide) (argsL := []) (rest := []) E19 (c_cnt _ Z a0 hw hh count28 h13 n0 Z20 E19 F17 g_hh) (ps := []) (by decide +kernel) (by rfl) (by rfl) (by rfl) (by decide +kernel) (by decide) (Nat.le_of_ble_eq_true rfl) (by decide) (by decide) ?_
          intro r22 h23 q24
          obtain ⟨rfl, rfl⟩ := q24
          show WP X n0 (Q_step Z hh op st c r m n d kk h0) h13 0 0 59 #[.val ((.ref hh)), .val (.int op), .val ((.ref st)), .val (.int s19_0), .unset] [.int count28]
          refine wp_run ok hK (B := [(59, .aload_n 2, false), (60, .iconst 1, false)]) (by decide +kernel) (pc' := 61) (L' := #[.val ((.ref hh)), .val (.int op), .val ((.ref st)), .val (.int s19_0), .unset]) (S' := [.int (1 : Int32), (.ref st), .int count28]) rfl trivial ?_
          refine wp_aI ok A16 (i := 1) (v := .int (n + (1 : Int32))) (by rfl) (by decide) rfl (by decide +kernel) ?_
          refine wp_run ok hK (B := [(62, .if_icmp .ne 25, false), (65, .aload_n 0, false)]) (by decide +kernel) (pc' := 66) (L' := #[.val ((.ref hh)), .val (.int op), .val ((.ref st)), .val (.int s19_0), .unset]) (S' := [(.ref hh)]) rfl ⟨(XT.ii_ne_f (own_step_1 op c r m n d kk hs hk hc3 s19_0 h_s19_0 hc23 count28 h_count28 renewedFrom28 h_renewedFrom28 hc32)), trivial⟩ ?_
          refine wp_virtual ok (wd hw 25 rfl) (wd hw 26 rfl) (wd hw 28 rfl) (wd hw 27 rfl) (wd hw 2 rfl) (wd hw 29 rfl) (by decide) (argsL := []) (rest := []) E19 (c_ren _ Z a0 hw hh renewedFrom28 h13 n0 Z20 E19 F18 g_hh) (ps := []) (by decide +kernel) (by rfl) (by rfl) (by rfl) (by decide +kernel) (by decide) (Nat.le_of_ble_eq_true rfl) (by decide) (by decide) ?_
          intro r25 h26 q27
          obtain ⟨e28, rfl⟩ := q27
          obtain ⟨z66, h_z66⟩ : ∃ z : Int32, z = (if (0 : Int32) < renewedFrom28 then (1 : Int32) else (0 : Int32)) := ⟨_, rfl⟩
          have e28' := e28.trans (show _ = some (Value.int z66) by rw [h_z66])
          subst e28'
          show WP X n0 (Q_step Z hh op st c r m n d kk h0) h13 0 0 69 #[.val ((.ref hh)), .val (.int op), .val ((.ref st)), .val (.int s19_0), .unset] [.int z66]
          refine wp_run ok hK (B := [(69, .aload_n 2, false), (70, .iconst 0, false)]) (by decide +kernel) (pc' := 71) (L' := #[.val ((.ref hh)), .val (.int op), .val ((.ref st)), .val (.int s19_0), .unset]) (S' := [.int (0 : Int32), (.ref st), .int z66]) rfl trivial ?_
          refine wp_aI ok A16 (i := 0) (v := .int m) (by rfl) (by decide) rfl (by decide +kernel) ?_
          have J80_30 : ∀ (s80_0 : Int32) (h_s80_0 : s80_0 = (if m = (0 : Int32) then (0 : Int32) else (1 : Int32))), WP X n0 (Q_step Z hh op st c r m n d kk h0) h13 0 0 80 #[.val ((.ref hh)), .val (.int op), .val ((.ref st)), .val (.int s19_0), .unset] [.int s80_0, .int z66] := by
            intro s80_0 h_s80_0
            refine wp_run ok hK (B := [(80, .if_icmp .ne 7, false), (83, .iconst 1, false), (84, .goto 4, false)]) (by decide +kernel) (pc' := 88) (L' := #[.val ((.ref hh)), .val (.int op), .val ((.ref st)), .val (.int s19_0), .unset]) (S' := [.int (1 : Int32)]) rfl ⟨(XT.ii_ne_f (own_step_2 op c r m n d kk hs hk hc3 s19_0 h_s19_0 hc23 count28 h_count28 renewedFrom28 h_renewedFrom28 hc32 z66 h_z66 s80_0 h_s80_0)), trivial⟩ ?_
            refine wp_retZ ok (t := .boolean) (by simp) (by decide +kernel) (by decide) (by decide) ?_
            exact ⟨rfl, K21, m, (n + (1 : Int32)), d, count28, renewedFrom28, (own_step_3 op c r m n d kk hs hk hc3 s19_0 h_s19_0 hc23 count28 h_count28 renewedFrom28 h_renewedFrom28 hc32 z66 h_z66 s80_0 h_s80_0), F17, F18, A16⟩
          by_cases c29 : m = (0 : Int32)
          · refine wp_run ok hK (B := [(72, .ifCond .eq 7, true), (79, .iconst 0, false)]) (by decide +kernel) (pc' := 80) (L' := #[.val ((.ref hh)), .val (.int op), .val ((.ref st)), .val (.int s19_0), .unset]) (S' := [.int (0 : Int32), .int z66]) rfl ⟨(XT.i0_eq_t c29), trivial⟩ ?_
            exact J80_30 _ (by rw [if_pos c29])
          · refine wp_run ok hK (B := [(72, .ifCond .eq 7, false), (75, .iconst 1, false), (76, .goto 4, false)]) (by decide +kernel) (pc' := 80) (L' := #[.val ((.ref hh)), .val (.int op), .val ((.ref st)), .val (.int s19_0), .unset]) (S' := [.int (1 : Int32), .int z66]) rfl ⟨(XT.i0_eq_f c29), trivial⟩ ?_
            exact J80_30 _ (by rw [if_neg c29])
        · refine wp_run ok hK (B := [(32, .ifCond .eq 15, false)]) (by decide +kernel) (pc' := 35) (L' := #[.val ((.ref hh)), .val (.int op), .val ((.ref st)), .val (.int s19_0), .unset]) (S' := []) rfl ⟨(XT.i0_eq_f hc32), trivial⟩ ?_
          refine wp_run ok hK (B := [(35, .aload_n 2, false), (36, .iconst 0, false), (37, .aload_n 2, false), (38, .iconst 0, false)]) (by decide +kernel) (pc' := 39) (L' := #[.val ((.ref hh)), .val (.int op), .val ((.ref st)), .val (.int s19_0), .unset]) (S' := [.int (0 : Int32), (.ref st), .int (0 : Int32), (.ref st)]) rfl trivial ?_
          refine wp_aI ok A10 (i := 0) (v := .int m) (by rfl) (by decide) rfl (by decide +kernel) ?_
          refine wp_run ok hK (B := [(40, .iconst 1, false), (41, .aload_n 2, false), (42, .iconst 1, false)]) (by decide +kernel) (pc' := 43) (L' := #[.val ((.ref hh)), .val (.int op), .val ((.ref st)), .val (.int s19_0), .unset]) (S' := [.int (1 : Int32), (.ref st), .int (1 : Int32), .int m, .int (0 : Int32), (.ref st)]) rfl trivial ?_
          refine wp_aI ok A10 (i := 1) (v := .int n) (by rfl) (by decide) rfl (by decide +kernel) ?_
          refine wp_run ok hK (B := [(44, .ishl, false), (45, .ior, false)]) (by decide +kernel) (pc' := 46) (L' := #[.val ((.ref hh)), .val (.int op), .val ((.ref st)), .val (.int s19_0), .unset]) (S' := [.int (m ||| ((1 : Int32) <<< (n &&& 31))), .int (0 : Int32), (.ref st)]) rfl trivial ?_
          refine wp_sI ok A10 (i := 0) (by rfl) (by decide) (by decide +kernel) g_st ?_
          intro h31 W32 A33
          have A34 : Ar Z h31 st .int 3 (lst [.int (m ||| ((1 : Int32) <<< (n &&& 31))), .int n, .int d]) := lst_set A33 rfl (by decide) rfl
          have F35 := F7.other W32 (Or.inl ne_hh_st)
          have F36 := F8.other W32 (Or.inl ne_hh_st)
          have E37 := E9.wr W32
          have Z38 : n0 ≤ h31.size := by rw [W32.size]; exact Z11
          have K39 := K12.wr W32 (Or.inl (by simp))
          refine wp_run ok hK (B := [(47, .aload_n 2, false), (48, .iconst 1, false), (49, .aload_n 2, false), (50, .iconst 1, false)]) (by decide +kernel) (pc' := 51) (L' := #[.val ((.ref hh)), .val (.int op), .val ((.ref st)), .val (.int s19_0), .unset]) (S' := [.int (1 : Int32), (.ref st), .int (1 : Int32), (.ref st)]) rfl trivial ?_
          refine wp_aI ok A34 (i := 1) (v := .int n) (by rfl) (by decide) rfl (by decide +kernel) ?_
          refine wp_run ok hK (B := [(52, .iconst 1, false), (53, .iadd, false)]) (by decide +kernel) (pc' := 54) (L' := #[.val ((.ref hh)), .val (.int op), .val ((.ref st)), .val (.int s19_0), .unset]) (S' := [.int (n + (1 : Int32)), .int (1 : Int32), (.ref st)]) rfl trivial ?_
          refine wp_sI ok A34 (i := 1) (by rfl) (by decide) (by decide +kernel) g_st ?_
          intro h40 W41 A42
          have A43 : Ar Z h40 st .int 3 (lst [.int (m ||| ((1 : Int32) <<< (n &&& 31))), .int (n + (1 : Int32)), .int d]) := lst_set A42 rfl (by decide) rfl
          have F44 := F35.other W41 (Or.inl ne_hh_st)
          have F45 := F36.other W41 (Or.inl ne_hh_st)
          have E46 := E37.wr W41
          have Z47 : n0 ≤ h40.size := by rw [W41.size]; exact Z38
          have K48 := K39.wr W41 (Or.inl (by simp))
          refine wp_run ok hK (B := [(55, .aload_n 0, false)]) (by decide +kernel) (pc' := 56) (L' := #[.val ((.ref hh)), .val (.int op), .val ((.ref st)), .val (.int s19_0), .unset]) (S' := [(.ref hh)]) rfl trivial ?_
          refine wp_virtual ok (wd hw 20 rfl) (wd hw 21 rfl) (wd hw 23 rfl) (wd hw 22 rfl) (wd hw 2 rfl) (wd hw 24 rfl) (by decide) (argsL := []) (rest := []) E46 (c_cnt _ Z a0 hw hh count28 h40 n0 Z47 E46 F44 g_hh) (ps := []) (by decide +kernel) (by rfl) (by rfl) (by rfl) (by decide +kernel) (by decide) (Nat.le_of_ble_eq_true rfl) (by decide) (by decide) ?_
          intro r49 h50 q51
          obtain ⟨rfl, rfl⟩ := q51
          show WP X n0 (Q_step Z hh op st c r m n d kk h0) h40 0 0 59 #[.val ((.ref hh)), .val (.int op), .val ((.ref st)), .val (.int s19_0), .unset] [.int count28]
          refine wp_run ok hK (B := [(59, .aload_n 2, false), (60, .iconst 1, false)]) (by decide +kernel) (pc' := 61) (L' := #[.val ((.ref hh)), .val (.int op), .val ((.ref st)), .val (.int s19_0), .unset]) (S' := [.int (1 : Int32), (.ref st), .int count28]) rfl trivial ?_
          refine wp_aI ok A43 (i := 1) (v := .int (n + (1 : Int32))) (by rfl) (by decide) rfl (by decide +kernel) ?_
          refine wp_run ok hK (B := [(62, .if_icmp .ne 25, false), (65, .aload_n 0, false)]) (by decide +kernel) (pc' := 66) (L' := #[.val ((.ref hh)), .val (.int op), .val ((.ref st)), .val (.int s19_0), .unset]) (S' := [(.ref hh)]) rfl ⟨(XT.ii_ne_f (own_step_4 op c r m n d kk hs hk hc3 s19_0 h_s19_0 hc23 count28 h_count28 renewedFrom28 h_renewedFrom28 hc32)), trivial⟩ ?_
          refine wp_virtual ok (wd hw 25 rfl) (wd hw 26 rfl) (wd hw 28 rfl) (wd hw 27 rfl) (wd hw 2 rfl) (wd hw 29 rfl) (by decide) (argsL := []) (rest := []) E46 (c_ren _ Z a0 hw hh renewedFrom28 h40 n0 Z47 E46 F45 g_hh) (ps := []) (by decide +kernel) (by rfl) (by rfl) (by rfl) (by decide +kernel) (by decide) (Nat.le_of_ble_eq_true rfl) (by decide) (by decide) ?_
          intro r52 h53 q54
          obtain ⟨e55, rfl⟩ := q54
          obtain ⟨z66, h_z66⟩ : ∃ z : Int32, z = (if (0 : Int32) < renewedFrom28 then (1 : Int32) else (0 : Int32)) := ⟨_, rfl⟩
          have e55' := e55.trans (show _ = some (Value.int z66) by rw [h_z66])
          subst e55'
          show WP X n0 (Q_step Z hh op st c r m n d kk h0) h40 0 0 69 #[.val ((.ref hh)), .val (.int op), .val ((.ref st)), .val (.int s19_0), .unset] [.int z66]
          refine wp_run ok hK (B := [(69, .aload_n 2, false), (70, .iconst 0, false)]) (by decide +kernel) (pc' := 71) (L' := #[.val ((.ref hh)), .val (.int op), .val ((.ref st)), .val (.int s19_0), .unset]) (S' := [.int (0 : Int32), (.ref st), .int z66]) rfl trivial ?_
          refine wp_aI ok A43 (i := 0) (v := .int (m ||| ((1 : Int32) <<< (n &&& 31)))) (by rfl) (by decide) rfl (by decide +kernel) ?_
          have J80_57 : ∀ (s80_0 : Int32) (h_s80_0 : s80_0 = (if (m ||| ((1 : Int32) <<< (n &&& 31))) = (0 : Int32) then (0 : Int32) else (1 : Int32))), WP X n0 (Q_step Z hh op st c r m n d kk h0) h40 0 0 80 #[.val ((.ref hh)), .val (.int op), .val ((.ref st)), .val (.int s19_0), .unset] [.int s80_0, .int z66] := by
            intro s80_0 h_s80_0
            refine wp_run ok hK (B := [(80, .if_icmp .ne 7, false), (83, .iconst 1, false), (84, .goto 4, false)]) (by decide +kernel) (pc' := 88) (L' := #[.val ((.ref hh)), .val (.int op), .val ((.ref st)), .val (.int s19_0), .unset]) (S' := [.int (1 : Int32)]) rfl ⟨(XT.ii_ne_f (own_step_5 op c r m n d kk hs hk hc3 s19_0 h_s19_0 hc23 count28 h_count28 renewedFrom28 h_renewedFrom28 hc32 z66 h_z66 s80_0 h_s80_0)), trivial⟩ ?_
            refine wp_retZ ok (t := .boolean) (by simp) (by decide +kernel) (by decide) (by decide) ?_
            exact ⟨rfl, K48, (m ||| ((1 : Int32) <<< (n &&& 31))), (n + (1 : Int32)), d, count28, renewedFrom28, (own_step_6 op c r m n d kk hs hk hc3 s19_0 h_s19_0 hc23 count28 h_count28 renewedFrom28 h_renewedFrom28 hc32 z66 h_z66 s80_0 h_s80_0), F44, F45, A43⟩
          by_cases c56 : (m ||| ((1 : Int32) <<< (n &&& 31))) = (0 : Int32)
          · refine wp_run ok hK (B := [(72, .ifCond .eq 7, true), (79, .iconst 0, false)]) (by decide +kernel) (pc' := 80) (L' := #[.val ((.ref hh)), .val (.int op), .val ((.ref st)), .val (.int s19_0), .unset]) (S' := [.int (0 : Int32), .int z66]) rfl ⟨(XT.i0_eq_t c56), trivial⟩ ?_
            exact J80_57 _ (by rw [if_pos c56])
          · refine wp_run ok hK (B := [(72, .ifCond .eq 7, false), (75, .iconst 1, false), (76, .goto 4, false)]) (by decide +kernel) (pc' := 80) (L' := #[.val ((.ref hh)), .val (.int op), .val ((.ref st)), .val (.int s19_0), .unset]) (S' := [.int (1 : Int32), .int z66]) rfl ⟨(XT.i0_eq_f c56), trivial⟩ ?_
            exact J80_57 _ (by rw [if_neg c56])
      · refine wp_run ok hK (B := [(23, .ifCond .ne 66, true)]) (by decide +kernel) (pc' := 89) (L' := #[.val ((.ref hh)), .val (.int op), .val ((.ref st)), .val (.int s19_0), .unset]) (S' := []) rfl ⟨(XT.i0_ne_t hc23), trivial⟩ ?_
        refine wp_run ok hK (B := [(89, .aload_n 0, false)]) (by decide +kernel) (pc' := 90) (L' := #[.val ((.ref hh)), .val (.int op), .val ((.ref st)), .val (.int s19_0), .unset]) (S' := [(.ref hh)]) rfl trivial ?_
        refine wp_virtual ok (wd hw 34 rfl) (wd hw 35 rfl) (wd hw 37 rfl) (wd hw 36 rfl) (wd hw 2 rfl) (wd hw 38 rfl) (by decide) (argsL := []) (rest := []) E_hh (c_ext _ Z a0 hw hh c r h0 n0 Z0 E_hh F_hh_count F_hh_renewedFrom g_hh) (ps := []) (by decide +kernel) (by rfl) (by rfl) (by rfl) (by decide +kernel) (by decide) (Nat.le_of_ble_eq_true rfl) (by decide) (by decide) ?_
        intro r58 h59 q60
        obtain ⟨e61, K62, F63, F64⟩ := q60
        obtain ⟨z90, h_z90⟩ : ∃ z : Int32, z = (if (c - (1 : Int32)) = (0 : Int32) then (1 : Int32) else (0 : Int32)) := ⟨_, rfl⟩
        have e61' := e61.trans (show _ = some (Value.int z90) by rw [h_z90])
        subst e61'
        have E65 := E_hh.keep K62
        obtain ⟨count90, h_count90⟩ : ∃ z : Int32, z = (c - (1 : Int32)) := ⟨_, rfl⟩
        rw [← h_count90] at F63
        obtain ⟨renewedFrom90, h_renewedFrom90⟩ : ∃ z : Int32, z = (if (c - (1 : Int32)) < r then (0 : Int32) else r) := ⟨_, rfl⟩
        rw [← h_renewedFrom90] at F64
        have A66 := A_st.keep K62 (by simp only [List.mem_cons, List.not_mem_nil, or_false, not_or]; exact (Ne.symm ne_hh_st))
        have Z67 : n0 ≤ h59.size := Nat.le_trans Z0 K62.1
        have K68 := K0.trans K62 (allS (P := fun z => z ∈ [hh, st] ∨ h0.size ≤ z) (Or.inl (by simp)) all0)
        show WP X n0 (Q_step Z hh op st c r m n d kk h0) h59 0 0 93 #[.val ((.ref hh)), .val (.int op), .val ((.ref st)), .val (.int s19_0), .unset] [.int z90]
        refine wp_run ok hK (B := [(93, .istore 4, false), (95, .aload_n 2, false), (96, .iconst 1, false), (97, .aload_n 2, false), (98, .iconst 1, false)]) (by decide +kernel) (pc' := 99) (L' := #[.val ((.ref hh)), .val (.int op), .val ((.ref st)), .val (.int s19_0), .val (.int z90)]) (S' := [.int (1 : Int32), (.ref st), .int (1 : Int32), (.ref st)]) rfl trivial ?_
        refine wp_aI ok A66 (i := 1) (v := .int n) (by rfl) (by decide) rfl (by decide +kernel) ?_
        refine wp_run ok hK (B := [(100, .iconst 1, false), (101, .isub, false)]) (by decide +kernel) (pc' := 102) (L' := #[.val ((.ref hh)), .val (.int op), .val ((.ref st)), .val (.int s19_0), .val (.int z90)]) (S' := [.int (n - (1 : Int32)), .int (1 : Int32), (.ref st)]) rfl trivial ?_
        refine wp_sI ok A66 (i := 1) (by rfl) (by decide) (by decide +kernel) g_st ?_
        intro h69 W70 A71
        have A72 : Ar Z h69 st .int 3 (lst [.int m, .int (n - (1 : Int32)), .int d]) := lst_set A71 rfl (by decide) rfl
        have F73 := F63.other W70 (Or.inl ne_hh_st)
        have F74 := F64.other W70 (Or.inl ne_hh_st)
        have E75 := E65.wr W70
        have Z76 : n0 ≤ h69.size := by rw [W70.size]; exact Z67
        have K77 := K68.wr W70 (Or.inl (by simp))
        refine wp_run ok hK (B := [(103, .aload_n 2, false), (104, .iconst 0, false), (105, .aload_n 2, false), (106, .iconst 0, false)]) (by decide +kernel) (pc' := 107) (L' := #[.val ((.ref hh)), .val (.int op), .val ((.ref st)), .val (.int s19_0), .val (.int z90)]) (S' := [.int (0 : Int32), (.ref st), .int (0 : Int32), (.ref st)]) rfl trivial ?_
        refine wp_aI ok A72 (i := 0) (v := .int m) (by rfl) (by decide) rfl (by decide +kernel) ?_
        refine wp_run ok hK (B := [(108, .iconst 1, false), (109, .aload_n 2, false), (110, .iconst 1, false)]) (by decide +kernel) (pc' := 111) (L' := #[.val ((.ref hh)), .val (.int op), .val ((.ref st)), .val (.int s19_0), .val (.int z90)]) (S' := [.int (1 : Int32), (.ref st), .int (1 : Int32), .int m, .int (0 : Int32), (.ref st)]) rfl trivial ?_
        refine wp_aI ok A72 (i := 1) (v := .int (n - (1 : Int32))) (by rfl) (by decide) rfl (by decide +kernel) ?_
        refine wp_run ok hK (B := [(112, .ishl, false), (113, .iconst 1, false), (114, .isub, false), (115, .iand, false)]) (by decide +kernel) (pc' := 116) (L' := #[.val ((.ref hh)), .val (.int op), .val ((.ref st)), .val (.int s19_0), .val (.int z90)]) (S' := [.int (m &&& (((1 : Int32) <<< ((n - (1 : Int32)) &&& 31)) - (1 : Int32))), .int (0 : Int32), (.ref st)]) rfl trivial ?_
        refine wp_sI ok A72 (i := 0) (by rfl) (by decide) (by decide +kernel) g_st ?_
        intro h78 W79 A80
        have A81 : Ar Z h78 st .int 3 (lst [.int (m &&& (((1 : Int32) <<< ((n - (1 : Int32)) &&& 31)) - (1 : Int32))), .int (n - (1 : Int32)), .int d]) := lst_set A80 rfl (by decide) rfl
        have F82 := F73.other W79 (Or.inl ne_hh_st)
        have F83 := F74.other W79 (Or.inl ne_hh_st)
        have E84 := E75.wr W79
        have Z85 : n0 ≤ h78.size := by rw [W79.size]; exact Z76
        have K86 := K77.wr W79 (Or.inl (by simp))
        refine wp_run ok hK (B := [(117, .aload_n 2, false), (118, .iconst 1, false)]) (by decide +kernel) (pc' := 119) (L' := #[.val ((.ref hh)), .val (.int op), .val ((.ref st)), .val (.int s19_0), .val (.int z90)]) (S' := [.int (1 : Int32), (.ref st)]) rfl trivial ?_
        refine wp_aI ok A81 (i := 1) (v := .int (n - (1 : Int32))) (by rfl) (by decide) rfl (by decide +kernel) ?_
        by_cases hc120 : (n - (1 : Int32)) = (0 : Int32)
        · refine wp_run ok hK (B := [(120, .ifCond .ne 7, false)]) (by decide +kernel) (pc' := 123) (L' := #[.val ((.ref hh)), .val (.int op), .val ((.ref st)), .val (.int s19_0), .val (.int z90)]) (S' := []) rfl ⟨(XT.i0_ne_f hc120), trivial⟩ ?_
          refine wp_run ok hK (B := [(123, .aload_n 2, false), (124, .iconst 2, false), (125, .iconst 1, false)]) (by decide +kernel) (pc' := 126) (L' := #[.val ((.ref hh)), .val (.int op), .val ((.ref st)), .val (.int s19_0), .val (.int z90)]) (S' := [.int (1 : Int32), .int (2 : Int32), (.ref st)]) rfl trivial ?_
          refine wp_sI ok A81 (i := 2) (by rfl) (by decide) (by decide +kernel) g_st ?_
          intro h87 W88 A89
          have A90 : Ar Z h87 st .int 3 (lst [.int (m &&& (((1 : Int32) <<< ((n - (1 : Int32)) &&& 31)) - (1 : Int32))), .int (n - (1 : Int32)), .int (1 : Int32)]) := lst_set A89 rfl (by decide) rfl
          have F91 := F82.other W88 (Or.inl ne_hh_st)
          have F92 := F83.other W88 (Or.inl ne_hh_st)
          have E93 := E84.wr W88
          have Z94 : n0 ≤ h87.size := by rw [W88.size]; exact Z85
          have K95 := K86.wr W88 (Or.inl (by simp))
          refine wp_run ok hK (B := [(127, .iload 4, false), (129, .aload_n 2, false), (130, .iconst 1, false)]) (by decide +kernel) (pc' := 131) (L' := #[.val ((.ref hh)), .val (.int op), .val ((.ref st)), .val (.int s19_0), .val (.int z90)]) (S' := [.int (1 : Int32), (.ref st), .int z90]) rfl trivial ?_
          refine wp_aI ok A90 (i := 1) (v := .int (n - (1 : Int32))) (by rfl) (by decide) rfl (by decide +kernel) ?_
          refine wp_run ok hK (B := [(132, .ifCond .ne 7, false), (135, .iconst 1, false), (136, .goto 4, false), (140, .if_icmp .ne 35, false), (143, .aload_n 0, false)]) (by decide +kernel) (pc' := 144) (L' := #[.val ((.ref hh)), .val (.int op), .val ((.ref st)), .val (.int s19_0), .val (.int z90)]) (S' := [(.ref hh)]) rfl ⟨(XT.i0_ne_f hc120), (XT.ii_ne_f (own_step_7 op c r m n d kk hs hk hc3 s19_0 h_s19_0 hc23 z90 h_z90 count90 h_count90 renewedFrom90 h_renewedFrom90 hc120)), trivial⟩ ?_
          refine wp_virtual ok (wd hw 20 rfl) (wd hw 21 rfl) (wd hw 23 rfl) (wd hw 22 rfl) (wd hw 2 rfl) (wd hw 24 rfl) (by decide) (argsL := []) (rest := []) E93 (c_cnt _ Z a0 hw hh count90 h87 n0 Z94 E93 F91 g_hh) (ps := []) (by decide +kernel) (by rfl) (by rfl) (by rfl) (by decide +kernel) (by decide) (Nat.le_of_ble_eq_true rfl) (by decide) (by decide) ?_
          intro r96 h97 q98
          obtain ⟨rfl, rfl⟩ := q98
          show WP X n0 (Q_step Z hh op st c r m n d kk h0) h87 0 0 147 #[.val ((.ref hh)), .val (.int op), .val ((.ref st)), .val (.int s19_0), .val (.int z90)] [.int count90]
          refine wp_run ok hK (B := [(147, .aload_n 2, false), (148, .iconst 1, false)]) (by decide +kernel) (pc' := 149) (L' := #[.val ((.ref hh)), .val (.int op), .val ((.ref st)), .val (.int s19_0), .val (.int z90)]) (S' := [.int (1 : Int32), (.ref st), .int count90]) rfl trivial ?_
          refine wp_aI ok A90 (i := 1) (v := .int (n - (1 : Int32))) (by rfl) (by decide) rfl (by decide +kernel) ?_
          refine wp_run ok hK (B := [(150, .if_icmp .ne 25, false), (153, .aload_n 0, false)]) (by decide +kernel) (pc' := 154) (L' := #[.val ((.ref hh)), .val (.int op), .val ((.ref st)), .val (.int s19_0), .val (.int z90)]) (S' := [(.ref hh)]) rfl ⟨(XT.ii_ne_f (own_step_8 op c r m n d kk hs hk hc3 s19_0 h_s19_0 hc23 z90 h_z90 count90 h_count90 renewedFrom90 h_renewedFrom90 hc120)), trivial⟩ ?_
          refine wp_virtual ok (wd hw 25 rfl) (wd hw 26 rfl) (wd hw 28 rfl) (wd hw 27 rfl) (wd hw 2 rfl) (wd hw 29 rfl) (by decide) (argsL := []) (rest := []) E93 (c_ren _ Z a0 hw hh renewedFrom90 h87 n0 Z94 E93 F92 g_hh) (ps := []) (by decide +kernel) (by rfl) (by rfl) (by rfl) (by decide +kernel) (by decide) (Nat.le_of_ble_eq_true rfl) (by decide) (by decide) ?_
          intro r99 h100 q101
          obtain ⟨e102, rfl⟩ := q101
          obtain ⟨z154, h_z154⟩ : ∃ z : Int32, z = (if (0 : Int32) < renewedFrom90 then (1 : Int32) else (0 : Int32)) := ⟨_, rfl⟩
          have e102' := e102.trans (show _ = some (Value.int z154) by rw [h_z154])
          subst e102'
          show WP X n0 (Q_step Z hh op st c r m n d kk h0) h87 0 0 157 #[.val ((.ref hh)), .val (.int op), .val ((.ref st)), .val (.int s19_0), .val (.int z90)] [.int z154]
          refine wp_run ok hK (B := [(157, .aload_n 2, false), (158, .iconst 0, false)]) (by decide +kernel) (pc' := 159) (L' := #[.val ((.ref hh)), .val (.int op), .val ((.ref st)), .val (.int s19_0), .val (.int z90)]) (S' := [.int (0 : Int32), (.ref st), .int z154]) rfl trivial ?_
          refine wp_aI ok A90 (i := 0) (v := .int (m &&& (((1 : Int32) <<< ((n - (1 : Int32)) &&& 31)) - (1 : Int32)))) (by rfl) (by decide) rfl (by decide +kernel) ?_
          have J168_104 : ∀ (s168_0 : Int32) (h_s168_0 : s168_0 = (if (m &&& (((1 : Int32) <<< ((n - (1 : Int32)) &&& 31)) - (1 : Int32))) = (0 : Int32) then (0 : Int32) else (1 : Int32))), WP X n0 (Q_step Z hh op st c r m n d kk h0) h87 0 0 168 #[.val ((.ref hh)), .val (.int op), .val ((.ref st)), .val (.int s19_0), .val (.int z90)] [.int s168_0, .int z154] := by
            intro s168_0 h_s168_0
            refine wp_run ok hK (B := [(168, .if_icmp .ne 7, false), (171, .iconst 1, false), (172, .goto 4, false)]) (by decide +kernel) (pc' := 176) (L' := #[.val ((.ref hh)), .val (.int op), .val ((.ref st)), .val (.int s19_0), .val (.int z90)]) (S' := [.int (1 : Int32)]) rfl ⟨(XT.ii_ne_f (own_step_9 op c r m n d kk hs hk hc3 s19_0 h_s19_0 hc23 z90 h_z90 count90 h_count90 renewedFrom90 h_renewedFrom90 hc120 z154 h_z154 s168_0 h_s168_0)), trivial⟩ ?_
            refine wp_retZ ok (t := .boolean) (by simp) (by decide +kernel) (by decide) (by decide) ?_
            exact ⟨rfl, K95, (m &&& (((1 : Int32) <<< ((n - (1 : Int32)) &&& 31)) - (1 : Int32))), (n - (1 : Int32)), (1 : Int32), count90, renewedFrom90, (own_step_10 op c r m n d kk hs hk hc3 s19_0 h_s19_0 hc23 z90 h_z90 count90 h_count90 renewedFrom90 h_renewedFrom90 hc120 z154 h_z154 s168_0 h_s168_0), F91, F92, A90⟩
          by_cases c103 : (m &&& (((1 : Int32) <<< ((n - (1 : Int32)) &&& 31)) - (1 : Int32))) = (0 : Int32)
          · refine wp_run ok hK (B := [(160, .ifCond .eq 7, true), (167, .iconst 0, false)]) (by decide +kernel) (pc' := 168) (L' := #[.val ((.ref hh)), .val (.int op), .val ((.ref st)), .val (.int s19_0), .val (.int z90)]) (S' := [.int (0 : Int32), .int z154]) rfl ⟨(XT.i0_eq_t c103), trivial⟩ ?_
            exact J168_104 _ (by rw [if_pos c103])
          · refine wp_run ok hK (B := [(160, .ifCond .eq 7, false), (163, .iconst 1, false), (164, .goto 4, false)]) (by decide +kernel) (pc' := 168) (L' := #[.val ((.ref hh)), .val (.int op), .val ((.ref st)), .val (.int s19_0), .val (.int z90)]) (S' := [.int (1 : Int32), .int z154]) rfl ⟨(XT.i0_eq_f c103), trivial⟩ ?_
            exact J168_104 _ (by rw [if_neg c103])
        · refine wp_run ok hK (B := [(120, .ifCond .ne 7, true)]) (by decide +kernel) (pc' := 127) (L' := #[.val ((.ref hh)), .val (.int op), .val ((.ref st)), .val (.int s19_0), .val (.int z90)]) (S' := []) rfl ⟨(XT.i0_ne_t hc120), trivial⟩ ?_
          refine wp_run ok hK (B := [(127, .iload 4, false), (129, .aload_n 2, false), (130, .iconst 1, false)]) (by decide +kernel) (pc' := 131) (L' := #[.val ((.ref hh)), .val (.int op), .val ((.ref st)), .val (.int s19_0), .val (.int z90)]) (S' := [.int (1 : Int32), (.ref st), .int z90]) rfl trivial ?_
          refine wp_aI ok A81 (i := 1) (v := .int (n - (1 : Int32))) (by rfl) (by decide) rfl (by decide +kernel) ?_
          refine wp_run ok hK (B := [(132, .ifCond .ne 7, true), (139, .iconst 0, false), (140, .if_icmp .ne 35, false), (143, .aload_n 0, false)]) (by decide +kernel) (pc' := 144) (L' := #[.val ((.ref hh)), .val (.int op), .val ((.ref st)), .val (.int s19_0), .val (.int z90)]) (S' := [(.ref hh)]) rfl ⟨(XT.i0_ne_t hc120), (XT.ii_ne_f (own_step_11 op c r m n d kk hs hk hc3 s19_0 h_s19_0 hc23 z90 h_z90 count90 h_count90 renewedFrom90 h_renewedFrom90 hc120)), trivial⟩ ?_
          refine wp_virtual ok (wd hw 20 rfl) (wd hw 21 rfl) (wd hw 23 rfl) (wd hw 22 rfl) (wd hw 2 rfl) (wd hw 24 rfl) (by decide) (argsL := []) (rest := []) E84 (c_cnt _ Z a0 hw hh count90 h78 n0 Z85 E84 F82 g_hh) (ps := []) (by decide +kernel) (by rfl) (by rfl) (by rfl) (by decide +kernel) (by decide) (Nat.le_of_ble_eq_true rfl) (by decide) (by decide) ?_
          intro r105 h106 q107
          obtain ⟨rfl, rfl⟩ := q107
          show WP X n0 (Q_step Z hh op st c r m n d kk h0) h78 0 0 147 #[.val ((.ref hh)), .val (.int op), .val ((.ref st)), .val (.int s19_0), .val (.int z90)] [.int count90]
          refine wp_run ok hK (B := [(147, .aload_n 2, false), (148, .iconst 1, false)]) (by decide +kernel) (pc' := 149) (L' := #[.val ((.ref hh)), .val (.int op), .val ((.ref st)), .val (.int s19_0), .val (.int z90)]) (S' := [.int (1 : Int32), (.ref st), .int count90]) rfl trivial ?_
          refine wp_aI ok A81 (i := 1) (v := .int (n - (1 : Int32))) (by rfl) (by decide) rfl (by decide +kernel) ?_
          refine wp_run ok hK (B := [(150, .if_icmp .ne 25, false), (153, .aload_n 0, false)]) (by decide +kernel) (pc' := 154) (L' := #[.val ((.ref hh)), .val (.int op), .val ((.ref st)), .val (.int s19_0), .val (.int z90)]) (S' := [(.ref hh)]) rfl ⟨(XT.ii_ne_f (own_step_12 op c r m n d kk hs hk hc3 s19_0 h_s19_0 hc23 z90 h_z90 count90 h_count90 renewedFrom90 h_renewedFrom90 hc120)), trivial⟩ ?_
          refine wp_virtual ok (wd hw 25 rfl) (wd hw 26 rfl) (wd hw 28 rfl) (wd hw 27 rfl) (wd hw 2 rfl) (wd hw 29 rfl) (by decide) (argsL := []) (rest := []) E84 (c_ren _ Z a0 hw hh renewedFrom90 h78 n0 Z85 E84 F83 g_hh) (ps := []) (by decide +kernel) (by rfl) (by rfl) (by rfl) (by decide +kernel) (by decide) (Nat.le_of_ble_eq_true rfl) (by decide) (by decide) ?_
          intro r108 h109 q110
          obtain ⟨e111, rfl⟩ := q110
          obtain ⟨z154, h_z154⟩ : ∃ z : Int32, z = (if (0 : Int32) < renewedFrom90 then (1 : Int32) else (0 : Int32)) := ⟨_, rfl⟩
          have e111' := e111.trans (show _ = some (Value.int z154) by rw [h_z154])
          subst e111'
          show WP X n0 (Q_step Z hh op st c r m n d kk h0) h78 0 0 157 #[.val ((.ref hh)), .val (.int op), .val ((.ref st)), .val (.int s19_0), .val (.int z90)] [.int z154]
          refine wp_run ok hK (B := [(157, .aload_n 2, false), (158, .iconst 0, false)]) (by decide +kernel) (pc' := 159) (L' := #[.val ((.ref hh)), .val (.int op), .val ((.ref st)), .val (.int s19_0), .val (.int z90)]) (S' := [.int (0 : Int32), (.ref st), .int z154]) rfl trivial ?_
          refine wp_aI ok A81 (i := 0) (v := .int (m &&& (((1 : Int32) <<< ((n - (1 : Int32)) &&& 31)) - (1 : Int32)))) (by rfl) (by decide) rfl (by decide +kernel) ?_
          have J168_113 : ∀ (s168_0 : Int32) (h_s168_0 : s168_0 = (if (m &&& (((1 : Int32) <<< ((n - (1 : Int32)) &&& 31)) - (1 : Int32))) = (0 : Int32) then (0 : Int32) else (1 : Int32))), WP X n0 (Q_step Z hh op st c r m n d kk h0) h78 0 0 168 #[.val ((.ref hh)), .val (.int op), .val ((.ref st)), .val (.int s19_0), .val (.int z90)] [.int s168_0, .int z154] := by
            intro s168_0 h_s168_0
            refine wp_run ok hK (B := [(168, .if_icmp .ne 7, false), (171, .iconst 1, false), (172, .goto 4, false)]) (by decide +kernel) (pc' := 176) (L' := #[.val ((.ref hh)), .val (.int op), .val ((.ref st)), .val (.int s19_0), .val (.int z90)]) (S' := [.int (1 : Int32)]) rfl ⟨(XT.ii_ne_f (own_step_13 op c r m n d kk hs hk hc3 s19_0 h_s19_0 hc23 z90 h_z90 count90 h_count90 renewedFrom90 h_renewedFrom90 hc120 z154 h_z154 s168_0 h_s168_0)), trivial⟩ ?_
            refine wp_retZ ok (t := .boolean) (by simp) (by decide +kernel) (by decide) (by decide) ?_
            exact ⟨rfl, K86, (m &&& (((1 : Int32) <<< ((n - (1 : Int32)) &&& 31)) - (1 : Int32))), (n - (1 : Int32)), d, count90, renewedFrom90, (own_step_14 op c r m n d kk hs hk hc3 s19_0 h_s19_0 hc23 z90 h_z90 count90 h_count90 renewedFrom90 h_renewedFrom90 hc120 z154 h_z154 s168_0 h_s168_0), F82, F83, A81⟩
          by_cases c112 : (m &&& (((1 : Int32) <<< ((n - (1 : Int32)) &&& 31)) - (1 : Int32))) = (0 : Int32)
          · refine wp_run ok hK (B := [(160, .ifCond .eq 7, true), (167, .iconst 0, false)]) (by decide +kernel) (pc' := 168) (L' := #[.val ((.ref hh)), .val (.int op), .val ((.ref st)), .val (.int s19_0), .val (.int z90)]) (S' := [.int (0 : Int32), .int z154]) rfl ⟨(XT.i0_eq_t c112), trivial⟩ ?_
            exact J168_113 _ (by rw [if_pos c112])
          · refine wp_run ok hK (B := [(160, .ifCond .eq 7, false), (163, .iconst 1, false), (164, .goto 4, false)]) (by decide +kernel) (pc' := 168) (L' := #[.val ((.ref hh)), .val (.int op), .val ((.ref st)), .val (.int s19_0), .val (.int z90)]) (S' := [.int (1 : Int32), .int z154]) rfl ⟨(XT.i0_eq_f c112), trivial⟩ ?_
            exact J168_113 _ (by rw [if_neg c112])
    by_cases c1 : (op &&& (2 : Int32)) = (0 : Int32)
    · refine wp_run ok hK (B := [(11, .ifCond .eq 7, true), (18, .iconst 0, false)]) (by decide +kernel) (pc' := 19) (L' := #[.val ((.ref hh)), .val (.int op), .val ((.ref st)), .unset, .unset]) (S' := [.int (0 : Int32)]) rfl ⟨(XT.i0_eq_t c1), trivial⟩ ?_
      exact J19_2 _ (by rw [if_pos c1])
    · refine wp_run ok hK (B := [(11, .ifCond .eq 7, false), (14, .iconst 1, false), (15, .goto 4, false)]) (by decide +kernel) (pc' := 19) (L' := #[.val ((.ref hh)), .val (.int op), .val ((.ref st)), .unset, .unset]) (S' := [.int (1 : Int32)]) rfl ⟨(XT.i0_eq_f c1), trivial⟩ ?_
      exact J19_2 _ (by rw [if_neg c1])
  · refine wp_run ok hK (B := [(3, .ifCond .eq 5, false)]) (by decide +kernel) (pc' := 6) (L' := #[.val ((.ref hh)), .val (.int op), .val ((.ref st)), .unset, .unset]) (S' := []) rfl ⟨(XT.i0_eq_f hc3), trivial⟩ ?_
    refine wp_run ok hK (B := [(6, .iconst 1, false)]) (by decide +kernel) (pc' := 7) (L' := #[.val ((.ref hh)), .val (.int op), .val ((.ref st)), .unset, .unset]) (S' := [.int (1 : Int32)]) rfl trivial ?_
    refine wp_retZ ok (t := .boolean) (by simp) (by decide +kernel) (by decide) (by decide) ?_
    exact ⟨rfl, K0, m, n, d, c, r, (own_step_15 op c r m n d kk hs hk hc3), F_hh_count, F_hh_renewedFrom, A_st⟩
def k_law : List (Nat × Value) := []
def QL : Post := fun v _ => v = some (.int 1)
theorem own_law_1 (fi : Int32) (op : Int32) (s11_0 : Int32) (h_s11_0 : s11_0 = (if (fi &&& (1 : Int32)) = (0 : Int32) then (0 : Int32) else (1 : Int32))) (renewedFrom20 : Int32) (h_renewedFrom20 : renewedFrom20 = (if s11_0 = (0 : Int32) then (0 : Int32) else (1 : Int32))) (s41_0 : Int32) (h_s41_0 : s41_0 = (if s11_0 = (0 : Int32) then (0 : Int32) else (1 : Int32))) (z61 : Int32) (h_z61 : z61 = (if (0 : Int32) < renewedFrom20 then (1 : Int32) else (0 : Int32))) : z61 = s11_0 := by
  rw [h_z61, h_renewedFrom20]
  have q : s11_0 = 0 ∨ s11_0 = 1 := by rw [h_s11_0]; split <;> simp
  rcases q with q | q <;> rw [q] <;> rfl
theorem own_law_2 (fi : Int32) (op : Int32) (s11_0 : Int32) (h_s11_0 : s11_0 = (if (fi &&& (1 : Int32)) = (0 : Int32) then (0 : Int32) else (1 : Int32))) (renewedFrom20 : Int32) (h_renewedFrom20 : renewedFrom20 = (if s11_0 = (0 : Int32) then (0 : Int32) else (1 : Int32))) (s41_0 : Int32) (h_s41_0 : s41_0 = (if s11_0 = (0 : Int32) then (0 : Int32) else (1 : Int32))) (z61 : Int32) (h_z61 : z61 = (if (0 : Int32) < renewedFrom20 then (1 : Int32) else (0 : Int32))) : SI 1 s41_0 (1 : Int32) (0 : Int32) (1 : Int32) renewedFrom20 := by
  have q : s11_0 = 0 ∨ s11_0 = 1 := by rw [h_s11_0]; split <;> simp
  rcases q with q | q <;> rw [h_s41_0, h_renewedFrom20, q]
  · exact Or.inr ⟨rfl, 0, 1, by decide, by decide, by decide, rfl, rfl, rfl, rfl⟩
  · exact Or.inr ⟨rfl, 1, 1, by decide, by decide, by decide, rfl, rfl, rfl, rfl⟩
theorem own_law_3 (fi : Int32) (op : Int32) (s11_0 : Int32) (h_s11_0 : s11_0 = (if (fi &&& (1 : Int32)) = (0 : Int32) then (0 : Int32) else (1 : Int32))) (renewedFrom20 : Int32) (h_renewedFrom20 : renewedFrom20 = (if s11_0 = (0 : Int32) then (0 : Int32) else (1 : Int32))) (s41_0 : Int32) (h_s41_0 : s41_0 = (if s11_0 = (0 : Int32) then (0 : Int32) else (1 : Int32))) (z61 : Int32) (h_z61 : z61 = (if (0 : Int32) < renewedFrom20 then (1 : Int32) else (0 : Int32))) (m81 : Int32) (n81 : Int32) (d81 : Int32) (c81 : Int32) (r81 : Int32) (I85 : SI (1 + 1) m81 n81 d81 c81 r81) (m95 : Int32) (n95 : Int32) (d95 : Int32) (c95 : Int32) (r95 : Int32) (I95 : SI ((1 + 1) + 1) m95 n95 d95 c95 r95) (m109 : Int32) (n109 : Int32) (d109 : Int32) (c109 : Int32) (r109 : Int32) (I105 : SI (((1 + 1) + 1) + 1) m109 n109 d109 c109 r109) (m124 : Int32) (n124 : Int32) (d124 : Int32) (c124 : Int32) (r124 : Int32) (I115 : SI ((((1 + 1) + 1) + 1) + 1) m124 n124 d124 c124 r124) (m139 : Int32) (n139 : Int32) (d139 : Int32) (c139 : Int32) (r139 : Int32) (I125 : SI (((((1 + 1) + 1) + 1) + 1) + 1) m139 n139 d139 c139 r139) (m154 : Int32) (n154 : Int32) (d154 : Int32) (c154 : Int32) (r154 : Int32) (I135 : SI ((((((1 + 1) + 1) + 1) + 1) + 1) + 1) m154 n154 d154 c154 r154) : nar .boolean (((((((1 : Int32) &&& (1 : Int32)) &&& (1 : Int32)) &&& (1 : Int32)) &&& (1 : Int32)) &&& (1 : Int32)) &&& (1 : Int32)) = 1 := by
  rfl
theorem pn_law : plainFor x = true := by first | (refine plainFor_of_name ?_; show plainName "com/example/exclude/exclude/lock/HoldExitPinLaw" = true; simp [plainName, overriddenIn]; done) | decide +kernel
set_option maxRecDepth 65536 in
set_option maxHeartbeats 40000000 in
theorem c_law (l : Launch) (Z : State) (a0 : Array Value) (hw : ∀ d ∈ tables_1, d.before a0 Z = true) (fi : Int32) (op : Int32) (h0 : Heap) (n0 : Nat) (Z0 : n0 ≤ h0.size) :
    Con l Z x code maxLocals ret room_1 #[.int fi, .int op] h0 n0 QL tables_1 := by
  refine con_of_wp pn_law (L0 := #[.val (.int fi), .val (.int op), .unset, .unset, .unset, .unset]) (fun m => by first | (simp [entryFrame, mkF, argsToLocals, Value.category, maxLocals]; done) | rfl) (fun X hl ok => ?_)
  subst hl
  have hK : Konst Z a0 "com/example/exclude/exclude/lock/HoldExitPinLaw" k_law := trivial
  refine wp_run ok hK (B := [(0, .iload_n 0, false), (1, .iconst 1, false), (2, .iand, false)]) (by decide +kernel) (pc' := 3) (L' := #[.val (.int fi), .val (.int op), .unset, .unset, .unset, .unset]) (S' := [.int (fi &&& (1 : Int32))]) rfl trivial ?_
  have J11_2 : ∀ (s11_0 : Int32) (h_s11_0 : s11_0 = (if (fi &&& (1 : Int32)) = (0 : Int32) then (0 : Int32) else (1 : Int32))), WP X n0 QL h0 0 0 11 #[.val (.int fi), .val (.int op), .unset, .unset, .unset, .unset] [.int s11_0] := by
    intro s11_0 h_s11_0
    refine wp_run ok hK (B := [(11, .istore_n 2, false)]) (by decide +kernel) (pc' := 12) (L' := #[.val (.int fi), .val (.int op), .val (.int s11_0), .unset, .unset, .unset]) (S' := []) rfl trivial ?_
    refine wp_new ok (wd hw 0 rfl) (wd hw 1 rfl) (wd hw 2 rfl) (by decide +kernel) (by decide) (by decide) ?_
    intro h3 a4 ea5 X6 E7 D8
    have Z9 : n0 ≤ h3.size := Nat.le_trans Z0 X6.1
    have g10 : n0 ≤ a4 := by rw [ea5]; exact Z0
    have F11 : Fld Z h3 a4 "com/example/exclude/exclude/lock/Hold" "threadId" "J" (.long (0 : Int64)) := D8 (Or.inr (wd hw 10 rfl)) (ty := .long) (by decide)
    have F12 : Fld Z h3 a4 "com/example/exclude/exclude/lock/Hold" "lease" "Lcom/example/exclude/exclude/lease/Lease;" (.null) := D8 (Or.inr (wd hw 12 rfl)) (ty := (.object "com/example/exclude/exclude/lease/Lease")) (by decide)
    have F13 : Fld Z h3 a4 "com/example/exclude/exclude/lock/Hold" "fencingToken" "J" (.long (0 : Int64)) := D8 (Or.inr (wd hw 14 rfl)) (ty := .long) (by decide)
    have F14 : Fld Z h3 a4 "com/example/exclude/exclude/lock/Hold" "count" "I" (.int (0 : Int32)) := D8 (Or.inl (wd hw 16 rfl)) (ty := .int) (by decide)
    have F15 : Fld Z h3 a4 "com/example/exclude/exclude/lock/Hold" "renewedFrom" "I" (.int (0 : Int32)) := D8 (Or.inl (wd hw 18 rfl)) (ty := .int) (by decide)
    refine wp_run ok hK (B := [(15, .dup, false), (16, .lconst 0, false), (17, .aconst_null, false), (18, .lconst 0, false), (19, .iload_n 2, false)]) (by decide +kernel) (pc' := 20) (L' := #[.val (.int fi), .val (.int op), .val (.int s11_0), .unset, .unset, .unset]) (S' := [.int s11_0, .long (0 : Int64), .null, .long (0 : Int64), (.ref a4), (.ref a4)]) rfl trivial ?_
    refine wp_special ok rfl (wd hw 3 rfl) (wd hw 4 rfl) (wd hw 2 rfl) (wd hw 5 rfl) (by decide) (argsL := [.long (0 : Int64), .null, .long (0 : Int64), .int s11_0]) (rest := [(.ref a4)]) (c_ini _ Z a0 hw a4 (0 : Int64) (0 : Int64) s11_0 (0 : Int64) (0 : Int64) (0 : Int32) (0 : Int32) h3 n0 Z9 E7 F11 F12 F13 F14 F15 g10) (ps := [.long, (.object "com/example/exclude/exclude/lease/Lease"), .long, .boolean]) (by decide +kernel) (by rfl) (by rfl) (by rfl) (by decide +kernel) (by decide) (Nat.le_of_ble_eq_true rfl) (by decide) (by decide) ?_
    intro r16 h17 q18
    obtain ⟨rfl, K19, F20, F21, F22, F23, F24⟩ := q18
    have E25 := E7.keep K19
    obtain ⟨renewedFrom20, h_renewedFrom20⟩ : ∃ z : Int32, z = (if s11_0 = (0 : Int32) then (0 : Int32) else (1 : Int32)) := ⟨_, rfl⟩
    rw [← h_renewedFrom20] at F24
    have Z26 : n0 ≤ h17.size := Nat.le_trans Z9 K19.1
    show WP X n0 QL h17 1 5 23 #[.val (.int fi), .val (.int op), .val (.int s11_0), .unset, .unset, .unset] [(.ref a4)]
    refine wp_run ok hK (B := [(23, .astore_n 3, false), (24, .iconst 3, false)]) (by decide +kernel) (pc' := 25) (L' := #[.val (.int fi), .val (.int op), .val (.int s11_0), .val ((.ref a4)), .unset, .unset]) (S' := [.int (3 : Int32)]) rfl trivial ?_
    refine wp_nA ok (aty := .int) (wd hw 19 rfl) (by decide +kernel) (cap := 3) (by rfl) (by decide) (by decide) (by decide) ?_
    intro h27 a28 ea29 X30 A31
    have E32 := E25.ext X30
    have F33 := F20.ext X30
    have F34 := F21.ext X30
    have F35 := F22.ext X30
    have F36 := F23.ext X30
    have F37 := F24.ext X30
    have Z38 : n0 ≤ h27.size := Nat.le_trans Z26 X30.1
    have A39 : Ar Z h27 a28 .int 3 (lst [.int (0 : Int32), .int (0 : Int32), .int (0 : Int32)]) := lst_new A31 rfl
    have g40 : n0 ≤ a28 := by rw [ea29]; exact Z26
    refine wp_run ok hK (B := [(27, .astore 4, false), (29, .aload 4, false), (31, .iconst 0, false), (32, .iload_n 2, false)]) (by decide +kernel) (pc' := 33) (L' := #[.val (.int fi), .val (.int op), .val (.int s11_0), .val ((.ref a4)), .val ((.ref a28)), .unset]) (S' := [.int s11_0, .int (0 : Int32), (.ref a28)]) rfl trivial ?_
    have J41_42 : ∀ (s41_0 : Int32) (h_s41_0 : s41_0 = (if s11_0 = (0 : Int32) then (0 : Int32) else (1 : Int32))), WP X n0 QL h27 2 8 41 #[.val (.int fi), .val (.int op), .val (.int s11_0), .val ((.ref a4)), .val ((.ref a28)), .unset] [.int s41_0, .int (0 : Int32), (.ref a28)] := by
      intro s41_0 h_s41_0
      refine wp_sI ok A39 (i := 0) (by rfl) (by decide) (by decide +kernel) g40 ?_
      intro h43 W44 A45
      have A46 : Ar Z h43 a28 .int 3 (lst [.int s41_0, .int (0 : Int32), .int (0 : Int32)]) := lst_set A45 rfl (by decide) rfl
      have F47 := F33.other W44 (Or.inl (ne_new (E25.lt) ea29))
      have F48 := F34.other W44 (Or.inl (ne_new (E25.lt) ea29))
      have F49 := F35.other W44 (Or.inl (ne_new (E25.lt) ea29))
      have F50 := F36.other W44 (Or.inl (ne_new (E25.lt) ea29))
      have F51 := F37.other W44 (Or.inl (ne_new (E25.lt) ea29))
      have E52 := E32.wr W44
      have Z53 : n0 ≤ h43.size := by rw [W44.size]; exact Z38
      refine wp_run ok hK (B := [(42, .aload 4, false), (44, .iconst 1, false), (45, .iconst 1, false)]) (by decide +kernel) (pc' := 46) (L' := #[.val (.int fi), .val (.int op), .val (.int s11_0), .val ((.ref a4)), .val ((.ref a28)), .unset]) (S' := [.int (1 : Int32), .int (1 : Int32), (.ref a28)]) rfl trivial ?_
      refine wp_sI ok A46 (i := 1) (by rfl) (by decide) (by decide +kernel) g40 ?_
      intro h54 W55 A56
      have A57 : Ar Z h54 a28 .int 3 (lst [.int s41_0, .int (1 : Int32), .int (0 : Int32)]) := lst_set A56 rfl (by decide) rfl
      have F58 := F47.other W55 (Or.inl (ne_new (E25.lt) ea29))
      have F59 := F48.other W55 (Or.inl (ne_new (E25.lt) ea29))
      have F60 := F49.other W55 (Or.inl (ne_new (E25.lt) ea29))
      have F61 := F50.other W55 (Or.inl (ne_new (E25.lt) ea29))
      have F62 := F51.other W55 (Or.inl (ne_new (E25.lt) ea29))
      have E63 := E52.wr W55
      have Z64 : n0 ≤ h54.size := by rw [W55.size]; exact Z53
      refine wp_run ok hK (B := [(47, .aload 4, false), (49, .iconst 2, false), (50, .iconst 0, false)]) (by decide +kernel) (pc' := 51) (L' := #[.val (.int fi), .val (.int op), .val (.int s11_0), .val ((.ref a4)), .val ((.ref a28)), .unset]) (S' := [.int (0 : Int32), .int (2 : Int32), (.ref a28)]) rfl trivial ?_
      refine wp_sI ok A57 (i := 2) (by rfl) (by decide) (by decide +kernel) g40 ?_
      intro h65 W66 A67
      have A68 : Ar Z h65 a28 .int 3 (lst [.int s41_0, .int (1 : Int32), .int (0 : Int32)]) := lst_set A67 rfl (by decide) rfl
      have F69 := F58.other W66 (Or.inl (ne_new (E25.lt) ea29))
      have F70 := F59.other W66 (Or.inl (ne_new (E25.lt) ea29))
      have F71 := F60.other W66 (Or.inl (ne_new (E25.lt) ea29))
      have F72 := F61.other W66 (Or.inl (ne_new (E25.lt) ea29))
      have F73 := F62.other W66 (Or.inl (ne_new (E25.lt) ea29))
      have E74 := E63.wr W66
      have Z75 : n0 ≤ h65.size := by rw [W66.size]; exact Z64
      refine wp_run ok hK (B := [(52, .aload_n 3, false)]) (by decide +kernel) (pc' := 53) (L' := #[.val (.int fi), .val (.int op), .val (.int s11_0), .val ((.ref a4)), .val ((.ref a28)), .unset]) (S' := [(.ref a4)]) rfl trivial ?_
      refine wp_virtual ok (wd hw 20 rfl) (wd hw 21 rfl) (wd hw 23 rfl) (wd hw 22 rfl) (wd hw 2 rfl) (wd hw 24 rfl) (by decide) (argsL := []) (rest := []) E74 (c_cnt _ Z a0 hw a4 (1 : Int32) h65 n0 Z75 E74 F72 g10) (ps := []) (by decide +kernel) (by rfl) (by rfl) (by rfl) (by decide +kernel) (by decide) (Nat.le_of_ble_eq_true rfl) (by decide) (by decide) ?_
      intro r76 h77 q78
      obtain ⟨rfl, rfl⟩ := q78
      show WP X n0 QL h65 2 8 56 #[.val (.int fi), .val (.int op), .val (.int s11_0), .val ((.ref a4)), .val ((.ref a28)), .unset] [.int (1 : Int32)]
      refine wp_run ok hK (B := [(56, .iconst 1, false), (57, .if_icmp .ne 15, false), (60, .aload_n 3, false)]) (by decide +kernel) (pc' := 61) (L' := #[.val (.int fi), .val (.int op), .val (.int s11_0), .val ((.ref a4)), .val ((.ref a28)), .unset]) (S' := [(.ref a4)]) rfl ⟨(XT.ii_ne_f (by decide)), trivial⟩ ?_
      refine wp_virtual ok (wd hw 25 rfl) (wd hw 26 rfl) (wd hw 28 rfl) (wd hw 27 rfl) (wd hw 2 rfl) (wd hw 29 rfl) (by decide) (argsL := []) (rest := []) E74 (c_ren _ Z a0 hw a4 renewedFrom20 h65 n0 Z75 E74 F73 g10) (ps := []) (by decide +kernel) (by rfl) (by rfl) (by rfl) (by decide +kernel) (by decide) (Nat.le_of_ble_eq_true rfl) (by decide) (by decide) ?_
      intro r79 h80 q81
      obtain ⟨e82, rfl⟩ := q81
      obtain ⟨z61, h_z61⟩ : ∃ z : Int32, z = (if (0 : Int32) < renewedFrom20 then (1 : Int32) else (0 : Int32)) := ⟨_, rfl⟩
      have e82' := e82.trans (show _ = some (Value.int z61) by rw [h_z61])
      subst e82'
      show WP X n0 QL h65 2 8 64 #[.val (.int fi), .val (.int op), .val (.int s11_0), .val ((.ref a4)), .val ((.ref a28)), .unset] [.int z61]
      refine wp_run ok hK (B := [(64, .iload_n 2, false), (65, .if_icmp .ne 7, false), (68, .iconst 1, false), (69, .goto 4, false), (73, .istore 5, false), (75, .iload 5, false), (77, .aload_n 3, false), (78, .iload_n 1, false), (79, .aload 4, false)]) (by decide +kernel) (pc' := 81) (L' := #[.val (.int fi), .val (.int op), .val (.int s11_0), .val ((.ref a4)), .val ((.ref a28)), .val (.int (1 : Int32))]) (S' := [(.ref a28), .int op, (.ref a4), .int (1 : Int32)]) rfl ⟨(XT.ii_ne_f (own_law_1 fi op s11_0 h_s11_0 renewedFrom20 h_renewedFrom20 s41_0 h_s41_0 z61 h_z61)), trivial⟩ ?_
      have I83 := (own_law_2 fi op s11_0 h_s11_0 renewedFrom20 h_renewedFrom20 s41_0 h_s41_0 z61 h_z61)
      refine wp_static ok (wd hw 30 rfl) (wd hw 31 rfl) (wd hw 32 rfl) (wd hw 33 rfl) (by decide) (argsL := [(.ref a4), .int op, (.ref a28)]) (rest := [.int (1 : Int32)]) (c_step _ Z a0 hw a4 op a28 (1 : Int32) renewedFrom20 s41_0 (1 : Int32) (0 : Int32) 1 h65 n0 Z75 E74 F72 F73 g10 A68 g40 I83 (by omega)) (ps := [(.object "com/example/exclude/exclude/lock/Hold"), .int, (.array .int)]) (by decide +kernel) (by rfl) (by rfl) (by rfl) (by decide +kernel) (by decide) (Nat.le_of_ble_eq_true rfl) (by decide) (by decide) ?_
      intro r89 h90 q91
      obtain ⟨rfl, K84, m81, n81, d81, c81, r81, I85, F86, F87, A88⟩ := q91
      have E92 := E74.keep K84
      have Z93 : n0 ≤ h90.size := Nat.le_trans Z75 K84.1
      show WP X n0 QL h90 2 8 84 #[.val (.int fi), .val (.int op), .val (.int s11_0), .val ((.ref a4)), .val ((.ref a28)), .val (.int (1 : Int32))] [.int (1 : Int32), .int (1 : Int32)]
      refine wp_run ok hK (B := [(84, .iand, false), (85, .istore 5, false), (87, .iload 5, false), (89, .aload_n 3, false), (90, .iload_n 1, false), (91, .iconst 2, false), (92, .iushr, false), (93, .aload 4, false)]) (by decide +kernel) (pc' := 95) (L' := #[.val (.int fi), .val (.int op), .val (.int s11_0), .val ((.ref a4)), .val ((.ref a28)), .val (.int ((1 : Int32) &&& (1 : Int32)))]) (S' := [(.ref a28), .int (ush op (2 : Int32)), (.ref a4), .int ((1 : Int32) &&& (1 : Int32))]) rfl trivial ?_
      refine wp_static ok (wd hw 30 rfl) (wd hw 31 rfl) (wd hw 32 rfl) (wd hw 33 rfl) (by decide) (argsL := [(.ref a4), .int (ush op (2 : Int32)), (.ref a28)]) (rest := [.int ((1 : Int32) &&& (1 : Int32))]) (c_step _ Z a0 hw a4 (ush op (2 : Int32)) a28 c81 r81 m81 n81 d81 (1 + 1) h90 n0 Z93 E92 F86 F87 g10 A88 g40 I85 (by omega)) (ps := [(.object "com/example/exclude/exclude/lock/Hold"), .int, (.array .int)]) (by decide +kernel) (by rfl) (by rfl) (by rfl) (by decide +kernel) (by decide) (Nat.le_of_ble_eq_true rfl) (by decide) (by decide) ?_
      intro r99 h100 q101
      obtain ⟨rfl, K94, m95, n95, d95, c95, r95, I95, F96, F97, A98⟩ := q101
      have E102 := E92.keep K94
      have Z103 : n0 ≤ h100.size := Nat.le_trans Z93 K94.1
      show WP X n0 QL h100 2 8 98 #[.val (.int fi), .val (.int op), .val (.int s11_0), .val ((.ref a4)), .val ((.ref a28)), .val (.int ((1 : Int32) &&& (1 : Int32)))] [.int (1 : Int32), .int ((1 : Int32) &&& (1 : Int32))]
      refine wp_run ok hK (B := [(98, .iand, false), (99, .istore 5, false), (101, .iload 5, false), (103, .aload_n 3, false), (104, .iload_n 1, false), (105, .iconst 4, false), (106, .iushr, false), (107, .aload 4, false)]) (by decide +kernel) (pc' := 109) (L' := #[.val (.int fi), .val (.int op), .val (.int s11_0), .val ((.ref a4)), .val ((.ref a28)), .val (.int (((1 : Int32) &&& (1 : Int32)) &&& (1 : Int32)))]) (S' := [(.ref a28), .int (ush op (4 : Int32)), (.ref a4), .int (((1 : Int32) &&& (1 : Int32)) &&& (1 : Int32))]) rfl trivial ?_
      refine wp_static ok (wd hw 30 rfl) (wd hw 31 rfl) (wd hw 32 rfl) (wd hw 33 rfl) (by decide) (argsL := [(.ref a4), .int (ush op (4 : Int32)), (.ref a28)]) (rest := [.int (((1 : Int32) &&& (1 : Int32)) &&& (1 : Int32))]) (c_step _ Z a0 hw a4 (ush op (4 : Int32)) a28 c95 r95 m95 n95 d95 ((1 + 1) + 1) h100 n0 Z103 E102 F96 F97 g10 A98 g40 I95 (by omega)) (ps := [(.object "com/example/exclude/exclude/lock/Hold"), .int, (.array .int)]) (by decide +kernel) (by rfl) (by rfl) (by rfl) (by decide +kernel) (by decide) (Nat.le_of_ble_eq_true rfl) (by decide) (by decide) ?_
      intro r109 h110 q111
      obtain ⟨rfl, K104, m109, n109, d109, c109, r109, I105, F106, F107, A108⟩ := q111
      have E112 := E102.keep K104
      have Z113 : n0 ≤ h110.size := Nat.le_trans Z103 K104.1
      show WP X n0 QL h110 2 8 112 #[.val (.int fi), .val (.int op), .val (.int s11_0), .val ((.ref a4)), .val ((.ref a28)), .val (.int (((1 : Int32) &&& (1 : Int32)) &&& (1 : Int32)))] [.int (1 : Int32), .int (((1 : Int32) &&& (1 : Int32)) &&& (1 : Int32))]
      refine wp_run ok hK (B := [(112, .iand, false), (113, .istore 5, false), (115, .iload 5, false), (117, .aload_n 3, false), (118, .iload_n 1, false), (119, .bipush 6, false), (121, .iushr, false), (122, .aload 4, false)]) (by decide +kernel) (pc' := 124) (L' := #[.val (.int fi), .val (.int op), .val (.int s11_0), .val ((.ref a4)), .val ((.ref a28)), .val (.int ((((1 : Int32) &&& (1 : Int32)) &&& (1 : Int32)) &&& (1 : Int32)))]) (S' := [(.ref a28), .int (ush op (6 : Int32)), (.ref a4), .int ((((1 : Int32) &&& (1 : Int32)) &&& (1 : Int32)) &&& (1 : Int32))]) rfl trivial ?_
      refine wp_static ok (wd hw 30 rfl) (wd hw 31 rfl) (wd hw 32 rfl) (wd hw 33 rfl) (by decide) (argsL := [(.ref a4), .int (ush op (6 : Int32)), (.ref a28)]) (rest := [.int ((((1 : Int32) &&& (1 : Int32)) &&& (1 : Int32)) &&& (1 : Int32))]) (c_step _ Z a0 hw a4 (ush op (6 : Int32)) a28 c109 r109 m109 n109 d109 (((1 + 1) + 1) + 1) h110 n0 Z113 E112 F106 F107 g10 A108 g40 I105 (by omega)) (ps := [(.object "com/example/exclude/exclude/lock/Hold"), .int, (.array .int)]) (by decide +kernel) (by rfl) (by rfl) (by rfl) (by decide +kernel) (by decide) (Nat.le_of_ble_eq_true rfl) (by decide) (by decide) ?_
      intro r119 h120 q121
      obtain ⟨rfl, K114, m124, n124, d124, c124, r124, I115, F116, F117, A118⟩ := q121
      have E122 := E112.keep K114
      have Z123 : n0 ≤ h120.size := Nat.le_trans Z113 K114.1
      show WP X n0 QL h120 2 8 127 #[.val (.int fi), .val (.int op), .val (.int s11_0), .val ((.ref a4)), .val ((.ref a28)), .val (.int ((((1 : Int32) &&& (1 : Int32)) &&& (1 : Int32)) &&& (1 : Int32)))] [.int (1 : Int32), .int ((((1 : Int32) &&& (1 : Int32)) &&& (1 : Int32)) &&& (1 : Int32))]
      refine wp_run ok hK (B := [(127, .iand, false), (128, .istore 5, false), (130, .iload 5, false), (132, .aload_n 3, false), (133, .iload_n 1, false), (134, .bipush 8, false), (136, .iushr, false), (137, .aload 4, false)]) (by decide +kernel) (pc' := 139) (L' := #[.val (.int fi), .val (.int op), .val (.int s11_0), .val ((.ref a4)), .val ((.ref a28)), .val (.int (((((1 : Int32) &&& (1 : Int32)) &&& (1 : Int32)) &&& (1 : Int32)) &&& (1 : Int32)))]) (S' := [(.ref a28), .int (ush op (8 : Int32)), (.ref a4), .int (((((1 : Int32) &&& (1 : Int32)) &&& (1 : Int32)) &&& (1 : Int32)) &&& (1 : Int32))]) rfl trivial ?_
      refine wp_static ok (wd hw 30 rfl) (wd hw 31 rfl) (wd hw 32 rfl) (wd hw 33 rfl) (by decide) (argsL := [(.ref a4), .int (ush op (8 : Int32)), (.ref a28)]) (rest := [.int (((((1 : Int32) &&& (1 : Int32)) &&& (1 : Int32)) &&& (1 : Int32)) &&& (1 : Int32))]) (c_step _ Z a0 hw a4 (ush op (8 : Int32)) a28 c124 r124 m124 n124 d124 ((((1 + 1) + 1) + 1) + 1) h120 n0 Z123 E122 F116 F117 g10 A118 g40 I115 (by omega)) (ps := [(.object "com/example/exclude/exclude/lock/Hold"), .int, (.array .int)]) (by decide +kernel) (by rfl) (by rfl) (by rfl) (by decide +kernel) (by decide) (Nat.le_of_ble_eq_true rfl) (by decide) (by decide) ?_
      intro r129 h130 q131
      obtain ⟨rfl, K124, m139, n139, d139, c139, r139, I125, F126, F127, A128⟩ := q131
      have E132 := E122.keep K124
      have Z133 : n0 ≤ h130.size := Nat.le_trans Z123 K124.1
      show WP X n0 QL h130 2 8 142 #[.val (.int fi), .val (.int op), .val (.int s11_0), .val ((.ref a4)), .val ((.ref a28)), .val (.int (((((1 : Int32) &&& (1 : Int32)) &&& (1 : Int32)) &&& (1 : Int32)) &&& (1 : Int32)))] [.int (1 : Int32), .int (((((1 : Int32) &&& (1 : Int32)) &&& (1 : Int32)) &&& (1 : Int32)) &&& (1 : Int32))]
      refine wp_run ok hK (B := [(142, .iand, false), (143, .istore 5, false), (145, .iload 5, false), (147, .aload_n 3, false), (148, .iload_n 1, false), (149, .bipush 10, false), (151, .iushr, false), (152, .aload 4, false)]) (by decide +kernel) (pc' := 154) (L' := #[.val (.int fi), .val (.int op), .val (.int s11_0), .val ((.ref a4)), .val ((.ref a28)), .val (.int ((((((1 : Int32) &&& (1 : Int32)) &&& (1 : Int32)) &&& (1 : Int32)) &&& (1 : Int32)) &&& (1 : Int32)))]) (S' := [(.ref a28), .int (ush op (10 : Int32)), (.ref a4), .int ((((((1 : Int32) &&& (1 : Int32)) &&& (1 : Int32)) &&& (1 : Int32)) &&& (1 : Int32)) &&& (1 : Int32))]) rfl trivial ?_
      refine wp_static ok (wd hw 30 rfl) (wd hw 31 rfl) (wd hw 32 rfl) (wd hw 33 rfl) (by decide) (argsL := [(.ref a4), .int (ush op (10 : Int32)), (.ref a28)]) (rest := [.int ((((((1 : Int32) &&& (1 : Int32)) &&& (1 : Int32)) &&& (1 : Int32)) &&& (1 : Int32)) &&& (1 : Int32))]) (c_step _ Z a0 hw a4 (ush op (10 : Int32)) a28 c139 r139 m139 n139 d139 (((((1 + 1) + 1) + 1) + 1) + 1) h130 n0 Z133 E132 F126 F127 g10 A128 g40 I125 (by omega)) (ps := [(.object "com/example/exclude/exclude/lock/Hold"), .int, (.array .int)]) (by decide +kernel) (by rfl) (by rfl) (by rfl) (by decide +kernel) (by decide) (Nat.le_of_ble_eq_true rfl) (by decide) (by decide) ?_
      intro r139 h140 q141
      obtain ⟨rfl, K134, m154, n154, d154, c154, r154, I135, F136, F137, A138⟩ := q141
      have E142 := E132.keep K134
      have Z143 : n0 ≤ h140.size := Nat.le_trans Z133 K134.1
      show WP X n0 QL h140 2 8 157 #[.val (.int fi), .val (.int op), .val (.int s11_0), .val ((.ref a4)), .val ((.ref a28)), .val (.int ((((((1 : Int32) &&& (1 : Int32)) &&& (1 : Int32)) &&& (1 : Int32)) &&& (1 : Int32)) &&& (1 : Int32)))] [.int (1 : Int32), .int ((((((1 : Int32) &&& (1 : Int32)) &&& (1 : Int32)) &&& (1 : Int32)) &&& (1 : Int32)) &&& (1 : Int32))]
      refine wp_run ok hK (B := [(157, .iand, false), (158, .istore 5, false), (160, .iload 5, false)]) (by decide +kernel) (pc' := 162) (L' := #[.val (.int fi), .val (.int op), .val (.int s11_0), .val ((.ref a4)), .val ((.ref a28)), .val (.int (((((((1 : Int32) &&& (1 : Int32)) &&& (1 : Int32)) &&& (1 : Int32)) &&& (1 : Int32)) &&& (1 : Int32)) &&& (1 : Int32)))]) (S' := [.int (((((((1 : Int32) &&& (1 : Int32)) &&& (1 : Int32)) &&& (1 : Int32)) &&& (1 : Int32)) &&& (1 : Int32)) &&& (1 : Int32))]) rfl trivial ?_
      refine wp_retZ ok (t := .boolean) (by simp) (by decide +kernel) (by decide) (by decide) ?_
      exact congrArg (fun z => some (Value.int z)) (own_law_3 fi op s11_0 h_s11_0 renewedFrom20 h_renewedFrom20 s41_0 h_s41_0 z61 h_z61 m81 n81 d81 c81 r81 I85 m95 n95 d95 c95 r95 I95 m109 n109 d109 c109 r109 I105 m124 n124 d124 c124 r124 I115 m139 n139 d139 c139 r139 I125 m154 n154 d154 c154 r154 I135)
    by_cases c41 : s11_0 = (0 : Int32)
    · refine wp_run ok hK (B := [(33, .ifCond .eq 7, true), (40, .iconst 0, false)]) (by decide +kernel) (pc' := 41) (L' := #[.val (.int fi), .val (.int op), .val (.int s11_0), .val ((.ref a4)), .val ((.ref a28)), .unset]) (S' := [.int (0 : Int32), .int (0 : Int32), (.ref a28)]) rfl ⟨(XT.i0_eq_t c41), trivial⟩ ?_
      exact J41_42 _ (by rw [if_pos c41])
    · refine wp_run ok hK (B := [(33, .ifCond .eq 7, false), (36, .iconst 1, false), (37, .goto 4, false)]) (by decide +kernel) (pc' := 41) (L' := #[.val (.int fi), .val (.int op), .val (.int s11_0), .val ((.ref a4)), .val ((.ref a28)), .unset]) (S' := [.int (1 : Int32), .int (0 : Int32), (.ref a28)]) rfl ⟨(XT.i0_eq_f c41), trivial⟩ ?_
      exact J41_42 _ (by rw [if_neg c41])
  by_cases c1 : (fi &&& (1 : Int32)) = (0 : Int32)
  · refine wp_run ok hK (B := [(3, .ifCond .eq 7, true), (10, .iconst 0, false)]) (by decide +kernel) (pc' := 11) (L' := #[.val (.int fi), .val (.int op), .unset, .unset, .unset, .unset]) (S' := [.int (0 : Int32)]) rfl ⟨(XT.i0_eq_t c1), trivial⟩ ?_
    exact J11_2 _ (by rw [if_pos c1])
  · refine wp_run ok hK (B := [(3, .ifCond .eq 7, false), (6, .iconst 1, false), (7, .goto 4, false)]) (by decide +kernel) (pc' := 11) (L' := #[.val (.int fi), .val (.int op), .unset, .unset, .unset, .unset]) (S' := [.int (1 : Int32)]) rfl ⟨(XT.i0_eq_f c1), trivial⟩ ?_
    exact J11_2 _ (by rw [if_neg c1])
set_option maxRecDepth 65536 in
set_option maxHeartbeats 40000000 in
theorem comes_1 {Post : Tables → Env → Array Value → State → Outcome → State → Prop} (hpost : ∀ tb e args s v u, (limb_1_1.after args s (.returned v) u = true ∧ limb_1_2.after args s (.returned v) u = true ∧ True) → FrameEnd s (.returned v) u (Jvm.fieldLocs frame_1_writes args s ++ Jvm.arrayLocs frame_1_arrays args s ++ Jvm.staticLocs frame_1_statics s) 16 128 → Post tb e args s (.returned v) u) :
    ArmFor flags0 classFile x code maxLocals ret World_1 tables_1 room_1 Calls_1 rest_1 Pre_1 Post := by
  intro l hfl _ _ p e ha hc hk s m args below hf hA hF happ hP
  obtain ⟨hcalls, hrest, hpre⟩ := hP
  obtain ⟨-, -, -, hnamed, -, -, -, hat⟩ := (Spec.applies_iff hf).mp happ
  obtain ⟨hg, hn⟩ := and_e (Cond.before_iff.mp (show (Jvm.Cond.and given_1 narrow_1).before args s = true from hpre))
  obtain ⟨h1, g0⟩ := and_e hg
  obtain ⟨f0, g1⟩ := and_e g0
  obtain ⟨w0, w1, rfl⟩ : ∃ w0 w1 : Value, args = #[w0, w1] := by
    have hs : args.size = 2 := by simpa [Cond.value, given_1] using h1
    obtain ⟨L⟩ := args
    match L, hs with
    | [w0, w1], _ => exact ⟨w0, w1, rfl⟩
  have hw := fun d (hd : d ∈ tables_1) => atoms_spec (ws := Jvm.Cond.code x code maxLocals ret :: tables_1) hat d (List.mem_cons_of_mem _ hd)
  obtain ⟨i0, e0⟩ := is_v f0
  obtain rfl : w0 = (.int i0) := Option.some.inj e0
  obtain ⟨i1, e1⟩ := is_v g1
  obtain rfl : w1 = (.int i1) := Option.some.inj e1
  obtain ⟨n, o, h1, h2, h3, _, L, rfl, ⟨rfl, N⟩, hq⟩ := c_law l s _ hw i0 i1 s.heap s.heap.size (Nat.le_refl _) p e ha hc hk s m _ below hf ((Spec.applies_iff_loose hf).mp happ).1 ⟨rfl, State.Warmed39.refl s, rfl⟩ trivial
  refine ⟨n, _, h1, h2, h3, hpost _ _ _ _ _ _ ⟨Cond.after_iff.mpr rfl, Cond.after_iff.mpr (eq_i res_at (Term.int_eval (1)) rfl), trivial⟩ ⟨hq.1, hq.2.1, (hq.2.2.sift fun y hy => Or.inr (N y hy)).mono (by decide) (by decide)⟩⟩
theorem main_1_1 : Claimed_1_1 := comes_1 fun _ _ _ _ _ _ h hF => ⟨h.1, hF⟩
theorem main_1_2 : Claimed_1_2 := comes_1 fun _ _ _ _ _ _ h hF => ⟨h.2.1, hF⟩
end Jvm.Pilot.@@N@@
namespace Jvm.Pilot.@@N@@
open Jvm Jvm.ClassFile Sem Op Lib Jvm.Free Jvm.Stand Jvm.Pilot.@@N@@.Jvm.D
/-! MADE BY PROGRAM (witnessworld.py) out of the Statement's table words and the real class files: 9 classes; the members and pool entries that the words name. The judged class is class 1, her method 1. -/
namespace start1
open Jvm.ClassFile
def u (s : String) : CpInfo := .utf8 (stringToUtf16 s)
/-- a pool by its gaps: so many unusable entries, then the entry; so many at the end -/
def gap : Nat → List CpInfo → List CpInfo
  | 0, r => r
  | n + 1, r => .unusable :: gap n r
def poolList (es : List (Nat × CpInfo)) (last : Nat) : List CpInfo := es.foldr (fun e r => gap e.1 (e.2 :: r)) (gap last [])
def pool (es : List (Nat × CpInfo)) (last : Nat) : Array CpInfo := ⟨poolList es last⟩
def fileOf (pool : Array CpInfo) (this : Nat) (attrs : Array Attribute := #[]) (ms : Array MethodInfo := #[]) (fl : Nat := 33) (sup : Nat := 0) (ifs : Array Nat := #[]) (fds : Array FieldInfo := #[]) : ClassFile where
  minorVersion := 0
  majorVersion := 65
  constantPool := pool
  accessFlags := fl
  thisClass := this
  superClass := sup
  interfaces := ifs
  fields := fds
  methods := ms
  attributes := attrs
def plain (name : String) (sup : Option ClassId) : Class where
  name := name
  kind := .ordinary
  loader := none
  accessFlags := 33
  super := sup
  interfaces := #[]
  cf := none
  fields := #[]
  methods := #[]
  instanceTypes := #[]
  staticTypes := #[]
  resolved := #[]
  callSites := []
  init := .initialized
  statics := none
  mirror := none

def pool0 : Array CpInfo := pool [(5, u "<init>"), (0, u "()V"), (1, .class_ 10), (1, u "java/lang/Object")] 113

def k0c0 : Code := { maxStack := 0, maxLocals := 1, code := object_method_1_code, exceptionTable := #[], attributes := #[] }
def k0m0 : Method := { name := "<init>", desc := "()V", sig := { parameters := [], returnType := none }, accessFlags := 1, code := some k0c0 }
/-- java/lang/Object -/
def k0 : Class := { plain "java/lang/Object" none with
  accessFlags := 33
  interfaces := #[]
  cf := some (fileOf pool0 8 #[] #[{ accessFlags := 1, nameIndex := 5, descriptorIndex := 6, attributes := #[] }] 33 0 #[] #[])
  fields := #[]
  methods := #[k0m0]
  instanceTypes := #[]
  staticTypes := #[]
  resolved := Array.replicate 124 none
  statics := none }

def pool1 : Array CpInfo := pool [(2, .class_ 4), (1, u "java/lang/Object"), (0, u "<init>"), (0, u "()V"), (0, .class_ 8), (0, u "com/example/exclude/exclude/lock/Hold"), (0, .methodref 7 10), (0, .nameAndType 5 11), (0, u "(JLcom/example/exclude/exclude/lease/Lease;JZ)V"), (0, .methodref 7 13), (0, .nameAndType 14 15), (0, u "count"), (0, u "()I"), (0, .methodref 7 17), (0, .nameAndType 18 19), (0, u "isRenewed"), (0, u "()Z"), (0, .methodref 21 22), (0, .class_ 23), (0, .nameAndType 24 25), (0, u "com/example/exclude/exclude/lock/HoldExitPinLaw"), (0, u "step"), (0, u "(Lcom/example/exclude/exclude/lock/Hold;I[I)Z"), (0, .methodref 7 27), (0, .nameAndType 28 29), (0, u "enterAgain"), (0, u "(Z)V"), (0, .methodref 7 31), (0, .nameAndType 32 19), (0, u "exit"), (2, u "law"), (0, u "(II)Z")] 5

def k1m0 : Method := { name := "<init>", desc := "()V", sig := { parameters := [], returnType := none }, accessFlags := 1, code := none }
def k1c1 : Code := { maxStack := 8, maxLocals := 6, code := code, exceptionTable := #[], attributes := #[] }
def k1m1 : Method := { name := "law", desc := "(II)Z", sig := { parameters := [.int, .int], returnType := some .boolean }, accessFlags := 9, code := some k1c1 }
def k1c2 : Code := { maxStack := 6, maxLocals := 5, code := method_3_code, exceptionTable := #[], attributes := #[] }
def k1m2 : Method := { name := "step", desc := "(Lcom/example/exclude/exclude/lock/Hold;I[I)Z", sig := { parameters := [(.object "com/example/exclude/exclude/lock/Hold"), .int, (.array .int)], returnType := some .boolean }, accessFlags := 10, code := some k1c2 }
/-- com/example/exclude/exclude/lock/HoldExitPinLaw -/
def k1 : Class := { plain "com/example/exclude/exclude/lock/HoldExitPinLaw" (some 0) with
  accessFlags := 49
  interfaces := #[]
  cf := some (fileOf pool1 21 #[] #[{ accessFlags := 1, nameIndex := 5, descriptorIndex := 6, attributes := #[] }, { accessFlags := 9, nameIndex := 35, descriptorIndex := 36, attributes := #[] }, { accessFlags := 10, nameIndex := 24, descriptorIndex := 25, attributes := #[] }] 49 2 #[] #[])
  fields := #[]
  methods := #[k1m0, k1m1, k1m2]
  instanceTypes := #[]
  staticTypes := #[]
  resolved := Array.replicate 42 none
  statics := none }

def pool2 : Array CpInfo := pool [(1, .methodref 2 3), (0, .class_ 4), (0, .nameAndType 5 6), (0, u "java/lang/Object"), (0, u "<init>"), (0, u "()V"), (0, .fieldref 8 9), (0, .class_ 10), (0, .nameAndType 11 12), (0, u "com/example/exclude/exclude/lock/Hold"), (0, u "threadId"), (0, u "J"), (0, .fieldref 8 14), (0, .nameAndType 15 16), (0, u "lease"), (0, u "Lcom/example/exclude/exclude/lease/Lease;"), (0, .fieldref 8 18), (0, .nameAndType 19 12), (0, u "fencingToken"), (0, .fieldref 8 21), (0, .nameAndType 22 23), (0, u "count"), (0, u "I"), (0, .fieldref 8 25), (0, .nameAndType 26 23), (0, u "renewedFrom"), (6, u "(JLcom/example/exclude/exclude/lease/Lease;JZ)V"), (6, u "isRenewed"), (0, u "()Z"), (0, u "()I"), (0, u "enterAgain"), (0, u "(Z)V"), (0, u "exit")] 2

def k2c0 : Code := { maxStack := 3, maxLocals := 7, code := prog_3_method_1_code, exceptionTable := #[], attributes := #[] }
def k2m0 : Method := { name := "<init>", desc := "(JLcom/example/exclude/exclude/lease/Lease;JZ)V", sig := { parameters := [.long, (.object "com/example/exclude/exclude/lease/Lease"), .long, .boolean], returnType := none }, accessFlags := 0, code := some k2c0 }
def k2c1 : Code := { maxStack := 1, maxLocals := 1, code := prog_3_method_6_code, exceptionTable := #[], attributes := #[] }
def k2m1 : Method := { name := "isRenewed", desc := "()Z", sig := { parameters := [], returnType := some .boolean }, accessFlags := 0, code := some k2c1 }
def k2c2 : Code := { maxStack := 1, maxLocals := 1, code := prog_3_method_7_code, exceptionTable := #[], attributes := #[] }
def k2m2 : Method := { name := "count", desc := "()I", sig := { parameters := [], returnType := some .int }, accessFlags := 0, code := some k2c2 }
def k2c3 : Code := { maxStack := 3, maxLocals := 2, code := prog_3_method_8_code, exceptionTable := #[], attributes := #[] }
def k2m3 : Method := { name := "enterAgain", desc := "(Z)V", sig := { parameters := [.boolean], returnType := none }, accessFlags := 0, code := some k2c3 }
def k2c4 : Code := { maxStack := 3, maxLocals := 1, code := prog_3_method_9_code, exceptionTable := #[], attributes := #[] }
def k2m4 : Method := { name := "exit", desc := "()Z", sig := { parameters := [], returnType := some .boolean }, accessFlags := 0, code := some k2c4 }
/-- com/example/exclude/exclude/lock/Hold -/
def k2 : Class := { plain "com/example/exclude/exclude/lock/Hold" (some 0) with
  accessFlags := 32
  interfaces := #[]
  cf := some (fileOf pool2 8 #[] #[{ accessFlags := 0, nameIndex := 5, descriptorIndex := 33, attributes := #[] }, { accessFlags := 0, nameIndex := 40, descriptorIndex := 41, attributes := #[] }, { accessFlags := 0, nameIndex := 22, descriptorIndex := 42, attributes := #[] }, { accessFlags := 0, nameIndex := 43, descriptorIndex := 44, attributes := #[] }, { accessFlags := 0, nameIndex := 45, descriptorIndex := 41, attributes := #[] }] 32 2 #[] #[{ accessFlags := 18, nameIndex := 11, descriptorIndex := 12, attributes := #[] }, { accessFlags := 18, nameIndex := 15, descriptorIndex := 16, attributes := #[] }, { accessFlags := 18, nameIndex := 19, descriptorIndex := 12, attributes := #[] }, { accessFlags := 2, nameIndex := 22, descriptorIndex := 23, attributes := #[] }, { accessFlags := 66, nameIndex := 26, descriptorIndex := 23, attributes := #[] }])
  fields := #[{ name := "threadId", type := .long, accessFlags := 18, slot := 0, constantValue := 0 }, { name := "lease", type := (.object "com/example/exclude/exclude/lease/Lease"), accessFlags := 18, slot := 1, constantValue := 0 }, { name := "fencingToken", type := .long, accessFlags := 18, slot := 2, constantValue := 0 }, { name := "count", type := .int, accessFlags := 2, slot := 3, constantValue := 0 }, { name := "renewedFrom", type := .int, accessFlags := 66, slot := 4, constantValue := 0 }]
  methods := #[k2m0, k2m1, k2m2, k2m3, k2m4]
  instanceTypes := #[.long, (.object "com/example/exclude/exclude/lease/Lease"), .long, .int, .int]
  staticTypes := #[]
  resolved := Array.replicate 48 none
  statics := none }

def pool3 : Array CpInfo := pool [(1, u "java/lang/Cloneable"), (0, .class_ 1), (0, u "java/lang/Object"), (0, .class_ 3)] 3

/-- java/lang/Cloneable -/
def k3 : Class := { plain "java/lang/Cloneable" (some 0) with
  accessFlags := 1537
  interfaces := #[]
  cf := some (fileOf pool3 2 #[] #[] 1537 4 #[] #[])
  fields := #[]
  methods := #[]
  instanceTypes := #[]
  staticTypes := #[]
  resolved := Array.replicate 8 none
  statics := none }

def pool4 : Array CpInfo := pool [(1, u "java/io/Serializable"), (0, .class_ 1), (0, u "java/lang/Object"), (0, .class_ 3)] 3

/-- java/io/Serializable -/
def k4 : Class := { plain "java/io/Serializable" (some 0) with
  accessFlags := 1537
  interfaces := #[]
  cf := some (fileOf pool4 2 #[] #[] 1537 4 #[] #[])
  fields := #[]
  methods := #[]
  instanceTypes := #[]
  staticTypes := #[]
  resolved := Array.replicate 8 none
  statics := none }

/-- the primitive byte -/
def k5 : Class := { plain "byte" none with kind := .primitive 'B', accessFlags := 0x411 }
/-- [B -/
def k6 : Class := { plain "[B" (some 0) with kind := .array 5 .byte, interfaces := #[3, 4], accessFlags := 1041 }

/-- the primitive int -/
def k7 : Class := { plain "int" none with kind := .primitive 'I', accessFlags := 0x411 }
/-- [I -/
def k8 : Class := { plain "[I" (some 0) with kind := .array 7 .int, interfaces := #[3, 4], accessFlags := 1041 }

def heap : Heap := #[]
def classes : Array Class := #[k0, k1, k2, k3, k4, k5, k6, k7, k8]
def interned : List (Array UInt16 × Addr) := []
def slotsUsed : Nat := 0
def theMethod : MethodId := ⟨1, 1⟩
def args0 : Array Value := #[.int 5, .int 3]
def aboutOver (below : List Frame) : State where
  vm := { classes := classes, interned := interned.toArray }
  heap := heap
  slotsUsed := slotsUsed
  threads := #[{ frames := .invoking theMethod args0 :: below }]
def below0 : List Frame := [.native { method := ⟨0, 0⟩, args := #[] }]
def about1 : State := aboutOver below0
def p0 : Program := .bare "" "" ""
def e0 : Env := launch0.env 0 0 0
theorem w_frames : about1.frames = Frame.invoking theMethod args0 :: below0 := rfl
set_option maxRecDepth 65536 in
theorem w_args : argsFit about1.vm theMethod args0 = true := by decide +kernel
set_option maxRecDepth 65536 in
theorem w_heap : heapFits about1 = true := by decide +kernel
set_option maxRecDepth 65536 in
theorem w_runnable : about1.curStatus? = some .runnable := by decide +kernel
set_option maxRecDepth 65536 in
theorem w_alone : about1.alone = true := by decide +kernel
set_option maxRecDepth 65536 in
theorem w_named : about1.methodNamed? x = some theMethod := by decide +kernel
set_option maxRecDepth 65536 in
theorem w_hears : about1.hears theMethod below0 = true := by decide +kernel
set_option maxRecDepth 65536 in
theorem w_ripe : about1.ripe theMethod args0 below0 = true := by decide +kernel
theorem w_running : about1.status = .running := rfl
set_option maxRecDepth 65536 in
theorem w_room : about1.hasRoom e0.platform room_1 = true :=
  launch0.hasRoom_least _ room_1 (by decide +kernel) (by decide +kernel) (by decide +kernel) (by decide +kernel) (by decide +kernel) (by decide +kernel)
theorem allAtoms_all (ts : List Jvm.Cond) (a : Array Jvm.Value) (st : Jvm.State) : (allAtoms ts).before a st = ts.all (fun c => c.before a st) := by
  induction ts with
  | nil => rfl
  | cons c t ih =>
    show (Jvm.Cond.and c (allAtoms t)).before a st = _
    rw [Jvm.Cond.before_and, ih, List.all_cons]
def words1 : List Jvm.Cond := Jvm.Cond.code x code maxLocals ret :: tables_1
/-- a 'code' word, met by the world's own term for the bytes: nothing is compared byte by byte -/
theorem code_word {y : MethodName} {bytes : ByteArray} {mx : Nat} {rt : Option FieldType} {a : Array Value} {s : State} {m : MethodId} {meth : Method} {c : Code} (h1 : s.methodNamed? y = some m) (h2 : s.vm.method? m = some meth) (h3 : meth.code = some c) (h4 : c.code = bytes)
    (h5 : (c.maxLocals == mx && c.exceptionTable.isEmpty && decide (c.maxStack ≤ mostOperands) && decide (meth.sig.returnType = rt) && !meth.locks && decide (parseMethodDescriptor y.desc = some meth.sig)) = true) : (Jvm.Cond.code y bytes mx rt).before a s = true := by
  simp only [Bool.and_eq_true, beq_iff_eq, Bool.not_eq_true', decide_eq_true_eq] at h5
  obtain ⟨⟨⟨⟨⟨g1, g2⟩, g3⟩, g4⟩, g5⟩, g6⟩ := h5
  simp [Cond.before, Cond.holds, Cond.value, h1, h2, h3, h4, g1, g2, g3, g4, g5, g6]
def isCode : Jvm.Cond → Bool
  | .code _ _ _ _ => true
  | _ => false
theorem all_split {L : List Jvm.Cond} {P : Jvm.Cond → Bool} (h1 : L.all (fun c => isCode c || P c) = true) (h2 : ∀ c ∈ L.filter isCode, P c = true) : L.all P = true := by
  refine List.all_eq_true.mpr fun c hc => ?_
  have h := List.all_eq_true.mp h1 c hc
  rcases Bool.eq_false_or_eq_true (isCode c) with hi | hi
  · exact h2 c (List.mem_filter.mpr ⟨hc, hi⟩)
  · simpa [hi] using h
set_option maxRecDepth 65536 in
theorem w_c0 : (Jvm.Cond.code x code maxLocals ret).before args0 about1 = true := code_word (m := ⟨1, 1⟩) (meth := k1m1) (c := k1c1) (by decide +kernel) rfl rfl rfl (by decide +kernel)
set_option maxRecDepth 65536 in
theorem w_c1 : (Jvm.Cond.code ({ cls := "com/example/exclude/exclude/lock/Hold", name := "<init>", desc := "(JLcom/example/exclude/exclude/lease/Lease;JZ)V" } : Jvm.MethodName) prog_3_method_1_code (7 : Nat) (Option.none : Option Jvm.ClassFile.FieldType)).before args0 about1 = true := code_word (m := ⟨2, 0⟩) (meth := k2m0) (c := k2c0) (by decide +kernel) rfl rfl rfl (by decide +kernel)
set_option maxRecDepth 65536 in
theorem w_c2 : (Jvm.Cond.code ({ cls := "java/lang/Object", name := "<init>", desc := "()V" } : Jvm.MethodName) object_method_1_code (1 : Nat) (Option.none : Option Jvm.ClassFile.FieldType)).before args0 about1 = true := code_word (m := ⟨0, 0⟩) (meth := k0m0) (c := k0c0) (by decide +kernel) rfl rfl rfl (by decide +kernel)
set_option maxRecDepth 65536 in
theorem w_c3 : (Jvm.Cond.code ({ cls := "com/example/exclude/exclude/lock/Hold", name := "count", desc := "()I" } : Jvm.MethodName) prog_3_method_7_code (1 : Nat) (Option.some Jvm.ClassFile.FieldType.int)).before args0 about1 = true := code_word (m := ⟨2, 2⟩) (meth := k2m2) (c := k2c2) (by decide +kernel) rfl rfl rfl (by decide +kernel)
set_option maxRecDepth 65536 in
theorem w_c4 : (Jvm.Cond.code ({ cls := "com/example/exclude/exclude/lock/Hold", name := "isRenewed", desc := "()Z" } : Jvm.MethodName) prog_3_method_6_code (1 : Nat) (Option.some Jvm.ClassFile.FieldType.boolean)).before args0 about1 = true := code_word (m := ⟨2, 1⟩) (meth := k2m1) (c := k2c1) (by decide +kernel) rfl rfl rfl (by decide +kernel)
set_option maxRecDepth 65536 in
theorem w_c5 : (Jvm.Cond.code ({ cls := "com/example/exclude/exclude/lock/HoldExitPinLaw", name := "step", desc := "(Lcom/example/exclude/exclude/lock/Hold;I[I)Z" } : Jvm.MethodName) method_3_code (5 : Nat) (Option.some Jvm.ClassFile.FieldType.boolean)).before args0 about1 = true := code_word (m := ⟨1, 2⟩) (meth := k1m2) (c := k1c2) (by decide +kernel) rfl rfl rfl (by decide +kernel)
set_option maxRecDepth 65536 in
theorem w_c6 : (Jvm.Cond.code ({ cls := "com/example/exclude/exclude/lock/Hold", name := "exit", desc := "()Z" } : Jvm.MethodName) prog_3_method_9_code (1 : Nat) (Option.some Jvm.ClassFile.FieldType.boolean)).before args0 about1 = true := code_word (m := ⟨2, 4⟩) (meth := k2m4) (c := k2c4) (by decide +kernel) rfl rfl rfl (by decide +kernel)
set_option maxRecDepth 65536 in
theorem w_c7 : (Jvm.Cond.code ({ cls := "com/example/exclude/exclude/lock/Hold", name := "enterAgain", desc := "(Z)V" } : Jvm.MethodName) prog_3_method_8_code (2 : Nat) (Option.none : Option Jvm.ClassFile.FieldType)).before args0 about1 = true := code_word (m := ⟨2, 3⟩) (meth := k2m3) (c := k2c3) (by decide +kernel) rfl rfl rfl (by decide +kernel)
def codes1 : List Jvm.Cond := [Jvm.Cond.code x code maxLocals ret, Jvm.Cond.code ({ cls := "com/example/exclude/exclude/lock/Hold", name := "<init>", desc := "(JLcom/example/exclude/exclude/lease/Lease;JZ)V" } : Jvm.MethodName) prog_3_method_1_code (7 : Nat) (Option.none : Option Jvm.ClassFile.FieldType), Jvm.Cond.code ({ cls := "java/lang/Object", name := "<init>", desc := "()V" } : Jvm.MethodName) object_method_1_code (1 : Nat) (Option.none : Option Jvm.ClassFile.FieldType), Jvm.Cond.code ({ cls := "com/example/exclude/exclude/lock/Hold", name := "count", desc := "()I" } : Jvm.MethodName) prog_3_method_7_code (1 : Nat) (Option.some Jvm.ClassFile.FieldType.int), Jvm.Cond.code ({ cls := "com/example/exclude/exclude/lock/Hold", name := "isRenewed", desc := "()Z" } : Jvm.MethodName) prog_3_method_6_code (1 : Nat) (Option.some Jvm.ClassFile.FieldType.boolean), Jvm.Cond.code ({ cls := "com/example/exclude/exclude/lock/HoldExitPinLaw", name := "step", desc := "(Lcom/example/exclude/exclude/lock/Hold;I[I)Z" } : Jvm.MethodName) method_3_code (5 : Nat) (Option.some Jvm.ClassFile.FieldType.boolean), Jvm.Cond.code ({ cls := "com/example/exclude/exclude/lock/Hold", name := "exit", desc := "()Z" } : Jvm.MethodName) prog_3_method_9_code (1 : Nat) (Option.some Jvm.ClassFile.FieldType.boolean), Jvm.Cond.code ({ cls := "com/example/exclude/exclude/lock/Hold", name := "enterAgain", desc := "(Z)V" } : Jvm.MethodName) prog_3_method_8_code (2 : Nat) (Option.none : Option Jvm.ClassFile.FieldType)]
set_option maxRecDepth 65536 in
theorem codes_eq : words1.filter isCode = codes1 := rfl
theorem w_codes : ∀ c ∈ words1.filter isCode, c.before args0 about1 = true := by
  rw [codes_eq]
  intro c hc
  simp only [codes1, List.mem_cons, List.not_mem_nil, or_false] at hc
  rcases hc with rfl | rfl | rfl | rfl | rfl | rfl | rfl | rfl
  · exact w_c0
  · exact w_c1
  · exact w_c2
  · exact w_c3
  · exact w_c4
  · exact w_c5
  · exact w_c6
  · exact w_c7
set_option maxRecDepth 65536 in
theorem w_t1 : (words1.take 24).all (fun c => isCode c || c.before args0 about1) = true := by decide +kernel
set_option maxRecDepth 65536 in
theorem w_t2 : (words1.drop 24).all (fun c => isCode c || c.before args0 about1) = true := by decide +kernel
theorem w_tables : (allAtoms (Jvm.Cond.code x code maxLocals ret :: tables_1)).before args0 about1 = true := by
  rw [allAtoms_all]
  show words1.all (fun c => c.before args0 about1) = true
  refine all_split ?_ w_codes
  rw [← List.take_append_drop 24 words1, List.all_append, w_t1, w_t2]
  rfl
set_option maxRecDepth 65536 in
theorem w_case : (Jvm.Cond.and given_1 narrow_1).before args0 about1 = true := by decide +kernel
theorem w_applies : (headSpec (Jvm.Cond.code x code maxLocals ret :: tables_1) room_1).applies x e0.platform about1 = true :=
  (Spec.applies_iff w_frames).mpr ⟨w_running, w_runnable, w_alone, w_named, w_hears, w_ripe, w_room, w_tables⟩
theorem atStart : AtStart classFile x code maxLocals ret World_1 tables_1 room_1 Calls_1 rest_1 Pre_1 launch0 p0 e0 about1 theMethod args0 below0 :=
  ⟨lists_1, trivial, launch0.admits_env _ _ _, launch0.least_env, fairChoices_fair.cas, fairChoices_fair.clock, w_frames, w_args, w_heap, w_applies, trivial, trivial, w_case⟩
end start1
theorem witness_1 : WitnessClaimed_1 := ⟨start1.p0, start1.e0, start1.about1, start1.theMethod, start1.args0, start1.below0, start1.atStart⟩
end Jvm.Pilot.@@N@@
