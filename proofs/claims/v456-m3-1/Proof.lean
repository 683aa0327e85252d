import JvmDerived
import JvmDerived.Pilot.@@N@@Statement
import JvmDerived.Pilot.@@N@@Code
set_option linter.unusedVariables false
set_option linter.unusedSimpArgs false
namespace Jvm.OwnW
open Sem ClassFile Op Lib Jvm.Free Jvm.Stand Jvm.LawKit Jvm.RoadKit Jvm.Free.XT
/-! ## a walk's fixed data, and what is asked of the rest of it -/
abbrev Cx : Type := Program × Launch × Env × Room × State × MethodId × Array Value × List Frame × Method × Code
abbrev Cx.p (x : Cx) : Program := x.1
abbrev Cx.l (x : Cx) : Launch := x.2.1
abbrev Cx.e (x : Cx) : Env := x.2.2.1
abbrev Cx.R (x : Cx) : Room := x.2.2.2.1
abbrev Cx.s (x : Cx) : State := x.2.2.2.2.1
abbrev Cx.m (x : Cx) : MethodId := x.2.2.2.2.2.1
abbrev Cx.args (x : Cx) : Array Value := x.2.2.2.2.2.2.1
abbrev Cx.below (x : Cx) : List Frame := x.2.2.2.2.2.2.2.1
abbrev Cx.meth (x : Cx) : Method := x.2.2.2.2.2.2.2.2.1
abbrev Cx.c (x : Cx) : Code := x.2.2.2.2.2.2.2.2.2
abbrev Sd (x : Cx) (T : State) (locs : List Loc) (k n : Nat) : Prop := Stand x.p x.l x.e x.R x.s x.m x.args x.below x.meth x.c T locs k n
/-- what is known of a walk of the method nm (of the class own) over the tables of Z -/
def Ok (x : Cx) (Z : State) (own nm : String) (bytes : ByteArray) (ml : Nat) (rt : Option FieldType) (R : Room) : Prop :=
  x.p.tables.exec = Jvm.exec ∧ x.c.code = bytes ∧ x.c.maxLocals = ml ∧ x.s.vm.findClass own = some x.m.cls ∧ x.meth.name = nm ∧ Z.Warmed39 x.s.vm ∧ x.meth.sig.returnType = rt ∧ x.meth.locks = false ∧ x.R = R
abbrev Post : Type := Option Value → Heap → Prop
def Done (x : Cx) (n0 : Nat) (Q : Post) (U : State) : Prop :=
  ∃ s₂ o, Steps x.p.tables x.e x.below U s₂ ∧ s₂.status = .running ∧ Ended s₂ x.below o ∧ ∃ v L, o = .returned v ∧ (Q v s₂.heap ∧ Fr n0 L) ∧ FrameEnd x.s o s₂ L x.R.cells x.R.slots
/-- from here (heap h; k cells and n slots made so far; the frame) the walk comes to its end, and Q holds of it -/
def WP (x : Cx) (n0 : Nat) (Q : Post) (h : Heap) (k n : Nat) (pc : Nat) (L : Array Slot) (S : List Value) : Prop :=
  ∀ T locs, Sd x T locs k n → T.heap = h → Fr n0 locs → Done x n0 Q (T.setTop (mkF x.m pc L S))
/-- a method's contract at one heap and one list of arguments -/
def Con (l : Launch) (Z : State) (y : MethodName) (bytes : ByteArray) (maxL : Nat) (ret : Option FieldType) (rm : Room) (as : Array Value) (h : Heap) (n0 : Nat) (Q : Post) (ws : List Jvm.Cond) : Prop :=
  MetFree l y (head1 (Jvm.Cond.code y bytes maxL ret :: ws) rm) (fun a U => a = as ∧ Z.Warmed39 U.vm ∧ U.heap = h) (fun _ _ _ _ _ => True) (fun _ U o U' => ∃ v L, o = .returned v ∧ (Q v U'.heap ∧ Fr n0 L) ∧ FrameEnd U o U' L rm.cells rm.slots)
theorem wd {ts : List Jvm.Cond} {a0 : Array Value} {Z : State} (hw : ∀ d ∈ ts, d.before a0 Z = true) (k : Nat) {d : Jvm.Cond} (h : ts[k]? = some d) : d.before a0 Z = true := hw d (List.mem_of_getElem? h)
theorem ne_new {h : Heap} {a b : Addr} (hb : b < h.size) (e : a = h.size) : b ≠ a := by rw [e]; exact Nat.ne_of_lt hb
theorem Fld_c {Z : State} {h : Heap} {a : Addr} {O n d : String} {v w : Value} (F : Fld Z h a O n d v) (e : v = w) : Fld Z h a O n d w := e ▸ F
section Rules
variable {x : Cx} {Z : State} {own nm : String} {bytes : ByteArray} {ml : Nat} {rt : Option FieldType} {R : Room} {n0 : Nat} {Q : Post} {h : Heap} {k n : Nat} {pc pc' : Nat} {L L' : Array Slot} {S S' rest : List Value} {a0 : Array Value} {a : Addr} {v : Value}
theorem con_of_wp {l : Launch} {y : MethodName} {as : Array Value} {L0 : Array Slot} {ws : List Jvm.Cond} (pn : plainFor y = true) (ef : ∀ m, entryFrame m as ml = mkF m 0 L0 [])
    (H : ∀ x : Cx, x.l = l → Ok x Z y.cls y.name bytes ml rt R → WP x n0 Q h 0 0 0 L0 []) : Con l Z y bytes ml rt R as h n0 Q ws := by
  refine MetFree.of_bodySF pn hisR ?_
  intro p e s m args below meth c s₁ Bd hml0 hP hK
  obtain ⟨rfl, hZ, hh⟩ := hP
  have X0 : Stand p l e R s m args below meth c s₁ [] 0 0 := Stand.of_body Bd
  have e0 : s₁.heap = h := by rw [← hh, Bd.state]; rfl
  have ok : Ok (p, l, e, R, s, m, args, below, meth, c) Z y.cls y.name bytes ml rt R := ⟨Bd.exec, Bd.bytes, hml0, findClass_of_methodNamed Bd.named, (name_of_methodNamed Bd.named Bd.method).1, hZ, Bd.returns, Bd.notSynchronized, rfl⟩
  obtain ⟨s₂, o, h1, h2, h3, h4⟩ := H (p, l, e, R, s, m, args, below, meth, c) rfl ok s₁ [] X0 e0 (Fr.nil n0)
  exact ⟨s₂, o, castTop (ef m) h1, h2, h3, h4⟩
theorem wp_more {k' n' : Nat} (hk : k ≤ k') (hn : n ≤ n') (w : WP x n0 Q h k' n' pc L S) : WP x n0 Q h k n pc L S := fun T locs X e N => w T locs (X.more hk hn) e N
theorem wp_steps (st : ∀ T locs target, Sd x T locs k n → T.heap = h → Steps x.p.tables x.e x.below (T.setTop (mkF x.m pc' L' S')) target → Steps x.p.tables x.e x.below (T.setTop (mkF x.m pc L S)) target) (w : WP x n0 Q h k n pc' L' S') : WP x n0 Q h k n pc L S := fun T locs X e N => by
  obtain ⟨s₂, o, h1, r⟩ := w T locs X e N
  exact ⟨s₂, o, st T locs _ X e h1, r⟩
/-! ## returns -/
theorem wp_done {v' : Option Value} (ok : Ok x Z own nm bytes ml rt R) (hk : k ≤ R.cells) (hn : n ≤ R.slots) (hv : rt = none → v' = none) (hq : Q v' h)
    (st : ∀ T locs fs, Sd x T locs k n → (∀ (f : JFrame) (acts : List Action), f.method = x.m → f.locked = none → f.entered = [] → (doReturn x.e (T.setTop f) acts v').1 = T.setFrames fs) → Steps x.p.tables x.e x.below (T.setTop (mkF x.m pc L S)) (T.setFrames fs)) : WP x n0 Q h k n pc L S := fun T locs X e N => by
  obtain ⟨hx, hby, hml, hown, hnm, hZ, hrt, hlk, hR⟩ := ok
  have hlocks : x.meth.locks = false := hlk
  obtain ⟨fs, hr, hrun, hended, hW, hsame⟩ := X.leave (v := v') (fun q => hv (hrt.symm.trans q)) hlocks
  refine ⟨_, _, st T locs fs X hr, hrun, hended, _, locs, rfl, ⟨?_, N⟩, ⟨_, rfl⟩, hW, hsame.mono (by rw [hR]; exact hk) (by rw [hR]; exact hn)⟩
  show Q v' T.heap
  rw [e]; exact hq
theorem wp_retV (ok : Ok x Z own nm bytes ml none R) (hd : decode bytes pc = .ok (.return_, 1)) (hk : k ≤ R.cells) (hn : n ≤ R.slots) (hq : Q none h) : WP x n0 Q h k n pc L [] :=
  wp_done ok hk hn (fun _ => rfl) hq fun T locs fs X hr => X.returnOut ok.1 ok.2.2.2.2.2.2.1 (hb ok.2.1 hd) hr
theorem wp_retZ {z : Int32} {t : FieldType} (ok : Ok x Z own nm bytes ml (some t) R) (ht : t = .boolean ∨ t = .byte ∨ t = .char ∨ t = .short) (hd : decode bytes pc = .ok (.ireturn, 1)) (hk : k ≤ R.cells) (hn : n ≤ R.slots) (hq : Q (some (.int (nar t z))) h) : WP x n0 Q h k n pc L (.int z :: rest) :=
  wp_done ok hk hn (fun q => nomatch q) hq fun T locs fs X hr => retN X ok.1 ok.2.2.2.2.2.2.1 ht (hb ok.2.1 hd) hr
theorem wp_retI {z : Int32} (ok : Ok x Z own nm bytes ml (some .int) R) (hd : decode bytes pc = .ok (.ireturn, 1)) (hk : k ≤ R.cells) (hn : n ≤ R.slots) (hq : Q (some (.int z)) h) : WP x n0 Q h k n pc L (.int z :: rest) :=
  wp_done ok hk hn (fun q => nomatch q) hq fun T locs fs X hr => retOut X ok.1 ok.2.2.2.2.2.2.1 (w := .int z) rfl (Or.inl ⟨rfl, Or.inl rfl, z, rfl⟩) (hb ok.2.1 hd) hr
theorem wp_retJ {z : Int64} (ok : Ok x Z own nm bytes ml (some .long) R) (hd : decode bytes pc = .ok (.lreturn, 1)) (hk : k ≤ R.cells) (hn : n ≤ R.slots) (hq : Q (some (.long z)) h) : WP x n0 Q h k n pc L (.long z :: rest) :=
  wp_done ok hk hn (fun q => nomatch q) hq fun T locs fs X hr => retOut X ok.1 ok.2.2.2.2.2.2.1 (w := .long z) rfl (Or.inr (Or.inl ⟨rfl, rfl, z, rfl⟩)) (hb ok.2.1 hd) hr
theorem wp_retA {w : Value} {t : FieldType} (ok : Ok x Z own nm bytes ml (some t) R) (ht : t.isReference = true) (hw : w.isRef = true) (hd : decode bytes pc = .ok (.areturn, 1)) (hk : k ≤ R.cells) (hn : n ≤ R.slots) (hq : Q (some w) h) : WP x n0 Q h k n pc L [w] :=
  wp_done ok hk hn (fun q => nomatch q) hq fun T locs fs X hr => X.areturnOut ok.1 hw ok.2.2.2.2.2.2.1 ht (hb ok.2.1 hd) hr
/-! ## the heap -/
theorem wp_getF {O nf d : String} {index : Nat} (ok : Ok x Z own nm bytes ml rt R) (w : (Jvm.Cond.fieldLink own index O nf d).before a0 Z = true) (F : Fld Z h a O nf d v) (hd : decode bytes pc = .ok (.getfield index, 3)) (hw : WP x n0 Q h k n (pc + 3) L (v :: rest)) : WP x n0 Q h k n pc L (.ref a :: rest) := fun T locs X e N => by
  obtain ⟨T', X', e', st⟩ := getF X ok.1 ok.2.2.2.2.2.1 ok.2.2.2.1 (host := "") (Or.inl w) Via.refl e F (g := mkF x.m pc L (.ref a :: rest)) rfl rfl (hb ok.2.1 hd)
  obtain ⟨s₂, o, h1, r⟩ := hw T' locs X' e' N
  exact ⟨s₂, o, st _ h1, r⟩
theorem wp_putF {O nf d C : String} {index kk : Nat} {ty : FieldType} {old : Value} (ok : Ok x Z own nm bytes ml rt R) (w : (Jvm.Cond.fieldLink own index O nf d).before a0 Z = true) (F : Fld Z h a O nf d old) (E : Exa Z h a C)
    (Ly : (Jvm.Cond.lays C O nf d).before a0 Z = true ∨ ((Jvm.Cond.laysFinal C O nf d).before a0 Z = true ∧ own = O ∧ nm = "<init>")) (wi : (Jvm.Cond.instantiable C kk).before a0 Z = true) (hty : parseFieldDescriptor d = some ty) (hnw : narrow ty v = v) (hf : fits ty v = true) (hd : decode bytes pc = .ok (.putfield index, 3)) (ha : n0 ≤ a)
    (hw : ∀ h', Wr h h' a (Jvm.RoadKit.slotOf Z O nf d) v → WP x n0 Q h' k n (pc + 3) L rest) : WP x n0 Q h k n pc L (v :: .ref a :: rest) := fun T locs X e N => by
  obtain ⟨T', h', X', e', W, st⟩ := putF X ok.1 ok.2.2.2.2.2.1 ok.2.2.2.1 (host := "") (Or.inl w) Via.refl e F E (Ly.imp id fun q => ⟨q.1, q.2.1, ok.2.2.2.2.1.trans q.2.2⟩) wi hty hnw hf (g := mkF x.m pc L (v :: .ref a :: rest)) rfl rfl (hb ok.2.1 hd)
  obtain ⟨s₂, o, h1, r⟩ := hw h' W T' _ X' e' (Fr.snoc X' N ha)
  exact ⟨s₂, o, st _ h1, r⟩
theorem wp_new {C : String} {index sz : Nat} (ok : Ok x Z own nm bytes ml rt R) (w : (Jvm.Cond.classLink own index C).before a0 Z = true) (wi : (Jvm.Cond.instantiable C sz).before a0 Z = true) (wz : (Jvm.Cond.initialized C).before a0 Z = true) (hd : decode bytes pc = .ok (.new index, 3)) (hk : k + 1 ≤ R.cells) (hn : n + sz ≤ R.slots)
    (hw : ∀ h' a, a = h.size → Ext h h' → Exa Z h' a C → (∀ {O nf d : String} {ty : FieldType}, Laid Z a0 C O nf d → parseFieldDescriptor d = some ty → Fld Z h' a O nf d (defaultValue ty)) → WP x n0 Q h' (k + 1) (n + sz) (pc + 3) L (.ref a :: S)) : WP x n0 Q h k n pc L S := fun T locs X e N => by
  obtain ⟨T', h', X', e', E, A, D, -, st⟩ := newO X ok.1 ok.2.2.2.2.2.1 ok.2.2.2.1 w wi wz e (g := mkF x.m pc L S) rfl (hb ok.2.1 hd) (by rw [ok.2.2.2.2.2.2.2.2]; exact hk) (by rw [ok.2.2.2.2.2.2.2.2]; exact hn)
  obtain ⟨s₂, o, h1, r⟩ := hw h' h.size rfl E A D T' _ X' e' N
  exact ⟨s₂, o, st _ h1, r⟩
theorem wp_initO {index : Nat} (ok : Ok x Z own nm bytes ml rt R) (w1 : (Jvm.Cond.methodLink own index Lib.objectInit).before a0 Z = true) (w2 : (Jvm.Cond.instanceMethod Lib.objectInit).before a0 Z = true) (w3 : (Jvm.Cond.code Lib.objectInit ⟨#[0xb1]⟩ 1 none).before a0 Z = true) (hL : L.size = ml)
    (hd : decode bytes pc = .ok (.invokespecial index, 3)) (hf : 1 ≤ R.frames) (hl : (rest.map fun v => v.category).sum + 12 ≤ R.locals) (hw : WP x n0 Q h k n (pc + 3) L rest) : WP x n0 Q h k n pc L (.ref a :: rest) := fun T locs X e N => by
  obtain ⟨T', X', e', st⟩ := initO X ok.1 ok.2.2.2.2.2.1 ok.2.2.2.1 w1 w2 w3 e (g := mkF x.m pc L (.ref a :: rest)) rfl (by show L.size = _; rw [ok.2.2.1]; exact hL) rfl (hb ok.2.1 hd) (by rw [ok.2.2.2.2.2.2.2.2]; exact hf) (W := (rest.map fun v => v.category).sum) (by show 2 * 0 + _ ≤ _; omega) (by rw [ok.2.2.2.2.2.2.2.2]; exact hl)
  obtain ⟨s₂, o, h1, r⟩ := hw T' locs X' e' N
  exact ⟨s₂, o, st _ h1, r⟩
/-! ## calls by contract -/
theorem wp_static {y : MethodName} {cb : ByteArray} {cm : Nat} {cr : Option FieldType} {rm : Room} {index : Nat} {argsL : List Value} {Q' : Post} {ps : List FieldType} (ok : Ok x Z own nm bytes ml rt R) (w1 : (Jvm.Cond.methodLink own index y).before a0 Z = true) (w2 : (Jvm.Cond.static y).before a0 Z = true) (w3 : (Jvm.Cond.initialized y.cls).before a0 Z = true) (w4 : (Jvm.Cond.code y cb cm cr).before a0 Z = true)
    (hy : y.cls ≠ "java/lang/invoke/MethodHandle" ∧ y.cls ≠ "java/lang/invoke/VarHandle") (C : Con x.l Z y cb cm cr rm argsL.toArray h n0 Q' []) (pd : parseMethodDescriptor y.desc = some ⟨ps, cr⟩) (hlen : argsL.length = ps.length) (hst : S = argsL.reverse ++ rest) (hL : L.size = ml) (hd : decode bytes pc = .ok (.invokestatic index, 3))
    (hf : rm.frames + 1 ≤ R.frames) (hl : (rest.map fun v => v.category).sum + (cm + 11) + rm.locals ≤ R.locals) (hk : k + rm.cells ≤ R.cells) (hn : n + rm.slots ≤ R.slots)
    (hw : ∀ v h', Q' v h' → WP x n0 Q h' (k + rm.cells) (n + rm.slots) (pc + 3) L (v.toList ++ rest)) : WP x n0 Q h k n pc L S := fun T locs X e N => by
  have hZ := ok.2.2.2.2.2.1
  have hR := ok.2.2.2.2.2.2.2.2
  obtain ⟨v, _, ⟨T', L2, k2, n2⟩, -, X', ⟨Lc, hQ, l1, y1, z1⟩, st⟩ := Jvm.LawKit.callS X ok.1 (y := y) ok.2.2.2.1 (mvT hZ w1) (mvT hZ w2) (mvT hZ w3) (mvT hZ w4) hy (backOf (W := (rest.map fun v => v.category).sum) (Q := fun v h L => Q' v h ∧ Fr n0 L) C hZ w4 w3 (by rw [hR]; exact hf) (by rw [hR]; exact hl)) (g := mkF x.m pc L S) rfl (by show L.size = _; rw [ok.2.2.1]; exact hL) (argsL := argsL) (rest := rest) (lenOf pd hlen) hst (by show 2 * 0 + _ ≤ _; omega) (hb ok.2.1 hd) (fun _ _ => ⟨rfl, e, by rw [hR]; exact hk, by rw [hR]; exact hn⟩)
  dsimp only [Pt.U, Pt.locs, Pt.cells, Pt.slots] at X' l1 y1 z1 st hQ
  subst l1 y1 z1
  obtain ⟨s₂, o, h1, r⟩ := hw v _ hQ.1 T' _ X' rfl (Fr.app N hQ.2)
  exact ⟨s₂, o, st _ h1, r⟩
theorem wp_special {y : MethodName} {cb : ByteArray} {cm : Nat} {rm : Room} {index : Nat} {argsL : List Value} {Q' : Post} {ps : List FieldType} (ok : Ok x Z own nm bytes ml rt R) (hy1 : y.name = "<init>") (w1 : (Jvm.Cond.methodLink own index y).before a0 Z = true) (w2 : (Jvm.Cond.instanceMethod y).before a0 Z = true) (w3 : (Jvm.Cond.initialized y.cls).before a0 Z = true) (w4 : (Jvm.Cond.code y cb cm none).before a0 Z = true)
    (hy : y.cls ≠ "java/lang/invoke/MethodHandle" ∧ y.cls ≠ "java/lang/invoke/VarHandle") (C : Con x.l Z y cb cm none rm (Value.ref a :: argsL).toArray h n0 Q' []) (pd : parseMethodDescriptor y.desc = some ⟨ps, none⟩) (hlen : argsL.length = ps.length) (hst : S = argsL.reverse ++ .ref a :: rest) (hL : L.size = ml) (hd : decode bytes pc = .ok (.invokespecial index, 3))
    (hf : rm.frames + 1 ≤ R.frames) (hl : (rest.map fun v => v.category).sum + (cm + 11) + rm.locals ≤ R.locals) (hk : k + rm.cells ≤ R.cells) (hn : n + rm.slots ≤ R.slots)
    (hw : ∀ v h', Q' v h' → WP x n0 Q h' (k + rm.cells) (n + rm.slots) (pc + 3) L (v.toList ++ rest)) : WP x n0 Q h k n pc L S := fun T locs X e N => by
  have hZ := ok.2.2.2.2.2.1
  have hR := ok.2.2.2.2.2.2.2.2
  obtain ⟨v, _, ⟨T', L2, k2, n2⟩, -, X', ⟨Lc, hQ, l1, y1, z1⟩, st⟩ := X.specialBack ok.1 (y := y) hy1 ok.2.2.2.1 (mvT hZ w1) (mvT hZ w2) (mvT hZ w4) hy (backOf (W := (rest.map fun v => v.category).sum) (Q := fun v h L => Q' v h ∧ Fr n0 L) C hZ w4 w3 (by rw [hR]; exact hf) (by rw [hR]; exact hl)) (g := mkF x.m pc L S) rfl (by show L.size = _; rw [ok.2.2.1]; exact hL) (Steps.refl _) (a := a) (argsL := argsL) (rest := rest) (lenOf pd hlen) hst (by show 2 * 0 + _ ≤ _; omega) (hb ok.2.1 hd) (fun _ _ => ⟨rfl, e, by rw [hR]; exact hk, by rw [hR]; exact hn⟩)
  dsimp only [Pt.U, Pt.locs, Pt.cells, Pt.slots] at X' l1 y1 z1 st hQ
  subst l1 y1 z1
  obtain ⟨s₂, o, h1, r⟩ := hw v _ hQ.1 T' _ X' rfl (Fr.app N hQ.2)
  exact ⟨s₂, o, st.trans h1, r⟩
theorem wp_virtual {y : MethodName} {cb : ByteArray} {cm : Nat} {cr : Option FieldType} {rm : Room} {index : Nat} {argsL : List Value} {Q' : Post} {ps : List FieldType} {C : String} (ok : Ok x Z own nm bytes ml rt R) (w1 : (Jvm.Cond.methodLink own index y).before a0 Z = true) (w5 : (Jvm.Cond.declares y).before a0 Z = true) (w6 : (Jvm.Cond.selects C y y).before a0 Z = true) (w2 : (Jvm.Cond.instanceMethod y).before a0 Z = true) (w3 : (Jvm.Cond.initialized y.cls).before a0 Z = true) (w4 : (Jvm.Cond.code y cb cm cr).before a0 Z = true)
    (hy : y.cls ≠ "java/lang/invoke/MethodHandle" ∧ y.cls ≠ "java/lang/invoke/VarHandle") (E : Exa Z h a C) (Cn : Con x.l Z y cb cm cr rm (Value.ref a :: argsL).toArray h n0 Q' []) (pd : parseMethodDescriptor y.desc = some ⟨ps, cr⟩) (hlen : argsL.length = ps.length) (hst : S = argsL.reverse ++ .ref a :: rest) (hL : L.size = ml) (hd : decode bytes pc = .ok (.invokevirtual index, 3))
    (hf : rm.frames + 1 ≤ R.frames) (hl : (rest.map fun v => v.category).sum + (cm + 11) + rm.locals ≤ R.locals) (hk : k + rm.cells ≤ R.cells) (hn : n + rm.slots ≤ R.slots)
    (hw : ∀ v h', Q' v h' → WP x n0 Q h' (k + rm.cells) (n + rm.slots) (pc + 3) L (v.toList ++ rest)) : WP x n0 Q h k n pc L S := fun T locs X e N => by
  have hZ := ok.2.2.2.2.2.1
  have hR := ok.2.2.2.2.2.2.2.2
  obtain ⟨cq, kq, qa, qb, qc⟩ := isOf (T := T) (s := x.s) hZ e E
  obtain ⟨v, _, ⟨T', L2, k2, n2⟩, -, X', ⟨Lc, hQ, l1, y1, z1⟩, st⟩ := X.virtualBack ok.1 (y := y) (z := y) ok.2.2.2.1 (mvT hZ w1) (mvT hZ w5) (notFace_of_selects (args := #[]) (mvT hZ w6)) (mvT hZ w6) (mvT hZ w2) hy (backOf (W := (rest.map fun v => v.category).sum) (Q := fun v h L => Q' v h ∧ Fr n0 L) Cn hZ w4 w3 (by rw [hR]; exact hf) (by rw [hR]; exact hl)) qa qc (g := mkF x.m pc L S) rfl (by show L.size = _; rw [ok.2.2.1]; exact hL) (Steps.refl _) (argsL := argsL) (rest := rest) (lenOf pd hlen) hst (by show 2 * 0 + _ ≤ _; omega) (hb ok.2.1 hd) (fun _ _ => ⟨rfl, e, by rw [hR]; exact hk, by rw [hR]; exact hn⟩)
  dsimp only [Pt.U, Pt.locs, Pt.cells, Pt.slots] at X' l1 y1 z1 st hQ
  subst l1 y1 z1
  obtain ⟨s₂, o, h1, r⟩ := hw v _ hQ.1 T' _ X' rfl (Fr.app N hQ.2)
  exact ⟨s₂, o, st.trans h1, r⟩
/-! ## arrays -/
theorem wp_newA {aty : ArrayType} {z : Int32} {cap : Nat} (ok : Ok x Z own nm bytes ml rt R) (w : (Jvm.Cond.arrayClass (newarray.typeOf aty)).before a0 Z = true) (hd : decode bytes pc = .ok (.newarray aty, 2)) (hz : ¬ z < 0) (hcap : z.toNatClampNeg ≤ cap) (hb8 : cap * 8 ≤ 536870912) (hk : k + 1 ≤ R.cells) (hn : n + cap ≤ R.slots)
    (hw : ∀ h' a cA, a = h.size → Ext h h' → Arr Z h' a (newA cA (newarray.typeOf aty) z) (newarray.typeOf aty) → WP x n0 Q h' (k + 1) (n + cap) (pc + 2) L (.ref a :: rest)) : WP x n0 Q h k n pc L (.int z :: rest) := fun T locs X e N => by
  obtain ⟨T', h', cA, X', e', E, A, st⟩ := newP X ok.1 ok.2.2.2.2.2.1 w e (g := mkF x.m pc L (.int z :: rest)) rfl (hb ok.2.1 hd) rfl hz hcap hb8 (by rw [ok.2.2.2.2.2.2.2.2]; exact hk) (by rw [ok.2.2.2.2.2.2.2.2]; exact hn)
  obtain ⟨s₂, o, h1, r⟩ := hw h' _ cA rfl E A T' _ X' e' N
  exact ⟨s₂, o, st _ h1, r⟩
theorem wp_stI {cl : Cell} {j z : Int32} (ok : Ok x Z own nm bytes ml rt R) (A : Arr Z h a cl .int) (hj : ¬ (j < 0 ∨ cl.slots.size ≤ j.toNatClampNeg)) (hd : decode bytes pc = .ok (.iastore, 1)) (ha : n0 ≤ a)
    (hw : ∀ h', Wr h h' a j.toNatClampNeg (.int z) → WP x n0 Q h' k n (pc + 1) L rest) : WP x n0 Q h k n pc L (.int z :: .int j :: .ref a :: rest) := fun T locs X e N => by
  obtain ⟨T', h', X', e', W, st⟩ := stI X ok.1 ok.2.2.2.2.2.1 e A hj (g := mkF x.m pc L (.int z :: .int j :: .ref a :: rest)) rfl rfl (hb ok.2.1 hd)
  obtain ⟨s₂, o, h1, r⟩ := hw h' W T' _ X' e' (Fr.snoc X' N ha)
  exact ⟨s₂, o, st _ h1, r⟩
theorem wp_stJ {cl : Cell} {j : Int32} {z : Int64} (ok : Ok x Z own nm bytes ml rt R) (A : Arr Z h a cl .long) (hj : ¬ (j < 0 ∨ cl.slots.size ≤ j.toNatClampNeg)) (hd : decode bytes pc = .ok (.lastore, 1)) (ha : n0 ≤ a)
    (hw : ∀ h', Wr h h' a j.toNatClampNeg (.long z) → WP x n0 Q h' k n (pc + 1) L rest) : WP x n0 Q h k n pc L (.long z :: .int j :: .ref a :: rest) := fun T locs X e N => by
  obtain ⟨T', h', X', e', W, st⟩ := stJ X ok.1 ok.2.2.2.2.2.1 e A hj (g := mkF x.m pc L (.long z :: .int j :: .ref a :: rest)) rfl rfl (hb ok.2.1 hd)
  obtain ⟨s₂, o, h1, r⟩ := hw h' W T' _ X' e' (Fr.snoc X' N ha)
  exact ⟨s₂, o, st _ h1, r⟩
theorem wp_ldI {cl : Cell} {j : Int32} (ok : Ok x Z own nm bytes ml rt R) (A : Arr Z h a cl .int) (hj : ¬ (j < 0 ∨ cl.slots.size ≤ j.toNatClampNeg)) (hv : cl.slots[j.toNatClampNeg]? = some v) (hd : decode bytes pc = .ok (.iaload, 1)) (hw : WP x n0 Q h k n (pc + 1) L (v :: rest)) : WP x n0 Q h k n pc L (.int j :: .ref a :: rest) :=
  wp_steps (fun T locs target X e hr => X.iaload ok.1 (by rw [e]; exact A.1) (State.isArrayOf_alike ok.2.2.2.2.2.1.alike A.2.1) A.2.2 hj hv (g := mkF x.m pc L (.int j :: .ref a :: rest)) rfl rfl (hb ok.2.1 hd) target hr) hw
theorem wp_ldJ {cl : Cell} {j : Int32} (ok : Ok x Z own nm bytes ml rt R) (A : Arr Z h a cl .long) (hj : ¬ (j < 0 ∨ cl.slots.size ≤ j.toNatClampNeg)) (hv : cl.slots[j.toNatClampNeg]? = some v) (hd : decode bytes pc = .ok (.laload, 1)) (hw : WP x n0 Q h k n (pc + 1) L (v :: rest)) : WP x n0 Q h k n pc L (.int j :: .ref a :: rest) :=
  wp_steps (fun T locs target X e hr => X.laload ok.1 (by rw [e]; exact A.1) (State.isArrayOf_alike ok.2.2.2.2.2.1.alike A.2.1) A.2.2 hj hv (g := mkF x.m pc L (.int j :: .ref a :: rest)) rfl rfl (hb ok.2.1 hd) target hr) hw
theorem wp_ldB {cl : Cell} {j : Int32} (ok : Ok x Z own nm bytes ml rt R) (A : Arr Z h a cl .byte) (hj : ¬ (j < 0 ∨ cl.slots.size ≤ j.toNatClampNeg)) (hv : cl.slots[j.toNatClampNeg]? = some v) (hd : decode bytes pc = .ok (.baload, 1)) (hw : WP x n0 Q h k n (pc + 1) L (v :: rest)) : WP x n0 Q h k n pc L (.int j :: .ref a :: rest) :=
  wp_steps (fun T locs target X e hr => X.baloadBytes ok.1 (by rw [e]; exact A.1) (State.isArrayOf_alike ok.2.2.2.2.2.1.alike A.2.1) A.2.2 hj hv (g := mkF x.m pc L (.int j :: .ref a :: rest)) rfl rfl (hb ok.2.1 hd) target hr) hw
theorem wp_ldZ {cl : Cell} {j : Int32} (ok : Ok x Z own nm bytes ml rt R) (A : Arr Z h a cl .boolean) (hj : ¬ (j < 0 ∨ cl.slots.size ≤ j.toNatClampNeg)) (hv : cl.slots[j.toNatClampNeg]? = some v) (hd : decode bytes pc = .ok (.baload, 1)) (hw : WP x n0 Q h k n (pc + 1) L (v :: rest)) : WP x n0 Q h k n pc L (.int j :: .ref a :: rest) :=
  wp_steps (fun T locs target X e hr => X.baloadBooleans ok.1 (by rw [e]; exact A.1) (State.isArrayOf_alike ok.2.2.2.2.2.1.alike A.2.1) A.2.2 hj hv (g := mkF x.m pc L (.int j :: .ref a :: rest)) rfl rfl (hb ok.2.1 hd) target hr) hw
theorem wp_len {cl : Cell} {ty : FieldType} (ok : Ok x Z own nm bytes ml rt R) (A : Arr Z h a cl ty) (hd : decode bytes pc = .ok (.arraylength, 1)) (hw : WP x n0 Q h k n (pc + 1) L (.int cl.slots.size.toInt32 :: rest)) : WP x n0 Q h k n pc L (.ref a :: rest) :=
  wp_steps (fun T locs target X e hr => X.arraylength ok.1 (by rw [e]; exact A.1) (State.isArrayOf_alike ok.2.2.2.2.2.1.alike A.2.1) (g := mkF x.m pc L (.ref a :: rest)) rfl rfl (hb ok.2.1 hd) target hr) hw
end Rules
end Jvm.OwnW
namespace Jvm.OwnW
open Jvm.RoadKit
theorem c_lmod (x y : Int64) (d : Int) (hy : y.toInt = d) : (0 ≤ x.toInt → (x % y).toInt = x.toInt % d) ∧ (x.toInt < 0 → (x % y).toInt = -((-x.toInt) % d)) := by rw [← lrem_mod]; exact c_lrem x y d hy
theorem x_ladd {x y : Int64} (h1 : -9223372036854775808 ≤ x.toInt + y.toInt) (h2 : x.toInt + y.toInt < 9223372036854775808) : (x + y).toInt = x.toInt + y.toInt := by
  have := c_ladd x y; have := (x + y).toInt_lt; have := (x + y).le_toInt; omega
theorem x_lsub {x y : Int64} (h1 : -9223372036854775808 ≤ x.toInt - y.toInt) (h2 : x.toInt - y.toInt < 9223372036854775808) : (x - y).toInt = x.toInt - y.toInt := by
  have := c_lsub x y; have := (x - y).toInt_lt; have := (x - y).le_toInt; omega
theorem x_lmul {x y : Int64} (h1 : -9223372036854775808 ≤ x.toInt * y.toInt) (h2 : x.toInt * y.toInt < 9223372036854775808) : (x * y).toInt = x.toInt * y.toInt := by
  have q := c_lmul x y; have := (x * y).toInt_lt; have := (x * y).le_toInt
  generalize x.toInt * y.toInt = p at *; omega
theorem x_iadd {x y : Int32} (h1 : -2147483648 ≤ x.toInt + y.toInt) (h2 : x.toInt + y.toInt < 2147483648) : (x + y).toInt = x.toInt + y.toInt := by
  have := c_iadd x y; have := (x + y).toInt_lt; have := (x + y).le_toInt; omega
theorem x_isub {x y : Int32} (h1 : -2147483648 ≤ x.toInt - y.toInt) (h2 : x.toInt - y.toInt < 2147483648) : (x - y).toInt = x.toInt - y.toInt := by
  have := c_isub x y; have := (x - y).toInt_lt; have := (x - y).le_toInt; omega
theorem x_imul {x y : Int32} (h1 : -2147483648 ≤ x.toInt * y.toInt) (h2 : x.toInt * y.toInt < 2147483648) : (x * y).toInt = x.toInt * y.toInt := by
  have q := c_imul x y; have := (x * y).toInt_lt; have := (x * y).le_toInt
  generalize x.toInt * y.toInt = p at *; omega
theorem nar01 {z : Int32} (h : z = 0 ∨ z = 1) : nar .boolean z = z := by rcases h with rfl | rfl <;> rfl
end Jvm.OwnW
namespace Jvm.OwnW
open Sem ClassFile Op Lib Jvm.Free Jvm.Stand Jvm.LawKit Jvm.RoadKit Jvm.Free.XT
/-! ## plain steps, by evaluation: a block of instructions from a frame to a frame, with the props that it asks (a branch's direction, a divisor) -/
def ush (x y : Int32) : Int32 := (x.toUInt32 >>> (y &&& 31).toUInt32).toInt32
def ushL (x : Int64) (y : Int32) : Int64 := (x.toUInt64 >>> (y &&& 63).toInt64.toUInt64).toInt64
theorem c_ush (x q : Int32) (k : Nat) (hk : q.toBitVec.toNat % 32 = k) (h0 : 0 < k) : (ush x q).toInt = (x.toInt % 4294967296) / (2 ^ k : Nat) := c_iushr x q k hk h0
theorem c_ushL (x : Int64) (q : Int32) (k : Nat) (hk : q.toBitVec.toNat % 64 = k) (h0 : 0 < k) : (ushL x q).toInt = (x.toInt % 18446744073709551616) / (2 ^ k : Nat) := c_lushr x q k hk h0
abbrev Res : Type := Option (List Prop × Nat × Array Slot × List Value)
def bin32 (f : Int32 → Int32 → Int32) (pc : Nat) (L : Array Slot) : List Value → Res
  | .int y :: .int z :: r => some ([], pc + 1, L, .int (f z y) :: r)
  | _ => none
def bin64 (f : Int64 → Int64 → Int64) (pc : Nat) (L : Array Slot) : List Value → Res
  | .long y :: .long z :: r => some ([], pc + 1, L, .long (f z y) :: r)
  | _ => none
def sh64 (f : Int64 → Int32 → Int64) (pc : Nat) (L : Array Slot) : List Value → Res
  | .int y :: .long z :: r => some ([], pc + 1, L, .long (f z y) :: r)
  | _ => none
def un32 (f : Int32 → Value) (pc : Nat) (L : Array Slot) : List Value → Res
  | .int z :: r => some ([], pc + 1, L, f z :: r)
  | _ => none
def un64 (f : Int64 → Value) (pc : Nat) (L : Array Slot) : List Value → Res
  | .long z :: r => some ([], pc + 1, L, f z :: r)
  | _ => none
def ldK (ok : Value → Bool) (i pc' : Nat) (L : Array Slot) (S : List Value) : Res :=
  match L[i]? with
  | some (.val v) => if ok v = true then some ([], pc', L, v :: S) else none
  | _ => none
def stK (ok : Value → Bool) (i pc' : Nat) (L : Array Slot) : List Value → Res
  | v :: r => if ok v = true then (match storeLocals L i v with | some L' => some ([], pc', L', r) | none => none) else none
  | [] => none
def isI : Value → Bool | .int _ => true | _ => false
def isJ : Value → Bool | .long _ => true | _ => false
def constI : Option Value → Option Int32 | some (.int z) => some z | _ => none
def constJ : Option Value → Option Int64 | some (.long z) => some z | _ => none
def look (K : List (Nat × Value)) (i : Nat) : Option Value := match K with
  | [] => none
  | (j, v) :: r => if j = i then some v else look r i
def jump (pc : Nat) (o : Int) : Option Nat := if 0 ≤ (pc : Int) + o then some ((pc : Int) + o).toNat else none
def br (p : Prop) (b : Bool) (pc : Nat) (o : Int) (L : Array Slot) (S : List Value) : Res :=
  if b = true then (match jump pc o with | some q => some ([p], q, L, S) | none => none) else some ([p], pc + 3, L, S)
def stp (K : List (Nat × Value)) (b : Bool) (i : Instr) (pc : Nat) (L : Array Slot) (S : List Value) : Res :=
  match i with
  | .iconst z => some ([], pc + 1, L, .int (Int32.ofInt z) :: S)
  | .bipush z => some ([], pc + 2, L, .int (Int8.ofInt z).toInt32 :: S)
  | .sipush z => some ([], pc + 3, L, .int (Int16.ofInt z).toInt32 :: S)
  | .lconst z => some ([], pc + 1, L, .long (Int64.ofNat z) :: S)
  | .aconst_null => some ([], pc + 1, L, .null :: S)
  | .ldc j => (match constI (look K j) with | some z => some ([], pc + 2, L, .int z :: S) | none => none)
  | .ldc2_w j => (match constJ (look K j) with | some z => some ([], pc + 3, L, .long z :: S) | none => none)
  | .iload_n j => ldK isI j.val (pc + 1) L S
  | .iload j => ldK isI j (pc + 2) L S
  | .lload_n j => ldK isJ j.val (pc + 1) L S
  | .lload j => ldK isJ j (pc + 2) L S
  | .aload_n j => ldK Value.isRef j.val (pc + 1) L S
  | .aload j => ldK Value.isRef j (pc + 2) L S
  | .istore_n j => stK isI j.val (pc + 1) L S
  | .istore j => stK isI j (pc + 2) L S
  | .lstore_n j => stK isJ j.val (pc + 1) L S
  | .lstore j => stK isJ j (pc + 2) L S
  | .astore_n j => stK Value.isRef j.val (pc + 1) L S
  | .astore j => stK Value.isRef j (pc + 2) L S
  | .iadd => bin32 (fun z y => z + y) pc L S
  | .isub => bin32 (fun z y => z - y) pc L S
  | .imul => bin32 (fun z y => z * y) pc L S
  | .iand => bin32 (fun z y => z &&& y) pc L S
  | .ior => bin32 (fun z y => z ||| y) pc L S
  | .ixor => bin32 (fun z y => z ^^^ y) pc L S
  | .ishl => bin32 (fun z y => z <<< (y &&& 31)) pc L S
  | .ishr => bin32 (fun z y => z >>> (y &&& 31)) pc L S
  | .iushr => bin32 (fun z y => ush z y) pc L S
  | .ladd => bin64 (fun z y => z + y) pc L S
  | .lsub => bin64 (fun z y => z - y) pc L S
  | .lmul => bin64 (fun z y => z * y) pc L S
  | .land => bin64 (fun z y => z &&& y) pc L S
  | .lor => bin64 (fun z y => z ||| y) pc L S
  | .lxor => bin64 (fun z y => z ^^^ y) pc L S
  | .lshl => sh64 (fun z y => z <<< (y &&& 63).toInt64) pc L S
  | .lshr => sh64 (fun z y => z >>> (y &&& 63).toInt64) pc L S
  | .lushr => sh64 (fun z y => ushL z y) pc L S
  | .ineg => un32 (fun z => .int (-z)) pc L S
  | .lneg => un64 (fun z => .long (-z)) pc L S
  | .i2l => un32 (fun z => .long z.toInt64) pc L S
  | .l2i => un64 (fun z => .int z.toInt32) pc L S
  | .i2b => un32 (fun z => .int z.toInt8.toInt32) pc L S
  | .i2c => un32 (fun z => .int z.toUInt32.toUInt16.toUInt32.toInt32) pc L S
  | .i2s => un32 (fun z => .int z.toInt16.toInt32) pc L S
  | .idiv => (match S with | .int y :: .int z :: r => some ([y ≠ 0], pc + 1, L, .int (z / y) :: r) | _ => none)
  | .irem => (match S with | .int y :: .int z :: r => some ([y ≠ 0], pc + 1, L, .int (z % y) :: r) | _ => none)
  | .ldiv => (match S with | .long y :: .long z :: r => some ([y ≠ 0], pc + 1, L, .long (z / y) :: r) | _ => none)
  | .lrem => (match S with | .long y :: .long z :: r => some ([y ≠ 0], pc + 1, L, .long (z % y) :: r) | _ => none)
  | .lcmp => (match S with | .long y :: .long z :: r => some ([], pc + 1, L, .int (cmpL z y) :: r) | _ => none)
  | .pop => (match S with | v :: r => if v.category = 1 then some ([], pc + 1, L, r) else none | _ => none)
  | .dup => (match S with | v :: r => if v.category = 1 then some ([], pc + 1, L, v :: v :: r) else none | _ => none)
  | .dup_x1 => (match S with | v :: w :: r => if v.category = 1 ∧ w.category = 1 then some ([], pc + 1, L, v :: w :: v :: r) else none | _ => none)
  | .dup2 => (match S with | v :: w :: r => if v.category = 1 ∧ w.category = 1 then some ([], pc + 1, L, v :: w :: v :: w :: r) else none | _ => none)
  | .iinc j c => (match L[j]? with | some (.val (.int z)) => (match storeLocals L j (.int (z + Int32.ofInt c)) with | some L' => some ([], pc + 3, L', S) | none => none) | _ => none)
  | .goto o => (match jump pc o with | some q => some ([], q, L, S) | none => none)
  | .ifCond cd o => (match S with | .int z :: r => br (ifCond.holds cd z = b) b pc o L r | _ => none)
  | .if_icmp cd o => (match S with | .int y :: .int z :: r => br (if_icmp.holds cd z y = b) b pc o L r | _ => none)
  | .ifnull o => (match S with | .null :: r => if b = true then br True b pc o L r else none | .ref _ :: r => if b = true then none else br True b pc o L r | _ => none)
  | .ifnonnull o => (match S with | .null :: r => if b = true then none else br True b pc o L r | .ref _ :: r => if b = true then br True b pc o L r else none | _ => none)
  | _ => none
def ilen : Instr → Nat
  | .bipush _ => 2 | .ldc _ => 2 | .iload _ => 2 | .lload _ => 2 | .aload _ => 2 | .istore _ => 2 | .lstore _ => 2 | .astore _ => 2
  | .sipush _ => 3 | .ldc2_w _ => 3 | .iinc _ _ => 3 | .goto _ => 3 | .ifCond _ _ => 3 | .if_icmp _ _ => 3 | .ifnull _ => 3 | .ifnonnull _ => 3
  | _ => 1
def runL (K : List (Nat × Value)) : List (Nat × Instr × Bool) → Nat → Array Slot → List Value → Res
  | [], pc, L, S => some ([], pc, L, S)
  | (q, i, b) :: r, pc, L, S => if q = pc then (match stp K b i pc L S with
      | none => none
      | some (ps, pc', L', S') => match runL K r pc' L' S' with
        | none => none
        | some (ps', t) => some (ps ++ ps', t)) else none
def decs (bytes : ByteArray) (B : List (Nat × Instr × Bool)) : Bool := B.all fun q => decide (decode bytes q.1 = .ok (q.2.1, ilen q.2.1))
def allP : List Prop → Prop
  | [] => True
  | p :: r => p ∧ allP r
theorem allP_append {ps qs : List Prop} (h : allP (ps ++ qs)) : allP ps ∧ allP qs := by
  induction ps with
  | nil => exact ⟨trivial, h⟩
  | cons p r ih => exact ⟨⟨h.1, (ih h.2).1⟩, (ih h.2).2⟩
def Konst (Z : State) (a0 : Array Value) (own : String) : List (Nat × Value) → Prop
  | [] => True
  | (i, v) :: r => ((∃ z, v = .int z ∧ (Jvm.Cond.constant own i z).before a0 Z = true) ∨ (∃ z, v = .long z ∧ (Jvm.Cond.constantLong own i z).before a0 Z = true)) ∧ Konst Z a0 own r
theorem look_spec {Z : State} {a0 : Array Value} {own : String} {K : List (Nat × Value)} (hK : Konst Z a0 own K) {i : Nat} {v : Value} (h : look K i = some v) : (∃ z, v = .int z ∧ (Jvm.Cond.constant own i z).before a0 Z = true) ∨ (∃ z, v = .long z ∧ (Jvm.Cond.constantLong own i z).before a0 Z = true) := by
  induction K with
  | nil => cases h
  | cons q r ih =>
    obtain ⟨j, w⟩ := q
    simp only [look] at h
    split at h
    · rename_i e; subst e; cases h; exact hK.1
    · exact ih hK.2 h
theorem constI_spec {o : Option Value} {z : Int32} (h : constI o = some z) : o = some (.int z) := by
  cases o with
  | none => cases h
  | some v => cases v <;> simp [constI] at h; rw [h]
theorem constJ_spec {o : Option Value} {z : Int64} (h : constJ o = some z) : o = some (.long z) := by
  cases o with
  | none => cases h
  | some v => cases v <;> simp [constJ] at h; rw [h]
theorem ldK_spec {ok : Value → Bool} {i q : Nat} {L : Array Slot} {S : List Value} {ps : List Prop} {pc' : Nat} {L' : Array Slot} {S' : List Value} (h : ldK ok i q L S = some (ps, pc', L', S')) : ∃ v, L[i]? = some (.val v) ∧ ok v = true ∧ pc' = q ∧ L' = L ∧ S' = v :: S := by
  unfold ldK at h
  split at h
  · split at h
    · rename_i v e1 e2; cases h; exact ⟨v, e1, e2, rfl, rfl, rfl⟩
    · cases h
  · cases h
theorem stK_spec {ok : Value → Bool} {i q : Nat} {L : Array Slot} {S : List Value} {ps : List Prop} {pc' : Nat} {L' : Array Slot} {S' : List Value} (h : stK ok i q L S = some (ps, pc', L', S')) : ∃ v, S = v :: S' ∧ ok v = true ∧ pc' = q ∧ storeLocals L i v = some L' := by
  cases S with
  | nil => cases h
  | cons v r =>
    simp only [stK] at h
    split at h
    · split at h
      · rename_i e1 _ _ e2; cases h; exact ⟨v, rfl, e1, rfl, e2⟩
      · cases h
    · cases h
theorem isI_spec {v : Value} (h : isI v = true) : ∃ z, v = .int z := by cases v <;> simp [isI] at h ⊢
theorem isJ_spec {v : Value} (h : isJ v = true) : ∃ z, v = .long z := by cases v <;> simp [isJ] at h ⊢
theorem bin32_spec {f : Int32 → Int32 → Int32} {pc : Nat} {L : Array Slot} {S : List Value} {ps : List Prop} {pc' : Nat} {L' : Array Slot} {S' : List Value} (h : bin32 f pc L S = some (ps, pc', L', S')) : ∃ z y r, S = .int y :: .int z :: r ∧ pc' = pc + 1 ∧ L' = L ∧ S' = .int (f z y) :: r := by
  unfold bin32 at h; split at h
  · cases h; exact ⟨_, _, _, rfl, rfl, rfl, rfl⟩
  · cases h
theorem bin64_spec {f : Int64 → Int64 → Int64} {pc : Nat} {L : Array Slot} {S : List Value} {ps : List Prop} {pc' : Nat} {L' : Array Slot} {S' : List Value} (h : bin64 f pc L S = some (ps, pc', L', S')) : ∃ z y r, S = .long y :: .long z :: r ∧ pc' = pc + 1 ∧ L' = L ∧ S' = .long (f z y) :: r := by
  unfold bin64 at h; split at h
  · cases h; exact ⟨_, _, _, rfl, rfl, rfl, rfl⟩
  · cases h
theorem sh64_spec {f : Int64 → Int32 → Int64} {pc : Nat} {L : Array Slot} {S : List Value} {ps : List Prop} {pc' : Nat} {L' : Array Slot} {S' : List Value} (h : sh64 f pc L S = some (ps, pc', L', S')) : ∃ z y r, S = .int y :: .long z :: r ∧ pc' = pc + 1 ∧ L' = L ∧ S' = .long (f z y) :: r := by
  unfold sh64 at h; split at h
  · cases h; exact ⟨_, _, _, rfl, rfl, rfl, rfl⟩
  · cases h
theorem un32_spec {f : Int32 → Value} {pc : Nat} {L : Array Slot} {S : List Value} {ps : List Prop} {pc' : Nat} {L' : Array Slot} {S' : List Value} (h : un32 f pc L S = some (ps, pc', L', S')) : ∃ z r, S = .int z :: r ∧ pc' = pc + 1 ∧ L' = L ∧ S' = f z :: r := by
  unfold un32 at h; split at h
  · cases h; exact ⟨_, _, rfl, rfl, rfl, rfl⟩
  · cases h
theorem un64_spec {f : Int64 → Value} {pc : Nat} {L : Array Slot} {S : List Value} {ps : List Prop} {pc' : Nat} {L' : Array Slot} {S' : List Value} (h : un64 f pc L S = some (ps, pc', L', S')) : ∃ z r, S = .long z :: r ∧ pc' = pc + 1 ∧ L' = L ∧ S' = f z :: r := by
  unfold un64 at h; split at h
  · cases h; exact ⟨_, _, rfl, rfl, rfl, rfl⟩
  · cases h
theorem jump_spec {pc q : Nat} {o : Int} (h : jump pc o = some q) : 0 ≤ (pc : Int) + o ∧ ((pc : Int) + o).toNat = q := by
  unfold jump at h; split at h
  · cases h; exact ⟨by assumption, rfl⟩
  · cases h
theorem br_spec {p : Prop} {b : Bool} {pc : Nat} {o : Int} {L : Array Slot} {S : List Value} {ps : List Prop} {pc' : Nat} {L' : Array Slot} {S' : List Value} (h : br p b pc o L S = some (ps, pc', L', S')) : ps = [p] ∧ L' = L ∧ S' = S ∧ ((b = true ∧ jump pc o = some pc') ∨ (b = false ∧ pc' = pc + 3)) := by
  unfold br at h; split at h
  · rename_i e; split at h
    · rename_i e2; cases h; exact ⟨rfl, rfl, rfl, Or.inl ⟨e, e2⟩⟩
    · cases h
  · rename_i e; cases h; exact ⟨rfl, rfl, rfl, Or.inr ⟨by simpa using e, rfl⟩⟩
section Run
variable {x : Cx} {Z : State} {own nm : String} {bytes : ByteArray} {ml : Nat} {rt : Option FieldType} {R : Room} {n0 : Nat} {Q : Post} {h : Heap} {k n : Nat} {pc pc' : Nat} {L L' : Array Slot} {S S' rest : List Value} {a0 : Array Value} {K : List (Nat × Value)} {ps : List Prop}
theorem stp_ok (ok : Ok x Z own nm bytes ml rt R) (hK : Konst Z a0 own K) {b : Bool} {i : Instr} (hd : decode bytes pc = .ok (i, ilen i)) (hs : stp K b i pc L S = some (ps, pc', L', S')) (hp : allP ps)
    {T : State} {locs : List Loc} {target : State} (X : Sd x T locs k n) (hr : Steps x.p.tables x.e x.below (T.setTop (mkF x.m pc' L' S')) target) : Steps x.p.tables x.e x.below (T.setTop (mkF x.m pc L S)) target := by
  obtain ⟨hx, hby, -, hown, -, hZ, -⟩ := ok
  have hd' := hb hby hd
  have hA : At T x.m x.c x.below := X.here
  cases i
  case iconst z => cases hs; exact XS.iconst hA hx rfl hd' hr
  case bipush z => cases hs; exact XS.bipush hA hx rfl hd' hr
  case sipush z => cases hs; exact XS.sipush hA hx rfl hd' hr
  case lconst z => cases hs; exact XS.lconst hA hx rfl hd' hr
  case aconst_null => cases hs; exact XS.aconstNull hA hx rfl hd' hr
  case ldc j =>
    simp only [stp] at hs
    split at hs
    · rename_i e
      cases hs
      rcases look_spec hK (constI_spec e) with ⟨z, e1, e2⟩ | ⟨z, e1, e2⟩
      · cases e1; exact X.ldcI hx hown (mvT hZ e2) rfl hd' hr
      · cases e1
    · cases hs
  case ldc2_w j =>
    simp only [stp] at hs
    split at hs
    · rename_i e
      cases hs
      rcases look_spec hK (constJ_spec e) with ⟨z, e1, e2⟩ | ⟨z, e1, e2⟩
      · cases e1
      · cases e1; exact X.ldc2J hx hown (mvT hZ e2) rfl hd' hr
    · cases hs
  case iload_n j => obtain ⟨v, e1, e2, rfl, rfl, rfl⟩ := ldK_spec hs; obtain ⟨z, rfl⟩ := isI_spec e2; exact XS.iloadN hA hx rfl hd' e1 hr
  case iload j => obtain ⟨v, e1, e2, rfl, rfl, rfl⟩ := ldK_spec hs; obtain ⟨z, rfl⟩ := isI_spec e2; exact XS.iload hA hx rfl hd' e1 hr
  case lload_n j => obtain ⟨v, e1, e2, rfl, rfl, rfl⟩ := ldK_spec hs; obtain ⟨z, rfl⟩ := isJ_spec e2; exact XS.lloadN hA hx rfl hd' e1 hr
  case lload j => obtain ⟨v, e1, e2, rfl, rfl, rfl⟩ := ldK_spec hs; obtain ⟨z, rfl⟩ := isJ_spec e2; exact XS.lload hA hx rfl hd' e1 hr
  case aload_n j => obtain ⟨v, e1, e2, rfl, rfl, rfl⟩ := ldK_spec hs; exact XS.aloadN hA hx rfl hd' e1 e2 hr
  case aload j => obtain ⟨v, e1, e2, rfl, rfl, rfl⟩ := ldK_spec hs; exact XS.aload hA hx rfl hd' e1 e2 hr
  case istore_n j => obtain ⟨v, rfl, e2, rfl, e3⟩ := stK_spec hs; obtain ⟨z, rfl⟩ := isI_spec e2; exact XS.istoreN hA hx rfl hd' rfl e3 hr
  case istore j => obtain ⟨v, rfl, e2, rfl, e3⟩ := stK_spec hs; obtain ⟨z, rfl⟩ := isI_spec e2; exact XS.istore hA hx rfl hd' rfl e3 hr
  case lstore_n j => obtain ⟨v, rfl, e2, rfl, e3⟩ := stK_spec hs; obtain ⟨z, rfl⟩ := isJ_spec e2; exact XS.lstoreN hA hx rfl hd' rfl e3 hr
  case lstore j => obtain ⟨v, rfl, e2, rfl, e3⟩ := stK_spec hs; obtain ⟨z, rfl⟩ := isJ_spec e2; exact XS.lstore hA hx rfl hd' rfl e3 hr
  case astore_n j => obtain ⟨v, rfl, e2, rfl, e3⟩ := stK_spec hs; exact XS.astoreN hA hx rfl hd' rfl e2 e3 hr
  case astore j => obtain ⟨v, rfl, e2, rfl, e3⟩ := stK_spec hs; exact XS.astore hA hx rfl hd' rfl e2 e3 hr
  case iadd => obtain ⟨z, y, r, rfl, rfl, rfl, rfl⟩ := bin32_spec hs; exact XS.iadd hA hx rfl hd' rfl hr
  case isub => obtain ⟨z, y, r, rfl, rfl, rfl, rfl⟩ := bin32_spec hs; exact XS.isub hA hx rfl hd' rfl hr
  case imul => obtain ⟨z, y, r, rfl, rfl, rfl, rfl⟩ := bin32_spec hs; exact XS.imul hA hx rfl hd' rfl hr
  case iand => obtain ⟨z, y, r, rfl, rfl, rfl, rfl⟩ := bin32_spec hs; exact XS.iand hA hx rfl hd' rfl hr
  case ior => obtain ⟨z, y, r, rfl, rfl, rfl, rfl⟩ := bin32_spec hs; exact XS.ior hA hx rfl hd' rfl hr
  case ixor => obtain ⟨z, y, r, rfl, rfl, rfl, rfl⟩ := bin32_spec hs; exact XS.ixor hA hx rfl hd' rfl hr
  case ishl => obtain ⟨z, y, r, rfl, rfl, rfl, rfl⟩ := bin32_spec hs; exact XS.ishl hA hx rfl hd' rfl hr
  case ishr => obtain ⟨z, y, r, rfl, rfl, rfl, rfl⟩ := bin32_spec hs; exact XS.ishr hA hx rfl hd' rfl hr
  case iushr => obtain ⟨z, y, r, rfl, rfl, rfl, rfl⟩ := bin32_spec hs; exact XS.iushr hA hx rfl hd' rfl hr
  case ladd => obtain ⟨z, y, r, rfl, rfl, rfl, rfl⟩ := bin64_spec hs; exact XS.ladd hA hx rfl hd' rfl hr
  case lsub => obtain ⟨z, y, r, rfl, rfl, rfl, rfl⟩ := bin64_spec hs; exact XS.lsub hA hx rfl hd' rfl hr
  case lmul => obtain ⟨z, y, r, rfl, rfl, rfl, rfl⟩ := bin64_spec hs; exact XS.lmul hA hx rfl hd' rfl hr
  case land => obtain ⟨z, y, r, rfl, rfl, rfl, rfl⟩ := bin64_spec hs; exact XS.land hA hx rfl hd' rfl hr
  case lor => obtain ⟨z, y, r, rfl, rfl, rfl, rfl⟩ := bin64_spec hs; exact XS.lor hA hx rfl hd' rfl hr
  case lxor => obtain ⟨z, y, r, rfl, rfl, rfl, rfl⟩ := bin64_spec hs; exact XS.lxor hA hx rfl hd' rfl hr
  case lshl => obtain ⟨z, y, r, rfl, rfl, rfl, rfl⟩ := sh64_spec hs; exact XS.lshl hA hx rfl hd' rfl hr
  case lshr => obtain ⟨z, y, r, rfl, rfl, rfl, rfl⟩ := sh64_spec hs; exact XS.lshr hA hx rfl hd' rfl hr
  case lushr => obtain ⟨z, y, r, rfl, rfl, rfl, rfl⟩ := sh64_spec hs; exact XS.lushr hA hx rfl hd' rfl hr
  case ineg => obtain ⟨z, r, rfl, rfl, rfl, rfl⟩ := un32_spec hs; exact XS.ineg hA hx rfl hd' rfl hr
  case lneg => obtain ⟨z, r, rfl, rfl, rfl, rfl⟩ := un64_spec hs; exact XS.lneg hA hx rfl hd' rfl hr
  case i2l => obtain ⟨z, r, rfl, rfl, rfl, rfl⟩ := un32_spec hs; exact XS.i2l hA hx rfl hd' rfl hr
  case l2i => obtain ⟨z, r, rfl, rfl, rfl, rfl⟩ := un64_spec hs; exact XS.l2i hA hx rfl hd' rfl hr
  case i2b => obtain ⟨z, r, rfl, rfl, rfl, rfl⟩ := un32_spec hs; exact XS.i2b hA hx rfl hd' rfl hr
  case i2c => obtain ⟨z, r, rfl, rfl, rfl, rfl⟩ := un32_spec hs; exact XS.i2c hA hx rfl hd' rfl hr
  case i2s => obtain ⟨z, r, rfl, rfl, rfl, rfl⟩ := un32_spec hs; exact XS.i2s hA hx rfl hd' rfl hr
  case idiv =>
    simp only [stp] at hs
    split at hs
    · cases hs; exact XS.idiv hA hx rfl hd' rfl hp.1 hr
    · cases hs
  case irem =>
    simp only [stp] at hs
    split at hs
    · cases hs; exact iremM X hx rfl hd' rfl hp.1 hr
    · cases hs
  case ldiv =>
    simp only [stp] at hs
    split at hs
    · cases hs; exact XS.ldiv hA hx rfl hd' rfl hp.1 hr
    · cases hs
  case lrem =>
    simp only [stp] at hs
    split at hs
    · rename_i y z r
      cases hs
      have q : z - z / y * y = z % y := lrem_mod z y
      exact XS.lrem hA hx rfl hd' rfl hp.1 (by rw [q]; exact hr)
    · cases hs
  case lcmp =>
    simp only [stp] at hs
    split at hs
    · cases hs; exact XS.lcmp hA hx rfl hd' rfl hr
    · cases hs
  case pop =>
    simp only [stp] at hs
    split at hs
    · split at hs
      · rename_i e; cases hs; exact XS.pop hA hx rfl hd' rfl e hr
      · cases hs
    · cases hs
  case dup =>
    simp only [stp] at hs
    split at hs
    · split at hs
      · rename_i e; cases hs; exact XS.dup hA hx rfl hd' rfl e hr
      · cases hs
    · cases hs
  case dup_x1 =>
    simp only [stp] at hs
    split at hs
    · split at hs
      · rename_i e; cases hs; exact XS.dupX1 hA hx rfl hd' rfl e.1 e.2 hr
      · cases hs
    · cases hs
  case dup2 =>
    simp only [stp] at hs
    split at hs
    · split at hs
      · rename_i e; cases hs; exact XT.dup2 hA hx rfl hd' rfl e.1 e.2 hr
      · cases hs
    · cases hs
  case iinc j c =>
    simp only [stp] at hs
    split at hs
    · rename_i e1
      split at hs
      · rename_i e2; cases hs; exact XS.iinc hA hx rfl hd' e1 e2 hr
      · cases hs
    · cases hs
  case goto o =>
    simp only [stp] at hs
    split at hs
    · rename_i e; cases hs; obtain ⟨e1, e2⟩ := jump_spec e; exact XS.goto hA hx rfl rfl hd' e1 e2 hr
    · cases hs
  case ifCond cd o =>
    simp only [stp] at hs
    split at hs
    · obtain ⟨rfl, rfl, rfl, ⟨rfl, e⟩ | ⟨rfl, rfl⟩⟩ := br_spec hs
      · obtain ⟨e1, e2⟩ := jump_spec e; exact XS.ifYes hA hx rfl rfl hd' rfl hp.1 e1 e2 hr
      · exact XS.ifNo hA hx rfl hd' rfl hp.1 hr
    · cases hs
  case if_icmp cd o =>
    simp only [stp] at hs
    split at hs
    · obtain ⟨rfl, rfl, rfl, ⟨rfl, e⟩ | ⟨rfl, rfl⟩⟩ := br_spec hs
      · obtain ⟨e1, e2⟩ := jump_spec e; exact XS.icmpYes hA hx rfl rfl hd' rfl hp.1 e1 e2 hr
      · exact XS.icmpNo hA hx rfl hd' rfl hp.1 hr
    · cases hs
  case ifnull o =>
    simp only [stp] at hs
    split at hs
    · split at hs
      · rename_i e0; subst e0
        obtain ⟨rfl, rfl, rfl, ⟨-, e⟩ | ⟨e, -⟩⟩ := br_spec hs
        · obtain ⟨e1, e2⟩ := jump_spec e; exact XS.ifnullYes hA hx rfl rfl hd' rfl e1 e2 hr
        · cases e
      · cases hs
    · split at hs
      · cases hs
      · rename_i e0
        obtain ⟨rfl, rfl, rfl, ⟨e, -⟩ | ⟨-, rfl⟩⟩ := br_spec hs
        · exact absurd e e0
        · exact XS.ifnullNo hA hx rfl hd' rfl hr
    · cases hs
  case ifnonnull o =>
    simp only [stp] at hs
    split at hs
    · split at hs
      · cases hs
      · rename_i e0
        obtain ⟨rfl, rfl, rfl, ⟨e, -⟩ | ⟨-, rfl⟩⟩ := br_spec hs
        · exact absurd e e0
        · exact XS.ifnonnullNo hA hx rfl hd' rfl hr
    · split at hs
      · rename_i e0; subst e0
        obtain ⟨rfl, rfl, rfl, ⟨-, e⟩ | ⟨e, -⟩⟩ := br_spec hs
        · obtain ⟨e1, e2⟩ := jump_spec e; exact XS.ifnonnullYes hA hx rfl rfl hd' rfl e1 e2 hr
        · cases e
      · cases hs
    · cases hs
  all_goals cases hs
theorem run_ok (ok : Ok x Z own nm bytes ml rt R) (hK : Konst Z a0 own K) : ∀ (B : List (Nat × Instr × Bool)) {pc : Nat} {L : Array Slot} {S : List Value} {ps : List Prop} {pc' : Nat} {L' : Array Slot} {S' : List Value}, decs bytes B = true → runL K B pc L S = some (ps, pc', L', S') → allP ps →
    ∀ {T : State} {locs : List Loc} {target : State}, Sd x T locs k n → Steps x.p.tables x.e x.below (T.setTop (mkF x.m pc' L' S')) target → Steps x.p.tables x.e x.below (T.setTop (mkF x.m pc L S)) target
  | [], pc, L, S, ps, pc', L', S', _, hr, _, T, locs, target, X, st => by cases hr; exact st
  | (q, i, b) :: r, pc, L, S, ps, pc', L', S', hd, hr, hp, T, locs, target, X, st => by
    simp only [decs, List.all_cons, Bool.and_eq_true, decide_eq_true_eq] at hd
    simp only [runL] at hr
    split at hr
    · rename_i e; subst e
      split at hr
      · cases hr
      · rename_i ps1 pc1 L1 S1 e1
        split at hr
        · cases hr
        · rename_i ps2 t e2
          cases hr
          obtain ⟨p1, p2⟩ := allP_append hp
          exact stp_ok ok hK hd.1 e1 p1 X (run_ok ok hK r hd.2 e2 p2 X st)
    · cases hr
theorem wp_run (ok : Ok x Z own nm bytes ml rt R) (hK : Konst Z a0 own K) {B : List (Nat × Instr × Bool)} (hd : decs bytes B = true) (hr : runL K B pc L S = some (ps, pc', L', S')) (hp : allP ps) (w : WP x n0 Q h k n pc' L' S') : WP x n0 Q h k n pc L S :=
  wp_steps (fun T locs target X _ st => run_ok ok hK B hd hr hp X st) w
end Run
end Jvm.OwnW
namespace Jvm.Pilot.@@N@@
open Jvm Jvm.ClassFile Sem Op Lib Jvm.Free Jvm.Stand Jvm.LawKit Jvm.RoadKit Bundle Jvm.OwnW Jvm.Free.XT Jvm.Pilot.@@N@@.Jvm.D
def k_rec : List (Nat × Value) := []
def Q_rec (Z : State) (a : Addr) (h0 : Heap) : Post := fun v h => v = none ∧ h0 = h
theorem pn_rec : plainFor (⟨"java/lang/Record", "<init>", "()V"⟩ : MethodName) = true := by first | (refine plainFor_of_name ?_; simp [plainName, overriddenIn]; done) | decide +kernel
set_option maxRecDepth 65536 in
set_option maxHeartbeats 40000000 in
theorem c_rec (l : Launch) (Z : State) (a0 : Array Value) (hw : ∀ d ∈ tables_1, d.before a0 Z = true) (a : Addr) (h0 : Heap) (n0 : Nat) (Z0 : n0 ≤ h0.size) :
    Con l Z (⟨"java/lang/Record", "<init>", "()V"⟩ : MethodName) jdk_30_method_1_code 1 (none : Option FieldType) ({ frames := 1, cells := 0, slots := 0, locals := 12 } : Room) #[(.ref a)] h0 n0 (Q_rec Z a h0) [] := by
  refine con_of_wp pn_rec (L0 := #[.val ((.ref a))]) (fun m => by first | (simp [entryFrame, mkF, argsToLocals, Value.category]; done) | rfl) (fun X hl ok => ?_)
  subst hl
  have hK : Konst Z a0 "java/lang/Record" k_rec := trivial
  refine wp_run ok hK (B := [(0, .aload_n 0, false)]) (by decide +kernel) (pc' := 1) (L' := #[.val ((.ref a))]) (S' := [(.ref a)]) rfl trivial ?_
  refine wp_initO ok (wd hw 13 rfl) (wd hw 14 rfl) (wd hw 15 rfl) (by rfl) (by decide +kernel) (by decide) (Nat.le_of_ble_eq_true rfl) ?_
  refine wp_retV ok (by decide +kernel) (by decide) (by decide) ?_
  exact ⟨rfl, rfl⟩
def k_ini : List (Nat × Value) := []
def Q_ini (Z : State) (a : Addr) (w : Int64) (f : Int64) (w0 : Int64) (f0 : Int64) (h0 : Heap) : Post := fun v h => v = none ∧ Keep h0 h [a] ∧ Fld Z h a "com/example/takt/takt/Nanos" "whole" "J" (.long w) ∧ Fld Z h a "com/example/takt/takt/Nanos" "fraction" "J" (.long f)
theorem pn_ini : plainFor (⟨"com/example/takt/takt/Nanos", "<init>", "(JJ)V"⟩ : MethodName) = true := by first | (refine plainFor_of_name ?_; simp [plainName, overriddenIn]; done) | decide +kernel
set_option maxRecDepth 65536 in
set_option maxHeartbeats 40000000 in
theorem c_ini (l : Launch) (Z : State) (a0 : Array Value) (hw : ∀ d ∈ tables_1, d.before a0 Z = true) (a : Addr) (w : Int64) (f : Int64) (w0 : Int64) (f0 : Int64) (h0 : Heap) (n0 : Nat) (Z0 : n0 ≤ h0.size) (E_a : Exa Z h0 a "com/example/takt/takt/Nanos") (F_a_whole : Fld Z h0 a "com/example/takt/takt/Nanos" "whole" "J" (.long w0)) (F_a_fraction : Fld Z h0 a "com/example/takt/takt/Nanos" "fraction" "J" (.long f0)) (g_a : n0 ≤ a) :
    Con l Z (⟨"com/example/takt/takt/Nanos", "<init>", "(JJ)V"⟩ : MethodName) prog_1_method_1_code 5 (none : Option FieldType) ({ frames := 2, cells := 0, slots := 0, locals := 24 } : Room) #[(.ref a), .long w, .long f] h0 n0 (Q_ini Z a w f w0 f0 h0) [] := by
  refine con_of_wp pn_ini (L0 := #[.val ((.ref a)), .val (.long w), .second, .val (.long f), .second]) (fun m => by first | (simp [entryFrame, mkF, argsToLocals, Value.category]; done) | rfl) (fun X hl ok => ?_)
  subst hl
  have hK : Konst Z a0 "com/example/takt/takt/Nanos" k_ini := trivial
  have K0 : Keep h0 h0 [a] := Keep.refl _ _
  refine wp_run ok hK (B := [(0, .aload_n 0, false)]) (by decide +kernel) (pc' := 1) (L' := #[.val ((.ref a)), .val (.long w), .second, .val (.long f), .second]) (S' := [(.ref a)]) rfl trivial ?_
  refine wp_special ok rfl (wd hw 8 rfl) (wd hw 9 rfl) (wd hw 11 rfl) (wd hw 12 rfl) (by decide) (argsL := []) (rest := []) (c_rec _ Z a0 hw a h0 n0 Z0 ) (ps := []) (by decide +kernel) (by rfl) (by rfl) (by rfl) (by decide +kernel) (by decide) (Nat.le_of_ble_eq_true rfl) (by decide) (by decide) ?_
  intro r1 h2 q3
  obtain ⟨rfl, rfl⟩ := q3
  show WP X n0 (Q_ini Z a w f w0 f0 h0) h0 0 0 4 #[.val ((.ref a)), .val (.long w), .second, .val (.long f), .second] []
  refine wp_run ok hK (B := [(4, .aload_n 0, false), (5, .lload_n 1, false)]) (by decide +kernel) (pc' := 6) (L' := #[.val ((.ref a)), .val (.long w), .second, .val (.long f), .second]) (S' := [.long w, (.ref a)]) rfl trivial ?_
  refine wp_putF ok (wd hw 16 rfl) F_a_whole E_a (Or.inr ⟨(wd hw 17 rfl), rfl, rfl⟩) (wd hw 3 rfl) (ty := .long) (by decide) rfl rfl (by decide +kernel) g_a ?_
  intro h4 W5
  have F6 := F_a_whole.same W5
  have F7 := F_a_fraction.other W5 (Or.inr (slot_ne (C := "com/example/takt/takt/Nanos") (a0 := a0) (Or.inr (wd hw 19 rfl)) (Or.inr (wd hw 17 rfl)) (by decide +kernel) (t := .long) (t' := .long) (by decide +kernel) (by decide +kernel)))
  have E8 := E_a.wr W5
  have Z9 : n0 ≤ h4.size := by rw [W5.size]; exact Z0
  have K10 := K0.wr W5 (Or.inl (by simp))
  refine wp_run ok hK (B := [(9, .aload_n 0, false), (10, .lload_n 3, false)]) (by decide +kernel) (pc' := 11) (L' := #[.val ((.ref a)), .val (.long w), .second, .val (.long f), .second]) (S' := [.long f, (.ref a)]) rfl trivial ?_
  refine wp_putF ok (wd hw 18 rfl) F7 E8 (Or.inr ⟨(wd hw 19 rfl), rfl, rfl⟩) (wd hw 3 rfl) (ty := .long) (by decide) rfl rfl (by decide +kernel) g_a ?_
  intro h11 W12
  have F13 := F6.other W12 (Or.inr (slot_ne (C := "com/example/takt/takt/Nanos") (a0 := a0) (Or.inr (wd hw 17 rfl)) (Or.inr (wd hw 19 rfl)) (by decide +kernel) (t := .long) (t' := .long) (by decide +kernel) (by decide +kernel)))
  have F14 := F7.same W12
  have E15 := E8.wr W12
  have Z16 : n0 ≤ h11.size := by rw [W12.size]; exact Z9
  have K17 := K10.wr W12 (Or.inl (by simp))
  refine wp_retV ok (by decide +kernel) (by decide) (by decide) ?_
  exact ⟨rfl, K17, F13, F14⟩
def k_plus : List (Nat × Value) := []
def Q_plus (Z : State) (a : Addr) (b : Addr) (q : Int64) (w : Int64) (f : Int64) (w2 : Int64) (f2 : Int64) (h0 : Heap) : Post := fun v h => ∃ r : Addr, v = some (.ref r) ∧ Keep h0 h [] ∧ h0.size ≤ r ∧ Exa Z h r "com/example/takt/takt/Nanos" ∧ Fld Z h r "com/example/takt/takt/Nanos" "whole" "J" (.long (if ((f + f2) : Int64) < q then ((w + w2) + (0 : Int64)) else ((w + w2) + (1 : Int64)))) ∧ Fld Z h r "com/example/takt/takt/Nanos" "fraction" "J" (.long (if ((f + f2) : Int64) < q then ((f + f2) - ((0 : Int64) * q)) else ((f + f2) - ((1 : Int64) * q))))
theorem own_plus_1 (q : Int64) (w : Int64) (f : Int64) (w2 : Int64) (f2 : Int64) (s23_0 : Int64) (h_s23_0 : s23_0 = (if (f + f2) < q then (0 : Int64) else (1 : Int64))) (whole48 : Int64) (h_whole48 : whole48 = ((w + w2) + s23_0)) (fraction48 : Int64) (h_fraction48 : fraction48 = ((f + f2) - (s23_0 * q))) : whole48 = (if ((f + f2) : Int64) < q then ((w + w2) + (0 : Int64)) else ((w + w2) + (1 : Int64))) := by
  first | (rw [h_whole48, h_s23_0]; split <;> rfl) | (rw [h_fraction48, h_s23_0]; split <;> rfl)
theorem own_plus_2 (q : Int64) (w : Int64) (f : Int64) (w2 : Int64) (f2 : Int64) (s23_0 : Int64) (h_s23_0 : s23_0 = (if (f + f2) < q then (0 : Int64) else (1 : Int64))) (whole48 : Int64) (h_whole48 : whole48 = ((w + w2) + s23_0)) (fraction48 : Int64) (h_fraction48 : fraction48 = ((f + f2) - (s23_0 * q))) : fraction48 = (if ((f + f2) : Int64) < q then ((f + f2) - ((0 : Int64) * q)) else ((f + f2) - ((1 : Int64) * q))) := by
  first | (rw [h_whole48, h_s23_0]; split <;> rfl) | (rw [h_fraction48, h_s23_0]; split <;> rfl)
theorem pn_plus : plainFor (⟨"com/example/takt/takt/Nanos", "plus", "(Lcom/example/takt/takt/Nanos;J)Lcom/example/takt/takt/Nanos;"⟩ : MethodName) = true := by first | (refine plainFor_of_name ?_; simp [plainName, overriddenIn]; done) | decide +kernel
set_option maxRecDepth 65536 in
set_option maxHeartbeats 40000000 in
theorem c_plus (l : Launch) (Z : State) (a0 : Array Value) (hw : ∀ d ∈ tables_1, d.before a0 Z = true) (a : Addr) (b : Addr) (q : Int64) (w : Int64) (f : Int64) (w2 : Int64) (f2 : Int64) (h0 : Heap) (n0 : Nat) (Z0 : n0 ≤ h0.size) (E_a : Exa Z h0 a "com/example/takt/takt/Nanos") (F_a_whole : Fld Z h0 a "com/example/takt/takt/Nanos" "whole" "J" (.long w)) (F_a_fraction : Fld Z h0 a "com/example/takt/takt/Nanos" "fraction" "J" (.long f)) (g_a : n0 ≤ a) (E_b : Exa Z h0 b "com/example/takt/takt/Nanos") (F_b_whole : Fld Z h0 b "com/example/takt/takt/Nanos" "whole" "J" (.long w2)) (F_b_fraction : Fld Z h0 b "com/example/takt/takt/Nanos" "fraction" "J" (.long f2)) (g_b : n0 ≤ b) :
    Con l Z (⟨"com/example/takt/takt/Nanos", "plus", "(Lcom/example/takt/takt/Nanos;J)Lcom/example/takt/takt/Nanos;"⟩ : MethodName) prog_1_method_4_code 8 (some (.object "com/example/takt/takt/Nanos")) ({ frames := 3, cells := 1, slots := 2, locals := 41 } : Room) #[(.ref a), (.ref b), .long q] h0 n0 (Q_plus Z a b q w f w2 f2 h0) [] := by
  refine con_of_wp pn_plus (L0 := #[.val ((.ref a)), .val ((.ref b)), .val (.long q), .second, .unset, .unset, .unset, .unset]) (fun m => by first | (simp [entryFrame, mkF, argsToLocals, Value.category]; done) | rfl) (fun X hl ok => ?_)
  subst hl
  have hK : Konst Z a0 "com/example/takt/takt/Nanos" k_plus := trivial
  have K0 : Keep h0 h0 [] := Keep.refl _ _
  refine wp_run ok hK (B := [(0, .aload_n 0, false)]) (by decide +kernel) (pc' := 1) (L' := #[.val ((.ref a)), .val ((.ref b)), .val (.long q), .second, .unset, .unset, .unset, .unset]) (S' := [(.ref a)]) rfl trivial ?_
  refine wp_getF ok (wd hw 18 rfl) F_a_fraction (by decide +kernel) ?_
  refine wp_run ok hK (B := [(4, .aload_n 1, false)]) (by decide +kernel) (pc' := 5) (L' := #[.val ((.ref a)), .val ((.ref b)), .val (.long q), .second, .unset, .unset, .unset, .unset]) (S' := [(.ref b), .long f]) rfl trivial ?_
  refine wp_getF ok (wd hw 18 rfl) F_b_fraction (by decide +kernel) ?_
  refine wp_run ok hK (B := [(8, .ladd, false), (9, .lstore 4, false), (11, .lload 4, false), (13, .lload_n 2, false), (14, .lcmp, false)]) (by decide +kernel) (pc' := 15) (L' := #[.val ((.ref a)), .val ((.ref b)), .val (.long q), .second, .val (.long (f + f2)), .second, .unset, .unset]) (S' := [.int (cmpL (f + f2) q)]) rfl trivial ?_
  have J23_2 : ∀ (s23_0 : Int64) (h_s23_0 : s23_0 = (if (f + f2) < q then (0 : Int64) else (1 : Int64))), WP X n0 (Q_plus Z a b q w f w2 f2 h0) h0 0 0 23 #[.val ((.ref a)), .val ((.ref b)), .val (.long q), .second, .val (.long (f + f2)), .second, .unset, .unset] [.long s23_0] := by
    intro s23_0 h_s23_0
    refine wp_run ok hK (B := [(23, .lstore 6, false)]) (by decide +kernel) (pc' := 25) (L' := #[.val ((.ref a)), .val ((.ref b)), .val (.long q), .second, .val (.long (f + f2)), .second, .val (.long s23_0), .second]) (S' := []) rfl trivial ?_
    refine wp_new ok (wd hw 25 rfl) (wd hw 3 rfl) (wd hw 4 rfl) (by decide +kernel) (by decide) (by decide) ?_
    intro h3 a4 ea5 X6 E7 D8
    have E9 := E_a.ext X6
    have F10 := F_a_whole.ext X6
    have F11 := F_a_fraction.ext X6
    have E12 := E_b.ext X6
    have F13 := F_b_whole.ext X6
    have F14 := F_b_fraction.ext X6
    have Z15 : n0 ≤ h3.size := Nat.le_trans Z0 X6.1
    have K16 := K0.ext X6
    have g17 : n0 ≤ a4 := by rw [ea5]; exact Z0
    have g18 : h0.size ≤ a4 := by rw [ea5]; exact K0.1
    have F19 : Fld Z h3 a4 "com/example/takt/takt/Nanos" "whole" "J" (.long (0 : Int64)) := D8 (Or.inr (wd hw 17 rfl)) (ty := .long) (by decide)
    have F20 : Fld Z h3 a4 "com/example/takt/takt/Nanos" "fraction" "J" (.long (0 : Int64)) := D8 (Or.inr (wd hw 19 rfl)) (ty := .long) (by decide)
    refine wp_run ok hK (B := [(28, .dup, false), (29, .aload_n 0, false)]) (by decide +kernel) (pc' := 30) (L' := #[.val ((.ref a)), .val ((.ref b)), .val (.long q), .second, .val (.long (f + f2)), .second, .val (.long s23_0), .second]) (S' := [(.ref a), (.ref a4), (.ref a4)]) rfl trivial ?_
    refine wp_getF ok (wd hw 16 rfl) F10 (by decide +kernel) ?_
    refine wp_run ok hK (B := [(33, .aload_n 1, false)]) (by decide +kernel) (pc' := 34) (L' := #[.val ((.ref a)), .val ((.ref b)), .val (.long q), .second, .val (.long (f + f2)), .second, .val (.long s23_0), .second]) (S' := [(.ref b), .long w, (.ref a4), (.ref a4)]) rfl trivial ?_
    refine wp_getF ok (wd hw 16 rfl) F13 (by decide +kernel) ?_
    refine wp_run ok hK (B := [(37, .ladd, false), (38, .lload 6, false), (40, .ladd, false), (41, .lload 4, false), (43, .lload 6, false), (45, .lload_n 2, false), (46, .lmul, false), (47, .lsub, false)]) (by decide +kernel) (pc' := 48) (L' := #[.val ((.ref a)), .val ((.ref b)), .val (.long q), .second, .val (.long (f + f2)), .second, .val (.long s23_0), .second]) (S' := [.long ((f + f2) - (s23_0 * q)), .long ((w + w2) + s23_0), (.ref a4), (.ref a4)]) rfl trivial ?_
    refine wp_special ok rfl (wd hw 26 rfl) (wd hw 6 rfl) (wd hw 4 rfl) (wd hw 7 rfl) (by decide) (argsL := [.long ((w + w2) + s23_0), .long ((f + f2) - (s23_0 * q))]) (rest := [(.ref a4)]) (c_ini _ Z a0 hw a4 ((w + w2) + s23_0) ((f + f2) - (s23_0 * q)) (0 : Int64) (0 : Int64) h3 n0 Z15 E7 F19 F20 g17) (ps := [.long, .long]) (by decide +kernel) (by rfl) (by rfl) (by rfl) (by decide +kernel) (by decide) (Nat.le_of_ble_eq_true rfl) (by decide) (by decide) ?_
    intro r21 h22 q23
    obtain ⟨rfl, K24, F25, F26⟩ := q23
    have E27 := E9.keep K24
    have F28 := F10.keep K24 (by simp only [List.mem_cons, List.not_mem_nil, or_false, not_or]; exact (ne_new (E_a.lt) ea5))
    have F29 := F11.keep K24 (by simp only [List.mem_cons, List.not_mem_nil, or_false, not_or]; exact (ne_new (E_a.lt) ea5))
    have E30 := E12.keep K24
    have F31 := F13.keep K24 (by simp only [List.mem_cons, List.not_mem_nil, or_false, not_or]; exact (ne_new (E_b.lt) ea5))
    have F32 := F14.keep K24 (by simp only [List.mem_cons, List.not_mem_nil, or_false, not_or]; exact (ne_new (E_b.lt) ea5))
    have E33 := E7.keep K24
    obtain ⟨whole48, h_whole48⟩ : ∃ z : Int64, z = ((w + w2) + s23_0) := ⟨_, rfl⟩
    rw [← h_whole48] at F25
    obtain ⟨fraction48, h_fraction48⟩ : ∃ z : Int64, z = ((f + f2) - (s23_0 * q)) := ⟨_, rfl⟩
    rw [← h_fraction48] at F26
    have Z34 : n0 ≤ h22.size := Nat.le_trans Z15 K24.1
    have K35 := K16.trans K24 (allS (P := fun z => z ∈ [] ∨ h0.size ≤ z) (Or.inr g18) all0)
    show WP X n0 (Q_plus Z a b q w f w2 f2 h0) h22 1 2 51 #[.val ((.ref a)), .val ((.ref b)), .val (.long q), .second, .val (.long (f + f2)), .second, .val (.long s23_0), .second] [(.ref a4)]
    refine wp_retA ok (by rfl) (by rfl) (by decide +kernel) (by decide) (by decide) ?_
    exact ⟨a4, rfl, K35, g18, E33, (Fld_c F25 (congrArg Value.long (own_plus_1 q w f w2 f2 s23_0 h_s23_0 whole48 h_whole48 fraction48 h_fraction48))), (Fld_c F26 (congrArg Value.long (own_plus_2 q w f w2 f2 s23_0 h_s23_0 whole48 h_whole48 fraction48 h_fraction48)))⟩
  by_cases c1 : (f + f2) < q
  · refine wp_run ok hK (B := [(15, .ifCond .lt 7, true), (22, .lconst 0, false)]) (by decide +kernel) (pc' := 23) (L' := #[.val ((.ref a)), .val ((.ref b)), .val (.long q), .second, .val (.long (f + f2)), .second, .unset, .unset]) (S' := [.long (0 : Int64)]) rfl ⟨(XT.ll_lt_t c1), trivial⟩ ?_
    exact J23_2 _ (by rw [if_pos c1])
  · refine wp_run ok hK (B := [(15, .ifCond .lt 7, false), (18, .lconst 1, false), (19, .goto 4, false)]) (by decide +kernel) (pc' := 23) (L' := #[.val ((.ref a)), .val ((.ref b)), .val (.long q), .second, .val (.long (f + f2)), .second, .unset, .unset]) (S' := [.long (1 : Int64)]) rfl ⟨(XT.ll_lt_f c1), trivial⟩ ?_
    exact J23_2 _ (by rw [if_neg c1])
def k_wh : List (Nat × Value) := []
def Q_wh (Z : State) (a : Addr) (w : Int64) (h0 : Heap) : Post := fun v h => v = some (.long w) ∧ h0 = h
theorem pn_wh : plainFor (⟨"com/example/takt/takt/Nanos", "whole", "()J"⟩ : MethodName) = true := by first | (refine plainFor_of_name ?_; simp [plainName, overriddenIn]; done) | decide +kernel
set_option maxRecDepth 65536 in
set_option maxHeartbeats 40000000 in
theorem c_wh (l : Launch) (Z : State) (a0 : Array Value) (hw : ∀ d ∈ tables_1, d.before a0 Z = true) (a : Addr) (w : Int64) (h0 : Heap) (n0 : Nat) (Z0 : n0 ≤ h0.size) (E_a : Exa Z h0 a "com/example/takt/takt/Nanos") (F_a_whole : Fld Z h0 a "com/example/takt/takt/Nanos" "whole" "J" (.long w)) (g_a : n0 ≤ a) :
    Con l Z (⟨"com/example/takt/takt/Nanos", "whole", "()J"⟩ : MethodName) prog_1_method_12_code 1 (some .long) ({ frames := 0, cells := 0, slots := 0, locals := 0 } : Room) #[(.ref a)] h0 n0 (Q_wh Z a w h0) [] := by
  refine con_of_wp pn_wh (L0 := #[.val ((.ref a))]) (fun m => by first | (simp [entryFrame, mkF, argsToLocals, Value.category]; done) | rfl) (fun X hl ok => ?_)
  subst hl
  have hK : Konst Z a0 "com/example/takt/takt/Nanos" k_wh := trivial
  refine wp_run ok hK (B := [(0, .aload_n 0, false)]) (by decide +kernel) (pc' := 1) (L' := #[.val ((.ref a))]) (S' := [(.ref a)]) rfl trivial ?_
  refine wp_getF ok (wd hw 16 rfl) F_a_whole (by decide +kernel) ?_
  refine wp_retJ ok (by decide +kernel) (by decide) (by decide) ?_
  exact ⟨rfl, rfl⟩
def k_fr : List (Nat × Value) := []
def Q_fr (Z : State) (a : Addr) (f : Int64) (h0 : Heap) : Post := fun v h => v = some (.long f) ∧ h0 = h
theorem pn_fr : plainFor (⟨"com/example/takt/takt/Nanos", "fraction", "()J"⟩ : MethodName) = true := by first | (refine plainFor_of_name ?_; simp [plainName, overriddenIn]; done) | decide +kernel
set_option maxRecDepth 65536 in
set_option maxHeartbeats 40000000 in
theorem c_fr (l : Launch) (Z : State) (a0 : Array Value) (hw : ∀ d ∈ tables_1, d.before a0 Z = true) (a : Addr) (f : Int64) (h0 : Heap) (n0 : Nat) (Z0 : n0 ≤ h0.size) (E_a : Exa Z h0 a "com/example/takt/takt/Nanos") (F_a_fraction : Fld Z h0 a "com/example/takt/takt/Nanos" "fraction" "J" (.long f)) (g_a : n0 ≤ a) :
    Con l Z (⟨"com/example/takt/takt/Nanos", "fraction", "()J"⟩ : MethodName) prog_1_method_13_code 1 (some .long) ({ frames := 0, cells := 0, slots := 0, locals := 0 } : Room) #[(.ref a)] h0 n0 (Q_fr Z a f h0) [] := by
  refine con_of_wp pn_fr (L0 := #[.val ((.ref a))]) (fun m => by first | (simp [entryFrame, mkF, argsToLocals, Value.category]; done) | rfl) (fun X hl ok => ?_)
  subst hl
  have hK : Konst Z a0 "com/example/takt/takt/Nanos" k_fr := trivial
  refine wp_run ok hK (B := [(0, .aload_n 0, false)]) (by decide +kernel) (pc' := 1) (L' := #[.val ((.ref a))]) (S' := [(.ref a)]) rfl trivial ?_
  refine wp_getF ok (wd hw 18 rfl) F_a_fraction (by decide +kernel) ?_
  refine wp_retJ ok (by decide +kernel) (by decide) (by decide) ?_
  exact ⟨rfl, rfl⟩
def k_law : List (Nat × Value) := [(9, .long (9223372036854775807 : Int64)), (11, .long (1000000000000000 : Int64))]
def QL : Post := fun v _ => v = some (.int 1)
theorem own_law_1 (wa : Int64) (fa : Int64) (wb : Int64) (fb : Int64) (qr : Int64) (q : Int64) (h_q : q = (((qr &&& (9223372036854775807 : Int64)) % (1000000000000000 : Int64)) + (1 : Int64))) : q ≠ 0 := by
  have e1 := c_maskL qr 9223372036854775807 63 (by decide) (by decide)
  have e2 := (c_lmod (qr &&& 9223372036854775807) 1000000000000000 1000000000000000 rfl).1 (by rw [e1]; omega)
  have o1 : (1 : Int64).toInt = 1 := rfl
  have q1 : q.toInt = (qr &&& 9223372036854775807).toInt % 1000000000000000 + 1 := by
    rw [h_q, x_ladd (by rw [e2, o1]; omega) (by rw [e2, o1]; omega), e2, o1]
  intro z; rw [z] at q1; simp only [Int64.reduceToInt] at q1; omega
theorem own_law_2 (wa : Int64) (fa : Int64) (wb : Int64) (fb : Int64) (qr : Int64) (q : Int64) (h_q : q = (((qr &&& (9223372036854775807 : Int64)) % (1000000000000000 : Int64)) + (1 : Int64))) (fx : Int64) (h_fx : fx = ((fa &&& (9223372036854775807 : Int64)) % q)) : q ≠ 0 := by
  have e1 := c_maskL qr 9223372036854775807 63 (by decide) (by decide)
  have e2 := (c_lmod (qr &&& 9223372036854775807) 1000000000000000 1000000000000000 rfl).1 (by rw [e1]; omega)
  have o1 : (1 : Int64).toInt = 1 := rfl
  have q1 : q.toInt = (qr &&& 9223372036854775807).toInt % 1000000000000000 + 1 := by
    rw [h_q, x_ladd (by rw [e2, o1]; omega) (by rw [e2, o1]; omega), e2, o1]
  intro z; rw [z] at q1; simp only [Int64.reduceToInt] at q1; omega
theorem own_law_3 (wa : Int64) (fa : Int64) (wb : Int64) (fb : Int64) (qr : Int64) (q : Int64) (h_q : q = (((qr &&& (9223372036854775807 : Int64)) % (1000000000000000 : Int64)) + (1 : Int64))) (fx : Int64) (h_fx : fx = ((fa &&& (9223372036854775807 : Int64)) % q)) (fy : Int64) (h_fy : fy = ((fb &&& (9223372036854775807 : Int64)) % q)) (whole58 : Int64) (h_whole58 : whole58 = (if ((fx + fy) : Int64) < q then ((wa + wb) + (0 : Int64)) else ((wa + wb) + (1 : Int64)))) (fraction58 : Int64) (h_fraction58 : fraction58 = (if ((fx + fy) : Int64) < q then ((fx + fy) - ((0 : Int64) * q)) else ((fx + fy) - ((1 : Int64) * q)))) (s79_0 : Int32) (h_s79_0 : s79_0 = (if fx < (q - fy) then (0 : Int32) else (1 : Int32))) (s99_0 : Int64) (h_s99_0 : s99_0 = (if s79_0 = (0 : Int32) then (wa + wb) else ((wa + wb) + (1 : Int64)))) (s122_0 : Int64) (h_s122_0 : s122_0 = (if s79_0 = (0 : Int32) then (fx + fy) else (fx - (q - fy)))) (s174_0 : Int32) (h_s174_0 : s174_0 = (if whole58 = s99_0 then (if fraction58 = s122_0 then (if fraction58 < (0 : Int64) then (0 : Int32) else (if fraction58 < q then (1 : Int32) else (0 : Int32))) else (0 : Int32)) else (0 : Int32))) : nar .boolean s174_0 = 1 := by
  have e1 := c_maskL qr 9223372036854775807 63 (by decide) (by decide)
  have e2 := (c_lmod (qr &&& 9223372036854775807) 1000000000000000 1000000000000000 rfl).1 (by rw [e1]; omega)
  have o1 : (1 : Int64).toInt = 1 := rfl
  have q1 : q.toInt = (qr &&& 9223372036854775807).toInt % 1000000000000000 + 1 := by
    rw [h_q, x_ladd (by rw [e2, o1]; omega) (by rw [e2, o1]; omega), e2, o1]
  
  have m1 := c_maskL fa 9223372036854775807 63 (by decide) (by decide)
  have m2 := c_maskL fb 9223372036854775807 63 (by decide) (by decide)
  have r1 := (c_lmod (fa &&& 9223372036854775807) q q.toInt rfl).1 (by rw [m1]; omega)
  have r2 := (c_lmod (fb &&& 9223372036854775807) q q.toInt rfl).1 (by rw [m2]; omega)
  rw [← h_fx] at r1
  rw [← h_fy] at r2
  have q2 : 1 ≤ q.toInt := by omega
  have q3 : q.toInt ≤ 1000000000000000 := by omega
  have x1 : 0 ≤ fx.toInt := by rw [r1]; exact Int.emod_nonneg _ (by omega)
  have x2 : fx.toInt < q.toInt := by rw [r1]; exact Int.emod_lt_of_pos _ (by omega)
  have y1 : 0 ≤ fy.toInt := by rw [r2]; exact Int.emod_nonneg _ (by omega)
  have y2 : fy.toInt < q.toInt := by rw [r2]; exact Int.emod_lt_of_pos _ (by omega)
  clear r1 r2 m1 m2 q1 e1 e2 h_fx h_fy h_q
  have d1 : (fx + fy).toInt = fx.toInt + fy.toInt := x_ladd (by omega) (by omega)
  have d2 : (q - fy).toInt = q.toInt - fy.toInt := x_lsub (by omega) (by omega)
  have o0 : (0 : Int64).toInt = 0 := rfl
  have w0 : wa + wb + 0 = wa + wb := Int64.add_zero _
  have z1 : (0 : Int64) * q = 0 := Int64.zero_mul
  have z2 : (1 : Int64) * q = q := Int64.one_mul _
  rw [w0] at h_whole58
  rw [z1, z2] at h_fraction58
  by_cases cc : (fx + fy) < q
  · have c1 : fx < q - fy := by rw [Int64.lt_iff_toInt_lt] at cc ⊢; omega
    rw [if_pos cc] at h_whole58 h_fraction58
    rw [if_pos c1] at h_s79_0
    rw [h_s79_0, if_pos rfl] at h_s99_0 h_s122_0
    have f1 : fraction58 = fx + fy := by rw [h_fraction58]; exact Int64.sub_zero _
    have n1 : ¬ fraction58 < 0 := by rw [f1, Int64.lt_iff_toInt_lt, d1, o0]; omega
    have n2 : fraction58 < q := by rw [f1]; exact cc
    rw [h_s174_0, if_pos (h_whole58.trans h_s99_0.symm), if_pos (f1.trans h_s122_0.symm), if_neg n1, if_pos n2]; rfl
  · have c1 : ¬ fx < q - fy := by rw [Int64.lt_iff_toInt_lt] at cc ⊢; omega
    rw [if_neg cc] at h_whole58 h_fraction58
    rw [if_neg c1] at h_s79_0
    rw [h_s79_0, if_neg (by decide)] at h_s99_0 h_s122_0
    rw [Int64.lt_iff_toInt_lt, d1] at cc
    have d3 : (fx + fy - q).toInt = fx.toInt + fy.toInt - q.toInt := by rw [x_lsub (by rw [d1]; omega) (by rw [d1]; omega), d1]
    have d4 : (fx - (q - fy)).toInt = fx.toInt - (q.toInt - fy.toInt) := by rw [x_lsub (by rw [d2]; omega) (by rw [d2]; omega), d2]
    have f1 : fraction58 = s122_0 := by rw [h_fraction58, h_s122_0, ← Int64.toInt_inj, d3, d4]; omega
    have n1 : ¬ fraction58 < 0 := by rw [h_fraction58, Int64.lt_iff_toInt_lt, d3, o0]; omega
    have n2 : fraction58 < q := by rw [h_fraction58, Int64.lt_iff_toInt_lt, d3]; omega
    rw [h_s174_0, if_pos (h_whole58.trans h_s99_0.symm), if_pos f1, if_neg n1, if_pos n2]; rfl
theorem pn_law : plainFor x = true := by first | (refine plainFor_of_name ?_; show plainName "com/example/takt/takt/NanosPlusPinLaw" = true; simp [plainName, overriddenIn]; done) | decide +kernel
set_option maxRecDepth 65536 in
set_option maxHeartbeats 40000000 in
theorem c_law (l : Launch) (Z : State) (a0 : Array Value) (hw : ∀ d ∈ tables_1, d.before a0 Z = true) (wa : Int64) (fa : Int64) (wb : Int64) (fb : Int64) (qr : Int64) (h0 : Heap) (n0 : Nat) (Z0 : n0 ≤ h0.size) :
    Con l Z x code maxLocals ret room_1 #[.long wa, .long fa, .long wb, .long fb, .long qr] h0 n0 QL tables_1 := by
  refine con_of_wp pn_law (L0 := #[.val (.long wa), .second, .val (.long fa), .second, .val (.long wb), .second, .val (.long fb), .second, .val (.long qr), .second, .unset, .unset, .unset, .unset, .unset, .unset, .unset, .unset, .unset, .unset, .unset, .unset, .unset, .unset, .unset, .unset]) (fun m => by first | (simp [entryFrame, mkF, argsToLocals, Value.category, maxLocals]; done) | rfl) (fun X hl ok => ?_)
  subst hl
  have hK : Konst Z a0 "com/example/takt/takt/NanosPlusPinLaw" k_law := ⟨Or.inr ⟨_, rfl, wd hw 0 rfl⟩, ⟨Or.inr ⟨_, rfl, wd hw 1 rfl⟩, trivial⟩⟩
  refine wp_run ok hK (B := [(0, .lload 8, false), (2, .ldc2_w 9, false), (5, .land, false), (6, .ldc2_w 11, false), (9, .lrem, false), (10, .lconst 1, false), (11, .ladd, false), (12, .lstore 10, false)]) (by decide +kernel) (pc' := 14) (L' := #[.val (.long wa), .second, .val (.long fa), .second, .val (.long wb), .second, .val (.long fb), .second, .val (.long qr), .second, .val (.long (((qr &&& (9223372036854775807 : Int64)) % (1000000000000000 : Int64)) + (1 : Int64))), .second, .unset, .unset, .unset, .unset, .unset, .unset, .unset, .unset, .unset, .unset, .unset, .unset, .unset, .unset]) (S' := []) rfl ⟨(by decide), trivial⟩ ?_
  obtain ⟨q, h_q⟩ : ∃ z : Int64, z = (((qr &&& (9223372036854775807 : Int64)) % (1000000000000000 : Int64)) + (1 : Int64)) := ⟨_, rfl⟩
  rw [← h_q]
  refine wp_run ok hK (B := [(14, .lload_n 2, false), (15, .ldc2_w 9, false), (18, .land, false), (19, .lload 10, false), (21, .lrem, false), (22, .lstore 12, false)]) (by decide +kernel) (pc' := 24) (L' := #[.val (.long wa), .second, .val (.long fa), .second, .val (.long wb), .second, .val (.long fb), .second, .val (.long qr), .second, .val (.long q), .second, .val (.long ((fa &&& (9223372036854775807 : Int64)) % q)), .second, .unset, .unset, .unset, .unset, .unset, .unset, .unset, .unset, .unset, .unset, .unset, .unset]) (S' := []) rfl ⟨(own_law_1 wa fa wb fb qr q h_q), trivial⟩ ?_
  obtain ⟨fx, h_fx⟩ : ∃ z : Int64, z = ((fa &&& (9223372036854775807 : Int64)) % q) := ⟨_, rfl⟩
  rw [← h_fx]
  refine wp_run ok hK (B := [(24, .lload 6, false), (26, .ldc2_w 9, false), (29, .land, false), (30, .lload 10, false), (32, .lrem, false), (33, .lstore 14, false)]) (by decide +kernel) (pc' := 35) (L' := #[.val (.long wa), .second, .val (.long fa), .second, .val (.long wb), .second, .val (.long fb), .second, .val (.long qr), .second, .val (.long q), .second, .val (.long fx), .second, .val (.long ((fb &&& (9223372036854775807 : Int64)) % q)), .second, .unset, .unset, .unset, .unset, .unset, .unset, .unset, .unset, .unset, .unset]) (S' := []) rfl ⟨(own_law_2 wa fa wb fb qr q h_q fx h_fx), trivial⟩ ?_
  obtain ⟨fy, h_fy⟩ : ∃ z : Int64, z = ((fb &&& (9223372036854775807 : Int64)) % q) := ⟨_, rfl⟩
  rw [← h_fy]
  refine wp_new ok (wd hw 2 rfl) (wd hw 3 rfl) (wd hw 4 rfl) (by decide +kernel) (by decide) (by decide) ?_
  intro h1 a2 ea3 X4 E5 D6
  have Z7 : n0 ≤ h1.size := Nat.le_trans Z0 X4.1
  have g8 : n0 ≤ a2 := by rw [ea3]; exact Z0
  have F9 : Fld Z h1 a2 "com/example/takt/takt/Nanos" "whole" "J" (.long (0 : Int64)) := D6 (Or.inr (wd hw 17 rfl)) (ty := .long) (by decide)
  have F10 : Fld Z h1 a2 "com/example/takt/takt/Nanos" "fraction" "J" (.long (0 : Int64)) := D6 (Or.inr (wd hw 19 rfl)) (ty := .long) (by decide)
  refine wp_run ok hK (B := [(38, .dup, false), (39, .lload_n 0, false), (40, .lload 12, false)]) (by decide +kernel) (pc' := 42) (L' := #[.val (.long wa), .second, .val (.long fa), .second, .val (.long wb), .second, .val (.long fb), .second, .val (.long qr), .second, .val (.long q), .second, .val (.long fx), .second, .val (.long fy), .second, .unset, .unset, .unset, .unset, .unset, .unset, .unset, .unset, .unset, .unset]) (S' := [.long fx, .long wa, (.ref a2), (.ref a2)]) rfl trivial ?_
  refine wp_special ok rfl (wd hw 5 rfl) (wd hw 6 rfl) (wd hw 4 rfl) (wd hw 7 rfl) (by decide) (argsL := [.long wa, .long fx]) (rest := [(.ref a2)]) (c_ini _ Z a0 hw a2 wa fx (0 : Int64) (0 : Int64) h1 n0 Z7 E5 F9 F10 g8) (ps := [.long, .long]) (by decide +kernel) (by rfl) (by rfl) (by rfl) (by decide +kernel) (by decide) (Nat.le_of_ble_eq_true rfl) (by decide) (by decide) ?_
  intro r11 h12 q13
  obtain ⟨rfl, K14, F15, F16⟩ := q13
  have E17 := E5.keep K14
  have Z18 : n0 ≤ h12.size := Nat.le_trans Z7 K14.1
  show WP X n0 QL h12 1 2 45 #[.val (.long wa), .second, .val (.long fa), .second, .val (.long wb), .second, .val (.long fb), .second, .val (.long qr), .second, .val (.long q), .second, .val (.long fx), .second, .val (.long fy), .second, .unset, .unset, .unset, .unset, .unset, .unset, .unset, .unset, .unset, .unset] [(.ref a2)]
  refine wp_new ok (wd hw 2 rfl) (wd hw 3 rfl) (wd hw 4 rfl) (by decide +kernel) (by decide) (by decide) ?_
  intro h19 a20 ea21 X22 E23 D24
  have E25 := E17.ext X22
  have F26 := F15.ext X22
  have F27 := F16.ext X22
  have Z28 : n0 ≤ h19.size := Nat.le_trans Z18 X22.1
  have g29 : n0 ≤ a20 := by rw [ea21]; exact Z18
  have F30 : Fld Z h19 a20 "com/example/takt/takt/Nanos" "whole" "J" (.long (0 : Int64)) := D24 (Or.inr (wd hw 17 rfl)) (ty := .long) (by decide)
  have F31 : Fld Z h19 a20 "com/example/takt/takt/Nanos" "fraction" "J" (.long (0 : Int64)) := D24 (Or.inr (wd hw 19 rfl)) (ty := .long) (by decide)
  refine wp_run ok hK (B := [(48, .dup, false), (49, .lload 4, false), (51, .lload 14, false)]) (by decide +kernel) (pc' := 53) (L' := #[.val (.long wa), .second, .val (.long fa), .second, .val (.long wb), .second, .val (.long fb), .second, .val (.long qr), .second, .val (.long q), .second, .val (.long fx), .second, .val (.long fy), .second, .unset, .unset, .unset, .unset, .unset, .unset, .unset, .unset, .unset, .unset]) (S' := [.long fy, .long wb, (.ref a20), (.ref a20), (.ref a2)]) rfl trivial ?_
  refine wp_special ok rfl (wd hw 5 rfl) (wd hw 6 rfl) (wd hw 4 rfl) (wd hw 7 rfl) (by decide) (argsL := [.long wb, .long fy]) (rest := [(.ref a20), (.ref a2)]) (c_ini _ Z a0 hw a20 wb fy (0 : Int64) (0 : Int64) h19 n0 Z28 E23 F30 F31 g29) (ps := [.long, .long]) (by decide +kernel) (by rfl) (by rfl) (by rfl) (by decide +kernel) (by decide) (Nat.le_of_ble_eq_true rfl) (by decide) (by decide) ?_
  intro r32 h33 q34
  obtain ⟨rfl, K35, F36, F37⟩ := q34
  have E38 := E25.keep K35
  have F39 := F26.keep K35 (by simp only [List.mem_cons, List.not_mem_nil, or_false, not_or]; exact (ne_new (E17.lt) ea21))
  have F40 := F27.keep K35 (by simp only [List.mem_cons, List.not_mem_nil, or_false, not_or]; exact (ne_new (E17.lt) ea21))
  have E41 := E23.keep K35
  have Z42 : n0 ≤ h33.size := Nat.le_trans Z28 K35.1
  show WP X n0 QL h33 2 4 56 #[.val (.long wa), .second, .val (.long fa), .second, .val (.long wb), .second, .val (.long fb), .second, .val (.long qr), .second, .val (.long q), .second, .val (.long fx), .second, .val (.long fy), .second, .unset, .unset, .unset, .unset, .unset, .unset, .unset, .unset, .unset, .unset] [(.ref a20), (.ref a2)]
  refine wp_run ok hK (B := [(56, .lload 10, false)]) (by decide +kernel) (pc' := 58) (L' := #[.val (.long wa), .second, .val (.long fa), .second, .val (.long wb), .second, .val (.long fb), .second, .val (.long qr), .second, .val (.long q), .second, .val (.long fx), .second, .val (.long fy), .second, .unset, .unset, .unset, .unset, .unset, .unset, .unset, .unset, .unset, .unset]) (S' := [.long q, (.ref a20), (.ref a2)]) rfl trivial ?_
  refine wp_virtual ok (wd hw 20 rfl) (wd hw 21 rfl) (wd hw 23 rfl) (wd hw 22 rfl) (wd hw 4 rfl) (wd hw 24 rfl) (by decide) (argsL := [(.ref a20), .long q]) (rest := []) E38 (c_plus _ Z a0 hw a2 a20 q wa fx wb fy h33 n0 Z42 E38 F39 F40 g8 E41 F36 F37 g29) (ps := [(.object "com/example/takt/takt/Nanos"), .long]) (by decide +kernel) (by rfl) (by rfl) (by rfl) (by decide +kernel) (by decide) (Nat.le_of_ble_eq_true rfl) (by decide) (by decide) ?_
  intro r49 h50 q51
  obtain ⟨a43, rfl, K44, g45, E46, F47, F48⟩ := q51
  have E52 := E38.keep K44
  have F53 := F39.keep K44 (by simp only [List.mem_cons, List.not_mem_nil, or_false, not_or]; exact not_false)
  have F54 := F40.keep K44 (by simp only [List.mem_cons, List.not_mem_nil, or_false, not_or]; exact not_false)
  have E55 := E41.keep K44
  have F56 := F36.keep K44 (by simp only [List.mem_cons, List.not_mem_nil, or_false, not_or]; exact not_false)
  have F57 := F37.keep K44 (by simp only [List.mem_cons, List.not_mem_nil, or_false, not_or]; exact not_false)
  have Z58 : n0 ≤ h50.size := Nat.le_trans Z42 K44.1
  have g59 : n0 ≤ a43 := Nat.le_trans Z42 g45
  obtain ⟨whole58, h_whole58⟩ : ∃ z : Int64, z = (if ((fx + fy) : Int64) < q then ((wa + wb) + (0 : Int64)) else ((wa + wb) + (1 : Int64))) := ⟨_, rfl⟩
  rw [← h_whole58] at F47
  obtain ⟨fraction58, h_fraction58⟩ : ∃ z : Int64, z = (if ((fx + fy) : Int64) < q then ((fx + fy) - ((0 : Int64) * q)) else ((fx + fy) - ((1 : Int64) * q))) := ⟨_, rfl⟩
  rw [← h_fraction58] at F48
  show WP X n0 QL h50 3 6 61 #[.val (.long wa), .second, .val (.long fa), .second, .val (.long wb), .second, .val (.long fb), .second, .val (.long qr), .second, .val (.long q), .second, .val (.long fx), .second, .val (.long fy), .second, .unset, .unset, .unset, .unset, .unset, .unset, .unset, .unset, .unset, .unset] [(.ref a43)]
  refine wp_run ok hK (B := [(61, .astore 16, false), (63, .lload 12, false), (65, .lload 10, false), (67, .lload 14, false), (69, .lsub, false), (70, .lcmp, false)]) (by decide +kernel) (pc' := 71) (L' := #[.val (.long wa), .second, .val (.long fa), .second, .val (.long wb), .second, .val (.long fb), .second, .val (.long qr), .second, .val (.long q), .second, .val (.long fx), .second, .val (.long fy), .second, .val ((.ref a43)), .unset, .unset, .unset, .unset, .unset, .unset, .unset, .unset, .unset]) (S' := [.int (cmpL fx (q - fy))]) rfl trivial ?_
  have J79_61 : ∀ (s79_0 : Int32) (h_s79_0 : s79_0 = (if fx < (q - fy) then (0 : Int32) else (1 : Int32))), WP X n0 QL h50 3 6 79 #[.val (.long wa), .second, .val (.long fa), .second, .val (.long wb), .second, .val (.long fb), .second, .val (.long qr), .second, .val (.long q), .second, .val (.long fx), .second, .val (.long fy), .second, .val ((.ref a43)), .unset, .unset, .unset, .unset, .unset, .unset, .unset, .unset, .unset] [.int s79_0] := by
    intro s79_0 h_s79_0
    refine wp_run ok hK (B := [(79, .istore 17, false), (81, .iload 17, false)]) (by decide +kernel) (pc' := 83) (L' := #[.val (.long wa), .second, .val (.long fa), .second, .val (.long wb), .second, .val (.long fb), .second, .val (.long qr), .second, .val (.long q), .second, .val (.long fx), .second, .val (.long fy), .second, .val ((.ref a43)), .val (.int s79_0), .unset, .unset, .unset, .unset, .unset, .unset, .unset, .unset]) (S' := [.int s79_0]) rfl trivial ?_
    have J99_63 : ∀ (s99_0 : Int64) (h_s99_0 : s99_0 = (if s79_0 = (0 : Int32) then (wa + wb) else ((wa + wb) + (1 : Int64)))), WP X n0 QL h50 3 6 99 #[.val (.long wa), .second, .val (.long fa), .second, .val (.long wb), .second, .val (.long fb), .second, .val (.long qr), .second, .val (.long q), .second, .val (.long fx), .second, .val (.long fy), .second, .val ((.ref a43)), .val (.int s79_0), .unset, .unset, .unset, .unset, .unset, .unset, .unset, .unset] [.long s99_0] := by
      intro s99_0 h_s99_0
      refine wp_run ok hK (B := [(99, .lstore 18, false), (101, .iload 17, false)]) (by decide +kernel) (pc' := 103) (L' := #[.val (.long wa), .second, .val (.long fa), .second, .val (.long wb), .second, .val (.long fb), .second, .val (.long qr), .second, .val (.long q), .second, .val (.long fx), .second, .val (.long fy), .second, .val ((.ref a43)), .val (.int s79_0), .val (.long s99_0), .second, .unset, .unset, .unset, .unset, .unset, .unset]) (S' := [.int s79_0]) rfl trivial ?_
      have J122_65 : ∀ (s122_0 : Int64) (h_s122_0 : s122_0 = (if s79_0 = (0 : Int32) then (fx + fy) else (fx - (q - fy)))), WP X n0 QL h50 3 6 122 #[.val (.long wa), .second, .val (.long fa), .second, .val (.long wb), .second, .val (.long fb), .second, .val (.long qr), .second, .val (.long q), .second, .val (.long fx), .second, .val (.long fy), .second, .val ((.ref a43)), .val (.int s79_0), .val (.long s99_0), .second, .unset, .unset, .unset, .unset, .unset, .unset] [.long s122_0] := by
        intro s122_0 h_s122_0
        refine wp_run ok hK (B := [(122, .lstore 20, false), (124, .aload 16, false)]) (by decide +kernel) (pc' := 126) (L' := #[.val (.long wa), .second, .val (.long fa), .second, .val (.long wb), .second, .val (.long fb), .second, .val (.long qr), .second, .val (.long q), .second, .val (.long fx), .second, .val (.long fy), .second, .val ((.ref a43)), .val (.int s79_0), .val (.long s99_0), .second, .val (.long s122_0), .second, .unset, .unset, .unset, .unset]) (S' := [(.ref a43)]) rfl trivial ?_
        refine wp_virtual ok (wd hw 27 rfl) (wd hw 28 rfl) (wd hw 30 rfl) (wd hw 29 rfl) (wd hw 4 rfl) (wd hw 31 rfl) (by decide) (argsL := []) (rest := []) E46 (c_wh _ Z a0 hw a43 whole58 h50 n0 Z58 E46 F47 g59) (ps := []) (by decide +kernel) (by rfl) (by rfl) (by rfl) (by decide +kernel) (by decide) (Nat.le_of_ble_eq_true rfl) (by decide) (by decide) ?_
        intro r66 h67 q68
        obtain ⟨rfl, rfl⟩ := q68
        show WP X n0 QL h50 3 6 129 #[.val (.long wa), .second, .val (.long fa), .second, .val (.long wb), .second, .val (.long fb), .second, .val (.long qr), .second, .val (.long q), .second, .val (.long fx), .second, .val (.long fy), .second, .val ((.ref a43)), .val (.int s79_0), .val (.long s99_0), .second, .val (.long s122_0), .second, .unset, .unset, .unset, .unset] [.long whole58]
        refine wp_run ok hK (B := [(129, .lstore 22, false), (131, .aload 16, false)]) (by decide +kernel) (pc' := 133) (L' := #[.val (.long wa), .second, .val (.long fa), .second, .val (.long wb), .second, .val (.long fb), .second, .val (.long qr), .second, .val (.long q), .second, .val (.long fx), .second, .val (.long fy), .second, .val ((.ref a43)), .val (.int s79_0), .val (.long s99_0), .second, .val (.long s122_0), .second, .val (.long whole58), .second, .unset, .unset]) (S' := [(.ref a43)]) rfl trivial ?_
        refine wp_virtual ok (wd hw 32 rfl) (wd hw 33 rfl) (wd hw 35 rfl) (wd hw 34 rfl) (wd hw 4 rfl) (wd hw 36 rfl) (by decide) (argsL := []) (rest := []) E46 (c_fr _ Z a0 hw a43 fraction58 h50 n0 Z58 E46 F48 g59) (ps := []) (by decide +kernel) (by rfl) (by rfl) (by rfl) (by decide +kernel) (by decide) (Nat.le_of_ble_eq_true rfl) (by decide) (by decide) ?_
        intro r69 h70 q71
        obtain ⟨rfl, rfl⟩ := q71
        show WP X n0 QL h50 3 6 136 #[.val (.long wa), .second, .val (.long fa), .second, .val (.long wb), .second, .val (.long fb), .second, .val (.long qr), .second, .val (.long q), .second, .val (.long fx), .second, .val (.long fy), .second, .val ((.ref a43)), .val (.int s79_0), .val (.long s99_0), .second, .val (.long s122_0), .second, .val (.long whole58), .second, .unset, .unset] [.long fraction58]
        refine wp_run ok hK (B := [(136, .lstore 24, false), (138, .lload 22, false), (140, .lload 18, false), (142, .lcmp, false)]) (by decide +kernel) (pc' := 143) (L' := #[.val (.long wa), .second, .val (.long fa), .second, .val (.long wb), .second, .val (.long fb), .second, .val (.long qr), .second, .val (.long q), .second, .val (.long fx), .second, .val (.long fy), .second, .val ((.ref a43)), .val (.int s79_0), .val (.long s99_0), .second, .val (.long s122_0), .second, .val (.long whole58), .second, .val (.long fraction58), .second]) (S' := [.int (cmpL whole58 s99_0)]) rfl trivial ?_
        have J174_76 : ∀ (s174_0 : Int32) (h_s174_0 : s174_0 = (if whole58 = s99_0 then (if fraction58 = s122_0 then (if fraction58 < (0 : Int64) then (0 : Int32) else (if fraction58 < q then (1 : Int32) else (0 : Int32))) else (0 : Int32)) else (0 : Int32))), WP X n0 QL h50 3 6 174 #[.val (.long wa), .second, .val (.long fa), .second, .val (.long wb), .second, .val (.long fb), .second, .val (.long qr), .second, .val (.long q), .second, .val (.long fx), .second, .val (.long fy), .second, .val ((.ref a43)), .val (.int s79_0), .val (.long s99_0), .second, .val (.long s122_0), .second, .val (.long whole58), .second, .val (.long fraction58), .second] [.int s174_0] := by
          intro s174_0 h_s174_0
          refine wp_retZ ok (t := .boolean) (by simp) (by decide +kernel) (by decide) (by decide) ?_
          exact congrArg (fun z => some (Value.int z)) (own_law_3 wa fa wb fb qr q h_q fx h_fx fy h_fy whole58 h_whole58 fraction58 h_fraction58 s79_0 h_s79_0 s99_0 h_s99_0 s122_0 h_s122_0 s174_0 h_s174_0)
        by_cases c72 : whole58 = s99_0
        · by_cases c73 : fraction58 = s122_0
          · by_cases c74 : fraction58 < (0 : Int64)
            · refine wp_run ok hK (B := [(143, .ifCond .ne 30, false), (146, .lload 24, false), (148, .lload 20, false), (150, .lcmp, false), (151, .ifCond .ne 22, false), (154, .lload 24, false), (156, .lconst 0, false), (157, .lcmp, false), (158, .ifCond .lt 15, true), (173, .iconst 0, false)]) (by decide +kernel) (pc' := 174) (L' := #[.val (.long wa), .second, .val (.long fa), .second, .val (.long wb), .second, .val (.long fb), .second, .val (.long qr), .second, .val (.long q), .second, .val (.long fx), .second, .val (.long fy), .second, .val ((.ref a43)), .val (.int s79_0), .val (.long s99_0), .second, .val (.long s122_0), .second, .val (.long whole58), .second, .val (.long fraction58), .second]) (S' := [.int (0 : Int32)]) rfl ⟨(XT.ll_ne_f c72), (XT.ll_ne_f c73), (XT.ll_lt_t c74), trivial⟩ ?_
              exact J174_76 _ (by rw [if_pos c72, if_pos c73, if_pos c74])
            · by_cases c75 : fraction58 < q
              · refine wp_run ok hK (B := [(143, .ifCond .ne 30, false), (146, .lload 24, false), (148, .lload 20, false), (150, .lcmp, false), (151, .ifCond .ne 22, false), (154, .lload 24, false), (156, .lconst 0, false), (157, .lcmp, false), (158, .ifCond .lt 15, false), (161, .lload 24, false), (163, .lload 10, false), (165, .lcmp, false), (166, .ifCond .ge 7, false), (169, .iconst 1, false), (170, .goto 4, false)]) (by decide +kernel) (pc' := 174) (L' := #[.val (.long wa), .second, .val (.long fa), .second, .val (.long wb), .second, .val (.long fb), .second, .val (.long qr), .second, .val (.long q), .second, .val (.long fx), .second, .val (.long fy), .second, .val ((.ref a43)), .val (.int s79_0), .val (.long s99_0), .second, .val (.long s122_0), .second, .val (.long whole58), .second, .val (.long fraction58), .second]) (S' := [.int (1 : Int32)]) rfl ⟨(XT.ll_ne_f c72), (XT.ll_ne_f c73), (XT.ll_lt_f c74), (XT.ll_ge_f c75), trivial⟩ ?_
                exact J174_76 _ (by rw [if_pos c72, if_pos c73, if_neg c74, if_pos c75])
              · refine wp_run ok hK (B := [(143, .ifCond .ne 30, false), (146, .lload 24, false), (148, .lload 20, false), (150, .lcmp, false), (151, .ifCond .ne 22, false), (154, .lload 24, false), (156, .lconst 0, false), (157, .lcmp, false), (158, .ifCond .lt 15, false), (161, .lload 24, false), (163, .lload 10, false), (165, .lcmp, false), (166, .ifCond .ge 7, true), (173, .iconst 0, false)]) (by decide +kernel) (pc' := 174) (L' := #[.val (.long wa), .second, .val (.long fa), .second, .val (.long wb), .second, .val (.long fb), .second, .val (.long qr), .second, .val (.long q), .second, .val (.long fx), .second, .val (.long fy), .second, .val ((.ref a43)), .val (.int s79_0), .val (.long s99_0), .second, .val (.long s122_0), .second, .val (.long whole58), .second, .val (.long fraction58), .second]) (S' := [.int (0 : Int32)]) rfl ⟨(XT.ll_ne_f c72), (XT.ll_ne_f c73), (XT.ll_lt_f c74), (XT.ll_ge_t c75), trivial⟩ ?_
                exact J174_76 _ (by rw [if_pos c72, if_pos c73, if_neg c74, if_neg c75])
          · refine wp_run ok hK (B := [(143, .ifCond .ne 30, false), (146, .lload 24, false), (148, .lload 20, false), (150, .lcmp, false), (151, .ifCond .ne 22, true), (173, .iconst 0, false)]) (by decide +kernel) (pc' := 174) (L' := #[.val (.long wa), .second, .val (.long fa), .second, .val (.long wb), .second, .val (.long fb), .second, .val (.long qr), .second, .val (.long q), .second, .val (.long fx), .second, .val (.long fy), .second, .val ((.ref a43)), .val (.int s79_0), .val (.long s99_0), .second, .val (.long s122_0), .second, .val (.long whole58), .second, .val (.long fraction58), .second]) (S' := [.int (0 : Int32)]) rfl ⟨(XT.ll_ne_f c72), (XT.ll_ne_t c73), trivial⟩ ?_
            exact J174_76 _ (by rw [if_pos c72, if_neg c73])
        · refine wp_run ok hK (B := [(143, .ifCond .ne 30, true), (173, .iconst 0, false)]) (by decide +kernel) (pc' := 174) (L' := #[.val (.long wa), .second, .val (.long fa), .second, .val (.long wb), .second, .val (.long fb), .second, .val (.long qr), .second, .val (.long q), .second, .val (.long fx), .second, .val (.long fy), .second, .val ((.ref a43)), .val (.int s79_0), .val (.long s99_0), .second, .val (.long s122_0), .second, .val (.long whole58), .second, .val (.long fraction58), .second]) (S' := [.int (0 : Int32)]) rfl ⟨(XT.ll_ne_t c72), trivial⟩ ?_
          exact J174_76 _ (by rw [if_neg c72])
      by_cases c64 : s79_0 = (0 : Int32)
      · refine wp_run ok hK (B := [(103, .ifCond .eq 14, true), (117, .lload 12, false), (119, .lload 14, false), (121, .ladd, false)]) (by decide +kernel) (pc' := 122) (L' := #[.val (.long wa), .second, .val (.long fa), .second, .val (.long wb), .second, .val (.long fb), .second, .val (.long qr), .second, .val (.long q), .second, .val (.long fx), .second, .val (.long fy), .second, .val ((.ref a43)), .val (.int s79_0), .val (.long s99_0), .second, .unset, .unset, .unset, .unset, .unset, .unset]) (S' := [.long (fx + fy)]) rfl ⟨(XT.i0_eq_t c64), trivial⟩ ?_
        exact J122_65 _ (by rw [if_pos c64])
      · refine wp_run ok hK (B := [(103, .ifCond .eq 14, false), (106, .lload 12, false), (108, .lload 10, false), (110, .lload 14, false), (112, .lsub, false), (113, .lsub, false), (114, .goto 8, false)]) (by decide +kernel) (pc' := 122) (L' := #[.val (.long wa), .second, .val (.long fa), .second, .val (.long wb), .second, .val (.long fb), .second, .val (.long qr), .second, .val (.long q), .second, .val (.long fx), .second, .val (.long fy), .second, .val ((.ref a43)), .val (.int s79_0), .val (.long s99_0), .second, .unset, .unset, .unset, .unset, .unset, .unset]) (S' := [.long (fx - (q - fy))]) rfl ⟨(XT.i0_eq_f c64), trivial⟩ ?_
        exact J122_65 _ (by rw [if_neg c64])
    by_cases c62 : s79_0 = (0 : Int32)
    · refine wp_run ok hK (B := [(83, .ifCond .eq 12, true), (95, .lload_n 0, false), (96, .lload 4, false), (98, .ladd, false)]) (by decide +kernel) (pc' := 99) (L' := #[.val (.long wa), .second, .val (.long fa), .second, .val (.long wb), .second, .val (.long fb), .second, .val (.long qr), .second, .val (.long q), .second, .val (.long fx), .second, .val (.long fy), .second, .val ((.ref a43)), .val (.int s79_0), .unset, .unset, .unset, .unset, .unset, .unset, .unset, .unset]) (S' := [.long (wa + wb)]) rfl ⟨(XT.i0_eq_t c62), trivial⟩ ?_
      exact J99_63 _ (by rw [if_pos c62])
    · refine wp_run ok hK (B := [(83, .ifCond .eq 12, false), (86, .lload_n 0, false), (87, .lload 4, false), (89, .ladd, false), (90, .lconst 1, false), (91, .ladd, false), (92, .goto 7, false)]) (by decide +kernel) (pc' := 99) (L' := #[.val (.long wa), .second, .val (.long fa), .second, .val (.long wb), .second, .val (.long fb), .second, .val (.long qr), .second, .val (.long q), .second, .val (.long fx), .second, .val (.long fy), .second, .val ((.ref a43)), .val (.int s79_0), .unset, .unset, .unset, .unset, .unset, .unset, .unset, .unset]) (S' := [.long ((wa + wb) + (1 : Int64))]) rfl ⟨(XT.i0_eq_f c62), trivial⟩ ?_
      exact J99_63 _ (by rw [if_neg c62])
  by_cases c60 : fx < (q - fy)
  · refine wp_run ok hK (B := [(71, .ifCond .lt 7, true), (78, .iconst 0, false)]) (by decide +kernel) (pc' := 79) (L' := #[.val (.long wa), .second, .val (.long fa), .second, .val (.long wb), .second, .val (.long fb), .second, .val (.long qr), .second, .val (.long q), .second, .val (.long fx), .second, .val (.long fy), .second, .val ((.ref a43)), .unset, .unset, .unset, .unset, .unset, .unset, .unset, .unset, .unset]) (S' := [.int (0 : Int32)]) rfl ⟨(XT.ll_lt_t c60), trivial⟩ ?_
    exact J79_61 _ (by rw [if_pos c60])
  · refine wp_run ok hK (B := [(71, .ifCond .lt 7, false), (74, .iconst 1, false), (75, .goto 4, false)]) (by decide +kernel) (pc' := 79) (L' := #[.val (.long wa), .second, .val (.long fa), .second, .val (.long wb), .second, .val (.long fb), .second, .val (.long qr), .second, .val (.long q), .second, .val (.long fx), .second, .val (.long fy), .second, .val ((.ref a43)), .unset, .unset, .unset, .unset, .unset, .unset, .unset, .unset, .unset]) (S' := [.int (1 : Int32)]) rfl ⟨(XT.ll_lt_f c60), trivial⟩ ?_
    exact J79_61 _ (by rw [if_neg c60])
set_option maxRecDepth 65536 in
set_option maxHeartbeats 40000000 in
theorem comes_1 {Post : Tables → Env → Array Value → State → Outcome → State → Prop} (hpost : ∀ tb e args s v u, (limb_1_1.after args s (.returned v) u = true ∧ limb_1_2.after args s (.returned v) u = true ∧ True) → FrameEnd s (.returned v) u (Jvm.fieldLocs frame_1_writes args s ++ Jvm.arrayLocs frame_1_arrays args s ++ Jvm.staticLocs frame_1_statics s) 16 128 → Post tb e args s (.returned v) u) :
    ArmFor flags0 classFile x code maxLocals ret World_1 tables_1 room_1 Calls_1 rest_1 Pre_1 Post := by
  intro l hfl _ _ p e ha hc hk s m args below hf hA hF happ hP
  obtain ⟨hcalls, hrest, hpre⟩ := hP
  obtain ⟨-, -, -, hnamed, -, -, -, hat⟩ := (Spec.applies_iff hf).mp happ
  obtain ⟨hg, hn⟩ := and_e (Cond.before_iff.mp (show (Jvm.Cond.and given_1 narrow_1).before args s = true from hpre))
  obtain ⟨h1, g0⟩ := and_e hg
  obtain ⟨f0, g1⟩ := and_e g0
  obtain ⟨f1, g2⟩ := and_e g1
  obtain ⟨f2, g3⟩ := and_e g2
  obtain ⟨f3, g4⟩ := and_e g3
  obtain ⟨w0, w1, w2, w3, w4, rfl⟩ : ∃ w0 w1 w2 w3 w4 : Value, args = #[w0, w1, w2, w3, w4] := by
    have hs : args.size = 5 := by simpa [Cond.value, given_1] using h1
    obtain ⟨L⟩ := args
    match L, hs with
    | [w0, w1, w2, w3, w4], _ => exact ⟨w0, w1, w2, w3, w4, rfl⟩
  have hw := fun d (hd : d ∈ tables_1) => atoms_spec (ws := Jvm.Cond.code x code maxLocals ret :: tables_1) hat d (List.mem_cons_of_mem _ hd)
  obtain ⟨i0, e0⟩ := isL_v f0
  obtain rfl : w0 = (.long i0) := Option.some.inj e0
  obtain ⟨i1, e1⟩ := isL_v f1
  obtain rfl : w1 = (.long i1) := Option.some.inj e1
  obtain ⟨i2, e2⟩ := isL_v f2
  obtain rfl : w2 = (.long i2) := Option.some.inj e2
  obtain ⟨i3, e3⟩ := isL_v f3
  obtain rfl : w3 = (.long i3) := Option.some.inj e3
  obtain ⟨i4, e4⟩ := isL_v g4
  obtain rfl : w4 = (.long i4) := Option.some.inj e4
  obtain ⟨n, o, h1, h2, h3, _, L, rfl, ⟨rfl, N⟩, hq⟩ := c_law l s _ hw i0 i1 i2 i3 i4 s.heap s.heap.size (Nat.le_refl _) p e ha hc hk s m _ below hf ((Spec.applies_iff_loose hf).mp happ).1 ⟨rfl, State.Warmed39.refl s, rfl⟩ trivial
  refine ⟨n, _, h1, h2, h3, hpost _ _ _ _ _ _ ⟨Cond.after_iff.mpr rfl, Cond.after_iff.mpr (eq_i res_at (Term.int_eval (1)) rfl), trivial⟩ ⟨hq.1, hq.2.1, (hq.2.2.sift fun y hy => Or.inr (N y hy)).mono (by decide) (by decide)⟩⟩
theorem main_1_1 : Claimed_1_1 := comes_1 fun _ _ _ _ _ _ h hF => ⟨h.1, hF⟩
theorem main_1_2 : Claimed_1_2 := comes_1 fun _ _ _ _ _ _ h hF => ⟨h.2.1, hF⟩
end Jvm.Pilot.@@N@@
namespace Jvm.Pilot.@@N@@
open Jvm Jvm.ClassFile Sem Op Lib Jvm.Free Jvm.Stand Jvm.Pilot.@@N@@.Jvm.D
/-! MADE BY PROGRAM (witnessworld.py) out of the Statement's table words and the real class files: 10 classes; the members and pool entries that the words name. The judged class is class 1, her method 1. -/
namespace start1
open Jvm.ClassFile
def u (s : String) : CpInfo := .utf8 (stringToUtf16 s)
/-- a pool by its gaps: so many unusable entries, then the entry; so many at the end -/
def gap : Nat → List CpInfo → List CpInfo
  | 0, r => r
  | n + 1, r => .unusable :: gap n r
def poolList (es : List (Nat × CpInfo)) (last : Nat) : List CpInfo := es.foldr (fun e r => gap e.1 (e.2 :: r)) (gap last [])
def pool (es : List (Nat × CpInfo)) (last : Nat) : Array CpInfo := ⟨poolList es last⟩
def fileOf (pool : Array CpInfo) (this : Nat) (attrs : Array Attribute := #[]) (ms : Array MethodInfo := #[]) (fl : Nat := 33) (sup : Nat := 0) (ifs : Array Nat := #[]) (fds : Array FieldInfo := #[]) : ClassFile where
  minorVersion := 0
  majorVersion := 65
  constantPool := pool
  accessFlags := fl
  thisClass := this
  superClass := sup
  interfaces := ifs
  fields := fds
  methods := ms
  attributes := attrs
def plain (name : String) (sup : Option ClassId) : Class where
  name := name
  kind := .ordinary
  loader := none
  accessFlags := 33
  super := sup
  interfaces := #[]
  cf := none
  fields := #[]
  methods := #[]
  instanceTypes := #[]
  staticTypes := #[]
  resolved := #[]
  callSites := []
  init := .initialized
  statics := none
  mirror := none

def pool0 : Array CpInfo := pool [(5, u "<init>"), (0, u "()V"), (1, .class_ 10), (1, u "java/lang/Object")] 113

def k0c0 : Code := { maxStack := 0, maxLocals := 1, code := object_method_1_code, exceptionTable := #[], attributes := #[] }
def k0m0 : Method := { name := "<init>", desc := "()V", sig := { parameters := [], returnType := none }, accessFlags := 1, code := some k0c0 }
/-- java/lang/Object -/
def k0 : Class := { plain "java/lang/Object" none with
  accessFlags := 33
  interfaces := #[]
  cf := some (fileOf pool0 8 #[] #[{ accessFlags := 1, nameIndex := 5, descriptorIndex := 6, attributes := #[] }] 33 0 #[] #[])
  fields := #[]
  methods := #[k0m0]
  instanceTypes := #[]
  staticTypes := #[]
  resolved := Array.replicate 124 none
  statics := none }

def pool1 : Array CpInfo := pool [(2, .class_ 4), (1, u "java/lang/Object"), (0, u "<init>"), (0, u "()V"), (2, .long 9223372036854775807), (1, .long 1000000000000000), (1, .class_ 14), (0, u "com/example/takt/takt/Nanos"), (0, .methodref 13 16), (0, .nameAndType 5 17), (0, u "(JJ)V"), (0, .methodref 13 19), (0, .nameAndType 20 21), (0, u "plus"), (0, u "(Lcom/example/takt/takt/Nanos;J)Lcom/example/takt/takt/Nanos;"), (0, .methodref 13 23), (0, .nameAndType 24 25), (0, u "whole"), (0, u "()J"), (0, .methodref 13 27), (0, .nameAndType 28 25), (0, u "fraction"), (0, .class_ 30), (0, u "com/example/takt/takt/NanosPlusPinLaw"), (2, u "law"), (0, u "(JJJJJ)Z")] 3

def k1m0 : Method := { name := "<init>", desc := "()V", sig := { parameters := [], returnType := none }, accessFlags := 1, code := none }
def k1c1 : Code := { maxStack := 7, maxLocals := 26, code := code, exceptionTable := #[], attributes := #[] }
def k1m1 : Method := { name := "law", desc := "(JJJJJ)Z", sig := { parameters := [.long, .long, .long, .long, .long], returnType := some .boolean }, accessFlags := 9, code := some k1c1 }
/-- com/example/takt/takt/NanosPlusPinLaw -/
def k1 : Class := { plain "com/example/takt/takt/NanosPlusPinLaw" (some 0) with
  accessFlags := 49
  interfaces := #[]
  cf := some (fileOf pool1 29 #[] #[{ accessFlags := 1, nameIndex := 5, descriptorIndex := 6, attributes := #[] }, { accessFlags := 9, nameIndex := 33, descriptorIndex := 34, attributes := #[] }] 49 2 #[] #[])
  fields := #[]
  methods := #[k1m0, k1m1]
  instanceTypes := #[]
  staticTypes := #[]
  resolved := Array.replicate 38 none
  statics := none }

def pool2 : Array CpInfo := pool [(1, .methodref 2 3), (0, .class_ 4), (0, .nameAndType 5 6), (0, u "java/lang/Object"), (0, u "<init>"), (0, u "()V"), (0, .class_ 8), (0, u "java/lang/Record")] 13

def k2c0 : Code := { maxStack := 1, maxLocals := 1, code := jdk_30_method_1_code, exceptionTable := #[], attributes := #[] }
def k2m0 : Method := { name := "<init>", desc := "()V", sig := { parameters := [], returnType := none }, accessFlags := 4, code := some k2c0 }
/-- java/lang/Record -/
def k2 : Class := { plain "java/lang/Record" (some 0) with
  accessFlags := 1057
  interfaces := #[]
  cf := some (fileOf pool2 7 #[] #[{ accessFlags := 4, nameIndex := 5, descriptorIndex := 6, attributes := #[] }] 1057 2 #[] #[])
  fields := #[]
  methods := #[k2m0]
  instanceTypes := #[]
  staticTypes := #[]
  resolved := Array.replicate 22 none
  statics := none }

def pool3 : Array CpInfo := pool [(1, .methodref 2 3), (0, .class_ 4), (0, .nameAndType 5 6), (0, u "java/lang/Record"), (0, u "<init>"), (0, u "()V"), (0, .fieldref 8 9), (0, .class_ 10), (0, .nameAndType 11 12), (0, u "com/example/takt/takt/Nanos"), (0, u "whole"), (0, u "J"), (0, .fieldref 8 14), (0, .nameAndType 15 12), (0, u "fraction"), (0, .methodref 8 17), (0, .nameAndType 5 18), (0, u "(JJ)V"), (13, u "plus"), (0, u "(Lcom/example/takt/takt/Nanos;J)Lcom/example/takt/takt/Nanos;"), (3, u "()J"), (12, u "PER_SECOND")] 38

def k3c0 : Code := { maxStack := 3, maxLocals := 5, code := prog_1_method_1_code, exceptionTable := #[], attributes := #[] }
def k3m0 : Method := { name := "<init>", desc := "(JJ)V", sig := { parameters := [.long, .long], returnType := none }, accessFlags := 1, code := some k3c0 }
def k3c1 : Code := { maxStack := 10, maxLocals := 8, code := prog_1_method_4_code, exceptionTable := #[], attributes := #[] }
def k3m1 : Method := { name := "plus", desc := "(Lcom/example/takt/takt/Nanos;J)Lcom/example/takt/takt/Nanos;", sig := { parameters := [(.object "com/example/takt/takt/Nanos"), .long], returnType := some (.object "com/example/takt/takt/Nanos") }, accessFlags := 0, code := some k3c1 }
def k3c2 : Code := { maxStack := 2, maxLocals := 1, code := prog_1_method_12_code, exceptionTable := #[], attributes := #[] }
def k3m2 : Method := { name := "whole", desc := "()J", sig := { parameters := [], returnType := some .long }, accessFlags := 1, code := some k3c2 }
def k3c3 : Code := { maxStack := 2, maxLocals := 1, code := prog_1_method_13_code, exceptionTable := #[], attributes := #[] }
def k3m3 : Method := { name := "fraction", desc := "()J", sig := { parameters := [], returnType := some .long }, accessFlags := 1, code := some k3c3 }
/-- com/example/takt/takt/Nanos -/
def k3 : Class := { plain "com/example/takt/takt/Nanos" (some 2) with
  accessFlags := 49
  interfaces := #[]
  cf := some (fileOf pool3 8 #[] #[{ accessFlags := 1, nameIndex := 5, descriptorIndex := 18, attributes := #[] }, { accessFlags := 0, nameIndex := 32, descriptorIndex := 33, attributes := #[] }, { accessFlags := 1, nameIndex := 11, descriptorIndex := 37, attributes := #[] }, { accessFlags := 1, nameIndex := 15, descriptorIndex := 37, attributes := #[] }] 49 2 #[] #[{ accessFlags := 18, nameIndex := 11, descriptorIndex := 12, attributes := #[] }, { accessFlags := 18, nameIndex := 15, descriptorIndex := 12, attributes := #[] }, { accessFlags := 25, nameIndex := 50, descriptorIndex := 12, attributes := #[] }])
  fields := #[{ name := "whole", type := .long, accessFlags := 18, slot := 0, constantValue := 0 }, { name := "fraction", type := .long, accessFlags := 18, slot := 1, constantValue := 0 }, { name := "PER_SECOND", type := .long, accessFlags := 25, slot := 0, constantValue := 0 }]
  methods := #[k3m0, k3m1, k3m2, k3m3]
  instanceTypes := #[.long, .long]
  staticTypes := #[.long]
  resolved := Array.replicate 89 none
  statics := none }

def pool4 : Array CpInfo := pool [(1, u "java/lang/Cloneable"), (0, .class_ 1), (0, u "java/lang/Object"), (0, .class_ 3)] 3

/-- java/lang/Cloneable -/
def k4 : Class := { plain "java/lang/Cloneable" (some 0) with
  accessFlags := 1537
  interfaces := #[]
  cf := some (fileOf pool4 2 #[] #[] 1537 4 #[] #[])
  fields := #[]
  methods := #[]
  instanceTypes := #[]
  staticTypes := #[]
  resolved := Array.replicate 8 none
  statics := none }

def pool5 : Array CpInfo := pool [(1, u "java/io/Serializable"), (0, .class_ 1), (0, u "java/lang/Object"), (0, .class_ 3)] 3

/-- java/io/Serializable -/
def k5 : Class := { plain "java/io/Serializable" (some 0) with
  accessFlags := 1537
  interfaces := #[]
  cf := some (fileOf pool5 2 #[] #[] 1537 4 #[] #[])
  fields := #[]
  methods := #[]
  instanceTypes := #[]
  staticTypes := #[]
  resolved := Array.replicate 8 none
  statics := none }

/-- the primitive byte -/
def k6 : Class := { plain "byte" none with kind := .primitive 'B', accessFlags := 0x411 }
/-- [B -/
def k7 : Class := { plain "[B" (some 0) with kind := .array 6 .byte, interfaces := #[4, 5], accessFlags := 1041 }

/-- the primitive int -/
def k8 : Class := { plain "int" none with kind := .primitive 'I', accessFlags := 0x411 }
/-- [I -/
def k9 : Class := { plain "[I" (some 0) with kind := .array 8 .int, interfaces := #[4, 5], accessFlags := 1041 }

def heap : Heap := #[]
def classes : Array Class := #[k0, k1, k2, k3, k4, k5, k6, k7, k8, k9]
def interned : List (Array UInt16 × Addr) := []
def slotsUsed : Nat := 0
def theMethod : MethodId := ⟨1, 1⟩
def args0 : Array Value := #[.long 5, .long 3, .long 1, .long 1, .long 1]
def aboutOver (below : List Frame) : State where
  vm := { classes := classes, interned := interned.toArray }
  heap := heap
  slotsUsed := slotsUsed
  threads := #[{ frames := .invoking theMethod args0 :: below }]
def below0 : List Frame := [.native { method := ⟨0, 0⟩, args := #[] }]
def about1 : State := aboutOver below0
def p0 : Program := .bare "" "" ""
def e0 : Env := launch0.env 0 0 0
theorem w_frames : about1.frames = Frame.invoking theMethod args0 :: below0 := rfl
set_option maxRecDepth 65536 in
theorem w_args : argsFit about1.vm theMethod args0 = true := by decide +kernel
set_option maxRecDepth 65536 in
theorem w_heap : heapFits about1 = true := by decide +kernel
set_option maxRecDepth 65536 in
theorem w_runnable : about1.curStatus? = some .runnable := by decide +kernel
set_option maxRecDepth 65536 in
theorem w_alone : about1.alone = true := by decide +kernel
set_option maxRecDepth 65536 in
theorem w_named : about1.methodNamed? x = some theMethod := by decide +kernel
set_option maxRecDepth 65536 in
theorem w_hears : about1.hears theMethod below0 = true := by decide +kernel
set_option maxRecDepth 65536 in
theorem w_ripe : about1.ripe theMethod args0 below0 = true := by decide +kernel
theorem w_running : about1.status = .running := rfl
set_option maxRecDepth 65536 in
theorem w_room : about1.hasRoom e0.platform room_1 = true :=
  launch0.hasRoom_least _ room_1 (by decide +kernel) (by decide +kernel) (by decide +kernel) (by decide +kernel) (by decide +kernel) (by decide +kernel)
theorem allAtoms_all (ts : List Jvm.Cond) (a : Array Jvm.Value) (st : Jvm.State) : (allAtoms ts).before a st = ts.all (fun c => c.before a st) := by
  induction ts with
  | nil => rfl
  | cons c t ih =>
    show (Jvm.Cond.and c (allAtoms t)).before a st = _
    rw [Jvm.Cond.before_and, ih, List.all_cons]
def words1 : List Jvm.Cond := Jvm.Cond.code x code maxLocals ret :: tables_1
/-- a 'code' word, met by the world's own term for the bytes: nothing is compared byte by byte -/
theorem code_word {y : MethodName} {bytes : ByteArray} {mx : Nat} {rt : Option FieldType} {a : Array Value} {s : State} {m : MethodId} {meth : Method} {c : Code} (h1 : s.methodNamed? y = some m) (h2 : s.vm.method? m = some meth) (h3 : meth.code = some c) (h4 : c.code = bytes)
    (h5 : (c.maxLocals == mx && c.exceptionTable.isEmpty && decide (c.maxStack ≤ mostOperands) && decide (meth.sig.returnType = rt) && !meth.locks && decide (parseMethodDescriptor y.desc = some meth.sig)) = true) : (Jvm.Cond.code y bytes mx rt).before a s = true := by
  simp only [Bool.and_eq_true, beq_iff_eq, Bool.not_eq_true', decide_eq_true_eq] at h5
  obtain ⟨⟨⟨⟨⟨g1, g2⟩, g3⟩, g4⟩, g5⟩, g6⟩ := h5
  simp [Cond.before, Cond.holds, Cond.value, h1, h2, h3, h4, g1, g2, g3, g4, g5, g6]
def isCode : Jvm.Cond → Bool
  | .code _ _ _ _ => true
  | _ => false
theorem all_split {L : List Jvm.Cond} {P : Jvm.Cond → Bool} (h1 : L.all (fun c => isCode c || P c) = true) (h2 : ∀ c ∈ L.filter isCode, P c = true) : L.all P = true := by
  refine List.all_eq_true.mpr fun c hc => ?_
  have h := List.all_eq_true.mp h1 c hc
  rcases Bool.eq_false_or_eq_true (isCode c) with hi | hi
  · exact h2 c (List.mem_filter.mpr ⟨hc, hi⟩)
  · simpa [hi] using h
set_option maxRecDepth 65536 in
theorem w_c0 : (Jvm.Cond.code x code maxLocals ret).before args0 about1 = true := code_word (m := ⟨1, 1⟩) (meth := k1m1) (c := k1c1) (by decide +kernel) rfl rfl rfl (by decide +kernel)
set_option maxRecDepth 65536 in
theorem w_c1 : (Jvm.Cond.code ({ cls := "com/example/takt/takt/Nanos", name := "<init>", desc := "(JJ)V" } : Jvm.MethodName) prog_1_method_1_code (5 : Nat) (Option.none : Option Jvm.ClassFile.FieldType)).before args0 about1 = true := code_word (m := ⟨3, 0⟩) (meth := k3m0) (c := k3c0) (by decide +kernel) rfl rfl rfl (by decide +kernel)
set_option maxRecDepth 65536 in
theorem w_c2 : (Jvm.Cond.code ({ cls := "java/lang/Record", name := "<init>", desc := "()V" } : Jvm.MethodName) jdk_30_method_1_code (1 : Nat) (Option.none : Option Jvm.ClassFile.FieldType)).before args0 about1 = true := code_word (m := ⟨2, 0⟩) (meth := k2m0) (c := k2c0) (by decide +kernel) rfl rfl rfl (by decide +kernel)
set_option maxRecDepth 65536 in
theorem w_c3 : (Jvm.Cond.code ({ cls := "java/lang/Object", name := "<init>", desc := "()V" } : Jvm.MethodName) object_method_1_code (1 : Nat) (Option.none : Option Jvm.ClassFile.FieldType)).before args0 about1 = true := code_word (m := ⟨0, 0⟩) (meth := k0m0) (c := k0c0) (by decide +kernel) rfl rfl rfl (by decide +kernel)
set_option maxRecDepth 65536 in
theorem w_c4 : (Jvm.Cond.code ({ cls := "com/example/takt/takt/Nanos", name := "plus", desc := "(Lcom/example/takt/takt/Nanos;J)Lcom/example/takt/takt/Nanos;" } : Jvm.MethodName) prog_1_method_4_code (8 : Nat) (Option.some (Jvm.ClassFile.FieldType.object "com/example/takt/takt/Nanos"))).before args0 about1 = true := code_word (m := ⟨3, 1⟩) (meth := k3m1) (c := k3c1) (by decide +kernel) rfl rfl rfl (by decide +kernel)
set_option maxRecDepth 65536 in
theorem w_c5 : (Jvm.Cond.code ({ cls := "com/example/takt/takt/Nanos", name := "whole", desc := "()J" } : Jvm.MethodName) prog_1_method_12_code (1 : Nat) (Option.some Jvm.ClassFile.FieldType.long)).before args0 about1 = true := code_word (m := ⟨3, 2⟩) (meth := k3m2) (c := k3c2) (by decide +kernel) rfl rfl rfl (by decide +kernel)
set_option maxRecDepth 65536 in
theorem w_c6 : (Jvm.Cond.code ({ cls := "com/example/takt/takt/Nanos", name := "fraction", desc := "()J" } : Jvm.MethodName) prog_1_method_13_code (1 : Nat) (Option.some Jvm.ClassFile.FieldType.long)).before args0 about1 = true := code_word (m := ⟨3, 3⟩) (meth := k3m3) (c := k3c3) (by decide +kernel) rfl rfl rfl (by decide +kernel)
def codes1 : List Jvm.Cond := [Jvm.Cond.code x code maxLocals ret, Jvm.Cond.code ({ cls := "com/example/takt/takt/Nanos", name := "<init>", desc := "(JJ)V" } : Jvm.MethodName) prog_1_method_1_code (5 : Nat) (Option.none : Option Jvm.ClassFile.FieldType), Jvm.Cond.code ({ cls := "java/lang/Record", name := "<init>", desc := "()V" } : Jvm.MethodName) jdk_30_method_1_code (1 : Nat) (Option.none : Option Jvm.ClassFile.FieldType), Jvm.Cond.code ({ cls := "java/lang/Object", name := "<init>", desc := "()V" } : Jvm.MethodName) object_method_1_code (1 : Nat) (Option.none : Option Jvm.ClassFile.FieldType), Jvm.Cond.code ({ cls := "com/example/takt/takt/Nanos", name := "plus", desc := "(Lcom/example/takt/takt/Nanos;J)Lcom/example/takt/takt/Nanos;" } : Jvm.MethodName) prog_1_method_4_code (8 : Nat) (Option.some (Jvm.ClassFile.FieldType.object "com/example/takt/takt/Nanos")), Jvm.Cond.code ({ cls := "com/example/takt/takt/Nanos", name := "whole", desc := "()J" } : Jvm.MethodName) prog_1_method_12_code (1 : Nat) (Option.some Jvm.ClassFile.FieldType.long), Jvm.Cond.code ({ cls := "com/example/takt/takt/Nanos", name := "fraction", desc := "()J" } : Jvm.MethodName) prog_1_method_13_code (1 : Nat) (Option.some Jvm.ClassFile.FieldType.long)]
set_option maxRecDepth 65536 in
theorem codes_eq : words1.filter isCode = codes1 := rfl
theorem w_codes : ∀ c ∈ words1.filter isCode, c.before args0 about1 = true := by
  rw [codes_eq]
  intro c hc
  simp only [codes1, List.mem_cons, List.not_mem_nil, or_false] at hc
  rcases hc with rfl | rfl | rfl | rfl | rfl | rfl | rfl
  · exact w_c0
  · exact w_c1
  · exact w_c2
  · exact w_c3
  · exact w_c4
  · exact w_c5
  · exact w_c6
set_option maxRecDepth 65536 in
theorem w_t1 : (words1.take 24).all (fun c => isCode c || c.before args0 about1) = true := by decide +kernel
set_option maxRecDepth 65536 in
theorem w_t2 : (words1.drop 24).all (fun c => isCode c || c.before args0 about1) = true := by decide +kernel
theorem w_tables : (allAtoms (Jvm.Cond.code x code maxLocals ret :: tables_1)).before args0 about1 = true := by
  rw [allAtoms_all]
  show words1.all (fun c => c.before args0 about1) = true
  refine all_split ?_ w_codes
  rw [← List.take_append_drop 24 words1, List.all_append, w_t1, w_t2]
  rfl
set_option maxRecDepth 65536 in
theorem w_case : (Jvm.Cond.and given_1 narrow_1).before args0 about1 = true := by decide +kernel
theorem w_applies : (headSpec (Jvm.Cond.code x code maxLocals ret :: tables_1) room_1).applies x e0.platform about1 = true :=
  (Spec.applies_iff w_frames).mpr ⟨w_running, w_runnable, w_alone, w_named, w_hears, w_ripe, w_room, w_tables⟩
theorem atStart : AtStart classFile x code maxLocals ret World_1 tables_1 room_1 Calls_1 rest_1 Pre_1 launch0 p0 e0 about1 theMethod args0 below0 :=
  ⟨lists_1, trivial, launch0.admits_env _ _ _, launch0.least_env, fairChoices_fair.cas, fairChoices_fair.clock, w_frames, w_args, w_heap, w_applies, trivial, trivial, w_case⟩
end start1
theorem witness_1 : WitnessClaimed_1 := ⟨start1.p0, start1.e0, start1.about1, start1.theMethod, start1.args0, start1.below0, start1.atStart⟩
end Jvm.Pilot.@@N@@
