import JvmDerived
import JvmDerived.Pilot.@@N@@Statement
import JvmDerived.Pilot.@@N@@Code
set_option linter.unusedVariables false
set_option linter.unusedSimpArgs false
namespace Jvm.OwnW
open Sem ClassFile Op Lib Jvm.Free Jvm.Stand Jvm.LawKit Jvm.RoadKit Jvm.Free.XT
/-! ## a walk's fixed data, and what is asked of the rest of it -/
abbrev Cx : Type := Program × Launch × Env × Room × State × MethodId × Array Value × List Frame × Method × Code
abbrev Cx.p (x : Cx) : Program := x.1
abbrev Cx.l (x : Cx) : Launch := x.2.1
abbrev Cx.e (x : Cx) : Env := x.2.2.1
abbrev Cx.R (x : Cx) : Room := x.2.2.2.1
abbrev Cx.s (x : Cx) : State := x.2.2.2.2.1
abbrev Cx.m (x : Cx) : MethodId := x.2.2.2.2.2.1
abbrev Cx.args (x : Cx) : Array Value := x.2.2.2.2.2.2.1
abbrev Cx.below (x : Cx) : List Frame := x.2.2.2.2.2.2.2.1
abbrev Cx.meth (x : Cx) : Method := x.2.2.2.2.2.2.2.2.1
abbrev Cx.c (x : Cx) : Code := x.2.2.2.2.2.2.2.2.2
abbrev Sd (x : Cx) (T : State) (locs : List Loc) (k n : Nat) : Prop := Stand x.p x.l x.e x.R x.s x.m x.args x.below x.meth x.c T locs k n
/-- what is known of a walk of the method nm (of the class own) over the tables of Z -/
def Ok (x : Cx) (Z : State) (own nm : String) (bytes : ByteArray) (ml : Nat) (rt : Option FieldType) (R : Room) : Prop :=
  x.p.tables.exec = Jvm.exec ∧ x.c.code = bytes ∧ x.c.maxLocals = ml ∧ x.s.vm.findClass own = some x.m.cls ∧ x.meth.name = nm ∧ Z.Warmed39 x.s.vm ∧ x.meth.sig.returnType = rt ∧ x.meth.locks = false ∧ x.R = R
abbrev Post : Type := Option Value → Heap → Prop
def Done (x : Cx) (n0 : Nat) (Q : Post) (U : State) : Prop :=
  ∃ s₂ o, Steps x.p.tables x.e x.below U s₂ ∧ s₂.status = .running ∧ Ended s₂ x.below o ∧ ∃ v L, o = .returned v ∧ (Q v s₂.heap ∧ Fr n0 L) ∧ FrameEnd x.s o s₂ L x.R.cells x.R.slots
/-- from here (heap h; k cells and n slots made so far; the frame) the walk comes to its end, and Q holds of it -/
def WP (x : Cx) (n0 : Nat) (Q : Post) (h : Heap) (k n : Nat) (pc : Nat) (L : Array Slot) (S : List Value) : Prop :=
  ∀ T locs, Sd x T locs k n → T.heap = h → Fr n0 locs → Done x n0 Q (T.setTop (mkF x.m pc L S))
/-- a method's contract at one heap and one list of arguments -/
def Con (l : Launch) (Z : State) (y : MethodName) (bytes : ByteArray) (maxL : Nat) (ret : Option FieldType) (rm : Room) (as : Array Value) (h : Heap) (n0 : Nat) (Q : Post) (ws : List Jvm.Cond) : Prop :=
  MetFree l y (head1 (Jvm.Cond.code y bytes maxL ret :: ws) rm) (fun a U => a = as ∧ Z.Warmed39 U.vm ∧ U.heap = h) (fun _ _ _ _ _ => True) (fun _ U o U' => ∃ v L, o = .returned v ∧ (Q v U'.heap ∧ Fr n0 L) ∧ FrameEnd U o U' L rm.cells rm.slots)
theorem wd {ts : List Jvm.Cond} {a0 : Array Value} {Z : State} (hw : ∀ d ∈ ts, d.before a0 Z = true) (k : Nat) {d : Jvm.Cond} (h : ts[k]? = some d) : d.before a0 Z = true := hw d (List.mem_of_getElem? h)
theorem ne_new {h : Heap} {a b : Addr} (hb : b < h.size) (e : a = h.size) : b ≠ a := by rw [e]; exact Nat.ne_of_lt hb
theorem Fld_c {Z : State} {h : Heap} {a : Addr} {O n d : String} {v w : Value} (F : Fld Z h a O n d v) (e : v = w) : Fld Z h a O n d w := e ▸ F
theorem Sta_keep0 {Z : State} {h h' : Heap} {C n d : String} {v : Value} (F : Sta Z h C n d v) (K : Keep h h' []) : Sta Z h' C n d v := by
  obtain ⟨cf, i, k, f, st, cell, h1, h2, h3, h4, h5, r⟩ := F
  exact ⟨cf, i, k, f, st, cell, h1, h2, h3, h4, K.2.1 _ _ h5 nin0, r⟩
section Rules
variable {x : Cx} {Z : State} {own nm : String} {bytes : ByteArray} {ml : Nat} {rt : Option FieldType} {R : Room} {n0 : Nat} {Q : Post} {h : Heap} {k n : Nat} {pc pc' : Nat} {L L' : Array Slot} {S S' rest : List Value} {a0 : Array Value} {a : Addr} {v : Value}
theorem con_of_wp {l : Launch} {y : MethodName} {as : Array Value} {L0 : Array Slot} {ws : List Jvm.Cond} (pn : plainFor y = true) (ef : ∀ m, entryFrame m as ml = mkF m 0 L0 [])
    (H : ∀ x : Cx, x.l = l → Ok x Z y.cls y.name bytes ml rt R → WP x n0 Q h 0 0 0 L0 []) : Con l Z y bytes ml rt R as h n0 Q ws := by
  refine MetFree.of_bodySF pn hisR ?_
  intro p e s m args below meth c s₁ Bd hml0 hP hK
  obtain ⟨rfl, hZ, hh⟩ := hP
  have X0 : Stand p l e R s m args below meth c s₁ [] 0 0 := Stand.of_body Bd
  have e0 : s₁.heap = h := by rw [← hh, Bd.state]; rfl
  have ok : Ok (p, l, e, R, s, m, args, below, meth, c) Z y.cls y.name bytes ml rt R := ⟨Bd.exec, Bd.bytes, hml0, findClass_of_methodNamed Bd.named, (name_of_methodNamed Bd.named Bd.method).1, hZ, Bd.returns, Bd.notSynchronized, rfl⟩
  obtain ⟨s₂, o, h1, h2, h3, h4⟩ := H (p, l, e, R, s, m, args, below, meth, c) rfl ok s₁ [] X0 e0 (Fr.nil n0)
  exact ⟨s₂, o, castTop (ef m) h1, h2, h3, h4⟩
theorem wp_more {k' n' : Nat} (hk : k ≤ k') (hn : n ≤ n') (w : WP x n0 Q h k' n' pc L S) : WP x n0 Q h k n pc L S := fun T locs X e N => w T locs (X.more hk hn) e N
theorem wp_steps (st : ∀ T locs target, Sd x T locs k n → T.heap = h → Steps x.p.tables x.e x.below (T.setTop (mkF x.m pc' L' S')) target → Steps x.p.tables x.e x.below (T.setTop (mkF x.m pc L S)) target) (w : WP x n0 Q h k n pc' L' S') : WP x n0 Q h k n pc L S := fun T locs X e N => by
  obtain ⟨s₂, o, h1, r⟩ := w T locs X e N
  exact ⟨s₂, o, st T locs _ X e h1, r⟩
/-! ## returns -/
theorem wp_done {v' : Option Value} (ok : Ok x Z own nm bytes ml rt R) (hk : k ≤ R.cells) (hn : n ≤ R.slots) (hv : rt = none → v' = none) (hq : Q v' h)
    (st : ∀ T locs fs, Sd x T locs k n → (∀ (f : JFrame) (acts : List Action), f.method = x.m → f.locked = none → f.entered = [] → (doReturn x.e (T.setTop f) acts v').1 = T.setFrames fs) → Steps x.p.tables x.e x.below (T.setTop (mkF x.m pc L S)) (T.setFrames fs)) : WP x n0 Q h k n pc L S := fun T locs X e N => by
  obtain ⟨hx, hby, hml, hown, hnm, hZ, hrt, hlk, hR⟩ := ok
  have hlocks : x.meth.locks = false := hlk
  obtain ⟨fs, hr, hrun, hended, hW, hsame⟩ := X.leave (v := v') (fun q => hv (hrt.symm.trans q)) hlocks
  refine ⟨_, _, st T locs fs X hr, hrun, hended, _, locs, rfl, ⟨?_, N⟩, ⟨_, rfl⟩, hW, hsame.mono (by rw [hR]; exact hk) (by rw [hR]; exact hn)⟩
  show Q v' T.heap
  rw [e]; exact hq
theorem wp_retV (ok : Ok x Z own nm bytes ml none R) (hd : decode bytes pc = .ok (.return_, 1)) (hk : k ≤ R.cells) (hn : n ≤ R.slots) (hq : Q none h) : WP x n0 Q h k n pc L [] :=
  wp_done ok hk hn (fun _ => rfl) hq fun T locs fs X hr => X.returnOut ok.1 ok.2.2.2.2.2.2.1 (hb ok.2.1 hd) hr
theorem wp_retZ {z : Int32} {t : FieldType} (ok : Ok x Z own nm bytes ml (some t) R) (ht : t = .boolean ∨ t = .byte ∨ t = .char ∨ t = .short) (hd : decode bytes pc = .ok (.ireturn, 1)) (hk : k ≤ R.cells) (hn : n ≤ R.slots) (hq : Q (some (.int (nar t z))) h) : WP x n0 Q h k n pc L (.int z :: rest) :=
  wp_done ok hk hn (fun q => nomatch q) hq fun T locs fs X hr => retN X ok.1 ok.2.2.2.2.2.2.1 ht (hb ok.2.1 hd) hr
theorem wp_retI {z : Int32} (ok : Ok x Z own nm bytes ml (some .int) R) (hd : decode bytes pc = .ok (.ireturn, 1)) (hk : k ≤ R.cells) (hn : n ≤ R.slots) (hq : Q (some (.int z)) h) : WP x n0 Q h k n pc L (.int z :: rest) :=
  wp_done ok hk hn (fun q => nomatch q) hq fun T locs fs X hr => retOut X ok.1 ok.2.2.2.2.2.2.1 (w := .int z) rfl (Or.inl ⟨rfl, Or.inl rfl, z, rfl⟩) (hb ok.2.1 hd) hr
theorem wp_retJ {z : Int64} (ok : Ok x Z own nm bytes ml (some .long) R) (hd : decode bytes pc = .ok (.lreturn, 1)) (hk : k ≤ R.cells) (hn : n ≤ R.slots) (hq : Q (some (.long z)) h) : WP x n0 Q h k n pc L (.long z :: rest) :=
  wp_done ok hk hn (fun q => nomatch q) hq fun T locs fs X hr => retOut X ok.1 ok.2.2.2.2.2.2.1 (w := .long z) rfl (Or.inr (Or.inl ⟨rfl, rfl, z, rfl⟩)) (hb ok.2.1 hd) hr
theorem wp_retA {w : Value} {t : FieldType} (ok : Ok x Z own nm bytes ml (some t) R) (ht : t.isReference = true) (hw : w.isRef = true) (hd : decode bytes pc = .ok (.areturn, 1)) (hk : k ≤ R.cells) (hn : n ≤ R.slots) (hq : Q (some w) h) : WP x n0 Q h k n pc L [w] :=
  wp_done ok hk hn (fun q => nomatch q) hq fun T locs fs X hr => X.areturnOut ok.1 hw ok.2.2.2.2.2.2.1 ht (hb ok.2.1 hd) hr
/-! ## the heap -/
theorem wp_getF {O nf d : String} {index : Nat} (ok : Ok x Z own nm bytes ml rt R) (w : (Jvm.Cond.fieldLink own index O nf d).before a0 Z = true) (F : Fld Z h a O nf d v) (hd : decode bytes pc = .ok (.getfield index, 3)) (hw : WP x n0 Q h k n (pc + 3) L (v :: rest)) : WP x n0 Q h k n pc L (.ref a :: rest) := fun T locs X e N => by
  obtain ⟨T', X', e', st⟩ := getF X ok.1 ok.2.2.2.2.2.1 ok.2.2.2.1 (host := "") (Or.inl w) Via.refl e F (g := mkF x.m pc L (.ref a :: rest)) rfl rfl (hb ok.2.1 hd)
  obtain ⟨s₂, o, h1, r⟩ := hw T' locs X' e' N
  exact ⟨s₂, o, st _ h1, r⟩
theorem wp_getS {O nf d : String} {index : Nat} (ok : Ok x Z own nm bytes ml rt R) (w : (Jvm.Cond.fieldLink own index O nf d).before a0 Z = true) (F : Sta Z h O nf d v) (hd : decode bytes pc = .ok (.getstatic index, 3)) (hw : WP x n0 Q h k n (pc + 3) L (v :: S)) : WP x n0 Q h k n pc L S := fun T locs X e N => by
  obtain ⟨T', X', e', st⟩ := getS (host := "") X ok.1 ok.2.2.2.2.2.1 ok.2.2.2.1 w Via.refl e F (g := mkF x.m pc L S) rfl (hb ok.2.1 hd)
  obtain ⟨s₂, o, h1, r⟩ := hw T' locs X' e' N
  exact ⟨s₂, o, st _ h1, r⟩
theorem wp_putF {O nf d C : String} {index kk : Nat} {ty : FieldType} {old : Value} (ok : Ok x Z own nm bytes ml rt R) (w : (Jvm.Cond.fieldLink own index O nf d).before a0 Z = true) (F : Fld Z h a O nf d old) (E : Exa Z h a C)
    (Ly : (Jvm.Cond.lays C O nf d).before a0 Z = true ∨ ((Jvm.Cond.laysFinal C O nf d).before a0 Z = true ∧ own = O ∧ nm = "<init>")) (wi : (Jvm.Cond.instantiable C kk).before a0 Z = true) (hty : parseFieldDescriptor d = some ty) (hnw : narrow ty v = v) (hf : fits ty v = true) (hd : decode bytes pc = .ok (.putfield index, 3)) (ha : n0 ≤ a)
    (hw : ∀ h', Wr h h' a (Jvm.RoadKit.slotOf Z O nf d) v → WP x n0 Q h' k n (pc + 3) L rest) : WP x n0 Q h k n pc L (v :: .ref a :: rest) := fun T locs X e N => by
  obtain ⟨T', h', X', e', W, st⟩ := putF X ok.1 ok.2.2.2.2.2.1 ok.2.2.2.1 (host := "") (Or.inl w) Via.refl e F E (Ly.imp id fun q => ⟨q.1, q.2.1, ok.2.2.2.2.1.trans q.2.2⟩) wi hty hnw hf (g := mkF x.m pc L (v :: .ref a :: rest)) rfl rfl (hb ok.2.1 hd)
  obtain ⟨s₂, o, h1, r⟩ := hw h' W T' _ X' e' (Fr.snoc X' N ha)
  exact ⟨s₂, o, st _ h1, r⟩
theorem wp_new {C : String} {index sz : Nat} (ok : Ok x Z own nm bytes ml rt R) (w : (Jvm.Cond.classLink own index C).before a0 Z = true) (wi : (Jvm.Cond.instantiable C sz).before a0 Z = true) (wz : (Jvm.Cond.initialized C).before a0 Z = true) (hd : decode bytes pc = .ok (.new index, 3)) (hk : k + 1 ≤ R.cells) (hn : n + sz ≤ R.slots)
    (hw : ∀ h' a, a = h.size → Ext h h' → Exa Z h' a C → (∀ {O nf d : String} {ty : FieldType}, Laid Z a0 C O nf d → parseFieldDescriptor d = some ty → Fld Z h' a O nf d (defaultValue ty)) → WP x n0 Q h' (k + 1) (n + sz) (pc + 3) L (.ref a :: S)) : WP x n0 Q h k n pc L S := fun T locs X e N => by
  obtain ⟨T', h', X', e', E, A, D, -, st⟩ := newO X ok.1 ok.2.2.2.2.2.1 ok.2.2.2.1 w wi wz e (g := mkF x.m pc L S) rfl (hb ok.2.1 hd) (by rw [ok.2.2.2.2.2.2.2.2]; exact hk) (by rw [ok.2.2.2.2.2.2.2.2]; exact hn)
  obtain ⟨s₂, o, h1, r⟩ := hw h' h.size rfl E A D T' _ X' e' N
  exact ⟨s₂, o, st _ h1, r⟩
theorem wp_initO {index : Nat} (ok : Ok x Z own nm bytes ml rt R) (w1 : (Jvm.Cond.methodLink own index Lib.objectInit).before a0 Z = true) (w2 : (Jvm.Cond.instanceMethod Lib.objectInit).before a0 Z = true) (w3 : (Jvm.Cond.code Lib.objectInit ⟨#[0xb1]⟩ 1 none).before a0 Z = true) (hL : L.size = ml)
    (hd : decode bytes pc = .ok (.invokespecial index, 3)) (hf : 1 ≤ R.frames) (hl : (rest.map fun v => v.category).sum + 12 ≤ R.locals) (hw : WP x n0 Q h k n (pc + 3) L rest) : WP x n0 Q h k n pc L (.ref a :: rest) := fun T locs X e N => by
  obtain ⟨T', X', e', st⟩ := initO X ok.1 ok.2.2.2.2.2.1 ok.2.2.2.1 w1 w2 w3 e (g := mkF x.m pc L (.ref a :: rest)) rfl (by show L.size = _; rw [ok.2.2.1]; exact hL) rfl (hb ok.2.1 hd) (by rw [ok.2.2.2.2.2.2.2.2]; exact hf) (W := (rest.map fun v => v.category).sum) (by show 2 * 0 + _ ≤ _; omega) (by rw [ok.2.2.2.2.2.2.2.2]; exact hl)
  obtain ⟨s₂, o, h1, r⟩ := hw T' locs X' e' N
  exact ⟨s₂, o, st _ h1, r⟩
/-! ## calls by contract -/
theorem wp_static {y : MethodName} {cb : ByteArray} {cm : Nat} {cr : Option FieldType} {rm : Room} {index : Nat} {argsL : List Value} {Q' : Post} {ps : List FieldType} (ok : Ok x Z own nm bytes ml rt R) (w1 : (Jvm.Cond.methodLink own index y).before a0 Z = true) (w2 : (Jvm.Cond.static y).before a0 Z = true) (w3 : (Jvm.Cond.initialized y.cls).before a0 Z = true) (w4 : (Jvm.Cond.code y cb cm cr).before a0 Z = true)
    (hy : y.cls ≠ "java/lang/invoke/MethodHandle" ∧ y.cls ≠ "java/lang/invoke/VarHandle") (C : Con x.l Z y cb cm cr rm argsL.toArray h n0 Q' []) (pd : parseMethodDescriptor y.desc = some ⟨ps, cr⟩) (hlen : argsL.length = ps.length) (hst : S = argsL.reverse ++ rest) (hL : L.size = ml) (hd : decode bytes pc = .ok (.invokestatic index, 3))
    (hf : rm.frames + 1 ≤ R.frames) (hl : (rest.map fun v => v.category).sum + (cm + 11) + rm.locals ≤ R.locals) (hk : k + rm.cells ≤ R.cells) (hn : n + rm.slots ≤ R.slots)
    (hw : ∀ v h', Q' v h' → WP x n0 Q h' (k + rm.cells) (n + rm.slots) (pc + 3) L (v.toList ++ rest)) : WP x n0 Q h k n pc L S := fun T locs X e N => by
  have hZ := ok.2.2.2.2.2.1
  have hR := ok.2.2.2.2.2.2.2.2
  obtain ⟨v, _, ⟨T', L2, k2, n2⟩, -, X', ⟨Lc, hQ, l1, y1, z1⟩, st⟩ := Jvm.LawKit.callS X ok.1 (y := y) ok.2.2.2.1 (mvT hZ w1) (mvT hZ w2) (mvT hZ w3) (mvT hZ w4) hy (backOf (W := (rest.map fun v => v.category).sum) (Q := fun v h L => Q' v h ∧ Fr n0 L) C hZ w4 w3 (by rw [hR]; exact hf) (by rw [hR]; exact hl)) (g := mkF x.m pc L S) rfl (by show L.size = _; rw [ok.2.2.1]; exact hL) (argsL := argsL) (rest := rest) (lenOf pd hlen) hst (by show 2 * 0 + _ ≤ _; omega) (hb ok.2.1 hd) (fun _ _ => ⟨rfl, e, by rw [hR]; exact hk, by rw [hR]; exact hn⟩)
  dsimp only [Pt.U, Pt.locs, Pt.cells, Pt.slots] at X' l1 y1 z1 st hQ
  subst l1 y1 z1
  obtain ⟨s₂, o, h1, r⟩ := hw v _ hQ.1 T' _ X' rfl (Fr.app N hQ.2)
  exact ⟨s₂, o, st _ h1, r⟩
theorem wp_special {y : MethodName} {cb : ByteArray} {cm : Nat} {rm : Room} {index : Nat} {argsL : List Value} {Q' : Post} {ps : List FieldType} (ok : Ok x Z own nm bytes ml rt R) (hy1 : y.name = "<init>") (w1 : (Jvm.Cond.methodLink own index y).before a0 Z = true) (w2 : (Jvm.Cond.instanceMethod y).before a0 Z = true) (w3 : (Jvm.Cond.initialized y.cls).before a0 Z = true) (w4 : (Jvm.Cond.code y cb cm none).before a0 Z = true)
    (hy : y.cls ≠ "java/lang/invoke/MethodHandle" ∧ y.cls ≠ "java/lang/invoke/VarHandle") (C : Con x.l Z y cb cm none rm (Value.ref a :: argsL).toArray h n0 Q' []) (pd : parseMethodDescriptor y.desc = some ⟨ps, none⟩) (hlen : argsL.length = ps.length) (hst : S = argsL.reverse ++ .ref a :: rest) (hL : L.size = ml) (hd : decode bytes pc = .ok (.invokespecial index, 3))
    (hf : rm.frames + 1 ≤ R.frames) (hl : (rest.map fun v => v.category).sum + (cm + 11) + rm.locals ≤ R.locals) (hk : k + rm.cells ≤ R.cells) (hn : n + rm.slots ≤ R.slots)
    (hw : ∀ v h', Q' v h' → WP x n0 Q h' (k + rm.cells) (n + rm.slots) (pc + 3) L (v.toList ++ rest)) : WP x n0 Q h k n pc L S := fun T locs X e N => by
  have hZ := ok.2.2.2.2.2.1
  have hR := ok.2.2.2.2.2.2.2.2
  obtain ⟨v, _, ⟨T', L2, k2, n2⟩, -, X', ⟨Lc, hQ, l1, y1, z1⟩, st⟩ := X.specialBack ok.1 (y := y) hy1 ok.2.2.2.1 (mvT hZ w1) (mvT hZ w2) (mvT hZ w4) hy (backOf (W := (rest.map fun v => v.category).sum) (Q := fun v h L => Q' v h ∧ Fr n0 L) C hZ w4 w3 (by rw [hR]; exact hf) (by rw [hR]; exact hl)) (g := mkF x.m pc L S) rfl (by show L.size = _; rw [ok.2.2.1]; exact hL) (Steps.refl _) (a := a) (argsL := argsL) (rest := rest) (lenOf pd hlen) hst (by show 2 * 0 + _ ≤ _; omega) (hb ok.2.1 hd) (fun _ _ => ⟨rfl, e, by rw [hR]; exact hk, by rw [hR]; exact hn⟩)
  dsimp only [Pt.U, Pt.locs, Pt.cells, Pt.slots] at X' l1 y1 z1 st hQ
  subst l1 y1 z1
  obtain ⟨s₂, o, h1, r⟩ := hw v _ hQ.1 T' _ X' rfl (Fr.app N hQ.2)
  exact ⟨s₂, o, st.trans h1, r⟩
theorem wp_virtual {y : MethodName} {cb : ByteArray} {cm : Nat} {cr : Option FieldType} {rm : Room} {index : Nat} {argsL : List Value} {Q' : Post} {ps : List FieldType} {C : String} (ok : Ok x Z own nm bytes ml rt R) (w1 : (Jvm.Cond.methodLink own index y).before a0 Z = true) (w5 : (Jvm.Cond.declares y).before a0 Z = true) (w6 : (Jvm.Cond.selects C y y).before a0 Z = true) (w2 : (Jvm.Cond.instanceMethod y).before a0 Z = true) (w3 : (Jvm.Cond.initialized y.cls).before a0 Z = true) (w4 : (Jvm.Cond.code y cb cm cr).before a0 Z = true)
    (hy : y.cls ≠ "java/lang/invoke/MethodHandle" ∧ y.cls ≠ "java/lang/invoke/VarHandle") (E : Exa Z h a C) (Cn : Con x.l Z y cb cm cr rm (Value.ref a :: argsL).toArray h n0 Q' []) (pd : parseMethodDescriptor y.desc = some ⟨ps, cr⟩) (hlen : argsL.length = ps.length) (hst : S = argsL.reverse ++ .ref a :: rest) (hL : L.size = ml) (hd : decode bytes pc = .ok (.invokevirtual index, 3))
    (hf : rm.frames + 1 ≤ R.frames) (hl : (rest.map fun v => v.category).sum + (cm + 11) + rm.locals ≤ R.locals) (hk : k + rm.cells ≤ R.cells) (hn : n + rm.slots ≤ R.slots)
    (hw : ∀ v h', Q' v h' → WP x n0 Q h' (k + rm.cells) (n + rm.slots) (pc + 3) L (v.toList ++ rest)) : WP x n0 Q h k n pc L S := fun T locs X e N => by
  have hZ := ok.2.2.2.2.2.1
  have hR := ok.2.2.2.2.2.2.2.2
  obtain ⟨cq, kq, qa, qb, qc⟩ := isOf (T := T) (s := x.s) hZ e E
  obtain ⟨v, _, ⟨T', L2, k2, n2⟩, -, X', ⟨Lc, hQ, l1, y1, z1⟩, st⟩ := X.virtualBack ok.1 (y := y) (z := y) ok.2.2.2.1 (mvT hZ w1) (mvT hZ w5) (notFace_of_selects (args := #[]) (mvT hZ w6)) (mvT hZ w6) (mvT hZ w2) hy (backOf (W := (rest.map fun v => v.category).sum) (Q := fun v h L => Q' v h ∧ Fr n0 L) Cn hZ w4 w3 (by rw [hR]; exact hf) (by rw [hR]; exact hl)) qa qc (g := mkF x.m pc L S) rfl (by show L.size = _; rw [ok.2.2.1]; exact hL) (Steps.refl _) (argsL := argsL) (rest := rest) (lenOf pd hlen) hst (by show 2 * 0 + _ ≤ _; omega) (hb ok.2.1 hd) (fun _ _ => ⟨rfl, e, by rw [hR]; exact hk, by rw [hR]; exact hn⟩)
  dsimp only [Pt.U, Pt.locs, Pt.cells, Pt.slots] at X' l1 y1 z1 st hQ
  subst l1 y1 z1
  obtain ⟨s₂, o, h1, r⟩ := hw v _ hQ.1 T' _ X' rfl (Fr.app N hQ.2)
  exact ⟨s₂, o, st.trans h1, r⟩
/-! ## arrays -/
theorem wp_newA {aty : ArrayType} {z : Int32} {cap : Nat} (ok : Ok x Z own nm bytes ml rt R) (w : (Jvm.Cond.arrayClass (newarray.typeOf aty)).before a0 Z = true) (hd : decode bytes pc = .ok (.newarray aty, 2)) (hz : ¬ z < 0) (hcap : z.toNatClampNeg ≤ cap) (hb8 : cap * 8 ≤ 536870912) (hk : k + 1 ≤ R.cells) (hn : n + cap ≤ R.slots)
    (hw : ∀ h' a cA, a = h.size → Ext h h' → Arr Z h' a (newA cA (newarray.typeOf aty) z) (newarray.typeOf aty) → WP x n0 Q h' (k + 1) (n + cap) (pc + 2) L (.ref a :: rest)) : WP x n0 Q h k n pc L (.int z :: rest) := fun T locs X e N => by
  obtain ⟨T', h', cA, X', e', E, A, st⟩ := newP X ok.1 ok.2.2.2.2.2.1 w e (g := mkF x.m pc L (.int z :: rest)) rfl (hb ok.2.1 hd) rfl hz hcap hb8 (by rw [ok.2.2.2.2.2.2.2.2]; exact hk) (by rw [ok.2.2.2.2.2.2.2.2]; exact hn)
  obtain ⟨s₂, o, h1, r⟩ := hw h' _ cA rfl E A T' _ X' e' N
  exact ⟨s₂, o, st _ h1, r⟩
theorem wp_stI {cl : Cell} {j z : Int32} (ok : Ok x Z own nm bytes ml rt R) (A : Arr Z h a cl .int) (hj : ¬ (j < 0 ∨ cl.slots.size ≤ j.toNatClampNeg)) (hd : decode bytes pc = .ok (.iastore, 1)) (ha : n0 ≤ a)
    (hw : ∀ h', Wr h h' a j.toNatClampNeg (.int z) → WP x n0 Q h' k n (pc + 1) L rest) : WP x n0 Q h k n pc L (.int z :: .int j :: .ref a :: rest) := fun T locs X e N => by
  obtain ⟨T', h', X', e', W, st⟩ := stI X ok.1 ok.2.2.2.2.2.1 e A hj (g := mkF x.m pc L (.int z :: .int j :: .ref a :: rest)) rfl rfl (hb ok.2.1 hd)
  obtain ⟨s₂, o, h1, r⟩ := hw h' W T' _ X' e' (Fr.snoc X' N ha)
  exact ⟨s₂, o, st _ h1, r⟩
theorem wp_stJ {cl : Cell} {j : Int32} {z : Int64} (ok : Ok x Z own nm bytes ml rt R) (A : Arr Z h a cl .long) (hj : ¬ (j < 0 ∨ cl.slots.size ≤ j.toNatClampNeg)) (hd : decode bytes pc = .ok (.lastore, 1)) (ha : n0 ≤ a)
    (hw : ∀ h', Wr h h' a j.toNatClampNeg (.long z) → WP x n0 Q h' k n (pc + 1) L rest) : WP x n0 Q h k n pc L (.long z :: .int j :: .ref a :: rest) := fun T locs X e N => by
  obtain ⟨T', h', X', e', W, st⟩ := stJ X ok.1 ok.2.2.2.2.2.1 e A hj (g := mkF x.m pc L (.long z :: .int j :: .ref a :: rest)) rfl rfl (hb ok.2.1 hd)
  obtain ⟨s₂, o, h1, r⟩ := hw h' W T' _ X' e' (Fr.snoc X' N ha)
  exact ⟨s₂, o, st _ h1, r⟩
theorem wp_ldI {cl : Cell} {j : Int32} (ok : Ok x Z own nm bytes ml rt R) (A : Arr Z h a cl .int) (hj : ¬ (j < 0 ∨ cl.slots.size ≤ j.toNatClampNeg)) (hv : cl.slots[j.toNatClampNeg]? = some v) (hd : decode bytes pc = .ok (.iaload, 1)) (hw : WP x n0 Q h k n (pc + 1) L (v :: rest)) : WP x n0 Q h k n pc L (.int j :: .ref a :: rest) :=
  wp_steps (fun T locs target X e hr => X.iaload ok.1 (by rw [e]; exact A.1) (State.isArrayOf_alike ok.2.2.2.2.2.1.alike A.2.1) A.2.2 hj hv (g := mkF x.m pc L (.int j :: .ref a :: rest)) rfl rfl (hb ok.2.1 hd) target hr) hw
theorem wp_ldJ {cl : Cell} {j : Int32} (ok : Ok x Z own nm bytes ml rt R) (A : Arr Z h a cl .long) (hj : ¬ (j < 0 ∨ cl.slots.size ≤ j.toNatClampNeg)) (hv : cl.slots[j.toNatClampNeg]? = some v) (hd : decode bytes pc = .ok (.laload, 1)) (hw : WP x n0 Q h k n (pc + 1) L (v :: rest)) : WP x n0 Q h k n pc L (.int j :: .ref a :: rest) :=
  wp_steps (fun T locs target X e hr => X.laload ok.1 (by rw [e]; exact A.1) (State.isArrayOf_alike ok.2.2.2.2.2.1.alike A.2.1) A.2.2 hj hv (g := mkF x.m pc L (.int j :: .ref a :: rest)) rfl rfl (hb ok.2.1 hd) target hr) hw
theorem wp_ldB {cl : Cell} {j : Int32} (ok : Ok x Z own nm bytes ml rt R) (A : Arr Z h a cl .byte) (hj : ¬ (j < 0 ∨ cl.slots.size ≤ j.toNatClampNeg)) (hv : cl.slots[j.toNatClampNeg]? = some v) (hd : decode bytes pc = .ok (.baload, 1)) (hw : WP x n0 Q h k n (pc + 1) L (v :: rest)) : WP x n0 Q h k n pc L (.int j :: .ref a :: rest) :=
  wp_steps (fun T locs target X e hr => X.baloadBytes ok.1 (by rw [e]; exact A.1) (State.isArrayOf_alike ok.2.2.2.2.2.1.alike A.2.1) A.2.2 hj hv (g := mkF x.m pc L (.int j :: .ref a :: rest)) rfl rfl (hb ok.2.1 hd) target hr) hw
theorem wp_ldZ {cl : Cell} {j : Int32} (ok : Ok x Z own nm bytes ml rt R) (A : Arr Z h a cl .boolean) (hj : ¬ (j < 0 ∨ cl.slots.size ≤ j.toNatClampNeg)) (hv : cl.slots[j.toNatClampNeg]? = some v) (hd : decode bytes pc = .ok (.baload, 1)) (hw : WP x n0 Q h k n (pc + 1) L (v :: rest)) : WP x n0 Q h k n pc L (.int j :: .ref a :: rest) :=
  wp_steps (fun T locs target X e hr => X.baloadBooleans ok.1 (by rw [e]; exact A.1) (State.isArrayOf_alike ok.2.2.2.2.2.1.alike A.2.1) A.2.2 hj hv (g := mkF x.m pc L (.int j :: .ref a :: rest)) rfl rfl (hb ok.2.1 hd) target hr) hw
theorem wp_len {cl : Cell} {ty : FieldType} (ok : Ok x Z own nm bytes ml rt R) (A : Arr Z h a cl ty) (hd : decode bytes pc = .ok (.arraylength, 1)) (hw : WP x n0 Q h k n (pc + 1) L (.int cl.slots.size.toInt32 :: rest)) : WP x n0 Q h k n pc L (.ref a :: rest) :=
  wp_steps (fun T locs target X e hr => X.arraylength ok.1 (by rw [e]; exact A.1) (State.isArrayOf_alike ok.2.2.2.2.2.1.alike A.2.1) (g := mkF x.m pc L (.ref a :: rest)) rfl rfl (hb ok.2.1 hd) target hr) hw
end Rules
end Jvm.OwnW
namespace Jvm.OwnW
open Jvm.RoadKit
theorem c_lmod (x y : Int64) (d : Int) (hy : y.toInt = d) : (0 ≤ x.toInt → (x % y).toInt = x.toInt % d) ∧ (x.toInt < 0 → (x % y).toInt = -((-x.toInt) % d)) := by rw [← lrem_mod]; exact c_lrem x y d hy
theorem x_ladd {x y : Int64} (h1 : -9223372036854775808 ≤ x.toInt + y.toInt) (h2 : x.toInt + y.toInt < 9223372036854775808) : (x + y).toInt = x.toInt + y.toInt := by
  have := c_ladd x y; have := (x + y).toInt_lt; have := (x + y).le_toInt; omega
theorem x_lsub {x y : Int64} (h1 : -9223372036854775808 ≤ x.toInt - y.toInt) (h2 : x.toInt - y.toInt < 9223372036854775808) : (x - y).toInt = x.toInt - y.toInt := by
  have := c_lsub x y; have := (x - y).toInt_lt; have := (x - y).le_toInt; omega
theorem x_lmul {x y : Int64} (h1 : -9223372036854775808 ≤ x.toInt * y.toInt) (h2 : x.toInt * y.toInt < 9223372036854775808) : (x * y).toInt = x.toInt * y.toInt := by
  have q := c_lmul x y; have := (x * y).toInt_lt; have := (x * y).le_toInt
  generalize x.toInt * y.toInt = p at *; omega
theorem x_iadd {x y : Int32} (h1 : -2147483648 ≤ x.toInt + y.toInt) (h2 : x.toInt + y.toInt < 2147483648) : (x + y).toInt = x.toInt + y.toInt := by
  have := c_iadd x y; have := (x + y).toInt_lt; have := (x + y).le_toInt; omega
theorem x_isub {x y : Int32} (h1 : -2147483648 ≤ x.toInt - y.toInt) (h2 : x.toInt - y.toInt < 2147483648) : (x - y).toInt = x.toInt - y.toInt := by
  have := c_isub x y; have := (x - y).toInt_lt; have := (x - y).le_toInt; omega
theorem x_imul {x y : Int32} (h1 : -2147483648 ≤ x.toInt * y.toInt) (h2 : x.toInt * y.toInt < 2147483648) : (x * y).toInt = x.toInt * y.toInt := by
  have q := c_imul x y; have := (x * y).toInt_lt; have := (x * y).le_toInt
  generalize x.toInt * y.toInt = p at *; omega
theorem nar01 {z : Int32} (h : z = 0 ∨ z = 1) : nar .boolean z = z := by rcases h with rfl | rfl <;> rfl
end Jvm.OwnW
namespace Jvm.OwnW
open Sem ClassFile Op Lib Jvm.Free Jvm.Stand Jvm.LawKit Jvm.RoadKit Jvm.Free.XT
/-! ## plain steps, by evaluation: a block of instructions from a frame to a frame, with the props that it asks (a branch's direction, a divisor) -/
def ush (x y : Int32) : Int32 := (x.toUInt32 >>> (y &&& 31).toUInt32).toInt32
def ushL (x : Int64) (y : Int32) : Int64 := (x.toUInt64 >>> (y &&& 63).toInt64.toUInt64).toInt64
theorem c_ush (x q : Int32) (k : Nat) (hk : q.toBitVec.toNat % 32 = k) (h0 : 0 < k) : (ush x q).toInt = (x.toInt % 4294967296) / (2 ^ k : Nat) := c_iushr x q k hk h0
theorem c_ushL (x : Int64) (q : Int32) (k : Nat) (hk : q.toBitVec.toNat % 64 = k) (h0 : 0 < k) : (ushL x q).toInt = (x.toInt % 18446744073709551616) / (2 ^ k : Nat) := c_lushr x q k hk h0
abbrev Res : Type := Option (List Prop × Nat × Array Slot × List Value)
def bin32 (f : Int32 → Int32 → Int32) (pc : Nat) (L : Array Slot) : List Value → Res
  | .int y :: .int z :: r => some ([], pc + 1, L, .int (f z y) :: r)
  | _ => none
def bin64 (f : Int64 → Int64 → Int64) (pc : Nat) (L : Array Slot) : List Value → Res
  | .long y :: .long z :: r => some ([], pc + 1, L, .long (f z y) :: r)
  | _ => none
def sh64 (f : Int64 → Int32 → Int64) (pc : Nat) (L : Array Slot) : List Value → Res
  | .int y :: .long z :: r => some ([], pc + 1, L, .long (f z y) :: r)
  | _ => none
def un32 (f : Int32 → Value) (pc : Nat) (L : Array Slot) : List Value → Res
  | .int z :: r => some ([], pc + 1, L, f z :: r)
  | _ => none
def un64 (f : Int64 → Value) (pc : Nat) (L : Array Slot) : List Value → Res
  | .long z :: r => some ([], pc + 1, L, f z :: r)
  | _ => none
def ldK (ok : Value → Bool) (i pc' : Nat) (L : Array Slot) (S : List Value) : Res :=
  match L[i]? with
  | some (.val v) => if ok v = true then some ([], pc', L, v :: S) else none
  | _ => none
def stK (ok : Value → Bool) (i pc' : Nat) (L : Array Slot) : List Value → Res
  | v :: r => if ok v = true then (match storeLocals L i v with | some L' => some ([], pc', L', r) | none => none) else none
  | [] => none
def isI : Value → Bool | .int _ => true | _ => false
def isJ : Value → Bool | .long _ => true | _ => false
def constI : Option Value → Option Int32 | some (.int z) => some z | _ => none
def constJ : Option Value → Option Int64 | some (.long z) => some z | _ => none
def look (K : List (Nat × Value)) (i : Nat) : Option Value := match K with
  | [] => none
  | (j, v) :: r => if j = i then some v else look r i
def jump (pc : Nat) (o : Int) : Option Nat := if 0 ≤ (pc : Int) + o then some ((pc : Int) + o).toNat else none
def br (p : Prop) (b : Bool) (pc : Nat) (o : Int) (L : Array Slot) (S : List Value) : Res :=
  if b = true then (match jump pc o with | some q => some ([p], q, L, S) | none => none) else some ([p], pc + 3, L, S)
def stp (K : List (Nat × Value)) (b : Bool) (i : Instr) (pc : Nat) (L : Array Slot) (S : List Value) : Res :=
  match i with
  | .iconst z => some ([], pc + 1, L, .int (Int32.ofInt z) :: S)
  | .bipush z => some ([], pc + 2, L, .int (Int8.ofInt z).toInt32 :: S)
  | .sipush z => some ([], pc + 3, L, .int (Int16.ofInt z).toInt32 :: S)
  | .lconst z => some ([], pc + 1, L, .long (Int64.ofNat z) :: S)
  | .aconst_null => some ([], pc + 1, L, .null :: S)
  | .ldc j => (match constI (look K j) with | some z => some ([], pc + 2, L, .int z :: S) | none => none)
  | .ldc2_w j => (match constJ (look K j) with | some z => some ([], pc + 3, L, .long z :: S) | none => none)
  | .iload_n j => ldK isI j.val (pc + 1) L S
  | .iload j => ldK isI j (pc + 2) L S
  | .lload_n j => ldK isJ j.val (pc + 1) L S
  | .lload j => ldK isJ j (pc + 2) L S
  | .aload_n j => ldK Value.isRef j.val (pc + 1) L S
  | .aload j => ldK Value.isRef j (pc + 2) L S
  | .istore_n j => stK isI j.val (pc + 1) L S
  | .istore j => stK isI j (pc + 2) L S
  | .lstore_n j => stK isJ j.val (pc + 1) L S
  | .lstore j => stK isJ j (pc + 2) L S
  | .astore_n j => stK Value.isRef j.val (pc + 1) L S
  | .astore j => stK Value.isRef j (pc + 2) L S
  | .iadd => bin32 (fun z y => z + y) pc L S
  | .isub => bin32 (fun z y => z - y) pc L S
  | .imul => bin32 (fun z y => z * y) pc L S
  | .iand => bin32 (fun z y => z &&& y) pc L S
  | .ior => bin32 (fun z y => z ||| y) pc L S
  | .ixor => bin32 (fun z y => z ^^^ y) pc L S
  | .ishl => bin32 (fun z y => z <<< (y &&& 31)) pc L S
  | .ishr => bin32 (fun z y => z >>> (y &&& 31)) pc L S
  | .iushr => bin32 (fun z y => ush z y) pc L S
  | .ladd => bin64 (fun z y => z + y) pc L S
  | .lsub => bin64 (fun z y => z - y) pc L S
  | .lmul => bin64 (fun z y => z * y) pc L S
  | .land => bin64 (fun z y => z &&& y) pc L S
  | .lor => bin64 (fun z y => z ||| y) pc L S
  | .lxor => bin64 (fun z y => z ^^^ y) pc L S
  | .lshl => sh64 (fun z y => z <<< (y &&& 63).toInt64) pc L S
  | .lshr => sh64 (fun z y => z >>> (y &&& 63).toInt64) pc L S
  | .lushr => sh64 (fun z y => ushL z y) pc L S
  | .ineg => un32 (fun z => .int (-z)) pc L S
  | .lneg => un64 (fun z => .long (-z)) pc L S
  | .i2l => un32 (fun z => .long z.toInt64) pc L S
  | .l2i => un64 (fun z => .int z.toInt32) pc L S
  | .i2b => un32 (fun z => .int z.toInt8.toInt32) pc L S
  | .i2c => un32 (fun z => .int z.toUInt32.toUInt16.toUInt32.toInt32) pc L S
  | .i2s => un32 (fun z => .int z.toInt16.toInt32) pc L S
  | .idiv => (match S with | .int y :: .int z :: r => some ([y ≠ 0], pc + 1, L, .int (z / y) :: r) | _ => none)
  | .irem => (match S with | .int y :: .int z :: r => some ([y ≠ 0], pc + 1, L, .int (z % y) :: r) | _ => none)
  | .ldiv => (match S with | .long y :: .long z :: r => some ([y ≠ 0], pc + 1, L, .long (z / y) :: r) | _ => none)
  | .lrem => (match S with | .long y :: .long z :: r => some ([y ≠ 0], pc + 1, L, .long (z % y) :: r) | _ => none)
  | .lcmp => (match S with | .long y :: .long z :: r => some ([], pc + 1, L, .int (cmpL z y) :: r) | _ => none)
  | .pop => (match S with | v :: r => if v.category = 1 then some ([], pc + 1, L, r) else none | _ => none)
  | .dup => (match S with | v :: r => if v.category = 1 then some ([], pc + 1, L, v :: v :: r) else none | _ => none)
  | .dup_x1 => (match S with | v :: w :: r => if v.category = 1 ∧ w.category = 1 then some ([], pc + 1, L, v :: w :: v :: r) else none | _ => none)
  | .dup2 => (match S with | v :: w :: r => if v.category = 1 ∧ w.category = 1 then some ([], pc + 1, L, v :: w :: v :: w :: r) else none | _ => none)
  | .iinc j c => (match L[j]? with | some (.val (.int z)) => (match storeLocals L j (.int (z + Int32.ofInt c)) with | some L' => some ([], pc + 3, L', S) | none => none) | _ => none)
  | .goto o => (match jump pc o with | some q => some ([], q, L, S) | none => none)
  | .ifCond cd o => (match S with | .int z :: r => br (ifCond.holds cd z = b) b pc o L r | _ => none)
  | .if_icmp cd o => (match S with | .int y :: .int z :: r => br (if_icmp.holds cd z y = b) b pc o L r | _ => none)
  | .ifnull o => (match S with | .null :: r => if b = true then br True b pc o L r else none | .ref _ :: r => if b = true then none else br True b pc o L r | _ => none)
  | .ifnonnull o => (match S with | .null :: r => if b = true then none else br True b pc o L r | .ref _ :: r => if b = true then br True b pc o L r else none | _ => none)
  | _ => none
def ilen : Instr → Nat
  | .bipush _ => 2 | .ldc _ => 2 | .iload _ => 2 | .lload _ => 2 | .aload _ => 2 | .istore _ => 2 | .lstore _ => 2 | .astore _ => 2
  | .sipush _ => 3 | .ldc2_w _ => 3 | .iinc _ _ => 3 | .goto _ => 3 | .ifCond _ _ => 3 | .if_icmp _ _ => 3 | .ifnull _ => 3 | .ifnonnull _ => 3
  | _ => 1
def runL (K : List (Nat × Value)) : List (Nat × Instr × Bool) → Nat → Array Slot → List Value → Res
  | [], pc, L, S => some ([], pc, L, S)
  | (q, i, b) :: r, pc, L, S => if q = pc then (match stp K b i pc L S with
      | none => none
      | some (ps, pc', L', S') => match runL K r pc' L' S' with
        | none => none
        | some (ps', t) => some (ps ++ ps', t)) else none
def decs (bytes : ByteArray) (B : List (Nat × Instr × Bool)) : Bool := B.all fun q => decide (decode bytes q.1 = .ok (q.2.1, ilen q.2.1))
def allP : List Prop → Prop
  | [] => True
  | p :: r => p ∧ allP r
theorem allP_append {ps qs : List Prop} (h : allP (ps ++ qs)) : allP ps ∧ allP qs := by
  induction ps with
  | nil => exact ⟨trivial, h⟩
  | cons p r ih => exact ⟨⟨h.1, (ih h.2).1⟩, (ih h.2).2⟩
def Konst (Z : State) (a0 : Array Value) (own : String) : List (Nat × Value) → Prop
  | [] => True
  | (i, v) :: r => ((∃ z, v = .int z ∧ (Jvm.Cond.constant own i z).before a0 Z = true) ∨ (∃ z, v = .long z ∧ (Jvm.Cond.constantLong own i z).before a0 Z = true)) ∧ Konst Z a0 own r
theorem look_spec {Z : State} {a0 : Array Value} {own : String} {K : List (Nat × Value)} (hK : Konst Z a0 own K) {i : Nat} {v : Value} (h : look K i = some v) : (∃ z, v = .int z ∧ (Jvm.Cond.constant own i z).before a0 Z = true) ∨ (∃ z, v = .long z ∧ (Jvm.Cond.constantLong own i z).before a0 Z = true) := by
  induction K with
  | nil => cases h
  | cons q r ih =>
    obtain ⟨j, w⟩ := q
    simp only [look] at h
    split at h
    · rename_i e; subst e; cases h; exact hK.1
    · exact ih hK.2 h
theorem constI_spec {o : Option Value} {z : Int32} (h : constI o = some z) : o = some (.int z) := by
  cases o with
  | none => cases h
  | some v => cases v <;> simp [constI] at h; rw [h]
theorem constJ_spec {o : Option Value} {z : Int64} (h : constJ o = some z) : o = some (.long z) := by
  cases o with
  | none => cases h
  | some v => cases v <;> simp [constJ] at h; rw [h]
theorem ldK_spec {ok : Value → Bool} {i q : Nat} {L : Array Slot} {S : List Value} {ps : List Prop} {pc' : Nat} {L' : Array Slot} {S' : List Value} (h : ldK ok i q L S = some (ps, pc', L', S')) : ∃ v, L[i]? = some (.val v) ∧ ok v = true ∧ pc' = q ∧ L' = L ∧ S' = v :: S := by
  unfold ldK at h
  split at h
  · split at h
    · rename_i v e1 e2; cases h; exact ⟨v, e1, e2, rfl, rfl, rfl⟩
    · cases h
  · cases h
theorem stK_spec {ok : Value → Bool} {i q : Nat} {L : Array Slot} {S : List Value} {ps : List Prop} {pc' : Nat} {L' : Array Slot} {S' : List Value} (h : stK ok i q L S = some (ps, pc', L', S')) : ∃ v, S = v :: S' ∧ ok v = true ∧ pc' = q ∧ storeLocals L i v = some L' := by
  cases S with
  | nil => cases h
  | cons v r =>
    simp only [stK] at h
    split at h
    · split at h
      · rename_i e1 _ _ e2; cases h; exact ⟨v, rfl, e1, rfl, e2⟩
      · cases h
    · cases h
theorem isI_spec {v : Value} (h : isI v = true) : ∃ z, v = .int z := by cases v <;> simp [isI] at h ⊢
theorem isJ_spec {v : Value} (h : isJ v = true) : ∃ z, v = .long z := by cases v <;> simp [isJ] at h ⊢
theorem bin32_spec {f : Int32 → Int32 → Int32} {pc : Nat} {L : Array Slot} {S : List Value} {ps : List Prop} {pc' : Nat} {L' : Array Slot} {S' : List Value} (h : bin32 f pc L S = some (ps, pc', L', S')) : ∃ z y r, S = .int y :: .int z :: r ∧ pc' = pc + 1 ∧ L' = L ∧ S' = .int (f z y) :: r := by
  unfold bin32 at h; split at h
  · cases h; exact ⟨_, _, _, rfl, rfl, rfl, rfl⟩
  · cases h
theorem bin64_spec {f : Int64 → Int64 → Int64} {pc : Nat} {L : Array Slot} {S : List Value} {ps : List Prop} {pc' : Nat} {L' : Array Slot} {S' : List Value} (h : bin64 f pc L S = some (ps, pc', L', S')) : ∃ z y r, S = .long y :: .long z :: r ∧ pc' = pc + 1 ∧ L' = L ∧ S' = .long (f z y) :: r := by
  unfold bin64 at h; split at h
  · cases h; exact ⟨_, _, _, rfl, rfl, rfl, rfl⟩
  · cases h
theorem sh64_spec {f : Int64 → Int32 → Int64} {pc : Nat} {L : Array Slot} {S : List Value} {ps : List Prop} {pc' : Nat} {L' : Array Slot} {S' : List Value} (h : sh64 f pc L S = some (ps, pc', L', S')) : ∃ z y r, S = .int y :: .long z :: r ∧ pc' = pc + 1 ∧ L' = L ∧ S' = .long (f z y) :: r := by
  unfold sh64 at h; split at h
  · cases h; exact ⟨_, _, _, rfl, rfl, rfl, rfl⟩
  · cases h
theorem un32_spec {f : Int32 → Value} {pc : Nat} {L : Array Slot} {S : List Value} {ps : List Prop} {pc' : Nat} {L' : Array Slot} {S' : List Value} (h : un32 f pc L S = some (ps, pc', L', S')) : ∃ z r, S = .int z :: r ∧ pc' = pc + 1 ∧ L' = L ∧ S' = f z :: r := by
  unfold un32 at h; split at h
  · cases h; exact ⟨_, _, rfl, rfl, rfl, rfl⟩
  · cases h
theorem un64_spec {f : Int64 → Value} {pc : Nat} {L : Array Slot} {S : List Value} {ps : List Prop} {pc' : Nat} {L' : Array Slot} {S' : List Value} (h : un64 f pc L S = some (ps, pc', L', S')) : ∃ z r, S = .long z :: r ∧ pc' = pc + 1 ∧ L' = L ∧ S' = f z :: r := by
  unfold un64 at h; split at h
  · cases h; exact ⟨_, _, rfl, rfl, rfl, rfl⟩
  · cases h
theorem jump_spec {pc q : Nat} {o : Int} (h : jump pc o = some q) : 0 ≤ (pc : Int) + o ∧ ((pc : Int) + o).toNat = q := by
  unfold jump at h; split at h
  · cases h; exact ⟨by assumption, rfl⟩
  · cases h
theorem br_spec {p : Prop} {b : Bool} {pc : Nat} {o : Int} {L : Array Slot} {S : List Value} {ps : List Prop} {pc' : Nat} {L' : Array Slot} {S' : List Value} (h : br p b pc o L S = some (ps, pc', L', S')) : ps = [p] ∧ L' = L ∧ S' = S ∧ ((b = true ∧ jump pc o = some pc') ∨ (b = false ∧ pc' = pc + 3)) := by
  unfold br at h; split at h
  · rename_i e; split at h
    · rename_i e2; cases h; exact ⟨rfl, rfl, rfl, Or.inl ⟨e, e2⟩⟩
    · cases h
  · rename_i e; cases h; exact ⟨rfl, rfl, rfl, Or.inr ⟨by simpa using e, rfl⟩⟩
section Run
variable {x : Cx} {Z : State} {own nm : String} {bytes : ByteArray} {ml : Nat} {rt : Option FieldType} {R : Room} {n0 : Nat} {Q : Post} {h : Heap} {k n : Nat} {pc pc' : Nat} {L L' : Array Slot} {S S' rest : List Value} {a0 : Array Value} {K : List (Nat × Value)} {ps : List Prop}
theorem stp_ok (ok : Ok x Z own nm bytes ml rt R) (hK : Konst Z a0 own K) {b : Bool} {i : Instr} (hd : decode bytes pc = .ok (i, ilen i)) (hs : stp K b i pc L S = some (ps, pc', L', S')) (hp : allP ps)
    {T : State} {locs : List Loc} {target : State} (X : Sd x T locs k n) (hr : Steps x.p.tables x.e x.below (T.setTop (mkF x.m pc' L' S')) target) : Steps x.p.tables x.e x.below (T.setTop (mkF x.m pc L S)) target := by
  obtain ⟨hx, hby, -, hown, -, hZ, -⟩ := ok
  have hd' := hb hby hd
  have hA : At T x.m x.c x.below := X.here
  cases i
  case iconst z => cases hs; exact XS.iconst hA hx rfl hd' hr
  case bipush z => cases hs; exact XS.bipush hA hx rfl hd' hr
  case sipush z => cases hs; exact XS.sipush hA hx rfl hd' hr
  case lconst z => cases hs; exact XS.lconst hA hx rfl hd' hr
  case aconst_null => cases hs; exact XS.aconstNull hA hx rfl hd' hr
  case ldc j =>
    simp only [stp] at hs
    split at hs
    · rename_i e
      cases hs
      rcases look_spec hK (constI_spec e) with ⟨z, e1, e2⟩ | ⟨z, e1, e2⟩
      · cases e1; exact X.ldcI hx hown (mvT hZ e2) rfl hd' hr
      · cases e1
    · cases hs
  case ldc2_w j =>
    simp only [stp] at hs
    split at hs
    · rename_i e
      cases hs
      rcases look_spec hK (constJ_spec e) with ⟨z, e1, e2⟩ | ⟨z, e1, e2⟩
      · cases e1
      · cases e1; exact X.ldc2J hx hown (mvT hZ e2) rfl hd' hr
    · cases hs
  case iload_n j => obtain ⟨v, e1, e2, rfl, rfl, rfl⟩ := ldK_spec hs; obtain ⟨z, rfl⟩ := isI_spec e2; exact XS.iloadN hA hx rfl hd' e1 hr
  case iload j => obtain ⟨v, e1, e2, rfl, rfl, rfl⟩ := ldK_spec hs; obtain ⟨z, rfl⟩ := isI_spec e2; exact XS.iload hA hx rfl hd' e1 hr
  case lload_n j => obtain ⟨v, e1, e2, rfl, rfl, rfl⟩ := ldK_spec hs; obtain ⟨z, rfl⟩ := isJ_spec e2; exact XS.lloadN hA hx rfl hd' e1 hr
  case lload j => obtain ⟨v, e1, e2, rfl, rfl, rfl⟩ := ldK_spec hs; obtain ⟨z, rfl⟩ := isJ_spec e2; exact XS.lload hA hx rfl hd' e1 hr
  case aload_n j => obtain ⟨v, e1, e2, rfl, rfl, rfl⟩ := ldK_spec hs; exact XS.aloadN hA hx rfl hd' e1 e2 hr
  case aload j => obtain ⟨v, e1, e2, rfl, rfl, rfl⟩ := ldK_spec hs; exact XS.aload hA hx rfl hd' e1 e2 hr
  case istore_n j => obtain ⟨v, rfl, e2, rfl, e3⟩ := stK_spec hs; obtain ⟨z, rfl⟩ := isI_spec e2; exact XS.istoreN hA hx rfl hd' rfl e3 hr
  case istore j => obtain ⟨v, rfl, e2, rfl, e3⟩ := stK_spec hs; obtain ⟨z, rfl⟩ := isI_spec e2; exact XS.istore hA hx rfl hd' rfl e3 hr
  case lstore_n j => obtain ⟨v, rfl, e2, rfl, e3⟩ := stK_spec hs; obtain ⟨z, rfl⟩ := isJ_spec e2; exact XS.lstoreN hA hx rfl hd' rfl e3 hr
  case lstore j => obtain ⟨v, rfl, e2, rfl, e3⟩ := stK_spec hs; obtain ⟨z, rfl⟩ := isJ_spec e2; exact XS.lstore hA hx rfl hd' rfl e3 hr
  case astore_n j => obtain ⟨v, rfl, e2, rfl, e3⟩ := stK_spec hs; exact XS.astoreN hA hx rfl hd' rfl e2 e3 hr
  case astore j => obtain ⟨v, rfl, e2, rfl, e3⟩ := stK_spec hs; exact XS.astore hA hx rfl hd' rfl e2 e3 hr
  case iadd => obtain ⟨z, y, r, rfl, rfl, rfl, rfl⟩ := bin32_spec hs; exact XS.iadd hA hx rfl hd' rfl hr
  case isub => obtain ⟨z, y, r, rfl, rfl, rfl, rfl⟩ := bin32_spec hs; exact XS.isub hA hx rfl hd' rfl hr
  case imul => obtain ⟨z, y, r, rfl, rfl, rfl, rfl⟩ := bin32_spec hs; exact XS.imul hA hx rfl hd' rfl hr
  case iand => obtain ⟨z, y, r, rfl, rfl, rfl, rfl⟩ := bin32_spec hs; exact XS.iand hA hx rfl hd' rfl hr
  case ior => obtain ⟨z, y, r, rfl, rfl, rfl, rfl⟩ := bin32_spec hs; exact XS.ior hA hx rfl hd' rfl hr
  case ixor => obtain ⟨z, y, r, rfl, rfl, rfl, rfl⟩ := bin32_spec hs; exact XS.ixor hA hx rfl hd' rfl hr
  case ishl => obtain ⟨z, y, r, rfl, rfl, rfl, rfl⟩ := bin32_spec hs; exact XS.ishl hA hx rfl hd' rfl hr
  case ishr => obtain ⟨z, y, r, rfl, rfl, rfl, rfl⟩ := bin32_spec hs; exact XS.ishr hA hx rfl hd' rfl hr
  case iushr => obtain ⟨z, y, r, rfl, rfl, rfl, rfl⟩ := bin32_spec hs; exact XS.iushr hA hx rfl hd' rfl hr
  case ladd => obtain ⟨z, y, r, rfl, rfl, rfl, rfl⟩ := bin64_spec hs; exact XS.ladd hA hx rfl hd' rfl hr
  case lsub => obtain ⟨z, y, r, rfl, rfl, rfl, rfl⟩ := bin64_spec hs; exact XS.lsub hA hx rfl hd' rfl hr
  case lmul => obtain ⟨z, y, r, rfl, rfl, rfl, rfl⟩ := bin64_spec hs; exact XS.lmul hA hx rfl hd' rfl hr
  case land => obtain ⟨z, y, r, rfl, rfl, rfl, rfl⟩ := bin64_spec hs; exact XS.land hA hx rfl hd' rfl hr
  case lor => obtain ⟨z, y, r, rfl, rfl, rfl, rfl⟩ := bin64_spec hs; exact XS.lor hA hx rfl hd' rfl hr
  case lxor => obtain ⟨z, y, r, rfl, rfl, rfl, rfl⟩ := bin64_spec hs; exact XS.lxor hA hx rfl hd' rfl hr
  case lshl => obtain ⟨z, y, r, rfl, rfl, rfl, rfl⟩ := sh64_spec hs; exact XS.lshl hA hx rfl hd' rfl hr
  case lshr => obtain ⟨z, y, r, rfl, rfl, rfl, rfl⟩ := sh64_spec hs; exact XS.lshr hA hx rfl hd' rfl hr
  case lushr => obtain ⟨z, y, r, rfl, rfl, rfl, rfl⟩ := sh64_spec hs; exact XS.lushr hA hx rfl hd' rfl hr
  case ineg => obtain ⟨z, r, rfl, rfl, rfl, rfl⟩ := un32_spec hs; exact XS.ineg hA hx rfl hd' rfl hr
  case lneg => obtain ⟨z, r, rfl, rfl, rfl, rfl⟩ := un64_spec hs; exact XS.lneg hA hx rfl hd' rfl hr
  case i2l => obtain ⟨z, r, rfl, rfl, rfl, rfl⟩ := un32_spec hs; exact XS.i2l hA hx rfl hd' rfl hr
  case l2i => obtain ⟨z, r, rfl, rfl, rfl, rfl⟩ := un64_spec hs; exact XS.l2i hA hx rfl hd' rfl hr
  case i2b => obtain ⟨z, r, rfl, rfl, rfl, rfl⟩ := un32_spec hs; exact XS.i2b hA hx rfl hd' rfl hr
  case i2c => obtain ⟨z, r, rfl, rfl, rfl, rfl⟩ := un32_spec hs; exact XS.i2c hA hx rfl hd' rfl hr
  case i2s => obtain ⟨z, r, rfl, rfl, rfl, rfl⟩ := un32_spec hs; exact XS.i2s hA hx rfl hd' rfl hr
  case idiv =>
    simp only [stp] at hs
    split at hs
    · cases hs; exact XS.idiv hA hx rfl hd' rfl hp.1 hr
    · cases hs
  case irem =>
    simp only [stp] at hs
    split at hs
    · cases hs; exact iremM X hx rfl hd' rfl hp.1 hr
    · cases hs
  case ldiv =>
    simp only [stp] at hs
    split at hs
    · cases hs; exact XS.ldiv hA hx rfl hd' rfl hp.1 hr
    · cases hs
  case lrem =>
    simp only [stp] at hs
    split at hs
    · rename_i y z r
      cases hs
      have q : z - z / y * y = z % y := lrem_mod z y
      exact XS.lrem hA hx rfl hd' rfl hp.1 (by rw [q]; exact hr)
    · cases hs
  case lcmp =>
    simp only [stp] at hs
    split at hs
    · cases hs; exact XS.lcmp hA hx rfl hd' rfl hr
    · cases hs
  case pop =>
    simp only [stp] at hs
    split at hs
    · split at hs
      · rename_i e; cases hs; exact XS.pop hA hx rfl hd' rfl e hr
      · cases hs
    · cases hs
  case dup =>
    simp only [stp] at hs
    split at hs
    · split at hs
      · rename_i e; cases hs; exact XS.dup hA hx rfl hd' rfl e hr
      · cases hs
    · cases hs
  case dup_x1 =>
    simp only [stp] at hs
    split at hs
    · split at hs
      · rename_i e; cases hs; exact XS.dupX1 hA hx rfl hd' rfl e.1 e.2 hr
      · cases hs
    · cases hs
  case dup2 =>
    simp only [stp] at hs
    split at hs
    · split at hs
      · rename_i e; cases hs; exact XT.dup2 hA hx rfl hd' rfl e.1 e.2 hr
      · cases hs
    · cases hs
  case iinc j c =>
    simp only [stp] at hs
    split at hs
    · rename_i e1
      split at hs
      · rename_i e2; cases hs; exact XS.iinc hA hx rfl hd' e1 e2 hr
      · cases hs
    · cases hs
  case goto o =>
    simp only [stp] at hs
    split at hs
    · rename_i e; cases hs; obtain ⟨e1, e2⟩ := jump_spec e; exact XS.goto hA hx rfl rfl hd' e1 e2 hr
    · cases hs
  case ifCond cd o =>
    simp only [stp] at hs
    split at hs
    · obtain ⟨rfl, rfl, rfl, ⟨rfl, e⟩ | ⟨rfl, rfl⟩⟩ := br_spec hs
      · obtain ⟨e1, e2⟩ := jump_spec e; exact XS.ifYes hA hx rfl rfl hd' rfl hp.1 e1 e2 hr
      · exact XS.ifNo hA hx rfl hd' rfl hp.1 hr
    · cases hs
  case if_icmp cd o =>
    simp only [stp] at hs
    split at hs
    · obtain ⟨rfl, rfl, rfl, ⟨rfl, e⟩ | ⟨rfl, rfl⟩⟩ := br_spec hs
      · obtain ⟨e1, e2⟩ := jump_spec e; exact XS.icmpYes hA hx rfl rfl hd' rfl hp.1 e1 e2 hr
      · exact XS.icmpNo hA hx rfl hd' rfl hp.1 hr
    · cases hs
  case ifnull o =>
    simp only [stp] at hs
    split at hs
    · split at hs
      · rename_i e0; subst e0
        obtain ⟨rfl, rfl, rfl, ⟨-, e⟩ | ⟨e, -⟩⟩ := br_spec hs
        · obtain ⟨e1, e2⟩ := jump_spec e; exact XS.ifnullYes hA hx rfl rfl hd' rfl e1 e2 hr
        · cases e
      · cases hs
    · split at hs
      · cases hs
      · rename_i e0
        obtain ⟨rfl, rfl, rfl, ⟨e, -⟩ | ⟨-, rfl⟩⟩ := br_spec hs
        · exact absurd e e0
        · exact XS.ifnullNo hA hx rfl hd' rfl hr
    · cases hs
  case ifnonnull o =>
    simp only [stp] at hs
    split at hs
    · split at hs
      · cases hs
      · rename_i e0
        obtain ⟨rfl, rfl, rfl, ⟨e, -⟩ | ⟨-, rfl⟩⟩ := br_spec hs
        · exact absurd e e0
        · exact XS.ifnonnullNo hA hx rfl hd' rfl hr
    · split at hs
      · rename_i e0; subst e0
        obtain ⟨rfl, rfl, rfl, ⟨-, e⟩ | ⟨e, -⟩⟩ := br_spec hs
        · obtain ⟨e1, e2⟩ := jump_spec e; exact XS.ifnonnullYes hA hx rfl rfl hd' rfl e1 e2 hr
        · cases e
      · cases hs
    · cases hs
  all_goals cases hs
theorem run_ok (ok : Ok x Z own nm bytes ml rt R) (hK : Konst Z a0 own K) : ∀ (B : List (Nat × Instr × Bool)) {pc : Nat} {L : Array Slot} {S : List Value} {ps : List Prop} {pc' : Nat} {L' : Array Slot} {S' : List Value}, decs bytes B = true → runL K B pc L S = some (ps, pc', L', S') → allP ps →
    ∀ {T : State} {locs : List Loc} {target : State}, Sd x T locs k n → Steps x.p.tables x.e x.below (T.setTop (mkF x.m pc' L' S')) target → Steps x.p.tables x.e x.below (T.setTop (mkF x.m pc L S)) target
  | [], pc, L, S, ps, pc', L', S', _, hr, _, T, locs, target, X, st => by cases hr; exact st
  | (q, i, b) :: r, pc, L, S, ps, pc', L', S', hd, hr, hp, T, locs, target, X, st => by
    simp only [decs, List.all_cons, Bool.and_eq_true, decide_eq_true_eq] at hd
    simp only [runL] at hr
    split at hr
    · rename_i e; subst e
      split at hr
      · cases hr
      · rename_i ps1 pc1 L1 S1 e1
        split at hr
        · cases hr
        · rename_i ps2 t e2
          cases hr
          obtain ⟨p1, p2⟩ := allP_append hp
          exact stp_ok ok hK hd.1 e1 p1 X (run_ok ok hK r hd.2 e2 p2 X st)
    · cases hr
theorem wp_run (ok : Ok x Z own nm bytes ml rt R) (hK : Konst Z a0 own K) {B : List (Nat × Instr × Bool)} (hd : decs bytes B = true) (hr : runL K B pc L S = some (ps, pc', L', S')) (hp : allP ps) (w : WP x n0 Q h k n pc' L' S') : WP x n0 Q h k n pc L S :=
  wp_steps (fun T locs target X _ st => run_ok ok hK B hd hr hp X st) w
end Run
end Jvm.OwnW
namespace Jvm.OwnW
open Sem ClassFile Op Lib Jvm.Free Jvm.Stand Jvm.LawKit Jvm.RoadKit Jvm.Free.XT
/-! ## arrays by length and content -/
def Ar (Z : State) (h : Heap) (a : Addr) (ty : FieldType) (n : Nat) (f : Nat → Value) : Prop := ∃ c : Cell, Arr Z h a c ty ∧ c.slots.size = n ∧ ∀ i, i < n → c.slots[i]? = some (f i)
theorem idx_of {j : Int32} {i : Nat} (hj : j.toInt = i) : j.toNatClampNeg = i ∧ ¬ j < 0 := by
  refine ⟨by simp only [Int32.toNatClampNeg, hj]; exact Int.toNat_natCast i, ?_⟩
  rw [Int32.lt_iff_toInt_lt, hj]; show ¬ (i : Int) < 0; omega
theorem idx_in' {j : Int32} {i n : Nat} (hj : j.toInt = i) (hi : i < n) : ¬ (j < 0 ∨ n ≤ j.toNatClampNeg) := by
  obtain ⟨q1, q2⟩ := idx_of hj
  rw [q1]; intro q; rcases q with q | q
  · exact q2 q
  · omega
section Facts
variable {Z : State} {h h' : Heap} {a b : Addr} {ty : FieldType} {n : Nat} {f g : Nat → Value} {sl : Nat} {v : Value} {ws : List Addr}
theorem Ar.lt (A : Ar Z h a ty n f) : a < h.size := by obtain ⟨c, A, -⟩ := A; exact A.lt
theorem Ar.ext (A : Ar Z h a ty n f) (E : Ext h h') : Ar Z h' a ty n f := by obtain ⟨c, A, r⟩ := A; exact ⟨c, A.ext E, r⟩
theorem Ar.other (A : Ar Z h b ty n f) (W : Wr h h' a sl v) (q : b ≠ a) : Ar Z h' b ty n f := by obtain ⟨c, A, r⟩ := A; exact ⟨c, A.other W q, r⟩
theorem Ar.keep (A : Ar Z h a ty n f) (K : Keep h h' ws) (q : a ∉ ws) : Ar Z h' a ty n f := by obtain ⟨c, A, r⟩ := A; exact ⟨c, ⟨K.2.1 a c A.1 q, A.2⟩, r⟩
theorem Ar.cong (A : Ar Z h a ty n f) (e : ∀ i, i < n → f i = g i) : Ar Z h a ty n g := by obtain ⟨c, A, s, r⟩ := A; exact ⟨c, A, s, fun i hi => by rw [← e i hi]; exact r i hi⟩
theorem Ar.same (A : Ar Z h a ty n f) (W : Wr h h' a sl v) (hs : sl < n) : Ar Z h' a ty n (fun i => if i = sl then v else f i) := by
  obtain ⟨c, A, s, r⟩ := A
  refine ⟨_, A.same W, by rw [sz_set]; exact s, fun i hi => ?_⟩
  show (c.setSlot sl v).slots[i]? = some (if i = sl then v else f i)
  by_cases e : i = sl
  · subst e; rw [if_pos rfl]; simp [Cell.setSlot, s, hs]
  · rw [if_neg e]; simp only [Cell.setSlot]; rw [Array.getElem?_setIfInBounds_ne (Ne.symm e)]; exact r i hi
theorem Ar.new {cA : ClassId} {z : Int32} (A : Arr Z h a (newA cA ty z) ty) (hz : z.toNatClampNeg = n) : Ar Z h a ty n (fun _ => defaultValue ty) := ⟨_, A, by rw [sz_new]; exact hz, fun i hi => by simp [newA, hz, hi]⟩
theorem Ar.toArv (A : Ar Z h a ty n f) (hn : n < 2 ^ 31) (hf : ∀ i, i < n → fits ty (f i) = true) (dv : Value) : ∃ k, Arv Z h a k ty (Int32.ofNat n) ((List.range n).map f) dv := by
  obtain ⟨c, A, s, r⟩ := A
  have e : (Int32.ofNat n).toInt = n := len_toInt hn
  obtain ⟨q1, q2⟩ := idx_of e
  have gd : ∀ i, i < n → ((List.range n).map f).getD i dv = f i := fun i hi => by simp [hi]
  exact ⟨c.cls, c, A, rfl, by rw [s, q1], q2, fun i hi => by rw [s] at hi; rw [gd i hi]; exact r i hi, fun i hi => by rw [s] at hi; rw [gd i hi]; exact hf i hi⟩
theorem Ar.ofArv {k : ClassId} {z : Int32} {vs : List Value} {dv : Value} (A : Arv Z h a k ty z vs dv) (hz : z.toNatClampNeg = n) : Ar Z h a ty n (fun i => vs.getD i dv) := by
  obtain ⟨c, A, -, s, -, H, -⟩ := A
  exact ⟨c, A, s.trans hz, fun i hi => H i (by rw [s, hz]; exact hi)⟩
theorem ne_ar {C : String} {a0 : Array Value} {k : Nat} (F : Exa Z h a C) (wi : (Jvm.Cond.instantiable C k).before a0 Z = true) (G : Ar Z h b ty n f) : a ≠ b := by obtain ⟨c, A, -⟩ := G; exact ne_arr F wi A
end Facts
section Rules
variable {x : Cx} {Z : State} {own nm : String} {bytes : ByteArray} {ml : Nat} {rt : Option FieldType} {R : Room} {n0 : Nat} {Q : Post} {h : Heap} {k n : Nat} {pc : Nat} {L : Array Slot} {S rest : List Value} {a0 : Array Value} {a : Addr} {v : Value} {len i : Nat} {f : Nat → Value} {j : Int32}
theorem wp_aI (ok : Ok x Z own nm bytes ml rt R) (A : Ar Z h a .int len f) (hj : j.toInt = i) (hi : i < len) (hv : f i = v) (hd : decode bytes pc = .ok (.iaload, 1)) (hw : WP x n0 Q h k n (pc + 1) L (v :: rest)) : WP x n0 Q h k n pc L (.int j :: .ref a :: rest) := by
  obtain ⟨c, A, s, r⟩ := A
  exact wp_ldI ok A (by rw [s]; exact idx_in' hj hi) (by rw [(idx_of hj).1, ← hv]; exact r i hi) hd hw
theorem wp_aJ (ok : Ok x Z own nm bytes ml rt R) (A : Ar Z h a .long len f) (hj : j.toInt = i) (hi : i < len) (hv : f i = v) (hd : decode bytes pc = .ok (.laload, 1)) (hw : WP x n0 Q h k n (pc + 1) L (v :: rest)) : WP x n0 Q h k n pc L (.int j :: .ref a :: rest) := by
  obtain ⟨c, A, s, r⟩ := A
  exact wp_ldJ ok A (by rw [s]; exact idx_in' hj hi) (by rw [(idx_of hj).1, ← hv]; exact r i hi) hd hw
theorem wp_aB (ok : Ok x Z own nm bytes ml rt R) (A : Ar Z h a .byte len f) (hj : j.toInt = i) (hi : i < len) (hv : f i = v) (hd : decode bytes pc = .ok (.baload, 1)) (hw : WP x n0 Q h k n (pc + 1) L (v :: rest)) : WP x n0 Q h k n pc L (.int j :: .ref a :: rest) := by
  obtain ⟨c, A, s, r⟩ := A
  exact wp_ldB ok A (by rw [s]; exact idx_in' hj hi) (by rw [(idx_of hj).1, ← hv]; exact r i hi) hd hw
theorem wp_aZ (ok : Ok x Z own nm bytes ml rt R) (A : Ar Z h a .boolean len f) (hj : j.toInt = i) (hi : i < len) (hv : f i = v) (hd : decode bytes pc = .ok (.baload, 1)) (hw : WP x n0 Q h k n (pc + 1) L (v :: rest)) : WP x n0 Q h k n pc L (.int j :: .ref a :: rest) := by
  obtain ⟨c, A, s, r⟩ := A
  exact wp_ldZ ok A (by rw [s]; exact idx_in' hj hi) (by rw [(idx_of hj).1, ← hv]; exact r i hi) hd hw
theorem wp_alen {ty : FieldType} (ok : Ok x Z own nm bytes ml rt R) (A : Ar Z h a ty len f) (hd : decode bytes pc = .ok (.arraylength, 1)) (hw : WP x n0 Q h k n (pc + 1) L (.int (Int32.ofNat len) :: rest)) : WP x n0 Q h k n pc L (.ref a :: rest) := by
  obtain ⟨c, A, s, r⟩ := A
  refine wp_len ok A hd ?_
  rw [s]; exact hw
theorem wp_sI {z : Int32} (ok : Ok x Z own nm bytes ml rt R) (A : Ar Z h a .int len f) (hj : j.toInt = i) (hi : i < len) (hd : decode bytes pc = .ok (.iastore, 1)) (ha : n0 ≤ a)
    (hw : ∀ h', Wr h h' a i (.int z) → Ar Z h' a .int len (fun q => if q = i then .int z else f q) → WP x n0 Q h' k n (pc + 1) L rest) : WP x n0 Q h k n pc L (.int z :: .int j :: .ref a :: rest) := by
  have A0 := A
  obtain ⟨c, A, s, r⟩ := A
  refine wp_stI ok A (by rw [s]; exact idx_in' hj hi) hd ha ?_
  rw [(idx_of hj).1]
  exact fun h' W => hw h' W (A0.same W hi)
theorem wp_sJ {z : Int64} (ok : Ok x Z own nm bytes ml rt R) (A : Ar Z h a .long len f) (hj : j.toInt = i) (hi : i < len) (hd : decode bytes pc = .ok (.lastore, 1)) (ha : n0 ≤ a)
    (hw : ∀ h', Wr h h' a i (.long z) → Ar Z h' a .long len (fun q => if q = i then .long z else f q) → WP x n0 Q h' k n (pc + 1) L rest) : WP x n0 Q h k n pc L (.long z :: .int j :: .ref a :: rest) := by
  have A0 := A
  obtain ⟨c, A, s, r⟩ := A
  refine wp_stJ ok A (by rw [s]; exact idx_in' hj hi) hd ha ?_
  rw [(idx_of hj).1]
  exact fun h' W => hw h' W (A0.same W hi)
theorem wp_sB {z : Int32} (ok : Ok x Z own nm bytes ml rt R) (A : Ar Z h a .byte len f) (hj : j.toInt = i) (hi : i < len) (hd : decode bytes pc = .ok (.bastore, 1)) (ha : n0 ≤ a)
    (hw : ∀ h', Wr h h' a i (.int (nar .byte z)) → Ar Z h' a .byte len (fun q => if q = i then .int (nar .byte z) else f q) → WP x n0 Q h' k n (pc + 1) L rest) : WP x n0 Q h k n pc L (.int z :: .int j :: .ref a :: rest) := fun T locs X e N => by
  have A0 := A
  obtain ⟨c, A, s, r⟩ := A
  obtain ⟨T', h', X', e', W, st⟩ := stB X ok.1 ok.2.2.2.2.2.1 e A (by rw [s]; exact idx_in' hj hi) (g := mkF x.m pc L (.int z :: .int j :: .ref a :: rest)) rfl rfl (hb ok.2.1 hd)
  have W' := W
  rw [(idx_of hj).1] at W'
  obtain ⟨s₂, o, h1, r⟩ := hw h' W' (A0.same W' hi) T' _ X' e' (Fr.snoc X' N ha)
  exact ⟨s₂, o, st _ h1, r⟩
theorem wp_sZ {z : Int32} (ok : Ok x Z own nm bytes ml rt R) (A : Ar Z h a .boolean len f) (hj : j.toInt = i) (hi : i < len) (hd : decode bytes pc = .ok (.bastore, 1)) (ha : n0 ≤ a)
    (hw : ∀ h', Wr h h' a i (.int (nar .boolean z)) → Ar Z h' a .boolean len (fun q => if q = i then .int (nar .boolean z) else f q) → WP x n0 Q h' k n (pc + 1) L rest) : WP x n0 Q h k n pc L (.int z :: .int j :: .ref a :: rest) := fun T locs X e N => by
  have A0 := A
  obtain ⟨c, A, s, r⟩ := A
  obtain ⟨T', h', X', e', W, st⟩ := stZ X ok.1 ok.2.2.2.2.2.1 e A (by rw [s]; exact idx_in' hj hi) (g := mkF x.m pc L (.int z :: .int j :: .ref a :: rest)) rfl rfl (hb ok.2.1 hd)
  have W' := W
  rw [(idx_of hj).1] at W'
  obtain ⟨s₂, o, h1, r⟩ := hw h' W' (A0.same W' hi) T' _ X' e' (Fr.snoc X' N ha)
  exact ⟨s₂, o, st _ h1, r⟩
theorem wp_ldcF {b : UInt32} {index : Nat} (ok : Ok x Z own nm bytes ml rt R) (w : (Jvm.Cond.constantFloat own index b).before a0 Z = true) (hd : decode bytes pc = .ok (.ldc index, 2)) (hw : WP x n0 Q h k n (pc + 2) L (.float b :: S)) : WP x n0 Q h k n pc L S :=
  wp_steps (fun T locs target X e hr => X.ldcFloatC ok.1 ok.2.2.2.1 (mvT ok.2.2.2.2.2.1 w) (g := mkF x.m pc L S) rfl (hb ok.2.1 hd) target hr) hw
theorem wp_nA {aty : ArrayType} {z : Int32} {cap : Nat} (ok : Ok x Z own nm bytes ml rt R) (w : (Jvm.Cond.arrayClass (newarray.typeOf aty)).before a0 Z = true) (hd : decode bytes pc = .ok (.newarray aty, 2)) (hz : z.toInt = cap) (hb8 : cap * 8 ≤ 536870912) (hk : k + 1 ≤ R.cells) (hn : n + cap ≤ R.slots)
    (hw : ∀ h' a, a = h.size → Ext h h' → Ar Z h' a (newarray.typeOf aty) cap (fun _ => defaultValue (newarray.typeOf aty)) → WP x n0 Q h' (k + 1) (n + cap) (pc + 2) L (.ref a :: rest)) : WP x n0 Q h k n pc L (.int z :: rest) :=
  wp_newA ok w hd (idx_of hz).2 (Nat.le_of_eq (idx_of hz).1) hb8 hk hn fun h' a cA e E A => hw h' a e E (Ar.new A (idx_of hz).1)
end Rules
end Jvm.OwnW
namespace Jvm.OwnW
open Jvm.RoadKit
def lst (vs : List Value) : Nat → Value := fun i => vs.getD i .null
theorem lst_set {Z : State} {h : Heap} {a : Addr} {ty : ClassFile.FieldType} {n i : Nat} {v : Value} {vs vs' : List Value} (A : Ar Z h a ty n (fun q => if q = i then v else lst vs q)) (hn : vs.length = n) (hi : i < n) (e : vs.set i v = vs') : Ar Z h a ty n (lst vs') := A.cong fun q hq => by
  subst e
  by_cases p : q = i
  · subst p; rw [if_pos rfl]; simp [lst, hn, hi]
  · rw [if_neg p]; simp only [lst, List.getD_eq_getElem?_getD]; rw [List.getElem?_set_ne (Ne.symm p)]
theorem lst_new {Z : State} {h : Heap} {a : Addr} {ty : ClassFile.FieldType} {n : Nat} {v : Value} {vs : List Value} (A : Ar Z h a ty n (fun _ => v)) (e : List.replicate n v = vs) : Ar Z h a ty n (lst vs) := A.cong fun q hq => by
  subst e; simp [lst, hq]
end Jvm.OwnW
namespace Jvm.Pilot.@@N@@
open Jvm Jvm.ClassFile Sem Op Lib Jvm.Free Jvm.Stand Jvm.LawKit Jvm.RoadKit Bundle Jvm.OwnW Jvm.Free.XT Jvm.Pilot.@@N@@.Jvm.D
theorem own_at (a at_ : Int32) (h : at_ = (a &&& (3 : Int32))) : at_ = 0 ∨ at_ = 1 ∨ at_ = 2 ∨ at_ = 3 := by
  have e1 := c_mask a 3 2 (by decide) (by decide)
  have k : ∀ w : Int32, (at_ = w) ↔ at_.toInt = w.toInt := fun w => Int32.toInt_inj.symm
  simp only [k, Int32.reduceToInt]; rw [h, e1]; omega
theorem own_cp (cc cp : Int32) (h : cp = ((128 : Int32) + ((cc &&& (2147483647 : Int32)) % (1113984 : Int32)))) : 128 ≤ cp.toInt ∧ cp.toInt ≤ 1114111 := by
  have e1 := c_mask cc 2147483647 31 (by decide) (by decide)
  have e2 := (c_irem (cc &&& 2147483647) 1113984 1113984 rfl).1 (by rw [e1]; omega)
  have o1 : (128 : Int32).toInt = 128 := rfl
  rw [h, x_iadd (by rw [e2, o1]; omega) (by rw [e2, o1]; omega), e2, o1]; omega
theorem own_b (T : Int32) (h1 : 128 ≤ T.toInt) (h2 : T.toInt ≤ 255) : (nar .byte (T.toInt8.toInt32)).toInt = T.toInt - 256 := by
  show (T.toInt8.toInt32.toInt8.toInt32).toInt = _
  have a1 := c_i2b T
  have a2 := c_i2b T.toInt8.toInt32
  omega
theorem own_or (A w : Int32) (k : Nat) (hk : k ≤ 31) (P : Int) (hP : P = (2 ^ k : Nat)) (h1 : A.toInt % P = 0) (h2 : 0 ≤ w.toInt) (h3 : w.toInt < P) (h4 : 0 ≤ A.toInt) (h5 : A.toInt + w.toInt < 2147483648) : (A ||| w).toInt = A.toInt + w.toInt := by
  have q := c_or A w k hk P hP h1 h2 h3
  have b1 := (A ||| w).toInt_lt
  have b2 := (A ||| w).le_toInt
  omega
theorem own_st (v y : Int32) (h1 : 0 ≤ v.toInt) (h2 : v.toInt < 16777216) : ((v <<< ((6 : Int32) &&& 31)) ||| (y &&& (63 : Int32))).toInt = v.toInt * 64 + y.toInt % 64 := by
  have q1 := c_ishl v 6 6 (by decide)
  have b1 := (v <<< ((6 : Int32) &&& 31)).toInt_lt
  have b2 := (v <<< ((6 : Int32) &&& 31)).le_toInt
  have q2 : (v <<< ((6 : Int32) &&& 31)).toInt = v.toInt * 64 := by omega
  have q3 := c_mask y 63 6 (by decide) (by decide)
  rw [own_or _ _ 6 (by decide) 64 rfl (by rw [q2]; omega) (by rw [q3]; omega) (by rw [q3]; omega) (by rw [q2]; omega) (by rw [q2, q3]; omega), q2, q3]
  omega
theorem own_c (w : Int32) : (nar .byte (((128 : Int32) ||| (w &&& (63 : Int32))).toInt8.toInt32)).toInt % 64 = w.toInt % 64 := by
  have q3 := c_mask w 63 6 (by decide) (by decide)
  have o : (128 : Int32).toInt = 128 := rfl
  have q4 := own_or 128 (w &&& 63) 6 (by decide) 64 rfl (by rw [o]; decide) (by rw [q3]; omega) (by rw [q3]; omega) (by rw [o]; decide) (by rw [o, q3]; omega)
  rw [own_b _ (by rw [q4, o, q3]; omega) (by rw [q4, o, q3]; omega), q4, o, q3]; omega

def k_cp02 : List (Nat × Value) := []
def Q_cp02 (Z : State) (b : Addr) (x0 : Int32) (x1 : Int32) (x2 : Int32) (x3 : Int32) (x4 : Int32) (x5 : Int32) (x6 : Int32) (x7 : Int32) (h0 : Heap) : Post := fun v h => v = some (.int (((x0 &&& ((127 : Int32) >>> ((2 : Int32) &&& 31))) <<< ((6 : Int32) &&& 31)) ||| (x1 &&& (63 : Int32)))) ∧ h0 = h
theorem pn_cp02 : plainFor (⟨"com/example/stamp_to_key/stamptokey/Utf8", "codePoint", "([BII)I"⟩ : MethodName) = true := by first | (refine plainFor_of_name ?_; simp [plainName, overriddenIn]; done) | decide +kernel
set_option maxRecDepth 65536 in
set_option maxHeartbeats 40000000 in
theorem c_cp02 (l : Launch) (Z : State) (a0 : Array Value) (hw : ∀ d ∈ tables_1, d.before a0 Z = true) (b : Addr) (x0 : Int32) (x1 : Int32) (x2 : Int32) (x3 : Int32) (x4 : Int32) (x5 : Int32) (x6 : Int32) (x7 : Int32) (h0 : Heap) (n0 : Nat) (Z0 : n0 ≤ h0.size) (A_b : Ar Z h0 b .byte 8 (lst [.int x0, .int x1, .int x2, .int x3, .int x4, .int x5, .int x6, .int x7])) (g_b : n0 ≤ b) :
    Con l Z (⟨"com/example/stamp_to_key/stamptokey/Utf8", "codePoint", "([BII)I"⟩ : MethodName) prog_34_method_6_code 5 (some .int) ({ frames := 0, cells := 0, slots := 0, locals := 0 } : Room) #[(.ref b), .int (0 : Int32), .int (2 : Int32)] h0 n0 (Q_cp02 Z b x0 x1 x2 x3 x4 x5 x6 x7 h0) [] := by
  refine con_of_wp pn_cp02 (L0 := #[.val ((.ref b)), .val (.int (0 : Int32)), .val (.int (2 : Int32)), .unset, .unset]) (fun m => by first | (simp [entryFrame, mkF, argsToLocals, Value.category]; done) | rfl) (fun X hl ok => ?_)
  subst hl
  have hK : Konst Z a0 "com/example/stamp_to_key/stamptokey/Utf8" k_cp02 := trivial
  refine wp_run ok hK (B := [(0, .aload_n 0, false), (1, .iload_n 1, false)]) (by decide +kernel) (ps := []) (pc' := 2) (L' := #[.val ((.ref b)), .val (.int (0 : Int32)), .val (.int (2 : Int32)), .unset, .unset]) (S' := [.int (0 : Int32), (.ref b)]) rfl trivial ?_
  refine wp_aB ok A_b (i := 0) (v := .int x0) (by rfl) (by decide) rfl (by decide +kernel) ?_
  refine wp_run ok hK (B := [(3, .bipush 127, false), (5, .iload_n 2, false), (6, .iload_n 1, false), (7, .isub, false), (8, .ishr, false), (9, .iand, false), (10, .istore_n 3, false), (11, .iload_n 1, false), (12, .iconst 1, false), (13, .iadd, false), (14, .istore 4, false)]) (by decide +kernel) (ps := []) (pc' := 16) (L' := #[.val ((.ref b)), .val (.int (0 : Int32)), .val (.int (2 : Int32)), .val (.int (x0 &&& ((127 : Int32) >>> ((2 : Int32) &&& 31)))), .val (.int (1 : Int32))]) (S' := []) rfl trivial ?_
  refine wp_run ok hK (B := [(16, .iload 4, false), (18, .iload_n 2, false), (19, .if_icmp .ge 22, false), (22, .iload_n 3, false), (23, .bipush 6, false), (25, .ishl, false), (26, .aload_n 0, false), (27, .iload 4, false)]) (by decide +kernel) (ps := [Op.if_icmp.holds .ge (1 : Int32) (2 : Int32) = false]) (pc' := 29) (L' := #[.val ((.ref b)), .val (.int (0 : Int32)), .val (.int (2 : Int32)), .val (.int (x0 &&& ((127 : Int32) >>> ((2 : Int32) &&& 31)))), .val (.int (1 : Int32))]) (S' := [.int (1 : Int32), (.ref b), .int ((x0 &&& ((127 : Int32) >>> ((2 : Int32) &&& 31))) <<< ((6 : Int32) &&& 31))]) rfl ⟨(XT.ii_ge_f (by decide)), trivial⟩ ?_
  refine wp_aB ok A_b (i := 1) (v := .int x1) (by rfl) (by decide) rfl (by decide +kernel) ?_
  refine wp_run ok hK (B := [(30, .bipush 63, false), (32, .iand, false), (33, .ior, false), (34, .istore_n 3, false), (35, .iinc 4 1, false)]) (by decide +kernel) (ps := []) (pc' := 38) (L' := #[.val ((.ref b)), .val (.int (0 : Int32)), .val (.int (2 : Int32)), .val (.int (((x0 &&& ((127 : Int32) >>> ((2 : Int32) &&& 31))) <<< ((6 : Int32) &&& 31)) ||| (x1 &&& (63 : Int32)))), .val (.int (2 : Int32))]) (S' := []) rfl trivial ?_
  refine wp_run ok hK (B := [(38, .goto (-22), false), (16, .iload 4, false), (18, .iload_n 2, false), (19, .if_icmp .ge 22, true), (41, .iload_n 3, false)]) (by decide +kernel) (ps := [Op.if_icmp.holds .ge (2 : Int32) (2 : Int32) = true]) (pc' := 42) (L' := #[.val ((.ref b)), .val (.int (0 : Int32)), .val (.int (2 : Int32)), .val (.int (((x0 &&& ((127 : Int32) >>> ((2 : Int32) &&& 31))) <<< ((6 : Int32) &&& 31)) ||| (x1 &&& (63 : Int32)))), .val (.int (2 : Int32))]) (S' := [.int (((x0 &&& ((127 : Int32) >>> ((2 : Int32) &&& 31))) <<< ((6 : Int32) &&& 31)) ||| (x1 &&& (63 : Int32)))]) rfl ⟨(XT.ii_ge_t (by decide)), trivial⟩ ?_
  refine wp_retI ok (by decide +kernel) (by decide) (by decide) ?_
  exact ⟨rfl, rfl⟩
def k_cp03 : List (Nat × Value) := []
def Q_cp03 (Z : State) (b : Addr) (x0 : Int32) (x1 : Int32) (x2 : Int32) (x3 : Int32) (x4 : Int32) (x5 : Int32) (x6 : Int32) (x7 : Int32) (h0 : Heap) : Post := fun v h => v = some (.int (((((x0 &&& ((127 : Int32) >>> ((3 : Int32) &&& 31))) <<< ((6 : Int32) &&& 31)) ||| (x1 &&& (63 : Int32))) <<< ((6 : Int32) &&& 31)) ||| (x2 &&& (63 : Int32)))) ∧ h0 = h
theorem pn_cp03 : plainFor (⟨"com/example/stamp_to_key/stamptokey/Utf8", "codePoint", "([BII)I"⟩ : MethodName) = true := by first | (refine plainFor_of_name ?_; simp [plainName, overriddenIn]; done) | decide +kernel
set_option maxRecDepth 65536 in
set_option maxHeartbeats 40000000 in
theorem c_cp03 (l : Launch) (Z : State) (a0 : Array Value) (hw : ∀ d ∈ tables_1, d.before a0 Z = true) (b : Addr) (x0 : Int32) (x1 : Int32) (x2 : Int32) (x3 : Int32) (x4 : Int32) (x5 : Int32) (x6 : Int32) (x7 : Int32) (h0 : Heap) (n0 : Nat) (Z0 : n0 ≤ h0.size) (A_b : Ar Z h0 b .byte 8 (lst [.int x0, .int x1, .int x2, .int x3, .int x4, .int x5, .int x6, .int x7])) (g_b : n0 ≤ b) :
    Con l Z (⟨"com/example/stamp_to_key/stamptokey/Utf8", "codePoint", "([BII)I"⟩ : MethodName) prog_34_method_6_code 5 (some .int) ({ frames := 0, cells := 0, slots := 0, locals := 0 } : Room) #[(.ref b), .int (0 : Int32), .int (3 : Int32)] h0 n0 (Q_cp03 Z b x0 x1 x2 x3 x4 x5 x6 x7 h0) [] := by
  refine con_of_wp pn_cp03 (L0 := #[.val ((.ref b)), .val (.int (0 : Int32)), .val (.int (3 : Int32)), .unset, .unset]) (fun m => by first | (simp [entryFrame, mkF, argsToLocals, Value.category]; done) | rfl) (fun X hl ok => ?_)
  subst hl
  have hK : Konst Z a0 "com/example/stamp_to_key/stamptokey/Utf8" k_cp03 := trivial
  refine wp_run ok hK (B := [(0, .aload_n 0, false), (1, .iload_n 1, false)]) (by decide +kernel) (ps := []) (pc' := 2) (L' := #[.val ((.ref b)), .val (.int (0 : Int32)), .val (.int (3 : Int32)), .unset, .unset]) (S' := [.int (0 : Int32), (.ref b)]) rfl trivial ?_
  refine wp_aB ok A_b (i := 0) (v := .int x0) (by rfl) (by decide) rfl (by decide +kernel) ?_
  refine wp_run ok hK (B := [(3, .bipush 127, false), (5, .iload_n 2, false), (6, .iload_n 1, false), (7, .isub, false), (8, .ishr, false), (9, .iand, false), (10, .istore_n 3, false), (11, .iload_n 1, false), (12, .iconst 1, false), (13, .iadd, false), (14, .istore 4, false)]) (by decide +kernel) (ps := []) (pc' := 16) (L' := #[.val ((.ref b)), .val (.int (0 : Int32)), .val (.int (3 : Int32)), .val (.int (x0 &&& ((127 : Int32) >>> ((3 : Int32) &&& 31)))), .val (.int (1 : Int32))]) (S' := []) rfl trivial ?_
  refine wp_run ok hK (B := [(16, .iload 4, false), (18, .iload_n 2, false), (19, .if_icmp .ge 22, false), (22, .iload_n 3, false), (23, .bipush 6, false), (25, .ishl, false), (26, .aload_n 0, false), (27, .iload 4, false)]) (by decide +kernel) (ps := [Op.if_icmp.holds .ge (1 : Int32) (3 : Int32) = false]) (pc' := 29) (L' := #[.val ((.ref b)), .val (.int (0 : Int32)), .val (.int (3 : Int32)), .val (.int (x0 &&& ((127 : Int32) >>> ((3 : Int32) &&& 31)))), .val (.int (1 : Int32))]) (S' := [.int (1 : Int32), (.ref b), .int ((x0 &&& ((127 : Int32) >>> ((3 : Int32) &&& 31))) <<< ((6 : Int32) &&& 31))]) rfl ⟨(XT.ii_ge_f (by decide)), trivial⟩ ?_
  refine wp_aB ok A_b (i := 1) (v := .int x1) (by rfl) (by decide) rfl (by decide +kernel) ?_
  refine wp_run ok hK (B := [(30, .bipush 63, false), (32, .iand, false), (33, .ior, false), (34, .istore_n 3, false), (35, .iinc 4 1, false)]) (by decide +kernel) (ps := []) (pc' := 38) (L' := #[.val ((.ref b)), .val (.int (0 : Int32)), .val (.int (3 : Int32)), .val (.int (((x0 &&& ((127 : Int32) >>> ((3 : Int32) &&& 31))) <<< ((6 : Int32) &&& 31)) ||| (x1 &&& (63 : Int32)))), .val (.int (2 : Int32))]) (S' := []) rfl trivial ?_
  refine wp_run ok hK (B := [(38, .goto (-22), false), (16, .iload 4, false), (18, .iload_n 2, false), (19, .if_icmp .ge 22, false), (22, .iload_n 3, false), (23, .bipush 6, false), (25, .ishl, false), (26, .aload_n 0, false), (27, .iload 4, false)]) (by decide +kernel) (ps := [Op.if_icmp.holds .ge (2 : Int32) (3 : Int32) = false]) (pc' := 29) (L' := #[.val ((.ref b)), .val (.int (0 : Int32)), .val (.int (3 : Int32)), .val (.int (((x0 &&& ((127 : Int32) >>> ((3 : Int32) &&& 31))) <<< ((6 : Int32) &&& 31)) ||| (x1 &&& (63 : Int32)))), .val (.int (2 : Int32))]) (S' := [.int (2 : Int32), (.ref b), .int ((((x0 &&& ((127 : Int32) >>> ((3 : Int32) &&& 31))) <<< ((6 : Int32) &&& 31)) ||| (x1 &&& (63 : Int32))) <<< ((6 : Int32) &&& 31))]) rfl ⟨(XT.ii_ge_f (by decide)), trivial⟩ ?_
  refine wp_aB ok A_b (i := 2) (v := .int x2) (by rfl) (by decide) rfl (by decide +kernel) ?_
  refine wp_run ok hK (B := [(30, .bipush 63, false), (32, .iand, false), (33, .ior, false), (34, .istore_n 3, false), (35, .iinc 4 1, false)]) (by decide +kernel) (ps := []) (pc' := 38) (L' := #[.val ((.ref b)), .val (.int (0 : Int32)), .val (.int (3 : Int32)), .val (.int (((((x0 &&& ((127 : Int32) >>> ((3 : Int32) &&& 31))) <<< ((6 : Int32) &&& 31)) ||| (x1 &&& (63 : Int32))) <<< ((6 : Int32) &&& 31)) ||| (x2 &&& (63 : Int32)))), .val (.int (3 : Int32))]) (S' := []) rfl trivial ?_
  refine wp_run ok hK (B := [(38, .goto (-22), false), (16, .iload 4, false), (18, .iload_n 2, false), (19, .if_icmp .ge 22, true), (41, .iload_n 3, false)]) (by decide +kernel) (ps := [Op.if_icmp.holds .ge (3 : Int32) (3 : Int32) = true]) (pc' := 42) (L' := #[.val ((.ref b)), .val (.int (0 : Int32)), .val (.int (3 : Int32)), .val (.int (((((x0 &&& ((127 : Int32) >>> ((3 : Int32) &&& 31))) <<< ((6 : Int32) &&& 31)) ||| (x1 &&& (63 : Int32))) <<< ((6 : Int32) &&& 31)) ||| (x2 &&& (63 : Int32)))), .val (.int (3 : Int32))]) (S' := [.int (((((x0 &&& ((127 : Int32) >>> ((3 : Int32) &&& 31))) <<< ((6 : Int32) &&& 31)) ||| (x1 &&& (63 : Int32))) <<< ((6 : Int32) &&& 31)) ||| (x2 &&& (63 : Int32)))]) rfl ⟨(XT.ii_ge_t (by decide)), trivial⟩ ?_
  refine wp_retI ok (by decide +kernel) (by decide) (by decide) ?_
  exact ⟨rfl, rfl⟩
def k_cp04 : List (Nat × Value) := []
def Q_cp04 (Z : State) (b : Addr) (x0 : Int32) (x1 : Int32) (x2 : Int32) (x3 : Int32) (x4 : Int32) (x5 : Int32) (x6 : Int32) (x7 : Int32) (h0 : Heap) : Post := fun v h => v = some (.int (((((((x0 &&& ((127 : Int32) >>> ((4 : Int32) &&& 31))) <<< ((6 : Int32) &&& 31)) ||| (x1 &&& (63 : Int32))) <<< ((6 : Int32) &&& 31)) ||| (x2 &&& (63 : Int32))) <<< ((6 : Int32) &&& 31)) ||| (x3 &&& (63 : Int32)))) ∧ h0 = h
theorem pn_cp04 : plainFor (⟨"com/example/stamp_to_key/stamptokey/Utf8", "codePoint", "([BII)I"⟩ : MethodName) = true := by first | (refine plainFor_of_name ?_; simp [plainName, overriddenIn]; done) | decide +kernel
set_option maxRecDepth 65536 in
set_option maxHeartbeats 40000000 in
theorem c_cp04 (l : Launch) (Z : State) (a0 : Array Value) (hw : ∀ d ∈ tables_1, d.before a0 Z = true) (b : Addr) (x0 : Int32) (x1 : Int32) (x2 : Int32) (x3 : Int32) (x4 : Int32) (x5 : Int32) (x6 : Int32) (x7 : Int32) (h0 : Heap) (n0 : Nat) (Z0 : n0 ≤ h0.size) (A_b : Ar Z h0 b .byte 8 (lst [.int x0, .int x1, .int x2, .int x3, .int x4, .int x5, .int x6, .int x7])) (g_b : n0 ≤ b) :
    Con l Z (⟨"com/example/stamp_to_key/stamptokey/Utf8", "codePoint", "([BII)I"⟩ : MethodName) prog_34_method_6_code 5 (some .int) ({ frames := 0, cells := 0, slots := 0, locals := 0 } : Room) #[(.ref b), .int (0 : Int32), .int (4 : Int32)] h0 n0 (Q_cp04 Z b x0 x1 x2 x3 x4 x5 x6 x7 h0) [] := by
  refine con_of_wp pn_cp04 (L0 := #[.val ((.ref b)), .val (.int (0 : Int32)), .val (.int (4 : Int32)), .unset, .unset]) (fun m => by first | (simp [entryFrame, mkF, argsToLocals, Value.category]; done) | rfl) (fun X hl ok => ?_)
  subst hl
  have hK : Konst Z a0 "com/example/stamp_to_key/stamptokey/Utf8" k_cp04 := trivial
  refine wp_run ok hK (B := [(0, .aload_n 0, false), (1, .iload_n 1, false)]) (by decide +kernel) (ps := []) (pc' := 2) (L' := #[.val ((.ref b)), .val (.int (0 : Int32)), .val (.int (4 : Int32)), .unset, .unset]) (S' := [.int (0 : Int32), (.ref b)]) rfl trivial ?_
  refine wp_aB ok A_b (i := 0) (v := .int x0) (by rfl) (by decide) rfl (by decide +kernel) ?_
  refine wp_run ok hK (B := [(3, .bipush 127, false), (5, .iload_n 2, false), (6, .iload_n 1, false), (7, .isub, false), (8, .ishr, false), (9, .iand, false), (10, .istore_n 3, false), (11, .iload_n 1, false), (12, .iconst 1, false), (13, .iadd, false), (14, .istore 4, false)]) (by decide +kernel) (ps := []) (pc' := 16) (L' := #[.val ((.ref b)), .val (.int (0 : Int32)), .val (.int (4 : Int32)), .val (.int (x0 &&& ((127 : Int32) >>> ((4 : Int32) &&& 31)))), .val (.int (1 : Int32))]) (S' := []) rfl trivial ?_
  refine wp_run ok hK (B := [(16, .iload 4, false), (18, .iload_n 2, false), (19, .if_icmp .ge 22, false), (22, .iload_n 3, false), (23, .bipush 6, false), (25, .ishl, false), (26, .aload_n 0, false), (27, .iload 4, false)]) (by decide +kernel) (ps := [Op.if_icmp.holds .ge (1 : Int32) (4 : Int32) = false]) (pc' := 29) (L' := #[.val ((.ref b)), .val (.int (0 : Int32)), .val (.int (4 : Int32)), .val (.int (x0 &&& ((127 : Int32) >>> ((4 : Int32) &&& 31)))), .val (.int (1 : Int32))]) (S' := [.int (1 : Int32), (.ref b), .int ((x0 &&& ((127 : Int32) >>> ((4 : Int32) &&& 31))) <<< ((6 : Int32) &&& 31))]) rfl ⟨(XT.ii_ge_f (by decide)), trivial⟩ ?_
  refine wp_aB ok A_b (i := 1) (v := .int x1) (by rfl) (by decide) rfl (by decide +kernel) ?_
  refine wp_run ok hK (B := [(30, .bipush 63, false), (32, .iand, false), (33, .ior, false), (34, .istore_n 3, false), (35, .iinc 4 1, false)]) (by decide +kernel) (ps := []) (pc' := 38) (L' := #[.val ((.ref b)), .val (.int (0 : Int32)), .val (.int (4 : Int32)), .val (.int (((x0 &&& ((127 : Int32) >>> ((4 : Int32) &&& 31))) <<< ((6 : Int32) &&& 31)) ||| (x1 &&& (63 : Int32)))), .val (.int (2 : Int32))]) (S' := []) rfl trivial ?_
  refine wp_run ok hK (B := [(38, .goto (-22), false), (16, .iload 4, false), (18, .iload_n 2, false), (19, .if_icmp .ge 22, false), (22, .iload_n 3, false), (23, .bipush 6, false), (25, .ishl, false), (26, .aload_n 0, false), (27, .iload 4, false)]) (by decide +kernel) (ps := [Op.if_icmp.holds .ge (2 : Int32) (4 : Int32) = false]) (pc' := 29) (L' := #[.val ((.ref b)), .val (.int (0 : Int32)), .val (.int (4 : Int32)), .val (.int (((x0 &&& ((127 : Int32) >>> ((4 : Int32) &&& 31))) <<< ((6 : Int32) &&& 31)) ||| (x1 &&& (63 : Int32)))), .val (.int (2 : Int32))]) (S' := [.int (2 : Int32), (.ref b), .int ((((x0 &&& ((127 : Int32) >>> ((4 : Int32) &&& 31))) <<< ((6 : Int32) &&& 31)) ||| (x1 &&& (63 : Int32))) <<< ((6 : Int32) &&& 31))]) rfl ⟨(XT.ii_ge_f (by decide)), trivial⟩ ?_
  refine wp_aB ok A_b (i := 2) (v := .int x2) (by rfl) (by decide) rfl (by decide +kernel) ?_
  refine wp_run ok hK (B := [(30, .bipush 63, false), (32, .iand, false), (33, .ior, false), (34, .istore_n 3, false), (35, .iinc 4 1, false)]) (by decide +kernel) (ps := []) (pc' := 38) (L' := #[.val ((.ref b)), .val (.int (0 : Int32)), .val (.int (4 : Int32)), .val (.int (((((x0 &&& ((127 : Int32) >>> ((4 : Int32) &&& 31))) <<< ((6 : Int32) &&& 31)) ||| (x1 &&& (63 : Int32))) <<< ((6 : Int32) &&& 31)) ||| (x2 &&& (63 : Int32)))), .val (.int (3 : Int32))]) (S' := []) rfl trivial ?_
  refine wp_run ok hK (B := [(38, .goto (-22), false), (16, .iload 4, false), (18, .iload_n 2, false), (19, .if_icmp .ge 22, false), (22, .iload_n 3, false), (23, .bipush 6, false), (25, .ishl, false), (26, .aload_n 0, false), (27, .iload 4, false)]) (by decide +kernel) (ps := [Op.if_icmp.holds .ge (3 : Int32) (4 : Int32) = false]) (pc' := 29) (L' := #[.val ((.ref b)), .val (.int (0 : Int32)), .val (.int (4 : Int32)), .val (.int (((((x0 &&& ((127 : Int32) >>> ((4 : Int32) &&& 31))) <<< ((6 : Int32) &&& 31)) ||| (x1 &&& (63 : Int32))) <<< ((6 : Int32) &&& 31)) ||| (x2 &&& (63 : Int32)))), .val (.int (3 : Int32))]) (S' := [.int (3 : Int32), (.ref b), .int ((((((x0 &&& ((127 : Int32) >>> ((4 : Int32) &&& 31))) <<< ((6 : Int32) &&& 31)) ||| (x1 &&& (63 : Int32))) <<< ((6 : Int32) &&& 31)) ||| (x2 &&& (63 : Int32))) <<< ((6 : Int32) &&& 31))]) rfl ⟨(XT.ii_ge_f (by decide)), trivial⟩ ?_
  refine wp_aB ok A_b (i := 3) (v := .int x3) (by rfl) (by decide) rfl (by decide +kernel) ?_
  refine wp_run ok hK (B := [(30, .bipush 63, false), (32, .iand, false), (33, .ior, false), (34, .istore_n 3, false), (35, .iinc 4 1, false)]) (by decide +kernel) (ps := []) (pc' := 38) (L' := #[.val ((.ref b)), .val (.int (0 : Int32)), .val (.int (4 : Int32)), .val (.int (((((((x0 &&& ((127 : Int32) >>> ((4 : Int32) &&& 31))) <<< ((6 : Int32) &&& 31)) ||| (x1 &&& (63 : Int32))) <<< ((6 : Int32) &&& 31)) ||| (x2 &&& (63 : Int32))) <<< ((6 : Int32) &&& 31)) ||| (x3 &&& (63 : Int32)))), .val (.int (4 : Int32))]) (S' := []) rfl trivial ?_
  refine wp_run ok hK (B := [(38, .goto (-22), false), (16, .iload 4, false), (18, .iload_n 2, false), (19, .if_icmp .ge 22, true), (41, .iload_n 3, false)]) (by decide +kernel) (ps := [Op.if_icmp.holds .ge (4 : Int32) (4 : Int32) = true]) (pc' := 42) (L' := #[.val ((.ref b)), .val (.int (0 : Int32)), .val (.int (4 : Int32)), .val (.int (((((((x0 &&& ((127 : Int32) >>> ((4 : Int32) &&& 31))) <<< ((6 : Int32) &&& 31)) ||| (x1 &&& (63 : Int32))) <<< ((6 : Int32) &&& 31)) ||| (x2 &&& (63 : Int32))) <<< ((6 : Int32) &&& 31)) ||| (x3 &&& (63 : Int32)))), .val (.int (4 : Int32))]) (S' := [.int (((((((x0 &&& ((127 : Int32) >>> ((4 : Int32) &&& 31))) <<< ((6 : Int32) &&& 31)) ||| (x1 &&& (63 : Int32))) <<< ((6 : Int32) &&& 31)) ||| (x2 &&& (63 : Int32))) <<< ((6 : Int32) &&& 31)) ||| (x3 &&& (63 : Int32)))]) rfl ⟨(XT.ii_ge_t (by decide)), trivial⟩ ?_
  refine wp_retI ok (by decide +kernel) (by decide) (by decide) ?_
  exact ⟨rfl, rfl⟩
def k_cp12 : List (Nat × Value) := []
def Q_cp12 (Z : State) (b : Addr) (x0 : Int32) (x1 : Int32) (x2 : Int32) (x3 : Int32) (x4 : Int32) (x5 : Int32) (x6 : Int32) (x7 : Int32) (h0 : Heap) : Post := fun v h => v = some (.int (((x1 &&& ((127 : Int32) >>> ((2 : Int32) &&& 31))) <<< ((6 : Int32) &&& 31)) ||| (x2 &&& (63 : Int32)))) ∧ h0 = h
theorem pn_cp12 : plainFor (⟨"com/example/stamp_to_key/stamptokey/Utf8", "codePoint", "([BII)I"⟩ : MethodName) = true := by first | (refine plainFor_of_name ?_; simp [plainName, overriddenIn]; done) | decide +kernel
set_option maxRecDepth 65536 in
set_option maxHeartbeats 40000000 in
theorem c_cp12 (l : Launch) (Z : State) (a0 : Array Value) (hw : ∀ d ∈ tables_1, d.before a0 Z = true) (b : Addr) (x0 : Int32) (x1 : Int32) (x2 : Int32) (x3 : Int32) (x4 : Int32) (x5 : Int32) (x6 : Int32) (x7 : Int32) (h0 : Heap) (n0 : Nat) (Z0 : n0 ≤ h0.size) (A_b : Ar Z h0 b .byte 8 (lst [.int x0, .int x1, .int x2, .int x3, .int x4, .int x5, .int x6, .int x7])) (g_b : n0 ≤ b) :
    Con l Z (⟨"com/example/stamp_to_key/stamptokey/Utf8", "codePoint", "([BII)I"⟩ : MethodName) prog_34_method_6_code 5 (some .int) ({ frames := 0, cells := 0, slots := 0, locals := 0 } : Room) #[(.ref b), .int (1 : Int32), .int (3 : Int32)] h0 n0 (Q_cp12 Z b x0 x1 x2 x3 x4 x5 x6 x7 h0) [] := by
  refine con_of_wp pn_cp12 (L0 := #[.val ((.ref b)), .val (.int (1 : Int32)), .val (.int (3 : Int32)), .unset, .unset]) (fun m => by first | (simp [entryFrame, mkF, argsToLocals, Value.category]; done) | rfl) (fun X hl ok => ?_)
  subst hl
  have hK : Konst Z a0 "com/example/stamp_to_key/stamptokey/Utf8" k_cp12 := trivial
  refine wp_run ok hK (B := [(0, .aload_n 0, false), (1, .iload_n 1, false)]) (by decide +kernel) (ps := []) (pc' := 2) (L' := #[.val ((.ref b)), .val (.int (1 : Int32)), .val (.int (3 : Int32)), .unset, .unset]) (S' := [.int (1 : Int32), (.ref b)]) rfl trivial ?_
  refine wp_aB ok A_b (i := 1) (v := .int x1) (by rfl) (by decide) rfl (by decide +kernel) ?_
  refine wp_run ok hK (B := [(3, .bipush 127, false), (5, .iload_n 2, false), (6, .iload_n 1, false), (7, .isub, false), (8, .ishr, false), (9, .iand, false), (10, .istore_n 3, false), (11, .iload_n 1, false), (12, .iconst 1, false), (13, .iadd, false), (14, .istore 4, false)]) (by decide +kernel) (ps := []) (pc' := 16) (L' := #[.val ((.ref b)), .val (.int (1 : Int32)), .val (.int (3 : Int32)), .val (.int (x1 &&& ((127 : Int32) >>> ((2 : Int32) &&& 31)))), .val (.int (2 : Int32))]) (S' := []) rfl trivial ?_
  refine wp_run ok hK (B := [(16, .iload 4, false), (18, .iload_n 2, false), (19, .if_icmp .ge 22, false), (22, .iload_n 3, false), (23, .bipush 6, false), (25, .ishl, false), (26, .aload_n 0, false), (27, .iload 4, false)]) (by decide +kernel) (ps := [Op.if_icmp.holds .ge (2 : Int32) (3 : Int32) = false]) (pc' := 29) (L' := #[.val ((.ref b)), .val (.int (1 : Int32)), .val (.int (3 : Int32)), .val (.int (x1 &&& ((127 : Int32) >>> ((2 : Int32) &&& 31)))), .val (.int (2 : Int32))]) (S' := [.int (2 : Int32), (.ref b), .int ((x1 &&& ((127 : Int32) >>> ((2 : Int32) &&& 31))) <<< ((6 : Int32) &&& 31))]) rfl ⟨(XT.ii_ge_f (by decide)), trivial⟩ ?_
  refine wp_aB ok A_b (i := 2) (v := .int x2) (by rfl) (by decide) rfl (by decide +kernel) ?_
  refine wp_run ok hK (B := [(30, .bipush 63, false), (32, .iand, false), (33, .ior, false), (34, .istore_n 3, false), (35, .iinc 4 1, false)]) (by decide +kernel) (ps := []) (pc' := 38) (L' := #[.val ((.ref b)), .val (.int (1 : Int32)), .val (.int (3 : Int32)), .val (.int (((x1 &&& ((127 : Int32) >>> ((2 : Int32) &&& 31))) <<< ((6 : Int32) &&& 31)) ||| (x2 &&& (63 : Int32)))), .val (.int (3 : Int32))]) (S' := []) rfl trivial ?_
  refine wp_run ok hK (B := [(38, .goto (-22), false), (16, .iload 4, false), (18, .iload_n 2, false), (19, .if_icmp .ge 22, true), (41, .iload_n 3, false)]) (by decide +kernel) (ps := [Op.if_icmp.holds .ge (3 : Int32) (3 : Int32) = true]) (pc' := 42) (L' := #[.val ((.ref b)), .val (.int (1 : Int32)), .val (.int (3 : Int32)), .val (.int (((x1 &&& ((127 : Int32) >>> ((2 : Int32) &&& 31))) <<< ((6 : Int32) &&& 31)) ||| (x2 &&& (63 : Int32)))), .val (.int (3 : Int32))]) (S' := [.int (((x1 &&& ((127 : Int32) >>> ((2 : Int32) &&& 31))) <<< ((6 : Int32) &&& 31)) ||| (x2 &&& (63 : Int32)))]) rfl ⟨(XT.ii_ge_t (by decide)), trivial⟩ ?_
  refine wp_retI ok (by decide +kernel) (by decide) (by decide) ?_
  exact ⟨rfl, rfl⟩
def k_cp13 : List (Nat × Value) := []
def Q_cp13 (Z : State) (b : Addr) (x0 : Int32) (x1 : Int32) (x2 : Int32) (x3 : Int32) (x4 : Int32) (x5 : Int32) (x6 : Int32) (x7 : Int32) (h0 : Heap) : Post := fun v h => v = some (.int (((((x1 &&& ((127 : Int32) >>> ((3 : Int32) &&& 31))) <<< ((6 : Int32) &&& 31)) ||| (x2 &&& (63 : Int32))) <<< ((6 : Int32) &&& 31)) ||| (x3 &&& (63 : Int32)))) ∧ h0 = h
theorem pn_cp13 : plainFor (⟨"com/example/stamp_to_key/stamptokey/Utf8", "codePoint", "([BII)I"⟩ : MethodName) = true := by first | (refine plainFor_of_name ?_; simp [plainName, overriddenIn]; done) | decide +kernel
set_option maxRecDepth 65536 in
set_option maxHeartbeats 40000000 in
theorem c_cp13 (l : Launch) (Z : State) (a0 : Array Value) (hw : ∀ d ∈ tables_1, d.before a0 Z = true) (b : Addr) (x0 : Int32) (x1 : Int32) (x2 : Int32) (x3 : Int32) (x4 : Int32) (x5 : Int32) (x6 : Int32) (x7 : Int32) (h0 : Heap) (n0 : Nat) (Z0 : n0 ≤ h0.size) (A_b : Ar Z h0 b .byte 8 (lst [.int x0, .int x1, .int x2, .int x3, .int x4, .int x5, .int x6, .int x7])) (g_b : n0 ≤ b) :
    Con l Z (⟨"com/example/stamp_to_key/stamptokey/Utf8", "codePoint", "([BII)I"⟩ : MethodName) prog_34_method_6_code 5 (some .int) ({ frames := 0, cells := 0, slots := 0, locals := 0 } : Room) #[(.ref b), .int (1 : Int32), .int (4 : Int32)] h0 n0 (Q_cp13 Z b x0 x1 x2 x3 x4 x5 x6 x7 h0) [] := by
  refine con_of_wp pn_cp13 (L0 := #[.val ((.ref b)), .val (.int (1 : Int32)), .val (.int (4 : Int32)), .unset, .unset]) (fun m => by first | (simp [entryFrame, mkF, argsToLocals, Value.category]; done) | rfl) (fun X hl ok => ?_)
  subst hl
  have hK : Konst Z a0 "com/example/stamp_to_key/stamptokey/Utf8" k_cp13 := trivial
  refine wp_run ok hK (B := [(0, .aload_n 0, false), (1, .iload_n 1, false)]) (by decide +kernel) (ps := []) (pc' := 2) (L' := #[.val ((.ref b)), .val (.int (1 : Int32)), .val (.int (4 : Int32)), .unset, .unset]) (S' := [.int (1 : Int32), (.ref b)]) rfl trivial ?_
  refine wp_aB ok A_b (i := 1) (v := .int x1) (by rfl) (by decide) rfl (by decide +kernel) ?_
  refine wp_run ok hK (B := [(3, .bipush 127, false), (5, .iload_n 2, false), (6, .iload_n 1, false), (7, .isub, false), (8, .ishr, false), (9, .iand, false), (10, .istore_n 3, false), (11, .iload_n 1, false), (12, .iconst 1, false), (13, .iadd, false), (14, .istore 4, false)]) (by decide +kernel) (ps := []) (pc' := 16) (L' := #[.val ((.ref b)), .val (.int (1 : Int32)), .val (.int (4 : Int32)), .val (.int (x1 &&& ((127 : Int32) >>> ((3 : Int32) &&& 31)))), .val (.int (2 : Int32))]) (S' := []) rfl trivial ?_
  refine wp_run ok hK (B := [(16, .iload 4, false), (18, .iload_n 2, false), (19, .if_icmp .ge 22, false), (22, .iload_n 3, false), (23, .bipush 6, false), (25, .ishl, false), (26, .aload_n 0, false), (27, .iload 4, false)]) (by decide +kernel) (ps := [Op.if_icmp.holds .ge (2 : Int32) (4 : Int32) = false]) (pc' := 29) (L' := #[.val ((.ref b)), .val (.int (1 : Int32)), .val (.int (4 : Int32)), .val (.int (x1 &&& ((127 : Int32) >>> ((3 : Int32) &&& 31)))), .val (.int (2 : Int32))]) (S' := [.int (2 : Int32), (.ref b), .int ((x1 &&& ((127 : Int32) >>> ((3 : Int32) &&& 31))) <<< ((6 : Int32) &&& 31))]) rfl ⟨(XT.ii_ge_f (by decide)), trivial⟩ ?_
  refine wp_aB ok A_b (i := 2) (v := .int x2) (by rfl) (by decide) rfl (by decide +kernel) ?_
  refine wp_run ok hK (B := [(30, .bipush 63, false), (32, .iand, false), (33, .ior, false), (34, .istore_n 3, false), (35, .iinc 4 1, false)]) (by decide +kernel) (ps := []) (pc' := 38) (L' := #[.val ((.ref b)), .val (.int (1 : Int32)), .val (.int (4 : Int32)), .val (.int (((x1 &&& ((127 : Int32) >>> ((3 : Int32) &&& 31))) <<< ((6 : Int32) &&& 31)) ||| (x2 &&& (63 : Int32)))), .val (.int (3 : Int32))]) (S' := []) rfl trivial ?_
  refine wp_run ok hK (B := [(38, .goto (-22), false), (16, .iload 4, false), (18, .iload_n 2, false), (19, .if_icmp .ge 22, false), (22, .iload_n 3, false), (23, .bipush 6, false), (25, .ishl, false), (26, .aload_n 0, false), (27, .iload 4, false)]) (by decide +kernel) (ps := [Op.if_icmp.holds .ge (3 : Int32) (4 : Int32) = false]) (pc' := 29) (L' := #[.val ((.ref b)), .val (.int (1 : Int32)), .val (.int (4 : Int32)), .val (.int (((x1 &&& ((127 : Int32) >>> ((3 : Int32) &&& 31))) <<< ((6 : Int32) &&& 31)) ||| (x2 &&& (63 : Int32)))), .val (.int (3 : Int32))]) (S' := [.int (3 : Int32), (.ref b), .int ((((x1 &&& ((127 : Int32) >>> ((3 : Int32) &&& 31))) <<< ((6 : Int32) &&& 31)) ||| (x2 &&& (63 : Int32))) <<< ((6 : Int32) &&& 31))]) rfl ⟨(XT.ii_ge_f (by decide)), trivial⟩ ?_
  refine wp_aB ok A_b (i := 3) (v := .int x3) (by rfl) (by decide) rfl (by decide +kernel) ?_
  refine wp_run ok hK (B := [(30, .bipush 63, false), (32, .iand, false), (33, .ior, false), (34, .istore_n 3, false), (35, .iinc 4 1, false)]) (by decide +kernel) (ps := []) (pc' := 38) (L' := #[.val ((.ref b)), .val (.int (1 : Int32)), .val (.int (4 : Int32)), .val (.int (((((x1 &&& ((127 : Int32) >>> ((3 : Int32) &&& 31))) <<< ((6 : Int32) &&& 31)) ||| (x2 &&& (63 : Int32))) <<< ((6 : Int32) &&& 31)) ||| (x3 &&& (63 : Int32)))), .val (.int (4 : Int32))]) (S' := []) rfl trivial ?_
  refine wp_run ok hK (B := [(38, .goto (-22), false), (16, .iload 4, false), (18, .iload_n 2, false), (19, .if_icmp .ge 22, true), (41, .iload_n 3, false)]) (by decide +kernel) (ps := [Op.if_icmp.holds .ge (4 : Int32) (4 : Int32) = true]) (pc' := 42) (L' := #[.val ((.ref b)), .val (.int (1 : Int32)), .val (.int (4 : Int32)), .val (.int (((((x1 &&& ((127 : Int32) >>> ((3 : Int32) &&& 31))) <<< ((6 : Int32) &&& 31)) ||| (x2 &&& (63 : Int32))) <<< ((6 : Int32) &&& 31)) ||| (x3 &&& (63 : Int32)))), .val (.int (4 : Int32))]) (S' := [.int (((((x1 &&& ((127 : Int32) >>> ((3 : Int32) &&& 31))) <<< ((6 : Int32) &&& 31)) ||| (x2 &&& (63 : Int32))) <<< ((6 : Int32) &&& 31)) ||| (x3 &&& (63 : Int32)))]) rfl ⟨(XT.ii_ge_t (by decide)), trivial⟩ ?_
  refine wp_retI ok (by decide +kernel) (by decide) (by decide) ?_
  exact ⟨rfl, rfl⟩
def k_cp14 : List (Nat × Value) := []
def Q_cp14 (Z : State) (b : Addr) (x0 : Int32) (x1 : Int32) (x2 : Int32) (x3 : Int32) (x4 : Int32) (x5 : Int32) (x6 : Int32) (x7 : Int32) (h0 : Heap) : Post := fun v h => v = some (.int (((((((x1 &&& ((127 : Int32) >>> ((4 : Int32) &&& 31))) <<< ((6 : Int32) &&& 31)) ||| (x2 &&& (63 : Int32))) <<< ((6 : Int32) &&& 31)) ||| (x3 &&& (63 : Int32))) <<< ((6 : Int32) &&& 31)) ||| (x4 &&& (63 : Int32)))) ∧ h0 = h
theorem pn_cp14 : plainFor (⟨"com/example/stamp_to_key/stamptokey/Utf8", "codePoint", "([BII)I"⟩ : MethodName) = true := by first | (refine plainFor_of_name ?_; simp [plainName, overriddenIn]; done) | decide +kernel
set_option maxRecDepth 65536 in
set_option maxHeartbeats 40000000 in
theorem c_cp14 (l : Launch) (Z : State) (a0 : Array Value) (hw : ∀ d ∈ tables_1, d.before a0 Z = true) (b : Addr) (x0 : Int32) (x1 : Int32) (x2 : Int32) (x3 : Int32) (x4 : Int32) (x5 : Int32) (x6 : Int32) (x7 : Int32) (h0 : Heap) (n0 : Nat) (Z0 : n0 ≤ h0.size) (A_b : Ar Z h0 b .byte 8 (lst [.int x0, .int x1, .int x2, .int x3, .int x4, .int x5, .int x6, .int x7])) (g_b : n0 ≤ b) :
    Con l Z (⟨"com/example/stamp_to_key/stamptokey/Utf8", "codePoint", "([BII)I"⟩ : MethodName) prog_34_method_6_code 5 (some .int) ({ frames := 0, cells := 0, slots := 0, locals := 0 } : Room) #[(.ref b), .int (1 : Int32), .int (5 : Int32)] h0 n0 (Q_cp14 Z b x0 x1 x2 x3 x4 x5 x6 x7 h0) [] := by
  refine con_of_wp pn_cp14 (L0 := #[.val ((.ref b)), .val (.int (1 : Int32)), .val (.int (5 : Int32)), .unset, .unset]) (fun m => by first | (simp [entryFrame, mkF, argsToLocals, Value.category]; done) | rfl) (fun X hl ok => ?_)
  subst hl
  have hK : Konst Z a0 "com/example/stamp_to_key/stamptokey/Utf8" k_cp14 := trivial
  refine wp_run ok hK (B := [(0, .aload_n 0, false), (1, .iload_n 1, false)]) (by decide +kernel) (ps := []) (pc' := 2) (L' := #[.val ((.ref b)), .val (.int (1 : Int32)), .val (.int (5 : Int32)), .unset, .unset]) (S' := [.int (1 : Int32), (.ref b)]) rfl trivial ?_
  refine wp_aB ok A_b (i := 1) (v := .int x1) (by rfl) (by decide) rfl (by decide +kernel) ?_
  refine wp_run ok hK (B := [(3, .bipush 127, false), (5, .iload_n 2, false), (6, .iload_n 1, false), (7, .isub, false), (8, .ishr, false), (9, .iand, false), (10, .istore_n 3, false), (11, .iload_n 1, false), (12, .iconst 1, false), (13, .iadd, false), (14, .istore 4, false)]) (by decide +kernel) (ps := []) (pc' := 16) (L' := #[.val ((.ref b)), .val (.int (1 : Int32)), .val (.int (5 : Int32)), .val (.int (x1 &&& ((127 : Int32) >>> ((4 : Int32) &&& 31)))), .val (.int (2 : Int32))]) (S' := []) rfl trivial ?_
  refine wp_run ok hK (B := [(16, .iload 4, false), (18, .iload_n 2, false), (19, .if_icmp .ge 22, false), (22, .iload_n 3, false), (23, .bipush 6, false), (25, .ishl, false), (26, .aload_n 0, false), (27, .iload 4, false)]) (by decide +kernel) (ps := [Op.if_icmp.holds .ge (2 : Int32) (5 : Int32) = false]) (pc' := 29) (L' := #[.val ((.ref b)), .val (.int (1 : Int32)), .val (.int (5 : Int32)), .val (.int (x1 &&& ((127 : Int32) >>> ((4 : Int32) &&& 31)))), .val (.int (2 : Int32))]) (S' := [.int (2 : Int32), (.ref b), .int ((x1 &&& ((127 : Int32) >>> ((4 : Int32) &&& 31))) <<< ((6 : Int32) &&& 31))]) rfl ⟨(XT.ii_ge_f (by decide)), trivial⟩ ?_
  refine wp_aB ok A_b (i := 2) (v := .int x2) (by rfl) (by decide) rfl (by decide +kernel) ?_
  refine wp_run ok hK (B := [(30, .bipush 63, false), (32, .iand, false), (33, .ior, false), (34, .istore_n 3, false), (35, .iinc 4 1, false)]) (by decide +kernel) (ps := []) (pc' := 38) (L' := #[.val ((.ref b)), .val (.int (1 : Int32)), .val (.int (5 : Int32)), .val (.int (((x1 &&& ((127 : Int32) >>> ((4 : Int32) &&& 31))) <<< ((6 : Int32) &&& 31)) ||| (x2 &&& (63 : Int32)))), .val (.int (3 : Int32))]) (S' := []) rfl trivial ?_
  refine wp_run ok hK (B := [(38, .goto (-22), false), (16, .iload 4, false), (18, .iload_n 2, false), (19, .if_icmp .ge 22, false), (22, .iload_n 3, false), (23, .bipush 6, false), (25, .ishl, false), (26, .aload_n 0, false), (27, .iload 4, false)]) (by decide +kernel) (ps := [Op.if_icmp.holds .ge (3 : Int32) (5 : Int32) = false]) (pc' := 29) (L' := #[.val ((.ref b)), .val (.int (1 : Int32)), .val (.int (5 : Int32)), .val (.int (((x1 &&& ((127 : Int32) >>> ((4 : Int32) &&& 31))) <<< ((6 : Int32) &&& 31)) ||| (x2 &&& (63 : Int32)))), .val (.int (3 : Int32))]) (S' := [.int (3 : Int32), (.ref b), .int ((((x1 &&& ((127 : Int32) >>> ((4 : Int32) &&& 31))) <<< ((6 : Int32) &&& 31)) ||| (x2 &&& (63 : Int32))) <<< ((6 : Int32) &&& 31))]) rfl ⟨(XT.ii_ge_f (by decide)), trivial⟩ ?_
  refine wp_aB ok A_b (i := 3) (v := .int x3) (by rfl) (by decide) rfl (by decide +kernel) ?_
  refine wp_run ok hK (B := [(30, .bipush 63, false), (32, .iand, false), (33, .ior, false), (34, .istore_n 3, false), (35, .iinc 4 1, false)]) (by decide +kernel) (ps := []) (pc' := 38) (L' := #[.val ((.ref b)), .val (.int (1 : Int32)), .val (.int (5 : Int32)), .val (.int (((((x1 &&& ((127 : Int32) >>> ((4 : Int32) &&& 31))) <<< ((6 : Int32) &&& 31)) ||| (x2 &&& (63 : Int32))) <<< ((6 : Int32) &&& 31)) ||| (x3 &&& (63 : Int32)))), .val (.int (4 : Int32))]) (S' := []) rfl trivial ?_
  refine wp_run ok hK (B := [(38, .goto (-22), false), (16, .iload 4, false), (18, .iload_n 2, false), (19, .if_icmp .ge 22, false), (22, .iload_n 3, false), (23, .bipush 6, false), (25, .ishl, false), (26, .aload_n 0, false), (27, .iload 4, false)]) (by decide +kernel) (ps := [Op.if_icmp.holds .ge (4 : Int32) (5 : Int32) = false]) (pc' := 29) (L' := #[.val ((.ref b)), .val (.int (1 : Int32)), .val (.int (5 : Int32)), .val (.int (((((x1 &&& ((127 : Int32) >>> ((4 : Int32) &&& 31))) <<< ((6 : Int32) &&& 31)) ||| (x2 &&& (63 : Int32))) <<< ((6 : Int32) &&& 31)) ||| (x3 &&& (63 : Int32)))), .val (.int (4 : Int32))]) (S' := [.int (4 : Int32), (.ref b), .int ((((((x1 &&& ((127 : Int32) >>> ((4 : Int32) &&& 31))) <<< ((6 : Int32) &&& 31)) ||| (x2 &&& (63 : Int32))) <<< ((6 : Int32) &&& 31)) ||| (x3 &&& (63 : Int32))) <<< ((6 : Int32) &&& 31))]) rfl ⟨(XT.ii_ge_f (by decide)), trivial⟩ ?_
  refine wp_aB ok A_b (i := 4) (v := .int x4) (by rfl) (by decide) rfl (by decide +kernel) ?_
  refine wp_run ok hK (B := [(30, .bipush 63, false), (32, .iand, false), (33, .ior, false), (34, .istore_n 3, false), (35, .iinc 4 1, false)]) (by decide +kernel) (ps := []) (pc' := 38) (L' := #[.val ((.ref b)), .val (.int (1 : Int32)), .val (.int (5 : Int32)), .val (.int (((((((x1 &&& ((127 : Int32) >>> ((4 : Int32) &&& 31))) <<< ((6 : Int32) &&& 31)) ||| (x2 &&& (63 : Int32))) <<< ((6 : Int32) &&& 31)) ||| (x3 &&& (63 : Int32))) <<< ((6 : Int32) &&& 31)) ||| (x4 &&& (63 : Int32)))), .val (.int (5 : Int32))]) (S' := []) rfl trivial ?_
  refine wp_run ok hK (B := [(38, .goto (-22), false), (16, .iload 4, false), (18, .iload_n 2, false), (19, .if_icmp .ge 22, true), (41, .iload_n 3, false)]) (by decide +kernel) (ps := [Op.if_icmp.holds .ge (5 : Int32) (5 : Int32) = true]) (pc' := 42) (L' := #[.val ((.ref b)), .val (.int (1 : Int32)), .val (.int (5 : Int32)), .val (.int (((((((x1 &&& ((127 : Int32) >>> ((4 : Int32) &&& 31))) <<< ((6 : Int32) &&& 31)) ||| (x2 &&& (63 : Int32))) <<< ((6 : Int32) &&& 31)) ||| (x3 &&& (63 : Int32))) <<< ((6 : Int32) &&& 31)) ||| (x4 &&& (63 : Int32)))), .val (.int (5 : Int32))]) (S' := [.int (((((((x1 &&& ((127 : Int32) >>> ((4 : Int32) &&& 31))) <<< ((6 : Int32) &&& 31)) ||| (x2 &&& (63 : Int32))) <<< ((6 : Int32) &&& 31)) ||| (x3 &&& (63 : Int32))) <<< ((6 : Int32) &&& 31)) ||| (x4 &&& (63 : Int32)))]) rfl ⟨(XT.ii_ge_t (by decide)), trivial⟩ ?_
  refine wp_retI ok (by decide +kernel) (by decide) (by decide) ?_
  exact ⟨rfl, rfl⟩
def k_cp22 : List (Nat × Value) := []
def Q_cp22 (Z : State) (b : Addr) (x0 : Int32) (x1 : Int32) (x2 : Int32) (x3 : Int32) (x4 : Int32) (x5 : Int32) (x6 : Int32) (x7 : Int32) (h0 : Heap) : Post := fun v h => v = some (.int (((x2 &&& ((127 : Int32) >>> ((2 : Int32) &&& 31))) <<< ((6 : Int32) &&& 31)) ||| (x3 &&& (63 : Int32)))) ∧ h0 = h
theorem pn_cp22 : plainFor (⟨"com/example/stamp_to_key/stamptokey/Utf8", "codePoint", "([BII)I"⟩ : MethodName) = true := by first | (refine plainFor_of_name ?_; simp [plainName, overriddenIn]; done) | decide +kernel
set_option maxRecDepth 65536 in
set_option maxHeartbeats 40000000 in
theorem c_cp22 (l : Launch) (Z : State) (a0 : Array Value) (hw : ∀ d ∈ tables_1, d.before a0 Z = true) (b : Addr) (x0 : Int32) (x1 : Int32) (x2 : Int32) (x3 : Int32) (x4 : Int32) (x5 : Int32) (x6 : Int32) (x7 : Int32) (h0 : Heap) (n0 : Nat) (Z0 : n0 ≤ h0.size) (A_b : Ar Z h0 b .byte 8 (lst [.int x0, .int x1, .int x2, .int x3, .int x4, .int x5, .int x6, .int x7])) (g_b : n0 ≤ b) :
    Con l Z (⟨"com/example/stamp_to_key/stamptokey/Utf8", "codePoint", "([BII)I"⟩ : MethodName) prog_34_method_6_code 5 (some .int) ({ frames := 0, cells := 0, slots := 0, locals := 0 } : Room) #[(.ref b), .int (2 : Int32), .int (4 : Int32)] h0 n0 (Q_cp22 Z b x0 x1 x2 x3 x4 x5 x6 x7 h0) [] := by
  refine con_of_wp pn_cp22 (L0 := #[.val ((.ref b)), .val (.int (2 : Int32)), .val (.int (4 : Int32)), .unset, .unset]) (fun m => by first | (simp [entryFrame, mkF, argsToLocals, Value.category]; done) | rfl) (fun X hl ok => ?_)
  subst hl
  have hK : Konst Z a0 "com/example/stamp_to_key/stamptokey/Utf8" k_cp22 := trivial
  refine wp_run ok hK (B := [(0, .aload_n 0, false), (1, .iload_n 1, false)]) (by decide +kernel) (ps := []) (pc' := 2) (L' := #[.val ((.ref b)), .val (.int (2 : Int32)), .val (.int (4 : Int32)), .unset, .unset]) (S' := [.int (2 : Int32), (.ref b)]) rfl trivial ?_
  refine wp_aB ok A_b (i := 2) (v := .int x2) (by rfl) (by decide) rfl (by decide +kernel) ?_
  refine wp_run ok hK (B := [(3, .bipush 127, false), (5, .iload_n 2, false), (6, .iload_n 1, false), (7, .isub, false), (8, .ishr, false), (9, .iand, false), (10, .istore_n 3, false), (11, .iload_n 1, false), (12, .iconst 1, false), (13, .iadd, false), (14, .istore 4, false)]) (by decide +kernel) (ps := []) (pc' := 16) (L' := #[.val ((.ref b)), .val (.int (2 : Int32)), .val (.int (4 : Int32)), .val (.int (x2 &&& ((127 : Int32) >>> ((2 : Int32) &&& 31)))), .val (.int (3 : Int32))]) (S' := []) rfl trivial ?_
  refine wp_run ok hK (B := [(16, .iload 4, false), (18, .iload_n 2, false), (19, .if_icmp .ge 22, false), (22, .iload_n 3, false), (23, .bipush 6, false), (25, .ishl, false), (26, .aload_n 0, false), (27, .iload 4, false)]) (by decide +kernel) (ps := [Op.if_icmp.holds .ge (3 : Int32) (4 : Int32) = false]) (pc' := 29) (L' := #[.val ((.ref b)), .val (.int (2 : Int32)), .val (.int (4 : Int32)), .val (.int (x2 &&& ((127 : Int32) >>> ((2 : Int32) &&& 31)))), .val (.int (3 : Int32))]) (S' := [.int (3 : Int32), (.ref b), .int ((x2 &&& ((127 : Int32) >>> ((2 : Int32) &&& 31))) <<< ((6 : Int32) &&& 31))]) rfl ⟨(XT.ii_ge_f (by decide)), trivial⟩ ?_
  refine wp_aB ok A_b (i := 3) (v := .int x3) (by rfl) (by decide) rfl (by decide +kernel) ?_
  refine wp_run ok hK (B := [(30, .bipush 63, false), (32, .iand, false), (33, .ior, false), (34, .istore_n 3, false), (35, .iinc 4 1, false)]) (by decide +kernel) (ps := []) (pc' := 38) (L' := #[.val ((.ref b)), .val (.int (2 : Int32)), .val (.int (4 : Int32)), .val (.int (((x2 &&& ((127 : Int32) >>> ((2 : Int32) &&& 31))) <<< ((6 : Int32) &&& 31)) ||| (x3 &&& (63 : Int32)))), .val (.int (4 : Int32))]) (S' := []) rfl trivial ?_
  refine wp_run ok hK (B := [(38, .goto (-22), false), (16, .iload 4, false), (18, .iload_n 2, false), (19, .if_icmp .ge 22, true), (41, .iload_n 3, false)]) (by decide +kernel) (ps := [Op.if_icmp.holds .ge (4 : Int32) (4 : Int32) = true]) (pc' := 42) (L' := #[.val ((.ref b)), .val (.int (2 : Int32)), .val (.int (4 : Int32)), .val (.int (((x2 &&& ((127 : Int32) >>> ((2 : Int32) &&& 31))) <<< ((6 : Int32) &&& 31)) ||| (x3 &&& (63 : Int32)))), .val (.int (4 : Int32))]) (S' := [.int (((x2 &&& ((127 : Int32) >>> ((2 : Int32) &&& 31))) <<< ((6 : Int32) &&& 31)) ||| (x3 &&& (63 : Int32)))]) rfl ⟨(XT.ii_ge_t (by decide)), trivial⟩ ?_
  refine wp_retI ok (by decide +kernel) (by decide) (by decide) ?_
  exact ⟨rfl, rfl⟩
def k_cp23 : List (Nat × Value) := []
def Q_cp23 (Z : State) (b : Addr) (x0 : Int32) (x1 : Int32) (x2 : Int32) (x3 : Int32) (x4 : Int32) (x5 : Int32) (x6 : Int32) (x7 : Int32) (h0 : Heap) : Post := fun v h => v = some (.int (((((x2 &&& ((127 : Int32) >>> ((3 : Int32) &&& 31))) <<< ((6 : Int32) &&& 31)) ||| (x3 &&& (63 : Int32))) <<< ((6 : Int32) &&& 31)) ||| (x4 &&& (63 : Int32)))) ∧ h0 = h
theorem pn_cp23 : plainFor (⟨"com/example/stamp_to_key/stamptokey/Utf8", "codePoint", "([BII)I"⟩ : MethodName) = true := by first | (refine plainFor_of_name ?_; simp [plainName, overriddenIn]; done) | decide +kernel
set_option maxRecDepth 65536 in
set_option maxHeartbeats 40000000 in
theorem c_cp23 (l : Launch) (Z : State) (a0 : Array Value) (hw : ∀ d ∈ tables_1, d.before a0 Z = true) (b : Addr) (x0 : Int32) (x1 : Int32) (x2 : Int32) (x3 : Int32) (x4 : Int32) (x5 : Int32) (x6 : Int32) (x7 : Int32) (h0 : Heap) (n0 : Nat) (Z0 : n0 ≤ h0.size) (A_b : Ar Z h0 b .byte 8 (lst [.int x0, .int x1, .int x2, .int x3, .int x4, .int x5, .int x6, .int x7])) (g_b : n0 ≤ b) :
    Con l Z (⟨"com/example/stamp_to_key/stamptokey/Utf8", "codePoint", "([BII)I"⟩ : MethodName) prog_34_method_6_code 5 (some .int) ({ frames := 0, cells := 0, slots := 0, locals := 0 } : Room) #[(.ref b), .int (2 : Int32), .int (5 : Int32)] h0 n0 (Q_cp23 Z b x0 x1 x2 x3 x4 x5 x6 x7 h0) [] := by
  refine con_of_wp pn_cp23 (L0 := #[.val ((.ref b)), .val (.int (2 : Int32)), .val (.int (5 : Int32)), .unset, .unset]) (fun m => by first | (simp [entryFrame, mkF, argsToLocals, Value.category]; done) | rfl) (fun X hl ok => ?_)
  subst hl
  have hK : Konst Z a0 "com/example/stamp_to_key/stamptokey/Utf8" k_cp23 := trivial
  refine wp_run ok hK (B := [(0, .aload_n 0, false), (1, .iload_n 1, false)]) (by decide +kernel) (ps := []) (pc' := 2) (L' := #[.val ((.ref b)), .val (.int (2 : Int32)), .val (.int (5 : Int32)), .unset, .unset]) (S' := [.int (2 : Int32), (.ref b)]) rfl trivial ?_
  refine wp_aB ok A_b (i := 2) (v := .int x2) (by rfl) (by decide) rfl (by decide +kernel) ?_
  refine wp_run ok hK (B := [(3, .bipush 127, false), (5, .iload_n 2, false), (6, .iload_n 1, false), (7, .isub, false), (8, .ishr, false), (9, .iand, false), (10, .istore_n 3, false), (11, .iload_n 1, false), (12, .iconst 1, false), (13, .iadd, false), (14, .istore 4, false)]) (by decide +kernel) (ps := []) (pc' := 16) (L' := #[.val ((.ref b)), .val (.int (2 : Int32)), .val (.int (5 : Int32)), .val (.int (x2 &&& ((127 : Int32) >>> ((3 : Int32) &&& 31)))), .val (.int (3 : Int32))]) (S' := []) rfl trivial ?_
  refine wp_run ok hK (B := [(16, .iload 4, false), (18, .iload_n 2, false), (19, .if_icmp .ge 22, false), (22, .iload_n 3, false), (23, .bipush 6, false), (25, .ishl, false), (26, .aload_n 0, false), (27, .iload 4, false)]) (by decide +kernel) (ps := [Op.if_icmp.holds .ge (3 : Int32) (5 : Int32) = false]) (pc' := 29) (L' := #[.val ((.ref b)), .val (.int (2 : Int32)), .val (.int (5 : Int32)), .val (.int (x2 &&& ((127 : Int32) >>> ((3 : Int32) &&& 31)))), .val (.int (3 : Int32))]) (S' := [.int (3 : Int32), (.ref b), .int ((x2 &&& ((127 : Int32) >>> ((3 : Int32) &&& 31))) <<< ((6 : Int32) &&& 31))]) rfl ⟨(XT.ii_ge_f (by decide)), trivial⟩ ?_
  refine wp_aB ok A_b (i := 3) (v := .int x3) (by rfl) (by decide) rfl (by decide +kernel) ?_
  refine wp_run ok hK (B := [(30, .bipush 63, false), (32, .iand, false), (33, .ior, false), (34, .istore_n 3, false), (35, .iinc 4 1, false)]) (by decide +kernel) (ps := []) (pc' := 38) (L' := #[.val ((.ref b)), .val (.int (2 : Int32)), .val (.int (5 : Int32)), .val (.int (((x2 &&& ((127 : Int32) >>> ((3 : Int32) &&& 31))) <<< ((6 : Int32) &&& 31)) ||| (x3 &&& (63 : Int32)))), .val (.int (4 : Int32))]) (S' := []) rfl trivial ?_
  refine wp_run ok hK (B := [(38, .goto (-22), false), (16, .iload 4, false), (18, .iload_n 2, false), (19, .if_icmp .ge 22, false), (22, .iload_n 3, false), (23, .bipush 6, false), (25, .ishl, false), (26, .aload_n 0, false), (27, .iload 4, false)]) (by decide +kernel) (ps := [Op.if_icmp.holds .ge (4 : Int32) (5 : Int32) = false]) (pc' := 29) (L' := #[.val ((.ref b)), .val (.int (2 : Int32)), .val (.int (5 : Int32)), .val (.int (((x2 &&& ((127 : Int32) >>> ((3 : Int32) &&& 31))) <<< ((6 : Int32) &&& 31)) ||| (x3 &&& (63 : Int32)))), .val (.int (4 : Int32))]) (S' := [.int (4 : Int32), (.ref b), .int ((((x2 &&& ((127 : Int32) >>> ((3 : Int32) &&& 31))) <<< ((6 : Int32) &&& 31)) ||| (x3 &&& (63 : Int32))) <<< ((6 : Int32) &&& 31))]) rfl ⟨(XT.ii_ge_f (by decide)), trivial⟩ ?_
  refine wp_aB ok A_b (i := 4) (v := .int x4) (by rfl) (by decide) rfl (by decide +kernel) ?_
  refine wp_run ok hK (B := [(30, .bipush 63, false), (32, .iand, false), (33, .ior, false), (34, .istore_n 3, false), (35, .iinc 4 1, false)]) (by decide +kernel) (ps := []) (pc' := 38) (L' := #[.val ((.ref b)), .val (.int (2 : Int32)), .val (.int (5 : Int32)), .val (.int (((((x2 &&& ((127 : Int32) >>> ((3 : Int32) &&& 31))) <<< ((6 : Int32) &&& 31)) ||| (x3 &&& (63 : Int32))) <<< ((6 : Int32) &&& 31)) ||| (x4 &&& (63 : Int32)))), .val (.int (5 : Int32))]) (S' := []) rfl trivial ?_
  refine wp_run ok hK (B := [(38, .goto (-22), false), (16, .iload 4, false), (18, .iload_n 2, false), (19, .if_icmp .ge 22, true), (41, .iload_n 3, false)]) (by decide +kernel) (ps := [Op.if_icmp.holds .ge (5 : Int32) (5 : Int32) = true]) (pc' := 42) (L' := #[.val ((.ref b)), .val (.int (2 : Int32)), .val (.int (5 : Int32)), .val (.int (((((x2 &&& ((127 : Int32) >>> ((3 : Int32) &&& 31))) <<< ((6 : Int32) &&& 31)) ||| (x3 &&& (63 : Int32))) <<< ((6 : Int32) &&& 31)) ||| (x4 &&& (63 : Int32)))), .val (.int (5 : Int32))]) (S' := [.int (((((x2 &&& ((127 : Int32) >>> ((3 : Int32) &&& 31))) <<< ((6 : Int32) &&& 31)) ||| (x3 &&& (63 : Int32))) <<< ((6 : Int32) &&& 31)) ||| (x4 &&& (63 : Int32)))]) rfl ⟨(XT.ii_ge_t (by decide)), trivial⟩ ?_
  refine wp_retI ok (by decide +kernel) (by decide) (by decide) ?_
  exact ⟨rfl, rfl⟩
def k_cp24 : List (Nat × Value) := []
def Q_cp24 (Z : State) (b : Addr) (x0 : Int32) (x1 : Int32) (x2 : Int32) (x3 : Int32) (x4 : Int32) (x5 : Int32) (x6 : Int32) (x7 : Int32) (h0 : Heap) : Post := fun v h => v = some (.int (((((((x2 &&& ((127 : Int32) >>> ((4 : Int32) &&& 31))) <<< ((6 : Int32) &&& 31)) ||| (x3 &&& (63 : Int32))) <<< ((6 : Int32) &&& 31)) ||| (x4 &&& (63 : Int32))) <<< ((6 : Int32) &&& 31)) ||| (x5 &&& (63 : Int32)))) ∧ h0 = h
theorem pn_cp24 : plainFor (⟨"com/example/stamp_to_key/stamptokey/Utf8", "codePoint", "([BII)I"⟩ : MethodName) = true := by first | (refine plainFor_of_name ?_; simp [plainName, overriddenIn]; done) | decide +kernel
set_option maxRecDepth 65536 in
set_option maxHeartbeats 40000000 in
theorem c_cp24 (l : Launch) (Z : State) (a0 : Array Value) (hw : ∀ d ∈ tables_1, d.before a0 Z = true) (b : Addr) (x0 : Int32) (x1 : Int32) (x2 : Int32) (x3 : Int32) (x4 : Int32) (x5 : Int32) (x6 : Int32) (x7 : Int32) (h0 : Heap) (n0 : Nat) (Z0 : n0 ≤ h0.size) (A_b : Ar Z h0 b .byte 8 (lst [.int x0, .int x1, .int x2, .int x3, .int x4, .int x5, .int x6, .int x7])) (g_b : n0 ≤ b) :
    Con l Z (⟨"com/example/stamp_to_key/stamptokey/Utf8", "codePoint", "([BII)I"⟩ : MethodName) prog_34_method_6_code 5 (some .int) ({ frames := 0, cells := 0, slots := 0, locals := 0 } : Room) #[(.ref b), .int (2 : Int32), .int (6 : Int32)] h0 n0 (Q_cp24 Z b x0 x1 x2 x3 x4 x5 x6 x7 h0) [] := by
  refine con_of_wp pn_cp24 (L0 := #[.val ((.ref b)), .val (.int (2 : Int32)), .val (.int (6 : Int32)), .unset, .unset]) (fun m => by first | (simp [entryFrame, mkF, argsToLocals, Value.category]; done) | rfl) (fun X hl ok => ?_)
  subst hl
  have hK : Konst Z a0 "com/example/stamp_to_key/stamptokey/Utf8" k_cp24 := trivial
  refine wp_run ok hK (B := [(0, .aload_n 0, false), (1, .iload_n 1, false)]) (by decide +kernel) (ps := []) (pc' := 2) (L' := #[.val ((.ref b)), .val (.int (2 : Int32)), .val (.int (6 : Int32)), .unset, .unset]) (S' := [.int (2 : Int32), (.ref b)]) rfl trivial ?_
  refine wp_aB ok A_b (i := 2) (v := .int x2) (by rfl) (by decide) rfl (by decide +kernel) ?_
  refine wp_run ok hK (B := [(3, .bipush 127, false), (5, .iload_n 2, false), (6, .iload_n 1, false), (7, .isub, false), (8, .ishr, false), (9, .iand, false), (10, .istore_n 3, false), (11, .iload_n 1, false), (12, .iconst 1, false), (13, .iadd, false), (14, .istore 4, false)]) (by decide +kernel) (ps := []) (pc' := 16) (L' := #[.val ((.ref b)), .val (.int (2 : Int32)), .val (.int (6 : Int32)), .val (.int (x2 &&& ((127 : Int32) >>> ((4 : Int32) &&& 31)))), .val (.int (3 : Int32))]) (S' := []) rfl trivial ?_
  refine wp_run ok hK (B := [(16, .iload 4, false), (18, .iload_n 2, false), (19, .if_icmp .ge 22, false), (22, .iload_n 3, false), (23, .bipush 6, false), (25, .ishl, false), (26, .aload_n 0, false), (27, .iload 4, false)]) (by decide +kernel) (ps := [Op.if_icmp.holds .ge (3 : Int32) (6 : Int32) = false]) (pc' := 29) (L' := #[.val ((.ref b)), .val (.int (2 : Int32)), .val (.int (6 : Int32)), .val (.int (x2 &&& ((127 : Int32) >>> ((4 : Int32) &&& 31)))), .val (.int (3 : Int32))]) (S' := [.int (3 : Int32), (.ref b), .int ((x2 &&& ((127 : Int32) >>> ((4 : Int32) &&& 31))) <<< ((6 : Int32) &&& 31))]) rfl ⟨(XT.ii_ge_f (by decide)), trivial⟩ ?_
  refine wp_aB ok A_b (i := 3) (v := .int x3) (by rfl) (by decide) rfl (by decide +kernel) ?_
  refine wp_run ok hK (B := [(30, .bipush 63, false), (32, .iand, false), (33, .ior, false), (34, .istore_n 3, false), (35, .iinc 4 1, false)]) (by decide +kernel) (ps := []) (pc' := 38) (L' := #[.val ((.ref b)), .val (.int (2 : Int32)), .val (.int (6 : Int32)), .val (.int (((x2 &&& ((127 : Int32) >>> ((4 : Int32) &&& 31))) <<< ((6 : Int32) &&& 31)) ||| (x3 &&& (63 : Int32)))), .val (.int (4 : Int32))]) (S' := []) rfl trivial ?_
  refine wp_run ok hK (B := [(38, .goto (-22), false), (16, .iload 4, false), (18, .iload_n 2, false), (19, .if_icmp .ge 22, false), (22, .iload_n 3, false), (23, .bipush 6, false), (25, .ishl, false), (26, .aload_n 0, false), (27, .iload 4, false)]) (by decide +kernel) (ps := [Op.if_icmp.holds .ge (4 : Int32) (6 : Int32) = false]) (pc' := 29) (L' := #[.val ((.ref b)), .val (.int (2 : Int32)), .val (.int (6 : Int32)), .val (.int (((x2 &&& ((127 : Int32) >>> ((4 : Int32) &&& 31))) <<< ((6 : Int32) &&& 31)) ||| (x3 &&& (63 : Int32)))), .val (.int (4 : Int32))]) (S' := [.int (4 : Int32), (.ref b), .int ((((x2 &&& ((127 : Int32) >>> ((4 : Int32) &&& 31))) <<< ((6 : Int32) &&& 31)) ||| (x3 &&& (63 : Int32))) <<< ((6 : Int32) &&& 31))]) rfl ⟨(XT.ii_ge_f (by decide)), trivial⟩ ?_
  refine wp_aB ok A_b (i := 4) (v := .int x4) (by rfl) (by decide) rfl (by decide +kernel) ?_
  refine wp_run ok hK (B := [(30, .bipush 63, false), (32, .iand, false), (33, .ior, false), (34, .istore_n 3, false), (35, .iinc 4 1, false)]) (by decide +kernel) (ps := []) (pc' := 38) (L' := #[.val ((.ref b)), .val (.int (2 : Int32)), .val (.int (6 : Int32)), .val (.int (((((x2 &&& ((127 : Int32) >>> ((4 : Int32) &&& 31))) <<< ((6 : Int32) &&& 31)) ||| (x3 &&& (63 : Int32))) <<< ((6 : Int32) &&& 31)) ||| (x4 &&& (63 : Int32)))), .val (.int (5 : Int32))]) (S' := []) rfl trivial ?_
  refine wp_run ok hK (B := [(38, .goto (-22), false), (16, .iload 4, false), (18, .iload_n 2, false), (19, .if_icmp .ge 22, false), (22, .iload_n 3, false), (23, .bipush 6, false), (25, .ishl, false), (26, .aload_n 0, false), (27, .iload 4, false)]) (by decide +kernel) (ps := [Op.if_icmp.holds .ge (5 : Int32) (6 : Int32) = false]) (pc' := 29) (L' := #[.val ((.ref b)), .val (.int (2 : Int32)), .val (.int (6 : Int32)), .val (.int (((((x2 &&& ((127 : Int32) >>> ((4 : Int32) &&& 31))) <<< ((6 : Int32) &&& 31)) ||| (x3 &&& (63 : Int32))) <<< ((6 : Int32) &&& 31)) ||| (x4 &&& (63 : Int32)))), .val (.int (5 : Int32))]) (S' := [.int (5 : Int32), (.ref b), .int ((((((x2 &&& ((127 : Int32) >>> ((4 : Int32) &&& 31))) <<< ((6 : Int32) &&& 31)) ||| (x3 &&& (63 : Int32))) <<< ((6 : Int32) &&& 31)) ||| (x4 &&& (63 : Int32))) <<< ((6 : Int32) &&& 31))]) rfl ⟨(XT.ii_ge_f (by decide)), trivial⟩ ?_
  refine wp_aB ok A_b (i := 5) (v := .int x5) (by rfl) (by decide) rfl (by decide +kernel) ?_
  refine wp_run ok hK (B := [(30, .bipush 63, false), (32, .iand, false), (33, .ior, false), (34, .istore_n 3, false), (35, .iinc 4 1, false)]) (by decide +kernel) (ps := []) (pc' := 38) (L' := #[.val ((.ref b)), .val (.int (2 : Int32)), .val (.int (6 : Int32)), .val (.int (((((((x2 &&& ((127 : Int32) >>> ((4 : Int32) &&& 31))) <<< ((6 : Int32) &&& 31)) ||| (x3 &&& (63 : Int32))) <<< ((6 : Int32) &&& 31)) ||| (x4 &&& (63 : Int32))) <<< ((6 : Int32) &&& 31)) ||| (x5 &&& (63 : Int32)))), .val (.int (6 : Int32))]) (S' := []) rfl trivial ?_
  refine wp_run ok hK (B := [(38, .goto (-22), false), (16, .iload 4, false), (18, .iload_n 2, false), (19, .if_icmp .ge 22, true), (41, .iload_n 3, false)]) (by decide +kernel) (ps := [Op.if_icmp.holds .ge (6 : Int32) (6 : Int32) = true]) (pc' := 42) (L' := #[.val ((.ref b)), .val (.int (2 : Int32)), .val (.int (6 : Int32)), .val (.int (((((((x2 &&& ((127 : Int32) >>> ((4 : Int32) &&& 31))) <<< ((6 : Int32) &&& 31)) ||| (x3 &&& (63 : Int32))) <<< ((6 : Int32) &&& 31)) ||| (x4 &&& (63 : Int32))) <<< ((6 : Int32) &&& 31)) ||| (x5 &&& (63 : Int32)))), .val (.int (6 : Int32))]) (S' := [.int (((((((x2 &&& ((127 : Int32) >>> ((4 : Int32) &&& 31))) <<< ((6 : Int32) &&& 31)) ||| (x3 &&& (63 : Int32))) <<< ((6 : Int32) &&& 31)) ||| (x4 &&& (63 : Int32))) <<< ((6 : Int32) &&& 31)) ||| (x5 &&& (63 : Int32)))]) rfl ⟨(XT.ii_ge_t (by decide)), trivial⟩ ?_
  refine wp_retI ok (by decide +kernel) (by decide) (by decide) ?_
  exact ⟨rfl, rfl⟩
def k_cp32 : List (Nat × Value) := []
def Q_cp32 (Z : State) (b : Addr) (x0 : Int32) (x1 : Int32) (x2 : Int32) (x3 : Int32) (x4 : Int32) (x5 : Int32) (x6 : Int32) (x7 : Int32) (h0 : Heap) : Post := fun v h => v = some (.int (((x3 &&& ((127 : Int32) >>> ((2 : Int32) &&& 31))) <<< ((6 : Int32) &&& 31)) ||| (x4 &&& (63 : Int32)))) ∧ h0 = h
theorem pn_cp32 : plainFor (⟨"com/example/stamp_to_key/stamptokey/Utf8", "codePoint", "([BII)I"⟩ : MethodName) = true := by first | (refine plainFor_of_name ?_; simp [plainName, overriddenIn]; done) | decide +kernel
set_option maxRecDepth 65536 in
set_option maxHeartbeats 40000000 in
theorem c_cp32 (l : Launch) (Z : State) (a0 : Array Value) (hw : ∀ d ∈ tables_1, d.before a0 Z = true) (b : Addr) (x0 : Int32) (x1 : Int32) (x2 : Int32) (x3 : Int32) (x4 : Int32) (x5 : Int32) (x6 : Int32) (x7 : Int32) (h0 : Heap) (n0 : Nat) (Z0 : n0 ≤ h0.size) (A_b : Ar Z h0 b .byte 8 (lst [.int x0, .int x1, .int x2, .int x3, .int x4, .int x5, .int x6, .int x7])) (g_b : n0 ≤ b) :
    Con l Z (⟨"com/example/stamp_to_key/stamptokey/Utf8", "codePoint", "([BII)I"⟩ : MethodName) prog_34_method_6_code 5 (some .int) ({ frames := 0, cells := 0, slots := 0, locals := 0 } : Room) #[(.ref b), .int (3 : Int32), .int (5 : Int32)] h0 n0 (Q_cp32 Z b x0 x1 x2 x3 x4 x5 x6 x7 h0) [] := by
  refine con_of_wp pn_cp32 (L0 := #[.val ((.ref b)), .val (.int (3 : Int32)), .val (.int (5 : Int32)), .unset, .unset]) (fun m => by first | (simp [entryFrame, mkF, argsToLocals, Value.category]; done) | rfl) (fun X hl ok => ?_)
  subst hl
  have hK : Konst Z a0 "com/example/stamp_to_key/stamptokey/Utf8" k_cp32 := trivial
  refine wp_run ok hK (B := [(0, .aload_n 0, false), (1, .iload_n 1, false)]) (by decide +kernel) (ps := []) (pc' := 2) (L' := #[.val ((.ref b)), .val (.int (3 : Int32)), .val (.int (5 : Int32)), .unset, .unset]) (S' := [.int (3 : Int32), (.ref b)]) rfl trivial ?_
  refine wp_aB ok A_b (i := 3) (v := .int x3) (by rfl) (by decide) rfl (by decide +kernel) ?_
  refine wp_run ok hK (B := [(3, .bipush 127, false), (5, .iload_n 2, false), (6, .iload_n 1, false), (7, .isub, false), (8, .ishr, false), (9, .iand, false), (10, .istore_n 3, false), (11, .iload_n 1, false), (12, .iconst 1, false), (13, .iadd, false), (14, .istore 4, false)]) (by decide +kernel) (ps := []) (pc' := 16) (L' := #[.val ((.ref b)), .val (.int (3 : Int32)), .val (.int (5 : Int32)), .val (.int (x3 &&& ((127 : Int32) >>> ((2 : Int32) &&& 31)))), .val (.int (4 : Int32))]) (S' := []) rfl trivial ?_
  refine wp_run ok hK (B := [(16, .iload 4, false), (18, .iload_n 2, false), (19, .if_icmp .ge 22, false), (22, .iload_n 3, false), (23, .bipush 6, false), (25, .ishl, false), (26, .aload_n 0, false), (27, .iload 4, false)]) (by decide +kernel) (ps := [Op.if_icmp.holds .ge (4 : Int32) (5 : Int32) = false]) (pc' := 29) (L' := #[.val ((.ref b)), .val (.int (3 : Int32)), .val (.int (5 : Int32)), .val (.int (x3 &&& ((127 : Int32) >>> ((2 : Int32) &&& 31)))), .val (.int (4 : Int32))]) (S' := [.int (4 : Int32), (.ref b), .int ((x3 &&& ((127 : Int32) >>> ((2 : Int32) &&& 31))) <<< ((6 : Int32) &&& 31))]) rfl ⟨(XT.ii_ge_f (by decide)), trivial⟩ ?_
  refine wp_aB ok A_b (i := 4) (v := .int x4) (by rfl) (by decide) rfl (by decide +kernel) ?_
  refine wp_run ok hK (B := [(30, .bipush 63, false), (32, .iand, false), (33, .ior, false), (34, .istore_n 3, false), (35, .iinc 4 1, false)]) (by decide +kernel) (ps := []) (pc' := 38) (L' := #[.val ((.ref b)), .val (.int (3 : Int32)), .val (.int (5 : Int32)), .val (.int (((x3 &&& ((127 : Int32) >>> ((2 : Int32) &&& 31))) <<< ((6 : Int32) &&& 31)) ||| (x4 &&& (63 : Int32)))), .val (.int (5 : Int32))]) (S' := []) rfl trivial ?_
  refine wp_run ok hK (B := [(38, .goto (-22), false), (16, .iload 4, false), (18, .iload_n 2, false), (19, .if_icmp .ge 22, true), (41, .iload_n 3, false)]) (by decide +kernel) (ps := [Op.if_icmp.holds .ge (5 : Int32) (5 : Int32) = true]) (pc' := 42) (L' := #[.val ((.ref b)), .val (.int (3 : Int32)), .val (.int (5 : Int32)), .val (.int (((x3 &&& ((127 : Int32) >>> ((2 : Int32) &&& 31))) <<< ((6 : Int32) &&& 31)) ||| (x4 &&& (63 : Int32)))), .val (.int (5 : Int32))]) (S' := [.int (((x3 &&& ((127 : Int32) >>> ((2 : Int32) &&& 31))) <<< ((6 : Int32) &&& 31)) ||| (x4 &&& (63 : Int32)))]) rfl ⟨(XT.ii_ge_t (by decide)), trivial⟩ ?_
  refine wp_retI ok (by decide +kernel) (by decide) (by decide) ?_
  exact ⟨rfl, rfl⟩
def k_cp33 : List (Nat × Value) := []
def Q_cp33 (Z : State) (b : Addr) (x0 : Int32) (x1 : Int32) (x2 : Int32) (x3 : Int32) (x4 : Int32) (x5 : Int32) (x6 : Int32) (x7 : Int32) (h0 : Heap) : Post := fun v h => v = some (.int (((((x3 &&& ((127 : Int32) >>> ((3 : Int32) &&& 31))) <<< ((6 : Int32) &&& 31)) ||| (x4 &&& (63 : Int32))) <<< ((6 : Int32) &&& 31)) ||| (x5 &&& (63 : Int32)))) ∧ h0 = h
theorem pn_cp33 : plainFor (⟨"com/example/stamp_to_key/stamptokey/Utf8", "codePoint", "([BII)I"⟩ : MethodName) = true := by first | (refine plainFor_of_name ?_; simp [plainName, overriddenIn]; done) | decide +kernel
set_option maxRecDepth 65536 in
set_option maxHeartbeats 40000000 in
theorem c_cp33 (l : Launch) (Z : State) (a0 : Array Value) (hw : ∀ d ∈ tables_1, d.before a0 Z = true) (b : Addr) (x0 : Int32) (x1 : Int32) (x2 : Int32) (x3 : Int32) (x4 : Int32) (x5 : Int32) (x6 : Int32) (x7 : Int32) (h0 : Heap) (n0 : Nat) (Z0 : n0 ≤ h0.size) (A_b : Ar Z h0 b .byte 8 (lst [.int x0, .int x1, .int x2, .int x3, .int x4, .int x5, .int x6, .int x7])) (g_b : n0 ≤ b) :
    Con l Z (⟨"com/example/stamp_to_key/stamptokey/Utf8", "codePoint", "([BII)I"⟩ : MethodName) prog_34_method_6_code 5 (some .int) ({ frames := 0, cells := 0, slots := 0, locals := 0 } : Room) #[(.ref b), .int (3 : Int32), .int (6 : Int32)] h0 n0 (Q_cp33 Z b x0 x1 x2 x3 x4 x5 x6 x7 h0) [] := by
  refine con_of_wp pn_cp33 (L0 := #[.val ((.ref b)), .val (.int (3 : Int32)), .val (.int (6 : Int32)), .unset, .unset]) (fun m => by first | (simp [entryFrame, mkF, argsToLocals, Value.category]; done) | rfl) (fun X hl ok => ?_)
  subst hl
  have hK : Konst Z a0 "com/example/stamp_to_key/stamptokey/Utf8" k_cp33 := trivial
  refine wp_run ok hK (B := [(0, .aload_n 0, false), (1, .iload_n 1, false)]) (by decide +kernel) (ps := []) (pc' := 2) (L' := #[.val ((.ref b)), .val (.int (3 : Int32)), .val (.int (6 : Int32)), .unset, .unset]) (S' := [.int (3 : Int32), (.ref b)]) rfl trivial ?_
  refine wp_aB ok A_b (i := 3) (v := .int x3) (by rfl) (by decide) rfl (by decide +kernel) ?_
  refine wp_run ok hK (B := [(3, .bipush 127, false), (5, .iload_n 2, false), (6, .iload_n 1, false), (7, .isub, false), (8, .ishr, false), (9, .iand, false), (10, .istore_n 3, false), (11, .iload_n 1, false), (12, .iconst 1, false), (13, .iadd, false), (14, .istore 4, false)]) (by decide +kernel) (ps := []) (pc' := 16) (L' := #[.val ((.ref b)), .val (.int (3 : Int32)), .val (.int (6 : Int32)), .val (.int (x3 &&& ((127 : Int32) >>> ((3 : Int32) &&& 31)))), .val (.int (4 : Int32))]) (S' := []) rfl trivial ?_
  refine wp_run ok hK (B := [(16, .iload 4, false), (18, .iload_n 2, false), (19, .if_icmp .ge 22, false), (22, .iload_n 3, false), (23, .bipush 6, false), (25, .ishl, false), (26, .aload_n 0, false), (27, .iload 4, false)]) (by decide +kernel) (ps := [Op.if_icmp.holds .ge (4 : Int32) (6 : Int32) = false]) (pc' := 29) (L' := #[.val ((.ref b)), .val (.int (3 : Int32)), .val (.int (6 : Int32)), .val (.int (x3 &&& ((127 : Int32) >>> ((3 : Int32) &&& 31)))), .val (.int (4 : Int32))]) (S' := [.int (4 : Int32), (.ref b), .int ((x3 &&& ((127 : Int32) >>> ((3 : Int32) &&& 31))) <<< ((6 : Int32) &&& 31))]) rfl ⟨(XT.ii_ge_f (by decide)), trivial⟩ ?_
  refine wp_aB ok A_b (i := 4) (v := .int x4) (by rfl) (by decide) rfl (by decide +kernel) ?_
  refine wp_run ok hK (B := [(30, .bipush 63, false), (32, .iand, false), (33, .ior, false), (34, .istore_n 3, false), (35, .iinc 4 1, false)]) (by decide +kernel) (ps := []) (pc' := 38) (L' := #[.val ((.ref b)), .val (.int (3 : Int32)), .val (.int (6 : Int32)), .val (.int (((x3 &&& ((127 : Int32) >>> ((3 : Int32) &&& 31))) <<< ((6 : Int32) &&& 31)) ||| (x4 &&& (63 : Int32)))), .val (.int (5 : Int32))]) (S' := []) rfl trivial ?_
  refine wp_run ok hK (B := [(38, .goto (-22), false), (16, .iload 4, false), (18, .iload_n 2, false), (19, .if_icmp .ge 22, false), (22, .iload_n 3, false), (23, .bipush 6, false), (25, .ishl, false), (26, .aload_n 0, false), (27, .iload 4, false)]) (by decide +kernel) (ps := [Op.if_icmp.holds .ge (5 : Int32) (6 : Int32) = false]) (pc' := 29) (L' := #[.val ((.ref b)), .val (.int (3 : Int32)), .val (.int (6 : Int32)), .val (.int (((x3 &&& ((127 : Int32) >>> ((3 : Int32) &&& 31))) <<< ((6 : Int32) &&& 31)) ||| (x4 &&& (63 : Int32)))), .val (.int (5 : Int32))]) (S' := [.int (5 : Int32), (.ref b), .int ((((x3 &&& ((127 : Int32) >>> ((3 : Int32) &&& 31))) <<< ((6 : Int32) &&& 31)) ||| (x4 &&& (63 : Int32))) <<< ((6 : Int32) &&& 31))]) rfl ⟨(XT.ii_ge_f (by decide)), trivial⟩ ?_
  refine wp_aB ok A_b (i := 5) (v := .int x5) (by rfl) (by decide) rfl (by decide +kernel) ?_
  refine wp_run ok hK (B := [(30, .bipush 63, false), (32, .iand, false), (33, .ior, false), (34, .istore_n 3, false), (35, .iinc 4 1, false)]) (by decide +kernel) (ps := []) (pc' := 38) (L' := #[.val ((.ref b)), .val (.int (3 : Int32)), .val (.int (6 : Int32)), .val (.int (((((x3 &&& ((127 : Int32) >>> ((3 : Int32) &&& 31))) <<< ((6 : Int32) &&& 31)) ||| (x4 &&& (63 : Int32))) <<< ((6 : Int32) &&& 31)) ||| (x5 &&& (63 : Int32)))), .val (.int (6 : Int32))]) (S' := []) rfl trivial ?_
  refine wp_run ok hK (B := [(38, .goto (-22), false), (16, .iload 4, false), (18, .iload_n 2, false), (19, .if_icmp .ge 22, true), (41, .iload_n 3, false)]) (by decide +kernel) (ps := [Op.if_icmp.holds .ge (6 : Int32) (6 : Int32) = true]) (pc' := 42) (L' := #[.val ((.ref b)), .val (.int (3 : Int32)), .val (.int (6 : Int32)), .val (.int (((((x3 &&& ((127 : Int32) >>> ((3 : Int32) &&& 31))) <<< ((6 : Int32) &&& 31)) ||| (x4 &&& (63 : Int32))) <<< ((6 : Int32) &&& 31)) ||| (x5 &&& (63 : Int32)))), .val (.int (6 : Int32))]) (S' := [.int (((((x3 &&& ((127 : Int32) >>> ((3 : Int32) &&& 31))) <<< ((6 : Int32) &&& 31)) ||| (x4 &&& (63 : Int32))) <<< ((6 : Int32) &&& 31)) ||| (x5 &&& (63 : Int32)))]) rfl ⟨(XT.ii_ge_t (by decide)), trivial⟩ ?_
  refine wp_retI ok (by decide +kernel) (by decide) (by decide) ?_
  exact ⟨rfl, rfl⟩
def k_cp34 : List (Nat × Value) := []
def Q_cp34 (Z : State) (b : Addr) (x0 : Int32) (x1 : Int32) (x2 : Int32) (x3 : Int32) (x4 : Int32) (x5 : Int32) (x6 : Int32) (x7 : Int32) (h0 : Heap) : Post := fun v h => v = some (.int (((((((x3 &&& ((127 : Int32) >>> ((4 : Int32) &&& 31))) <<< ((6 : Int32) &&& 31)) ||| (x4 &&& (63 : Int32))) <<< ((6 : Int32) &&& 31)) ||| (x5 &&& (63 : Int32))) <<< ((6 : Int32) &&& 31)) ||| (x6 &&& (63 : Int32)))) ∧ h0 = h
theorem pn_cp34 : plainFor (⟨"com/example/stamp_to_key/stamptokey/Utf8", "codePoint", "([BII)I"⟩ : MethodName) = true := by first | (refine plainFor_of_name ?_; simp [plainName, overriddenIn]; done) | decide +kernel
set_option maxRecDepth 65536 in
set_option maxHeartbeats 40000000 in
theorem c_cp34 (l : Launch) (Z : State) (a0 : Array Value) (hw : ∀ d ∈ tables_1, d.before a0 Z = true) (b : Addr) (x0 : Int32) (x1 : Int32) (x2 : Int32) (x3 : Int32) (x4 : Int32) (x5 : Int32) (x6 : Int32) (x7 : Int32) (h0 : Heap) (n0 : Nat) (Z0 : n0 ≤ h0.size) (A_b : Ar Z h0 b .byte 8 (lst [.int x0, .int x1, .int x2, .int x3, .int x4, .int x5, .int x6, .int x7])) (g_b : n0 ≤ b) :
    Con l Z (⟨"com/example/stamp_to_key/stamptokey/Utf8", "codePoint", "([BII)I"⟩ : MethodName) prog_34_method_6_code 5 (some .int) ({ frames := 0, cells := 0, slots := 0, locals := 0 } : Room) #[(.ref b), .int (3 : Int32), .int (7 : Int32)] h0 n0 (Q_cp34 Z b x0 x1 x2 x3 x4 x5 x6 x7 h0) [] := by
  refine con_of_wp pn_cp34 (L0 := #[.val ((.ref b)), .val (.int (3 : Int32)), .val (.int (7 : Int32)), .unset, .unset]) (fun m => by first | (simp [entryFrame, mkF, argsToLocals, Value.category]; done) | rfl) (fun X hl ok => ?_)
  subst hl
  have hK : Konst Z a0 "com/example/stamp_to_key/stamptokey/Utf8" k_cp34 := trivial
  refine wp_run ok hK (B := [(0, .aload_n 0, false), (1, .iload_n 1, false)]) (by decide +kernel) (ps := []) (pc' := 2) (L' := #[.val ((.ref b)), .val (.int (3 : Int32)), .val (.int (7 : Int32)), .unset, .unset]) (S' := [.int (3 : Int32), (.ref b)]) rfl trivial ?_
  refine wp_aB ok A_b (i := 3) (v := .int x3) (by rfl) (by decide) rfl (by decide +kernel) ?_
  refine wp_run ok hK (B := [(3, .bipush 127, false), (5, .iload_n 2, false), (6, .iload_n 1, false), (7, .isub, false), (8, .ishr, false), (9, .iand, false), (10, .istore_n 3, false), (11, .iload_n 1, false), (12, .iconst 1, false), (13, .iadd, false), (14, .istore 4, false)]) (by decide +kernel) (ps := []) (pc' := 16) (L' := #[.val ((.ref b)), .val (.int (3 : Int32)), .val (.int (7 : Int32)), .val (.int (x3 &&& ((127 : Int32) >>> ((4 : Int32) &&& 31)))), .val (.int (4 : Int32))]) (S' := []) rfl trivial ?_
  refine wp_run ok hK (B := [(16, .iload 4, false), (18, .iload_n 2, false), (19, .if_icmp .ge 22, false), (22, .iload_n 3, false), (23, .bipush 6, false), (25, .ishl, false), (26, .aload_n 0, false), (27, .iload 4, false)]) (by decide +kernel) (ps := [Op.if_icmp.holds .ge (4 : Int32) (7 : Int32) = false]) (pc' := 29) (L' := #[.val ((.ref b)), .val (.int (3 : Int32)), .val (.int (7 : Int32)), .val (.int (x3 &&& ((127 : Int32) >>> ((4 : Int32) &&& 31)))), .val (.int (4 : Int32))]) (S' := [.int (4 : Int32), (.ref b), .int ((x3 &&& ((127 : Int32) >>> ((4 : Int32) &&& 31))) <<< ((6 : Int32) &&& 31))]) rfl ⟨(XT.ii_ge_f (by decide)), trivial⟩ ?_
  refine wp_aB ok A_b (i := 4) (v := .int x4) (by rfl) (by decide) rfl (by decide +kernel) ?_
  refine wp_run ok hK (B := [(30, .bipush 63, false), (32, .iand, false), (33, .ior, false), (34, .istore_n 3, false), (35, .iinc 4 1, false)]) (by decide +kernel) (ps := []) (pc' := 38) (L' := #[.val ((.ref b)), .val (.int (3 : Int32)), .val (.int (7 : Int32)), .val (.int (((x3 &&& ((127 : Int32) >>> ((4 : Int32) &&& 31))) <<< ((6 : Int32) &&& 31)) ||| (x4 &&& (63 : Int32)))), .val (.int (5 : Int32))]) (S' := []) rfl trivial ?_
  refine wp_run ok hK (B := [(38, .goto (-22), false), (16, .iload 4, false), (18, .iload_n 2, false), (19, .if_icmp .ge 22, false), (22, .iload_n 3, false), (23, .bipush 6, false), (25, .ishl, false), (26, .aload_n 0, false), (27, .iload 4, false)]) (by decide +kernel) (ps := [Op.if_icmp.holds .ge (5 : Int32) (7 : Int32) = false]) (pc' := 29) (L' := #[.val ((.ref b)), .val (.int (3 : Int32)), .val (.int (7 : Int32)), .val (.int (((x3 &&& ((127 : Int32) >>> ((4 : Int32) &&& 31))) <<< ((6 : Int32) &&& 31)) ||| (x4 &&& (63 : Int32)))), .val (.int (5 : Int32))]) (S' := [.int (5 : Int32), (.ref b), .int ((((x3 &&& ((127 : Int32) >>> ((4 : Int32) &&& 31))) <<< ((6 : Int32) &&& 31)) ||| (x4 &&& (63 : Int32))) <<< ((6 : Int32) &&& 31))]) rfl ⟨(XT.ii_ge_f (by decide)), trivial⟩ ?_
  refine wp_aB ok A_b (i := 5) (v := .int x5) (by rfl) (by decide) rfl (by decide +kernel) ?_
  refine wp_run ok hK (B := [(30, .bipush 63, false), (32, .iand, false), (33, .ior, false), (34, .istore_n 3, false), (35, .iinc 4 1, false)]) (by decide +kernel) (ps := []) (pc' := 38) (L' := #[.val ((.ref b)), .val (.int (3 : Int32)), .val (.int (7 : Int32)), .val (.int (((((x3 &&& ((127 : Int32) >>> ((4 : Int32) &&& 31))) <<< ((6 : Int32) &&& 31)) ||| (x4 &&& (63 : Int32))) <<< ((6 : Int32) &&& 31)) ||| (x5 &&& (63 : Int32)))), .val (.int (6 : Int32))]) (S' := []) rfl trivial ?_
  refine wp_run ok hK (B := [(38, .goto (-22), false), (16, .iload 4, false), (18, .iload_n 2, false), (19, .if_icmp .ge 22, false), (22, .iload_n 3, false), (23, .bipush 6, false), (25, .ishl, false), (26, .aload_n 0, false), (27, .iload 4, false)]) (by decide +kernel) (ps := [Op.if_icmp.holds .ge (6 : Int32) (7 : Int32) = false]) (pc' := 29) (L' := #[.val ((.ref b)), .val (.int (3 : Int32)), .val (.int (7 : Int32)), .val (.int (((((x3 &&& ((127 : Int32) >>> ((4 : Int32) &&& 31))) <<< ((6 : Int32) &&& 31)) ||| (x4 &&& (63 : Int32))) <<< ((6 : Int32) &&& 31)) ||| (x5 &&& (63 : Int32)))), .val (.int (6 : Int32))]) (S' := [.int (6 : Int32), (.ref b), .int ((((((x3 &&& ((127 : Int32) >>> ((4 : Int32) &&& 31))) <<< ((6 : Int32) &&& 31)) ||| (x4 &&& (63 : Int32))) <<< ((6 : Int32) &&& 31)) ||| (x5 &&& (63 : Int32))) <<< ((6 : Int32) &&& 31))]) rfl ⟨(XT.ii_ge_f (by decide)), trivial⟩ ?_
  refine wp_aB ok A_b (i := 6) (v := .int x6) (by rfl) (by decide) rfl (by decide +kernel) ?_
  refine wp_run ok hK (B := [(30, .bipush 63, false), (32, .iand, false), (33, .ior, false), (34, .istore_n 3, false), (35, .iinc 4 1, false)]) (by decide +kernel) (ps := []) (pc' := 38) (L' := #[.val ((.ref b)), .val (.int (3 : Int32)), .val (.int (7 : Int32)), .val (.int (((((((x3 &&& ((127 : Int32) >>> ((4 : Int32) &&& 31))) <<< ((6 : Int32) &&& 31)) ||| (x4 &&& (63 : Int32))) <<< ((6 : Int32) &&& 31)) ||| (x5 &&& (63 : Int32))) <<< ((6 : Int32) &&& 31)) ||| (x6 &&& (63 : Int32)))), .val (.int (7 : Int32))]) (S' := []) rfl trivial ?_
  refine wp_run ok hK (B := [(38, .goto (-22), false), (16, .iload 4, false), (18, .iload_n 2, false), (19, .if_icmp .ge 22, true), (41, .iload_n 3, false)]) (by decide +kernel) (ps := [Op.if_icmp.holds .ge (7 : Int32) (7 : Int32) = true]) (pc' := 42) (L' := #[.val ((.ref b)), .val (.int (3 : Int32)), .val (.int (7 : Int32)), .val (.int (((((((x3 &&& ((127 : Int32) >>> ((4 : Int32) &&& 31))) <<< ((6 : Int32) &&& 31)) ||| (x4 &&& (63 : Int32))) <<< ((6 : Int32) &&& 31)) ||| (x5 &&& (63 : Int32))) <<< ((6 : Int32) &&& 31)) ||| (x6 &&& (63 : Int32)))), .val (.int (7 : Int32))]) (S' := [.int (((((((x3 &&& ((127 : Int32) >>> ((4 : Int32) &&& 31))) <<< ((6 : Int32) &&& 31)) ||| (x4 &&& (63 : Int32))) <<< ((6 : Int32) &&& 31)) ||| (x5 &&& (63 : Int32))) <<< ((6 : Int32) &&& 31)) ||| (x6 &&& (63 : Int32)))]) rfl ⟨(XT.ii_ge_t (by decide)), trivial⟩ ?_
  refine wp_retI ok (by decide +kernel) (by decide) (by decide) ?_
  exact ⟨rfl, rfl⟩
def k_law : List (Nat × Value) := [(7, .int (2147483647 : Int32)), (8, .int (1113984 : Int32)), (9, .int (65536 : Int32))]
def QL : Post := fun v _ => v = some (.int 1)
theorem own_law_1 (cc : Int32) (a : Int32) (ju : Int64) (cp : Int32) (h_cp : cp = ((128 : Int32) + ((cc &&& (2147483647 : Int32)) % (1113984 : Int32)))) (j0 : Int32) (j1 : Int32) (j2 : Int32) (j3 : Int32) (j4 : Int32) (j5 : Int32) (j6 : Int32) (j7 : Int32) (hc108 : cp < (2048 : Int32)) (z298 : Int32) (h_z298 : z298 = ((((nar .byte (((192 : Int32) ||| (cp >>> ((6 : Int32) &&& 31))).toInt8.toInt32)) &&& ((127 : Int32) >>> ((2 : Int32) &&& 31))) <<< ((6 : Int32) &&& 31)) ||| ((nar .byte (((128 : Int32) ||| (cp &&& (63 : Int32))).toInt8.toInt32)) &&& (63 : Int32)))) : z298 = cp := by
  obtain ⟨r1, r2⟩ := own_cp cc cp h_cp
  rw [Int32.lt_iff_toInt_lt] at hc108
  simp only [Int32.reduceToInt] at hc108
  have s1 := c_ishr cp 6 6 (by decide)
  have o1 : (192 : Int32).toInt = 192 := rfl
  have t1 := own_or 192 (cp >>> ((6 : Int32) &&& 31)) 5 (by decide) 32 rfl (by rw [o1]; decide) (by rw [s1]; omega) (by rw [s1]; omega) (by rw [o1]; decide) (by rw [o1, s1]; omega)
  have t2 := own_b (192 ||| (cp >>> ((6 : Int32) &&& 31))) (by rw [t1, o1, s1]; omega) (by rw [t1, o1, s1]; omega)
  have m1 : ((127 : Int32) >>> ((2 : Int32) &&& 31)) = 31 := by decide
  rw [m1] at h_z298
  have t3 := c_mask (nar .byte ((192 ||| (cp >>> ((6 : Int32) &&& 31))).toInt8.toInt32)) 31 5 (by decide) (by decide)
  rw [t2, t1, o1, s1] at t3
  rw [← Int32.toInt_inj, h_z298]
  have k0 := own_c cp
  rw [own_st _ _ (by rw [t3]; omega) (by rw [t3]; omega), t3, k0]; omega
theorem own_law_2 (cc : Int32) (a : Int32) (ju : Int64) (cp : Int32) (h_cp : cp = ((128 : Int32) + ((cc &&& (2147483647 : Int32)) % (1113984 : Int32)))) (j0 : Int32) (j1 : Int32) (j2 : Int32) (j3 : Int32) (j4 : Int32) (j5 : Int32) (j6 : Int32) (j7 : Int32) (hc108 : cp < (2048 : Int32)) (z298 : Int32) (h_z298 : z298 = ((((nar .byte (((192 : Int32) ||| (cp >>> ((6 : Int32) &&& 31))).toInt8.toInt32)) &&& ((127 : Int32) >>> ((2 : Int32) &&& 31))) <<< ((6 : Int32) &&& 31)) ||| ((nar .byte (((128 : Int32) ||| (cp &&& (63 : Int32))).toInt8.toInt32)) &&& (63 : Int32)))) : nar .boolean (1 : Int32) = 1 := by
  rfl
theorem own_law_3 (cc : Int32) (a : Int32) (ju : Int64) (cp : Int32) (h_cp : cp = ((128 : Int32) + ((cc &&& (2147483647 : Int32)) % (1113984 : Int32)))) (j0 : Int32) (j1 : Int32) (j2 : Int32) (j3 : Int32) (j4 : Int32) (j5 : Int32) (j6 : Int32) (j7 : Int32) (hc108 : ¬ (cp < (2048 : Int32))) (hc153 : cp < (65536 : Int32)) (z298 : Int32) (h_z298 : z298 = ((((((nar .byte (((224 : Int32) ||| (cp >>> ((12 : Int32) &&& 31))).toInt8.toInt32)) &&& ((127 : Int32) >>> ((3 : Int32) &&& 31))) <<< ((6 : Int32) &&& 31)) ||| ((nar .byte (((128 : Int32) ||| ((cp >>> ((6 : Int32) &&& 31)) &&& (63 : Int32))).toInt8.toInt32)) &&& (63 : Int32))) <<< ((6 : Int32) &&& 31)) ||| ((nar .byte (((128 : Int32) ||| (cp &&& (63 : Int32))).toInt8.toInt32)) &&& (63 : Int32)))) : z298 = cp := by
  obtain ⟨r1, r2⟩ := own_cp cc cp h_cp
  rw [Int32.lt_iff_toInt_lt] at hc108
  simp only [Int32.reduceToInt] at hc108
  rw [Int32.lt_iff_toInt_lt] at hc153
  simp only [Int32.reduceToInt] at hc153
  have s1 := c_ishr cp 12 12 (by decide)
  have o1 : (224 : Int32).toInt = 224 := rfl
  have t1 := own_or 224 (cp >>> ((12 : Int32) &&& 31)) 4 (by decide) 16 rfl (by rw [o1]; decide) (by rw [s1]; omega) (by rw [s1]; omega) (by rw [o1]; decide) (by rw [o1, s1]; omega)
  have t2 := own_b (224 ||| (cp >>> ((12 : Int32) &&& 31))) (by rw [t1, o1, s1]; omega) (by rw [t1, o1, s1]; omega)
  have m1 : ((127 : Int32) >>> ((3 : Int32) &&& 31)) = 15 := by decide
  rw [m1] at h_z298
  have t3 := c_mask (nar .byte ((224 ||| (cp >>> ((12 : Int32) &&& 31))).toInt8.toInt32)) 15 4 (by decide) (by decide)
  rw [t2, t1, o1, s1] at t3
  rw [← Int32.toInt_inj, h_z298]
  have k0 := own_c cp
  have s2 := c_ishr cp 6 6 (by decide)
  have k1 := own_c (cp >>> ((6 : Int32) &&& 31))
  have u1 := own_st (nar .byte ((224 ||| (cp >>> ((12 : Int32) &&& 31))).toInt8.toInt32) &&& 15) (nar .byte ((128 ||| ((cp >>> ((6 : Int32) &&& 31)) &&& 63)).toInt8.toInt32)) (by rw [t3]; omega) (by rw [t3]; omega)
  rw [t3, k1, s2] at u1
  rw [own_st _ _ (by rw [u1]; omega) (by rw [u1]; omega), u1, k0]; omega
theorem own_law_4 (cc : Int32) (a : Int32) (ju : Int64) (cp : Int32) (h_cp : cp = ((128 : Int32) + ((cc &&& (2147483647 : Int32)) % (1113984 : Int32)))) (j0 : Int32) (j1 : Int32) (j2 : Int32) (j3 : Int32) (j4 : Int32) (j5 : Int32) (j6 : Int32) (j7 : Int32) (hc108 : ¬ (cp < (2048 : Int32))) (hc153 : cp < (65536 : Int32)) (z298 : Int32) (h_z298 : z298 = ((((((nar .byte (((224 : Int32) ||| (cp >>> ((12 : Int32) &&& 31))).toInt8.toInt32)) &&& ((127 : Int32) >>> ((3 : Int32) &&& 31))) <<< ((6 : Int32) &&& 31)) ||| ((nar .byte (((128 : Int32) ||| ((cp >>> ((6 : Int32) &&& 31)) &&& (63 : Int32))).toInt8.toInt32)) &&& (63 : Int32))) <<< ((6 : Int32) &&& 31)) ||| ((nar .byte (((128 : Int32) ||| (cp &&& (63 : Int32))).toInt8.toInt32)) &&& (63 : Int32)))) : nar .boolean (1 : Int32) = 1 := by
  rfl
theorem own_law_5 (cc : Int32) (a : Int32) (ju : Int64) (cp : Int32) (h_cp : cp = ((128 : Int32) + ((cc &&& (2147483647 : Int32)) % (1113984 : Int32)))) (j0 : Int32) (j1 : Int32) (j2 : Int32) (j3 : Int32) (j4 : Int32) (j5 : Int32) (j6 : Int32) (j7 : Int32) (hc108 : ¬ (cp < (2048 : Int32))) (hc153 : ¬ (cp < (65536 : Int32))) (z298 : Int32) (h_z298 : z298 = ((((((((nar .byte (((240 : Int32) ||| (cp >>> ((18 : Int32) &&& 31))).toInt8.toInt32)) &&& ((127 : Int32) >>> ((4 : Int32) &&& 31))) <<< ((6 : Int32) &&& 31)) ||| ((nar .byte (((128 : Int32) ||| ((cp >>> ((12 : Int32) &&& 31)) &&& (63 : Int32))).toInt8.toInt32)) &&& (63 : Int32))) <<< ((6 : Int32) &&& 31)) ||| ((nar .byte (((128 : Int32) ||| ((cp >>> ((6 : Int32) &&& 31)) &&& (63 : Int32))).toInt8.toInt32)) &&& (63 : Int32))) <<< ((6 : Int32) &&& 31)) ||| ((nar .byte (((128 : Int32) ||| (cp &&& (63 : Int32))).toInt8.toInt32)) &&& (63 : Int32)))) : z298 = cp := by
  obtain ⟨r1, r2⟩ := own_cp cc cp h_cp
  rw [Int32.lt_iff_toInt_lt] at hc108
  simp only [Int32.reduceToInt] at hc108
  rw [Int32.lt_iff_toInt_lt] at hc153
  simp only [Int32.reduceToInt] at hc153
  have s1 := c_ishr cp 18 18 (by decide)
  have o1 : (240 : Int32).toInt = 240 := rfl
  have t1 := own_or 240 (cp >>> ((18 : Int32) &&& 31)) 3 (by decide) 8 rfl (by rw [o1]; decide) (by rw [s1]; omega) (by rw [s1]; omega) (by rw [o1]; decide) (by rw [o1, s1]; omega)
  have t2 := own_b (240 ||| (cp >>> ((18 : Int32) &&& 31))) (by rw [t1, o1, s1]; omega) (by rw [t1, o1, s1]; omega)
  have m1 : ((127 : Int32) >>> ((4 : Int32) &&& 31)) = 7 := by decide
  rw [m1] at h_z298
  have t3 := c_mask (nar .byte ((240 ||| (cp >>> ((18 : Int32) &&& 31))).toInt8.toInt32)) 7 3 (by decide) (by decide)
  rw [t2, t1, o1, s1] at t3
  rw [← Int32.toInt_inj, h_z298]
  have k0 := own_c cp
  have s2 := c_ishr cp 6 6 (by decide)
  have s3 := c_ishr cp 12 12 (by decide)
  have k1 := own_c (cp >>> ((6 : Int32) &&& 31))
  have k2 := own_c (cp >>> ((12 : Int32) &&& 31))
  have u1 := own_st (nar .byte ((240 ||| (cp >>> ((18 : Int32) &&& 31))).toInt8.toInt32) &&& 7) (nar .byte ((128 ||| ((cp >>> ((12 : Int32) &&& 31)) &&& 63)).toInt8.toInt32)) (by rw [t3]; omega) (by rw [t3]; omega)
  rw [t3, k2, s3] at u1
  have u2 := own_st _ (nar .byte ((128 ||| ((cp >>> ((6 : Int32) &&& 31)) &&& 63)).toInt8.toInt32)) (by rw [u1]; omega) (by rw [u1]; omega)
  rw [u1, k1, s2] at u2
  rw [own_st _ _ (by rw [u2]; omega) (by rw [u2]; omega), u2, k0]; omega
theorem own_law_6 (cc : Int32) (a : Int32) (ju : Int64) (cp : Int32) (h_cp : cp = ((128 : Int32) + ((cc &&& (2147483647 : Int32)) % (1113984 : Int32)))) (j0 : Int32) (j1 : Int32) (j2 : Int32) (j3 : Int32) (j4 : Int32) (j5 : Int32) (j6 : Int32) (j7 : Int32) (hc108 : ¬ (cp < (2048 : Int32))) (hc153 : ¬ (cp < (65536 : Int32))) (z298 : Int32) (h_z298 : z298 = ((((((((nar .byte (((240 : Int32) ||| (cp >>> ((18 : Int32) &&& 31))).toInt8.toInt32)) &&& ((127 : Int32) >>> ((4 : Int32) &&& 31))) <<< ((6 : Int32) &&& 31)) ||| ((nar .byte (((128 : Int32) ||| ((cp >>> ((12 : Int32) &&& 31)) &&& (63 : Int32))).toInt8.toInt32)) &&& (63 : Int32))) <<< ((6 : Int32) &&& 31)) ||| ((nar .byte (((128 : Int32) ||| ((cp >>> ((6 : Int32) &&& 31)) &&& (63 : Int32))).toInt8.toInt32)) &&& (63 : Int32))) <<< ((6 : Int32) &&& 31)) ||| ((nar .byte (((128 : Int32) ||| (cp &&& (63 : Int32))).toInt8.toInt32)) &&& (63 : Int32)))) : nar .boolean (1 : Int32) = 1 := by
  rfl
theorem own_law_7 (cc : Int32) (a : Int32) (ju : Int64) (cp : Int32) (h_cp : cp = ((128 : Int32) + ((cc &&& (2147483647 : Int32)) % (1113984 : Int32)))) (j0 : Int32) (j1 : Int32) (j2 : Int32) (j3 : Int32) (j4 : Int32) (j5 : Int32) (j6 : Int32) (j7 : Int32) (hc108 : cp < (2048 : Int32)) (z298 : Int32) (h_z298 : z298 = ((((nar .byte (((192 : Int32) ||| (cp >>> ((6 : Int32) &&& 31))).toInt8.toInt32)) &&& ((127 : Int32) >>> ((2 : Int32) &&& 31))) <<< ((6 : Int32) &&& 31)) ||| ((nar .byte (((128 : Int32) ||| (cp &&& (63 : Int32))).toInt8.toInt32)) &&& (63 : Int32)))) : z298 = cp := by
  obtain ⟨r1, r2⟩ := own_cp cc cp h_cp
  rw [Int32.lt_iff_toInt_lt] at hc108
  simp only [Int32.reduceToInt] at hc108
  have s1 := c_ishr cp 6 6 (by decide)
  have o1 : (192 : Int32).toInt = 192 := rfl
  have t1 := own_or 192 (cp >>> ((6 : Int32) &&& 31)) 5 (by decide) 32 rfl (by rw [o1]; decide) (by rw [s1]; omega) (by rw [s1]; omega) (by rw [o1]; decide) (by rw [o1, s1]; omega)
  have t2 := own_b (192 ||| (cp >>> ((6 : Int32) &&& 31))) (by rw [t1, o1, s1]; omega) (by rw [t1, o1, s1]; omega)
  have m1 : ((127 : Int32) >>> ((2 : Int32) &&& 31)) = 31 := by decide
  rw [m1] at h_z298
  have t3 := c_mask (nar .byte ((192 ||| (cp >>> ((6 : Int32) &&& 31))).toInt8.toInt32)) 31 5 (by decide) (by decide)
  rw [t2, t1, o1, s1] at t3
  rw [← Int32.toInt_inj, h_z298]
  have k0 := own_c cp
  rw [own_st _ _ (by rw [t3]; omega) (by rw [t3]; omega), t3, k0]; omega
theorem own_law_8 (cc : Int32) (a : Int32) (ju : Int64) (cp : Int32) (h_cp : cp = ((128 : Int32) + ((cc &&& (2147483647 : Int32)) % (1113984 : Int32)))) (j0 : Int32) (j1 : Int32) (j2 : Int32) (j3 : Int32) (j4 : Int32) (j5 : Int32) (j6 : Int32) (j7 : Int32) (hc108 : cp < (2048 : Int32)) (z298 : Int32) (h_z298 : z298 = ((((nar .byte (((192 : Int32) ||| (cp >>> ((6 : Int32) &&& 31))).toInt8.toInt32)) &&& ((127 : Int32) >>> ((2 : Int32) &&& 31))) <<< ((6 : Int32) &&& 31)) ||| ((nar .byte (((128 : Int32) ||| (cp &&& (63 : Int32))).toInt8.toInt32)) &&& (63 : Int32)))) : nar .boolean (1 : Int32) = 1 := by
  rfl
theorem own_law_9 (cc : Int32) (a : Int32) (ju : Int64) (cp : Int32) (h_cp : cp = ((128 : Int32) + ((cc &&& (2147483647 : Int32)) % (1113984 : Int32)))) (j0 : Int32) (j1 : Int32) (j2 : Int32) (j3 : Int32) (j4 : Int32) (j5 : Int32) (j6 : Int32) (j7 : Int32) (hc108 : ¬ (cp < (2048 : Int32))) (hc153 : cp < (65536 : Int32)) (z298 : Int32) (h_z298 : z298 = ((((((nar .byte (((224 : Int32) ||| (cp >>> ((12 : Int32) &&& 31))).toInt8.toInt32)) &&& ((127 : Int32) >>> ((3 : Int32) &&& 31))) <<< ((6 : Int32) &&& 31)) ||| ((nar .byte (((128 : Int32) ||| ((cp >>> ((6 : Int32) &&& 31)) &&& (63 : Int32))).toInt8.toInt32)) &&& (63 : Int32))) <<< ((6 : Int32) &&& 31)) ||| ((nar .byte (((128 : Int32) ||| (cp &&& (63 : Int32))).toInt8.toInt32)) &&& (63 : Int32)))) : z298 = cp := by
  obtain ⟨r1, r2⟩ := own_cp cc cp h_cp
  rw [Int32.lt_iff_toInt_lt] at hc108
  simp only [Int32.reduceToInt] at hc108
  rw [Int32.lt_iff_toInt_lt] at hc153
  simp only [Int32.reduceToInt] at hc153
  have s1 := c_ishr cp 12 12 (by decide)
  have o1 : (224 : Int32).toInt = 224 := rfl
  have t1 := own_or 224 (cp >>> ((12 : Int32) &&& 31)) 4 (by decide) 16 rfl (by rw [o1]; decide) (by rw [s1]; omega) (by rw [s1]; omega) (by rw [o1]; decide) (by rw [o1, s1]; omega)
  have t2 := own_b (224 ||| (cp >>> ((12 : Int32) &&& 31))) (by rw [t1, o1, s1]; omega) (by rw [t1, o1, s1]; omega)
  have m1 : ((127 : Int32) >>> ((3 : Int32) &&& 31)) = 15 := by decide
  rw [m1] at h_z298
  have t3 := c_mask (nar .byte ((224 ||| (cp >>> ((12 : Int32) &&& 31))).toInt8.toInt32)) 15 4 (by decide) (by decide)
  rw [t2, t1, o1, s1] at t3
  rw [← Int32.toInt_inj, h_z298]
  have k0 := own_c cp
  have s2 := c_ishr cp 6 6 (by decide)
  have k1 := own_c (cp >>> ((6 : Int32) &&& 31))
  have u1 := own_st (nar .byte ((224 ||| (cp >>> ((12 : Int32) &&& 31))).toInt8.toInt32) &&& 15) (nar .byte ((128 ||| ((cp >>> ((6 : Int32) &&& 31)) &&& 63)).toInt8.toInt32)) (by rw [t3]; omega) (by rw [t3]; omega)
  rw [t3, k1, s2] at u1
  rw [own_st _ _ (by rw [u1]; omega) (by rw [u1]; omega), u1, k0]; omega
theorem own_law_10 (cc : Int32) (a : Int32) (ju : Int64) (cp : Int32) (h_cp : cp = ((128 : Int32) + ((cc &&& (2147483647 : Int32)) % (1113984 : Int32)))) (j0 : Int32) (j1 : Int32) (j2 : Int32) (j3 : Int32) (j4 : Int32) (j5 : Int32) (j6 : Int32) (j7 : Int32) (hc108 : ¬ (cp < (2048 : Int32))) (hc153 : cp < (65536 : Int32)) (z298 : Int32) (h_z298 : z298 = ((((((nar .byte (((224 : Int32) ||| (cp >>> ((12 : Int32) &&& 31))).toInt8.toInt32)) &&& ((127 : Int32) >>> ((3 : Int32) &&& 31))) <<< ((6 : Int32) &&& 31)) ||| ((nar .byte (((128 : Int32) ||| ((cp >>> ((6 : Int32) &&& 31)) &&& (63 : Int32))).toInt8.toInt32)) &&& (63 : Int32))) <<< ((6 : Int32) &&& 31)) ||| ((nar .byte (((128 : Int32) ||| (cp &&& (63 : Int32))).toInt8.toInt32)) &&& (63 : Int32)))) : nar .boolean (1 : Int32) = 1 := by
  rfl
theorem own_law_11 (cc : Int32) (a : Int32) (ju : Int64) (cp : Int32) (h_cp : cp = ((128 : Int32) + ((cc &&& (2147483647 : Int32)) % (1113984 : Int32)))) (j0 : Int32) (j1 : Int32) (j2 : Int32) (j3 : Int32) (j4 : Int32) (j5 : Int32) (j6 : Int32) (j7 : Int32) (hc108 : ¬ (cp < (2048 : Int32))) (hc153 : ¬ (cp < (65536 : Int32))) (z298 : Int32) (h_z298 : z298 = ((((((((nar .byte (((240 : Int32) ||| (cp >>> ((18 : Int32) &&& 31))).toInt8.toInt32)) &&& ((127 : Int32) >>> ((4 : Int32) &&& 31))) <<< ((6 : Int32) &&& 31)) ||| ((nar .byte (((128 : Int32) ||| ((cp >>> ((12 : Int32) &&& 31)) &&& (63 : Int32))).toInt8.toInt32)) &&& (63 : Int32))) <<< ((6 : Int32) &&& 31)) ||| ((nar .byte (((128 : Int32) ||| ((cp >>> ((6 : Int32) &&& 31)) &&& (63 : Int32))).toInt8.toInt32)) &&& (63 : Int32))) <<< ((6 : Int32) &&& 31)) ||| ((nar .byte (((128 : Int32) ||| (cp &&& (63 : Int32))).toInt8.toInt32)) &&& (63 : Int32)))) : z298 = cp := by
  obtain ⟨r1, r2⟩ := own_cp cc cp h_cp
  rw [Int32.lt_iff_toInt_lt] at hc108
  simp only [Int32.reduceToInt] at hc108
  rw [Int32.lt_iff_toInt_lt] at hc153
  simp only [Int32.reduceToInt] at hc153
  have s1 := c_ishr cp 18 18 (by decide)
  have o1 : (240 : Int32).toInt = 240 := rfl
  have t1 := own_or 240 (cp >>> ((18 : Int32) &&& 31)) 3 (by decide) 8 rfl (by rw [o1]; decide) (by rw [s1]; omega) (by rw [s1]; omega) (by rw [o1]; decide) (by rw [o1, s1]; omega)
  have t2 := own_b (240 ||| (cp >>> ((18 : Int32) &&& 31))) (by rw [t1, o1, s1]; omega) (by rw [t1, o1, s1]; omega)
  have m1 : ((127 : Int32) >>> ((4 : Int32) &&& 31)) = 7 := by decide
  rw [m1] at h_z298
  have t3 := c_mask (nar .byte ((240 ||| (cp >>> ((18 : Int32) &&& 31))).toInt8.toInt32)) 7 3 (by decide) (by decide)
  rw [t2, t1, o1, s1] at t3
  rw [← Int32.toInt_inj, h_z298]
  have k0 := own_c cp
  have s2 := c_ishr cp 6 6 (by decide)
  have s3 := c_ishr cp 12 12 (by decide)
  have k1 := own_c (cp >>> ((6 : Int32) &&& 31))
  have k2 := own_c (cp >>> ((12 : Int32) &&& 31))
  have u1 := own_st (nar .byte ((240 ||| (cp >>> ((18 : Int32) &&& 31))).toInt8.toInt32) &&& 7) (nar .byte ((128 ||| ((cp >>> ((12 : Int32) &&& 31)) &&& 63)).toInt8.toInt32)) (by rw [t3]; omega) (by rw [t3]; omega)
  rw [t3, k2, s3] at u1
  have u2 := own_st _ (nar .byte ((128 ||| ((cp >>> ((6 : Int32) &&& 31)) &&& 63)).toInt8.toInt32)) (by rw [u1]; omega) (by rw [u1]; omega)
  rw [u1, k1, s2] at u2
  rw [own_st _ _ (by rw [u2]; omega) (by rw [u2]; omega), u2, k0]; omega
theorem own_law_12 (cc : Int32) (a : Int32) (ju : Int64) (cp : Int32) (h_cp : cp = ((128 : Int32) + ((cc &&& (2147483647 : Int32)) % (1113984 : Int32)))) (j0 : Int32) (j1 : Int32) (j2 : Int32) (j3 : Int32) (j4 : Int32) (j5 : Int32) (j6 : Int32) (j7 : Int32) (hc108 : ¬ (cp < (2048 : Int32))) (hc153 : ¬ (cp < (65536 : Int32))) (z298 : Int32) (h_z298 : z298 = ((((((((nar .byte (((240 : Int32) ||| (cp >>> ((18 : Int32) &&& 31))).toInt8.toInt32)) &&& ((127 : Int32) >>> ((4 : Int32) &&& 31))) <<< ((6 : Int32) &&& 31)) ||| ((nar .byte (((128 : Int32) ||| ((cp >>> ((12 : Int32) &&& 31)) &&& (63 : Int32))).toInt8.toInt32)) &&& (63 : Int32))) <<< ((6 : Int32) &&& 31)) ||| ((nar .byte (((128 : Int32) ||| ((cp >>> ((6 : Int32) &&& 31)) &&& (63 : Int32))).toInt8.toInt32)) &&& (63 : Int32))) <<< ((6 : Int32) &&& 31)) ||| ((nar .byte (((128 : Int32) ||| (cp &&& (63 : Int32))).toInt8.toInt32)) &&& (63 : Int32)))) : nar .boolean (1 : Int32) = 1 := by
  rfl
theorem own_law_13 (cc : Int32) (a : Int32) (ju : Int64) (cp : Int32) (h_cp : cp = ((128 : Int32) + ((cc &&& (2147483647 : Int32)) % (1113984 : Int32)))) (j0 : Int32) (j1 : Int32) (j2 : Int32) (j3 : Int32) (j4 : Int32) (j5 : Int32) (j6 : Int32) (j7 : Int32) (hc108 : cp < (2048 : Int32)) (z298 : Int32) (h_z298 : z298 = ((((nar .byte (((192 : Int32) ||| (cp >>> ((6 : Int32) &&& 31))).toInt8.toInt32)) &&& ((127 : Int32) >>> ((2 : Int32) &&& 31))) <<< ((6 : Int32) &&& 31)) ||| ((nar .byte (((128 : Int32) ||| (cp &&& (63 : Int32))).toInt8.toInt32)) &&& (63 : Int32)))) : z298 = cp := by
  obtain ⟨r1, r2⟩ := own_cp cc cp h_cp
  rw [Int32.lt_iff_toInt_lt] at hc108
  simp only [Int32.reduceToInt] at hc108
  have s1 := c_ishr cp 6 6 (by decide)
  have o1 : (192 : Int32).toInt = 192 := rfl
  have t1 := own_or 192 (cp >>> ((6 : Int32) &&& 31)) 5 (by decide) 32 rfl (by rw [o1]; decide) (by rw [s1]; omega) (by rw [s1]; omega) (by rw [o1]; decide) (by rw [o1, s1]; omega)
  have t2 := own_b (192 ||| (cp >>> ((6 : Int32) &&& 31))) (by rw [t1, o1, s1]; omega) (by rw [t1, o1, s1]; omega)
  have m1 : ((127 : Int32) >>> ((2 : Int32) &&& 31)) = 31 := by decide
  rw [m1] at h_z298
  have t3 := c_mask (nar .byte ((192 ||| (cp >>> ((6 : Int32) &&& 31))).toInt8.toInt32)) 31 5 (by decide) (by decide)
  rw [t2, t1, o1, s1] at t3
  rw [← Int32.toInt_inj, h_z298]
  have k0 := own_c cp
  rw [own_st _ _ (by rw [t3]; omega) (by rw [t3]; omega), t3, k0]; omega
theorem own_law_14 (cc : Int32) (a : Int32) (ju : Int64) (cp : Int32) (h_cp : cp = ((128 : Int32) + ((cc &&& (2147483647 : Int32)) % (1113984 : Int32)))) (j0 : Int32) (j1 : Int32) (j2 : Int32) (j3 : Int32) (j4 : Int32) (j5 : Int32) (j6 : Int32) (j7 : Int32) (hc108 : cp < (2048 : Int32)) (z298 : Int32) (h_z298 : z298 = ((((nar .byte (((192 : Int32) ||| (cp >>> ((6 : Int32) &&& 31))).toInt8.toInt32)) &&& ((127 : Int32) >>> ((2 : Int32) &&& 31))) <<< ((6 : Int32) &&& 31)) ||| ((nar .byte (((128 : Int32) ||| (cp &&& (63 : Int32))).toInt8.toInt32)) &&& (63 : Int32)))) : nar .boolean (1 : Int32) = 1 := by
  rfl
theorem own_law_15 (cc : Int32) (a : Int32) (ju : Int64) (cp : Int32) (h_cp : cp = ((128 : Int32) + ((cc &&& (2147483647 : Int32)) % (1113984 : Int32)))) (j0 : Int32) (j1 : Int32) (j2 : Int32) (j3 : Int32) (j4 : Int32) (j5 : Int32) (j6 : Int32) (j7 : Int32) (hc108 : ¬ (cp < (2048 : Int32))) (hc153 : cp < (65536 : Int32)) (z298 : Int32) (h_z298 : z298 = ((((((nar .byte (((224 : Int32) ||| (cp >>> ((12 : Int32) &&& 31))).toInt8.toInt32)) &&& ((127 : Int32) >>> ((3 : Int32) &&& 31))) <<< ((6 : Int32) &&& 31)) ||| ((nar .byte (((128 : Int32) ||| ((cp >>> ((6 : Int32) &&& 31)) &&& (63 : Int32))).toInt8.toInt32)) &&& (63 : Int32))) <<< ((6 : Int32) &&& 31)) ||| ((nar .byte (((128 : Int32) ||| (cp &&& (63 : Int32))).toInt8.toInt32)) &&& (63 : Int32)))) : z298 = cp := by
  obtain ⟨r1, r2⟩ := own_cp cc cp h_cp
  rw [Int32.lt_iff_toInt_lt] at hc108
  simp only [Int32.reduceToInt] at hc108
  rw [Int32.lt_iff_toInt_lt] at hc153
  simp only [Int32.reduceToInt] at hc153
  have s1 := c_ishr cp 12 12 (by decide)
  have o1 : (224 : Int32).toInt = 224 := rfl
  have t1 := own_or 224 (cp >>> ((12 : Int32) &&& 31)) 4 (by decide) 16 rfl (by rw [o1]; decide) (by rw [s1]; omega) (by rw [s1]; omega) (by rw [o1]; decide) (by rw [o1, s1]; omega)
  have t2 := own_b (224 ||| (cp >>> ((12 : Int32) &&& 31))) (by rw [t1, o1, s1]; omega) (by rw [t1, o1, s1]; omega)
  have m1 : ((127 : Int32) >>> ((3 : Int32) &&& 31)) = 15 := by decide
  rw [m1] at h_z298
  have t3 := c_mask (nar .byte ((224 ||| (cp >>> ((12 : Int32) &&& 31))).toInt8.toInt32)) 15 4 (by decide) (by decide)
  rw [t2, t1, o1, s1] at t3
  rw [← Int32.toInt_inj, h_z298]
  have k0 := own_c cp
  have s2 := c_ishr cp 6 6 (by decide)
  have k1 := own_c (cp >>> ((6 : Int32) &&& 31))
  have u1 := own_st (nar .byte ((224 ||| (cp >>> ((12 : Int32) &&& 31))).toInt8.toInt32) &&& 15) (nar .byte ((128 ||| ((cp >>> ((6 : Int32) &&& 31)) &&& 63)).toInt8.toInt32)) (by rw [t3]; omega) (by rw [t3]; omega)
  rw [t3, k1, s2] at u1
  rw [own_st _ _ (by rw [u1]; omega) (by rw [u1]; omega), u1, k0]; omega
theorem own_law_16 (cc : Int32) (a : Int32) (ju : Int64) (cp : Int32) (h_cp : cp = ((128 : Int32) + ((cc &&& (2147483647 : Int32)) % (1113984 : Int32)))) (j0 : Int32) (j1 : Int32) (j2 : Int32) (j3 : Int32) (j4 : Int32) (j5 : Int32) (j6 : Int32) (j7 : Int32) (hc108 : ¬ (cp < (2048 : Int32))) (hc153 : cp < (65536 : Int32)) (z298 : Int32) (h_z298 : z298 = ((((((nar .byte (((224 : Int32) ||| (cp >>> ((12 : Int32) &&& 31))).toInt8.toInt32)) &&& ((127 : Int32) >>> ((3 : Int32) &&& 31))) <<< ((6 : Int32) &&& 31)) ||| ((nar .byte (((128 : Int32) ||| ((cp >>> ((6 : Int32) &&& 31)) &&& (63 : Int32))).toInt8.toInt32)) &&& (63 : Int32))) <<< ((6 : Int32) &&& 31)) ||| ((nar .byte (((128 : Int32) ||| (cp &&& (63 : Int32))).toInt8.toInt32)) &&& (63 : Int32)))) : nar .boolean (1 : Int32) = 1 := by
  rfl
theorem own_law_17 (cc : Int32) (a : Int32) (ju : Int64) (cp : Int32) (h_cp : cp = ((128 : Int32) + ((cc &&& (2147483647 : Int32)) % (1113984 : Int32)))) (j0 : Int32) (j1 : Int32) (j2 : Int32) (j3 : Int32) (j4 : Int32) (j5 : Int32) (j6 : Int32) (j7 : Int32) (hc108 : ¬ (cp < (2048 : Int32))) (hc153 : ¬ (cp < (65536 : Int32))) (z298 : Int32) (h_z298 : z298 = ((((((((nar .byte (((240 : Int32) ||| (cp >>> ((18 : Int32) &&& 31))).toInt8.toInt32)) &&& ((127 : Int32) >>> ((4 : Int32) &&& 31))) <<< ((6 : Int32) &&& 31)) ||| ((nar .byte (((128 : Int32) ||| ((cp >>> ((12 : Int32) &&& 31)) &&& (63 : Int32))).toInt8.toInt32)) &&& (63 : Int32))) <<< ((6 : Int32) &&& 31)) ||| ((nar .byte (((128 : Int32) ||| ((cp >>> ((6 : Int32) &&& 31)) &&& (63 : Int32))).toInt8.toInt32)) &&& (63 : Int32))) <<< ((6 : Int32) &&& 31)) ||| ((nar .byte (((128 : Int32) ||| (cp &&& (63 : Int32))).toInt8.toInt32)) &&& (63 : Int32)))) : z298 = cp := by
  obtain ⟨r1, r2⟩ := own_cp cc cp h_cp
  rw [Int32.lt_iff_toInt_lt] at hc108
  simp only [Int32.reduceToInt] at hc108
  rw [Int32.lt_iff_toInt_lt] at hc153
  simp only [Int32.reduceToInt] at hc153
  have s1 := c_ishr cp 18 18 (by decide)
  have o1 : (240 : Int32).toInt = 240 := rfl
  have t1 := own_or 240 (cp >>> ((18 : Int32) &&& 31)) 3 (by decide) 8 rfl (by rw [o1]; decide) (by rw [s1]; omega) (by rw [s1]; omega) (by rw [o1]; decide) (by rw [o1, s1]; omega)
  have t2 := own_b (240 ||| (cp >>> ((18 : Int32) &&& 31))) (by rw [t1, o1, s1]; omega) (by rw [t1, o1, s1]; omega)
  have m1 : ((127 : Int32) >>> ((4 : Int32) &&& 31)) = 7 := by decide
  rw [m1] at h_z298
  have t3 := c_mask (nar .byte ((240 ||| (cp >>> ((18 : Int32) &&& 31))).toInt8.toInt32)) 7 3 (by decide) (by decide)
  rw [t2, t1, o1, s1] at t3
  rw [← Int32.toInt_inj, h_z298]
  have k0 := own_c cp
  have s2 := c_ishr cp 6 6 (by decide)
  have s3 := c_ishr cp 12 12 (by decide)
  have k1 := own_c (cp >>> ((6 : Int32) &&& 31))
  have k2 := own_c (cp >>> ((12 : Int32) &&& 31))
  have u1 := own_st (nar .byte ((240 ||| (cp >>> ((18 : Int32) &&& 31))).toInt8.toInt32) &&& 7) (nar .byte ((128 ||| ((cp >>> ((12 : Int32) &&& 31)) &&& 63)).toInt8.toInt32)) (by rw [t3]; omega) (by rw [t3]; omega)
  rw [t3, k2, s3] at u1
  have u2 := own_st _ (nar .byte ((128 ||| ((cp >>> ((6 : Int32) &&& 31)) &&& 63)).toInt8.toInt32)) (by rw [u1]; omega) (by rw [u1]; omega)
  rw [u1, k1, s2] at u2
  rw [own_st _ _ (by rw [u2]; omega) (by rw [u2]; omega), u2, k0]; omega
theorem own_law_18 (cc : Int32) (a : Int32) (ju : Int64) (cp : Int32) (h_cp : cp = ((128 : Int32) + ((cc &&& (2147483647 : Int32)) % (1113984 : Int32)))) (j0 : Int32) (j1 : Int32) (j2 : Int32) (j3 : Int32) (j4 : Int32) (j5 : Int32) (j6 : Int32) (j7 : Int32) (hc108 : ¬ (cp < (2048 : Int32))) (hc153 : ¬ (cp < (65536 : Int32))) (z298 : Int32) (h_z298 : z298 = ((((((((nar .byte (((240 : Int32) ||| (cp >>> ((18 : Int32) &&& 31))).toInt8.toInt32)) &&& ((127 : Int32) >>> ((4 : Int32) &&& 31))) <<< ((6 : Int32) &&& 31)) ||| ((nar .byte (((128 : Int32) ||| ((cp >>> ((12 : Int32) &&& 31)) &&& (63 : Int32))).toInt8.toInt32)) &&& (63 : Int32))) <<< ((6 : Int32) &&& 31)) ||| ((nar .byte (((128 : Int32) ||| ((cp >>> ((6 : Int32) &&& 31)) &&& (63 : Int32))).toInt8.toInt32)) &&& (63 : Int32))) <<< ((6 : Int32) &&& 31)) ||| ((nar .byte (((128 : Int32) ||| (cp &&& (63 : Int32))).toInt8.toInt32)) &&& (63 : Int32)))) : nar .boolean (1 : Int32) = 1 := by
  rfl
theorem own_law_19 (cc : Int32) (a : Int32) (ju : Int64) (cp : Int32) (h_cp : cp = ((128 : Int32) + ((cc &&& (2147483647 : Int32)) % (1113984 : Int32)))) (j0 : Int32) (j1 : Int32) (j2 : Int32) (j3 : Int32) (j4 : Int32) (j5 : Int32) (j6 : Int32) (j7 : Int32) (hc108 : cp < (2048 : Int32)) (z298 : Int32) (h_z298 : z298 = ((((nar .byte (((192 : Int32) ||| (cp >>> ((6 : Int32) &&& 31))).toInt8.toInt32)) &&& ((127 : Int32) >>> ((2 : Int32) &&& 31))) <<< ((6 : Int32) &&& 31)) ||| ((nar .byte (((128 : Int32) ||| (cp &&& (63 : Int32))).toInt8.toInt32)) &&& (63 : Int32)))) : z298 = cp := by
  obtain ⟨r1, r2⟩ := own_cp cc cp h_cp
  rw [Int32.lt_iff_toInt_lt] at hc108
  simp only [Int32.reduceToInt] at hc108
  have s1 := c_ishr cp 6 6 (by decide)
  have o1 : (192 : Int32).toInt = 192 := rfl
  have t1 := own_or 192 (cp >>> ((6 : Int32) &&& 31)) 5 (by decide) 32 rfl (by rw [o1]; decide) (by rw [s1]; omega) (by rw [s1]; omega) (by rw [o1]; decide) (by rw [o1, s1]; omega)
  have t2 := own_b (192 ||| (cp >>> ((6 : Int32) &&& 31))) (by rw [t1, o1, s1]; omega) (by rw [t1, o1, s1]; omega)
  have m1 : ((127 : Int32) >>> ((2 : Int32) &&& 31)) = 31 := by decide
  rw [m1] at h_z298
  have t3 := c_mask (nar .byte ((192 ||| (cp >>> ((6 : Int32) &&& 31))).toInt8.toInt32)) 31 5 (by decide) (by decide)
  rw [t2, t1, o1, s1] at t3
  rw [← Int32.toInt_inj, h_z298]
  have k0 := own_c cp
  rw [own_st _ _ (by rw [t3]; omega) (by rw [t3]; omega), t3, k0]; omega
theorem own_law_20 (cc : Int32) (a : Int32) (ju : Int64) (cp : Int32) (h_cp : cp = ((128 : Int32) + ((cc &&& (2147483647 : Int32)) % (1113984 : Int32)))) (j0 : Int32) (j1 : Int32) (j2 : Int32) (j3 : Int32) (j4 : Int32) (j5 : Int32) (j6 : Int32) (j7 : Int32) (hc108 : cp < (2048 : Int32)) (z298 : Int32) (h_z298 : z298 = ((((nar .byte (((192 : Int32) ||| (cp >>> ((6 : Int32) &&& 31))).toInt8.toInt32)) &&& ((127 : Int32) >>> ((2 : Int32) &&& 31))) <<< ((6 : Int32) &&& 31)) ||| ((nar .byte (((128 : Int32) ||| (cp &&& (63 : Int32))).toInt8.toInt32)) &&& (63 : Int32)))) : nar .boolean (1 : Int32) = 1 := by
  rfl
theorem own_law_21 (cc : Int32) (a : Int32) (ju : Int64) (cp : Int32) (h_cp : cp = ((128 : Int32) + ((cc &&& (2147483647 : Int32)) % (1113984 : Int32)))) (j0 : Int32) (j1 : Int32) (j2 : Int32) (j3 : Int32) (j4 : Int32) (j5 : Int32) (j6 : Int32) (j7 : Int32) (hc108 : ¬ (cp < (2048 : Int32))) (hc153 : cp < (65536 : Int32)) (z298 : Int32) (h_z298 : z298 = ((((((nar .byte (((224 : Int32) ||| (cp >>> ((12 : Int32) &&& 31))).toInt8.toInt32)) &&& ((127 : Int32) >>> ((3 : Int32) &&& 31))) <<< ((6 : Int32) &&& 31)) ||| ((nar .byte (((128 : Int32) ||| ((cp >>> ((6 : Int32) &&& 31)) &&& (63 : Int32))).toInt8.toInt32)) &&& (63 : Int32))) <<< ((6 : Int32) &&& 31)) ||| ((nar .byte (((128 : Int32) ||| (cp &&& (63 : Int32))).toInt8.toInt32)) &&& (63 : Int32)))) : z298 = cp := by
  obtain ⟨r1, r2⟩ := own_cp cc cp h_cp
  rw [Int32.lt_iff_toInt_lt] at hc108
  simp only [Int32.reduceToInt] at hc108
  rw [Int32.lt_iff_toInt_lt] at hc153
  simp only [Int32.reduceToInt] at hc153
  have s1 := c_ishr cp 12 12 (by decide)
  have o1 : (224 : Int32).toInt = 224 := rfl
  have t1 := own_or 224 (cp >>> ((12 : Int32) &&& 31)) 4 (by decide) 16 rfl (by rw [o1]; decide) (by rw [s1]; omega) (by rw [s1]; omega) (by rw [o1]; decide) (by rw [o1, s1]; omega)
  have t2 := own_b (224 ||| (cp >>> ((12 : Int32) &&& 31))) (by rw [t1, o1, s1]; omega) (by rw [t1, o1, s1]; omega)
  have m1 : ((127 : Int32) >>> ((3 : Int32) &&& 31)) = 15 := by decide
  rw [m1] at h_z298
  have t3 := c_mask (nar .byte ((224 ||| (cp >>> ((12 : Int32) &&& 31))).toInt8.toInt32)) 15 4 (by decide) (by decide)
  rw [t2, t1, o1, s1] at t3
  rw [← Int32.toInt_inj, h_z298]
  have k0 := own_c cp
  have s2 := c_ishr cp 6 6 (by decide)
  have k1 := own_c (cp >>> ((6 : Int32) &&& 31))
  have u1 := own_st (nar .byte ((224 ||| (cp >>> ((12 : Int32) &&& 31))).toInt8.toInt32) &&& 15) (nar .byte ((128 ||| ((cp >>> ((6 : Int32) &&& 31)) &&& 63)).toInt8.toInt32)) (by rw [t3]; omega) (by rw [t3]; omega)
  rw [t3, k1, s2] at u1
  rw [own_st _ _ (by rw [u1]; omega) (by rw [u1]; omega), u1, k0]; omega
theorem own_law_22 (cc : Int32) (a : Int32) (ju : Int64) (cp : Int32) (h_cp : cp = ((128 : Int32) + ((cc &&& (2147483647 : Int32)) % (1113984 : Int32)))) (j0 : Int32) (j1 : Int32) (j2 : Int32) (j3 : Int32) (j4 : Int32) (j5 : Int32) (j6 : Int32) (j7 : Int32) (hc108 : ¬ (cp < (2048 : Int32))) (hc153 : cp < (65536 : Int32)) (z298 : Int32) (h_z298 : z298 = ((((((nar .byte (((224 : Int32) ||| (cp >>> ((12 : Int32) &&& 31))).toInt8.toInt32)) &&& ((127 : Int32) >>> ((3 : Int32) &&& 31))) <<< ((6 : Int32) &&& 31)) ||| ((nar .byte (((128 : Int32) ||| ((cp >>> ((6 : Int32) &&& 31)) &&& (63 : Int32))).toInt8.toInt32)) &&& (63 : Int32))) <<< ((6 : Int32) &&& 31)) ||| ((nar .byte (((128 : Int32) ||| (cp &&& (63 : Int32))).toInt8.toInt32)) &&& (63 : Int32)))) : nar .boolean (1 : Int32) = 1 := by
  rfl
theorem own_law_23 (cc : Int32) (a : Int32) (ju : Int64) (cp : Int32) (h_cp : cp = ((128 : Int32) + ((cc &&& (2147483647 : Int32)) % (1113984 : Int32)))) (j0 : Int32) (j1 : Int32) (j2 : Int32) (j3 : Int32) (j4 : Int32) (j5 : Int32) (j6 : Int32) (j7 : Int32) (hc108 : ¬ (cp < (2048 : Int32))) (hc153 : ¬ (cp < (65536 : Int32))) (z298 : Int32) (h_z298 : z298 = ((((((((nar .byte (((240 : Int32) ||| (cp >>> ((18 : Int32) &&& 31))).toInt8.toInt32)) &&& ((127 : Int32) >>> ((4 : Int32) &&& 31))) <<< ((6 : Int32) &&& 31)) ||| ((nar .byte (((128 : Int32) ||| ((cp >>> ((12 : Int32) &&& 31)) &&& (63 : Int32))).toInt8.toInt32)) &&& (63 : Int32))) <<< ((6 : Int32) &&& 31)) ||| ((nar .byte (((128 : Int32) ||| ((cp >>> ((6 : Int32) &&& 31)) &&& (63 : Int32))).toInt8.toInt32)) &&& (63 : Int32))) <<< ((6 : Int32) &&& 31)) ||| ((nar .byte (((128 : Int32) ||| (cp &&& (63 : Int32))).toInt8.toInt32)) &&& (63 : Int32)))) : z298 = cp := by
  obtain ⟨r1, r2⟩ := own_cp cc cp h_cp
  rw [Int32.lt_iff_toInt_lt] at hc108
  simp only [Int32.reduceToInt] at hc108
  rw [Int32.lt_iff_toInt_lt] at hc153
  simp only [Int32.reduceToInt] at hc153
  have s1 := c_ishr cp 18 18 (by decide)
  have o1 : (240 : Int32).toInt = 240 := rfl
  have t1 := own_or 240 (cp >>> ((18 : Int32) &&& 31)) 3 (by decide) 8 rfl (by rw [o1]; decide) (by rw [s1]; omega) (by rw [s1]; omega) (by rw [o1]; decide) (by rw [o1, s1]; omega)
  have t2 := own_b (240 ||| (cp >>> ((18 : Int32) &&& 31))) (by rw [t1, o1, s1]; omega) (by rw [t1, o1, s1]; omega)
  have m1 : ((127 : Int32) >>> ((4 : Int32) &&& 31)) = 7 := by decide
  rw [m1] at h_z298
  have t3 := c_mask (nar .byte ((240 ||| (cp >>> ((18 : Int32) &&& 31))).toInt8.toInt32)) 7 3 (by decide) (by decide)
  rw [t2, t1, o1, s1] at t3
  rw [← Int32.toInt_inj, h_z298]
  have k0 := own_c cp
  have s2 := c_ishr cp 6 6 (by decide)
  have s3 := c_ishr cp 12 12 (by decide)
  have k1 := own_c (cp >>> ((6 : Int32) &&& 31))
  have k2 := own_c (cp >>> ((12 : Int32) &&& 31))
  have u1 := own_st (nar .byte ((240 ||| (cp >>> ((18 : Int32) &&& 31))).toInt8.toInt32) &&& 7) (nar .byte ((128 ||| ((cp >>> ((12 : Int32) &&& 31)) &&& 63)).toInt8.toInt32)) (by rw [t3]; omega) (by rw [t3]; omega)
  rw [t3, k2, s3] at u1
  have u2 := own_st _ (nar .byte ((128 ||| ((cp >>> ((6 : Int32) &&& 31)) &&& 63)).toInt8.toInt32)) (by rw [u1]; omega) (by rw [u1]; omega)
  rw [u1, k1, s2] at u2
  rw [own_st _ _ (by rw [u2]; omega) (by rw [u2]; omega), u2, k0]; omega
theorem own_law_24 (cc : Int32) (a : Int32) (ju : Int64) (cp : Int32) (h_cp : cp = ((128 : Int32) + ((cc &&& (2147483647 : Int32)) % (1113984 : Int32)))) (j0 : Int32) (j1 : Int32) (j2 : Int32) (j3 : Int32) (j4 : Int32) (j5 : Int32) (j6 : Int32) (j7 : Int32) (hc108 : ¬ (cp < (2048 : Int32))) (hc153 : ¬ (cp < (65536 : Int32))) (z298 : Int32) (h_z298 : z298 = ((((((((nar .byte (((240 : Int32) ||| (cp >>> ((18 : Int32) &&& 31))).toInt8.toInt32)) &&& ((127 : Int32) >>> ((4 : Int32) &&& 31))) <<< ((6 : Int32) &&& 31)) ||| ((nar .byte (((128 : Int32) ||| ((cp >>> ((12 : Int32) &&& 31)) &&& (63 : Int32))).toInt8.toInt32)) &&& (63 : Int32))) <<< ((6 : Int32) &&& 31)) ||| ((nar .byte (((128 : Int32) ||| ((cp >>> ((6 : Int32) &&& 31)) &&& (63 : Int32))).toInt8.toInt32)) &&& (63 : Int32))) <<< ((6 : Int32) &&& 31)) ||| ((nar .byte (((128 : Int32) ||| (cp &&& (63 : Int32))).toInt8.toInt32)) &&& (63 : Int32)))) : nar .boolean (1 : Int32) = 1 := by
  rfl
theorem pn_law : plainFor x = true := by first | (refine plainFor_of_name ?_; show plainName "com/example/stamp_to_key/stamptokey/Utf8CodePointPinLaw" = true; simp [plainName, overriddenIn]; done) | decide +kernel
set_option maxRecDepth 65536 in
set_option maxHeartbeats 40000000 in
theorem c_law (l : Launch) (Z : State) (a0 : Array Value) (hw : ∀ d ∈ tables_1, d.before a0 Z = true) (cc : Int32) (a : Int32) (ju : Int64) (h0 : Heap) (n0 : Nat) (Z0 : n0 ≤ h0.size) :
    Con l Z x code maxLocals ret room_1 #[.int cc, .int a, .long ju] h0 n0 QL tables_1 := by
  refine con_of_wp pn_law (L0 := #[.val (.int cc), .val (.int a), .val (.long ju), .second, .unset, .unset, .unset, .unset]) (fun m => by first | (simp [entryFrame, mkF, argsToLocals, Value.category, maxLocals]; done) | rfl) (fun X hl ok => ?_)
  subst hl
  have hK : Konst Z a0 "com/example/stamp_to_key/stamptokey/Utf8CodePointPinLaw" k_law := ⟨Or.inl ⟨_, rfl, wd hw 0 rfl⟩, ⟨Or.inl ⟨_, rfl, wd hw 1 rfl⟩, ⟨Or.inl ⟨_, rfl, wd hw 7 rfl⟩, trivial⟩⟩⟩
  refine wp_run ok hK (B := [(0, .sipush 128, false), (3, .iload_n 0, false), (4, .ldc 7, false), (6, .iand, false), (7, .ldc 8, false), (9, .irem, false), (10, .iadd, false), (11, .istore 4, false)]) (by decide +kernel) (ps := [(1113984 : Int32) ≠ 0]) (pc' := 13) (L' := #[.val (.int cc), .val (.int a), .val (.long ju), .second, .val (.int ((128 : Int32) + ((cc &&& (2147483647 : Int32)) % (1113984 : Int32)))), .unset, .unset, .unset]) (S' := []) rfl ⟨(by decide), trivial⟩ ?_
  obtain ⟨cp, h_cp⟩ : ∃ z : Int32, z = ((128 : Int32) + ((cc &&& (2147483647 : Int32)) % (1113984 : Int32))) := ⟨_, rfl⟩
  rw [← h_cp]
  refine wp_run ok hK (B := [(13, .iload_n 1, false), (14, .iconst 3, false), (15, .iand, false), (16, .istore 5, false)]) (by decide +kernel) (ps := []) (pc' := 18) (L' := #[.val (.int cc), .val (.int a), .val (.long ju), .second, .val (.int cp), .val (.int (a &&& (3 : Int32))), .unset, .unset]) (S' := []) rfl trivial ?_
  obtain ⟨at_, h_at_⟩ : ∃ z : Int32, z = (a &&& (3 : Int32)) := ⟨_, rfl⟩
  rw [← h_at_]
  refine wp_run ok hK (B := [(18, .bipush 8, false)]) (by decide +kernel) (ps := []) (pc' := 20) (L' := #[.val (.int cc), .val (.int a), .val (.long ju), .second, .val (.int cp), .val (.int at_), .unset, .unset]) (S' := [.int (8 : Int32)]) rfl trivial ?_
  refine wp_nA ok (aty := .byte) (wd hw 2 rfl) (by decide +kernel) (cap := 8) (by rfl) (by decide) (by decide) (by decide) ?_
  intro h1 a2 ea3 X4 A5
  have Z6 : n0 ≤ h1.size := Nat.le_trans Z0 X4.1
  have A7 : Ar Z h1 a2 .byte 8 (lst [.int (0 : Int32), .int (0 : Int32), .int (0 : Int32), .int (0 : Int32), .int (0 : Int32), .int (0 : Int32), .int (0 : Int32), .int (0 : Int32)]) := lst_new A5 rfl
  have g8 : n0 ≤ a2 := by rw [ea3]; exact Z0
  refine wp_run ok hK (B := [(22, .astore 6, false), (24, .aload 6, false), (26, .iconst 0, false), (27, .lload_n 2, false), (28, .l2i, false), (29, .i2b, false)]) (by decide +kernel) (ps := []) (pc' := 30) (L' := #[.val (.int cc), .val (.int a), .val (.long ju), .second, .val (.int cp), .val (.int at_), .val ((.ref a2)), .unset]) (S' := [.int ((ju.toInt32).toInt8.toInt32), .int (0 : Int32), (.ref a2)]) rfl trivial ?_
  refine wp_sB ok A7 (i := 0) (by rfl) (by decide) (by decide +kernel) g8 ?_
  intro h9 W10 A11
  have A12 : Ar Z h9 a2 .byte 8 (lst [.int (nar .byte ((ju.toInt32).toInt8.toInt32)), .int (0 : Int32), .int (0 : Int32), .int (0 : Int32), .int (0 : Int32), .int (0 : Int32), .int (0 : Int32), .int (0 : Int32)]) := lst_set A11 rfl (by decide) rfl
  have Z13 : n0 ≤ h9.size := by rw [W10.size]; exact Z6
  refine wp_run ok hK (B := [(31, .aload 6, false), (33, .iconst 1, false), (34, .lload_n 2, false), (35, .bipush 8, false), (37, .lushr, false), (38, .l2i, false), (39, .i2b, false)]) (by decide +kernel) (ps := []) (pc' := 40) (L' := #[.val (.int cc), .val (.int a), .val (.long ju), .second, .val (.int cp), .val (.int at_), .val ((.ref a2)), .unset]) (S' := [.int (((ushL ju (8 : Int32)).toInt32).toInt8.toInt32), .int (1 : Int32), (.ref a2)]) rfl trivial ?_
  refine wp_sB ok A12 (i := 1) (by rfl) (by decide) (by decide +kernel) g8 ?_
  intro h14 W15 A16
  have A17 : Ar Z h14 a2 .byte 8 (lst [.int (nar .byte ((ju.toInt32).toInt8.toInt32)), .int (nar .byte (((ushL ju (8 : Int32)).toInt32).toInt8.toInt32)), .int (0 : Int32), .int (0 : Int32), .int (0 : Int32), .int (0 : Int32), .int (0 : Int32), .int (0 : Int32)]) := lst_set A16 rfl (by decide) rfl
  have Z18 : n0 ≤ h14.size := by rw [W15.size]; exact Z13
  refine wp_run ok hK (B := [(41, .aload 6, false), (43, .iconst 2, false), (44, .lload_n 2, false), (45, .bipush 16, false), (47, .lushr, false), (48, .l2i, false), (49, .i2b, false)]) (by decide +kernel) (ps := []) (pc' := 50) (L' := #[.val (.int cc), .val (.int a), .val (.long ju), .second, .val (.int cp), .val (.int at_), .val ((.ref a2)), .unset]) (S' := [.int (((ushL ju (16 : Int32)).toInt32).toInt8.toInt32), .int (2 : Int32), (.ref a2)]) rfl trivial ?_
  refine wp_sB ok A17 (i := 2) (by rfl) (by decide) (by decide +kernel) g8 ?_
  intro h19 W20 A21
  have A22 : Ar Z h19 a2 .byte 8 (lst [.int (nar .byte ((ju.toInt32).toInt8.toInt32)), .int (nar .byte (((ushL ju (8 : Int32)).toInt32).toInt8.toInt32)), .int (nar .byte (((ushL ju (16 : Int32)).toInt32).toInt8.toInt32)), .int (0 : Int32), .int (0 : Int32), .int (0 : Int32), .int (0 : Int32), .int (0 : Int32)]) := lst_set A21 rfl (by decide) rfl
  have Z23 : n0 ≤ h19.size := by rw [W20.size]; exact Z18
  refine wp_run ok hK (B := [(51, .aload 6, false), (53, .iconst 3, false), (54, .lload_n 2, false), (55, .bipush 24, false), (57, .lushr, false), (58, .l2i, false), (59, .i2b, false)]) (by decide +kernel) (ps := []) (pc' := 60) (L' := #[.val (.int cc), .val (.int a), .val (.long ju), .second, .val (.int cp), .val (.int at_), .val ((.ref a2)), .unset]) (S' := [.int (((ushL ju (24 : Int32)).toInt32).toInt8.toInt32), .int (3 : Int32), (.ref a2)]) rfl trivial ?_
  refine wp_sB ok A22 (i := 3) (by rfl) (by decide) (by decide +kernel) g8 ?_
  intro h24 W25 A26
  have A27 : Ar Z h24 a2 .byte 8 (lst [.int (nar .byte ((ju.toInt32).toInt8.toInt32)), .int (nar .byte (((ushL ju (8 : Int32)).toInt32).toInt8.toInt32)), .int (nar .byte (((ushL ju (16 : Int32)).toInt32).toInt8.toInt32)), .int (nar .byte (((ushL ju (24 : Int32)).toInt32).toInt8.toInt32)), .int (0 : Int32), .int (0 : Int32), .int (0 : Int32), .int (0 : Int32)]) := lst_set A26 rfl (by decide) rfl
  have Z28 : n0 ≤ h24.size := by rw [W25.size]; exact Z23
  refine wp_run ok hK (B := [(61, .aload 6, false), (63, .iconst 4, false), (64, .lload_n 2, false), (65, .bipush 32, false), (67, .lushr, false), (68, .l2i, false), (69, .i2b, false)]) (by decide +kernel) (ps := []) (pc' := 70) (L' := #[.val (.int cc), .val (.int a), .val (.long ju), .second, .val (.int cp), .val (.int at_), .val ((.ref a2)), .unset]) (S' := [.int (((ushL ju (32 : Int32)).toInt32).toInt8.toInt32), .int (4 : Int32), (.ref a2)]) rfl trivial ?_
  refine wp_sB ok A27 (i := 4) (by rfl) (by decide) (by decide +kernel) g8 ?_
  intro h29 W30 A31
  have A32 : Ar Z h29 a2 .byte 8 (lst [.int (nar .byte ((ju.toInt32).toInt8.toInt32)), .int (nar .byte (((ushL ju (8 : Int32)).toInt32).toInt8.toInt32)), .int (nar .byte (((ushL ju (16 : Int32)).toInt32).toInt8.toInt32)), .int (nar .byte (((ushL ju (24 : Int32)).toInt32).toInt8.toInt32)), .int (nar .byte (((ushL ju (32 : Int32)).toInt32).toInt8.toInt32)), .int (0 : Int32), .int (0 : Int32), .int (0 : Int32)]) := lst_set A31 rfl (by decide) rfl
  have Z33 : n0 ≤ h29.size := by rw [W30.size]; exact Z28
  refine wp_run ok hK (B := [(71, .aload 6, false), (73, .iconst 5, false), (74, .lload_n 2, false), (75, .bipush 40, false), (77, .lushr, false), (78, .l2i, false), (79, .i2b, false)]) (by decide +kernel) (ps := []) (pc' := 80) (L' := #[.val (.int cc), .val (.int a), .val (.long ju), .second, .val (.int cp), .val (.int at_), .val ((.ref a2)), .unset]) (S' := [.int (((ushL ju (40 : Int32)).toInt32).toInt8.toInt32), .int (5 : Int32), (.ref a2)]) rfl trivial ?_
  refine wp_sB ok A32 (i := 5) (by rfl) (by decide) (by decide +kernel) g8 ?_
  intro h34 W35 A36
  have A37 : Ar Z h34 a2 .byte 8 (lst [.int (nar .byte ((ju.toInt32).toInt8.toInt32)), .int (nar .byte (((ushL ju (8 : Int32)).toInt32).toInt8.toInt32)), .int (nar .byte (((ushL ju (16 : Int32)).toInt32).toInt8.toInt32)), .int (nar .byte (((ushL ju (24 : Int32)).toInt32).toInt8.toInt32)), .int (nar .byte (((ushL ju (32 : Int32)).toInt32).toInt8.toInt32)), .int (nar .byte (((ushL ju (40 : Int32)).toInt32).toInt8.toInt32)), .int (0 : Int32), .int (0 : Int32)]) := lst_set A36 rfl (by decide) rfl
  have Z38 : n0 ≤ h34.size := by rw [W35.size]; exact Z33
  refine wp_run ok hK (B := [(81, .aload 6, false), (83, .bipush 6, false), (85, .lload_n 2, false), (86, .bipush 48, false), (88, .lushr, false), (89, .l2i, false), (90, .i2b, false)]) (by decide +kernel) (ps := []) (pc' := 91) (L' := #[.val (.int cc), .val (.int a), .val (.long ju), .second, .val (.int cp), .val (.int at_), .val ((.ref a2)), .unset]) (S' := [.int (((ushL ju (48 : Int32)).toInt32).toInt8.toInt32), .int (6 : Int32), (.ref a2)]) rfl trivial ?_
  refine wp_sB ok A37 (i := 6) (by rfl) (by decide) (by decide +kernel) g8 ?_
  intro h39 W40 A41
  have A42 : Ar Z h39 a2 .byte 8 (lst [.int (nar .byte ((ju.toInt32).toInt8.toInt32)), .int (nar .byte (((ushL ju (8 : Int32)).toInt32).toInt8.toInt32)), .int (nar .byte (((ushL ju (16 : Int32)).toInt32).toInt8.toInt32)), .int (nar .byte (((ushL ju (24 : Int32)).toInt32).toInt8.toInt32)), .int (nar .byte (((ushL ju (32 : Int32)).toInt32).toInt8.toInt32)), .int (nar .byte (((ushL ju (40 : Int32)).toInt32).toInt8.toInt32)), .int (nar .byte (((ushL ju (48 : Int32)).toInt32).toInt8.toInt32)), .int (0 : Int32)]) := lst_set A41 rfl (by decide) rfl
  have Z43 : n0 ≤ h39.size := by rw [W40.size]; exact Z38
  refine wp_run ok hK (B := [(92, .aload 6, false), (94, .bipush 7, false), (96, .lload_n 2, false), (97, .bipush 56, false), (99, .lushr, false), (100, .l2i, false), (101, .i2b, false)]) (by decide +kernel) (ps := []) (pc' := 102) (L' := #[.val (.int cc), .val (.int a), .val (.long ju), .second, .val (.int cp), .val (.int at_), .val ((.ref a2)), .unset]) (S' := [.int (((ushL ju (56 : Int32)).toInt32).toInt8.toInt32), .int (7 : Int32), (.ref a2)]) rfl trivial ?_
  refine wp_sB ok A42 (i := 7) (by rfl) (by decide) (by decide +kernel) g8 ?_
  intro h44 W45 A46
  have A47 : Ar Z h44 a2 .byte 8 (lst [.int (nar .byte ((ju.toInt32).toInt8.toInt32)), .int (nar .byte (((ushL ju (8 : Int32)).toInt32).toInt8.toInt32)), .int (nar .byte (((ushL ju (16 : Int32)).toInt32).toInt8.toInt32)), .int (nar .byte (((ushL ju (24 : Int32)).toInt32).toInt8.toInt32)), .int (nar .byte (((ushL ju (32 : Int32)).toInt32).toInt8.toInt32)), .int (nar .byte (((ushL ju (40 : Int32)).toInt32).toInt8.toInt32)), .int (nar .byte (((ushL ju (48 : Int32)).toInt32).toInt8.toInt32)), .int (nar .byte (((ushL ju (56 : Int32)).toInt32).toInt8.toInt32))]) := lst_set A46 rfl (by decide) rfl
  have Z48 : n0 ≤ h44.size := by rw [W45.size]; exact Z43
  obtain ⟨j0, hj0⟩ : ∃ z : Int32, z = (nar .byte ((ju.toInt32).toInt8.toInt32)) := ⟨_, rfl⟩
  rw [← hj0] at A47
  obtain ⟨j1, hj1⟩ : ∃ z : Int32, z = (nar .byte (((ushL ju (8 : Int32)).toInt32).toInt8.toInt32)) := ⟨_, rfl⟩
  rw [← hj1] at A47
  obtain ⟨j2, hj2⟩ : ∃ z : Int32, z = (nar .byte (((ushL ju (16 : Int32)).toInt32).toInt8.toInt32)) := ⟨_, rfl⟩
  rw [← hj2] at A47
  obtain ⟨j3, hj3⟩ : ∃ z : Int32, z = (nar .byte (((ushL ju (24 : Int32)).toInt32).toInt8.toInt32)) := ⟨_, rfl⟩
  rw [← hj3] at A47
  obtain ⟨j4, hj4⟩ : ∃ z : Int32, z = (nar .byte (((ushL ju (32 : Int32)).toInt32).toInt8.toInt32)) := ⟨_, rfl⟩
  rw [← hj4] at A47
  obtain ⟨j5, hj5⟩ : ∃ z : Int32, z = (nar .byte (((ushL ju (40 : Int32)).toInt32).toInt8.toInt32)) := ⟨_, rfl⟩
  rw [← hj5] at A47
  obtain ⟨j6, hj6⟩ : ∃ z : Int32, z = (nar .byte (((ushL ju (48 : Int32)).toInt32).toInt8.toInt32)) := ⟨_, rfl⟩
  rw [← hj6] at A47
  obtain ⟨j7, hj7⟩ : ∃ z : Int32, z = (nar .byte (((ushL ju (56 : Int32)).toInt32).toInt8.toInt32)) := ⟨_, rfl⟩
  rw [← hj7] at A47
  rcases own_at a at_ h_at_ with eat | eat | eat | eat
  · subst eat
    refine wp_run ok hK (B := [(103, .iload 4, false), (105, .sipush 2048, false)]) (by decide +kernel) (ps := []) (pc' := 108) (L' := #[.val (.int cc), .val (.int a), .val (.long ju), .second, .val (.int cp), .val (.int (0 : Int32)), .val ((.ref a2)), .unset]) (S' := [.int (2048 : Int32), .int cp]) rfl trivial ?_
    by_cases hc108 : cp < (2048 : Int32)
    · refine wp_run ok hK (B := [(108, .if_icmp .ge 41, false)]) (by decide +kernel) (ps := [Op.if_icmp.holds .ge cp (2048 : Int32) = false]) (pc' := 111) (L' := #[.val (.int cc), .val (.int a), .val (.long ju), .second, .val (.int cp), .val (.int (0 : Int32)), .val ((.ref a2)), .unset]) (S' := []) rfl ⟨(XT.ii_ge_f hc108), trivial⟩ ?_
      refine wp_run ok hK (B := [(111, .iconst 2, false), (112, .istore 7, false), (114, .aload 6, false), (116, .iload 5, false), (118, .sipush 192, false), (121, .iload 4, false), (123, .bipush 6, false), (125, .ishr, false), (126, .ior, false), (127, .i2b, false)]) (by decide +kernel) (ps := []) (pc' := 128) (L' := #[.val (.int cc), .val (.int a), .val (.long ju), .second, .val (.int cp), .val (.int (0 : Int32)), .val ((.ref a2)), .val (.int (2 : Int32))]) (S' := [.int (((192 : Int32) ||| (cp >>> ((6 : Int32) &&& 31))).toInt8.toInt32), .int (0 : Int32), (.ref a2)]) rfl trivial ?_
      refine wp_sB ok A47 (i := 0) (by rfl) (by decide) (by decide +kernel) g8 ?_
      intro h49 W50 A51
      have A52 : Ar Z h49 a2 .byte 8 (lst [.int (nar .byte (((192 : Int32) ||| (cp >>> ((6 : Int32) &&& 31))).toInt8.toInt32)), .int j1, .int j2, .int j3, .int j4, .int j5, .int j6, .int j7]) := lst_set A51 rfl (by decide) rfl
      have Z53 : n0 ≤ h49.size := by rw [W50.size]; exact Z48
      refine wp_run ok hK (B := [(129, .aload 6, false), (131, .iload 5, false), (133, .iconst 1, false), (134, .iadd, false), (135, .sipush 128, false), (138, .iload 4, false), (140, .bipush 63, false), (142, .iand, false), (143, .ior, false), (144, .i2b, false)]) (by decide +kernel) (ps := []) (pc' := 145) (L' := #[.val (.int cc), .val (.int a), .val (.long ju), .second, .val (.int cp), .val (.int (0 : Int32)), .val ((.ref a2)), .val (.int (2 : Int32))]) (S' := [.int (((128 : Int32) ||| (cp &&& (63 : Int32))).toInt8.toInt32), .int (1 : Int32), (.ref a2)]) rfl trivial ?_
      refine wp_sB ok A52 (i := 1) (by rfl) (by decide) (by decide +kernel) g8 ?_
      intro h54 W55 A56
      have A57 : Ar Z h54 a2 .byte 8 (lst [.int (nar .byte (((192 : Int32) ||| (cp >>> ((6 : Int32) &&& 31))).toInt8.toInt32)), .int (nar .byte (((128 : Int32) ||| (cp &&& (63 : Int32))).toInt8.toInt32)), .int j2, .int j3, .int j4, .int j5, .int j6, .int j7]) := lst_set A56 rfl (by decide) rfl
      have Z58 : n0 ≤ h54.size := by rw [W55.size]; exact Z53
      refine wp_run ok hK (B := [(146, .goto 143, false), (289, .aload 6, false), (291, .iload 5, false), (293, .iload 5, false), (295, .iload 7, false), (297, .iadd, false)]) (by decide +kernel) (ps := []) (pc' := 298) (L' := #[.val (.int cc), .val (.int a), .val (.long ju), .second, .val (.int cp), .val (.int (0 : Int32)), .val ((.ref a2)), .val (.int (2 : Int32))]) (S' := [.int (2 : Int32), .int (0 : Int32), (.ref a2)]) rfl trivial ?_
      refine wp_static ok (wd hw 3 rfl) (wd hw 4 rfl) (wd hw 5 rfl) (wd hw 6 rfl) (by decide) (argsL := [(.ref a2), .int (0 : Int32), .int (2 : Int32)]) (rest := []) (c_cp02 _ Z a0 hw a2 (nar .byte (((192 : Int32) ||| (cp >>> ((6 : Int32) &&& 31))).toInt8.toInt32)) (nar .byte (((128 : Int32) ||| (cp &&& (63 : Int32))).toInt8.toInt32)) j2 j3 j4 j5 j6 j7 h54 n0 Z58 A57 g8) (ps := [(.array .byte), .int, .int]) (by decide +kernel) (by rfl) (by rfl) (by rfl) (by decide +kernel) (by decide) (Nat.le_of_ble_eq_true rfl) (by decide) (by decide) ?_
      intro r59 h60 q61
      obtain ⟨e62, rfl⟩ := q61
      obtain ⟨z298, h_z298⟩ : ∃ z : Int32, z = ((((nar .byte (((192 : Int32) ||| (cp >>> ((6 : Int32) &&& 31))).toInt8.toInt32)) &&& ((127 : Int32) >>> ((2 : Int32) &&& 31))) <<< ((6 : Int32) &&& 31)) ||| ((nar .byte (((128 : Int32) ||| (cp &&& (63 : Int32))).toInt8.toInt32)) &&& (63 : Int32))) := ⟨_, rfl⟩
      have e62' := e62.trans (show _ = some (Value.int z298) by rw [h_z298])
      subst e62'
      show WP X n0 QL h54 1 8 301 #[.val (.int cc), .val (.int a), .val (.long ju), .second, .val (.int cp), .val (.int (0 : Int32)), .val ((.ref a2)), .val (.int (2 : Int32))] [.int z298]
      refine wp_run ok hK (B := [(301, .iload 4, false), (303, .if_icmp .ne 7, false), (306, .iconst 1, false), (307, .goto 4, false)]) (by decide +kernel) (ps := [Op.if_icmp.holds .ne z298 cp = false]) (pc' := 311) (L' := #[.val (.int cc), .val (.int a), .val (.long ju), .second, .val (.int cp), .val (.int (0 : Int32)), .val ((.ref a2)), .val (.int (2 : Int32))]) (S' := [.int (1 : Int32)]) rfl ⟨(XT.ii_ne_f (own_law_1 cc a ju cp h_cp j0 j1 j2 j3 j4 j5 j6 j7 hc108 z298 h_z298)), trivial⟩ ?_
      refine wp_retZ ok (t := .boolean) (by simp) (by decide +kernel) (by decide) (by decide) ?_
      exact congrArg (fun z => some (Value.int z)) (own_law_2 cc a ju cp h_cp j0 j1 j2 j3 j4 j5 j6 j7 hc108 z298 h_z298)
    · refine wp_run ok hK (B := [(108, .if_icmp .ge 41, true)]) (by decide +kernel) (ps := [Op.if_icmp.holds .ge cp (2048 : Int32) = true]) (pc' := 149) (L' := #[.val (.int cc), .val (.int a), .val (.long ju), .second, .val (.int cp), .val (.int (0 : Int32)), .val ((.ref a2)), .unset]) (S' := []) rfl ⟨(XT.ii_ge_t hc108), trivial⟩ ?_
      refine wp_run ok hK (B := [(149, .iload 4, false), (151, .ldc 9, false)]) (by decide +kernel) (ps := []) (pc' := 153) (L' := #[.val (.int cc), .val (.int a), .val (.long ju), .second, .val (.int cp), .val (.int (0 : Int32)), .val ((.ref a2)), .unset]) (S' := [.int (65536 : Int32), .int cp]) rfl trivial ?_
      by_cases hc153 : cp < (65536 : Int32)
      · refine wp_run ok hK (B := [(153, .if_icmp .ge 61, false)]) (by decide +kernel) (ps := [Op.if_icmp.holds .ge cp (65536 : Int32) = false]) (pc' := 156) (L' := #[.val (.int cc), .val (.int a), .val (.long ju), .second, .val (.int cp), .val (.int (0 : Int32)), .val ((.ref a2)), .unset]) (S' := []) rfl ⟨(XT.ii_ge_f hc153), trivial⟩ ?_
        refine wp_run ok hK (B := [(156, .iconst 3, false), (157, .istore 7, false), (159, .aload 6, false), (161, .iload 5, false), (163, .sipush 224, false), (166, .iload 4, false), (168, .bipush 12, false), (170, .ishr, false), (171, .ior, false), (172, .i2b, false)]) (by decide +kernel) (ps := []) (pc' := 173) (L' := #[.val (.int cc), .val (.int a), .val (.long ju), .second, .val (.int cp), .val (.int (0 : Int32)), .val ((.ref a2)), .val (.int (3 : Int32))]) (S' := [.int (((224 : Int32) ||| (cp >>> ((12 : Int32) &&& 31))).toInt8.toInt32), .int (0 : Int32), (.ref a2)]) rfl trivial ?_
        refine wp_sB ok A47 (i := 0) (by rfl) (by decide) (by decide +kernel) g8 ?_
        intro h63 W64 A65
        have A66 : Ar Z h63 a2 .byte 8 (lst [.int (nar .byte (((224 : Int32) ||| (cp >>> ((12 : Int32) &&& 31))).toInt8.toInt32)), .int j1, .int j2, .int j3, .int j4, .int j5, .int j6, .int j7]) := lst_set A65 rfl (by decide) rfl
        have Z67 : n0 ≤ h63.size := by rw [W64.size]; exact Z48
        refine wp_run ok hK (B := [(174, .aload 6, false), (176, .iload 5, false), (178, .iconst 1, false), (179, .iadd, false), (180, .sipush 128, false), (183, .iload 4, false), (185, .bipush 6, false), (187, .ishr, false), (188, .bipush 63, false), (190, .iand, false), (191, .ior, false), (192, .i2b, false)]) (by decide +kernel) (ps := []) (pc' := 193) (L' := #[.val (.int cc), .val (.int a), .val (.long ju), .second, .val (.int cp), .val (.int (0 : Int32)), .val ((.ref a2)), .val (.int (3 : Int32))]) (S' := [.int (((128 : Int32) ||| ((cp >>> ((6 : Int32) &&& 31)) &&& (63 : Int32))).toInt8.toInt32), .int (1 : Int32), (.ref a2)]) rfl trivial ?_
        refine wp_sB ok A66 (i := 1) (by rfl) (by decide) (by decide +kernel) g8 ?_
        intro h68 W69 A70
        have A71 : Ar Z h68 a2 .byte 8 (lst [.int (nar .byte (((224 : Int32) ||| (cp >>> ((12 : Int32) &&& 31))).toInt8.toInt32)), .int (nar .byte (((128 : Int32) ||| ((cp >>> ((6 : Int32) &&& 31)) &&& (63 : Int32))).toInt8.toInt32)), .int j2, .int j3, .int j4, .int j5, .int j6, .int j7]) := lst_set A70 rfl (by decide) rfl
        have Z72 : n0 ≤ h68.size := by rw [W69.size]; exact Z67
        refine wp_run ok hK (B := [(194, .aload 6, false), (196, .iload 5, false), (198, .iconst 2, false), (199, .iadd, false), (200, .sipush 128, false), (203, .iload 4, false), (205, .bipush 63, false), (207, .iand, false), (208, .ior, false), (209, .i2b, false)]) (by decide +kernel) (ps := []) (pc' := 210) (L' := #[.val (.int cc), .val (.int a), .val (.long ju), .second, .val (.int cp), .val (.int (0 : Int32)), .val ((.ref a2)), .val (.int (3 : Int32))]) (S' := [.int (((128 : Int32) ||| (cp &&& (63 : Int32))).toInt8.toInt32), .int (2 : Int32), (.ref a2)]) rfl trivial ?_
        refine wp_sB ok A71 (i := 2) (by rfl) (by decide) (by decide +kernel) g8 ?_
        intro h73 W74 A75
        have A76 : Ar Z h73 a2 .byte 8 (lst [.int (nar .byte (((224 : Int32) ||| (cp >>> ((12 : Int32) &&& 31))).toInt8.toInt32)), .int (nar .byte (((128 : Int32) ||| ((cp >>> ((6 : Int32) &&& 31)) &&& (63 : Int32))).toInt8.toInt32)), .int (nar .byte (((128 : Int32) ||| (cp &&& (63 : Int32))).toInt8.toInt32)), .int j3, .int j4, .int j5, .int j6, .int j7]) := lst_set A75 rfl (by decide) rfl
        have Z77 : n0 ≤ h73.size := by rw [W74.size]; exact Z72
        refine wp_run ok hK (B := [(211, .goto 78, false), (289, .aload 6, false), (291, .iload 5, false), (293, .iload 5, false), (295, .iload 7, false), (297, .iadd, false)]) (by decide +kernel) (ps := []) (pc' := 298) (L' := #[.val (.int cc), .val (.int a), .val (.long ju), .second, .val (.int cp), .val (.int (0 : Int32)), .val ((.ref a2)), .val (.int (3 : Int32))]) (S' := [.int (3 : Int32), .int (0 : Int32), (.ref a2)]) rfl trivial ?_
        refine wp_static ok (wd hw 3 rfl) (wd hw 4 rfl) (wd hw 5 rfl) (wd hw 6 rfl) (by decide) (argsL := [(.ref a2), .int (0 : Int32), .int (3 : Int32)]) (rest := []) (c_cp03 _ Z a0 hw a2 (nar .byte (((224 : Int32) ||| (cp >>> ((12 : Int32) &&& 31))).toInt8.toInt32)) (nar .byte (((128 : Int32) ||| ((cp >>> ((6 : Int32) &&& 31)) &&& (63 : Int32))).toInt8.toInt32)) (nar .byte (((128 : Int32) ||| (cp &&& (63 : Int32))).toInt8.toInt32)) j3 j4 j5 j6 j7 h73 n0 Z77 A76 g8) (ps := [(.array .byte), .int, .int]) (by decide +kernel) (by rfl) (by rfl) (by rfl) (by decide +kernel) (by decide) (Nat.le_of_ble_eq_true rfl) (by decide) (by decide) ?_
        intro r78 h79 q80
        obtain ⟨e81, rfl⟩ := q80
        obtain ⟨z298, h_z298⟩ : ∃ z : Int32, z = ((((((nar .byte (((224 : Int32) ||| (cp >>> ((12 : Int32) &&& 31))).toInt8.toInt32)) &&& ((127 : Int32) >>> ((3 : Int32) &&& 31))) <<< ((6 : Int32) &&& 31)) ||| ((nar .byte (((128 : Int32) ||| ((cp >>> ((6 : Int32) &&& 31)) &&& (63 : Int32))).toInt8.toInt32)) &&& (63 : Int32))) <<< ((6 : Int32) &&& 31)) ||| ((nar .byte (((128 : Int32) ||| (cp &&& (63 : Int32))).toInt8.toInt32)) &&& (63 : Int32))) := ⟨_, rfl⟩
        have e81' := e81.trans (show _ = some (Value.int z298) by rw [h_z298])
        subst e81'
        show WP X n0 QL h73 1 8 301 #[.val (.int cc), .val (.int a), .val (.long ju), .second, .val (.int cp), .val (.int (0 : Int32)), .val ((.ref a2)), .val (.int (3 : Int32))] [.int z298]
        refine wp_run ok hK (B := [(301, .iload 4, false), (303, .if_icmp .ne 7, false), (306, .iconst 1, false), (307, .goto 4, false)]) (by decide +kernel) (ps := [Op.if_icmp.holds .ne z298 cp = false]) (pc' := 311) (L' := #[.val (.int cc), .val (.int a), .val (.long ju), .second, .val (.int cp), .val (.int (0 : Int32)), .val ((.ref a2)), .val (.int (3 : Int32))]) (S' := [.int (1 : Int32)]) rfl ⟨(XT.ii_ne_f (own_law_3 cc a ju cp h_cp j0 j1 j2 j3 j4 j5 j6 j7 hc108 hc153 z298 h_z298)), trivial⟩ ?_
        refine wp_retZ ok (t := .boolean) (by simp) (by decide +kernel) (by decide) (by decide) ?_
        exact congrArg (fun z => some (Value.int z)) (own_law_4 cc a ju cp h_cp j0 j1 j2 j3 j4 j5 j6 j7 hc108 hc153 z298 h_z298)
      · refine wp_run ok hK (B := [(153, .if_icmp .ge 61, true)]) (by decide +kernel) (ps := [Op.if_icmp.holds .ge cp (65536 : Int32) = true]) (pc' := 214) (L' := #[.val (.int cc), .val (.int a), .val (.long ju), .second, .val (.int cp), .val (.int (0 : Int32)), .val ((.ref a2)), .unset]) (S' := []) rfl ⟨(XT.ii_ge_t hc153), trivial⟩ ?_
        refine wp_run ok hK (B := [(214, .iconst 4, false), (215, .istore 7, false), (217, .aload 6, false), (219, .iload 5, false), (221, .sipush 240, false), (224, .iload 4, false), (226, .bipush 18, false), (228, .ishr, false), (229, .ior, false), (230, .i2b, false)]) (by decide +kernel) (ps := []) (pc' := 231) (L' := #[.val (.int cc), .val (.int a), .val (.long ju), .second, .val (.int cp), .val (.int (0 : Int32)), .val ((.ref a2)), .val (.int (4 : Int32))]) (S' := [.int (((240 : Int32) ||| (cp >>> ((18 : Int32) &&& 31))).toInt8.toInt32), .int (0 : Int32), (.ref a2)]) rfl trivial ?_
        refine wp_sB ok A47 (i := 0) (by rfl) (by decide) (by decide +kernel) g8 ?_
        intro h82 W83 A84
        have A85 : Ar Z h82 a2 .byte 8 (lst [.int (nar .byte (((240 : Int32) ||| (cp >>> ((18 : Int32) &&& 31))).toInt8.toInt32)), .int j1, .int j2, .int j3, .int j4, .int j5, .int j6, .int j7]) := lst_set A84 rfl (by decide) rfl
        have Z86 : n0 ≤ h82.size := by rw [W83.size]; exact Z48
        refine wp_run ok hK (B := [(232, .aload 6, false), (234, .iload 5, false), (236, .iconst 1, false), (237, .iadd, false), (238, .sipush 128, false), (241, .iload 4, false), (243, .bipush 12, false), (245, .ishr, false), (246, .bipush 63, false), (248, .iand, false), (249, .ior, false), (250, .i2b, false)]) (by decide +kernel) (ps := []) (pc' := 251) (L' := #[.val (.int cc), .val (.int a), .val (.long ju), .second, .val (.int cp), .val (.int (0 : Int32)), .val ((.ref a2)), .val (.int (4 : Int32))]) (S' := [.int (((128 : Int32) ||| ((cp >>> ((12 : Int32) &&& 31)) &&& (63 : Int32))).toInt8.toInt32), .int (1 : Int32), (.ref a2)]) rfl trivial ?_
        refine wp_sB ok A85 (i := 1) (by rfl) (by decide) (by decide +kernel) g8 ?_
        intro h87 W88 A89
        have A90 : Ar Z h87 a2 .byte 8 (lst [.int (nar .byte (((240 : Int32) ||| (cp >>> ((18 : Int32) &&& 31))).toInt8.toInt32)), .int (nar .byte (((128 : Int32) ||| ((cp >>> ((12 : Int32) &&& 31)) &&& (63 : Int32))).toInt8.toInt32)), .int j2, .int j3, .int j4, .int j5, .int j6, .int j7]) := lst_set A89 rfl (by decide) rfl
        have Z91 : n0 ≤ h87.size := by rw [W88.size]; exact Z86
        refine wp_run ok hK (B := [(252, .aload 6, false), (254, .iload 5, false), (256, .iconst 2, false), (257, .iadd, false), (258, .sipush 128, false), (261, .iload 4, false), (263, .bipush 6, false), (265, .ishr, false), (266, .bipush 63, false), (268, .iand, false), (269, .ior, false), (270, .i2b, false)]) (by decide +kernel) (ps := []) (pc' := 271) (L' := #[.val (.int cc), .val (.int a), .val (.long ju), .second, .val (.int cp), .val (.int (0 : Int32)), .val ((.ref a2)), .val (.int (4 : Int32))]) (S' := [.int (((128 : Int32) ||| ((cp >>> ((6 : Int32) &&& 31)) &&& (63 : Int32))).toInt8.toInt32), .int (2 : Int32), (.ref a2)]) rfl trivial ?_
        refine wp_sB ok A90 (i := 2) (by rfl) (by decide) (by decide +kernel) g8 ?_
        intro h92 W93 A94
        have A95 : Ar Z h92 a2 .byte 8 (lst [.int (nar .byte (((240 : Int32) ||| (cp >>> ((18 : Int32) &&& 31))).toInt8.toInt32)), .int (nar .byte (((128 : Int32) ||| ((cp >>> ((12 : Int32) &&& 31)) &&& (63 : Int32))).toInt8.toInt32)), .int (nar .byte (((128 : Int32) ||| ((cp >>> ((6 : Int32) &&& 31)) &&& (63 : Int32))).toInt8.toInt32)), .int j3, .int j4, .int j5, .int j6, .int j7]) := lst_set A94 rfl (by decide) rfl
        have Z96 : n0 ≤ h92.size := by rw [W93.size]; exact Z91
        refine wp_run ok hK (B := [(272, .aload 6, false), (274, .iload 5, false), (276, .iconst 3, false), (277, .iadd, false), (278, .sipush 128, false), (281, .iload 4, false), (283, .bipush 63, false), (285, .iand, false), (286, .ior, false), (287, .i2b, false)]) (by decide +kernel) (ps := []) (pc' := 288) (L' := #[.val (.int cc), .val (.int a), .val (.long ju), .second, .val (.int cp), .val (.int (0 : Int32)), .val ((.ref a2)), .val (.int (4 : Int32))]) (S' := [.int (((128 : Int32) ||| (cp &&& (63 : Int32))).toInt8.toInt32), .int (3 : Int32), (.ref a2)]) rfl trivial ?_
        refine wp_sB ok A95 (i := 3) (by rfl) (by decide) (by decide +kernel) g8 ?_
        intro h97 W98 A99
        have A100 : Ar Z h97 a2 .byte 8 (lst [.int (nar .byte (((240 : Int32) ||| (cp >>> ((18 : Int32) &&& 31))).toInt8.toInt32)), .int (nar .byte (((128 : Int32) ||| ((cp >>> ((12 : Int32) &&& 31)) &&& (63 : Int32))).toInt8.toInt32)), .int (nar .byte (((128 : Int32) ||| ((cp >>> ((6 : Int32) &&& 31)) &&& (63 : Int32))).toInt8.toInt32)), .int (nar .byte (((128 : Int32) ||| (cp &&& (63 : Int32))).toInt8.toInt32)), .int j4, .int j5, .int j6, .int j7]) := lst_set A99 rfl (by decide) rfl
        have Z101 : n0 ≤ h97.size := by rw [W98.size]; exact Z96
        refine wp_run ok hK (B := [(289, .aload 6, false), (291, .iload 5, false), (293, .iload 5, false), (295, .iload 7, false), (297, .iadd, false)]) (by decide +kernel) (ps := []) (pc' := 298) (L' := #[.val (.int cc), .val (.int a), .val (.long ju), .second, .val (.int cp), .val (.int (0 : Int32)), .val ((.ref a2)), .val (.int (4 : Int32))]) (S' := [.int (4 : Int32), .int (0 : Int32), (.ref a2)]) rfl trivial ?_
        refine wp_static ok (wd hw 3 rfl) (wd hw 4 rfl) (wd hw 5 rfl) (wd hw 6 rfl) (by decide) (argsL := [(.ref a2), .int (0 : Int32), .int (4 : Int32)]) (rest := []) (c_cp04 _ Z a0 hw a2 (nar .byte (((240 : Int32) ||| (cp >>> ((18 : Int32) &&& 31))).toInt8.toInt32)) (nar .byte (((128 : Int32) ||| ((cp >>> ((12 : Int32) &&& 31)) &&& (63 : Int32))).toInt8.toInt32)) (nar .byte (((128 : Int32) ||| ((cp >>> ((6 : Int32) &&& 31)) &&& (63 : Int32))).toInt8.toInt32)) (nar .byte (((128 : Int32) ||| (cp &&& (63 : Int32))).toInt8.toInt32)) j4 j5 j6 j7 h97 n0 Z101 A100 g8) (ps := [(.array .byte), .int, .int]) (by decide +kernel) (by rfl) (by rfl) (by rfl) (by decide +kernel) (by decide) (Nat.le_of_ble_eq_true rfl) (by decide) (by decide) ?_
        intro r102 h103 q104
        obtain ⟨e105, rfl⟩ := q104
        obtain ⟨z298, h_z298⟩ : ∃ z : Int32, z = ((((((((nar .byte (((240 : Int32) ||| (cp >>> ((18 : Int32) &&& 31))).toInt8.toInt32)) &&& ((127 : Int32) >>> ((4 : Int32) &&& 31))) <<< ((6 : Int32) &&& 31)) ||| ((nar .byte (((128 : Int32) ||| ((cp >>> ((12 : Int32) &&& 31)) &&& (63 : Int32))).toInt8.toInt32)) &&& (63 : Int32))) <<< ((6 : Int32) &&& 31)) ||| ((nar .byte (((128 : Int32) ||| ((cp >>> ((6 : Int32) &&& 31)) &&& (63 : Int32))).toInt8.toInt32)) &&& (63 : Int32))) <<< ((6 : Int32) &&& 31)) ||| ((nar .byte (((128 : Int32) ||| (cp &&& (63 : Int32))).toInt8.toInt32)) &&& (63 : Int32))) := ⟨_, rfl⟩
        have e105' := e105.trans (show _ = some (Value.int z298) by rw [h_z298])
        subst e105'
        show WP X n0 QL h97 1 8 301 #[.val (.int cc), .val (.int a), .val (.long ju), .second, .val (.int cp), .val (.int (0 : Int32)), .val ((.ref a2)), .val (.int (4 : Int32))] [.int z298]
        refine wp_run ok hK (B := [(301, .iload 4, false), (303, .if_icmp .ne 7, false), (306, .iconst 1, false), (307, .goto 4, false)]) (by decide +kernel) (ps := [Op.if_icmp.holds .ne z298 cp = false]) (pc' := 311) (L' := #[.val (.int cc), .val (.int a), .val (.long ju), .second, .val (.int cp), .val (.int (0 : Int32)), .val ((.ref a2)), .val (.int (4 : Int32))]) (S' := [.int (1 : Int32)]) rfl ⟨(XT.ii_ne_f (own_law_5 cc a ju cp h_cp j0 j1 j2 j3 j4 j5 j6 j7 hc108 hc153 z298 h_z298)), trivial⟩ ?_
        refine wp_retZ ok (t := .boolean) (by simp) (by decide +kernel) (by decide) (by decide) ?_
        exact congrArg (fun z => some (Value.int z)) (own_law_6 cc a ju cp h_cp j0 j1 j2 j3 j4 j5 j6 j7 hc108 hc153 z298 h_z298)
  · subst eat
    refine wp_run ok hK (B := [(103, .iload 4, false), (105, .sipush 2048, false)]) (by decide +kernel) (ps := []) (pc' := 108) (L' := #[.val (.int cc), .val (.int a), .val (.long ju), .second, .val (.int cp), .val (.int (1 : Int32)), .val ((.ref a2)), .unset]) (S' := [.int (2048 : Int32), .int cp]) rfl trivial ?_
    by_cases hc108 : cp < (2048 : Int32)
    · refine wp_run ok hK (B := [(108, .if_icmp .ge 41, false)]) (by decide +kernel) (ps := [Op.if_icmp.holds .ge cp (2048 : Int32) = false]) (pc' := 111) (L' := #[.val (.int cc), .val (.int a), .val (.long ju), .second, .val (.int cp), .val (.int (1 : Int32)), .val ((.ref a2)), .unset]) (S' := []) rfl ⟨(XT.ii_ge_f hc108), trivial⟩ ?_
      refine wp_run ok hK (B := [(111, .iconst 2, false), (112, .istore 7, false), (114, .aload 6, false), (116, .iload 5, false), (118, .sipush 192, false), (121, .iload 4, false), (123, .bipush 6, false), (125, .ishr, false), (126, .ior, false), (127, .i2b, false)]) (by decide +kernel) (ps := []) (pc' := 128) (L' := #[.val (.int cc), .val (.int a), .val (.long ju), .second, .val (.int cp), .val (.int (1 : Int32)), .val ((.ref a2)), .val (.int (2 : Int32))]) (S' := [.int (((192 : Int32) ||| (cp >>> ((6 : Int32) &&& 31))).toInt8.toInt32), .int (1 : Int32), (.ref a2)]) rfl trivial ?_
      refine wp_sB ok A47 (i := 1) (by rfl) (by decide) (by decide +kernel) g8 ?_
      intro h106 W107 A108
      have A109 : Ar Z h106 a2 .byte 8 (lst [.int j0, .int (nar .byte (((192 : Int32) ||| (cp >>> ((6 : Int32) &&& 31))).toInt8.toInt32)), .int j2, .int j3, .int j4, .int j5, .int j6, .int j7]) := lst_set A108 rfl (by decide) rfl
      have Z110 : n0 ≤ h106.size := by rw [W107.size]; exact Z48
      refine wp_run ok hK (B := [(129, .aload 6, false), (131, .iload 5, false), (133, .iconst 1, false), (134, .iadd, false), (135, .sipush 128, false), (138, .iload 4, false), (140, .bipush 63, false), (142, .iand, false), (143, .ior, false), (144, .i2b, false)]) (by decide +kernel) (ps := []) (pc' := 145) (L' := #[.val (.int cc), .val (.int a), .val (.long ju), .second, .val (.int cp), .val (.int (1 : Int32)), .val ((.ref a2)), .val (.int (2 : Int32))]) (S' := [.int (((128 : Int32) ||| (cp &&& (63 : Int32))).toInt8.toInt32), .int (2 : Int32), (.ref a2)]) rfl trivial ?_
      refine wp_sB ok A109 (i := 2) (by rfl) (by decide) (by decide +kernel) g8 ?_
      intro h111 W112 A113
      have A114 : Ar Z h111 a2 .byte 8 (lst [.int j0, .int (nar .byte (((192 : Int32) ||| (cp >>> ((6 : Int32) &&& 31))).toInt8.toInt32)), .int (nar .byte (((128 : Int32) ||| (cp &&& (63 : Int32))).toInt8.toInt32)), .int j3, .int j4, .int j5, .int j6, .int j7]) := lst_set A113 rfl (by decide) rfl
      have Z115 : n0 ≤ h111.size := by rw [W112.size]; exact Z110
      refine wp_run ok hK (B := [(146, .goto 143, false), (289, .aload 6, false), (291, .iload 5, false), (293, .iload 5, false), (295, .iload 7, false), (297, .iadd, false)]) (by decide +kernel) (ps := []) (pc' := 298) (L' := #[.val (.int cc), .val (.int a), .val (.long ju), .second, .val (.int cp), .val (.int (1 : Int32)), .val ((.ref a2)), .val (.int (2 : Int32))]) (S' := [.int (3 : Int32), .int (1 : Int32), (.ref a2)]) rfl trivial ?_
      refine wp_static ok (wd hw 3 rfl) (wd hw 4 rfl) (wd hw 5 rfl) (wd hw 6 rfl) (by decide) (argsL := [(.ref a2), .int (1 : Int32), .int (3 : Int32)]) (rest := []) (c_cp12 _ Z a0 hw a2 j0 (nar .byte (((192 : Int32) ||| (cp >>> ((6 : Int32) &&& 31))).toInt8.toInt32)) (nar .byte (((128 : Int32) ||| (cp &&& (63 : Int32))).toInt8.toInt32)) j3 j4 j5 j6 j7 h111 n0 Z115 A114 g8) (ps := [(.array .byte), .int, .int]) (by decide +kernel) (by rfl) (by rfl) (by rfl) (by decide +kernel) (by decide) (Nat.le_of_ble_eq_true rfl) (by decide) (by decide) ?_
      intro r116 h117 q118
      obtain ⟨e119, rfl⟩ := q118
      obtain ⟨z298, h_z298⟩ : ∃ z : Int32, z = ((((nar .byte (((192 : Int32) ||| (cp >>> ((6 : Int32) &&& 31))).toInt8.toInt32)) &&& ((127 : Int32) >>> ((2 : Int32) &&& 31))) <<< ((6 : Int32) &&& 31)) ||| ((nar .byte (((128 : Int32) ||| (cp &&& (63 : Int32))).toInt8.toInt32)) &&& (63 : Int32))) := ⟨_, rfl⟩
      have e119' := e119.trans (show _ = some (Value.int z298) by rw [h_z298])
      subst e119'
      show WP X n0 QL h111 1 8 301 #[.val (.int cc), .val (.int a), .val (.long ju), .second, .val (.int cp), .val (.int (1 : Int32)), .val ((.ref a2)), .val (.int (2 : Int32))] [.int z298]
      refine wp_run ok hK (B := [(301, .iload 4, false), (303, .if_icmp .ne 7, false), (306, .iconst 1, false), (307, .goto 4, false)]) (by decide +kernel) (ps := [Op.if_icmp.holds .ne z298 cp = false]) (pc' := 311) (L' := #[.val (.int cc), .val (.int a), .val (.long ju), .second, .val (.int cp), .val (.int (1 : Int32)), .val ((.ref a2)), .val (.int (2 : Int32))]) (S' := [.int (1 : Int32)]) rfl ⟨(XT.ii_ne_f (own_law_7 cc a ju cp h_cp j0 j1 j2 j3 j4 j5 j6 j7 hc108 z298 h_z298)), trivial⟩ ?_
      refine wp_retZ ok (t := .boolean) (by simp) (by decide +kernel) (by decide) (by decide) ?_
      exact congrArg (fun z => some (Value.int z)) (own_law_8 cc a ju cp h_cp j0 j1 j2 j3 j4 j5 j6 j7 hc108 z298 h_z298)
    · refine wp_run ok hK (B := [(108, .if_icmp .ge 41, true)]) (by decide +kernel) (ps := [Op.if_icmp.holds .ge cp (2048 : Int32) = true]) (pc' := 149) (L' := #[.val (.int cc), .val (.int a), .val (.long ju), .second, .val (.int cp), .val (.int (1 : Int32)), .val ((.ref a2)), .unset]) (S' := []) rfl ⟨(XT.ii_ge_t hc108), trivial⟩ ?_
      refine wp_run ok hK (B := [(149, .iload 4, false), (151, .ldc 9, false)]) (by decide +kernel) (ps := []) (pc' := 153) (L' := #[.val (.int cc), .val (.int a), .val (.long ju), .second, .val (.int cp), .val (.int (1 : Int32)), .val ((.ref a2)), .unset]) (S' := [.int (65536 : Int32), .int cp]) rfl trivial ?_
      by_cases hc153 : cp < (65536 : Int32)
      · refine wp_run ok hK (B := [(153, .if_icmp .ge 61, false)]) (by decide +kernel) (ps := [Op.if_icmp.holds .ge cp (65536 : Int32) = false]) (pc' := 156) (L' := #[.val (.int cc), .val (.int a), .val (.long ju), .second, .val (.int cp), .val (.int (1 : Int32)), .val ((.ref a2)), .unset]) (S' := []) rfl ⟨(XT.ii_ge_f hc153), trivial⟩ ?_
        refine wp_run ok hK (B := [(156, .iconst 3, false), (157, .istore 7, false), (159, .aload 6, false), (161, .iload 5, false), (163, .sipush 224, false), (166, .iload 4, false), (168, .bipush 12, false), (170, .ishr, false), (171, .ior, false), (172, .i2b, false)]) (by decide +kernel) (ps := []) (pc' := 173) (L' := #[.val (.int cc), .val (.int a), .val (.long ju), .second, .val (.int cp), .val (.int (1 : Int32)), .val ((.ref a2)), .val (.int (3 : Int32))]) (S' := [.int (((224 : Int32) ||| (cp >>> ((12 : Int32) &&& 31))).toInt8.toInt32), .int (1 : Int32), (.ref a2)]) rfl trivial ?_
        refine wp_sB ok A47 (i := 1) (by rfl) (by decide) (by decide +kernel) g8 ?_
        intro h120 W121 A122
        have A123 : Ar Z h120 a2 .byte 8 (lst [.int j0, .int (nar .byte (((224 : Int32) ||| (cp >>> ((12 : Int32) &&& 31))).toInt8.toInt32)), .int j2, .int j3, .int j4, .int j5, .int j6, .int j7]) := lst_set A122 rfl (by decide) rfl
        have Z124 : n0 ≤ h120.size := by rw [W121.size]; exact Z48
        refine wp_run ok hK (B := [(174, .aload 6, false), (176, .iload 5, false), (178, .iconst 1, false), (179, .iadd, false), (180, .sipush 128, false), (183, .iload 4, false), (185, .bipush 6, false), (187, .ishr, false), (188, .bipush 63, false), (190, .iand, false), (191, .ior, false), (192, .i2b, false)]) (by decide +kernel) (ps := []) (pc' := 193) (L' := #[.val (.int cc), .val (.int a), .val (.long ju), .second, .val (.int cp), .val (.int (1 : Int32)), .val ((.ref a2)), .val (.int (3 : Int32))]) (S' := [.int (((128 : Int32) ||| ((cp >>> ((6 : Int32) &&& 31)) &&& (63 : Int32))).toInt8.toInt32), .int (2 : Int32), (.ref a2)]) rfl trivial ?_
        refine wp_sB ok A123 (i := 2) (by rfl) (by decide) (by decide +kernel) g8 ?_
        intro h125 W126 A127
        have A128 : Ar Z h125 a2 .byte 8 (lst [.int j0, .int (nar .byte (((224 : Int32) ||| (cp >>> ((12 : Int32) &&& 31))).toInt8.toInt32)), .int (nar .byte (((128 : Int32) ||| ((cp >>> ((6 : Int32) &&& 31)) &&& (63 : Int32))).toInt8.toInt32)), .int j3, .int j4, .int j5, .int j6, .int j7]) := lst_set A127 rfl (by decide) rfl
        have Z129 : n0 ≤ h125.size := by rw [W126.size]; exact Z124
        refine wp_run ok hK (B := [(194, .aload 6, false), (196, .iload 5, false), (198, .iconst 2, false), (199, .iadd, false), (200, .sipush 128, false), (203, .iload 4, false), (205, .bipush 63, false), (207, .iand, false), (208, .ior, false), (209, .i2b, false)]) (by decide +kernel) (ps := []) (pc' := 210) (L' := #[.val (.int cc), .val (.int a), .val (.long ju), .second, .val (.int cp), .val (.int (1 : Int32)), .val ((.ref a2)), .val (.int (3 : Int32))]) (S' := [.int (((128 : Int32) ||| (cp &&& (63 : Int32))).toInt8.toInt32), .int (3 : Int32), (.ref a2)]) rfl trivial ?_
        refine wp_sB ok A128 (i := 3) (by rfl) (by decide) (by decide +kernel) g8 ?_
        intro h130 W131 A132
        have A133 : Ar Z h130 a2 .byte 8 (lst [.int j0, .int (nar .byte (((224 : Int32) ||| (cp >>> ((12 : Int32) &&& 31))).toInt8.toInt32)), .int (nar .byte (((128 : Int32) ||| ((cp >>> ((6 : Int32) &&& 31)) &&& (63 : Int32))).toInt8.toInt32)), .int (nar .byte (((128 : Int32) ||| (cp &&& (63 : Int32))).toInt8.toInt32)), .int j4, .int j5, .int j6, .int j7]) := lst_set A132 rfl (by decide) rfl
        have Z134 : n0 ≤ h130.size := by rw [W131.size]; exact Z129
        refine wp_run ok hK (B := [(211, .goto 78, false), (289, .aload 6, false), (291, .iload 5, false), (293, .iload 5, false), (295, .iload 7, false), (297, .iadd, false)]) (by decide +kernel) (ps := []) (pc' := 298) (L' := #[.val (.int cc), .val (.int a), .val (.long ju), .second, .val (.int cp), .val (.int (1 : Int32)), .val ((.ref a2)), .val (.int (3 : Int32))]) (S' := [.int (4 : Int32), .int (1 : Int32), (.ref a2)]) rfl trivial ?_
        refine wp_static ok (wd hw 3 rfl) (wd hw 4 rfl) (wd hw 5 rfl) (wd hw 6 rfl) (by decide) (argsL := [(.ref a2), .int (1 : Int32), .int (4 : Int32)]) (rest := []) (c_cp13 _ Z a0 hw a2 j0 (nar .byte (((224 : Int32) ||| (cp >>> ((12 : Int32) &&& 31))).toInt8.toInt32)) (nar .byte (((128 : Int32) ||| ((cp >>> ((6 : Int32) &&& 31)) &&& (63 : Int32))).toInt8.toInt32)) (nar .byte (((128 : Int32) ||| (cp &&& (63 : Int32))).toInt8.toInt32)) j4 j5 j6 j7 h130 n0 Z134 A133 g8) (ps := [(.array .byte), .int, .int]) (by decide +kernel) (by rfl) (by rfl) (by rfl) (by decide +kernel) (by decide) (Nat.le_of_ble_eq_true rfl) (by decide) (by decide) ?_
        intro r135 h136 q137
        obtain ⟨e138, rfl⟩ := q137
        obtain ⟨z298, h_z298⟩ : ∃ z : Int32, z = ((((((nar .byte (((224 : Int32) ||| (cp >>> ((12 : Int32) &&& 31))).toInt8.toInt32)) &&& ((127 : Int32) >>> ((3 : Int32) &&& 31))) <<< ((6 : Int32) &&& 31)) ||| ((nar .byte (((128 : Int32) ||| ((cp >>> ((6 : Int32) &&& 31)) &&& (63 : Int32))).toInt8.toInt32)) &&& (63 : Int32))) <<< ((6 : Int32) &&& 31)) ||| ((nar .byte (((128 : Int32) ||| (cp &&& (63 : Int32))).toInt8.toInt32)) &&& (63 : Int32))) := ⟨_, rfl⟩
        have e138' := e138.trans (show _ = some (Value.int z298) by rw [h_z298])
        subst e138'
        show WP X n0 QL h130 1 8 301 #[.val (.int cc), .val (.int a), .val (.long ju), .second, .val (.int cp), .val (.int (1 : Int32)), .val ((.ref a2)), .val (.int (3 : Int32))] [.int z298]
        refine wp_run ok hK (B := [(301, .iload 4, false), (303, .if_icmp .ne 7, false), (306, .iconst 1, false), (307, .goto 4, false)]) (by decide +kernel) (ps := [Op.if_icmp.holds .ne z298 cp = false]) (pc' := 311) (L' := #[.val (.int cc), .val (.int a), .val (.long ju), .second, .val (.int cp), .val (.int (1 : Int32)), .val ((.ref a2)), .val (.int (3 : Int32))]) (S' := [.int (1 : Int32)]) rfl ⟨(XT.ii_ne_f (own_law_9 cc a ju cp h_cp j0 j1 j2 j3 j4 j5 j6 j7 hc108 hc153 z298 h_z298)), trivial⟩ ?_
        refine wp_retZ ok (t := .boolean) (by simp) (by decide +kernel) (by decide) (by decide) ?_
        exact congrArg (fun z => some (Value.int z)) (own_law_10 cc a ju cp h_cp j0 j1 j2 j3 j4 j5 j6 j7 hc108 hc153 z298 h_z298)
      · refine wp_run ok hK (B := [(153, .if_icmp .ge 61, true)]) (by decide +kernel) (ps := [Op.if_icmp.holds .ge cp (65536 : Int32) = true]) (pc' := 214) (L' := #[.val (.int cc), .val (.int a), .val (.long ju), .second, .val (.int cp), .val (.int (1 : Int32)), .val ((.ref a2)), .unset]) (S' := []) rfl ⟨(XT.ii_ge_t hc153), trivial⟩ ?_
        refine wp_run ok hK (B := [(214, .iconst 4, false), (215, .istore 7, false), (217, .aload 6, false), (219, .iload 5, false), (221, .sipush 240, false), (224, .iload 4, false), (226, .bipush 18, false), (228, .ishr, false), (229, .ior, false), (230, .i2b, false)]) (by decide +kernel) (ps := []) (pc' := 231) (L' := #[.val (.int cc), .val (.int a), .val (.long ju), .second, .val (.int cp), .val (.int (1 : Int32)), .val ((.ref a2)), .val (.int (4 : Int32))]) (S' := [.int (((240 : Int32) ||| (cp >>> ((18 : Int32) &&& 31))).toInt8.toInt32), .int (1 : Int32), (.ref a2)]) rfl trivial ?_
        refine wp_sB ok A47 (i := 1) (by rfl) (by decide) (by decide +kernel) g8 ?_
        intro h139 W140 A141
        have A142 : Ar Z h139 a2 .byte 8 (lst [.int j0, .int (nar .byte (((240 : Int32) ||| (cp >>> ((18 : Int32) &&& 31))).toInt8.toInt32)), .int j2, .int j3, .int j4, .int j5, .int j6, .int j7]) := lst_set A141 rfl (by decide) rfl
        have Z143 : n0 ≤ h139.size := by rw [W140.size]; exact Z48
        refine wp_run ok hK (B := [(232, .aload 6, false), (234, .iload 5, false), (236, .iconst 1, false), (237, .iadd, false), (238, .sipush 128, false), (241, .iload 4, false), (243, .bipush 12, false), (245, .ishr, false), (246, .bipush 63, false), (248, .iand, false), (249, .ior, false), (250, .i2b, false)]) (by decide +kernel) (ps := []) (pc' := 251) (L' := #[.val (.int cc), .val (.int a), .val (.long ju), .second, .val (.int cp), .val (.int (1 : Int32)), .val ((.ref a2)), .val (.int (4 : Int32))]) (S' := [.int (((128 : Int32) ||| ((cp >>> ((12 : Int32) &&& 31)) &&& (63 : Int32))).toInt8.toInt32), .int (2 : Int32), (.ref a2)]) rfl trivial ?_
        refine wp_sB ok A142 (i := 2) (by rfl) (by decide) (by decide +kernel) g8 ?_
        intro h144 W145 A146
        have A147 : Ar Z h144 a2 .byte 8 (lst [.int j0, .int (nar .byte (((240 : Int32) ||| (cp >>> ((18 : Int32) &&& 31))).toInt8.toInt32)), .int (nar .byte (((128 : Int32) ||| ((cp >>> ((12 : Int32) &&& 31)) &&& (63 : Int32))).toInt8.toInt32)), .int j3, .int j4, .int j5, .int j6, .int j7]) := lst_set A146 rfl (by decide) rfl
        have Z148 : n0 ≤ h144.size := by rw [W145.size]; exact Z143
        refine wp_run ok hK (B := [(252, .aload 6, false), (254, .iload 5, false), (256, .iconst 2, false), (257, .iadd, false), (258, .sipush 128, false), (261, .iload 4, false), (263, .bipush 6, false), (265, .ishr, false), (266, .bipush 63, false), (268, .iand, false), (269, .ior, false), (270, .i2b, false)]) (by decide +kernel) (ps := []) (pc' := 271) (L' := #[.val (.int cc), .val (.int a), .val (.long ju), .second, .val (.int cp), .val (.int (1 : Int32)), .val ((.ref a2)), .val (.int (4 : Int32))]) (S' := [.int (((128 : Int32) ||| ((cp >>> ((6 : Int32) &&& 31)) &&& (63 : Int32))).toInt8.toInt32), .int (3 : Int32), (.ref a2)]) rfl trivial ?_
        refine wp_sB ok A147 (i := 3) (by rfl) (by decide) (by decide +kernel) g8 ?_
        intro h149 W150 A151
        have A152 : Ar Z h149 a2 .byte 8 (lst [.int j0, .int (nar .byte (((240 : Int32) ||| (cp >>> ((18 : Int32) &&& 31))).toInt8.toInt32)), .int (nar .byte (((128 : Int32) ||| ((cp >>> ((12 : Int32) &&& 31)) &&& (63 : Int32))).toInt8.toInt32)), .int (nar .byte (((128 : Int32) ||| ((cp >>> ((6 : Int32) &&& 31)) &&& (63 : Int32))).toInt8.toInt32)), .int j4, .int j5, .int j6, .int j7]) := lst_set A151 rfl (by decide) rfl
        have Z153 : n0 ≤ h149.size := by rw [W150.size]; exact Z148
        refine wp_run ok hK (B := [(272, .aload 6, false), (274, .iload 5, false), (276, .iconst 3, false), (277, .iadd, false), (278, .sipush 128, false), (281, .iload 4, false), (283, .bipush 63, false), (285, .iand, false), (286, .ior, false), (287, .i2b, false)]) (by decide +kernel) (ps := []) (pc' := 288) (L' := #[.val (.int cc), .val (.int a), .val (.long ju), .second, .val (.int cp), .val (.int (1 : Int32)), .val ((.ref a2)), .val (.int (4 : Int32))]) (S' := [.int (((128 : Int32) ||| (cp &&& (63 : Int32))).toInt8.toInt32), .int (4 : Int32), (.ref a2)]) rfl trivial ?_
        refine wp_sB ok A152 (i := 4) (by rfl) (by decide) (by decide +kernel) g8 ?_
        intro h154 W155 A156
        have A157 : Ar Z h154 a2 .byte 8 (lst [.int j0, .int (nar .byte (((240 : Int32) ||| (cp >>> ((18 : Int32) &&& 31))).toInt8.toInt32)), .int (nar .byte (((128 : Int32) ||| ((cp >>> ((12 : Int32) &&& 31)) &&& (63 : Int32))).toInt8.toInt32)), .int (nar .byte (((128 : Int32) ||| ((cp >>> ((6 : Int32) &&& 31)) &&& (63 : Int32))).toInt8.toInt32)), .int (nar .byte (((128 : Int32) ||| (cp &&& (63 : Int32))).toInt8.toInt32)), .int j5, .int j6, .int j7]) := lst_set A156 rfl (by decide) rfl
        have Z158 : n0 ≤ h154.size := by rw [W155.size]; exact Z153
        refine wp_run ok hK (B := [(289, .aload 6, false), (291, .iload 5, false), (293, .iload 5, false), (295, .iload 7, false), (297, .iadd, false)]) (by decide +kernel) (ps := []) (pc' := 298) (L' := #[.val (.int cc), .val (.int a), .val (.long ju), .second, .val (.int cp), .val (.int (1 : Int32)), .val ((.ref a2)), .val (.int (4 : Int32))]) (S' := [.int (5 : Int32), .int (1 : Int32), (.ref a2)]) rfl trivial ?_
        refine wp_static ok (wd hw 3 rfl) (wd hw 4 rfl) (wd hw 5 rfl) (wd hw 6 rfl) (by decide) (argsL := [(.ref a2), .int (1 : Int32), .int (5 : Int32)]) (rest := []) (c_cp14 _ Z a0 hw a2 j0 (nar .byte (((240 : Int32) ||| (cp >>> ((18 : Int32) &&& 31))).toInt8.toInt32)) (nar .byte (((128 : Int32) ||| ((cp >>> ((12 : Int32) &&& 31)) &&& (63 : Int32))).toInt8.toInt32)) (nar .byte (((128 : Int32) ||| ((cp >>> ((6 : Int32) &&& 31)) &&& (63 : Int32))).toInt8.toInt32)) (nar .byte (((128 : Int32) ||| (cp &&& (63 : Int32))).toInt8.toInt32)) j5 j6 j7 h154 n0 Z158 A157 g8) (ps := [(.array .byte), .int, .int]) (by decide +kernel) (by rfl) (by rfl) (by rfl) (by decide +kernel) (by decide) (Nat.le_of_ble_eq_true rfl) (by decide) (by decide) ?_
        intro r159 h160 q161
        obtain ⟨e162, rfl⟩ := q161
        obtain ⟨z298, h_z298⟩ : ∃ z : Int32, z = ((((((((nar .byte (((240 : Int32) ||| (cp >>> ((18 : Int32) &&& 31))).toInt8.toInt32)) &&& ((127 : Int32) >>> ((4 : Int32) &&& 31))) <<< ((6 : Int32) &&& 31)) ||| ((nar .byte (((128 : Int32) ||| ((cp >>> ((12 : Int32) &&& 31)) &&& (63 : Int32))).toInt8.toInt32)) &&& (63 : Int32))) <<< ((6 : Int32) &&& 31)) ||| ((nar .byte (((128 : Int32) ||| ((cp >>> ((6 : Int32) &&& 31)) &&& (63 : Int32))).toInt8.toInt32)) &&& (63 : Int32))) <<< ((6 : Int32) &&& 31)) ||| ((nar .byte (((128 : Int32) ||| (cp &&& (63 : Int32))).toInt8.toInt32)) &&& (63 : Int32))) := ⟨_, rfl⟩
        have e162' := e162.trans (show _ = some (Value.int z298) by rw [h_z298])
        subst e162'
        show WP X n0 QL h154 1 8 301 #[.val (.int cc), .val (.int a), .val (.long ju), .second, .val (.int cp), .val (.int (1 : Int32)), .val ((.ref a2)), .val (.int (4 : Int32))] [.int z298]
        refine wp_run ok hK (B := [(301, .iload 4, false), (303, .if_icmp .ne 7, false), (306, .iconst 1, false), (307, .goto 4, false)]) (by decide +kernel) (ps := [Op.if_icmp.holds .ne z298 cp = false]) (pc' := 311) (L' := #[.val (.int cc), .val (.int a), .val (.long ju), .second, .val (.int cp), .val (.int (1 : Int32)), .val ((.ref a2)), .val (.int (4 : Int32))]) (S' := [.int (1 : Int32)]) rfl ⟨(XT.ii_ne_f (own_law_11 cc a ju cp h_cp j0 j1 j2 j3 j4 j5 j6 j7 hc108 hc153 z298 h_z298)), trivial⟩ ?_
        refine wp_retZ ok (t := .boolean) (by simp) (by decide +kernel) (by decide) (by decide) ?_
        exact congrArg (fun z => some (Value.int z)) (own_law_12 cc a ju cp h_cp j0 j1 j2 j3 j4 j5 j6 j7 hc108 hc153 z298 h_z298)
  · subst eat
    refine wp_run ok hK (B := [(103, .iload 4, false), (105, .sipush 2048, false)]) (by decide +kernel) (ps := []) (pc' := 108) (L' := #[.val (.int cc), .val (.int a), .val (.long ju), .second, .val (.int cp), .val (.int (2 : Int32)), .val ((.ref a2)), .unset]) (S' := [.int (2048 : Int32), .int cp]) rfl trivial ?_
    by_cases hc108 : cp < (2048 : Int32)
    · refine wp_run ok hK (B := [(108, .if_icmp .ge 41, false)]) (by decide +kernel) (ps := [Op.if_icmp.holds .ge cp (2048 : Int32) = false]) (pc' := 111) (L' := #[.val (.int cc), .val (.int a), .val (.long ju), .second, .val (.int cp), .val (.int (2 : Int32)), .val ((.ref a2)), .unset]) (S' := []) rfl ⟨(XT.ii_ge_f hc108), trivial⟩ ?_
      refine wp_run ok hK (B := [(111, .iconst 2, false), (112, .istore 7, false), (114, .aload 6, false), (116, .iload 5, false), (118, .sipush 192, false), (121, .iload 4, false), (123, .bipush 6, false), (125, .ishr, false), (126, .ior, false), (127, .i2b, false)]) (by decide +kernel) (ps := []) (pc' := 128) (L' := #[.val (.int cc), .val (.int a), .val (.long ju), .second, .val (.int cp), .val (.int (2 : Int32)), .val ((.ref a2)), .val (.int (2 : Int32))]) (S' := [.int (((192 : Int32) ||| (cp >>> ((6 : Int32) &&& 31))).toInt8.toInt32), .int (2 : Int32), (.ref a2)]) rfl trivial ?_
      refine wp_sB ok A47 (i := 2) (by rfl) (by decide) (by decide +kernel) g8 ?_
      intro h163 W164 A165
      have A166 : Ar Z h163 a2 .byte 8 (lst [.int j0, .int j1, .int (nar .byte (((192 : Int32) ||| (cp >>> ((6 : Int32) &&& 31))).toInt8.toInt32)), .int j3, .int j4, .int j5, .int j6, .int j7]) := lst_set A165 rfl (by decide) rfl
      have Z167 : n0 ≤ h163.size := by rw [W164.size]; exact Z48
      refine wp_run ok hK (B := [(129, .aload 6, false), (131, .iload 5, false), (133, .iconst 1, false), (134, .iadd, false), (135, .sipush 128, false), (138, .iload 4, false), (140, .bipush 63, false), (142, .iand, false), (143, .ior, false), (144, .i2b, false)]) (by decide +kernel) (ps := []) (pc' := 145) (L' := #[.val (.int cc), .val (.int a), .val (.long ju), .second, .val (.int cp), .val (.int (2 : Int32)), .val ((.ref a2)), .val (.int (2 : Int32))]) (S' := [.int (((128 : Int32) ||| (cp &&& (63 : Int32))).toInt8.toInt32), .int (3 : Int32), (.ref a2)]) rfl trivial ?_
      refine wp_sB ok A166 (i := 3) (by rfl) (by decide) (by decide +kernel) g8 ?_
      intro h168 W169 A170
      have A171 : Ar Z h168 a2 .byte 8 (lst [.int j0, .int j1, .int (nar .byte (((192 : Int32) ||| (cp >>> ((6 : Int32) &&& 31))).toInt8.toInt32)), .int (nar .byte (((128 : Int32) ||| (cp &&& (63 : Int32))).toInt8.toInt32)), .int j4, .int j5, .int j6, .int j7]) := lst_set A170 rfl (by decide) rfl
      have Z172 : n0 ≤ h168.size := by rw [W169.size]; exact Z167
      refine wp_run ok hK (B := [(146, .goto 143, false), (289, .aload 6, false), (291, .iload 5, false), (293, .iload 5, false), (295, .iload 7, false), (297, .iadd, false)]) (by decide +kernel) (ps := []) (pc' := 298) (L' := #[.val (.int cc), .val (.int a), .val (.long ju), .second, .val (.int cp), .val (.int (2 : Int32)), .val ((.ref a2)), .val (.int (2 : Int32))]) (S' := [.int (4 : Int32), .int (2 : Int32), (.ref a2)]) rfl trivial ?_
      refine wp_static ok (wd hw 3 rfl) (wd hw 4 rfl) (wd hw 5 rfl) (wd hw 6 rfl) (by decide) (argsL := [(.ref a2), .int (2 : Int32), .int (4 : Int32)]) (rest := []) (c_cp22 _ Z a0 hw a2 j0 j1 (nar .byte (((192 : Int32) ||| (cp >>> ((6 : Int32) &&& 31))).toInt8.toInt32)) (nar .byte (((128 : Int32) ||| (cp &&& (63 : Int32))).toInt8.toInt32)) j4 j5 j6 j7 h168 n0 Z172 A171 g8) (ps := [(.array .byte), .int, .int]) (by decide +kernel) (by rfl) (by rfl) (by rfl) (by decide +kernel) (by decide) (Nat.le_of_ble_eq_true rfl) (by decide) (by decide) ?_
      intro r173 h174 q175
      obtain ⟨e176, rfl⟩ := q175
      obtain ⟨z298, h_z298⟩ : ∃ z : Int32, z = ((((nar .byte (((192 : Int32) ||| (cp >>> ((6 : Int32) &&& 31))).toInt8.toInt32)) &&& ((127 : Int32) >>> ((2 : Int32) &&& 31))) <<< ((6 : Int32) &&& 31)) ||| ((nar .byte (((128 : Int32) ||| (cp &&& (63 : Int32))).toInt8.toInt32)) &&& (63 : Int32))) := ⟨_, rfl⟩
      have e176' := e176.trans (show _ = some (Value.int z298) by rw [h_z298])
      subst e176'
      show WP X n0 QL h168 1 8 301 #[.val (.int cc), .val (.int a), .val (.long ju), .second, .val (.int cp), .val (.int (2 : Int32)), .val ((.ref a2)), .val (.int (2 : Int32))] [.int z298]
      refine wp_run ok hK (B := [(301, .iload 4, false), (303, .if_icmp .ne 7, false), (306, .iconst 1, false), (307, .goto 4, false)]) (by decide +kernel) (ps := [Op.if_icmp.holds .ne z298 cp = false]) (pc' := 311) (L' := #[.val (.int cc), .val (.int a), .val (.long ju), .second, .val (.int cp), .val (.int (2 : Int32)), .val ((.ref a2)), .val (.int (2 : Int32))]) (S' := [.int (1 : Int32)]) rfl ⟨(XT.ii_ne_f (own_law_13 cc a ju cp h_cp j0 j1 j2 j3 j4 j5 j6 j7 hc108 z298 h_z298)), trivial⟩ ?_
      refine wp_retZ ok (t := .boolean) (by simp) (by decide +kernel) (by decide) (by decide) ?_
      exact congrArg (fun z => some (Value.int z)) (own_law_14 cc a ju cp h_cp j0 j1 j2 j3 j4 j5 j6 j7 hc108 z298 h_z298)
    · refine wp_run ok hK (B := [(108, .if_icmp .ge 41, true)]) (by decide +kernel) (ps := [Op.if_icmp.holds .ge cp (2048 : Int32) = true]) (pc' := 149) (L' := #[.val (.int cc), .val (.int a), .val (.long ju), .second, .val (.int cp), .val (.int (2 : Int32)), .val ((.ref a2)), .unset]) (S' := []) rfl ⟨(XT.ii_ge_t hc108), trivial⟩ ?_
      refine wp_run ok hK (B := [(149, .iload 4, false), (151, .ldc 9, false)]) (by decide +kernel) (ps := []) (pc' := 153) (L' := #[.val (.int cc), .val (.int a), .val (.long ju), .second, .val (.int cp), .val (.int (2 : Int32)), .val ((.ref a2)), .unset]) (S' := [.int (65536 : Int32), .int cp]) rfl trivial ?_
      by_cases hc153 : cp < (65536 : Int32)
      · refine wp_run ok hK (B := [(153, .if_icmp .ge 61, false)]) (by decide +kernel) (ps := [Op.if_icmp.holds .ge cp (65536 : Int32) = false]) (pc' := 156) (L' := #[.val (.int cc), .val (.int a), .val (.long ju), .second, .val (.int cp), .val (.int (2 : Int32)), .val ((.ref a2)), .unset]) (S' := []) rfl ⟨(XT.ii_ge_f hc153), trivial⟩ ?_
        refine wp_run ok hK (B := [(156, .iconst 3, false), (157, .istore 7, false), (159, .aload 6, false), (161, .iload 5, false), (163, .sipush 224, false), (166, .iload 4, false), (168, .bipush 12, false), (170, .ishr, false), (171, .ior, false), (172, .i2b, false)]) (by decide +kernel) (ps := []) (pc' := 173) (L' := #[.val (.int cc), .val (.int a), .val (.long ju), .second, .val (.int cp), .val (.int (2 : Int32)), .val ((.ref a2)), .val (.int (3 : Int32))]) (S' := [.int (((224 : Int32) ||| (cp >>> ((12 : Int32) &&& 31))).toInt8.toInt32), .int (2 : Int32), (.ref a2)]) rfl trivial ?_
        refine wp_sB ok A47 (i := 2) (by rfl) (by decide) (by decide +kernel) g8 ?_
        intro h177 W178 A179
        have A180 : Ar Z h177 a2 .byte 8 (lst [.int j0, .int j1, .int (nar .byte (((224 : Int32) ||| (cp >>> ((12 : Int32) &&& 31))).toInt8.toInt32)), .int j3, .int j4, .int j5, .int j6, .int j7]) := lst_set A179 rfl (by decide) rfl
        have Z181 : n0 ≤ h177.size := by rw [W178.size]; exact Z48
        refine wp_run ok hK (B := [(174, .aload 6, false), (176, .iload 5, false), (178, .iconst 1, false), (179, .iadd, false), (180, .sipush 128, false), (183, .iload 4, false), (185, .bipush 6, false), (187, .ishr, false), (188, .bipush 63, false), (190, .iand, false), (191, .ior, false), (192, .i2b, false)]) (by decide +kernel) (ps := []) (pc' := 193) (L' := #[.val (.int cc), .val (.int a), .val (.long ju), .second, .val (.int cp), .val (.int (2 : Int32)), .val ((.ref a2)), .val (.int (3 : Int32))]) (S' := [.int (((128 : Int32) ||| ((cp >>> ((6 : Int32) &&& 31)) &&& (63 : Int32))).toInt8.toInt32), .int (3 : Int32), (.ref a2)]) rfl trivial ?_
        refine wp_sB ok A180 (i := 3) (by rfl) (by decide) (by decide +kernel) g8 ?_
        intro h182 W183 A184
        have A185 : Ar Z h182 a2 .byte 8 (lst [.int j0, .int j1, .int (nar .byte (((224 : Int32) ||| (cp >>> ((12 : Int32) &&& 31))).toInt8.toInt32)), .int (nar .byte (((128 : Int32) ||| ((cp >>> ((6 : Int32) &&& 31)) &&& (63 : Int32))).toInt8.toInt32)), .int j4, .int j5, .int j6, .int j7]) := lst_set A184 rfl (by decide) rfl
        have Z186 : n0 ≤ h182.size := by rw [W183.size]; exact Z181
        refine wp_run ok hK (B := [(194, .aload 6, false), (196, .iload 5, false), (198, .iconst 2, false), (199, .iadd, false), (200, .sipush 128, false), (203, .iload 4, false), (205, .bipush 63, false), (207, .iand, false), (208, .ior, false), (209, .i2b, false)]) (by decide +kernel) (ps := []) (pc' := 210) (L' := #[.val (.int cc), .val (.int a), .val (.long ju), .second, .val (.int cp), .val (.int (2 : Int32)), .val ((.ref a2)), .val (.int (3 : Int32))]) (S' := [.int (((128 : Int32) ||| (cp &&& (63 : Int32))).toInt8.toInt32), .int (4 : Int32), (.ref a2)]) rfl trivial ?_
        refine wp_sB ok A185 (i := 4) (by rfl) (by decide) (by decide +kernel) g8 ?_
        intro h187 W188 A189
        have A190 : Ar Z h187 a2 .byte 8 (lst [.int j0, .int j1, .int (nar .byte (((224 : Int32) ||| (cp >>> ((12 : Int32) &&& 31))).toInt8.toInt32)), .int (nar .byte (((128 : Int32) ||| ((cp >>> ((6 : Int32) &&& 31)) &&& (63 : Int32))).toInt8.toInt32)), .int (nar .byte (((128 : Int32) ||| (cp &&& (63 : Int32))).toInt8.toInt32)), .int j5, .int j6, .int j7]) := lst_set A189 rfl (by decide) rfl
        have Z191 : n0 ≤ h187.size := by rw [W188.size]; exact Z186
        refine wp_run ok hK (B := [(211, .goto 78, false), (289, .aload 6, false), (291, .iload 5, false), (293, .iload 5, false), (295, .iload 7, false), (297, .iadd, false)]) (by decide +kernel) (ps := []) (pc' := 298) (L' := #[.val (.int cc), .val (.int a), .val (.long ju), .second, .val (.int cp), .val (.int (2 : Int32)), .val ((.ref a2)), .val (.int (3 : Int32))]) (S' := [.int (5 : Int32), .int (2 : Int32), (.ref a2)]) rfl trivial ?_
        refine wp_static ok (wd hw 3 rfl) (wd hw 4 rfl) (wd hw 5 rfl) (wd hw 6 rfl) (by decide) (argsL := [(.ref a2), .int (2 : Int32), .int (5 : Int32)]) (rest := []) (c_cp23 _ Z a0 hw a2 j0 j1 (nar .byte (((224 : Int32) ||| (cp >>> ((12 : Int32) &&& 31))).toInt8.toInt32)) (nar .byte (((128 : Int32) ||| ((cp >>> ((6 : Int32) &&& 31)) &&& (63 : Int32))).toInt8.toInt32)) (nar .byte (((128 : Int32) ||| (cp &&& (63 : Int32))).toInt8.toInt32)) j5 j6 j7 h187 n0 Z191 A190 g8) (ps := [(.array .byte), .int, .int]) (by decide +kernel) (by rfl) (by rfl) (by rfl) (by decide +kernel) (by decide) (Nat.le_of_ble_eq_true rfl) (by decide) (by decide) ?_
        intro r192 h193 q194
        obtain ⟨e195, rfl⟩ := q194
        obtain ⟨z298, h_z298⟩ : ∃ z : Int32, z = ((((((nar .byte (((224 : Int32) ||| (cp >>> ((12 : Int32) &&& 31))).toInt8.toInt32)) &&& ((127 : Int32) >>> ((3 : Int32) &&& 31))) <<< ((6 : Int32) &&& 31)) ||| ((nar .byte (((128 : Int32) ||| ((cp >>> ((6 : Int32) &&& 31)) &&& (63 : Int32))).toInt8.toInt32)) &&& (63 : Int32))) <<< ((6 : Int32) &&& 31)) ||| ((nar .byte (((128 : Int32) ||| (cp &&& (63 : Int32))).toInt8.toInt32)) &&& (63 : Int32))) := ⟨_, rfl⟩
        have e195' := e195.trans (show _ = some (Value.int z298) by rw [h_z298])
        subst e195'
        show WP X n0 QL h187 1 8 301 #[.val (.int cc), .val (.int a), .val (.long ju), .second, .val (.int cp), .val (.int (2 : Int32)), .val ((.ref a2)), .val (.int (3 : Int32))] [.int z298]
        refine wp_run ok hK (B := [(301, .iload 4, false), (303, .if_icmp .ne 7, false), (306, .iconst 1, false), (307, .goto 4, false)]) (by decide +kernel) (ps := [Op.if_icmp.holds .ne z298 cp = false]) (pc' := 311) (L' := #[.val (.int cc), .val (.int a), .val (.long ju), .second, .val (.int cp), .val (.int (2 : Int32)), .val ((.ref a2)), .val (.int (3 : Int32))]) (S' := [.int (1 : Int32)]) rfl ⟨(XT.ii_ne_f (own_law_15 cc a ju cp h_cp j0 j1 j2 j3 j4 j5 j6 j7 hc108 hc153 z298 h_z298)), trivial⟩ ?_
        refine wp_retZ ok (t := .boolean) (by simp) (by decide +kernel) (by decide) (by decide) ?_
        exact congrArg (fun z => some (Value.int z)) (own_law_16 cc a ju cp h_cp j0 j1 j2 j3 j4 j5 j6 j7 hc108 hc153 z298 h_z298)
      · refine wp_run ok hK (B := [(153, .if_icmp .ge 61, true)]) (by decide +kernel) (ps := [Op.if_icmp.holds .ge cp (65536 : Int32) = true]) (pc' := 214) (L' := #[.val (.int cc), .val (.int a), .val (.long ju), .second, .val (.int cp), .val (.int (2 : Int32)), .val ((.ref a2)), .unset]) (S' := []) rfl ⟨(XT.ii_ge_t hc153), trivial⟩ ?_
        refine wp_run ok hK (B := [(214, .iconst 4, false), (215, .istore 7, false), (217, .aload 6, false), (219, .iload 5, false), (221, .sipush 240, false), (224, .iload 4, false), (226, .bipush 18, false), (228, .ishr, false), (229, .ior, false), (230, .i2b, false)]) (by decide +kernel) (ps := []) (pc' := 231) (L' := #[.val (.int cc), .val (.int a), .val (.long ju), .second, .val (.int cp), .val (.int (2 : Int32)), .val ((.ref a2)), .val (.int (4 : Int32))]) (S' := [.int (((240 : Int32) ||| (cp >>> ((18 : Int32) &&& 31))).toInt8.toInt32), .int (2 : Int32), (.ref a2)]) rfl trivial ?_
        refine wp_sB ok A47 (i := 2) (by rfl) (by decide) (by decide +kernel) g8 ?_
        intro h196 W197 A198
        have A199 : Ar Z h196 a2 .byte 8 (lst [.int j0, .int j1, .int (nar .byte (((240 : Int32) ||| (cp >>> ((18 : Int32) &&& 31))).toInt8.toInt32)), .int j3, .int j4, .int j5, .int j6, .int j7]) := lst_set A198 rfl (by decide) rfl
        have Z200 : n0 ≤ h196.size := by rw [W197.size]; exact Z48
        refine wp_run ok hK (B := [(232, .aload 6, false), (234, .iload 5, false), (236, .iconst 1, false), (237, .iadd, false), (238, .sipush 128, false), (241, .iload 4, false), (243, .bipush 12, false), (245, .ishr, false), (246, .bipush 63, false), (248, .iand, false), (249, .ior, false), (250, .i2b, false)]) (by decide +kernel) (ps := []) (pc' := 251) (L' := #[.val (.int cc), .val (.int a), .val (.long ju), .second, .val (.int cp), .val (.int (2 : Int32)), .val ((.ref a2)), .val (.int (4 : Int32))]) (S' := [.int (((128 : Int32) ||| ((cp >>> ((12 : Int32) &&& 31)) &&& (63 : Int32))).toInt8.toInt32), .int (3 : Int32), (.ref a2)]) rfl trivial ?_
        refine wp_sB ok A199 (i := 3) (by rfl) (by decide) (by decide +kernel) g8 ?_
        intro h201 W202 A203
        have A204 : Ar Z h201 a2 .byte 8 (lst [.int j0, .int j1, .int (nar .byte (((240 : Int32) ||| (cp >>> ((18 : Int32) &&& 31))).toInt8.toInt32)), .int (nar .byte (((128 : Int32) ||| ((cp >>> ((12 : Int32) &&& 31)) &&& (63 : Int32))).toInt8.toInt32)), .int j4, .int j5, .int j6, .int j7]) := lst_set A203 rfl (by decide) rfl
        have Z205 : n0 ≤ h201.size := by rw [W202.size]; exact Z200
        refine wp_run ok hK (B := [(252, .aload 6, false), (254, .iload 5, false), (256, .iconst 2, false), (257, .iadd, false), (258, .sipush 128, false), (261, .iload 4, false), (263, .bipush 6, false), (265, .ishr, false), (266, .bipush 63, false), (268, .iand, false), (269, .ior, false), (270, .i2b, false)]) (by decide +kernel) (ps := []) (pc' := 271) (L' := #[.val (.int cc), .val (.int a), .val (.long ju), .second, .val (.int cp), .val (.int (2 : Int32)), .val ((.ref a2)), .val (.int (4 : Int32))]) (S' := [.int (((128 : Int32) ||| ((cp >>> ((6 : Int32) &&& 31)) &&& (63 : Int32))).toInt8.toInt32), .int (4 : Int32), (.ref a2)]) rfl trivial ?_
        refine wp_sB ok A204 (i := 4) (by rfl) (by decide) (by decide +kernel) g8 ?_
        intro h206 W207 A208
        have A209 : Ar Z h206 a2 .byte 8 (lst [.int j0, .int j1, .int (nar .byte (((240 : Int32) ||| (cp >>> ((18 : Int32) &&& 31))).toInt8.toInt32)), .int (nar .byte (((128 : Int32) ||| ((cp >>> ((12 : Int32) &&& 31)) &&& (63 : Int32))).toInt8.toInt32)), .int (nar .byte (((128 : Int32) ||| ((cp >>> ((6 : Int32) &&& 31)) &&& (63 : Int32))).toInt8.toInt32)), .int j5, .int j6, .int j7]) := lst_set A208 rfl (by decide) rfl
        have Z210 : n0 ≤ h206.size := by rw [W207.size]; exact Z205
        refine wp_run ok hK (B := [(272, .aload 6, false), (274, .iload 5, false), (276, .iconst 3, false), (277, .iadd, false), (278, .sipush 128, false), (281, .iload 4, false), (283, .bipush 63, false), (285, .iand, false), (286, .ior, false), (287, .i2b, false)]) (by decide +kernel) (ps := []) (pc' := 288) (L' := #[.val (.int cc), .val (.int a), .val (.long ju), .second, .val (.int cp), .val (.int (2 : Int32)), .val ((.ref a2)), .val (.int (4 : Int32))]) (S' := [.int (((128 : Int32) ||| (cp &&& (63 : Int32))).toInt8.toInt32), .int (5 : Int32), (.ref a2)]) rfl trivial ?_
        refine wp_sB ok A209 (i := 5) (by rfl) (by decide) (by decide +kernel) g8 ?_
        intro h211 W212 A213
        have A214 : Ar Z h211 a2 .byte 8 (lst [.int j0, .int j1, .int (nar .byte (((240 : Int32) ||| (cp >>> ((18 : Int32) &&& 31))).toInt8.toInt32)), .int (nar .byte (((128 : Int32) ||| ((cp >>> ((12 : Int32) &&& 31)) &&& (63 : Int32))).toInt8.toInt32)), .int (nar .byte (((128 : Int32) ||| ((cp >>> ((6 : Int32) &&& 31)) &&& (63 : Int32))).toInt8.toInt32)), .int (nar .byte (((128 : Int32) ||| (cp &&& (63 : Int32))).toInt8.toInt32)), .int j6, .int j7]) := lst_set A213 rfl (by decide) rfl
        have Z215 : n0 ≤ h211.size := by rw [W212.size]; exact Z210
        refine wp_run ok hK (B := [(289, .aload 6, false), (291, .iload 5, false), (293, .iload 5, false), (295, .iload 7, false), (297, .iadd, false)]) (by decide +kernel) (ps := []) (pc' := 298) (L' := #[.val (.int cc), .val (.int a), .val (.long ju), .second, .val (.int cp), .val (.int (2 : Int32)), .val ((.ref a2)), .val (.int (4 : Int32))]) (S' := [.int (6 : Int32), .int (2 : Int32), (.ref a2)]) rfl trivial ?_
        refine wp_static ok (wd hw 3 rfl) (wd hw 4 rfl) (wd hw 5 rfl) (wd hw 6 rfl) (by decide) (argsL := [(.ref a2), .int (2 : Int32), .int (6 : Int32)]) (rest := []) (c_cp24 _ Z a0 hw a2 j0 j1 (nar .byte (((240 : Int32) ||| (cp >>> ((18 : Int32) &&& 31))).toInt8.toInt32)) (nar .byte (((128 : Int32) ||| ((cp >>> ((12 : Int32) &&& 31)) &&& (63 : Int32))).toInt8.toInt32)) (nar .byte (((128 : Int32) ||| ((cp >>> ((6 : Int32) &&& 31)) &&& (63 : Int32))).toInt8.toInt32)) (nar .byte (((128 : Int32) ||| (cp &&& (63 : Int32))).toInt8.toInt32)) j6 j7 h211 n0 Z215 A214 g8) (ps := [(.array .byte), .int, .int]) (by decide +kernel) (by rfl) (by rfl) (by rfl) (by decide +kernel) (by decide) (Nat.le_of_ble_eq_true rfl) (by decide) (by decide) ?_
        intro r216 h217 q218
        obtain ⟨e219, rfl⟩ := q218
        obtain ⟨z298, h_z298⟩ : ∃ z : Int32, z = ((((((((nar .byte (((240 : Int32) ||| (cp >>> ((18 : Int32) &&& 31))).toInt8.toInt32)) &&& ((127 : Int32) >>> ((4 : Int32) &&& 31))) <<< ((6 : Int32) &&& 31)) ||| ((nar .byte (((128 : Int32) ||| ((cp >>> ((12 : Int32) &&& 31)) &&& (63 : Int32))).toInt8.toInt32)) &&& (63 : Int32))) <<< ((6 : Int32) &&& 31)) ||| ((nar .byte (((128 : Int32) ||| ((cp >>> ((6 : Int32) &&& 31)) &&& (63 : Int32))).toInt8.toInt32)) &&& (63 : Int32))) <<< ((6 : Int32) &&& 31)) ||| ((nar .byte (((128 : Int32) ||| (cp &&& (63 : Int32))).toInt8.toInt32)) &&& (63 : Int32))) := ⟨_, rfl⟩
        have e219' := e219.trans (show _ = some (Value.int z298) by rw [h_z298])
        subst e219'
        show WP X n0 QL h211 1 8 301 #[.val (.int cc), .val (.int a), .val (.long ju), .second, .val (.int cp), .val (.int (2 : Int32)), .val ((.ref a2)), .val (.int (4 : Int32))] [.int z298]
        refine wp_run ok hK (B := [(301, .iload 4, false), (303, .if_icmp .ne 7, false), (306, .iconst 1, false), (307, .goto 4, false)]) (by decide +kernel) (ps := [Op.if_icmp.holds .ne z298 cp = false]) (pc' := 311) (L' := #[.val (.int cc), .val (.int a), .val (.long ju), .second, .val (.int cp), .val (.int (2 : Int32)), .val ((.ref a2)), .val (.int (4 : Int32))]) (S' := [.int (1 : Int32)]) rfl ⟨(XT.ii_ne_f (own_law_17 cc a ju cp h_cp j0 j1 j2 j3 j4 j5 j6 j7 hc108 hc153 z298 h_z298)), trivial⟩ ?_
        refine wp_retZ ok (t := .boolean) (by simp) (by decide +kernel) (by decide) (by decide) ?_
        exact congrArg (fun z => some (Value.int z)) (own_law_18 cc a ju cp h_cp j0 j1 j2 j3 j4 j5 j6 j7 hc108 hc153 z298 h_z298)
  · subst eat
    refine wp_run ok hK (B := [(103, .iload 4, false), (105, .sipush 2048, false)]) (by decide +kernel) (ps := []) (pc' := 108) (L' := #[.val (.int cc), .val (.int a), .val (.long ju), .second, .val (.int cp), .val (.int (3 : Int32)), .val ((.ref a2)), .unset]) (S' := [.int (2048 : Int32), .int cp]) rfl trivial ?_
    by_cases hc108 : cp < (2048 : Int32)
    · refine wp_run ok hK (B := [(108, .if_icmp .ge 41, false)]) (by decide +kernel) (ps := [Op.if_icmp.holds .ge cp (2048 : Int32) = false]) (pc' := 111) (L' := #[.val (.int cc), .val (.int a), .val (.long ju), .second, .val (.int cp), .val (.int (3 : Int32)), .val ((.ref a2)), .unset]) (S' := []) rfl ⟨(XT.ii_ge_f hc108), trivial⟩ ?_
      refine wp_run ok hK (B := [(111, .iconst 2, false), (112, .istore 7, false), (114, .aload 6, false), (116, .iload 5, false), (118, .sipush 192, false), (121, .iload 4, false), (123, .bipush 6, false), (125, .ishr, false), (126, .ior, false), (127, .i2b, false)]) (by decide +kernel) (ps := []) (pc' := 128) (L' := #[.val (.int cc), .val (.int a), .val (.long ju), .second, .val (.int cp), .val (.int (3 : Int32)), .val ((.ref a2)), .val (.int (2 : Int32))]) (S' := [.int (((192 : Int32) ||| (cp >>> ((6 : Int32) &&& 31))).toInt8.toInt32), .int (3 : Int32), (.ref a2)]) rfl trivial ?_
      refine wp_sB ok A47 (i := 3) (by rfl) (by decide) (by decide +kernel) g8 ?_
      intro h220 W221 A222
      have A223 : Ar Z h220 a2 .byte 8 (lst [.int j0, .int j1, .int j2, .int (nar .byte (((192 : Int32) ||| (cp >>> ((6 : Int32) &&& 31))).toInt8.toInt32)), .int j4, .int j5, .int j6, .int j7]) := lst_set A222 rfl (by decide) rfl
      have Z224 : n0 ≤ h220.size := by rw [W221.size]; exact Z48
      refine wp_run ok hK (B := [(129, .aload 6, false), (131, .iload 5, false), (133, .iconst 1, false), (134, .iadd, false), (135, .sipush 128, false), (138, .iload 4, false), (140, .bipush 63, false), (142, .iand, false), (143, .ior, false), (144, .i2b, false)]) (by decide +kernel) (ps := []) (pc' := 145) (L' := #[.val (.int cc), .val (.int a), .val (.long ju), .second, .val (.int cp), .val (.int (3 : Int32)), .val ((.ref a2)), .val (.int (2 : Int32))]) (S' := [.int (((128 : Int32) ||| (cp &&& (63 : Int32))).toInt8.toInt32), .int (4 : Int32), (.ref a2)]) rfl trivial ?_
      refine wp_sB ok A223 (i := 4) (by rfl) (by decide) (by decide +kernel) g8 ?_
      intro h225 W226 A227
      have A228 : Ar Z h225 a2 .byte 8 (lst [.int j0, .int j1, .int j2, .int (nar .byte (((192 : Int32) ||| (cp >>> ((6 : Int32) &&& 31))).toInt8.toInt32)), .int (nar .byte (((128 : Int32) ||| (cp &&& (63 : Int32))).toInt8.toInt32)), .int j5, .int j6, .int j7]) := lst_set A227 rfl (by decide) rfl
      have Z229 : n0 ≤ h225.size := by rw [W226.size]; exact Z224
      refine wp_run ok hK (B := [(146, .goto 143, false), (289, .aload 6, false), (291, .iload 5, false), (293, .iload 5, false), (295, .iload 7, false), (297, .iadd, false)]) (by decide +kernel) (ps := []) (pc' := 298) (L' := #[.val (.int cc), .val (.int a), .val (.long ju), .second, .val (.int cp), .val (.int (3 : Int32)), .val ((.ref a2)), .val (.int (2 : Int32))]) (S' := [.int (5 : Int32), .int (3 : Int32), (.ref a2)]) rfl trivial ?_
      refine wp_static ok (wd hw 3 rfl) (wd hw 4 rfl) (wd hw 5 rfl) (wd hw 6 rfl) (by decide) (argsL := [(.ref a2), .int (3 : Int32), .int (5 : Int32)]) (rest := []) (c_cp32 _ Z a0 hw a2 j0 j1 j2 (nar .byte (((192 : Int32) ||| (cp >>> ((6 : Int32) &&& 31))).toInt8.toInt32)) (nar .byte (((128 : Int32) ||| (cp &&& (63 : Int32))).toInt8.toInt32)) j5 j6 j7 h225 n0 Z229 A228 g8) (ps := [(.array .byte), .int, .int]) (by decide +kernel) (by rfl) (by rfl) (by rfl) (by decide +kernel) (by decide) (Nat.le_of_ble_eq_true rfl) (by decide) (by decide) ?_
      intro r230 h231 q232
      obtain ⟨e233, rfl⟩ := q232
      obtain ⟨z298, h_z298⟩ : ∃ z : Int32, z = ((((nar .byte (((192 : Int32) ||| (cp >>> ((6 : Int32) &&& 31))).toInt8.toInt32)) &&& ((127 : Int32) >>> ((2 : Int32) &&& 31))) <<< ((6 : Int32) &&& 31)) ||| ((nar .byte (((128 : Int32) ||| (cp &&& (63 : Int32))).toInt8.toInt32)) &&& (63 : Int32))) := ⟨_, rfl⟩
      have e233' := e233.trans (show _ = some (Value.int z298) by rw [h_z298])
      subst e233'
      show WP X n0 QL h225 1 8 301 #[.val (.int cc), .val (.int a), .val (.long ju), .second, .val (.int cp), .val (.int (3 : Int32)), .val ((.ref a2)), .val (.int (2 : Int32))] [.int z298]
      refine wp_run ok hK (B := [(301, .iload 4, false), (303, .if_icmp .ne 7, false), (306, .iconst 1, false), (307, .goto 4, false)]) (by decide +kernel) (ps := [Op.if_icmp.holds .ne z298 cp = false]) (pc' := 311) (L' := #[.val (.int cc), .val (.int a), .val (.long ju), .second, .val (.int cp), .val (.int (3 : Int32)), .val ((.ref a2)), .val (.int (2 : Int32))]) (S' := [.int (1 : Int32)]) rfl ⟨(XT.ii_ne_f (own_law_19 cc a ju cp h_cp j0 j1 j2 j3 j4 j5 j6 j7 hc108 z298 h_z298)), trivial⟩ ?_
      refine wp_retZ ok (t := .boolean) (by simp) (by decide +kernel) (by decide) (by decide) ?_
      exact congrArg (fun z => some (Value.int z)) (own_law_20 cc a ju cp h_cp j0 j1 j2 j3 j4 j5 j6 j7 hc108 z298 h_z298)
    · refine wp_run ok hK (B := [(108, .if_icmp .ge 41, true)]) (by decide +kernel) (ps := [Op.if_icmp.holds .ge cp (2048 : Int32) = true]) (pc' := 149) (L' := #[.val (.int cc), .val (.int a), .val (.long ju), .second, .val (.int cp), .val (.int (3 : Int32)), .val ((.ref a2)), .unset]) (S' := []) rfl ⟨(XT.ii_ge_t hc108), trivial⟩ ?_
      refine wp_run ok hK (B := [(149, .iload 4, false), (151, .ldc 9, false)]) (by decide +kernel) (ps := []) (pc' := 153) (L' := #[.val (.int cc), .val (.int a), .val (.long ju), .second, .val (.int cp), .val (.int (3 : Int32)), .val ((.ref a2)), .unset]) (S' := [.int (65536 : Int32), .int cp]) rfl trivial ?_
      by_cases hc153 : cp < (65536 : Int32)
      · refine wp_run ok hK (B := [(153, .if_icmp .ge 61, false)]) (by decide +kernel) (ps := [Op.if_icmp.holds .ge cp (65536 : Int32) = false]) (pc' := 156) (L' := #[.val (.int cc), .val (.int a), .val (.long ju), .second, .val (.int cp), .val (.int (3 : Int32)), .val ((.ref a2)), .unset]) (S' := []) rfl ⟨(XT.ii_ge_f hc153), trivial⟩ ?_
        refine wp_run ok hK (B := [(156, .iconst 3, false), (157, .istore 7, false), (159, .aload 6, false), (161, .iload 5, false), (163, .sipush 224, false), (166, .iload 4, false), (168, .bipush 12, false), (170, .ishr, false), (171, .ior, false), (172, .i2b, false)]) (by decide +kernel) (ps := []) (pc' := 173) (L' := #[.val (.int cc), .val (.int a), .val (.long ju), .second, .val (.int cp), .val (.int (3 : Int32)), .val ((.ref a2)), .val (.int (3 : Int32))]) (S' := [.int (((224 : Int32) ||| (cp >>> ((12 : Int32) &&& 31))).toInt8.toInt32), .int (3 : Int32), (.ref a2)]) rfl trivial ?_
        refine wp_sB ok A47 (i := 3) (by rfl) (by decide) (by decide +kernel) g8 ?_
        intro h234 W235 A236
        have A237 : Ar Z h234 a2 .byte 8 (lst [.int j0, .int j1, .int j2, .int (nar .byte (((224 : Int32) ||| (cp >>> ((12 : Int32) &&& 31))).toInt8.toInt32)), .int j4, .int j5, .int j6, .int j7]) := lst_set A236 rfl (by decide) rfl
        have Z238 : n0 ≤ h234.size := by rw [W235.size]; exact Z48
        refine wp_run ok hK (B := [(174, .aload 6, false), (176, .iload 5, false), (178, .iconst 1, false), (179, .iadd, false), (180, .sipush 128, false), (183, .iload 4, false), (185, .bipush 6, false), (187, .ishr, false), (188, .bipush 63, false), (190, .iand, false), (191, .ior, false), (192, .i2b, false)]) (by decide +kernel) (ps := []) (pc' := 193) (L' := #[.val (.int cc), .val (.int a), .val (.long ju), .second, .val (.int cp), .val (.int (3 : Int32)), .val ((.ref a2)), .val (.int (3 : Int32))]) (S' := [.int (((128 : Int32) ||| ((cp >>> ((6 : Int32) &&& 31)) &&& (63 : Int32))).toInt8.toInt32), .int (4 : Int32), (.ref a2)]) rfl trivial ?_
        refine wp_sB ok A237 (i := 4) (by rfl) (by decide) (by decide +kernel) g8 ?_
        intro h239 W240 A241
        have A242 : Ar Z h239 a2 .byte 8 (lst [.int j0, .int j1, .int j2, .int (nar .byte (((224 : Int32) ||| (cp >>> ((12 : Int32) &&& 31))).toInt8.toInt32)), .int (nar .byte (((128 : Int32) ||| ((cp >>> ((6 : Int32) &&& 31)) &&& (63 : Int32))).toInt8.toInt32)), .int j5, .int j6, .int j7]) := lst_set A241 rfl (by decide) rfl
        have Z243 : n0 ≤ h239.size := by rw [W240.size]; exact Z238
        refine wp_run ok hK (B := [(194, .aload 6, false), (196, .iload 5, false), (198, .iconst 2, false), (199, .iadd, false), (200, .sipush 128, false), (203, .iload 4, false), (205, .bipush 63, false), (207, .iand, false), (208, .ior, false), (209, .i2b, false)]) (by decide +kernel) (ps := []) (pc' := 210) (L' := #[.val (.int cc), .val (.int a), .val (.long ju), .second, .val (.int cp), .val (.int (3 : Int32)), .val ((.ref a2)), .val (.int (3 : Int32))]) (S' := [.int (((128 : Int32) ||| (cp &&& (63 : Int32))).toInt8.toInt32), .int (5 : Int32), (.ref a2)]) rfl trivial ?_
        refine wp_sB ok A242 (i := 5) (by rfl) (by decide) (by decide +kernel) g8 ?_
        intro h244 W245 A246
        have A247 : Ar Z h244 a2 .byte 8 (lst [.int j0, .int j1, .int j2, .int (nar .byte (((224 : Int32) ||| (cp >>> ((12 : Int32) &&& 31))).toInt8.toInt32)), .int (nar .byte (((128 : Int32) ||| ((cp >>> ((6 : Int32) &&& 31)) &&& (63 : Int32))).toInt8.toInt32)), .int (nar .byte (((128 : Int32) ||| (cp &&& (63 : Int32))).toInt8.toInt32)), .int j6, .int j7]) := lst_set A246 rfl (by decide) rfl
        have Z248 : n0 ≤ h244.size := by rw [W245.size]; exact Z243
        refine wp_run ok hK (B := [(211, .goto 78, false), (289, .aload 6, false), (291, .iload 5, false), (293, .iload 5, false), (295, .iload 7, false), (297, .iadd, false)]) (by decide +kernel) (ps := []) (pc' := 298) (L' := #[.val (.int cc), .val (.int a), .val (.long ju), .second, .val (.int cp), .val (.int (3 : Int32)), .val ((.ref a2)), .val (.int (3 : Int32))]) (S' := [.int (6 : Int32), .int (3 : Int32), (.ref a2)]) rfl trivial ?_
        refine wp_static ok (wd hw 3 rfl) (wd hw 4 rfl) (wd hw 5 rfl) (wd hw 6 rfl) (by decide) (argsL := [(.ref a2), .int (3 : Int32), .int (6 : Int32)]) (rest := []) (c_cp33 _ Z a0 hw a2 j0 j1 j2 (nar .byte (((224 : Int32) ||| (cp >>> ((12 : Int32) &&& 31))).toInt8.toInt32)) (nar .byte (((128 : Int32) ||| ((cp >>> ((6 : Int32) &&& 31)) &&& (63 : Int32))).toInt8.toInt32)) (nar .byte (((128 : Int32) ||| (cp &&& (63 : Int32))).toInt8.toInt32)) j6 j7 h244 n0 Z248 A247 g8) (ps := [(.array .byte), .int, .int]) (by decide +kernel) (by rfl) (by rfl) (by rfl) (by decide +kernel) (by decide) (Nat.le_of_ble_eq_true rfl) (by decide) (by decide) ?_
        intro r249 h250 q251
        obtain ⟨e252, rfl⟩ := q251
        obtain ⟨z298, h_z298⟩ : ∃ z : Int32, z = ((((((nar .byte (((224 : Int32) ||| (cp >>> ((12 : Int32) &&& 31))).toInt8.toInt32)) &&& ((127 : Int32) >>> ((3 : Int32) &&& 31))) <<< ((6 : Int32) &&& 31)) ||| ((nar .byte (((128 : Int32) ||| ((cp >>> ((6 : Int32) &&& 31)) &&& (63 : Int32))).toInt8.toInt32)) &&& (63 : Int32))) <<< ((6 : Int32) &&& 31)) ||| ((nar .byte (((128 : Int32) ||| (cp &&& (63 : Int32))).toInt8.toInt32)) &&& (63 : Int32))) := ⟨_, rfl⟩
        have e252' := e252.trans (show _ = some (Value.int z298) by rw [h_z298])
        subst e252'
        show WP X n0 QL h244 1 8 301 #[.val (.int cc), .val (.int a), .val (.long ju), .second, .val (.int cp), .val (.int (3 : Int32)), .val ((.ref a2)), .val (.int (3 : Int32))] [.int z298]
        refine wp_run ok hK (B := [(301, .iload 4, false), (303, .if_icmp .ne 7, false), (306, .iconst 1, false), (307, .goto 4, false)]) (by decide +kernel) (ps := [Op.if_icmp.holds .ne z298 cp = false]) (pc' := 311) (L' := #[.val (.int cc), .val (.int a), .val (.long ju), .second, .val (.int cp), .val (.int (3 : Int32)), .val ((.ref a2)), .val (.int (3 : Int32))]) (S' := [.int (1 : Int32)]) rfl ⟨(XT.ii_ne_f (own_law_21 cc a ju cp h_cp j0 j1 j2 j3 j4 j5 j6 j7 hc108 hc153 z298 h_z298)), trivial⟩ ?_
        refine wp_retZ ok (t := .boolean) (by simp) (by decide +kernel) (by decide) (by decide) ?_
        exact congrArg (fun z => some (Value.int z)) (own_law_22 cc a ju cp h_cp j0 j1 j2 j3 j4 j5 j6 j7 hc108 hc153 z298 h_z298)
      · refine wp_run ok hK (B := [(153, .if_icmp .ge 61, true)]) (by decide +kernel) (ps := [Op.if_icmp.holds .ge cp (65536 : Int32) = true]) (pc' := 214) (L' := #[.val (.int cc), .val (.int a), .val (.long ju), .second, .val (.int cp), .val (.int (3 : Int32)), .val ((.ref a2)), .unset]) (S' := []) rfl ⟨(XT.ii_ge_t hc153), trivial⟩ ?_
        refine wp_run ok hK (B := [(214, .iconst 4, false), (215, .istore 7, false), (217, .aload 6, false), (219, .iload 5, false), (221, .sipush 240, false), (224, .iload 4, false), (226, .bipush 18, false), (228, .ishr, false), (229, .ior, false), (230, .i2b, false)]) (by decide +kernel) (ps := []) (pc' := 231) (L' := #[.val (.int cc), .val (.int a), .val (.long ju), .second, .val (.int cp), .val (.int (3 : Int32)), .val ((.ref a2)), .val (.int (4 : Int32))]) (S' := [.int (((240 : Int32) ||| (cp >>> ((18 : Int32) &&& 31))).toInt8.toInt32), .int (3 : Int32), (.ref a2)]) rfl trivial ?_
        refine wp_sB ok A47 (i := 3) (by rfl) (by decide) (by decide +kernel) g8 ?_
        intro h253 W254 A255
        have A256 : Ar Z h253 a2 .byte 8 (lst [.int j0, .int j1, .int j2, .int (nar .byte (((240 : Int32) ||| (cp >>> ((18 : Int32) &&& 31))).toInt8.toInt32)), .int j4, .int j5, .int j6, .int j7]) := lst_set A255 rfl (by decide) rfl
        have Z257 : n0 ≤ h253.size := by rw [W254.size]; exact Z48
        refine wp_run ok hK (B := [(232, .aload 6, false), (234, .iload 5, false), (236, .iconst 1, false), (237, .iadd, false), (238, .sipush 128, false), (241, .iload 4, false), (243, .bipush 12, false), (245, .ishr, false), (246, .bipush 63, false), (248, .iand, false), (249, .ior, false), (250, .i2b, false)]) (by decide +kernel) (ps := []) (pc' := 251) (L' := #[.val (.int cc), .val (.int a), .val (.long ju), .second, .val (.int cp), .val (.int (3 : Int32)), .val ((.ref a2)), .val (.int (4 : Int32))]) (S' := [.int (((128 : Int32) ||| ((cp >>> ((12 : Int32) &&& 31)) &&& (63 : Int32))).toInt8.toInt32), .int (4 : Int32), (.ref a2)]) rfl trivial ?_
        refine wp_sB ok A256 (i := 4) (by rfl) (by decide) (by decide +kernel) g8 ?_
        intro h258 W259 A260
        have A261 : Ar Z h258 a2 .byte 8 (lst [.int j0, .int j1, .int j2, .int (nar .byte (((240 : Int32) ||| (cp >>> ((18 : Int32) &&& 31))).toInt8.toInt32)), .int (nar .byte (((128 : Int32) ||| ((cp >>> ((12 : Int32) &&& 31)) &&& (63 : Int32))).toInt8.toInt32)), .int j5, .int j6, .int j7]) := lst_set A260 rfl (by decide) rfl
        have Z262 : n0 ≤ h258.size := by rw [W259.size]; exact Z257
        refine wp_run ok hK (B := [(252, .aload 6, false), (254, .iload 5, false), (256, .iconst 2, false), (257, .iadd, false), (258, .sipush 128, false), (261, .iload 4, false), (263, .bipush 6, false), (265, .ishr, false), (266, .bipush 63, false), (268, .iand, false), (269, .ior, false), (270, .i2b, false)]) (by decide +kernel) (ps := []) (pc' := 271) (L' := #[.val (.int cc), .val (.int a), .val (.long ju), .second, .val (.int cp), .val (.int (3 : Int32)), .val ((.ref a2)), .val (.int (4 : Int32))]) (S' := [.int (((128 : Int32) ||| ((cp >>> ((6 : Int32) &&& 31)) &&& (63 : Int32))).toInt8.toInt32), .int (5 : Int32), (.ref a2)]) rfl trivial ?_
        refine wp_sB ok A261 (i := 5) (by rfl) (by decide) (by decide +kernel) g8 ?_
        intro h263 W264 A265
        have A266 : Ar Z h263 a2 .byte 8 (lst [.int j0, .int j1, .int j2, .int (nar .byte (((240 : Int32) ||| (cp >>> ((18 : Int32) &&& 31))).toInt8.toInt32)), .int (nar .byte (((128 : Int32) ||| ((cp >>> ((12 : Int32) &&& 31)) &&& (63 : Int32))).toInt8.toInt32)), .int (nar .byte (((128 : Int32) ||| ((cp >>> ((6 : Int32) &&& 31)) &&& (63 : Int32))).toInt8.toInt32)), .int j6, .int j7]) := lst_set A265 rfl (by decide) rfl
        have Z267 : n0 ≤ h263.size := by rw [W264.size]; exact Z262
        refine wp_run ok hK (B := [(272, .aload 6, false), (274, .iload 5, false), (276, .iconst 3, false), (277, .iadd, false), (278, .sipush 128, false), (281, .iload 4, false), (283, .bipush 63, false), (285, .iand, false), (286, .ior, false), (287, .i2b, false)]) (by decide +kernel) (ps := []) (pc' := 288) (L' := #[.val (.int cc), .val (.int a), .val (.long ju), .second, .val (.int cp), .val (.int (3 : Int32)), .val ((.ref a2)), .val (.int (4 : Int32))]) (S' := [.int (((128 : Int32) ||| (cp &&& (63 : Int32))).toInt8.toInt32), .int (6 : Int32), (.ref a2)]) rfl trivial ?_
        refine wp_sB ok A266 (i := 6) (by rfl) (by decide) (by decide +kernel) g8 ?_
        intro h268 W269 A270
        have A271 : Ar Z h268 a2 .byte 8 (lst [.int j0, .int j1, .int j2, .int (nar .byte (((240 : Int32) ||| (cp >>> ((18 : Int32) &&& 31))).toInt8.toInt32)), .int (nar .byte (((128 : Int32) ||| ((cp >>> ((12 : Int32) &&& 31)) &&& (63 : Int32))).toInt8.toInt32)), .int (nar .byte (((128 : Int32) ||| ((cp >>> ((6 : Int32) &&& 31)) &&& (63 : Int32))).toInt8.toInt32)), .int (nar .byte (((128 : Int32) ||| (cp &&& (63 : Int32))).toInt8.toInt32)), .int j7]) := lst_set A270 rfl (by decide) rfl
        have Z272 : n0 ≤ h268.size := by rw [W269.size]; exact Z267
        refine wp_run ok hK (B := [(289, .aload 6, false), (291, .iload 5, false), (293, .iload 5, false), (295, .iload 7, false), (297, .iadd, false)]) (by decide +kernel) (ps := []) (pc' := 298) (L' := #[.val (.int cc), .val (.int a), .val (.long ju), .second, .val (.int cp), .val (.int (3 : Int32)), .val ((.ref a2)), .val (.int (4 : Int32))]) (S' := [.int (7 : Int32), .int (3 : Int32), (.ref a2)]) rfl trivial ?_
        refine wp_static ok (wd hw 3 rfl) (wd hw 4 rfl) (wd hw 5 rfl) (wd hw 6 rfl) (by decide) (argsL := [(.ref a2), .int (3 : Int32), .int (7 : Int32)]) (rest := []) (c_cp34 _ Z a0 hw a2 j0 j1 j2 (nar .byte (((240 : Int32) ||| (cp >>> ((18 : Int32) &&& 31))).toInt8.toInt32)) (nar .byte (((128 : Int32) ||| ((cp >>> ((12 : Int32) &&& 31)) &&& (63 : Int32))).toInt8.toInt32)) (nar .byte (((128 : Int32) ||| ((cp >>> ((6 : Int32) &&& 31)) &&& (63 : Int32))).toInt8.toInt32)) (nar .byte (((128 : Int32) ||| (cp &&& (63 : Int32))).toInt8.toInt32)) j7 h268 n0 Z272 A271 g8) (ps := [(.array .byte), .int, .int]) (by decide +kernel) (by rfl) (by rfl) (by rfl) (by decide +kernel) (by decide) (Nat.le_of_ble_eq_true rfl) (by decide) (by decide) ?_
        intro r273 h274 q275
        obtain ⟨e276, rfl⟩ := q275
        obtain ⟨z298, h_z298⟩ : ∃ z : Int32, z = ((((((((nar .byte (((240 : Int32) ||| (cp >>> ((18 : Int32) &&& 31))).toInt8.toInt32)) &&& ((127 : Int32) >>> ((4 : Int32) &&& 31))) <<< ((6 : Int32) &&& 31)) ||| ((nar .byte (((128 : Int32) ||| ((cp >>> ((12 : Int32) &&& 31)) &&& (63 : Int32))).toInt8.toInt32)) &&& (63 : Int32))) <<< ((6 : Int32) &&& 31)) ||| ((nar .byte (((128 : Int32) ||| ((cp >>> ((6 : Int32) &&& 31)) &&& (63 : Int32))).toInt8.toInt32)) &&& (63 : Int32))) <<< ((6 : Int32) &&& 31)) ||| ((nar .byte (((128 : Int32) ||| (cp &&& (63 : Int32))).toInt8.toInt32)) &&& (63 : Int32))) := ⟨_, rfl⟩
        have e276' := e276.trans (show _ = some (Value.int z298) by rw [h_z298])
        subst e276'
        show WP X n0 QL h268 1 8 301 #[.val (.int cc), .val (.int a), .val (.long ju), .second, .val (.int cp), .val (.int (3 : Int32)), .val ((.ref a2)), .val (.int (4 : Int32))] [.int z298]
        refine wp_run ok hK (B := [(301, .iload 4, false), (303, .if_icmp .ne 7, false), (306, .iconst 1, false), (307, .goto 4, false)]) (by decide +kernel) (ps := [Op.if_icmp.holds .ne z298 cp = false]) (pc' := 311) (L' := #[.val (.int cc), .val (.int a), .val (.long ju), .second, .val (.int cp), .val (.int (3 : Int32)), .val ((.ref a2)), .val (.int (4 : Int32))]) (S' := [.int (1 : Int32)]) rfl ⟨(XT.ii_ne_f (own_law_23 cc a ju cp h_cp j0 j1 j2 j3 j4 j5 j6 j7 hc108 hc153 z298 h_z298)), trivial⟩ ?_
        refine wp_retZ ok (t := .boolean) (by simp) (by decide +kernel) (by decide) (by decide) ?_
        exact congrArg (fun z => some (Value.int z)) (own_law_24 cc a ju cp h_cp j0 j1 j2 j3 j4 j5 j6 j7 hc108 hc153 z298 h_z298)
set_option maxRecDepth 65536 in
set_option maxHeartbeats 40000000 in
theorem comes_1 {Post : Tables → Env → Array Value → State → Outcome → State → Prop} (hpost : ∀ tb e args s v u, (limb_1_1.after args s (.returned v) u = true ∧ limb_1_2.after args s (.returned v) u = true ∧ True) → FrameEnd s (.returned v) u (Jvm.fieldLocs frame_1_writes args s ++ Jvm.arrayLocs frame_1_arrays args s ++ Jvm.staticLocs frame_1_statics s) 16 128 → Post tb e args s (.returned v) u) :
    ArmFor flags0 classFile x code maxLocals ret World_1 tables_1 room_1 Calls_1 rest_1 Pre_1 Post := by
  intro l hfl _ _ p e ha hc hk s m args below hf hA hF happ hP
  obtain ⟨hcalls, hrest, hpre⟩ := hP
  obtain ⟨-, -, -, hnamed, -, -, -, hat⟩ := (Spec.applies_iff hf).mp happ
  obtain ⟨hg, hn⟩ := and_e (Cond.before_iff.mp (show (Jvm.Cond.and given_1 narrow_1).before args s = true from hpre))
  obtain ⟨h1, g0⟩ := and_e hg
  obtain ⟨f0, g1⟩ := and_e g0
  obtain ⟨f1, g2⟩ := and_e g1
  obtain ⟨w0, w1, w2, rfl⟩ : ∃ w0 w1 w2 : Value, args = #[w0, w1, w2] := by
    have hs : args.size = 3 := by simpa [Cond.value, given_1] using h1
    obtain ⟨L⟩ := args
    match L, hs with
    | [w0, w1, w2], _ => exact ⟨w0, w1, w2, rfl⟩
  have hw := fun d (hd : d ∈ tables_1) => atoms_spec (ws := Jvm.Cond.code x code maxLocals ret :: tables_1) hat d (List.mem_cons_of_mem _ hd)
  obtain ⟨i0, e0⟩ := is_v f0
  obtain rfl : w0 = (.int i0) := Option.some.inj e0
  obtain ⟨i1, e1⟩ := is_v f1
  obtain rfl : w1 = (.int i1) := Option.some.inj e1
  obtain ⟨i2, e2⟩ := isL_v g2
  obtain rfl : w2 = (.long i2) := Option.some.inj e2
  obtain ⟨n, o, h1, h2, h3, _, L, rfl, ⟨rfl, N⟩, hq⟩ := c_law l s _ hw i0 i1 i2 s.heap s.heap.size (Nat.le_refl _) p e ha hc hk s m _ below hf ((Spec.applies_iff_loose hf).mp happ).1 ⟨rfl, State.Warmed39.refl s, rfl⟩ trivial
  refine ⟨n, _, h1, h2, h3, hpost _ _ _ _ _ _ ⟨Cond.after_iff.mpr rfl, Cond.after_iff.mpr (eq_i res_at (Term.int_eval (1)) rfl), trivial⟩ ⟨hq.1, hq.2.1, (hq.2.2.sift fun y hy => Or.inr (N y hy)).mono (by decide) (by decide)⟩⟩
theorem main_1_1 : Claimed_1_1 := comes_1 fun _ _ _ _ _ _ h hF => ⟨h.1, hF⟩
theorem main_1_2 : Claimed_1_2 := comes_1 fun _ _ _ _ _ _ h hF => ⟨h.2.1, hF⟩
end Jvm.Pilot.@@N@@
namespace Jvm.Pilot.@@N@@
open Jvm Jvm.ClassFile Sem Op Lib Jvm.Free Jvm.Stand Jvm.Pilot.@@N@@.Jvm.D
/-! MADE BY PROGRAM (witnessworld.py) out of the Statement's table words and the real class files: 9 classes; the members and pool entries that the words name. The judged class is class 1, her method 1. -/
namespace start1
open Jvm.ClassFile
def u (s : String) : CpInfo := .utf8 (stringToUtf16 s)
/-- a pool by its gaps: so many unusable entries, then the entry; so many at the end -/
def gap : Nat → List CpInfo → List CpInfo
  | 0, r => r
  | n + 1, r => .unusable :: gap n r
def poolList (es : List (Nat × CpInfo)) (last : Nat) : List CpInfo := es.foldr (fun e r => gap e.1 (e.2 :: r)) (gap last [])
def pool (es : List (Nat × CpInfo)) (last : Nat) : Array CpInfo := ⟨poolList es last⟩
def fileOf (pool : Array CpInfo) (this : Nat) (attrs : Array Attribute := #[]) (ms : Array MethodInfo := #[]) (fl : Nat := 33) (sup : Nat := 0) (ifs : Array Nat := #[]) (fds : Array FieldInfo := #[]) : ClassFile where
  minorVersion := 0
  majorVersion := 65
  constantPool := pool
  accessFlags := fl
  thisClass := this
  superClass := sup
  interfaces := ifs
  fields := fds
  methods := ms
  attributes := attrs
def plain (name : String) (sup : Option ClassId) : Class where
  name := name
  kind := .ordinary
  loader := none
  accessFlags := 33
  super := sup
  interfaces := #[]
  cf := none
  fields := #[]
  methods := #[]
  instanceTypes := #[]
  staticTypes := #[]
  resolved := #[]
  callSites := []
  init := .initialized
  statics := none
  mirror := none

def pool0 : Array CpInfo := pool [(5, u "<init>"), (0, u "()V"), (1, .class_ 10), (1, u "java/lang/Object")] 113

def k0m0 : Method := { name := "<init>", desc := "()V", sig := { parameters := [], returnType := none }, accessFlags := 1, code := none }
/-- java/lang/Object -/
def k0 : Class := { plain "java/lang/Object" none with
  accessFlags := 33
  interfaces := #[]
  cf := some (fileOf pool0 8 #[] #[{ accessFlags := 1, nameIndex := 5, descriptorIndex := 6, attributes := #[] }] 33 0 #[] #[])
  fields := #[]
  methods := #[k0m0]
  instanceTypes := #[]
  staticTypes := #[]
  resolved := Array.replicate 124 none
  statics := none }

def pool1 : Array CpInfo := pool [(2, .class_ 4), (1, u "java/lang/Object"), (0, u "<init>"), (0, u "()V"), (0, .integer 2147483647), (0, .integer 1113984), (0, .integer 65536), (0, .methodref 11 12), (0, .class_ 13), (0, .nameAndType 14 15), (0, u "com/example/stamp_to_key/stamptokey/Utf8"), (0, u "codePoint"), (0, u "([BII)I"), (0, .class_ 17), (0, u "com/example/stamp_to_key/stamptokey/Utf8CodePointPinLaw"), (2, u "law"), (0, u "(IIJ)Z")] 5

def k1m0 : Method := { name := "<init>", desc := "()V", sig := { parameters := [], returnType := none }, accessFlags := 2, code := none }
def k1c1 : Code := { maxStack := 5, maxLocals := 8, code := code, exceptionTable := #[], attributes := #[] }
def k1m1 : Method := { name := "law", desc := "(IIJ)Z", sig := { parameters := [.int, .int, .long], returnType := some .boolean }, accessFlags := 9, code := some k1c1 }
/-- com/example/stamp_to_key/stamptokey/Utf8CodePointPinLaw -/
def k1 : Class := { plain "com/example/stamp_to_key/stamptokey/Utf8CodePointPinLaw" (some 0) with
  accessFlags := 49
  interfaces := #[]
  cf := some (fileOf pool1 16 #[] #[{ accessFlags := 2, nameIndex := 5, descriptorIndex := 6, attributes := #[] }, { accessFlags := 9, nameIndex := 20, descriptorIndex := 21, attributes := #[] }] 49 2 #[] #[])
  fields := #[]
  methods := #[k1m0, k1m1]
  instanceTypes := #[]
  staticTypes := #[]
  resolved := Array.replicate 27 none
  statics := none }

def pool2 : Array CpInfo := pool [(2, .class_ 4), (1, u "java/lang/Object"), (0, u "<init>"), (0, u "()V"), (31, .class_ 40), (1, u "com/example/stamp_to_key/stamptokey/Utf8"), (64, u "NOT_UTF8"), (0, u "Ljava/lang/String;"), (11, u "codePoint"), (0, u "([BII)I")] 6

def k2m0 : Method := { name := "<init>", desc := "()V", sig := { parameters := [], returnType := none }, accessFlags := 2, code := none }
def k2c1 : Code := { maxStack := 4, maxLocals := 5, code := prog_34_method_6_code, exceptionTable := #[], attributes := #[] }
def k2m1 : Method := { name := "codePoint", desc := "([BII)I", sig := { parameters := [(.array .byte), .int, .int], returnType := some .int }, accessFlags := 8, code := some k2c1 }
/-- com/example/stamp_to_key/stamptokey/Utf8 -/
def k2 : Class := { plain "com/example/stamp_to_key/stamptokey/Utf8" (some 0) with
  accessFlags := 32
  interfaces := #[]
  cf := some (fileOf pool2 38 #[] #[{ accessFlags := 2, nameIndex := 5, descriptorIndex := 6, attributes := #[] }, { accessFlags := 8, nameIndex := 118, descriptorIndex := 119, attributes := #[] }] 32 2 #[] #[{ accessFlags := 24, nameIndex := 105, descriptorIndex := 106, attributes := #[] }])
  fields := #[{ name := "NOT_UTF8", type := (.object "java/lang/String"), accessFlags := 24, slot := 0, constantValue := 0 }]
  methods := #[k2m0, k2m1]
  instanceTypes := #[]
  staticTypes := #[(.object "java/lang/String")]
  resolved := Array.replicate 126 none
  statics := none }

def pool3 : Array CpInfo := pool [(1, u "java/lang/Cloneable"), (0, .class_ 1), (0, u "java/lang/Object"), (0, .class_ 3)] 3

/-- java/lang/Cloneable -/
def k3 : Class := { plain "java/lang/Cloneable" (some 0) with
  accessFlags := 1537
  interfaces := #[]
  cf := some (fileOf pool3 2 #[] #[] 1537 4 #[] #[])
  fields := #[]
  methods := #[]
  instanceTypes := #[]
  staticTypes := #[]
  resolved := Array.replicate 8 none
  statics := none }

def pool4 : Array CpInfo := pool [(1, u "java/io/Serializable"), (0, .class_ 1), (0, u "java/lang/Object"), (0, .class_ 3)] 3

/-- java/io/Serializable -/
def k4 : Class := { plain "java/io/Serializable" (some 0) with
  accessFlags := 1537
  interfaces := #[]
  cf := some (fileOf pool4 2 #[] #[] 1537 4 #[] #[])
  fields := #[]
  methods := #[]
  instanceTypes := #[]
  staticTypes := #[]
  resolved := Array.replicate 8 none
  statics := none }

/-- the primitive byte -/
def k5 : Class := { plain "byte" none with kind := .primitive 'B', accessFlags := 0x411 }
/-- [B -/
def k6 : Class := { plain "[B" (some 0) with kind := .array 5 .byte, interfaces := #[3, 4], accessFlags := 1041 }

/-- the primitive int -/
def k7 : Class := { plain "int" none with kind := .primitive 'I', accessFlags := 0x411 }
/-- [I -/
def k8 : Class := { plain "[I" (some 0) with kind := .array 7 .int, interfaces := #[3, 4], accessFlags := 1041 }

def heap : Heap := #[]
def classes : Array Class := #[k0, k1, k2, k3, k4, k5, k6, k7, k8]
def interned : List (Array UInt16 × Addr) := []
def slotsUsed : Nat := 0
def theMethod : MethodId := ⟨1, 1⟩
def args0 : Array Value := #[.int 5, .int 3, .long 5]
def aboutOver (below : List Frame) : State where
  vm := { classes := classes, interned := interned.toArray }
  heap := heap
  slotsUsed := slotsUsed
  threads := #[{ frames := .invoking theMethod args0 :: below }]
def below0 : List Frame := [.native { method := ⟨0, 0⟩, args := #[] }]
def about1 : State := aboutOver below0
def p0 : Program := .bare "" "" ""
def e0 : Env := launch0.env 0 0 0
theorem w_frames : about1.frames = Frame.invoking theMethod args0 :: below0 := rfl
set_option maxRecDepth 65536 in
theorem w_args : argsFit about1.vm theMethod args0 = true := by decide +kernel
set_option maxRecDepth 65536 in
theorem w_heap : heapFits about1 = true := by decide +kernel
set_option maxRecDepth 65536 in
theorem w_runnable : about1.curStatus? = some .runnable := by decide +kernel
set_option maxRecDepth 65536 in
theorem w_alone : about1.alone = true := by decide +kernel
set_option maxRecDepth 65536 in
theorem w_named : about1.methodNamed? x = some theMethod := by decide +kernel
set_option maxRecDepth 65536 in
theorem w_hears : about1.hears theMethod below0 = true := by decide +kernel
set_option maxRecDepth 65536 in
theorem w_ripe : about1.ripe theMethod args0 below0 = true := by decide +kernel
theorem w_running : about1.status = .running := rfl
set_option maxRecDepth 65536 in
theorem w_room : about1.hasRoom e0.platform room_1 = true :=
  launch0.hasRoom_least _ room_1 (by decide +kernel) (by decide +kernel) (by decide +kernel) (by decide +kernel) (by decide +kernel) (by decide +kernel)
theorem allAtoms_all (ts : List Jvm.Cond) (a : Array Jvm.Value) (st : Jvm.State) : (allAtoms ts).before a st = ts.all (fun c => c.before a st) := by
  induction ts with
  | nil => rfl
  | cons c t ih =>
    show (Jvm.Cond.and c (allAtoms t)).before a st = _
    rw [Jvm.Cond.before_and, ih, List.all_cons]
def words1 : List Jvm.Cond := Jvm.Cond.code x code maxLocals ret :: tables_1
/-- a 'code' word, met by the world's own term for the bytes: nothing is compared byte by byte -/
theorem code_word {y : MethodName} {bytes : ByteArray} {mx : Nat} {rt : Option FieldType} {a : Array Value} {s : State} {m : MethodId} {meth : Method} {c : Code} (h1 : s.methodNamed? y = some m) (h2 : s.vm.method? m = some meth) (h3 : meth.code = some c) (h4 : c.code = bytes)
    (h5 : (c.maxLocals == mx && c.exceptionTable.isEmpty && decide (c.maxStack ≤ mostOperands) && decide (meth.sig.returnType = rt) && !meth.locks && decide (parseMethodDescriptor y.desc = some meth.sig)) = true) : (Jvm.Cond.code y bytes mx rt).before a s = true := by
  simp only [Bool.and_eq_true, beq_iff_eq, Bool.not_eq_true', decide_eq_true_eq] at h5
  obtain ⟨⟨⟨⟨⟨g1, g2⟩, g3⟩, g4⟩, g5⟩, g6⟩ := h5
  simp [Cond.before, Cond.holds, Cond.value, h1, h2, h3, h4, g1, g2, g3, g4, g5, g6]
def isCode : Jvm.Cond → Bool
  | .code _ _ _ _ => true
  | _ => false
theorem all_split {L : List Jvm.Cond} {P : Jvm.Cond → Bool} (h1 : L.all (fun c => isCode c || P c) = true) (h2 : ∀ c ∈ L.filter isCode, P c = true) : L.all P = true := by
  refine List.all_eq_true.mpr fun c hc => ?_
  have h := List.all_eq_true.mp h1 c hc
  rcases Bool.eq_false_or_eq_true (isCode c) with hi | hi
  · exact h2 c (List.mem_filter.mpr ⟨hc, hi⟩)
  · simpa [hi] using h
set_option maxRecDepth 65536 in
theorem w_c0 : (Jvm.Cond.code x code maxLocals ret).before args0 about1 = true := code_word (m := ⟨1, 1⟩) (meth := k1m1) (c := k1c1) (by decide +kernel) rfl rfl rfl (by decide +kernel)
set_option maxRecDepth 65536 in
theorem w_c1 : (Jvm.Cond.code ({ cls := "com/example/stamp_to_key/stamptokey/Utf8", name := "codePoint", desc := "([BII)I" } : Jvm.MethodName) prog_34_method_6_code (5 : Nat) (Option.some Jvm.ClassFile.FieldType.int)).before args0 about1 = true := code_word (m := ⟨2, 1⟩) (meth := k2m1) (c := k2c1) (by decide +kernel) rfl rfl rfl (by decide +kernel)
def codes1 : List Jvm.Cond := [Jvm.Cond.code x code maxLocals ret, Jvm.Cond.code ({ cls := "com/example/stamp_to_key/stamptokey/Utf8", name := "codePoint", desc := "([BII)I" } : Jvm.MethodName) prog_34_method_6_code (5 : Nat) (Option.some Jvm.ClassFile.FieldType.int)]
set_option maxRecDepth 65536 in
theorem codes_eq : words1.filter isCode = codes1 := rfl
theorem w_codes : ∀ c ∈ words1.filter isCode, c.before args0 about1 = true := by
  rw [codes_eq]
  intro c hc
  simp only [codes1, List.mem_cons, List.not_mem_nil, or_false] at hc
  rcases hc with rfl | rfl
  · exact w_c0
  · exact w_c1
set_option maxRecDepth 65536 in
theorem w_t1 : words1.all (fun c => isCode c || c.before args0 about1) = true := by decide +kernel
theorem w_tables : (allAtoms (Jvm.Cond.code x code maxLocals ret :: tables_1)).before args0 about1 = true := by
  rw [allAtoms_all]
  show words1.all (fun c => c.before args0 about1) = true
  refine all_split ?_ w_codes
  rw [w_t1]
set_option maxRecDepth 65536 in
theorem w_case : (Jvm.Cond.and given_1 narrow_1).before args0 about1 = true := by decide +kernel
theorem w_applies : (headSpec (Jvm.Cond.code x code maxLocals ret :: tables_1) room_1).applies x e0.platform about1 = true :=
  (Spec.applies_iff w_frames).mpr ⟨w_running, w_runnable, w_alone, w_named, w_hears, w_ripe, w_room, w_tables⟩
theorem atStart : AtStart classFile x code maxLocals ret World_1 tables_1 room_1 Calls_1 rest_1 Pre_1 launch0 p0 e0 about1 theMethod args0 below0 :=
  ⟨lists_1, trivial, launch0.admits_env _ _ _, launch0.least_env, fairChoices_fair.cas, fairChoices_fair.clock, w_frames, w_args, w_heap, w_applies, trivial, trivial, w_case⟩
end start1
theorem witness_1 : WitnessClaimed_1 := ⟨start1.p0, start1.e0, start1.about1, start1.theMethod, start1.args0, start1.below0, start1.atStart⟩
end Jvm.Pilot.@@N@@
