import JvmDerived
import JvmDerived.Pilot.@@N@@Statement
import JvmDerived.Pilot.@@N@@Code
set_option linter.unusedVariables false
set_option linter.unusedSimpArgs false
namespace Jvm.OwnW
open Sem ClassFile Op Lib Jvm.Free Jvm.Stand Jvm.LawKit Jvm.RoadKit Jvm.Free.XT
/-! ## a walk's fixed data, and what is asked of the rest of it -/
abbrev Cx : Type := Program × Launch × Env × Room × State × MethodId × Array Value × List Frame × Method × Code
abbrev Cx.p (x : Cx) : Program := x.1
abbrev Cx.l (x : Cx) : Launch := x.2.1
abbrev Cx.e (x : Cx) : Env := x.2.2.1
abbrev Cx.R (x : Cx) : Room := x.2.2.2.1
abbrev Cx.s (x : Cx) : State := x.2.2.2.2.1
abbrev Cx.m (x : Cx) : MethodId := x.2.2.2.2.2.1
abbrev Cx.args (x : Cx) : Array Value := x.2.2.2.2.2.2.1
abbrev Cx.below (x : Cx) : List Frame := x.2.2.2.2.2.2.2.1
abbrev Cx.meth (x : Cx) : Method := x.2.2.2.2.2.2.2.2.1
abbrev Cx.c (x : Cx) : Code := x.2.2.2.2.2.2.2.2.2
abbrev Sd (x : Cx) (T : State) (locs : List Loc) (k n : Nat) : Prop := Stand x.p x.l x.e x.R x.s x.m x.args x.below x.meth x.c T locs k n
/-- what is known of a walk of the method nm (of the class own) over the tables of Z -/
def Ok (x : Cx) (Z : State) (own nm : String) (bytes : ByteArray) (ml : Nat) (rt : Option FieldType) (R : Room) : Prop :=
  x.p.tables.exec = Jvm.exec ∧ x.c.code = bytes ∧ x.c.maxLocals = ml ∧ x.s.vm.findClass own = some x.m.cls ∧ x.meth.name = nm ∧ Z.Warmed39 x.s.vm ∧ x.meth.sig.returnType = rt ∧ x.meth.locks = false ∧ x.R = R
abbrev Post : Type := Option Value → Heap → Prop
def Done (x : Cx) (n0 : Nat) (Q : Post) (U : State) : Prop :=
  ∃ s₂ o, Steps x.p.tables x.e x.below U s₂ ∧ s₂.status = .running ∧ Ended s₂ x.below o ∧ ∃ v L, o = .returned v ∧ (Q v s₂.heap ∧ Fr n0 L) ∧ FrameEnd x.s o s₂ L x.R.cells x.R.slots
/-- from here (heap h; k cells and n slots made so far; the frame) the walk comes to its end, and Q holds of it -/
def WP (x : Cx) (n0 : Nat) (Q : Post) (h : Heap) (k n : Nat) (pc : Nat) (L : Array Slot) (S : List Value) : Prop :=
  ∀ T locs, Sd x T locs k n → T.heap = h → Fr n0 locs → Done x n0 Q (T.setTop (mkF x.m pc L S))
/-- a method's contract at one heap and one list of arguments -/
def Con (l : Launch) (Z : State) (y : MethodName) (bytes : ByteArray) (maxL : Nat) (ret : Option FieldType) (rm : Room) (as : Array Value) (h : Heap) (n0 : Nat) (Q : Post) (ws : List Jvm.Cond) : Prop :=
  MetFree l y (head1 (Jvm.Cond.code y bytes maxL ret :: ws) rm) (fun a U => a = as ∧ Z.Warmed39 U.vm ∧ U.heap = h) (fun _ _ _ _ _ => True) (fun _ U o U' => ∃ v L, o = .returned v ∧ (Q v U'.heap ∧ Fr n0 L) ∧ FrameEnd U o U' L rm.cells rm.slots)
theorem wd {ts : List Jvm.Cond} {a0 : Array Value} {Z : State} (hw : ∀ d ∈ ts, d.before a0 Z = true) (k : Nat) {d : Jvm.Cond} (h : ts[k]? = some d) : d.before a0 Z = true := hw d (List.mem_of_getElem? h)
theorem ne_new {h : Heap} {a b : Addr} (hb : b < h.size) (e : a = h.size) : b ≠ a := by rw [e]; exact Nat.ne_of_lt hb
theorem Fld_c {Z : State} {h : Heap} {a : Addr} {O n d : String} {v w : Value} (F : Fld Z h a O n d v) (e : v = w) : Fld Z h a O n d w := e ▸ F
theorem Sta_keep0 {Z : State} {h h' : Heap} {C n d : String} {v : Value} (F : Sta Z h C n d v) (K : Keep h h' []) : Sta Z h' C n d v := by
  obtain ⟨cf, i, k, f, st, cell, h1, h2, h3, h4, h5, r⟩ := F
  exact ⟨cf, i, k, f, st, cell, h1, h2, h3, h4, K.2.1 _ _ h5 nin0, r⟩
section Rules
variable {x : Cx} {Z : State} {own nm : String} {bytes : ByteArray} {ml : Nat} {rt : Option FieldType} {R : Room} {n0 : Nat} {Q : Post} {h : Heap} {k n : Nat} {pc pc' : Nat} {L L' : Array Slot} {S S' rest : List Value} {a0 : Array Value} {a : Addr} {v : Value}
theorem con_of_wp {l : Launch} {y : MethodName} {as : Array Value} {L0 : Array Slot} {ws : List Jvm.Cond} (pn : plainFor y = true) (ef : ∀ m, entryFrame m as ml = mkF m 0 L0 [])
    (H : ∀ x : Cx, x.l = l → Ok x Z y.cls y.name bytes ml rt R → WP x n0 Q h 0 0 0 L0 []) : Con l Z y bytes ml rt R as h n0 Q ws := by
  refine MetFree.of_bodySF pn hisR ?_
  intro p e s m args below meth c s₁ Bd hml0 hP hK
  obtain ⟨rfl, hZ, hh⟩ := hP
  have X0 : Stand p l e R s m args below meth c s₁ [] 0 0 := Stand.of_body Bd
  have e0 : s₁.heap = h := by rw [← hh, Bd.state]; rfl
  have ok : Ok (p, l, e, R, s, m, args, below, meth, c) Z y.cls y.name bytes ml rt R := ⟨Bd.exec, Bd.bytes, hml0, findClass_of_methodNamed Bd.named, (name_of_methodNamed Bd.named Bd.method).1, hZ, Bd.returns, Bd.notSynchronized, rfl⟩
  obtain ⟨s₂, o, h1, h2, h3, h4⟩ := H (p, l, e, R, s, m, args, below, meth, c) rfl ok s₁ [] X0 e0 (Fr.nil n0)
  exact ⟨s₂, o, castTop (ef m) h1, h2, h3, h4⟩
theorem wp_more {k' n' : Nat} (hk : k ≤ k') (hn : n ≤ n') (w : WP x n0 Q h k' n' pc L S) : WP x n0 Q h k n pc L S := fun T locs X e N => w T locs (X.more hk hn) e N
theorem wp_steps (st : ∀ T locs target, Sd x T locs k n → T.heap = h → Steps x.p.tables x.e x.below (T.setTop (mkF x.m pc' L' S')) target → Steps x.p.tables x.e x.below (T.setTop (mkF x.m pc L S)) target) (w : WP x n0 Q h k n pc' L' S') : WP x n0 Q h k n pc L S := fun T locs X e N => by
  obtain ⟨s₂, o, h1, r⟩ := w T locs X e N
  exact ⟨s₂, o, st T locs _ X e h1, r⟩
/-! ## returns -/
theorem wp_done {v' : Option Value} (ok : Ok x Z own nm bytes ml rt R) (hk : k ≤ R.cells) (hn : n ≤ R.slots) (hv : rt = none → v' = none) (hq : Q v' h)
    (st : ∀ T locs fs, Sd x T locs k n → (∀ (f : JFrame) (acts : List Action), f.method = x.m → f.locked = none → f.entered = [] → (doReturn x.e (T.setTop f) acts v').1 = T.setFrames fs) → Steps x.p.tables x.e x.below (T.setTop (mkF x.m pc L S)) (T.setFrames fs)) : WP x n0 Q h k n pc L S := fun T locs X e N => by
  obtain ⟨hx, hby, hml, hown, hnm, hZ, hrt, hlk, hR⟩ := ok
  have hlocks : x.meth.locks = false := hlk
  obtain ⟨fs, hr, hrun, hended, hW, hsame⟩ := X.leave (v := v') (fun q => hv (hrt.symm.trans q)) hlocks
  refine ⟨_, _, st T locs fs X hr, hrun, hended, _, locs, rfl, ⟨?_, N⟩, ⟨_, rfl⟩, hW, hsame.mono (by rw [hR]; exact hk) (by rw [hR]; exact hn)⟩
  show Q v' T.heap
  rw [e]; exact hq
theorem wp_retV (ok : Ok x Z own nm bytes ml none R) (hd : decode bytes pc = .ok (.return_, 1)) (hk : k ≤ R.cells) (hn : n ≤ R.slots) (hq : Q none h) : WP x n0 Q h k n pc L [] :=
  wp_done ok hk hn (fun _ => rfl) hq fun T locs fs X hr => X.returnOut ok.1 ok.2.2.2.2.2.2.1 (hb ok.2.1 hd) hr
theorem wp_retZ {z : Int32} {t : FieldType} (ok : Ok x Z own nm bytes ml (some t) R) (ht : t = .boolean ∨ t = .byte ∨ t = .char ∨ t = .short) (hd : decode bytes pc = .ok (.ireturn, 1)) (hk : k ≤ R.cells) (hn : n ≤ R.slots) (hq : Q (some (.int (nar t z))) h) : WP x n0 Q h k n pc L (.int z :: rest) :=
  wp_done ok hk hn (fun q => nomatch q) hq fun T locs fs X hr => retN X ok.1 ok.2.2.2.2.2.2.1 ht (hb ok.2.1 hd) hr
theorem wp_retI {z : Int32} (ok : Ok x Z own nm bytes ml (some .int) R) (hd : decode bytes pc = .ok (.ireturn, 1)) (hk : k ≤ R.cells) (hn : n ≤ R.slots) (hq : Q (some (.int z)) h) : WP x n0 Q h k n pc L (.int z :: rest) :=
  wp_done ok hk hn (fun q => nomatch q) hq fun T locs fs X hr => retOut X ok.1 ok.2.2.2.2.2.2.1 (w := .int z) rfl (Or.inl ⟨rfl, Or.inl rfl, z, rfl⟩) (hb ok.2.1 hd) hr
theorem wp_retJ {z : Int64} (ok : Ok x Z own nm bytes ml (some .long) R) (hd : decode bytes pc = .ok (.lreturn, 1)) (hk : k ≤ R.cells) (hn : n ≤ R.slots) (hq : Q (some (.long z)) h) : WP x n0 Q h k n pc L (.long z :: rest) :=
  wp_done ok hk hn (fun q => nomatch q) hq fun T locs fs X hr => retOut X ok.1 ok.2.2.2.2.2.2.1 (w := .long z) rfl (Or.inr (Or.inl ⟨rfl, rfl, z, rfl⟩)) (hb ok.2.1 hd) hr
theorem wp_retA {w : Value} {t : FieldType} (ok : Ok x Z own nm bytes ml (some t) R) (ht : t.isReference = true) (hw : w.isRef = true) (hd : decode bytes pc = .ok (.areturn, 1)) (hk : k ≤ R.cells) (hn : n ≤ R.slots) (hq : Q (some w) h) : WP x n0 Q h k n pc L [w] :=
  wp_done ok hk hn (fun q => nomatch q) hq fun T locs fs X hr => X.areturnOut ok.1 hw ok.2.2.2.2.2.2.1 ht (hb ok.2.1 hd) hr
/-! ## the heap -/
theorem wp_getF {O nf d : String} {index : Nat} (ok : Ok x Z own nm bytes ml rt R) (w : (Jvm.Cond.fieldLink own index O nf d).before a0 Z = true) (F : Fld Z h a O nf d v) (hd : decode bytes pc = .ok (.getfield index, 3)) (hw : WP x n0 Q h k n (pc + 3) L (v :: rest)) : WP x n0 Q h k n pc L (.ref a :: rest) := fun T locs X e N => by
  obtain ⟨T', X', e', st⟩ := getF X ok.1 ok.2.2.2.2.2.1 ok.2.2.2.1 (host := "") (Or.inl w) Via.refl e F (g := mkF x.m pc L (.ref a :: rest)) rfl rfl (hb ok.2.1 hd)
  obtain ⟨s₂, o, h1, r⟩ := hw T' locs X' e' N
  exact ⟨s₂, o, st _ h1, r⟩
theorem wp_getS {O nf d : String} {index : Nat} (ok : Ok x Z own nm bytes ml rt R) (w : (Jvm.Cond.fieldLink own index O nf d).before a0 Z = true) (F : Sta Z h O nf d v) (hd : decode bytes pc = .ok (.getstatic index, 3)) (hw : WP x n0 Q h k n (pc + 3) L (v :: S)) : WP x n0 Q h k n pc L S := fun T locs X e N => by
  obtain ⟨T', X', e', st⟩ := getS (host := "") X ok.1 ok.2.2.2.2.2.1 ok.2.2.2.1 w Via.refl e F (g := mkF x.m pc L S) rfl (hb ok.2.1 hd)
  obtain ⟨s₂, o, h1, r⟩ := hw T' locs X' e' N
  exact ⟨s₂, o, st _ h1, r⟩
theorem wp_putF {O nf d C : String} {index kk : Nat} {ty : FieldType} {old : Value} (ok : Ok x Z own nm bytes ml rt R) (w : (Jvm.Cond.fieldLink own index O nf d).before a0 Z = true) (F : Fld Z h a O nf d old) (E : Exa Z h a C)
    (Ly : (Jvm.Cond.lays C O nf d).before a0 Z = true ∨ ((Jvm.Cond.laysFinal C O nf d).before a0 Z = true ∧ own = O ∧ nm = "<init>")) (wi : (Jvm.Cond.instantiable C kk).before a0 Z = true) (hty : parseFieldDescriptor d = some ty) (hnw : narrow ty v = v) (hf : fits ty v = true) (hd : decode bytes pc = .ok (.putfield index, 3)) (ha : n0 ≤ a)
    (hw : ∀ h', Wr h h' a (Jvm.RoadKit.slotOf Z O nf d) v → WP x n0 Q h' k n (pc + 3) L rest) : WP x n0 Q h k n pc L (v :: .ref a :: rest) := fun T locs X e N => by
  obtain ⟨T', h', X', e', W, st⟩ := putF X ok.1 ok.2.2.2.2.2.1 ok.2.2.2.1 (host := "") (Or.inl w) Via.refl e F E (Ly.imp id fun q => ⟨q.1, q.2.1, ok.2.2.2.2.1.trans q.2.2⟩) wi hty hnw hf (g := mkF x.m pc L (v :: .ref a :: rest)) rfl rfl (hb ok.2.1 hd)
  obtain ⟨s₂, o, h1, r⟩ := hw h' W T' _ X' e' (Fr.snoc X' N ha)
  exact ⟨s₂, o, st _ h1, r⟩
theorem wp_new {C : String} {index sz : Nat} (ok : Ok x Z own nm bytes ml rt R) (w : (Jvm.Cond.classLink own index C).before a0 Z = true) (wi : (Jvm.Cond.instantiable C sz).before a0 Z = true) (wz : (Jvm.Cond.initialized C).before a0 Z = true) (hd : decode bytes pc = .ok (.new index, 3)) (hk : k + 1 ≤ R.cells) (hn : n + sz ≤ R.slots)
    (hw : ∀ h' a, a = h.size → Ext h h' → Exa Z h' a C → (∀ {O nf d : String} {ty : FieldType}, Laid Z a0 C O nf d → parseFieldDescriptor d = some ty → Fld Z h' a O nf d (defaultValue ty)) → WP x n0 Q h' (k + 1) (n + sz) (pc + 3) L (.ref a :: S)) : WP x n0 Q h k n pc L S := fun T locs X e N => by
  obtain ⟨T', h', X', e', E, A, D, -, st⟩ := newO X ok.1 ok.2.2.2.2.2.1 ok.2.2.2.1 w wi wz e (g := mkF x.m pc L S) rfl (hb ok.2.1 hd) (by rw [ok.2.2.2.2.2.2.2.2]; exact hk) (by rw [ok.2.2.2.2.2.2.2.2]; exact hn)
  obtain ⟨s₂, o, h1, r⟩ := hw h' h.size rfl E A D T' _ X' e' N
  exact ⟨s₂, o, st _ h1, r⟩
theorem wp_initO {index : Nat} (ok : Ok x Z own nm bytes ml rt R) (w1 : (Jvm.Cond.methodLink own index Lib.objectInit).before a0 Z = true) (w2 : (Jvm.Cond.instanceMethod Lib.objectInit).before a0 Z = true) (w3 : (Jvm.Cond.code Lib.objectInit ⟨#[0xb1]⟩ 1 none).before a0 Z = true) (hL : L.size = ml)
    (hd : decode bytes pc = .ok (.invokespecial index, 3)) (hf : 1 ≤ R.frames) (hl : (rest.map fun v => v.category).sum + 12 ≤ R.locals) (hw : WP x n0 Q h k n (pc + 3) L rest) : WP x n0 Q h k n pc L (.ref a :: rest) := fun T locs X e N => by
  obtain ⟨T', X', e', st⟩ := initO X ok.1 ok.2.2.2.2.2.1 ok.2.2.2.1 w1 w2 w3 e (g := mkF x.m pc L (.ref a :: rest)) rfl (by show L.size = _; rw [ok.2.2.1]; exact hL) rfl (hb ok.2.1 hd) (by rw [ok.2.2.2.2.2.2.2.2]; exact hf) (W := (rest.map fun v => v.category).sum) (by show 2 * 0 + _ ≤ _; omega) (by rw [ok.2.2.2.2.2.2.2.2]; exact hl)
  obtain ⟨s₂, o, h1, r⟩ := hw T' locs X' e' N
  exact ⟨s₂, o, st _ h1, r⟩
/-! ## calls by contract -/
theorem wp_static {y : MethodName} {cb : ByteArray} {cm : Nat} {cr : Option FieldType} {rm : Room} {index : Nat} {argsL : List Value} {Q' : Post} {ps : List FieldType} (ok : Ok x Z own nm bytes ml rt R) (w1 : (Jvm.Cond.methodLink own index y).before a0 Z = true) (w2 : (Jvm.Cond.static y).before a0 Z = true) (w3 : (Jvm.Cond.initialized y.cls).before a0 Z = true) (w4 : (Jvm.Cond.code y cb cm cr).before a0 Z = true)
    (hy : y.cls ≠ "java/lang/invoke/MethodHandle" ∧ y.cls ≠ "java/lang/invoke/VarHandle") (C : Con x.l Z y cb cm cr rm argsL.toArray h n0 Q' []) (pd : parseMethodDescriptor y.desc = some ⟨ps, cr⟩) (hlen : argsL.length = ps.length) (hst : S = argsL.reverse ++ rest) (hL : L.size = ml) (hd : decode bytes pc = .ok (.invokestatic index, 3))
    (hf : rm.frames + 1 ≤ R.frames) (hl : (rest.map fun v => v.category).sum + (cm + 11) + rm.locals ≤ R.locals) (hk : k + rm.cells ≤ R.cells) (hn : n + rm.slots ≤ R.slots)
    (hw : ∀ v h', Q' v h' → WP x n0 Q h' (k + rm.cells) (n + rm.slots) (pc + 3) L (v.toList ++ rest)) : WP x n0 Q h k n pc L S := fun T locs X e N => by
  have hZ := ok.2.2.2.2.2.1
  have hR := ok.2.2.2.2.2.2.2.2
  obtain ⟨v, _, ⟨T', L2, k2, n2⟩, -, X', ⟨Lc, hQ, l1, y1, z1⟩, st⟩ := Jvm.LawKit.callS X ok.1 (y := y) ok.2.2.2.1 (mvT hZ w1) (mvT hZ w2) (mvT hZ w3) (mvT hZ w4) hy (backOf (W := (rest.map fun v => v.category).sum) (Q := fun v h L => Q' v h ∧ Fr n0 L) C hZ w4 w3 (by rw [hR]; exact hf) (by rw [hR]; exact hl)) (g := mkF x.m pc L S) rfl (by show L.size = _; rw [ok.2.2.1]; exact hL) (argsL := argsL) (rest := rest) (lenOf pd hlen) hst (by show 2 * 0 + _ ≤ _; omega) (hb ok.2.1 hd) (fun _ _ => ⟨rfl, e, by rw [hR]; exact hk, by rw [hR]; exact hn⟩)
  dsimp only [Pt.U, Pt.locs, Pt.cells, Pt.slots] at X' l1 y1 z1 st hQ
  subst l1 y1 z1
  obtain ⟨s₂, o, h1, r⟩ := hw v _ hQ.1 T' _ X' rfl (Fr.app N hQ.2)
  exact ⟨s₂, o, st _ h1, r⟩
theorem wp_special {y : MethodName} {cb : ByteArray} {cm : Nat} {rm : Room} {index : Nat} {argsL : List Value} {Q' : Post} {ps : List FieldType} (ok : Ok x Z own nm bytes ml rt R) (hy1 : y.name = "<init>") (w1 : (Jvm.Cond.methodLink own index y).before a0 Z = true) (w2 : (Jvm.Cond.instanceMethod y).before a0 Z = true) (w3 : (Jvm.Cond.initialized y.cls).before a0 Z = true) (w4 : (Jvm.Cond.code y cb cm none).before a0 Z = true)
    (hy : y.cls ≠ "java/lang/invoke/MethodHandle" ∧ y.cls ≠ "java/lang/invoke/VarHandle") (C : Con x.l Z y cb cm none rm (Value.ref a :: argsL).toArray h n0 Q' []) (pd : parseMethodDescriptor y.desc = some ⟨ps, none⟩) (hlen : argsL.length = ps.length) (hst : S = argsL.reverse ++ .ref a :: rest) (hL : L.size = ml) (hd : decode bytes pc = .ok (.invokespecial index, 3))
    (hf : rm.frames + 1 ≤ R.frames) (hl : (rest.map fun v => v.category).sum + (cm + 11) + rm.locals ≤ R.locals) (hk : k + rm.cells ≤ R.cells) (hn : n + rm.slots ≤ R.slots)
    (hw : ∀ v h', Q' v h' → WP x n0 Q h' (k + rm.cells) (n + rm.slots) (pc + 3) L (v.toList ++ rest)) : WP x n0 Q h k n pc L S := fun T locs X e N => by
  have hZ := ok.2.2.2.2.2.1
  have hR := ok.2.2.2.2.2.2.2.2
  obtain ⟨v, _, ⟨T', L2, k2, n2⟩, -, X', ⟨Lc, hQ, l1, y1, z1⟩, st⟩ := X.specialBack ok.1 (y := y) hy1 ok.2.2.2.1 (mvT hZ w1) (mvT hZ w2) (mvT hZ w4) hy (backOf (W := (rest.map fun v => v.category).sum) (Q := fun v h L => Q' v h ∧ Fr n0 L) C hZ w4 w3 (by rw [hR]; exact hf) (by rw [hR]; exact hl)) (g := mkF x.m pc L S) rfl (by show L.size = _; rw [ok.2.2.1]; exact hL) (Steps.refl _) (a := a) (argsL := argsL) (rest := rest) (lenOf pd hlen) hst (by show 2 * 0 + _ ≤ _; omega) (hb ok.2.1 hd) (fun _ _ => ⟨rfl, e, by rw [hR]; exact hk, by rw [hR]; exact hn⟩)
  dsimp only [Pt.U, Pt.locs, Pt.cells, Pt.slots] at X' l1 y1 z1 st hQ
  subst l1 y1 z1
  obtain ⟨s₂, o, h1, r⟩ := hw v _ hQ.1 T' _ X' rfl (Fr.app N hQ.2)
  exact ⟨s₂, o, st.trans h1, r⟩
theorem wp_virtual {y : MethodName} {cb : ByteArray} {cm : Nat} {cr : Option FieldType} {rm : Room} {index : Nat} {argsL : List Value} {Q' : Post} {ps : List FieldType} {C : String} (ok : Ok x Z own nm bytes ml rt R) (w1 : (Jvm.Cond.methodLink own index y).before a0 Z = true) (w5 : (Jvm.Cond.declares y).before a0 Z = true) (w6 : (Jvm.Cond.selects C y y).before a0 Z = true) (w2 : (Jvm.Cond.instanceMethod y).before a0 Z = true) (w3 : (Jvm.Cond.initialized y.cls).before a0 Z = true) (w4 : (Jvm.Cond.code y cb cm cr).before a0 Z = true)
    (hy : y.cls ≠ "java/lang/invoke/MethodHandle" ∧ y.cls ≠ "java/lang/invoke/VarHandle") (E : Exa Z h a C) (Cn : Con x.l Z y cb cm cr rm (Value.ref a :: argsL).toArray h n0 Q' []) (pd : parseMethodDescriptor y.desc = some ⟨ps, cr⟩) (hlen : argsL.length = ps.length) (hst : S = argsL.reverse ++ .ref a :: rest) (hL : L.size = ml) (hd : decode bytes pc = .ok (.invokevirtual index, 3))
    (hf : rm.frames + 1 ≤ R.frames) (hl : (rest.map fun v => v.category).sum + (cm + 11) + rm.locals ≤ R.locals) (hk : k + rm.cells ≤ R.cells) (hn : n + rm.slots ≤ R.slots)
    (hw : ∀ v h', Q' v h' → WP x n0 Q h' (k + rm.cells) (n + rm.slots) (pc + 3) L (v.toList ++ rest)) : WP x n0 Q h k n pc L S := fun T locs X e N => by
  have hZ := ok.2.2.2.2.2.1
  have hR := ok.2.2.2.2.2.2.2.2
  obtain ⟨cq, kq, qa, qb, qc⟩ := isOf (T := T) (s := x.s) hZ e E
  obtain ⟨v, _, ⟨T', L2, k2, n2⟩, -, X', ⟨Lc, hQ, l1, y1, z1⟩, st⟩ := X.virtualBack ok.1 (y := y) (z := y) ok.2.2.2.1 (mvT hZ w1) (mvT hZ w5) (notFace_of_selects (args := #[]) (mvT hZ w6)) (mvT hZ w6) (mvT hZ w2) hy (backOf (W := (rest.map fun v => v.category).sum) (Q := fun v h L => Q' v h ∧ Fr n0 L) Cn hZ w4 w3 (by rw [hR]; exact hf) (by rw [hR]; exact hl)) qa qc (g := mkF x.m pc L S) rfl (by show L.size = _; rw [ok.2.2.1]; exact hL) (Steps.refl _) (argsL := argsL) (rest := rest) (lenOf pd hlen) hst (by show 2 * 0 + _ ≤ _; omega) (hb ok.2.1 hd) (fun _ _ => ⟨rfl, e, by rw [hR]; exact hk, by rw [hR]; exact hn⟩)
  dsimp only [Pt.U, Pt.locs, Pt.cells, Pt.slots] at X' l1 y1 z1 st hQ
  subst l1 y1 z1
  obtain ⟨s₂, o, h1, r⟩ := hw v _ hQ.1 T' _ X' rfl (Fr.app N hQ.2)
  exact ⟨s₂, o, st.trans h1, r⟩
/-! ## arrays -/
theorem wp_newA {aty : ArrayType} {z : Int32} {cap : Nat} (ok : Ok x Z own nm bytes ml rt R) (w : (Jvm.Cond.arrayClass (newarray.typeOf aty)).before a0 Z = true) (hd : decode bytes pc = .ok (.newarray aty, 2)) (hz : ¬ z < 0) (hcap : z.toNatClampNeg ≤ cap) (hb8 : cap * 8 ≤ 536870912) (hk : k + 1 ≤ R.cells) (hn : n + cap ≤ R.slots)
    (hw : ∀ h' a cA, a = h.size → Ext h h' → Arr Z h' a (newA cA (newarray.typeOf aty) z) (newarray.typeOf aty) → WP x n0 Q h' (k + 1) (n + cap) (pc + 2) L (.ref a :: rest)) : WP x n0 Q h k n pc L (.int z :: rest) := fun T locs X e N => by
  obtain ⟨T', h', cA, X', e', E, A, st⟩ := newP X ok.1 ok.2.2.2.2.2.1 w e (g := mkF x.m pc L (.int z :: rest)) rfl (hb ok.2.1 hd) rfl hz hcap hb8 (by rw [ok.2.2.2.2.2.2.2.2]; exact hk) (by rw [ok.2.2.2.2.2.2.2.2]; exact hn)
  obtain ⟨s₂, o, h1, r⟩ := hw h' _ cA rfl E A T' _ X' e' N
  exact ⟨s₂, o, st _ h1, r⟩
theorem wp_stI {cl : Cell} {j z : Int32} (ok : Ok x Z own nm bytes ml rt R) (A : Arr Z h a cl .int) (hj : ¬ (j < 0 ∨ cl.slots.size ≤ j.toNatClampNeg)) (hd : decode bytes pc = .ok (.iastore, 1)) (ha : n0 ≤ a)
    (hw : ∀ h', Wr h h' a j.toNatClampNeg (.int z) → WP x n0 Q h' k n (pc + 1) L rest) : WP x n0 Q h k n pc L (.int z :: .int j :: .ref a :: rest) := fun T locs X e N => by
  obtain ⟨T', h', X', e', W, st⟩ := stI X ok.1 ok.2.2.2.2.2.1 e A hj (g := mkF x.m pc L (.int z :: .int j :: .ref a :: rest)) rfl rfl (hb ok.2.1 hd)
  obtain ⟨s₂, o, h1, r⟩ := hw h' W T' _ X' e' (Fr.snoc X' N ha)
  exact ⟨s₂, o, st _ h1, r⟩
theorem wp_stJ {cl : Cell} {j : Int32} {z : Int64} (ok : Ok x Z own nm bytes ml rt R) (A : Arr Z h a cl .long) (hj : ¬ (j < 0 ∨ cl.slots.size ≤ j.toNatClampNeg)) (hd : decode bytes pc = .ok (.lastore, 1)) (ha : n0 ≤ a)
    (hw : ∀ h', Wr h h' a j.toNatClampNeg (.long z) → WP x n0 Q h' k n (pc + 1) L rest) : WP x n0 Q h k n pc L (.long z :: .int j :: .ref a :: rest) := fun T locs X e N => by
  obtain ⟨T', h', X', e', W, st⟩ := stJ X ok.1 ok.2.2.2.2.2.1 e A hj (g := mkF x.m pc L (.long z :: .int j :: .ref a :: rest)) rfl rfl (hb ok.2.1 hd)
  obtain ⟨s₂, o, h1, r⟩ := hw h' W T' _ X' e' (Fr.snoc X' N ha)
  exact ⟨s₂, o, st _ h1, r⟩
theorem wp_ldI {cl : Cell} {j : Int32} (ok : Ok x Z own nm bytes ml rt R) (A : Arr Z h a cl .int) (hj : ¬ (j < 0 ∨ cl.slots.size ≤ j.toNatClampNeg)) (hv : cl.slots[j.toNatClampNeg]? = some v) (hd : decode bytes pc = .ok (.iaload, 1)) (hw : WP x n0 Q h k n (pc + 1) L (v :: rest)) : WP x n0 Q h k n pc L (.int j :: .ref a :: rest) :=
  wp_steps (fun T locs target X e hr => X.iaload ok.1 (by rw [e]; exact A.1) (State.isArrayOf_alike ok.2.2.2.2.2.1.alike A.2.1) A.2.2 hj hv (g := mkF x.m pc L (.int j :: .ref a :: rest)) rfl rfl (hb ok.2.1 hd) target hr) hw
theorem wp_ldJ {cl : Cell} {j : Int32} (ok : Ok x Z own nm bytes ml rt R) (A : Arr Z h a cl .long) (hj : ¬ (j < 0 ∨ cl.slots.size ≤ j.toNatClampNeg)) (hv : cl.slots[j.toNatClampNeg]? = some v) (hd : decode bytes pc = .ok (.laload, 1)) (hw : WP x n0 Q h k n (pc + 1) L (v :: rest)) : WP x n0 Q h k n pc L (.int j :: .ref a :: rest) :=
  wp_steps (fun T locs target X e hr => X.laload ok.1 (by rw [e]; exact A.1) (State.isArrayOf_alike ok.2.2.2.2.2.1.alike A.2.1) A.2.2 hj hv (g := mkF x.m pc L (.int j :: .ref a :: rest)) rfl rfl (hb ok.2.1 hd) target hr) hw
theorem wp_ldB {cl : Cell} {j : Int32} (ok : Ok x Z own nm bytes ml rt R) (A : Arr Z h a cl .byte) (hj : ¬ (j < 0 ∨ cl.slots.size ≤ j.toNatClampNeg)) (hv : cl.slots[j.toNatClampNeg]? = some v) (hd : decode bytes pc = .ok (.baload, 1)) (hw : WP x n0 Q h k n (pc + 1) L (v :: rest)) : WP x n0 Q h k n pc L (.int j :: .ref a :: rest) :=
  wp_steps (fun T locs target X e hr => X.baloadBytes ok.1 (by rw [e]; exact A.1) (State.isArrayOf_alike ok.2.2.2.2.2.1.alike A.2.1) A.2.2 hj hv (g := mkF x.m pc L (.int j :: .ref a :: rest)) rfl rfl (hb ok.2.1 hd) target hr) hw
theorem wp_ldZ {cl : Cell} {j : Int32} (ok : Ok x Z own nm bytes ml rt R) (A : Arr Z h a cl .boolean) (hj : ¬ (j < 0 ∨ cl.slots.size ≤ j.toNatClampNeg)) (hv : cl.slots[j.toNatClampNeg]? = some v) (hd : decode bytes pc = .ok (.baload, 1)) (hw : WP x n0 Q h k n (pc + 1) L (v :: rest)) : WP x n0 Q h k n pc L (.int j :: .ref a :: rest) :=
  wp_steps (fun T locs target X e hr => X.baloadBooleans ok.1 (by rw [e]; exact A.1) (State.isArrayOf_alike ok.2.2.2.2.2.1.alike A.2.1) A.2.2 hj hv (g := mkF x.m pc L (.int j :: .ref a :: rest)) rfl rfl (hb ok.2.1 hd) target hr) hw
theorem wp_len {cl : Cell} {ty : FieldType} (ok : Ok x Z own nm bytes ml rt R) (A : Arr Z h a cl ty) (hd : decode bytes pc = .ok (.arraylength, 1)) (hw : WP x n0 Q h k n (pc + 1) L (.int cl.slots.size.toInt32 :: rest)) : WP x n0 Q h k n pc L (.ref a :: rest) :=
  wp_steps (fun T locs target X e hr => X.arraylength ok.1 (by rw [e]; exact A.1) (State.isArrayOf_alike ok.2.2.2.2.2.1.alike A.2.1) (g := mkF x.m pc L (.ref a :: rest)) rfl rfl (hb ok.2.1 hd) target hr) hw
end Rules
end Jvm.OwnW
namespace Jvm.OwnW
open Jvm.RoadKit
theorem c_lmod (x y : Int64) (d : Int) (hy : y.toInt = d) : (0 ≤ x.toInt → (x % y).toInt = x.toInt % d) ∧ (x.toInt < 0 → (x % y).toInt = -((-x.toInt) % d)) := by rw [← lrem_mod]; exact c_lrem x y d hy
theorem x_ladd {x y : Int64} (h1 : -9223372036854775808 ≤ x.toInt + y.toInt) (h2 : x.toInt + y.toInt < 9223372036854775808) : (x + y).toInt = x.toInt + y.toInt := by
  have := c_ladd x y; have := (x + y).toInt_lt; have := (x + y).le_toInt; omega
theorem x_lsub {x y : Int64} (h1 : -9223372036854775808 ≤ x.toInt - y.toInt) (h2 : x.toInt - y.toInt < 9223372036854775808) : (x - y).toInt = x.toInt - y.toInt := by
  have := c_lsub x y; have := (x - y).toInt_lt; have := (x - y).le_toInt; omega
theorem x_lmul {x y : Int64} (h1 : -9223372036854775808 ≤ x.toInt * y.toInt) (h2 : x.toInt * y.toInt < 9223372036854775808) : (x * y).toInt = x.toInt * y.toInt := by
  have q := c_lmul x y; have := (x * y).toInt_lt; have := (x * y).le_toInt
  generalize x.toInt * y.toInt = p at *; omega
theorem x_iadd {x y : Int32} (h1 : -2147483648 ≤ x.toInt + y.toInt) (h2 : x.toInt + y.toInt < 2147483648) : (x + y).toInt = x.toInt + y.toInt := by
  have := c_iadd x y; have := (x + y).toInt_lt; have := (x + y).le_toInt; omega
theorem x_isub {x y : Int32} (h1 : -2147483648 ≤ x.toInt - y.toInt) (h2 : x.toInt - y.toInt < 2147483648) : (x - y).toInt = x.toInt - y.toInt := by
  have := c_isub x y; have := (x - y).toInt_lt; have := (x - y).le_toInt; omega
theorem x_imul {x y : Int32} (h1 : -2147483648 ≤ x.toInt * y.toInt) (h2 : x.toInt * y.toInt < 2147483648) : (x * y).toInt = x.toInt * y.toInt := by
  have q := c_imul x y; have := (x * y).toInt_lt; have := (x * y).le_toInt
  generalize x.toInt * y.toInt = p at *; omega
theorem nar01 {z : Int32} (h : z = 0 ∨ z = 1) : nar .boolean z = z := by rcases h with rfl | rfl <;> rfl
end Jvm.OwnW
namespace Jvm.OwnW
open Sem ClassFile Op Lib Jvm.Free Jvm.Stand Jvm.LawKit Jvm.RoadKit Jvm.Free.XT
/-! ## plain steps, by evaluation: a block of instructions from a frame to a frame, with the props that it asks (a branch's direction, a divisor) -/
def ush (x y : Int32) : Int32 := (x.toUInt32 >>> (y &&& 31).toUInt32).toInt32
def ushL (x : Int64) (y : Int32) : Int64 := (x.toUInt64 >>> (y &&& 63).toInt64.toUInt64).toInt64
theorem c_ush (x q : Int32) (k : Nat) (hk : q.toBitVec.toNat % 32 = k) (h0 : 0 < k) : (ush x q).toInt = (x.toInt % 4294967296) / (2 ^ k : Nat) := c_iushr x q k hk h0
theorem c_ushL (x : Int64) (q : Int32) (k : Nat) (hk : q.toBitVec.toNat % 64 = k) (h0 : 0 < k) : (ushL x q).toInt = (x.toInt % 18446744073709551616) / (2 ^ k : Nat) := c_lushr x q k hk h0
abbrev Res : Type := Option (List Prop × Nat × Array Slot × List Value)
def bin32 (f : Int32 → Int32 → Int32) (pc : Nat) (L : Array Slot) : List Value → Res
  | .int y :: .int z :: r => some ([], pc + 1, L, .int (f z y) :: r)
  | _ => none
def bin64 (f : Int64 → Int64 → Int64) (pc : Nat) (L : Array Slot) : List Value → Res
  | .long y :: .long z :: r => some ([], pc + 1, L, .long (f z y) :: r)
  | _ => none
def sh64 (f : Int64 → Int32 → Int64) (pc : Nat) (L : Array Slot) : List Value → Res
  | .int y :: .long z :: r => some ([], pc + 1, L, .long (f z y) :: r)
  | _ => none
def un32 (f : Int32 → Value) (pc : Nat) (L : Array Slot) : List Value → Res
  | .int z :: r => some ([], pc + 1, L, f z :: r)
  | _ => none
def un64 (f : Int64 → Value) (pc : Nat) (L : Array Slot) : List Value → Res
  | .long z :: r => some ([], pc + 1, L, f z :: r)
  | _ => none
def ldK (ok : Value → Bool) (i pc' : Nat) (L : Array Slot) (S : List Value) : Res :=
  match L[i]? with
  | some (.val v) => if ok v = true then some ([], pc', L, v :: S) else none
  | _ => none
def stK (ok : Value → Bool) (i pc' : Nat) (L : Array Slot) : List Value → Res
  | v :: r => if ok v = true then (match storeLocals L i v with | some L' => some ([], pc', L', r) | none => none) else none
  | [] => none
def isI : Value → Bool | .int _ => true | _ => false
def isJ : Value → Bool | .long _ => true | _ => false
def constI : Option Value → Option Int32 | some (.int z) => some z | _ => none
def constJ : Option Value → Option Int64 | some (.long z) => some z | _ => none
def look (K : List (Nat × Value)) (i : Nat) : Option Value := match K with
  | [] => none
  | (j, v) :: r => if j = i then some v else look r i
def jump (pc : Nat) (o : Int) : Option Nat := if 0 ≤ (pc : Int) + o then some ((pc : Int) + o).toNat else none
def br (p : Prop) (b : Bool) (pc : Nat) (o : Int) (L : Array Slot) (S : List Value) : Res :=
  if b = true then (match jump pc o with | some q => some ([p], q, L, S) | none => none) else some ([p], pc + 3, L, S)
def stp (K : List (Nat × Value)) (b : Bool) (i : Instr) (pc : Nat) (L : Array Slot) (S : List Value) : Res :=
  match i with
  | .iconst z => some ([], pc + 1, L, .int (Int32.ofInt z) :: S)
  | .bipush z => some ([], pc + 2, L, .int (Int8.ofInt z).toInt32 :: S)
  | .sipush z => some ([], pc + 3, L, .int (Int16.ofInt z).toInt32 :: S)
  | .lconst z => some ([], pc + 1, L, .long (Int64.ofNat z) :: S)
  | .aconst_null => some ([], pc + 1, L, .null :: S)
  | .ldc j => (match constI (look K j) with | some z => some ([], pc + 2, L, .int z :: S) | none => none)
  | .ldc2_w j => (match constJ (look K j) with | some z => some ([], pc + 3, L, .long z :: S) | none => none)
  | .iload_n j => ldK isI j.val (pc + 1) L S
  | .iload j => ldK isI j (pc + 2) L S
  | .lload_n j => ldK isJ j.val (pc + 1) L S
  | .lload j => ldK isJ j (pc + 2) L S
  | .aload_n j => ldK Value.isRef j.val (pc + 1) L S
  | .aload j => ldK Value.isRef j (pc + 2) L S
  | .istore_n j => stK isI j.val (pc + 1) L S
  | .istore j => stK isI j (pc + 2) L S
  | .lstore_n j => stK isJ j.val (pc + 1) L S
  | .lstore j => stK isJ j (pc + 2) L S
  | .astore_n j => stK Value.isRef j.val (pc + 1) L S
  | .astore j => stK Value.isRef j (pc + 2) L S
  | .iadd => bin32 (fun z y => z + y) pc L S
  | .isub => bin32 (fun z y => z - y) pc L S
  | .imul => bin32 (fun z y => z * y) pc L S
  | .iand => bin32 (fun z y => z &&& y) pc L S
  | .ior => bin32 (fun z y => z ||| y) pc L S
  | .ixor => bin32 (fun z y => z ^^^ y) pc L S
  | .ishl => bin32 (fun z y => z <<< (y &&& 31)) pc L S
  | .ishr => bin32 (fun z y => z >>> (y &&& 31)) pc L S
  | .iushr => bin32 (fun z y => ush z y) pc L S
  | .ladd => bin64 (fun z y => z + y) pc L S
  | .lsub => bin64 (fun z y => z - y) pc L S
  | .lmul => bin64 (fun z y => z * y) pc L S
  | .land => bin64 (fun z y => z &&& y) pc L S
  | .lor => bin64 (fun z y => z ||| y) pc L S
  | .lxor => bin64 (fun z y => z ^^^ y) pc L S
  | .lshl => sh64 (fun z y => z <<< (y &&& 63).toInt64) pc L S
  | .lshr => sh64 (fun z y => z >>> (y &&& 63).toInt64) pc L S
  | .lushr => sh64 (fun z y => ushL z y) pc L S
  | .ineg => un32 (fun z => .int (-z)) pc L S
  | .lneg => un64 (fun z => .long (-z)) pc L S
  | .i2l => un32 (fun z => .long z.toInt64) pc L S
  | .l2i => un64 (fun z => .int z.toInt32) pc L S
  | .i2b => un32 (fun z => .int z.toInt8.toInt32) pc L S
  | .i2c => un32 (fun z => .int z.toUInt32.toUInt16.toUInt32.toInt32) pc L S
  | .i2s => un32 (fun z => .int z.toInt16.toInt32) pc L S
  | .idiv => (match S with | .int y :: .int z :: r => some ([y ≠ 0], pc + 1, L, .int (z / y) :: r) | _ => none)
  | .irem => (match S with | .int y :: .int z :: r => some ([y ≠ 0], pc + 1, L, .int (z % y) :: r) | _ => none)
  | .ldiv => (match S with | .long y :: .long z :: r => some ([y ≠ 0], pc + 1, L, .long (z / y) :: r) | _ => none)
  | .lrem => (match S with | .long y :: .long z :: r => some ([y ≠ 0], pc + 1, L, .long (z % y) :: r) | _ => none)
  | .lcmp => (match S with | .long y :: .long z :: r => some ([], pc + 1, L, .int (cmpL z y) :: r) | _ => none)
  | .pop => (match S with | v :: r => if v.category = 1 then some ([], pc + 1, L, r) else none | _ => none)
  | .dup => (match S with | v :: r => if v.category = 1 then some ([], pc + 1, L, v :: v :: r) else none | _ => none)
  | .dup_x1 => (match S with | v :: w :: r => if v.category = 1 ∧ w.category = 1 then some ([], pc + 1, L, v :: w :: v :: r) else none | _ => none)
  | .dup2 => (match S with | v :: w :: r => if v.category = 1 ∧ w.category = 1 then some ([], pc + 1, L, v :: w :: v :: w :: r) else none | _ => none)
  | .iinc j c => (match L[j]? with | some (.val (.int z)) => (match storeLocals L j (.int (z + Int32.ofInt c)) with | some L' => some ([], pc + 3, L', S) | none => none) | _ => none)
  | .goto o => (match jump pc o with | some q => some ([], q, L, S) | none => none)
  | .ifCond cd o => (match S with | .int z :: r => br (ifCond.holds cd z = b) b pc o L r | _ => none)
  | .if_icmp cd o => (match S with | .int y :: .int z :: r => br (if_icmp.holds cd z y = b) b pc o L r | _ => none)
  | .ifnull o => (match S with | .null :: r => if b = true then br True b pc o L r else none | .ref _ :: r => if b = true then none else br True b pc o L r | _ => none)
  | .ifnonnull o => (match S with | .null :: r => if b = true then none else br True b pc o L r | .ref _ :: r => if b = true then br True b pc o L r else none | _ => none)
  | _ => none
def ilen : Instr → Nat
  | .bipush _ => 2 | .ldc _ => 2 | .iload _ => 2 | .lload _ => 2 | .aload _ => 2 | .istore _ => 2 | .lstore _ => 2 | .astore _ => 2
  | .sipush _ => 3 | .ldc2_w _ => 3 | .iinc _ _ => 3 | .goto _ => 3 | .ifCond _ _ => 3 | .if_icmp _ _ => 3 | .ifnull _ => 3 | .ifnonnull _ => 3
  | _ => 1
def runL (K : List (Nat × Value)) : List (Nat × Instr × Bool) → Nat → Array Slot → List Value → Res
  | [], pc, L, S => some ([], pc, L, S)
  | (q, i, b) :: r, pc, L, S => if q = pc then (match stp K b i pc L S with
      | none => none
      | some (ps, pc', L', S') => match runL K r pc' L' S' with
        | none => none
        | some (ps', t) => some (ps ++ ps', t)) else none
def decs (bytes : ByteArray) (B : List (Nat × Instr × Bool)) : Bool := B.all fun q => decide (decode bytes q.1 = .ok (q.2.1, ilen q.2.1))
def allP : List Prop → Prop
  | [] => True
  | p :: r => p ∧ allP r
theorem allP_append {ps qs : List Prop} (h : allP (ps ++ qs)) : allP ps ∧ allP qs := by
  induction ps with
  | nil => exact ⟨trivial, h⟩
  | cons p r ih => exact ⟨⟨h.1, (ih h.2).1⟩, (ih h.2).2⟩
def Konst (Z : State) (a0 : Array Value) (own : String) : List (Nat × Value) → Prop
  | [] => True
  | (i, v) :: r => ((∃ z, v = .int z ∧ (Jvm.Cond.constant own i z).before a0 Z = true) ∨ (∃ z, v = .long z ∧ (Jvm.Cond.constantLong own i z).before a0 Z = true)) ∧ Konst Z a0 own r
theorem look_spec {Z : State} {a0 : Array Value} {own : String} {K : List (Nat × Value)} (hK : Konst Z a0 own K) {i : Nat} {v : Value} (h : look K i = some v) : (∃ z, v = .int z ∧ (Jvm.Cond.constant own i z).before a0 Z = true) ∨ (∃ z, v = .long z ∧ (Jvm.Cond.constantLong own i z).before a0 Z = true) := by
  induction K with
  | nil => cases h
  | cons q r ih =>
    obtain ⟨j, w⟩ := q
    simp only [look] at h
    split at h
    · rename_i e; subst e; cases h; exact hK.1
    · exact ih hK.2 h
theorem constI_spec {o : Option Value} {z : Int32} (h : constI o = some z) : o = some (.int z) := by
  cases o with
  | none => cases h
  | some v => cases v <;> simp [constI] at h; rw [h]
theorem constJ_spec {o : Option Value} {z : Int64} (h : constJ o = some z) : o = some (.long z) := by
  cases o with
  | none => cases h
  | some v => cases v <;> simp [constJ] at h; rw [h]
theorem ldK_spec {ok : Value → Bool} {i q : Nat} {L : Array Slot} {S : List Value} {ps : List Prop} {pc' : Nat} {L' : Array Slot} {S' : List Value} (h : ldK ok i q L S = some (ps, pc', L', S')) : ∃ v, L[i]? = some (.val v) ∧ ok v = true ∧ pc' = q ∧ L' = L ∧ S' = v :: S := by
  unfold ldK at h
  split at h
  · split at h
    · rename_i v e1 e2; cases h; exact ⟨v, e1, e2, rfl, rfl, rfl⟩
    · cases h
  · cases h
theorem stK_spec {ok : Value → Bool} {i q : Nat} {L : Array Slot} {S : List Value} {ps : List Prop} {pc' : Nat} {L' : Array Slot} {S' : List Value} (h : stK ok i q L S = some (ps, pc', L', S')) : ∃ v, S = v :: S' ∧ ok v = true ∧ pc' = q ∧ storeLocals L i v = some L' := by
  cases S with
  | nil => cases h
  | cons v r =>
    simp only [stK] at h
    split at h
    · split at h
      · rename_i e1 _ _ e2; cases h; exact ⟨v, rfl, e1, rfl, e2⟩
      · cases h
    · cases h
theorem isI_spec {v : Value} (h : isI v = true) : ∃ z, v = .int z := by cases v <;> simp [isI] at h ⊢
theorem isJ_spec {v : Value} (h : isJ v = true) : ∃ z, v = .long z := by cases v <;> simp [isJ] at h ⊢
theorem bin32_spec {f : Int32 → Int32 → Int32} {pc : Nat} {L : Array Slot} {S : List Value} {ps : List Prop} {pc' : Nat} {L' : Array Slot} {S' : List Value} (h : bin32 f pc L S = some (ps, pc', L', S')) : ∃ z y r, S = .int y :: .int z :: r ∧ pc' = pc + 1 ∧ L' = L ∧ S' = .int (f z y) :: r := by
  unfold bin32 at h; split at h
  · cases h; exact ⟨_, _, _, rfl, rfl, rfl, rfl⟩
  · cases h
theorem bin64_spec {f : Int64 → Int64 → Int64} {pc : Nat} {L : Array Slot} {S : List Value} {ps : List Prop} {pc' : Nat} {L' : Array Slot} {S' : List Value} (h : bin64 f pc L S = some (ps, pc', L', S')) : ∃ z y r, S = .long y :: .long z :: r ∧ pc' = pc + 1 ∧ L' = L ∧ S' = .long (f z y) :: r := by
  unfold bin64 at h; split at h
  · cases h; exact ⟨_, _, _, rfl, rfl, rfl, rfl⟩
  · cases h
theorem sh64_spec {f : Int64 → Int32 → Int64} {pc : Nat} {L : Array Slot} {S : List Value} {ps : List Prop} {pc' : Nat} {L' : Array Slot} {S' : List Value} (h : sh64 f pc L S = some (ps, pc', L', S')) : ∃ z y r, S = .int y :: .long z :: r ∧ pc' = pc + 1 ∧ L' = L ∧ S' = .long (f z y) :: r := by
  unfold sh64 at h; split at h
  · cases h; exact ⟨_, _, _, rfl, rfl, rfl, rfl⟩
  · cases h
theorem un32_spec {f : Int32 → Value} {pc : Nat} {L : Array Slot} {S : List Value} {ps : List Prop} {pc' : Nat} {L' : Array Slot} {S' : List Value} (h : un32 f pc L S = some (ps, pc', L', S')) : ∃ z r, S = .int z :: r ∧ pc' = pc + 1 ∧ L' = L ∧ S' = f z :: r := by
  unfold un32 at h; split at h
  · cases h; exact ⟨_, _, rfl, rfl, rfl, rfl⟩
  · cases h
theorem un64_spec {f : Int64 → Value} {pc : Nat} {L : Array Slot} {S : List Value} {ps : List Prop} {pc' : Nat} {L' : Array Slot} {S' : List Value} (h : un64 f pc L S = some (ps, pc', L', S')) : ∃ z r, S = .long z :: r ∧ pc' = pc + 1 ∧ L' = L ∧ S' = f z :: r := by
  unfold un64 at h; split at h
  · cases h; exact ⟨_, _, rfl, rfl, rfl, rfl⟩
  · cases h
theorem jump_spec {pc q : Nat} {o : Int} (h : jump pc o = some q) : 0 ≤ (pc : Int) + o ∧ ((pc : Int) + o).toNat = q := by
  unfold jump at h; split at h
  · cases h; exact ⟨by assumption, rfl⟩
  · cases h
theorem br_spec {p : Prop} {b : Bool} {pc : Nat} {o : Int} {L : Array Slot} {S : List Value} {ps : List Prop} {pc' : Nat} {L' : Array Slot} {S' : List Value} (h : br p b pc o L S = some (ps, pc', L', S')) : ps = [p] ∧ L' = L ∧ S' = S ∧ ((b = true ∧ jump pc o = some pc') ∨ (b = false ∧ pc' = pc + 3)) := by
  unfold br at h; split at h
  · rename_i e; split at h
    · rename_i e2; cases h; exact ⟨rfl, rfl, rfl, Or.inl ⟨e, e2⟩⟩
    · cases h
  · rename_i e; cases h; exact ⟨rfl, rfl, rfl, Or.inr ⟨by simpa using e, rfl⟩⟩
section Run
variable {x : Cx} {Z : State} {own nm : String} {bytes : ByteArray} {ml : Nat} {rt : Option FieldType} {R : Room} {n0 : Nat} {Q : Post} {h : Heap} {k n : Nat} {pc pc' : Nat} {L L' : Array Slot} {S S' rest : List Value} {a0 : Array Value} {K : List (Nat × Value)} {ps : List Prop}
theorem stp_ok (ok : Ok x Z own nm bytes ml rt R) (hK : Konst Z a0 own K) {b : Bool} {i : Instr} (hd : decode bytes pc = .ok (i, ilen i)) (hs : stp K b i pc L S = some (ps, pc', L', S')) (hp : allP ps)
    {T : State} {locs : List Loc} {target : State} (X : Sd x T locs k n) (hr : Steps x.p.tables x.e x.below (T.setTop (mkF x.m pc' L' S')) target) : Steps x.p.tables x.e x.below (T.setTop (mkF x.m pc L S)) target := by
  obtain ⟨hx, hby, -, hown, -, hZ, -⟩ := ok
  have hd' := hb hby hd
  have hA : At T x.m x.c x.below := X.here
  cases i
  case iconst z => cases hs; exact XS.iconst hA hx rfl hd' hr
  case bipush z => cases hs; exact XS.bipush hA hx rfl hd' hr
  case sipush z => cases hs; exact XS.sipush hA hx rfl hd' hr
  case lconst z => cases hs; exact XS.lconst hA hx rfl hd' hr
  case aconst_null => cases hs; exact XS.aconstNull hA hx rfl hd' hr
  case ldc j =>
    simp only [stp] at hs
    split at hs
    · rename_i e
      cases hs
      rcases look_spec hK (constI_spec e) with ⟨z, e1, e2⟩ | ⟨z, e1, e2⟩
      · cases e1; exact X.ldcI hx hown (mvT hZ e2) rfl hd' hr
      · cases e1
    · cases hs
  case ldc2_w j =>
    simp only [stp] at hs
    split at hs
    · rename_i e
      cases hs
      rcases look_spec hK (constJ_spec e) with ⟨z, e1, e2⟩ | ⟨z, e1, e2⟩
      · cases e1
      · cases e1; exact X.ldc2J hx hown (mvT hZ e2) rfl hd' hr
    · cases hs
  case iload_n j => obtain ⟨v, e1, e2, rfl, rfl, rfl⟩ := ldK_spec hs; obtain ⟨z, rfl⟩ := isI_spec e2; exact XS.iloadN hA hx rfl hd' e1 hr
  case iload j => obtain ⟨v, e1, e2, rfl, rfl, rfl⟩ := ldK_spec hs; obtain ⟨z, rfl⟩ := isI_spec e2; exact XS.iload hA hx rfl hd' e1 hr
  case lload_n j => obtain ⟨v, e1, e2, rfl, rfl, rfl⟩ := ldK_spec hs; obtain ⟨z, rfl⟩ := isJ_spec e2; exact XS.lloadN hA hx rfl hd' e1 hr
  case lload j => obtain ⟨v, e1, e2, rfl, rfl, rfl⟩ := ldK_spec hs; obtain ⟨z, rfl⟩ := isJ_spec e2; exact XS.lload hA hx rfl hd' e1 hr
  case aload_n j => obtain ⟨v, e1, e2, rfl, rfl, rfl⟩ := ldK_spec hs; exact XS.aloadN hA hx rfl hd' e1 e2 hr
  case aload j => obtain ⟨v, e1, e2, rfl, rfl, rfl⟩ := ldK_spec hs; exact XS.aload hA hx rfl hd' e1 e2 hr
  case istore_n j => obtain ⟨v, rfl, e2, rfl, e3⟩ := stK_spec hs; obtain ⟨z, rfl⟩ := isI_spec e2; exact XS.istoreN hA hx rfl hd' rfl e3 hr
  case istore j => obtain ⟨v, rfl, e2, rfl, e3⟩ := stK_spec hs; obtain ⟨z, rfl⟩ := isI_spec e2; exact XS.istore hA hx rfl hd' rfl e3 hr
  case lstore_n j => obtain ⟨v, rfl, e2, rfl, e3⟩ := stK_spec hs; obtain ⟨z, rfl⟩ := isJ_spec e2; exact XS.lstoreN hA hx rfl hd' rfl e3 hr
  case lstore j => obtain ⟨v, rfl, e2, rfl, e3⟩ := stK_spec hs; obtain ⟨z, rfl⟩ := isJ_spec e2; exact XS.lstore hA hx rfl hd' rfl e3 hr
  case astore_n j => obtain ⟨v, rfl, e2, rfl, e3⟩ := stK_spec hs; exact XS.astoreN hA hx rfl hd' rfl e2 e3 hr
  case astore j => obtain ⟨v, rfl, e2, rfl, e3⟩ := stK_spec hs; exact XS.astore hA hx rfl hd' rfl e2 e3 hr
  case iadd => obtain ⟨z, y, r, rfl, rfl, rfl, rfl⟩ := bin32_spec hs; exact XS.iadd hA hx rfl hd' rfl hr
  case isub => obtain ⟨z, y, r, rfl, rfl, rfl, rfl⟩ := bin32_spec hs; exact XS.isub hA hx rfl hd' rfl hr
  case imul => obtain ⟨z, y, r, rfl, rfl, rfl, rfl⟩ := bin32_spec hs; exact XS.imul hA hx rfl hd' rfl hr
  case iand => obtain ⟨z, y, r, rfl, rfl, rfl, rfl⟩ := bin32_spec hs; exact XS.iand hA hx rfl hd' rfl hr
  case ior => obtain ⟨z, y, r, rfl, rfl, rfl, rfl⟩ := bin32_spec hs; exact XS.ior hA hx rfl hd' rfl hr
  case ixor => obtain ⟨z, y, r, rfl, rfl, rfl, rfl⟩ := bin32_spec hs; exact XS.ixor hA hx rfl hd' rfl hr
  case ishl => obtain ⟨z, y, r, rfl, rfl, rfl, rfl⟩ := bin32_spec hs; exact XS.ishl hA hx rfl hd' rfl hr
  case ishr => obtain ⟨z, y, r, rfl, rfl, rfl, rfl⟩ := bin32_spec hs; exact XS.ishr hA hx rfl hd' rfl hr
  case iushr => obtain ⟨z, y, r, rfl, rfl, rfl, rfl⟩ := bin32_spec hs; exact XS.iushr hA hx rfl hd' rfl hr
  case ladd => obtain ⟨z, y, r, rfl, rfl, rfl, rfl⟩ := bin64_spec hs; exact XS.ladd hA hx rfl hd' rfl hr
  case lsub => obtain ⟨z, y, r, rfl, rfl, rfl, rfl⟩ := bin64_spec hs; exact XS.lsub hA hx rfl hd' rfl hr
  case lmul => obtain ⟨z, y, r, rfl, rfl, rfl, rfl⟩ := bin64_spec hs; exact XS.lmul hA hx rfl hd' rfl hr
  case land => obtain ⟨z, y, r, rfl, rfl, rfl, rfl⟩ := bin64_spec hs; exact XS.land hA hx rfl hd' rfl hr
  case lor => obtain ⟨z, y, r, rfl, rfl, rfl, rfl⟩ := bin64_spec hs; exact XS.lor hA hx rfl hd' rfl hr
  case lxor => obtain ⟨z, y, r, rfl, rfl, rfl, rfl⟩ := bin64_spec hs; exact XS.lxor hA hx rfl hd' rfl hr
  case lshl => obtain ⟨z, y, r, rfl, rfl, rfl, rfl⟩ := sh64_spec hs; exact XS.lshl hA hx rfl hd' rfl hr
  case lshr => obtain ⟨z, y, r, rfl, rfl, rfl, rfl⟩ := sh64_spec hs; exact XS.lshr hA hx rfl hd' rfl hr
  case lushr => obtain ⟨z, y, r, rfl, rfl, rfl, rfl⟩ := sh64_spec hs; exact XS.lushr hA hx rfl hd' rfl hr
  case ineg => obtain ⟨z, r, rfl, rfl, rfl, rfl⟩ := un32_spec hs; exact XS.ineg hA hx rfl hd' rfl hr
  case lneg => obtain ⟨z, r, rfl, rfl, rfl, rfl⟩ := un64_spec hs; exact XS.lneg hA hx rfl hd' rfl hr
  case i2l => obtain ⟨z, r, rfl, rfl, rfl, rfl⟩ := un32_spec hs; exact XS.i2l hA hx rfl hd' rfl hr
  case l2i => obtain ⟨z, r, rfl, rfl, rfl, rfl⟩ := un64_spec hs; exact XS.l2i hA hx rfl hd' rfl hr
  case i2b => obtain ⟨z, r, rfl, rfl, rfl, rfl⟩ := un32_spec hs; exact XS.i2b hA hx rfl hd' rfl hr
  case i2c => obtain ⟨z, r, rfl, rfl, rfl, rfl⟩ := un32_spec hs; exact XS.i2c hA hx rfl hd' rfl hr
  case i2s => obtain ⟨z, r, rfl, rfl, rfl, rfl⟩ := un32_spec hs; exact XS.i2s hA hx rfl hd' rfl hr
  case idiv =>
    simp only [stp] at hs
    split at hs
    · cases hs; exact XS.idiv hA hx rfl hd' rfl hp.1 hr
    · cases hs
  case irem =>
    simp only [stp] at hs
    split at hs
    · cases hs; exact iremM X hx rfl hd' rfl hp.1 hr
    · cases hs
  case ldiv =>
    simp only [stp] at hs
    split at hs
    · cases hs; exact XS.ldiv hA hx rfl hd' rfl hp.1 hr
    · cases hs
  case lrem =>
    simp only [stp] at hs
    split at hs
    · rename_i y z r
      cases hs
      have q : z - z / y * y = z % y := lrem_mod z y
      exact XS.lrem hA hx rfl hd' rfl hp.1 (by rw [q]; exact hr)
    · cases hs
  case lcmp =>
    simp only [stp] at hs
    split at hs
    · cases hs; exact XS.lcmp hA hx rfl hd' rfl hr
    · cases hs
  case pop =>
    simp only [stp] at hs
    split at hs
    · split at hs
      · rename_i e; cases hs; exact XS.pop hA hx rfl hd' rfl e hr
      · cases hs
    · cases hs
  case dup =>
    simp only [stp] at hs
    split at hs
    · split at hs
      · rename_i e; cases hs; exact XS.dup hA hx rfl hd' rfl e hr
      · cases hs
    · cases hs
  case dup_x1 =>
    simp only [stp] at hs
    split at hs
    · split at hs
      · rename_i e; cases hs; exact XS.dupX1 hA hx rfl hd' rfl e.1 e.2 hr
      · cases hs
    · cases hs
  case dup2 =>
    simp only [stp] at hs
    split at hs
    · split at hs
      · rename_i e; cases hs; exact XT.dup2 hA hx rfl hd' rfl e.1 e.2 hr
      · cases hs
    · cases hs
  case iinc j c =>
    simp only [stp] at hs
    split at hs
    · rename_i e1
      split at hs
      · rename_i e2; cases hs; exact XS.iinc hA hx rfl hd' e1 e2 hr
      · cases hs
    · cases hs
  case goto o =>
    simp only [stp] at hs
    split at hs
    · rename_i e; cases hs; obtain ⟨e1, e2⟩ := jump_spec e; exact XS.goto hA hx rfl rfl hd' e1 e2 hr
    · cases hs
  case ifCond cd o =>
    simp only [stp] at hs
    split at hs
    · obtain ⟨rfl, rfl, rfl, ⟨rfl, e⟩ | ⟨rfl, rfl⟩⟩ := br_spec hs
      · obtain ⟨e1, e2⟩ := jump_spec e; exact XS.ifYes hA hx rfl rfl hd' rfl hp.1 e1 e2 hr
      · exact XS.ifNo hA hx rfl hd' rfl hp.1 hr
    · cases hs
  case if_icmp cd o =>
    simp only [stp] at hs
    split at hs
    · obtain ⟨rfl, rfl, rfl, ⟨rfl, e⟩ | ⟨rfl, rfl⟩⟩ := br_spec hs
      · obtain ⟨e1, e2⟩ := jump_spec e; exact XS.icmpYes hA hx rfl rfl hd' rfl hp.1 e1 e2 hr
      · exact XS.icmpNo hA hx rfl hd' rfl hp.1 hr
    · cases hs
  case ifnull o =>
    simp only [stp] at hs
    split at hs
    · split at hs
      · rename_i e0; subst e0
        obtain ⟨rfl, rfl, rfl, ⟨-, e⟩ | ⟨e, -⟩⟩ := br_spec hs
        · obtain ⟨e1, e2⟩ := jump_spec e; exact XS.ifnullYes hA hx rfl rfl hd' rfl e1 e2 hr
        · cases e
      · cases hs
    · split at hs
      · cases hs
      · rename_i e0
        obtain ⟨rfl, rfl, rfl, ⟨e, -⟩ | ⟨-, rfl⟩⟩ := br_spec hs
        · exact absurd e e0
        · exact XS.ifnullNo hA hx rfl hd' rfl hr
    · cases hs
  case ifnonnull o =>
    simp only [stp] at hs
    split at hs
    · split at hs
      · cases hs
      · rename_i e0
        obtain ⟨rfl, rfl, rfl, ⟨e, -⟩ | ⟨-, rfl⟩⟩ := br_spec hs
        · exact absurd e e0
        · exact XS.ifnonnullNo hA hx rfl hd' rfl hr
    · split at hs
      · rename_i e0; subst e0
        obtain ⟨rfl, rfl, rfl, ⟨-, e⟩ | ⟨e, -⟩⟩ := br_spec hs
        · obtain ⟨e1, e2⟩ := jump_spec e; exact XS.ifnonnullYes hA hx rfl rfl hd' rfl e1 e2 hr
        · cases e
      · cases hs
    · cases hs
  all_goals cases hs
theorem run_ok (ok : Ok x Z own nm bytes ml rt R) (hK : Konst Z a0 own K) : ∀ (B : List (Nat × Instr × Bool)) {pc : Nat} {L : Array Slot} {S : List Value} {ps : List Prop} {pc' : Nat} {L' : Array Slot} {S' : List Value}, decs bytes B = true → runL K B pc L S = some (ps, pc', L', S') → allP ps →
    ∀ {T : State} {locs : List Loc} {target : State}, Sd x T locs k n → Steps x.p.tables x.e x.below (T.setTop (mkF x.m pc' L' S')) target → Steps x.p.tables x.e x.below (T.setTop (mkF x.m pc L S)) target
  | [], pc, L, S, ps, pc', L', S', _, hr, _, T, locs, target, X, st => by cases hr; exact st
  | (q, i, b) :: r, pc, L, S, ps, pc', L', S', hd, hr, hp, T, locs, target, X, st => by
    simp only [decs, List.all_cons, Bool.and_eq_true, decide_eq_true_eq] at hd
    simp only [runL] at hr
    split at hr
    · rename_i e; subst e
      split at hr
      · cases hr
      · rename_i ps1 pc1 L1 S1 e1
        split at hr
        · cases hr
        · rename_i ps2 t e2
          cases hr
          obtain ⟨p1, p2⟩ := allP_append hp
          exact stp_ok ok hK hd.1 e1 p1 X (run_ok ok hK r hd.2 e2 p2 X st)
    · cases hr
theorem wp_run (ok : Ok x Z own nm bytes ml rt R) (hK : Konst Z a0 own K) {B : List (Nat × Instr × Bool)} (hd : decs bytes B = true) (hr : runL K B pc L S = some (ps, pc', L', S')) (hp : allP ps) (w : WP x n0 Q h k n pc' L' S') : WP x n0 Q h k n pc L S :=
  wp_steps (fun T locs target X _ st => run_ok ok hK B hd hr hp X st) w
end Run
end Jvm.OwnW
namespace Jvm.OwnW
open Sem ClassFile Op Lib Jvm.Free Jvm.Stand Jvm.LawKit Jvm.RoadKit Jvm.Free.XT
/-! ## arrays by length and content -/
def Ar (Z : State) (h : Heap) (a : Addr) (ty : FieldType) (n : Nat) (f : Nat → Value) : Prop := ∃ c : Cell, Arr Z h a c ty ∧ c.slots.size = n ∧ ∀ i, i < n → c.slots[i]? = some (f i)
theorem idx_of {j : Int32} {i : Nat} (hj : j.toInt = i) : j.toNatClampNeg = i ∧ ¬ j < 0 := by
  refine ⟨by simp only [Int32.toNatClampNeg, hj]; exact Int.toNat_natCast i, ?_⟩
  rw [Int32.lt_iff_toInt_lt, hj]; show ¬ (i : Int) < 0; omega
theorem idx_in' {j : Int32} {i n : Nat} (hj : j.toInt = i) (hi : i < n) : ¬ (j < 0 ∨ n ≤ j.toNatClampNeg) := by
  obtain ⟨q1, q2⟩ := idx_of hj
  rw [q1]; intro q; rcases q with q | q
  · exact q2 q
  · omega
section Facts
variable {Z : State} {h h' : Heap} {a b : Addr} {ty : FieldType} {n : Nat} {f g : Nat → Value} {sl : Nat} {v : Value} {ws : List Addr}
theorem Ar.lt (A : Ar Z h a ty n f) : a < h.size := by obtain ⟨c, A, -⟩ := A; exact A.lt
theorem Ar.ext (A : Ar Z h a ty n f) (E : Ext h h') : Ar Z h' a ty n f := by obtain ⟨c, A, r⟩ := A; exact ⟨c, A.ext E, r⟩
theorem Ar.other (A : Ar Z h b ty n f) (W : Wr h h' a sl v) (q : b ≠ a) : Ar Z h' b ty n f := by obtain ⟨c, A, r⟩ := A; exact ⟨c, A.other W q, r⟩
theorem Ar.keep (A : Ar Z h a ty n f) (K : Keep h h' ws) (q : a ∉ ws) : Ar Z h' a ty n f := by obtain ⟨c, A, r⟩ := A; exact ⟨c, ⟨K.2.1 a c A.1 q, A.2⟩, r⟩
theorem Ar.cong (A : Ar Z h a ty n f) (e : ∀ i, i < n → f i = g i) : Ar Z h a ty n g := by obtain ⟨c, A, s, r⟩ := A; exact ⟨c, A, s, fun i hi => by rw [← e i hi]; exact r i hi⟩
theorem Ar.same (A : Ar Z h a ty n f) (W : Wr h h' a sl v) (hs : sl < n) : Ar Z h' a ty n (fun i => if i = sl then v else f i) := by
  obtain ⟨c, A, s, r⟩ := A
  refine ⟨_, A.same W, by rw [sz_set]; exact s, fun i hi => ?_⟩
  show (c.setSlot sl v).slots[i]? = some (if i = sl then v else f i)
  by_cases e : i = sl
  · subst e; rw [if_pos rfl]; simp [Cell.setSlot, s, hs]
  · rw [if_neg e]; simp only [Cell.setSlot]; rw [Array.getElem?_setIfInBounds_ne (Ne.symm e)]; exact r i hi
theorem Ar.new {cA : ClassId} {z : Int32} (A : Arr Z h a (newA cA ty z) ty) (hz : z.toNatClampNeg = n) : Ar Z h a ty n (fun _ => defaultValue ty) := ⟨_, A, by rw [sz_new]; exact hz, fun i hi => by simp [newA, hz, hi]⟩
theorem Ar.toArv (A : Ar Z h a ty n f) (hn : n < 2 ^ 31) (hf : ∀ i, i < n → fits ty (f i) = true) (dv : Value) : ∃ k, Arv Z h a k ty (Int32.ofNat n) ((List.range n).map f) dv := by
  obtain ⟨c, A, s, r⟩ := A
  have e : (Int32.ofNat n).toInt = n := len_toInt hn
  obtain ⟨q1, q2⟩ := idx_of e
  have gd : ∀ i, i < n → ((List.range n).map f).getD i dv = f i := fun i hi => by simp [hi]
  exact ⟨c.cls, c, A, rfl, by rw [s, q1], q2, fun i hi => by rw [s] at hi; rw [gd i hi]; exact r i hi, fun i hi => by rw [s] at hi; rw [gd i hi]; exact hf i hi⟩
theorem Ar.ofArv {k : ClassId} {z : Int32} {vs : List Value} {dv : Value} (A : Arv Z h a k ty z vs dv) (hz : z.toNatClampNeg = n) : Ar Z h a ty n (fun i => vs.getD i dv) := by
  obtain ⟨c, A, -, s, -, H, -⟩ := A
  exact ⟨c, A, s.trans hz, fun i hi => H i (by rw [s, hz]; exact hi)⟩
theorem ne_ar {C : String} {a0 : Array Value} {k : Nat} (F : Exa Z h a C) (wi : (Jvm.Cond.instantiable C k).before a0 Z = true) (G : Ar Z h b ty n f) : a ≠ b := by obtain ⟨c, A, -⟩ := G; exact ne_arr F wi A
end Facts
section Rules
variable {x : Cx} {Z : State} {own nm : String} {bytes : ByteArray} {ml : Nat} {rt : Option FieldType} {R : Room} {n0 : Nat} {Q : Post} {h : Heap} {k n : Nat} {pc : Nat} {L : Array Slot} {S rest : List Value} {a0 : Array Value} {a : Addr} {v : Value} {len i : Nat} {f : Nat → Value} {j : Int32}
theorem wp_aI (ok : Ok x Z own nm bytes ml rt R) (A : Ar Z h a .int len f) (hj : j.toInt = i) (hi : i < len) (hv : f i = v) (hd : decode bytes pc = .ok (.iaload, 1)) (hw : WP x n0 Q h k n (pc + 1) L (v :: rest)) : WP x n0 Q h k n pc L (.int j :: .ref a :: rest) := by
  obtain ⟨c, A, s, r⟩ := A
  exact wp_ldI ok A (by rw [s]; exact idx_in' hj hi) (by rw [(idx_of hj).1, ← hv]; exact r i hi) hd hw
theorem wp_aJ (ok : Ok x Z own nm bytes ml rt R) (A : Ar Z h a .long len f) (hj : j.toInt = i) (hi : i < len) (hv : f i = v) (hd : decode bytes pc = .ok (.laload, 1)) (hw : WP x n0 Q h k n (pc + 1) L (v :: rest)) : WP x n0 Q h k n pc L (.int j :: .ref a :: rest) := by
  obtain ⟨c, A, s, r⟩ := A
  exact wp_ldJ ok A (by rw [s]; exact idx_in' hj hi) (by rw [(idx_of hj).1, ← hv]; exact r i hi) hd hw
theorem wp_aB (ok : Ok x Z own nm bytes ml rt R) (A : Ar Z h a .byte len f) (hj : j.toInt = i) (hi : i < len) (hv : f i = v) (hd : decode bytes pc = .ok (.baload, 1)) (hw : WP x n0 Q h k n (pc + 1) L (v :: rest)) : WP x n0 Q h k n pc L (.int j :: .ref a :: rest) := by
  obtain ⟨c, A, s, r⟩ := A
  exact wp_ldB ok A (by rw [s]; exact idx_in' hj hi) (by rw [(idx_of hj).1, ← hv]; exact r i hi) hd hw
theorem wp_aZ (ok : Ok x Z own nm bytes ml rt R) (A : Ar Z h a .boolean len f) (hj : j.toInt = i) (hi : i < len) (hv : f i = v) (hd : decode bytes pc = .ok (.baload, 1)) (hw : WP x n0 Q h k n (pc + 1) L (v :: rest)) : WP x n0 Q h k n pc L (.int j :: .ref a :: rest) := by
  obtain ⟨c, A, s, r⟩ := A
  exact wp_ldZ ok A (by rw [s]; exact idx_in' hj hi) (by rw [(idx_of hj).1, ← hv]; exact r i hi) hd hw
theorem wp_alen {ty : FieldType} (ok : Ok x Z own nm bytes ml rt R) (A : Ar Z h a ty len f) (hd : decode bytes pc = .ok (.arraylength, 1)) (hw : WP x n0 Q h k n (pc + 1) L (.int (Int32.ofNat len) :: rest)) : WP x n0 Q h k n pc L (.ref a :: rest) := by
  obtain ⟨c, A, s, r⟩ := A
  refine wp_len ok A hd ?_
  rw [s]; exact hw
theorem wp_sI {z : Int32} (ok : Ok x Z own nm bytes ml rt R) (A : Ar Z h a .int len f) (hj : j.toInt = i) (hi : i < len) (hd : decode bytes pc = .ok (.iastore, 1)) (ha : n0 ≤ a)
    (hw : ∀ h', Wr h h' a i (.int z) → Ar Z h' a .int len (fun q => if q = i then .int z else f q) → WP x n0 Q h' k n (pc + 1) L rest) : WP x n0 Q h k n pc L (.int z :: .int j :: .ref a :: rest) := by
  have A0 := A
  obtain ⟨c, A, s, r⟩ := A
  refine wp_stI ok A (by rw [s]; exact idx_in' hj hi) hd ha ?_
  rw [(idx_of hj).1]
  exact fun h' W => hw h' W (A0.same W hi)
theorem wp_sJ {z : Int64} (ok : Ok x Z own nm bytes ml rt R) (A : Ar Z h a .long len f) (hj : j.toInt = i) (hi : i < len) (hd : decode bytes pc = .ok (.lastore, 1)) (ha : n0 ≤ a)
    (hw : ∀ h', Wr h h' a i (.long z) → Ar Z h' a .long len (fun q => if q = i then .long z else f q) → WP x n0 Q h' k n (pc + 1) L rest) : WP x n0 Q h k n pc L (.long z :: .int j :: .ref a :: rest) := by
  have A0 := A
  obtain ⟨c, A, s, r⟩ := A
  refine wp_stJ ok A (by rw [s]; exact idx_in' hj hi) hd ha ?_
  rw [(idx_of hj).1]
  exact fun h' W => hw h' W (A0.same W hi)
theorem wp_sB {z : Int32} (ok : Ok x Z own nm bytes ml rt R) (A : Ar Z h a .byte len f) (hj : j.toInt = i) (hi : i < len) (hd : decode bytes pc = .ok (.bastore, 1)) (ha : n0 ≤ a)
    (hw : ∀ h', Wr h h' a i (.int (nar .byte z)) → Ar Z h' a .byte len (fun q => if q = i then .int (nar .byte z) else f q) → WP x n0 Q h' k n (pc + 1) L rest) : WP x n0 Q h k n pc L (.int z :: .int j :: .ref a :: rest) := fun T locs X e N => by
  have A0 := A
  obtain ⟨c, A, s, r⟩ := A
  obtain ⟨T', h', X', e', W, st⟩ := stB X ok.1 ok.2.2.2.2.2.1 e A (by rw [s]; exact idx_in' hj hi) (g := mkF x.m pc L (.int z :: .int j :: .ref a :: rest)) rfl rfl (hb ok.2.1 hd)
  have W' := W
  rw [(idx_of hj).1] at W'
  obtain ⟨s₂, o, h1, r⟩ := hw h' W' (A0.same W' hi) T' _ X' e' (Fr.snoc X' N ha)
  exact ⟨s₂, o, st _ h1, r⟩
theorem wp_sZ {z : Int32} (ok : Ok x Z own nm bytes ml rt R) (A : Ar Z h a .boolean len f) (hj : j.toInt = i) (hi : i < len) (hd : decode bytes pc = .ok (.bastore, 1)) (ha : n0 ≤ a)
    (hw : ∀ h', Wr h h' a i (.int (nar .boolean z)) → Ar Z h' a .boolean len (fun q => if q = i then .int (nar .boolean z) else f q) → WP x n0 Q h' k n (pc + 1) L rest) : WP x n0 Q h k n pc L (.int z :: .int j :: .ref a :: rest) := fun T locs X e N => by
  have A0 := A
  obtain ⟨c, A, s, r⟩ := A
  obtain ⟨T', h', X', e', W, st⟩ := stZ X ok.1 ok.2.2.2.2.2.1 e A (by rw [s]; exact idx_in' hj hi) (g := mkF x.m pc L (.int z :: .int j :: .ref a :: rest)) rfl rfl (hb ok.2.1 hd)
  have W' := W
  rw [(idx_of hj).1] at W'
  obtain ⟨s₂, o, h1, r⟩ := hw h' W' (A0.same W' hi) T' _ X' e' (Fr.snoc X' N ha)
  exact ⟨s₂, o, st _ h1, r⟩
theorem wp_private {y y0 : MethodName} {cb : ByteArray} {cm : Nat} {cr : Option FieldType} {rm : Room} {index : Nat} {argsL : List Value} {Q' : Post} {ps : List FieldType} {C C0 : String} (ok : Ok x Z own nm bytes ml rt R) (w1 : (Jvm.Cond.methodLink own index y).before a0 Z = true) (w5 : (Jvm.Cond.privateMethod y).before a0 Z = true) (w6 : (Jvm.Cond.selects C0 y0 y0).before a0 Z = true) (hy0 : y0.cls = y.cls) (w2 : (Jvm.Cond.instanceMethod y).before a0 Z = true) (w3 : (Jvm.Cond.initialized y.cls).before a0 Z = true) (w4 : (Jvm.Cond.code y cb cm cr).before a0 Z = true)
    (hy : y.cls ≠ "java/lang/invoke/MethodHandle" ∧ y.cls ≠ "java/lang/invoke/VarHandle") (E : Exa Z h a C) (Cn : Con x.l Z y cb cm cr rm (Value.ref a :: argsL).toArray h n0 Q' []) (pd : parseMethodDescriptor y.desc = some ⟨ps, cr⟩) (hlen : argsL.length = ps.length) (hst : S = argsL.reverse ++ .ref a :: rest) (hL : L.size = ml) (hd : decode bytes pc = .ok (.invokevirtual index, 3))
    (hf : rm.frames + 1 ≤ R.frames) (hl : (rest.map fun v => v.category).sum + (cm + 11) + rm.locals ≤ R.locals) (hk : k + rm.cells ≤ R.cells) (hn : n + rm.slots ≤ R.slots)
    (hw : ∀ v h', Q' v h' → WP x n0 Q h' (k + rm.cells) (n + rm.slots) (pc + 3) L (v.toList ++ rest)) : WP x n0 Q h k n pc L S := fun T locs X e N => by
  have hZ := ok.2.2.2.2.2.1
  have hR := ok.2.2.2.2.2.2.2.2
  obtain ⟨cell, q1, q2⟩ := E.cell
  have hpr : x.s.PrivateAt y := Cond.privateMethod_at (mvP hZ w5 (args := #[]))
  have hinst : (Jvm.Cond.instanceMethod y).before x.args x.s = true := mvT hZ w2
  have hsel : (Jvm.Cond.selects y.cls y y).before x.args x.s = true := by
    obtain ⟨c2, r2, m2, -, -, q3, -, kP, hkP, hkPi⟩ := Cond.selects_spec (mvT hZ w6 (args := x.args) (s := x.s))
    exact selects_self_of_private (hy0 ▸ findClass_of_methodNamed q3) hkP hkPi hpr hinst hy
  obtain ⟨v, _, ⟨T', L2, k2, n2⟩, -, X', ⟨Lc, hQ, l1, y1, z1⟩, st⟩ := X.privateBack ok.1 (y := y) ok.2.2.2.1 (mvT hZ w1) hinst hsel hpr (mvT hZ w4) hy (backOf (W := (rest.map fun v => v.category).sum) (Q := fun v h L => Q' v h ∧ Fr n0 L) Cn hZ w4 w3 (by rw [hR]; exact hf) (by rw [hR]; exact hl)) (g := mkF x.m pc L S) rfl (by show L.size = _; rw [ok.2.2.1]; exact hL) (Steps.refl _) (a := a) (cell := cell) (by rw [e]; exact q1) q2 (argsL := argsL) (rest := rest) (lenOf pd hlen) hst (by show 2 * 0 + _ ≤ _; omega) (hb ok.2.1 hd) (fun _ _ => ⟨rfl, e, by rw [hR]; exact hk, by rw [hR]; exact hn⟩)
  dsimp only [Pt.U, Pt.locs, Pt.cells, Pt.slots] at X' l1 y1 z1 st hQ
  subst l1 y1 z1
  obtain ⟨s₂, o, h1, r⟩ := hw v _ hQ.1 T' _ X' rfl (Fr.app N hQ.2)
  exact ⟨s₂, o, st.trans h1, r⟩
theorem wp_ldcF {b : UInt32} {index : Nat} (ok : Ok x Z own nm bytes ml rt R) (w : (Jvm.Cond.constantFloat own index b).before a0 Z = true) (hd : decode bytes pc = .ok (.ldc index, 2)) (hw : WP x n0 Q h k n (pc + 2) L (.float b :: S)) : WP x n0 Q h k n pc L S :=
  wp_steps (fun T locs target X e hr => X.ldcFloatC ok.1 ok.2.2.2.1 (mvT ok.2.2.2.2.2.1 w) (g := mkF x.m pc L S) rfl (hb ok.2.1 hd) target hr) hw
theorem wp_nA {aty : ArrayType} {z : Int32} {cap : Nat} (ok : Ok x Z own nm bytes ml rt R) (w : (Jvm.Cond.arrayClass (newarray.typeOf aty)).before a0 Z = true) (hd : decode bytes pc = .ok (.newarray aty, 2)) (hz : z.toInt = cap) (hb8 : cap * 8 ≤ 536870912) (hk : k + 1 ≤ R.cells) (hn : n + cap ≤ R.slots)
    (hw : ∀ h' a, a = h.size → Ext h h' → Ar Z h' a (newarray.typeOf aty) cap (fun _ => defaultValue (newarray.typeOf aty)) → WP x n0 Q h' (k + 1) (n + cap) (pc + 2) L (.ref a :: rest)) : WP x n0 Q h k n pc L (.int z :: rest) :=
  wp_newA ok w hd (idx_of hz).2 (Nat.le_of_eq (idx_of hz).1) hb8 hk hn fun h' a cA e E A => hw h' a e E (Ar.new A (idx_of hz).1)
end Rules
end Jvm.OwnW
namespace Jvm.OwnW
open Jvm.RoadKit
def lst (vs : List Value) : Nat → Value := fun i => vs.getD i .null
theorem lst_set {Z : State} {h : Heap} {a : Addr} {ty : ClassFile.FieldType} {n i : Nat} {v : Value} {vs vs' : List Value} (A : Ar Z h a ty n (fun q => if q = i then v else lst vs q)) (hn : vs.length = n) (hi : i < n) (e : vs.set i v = vs') : Ar Z h a ty n (lst vs') := A.cong fun q hq => by
  subst e
  by_cases p : q = i
  · subst p; rw [if_pos rfl]; simp [lst, hn, hi]
  · rw [if_neg p]; simp only [lst, List.getD_eq_getElem?_getD]; rw [List.getElem?_set_ne (Ne.symm p)]
theorem lst_new {Z : State} {h : Heap} {a : Addr} {ty : ClassFile.FieldType} {n : Nat} {v : Value} {vs : List Value} (A : Ar Z h a ty n (fun _ => v)) (e : List.replicate n v = vs) : Ar Z h a ty n (lst vs) := A.cong fun q hq => by
  subst e; simp [lst, hq]
end Jvm.OwnW
namespace Jvm.Pilot.@@N@@
open Jvm Jvm.ClassFile Sem Op Lib Jvm.Free Jvm.Stand Jvm.LawKit Jvm.RoadKit Bundle Jvm.OwnW Jvm.Free.XT Jvm.Pilot.@@N@@.Jvm.D
def hV (e : Int64) : Int := e.toInt32.toInt
def upd {α : Type} (f : Nat → α) (i : Nat) (z : α) : Nat → α := fun j => if j = i then z else f j
theorem upd_at {α : Type} (f : Nat → α) (i : Nat) (z : α) : upd f i z i = z := if_pos rfl
theorem upd_ne {α : Type} (f : Nat → α) {i j : Nat} (z : α) (h : j ≠ i) : upd f i z j = f j := if_neg h
/-- the positions P and the values U in the heap's places tell of each other; 'hold' says what is held -/
def INV (cap sz : Nat) (P U : Nat → Int) (hold : Nat → Bool) : Prop :=
  sz ≤ cap ∧ (∀ i, i < sz → 0 ≤ U i ∧ U i < cap ∧ P (U i).toNat = i) ∧ (∀ v, v < cap → (hold v = true ↔ 0 ≤ P v)) ∧ (∀ v, v < cap → 0 ≤ P v → P v < sz ∧ U (P v).toNat = v)
theorem INV.cong {cap sz : Nat} {P P' U U' : Nat → Int} {hold : Nat → Bool} (I : INV cap sz P U hold) (h1 : ∀ v, v < cap → P' v = P v) (h2 : ∀ i, i < sz → U' i = U i) : INV cap sz P' U' hold := by
  obtain ⟨a1, a2, a3, a4⟩ := I
  refine ⟨a1, fun i hi => ?_, fun v hv => ?_, fun v hv q => ?_⟩
  · rw [h2 i hi]
    obtain ⟨b1, b2, b3⟩ := a2 i hi
    exact ⟨b1, b2, by rw [h1 _ (by omega)]; exact b3⟩
  · rw [h1 v hv]; exact a3 v hv
  · rw [h1 v hv] at q ⊢
    obtain ⟨b1, b2⟩ := a4 v hv q
    exact ⟨b1, by rw [h2 _ (by omega)]; exact b2⟩
theorem INV_swap {cap sz : Nat} {P U : Nat → Int} {hold : Nat → Bool} {i p v0 w : Nat} (I : INV cap sz (upd P v0 (i : Int)) (upd U i (v0 : Int)) hold) (hi : i < sz) (hp : p < sz) (hpi : p ≠ i) (hv : v0 < cap) (hw : U p = (w : Int)) :
    w < cap ∧ w ≠ v0 ∧ INV cap sz (upd (upd P w (i : Int)) v0 (p : Int)) (upd (upd U i (w : Int)) p (v0 : Int)) hold := by
  obtain ⟨a1, a2, a3, a4⟩ := I
  obtain ⟨c1, c2, c3⟩ := a2 p hp
  rw [upd_ne _ _ hpi, hw] at c1 c2 c3
  have e1 : ((w : Int)).toNat = w := Int.toNat_natCast w
  rw [e1] at c3
  have wv : w ≠ v0 := fun q => by rw [q, upd_at] at c3; omega
  rw [upd_ne _ _ wv] at c3
  have wc : w < cap := by omega
  refine ⟨wc, wv, a1, fun j hj => ?_, fun v hvc => ?_, fun v hvc q => ?_⟩
  · by_cases jp : j = p
    · subst jp; rw [upd_at, Int.toNat_natCast, upd_at]; exact ⟨by omega, by omega, rfl⟩
    · rw [upd_ne _ _ jp]
      by_cases ji : j = i
      · subst ji; rw [upd_at, e1, upd_ne _ _ wv, upd_at]; exact ⟨by omega, by omega, rfl⟩
      · rw [upd_ne _ _ ji]
        obtain ⟨d1, d2, d3⟩ := a2 j hj
        rw [upd_ne _ _ ji] at d1 d2 d3
        have u1 : (U j).toNat ≠ v0 := fun q => by rw [q, upd_at] at d3; omega
        rw [upd_ne _ _ u1] at d3
        have u2 : (U j).toNat ≠ w := fun q => by rw [q, c3] at d3; omega
        rw [upd_ne _ _ u1, upd_ne _ _ u2]; exact ⟨d1, d2, d3⟩
  · by_cases q0 : v = v0
    · subst q0; rw [upd_at]
      have := (a3 v hvc); rw [upd_at] at this; constructor
      · intro _; omega
      · intro _; exact this.mpr (by omega)
    · rw [upd_ne _ _ q0]
      have t := a3 v hvc; rw [upd_ne _ _ q0] at t
      by_cases q1 : v = w
      · subst q1; rw [upd_at]; constructor
        · intro _; omega
        · intro _; exact t.mpr (by rw [c3]; omega)
      · rw [upd_ne _ _ q1]; exact t
  · by_cases q0 : v = v0
    · subst q0; rw [upd_at, Int.toNat_natCast, upd_at]; exact ⟨by omega, rfl⟩
    · rw [upd_ne _ _ q0] at q ⊢
      by_cases q1 : v = w
      · subst q1; rw [upd_at, Int.toNat_natCast, upd_ne _ _ (Ne.symm hpi), upd_at]; exact ⟨by omega, rfl⟩
      · rw [upd_ne _ _ q1] at q ⊢
        have t := a4 v hvc; rw [upd_ne _ _ q0] at t
        obtain ⟨t1, t2⟩ := t q
        have r1 : (P v).toNat ≠ i := fun z => by rw [z, upd_at] at t2; omega
        rw [upd_ne _ _ r1] at t2
        have r2 : (P v).toNat ≠ p := fun z => by rw [z, hw] at t2; omega
        rw [upd_ne _ _ r2, upd_ne _ _ r1]; exact ⟨t1, t2⟩
/-- a value comes: at the place behind the last -/
theorem INV_add {cap sz : Nat} {P U : Nat → Int} {hold : Nat → Bool} {v0 : Nat} (I : INV cap sz P U hold) (hs : sz < cap) (hv : v0 < cap) (hn : hold v0 = false) : INV cap (sz + 1) (upd P v0 (sz : Int)) (upd U sz (v0 : Int)) (upd hold v0 true) := by
  obtain ⟨a1, a2, a3, a4⟩ := I
  have n0 : ¬ 0 ≤ P v0 := fun q => by have := (a3 v0 hv).mpr q; rw [hn] at this; cases this
  refine ⟨by omega, fun j hj => ?_, fun v hvc => ?_, fun v hvc q => ?_⟩
  · by_cases js : j = sz
    · subst js; rw [upd_at, Int.toNat_natCast, upd_at]; exact ⟨by omega, by omega, rfl⟩
    · rw [upd_ne _ _ js]
      obtain ⟨d1, d2, d3⟩ := a2 j (by omega)
      have u1 : (U j).toNat ≠ v0 := fun q => by rw [q] at d3; omega
      rw [upd_ne _ _ u1]; exact ⟨d1, d2, d3⟩
  · by_cases q0 : v = v0
    · subst q0; rw [upd_at, upd_at]; constructor
      · intro _; omega
      · intro _; rfl
    · rw [upd_ne _ _ q0, upd_ne _ _ q0]; exact a3 v hvc
  · by_cases q0 : v = v0
    · subst q0; rw [upd_at, Int.toNat_natCast, upd_at]; exact ⟨by omega, rfl⟩
    · rw [upd_ne _ _ q0] at q ⊢
      obtain ⟨t1, t2⟩ := a4 v hvc q
      rw [upd_ne _ _ (show (P v).toNat ≠ sz by omega)]; exact ⟨by omega, t2⟩
/-- a value goes: the last one comes into its place (or it was the last) -/
theorem INV_rem {cap sz : Nat} {P U : Nat → Int} {hold : Nat → Bool} {v0 : Nat} (I : INV cap (sz + 1) P U hold) (hv : v0 < cap) (hh : hold v0 = true) :
    (P v0 = sz → INV cap sz (upd P v0 (-1)) U (upd hold v0 false)) ∧
    (P v0 < sz → ∃ w : Nat, U sz = (w : Int) ∧ w < cap ∧ w ≠ v0 ∧ INV cap sz (upd (upd P v0 (-1)) w (P v0)) (upd U (P v0).toNat (w : Int)) (upd hold v0 false)) := by
  obtain ⟨a1, a2, a3, a4⟩ := I
  have p0 : 0 ≤ P v0 := (a3 v0 hv).mp hh
  obtain ⟨p1, p2⟩ := a4 v0 hv p0
  refine ⟨fun e => ⟨by omega, fun j hj => ?_, fun v hvc => ?_, fun v hvc q => ?_⟩, fun e => ?_⟩
  · obtain ⟨d1, d2, d3⟩ := a2 j (by omega)
    have u1 : (U j).toNat ≠ v0 := fun q => by rw [q] at d3; omega
    rw [upd_ne _ _ u1]; exact ⟨d1, d2, d3⟩
  · by_cases q0 : v = v0
    · subst q0; rw [upd_at, upd_at]; constructor
      · intro q; cases q
      · intro q; omega
    · rw [upd_ne _ _ q0, upd_ne _ _ q0]; exact a3 v hvc
  · by_cases q0 : v = v0
    · subst q0; rw [upd_at] at q; omega
    · rw [upd_ne _ _ q0] at q ⊢
      obtain ⟨t1, t2⟩ := a4 v hvc q
      have : P v ≠ sz := fun z => by
        have z2 : (P v).toNat = (P v0).toNat := by omega
        rw [z2, p2] at t2; omega
      exact ⟨by omega, t2⟩
  · obtain ⟨d1, d2, d3⟩ := a2 sz (by omega)
    obtain ⟨w, hw⟩ : ∃ w : Nat, U sz = (w : Int) := ⟨(U sz).toNat, by omega⟩
    rw [hw, Int.toNat_natCast] at d3
    have wv : w ≠ v0 := fun z => by rw [z] at d3; omega
    have wc : w < cap := by omega
    refine ⟨w, hw, wc, wv, by omega, fun j hj => ?_, fun v hvc => ?_, fun v hvc q => ?_⟩
    · by_cases jp : j = (P v0).toNat
      · rw [jp, upd_at, Int.toNat_natCast, upd_at]; exact ⟨by omega, by omega, by omega⟩
      · rw [upd_ne _ _ jp]
        obtain ⟨b1, b2, b3⟩ := a2 j (by omega)
        have u1 : (U j).toNat ≠ v0 := fun z => by rw [z] at b3; omega
        have u2 : (U j).toNat ≠ w := fun z => by rw [z] at b3; omega
        rw [upd_ne _ _ u2, upd_ne _ _ u1]; exact ⟨b1, b2, b3⟩
    · by_cases q1 : v = w
      · subst q1; rw [upd_at, upd_ne _ _ wv]; have t := a3 v hvc; constructor
        · intro _; exact p0
        · intro _; exact t.mpr (by omega)
      · rw [upd_ne _ _ q1]
        by_cases q0 : v = v0
        · subst q0; rw [upd_at, upd_at]; constructor
          · intro z; cases z
          · intro z; omega
        · rw [upd_ne _ _ q0, upd_ne _ _ q0]; exact a3 v hvc
    · by_cases q1 : v = w
      · subst q1; rw [upd_at, upd_at]; exact ⟨e, rfl⟩
      · rw [upd_ne _ _ q1] at q ⊢
        by_cases q0 : v = v0
        · subst q0; rw [upd_at] at q; omega
        · rw [upd_ne _ _ q0] at q ⊢
          obtain ⟨t1, t2⟩ := a4 v hvc q
          have r1 : (P v).toNat ≠ (P v0).toNat := fun z => by rw [z, p2] at t2; omega
          have r2 : P v ≠ sz := fun z => by
            have z2 : (P v).toNat = sz := by omega
            rw [z2, hw] at t2; omega
          rw [upd_ne _ _ r1]; exact ⟨by omega, t2⟩

def HP (Z : State) (h : Heap) (a hd pd : Addr) (cap sz : Nat) (P : Nat → Int32) (H : Nat → Int64) : Prop :=
  Exa Z h a "com/example/fenpei/fenpei/IntHeap" ∧ Fld Z h a "com/example/fenpei/fenpei/IntHeap" "heap" "[J" (.ref hd) ∧ Fld Z h a "com/example/fenpei/fenpei/IntHeap" "position" "[I" (.ref pd) ∧ Fld Z h a "com/example/fenpei/fenpei/IntHeap" "size" "I" (.int (Int32.ofNat sz)) ∧ Ar Z h hd .long cap (fun i => .long (H i)) ∧ Ar Z h pd .int cap (fun i => .int (P i)) ∧ hd ≠ pd
def iP (P : Nat → Int32) : Nat → Int := fun i => (P i).toInt
def iH (H : Nat → Int64) : Nat → Int := fun i => hV (H i)
theorem iP_upd (P : Nat → Int32) (i : Nat) (z : Int32) {w : Int} (e : z.toInt = w) : iP (upd P i z) = upd (iP P) i w := funext fun j => by
  unfold iP; by_cases q : j = i
  · rw [q, upd_at, upd_at]; exact e
  · rw [upd_ne _ _ q, upd_ne _ _ q]
theorem iH_upd (H : Nat → Int64) (i : Nat) (z : Int64) {w : Int} (e : hV z = w) : iH (upd H i z) = upd (iH H) i w := funext fun j => by
  unfold iH; by_cases q : j = i
  · rw [q, upd_at, upd_at]; exact e
  · rw [upd_ne _ _ q, upd_ne _ _ q]
theorem Ar_uJ {Z : State} {h : Heap} {a : Addr} {n i : Nat} {H : Nat → Int64} {z : Int64} (A : Ar Z h a .long n (fun q => if q = i then .long z else .long (H q))) : Ar Z h a .long n (fun q => .long (upd H i z q)) := A.cong fun q _ => by
  by_cases e : q = i
  · show (if q = i then _ else _) = Value.long (upd H i z q); rw [if_pos e, e, upd_at]
  · show (if q = i then _ else _) = Value.long (upd H i z q); rw [if_neg e, upd_ne _ _ e]
theorem Ar_uI {Z : State} {h : Heap} {a : Addr} {n i : Nat} {H : Nat → Int32} {z : Int32} (A : Ar Z h a .int n (fun q => if q = i then .int z else .int (H q))) : Ar Z h a .int n (fun q => .int (upd H i z q)) := A.cong fun q _ => by
  by_cases e : q = i
  · show (if q = i then _ else _) = Value.int (upd H i z q); rw [if_pos e, e, upd_at]
  · show (if q = i then _ else _) = Value.int (upd H i z q); rw [if_neg e, upd_ne _ _ e]
theorem own_nat {k : Nat} (h : k ≤ 32) : (Int32.ofNat k).toInt = (k : Int) := len_toInt (by omega)
theorem own_lt {x y : Int32} {i j : Nat} (h : x < y) (hx : x.toInt = (i : Int)) (hy : y.toInt = (j : Int)) : i < j := by rw [Int32.lt_iff_toInt_lt, hx, hy] at h; omega
theorem own_nlt {x y : Int32} {i j : Nat} (h : ¬ x < y) (hx : x.toInt = (i : Int)) (hy : y.toInt = (j : Int)) : j ≤ i := by rw [Int32.lt_iff_toInt_lt, hx, hy] at h; omega
theorem own_pos {x : Int32} {i : Nat} (h : (0 : Int32) < x) (hx : x.toInt = (i : Int)) : 0 < i := by rw [Int32.lt_iff_toInt_lt, hx] at h; exact Int.ofNat_lt.mp h
theorem own_is {x : Int32} {i : Nat} (hx : x.toInt = (i : Int)) (hi : i ≤ 32) : x = Int32.ofNat i := by rw [← Int32.toInt_inj, hx, own_nat hi]
theorem own_par {x : Int32} {i : Nat} (hx : x.toInt = (i : Int)) (h0 : 0 < i) (hi : i < 4) : ((x - (1 : Int32)) / (2 : Int32)).toInt = (((i - 1) / 2 : Nat) : Int) := by
  rw [own_is hx (by omega)]
  match i, h0, hi with
  | 1, _, _ => decide
  | 2, _, _ => decide
  | 3, _, _ => decide
theorem own_two {x : Int32} {i : Nat} (hx : x.toInt = (i : Int)) (hi : i < 4) : ((2 : Int32) * x + (1 : Int32)).toInt = ((2 * i + 1 : Nat) : Int) := by
  rw [own_is hx (by omega)]
  match i, hi with
  | 0, _ => decide
  | 1, _ => decide
  | 2, _ => decide
  | 3, _ => decide
theorem own_suc {x : Int32} {i : Nat} (hx : x.toInt = (i : Int)) (hi : i < 32) : (x + (1 : Int32)).toInt = ((i + 1 : Nat) : Int) := by
  have o1 : (1 : Int32).toInt = 1 := rfl
  rw [x_iadd (by rw [hx, o1]; omega) (by rw [hx, o1]; omega), hx, o1]; omega
theorem own_same {P : Nat → Int32} {v0 i0 : Nat} (p3 : (P v0).toInt = (i0 : Int)) (v : Nat) : upd (iP P) v0 (i0 : Int) v = iP P v := by
  by_cases q : v = v0
  · rw [q, upd_at]; exact p3.symm
  · rw [upd_ne _ _ q]
theorem own_at {cap sz i p v0 : Nat} {Q : Nat → Int} {H : Nat → Int64} {hold : Nat → Bool} (I : INV cap sz Q (upd (iH H) i (v0 : Int)) hold) (hp : p < sz) (hpi : p ≠ i) : ∃ w : Nat, hV (H p) = (w : Int) := by
  have q := (I.2.1 p hp).1
  rw [upd_ne _ _ hpi] at q
  exact ⟨(hV (H p)).toNat, (Int.toNat_of_nonneg q).symm⟩
theorem own_ent (v u : Int32) : hV ((u.toInt64 <<< ((32 : Int32) &&& 63).toInt64) ||| v.toInt64) = v.toInt := by
  have e1 : ((32 : Int32) &&& 63).toInt64 = (32 : Int64) := by decide
  rw [e1]; unfold hV
  congr 1
  rw [Int64.toInt32_or, Int32.toInt32_toInt64]
  have z : (u.toInt64 <<< (32 : Int64)).toInt32 = 0 := by
    rw [← Int32.toBitVec_inj]
    apply BitVec.eq_of_getLsbD_eq
    intro i hi
    have h2 : i < 64 := by omega
    simp [Int64.toBitVec_shiftLeft, BitVec.getElem_signExtend, hi, h2]
  rw [z, Int32.zero_or]
theorem own_sucN (n : Nat) : Int32.ofNat n + (1 : Int32) = Int32.ofNat (n + 1) := by
  rw [Int32.ofNat_add]; rfl
theorem own_pred (n : Nat) : Int32.ofNat (n + 1) - (1 : Int32) = Int32.ofNat n := by
  rw [← own_sucN, Int32.add_sub_cancel]
theorem own_ini (cap : Nat) (U : Nat → Int) : INV cap 0 (iP (fun _ => (-1 : Int32))) U (fun _ => false) := by
  have e : ∀ v, iP (fun _ => (-1 : Int32)) v = -1 := fun v => by show (-1 : Int32).toInt = -1; decide
  refine ⟨Nat.zero_le _, fun i hi => absurd hi (Nat.not_lt_zero i), fun v hv => ?_, fun v hv q => ?_⟩
  · rw [e]; constructor
    · intro q; cases q
    · intro q; omega
  · rw [e] at q; omega
theorem own_again {cap sz w : Nat} {P : Nat → Int32} {U : Nat → Int} {hold : Nat → Bool} (I : INV cap sz (iP P) U hold) (hw : w < cap) (hh : hold w = true) : ∃ i1 : Nat, i1 < sz ∧ (P w).toInt = (i1 : Int) ∧ INV cap sz (iP P) (upd U i1 (w : Int)) hold := by
  have p0 := (I.2.2.1 w hw).mp hh
  obtain ⟨p1, p2⟩ := I.2.2.2 w hw p0
  refine ⟨(iP P w).toNat, by omega, (Int.toNat_of_nonneg p0).symm, I.cong (fun _ _ => rfl) (fun i hi => ?_)⟩
  by_cases q : i = (iP P w).toNat
  · rw [q, upd_at, p2]
  · rw [upd_ne _ _ q]

def pk (b0 b1 b2 b3 : Int32) : Nat → Int32 := fun j => match j with | 0 => b0 | 1 => b1 | 2 => b2 | _ => b3
def HQ (b0 b1 b2 b3 : Int32) (k sz : Nat) (hold : Nat → Bool) : Prop := sz ≤ k ∧ (∀ j, j < k → hold j = decide (pk b0 b1 b2 b3 j ≠ 0)) ∧ (∀ j, k ≤ j → hold j = false)
theorem HQ_add {b0 b1 b2 b3 : Int32} {k sz : Nat} {hold : Nat → Bool} (q : HQ b0 b1 b2 b3 k sz hold) (n : ¬ pk b0 b1 b2 b3 k = 0) : HQ b0 b1 b2 b3 (k + 1) (sz + 1) (upd hold k true) := by
  refine ⟨Nat.succ_le_succ q.1, fun j hj => ?_, fun j hj => ?_⟩
  · by_cases e : j = k
    · rw [e, upd_at]; exact (decide_eq_true n).symm
    · rw [upd_ne _ _ e]; exact q.2.1 j (by omega)
  · rw [upd_ne _ _ (by omega)]; exact q.2.2 j (by omega)
theorem HQ_no {b0 b1 b2 b3 : Int32} {k sz : Nat} {hold : Nat → Bool} (q : HQ b0 b1 b2 b3 k sz hold) (n : pk b0 b1 b2 b3 k = 0) : HQ b0 b1 b2 b3 (k + 1) sz hold := by
  refine ⟨Nat.le_succ_of_le q.1, fun j hj => ?_, fun j hj => q.2.2 j (by omega)⟩
  by_cases e : j = k
  · rw [e, q.2.2 k (Nat.le_refl k)]; exact (decide_eq_false (fun w => w n)).symm
  · exact q.2.1 j (by omega)
def HR (b0 b1 b2 b3 rm : Int32) (m : Nat) (hold : Nat → Bool) : Prop := ∀ j, j < 4 → hold j = decide (pk b0 b1 b2 b3 j ≠ 0 ∧ ¬ (rm ≠ 0 ∧ j = m))
theorem HR_no {b0 b1 b2 b3 rm : Int32} {sz m : Nat} {hold : Nat → Bool} (q : HQ b0 b1 b2 b3 4 sz hold) (n : rm = 0) : HR b0 b1 b2 b3 rm m hold := fun j hj => by
  rw [q.2.1 j hj]; exact decide_eq_decide.mpr ⟨fun w => ⟨w, fun u => u.1 n⟩, fun w => w.1⟩
theorem HR_rem {b0 b1 b2 b3 rm : Int32} {sz m : Nat} {hold : Nat → Bool} (q : HQ b0 b1 b2 b3 4 sz hold) (n : ¬ rm = 0) : HR b0 b1 b2 b3 rm m (upd hold m false) := fun j hj => by
  by_cases e : j = m
  · rw [e, upd_at]; exact (decide_eq_false (fun w => w.2 ⟨n, rfl⟩)).symm
  · rw [upd_ne _ _ e, q.2.1 j hj]; exact decide_eq_decide.mpr ⟨fun w => ⟨w, fun u => e u.2⟩, fun w => w.1⟩
theorem own_mask3 (x : Int32) : ∃ m : Nat, (x &&& (3 : Int32)).toInt = (m : Int) ∧ m < 4 := by
  have m := c_mask x 3 2 (by decide) (by decide)
  exact ⟨(x &&& (3 : Int32)).toInt.toNat, by rw [m]; omega, by rw [m]; omega⟩
theorem own_sel {b0 b1 b2 b3 nn : Int32} {m : Nat} (hm : nn.toInt = (m : Int)) (h4 : m < 4) : (if nn = 0 then b0 else if nn = 1 then b1 else if nn = 2 then b2 else b3) = pk b0 b1 b2 b3 m := by
  rw [own_is hm (by omega)]
  match m, h4 with
  | 0, _ => rfl
  | 1, _ => rfl
  | 2, _ => rfl
  | 3, _ => rfl
theorem own_fin {P : Nat → Int32} {U : Nat → Int} {hold : Nat → Bool} {sz m : Nat} {b0 b1 b2 b3 rm nn z s : Int32} (j : Nat) (hj : j < 4) (I : INV 4 sz (iP P) U hold) (R : HR b0 b1 b2 b3 rm m hold) (hm : nn.toInt = (m : Int)) (h4 : m < 4) (hz : z = if P j < 0 then 0 else 1) (hs : s = if pk b0 b1 b2 b3 j = 0 then 0 else if rm = 0 then 1 else if nn = Int32.ofNat j then 0 else 1) : z = s := by
  have i1 := I.2.2.1 j hj
  rw [R j hj, decide_eq_true_iff] at i1
  have e : nn = Int32.ofNat j ↔ j = m := by
    rw [← Int32.toInt_inj, hm, own_nat (by omega)]; omega
  have pn : P j < 0 ↔ ¬ 0 ≤ iP P j := by
    rw [Int32.lt_iff_toInt_lt]; show (P j).toInt < 0 ↔ ¬ 0 ≤ (P j).toInt; omega
  rw [hz, hs]
  by_cases c1 : pk b0 b1 b2 b3 j = 0
  · rw [if_pos c1, if_pos (pn.mpr (fun w => (i1.mpr w).1 c1))]
  · rw [if_neg c1]
    by_cases c2 : rm = 0
    · rw [if_pos c2, if_neg (fun w => pn.mp w (i1.mp ⟨c1, fun u => u.1 c2⟩))]
    · rw [if_neg c2]
      by_cases c3 : nn = Int32.ofNat j
      · rw [if_pos c3, if_pos (pn.mpr (fun w => (i1.mpr w).2 ⟨c2, e.mp c3⟩))]
      · rw [if_neg c3, if_neg (fun w => pn.mp w (i1.mp ⟨c1, fun u => c3 (e.mpr u.2)⟩))]

def k_up : List (Nat × Value) := []
def Q_up (Z : State) (a : Addr) (e : Int64) (hd : Addr) (pd : Addr) (cap : Nat) (sz : Nat) (P : Nat → Int32) (H : Nat → Int64) (hold : Nat → Bool) (v0 : Nat) (i0 : Nat) (h0 : Heap) : Post := fun v h => v = none ∧ Keep h0 h [hd, pd] ∧ ∃ (P2 : Nat → Int32) (H2 : Nat → Int64), HP Z h a hd pd cap sz P2 H2 ∧ INV cap sz (iP P2) (iH H2) hold
theorem pn_up : plainFor (⟨"com/example/fenpei/fenpei/IntHeap", "up", "(J)V"⟩ : MethodName) = true := by first | (refine plainFor_of_name ?_; simp [plainName, overriddenIn]; done) | decide +kernel
set_option maxRecDepth 65536 in
set_option maxHeartbeats 40000000 in
theorem c_up (l : Launch) (Z : State) (a0 : Array Value) (hw : ∀ d ∈ tables_1, d.before a0 Z = true) (a : Addr) (e : Int64) (hd : Addr) (pd : Addr) (cap : Nat) (sz : Nat) (P : Nat → Int32) (H : Nat → Int64) (hold : Nat → Bool) (v0 : Nat) (i0 : Nat) (h0 : Heap) (n0 : Nat) (Z0 : n0 ≤ h0.size) (g_a : n0 ≤ a) (g_hd : n0 ≤ hd) (g_pd : n0 ≤ pd) (HB : HP Z h0 a hd pd cap sz P H) (hI0 : INV cap sz (iP P) (upd (iH H) i0 (v0 : Int)) hold) (p2 : i0 < sz) (p3 : (P v0).toInt = (i0 : Int)) (p4 : hV e = (v0 : Int)) (p5 : v0 < cap) (p6 : cap ≤ 4) :
    Con l Z (⟨"com/example/fenpei/fenpei/IntHeap", "up", "(J)V"⟩ : MethodName) prog_20_method_9_code 5 (none : Option FieldType) ({ frames := 0, cells := 0, slots := 0, locals := 0 } : Room) #[(.ref a), .long e] h0 n0 (Q_up Z a e hd pd cap sz P H hold v0 i0 h0) [] := by
  refine con_of_wp pn_up (L0 := #[.val ((.ref a)), .val (.long e), .second, .unset, .unset]) (fun m => by first | (simp [entryFrame, mkF, argsToLocals, Value.category]; done) | rfl) (fun X hl ok => ?_)
  subst hl
  have hK : Konst Z a0 "com/example/fenpei/fenpei/IntHeap" k_up := trivial
  have HB0 := HB
  have itmp := HB0
  obtain ⟨iE, iF1, iF2, iF3, iA1, iA2, iN⟩ := itmp
  have inhd : a ≠ hd := ne_ar iE (wd hw 1 rfl) iA1
  have inpd : a ≠ pd := ne_ar iE (wd hw 1 rfl) iA2
  have K0 : Keep h0 h0 [hd, pd] := Keep.refl _ _
  refine wp_run ok hK (B := [(0, .aload_n 0, false)]) (by decide +kernel) (ps := []) (pc' := 1) (L' := #[.val ((.ref a)), .val (.long e), .second, .unset, .unset]) (S' := [(.ref a)]) rfl trivial ?_
  refine wp_getF ok (wd hw 13 rfl) iF2 (by decide +kernel) ?_
  refine wp_run ok hK (B := [(4, .lload_n 1, false), (5, .l2i, false)]) (by decide +kernel) (ps := []) (pc' := 6) (L' := #[.val ((.ref a)), .val (.long e), .second, .unset, .unset]) (S' := [.int (e.toInt32), (.ref pd)]) rfl trivial ?_
  refine wp_aI ok iA2 (i := v0) p4 p5 (v := .int (P v0)) rfl (by decide +kernel) ?_
  refine wp_run ok hK (B := [(7, .istore_n 3, false)]) (by decide +kernel) (ps := []) (pc' := 8) (L' := #[.val ((.ref a)), .val (.long e), .second, .val (.int (P v0)), .unset]) (S' := []) rfl trivial ?_
  have loop : ∀ (d : Nat) (h1 : Heap) (PL : Nat → Int32) (HL : Nat → Int64) (iv : Int32) (i : Nat) (sl : Slot), (sl = .unset ∨ ∃ z, sl = .val (.int z)) → Keep h0 h1 [hd, pd] → HP Z h1 a hd pd cap sz PL HL → INV cap sz (upd (iP PL) v0 (i : Int)) (upd (iH HL) i (v0 : Int)) hold → iv.toInt = (i : Int) → i < sz → n0 ≤ h1.size → i = d → WP X n0 (Q_up Z a e hd pd cap sz P H hold v0 i0 h0) h1 0 0 8 #[.val (.ref a), .val (.long e), .second, .val (.int iv), sl] [] := by
    clear hI0 HB
    intro d
    induction d using Nat.strongRecOn with
    | _ d ih =>
    intro h1 PL HL iv i sl hsl KL HB hI hiv his ZL hd0
    have hcap := hI.1
    have ltmp := HB
    obtain ⟨lE, lF1, lF2, lF3, lA1, lA2, lN⟩ := ltmp
    have lnhd : a ≠ hd := ne_ar lE (wd hw 1 rfl) lA1
    have lnpd : a ≠ pd := ne_ar lE (wd hw 1 rfl) lA2
    rcases hsl with rfl | ⟨z, rfl⟩
    · refine wp_run ok hK (B := [(8, .iload_n 3, false)]) (by decide +kernel) (ps := []) (pc' := 9) (L' := #[.val ((.ref a)), .val (.long e), .second, .val (.int iv), .unset]) (S' := [.int iv]) rfl trivial ?_
      by_cases hc9 : (0 : Int32) < iv
      · refine wp_run ok hK (B := [(9, .ifCond .le 57, false)]) (by decide +kernel) (ps := [Op.ifCond.holds .le iv = false]) (pc' := 12) (L' := #[.val ((.ref a)), .val (.long e), .second, .val (.int iv), .unset]) (S' := []) rfl ⟨(XT.i0_le_f hc9), trivial⟩ ?_
        refine wp_run ok hK (B := [(12, .aload_n 0, false)]) (by decide +kernel) (ps := []) (pc' := 13) (L' := #[.val ((.ref a)), .val (.long e), .second, .val (.int iv), .unset]) (S' := [(.ref a)]) rfl trivial ?_
        refine wp_getF ok (wd hw 10 rfl) lF1 (by decide +kernel) ?_
        refine wp_run ok hK (B := [(16, .iload_n 3, false), (17, .iconst 1, false), (18, .isub, false), (19, .iconst 2, false), (20, .idiv, false)]) (by decide +kernel) (ps := [(2 : Int32) ≠ 0]) (pc' := 21) (L' := #[.val ((.ref a)), .val (.long e), .second, .val (.int iv), .unset]) (S' := [.int ((iv - (1 : Int32)) / (2 : Int32)), (.ref hd)]) rfl ⟨(by decide), trivial⟩ ?_
        have hpos := own_pos hc9 hiv
        have k_i := own_par hiv hpos (by omega)
        have k_s : ((i - 1) / 2) < sz := by omega
        have k_n : ((i - 1) / 2) ≠ i := by omega
        obtain ⟨wk, hwk⟩ := own_at hI k_s k_n
        have k_w := (INV_swap hI his k_s k_n p5 hwk).1
        refine wp_aJ ok lA1 (i := ((i - 1) / 2)) k_i (by omega) (v := .long (HL ((i - 1) / 2))) rfl (by decide +kernel) ?_
        refine wp_run ok hK (B := [(22, .lload_n 1, false), (23, .lcmp, false)]) (by decide +kernel) (ps := []) (pc' := 24) (L' := #[.val ((.ref a)), .val (.long e), .second, .val (.int iv), .unset]) (S' := [.int (cmpL (HL ((i - 1) / 2)) e)]) rfl trivial ?_
        by_cases hc24 : e < (HL ((i - 1) / 2))
        · refine wp_run ok hK (B := [(24, .ifCond .le 42, false)]) (by decide +kernel) (ps := [Op.ifCond.holds .le (cmpL (HL ((i - 1) / 2)) e) = false]) (pc' := 27) (L' := #[.val ((.ref a)), .val (.long e), .second, .val (.int iv), .unset]) (S' := []) rfl ⟨(XT.ll_le_f hc24), trivial⟩ ?_
          refine wp_run ok hK (B := [(27, .iload_n 3, false), (28, .iconst 1, false), (29, .isub, false), (30, .iconst 2, false), (31, .idiv, false), (32, .istore 4, false), (34, .aload_n 0, false)]) (by decide +kernel) (ps := [(2 : Int32) ≠ 0]) (pc' := 35) (L' := #[.val ((.ref a)), .val (.long e), .second, .val (.int iv), .val (.int ((iv - (1 : Int32)) / (2 : Int32)))]) (S' := [(.ref a)]) rfl ⟨(by decide), trivial⟩ ?_
          refine wp_getF ok (wd hw 10 rfl) lF1 (by decide +kernel) ?_
          refine wp_run ok hK (B := [(38, .iload_n 3, false), (39, .aload_n 0, false)]) (by decide +kernel) (ps := []) (pc' := 40) (L' := #[.val ((.ref a)), .val (.long e), .second, .val (.int iv), .val (.int ((iv - (1 : Int32)) / (2 : Int32)))]) (S' := [(.ref a), .int iv, (.ref hd)]) rfl trivial ?_
          refine wp_getF ok (wd hw 10 rfl) lF1 (by decide +kernel) ?_
          refine wp_run ok hK (B := [(43, .iload 4, false)]) (by decide +kernel) (ps := []) (pc' := 45) (L' := #[.val ((.ref a)), .val (.long e), .second, .val (.int iv), .val (.int ((iv - (1 : Int32)) / (2 : Int32)))]) (S' := [.int ((iv - (1 : Int32)) / (2 : Int32)), (.ref hd), .int iv, (.ref hd)]) rfl trivial ?_
          refine wp_aJ ok lA1 (i := ((i - 1) / 2)) k_i (by omega) (v := .long (HL ((i - 1) / 2))) rfl (by decide +kernel) ?_
          refine wp_sJ ok lA1 (i := i) hiv (by omega) (by decide +kernel) g_hd ?_
          intro h1 W2 A3
          have F4 := lF1.other W2 (Or.inl lnhd)
          have F5 := lF2.other W2 (Or.inl lnhd)
          have F6 := lF3.other W2 (Or.inl lnhd)
          have A7 := lA2.other W2 (Ne.symm lN)
          have E8 := lE.wr W2
          have Z9 : n0 ≤ h1.size := by rw [W2.size]; exact ZL
          have K10 := KL.wr W2 (Or.inl (by simp))
          have A11 : Ar Z h1 hd .long cap (fun q => .long ((upd HL i (HL ((i - 1) / 2))) q)) := Ar_uJ A3
          refine wp_run ok hK (B := [(47, .aload_n 0, false)]) (by decide +kernel) (ps := []) (pc' := 48) (L' := #[.val ((.ref a)), .val (.long e), .second, .val (.int iv), .val (.int ((iv - (1 : Int32)) / (2 : Int32)))]) (S' := [(.ref a)]) rfl trivial ?_
          refine wp_getF ok (wd hw 13 rfl) F5 (by decide +kernel) ?_
          refine wp_run ok hK (B := [(51, .aload_n 0, false)]) (by decide +kernel) (ps := []) (pc' := 52) (L' := #[.val ((.ref a)), .val (.long e), .second, .val (.int iv), .val (.int ((iv - (1 : Int32)) / (2 : Int32)))]) (S' := [(.ref a), (.ref pd)]) rfl trivial ?_
          refine wp_getF ok (wd hw 10 rfl) F4 (by decide +kernel) ?_
          refine wp_run ok hK (B := [(55, .iload_n 3, false)]) (by decide +kernel) (ps := []) (pc' := 56) (L' := #[.val ((.ref a)), .val (.long e), .second, .val (.int iv), .val (.int ((iv - (1 : Int32)) / (2 : Int32)))]) (S' := [.int iv, (.ref hd), (.ref pd)]) rfl trivial ?_
          refine wp_aJ ok A11 (i := i) hiv (by omega) (v := .long (HL ((i - 1) / 2))) (congrArg Value.long (upd_at _ _ _)) (by decide +kernel) ?_
          refine wp_run ok hK (B := [(57, .l2i, false), (58, .iload_n 3, false)]) (by decide +kernel) (ps := []) (pc' := 59) (L' := #[.val ((.ref a)), .val (.long e), .second, .val (.int iv), .val (.int ((iv - (1 : Int32)) / (2 : Int32)))]) (S' := [.int iv, .int ((HL ((i - 1) / 2)).toInt32), (.ref pd)]) rfl trivial ?_
          refine wp_sI ok A7 (i := wk) hwk k_w (by decide +kernel) g_pd ?_
          intro h12 W13 A14
          have F15 := F4.other W13 (Or.inl lnpd)
          have F16 := F5.other W13 (Or.inl lnpd)
          have F17 := F6.other W13 (Or.inl lnpd)
          have A18 := A11.other W13 lN
          have E19 := E8.wr W13
          have Z20 : n0 ≤ h12.size := by rw [W13.size]; exact Z9
          have K21 := K10.wr W13 (Or.inl (by simp))
          have A22 : Ar Z h12 pd .int cap (fun q => .int ((upd PL wk iv) q)) := Ar_uI A14
          refine wp_run ok hK (B := [(60, .iload 4, false), (62, .istore_n 3, false), (63, .goto (-55), false)]) (by decide +kernel) (ps := []) (pc' := 8) (L' := #[.val ((.ref a)), .val (.long e), .second, .val (.int ((iv - (1 : Int32)) / (2 : Int32))), .val (.int ((iv - (1 : Int32)) / (2 : Int32)))]) (S' := []) rfl trivial ?_
          have hI2 := (INV_swap hI his k_s k_n p5 hwk).2.2
          rw [← iP_upd PL _ iv hiv, ← iH_upd HL i _ hwk] at hI2
          exact ih ((i - 1) / 2) (by omega) _ _ _ _ ((i - 1) / 2) _ (Or.inr ⟨_, rfl⟩) K21 ⟨E19, F15, F16, F17, A18, A22, lN⟩ hI2 k_i k_s Z20 rfl
        · refine wp_run ok hK (B := [(24, .ifCond .le 42, true)]) (by decide +kernel) (ps := [Op.ifCond.holds .le (cmpL (HL ((i - 1) / 2)) e) = true]) (pc' := 66) (L' := #[.val ((.ref a)), .val (.long e), .second, .val (.int iv), .unset]) (S' := []) rfl ⟨(XT.ll_le_t hc24), trivial⟩ ?_
          refine wp_run ok hK (B := [(66, .aload_n 0, false)]) (by decide +kernel) (ps := []) (pc' := 67) (L' := #[.val ((.ref a)), .val (.long e), .second, .val (.int iv), .unset]) (S' := [(.ref a)]) rfl trivial ?_
          refine wp_getF ok (wd hw 10 rfl) lF1 (by decide +kernel) ?_
          refine wp_run ok hK (B := [(70, .iload_n 3, false), (71, .lload_n 1, false)]) (by decide +kernel) (ps := []) (pc' := 72) (L' := #[.val ((.ref a)), .val (.long e), .second, .val (.int iv), .unset]) (S' := [.long e, .int iv, (.ref hd)]) rfl trivial ?_
          refine wp_sJ ok lA1 (i := i) hiv (by omega) (by decide +kernel) g_hd ?_
          intro h23 W24 A25
          have F26 := lF1.other W24 (Or.inl lnhd)
          have F27 := lF2.other W24 (Or.inl lnhd)
          have F28 := lF3.other W24 (Or.inl lnhd)
          have A29 := lA2.other W24 (Ne.symm lN)
          have E30 := lE.wr W24
          have Z31 : n0 ≤ h23.size := by rw [W24.size]; exact ZL
          have K32 := KL.wr W24 (Or.inl (by simp))
          have A33 : Ar Z h23 hd .long cap (fun q => .long ((upd HL i e) q)) := Ar_uJ A25
          refine wp_run ok hK (B := [(73, .aload_n 0, false)]) (by decide +kernel) (ps := []) (pc' := 74) (L' := #[.val ((.ref a)), .val (.long e), .second, .val (.int iv), .unset]) (S' := [(.ref a)]) rfl trivial ?_
          refine wp_getF ok (wd hw 13 rfl) F27 (by decide +kernel) ?_
          refine wp_run ok hK (B := [(77, .lload_n 1, false), (78, .l2i, false), (79, .iload_n 3, false)]) (by decide +kernel) (ps := []) (pc' := 80) (L' := #[.val ((.ref a)), .val (.long e), .second, .val (.int iv), .unset]) (S' := [.int iv, .int (e.toInt32), (.ref pd)]) rfl trivial ?_
          refine wp_sI ok A29 (i := v0) p4 p5 (by decide +kernel) g_pd ?_
          intro h34 W35 A36
          have F37 := F26.other W35 (Or.inl lnpd)
          have F38 := F27.other W35 (Or.inl lnpd)
          have F39 := F28.other W35 (Or.inl lnpd)
          have A40 := A33.other W35 lN
          have E41 := E30.wr W35
          have Z42 : n0 ≤ h34.size := by rw [W35.size]; exact Z31
          have K43 := K32.wr W35 (Or.inl (by simp))
          have A44 : Ar Z h34 pd .int cap (fun q => .int ((upd PL v0 iv) q)) := Ar_uI A36
          refine wp_retV ok (by decide +kernel) (by decide) (by decide) ?_
          refine ⟨rfl, K43, (upd PL v0 iv), (upd HL i e), ⟨E41, F37, F38, F39, A40, A44, lN⟩, ?_⟩
          rw [iP_upd _ _ _ hiv, iH_upd _ _ _ p4]
          exact hI
      · refine wp_run ok hK (B := [(9, .ifCond .le 57, true)]) (by decide +kernel) (ps := [Op.ifCond.holds .le iv = true]) (pc' := 66) (L' := #[.val ((.ref a)), .val (.long e), .second, .val (.int iv), .unset]) (S' := []) rfl ⟨(XT.i0_le_t hc9), trivial⟩ ?_
        refine wp_run ok hK (B := [(66, .aload_n 0, false)]) (by decide +kernel) (ps := []) (pc' := 67) (L' := #[.val ((.ref a)), .val (.long e), .second, .val (.int iv), .unset]) (S' := [(.ref a)]) rfl trivial ?_
        refine wp_getF ok (wd hw 10 rfl) lF1 (by decide +kernel) ?_
        refine wp_run ok hK (B := [(70, .iload_n 3, false), (71, .lload_n 1, false)]) (by decide +kernel) (ps := []) (pc' := 72) (L' := #[.val ((.ref a)), .val (.long e), .second, .val (.int iv), .unset]) (S' := [.long e, .int iv, (.ref hd)]) rfl trivial ?_
        refine wp_sJ ok lA1 (i := i) hiv (by omega) (by decide +kernel) g_hd ?_
        intro h45 W46 A47
        have F48 := lF1.other W46 (Or.inl lnhd)
        have F49 := lF2.other W46 (Or.inl lnhd)
        have F50 := lF3.other W46 (Or.inl lnhd)
        have A51 := lA2.other W46 (Ne.symm lN)
        have E52 := lE.wr W46
        have Z53 : n0 ≤ h45.size := by rw [W46.size]; exact ZL
        have K54 := KL.wr W46 (Or.inl (by simp))
        have A55 : Ar Z h45 hd .long cap (fun q => .long ((upd HL i e) q)) := Ar_uJ A47
        refine wp_run ok hK (B := [(73, .aload_n 0, false)]) (by decide +kernel) (ps := []) (pc' := 74) (L' := #[.val ((.ref a)), .val (.long e), .second, .val (.int iv), .unset]) (S' := [(.ref a)]) rfl trivial ?_
        refine wp_getF ok (wd hw 13 rfl) F49 (by decide +kernel) ?_
        refine wp_run ok hK (B := [(77, .lload_n 1, false), (78, .l2i, false), (79, .iload_n 3, false)]) (by decide +kernel) (ps := []) (pc' := 80) (L' := #[.val ((.ref a)), .val (.long e), .second, .val (.int iv), .unset]) (S' := [.int iv, .int (e.toInt32), (.ref pd)]) rfl trivial ?_
        refine wp_sI ok A51 (i := v0) p4 p5 (by decide +kernel) g_pd ?_
        intro h56 W57 A58
        have F59 := F48.other W57 (Or.inl lnpd)
        have F60 := F49.other W57 (Or.inl lnpd)
        have F61 := F50.other W57 (Or.inl lnpd)
        have A62 := A55.other W57 lN
        have E63 := E52.wr W57
        have Z64 : n0 ≤ h56.size := by rw [W57.size]; exact Z53
        have K65 := K54.wr W57 (Or.inl (by simp))
        have A66 : Ar Z h56 pd .int cap (fun q => .int ((upd PL v0 iv) q)) := Ar_uI A58
        refine wp_retV ok (by decide +kernel) (by decide) (by decide) ?_
        refine ⟨rfl, K65, (upd PL v0 iv), (upd HL i e), ⟨E63, F59, F60, F61, A62, A66, lN⟩, ?_⟩
        rw [iP_upd _ _ _ hiv, iH_upd _ _ _ p4]
        exact hI
    · refine wp_run ok hK (B := [(8, .iload_n 3, false)]) (by decide +kernel) (ps := []) (pc' := 9) (L' := #[.val ((.ref a)), .val (.long e), .second, .val (.int iv), .val (.int z)]) (S' := [.int iv]) rfl trivial ?_
      by_cases hc9 : (0 : Int32) < iv
      · refine wp_run ok hK (B := [(9, .ifCond .le 57, false)]) (by decide +kernel) (ps := [Op.ifCond.holds .le iv = false]) (pc' := 12) (L' := #[.val ((.ref a)), .val (.long e), .second, .val (.int iv), .val (.int z)]) (S' := []) rfl ⟨(XT.i0_le_f hc9), trivial⟩ ?_
        refine wp_run ok hK (B := [(12, .aload_n 0, false)]) (by decide +kernel) (ps := []) (pc' := 13) (L' := #[.val ((.ref a)), .val (.long e), .second, .val (.int iv), .val (.int z)]) (S' := [(.ref a)]) rfl trivial ?_
        refine wp_getF ok (wd hw 10 rfl) lF1 (by decide +kernel) ?_
        refine wp_run ok hK (B := [(16, .iload_n 3, false), (17, .iconst 1, false), (18, .isub, false), (19, .iconst 2, false), (20, .idiv, false)]) (by decide +kernel) (ps := [(2 : Int32) ≠ 0]) (pc' := 21) (L' := #[.val ((.ref a)), .val (.long e), .second, .val (.int iv), .val (.int z)]) (S' := [.int ((iv - (1 : Int32)) / (2 : Int32)), (.ref hd)]) rfl ⟨(by decide), trivial⟩ ?_
        have hpos := own_pos hc9 hiv
        have k_i := own_par hiv hpos (by omega)
        have k_s : ((i - 1) / 2) < sz := by omega
        have k_n : ((i - 1) / 2) ≠ i := by omega
        obtain ⟨wk, hwk⟩ := own_at hI k_s k_n
        have k_w := (INV_swap hI his k_s k_n p5 hwk).1
        refine wp_aJ ok lA1 (i := ((i - 1) / 2)) k_i (by omega) (v := .long (HL ((i - 1) / 2))) rfl (by decide +kernel) ?_
        refine wp_run ok hK (B := [(22, .lload_n 1, false), (23, .lcmp, false)]) (by decide +kernel) (ps := []) (pc' := 24) (L' := #[.val ((.ref a)), .val (.long e), .second, .val (.int iv), .val (.int z)]) (S' := [.int (cmpL (HL ((i - 1) / 2)) e)]) rfl trivial ?_
        by_cases hc24 : e < (HL ((i - 1) / 2))
        · refine wp_run ok hK (B := [(24, .ifCond .le 42, false)]) (by decide +kernel) (ps := [Op.ifCond.holds .le (cmpL (HL ((i - 1) / 2)) e) = false]) (pc' := 27) (L' := #[.val ((.ref a)), .val (.long e), .second, .val (.int iv), .val (.int z)]) (S' := []) rfl ⟨(XT.ll_le_f hc24), trivial⟩ ?_
          refine wp_run ok hK (B := [(27, .iload_n 3, false), (28, .iconst 1, false), (29, .isub, false), (30, .iconst 2, false), (31, .idiv, false), (32, .istore 4, false), (34, .aload_n 0, false)]) (by decide +kernel) (ps := [(2 : Int32) ≠ 0]) (pc' := 35) (L' := #[.val ((.ref a)), .val (.long e), .second, .val (.int iv), .val (.int ((iv - (1 : Int32)) / (2 : Int32)))]) (S' := [(.ref a)]) rfl ⟨(by decide), trivial⟩ ?_
          refine wp_getF ok (wd hw 10 rfl) lF1 (by decide +kernel) ?_
          refine wp_run ok hK (B := [(38, .iload_n 3, false), (39, .aload_n 0, false)]) (by decide +kernel) (ps := []) (pc' := 40) (L' := #[.val ((.ref a)), .val (.long e), .second, .val (.int iv), .val (.int ((iv - (1 : Int32)) / (2 : Int32)))]) (S' := [(.ref a), .int iv, (.ref hd)]) rfl trivial ?_
          refine wp_getF ok (wd hw 10 rfl) lF1 (by decide +kernel) ?_
          refine wp_run ok hK (B := [(43, .iload 4, false)]) (by decide +kernel) (ps := []) (pc' := 45) (L' := #[.val ((.ref a)), .val (.long e), .second, .val (.int iv), .val (.int ((iv - (1 : Int32)) / (2 : Int32)))]) (S' := [.int ((iv - (1 : Int32)) / (2 : Int32)), (.ref hd), .int iv, (.ref hd)]) rfl trivial ?_
          refine wp_aJ ok lA1 (i := ((i - 1) / 2)) k_i (by omega) (v := .long (HL ((i - 1) / 2))) rfl (by decide +kernel) ?_
          refine wp_sJ ok lA1 (i := i) hiv (by omega) (by decide +kernel) g_hd ?_
          intro h67 W68 A69
          have F70 := lF1.other W68 (Or.inl lnhd)
          have F71 := lF2.other W68 (Or.inl lnhd)
          have F72 := lF3.other W68 (Or.inl lnhd)
          have A73 := lA2.other W68 (Ne.symm lN)
          have E74 := lE.wr W68
          have Z75 : n0 ≤ h67.size := by rw [W68.size]; exact ZL
          have K76 := KL.wr W68 (Or.inl (by simp))
          have A77 : Ar Z h67 hd .long cap (fun q => .long ((upd HL i (HL ((i - 1) / 2))) q)) := Ar_uJ A69
          refine wp_run ok hK (B := [(47, .aload_n 0, false)]) (by decide +kernel) (ps := []) (pc' := 48) (L' := #[.val ((.ref a)), .val (.long e), .second, .val (.int iv), .val (.int ((iv - (1 : Int32)) / (2 : Int32)))]) (S' := [(.ref a)]) rfl trivial ?_
          refine wp_getF ok (wd hw 13 rfl) F71 (by decide +kernel) ?_
          refine wp_run ok hK (B := [(51, .aload_n 0, false)]) (by decide +kernel) (ps := []) (pc' := 52) (L' := #[.val ((.ref a)), .val (.long e), .second, .val (.int iv), .val (.int ((iv - (1 : Int32)) / (2 : Int32)))]) (S' := [(.ref a), (.ref pd)]) rfl trivial ?_
          refine wp_getF ok (wd hw 10 rfl) F70 (by decide +kernel) ?_
          refine wp_run ok hK (B := [(55, .iload_n 3, false)]) (by decide +kernel) (ps := []) (pc' := 56) (L' := #[.val ((.ref a)), .val (.long e), .second, .val (.int iv), .val (.int ((iv - (1 : Int32)) / (2 : Int32)))]) (S' := [.int iv, (.ref hd), (.ref pd)]) rfl trivial ?_
          refine wp_aJ ok A77 (i := i) hiv (by omega) (v := .long (HL ((i - 1) / 2))) (congrArg Value.long (upd_at _ _ _)) (by decide +kernel) ?_
          refine wp_run ok hK (B := [(57, .l2i, false), (58, .iload_n 3, false)]) (by decide +kernel) (ps := []) (pc' := 59) (L' := #[.val ((.ref a)), .val (.long e), .second, .val (.int iv), .val (.int ((iv - (1 : Int32)) / (2 : Int32)))]) (S' := [.int iv, .int ((HL ((i - 1) / 2)).toInt32), (.ref pd)]) rfl trivial ?_
          refine wp_sI ok A73 (i := wk) hwk k_w (by decide +kernel) g_pd ?_
          intro h78 W79 A80
          have F81 := F70.other W79 (Or.inl lnpd)
          have F82 := F71.other W79 (Or.inl lnpd)
          have F83 := F72.other W79 (Or.inl lnpd)
          have A84 := A77.other W79 lN
          have E85 := E74.wr W79
          have Z86 : n0 ≤ h78.size := by rw [W79.size]; exact Z75
          have K87 := K76.wr W79 (Or.inl (by simp))
          have A88 : Ar Z h78 pd .int cap (fun q => .int ((upd PL wk iv) q)) := Ar_uI A80
          refine wp_run ok hK (B := [(60, .iload 4, false), (62, .istore_n 3, false), (63, .goto (-55), false)]) (by decide +kernel) (ps := []) (pc' := 8) (L' := #[.val ((.ref a)), .val (.long e), .second, .val (.int ((iv - (1 : Int32)) / (2 : Int32))), .val (.int ((iv - (1 : Int32)) / (2 : Int32)))]) (S' := []) rfl trivial ?_
          have hI2 := (INV_swap hI his k_s k_n p5 hwk).2.2
          rw [← iP_upd PL _ iv hiv, ← iH_upd HL i _ hwk] at hI2
          exact ih ((i - 1) / 2) (by omega) _ _ _ _ ((i - 1) / 2) _ (Or.inr ⟨_, rfl⟩) K87 ⟨E85, F81, F82, F83, A84, A88, lN⟩ hI2 k_i k_s Z86 rfl
        · refine wp_run ok hK (B := [(24, .ifCond .le 42, true)]) (by decide +kernel) (ps := [Op.ifCond.holds .le (cmpL (HL ((i - 1) / 2)) e) = true]) (pc' := 66) (L' := #[.val ((.ref a)), .val (.long e), .second, .val (.int iv), .val (.int z)]) (S' := []) rfl ⟨(XT.ll_le_t hc24), trivial⟩ ?_
          refine wp_run ok hK (B := [(66, .aload_n 0, false)]) (by decide +kernel) (ps := []) (pc' := 67) (L' := #[.val ((.ref a)), .val (.long e), .second, .val (.int iv), .val (.int z)]) (S' := [(.ref a)]) rfl trivial ?_
          refine wp_getF ok (wd hw 10 rfl) lF1 (by decide +kernel) ?_
          refine wp_run ok hK (B := [(70, .iload_n 3, false), (71, .lload_n 1, false)]) (by decide +kernel) (ps := []) (pc' := 72) (L' := #[.val ((.ref a)), .val (.long e), .second, .val (.int iv), .val (.int z)]) (S' := [.long e, .int iv, (.ref hd)]) rfl trivial ?_
          refine wp_sJ ok lA1 (i := i) hiv (by omega) (by decide +kernel) g_hd ?_
          intro h89 W90 A91
          have F92 := lF1.other W90 (Or.inl lnhd)
          have F93 := lF2.other W90 (Or.inl lnhd)
          have F94 := lF3.other W90 (Or.inl lnhd)
          have A95 := lA2.other W90 (Ne.symm lN)
          have E96 := lE.wr W90
          have Z97 : n0 ≤ h89.size := by rw [W90.size]; exact ZL
          have K98 := KL.wr W90 (Or.inl (by simp))
          have A99 : Ar Z h89 hd .long cap (fun q => .long ((upd HL i e) q)) := Ar_uJ A91
          refine wp_run ok hK (B := [(73, .aload_n 0, false)]) (by decide +kernel) (ps := []) (pc' := 74) (L' := #[.val ((.ref a)), .val (.long e), .second, .val (.int iv), .val (.int z)]) (S' := [(.ref a)]) rfl trivial ?_
          refine wp_getF ok (wd hw 13 rfl) F93 (by decide +kernel) ?_
          refine wp_run ok hK (B := [(77, .lload_n 1, false), (78, .l2i, false), (79, .iload_n 3, false)]) (by decide +kernel) (ps := []) (pc' := 80) (L' := #[.val ((.ref a)), .val (.long e), .second, .val (.int iv), .val (.int z)]) (S' := [.int iv, .int (e.toInt32), (.ref pd)]) rfl trivial ?_
          refine wp_sI ok A95 (i := v0) p4 p5 (by decide +kernel) g_pd ?_
          intro h100 W101 A102
          have F103 := F92.other W101 (Or.inl lnpd)
          have F104 := F93.other W101 (Or.inl lnpd)
          have F105 := F94.other W101 (Or.inl lnpd)
          have A106 := A99.other W101 lN
          have E107 := E96.wr W101
          have Z108 : n0 ≤ h100.size := by rw [W101.size]; exact Z97
          have K109 := K98.wr W101 (Or.inl (by simp))
          have A110 : Ar Z h100 pd .int cap (fun q => .int ((upd PL v0 iv) q)) := Ar_uI A102
          refine wp_retV ok (by decide +kernel) (by decide) (by decide) ?_
          refine ⟨rfl, K109, (upd PL v0 iv), (upd HL i e), ⟨E107, F103, F104, F105, A106, A110, lN⟩, ?_⟩
          rw [iP_upd _ _ _ hiv, iH_upd _ _ _ p4]
          exact hI
      · refine wp_run ok hK (B := [(9, .ifCond .le 57, true)]) (by decide +kernel) (ps := [Op.ifCond.holds .le iv = true]) (pc' := 66) (L' := #[.val ((.ref a)), .val (.long e), .second, .val (.int iv), .val (.int z)]) (S' := []) rfl ⟨(XT.i0_le_t hc9), trivial⟩ ?_
        refine wp_run ok hK (B := [(66, .aload_n 0, false)]) (by decide +kernel) (ps := []) (pc' := 67) (L' := #[.val ((.ref a)), .val (.long e), .second, .val (.int iv), .val (.int z)]) (S' := [(.ref a)]) rfl trivial ?_
        refine wp_getF ok (wd hw 10 rfl) lF1 (by decide +kernel) ?_
        refine wp_run ok hK (B := [(70, .iload_n 3, false), (71, .lload_n 1, false)]) (by decide +kernel) (ps := []) (pc' := 72) (L' := #[.val ((.ref a)), .val (.long e), .second, .val (.int iv), .val (.int z)]) (S' := [.long e, .int iv, (.ref hd)]) rfl trivial ?_
        refine wp_sJ ok lA1 (i := i) hiv (by omega) (by decide +kernel) g_hd ?_
        intro h111 W112 A113
        have F114 := lF1.other W112 (Or.inl lnhd)
        have F115 := lF2.other W112 (Or.inl lnhd)
        have F116 := lF3.other W112 (Or.inl lnhd)
        have A117 := lA2.other W112 (Ne.symm lN)
        have E118 := lE.wr W112
        have Z119 : n0 ≤ h111.size := by rw [W112.size]; exact ZL
        have K120 := KL.wr W112 (Or.inl (by simp))
        have A121 : Ar Z h111 hd .long cap (fun q => .long ((upd HL i e) q)) := Ar_uJ A113
        refine wp_run ok hK (B := [(73, .aload_n 0, false)]) (by decide +kernel) (ps := []) (pc' := 74) (L' := #[.val ((.ref a)), .val (.long e), .second, .val (.int iv), .val (.int z)]) (S' := [(.ref a)]) rfl trivial ?_
        refine wp_getF ok (wd hw 13 rfl) F115 (by decide +kernel) ?_
        refine wp_run ok hK (B := [(77, .lload_n 1, false), (78, .l2i, false), (79, .iload_n 3, false)]) (by decide +kernel) (ps := []) (pc' := 80) (L' := #[.val ((.ref a)), .val (.long e), .second, .val (.int iv), .val (.int z)]) (S' := [.int iv, .int (e.toInt32), (.ref pd)]) rfl trivial ?_
        refine wp_sI ok A117 (i := v0) p4 p5 (by decide +kernel) g_pd ?_
        intro h122 W123 A124
        have F125 := F114.other W123 (Or.inl lnpd)
        have F126 := F115.other W123 (Or.inl lnpd)
        have F127 := F116.other W123 (Or.inl lnpd)
        have A128 := A121.other W123 lN
        have E129 := E118.wr W123
        have Z130 : n0 ≤ h122.size := by rw [W123.size]; exact Z119
        have K131 := K120.wr W123 (Or.inl (by simp))
        have A132 : Ar Z h122 pd .int cap (fun q => .int ((upd PL v0 iv) q)) := Ar_uI A124
        refine wp_retV ok (by decide +kernel) (by decide) (by decide) ?_
        refine ⟨rfl, K131, (upd PL v0 iv), (upd HL i e), ⟨E129, F125, F126, F127, A128, A132, lN⟩, ?_⟩
        rw [iP_upd _ _ _ hiv, iH_upd _ _ _ p4]
        exact hI
  have hI1 : INV cap sz (upd (iP P) v0 (i0 : Int)) (upd (iH H) i0 (v0 : Int)) hold := hI0.cong (fun v hv => own_same p3 v) (fun i hi => rfl)
  exact loop i0 h0 P H _ i0 _ (Or.inl rfl) K0 HB hI1 p3 p2 Z0 rfl
def k_down : List (Nat × Value) := []
def Q_down (Z : State) (a : Addr) (e : Int64) (hd : Addr) (pd : Addr) (cap : Nat) (sz : Nat) (P : Nat → Int32) (H : Nat → Int64) (hold : Nat → Bool) (v0 : Nat) (i0 : Nat) (h0 : Heap) : Post := fun v h => v = none ∧ Keep h0 h [hd, pd] ∧ ∃ (P2 : Nat → Int32) (H2 : Nat → Int64), HP Z h a hd pd cap sz P2 H2 ∧ INV cap sz (iP P2) (iH H2) hold
theorem pn_down : plainFor (⟨"com/example/fenpei/fenpei/IntHeap", "down", "(J)V"⟩ : MethodName) = true := by first | (refine plainFor_of_name ?_; simp [plainName, overriddenIn]; done) | decide +kernel
set_option maxRecDepth 65536 in
set_option maxHeartbeats 40000000 in
theorem c_down (l : Launch) (Z : State) (a0 : Array Value) (hw : ∀ d ∈ tables_1, d.before a0 Z = true) (a : Addr) (e : Int64) (hd : Addr) (pd : Addr) (cap : Nat) (sz : Nat) (P : Nat → Int32) (H : Nat → Int64) (hold : Nat → Bool) (v0 : Nat) (i0 : Nat) (h0 : Heap) (n0 : Nat) (Z0 : n0 ≤ h0.size) (g_a : n0 ≤ a) (g_hd : n0 ≤ hd) (g_pd : n0 ≤ pd) (HB : HP Z h0 a hd pd cap sz P H) (hI0 : INV cap sz (iP P) (upd (iH H) i0 (v0 : Int)) hold) (p2 : i0 < sz) (p3 : (P v0).toInt = (i0 : Int)) (p4 : hV e = (v0 : Int)) (p5 : v0 < cap) (p6 : cap ≤ 4) :
    Con l Z (⟨"com/example/fenpei/fenpei/IntHeap", "down", "(J)V"⟩ : MethodName) prog_20_method_10_code 5 (none : Option FieldType) ({ frames := 0, cells := 0, slots := 0, locals := 0 } : Room) #[(.ref a), .long e] h0 n0 (Q_down Z a e hd pd cap sz P H hold v0 i0 h0) [] := by
  refine con_of_wp pn_down (L0 := #[.val ((.ref a)), .val (.long e), .second, .unset, .unset]) (fun m => by first | (simp [entryFrame, mkF, argsToLocals, Value.category]; done) | rfl) (fun X hl ok => ?_)
  subst hl
  have hK : Konst Z a0 "com/example/fenpei/fenpei/IntHeap" k_down := trivial
  have HB0 := HB
  have itmp := HB0
  obtain ⟨iE, iF1, iF2, iF3, iA1, iA2, iN⟩ := itmp
  have inhd : a ≠ hd := ne_ar iE (wd hw 1 rfl) iA1
  have inpd : a ≠ pd := ne_ar iE (wd hw 1 rfl) iA2
  have K0 : Keep h0 h0 [hd, pd] := Keep.refl _ _
  refine wp_run ok hK (B := [(0, .aload_n 0, false)]) (by decide +kernel) (ps := []) (pc' := 1) (L' := #[.val ((.ref a)), .val (.long e), .second, .unset, .unset]) (S' := [(.ref a)]) rfl trivial ?_
  refine wp_getF ok (wd hw 13 rfl) iF2 (by decide +kernel) ?_
  refine wp_run ok hK (B := [(4, .lload_n 1, false), (5, .l2i, false)]) (by decide +kernel) (ps := []) (pc' := 6) (L' := #[.val ((.ref a)), .val (.long e), .second, .unset, .unset]) (S' := [.int (e.toInt32), (.ref pd)]) rfl trivial ?_
  refine wp_aI ok iA2 (i := v0) p4 p5 (v := .int (P v0)) rfl (by decide +kernel) ?_
  refine wp_run ok hK (B := [(7, .istore_n 3, false), (8, .iconst 2, false), (9, .iload_n 3, false), (10, .imul, false), (11, .iconst 1, false), (12, .iadd, false), (13, .istore 4, false)]) (by decide +kernel) (ps := []) (pc' := 15) (L' := #[.val ((.ref a)), .val (.long e), .second, .val (.int (P v0)), .val (.int (((2 : Int32) * (P v0)) + (1 : Int32)))]) (S' := []) rfl trivial ?_
  have loop : ∀ (d : Nat) (h1 : Heap) (PL : Nat → Int32) (HL : Nat → Int64) (iv : Int32) (i : Nat) (cv : Int32), cv.toInt = ((2 * i + 1 : Nat) : Int) → Keep h0 h1 [hd, pd] → HP Z h1 a hd pd cap sz PL HL → INV cap sz (upd (iP PL) v0 (i : Int)) (upd (iH HL) i (v0 : Int)) hold → iv.toInt = (i : Int) → i < sz → n0 ≤ h1.size → sz - i = d → WP X n0 (Q_down Z a e hd pd cap sz P H hold v0 i0 h0) h1 0 0 15 #[.val (.ref a), .val (.long e), .second, .val (.int iv), .val (.int cv)] [] := by
    clear hI0 HB
    intro d
    induction d using Nat.strongRecOn with
    | _ d ih =>
    intro h1 PL HL iv i cv hcv KL HB hI hiv his ZL hd0
    have hcap := hI.1
    have ltmp := HB
    obtain ⟨lE, lF1, lF2, lF3, lA1, lA2, lN⟩ := ltmp
    have lnhd : a ≠ hd := ne_ar lE (wd hw 1 rfl) lA1
    have lnpd : a ≠ pd := ne_ar lE (wd hw 1 rfl) lA2
    refine wp_run ok hK (B := [(15, .iload 4, false)]) (by decide +kernel) (ps := []) (pc' := 17) (L' := #[.val ((.ref a)), .val (.long e), .second, .val (.int iv), .val (.int cv)]) (S' := [.int cv]) rfl trivial ?_
    refine wp_run ok hK (B := [(17, .aload_n 0, false)]) (by decide +kernel) (ps := []) (pc' := 18) (L' := #[.val ((.ref a)), .val (.long e), .second, .val (.int iv), .val (.int cv)]) (S' := [(.ref a), .int cv]) rfl trivial ?_
    refine wp_getF ok (wd hw 29 rfl) lF3 (by decide +kernel) ?_
    by_cases hc21 : cv < (Int32.ofNat sz)
    · refine wp_run ok hK (B := [(21, .if_icmp .ge 91, false)]) (by decide +kernel) (ps := [Op.if_icmp.holds .ge cv (Int32.ofNat sz) = false]) (pc' := 24) (L' := #[.val ((.ref a)), .val (.long e), .second, .val (.int iv), .val (.int cv)]) (S' := []) rfl ⟨(XT.ii_ge_f hc21), trivial⟩ ?_
      refine wp_run ok hK (B := [(24, .iload 4, false), (26, .iconst 1, false), (27, .iadd, false), (28, .aload_n 0, false)]) (by decide +kernel) (ps := []) (pc' := 29) (L' := #[.val ((.ref a)), .val (.long e), .second, .val (.int iv), .val (.int cv)]) (S' := [(.ref a), .int (cv + (1 : Int32))]) rfl trivial ?_
      refine wp_getF ok (wd hw 29 rfl) lF3 (by decide +kernel) ?_
      by_cases hc32 : (cv + (1 : Int32)) < (Int32.ofNat sz)
      · refine wp_run ok hK (B := [(32, .if_icmp .ge 26, false)]) (by decide +kernel) (ps := [Op.if_icmp.holds .ge (cv + (1 : Int32)) (Int32.ofNat sz) = false]) (pc' := 35) (L' := #[.val ((.ref a)), .val (.long e), .second, .val (.int iv), .val (.int cv)]) (S' := []) rfl ⟨(XT.ii_ge_f hc32), trivial⟩ ?_
        refine wp_run ok hK (B := [(35, .aload_n 0, false)]) (by decide +kernel) (ps := []) (pc' := 36) (L' := #[.val ((.ref a)), .val (.long e), .second, .val (.int iv), .val (.int cv)]) (S' := [(.ref a)]) rfl trivial ?_
        refine wp_getF ok (wd hw 10 rfl) lF1 (by decide +kernel) ?_
        refine wp_run ok hK (B := [(39, .iload 4, false), (41, .iconst 1, false), (42, .iadd, false)]) (by decide +kernel) (ps := []) (pc' := 43) (L' := #[.val ((.ref a)), .val (.long e), .second, .val (.int iv), .val (.int cv)]) (S' := [.int (cv + (1 : Int32)), (.ref hd)]) rfl trivial ?_
        have q21 := own_lt hc21 hcv (own_nat (by omega))
        have j2_i := own_suc hcv (by omega)
        have q32 := own_lt hc32 j2_i (own_nat (by omega))
        refine wp_aJ ok lA1 (i := (2 * i + 1 + 1)) j2_i (by omega) (v := .long (HL (2 * i + 1 + 1))) rfl (by decide +kernel) ?_
        refine wp_run ok hK (B := [(44, .aload_n 0, false)]) (by decide +kernel) (ps := []) (pc' := 45) (L' := #[.val ((.ref a)), .val (.long e), .second, .val (.int iv), .val (.int cv)]) (S' := [(.ref a), .long (HL (2 * i + 1 + 1))]) rfl trivial ?_
        refine wp_getF ok (wd hw 10 rfl) lF1 (by decide +kernel) ?_
        refine wp_run ok hK (B := [(48, .iload 4, false)]) (by decide +kernel) (ps := []) (pc' := 50) (L' := #[.val ((.ref a)), .val (.long e), .second, .val (.int iv), .val (.int cv)]) (S' := [.int cv, (.ref hd), .long (HL (2 * i + 1 + 1))]) rfl trivial ?_
        refine wp_aJ ok lA1 (i := (2 * i + 1)) hcv (by omega) (v := .long (HL (2 * i + 1))) rfl (by decide +kernel) ?_
        refine wp_run ok hK (B := [(51, .lcmp, false)]) (by decide +kernel) (ps := []) (pc' := 52) (L' := #[.val ((.ref a)), .val (.long e), .second, .val (.int iv), .val (.int cv)]) (S' := [.int (cmpL (HL (2 * i + 1 + 1)) (HL (2 * i + 1)))]) rfl trivial ?_
        by_cases hc52 : (HL (2 * i + 1 + 1)) < (HL (2 * i + 1))
        · refine wp_run ok hK (B := [(52, .ifCond .ge 6, false)]) (by decide +kernel) (ps := [Op.ifCond.holds .ge (cmpL (HL (2 * i + 1 + 1)) (HL (2 * i + 1))) = false]) (pc' := 55) (L' := #[.val ((.ref a)), .val (.long e), .second, .val (.int iv), .val (.int cv)]) (S' := []) rfl ⟨(XT.ll_ge_f hc52), trivial⟩ ?_
          refine wp_run ok hK (B := [(55, .iinc 4 1, false), (58, .aload_n 0, false)]) (by decide +kernel) (ps := []) (pc' := 59) (L' := #[.val ((.ref a)), .val (.long e), .second, .val (.int iv), .val (.int (cv + (1 : Int32)))]) (S' := [(.ref a)]) rfl trivial ?_
          refine wp_getF ok (wd hw 10 rfl) lF1 (by decide +kernel) ?_
          refine wp_run ok hK (B := [(62, .iload 4, false)]) (by decide +kernel) (ps := []) (pc' := 64) (L' := #[.val ((.ref a)), .val (.long e), .second, .val (.int iv), .val (.int (cv + (1 : Int32)))]) (S' := [.int (cv + (1 : Int32)), (.ref hd)]) rfl trivial ?_
          have k_i := j2_i
          have k_s : (2 * i + 1 + 1) < sz := q32
          have k_n : (2 * i + 1 + 1) ≠ i := by omega
          obtain ⟨wk, hwk⟩ := own_at hI k_s k_n
          have k_w := (INV_swap hI his k_s k_n p5 hwk).1
          refine wp_aJ ok lA1 (i := (2 * i + 1 + 1)) k_i (by omega) (v := .long (HL (2 * i + 1 + 1))) rfl (by decide +kernel) ?_
          refine wp_run ok hK (B := [(65, .lload_n 1, false), (66, .lcmp, false)]) (by decide +kernel) (ps := []) (pc' := 67) (L' := #[.val ((.ref a)), .val (.long e), .second, .val (.int iv), .val (.int (cv + (1 : Int32)))]) (S' := [.int (cmpL (HL (2 * i + 1 + 1)) e)]) rfl trivial ?_
          by_cases hc67 : e < (HL (2 * i + 1 + 1))
          · refine wp_run ok hK (B := [(67, .ifCond .le 6, false)]) (by decide +kernel) (ps := [Op.ifCond.holds .le (cmpL (HL (2 * i + 1 + 1)) e) = false]) (pc' := 70) (L' := #[.val ((.ref a)), .val (.long e), .second, .val (.int iv), .val (.int (cv + (1 : Int32)))]) (S' := []) rfl ⟨(XT.ll_le_f hc67), trivial⟩ ?_
            refine wp_run ok hK (B := [(70, .goto 42, false), (112, .aload_n 0, false)]) (by decide +kernel) (ps := []) (pc' := 113) (L' := #[.val ((.ref a)), .val (.long e), .second, .val (.int iv), .val (.int (cv + (1 : Int32)))]) (S' := [(.ref a)]) rfl trivial ?_
            refine wp_getF ok (wd hw 10 rfl) lF1 (by decide +kernel) ?_
            refine wp_run ok hK (B := [(116, .iload_n 3, false), (117, .lload_n 1, false)]) (by decide +kernel) (ps := []) (pc' := 118) (L' := #[.val ((.ref a)), .val (.long e), .second, .val (.int iv), .val (.int (cv + (1 : Int32)))]) (S' := [.long e, .int iv, (.ref hd)]) rfl trivial ?_
            refine wp_sJ ok lA1 (i := i) hiv (by omega) (by decide +kernel) g_hd ?_
            intro h1 W2 A3
            have F4 := lF1.other W2 (Or.inl lnhd)
            have F5 := lF2.other W2 (Or.inl lnhd)
            have F6 := lF3.other W2 (Or.inl lnhd)
            have A7 := lA2.other W2 (Ne.symm lN)
            have E8 := lE.wr W2
            have Z9 : n0 ≤ h1.size := by rw [W2.size]; exact ZL
            have K10 := KL.wr W2 (Or.inl (by simp))
            have A11 : Ar Z h1 hd .long cap (fun q => .long ((upd HL i e) q)) := Ar_uJ A3
            refine wp_run ok hK (B := [(119, .aload_n 0, false)]) (by decide +kernel) (ps := []) (pc' := 120) (L' := #[.val ((.ref a)), .val (.long e), .second, .val (.int iv), .val (.int (cv + (1 : Int32)))]) (S' := [(.ref a)]) rfl trivial ?_
            refine wp_getF ok (wd hw 13 rfl) F5 (by decide +kernel) ?_
            refine wp_run ok hK (B := [(123, .lload_n 1, false), (124, .l2i, false), (125, .iload_n 3, false)]) (by decide +kernel) (ps := []) (pc' := 126) (L' := #[.val ((.ref a)), .val (.long e), .second, .val (.int iv), .val (.int (cv + (1 : Int32)))]) (S' := [.int iv, .int (e.toInt32), (.ref pd)]) rfl trivial ?_
            refine wp_sI ok A7 (i := v0) p4 p5 (by decide +kernel) g_pd ?_
            intro h12 W13 A14
            have F15 := F4.other W13 (Or.inl lnpd)
            have F16 := F5.other W13 (Or.inl lnpd)
            have F17 := F6.other W13 (Or.inl lnpd)
            have A18 := A11.other W13 lN
            have E19 := E8.wr W13
            have Z20 : n0 ≤ h12.size := by rw [W13.size]; exact Z9
            have K21 := K10.wr W13 (Or.inl (by simp))
            have A22 : Ar Z h12 pd .int cap (fun q => .int ((upd PL v0 iv) q)) := Ar_uI A14
            refine wp_retV ok (by decide +kernel) (by decide) (by decide) ?_
            refine ⟨rfl, K21, (upd PL v0 iv), (upd HL i e), ⟨E19, F15, F16, F17, A18, A22, lN⟩, ?_⟩
            rw [iP_upd _ _ _ hiv, iH_upd _ _ _ p4]
            exact hI
          · refine wp_run ok hK (B := [(67, .ifCond .le 6, true)]) (by decide +kernel) (ps := [Op.ifCond.holds .le (cmpL (HL (2 * i + 1 + 1)) e) = true]) (pc' := 73) (L' := #[.val ((.ref a)), .val (.long e), .second, .val (.int iv), .val (.int (cv + (1 : Int32)))]) (S' := []) rfl ⟨(XT.ll_le_t hc67), trivial⟩ ?_
            refine wp_run ok hK (B := [(73, .aload_n 0, false)]) (by decide +kernel) (ps := []) (pc' := 74) (L' := #[.val ((.ref a)), .val (.long e), .second, .val (.int iv), .val (.int (cv + (1 : Int32)))]) (S' := [(.ref a)]) rfl trivial ?_
            refine wp_getF ok (wd hw 10 rfl) lF1 (by decide +kernel) ?_
            refine wp_run ok hK (B := [(77, .iload_n 3, false), (78, .aload_n 0, false)]) (by decide +kernel) (ps := []) (pc' := 79) (L' := #[.val ((.ref a)), .val (.long e), .second, .val (.int iv), .val (.int (cv + (1 : Int32)))]) (S' := [(.ref a), .int iv, (.ref hd)]) rfl trivial ?_
            refine wp_getF ok (wd hw 10 rfl) lF1 (by decide +kernel) ?_
            refine wp_run ok hK (B := [(82, .iload 4, false)]) (by decide +kernel) (ps := []) (pc' := 84) (L' := #[.val ((.ref a)), .val (.long e), .second, .val (.int iv), .val (.int (cv + (1 : Int32)))]) (S' := [.int (cv + (1 : Int32)), (.ref hd), .int iv, (.ref hd)]) rfl trivial ?_
            refine wp_aJ ok lA1 (i := (2 * i + 1 + 1)) k_i (by omega) (v := .long (HL (2 * i + 1 + 1))) rfl (by decide +kernel) ?_
            refine wp_sJ ok lA1 (i := i) hiv (by omega) (by decide +kernel) g_hd ?_
            intro h23 W24 A25
            have F26 := lF1.other W24 (Or.inl lnhd)
            have F27 := lF2.other W24 (Or.inl lnhd)
            have F28 := lF3.other W24 (Or.inl lnhd)
            have A29 := lA2.other W24 (Ne.symm lN)
            have E30 := lE.wr W24
            have Z31 : n0 ≤ h23.size := by rw [W24.size]; exact ZL
            have K32 := KL.wr W24 (Or.inl (by simp))
            have A33 : Ar Z h23 hd .long cap (fun q => .long ((upd HL i (HL (2 * i + 1 + 1))) q)) := Ar_uJ A25
            refine wp_run ok hK (B := [(86, .aload_n 0, false)]) (by decide +kernel) (ps := []) (pc' := 87) (L' := #[.val ((.ref a)), .val (.long e), .second, .val (.int iv), .val (.int (cv + (1 : Int32)))]) (S' := [(.ref a)]) rfl trivial ?_
            refine wp_getF ok (wd hw 13 rfl) F27 (by decide +kernel) ?_
            refine wp_run ok hK (B := [(90, .aload_n 0, false)]) (by decide +kernel) (ps := []) (pc' := 91) (L' := #[.val ((.ref a)), .val (.long e), .second, .val (.int iv), .val (.int (cv + (1 : Int32)))]) (S' := [(.ref a), (.ref pd)]) rfl trivial ?_
            refine wp_getF ok (wd hw 10 rfl) F26 (by decide +kernel) ?_
            refine wp_run ok hK (B := [(94, .iload_n 3, false)]) (by decide +kernel) (ps := []) (pc' := 95) (L' := #[.val ((.ref a)), .val (.long e), .second, .val (.int iv), .val (.int (cv + (1 : Int32)))]) (S' := [.int iv, (.ref hd), (.ref pd)]) rfl trivial ?_
            refine wp_aJ ok A33 (i := i) hiv (by omega) (v := .long (HL (2 * i + 1 + 1))) (congrArg Value.long (upd_at _ _ _)) (by decide +kernel) ?_
            refine wp_run ok hK (B := [(96, .l2i, false), (97, .iload_n 3, false)]) (by decide +kernel) (ps := []) (pc' := 98) (L' := #[.val ((.ref a)), .val (.long e), .second, .val (.int iv), .val (.int (cv + (1 : Int32)))]) (S' := [.int iv, .int ((HL (2 * i + 1 + 1)).toInt32), (.ref pd)]) rfl trivial ?_
            refine wp_sI ok A29 (i := wk) hwk k_w (by decide +kernel) g_pd ?_
            intro h34 W35 A36
            have F37 := F26.other W35 (Or.inl lnpd)
            have F38 := F27.other W35 (Or.inl lnpd)
            have F39 := F28.other W35 (Or.inl lnpd)
            have A40 := A33.other W35 lN
            have E41 := E30.wr W35
            have Z42 : n0 ≤ h34.size := by rw [W35.size]; exact Z31
            have K43 := K32.wr W35 (Or.inl (by simp))
            have A44 : Ar Z h34 pd .int cap (fun q => .int ((upd PL wk iv) q)) := Ar_uI A36
            refine wp_run ok hK (B := [(99, .iload 4, false), (101, .istore_n 3, false), (102, .iconst 2, false), (103, .iload_n 3, false), (104, .imul, false), (105, .iconst 1, false), (106, .iadd, false), (107, .istore 4, false)]) (by decide +kernel) (ps := []) (pc' := 109) (L' := #[.val ((.ref a)), .val (.long e), .second, .val (.int (cv + (1 : Int32))), .val (.int (((2 : Int32) * (cv + (1 : Int32))) + (1 : Int32)))]) (S' := []) rfl trivial ?_
            refine wp_run ok hK (B := [(109, .goto (-94), false)]) (by decide +kernel) (ps := []) (pc' := 15) (L' := #[.val ((.ref a)), .val (.long e), .second, .val (.int (cv + (1 : Int32))), .val (.int (((2 : Int32) * (cv + (1 : Int32))) + (1 : Int32)))]) (S' := []) rfl trivial ?_
            have hI2 := (INV_swap hI his k_s k_n p5 hwk).2.2
            rw [← iP_upd PL _ iv hiv, ← iH_upd HL i _ hwk] at hI2
            exact ih (sz - (2 * i + 1 + 1)) (by omega) _ _ _ _ (2 * i + 1 + 1) _ (own_two k_i (by omega)) K43 ⟨E41, F37, F38, F39, A40, A44, lN⟩ hI2 k_i k_s Z42 rfl
        · refine wp_run ok hK (B := [(52, .ifCond .ge 6, true)]) (by decide +kernel) (ps := [Op.ifCond.holds .ge (cmpL (HL (2 * i + 1 + 1)) (HL (2 * i + 1))) = true]) (pc' := 58) (L' := #[.val ((.ref a)), .val (.long e), .second, .val (.int iv), .val (.int cv)]) (S' := []) rfl ⟨(XT.ll_ge_t hc52), trivial⟩ ?_
          refine wp_run ok hK (B := [(58, .aload_n 0, false)]) (by decide +kernel) (ps := []) (pc' := 59) (L' := #[.val ((.ref a)), .val (.long e), .second, .val (.int iv), .val (.int cv)]) (S' := [(.ref a)]) rfl trivial ?_
          refine wp_getF ok (wd hw 10 rfl) lF1 (by decide +kernel) ?_
          refine wp_run ok hK (B := [(62, .iload 4, false)]) (by decide +kernel) (ps := []) (pc' := 64) (L' := #[.val ((.ref a)), .val (.long e), .second, .val (.int iv), .val (.int cv)]) (S' := [.int cv, (.ref hd)]) rfl trivial ?_
          have k_i := hcv
          have q21 := own_lt hc21 hcv (own_nat (by omega))
          have k_s : (2 * i + 1) < sz := q21
          have k_n : (2 * i + 1) ≠ i := by omega
          obtain ⟨wk, hwk⟩ := own_at hI k_s k_n
          have k_w := (INV_swap hI his k_s k_n p5 hwk).1
          refine wp_aJ ok lA1 (i := (2 * i + 1)) k_i (by omega) (v := .long (HL (2 * i + 1))) rfl (by decide +kernel) ?_
          refine wp_run ok hK (B := [(65, .lload_n 1, false), (66, .lcmp, false)]) (by decide +kernel) (ps := []) (pc' := 67) (L' := #[.val ((.ref a)), .val (.long e), .second, .val (.int iv), .val (.int cv)]) (S' := [.int (cmpL (HL (2 * i + 1)) e)]) rfl trivial ?_
          by_cases hc67 : e < (HL (2 * i + 1))
          · refine wp_run ok hK (B := [(67, .ifCond .le 6, false)]) (by decide +kernel) (ps := [Op.ifCond.holds .le (cmpL (HL (2 * i + 1)) e) = false]) (pc' := 70) (L' := #[.val ((.ref a)), .val (.long e), .second, .val (.int iv), .val (.int cv)]) (S' := []) rfl ⟨(XT.ll_le_f hc67), trivial⟩ ?_
            refine wp_run ok hK (B := [(70, .goto 42, false), (112, .aload_n 0, false)]) (by decide +kernel) (ps := []) (pc' := 113) (L' := #[.val ((.ref a)), .val (.long e), .second, .val (.int iv), .val (.int cv)]) (S' := [(.ref a)]) rfl trivial ?_
            refine wp_getF ok (wd hw 10 rfl) lF1 (by decide +kernel) ?_
            refine wp_run ok hK (B := [(116, .iload_n 3, false), (117, .lload_n 1, false)]) (by decide +kernel) (ps := []) (pc' := 118) (L' := #[.val ((.ref a)), .val (.long e), .second, .val (.int iv), .val (.int cv)]) (S' := [.long e, .int iv, (.ref hd)]) rfl trivial ?_
            refine wp_sJ ok lA1 (i := i) hiv (by omega) (by decide +kernel) g_hd ?_
            intro h45 W46 A47
            have F48 := lF1.other W46 (Or.inl lnhd)
            have F49 := lF2.other W46 (Or.inl lnhd)
            have F50 := lF3.other W46 (Or.inl lnhd)
            have A51 := lA2.other W46 (Ne.symm lN)
            have E52 := lE.wr W46
            have Z53 : n0 ≤ h45.size := by rw [W46.size]; exact ZL
            have K54 := KL.wr W46 (Or.inl (by simp))
            have A55 : Ar Z h45 hd .long cap (fun q => .long ((upd HL i e) q)) := Ar_uJ A47
            refine wp_run ok hK (B := [(119, .aload_n 0, false)]) (by decide +kernel) (ps := []) (pc' := 120) (L' := #[.val ((.ref a)), .val (.long e), .second, .val (.int iv), .val (.int cv)]) (S' := [(.ref a)]) rfl trivial ?_
            refine wp_getF ok (wd hw 13 rfl) F49 (by decide +kernel) ?_
            refine wp_run ok hK (B := [(123, .lload_n 1, false), (124, .l2i, false), (125, .iload_n 3, false)]) (by decide +kernel) (ps := []) (pc' := 126) (L' := #[.val ((.ref a)), .val (.long e), .second, .val (.int iv), .val (.int cv)]) (S' := [.int iv, .int (e.toInt32), (.ref pd)]) rfl trivial ?_
            refine wp_sI ok A51 (i := v0) p4 p5 (by decide +kernel) g_pd ?_
            intro h56 W57 A58
            have F59 := F48.other W57 (Or.inl lnpd)
            have F60 := F49.other W57 (Or.inl lnpd)
            have F61 := F50.other W57 (Or.inl lnpd)
            have A62 := A55.other W57 lN
            have E63 := E52.wr W57
            have Z64 : n0 ≤ h56.size := by rw [W57.size]; exact Z53
            have K65 := K54.wr W57 (Or.inl (by simp))
            have A66 : Ar Z h56 pd .int cap (fun q => .int ((upd PL v0 iv) q)) := Ar_uI A58
            refine wp_retV ok (by decide +kernel) (by decide) (by decide) ?_
            refine ⟨rfl, K65, (upd PL v0 iv), (upd HL i e), ⟨E63, F59, F60, F61, A62, A66, lN⟩, ?_⟩
            rw [iP_upd _ _ _ hiv, iH_upd _ _ _ p4]
            exact hI
          · refine wp_run ok hK (B := [(67, .ifCond .le 6, true)]) (by decide +kernel) (ps := [Op.ifCond.holds .le (cmpL (HL (2 * i + 1)) e) = true]) (pc' := 73) (L' := #[.val ((.ref a)), .val (.long e), .second, .val (.int iv), .val (.int cv)]) (S' := []) rfl ⟨(XT.ll_le_t hc67), trivial⟩ ?_
            refine wp_run ok hK (B := [(73, .aload_n 0, false)]) (by decide +kernel) (ps := []) (pc' := 74) (L' := #[.val ((.ref a)), .val (.long e), .second, .val (.int iv), .val (.int cv)]) (S' := [(.ref a)]) rfl trivial ?_
            refine wp_getF ok (wd hw 10 rfl) lF1 (by decide +kernel) ?_
            refine wp_run ok hK (B := [(77, .iload_n 3, false), (78, .aload_n 0, false)]) (by decide +kernel) (ps := []) (pc' := 79) (L' := #[.val ((.ref a)), .val (.long e), .second, .val (.int iv), .val (.int cv)]) (S' := [(.ref a), .int iv, (.ref hd)]) rfl trivial ?_
            refine wp_getF ok (wd hw 10 rfl) lF1 (by decide +kernel) ?_
            refine wp_run ok hK (B := [(82, .iload 4, false)]) (by decide +kernel) (ps := []) (pc' := 84) (L' := #[.val ((.ref a)), .val (.long e), .second, .val (.int iv), .val (.int cv)]) (S' := [.int cv, (.ref hd), .int iv, (.ref hd)]) rfl trivial ?_
            refine wp_aJ ok lA1 (i := (2 * i + 1)) k_i (by omega) (v := .long (HL (2 * i + 1))) rfl (by decide +kernel) ?_
            refine wp_sJ ok lA1 (i := i) hiv (by omega) (by decide +kernel) g_hd ?_
            intro h67 W68 A69
            have F70 := lF1.other W68 (Or.inl lnhd)
            have F71 := lF2.other W68 (Or.inl lnhd)
            have F72 := lF3.other W68 (Or.inl lnhd)
            have A73 := lA2.other W68 (Ne.symm lN)
            have E74 := lE.wr W68
            have Z75 : n0 ≤ h67.size := by rw [W68.size]; exact ZL
            have K76 := KL.wr W68 (Or.inl (by simp))
            have A77 : Ar Z h67 hd .long cap (fun q => .long ((upd HL i (HL (2 * i + 1))) q)) := Ar_uJ A69
            refine wp_run ok hK (B := [(86, .aload_n 0, false)]) (by decide +kernel) (ps := []) (pc' := 87) (L' := #[.val ((.ref a)), .val (.long e), .second, .val (.int iv), .val (.int cv)]) (S' := [(.ref a)]) rfl trivial ?_
            refine wp_getF ok (wd hw 13 rfl) F71 (by decide +kernel) ?_
            refine wp_run ok hK (B := [(90, .aload_n 0, false)]) (by decide +kernel) (ps := []) (pc' := 91) (L' := #[.val ((.ref a)), .val (.long e), .second, .val (.int iv), .val (.int cv)]) (S' := [(.ref a), (.ref pd)]) rfl trivial ?_
            refine wp_getF ok (wd hw 10 rfl) F70 (by decide +kernel) ?_
            refine wp_run ok hK (B := [(94, .iload_n 3, false)]) (by decide +kernel) (ps := []) (pc' := 95) (L' := #[.val ((.ref a)), .val (.long e), .second, .val (.int iv), .val (.int cv)]) (S' := [.int iv, (.ref hd), (.ref pd)]) rfl trivial ?_
            refine wp_aJ ok A77 (i := i) hiv (by omega) (v := .long (HL (2 * i + 1))) (congrArg Value.long (upd_at _ _ _)) (by decide +kernel) ?_
            refine wp_run ok hK (B := [(96, .l2i, false), (97, .iload_n 3, false)]) (by decide +kernel) (ps := []) (pc' := 98) (L' := #[.val ((.ref a)), .val (.long e), .second, .val (.int iv), .val (.int cv)]) (S' := [.int iv, .int ((HL (2 * i + 1)).toInt32), (.ref pd)]) rfl trivial ?_
            refine wp_sI ok A73 (i := wk) hwk k_w (by decide +kernel) g_pd ?_
            intro h78 W79 A80
            have F81 := F70.other W79 (Or.inl lnpd)
            have F82 := F71.other W79 (Or.inl lnpd)
            have F83 := F72.other W79 (Or.inl lnpd)
            have A84 := A77.other W79 lN
            have E85 := E74.wr W79
            have Z86 : n0 ≤ h78.size := by rw [W79.size]; exact Z75
            have K87 := K76.wr W79 (Or.inl (by simp))
            have A88 : Ar Z h78 pd .int cap (fun q => .int ((upd PL wk iv) q)) := Ar_uI A80
            refine wp_run ok hK (B := [(99, .iload 4, false), (101, .istore_n 3, false), (102, .iconst 2, false), (103, .iload_n 3, false), (104, .imul, false), (105, .iconst 1, false), (106, .iadd, false), (107, .istore 4, false)]) (by decide +kernel) (ps := []) (pc' := 109) (L' := #[.val ((.ref a)), .val (.long e), .second, .val (.int cv), .val (.int (((2 : Int32) * cv) + (1 : Int32)))]) (S' := []) rfl trivial ?_
            refine wp_run ok hK (B := [(109, .goto (-94), false)]) (by decide +kernel) (ps := []) (pc' := 15) (L' := #[.val ((.ref a)), .val (.long e), .second, .val (.int cv), .val (.int (((2 : Int32) * cv) + (1 : Int32)))]) (S' := []) rfl trivial ?_
            have hI2 := (INV_swap hI his k_s k_n p5 hwk).2.2
            rw [← iP_upd PL _ iv hiv, ← iH_upd HL i _ hwk] at hI2
            exact ih (sz - (2 * i + 1)) (by omega) _ _ _ _ (2 * i + 1) _ (own_two k_i (by omega)) K87 ⟨E85, F81, F82, F83, A84, A88, lN⟩ hI2 k_i k_s Z86 rfl
      · refine wp_run ok hK (B := [(32, .if_icmp .ge 26, true)]) (by decide +kernel) (ps := [Op.if_icmp.holds .ge (cv + (1 : Int32)) (Int32.ofNat sz) = true]) (pc' := 58) (L' := #[.val ((.ref a)), .val (.long e), .second, .val (.int iv), .val (.int cv)]) (S' := []) rfl ⟨(XT.ii_ge_t hc32), trivial⟩ ?_
        refine wp_run ok hK (B := [(58, .aload_n 0, false)]) (by decide +kernel) (ps := []) (pc' := 59) (L' := #[.val ((.ref a)), .val (.long e), .second, .val (.int iv), .val (.int cv)]) (S' := [(.ref a)]) rfl trivial ?_
        refine wp_getF ok (wd hw 10 rfl) lF1 (by decide +kernel) ?_
        refine wp_run ok hK (B := [(62, .iload 4, false)]) (by decide +kernel) (ps := []) (pc' := 64) (L' := #[.val ((.ref a)), .val (.long e), .second, .val (.int iv), .val (.int cv)]) (S' := [.int cv, (.ref hd)]) rfl trivial ?_
        have k_i := hcv
        have q21 := own_lt hc21 hcv (own_nat (by omega))
        have k_s : (2 * i + 1) < sz := q21
        have k_n : (2 * i + 1) ≠ i := by omega
        obtain ⟨wk, hwk⟩ := own_at hI k_s k_n
        have k_w := (INV_swap hI his k_s k_n p5 hwk).1
        refine wp_aJ ok lA1 (i := (2 * i + 1)) k_i (by omega) (v := .long (HL (2 * i + 1))) rfl (by decide +kernel) ?_
        refine wp_run ok hK (B := [(65, .lload_n 1, false), (66, .lcmp, false)]) (by decide +kernel) (ps := []) (pc' := 67) (L' := #[.val ((.ref a)), .val (.long e), .second, .val (.int iv), .val (.int cv)]) (S' := [.int (cmpL (HL (2 * i + 1)) e)]) rfl trivial ?_
        by_cases hc67 : e < (HL (2 * i + 1))
        · refine wp_run ok hK (B := [(67, .ifCond .le 6, false)]) (by decide +kernel) (ps := [Op.ifCond.holds .le (cmpL (HL (2 * i + 1)) e) = false]) (pc' := 70) (L' := #[.val ((.ref a)), .val (.long e), .second, .val (.int iv), .val (.int cv)]) (S' := []) rfl ⟨(XT.ll_le_f hc67), trivial⟩ ?_
          refine wp_run ok hK (B := [(70, .goto 42, false), (112, .aload_n 0, false)]) (by decide +kernel) (ps := []) (pc' := 113) (L' := #[.val ((.ref a)), .val (.long e), .second, .val (.int iv), .val (.int cv)]) (S' := [(.ref a)]) rfl trivial ?_
          refine wp_getF ok (wd hw 10 rfl) lF1 (by decide +kernel) ?_
          refine wp_run ok hK (B := [(116, .iload_n 3, false), (117, .lload_n 1, false)]) (by decide +kernel) (ps := []) (pc' := 118) (L' := #[.val ((.ref a)), .val (.long e), .second, .val (.int iv), .val (.int cv)]) (S' := [.long e, .int iv, (.ref hd)]) rfl trivial ?_
          refine wp_sJ ok lA1 (i := i) hiv (by omega) (by decide +kernel) g_hd ?_
          intro h89 W90 A91
          have F92 := lF1.other W90 (Or.inl lnhd)
          have F93 := lF2.other W90 (Or.inl lnhd)
          have F94 := lF3.other W90 (Or.inl lnhd)
          have A95 := lA2.other W90 (Ne.symm lN)
          have E96 := lE.wr W90
          have Z97 : n0 ≤ h89.size := by rw [W90.size]; exact ZL
          have K98 := KL.wr W90 (Or.inl (by simp))
          have A99 : Ar Z h89 hd .long cap (fun q => .long ((upd HL i e) q)) := Ar_uJ A91
          refine wp_run ok hK (B := [(119, .aload_n 0, false)]) (by decide +kernel) (ps := []) (pc' := 120) (L' := #[.val ((.ref a)), .val (.long e), .second, .val (.int iv), .val (.int cv)]) (S' := [(.ref a)]) rfl trivial ?_
          refine wp_getF ok (wd hw 13 rfl) F93 (by decide +kernel) ?_
          refine wp_run ok hK (B := [(123, .lload_n 1, false), (124, .l2i, false), (125, .iload_n 3, false)]) (by decide +kernel) (ps := []) (pc' := 126) (L' := #[.val ((.ref a)), .val (.long e), .second, .val (.int iv), .val (.int cv)]) (S' := [.int iv, .int (e.toInt32), (.ref pd)]) rfl trivial ?_
          refine wp_sI ok A95 (i := v0) p4 p5 (by decide +kernel) g_pd ?_
          intro h100 W101 A102
          have F103 := F92.other W101 (Or.inl lnpd)
          have F104 := F93.other W101 (Or.inl lnpd)
          have F105 := F94.other W101 (Or.inl lnpd)
          have A106 := A99.other W101 lN
          have E107 := E96.wr W101
          have Z108 : n0 ≤ h100.size := by rw [W101.size]; exact Z97
          have K109 := K98.wr W101 (Or.inl (by simp))
          have A110 : Ar Z h100 pd .int cap (fun q => .int ((upd PL v0 iv) q)) := Ar_uI A102
          refine wp_retV ok (by decide +kernel) (by decide) (by decide) ?_
          refine ⟨rfl, K109, (upd PL v0 iv), (upd HL i e), ⟨E107, F103, F104, F105, A106, A110, lN⟩, ?_⟩
          rw [iP_upd _ _ _ hiv, iH_upd _ _ _ p4]
          exact hI
        · refine wp_run ok hK (B := [(67, .ifCond .le 6, true)]) (by decide +kernel) (ps := [Op.ifCond.holds .le (cmpL (HL (2 * i + 1)) e) = true]) (pc' := 73) (L' := #[.val ((.ref a)), .val (.long e), .second, .val (.int iv), .val (.int cv)]) (S' := []) rfl ⟨(XT.ll_le_t hc67), trivial⟩ ?_
          refine wp_run ok hK (B := [(73, .aload_n 0, false)]) (by decide +kernel) (ps := []) (pc' := 74) (L' := #[.val ((.ref a)), .val (.long e), .second, .val (.int iv), .val (.int cv)]) (S' := [(.ref a)]) rfl trivial ?_
          refine wp_getF ok (wd hw 10 rfl) lF1 (by decide +kernel) ?_
          refine wp_run ok hK (B := [(77, .iload_n 3, false), (78, .aload_n 0, false)]) (by decide +kernel) (ps := []) (pc' := 79) (L' := #[.val ((.ref a)), .val (.long e), .second, .val (.int iv), .val (.int cv)]) (S' := [(.ref a), .int iv, (.ref hd)]) rfl trivial ?_
          refine wp_getF ok (wd hw 10 rfl) lF1 (by decide +kernel) ?_
          refine wp_run ok hK (B := [(82, .iload 4, false)]) (by decide +kernel) (ps := []) (pc' := 84) (L' := #[.val ((.ref a)), .val (.long e), .second, .val (.int iv), .val (.int cv)]) (S' := [.int cv, (.ref hd), .int iv, (.ref hd)]) rfl trivial ?_
          refine wp_aJ ok lA1 (i := (2 * i + 1)) k_i (by omega) (v := .long (HL (2 * i + 1))) rfl (by decide +kernel) ?_
          refine wp_sJ ok lA1 (i := i) hiv (by omega) (by decide +kernel) g_hd ?_
          intro h111 W112 A113
          have F114 := lF1.other W112 (Or.inl lnhd)
          have F115 := lF2.other W112 (Or.inl lnhd)
          have F116 := lF3.other W112 (Or.inl lnhd)
          have A117 := lA2.other W112 (Ne.symm lN)
          have E118 := lE.wr W112
          have Z119 : n0 ≤ h111.size := by rw [W112.size]; exact ZL
          have K120 := KL.wr W112 (Or.inl (by simp))
          have A121 : Ar Z h111 hd .long cap (fun q => .long ((upd HL i (HL (2 * i + 1))) q)) := Ar_uJ A113
          refine wp_run ok hK (B := [(86, .aload_n 0, false)]) (by decide +kernel) (ps := []) (pc' := 87) (L' := #[.val ((.ref a)), .val (.long e), .second, .val (.int iv), .val (.int cv)]) (S' := [(.ref a)]) rfl trivial ?_
          refine wp_getF ok (wd hw 13 rfl) F115 (by decide +kernel) ?_
          refine wp_run ok hK (B := [(90, .aload_n 0, false)]) (by decide +kernel) (ps := []) (pc' := 91) (L' := #[.val ((.ref a)), .val (.long e), .second, .val (.int iv), .val (.int cv)]) (S' := [(.ref a), (.ref pd)]) rfl trivial ?_
          refine wp_getF ok (wd hw 10 rfl) F114 (by decide +kernel) ?_
          refine wp_run ok hK (B := [(94, .iload_n 3, false)]) (by decide +kernel) (ps := []) (pc' := 95) (L' := #[.val ((.ref a)), .val (.long e), .second, .val (.int iv), .val (.int cv)]) (S' := [.int iv, (.ref hd), (.ref pd)]) rfl trivial ?_
          refine wp_aJ ok A121 (i := i) hiv (by omega) (v := .long (HL (2 * i + 1))) (congrArg Value.long (upd_at _ _ _)) (by decide +kernel) ?_
          refine wp_run ok hK (B := [(96, .l2i, false), (97, .iload_n 3, false)]) (by decide +kernel) (ps := []) (pc' := 98) (L' := #[.val ((.ref a)), .val (.long e), .second, .val (.int iv), .val (.int cv)]) (S' := [.int iv, .int ((HL (2 * i + 1)).toInt32), (.ref pd)]) rfl trivial ?_
          refine wp_sI ok A117 (i := wk) hwk k_w (by decide +kernel) g_pd ?_
          intro h122 W123 A124
          have F125 := F114.other W123 (Or.inl lnpd)
          have F126 := F115.other W123 (Or.inl lnpd)
          have F127 := F116.other W123 (Or.inl lnpd)
          have A128 := A121.other W123 lN
          have E129 := E118.wr W123
          have Z130 : n0 ≤ h122.size := by rw [W123.size]; exact Z119
          have K131 := K120.wr W123 (Or.inl (by simp))
          have A132 : Ar Z h122 pd .int cap (fun q => .int ((upd PL wk iv) q)) := Ar_uI A124
          refine wp_run ok hK (B := [(99, .iload 4, false), (101, .istore_n 3, false), (102, .iconst 2, false), (103, .iload_n 3, false), (104, .imul, false), (105, .iconst 1, false), (106, .iadd, false), (107, .istore 4, false)]) (by decide +kernel) (ps := []) (pc' := 109) (L' := #[.val ((.ref a)), .val (.long e), .second, .val (.int cv), .val (.int (((2 : Int32) * cv) + (1 : Int32)))]) (S' := []) rfl trivial ?_
          refine wp_run ok hK (B := [(109, .goto (-94), false)]) (by decide +kernel) (ps := []) (pc' := 15) (L' := #[.val ((.ref a)), .val (.long e), .second, .val (.int cv), .val (.int (((2 : Int32) * cv) + (1 : Int32)))]) (S' := []) rfl trivial ?_
          have hI2 := (INV_swap hI his k_s k_n p5 hwk).2.2
          rw [← iP_upd PL _ iv hiv, ← iH_upd HL i _ hwk] at hI2
          exact ih (sz - (2 * i + 1)) (by omega) _ _ _ _ (2 * i + 1) _ (own_two k_i (by omega)) K131 ⟨E129, F125, F126, F127, A128, A132, lN⟩ hI2 k_i k_s Z130 rfl
    · refine wp_run ok hK (B := [(21, .if_icmp .ge 91, true)]) (by decide +kernel) (ps := [Op.if_icmp.holds .ge cv (Int32.ofNat sz) = true]) (pc' := 112) (L' := #[.val ((.ref a)), .val (.long e), .second, .val (.int iv), .val (.int cv)]) (S' := []) rfl ⟨(XT.ii_ge_t hc21), trivial⟩ ?_
      refine wp_run ok hK (B := [(112, .aload_n 0, false)]) (by decide +kernel) (ps := []) (pc' := 113) (L' := #[.val ((.ref a)), .val (.long e), .second, .val (.int iv), .val (.int cv)]) (S' := [(.ref a)]) rfl trivial ?_
      refine wp_getF ok (wd hw 10 rfl) lF1 (by decide +kernel) ?_
      refine wp_run ok hK (B := [(116, .iload_n 3, false), (117, .lload_n 1, false)]) (by decide +kernel) (ps := []) (pc' := 118) (L' := #[.val ((.ref a)), .val (.long e), .second, .val (.int iv), .val (.int cv)]) (S' := [.long e, .int iv, (.ref hd)]) rfl trivial ?_
      refine wp_sJ ok lA1 (i := i) hiv (by omega) (by decide +kernel) g_hd ?_
      intro h133 W134 A135
      have F136 := lF1.other W134 (Or.inl lnhd)
      have F137 := lF2.other W134 (Or.inl lnhd)
      have F138 := lF3.other W134 (Or.inl lnhd)
      have A139 := lA2.other W134 (Ne.symm lN)
      have E140 := lE.wr W134
      have Z141 : n0 ≤ h133.size := by rw [W134.size]; exact ZL
      have K142 := KL.wr W134 (Or.inl (by simp))
      have A143 : Ar Z h133 hd .long cap (fun q => .long ((upd HL i e) q)) := Ar_uJ A135
      refine wp_run ok hK (B := [(119, .aload_n 0, false)]) (by decide +kernel) (ps := []) (pc' := 120) (L' := #[.val ((.ref a)), .val (.long e), .second, .val (.int iv), .val (.int cv)]) (S' := [(.ref a)]) rfl trivial ?_
      refine wp_getF ok (wd hw 13 rfl) F137 (by decide +kernel) ?_
      refine wp_run ok hK (B := [(123, .lload_n 1, false), (124, .l2i, false), (125, .iload_n 3, false)]) (by decide +kernel) (ps := []) (pc' := 126) (L' := #[.val ((.ref a)), .val (.long e), .second, .val (.int iv), .val (.int cv)]) (S' := [.int iv, .int (e.toInt32), (.ref pd)]) rfl trivial ?_
      refine wp_sI ok A139 (i := v0) p4 p5 (by decide +kernel) g_pd ?_
      intro h144 W145 A146
      have F147 := F136.other W145 (Or.inl lnpd)
      have F148 := F137.other W145 (Or.inl lnpd)
      have F149 := F138.other W145 (Or.inl lnpd)
      have A150 := A143.other W145 lN
      have E151 := E140.wr W145
      have Z152 : n0 ≤ h144.size := by rw [W145.size]; exact Z141
      have K153 := K142.wr W145 (Or.inl (by simp))
      have A154 : Ar Z h144 pd .int cap (fun q => .int ((upd PL v0 iv) q)) := Ar_uI A146
      refine wp_retV ok (by decide +kernel) (by decide) (by decide) ?_
      refine ⟨rfl, K153, (upd PL v0 iv), (upd HL i e), ⟨E151, F147, F148, F149, A150, A154, lN⟩, ?_⟩
      rw [iP_upd _ _ _ hiv, iH_upd _ _ _ p4]
      exact hI
  have hI1 : INV cap sz (upd (iP P) v0 (i0 : Int)) (upd (iH H) i0 (v0 : Int)) hold := hI0.cong (fun v hv => own_same p3 v) (fun i hi => rfl)
  exact loop (sz - i0) h0 P H _ i0 _ (own_two p3 (by have := hI0.1; omega)) K0 HB hI1 p3 p2 Z0 rfl
def k_ent : List (Nat × Value) := []
def Q_ent (Z : State) (x : Int32) (u : Int32) (h0 : Heap) : Post := fun v h => v = some (.long ((u.toInt64 <<< ((32 : Int32) &&& 63).toInt64) ||| x.toInt64)) ∧ h0 = h
theorem own_ent_1 (x : Int32) (u : Int32) : (((u.toInt64) <<< ((32 : Int32) &&& 63).toInt64) ||| (x.toInt64)) = ((u.toInt64 <<< ((32 : Int32) &&& 63).toInt64) ||| x.toInt64) := by
  rfl
theorem pn_ent : plainFor (⟨"com/example/fenpei/fenpei/IntHeap", "entry", "(II)J"⟩ : MethodName) = true := by first | (refine plainFor_of_name ?_; simp [plainName, overriddenIn]; done) | decide +kernel
set_option maxRecDepth 65536 in
set_option maxHeartbeats 40000000 in
theorem c_ent (l : Launch) (Z : State) (a0 : Array Value) (hw : ∀ d ∈ tables_1, d.before a0 Z = true) (x : Int32) (u : Int32) (h0 : Heap) (n0 : Nat) (Z0 : n0 ≤ h0.size) :
    Con l Z (⟨"com/example/fenpei/fenpei/IntHeap", "entry", "(II)J"⟩ : MethodName) prog_20_method_8_code 2 (some .long) ({ frames := 0, cells := 0, slots := 0, locals := 0 } : Room) #[.int x, .int u] h0 n0 (Q_ent Z x u h0) [] := by
  refine con_of_wp pn_ent (L0 := #[.val (.int x), .val (.int u)]) (fun m => by first | (simp [entryFrame, mkF, argsToLocals, Value.category]; done) | rfl) (fun X hl ok => ?_)
  subst hl
  have hK : Konst Z a0 "com/example/fenpei/fenpei/IntHeap" k_ent := trivial
  refine wp_run ok hK (B := [(0, .iload_n 1, false), (1, .i2l, false), (2, .bipush 32, false), (4, .lshl, false), (5, .iload_n 0, false), (6, .i2l, false), (7, .lor, false)]) (by decide +kernel) (ps := []) (pc' := 8) (L' := #[.val (.int x), .val (.int u)]) (S' := [.long (((u.toInt64) <<< ((32 : Int32) &&& 63).toInt64) ||| (x.toInt64))]) rfl trivial ?_
  refine wp_retJ ok (by decide +kernel) (by decide) (by decide) ?_
  exact ⟨congrArg (fun z => some (Value.long z)) (own_ent_1 x u), rfl⟩
def k_fil : List (Nat × Value) := []
def Q_fil (Z : State) (b : Addr) (u : Int32) (n : Nat) (P : Nat → Int32) (h0 : Heap) : Post := fun v h => v = none ∧ Keep h0 h [b] ∧ Ar Z h b .int n (fun _ => .int u)
theorem pn_fil : plainFor (⟨"java/util/Arrays", "fill", "([II)V"⟩ : MethodName) = true := by first | (refine plainFor_of_name ?_; simp [plainName, overriddenIn]; done) | decide +kernel
set_option maxRecDepth 65536 in
set_option maxHeartbeats 40000000 in
theorem c_fil (l : Launch) (Z : State) (a0 : Array Value) (hw : ∀ d ∈ tables_1, d.before a0 Z = true) (b : Addr) (u : Int32) (n : Nat) (P : Nat → Int32) (h0 : Heap) (n0 : Nat) (Z0 : n0 ≤ h0.size) (A_b : Ar Z h0 b .int n (fun i => .int (P i))) (g_b : n0 ≤ b) (p1 : n ≤ 4) :
    Con l Z (⟨"java/util/Arrays", "fill", "([II)V"⟩ : MethodName) jdk_65_method_103_code 4 (none : Option FieldType) ({ frames := 0, cells := 0, slots := 0, locals := 0 } : Room) #[(.ref b), .int u] h0 n0 (Q_fil Z b u n P h0) [] := by
  refine con_of_wp pn_fil (L0 := #[.val ((.ref b)), .val (.int u), .unset, .unset]) (fun m => by first | (simp [entryFrame, mkF, argsToLocals, Value.category]; done) | rfl) (fun X hl ok => ?_)
  subst hl
  have hK : Konst Z a0 "java/util/Arrays" k_fil := trivial
  have K0 : Keep h0 h0 [b] := Keep.refl _ _
  refine wp_run ok hK (B := [(0, .iconst 0, false), (1, .istore_n 2, false), (2, .aload_n 0, false)]) (by decide +kernel) (ps := []) (pc' := 3) (L' := #[.val ((.ref b)), .val (.int u), .val (.int (0 : Int32)), .unset]) (S' := [(.ref b)]) rfl trivial ?_
  refine wp_alen ok A_b (by decide +kernel) ?_
  refine wp_run ok hK (B := [(4, .istore_n 3, false)]) (by decide +kernel) (ps := []) (pc' := 5) (L' := #[.val ((.ref b)), .val (.int u), .val (.int (0 : Int32)), .val (.int (Int32.ofNat n))]) (S' := []) rfl trivial ?_
  have loop : ∀ (d : Nat) (h1 : Heap) (PL : Nat → Int32) (iv : Int32) (i : Nat), Keep h0 h1 [b] → Ar Z h1 b .int n (fun q => .int (PL q)) → (∀ q, q < i → PL q = u) → iv.toInt = (i : Int) → i ≤ n → n0 ≤ h1.size → n - i = d → WP X n0 (Q_fil Z b u n P h0) h1 0 0 5 #[.val (.ref b), .val (.int u), .val (.int iv), .val (.int (Int32.ofNat n))] [] := by
    clear A_b
    intro d
    induction d using Nat.strongRecOn with
    | _ d ih =>
    intro h1 PL iv i KL AL hP hiv his ZL hd0
    refine wp_run ok hK (B := [(5, .iload_n 2, false)]) (by decide +kernel) (ps := []) (pc' := 6) (L' := #[.val ((.ref b)), .val (.int u), .val (.int iv), .val (.int (Int32.ofNat n))]) (S' := [.int iv]) rfl trivial ?_
    refine wp_run ok hK (B := [(6, .iload_n 3, false)]) (by decide +kernel) (ps := []) (pc' := 7) (L' := #[.val ((.ref b)), .val (.int u), .val (.int iv), .val (.int (Int32.ofNat n))]) (S' := [.int (Int32.ofNat n), .int iv]) rfl trivial ?_
    by_cases hc7 : iv < (Int32.ofNat n)
    · refine wp_run ok hK (B := [(7, .if_icmp .ge 13, false)]) (by decide +kernel) (ps := [Op.if_icmp.holds .ge iv (Int32.ofNat n) = false]) (pc' := 10) (L' := #[.val ((.ref b)), .val (.int u), .val (.int iv), .val (.int (Int32.ofNat n))]) (S' := []) rfl ⟨(XT.ii_ge_f hc7), trivial⟩ ?_
      refine wp_run ok hK (B := [(10, .aload_n 0, false), (11, .iload_n 2, false), (12, .iload_n 1, false)]) (by decide +kernel) (ps := []) (pc' := 13) (L' := #[.val ((.ref b)), .val (.int u), .val (.int iv), .val (.int (Int32.ofNat n))]) (S' := [.int u, .int iv, (.ref b)]) rfl trivial ?_
      have hlt := own_lt hc7 hiv (own_nat (by omega))
      refine wp_sI ok AL (i := i) hiv hlt (by decide +kernel) g_b ?_
      intro h1 W2 A3
      have Z4 : n0 ≤ h1.size := by rw [W2.size]; exact ZL
      have K5 := KL.wr W2 (Or.inl (by simp))
      have A6 : Ar Z h1 b .int n (fun q => .int ((upd PL i u) q)) := Ar_uI A3
      refine wp_run ok hK (B := [(14, .iinc 2 1, false), (17, .goto (-12), false)]) (by decide +kernel) (ps := []) (pc' := 5) (L' := #[.val ((.ref b)), .val (.int u), .val (.int (iv + (1 : Int32))), .val (.int (Int32.ofNat n))]) (S' := []) rfl trivial ?_
      exact ih (n - (i + 1)) (by omega) _ _ _ (i + 1) K5 A6 (fun q hq => by by_cases e : q = i; (rw [e, upd_at]); (rw [upd_ne _ _ e]; exact hP q (by omega))) (own_suc hiv (by omega)) (by omega) Z4 rfl
    · refine wp_run ok hK (B := [(7, .if_icmp .ge 13, true)]) (by decide +kernel) (ps := [Op.if_icmp.holds .ge iv (Int32.ofNat n) = true]) (pc' := 20) (L' := #[.val ((.ref b)), .val (.int u), .val (.int iv), .val (.int (Int32.ofNat n))]) (S' := []) rfl ⟨(XT.ii_ge_t hc7), trivial⟩ ?_
      refine wp_retV ok (by decide +kernel) (by decide) (by decide) ?_
      exact ⟨rfl, KL, AL.cong (fun q hq => congrArg Value.int (hP q (Nat.lt_of_lt_of_le hq (own_nlt hc7 hiv (own_nat (by omega))))))⟩
  exact loop (n - 0) h0 P _ 0 K0 A_b (fun q hq => absurd hq (Nat.not_lt_zero q)) rfl (Nat.zero_le n) Z0 rfl
def k_ini : List (Nat × Value) := []
def Q_ini (Z : State) (a : Addr) (h0 : Heap) : Post := fun v h => v = none ∧ Keep h0 h [a] ∧ ∃ hd pd : Addr, h0.size ≤ hd ∧ h0.size ≤ pd ∧ HP Z h a hd pd 4 0 (fun _ => (-1 : Int32)) (fun _ => (0 : Int64))
theorem pn_ini : plainFor (⟨"com/example/fenpei/fenpei/IntHeap", "<init>", "(I)V"⟩ : MethodName) = true := by first | (refine plainFor_of_name ?_; simp [plainName, overriddenIn]; done) | decide +kernel
set_option maxRecDepth 65536 in
set_option maxHeartbeats 40000000 in
theorem c_ini (l : Launch) (Z : State) (a0 : Array Value) (hw : ∀ d ∈ tables_1, d.before a0 Z = true) (a : Addr) (h0 : Heap) (n0 : Nat) (Z0 : n0 ≤ h0.size) (E_a : Exa Z h0 a "com/example/fenpei/fenpei/IntHeap") (F_a_heap : Fld Z h0 a "com/example/fenpei/fenpei/IntHeap" "heap" "[J" (.null)) (F_a_position : Fld Z h0 a "com/example/fenpei/fenpei/IntHeap" "position" "[I" (.null)) (F_a_size : Fld Z h0 a "com/example/fenpei/fenpei/IntHeap" "size" "I" (.int (0 : Int32))) (g_a : n0 ≤ a) :
    Con l Z (⟨"com/example/fenpei/fenpei/IntHeap", "<init>", "(I)V"⟩ : MethodName) prog_20_method_1_code 2 (none : Option FieldType) ({ frames := 1, cells := 2, slots := 8, locals := 15 } : Room) #[(.ref a), .int (4 : Int32)] h0 n0 (Q_ini Z a h0) [] := by
  refine con_of_wp pn_ini (L0 := #[.val ((.ref a)), .val (.int (4 : Int32))]) (fun m => by first | (simp [entryFrame, mkF, argsToLocals, Value.category]; done) | rfl) (fun X hl ok => ?_)
  subst hl
  have hK : Konst Z a0 "com/example/fenpei/fenpei/IntHeap" k_ini := trivial
  have K0 : Keep h0 h0 [a] := Keep.refl _ _
  refine wp_run ok hK (B := [(0, .aload_n 0, false)]) (by decide +kernel) (ps := []) (pc' := 1) (L' := #[.val ((.ref a)), .val (.int (4 : Int32))]) (S' := [(.ref a)]) rfl trivial ?_
  refine wp_initO ok (wd hw 6 rfl) (wd hw 7 rfl) (wd hw 8 rfl) (by rfl) (by decide +kernel) (by decide) (Nat.le_of_ble_eq_true rfl) ?_
  refine wp_run ok hK (B := [(4, .aload_n 0, false), (5, .iload_n 1, false)]) (by decide +kernel) (ps := []) (pc' := 6) (L' := #[.val ((.ref a)), .val (.int (4 : Int32))]) (S' := [.int (4 : Int32), (.ref a)]) rfl trivial ?_
  refine wp_nA ok (aty := .long) (wd hw 9 rfl) (by decide +kernel) (cap := 4) (by rfl) (by decide) (by decide) (by decide) ?_
  intro h1 a2 ea3 X4 A5
  have E7 := E_a.ext X4
  have F8 := F_a_heap.ext X4
  have F9 := F_a_position.ext X4
  have F10 := F_a_size.ext X4
  have Z11 : n0 ≤ h1.size := Nat.le_trans Z0 X4.1
  have K12 := K0.ext X4
  have A6 : Ar Z h1 a2 .long 4 (fun i => .long ((fun _ => (0 : Int64)) i)) := A5
  have g13 : n0 ≤ a2 := by rw [ea3]; exact Z0
  have g14 : h0.size ≤ a2 := by rw [ea3]; exact K0.1
  have N15 : a ≠ a2 := ne_new (E_a.lt) ea3
  refine wp_putF ok (wd hw 10 rfl) F8 E7 (Or.inr ⟨(wd hw 11 rfl), rfl, rfl⟩) (wd hw 1 rfl) (ty := (.array .long)) (by decide) rfl rfl (by decide +kernel) g_a ?_
  intro h16 W17
  have F18 := F8.same W17
  have F19 := F9.other W17 (Or.inr (slot_ne (C := "com/example/fenpei/fenpei/IntHeap") (a0 := a0) (Or.inr (wd hw 14 rfl)) (Or.inr (wd hw 11 rfl)) (by decide +kernel) (t := (.array .int)) (t' := (.array .long)) (by decide +kernel) (by decide +kernel)))
  have F20 := F10.other W17 (Or.inr (slot_ne (C := "com/example/fenpei/fenpei/IntHeap") (a0 := a0) (Or.inl (wd hw 30 rfl)) (Or.inr (wd hw 11 rfl)) (by decide +kernel) (t := .int) (t' := (.array .long)) (by decide +kernel) (by decide +kernel)))
  have A21 := A6.other W17 (Ne.symm N15)
  have E22 := E7.wr W17
  have Z23 : n0 ≤ h16.size := by rw [W17.size]; exact Z11
  have K24 := K12.wr W17 (Or.inl (by simp))
  refine wp_run ok hK (B := [(11, .aload_n 0, false), (12, .iload_n 1, false)]) (by decide +kernel) (ps := []) (pc' := 13) (L' := #[.val ((.ref a)), .val (.int (4 : Int32))]) (S' := [.int (4 : Int32), (.ref a)]) rfl trivial ?_
  refine wp_nA ok (aty := .int) (wd hw 12 rfl) (by decide +kernel) (cap := 4) (by rfl) (by decide) (by decide) (by decide) ?_
  intro h25 a26 ea27 X28 A29
  have E31 := E22.ext X28
  have F32 := F18.ext X28
  have F33 := F19.ext X28
  have F34 := F20.ext X28
  have A35 := A21.ext X28
  have Z36 : n0 ≤ h25.size := Nat.le_trans Z23 X28.1
  have K37 := K24.ext X28
  have A30 : Ar Z h25 a26 .int 4 (fun i => .int ((fun _ => (0 : Int32)) i)) := A29
  have g38 : n0 ≤ a26 := by rw [ea27]; exact Z23
  have g39 : h0.size ≤ a26 := by rw [ea27]; exact K24.1
  have N40 : a ≠ a26 := ne_new (E22.lt) ea27
  have N41 : a2 ≠ a26 := ne_new (A21.lt) ea27
  refine wp_putF ok (wd hw 13 rfl) F33 E31 (Or.inr ⟨(wd hw 14 rfl), rfl, rfl⟩) (wd hw 1 rfl) (ty := (.array .int)) (by decide) rfl rfl (by decide +kernel) g_a ?_
  intro h42 W43
  have F44 := F32.other W43 (Or.inr (slot_ne (C := "com/example/fenpei/fenpei/IntHeap") (a0 := a0) (Or.inr (wd hw 11 rfl)) (Or.inr (wd hw 14 rfl)) (by decide +kernel) (t := (.array .long)) (t' := (.array .int)) (by decide +kernel) (by decide +kernel)))
  have F45 := F33.same W43
  have F46 := F34.other W43 (Or.inr (slot_ne (C := "com/example/fenpei/fenpei/IntHeap") (a0 := a0) (Or.inl (wd hw 30 rfl)) (Or.inr (wd hw 14 rfl)) (by decide +kernel) (t := .int) (t' := (.array .int)) (by decide +kernel) (by decide +kernel)))
  have A47 := A35.other W43 (Ne.symm N15)
  have A48 := A30.other W43 (Ne.symm N40)
  have E49 := E31.wr W43
  have Z50 : n0 ≤ h42.size := by rw [W43.size]; exact Z36
  have K51 := K37.wr W43 (Or.inl (by simp))
  refine wp_run ok hK (B := [(18, .aload_n 0, false)]) (by decide +kernel) (ps := []) (pc' := 19) (L' := #[.val ((.ref a)), .val (.int (4 : Int32))]) (S' := [(.ref a)]) rfl trivial ?_
  refine wp_getF ok (wd hw 13 rfl) F45 (by decide +kernel) ?_
  refine wp_run ok hK (B := [(22, .iconst (-1), false)]) (by decide +kernel) (ps := []) (pc' := 23) (L' := #[.val ((.ref a)), .val (.int (4 : Int32))]) (S' := [.int (-1 : Int32), (.ref a26)]) rfl trivial ?_
  refine wp_static ok (wd hw 15 rfl) (wd hw 16 rfl) (wd hw 17 rfl) (wd hw 18 rfl) (by decide) (argsL := [(.ref a26), .int (-1 : Int32)]) (rest := []) (c_fil _ Z a0 hw a26 (-1 : Int32) 4 (fun _ => (0 : Int32)) h42 n0 Z50 A48 g38 (by decide)) (ps := [(.array .int), .int]) (by decide +kernel) (by rfl) (by rfl) (by rfl) (by decide +kernel) (by decide) (Nat.le_of_ble_eq_true rfl) (by decide) (by decide) ?_
  intro r54 h55 q56
  obtain ⟨rfl, K52, A53⟩ := q56
  have E57 := E49.keep K52
  have F58 := F44.keep K52 (by simp only [List.mem_cons, List.not_mem_nil, or_false, not_or]; exact N40)
  have F59 := F45.keep K52 (by simp only [List.mem_cons, List.not_mem_nil, or_false, not_or]; exact N40)
  have F60 := F46.keep K52 (by simp only [List.mem_cons, List.not_mem_nil, or_false, not_or]; exact N40)
  have A61 := A47.keep K52 (by simp only [List.mem_cons, List.not_mem_nil, or_false, not_or]; exact N41)
  have Z62 : n0 ≤ h55.size := Nat.le_trans Z50 K52.1
  have K63 := K51.trans K52 (allS (P := fun z => z ∈ [a] ∨ h0.size ≤ z) (Or.inr g39) all0)
  show WP X n0 (Q_ini Z a h0) h55 2 8 26 #[.val ((.ref a)), .val (.int (4 : Int32))] []
  refine wp_retV ok (by decide +kernel) (by decide) (by decide) ?_
  exact ⟨rfl, K63, a2, a26, g14, g39, ⟨E57, F58, F59, F60, A61, A53, N41⟩⟩
def k_add : List (Nat × Value) := []
def Q_add (Z : State) (a : Addr) (v : Int32) (u : Int32) (hd : Addr) (pd : Addr) (cap : Nat) (sz : Nat) (P : Nat → Int32) (H : Nat → Int64) (hold : Nat → Bool) (v0 : Nat) (h0 : Heap) : Post := fun v h => v = none ∧ Keep h0 h [a, hd, pd] ∧ ∃ (P2 : Nat → Int32) (H2 : Nat → Int64), HP Z h a hd pd cap (sz + 1) P2 H2 ∧ INV cap (sz + 1) (iP P2) (iH H2) (upd hold v0 true)
theorem pn_add : plainFor (⟨"com/example/fenpei/fenpei/IntHeap", "add", "(II)V"⟩ : MethodName) = true := by first | (refine plainFor_of_name ?_; simp [plainName, overriddenIn]; done) | decide +kernel
set_option maxRecDepth 65536 in
set_option maxHeartbeats 40000000 in
theorem c_add (l : Launch) (Z : State) (a0 : Array Value) (hw : ∀ d ∈ tables_1, d.before a0 Z = true) (a : Addr) (v : Int32) (u : Int32) (hd : Addr) (pd : Addr) (cap : Nat) (sz : Nat) (P : Nat → Int32) (H : Nat → Int64) (hold : Nat → Bool) (v0 : Nat) (h0 : Heap) (n0 : Nat) (Z0 : n0 ≤ h0.size) (g_a : n0 ≤ a) (g_hd : n0 ≤ hd) (g_pd : n0 ≤ pd) (HB : HP Z h0 a hd pd cap sz P H) (hI0 : INV cap sz (iP P) (iH H) hold) (p2 : sz < cap) (p3 : v.toInt = (v0 : Int)) (p4 : hold v0 = false) (p5 : v0 < cap) (p6 : cap ≤ 4) :
    Con l Z (⟨"com/example/fenpei/fenpei/IntHeap", "add", "(II)V"⟩ : MethodName) prog_20_method_5_code 3 (none : Option FieldType) ({ frames := 1, cells := 0, slots := 0, locals := 16 } : Room) #[(.ref a), .int v, .int u] h0 n0 (Q_add Z a v u hd pd cap sz P H hold v0 h0) [] := by
  refine con_of_wp pn_add (L0 := #[.val ((.ref a)), .val (.int v), .val (.int u)]) (fun m => by first | (simp [entryFrame, mkF, argsToLocals, Value.category]; done) | rfl) (fun X hl ok => ?_)
  subst hl
  have hK : Konst Z a0 "com/example/fenpei/fenpei/IntHeap" k_add := trivial
  have HB0 := HB
  have itmp := HB0
  obtain ⟨iE, iF1, iF2, iF3, iA1, iA2, iN⟩ := itmp
  have inhd : a ≠ hd := ne_ar iE (wd hw 1 rfl) iA1
  have inpd : a ≠ pd := ne_ar iE (wd hw 1 rfl) iA2
  have K0 : Keep h0 h0 [a, hd, pd] := Keep.refl _ _
  refine wp_run ok hK (B := [(0, .aload_n 0, false)]) (by decide +kernel) (ps := []) (pc' := 1) (L' := #[.val ((.ref a)), .val (.int v), .val (.int u)]) (S' := [(.ref a)]) rfl trivial ?_
  refine wp_getF ok (wd hw 13 rfl) iF2 (by decide +kernel) ?_
  refine wp_run ok hK (B := [(4, .iload_n 1, false), (5, .aload_n 0, false)]) (by decide +kernel) (ps := []) (pc' := 6) (L' := #[.val ((.ref a)), .val (.int v), .val (.int u)]) (S' := [(.ref a), .int v, (.ref pd)]) rfl trivial ?_
  refine wp_getF ok (wd hw 29 rfl) iF3 (by decide +kernel) ?_
  refine wp_sI ok iA2 (i := v0) p3 p5 (by decide +kernel) g_pd ?_
  intro h1 W2 A3
  have F4 := iF1.other W2 (Or.inl inpd)
  have F5 := iF2.other W2 (Or.inl inpd)
  have F6 := iF3.other W2 (Or.inl inpd)
  have A7 := iA1.other W2 iN
  have E8 := iE.wr W2
  have Z9 : n0 ≤ h1.size := by rw [W2.size]; exact Z0
  have K10 := K0.wr W2 (Or.inl (by simp))
  have A11 : Ar Z h1 pd .int cap (fun q => .int ((upd P v0 (Int32.ofNat sz)) q)) := Ar_uI A3
  refine wp_run ok hK (B := [(10, .aload_n 0, false), (11, .dup, false)]) (by decide +kernel) (ps := []) (pc' := 12) (L' := #[.val ((.ref a)), .val (.int v), .val (.int u)]) (S' := [(.ref a), (.ref a)]) rfl trivial ?_
  refine wp_getF ok (wd hw 29 rfl) F6 (by decide +kernel) ?_
  refine wp_run ok hK (B := [(15, .iconst 1, false), (16, .iadd, false)]) (by decide +kernel) (ps := []) (pc' := 17) (L' := #[.val ((.ref a)), .val (.int v), .val (.int u)]) (S' := [.int ((Int32.ofNat sz) + (1 : Int32)), (.ref a)]) rfl trivial ?_
  refine wp_putF ok (wd hw 29 rfl) F6 E8 (Or.inl (wd hw 30 rfl)) (wd hw 1 rfl) (ty := .int) (by decide) rfl rfl (by decide +kernel) g_a ?_
  intro h12 W13
  have F14 := F4.other W13 (Or.inr (slot_ne (C := "com/example/fenpei/fenpei/IntHeap") (a0 := a0) (Or.inr (wd hw 11 rfl)) (Or.inl (wd hw 30 rfl)) (by decide +kernel) (t := (.array .long)) (t' := .int) (by decide +kernel) (by decide +kernel)))
  have F15 := F5.other W13 (Or.inr (slot_ne (C := "com/example/fenpei/fenpei/IntHeap") (a0 := a0) (Or.inr (wd hw 14 rfl)) (Or.inl (wd hw 30 rfl)) (by decide +kernel) (t := (.array .int)) (t' := .int) (by decide +kernel) (by decide +kernel)))
  have F16 := F6.same W13
  have A17 := A7.other W13 (Ne.symm inhd)
  have A18 := A11.other W13 (Ne.symm inpd)
  have E19 := E8.wr W13
  have Z20 : n0 ≤ h12.size := by rw [W13.size]; exact Z9
  have K21 := K10.wr W13 (Or.inl (by simp))
  refine wp_run ok hK (B := [(20, .aload_n 0, false), (21, .iload_n 1, false), (22, .iload_n 2, false)]) (by decide +kernel) (ps := []) (pc' := 23) (L' := #[.val ((.ref a)), .val (.int v), .val (.int u)]) (S' := [.int u, .int v, (.ref a)]) rfl trivial ?_
  refine wp_static ok (wd hw 31 rfl) (wd hw 32 rfl) (wd hw 2 rfl) (wd hw 33 rfl) (by decide) (argsL := [.int v, .int u]) (rest := [(.ref a)]) (c_ent _ Z a0 hw v u h12 n0 Z20 ) (ps := [.int, .int]) (by decide +kernel) (by rfl) (by rfl) (by rfl) (by decide +kernel) (by decide) (Nat.le_of_ble_eq_true rfl) (by decide) (by decide) ?_
  intro r22 h23 q24
  obtain ⟨e25, rfl⟩ := q24
  obtain ⟨z23, h_z23⟩ : ∃ z : Int64, z = ((u.toInt64 <<< ((32 : Int32) &&& 63).toInt64) ||| v.toInt64) := ⟨_, rfl⟩
  have e25' := e25.trans (show _ = some (Value.long z23) by rw [h_z23])
  subst e25'
  show WP X n0 (Q_add Z a v u hd pd cap sz P H hold v0 h0) h12 0 0 26 #[.val ((.ref a)), .val (.int v), .val (.int u)] [.long z23, (.ref a)]
  have F26 := Fld_c F16 (congrArg Value.int (own_sucN sz))
  have hI1 := INV_add hI0 p2 p5 p4
  have cs := hI0.1
  rw [← iP_upd P v0 (Int32.ofNat sz) (own_nat (by omega))] at hI1
  refine wp_private ok (wd hw 34 rfl) (wd hw 36 rfl) (wd hw 22 rfl) rfl (wd hw 35 rfl) (wd hw 2 rfl) (wd hw 37 rfl) (by decide) (argsL := [.long z23]) (rest := []) E19 (c_up _ Z a0 hw a z23 hd pd cap (sz + 1) (upd P v0 (Int32.ofNat sz)) H (upd hold v0 true) v0 sz h12 n0 Z20 g_a g_hd g_pd ⟨E19, F14, F15, F26, A17, A18, iN⟩ hI1 (Nat.lt_succ_self sz) (by rw [upd_at]; exact own_nat (by omega)) (by rw [h_z23, own_ent]; exact p3) p5 p6) (ps := [.long]) (by decide +kernel) (by rfl) (by rfl) (by rfl) (by decide +kernel) (by decide) (Nat.le_of_ble_eq_true rfl) (by decide) (by decide) ?_
  intro r32 h33 q34
  obtain ⟨rfl, K27, Pf28, Hf29, B30, I31⟩ := q34
  have Z35 : n0 ≤ h33.size := Nat.le_trans Z20 K27.1
  have K36 := K21.trans K27 (allS (P := fun z => z ∈ [a, hd, pd] ∨ h0.size ≤ z) (Or.inl (by simp)) (allS (P := fun z => z ∈ [a, hd, pd] ∨ h0.size ≤ z) (Or.inl (by simp)) all0))
  have u37tmp := B30
  obtain ⟨u37E, u37F1, u37F2, u37F3, u37A1, u37A2, u37N⟩ := u37tmp
  have u37nhd : a ≠ hd := ne_ar u37E (wd hw 1 rfl) u37A1
  have u37npd : a ≠ pd := ne_ar u37E (wd hw 1 rfl) u37A2
  show WP X n0 (Q_add Z a v u hd pd cap sz P H hold v0 h0) h33 0 0 29 #[.val ((.ref a)), .val (.int v), .val (.int u)] []
  refine wp_retV ok (by decide +kernel) (by decide) (by decide) ?_
  exact ⟨rfl, K36, _, _, B30, I31⟩
def k_rem : List (Nat × Value) := []
def Q_rem (Z : State) (a : Addr) (v : Int32) (hd : Addr) (pd : Addr) (cap : Nat) (sz : Nat) (P : Nat → Int32) (H : Nat → Int64) (hold : Nat → Bool) (v0 : Nat) (h0 : Heap) : Post := fun v h => v = none ∧ Keep h0 h [a, hd, pd] ∧ ∃ (P2 : Nat → Int32) (H2 : Nat → Int64), HP Z h a hd pd cap sz P2 H2 ∧ INV cap sz (iP P2) (iH H2) (upd hold v0 false)
theorem pn_rem : plainFor (⟨"com/example/fenpei/fenpei/IntHeap", "remove", "(I)V"⟩ : MethodName) = true := by first | (refine plainFor_of_name ?_; simp [plainName, overriddenIn]; done) | decide +kernel
set_option maxRecDepth 65536 in
set_option maxHeartbeats 40000000 in
theorem c_rem (l : Launch) (Z : State) (a0 : Array Value) (hw : ∀ d ∈ tables_1, d.before a0 Z = true) (a : Addr) (v : Int32) (hd : Addr) (pd : Addr) (cap : Nat) (sz : Nat) (P : Nat → Int32) (H : Nat → Int64) (hold : Nat → Bool) (v0 : Nat) (h0 : Heap) (n0 : Nat) (Z0 : n0 ≤ h0.size) (g_a : n0 ≤ a) (g_hd : n0 ≤ hd) (g_pd : n0 ≤ pd) (HB : HP Z h0 a hd pd cap (sz + 1) P H) (hI0 : INV cap (sz + 1) (iP P) (iH H) hold) (p3 : v.toInt = (v0 : Int)) (p4 : hold v0 = true) (p5 : v0 < cap) (p6 : cap ≤ 4) :
    Con l Z (⟨"com/example/fenpei/fenpei/IntHeap", "remove", "(I)V"⟩ : MethodName) prog_20_method_7_code 5 (none : Option FieldType) ({ frames := 1, cells := 0, slots := 0, locals := 16 } : Room) #[(.ref a), .int v] h0 n0 (Q_rem Z a v hd pd cap sz P H hold v0 h0) [] := by
  refine con_of_wp pn_rem (L0 := #[.val ((.ref a)), .val (.int v), .unset, .unset, .unset]) (fun m => by first | (simp [entryFrame, mkF, argsToLocals, Value.category]; done) | rfl) (fun X hl ok => ?_)
  subst hl
  have hK : Konst Z a0 "com/example/fenpei/fenpei/IntHeap" k_rem := trivial
  have HB0 := HB
  have itmp := HB0
  obtain ⟨iE, iF1, iF2, iF3, iA1, iA2, iN⟩ := itmp
  have inhd : a ≠ hd := ne_ar iE (wd hw 1 rfl) iA1
  have inpd : a ≠ pd := ne_ar iE (wd hw 1 rfl) iA2
  have K0 : Keep h0 h0 [a, hd, pd] := Keep.refl _ _
  refine wp_run ok hK (B := [(0, .aload_n 0, false)]) (by decide +kernel) (ps := []) (pc' := 1) (L' := #[.val ((.ref a)), .val (.int v), .unset, .unset, .unset]) (S' := [(.ref a)]) rfl trivial ?_
  refine wp_getF ok (wd hw 13 rfl) iF2 (by decide +kernel) ?_
  refine wp_run ok hK (B := [(4, .iload_n 1, false)]) (by decide +kernel) (ps := []) (pc' := 5) (L' := #[.val ((.ref a)), .val (.int v), .unset, .unset, .unset]) (S' := [.int v, (.ref pd)]) rfl trivial ?_
  refine wp_aI ok iA2 (i := v0) p3 p5 (v := .int (P v0)) rfl (by decide +kernel) ?_
  refine wp_run ok hK (B := [(6, .istore_n 2, false), (7, .aload_n 0, false)]) (by decide +kernel) (ps := []) (pc' := 8) (L' := #[.val ((.ref a)), .val (.int v), .val (.int (P v0)), .unset, .unset]) (S' := [(.ref a)]) rfl trivial ?_
  refine wp_getF ok (wd hw 13 rfl) iF2 (by decide +kernel) ?_
  refine wp_run ok hK (B := [(11, .iload_n 1, false), (12, .iconst (-1), false)]) (by decide +kernel) (ps := []) (pc' := 13) (L' := #[.val ((.ref a)), .val (.int v), .val (.int (P v0)), .unset, .unset]) (S' := [.int (-1 : Int32), .int v, (.ref pd)]) rfl trivial ?_
  refine wp_sI ok iA2 (i := v0) p3 p5 (by decide +kernel) g_pd ?_
  intro h1 W2 A3
  have F4 := iF1.other W2 (Or.inl inpd)
  have F5 := iF2.other W2 (Or.inl inpd)
  have F6 := iF3.other W2 (Or.inl inpd)
  have A7 := iA1.other W2 iN
  have E8 := iE.wr W2
  have Z9 : n0 ≤ h1.size := by rw [W2.size]; exact Z0
  have K10 := K0.wr W2 (Or.inl (by simp))
  have A11 : Ar Z h1 pd .int cap (fun q => .int ((upd P v0 (-1 : Int32)) q)) := Ar_uI A3
  refine wp_run ok hK (B := [(14, .aload_n 0, false), (15, .dup, false)]) (by decide +kernel) (ps := []) (pc' := 16) (L' := #[.val ((.ref a)), .val (.int v), .val (.int (P v0)), .unset, .unset]) (S' := [(.ref a), (.ref a)]) rfl trivial ?_
  refine wp_getF ok (wd hw 29 rfl) F6 (by decide +kernel) ?_
  refine wp_run ok hK (B := [(19, .iconst 1, false), (20, .isub, false)]) (by decide +kernel) (ps := []) (pc' := 21) (L' := #[.val ((.ref a)), .val (.int v), .val (.int (P v0)), .unset, .unset]) (S' := [.int ((Int32.ofNat (sz + 1)) - (1 : Int32)), (.ref a)]) rfl trivial ?_
  refine wp_putF ok (wd hw 29 rfl) F6 E8 (Or.inl (wd hw 30 rfl)) (wd hw 1 rfl) (ty := .int) (by decide) rfl rfl (by decide +kernel) g_a ?_
  intro h12 W13
  have F14 := F4.other W13 (Or.inr (slot_ne (C := "com/example/fenpei/fenpei/IntHeap") (a0 := a0) (Or.inr (wd hw 11 rfl)) (Or.inl (wd hw 30 rfl)) (by decide +kernel) (t := (.array .long)) (t' := .int) (by decide +kernel) (by decide +kernel)))
  have F15 := F5.other W13 (Or.inr (slot_ne (C := "com/example/fenpei/fenpei/IntHeap") (a0 := a0) (Or.inr (wd hw 14 rfl)) (Or.inl (wd hw 30 rfl)) (by decide +kernel) (t := (.array .int)) (t' := .int) (by decide +kernel) (by decide +kernel)))
  have F16 := F6.same W13
  have A17 := A7.other W13 (Ne.symm inhd)
  have A18 := A11.other W13 (Ne.symm inpd)
  have E19 := E8.wr W13
  have Z20 : n0 ≤ h12.size := by rw [W13.size]; exact Z9
  have K21 := K10.wr W13 (Or.inl (by simp))
  have F22 := Fld_c F16 (congrArg Value.int (own_pred sz))
  have cs := hI0.1
  have i00 := (hI0.2.2.1 v0 p5).mp p4
  have i01 := (hI0.2.2.2 v0 p5 i00).1
  obtain ⟨i0, hi0⟩ : ∃ i0 : Nat, (P v0).toInt = (i0 : Int) := ⟨(P v0).toInt.toNat, (Int.toNat_of_nonneg i00).symm⟩
  have i02 : i0 < sz + 1 := by have q : (P v0).toInt < ((sz + 1 : Nat) : Int) := i01; omega
  refine wp_run ok hK (B := [(24, .iload_n 2, false)]) (by decide +kernel) (ps := []) (pc' := 25) (L' := #[.val ((.ref a)), .val (.int v), .val (.int (P v0)), .unset, .unset]) (S' := [.int (P v0)]) rfl trivial ?_
  refine wp_run ok hK (B := [(25, .aload_n 0, false)]) (by decide +kernel) (ps := []) (pc' := 26) (L' := #[.val ((.ref a)), .val (.int v), .val (.int (P v0)), .unset, .unset]) (S' := [(.ref a), .int (P v0)]) rfl trivial ?_
  refine wp_getF ok (wd hw 29 rfl) F22 (by decide +kernel) ?_
  by_cases hc29 : (P v0) < (Int32.ofNat sz)
  · refine wp_run ok hK (B := [(29, .if_icmp .ge 31, false)]) (by decide +kernel) (ps := [Op.if_icmp.holds .ge (P v0) (Int32.ofNat sz) = false]) (pc' := 32) (L' := #[.val ((.ref a)), .val (.int v), .val (.int (P v0)), .unset, .unset]) (S' := []) rfl ⟨(XT.ii_ge_f hc29), trivial⟩ ?_
    refine wp_run ok hK (B := [(32, .aload_n 0, false)]) (by decide +kernel) (ps := []) (pc' := 33) (L' := #[.val ((.ref a)), .val (.int v), .val (.int (P v0)), .unset, .unset]) (S' := [(.ref a)]) rfl trivial ?_
    refine wp_getF ok (wd hw 10 rfl) F14 (by decide +kernel) ?_
    refine wp_run ok hK (B := [(36, .aload_n 0, false)]) (by decide +kernel) (ps := []) (pc' := 37) (L' := #[.val ((.ref a)), .val (.int v), .val (.int (P v0)), .unset, .unset]) (S' := [(.ref a), (.ref hd)]) rfl trivial ?_
    refine wp_getF ok (wd hw 29 rfl) F22 (by decide +kernel) ?_
    have hlt := own_lt hc29 hi0 (own_nat (by omega))
    obtain ⟨w, hw1, wc, wv, hI1⟩ := (INV_rem hI0 p5 p4).2 (by show (P v0).toInt < _; omega)
    have eP : iP P v0 = (i0 : Int) := hi0
    rw [eP, Int.toNat_natCast, ← iP_upd P v0 (-1 : Int32) (by decide), ← iP_upd _ w (P v0) hi0] at hI1
    refine wp_aJ ok A17 (i := sz) (own_nat (by omega)) (by omega) (v := .long (H sz)) rfl (by decide +kernel) ?_
    refine wp_run ok hK (B := [(41, .lstore_n 3, false), (42, .aload_n 0, false)]) (by decide +kernel) (ps := []) (pc' := 43) (L' := #[.val ((.ref a)), .val (.int v), .val (.int (P v0)), .val (.long (H sz)), .second]) (S' := [(.ref a)]) rfl trivial ?_
    refine wp_getF ok (wd hw 13 rfl) F15 (by decide +kernel) ?_
    refine wp_run ok hK (B := [(46, .lload_n 3, false), (47, .l2i, false), (48, .iload_n 2, false)]) (by decide +kernel) (ps := []) (pc' := 49) (L' := #[.val ((.ref a)), .val (.int v), .val (.int (P v0)), .val (.long (H sz)), .second]) (S' := [.int (P v0), .int ((H sz).toInt32), (.ref pd)]) rfl trivial ?_
    refine wp_sI ok A18 (i := w) hw1 wc (by decide +kernel) g_pd ?_
    intro h23 W24 A25
    have F26 := F14.other W24 (Or.inl inpd)
    have F27 := F15.other W24 (Or.inl inpd)
    have F28 := F22.other W24 (Or.inl inpd)
    have A29 := A17.other W24 iN
    have E30 := E19.wr W24
    have Z31 : n0 ≤ h23.size := by rw [W24.size]; exact Z20
    have K32 := K21.wr W24 (Or.inl (by simp))
    have A33 : Ar Z h23 pd .int cap (fun q => .int ((upd (upd P v0 (-1 : Int32)) w (P v0)) q)) := Ar_uI A25
    refine wp_run ok hK (B := [(50, .aload_n 0, false), (51, .lload_n 3, false)]) (by decide +kernel) (ps := []) (pc' := 52) (L' := #[.val ((.ref a)), .val (.int v), .val (.int (P v0)), .val (.long (H sz)), .second]) (S' := [.long (H sz), (.ref a)]) rfl trivial ?_
    have hh : (upd hold v0 false) w = true := (hI1.2.2.1 w wc).mpr (by unfold iP; rw [upd_at, hi0]; omega)
    refine wp_private ok (wd hw 34 rfl) (wd hw 36 rfl) (wd hw 22 rfl) rfl (wd hw 35 rfl) (wd hw 2 rfl) (wd hw 37 rfl) (by decide) (argsL := [.long (H sz)]) (rest := []) E30 (c_up _ Z a0 hw a (H sz) hd pd cap sz (upd (upd P v0 (-1 : Int32)) w (P v0)) H (upd hold v0 false) w i0 h23 n0 Z31 g_a g_hd g_pd ⟨E30, F26, F27, F28, A29, A33, iN⟩ hI1 hlt (by rw [upd_at]; exact hi0) hw1 wc p6) (ps := [.long]) (by decide +kernel) (by rfl) (by rfl) (by rfl) (by decide +kernel) (by decide) (Nat.le_of_ble_eq_true rfl) (by decide) (by decide) ?_
    intro r39 h40 q41
    obtain ⟨rfl, K34, Pf35, Hf36, B37, I38⟩ := q41
    have Z42 : n0 ≤ h40.size := Nat.le_trans Z31 K34.1
    have K43 := K32.trans K34 (allS (P := fun z => z ∈ [a, hd, pd] ∨ h0.size ≤ z) (Or.inl (by simp)) (allS (P := fun z => z ∈ [a, hd, pd] ∨ h0.size ≤ z) (Or.inl (by simp)) all0))
    have u44tmp := B37
    obtain ⟨u44E, u44F1, u44F2, u44F3, u44A1, u44A2, u44N⟩ := u44tmp
    have u44nhd : a ≠ hd := ne_ar u44E (wd hw 1 rfl) u44A1
    have u44npd : a ≠ pd := ne_ar u44E (wd hw 1 rfl) u44A2
    show WP X n0 (Q_rem Z a v hd pd cap sz P H hold v0 h0) h40 0 0 55 #[.val ((.ref a)), .val (.int v), .val (.int (P v0)), .val (.long (H sz)), .second] []
    refine wp_run ok hK (B := [(55, .aload_n 0, false), (56, .lload_n 3, false)]) (by decide +kernel) (ps := []) (pc' := 57) (L' := #[.val ((.ref a)), .val (.int v), .val (.int (P v0)), .val (.long (H sz)), .second]) (S' := [.long (H sz), (.ref a)]) rfl trivial ?_
    obtain ⟨i1, q1, q2, q3⟩ := own_again I38 wc hh
    refine wp_private ok (wd hw 43 rfl) (wd hw 45 rfl) (wd hw 22 rfl) rfl (wd hw 44 rfl) (wd hw 2 rfl) (wd hw 46 rfl) (by decide) (argsL := [.long (H sz)]) (rest := []) u44E (c_down _ Z a0 hw a (H sz) hd pd cap sz Pf35 Hf36 (upd hold v0 false) w i1 h40 n0 Z42 g_a g_hd g_pd ⟨u44E, u44F1, u44F2, u44F3, u44A1, u44A2, u44N⟩ q3 q1 q2 hw1 wc p6) (ps := [.long]) (by decide +kernel) (by rfl) (by rfl) (by rfl) (by decide +kernel) (by decide) (Nat.le_of_ble_eq_true rfl) (by decide) (by decide) ?_
    intro r50 h51 q52
    obtain ⟨rfl, K45, Pf46, Hf47, B48, I49⟩ := q52
    have Z53 : n0 ≤ h51.size := Nat.le_trans Z42 K45.1
    have K54 := K43.trans K45 (allS (P := fun z => z ∈ [a, hd, pd] ∨ h0.size ≤ z) (Or.inl (by simp)) (allS (P := fun z => z ∈ [a, hd, pd] ∨ h0.size ≤ z) (Or.inl (by simp)) all0))
    have u55tmp := B48
    obtain ⟨u55E, u55F1, u55F2, u55F3, u55A1, u55A2, u55N⟩ := u55tmp
    have u55nhd : a ≠ hd := ne_ar u55E (wd hw 1 rfl) u55A1
    have u55npd : a ≠ pd := ne_ar u55E (wd hw 1 rfl) u55A2
    show WP X n0 (Q_rem Z a v hd pd cap sz P H hold v0 h0) h51 0 0 60 #[.val ((.ref a)), .val (.int v), .val (.int (P v0)), .val (.long (H sz)), .second] []
    refine wp_retV ok (by decide +kernel) (by decide) (by decide) ?_
    exact ⟨rfl, K54, _, _, B48, I49⟩
  · refine wp_run ok hK (B := [(29, .if_icmp .ge 31, true)]) (by decide +kernel) (ps := [Op.if_icmp.holds .ge (P v0) (Int32.ofNat sz) = true]) (pc' := 60) (L' := #[.val ((.ref a)), .val (.int v), .val (.int (P v0)), .unset, .unset]) (S' := []) rfl ⟨(XT.ii_ge_t hc29), trivial⟩ ?_
    refine wp_retV ok (by decide +kernel) (by decide) (by decide) ?_
    have hsz := own_nlt hc29 hi0 (own_nat (by omega))
    have hI2 := (INV_rem hI0 p5 p4).1 (by show (P v0).toInt = _; omega)
    rw [← iP_upd P v0 (-1 : Int32) (by decide)] at hI2
    exact ⟨rfl, K21, _, _, ⟨E19, F14, F15, F22, A17, A18, iN⟩, hI2⟩
def k_cnt : List (Nat × Value) := []
def Q_cnt (Z : State) (a : Addr) (x : Int32) (pd : Addr) (cap : Nat) (P : Nat → Int32) (x0 : Nat) (h0 : Heap) : Post := fun v h => v = some (.int (if P x0 < (0 : Int32) then (0 : Int32) else (1 : Int32))) ∧ h0 = h
theorem own_cnt_1 (x : Int32) (cap : Nat) (x0 : Nat) (p1 : x.toInt = (x0 : Int)) (p2 : x0 < cap) (P : Nat → Int32) (s14_0 : Int32) (h_s14_0 : s14_0 = (if (P x0) < (0 : Int32) then (0 : Int32) else (1 : Int32))) : nar .boolean s14_0 = (if P x0 < (0 : Int32) then (0 : Int32) else (1 : Int32)) := by
  subst_vars; split <;> rfl
theorem pn_cnt : plainFor (⟨"com/example/fenpei/fenpei/IntHeap", "contains", "(I)Z"⟩ : MethodName) = true := by first | (refine plainFor_of_name ?_; simp [plainName, overriddenIn]; done) | decide +kernel
set_option maxRecDepth 65536 in
set_option maxHeartbeats 40000000 in
theorem c_cnt (l : Launch) (Z : State) (a0 : Array Value) (hw : ∀ d ∈ tables_1, d.before a0 Z = true) (a : Addr) (x : Int32) (pd : Addr) (cap : Nat) (P : Nat → Int32) (x0 : Nat) (h0 : Heap) (n0 : Nat) (Z0 : n0 ≤ h0.size) (E_a : Exa Z h0 a "com/example/fenpei/fenpei/IntHeap") (F_a_position : Fld Z h0 a "com/example/fenpei/fenpei/IntHeap" "position" "[I" ((.ref pd))) (g_a : n0 ≤ a) (A_pd : Ar Z h0 pd .int cap (fun i => .int (P i))) (p1 : x.toInt = (x0 : Int)) (p2 : x0 < cap) :
    Con l Z (⟨"com/example/fenpei/fenpei/IntHeap", "contains", "(I)Z"⟩ : MethodName) prog_20_method_3_code 2 (some .boolean) ({ frames := 0, cells := 0, slots := 0, locals := 0 } : Room) #[(.ref a), .int x] h0 n0 (Q_cnt Z a x pd cap P x0 h0) [] := by
  refine con_of_wp pn_cnt (L0 := #[.val ((.ref a)), .val (.int x)]) (fun m => by first | (simp [entryFrame, mkF, argsToLocals, Value.category]; done) | rfl) (fun X hl ok => ?_)
  subst hl
  have hK : Konst Z a0 "com/example/fenpei/fenpei/IntHeap" k_cnt := trivial
  refine wp_run ok hK (B := [(0, .aload_n 0, false)]) (by decide +kernel) (ps := []) (pc' := 1) (L' := #[.val ((.ref a)), .val (.int x)]) (S' := [(.ref a)]) rfl trivial ?_
  refine wp_getF ok (wd hw 13 rfl) F_a_position (by decide +kernel) ?_
  refine wp_run ok hK (B := [(4, .iload_n 1, false)]) (by decide +kernel) (ps := []) (pc' := 5) (L' := #[.val ((.ref a)), .val (.int x)]) (S' := [.int x, (.ref pd)]) rfl trivial ?_
  refine wp_aI ok A_pd (i := x0) p1 p2 (v := .int (P x0)) rfl (by decide +kernel) ?_
  have J14_2 : ∀ (s14_0 : Int32) (h_s14_0 : s14_0 = (if (P x0) < (0 : Int32) then (0 : Int32) else (1 : Int32))), WP X n0 (Q_cnt Z a x pd cap P x0 h0) h0 0 0 14 #[.val ((.ref a)), .val (.int x)] [.int s14_0] := by
    intro s14_0 h_s14_0
    refine wp_retZ ok (t := .boolean) (by simp) (by decide +kernel) (by decide) (by decide) ?_
    exact ⟨congrArg (fun z => some (Value.int z)) (own_cnt_1 x cap x0 p1 p2 P s14_0 h_s14_0), rfl⟩
  by_cases c1 : (P x0) < (0 : Int32)
  · refine wp_run ok hK (B := [(6, .ifCond .lt 7, true), (13, .iconst 0, false)]) (by decide +kernel) (ps := [Op.ifCond.holds .lt (P x0) = true]) (pc' := 14) (L' := #[.val ((.ref a)), .val (.int x)]) (S' := [.int (0 : Int32)]) rfl ⟨(XT.i0_lt_t c1), trivial⟩ ?_
    exact J14_2 _ (by rw [if_pos c1])
  · refine wp_run ok hK (B := [(6, .ifCond .lt 7, false), (9, .iconst 1, false), (10, .goto 4, false)]) (by decide +kernel) (ps := [Op.ifCond.holds .lt (P x0) = false]) (pc' := 14) (L' := #[.val ((.ref a)), .val (.int x)]) (S' := [.int (1 : Int32)]) rfl ⟨(XT.i0_lt_f c1), trivial⟩ ?_
    exact J14_2 _ (by rw [if_neg c1])
def k_law : List (Nat × Value) := []
def QL : Post := fun v _ => v = some (.int 1)
theorem own_law_1 (k1 : Int32) (w1 : Int64) (w2 : Int64) (o1 : Int32) (s21_0 : Int32) (h_s21_0 : s21_0 = (if (k1 &&& (1 : Int32)) = (0 : Int32) then (0 : Int32) else (1 : Int32))) (s34_0 : Int32) (h_s34_0 : s34_0 = (if (k1 &&& (2 : Int32)) = (0 : Int32) then (0 : Int32) else (1 : Int32))) (s47_0 : Int32) (h_s47_0 : s47_0 = (if (k1 &&& (4 : Int32)) = (0 : Int32) then (0 : Int32) else (1 : Int32))) (s61_0 : Int32) (h_s61_0 : s61_0 = (if (k1 &&& (8 : Int32)) = (0 : Int32) then (0 : Int32) else (1 : Int32))) (PJ0 : Nat → Int32) (PJ1 : Nat → Int32) (PJ2 : Nat → Int32) (PJ3 : Nat → Int32) (nn : Int32) (h_nn : nn = (o1 &&& (3 : Int32))) (v169_12 : Int32) (h_v169_12 : v169_12 = (if nn = (0 : Int32) then s21_0 else (if nn = (1 : Int32) then s34_0 else (if nn = (2 : Int32) then s47_0 else s61_0)))) (s186_0 : Int32) (h_s186_0 : s186_0 = (if (o1 &&& (4 : Int32)) = (0 : Int32) then (0 : Int32) else (if v169_12 = (0 : Int32) then (0 : Int32) else (1 : Int32)))) (PJ4 : Nat → Int32) (s220_0 : Int32) (h_s220_0 : s220_0 = (if s21_0 = (0 : Int32) then (0 : Int32) else (if s186_0 = (0 : Int32) then (1 : Int32) else (if nn = (0 : Int32) then (0 : Int32) else (1 : Int32))))) (s243_0 : Int32) (h_s243_0 : s243_0 = (if s34_0 = (0 : Int32) then (0 : Int32) else (if s186_0 = (0 : Int32) then (1 : Int32) else (if nn = (1 : Int32) then (0 : Int32) else (1 : Int32))))) (s266_0 : Int32) (h_s266_0 : s266_0 = (if s47_0 = (0 : Int32) then (0 : Int32) else (if s186_0 = (0 : Int32) then (1 : Int32) else (if nn = (2 : Int32) then (0 : Int32) else (1 : Int32))))) (s289_0 : Int32) (h_s289_0 : s289_0 = (if s61_0 = (0 : Int32) then (0 : Int32) else (if s186_0 = (0 : Int32) then (1 : Int32) else (if nn = (3 : Int32) then (0 : Int32) else (1 : Int32))))) (z294 : Int32) (h_z294 : z294 = (if PJ4 0 < (0 : Int32) then (0 : Int32) else (1 : Int32))) (z305 : Int32) (h_z305 : z305 = (if PJ4 1 < (0 : Int32) then (0 : Int32) else (1 : Int32))) (z316 : Int32) (h_z316 : z316 = (if PJ4 2 < (0 : Int32) then (0 : Int32) else (1 : Int32))) (z327 : Int32) (h_z327 : z327 = (if PJ4 3 < (0 : Int32) then (0 : Int32) else (1 : Int32))) : nar .boolean (1 : Int32) = 1 := by
  decide
theorem pn_law : plainFor x = true := by first | (refine plainFor_of_name ?_; show plainName "com/example/fenpei/fenpei/IntHeapContainsPinLaw" = true; simp [plainName, overriddenIn]; done) | decide +kernel
set_option maxRecDepth 65536 in
set_option maxHeartbeats 40000000 in
theorem c_law (l : Launch) (Z : State) (a0 : Array Value) (hw : ∀ d ∈ tables_1, d.before a0 Z = true) (k1 : Int32) (w1 : Int64) (w2 : Int64) (o1 : Int32) (h0 : Heap) (n0 : Nat) (Z0 : n0 ≤ h0.size) :
    Con l Z x code maxLocals ret room_1 #[.int k1, .long w1, .long w2, .int o1] h0 n0 QL tables_1 := by
  refine con_of_wp pn_law (L0 := #[.val (.int k1), .val (.long w1), .second, .val (.long w2), .second, .val (.int o1), .unset, .unset, .unset, .unset, .unset, .unset, .unset, .unset, .unset, .unset, .unset, .unset]) (fun m => by first | (simp [entryFrame, mkF, argsToLocals, Value.category, maxLocals]; done) | rfl) (fun X hl ok => ?_)
  subst hl
  have hK : Konst Z a0 "com/example/fenpei/fenpei/IntHeapContainsPinLaw" k_law := trivial
  refine wp_new ok (wd hw 0 rfl) (wd hw 1 rfl) (wd hw 2 rfl) (by decide +kernel) (by decide) (by decide) ?_
  intro h1 a2 ea3 X4 E5 D6
  have Z7 : n0 ≤ h1.size := Nat.le_trans Z0 X4.1
  have g8 : n0 ≤ a2 := by rw [ea3]; exact Z0
  have F9 : Fld Z h1 a2 "com/example/fenpei/fenpei/IntHeap" "heap" "[J" (.null) := D6 (Or.inr (wd hw 11 rfl)) (ty := (.array .long)) (by decide)
  have F10 : Fld Z h1 a2 "com/example/fenpei/fenpei/IntHeap" "position" "[I" (.null) := D6 (Or.inr (wd hw 14 rfl)) (ty := (.array .int)) (by decide)
  have F11 : Fld Z h1 a2 "com/example/fenpei/fenpei/IntHeap" "size" "I" (.int (0 : Int32)) := D6 (Or.inl (wd hw 30 rfl)) (ty := .int) (by decide)
  refine wp_run ok hK (B := [(3, .dup, false), (4, .iconst 4, false)]) (by decide +kernel) (ps := []) (pc' := 5) (L' := #[.val (.int k1), .val (.long w1), .second, .val (.long w2), .second, .val (.int o1), .unset, .unset, .unset, .unset, .unset, .unset, .unset, .unset, .unset, .unset, .unset, .unset]) (S' := [.int (4 : Int32), (.ref a2), (.ref a2)]) rfl trivial ?_
  refine wp_special ok rfl (wd hw 3 rfl) (wd hw 4 rfl) (wd hw 2 rfl) (wd hw 5 rfl) (by decide) (argsL := [.int (4 : Int32)]) (rest := [(.ref a2)]) (c_ini _ Z a0 hw a2 h1 n0 Z7 E5 F9 F10 F11 g8) (ps := [.int]) (by decide +kernel) (by rfl) (by rfl) (by rfl) (by decide +kernel) (by decide) (Nat.le_of_ble_eq_true rfl) (by decide) (by decide) ?_
  intro r18 h19 q20
  obtain ⟨rfl, K12, hd13, pd14, g15, g16, B17⟩ := q20
  have Z21 : n0 ≤ h19.size := Nat.le_trans Z7 K12.1
  have g22 : n0 ≤ hd13 := Nat.le_trans Z7 g15
  have g23 : n0 ≤ pd14 := Nat.le_trans Z7 g16
  have hp0 := B17
  have u24tmp := B17
  obtain ⟨u24E, u24F1, u24F2, u24F3, u24A1, u24A2, u24N⟩ := u24tmp
  have u24nhd13 : a2 ≠ hd13 := ne_ar u24E (wd hw 1 rfl) u24A1
  have u24npd14 : a2 ≠ pd14 := ne_ar u24E (wd hw 1 rfl) u24A2
  have I25 := own_ini 4 (iH (fun _ => (0 : Int64)))
  show WP X n0 QL h19 3 11 8 #[.val (.int k1), .val (.long w1), .second, .val (.long w2), .second, .val (.int o1), .unset, .unset, .unset, .unset, .unset, .unset, .unset, .unset, .unset, .unset, .unset, .unset] [(.ref a2)]
  refine wp_run ok hK (B := [(8, .astore 6, false), (10, .iload_n 0, false), (11, .iconst 1, false), (12, .iand, false)]) (by decide +kernel) (ps := []) (pc' := 13) (L' := #[.val (.int k1), .val (.long w1), .second, .val (.long w2), .second, .val (.int o1), .val ((.ref a2)), .unset, .unset, .unset, .unset, .unset, .unset, .unset, .unset, .unset, .unset, .unset]) (S' := [.int (k1 &&& (1 : Int32))]) rfl trivial ?_
  have J21_27 : ∀ (s21_0 : Int32) (h_s21_0 : s21_0 = (if (k1 &&& (1 : Int32)) = (0 : Int32) then (0 : Int32) else (1 : Int32))), WP X n0 QL h19 3 11 21 #[.val (.int k1), .val (.long w1), .second, .val (.long w2), .second, .val (.int o1), .val ((.ref a2)), .unset, .unset, .unset, .unset, .unset, .unset, .unset, .unset, .unset, .unset, .unset] [.int s21_0] := by
    intro s21_0 h_s21_0
    refine wp_run ok hK (B := [(21, .istore 7, false), (23, .iload_n 0, false), (24, .iconst 2, false), (25, .iand, false)]) (by decide +kernel) (ps := []) (pc' := 26) (L' := #[.val (.int k1), .val (.long w1), .second, .val (.long w2), .second, .val (.int o1), .val ((.ref a2)), .val (.int s21_0), .unset, .unset, .unset, .unset, .unset, .unset, .unset, .unset, .unset, .unset]) (S' := [.int (k1 &&& (2 : Int32))]) rfl trivial ?_
    have J34_29 : ∀ (s34_0 : Int32) (h_s34_0 : s34_0 = (if (k1 &&& (2 : Int32)) = (0 : Int32) then (0 : Int32) else (1 : Int32))), WP X n0 QL h19 3 11 34 #[.val (.int k1), .val (.long w1), .second, .val (.long w2), .second, .val (.int o1), .val ((.ref a2)), .val (.int s21_0), .unset, .unset, .unset, .unset, .unset, .unset, .unset, .unset, .unset, .unset] [.int s34_0] := by
      intro s34_0 h_s34_0
      refine wp_run ok hK (B := [(34, .istore 8, false), (36, .iload_n 0, false), (37, .iconst 4, false), (38, .iand, false)]) (by decide +kernel) (ps := []) (pc' := 39) (L' := #[.val (.int k1), .val (.long w1), .second, .val (.long w2), .second, .val (.int o1), .val ((.ref a2)), .val (.int s21_0), .val (.int s34_0), .unset, .unset, .unset, .unset, .unset, .unset, .unset, .unset, .unset]) (S' := [.int (k1 &&& (4 : Int32))]) rfl trivial ?_
      have J47_31 : ∀ (s47_0 : Int32) (h_s47_0 : s47_0 = (if (k1 &&& (4 : Int32)) = (0 : Int32) then (0 : Int32) else (1 : Int32))), WP X n0 QL h19 3 11 47 #[.val (.int k1), .val (.long w1), .second, .val (.long w2), .second, .val (.int o1), .val ((.ref a2)), .val (.int s21_0), .val (.int s34_0), .unset, .unset, .unset, .unset, .unset, .unset, .unset, .unset, .unset] [.int s47_0] := by
        intro s47_0 h_s47_0
        refine wp_run ok hK (B := [(47, .istore 9, false), (49, .iload_n 0, false), (50, .bipush 8, false), (52, .iand, false)]) (by decide +kernel) (ps := []) (pc' := 53) (L' := #[.val (.int k1), .val (.long w1), .second, .val (.long w2), .second, .val (.int o1), .val ((.ref a2)), .val (.int s21_0), .val (.int s34_0), .val (.int s47_0), .unset, .unset, .unset, .unset, .unset, .unset, .unset, .unset]) (S' := [.int (k1 &&& (8 : Int32))]) rfl trivial ?_
        have J61_33 : ∀ (s61_0 : Int32) (h_s61_0 : s61_0 = (if (k1 &&& (8 : Int32)) = (0 : Int32) then (0 : Int32) else (1 : Int32))), WP X n0 QL h19 3 11 61 #[.val (.int k1), .val (.long w1), .second, .val (.long w2), .second, .val (.int o1), .val ((.ref a2)), .val (.int s21_0), .val (.int s34_0), .val (.int s47_0), .unset, .unset, .unset, .unset, .unset, .unset, .unset, .unset] [.int s61_0] := by
          intro s61_0 h_s61_0
          refine wp_run ok hK (B := [(61, .istore 10, false), (63, .iload 7, false)]) (by decide +kernel) (ps := []) (pc' := 65) (L' := #[.val (.int k1), .val (.long w1), .second, .val (.long w2), .second, .val (.int o1), .val ((.ref a2)), .val (.int s21_0), .val (.int s34_0), .val (.int s47_0), .val (.int s61_0), .unset, .unset, .unset, .unset, .unset, .unset, .unset]) (S' := [.int s21_0]) rfl trivial ?_
          have Q0 : HQ s21_0 s34_0 s47_0 s61_0 0 0 (fun _ => false) := ⟨Nat.le_refl 0, fun j hj => absurd hj (Nat.not_lt_zero j), fun j hj => rfl⟩
          have JH76_34 : ∀ (hJ0 : Heap) (PJ0 : Nat → Int32) (HJ0 : Nat → Int64) (szJ0 : Nat) (hoJ0 : Nat → Bool) (ZJ0 : n0 ≤ hJ0.size) (BJ0 : HP Z hJ0 a2 hd13 pd14 4 szJ0 PJ0 HJ0) (IJ0 : INV 4 szJ0 (iP PJ0) (iH HJ0) hoJ0) (QJ0 : HQ s21_0 s34_0 s47_0 s61_0 1 szJ0 hoJ0), WP X n0 QL hJ0 3 11 76 #[.val (.int k1), .val (.long w1), .second, .val (.long w2), .second, .val (.int o1), .val ((.ref a2)), .val (.int s21_0), .val (.int s34_0), .val (.int s47_0), .val (.int s61_0), .unset, .unset, .unset, .unset, .unset, .unset, .unset] [] := by
            intro hJ0 PJ0 HJ0 szJ0 hoJ0 ZJ0 BJ0 IJ0 QJ0
            have u35tmp := BJ0
            obtain ⟨u35E, u35F1, u35F2, u35F3, u35A1, u35A2, u35N⟩ := u35tmp
            have u35nhd13 : a2 ≠ hd13 := ne_ar u35E (wd hw 1 rfl) u35A1
            have u35npd14 : a2 ≠ pd14 := ne_ar u35E (wd hw 1 rfl) u35A2
            refine wp_run ok hK (B := [(76, .iload 8, false)]) (by decide +kernel) (ps := []) (pc' := 78) (L' := #[.val (.int k1), .val (.long w1), .second, .val (.long w2), .second, .val (.int o1), .val ((.ref a2)), .val (.int s21_0), .val (.int s34_0), .val (.int s47_0), .val (.int s61_0), .unset, .unset, .unset, .unset, .unset, .unset, .unset]) (S' := [.int s34_0]) rfl trivial ?_
            have JH92_36 : ∀ (hJ1 : Heap) (PJ1 : Nat → Int32) (HJ1 : Nat → Int64) (szJ1 : Nat) (hoJ1 : Nat → Bool) (ZJ1 : n0 ≤ hJ1.size) (BJ1 : HP Z hJ1 a2 hd13 pd14 4 szJ1 PJ1 HJ1) (IJ1 : INV 4 szJ1 (iP PJ1) (iH HJ1) hoJ1) (QJ1 : HQ s21_0 s34_0 s47_0 s61_0 2 szJ1 hoJ1), WP X n0 QL hJ1 3 11 92 #[.val (.int k1), .val (.long w1), .second, .val (.long w2), .second, .val (.int o1), .val ((.ref a2)), .val (.int s21_0), .val (.int s34_0), .val (.int s47_0), .val (.int s61_0), .unset, .unset, .unset, .unset, .unset, .unset, .unset] [] := by
              intro hJ1 PJ1 HJ1 szJ1 hoJ1 ZJ1 BJ1 IJ1 QJ1
              have u37tmp := BJ1
              obtain ⟨u37E, u37F1, u37F2, u37F3, u37A1, u37A2, u37N⟩ := u37tmp
              have u37nhd13 : a2 ≠ hd13 := ne_ar u37E (wd hw 1 rfl) u37A1
              have u37npd14 : a2 ≠ pd14 := ne_ar u37E (wd hw 1 rfl) u37A2
              refine wp_run ok hK (B := [(92, .iload 9, false)]) (by decide +kernel) (ps := []) (pc' := 94) (L' := #[.val (.int k1), .val (.long w1), .second, .val (.long w2), .second, .val (.int o1), .val ((.ref a2)), .val (.int s21_0), .val (.int s34_0), .val (.int s47_0), .val (.int s61_0), .unset, .unset, .unset, .unset, .unset, .unset, .unset]) (S' := [.int s47_0]) rfl trivial ?_
              have JH105_38 : ∀ (hJ2 : Heap) (PJ2 : Nat → Int32) (HJ2 : Nat → Int64) (szJ2 : Nat) (hoJ2 : Nat → Bool) (ZJ2 : n0 ≤ hJ2.size) (BJ2 : HP Z hJ2 a2 hd13 pd14 4 szJ2 PJ2 HJ2) (IJ2 : INV 4 szJ2 (iP PJ2) (iH HJ2) hoJ2) (QJ2 : HQ s21_0 s34_0 s47_0 s61_0 3 szJ2 hoJ2), WP X n0 QL hJ2 3 11 105 #[.val (.int k1), .val (.long w1), .second, .val (.long w2), .second, .val (.int o1), .val ((.ref a2)), .val (.int s21_0), .val (.int s34_0), .val (.int s47_0), .val (.int s61_0), .unset, .unset, .unset, .unset, .unset, .unset, .unset] [] := by
                intro hJ2 PJ2 HJ2 szJ2 hoJ2 ZJ2 BJ2 IJ2 QJ2
                have u39tmp := BJ2
                obtain ⟨u39E, u39F1, u39F2, u39F3, u39A1, u39A2, u39N⟩ := u39tmp
                have u39nhd13 : a2 ≠ hd13 := ne_ar u39E (wd hw 1 rfl) u39A1
                have u39npd14 : a2 ≠ pd14 := ne_ar u39E (wd hw 1 rfl) u39A2
                refine wp_run ok hK (B := [(105, .iload 10, false)]) (by decide +kernel) (ps := []) (pc' := 107) (L' := #[.val (.int k1), .val (.long w1), .second, .val (.long w2), .second, .val (.int o1), .val ((.ref a2)), .val (.int s21_0), .val (.int s34_0), .val (.int s47_0), .val (.int s61_0), .unset, .unset, .unset, .unset, .unset, .unset, .unset]) (S' := [.int s61_0]) rfl trivial ?_
                have JH121_40 : ∀ (hJ3 : Heap) (PJ3 : Nat → Int32) (HJ3 : Nat → Int64) (szJ3 : Nat) (hoJ3 : Nat → Bool) (ZJ3 : n0 ≤ hJ3.size) (BJ3 : HP Z hJ3 a2 hd13 pd14 4 szJ3 PJ3 HJ3) (IJ3 : INV 4 szJ3 (iP PJ3) (iH HJ3) hoJ3) (QJ3 : HQ s21_0 s34_0 s47_0 s61_0 4 szJ3 hoJ3), WP X n0 QL hJ3 3 11 121 #[.val (.int k1), .val (.long w1), .second, .val (.long w2), .second, .val (.int o1), .val ((.ref a2)), .val (.int s21_0), .val (.int s34_0), .val (.int s47_0), .val (.int s61_0), .unset, .unset, .unset, .unset, .unset, .unset, .unset] [] := by
                  intro hJ3 PJ3 HJ3 szJ3 hoJ3 ZJ3 BJ3 IJ3 QJ3
                  have u41tmp := BJ3
                  obtain ⟨u41E, u41F1, u41F2, u41F3, u41A1, u41A2, u41N⟩ := u41tmp
                  have u41nhd13 : a2 ≠ hd13 := ne_ar u41E (wd hw 1 rfl) u41A1
                  have u41npd14 : a2 ≠ pd14 := ne_ar u41E (wd hw 1 rfl) u41A2
                  refine wp_run ok hK (B := [(121, .iload 5, false)]) (by decide +kernel) (ps := []) (pc' := 123) (L' := #[.val (.int k1), .val (.long w1), .second, .val (.long w2), .second, .val (.int o1), .val ((.ref a2)), .val (.int s21_0), .val (.int s34_0), .val (.int s47_0), .val (.int s61_0), .unset, .unset, .unset, .unset, .unset, .unset, .unset]) (S' := [.int o1]) rfl trivial ?_
                  refine wp_run ok hK (B := [(123, .iconst 3, false), (124, .iand, false), (125, .istore 11, false)]) (by decide +kernel) (ps := []) (pc' := 127) (L' := #[.val (.int k1), .val (.long w1), .second, .val (.long w2), .second, .val (.int o1), .val ((.ref a2)), .val (.int s21_0), .val (.int s34_0), .val (.int s47_0), .val (.int s61_0), .val (.int (o1 &&& (3 : Int32))), .unset, .unset, .unset, .unset, .unset, .unset]) (S' := []) rfl trivial ?_
                  obtain ⟨nn, h_nn⟩ : ∃ z : Int32, z = (o1 &&& (3 : Int32)) := ⟨_, rfl⟩
                  rw [← h_nn]
                  refine wp_run ok hK (B := [(127, .iload 11, false)]) (by decide +kernel) (ps := []) (pc' := 129) (L' := #[.val (.int k1), .val (.long w1), .second, .val (.long w2), .second, .val (.int o1), .val ((.ref a2)), .val (.int s21_0), .val (.int s34_0), .val (.int s47_0), .val (.int s61_0), .val (.int nn), .unset, .unset, .unset, .unset, .unset, .unset]) (S' := [.int nn]) rfl trivial ?_
                  have J169_45 : ∀ (v169_12 : Int32) (h_v169_12 : v169_12 = (if nn = (0 : Int32) then s21_0 else (if nn = (1 : Int32) then s34_0 else (if nn = (2 : Int32) then s47_0 else s61_0)))), WP X n0 QL hJ3 3 11 169 #[.val (.int k1), .val (.long w1), .second, .val (.long w2), .second, .val (.int o1), .val ((.ref a2)), .val (.int s21_0), .val (.int s34_0), .val (.int s47_0), .val (.int s61_0), .val (.int nn), .val (.int v169_12), .unset, .unset, .unset, .unset, .unset] [] := by
                    intro v169_12 h_v169_12
                    refine wp_run ok hK (B := [(169, .iload 5, false), (171, .iconst 4, false), (172, .iand, false)]) (by decide +kernel) (ps := []) (pc' := 173) (L' := #[.val (.int k1), .val (.long w1), .second, .val (.long w2), .second, .val (.int o1), .val ((.ref a2)), .val (.int s21_0), .val (.int s34_0), .val (.int s47_0), .val (.int s61_0), .val (.int nn), .val (.int v169_12), .unset, .unset, .unset, .unset, .unset]) (S' := [.int (o1 &&& (4 : Int32))]) rfl trivial ?_
                    have J186_48 : ∀ (s186_0 : Int32) (h_s186_0 : s186_0 = (if (o1 &&& (4 : Int32)) = (0 : Int32) then (0 : Int32) else (if v169_12 = (0 : Int32) then (0 : Int32) else (1 : Int32)))), WP X n0 QL hJ3 3 11 186 #[.val (.int k1), .val (.long w1), .second, .val (.long w2), .second, .val (.int o1), .val ((.ref a2)), .val (.int s21_0), .val (.int s34_0), .val (.int s47_0), .val (.int s61_0), .val (.int nn), .val (.int v169_12), .unset, .unset, .unset, .unset, .unset] [.int s186_0] := by
                      intro s186_0 h_s186_0
                      refine wp_run ok hK (B := [(186, .istore 13, false), (188, .iload 13, false)]) (by decide +kernel) (ps := []) (pc' := 190) (L' := #[.val (.int k1), .val (.long w1), .second, .val (.long w2), .second, .val (.int o1), .val ((.ref a2)), .val (.int s21_0), .val (.int s34_0), .val (.int s47_0), .val (.int s61_0), .val (.int nn), .val (.int v169_12), .val (.int s186_0), .unset, .unset, .unset, .unset]) (S' := [.int s186_0]) rfl trivial ?_
                      obtain ⟨mm, hmm, m4⟩ : ∃ mm : Nat, nn.toInt = (mm : Int) ∧ mm < 4 := by rw [h_nn]; exact own_mask3 _
                      have JH200_49 : ∀ (hJ4 : Heap) (PJ4 : Nat → Int32) (HJ4 : Nat → Int64) (szJ4 : Nat) (hoJ4 : Nat → Bool) (ZJ4 : n0 ≤ hJ4.size) (BJ4 : HP Z hJ4 a2 hd13 pd14 4 szJ4 PJ4 HJ4) (IJ4 : INV 4 szJ4 (iP PJ4) (iH HJ4) hoJ4) (QJ4 : HR s21_0 s34_0 s47_0 s61_0 s186_0 mm hoJ4), WP X n0 QL hJ4 3 11 200 #[.val (.int k1), .val (.long w1), .second, .val (.long w2), .second, .val (.int o1), .val ((.ref a2)), .val (.int s21_0), .val (.int s34_0), .val (.int s47_0), .val (.int s61_0), .val (.int nn), .val (.int v169_12), .val (.int s186_0), .unset, .unset, .unset, .unset] [] := by
                        intro hJ4 PJ4 HJ4 szJ4 hoJ4 ZJ4 BJ4 IJ4 QJ4
                        have u50tmp := BJ4
                        obtain ⟨u50E, u50F1, u50F2, u50F3, u50A1, u50A2, u50N⟩ := u50tmp
                        have u50nhd13 : a2 ≠ hd13 := ne_ar u50E (wd hw 1 rfl) u50A1
                        have u50npd14 : a2 ≠ pd14 := ne_ar u50E (wd hw 1 rfl) u50A2
                        refine wp_run ok hK (B := [(200, .iload 7, false)]) (by decide +kernel) (ps := []) (pc' := 202) (L' := #[.val (.int k1), .val (.long w1), .second, .val (.long w2), .second, .val (.int o1), .val ((.ref a2)), .val (.int s21_0), .val (.int s34_0), .val (.int s47_0), .val (.int s61_0), .val (.int nn), .val (.int v169_12), .val (.int s186_0), .unset, .unset, .unset, .unset]) (S' := [.int s21_0]) rfl trivial ?_
                        have J220_54 : ∀ (s220_0 : Int32) (h_s220_0 : s220_0 = (if s21_0 = (0 : Int32) then (0 : Int32) else (if s186_0 = (0 : Int32) then (1 : Int32) else (if nn = (0 : Int32) then (0 : Int32) else (1 : Int32))))), WP X n0 QL hJ4 3 11 220 #[.val (.int k1), .val (.long w1), .second, .val (.long w2), .second, .val (.int o1), .val ((.ref a2)), .val (.int s21_0), .val (.int s34_0), .val (.int s47_0), .val (.int s61_0), .val (.int nn), .val (.int v169_12), .val (.int s186_0), .unset, .unset, .unset, .unset] [.int s220_0] := by
                          intro s220_0 h_s220_0
                          refine wp_run ok hK (B := [(220, .istore 14, false), (222, .iload 8, false)]) (by decide +kernel) (ps := []) (pc' := 224) (L' := #[.val (.int k1), .val (.long w1), .second, .val (.long w2), .second, .val (.int o1), .val ((.ref a2)), .val (.int s21_0), .val (.int s34_0), .val (.int s47_0), .val (.int s61_0), .val (.int nn), .val (.int v169_12), .val (.int s186_0), .val (.int s220_0), .unset, .unset, .unset]) (S' := [.int s34_0]) rfl trivial ?_
                          have J243_58 : ∀ (s243_0 : Int32) (h_s243_0 : s243_0 = (if s34_0 = (0 : Int32) then (0 : Int32) else (if s186_0 = (0 : Int32) then (1 : Int32) else (if nn = (1 : Int32) then (0 : Int32) else (1 : Int32))))), WP X n0 QL hJ4 3 11 243 #[.val (.int k1), .val (.long w1), .second, .val (.long w2), .second, .val (.int o1), .val ((.ref a2)), .val (.int s21_0), .val (.int s34_0), .val (.int s47_0), .val (.int s61_0), .val (.int nn), .val (.int v169_12), .val (.int s186_0), .val (.int s220_0), .unset, .unset, .unset] [.int s243_0] := by
                            intro s243_0 h_s243_0
                            refine wp_run ok hK (B := [(243, .istore 15, false), (245, .iload 9, false)]) (by decide +kernel) (ps := []) (pc' := 247) (L' := #[.val (.int k1), .val (.long w1), .second, .val (.long w2), .second, .val (.int o1), .val ((.ref a2)), .val (.int s21_0), .val (.int s34_0), .val (.int s47_0), .val (.int s61_0), .val (.int nn), .val (.int v169_12), .val (.int s186_0), .val (.int s220_0), .val (.int s243_0), .unset, .unset]) (S' := [.int s47_0]) rfl trivial ?_
                            have J266_62 : ∀ (s266_0 : Int32) (h_s266_0 : s266_0 = (if s47_0 = (0 : Int32) then (0 : Int32) else (if s186_0 = (0 : Int32) then (1 : Int32) else (if nn = (2 : Int32) then (0 : Int32) else (1 : Int32))))), WP X n0 QL hJ4 3 11 266 #[.val (.int k1), .val (.long w1), .second, .val (.long w2), .second, .val (.int o1), .val ((.ref a2)), .val (.int s21_0), .val (.int s34_0), .val (.int s47_0), .val (.int s61_0), .val (.int nn), .val (.int v169_12), .val (.int s186_0), .val (.int s220_0), .val (.int s243_0), .unset, .unset] [.int s266_0] := by
                              intro s266_0 h_s266_0
                              refine wp_run ok hK (B := [(266, .istore 16, false), (268, .iload 10, false)]) (by decide +kernel) (ps := []) (pc' := 270) (L' := #[.val (.int k1), .val (.long w1), .second, .val (.long w2), .second, .val (.int o1), .val ((.ref a2)), .val (.int s21_0), .val (.int s34_0), .val (.int s47_0), .val (.int s61_0), .val (.int nn), .val (.int v169_12), .val (.int s186_0), .val (.int s220_0), .val (.int s243_0), .val (.int s266_0), .unset]) (S' := [.int s61_0]) rfl trivial ?_
                              have J289_66 : ∀ (s289_0 : Int32) (h_s289_0 : s289_0 = (if s61_0 = (0 : Int32) then (0 : Int32) else (if s186_0 = (0 : Int32) then (1 : Int32) else (if nn = (3 : Int32) then (0 : Int32) else (1 : Int32))))), WP X n0 QL hJ4 3 11 289 #[.val (.int k1), .val (.long w1), .second, .val (.long w2), .second, .val (.int o1), .val ((.ref a2)), .val (.int s21_0), .val (.int s34_0), .val (.int s47_0), .val (.int s61_0), .val (.int nn), .val (.int v169_12), .val (.int s186_0), .val (.int s220_0), .val (.int s243_0), .val (.int s266_0), .unset] [.int s289_0] := by
                                intro s289_0 h_s289_0
                                refine wp_run ok hK (B := [(289, .istore 17, false), (291, .aload 6, false), (293, .iconst 0, false)]) (by decide +kernel) (ps := []) (pc' := 294) (L' := #[.val (.int k1), .val (.long w1), .second, .val (.long w2), .second, .val (.int o1), .val ((.ref a2)), .val (.int s21_0), .val (.int s34_0), .val (.int s47_0), .val (.int s61_0), .val (.int nn), .val (.int v169_12), .val (.int s186_0), .val (.int s220_0), .val (.int s243_0), .val (.int s266_0), .val (.int s289_0)]) (S' := [.int (0 : Int32), (.ref a2)]) rfl trivial ?_
                                refine wp_virtual ok (wd hw 19 rfl) (wd hw 20 rfl) (wd hw 22 rfl) (wd hw 21 rfl) (wd hw 2 rfl) (wd hw 23 rfl) (by decide) (argsL := [.int (0 : Int32)]) (rest := []) u50E (c_cnt _ Z a0 hw a2 (0 : Int32) pd14 4 PJ4 0 hJ4 n0 ZJ4 u50E u50F2 g8 u50A2 (by rfl) (by decide)) (ps := [.int]) (by decide +kernel) (by rfl) (by rfl) (by rfl) (by decide +kernel) (by decide) (Nat.le_of_ble_eq_true rfl) (by decide) (by decide) ?_
                                intro r67 h68 q69
                                obtain ⟨e70, rfl⟩ := q69
                                obtain ⟨z294, h_z294⟩ : ∃ z : Int32, z = (if PJ4 0 < (0 : Int32) then (0 : Int32) else (1 : Int32)) := ⟨_, rfl⟩
                                have e70' := e70.trans (show _ = some (Value.int z294) by rw [h_z294])
                                subst e70'
                                show WP X n0 QL hJ4 3 11 297 #[.val (.int k1), .val (.long w1), .second, .val (.long w2), .second, .val (.int o1), .val ((.ref a2)), .val (.int s21_0), .val (.int s34_0), .val (.int s47_0), .val (.int s61_0), .val (.int nn), .val (.int v169_12), .val (.int s186_0), .val (.int s220_0), .val (.int s243_0), .val (.int s266_0), .val (.int s289_0)] [.int z294]
                                refine wp_run ok hK (B := [(297, .iload 14, false)]) (by decide +kernel) (ps := []) (pc' := 299) (L' := #[.val (.int k1), .val (.long w1), .second, .val (.long w2), .second, .val (.int o1), .val ((.ref a2)), .val (.int s21_0), .val (.int s34_0), .val (.int s47_0), .val (.int s61_0), .val (.int nn), .val (.int v169_12), .val (.int s186_0), .val (.int s220_0), .val (.int s243_0), .val (.int s266_0), .val (.int s289_0)]) (S' := [.int s220_0, .int z294]) rfl trivial ?_
                                have zz0 : z294 = s220_0 := own_fin 0 (by decide) IJ4 QJ4 hmm m4 h_z294 h_s220_0
                                refine wp_run ok hK (B := [(299, .if_icmp .ne 40, false)]) (by decide +kernel) (ps := [Op.if_icmp.holds .ne z294 s220_0 = false]) (pc' := 302) (L' := #[.val (.int k1), .val (.long w1), .second, .val (.long w2), .second, .val (.int o1), .val ((.ref a2)), .val (.int s21_0), .val (.int s34_0), .val (.int s47_0), .val (.int s61_0), .val (.int nn), .val (.int v169_12), .val (.int s186_0), .val (.int s220_0), .val (.int s243_0), .val (.int s266_0), .val (.int s289_0)]) (S' := []) rfl ⟨(XT.ii_ne_f zz0), trivial⟩ ?_
                                refine wp_run ok hK (B := [(302, .aload 6, false), (304, .iconst 1, false)]) (by decide +kernel) (ps := []) (pc' := 305) (L' := #[.val (.int k1), .val (.long w1), .second, .val (.long w2), .second, .val (.int o1), .val ((.ref a2)), .val (.int s21_0), .val (.int s34_0), .val (.int s47_0), .val (.int s61_0), .val (.int nn), .val (.int v169_12), .val (.int s186_0), .val (.int s220_0), .val (.int s243_0), .val (.int s266_0), .val (.int s289_0)]) (S' := [.int (1 : Int32), (.ref a2)]) rfl trivial ?_
                                refine wp_virtual ok (wd hw 19 rfl) (wd hw 20 rfl) (wd hw 22 rfl) (wd hw 21 rfl) (wd hw 2 rfl) (wd hw 23 rfl) (by decide) (argsL := [.int (1 : Int32)]) (rest := []) u50E (c_cnt _ Z a0 hw a2 (1 : Int32) pd14 4 PJ4 1 hJ4 n0 ZJ4 u50E u50F2 g8 u50A2 (by rfl) (by decide)) (ps := [.int]) (by decide +kernel) (by rfl) (by rfl) (by rfl) (by decide +kernel) (by decide) (Nat.le_of_ble_eq_true rfl) (by decide) (by decide) ?_
                                intro r71 h72 q73
                                obtain ⟨e74, rfl⟩ := q73
                                obtain ⟨z305, h_z305⟩ : ∃ z : Int32, z = (if PJ4 1 < (0 : Int32) then (0 : Int32) else (1 : Int32)) := ⟨_, rfl⟩
                                have e74' := e74.trans (show _ = some (Value.int z305) by rw [h_z305])
                                subst e74'
                                show WP X n0 QL hJ4 3 11 308 #[.val (.int k1), .val (.long w1), .second, .val (.long w2), .second, .val (.int o1), .val ((.ref a2)), .val (.int s21_0), .val (.int s34_0), .val (.int s47_0), .val (.int s61_0), .val (.int nn), .val (.int v169_12), .val (.int s186_0), .val (.int s220_0), .val (.int s243_0), .val (.int s266_0), .val (.int s289_0)] [.int z305]
                                refine wp_run ok hK (B := [(308, .iload 15, false)]) (by decide +kernel) (ps := []) (pc' := 310) (L' := #[.val (.int k1), .val (.long w1), .second, .val (.long w2), .second, .val (.int o1), .val ((.ref a2)), .val (.int s21_0), .val (.int s34_0), .val (.int s47_0), .val (.int s61_0), .val (.int nn), .val (.int v169_12), .val (.int s186_0), .val (.int s220_0), .val (.int s243_0), .val (.int s266_0), .val (.int s289_0)]) (S' := [.int s243_0, .int z305]) rfl trivial ?_
                                have zz1 : z305 = s243_0 := own_fin 1 (by decide) IJ4 QJ4 hmm m4 h_z305 h_s243_0
                                refine wp_run ok hK (B := [(310, .if_icmp .ne 29, false)]) (by decide +kernel) (ps := [Op.if_icmp.holds .ne z305 s243_0 = false]) (pc' := 313) (L' := #[.val (.int k1), .val (.long w1), .second, .val (.long w2), .second, .val (.int o1), .val ((.ref a2)), .val (.int s21_0), .val (.int s34_0), .val (.int s47_0), .val (.int s61_0), .val (.int nn), .val (.int v169_12), .val (.int s186_0), .val (.int s220_0), .val (.int s243_0), .val (.int s266_0), .val (.int s289_0)]) (S' := []) rfl ⟨(XT.ii_ne_f zz1), trivial⟩ ?_
                                refine wp_run ok hK (B := [(313, .aload 6, false), (315, .iconst 2, false)]) (by decide +kernel) (ps := []) (pc' := 316) (L' := #[.val (.int k1), .val (.long w1), .second, .val (.long w2), .second, .val (.int o1), .val ((.ref a2)), .val (.int s21_0), .val (.int s34_0), .val (.int s47_0), .val (.int s61_0), .val (.int nn), .val (.int v169_12), .val (.int s186_0), .val (.int s220_0), .val (.int s243_0), .val (.int s266_0), .val (.int s289_0)]) (S' := [.int (2 : Int32), (.ref a2)]) rfl trivial ?_
                                refine wp_virtual ok (wd hw 19 rfl) (wd hw 20 rfl) (wd hw 22 rfl) (wd hw 21 rfl) (wd hw 2 rfl) (wd hw 23 rfl) (by decide) (argsL := [.int (2 : Int32)]) (rest := []) u50E (c_cnt _ Z a0 hw a2 (2 : Int32) pd14 4 PJ4 2 hJ4 n0 ZJ4 u50E u50F2 g8 u50A2 (by rfl) (by decide)) (ps := [.int]) (by decide +kernel) (by rfl) (by rfl) (by rfl) (by decide +kernel) (by decide) (Nat.le_of_ble_eq_true rfl) (by decide) (by decide) ?_
                                intro r75 h76 q77
                                obtain ⟨e78, rfl⟩ := q77
                                obtain ⟨z316, h_z316⟩ : ∃ z : Int32, z = (if PJ4 2 < (0 : Int32) then (0 : Int32) else (1 : Int32)) := ⟨_, rfl⟩
                                have e78' := e78.trans (show _ = some (Value.int z316) by rw [h_z316])
                                subst e78'
                                show WP X n0 QL hJ4 3 11 319 #[.val (.int k1), .val (.long w1), .second, .val (.long w2), .second, .val (.int o1), .val ((.ref a2)), .val (.int s21_0), .val (.int s34_0), .val (.int s47_0), .val (.int s61_0), .val (.int nn), .val (.int v169_12), .val (.int s186_0), .val (.int s220_0), .val (.int s243_0), .val (.int s266_0), .val (.int s289_0)] [.int z316]
                                refine wp_run ok hK (B := [(319, .iload 16, false)]) (by decide +kernel) (ps := []) (pc' := 321) (L' := #[.val (.int k1), .val (.long w1), .second, .val (.long w2), .second, .val (.int o1), .val ((.ref a2)), .val (.int s21_0), .val (.int s34_0), .val (.int s47_0), .val (.int s61_0), .val (.int nn), .val (.int v169_12), .val (.int s186_0), .val (.int s220_0), .val (.int s243_0), .val (.int s266_0), .val (.int s289_0)]) (S' := [.int s266_0, .int z316]) rfl trivial ?_
                                have zz2 : z316 = s266_0 := own_fin 2 (by decide) IJ4 QJ4 hmm m4 h_z316 h_s266_0
                                refine wp_run ok hK (B := [(321, .if_icmp .ne 18, false)]) (by decide +kernel) (ps := [Op.if_icmp.holds .ne z316 s266_0 = false]) (pc' := 324) (L' := #[.val (.int k1), .val (.long w1), .second, .val (.long w2), .second, .val (.int o1), .val ((.ref a2)), .val (.int s21_0), .val (.int s34_0), .val (.int s47_0), .val (.int s61_0), .val (.int nn), .val (.int v169_12), .val (.int s186_0), .val (.int s220_0), .val (.int s243_0), .val (.int s266_0), .val (.int s289_0)]) (S' := []) rfl ⟨(XT.ii_ne_f zz2), trivial⟩ ?_
                                refine wp_run ok hK (B := [(324, .aload 6, false), (326, .iconst 3, false)]) (by decide +kernel) (ps := []) (pc' := 327) (L' := #[.val (.int k1), .val (.long w1), .second, .val (.long w2), .second, .val (.int o1), .val ((.ref a2)), .val (.int s21_0), .val (.int s34_0), .val (.int s47_0), .val (.int s61_0), .val (.int nn), .val (.int v169_12), .val (.int s186_0), .val (.int s220_0), .val (.int s243_0), .val (.int s266_0), .val (.int s289_0)]) (S' := [.int (3 : Int32), (.ref a2)]) rfl trivial ?_
                                refine wp_virtual ok (wd hw 19 rfl) (wd hw 20 rfl) (wd hw 22 rfl) (wd hw 21 rfl) (wd hw 2 rfl) (wd hw 23 rfl) (by decide) (argsL := [.int (3 : Int32)]) (rest := []) u50E (c_cnt _ Z a0 hw a2 (3 : Int32) pd14 4 PJ4 3 hJ4 n0 ZJ4 u50E u50F2 g8 u50A2 (by rfl) (by decide)) (ps := [.int]) (by decide +kernel) (by rfl) (by rfl) (by rfl) (by decide +kernel) (by decide) (Nat.le_of_ble_eq_true rfl) (by decide) (by decide) ?_
                                intro r79 h80 q81
                                obtain ⟨e82, rfl⟩ := q81
                                obtain ⟨z327, h_z327⟩ : ∃ z : Int32, z = (if PJ4 3 < (0 : Int32) then (0 : Int32) else (1 : Int32)) := ⟨_, rfl⟩
                                have e82' := e82.trans (show _ = some (Value.int z327) by rw [h_z327])
                                subst e82'
                                show WP X n0 QL hJ4 3 11 330 #[.val (.int k1), .val (.long w1), .second, .val (.long w2), .second, .val (.int o1), .val ((.ref a2)), .val (.int s21_0), .val (.int s34_0), .val (.int s47_0), .val (.int s61_0), .val (.int nn), .val (.int v169_12), .val (.int s186_0), .val (.int s220_0), .val (.int s243_0), .val (.int s266_0), .val (.int s289_0)] [.int z327]
                                refine wp_run ok hK (B := [(330, .iload 17, false)]) (by decide +kernel) (ps := []) (pc' := 332) (L' := #[.val (.int k1), .val (.long w1), .second, .val (.long w2), .second, .val (.int o1), .val ((.ref a2)), .val (.int s21_0), .val (.int s34_0), .val (.int s47_0), .val (.int s61_0), .val (.int nn), .val (.int v169_12), .val (.int s186_0), .val (.int s220_0), .val (.int s243_0), .val (.int s266_0), .val (.int s289_0)]) (S' := [.int s289_0, .int z327]) rfl trivial ?_
                                have zz3 : z327 = s289_0 := own_fin 3 (by decide) IJ4 QJ4 hmm m4 h_z327 h_s289_0
                                refine wp_run ok hK (B := [(332, .if_icmp .ne 7, false)]) (by decide +kernel) (ps := [Op.if_icmp.holds .ne z327 s289_0 = false]) (pc' := 335) (L' := #[.val (.int k1), .val (.long w1), .second, .val (.long w2), .second, .val (.int o1), .val ((.ref a2)), .val (.int s21_0), .val (.int s34_0), .val (.int s47_0), .val (.int s61_0), .val (.int nn), .val (.int v169_12), .val (.int s186_0), .val (.int s220_0), .val (.int s243_0), .val (.int s266_0), .val (.int s289_0)]) (S' := []) rfl ⟨(XT.ii_ne_f zz3), trivial⟩ ?_
                                refine wp_run ok hK (B := [(335, .iconst 1, false), (336, .goto 4, false)]) (by decide +kernel) (ps := []) (pc' := 340) (L' := #[.val (.int k1), .val (.long w1), .second, .val (.long w2), .second, .val (.int o1), .val ((.ref a2)), .val (.int s21_0), .val (.int s34_0), .val (.int s47_0), .val (.int s61_0), .val (.int nn), .val (.int v169_12), .val (.int s186_0), .val (.int s220_0), .val (.int s243_0), .val (.int s266_0), .val (.int s289_0)]) (S' := [.int (1 : Int32)]) rfl trivial ?_
                                refine wp_retZ ok (t := .boolean) (by simp) (by decide +kernel) (by decide) (by decide) ?_
                                exact congrArg (fun z => some (Value.int z)) (own_law_1 k1 w1 w2 o1 s21_0 h_s21_0 s34_0 h_s34_0 s47_0 h_s47_0 s61_0 h_s61_0 PJ0 PJ1 PJ2 PJ3 nn h_nn v169_12 h_v169_12 s186_0 h_s186_0 PJ4 s220_0 h_s220_0 s243_0 h_s243_0 s266_0 h_s266_0 s289_0 h_s289_0 z294 h_z294 z305 h_z305 z316 h_z316 z327 h_z327)
                              by_cases c63 : s61_0 = (0 : Int32)
                              · refine wp_run ok hK (B := [(270, .ifCond .eq 18, true), (288, .iconst 0, false)]) (by decide +kernel) (ps := [Op.ifCond.holds .eq s61_0 = true]) (pc' := 289) (L' := #[.val (.int k1), .val (.long w1), .second, .val (.long w2), .second, .val (.int o1), .val ((.ref a2)), .val (.int s21_0), .val (.int s34_0), .val (.int s47_0), .val (.int s61_0), .val (.int nn), .val (.int v169_12), .val (.int s186_0), .val (.int s220_0), .val (.int s243_0), .val (.int s266_0), .unset]) (S' := [.int (0 : Int32)]) rfl ⟨(XT.i0_eq_t c63), trivial⟩ ?_
                                exact J289_66 _ (by rw [if_pos c63])
                              · by_cases c64 : s186_0 = (0 : Int32)
                                · refine wp_run ok hK (B := [(270, .ifCond .eq 18, false), (273, .iload 13, false), (275, .ifCond .eq 9, true), (284, .iconst 1, false), (285, .goto 4, false)]) (by decide +kernel) (ps := [Op.ifCond.holds .eq s61_0 = false, Op.ifCond.holds .eq s186_0 = true]) (pc' := 289) (L' := #[.val (.int k1), .val (.long w1), .second, .val (.long w2), .second, .val (.int o1), .val ((.ref a2)), .val (.int s21_0), .val (.int s34_0), .val (.int s47_0), .val (.int s61_0), .val (.int nn), .val (.int v169_12), .val (.int s186_0), .val (.int s220_0), .val (.int s243_0), .val (.int s266_0), .unset]) (S' := [.int (1 : Int32)]) rfl ⟨(XT.i0_eq_f c63), (XT.i0_eq_t c64), trivial⟩ ?_
                                  exact J289_66 _ (by rw [if_neg c63, if_pos c64])
                                · by_cases c65 : nn = (3 : Int32)
                                  · refine wp_run ok hK (B := [(270, .ifCond .eq 18, false), (273, .iload 13, false), (275, .ifCond .eq 9, false), (278, .iload 11, false), (280, .iconst 3, false), (281, .if_icmp .eq 7, true), (288, .iconst 0, false)]) (by decide +kernel) (ps := [Op.ifCond.holds .eq s61_0 = false, Op.ifCond.holds .eq s186_0 = false, Op.if_icmp.holds .eq nn (3 : Int32) = true]) (pc' := 289) (L' := #[.val (.int k1), .val (.long w1), .second, .val (.long w2), .second, .val (.int o1), .val ((.ref a2)), .val (.int s21_0), .val (.int s34_0), .val (.int s47_0), .val (.int s61_0), .val (.int nn), .val (.int v169_12), .val (.int s186_0), .val (.int s220_0), .val (.int s243_0), .val (.int s266_0), .unset]) (S' := [.int (0 : Int32)]) rfl ⟨(XT.i0_eq_f c63), (XT.i0_eq_f c64), (XT.ii_eq_t c65), trivial⟩ ?_
                                    exact J289_66 _ (by rw [if_neg c63, if_neg c64, if_pos c65])
                                  · refine wp_run ok hK (B := [(270, .ifCond .eq 18, false), (273, .iload 13, false), (275, .ifCond .eq 9, false), (278, .iload 11, false), (280, .iconst 3, false), (281, .if_icmp .eq 7, false), (284, .iconst 1, false), (285, .goto 4, false)]) (by decide +kernel) (ps := [Op.ifCond.holds .eq s61_0 = false, Op.ifCond.holds .eq s186_0 = false, Op.if_icmp.holds .eq nn (3 : Int32) = false]) (pc' := 289) (L' := #[.val (.int k1), .val (.long w1), .second, .val (.long w2), .second, .val (.int o1), .val ((.ref a2)), .val (.int s21_0), .val (.int s34_0), .val (.int s47_0), .val (.int s61_0), .val (.int nn), .val (.int v169_12), .val (.int s186_0), .val (.int s220_0), .val (.int s243_0), .val (.int s266_0), .unset]) (S' := [.int (1 : Int32)]) rfl ⟨(XT.i0_eq_f c63), (XT.i0_eq_f c64), (XT.ii_eq_f c65), trivial⟩ ?_
                                    exact J289_66 _ (by rw [if_neg c63, if_neg c64, if_neg c65])
                            by_cases c59 : s47_0 = (0 : Int32)
                            · refine wp_run ok hK (B := [(247, .ifCond .eq 18, true), (265, .iconst 0, false)]) (by decide +kernel) (ps := [Op.ifCond.holds .eq s47_0 = true]) (pc' := 266) (L' := #[.val (.int k1), .val (.long w1), .second, .val (.long w2), .second, .val (.int o1), .val ((.ref a2)), .val (.int s21_0), .val (.int s34_0), .val (.int s47_0), .val (.int s61_0), .val (.int nn), .val (.int v169_12), .val (.int s186_0), .val (.int s220_0), .val (.int s243_0), .unset, .unset]) (S' := [.int (0 : Int32)]) rfl ⟨(XT.i0_eq_t c59), trivial⟩ ?_
                              exact J266_62 _ (by rw [if_pos c59])
                            · by_cases c60 : s186_0 = (0 : Int32)
                              · refine wp_run ok hK (B := [(247, .ifCond .eq 18, false), (250, .iload 13, false), (252, .ifCond .eq 9, true), (261, .iconst 1, false), (262, .goto 4, false)]) (by decide +kernel) (ps := [Op.ifCond.holds .eq s47_0 = false, Op.ifCond.holds .eq s186_0 = true]) (pc' := 266) (L' := #[.val (.int k1), .val (.long w1), .second, .val (.long w2), .second, .val (.int o1), .val ((.ref a2)), .val (.int s21_0), .val (.int s34_0), .val (.int s47_0), .val (.int s61_0), .val (.int nn), .val (.int v169_12), .val (.int s186_0), .val (.int s220_0), .val (.int s243_0), .unset, .unset]) (S' := [.int (1 : Int32)]) rfl ⟨(XT.i0_eq_f c59), (XT.i0_eq_t c60), trivial⟩ ?_
                                exact J266_62 _ (by rw [if_neg c59, if_pos c60])
                              · by_cases c61 : nn = (2 : Int32)
                                · refine wp_run ok hK (B := [(247, .ifCond .eq 18, false), (250, .iload 13, false), (252, .ifCond .eq 9, false), (255, .iload 11, false), (257, .iconst 2, false), (258, .if_icmp .eq 7, true), (265, .iconst 0, false)]) (by decide +kernel) (ps := [Op.ifCond.holds .eq s47_0 = false, Op.ifCond.holds .eq s186_0 = false, Op.if_icmp.holds .eq nn (2 : Int32) = true]) (pc' := 266) (L' := #[.val (.int k1), .val (.long w1), .second, .val (.long w2), .second, .val (.int o1), .val ((.ref a2)), .val (.int s21_0), .val (.int s34_0), .val (.int s47_0), .val (.int s61_0), .val (.int nn), .val (.int v169_12), .val (.int s186_0), .val (.int s220_0), .val (.int s243_0), .unset, .unset]) (S' := [.int (0 : Int32)]) rfl ⟨(XT.i0_eq_f c59), (XT.i0_eq_f c60), (XT.ii_eq_t c61), trivial⟩ ?_
                                  exact J266_62 _ (by rw [if_neg c59, if_neg c60, if_pos c61])
                                · refine wp_run ok hK (B := [(247, .ifCond .eq 18, false), (250, .iload 13, false), (252, .ifCond .eq 9, false), (255, .iload 11, false), (257, .iconst 2, false), (258, .if_icmp .eq 7, false), (261, .iconst 1, false), (262, .goto 4, false)]) (by decide +kernel) (ps := [Op.ifCond.holds .eq s47_0 = false, Op.ifCond.holds .eq s186_0 = false, Op.if_icmp.holds .eq nn (2 : Int32) = false]) (pc' := 266) (L' := #[.val (.int k1), .val (.long w1), .second, .val (.long w2), .second, .val (.int o1), .val ((.ref a2)), .val (.int s21_0), .val (.int s34_0), .val (.int s47_0), .val (.int s61_0), .val (.int nn), .val (.int v169_12), .val (.int s186_0), .val (.int s220_0), .val (.int s243_0), .unset, .unset]) (S' := [.int (1 : Int32)]) rfl ⟨(XT.i0_eq_f c59), (XT.i0_eq_f c60), (XT.ii_eq_f c61), trivial⟩ ?_
                                  exact J266_62 _ (by rw [if_neg c59, if_neg c60, if_neg c61])
                          by_cases c55 : s34_0 = (0 : Int32)
                          · refine wp_run ok hK (B := [(224, .ifCond .eq 18, true), (242, .iconst 0, false)]) (by decide +kernel) (ps := [Op.ifCond.holds .eq s34_0 = true]) (pc' := 243) (L' := #[.val (.int k1), .val (.long w1), .second, .val (.long w2), .second, .val (.int o1), .val ((.ref a2)), .val (.int s21_0), .val (.int s34_0), .val (.int s47_0), .val (.int s61_0), .val (.int nn), .val (.int v169_12), .val (.int s186_0), .val (.int s220_0), .unset, .unset, .unset]) (S' := [.int (0 : Int32)]) rfl ⟨(XT.i0_eq_t c55), trivial⟩ ?_
                            exact J243_58 _ (by rw [if_pos c55])
                          · by_cases c56 : s186_0 = (0 : Int32)
                            · refine wp_run ok hK (B := [(224, .ifCond .eq 18, false), (227, .iload 13, false), (229, .ifCond .eq 9, true), (238, .iconst 1, false), (239, .goto 4, false)]) (by decide +kernel) (ps := [Op.ifCond.holds .eq s34_0 = false, Op.ifCond.holds .eq s186_0 = true]) (pc' := 243) (L' := #[.val (.int k1), .val (.long w1), .second, .val (.long w2), .second, .val (.int o1), .val ((.ref a2)), .val (.int s21_0), .val (.int s34_0), .val (.int s47_0), .val (.int s61_0), .val (.int nn), .val (.int v169_12), .val (.int s186_0), .val (.int s220_0), .unset, .unset, .unset]) (S' := [.int (1 : Int32)]) rfl ⟨(XT.i0_eq_f c55), (XT.i0_eq_t c56), trivial⟩ ?_
                              exact J243_58 _ (by rw [if_neg c55, if_pos c56])
                            · by_cases c57 : nn = (1 : Int32)
                              · refine wp_run ok hK (B := [(224, .ifCond .eq 18, false), (227, .iload 13, false), (229, .ifCond .eq 9, false), (232, .iload 11, false), (234, .iconst 1, false), (235, .if_icmp .eq 7, true), (242, .iconst 0, false)]) (by decide +kernel) (ps := [Op.ifCond.holds .eq s34_0 = false, Op.ifCond.holds .eq s186_0 = false, Op.if_icmp.holds .eq nn (1 : Int32) = true]) (pc' := 243) (L' := #[.val (.int k1), .val (.long w1), .second, .val (.long w2), .second, .val (.int o1), .val ((.ref a2)), .val (.int s21_0), .val (.int s34_0), .val (.int s47_0), .val (.int s61_0), .val (.int nn), .val (.int v169_12), .val (.int s186_0), .val (.int s220_0), .unset, .unset, .unset]) (S' := [.int (0 : Int32)]) rfl ⟨(XT.i0_eq_f c55), (XT.i0_eq_f c56), (XT.ii_eq_t c57), trivial⟩ ?_
                                exact J243_58 _ (by rw [if_neg c55, if_neg c56, if_pos c57])
                              · refine wp_run ok hK (B := [(224, .ifCond .eq 18, false), (227, .iload 13, false), (229, .ifCond .eq 9, false), (232, .iload 11, false), (234, .iconst 1, false), (235, .if_icmp .eq 7, false), (238, .iconst 1, false), (239, .goto 4, false)]) (by decide +kernel) (ps := [Op.ifCond.holds .eq s34_0 = false, Op.ifCond.holds .eq s186_0 = false, Op.if_icmp.holds .eq nn (1 : Int32) = false]) (pc' := 243) (L' := #[.val (.int k1), .val (.long w1), .second, .val (.long w2), .second, .val (.int o1), .val ((.ref a2)), .val (.int s21_0), .val (.int s34_0), .val (.int s47_0), .val (.int s61_0), .val (.int nn), .val (.int v169_12), .val (.int s186_0), .val (.int s220_0), .unset, .unset, .unset]) (S' := [.int (1 : Int32)]) rfl ⟨(XT.i0_eq_f c55), (XT.i0_eq_f c56), (XT.ii_eq_f c57), trivial⟩ ?_
                                exact J243_58 _ (by rw [if_neg c55, if_neg c56, if_neg c57])
                        by_cases c51 : s21_0 = (0 : Int32)
                        · refine wp_run ok hK (B := [(202, .ifCond .eq 17, true), (219, .iconst 0, false)]) (by decide +kernel) (ps := [Op.ifCond.holds .eq s21_0 = true]) (pc' := 220) (L' := #[.val (.int k1), .val (.long w1), .second, .val (.long w2), .second, .val (.int o1), .val ((.ref a2)), .val (.int s21_0), .val (.int s34_0), .val (.int s47_0), .val (.int s61_0), .val (.int nn), .val (.int v169_12), .val (.int s186_0), .unset, .unset, .unset, .unset]) (S' := [.int (0 : Int32)]) rfl ⟨(XT.i0_eq_t c51), trivial⟩ ?_
                          exact J220_54 _ (by rw [if_pos c51])
                        · by_cases c52 : s186_0 = (0 : Int32)
                          · refine wp_run ok hK (B := [(202, .ifCond .eq 17, false), (205, .iload 13, false), (207, .ifCond .eq 8, true), (215, .iconst 1, false), (216, .goto 4, false)]) (by decide +kernel) (ps := [Op.ifCond.holds .eq s21_0 = false, Op.ifCond.holds .eq s186_0 = true]) (pc' := 220) (L' := #[.val (.int k1), .val (.long w1), .second, .val (.long w2), .second, .val (.int o1), .val ((.ref a2)), .val (.int s21_0), .val (.int s34_0), .val (.int s47_0), .val (.int s61_0), .val (.int nn), .val (.int v169_12), .val (.int s186_0), .unset, .unset, .unset, .unset]) (S' := [.int (1 : Int32)]) rfl ⟨(XT.i0_eq_f c51), (XT.i0_eq_t c52), trivial⟩ ?_
                            exact J220_54 _ (by rw [if_neg c51, if_pos c52])
                          · by_cases c53 : nn = (0 : Int32)
                            · refine wp_run ok hK (B := [(202, .ifCond .eq 17, false), (205, .iload 13, false), (207, .ifCond .eq 8, false), (210, .iload 11, false), (212, .ifCond .eq 7, true), (219, .iconst 0, false)]) (by decide +kernel) (ps := [Op.ifCond.holds .eq s21_0 = false, Op.ifCond.holds .eq s186_0 = false, Op.ifCond.holds .eq nn = true]) (pc' := 220) (L' := #[.val (.int k1), .val (.long w1), .second, .val (.long w2), .second, .val (.int o1), .val ((.ref a2)), .val (.int s21_0), .val (.int s34_0), .val (.int s47_0), .val (.int s61_0), .val (.int nn), .val (.int v169_12), .val (.int s186_0), .unset, .unset, .unset, .unset]) (S' := [.int (0 : Int32)]) rfl ⟨(XT.i0_eq_f c51), (XT.i0_eq_f c52), (XT.i0_eq_t c53), trivial⟩ ?_
                              exact J220_54 _ (by rw [if_neg c51, if_neg c52, if_pos c53])
                            · refine wp_run ok hK (B := [(202, .ifCond .eq 17, false), (205, .iload 13, false), (207, .ifCond .eq 8, false), (210, .iload 11, false), (212, .ifCond .eq 7, false), (215, .iconst 1, false), (216, .goto 4, false)]) (by decide +kernel) (ps := [Op.ifCond.holds .eq s21_0 = false, Op.ifCond.holds .eq s186_0 = false, Op.ifCond.holds .eq nn = false]) (pc' := 220) (L' := #[.val (.int k1), .val (.long w1), .second, .val (.long w2), .second, .val (.int o1), .val ((.ref a2)), .val (.int s21_0), .val (.int s34_0), .val (.int s47_0), .val (.int s61_0), .val (.int nn), .val (.int v169_12), .val (.int s186_0), .unset, .unset, .unset, .unset]) (S' := [.int (1 : Int32)]) rfl ⟨(XT.i0_eq_f c51), (XT.i0_eq_f c52), (XT.i0_eq_f c53), trivial⟩ ?_
                              exact J220_54 _ (by rw [if_neg c51, if_neg c52, if_neg c53])
                      by_cases hc190 : s186_0 = (0 : Int32)
                      · refine wp_run ok hK (B := [(190, .ifCond .eq 10, true)]) (by decide +kernel) (ps := [Op.ifCond.holds .eq s186_0 = true]) (pc' := 200) (L' := #[.val (.int k1), .val (.long w1), .second, .val (.long w2), .second, .val (.int o1), .val ((.ref a2)), .val (.int s21_0), .val (.int s34_0), .val (.int s47_0), .val (.int s61_0), .val (.int nn), .val (.int v169_12), .val (.int s186_0), .unset, .unset, .unset, .unset]) (S' := []) rfl ⟨(XT.i0_eq_t hc190), trivial⟩ ?_
                        exact JH200_49 _ _ _ _ _ ZJ3 ⟨u41E, u41F1, u41F2, u41F3, u41A1, u41A2, u41N⟩ IJ3 (HR_no QJ3 hc190)
                      · refine wp_run ok hK (B := [(190, .ifCond .eq 10, false)]) (by decide +kernel) (ps := [Op.ifCond.holds .eq s186_0 = false]) (pc' := 193) (L' := #[.val (.int k1), .val (.long w1), .second, .val (.long w2), .second, .val (.int o1), .val ((.ref a2)), .val (.int s21_0), .val (.int s34_0), .val (.int s47_0), .val (.int s61_0), .val (.int nn), .val (.int v169_12), .val (.int s186_0), .unset, .unset, .unset, .unset]) (S' := []) rfl ⟨(XT.i0_eq_f hc190), trivial⟩ ?_
                        refine wp_run ok hK (B := [(193, .aload 6, false), (195, .iload 11, false)]) (by decide +kernel) (ps := []) (pc' := 197) (L' := #[.val (.int k1), .val (.long w1), .second, .val (.long w2), .second, .val (.int o1), .val ((.ref a2)), .val (.int s21_0), .val (.int s34_0), .val (.int s47_0), .val (.int s61_0), .val (.int nn), .val (.int v169_12), .val (.int s186_0), .unset, .unset, .unset, .unset]) (S' := [.int nn, (.ref a2)]) rfl trivial ?_
                        have vn : ¬ pk s21_0 s34_0 s47_0 s61_0 mm = 0 := by
                          intro w; apply hc190; rw [h_s186_0]
                          have w2 : v169_12 = 0 := by rw [h_v169_12, own_sel hmm m4, w]
                          simp only [w2, if_true, ite_self]
                        have hh : hoJ3 mm = true := by rw [QJ3.2.1 mm m4]; exact decide_eq_true vn
                        obtain ⟨sp, hsp⟩ : ∃ sp, szJ3 = sp + 1 := ⟨szJ3 - 1, by have t0 := (IJ3.2.2.1 mm m4).mp hh; have t1 := (IJ3.2.2.2 mm m4 t0).1; omega⟩
                        have HBq : HP Z hJ3 a2 hd13 pd14 4 szJ3 PJ3 HJ3 := ⟨u41E, u41F1, u41F2, u41F3, u41A1, u41A2, u41N⟩
                        have HBr : HP Z hJ3 a2 hd13 pd14 4 (sp + 1) PJ3 HJ3 := hsp ▸ HBq
                        have hIr : INV 4 (sp + 1) (iP PJ3) (iH HJ3) hoJ3 := hsp ▸ IJ3
                        refine wp_virtual ok (wd hw 38 rfl) (wd hw 39 rfl) (wd hw 41 rfl) (wd hw 40 rfl) (wd hw 2 rfl) (wd hw 42 rfl) (by decide) (argsL := [.int nn]) (rest := []) u41E (c_rem _ Z a0 hw a2 nn hd13 pd14 4 sp PJ3 HJ3 hoJ3 mm hJ3 n0 ZJ3 g8 g22 g23 HBr hIr hmm hh m4 (by decide)) (ps := [.int]) (by decide +kernel) (by rfl) (by rfl) (by rfl) (by decide +kernel) (by decide) (Nat.le_of_ble_eq_true rfl) (by decide) (by decide) ?_
                        intro r88 h89 q90
                        obtain ⟨rfl, K83, Pf84, Hf85, B86, I87⟩ := q90
                        have Z91 : n0 ≤ h89.size := Nat.le_trans ZJ3 K83.1
                        have u92tmp := B86
                        obtain ⟨u92E, u92F1, u92F2, u92F3, u92A1, u92A2, u92N⟩ := u92tmp
                        have u92nhd13 : a2 ≠ hd13 := ne_ar u92E (wd hw 1 rfl) u92A1
                        have u92npd14 : a2 ≠ pd14 := ne_ar u92E (wd hw 1 rfl) u92A2
                        show WP X n0 QL h89 3 11 200 #[.val (.int k1), .val (.long w1), .second, .val (.long w2), .second, .val (.int o1), .val ((.ref a2)), .val (.int s21_0), .val (.int s34_0), .val (.int s47_0), .val (.int s61_0), .val (.int nn), .val (.int v169_12), .val (.int s186_0), .unset, .unset, .unset, .unset] []
                        exact JH200_49 _ _ _ _ _ Z91 ⟨u92E, u92F1, u92F2, u92F3, u92A1, u92A2, u92N⟩ I87 (HR_rem QJ3 hc190)
                    by_cases c46 : (o1 &&& (4 : Int32)) = (0 : Int32)
                    · refine wp_run ok hK (B := [(173, .ifCond .eq 12, true), (185, .iconst 0, false)]) (by decide +kernel) (ps := [Op.ifCond.holds .eq (o1 &&& (4 : Int32)) = true]) (pc' := 186) (L' := #[.val (.int k1), .val (.long w1), .second, .val (.long w2), .second, .val (.int o1), .val ((.ref a2)), .val (.int s21_0), .val (.int s34_0), .val (.int s47_0), .val (.int s61_0), .val (.int nn), .val (.int v169_12), .unset, .unset, .unset, .unset, .unset]) (S' := [.int (0 : Int32)]) rfl ⟨(XT.i0_eq_t c46), trivial⟩ ?_
                      exact J186_48 _ (by rw [if_pos c46])
                    · by_cases c47 : v169_12 = (0 : Int32)
                      · refine wp_run ok hK (B := [(173, .ifCond .eq 12, false), (176, .iload 12, false), (178, .ifCond .eq 7, true), (185, .iconst 0, false)]) (by decide +kernel) (ps := [Op.ifCond.holds .eq (o1 &&& (4 : Int32)) = false, Op.ifCond.holds .eq v169_12 = true]) (pc' := 186) (L' := #[.val (.int k1), .val (.long w1), .second, .val (.long w2), .second, .val (.int o1), .val ((.ref a2)), .val (.int s21_0), .val (.int s34_0), .val (.int s47_0), .val (.int s61_0), .val (.int nn), .val (.int v169_12), .unset, .unset, .unset, .unset, .unset]) (S' := [.int (0 : Int32)]) rfl ⟨(XT.i0_eq_f c46), (XT.i0_eq_t c47), trivial⟩ ?_
                        exact J186_48 _ (by rw [if_neg c46, if_pos c47])
                      · refine wp_run ok hK (B := [(173, .ifCond .eq 12, false), (176, .iload 12, false), (178, .ifCond .eq 7, false), (181, .iconst 1, false), (182, .goto 4, false)]) (by decide +kernel) (ps := [Op.ifCond.holds .eq (o1 &&& (4 : Int32)) = false, Op.ifCond.holds .eq v169_12 = false]) (pc' := 186) (L' := #[.val (.int k1), .val (.long w1), .second, .val (.long w2), .second, .val (.int o1), .val ((.ref a2)), .val (.int s21_0), .val (.int s34_0), .val (.int s47_0), .val (.int s61_0), .val (.int nn), .val (.int v169_12), .unset, .unset, .unset, .unset, .unset]) (S' := [.int (1 : Int32)]) rfl ⟨(XT.i0_eq_f c46), (XT.i0_eq_f c47), trivial⟩ ?_
                        exact J186_48 _ (by rw [if_neg c46, if_neg c47])
                  by_cases c42 : nn = (0 : Int32)
                  · refine wp_run ok hK (B := [(129, .ifCond .ne 10, false), (132, .iload 7, false), (134, .istore 12, false), (136, .goto 33, false)]) (by decide +kernel) (ps := [Op.ifCond.holds .ne nn = false]) (pc' := 169) (L' := #[.val (.int k1), .val (.long w1), .second, .val (.long w2), .second, .val (.int o1), .val ((.ref a2)), .val (.int s21_0), .val (.int s34_0), .val (.int s47_0), .val (.int s61_0), .val (.int nn), .val (.int s21_0), .unset, .unset, .unset, .unset, .unset]) (S' := []) rfl ⟨(XT.i0_ne_f c42), trivial⟩ ?_
                    exact J169_45 _ (by rw [if_pos c42])
                  · by_cases c43 : nn = (1 : Int32)
                    · refine wp_run ok hK (B := [(129, .ifCond .ne 10, true), (139, .iload 11, false), (141, .iconst 1, false), (142, .if_icmp .ne 10, false), (145, .iload 8, false), (147, .istore 12, false), (149, .goto 20, false)]) (by decide +kernel) (ps := [Op.ifCond.holds .ne nn = true, Op.if_icmp.holds .ne nn (1 : Int32) = false]) (pc' := 169) (L' := #[.val (.int k1), .val (.long w1), .second, .val (.long w2), .second, .val (.int o1), .val ((.ref a2)), .val (.int s21_0), .val (.int s34_0), .val (.int s47_0), .val (.int s61_0), .val (.int nn), .val (.int s34_0), .unset, .unset, .unset, .unset, .unset]) (S' := []) rfl ⟨(XT.i0_ne_t c42), (XT.ii_ne_f c43), trivial⟩ ?_
                      exact J169_45 _ (by rw [if_neg c42, if_pos c43])
                    · by_cases c44 : nn = (2 : Int32)
                      · refine wp_run ok hK (B := [(129, .ifCond .ne 10, true), (139, .iload 11, false), (141, .iconst 1, false), (142, .if_icmp .ne 10, true), (152, .iload 11, false), (154, .iconst 2, false), (155, .if_icmp .ne 10, false), (158, .iload 9, false), (160, .istore 12, false), (162, .goto 7, false)]) (by decide +kernel) (ps := [Op.ifCond.holds .ne nn = true, Op.if_icmp.holds .ne nn (1 : Int32) = true, Op.if_icmp.holds .ne nn (2 : Int32) = false]) (pc' := 169) (L' := #[.val (.int k1), .val (.long w1), .second, .val (.long w2), .second, .val (.int o1), .val ((.ref a2)), .val (.int s21_0), .val (.int s34_0), .val (.int s47_0), .val (.int s61_0), .val (.int nn), .val (.int s47_0), .unset, .unset, .unset, .unset, .unset]) (S' := []) rfl ⟨(XT.i0_ne_t c42), (XT.ii_ne_t c43), (XT.ii_ne_f c44), trivial⟩ ?_
                        exact J169_45 _ (by rw [if_neg c42, if_neg c43, if_pos c44])
                      · refine wp_run ok hK (B := [(129, .ifCond .ne 10, true), (139, .iload 11, false), (141, .iconst 1, false), (142, .if_icmp .ne 10, true), (152, .iload 11, false), (154, .iconst 2, false), (155, .if_icmp .ne 10, true), (165, .iload 10, false), (167, .istore 12, false)]) (by decide +kernel) (ps := [Op.ifCond.holds .ne nn = true, Op.if_icmp.holds .ne nn (1 : Int32) = true, Op.if_icmp.holds .ne nn (2 : Int32) = true]) (pc' := 169) (L' := #[.val (.int k1), .val (.long w1), .second, .val (.long w2), .second, .val (.int o1), .val ((.ref a2)), .val (.int s21_0), .val (.int s34_0), .val (.int s47_0), .val (.int s61_0), .val (.int nn), .val (.int s61_0), .unset, .unset, .unset, .unset, .unset]) (S' := []) rfl ⟨(XT.i0_ne_t c42), (XT.ii_ne_t c43), (XT.ii_ne_t c44), trivial⟩ ?_
                        exact J169_45 _ (by rw [if_neg c42, if_neg c43, if_neg c44])
                by_cases hc107 : s61_0 = (0 : Int32)
                · refine wp_run ok hK (B := [(107, .ifCond .eq 14, true)]) (by decide +kernel) (ps := [Op.ifCond.holds .eq s61_0 = true]) (pc' := 121) (L' := #[.val (.int k1), .val (.long w1), .second, .val (.long w2), .second, .val (.int o1), .val ((.ref a2)), .val (.int s21_0), .val (.int s34_0), .val (.int s47_0), .val (.int s61_0), .unset, .unset, .unset, .unset, .unset, .unset, .unset]) (S' := []) rfl ⟨(XT.i0_eq_t hc107), trivial⟩ ?_
                  exact JH121_40 _ _ _ _ _ ZJ2 ⟨u39E, u39F1, u39F2, u39F3, u39A1, u39A2, u39N⟩ IJ2 (HQ_no QJ2 hc107)
                · refine wp_run ok hK (B := [(107, .ifCond .eq 14, false)]) (by decide +kernel) (ps := [Op.ifCond.holds .eq s61_0 = false]) (pc' := 110) (L' := #[.val (.int k1), .val (.long w1), .second, .val (.long w2), .second, .val (.int o1), .val ((.ref a2)), .val (.int s21_0), .val (.int s34_0), .val (.int s47_0), .val (.int s61_0), .unset, .unset, .unset, .unset, .unset, .unset, .unset]) (S' := []) rfl ⟨(XT.i0_eq_f hc107), trivial⟩ ?_
                  refine wp_run ok hK (B := [(110, .aload 6, false), (112, .iconst 3, false), (113, .lload_n 3, false), (114, .bipush 32, false), (116, .lushr, false), (117, .l2i, false)]) (by decide +kernel) (ps := []) (pc' := 118) (L' := #[.val (.int k1), .val (.long w1), .second, .val (.long w2), .second, .val (.int o1), .val ((.ref a2)), .val (.int s21_0), .val (.int s34_0), .val (.int s47_0), .val (.int s61_0), .unset, .unset, .unset, .unset, .unset, .unset, .unset]) (S' := [.int ((ushL w2 (32 : Int32)).toInt32), .int (3 : Int32), (.ref a2)]) rfl trivial ?_
                  refine wp_virtual ok (wd hw 24 rfl) (wd hw 25 rfl) (wd hw 27 rfl) (wd hw 26 rfl) (wd hw 2 rfl) (wd hw 28 rfl) (by decide) (argsL := [.int (3 : Int32), .int ((ushL w2 (32 : Int32)).toInt32)]) (rest := []) u39E (c_add _ Z a0 hw a2 (3 : Int32) ((ushL w2 (32 : Int32)).toInt32) hd13 pd14 4 szJ2 PJ2 HJ2 hoJ2 3 hJ2 n0 ZJ2 g8 g22 g23 ⟨u39E, u39F1, u39F2, u39F3, u39A1, u39A2, u39N⟩ IJ2 (Nat.lt_of_le_of_lt QJ2.1 (by decide)) (by rfl) (QJ2.2.2 3 (by decide)) (by decide) (by decide)) (ps := [.int, .int]) (by decide +kernel) (by rfl) (by rfl) (by rfl) (by decide +kernel) (by decide) (Nat.le_of_ble_eq_true rfl) (by decide) (by decide) ?_
                  intro r98 h99 q100
                  obtain ⟨rfl, K93, Pf94, Hf95, B96, I97⟩ := q100
                  have Z101 : n0 ≤ h99.size := Nat.le_trans ZJ2 K93.1
                  have u102tmp := B96
                  obtain ⟨u102E, u102F1, u102F2, u102F3, u102A1, u102A2, u102N⟩ := u102tmp
                  have u102nhd13 : a2 ≠ hd13 := ne_ar u102E (wd hw 1 rfl) u102A1
                  have u102npd14 : a2 ≠ pd14 := ne_ar u102E (wd hw 1 rfl) u102A2
                  show WP X n0 QL h99 3 11 121 #[.val (.int k1), .val (.long w1), .second, .val (.long w2), .second, .val (.int o1), .val ((.ref a2)), .val (.int s21_0), .val (.int s34_0), .val (.int s47_0), .val (.int s61_0), .unset, .unset, .unset, .unset, .unset, .unset, .unset] []
                  exact JH121_40 _ _ _ _ _ Z101 ⟨u102E, u102F1, u102F2, u102F3, u102A1, u102A2, u102N⟩ I97 (HQ_add QJ2 hc107)
              by_cases hc94 : s47_0 = (0 : Int32)
              · refine wp_run ok hK (B := [(94, .ifCond .eq 11, true)]) (by decide +kernel) (ps := [Op.ifCond.holds .eq s47_0 = true]) (pc' := 105) (L' := #[.val (.int k1), .val (.long w1), .second, .val (.long w2), .second, .val (.int o1), .val ((.ref a2)), .val (.int s21_0), .val (.int s34_0), .val (.int s47_0), .val (.int s61_0), .unset, .unset, .unset, .unset, .unset, .unset, .unset]) (S' := []) rfl ⟨(XT.i0_eq_t hc94), trivial⟩ ?_
                exact JH105_38 _ _ _ _ _ ZJ1 ⟨u37E, u37F1, u37F2, u37F3, u37A1, u37A2, u37N⟩ IJ1 (HQ_no QJ1 hc94)
              · refine wp_run ok hK (B := [(94, .ifCond .eq 11, false)]) (by decide +kernel) (ps := [Op.ifCond.holds .eq s47_0 = false]) (pc' := 97) (L' := #[.val (.int k1), .val (.long w1), .second, .val (.long w2), .second, .val (.int o1), .val ((.ref a2)), .val (.int s21_0), .val (.int s34_0), .val (.int s47_0), .val (.int s61_0), .unset, .unset, .unset, .unset, .unset, .unset, .unset]) (S' := []) rfl ⟨(XT.i0_eq_f hc94), trivial⟩ ?_
                refine wp_run ok hK (B := [(97, .aload 6, false), (99, .iconst 2, false), (100, .lload_n 3, false), (101, .l2i, false)]) (by decide +kernel) (ps := []) (pc' := 102) (L' := #[.val (.int k1), .val (.long w1), .second, .val (.long w2), .second, .val (.int o1), .val ((.ref a2)), .val (.int s21_0), .val (.int s34_0), .val (.int s47_0), .val (.int s61_0), .unset, .unset, .unset, .unset, .unset, .unset, .unset]) (S' := [.int (w2.toInt32), .int (2 : Int32), (.ref a2)]) rfl trivial ?_
                refine wp_virtual ok (wd hw 24 rfl) (wd hw 25 rfl) (wd hw 27 rfl) (wd hw 26 rfl) (wd hw 2 rfl) (wd hw 28 rfl) (by decide) (argsL := [.int (2 : Int32), .int (w2.toInt32)]) (rest := []) u37E (c_add _ Z a0 hw a2 (2 : Int32) (w2.toInt32) hd13 pd14 4 szJ1 PJ1 HJ1 hoJ1 2 hJ1 n0 ZJ1 g8 g22 g23 ⟨u37E, u37F1, u37F2, u37F3, u37A1, u37A2, u37N⟩ IJ1 (Nat.lt_of_le_of_lt QJ1.1 (by decide)) (by rfl) (QJ1.2.2 2 (by decide)) (by decide) (by decide)) (ps := [.int, .int]) (by decide +kernel) (by rfl) (by rfl) (by rfl) (by decide +kernel) (by decide) (Nat.le_of_ble_eq_true rfl) (by decide) (by decide) ?_
                intro r108 h109 q110
                obtain ⟨rfl, K103, Pf104, Hf105, B106, I107⟩ := q110
                have Z111 : n0 ≤ h109.size := Nat.le_trans ZJ1 K103.1
                have u112tmp := B106
                obtain ⟨u112E, u112F1, u112F2, u112F3, u112A1, u112A2, u112N⟩ := u112tmp
                have u112nhd13 : a2 ≠ hd13 := ne_ar u112E (wd hw 1 rfl) u112A1
                have u112npd14 : a2 ≠ pd14 := ne_ar u112E (wd hw 1 rfl) u112A2
                show WP X n0 QL h109 3 11 105 #[.val (.int k1), .val (.long w1), .second, .val (.long w2), .second, .val (.int o1), .val ((.ref a2)), .val (.int s21_0), .val (.int s34_0), .val (.int s47_0), .val (.int s61_0), .unset, .unset, .unset, .unset, .unset, .unset, .unset] []
                exact JH105_38 _ _ _ _ _ Z111 ⟨u112E, u112F1, u112F2, u112F3, u112A1, u112A2, u112N⟩ I107 (HQ_add QJ1 hc94)
            by_cases hc78 : s34_0 = (0 : Int32)
            · refine wp_run ok hK (B := [(78, .ifCond .eq 14, true)]) (by decide +kernel) (ps := [Op.ifCond.holds .eq s34_0 = true]) (pc' := 92) (L' := #[.val (.int k1), .val (.long w1), .second, .val (.long w2), .second, .val (.int o1), .val ((.ref a2)), .val (.int s21_0), .val (.int s34_0), .val (.int s47_0), .val (.int s61_0), .unset, .unset, .unset, .unset, .unset, .unset, .unset]) (S' := []) rfl ⟨(XT.i0_eq_t hc78), trivial⟩ ?_
              exact JH92_36 _ _ _ _ _ ZJ0 ⟨u35E, u35F1, u35F2, u35F3, u35A1, u35A2, u35N⟩ IJ0 (HQ_no QJ0 hc78)
            · refine wp_run ok hK (B := [(78, .ifCond .eq 14, false)]) (by decide +kernel) (ps := [Op.ifCond.holds .eq s34_0 = false]) (pc' := 81) (L' := #[.val (.int k1), .val (.long w1), .second, .val (.long w2), .second, .val (.int o1), .val ((.ref a2)), .val (.int s21_0), .val (.int s34_0), .val (.int s47_0), .val (.int s61_0), .unset, .unset, .unset, .unset, .unset, .unset, .unset]) (S' := []) rfl ⟨(XT.i0_eq_f hc78), trivial⟩ ?_
              refine wp_run ok hK (B := [(81, .aload 6, false), (83, .iconst 1, false), (84, .lload_n 1, false), (85, .bipush 32, false), (87, .lushr, false), (88, .l2i, false)]) (by decide +kernel) (ps := []) (pc' := 89) (L' := #[.val (.int k1), .val (.long w1), .second, .val (.long w2), .second, .val (.int o1), .val ((.ref a2)), .val (.int s21_0), .val (.int s34_0), .val (.int s47_0), .val (.int s61_0), .unset, .unset, .unset, .unset, .unset, .unset, .unset]) (S' := [.int ((ushL w1 (32 : Int32)).toInt32), .int (1 : Int32), (.ref a2)]) rfl trivial ?_
              refine wp_virtual ok (wd hw 24 rfl) (wd hw 25 rfl) (wd hw 27 rfl) (wd hw 26 rfl) (wd hw 2 rfl) (wd hw 28 rfl) (by decide) (argsL := [.int (1 : Int32), .int ((ushL w1 (32 : Int32)).toInt32)]) (rest := []) u35E (c_add _ Z a0 hw a2 (1 : Int32) ((ushL w1 (32 : Int32)).toInt32) hd13 pd14 4 szJ0 PJ0 HJ0 hoJ0 1 hJ0 n0 ZJ0 g8 g22 g23 ⟨u35E, u35F1, u35F2, u35F3, u35A1, u35A2, u35N⟩ IJ0 (Nat.lt_of_le_of_lt QJ0.1 (by decide)) (by rfl) (QJ0.2.2 1 (by decide)) (by decide) (by decide)) (ps := [.int, .int]) (by decide +kernel) (by rfl) (by rfl) (by rfl) (by decide +kernel) (by decide) (Nat.le_of_ble_eq_true rfl) (by decide) (by decide) ?_
              intro r118 h119 q120
              obtain ⟨rfl, K113, Pf114, Hf115, B116, I117⟩ := q120
              have Z121 : n0 ≤ h119.size := Nat.le_trans ZJ0 K113.1
              have u122tmp := B116
              obtain ⟨u122E, u122F1, u122F2, u122F3, u122A1, u122A2, u122N⟩ := u122tmp
              have u122nhd13 : a2 ≠ hd13 := ne_ar u122E (wd hw 1 rfl) u122A1
              have u122npd14 : a2 ≠ pd14 := ne_ar u122E (wd hw 1 rfl) u122A2
              show WP X n0 QL h119 3 11 92 #[.val (.int k1), .val (.long w1), .second, .val (.long w2), .second, .val (.int o1), .val ((.ref a2)), .val (.int s21_0), .val (.int s34_0), .val (.int s47_0), .val (.int s61_0), .unset, .unset, .unset, .unset, .unset, .unset, .unset] []
              exact JH92_36 _ _ _ _ _ Z121 ⟨u122E, u122F1, u122F2, u122F3, u122A1, u122A2, u122N⟩ I117 (HQ_add QJ0 hc78)
          by_cases hc65 : s21_0 = (0 : Int32)
          · refine wp_run ok hK (B := [(65, .ifCond .eq 11, true)]) (by decide +kernel) (ps := [Op.ifCond.holds .eq s21_0 = true]) (pc' := 76) (L' := #[.val (.int k1), .val (.long w1), .second, .val (.long w2), .second, .val (.int o1), .val ((.ref a2)), .val (.int s21_0), .val (.int s34_0), .val (.int s47_0), .val (.int s61_0), .unset, .unset, .unset, .unset, .unset, .unset, .unset]) (S' := []) rfl ⟨(XT.i0_eq_t hc65), trivial⟩ ?_
            exact JH76_34 _ _ _ _ _ Z21 ⟨u24E, u24F1, u24F2, u24F3, u24A1, u24A2, u24N⟩ I25 (HQ_no Q0 hc65)
          · refine wp_run ok hK (B := [(65, .ifCond .eq 11, false)]) (by decide +kernel) (ps := [Op.ifCond.holds .eq s21_0 = false]) (pc' := 68) (L' := #[.val (.int k1), .val (.long w1), .second, .val (.long w2), .second, .val (.int o1), .val ((.ref a2)), .val (.int s21_0), .val (.int s34_0), .val (.int s47_0), .val (.int s61_0), .unset, .unset, .unset, .unset, .unset, .unset, .unset]) (S' := []) rfl ⟨(XT.i0_eq_f hc65), trivial⟩ ?_
            refine wp_run ok hK (B := [(68, .aload 6, false), (70, .iconst 0, false), (71, .lload_n 1, false), (72, .l2i, false)]) (by decide +kernel) (ps := []) (pc' := 73) (L' := #[.val (.int k1), .val (.long w1), .second, .val (.long w2), .second, .val (.int o1), .val ((.ref a2)), .val (.int s21_0), .val (.int s34_0), .val (.int s47_0), .val (.int s61_0), .unset, .unset, .unset, .unset, .unset, .unset, .unset]) (S' := [.int (w1.toInt32), .int (0 : Int32), (.ref a2)]) rfl trivial ?_
            refine wp_virtual ok (wd hw 24 rfl) (wd hw 25 rfl) (wd hw 27 rfl) (wd hw 26 rfl) (wd hw 2 rfl) (wd hw 28 rfl) (by decide) (argsL := [.int (0 : Int32), .int (w1.toInt32)]) (rest := []) u24E (c_add _ Z a0 hw a2 (0 : Int32) (w1.toInt32) hd13 pd14 4 0 (fun _ => (-1 : Int32)) (fun _ => (0 : Int64)) (fun _ => false) 0 h19 n0 Z21 g8 g22 g23 ⟨u24E, u24F1, u24F2, u24F3, u24A1, u24A2, u24N⟩ I25 (Nat.lt_of_le_of_lt Q0.1 (by decide)) (by rfl) (Q0.2.2 0 (by decide)) (by decide) (by decide)) (ps := [.int, .int]) (by decide +kernel) (by rfl) (by rfl) (by rfl) (by decide +kernel) (by decide) (Nat.le_of_ble_eq_true rfl) (by decide) (by decide) ?_
            intro r128 h129 q130
            obtain ⟨rfl, K123, Pf124, Hf125, B126, I127⟩ := q130
            have Z131 : n0 ≤ h129.size := Nat.le_trans Z21 K123.1
            have u132tmp := B126
            obtain ⟨u132E, u132F1, u132F2, u132F3, u132A1, u132A2, u132N⟩ := u132tmp
            have u132nhd13 : a2 ≠ hd13 := ne_ar u132E (wd hw 1 rfl) u132A1
            have u132npd14 : a2 ≠ pd14 := ne_ar u132E (wd hw 1 rfl) u132A2
            show WP X n0 QL h129 3 11 76 #[.val (.int k1), .val (.long w1), .second, .val (.long w2), .second, .val (.int o1), .val ((.ref a2)), .val (.int s21_0), .val (.int s34_0), .val (.int s47_0), .val (.int s61_0), .unset, .unset, .unset, .unset, .unset, .unset, .unset] []
            exact JH76_34 _ _ _ _ _ Z131 ⟨u132E, u132F1, u132F2, u132F3, u132A1, u132A2, u132N⟩ I127 (HQ_add Q0 hc65)
        by_cases c32 : (k1 &&& (8 : Int32)) = (0 : Int32)
        · refine wp_run ok hK (B := [(53, .ifCond .eq 7, true), (60, .iconst 0, false)]) (by decide +kernel) (ps := [Op.ifCond.holds .eq (k1 &&& (8 : Int32)) = true]) (pc' := 61) (L' := #[.val (.int k1), .val (.long w1), .second, .val (.long w2), .second, .val (.int o1), .val ((.ref a2)), .val (.int s21_0), .val (.int s34_0), .val (.int s47_0), .unset, .unset, .unset, .unset, .unset, .unset, .unset, .unset]) (S' := [.int (0 : Int32)]) rfl ⟨(XT.i0_eq_t c32), trivial⟩ ?_
          exact J61_33 _ (by rw [if_pos c32])
        · refine wp_run ok hK (B := [(53, .ifCond .eq 7, false), (56, .iconst 1, false), (57, .goto 4, false)]) (by decide +kernel) (ps := [Op.ifCond.holds .eq (k1 &&& (8 : Int32)) = false]) (pc' := 61) (L' := #[.val (.int k1), .val (.long w1), .second, .val (.long w2), .second, .val (.int o1), .val ((.ref a2)), .val (.int s21_0), .val (.int s34_0), .val (.int s47_0), .unset, .unset, .unset, .unset, .unset, .unset, .unset, .unset]) (S' := [.int (1 : Int32)]) rfl ⟨(XT.i0_eq_f c32), trivial⟩ ?_
          exact J61_33 _ (by rw [if_neg c32])
      by_cases c30 : (k1 &&& (4 : Int32)) = (0 : Int32)
      · refine wp_run ok hK (B := [(39, .ifCond .eq 7, true), (46, .iconst 0, false)]) (by decide +kernel) (ps := [Op.ifCond.holds .eq (k1 &&& (4 : Int32)) = true]) (pc' := 47) (L' := #[.val (.int k1), .val (.long w1), .second, .val (.long w2), .second, .val (.int o1), .val ((.ref a2)), .val (.int s21_0), .val (.int s34_0), .unset, .unset, .unset, .unset, .unset, .unset, .unset, .unset, .unset]) (S' := [.int (0 : Int32)]) rfl ⟨(XT.i0_eq_t c30), trivial⟩ ?_
        exact J47_31 _ (by rw [if_pos c30])
      · refine wp_run ok hK (B := [(39, .ifCond .eq 7, false), (42, .iconst 1, false), (43, .goto 4, false)]) (by decide +kernel) (ps := [Op.ifCond.holds .eq (k1 &&& (4 : Int32)) = false]) (pc' := 47) (L' := #[.val (.int k1), .val (.long w1), .second, .val (.long w2), .second, .val (.int o1), .val ((.ref a2)), .val (.int s21_0), .val (.int s34_0), .unset, .unset, .unset, .unset, .unset, .unset, .unset, .unset, .unset]) (S' := [.int (1 : Int32)]) rfl ⟨(XT.i0_eq_f c30), trivial⟩ ?_
        exact J47_31 _ (by rw [if_neg c30])
    by_cases c28 : (k1 &&& (2 : Int32)) = (0 : Int32)
    · refine wp_run ok hK (B := [(26, .ifCond .eq 7, true), (33, .iconst 0, false)]) (by decide +kernel) (ps := [Op.ifCond.holds .eq (k1 &&& (2 : Int32)) = true]) (pc' := 34) (L' := #[.val (.int k1), .val (.long w1), .second, .val (.long w2), .second, .val (.int o1), .val ((.ref a2)), .val (.int s21_0), .unset, .unset, .unset, .unset, .unset, .unset, .unset, .unset, .unset, .unset]) (S' := [.int (0 : Int32)]) rfl ⟨(XT.i0_eq_t c28), trivial⟩ ?_
      exact J34_29 _ (by rw [if_pos c28])
    · refine wp_run ok hK (B := [(26, .ifCond .eq 7, false), (29, .iconst 1, false), (30, .goto 4, false)]) (by decide +kernel) (ps := [Op.ifCond.holds .eq (k1 &&& (2 : Int32)) = false]) (pc' := 34) (L' := #[.val (.int k1), .val (.long w1), .second, .val (.long w2), .second, .val (.int o1), .val ((.ref a2)), .val (.int s21_0), .unset, .unset, .unset, .unset, .unset, .unset, .unset, .unset, .unset, .unset]) (S' := [.int (1 : Int32)]) rfl ⟨(XT.i0_eq_f c28), trivial⟩ ?_
      exact J34_29 _ (by rw [if_neg c28])
  by_cases c26 : (k1 &&& (1 : Int32)) = (0 : Int32)
  · refine wp_run ok hK (B := [(13, .ifCond .eq 7, true), (20, .iconst 0, false)]) (by decide +kernel) (ps := [Op.ifCond.holds .eq (k1 &&& (1 : Int32)) = true]) (pc' := 21) (L' := #[.val (.int k1), .val (.long w1), .second, .val (.long w2), .second, .val (.int o1), .val ((.ref a2)), .unset, .unset, .unset, .unset, .unset, .unset, .unset, .unset, .unset, .unset, .unset]) (S' := [.int (0 : Int32)]) rfl ⟨(XT.i0_eq_t c26), trivial⟩ ?_
    exact J21_27 _ (by rw [if_pos c26])
  · refine wp_run ok hK (B := [(13, .ifCond .eq 7, false), (16, .iconst 1, false), (17, .goto 4, false)]) (by decide +kernel) (ps := [Op.ifCond.holds .eq (k1 &&& (1 : Int32)) = false]) (pc' := 21) (L' := #[.val (.int k1), .val (.long w1), .second, .val (.long w2), .second, .val (.int o1), .val ((.ref a2)), .unset, .unset, .unset, .unset, .unset, .unset, .unset, .unset, .unset, .unset, .unset]) (S' := [.int (1 : Int32)]) rfl ⟨(XT.i0_eq_f c26), trivial⟩ ?_
    exact J21_27 _ (by rw [if_neg c26])
set_option maxRecDepth 65536 in
set_option maxHeartbeats 40000000 in
theorem comes_1 {Post : Tables → Env → Array Value → State → Outcome → State → Prop} (hpost : ∀ tb e args s v u, (limb_1_1.after args s (.returned v) u = true ∧ limb_1_2.after args s (.returned v) u = true ∧ True) → FrameEnd s (.returned v) u (Jvm.fieldLocs frame_1_writes args s ++ Jvm.arrayLocs frame_1_arrays args s ++ Jvm.staticLocs frame_1_statics s) 16 128 → Post tb e args s (.returned v) u) :
    ArmFor flags0 classFile x code maxLocals ret World_1 tables_1 room_1 Calls_1 rest_1 Pre_1 Post := by
  intro l hfl _ _ p e ha hc hk s m args below hf hA hF happ hP
  obtain ⟨hcalls, hrest, hpre⟩ := hP
  obtain ⟨-, -, -, hnamed, -, -, -, hat⟩ := (Spec.applies_iff hf).mp happ
  obtain ⟨hg, hn⟩ := and_e (Cond.before_iff.mp (show (Jvm.Cond.and given_1 narrow_1).before args s = true from hpre))
  obtain ⟨h1, g0⟩ := and_e hg
  obtain ⟨f0, g1⟩ := and_e g0
  obtain ⟨f1, g2⟩ := and_e g1
  obtain ⟨f2, g3⟩ := and_e g2
  obtain ⟨w0, w1, w2, w3, rfl⟩ : ∃ w0 w1 w2 w3 : Value, args = #[w0, w1, w2, w3] := by
    have hs : args.size = 4 := by simpa [Cond.value, given_1] using h1
    obtain ⟨L⟩ := args
    match L, hs with
    | [w0, w1, w2, w3], _ => exact ⟨w0, w1, w2, w3, rfl⟩
  have hw := fun d (hd : d ∈ tables_1) => atoms_spec (ws := Jvm.Cond.code x code maxLocals ret :: tables_1) hat d (List.mem_cons_of_mem _ hd)
  obtain ⟨i0, e0⟩ := is_v f0
  obtain rfl : w0 = (.int i0) := Option.some.inj e0
  obtain ⟨i1, e1⟩ := isL_v f1
  obtain rfl : w1 = (.long i1) := Option.some.inj e1
  obtain ⟨i2, e2⟩ := isL_v f2
  obtain rfl : w2 = (.long i2) := Option.some.inj e2
  obtain ⟨i3, e3⟩ := is_v g3
  obtain rfl : w3 = (.int i3) := Option.some.inj e3
  obtain ⟨n, o, h1, h2, h3, _, L, rfl, ⟨rfl, N⟩, hq⟩ := c_law l s _ hw i0 i1 i2 i3 s.heap s.heap.size (Nat.le_refl _) p e ha hc hk s m _ below hf ((Spec.applies_iff_loose hf).mp happ).1 ⟨rfl, State.Warmed39.refl s, rfl⟩ trivial
  refine ⟨n, _, h1, h2, h3, hpost _ _ _ _ _ _ ⟨Cond.after_iff.mpr rfl, Cond.after_iff.mpr (eq_i res_at (Term.int_eval (1)) rfl), trivial⟩ ⟨hq.1, hq.2.1, (hq.2.2.sift fun y hy => Or.inr (N y hy)).mono (by decide) (by decide)⟩⟩
theorem main_1_1 : Claimed_1_1 := comes_1 fun _ _ _ _ _ _ h hF => ⟨h.1, hF⟩
theorem main_1_2 : Claimed_1_2 := comes_1 fun _ _ _ _ _ _ h hF => ⟨h.2.1, hF⟩
end Jvm.Pilot.@@N@@
namespace Jvm.Pilot.@@N@@
open Jvm Jvm.ClassFile Sem Op Lib Jvm.Free Jvm.Stand Jvm.Pilot.@@N@@.Jvm.D
/-! MADE BY PROGRAM (witnessworld.py) out of the Statement's table words and the real class files: 12 classes; the members and pool entries that the words name. The judged class is class 1, her method 1. -/
namespace start1
open Jvm.ClassFile
def u (s : String) : CpInfo := .utf8 (stringToUtf16 s)
/-- a pool by its gaps: so many unusable entries, then the entry; so many at the end -/
def gap : Nat → List CpInfo → List CpInfo
  | 0, r => r
  | n + 1, r => .unusable :: gap n r
def poolList (es : List (Nat × CpInfo)) (last : Nat) : List CpInfo := es.foldr (fun e r => gap e.1 (e.2 :: r)) (gap last [])
def pool (es : List (Nat × CpInfo)) (last : Nat) : Array CpInfo := ⟨poolList es last⟩
def fileOf (pool : Array CpInfo) (this : Nat) (attrs : Array Attribute := #[]) (ms : Array MethodInfo := #[]) (fl : Nat := 33) (sup : Nat := 0) (ifs : Array Nat := #[]) (fds : Array FieldInfo := #[]) : ClassFile where
  minorVersion := 0
  majorVersion := 65
  constantPool := pool
  accessFlags := fl
  thisClass := this
  superClass := sup
  interfaces := ifs
  fields := fds
  methods := ms
  attributes := attrs
def plain (name : String) (sup : Option ClassId) : Class where
  name := name
  kind := .ordinary
  loader := none
  accessFlags := 33
  super := sup
  interfaces := #[]
  cf := none
  fields := #[]
  methods := #[]
  instanceTypes := #[]
  staticTypes := #[]
  resolved := #[]
  callSites := []
  init := .initialized
  statics := none
  mirror := none

def pool0 : Array CpInfo := pool [(5, u "<init>"), (0, u "()V"), (1, .class_ 10), (1, u "java/lang/Object")] 113

def k0c0 : Code := { maxStack := 0, maxLocals := 1, code := object_method_1_code, exceptionTable := #[], attributes := #[] }
def k0m0 : Method := { name := "<init>", desc := "()V", sig := { parameters := [], returnType := none }, accessFlags := 1, code := some k0c0 }
/-- java/lang/Object -/
def k0 : Class := { plain "java/lang/Object" none with
  accessFlags := 33
  interfaces := #[]
  cf := some (fileOf pool0 8 #[] #[{ accessFlags := 1, nameIndex := 5, descriptorIndex := 6, attributes := #[] }] 33 0 #[] #[])
  fields := #[]
  methods := #[k0m0]
  instanceTypes := #[]
  staticTypes := #[]
  resolved := Array.replicate 124 none
  statics := none }

def pool1 : Array CpInfo := pool [(2, .class_ 4), (1, u "java/lang/Object"), (0, u "<init>"), (0, u "()V"), (0, .class_ 8), (0, u "com/example/fenpei/fenpei/IntHeap"), (0, .methodref 7 10), (0, .nameAndType 5 11), (0, u "(I)V"), (0, .methodref 7 13), (0, .nameAndType 14 15), (0, u "add"), (0, u "(II)V"), (0, .methodref 7 17), (0, .nameAndType 18 11), (0, u "remove"), (0, .methodref 7 20), (0, .nameAndType 21 22), (0, u "contains"), (0, u "(I)Z"), (0, .class_ 24), (0, u "com/example/fenpei/fenpei/IntHeapContainsPinLaw"), (2, u "law"), (0, u "(IJJI)Z")] 3

def k1m0 : Method := { name := "<init>", desc := "()V", sig := { parameters := [], returnType := none }, accessFlags := 1, code := none }
def k1c1 : Code := { maxStack := 5, maxLocals := 18, code := code, exceptionTable := #[], attributes := #[] }
def k1m1 : Method := { name := "law", desc := "(IJJI)Z", sig := { parameters := [.int, .long, .long, .int], returnType := some .boolean }, accessFlags := 9, code := some k1c1 }
/-- com/example/fenpei/fenpei/IntHeapContainsPinLaw -/
def k1 : Class := { plain "com/example/fenpei/fenpei/IntHeapContainsPinLaw" (some 0) with
  accessFlags := 49
  interfaces := #[]
  cf := some (fileOf pool1 23 #[] #[{ accessFlags := 1, nameIndex := 5, descriptorIndex := 6, attributes := #[] }, { accessFlags := 9, nameIndex := 27, descriptorIndex := 28, attributes := #[] }] 49 2 #[] #[])
  fields := #[]
  methods := #[k1m0, k1m1]
  instanceTypes := #[]
  staticTypes := #[]
  resolved := Array.replicate 32 none
  statics := none }

def pool2 : Array CpInfo := pool [(1, .methodref 2 3), (0, .class_ 4), (0, .nameAndType 5 6), (0, u "java/lang/Object"), (0, u "<init>"), (0, u "()V"), (0, .fieldref 8 9), (0, .class_ 10), (0, .nameAndType 11 12), (0, u "com/example/fenpei/fenpei/IntHeap"), (0, u "heap"), (0, u "[J"), (0, .fieldref 8 14), (0, .nameAndType 15 16), (0, u "position"), (0, u "[I"), (0, .methodref 18 19), (0, .class_ 20), (0, .nameAndType 21 22), (0, u "java/util/Arrays"), (0, u "fill"), (0, u "([II)V"), (0, .fieldref 8 24), (0, .nameAndType 25 26), (0, u "size"), (0, u "I"), (0, .methodref 8 28), (0, .nameAndType 29 30), (0, u "entry"), (0, u "(II)J"), (0, .methodref 8 32), (0, .nameAndType 33 34), (0, u "up"), (0, u "(J)V"), (0, .methodref 8 36), (0, .nameAndType 37 34), (0, u "down"), (0, u "(I)V"), (5, u "contains"), (0, u "(I)Z"), (2, u "add"), (0, u "(II)V"), (1, u "remove")] 2

def k2c0 : Code := { maxStack := 2, maxLocals := 2, code := prog_20_method_1_code, exceptionTable := #[], attributes := #[] }
def k2m0 : Method := { name := "<init>", desc := "(I)V", sig := { parameters := [.int], returnType := none }, accessFlags := 0, code := some k2c0 }
def k2c1 : Code := { maxStack := 2, maxLocals := 2, code := prog_20_method_3_code, exceptionTable := #[], attributes := #[] }
def k2m1 : Method := { name := "contains", desc := "(I)Z", sig := { parameters := [.int], returnType := some .boolean }, accessFlags := 0, code := some k2c1 }
def k2c2 : Code := { maxStack := 3, maxLocals := 3, code := prog_20_method_5_code, exceptionTable := #[], attributes := #[] }
def k2m2 : Method := { name := "add", desc := "(II)V", sig := { parameters := [.int, .int], returnType := none }, accessFlags := 0, code := some k2c2 }
def k2c3 : Code := { maxStack := 3, maxLocals := 5, code := prog_20_method_7_code, exceptionTable := #[], attributes := #[] }
def k2m3 : Method := { name := "remove", desc := "(I)V", sig := { parameters := [.int], returnType := none }, accessFlags := 0, code := some k2c3 }
def k2c4 : Code := { maxStack := 4, maxLocals := 2, code := prog_20_method_8_code, exceptionTable := #[], attributes := #[] }
def k2m4 : Method := { name := "entry", desc := "(II)J", sig := { parameters := [.int, .int], returnType := some .long }, accessFlags := 10, code := some k2c4 }
def k2c5 : Code := { maxStack := 4, maxLocals := 5, code := prog_20_method_9_code, exceptionTable := #[], attributes := #[] }
def k2m5 : Method := { name := "up", desc := "(J)V", sig := { parameters := [.long], returnType := none }, accessFlags := 2, code := some k2c5 }
def k2c6 : Code := { maxStack := 4, maxLocals := 5, code := prog_20_method_10_code, exceptionTable := #[], attributes := #[] }
def k2m6 : Method := { name := "down", desc := "(J)V", sig := { parameters := [.long], returnType := none }, accessFlags := 2, code := some k2c6 }
/-- com/example/fenpei/fenpei/IntHeap -/
def k2 : Class := { plain "com/example/fenpei/fenpei/IntHeap" (some 0) with
  accessFlags := 32
  interfaces := #[]
  cf := some (fileOf pool2 8 #[] #[{ accessFlags := 0, nameIndex := 5, descriptorIndex := 38, attributes := #[] }, { accessFlags := 0, nameIndex := 44, descriptorIndex := 45, attributes := #[] }, { accessFlags := 0, nameIndex := 48, descriptorIndex := 49, attributes := #[] }, { accessFlags := 0, nameIndex := 51, descriptorIndex := 38, attributes := #[] }, { accessFlags := 10, nameIndex := 29, descriptorIndex := 30, attributes := #[] }, { accessFlags := 2, nameIndex := 33, descriptorIndex := 34, attributes := #[] }, { accessFlags := 2, nameIndex := 37, descriptorIndex := 34, attributes := #[] }] 32 2 #[] #[{ accessFlags := 18, nameIndex := 11, descriptorIndex := 12, attributes := #[] }, { accessFlags := 18, nameIndex := 15, descriptorIndex := 16, attributes := #[] }, { accessFlags := 2, nameIndex := 25, descriptorIndex := 26, attributes := #[] }])
  fields := #[{ name := "heap", type := (.array .long), accessFlags := 18, slot := 0, constantValue := 0 }, { name := "position", type := (.array .int), accessFlags := 18, slot := 1, constantValue := 0 }, { name := "size", type := .int, accessFlags := 2, slot := 2, constantValue := 0 }]
  methods := #[k2m0, k2m1, k2m2, k2m3, k2m4, k2m5, k2m6]
  instanceTypes := #[(.array .long), (.array .int), .int]
  staticTypes := #[]
  resolved := Array.replicate 54 none
  statics := none }

def pool3 : Array CpInfo := pool [(2, .class_ 4), (1, u "java/lang/Object"), (0, u "<init>"), (0, u "()V"), (7, .class_ 16), (1, u "java/util/Arrays"), (57, .class_ 76), (1, u "java/util/Arrays$NaturalOrder"), (36, .class_ 115), (1, u "java/util/Arrays$LegacyMergeSort"), (1, u "Z"), (257, .class_ 376), (0, u "java/util/Arrays$ArrayList"), (68, u "$assertionsDisabled"), (269, u "MIN_ARRAY_SORT_GRAN"), (0, u "I"), (2, u "INSERTIONSORT_THRESHOLD"), (120, u "fill"), (4, u "([II)V"), (129, .class_ 976), (0, u "java/util/Arrays$ArrayItr")] 52

def k3m0 : Method := { name := "<init>", desc := "()V", sig := { parameters := [], returnType := none }, accessFlags := 2, code := none }
def k3c1 : Code := { maxStack := 3, maxLocals := 4, code := jdk_65_method_103_code, exceptionTable := #[], attributes := #[] }
def k3m1 : Method := { name := "fill", desc := "([II)V", sig := { parameters := [(.array .int), .int], returnType := none }, accessFlags := 9, code := some k3c1 }
/-- java/util/Arrays -/
def k3 : Class := { plain "java/util/Arrays" (some 0) with
  accessFlags := 49
  interfaces := #[]
  cf := some (fileOf pool3 14 #[.nestMembers #[975, 375, 113, 74]] #[{ accessFlags := 2, nameIndex := 5, descriptorIndex := 6, attributes := #[] }, { accessFlags := 9, nameIndex := 840, descriptorIndex := 845, attributes := #[] }] 49 2 #[] #[{ accessFlags := 26, nameIndex := 715, descriptorIndex := 716, attributes := #[] }, { accessFlags := 26, nameIndex := 719, descriptorIndex := 716, attributes := #[] }, { accessFlags := 4120, nameIndex := 445, descriptorIndex := 117, attributes := #[] }])
  fields := #[{ name := "MIN_ARRAY_SORT_GRAN", type := .int, accessFlags := 26, slot := 0, constantValue := 0 }, { name := "INSERTIONSORT_THRESHOLD", type := .int, accessFlags := 26, slot := 1, constantValue := 0 }, { name := "$assertionsDisabled", type := .boolean, accessFlags := 4120, slot := 2, constantValue := 0 }]
  methods := #[k3m0, k3m1]
  instanceTypes := #[]
  staticTypes := #[.int, .int, .boolean]
  resolved := Array.replicate 1029 none
  statics := none }

def pool4 : Array CpInfo := pool [(1, u "java/lang/Cloneable"), (0, .class_ 1), (0, u "java/lang/Object"), (0, .class_ 3)] 3

/-- java/lang/Cloneable -/
def k4 : Class := { plain "java/lang/Cloneable" (some 0) with
  accessFlags := 1537
  interfaces := #[]
  cf := some (fileOf pool4 2 #[] #[] 1537 4 #[] #[])
  fields := #[]
  methods := #[]
  instanceTypes := #[]
  staticTypes := #[]
  resolved := Array.replicate 8 none
  statics := none }

def pool5 : Array CpInfo := pool [(1, u "java/io/Serializable"), (0, .class_ 1), (0, u "java/lang/Object"), (0, .class_ 3)] 3

/-- java/io/Serializable -/
def k5 : Class := { plain "java/io/Serializable" (some 0) with
  accessFlags := 1537
  interfaces := #[]
  cf := some (fileOf pool5 2 #[] #[] 1537 4 #[] #[])
  fields := #[]
  methods := #[]
  instanceTypes := #[]
  staticTypes := #[]
  resolved := Array.replicate 8 none
  statics := none }

/-- the primitive byte -/
def k6 : Class := { plain "byte" none with kind := .primitive 'B', accessFlags := 0x411 }
/-- [B -/
def k7 : Class := { plain "[B" (some 0) with kind := .array 6 .byte, interfaces := #[4, 5], accessFlags := 1041 }

/-- the primitive int -/
def k8 : Class := { plain "int" none with kind := .primitive 'I', accessFlags := 0x411 }
/-- [I -/
def k9 : Class := { plain "[I" (some 0) with kind := .array 8 .int, interfaces := #[4, 5], accessFlags := 1041 }

/-- the primitive long -/
def k10 : Class := { plain "long" none with kind := .primitive 'J', accessFlags := 0x411 }
/-- [J -/
def k11 : Class := { plain "[J" (some 0) with kind := .array 10 .long, interfaces := #[4, 5], accessFlags := 1041 }

def heap : Heap := #[]
def classes : Array Class := #[k0, k1, k2, k3, k4, k5, k6, k7, k8, k9, k10, k11]
def interned : List (Array UInt16 × Addr) := []
def slotsUsed : Nat := 0
def theMethod : MethodId := ⟨1, 1⟩
def args0 : Array Value := #[.int 5, .long 5, .long 5, .int 5]
def aboutOver (below : List Frame) : State where
  vm := { classes := classes, interned := interned.toArray }
  heap := heap
  slotsUsed := slotsUsed
  threads := #[{ frames := .invoking theMethod args0 :: below }]
def below0 : List Frame := [.native { method := ⟨0, 0⟩, args := #[] }]
def about1 : State := aboutOver below0
def p0 : Program := .bare "" "" ""
def e0 : Env := launch0.env 0 0 0
theorem w_frames : about1.frames = Frame.invoking theMethod args0 :: below0 := rfl
set_option maxRecDepth 65536 in
theorem w_args : argsFit about1.vm theMethod args0 = true := by decide +kernel
set_option maxRecDepth 65536 in
theorem w_heap : heapFits about1 = true := by decide +kernel
set_option maxRecDepth 65536 in
theorem w_runnable : about1.curStatus? = some .runnable := by decide +kernel
set_option maxRecDepth 65536 in
theorem w_alone : about1.alone = true := by decide +kernel
set_option maxRecDepth 65536 in
theorem w_named : about1.methodNamed? x = some theMethod := by decide +kernel
set_option maxRecDepth 65536 in
theorem w_hears : about1.hears theMethod below0 = true := by decide +kernel
set_option maxRecDepth 65536 in
theorem w_ripe : about1.ripe theMethod args0 below0 = true := by decide +kernel
theorem w_running : about1.status = .running := rfl
set_option maxRecDepth 65536 in
theorem w_room : about1.hasRoom e0.platform room_1 = true :=
  launch0.hasRoom_least _ room_1 (by decide +kernel) (by decide +kernel) (by decide +kernel) (by decide +kernel) (by decide +kernel) (by decide +kernel)
theorem allAtoms_all (ts : List Jvm.Cond) (a : Array Jvm.Value) (st : Jvm.State) : (allAtoms ts).before a st = ts.all (fun c => c.before a st) := by
  induction ts with
  | nil => rfl
  | cons c t ih =>
    show (Jvm.Cond.and c (allAtoms t)).before a st = _
    rw [Jvm.Cond.before_and, ih, List.all_cons]
def words1 : List Jvm.Cond := Jvm.Cond.code x code maxLocals ret :: tables_1
/-- a 'code' word, met by the world's own term for the bytes: nothing is compared byte by byte -/
theorem code_word {y : MethodName} {bytes : ByteArray} {mx : Nat} {rt : Option FieldType} {a : Array Value} {s : State} {m : MethodId} {meth : Method} {c : Code} (h1 : s.methodNamed? y = some m) (h2 : s.vm.method? m = some meth) (h3 : meth.code = some c) (h4 : c.code = bytes)
    (h5 : (c.maxLocals == mx && c.exceptionTable.isEmpty && decide (c.maxStack ≤ mostOperands) && decide (meth.sig.returnType = rt) && !meth.locks && decide (parseMethodDescriptor y.desc = some meth.sig)) = true) : (Jvm.Cond.code y bytes mx rt).before a s = true := by
  simp only [Bool.and_eq_true, beq_iff_eq, Bool.not_eq_true', decide_eq_true_eq] at h5
  obtain ⟨⟨⟨⟨⟨g1, g2⟩, g3⟩, g4⟩, g5⟩, g6⟩ := h5
  simp [Cond.before, Cond.holds, Cond.value, h1, h2, h3, h4, g1, g2, g3, g4, g5, g6]
def isCode : Jvm.Cond → Bool
  | .code _ _ _ _ => true
  | _ => false
theorem all_split {L : List Jvm.Cond} {P : Jvm.Cond → Bool} (h1 : L.all (fun c => isCode c || P c) = true) (h2 : ∀ c ∈ L.filter isCode, P c = true) : L.all P = true := by
  refine List.all_eq_true.mpr fun c hc => ?_
  have h := List.all_eq_true.mp h1 c hc
  rcases Bool.eq_false_or_eq_true (isCode c) with hi | hi
  · exact h2 c (List.mem_filter.mpr ⟨hc, hi⟩)
  · simpa [hi] using h
set_option maxRecDepth 65536 in
theorem w_c0 : (Jvm.Cond.code x code maxLocals ret).before args0 about1 = true := code_word (m := ⟨1, 1⟩) (meth := k1m1) (c := k1c1) (by decide +kernel) rfl rfl rfl (by decide +kernel)
set_option maxRecDepth 65536 in
theorem w_c1 : (Jvm.Cond.code ({ cls := "com/example/fenpei/fenpei/IntHeap", name := "<init>", desc := "(I)V" } : Jvm.MethodName) prog_20_method_1_code (2 : Nat) (Option.none : Option Jvm.ClassFile.FieldType)).before args0 about1 = true := code_word (m := ⟨2, 0⟩) (meth := k2m0) (c := k2c0) (by decide +kernel) rfl rfl rfl (by decide +kernel)
set_option maxRecDepth 65536 in
theorem w_c2 : (Jvm.Cond.code ({ cls := "java/lang/Object", name := "<init>", desc := "()V" } : Jvm.MethodName) object_method_1_code (1 : Nat) (Option.none : Option Jvm.ClassFile.FieldType)).before args0 about1 = true := code_word (m := ⟨0, 0⟩) (meth := k0m0) (c := k0c0) (by decide +kernel) rfl rfl rfl (by decide +kernel)
set_option maxRecDepth 65536 in
theorem w_c3 : (Jvm.Cond.code ({ cls := "java/util/Arrays", name := "fill", desc := "([II)V" } : Jvm.MethodName) jdk_65_method_103_code (4 : Nat) (Option.none : Option Jvm.ClassFile.FieldType)).before args0 about1 = true := code_word (m := ⟨3, 1⟩) (meth := k3m1) (c := k3c1) (by decide +kernel) rfl rfl rfl (by decide +kernel)
set_option maxRecDepth 65536 in
theorem w_c4 : (Jvm.Cond.code ({ cls := "com/example/fenpei/fenpei/IntHeap", name := "contains", desc := "(I)Z" } : Jvm.MethodName) prog_20_method_3_code (2 : Nat) (Option.some Jvm.ClassFile.FieldType.boolean)).before args0 about1 = true := code_word (m := ⟨2, 1⟩) (meth := k2m1) (c := k2c1) (by decide +kernel) rfl rfl rfl (by decide +kernel)
set_option maxRecDepth 65536 in
theorem w_c5 : (Jvm.Cond.code ({ cls := "com/example/fenpei/fenpei/IntHeap", name := "add", desc := "(II)V" } : Jvm.MethodName) prog_20_method_5_code (3 : Nat) (Option.none : Option Jvm.ClassFile.FieldType)).before args0 about1 = true := code_word (m := ⟨2, 2⟩) (meth := k2m2) (c := k2c2) (by decide +kernel) rfl rfl rfl (by decide +kernel)
set_option maxRecDepth 65536 in
theorem w_c6 : (Jvm.Cond.code ({ cls := "com/example/fenpei/fenpei/IntHeap", name := "entry", desc := "(II)J" } : Jvm.MethodName) prog_20_method_8_code (2 : Nat) (Option.some Jvm.ClassFile.FieldType.long)).before args0 about1 = true := code_word (m := ⟨2, 4⟩) (meth := k2m4) (c := k2c4) (by decide +kernel) rfl rfl rfl (by decide +kernel)
set_option maxRecDepth 65536 in
theorem w_c7 : (Jvm.Cond.code ({ cls := "com/example/fenpei/fenpei/IntHeap", name := "up", desc := "(J)V" } : Jvm.MethodName) prog_20_method_9_code (5 : Nat) (Option.none : Option Jvm.ClassFile.FieldType)).before args0 about1 = true := code_word (m := ⟨2, 5⟩) (meth := k2m5) (c := k2c5) (by decide +kernel) rfl rfl rfl (by decide +kernel)
set_option maxRecDepth 65536 in
theorem w_c8 : (Jvm.Cond.code ({ cls := "com/example/fenpei/fenpei/IntHeap", name := "remove", desc := "(I)V" } : Jvm.MethodName) prog_20_method_7_code (5 : Nat) (Option.none : Option Jvm.ClassFile.FieldType)).before args0 about1 = true := code_word (m := ⟨2, 3⟩) (meth := k2m3) (c := k2c3) (by decide +kernel) rfl rfl rfl (by decide +kernel)
set_option maxRecDepth 65536 in
theorem w_c9 : (Jvm.Cond.code ({ cls := "com/example/fenpei/fenpei/IntHeap", name := "down", desc := "(J)V" } : Jvm.MethodName) prog_20_method_10_code (5 : Nat) (Option.none : Option Jvm.ClassFile.FieldType)).before args0 about1 = true := code_word (m := ⟨2, 6⟩) (meth := k2m6) (c := k2c6) (by decide +kernel) rfl rfl rfl (by decide +kernel)
def codes1 : List Jvm.Cond := [Jvm.Cond.code x code maxLocals ret, Jvm.Cond.code ({ cls := "com/example/fenpei/fenpei/IntHeap", name := "<init>", desc := "(I)V" } : Jvm.MethodName) prog_20_method_1_code (2 : Nat) (Option.none : Option Jvm.ClassFile.FieldType), Jvm.Cond.code ({ cls := "java/lang/Object", name := "<init>", desc := "()V" } : Jvm.MethodName) object_method_1_code (1 : Nat) (Option.none : Option Jvm.ClassFile.FieldType), Jvm.Cond.code ({ cls := "java/util/Arrays", name := "fill", desc := "([II)V" } : Jvm.MethodName) jdk_65_method_103_code (4 : Nat) (Option.none : Option Jvm.ClassFile.FieldType), Jvm.Cond.code ({ cls := "com/example/fenpei/fenpei/IntHeap", name := "contains", desc := "(I)Z" } : Jvm.MethodName) prog_20_method_3_code (2 : Nat) (Option.some Jvm.ClassFile.FieldType.boolean), Jvm.Cond.code ({ cls := "com/example/fenpei/fenpei/IntHeap", name := "add", desc := "(II)V" } : Jvm.MethodName) prog_20_method_5_code (3 : Nat) (Option.none : Option Jvm.ClassFile.FieldType), Jvm.Cond.code ({ cls := "com/example/fenpei/fenpei/IntHeap", name := "entry", desc := "(II)J" } : Jvm.MethodName) prog_20_method_8_code (2 : Nat) (Option.some Jvm.ClassFile.FieldType.long), Jvm.Cond.code ({ cls := "com/example/fenpei/fenpei/IntHeap", name := "up", desc := "(J)V" } : Jvm.MethodName) prog_20_method_9_code (5 : Nat) (Option.none : Option Jvm.ClassFile.FieldType), Jvm.Cond.code ({ cls := "com/example/fenpei/fenpei/IntHeap", name := "remove", desc := "(I)V" } : Jvm.MethodName) prog_20_method_7_code (5 : Nat) (Option.none : Option Jvm.ClassFile.FieldType), Jvm.Cond.code ({ cls := "com/example/fenpei/fenpei/IntHeap", name := "down", desc := "(J)V" } : Jvm.MethodName) prog_20_method_10_code (5 : Nat) (Option.none : Option Jvm.ClassFile.FieldType)]
set_option maxRecDepth 65536 in
theorem codes_eq : words1.filter isCode = codes1 := rfl
theorem w_codes : ∀ c ∈ words1.filter isCode, c.before args0 about1 = true := by
  rw [codes_eq]
  intro c hc
  simp only [codes1, List.mem_cons, List.not_mem_nil, or_false] at hc
  rcases hc with rfl | rfl | rfl | rfl | rfl | rfl | rfl | rfl | rfl | rfl
  · exact w_c0
  · exact w_c1
  · exact w_c2
  · exact w_c3
  · exact w_c4
  · exact w_c5
  · exact w_c6
  · exact w_c7
  · exact w_c8
  · exact w_c9
set_option maxRecDepth 65536 in
theorem w_t1 : (words1.take 24).all (fun c => isCode c || c.before args0 about1) = true := by decide +kernel
set_option maxRecDepth 65536 in
theorem w_t2 : (words1.drop 24).all (fun c => isCode c || c.before args0 about1) = true := by decide +kernel
theorem w_tables : (allAtoms (Jvm.Cond.code x code maxLocals ret :: tables_1)).before args0 about1 = true := by
  rw [allAtoms_all]
  show words1.all (fun c => c.before args0 about1) = true
  refine all_split ?_ w_codes
  rw [← List.take_append_drop 24 words1, List.all_append, w_t1, w_t2]
  rfl
set_option maxRecDepth 65536 in
theorem w_case : (Jvm.Cond.and given_1 narrow_1).before args0 about1 = true := by decide +kernel
theorem w_applies : (headSpec (Jvm.Cond.code x code maxLocals ret :: tables_1) room_1).applies x e0.platform about1 = true :=
  (Spec.applies_iff w_frames).mpr ⟨w_running, w_runnable, w_alone, w_named, w_hears, w_ripe, w_room, w_tables⟩
theorem atStart : AtStart classFile x code maxLocals ret World_1 tables_1 room_1 Calls_1 rest_1 Pre_1 launch0 p0 e0 about1 theMethod args0 below0 :=
  ⟨lists_1, trivial, launch0.admits_env _ _ _, launch0.least_env, fairChoices_fair.cas, fairChoices_fair.clock, w_frames, w_args, w_heap, w_applies, trivial, trivial, w_case⟩
end start1
theorem witness_1 : WitnessClaimed_1 := ⟨start1.p0, start1.e0, start1.about1, start1.theMethod, start1.args0, start1.below0, start1.atStart⟩
end Jvm.Pilot.@@N@@
