import JvmDerived
import JvmDerived.Pilot.@@N@@Statement
import JvmDerived.Pilot.@@N@@Code
set_option linter.unusedVariables false
set_option linter.unusedSimpArgs false
namespace Jvm.Pilot.@@N@@
open Jvm Jvm.ClassFile Sem Op Lib Jvm.Free Jvm.Stand Jvm.LawKit Jvm.RoadKit Bundle Jvm.Pilot.@@N@@.Jvm.D
section JU
variable {tb : Tables} [Ours tb] {e : Env} {below : List Frame} {T target : State} {m : MethodId} {c : Code} {g : JFrame}
theorem yI (h : At T m c below) (hx : tb.exec = Jvm.exec) (hg : g.method = m) {cd : Jvm.ClassFile.Cond} {x : Int32} {rest : List Value} {o : Int} (pc0 pc' : Nat) (hpc : g.pc = pc0) (hd : decode c.code g.pc = .ok (.ifCond cd o, 3)) (hs : g.stack = .int x :: rest) (hc : ifCond.holds cd x = true) (hr : Steps tb e below (T.setTop { g with pc := pc', stack := rest }) target) (ho : 0 ≤ (pc0 : Int) + o := by decide) (hp : ((pc0 : Int) + o).toNat = pc' := by decide) : Steps tb e below (T.setTop g) target := XS.ifYes h hx hg hpc hd hs hc ho hp hr
theorem yC (h : At T m c below) (hx : tb.exec = Jvm.exec) (hg : g.method = m) {cd : Jvm.ClassFile.Cond} {x y : Int32} {rest : List Value} {o : Int} (pc0 pc' : Nat) (hpc : g.pc = pc0) (hd : decode c.code g.pc = .ok (.if_icmp cd o, 3)) (hs : g.stack = .int y :: .int x :: rest) (hc : if_icmp.holds cd x y = true) (hr : Steps tb e below (T.setTop { g with pc := pc', stack := rest }) target) (ho : 0 ≤ (pc0 : Int) + o := by decide) (hp : ((pc0 : Int) + o).toNat = pc' := by decide) : Steps tb e below (T.setTop g) target := XS.icmpYes h hx hg hpc hd hs hc ho hp hr
theorem yG (h : At T m c below) (hx : tb.exec = Jvm.exec) (hg : g.method = m) {o : Int} (pc0 pc' : Nat) (hpc : g.pc = pc0) (hd : decode c.code g.pc = .ok (.goto o, 3)) (hr : Steps tb e below (T.setTop { g with pc := pc' }) target) (ho : 0 ≤ (pc0 : Int) + o := by decide) (hp : ((pc0 : Int) + o).toNat = pc' := by decide) : Steps tb e below (T.setTop g) target := XS.goto h hx hg hpc hd ho hp hr
end JU
theorem own_w {a b : Nat} (h : a = b) : a ≤ b := Nat.le_of_eq h
abbrev MFP (l : Launch) (Z : State) (y : MethodName) (bytes : ByteArray) (ml : Nat) (rt : Option FieldType) (rm : Room) (ws : List Jvm.Cond) (A : Array Value) (h0 : Heap) (Q : Option Value → Heap → List Loc → Prop) : Prop :=
  MetFree l y (head1 (Jvm.Cond.code y bytes ml rt :: ws) rm) (fun a U => a = A ∧ Z.Warmed39 U.vm ∧ U.heap = h0) (fun _ _ _ _ _ => True) (fun _ U o U' => ∃ v L, o = .returned v ∧ Q v U'.heap L ∧ FrameEnd U o U' L rm.cells rm.slots)
abbrev MFS (l : Launch) (Z : State) (y : MethodName) (bytes : ByteArray) (ml : Nat) (rt : Option FieldType) (rm : Room) (ws : List Jvm.Cond) (A : Array Value) (h0 : Heap) (Q : Option Value → Heap → List Loc → Prop) : Prop :=
  MetFree l y (head1 (Jvm.Cond.code y bytes ml rt :: ws) rm) (fun a U => a = A ∧ Z.Warmed39 U.vm ∧ U.heap = h0) (fun _ _ _ _ _ => True) (fun _ U o U' => ∃ v L, o = .returned v ∧ Q v U'.heap L ∧ ReturnedEndW U o U' L rm.cells rm.slots)
abbrev MFI (l : Launch) (Z : State) (y : MethodName) (bytes : ByteArray) (ml : Nat) (rt : Option FieldType) (rm : Room) (ws : List Jvm.Cond) (A : Array Value) (h0 : Heap) (Q : Option Value → Heap → List Loc → Prop) : Prop :=
  MetFree l y (head1 (Jvm.Cond.code y bytes ml rt :: ws) rm) (fun a U => a = A ∧ Z.Warmed39 U.vm ∧ U.heap = h0 ∧ U.vm.interned = Z.vm.interned) (fun _ _ _ _ _ => True) (fun _ U o U' => ∃ v L, o = .returned v ∧ Q v U'.heap L ∧ ReturnedEndW U o U' L rm.cells rm.slots)
abbrev Kt (p : Program) (e : Env) (below : List Frame) (T st0 : State) (g : JFrame) : Prop := ∀ t, Steps p.tables e below (T.setTop g) t → Steps p.tables e below st0 t
section KL
variable {p : Program} {l : Launch} {e : Env} {R : Room} {s : State} {m : MethodId} {args : Array Value} {below : List Frame} {meth : Method} {c : Code} {T : State} {locs : List Loc} {cells slots : Nat} {Z : State} {a0 : Array Value} {h : Heap} {st0 : State} {g : JFrame}
theorem kget (X : Stand p l e R s m args below meth c T locs cells slots) (hx : p.tables.exec = Jvm.exec) (hZ : Z.Warmed39 s.vm) {own R0 O n d host : String} {index : Nat} (hown : s.vm.findClass own = some m.cls) (w : (Jvm.Cond.fieldLink own index R0 n d).before a0 Z = true ∨ (Jvm.Cond.fieldLinkNest own index R0 n d host).before a0 Z = true) (via : Via Z R0 O n d) (eT : T.heap = h) {a : Addr} {v : Value} (F : Fld Z h a O n d v) (k : Kt p e below T st0 g) (hg : g.method = m) {rest : List Value} (hs : g.stack = .ref a :: rest) (hd : decode c.code g.pc = .ok (.getfield index, 3)) :
    ∃ T', Stand p l e R s m args below meth c T' locs cells slots ∧ T'.heap = h ∧ Kt p e below T' st0 { g with pc := g.pc + 3, stack := v :: rest } := by
  obtain ⟨T', X', e', st⟩ := getF X hx hZ hown w via eT F hg hs hd
  exact ⟨T', X', e', fun t q => k t (st t q)⟩
theorem kgetS (X : Stand p l e R s m args below meth c T locs cells slots) (hx : p.tables.exec = Jvm.exec) (hZ : Z.Warmed39 s.vm) {own R0 O n d host : String} {index : Nat} (hown : s.vm.findClass own = some m.cls) (w : (Jvm.Cond.fieldLink own index R0 n d).before a0 Z = true ∨ (Jvm.Cond.fieldLinkNest own index R0 n d host).before a0 Z = true) (via : Via Z R0 O n d) (eT : T.heap = h) {v : Value} (F : Sta Z h O n d v) (k : Kt p e below T st0 g) (hg : g.method = m) (hd : decode c.code g.pc = .ok (.getstatic index, 3)) :
    ∃ T', Stand p l e R s m args below meth c T' locs cells slots ∧ T'.heap = h ∧ Kt p e below T' st0 { g with pc := g.pc + 3, stack := v :: g.stack } := by
  obtain ⟨T', X', e', st⟩ := getS2 X hx hZ hown w via eT F hg hd
  exact ⟨T', X', e', fun t q => k t (st t q)⟩
theorem kput (X : Stand p l e R s m args below meth c T locs cells slots) (hx : p.tables.exec = Jvm.exec) (hZ : Z.Warmed39 s.vm) {own R0 O n d host C : String} {index kk : Nat} (ty : FieldType) (hown : s.vm.findClass own = some m.cls) (w : (Jvm.Cond.fieldLink own index R0 n d).before a0 Z = true ∨ (Jvm.Cond.fieldLinkNest own index R0 n d host).before a0 Z = true) (via : Via Z R0 O n d) (eT : T.heap = h) {a : Addr} {v old : Value} (F : Fld Z h a O n d old) (E : Exa Z h a C) (L : (Jvm.Cond.lays C O n d).before a0 Z = true ∨ ((Jvm.Cond.laysFinal C O n d).before a0 Z = true ∧ own = O ∧ meth.name = "<init>")) (wi : (Jvm.Cond.instantiable C kk).before a0 Z = true)
    (k : Kt p e below T st0 g) (hg : g.method = m) {rest : List Value} (hs : g.stack = v :: .ref a :: rest) (hd : decode c.code g.pc = .ok (.putfield index, 3)) (hty : parseFieldDescriptor d = some ty) (hn : narrow ty v = v) (hf : fits ty v = true) {n0 : Nat} (O0 : Old Z n0 h) (N : Fr n0 locs) (ge : n0 ≤ a) :
    ∃ T' h', Stand p l e R s m args below meth c T' (locs ++ [⟨a, Jvm.RoadKit.slotOf Z O n d⟩]) cells slots ∧ T'.heap = h' ∧ Wr h h' a (Jvm.RoadKit.slotOf Z O n d) v ∧ Fld Z h' a O n d v ∧ Old Z n0 h' ∧ Fr n0 (locs ++ [⟨a, Jvm.RoadKit.slotOf Z O n d⟩]) ∧ Kt p e below T' st0 { g with pc := g.pc + 3, stack := rest } := by
  obtain ⟨T', h', X', e', W, st⟩ := putF X hx hZ hown w via eT F E L wi hty hn hf hg hs hd
  exact ⟨T', h', X', e', W, F.same W, O0.wr W ge, Fr.snoc X' N ge, fun t q => k t (st t q)⟩
theorem kputN (X : Stand p l e R s m args below meth c T locs cells slots) (hx : p.tables.exec = Jvm.exec) (hZ : Z.Warmed39 s.vm) {own R0 O n d C : String} {index kk : Nat} (ty : FieldType) (hown : s.vm.findClass own = some m.cls) (w : (Jvm.Cond.fieldLink own index R0 n d).before a0 Z = true) (via : Via Z R0 O n d) (eT : T.heap = h) {a : Addr} {v v' old : Value} (F : Fld Z h a O n d old) (E : Exa Z h a C) (L : (Jvm.Cond.lays C O n d).before a0 Z = true ∨ ((Jvm.Cond.laysFinal C O n d).before a0 Z = true ∧ own = O ∧ meth.name = "<init>")) (wi : (Jvm.Cond.instantiable C kk).before a0 Z = true)
    (k : Kt p e below T st0 g) (hg : g.method = m) {rest : List Value} (hs : g.stack = v :: .ref a :: rest) (hd : decode c.code g.pc = .ok (.putfield index, 3)) (hty : parseFieldDescriptor d = some ty) (hn : narrow ty v = v') (hf : fits ty v' = true) {n0 : Nat} (O0 : Old Z n0 h) (N : Fr n0 locs) (ge : n0 ≤ a) :
    ∃ T' h', Stand p l e R s m args below meth c T' (locs ++ [⟨a, Jvm.RoadKit.slotOf Z O n d⟩]) cells slots ∧ T'.heap = h' ∧ Wr h h' a (Jvm.RoadKit.slotOf Z O n d) v' ∧ Fld Z h' a O n d v' ∧ Old Z n0 h' ∧ Fr n0 (locs ++ [⟨a, Jvm.RoadKit.slotOf Z O n d⟩]) ∧ Kt p e below T' st0 { g with pc := g.pc + 3, stack := rest } := by
  obtain ⟨T', h', X', e', W, st⟩ := putFN X hx hZ hown w via eT F E L wi hty hn hf hg hs hd
  exact ⟨T', h', X', e', W, F.same W, O0.wr W ge, Fr.snoc X' N ge, fun t q => k t (st t q)⟩
theorem kcast (X : Stand p l e R s m args below meth c T locs cells slots) (hx : p.tables.exec = Jvm.exec) (hZ : Z.Warmed39 s.vm) {own K : String} {index : Nat} (hown : s.vm.findClass own = some m.cls) (w : (Jvm.Cond.classLink own index K).before a0 Z = true) (eT : T.heap = h) {a : Addr} (F : Ins Z h a K true) (k : Kt p e below T st0 g) (hg : g.method = m) {rest : List Value} (hs : g.stack = .ref a :: rest) (hd : decode c.code g.pc = .ok (.checkcast index, 3)) :
    ∃ T', Stand p l e R s m args below meth c T' locs cells slots ∧ T'.heap = h ∧ Kt p e below T' st0 { g with pc := g.pc + 3 } := by
  obtain ⟨T', X', e', st⟩ := castY X hx hZ hown w eT F hg hs hd
  exact ⟨T', X', e', fun t q => k t (st t q)⟩
theorem kinst (X : Stand p l e R s m args below meth c T locs cells slots) (hx : p.tables.exec = Jvm.exec) (hZ : Z.Warmed39 s.vm) {own K : String} {index : Nat} (hown : s.vm.findClass own = some m.cls) (w : (Jvm.Cond.classLink own index K).before a0 Z = true) (eT : T.heap = h) {a : Addr} (F : Ins Z h a K true) (k : Kt p e below T st0 g) (hg : g.method = m) {rest : List Value} (hs : g.stack = .ref a :: rest) (hd : decode c.code g.pc = .ok (.instanceof index, 3)) :
    ∃ T', Stand p l e R s m args below meth c T' locs cells slots ∧ T'.heap = h ∧ Kt p e below T' st0 { g with pc := g.pc + 3, stack := .int 1 :: rest } := by
  obtain ⟨T', X', e', st⟩ := instY X hx hZ hown w eT F hg hs hd
  exact ⟨T', X', e', fun t q => k t (st t q)⟩
theorem knew (X : Stand p l e R s m args below meth c T locs cells slots) (hx : p.tables.exec = Jvm.exec) (hZ : Z.Warmed39 s.vm) {own C : String} {index n : Nat} (hown : s.vm.findClass own = some m.cls) (w : (Jvm.Cond.classLink own index C).before a0 Z = true) (wi : (Jvm.Cond.instantiable C n).before a0 Z = true) (wz : (Jvm.Cond.initialized C).before a0 Z = true) (eT : T.heap = h) (k : Kt p e below T st0 g) (hg : g.method = m) (hd : decode c.code g.pc = .ok (.new index, 3)) (hc : cells + 1 ≤ R.cells) (hl : slots + n ≤ R.slots) {n0 : Nat} (O0 : Old Z n0 h) :
    ∃ b T' h', h.size ≤ b ∧ n0 ≤ b ∧ Stand p l e R s m args below meth c T' locs (cells + 1) (slots + n) ∧ T'.heap = h' ∧ Ext h h' ∧ Old Z n0 h' ∧ Exa Z h' b C ∧ (∀ {O nm d : String} {ty : FieldType}, Jvm.RoadKit.Laid Z a0 C O nm d → parseFieldDescriptor d = some ty → Fld Z h' b O nm d (defaultValue ty)) ∧ (∃ cell : Cell, h'[b]? = some cell ∧ cell.vm = .none ∧ cell.monitor = {}) ∧ Kt p e below T' st0 { g with pc := g.pc + 3, stack := .ref b :: g.stack } := by
  obtain ⟨T', h', X', e', E, A, D, U, st⟩ := newO X hx hZ hown w wi wz eT hg hd hc hl
  exact ⟨h.size, T', h', Nat.le_refl _, Nat.le_trans (Nat.le_of_eq O0.1.symm) O0.2.1, X', e', E, O0.ext E, A, D, U, fun t q => k t (st t q)⟩
theorem knewP (X : Stand p l e R s m args below meth c T locs cells slots) (hx : p.tables.exec = Jvm.exec) (hZ : Z.Warmed39 s.vm) {aty : ArrayType} (w : (Jvm.Cond.arrayClass (newarray.typeOf aty)).before a0 Z = true) (eT : T.heap = h) (k : Kt p e below T st0 g) (hg : g.method = m) (hd : decode c.code g.pc = .ok (.newarray aty, 2)) {n : Int32} {rest : List Value} (hs : g.stack = .int n :: rest) (hn : ¬ n < 0) (cap : Nat) (hcap : n.toNatClampNeg ≤ cap) (hb : cap * 8 ≤ 536870912) (hc : cells + 1 ≤ R.cells) (hl : slots + cap ≤ R.slots) {n0 : Nat} (O0 : Old Z n0 h) :
    ∃ b T' h' cA, h.size ≤ b ∧ n0 ≤ b ∧ Stand p l e R s m args below meth c T' locs (cells + 1) (slots + cap) ∧ T'.heap = h' ∧ Ext h h' ∧ Old Z n0 h' ∧ Arv Z h' b cA (newarray.typeOf aty) n [] (defaultValue (newarray.typeOf aty)) ∧ Kt p e below T' st0 { g with pc := g.pc + 2, stack := .ref b :: rest } := by
  obtain ⟨T', h', cA, X', e', E, A, st⟩ := newP X hx hZ w eT hg hd hs hn hcap hb hc hl
  exact ⟨h.size, T', h', cA, Nat.le_refl _, Nat.le_trans (Nat.le_of_eq O0.1.symm) O0.2.1, X', e', E, O0.ext E, Arv.new A hn, fun t q => k t (st t q)⟩
theorem kinit (X : Stand p l e R s m args below meth c T locs cells slots) (hx : p.tables.exec = Jvm.exec) (hZ : Z.Warmed39 s.vm) {own : String} {idx : Nat} (hown : s.vm.findClass own = some m.cls) (w1 : (Jvm.Cond.methodLink own idx Lib.objectInit).before a0 Z = true) (w2 : (Jvm.Cond.instanceMethod Lib.objectInit).before a0 Z = true) (w3 : (Jvm.Cond.code Lib.objectInit ⟨#[0xb1]⟩ 1 none).before a0 Z = true) (eT : T.heap = h) (k : Kt p e below T st0 g) (hg : g.method = m) {M : Nat} (hml : c.maxLocals = M) (hsize : g.locals.size = M) {a : Addr} {rest : List Value} (hs : g.stack = .ref a :: rest) (hd : decode c.code g.pc = .ok (.invokespecial idx, 3)) (W : Nat) (hW : 2 * g.monitorRoom + (rest.map fun v => v.category).sum ≤ W) (hf : 1 ≤ R.frames) (hl : W + 12 ≤ R.locals) :
    ∃ T', Stand p l e R s m args below meth c T' locs cells slots ∧ T'.heap = h ∧ Kt p e below T' st0 { g with pc := g.pc + 3, stack := rest } := by
  obtain ⟨T', X', e', st⟩ := initO X hx hZ hown w1 w2 w3 eT hg (hsize.trans hml.symm) hs hd hf hW hl
  exact ⟨T', X', e', fun t q => k t (st t q)⟩
theorem kstC (X : Stand p l e R s m args below meth c T locs cells slots) (hx : p.tables.exec = Jvm.exec) (hZ : Z.Warmed39 s.vm) (eT : T.heap = h) {a : Addr} {ka : ClassId} {z : Int32} {vs : List Value} {dv : Value} (A : Arv Z h a ka .char z vs dv) {j x : Int32} (q1 : ¬ j < 0) (q2 : j < z) (i : Nat) (hj : j.toNatClampNeg = i) (hi : i < vs.length) (k : Kt p e below T st0 g) (hg : g.method = m) {rest : List Value} (hs : g.stack = .int x :: .int j :: .ref a :: rest) (hd : decode c.code g.pc = .ok (.castore, 1)) {n0 : Nat} (O0 : Old Z n0 h) (N : Fr n0 locs) (ge : n0 ≤ a) :
    ∃ T' h', Stand p l e R s m args below meth c T' (locs ++ [⟨a, j.toNatClampNeg⟩]) cells slots ∧ T'.heap = h' ∧ Wr h h' a j.toNatClampNeg (.int (nar .char x)) ∧ Arv Z h' a ka .char z (vs.set i (.int (nar .char x))) dv ∧ Old Z n0 h' ∧ Fr n0 (locs ++ [⟨a, j.toNatClampNeg⟩]) ∧ Kt p e below T' st0 { g with pc := g.pc + 1, stack := rest } := by
  obtain ⟨cl, Ar, b1, S, M, H, G⟩ := A
  obtain ⟨T', h', X', e', W, st⟩ := stC X hx hZ eT Ar (inb_of S ⟨q1, q2⟩) hg hs hd
  exact ⟨T', h', X', e', W, Arv.set Ar b1 S M H G (fits_nar_char _) W i hj hi, O0.wr W ge, Fr.snoc X' N ge, fun t q => k t (st t q)⟩
theorem kstB (X : Stand p l e R s m args below meth c T locs cells slots) (hx : p.tables.exec = Jvm.exec) (hZ : Z.Warmed39 s.vm) (eT : T.heap = h) {a : Addr} {ka : ClassId} {z : Int32} {vs : List Value} {dv : Value} (A : Arv Z h a ka .byte z vs dv) {j x : Int32} (q1 : ¬ j < 0) (q2 : j < z) (i : Nat) (hj : j.toNatClampNeg = i) (hi : i < vs.length) (k : Kt p e below T st0 g) (hg : g.method = m) {rest : List Value} (hs : g.stack = .int x :: .int j :: .ref a :: rest) (hd : decode c.code g.pc = .ok (.bastore, 1)) {n0 : Nat} (O0 : Old Z n0 h) (N : Fr n0 locs) (ge : n0 ≤ a) :
    ∃ T' h', Stand p l e R s m args below meth c T' (locs ++ [⟨a, j.toNatClampNeg⟩]) cells slots ∧ T'.heap = h' ∧ Wr h h' a j.toNatClampNeg (.int (nar .byte x)) ∧ Arv Z h' a ka .byte z (vs.set i (.int (nar .byte x))) dv ∧ Old Z n0 h' ∧ Fr n0 (locs ++ [⟨a, j.toNatClampNeg⟩]) ∧ Kt p e below T' st0 { g with pc := g.pc + 1, stack := rest } := by
  obtain ⟨cl, Ar, b1, S, M, H, G⟩ := A
  obtain ⟨T', h', X', e', W, st⟩ := stB X hx hZ eT Ar (inb_of S ⟨q1, q2⟩) hg hs hd
  exact ⟨T', h', X', e', W, Arv.set Ar b1 S M H G (fits_nar_byte _) W i hj hi, O0.wr W ge, Fr.snoc X' N ge, fun t q => k t (st t q)⟩
theorem kstI (X : Stand p l e R s m args below meth c T locs cells slots) (hx : p.tables.exec = Jvm.exec) (hZ : Z.Warmed39 s.vm) (eT : T.heap = h) {a : Addr} {ka : ClassId} {z : Int32} {vs : List Value} {dv : Value} (A : Arv Z h a ka .int z vs dv) {j x : Int32} (q1 : ¬ j < 0) (q2 : j < z) (i : Nat) (hj : j.toNatClampNeg = i) (hi : i < vs.length) (k : Kt p e below T st0 g) (hg : g.method = m) {rest : List Value} (hs : g.stack = .int x :: .int j :: .ref a :: rest) (hd : decode c.code g.pc = .ok (.iastore, 1)) {n0 : Nat} (O0 : Old Z n0 h) (N : Fr n0 locs) (ge : n0 ≤ a) :
    ∃ T' h', Stand p l e R s m args below meth c T' (locs ++ [⟨a, j.toNatClampNeg⟩]) cells slots ∧ T'.heap = h' ∧ Wr h h' a j.toNatClampNeg (.int x) ∧ Arv Z h' a ka .int z (vs.set i (.int x)) dv ∧ Old Z n0 h' ∧ Fr n0 (locs ++ [⟨a, j.toNatClampNeg⟩]) ∧ Kt p e below T' st0 { g with pc := g.pc + 1, stack := rest } := by
  obtain ⟨cl, Ar, b1, S, M, H, G⟩ := A
  obtain ⟨T', h', X', e', W, st⟩ := stI X hx hZ eT Ar (inb_of S ⟨q1, q2⟩) hg hs hd
  exact ⟨T', h', X', e', W, Arv.set Ar b1 S M H G rfl W i hj hi, O0.wr W ge, Fr.snoc X' N ge, fun t q => k t (st t q)⟩
theorem ldC {t : State} (X : Stand p l e R s m args below meth c T locs cells slots) (hx : p.tables.exec = Jvm.exec) (hZ : Z.Warmed39 s.vm) (eT : T.heap = h) {a : Addr} {ka : ClassId} {z : Int32} {vs : List Value} {dv v : Value} (A : Arv Z h a ka .char z vs dv) {j : Int32} (q1 : ¬ j < 0) (q2 : j < z) (hv : vs.getD j.toNatClampNeg dv = v) (hg : g.method = m) {rest : List Value} (hs : g.stack = .int j :: .ref a :: rest) (hd : decode c.code g.pc = .ok (.caload, 1)) (q : Steps p.tables e below (T.setTop { g with pc := g.pc + 1, stack := v :: rest }) t) : Steps p.tables e below (T.setTop g) t := by
  obtain ⟨cl, Ar, b1, S, M, H, G⟩ := A
  exact X.caload hx (by rw [eT]; exact Ar.1) (State.isArrayOf_alike hZ.alike Ar.2.1) Ar.2.2 (inb_of S ⟨q1, q2⟩) (Has.at H (inb_of S ⟨q1, q2⟩) hv) hg hs hd _ q
theorem ldB {t : State} (X : Stand p l e R s m args below meth c T locs cells slots) (hx : p.tables.exec = Jvm.exec) (hZ : Z.Warmed39 s.vm) (eT : T.heap = h) {a : Addr} {ka : ClassId} {z : Int32} {vs : List Value} {dv v : Value} (A : Arv Z h a ka .byte z vs dv) {j : Int32} (q1 : ¬ j < 0) (q2 : j < z) (hv : vs.getD j.toNatClampNeg dv = v) (hg : g.method = m) {rest : List Value} (hs : g.stack = .int j :: .ref a :: rest) (hd : decode c.code g.pc = .ok (.baload, 1)) (q : Steps p.tables e below (T.setTop { g with pc := g.pc + 1, stack := v :: rest }) t) : Steps p.tables e below (T.setTop g) t := by
  obtain ⟨cl, Ar, b1, S, M, H, G⟩ := A
  exact X.baloadBytes hx (by rw [eT]; exact Ar.1) (State.isArrayOf_alike hZ.alike Ar.2.1) Ar.2.2 (inb_of S ⟨q1, q2⟩) (Has.at H (inb_of S ⟨q1, q2⟩) hv) hg hs hd _ q
theorem ldI {t : State} (X : Stand p l e R s m args below meth c T locs cells slots) (hx : p.tables.exec = Jvm.exec) (hZ : Z.Warmed39 s.vm) (eT : T.heap = h) {a : Addr} {ka : ClassId} {z : Int32} {vs : List Value} {dv v : Value} (A : Arv Z h a ka .int z vs dv) {j : Int32} (q1 : ¬ j < 0) (q2 : j < z) (hv : vs.getD j.toNatClampNeg dv = v) (hg : g.method = m) {rest : List Value} (hs : g.stack = .int j :: .ref a :: rest) (hd : decode c.code g.pc = .ok (.iaload, 1)) (q : Steps p.tables e below (T.setTop { g with pc := g.pc + 1, stack := v :: rest }) t) : Steps p.tables e below (T.setTop g) t := by
  obtain ⟨cl, Ar, b1, S, M, H, G⟩ := A
  exact X.iaload hx (by rw [eT]; exact Ar.1) (State.isArrayOf_alike hZ.alike Ar.2.1) Ar.2.2 (inb_of S ⟨q1, q2⟩) (Has.at H (inb_of S ⟨q1, q2⟩) hv) hg hs hd _ q
theorem ldA {t : State} (X : Stand p l e R s m args below meth c T locs cells slots) (hx : p.tables.exec = Jvm.exec) (hZ : Z.Warmed39 s.vm) (eT : T.heap = h) {a : Addr} {ka : ClassId} {C : String} {z : Int32} {vs : List Value} {dv v : Value} (A : Arv Z h a ka (.object C) z vs dv) {j : Int32} (q1 : ¬ j < 0) (q2 : j < z) (hv : vs.getD j.toNatClampNeg dv = v) (hg : g.method = m) {rest : List Value} (hs : g.stack = .int j :: .ref a :: rest) (hd : decode c.code g.pc = .ok (.aaload, 1)) (q : Steps p.tables e below (T.setTop { g with pc := g.pc + 1, stack := v :: rest }) t) : Steps p.tables e below (T.setTop g) t := by
  obtain ⟨cl, Ar, b1, S, M, H, G⟩ := A
  exact X.aaload hx (by rw [eT]; exact Ar.1) (State.isArrayOf_alike hZ.alike Ar.2.1) rfl Ar.2.2 (inb_of S ⟨q1, q2⟩) (Has.at H (inb_of S ⟨q1, q2⟩) hv) hg hs hd _ q
theorem ldLen {t : State} (X : Stand p l e R s m args below meth c T locs cells slots) (hx : p.tables.exec = Jvm.exec) (hZ : Z.Warmed39 s.vm) (eT : T.heap = h) {a : Addr} {ka : ClassId} {ty : FieldType} {z : Int32} {vs : List Value} {dv : Value} (A : Arv Z h a ka ty z vs dv) (hg : g.method = m) {rest : List Value} (hs : g.stack = .ref a :: rest) (hd : decode c.code g.pc = .ok (.arraylength, 1)) (q : Steps p.tables e below (T.setTop { g with pc := g.pc + 1, stack := .int z :: rest }) t) : Steps p.tables e below (T.setTop g) t := by
  obtain ⟨cl, Ar, b1, S, M, H, G⟩ := A
  refine X.arraylength hx (by rw [eT]; exact Ar.1) (State.isArrayOf_alike hZ.alike Ar.2.1) hg hs hd _ ?_
  rw [len_of S M]; exact q
variable {y z : MethodName} {bytes : ByteArray} {ml : Nat} {rt : Option FieldType} {rm : Room} {as' : Array Value} {Q : Option Value → Heap → List Loc → Prop}
theorem kstat (X : Stand p l e R s m args below meth c T locs cells slots) (hx : p.tables.exec = Jvm.exec) (hZ : Z.Warmed39 s.vm) {own : String} {index : Nat} (hown : s.vm.findClass own = some m.cls) (w1 : (Jvm.Cond.methodLink own index y).before a0 Z = true) (w2 : (Jvm.Cond.static y).before a0 Z = true) (w3 : (Jvm.Cond.initialized y.cls).before a0 Z = true) (w4 : (Jvm.Cond.code y bytes ml rt).before a0 Z = true) (hM : MFP l Z y bytes ml rt rm [] as' h Q) (eT : T.heap = h) (k : Kt p e below T st0 g) {M : Nat} (hml : c.maxLocals = M) {ps : List FieldType} {r : Option FieldType} (pd : parseMethodDescriptor y.desc = some ⟨ps, r⟩) (argsL rest : List Value) (W : Nat) (hd : decode c.code g.pc = .ok (.invokestatic index, 3))
    (hg : g.method = m) (hsize : g.locals.size = M) (hln : argsL.length = ps.length) (hst : g.stack = argsL.reverse ++ rest) (ha : argsL.toArray = as') (hW : 2 * g.monitorRoom + (rest.map fun v => v.category).sum = W) (hy : y.cls ≠ "java/lang/invoke/MethodHandle" ∧ y.cls ≠ "java/lang/invoke/VarHandle" := by decide) (hf : rm.frames + 1 ≤ R.frames := by decide) (hl : W + (ml + 11) + rm.locals ≤ R.locals := by decide) (hc : cells + rm.cells ≤ R.cells := by decide) (hs : slots + rm.slots ≤ R.slots := by decide) :
    ∃ v T' L', Stand p l e R s m args below meth c T' (locs ++ L') (cells + rm.cells) (slots + rm.slots) ∧ Q v T'.heap L' ∧ Kt p e below T' st0 { g with pc := g.pc + 3, stack := v.toList ++ rest } := by
  obtain ⟨v, _, ⟨T', L, k', n'⟩, -, X', ⟨Lc, hQ, e1, e2, e3⟩, st⟩ := Jvm.LawKit.callS X hx hown (mvT hZ w1) (mvT hZ w2) (mvT hZ w3) (mvT hZ w4) hy (backOf (W := W) hM hZ w4 w3 hf hl) hg (hsize.trans hml.symm) (argsL := argsL) (rest := rest) (lenOf pd hln) hst (Nat.le_of_eq hW) hd (fun _ _ => ⟨ha, eT, hc, hs⟩)
  dsimp only [Pt.U, Pt.locs, Pt.cells, Pt.slots] at X' e1 e2 e3 st hQ
  subst e1 e2 e3
  exact ⟨v, T', Lc, X', hQ, fun t q => k t (st t q)⟩
theorem kspec (X : Stand p l e R s m args below meth c T locs cells slots) (hx : p.tables.exec = Jvm.exec) (hZ : Z.Warmed39 s.vm) {own : String} {index : Nat} (hown : s.vm.findClass own = some m.cls) (w1 : (Jvm.Cond.methodLink own index y).before a0 Z = true) (w2 : (Jvm.Cond.instanceMethod y).before a0 Z = true) (w3 : (Jvm.Cond.initialized y.cls).before a0 Z = true) (w4 : (Jvm.Cond.code y bytes ml none).before a0 Z = true) (hM : MFP l Z y bytes ml none rm [] as' h Q) (eT : T.heap = h) (k : Kt p e below T st0 g) {M : Nat} (hml : c.maxLocals = M) {ps : List FieldType} {r : Option FieldType} (pd : parseMethodDescriptor y.desc = some ⟨ps, r⟩) (a : Addr) (argsL rest : List Value) (W : Nat) (hd : decode c.code g.pc = .ok (.invokespecial index, 3))
    (hg : g.method = m) (hsize : g.locals.size = M) (hln : argsL.length = ps.length) (hst : g.stack = argsL.reverse ++ .ref a :: rest) (ha : (Value.ref a :: argsL).toArray = as') (hW : 2 * g.monitorRoom + (rest.map fun v => v.category).sum = W) (hy1 : y.name = "<init>" := by rfl) (hy : y.cls ≠ "java/lang/invoke/MethodHandle" ∧ y.cls ≠ "java/lang/invoke/VarHandle" := by decide) (hf : rm.frames + 1 ≤ R.frames := by decide) (hl : W + (ml + 11) + rm.locals ≤ R.locals := by decide) (hc : cells + rm.cells ≤ R.cells := by decide) (hs : slots + rm.slots ≤ R.slots := by decide) :
    ∃ v T' L', Stand p l e R s m args below meth c T' (locs ++ L') (cells + rm.cells) (slots + rm.slots) ∧ Q v T'.heap L' ∧ Kt p e below T' st0 { g with pc := g.pc + 3, stack := v.toList ++ rest } := by
  obtain ⟨v, _, ⟨T', L, k', n'⟩, -, X', ⟨Lc, hQ, e1, e2, e3⟩, st⟩ := X.specialBack hx hy1 hown (mvT hZ w1) (mvT hZ w2) (mvT hZ w4) hy (backOf (W := W) hM hZ w4 w3 hf hl) hg (hsize.trans hml.symm) (Steps.refl _) (a := a) (argsL := argsL) (rest := rest) (lenOf pd hln) hst (Nat.le_of_eq hW) hd (fun _ _ => ⟨ha, eT, hc, hs⟩)
  dsimp only [Pt.U, Pt.locs, Pt.cells, Pt.slots] at X' e1 e2 e3 st hQ
  subst e1 e2 e3
  exact ⟨v, T', Lc, X', hQ, fun t q => k t (st.trans q)⟩
theorem kvirt (X : Stand p l e R s m args below meth c T locs cells slots) (hx : p.tables.exec = Jvm.exec) (hZ : Z.Warmed39 s.vm) {own C : String} {index : Nat} (hown : s.vm.findClass own = some m.cls) (w1 : (Jvm.Cond.methodLink own index y).before a0 Z = true) (w2 : (Jvm.Cond.declares y).before a0 Z = true) (w3 : (Jvm.Cond.selects C y y).before a0 Z = true) (w4 : (Jvm.Cond.instanceMethod y).before a0 Z = true) (w5 : (Jvm.Cond.code y bytes ml rt).before a0 Z = true) (w6 : (Jvm.Cond.initialized y.cls).before a0 Z = true) (hM : MFP l Z y bytes ml rt rm [] as' h Q) (eT : T.heap = h) {b : Addr} (E : Exa Z h b C) (k : Kt p e below T st0 g) {M : Nat} (hml : c.maxLocals = M) {ps : List FieldType} {r : Option FieldType} (pd : parseMethodDescriptor y.desc = some ⟨ps, r⟩) (argsL rest : List Value) (W : Nat) (hd : decode c.code g.pc = .ok (.invokevirtual index, 3))
    (hg : g.method = m) (hsize : g.locals.size = M) (hln : argsL.length = ps.length) (hst : g.stack = argsL.reverse ++ .ref b :: rest) (ha : (Value.ref b :: argsL).toArray = as') (hW : 2 * g.monitorRoom + (rest.map fun v => v.category).sum = W) (hy : y.cls ≠ "java/lang/invoke/MethodHandle" ∧ y.cls ≠ "java/lang/invoke/VarHandle" := by decide) (hf : rm.frames + 1 ≤ R.frames := by decide) (hl : W + (ml + 11) + rm.locals ≤ R.locals := by decide) (hc : cells + rm.cells ≤ R.cells := by decide) (hs : slots + rm.slots ≤ R.slots := by decide) :
    ∃ v T' L', Stand p l e R s m args below meth c T' (locs ++ L') (cells + rm.cells) (slots + rm.slots) ∧ Q v T'.heap L' ∧ Kt p e below T' st0 { g with pc := g.pc + 3, stack := v.toList ++ rest } := by
  obtain ⟨cB, kB, qa, qb, qc⟩ := isOf hZ eT E
  obtain ⟨v, _, ⟨T', L, k', n'⟩, -, X', ⟨Lc, hQ, e1, e2, e3⟩, st⟩ := X.virtualBack hx (y := y) (z := y) hown (mvT hZ w1) (mvT hZ w2) (notFace_of_selects (args := #[]) (mvT hZ w3)) (mvT hZ w3) (mvT hZ w4) hy (backOf (W := W) hM hZ w5 w6 hf hl) qa qc hg (hsize.trans hml.symm) (Steps.refl _) (argsL := argsL) (rest := rest) (lenOf pd hln) hst (Nat.le_of_eq hW) hd (fun _ _ => ⟨ha, eT, hc, hs⟩)
  dsimp only [Pt.U, Pt.locs, Pt.cells, Pt.slots] at X' e1 e2 e3 st hQ
  subst e1 e2 e3
  exact ⟨v, T', Lc, X', hQ, fun t q => k t (st.trans q)⟩
theorem kface (X : Stand p l e R s m args below meth c T locs cells slots) (hx : p.tables.exec = Jvm.exec) (hZ : Z.Warmed39 s.vm) {own C : String} {index count : Nat} (hown : s.vm.findClass own = some m.cls) (w1 : (Jvm.Cond.methodLink own index y).before a0 Z = true) (w2 : (Jvm.Cond.declares y).before a0 Z = true) (w3 : (Jvm.Cond.interfaceMethod y.cls y.cls y.name y.desc).before a0 Z = true) (w4 : (Jvm.Cond.selects C y z).before a0 Z = true) (w5 : (Jvm.Cond.instanceMethod z).before a0 Z = true) (w6 : (Jvm.Cond.publicMethod z).before a0 Z = true) (w7 : (Jvm.Cond.unhidden C y.name y.desc).before a0 Z = true) (w8 : (Jvm.Cond.castable C y.cls).before a0 Z = true) (w9 : (Jvm.Cond.code z bytes ml rt).before a0 Z = true) (w10 : (Jvm.Cond.initialized z.cls).before a0 Z = true) (hM : MFP l Z z bytes ml rt rm [] as' h Q) (eT : T.heap = h) {b : Addr} (E : Exa Z h b C) (k : Kt p e below T st0 g) {M : Nat} (hml : c.maxLocals = M) {ps : List FieldType} {r : Option FieldType} (pd : parseMethodDescriptor y.desc = some ⟨ps, r⟩) (argsL rest : List Value) (W : Nat) (hd : decode c.code g.pc = .ok (.invokeinterface index count, 5))
    (hg : g.method = m) (hsize : g.locals.size = M) (hln : argsL.length = ps.length) (hst : g.stack = argsL.reverse ++ .ref b :: rest) (ha : (Value.ref b :: argsL).toArray = as') (hW : 2 * g.monitorRoom + (rest.map fun v => v.category).sum = W) (hy : y.cls ≠ "java/lang/invoke/MethodHandle" ∧ y.cls ≠ "java/lang/invoke/VarHandle" := by decide) (hf : rm.frames + 1 ≤ R.frames := by decide) (hl : W + (ml + 11) + rm.locals ≤ R.locals := by decide) (hc : cells + rm.cells ≤ R.cells := by decide) (hs : slots + rm.slots ≤ R.slots := by decide) :
    ∃ v T' L', Stand p l e R s m args below meth c T' (locs ++ L') (cells + rm.cells) (slots + rm.slots) ∧ Q v T'.heap L' ∧ Kt p e below T' st0 { g with pc := g.pc + 5, stack := v.toList ++ rest } := by
  obtain ⟨cB, kB, qa, qb, qc⟩ := isOf hZ eT E
  obtain ⟨v, _, ⟨T', L, k', n'⟩, -, X', ⟨Lc, hQ, e1, e2, e3⟩, st⟩ := X.interfaceBack hx (xi := y) (y := z) hown (mvT hZ w1) (mvT hZ w2) (mvT hZ w3 (by simp [Jvm.Cond.onTables, Jvm.Cond.keepsFace, Jvm.Cond.keeps, Jvm.Cond.steady, Jvm.Cond.faceAtom, hy.1, hy.2])) (mvT hZ w4) (mvT hZ w5) (mvT hZ w6) (mvT hZ w7) (mvT hZ w8) hy (backOf (W := W) hM hZ w9 w10 hf hl) qa qb qc hg (hsize.trans hml.symm) (Steps.refl _) (argsL := argsL) (rest := rest) (lenOf pd hln) hst (Nat.le_of_eq hW) hd (fun _ _ => ⟨ha, eT, hc, hs⟩)
  dsimp only [Pt.U, Pt.locs, Pt.cells, Pt.slots] at X' e1 e2 e3 st hQ
  subst e1 e2 e3
  exact ⟨v, T', Lc, X', hQ, fun t q => k t (st.trans q)⟩
end KL
abbrev vi (x : Int32) : Slot := .val (.int x)
abbrev vr (a : Addr) : Slot := .val (.ref a)
abbrev vj (x : Int64) : Slot := .val (.long x)
abbrev ii (x : Int32) : Value := .int x
abbrev rr (a : Addr) : Value := .ref a
abbrev u_ : Slot := .unset
abbrev S_ (p : Program) (e : Env) (below : List Frame) (T : State) (m : MethodId) (pc : Nat) (L : Array Slot) (S : List Value) (t : State) : Prop := Steps p.tables e below (T.setTop (mkF m pc L S)) t
abbrev nm0 : String := "com/example/lexchange/lexchange/Order"
abbrev nm1 : String := "Lcom/example/lexchange/lexchange/Order;"
abbrev nm2 : String := "com/example/lexchange/lexchange/PriceQueue$Part"
abbrev nm3 : String := "com/example/lexchange/lexchange/PriceQueue"
abbrev nm4 : String := "Lcom/example/lexchange/lexchange/PriceQueue;"
abbrev nm5 : String := "Lcom/example/lexchange/lexchange/PriceQueue$Part;"
abbrev nm6 : String := "java/util/OptionalInt"
abbrev nm7 : String := "com/example/lexchange/lexchange/Side"
abbrev nm8 : String := "(Lcom/example/lexchange/lexchange/Order;)V"
abbrev nm9 : String := "com/example/lexchange/lexchange/TimeInForce"
abbrev nm10 : String := "com/example/lexchange/lexchange/PriceQueueIsEmptyPinLaw"
abbrev nm12 : String := "Ljava/util/OptionalInt;"
abbrev nm14 : String := "Lcom/example/lexchange/lexchange/Side;"
abbrev nm15 : String := "Lcom/example/lexchange/lexchange/TimeInForce;"
abbrev nm19 : String := "java/lang/String"
abbrev HW (Z : State) (a0 : Array Value) : Prop := ∀ d ∈ tables_1, d.before a0 Z = true
theorem w0 {Z a0} (hw : HW Z a0) : (Jvm.Cond.constant nm10 (7 : Nat) (1073741823 : Int32)).before a0 Z = true := hw _ (List.mem_of_getElem? (i := 0) rfl)
theorem w1 {Z a0} (hw : HW Z a0) : (Jvm.Cond.constantLong nm10 (10 : Nat) (9223372036854775807 : Int64)).before a0 Z = true := hw _ (List.mem_of_getElem? (i := 1) rfl)
theorem w2 {Z a0} (hw : HW Z a0) : (Jvm.Cond.classLink nm10 (12 : Nat) nm3).before a0 Z = true := hw _ (List.mem_of_getElem? (i := 2) rfl)
theorem w3 {Z a0} (hw : HW Z a0) : (Jvm.Cond.instantiable nm3 (3 : Nat)).before a0 Z = true := hw _ (List.mem_of_getElem? (i := 3) rfl)
theorem w4 {Z a0} (hw : HW Z a0) : (Jvm.Cond.initialized nm3).before a0 Z = true := hw _ (List.mem_of_getElem? (i := 4) rfl)
theorem w5 {Z a0} (hw : HW Z a0) : (Jvm.Cond.methodLink nm10 (14 : Nat) ({ cls := nm3, name := "<init>", desc := "(J)V" } : Jvm.MethodName)).before a0 Z = true := hw _ (List.mem_of_getElem? (i := 5) rfl)
theorem w6 {Z a0} (hw : HW Z a0) : (Jvm.Cond.instanceMethod ({ cls := nm3, name := "<init>", desc := "(J)V" } : Jvm.MethodName)).before a0 Z = true := hw _ (List.mem_of_getElem? (i := 6) rfl)
theorem w7 {Z a0} (hw : HW Z a0) : (Jvm.Cond.code ({ cls := nm3, name := "<init>", desc := "(J)V" } : Jvm.MethodName) prog_34_method_1_code (3 : Nat) (Option.none : Option Jvm.ClassFile.FieldType)).before a0 Z = true := hw _ (List.mem_of_getElem? (i := 7) rfl)
theorem w8 {Z a0} (hw : HW Z a0) : (Jvm.Cond.methodLink nm3 (1 : Nat) ({ cls := "java/lang/Object", name := "<init>", desc := "()V" } : Jvm.MethodName)).before a0 Z = true := hw _ (List.mem_of_getElem? (i := 8) rfl)
theorem w9 {Z a0} (hw : HW Z a0) : (Jvm.Cond.instanceMethod ({ cls := "java/lang/Object", name := "<init>", desc := "()V" } : Jvm.MethodName)).before a0 Z = true := hw _ (List.mem_of_getElem? (i := 9) rfl)
theorem w10 {Z a0} (hw : HW Z a0) : (Jvm.Cond.code ({ cls := "java/lang/Object", name := "<init>", desc := "()V" } : Jvm.MethodName) object_method_1_code (1 : Nat) (Option.none : Option Jvm.ClassFile.FieldType)).before a0 Z = true := hw _ (List.mem_of_getElem? (i := 10) rfl)
theorem w11 {Z a0} (hw : HW Z a0) : (Jvm.Cond.classLink nm3 (7 : Nat) nm2).before a0 Z = true := hw _ (List.mem_of_getElem? (i := 11) rfl)
theorem w12 {Z a0} (hw : HW Z a0) : (Jvm.Cond.instantiable nm2 (2 : Nat)).before a0 Z = true := hw _ (List.mem_of_getElem? (i := 12) rfl)
theorem w13 {Z a0} (hw : HW Z a0) : (Jvm.Cond.initialized nm2).before a0 Z = true := hw _ (List.mem_of_getElem? (i := 13) rfl)
theorem w14 {Z a0} (hw : HW Z a0) : (Jvm.Cond.methodRef nm3 (9 : Nat) ({ cls := nm2, name := "<init>", desc := "()V" } : Jvm.MethodName)).before a0 Z = true := hw _ (List.mem_of_getElem? (i := 14) rfl)
theorem w15 {Z a0} (hw : HW Z a0) : (Jvm.Cond.instanceMethod ({ cls := nm2, name := "<init>", desc := "()V" } : Jvm.MethodName)).before a0 Z = true := hw _ (List.mem_of_getElem? (i := 15) rfl)
theorem w16 {Z a0} (hw : HW Z a0) : (Jvm.Cond.code ({ cls := nm2, name := "<init>", desc := "()V" } : Jvm.MethodName) prog_36_method_1_code (1 : Nat) (Option.none : Option Jvm.ClassFile.FieldType)).before a0 Z = true := hw _ (List.mem_of_getElem? (i := 16) rfl)
theorem w17 {Z a0} (hw : HW Z a0) : (Jvm.Cond.methodLink nm2 (1 : Nat) ({ cls := "java/lang/Object", name := "<init>", desc := "()V" } : Jvm.MethodName)).before a0 Z = true := hw _ (List.mem_of_getElem? (i := 17) rfl)
theorem w18 {Z a0} (hw : HW Z a0) : (Jvm.Cond.fieldLink nm3 (10 : Nat) nm3 "shown" nm5).before a0 Z = true := hw _ (List.mem_of_getElem? (i := 18) rfl)
theorem w19 {Z a0} (hw : HW Z a0) : (Jvm.Cond.laysFinal nm3 nm3 "shown" nm5).before a0 Z = true := hw _ (List.mem_of_getElem? (i := 19) rfl)
theorem w20 {Z a0} (hw : HW Z a0) : (Jvm.Cond.fieldLink nm3 (16 : Nat) nm3 "hidden" nm5).before a0 Z = true := hw _ (List.mem_of_getElem? (i := 20) rfl)
theorem w21 {Z a0} (hw : HW Z a0) : (Jvm.Cond.laysFinal nm3 nm3 "hidden" nm5).before a0 Z = true := hw _ (List.mem_of_getElem? (i := 21) rfl)
theorem w22 {Z a0} (hw : HW Z a0) : (Jvm.Cond.fieldLink nm3 (19 : Nat) nm3 "price" "J").before a0 Z = true := hw _ (List.mem_of_getElem? (i := 22) rfl)
theorem w23 {Z a0} (hw : HW Z a0) : (Jvm.Cond.laysFinal nm3 nm3 "price" "J").before a0 Z = true := hw _ (List.mem_of_getElem? (i := 23) rfl)
theorem w24 {Z a0} (hw : HW Z a0) : (Jvm.Cond.classLink nm10 (17 : Nat) nm0).before a0 Z = true := hw _ (List.mem_of_getElem? (i := 24) rfl)
theorem w25 {Z a0} (hw : HW Z a0) : (Jvm.Cond.instantiable nm0 (13 : Nat)).before a0 Z = true := hw _ (List.mem_of_getElem? (i := 25) rfl)
theorem w26 {Z a0} (hw : HW Z a0) : (Jvm.Cond.initialized nm0).before a0 Z = true := hw _ (List.mem_of_getElem? (i := 26) rfl)
theorem w27 {Z a0} (hw : HW Z a0) : (Jvm.Cond.stringLink nm10 (19 : Nat) "a").before a0 Z = true := hw _ (List.mem_of_getElem? (i := 27) rfl)
theorem w35 {Z a0} (hw : HW Z a0) : (Jvm.Cond.fieldLink nm10 (21 : Nat) nm7 "BUY" nm14).before a0 Z = true := hw _ (List.mem_of_getElem? (i := 35) rfl)
theorem w36 {Z a0} (hw : HW Z a0) : (Jvm.Cond.initialized nm7).before a0 Z = true := hw _ (List.mem_of_getElem? (i := 36) rfl)
theorem w37 {Z a0} (hw : HW Z a0) : (Jvm.Cond.laysStatic nm7 "BUY" nm14).before a0 Z = true := hw _ (List.mem_of_getElem? (i := 37) rfl)
theorem w38 {Z a0} (hw : HW Z a0) : (Jvm.Cond.methodLink nm10 (27 : Nat) ({ cls := nm0, name := "<init>", desc := "(JLjava/lang/String;Lcom/example/lexchange/lexchange/Side;IJ)V" } : Jvm.MethodName)).before a0 Z = true := hw _ (List.mem_of_getElem? (i := 38) rfl)
theorem w39 {Z a0} (hw : HW Z a0) : (Jvm.Cond.instanceMethod ({ cls := nm0, name := "<init>", desc := "(JLjava/lang/String;Lcom/example/lexchange/lexchange/Side;IJ)V" } : Jvm.MethodName)).before a0 Z = true := hw _ (List.mem_of_getElem? (i := 39) rfl)
theorem w40 {Z a0} (hw : HW Z a0) : (Jvm.Cond.code ({ cls := nm0, name := "<init>", desc := "(JLjava/lang/String;Lcom/example/lexchange/lexchange/Side;IJ)V" } : Jvm.MethodName) prog_29_method_1_code (8 : Nat) (Option.none : Option Jvm.ClassFile.FieldType)).before a0 Z = true := hw _ (List.mem_of_getElem? (i := 40) rfl)
theorem w41 {Z a0} (hw : HW Z a0) : (Jvm.Cond.fieldLink nm0 (1 : Nat) nm9 "DAY" nm15).before a0 Z = true := hw _ (List.mem_of_getElem? (i := 41) rfl)
theorem w42 {Z a0} (hw : HW Z a0) : (Jvm.Cond.initialized nm9).before a0 Z = true := hw _ (List.mem_of_getElem? (i := 42) rfl)
theorem w43 {Z a0} (hw : HW Z a0) : (Jvm.Cond.laysStatic nm9 "DAY" nm15).before a0 Z = true := hw _ (List.mem_of_getElem? (i := 43) rfl)
theorem w44 {Z a0} (hw : HW Z a0) : (Jvm.Cond.methodLink nm0 (7 : Nat) ({ cls := nm6, name := "empty", desc := "()Ljava/util/OptionalInt;" } : Jvm.MethodName)).before a0 Z = true := hw _ (List.mem_of_getElem? (i := 44) rfl)
theorem w45 {Z a0} (hw : HW Z a0) : (Jvm.Cond.static ({ cls := nm6, name := "empty", desc := "()Ljava/util/OptionalInt;" } : Jvm.MethodName)).before a0 Z = true := hw _ (List.mem_of_getElem? (i := 45) rfl)
theorem w46 {Z a0} (hw : HW Z a0) : (Jvm.Cond.initialized nm6).before a0 Z = true := hw _ (List.mem_of_getElem? (i := 46) rfl)
theorem w47 {Z a0} (hw : HW Z a0) : (Jvm.Cond.code ({ cls := nm6, name := "empty", desc := "()Ljava/util/OptionalInt;" } : Jvm.MethodName) jdk_2649_method_2_code (0 : Nat) (Option.some (Jvm.ClassFile.FieldType.object nm6))).before a0 Z = true := hw _ (List.mem_of_getElem? (i := 47) rfl)
theorem w48 {Z a0} (hw : HW Z a0) : (Jvm.Cond.fieldLink nm6 (17 : Nat) nm6 "EMPTY" nm12).before a0 Z = true := hw _ (List.mem_of_getElem? (i := 48) rfl)
theorem w49 {Z a0} (hw : HW Z a0) : (Jvm.Cond.methodLink nm0 (13 : Nat) ({ cls := nm0, name := "<init>", desc := "(JLjava/lang/String;Lcom/example/lexchange/lexchange/Side;IJLcom/example/lexchange/lexchange/TimeInForce;ZLjava/util/OptionalInt;)V" } : Jvm.MethodName)).before a0 Z = true := hw _ (List.mem_of_getElem? (i := 49) rfl)
theorem w50 {Z a0} (hw : HW Z a0) : (Jvm.Cond.instanceMethod ({ cls := nm0, name := "<init>", desc := "(JLjava/lang/String;Lcom/example/lexchange/lexchange/Side;IJLcom/example/lexchange/lexchange/TimeInForce;ZLjava/util/OptionalInt;)V" } : Jvm.MethodName)).before a0 Z = true := hw _ (List.mem_of_getElem? (i := 50) rfl)
theorem w51 {Z a0} (hw : HW Z a0) : (Jvm.Cond.code ({ cls := nm0, name := "<init>", desc := "(JLjava/lang/String;Lcom/example/lexchange/lexchange/Side;IJLcom/example/lexchange/lexchange/TimeInForce;ZLjava/util/OptionalInt;)V" } : Jvm.MethodName) prog_29_method_2_code (11 : Nat) (Option.none : Option Jvm.ClassFile.FieldType)).before a0 Z = true := hw _ (List.mem_of_getElem? (i := 51) rfl)
theorem w52 {Z a0} (hw : HW Z a0) : (Jvm.Cond.methodLink nm0 (19 : Nat) ({ cls := "java/lang/Object", name := "<init>", desc := "()V" } : Jvm.MethodName)).before a0 Z = true := hw _ (List.mem_of_getElem? (i := 52) rfl)
theorem w53 {Z a0} (hw : HW Z a0) : (Jvm.Cond.methodLink nm0 (36 : Nat) ({ cls := nm6, name := "isPresent", desc := "()Z" } : Jvm.MethodName)).before a0 Z = true := hw _ (List.mem_of_getElem? (i := 53) rfl)
theorem w54 {Z a0} (hw : HW Z a0) : (Jvm.Cond.declares ({ cls := nm6, name := "isPresent", desc := "()Z" } : Jvm.MethodName)).before a0 Z = true := hw _ (List.mem_of_getElem? (i := 54) rfl)
theorem w55 {Z a0} (hw : HW Z a0) : (Jvm.Cond.instanceMethod ({ cls := nm6, name := "isPresent", desc := "()Z" } : Jvm.MethodName)).before a0 Z = true := hw _ (List.mem_of_getElem? (i := 55) rfl)
theorem w56 {Z a0} (hw : HW Z a0) : (Jvm.Cond.selects nm6 ({ cls := nm6, name := "isPresent", desc := "()Z" } : Jvm.MethodName) ({ cls := nm6, name := "isPresent", desc := "()Z" } : Jvm.MethodName)).before a0 Z = true := hw _ (List.mem_of_getElem? (i := 56) rfl)
theorem w57 {Z a0} (hw : HW Z a0) : (Jvm.Cond.code ({ cls := nm6, name := "isPresent", desc := "()Z" } : Jvm.MethodName) jdk_2649_method_6_code (1 : Nat) (Option.some Jvm.ClassFile.FieldType.boolean)).before a0 Z = true := hw _ (List.mem_of_getElem? (i := 57) rfl)
theorem w58 {Z a0} (hw : HW Z a0) : (Jvm.Cond.fieldLink nm6 (7 : Nat) nm6 "isPresent" "Z").before a0 Z = true := hw _ (List.mem_of_getElem? (i := 58) rfl)
theorem w60 {Z a0} (hw : HW Z a0) : (Jvm.Cond.fieldLink nm0 (47 : Nat) nm0 "id" "J").before a0 Z = true := hw _ (List.mem_of_getElem? (i := 60) rfl)
theorem w61 {Z a0} (hw : HW Z a0) : (Jvm.Cond.laysFinal nm0 nm0 "id" "J").before a0 Z = true := hw _ (List.mem_of_getElem? (i := 61) rfl)
theorem w62 {Z a0} (hw : HW Z a0) : (Jvm.Cond.fieldLink nm0 (51 : Nat) nm0 "participant" "Ljava/lang/String;").before a0 Z = true := hw _ (List.mem_of_getElem? (i := 62) rfl)
theorem w63 {Z a0} (hw : HW Z a0) : (Jvm.Cond.laysFinal nm0 nm0 "participant" "Ljava/lang/String;").before a0 Z = true := hw _ (List.mem_of_getElem? (i := 63) rfl)
theorem w64 {Z a0} (hw : HW Z a0) : (Jvm.Cond.fieldLink nm0 (55 : Nat) nm0 "side" nm14).before a0 Z = true := hw _ (List.mem_of_getElem? (i := 64) rfl)
theorem w65 {Z a0} (hw : HW Z a0) : (Jvm.Cond.laysFinal nm0 nm0 "side" nm14).before a0 Z = true := hw _ (List.mem_of_getElem? (i := 65) rfl)
theorem w66 {Z a0} (hw : HW Z a0) : (Jvm.Cond.fieldLink nm0 (59 : Nat) nm0 "timeInForce" nm15).before a0 Z = true := hw _ (List.mem_of_getElem? (i := 66) rfl)
theorem w67 {Z a0} (hw : HW Z a0) : (Jvm.Cond.laysFinal nm0 nm0 "timeInForce" nm15).before a0 Z = true := hw _ (List.mem_of_getElem? (i := 67) rfl)
theorem w68 {Z a0} (hw : HW Z a0) : (Jvm.Cond.fieldLink nm0 (62 : Nat) nm0 "postOnly" "Z").before a0 Z = true := hw _ (List.mem_of_getElem? (i := 68) rfl)
theorem w69 {Z a0} (hw : HW Z a0) : (Jvm.Cond.laysFinal nm0 nm0 "postOnly" "Z").before a0 Z = true := hw _ (List.mem_of_getElem? (i := 69) rfl)
theorem w70 {Z a0} (hw : HW Z a0) : (Jvm.Cond.fieldLink nm0 (66 : Nat) nm0 "peak" nm12).before a0 Z = true := hw _ (List.mem_of_getElem? (i := 70) rfl)
theorem w71 {Z a0} (hw : HW Z a0) : (Jvm.Cond.laysFinal nm0 nm0 "peak" nm12).before a0 Z = true := hw _ (List.mem_of_getElem? (i := 71) rfl)
theorem w72 {Z a0} (hw : HW Z a0) : (Jvm.Cond.fieldLink nm0 (70 : Nat) nm0 "price" "J").before a0 Z = true := hw _ (List.mem_of_getElem? (i := 72) rfl)
theorem w73 {Z a0} (hw : HW Z a0) : (Jvm.Cond.lays nm0 nm0 "price" "J").before a0 Z = true := hw _ (List.mem_of_getElem? (i := 73) rfl)
theorem w74 {Z a0} (hw : HW Z a0) : (Jvm.Cond.fieldLink nm0 (73 : Nat) nm0 "remaining" "I").before a0 Z = true := hw _ (List.mem_of_getElem? (i := 74) rfl)
theorem w75 {Z a0} (hw : HW Z a0) : (Jvm.Cond.lays nm0 nm0 "remaining" "I").before a0 Z = true := hw _ (List.mem_of_getElem? (i := 75) rfl)
theorem w76 {Z a0} (hw : HW Z a0) : (Jvm.Cond.constantLong nm10 (30 : Nat) (2 : Int64)).before a0 Z = true := hw _ (List.mem_of_getElem? (i := 76) rfl)
theorem w77 {Z a0} (hw : HW Z a0) : (Jvm.Cond.stringLink nm10 (32 : Nat) "b").before a0 Z = true := hw _ (List.mem_of_getElem? (i := 77) rfl)
theorem w78 {Z a0} (hw : HW Z a0) : (Jvm.Cond.fieldLink nm10 (34 : Nat) nm7 "SELL" nm14).before a0 Z = true := hw _ (List.mem_of_getElem? (i := 78) rfl)
theorem w79 {Z a0} (hw : HW Z a0) : (Jvm.Cond.laysStatic nm7 "SELL" nm14).before a0 Z = true := hw _ (List.mem_of_getElem? (i := 79) rfl)
theorem w80 {Z a0} (hw : HW Z a0) : (Jvm.Cond.methodLink nm10 (37 : Nat) ({ cls := nm0, name := "showSlice", desc := "()V" } : Jvm.MethodName)).before a0 Z = true := hw _ (List.mem_of_getElem? (i := 80) rfl)
theorem w81 {Z a0} (hw : HW Z a0) : (Jvm.Cond.declares ({ cls := nm0, name := "showSlice", desc := "()V" } : Jvm.MethodName)).before a0 Z = true := hw _ (List.mem_of_getElem? (i := 81) rfl)
theorem w82 {Z a0} (hw : HW Z a0) : (Jvm.Cond.instanceMethod ({ cls := nm0, name := "showSlice", desc := "()V" } : Jvm.MethodName)).before a0 Z = true := hw _ (List.mem_of_getElem? (i := 82) rfl)
theorem w83 {Z a0} (hw : HW Z a0) : (Jvm.Cond.selects nm0 ({ cls := nm0, name := "showSlice", desc := "()V" } : Jvm.MethodName) ({ cls := nm0, name := "showSlice", desc := "()V" } : Jvm.MethodName)).before a0 Z = true := hw _ (List.mem_of_getElem? (i := 83) rfl)
theorem w84 {Z a0} (hw : HW Z a0) : (Jvm.Cond.code ({ cls := nm0, name := "showSlice", desc := "()V" } : Jvm.MethodName) prog_29_method_19_code (1 : Nat) (Option.none : Option Jvm.ClassFile.FieldType)).before a0 Z = true := hw _ (List.mem_of_getElem? (i := 84) rfl)
theorem w85 {Z a0} (hw : HW Z a0) : (Jvm.Cond.fieldLink nm0 (77 : Nat) nm0 "slice" "I").before a0 Z = true := hw _ (List.mem_of_getElem? (i := 85) rfl)
theorem w86 {Z a0} (hw : HW Z a0) : (Jvm.Cond.lays nm0 nm0 "slice" "I").before a0 Z = true := hw _ (List.mem_of_getElem? (i := 86) rfl)
theorem w87 {Z a0} (hw : HW Z a0) : (Jvm.Cond.methodLink nm10 (47 : Nat) ({ cls := nm3, name := "isEmpty", desc := "()Z" } : Jvm.MethodName)).before a0 Z = true := hw _ (List.mem_of_getElem? (i := 87) rfl)
theorem w88 {Z a0} (hw : HW Z a0) : (Jvm.Cond.declares ({ cls := nm3, name := "isEmpty", desc := "()Z" } : Jvm.MethodName)).before a0 Z = true := hw _ (List.mem_of_getElem? (i := 88) rfl)
theorem w89 {Z a0} (hw : HW Z a0) : (Jvm.Cond.instanceMethod ({ cls := nm3, name := "isEmpty", desc := "()Z" } : Jvm.MethodName)).before a0 Z = true := hw _ (List.mem_of_getElem? (i := 89) rfl)
theorem w90 {Z a0} (hw : HW Z a0) : (Jvm.Cond.selects nm3 ({ cls := nm3, name := "isEmpty", desc := "()Z" } : Jvm.MethodName) ({ cls := nm3, name := "isEmpty", desc := "()Z" } : Jvm.MethodName)).before a0 Z = true := hw _ (List.mem_of_getElem? (i := 90) rfl)
theorem w91 {Z a0} (hw : HW Z a0) : (Jvm.Cond.code ({ cls := nm3, name := "isEmpty", desc := "()Z" } : Jvm.MethodName) prog_34_method_6_code (1 : Nat) (Option.some Jvm.ClassFile.FieldType.boolean)).before a0 Z = true := hw _ (List.mem_of_getElem? (i := 91) rfl)
theorem w92 {Z a0} (hw : HW Z a0) : (Jvm.Cond.fieldRef nm3 (42 : Nat) nm2 "head" nm1).before a0 Z = true := hw _ (List.mem_of_getElem? (i := 92) rfl)
theorem w93 {Z a0} (hw : HW Z a0) : (Jvm.Cond.lays nm2 nm2 "head" nm1).before a0 Z = true := hw _ (List.mem_of_getElem? (i := 93) rfl)
theorem w94 {Z a0} (hw : HW Z a0) : (Jvm.Cond.methodLink nm10 (40 : Nat) ({ cls := nm3, name := "add", desc := nm8 } : Jvm.MethodName)).before a0 Z = true := hw _ (List.mem_of_getElem? (i := 94) rfl)
theorem w95 {Z a0} (hw : HW Z a0) : (Jvm.Cond.declares ({ cls := nm3, name := "add", desc := nm8 } : Jvm.MethodName)).before a0 Z = true := hw _ (List.mem_of_getElem? (i := 95) rfl)
theorem w96 {Z a0} (hw : HW Z a0) : (Jvm.Cond.instanceMethod ({ cls := nm3, name := "add", desc := nm8 } : Jvm.MethodName)).before a0 Z = true := hw _ (List.mem_of_getElem? (i := 96) rfl)
theorem w97 {Z a0} (hw : HW Z a0) : (Jvm.Cond.selects nm3 ({ cls := nm3, name := "add", desc := nm8 } : Jvm.MethodName) ({ cls := nm3, name := "add", desc := nm8 } : Jvm.MethodName)).before a0 Z = true := hw _ (List.mem_of_getElem? (i := 97) rfl)
theorem w98 {Z a0} (hw : HW Z a0) : (Jvm.Cond.code ({ cls := nm3, name := "add", desc := nm8 } : Jvm.MethodName) prog_34_method_3_code (3 : Nat) (Option.none : Option Jvm.ClassFile.FieldType)).before a0 Z = true := hw _ (List.mem_of_getElem? (i := 98) rfl)
theorem w99 {Z a0} (hw : HW Z a0) : (Jvm.Cond.methodLink nm3 (23 : Nat) ({ cls := nm0, name := "shown", desc := "()I" } : Jvm.MethodName)).before a0 Z = true := hw _ (List.mem_of_getElem? (i := 99) rfl)
theorem w100 {Z a0} (hw : HW Z a0) : (Jvm.Cond.declares ({ cls := nm0, name := "shown", desc := "()I" } : Jvm.MethodName)).before a0 Z = true := hw _ (List.mem_of_getElem? (i := 100) rfl)
theorem w101 {Z a0} (hw : HW Z a0) : (Jvm.Cond.instanceMethod ({ cls := nm0, name := "shown", desc := "()I" } : Jvm.MethodName)).before a0 Z = true := hw _ (List.mem_of_getElem? (i := 101) rfl)
theorem w102 {Z a0} (hw : HW Z a0) : (Jvm.Cond.selects nm0 ({ cls := nm0, name := "shown", desc := "()I" } : Jvm.MethodName) ({ cls := nm0, name := "shown", desc := "()I" } : Jvm.MethodName)).before a0 Z = true := hw _ (List.mem_of_getElem? (i := 102) rfl)
theorem w103 {Z a0} (hw : HW Z a0) : (Jvm.Cond.code ({ cls := nm0, name := "shown", desc := "()I" } : Jvm.MethodName) prog_29_method_12_code (1 : Nat) (Option.some Jvm.ClassFile.FieldType.int)).before a0 Z = true := hw _ (List.mem_of_getElem? (i := 103) rfl)
theorem w104 {Z a0} (hw : HW Z a0) : (Jvm.Cond.methodLink nm0 (80 : Nat) ({ cls := nm0, name := "hidden", desc := "()Z" } : Jvm.MethodName)).before a0 Z = true := hw _ (List.mem_of_getElem? (i := 104) rfl)
theorem w105 {Z a0} (hw : HW Z a0) : (Jvm.Cond.instanceMethod ({ cls := nm0, name := "hidden", desc := "()Z" } : Jvm.MethodName)).before a0 Z = true := hw _ (List.mem_of_getElem? (i := 105) rfl)
theorem w106 {Z a0} (hw : HW Z a0) : (Jvm.Cond.privateMethod ({ cls := nm0, name := "hidden", desc := "()Z" } : Jvm.MethodName)).before a0 Z = true := hw _ (List.mem_of_getElem? (i := 106) rfl)
theorem w107 {Z a0} (hw : HW Z a0) : (Jvm.Cond.code ({ cls := nm0, name := "hidden", desc := "()Z" } : Jvm.MethodName) prog_29_method_20_code (1 : Nat) (Option.some Jvm.ClassFile.FieldType.boolean)).before a0 Z = true := hw _ (List.mem_of_getElem? (i := 107) rfl)
theorem w108 {Z a0} (hw : HW Z a0) : (Jvm.Cond.fieldLink nm3 (28 : Nat) nm0 "queue" nm4).before a0 Z = true := hw _ (List.mem_of_getElem? (i := 108) rfl)
theorem w109 {Z a0} (hw : HW Z a0) : (Jvm.Cond.lays nm0 nm0 "queue" nm4).before a0 Z = true := hw _ (List.mem_of_getElem? (i := 109) rfl)
theorem w110 {Z a0} (hw : HW Z a0) : (Jvm.Cond.fieldRef nm3 (32 : Nat) nm2 "tail" nm1).before a0 Z = true := hw _ (List.mem_of_getElem? (i := 110) rfl)
theorem w111 {Z a0} (hw : HW Z a0) : (Jvm.Cond.lays nm2 nm2 "tail" nm1).before a0 Z = true := hw _ (List.mem_of_getElem? (i := 111) rfl)
theorem w112 {Z a0} (hw : HW Z a0) : (Jvm.Cond.fieldLink nm3 (36 : Nat) nm0 "previous" nm1).before a0 Z = true := hw _ (List.mem_of_getElem? (i := 112) rfl)
theorem w113 {Z a0} (hw : HW Z a0) : (Jvm.Cond.lays nm0 nm0 "previous" nm1).before a0 Z = true := hw _ (List.mem_of_getElem? (i := 113) rfl)
theorem w114 {Z a0} (hw : HW Z a0) : (Jvm.Cond.fieldLink nm3 (39 : Nat) nm0 "next" nm1).before a0 Z = true := hw _ (List.mem_of_getElem? (i := 114) rfl)
theorem w115 {Z a0} (hw : HW Z a0) : (Jvm.Cond.lays nm0 nm0 "next" nm1).before a0 Z = true := hw _ (List.mem_of_getElem? (i := 115) rfl)
theorem w116 {Z a0} (hw : HW Z a0) : (Jvm.Cond.methodLink nm10 (44 : Nat) ({ cls := nm3, name := "remove", desc := nm8 } : Jvm.MethodName)).before a0 Z = true := hw _ (List.mem_of_getElem? (i := 116) rfl)
theorem w117 {Z a0} (hw : HW Z a0) : (Jvm.Cond.declares ({ cls := nm3, name := "remove", desc := nm8 } : Jvm.MethodName)).before a0 Z = true := hw _ (List.mem_of_getElem? (i := 117) rfl)
theorem w118 {Z a0} (hw : HW Z a0) : (Jvm.Cond.instanceMethod ({ cls := nm3, name := "remove", desc := nm8 } : Jvm.MethodName)).before a0 Z = true := hw _ (List.mem_of_getElem? (i := 118) rfl)
theorem w119 {Z a0} (hw : HW Z a0) : (Jvm.Cond.selects nm3 ({ cls := nm3, name := "remove", desc := nm8 } : Jvm.MethodName) ({ cls := nm3, name := "remove", desc := nm8 } : Jvm.MethodName)).before a0 Z = true := hw _ (List.mem_of_getElem? (i := 119) rfl)
theorem w120 {Z a0} (hw : HW Z a0) : (Jvm.Cond.code ({ cls := nm3, name := "remove", desc := nm8 } : Jvm.MethodName) prog_34_method_5_code (5 : Nat) (Option.none : Option Jvm.ClassFile.FieldType)).before a0 Z = true := hw _ (List.mem_of_getElem? (i := 120) rfl)
theorem own_in : ∀ a ∈ Bundle.stringAtoms, a ∈ tables_1 := by decide +kernel
theorem own_atoms {Z : State} {a0 : Array Value} (hw : HW Z a0) : ∀ a ∈ Bundle.stringAtoms, a.before a0 Z = true := fun a ha => hw a (own_in a ha)
section KW
variable {p : Program} {l : Launch} {e : Env} {R : Room} {s : State} {vm0 : Vm} {m : MethodId} {args : Array Value} {below : List Frame} {meth : Method} {c : Code} {T : State} {locs : List Loc} {cells slots : Nat} {Z : State} {a0 : Array Value} {h : Heap} {st0 : State} {g : JFrame} {y : MethodName} {bytes : ByteArray} {ml : Nat} {rt : Option FieldType} {rm : Room} {as' : Array Value} {Q : Option Value → Heap → List Loc → Prop}
theorem kstatB (X : Stand p l e R (s.setVm vm0) m args below meth c T locs cells slots) (hx : p.tables.exec = Jvm.exec) (hZ : Z.Warmed39 vm0) {own : String} {index : Nat} (hown : vm0.findClass own = some m.cls) {k0 : Nat} (hS : s.Since vm0 k0) (hk : k0 ≤ h.size) (w1 : (Jvm.Cond.methodLink own index y).before a0 Z = true) (w2 : (Jvm.Cond.static y).before a0 Z = true) (w3 : (Jvm.Cond.initialized y.cls).before a0 Z = true) (w4 : (Jvm.Cond.code y bytes ml rt).before a0 Z = true) {W : Nat} (hB : BackS l R p e below (s.setVm vm0) args y 3 W (fun A a => a = as' ∧ A.U.heap = h ∧ A.cells + rm.cells ≤ R.cells ∧ A.slots + rm.slots ≤ R.slots) (fun A _ v B => ∃ L, Q v B.U.heap L ∧ B.locs = A.locs ++ L ∧ B.cells = A.cells + rm.cells ∧ B.slots = A.slots + rm.slots)) (eT : T.heap = h) (k : Kt p e below T st0 g) {M : Nat} (hml : c.maxLocals = M) {ps : List FieldType} {r : Option FieldType} (pd : parseMethodDescriptor y.desc = some ⟨ps, r⟩) (argsL rest : List Value) (hd : decode c.code g.pc = .ok (.invokestatic index, 3))
  (hg : g.method = m) (hsize : g.locals.size = M) (hln : argsL.length = ps.length) (hst : g.stack = argsL.reverse ++ rest) (ha : argsL.toArray = as') (hW : 2 * g.monitorRoom + (rest.map fun v => v.category).sum = W) (hy : y.cls ≠ "java/lang/invoke/MethodHandle" ∧ y.cls ≠ "java/lang/invoke/VarHandle" := by decide) (hc : cells + rm.cells ≤ R.cells := by decide) (hs : slots + rm.slots ≤ R.slots := by decide) :
  ∃ v T' L', Stand p l e R (s.setVm T'.vm) m args below meth c T' (locs ++ L') (cells + rm.cells) (slots + rm.slots) ∧ Q v T'.heap L' ∧ s.Since T'.vm T'.heap.size ∧ Z.Warmed39 T'.vm ∧ T'.vm.findClass own = some m.cls ∧ Kt p e below T' st0 { g with pc := g.pc + 3, stack := v.toList ++ rest } := by
 obtain ⟨v, _, ⟨T', L, k', n'⟩, -, X', hS', hg', ⟨Lc, hQ, e1, e2, e3⟩, st⟩ := callSS X hx hown (mvT (s := s.setVm vm0) hZ w1) (mvT (s := s.setVm vm0) hZ w2) (mvT (s := s.setVm vm0) hZ w3) (mvT (s := s.setVm vm0) hZ w4) hy hB hg (hsize.trans hml.symm) (argsL := argsL) (rest := rest) (lenOf pd hln) hst (Nat.le_of_eq hW) hd (fun _ _ => ⟨ha, eT, hc, hs⟩)
 dsimp only [Pt.U, Pt.locs, Pt.cells, Pt.slots] at X' hS' hg' e1 e2 e3 st hQ
 subst e1 e2 e3
 obtain ⟨X2, hS2, hZ2, ho2⟩ := rebS hS (by rw [eT]; exact hk) X' hS' hg' hZ hown
 exact ⟨v, T', Lc, X2, hQ, hS2, hZ2, ho2, fun t q => k t (st.trans q)⟩
theorem kspecB (X : Stand p l e R (s.setVm vm0) m args below meth c T locs cells slots) (hx : p.tables.exec = Jvm.exec) (hZ : Z.Warmed39 vm0) {own : String} {index : Nat} (hown : vm0.findClass own = some m.cls) {k0 : Nat} (hS : s.Since vm0 k0) (hk : k0 ≤ h.size) (w1 : (Jvm.Cond.methodLink own index y).before a0 Z = true) (w2 : (Jvm.Cond.instanceMethod y).before a0 Z = true) (w4 : (Jvm.Cond.code y bytes ml none).before a0 Z = true) {W : Nat} (hB : BackS l R p e below (s.setVm vm0) args y 3 W (fun A a => a = as' ∧ A.U.heap = h ∧ A.cells + rm.cells ≤ R.cells ∧ A.slots + rm.slots ≤ R.slots) (fun A _ v B => ∃ L, Q v B.U.heap L ∧ B.locs = A.locs ++ L ∧ B.cells = A.cells + rm.cells ∧ B.slots = A.slots + rm.slots)) (eT : T.heap = h) (k : Kt p e below T st0 g) {M : Nat} (hml : c.maxLocals = M) {ps : List FieldType} {r : Option FieldType} (pd : parseMethodDescriptor y.desc = some ⟨ps, r⟩) (a : Addr) (argsL rest : List Value) (hd : decode c.code g.pc = .ok (.invokespecial index, 3))
  (hg : g.method = m) (hsize : g.locals.size = M) (hln : argsL.length = ps.length) (hst : g.stack = argsL.reverse ++ .ref a :: rest) (ha : (Value.ref a :: argsL).toArray = as') (hW : 2 * g.monitorRoom + (rest.map fun v => v.category).sum = W) (hy1 : y.name = "<init>" := by rfl) (hy : y.cls ≠ "java/lang/invoke/MethodHandle" ∧ y.cls ≠ "java/lang/invoke/VarHandle" := by decide) (hc : cells + rm.cells ≤ R.cells := by decide) (hs : slots + rm.slots ≤ R.slots := by decide) :
  ∃ v T' L', Stand p l e R (s.setVm T'.vm) m args below meth c T' (locs ++ L') (cells + rm.cells) (slots + rm.slots) ∧ Q v T'.heap L' ∧ s.Since T'.vm T'.heap.size ∧ Z.Warmed39 T'.vm ∧ T'.vm.findClass own = some m.cls ∧ Kt p e below T' st0 { g with pc := g.pc + 3, stack := v.toList ++ rest } := by
 obtain ⟨v, _, ⟨T', L, k', n'⟩, -, X', hS', hg', ⟨Lc, hQ, e1, e2, e3⟩, st⟩ := X.specialBackS hx hy1 hown (mvT (s := s.setVm vm0) hZ w1) (mvT (s := s.setVm vm0) hZ w2) (mvT (s := s.setVm vm0) hZ w4) hy hB hg (hsize.trans hml.symm) (Steps.refl _) (a := a) (argsL := argsL) (rest := rest) (lenOf pd hln) hst (Nat.le_of_eq hW) hd (fun _ _ => ⟨ha, eT, hc, hs⟩)
 dsimp only [Pt.U, Pt.locs, Pt.cells, Pt.slots] at X' hS' hg' e1 e2 e3 st hQ
 subst e1 e2 e3
 obtain ⟨X2, hS2, hZ2, ho2⟩ := rebS hS (by rw [eT]; exact hk) X' hS' hg' hZ hown
 exact ⟨v, T', Lc, X2, hQ, hS2, hZ2, ho2, fun t q => k t (st.trans q)⟩
theorem kldc (X : Stand p l e R (s.setVm vm0) m args below meth c T locs cells slots) (hx : p.tables.exec = Jvm.exec) (hZ : Z.Warmed39 vm0) {own text : String} {index : Nat} (hown : vm0.findClass own = some m.cls) {k0 : Nat} (hS : s.Since vm0 k0) (hk : k0 ≤ h.size) (w : (Jvm.Cond.stringLink own index text).before a0 Z = true) (wS : ∀ a ∈ Bundle.stringAtoms, a.before a0 Z = true) (eT : T.heap = h) (k : Kt p e below T st0 g) (n : Nat) (hd : decode c.code g.pc = .ok (.ldc index, 2)) (hg : g.method = m) (hn : 4 * text.toList.length ≤ n) (hbig : n ≤ 536870912) (hc : cells + 2 ≤ R.cells) (hl : slots + (n + 4) ≤ R.slots) {n0 : Nat} (O0 : Old Z n0 h) :
  ∃ (a : Addr) (T' : State) (h' : Heap) (k1 : Nat), Stand p l e R (s.setVm T'.vm) m args below meth c T' locs (cells + 2) (slots + (n + 4)) ∧ T'.heap = h' ∧ Ext h h' ∧ Old Z n0 h' ∧ s.Since T'.vm k1 ∧ k1 ≤ h'.size ∧ Z.Warmed39 T'.vm ∧ T'.vm.findClass own = some m.cls ∧ Kt p e below T' st0 { g with pc := g.pc + 2, stack := .ref a :: g.stack } := by
 obtain ⟨a, T', h', k1, X', e', E, hS', hk', hZ', ho', st⟩ := ldcS X hx hZ hown w wS eT hS hk hg hd hn hbig hc hl
 exact ⟨a, T', h', k1, X', e', E, O0.ext E, hS', hk', hZ', ho', fun t q => k t (st t q)⟩
theorem kldcV (X : Stand p l e R (s.setVm s.vm) m args below meth c T [] cells slots) (hx : p.tables.exec = Jvm.exec) (hZ : Z.Warmed39 s.vm) {own text : String} {index : Nat} (hown : s.vm.findClass own = some m.cls) (w : (Jvm.Cond.stringLink own index text).before a0 Z = true) (wS : ∀ a ∈ Bundle.stringAtoms, a.before a0 Z = true) (eT : T.heap = h) (k : Kt p e below T st0 g) (n : Nat) (hd : decode c.code g.pc = .ok (.ldc index, 2)) (hg : g.method = m) {h0 : Heap} (hh : s.heap = h0) {n0 : Nat} (Oh : Old Z n0 h0) (hI : s.vm.interned = Z.vm.interned) (hlit : Jvm.Lit.constHeld Z own index) (hcw : Jvm.Lit.compactW.before a0 Z = true) {vs : List Value} {z : Int32} (ht : (∀ c ∈ text.toList, c.toNat < 256) ∧ text.toList.map (fun c => Value.int (Jvm.Lit.byteI c.toNat.toUInt16)) = vs) (hz : ¬ z < 0) (hl : z.toNatClampNeg = vs.length) (hn : 4 * text.toList.length ≤ n) (hbig : n ≤ 536870912) (hc : cells + 2 ≤ R.cells) (hl' : slots + (n + 4) ≤ R.slots) (O0 : Old Z n0 h) :
  ∃ (a : Addr) (T' : State) (h' : Heap) (k1 : Nat) (b : Addr) (kb : ClassId), Stand p l e R (s.setVm T'.vm) m args below meth c T' [] (cells + 2) (slots + (n + 4)) ∧ T'.heap = h' ∧ Ext h h' ∧ Old Z n0 h' ∧ s.Since T'.vm k1 ∧ k1 ≤ h'.size ∧ Z.Warmed39 T'.vm ∧ T'.vm.findClass own = some m.cls ∧ Exa Z h' a nm19 ∧ Fld Z h' a nm19 "coder" "B" (.int 0) ∧ Fld Z h' a nm19 "value" "[B" (rr b) ∧ Arv Z h' b kb .byte z vs (.int 0) ∧ Lit (s.setVm T'.vm) own index a ∧ Kt p e below T' st0 { g with pc := g.pc + 2, stack := .ref a :: g.stack } := by
 have hib : IB Z s.vm [] := ⟨#[], by rw [hI]; simp, fun q hq => by simp at hq⟩
 obtain ⟨a, T', h', k1, b, kb, X', e', E, hS', hk', hZ', ho', f1, f2, f3, f4, -, -, -, L, st⟩ := ldcSVL X hx hZ hown w wS eT ((State.WarmedH.refl s).since 0) (Nat.zero_le _) (Fr.nil _) (fun b cl q => by rw [hh]; exact Oh.2.2 b cl q) hib (by simp) hlit hcw ht hz hl hg hd hn hbig hc hl'
 exact ⟨a, T', h', k1, b, kb, X', e', E, O0.ext E, hS', hk', hZ', ho', f1, f2, f3, f4, L, fun t q => k t (st t q)⟩
theorem backOfSI {len W : Nat}
  (hM : MFI l Z y bytes ml rt rm [] as' h Q) (hZ : Z.Warmed39 vm0) (hI : vm0.interned = Z.vm.interned) (wc : (Jvm.Cond.code y bytes ml rt).before a0 Z = true) (wz : (Jvm.Cond.initialized y.cls).before a0 Z = true) (hf : rm.frames + 1 ≤ R.frames) (hl : W + (ml + 11) + rm.locals ≤ R.locals) :
  BackS l R p e below (s.setVm vm0) args y len W (fun A a => a = as' ∧ A.U.heap = h ∧ A.cells + rm.cells ≤ R.cells ∧ A.slots + rm.slots ≤ R.slots)
   (fun A _ v B => ∃ L, Q v B.U.heap L ∧ B.locs = A.locs ++ L ∧ B.cells = A.cells + rm.cells ∧ B.slots = A.slots + rm.slots) :=
 BackS.of_freeW (bytes := bytes) (maxL := ml) (ret := rt) (E := fun _ _ o t L k n => k = rm.cells ∧ n = rm.slots ∧ ∃ v, o = .returned v ∧ Q v t.heap L) hM hf hl
  (fun m meth c A a Y hp => have hU : Z.Warmed39 A.U.vm := wtrans (s := s.setVm vm0) hZ Y.warmed
   ⟨by show (Jvm.Cond.and _ .tt).before a A.U = true; rw [Jvm.Cond.before_and, mv hU wc]; rfl, mv hU wc, mv hU wz, hp.2.2.1, hp.2.2.2⟩)
  (fun m meth c A a g mk Y hp => ⟨hp.1, wtrans (s := s.setVm vm0) hZ Y.warmed, hp.2.1, Y.warmed.interned_eq.trans hI⟩) (fun _ _ _ _ _ _ _ _ _ => trivial)
  (fun _ _ _ _ ⟨v, L, h1, h2, h3⟩ => ⟨L, _, _, h3, rfl, rfl, v, h1, h2⟩)
  (fun m meth c A a g mk v t L k n Y hp _ _ ⟨e1, e2, v', e3, e4⟩ => by cases e3; subst e1 e2; exact ⟨L, e4, rfl, rfl, rfl⟩)
end KW
theorem own_len {s : State} {args : Array Value} {t : Term} {a : Addr} {cl : Cell} {ty : FieldType} {n : Int32} (ev : t.eval args s none [] s = some (rr a)) (A : Arr s s.heap a cl ty) (h : (Term.length t).eval args s none [] s = some (.int n)) : cl.slots.size < 2 ^ 31 ∧ cl.slots.size.toInt32 = n := by
 have ha : s.arrayAt? a = some cl := A.fin (Vm.Alike.refl _)
 have hl := SBG.length_lt ev ha h
 rw [len_f ev ha hl] at h
 exact ⟨hl, by simpa using h⟩
theorem own_selp {Z s : State} {a0 args : Array Value} {y : MethodName} {k : Nat} (hZ : Z.Warmed39 s.vm) (wi : (Jvm.Cond.instantiable y.cls k).before a0 Z = true) (wp : (Jvm.Cond.privateMethod y).before a0 Z = true) (wm : (Jvm.Cond.instanceMethod y).before a0 Z = true) (hy : y.cls ≠ "java/lang/invoke/MethodHandle" ∧ y.cls ≠ "java/lang/invoke/VarHandle") : (Jvm.Cond.selects y.cls y y).before args s = true := by
 obtain ⟨c, k, h1, h2, -, h4, -⟩ := Jvm.Cond.instantiable_spec (mv (args := args) hZ wi)
 exact selects_self_of_private h1 h2 (by simp only [Bool.or_eq_false_iff] at h4; exact h4.1) (Jvm.Cond.privateMethod_at (mvP hZ wp (args := #[]))) (mv hZ wm) hy
theorem kpriv {p : Program} {l : Launch} {e : Env} {R : Room} {s : State} {m : MethodId} {args : Array Value} {below : List Frame} {meth : Method} {c : Code} {T : State} {locs : List Loc} {cells slots : Nat} {Z : State} {a0 : Array Value} {h : Heap} {st0 : State} {g : JFrame} {y : MethodName} {bytes : ByteArray} {ml : Nat} {rt : Option FieldType} {rm : Room} {as' : Array Value} {Q : Option Value → Heap → List Loc → Prop}
  (X : Stand p l e R s m args below meth c T locs cells slots) (hx : p.tables.exec = Jvm.exec) (hZ : Z.Warmed39 s.vm) {own C : String} {index kI : Nat} (hown : s.vm.findClass own = some m.cls) (w1 : (Jvm.Cond.methodLink own index y).before a0 Z = true) (wi : (Jvm.Cond.instantiable y.cls kI).before a0 Z = true) (wp : (Jvm.Cond.privateMethod y).before a0 Z = true) (w4 : (Jvm.Cond.instanceMethod y).before a0 Z = true) (w5 : (Jvm.Cond.code y bytes ml rt).before a0 Z = true) (w6 : (Jvm.Cond.initialized y.cls).before a0 Z = true) (hM : MFP l Z y bytes ml rt rm [] as' h Q) (eT : T.heap = h) {b : Addr} (E : Exa Z h b C) (k : Kt p e below T st0 g) {M : Nat} (hml : c.maxLocals = M) {ps : List FieldType} {r : Option FieldType} (pd : parseMethodDescriptor y.desc = some ⟨ps, r⟩) (argsL rest : List Value) (W : Nat) (hd : decode c.code g.pc = .ok (.invokevirtual index, 3))
  (hg : g.method = m) (hsize : g.locals.size = M) (hln : argsL.length = ps.length) (hst : g.stack = argsL.reverse ++ .ref b :: rest) (ha : (Value.ref b :: argsL).toArray = as') (hW : 2 * g.monitorRoom + (rest.map fun v => v.category).sum = W) (hy : y.cls ≠ "java/lang/invoke/MethodHandle" ∧ y.cls ≠ "java/lang/invoke/VarHandle" := by decide) (hf : rm.frames + 1 ≤ R.frames := by decide) (hl : W + (ml + 11) + rm.locals ≤ R.locals := by decide) (hc : cells + rm.cells ≤ R.cells := by decide) (hs : slots + rm.slots ≤ R.slots := by decide) :
  ∃ v T' L', Stand p l e R s m args below meth c T' (locs ++ L') (cells + rm.cells) (slots + rm.slots) ∧ Q v T'.heap L' ∧ Kt p e below T' st0 { g with pc := g.pc + 3, stack := v.toList ++ rest } := by
 obtain ⟨cq, qa, qb⟩ := E.cell
 obtain ⟨v, _, ⟨T', L, k', n'⟩, -, X', ⟨Lc, hQ, e1, e2, e3⟩, st⟩ := X.privateBack hx hown (mvT hZ w1) (mvT hZ w4) (own_selp hZ wi wp w4 hy) (Jvm.Cond.privateMethod_at (mvP hZ wp (args := #[]))) (mvT hZ w5) hy (backOf (W := W) hM hZ w5 w6 hf hl) hg (hsize.trans hml.symm) (Steps.refl _) (a := b) (by rw [eT]; exact qa) qb (argsL := argsL) (rest := rest) (lenOf pd hln) hst (Nat.le_of_eq hW) hd (fun _ _ => ⟨ha, eT, hc, hs⟩)
 dsimp only [Pt.U, Pt.locs, Pt.cells, Pt.slots] at X' e1 e2 e3 st hQ
 subst e1 e2 e3
 exact ⟨v, T', Lc, X', hQ, fun t q => k t (st.trans q)⟩
theorem own_pos (x : Int32) : (0 : Int32) < ((x &&& (1073741823 : Int32)) + (1 : Int32)) := by
 have hb : (x &&& 1073741823).toBitVec.toNat ≤ 1073741823 := by
  simp only [Int32.toBitVec_and, BitVec.toNat_and]
  exact Nat.and_le_right
 have h0 : (x &&& 1073741823).toInt = (x &&& 1073741823).toBitVec.toNat := by
  show (x &&& 1073741823).toBitVec.toInt = _
  rw [BitVec.toInt_eq_toNat_cond, if_pos (by omega)]
 rw [Int32.lt_iff_toInt_lt, Int32.toInt_add]
 have e1 : (0 : Int32).toInt = 0 := by decide
 have e2 : (1 : Int32).toInt = 1 := by decide
 rw [e1, e2, h0, Int.bmod_eq_of_le (by omega) (by omega)]; omega
theorem own_nn (x : Int64) : ¬ ((lcmpW (x &&& (9223372036854775807 : Int64)) (0 : Int64)) < (0 : Int32)) := by
 have hb : (x &&& 9223372036854775807).toBitVec.toNat ≤ 9223372036854775807 := by
  simp only [Int64.toBitVec_and, BitVec.toNat_and]
  exact Nat.and_le_right
 have h0 : (x &&& 9223372036854775807).toInt = (x &&& 9223372036854775807).toBitVec.toNat := by
  show (x &&& 9223372036854775807).toBitVec.toInt = _
  rw [BitVec.toInt_eq_toNat_cond, if_pos (by omega)]
 have e1 : (0 : Int64).toInt = 0 := by decide
 unfold lcmpW
 split
 ·decide
 ·rename_i h
  have : x &&& 9223372036854775807 = 0 := by
   apply Int64.toInt_inj.mp
   rw [gt_iff_lt, Int64.lt_iff_toInt_lt] at h
   rw [e1] at h ⊢; omega
  rw [if_pos this]; decide
section Refs
variable {p : Program} {l : Launch} {e : Env} {R : Room} {s : State} {m : MethodId} {args : Array Value} {below : List Frame} {meth : Method} {c : Code} {T : State} {locs : List Loc} {cells slots : Nat} {Z : State} {a0 : Array Value} {h : Heap}
theorem own_ready (X : Stand p l e R s m args below meth c T locs cells slots) (hZ : Z.Warmed39 s.vm) {own R0 O n d : String} {index : Nat} (hown : s.vm.findClass own = some m.cls) (w : (Jvm.Cond.fieldRef own index R0 n d).before a0 Z = true) (via : Via Z R0 O n d) {cf i : Nat} {k : Class} {f : Field} (h2 : Z.fieldFound? O n d = some (cf, k, i, f)) : T.vm.fieldReady m.cls index cf f := by
 have hW : Z.Warmed39 T.vm := wtrans hZ X.warmed
 have w1 := Jvm.Cond.fieldRef_warmed39 hW w
 have hcur : (Z.setVm T.vm).vm.findClass own = some m.cls := by
  show T.vm.findClass own = _
  rw [X.warmed.alike.findClass]; exact hown
 obtain ⟨c', k', i', f', q1, q2⟩ := Jvm.Cond.fieldRef_spec hcur w1
 obtain ⟨k2, q3, -⟩ := State.fieldFound?_setVm (s := Z) hW.alike (via _ h2)
 cases q1.symm.trans q3
 exact q2
theorem own_getFR (X : Stand p l e R s m args below meth c T locs cells slots) (hx : p.tables.exec = Jvm.exec) (hZ : Z.Warmed39 s.vm) {own R0 O n d : String} {index : Nat} (hown : s.vm.findClass own = some m.cls) (w : (Jvm.Cond.fieldRef own index R0 n d).before a0 Z = true) (via : Via Z R0 O n d) (eT : T.heap = h) {a : Addr} {v : Value} (F : Fld Z h a O n d v) {g : JFrame} (hg : g.method = m) {rest : List Value} (hs : g.stack = .ref a :: rest) (hd : decode c.code g.pc = .ok (.getfield index, 3)) :
  ∀ target, Steps p.tables e below (T.setTop { g with pc := g.pc + 3, stack := v :: rest }) target → Steps p.tables e below (T.setTop g) target := by
 intro target hr
 obtain ⟨cell, cf, k, i, f, h1, h2, h3, h4, -, -, h7⟩ := F
 have q2 := own_ready X hZ hown w via h2
 subst hg
 jvm_step X.here [hx, hd, getfield.wp_ready (e := e) (s := T) (f := g) X.here.top q2 h3 hs (show T.heap[a]? = some cell by rw [eT]; exact h1) h4 h7]
 exact hr
theorem ldF {t : State} {g : JFrame} (X : Stand p l e R s m args below meth c T locs cells slots) (hx : p.tables.exec = Jvm.exec) (hZ : Z.Warmed39 s.vm) {own R0 O n d : String} {index : Nat} (hown : s.vm.findClass own = some m.cls) (w : (Jvm.Cond.fieldRef own index R0 n d).before a0 Z = true) (via : Via Z R0 O n d) (eT : T.heap = h) {a : Addr} {v : Value} (F : Fld Z h a O n d v) (hg : g.method = m) {rest : List Value} (hs : g.stack = .ref a :: rest) (hd : decode c.code g.pc = .ok (.getfield index, 3)) (q : Steps p.tables e below (T.setTop { g with pc := g.pc + 3, stack := v :: rest }) t) : Steps p.tables e below (T.setTop g) t := own_getFR X hx hZ hown w via eT F hg hs hd t q
theorem own_putFR {st0 : State} {g : JFrame} (X : Stand p l e R s m args below meth c T locs cells slots) (hx : p.tables.exec = Jvm.exec) (hZ : Z.Warmed39 s.vm) {own R0 O n d C : String} {index kk : Nat} (ty : FieldType) (hown : s.vm.findClass own = some m.cls) (w : (Jvm.Cond.fieldRef own index R0 n d).before a0 Z = true) (via : Via Z R0 O n d) (eT : T.heap = h) {a : Addr} {v old : Value} (F : Fld Z h a O n d old) (E : Exa Z h a C) (L : (Jvm.Cond.lays C O n d).before a0 Z = true) (wi : (Jvm.Cond.instantiable C kk).before a0 Z = true)
  (kt : Kt p e below T st0 g) (hg : g.method = m) {rest : List Value} (hs : g.stack = v :: .ref a :: rest) (hd : decode c.code g.pc = .ok (.putfield index, 3)) (hty : parseFieldDescriptor d = some ty) (hn : narrow ty v = v) (hf : fits ty v = true) {n0 : Nat} (O0 : Old Z n0 h) (N : Fr n0 locs) (ge : n0 ≤ a) :
  ∃ T' h', Stand p l e R s m args below meth c T' (locs ++ [⟨a, Jvm.RoadKit.slotOf Z O n d⟩]) cells slots ∧ T'.heap = h' ∧ Wr h h' a (Jvm.RoadKit.slotOf Z O n d) v ∧ Fld Z h' a O n d v ∧ Old Z n0 h' ∧ Fr n0 (locs ++ [⟨a, Jvm.RoadKit.slotOf Z O n d⟩]) ∧ Kt p e below T' st0 { g with pc := g.pc + 3, stack := rest } := by
 have F0 := F
 obtain ⟨cell, cf, k, i, f, h1, h2, h3, h4, h5, -, h7⟩ := F
 obtain ⟨cell', kc, e1, e2, e3, -⟩ := E
 cases h1.symm.trans e1
 obtain ⟨c1, k1, cf1, kf1, i1, f1, a1, a2, a3, -, b5, -, a6, -⟩ := Jvm.Cond.lays_spec L
 cases h2.symm.trans a3
 cases e2.symm.trans a1
 obtain ⟨c2, k2, i1, i2, i3, -⟩ := Jvm.Cond.instantiable_spec wi
 cases e2.symm.trans i1
 cases a2.symm.trans i2
 have ht := (State.fieldFound?_type h2 hty).2
 have hW : Z.Warmed39 T.vm := wtrans hZ X.warmed
 have hfit : Z.fitsSlot cell.cls cell.vm f.slot v = true := by
  have q : Z.slotType? cell.cls cell.vm f.slot = some ty := by
   simp only [State.slotType?, a2, Option.bind_eq_bind, Option.bind_some, i3]
   cases hq : cell.vm <;> first | (rw [hq] at h5; exact Bool.noConfusion h5) | (rw [a6, ht])
  simp [State.fitsSlot, q, hf]
 have hfit' : T.fitsSlot cell.cls cell.vm f.slot v = true := by rw [← State.fitsSlot_setVm hW.alike] at hfit; exact hfit
 have hlt := (Array.getElem?_eq_some_iff.mp h7).1
 have es : Jvm.RoadKit.slotOf Z O n d = f.slot := by simp [Jvm.RoadKit.slotOf, h2]
 obtain ⟨X', st⟩ := X.putfieldReady hx (own_ready X hZ hown w via h2) h3 (Or.inl b5) (show T.heap[a]? = some cell by rw [eT]; exact h1) h4 hlt (by rw [ht]; exact hn) hfit' hg hs hd
 have W : Wr h (T.setCell a (cell.setSlot f.slot v)).heap a (Jvm.RoadKit.slotOf Z O n d) v := by
  rw [es]; exact ⟨cell, h1, h5, hlt, by rw [← eT]; rfl⟩
 have X2 : Stand p l e R s m args below meth c (T.setCell a (cell.setSlot f.slot v)) (locs ++ [⟨a, Jvm.RoadKit.slotOf Z O n d⟩]) cells slots := by rw [es]; exact X'
 exact ⟨_, _, X2, rfl, W, F0.same W, O0.wr W ge, Fr.snoc X2 N ge, fun t q => kt t (st t q)⟩
theorem own_specialRef (X : Stand p l e R s m args below meth c T locs cells slots) (hexec : p.tables.exec = Jvm.exec) {own : String} {index : Nat} {y : MethodName} (hy1 : y.name = "<init>") (hown : s.vm.findClass own = some m.cls) (hZ : Z.Warmed39 s.vm) (w : (Jvm.Cond.methodRef own index y).before a0 Z = true) (wm : (Jvm.Cond.instanceMethod y).before a0 Z = true) (hinst : (Jvm.Cond.instanceMethod y).before args s = true)
  {bytes : ByteArray} {maxL : Nat} (hcode : (Jvm.Cond.code y bytes maxL none).before args s = true) (hy : y.cls ≠ "java/lang/invoke/MethodHandle" ∧ y.cls ≠ "java/lang/invoke/VarHandle")
  {W : Nat} {Pre : Pt → Array Value → Prop} {Post : Pt → Array Value → Option Value → Pt → Prop} (hK : Back l R p e below s args y 3 W Pre Post)
  {g : JFrame} (hg : g.method = m) (hsize : g.locals.size = c.maxLocals) {s₀ : State} (hcome : Steps p.tables e below s₀ (T.setTop g)) {a : Addr} {argsL rest : List Value}
  (hlen : ∀ sig, parseMethodDescriptor y.desc = some sig → argsL.length = sig.parameters.length) (hstack : g.stack = argsL.reverse ++ .ref a :: rest) (hW : 2 * g.monitorRoom + (rest.map fun v => v.category).sum ≤ W)
  (hdg : decode c.code g.pc = .ok (.invokespecial index, 3)) (hpre : ∀ vm₁, s.WarmedH vm₁ → Pre ⟨T.setVm vm₁, locs, cells, slots⟩ (.ref a :: argsL).toArray) :
  ∃ (v : Option Value) (vm₁ : Vm) (B : Pt), s.WarmedH vm₁ ∧ Stand p l e R s m args below meth c B.U B.locs B.cells B.slots ∧ Post ⟨T.setVm vm₁, locs, cells, slots⟩ (.ref a :: argsL).toArray v B ∧
   Steps p.tables e below s₀ (B.U.setTop { g with pc := g.pc + 3, stack := v.toList ++ rest }) := by
 obtain ⟨obj, methO, hnO, hmO, hstO, habO⟩ := Jvm.Cond.instanceMethod_spec hinst
 obtain ⟨methO', cO, hmO', hcO, hbO, hlO, -, hlockO, -, hsigO⟩ := Jvm.Cond.code_spec hnO hcode
 cases hmO.symm.trans hmO'
 obtain ⟨kO, hkO, hnameO⟩ := className_of_methodNamed hnO
 obtain ⟨hnameMO, hdescO⟩ := name_of_methodNamed hnO hmO
 have hWT : Z.Warmed39 T.vm := wtrans hZ X.warmed
 obtain ⟨objZ, -, hnZ, -, -, -⟩ := Jvm.Cond.instanceMethod_spec wm
 have w1 := Jvm.Cond.methodRef_warmed39 hWT hnZ hy w
 have hcur : (Z.setVm T.vm).vm.findClass own = some m.cls := by
  show T.vm.findClass own = _
  rw [X.warmed.alike.findClass]; exact hown
 obtain ⟨r0, c', hfd, hready, hfc, hnr⟩ := Jvm.Cond.methodRef_named e hcur w1
 have hnT : T.methodNamed? y = some obj := X.named hnO
 have hfT : T.methodFound? y.cls y.name y.desc = some obj := State.methodFound?_of_named hnT hy
 have hr0 : r0 = obj := Option.some.inj ((show T.methodFound? y.cls y.name y.desc = some r0 from hfd).symm.trans hfT)
 subst hr0
 obtain ⟨kO₂, hkO₂, heO₂⟩ := X.warmed.alike.2.2 _ _ hkO
 have hmO₂ : T.vm.method? r0 = some methO := by rw [X.warmed.alike.method?]; exact hmO
 have hcls : c' = r0.cls := Option.some.inj ((show T.vm.findClass y.cls = some c' from hfc).symm.trans (findClass_of_methodNamed hnT))
 subst hcls
 have hfound : lookupSpecial T.vm r0.cls "<init>" methO.desc = .method r0 := by
  rw [X.warmed.alike.lookupSpecial, hdescO, ← hy1]; exact lookupSpecial_of_named hnO hmO hstO
 have hstep : ∀ target, (∀ acts, Steps p.tables e below (doInvoke e (T.setTop { g with stack := rest }) acts r0 (.ref a :: argsL).toArray).1 target) → Steps p.tables e below (T.setTop g) target := by
  intro target hrest
  subst hg
  jvm_step X.here [hexec, hdg, invokespecial.wp_init (e := e) (s := T) (k := kO₂) (meth := methO) (m := r0) (a := a) (args := argsL) (rest := rest) (f := g) X.here.top hnr hready hkO₂ hmO₂ (by rw [hnameMO]; exact hy1) hstO habO hfound (hlen _ hsigO) hstack]
  exact hrest
 have hWs : s.WarmedH T.vm := X.warmed
 obtain ⟨v, B, X', hpost, hsteps⟩ := hK m meth c ⟨T.setVm T.vm, locs, cells, slots⟩ { g with stack := rest } (.invokespecial index) r0 (.ref a :: argsL).toArray X hg hsize hdg hW (X.named hnO) (hpre T.vm hWs)
 exact ⟨v, T.vm, B, hWs, X', hpost, (hcome.trans (hstep _ fun acts => by rw [doInvoke_state]; exact Steps.refl _)).trans hsteps⟩
theorem kspecR {st0 : State} {g : JFrame} {y : MethodName} {bytes : ByteArray} {ml : Nat} {rm : Room} {as' : Array Value} {Q : Option Value → Heap → List Loc → Prop} (X : Stand p l e R s m args below meth c T locs cells slots) (hx : p.tables.exec = Jvm.exec) (hZ : Z.Warmed39 s.vm) {own : String} {index : Nat} (hown : s.vm.findClass own = some m.cls) (w1 : (Jvm.Cond.methodRef own index y).before a0 Z = true) (w2 : (Jvm.Cond.instanceMethod y).before a0 Z = true) (w3 : (Jvm.Cond.initialized y.cls).before a0 Z = true) (w4 : (Jvm.Cond.code y bytes ml none).before a0 Z = true) (hM : MFP l Z y bytes ml none rm [] as' h Q) (eT : T.heap = h) (k : Kt p e below T st0 g) {M : Nat} (hml : c.maxLocals = M) {ps : List FieldType} {r : Option FieldType} (pd : parseMethodDescriptor y.desc = some ⟨ps, r⟩) (a : Addr) (argsL rest : List Value) (W : Nat) (hd : decode c.code g.pc = .ok (.invokespecial index, 3))
  (hg : g.method = m) (hsize : g.locals.size = M) (hln : argsL.length = ps.length) (hst : g.stack = argsL.reverse ++ .ref a :: rest) (ha : (Value.ref a :: argsL).toArray = as') (hW : 2 * g.monitorRoom + (rest.map fun v => v.category).sum = W) (hy1 : y.name = "<init>" := by rfl) (hy : y.cls ≠ "java/lang/invoke/MethodHandle" ∧ y.cls ≠ "java/lang/invoke/VarHandle" := by decide) (hf : rm.frames + 1 ≤ R.frames := by decide) (hl : W + (ml + 11) + rm.locals ≤ R.locals := by decide) (hc : cells + rm.cells ≤ R.cells := by decide) (hs : slots + rm.slots ≤ R.slots := by decide) :
  ∃ v T' L', Stand p l e R s m args below meth c T' (locs ++ L') (cells + rm.cells) (slots + rm.slots) ∧ Q v T'.heap L' ∧ Kt p e below T' st0 { g with pc := g.pc + 3, stack := v.toList ++ rest } := by
 obtain ⟨v, _, ⟨T', L, k', n'⟩, -, X', ⟨Lc, hQ, e1, e2, e3⟩, st⟩ := own_specialRef X hx hy1 hown hZ w1 w2 (mvT hZ w2) (mvT hZ w4) hy (backOf (W := W) hM hZ w4 w3 hf hl) hg (hsize.trans hml.symm) (Steps.refl _) (a := a) (argsL := argsL) (rest := rest) (lenOf pd hln) hst (Nat.le_of_eq hW) hd (fun _ _ => ⟨ha, eT, hc, hs⟩)
 dsimp only [Pt.U, Pt.locs, Pt.cells, Pt.slots] at X' e1 e2 e3 st hQ
 subst e1 e2 e3
 exact ⟨v, T', Lc, X', hQ, fun t q => k t (st.trans q)⟩
end Refs
theorem pn_com_example_lexchange_lexchange_PriceQueue_Part : plainName nm2 = true := by first | (simp [plainName, overriddenIn]; done) | decide +kernel
theorem d0_0 : decode prog_36_method_1_code 0 = .ok (.aload_n 0, 1) := by decide +kernel
theorem d0_1 : decode prog_36_method_1_code 1 = .ok (.invokespecial 1, 3) := by decide +kernel
theorem d0_4 : decode prog_36_method_1_code 4 = .ok (.return_, 1) := by decide +kernel
theorem ef_part (m : MethodId) (x_ : Addr) : entryFrame m #[(rr x_)] 1 = mkF m 0 #[vr x_] [] := by first | (simp [entryFrame, mkF, argsToLocals, Value.category]; done) | rfl
def Q_part (Z : State) (x_ : Addr) (h0 : Heap) (n0 : Nat) (v : Option Value) (h : Heap) (L : List Loc) : Prop := v = none ∧ Fr n0 L ∧ h = h0
set_option maxRecDepth 65536 in
set_option maxHeartbeats 40000000 in
theorem rm_part (l : Launch) (Z : State) (a0 : Array Value) (hw : HW Z a0) (ws : List Jvm.Cond) (x_ : Addr) (h0 : Heap) (n0 : Nat) (O0 : Old Z n0 h0) :
  MFP l Z (⟨nm2, "<init>", "()V"⟩ : MethodName) prog_36_method_1_code 1 none ({ frames := 1, cells := 0, slots := 0, locals := 12 } : Room) ws #[(rr x_)] h0 (Q_part Z x_ h0 n0) := by
 refine MetFree.of_bodySF (plainFor_of_name pn_com_example_lexchange_lexchange_PriceQueue_Part) hisR ?_
 intro p e s m args below meth c s₁ Bd hml0 hP hK
 obtain ⟨rfl, hZ, hh⟩ := hP
 have hx := Bd.exec
 have hby := Bd.bytes
 have hml : c.maxLocals = 1 := hml0
 have hown : s.vm.findClass nm2 = some m.cls := findClass_of_methodNamed Bd.named
 have hnm := (name_of_methodNamed Bd.named Bd.method).1
 have X0 : Stand p l e ({ frames := 1, cells := 0, slots := 0, locals := 12 } : Room) s m #[(rr x_)] below meth c s₁ [] 0 0 := Stand.of_body Bd
 have e0 : s₁.heap = h0 := by rw [← hh, Bd.state]; rfl
 have N0 := Fr.nil n0
 have kp0 : Keep h0 h0 [] := Keep.refl _ _
 have c0 : ∀ t, S_ p e below s₁ m 0 #[vr x_] [] t → Steps p.tables e below (s₁.setTop (entryFrame m #[(rr x_)] 1)) t := fun t k => castTop (ef_part m x_) k
 generalize s₁.setTop (entryFrame m #[(rr x_)] 1) = st0 at c0 ⊢
 replace c0 : Kt p e below s₁ st0 (mkF m 0 #[vr x_] []) := c0
 have c1 : Kt p e below s₁ st0 (mkF m 1 #[vr x_] [(rr x_)]) := fun t k => by
  refine c0 t ?_
  show S_ p e below s₁ m 0 #[vr x_] [] t
  refine XS.aloadN X0.here hx rfl (hb hby d0_0) rfl rfl ?_
  exact k
 obtain ⟨T2, X2, e2, c2⟩ := kinit X0 hx hZ hown (w17 hw) (w9 hw) (w10 hw) e0 c1 rfl hml rfl rfl (hb hby d0_1) 0 (own_w rfl) (by decide) (by decide)
 obtain ⟨fs, hr, hrun, hended, hW, hsame⟩ := X2.leave (v := none) (fun _ => rfl)
 refine ⟨_, _, c2 _ ?_, hrun, hended, _, _, rfl, ?_, ⟨_, rfl⟩, hW, hsame.mono (by decide) (by decide)⟩
 ·show S_ p e below T2 m 4 #[vr x_] [] _
  exact X2.returnOut hx Bd.returns (hb hby d0_4) hr
 ·show Q_part Z x_ h0 n0 _ T2.heap _
  rw [e2]
  exact ⟨rfl, N0, rfl⟩
theorem pn_com_example_lexchange_lexchange_PriceQueue : plainName nm3 = true := by first | (simp [plainName, overriddenIn]; done) | decide +kernel
theorem d1_0 : decode prog_34_method_1_code 0 = .ok (.aload_n 0, 1) := by decide +kernel
theorem d1_1 : decode prog_34_method_1_code 1 = .ok (.invokespecial 1, 3) := by decide +kernel
theorem d1_4 : decode prog_34_method_1_code 4 = .ok (.aload_n 0, 1) := by decide +kernel
theorem d1_5 : decode prog_34_method_1_code 5 = .ok (.new 7, 3) := by decide +kernel
theorem d1_8 : decode prog_34_method_1_code 8 = .ok (.dup, 1) := by decide +kernel
theorem d1_9 : decode prog_34_method_1_code 9 = .ok (.invokespecial 9, 3) := by decide +kernel
theorem pd_prV : parseMethodDescriptor "()V" = some ⟨[], none⟩ := by decide +kernel
theorem d1_12 : decode prog_34_method_1_code 12 = .ok (.putfield 10, 3) := by decide +kernel
theorem d1_15 : decode prog_34_method_1_code 15 = .ok (.aload_n 0, 1) := by decide +kernel
theorem d1_16 : decode prog_34_method_1_code 16 = .ok (.new 7, 3) := by decide +kernel
theorem d1_19 : decode prog_34_method_1_code 19 = .ok (.dup, 1) := by decide +kernel
theorem d1_20 : decode prog_34_method_1_code 20 = .ok (.invokespecial 9, 3) := by decide +kernel
theorem d1_23 : decode prog_34_method_1_code 23 = .ok (.putfield 16, 3) := by decide +kernel
theorem d1_26 : decode prog_34_method_1_code 26 = .ok (.aload_n 0, 1) := by decide +kernel
theorem d1_27 : decode prog_34_method_1_code 27 = .ok (.lload_n 1, 1) := by decide +kernel
theorem d1_28 : decode prog_34_method_1_code 28 = .ok (.putfield 19, 3) := by decide +kernel
theorem d1_31 : decode prog_34_method_1_code 31 = .ok (.return_, 1) := by decide +kernel
theorem ef_pqinit (m : MethodId) (x_ : Addr) (j_ : Int64) : entryFrame m #[(rr x_), (.long j_)] 3 = mkF m 0 #[vr x_, vj j_, .second] [] := by first | (simp [entryFrame, mkF, argsToLocals, Value.category]; done) | rfl
def Q_pqinit (Z : State) (x_ : Addr) (j_ : Int64) (h0 : Heap) (n0 : Nat) (v : Option Value) (h : Heap) (L : List Loc) : Prop := v = none ∧ Fr n0 L ∧ Keep h0 h [x_] ∧ ∃ (p_ : Addr), ∃ (q_ : Addr), Fld Z h x_ nm3 "shown" nm5 (rr p_) ∧ Fld Z h x_ nm3 "hidden" nm5 (rr q_) ∧ Exa Z h p_ nm2 ∧ Exa Z h q_ nm2 ∧ Fld Z h p_ nm2 "head" nm1 .null ∧ Fld Z h p_ nm2 "tail" nm1 .null ∧ Fld Z h q_ nm2 "head" nm1 .null ∧ Fld Z h q_ nm2 "tail" nm1 .null ∧ h0.size ≤ p_ ∧ h0.size ≤ q_ ∧ p_ ≠ q_
set_option maxRecDepth 65536 in
set_option maxHeartbeats 40000000 in
theorem rm_pqinit (l : Launch) (Z : State) (a0 : Array Value) (hw : HW Z a0) (ws : List Jvm.Cond) (x_ : Addr) (j_ : Int64) (h0 : Heap) (n0 : Nat) (O0 : Old Z n0 h0) (E0_ : Exa Z h0 x_ nm3) (F1_ : Fld Z h0 x_ nm3 "shown" nm5 .null) (F2_ : Fld Z h0 x_ nm3 "hidden" nm5 .null) (F3_ : Fld Z h0 x_ nm3 "price" "J" (.long (0 : Int64))) (G4_ : n0 ≤ x_) :
  MFP l Z (⟨nm3, "<init>", "(J)V"⟩ : MethodName) prog_34_method_1_code 3 none ({ frames := 2, cells := 2, slots := 4, locals := 26 } : Room) ws #[(rr x_), (.long j_)] h0 (Q_pqinit Z x_ j_ h0 n0) := by
 refine MetFree.of_bodySF (plainFor_of_name pn_com_example_lexchange_lexchange_PriceQueue) hisR ?_
 intro p e s m args below meth c s₁ Bd hml0 hP hK
 obtain ⟨rfl, hZ, hh⟩ := hP
 have hx := Bd.exec
 have hby := Bd.bytes
 have hml : c.maxLocals = 3 := hml0
 have hown : s.vm.findClass nm3 = some m.cls := findClass_of_methodNamed Bd.named
 have hnm := (name_of_methodNamed Bd.named Bd.method).1
 have X0 : Stand p l e ({ frames := 2, cells := 2, slots := 4, locals := 26 } : Room) s m #[(rr x_), (.long j_)] below meth c s₁ [] 0 0 := Stand.of_body Bd
 have e0 : s₁.heap = h0 := by rw [← hh, Bd.state]; rfl
 have N0 := Fr.nil n0
 have kp0 : Keep h0 h0 [x_] := Keep.refl _ _
 have c0 : ∀ t, S_ p e below s₁ m 0 #[vr x_, vj j_, .second] [] t → Steps p.tables e below (s₁.setTop (entryFrame m #[(rr x_), (.long j_)] 3)) t := fun t k => castTop (ef_pqinit m x_ j_) k
 generalize s₁.setTop (entryFrame m #[(rr x_), (.long j_)] 3) = st0 at c0 ⊢
 replace c0 : Kt p e below s₁ st0 (mkF m 0 #[vr x_, vj j_, .second] []) := c0
 have c1 : Kt p e below s₁ st0 (mkF m 1 #[vr x_, vj j_, .second] [(rr x_)]) := fun t k => by
  refine c0 t ?_
  show S_ p e below s₁ m 0 #[vr x_, vj j_, .second] [] t
  refine XS.aloadN X0.here hx rfl (hb hby d1_0) rfl rfl ?_
  exact k
 obtain ⟨T2, X2, e2, c2⟩ := kinit X0 hx hZ hown (w8 hw) (w9 hw) (w10 hw) e0 c1 rfl hml rfl rfl (hb hby d1_1) 0 (own_w rfl) (by decide) (by decide)
 have c3 : Kt p e below T2 st0 (mkF m 5 #[vr x_, vj j_, .second] [(rr x_)]) := fun t k => by
  refine c2 t ?_
  show S_ p e below T2 m 4 #[vr x_, vj j_, .second] [] t
  refine XS.aloadN X2.here hx rfl (hb hby d1_4) rfl rfl ?_
  exact k
 obtain ⟨b4, T4, h4, z4, g4, X4, e4, E4, o5, A4, D4, U4, c4⟩ := knew X2 hx hZ hown (w11 hw) (w12 hw) (w13 hw) e2 c3 rfl (hb hby d1_5) (by decide) (by decide) O0
 have kp6 := kp0.ext E4
 have z7 := Nat.le_trans kp0.1 z4
 have c8 : Kt p e below T4 st0 (mkF m 9 #[vr x_, vj j_, .second] [(rr b4), (rr b4), (rr x_)]) := fun t k => by
  refine c4 t ?_
  show S_ p e below T4 m 8 #[vr x_, vj j_, .second] [(rr b4), (rr x_)] t
  refine XS.dup X4.here hx rfl (hb hby d1_8) rfl rfl ?_
  exact k
 obtain ⟨_, T9, L9, X9, hQ9, c9⟩ := kspecR X4 hx hZ hown (w14 hw) (w15 hw) (w13 hw) (w16 hw) (rm_part l Z a0 hw [] b4 h4 n0 o5 ) e4 c8 hml pd_prV b4 [] [(rr b4), (rr x_)] 2 (hb hby d1_9) rfl rfl rfl rfl rfl rfl
 obtain ⟨rfl, N10q, K11⟩ := hQ9
 have N10 := Fr.app N0 N10q
 obtain ⟨T12, h12, X12, e12, W12, f13, o15, N14, c12⟩ := kput X9 hx hZ (.object nm2) hown (host := "") (Or.inl (w18 hw)) Via.refl K11 (F1_.ext E4) (E0_.ext E4) (Or.inr ⟨(w19 hw), rfl, hnm⟩) (w3 hw) c9 rfl rfl (hb hby d1_12) (by decide) rfl rfl o5 N10 G4_
 have kp16 := kp6.wr W12 (Or.inl (List.mem_of_getElem? (i := 0) rfl))
 have c17 : Kt p e below T12 st0 (mkF m 16 #[vr x_, vj j_, .second] [(rr x_)]) := fun t k => by
  refine c12 t ?_
  show S_ p e below T12 m 15 #[vr x_, vj j_, .second] [] t
  refine XS.aloadN X12.here hx rfl (hb hby d1_15) rfl rfl ?_
  exact k
 obtain ⟨b18, T18, h18, z18, g18, X18, e18, E18, o19, A18, D18, U18, c18⟩ := knew X12 hx hZ hown (w11 hw) (w12 hw) (w13 hw) e12 c17 rfl (hb hby d1_16) (by decide) (by decide) o15
 have kp20 := kp16.ext E18
 have z21 := Nat.le_trans kp16.1 z18
 have c22 : Kt p e below T18 st0 (mkF m 20 #[vr x_, vj j_, .second] [(rr b18), (rr b18), (rr x_)]) := fun t k => by
  refine c18 t ?_
  show S_ p e below T18 m 19 #[vr x_, vj j_, .second] [(rr b18), (rr x_)] t
  refine XS.dup X18.here hx rfl (hb hby d1_19) rfl rfl ?_
  exact k
 obtain ⟨_, T23, L23, X23, hQ23, c23⟩ := kspecR X18 hx hZ hown (w14 hw) (w15 hw) (w13 hw) (w16 hw) (rm_part l Z a0 hw [] b18 h18 n0 o19 ) e18 c22 hml pd_prV b18 [] [(rr b18), (rr x_)] 2 (hb hby d1_20) rfl rfl rfl rfl rfl rfl
 obtain ⟨rfl, N24q, K25⟩ := hQ23
 have N24 := Fr.app N14 N24q
 have f26 := ((F2_.ext E4).other W12 (Or.inr (slot_ne (Or.inr (w21 hw)) (Or.inr (w19 hw)) (by decide) (t := (.object nm2)) (t' := (.object nm2)) (by decide) (by decide)))).ext E18
 obtain ⟨T27, h27, X27, e27, W27, f28, o30, N29, c27⟩ := kput X23 hx hZ (.object nm2) hown (host := "") (Or.inl (w20 hw)) Via.refl K25 f26 (((E0_.ext E4).wr W12).ext E18) (Or.inr ⟨(w21 hw), rfl, hnm⟩) (w3 hw) c23 rfl rfl (hb hby d1_23) (by decide) rfl rfl o19 N24 G4_
 have kp31 := kp20.wr W27 (Or.inl (List.mem_of_getElem? (i := 0) rfl))
 have f32 := (((F3_.ext E4).other W12 (Or.inr (slot_ne (Or.inr (w23 hw)) (Or.inr (w19 hw)) (by decide) (t := .long) (t' := (.object nm2)) (by decide) (by decide)))).ext E18).other W27 (Or.inr (slot_ne (Or.inr (w23 hw)) (Or.inr (w21 hw)) (by decide) (t := .long) (t' := (.object nm2)) (by decide) (by decide)))
 have c33 : Kt p e below T27 st0 (mkF m 28 #[vr x_, vj j_, .second] [(.long j_), (rr x_)]) := fun t k => by
  refine c27 t ?_
  show S_ p e below T27 m 26 #[vr x_, vj j_, .second] [] t
  refine XS.aloadN X27.here hx rfl (hb hby d1_26) rfl rfl ?_
  refine XS.lloadN X27.here hx rfl (hb hby d1_27) rfl ?_
  exact k
 obtain ⟨T34, h34, X34, e34, W34, f35, o37, N36, c34⟩ := kput X27 hx hZ .long hown (host := "") (Or.inl (w22 hw)) Via.refl e27 f32 ((((E0_.ext E4).wr W12).ext E18).wr W27) (Or.inr ⟨(w23 hw), rfl, hnm⟩) (w3 hw) c33 rfl rfl (hb hby d1_28) (by decide) rfl rfl o30 N29 G4_
 have kp38 := kp31.wr W34 (Or.inl (List.mem_of_getElem? (i := 0) rfl))
 have f39 := ((f13.ext E18).other W27 (Or.inr (slot_ne (Or.inr (w19 hw)) (Or.inr (w21 hw)) (by decide) (t := (.object nm2)) (t' := (.object nm2)) (by decide) (by decide)))).other W34 (Or.inr (slot_ne (Or.inr (w19 hw)) (Or.inr (w23 hw)) (by decide) (t := (.object nm2)) (t' := .long) (by decide) (by decide)))
 have f40 := f28.other W34 (Or.inr (slot_ne (Or.inr (w21 hw)) (Or.inr (w23 hw)) (by decide) (t := (.object nm2)) (t' := .long) (by decide) (by decide)))
 have q41 := Ne.symm (Nat.ne_of_lt (Nat.lt_of_lt_of_le E0_.lt z4))
 have f42 := ((((show Fld Z h4 b4 nm2 "head" nm1 .null from D4 (Or.inl (w93 hw)) (ty := (.object nm0)) (by decide)).other W12 (Or.inl q41)).ext E18).other W27 (Or.inl q41)).other W34 (Or.inl q41)
 have f43 := ((((show Fld Z h4 b4 nm2 "tail" nm1 .null from D4 (Or.inl (w111 hw)) (ty := (.object nm0)) (by decide)).other W12 (Or.inl q41)).ext E18).other W27 (Or.inl q41)).other W34 (Or.inl q41)
 have q44 := Ne.symm (Nat.ne_of_lt (Nat.lt_of_lt_of_le ((E0_.ext E4).wr W12).lt z18))
 have f45 := ((show Fld Z h18 b18 nm2 "head" nm1 .null from D18 (Or.inl (w93 hw)) (ty := (.object nm0)) (by decide)).other W27 (Or.inl q44)).other W34 (Or.inl q44)
 have f46 := ((show Fld Z h18 b18 nm2 "tail" nm1 .null from D18 (Or.inl (w111 hw)) (ty := (.object nm0)) (by decide)).other W27 (Or.inl q44)).other W34 (Or.inl q44)
 have q47 := Nat.ne_of_lt (Nat.lt_of_lt_of_le (A4.wr W12).lt z18)
 obtain ⟨fs, hr, hrun, hended, hW, hsame⟩ := X34.leave (v := none) (fun _ => rfl)
 refine ⟨_, _, c34 _ ?_, hrun, hended, _, _, rfl, ?_, ⟨_, rfl⟩, hW, hsame.mono (by decide) (by decide)⟩
 ·show S_ p e below T34 m 31 #[vr x_, vj j_, .second] [] _
  exact X34.returnOut hx Bd.returns (hb hby d1_31) hr
 ·show Q_pqinit Z x_ j_ h0 n0 _ T34.heap _
  rw [e34]
  exact ⟨rfl, N36, kp38, b4, b18, f39, f40, ((((A4.wr W12).ext E18).wr W27).wr W34), ((A18.wr W27).wr W34), f42, f43, f45, f46, z7, z21, q47⟩
theorem pn_java_util_OptionalInt : plainName nm6 = true := by first | (simp [plainName, overriddenIn]; done) | decide +kernel
theorem d2_0 : decode jdk_2649_method_2_code 0 = .ok (.getstatic 17, 3) := by decide +kernel
theorem d2_3 : decode jdk_2649_method_2_code 3 = .ok (.areturn, 1) := by decide +kernel
theorem ef_oiempty (m : MethodId) : entryFrame m #[] 0 = mkF m 0 #[] [] := by first | (simp [entryFrame, mkF, argsToLocals, Value.category]; done) | rfl
def Q_oiempty (Z : State) (w_ : Addr) (h0 : Heap) (n0 : Nat) (v : Option Value) (h : Heap) (L : List Loc) : Prop := v = some (rr w_) ∧ Fr n0 L ∧ h = h0
set_option maxRecDepth 65536 in
set_option maxHeartbeats 40000000 in
theorem rm_oiempty (l : Launch) (Z : State) (a0 : Array Value) (hw : HW Z a0) (ws : List Jvm.Cond) (w_ : Addr) (h0 : Heap) (n0 : Nat) (O0 : Old Z n0 h0) (ZS0_ : Sta Z Z.heap nm6 "EMPTY" nm12 (rr w_)) :
  MFP l Z (⟨nm6, "empty", "()Ljava/util/OptionalInt;"⟩ : MethodName) jdk_2649_method_2_code 0 (some (.object nm6)) ({ frames := 0, cells := 0, slots := 0, locals := 0 } : Room) ws #[] h0 (Q_oiempty Z w_ h0 n0) := by
 refine MetFree.of_bodySF (plainFor_of_name pn_java_util_OptionalInt) hisR ?_
 intro p e s m args below meth c s₁ Bd hml0 hP hK
 obtain ⟨rfl, hZ, hh⟩ := hP
 have hx := Bd.exec
 have hby := Bd.bytes
 have hml : c.maxLocals = 0 := hml0
 have hown : s.vm.findClass nm6 = some m.cls := findClass_of_methodNamed Bd.named
 have hnm := (name_of_methodNamed Bd.named Bd.method).1
 have X0 : Stand p l e ({ frames := 0, cells := 0, slots := 0, locals := 0 } : Room) s m #[] below meth c s₁ [] 0 0 := Stand.of_body Bd
 have e0 : s₁.heap = h0 := by rw [← hh, Bd.state]; rfl
 have N0 := Fr.nil n0
 have kp0 : Keep h0 h0 [] := Keep.refl _ _
 have c0 : ∀ t, S_ p e below s₁ m 0 #[] [] t → Steps p.tables e below (s₁.setTop (entryFrame m #[] 0)) t := fun t k => castTop (ef_oiempty m) k
 generalize s₁.setTop (entryFrame m #[] 0) = st0 at c0 ⊢
 replace c0 : Kt p e below s₁ st0 (mkF m 0 #[] []) := c0
 obtain ⟨T1, X1, e1, c1⟩ := kgetS X0 hx hZ hown (host := "") (Or.inl (w48 hw)) Via.refl e0 (ZS0_.ext O0.2) c0 rfl (hb hby d2_0)
 obtain ⟨fs, hr, hrun, hended, hW, hsame⟩ := X1.leave (v := some (rr w_)) (fun h => by rw [Bd.returns] at h; cases h)
 refine ⟨_, _, c1 _ ?_, hrun, hended, _, _, rfl, ?_, ⟨_, rfl⟩, hW, hsame.mono (by decide) (by decide)⟩
 ·show S_ p e below T1 m 3 #[] [(rr w_)] _
  exact retOut X1 hx Bd.returns rfl (Or.inr (Or.inr (Or.inr (Or.inr ⟨rfl, rfl, rfl⟩)))) (hb hby d2_3) hr
 ·show Q_oiempty Z w_ h0 n0 _ T1.heap _
  rw [e1]
  exact ⟨rfl, N0, rfl⟩
theorem d3_0 : decode jdk_2649_method_6_code 0 = .ok (.aload_n 0, 1) := by decide +kernel
theorem d3_1 : decode jdk_2649_method_6_code 1 = .ok (.getfield 7, 3) := by decide +kernel
theorem d3_4 : decode jdk_2649_method_6_code 4 = .ok (.ireturn, 1) := by decide +kernel
theorem ef_ispres (m : MethodId) (w_ : Addr) : entryFrame m #[(rr w_)] 1 = mkF m 0 #[vr w_] [] := by first | (simp [entryFrame, mkF, argsToLocals, Value.category]; done) | rfl
def Q_ispres (Z : State) (w_ : Addr) (h0 : Heap) (n0 : Nat) (v : Option Value) (h : Heap) (L : List Loc) : Prop := v = some (ii 0) ∧ Fr n0 L ∧ h = h0
set_option maxRecDepth 65536 in
set_option maxHeartbeats 40000000 in
theorem rm_ispres (l : Launch) (Z : State) (a0 : Array Value) (hw : HW Z a0) (ws : List Jvm.Cond) (w_ : Addr) (h0 : Heap) (n0 : Nat) (O0 : Old Z n0 h0) (ZF0_ : Fld Z Z.heap w_ nm6 "isPresent" "Z" (ii 0)) :
  MFP l Z (⟨nm6, "isPresent", "()Z"⟩ : MethodName) jdk_2649_method_6_code 1 (some .boolean) ({ frames := 0, cells := 0, slots := 0, locals := 0 } : Room) ws #[(rr w_)] h0 (Q_ispres Z w_ h0 n0) := by
 refine MetFree.of_bodySF (plainFor_of_name pn_java_util_OptionalInt) hisR ?_
 intro p e s m args below meth c s₁ Bd hml0 hP hK
 obtain ⟨rfl, hZ, hh⟩ := hP
 have hx := Bd.exec
 have hby := Bd.bytes
 have hml : c.maxLocals = 1 := hml0
 have hown : s.vm.findClass nm6 = some m.cls := findClass_of_methodNamed Bd.named
 have hnm := (name_of_methodNamed Bd.named Bd.method).1
 have X0 : Stand p l e ({ frames := 0, cells := 0, slots := 0, locals := 0 } : Room) s m #[(rr w_)] below meth c s₁ [] 0 0 := Stand.of_body Bd
 have e0 : s₁.heap = h0 := by rw [← hh, Bd.state]; rfl
 have N0 := Fr.nil n0
 have kp0 : Keep h0 h0 [] := Keep.refl _ _
 have c0 : ∀ t, S_ p e below s₁ m 0 #[vr w_] [] t → Steps p.tables e below (s₁.setTop (entryFrame m #[(rr w_)] 1)) t := fun t k => castTop (ef_ispres m w_) k
 generalize s₁.setTop (entryFrame m #[(rr w_)] 1) = st0 at c0 ⊢
 replace c0 : Kt p e below s₁ st0 (mkF m 0 #[vr w_] []) := c0
 have c1 : Kt p e below s₁ st0 (mkF m 1 #[vr w_] [(rr w_)]) := fun t k => by
  refine c0 t ?_
  show S_ p e below s₁ m 0 #[vr w_] [] t
  refine XS.aloadN X0.here hx rfl (hb hby d3_0) rfl rfl ?_
  exact k
 obtain ⟨T2, X2, e2, c2⟩ := kget X0 hx hZ hown (host := "") (Or.inl (w58 hw)) Via.refl e0 (ZF0_.ext O0.2) c1 rfl rfl (hb hby d3_1)
 obtain ⟨fs, hr, hrun, hended, hW, hsame⟩ := X2.leave (v := some (ii 0)) (fun h => by rw [Bd.returns] at h; cases h)
 refine ⟨_, _, c2 _ ?_, hrun, hended, _, _, rfl, ?_, ⟨_, rfl⟩, hW, hsame.mono (by decide) (by decide)⟩
 ·show S_ p e below T2 m 4 #[vr w_] [(ii 0)] _
  exact retN X2 hx (t := .boolean) Bd.returns (by simp) (hb hby d3_4) hr
 ·show Q_ispres Z w_ h0 n0 _ T2.heap _
  rw [e2]
  exact ⟨rfl, N0, rfl⟩
theorem pn_com_example_lexchange_lexchange_Order : plainName nm0 = true := by first | (simp [plainName, overriddenIn]; done) | decide +kernel
theorem d4_0 : decode prog_29_method_2_code 0 = .ok (.aload_n 0, 1) := by decide +kernel
theorem d4_1 : decode prog_29_method_2_code 1 = .ok (.invokespecial 19, 3) := by decide +kernel
theorem d4_4 : decode prog_29_method_2_code 4 = .ok (.iload 5, 2) := by decide +kernel
theorem d4_6 : decode prog_29_method_2_code 6 = .ok (.ifCond .gt 19, 3) := by decide +kernel
theorem d4_25 : decode prog_29_method_2_code 25 = .ok (.lload 6, 2) := by decide +kernel
theorem d4_27 : decode prog_29_method_2_code 27 = .ok (.lconst 0, 1) := by decide +kernel
theorem d4_28 : decode prog_29_method_2_code 28 = .ok (.lcmp, 1) := by decide +kernel
theorem d4_29 : decode prog_29_method_2_code 29 = .ok (.ifCond .ge 19, 3) := by decide +kernel
theorem d4_48 : decode prog_29_method_2_code 48 = .ok (.aload 10, 2) := by decide +kernel
theorem d4_50 : decode prog_29_method_2_code 50 = .ok (.invokevirtual 36, 3) := by decide +kernel
theorem pd_prZ : parseMethodDescriptor "()Z" = some ⟨[], some .boolean⟩ := by decide +kernel
theorem d4_53 : decode prog_29_method_2_code 53 = .ok (.ifCond .eq 42, 3) := by decide +kernel
theorem d4_95 : decode prog_29_method_2_code 95 = .ok (.aload_n 0, 1) := by decide +kernel
theorem d4_96 : decode prog_29_method_2_code 96 = .ok (.lload_n 1, 1) := by decide +kernel
theorem d4_97 : decode prog_29_method_2_code 97 = .ok (.putfield 47, 3) := by decide +kernel
theorem d4_100 : decode prog_29_method_2_code 100 = .ok (.aload_n 0, 1) := by decide +kernel
theorem d4_101 : decode prog_29_method_2_code 101 = .ok (.aload_n 3, 1) := by decide +kernel
theorem d4_102 : decode prog_29_method_2_code 102 = .ok (.putfield 51, 3) := by decide +kernel
theorem d4_105 : decode prog_29_method_2_code 105 = .ok (.aload_n 0, 1) := by decide +kernel
theorem d4_106 : decode prog_29_method_2_code 106 = .ok (.aload 4, 2) := by decide +kernel
theorem d4_108 : decode prog_29_method_2_code 108 = .ok (.putfield 55, 3) := by decide +kernel
theorem d4_111 : decode prog_29_method_2_code 111 = .ok (.aload_n 0, 1) := by decide +kernel
theorem d4_112 : decode prog_29_method_2_code 112 = .ok (.aload 8, 2) := by decide +kernel
theorem d4_114 : decode prog_29_method_2_code 114 = .ok (.putfield 59, 3) := by decide +kernel
theorem d4_117 : decode prog_29_method_2_code 117 = .ok (.aload_n 0, 1) := by decide +kernel
theorem d4_118 : decode prog_29_method_2_code 118 = .ok (.iload 9, 2) := by decide +kernel
theorem d4_120 : decode prog_29_method_2_code 120 = .ok (.putfield 62, 3) := by decide +kernel
theorem d4_123 : decode prog_29_method_2_code 123 = .ok (.aload_n 0, 1) := by decide +kernel
theorem d4_124 : decode prog_29_method_2_code 124 = .ok (.aload 10, 2) := by decide +kernel
theorem d4_126 : decode prog_29_method_2_code 126 = .ok (.putfield 66, 3) := by decide +kernel
theorem d4_129 : decode prog_29_method_2_code 129 = .ok (.aload_n 0, 1) := by decide +kernel
theorem d4_130 : decode prog_29_method_2_code 130 = .ok (.lload 6, 2) := by decide +kernel
theorem d4_132 : decode prog_29_method_2_code 132 = .ok (.putfield 70, 3) := by decide +kernel
theorem d4_135 : decode prog_29_method_2_code 135 = .ok (.aload_n 0, 1) := by decide +kernel
theorem d4_136 : decode prog_29_method_2_code 136 = .ok (.iload 5, 2) := by decide +kernel
theorem d4_138 : decode prog_29_method_2_code 138 = .ok (.putfield 73, 3) := by decide +kernel
theorem d4_141 : decode prog_29_method_2_code 141 = .ok (.return_, 1) := by decide +kernel
theorem ef_oinit2 (m : MethodId) (x_ : Addr) (i_ : Int64) (s_ : Addr) (d_ : Addr) (n_ : Int32) (r_ : Int64) (f_ : Addr) (w_ : Addr) : entryFrame m #[(rr x_), (.long i_), (rr s_), (rr d_), (.int n_), (.long r_), (rr f_), (ii 0), (rr w_)] 11 = mkF m 0 #[vr x_, vj i_, .second, vr s_, vr d_, vi n_, vj r_, .second, vr f_, vi 0, vr w_] [] := by first | (simp [entryFrame, mkF, argsToLocals, Value.category]; done) | rfl
def Q_oinit2 (Z : State) (x_ : Addr) (i_ : Int64) (s_ : Addr) (d_ : Addr) (n_ : Int32) (r_ : Int64) (f_ : Addr) (w_ : Addr) (h0 : Heap) (n0 : Nat) (v : Option Value) (h : Heap) (L : List Loc) : Prop := v = none ∧ Fr n0 L ∧ Keep h0 h [x_] ∧ Fld Z h x_ nm0 "peak" nm12 (rr w_) ∧ Fld Z h x_ nm0 "remaining" "I" (.int n_) ∧ Fld Z h x_ nm0 "slice" "I" (ii 0) ∧ Fld Z h x_ nm0 "queue" nm4 .null ∧ Fld Z h x_ nm0 "previous" nm1 .null ∧ Fld Z h x_ nm0 "next" nm1 .null
set_option maxRecDepth 65536 in
set_option maxHeartbeats 40000000 in
theorem rm_oinit2 (l : Launch) (Z : State) (a0 : Array Value) (hw : HW Z a0) (ws : List Jvm.Cond) (x_ : Addr) (i_ : Int64) (s_ : Addr) (d_ : Addr) (n_ : Int32) (r_ : Int64) (f_ : Addr) (w_ : Addr) (h0 : Heap) (n0 : Nat) (O0 : Old Z n0 h0) (E0_ : Exa Z h0 x_ nm0) (F1_ : Fld Z h0 x_ nm0 "id" "J" (.long (0 : Int64))) (F2_ : Fld Z h0 x_ nm0 "participant" "Ljava/lang/String;" .null) (F3_ : Fld Z h0 x_ nm0 "side" nm14 .null) (F4_ : Fld Z h0 x_ nm0 "timeInForce" nm15 .null) (F5_ : Fld Z h0 x_ nm0 "postOnly" "Z" (ii 0)) (F6_ : Fld Z h0 x_ nm0 "peak" nm12 .null) (F7_ : Fld Z h0 x_ nm0 "price" "J" (.long (0 : Int64))) (F8_ : Fld Z h0 x_ nm0 "remaining" "I" (ii 0)) (F9_ : Fld Z h0 x_ nm0 "slice" "I" (ii 0)) (F10_ : Fld Z h0 x_ nm0 "queue" nm4 .null) (F11_ : Fld Z h0 x_ nm0 "previous" nm1 .null) (F12_ : Fld Z h0 x_ nm0 "next" nm1 .null) (G13_ : n0 ≤ x_) (ZE14_ : Exa Z Z.heap w_ nm6) (ZF15_ : Fld Z Z.heap w_ nm6 "isPresent" "Z" (ii 0)) (hq_ : (0 : Int32) < n_) (hp_ : ¬ ((lcmpW r_ (0 : Int64)) < (0 : Int32))) :
  MFP l Z (⟨nm0, "<init>", "(JLjava/lang/String;Lcom/example/lexchange/lexchange/Side;IJLcom/example/lexchange/lexchange/TimeInForce;ZLjava/util/OptionalInt;)V"⟩ : MethodName) prog_29_method_2_code 11 none ({ frames := 1, cells := 0, slots := 0, locals := 12 } : Room) ws #[(rr x_), (.long i_), (rr s_), (rr d_), (.int n_), (.long r_), (rr f_), (ii 0), (rr w_)] h0 (Q_oinit2 Z x_ i_ s_ d_ n_ r_ f_ w_ h0 n0) := by
 refine MetFree.of_bodySF (plainFor_of_name pn_com_example_lexchange_lexchange_Order) hisR ?_
 intro p e s m args below meth c s₁ Bd hml0 hP hK
 obtain ⟨rfl, hZ, hh⟩ := hP
 have hx := Bd.exec
 have hby := Bd.bytes
 have hml : c.maxLocals = 11 := hml0
 have hown : s.vm.findClass nm0 = some m.cls := findClass_of_methodNamed Bd.named
 have hnm := (name_of_methodNamed Bd.named Bd.method).1
 have X0 : Stand p l e ({ frames := 1, cells := 0, slots := 0, locals := 12 } : Room) s m #[(rr x_), (.long i_), (rr s_), (rr d_), (.int n_), (.long r_), (rr f_), (ii 0), (rr w_)] below meth c s₁ [] 0 0 := Stand.of_body Bd
 have e0 : s₁.heap = h0 := by rw [← hh, Bd.state]; rfl
 have N0 := Fr.nil n0
 have kp0 : Keep h0 h0 [x_] := Keep.refl _ _
 have c0 : ∀ t, S_ p e below s₁ m 0 #[vr x_, vj i_, .second, vr s_, vr d_, vi n_, vj r_, .second, vr f_, vi 0, vr w_] [] t → Steps p.tables e below (s₁.setTop (entryFrame m #[(rr x_), (.long i_), (rr s_), (rr d_), (.int n_), (.long r_), (rr f_), (ii 0), (rr w_)] 11)) t := fun t k => castTop (ef_oinit2 m x_ i_ s_ d_ n_ r_ f_ w_) k
 generalize s₁.setTop (entryFrame m #[(rr x_), (.long i_), (rr s_), (rr d_), (.int n_), (.long r_), (rr f_), (ii 0), (rr w_)] 11) = st0 at c0 ⊢
 replace c0 : Kt p e below s₁ st0 (mkF m 0 #[vr x_, vj i_, .second, vr s_, vr d_, vi n_, vj r_, .second, vr f_, vi 0, vr w_] []) := c0
 have c1 : Kt p e below s₁ st0 (mkF m 1 #[vr x_, vj i_, .second, vr s_, vr d_, vi n_, vj r_, .second, vr f_, vi 0, vr w_] [(rr x_)]) := fun t k => by
  refine c0 t ?_
  show S_ p e below s₁ m 0 #[vr x_, vj i_, .second, vr s_, vr d_, vi n_, vj r_, .second, vr f_, vi 0, vr w_] [] t
  refine XS.aloadN X0.here hx rfl (hb hby d4_0) rfl rfl ?_
  exact k
 obtain ⟨T2, X2, e2, c2⟩ := kinit X0 hx hZ hown (w52 hw) (w9 hw) (w10 hw) e0 c1 rfl hml rfl rfl (hb hby d4_1) 0 (own_w rfl) (by decide) (by decide)
 have c3 : Kt p e below T2 st0 (mkF m 50 #[vr x_, vj i_, .second, vr s_, vr d_, vi n_, vj r_, .second, vr f_, vi 0, vr w_] [(rr w_)]) := fun t k => by
  refine c2 t ?_
  show S_ p e below T2 m 4 #[vr x_, vj i_, .second, vr s_, vr d_, vi n_, vj r_, .second, vr f_, vi 0, vr w_] [] t
  refine XS.iload X2.here hx rfl (hb hby d4_4) rfl ?_
  refine yI X2.here hx rfl 6 25 rfl (hb hby d4_6) rfl ((if0 _ _).trans (tlt hq_).2.2.1) ?_
  refine XS.lload X2.here hx rfl (hb hby d4_25) rfl ?_
  refine XS.lconst X2.here hx rfl (hb hby d4_27) ?_
  refine XS.lcmp X2.here hx rfl (hb hby d4_28) rfl ?_
  refine yI X2.here hx rfl 29 48 rfl (hb hby d4_29) rfl ((if0 _ _).trans (flt hp_).2.1) ?_
  refine XS.aload X2.here hx rfl (hb hby d4_48) rfl rfl ?_
  exact k
 obtain ⟨_, T4, L4, X4, hQ4, c4⟩ := kvirt X2 hx hZ hown (w53 hw) (w54 hw) (w56 hw) (w55 hw) (w57 hw) (w46 hw) (rm_ispres l Z a0 hw [] w_ h0 n0 O0 ZF15_) e2 (ZE14_.ext O0.2) c3 hml pd_prZ [] [] 0 (hb hby d4_50) rfl rfl rfl rfl rfl rfl
 obtain ⟨rfl, N5q, K6⟩ := hQ4
 have N5 := Fr.app N0 N5q
 have c7 : Kt p e below T4 st0 (mkF m 97 #[vr x_, vj i_, .second, vr s_, vr d_, vi n_, vj r_, .second, vr f_, vi 0, vr w_] [(.long i_), (rr x_)]) := fun t k => by
  refine c4 t ?_
  show S_ p e below T4 m 53 #[vr x_, vj i_, .second, vr s_, vr d_, vi n_, vj r_, .second, vr f_, vi 0, vr w_] [(ii 0)] t
  refine yI X4.here hx rfl 53 95 rfl (hb hby d4_53) rfl rfl ?_
  refine XS.aloadN X4.here hx rfl (hb hby d4_95) rfl rfl ?_
  refine XS.lloadN X4.here hx rfl (hb hby d4_96) rfl ?_
  exact k
 obtain ⟨T8, h8, X8, e8, W8, f9, o11, N10, c8⟩ := kput X4 hx hZ .long hown (host := "") (Or.inl (w60 hw)) Via.refl K6 F1_ E0_ (Or.inr ⟨(w61 hw), rfl, hnm⟩) (w25 hw) c7 rfl rfl (hb hby d4_97) (by decide) rfl rfl O0 N5 G13_
 have kp12 := kp0.wr W8 (Or.inl (List.mem_of_getElem? (i := 0) rfl))
 have f13 := F2_.other W8 (Or.inr (slot_ne (Or.inr (w63 hw)) (Or.inr (w61 hw)) (by decide) (t := (.object nm19)) (t' := .long) (by decide) (by decide)))
 have c14 : Kt p e below T8 st0 (mkF m 102 #[vr x_, vj i_, .second, vr s_, vr d_, vi n_, vj r_, .second, vr f_, vi 0, vr w_] [(rr s_), (rr x_)]) := fun t k => by
  refine c8 t ?_
  show S_ p e below T8 m 100 #[vr x_, vj i_, .second, vr s_, vr d_, vi n_, vj r_, .second, vr f_, vi 0, vr w_] [] t
  refine XS.aloadN X8.here hx rfl (hb hby d4_100) rfl rfl ?_
  refine XS.aloadN X8.here hx rfl (hb hby d4_101) rfl rfl ?_
  exact k
 obtain ⟨T15, h15, X15, e15, W15, f16, o18, N17, c15⟩ := kput X8 hx hZ (.object nm19) hown (host := "") (Or.inl (w62 hw)) Via.refl e8 f13 (E0_.wr W8) (Or.inr ⟨(w63 hw), rfl, hnm⟩) (w25 hw) c14 rfl rfl (hb hby d4_102) (by decide) rfl rfl o11 N10 G13_
 have kp19 := kp12.wr W15 (Or.inl (List.mem_of_getElem? (i := 0) rfl))
 have f20 := (F3_.other W8 (Or.inr (slot_ne (Or.inr (w65 hw)) (Or.inr (w61 hw)) (by decide) (t := (.object nm7)) (t' := .long) (by decide) (by decide)))).other W15 (Or.inr (slot_ne (Or.inr (w65 hw)) (Or.inr (w63 hw)) (by decide) (t := (.object nm7)) (t' := (.object nm19)) (by decide) (by decide)))
 have c21 : Kt p e below T15 st0 (mkF m 108 #[vr x_, vj i_, .second, vr s_, vr d_, vi n_, vj r_, .second, vr f_, vi 0, vr w_] [(rr d_), (rr x_)]) := fun t k => by
  refine c15 t ?_
  show S_ p e below T15 m 105 #[vr x_, vj i_, .second, vr s_, vr d_, vi n_, vj r_, .second, vr f_, vi 0, vr w_] [] t
  refine XS.aloadN X15.here hx rfl (hb hby d4_105) rfl rfl ?_
  refine XS.aload X15.here hx rfl (hb hby d4_106) rfl rfl ?_
  exact k
 obtain ⟨T22, h22, X22, e22, W22, f23, o25, N24, c22⟩ := kput X15 hx hZ (.object nm7) hown (host := "") (Or.inl (w64 hw)) Via.refl e15 f20 ((E0_.wr W8).wr W15) (Or.inr ⟨(w65 hw), rfl, hnm⟩) (w25 hw) c21 rfl rfl (hb hby d4_108) (by decide) rfl rfl o18 N17 G13_
 have kp26 := kp19.wr W22 (Or.inl (List.mem_of_getElem? (i := 0) rfl))
 have f27 := ((F4_.other W8 (Or.inr (slot_ne (Or.inr (w67 hw)) (Or.inr (w61 hw)) (by decide) (t := (.object nm9)) (t' := .long) (by decide) (by decide)))).other W15 (Or.inr (slot_ne (Or.inr (w67 hw)) (Or.inr (w63 hw)) (by decide) (t := (.object nm9)) (t' := (.object nm19)) (by decide) (by decide)))).other W22 (Or.inr (slot_ne (Or.inr (w67 hw)) (Or.inr (w65 hw)) (by decide) (t := (.object nm9)) (t' := (.object nm7)) (by decide) (by decide)))
 have c28 : Kt p e below T22 st0 (mkF m 114 #[vr x_, vj i_, .second, vr s_, vr d_, vi n_, vj r_, .second, vr f_, vi 0, vr w_] [(rr f_), (rr x_)]) := fun t k => by
  refine c22 t ?_
  show S_ p e below T22 m 111 #[vr x_, vj i_, .second, vr s_, vr d_, vi n_, vj r_, .second, vr f_, vi 0, vr w_] [] t
  refine XS.aloadN X22.here hx rfl (hb hby d4_111) rfl rfl ?_
  refine XS.aload X22.here hx rfl (hb hby d4_112) rfl rfl ?_
  exact k
 obtain ⟨T29, h29, X29, e29, W29, f30, o32, N31, c29⟩ := kput X22 hx hZ (.object nm9) hown (host := "") (Or.inl (w66 hw)) Via.refl e22 f27 (((E0_.wr W8).wr W15).wr W22) (Or.inr ⟨(w67 hw), rfl, hnm⟩) (w25 hw) c28 rfl rfl (hb hby d4_114) (by decide) rfl rfl o25 N24 G13_
 have kp33 := kp26.wr W29 (Or.inl (List.mem_of_getElem? (i := 0) rfl))
 have f34 := (((F5_.other W8 (Or.inr (slot_ne (Or.inr (w69 hw)) (Or.inr (w61 hw)) (by decide) (t := .boolean) (t' := .long) (by decide) (by decide)))).other W15 (Or.inr (slot_ne (Or.inr (w69 hw)) (Or.inr (w63 hw)) (by decide) (t := .boolean) (t' := (.object nm19)) (by decide) (by decide)))).other W22 (Or.inr (slot_ne (Or.inr (w69 hw)) (Or.inr (w65 hw)) (by decide) (t := .boolean) (t' := (.object nm7)) (by decide) (by decide)))).other W29 (Or.inr (slot_ne (Or.inr (w69 hw)) (Or.inr (w67 hw)) (by decide) (t := .boolean) (t' := (.object nm9)) (by decide) (by decide)))
 have c35 : Kt p e below T29 st0 (mkF m 120 #[vr x_, vj i_, .second, vr s_, vr d_, vi n_, vj r_, .second, vr f_, vi 0, vr w_] [(ii 0), (rr x_)]) := fun t k => by
  refine c29 t ?_
  show S_ p e below T29 m 117 #[vr x_, vj i_, .second, vr s_, vr d_, vi n_, vj r_, .second, vr f_, vi 0, vr w_] [] t
  refine XS.aloadN X29.here hx rfl (hb hby d4_117) rfl rfl ?_
  refine XS.iload X29.here hx rfl (hb hby d4_118) rfl ?_
  exact k
 obtain ⟨T36, h36, X36, e36, W36, f37, o39, N38, c36⟩ := kput X29 hx hZ .boolean hown (host := "") (Or.inl (w68 hw)) Via.refl e29 f34 ((((E0_.wr W8).wr W15).wr W22).wr W29) (Or.inr ⟨(w69 hw), rfl, hnm⟩) (w25 hw) c35 rfl rfl (hb hby d4_120) (by decide) rfl rfl o32 N31 G13_
 have kp40 := kp33.wr W36 (Or.inl (List.mem_of_getElem? (i := 0) rfl))
 have f41 := ((((F6_.other W8 (Or.inr (slot_ne (Or.inr (w71 hw)) (Or.inr (w61 hw)) (by decide) (t := (.object nm6)) (t' := .long) (by decide) (by decide)))).other W15 (Or.inr (slot_ne (Or.inr (w71 hw)) (Or.inr (w63 hw)) (by decide) (t := (.object nm6)) (t' := (.object nm19)) (by decide) (by decide)))).other W22 (Or.inr (slot_ne (Or.inr (w71 hw)) (Or.inr (w65 hw)) (by decide) (t := (.object nm6)) (t' := (.object nm7)) (by decide) (by decide)))).other W29 (Or.inr (slot_ne (Or.inr (w71 hw)) (Or.inr (w67 hw)) (by decide) (t := (.object nm6)) (t' := (.object nm9)) (by decide) (by decide)))).other W36 (Or.inr (slot_ne (Or.inr (w71 hw)) (Or.inr (w69 hw)) (by decide) (t := (.object nm6)) (t' := .boolean) (by decide) (by decide)))
 have c42 : Kt p e below T36 st0 (mkF m 126 #[vr x_, vj i_, .second, vr s_, vr d_, vi n_, vj r_, .second, vr f_, vi 0, vr w_] [(rr w_), (rr x_)]) := fun t k => by
  refine c36 t ?_
  show S_ p e below T36 m 123 #[vr x_, vj i_, .second, vr s_, vr d_, vi n_, vj r_, .second, vr f_, vi 0, vr w_] [] t
  refine XS.aloadN X36.here hx rfl (hb hby d4_123) rfl rfl ?_
  refine XS.aload X36.here hx rfl (hb hby d4_124) rfl rfl ?_
  exact k
 obtain ⟨T43, h43, X43, e43, W43, f44, o46, N45, c43⟩ := kput X36 hx hZ (.object nm6) hown (host := "") (Or.inl (w70 hw)) Via.refl e36 f41 (((((E0_.wr W8).wr W15).wr W22).wr W29).wr W36) (Or.inr ⟨(w71 hw), rfl, hnm⟩) (w25 hw) c42 rfl rfl (hb hby d4_126) (by decide) rfl rfl o39 N38 G13_
 have kp47 := kp40.wr W43 (Or.inl (List.mem_of_getElem? (i := 0) rfl))
 have f48 := (((((F7_.other W8 (Or.inr (slot_ne (Or.inl (w73 hw)) (Or.inr (w61 hw)) (by decide) (t := .long) (t' := .long) (by decide) (by decide)))).other W15 (Or.inr (slot_ne (Or.inl (w73 hw)) (Or.inr (w63 hw)) (by decide) (t := .long) (t' := (.object nm19)) (by decide) (by decide)))).other W22 (Or.inr (slot_ne (Or.inl (w73 hw)) (Or.inr (w65 hw)) (by decide) (t := .long) (t' := (.object nm7)) (by decide) (by decide)))).other W29 (Or.inr (slot_ne (Or.inl (w73 hw)) (Or.inr (w67 hw)) (by decide) (t := .long) (t' := (.object nm9)) (by decide) (by decide)))).other W36 (Or.inr (slot_ne (Or.inl (w73 hw)) (Or.inr (w69 hw)) (by decide) (t := .long) (t' := .boolean) (by decide) (by decide)))).other W43 (Or.inr (slot_ne (Or.inl (w73 hw)) (Or.inr (w71 hw)) (by decide) (t := .long) (t' := (.object nm6)) (by decide) (by decide)))
 have c49 : Kt p e below T43 st0 (mkF m 132 #[vr x_, vj i_, .second, vr s_, vr d_, vi n_, vj r_, .second, vr f_, vi 0, vr w_] [(.long r_), (rr x_)]) := fun t k => by
  refine c43 t ?_
  show S_ p e below T43 m 129 #[vr x_, vj i_, .second, vr s_, vr d_, vi n_, vj r_, .second, vr f_, vi 0, vr w_] [] t
  refine XS.aloadN X43.here hx rfl (hb hby d4_129) rfl rfl ?_
  refine XS.lload X43.here hx rfl (hb hby d4_130) rfl ?_
  exact k
 obtain ⟨T50, h50, X50, e50, W50, f51, o53, N52, c50⟩ := kput X43 hx hZ .long hown (host := "") (Or.inl (w72 hw)) Via.refl e43 f48 ((((((E0_.wr W8).wr W15).wr W22).wr W29).wr W36).wr W43) (Or.inl (w73 hw)) (w25 hw) c49 rfl rfl (hb hby d4_132) (by decide) rfl rfl o46 N45 G13_
 have kp54 := kp47.wr W50 (Or.inl (List.mem_of_getElem? (i := 0) rfl))
 have f55 := ((((((F8_.other W8 (Or.inr (slot_ne (Or.inl (w75 hw)) (Or.inr (w61 hw)) (by decide) (t := .int) (t' := .long) (by decide) (by decide)))).other W15 (Or.inr (slot_ne (Or.inl (w75 hw)) (Or.inr (w63 hw)) (by decide) (t := .int) (t' := (.object nm19)) (by decide) (by decide)))).other W22 (Or.inr (slot_ne (Or.inl (w75 hw)) (Or.inr (w65 hw)) (by decide) (t := .int) (t' := (.object nm7)) (by decide) (by decide)))).other W29 (Or.inr (slot_ne (Or.inl (w75 hw)) (Or.inr (w67 hw)) (by decide) (t := .int) (t' := (.object nm9)) (by decide) (by decide)))).other W36 (Or.inr (slot_ne (Or.inl (w75 hw)) (Or.inr (w69 hw)) (by decide) (t := .int) (t' := .boolean) (by decide) (by decide)))).other W43 (Or.inr (slot_ne (Or.inl (w75 hw)) (Or.inr (w71 hw)) (by decide) (t := .int) (t' := (.object nm6)) (by decide) (by decide)))).other W50 (Or.inr (slot_ne (Or.inl (w75 hw)) (Or.inl (w73 hw)) (by decide) (t := .int) (t' := .long) (by decide) (by decide)))
 have c56 : Kt p e below T50 st0 (mkF m 138 #[vr x_, vj i_, .second, vr s_, vr d_, vi n_, vj r_, .second, vr f_, vi 0, vr w_] [(.int n_), (rr x_)]) := fun t k => by
  refine c50 t ?_
  show S_ p e below T50 m 135 #[vr x_, vj i_, .second, vr s_, vr d_, vi n_, vj r_, .second, vr f_, vi 0, vr w_] [] t
  refine XS.aloadN X50.here hx rfl (hb hby d4_135) rfl rfl ?_
  refine XS.iload X50.here hx rfl (hb hby d4_136) rfl ?_
  exact k
 obtain ⟨T57, h57, X57, e57, W57, f58, o60, N59, c57⟩ := kput X50 hx hZ .int hown (host := "") (Or.inl (w74 hw)) Via.refl e50 f55 (((((((E0_.wr W8).wr W15).wr W22).wr W29).wr W36).wr W43).wr W50) (Or.inl (w75 hw)) (w25 hw) c56 rfl rfl (hb hby d4_138) (by decide) rfl rfl o53 N52 G13_
 have kp61 := kp54.wr W57 (Or.inl (List.mem_of_getElem? (i := 0) rfl))
 have f62 := (f44.other W50 (Or.inr (slot_ne (Or.inr (w71 hw)) (Or.inl (w73 hw)) (by decide) (t := (.object nm6)) (t' := .long) (by decide) (by decide)))).other W57 (Or.inr (slot_ne (Or.inr (w71 hw)) (Or.inl (w75 hw)) (by decide) (t := (.object nm6)) (t' := .int) (by decide) (by decide)))
 have f63 := (((((((F9_.other W8 (Or.inr (slot_ne (Or.inl (w86 hw)) (Or.inr (w61 hw)) (by decide) (t := .int) (t' := .long) (by decide) (by decide)))).other W15 (Or.inr (slot_ne (Or.inl (w86 hw)) (Or.inr (w63 hw)) (by decide) (t := .int) (t' := (.object nm19)) (by decide) (by decide)))).other W22 (Or.inr (slot_ne (Or.inl (w86 hw)) (Or.inr (w65 hw)) (by decide) (t := .int) (t' := (.object nm7)) (by decide) (by decide)))).other W29 (Or.inr (slot_ne (Or.inl (w86 hw)) (Or.inr (w67 hw)) (by decide) (t := .int) (t' := (.object nm9)) (by decide) (by decide)))).other W36 (Or.inr (slot_ne (Or.inl (w86 hw)) (Or.inr (w69 hw)) (by decide) (t := .int) (t' := .boolean) (by decide) (by decide)))).other W43 (Or.inr (slot_ne (Or.inl (w86 hw)) (Or.inr (w71 hw)) (by decide) (t := .int) (t' := (.object nm6)) (by decide) (by decide)))).other W50 (Or.inr (slot_ne (Or.inl (w86 hw)) (Or.inl (w73 hw)) (by decide) (t := .int) (t' := .long) (by decide) (by decide)))).other W57 (Or.inr (slot_ne (Or.inl (w86 hw)) (Or.inl (w75 hw)) (by decide) (t := .int) (t' := .int) (by decide) (by decide)))
 have f64 := (((((((F10_.other W8 (Or.inr (slot_ne (Or.inl (w109 hw)) (Or.inr (w61 hw)) (by decide) (t := (.object nm3)) (t' := .long) (by decide) (by decide)))).other W15 (Or.inr (slot_ne (Or.inl (w109 hw)) (Or.inr (w63 hw)) (by decide) (t := (.object nm3)) (t' := (.object nm19)) (by decide) (by decide)))).other W22 (Or.inr (slot_ne (Or.inl (w109 hw)) (Or.inr (w65 hw)) (by decide) (t := (.object nm3)) (t' := (.object nm7)) (by decide) (by decide)))).other W29 (Or.inr (slot_ne (Or.inl (w109 hw)) (Or.inr (w67 hw)) (by decide) (t := (.object nm3)) (t' := (.object nm9)) (by decide) (by decide)))).other W36 (Or.inr (slot_ne (Or.inl (w109 hw)) (Or.inr (w69 hw)) (by decide) (t := (.object nm3)) (t' := .boolean) (by decide) (by decide)))).other W43 (Or.inr (slot_ne (Or.inl (w109 hw)) (Or.inr (w71 hw)) (by decide) (t := (.object nm3)) (t' := (.object nm6)) (by decide) (by decide)))).other W50 (Or.inr (slot_ne (Or.inl (w109 hw)) (Or.inl (w73 hw)) (by decide) (t := (.object nm3)) (t' := .long) (by decide) (by decide)))).other W57 (Or.inr (slot_ne (Or.inl (w109 hw)) (Or.inl (w75 hw)) (by decide) (t := (.object nm3)) (t' := .int) (by decide) (by decide)))
 have f65 := (((((((F11_.other W8 (Or.inr (slot_ne (Or.inl (w113 hw)) (Or.inr (w61 hw)) (by decide) (t := (.object nm0)) (t' := .long) (by decide) (by decide)))).other W15 (Or.inr (slot_ne (Or.inl (w113 hw)) (Or.inr (w63 hw)) (by decide) (t := (.object nm0)) (t' := (.object nm19)) (by decide) (by decide)))).other W22 (Or.inr (slot_ne (Or.inl (w113 hw)) (Or.inr (w65 hw)) (by decide) (t := (.object nm0)) (t' := (.object nm7)) (by decide) (by decide)))).other W29 (Or.inr (slot_ne (Or.inl (w113 hw)) (Or.inr (w67 hw)) (by decide) (t := (.object nm0)) (t' := (.object nm9)) (by decide) (by decide)))).other W36 (Or.inr (slot_ne (Or.inl (w113 hw)) (Or.inr (w69 hw)) (by decide) (t := (.object nm0)) (t' := .boolean) (by decide) (by decide)))).other W43 (Or.inr (slot_ne (Or.inl (w113 hw)) (Or.inr (w71 hw)) (by decide) (t := (.object nm0)) (t' := (.object nm6)) (by decide) (by decide)))).other W50 (Or.inr (slot_ne (Or.inl (w113 hw)) (Or.inl (w73 hw)) (by decide) (t := (.object nm0)) (t' := .long) (by decide) (by decide)))).other W57 (Or.inr (slot_ne (Or.inl (w113 hw)) (Or.inl (w75 hw)) (by decide) (t := (.object nm0)) (t' := .int) (by decide) (by decide)))
 have f66 := (((((((F12_.other W8 (Or.inr (slot_ne (Or.inl (w115 hw)) (Or.inr (w61 hw)) (by decide) (t := (.object nm0)) (t' := .long) (by decide) (by decide)))).other W15 (Or.inr (slot_ne (Or.inl (w115 hw)) (Or.inr (w63 hw)) (by decide) (t := (.object nm0)) (t' := (.object nm19)) (by decide) (by decide)))).other W22 (Or.inr (slot_ne (Or.inl (w115 hw)) (Or.inr (w65 hw)) (by decide) (t := (.object nm0)) (t' := (.object nm7)) (by decide) (by decide)))).other W29 (Or.inr (slot_ne (Or.inl (w115 hw)) (Or.inr (w67 hw)) (by decide) (t := (.object nm0)) (t' := (.object nm9)) (by decide) (by decide)))).other W36 (Or.inr (slot_ne (Or.inl (w115 hw)) (Or.inr (w69 hw)) (by decide) (t := (.object nm0)) (t' := .boolean) (by decide) (by decide)))).other W43 (Or.inr (slot_ne (Or.inl (w115 hw)) (Or.inr (w71 hw)) (by decide) (t := (.object nm0)) (t' := (.object nm6)) (by decide) (by decide)))).other W50 (Or.inr (slot_ne (Or.inl (w115 hw)) (Or.inl (w73 hw)) (by decide) (t := (.object nm0)) (t' := .long) (by decide) (by decide)))).other W57 (Or.inr (slot_ne (Or.inl (w115 hw)) (Or.inl (w75 hw)) (by decide) (t := (.object nm0)) (t' := .int) (by decide) (by decide)))
 obtain ⟨fs, hr, hrun, hended, hW, hsame⟩ := X57.leave (v := none) (fun _ => rfl)
 refine ⟨_, _, c57 _ ?_, hrun, hended, _, _, rfl, ?_, ⟨_, rfl⟩, hW, hsame.mono (by decide) (by decide)⟩
 ·show S_ p e below T57 m 141 #[vr x_, vj i_, .second, vr s_, vr d_, vi n_, vj r_, .second, vr f_, vi 0, vr w_] [] _
  exact X57.returnOut hx Bd.returns (hb hby d4_141) hr
 ·show Q_oinit2 Z x_ i_ s_ d_ n_ r_ f_ w_ h0 n0 _ T57.heap _
  rw [e57]
  exact ⟨rfl, N59, kp61, f62, f58, f63, f64, f65, f66⟩
theorem d5_0 : decode prog_29_method_1_code 0 = .ok (.aload_n 0, 1) := by decide +kernel
theorem d5_1 : decode prog_29_method_1_code 1 = .ok (.lload_n 1, 1) := by decide +kernel
theorem d5_2 : decode prog_29_method_1_code 2 = .ok (.aload_n 3, 1) := by decide +kernel
theorem d5_3 : decode prog_29_method_1_code 3 = .ok (.aload 4, 2) := by decide +kernel
theorem d5_5 : decode prog_29_method_1_code 5 = .ok (.iload 5, 2) := by decide +kernel
theorem d5_7 : decode prog_29_method_1_code 7 = .ok (.lload 6, 2) := by decide +kernel
theorem d5_9 : decode prog_29_method_1_code 9 = .ok (.getstatic 1, 3) := by decide +kernel
theorem d5_12 : decode prog_29_method_1_code 12 = .ok (.iconst 0, 1) := by decide +kernel
theorem d5_13 : decode prog_29_method_1_code 13 = .ok (.invokestatic 7, 3) := by decide +kernel
theorem pd_prLjava_util_OptionalInt_ : parseMethodDescriptor "()Ljava/util/OptionalInt;" = some ⟨[], some (.object nm6)⟩ := by decide +kernel
theorem d5_16 : decode prog_29_method_1_code 16 = .ok (.invokespecial 13, 3) := by decide +kernel
theorem pd_pJLjava_lang_String_Lcom_example_lexchange_lexchange_Side_IJLcom_example_lexchange_lexchange_TimeInForce_ZLjava_util_OptionalInt_rV : parseMethodDescriptor "(JLjava/lang/String;Lcom/example/lexchange/lexchange/Side;IJLcom/example/lexchange/lexchange/TimeInForce;ZLjava/util/OptionalInt;)V" = some ⟨[.long, (.object nm19), (.object nm7), .int, .long, (.object nm9), .boolean, (.object nm6)], none⟩ := by decide +kernel
theorem d5_19 : decode prog_29_method_1_code 19 = .ok (.return_, 1) := by decide +kernel
theorem ef_oinit1 (m : MethodId) (x_ : Addr) (i_ : Int64) (s_ : Addr) (d_ : Addr) (n_ : Int32) (r_ : Int64) : entryFrame m #[(rr x_), (.long i_), (rr s_), (rr d_), (.int n_), (.long r_)] 8 = mkF m 0 #[vr x_, vj i_, .second, vr s_, vr d_, vi n_, vj r_, .second] [] := by first | (simp [entryFrame, mkF, argsToLocals, Value.category]; done) | rfl
def Q_oinit1 (Z : State) (x_ : Addr) (i_ : Int64) (s_ : Addr) (d_ : Addr) (n_ : Int32) (r_ : Int64) (f_ : Addr) (w_ : Addr) (h0 : Heap) (n0 : Nat) (v : Option Value) (h : Heap) (L : List Loc) : Prop := v = none ∧ Fr n0 L ∧ Keep h0 h [x_] ∧ Fld Z h x_ nm0 "peak" nm12 (rr w_) ∧ Fld Z h x_ nm0 "remaining" "I" (.int n_) ∧ Fld Z h x_ nm0 "slice" "I" (ii 0) ∧ Fld Z h x_ nm0 "queue" nm4 .null ∧ Fld Z h x_ nm0 "previous" nm1 .null ∧ Fld Z h x_ nm0 "next" nm1 .null
set_option maxRecDepth 65536 in
set_option maxHeartbeats 40000000 in
theorem rm_oinit1 (l : Launch) (Z : State) (a0 : Array Value) (hw : HW Z a0) (ws : List Jvm.Cond) (x_ : Addr) (i_ : Int64) (s_ : Addr) (d_ : Addr) (n_ : Int32) (r_ : Int64) (f_ : Addr) (w_ : Addr) (h0 : Heap) (n0 : Nat) (O0 : Old Z n0 h0) (E0_ : Exa Z h0 x_ nm0) (F1_ : Fld Z h0 x_ nm0 "id" "J" (.long (0 : Int64))) (F2_ : Fld Z h0 x_ nm0 "participant" "Ljava/lang/String;" .null) (F3_ : Fld Z h0 x_ nm0 "side" nm14 .null) (F4_ : Fld Z h0 x_ nm0 "timeInForce" nm15 .null) (F5_ : Fld Z h0 x_ nm0 "postOnly" "Z" (ii 0)) (F6_ : Fld Z h0 x_ nm0 "peak" nm12 .null) (F7_ : Fld Z h0 x_ nm0 "price" "J" (.long (0 : Int64))) (F8_ : Fld Z h0 x_ nm0 "remaining" "I" (ii 0)) (F9_ : Fld Z h0 x_ nm0 "slice" "I" (ii 0)) (F10_ : Fld Z h0 x_ nm0 "queue" nm4 .null) (F11_ : Fld Z h0 x_ nm0 "previous" nm1 .null) (F12_ : Fld Z h0 x_ nm0 "next" nm1 .null) (G13_ : n0 ≤ x_) (ZS14_ : Sta Z Z.heap nm6 "EMPTY" nm12 (rr w_)) (ZE15_ : Exa Z Z.heap w_ nm6) (ZF16_ : Fld Z Z.heap w_ nm6 "isPresent" "Z" (ii 0)) (ZS17_ : Sta Z Z.heap nm9 "DAY" nm15 (rr f_)) (hq_ : (0 : Int32) < n_) (hp_ : ¬ ((lcmpW r_ (0 : Int64)) < (0 : Int32))) :
  MFP l Z (⟨nm0, "<init>", "(JLjava/lang/String;Lcom/example/lexchange/lexchange/Side;IJ)V"⟩ : MethodName) prog_29_method_1_code 8 none ({ frames := 2, cells := 0, slots := 0, locals := 34 } : Room) ws #[(rr x_), (.long i_), (rr s_), (rr d_), (.int n_), (.long r_)] h0 (Q_oinit1 Z x_ i_ s_ d_ n_ r_ f_ w_ h0 n0) := by
 refine MetFree.of_bodySF (plainFor_of_name pn_com_example_lexchange_lexchange_Order) hisR ?_
 intro p e s m args below meth c s₁ Bd hml0 hP hK
 obtain ⟨rfl, hZ, hh⟩ := hP
 have hx := Bd.exec
 have hby := Bd.bytes
 have hml : c.maxLocals = 8 := hml0
 have hown : s.vm.findClass nm0 = some m.cls := findClass_of_methodNamed Bd.named
 have hnm := (name_of_methodNamed Bd.named Bd.method).1
 have X0 : Stand p l e ({ frames := 2, cells := 0, slots := 0, locals := 34 } : Room) s m #[(rr x_), (.long i_), (rr s_), (rr d_), (.int n_), (.long r_)] below meth c s₁ [] 0 0 := Stand.of_body Bd
 have e0 : s₁.heap = h0 := by rw [← hh, Bd.state]; rfl
 have N0 := Fr.nil n0
 have kp0 : Keep h0 h0 [x_] := Keep.refl _ _
 have c0 : ∀ t, S_ p e below s₁ m 0 #[vr x_, vj i_, .second, vr s_, vr d_, vi n_, vj r_, .second] [] t → Steps p.tables e below (s₁.setTop (entryFrame m #[(rr x_), (.long i_), (rr s_), (rr d_), (.int n_), (.long r_)] 8)) t := fun t k => castTop (ef_oinit1 m x_ i_ s_ d_ n_ r_) k
 generalize s₁.setTop (entryFrame m #[(rr x_), (.long i_), (rr s_), (rr d_), (.int n_), (.long r_)] 8) = st0 at c0 ⊢
 replace c0 : Kt p e below s₁ st0 (mkF m 0 #[vr x_, vj i_, .second, vr s_, vr d_, vi n_, vj r_, .second] []) := c0
 have c1 : Kt p e below s₁ st0 (mkF m 9 #[vr x_, vj i_, .second, vr s_, vr d_, vi n_, vj r_, .second] [(.long r_), (.int n_), (rr d_), (rr s_), (.long i_), (rr x_)]) := fun t k => by
  refine c0 t ?_
  show S_ p e below s₁ m 0 #[vr x_, vj i_, .second, vr s_, vr d_, vi n_, vj r_, .second] [] t
  refine XS.aloadN X0.here hx rfl (hb hby d5_0) rfl rfl ?_
  refine XS.lloadN X0.here hx rfl (hb hby d5_1) rfl ?_
  refine XS.aloadN X0.here hx rfl (hb hby d5_2) rfl rfl ?_
  refine XS.aload X0.here hx rfl (hb hby d5_3) rfl rfl ?_
  refine XS.iload X0.here hx rfl (hb hby d5_5) rfl ?_
  refine XS.lload X0.here hx rfl (hb hby d5_7) rfl ?_
  exact k
 obtain ⟨T2, X2, e2, c2⟩ := kgetS X0 hx hZ hown (host := "") (Or.inl (w41 hw)) Via.refl e0 (ZS17_.ext O0.2) c1 rfl (hb hby d5_9)
 have c3 : Kt p e below T2 st0 (mkF m 13 #[vr x_, vj i_, .second, vr s_, vr d_, vi n_, vj r_, .second] [(ii 0), (rr f_), (.long r_), (.int n_), (rr d_), (rr s_), (.long i_), (rr x_)]) := fun t k => by
  refine c2 t ?_
  show S_ p e below T2 m 12 #[vr x_, vj i_, .second, vr s_, vr d_, vi n_, vj r_, .second] [(rr f_), (.long r_), (.int n_), (rr d_), (rr s_), (.long i_), (rr x_)] t
  refine XS.iconst X2.here hx rfl (hb hby d5_12) ?_
  exact k
 obtain ⟨_, T4, L4, X4, hQ4, c4⟩ := kstat X2 hx hZ hown (w44 hw) (w45 hw) (w46 hw) (w47 hw) (rm_oiempty l Z a0 hw [] w_ h0 n0 O0 ZS14_) e2 c3 hml pd_prLjava_util_OptionalInt_ [] [(ii 0), (rr f_), (.long r_), (.int n_), (rr d_), (rr s_), (.long i_), (rr x_)] 10 (hb hby d5_13) rfl rfl rfl rfl rfl rfl
 obtain ⟨rfl, N5q, K6⟩ := hQ4
 have N5 := Fr.app N0 N5q
 obtain ⟨_, T7, L7, X7, hQ7, c7⟩ := kspec X4 hx hZ hown (w49 hw) (w50 hw) (w26 hw) (w51 hw) (rm_oinit2 l Z a0 hw [] x_ i_ s_ d_ n_ r_ f_ w_ h0 n0 O0 E0_ F1_ F2_ F3_ F4_ F5_ F6_ F7_ F8_ F9_ F10_ F11_ F12_ G13_ ZE15_ ZF16_ hq_ hp_) K6 c4 hml pd_pJLjava_lang_String_Lcom_example_lexchange_lexchange_Side_IJLcom_example_lexchange_lexchange_TimeInForce_ZLjava_util_OptionalInt_rV x_ [(.long i_), (rr s_), (rr d_), (.int n_), (.long r_), (rr f_), (ii 0), (rr w_)] [] 0 (hb hby d5_16) rfl rfl rfl rfl rfl rfl
 obtain ⟨rfl, N8q, K9, p10, p11, p12, p13, p14, p15⟩ := hQ7
 have N8 := Fr.app N5 N8q
 have o16 := O0.keep K9 (allS G13_ all0)
 have kp17 := kp0.trans K9 (allS (Or.inl (List.mem_of_getElem? (i := 0) rfl)) all0)
 obtain ⟨fs, hr, hrun, hended, hW, hsame⟩ := X7.leave (v := none) (fun _ => rfl)
 refine ⟨_, _, c7 _ ?_, hrun, hended, _, _, rfl, ?_, ⟨_, rfl⟩, hW, hsame.mono (by decide) (by decide)⟩
 ·show S_ p e below T7 m 19 #[vr x_, vj i_, .second, vr s_, vr d_, vi n_, vj r_, .second] [] _
  exact X7.returnOut hx Bd.returns (hb hby d5_19) hr
 ·show Q_oinit1 Z x_ i_ s_ d_ n_ r_ f_ w_ h0 n0 _ T7.heap _
  exact ⟨rfl, N8, kp17, p10, p11, p12, p13, p14, p15⟩
theorem d6_0 : decode prog_29_method_19_code 0 = .ok (.aload_n 0, 1) := by decide +kernel
theorem d6_1 : decode prog_29_method_19_code 1 = .ok (.aload_n 0, 1) := by decide +kernel
theorem d6_2 : decode prog_29_method_19_code 2 = .ok (.getfield 73, 3) := by decide +kernel
theorem d6_5 : decode prog_29_method_19_code 5 = .ok (.putfield 77, 3) := by decide +kernel
theorem d6_8 : decode prog_29_method_19_code 8 = .ok (.aload_n 0, 1) := by decide +kernel
theorem d6_9 : decode prog_29_method_19_code 9 = .ok (.getfield 66, 3) := by decide +kernel
theorem d6_12 : decode prog_29_method_19_code 12 = .ok (.invokevirtual 36, 3) := by decide +kernel
theorem d6_15 : decode prog_29_method_19_code 15 = .ok (.ifCond .eq 28, 3) := by decide +kernel
theorem d6_43 : decode prog_29_method_19_code 43 = .ok (.return_, 1) := by decide +kernel
theorem ef_show (m : MethodId) (x_ : Addr) : entryFrame m #[(rr x_)] 1 = mkF m 0 #[vr x_] [] := by first | (simp [entryFrame, mkF, argsToLocals, Value.category]; done) | rfl
def Q_show (Z : State) (x_ : Addr) (w_ : Addr) (n_ : Int32) (l_ : Int32) (h0 : Heap) (n0 : Nat) (v : Option Value) (h : Heap) (L : List Loc) : Prop := v = none ∧ Fr n0 L ∧ Keep h0 h [x_] ∧ Fld Z h x_ nm0 "peak" nm12 (rr w_) ∧ Fld Z h x_ nm0 "remaining" "I" (.int n_) ∧ Fld Z h x_ nm0 "slice" "I" (.int n_) ∧ Fld Z h x_ nm0 "queue" nm4 .null ∧ Fld Z h x_ nm0 "previous" nm1 .null ∧ Fld Z h x_ nm0 "next" nm1 .null
set_option maxRecDepth 65536 in
set_option maxHeartbeats 40000000 in
theorem rm_show (l : Launch) (Z : State) (a0 : Array Value) (hw : HW Z a0) (ws : List Jvm.Cond) (x_ : Addr) (w_ : Addr) (n_ : Int32) (l_ : Int32) (h0 : Heap) (n0 : Nat) (O0 : Old Z n0 h0) (E0_ : Exa Z h0 x_ nm0) (F1_ : Fld Z h0 x_ nm0 "peak" nm12 (rr w_)) (F2_ : Fld Z h0 x_ nm0 "remaining" "I" (.int n_)) (F3_ : Fld Z h0 x_ nm0 "slice" "I" (.int l_)) (F4_ : Fld Z h0 x_ nm0 "queue" nm4 .null) (F5_ : Fld Z h0 x_ nm0 "previous" nm1 .null) (F6_ : Fld Z h0 x_ nm0 "next" nm1 .null) (G7_ : n0 ≤ x_) (ZE8_ : Exa Z Z.heap w_ nm6) (ZF9_ : Fld Z Z.heap w_ nm6 "isPresent" "Z" (ii 0)) :
  MFP l Z (⟨nm0, "showSlice", "()V"⟩ : MethodName) prog_29_method_19_code 1 none ({ frames := 1, cells := 0, slots := 0, locals := 12 } : Room) ws #[(rr x_)] h0 (Q_show Z x_ w_ n_ l_ h0 n0) := by
 refine MetFree.of_bodySF (plainFor_of_name pn_com_example_lexchange_lexchange_Order) hisR ?_
 intro p e s m args below meth c s₁ Bd hml0 hP hK
 obtain ⟨rfl, hZ, hh⟩ := hP
 have hx := Bd.exec
 have hby := Bd.bytes
 have hml : c.maxLocals = 1 := hml0
 have hown : s.vm.findClass nm0 = some m.cls := findClass_of_methodNamed Bd.named
 have hnm := (name_of_methodNamed Bd.named Bd.method).1
 have X0 : Stand p l e ({ frames := 1, cells := 0, slots := 0, locals := 12 } : Room) s m #[(rr x_)] below meth c s₁ [] 0 0 := Stand.of_body Bd
 have e0 : s₁.heap = h0 := by rw [← hh, Bd.state]; rfl
 have N0 := Fr.nil n0
 have kp0 : Keep h0 h0 [x_] := Keep.refl _ _
 have c0 : ∀ t, S_ p e below s₁ m 0 #[vr x_] [] t → Steps p.tables e below (s₁.setTop (entryFrame m #[(rr x_)] 1)) t := fun t k => castTop (ef_show m x_) k
 generalize s₁.setTop (entryFrame m #[(rr x_)] 1) = st0 at c0 ⊢
 replace c0 : Kt p e below s₁ st0 (mkF m 0 #[vr x_] []) := c0
 have c1 : Kt p e below s₁ st0 (mkF m 2 #[vr x_] [(rr x_), (rr x_)]) := fun t k => by
  refine c0 t ?_
  show S_ p e below s₁ m 0 #[vr x_] [] t
  refine XS.aloadN X0.here hx rfl (hb hby d6_0) rfl rfl ?_
  refine XS.aloadN X0.here hx rfl (hb hby d6_1) rfl rfl ?_
  exact k
 obtain ⟨T2, X2, e2, c2⟩ := kget X0 hx hZ hown (host := "") (Or.inl (w74 hw)) Via.refl e0 F2_ c1 rfl rfl (hb hby d6_2)
 obtain ⟨T3, h3, X3, e3, W3, f4, o6, N5, c3⟩ := kput X2 hx hZ .int hown (host := "") (Or.inl (w85 hw)) Via.refl e2 F3_ E0_ (Or.inl (w86 hw)) (w25 hw) c2 rfl rfl (hb hby d6_5) (by decide) rfl rfl O0 N0 G7_
 have kp7 := kp0.wr W3 (Or.inl (List.mem_of_getElem? (i := 0) rfl))
 have f8 := F1_.other W3 (Or.inr (slot_ne (Or.inr (w71 hw)) (Or.inl (w86 hw)) (by decide) (t := (.object nm6)) (t' := .int) (by decide) (by decide)))
 have c9 : Kt p e below T3 st0 (mkF m 9 #[vr x_] [(rr x_)]) := fun t k => by
  refine c3 t ?_
  show S_ p e below T3 m 8 #[vr x_] [] t
  refine XS.aloadN X3.here hx rfl (hb hby d6_8) rfl rfl ?_
  exact k
 obtain ⟨T10, X10, e10, c10⟩ := kget X3 hx hZ hown (host := "") (Or.inl (w70 hw)) Via.refl e3 f8 c9 rfl rfl (hb hby d6_9)
 obtain ⟨_, T11, L11, X11, hQ11, c11⟩ := kvirt X10 hx hZ hown (w53 hw) (w54 hw) (w56 hw) (w55 hw) (w57 hw) (w46 hw) (rm_ispres l Z a0 hw [] w_ h3 n0 o6 ZF9_) e10 (ZE8_.ext o6.2) c10 hml pd_prZ [] [] 0 (hb hby d6_12) rfl rfl rfl rfl rfl rfl
 obtain ⟨rfl, N12q, K13⟩ := hQ11
 have N12 := Fr.app N5 N12q
 have f14 := F2_.other W3 (Or.inr (slot_ne (Or.inl (w75 hw)) (Or.inl (w86 hw)) (by decide) (t := .int) (t' := .int) (by decide) (by decide)))
 have f15 := F4_.other W3 (Or.inr (slot_ne (Or.inl (w109 hw)) (Or.inl (w86 hw)) (by decide) (t := (.object nm3)) (t' := .int) (by decide) (by decide)))
 have f16 := F5_.other W3 (Or.inr (slot_ne (Or.inl (w113 hw)) (Or.inl (w86 hw)) (by decide) (t := (.object nm0)) (t' := .int) (by decide) (by decide)))
 have f17 := F6_.other W3 (Or.inr (slot_ne (Or.inl (w115 hw)) (Or.inl (w86 hw)) (by decide) (t := (.object nm0)) (t' := .int) (by decide) (by decide)))
 obtain ⟨fs, hr, hrun, hended, hW, hsame⟩ := X11.leave (v := none) (fun _ => rfl)
 refine ⟨_, _, c11 _ ?_, hrun, hended, _, _, rfl, ?_, ⟨_, rfl⟩, hW, hsame.mono (by decide) (by decide)⟩
 ·show S_ p e below T11 m 15 #[vr x_] [(ii 0)] _
  refine yI X11.here hx rfl 15 43 rfl (hb hby d6_15) rfl rfl ?_
  show S_ p e below T11 m 43 #[vr x_] [] _
  exact X11.returnOut hx Bd.returns (hb hby d6_43) hr
 ·show Q_show Z x_ w_ n_ l_ h0 n0 _ T11.heap _
  rw [K13]
  exact ⟨rfl, N12, kp7, f8, f14, f4, f15, f16, f17⟩
theorem d7_0 : decode prog_29_method_20_code 0 = .ok (.aload_n 0, 1) := by decide +kernel
theorem d7_1 : decode prog_29_method_20_code 1 = .ok (.getfield 66, 3) := by decide +kernel
theorem d7_4 : decode prog_29_method_20_code 4 = .ok (.invokevirtual 36, 3) := by decide +kernel
theorem d7_7 : decode prog_29_method_20_code 7 = .ok (.ifCond .eq 17, 3) := by decide +kernel
theorem d7_24 : decode prog_29_method_20_code 24 = .ok (.iconst 0, 1) := by decide +kernel
theorem d7_25 : decode prog_29_method_20_code 25 = .ok (.ireturn, 1) := by decide +kernel
theorem ef_hidden (m : MethodId) (x_ : Addr) : entryFrame m #[(rr x_)] 1 = mkF m 0 #[vr x_] [] := by first | (simp [entryFrame, mkF, argsToLocals, Value.category]; done) | rfl
def Q_hidden (Z : State) (x_ : Addr) (w_ : Addr) (h0 : Heap) (n0 : Nat) (v : Option Value) (h : Heap) (L : List Loc) : Prop := v = some (ii 0) ∧ Fr n0 L ∧ h = h0
set_option maxRecDepth 65536 in
set_option maxHeartbeats 40000000 in
theorem rm_hidden (l : Launch) (Z : State) (a0 : Array Value) (hw : HW Z a0) (ws : List Jvm.Cond) (x_ : Addr) (w_ : Addr) (h0 : Heap) (n0 : Nat) (O0 : Old Z n0 h0) (F0_ : Fld Z h0 x_ nm0 "peak" nm12 (rr w_)) (ZE1_ : Exa Z Z.heap w_ nm6) (ZF2_ : Fld Z Z.heap w_ nm6 "isPresent" "Z" (ii 0)) :
  MFP l Z (⟨nm0, "hidden", "()Z"⟩ : MethodName) prog_29_method_20_code 1 (some .boolean) ({ frames := 1, cells := 0, slots := 0, locals := 12 } : Room) ws #[(rr x_)] h0 (Q_hidden Z x_ w_ h0 n0) := by
 refine MetFree.of_bodySF (plainFor_of_name pn_com_example_lexchange_lexchange_Order) hisR ?_
 intro p e s m args below meth c s₁ Bd hml0 hP hK
 obtain ⟨rfl, hZ, hh⟩ := hP
 have hx := Bd.exec
 have hby := Bd.bytes
 have hml : c.maxLocals = 1 := hml0
 have hown : s.vm.findClass nm0 = some m.cls := findClass_of_methodNamed Bd.named
 have hnm := (name_of_methodNamed Bd.named Bd.method).1
 have X0 : Stand p l e ({ frames := 1, cells := 0, slots := 0, locals := 12 } : Room) s m #[(rr x_)] below meth c s₁ [] 0 0 := Stand.of_body Bd
 have e0 : s₁.heap = h0 := by rw [← hh, Bd.state]; rfl
 have N0 := Fr.nil n0
 have kp0 : Keep h0 h0 [] := Keep.refl _ _
 have c0 : ∀ t, S_ p e below s₁ m 0 #[vr x_] [] t → Steps p.tables e below (s₁.setTop (entryFrame m #[(rr x_)] 1)) t := fun t k => castTop (ef_hidden m x_) k
 generalize s₁.setTop (entryFrame m #[(rr x_)] 1) = st0 at c0 ⊢
 replace c0 : Kt p e below s₁ st0 (mkF m 0 #[vr x_] []) := c0
 have c1 : Kt p e below s₁ st0 (mkF m 1 #[vr x_] [(rr x_)]) := fun t k => by
  refine c0 t ?_
  show S_ p e below s₁ m 0 #[vr x_] [] t
  refine XS.aloadN X0.here hx rfl (hb hby d7_0) rfl rfl ?_
  exact k
 obtain ⟨T2, X2, e2, c2⟩ := kget X0 hx hZ hown (host := "") (Or.inl (w70 hw)) Via.refl e0 F0_ c1 rfl rfl (hb hby d7_1)
 obtain ⟨_, T3, L3, X3, hQ3, c3⟩ := kvirt X2 hx hZ hown (w53 hw) (w54 hw) (w56 hw) (w55 hw) (w57 hw) (w46 hw) (rm_ispres l Z a0 hw [] w_ h0 n0 O0 ZF2_) e2 (ZE1_.ext O0.2) c2 hml pd_prZ [] [] 0 (hb hby d7_4) rfl rfl rfl rfl rfl rfl
 obtain ⟨rfl, N4q, K5⟩ := hQ3
 have N4 := Fr.app N0 N4q
 obtain ⟨fs, hr, hrun, hended, hW, hsame⟩ := X3.leave (v := some (ii 0)) (fun h => by rw [Bd.returns] at h; cases h)
 refine ⟨_, _, c3 _ ?_, hrun, hended, _, _, rfl, ?_, ⟨_, rfl⟩, hW, hsame.mono (by decide) (by decide)⟩
 ·show S_ p e below T3 m 7 #[vr x_] [(ii 0)] _
  refine yI X3.here hx rfl 7 24 rfl (hb hby d7_7) rfl rfl ?_
  refine XS.iconst X3.here hx rfl (hb hby d7_24) ?_
  show S_ p e below T3 m 25 #[vr x_] [(ii 0)] _
  exact retN X3 hx (t := .boolean) Bd.returns (by simp) (hb hby d7_25) hr
 ·show Q_hidden Z x_ w_ h0 n0 _ T3.heap _
  rw [K5]
  exact ⟨rfl, N4, rfl⟩
theorem d8_0 : decode prog_29_method_12_code 0 = .ok (.aload_n 0, 1) := by decide +kernel
theorem d8_1 : decode prog_29_method_12_code 1 = .ok (.invokevirtual 80, 3) := by decide +kernel
theorem d8_4 : decode prog_29_method_12_code 4 = .ok (.ifCond .eq 7, 3) := by decide +kernel
theorem d8_11 : decode prog_29_method_12_code 11 = .ok (.aload_n 0, 1) := by decide +kernel
theorem d8_12 : decode prog_29_method_12_code 12 = .ok (.getfield 77, 3) := by decide +kernel
theorem d8_15 : decode prog_29_method_12_code 15 = .ok (.ireturn, 1) := by decide +kernel
theorem ef_shown (m : MethodId) (x_ : Addr) : entryFrame m #[(rr x_)] 1 = mkF m 0 #[vr x_] [] := by first | (simp [entryFrame, mkF, argsToLocals, Value.category]; done) | rfl
def Q_shown (Z : State) (x_ : Addr) (w_ : Addr) (l_ : Int32) (h0 : Heap) (n0 : Nat) (v : Option Value) (h : Heap) (L : List Loc) : Prop := v = some (.int l_) ∧ Fr n0 L ∧ h = h0
set_option maxRecDepth 65536 in
set_option maxHeartbeats 40000000 in
theorem rm_shown (l : Launch) (Z : State) (a0 : Array Value) (hw : HW Z a0) (ws : List Jvm.Cond) (x_ : Addr) (w_ : Addr) (l_ : Int32) (h0 : Heap) (n0 : Nat) (O0 : Old Z n0 h0) (E0_ : Exa Z h0 x_ nm0) (F1_ : Fld Z h0 x_ nm0 "peak" nm12 (rr w_)) (F2_ : Fld Z h0 x_ nm0 "slice" "I" (.int l_)) (ZE3_ : Exa Z Z.heap w_ nm6) (ZF4_ : Fld Z Z.heap w_ nm6 "isPresent" "Z" (ii 0)) :
  MFP l Z (⟨nm0, "shown", "()I"⟩ : MethodName) prog_29_method_12_code 1 (some .int) ({ frames := 2, cells := 0, slots := 0, locals := 24 } : Room) ws #[(rr x_)] h0 (Q_shown Z x_ w_ l_ h0 n0) := by
 refine MetFree.of_bodySF (plainFor_of_name pn_com_example_lexchange_lexchange_Order) hisR ?_
 intro p e s m args below meth c s₁ Bd hml0 hP hK
 obtain ⟨rfl, hZ, hh⟩ := hP
 have hx := Bd.exec
 have hby := Bd.bytes
 have hml : c.maxLocals = 1 := hml0
 have hown : s.vm.findClass nm0 = some m.cls := findClass_of_methodNamed Bd.named
 have hnm := (name_of_methodNamed Bd.named Bd.method).1
 have X0 : Stand p l e ({ frames := 2, cells := 0, slots := 0, locals := 24 } : Room) s m #[(rr x_)] below meth c s₁ [] 0 0 := Stand.of_body Bd
 have e0 : s₁.heap = h0 := by rw [← hh, Bd.state]; rfl
 have N0 := Fr.nil n0
 have kp0 : Keep h0 h0 [] := Keep.refl _ _
 have c0 : ∀ t, S_ p e below s₁ m 0 #[vr x_] [] t → Steps p.tables e below (s₁.setTop (entryFrame m #[(rr x_)] 1)) t := fun t k => castTop (ef_shown m x_) k
 generalize s₁.setTop (entryFrame m #[(rr x_)] 1) = st0 at c0 ⊢
 replace c0 : Kt p e below s₁ st0 (mkF m 0 #[vr x_] []) := c0
 have c1 : Kt p e below s₁ st0 (mkF m 1 #[vr x_] [(rr x_)]) := fun t k => by
  refine c0 t ?_
  show S_ p e below s₁ m 0 #[vr x_] [] t
  refine XS.aloadN X0.here hx rfl (hb hby d8_0) rfl rfl ?_
  exact k
 obtain ⟨_, T2, L2, X2, hQ2, c2⟩ := kpriv X0 hx hZ hown (w104 hw) (w25 hw) (w106 hw) (w105 hw) (w107 hw) (w26 hw) (rm_hidden l Z a0 hw [] x_ w_ h0 n0 O0 F1_ ZE3_ ZF4_) e0 E0_ c1 hml pd_prZ [] [] 0 (hb hby d8_1) rfl rfl rfl rfl rfl rfl
 obtain ⟨rfl, N3q, K4⟩ := hQ2
 have N3 := Fr.app N0 N3q
 have c5 : Kt p e below T2 st0 (mkF m 12 #[vr x_] [(rr x_)]) := fun t k => by
  refine c2 t ?_
  show S_ p e below T2 m 4 #[vr x_] [(ii 0)] t
  refine yI X2.here hx rfl 4 11 rfl (hb hby d8_4) rfl rfl ?_
  refine XS.aloadN X2.here hx rfl (hb hby d8_11) rfl rfl ?_
  exact k
 obtain ⟨T6, X6, e6, c6⟩ := kget X2 hx hZ hown (host := "") (Or.inl (w85 hw)) Via.refl K4 F2_ c5 rfl rfl (hb hby d8_12)
 obtain ⟨fs, hr, hrun, hended, hW, hsame⟩ := X6.leave (v := some (.int l_)) (fun h => by rw [Bd.returns] at h; cases h)
 refine ⟨_, _, c6 _ ?_, hrun, hended, _, _, rfl, ?_, ⟨_, rfl⟩, hW, hsame.mono (by decide) (by decide)⟩
 ·show S_ p e below T6 m 15 #[vr x_] [(.int l_)] _
  exact retOut X6 hx Bd.returns rfl (Or.inl ⟨rfl, Or.inl rfl, _, rfl⟩) (hb hby d8_15) hr
 ·show Q_shown Z x_ w_ l_ h0 n0 _ T6.heap _
  rw [e6]
  exact ⟨rfl, N3, rfl⟩
theorem d9_0 : decode prog_34_method_3_code 0 = .ok (.aload_n 1, 1) := by decide +kernel
theorem d9_1 : decode prog_34_method_3_code 1 = .ok (.invokevirtual 23, 3) := by decide +kernel
theorem pd_prI : parseMethodDescriptor "()I" = some ⟨[], some .int⟩ := by decide +kernel
theorem d9_4 : decode prog_34_method_3_code 4 = .ok (.ifCond .le 10, 3) := by decide +kernel
theorem d9_7 : decode prog_34_method_3_code 7 = .ok (.aload_n 0, 1) := by decide +kernel
theorem d9_8 : decode prog_34_method_3_code 8 = .ok (.getfield 10, 3) := by decide +kernel
theorem d9_11 : decode prog_34_method_3_code 11 = .ok (.goto 7, 3) := by decide +kernel
theorem d9_18 : decode prog_34_method_3_code 18 = .ok (.astore_n 2, 1) := by decide +kernel
theorem d9_19 : decode prog_34_method_3_code 19 = .ok (.aload_n 1, 1) := by decide +kernel
theorem d9_20 : decode prog_34_method_3_code 20 = .ok (.aload_n 0, 1) := by decide +kernel
theorem d9_21 : decode prog_34_method_3_code 21 = .ok (.putfield 28, 3) := by decide +kernel
theorem d9_24 : decode prog_34_method_3_code 24 = .ok (.aload_n 1, 1) := by decide +kernel
theorem d9_25 : decode prog_34_method_3_code 25 = .ok (.aload_n 2, 1) := by decide +kernel
theorem d9_26 : decode prog_34_method_3_code 26 = .ok (.getfield 32, 3) := by decide +kernel
theorem d9_29 : decode prog_34_method_3_code 29 = .ok (.putfield 36, 3) := by decide +kernel
theorem d9_32 : decode prog_34_method_3_code 32 = .ok (.aload_n 1, 1) := by decide +kernel
theorem d9_33 : decode prog_34_method_3_code 33 = .ok (.aconst_null, 1) := by decide +kernel
theorem d9_34 : decode prog_34_method_3_code 34 = .ok (.putfield 39, 3) := by decide +kernel
theorem d9_37 : decode prog_34_method_3_code 37 = .ok (.aload_n 2, 1) := by decide +kernel
theorem d9_38 : decode prog_34_method_3_code 38 = .ok (.getfield 32, 3) := by decide +kernel
theorem d9_41 : decode prog_34_method_3_code 41 = .ok (.ifnonnull 11, 3) := by decide +kernel
theorem d9_44 : decode prog_34_method_3_code 44 = .ok (.aload_n 2, 1) := by decide +kernel
theorem d9_45 : decode prog_34_method_3_code 45 = .ok (.aload_n 1, 1) := by decide +kernel
theorem d9_46 : decode prog_34_method_3_code 46 = .ok (.putfield 42, 3) := by decide +kernel
theorem d9_49 : decode prog_34_method_3_code 49 = .ok (.goto 11, 3) := by decide +kernel
theorem d9_60 : decode prog_34_method_3_code 60 = .ok (.aload_n 2, 1) := by decide +kernel
theorem d9_61 : decode prog_34_method_3_code 61 = .ok (.aload_n 1, 1) := by decide +kernel
theorem d9_62 : decode prog_34_method_3_code 62 = .ok (.putfield 32, 3) := by decide +kernel
theorem d9_65 : decode prog_34_method_3_code 65 = .ok (.return_, 1) := by decide +kernel
theorem ef_addSN (m : MethodId) (q_ : Addr) (o_ : Addr) : entryFrame m #[(rr q_), (rr o_)] 3 = mkF m 0 #[vr q_, vr o_, u_] [] := by first | (simp [entryFrame, mkF, argsToLocals, Value.category]; done) | rfl
def Q_addSN (Z : State) (q_ : Addr) (o_ : Addr) (p_ : Addr) (h_ : Addr) (w_ : Addr) (l_ : Int32) (h0 : Heap) (n0 : Nat) (v : Option Value) (h : Heap) (L : List Loc) : Prop := v = none ∧ Fr n0 L ∧ Keep h0 h [o_, p_] ∧ Fld Z h o_ nm0 "queue" nm4 (rr q_) ∧ Fld Z h o_ nm0 "previous" nm1 .null ∧ Fld Z h o_ nm0 "next" nm1 .null ∧ Fld Z h p_ nm2 "head" nm1 (rr o_) ∧ Fld Z h p_ nm2 "tail" nm1 (rr o_)
set_option maxRecDepth 65536 in
set_option maxHeartbeats 40000000 in
theorem rm_addSN (l : Launch) (Z : State) (a0 : Array Value) (hw : HW Z a0) (ws : List Jvm.Cond) (q_ : Addr) (o_ : Addr) (p_ : Addr) (h_ : Addr) (w_ : Addr) (l_ : Int32) (h0 : Heap) (n0 : Nat) (O0 : Old Z n0 h0) (E0_ : Exa Z h0 q_ nm3) (E1_ : Exa Z h0 o_ nm0) (F2_ : Fld Z h0 q_ nm3 "shown" nm5 (rr p_)) (F3_ : Fld Z h0 q_ nm3 "hidden" nm5 (rr h_)) (F4_ : Fld Z h0 o_ nm0 "peak" nm12 (rr w_)) (F5_ : Fld Z h0 o_ nm0 "slice" "I" (.int l_)) (F6_ : Fld Z h0 o_ nm0 "queue" nm4 .null) (F7_ : Fld Z h0 o_ nm0 "previous" nm1 .null) (F8_ : Fld Z h0 o_ nm0 "next" nm1 .null) (G9_ : n0 ≤ o_) (ZE10_ : Exa Z Z.heap w_ nm6) (ZF11_ : Fld Z Z.heap w_ nm6 "isPresent" "Z" (ii 0)) (E12_ : Exa Z h0 p_ nm2) (G13_ : n0 ≤ p_) (F14_ : Fld Z h0 p_ nm2 "head" nm1 .null) (F15_ : Fld Z h0 p_ nm2 "tail" nm1 .null) (hl_ : (0 : Int32) < l_) :
  MFP l Z (⟨nm3, "add", nm8⟩ : MethodName) prog_34_method_3_code 3 none ({ frames := 3, cells := 0, slots := 0, locals := 36 } : Room) ws #[(rr q_), (rr o_)] h0 (Q_addSN Z q_ o_ p_ h_ w_ l_ h0 n0) := by
 refine MetFree.of_bodySF (plainFor_of_name pn_com_example_lexchange_lexchange_PriceQueue) hisR ?_
 intro p e s m args below meth c s₁ Bd hml0 hP hK
 obtain ⟨rfl, hZ, hh⟩ := hP
 have hx := Bd.exec
 have hby := Bd.bytes
 have hml : c.maxLocals = 3 := hml0
 have hown : s.vm.findClass nm3 = some m.cls := findClass_of_methodNamed Bd.named
 have hnm := (name_of_methodNamed Bd.named Bd.method).1
 have X0 : Stand p l e ({ frames := 3, cells := 0, slots := 0, locals := 36 } : Room) s m #[(rr q_), (rr o_)] below meth c s₁ [] 0 0 := Stand.of_body Bd
 have e0 : s₁.heap = h0 := by rw [← hh, Bd.state]; rfl
 have N0 := Fr.nil n0
 have kp0 : Keep h0 h0 [o_, p_] := Keep.refl _ _
 have c0 : ∀ t, S_ p e below s₁ m 0 #[vr q_, vr o_, u_] [] t → Steps p.tables e below (s₁.setTop (entryFrame m #[(rr q_), (rr o_)] 3)) t := fun t k => castTop (ef_addSN m q_ o_) k
 generalize s₁.setTop (entryFrame m #[(rr q_), (rr o_)] 3) = st0 at c0 ⊢
 replace c0 : Kt p e below s₁ st0 (mkF m 0 #[vr q_, vr o_, u_] []) := c0
 have c1 : Kt p e below s₁ st0 (mkF m 1 #[vr q_, vr o_, u_] [(rr o_)]) := fun t k => by
  refine c0 t ?_
  show S_ p e below s₁ m 0 #[vr q_, vr o_, u_] [] t
  refine XS.aloadN X0.here hx rfl (hb hby d9_0) rfl rfl ?_
  exact k
 obtain ⟨_, T2, L2, X2, hQ2, c2⟩ := kvirt X0 hx hZ hown (w99 hw) (w100 hw) (w102 hw) (w101 hw) (w103 hw) (w26 hw) (rm_shown l Z a0 hw [] o_ w_ l_ h0 n0 O0 E1_ F4_ F5_ ZE10_ ZF11_) e0 E1_ c1 hml pd_prI [] [] 0 (hb hby d9_1) rfl rfl rfl rfl rfl rfl
 obtain ⟨rfl, N3q, K4⟩ := hQ2
 have N3 := Fr.app N0 N3q
 have c5 : Kt p e below T2 st0 (mkF m 8 #[vr q_, vr o_, u_] [(rr q_)]) := fun t k => by
  refine c2 t ?_
  show S_ p e below T2 m 4 #[vr q_, vr o_, u_] [(.int l_)] t
  refine XS.ifNo X2.here hx rfl (hb hby d9_4) rfl ((if0 _ _).trans (tlt hl_).2.2.2) ?_
  refine XS.aloadN X2.here hx rfl (hb hby d9_7) rfl rfl ?_
  exact k
 obtain ⟨T6, X6, e6, c6⟩ := kget X2 hx hZ hown (host := "") (Or.inl (w18 hw)) Via.refl K4 F2_ c5 rfl rfl (hb hby d9_8)
 have c7 : Kt p e below T6 st0 (mkF m 21 #[vr q_, vr o_, vr p_] [(rr q_), (rr o_)]) := fun t k => by
  refine c6 t ?_
  show S_ p e below T6 m 11 #[vr q_, vr o_, u_] [(rr p_)] t
  refine yG X6.here hx rfl 11 18 rfl (hb hby d9_11) ?_
  refine XS.astoreN X6.here hx rfl (hb hby d9_18) rfl rfl (l' := #[vr q_, vr o_, vr p_]) rfl ?_
  refine XS.aloadN X6.here hx rfl (hb hby d9_19) rfl rfl ?_
  refine XS.aloadN X6.here hx rfl (hb hby d9_20) rfl rfl ?_
  exact k
 obtain ⟨T8, h8, X8, e8, W8, f9, o11, N10, c8⟩ := kput X6 hx hZ (.object nm3) hown (host := "") (Or.inl (w108 hw)) Via.refl e6 F6_ E1_ (Or.inl (w109 hw)) (w25 hw) c7 rfl rfl (hb hby d9_21) (by decide) rfl rfl O0 N3 G9_
 have kp12 := kp0.wr W8 (Or.inl (List.mem_of_getElem? (i := 0) rfl))
 have q13 := Exa.ne E12_ E1_ (by decide)
 have f14 := F7_.other W8 (Or.inr (slot_ne (Or.inl (w113 hw)) (Or.inl (w109 hw)) (by decide) (t := (.object nm0)) (t' := (.object nm3)) (by decide) (by decide)))
 have c15 : Kt p e below T8 st0 (mkF m 29 #[vr q_, vr o_, vr p_] [.null, (rr o_)]) := fun t k => by
  refine c8 t ?_
  show S_ p e below T8 m 24 #[vr q_, vr o_, vr p_] [] t
  refine XS.aloadN X8.here hx rfl (hb hby d9_24) rfl rfl ?_
  refine XS.aloadN X8.here hx rfl (hb hby d9_25) rfl rfl ?_
  refine ldF X8 hx hZ hown (w110 hw) Via.refl e8 (F15_.other W8 (Or.inl q13)) rfl rfl (hb hby d9_26) ?_
  exact k
 obtain ⟨T16, h16, X16, e16, W16, f17, o19, N18, c16⟩ := kput X8 hx hZ (.object nm0) hown (host := "") (Or.inl (w112 hw)) Via.refl e8 f14 (E1_.wr W8) (Or.inl (w113 hw)) (w25 hw) c15 rfl rfl (hb hby d9_29) (by decide) rfl rfl o11 N10 G9_
 have kp20 := kp12.wr W16 (Or.inl (List.mem_of_getElem? (i := 0) rfl))
 have f21 := (F8_.other W8 (Or.inr (slot_ne (Or.inl (w115 hw)) (Or.inl (w109 hw)) (by decide) (t := (.object nm0)) (t' := (.object nm3)) (by decide) (by decide)))).other W16 (Or.inr (slot_ne (Or.inl (w115 hw)) (Or.inl (w113 hw)) (by decide) (t := (.object nm0)) (t' := (.object nm0)) (by decide) (by decide)))
 have c22 : Kt p e below T16 st0 (mkF m 34 #[vr q_, vr o_, vr p_] [.null, (rr o_)]) := fun t k => by
  refine c16 t ?_
  show S_ p e below T16 m 32 #[vr q_, vr o_, vr p_] [] t
  refine XS.aloadN X16.here hx rfl (hb hby d9_32) rfl rfl ?_
  refine XS.aconstNull X16.here hx rfl (hb hby d9_33) ?_
  exact k
 obtain ⟨T23, h23, X23, e23, W23, f24, o26, N25, c23⟩ := kput X16 hx hZ (.object nm0) hown (host := "") (Or.inl (w114 hw)) Via.refl e16 f21 ((E1_.wr W8).wr W16) (Or.inl (w115 hw)) (w25 hw) c22 rfl rfl (hb hby d9_34) (by decide) rfl rfl o19 N18 G9_
 have kp27 := kp20.wr W23 (Or.inl (List.mem_of_getElem? (i := 0) rfl))
 have c28 : Kt p e below T23 st0 (mkF m 46 #[vr q_, vr o_, vr p_] [(rr o_), (rr p_)]) := fun t k => by
  refine c23 t ?_
  show S_ p e below T23 m 37 #[vr q_, vr o_, vr p_] [] t
  refine XS.aloadN X23.here hx rfl (hb hby d9_37) rfl rfl ?_
  refine ldF X23 hx hZ hown (w110 hw) Via.refl e23 (((F15_.other W8 (Or.inl q13)).other W16 (Or.inl q13)).other W23 (Or.inl q13)) rfl rfl (hb hby d9_38) ?_
  refine XS.ifnonnullNo X23.here hx rfl (hb hby d9_41) rfl ?_
  refine XS.aloadN X23.here hx rfl (hb hby d9_44) rfl rfl ?_
  refine XS.aloadN X23.here hx rfl (hb hby d9_45) rfl rfl ?_
  exact k
 obtain ⟨T29, h29, X29, e29, W29, f30, o32, N31, c29⟩ := own_putFR X23 hx hZ (.object nm0) hown (w92 hw) Via.refl e23 (((F14_.other W8 (Or.inl q13)).other W16 (Or.inl q13)).other W23 (Or.inl q13)) (((E12_.wr W8).wr W16).wr W23) (w93 hw) (w12 hw) c28 rfl rfl (hb hby d9_46) (by decide) rfl rfl o26 N25 G13_
 have kp33 := kp27.wr W29 (Or.inl (List.mem_of_getElem? (i := 1) rfl))
 have f34 := (((F15_.other W8 (Or.inl q13)).other W16 (Or.inl q13)).other W23 (Or.inl q13)).other W29 (Or.inr (slot_ne (Or.inl (w111 hw)) (Or.inl (w93 hw)) (by decide) (t := (.object nm0)) (t' := (.object nm0)) (by decide) (by decide)))
 have c35 : Kt p e below T29 st0 (mkF m 62 #[vr q_, vr o_, vr p_] [(rr o_), (rr p_)]) := fun t k => by
  refine c29 t ?_
  show S_ p e below T29 m 49 #[vr q_, vr o_, vr p_] [] t
  refine yG X29.here hx rfl 49 60 rfl (hb hby d9_49) ?_
  refine XS.aloadN X29.here hx rfl (hb hby d9_60) rfl rfl ?_
  refine XS.aloadN X29.here hx rfl (hb hby d9_61) rfl rfl ?_
  exact k
 obtain ⟨T36, h36, X36, e36, W36, f37, o39, N38, c36⟩ := own_putFR X29 hx hZ (.object nm0) hown (w110 hw) Via.refl e29 f34 ((((E12_.wr W8).wr W16).wr W23).wr W29) (w111 hw) (w12 hw) c35 rfl rfl (hb hby d9_62) (by decide) rfl rfl o32 N31 G13_
 have kp40 := kp33.wr W36 (Or.inl (List.mem_of_getElem? (i := 1) rfl))
 have f41 := (((f9.other W16 (Or.inr (slot_ne (Or.inl (w109 hw)) (Or.inl (w113 hw)) (by decide) (t := (.object nm3)) (t' := (.object nm0)) (by decide) (by decide)))).other W23 (Or.inr (slot_ne (Or.inl (w109 hw)) (Or.inl (w115 hw)) (by decide) (t := (.object nm3)) (t' := (.object nm0)) (by decide) (by decide)))).other W29 (Or.inl q13.symm)).other W36 (Or.inl q13.symm)
 have f42 := ((f17.other W23 (Or.inr (slot_ne (Or.inl (w113 hw)) (Or.inl (w115 hw)) (by decide) (t := (.object nm0)) (t' := (.object nm0)) (by decide) (by decide)))).other W29 (Or.inl q13.symm)).other W36 (Or.inl q13.symm)
 have f43 := f30.other W36 (Or.inr (slot_ne (Or.inl (w93 hw)) (Or.inl (w111 hw)) (by decide) (t := (.object nm0)) (t' := (.object nm0)) (by decide) (by decide)))
 obtain ⟨fs, hr, hrun, hended, hW, hsame⟩ := X36.leave (v := none) (fun _ => rfl)
 refine ⟨_, _, c36 _ ?_, hrun, hended, _, _, rfl, ?_, ⟨_, rfl⟩, hW, hsame.mono (by decide) (by decide)⟩
 ·show S_ p e below T36 m 65 #[vr q_, vr o_, vr p_] [] _
  exact X36.returnOut hx Bd.returns (hb hby d9_65) hr
 ·show Q_addSN Z q_ o_ p_ h_ w_ l_ h0 n0 _ T36.heap _
  rw [e36]
  exact ⟨rfl, N38, kp40, f41, f42, ((f24.other W29 (Or.inl q13.symm)).other W36 (Or.inl q13.symm)), f43, f37⟩
theorem d9_52 : decode prog_34_method_3_code 52 = .ok (.aload_n 2, 1) := by decide +kernel
theorem d9_53 : decode prog_34_method_3_code 53 = .ok (.getfield 32, 3) := by decide +kernel
theorem d9_56 : decode prog_34_method_3_code 56 = .ok (.aload_n 1, 1) := by decide +kernel
theorem d9_57 : decode prog_34_method_3_code 57 = .ok (.putfield 39, 3) := by decide +kernel
theorem ef_addSR (m : MethodId) (q_ : Addr) (o_ : Addr) : entryFrame m #[(rr q_), (rr o_)] 3 = mkF m 0 #[vr q_, vr o_, u_] [] := by first | (simp [entryFrame, mkF, argsToLocals, Value.category]; done) | rfl
def Q_addSR (Z : State) (q_ : Addr) (o_ : Addr) (p_ : Addr) (h_ : Addr) (w_ : Addr) (l_ : Int32) (t_ : Addr) (h0 : Heap) (n0 : Nat) (v : Option Value) (h : Heap) (L : List Loc) : Prop := v = none ∧ Fr n0 L ∧ Keep h0 h [o_, p_, t_] ∧ Fld Z h o_ nm0 "queue" nm4 (rr q_) ∧ Fld Z h o_ nm0 "previous" nm1 (rr t_) ∧ Fld Z h o_ nm0 "next" nm1 .null ∧ Fld Z h p_ nm2 "head" nm1 (rr t_) ∧ Fld Z h p_ nm2 "tail" nm1 (rr o_) ∧ Fld Z h t_ nm0 "queue" nm4 (rr q_) ∧ Fld Z h t_ nm0 "previous" nm1 .null ∧ Fld Z h t_ nm0 "next" nm1 (rr o_)
set_option maxRecDepth 65536 in
set_option maxHeartbeats 40000000 in
theorem rm_addSR (l : Launch) (Z : State) (a0 : Array Value) (hw : HW Z a0) (ws : List Jvm.Cond) (q_ : Addr) (o_ : Addr) (p_ : Addr) (h_ : Addr) (w_ : Addr) (l_ : Int32) (t_ : Addr) (h0 : Heap) (n0 : Nat) (O0 : Old Z n0 h0) (E0_ : Exa Z h0 q_ nm3) (E1_ : Exa Z h0 o_ nm0) (F2_ : Fld Z h0 q_ nm3 "shown" nm5 (rr p_)) (F3_ : Fld Z h0 q_ nm3 "hidden" nm5 (rr h_)) (F4_ : Fld Z h0 o_ nm0 "peak" nm12 (rr w_)) (F5_ : Fld Z h0 o_ nm0 "slice" "I" (.int l_)) (F6_ : Fld Z h0 o_ nm0 "queue" nm4 .null) (F7_ : Fld Z h0 o_ nm0 "previous" nm1 .null) (F8_ : Fld Z h0 o_ nm0 "next" nm1 .null) (G9_ : n0 ≤ o_) (ZE10_ : Exa Z Z.heap w_ nm6) (ZF11_ : Fld Z Z.heap w_ nm6 "isPresent" "Z" (ii 0)) (E12_ : Exa Z h0 p_ nm2) (G13_ : n0 ≤ p_) (F14_ : Fld Z h0 p_ nm2 "head" nm1 (rr t_)) (F15_ : Fld Z h0 p_ nm2 "tail" nm1 (rr t_)) (E16_ : Exa Z h0 t_ nm0) (G17_ : n0 ≤ t_) (NE18_ : t_ ≠ o_) (F19_ : Fld Z h0 t_ nm0 "queue" nm4 (rr q_)) (F20_ : Fld Z h0 t_ nm0 "previous" nm1 .null) (F21_ : Fld Z h0 t_ nm0 "next" nm1 .null) (hl_ : (0 : Int32) < l_) :
  MFP l Z (⟨nm3, "add", nm8⟩ : MethodName) prog_34_method_3_code 3 none ({ frames := 3, cells := 0, slots := 0, locals := 36 } : Room) ws #[(rr q_), (rr o_)] h0 (Q_addSR Z q_ o_ p_ h_ w_ l_ t_ h0 n0) := by
 refine MetFree.of_bodySF (plainFor_of_name pn_com_example_lexchange_lexchange_PriceQueue) hisR ?_
 intro p e s m args below meth c s₁ Bd hml0 hP hK
 obtain ⟨rfl, hZ, hh⟩ := hP
 have hx := Bd.exec
 have hby := Bd.bytes
 have hml : c.maxLocals = 3 := hml0
 have hown : s.vm.findClass nm3 = some m.cls := findClass_of_methodNamed Bd.named
 have hnm := (name_of_methodNamed Bd.named Bd.method).1
 have X0 : Stand p l e ({ frames := 3, cells := 0, slots := 0, locals := 36 } : Room) s m #[(rr q_), (rr o_)] below meth c s₁ [] 0 0 := Stand.of_body Bd
 have e0 : s₁.heap = h0 := by rw [← hh, Bd.state]; rfl
 have N0 := Fr.nil n0
 have kp0 : Keep h0 h0 [o_, p_, t_] := Keep.refl _ _
 have c0 : ∀ t, S_ p e below s₁ m 0 #[vr q_, vr o_, u_] [] t → Steps p.tables e below (s₁.setTop (entryFrame m #[(rr q_), (rr o_)] 3)) t := fun t k => castTop (ef_addSR m q_ o_) k
 generalize s₁.setTop (entryFrame m #[(rr q_), (rr o_)] 3) = st0 at c0 ⊢
 replace c0 : Kt p e below s₁ st0 (mkF m 0 #[vr q_, vr o_, u_] []) := c0
 have c1 : Kt p e below s₁ st0 (mkF m 1 #[vr q_, vr o_, u_] [(rr o_)]) := fun t k => by
  refine c0 t ?_
  show S_ p e below s₁ m 0 #[vr q_, vr o_, u_] [] t
  refine XS.aloadN X0.here hx rfl (hb hby d9_0) rfl rfl ?_
  exact k
 obtain ⟨_, T2, L2, X2, hQ2, c2⟩ := kvirt X0 hx hZ hown (w99 hw) (w100 hw) (w102 hw) (w101 hw) (w103 hw) (w26 hw) (rm_shown l Z a0 hw [] o_ w_ l_ h0 n0 O0 E1_ F4_ F5_ ZE10_ ZF11_) e0 E1_ c1 hml pd_prI [] [] 0 (hb hby d9_1) rfl rfl rfl rfl rfl rfl
 obtain ⟨rfl, N3q, K4⟩ := hQ2
 have N3 := Fr.app N0 N3q
 have c5 : Kt p e below T2 st0 (mkF m 8 #[vr q_, vr o_, u_] [(rr q_)]) := fun t k => by
  refine c2 t ?_
  show S_ p e below T2 m 4 #[vr q_, vr o_, u_] [(.int l_)] t
  refine XS.ifNo X2.here hx rfl (hb hby d9_4) rfl ((if0 _ _).trans (tlt hl_).2.2.2) ?_
  refine XS.aloadN X2.here hx rfl (hb hby d9_7) rfl rfl ?_
  exact k
 obtain ⟨T6, X6, e6, c6⟩ := kget X2 hx hZ hown (host := "") (Or.inl (w18 hw)) Via.refl K4 F2_ c5 rfl rfl (hb hby d9_8)
 have c7 : Kt p e below T6 st0 (mkF m 21 #[vr q_, vr o_, vr p_] [(rr q_), (rr o_)]) := fun t k => by
  refine c6 t ?_
  show S_ p e below T6 m 11 #[vr q_, vr o_, u_] [(rr p_)] t
  refine yG X6.here hx rfl 11 18 rfl (hb hby d9_11) ?_
  refine XS.astoreN X6.here hx rfl (hb hby d9_18) rfl rfl (l' := #[vr q_, vr o_, vr p_]) rfl ?_
  refine XS.aloadN X6.here hx rfl (hb hby d9_19) rfl rfl ?_
  refine XS.aloadN X6.here hx rfl (hb hby d9_20) rfl rfl ?_
  exact k
 obtain ⟨T8, h8, X8, e8, W8, f9, o11, N10, c8⟩ := kput X6 hx hZ (.object nm3) hown (host := "") (Or.inl (w108 hw)) Via.refl e6 F6_ E1_ (Or.inl (w109 hw)) (w25 hw) c7 rfl rfl (hb hby d9_21) (by decide) rfl rfl O0 N3 G9_
 have kp12 := kp0.wr W8 (Or.inl (List.mem_of_getElem? (i := 0) rfl))
 have q13 := Exa.ne E12_ E1_ (by decide)
 have f14 := F7_.other W8 (Or.inr (slot_ne (Or.inl (w113 hw)) (Or.inl (w109 hw)) (by decide) (t := (.object nm0)) (t' := (.object nm3)) (by decide) (by decide)))
 have c15 : Kt p e below T8 st0 (mkF m 29 #[vr q_, vr o_, vr p_] [(rr t_), (rr o_)]) := fun t k => by
  refine c8 t ?_
  show S_ p e below T8 m 24 #[vr q_, vr o_, vr p_] [] t
  refine XS.aloadN X8.here hx rfl (hb hby d9_24) rfl rfl ?_
  refine XS.aloadN X8.here hx rfl (hb hby d9_25) rfl rfl ?_
  refine ldF X8 hx hZ hown (w110 hw) Via.refl e8 (F15_.other W8 (Or.inl q13)) rfl rfl (hb hby d9_26) ?_
  exact k
 obtain ⟨T16, h16, X16, e16, W16, f17, o19, N18, c16⟩ := kput X8 hx hZ (.object nm0) hown (host := "") (Or.inl (w112 hw)) Via.refl e8 f14 (E1_.wr W8) (Or.inl (w113 hw)) (w25 hw) c15 rfl rfl (hb hby d9_29) (by decide) rfl rfl o11 N10 G9_
 have kp20 := kp12.wr W16 (Or.inl (List.mem_of_getElem? (i := 0) rfl))
 have f21 := (F8_.other W8 (Or.inr (slot_ne (Or.inl (w115 hw)) (Or.inl (w109 hw)) (by decide) (t := (.object nm0)) (t' := (.object nm3)) (by decide) (by decide)))).other W16 (Or.inr (slot_ne (Or.inl (w115 hw)) (Or.inl (w113 hw)) (by decide) (t := (.object nm0)) (t' := (.object nm0)) (by decide) (by decide)))
 have c22 : Kt p e below T16 st0 (mkF m 34 #[vr q_, vr o_, vr p_] [.null, (rr o_)]) := fun t k => by
  refine c16 t ?_
  show S_ p e below T16 m 32 #[vr q_, vr o_, vr p_] [] t
  refine XS.aloadN X16.here hx rfl (hb hby d9_32) rfl rfl ?_
  refine XS.aconstNull X16.here hx rfl (hb hby d9_33) ?_
  exact k
 obtain ⟨T23, h23, X23, e23, W23, f24, o26, N25, c23⟩ := kput X16 hx hZ (.object nm0) hown (host := "") (Or.inl (w114 hw)) Via.refl e16 f21 ((E1_.wr W8).wr W16) (Or.inl (w115 hw)) (w25 hw) c22 rfl rfl (hb hby d9_34) (by decide) rfl rfl o19 N18 G9_
 have kp27 := kp20.wr W23 (Or.inl (List.mem_of_getElem? (i := 0) rfl))
 have c28 : Kt p e below T23 st0 (mkF m 57 #[vr q_, vr o_, vr p_] [(rr o_), (rr t_)]) := fun t k => by
  refine c23 t ?_
  show S_ p e below T23 m 37 #[vr q_, vr o_, vr p_] [] t
  refine XS.aloadN X23.here hx rfl (hb hby d9_37) rfl rfl ?_
  refine ldF X23 hx hZ hown (w110 hw) Via.refl e23 (((F15_.other W8 (Or.inl q13)).other W16 (Or.inl q13)).other W23 (Or.inl q13)) rfl rfl (hb hby d9_38) ?_
  refine XS.ifnonnullYes X23.here hx rfl (pc0 := 41) (pc' := 52) rfl (hb hby d9_41) rfl (by decide) (by decide) ?_
  refine XS.aloadN X23.here hx rfl (hb hby d9_52) rfl rfl ?_
  refine ldF X23 hx hZ hown (w110 hw) Via.refl e23 (((F15_.other W8 (Or.inl q13)).other W16 (Or.inl q13)).other W23 (Or.inl q13)) rfl rfl (hb hby d9_53) ?_
  refine XS.aloadN X23.here hx rfl (hb hby d9_56) rfl rfl ?_
  exact k
 obtain ⟨T29, h29, X29, e29, W29, f30, o32, N31, c29⟩ := kput X23 hx hZ (.object nm0) hown (host := "") (Or.inl (w114 hw)) Via.refl e23 (((F21_.other W8 (Or.inl NE18_)).other W16 (Or.inl NE18_)).other W23 (Or.inl NE18_)) (((E16_.wr W8).wr W16).wr W23) (Or.inl (w115 hw)) (w25 hw) c28 rfl rfl (hb hby d9_57) (by decide) rfl rfl o26 N25 G17_
 have kp33 := kp27.wr W29 (Or.inl (List.mem_of_getElem? (i := 2) rfl))
 have q34 := Exa.ne E12_ E16_ (by decide)
 have c35 : Kt p e below T29 st0 (mkF m 62 #[vr q_, vr o_, vr p_] [(rr o_), (rr p_)]) := fun t k => by
  refine c29 t ?_
  show S_ p e below T29 m 60 #[vr q_, vr o_, vr p_] [] t
  refine XS.aloadN X29.here hx rfl (hb hby d9_60) rfl rfl ?_
  refine XS.aloadN X29.here hx rfl (hb hby d9_61) rfl rfl ?_
  exact k
 obtain ⟨T36, h36, X36, e36, W36, f37, o39, N38, c36⟩ := own_putFR X29 hx hZ (.object nm0) hown (w110 hw) Via.refl e29 ((((F15_.other W8 (Or.inl q13)).other W16 (Or.inl q13)).other W23 (Or.inl q13)).other W29 (Or.inl q34)) ((((E12_.wr W8).wr W16).wr W23).wr W29) (w111 hw) (w12 hw) c35 rfl rfl (hb hby d9_62) (by decide) rfl rfl o32 N31 G13_
 have kp40 := kp33.wr W36 (Or.inl (List.mem_of_getElem? (i := 1) rfl))
 have f41 := (((f9.other W16 (Or.inr (slot_ne (Or.inl (w109 hw)) (Or.inl (w113 hw)) (by decide) (t := (.object nm3)) (t' := (.object nm0)) (by decide) (by decide)))).other W23 (Or.inr (slot_ne (Or.inl (w109 hw)) (Or.inl (w115 hw)) (by decide) (t := (.object nm3)) (t' := (.object nm0)) (by decide) (by decide)))).other W29 (Or.inl NE18_.symm)).other W36 (Or.inl q13.symm)
 have f42 := ((f17.other W23 (Or.inr (slot_ne (Or.inl (w113 hw)) (Or.inl (w115 hw)) (by decide) (t := (.object nm0)) (t' := (.object nm0)) (by decide) (by decide)))).other W29 (Or.inl NE18_.symm)).other W36 (Or.inl q13.symm)
 have f43 := ((((F14_.other W8 (Or.inl q13)).other W16 (Or.inl q13)).other W23 (Or.inl q13)).other W29 (Or.inl q34)).other W36 (Or.inr (slot_ne (Or.inl (w93 hw)) (Or.inl (w111 hw)) (by decide) (t := (.object nm0)) (t' := (.object nm0)) (by decide) (by decide)))
 have f44 := ((((F19_.other W8 (Or.inl NE18_)).other W16 (Or.inl NE18_)).other W23 (Or.inl NE18_)).other W29 (Or.inr (slot_ne (Or.inl (w109 hw)) (Or.inl (w115 hw)) (by decide) (t := (.object nm3)) (t' := (.object nm0)) (by decide) (by decide)))).other W36 (Or.inl q34.symm)
 have f45 := ((((F20_.other W8 (Or.inl NE18_)).other W16 (Or.inl NE18_)).other W23 (Or.inl NE18_)).other W29 (Or.inr (slot_ne (Or.inl (w113 hw)) (Or.inl (w115 hw)) (by decide) (t := (.object nm0)) (t' := (.object nm0)) (by decide) (by decide)))).other W36 (Or.inl q34.symm)
 obtain ⟨fs, hr, hrun, hended, hW, hsame⟩ := X36.leave (v := none) (fun _ => rfl)
 refine ⟨_, _, c36 _ ?_, hrun, hended, _, _, rfl, ?_, ⟨_, rfl⟩, hW, hsame.mono (by decide) (by decide)⟩
 ·show S_ p e below T36 m 65 #[vr q_, vr o_, vr p_] [] _
  exact X36.returnOut hx Bd.returns (hb hby d9_65) hr
 ·show Q_addSR Z q_ o_ p_ h_ w_ l_ t_ h0 n0 _ T36.heap _
  rw [e36]
  exact ⟨rfl, N38, kp40, f41, f42, ((f24.other W29 (Or.inl NE18_.symm)).other W36 (Or.inl q13.symm)), f43, f37, f44, f45, (f30.other W36 (Or.inl q34.symm))⟩
theorem d9_14 : decode prog_34_method_3_code 14 = .ok (.aload_n 0, 1) := by decide +kernel
theorem d9_15 : decode prog_34_method_3_code 15 = .ok (.getfield 16, 3) := by decide +kernel
theorem ef_addHN (m : MethodId) (q_ : Addr) (o_ : Addr) : entryFrame m #[(rr q_), (rr o_)] 3 = mkF m 0 #[vr q_, vr o_, u_] [] := by first | (simp [entryFrame, mkF, argsToLocals, Value.category]; done) | rfl
def Q_addHN (Z : State) (q_ : Addr) (o_ : Addr) (p_ : Addr) (h_ : Addr) (w_ : Addr) (l_ : Int32) (h0 : Heap) (n0 : Nat) (v : Option Value) (h : Heap) (L : List Loc) : Prop := v = none ∧ Fr n0 L ∧ Keep h0 h [o_, h_] ∧ Fld Z h o_ nm0 "queue" nm4 (rr q_) ∧ Fld Z h o_ nm0 "previous" nm1 .null ∧ Fld Z h o_ nm0 "next" nm1 .null ∧ Fld Z h h_ nm2 "head" nm1 (rr o_) ∧ Fld Z h h_ nm2 "tail" nm1 (rr o_)
set_option maxRecDepth 65536 in
set_option maxHeartbeats 40000000 in
theorem rm_addHN (l : Launch) (Z : State) (a0 : Array Value) (hw : HW Z a0) (ws : List Jvm.Cond) (q_ : Addr) (o_ : Addr) (p_ : Addr) (h_ : Addr) (w_ : Addr) (l_ : Int32) (h0 : Heap) (n0 : Nat) (O0 : Old Z n0 h0) (E0_ : Exa Z h0 q_ nm3) (E1_ : Exa Z h0 o_ nm0) (F2_ : Fld Z h0 q_ nm3 "shown" nm5 (rr p_)) (F3_ : Fld Z h0 q_ nm3 "hidden" nm5 (rr h_)) (F4_ : Fld Z h0 o_ nm0 "peak" nm12 (rr w_)) (F5_ : Fld Z h0 o_ nm0 "slice" "I" (.int l_)) (F6_ : Fld Z h0 o_ nm0 "queue" nm4 .null) (F7_ : Fld Z h0 o_ nm0 "previous" nm1 .null) (F8_ : Fld Z h0 o_ nm0 "next" nm1 .null) (G9_ : n0 ≤ o_) (ZE10_ : Exa Z Z.heap w_ nm6) (ZF11_ : Fld Z Z.heap w_ nm6 "isPresent" "Z" (ii 0)) (E12_ : Exa Z h0 h_ nm2) (G13_ : n0 ≤ h_) (F14_ : Fld Z h0 h_ nm2 "head" nm1 .null) (F15_ : Fld Z h0 h_ nm2 "tail" nm1 .null) (hl_ : ¬ ((0 : Int32) < l_)) :
  MFP l Z (⟨nm3, "add", nm8⟩ : MethodName) prog_34_method_3_code 3 none ({ frames := 3, cells := 0, slots := 0, locals := 36 } : Room) ws #[(rr q_), (rr o_)] h0 (Q_addHN Z q_ o_ p_ h_ w_ l_ h0 n0) := by
 refine MetFree.of_bodySF (plainFor_of_name pn_com_example_lexchange_lexchange_PriceQueue) hisR ?_
 intro p e s m args below meth c s₁ Bd hml0 hP hK
 obtain ⟨rfl, hZ, hh⟩ := hP
 have hx := Bd.exec
 have hby := Bd.bytes
 have hml : c.maxLocals = 3 := hml0
 have hown : s.vm.findClass nm3 = some m.cls := findClass_of_methodNamed Bd.named
 have hnm := (name_of_methodNamed Bd.named Bd.method).1
 have X0 : Stand p l e ({ frames := 3, cells := 0, slots := 0, locals := 36 } : Room) s m #[(rr q_), (rr o_)] below meth c s₁ [] 0 0 := Stand.of_body Bd
 have e0 : s₁.heap = h0 := by rw [← hh, Bd.state]; rfl
 have N0 := Fr.nil n0
 have kp0 : Keep h0 h0 [o_, h_] := Keep.refl _ _
 have c0 : ∀ t, S_ p e below s₁ m 0 #[vr q_, vr o_, u_] [] t → Steps p.tables e below (s₁.setTop (entryFrame m #[(rr q_), (rr o_)] 3)) t := fun t k => castTop (ef_addHN m q_ o_) k
 generalize s₁.setTop (entryFrame m #[(rr q_), (rr o_)] 3) = st0 at c0 ⊢
 replace c0 : Kt p e below s₁ st0 (mkF m 0 #[vr q_, vr o_, u_] []) := c0
 have c1 : Kt p e below s₁ st0 (mkF m 1 #[vr q_, vr o_, u_] [(rr o_)]) := fun t k => by
  refine c0 t ?_
  show S_ p e below s₁ m 0 #[vr q_, vr o_, u_] [] t
  refine XS.aloadN X0.here hx rfl (hb hby d9_0) rfl rfl ?_
  exact k
 obtain ⟨_, T2, L2, X2, hQ2, c2⟩ := kvirt X0 hx hZ hown (w99 hw) (w100 hw) (w102 hw) (w101 hw) (w103 hw) (w26 hw) (rm_shown l Z a0 hw [] o_ w_ l_ h0 n0 O0 E1_ F4_ F5_ ZE10_ ZF11_) e0 E1_ c1 hml pd_prI [] [] 0 (hb hby d9_1) rfl rfl rfl rfl rfl rfl
 obtain ⟨rfl, N3q, K4⟩ := hQ2
 have N3 := Fr.app N0 N3q
 have c5 : Kt p e below T2 st0 (mkF m 15 #[vr q_, vr o_, u_] [(rr q_)]) := fun t k => by
  refine c2 t ?_
  show S_ p e below T2 m 4 #[vr q_, vr o_, u_] [(.int l_)] t
  refine yI X2.here hx rfl 4 14 rfl (hb hby d9_4) rfl ((if0 _ _).trans (flt hl_).2.2.2) ?_
  refine XS.aloadN X2.here hx rfl (hb hby d9_14) rfl rfl ?_
  exact k
 obtain ⟨T6, X6, e6, c6⟩ := kget X2 hx hZ hown (host := "") (Or.inl (w20 hw)) Via.refl K4 F3_ c5 rfl rfl (hb hby d9_15)
 have c7 : Kt p e below T6 st0 (mkF m 21 #[vr q_, vr o_, vr h_] [(rr q_), (rr o_)]) := fun t k => by
  refine c6 t ?_
  show S_ p e below T6 m 18 #[vr q_, vr o_, u_] [(rr h_)] t
  refine XS.astoreN X6.here hx rfl (hb hby d9_18) rfl rfl (l' := #[vr q_, vr o_, vr h_]) rfl ?_
  refine XS.aloadN X6.here hx rfl (hb hby d9_19) rfl rfl ?_
  refine XS.aloadN X6.here hx rfl (hb hby d9_20) rfl rfl ?_
  exact k
 obtain ⟨T8, h8, X8, e8, W8, f9, o11, N10, c8⟩ := kput X6 hx hZ (.object nm3) hown (host := "") (Or.inl (w108 hw)) Via.refl e6 F6_ E1_ (Or.inl (w109 hw)) (w25 hw) c7 rfl rfl (hb hby d9_21) (by decide) rfl rfl O0 N3 G9_
 have kp12 := kp0.wr W8 (Or.inl (List.mem_of_getElem? (i := 0) rfl))
 have q13 := Exa.ne E12_ E1_ (by decide)
 have f14 := F7_.other W8 (Or.inr (slot_ne (Or.inl (w113 hw)) (Or.inl (w109 hw)) (by decide) (t := (.object nm0)) (t' := (.object nm3)) (by decide) (by decide)))
 have c15 : Kt p e below T8 st0 (mkF m 29 #[vr q_, vr o_, vr h_] [.null, (rr o_)]) := fun t k => by
  refine c8 t ?_
  show S_ p e below T8 m 24 #[vr q_, vr o_, vr h_] [] t
  refine XS.aloadN X8.here hx rfl (hb hby d9_24) rfl rfl ?_
  refine XS.aloadN X8.here hx rfl (hb hby d9_25) rfl rfl ?_
  refine ldF X8 hx hZ hown (w110 hw) Via.refl e8 (F15_.other W8 (Or.inl q13)) rfl rfl (hb hby d9_26) ?_
  exact k
 obtain ⟨T16, h16, X16, e16, W16, f17, o19, N18, c16⟩ := kput X8 hx hZ (.object nm0) hown (host := "") (Or.inl (w112 hw)) Via.refl e8 f14 (E1_.wr W8) (Or.inl (w113 hw)) (w25 hw) c15 rfl rfl (hb hby d9_29) (by decide) rfl rfl o11 N10 G9_
 have kp20 := kp12.wr W16 (Or.inl (List.mem_of_getElem? (i := 0) rfl))
 have f21 := (F8_.other W8 (Or.inr (slot_ne (Or.inl (w115 hw)) (Or.inl (w109 hw)) (by decide) (t := (.object nm0)) (t' := (.object nm3)) (by decide) (by decide)))).other W16 (Or.inr (slot_ne (Or.inl (w115 hw)) (Or.inl (w113 hw)) (by decide) (t := (.object nm0)) (t' := (.object nm0)) (by decide) (by decide)))
 have c22 : Kt p e below T16 st0 (mkF m 34 #[vr q_, vr o_, vr h_] [.null, (rr o_)]) := fun t k => by
  refine c16 t ?_
  show S_ p e below T16 m 32 #[vr q_, vr o_, vr h_] [] t
  refine XS.aloadN X16.here hx rfl (hb hby d9_32) rfl rfl ?_
  refine XS.aconstNull X16.here hx rfl (hb hby d9_33) ?_
  exact k
 obtain ⟨T23, h23, X23, e23, W23, f24, o26, N25, c23⟩ := kput X16 hx hZ (.object nm0) hown (host := "") (Or.inl (w114 hw)) Via.refl e16 f21 ((E1_.wr W8).wr W16) (Or.inl (w115 hw)) (w25 hw) c22 rfl rfl (hb hby d9_34) (by decide) rfl rfl o19 N18 G9_
 have kp27 := kp20.wr W23 (Or.inl (List.mem_of_getElem? (i := 0) rfl))
 have c28 : Kt p e below T23 st0 (mkF m 46 #[vr q_, vr o_, vr h_] [(rr o_), (rr h_)]) := fun t k => by
  refine c23 t ?_
  show S_ p e below T23 m 37 #[vr q_, vr o_, vr h_] [] t
  refine XS.aloadN X23.here hx rfl (hb hby d9_37) rfl rfl ?_
  refine ldF X23 hx hZ hown (w110 hw) Via.refl e23 (((F15_.other W8 (Or.inl q13)).other W16 (Or.inl q13)).other W23 (Or.inl q13)) rfl rfl (hb hby d9_38) ?_
  refine XS.ifnonnullNo X23.here hx rfl (hb hby d9_41) rfl ?_
  refine XS.aloadN X23.here hx rfl (hb hby d9_44) rfl rfl ?_
  refine XS.aloadN X23.here hx rfl (hb hby d9_45) rfl rfl ?_
  exact k
 obtain ⟨T29, h29, X29, e29, W29, f30, o32, N31, c29⟩ := own_putFR X23 hx hZ (.object nm0) hown (w92 hw) Via.refl e23 (((F14_.other W8 (Or.inl q13)).other W16 (Or.inl q13)).other W23 (Or.inl q13)) (((E12_.wr W8).wr W16).wr W23) (w93 hw) (w12 hw) c28 rfl rfl (hb hby d9_46) (by decide) rfl rfl o26 N25 G13_
 have kp33 := kp27.wr W29 (Or.inl (List.mem_of_getElem? (i := 1) rfl))
 have f34 := (((F15_.other W8 (Or.inl q13)).other W16 (Or.inl q13)).other W23 (Or.inl q13)).other W29 (Or.inr (slot_ne (Or.inl (w111 hw)) (Or.inl (w93 hw)) (by decide) (t := (.object nm0)) (t' := (.object nm0)) (by decide) (by decide)))
 have c35 : Kt p e below T29 st0 (mkF m 62 #[vr q_, vr o_, vr h_] [(rr o_), (rr h_)]) := fun t k => by
  refine c29 t ?_
  show S_ p e below T29 m 49 #[vr q_, vr o_, vr h_] [] t
  refine yG X29.here hx rfl 49 60 rfl (hb hby d9_49) ?_
  refine XS.aloadN X29.here hx rfl (hb hby d9_60) rfl rfl ?_
  refine XS.aloadN X29.here hx rfl (hb hby d9_61) rfl rfl ?_
  exact k
 obtain ⟨T36, h36, X36, e36, W36, f37, o39, N38, c36⟩ := own_putFR X29 hx hZ (.object nm0) hown (w110 hw) Via.refl e29 f34 ((((E12_.wr W8).wr W16).wr W23).wr W29) (w111 hw) (w12 hw) c35 rfl rfl (hb hby d9_62) (by decide) rfl rfl o32 N31 G13_
 have kp40 := kp33.wr W36 (Or.inl (List.mem_of_getElem? (i := 1) rfl))
 have f41 := (((f9.other W16 (Or.inr (slot_ne (Or.inl (w109 hw)) (Or.inl (w113 hw)) (by decide) (t := (.object nm3)) (t' := (.object nm0)) (by decide) (by decide)))).other W23 (Or.inr (slot_ne (Or.inl (w109 hw)) (Or.inl (w115 hw)) (by decide) (t := (.object nm3)) (t' := (.object nm0)) (by decide) (by decide)))).other W29 (Or.inl q13.symm)).other W36 (Or.inl q13.symm)
 have f42 := ((f17.other W23 (Or.inr (slot_ne (Or.inl (w113 hw)) (Or.inl (w115 hw)) (by decide) (t := (.object nm0)) (t' := (.object nm0)) (by decide) (by decide)))).other W29 (Or.inl q13.symm)).other W36 (Or.inl q13.symm)
 have f43 := f30.other W36 (Or.inr (slot_ne (Or.inl (w93 hw)) (Or.inl (w111 hw)) (by decide) (t := (.object nm0)) (t' := (.object nm0)) (by decide) (by decide)))
 obtain ⟨fs, hr, hrun, hended, hW, hsame⟩ := X36.leave (v := none) (fun _ => rfl)
 refine ⟨_, _, c36 _ ?_, hrun, hended, _, _, rfl, ?_, ⟨_, rfl⟩, hW, hsame.mono (by decide) (by decide)⟩
 ·show S_ p e below T36 m 65 #[vr q_, vr o_, vr h_] [] _
  exact X36.returnOut hx Bd.returns (hb hby d9_65) hr
 ·show Q_addHN Z q_ o_ p_ h_ w_ l_ h0 n0 _ T36.heap _
  rw [e36]
  exact ⟨rfl, N38, kp40, f41, f42, ((f24.other W29 (Or.inl q13.symm)).other W36 (Or.inl q13.symm)), f43, f37⟩
theorem ef_addHR (m : MethodId) (q_ : Addr) (o_ : Addr) : entryFrame m #[(rr q_), (rr o_)] 3 = mkF m 0 #[vr q_, vr o_, u_] [] := by first | (simp [entryFrame, mkF, argsToLocals, Value.category]; done) | rfl
def Q_addHR (Z : State) (q_ : Addr) (o_ : Addr) (p_ : Addr) (h_ : Addr) (w_ : Addr) (l_ : Int32) (t_ : Addr) (h0 : Heap) (n0 : Nat) (v : Option Value) (h : Heap) (L : List Loc) : Prop := v = none ∧ Fr n0 L ∧ Keep h0 h [o_, h_, t_] ∧ Fld Z h o_ nm0 "queue" nm4 (rr q_) ∧ Fld Z h o_ nm0 "previous" nm1 (rr t_) ∧ Fld Z h o_ nm0 "next" nm1 .null ∧ Fld Z h h_ nm2 "head" nm1 (rr t_) ∧ Fld Z h h_ nm2 "tail" nm1 (rr o_) ∧ Fld Z h t_ nm0 "queue" nm4 (rr q_) ∧ Fld Z h t_ nm0 "previous" nm1 .null ∧ Fld Z h t_ nm0 "next" nm1 (rr o_)
set_option maxRecDepth 65536 in
set_option maxHeartbeats 40000000 in
theorem rm_addHR (l : Launch) (Z : State) (a0 : Array Value) (hw : HW Z a0) (ws : List Jvm.Cond) (q_ : Addr) (o_ : Addr) (p_ : Addr) (h_ : Addr) (w_ : Addr) (l_ : Int32) (t_ : Addr) (h0 : Heap) (n0 : Nat) (O0 : Old Z n0 h0) (E0_ : Exa Z h0 q_ nm3) (E1_ : Exa Z h0 o_ nm0) (F2_ : Fld Z h0 q_ nm3 "shown" nm5 (rr p_)) (F3_ : Fld Z h0 q_ nm3 "hidden" nm5 (rr h_)) (F4_ : Fld Z h0 o_ nm0 "peak" nm12 (rr w_)) (F5_ : Fld Z h0 o_ nm0 "slice" "I" (.int l_)) (F6_ : Fld Z h0 o_ nm0 "queue" nm4 .null) (F7_ : Fld Z h0 o_ nm0 "previous" nm1 .null) (F8_ : Fld Z h0 o_ nm0 "next" nm1 .null) (G9_ : n0 ≤ o_) (ZE10_ : Exa Z Z.heap w_ nm6) (ZF11_ : Fld Z Z.heap w_ nm6 "isPresent" "Z" (ii 0)) (E12_ : Exa Z h0 h_ nm2) (G13_ : n0 ≤ h_) (F14_ : Fld Z h0 h_ nm2 "head" nm1 (rr t_)) (F15_ : Fld Z h0 h_ nm2 "tail" nm1 (rr t_)) (E16_ : Exa Z h0 t_ nm0) (G17_ : n0 ≤ t_) (NE18_ : t_ ≠ o_) (F19_ : Fld Z h0 t_ nm0 "queue" nm4 (rr q_)) (F20_ : Fld Z h0 t_ nm0 "previous" nm1 .null) (F21_ : Fld Z h0 t_ nm0 "next" nm1 .null) (hl_ : ¬ ((0 : Int32) < l_)) :
  MFP l Z (⟨nm3, "add", nm8⟩ : MethodName) prog_34_method_3_code 3 none ({ frames := 3, cells := 0, slots := 0, locals := 36 } : Room) ws #[(rr q_), (rr o_)] h0 (Q_addHR Z q_ o_ p_ h_ w_ l_ t_ h0 n0) := by
 refine MetFree.of_bodySF (plainFor_of_name pn_com_example_lexchange_lexchange_PriceQueue) hisR ?_
 intro p e s m args below meth c s₁ Bd hml0 hP hK
 obtain ⟨rfl, hZ, hh⟩ := hP
 have hx := Bd.exec
 have hby := Bd.bytes
 have hml : c.maxLocals = 3 := hml0
 have hown : s.vm.findClass nm3 = some m.cls := findClass_of_methodNamed Bd.named
 have hnm := (name_of_methodNamed Bd.named Bd.method).1
 have X0 : Stand p l e ({ frames := 3, cells := 0, slots := 0, locals := 36 } : Room) s m #[(rr q_), (rr o_)] below meth c s₁ [] 0 0 := Stand.of_body Bd
 have e0 : s₁.heap = h0 := by rw [← hh, Bd.state]; rfl
 have N0 := Fr.nil n0
 have kp0 : Keep h0 h0 [o_, h_, t_] := Keep.refl _ _
 have c0 : ∀ t, S_ p e below s₁ m 0 #[vr q_, vr o_, u_] [] t → Steps p.tables e below (s₁.setTop (entryFrame m #[(rr q_), (rr o_)] 3)) t := fun t k => castTop (ef_addHR m q_ o_) k
 generalize s₁.setTop (entryFrame m #[(rr q_), (rr o_)] 3) = st0 at c0 ⊢
 replace c0 : Kt p e below s₁ st0 (mkF m 0 #[vr q_, vr o_, u_] []) := c0
 have c1 : Kt p e below s₁ st0 (mkF m 1 #[vr q_, vr o_, u_] [(rr o_)]) := fun t k => by
  refine c0 t ?_
  show S_ p e below s₁ m 0 #[vr q_, vr o_, u_] [] t
  refine XS.aloadN X0.here hx rfl (hb hby d9_0) rfl rfl ?_
  exact k
 obtain ⟨_, T2, L2, X2, hQ2, c2⟩ := kvirt X0 hx hZ hown (w99 hw) (w100 hw) (w102 hw) (w101 hw) (w103 hw) (w26 hw) (rm_shown l Z a0 hw [] o_ w_ l_ h0 n0 O0 E1_ F4_ F5_ ZE10_ ZF11_) e0 E1_ c1 hml pd_prI [] [] 0 (hb hby d9_1) rfl rfl rfl rfl rfl rfl
 obtain ⟨rfl, N3q, K4⟩ := hQ2
 have N3 := Fr.app N0 N3q
 have c5 : Kt p e below T2 st0 (mkF m 15 #[vr q_, vr o_, u_] [(rr q_)]) := fun t k => by
  refine c2 t ?_
  show S_ p e below T2 m 4 #[vr q_, vr o_, u_] [(.int l_)] t
  refine yI X2.here hx rfl 4 14 rfl (hb hby d9_4) rfl ((if0 _ _).trans (flt hl_).2.2.2) ?_
  refine XS.aloadN X2.here hx rfl (hb hby d9_14) rfl rfl ?_
  exact k
 obtain ⟨T6, X6, e6, c6⟩ := kget X2 hx hZ hown (host := "") (Or.inl (w20 hw)) Via.refl K4 F3_ c5 rfl rfl (hb hby d9_15)
 have c7 : Kt p e below T6 st0 (mkF m 21 #[vr q_, vr o_, vr h_] [(rr q_), (rr o_)]) := fun t k => by
  refine c6 t ?_
  show S_ p e below T6 m 18 #[vr q_, vr o_, u_] [(rr h_)] t
  refine XS.astoreN X6.here hx rfl (hb hby d9_18) rfl rfl (l' := #[vr q_, vr o_, vr h_]) rfl ?_
  refine XS.aloadN X6.here hx rfl (hb hby d9_19) rfl rfl ?_
  refine XS.aloadN X6.here hx rfl (hb hby d9_20) rfl rfl ?_
  exact k
 obtain ⟨T8, h8, X8, e8, W8, f9, o11, N10, c8⟩ := kput X6 hx hZ (.object nm3) hown (host := "") (Or.inl (w108 hw)) Via.refl e6 F6_ E1_ (Or.inl (w109 hw)) (w25 hw) c7 rfl rfl (hb hby d9_21) (by decide) rfl rfl O0 N3 G9_
 have kp12 := kp0.wr W8 (Or.inl (List.mem_of_getElem? (i := 0) rfl))
 have q13 := Exa.ne E12_ E1_ (by decide)
 have f14 := F7_.other W8 (Or.inr (slot_ne (Or.inl (w113 hw)) (Or.inl (w109 hw)) (by decide) (t := (.object nm0)) (t' := (.object nm3)) (by decide) (by decide)))
 have c15 : Kt p e below T8 st0 (mkF m 29 #[vr q_, vr o_, vr h_] [(rr t_), (rr o_)]) := fun t k => by
  refine c8 t ?_
  show S_ p e below T8 m 24 #[vr q_, vr o_, vr h_] [] t
  refine XS.aloadN X8.here hx rfl (hb hby d9_24) rfl rfl ?_
  refine XS.aloadN X8.here hx rfl (hb hby d9_25) rfl rfl ?_
  refine ldF X8 hx hZ hown (w110 hw) Via.refl e8 (F15_.other W8 (Or.inl q13)) rfl rfl (hb hby d9_26) ?_
  exact k
 obtain ⟨T16, h16, X16, e16, W16, f17, o19, N18, c16⟩ := kput X8 hx hZ (.object nm0) hown (host := "") (Or.inl (w112 hw)) Via.refl e8 f14 (E1_.wr W8) (Or.inl (w113 hw)) (w25 hw) c15 rfl rfl (hb hby d9_29) (by decide) rfl rfl o11 N10 G9_
 have kp20 := kp12.wr W16 (Or.inl (List.mem_of_getElem? (i := 0) rfl))
 have f21 := (F8_.other W8 (Or.inr (slot_ne (Or.inl (w115 hw)) (Or.inl (w109 hw)) (by decide) (t := (.object nm0)) (t' := (.object nm3)) (by decide) (by decide)))).other W16 (Or.inr (slot_ne (Or.inl (w115 hw)) (Or.inl (w113 hw)) (by decide) (t := (.object nm0)) (t' := (.object nm0)) (by decide) (by decide)))
 have c22 : Kt p e below T16 st0 (mkF m 34 #[vr q_, vr o_, vr h_] [.null, (rr o_)]) := fun t k => by
  refine c16 t ?_
  show S_ p e below T16 m 32 #[vr q_, vr o_, vr h_] [] t
  refine XS.aloadN X16.here hx rfl (hb hby d9_32) rfl rfl ?_
  refine XS.aconstNull X16.here hx rfl (hb hby d9_33) ?_
  exact k
 obtain ⟨T23, h23, X23, e23, W23, f24, o26, N25, c23⟩ := kput X16 hx hZ (.object nm0) hown (host := "") (Or.inl (w114 hw)) Via.refl e16 f21 ((E1_.wr W8).wr W16) (Or.inl (w115 hw)) (w25 hw) c22 rfl rfl (hb hby d9_34) (by decide) rfl rfl o19 N18 G9_
 have kp27 := kp20.wr W23 (Or.inl (List.mem_of_getElem? (i := 0) rfl))
 have c28 : Kt p e below T23 st0 (mkF m 57 #[vr q_, vr o_, vr h_] [(rr o_), (rr t_)]) := fun t k => by
  refine c23 t ?_
  show S_ p e below T23 m 37 #[vr q_, vr o_, vr h_] [] t
  refine XS.aloadN X23.here hx rfl (hb hby d9_37) rfl rfl ?_
  refine ldF X23 hx hZ hown (w110 hw) Via.refl e23 (((F15_.other W8 (Or.inl q13)).other W16 (Or.inl q13)).other W23 (Or.inl q13)) rfl rfl (hb hby d9_38) ?_
  refine XS.ifnonnullYes X23.here hx rfl (pc0 := 41) (pc' := 52) rfl (hb hby d9_41) rfl (by decide) (by decide) ?_
  refine XS.aloadN X23.here hx rfl (hb hby d9_52) rfl rfl ?_
  refine ldF X23 hx hZ hown (w110 hw) Via.refl e23 (((F15_.other W8 (Or.inl q13)).other W16 (Or.inl q13)).other W23 (Or.inl q13)) rfl rfl (hb hby d9_53) ?_
  refine XS.aloadN X23.here hx rfl (hb hby d9_56) rfl rfl ?_
  exact k
 obtain ⟨T29, h29, X29, e29, W29, f30, o32, N31, c29⟩ := kput X23 hx hZ (.object nm0) hown (host := "") (Or.inl (w114 hw)) Via.refl e23 (((F21_.other W8 (Or.inl NE18_)).other W16 (Or.inl NE18_)).other W23 (Or.inl NE18_)) (((E16_.wr W8).wr W16).wr W23) (Or.inl (w115 hw)) (w25 hw) c28 rfl rfl (hb hby d9_57) (by decide) rfl rfl o26 N25 G17_
 have kp33 := kp27.wr W29 (Or.inl (List.mem_of_getElem? (i := 2) rfl))
 have q34 := Exa.ne E12_ E16_ (by decide)
 have c35 : Kt p e below T29 st0 (mkF m 62 #[vr q_, vr o_, vr h_] [(rr o_), (rr h_)]) := fun t k => by
  refine c29 t ?_
  show S_ p e below T29 m 60 #[vr q_, vr o_, vr h_] [] t
  refine XS.aloadN X29.here hx rfl (hb hby d9_60) rfl rfl ?_
  refine XS.aloadN X29.here hx rfl (hb hby d9_61) rfl rfl ?_
  exact k
 obtain ⟨T36, h36, X36, e36, W36, f37, o39, N38, c36⟩ := own_putFR X29 hx hZ (.object nm0) hown (w110 hw) Via.refl e29 ((((F15_.other W8 (Or.inl q13)).other W16 (Or.inl q13)).other W23 (Or.inl q13)).other W29 (Or.inl q34)) ((((E12_.wr W8).wr W16).wr W23).wr W29) (w111 hw) (w12 hw) c35 rfl rfl (hb hby d9_62) (by decide) rfl rfl o32 N31 G13_
 have kp40 := kp33.wr W36 (Or.inl (List.mem_of_getElem? (i := 1) rfl))
 have f41 := (((f9.other W16 (Or.inr (slot_ne (Or.inl (w109 hw)) (Or.inl (w113 hw)) (by decide) (t := (.object nm3)) (t' := (.object nm0)) (by decide) (by decide)))).other W23 (Or.inr (slot_ne (Or.inl (w109 hw)) (Or.inl (w115 hw)) (by decide) (t := (.object nm3)) (t' := (.object nm0)) (by decide) (by decide)))).other W29 (Or.inl NE18_.symm)).other W36 (Or.inl q13.symm)
 have f42 := ((f17.other W23 (Or.inr (slot_ne (Or.inl (w113 hw)) (Or.inl (w115 hw)) (by decide) (t := (.object nm0)) (t' := (.object nm0)) (by decide) (by decide)))).other W29 (Or.inl NE18_.symm)).other W36 (Or.inl q13.symm)
 have f43 := ((((F14_.other W8 (Or.inl q13)).other W16 (Or.inl q13)).other W23 (Or.inl q13)).other W29 (Or.inl q34)).other W36 (Or.inr (slot_ne (Or.inl (w93 hw)) (Or.inl (w111 hw)) (by decide) (t := (.object nm0)) (t' := (.object nm0)) (by decide) (by decide)))
 have f44 := ((((F19_.other W8 (Or.inl NE18_)).other W16 (Or.inl NE18_)).other W23 (Or.inl NE18_)).other W29 (Or.inr (slot_ne (Or.inl (w109 hw)) (Or.inl (w115 hw)) (by decide) (t := (.object nm3)) (t' := (.object nm0)) (by decide) (by decide)))).other W36 (Or.inl q34.symm)
 have f45 := ((((F20_.other W8 (Or.inl NE18_)).other W16 (Or.inl NE18_)).other W23 (Or.inl NE18_)).other W29 (Or.inr (slot_ne (Or.inl (w113 hw)) (Or.inl (w115 hw)) (by decide) (t := (.object nm0)) (t' := (.object nm0)) (by decide) (by decide)))).other W36 (Or.inl q34.symm)
 obtain ⟨fs, hr, hrun, hended, hW, hsame⟩ := X36.leave (v := none) (fun _ => rfl)
 refine ⟨_, _, c36 _ ?_, hrun, hended, _, _, rfl, ?_, ⟨_, rfl⟩, hW, hsame.mono (by decide) (by decide)⟩
 ·show S_ p e below T36 m 65 #[vr q_, vr o_, vr h_] [] _
  exact X36.returnOut hx Bd.returns (hb hby d9_65) hr
 ·show Q_addHR Z q_ o_ p_ h_ w_ l_ t_ h0 n0 _ T36.heap _
  rw [e36]
  exact ⟨rfl, N38, kp40, f41, f42, ((f24.other W29 (Or.inl NE18_.symm)).other W36 (Or.inl q13.symm)), f43, f37, f44, f45, (f30.other W36 (Or.inl q34.symm))⟩
theorem d10_0 : decode prog_34_method_5_code 0 = .ok (.aload_n 1, 1) := by decide +kernel
theorem d10_1 : decode prog_34_method_5_code 1 = .ok (.getfield 36, 3) := by decide +kernel
theorem d10_4 : decode prog_34_method_5_code 4 = .ok (.astore_n 2, 1) := by decide +kernel
theorem d10_5 : decode prog_34_method_5_code 5 = .ok (.aload_n 1, 1) := by decide +kernel
theorem d10_6 : decode prog_34_method_5_code 6 = .ok (.getfield 39, 3) := by decide +kernel
theorem d10_9 : decode prog_34_method_5_code 9 = .ok (.astore_n 3, 1) := by decide +kernel
theorem d10_10 : decode prog_34_method_5_code 10 = .ok (.aload_n 2, 1) := by decide +kernel
theorem d10_11 : decode prog_34_method_5_code 11 = .ok (.ifnull 7, 3) := by decide +kernel
theorem d10_18 : decode prog_34_method_5_code 18 = .ok (.aload_n 1, 1) := by decide +kernel
theorem d10_19 : decode prog_34_method_5_code 19 = .ok (.aload_n 0, 1) := by decide +kernel
theorem d10_20 : decode prog_34_method_5_code 20 = .ok (.getfield 10, 3) := by decide +kernel
theorem d10_23 : decode prog_34_method_5_code 23 = .ok (.getfield 42, 3) := by decide +kernel
theorem d10_26 : decode prog_34_method_5_code 26 = .ok (.if_acmp .eq 14, 3) := by decide +kernel
theorem d10_40 : decode prog_34_method_5_code 40 = .ok (.aload_n 0, 1) := by decide +kernel
theorem d10_41 : decode prog_34_method_5_code 41 = .ok (.getfield 10, 3) := by decide +kernel
theorem d10_44 : decode prog_34_method_5_code 44 = .ok (.goto 7, 3) := by decide +kernel
theorem d10_51 : decode prog_34_method_5_code 51 = .ok (.astore 4, 2) := by decide +kernel
theorem d10_53 : decode prog_34_method_5_code 53 = .ok (.aload_n 2, 1) := by decide +kernel
theorem d10_54 : decode prog_34_method_5_code 54 = .ok (.ifnonnull 9, 3) := by decide +kernel
theorem d10_57 : decode prog_34_method_5_code 57 = .ok (.aload 4, 2) := by decide +kernel
theorem d10_59 : decode prog_34_method_5_code 59 = .ok (.aload_n 3, 1) := by decide +kernel
theorem d10_60 : decode prog_34_method_5_code 60 = .ok (.putfield 42, 3) := by decide +kernel
theorem d10_63 : decode prog_34_method_5_code 63 = .ok (.aload_n 3, 1) := by decide +kernel
theorem d10_64 : decode prog_34_method_5_code 64 = .ok (.ifnonnull 9, 3) := by decide +kernel
theorem d10_67 : decode prog_34_method_5_code 67 = .ok (.aload 4, 2) := by decide +kernel
theorem d10_69 : decode prog_34_method_5_code 69 = .ok (.aload_n 2, 1) := by decide +kernel
theorem d10_70 : decode prog_34_method_5_code 70 = .ok (.putfield 32, 3) := by decide +kernel
theorem d10_73 : decode prog_34_method_5_code 73 = .ok (.aload_n 2, 1) := by decide +kernel
theorem d10_74 : decode prog_34_method_5_code 74 = .ok (.ifnull 8, 3) := by decide +kernel
theorem d10_82 : decode prog_34_method_5_code 82 = .ok (.aload_n 3, 1) := by decide +kernel
theorem d10_83 : decode prog_34_method_5_code 83 = .ok (.ifnull 8, 3) := by decide +kernel
theorem d10_91 : decode prog_34_method_5_code 91 = .ok (.aload_n 1, 1) := by decide +kernel
theorem d10_92 : decode prog_34_method_5_code 92 = .ok (.aconst_null, 1) := by decide +kernel
theorem d10_93 : decode prog_34_method_5_code 93 = .ok (.putfield 28, 3) := by decide +kernel
theorem d10_96 : decode prog_34_method_5_code 96 = .ok (.aload_n 1, 1) := by decide +kernel
theorem d10_97 : decode prog_34_method_5_code 97 = .ok (.aconst_null, 1) := by decide +kernel
theorem d10_98 : decode prog_34_method_5_code 98 = .ok (.putfield 36, 3) := by decide +kernel
theorem d10_101 : decode prog_34_method_5_code 101 = .ok (.aload_n 1, 1) := by decide +kernel
theorem d10_102 : decode prog_34_method_5_code 102 = .ok (.aconst_null, 1) := by decide +kernel
theorem d10_103 : decode prog_34_method_5_code 103 = .ok (.putfield 39, 3) := by decide +kernel
theorem d10_106 : decode prog_34_method_5_code 106 = .ok (.return_, 1) := by decide +kernel
theorem ef_rmS1 (m : MethodId) (q_ : Addr) (o_ : Addr) : entryFrame m #[(rr q_), (rr o_)] 5 = mkF m 0 #[vr q_, vr o_, u_, u_, u_] [] := by first | (simp [entryFrame, mkF, argsToLocals, Value.category]; done) | rfl
def Q_rmS1 (Z : State) (q_ : Addr) (o_ : Addr) (p_ : Addr) (h_ : Addr) (h0 : Heap) (n0 : Nat) (v : Option Value) (h : Heap) (L : List Loc) : Prop := v = none ∧ Fr n0 L ∧ Keep h0 h [o_, p_] ∧ Fld Z h o_ nm0 "queue" nm4 .null ∧ Fld Z h o_ nm0 "previous" nm1 .null ∧ Fld Z h o_ nm0 "next" nm1 .null ∧ Fld Z h p_ nm2 "head" nm1 .null ∧ Fld Z h p_ nm2 "tail" nm1 .null
set_option maxRecDepth 65536 in
set_option maxHeartbeats 40000000 in
theorem rm_rmS1 (l : Launch) (Z : State) (a0 : Array Value) (hw : HW Z a0) (ws : List Jvm.Cond) (q_ : Addr) (o_ : Addr) (p_ : Addr) (h_ : Addr) (h0 : Heap) (n0 : Nat) (O0 : Old Z n0 h0) (E0_ : Exa Z h0 q_ nm3) (E1_ : Exa Z h0 o_ nm0) (F2_ : Fld Z h0 q_ nm3 "shown" nm5 (rr p_)) (F3_ : Fld Z h0 q_ nm3 "hidden" nm5 (rr h_)) (G4_ : n0 ≤ o_) (E5_ : Exa Z h0 p_ nm2) (G6_ : n0 ≤ p_) (F7_ : Fld Z h0 p_ nm2 "head" nm1 (rr o_)) (F8_ : Fld Z h0 p_ nm2 "tail" nm1 (rr o_)) (F9_ : Fld Z h0 o_ nm0 "queue" nm4 (rr q_)) (F10_ : Fld Z h0 o_ nm0 "previous" nm1 .null) (F11_ : Fld Z h0 o_ nm0 "next" nm1 .null) :
  MFP l Z (⟨nm3, "remove", nm8⟩ : MethodName) prog_34_method_5_code 5 none ({ frames := 0, cells := 0, slots := 0, locals := 0 } : Room) ws #[(rr q_), (rr o_)] h0 (Q_rmS1 Z q_ o_ p_ h_ h0 n0) := by
 refine MetFree.of_bodySF (plainFor_of_name pn_com_example_lexchange_lexchange_PriceQueue) hisR ?_
 intro p e s m args below meth c s₁ Bd hml0 hP hK
 obtain ⟨rfl, hZ, hh⟩ := hP
 have hx := Bd.exec
 have hby := Bd.bytes
 have hml : c.maxLocals = 5 := hml0
 have hown : s.vm.findClass nm3 = some m.cls := findClass_of_methodNamed Bd.named
 have hnm := (name_of_methodNamed Bd.named Bd.method).1
 have X0 : Stand p l e ({ frames := 0, cells := 0, slots := 0, locals := 0 } : Room) s m #[(rr q_), (rr o_)] below meth c s₁ [] 0 0 := Stand.of_body Bd
 have e0 : s₁.heap = h0 := by rw [← hh, Bd.state]; rfl
 have N0 := Fr.nil n0
 have kp0 : Keep h0 h0 [o_, p_] := Keep.refl _ _
 have c0 : ∀ t, S_ p e below s₁ m 0 #[vr q_, vr o_, u_, u_, u_] [] t → Steps p.tables e below (s₁.setTop (entryFrame m #[(rr q_), (rr o_)] 5)) t := fun t k => castTop (ef_rmS1 m q_ o_) k
 generalize s₁.setTop (entryFrame m #[(rr q_), (rr o_)] 5) = st0 at c0 ⊢
 replace c0 : Kt p e below s₁ st0 (mkF m 0 #[vr q_, vr o_, u_, u_, u_] []) := c0
 have c1 : Kt p e below s₁ st0 (mkF m 1 #[vr q_, vr o_, u_, u_, u_] [(rr o_)]) := fun t k => by
  refine c0 t ?_
  show S_ p e below s₁ m 0 #[vr q_, vr o_, u_, u_, u_] [] t
  refine XS.aloadN X0.here hx rfl (hb hby d10_0) rfl rfl ?_
  exact k
 obtain ⟨T2, X2, e2, c2⟩ := kget X0 hx hZ hown (host := "") (Or.inl (w112 hw)) Via.refl e0 F10_ c1 rfl rfl (hb hby d10_1)
 have c3 : Kt p e below T2 st0 (mkF m 6 #[vr q_, vr o_, .val .null, u_, u_] [(rr o_)]) := fun t k => by
  refine c2 t ?_
  show S_ p e below T2 m 4 #[vr q_, vr o_, u_, u_, u_] [.null] t
  refine XS.astoreN X2.here hx rfl (hb hby d10_4) rfl rfl (l' := #[vr q_, vr o_, .val .null, u_, u_]) rfl ?_
  refine XS.aloadN X2.here hx rfl (hb hby d10_5) rfl rfl ?_
  exact k
 obtain ⟨T4, X4, e4, c4⟩ := kget X2 hx hZ hown (host := "") (Or.inl (w114 hw)) Via.refl e2 F11_ c3 rfl rfl (hb hby d10_6)
 have c5 : Kt p e below T4 st0 (mkF m 20 #[vr q_, vr o_, .val .null, .val .null, u_] [(rr q_), (rr o_)]) := fun t k => by
  refine c4 t ?_
  show S_ p e below T4 m 9 #[vr q_, vr o_, .val .null, u_, u_] [.null] t
  refine XS.astoreN X4.here hx rfl (hb hby d10_9) rfl rfl (l' := #[vr q_, vr o_, .val .null, .val .null, u_]) rfl ?_
  refine XS.aloadN X4.here hx rfl (hb hby d10_10) rfl rfl ?_
  refine XS.ifnullYes X4.here hx rfl (pc0 := 11) (pc' := 18) rfl (hb hby d10_11) rfl (by decide) (by decide) ?_
  refine XS.aloadN X4.here hx rfl (hb hby d10_18) rfl rfl ?_
  refine XS.aloadN X4.here hx rfl (hb hby d10_19) rfl rfl ?_
  exact k
 obtain ⟨T6, X6, e6, c6⟩ := kget X4 hx hZ hown (host := "") (Or.inl (w18 hw)) Via.refl e4 F2_ c5 rfl rfl (hb hby d10_20)
 have c7 : Kt p e below T6 st0 (mkF m 41 #[vr q_, vr o_, .val .null, .val .null, u_] [(rr q_)]) := fun t k => by
  refine c6 t ?_
  show S_ p e below T6 m 23 #[vr q_, vr o_, .val .null, .val .null, u_] [(rr p_), (rr o_)] t
  refine ldF X6 hx hZ hown (w92 hw) Via.refl e6 F7_ rfl rfl (hb hby d10_23) ?_
  show S_ p e below T6 m 26 #[vr q_, vr o_, .val .null, .val .null, u_] [(rr o_), (rr o_)] t
  refine Jvm.RoadKit.acmp (g := (mkF m 26 #[vr q_, vr o_, .val .null, .val .null, u_] [(rr o_), (rr o_)])) X6 hx rfl rfl rfl (pc0 := 26) (pc' := 40) (same := true) rfl (hb hby d10_26) rfl (decide_eq_true rfl) (by decide) (by decide) ?_
  refine XS.aloadN X6.here hx rfl (hb hby d10_40) rfl rfl ?_
  exact k
 obtain ⟨T8, X8, e8, c8⟩ := kget X6 hx hZ hown (host := "") (Or.inl (w18 hw)) Via.refl e6 F2_ c7 rfl rfl (hb hby d10_41)
 have c9 : Kt p e below T8 st0 (mkF m 60 #[vr q_, vr o_, .val .null, .val .null, vr p_] [.null, (rr p_)]) := fun t k => by
  refine c8 t ?_
  show S_ p e below T8 m 44 #[vr q_, vr o_, .val .null, .val .null, u_] [(rr p_)] t
  refine yG X8.here hx rfl 44 51 rfl (hb hby d10_44) ?_
  refine XS.astore X8.here hx rfl (hb hby d10_51) rfl rfl (l' := #[vr q_, vr o_, .val .null, .val .null, vr p_]) rfl ?_
  refine XS.aloadN X8.here hx rfl (hb hby d10_53) rfl rfl ?_
  refine XS.ifnonnullNo X8.here hx rfl (hb hby d10_54) rfl ?_
  refine XS.aload X8.here hx rfl (hb hby d10_57) rfl rfl ?_
  refine XS.aloadN X8.here hx rfl (hb hby d10_59) rfl rfl ?_
  exact k
 obtain ⟨T10, h10, X10, e10, W10, f11, o13, N12, c10⟩ := own_putFR X8 hx hZ (.object nm0) hown (w92 hw) Via.refl e8 F7_ E5_ (w93 hw) (w12 hw) c9 rfl rfl (hb hby d10_60) (by decide) rfl rfl O0 N0 G6_
 have kp14 := kp0.wr W10 (Or.inl (List.mem_of_getElem? (i := 1) rfl))
 have f15 := F8_.other W10 (Or.inr (slot_ne (Or.inl (w111 hw)) (Or.inl (w93 hw)) (by decide) (t := (.object nm0)) (t' := (.object nm0)) (by decide) (by decide)))
 have c16 : Kt p e below T10 st0 (mkF m 70 #[vr q_, vr o_, .val .null, .val .null, vr p_] [.null, (rr p_)]) := fun t k => by
  refine c10 t ?_
  show S_ p e below T10 m 63 #[vr q_, vr o_, .val .null, .val .null, vr p_] [] t
  refine XS.aloadN X10.here hx rfl (hb hby d10_63) rfl rfl ?_
  refine XS.ifnonnullNo X10.here hx rfl (hb hby d10_64) rfl ?_
  refine XS.aload X10.here hx rfl (hb hby d10_67) rfl rfl ?_
  refine XS.aloadN X10.here hx rfl (hb hby d10_69) rfl rfl ?_
  exact k
 obtain ⟨T17, h17, X17, e17, W17, f18, o20, N19, c17⟩ := own_putFR X10 hx hZ (.object nm0) hown (w110 hw) Via.refl e10 f15 (E5_.wr W10) (w111 hw) (w12 hw) c16 rfl rfl (hb hby d10_70) (by decide) rfl rfl o13 N12 G6_
 have kp21 := kp14.wr W17 (Or.inl (List.mem_of_getElem? (i := 1) rfl))
 have q22 := Exa.ne E1_ E5_ (by decide)
 have c23 : Kt p e below T17 st0 (mkF m 93 #[vr q_, vr o_, .val .null, .val .null, vr p_] [.null, (rr o_)]) := fun t k => by
  refine c17 t ?_
  show S_ p e below T17 m 73 #[vr q_, vr o_, .val .null, .val .null, vr p_] [] t
  refine XS.aloadN X17.here hx rfl (hb hby d10_73) rfl rfl ?_
  refine XS.ifnullYes X17.here hx rfl (pc0 := 74) (pc' := 82) rfl (hb hby d10_74) rfl (by decide) (by decide) ?_
  refine XS.aloadN X17.here hx rfl (hb hby d10_82) rfl rfl ?_
  refine XS.ifnullYes X17.here hx rfl (pc0 := 83) (pc' := 91) rfl (hb hby d10_83) rfl (by decide) (by decide) ?_
  refine XS.aloadN X17.here hx rfl (hb hby d10_91) rfl rfl ?_
  refine XS.aconstNull X17.here hx rfl (hb hby d10_92) ?_
  exact k
 obtain ⟨T24, h24, X24, e24, W24, f25, o27, N26, c24⟩ := kput X17 hx hZ (.object nm3) hown (host := "") (Or.inl (w108 hw)) Via.refl e17 ((F9_.other W10 (Or.inl q22)).other W17 (Or.inl q22)) ((E1_.wr W10).wr W17) (Or.inl (w109 hw)) (w25 hw) c23 rfl rfl (hb hby d10_93) (by decide) rfl rfl o20 N19 G4_
 have kp28 := kp21.wr W24 (Or.inl (List.mem_of_getElem? (i := 0) rfl))
 have f29 := ((F10_.other W10 (Or.inl q22)).other W17 (Or.inl q22)).other W24 (Or.inr (slot_ne (Or.inl (w113 hw)) (Or.inl (w109 hw)) (by decide) (t := (.object nm0)) (t' := (.object nm3)) (by decide) (by decide)))
 have c30 : Kt p e below T24 st0 (mkF m 98 #[vr q_, vr o_, .val .null, .val .null, vr p_] [.null, (rr o_)]) := fun t k => by
  refine c24 t ?_
  show S_ p e below T24 m 96 #[vr q_, vr o_, .val .null, .val .null, vr p_] [] t
  refine XS.aloadN X24.here hx rfl (hb hby d10_96) rfl rfl ?_
  refine XS.aconstNull X24.here hx rfl (hb hby d10_97) ?_
  exact k
 obtain ⟨T31, h31, X31, e31, W31, f32, o34, N33, c31⟩ := kput X24 hx hZ (.object nm0) hown (host := "") (Or.inl (w112 hw)) Via.refl e24 f29 (((E1_.wr W10).wr W17).wr W24) (Or.inl (w113 hw)) (w25 hw) c30 rfl rfl (hb hby d10_98) (by decide) rfl rfl o27 N26 G4_
 have kp35 := kp28.wr W31 (Or.inl (List.mem_of_getElem? (i := 0) rfl))
 have f36 := (((F11_.other W10 (Or.inl q22)).other W17 (Or.inl q22)).other W24 (Or.inr (slot_ne (Or.inl (w115 hw)) (Or.inl (w109 hw)) (by decide) (t := (.object nm0)) (t' := (.object nm3)) (by decide) (by decide)))).other W31 (Or.inr (slot_ne (Or.inl (w115 hw)) (Or.inl (w113 hw)) (by decide) (t := (.object nm0)) (t' := (.object nm0)) (by decide) (by decide)))
 have c37 : Kt p e below T31 st0 (mkF m 103 #[vr q_, vr o_, .val .null, .val .null, vr p_] [.null, (rr o_)]) := fun t k => by
  refine c31 t ?_
  show S_ p e below T31 m 101 #[vr q_, vr o_, .val .null, .val .null, vr p_] [] t
  refine XS.aloadN X31.here hx rfl (hb hby d10_101) rfl rfl ?_
  refine XS.aconstNull X31.here hx rfl (hb hby d10_102) ?_
  exact k
 obtain ⟨T38, h38, X38, e38, W38, f39, o41, N40, c38⟩ := kput X31 hx hZ (.object nm0) hown (host := "") (Or.inl (w114 hw)) Via.refl e31 f36 ((((E1_.wr W10).wr W17).wr W24).wr W31) (Or.inl (w115 hw)) (w25 hw) c37 rfl rfl (hb hby d10_103) (by decide) rfl rfl o34 N33 G4_
 have kp42 := kp35.wr W38 (Or.inl (List.mem_of_getElem? (i := 0) rfl))
 have f43 := (f25.other W31 (Or.inr (slot_ne (Or.inl (w109 hw)) (Or.inl (w113 hw)) (by decide) (t := (.object nm3)) (t' := (.object nm0)) (by decide) (by decide)))).other W38 (Or.inr (slot_ne (Or.inl (w109 hw)) (Or.inl (w115 hw)) (by decide) (t := (.object nm3)) (t' := (.object nm0)) (by decide) (by decide)))
 have f44 := f32.other W38 (Or.inr (slot_ne (Or.inl (w113 hw)) (Or.inl (w115 hw)) (by decide) (t := (.object nm0)) (t' := (.object nm0)) (by decide) (by decide)))
 have f45 := (((f11.other W17 (Or.inr (slot_ne (Or.inl (w93 hw)) (Or.inl (w111 hw)) (by decide) (t := (.object nm0)) (t' := (.object nm0)) (by decide) (by decide)))).other W24 (Or.inl q22.symm)).other W31 (Or.inl q22.symm)).other W38 (Or.inl q22.symm)
 obtain ⟨fs, hr, hrun, hended, hW, hsame⟩ := X38.leave (v := none) (fun _ => rfl)
 refine ⟨_, _, c38 _ ?_, hrun, hended, _, _, rfl, ?_, ⟨_, rfl⟩, hW, hsame.mono (by decide) (by decide)⟩
 ·show S_ p e below T38 m 106 #[vr q_, vr o_, .val .null, .val .null, vr p_] [] _
  exact X38.returnOut hx Bd.returns (hb hby d10_106) hr
 ·show Q_rmS1 Z q_ o_ p_ h_ h0 n0 _ T38.heap _
  rw [e38]
  exact ⟨rfl, N40, kp42, f43, f44, f39, f45, (((f18.other W24 (Or.inl q22.symm)).other W31 (Or.inl q22.symm)).other W38 (Or.inl q22.symm))⟩
theorem d10_29 : decode prog_34_method_5_code 29 = .ok (.aload_n 1, 1) := by decide +kernel
theorem d10_30 : decode prog_34_method_5_code 30 = .ok (.aload_n 0, 1) := by decide +kernel
theorem d10_31 : decode prog_34_method_5_code 31 = .ok (.getfield 10, 3) := by decide +kernel
theorem d10_34 : decode prog_34_method_5_code 34 = .ok (.getfield 32, 3) := by decide +kernel
theorem d10_37 : decode prog_34_method_5_code 37 = .ok (.if_acmp .ne 10, 3) := by decide +kernel
theorem d10_47 : decode prog_34_method_5_code 47 = .ok (.aload_n 0, 1) := by decide +kernel
theorem d10_48 : decode prog_34_method_5_code 48 = .ok (.getfield 16, 3) := by decide +kernel
theorem ef_rmH1e (m : MethodId) (q_ : Addr) (o_ : Addr) : entryFrame m #[(rr q_), (rr o_)] 5 = mkF m 0 #[vr q_, vr o_, u_, u_, u_] [] := by first | (simp [entryFrame, mkF, argsToLocals, Value.category]; done) | rfl
def Q_rmH1e (Z : State) (q_ : Addr) (o_ : Addr) (p_ : Addr) (h_ : Addr) (h0 : Heap) (n0 : Nat) (v : Option Value) (h : Heap) (L : List Loc) : Prop := v = none ∧ Fr n0 L ∧ Keep h0 h [o_, h_] ∧ Fld Z h o_ nm0 "queue" nm4 .null ∧ Fld Z h o_ nm0 "previous" nm1 .null ∧ Fld Z h o_ nm0 "next" nm1 .null ∧ Fld Z h h_ nm2 "head" nm1 .null ∧ Fld Z h h_ nm2 "tail" nm1 .null
set_option maxRecDepth 65536 in
set_option maxHeartbeats 40000000 in
theorem rm_rmH1e (l : Launch) (Z : State) (a0 : Array Value) (hw : HW Z a0) (ws : List Jvm.Cond) (q_ : Addr) (o_ : Addr) (p_ : Addr) (h_ : Addr) (h0 : Heap) (n0 : Nat) (O0 : Old Z n0 h0) (E0_ : Exa Z h0 q_ nm3) (E1_ : Exa Z h0 o_ nm0) (F2_ : Fld Z h0 q_ nm3 "shown" nm5 (rr p_)) (F3_ : Fld Z h0 q_ nm3 "hidden" nm5 (rr h_)) (G4_ : n0 ≤ o_) (E5_ : Exa Z h0 h_ nm2) (G6_ : n0 ≤ h_) (F7_ : Fld Z h0 h_ nm2 "head" nm1 (rr o_)) (F8_ : Fld Z h0 h_ nm2 "tail" nm1 (rr o_)) (E9_ : Exa Z h0 p_ nm2) (F10_ : Fld Z h0 p_ nm2 "head" nm1 .null) (F11_ : Fld Z h0 p_ nm2 "tail" nm1 .null) (F12_ : Fld Z h0 o_ nm0 "queue" nm4 (rr q_)) (F13_ : Fld Z h0 o_ nm0 "previous" nm1 .null) (F14_ : Fld Z h0 o_ nm0 "next" nm1 .null) :
  MFP l Z (⟨nm3, "remove", nm8⟩ : MethodName) prog_34_method_5_code 5 none ({ frames := 0, cells := 0, slots := 0, locals := 0 } : Room) ws #[(rr q_), (rr o_)] h0 (Q_rmH1e Z q_ o_ p_ h_ h0 n0) := by
 refine MetFree.of_bodySF (plainFor_of_name pn_com_example_lexchange_lexchange_PriceQueue) hisR ?_
 intro p e s m args below meth c s₁ Bd hml0 hP hK
 obtain ⟨rfl, hZ, hh⟩ := hP
 have hx := Bd.exec
 have hby := Bd.bytes
 have hml : c.maxLocals = 5 := hml0
 have hown : s.vm.findClass nm3 = some m.cls := findClass_of_methodNamed Bd.named
 have hnm := (name_of_methodNamed Bd.named Bd.method).1
 have X0 : Stand p l e ({ frames := 0, cells := 0, slots := 0, locals := 0 } : Room) s m #[(rr q_), (rr o_)] below meth c s₁ [] 0 0 := Stand.of_body Bd
 have e0 : s₁.heap = h0 := by rw [← hh, Bd.state]; rfl
 have N0 := Fr.nil n0
 have kp0 : Keep h0 h0 [o_, h_] := Keep.refl _ _
 have c0 : ∀ t, S_ p e below s₁ m 0 #[vr q_, vr o_, u_, u_, u_] [] t → Steps p.tables e below (s₁.setTop (entryFrame m #[(rr q_), (rr o_)] 5)) t := fun t k => castTop (ef_rmH1e m q_ o_) k
 generalize s₁.setTop (entryFrame m #[(rr q_), (rr o_)] 5) = st0 at c0 ⊢
 replace c0 : Kt p e below s₁ st0 (mkF m 0 #[vr q_, vr o_, u_, u_, u_] []) := c0
 have c1 : Kt p e below s₁ st0 (mkF m 1 #[vr q_, vr o_, u_, u_, u_] [(rr o_)]) := fun t k => by
  refine c0 t ?_
  show S_ p e below s₁ m 0 #[vr q_, vr o_, u_, u_, u_] [] t
  refine XS.aloadN X0.here hx rfl (hb hby d10_0) rfl rfl ?_
  exact k
 obtain ⟨T2, X2, e2, c2⟩ := kget X0 hx hZ hown (host := "") (Or.inl (w112 hw)) Via.refl e0 F13_ c1 rfl rfl (hb hby d10_1)
 have c3 : Kt p e below T2 st0 (mkF m 6 #[vr q_, vr o_, .val .null, u_, u_] [(rr o_)]) := fun t k => by
  refine c2 t ?_
  show S_ p e below T2 m 4 #[vr q_, vr o_, u_, u_, u_] [.null] t
  refine XS.astoreN X2.here hx rfl (hb hby d10_4) rfl rfl (l' := #[vr q_, vr o_, .val .null, u_, u_]) rfl ?_
  refine XS.aloadN X2.here hx rfl (hb hby d10_5) rfl rfl ?_
  exact k
 obtain ⟨T4, X4, e4, c4⟩ := kget X2 hx hZ hown (host := "") (Or.inl (w114 hw)) Via.refl e2 F14_ c3 rfl rfl (hb hby d10_6)
 have c5 : Kt p e below T4 st0 (mkF m 20 #[vr q_, vr o_, .val .null, .val .null, u_] [(rr q_), (rr o_)]) := fun t k => by
  refine c4 t ?_
  show S_ p e below T4 m 9 #[vr q_, vr o_, .val .null, u_, u_] [.null] t
  refine XS.astoreN X4.here hx rfl (hb hby d10_9) rfl rfl (l' := #[vr q_, vr o_, .val .null, .val .null, u_]) rfl ?_
  refine XS.aloadN X4.here hx rfl (hb hby d10_10) rfl rfl ?_
  refine XS.ifnullYes X4.here hx rfl (pc0 := 11) (pc' := 18) rfl (hb hby d10_11) rfl (by decide) (by decide) ?_
  refine XS.aloadN X4.here hx rfl (hb hby d10_18) rfl rfl ?_
  refine XS.aloadN X4.here hx rfl (hb hby d10_19) rfl rfl ?_
  exact k
 obtain ⟨T6, X6, e6, c6⟩ := kget X4 hx hZ hown (host := "") (Or.inl (w18 hw)) Via.refl e4 F2_ c5 rfl rfl (hb hby d10_20)
 have c7 : Kt p e below T6 st0 (mkF m 31 #[vr q_, vr o_, .val .null, .val .null, u_] [(rr q_), (rr o_)]) := fun t k => by
  refine c6 t ?_
  show S_ p e below T6 m 23 #[vr q_, vr o_, .val .null, .val .null, u_] [(rr p_), (rr o_)] t
  refine ldF X6 hx hZ hown (w92 hw) Via.refl e6 F10_ rfl rfl (hb hby d10_23) ?_
  show S_ p e below T6 m 26 #[vr q_, vr o_, .val .null, .val .null, u_] [.null, (rr o_)] t
  refine Jvm.RoadKit.acmp (g := (mkF m 26 #[vr q_, vr o_, .val .null, .val .null, u_] [.null, (rr o_)])) X6 hx rfl rfl rfl (pc0 := 26) (pc' := 29) (same := false) rfl (hb hby d10_26) rfl (decide_eq_false nofun) (by decide) (by decide) ?_
  refine XS.aloadN X6.here hx rfl (hb hby d10_29) rfl rfl ?_
  refine XS.aloadN X6.here hx rfl (hb hby d10_30) rfl rfl ?_
  exact k
 obtain ⟨T8, X8, e8, c8⟩ := kget X6 hx hZ hown (host := "") (Or.inl (w18 hw)) Via.refl e6 F2_ c7 rfl rfl (hb hby d10_31)
 have c9 : Kt p e below T8 st0 (mkF m 48 #[vr q_, vr o_, .val .null, .val .null, u_] [(rr q_)]) := fun t k => by
  refine c8 t ?_
  show S_ p e below T8 m 34 #[vr q_, vr o_, .val .null, .val .null, u_] [(rr p_), (rr o_)] t
  refine ldF X8 hx hZ hown (w110 hw) Via.refl e8 F11_ rfl rfl (hb hby d10_34) ?_
  show S_ p e below T8 m 37 #[vr q_, vr o_, .val .null, .val .null, u_] [.null, (rr o_)] t
  refine Jvm.RoadKit.acmp (g := (mkF m 37 #[vr q_, vr o_, .val .null, .val .null, u_] [.null, (rr o_)])) X8 hx rfl rfl rfl (pc0 := 37) (pc' := 47) (same := false) rfl (hb hby d10_37) rfl (decide_eq_false nofun) (by decide) (by decide) ?_
  refine XS.aloadN X8.here hx rfl (hb hby d10_47) rfl rfl ?_
  exact k
 obtain ⟨T10, X10, e10, c10⟩ := kget X8 hx hZ hown (host := "") (Or.inl (w20 hw)) Via.refl e8 F3_ c9 rfl rfl (hb hby d10_48)
 have c11 : Kt p e below T10 st0 (mkF m 60 #[vr q_, vr o_, .val .null, .val .null, vr h_] [.null, (rr h_)]) := fun t k => by
  refine c10 t ?_
  show S_ p e below T10 m 51 #[vr q_, vr o_, .val .null, .val .null, u_] [(rr h_)] t
  refine XS.astore X10.here hx rfl (hb hby d10_51) rfl rfl (l' := #[vr q_, vr o_, .val .null, .val .null, vr h_]) rfl ?_
  refine XS.aloadN X10.here hx rfl (hb hby d10_53) rfl rfl ?_
  refine XS.ifnonnullNo X10.here hx rfl (hb hby d10_54) rfl ?_
  refine XS.aload X10.here hx rfl (hb hby d10_57) rfl rfl ?_
  refine XS.aloadN X10.here hx rfl (hb hby d10_59) rfl rfl ?_
  exact k
 obtain ⟨T12, h12, X12, e12, W12, f13, o15, N14, c12⟩ := own_putFR X10 hx hZ (.object nm0) hown (w92 hw) Via.refl e10 F7_ E5_ (w93 hw) (w12 hw) c11 rfl rfl (hb hby d10_60) (by decide) rfl rfl O0 N0 G6_
 have kp16 := kp0.wr W12 (Or.inl (List.mem_of_getElem? (i := 1) rfl))
 have f17 := F8_.other W12 (Or.inr (slot_ne (Or.inl (w111 hw)) (Or.inl (w93 hw)) (by decide) (t := (.object nm0)) (t' := (.object nm0)) (by decide) (by decide)))
 have c18 : Kt p e below T12 st0 (mkF m 70 #[vr q_, vr o_, .val .null, .val .null, vr h_] [.null, (rr h_)]) := fun t k => by
  refine c12 t ?_
  show S_ p e below T12 m 63 #[vr q_, vr o_, .val .null, .val .null, vr h_] [] t
  refine XS.aloadN X12.here hx rfl (hb hby d10_63) rfl rfl ?_
  refine XS.ifnonnullNo X12.here hx rfl (hb hby d10_64) rfl ?_
  refine XS.aload X12.here hx rfl (hb hby d10_67) rfl rfl ?_
  refine XS.aloadN X12.here hx rfl (hb hby d10_69) rfl rfl ?_
  exact k
 obtain ⟨T19, h19, X19, e19, W19, f20, o22, N21, c19⟩ := own_putFR X12 hx hZ (.object nm0) hown (w110 hw) Via.refl e12 f17 (E5_.wr W12) (w111 hw) (w12 hw) c18 rfl rfl (hb hby d10_70) (by decide) rfl rfl o15 N14 G6_
 have kp23 := kp16.wr W19 (Or.inl (List.mem_of_getElem? (i := 1) rfl))
 have q24 := Exa.ne E1_ E5_ (by decide)
 have c25 : Kt p e below T19 st0 (mkF m 93 #[vr q_, vr o_, .val .null, .val .null, vr h_] [.null, (rr o_)]) := fun t k => by
  refine c19 t ?_
  show S_ p e below T19 m 73 #[vr q_, vr o_, .val .null, .val .null, vr h_] [] t
  refine XS.aloadN X19.here hx rfl (hb hby d10_73) rfl rfl ?_
  refine XS.ifnullYes X19.here hx rfl (pc0 := 74) (pc' := 82) rfl (hb hby d10_74) rfl (by decide) (by decide) ?_
  refine XS.aloadN X19.here hx rfl (hb hby d10_82) rfl rfl ?_
  refine XS.ifnullYes X19.here hx rfl (pc0 := 83) (pc' := 91) rfl (hb hby d10_83) rfl (by decide) (by decide) ?_
  refine XS.aloadN X19.here hx rfl (hb hby d10_91) rfl rfl ?_
  refine XS.aconstNull X19.here hx rfl (hb hby d10_92) ?_
  exact k
 obtain ⟨T26, h26, X26, e26, W26, f27, o29, N28, c26⟩ := kput X19 hx hZ (.object nm3) hown (host := "") (Or.inl (w108 hw)) Via.refl e19 ((F12_.other W12 (Or.inl q24)).other W19 (Or.inl q24)) ((E1_.wr W12).wr W19) (Or.inl (w109 hw)) (w25 hw) c25 rfl rfl (hb hby d10_93) (by decide) rfl rfl o22 N21 G4_
 have kp30 := kp23.wr W26 (Or.inl (List.mem_of_getElem? (i := 0) rfl))
 have f31 := ((F13_.other W12 (Or.inl q24)).other W19 (Or.inl q24)).other W26 (Or.inr (slot_ne (Or.inl (w113 hw)) (Or.inl (w109 hw)) (by decide) (t := (.object nm0)) (t' := (.object nm3)) (by decide) (by decide)))
 have c32 : Kt p e below T26 st0 (mkF m 98 #[vr q_, vr o_, .val .null, .val .null, vr h_] [.null, (rr o_)]) := fun t k => by
  refine c26 t ?_
  show S_ p e below T26 m 96 #[vr q_, vr o_, .val .null, .val .null, vr h_] [] t
  refine XS.aloadN X26.here hx rfl (hb hby d10_96) rfl rfl ?_
  refine XS.aconstNull X26.here hx rfl (hb hby d10_97) ?_
  exact k
 obtain ⟨T33, h33, X33, e33, W33, f34, o36, N35, c33⟩ := kput X26 hx hZ (.object nm0) hown (host := "") (Or.inl (w112 hw)) Via.refl e26 f31 (((E1_.wr W12).wr W19).wr W26) (Or.inl (w113 hw)) (w25 hw) c32 rfl rfl (hb hby d10_98) (by decide) rfl rfl o29 N28 G4_
 have kp37 := kp30.wr W33 (Or.inl (List.mem_of_getElem? (i := 0) rfl))
 have f38 := (((F14_.other W12 (Or.inl q24)).other W19 (Or.inl q24)).other W26 (Or.inr (slot_ne (Or.inl (w115 hw)) (Or.inl (w109 hw)) (by decide) (t := (.object nm0)) (t' := (.object nm3)) (by decide) (by decide)))).other W33 (Or.inr (slot_ne (Or.inl (w115 hw)) (Or.inl (w113 hw)) (by decide) (t := (.object nm0)) (t' := (.object nm0)) (by decide) (by decide)))
 have c39 : Kt p e below T33 st0 (mkF m 103 #[vr q_, vr o_, .val .null, .val .null, vr h_] [.null, (rr o_)]) := fun t k => by
  refine c33 t ?_
  show S_ p e below T33 m 101 #[vr q_, vr o_, .val .null, .val .null, vr h_] [] t
  refine XS.aloadN X33.here hx rfl (hb hby d10_101) rfl rfl ?_
  refine XS.aconstNull X33.here hx rfl (hb hby d10_102) ?_
  exact k
 obtain ⟨T40, h40, X40, e40, W40, f41, o43, N42, c40⟩ := kput X33 hx hZ (.object nm0) hown (host := "") (Or.inl (w114 hw)) Via.refl e33 f38 ((((E1_.wr W12).wr W19).wr W26).wr W33) (Or.inl (w115 hw)) (w25 hw) c39 rfl rfl (hb hby d10_103) (by decide) rfl rfl o36 N35 G4_
 have kp44 := kp37.wr W40 (Or.inl (List.mem_of_getElem? (i := 0) rfl))
 have f45 := (f27.other W33 (Or.inr (slot_ne (Or.inl (w109 hw)) (Or.inl (w113 hw)) (by decide) (t := (.object nm3)) (t' := (.object nm0)) (by decide) (by decide)))).other W40 (Or.inr (slot_ne (Or.inl (w109 hw)) (Or.inl (w115 hw)) (by decide) (t := (.object nm3)) (t' := (.object nm0)) (by decide) (by decide)))
 have f46 := f34.other W40 (Or.inr (slot_ne (Or.inl (w113 hw)) (Or.inl (w115 hw)) (by decide) (t := (.object nm0)) (t' := (.object nm0)) (by decide) (by decide)))
 have f47 := (((f13.other W19 (Or.inr (slot_ne (Or.inl (w93 hw)) (Or.inl (w111 hw)) (by decide) (t := (.object nm0)) (t' := (.object nm0)) (by decide) (by decide)))).other W26 (Or.inl q24.symm)).other W33 (Or.inl q24.symm)).other W40 (Or.inl q24.symm)
 obtain ⟨fs, hr, hrun, hended, hW, hsame⟩ := X40.leave (v := none) (fun _ => rfl)
 refine ⟨_, _, c40 _ ?_, hrun, hended, _, _, rfl, ?_, ⟨_, rfl⟩, hW, hsame.mono (by decide) (by decide)⟩
 ·show S_ p e below T40 m 106 #[vr q_, vr o_, .val .null, .val .null, vr h_] [] _
  exact X40.returnOut hx Bd.returns (hb hby d10_106) hr
 ·show Q_rmH1e Z q_ o_ p_ h_ h0 n0 _ T40.heap _
  rw [e40]
  exact ⟨rfl, N42, kp44, f45, f46, f41, f47, (((f20.other W26 (Or.inl q24.symm)).other W33 (Or.inl q24.symm)).other W40 (Or.inl q24.symm))⟩
theorem ef_rmH1r (m : MethodId) (q_ : Addr) (o_ : Addr) : entryFrame m #[(rr q_), (rr o_)] 5 = mkF m 0 #[vr q_, vr o_, u_, u_, u_] [] := by first | (simp [entryFrame, mkF, argsToLocals, Value.category]; done) | rfl
def Q_rmH1r (Z : State) (q_ : Addr) (o_ : Addr) (p_ : Addr) (h_ : Addr) (r_ : Addr) (h0 : Heap) (n0 : Nat) (v : Option Value) (h : Heap) (L : List Loc) : Prop := v = none ∧ Fr n0 L ∧ Keep h0 h [o_, h_] ∧ Fld Z h o_ nm0 "queue" nm4 .null ∧ Fld Z h o_ nm0 "previous" nm1 .null ∧ Fld Z h o_ nm0 "next" nm1 .null ∧ Fld Z h h_ nm2 "head" nm1 .null ∧ Fld Z h h_ nm2 "tail" nm1 .null
set_option maxRecDepth 65536 in
set_option maxHeartbeats 40000000 in
theorem rm_rmH1r (l : Launch) (Z : State) (a0 : Array Value) (hw : HW Z a0) (ws : List Jvm.Cond) (q_ : Addr) (o_ : Addr) (p_ : Addr) (h_ : Addr) (r_ : Addr) (h0 : Heap) (n0 : Nat) (O0 : Old Z n0 h0) (E0_ : Exa Z h0 q_ nm3) (E1_ : Exa Z h0 o_ nm0) (F2_ : Fld Z h0 q_ nm3 "shown" nm5 (rr p_)) (F3_ : Fld Z h0 q_ nm3 "hidden" nm5 (rr h_)) (G4_ : n0 ≤ o_) (E5_ : Exa Z h0 h_ nm2) (G6_ : n0 ≤ h_) (F7_ : Fld Z h0 h_ nm2 "head" nm1 (rr o_)) (F8_ : Fld Z h0 h_ nm2 "tail" nm1 (rr o_)) (E9_ : Exa Z h0 p_ nm2) (F10_ : Fld Z h0 p_ nm2 "head" nm1 (rr r_)) (F11_ : Fld Z h0 p_ nm2 "tail" nm1 (rr r_)) (NE12_ : o_ ≠ r_) (F13_ : Fld Z h0 o_ nm0 "queue" nm4 (rr q_)) (F14_ : Fld Z h0 o_ nm0 "previous" nm1 .null) (F15_ : Fld Z h0 o_ nm0 "next" nm1 .null) :
  MFP l Z (⟨nm3, "remove", nm8⟩ : MethodName) prog_34_method_5_code 5 none ({ frames := 0, cells := 0, slots := 0, locals := 0 } : Room) ws #[(rr q_), (rr o_)] h0 (Q_rmH1r Z q_ o_ p_ h_ r_ h0 n0) := by
 refine MetFree.of_bodySF (plainFor_of_name pn_com_example_lexchange_lexchange_PriceQueue) hisR ?_
 intro p e s m args below meth c s₁ Bd hml0 hP hK
 obtain ⟨rfl, hZ, hh⟩ := hP
 have hx := Bd.exec
 have hby := Bd.bytes
 have hml : c.maxLocals = 5 := hml0
 have hown : s.vm.findClass nm3 = some m.cls := findClass_of_methodNamed Bd.named
 have hnm := (name_of_methodNamed Bd.named Bd.method).1
 have X0 : Stand p l e ({ frames := 0, cells := 0, slots := 0, locals := 0 } : Room) s m #[(rr q_), (rr o_)] below meth c s₁ [] 0 0 := Stand.of_body Bd
 have e0 : s₁.heap = h0 := by rw [← hh, Bd.state]; rfl
 have N0 := Fr.nil n0
 have kp0 : Keep h0 h0 [o_, h_] := Keep.refl _ _
 have c0 : ∀ t, S_ p e below s₁ m 0 #[vr q_, vr o_, u_, u_, u_] [] t → Steps p.tables e below (s₁.setTop (entryFrame m #[(rr q_), (rr o_)] 5)) t := fun t k => castTop (ef_rmH1r m q_ o_) k
 generalize s₁.setTop (entryFrame m #[(rr q_), (rr o_)] 5) = st0 at c0 ⊢
 replace c0 : Kt p e below s₁ st0 (mkF m 0 #[vr q_, vr o_, u_, u_, u_] []) := c0
 have c1 : Kt p e below s₁ st0 (mkF m 1 #[vr q_, vr o_, u_, u_, u_] [(rr o_)]) := fun t k => by
  refine c0 t ?_
  show S_ p e below s₁ m 0 #[vr q_, vr o_, u_, u_, u_] [] t
  refine XS.aloadN X0.here hx rfl (hb hby d10_0) rfl rfl ?_
  exact k
 obtain ⟨T2, X2, e2, c2⟩ := kget X0 hx hZ hown (host := "") (Or.inl (w112 hw)) Via.refl e0 F14_ c1 rfl rfl (hb hby d10_1)
 have c3 : Kt p e below T2 st0 (mkF m 6 #[vr q_, vr o_, .val .null, u_, u_] [(rr o_)]) := fun t k => by
  refine c2 t ?_
  show S_ p e below T2 m 4 #[vr q_, vr o_, u_, u_, u_] [.null] t
  refine XS.astoreN X2.here hx rfl (hb hby d10_4) rfl rfl (l' := #[vr q_, vr o_, .val .null, u_, u_]) rfl ?_
  refine XS.aloadN X2.here hx rfl (hb hby d10_5) rfl rfl ?_
  exact k
 obtain ⟨T4, X4, e4, c4⟩ := kget X2 hx hZ hown (host := "") (Or.inl (w114 hw)) Via.refl e2 F15_ c3 rfl rfl (hb hby d10_6)
 have c5 : Kt p e below T4 st0 (mkF m 20 #[vr q_, vr o_, .val .null, .val .null, u_] [(rr q_), (rr o_)]) := fun t k => by
  refine c4 t ?_
  show S_ p e below T4 m 9 #[vr q_, vr o_, .val .null, u_, u_] [.null] t
  refine XS.astoreN X4.here hx rfl (hb hby d10_9) rfl rfl (l' := #[vr q_, vr o_, .val .null, .val .null, u_]) rfl ?_
  refine XS.aloadN X4.here hx rfl (hb hby d10_10) rfl rfl ?_
  refine XS.ifnullYes X4.here hx rfl (pc0 := 11) (pc' := 18) rfl (hb hby d10_11) rfl (by decide) (by decide) ?_
  refine XS.aloadN X4.here hx rfl (hb hby d10_18) rfl rfl ?_
  refine XS.aloadN X4.here hx rfl (hb hby d10_19) rfl rfl ?_
  exact k
 obtain ⟨T6, X6, e6, c6⟩ := kget X4 hx hZ hown (host := "") (Or.inl (w18 hw)) Via.refl e4 F2_ c5 rfl rfl (hb hby d10_20)
 have c7 : Kt p e below T6 st0 (mkF m 31 #[vr q_, vr o_, .val .null, .val .null, u_] [(rr q_), (rr o_)]) := fun t k => by
  refine c6 t ?_
  show S_ p e below T6 m 23 #[vr q_, vr o_, .val .null, .val .null, u_] [(rr p_), (rr o_)] t
  refine ldF X6 hx hZ hown (w92 hw) Via.refl e6 F10_ rfl rfl (hb hby d10_23) ?_
  show S_ p e below T6 m 26 #[vr q_, vr o_, .val .null, .val .null, u_] [(rr r_), (rr o_)] t
  refine Jvm.RoadKit.acmp (g := (mkF m 26 #[vr q_, vr o_, .val .null, .val .null, u_] [(rr r_), (rr o_)])) X6 hx rfl rfl rfl (pc0 := 26) (pc' := 29) (same := false) rfl (hb hby d10_26) rfl (decide_eq_false fun q => NE12_ (Value.ref.inj q)) (by decide) (by decide) ?_
  refine XS.aloadN X6.here hx rfl (hb hby d10_29) rfl rfl ?_
  refine XS.aloadN X6.here hx rfl (hb hby d10_30) rfl rfl ?_
  exact k
 obtain ⟨T8, X8, e8, c8⟩ := kget X6 hx hZ hown (host := "") (Or.inl (w18 hw)) Via.refl e6 F2_ c7 rfl rfl (hb hby d10_31)
 have c9 : Kt p e below T8 st0 (mkF m 48 #[vr q_, vr o_, .val .null, .val .null, u_] [(rr q_)]) := fun t k => by
  refine c8 t ?_
  show S_ p e below T8 m 34 #[vr q_, vr o_, .val .null, .val .null, u_] [(rr p_), (rr o_)] t
  refine ldF X8 hx hZ hown (w110 hw) Via.refl e8 F11_ rfl rfl (hb hby d10_34) ?_
  show S_ p e below T8 m 37 #[vr q_, vr o_, .val .null, .val .null, u_] [(rr r_), (rr o_)] t
  refine Jvm.RoadKit.acmp (g := (mkF m 37 #[vr q_, vr o_, .val .null, .val .null, u_] [(rr r_), (rr o_)])) X8 hx rfl rfl rfl (pc0 := 37) (pc' := 47) (same := false) rfl (hb hby d10_37) rfl (decide_eq_false fun q => NE12_ (Value.ref.inj q)) (by decide) (by decide) ?_
  refine XS.aloadN X8.here hx rfl (hb hby d10_47) rfl rfl ?_
  exact k
 obtain ⟨T10, X10, e10, c10⟩ := kget X8 hx hZ hown (host := "") (Or.inl (w20 hw)) Via.refl e8 F3_ c9 rfl rfl (hb hby d10_48)
 have c11 : Kt p e below T10 st0 (mkF m 60 #[vr q_, vr o_, .val .null, .val .null, vr h_] [.null, (rr h_)]) := fun t k => by
  refine c10 t ?_
  show S_ p e below T10 m 51 #[vr q_, vr o_, .val .null, .val .null, u_] [(rr h_)] t
  refine XS.astore X10.here hx rfl (hb hby d10_51) rfl rfl (l' := #[vr q_, vr o_, .val .null, .val .null, vr h_]) rfl ?_
  refine XS.aloadN X10.here hx rfl (hb hby d10_53) rfl rfl ?_
  refine XS.ifnonnullNo X10.here hx rfl (hb hby d10_54) rfl ?_
  refine XS.aload X10.here hx rfl (hb hby d10_57) rfl rfl ?_
  refine XS.aloadN X10.here hx rfl (hb hby d10_59) rfl rfl ?_
  exact k
 obtain ⟨T12, h12, X12, e12, W12, f13, o15, N14, c12⟩ := own_putFR X10 hx hZ (.object nm0) hown (w92 hw) Via.refl e10 F7_ E5_ (w93 hw) (w12 hw) c11 rfl rfl (hb hby d10_60) (by decide) rfl rfl O0 N0 G6_
 have kp16 := kp0.wr W12 (Or.inl (List.mem_of_getElem? (i := 1) rfl))
 have f17 := F8_.other W12 (Or.inr (slot_ne (Or.inl (w111 hw)) (Or.inl (w93 hw)) (by decide) (t := (.object nm0)) (t' := (.object nm0)) (by decide) (by decide)))
 have c18 : Kt p e below T12 st0 (mkF m 70 #[vr q_, vr o_, .val .null, .val .null, vr h_] [.null, (rr h_)]) := fun t k => by
  refine c12 t ?_
  show S_ p e below T12 m 63 #[vr q_, vr o_, .val .null, .val .null, vr h_] [] t
  refine XS.aloadN X12.here hx rfl (hb hby d10_63) rfl rfl ?_
  refine XS.ifnonnullNo X12.here hx rfl (hb hby d10_64) rfl ?_
  refine XS.aload X12.here hx rfl (hb hby d10_67) rfl rfl ?_
  refine XS.aloadN X12.here hx rfl (hb hby d10_69) rfl rfl ?_
  exact k
 obtain ⟨T19, h19, X19, e19, W19, f20, o22, N21, c19⟩ := own_putFR X12 hx hZ (.object nm0) hown (w110 hw) Via.refl e12 f17 (E5_.wr W12) (w111 hw) (w12 hw) c18 rfl rfl (hb hby d10_70) (by decide) rfl rfl o15 N14 G6_
 have kp23 := kp16.wr W19 (Or.inl (List.mem_of_getElem? (i := 1) rfl))
 have q24 := Exa.ne E1_ E5_ (by decide)
 have c25 : Kt p e below T19 st0 (mkF m 93 #[vr q_, vr o_, .val .null, .val .null, vr h_] [.null, (rr o_)]) := fun t k => by
  refine c19 t ?_
  show S_ p e below T19 m 73 #[vr q_, vr o_, .val .null, .val .null, vr h_] [] t
  refine XS.aloadN X19.here hx rfl (hb hby d10_73) rfl rfl ?_
  refine XS.ifnullYes X19.here hx rfl (pc0 := 74) (pc' := 82) rfl (hb hby d10_74) rfl (by decide) (by decide) ?_
  refine XS.aloadN X19.here hx rfl (hb hby d10_82) rfl rfl ?_
  refine XS.ifnullYes X19.here hx rfl (pc0 := 83) (pc' := 91) rfl (hb hby d10_83) rfl (by decide) (by decide) ?_
  refine XS.aloadN X19.here hx rfl (hb hby d10_91) rfl rfl ?_
  refine XS.aconstNull X19.here hx rfl (hb hby d10_92) ?_
  exact k
 obtain ⟨T26, h26, X26, e26, W26, f27, o29, N28, c26⟩ := kput X19 hx hZ (.object nm3) hown (host := "") (Or.inl (w108 hw)) Via.refl e19 ((F13_.other W12 (Or.inl q24)).other W19 (Or.inl q24)) ((E1_.wr W12).wr W19) (Or.inl (w109 hw)) (w25 hw) c25 rfl rfl (hb hby d10_93) (by decide) rfl rfl o22 N21 G4_
 have kp30 := kp23.wr W26 (Or.inl (List.mem_of_getElem? (i := 0) rfl))
 have f31 := ((F14_.other W12 (Or.inl q24)).other W19 (Or.inl q24)).other W26 (Or.inr (slot_ne (Or.inl (w113 hw)) (Or.inl (w109 hw)) (by decide) (t := (.object nm0)) (t' := (.object nm3)) (by decide) (by decide)))
 have c32 : Kt p e below T26 st0 (mkF m 98 #[vr q_, vr o_, .val .null, .val .null, vr h_] [.null, (rr o_)]) := fun t k => by
  refine c26 t ?_
  show S_ p e below T26 m 96 #[vr q_, vr o_, .val .null, .val .null, vr h_] [] t
  refine XS.aloadN X26.here hx rfl (hb hby d10_96) rfl rfl ?_
  refine XS.aconstNull X26.here hx rfl (hb hby d10_97) ?_
  exact k
 obtain ⟨T33, h33, X33, e33, W33, f34, o36, N35, c33⟩ := kput X26 hx hZ (.object nm0) hown (host := "") (Or.inl (w112 hw)) Via.refl e26 f31 (((E1_.wr W12).wr W19).wr W26) (Or.inl (w113 hw)) (w25 hw) c32 rfl rfl (hb hby d10_98) (by decide) rfl rfl o29 N28 G4_
 have kp37 := kp30.wr W33 (Or.inl (List.mem_of_getElem? (i := 0) rfl))
 have f38 := (((F15_.other W12 (Or.inl q24)).other W19 (Or.inl q24)).other W26 (Or.inr (slot_ne (Or.inl (w115 hw)) (Or.inl (w109 hw)) (by decide) (t := (.object nm0)) (t' := (.object nm3)) (by decide) (by decide)))).other W33 (Or.inr (slot_ne (Or.inl (w115 hw)) (Or.inl (w113 hw)) (by decide) (t := (.object nm0)) (t' := (.object nm0)) (by decide) (by decide)))
 have c39 : Kt p e below T33 st0 (mkF m 103 #[vr q_, vr o_, .val .null, .val .null, vr h_] [.null, (rr o_)]) := fun t k => by
  refine c33 t ?_
  show S_ p e below T33 m 101 #[vr q_, vr o_, .val .null, .val .null, vr h_] [] t
  refine XS.aloadN X33.here hx rfl (hb hby d10_101) rfl rfl ?_
  refine XS.aconstNull X33.here hx rfl (hb hby d10_102) ?_
  exact k
 obtain ⟨T40, h40, X40, e40, W40, f41, o43, N42, c40⟩ := kput X33 hx hZ (.object nm0) hown (host := "") (Or.inl (w114 hw)) Via.refl e33 f38 ((((E1_.wr W12).wr W19).wr W26).wr W33) (Or.inl (w115 hw)) (w25 hw) c39 rfl rfl (hb hby d10_103) (by decide) rfl rfl o36 N35 G4_
 have kp44 := kp37.wr W40 (Or.inl (List.mem_of_getElem? (i := 0) rfl))
 have f45 := (f27.other W33 (Or.inr (slot_ne (Or.inl (w109 hw)) (Or.inl (w113 hw)) (by decide) (t := (.object nm3)) (t' := (.object nm0)) (by decide) (by decide)))).other W40 (Or.inr (slot_ne (Or.inl (w109 hw)) (Or.inl (w115 hw)) (by decide) (t := (.object nm3)) (t' := (.object nm0)) (by decide) (by decide)))
 have f46 := f34.other W40 (Or.inr (slot_ne (Or.inl (w113 hw)) (Or.inl (w115 hw)) (by decide) (t := (.object nm0)) (t' := (.object nm0)) (by decide) (by decide)))
 have f47 := (((f13.other W19 (Or.inr (slot_ne (Or.inl (w93 hw)) (Or.inl (w111 hw)) (by decide) (t := (.object nm0)) (t' := (.object nm0)) (by decide) (by decide)))).other W26 (Or.inl q24.symm)).other W33 (Or.inl q24.symm)).other W40 (Or.inl q24.symm)
 obtain ⟨fs, hr, hrun, hended, hW, hsame⟩ := X40.leave (v := none) (fun _ => rfl)
 refine ⟨_, _, c40 _ ?_, hrun, hended, _, _, rfl, ?_, ⟨_, rfl⟩, hW, hsame.mono (by decide) (by decide)⟩
 ·show S_ p e below T40 m 106 #[vr q_, vr o_, .val .null, .val .null, vr h_] [] _
  exact X40.returnOut hx Bd.returns (hb hby d10_106) hr
 ·show Q_rmH1r Z q_ o_ p_ h_ r_ h0 n0 _ T40.heap _
  rw [e40]
  exact ⟨rfl, N42, kp44, f45, f46, f41, f47, (((f20.other W26 (Or.inl q24.symm)).other W33 (Or.inl q24.symm)).other W40 (Or.inl q24.symm))⟩
theorem d10_86 : decode prog_34_method_5_code 86 = .ok (.aload_n 3, 1) := by decide +kernel
theorem d10_87 : decode prog_34_method_5_code 87 = .ok (.aload_n 2, 1) := by decide +kernel
theorem d10_88 : decode prog_34_method_5_code 88 = .ok (.putfield 36, 3) := by decide +kernel
theorem ef_rmSF (m : MethodId) (q_ : Addr) (o_ : Addr) : entryFrame m #[(rr q_), (rr o_)] 5 = mkF m 0 #[vr q_, vr o_, u_, u_, u_] [] := by first | (simp [entryFrame, mkF, argsToLocals, Value.category]; done) | rfl
def Q_rmSF (Z : State) (q_ : Addr) (o_ : Addr) (p_ : Addr) (h_ : Addr) (r_ : Addr) (h0 : Heap) (n0 : Nat) (v : Option Value) (h : Heap) (L : List Loc) : Prop := v = none ∧ Fr n0 L ∧ Keep h0 h [o_, p_, r_] ∧ Fld Z h o_ nm0 "queue" nm4 .null ∧ Fld Z h o_ nm0 "previous" nm1 .null ∧ Fld Z h o_ nm0 "next" nm1 .null ∧ Fld Z h p_ nm2 "head" nm1 (rr r_) ∧ Fld Z h p_ nm2 "tail" nm1 (rr r_) ∧ Fld Z h r_ nm0 "queue" nm4 (rr q_) ∧ Fld Z h r_ nm0 "previous" nm1 .null ∧ Fld Z h r_ nm0 "next" nm1 .null
set_option maxRecDepth 65536 in
set_option maxHeartbeats 40000000 in
theorem rm_rmSF (l : Launch) (Z : State) (a0 : Array Value) (hw : HW Z a0) (ws : List Jvm.Cond) (q_ : Addr) (o_ : Addr) (p_ : Addr) (h_ : Addr) (r_ : Addr) (h0 : Heap) (n0 : Nat) (O0 : Old Z n0 h0) (E0_ : Exa Z h0 q_ nm3) (E1_ : Exa Z h0 o_ nm0) (F2_ : Fld Z h0 q_ nm3 "shown" nm5 (rr p_)) (F3_ : Fld Z h0 q_ nm3 "hidden" nm5 (rr h_)) (G4_ : n0 ≤ o_) (E5_ : Exa Z h0 p_ nm2) (G6_ : n0 ≤ p_) (F7_ : Fld Z h0 p_ nm2 "head" nm1 (rr o_)) (F8_ : Fld Z h0 p_ nm2 "tail" nm1 (rr r_)) (E9_ : Exa Z h0 r_ nm0) (G10_ : n0 ≤ r_) (NE11_ : o_ ≠ r_) (F12_ : Fld Z h0 o_ nm0 "queue" nm4 (rr q_)) (F13_ : Fld Z h0 o_ nm0 "previous" nm1 .null) (F14_ : Fld Z h0 o_ nm0 "next" nm1 (rr r_)) (F15_ : Fld Z h0 r_ nm0 "queue" nm4 (rr q_)) (F16_ : Fld Z h0 r_ nm0 "previous" nm1 (rr o_)) (F17_ : Fld Z h0 r_ nm0 "next" nm1 .null) :
  MFP l Z (⟨nm3, "remove", nm8⟩ : MethodName) prog_34_method_5_code 5 none ({ frames := 0, cells := 0, slots := 0, locals := 0 } : Room) ws #[(rr q_), (rr o_)] h0 (Q_rmSF Z q_ o_ p_ h_ r_ h0 n0) := by
 refine MetFree.of_bodySF (plainFor_of_name pn_com_example_lexchange_lexchange_PriceQueue) hisR ?_
 intro p e s m args below meth c s₁ Bd hml0 hP hK
 obtain ⟨rfl, hZ, hh⟩ := hP
 have hx := Bd.exec
 have hby := Bd.bytes
 have hml : c.maxLocals = 5 := hml0
 have hown : s.vm.findClass nm3 = some m.cls := findClass_of_methodNamed Bd.named
 have hnm := (name_of_methodNamed Bd.named Bd.method).1
 have X0 : Stand p l e ({ frames := 0, cells := 0, slots := 0, locals := 0 } : Room) s m #[(rr q_), (rr o_)] below meth c s₁ [] 0 0 := Stand.of_body Bd
 have e0 : s₁.heap = h0 := by rw [← hh, Bd.state]; rfl
 have N0 := Fr.nil n0
 have kp0 : Keep h0 h0 [o_, p_, r_] := Keep.refl _ _
 have c0 : ∀ t, S_ p e below s₁ m 0 #[vr q_, vr o_, u_, u_, u_] [] t → Steps p.tables e below (s₁.setTop (entryFrame m #[(rr q_), (rr o_)] 5)) t := fun t k => castTop (ef_rmSF m q_ o_) k
 generalize s₁.setTop (entryFrame m #[(rr q_), (rr o_)] 5) = st0 at c0 ⊢
 replace c0 : Kt p e below s₁ st0 (mkF m 0 #[vr q_, vr o_, u_, u_, u_] []) := c0
 have c1 : Kt p e below s₁ st0 (mkF m 1 #[vr q_, vr o_, u_, u_, u_] [(rr o_)]) := fun t k => by
  refine c0 t ?_
  show S_ p e below s₁ m 0 #[vr q_, vr o_, u_, u_, u_] [] t
  refine XS.aloadN X0.here hx rfl (hb hby d10_0) rfl rfl ?_
  exact k
 obtain ⟨T2, X2, e2, c2⟩ := kget X0 hx hZ hown (host := "") (Or.inl (w112 hw)) Via.refl e0 F13_ c1 rfl rfl (hb hby d10_1)
 have c3 : Kt p e below T2 st0 (mkF m 6 #[vr q_, vr o_, .val .null, u_, u_] [(rr o_)]) := fun t k => by
  refine c2 t ?_
  show S_ p e below T2 m 4 #[vr q_, vr o_, u_, u_, u_] [.null] t
  refine XS.astoreN X2.here hx rfl (hb hby d10_4) rfl rfl (l' := #[vr q_, vr o_, .val .null, u_, u_]) rfl ?_
  refine XS.aloadN X2.here hx rfl (hb hby d10_5) rfl rfl ?_
  exact k
 obtain ⟨T4, X4, e4, c4⟩ := kget X2 hx hZ hown (host := "") (Or.inl (w114 hw)) Via.refl e2 F14_ c3 rfl rfl (hb hby d10_6)
 have c5 : Kt p e below T4 st0 (mkF m 20 #[vr q_, vr o_, .val .null, vr r_, u_] [(rr q_), (rr o_)]) := fun t k => by
  refine c4 t ?_
  show S_ p e below T4 m 9 #[vr q_, vr o_, .val .null, u_, u_] [(rr r_)] t
  refine XS.astoreN X4.here hx rfl (hb hby d10_9) rfl rfl (l' := #[vr q_, vr o_, .val .null, vr r_, u_]) rfl ?_
  refine XS.aloadN X4.here hx rfl (hb hby d10_10) rfl rfl ?_
  refine XS.ifnullYes X4.here hx rfl (pc0 := 11) (pc' := 18) rfl (hb hby d10_11) rfl (by decide) (by decide) ?_
  refine XS.aloadN X4.here hx rfl (hb hby d10_18) rfl rfl ?_
  refine XS.aloadN X4.here hx rfl (hb hby d10_19) rfl rfl ?_
  exact k
 obtain ⟨T6, X6, e6, c6⟩ := kget X4 hx hZ hown (host := "") (Or.inl (w18 hw)) Via.refl e4 F2_ c5 rfl rfl (hb hby d10_20)
 have c7 : Kt p e below T6 st0 (mkF m 41 #[vr q_, vr o_, .val .null, vr r_, u_] [(rr q_)]) := fun t k => by
  refine c6 t ?_
  show S_ p e below T6 m 23 #[vr q_, vr o_, .val .null, vr r_, u_] [(rr p_), (rr o_)] t
  refine ldF X6 hx hZ hown (w92 hw) Via.refl e6 F7_ rfl rfl (hb hby d10_23) ?_
  show S_ p e below T6 m 26 #[vr q_, vr o_, .val .null, vr r_, u_] [(rr o_), (rr o_)] t
  refine Jvm.RoadKit.acmp (g := (mkF m 26 #[vr q_, vr o_, .val .null, vr r_, u_] [(rr o_), (rr o_)])) X6 hx rfl rfl rfl (pc0 := 26) (pc' := 40) (same := true) rfl (hb hby d10_26) rfl (decide_eq_true rfl) (by decide) (by decide) ?_
  refine XS.aloadN X6.here hx rfl (hb hby d10_40) rfl rfl ?_
  exact k
 obtain ⟨T8, X8, e8, c8⟩ := kget X6 hx hZ hown (host := "") (Or.inl (w18 hw)) Via.refl e6 F2_ c7 rfl rfl (hb hby d10_41)
 have c9 : Kt p e below T8 st0 (mkF m 60 #[vr q_, vr o_, .val .null, vr r_, vr p_] [(rr r_), (rr p_)]) := fun t k => by
  refine c8 t ?_
  show S_ p e below T8 m 44 #[vr q_, vr o_, .val .null, vr r_, u_] [(rr p_)] t
  refine yG X8.here hx rfl 44 51 rfl (hb hby d10_44) ?_
  refine XS.astore X8.here hx rfl (hb hby d10_51) rfl rfl (l' := #[vr q_, vr o_, .val .null, vr r_, vr p_]) rfl ?_
  refine XS.aloadN X8.here hx rfl (hb hby d10_53) rfl rfl ?_
  refine XS.ifnonnullNo X8.here hx rfl (hb hby d10_54) rfl ?_
  refine XS.aload X8.here hx rfl (hb hby d10_57) rfl rfl ?_
  refine XS.aloadN X8.here hx rfl (hb hby d10_59) rfl rfl ?_
  exact k
 obtain ⟨T10, h10, X10, e10, W10, f11, o13, N12, c10⟩ := own_putFR X8 hx hZ (.object nm0) hown (w92 hw) Via.refl e8 F7_ E5_ (w93 hw) (w12 hw) c9 rfl rfl (hb hby d10_60) (by decide) rfl rfl O0 N0 G6_
 have kp14 := kp0.wr W10 (Or.inl (List.mem_of_getElem? (i := 1) rfl))
 have q15 := Exa.ne E9_ E5_ (by decide)
 have c16 : Kt p e below T10 st0 (mkF m 88 #[vr q_, vr o_, .val .null, vr r_, vr p_] [.null, (rr r_)]) := fun t k => by
  refine c10 t ?_
  show S_ p e below T10 m 63 #[vr q_, vr o_, .val .null, vr r_, vr p_] [] t
  refine XS.aloadN X10.here hx rfl (hb hby d10_63) rfl rfl ?_
  refine XS.ifnonnullYes X10.here hx rfl (pc0 := 64) (pc' := 73) rfl (hb hby d10_64) rfl (by decide) (by decide) ?_
  refine XS.aloadN X10.here hx rfl (hb hby d10_73) rfl rfl ?_
  refine XS.ifnullYes X10.here hx rfl (pc0 := 74) (pc' := 82) rfl (hb hby d10_74) rfl (by decide) (by decide) ?_
  refine XS.aloadN X10.here hx rfl (hb hby d10_82) rfl rfl ?_
  refine XS.ifnullNo X10.here hx rfl (hb hby d10_83) rfl ?_
  refine XS.aloadN X10.here hx rfl (hb hby d10_86) rfl rfl ?_
  refine XS.aloadN X10.here hx rfl (hb hby d10_87) rfl rfl ?_
  exact k
 obtain ⟨T17, h17, X17, e17, W17, f18, o20, N19, c17⟩ := kput X10 hx hZ (.object nm0) hown (host := "") (Or.inl (w112 hw)) Via.refl e10 (F16_.other W10 (Or.inl q15)) (E9_.wr W10) (Or.inl (w113 hw)) (w25 hw) c16 rfl rfl (hb hby d10_88) (by decide) rfl rfl o13 N12 G10_
 have kp21 := kp14.wr W17 (Or.inl (List.mem_of_getElem? (i := 2) rfl))
 have q22 := Exa.ne E1_ E5_ (by decide)
 have c23 : Kt p e below T17 st0 (mkF m 93 #[vr q_, vr o_, .val .null, vr r_, vr p_] [.null, (rr o_)]) := fun t k => by
  refine c17 t ?_
  show S_ p e below T17 m 91 #[vr q_, vr o_, .val .null, vr r_, vr p_] [] t
  refine XS.aloadN X17.here hx rfl (hb hby d10_91) rfl rfl ?_
  refine XS.aconstNull X17.here hx rfl (hb hby d10_92) ?_
  exact k
 obtain ⟨T24, h24, X24, e24, W24, f25, o27, N26, c24⟩ := kput X17 hx hZ (.object nm3) hown (host := "") (Or.inl (w108 hw)) Via.refl e17 ((F12_.other W10 (Or.inl q22)).other W17 (Or.inl NE11_)) ((E1_.wr W10).wr W17) (Or.inl (w109 hw)) (w25 hw) c23 rfl rfl (hb hby d10_93) (by decide) rfl rfl o20 N19 G4_
 have kp28 := kp21.wr W24 (Or.inl (List.mem_of_getElem? (i := 0) rfl))
 have f29 := ((F13_.other W10 (Or.inl q22)).other W17 (Or.inl NE11_)).other W24 (Or.inr (slot_ne (Or.inl (w113 hw)) (Or.inl (w109 hw)) (by decide) (t := (.object nm0)) (t' := (.object nm3)) (by decide) (by decide)))
 have c30 : Kt p e below T24 st0 (mkF m 98 #[vr q_, vr o_, .val .null, vr r_, vr p_] [.null, (rr o_)]) := fun t k => by
  refine c24 t ?_
  show S_ p e below T24 m 96 #[vr q_, vr o_, .val .null, vr r_, vr p_] [] t
  refine XS.aloadN X24.here hx rfl (hb hby d10_96) rfl rfl ?_
  refine XS.aconstNull X24.here hx rfl (hb hby d10_97) ?_
  exact k
 obtain ⟨T31, h31, X31, e31, W31, f32, o34, N33, c31⟩ := kput X24 hx hZ (.object nm0) hown (host := "") (Or.inl (w112 hw)) Via.refl e24 f29 (((E1_.wr W10).wr W17).wr W24) (Or.inl (w113 hw)) (w25 hw) c30 rfl rfl (hb hby d10_98) (by decide) rfl rfl o27 N26 G4_
 have kp35 := kp28.wr W31 (Or.inl (List.mem_of_getElem? (i := 0) rfl))
 have f36 := (((F14_.other W10 (Or.inl q22)).other W17 (Or.inl NE11_)).other W24 (Or.inr (slot_ne (Or.inl (w115 hw)) (Or.inl (w109 hw)) (by decide) (t := (.object nm0)) (t' := (.object nm3)) (by decide) (by decide)))).other W31 (Or.inr (slot_ne (Or.inl (w115 hw)) (Or.inl (w113 hw)) (by decide) (t := (.object nm0)) (t' := (.object nm0)) (by decide) (by decide)))
 have c37 : Kt p e below T31 st0 (mkF m 103 #[vr q_, vr o_, .val .null, vr r_, vr p_] [.null, (rr o_)]) := fun t k => by
  refine c31 t ?_
  show S_ p e below T31 m 101 #[vr q_, vr o_, .val .null, vr r_, vr p_] [] t
  refine XS.aloadN X31.here hx rfl (hb hby d10_101) rfl rfl ?_
  refine XS.aconstNull X31.here hx rfl (hb hby d10_102) ?_
  exact k
 obtain ⟨T38, h38, X38, e38, W38, f39, o41, N40, c38⟩ := kput X31 hx hZ (.object nm0) hown (host := "") (Or.inl (w114 hw)) Via.refl e31 f36 ((((E1_.wr W10).wr W17).wr W24).wr W31) (Or.inl (w115 hw)) (w25 hw) c37 rfl rfl (hb hby d10_103) (by decide) rfl rfl o34 N33 G4_
 have kp42 := kp35.wr W38 (Or.inl (List.mem_of_getElem? (i := 0) rfl))
 have f43 := (f25.other W31 (Or.inr (slot_ne (Or.inl (w109 hw)) (Or.inl (w113 hw)) (by decide) (t := (.object nm3)) (t' := (.object nm0)) (by decide) (by decide)))).other W38 (Or.inr (slot_ne (Or.inl (w109 hw)) (Or.inl (w115 hw)) (by decide) (t := (.object nm3)) (t' := (.object nm0)) (by decide) (by decide)))
 have f44 := f32.other W38 (Or.inr (slot_ne (Or.inl (w113 hw)) (Or.inl (w115 hw)) (by decide) (t := (.object nm0)) (t' := (.object nm0)) (by decide) (by decide)))
 have f45 := (((f11.other W17 (Or.inl q15.symm)).other W24 (Or.inl q22.symm)).other W31 (Or.inl q22.symm)).other W38 (Or.inl q22.symm)
 have f46 := ((((F8_.other W10 (Or.inr (slot_ne (Or.inl (w111 hw)) (Or.inl (w93 hw)) (by decide) (t := (.object nm0)) (t' := (.object nm0)) (by decide) (by decide)))).other W17 (Or.inl q15.symm)).other W24 (Or.inl q22.symm)).other W31 (Or.inl q22.symm)).other W38 (Or.inl q22.symm)
 have f47 := ((((F15_.other W10 (Or.inl q15)).other W17 (Or.inr (slot_ne (Or.inl (w109 hw)) (Or.inl (w113 hw)) (by decide) (t := (.object nm3)) (t' := (.object nm0)) (by decide) (by decide)))).other W24 (Or.inl NE11_.symm)).other W31 (Or.inl NE11_.symm)).other W38 (Or.inl NE11_.symm)
 have f48 := ((((F17_.other W10 (Or.inl q15)).other W17 (Or.inr (slot_ne (Or.inl (w115 hw)) (Or.inl (w113 hw)) (by decide) (t := (.object nm0)) (t' := (.object nm0)) (by decide) (by decide)))).other W24 (Or.inl NE11_.symm)).other W31 (Or.inl NE11_.symm)).other W38 (Or.inl NE11_.symm)
 obtain ⟨fs, hr, hrun, hended, hW, hsame⟩ := X38.leave (v := none) (fun _ => rfl)
 refine ⟨_, _, c38 _ ?_, hrun, hended, _, _, rfl, ?_, ⟨_, rfl⟩, hW, hsame.mono (by decide) (by decide)⟩
 ·show S_ p e below T38 m 106 #[vr q_, vr o_, .val .null, vr r_, vr p_] [] _
  exact X38.returnOut hx Bd.returns (hb hby d10_106) hr
 ·show Q_rmSF Z q_ o_ p_ h_ r_ h0 n0 _ T38.heap _
  rw [e38]
  exact ⟨rfl, N40, kp42, f43, f44, f39, f45, f46, f47, (((f18.other W24 (Or.inl NE11_.symm)).other W31 (Or.inl NE11_.symm)).other W38 (Or.inl NE11_.symm)), f48⟩
theorem d10_14 : decode prog_34_method_5_code 14 = .ok (.aload_n 3, 1) := by decide +kernel
theorem d10_15 : decode prog_34_method_5_code 15 = .ok (.ifnonnull 58, 3) := by decide +kernel
theorem d10_77 : decode prog_34_method_5_code 77 = .ok (.aload_n 2, 1) := by decide +kernel
theorem d10_78 : decode prog_34_method_5_code 78 = .ok (.aload_n 3, 1) := by decide +kernel
theorem d10_79 : decode prog_34_method_5_code 79 = .ok (.putfield 39, 3) := by decide +kernel
theorem ef_rmSL (m : MethodId) (q_ : Addr) (o_ : Addr) : entryFrame m #[(rr q_), (rr o_)] 5 = mkF m 0 #[vr q_, vr o_, u_, u_, u_] [] := by first | (simp [entryFrame, mkF, argsToLocals, Value.category]; done) | rfl
def Q_rmSL (Z : State) (q_ : Addr) (o_ : Addr) (p_ : Addr) (h_ : Addr) (r_ : Addr) (h0 : Heap) (n0 : Nat) (v : Option Value) (h : Heap) (L : List Loc) : Prop := v = none ∧ Fr n0 L ∧ Keep h0 h [o_, p_, r_] ∧ Fld Z h o_ nm0 "queue" nm4 .null ∧ Fld Z h o_ nm0 "previous" nm1 .null ∧ Fld Z h o_ nm0 "next" nm1 .null ∧ Fld Z h p_ nm2 "head" nm1 (rr r_) ∧ Fld Z h p_ nm2 "tail" nm1 (rr r_) ∧ Fld Z h r_ nm0 "queue" nm4 (rr q_) ∧ Fld Z h r_ nm0 "previous" nm1 .null ∧ Fld Z h r_ nm0 "next" nm1 .null
set_option maxRecDepth 65536 in
set_option maxHeartbeats 40000000 in
theorem rm_rmSL (l : Launch) (Z : State) (a0 : Array Value) (hw : HW Z a0) (ws : List Jvm.Cond) (q_ : Addr) (o_ : Addr) (p_ : Addr) (h_ : Addr) (r_ : Addr) (h0 : Heap) (n0 : Nat) (O0 : Old Z n0 h0) (E0_ : Exa Z h0 q_ nm3) (E1_ : Exa Z h0 o_ nm0) (F2_ : Fld Z h0 q_ nm3 "shown" nm5 (rr p_)) (F3_ : Fld Z h0 q_ nm3 "hidden" nm5 (rr h_)) (G4_ : n0 ≤ o_) (E5_ : Exa Z h0 p_ nm2) (G6_ : n0 ≤ p_) (F7_ : Fld Z h0 p_ nm2 "head" nm1 (rr r_)) (F8_ : Fld Z h0 p_ nm2 "tail" nm1 (rr o_)) (E9_ : Exa Z h0 r_ nm0) (G10_ : n0 ≤ r_) (NE11_ : o_ ≠ r_) (F12_ : Fld Z h0 o_ nm0 "queue" nm4 (rr q_)) (F13_ : Fld Z h0 o_ nm0 "previous" nm1 (rr r_)) (F14_ : Fld Z h0 o_ nm0 "next" nm1 .null) (F15_ : Fld Z h0 r_ nm0 "queue" nm4 (rr q_)) (F16_ : Fld Z h0 r_ nm0 "previous" nm1 .null) (F17_ : Fld Z h0 r_ nm0 "next" nm1 (rr o_)) :
  MFP l Z (⟨nm3, "remove", nm8⟩ : MethodName) prog_34_method_5_code 5 none ({ frames := 0, cells := 0, slots := 0, locals := 0 } : Room) ws #[(rr q_), (rr o_)] h0 (Q_rmSL Z q_ o_ p_ h_ r_ h0 n0) := by
 refine MetFree.of_bodySF (plainFor_of_name pn_com_example_lexchange_lexchange_PriceQueue) hisR ?_
 intro p e s m args below meth c s₁ Bd hml0 hP hK
 obtain ⟨rfl, hZ, hh⟩ := hP
 have hx := Bd.exec
 have hby := Bd.bytes
 have hml : c.maxLocals = 5 := hml0
 have hown : s.vm.findClass nm3 = some m.cls := findClass_of_methodNamed Bd.named
 have hnm := (name_of_methodNamed Bd.named Bd.method).1
 have X0 : Stand p l e ({ frames := 0, cells := 0, slots := 0, locals := 0 } : Room) s m #[(rr q_), (rr o_)] below meth c s₁ [] 0 0 := Stand.of_body Bd
 have e0 : s₁.heap = h0 := by rw [← hh, Bd.state]; rfl
 have N0 := Fr.nil n0
 have kp0 : Keep h0 h0 [o_, p_, r_] := Keep.refl _ _
 have c0 : ∀ t, S_ p e below s₁ m 0 #[vr q_, vr o_, u_, u_, u_] [] t → Steps p.tables e below (s₁.setTop (entryFrame m #[(rr q_), (rr o_)] 5)) t := fun t k => castTop (ef_rmSL m q_ o_) k
 generalize s₁.setTop (entryFrame m #[(rr q_), (rr o_)] 5) = st0 at c0 ⊢
 replace c0 : Kt p e below s₁ st0 (mkF m 0 #[vr q_, vr o_, u_, u_, u_] []) := c0
 have c1 : Kt p e below s₁ st0 (mkF m 1 #[vr q_, vr o_, u_, u_, u_] [(rr o_)]) := fun t k => by
  refine c0 t ?_
  show S_ p e below s₁ m 0 #[vr q_, vr o_, u_, u_, u_] [] t
  refine XS.aloadN X0.here hx rfl (hb hby d10_0) rfl rfl ?_
  exact k
 obtain ⟨T2, X2, e2, c2⟩ := kget X0 hx hZ hown (host := "") (Or.inl (w112 hw)) Via.refl e0 F13_ c1 rfl rfl (hb hby d10_1)
 have c3 : Kt p e below T2 st0 (mkF m 6 #[vr q_, vr o_, vr r_, u_, u_] [(rr o_)]) := fun t k => by
  refine c2 t ?_
  show S_ p e below T2 m 4 #[vr q_, vr o_, u_, u_, u_] [(rr r_)] t
  refine XS.astoreN X2.here hx rfl (hb hby d10_4) rfl rfl (l' := #[vr q_, vr o_, vr r_, u_, u_]) rfl ?_
  refine XS.aloadN X2.here hx rfl (hb hby d10_5) rfl rfl ?_
  exact k
 obtain ⟨T4, X4, e4, c4⟩ := kget X2 hx hZ hown (host := "") (Or.inl (w114 hw)) Via.refl e2 F14_ c3 rfl rfl (hb hby d10_6)
 have c5 : Kt p e below T4 st0 (mkF m 20 #[vr q_, vr o_, vr r_, .val .null, u_] [(rr q_), (rr o_)]) := fun t k => by
  refine c4 t ?_
  show S_ p e below T4 m 9 #[vr q_, vr o_, vr r_, u_, u_] [.null] t
  refine XS.astoreN X4.here hx rfl (hb hby d10_9) rfl rfl (l' := #[vr q_, vr o_, vr r_, .val .null, u_]) rfl ?_
  refine XS.aloadN X4.here hx rfl (hb hby d10_10) rfl rfl ?_
  refine XS.ifnullNo X4.here hx rfl (hb hby d10_11) rfl ?_
  refine XS.aloadN X4.here hx rfl (hb hby d10_14) rfl rfl ?_
  refine XS.ifnonnullNo X4.here hx rfl (hb hby d10_15) rfl ?_
  refine XS.aloadN X4.here hx rfl (hb hby d10_18) rfl rfl ?_
  refine XS.aloadN X4.here hx rfl (hb hby d10_19) rfl rfl ?_
  exact k
 obtain ⟨T6, X6, e6, c6⟩ := kget X4 hx hZ hown (host := "") (Or.inl (w18 hw)) Via.refl e4 F2_ c5 rfl rfl (hb hby d10_20)
 have c7 : Kt p e below T6 st0 (mkF m 31 #[vr q_, vr o_, vr r_, .val .null, u_] [(rr q_), (rr o_)]) := fun t k => by
  refine c6 t ?_
  show S_ p e below T6 m 23 #[vr q_, vr o_, vr r_, .val .null, u_] [(rr p_), (rr o_)] t
  refine ldF X6 hx hZ hown (w92 hw) Via.refl e6 F7_ rfl rfl (hb hby d10_23) ?_
  show S_ p e below T6 m 26 #[vr q_, vr o_, vr r_, .val .null, u_] [(rr r_), (rr o_)] t
  refine Jvm.RoadKit.acmp (g := (mkF m 26 #[vr q_, vr o_, vr r_, .val .null, u_] [(rr r_), (rr o_)])) X6 hx rfl rfl rfl (pc0 := 26) (pc' := 29) (same := false) rfl (hb hby d10_26) rfl (decide_eq_false fun q => NE11_ (Value.ref.inj q)) (by decide) (by decide) ?_
  refine XS.aloadN X6.here hx rfl (hb hby d10_29) rfl rfl ?_
  refine XS.aloadN X6.here hx rfl (hb hby d10_30) rfl rfl ?_
  exact k
 obtain ⟨T8, X8, e8, c8⟩ := kget X6 hx hZ hown (host := "") (Or.inl (w18 hw)) Via.refl e6 F2_ c7 rfl rfl (hb hby d10_31)
 have c9 : Kt p e below T8 st0 (mkF m 41 #[vr q_, vr o_, vr r_, .val .null, u_] [(rr q_)]) := fun t k => by
  refine c8 t ?_
  show S_ p e below T8 m 34 #[vr q_, vr o_, vr r_, .val .null, u_] [(rr p_), (rr o_)] t
  refine ldF X8 hx hZ hown (w110 hw) Via.refl e8 F8_ rfl rfl (hb hby d10_34) ?_
  show S_ p e below T8 m 37 #[vr q_, vr o_, vr r_, .val .null, u_] [(rr o_), (rr o_)] t
  refine Jvm.RoadKit.acmp (g := (mkF m 37 #[vr q_, vr o_, vr r_, .val .null, u_] [(rr o_), (rr o_)])) X8 hx rfl rfl rfl (pc0 := 37) (pc' := 40) (same := true) rfl (hb hby d10_37) rfl (decide_eq_true rfl) (by decide) (by decide) ?_
  refine XS.aloadN X8.here hx rfl (hb hby d10_40) rfl rfl ?_
  exact k
 obtain ⟨T10, X10, e10, c10⟩ := kget X8 hx hZ hown (host := "") (Or.inl (w18 hw)) Via.refl e8 F2_ c9 rfl rfl (hb hby d10_41)
 have c11 : Kt p e below T10 st0 (mkF m 70 #[vr q_, vr o_, vr r_, .val .null, vr p_] [(rr r_), (rr p_)]) := fun t k => by
  refine c10 t ?_
  show S_ p e below T10 m 44 #[vr q_, vr o_, vr r_, .val .null, u_] [(rr p_)] t
  refine yG X10.here hx rfl 44 51 rfl (hb hby d10_44) ?_
  refine XS.astore X10.here hx rfl (hb hby d10_51) rfl rfl (l' := #[vr q_, vr o_, vr r_, .val .null, vr p_]) rfl ?_
  refine XS.aloadN X10.here hx rfl (hb hby d10_53) rfl rfl ?_
  refine XS.ifnonnullYes X10.here hx rfl (pc0 := 54) (pc' := 63) rfl (hb hby d10_54) rfl (by decide) (by decide) ?_
  refine XS.aloadN X10.here hx rfl (hb hby d10_63) rfl rfl ?_
  refine XS.ifnonnullNo X10.here hx rfl (hb hby d10_64) rfl ?_
  refine XS.aload X10.here hx rfl (hb hby d10_67) rfl rfl ?_
  refine XS.aloadN X10.here hx rfl (hb hby d10_69) rfl rfl ?_
  exact k
 obtain ⟨T12, h12, X12, e12, W12, f13, o15, N14, c12⟩ := own_putFR X10 hx hZ (.object nm0) hown (w110 hw) Via.refl e10 F8_ E5_ (w111 hw) (w12 hw) c11 rfl rfl (hb hby d10_70) (by decide) rfl rfl O0 N0 G6_
 have kp16 := kp0.wr W12 (Or.inl (List.mem_of_getElem? (i := 1) rfl))
 have q17 := Exa.ne E9_ E5_ (by decide)
 have c18 : Kt p e below T12 st0 (mkF m 79 #[vr q_, vr o_, vr r_, .val .null, vr p_] [.null, (rr r_)]) := fun t k => by
  refine c12 t ?_
  show S_ p e below T12 m 73 #[vr q_, vr o_, vr r_, .val .null, vr p_] [] t
  refine XS.aloadN X12.here hx rfl (hb hby d10_73) rfl rfl ?_
  refine XS.ifnullNo X12.here hx rfl (hb hby d10_74) rfl ?_
  refine XS.aloadN X12.here hx rfl (hb hby d10_77) rfl rfl ?_
  refine XS.aloadN X12.here hx rfl (hb hby d10_78) rfl rfl ?_
  exact k
 obtain ⟨T19, h19, X19, e19, W19, f20, o22, N21, c19⟩ := kput X12 hx hZ (.object nm0) hown (host := "") (Or.inl (w114 hw)) Via.refl e12 (F17_.other W12 (Or.inl q17)) (E9_.wr W12) (Or.inl (w115 hw)) (w25 hw) c18 rfl rfl (hb hby d10_79) (by decide) rfl rfl o15 N14 G10_
 have kp23 := kp16.wr W19 (Or.inl (List.mem_of_getElem? (i := 2) rfl))
 have q24 := Exa.ne E1_ E5_ (by decide)
 have c25 : Kt p e below T19 st0 (mkF m 93 #[vr q_, vr o_, vr r_, .val .null, vr p_] [.null, (rr o_)]) := fun t k => by
  refine c19 t ?_
  show S_ p e below T19 m 82 #[vr q_, vr o_, vr r_, .val .null, vr p_] [] t
  refine XS.aloadN X19.here hx rfl (hb hby d10_82) rfl rfl ?_
  refine XS.ifnullYes X19.here hx rfl (pc0 := 83) (pc' := 91) rfl (hb hby d10_83) rfl (by decide) (by decide) ?_
  refine XS.aloadN X19.here hx rfl (hb hby d10_91) rfl rfl ?_
  refine XS.aconstNull X19.here hx rfl (hb hby d10_92) ?_
  exact k
 obtain ⟨T26, h26, X26, e26, W26, f27, o29, N28, c26⟩ := kput X19 hx hZ (.object nm3) hown (host := "") (Or.inl (w108 hw)) Via.refl e19 ((F12_.other W12 (Or.inl q24)).other W19 (Or.inl NE11_)) ((E1_.wr W12).wr W19) (Or.inl (w109 hw)) (w25 hw) c25 rfl rfl (hb hby d10_93) (by decide) rfl rfl o22 N21 G4_
 have kp30 := kp23.wr W26 (Or.inl (List.mem_of_getElem? (i := 0) rfl))
 have f31 := ((F13_.other W12 (Or.inl q24)).other W19 (Or.inl NE11_)).other W26 (Or.inr (slot_ne (Or.inl (w113 hw)) (Or.inl (w109 hw)) (by decide) (t := (.object nm0)) (t' := (.object nm3)) (by decide) (by decide)))
 have c32 : Kt p e below T26 st0 (mkF m 98 #[vr q_, vr o_, vr r_, .val .null, vr p_] [.null, (rr o_)]) := fun t k => by
  refine c26 t ?_
  show S_ p e below T26 m 96 #[vr q_, vr o_, vr r_, .val .null, vr p_] [] t
  refine XS.aloadN X26.here hx rfl (hb hby d10_96) rfl rfl ?_
  refine XS.aconstNull X26.here hx rfl (hb hby d10_97) ?_
  exact k
 obtain ⟨T33, h33, X33, e33, W33, f34, o36, N35, c33⟩ := kput X26 hx hZ (.object nm0) hown (host := "") (Or.inl (w112 hw)) Via.refl e26 f31 (((E1_.wr W12).wr W19).wr W26) (Or.inl (w113 hw)) (w25 hw) c32 rfl rfl (hb hby d10_98) (by decide) rfl rfl o29 N28 G4_
 have kp37 := kp30.wr W33 (Or.inl (List.mem_of_getElem? (i := 0) rfl))
 have f38 := (((F14_.other W12 (Or.inl q24)).other W19 (Or.inl NE11_)).other W26 (Or.inr (slot_ne (Or.inl (w115 hw)) (Or.inl (w109 hw)) (by decide) (t := (.object nm0)) (t' := (.object nm3)) (by decide) (by decide)))).other W33 (Or.inr (slot_ne (Or.inl (w115 hw)) (Or.inl (w113 hw)) (by decide) (t := (.object nm0)) (t' := (.object nm0)) (by decide) (by decide)))
 have c39 : Kt p e below T33 st0 (mkF m 103 #[vr q_, vr o_, vr r_, .val .null, vr p_] [.null, (rr o_)]) := fun t k => by
  refine c33 t ?_
  show S_ p e below T33 m 101 #[vr q_, vr o_, vr r_, .val .null, vr p_] [] t
  refine XS.aloadN X33.here hx rfl (hb hby d10_101) rfl rfl ?_
  refine XS.aconstNull X33.here hx rfl (hb hby d10_102) ?_
  exact k
 obtain ⟨T40, h40, X40, e40, W40, f41, o43, N42, c40⟩ := kput X33 hx hZ (.object nm0) hown (host := "") (Or.inl (w114 hw)) Via.refl e33 f38 ((((E1_.wr W12).wr W19).wr W26).wr W33) (Or.inl (w115 hw)) (w25 hw) c39 rfl rfl (hb hby d10_103) (by decide) rfl rfl o36 N35 G4_
 have kp44 := kp37.wr W40 (Or.inl (List.mem_of_getElem? (i := 0) rfl))
 have f45 := (f27.other W33 (Or.inr (slot_ne (Or.inl (w109 hw)) (Or.inl (w113 hw)) (by decide) (t := (.object nm3)) (t' := (.object nm0)) (by decide) (by decide)))).other W40 (Or.inr (slot_ne (Or.inl (w109 hw)) (Or.inl (w115 hw)) (by decide) (t := (.object nm3)) (t' := (.object nm0)) (by decide) (by decide)))
 have f46 := f34.other W40 (Or.inr (slot_ne (Or.inl (w113 hw)) (Or.inl (w115 hw)) (by decide) (t := (.object nm0)) (t' := (.object nm0)) (by decide) (by decide)))
 have f47 := ((((F7_.other W12 (Or.inr (slot_ne (Or.inl (w93 hw)) (Or.inl (w111 hw)) (by decide) (t := (.object nm0)) (t' := (.object nm0)) (by decide) (by decide)))).other W19 (Or.inl q17.symm)).other W26 (Or.inl q24.symm)).other W33 (Or.inl q24.symm)).other W40 (Or.inl q24.symm)
 have f48 := (((f13.other W19 (Or.inl q17.symm)).other W26 (Or.inl q24.symm)).other W33 (Or.inl q24.symm)).other W40 (Or.inl q24.symm)
 have f49 := ((((F15_.other W12 (Or.inl q17)).other W19 (Or.inr (slot_ne (Or.inl (w109 hw)) (Or.inl (w115 hw)) (by decide) (t := (.object nm3)) (t' := (.object nm0)) (by decide) (by decide)))).other W26 (Or.inl NE11_.symm)).other W33 (Or.inl NE11_.symm)).other W40 (Or.inl NE11_.symm)
 have f50 := ((((F16_.other W12 (Or.inl q17)).other W19 (Or.inr (slot_ne (Or.inl (w113 hw)) (Or.inl (w115 hw)) (by decide) (t := (.object nm0)) (t' := (.object nm0)) (by decide) (by decide)))).other W26 (Or.inl NE11_.symm)).other W33 (Or.inl NE11_.symm)).other W40 (Or.inl NE11_.symm)
 obtain ⟨fs, hr, hrun, hended, hW, hsame⟩ := X40.leave (v := none) (fun _ => rfl)
 refine ⟨_, _, c40 _ ?_, hrun, hended, _, _, rfl, ?_, ⟨_, rfl⟩, hW, hsame.mono (by decide) (by decide)⟩
 ·show S_ p e below T40 m 106 #[vr q_, vr o_, vr r_, .val .null, vr p_] [] _
  exact X40.returnOut hx Bd.returns (hb hby d10_106) hr
 ·show Q_rmSL Z q_ o_ p_ h_ r_ h0 n0 _ T40.heap _
  rw [e40]
  exact ⟨rfl, N42, kp44, f45, f46, f41, f47, f48, f49, f50, (((f20.other W26 (Or.inl NE11_.symm)).other W33 (Or.inl NE11_.symm)).other W40 (Or.inl NE11_.symm))⟩
theorem ef_rmHF (m : MethodId) (q_ : Addr) (o_ : Addr) : entryFrame m #[(rr q_), (rr o_)] 5 = mkF m 0 #[vr q_, vr o_, u_, u_, u_] [] := by first | (simp [entryFrame, mkF, argsToLocals, Value.category]; done) | rfl
def Q_rmHF (Z : State) (q_ : Addr) (o_ : Addr) (p_ : Addr) (h_ : Addr) (r_ : Addr) (h0 : Heap) (n0 : Nat) (v : Option Value) (h : Heap) (L : List Loc) : Prop := v = none ∧ Fr n0 L ∧ Keep h0 h [o_, h_, r_] ∧ Fld Z h o_ nm0 "queue" nm4 .null ∧ Fld Z h o_ nm0 "previous" nm1 .null ∧ Fld Z h o_ nm0 "next" nm1 .null ∧ Fld Z h h_ nm2 "head" nm1 (rr r_) ∧ Fld Z h h_ nm2 "tail" nm1 (rr r_) ∧ Fld Z h r_ nm0 "queue" nm4 (rr q_) ∧ Fld Z h r_ nm0 "previous" nm1 .null ∧ Fld Z h r_ nm0 "next" nm1 .null
set_option maxRecDepth 65536 in
set_option maxHeartbeats 40000000 in
theorem rm_rmHF (l : Launch) (Z : State) (a0 : Array Value) (hw : HW Z a0) (ws : List Jvm.Cond) (q_ : Addr) (o_ : Addr) (p_ : Addr) (h_ : Addr) (r_ : Addr) (h0 : Heap) (n0 : Nat) (O0 : Old Z n0 h0) (E0_ : Exa Z h0 q_ nm3) (E1_ : Exa Z h0 o_ nm0) (F2_ : Fld Z h0 q_ nm3 "shown" nm5 (rr p_)) (F3_ : Fld Z h0 q_ nm3 "hidden" nm5 (rr h_)) (G4_ : n0 ≤ o_) (E5_ : Exa Z h0 h_ nm2) (G6_ : n0 ≤ h_) (E7_ : Exa Z h0 p_ nm2) (F8_ : Fld Z h0 p_ nm2 "head" nm1 .null) (F9_ : Fld Z h0 p_ nm2 "tail" nm1 .null) (F10_ : Fld Z h0 h_ nm2 "head" nm1 (rr o_)) (F11_ : Fld Z h0 h_ nm2 "tail" nm1 (rr r_)) (E12_ : Exa Z h0 r_ nm0) (G13_ : n0 ≤ r_) (NE14_ : o_ ≠ r_) (F15_ : Fld Z h0 o_ nm0 "queue" nm4 (rr q_)) (F16_ : Fld Z h0 o_ nm0 "previous" nm1 .null) (F17_ : Fld Z h0 o_ nm0 "next" nm1 (rr r_)) (F18_ : Fld Z h0 r_ nm0 "queue" nm4 (rr q_)) (F19_ : Fld Z h0 r_ nm0 "previous" nm1 (rr o_)) (F20_ : Fld Z h0 r_ nm0 "next" nm1 .null) :
  MFP l Z (⟨nm3, "remove", nm8⟩ : MethodName) prog_34_method_5_code 5 none ({ frames := 0, cells := 0, slots := 0, locals := 0 } : Room) ws #[(rr q_), (rr o_)] h0 (Q_rmHF Z q_ o_ p_ h_ r_ h0 n0) := by
 refine MetFree.of_bodySF (plainFor_of_name pn_com_example_lexchange_lexchange_PriceQueue) hisR ?_
 intro p e s m args below meth c s₁ Bd hml0 hP hK
 obtain ⟨rfl, hZ, hh⟩ := hP
 have hx := Bd.exec
 have hby := Bd.bytes
 have hml : c.maxLocals = 5 := hml0
 have hown : s.vm.findClass nm3 = some m.cls := findClass_of_methodNamed Bd.named
 have hnm := (name_of_methodNamed Bd.named Bd.method).1
 have X0 : Stand p l e ({ frames := 0, cells := 0, slots := 0, locals := 0 } : Room) s m #[(rr q_), (rr o_)] below meth c s₁ [] 0 0 := Stand.of_body Bd
 have e0 : s₁.heap = h0 := by rw [← hh, Bd.state]; rfl
 have N0 := Fr.nil n0
 have kp0 : Keep h0 h0 [o_, h_, r_] := Keep.refl _ _
 have c0 : ∀ t, S_ p e below s₁ m 0 #[vr q_, vr o_, u_, u_, u_] [] t → Steps p.tables e below (s₁.setTop (entryFrame m #[(rr q_), (rr o_)] 5)) t := fun t k => castTop (ef_rmHF m q_ o_) k
 generalize s₁.setTop (entryFrame m #[(rr q_), (rr o_)] 5) = st0 at c0 ⊢
 replace c0 : Kt p e below s₁ st0 (mkF m 0 #[vr q_, vr o_, u_, u_, u_] []) := c0
 have c1 : Kt p e below s₁ st0 (mkF m 1 #[vr q_, vr o_, u_, u_, u_] [(rr o_)]) := fun t k => by
  refine c0 t ?_
  show S_ p e below s₁ m 0 #[vr q_, vr o_, u_, u_, u_] [] t
  refine XS.aloadN X0.here hx rfl (hb hby d10_0) rfl rfl ?_
  exact k
 obtain ⟨T2, X2, e2, c2⟩ := kget X0 hx hZ hown (host := "") (Or.inl (w112 hw)) Via.refl e0 F16_ c1 rfl rfl (hb hby d10_1)
 have c3 : Kt p e below T2 st0 (mkF m 6 #[vr q_, vr o_, .val .null, u_, u_] [(rr o_)]) := fun t k => by
  refine c2 t ?_
  show S_ p e below T2 m 4 #[vr q_, vr o_, u_, u_, u_] [.null] t
  refine XS.astoreN X2.here hx rfl (hb hby d10_4) rfl rfl (l' := #[vr q_, vr o_, .val .null, u_, u_]) rfl ?_
  refine XS.aloadN X2.here hx rfl (hb hby d10_5) rfl rfl ?_
  exact k
 obtain ⟨T4, X4, e4, c4⟩ := kget X2 hx hZ hown (host := "") (Or.inl (w114 hw)) Via.refl e2 F17_ c3 rfl rfl (hb hby d10_6)
 have c5 : Kt p e below T4 st0 (mkF m 20 #[vr q_, vr o_, .val .null, vr r_, u_] [(rr q_), (rr o_)]) := fun t k => by
  refine c4 t ?_
  show S_ p e below T4 m 9 #[vr q_, vr o_, .val .null, u_, u_] [(rr r_)] t
  refine XS.astoreN X4.here hx rfl (hb hby d10_9) rfl rfl (l' := #[vr q_, vr o_, .val .null, vr r_, u_]) rfl ?_
  refine XS.aloadN X4.here hx rfl (hb hby d10_10) rfl rfl ?_
  refine XS.ifnullYes X4.here hx rfl (pc0 := 11) (pc' := 18) rfl (hb hby d10_11) rfl (by decide) (by decide) ?_
  refine XS.aloadN X4.here hx rfl (hb hby d10_18) rfl rfl ?_
  refine XS.aloadN X4.here hx rfl (hb hby d10_19) rfl rfl ?_
  exact k
 obtain ⟨T6, X6, e6, c6⟩ := kget X4 hx hZ hown (host := "") (Or.inl (w18 hw)) Via.refl e4 F2_ c5 rfl rfl (hb hby d10_20)
 have c7 : Kt p e below T6 st0 (mkF m 31 #[vr q_, vr o_, .val .null, vr r_, u_] [(rr q_), (rr o_)]) := fun t k => by
  refine c6 t ?_
  show S_ p e below T6 m 23 #[vr q_, vr o_, .val .null, vr r_, u_] [(rr p_), (rr o_)] t
  refine ldF X6 hx hZ hown (w92 hw) Via.refl e6 F8_ rfl rfl (hb hby d10_23) ?_
  show S_ p e below T6 m 26 #[vr q_, vr o_, .val .null, vr r_, u_] [.null, (rr o_)] t
  refine Jvm.RoadKit.acmp (g := (mkF m 26 #[vr q_, vr o_, .val .null, vr r_, u_] [.null, (rr o_)])) X6 hx rfl rfl rfl (pc0 := 26) (pc' := 29) (same := false) rfl (hb hby d10_26) rfl (decide_eq_false nofun) (by decide) (by decide) ?_
  refine XS.aloadN X6.here hx rfl (hb hby d10_29) rfl rfl ?_
  refine XS.aloadN X6.here hx rfl (hb hby d10_30) rfl rfl ?_
  exact k
 obtain ⟨T8, X8, e8, c8⟩ := kget X6 hx hZ hown (host := "") (Or.inl (w18 hw)) Via.refl e6 F2_ c7 rfl rfl (hb hby d10_31)
 have c9 : Kt p e below T8 st0 (mkF m 48 #[vr q_, vr o_, .val .null, vr r_, u_] [(rr q_)]) := fun t k => by
  refine c8 t ?_
  show S_ p e below T8 m 34 #[vr q_, vr o_, .val .null, vr r_, u_] [(rr p_), (rr o_)] t
  refine ldF X8 hx hZ hown (w110 hw) Via.refl e8 F9_ rfl rfl (hb hby d10_34) ?_
  show S_ p e below T8 m 37 #[vr q_, vr o_, .val .null, vr r_, u_] [.null, (rr o_)] t
  refine Jvm.RoadKit.acmp (g := (mkF m 37 #[vr q_, vr o_, .val .null, vr r_, u_] [.null, (rr o_)])) X8 hx rfl rfl rfl (pc0 := 37) (pc' := 47) (same := false) rfl (hb hby d10_37) rfl (decide_eq_false nofun) (by decide) (by decide) ?_
  refine XS.aloadN X8.here hx rfl (hb hby d10_47) rfl rfl ?_
  exact k
 obtain ⟨T10, X10, e10, c10⟩ := kget X8 hx hZ hown (host := "") (Or.inl (w20 hw)) Via.refl e8 F3_ c9 rfl rfl (hb hby d10_48)
 have c11 : Kt p e below T10 st0 (mkF m 60 #[vr q_, vr o_, .val .null, vr r_, vr h_] [(rr r_), (rr h_)]) := fun t k => by
  refine c10 t ?_
  show S_ p e below T10 m 51 #[vr q_, vr o_, .val .null, vr r_, u_] [(rr h_)] t
  refine XS.astore X10.here hx rfl (hb hby d10_51) rfl rfl (l' := #[vr q_, vr o_, .val .null, vr r_, vr h_]) rfl ?_
  refine XS.aloadN X10.here hx rfl (hb hby d10_53) rfl rfl ?_
  refine XS.ifnonnullNo X10.here hx rfl (hb hby d10_54) rfl ?_
  refine XS.aload X10.here hx rfl (hb hby d10_57) rfl rfl ?_
  refine XS.aloadN X10.here hx rfl (hb hby d10_59) rfl rfl ?_
  exact k
 obtain ⟨T12, h12, X12, e12, W12, f13, o15, N14, c12⟩ := own_putFR X10 hx hZ (.object nm0) hown (w92 hw) Via.refl e10 F10_ E5_ (w93 hw) (w12 hw) c11 rfl rfl (hb hby d10_60) (by decide) rfl rfl O0 N0 G6_
 have kp16 := kp0.wr W12 (Or.inl (List.mem_of_getElem? (i := 1) rfl))
 have q17 := Exa.ne E12_ E5_ (by decide)
 have c18 : Kt p e below T12 st0 (mkF m 88 #[vr q_, vr o_, .val .null, vr r_, vr h_] [.null, (rr r_)]) := fun t k => by
  refine c12 t ?_
  show S_ p e below T12 m 63 #[vr q_, vr o_, .val .null, vr r_, vr h_] [] t
  refine XS.aloadN X12.here hx rfl (hb hby d10_63) rfl rfl ?_
  refine XS.ifnonnullYes X12.here hx rfl (pc0 := 64) (pc' := 73) rfl (hb hby d10_64) rfl (by decide) (by decide) ?_
  refine XS.aloadN X12.here hx rfl (hb hby d10_73) rfl rfl ?_
  refine XS.ifnullYes X12.here hx rfl (pc0 := 74) (pc' := 82) rfl (hb hby d10_74) rfl (by decide) (by decide) ?_
  refine XS.aloadN X12.here hx rfl (hb hby d10_82) rfl rfl ?_
  refine XS.ifnullNo X12.here hx rfl (hb hby d10_83) rfl ?_
  refine XS.aloadN X12.here hx rfl (hb hby d10_86) rfl rfl ?_
  refine XS.aloadN X12.here hx rfl (hb hby d10_87) rfl rfl ?_
  exact k
 obtain ⟨T19, h19, X19, e19, W19, f20, o22, N21, c19⟩ := kput X12 hx hZ (.object nm0) hown (host := "") (Or.inl (w112 hw)) Via.refl e12 (F19_.other W12 (Or.inl q17)) (E12_.wr W12) (Or.inl (w113 hw)) (w25 hw) c18 rfl rfl (hb hby d10_88) (by decide) rfl rfl o15 N14 G13_
 have kp23 := kp16.wr W19 (Or.inl (List.mem_of_getElem? (i := 2) rfl))
 have q24 := Exa.ne E1_ E5_ (by decide)
 have c25 : Kt p e below T19 st0 (mkF m 93 #[vr q_, vr o_, .val .null, vr r_, vr h_] [.null, (rr o_)]) := fun t k => by
  refine c19 t ?_
  show S_ p e below T19 m 91 #[vr q_, vr o_, .val .null, vr r_, vr h_] [] t
  refine XS.aloadN X19.here hx rfl (hb hby d10_91) rfl rfl ?_
  refine XS.aconstNull X19.here hx rfl (hb hby d10_92) ?_
  exact k
 obtain ⟨T26, h26, X26, e26, W26, f27, o29, N28, c26⟩ := kput X19 hx hZ (.object nm3) hown (host := "") (Or.inl (w108 hw)) Via.refl e19 ((F15_.other W12 (Or.inl q24)).other W19 (Or.inl NE14_)) ((E1_.wr W12).wr W19) (Or.inl (w109 hw)) (w25 hw) c25 rfl rfl (hb hby d10_93) (by decide) rfl rfl o22 N21 G4_
 have kp30 := kp23.wr W26 (Or.inl (List.mem_of_getElem? (i := 0) rfl))
 have f31 := ((F16_.other W12 (Or.inl q24)).other W19 (Or.inl NE14_)).other W26 (Or.inr (slot_ne (Or.inl (w113 hw)) (Or.inl (w109 hw)) (by decide) (t := (.object nm0)) (t' := (.object nm3)) (by decide) (by decide)))
 have c32 : Kt p e below T26 st0 (mkF m 98 #[vr q_, vr o_, .val .null, vr r_, vr h_] [.null, (rr o_)]) := fun t k => by
  refine c26 t ?_
  show S_ p e below T26 m 96 #[vr q_, vr o_, .val .null, vr r_, vr h_] [] t
  refine XS.aloadN X26.here hx rfl (hb hby d10_96) rfl rfl ?_
  refine XS.aconstNull X26.here hx rfl (hb hby d10_97) ?_
  exact k
 obtain ⟨T33, h33, X33, e33, W33, f34, o36, N35, c33⟩ := kput X26 hx hZ (.object nm0) hown (host := "") (Or.inl (w112 hw)) Via.refl e26 f31 (((E1_.wr W12).wr W19).wr W26) (Or.inl (w113 hw)) (w25 hw) c32 rfl rfl (hb hby d10_98) (by decide) rfl rfl o29 N28 G4_
 have kp37 := kp30.wr W33 (Or.inl (List.mem_of_getElem? (i := 0) rfl))
 have f38 := (((F17_.other W12 (Or.inl q24)).other W19 (Or.inl NE14_)).other W26 (Or.inr (slot_ne (Or.inl (w115 hw)) (Or.inl (w109 hw)) (by decide) (t := (.object nm0)) (t' := (.object nm3)) (by decide) (by decide)))).other W33 (Or.inr (slot_ne (Or.inl (w115 hw)) (Or.inl (w113 hw)) (by decide) (t := (.object nm0)) (t' := (.object nm0)) (by decide) (by decide)))
 have c39 : Kt p e below T33 st0 (mkF m 103 #[vr q_, vr o_, .val .null, vr r_, vr h_] [.null, (rr o_)]) := fun t k => by
  refine c33 t ?_
  show S_ p e below T33 m 101 #[vr q_, vr o_, .val .null, vr r_, vr h_] [] t
  refine XS.aloadN X33.here hx rfl (hb hby d10_101) rfl rfl ?_
  refine XS.aconstNull X33.here hx rfl (hb hby d10_102) ?_
  exact k
 obtain ⟨T40, h40, X40, e40, W40, f41, o43, N42, c40⟩ := kput X33 hx hZ (.object nm0) hown (host := "") (Or.inl (w114 hw)) Via.refl e33 f38 ((((E1_.wr W12).wr W19).wr W26).wr W33) (Or.inl (w115 hw)) (w25 hw) c39 rfl rfl (hb hby d10_103) (by decide) rfl rfl o36 N35 G4_
 have kp44 := kp37.wr W40 (Or.inl (List.mem_of_getElem? (i := 0) rfl))
 have f45 := (f27.other W33 (Or.inr (slot_ne (Or.inl (w109 hw)) (Or.inl (w113 hw)) (by decide) (t := (.object nm3)) (t' := (.object nm0)) (by decide) (by decide)))).other W40 (Or.inr (slot_ne (Or.inl (w109 hw)) (Or.inl (w115 hw)) (by decide) (t := (.object nm3)) (t' := (.object nm0)) (by decide) (by decide)))
 have f46 := f34.other W40 (Or.inr (slot_ne (Or.inl (w113 hw)) (Or.inl (w115 hw)) (by decide) (t := (.object nm0)) (t' := (.object nm0)) (by decide) (by decide)))
 have f47 := (((f13.other W19 (Or.inl q17.symm)).other W26 (Or.inl q24.symm)).other W33 (Or.inl q24.symm)).other W40 (Or.inl q24.symm)
 have f48 := ((((F11_.other W12 (Or.inr (slot_ne (Or.inl (w111 hw)) (Or.inl (w93 hw)) (by decide) (t := (.object nm0)) (t' := (.object nm0)) (by decide) (by decide)))).other W19 (Or.inl q17.symm)).other W26 (Or.inl q24.symm)).other W33 (Or.inl q24.symm)).other W40 (Or.inl q24.symm)
 have f49 := ((((F18_.other W12 (Or.inl q17)).other W19 (Or.inr (slot_ne (Or.inl (w109 hw)) (Or.inl (w113 hw)) (by decide) (t := (.object nm3)) (t' := (.object nm0)) (by decide) (by decide)))).other W26 (Or.inl NE14_.symm)).other W33 (Or.inl NE14_.symm)).other W40 (Or.inl NE14_.symm)
 have f50 := ((((F20_.other W12 (Or.inl q17)).other W19 (Or.inr (slot_ne (Or.inl (w115 hw)) (Or.inl (w113 hw)) (by decide) (t := (.object nm0)) (t' := (.object nm0)) (by decide) (by decide)))).other W26 (Or.inl NE14_.symm)).other W33 (Or.inl NE14_.symm)).other W40 (Or.inl NE14_.symm)
 obtain ⟨fs, hr, hrun, hended, hW, hsame⟩ := X40.leave (v := none) (fun _ => rfl)
 refine ⟨_, _, c40 _ ?_, hrun, hended, _, _, rfl, ?_, ⟨_, rfl⟩, hW, hsame.mono (by decide) (by decide)⟩
 ·show S_ p e below T40 m 106 #[vr q_, vr o_, .val .null, vr r_, vr h_] [] _
  exact X40.returnOut hx Bd.returns (hb hby d10_106) hr
 ·show Q_rmHF Z q_ o_ p_ h_ r_ h0 n0 _ T40.heap _
  rw [e40]
  exact ⟨rfl, N42, kp44, f45, f46, f41, f47, f48, f49, (((f20.other W26 (Or.inl NE14_.symm)).other W33 (Or.inl NE14_.symm)).other W40 (Or.inl NE14_.symm)), f50⟩
theorem ef_rmHL (m : MethodId) (q_ : Addr) (o_ : Addr) : entryFrame m #[(rr q_), (rr o_)] 5 = mkF m 0 #[vr q_, vr o_, u_, u_, u_] [] := by first | (simp [entryFrame, mkF, argsToLocals, Value.category]; done) | rfl
def Q_rmHL (Z : State) (q_ : Addr) (o_ : Addr) (p_ : Addr) (h_ : Addr) (r_ : Addr) (h0 : Heap) (n0 : Nat) (v : Option Value) (h : Heap) (L : List Loc) : Prop := v = none ∧ Fr n0 L ∧ Keep h0 h [o_, h_, r_] ∧ Fld Z h o_ nm0 "queue" nm4 .null ∧ Fld Z h o_ nm0 "previous" nm1 .null ∧ Fld Z h o_ nm0 "next" nm1 .null ∧ Fld Z h h_ nm2 "head" nm1 (rr r_) ∧ Fld Z h h_ nm2 "tail" nm1 (rr r_) ∧ Fld Z h r_ nm0 "queue" nm4 (rr q_) ∧ Fld Z h r_ nm0 "previous" nm1 .null ∧ Fld Z h r_ nm0 "next" nm1 .null
set_option maxRecDepth 65536 in
set_option maxHeartbeats 40000000 in
theorem rm_rmHL (l : Launch) (Z : State) (a0 : Array Value) (hw : HW Z a0) (ws : List Jvm.Cond) (q_ : Addr) (o_ : Addr) (p_ : Addr) (h_ : Addr) (r_ : Addr) (h0 : Heap) (n0 : Nat) (O0 : Old Z n0 h0) (E0_ : Exa Z h0 q_ nm3) (E1_ : Exa Z h0 o_ nm0) (F2_ : Fld Z h0 q_ nm3 "shown" nm5 (rr p_)) (F3_ : Fld Z h0 q_ nm3 "hidden" nm5 (rr h_)) (G4_ : n0 ≤ o_) (E5_ : Exa Z h0 h_ nm2) (G6_ : n0 ≤ h_) (E7_ : Exa Z h0 p_ nm2) (F8_ : Fld Z h0 p_ nm2 "head" nm1 .null) (F9_ : Fld Z h0 p_ nm2 "tail" nm1 .null) (F10_ : Fld Z h0 h_ nm2 "head" nm1 (rr r_)) (F11_ : Fld Z h0 h_ nm2 "tail" nm1 (rr o_)) (E12_ : Exa Z h0 r_ nm0) (G13_ : n0 ≤ r_) (NE14_ : o_ ≠ r_) (F15_ : Fld Z h0 o_ nm0 "queue" nm4 (rr q_)) (F16_ : Fld Z h0 o_ nm0 "previous" nm1 (rr r_)) (F17_ : Fld Z h0 o_ nm0 "next" nm1 .null) (F18_ : Fld Z h0 r_ nm0 "queue" nm4 (rr q_)) (F19_ : Fld Z h0 r_ nm0 "previous" nm1 .null) (F20_ : Fld Z h0 r_ nm0 "next" nm1 (rr o_)) :
  MFP l Z (⟨nm3, "remove", nm8⟩ : MethodName) prog_34_method_5_code 5 none ({ frames := 0, cells := 0, slots := 0, locals := 0 } : Room) ws #[(rr q_), (rr o_)] h0 (Q_rmHL Z q_ o_ p_ h_ r_ h0 n0) := by
 refine MetFree.of_bodySF (plainFor_of_name pn_com_example_lexchange_lexchange_PriceQueue) hisR ?_
 intro p e s m args below meth c s₁ Bd hml0 hP hK
 obtain ⟨rfl, hZ, hh⟩ := hP
 have hx := Bd.exec
 have hby := Bd.bytes
 have hml : c.maxLocals = 5 := hml0
 have hown : s.vm.findClass nm3 = some m.cls := findClass_of_methodNamed Bd.named
 have hnm := (name_of_methodNamed Bd.named Bd.method).1
 have X0 : Stand p l e ({ frames := 0, cells := 0, slots := 0, locals := 0 } : Room) s m #[(rr q_), (rr o_)] below meth c s₁ [] 0 0 := Stand.of_body Bd
 have e0 : s₁.heap = h0 := by rw [← hh, Bd.state]; rfl
 have N0 := Fr.nil n0
 have kp0 : Keep h0 h0 [o_, h_, r_] := Keep.refl _ _
 have c0 : ∀ t, S_ p e below s₁ m 0 #[vr q_, vr o_, u_, u_, u_] [] t → Steps p.tables e below (s₁.setTop (entryFrame m #[(rr q_), (rr o_)] 5)) t := fun t k => castTop (ef_rmHL m q_ o_) k
 generalize s₁.setTop (entryFrame m #[(rr q_), (rr o_)] 5) = st0 at c0 ⊢
 replace c0 : Kt p e below s₁ st0 (mkF m 0 #[vr q_, vr o_, u_, u_, u_] []) := c0
 have c1 : Kt p e below s₁ st0 (mkF m 1 #[vr q_, vr o_, u_, u_, u_] [(rr o_)]) := fun t k => by
  refine c0 t ?_
  show S_ p e below s₁ m 0 #[vr q_, vr o_, u_, u_, u_] [] t
  refine XS.aloadN X0.here hx rfl (hb hby d10_0) rfl rfl ?_
  exact k
 obtain ⟨T2, X2, e2, c2⟩ := kget X0 hx hZ hown (host := "") (Or.inl (w112 hw)) Via.refl e0 F16_ c1 rfl rfl (hb hby d10_1)
 have c3 : Kt p e below T2 st0 (mkF m 6 #[vr q_, vr o_, vr r_, u_, u_] [(rr o_)]) := fun t k => by
  refine c2 t ?_
  show S_ p e below T2 m 4 #[vr q_, vr o_, u_, u_, u_] [(rr r_)] t
  refine XS.astoreN X2.here hx rfl (hb hby d10_4) rfl rfl (l' := #[vr q_, vr o_, vr r_, u_, u_]) rfl ?_
  refine XS.aloadN X2.here hx rfl (hb hby d10_5) rfl rfl ?_
  exact k
 obtain ⟨T4, X4, e4, c4⟩ := kget X2 hx hZ hown (host := "") (Or.inl (w114 hw)) Via.refl e2 F17_ c3 rfl rfl (hb hby d10_6)
 have c5 : Kt p e below T4 st0 (mkF m 20 #[vr q_, vr o_, vr r_, .val .null, u_] [(rr q_), (rr o_)]) := fun t k => by
  refine c4 t ?_
  show S_ p e below T4 m 9 #[vr q_, vr o_, vr r_, u_, u_] [.null] t
  refine XS.astoreN X4.here hx rfl (hb hby d10_9) rfl rfl (l' := #[vr q_, vr o_, vr r_, .val .null, u_]) rfl ?_
  refine XS.aloadN X4.here hx rfl (hb hby d10_10) rfl rfl ?_
  refine XS.ifnullNo X4.here hx rfl (hb hby d10_11) rfl ?_
  refine XS.aloadN X4.here hx rfl (hb hby d10_14) rfl rfl ?_
  refine XS.ifnonnullNo X4.here hx rfl (hb hby d10_15) rfl ?_
  refine XS.aloadN X4.here hx rfl (hb hby d10_18) rfl rfl ?_
  refine XS.aloadN X4.here hx rfl (hb hby d10_19) rfl rfl ?_
  exact k
 obtain ⟨T6, X6, e6, c6⟩ := kget X4 hx hZ hown (host := "") (Or.inl (w18 hw)) Via.refl e4 F2_ c5 rfl rfl (hb hby d10_20)
 have c7 : Kt p e below T6 st0 (mkF m 31 #[vr q_, vr o_, vr r_, .val .null, u_] [(rr q_), (rr o_)]) := fun t k => by
  refine c6 t ?_
  show S_ p e below T6 m 23 #[vr q_, vr o_, vr r_, .val .null, u_] [(rr p_), (rr o_)] t
  refine ldF X6 hx hZ hown (w92 hw) Via.refl e6 F8_ rfl rfl (hb hby d10_23) ?_
  show S_ p e below T6 m 26 #[vr q_, vr o_, vr r_, .val .null, u_] [.null, (rr o_)] t
  refine Jvm.RoadKit.acmp (g := (mkF m 26 #[vr q_, vr o_, vr r_, .val .null, u_] [.null, (rr o_)])) X6 hx rfl rfl rfl (pc0 := 26) (pc' := 29) (same := false) rfl (hb hby d10_26) rfl (decide_eq_false nofun) (by decide) (by decide) ?_
  refine XS.aloadN X6.here hx rfl (hb hby d10_29) rfl rfl ?_
  refine XS.aloadN X6.here hx rfl (hb hby d10_30) rfl rfl ?_
  exact k
 obtain ⟨T8, X8, e8, c8⟩ := kget X6 hx hZ hown (host := "") (Or.inl (w18 hw)) Via.refl e6 F2_ c7 rfl rfl (hb hby d10_31)
 have c9 : Kt p e below T8 st0 (mkF m 48 #[vr q_, vr o_, vr r_, .val .null, u_] [(rr q_)]) := fun t k => by
  refine c8 t ?_
  show S_ p e below T8 m 34 #[vr q_, vr o_, vr r_, .val .null, u_] [(rr p_), (rr o_)] t
  refine ldF X8 hx hZ hown (w110 hw) Via.refl e8 F9_ rfl rfl (hb hby d10_34) ?_
  show S_ p e below T8 m 37 #[vr q_, vr o_, vr r_, .val .null, u_] [.null, (rr o_)] t
  refine Jvm.RoadKit.acmp (g := (mkF m 37 #[vr q_, vr o_, vr r_, .val .null, u_] [.null, (rr o_)])) X8 hx rfl rfl rfl (pc0 := 37) (pc' := 47) (same := false) rfl (hb hby d10_37) rfl (decide_eq_false nofun) (by decide) (by decide) ?_
  refine XS.aloadN X8.here hx rfl (hb hby d10_47) rfl rfl ?_
  exact k
 obtain ⟨T10, X10, e10, c10⟩ := kget X8 hx hZ hown (host := "") (Or.inl (w20 hw)) Via.refl e8 F3_ c9 rfl rfl (hb hby d10_48)
 have c11 : Kt p e below T10 st0 (mkF m 70 #[vr q_, vr o_, vr r_, .val .null, vr h_] [(rr r_), (rr h_)]) := fun t k => by
  refine c10 t ?_
  show S_ p e below T10 m 51 #[vr q_, vr o_, vr r_, .val .null, u_] [(rr h_)] t
  refine XS.astore X10.here hx rfl (hb hby d10_51) rfl rfl (l' := #[vr q_, vr o_, vr r_, .val .null, vr h_]) rfl ?_
  refine XS.aloadN X10.here hx rfl (hb hby d10_53) rfl rfl ?_
  refine XS.ifnonnullYes X10.here hx rfl (pc0 := 54) (pc' := 63) rfl (hb hby d10_54) rfl (by decide) (by decide) ?_
  refine XS.aloadN X10.here hx rfl (hb hby d10_63) rfl rfl ?_
  refine XS.ifnonnullNo X10.here hx rfl (hb hby d10_64) rfl ?_
  refine XS.aload X10.here hx rfl (hb hby d10_67) rfl rfl ?_
  refine XS.aloadN X10.here hx rfl (hb hby d10_69) rfl rfl ?_
  exact k
 obtain ⟨T12, h12, X12, e12, W12, f13, o15, N14, c12⟩ := own_putFR X10 hx hZ (.object nm0) hown (w110 hw) Via.refl e10 F11_ E5_ (w111 hw) (w12 hw) c11 rfl rfl (hb hby d10_70) (by decide) rfl rfl O0 N0 G6_
 have kp16 := kp0.wr W12 (Or.inl (List.mem_of_getElem? (i := 1) rfl))
 have q17 := Exa.ne E12_ E5_ (by decide)
 have c18 : Kt p e below T12 st0 (mkF m 79 #[vr q_, vr o_, vr r_, .val .null, vr h_] [.null, (rr r_)]) := fun t k => by
  refine c12 t ?_
  show S_ p e below T12 m 73 #[vr q_, vr o_, vr r_, .val .null, vr h_] [] t
  refine XS.aloadN X12.here hx rfl (hb hby d10_73) rfl rfl ?_
  refine XS.ifnullNo X12.here hx rfl (hb hby d10_74) rfl ?_
  refine XS.aloadN X12.here hx rfl (hb hby d10_77) rfl rfl ?_
  refine XS.aloadN X12.here hx rfl (hb hby d10_78) rfl rfl ?_
  exact k
 obtain ⟨T19, h19, X19, e19, W19, f20, o22, N21, c19⟩ := kput X12 hx hZ (.object nm0) hown (host := "") (Or.inl (w114 hw)) Via.refl e12 (F20_.other W12 (Or.inl q17)) (E12_.wr W12) (Or.inl (w115 hw)) (w25 hw) c18 rfl rfl (hb hby d10_79) (by decide) rfl rfl o15 N14 G13_
 have kp23 := kp16.wr W19 (Or.inl (List.mem_of_getElem? (i := 2) rfl))
 have q24 := Exa.ne E1_ E5_ (by decide)
 have c25 : Kt p e below T19 st0 (mkF m 93 #[vr q_, vr o_, vr r_, .val .null, vr h_] [.null, (rr o_)]) := fun t k => by
  refine c19 t ?_
  show S_ p e below T19 m 82 #[vr q_, vr o_, vr r_, .val .null, vr h_] [] t
  refine XS.aloadN X19.here hx rfl (hb hby d10_82) rfl rfl ?_
  refine XS.ifnullYes X19.here hx rfl (pc0 := 83) (pc' := 91) rfl (hb hby d10_83) rfl (by decide) (by decide) ?_
  refine XS.aloadN X19.here hx rfl (hb hby d10_91) rfl rfl ?_
  refine XS.aconstNull X19.here hx rfl (hb hby d10_92) ?_
  exact k
 obtain ⟨T26, h26, X26, e26, W26, f27, o29, N28, c26⟩ := kput X19 hx hZ (.object nm3) hown (host := "") (Or.inl (w108 hw)) Via.refl e19 ((F15_.other W12 (Or.inl q24)).other W19 (Or.inl NE14_)) ((E1_.wr W12).wr W19) (Or.inl (w109 hw)) (w25 hw) c25 rfl rfl (hb hby d10_93) (by decide) rfl rfl o22 N21 G4_
 have kp30 := kp23.wr W26 (Or.inl (List.mem_of_getElem? (i := 0) rfl))
 have f31 := ((F16_.other W12 (Or.inl q24)).other W19 (Or.inl NE14_)).other W26 (Or.inr (slot_ne (Or.inl (w113 hw)) (Or.inl (w109 hw)) (by decide) (t := (.object nm0)) (t' := (.object nm3)) (by decide) (by decide)))
 have c32 : Kt p e below T26 st0 (mkF m 98 #[vr q_, vr o_, vr r_, .val .null, vr h_] [.null, (rr o_)]) := fun t k => by
  refine c26 t ?_
  show S_ p e below T26 m 96 #[vr q_, vr o_, vr r_, .val .null, vr h_] [] t
  refine XS.aloadN X26.here hx rfl (hb hby d10_96) rfl rfl ?_
  refine XS.aconstNull X26.here hx rfl (hb hby d10_97) ?_
  exact k
 obtain ⟨T33, h33, X33, e33, W33, f34, o36, N35, c33⟩ := kput X26 hx hZ (.object nm0) hown (host := "") (Or.inl (w112 hw)) Via.refl e26 f31 (((E1_.wr W12).wr W19).wr W26) (Or.inl (w113 hw)) (w25 hw) c32 rfl rfl (hb hby d10_98) (by decide) rfl rfl o29 N28 G4_
 have kp37 := kp30.wr W33 (Or.inl (List.mem_of_getElem? (i := 0) rfl))
 have f38 := (((F17_.other W12 (Or.inl q24)).other W19 (Or.inl NE14_)).other W26 (Or.inr (slot_ne (Or.inl (w115 hw)) (Or.inl (w109 hw)) (by decide) (t := (.object nm0)) (t' := (.object nm3)) (by decide) (by decide)))).other W33 (Or.inr (slot_ne (Or.inl (w115 hw)) (Or.inl (w113 hw)) (by decide) (t := (.object nm0)) (t' := (.object nm0)) (by decide) (by decide)))
 have c39 : Kt p e below T33 st0 (mkF m 103 #[vr q_, vr o_, vr r_, .val .null, vr h_] [.null, (rr o_)]) := fun t k => by
  refine c33 t ?_
  show S_ p e below T33 m 101 #[vr q_, vr o_, vr r_, .val .null, vr h_] [] t
  refine XS.aloadN X33.here hx rfl (hb hby d10_101) rfl rfl ?_
  refine XS.aconstNull X33.here hx rfl (hb hby d10_102) ?_
  exact k
 obtain ⟨T40, h40, X40, e40, W40, f41, o43, N42, c40⟩ := kput X33 hx hZ (.object nm0) hown (host := "") (Or.inl (w114 hw)) Via.refl e33 f38 ((((E1_.wr W12).wr W19).wr W26).wr W33) (Or.inl (w115 hw)) (w25 hw) c39 rfl rfl (hb hby d10_103) (by decide) rfl rfl o36 N35 G4_
 have kp44 := kp37.wr W40 (Or.inl (List.mem_of_getElem? (i := 0) rfl))
 have f45 := (f27.other W33 (Or.inr (slot_ne (Or.inl (w109 hw)) (Or.inl (w113 hw)) (by decide) (t := (.object nm3)) (t' := (.object nm0)) (by decide) (by decide)))).other W40 (Or.inr (slot_ne (Or.inl (w109 hw)) (Or.inl (w115 hw)) (by decide) (t := (.object nm3)) (t' := (.object nm0)) (by decide) (by decide)))
 have f46 := f34.other W40 (Or.inr (slot_ne (Or.inl (w113 hw)) (Or.inl (w115 hw)) (by decide) (t := (.object nm0)) (t' := (.object nm0)) (by decide) (by decide)))
 have f47 := ((((F10_.other W12 (Or.inr (slot_ne (Or.inl (w93 hw)) (Or.inl (w111 hw)) (by decide) (t := (.object nm0)) (t' := (.object nm0)) (by decide) (by decide)))).other W19 (Or.inl q17.symm)).other W26 (Or.inl q24.symm)).other W33 (Or.inl q24.symm)).other W40 (Or.inl q24.symm)
 have f48 := (((f13.other W19 (Or.inl q17.symm)).other W26 (Or.inl q24.symm)).other W33 (Or.inl q24.symm)).other W40 (Or.inl q24.symm)
 have f49 := ((((F18_.other W12 (Or.inl q17)).other W19 (Or.inr (slot_ne (Or.inl (w109 hw)) (Or.inl (w115 hw)) (by decide) (t := (.object nm3)) (t' := (.object nm0)) (by decide) (by decide)))).other W26 (Or.inl NE14_.symm)).other W33 (Or.inl NE14_.symm)).other W40 (Or.inl NE14_.symm)
 have f50 := ((((F19_.other W12 (Or.inl q17)).other W19 (Or.inr (slot_ne (Or.inl (w113 hw)) (Or.inl (w115 hw)) (by decide) (t := (.object nm0)) (t' := (.object nm0)) (by decide) (by decide)))).other W26 (Or.inl NE14_.symm)).other W33 (Or.inl NE14_.symm)).other W40 (Or.inl NE14_.symm)
 obtain ⟨fs, hr, hrun, hended, hW, hsame⟩ := X40.leave (v := none) (fun _ => rfl)
 refine ⟨_, _, c40 _ ?_, hrun, hended, _, _, rfl, ?_, ⟨_, rfl⟩, hW, hsame.mono (by decide) (by decide)⟩
 ·show S_ p e below T40 m 106 #[vr q_, vr o_, vr r_, .val .null, vr h_] [] _
  exact X40.returnOut hx Bd.returns (hb hby d10_106) hr
 ·show Q_rmHL Z q_ o_ p_ h_ r_ h0 n0 _ T40.heap _
  rw [e40]
  exact ⟨rfl, N42, kp44, f45, f46, f41, f47, f48, f49, f50, (((f20.other W26 (Or.inl NE14_.symm)).other W33 (Or.inl NE14_.symm)).other W40 (Or.inl NE14_.symm))⟩
theorem d11_0 : decode prog_34_method_6_code 0 = .ok (.aload_n 0, 1) := by decide +kernel
theorem d11_1 : decode prog_34_method_6_code 1 = .ok (.getfield 10, 3) := by decide +kernel
theorem d11_4 : decode prog_34_method_6_code 4 = .ok (.getfield 42, 3) := by decide +kernel
theorem d11_7 : decode prog_34_method_6_code 7 = .ok (.ifnonnull 17, 3) := by decide +kernel
theorem d11_10 : decode prog_34_method_6_code 10 = .ok (.aload_n 0, 1) := by decide +kernel
theorem d11_11 : decode prog_34_method_6_code 11 = .ok (.getfield 16, 3) := by decide +kernel
theorem d11_14 : decode prog_34_method_6_code 14 = .ok (.getfield 42, 3) := by decide +kernel
theorem d11_17 : decode prog_34_method_6_code 17 = .ok (.ifnonnull 7, 3) := by decide +kernel
theorem d11_20 : decode prog_34_method_6_code 20 = .ok (.iconst 1, 1) := by decide +kernel
theorem d11_21 : decode prog_34_method_6_code 21 = .ok (.goto 4, 3) := by decide +kernel
theorem d11_25 : decode prog_34_method_6_code 25 = .ok (.ireturn, 1) := by decide +kernel
theorem ef_emE (m : MethodId) (q_ : Addr) : entryFrame m #[(rr q_)] 1 = mkF m 0 #[vr q_] [] := by first | (simp [entryFrame, mkF, argsToLocals, Value.category]; done) | rfl
def Q_emE (Z : State) (q_ : Addr) (p_ : Addr) (h_ : Addr) (h0 : Heap) (n0 : Nat) (v : Option Value) (h : Heap) (L : List Loc) : Prop := v = some (ii 1) ∧ Fr n0 L ∧ h = h0
set_option maxRecDepth 65536 in
set_option maxHeartbeats 40000000 in
theorem rm_emE (l : Launch) (Z : State) (a0 : Array Value) (hw : HW Z a0) (ws : List Jvm.Cond) (q_ : Addr) (p_ : Addr) (h_ : Addr) (h0 : Heap) (n0 : Nat) (O0 : Old Z n0 h0) (E0_ : Exa Z h0 q_ nm3) (F1_ : Fld Z h0 q_ nm3 "shown" nm5 (rr p_)) (F2_ : Fld Z h0 q_ nm3 "hidden" nm5 (rr h_)) (F3_ : Fld Z h0 p_ nm2 "head" nm1 .null) (F4_ : Fld Z h0 h_ nm2 "head" nm1 .null) :
  MFP l Z (⟨nm3, "isEmpty", "()Z"⟩ : MethodName) prog_34_method_6_code 1 (some .boolean) ({ frames := 0, cells := 0, slots := 0, locals := 0 } : Room) ws #[(rr q_)] h0 (Q_emE Z q_ p_ h_ h0 n0) := by
 refine MetFree.of_bodySF (plainFor_of_name pn_com_example_lexchange_lexchange_PriceQueue) hisR ?_
 intro p e s m args below meth c s₁ Bd hml0 hP hK
 obtain ⟨rfl, hZ, hh⟩ := hP
 have hx := Bd.exec
 have hby := Bd.bytes
 have hml : c.maxLocals = 1 := hml0
 have hown : s.vm.findClass nm3 = some m.cls := findClass_of_methodNamed Bd.named
 have hnm := (name_of_methodNamed Bd.named Bd.method).1
 have X0 : Stand p l e ({ frames := 0, cells := 0, slots := 0, locals := 0 } : Room) s m #[(rr q_)] below meth c s₁ [] 0 0 := Stand.of_body Bd
 have e0 : s₁.heap = h0 := by rw [← hh, Bd.state]; rfl
 have N0 := Fr.nil n0
 have kp0 : Keep h0 h0 [] := Keep.refl _ _
 have c0 : ∀ t, S_ p e below s₁ m 0 #[vr q_] [] t → Steps p.tables e below (s₁.setTop (entryFrame m #[(rr q_)] 1)) t := fun t k => castTop (ef_emE m q_) k
 generalize s₁.setTop (entryFrame m #[(rr q_)] 1) = st0 at c0 ⊢
 replace c0 : Kt p e below s₁ st0 (mkF m 0 #[vr q_] []) := c0
 have c1 : Kt p e below s₁ st0 (mkF m 1 #[vr q_] [(rr q_)]) := fun t k => by
  refine c0 t ?_
  show S_ p e below s₁ m 0 #[vr q_] [] t
  refine XS.aloadN X0.here hx rfl (hb hby d11_0) rfl rfl ?_
  exact k
 obtain ⟨T2, X2, e2, c2⟩ := kget X0 hx hZ hown (host := "") (Or.inl (w18 hw)) Via.refl e0 F1_ c1 rfl rfl (hb hby d11_1)
 have c3 : Kt p e below T2 st0 (mkF m 11 #[vr q_] [(rr q_)]) := fun t k => by
  refine c2 t ?_
  show S_ p e below T2 m 4 #[vr q_] [(rr p_)] t
  refine ldF X2 hx hZ hown (w92 hw) Via.refl e2 F3_ rfl rfl (hb hby d11_4) ?_
  refine XS.ifnonnullNo X2.here hx rfl (hb hby d11_7) rfl ?_
  refine XS.aloadN X2.here hx rfl (hb hby d11_10) rfl rfl ?_
  exact k
 obtain ⟨T4, X4, e4, c4⟩ := kget X2 hx hZ hown (host := "") (Or.inl (w20 hw)) Via.refl e2 F2_ c3 rfl rfl (hb hby d11_11)
 obtain ⟨fs, hr, hrun, hended, hW, hsame⟩ := X4.leave (v := some (ii 1)) (fun h => by rw [Bd.returns] at h; cases h)
 refine ⟨_, _, c4 _ ?_, hrun, hended, _, _, rfl, ?_, ⟨_, rfl⟩, hW, hsame.mono (by decide) (by decide)⟩
 ·show S_ p e below T4 m 14 #[vr q_] [(rr h_)] _
  refine ldF X4 hx hZ hown (w92 hw) Via.refl e4 F4_ rfl rfl (hb hby d11_14) ?_
  refine XS.ifnonnullNo X4.here hx rfl (hb hby d11_17) rfl ?_
  refine XS.iconst X4.here hx rfl (hb hby d11_20) ?_
  refine yG X4.here hx rfl 21 25 rfl (hb hby d11_21) ?_
  show S_ p e below T4 m 25 #[vr q_] [(ii 1)] _
  exact retN X4 hx (t := .boolean) Bd.returns (by simp) (hb hby d11_25) hr
 ·show Q_emE Z q_ p_ h_ h0 n0 _ T4.heap _
  rw [e4]
  exact ⟨rfl, N0, rfl⟩
theorem d11_24 : decode prog_34_method_6_code 24 = .ok (.iconst 0, 1) := by decide +kernel
theorem ef_emS (m : MethodId) (q_ : Addr) : entryFrame m #[(rr q_)] 1 = mkF m 0 #[vr q_] [] := by first | (simp [entryFrame, mkF, argsToLocals, Value.category]; done) | rfl
def Q_emS (Z : State) (q_ : Addr) (p_ : Addr) (h_ : Addr) (r_ : Addr) (h0 : Heap) (n0 : Nat) (v : Option Value) (h : Heap) (L : List Loc) : Prop := v = some (ii 0) ∧ Fr n0 L ∧ h = h0
set_option maxRecDepth 65536 in
set_option maxHeartbeats 40000000 in
theorem rm_emS (l : Launch) (Z : State) (a0 : Array Value) (hw : HW Z a0) (ws : List Jvm.Cond) (q_ : Addr) (p_ : Addr) (h_ : Addr) (r_ : Addr) (h0 : Heap) (n0 : Nat) (O0 : Old Z n0 h0) (E0_ : Exa Z h0 q_ nm3) (F1_ : Fld Z h0 q_ nm3 "shown" nm5 (rr p_)) (F2_ : Fld Z h0 q_ nm3 "hidden" nm5 (rr h_)) (F3_ : Fld Z h0 p_ nm2 "head" nm1 (rr r_)) :
  MFP l Z (⟨nm3, "isEmpty", "()Z"⟩ : MethodName) prog_34_method_6_code 1 (some .boolean) ({ frames := 0, cells := 0, slots := 0, locals := 0 } : Room) ws #[(rr q_)] h0 (Q_emS Z q_ p_ h_ r_ h0 n0) := by
 refine MetFree.of_bodySF (plainFor_of_name pn_com_example_lexchange_lexchange_PriceQueue) hisR ?_
 intro p e s m args below meth c s₁ Bd hml0 hP hK
 obtain ⟨rfl, hZ, hh⟩ := hP
 have hx := Bd.exec
 have hby := Bd.bytes
 have hml : c.maxLocals = 1 := hml0
 have hown : s.vm.findClass nm3 = some m.cls := findClass_of_methodNamed Bd.named
 have hnm := (name_of_methodNamed Bd.named Bd.method).1
 have X0 : Stand p l e ({ frames := 0, cells := 0, slots := 0, locals := 0 } : Room) s m #[(rr q_)] below meth c s₁ [] 0 0 := Stand.of_body Bd
 have e0 : s₁.heap = h0 := by rw [← hh, Bd.state]; rfl
 have N0 := Fr.nil n0
 have kp0 : Keep h0 h0 [] := Keep.refl _ _
 have c0 : ∀ t, S_ p e below s₁ m 0 #[vr q_] [] t → Steps p.tables e below (s₁.setTop (entryFrame m #[(rr q_)] 1)) t := fun t k => castTop (ef_emS m q_) k
 generalize s₁.setTop (entryFrame m #[(rr q_)] 1) = st0 at c0 ⊢
 replace c0 : Kt p e below s₁ st0 (mkF m 0 #[vr q_] []) := c0
 have c1 : Kt p e below s₁ st0 (mkF m 1 #[vr q_] [(rr q_)]) := fun t k => by
  refine c0 t ?_
  show S_ p e below s₁ m 0 #[vr q_] [] t
  refine XS.aloadN X0.here hx rfl (hb hby d11_0) rfl rfl ?_
  exact k
 obtain ⟨T2, X2, e2, c2⟩ := kget X0 hx hZ hown (host := "") (Or.inl (w18 hw)) Via.refl e0 F1_ c1 rfl rfl (hb hby d11_1)
 obtain ⟨fs, hr, hrun, hended, hW, hsame⟩ := X2.leave (v := some (ii 0)) (fun h => by rw [Bd.returns] at h; cases h)
 refine ⟨_, _, c2 _ ?_, hrun, hended, _, _, rfl, ?_, ⟨_, rfl⟩, hW, hsame.mono (by decide) (by decide)⟩
 ·show S_ p e below T2 m 4 #[vr q_] [(rr p_)] _
  refine ldF X2 hx hZ hown (w92 hw) Via.refl e2 F3_ rfl rfl (hb hby d11_4) ?_
  refine XS.ifnonnullYes X2.here hx rfl (pc0 := 7) (pc' := 24) rfl (hb hby d11_7) rfl (by decide) (by decide) ?_
  refine XS.iconst X2.here hx rfl (hb hby d11_24) ?_
  show S_ p e below T2 m 25 #[vr q_] [(ii 0)] _
  exact retN X2 hx (t := .boolean) Bd.returns (by simp) (hb hby d11_25) hr
 ·show Q_emS Z q_ p_ h_ r_ h0 n0 _ T2.heap _
  rw [e2]
  exact ⟨rfl, N0, rfl⟩
theorem ef_emH (m : MethodId) (q_ : Addr) : entryFrame m #[(rr q_)] 1 = mkF m 0 #[vr q_] [] := by first | (simp [entryFrame, mkF, argsToLocals, Value.category]; done) | rfl
def Q_emH (Z : State) (q_ : Addr) (p_ : Addr) (h_ : Addr) (r_ : Addr) (h0 : Heap) (n0 : Nat) (v : Option Value) (h : Heap) (L : List Loc) : Prop := v = some (ii 0) ∧ Fr n0 L ∧ h = h0
set_option maxRecDepth 65536 in
set_option maxHeartbeats 40000000 in
theorem rm_emH (l : Launch) (Z : State) (a0 : Array Value) (hw : HW Z a0) (ws : List Jvm.Cond) (q_ : Addr) (p_ : Addr) (h_ : Addr) (r_ : Addr) (h0 : Heap) (n0 : Nat) (O0 : Old Z n0 h0) (E0_ : Exa Z h0 q_ nm3) (F1_ : Fld Z h0 q_ nm3 "shown" nm5 (rr p_)) (F2_ : Fld Z h0 q_ nm3 "hidden" nm5 (rr h_)) (F3_ : Fld Z h0 p_ nm2 "head" nm1 .null) (F4_ : Fld Z h0 h_ nm2 "head" nm1 (rr r_)) :
  MFP l Z (⟨nm3, "isEmpty", "()Z"⟩ : MethodName) prog_34_method_6_code 1 (some .boolean) ({ frames := 0, cells := 0, slots := 0, locals := 0 } : Room) ws #[(rr q_)] h0 (Q_emH Z q_ p_ h_ r_ h0 n0) := by
 refine MetFree.of_bodySF (plainFor_of_name pn_com_example_lexchange_lexchange_PriceQueue) hisR ?_
 intro p e s m args below meth c s₁ Bd hml0 hP hK
 obtain ⟨rfl, hZ, hh⟩ := hP
 have hx := Bd.exec
 have hby := Bd.bytes
 have hml : c.maxLocals = 1 := hml0
 have hown : s.vm.findClass nm3 = some m.cls := findClass_of_methodNamed Bd.named
 have hnm := (name_of_methodNamed Bd.named Bd.method).1
 have X0 : Stand p l e ({ frames := 0, cells := 0, slots := 0, locals := 0 } : Room) s m #[(rr q_)] below meth c s₁ [] 0 0 := Stand.of_body Bd
 have e0 : s₁.heap = h0 := by rw [← hh, Bd.state]; rfl
 have N0 := Fr.nil n0
 have kp0 : Keep h0 h0 [] := Keep.refl _ _
 have c0 : ∀ t, S_ p e below s₁ m 0 #[vr q_] [] t → Steps p.tables e below (s₁.setTop (entryFrame m #[(rr q_)] 1)) t := fun t k => castTop (ef_emH m q_) k
 generalize s₁.setTop (entryFrame m #[(rr q_)] 1) = st0 at c0 ⊢
 replace c0 : Kt p e below s₁ st0 (mkF m 0 #[vr q_] []) := c0
 have c1 : Kt p e below s₁ st0 (mkF m 1 #[vr q_] [(rr q_)]) := fun t k => by
  refine c0 t ?_
  show S_ p e below s₁ m 0 #[vr q_] [] t
  refine XS.aloadN X0.here hx rfl (hb hby d11_0) rfl rfl ?_
  exact k
 obtain ⟨T2, X2, e2, c2⟩ := kget X0 hx hZ hown (host := "") (Or.inl (w18 hw)) Via.refl e0 F1_ c1 rfl rfl (hb hby d11_1)
 have c3 : Kt p e below T2 st0 (mkF m 11 #[vr q_] [(rr q_)]) := fun t k => by
  refine c2 t ?_
  show S_ p e below T2 m 4 #[vr q_] [(rr p_)] t
  refine ldF X2 hx hZ hown (w92 hw) Via.refl e2 F3_ rfl rfl (hb hby d11_4) ?_
  refine XS.ifnonnullNo X2.here hx rfl (hb hby d11_7) rfl ?_
  refine XS.aloadN X2.here hx rfl (hb hby d11_10) rfl rfl ?_
  exact k
 obtain ⟨T4, X4, e4, c4⟩ := kget X2 hx hZ hown (host := "") (Or.inl (w20 hw)) Via.refl e2 F2_ c3 rfl rfl (hb hby d11_11)
 obtain ⟨fs, hr, hrun, hended, hW, hsame⟩ := X4.leave (v := some (ii 0)) (fun h => by rw [Bd.returns] at h; cases h)
 refine ⟨_, _, c4 _ ?_, hrun, hended, _, _, rfl, ?_, ⟨_, rfl⟩, hW, hsame.mono (by decide) (by decide)⟩
 ·show S_ p e below T4 m 14 #[vr q_] [(rr h_)] _
  refine ldF X4 hx hZ hown (w92 hw) Via.refl e4 F4_ rfl rfl (hb hby d11_14) ?_
  refine XS.ifnonnullYes X4.here hx rfl (pc0 := 17) (pc' := 24) rfl (hb hby d11_17) rfl (by decide) (by decide) ?_
  refine XS.iconst X4.here hx rfl (hb hby d11_24) ?_
  show S_ p e below T4 m 25 #[vr q_] [(ii 0)] _
  exact retN X4 hx (t := .boolean) Bd.returns (by simp) (hb hby d11_25) hr
 ·show Q_emH Z q_ p_ h_ r_ h0 n0 _ T4.heap _
  rw [e4]
  exact ⟨rfl, N0, rfl⟩
theorem pn_com_example_lexchange_lexchange_PriceQueueIsEmptyPinLaw : plainName nm10 = true := by first | (simp [plainName, overriddenIn]; done) | decide +kernel
theorem pd_pJrV : parseMethodDescriptor "(J)V" = some ⟨[.long], none⟩ := by decide +kernel
theorem pd_pJLjava_lang_String_Lcom_example_lexchange_lexchange_Side_IJrV : parseMethodDescriptor "(JLjava/lang/String;Lcom/example/lexchange/lexchange/Side;IJ)V" = some ⟨[.long, (.object nm19), (.object nm7), .int, .long], none⟩ := by decide +kernel
theorem pd_pLcom_example_lexchange_lexchange_Order_rV : parseMethodDescriptor nm8 = some ⟨[(.object nm0)], none⟩ := by decide +kernel
theorem ef_law (m : MethodId) (j_ : Int64) (f_ : Int32) (m_ : Int32) (n_ : Int32) : entryFrame m #[(.long j_), (.int f_), (.int m_), (.int n_)] maxLocals = mkF m 0 #[vj j_, .second, vi f_, vi m_, vi n_, u_, u_, u_, u_, u_, u_, u_, u_, u_, u_, u_, u_] [] := by first | (simp [entryFrame, mkF, argsToLocals, Value.category, maxLocals]; done) | rfl
def Q_law (Z : State) (j_ : Int64) (f_ : Int32) (m_ : Int32) (n_ : Int32) (sa5_ : Addr) (sa9_ : Addr) (sa13_ : Addr) (sa17_ : Addr) (h0 : Heap) (n0 : Nat) (v : Option Value) (h : Heap) (L : List Loc) : Prop := v = some (ii 1) ∧ Fr n0 L ∧ Keep h0 h []
set_option maxRecDepth 65536 in
set_option maxHeartbeats 40000000 in
theorem rm_law (l : Launch) (Z : State) (a0 : Array Value) (hw : HW Z a0) (ws : List Jvm.Cond) (j_ : Int64) (f_ : Int32) (m_ : Int32) (n_ : Int32) (sa5_ : Addr) (sa9_ : Addr) (sa13_ : Addr) (sa17_ : Addr) (h0 : Heap) (n0 : Nat) (O0 : Old Z n0 h0) (ZS0_ : Sta Z Z.heap nm7 "BUY" nm14 (rr sa5_)) (ZE1_ : Exa Z Z.heap sa5_ nm7) (ZS2_ : Sta Z Z.heap nm9 "DAY" nm15 (rr sa9_)) (ZE3_ : Exa Z Z.heap sa9_ nm9) (ZS4_ : Sta Z Z.heap nm7 "SELL" nm14 (rr sa13_)) (ZE5_ : Exa Z Z.heap sa13_ nm7) (ZS6_ : Sta Z Z.heap nm6 "EMPTY" nm12 (rr sa17_)) (ZE7_ : Exa Z Z.heap sa17_ nm6) (ZF8_ : Fld Z Z.heap sa17_ nm6 "isPresent" "Z" (ii 0)) (ZF9_ : Fld Z Z.heap sa17_ nm6 "value" "I" (ii 0)) :
  MFS l Z x code maxLocals ret room_1 ws #[(.long j_), (.int f_), (.int m_), (.int n_)] h0 (Q_law Z j_ f_ m_ n_ sa5_ sa9_ sa13_ sa17_ h0 n0) := by
 refine MetFree.of_bodySF (plainFor_of_name pn_com_example_lexchange_lexchange_PriceQueueIsEmptyPinLaw) hisR ?_
 intro p e s m args below meth c s₁ Bd hml0 hP hK
 obtain ⟨rfl, hZ, hh⟩ := hP
 have hx := Bd.exec
 have hby := Bd.bytes
 have hml : c.maxLocals = 17 := hml0
 have hown : s.vm.findClass nm10 = some m.cls := findClass_of_methodNamed Bd.named
 have hnm := (name_of_methodNamed Bd.named Bd.method).1
 have X0 : Stand p l e room_1 (s.setVm s.vm) m #[(.long j_), (.int f_), (.int m_), (.int n_)] below meth c s₁ [] 0 0 := Stand.of_body Bd
 have e0 : s₁.heap = h0 := by rw [← hh, Bd.state]; rfl
 have N0 := Fr.nil n0
 have kp0 : Keep h0 h0 [] := Keep.refl _ _
 have hS0 : s.Since s.vm 0 := (State.WarmedH.refl s).since 0
 have c0 : ∀ t, S_ p e below s₁ m 0 #[vj j_, .second, vi f_, vi m_, vi n_, u_, u_, u_, u_, u_, u_, u_, u_, u_, u_, u_, u_] [] t → Steps p.tables e below (s₁.setTop (entryFrame m #[(.long j_), (.int f_), (.int m_), (.int n_)] maxLocals)) t := fun t k => castTop (ef_law m j_ f_ m_ n_) k
 generalize s₁.setTop (entryFrame m #[(.long j_), (.int f_), (.int m_), (.int n_)] maxLocals) = st0 at c0 ⊢
 replace c0 : Kt p e below s₁ st0 (mkF m 0 #[vj j_, .second, vi f_, vi m_, vi n_, u_, u_, u_, u_, u_, u_, u_, u_, u_, u_, u_, u_] []) := c0
 have c1 : Kt p e below s₁ st0 (mkF m 24 #[vj j_, .second, vi f_, vi m_, vi n_, .val (.int ((m_ &&& (1073741823 : Int32)) + (1 : Int32))), .val (.int ((n_ &&& (1073741823 : Int32)) + (1 : Int32))), .val (.long (j_ &&& (9223372036854775807 : Int64))), .second, u_, u_, u_, u_, u_, u_, u_, u_] []) := fun t k => by
  refine c0 t ?_
  show S_ p e below s₁ m 0 #[vj j_, .second, vi f_, vi m_, vi n_, u_, u_, u_, u_, u_, u_, u_, u_, u_, u_, u_, u_] [] t
  refine XS.iloadN X0.here hx rfl (hb hby at_0) rfl ?_
  show S_ p e below s₁ m 1 #[vj j_, .second, vi f_, vi m_, vi n_, u_, u_, u_, u_, u_, u_, u_, u_, u_, u_, u_, u_] [(.int m_)] t
  refine X0.ldcInt hx hown (mvT hZ (w0 hw)) (g := (mkF m 1 #[vj j_, .second, vi f_, vi m_, vi n_, u_, u_, u_, u_, u_, u_, u_, u_, u_, u_, u_, u_] [(.int m_)])) rfl (hb hby at_1) _ ?_
  refine XS.iand X0.here hx rfl (hb hby at_3) rfl ?_
  refine XS.iconst X0.here hx rfl (hb hby at_4) ?_
  refine XS.iadd X0.here hx rfl (hb hby at_5) rfl ?_
  refine XS.istore X0.here hx rfl (hb hby at_6) rfl (l' := #[vj j_, .second, vi f_, vi m_, vi n_, .val (.int ((m_ &&& (1073741823 : Int32)) + (1 : Int32))), u_, u_, u_, u_, u_, u_, u_, u_, u_, u_, u_]) rfl ?_
  refine XS.iload X0.here hx rfl (hb hby at_8) rfl ?_
  show S_ p e below s₁ m 10 #[vj j_, .second, vi f_, vi m_, vi n_, .val (.int ((m_ &&& (1073741823 : Int32)) + (1 : Int32))), u_, u_, u_, u_, u_, u_, u_, u_, u_, u_, u_] [(.int n_)] t
  refine X0.ldcInt hx hown (mvT hZ (w0 hw)) (g := (mkF m 10 #[vj j_, .second, vi f_, vi m_, vi n_, .val (.int ((m_ &&& (1073741823 : Int32)) + (1 : Int32))), u_, u_, u_, u_, u_, u_, u_, u_, u_, u_, u_] [(.int n_)])) rfl (hb hby at_10) _ ?_
  refine XS.iand X0.here hx rfl (hb hby at_12) rfl ?_
  refine XS.iconst X0.here hx rfl (hb hby at_13) ?_
  refine XS.iadd X0.here hx rfl (hb hby at_14) rfl ?_
  refine XS.istore X0.here hx rfl (hb hby at_15) rfl (l' := #[vj j_, .second, vi f_, vi m_, vi n_, .val (.int ((m_ &&& (1073741823 : Int32)) + (1 : Int32))), .val (.int ((n_ &&& (1073741823 : Int32)) + (1 : Int32))), u_, u_, u_, u_, u_, u_, u_, u_, u_, u_]) rfl ?_
  refine XS.lloadN X0.here hx rfl (hb hby at_17) rfl ?_
  show S_ p e below s₁ m 18 #[vj j_, .second, vi f_, vi m_, vi n_, .val (.int ((m_ &&& (1073741823 : Int32)) + (1 : Int32))), .val (.int ((n_ &&& (1073741823 : Int32)) + (1 : Int32))), u_, u_, u_, u_, u_, u_, u_, u_, u_, u_] [(.long j_)] t
  refine X0.ldc2Long hx hown (mvT hZ (w1 hw)) (g := (mkF m 18 #[vj j_, .second, vi f_, vi m_, vi n_, .val (.int ((m_ &&& (1073741823 : Int32)) + (1 : Int32))), .val (.int ((n_ &&& (1073741823 : Int32)) + (1 : Int32))), u_, u_, u_, u_, u_, u_, u_, u_, u_, u_] [(.long j_)])) rfl (hb hby at_18) _ ?_
  refine XS.land X0.here hx rfl (hb hby at_21) rfl ?_
  refine XS.lstore X0.here hx rfl (hb hby at_22) rfl (l' := #[vj j_, .second, vi f_, vi m_, vi n_, .val (.int ((m_ &&& (1073741823 : Int32)) + (1 : Int32))), .val (.int ((n_ &&& (1073741823 : Int32)) + (1 : Int32))), .val (.long (j_ &&& (9223372036854775807 : Int64))), .second, u_, u_, u_, u_, u_, u_, u_, u_]) rfl ?_
  exact k
 obtain ⟨qa, qaq⟩ : ∃ z, z = ((m_ &&& (1073741823 : Int32)) + (1 : Int32)) := ⟨_, rfl⟩
 rw [← qaq] at c1
 have hg2 : (0 : Int32) < qa := by rw [qaq]; exact own_pos _
 obtain ⟨qb, qbq⟩ : ∃ z, z = ((n_ &&& (1073741823 : Int32)) + (1 : Int32)) := ⟨_, rfl⟩
 rw [← qbq] at c1
 have hg3 : (0 : Int32) < qb := by rw [qbq]; exact own_pos _
 obtain ⟨op, opq⟩ : ∃ z, z = (j_ &&& (9223372036854775807 : Int64)) := ⟨_, rfl⟩
 rw [← opq] at c1
 have hg4 : ¬ ((lcmpW op (0 : Int64)) < (0 : Int32)) := by rw [opq]; exact own_nn _
 obtain ⟨b5, T5, h5, z5, g5, X5, e5, E5, o6, A5, D5, U5, c5⟩ := knew X0 hx hZ hown (w2 hw) (w3 hw) (w4 hw) e0 c1 rfl (hb hby at_24) (by decide) (by decide) O0
 have kp7 := kp0.ext E5
 have z8 := Nat.le_trans kp0.1 z5
 have c9 : Kt p e below T5 st0 (mkF m 29 #[vj j_, .second, vi f_, vi m_, vi n_, vi qa, vi qb, vj op, .second, u_, u_, u_, u_, u_, u_, u_, u_] [(.long j_), (rr b5), (rr b5)]) := fun t k => by
  refine c5 t ?_
  show S_ p e below T5 m 27 #[vj j_, .second, vi f_, vi m_, vi n_, vi qa, vi qb, vj op, .second, u_, u_, u_, u_, u_, u_, u_, u_] [(rr b5)] t
  refine XS.dup X5.here hx rfl (hb hby at_27) rfl rfl ?_
  refine XS.lloadN X5.here hx rfl (hb hby at_28) rfl ?_
  exact k
 obtain ⟨_, T10, L10, X10, hQ10, c10⟩ := kspec X5 hx hZ hown (w5 hw) (w6 hw) (w4 hw) (w7 hw) (rm_pqinit l Z a0 hw [] b5 j_ h5 n0 o6 A5 (show Fld Z h5 b5 nm3 "shown" nm5 .null from D5 (Or.inr (w19 hw)) (ty := (.object nm2)) (by decide)) (show Fld Z h5 b5 nm3 "hidden" nm5 .null from D5 (Or.inr (w21 hw)) (ty := (.object nm2)) (by decide)) (show Fld Z h5 b5 nm3 "price" "J" (.long (0 : Int64)) from D5 (Or.inr (w23 hw)) (ty := .long) (by decide)) g5) e5 c9 hml pd_pJrV b5 [(.long j_)] [(rr b5)] 1 (hb hby at_29) rfl rfl rfl rfl rfl rfl
 obtain ⟨rfl, N11q, K12, b13, b14, p15, p16, p17, p18, p19, p20, p21, p22, p23, p24, p25⟩ := hQ10
 have N11 := Fr.app N0 N11q
 have o26 := o6.keep K12 (allS g5 all0)
 have kp27 := kp7.trans K12 (allS (Or.inr z8) all0)
 have z28 := Nat.le_trans kp7.1 p23
 have g29 := Nat.le_trans (Nat.le_trans (Nat.le_of_eq o6.1.symm) o6.2.1) p23
 have z30 := Nat.le_trans kp7.1 p24
 have g31 := Nat.le_trans (Nat.le_trans (Nat.le_of_eq o6.1.symm) o6.2.1) p24
 have c32 : Kt p e below T10 st0 (mkF m 34 #[vj j_, .second, vi f_, vi m_, vi n_, vi qa, vi qb, vj op, .second, vr b5, u_, u_, u_, u_, u_, u_, u_] []) := fun t k => by
  refine c10 t ?_
  show S_ p e below T10 m 32 #[vj j_, .second, vi f_, vi m_, vi n_, vi qa, vi qb, vj op, .second, u_, u_, u_, u_, u_, u_, u_, u_] [(rr b5)] t
  refine XS.astore X10.here hx rfl (hb hby at_32) rfl rfl (l' := #[vj j_, .second, vi f_, vi m_, vi n_, vi qa, vi qb, vj op, .second, vr b5, u_, u_, u_, u_, u_, u_, u_]) rfl ?_
  exact k
 obtain ⟨b33, T33, h33, z33, g33, X33, e33, E33, o34, A33, D33, U33, c33⟩ := knew X10 hx hZ hown (w24 hw) (w25 hw) (w26 hw) rfl c32 rfl (hb hby at_34) (by decide) (by decide) o26
 have kp35 := kp27.ext E33
 have z36 := Nat.le_trans kp27.1 z33
 have c37 : Kt p e below T33 st0 (mkF m 39 #[vj j_, .second, vi f_, vi m_, vi n_, vi qa, vi qb, vj op, .second, vr b5, u_, u_, u_, u_, u_, u_, u_] [(.long (1 : Int64)), (rr b33), (rr b33)]) := fun t k => by
  refine c33 t ?_
  show S_ p e below T33 m 37 #[vj j_, .second, vi f_, vi m_, vi n_, vi qa, vi qb, vj op, .second, vr b5, u_, u_, u_, u_, u_, u_, u_] [(rr b33)] t
  refine XS.dup X33.here hx rfl (hb hby at_37) rfl rfl ?_
  refine XS.lconst X33.here hx rfl (hb hby at_38) ?_
  exact k
 obtain ⟨a38, T38, h38, k38, X38, e38, E38, o39, hS38, hk38, hZ38, hown38, c38⟩ := kldc X33 hx hZ hown hS0 (Nat.le_trans (Nat.zero_le _) (Nat.le_trans (Nat.le_trans E5.1 K12.1) E33.1)) (w27 hw) (own_atoms hw) e33 c37 4 (hb hby at_39) rfl (by decide) (by decide) (by decide) (by decide) o34
 have kp40 := kp35.ext E38
 obtain ⟨T41, X41, e41, c41⟩ := kgetS X38 hx hZ38 hown38 (host := "") (Or.inl (w35 hw)) Via.refl e38 (ZS0_.ext o39.2) c38 rfl (hb hby at_41)
 have f42 := (show Fld Z h33 b33 nm0 "id" "J" (.long (0 : Int64)) from D33 (Or.inr (w61 hw)) (ty := .long) (by decide)).ext E38
 have f43 := (show Fld Z h33 b33 nm0 "participant" "Ljava/lang/String;" .null from D33 (Or.inr (w63 hw)) (ty := (.object nm19)) (by decide)).ext E38
 have f44 := (show Fld Z h33 b33 nm0 "side" nm14 .null from D33 (Or.inr (w65 hw)) (ty := (.object nm7)) (by decide)).ext E38
 have f45 := (show Fld Z h33 b33 nm0 "timeInForce" nm15 .null from D33 (Or.inr (w67 hw)) (ty := (.object nm9)) (by decide)).ext E38
 have f46 := (show Fld Z h33 b33 nm0 "postOnly" "Z" (ii 0) from D33 (Or.inr (w69 hw)) (ty := .boolean) (by decide)).ext E38
 have f47 := (show Fld Z h33 b33 nm0 "peak" nm12 .null from D33 (Or.inr (w71 hw)) (ty := (.object nm6)) (by decide)).ext E38
 have f48 := (show Fld Z h33 b33 nm0 "price" "J" (.long (0 : Int64)) from D33 (Or.inl (w73 hw)) (ty := .long) (by decide)).ext E38
 have f49 := (show Fld Z h33 b33 nm0 "remaining" "I" (ii 0) from D33 (Or.inl (w75 hw)) (ty := .int) (by decide)).ext E38
 have f50 := (show Fld Z h33 b33 nm0 "slice" "I" (ii 0) from D33 (Or.inl (w86 hw)) (ty := .int) (by decide)).ext E38
 have f51 := (show Fld Z h33 b33 nm0 "queue" nm4 .null from D33 (Or.inl (w109 hw)) (ty := (.object nm3)) (by decide)).ext E38
 have f52 := (show Fld Z h33 b33 nm0 "previous" nm1 .null from D33 (Or.inl (w113 hw)) (ty := (.object nm0)) (by decide)).ext E38
 have f53 := (show Fld Z h33 b33 nm0 "next" nm1 .null from D33 (Or.inl (w115 hw)) (ty := (.object nm0)) (by decide)).ext E38
 have c54 : Kt p e below T41 st0 (mkF m 48 #[vj j_, .second, vi f_, vi m_, vi n_, vi qa, vi qb, vj op, .second, vr b5, u_, u_, u_, u_, u_, u_, u_] [(.long op), (.int qa), (rr sa5_), (rr a38), (.long (1 : Int64)), (rr b33), (rr b33)]) := fun t k => by
  refine c41 t ?_
  show S_ p e below T41 m 44 #[vj j_, .second, vi f_, vi m_, vi n_, vi qa, vi qb, vj op, .second, vr b5, u_, u_, u_, u_, u_, u_, u_] [(rr sa5_), (rr a38), (.long (1 : Int64)), (rr b33), (rr b33)] t
  refine XS.iload X41.here hx rfl (hb hby at_44) rfl ?_
  refine XS.lload X41.here hx rfl (hb hby at_46) rfl ?_
  exact k
 obtain ⟨_, T55, L55, X55, hQ55, c55⟩ := kspec X41 hx hZ38 hown38 (w38 hw) (w39 hw) (w26 hw) (w40 hw) (rm_oinit1 l Z a0 hw [] b33 (1 : Int64) a38 sa5_ qa op sa9_ sa17_ h38 n0 o39 (A33.ext E38) f42 f43 f44 f45 f46 f47 f48 f49 f50 f51 f52 f53 g33 ZS6_ ZE7_ ZF8_ ZS2_ hg2 hg4) e41 c54 hml pd_pJLjava_lang_String_Lcom_example_lexchange_lexchange_Side_IJrV b33 [(.long (1 : Int64)), (rr a38), (rr sa5_), (.int qa), (.long op)] [(rr b33)] 1 (hb hby at_48) rfl rfl rfl rfl rfl rfl
 obtain ⟨rfl, N56q, K57, p58, p59, p60, p61, p62, p63⟩ := hQ55
 have N56 := Fr.app N11 N56q
 have o64 := o39.keep K57 (allS g33 all0)
 have kp65 := kp40.trans K57 (allS (Or.inr z36) all0)
 have c66 : Kt p e below T55 st0 (mkF m 53 #[vj j_, .second, vi f_, vi m_, vi n_, vi qa, vi qb, vj op, .second, vr b5, vr b33, u_, u_, u_, u_, u_, u_] []) := fun t k => by
  refine c55 t ?_
  show S_ p e below T55 m 51 #[vj j_, .second, vi f_, vi m_, vi n_, vi qa, vi qb, vj op, .second, vr b5, u_, u_, u_, u_, u_, u_, u_] [(rr b33)] t
  refine XS.astore X55.here hx rfl (hb hby at_51) rfl rfl (l' := #[vj j_, .second, vi f_, vi m_, vi n_, vi qa, vi qb, vj op, .second, vr b5, vr b33, u_, u_, u_, u_, u_, u_]) rfl ?_
  exact k
 obtain ⟨b67, T67, h67, z67, g67, X67, e67, E67, o68, A67, D67, U67, c67⟩ := knew X55 hx hZ38 hown38 (w24 hw) (w25 hw) (w26 hw) rfl c66 rfl (hb hby at_53) (by decide) (by decide) o64
 have kp69 := kp65.ext E67
 have z70 := Nat.le_trans kp65.1 z67
 have c71 : Kt p e below T67 st0 (mkF m 60 #[vj j_, .second, vi f_, vi m_, vi n_, vi qa, vi qb, vj op, .second, vr b5, vr b33, u_, u_, u_, u_, u_, u_] [(.long (2 : Int64)), (rr b67), (rr b67)]) := fun t k => by
  refine c67 t ?_
  show S_ p e below T67 m 56 #[vj j_, .second, vi f_, vi m_, vi n_, vi qa, vi qb, vj op, .second, vr b5, vr b33, u_, u_, u_, u_, u_, u_] [(rr b67)] t
  refine XS.dup X67.here hx rfl (hb hby at_56) rfl rfl ?_
  show S_ p e below T67 m 57 #[vj j_, .second, vi f_, vi m_, vi n_, vi qa, vi qb, vj op, .second, vr b5, vr b33, u_, u_, u_, u_, u_, u_] [(rr b67), (rr b67)] t
  refine X67.ldc2Long hx hown38 (mvT hZ38 (w76 hw)) (g := (mkF m 57 #[vj j_, .second, vi f_, vi m_, vi n_, vi qa, vi qb, vj op, .second, vr b5, vr b33, u_, u_, u_, u_, u_, u_] [(rr b67), (rr b67)])) rfl (hb hby at_57) _ ?_
  exact k
 obtain ⟨a72, T72, h72, k72, X72, e72, E72, o73, hS72, hk72, hZ72, hown72, c72⟩ := kldc X67 hx hZ38 hown38 hS38 (Nat.le_trans hk38 (Nat.le_trans K57.1 E67.1)) (w77 hw) (own_atoms hw) e67 c71 4 (hb hby at_60) rfl (by decide) (by decide) (by decide) (by decide) o68
 have kp74 := kp69.ext E72
 obtain ⟨T75, X75, e75, c75⟩ := kgetS X72 hx hZ72 hown72 (host := "") (Or.inl (w78 hw)) Via.refl e72 (ZS4_.ext o73.2) c72 rfl (hb hby at_62)
 have f76 := (show Fld Z h67 b67 nm0 "id" "J" (.long (0 : Int64)) from D67 (Or.inr (w61 hw)) (ty := .long) (by decide)).ext E72
 have f77 := (show Fld Z h67 b67 nm0 "participant" "Ljava/lang/String;" .null from D67 (Or.inr (w63 hw)) (ty := (.object nm19)) (by decide)).ext E72
 have f78 := (show Fld Z h67 b67 nm0 "side" nm14 .null from D67 (Or.inr (w65 hw)) (ty := (.object nm7)) (by decide)).ext E72
 have f79 := (show Fld Z h67 b67 nm0 "timeInForce" nm15 .null from D67 (Or.inr (w67 hw)) (ty := (.object nm9)) (by decide)).ext E72
 have f80 := (show Fld Z h67 b67 nm0 "postOnly" "Z" (ii 0) from D67 (Or.inr (w69 hw)) (ty := .boolean) (by decide)).ext E72
 have f81 := (show Fld Z h67 b67 nm0 "peak" nm12 .null from D67 (Or.inr (w71 hw)) (ty := (.object nm6)) (by decide)).ext E72
 have f82 := (show Fld Z h67 b67 nm0 "price" "J" (.long (0 : Int64)) from D67 (Or.inl (w73 hw)) (ty := .long) (by decide)).ext E72
 have f83 := (show Fld Z h67 b67 nm0 "remaining" "I" (ii 0) from D67 (Or.inl (w75 hw)) (ty := .int) (by decide)).ext E72
 have f84 := (show Fld Z h67 b67 nm0 "slice" "I" (ii 0) from D67 (Or.inl (w86 hw)) (ty := .int) (by decide)).ext E72
 have f85 := (show Fld Z h67 b67 nm0 "queue" nm4 .null from D67 (Or.inl (w109 hw)) (ty := (.object nm3)) (by decide)).ext E72
 have f86 := (show Fld Z h67 b67 nm0 "previous" nm1 .null from D67 (Or.inl (w113 hw)) (ty := (.object nm0)) (by decide)).ext E72
 have f87 := (show Fld Z h67 b67 nm0 "next" nm1 .null from D67 (Or.inl (w115 hw)) (ty := (.object nm0)) (by decide)).ext E72
 have c88 : Kt p e below T75 st0 (mkF m 69 #[vj j_, .second, vi f_, vi m_, vi n_, vi qa, vi qb, vj op, .second, vr b5, vr b33, u_, u_, u_, u_, u_, u_] [(.long op), (.int qb), (rr sa13_), (rr a72), (.long (2 : Int64)), (rr b67), (rr b67)]) := fun t k => by
  refine c75 t ?_
  show S_ p e below T75 m 65 #[vj j_, .second, vi f_, vi m_, vi n_, vi qa, vi qb, vj op, .second, vr b5, vr b33, u_, u_, u_, u_, u_, u_] [(rr sa13_), (rr a72), (.long (2 : Int64)), (rr b67), (rr b67)] t
  refine XS.iload X75.here hx rfl (hb hby at_65) rfl ?_
  refine XS.lload X75.here hx rfl (hb hby at_67) rfl ?_
  exact k
 obtain ⟨_, T89, L89, X89, hQ89, c89⟩ := kspec X75 hx hZ72 hown72 (w38 hw) (w39 hw) (w26 hw) (w40 hw) (rm_oinit1 l Z a0 hw [] b67 (2 : Int64) a72 sa13_ qb op sa9_ sa17_ h72 n0 o73 (A67.ext E72) f76 f77 f78 f79 f80 f81 f82 f83 f84 f85 f86 f87 g67 ZS6_ ZE7_ ZF8_ ZS2_ hg3 hg4) e75 c88 hml pd_pJLjava_lang_String_Lcom_example_lexchange_lexchange_Side_IJrV b67 [(.long (2 : Int64)), (rr a72), (rr sa13_), (.int qb), (.long op)] [(rr b67)] 1 (hb hby at_69) rfl rfl rfl rfl rfl rfl
 obtain ⟨rfl, N90q, K91, p92, p93, p94, p95, p96, p97⟩ := hQ89
 have N90 := Fr.app N56 N90q
 have o98 := o73.keep K91 (allS g67 all0)
 have kp99 := kp74.trans K91 (allS (Or.inr z70) all0)
 have c100 : Kt p e below T89 st0 (mkF m 77 #[vj j_, .second, vi f_, vi m_, vi n_, vi qa, vi qb, vj op, .second, vr b5, vr b33, vr b67, u_, u_, u_, u_, u_] [(.int (f_ &&& (1 : Int32)))]) := fun t k => by
  refine c89 t ?_
  show S_ p e below T89 m 72 #[vj j_, .second, vi f_, vi m_, vi n_, vi qa, vi qb, vj op, .second, vr b5, vr b33, u_, u_, u_, u_, u_, u_] [(rr b67)] t
  refine XS.astore X89.here hx rfl (hb hby at_72) rfl rfl (l' := #[vj j_, .second, vi f_, vi m_, vi n_, vi qa, vi qb, vj op, .second, vr b5, vr b33, vr b67, u_, u_, u_, u_, u_]) rfl ?_
  refine XS.iloadN X89.here hx rfl (hb hby at_74) rfl ?_
  refine XS.iconst X89.here hx rfl (hb hby at_75) ?_
  refine XS.iand X89.here hx rfl (hb hby at_76) rfl ?_
  exact k
 obtain ⟨mv122, T123, h123, L123, X123, e123, o123, K123, kp123, N123, f124, f125, f126, f127, f128, f129, c123⟩ : ∃ (mv122 : Int32), ∃ (T123 : State) (h123 : Heap) (L123 : List Loc), Stand p l e room_1 (s.setVm T72.vm) m #[(.long j_), (.int f_), (.int m_), (.int n_)] below meth c T123 L123 9 49 ∧ T123.heap = h123 ∧ Old Z n0 h123 ∧ Keep T89.heap h123 [b33] ∧ Keep h0 h123 [] ∧ Fr n0 L123 ∧ Fld Z h123 b33 nm0 "peak" nm12 (rr sa17_) ∧ Fld Z h123 b33 nm0 "remaining" "I" (.int qa) ∧ Fld Z h123 b33 nm0 "slice" "I" (.int mv122) ∧ Fld Z h123 b33 nm0 "queue" nm4 .null ∧ Fld Z h123 b33 nm0 "previous" nm1 .null ∧ Fld Z h123 b33 nm0 "next" nm1 .null ∧ Kt p e below T123 st0 (mkF m 85 #[vj j_, .second, vi f_, vi m_, vi n_, vi qa, vi qb, vj op, .second, vr b5, vr b33, vr b67, u_, u_, u_, u_, u_] []) := by
  by_cases hc101 : (f_ &&& (1 : Int32)) = (0 : Int32)
  ·have c102 : Kt p e below T89 st0 (mkF m 85 #[vj j_, .second, vi f_, vi m_, vi n_, vi qa, vi qb, vj op, .second, vr b5, vr b33, vr b67, u_, u_, u_, u_, u_] []) := fun t k => by
    refine c100 t ?_
    show S_ p e below T89 m 77 #[vj j_, .second, vi f_, vi m_, vi n_, vi qa, vi qb, vj op, .second, vr b5, vr b33, vr b67, u_, u_, u_, u_, u_] [(.int (f_ &&& (1 : Int32)))] t
    refine yI X89.here hx rfl 77 85 rfl (hb hby at_77) rfl ((if0 _ _).trans (teq hc101).1) ?_
    exact k
   have K131 : Keep T89.heap T89.heap [b33] := (Keep.refl _ _)
   have q132 := Nat.ne_of_lt (Nat.lt_of_lt_of_le ((A33.ext E38).keep K57).lt z67)
   exact ⟨(0 : Int32), T89, _, _, X89.mono (by decide) (by decide), rfl, o98, K131, kp99, N90, (((p58.ext E67).ext E72).keep K91 (ninS q132 nin0)), (((p59.ext E67).ext E72).keep K91 (ninS q132 nin0)), (((p60.ext E67).ext E72).keep K91 (ninS q132 nin0)), (((p61.ext E67).ext E72).keep K91 (ninS q132 nin0)), (((p62.ext E67).ext E72).keep K91 (ninS q132 nin0)), (((p63.ext E67).ext E72).keep K91 (ninS q132 nin0)), c102⟩
  ·have q103 := Nat.ne_of_lt (Nat.lt_of_lt_of_le ((A33.ext E38).keep K57).lt z67)
   have c104 : Kt p e below T89 st0 (mkF m 82 #[vj j_, .second, vi f_, vi m_, vi n_, vi qa, vi qb, vj op, .second, vr b5, vr b33, vr b67, u_, u_, u_, u_, u_] [(rr b33)]) := fun t k => by
    refine c100 t ?_
    show S_ p e below T89 m 77 #[vj j_, .second, vi f_, vi m_, vi n_, vi qa, vi qb, vj op, .second, vr b5, vr b33, vr b67, u_, u_, u_, u_, u_] [(.int (f_ &&& (1 : Int32)))] t
    refine XS.ifNo X89.here hx rfl (hb hby at_77) rfl ((if0 _ _).trans (feq hc101).1) ?_
    refine XS.aload X89.here hx rfl (hb hby at_80) rfl rfl ?_
    exact k
   obtain ⟨_, T105, L105, X105, hQ105, c105⟩ := kvirt X89 hx hZ72 hown72 (w80 hw) (w81 hw) (w83 hw) (w82 hw) (w84 hw) (w26 hw) (rm_show l Z a0 hw [] b33 sa17_ qa (0 : Int32) T89.heap n0 o98 (((((A33.ext E38).keep K57).ext E67).ext E72).keep K91) (((p58.ext E67).ext E72).keep K91 (ninS q103 nin0)) (((p59.ext E67).ext E72).keep K91 (ninS q103 nin0)) (((p60.ext E67).ext E72).keep K91 (ninS q103 nin0)) (((p61.ext E67).ext E72).keep K91 (ninS q103 nin0)) (((p62.ext E67).ext E72).keep K91 (ninS q103 nin0)) (((p63.ext E67).ext E72).keep K91 (ninS q103 nin0)) g33 ZE7_ ZF8_) rfl (((((A33.ext E38).keep K57).ext E67).ext E72).keep K91) c104 hml pd_prV [] [] 0 (hb hby at_82) rfl rfl rfl rfl rfl rfl
   obtain ⟨rfl, N106q, K107, p108, p109, p110, p111, p112, p113⟩ := hQ105
   have N106 := Fr.app N90 N106q
   have o114 := o98.keep K107 (allS g33 all0)
   have kp115 := kp99.trans K107 (allS (Or.inr z36) all0)
   have K130 : Keep T89.heap T105.heap [b33] := ((Keep.refl _ _).trans K107 (allS (Or.inl (List.mem_of_getElem? (i := 0) rfl)) all0))
   exact ⟨qa, T105, _, _, X105.mono (by decide) (by decide), rfl, o114, K130, kp115, N106, p108, p109, p110, p111, p112, p113, c105⟩
 have c133 : Kt p e below T123 st0 (mkF m 88 #[vj j_, .second, vi f_, vi m_, vi n_, vi qa, vi qb, vj op, .second, vr b5, vr b33, vr b67, u_, u_, u_, u_, u_] [(.int (f_ &&& (2 : Int32)))]) := fun t k => by
  refine c123 t ?_
  show S_ p e below T123 m 85 #[vj j_, .second, vi f_, vi m_, vi n_, vi qa, vi qb, vj op, .second, vr b5, vr b33, vr b67, u_, u_, u_, u_, u_] [] t
  refine XS.iloadN X123.here hx rfl (hb hby at_85) rfl ?_
  refine XS.iconst X123.here hx rfl (hb hby at_86) ?_
  refine XS.iand X123.here hx rfl (hb hby at_87) rfl ?_
  exact k
 obtain ⟨mv155, T156, h156, L156, X156, e156, o156, K156, kp156, N156, f157, f158, f159, f160, f161, f162, c156⟩ : ∃ (mv155 : Int32), ∃ (T156 : State) (h156 : Heap) (L156 : List Loc), Stand p l e room_1 (s.setVm T72.vm) m #[(.long j_), (.int f_), (.int m_), (.int n_)] below meth c T156 L156 9 49 ∧ T156.heap = h156 ∧ Old Z n0 h156 ∧ Keep h123 h156 [b67] ∧ Keep h0 h156 [] ∧ Fr n0 L156 ∧ Fld Z h156 b67 nm0 "peak" nm12 (rr sa17_) ∧ Fld Z h156 b67 nm0 "remaining" "I" (.int qb) ∧ Fld Z h156 b67 nm0 "slice" "I" (.int mv155) ∧ Fld Z h156 b67 nm0 "queue" nm4 .null ∧ Fld Z h156 b67 nm0 "previous" nm1 .null ∧ Fld Z h156 b67 nm0 "next" nm1 .null ∧ Kt p e below T156 st0 (mkF m 96 #[vj j_, .second, vi f_, vi m_, vi n_, vi qa, vi qb, vj op, .second, vr b5, vr b33, vr b67, u_, u_, u_, u_, u_] []) := by
  by_cases hc134 : (f_ &&& (2 : Int32)) = (0 : Int32)
  ·have c135 : Kt p e below T123 st0 (mkF m 96 #[vj j_, .second, vi f_, vi m_, vi n_, vi qa, vi qb, vj op, .second, vr b5, vr b33, vr b67, u_, u_, u_, u_, u_] []) := fun t k => by
    refine c133 t ?_
    show S_ p e below T123 m 88 #[vj j_, .second, vi f_, vi m_, vi n_, vi qa, vi qb, vj op, .second, vr b5, vr b33, vr b67, u_, u_, u_, u_, u_] [(.int (f_ &&& (2 : Int32)))] t
    refine yI X123.here hx rfl 88 96 rfl (hb hby at_88) rfl ((if0 _ _).trans (teq hc134).1) ?_
    exact k
   have K164 : Keep h123 h123 [b67] := (Keep.refl _ _)
   have q165 := Ne.symm (Nat.ne_of_lt (Nat.lt_of_lt_of_le ((A33.ext E38).keep K57).lt z67))
   exact ⟨(0 : Int32), T123, _, _, X123.mono (by decide) (by decide), e123, o123, K164, kp123, N123, (p92.keep K123 (ninS q165 nin0)), (p93.keep K123 (ninS q165 nin0)), (p94.keep K123 (ninS q165 nin0)), (p95.keep K123 (ninS q165 nin0)), (p96.keep K123 (ninS q165 nin0)), (p97.keep K123 (ninS q165 nin0)), c135⟩
  ·have q136 := Ne.symm (Nat.ne_of_lt (Nat.lt_of_lt_of_le ((A33.ext E38).keep K57).lt z67))
   have c137 : Kt p e below T123 st0 (mkF m 93 #[vj j_, .second, vi f_, vi m_, vi n_, vi qa, vi qb, vj op, .second, vr b5, vr b33, vr b67, u_, u_, u_, u_, u_] [(rr b67)]) := fun t k => by
    refine c133 t ?_
    show S_ p e below T123 m 88 #[vj j_, .second, vi f_, vi m_, vi n_, vi qa, vi qb, vj op, .second, vr b5, vr b33, vr b67, u_, u_, u_, u_, u_] [(.int (f_ &&& (2 : Int32)))] t
    refine XS.ifNo X123.here hx rfl (hb hby at_88) rfl ((if0 _ _).trans (feq hc134).1) ?_
    refine XS.aload X123.here hx rfl (hb hby at_91) rfl rfl ?_
    exact k
   obtain ⟨_, T138, L138, X138, hQ138, c138⟩ := kvirt X123 hx hZ72 hown72 (w80 hw) (w81 hw) (w83 hw) (w82 hw) (w84 hw) (w26 hw) (rm_show l Z a0 hw [] b67 sa17_ qb (0 : Int32) h123 n0 o123 (((A67.ext E72).keep K91).keep K123) (p92.keep K123 (ninS q136 nin0)) (p93.keep K123 (ninS q136 nin0)) (p94.keep K123 (ninS q136 nin0)) (p95.keep K123 (ninS q136 nin0)) (p96.keep K123 (ninS q136 nin0)) (p97.keep K123 (ninS q136 nin0)) g67 ZE7_ ZF8_) e123 (((A67.ext E72).keep K91).keep K123) c137 hml pd_prV [] [] 0 (hb hby at_93) rfl rfl rfl rfl rfl rfl
   obtain ⟨rfl, N139q, K140, p141, p142, p143, p144, p145, p146⟩ := hQ138
   have N139 := Fr.app N123 N139q
   have o147 := o123.keep K140 (allS g67 all0)
   have kp148 := kp123.trans K140 (allS (Or.inr z70) all0)
   have K163 : Keep h123 T138.heap [b67] := ((Keep.refl _ _).trans K140 (allS (Or.inl (List.mem_of_getElem? (i := 0) rfl)) all0))
   exact ⟨qb, T138, _, _, X138.mono (by decide) (by decide), rfl, o147, K163, kp148, N139, p141, p142, p143, p144, p145, p146, c138⟩
 have f166 := ((((((((A5.keep K12).ext E33).ext E38).keep K57).ext E67).ext E72).keep K91).keep K123).keep K156
 have q167 := Nat.ne_of_lt (Nat.lt_of_lt_of_le (A5.keep K12).lt z33)
 have q168 := Nat.ne_of_lt (Nat.lt_of_lt_of_le ((((A5.keep K12).ext E33).ext E38).keep K57).lt z67)
 have f169 := (((((((p15.ext E33).ext E38).keep K57 (ninS q167 nin0)).ext E67).ext E72).keep K91 (ninS q168 nin0)).keep K123 (ninS q167 nin0)).keep K156 (ninS q168 nin0)
 have f170 := (((((((p16.ext E33).ext E38).keep K57 (ninS q167 nin0)).ext E67).ext E72).keep K91 (ninS q168 nin0)).keep K123 (ninS q167 nin0)).keep K156 (ninS q168 nin0)
 have f171 := (((((((p17.ext E33).ext E38).keep K57).ext E67).ext E72).keep K91).keep K123).keep K156
 have f172 := (((((((p18.ext E33).ext E38).keep K57).ext E67).ext E72).keep K91).keep K123).keep K156
 have q173 := Nat.ne_of_lt (Nat.lt_of_lt_of_le p17.lt z33)
 have q174 := Nat.ne_of_lt (Nat.lt_of_lt_of_le (((p17.ext E33).ext E38).keep K57).lt z67)
 have f175 := (((((((p19.ext E33).ext E38).keep K57 (ninS q173 nin0)).ext E67).ext E72).keep K91 (ninS q174 nin0)).keep K123 (ninS q173 nin0)).keep K156 (ninS q174 nin0)
 have f176 := (((((((p20.ext E33).ext E38).keep K57 (ninS q173 nin0)).ext E67).ext E72).keep K91 (ninS q174 nin0)).keep K123 (ninS q173 nin0)).keep K156 (ninS q174 nin0)
 have q177 := Nat.ne_of_lt (Nat.lt_of_lt_of_le p18.lt z33)
 have q178 := Nat.ne_of_lt (Nat.lt_of_lt_of_le (((p18.ext E33).ext E38).keep K57).lt z67)
 have f179 := (((((((p21.ext E33).ext E38).keep K57 (ninS q177 nin0)).ext E67).ext E72).keep K91 (ninS q178 nin0)).keep K123 (ninS q177 nin0)).keep K156 (ninS q178 nin0)
 have f180 := (((((((p22.ext E33).ext E38).keep K57 (ninS q177 nin0)).ext E67).ext E72).keep K91 (ninS q178 nin0)).keep K123 (ninS q177 nin0)).keep K156 (ninS q178 nin0)
 have f181 := ((((((A33.ext E38).keep K57).ext E67).ext E72).keep K91).keep K123).keep K156
 have q182 := Nat.ne_of_lt (Nat.lt_of_lt_of_le ((A33.ext E38).keep K57).lt z67)
 have f183 := f124.keep K156 (ninS q182 nin0)
 have f184 := f125.keep K156 (ninS q182 nin0)
 have f185 := f126.keep K156 (ninS q182 nin0)
 have f186 := f127.keep K156 (ninS q182 nin0)
 have f187 := f128.keep K156 (ninS q182 nin0)
 have f188 := f129.keep K156 (ninS q182 nin0)
 have f189 := (((A67.ext E72).keep K91).keep K123).keep K156
 have q190 := Nat.ne_of_lt (Nat.lt_of_lt_of_le A5.lt p23)
 have q191 := Nat.ne_of_lt (Nat.lt_of_lt_of_le A5.lt p24)
 have q192 := Ne.symm (Nat.ne_of_lt (Nat.lt_of_lt_of_le ZE7_.lt (Nat.le_trans (Nat.le_of_eq O0.1) g5)))
 have q193 := Ne.symm (Nat.ne_of_lt (Nat.lt_of_lt_of_le ZE7_.lt (Nat.le_trans (Nat.le_of_eq O0.1) g33)))
 have q194 := Ne.symm (Nat.ne_of_lt (Nat.lt_of_lt_of_le ZE7_.lt (Nat.le_trans (Nat.le_of_eq O0.1) g67)))
 have q195 := Ne.symm (Nat.ne_of_lt (Nat.lt_of_lt_of_le ZE7_.lt (Nat.le_trans (Nat.le_of_eq O0.1) g29)))
 have q196 := Ne.symm (Nat.ne_of_lt (Nat.lt_of_lt_of_le ZE7_.lt (Nat.le_trans (Nat.le_of_eq O0.1) g31)))
 have c197 : Kt p e below T156 st0 (mkF m 99 #[vj j_, .second, vi f_, vi m_, vi n_, vi qa, vi qb, vj op, .second, vr b5, vr b33, vr b67, u_, u_, u_, u_, u_] [(.int (f_ &&& (4 : Int32)))]) := fun t k => by
  refine c156 t ?_
  show S_ p e below T156 m 96 #[vj j_, .second, vi f_, vi m_, vi n_, vi qa, vi qb, vj op, .second, vr b5, vr b33, vr b67, u_, u_, u_, u_, u_] [] t
  refine XS.iloadN X156.here hx rfl (hb hby at_96) rfl ?_
  refine XS.iconst X156.here hx rfl (hb hby at_97) ?_
  refine XS.iand X156.here hx rfl (hb hby at_98) rfl ?_
  exact k
 by_cases hc198 : (f_ &&& (4 : Int32)) = (0 : Int32)
 ·have c199 : Kt p e below T156 st0 (mkF m 113 #[vj j_, .second, vi f_, vi m_, vi n_, vi qa, vi qb, vj op, .second, vr b5, vr b33, vr b67, vi 0, u_, u_, u_, u_] [(.int (f_ &&& (8 : Int32)))]) := fun t k => by
   refine c197 t ?_
   show S_ p e below T156 m 99 #[vj j_, .second, vi f_, vi m_, vi n_, vi qa, vi qb, vj op, .second, vr b5, vr b33, vr b67, u_, u_, u_, u_, u_] [(.int (f_ &&& (4 : Int32)))] t
   refine yI X156.here hx rfl 99 106 rfl (hb hby at_99) rfl ((if0 _ _).trans (teq hc198).1) ?_
   refine XS.iconst X156.here hx rfl (hb hby at_106) ?_
   refine XS.istore X156.here hx rfl (hb hby at_107) rfl (l' := #[vj j_, .second, vi f_, vi m_, vi n_, vi qa, vi qb, vj op, .second, vr b5, vr b33, vr b67, vi 0, u_, u_, u_, u_]) rfl ?_
   refine XS.iloadN X156.here hx rfl (hb hby at_109) rfl ?_
   refine XS.bipush X156.here hx rfl (hb hby at_110) ?_
   refine XS.iand X156.here hx rfl (hb hby at_112) rfl ?_
   exact k
  by_cases hc200 : (f_ &&& (8 : Int32)) = (0 : Int32)
  ·have c201 : Kt p e below T156 st0 (mkF m 166 #[vj j_, .second, vi f_, vi m_, vi n_, vi qa, vi qb, vj op, .second, vr b5, vr b33, vr b67, vi 0, vi 0, vi 0, vi 0, u_] [(.int (f_ &&& (128 : Int32)))]) := fun t k => by
    refine c199 t ?_
    show S_ p e below T156 m 113 #[vj j_, .second, vi f_, vi m_, vi n_, vi qa, vi qb, vj op, .second, vr b5, vr b33, vr b67, vi 0, u_, u_, u_, u_] [(.int (f_ &&& (8 : Int32)))] t
    refine yI X156.here hx rfl 113 120 rfl (hb hby at_113) rfl ((if0 _ _).trans (teq hc200).1) ?_
    refine XS.iconst X156.here hx rfl (hb hby at_120) ?_
    refine XS.istore X156.here hx rfl (hb hby at_121) rfl (l' := #[vj j_, .second, vi f_, vi m_, vi n_, vi qa, vi qb, vj op, .second, vr b5, vr b33, vr b67, vi 0, vi 0, u_, u_, u_]) rfl ?_
    refine XS.iload X156.here hx rfl (hb hby at_123) rfl ?_
    refine yI X156.here hx rfl 125 139 rfl (hb hby at_125) rfl rfl ?_
    refine XS.iconst X156.here hx rfl (hb hby at_139) ?_
    refine XS.istore X156.here hx rfl (hb hby at_140) rfl (l' := #[vj j_, .second, vi f_, vi m_, vi n_, vi qa, vi qb, vj op, .second, vr b5, vr b33, vr b67, vi 0, vi 0, vi 0, u_, u_]) rfl ?_
    refine XS.iload X156.here hx rfl (hb hby at_142) rfl ?_
    show S_ p e below T156 m 144 #[vj j_, .second, vi f_, vi m_, vi n_, vi qa, vi qb, vj op, .second, vr b5, vr b33, vr b67, vi 0, vi 0, vi 0, u_, u_] [(ii 0)] t
    refine yI X156.here hx rfl 144 158 rfl (hb hby at_144) rfl rfl ?_
    refine XS.iconst X156.here hx rfl (hb hby at_158) ?_
    refine XS.istore X156.here hx rfl (hb hby at_159) rfl (l' := #[vj j_, .second, vi f_, vi m_, vi n_, vi qa, vi qb, vj op, .second, vr b5, vr b33, vr b67, vi 0, vi 0, vi 0, vi 0, u_]) rfl ?_
    refine XS.iloadN X156.here hx rfl (hb hby at_161) rfl ?_
    refine XS.sipush X156.here hx rfl (hb hby at_162) ?_
    refine XS.iand X156.here hx rfl (hb hby at_165) rfl ?_
    exact k
   obtain ⟨T205, h205, L205, X205, e205, o205, K205, kp205, N205, c205⟩ : ∃ (T205 : State) (h205 : Heap) (L205 : List Loc), Stand p l e room_1 (s.setVm T72.vm) m #[(.long j_), (.int f_), (.int m_), (.int n_)] below meth c T205 L205 9 49 ∧ T205.heap = h205 ∧ Old Z n0 h205 ∧ Keep h156 h205 [] ∧ Keep h0 h205 [] ∧ Fr n0 L205 ∧ Kt p e below T205 st0 (mkF m 220 #[vj j_, .second, vi f_, vi m_, vi n_, vi qa, vi qb, vj op, .second, vr b5, vr b33, vr b67, vi 0, vi 0, vi 0, vi 0, u_] []) := by
    by_cases hc202 : (f_ &&& (128 : Int32)) = (0 : Int32)
    ·have c203 : Kt p e below T156 st0 (mkF m 220 #[vj j_, .second, vi f_, vi m_, vi n_, vi qa, vi qb, vj op, .second, vr b5, vr b33, vr b67, vi 0, vi 0, vi 0, vi 0, u_] []) := fun t k => by
      refine c201 t ?_
      show S_ p e below T156 m 166 #[vj j_, .second, vi f_, vi m_, vi n_, vi qa, vi qb, vj op, .second, vr b5, vr b33, vr b67, vi 0, vi 0, vi 0, vi 0, u_] [(.int (f_ &&& (128 : Int32)))] t
      refine yI X156.here hx rfl 166 196 rfl (hb hby at_166) rfl ((if0 _ _).trans (teq hc202).1) ?_
      refine XS.iload X156.here hx rfl (hb hby at_196) rfl ?_
      refine yI X156.here hx rfl 198 208 rfl (hb hby at_198) rfl rfl ?_
      refine XS.iload X156.here hx rfl (hb hby at_208) rfl ?_
      refine yI X156.here hx rfl 210 220 rfl (hb hby at_210) rfl rfl ?_
      exact k
     have K207 : Keep h156 h156 [] := (Keep.refl _ _)
     exact ⟨T156, _, _, X156.mono (by decide) (by decide), e156, o156, K207, kp156, N156, c203⟩
    ·have c204 : Kt p e below T156 st0 (mkF m 220 #[vj j_, .second, vi f_, vi m_, vi n_, vi qa, vi qb, vj op, .second, vr b5, vr b33, vr b67, vi 0, vi 0, vi 0, vi 0, u_] []) := fun t k => by
      refine c201 t ?_
      show S_ p e below T156 m 166 #[vj j_, .second, vi f_, vi m_, vi n_, vi qa, vi qb, vj op, .second, vr b5, vr b33, vr b67, vi 0, vi 0, vi 0, vi 0, u_] [(.int (f_ &&& (128 : Int32)))] t
      refine XS.ifNo X156.here hx rfl (hb hby at_166) rfl ((if0 _ _).trans (feq hc202).1) ?_
      refine XS.iload X156.here hx rfl (hb hby at_169) rfl ?_
      refine yI X156.here hx rfl 171 181 rfl (hb hby at_171) rfl rfl ?_
      refine XS.iload X156.here hx rfl (hb hby at_181) rfl ?_
      refine yI X156.here hx rfl 183 220 rfl (hb hby at_183) rfl rfl ?_
      exact k
     have K206 : Keep h156 h156 [] := (Keep.refl _ _)
     exact ⟨T156, _, _, X156.mono (by decide) (by decide), e156, o156, K206, kp156, N156, c204⟩
   have c208 : Kt p e below T205 st0 (mkF m 224 #[vj j_, .second, vi f_, vi m_, vi n_, vi qa, vi qb, vj op, .second, vr b5, vr b33, vr b67, vi 0, vi 0, vi 0, vi 0, u_] [(.int (f_ &&& (64 : Int32)))]) := fun t k => by
    refine c205 t ?_
    show S_ p e below T205 m 220 #[vj j_, .second, vi f_, vi m_, vi n_, vi qa, vi qb, vj op, .second, vr b5, vr b33, vr b67, vi 0, vi 0, vi 0, vi 0, u_] [] t
    refine XS.iloadN X205.here hx rfl (hb hby at_220) rfl ?_
    refine XS.bipush X205.here hx rfl (hb hby at_221) ?_
    refine XS.iand X205.here hx rfl (hb hby at_223) rfl ?_
    exact k
   obtain ⟨T212, h212, L212, X212, e212, o212, K212, kp212, N212, c212⟩ : ∃ (T212 : State) (h212 : Heap) (L212 : List Loc), Stand p l e room_1 (s.setVm T72.vm) m #[(.long j_), (.int f_), (.int m_), (.int n_)] below meth c T212 L212 9 49 ∧ T212.heap = h212 ∧ Old Z n0 h212 ∧ Keep h205 h212 [] ∧ Keep h0 h212 [] ∧ Fr n0 L212 ∧ Kt p e below T212 st0 (mkF m 278 #[vj j_, .second, vi f_, vi m_, vi n_, vi qa, vi qb, vj op, .second, vr b5, vr b33, vr b67, vi 0, vi 0, vi 0, vi 0, u_] []) := by
    by_cases hc209 : (f_ &&& (64 : Int32)) = (0 : Int32)
    ·have c210 : Kt p e below T205 st0 (mkF m 278 #[vj j_, .second, vi f_, vi m_, vi n_, vi qa, vi qb, vj op, .second, vr b5, vr b33, vr b67, vi 0, vi 0, vi 0, vi 0, u_] []) := fun t k => by
      refine c208 t ?_
      show S_ p e below T205 m 224 #[vj j_, .second, vi f_, vi m_, vi n_, vi qa, vi qb, vj op, .second, vr b5, vr b33, vr b67, vi 0, vi 0, vi 0, vi 0, u_] [(.int (f_ &&& (64 : Int32)))] t
      refine yI X205.here hx rfl 224 254 rfl (hb hby at_224) rfl ((if0 _ _).trans (teq hc209).1) ?_
      refine XS.iload X205.here hx rfl (hb hby at_254) rfl ?_
      refine yI X205.here hx rfl 256 266 rfl (hb hby at_256) rfl rfl ?_
      refine XS.iload X205.here hx rfl (hb hby at_266) rfl ?_
      refine yI X205.here hx rfl 268 278 rfl (hb hby at_268) rfl rfl ?_
      exact k
     have K214 : Keep h205 h205 [] := (Keep.refl _ _)
     exact ⟨T205, _, _, X205.mono (by decide) (by decide), e205, o205, K214, kp205, N205, c210⟩
    ·have c211 : Kt p e below T205 st0 (mkF m 278 #[vj j_, .second, vi f_, vi m_, vi n_, vi qa, vi qb, vj op, .second, vr b5, vr b33, vr b67, vi 0, vi 0, vi 0, vi 0, u_] []) := fun t k => by
      refine c208 t ?_
      show S_ p e below T205 m 224 #[vj j_, .second, vi f_, vi m_, vi n_, vi qa, vi qb, vj op, .second, vr b5, vr b33, vr b67, vi 0, vi 0, vi 0, vi 0, u_] [(.int (f_ &&& (64 : Int32)))] t
      refine XS.ifNo X205.here hx rfl (hb hby at_224) rfl ((if0 _ _).trans (feq hc209).1) ?_
      refine XS.iload X205.here hx rfl (hb hby at_227) rfl ?_
      refine yI X205.here hx rfl 229 239 rfl (hb hby at_229) rfl rfl ?_
      refine XS.iload X205.here hx rfl (hb hby at_239) rfl ?_
      refine yI X205.here hx rfl 241 278 rfl (hb hby at_241) rfl rfl ?_
      exact k
     have K213 : Keep h205 h205 [] := (Keep.refl _ _)
     exact ⟨T205, _, _, X205.mono (by decide) (by decide), e205, o205, K213, kp205, N205, c211⟩
   have c215 : Kt p e below T212 st0 (mkF m 315 #[vj j_, .second, vi f_, vi m_, vi n_, vi qa, vi qb, vj op, .second, vr b5, vr b33, vr b67, vi 0, vi 0, vi 0, vi 0, vi 0] [(rr b5)]) := fun t k => by
    refine c212 t ?_
    show S_ p e below T212 m 278 #[vj j_, .second, vi f_, vi m_, vi n_, vi qa, vi qb, vj op, .second, vr b5, vr b33, vr b67, vi 0, vi 0, vi 0, vi 0, u_] [] t
    refine XS.iconst X212.here hx rfl (hb hby at_278) ?_
    refine XS.istore X212.here hx rfl (hb hby at_279) rfl (l' := #[vj j_, .second, vi f_, vi m_, vi n_, vi qa, vi qb, vj op, .second, vr b5, vr b33, vr b67, vi 0, vi 0, vi 0, vi 0, vi 0]) rfl ?_
    refine XS.iload X212.here hx rfl (hb hby at_281) rfl ?_
    refine yI X212.here hx rfl 283 297 rfl (hb hby at_283) rfl rfl ?_
    refine XS.iload X212.here hx rfl (hb hby at_297) rfl ?_
    refine yI X212.here hx rfl 299 313 rfl (hb hby at_299) rfl rfl ?_
    refine XS.aload X212.here hx rfl (hb hby at_313) rfl rfl ?_
    exact k
   obtain ⟨_, T216, L216, X216, hQ216, c216⟩ := kvirt X212 hx hZ72 hown72 (w87 hw) (w88 hw) (w90 hw) (w89 hw) (w91 hw) (w4 hw) (rm_emE l Z a0 hw [] b5 b13 b14 h212 n0 o212 ((f166.keep K205).keep K212) ((f169.keep K205 nin0).keep K212 nin0) ((f170.keep K205 nin0).keep K212 nin0) ((f175.keep K205 nin0).keep K212 nin0) ((f179.keep K205 nin0).keep K212 nin0)) e212 ((f166.keep K205).keep K212) c215 hml pd_prZ [] [] 0 (hb hby at_315) rfl rfl rfl rfl rfl rfl
   obtain ⟨rfl, N217q, K218⟩ := hQ216
   have N217 := Fr.app N212 N217q
   obtain ⟨fs, hr, hrun, hended, hRW⟩ := X216.leaveW hS72 (by first | exact (Nat.le_trans hk72 (Nat.le_trans (Nat.le_trans (Nat.le_trans (Nat.le_trans K91.1 K123.1) K156.1) K205.1) K212.1)) | (rw [K218]; exact (Nat.le_trans hk72 (Nat.le_trans (Nat.le_trans (Nat.le_trans (Nat.le_trans K91.1 K123.1) K156.1) K205.1) K212.1)))) (v := some (ii 1)) (fun h => by rw [Bd.returns] at h; cases h)
   refine ⟨_, _, c216 _ ?_, hrun, hended, _, _, rfl, ?_, hRW.1, hRW.2.1, hRW.2.2.1, hRW.2.2.2.mono (by decide) (by decide)⟩
   ·show S_ p e below T216 m 318 #[vj j_, .second, vi f_, vi m_, vi n_, vi qa, vi qb, vj op, .second, vr b5, vr b33, vr b67, vi 0, vi 0, vi 0, vi 0, vi 0] [(ii 1)] _
    refine XS.iload X216.here hx rfl (hb hby at_318) rfl ?_
    refine XS.ifNo X216.here hx rfl (hb hby at_320) rfl rfl ?_
    refine XS.iconst X216.here hx rfl (hb hby at_323) ?_
    refine yG X216.here hx rfl 324 328 rfl (hb hby at_324) ?_
    refine XS.icmpNo X216.here hx rfl (hb hby at_328) rfl rfl ?_
    refine XS.iconst X216.here hx rfl (hb hby at_331) ?_
    refine yG X216.here hx rfl 332 336 rfl (hb hby at_332) ?_
    show S_ p e below T216 m 336 #[vj j_, .second, vi f_, vi m_, vi n_, vi qa, vi qb, vj op, .second, vr b5, vr b33, vr b67, vi 0, vi 0, vi 0, vi 0, vi 0] [(ii 1)] _
    exact retN X216 hx (t := .boolean) Bd.returns (by simp) (hb hby at_336) hr
   ·show Q_law Z j_ f_ m_ n_ sa5_ sa9_ sa13_ sa17_ h0 n0 _ T216.heap _
    rw [K218]
    exact ⟨rfl, N217, kp212⟩
  ·have c219 : Kt p e below T156 st0 (mkF m 151 #[vj j_, .second, vi f_, vi m_, vi n_, vi qa, vi qb, vj op, .second, vr b5, vr b33, vr b67, vi 0, vi 1, vi 0, u_, u_] [(.int (f_ &&& (32 : Int32)))]) := fun t k => by
    refine c199 t ?_
    show S_ p e below T156 m 113 #[vj j_, .second, vi f_, vi m_, vi n_, vi qa, vi qb, vj op, .second, vr b5, vr b33, vr b67, vi 0, u_, u_, u_, u_] [(.int (f_ &&& (8 : Int32)))] t
    refine XS.ifNo X156.here hx rfl (hb hby at_113) rfl ((if0 _ _).trans (feq hc200).1) ?_
    refine XS.iconst X156.here hx rfl (hb hby at_116) ?_
    refine yG X156.here hx rfl 117 121 rfl (hb hby at_117) ?_
    refine XS.istore X156.here hx rfl (hb hby at_121) rfl (l' := #[vj j_, .second, vi f_, vi m_, vi n_, vi qa, vi qb, vj op, .second, vr b5, vr b33, vr b67, vi 0, vi 1, u_, u_, u_]) rfl ?_
    refine XS.iload X156.here hx rfl (hb hby at_123) rfl ?_
    refine yI X156.here hx rfl 125 139 rfl (hb hby at_125) rfl rfl ?_
    refine XS.iconst X156.here hx rfl (hb hby at_139) ?_
    refine XS.istore X156.here hx rfl (hb hby at_140) rfl (l' := #[vj j_, .second, vi f_, vi m_, vi n_, vi qa, vi qb, vj op, .second, vr b5, vr b33, vr b67, vi 0, vi 1, vi 0, u_, u_]) rfl ?_
    show S_ p e below T156 m 142 #[vj j_, .second, vi f_, vi m_, vi n_, vi qa, vi qb, vj op, .second, vr b5, vr b33, vr b67, vi 0, vi 1, vi 0, u_, u_] [] t
    refine XS.iload X156.here hx rfl (hb hby at_142) rfl ?_
    refine XS.ifNo X156.here hx rfl (hb hby at_144) rfl rfl ?_
    refine XS.iloadN X156.here hx rfl (hb hby at_147) rfl ?_
    refine XS.bipush X156.here hx rfl (hb hby at_148) ?_
    refine XS.iand X156.here hx rfl (hb hby at_150) rfl ?_
    exact k
   by_cases hc220 : (f_ &&& (32 : Int32)) = (0 : Int32)
   ·have c221 : Kt p e below T156 st0 (mkF m 161 #[vj j_, .second, vi f_, vi m_, vi n_, vi qa, vi qb, vj op, .second, vr b5, vr b33, vr b67, vi 0, vi 1, vi 0, vi 0, u_] []) := fun t k => by
     refine c219 t ?_
     show S_ p e below T156 m 151 #[vj j_, .second, vi f_, vi m_, vi n_, vi qa, vi qb, vj op, .second, vr b5, vr b33, vr b67, vi 0, vi 1, vi 0, u_, u_] [(.int (f_ &&& (32 : Int32)))] t
     refine yI X156.here hx rfl 151 158 rfl (hb hby at_151) rfl ((if0 _ _).trans (teq hc220).1) ?_
     refine XS.iconst X156.here hx rfl (hb hby at_158) ?_
     refine XS.istore X156.here hx rfl (hb hby at_159) rfl (l' := #[vj j_, .second, vi f_, vi m_, vi n_, vi qa, vi qb, vj op, .second, vr b5, vr b33, vr b67, vi 0, vi 1, vi 0, vi 0, u_]) rfl ?_
     exact k
    by_cases hc222 : (0 : Int32) < mv155
    ·have c223 : Kt p e below T156 st0 (mkF m 166 #[vj j_, .second, vi f_, vi m_, vi n_, vi qa, vi qb, vj op, .second, vr b5, vr b33, vr b67, vi 0, vi 1, vi 0, vi 0, u_] [(.int (f_ &&& (128 : Int32)))]) := fun t k => by
      refine c221 t ?_
      show S_ p e below T156 m 161 #[vj j_, .second, vi f_, vi m_, vi n_, vi qa, vi qb, vj op, .second, vr b5, vr b33, vr b67, vi 0, vi 1, vi 0, vi 0, u_] [] t
      refine XS.iloadN X156.here hx rfl (hb hby at_161) rfl ?_
      refine XS.sipush X156.here hx rfl (hb hby at_162) ?_
      refine XS.iand X156.here hx rfl (hb hby at_165) rfl ?_
      exact k
     obtain ⟨T249, h249, L249, X249, e249, o249, K249, kp249, N249, f250, f251, f252, f253, f254, c249⟩ : ∃ (T249 : State) (h249 : Heap) (L249 : List Loc), Stand p l e room_1 (s.setVm T72.vm) m #[(.long j_), (.int f_), (.int m_), (.int n_)] below meth c T249 L249 9 49 ∧ T249.heap = h249 ∧ Old Z n0 h249 ∧ Keep h156 h249 [b67, b13] ∧ Keep h0 h249 [] ∧ Fr n0 L249 ∧ Fld Z h249 b13 nm2 "head" nm1 (rr b67) ∧ Fld Z h249 b13 nm2 "tail" nm1 (rr b67) ∧ Fld Z h249 b67 nm0 "queue" nm4 (rr b5) ∧ Fld Z h249 b67 nm0 "previous" nm1 .null ∧ Fld Z h249 b67 nm0 "next" nm1 .null ∧ Kt p e below T249 st0 (mkF m 220 #[vj j_, .second, vi f_, vi m_, vi n_, vi qa, vi qb, vj op, .second, vr b5, vr b33, vr b67, vi 0, vi 1, vi 0, vi 0, u_] []) := by
      by_cases hc224 : (f_ &&& (128 : Int32)) = (0 : Int32)
      ·have c225 : Kt p e below T156 st0 (mkF m 205 #[vj j_, .second, vi f_, vi m_, vi n_, vi qa, vi qb, vj op, .second, vr b5, vr b33, vr b67, vi 0, vi 1, vi 0, vi 0, u_] [(rr b67), (rr b5)]) := fun t k => by
        refine c223 t ?_
        show S_ p e below T156 m 166 #[vj j_, .second, vi f_, vi m_, vi n_, vi qa, vi qb, vj op, .second, vr b5, vr b33, vr b67, vi 0, vi 1, vi 0, vi 0, u_] [(.int (f_ &&& (128 : Int32)))] t
        refine yI X156.here hx rfl 166 196 rfl (hb hby at_166) rfl ((if0 _ _).trans (teq hc224).1) ?_
        refine XS.iload X156.here hx rfl (hb hby at_196) rfl ?_
        refine XS.ifNo X156.here hx rfl (hb hby at_198) rfl rfl ?_
        refine XS.aload X156.here hx rfl (hb hby at_201) rfl rfl ?_
        refine XS.aload X156.here hx rfl (hb hby at_203) rfl rfl ?_
        exact k
       obtain ⟨_, T226, L226, X226, hQ226, c226⟩ := kvirt X156 hx hZ72 hown72 (w94 hw) (w95 hw) (w97 hw) (w96 hw) (w98 hw) (w4 hw) (rm_addSN l Z a0 hw [] b5 b67 b13 b14 sa17_ mv155 h156 n0 o156 f166 f189 f169 f170 f157 f159 f160 f161 f162 g67 ZE7_ ZF8_ f171 g29 f175 f176 hc222) e156 f166 c225 hml pd_pLcom_example_lexchange_lexchange_Order_rV [(rr b67)] [] 0 (hb hby at_205) rfl rfl rfl rfl rfl rfl
       obtain ⟨rfl, N227q, K228, p229, p230, p231, p232, p233⟩ := hQ226
       have N227 := Fr.app N156 N227q
       have o234 := o156.keep K228 (allS g67 (allS g29 all0))
       have kp235 := kp156.trans K228 (allS (Or.inr z70) (allS (Or.inr z28) all0))
       have c236 : Kt p e below T226 st0 (mkF m 220 #[vj j_, .second, vi f_, vi m_, vi n_, vi qa, vi qb, vj op, .second, vr b5, vr b33, vr b67, vi 0, vi 1, vi 0, vi 0, u_] []) := fun t k => by
        refine c226 t ?_
        show S_ p e below T226 m 208 #[vj j_, .second, vi f_, vi m_, vi n_, vi qa, vi qb, vj op, .second, vr b5, vr b33, vr b67, vi 0, vi 1, vi 0, vi 0, u_] [] t
        refine XS.iload X226.here hx rfl (hb hby at_208) rfl ?_
        refine yI X226.here hx rfl 210 220 rfl (hb hby at_210) rfl rfl ?_
        exact k
       have K256 : Keep h156 T226.heap [b67, b13] := ((Keep.refl _ _).trans K228 (allS (Or.inl (List.mem_of_getElem? (i := 0) rfl)) (allS (Or.inl (List.mem_of_getElem? (i := 1) rfl)) all0)))
       exact ⟨T226, _, _, X226.mono (by decide) (by decide), rfl, o234, K256, kp235, N227, p232, p233, p229, p230, p231, c236⟩
      ·have c237 : Kt p e below T156 st0 (mkF m 190 #[vj j_, .second, vi f_, vi m_, vi n_, vi qa, vi qb, vj op, .second, vr b5, vr b33, vr b67, vi 0, vi 1, vi 0, vi 0, u_] [(rr b67), (rr b5)]) := fun t k => by
        refine c223 t ?_
        show S_ p e below T156 m 166 #[vj j_, .second, vi f_, vi m_, vi n_, vi qa, vi qb, vj op, .second, vr b5, vr b33, vr b67, vi 0, vi 1, vi 0, vi 0, u_] [(.int (f_ &&& (128 : Int32)))] t
        refine XS.ifNo X156.here hx rfl (hb hby at_166) rfl ((if0 _ _).trans (feq hc224).1) ?_
        refine XS.iload X156.here hx rfl (hb hby at_169) rfl ?_
        refine yI X156.here hx rfl 171 181 rfl (hb hby at_171) rfl rfl ?_
        refine XS.iload X156.here hx rfl (hb hby at_181) rfl ?_
        refine XS.ifNo X156.here hx rfl (hb hby at_183) rfl rfl ?_
        refine XS.aload X156.here hx rfl (hb hby at_186) rfl rfl ?_
        refine XS.aload X156.here hx rfl (hb hby at_188) rfl rfl ?_
        exact k
       obtain ⟨_, T238, L238, X238, hQ238, c238⟩ := kvirt X156 hx hZ72 hown72 (w94 hw) (w95 hw) (w97 hw) (w96 hw) (w98 hw) (w4 hw) (rm_addSN l Z a0 hw [] b5 b67 b13 b14 sa17_ mv155 h156 n0 o156 f166 f189 f169 f170 f157 f159 f160 f161 f162 g67 ZE7_ ZF8_ f171 g29 f175 f176 hc222) e156 f166 c237 hml pd_pLcom_example_lexchange_lexchange_Order_rV [(rr b67)] [] 0 (hb hby at_190) rfl rfl rfl rfl rfl rfl
       obtain ⟨rfl, N239q, K240, p241, p242, p243, p244, p245⟩ := hQ238
       have N239 := Fr.app N156 N239q
       have o246 := o156.keep K240 (allS g67 (allS g29 all0))
       have kp247 := kp156.trans K240 (allS (Or.inr z70) (allS (Or.inr z28) all0))
       have c248 : Kt p e below T238 st0 (mkF m 220 #[vj j_, .second, vi f_, vi m_, vi n_, vi qa, vi qb, vj op, .second, vr b5, vr b33, vr b67, vi 0, vi 1, vi 0, vi 0, u_] []) := fun t k => by
        refine c238 t ?_
        show S_ p e below T238 m 193 #[vj j_, .second, vi f_, vi m_, vi n_, vi qa, vi qb, vj op, .second, vr b5, vr b33, vr b67, vi 0, vi 1, vi 0, vi 0, u_] [] t
        refine yG X238.here hx rfl 193 220 rfl (hb hby at_193) ?_
        exact k
       have K255 : Keep h156 T238.heap [b67, b13] := ((Keep.refl _ _).trans K240 (allS (Or.inl (List.mem_of_getElem? (i := 0) rfl)) (allS (Or.inl (List.mem_of_getElem? (i := 1) rfl)) all0)))
       exact ⟨T238, _, _, X238.mono (by decide) (by decide), rfl, o246, K255, kp247, N239, p244, p245, p241, p242, p243, c248⟩
     have c257 : Kt p e below T249 st0 (mkF m 224 #[vj j_, .second, vi f_, vi m_, vi n_, vi qa, vi qb, vj op, .second, vr b5, vr b33, vr b67, vi 0, vi 1, vi 0, vi 0, u_] [(.int (f_ &&& (64 : Int32)))]) := fun t k => by
      refine c249 t ?_
      show S_ p e below T249 m 220 #[vj j_, .second, vi f_, vi m_, vi n_, vi qa, vi qb, vj op, .second, vr b5, vr b33, vr b67, vi 0, vi 1, vi 0, vi 0, u_] [] t
      refine XS.iloadN X249.here hx rfl (hb hby at_220) rfl ?_
      refine XS.bipush X249.here hx rfl (hb hby at_221) ?_
      refine XS.iand X249.here hx rfl (hb hby at_223) rfl ?_
      exact k
     obtain ⟨T261, h261, L261, X261, e261, o261, K261, kp261, N261, c261⟩ : ∃ (T261 : State) (h261 : Heap) (L261 : List Loc), Stand p l e room_1 (s.setVm T72.vm) m #[(.long j_), (.int f_), (.int m_), (.int n_)] below meth c T261 L261 9 49 ∧ T261.heap = h261 ∧ Old Z n0 h261 ∧ Keep h249 h261 [] ∧ Keep h0 h261 [] ∧ Fr n0 L261 ∧ Kt p e below T261 st0 (mkF m 278 #[vj j_, .second, vi f_, vi m_, vi n_, vi qa, vi qb, vj op, .second, vr b5, vr b33, vr b67, vi 0, vi 1, vi 0, vi 0, u_] []) := by
      by_cases hc258 : (f_ &&& (64 : Int32)) = (0 : Int32)
      ·have c259 : Kt p e below T249 st0 (mkF m 278 #[vj j_, .second, vi f_, vi m_, vi n_, vi qa, vi qb, vj op, .second, vr b5, vr b33, vr b67, vi 0, vi 1, vi 0, vi 0, u_] []) := fun t k => by
        refine c257 t ?_
        show S_ p e below T249 m 224 #[vj j_, .second, vi f_, vi m_, vi n_, vi qa, vi qb, vj op, .second, vr b5, vr b33, vr b67, vi 0, vi 1, vi 0, vi 0, u_] [(.int (f_ &&& (64 : Int32)))] t
        refine yI X249.here hx rfl 224 254 rfl (hb hby at_224) rfl ((if0 _ _).trans (teq hc258).1) ?_
        refine XS.iload X249.here hx rfl (hb hby at_254) rfl ?_
        refine yI X249.here hx rfl 256 266 rfl (hb hby at_256) rfl rfl ?_
        refine XS.iload X249.here hx rfl (hb hby at_266) rfl ?_
        refine yI X249.here hx rfl 268 278 rfl (hb hby at_268) rfl rfl ?_
        exact k
       have K263 : Keep h249 h249 [] := (Keep.refl _ _)
       exact ⟨T249, _, _, X249.mono (by decide) (by decide), e249, o249, K263, kp249, N249, c259⟩
      ·have c260 : Kt p e below T249 st0 (mkF m 278 #[vj j_, .second, vi f_, vi m_, vi n_, vi qa, vi qb, vj op, .second, vr b5, vr b33, vr b67, vi 0, vi 1, vi 0, vi 0, u_] []) := fun t k => by
        refine c257 t ?_
        show S_ p e below T249 m 224 #[vj j_, .second, vi f_, vi m_, vi n_, vi qa, vi qb, vj op, .second, vr b5, vr b33, vr b67, vi 0, vi 1, vi 0, vi 0, u_] [(.int (f_ &&& (64 : Int32)))] t
        refine XS.ifNo X249.here hx rfl (hb hby at_224) rfl ((if0 _ _).trans (feq hc258).1) ?_
        refine XS.iload X249.here hx rfl (hb hby at_227) rfl ?_
        refine yI X249.here hx rfl 229 239 rfl (hb hby at_229) rfl rfl ?_
        refine XS.iload X249.here hx rfl (hb hby at_239) rfl ?_
        refine yI X249.here hx rfl 241 278 rfl (hb hby at_241) rfl rfl ?_
        exact k
       have K262 : Keep h249 h249 [] := (Keep.refl _ _)
       exact ⟨T249, _, _, X249.mono (by decide) (by decide), e249, o249, K262, kp249, N249, c260⟩
     have c264 : Kt p e below T261 st0 (mkF m 315 #[vj j_, .second, vi f_, vi m_, vi n_, vi qa, vi qb, vj op, .second, vr b5, vr b33, vr b67, vi 0, vi 1, vi 0, vi 0, vi 1] [(rr b5)]) := fun t k => by
      refine c261 t ?_
      show S_ p e below T261 m 278 #[vj j_, .second, vi f_, vi m_, vi n_, vi qa, vi qb, vj op, .second, vr b5, vr b33, vr b67, vi 0, vi 1, vi 0, vi 0, u_] [] t
      refine XS.iconst X261.here hx rfl (hb hby at_278) ?_
      refine XS.istore X261.here hx rfl (hb hby at_279) rfl (l' := #[vj j_, .second, vi f_, vi m_, vi n_, vi qa, vi qb, vj op, .second, vr b5, vr b33, vr b67, vi 0, vi 1, vi 0, vi 0, vi 0]) rfl ?_
      refine XS.iload X261.here hx rfl (hb hby at_281) rfl ?_
      refine yI X261.here hx rfl 283 297 rfl (hb hby at_283) rfl rfl ?_
      refine XS.iload X261.here hx rfl (hb hby at_297) rfl ?_
      refine XS.ifNo X261.here hx rfl (hb hby at_299) rfl rfl ?_
      refine XS.iload X261.here hx rfl (hb hby at_302) rfl ?_
      refine XS.ifNo X261.here hx rfl (hb hby at_304) rfl rfl ?_
      show S_ p e below T261 m 307 #[vj j_, .second, vi f_, vi m_, vi n_, vi qa, vi qb, vj op, .second, vr b5, vr b33, vr b67, vi 0, vi 1, vi 0, vi 0, vi 0] [] t
      refine XS.iload X261.here hx rfl (hb hby at_307) rfl ?_
      refine XS.iconst X261.here hx rfl (hb hby at_309) ?_
      refine XS.iadd X261.here hx rfl (hb hby at_310) rfl ?_
      refine XS.istore X261.here hx rfl (hb hby at_311) rfl (l' := #[vj j_, .second, vi f_, vi m_, vi n_, vi qa, vi qb, vj op, .second, vr b5, vr b33, vr b67, vi 0, vi 1, vi 0, vi 0, vi 1]) rfl ?_
      refine XS.aload X261.here hx rfl (hb hby at_313) rfl rfl ?_
      exact k
     obtain ⟨_, T265, L265, X265, hQ265, c265⟩ := kvirt X261 hx hZ72 hown72 (w87 hw) (w88 hw) (w90 hw) (w89 hw) (w91 hw) (w4 hw) (rm_emS l Z a0 hw [] b5 b13 b14 b67 h261 n0 o261 ((f166.keep K249).keep K261) ((f169.keep K249 (ninS q168 (ninS q190 nin0))).keep K261 nin0) ((f170.keep K249 (ninS q168 (ninS q190 nin0))).keep K261 nin0) (f250.keep K261 nin0)) e261 ((f166.keep K249).keep K261) c264 hml pd_prZ [] [] 0 (hb hby at_315) rfl rfl rfl rfl rfl rfl
     obtain ⟨rfl, N266q, K267⟩ := hQ265
     have N266 := Fr.app N261 N266q
     obtain ⟨fs, hr, hrun, hended, hRW⟩ := X265.leaveW hS72 (by first | exact (Nat.le_trans hk72 (Nat.le_trans (Nat.le_trans (Nat.le_trans (Nat.le_trans K91.1 K123.1) K156.1) K249.1) K261.1)) | (rw [K267]; exact (Nat.le_trans hk72 (Nat.le_trans (Nat.le_trans (Nat.le_trans (Nat.le_trans K91.1 K123.1) K156.1) K249.1) K261.1)))) (v := some (ii 1)) (fun h => by rw [Bd.returns] at h; cases h)
     refine ⟨_, _, c265 _ ?_, hrun, hended, _, _, rfl, ?_, hRW.1, hRW.2.1, hRW.2.2.1, hRW.2.2.2.mono (by decide) (by decide)⟩
     ·show S_ p e below T265 m 318 #[vj j_, .second, vi f_, vi m_, vi n_, vi qa, vi qb, vj op, .second, vr b5, vr b33, vr b67, vi 0, vi 1, vi 0, vi 0, vi 1] [(ii 0)] _
      refine XS.iload X265.here hx rfl (hb hby at_318) rfl ?_
      refine yI X265.here hx rfl 320 327 rfl (hb hby at_320) rfl rfl ?_
      refine XS.iconst X265.here hx rfl (hb hby at_327) ?_
      refine XS.icmpNo X265.here hx rfl (hb hby at_328) rfl rfl ?_
      refine XS.iconst X265.here hx rfl (hb hby at_331) ?_
      refine yG X265.here hx rfl 332 336 rfl (hb hby at_332) ?_
      show S_ p e below T265 m 336 #[vj j_, .second, vi f_, vi m_, vi n_, vi qa, vi qb, vj op, .second, vr b5, vr b33, vr b67, vi 0, vi 1, vi 0, vi 0, vi 1] [(ii 1)] _
      exact retN X265 hx (t := .boolean) Bd.returns (by simp) (hb hby at_336) hr
     ·show Q_law Z j_ f_ m_ n_ sa5_ sa9_ sa13_ sa17_ h0 n0 _ T265.heap _
      rw [K267]
      exact ⟨rfl, N266, kp261⟩
    ·have c268 : Kt p e below T156 st0 (mkF m 166 #[vj j_, .second, vi f_, vi m_, vi n_, vi qa, vi qb, vj op, .second, vr b5, vr b33, vr b67, vi 0, vi 1, vi 0, vi 0, u_] [(.int (f_ &&& (128 : Int32)))]) := fun t k => by
      refine c221 t ?_
      show S_ p e below T156 m 161 #[vj j_, .second, vi f_, vi m_, vi n_, vi qa, vi qb, vj op, .second, vr b5, vr b33, vr b67, vi 0, vi 1, vi 0, vi 0, u_] [] t
      refine XS.iloadN X156.here hx rfl (hb hby at_161) rfl ?_
      refine XS.sipush X156.here hx rfl (hb hby at_162) ?_
      refine XS.iand X156.here hx rfl (hb hby at_165) rfl ?_
      exact k
     obtain ⟨T294, h294, L294, X294, e294, o294, K294, kp294, N294, f295, f296, f297, f298, f299, c294⟩ : ∃ (T294 : State) (h294 : Heap) (L294 : List Loc), Stand p l e room_1 (s.setVm T72.vm) m #[(.long j_), (.int f_), (.int m_), (.int n_)] below meth c T294 L294 9 49 ∧ T294.heap = h294 ∧ Old Z n0 h294 ∧ Keep h156 h294 [b67, b14] ∧ Keep h0 h294 [] ∧ Fr n0 L294 ∧ Fld Z h294 b14 nm2 "head" nm1 (rr b67) ∧ Fld Z h294 b14 nm2 "tail" nm1 (rr b67) ∧ Fld Z h294 b67 nm0 "queue" nm4 (rr b5) ∧ Fld Z h294 b67 nm0 "previous" nm1 .null ∧ Fld Z h294 b67 nm0 "next" nm1 .null ∧ Kt p e below T294 st0 (mkF m 220 #[vj j_, .second, vi f_, vi m_, vi n_, vi qa, vi qb, vj op, .second, vr b5, vr b33, vr b67, vi 0, vi 1, vi 0, vi 0, u_] []) := by
      by_cases hc269 : (f_ &&& (128 : Int32)) = (0 : Int32)
      ·have c270 : Kt p e below T156 st0 (mkF m 205 #[vj j_, .second, vi f_, vi m_, vi n_, vi qa, vi qb, vj op, .second, vr b5, vr b33, vr b67, vi 0, vi 1, vi 0, vi 0, u_] [(rr b67), (rr b5)]) := fun t k => by
        refine c268 t ?_
        show S_ p e below T156 m 166 #[vj j_, .second, vi f_, vi m_, vi n_, vi qa, vi qb, vj op, .second, vr b5, vr b33, vr b67, vi 0, vi 1, vi 0, vi 0, u_] [(.int (f_ &&& (128 : Int32)))] t
        refine yI X156.here hx rfl 166 196 rfl (hb hby at_166) rfl ((if0 _ _).trans (teq hc269).1) ?_
        refine XS.iload X156.here hx rfl (hb hby at_196) rfl ?_
        refine XS.ifNo X156.here hx rfl (hb hby at_198) rfl rfl ?_
        refine XS.aload X156.here hx rfl (hb hby at_201) rfl rfl ?_
        refine XS.aload X156.here hx rfl (hb hby at_203) rfl rfl ?_
        exact k
       obtain ⟨_, T271, L271, X271, hQ271, c271⟩ := kvirt X156 hx hZ72 hown72 (w94 hw) (w95 hw) (w97 hw) (w96 hw) (w98 hw) (w4 hw) (rm_addHN l Z a0 hw [] b5 b67 b13 b14 sa17_ mv155 h156 n0 o156 f166 f189 f169 f170 f157 f159 f160 f161 f162 g67 ZE7_ ZF8_ f172 g31 f179 f180 hc222) e156 f166 c270 hml pd_pLcom_example_lexchange_lexchange_Order_rV [(rr b67)] [] 0 (hb hby at_205) rfl rfl rfl rfl rfl rfl
       obtain ⟨rfl, N272q, K273, p274, p275, p276, p277, p278⟩ := hQ271
       have N272 := Fr.app N156 N272q
       have o279 := o156.keep K273 (allS g67 (allS g31 all0))
       have kp280 := kp156.trans K273 (allS (Or.inr z70) (allS (Or.inr z30) all0))
       have c281 : Kt p e below T271 st0 (mkF m 220 #[vj j_, .second, vi f_, vi m_, vi n_, vi qa, vi qb, vj op, .second, vr b5, vr b33, vr b67, vi 0, vi 1, vi 0, vi 0, u_] []) := fun t k => by
        refine c271 t ?_
        show S_ p e below T271 m 208 #[vj j_, .second, vi f_, vi m_, vi n_, vi qa, vi qb, vj op, .second, vr b5, vr b33, vr b67, vi 0, vi 1, vi 0, vi 0, u_] [] t
        refine XS.iload X271.here hx rfl (hb hby at_208) rfl ?_
        refine yI X271.here hx rfl 210 220 rfl (hb hby at_210) rfl rfl ?_
        exact k
       have K301 : Keep h156 T271.heap [b67, b14] := ((Keep.refl _ _).trans K273 (allS (Or.inl (List.mem_of_getElem? (i := 0) rfl)) (allS (Or.inl (List.mem_of_getElem? (i := 1) rfl)) all0)))
       exact ⟨T271, _, _, X271.mono (by decide) (by decide), rfl, o279, K301, kp280, N272, p277, p278, p274, p275, p276, c281⟩
      ·have c282 : Kt p e below T156 st0 (mkF m 190 #[vj j_, .second, vi f_, vi m_, vi n_, vi qa, vi qb, vj op, .second, vr b5, vr b33, vr b67, vi 0, vi 1, vi 0, vi 0, u_] [(rr b67), (rr b5)]) := fun t k => by
        refine c268 t ?_
        show S_ p e below T156 m 166 #[vj j_, .second, vi f_, vi m_, vi n_, vi qa, vi qb, vj op, .second, vr b5, vr b33, vr b67, vi 0, vi 1, vi 0, vi 0, u_] [(.int (f_ &&& (128 : Int32)))] t
        refine XS.ifNo X156.here hx rfl (hb hby at_166) rfl ((if0 _ _).trans (feq hc269).1) ?_
        refine XS.iload X156.here hx rfl (hb hby at_169) rfl ?_
        refine yI X156.here hx rfl 171 181 rfl (hb hby at_171) rfl rfl ?_
        refine XS.iload X156.here hx rfl (hb hby at_181) rfl ?_
        refine XS.ifNo X156.here hx rfl (hb hby at_183) rfl rfl ?_
        refine XS.aload X156.here hx rfl (hb hby at_186) rfl rfl ?_
        refine XS.aload X156.here hx rfl (hb hby at_188) rfl rfl ?_
        exact k
       obtain ⟨_, T283, L283, X283, hQ283, c283⟩ := kvirt X156 hx hZ72 hown72 (w94 hw) (w95 hw) (w97 hw) (w96 hw) (w98 hw) (w4 hw) (rm_addHN l Z a0 hw [] b5 b67 b13 b14 sa17_ mv155 h156 n0 o156 f166 f189 f169 f170 f157 f159 f160 f161 f162 g67 ZE7_ ZF8_ f172 g31 f179 f180 hc222) e156 f166 c282 hml pd_pLcom_example_lexchange_lexchange_Order_rV [(rr b67)] [] 0 (hb hby at_190) rfl rfl rfl rfl rfl rfl
       obtain ⟨rfl, N284q, K285, p286, p287, p288, p289, p290⟩ := hQ283
       have N284 := Fr.app N156 N284q
       have o291 := o156.keep K285 (allS g67 (allS g31 all0))
       have kp292 := kp156.trans K285 (allS (Or.inr z70) (allS (Or.inr z30) all0))
       have c293 : Kt p e below T283 st0 (mkF m 220 #[vj j_, .second, vi f_, vi m_, vi n_, vi qa, vi qb, vj op, .second, vr b5, vr b33, vr b67, vi 0, vi 1, vi 0, vi 0, u_] []) := fun t k => by
        refine c283 t ?_
        show S_ p e below T283 m 193 #[vj j_, .second, vi f_, vi m_, vi n_, vi qa, vi qb, vj op, .second, vr b5, vr b33, vr b67, vi 0, vi 1, vi 0, vi 0, u_] [] t
        refine yG X283.here hx rfl 193 220 rfl (hb hby at_193) ?_
        exact k
       have K300 : Keep h156 T283.heap [b67, b14] := ((Keep.refl _ _).trans K285 (allS (Or.inl (List.mem_of_getElem? (i := 0) rfl)) (allS (Or.inl (List.mem_of_getElem? (i := 1) rfl)) all0)))
       exact ⟨T283, _, _, X283.mono (by decide) (by decide), rfl, o291, K300, kp292, N284, p289, p290, p286, p287, p288, c293⟩
     have c302 : Kt p e below T294 st0 (mkF m 224 #[vj j_, .second, vi f_, vi m_, vi n_, vi qa, vi qb, vj op, .second, vr b5, vr b33, vr b67, vi 0, vi 1, vi 0, vi 0, u_] [(.int (f_ &&& (64 : Int32)))]) := fun t k => by
      refine c294 t ?_
      show S_ p e below T294 m 220 #[vj j_, .second, vi f_, vi m_, vi n_, vi qa, vi qb, vj op, .second, vr b5, vr b33, vr b67, vi 0, vi 1, vi 0, vi 0, u_] [] t
      refine XS.iloadN X294.here hx rfl (hb hby at_220) rfl ?_
      refine XS.bipush X294.here hx rfl (hb hby at_221) ?_
      refine XS.iand X294.here hx rfl (hb hby at_223) rfl ?_
      exact k
     obtain ⟨T306, h306, L306, X306, e306, o306, K306, kp306, N306, c306⟩ : ∃ (T306 : State) (h306 : Heap) (L306 : List Loc), Stand p l e room_1 (s.setVm T72.vm) m #[(.long j_), (.int f_), (.int m_), (.int n_)] below meth c T306 L306 9 49 ∧ T306.heap = h306 ∧ Old Z n0 h306 ∧ Keep h294 h306 [] ∧ Keep h0 h306 [] ∧ Fr n0 L306 ∧ Kt p e below T306 st0 (mkF m 278 #[vj j_, .second, vi f_, vi m_, vi n_, vi qa, vi qb, vj op, .second, vr b5, vr b33, vr b67, vi 0, vi 1, vi 0, vi 0, u_] []) := by
      by_cases hc303 : (f_ &&& (64 : Int32)) = (0 : Int32)
      ·have c304 : Kt p e below T294 st0 (mkF m 278 #[vj j_, .second, vi f_, vi m_, vi n_, vi qa, vi qb, vj op, .second, vr b5, vr b33, vr b67, vi 0, vi 1, vi 0, vi 0, u_] []) := fun t k => by
        refine c302 t ?_
        show S_ p e below T294 m 224 #[vj j_, .second, vi f_, vi m_, vi n_, vi qa, vi qb, vj op, .second, vr b5, vr b33, vr b67, vi 0, vi 1, vi 0, vi 0, u_] [(.int (f_ &&& (64 : Int32)))] t
        refine yI X294.here hx rfl 224 254 rfl (hb hby at_224) rfl ((if0 _ _).trans (teq hc303).1) ?_
        refine XS.iload X294.here hx rfl (hb hby at_254) rfl ?_
        refine yI X294.here hx rfl 256 266 rfl (hb hby at_256) rfl rfl ?_
        refine XS.iload X294.here hx rfl (hb hby at_266) rfl ?_
        refine yI X294.here hx rfl 268 278 rfl (hb hby at_268) rfl rfl ?_
        exact k
       have K308 : Keep h294 h294 [] := (Keep.refl _ _)
       exact ⟨T294, _, _, X294.mono (by decide) (by decide), e294, o294, K308, kp294, N294, c304⟩
      ·have c305 : Kt p e below T294 st0 (mkF m 278 #[vj j_, .second, vi f_, vi m_, vi n_, vi qa, vi qb, vj op, .second, vr b5, vr b33, vr b67, vi 0, vi 1, vi 0, vi 0, u_] []) := fun t k => by
        refine c302 t ?_
        show S_ p e below T294 m 224 #[vj j_, .second, vi f_, vi m_, vi n_, vi qa, vi qb, vj op, .second, vr b5, vr b33, vr b67, vi 0, vi 1, vi 0, vi 0, u_] [(.int (f_ &&& (64 : Int32)))] t
        refine XS.ifNo X294.here hx rfl (hb hby at_224) rfl ((if0 _ _).trans (feq hc303).1) ?_
        refine XS.iload X294.here hx rfl (hb hby at_227) rfl ?_
        refine yI X294.here hx rfl 229 239 rfl (hb hby at_229) rfl rfl ?_
        refine XS.iload X294.here hx rfl (hb hby at_239) rfl ?_
        refine yI X294.here hx rfl 241 278 rfl (hb hby at_241) rfl rfl ?_
        exact k
       have K307 : Keep h294 h294 [] := (Keep.refl _ _)
       exact ⟨T294, _, _, X294.mono (by decide) (by decide), e294, o294, K307, kp294, N294, c305⟩
     have c309 : Kt p e below T306 st0 (mkF m 315 #[vj j_, .second, vi f_, vi m_, vi n_, vi qa, vi qb, vj op, .second, vr b5, vr b33, vr b67, vi 0, vi 1, vi 0, vi 0, vi 1] [(rr b5)]) := fun t k => by
      refine c306 t ?_
      show S_ p e below T306 m 278 #[vj j_, .second, vi f_, vi m_, vi n_, vi qa, vi qb, vj op, .second, vr b5, vr b33, vr b67, vi 0, vi 1, vi 0, vi 0, u_] [] t
      refine XS.iconst X306.here hx rfl (hb hby at_278) ?_
      refine XS.istore X306.here hx rfl (hb hby at_279) rfl (l' := #[vj j_, .second, vi f_, vi m_, vi n_, vi qa, vi qb, vj op, .second, vr b5, vr b33, vr b67, vi 0, vi 1, vi 0, vi 0, vi 0]) rfl ?_
      refine XS.iload X306.here hx rfl (hb hby at_281) rfl ?_
      refine yI X306.here hx rfl 283 297 rfl (hb hby at_283) rfl rfl ?_
      refine XS.iload X306.here hx rfl (hb hby at_297) rfl ?_
      refine XS.ifNo X306.here hx rfl (hb hby at_299) rfl rfl ?_
      refine XS.iload X306.here hx rfl (hb hby at_302) rfl ?_
      refine XS.ifNo X306.here hx rfl (hb hby at_304) rfl rfl ?_
      show S_ p e below T306 m 307 #[vj j_, .second, vi f_, vi m_, vi n_, vi qa, vi qb, vj op, .second, vr b5, vr b33, vr b67, vi 0, vi 1, vi 0, vi 0, vi 0] [] t
      refine XS.iload X306.here hx rfl (hb hby at_307) rfl ?_
      refine XS.iconst X306.here hx rfl (hb hby at_309) ?_
      refine XS.iadd X306.here hx rfl (hb hby at_310) rfl ?_
      refine XS.istore X306.here hx rfl (hb hby at_311) rfl (l' := #[vj j_, .second, vi f_, vi m_, vi n_, vi qa, vi qb, vj op, .second, vr b5, vr b33, vr b67, vi 0, vi 1, vi 0, vi 0, vi 1]) rfl ?_
      refine XS.aload X306.here hx rfl (hb hby at_313) rfl rfl ?_
      exact k
     obtain ⟨_, T310, L310, X310, hQ310, c310⟩ := kvirt X306 hx hZ72 hown72 (w87 hw) (w88 hw) (w90 hw) (w89 hw) (w91 hw) (w4 hw) (rm_emH l Z a0 hw [] b5 b13 b14 b67 h306 n0 o306 ((f166.keep K294).keep K306) ((f169.keep K294 (ninS q168 (ninS q191 nin0))).keep K306 nin0) ((f170.keep K294 (ninS q168 (ninS q191 nin0))).keep K306 nin0) ((f175.keep K294 (ninS q174 (ninS p25 nin0))).keep K306 nin0) (f295.keep K306 nin0)) e306 ((f166.keep K294).keep K306) c309 hml pd_prZ [] [] 0 (hb hby at_315) rfl rfl rfl rfl rfl rfl
     obtain ⟨rfl, N311q, K312⟩ := hQ310
     have N311 := Fr.app N306 N311q
     obtain ⟨fs, hr, hrun, hended, hRW⟩ := X310.leaveW hS72 (by first | exact (Nat.le_trans hk72 (Nat.le_trans (Nat.le_trans (Nat.le_trans (Nat.le_trans K91.1 K123.1) K156.1) K294.1) K306.1)) | (rw [K312]; exact (Nat.le_trans hk72 (Nat.le_trans (Nat.le_trans (Nat.le_trans (Nat.le_trans K91.1 K123.1) K156.1) K294.1) K306.1)))) (v := some (ii 1)) (fun h => by rw [Bd.returns] at h; cases h)
     refine ⟨_, _, c310 _ ?_, hrun, hended, _, _, rfl, ?_, hRW.1, hRW.2.1, hRW.2.2.1, hRW.2.2.2.mono (by decide) (by decide)⟩
     ·show S_ p e below T310 m 318 #[vj j_, .second, vi f_, vi m_, vi n_, vi qa, vi qb, vj op, .second, vr b5, vr b33, vr b67, vi 0, vi 1, vi 0, vi 0, vi 1] [(ii 0)] _
      refine XS.iload X310.here hx rfl (hb hby at_318) rfl ?_
      refine yI X310.here hx rfl 320 327 rfl (hb hby at_320) rfl rfl ?_
      refine XS.iconst X310.here hx rfl (hb hby at_327) ?_
      refine XS.icmpNo X310.here hx rfl (hb hby at_328) rfl rfl ?_
      refine XS.iconst X310.here hx rfl (hb hby at_331) ?_
      refine yG X310.here hx rfl 332 336 rfl (hb hby at_332) ?_
      show S_ p e below T310 m 336 #[vj j_, .second, vi f_, vi m_, vi n_, vi qa, vi qb, vj op, .second, vr b5, vr b33, vr b67, vi 0, vi 1, vi 0, vi 0, vi 1] [(ii 1)] _
      exact retN X310 hx (t := .boolean) Bd.returns (by simp) (hb hby at_336) hr
     ·show Q_law Z j_ f_ m_ n_ sa5_ sa9_ sa13_ sa17_ h0 n0 _ T310.heap _
      rw [K312]
      exact ⟨rfl, N311, kp306⟩
   ·have c313 : Kt p e below T156 st0 (mkF m 161 #[vj j_, .second, vi f_, vi m_, vi n_, vi qa, vi qb, vj op, .second, vr b5, vr b33, vr b67, vi 0, vi 1, vi 0, vi 1, u_] []) := fun t k => by
     refine c219 t ?_
     show S_ p e below T156 m 151 #[vj j_, .second, vi f_, vi m_, vi n_, vi qa, vi qb, vj op, .second, vr b5, vr b33, vr b67, vi 0, vi 1, vi 0, u_, u_] [(.int (f_ &&& (32 : Int32)))] t
     refine XS.ifNo X156.here hx rfl (hb hby at_151) rfl ((if0 _ _).trans (feq hc220).1) ?_
     refine XS.iconst X156.here hx rfl (hb hby at_154) ?_
     refine yG X156.here hx rfl 155 159 rfl (hb hby at_155) ?_
     refine XS.istore X156.here hx rfl (hb hby at_159) rfl (l' := #[vj j_, .second, vi f_, vi m_, vi n_, vi qa, vi qb, vj op, .second, vr b5, vr b33, vr b67, vi 0, vi 1, vi 0, vi 1, u_]) rfl ?_
     exact k
    by_cases hc314 : (0 : Int32) < mv155
    ·have c315 : Kt p e below T156 st0 (mkF m 166 #[vj j_, .second, vi f_, vi m_, vi n_, vi qa, vi qb, vj op, .second, vr b5, vr b33, vr b67, vi 0, vi 1, vi 0, vi 1, u_] [(.int (f_ &&& (128 : Int32)))]) := fun t k => by
      refine c313 t ?_
      show S_ p e below T156 m 161 #[vj j_, .second, vi f_, vi m_, vi n_, vi qa, vi qb, vj op, .second, vr b5, vr b33, vr b67, vi 0, vi 1, vi 0, vi 1, u_] [] t
      refine XS.iloadN X156.here hx rfl (hb hby at_161) rfl ?_
      refine XS.sipush X156.here hx rfl (hb hby at_162) ?_
      refine XS.iand X156.here hx rfl (hb hby at_165) rfl ?_
      exact k
     obtain ⟨T341, h341, L341, X341, e341, o341, K341, kp341, N341, f342, f343, f344, f345, f346, c341⟩ : ∃ (T341 : State) (h341 : Heap) (L341 : List Loc), Stand p l e room_1 (s.setVm T72.vm) m #[(.long j_), (.int f_), (.int m_), (.int n_)] below meth c T341 L341 9 49 ∧ T341.heap = h341 ∧ Old Z n0 h341 ∧ Keep h156 h341 [b67, b13] ∧ Keep h0 h341 [] ∧ Fr n0 L341 ∧ Fld Z h341 b13 nm2 "head" nm1 (rr b67) ∧ Fld Z h341 b13 nm2 "tail" nm1 (rr b67) ∧ Fld Z h341 b67 nm0 "queue" nm4 (rr b5) ∧ Fld Z h341 b67 nm0 "previous" nm1 .null ∧ Fld Z h341 b67 nm0 "next" nm1 .null ∧ Kt p e below T341 st0 (mkF m 220 #[vj j_, .second, vi f_, vi m_, vi n_, vi qa, vi qb, vj op, .second, vr b5, vr b33, vr b67, vi 0, vi 1, vi 0, vi 1, u_] []) := by
      by_cases hc316 : (f_ &&& (128 : Int32)) = (0 : Int32)
      ·have c317 : Kt p e below T156 st0 (mkF m 205 #[vj j_, .second, vi f_, vi m_, vi n_, vi qa, vi qb, vj op, .second, vr b5, vr b33, vr b67, vi 0, vi 1, vi 0, vi 1, u_] [(rr b67), (rr b5)]) := fun t k => by
        refine c315 t ?_
        show S_ p e below T156 m 166 #[vj j_, .second, vi f_, vi m_, vi n_, vi qa, vi qb, vj op, .second, vr b5, vr b33, vr b67, vi 0, vi 1, vi 0, vi 1, u_] [(.int (f_ &&& (128 : Int32)))] t
        refine yI X156.here hx rfl 166 196 rfl (hb hby at_166) rfl ((if0 _ _).trans (teq hc316).1) ?_
        refine XS.iload X156.here hx rfl (hb hby at_196) rfl ?_
        refine XS.ifNo X156.here hx rfl (hb hby at_198) rfl rfl ?_
        refine XS.aload X156.here hx rfl (hb hby at_201) rfl rfl ?_
        refine XS.aload X156.here hx rfl (hb hby at_203) rfl rfl ?_
        exact k
       obtain ⟨_, T318, L318, X318, hQ318, c318⟩ := kvirt X156 hx hZ72 hown72 (w94 hw) (w95 hw) (w97 hw) (w96 hw) (w98 hw) (w4 hw) (rm_addSN l Z a0 hw [] b5 b67 b13 b14 sa17_ mv155 h156 n0 o156 f166 f189 f169 f170 f157 f159 f160 f161 f162 g67 ZE7_ ZF8_ f171 g29 f175 f176 hc314) e156 f166 c317 hml pd_pLcom_example_lexchange_lexchange_Order_rV [(rr b67)] [] 0 (hb hby at_205) rfl rfl rfl rfl rfl rfl
       obtain ⟨rfl, N319q, K320, p321, p322, p323, p324, p325⟩ := hQ318
       have N319 := Fr.app N156 N319q
       have o326 := o156.keep K320 (allS g67 (allS g29 all0))
       have kp327 := kp156.trans K320 (allS (Or.inr z70) (allS (Or.inr z28) all0))
       have c328 : Kt p e below T318 st0 (mkF m 220 #[vj j_, .second, vi f_, vi m_, vi n_, vi qa, vi qb, vj op, .second, vr b5, vr b33, vr b67, vi 0, vi 1, vi 0, vi 1, u_] []) := fun t k => by
        refine c318 t ?_
        show S_ p e below T318 m 208 #[vj j_, .second, vi f_, vi m_, vi n_, vi qa, vi qb, vj op, .second, vr b5, vr b33, vr b67, vi 0, vi 1, vi 0, vi 1, u_] [] t
        refine XS.iload X318.here hx rfl (hb hby at_208) rfl ?_
        refine yI X318.here hx rfl 210 220 rfl (hb hby at_210) rfl rfl ?_
        exact k
       have K348 : Keep h156 T318.heap [b67, b13] := ((Keep.refl _ _).trans K320 (allS (Or.inl (List.mem_of_getElem? (i := 0) rfl)) (allS (Or.inl (List.mem_of_getElem? (i := 1) rfl)) all0)))
       exact ⟨T318, _, _, X318.mono (by decide) (by decide), rfl, o326, K348, kp327, N319, p324, p325, p321, p322, p323, c328⟩
      ·have c329 : Kt p e below T156 st0 (mkF m 190 #[vj j_, .second, vi f_, vi m_, vi n_, vi qa, vi qb, vj op, .second, vr b5, vr b33, vr b67, vi 0, vi 1, vi 0, vi 1, u_] [(rr b67), (rr b5)]) := fun t k => by
        refine c315 t ?_
        show S_ p e below T156 m 166 #[vj j_, .second, vi f_, vi m_, vi n_, vi qa, vi qb, vj op, .second, vr b5, vr b33, vr b67, vi 0, vi 1, vi 0, vi 1, u_] [(.int (f_ &&& (128 : Int32)))] t
        refine XS.ifNo X156.here hx rfl (hb hby at_166) rfl ((if0 _ _).trans (feq hc316).1) ?_
        refine XS.iload X156.here hx rfl (hb hby at_169) rfl ?_
        refine yI X156.here hx rfl 171 181 rfl (hb hby at_171) rfl rfl ?_
        refine XS.iload X156.here hx rfl (hb hby at_181) rfl ?_
        refine XS.ifNo X156.here hx rfl (hb hby at_183) rfl rfl ?_
        refine XS.aload X156.here hx rfl (hb hby at_186) rfl rfl ?_
        refine XS.aload X156.here hx rfl (hb hby at_188) rfl rfl ?_
        exact k
       obtain ⟨_, T330, L330, X330, hQ330, c330⟩ := kvirt X156 hx hZ72 hown72 (w94 hw) (w95 hw) (w97 hw) (w96 hw) (w98 hw) (w4 hw) (rm_addSN l Z a0 hw [] b5 b67 b13 b14 sa17_ mv155 h156 n0 o156 f166 f189 f169 f170 f157 f159 f160 f161 f162 g67 ZE7_ ZF8_ f171 g29 f175 f176 hc314) e156 f166 c329 hml pd_pLcom_example_lexchange_lexchange_Order_rV [(rr b67)] [] 0 (hb hby at_190) rfl rfl rfl rfl rfl rfl
       obtain ⟨rfl, N331q, K332, p333, p334, p335, p336, p337⟩ := hQ330
       have N331 := Fr.app N156 N331q
       have o338 := o156.keep K332 (allS g67 (allS g29 all0))
       have kp339 := kp156.trans K332 (allS (Or.inr z70) (allS (Or.inr z28) all0))
       have c340 : Kt p e below T330 st0 (mkF m 220 #[vj j_, .second, vi f_, vi m_, vi n_, vi qa, vi qb, vj op, .second, vr b5, vr b33, vr b67, vi 0, vi 1, vi 0, vi 1, u_] []) := fun t k => by
        refine c330 t ?_
        show S_ p e below T330 m 193 #[vj j_, .second, vi f_, vi m_, vi n_, vi qa, vi qb, vj op, .second, vr b5, vr b33, vr b67, vi 0, vi 1, vi 0, vi 1, u_] [] t
        refine yG X330.here hx rfl 193 220 rfl (hb hby at_193) ?_
        exact k
       have K347 : Keep h156 T330.heap [b67, b13] := ((Keep.refl _ _).trans K332 (allS (Or.inl (List.mem_of_getElem? (i := 0) rfl)) (allS (Or.inl (List.mem_of_getElem? (i := 1) rfl)) all0)))
       exact ⟨T330, _, _, X330.mono (by decide) (by decide), rfl, o338, K347, kp339, N331, p336, p337, p333, p334, p335, c340⟩
     have c349 : Kt p e below T341 st0 (mkF m 224 #[vj j_, .second, vi f_, vi m_, vi n_, vi qa, vi qb, vj op, .second, vr b5, vr b33, vr b67, vi 0, vi 1, vi 0, vi 1, u_] [(.int (f_ &&& (64 : Int32)))]) := fun t k => by
      refine c341 t ?_
      show S_ p e below T341 m 220 #[vj j_, .second, vi f_, vi m_, vi n_, vi qa, vi qb, vj op, .second, vr b5, vr b33, vr b67, vi 0, vi 1, vi 0, vi 1, u_] [] t
      refine XS.iloadN X341.here hx rfl (hb hby at_220) rfl ?_
      refine XS.bipush X341.here hx rfl (hb hby at_221) ?_
      refine XS.iand X341.here hx rfl (hb hby at_223) rfl ?_
      exact k
     obtain ⟨T375, h375, L375, X375, e375, o375, K375, kp375, N375, f376, c375⟩ : ∃ (T375 : State) (h375 : Heap) (L375 : List Loc), Stand p l e room_1 (s.setVm T72.vm) m #[(.long j_), (.int f_), (.int m_), (.int n_)] below meth c T375 L375 9 49 ∧ T375.heap = h375 ∧ Old Z n0 h375 ∧ Keep h341 h375 [b67, b13] ∧ Keep h0 h375 [] ∧ Fr n0 L375 ∧ Fld Z h375 b13 nm2 "head" nm1 .null ∧ Kt p e below T375 st0 (mkF m 278 #[vj j_, .second, vi f_, vi m_, vi n_, vi qa, vi qb, vj op, .second, vr b5, vr b33, vr b67, vi 0, vi 1, vi 0, vi 1, u_] []) := by
      by_cases hc350 : (f_ &&& (64 : Int32)) = (0 : Int32)
      ·have c351 : Kt p e below T341 st0 (mkF m 263 #[vj j_, .second, vi f_, vi m_, vi n_, vi qa, vi qb, vj op, .second, vr b5, vr b33, vr b67, vi 0, vi 1, vi 0, vi 1, u_] [(rr b67), (rr b5)]) := fun t k => by
        refine c349 t ?_
        show S_ p e below T341 m 224 #[vj j_, .second, vi f_, vi m_, vi n_, vi qa, vi qb, vj op, .second, vr b5, vr b33, vr b67, vi 0, vi 1, vi 0, vi 1, u_] [(.int (f_ &&& (64 : Int32)))] t
        refine yI X341.here hx rfl 224 254 rfl (hb hby at_224) rfl ((if0 _ _).trans (teq hc350).1) ?_
        refine XS.iload X341.here hx rfl (hb hby at_254) rfl ?_
        refine XS.ifNo X341.here hx rfl (hb hby at_256) rfl rfl ?_
        refine XS.aload X341.here hx rfl (hb hby at_259) rfl rfl ?_
        refine XS.aload X341.here hx rfl (hb hby at_261) rfl rfl ?_
        exact k
       obtain ⟨_, T352, L352, X352, hQ352, c352⟩ := kvirt X341 hx hZ72 hown72 (w116 hw) (w117 hw) (w119 hw) (w118 hw) (w120 hw) (w4 hw) (rm_rmS1 l Z a0 hw [] b5 b67 b13 b14 h341 n0 o341 (f166.keep K341) (f189.keep K341) (f169.keep K341 (ninS q168 (ninS q190 nin0))) (f170.keep K341 (ninS q168 (ninS q190 nin0))) g67 (f171.keep K341) g29 f342 f343 f344 f345 f346) e341 (f166.keep K341) c351 hml pd_pLcom_example_lexchange_lexchange_Order_rV [(rr b67)] [] 0 (hb hby at_263) rfl rfl rfl rfl rfl rfl
       obtain ⟨rfl, N353q, K354, p355, p356, p357, p358, p359⟩ := hQ352
       have N353 := Fr.app N341 N353q
       have o360 := o341.keep K354 (allS g67 (allS g29 all0))
       have kp361 := kp341.trans K354 (allS (Or.inr z70) (allS (Or.inr z28) all0))
       have c362 : Kt p e below T352 st0 (mkF m 278 #[vj j_, .second, vi f_, vi m_, vi n_, vi qa, vi qb, vj op, .second, vr b5, vr b33, vr b67, vi 0, vi 1, vi 0, vi 1, u_] []) := fun t k => by
        refine c352 t ?_
        show S_ p e below T352 m 266 #[vj j_, .second, vi f_, vi m_, vi n_, vi qa, vi qb, vj op, .second, vr b5, vr b33, vr b67, vi 0, vi 1, vi 0, vi 1, u_] [] t
        refine XS.iload X352.here hx rfl (hb hby at_266) rfl ?_
        refine yI X352.here hx rfl 268 278 rfl (hb hby at_268) rfl rfl ?_
        exact k
       have K378 : Keep h341 T352.heap [b67, b13] := ((Keep.refl _ _).trans K354 (allS (Or.inl (List.mem_of_getElem? (i := 0) rfl)) (allS (Or.inl (List.mem_of_getElem? (i := 1) rfl)) all0)))
       exact ⟨T352, _, _, X352.mono (by decide) (by decide), rfl, o360, K378, kp361, N353, p358, c362⟩
      ·have c363 : Kt p e below T341 st0 (mkF m 248 #[vj j_, .second, vi f_, vi m_, vi n_, vi qa, vi qb, vj op, .second, vr b5, vr b33, vr b67, vi 0, vi 1, vi 0, vi 1, u_] [(rr b67), (rr b5)]) := fun t k => by
        refine c349 t ?_
        show S_ p e below T341 m 224 #[vj j_, .second, vi f_, vi m_, vi n_, vi qa, vi qb, vj op, .second, vr b5, vr b33, vr b67, vi 0, vi 1, vi 0, vi 1, u_] [(.int (f_ &&& (64 : Int32)))] t
        refine XS.ifNo X341.here hx rfl (hb hby at_224) rfl ((if0 _ _).trans (feq hc350).1) ?_
        refine XS.iload X341.here hx rfl (hb hby at_227) rfl ?_
        refine yI X341.here hx rfl 229 239 rfl (hb hby at_229) rfl rfl ?_
        refine XS.iload X341.here hx rfl (hb hby at_239) rfl ?_
        refine XS.ifNo X341.here hx rfl (hb hby at_241) rfl rfl ?_
        refine XS.aload X341.here hx rfl (hb hby at_244) rfl rfl ?_
        refine XS.aload X341.here hx rfl (hb hby at_246) rfl rfl ?_
        exact k
       obtain ⟨_, T364, L364, X364, hQ364, c364⟩ := kvirt X341 hx hZ72 hown72 (w116 hw) (w117 hw) (w119 hw) (w118 hw) (w120 hw) (w4 hw) (rm_rmS1 l Z a0 hw [] b5 b67 b13 b14 h341 n0 o341 (f166.keep K341) (f189.keep K341) (f169.keep K341 (ninS q168 (ninS q190 nin0))) (f170.keep K341 (ninS q168 (ninS q190 nin0))) g67 (f171.keep K341) g29 f342 f343 f344 f345 f346) e341 (f166.keep K341) c363 hml pd_pLcom_example_lexchange_lexchange_Order_rV [(rr b67)] [] 0 (hb hby at_248) rfl rfl rfl rfl rfl rfl
       obtain ⟨rfl, N365q, K366, p367, p368, p369, p370, p371⟩ := hQ364
       have N365 := Fr.app N341 N365q
       have o372 := o341.keep K366 (allS g67 (allS g29 all0))
       have kp373 := kp341.trans K366 (allS (Or.inr z70) (allS (Or.inr z28) all0))
       have c374 : Kt p e below T364 st0 (mkF m 278 #[vj j_, .second, vi f_, vi m_, vi n_, vi qa, vi qb, vj op, .second, vr b5, vr b33, vr b67, vi 0, vi 1, vi 0, vi 1, u_] []) := fun t k => by
        refine c364 t ?_
        show S_ p e below T364 m 251 #[vj j_, .second, vi f_, vi m_, vi n_, vi qa, vi qb, vj op, .second, vr b5, vr b33, vr b67, vi 0, vi 1, vi 0, vi 1, u_] [] t
        refine yG X364.here hx rfl 251 278 rfl (hb hby at_251) ?_
        exact k
       have K377 : Keep h341 T364.heap [b67, b13] := ((Keep.refl _ _).trans K366 (allS (Or.inl (List.mem_of_getElem? (i := 0) rfl)) (allS (Or.inl (List.mem_of_getElem? (i := 1) rfl)) all0)))
       exact ⟨T364, _, _, X364.mono (by decide) (by decide), rfl, o372, K377, kp373, N365, p370, c374⟩
     have c379 : Kt p e below T375 st0 (mkF m 315 #[vj j_, .second, vi f_, vi m_, vi n_, vi qa, vi qb, vj op, .second, vr b5, vr b33, vr b67, vi 0, vi 1, vi 0, vi 1, vi 0] [(rr b5)]) := fun t k => by
      refine c375 t ?_
      show S_ p e below T375 m 278 #[vj j_, .second, vi f_, vi m_, vi n_, vi qa, vi qb, vj op, .second, vr b5, vr b33, vr b67, vi 0, vi 1, vi 0, vi 1, u_] [] t
      refine XS.iconst X375.here hx rfl (hb hby at_278) ?_
      refine XS.istore X375.here hx rfl (hb hby at_279) rfl (l' := #[vj j_, .second, vi f_, vi m_, vi n_, vi qa, vi qb, vj op, .second, vr b5, vr b33, vr b67, vi 0, vi 1, vi 0, vi 1, vi 0]) rfl ?_
      refine XS.iload X375.here hx rfl (hb hby at_281) rfl ?_
      refine yI X375.here hx rfl 283 297 rfl (hb hby at_283) rfl rfl ?_
      refine XS.iload X375.here hx rfl (hb hby at_297) rfl ?_
      refine XS.ifNo X375.here hx rfl (hb hby at_299) rfl rfl ?_
      refine XS.iload X375.here hx rfl (hb hby at_302) rfl ?_
      refine yI X375.here hx rfl 304 313 rfl (hb hby at_304) rfl rfl ?_
      show S_ p e below T375 m 313 #[vj j_, .second, vi f_, vi m_, vi n_, vi qa, vi qb, vj op, .second, vr b5, vr b33, vr b67, vi 0, vi 1, vi 0, vi 1, vi 0] [] t
      refine XS.aload X375.here hx rfl (hb hby at_313) rfl rfl ?_
      exact k
     obtain ⟨_, T380, L380, X380, hQ380, c380⟩ := kvirt X375 hx hZ72 hown72 (w87 hw) (w88 hw) (w90 hw) (w89 hw) (w91 hw) (w4 hw) (rm_emE l Z a0 hw [] b5 b13 b14 h375 n0 o375 ((f166.keep K341).keep K375) ((f169.keep K341 (ninS q168 (ninS q190 nin0))).keep K375 (ninS q168 (ninS q190 nin0))) ((f170.keep K341 (ninS q168 (ninS q190 nin0))).keep K375 (ninS q168 (ninS q190 nin0))) f376 ((f179.keep K341 (ninS q178 (ninS p25.symm nin0))).keep K375 (ninS q178 (ninS p25.symm nin0)))) e375 ((f166.keep K341).keep K375) c379 hml pd_prZ [] [] 0 (hb hby at_315) rfl rfl rfl rfl rfl rfl
     obtain ⟨rfl, N381q, K382⟩ := hQ380
     have N381 := Fr.app N375 N381q
     obtain ⟨fs, hr, hrun, hended, hRW⟩ := X380.leaveW hS72 (by first | exact (Nat.le_trans hk72 (Nat.le_trans (Nat.le_trans (Nat.le_trans (Nat.le_trans K91.1 K123.1) K156.1) K341.1) K375.1)) | (rw [K382]; exact (Nat.le_trans hk72 (Nat.le_trans (Nat.le_trans (Nat.le_trans (Nat.le_trans K91.1 K123.1) K156.1) K341.1) K375.1)))) (v := some (ii 1)) (fun h => by rw [Bd.returns] at h; cases h)
     refine ⟨_, _, c380 _ ?_, hrun, hended, _, _, rfl, ?_, hRW.1, hRW.2.1, hRW.2.2.1, hRW.2.2.2.mono (by decide) (by decide)⟩
     ·show S_ p e below T380 m 318 #[vj j_, .second, vi f_, vi m_, vi n_, vi qa, vi qb, vj op, .second, vr b5, vr b33, vr b67, vi 0, vi 1, vi 0, vi 1, vi 0] [(ii 1)] _
      refine XS.iload X380.here hx rfl (hb hby at_318) rfl ?_
      refine XS.ifNo X380.here hx rfl (hb hby at_320) rfl rfl ?_
      refine XS.iconst X380.here hx rfl (hb hby at_323) ?_
      refine yG X380.here hx rfl 324 328 rfl (hb hby at_324) ?_
      refine XS.icmpNo X380.here hx rfl (hb hby at_328) rfl rfl ?_
      refine XS.iconst X380.here hx rfl (hb hby at_331) ?_
      refine yG X380.here hx rfl 332 336 rfl (hb hby at_332) ?_
      show S_ p e below T380 m 336 #[vj j_, .second, vi f_, vi m_, vi n_, vi qa, vi qb, vj op, .second, vr b5, vr b33, vr b67, vi 0, vi 1, vi 0, vi 1, vi 0] [(ii 1)] _
      exact retN X380 hx (t := .boolean) Bd.returns (by simp) (hb hby at_336) hr
     ·show Q_law Z j_ f_ m_ n_ sa5_ sa9_ sa13_ sa17_ h0 n0 _ T380.heap _
      rw [K382]
      exact ⟨rfl, N381, kp375⟩
    ·have c383 : Kt p e below T156 st0 (mkF m 166 #[vj j_, .second, vi f_, vi m_, vi n_, vi qa, vi qb, vj op, .second, vr b5, vr b33, vr b67, vi 0, vi 1, vi 0, vi 1, u_] [(.int (f_ &&& (128 : Int32)))]) := fun t k => by
      refine c313 t ?_
      show S_ p e below T156 m 161 #[vj j_, .second, vi f_, vi m_, vi n_, vi qa, vi qb, vj op, .second, vr b5, vr b33, vr b67, vi 0, vi 1, vi 0, vi 1, u_] [] t
      refine XS.iloadN X156.here hx rfl (hb hby at_161) rfl ?_
      refine XS.sipush X156.here hx rfl (hb hby at_162) ?_
      refine XS.iand X156.here hx rfl (hb hby at_165) rfl ?_
      exact k
     obtain ⟨T409, h409, L409, X409, e409, o409, K409, kp409, N409, f410, f411, f412, f413, f414, c409⟩ : ∃ (T409 : State) (h409 : Heap) (L409 : List Loc), Stand p l e room_1 (s.setVm T72.vm) m #[(.long j_), (.int f_), (.int m_), (.int n_)] below meth c T409 L409 9 49 ∧ T409.heap = h409 ∧ Old Z n0 h409 ∧ Keep h156 h409 [b67, b14] ∧ Keep h0 h409 [] ∧ Fr n0 L409 ∧ Fld Z h409 b14 nm2 "head" nm1 (rr b67) ∧ Fld Z h409 b14 nm2 "tail" nm1 (rr b67) ∧ Fld Z h409 b67 nm0 "queue" nm4 (rr b5) ∧ Fld Z h409 b67 nm0 "previous" nm1 .null ∧ Fld Z h409 b67 nm0 "next" nm1 .null ∧ Kt p e below T409 st0 (mkF m 220 #[vj j_, .second, vi f_, vi m_, vi n_, vi qa, vi qb, vj op, .second, vr b5, vr b33, vr b67, vi 0, vi 1, vi 0, vi 1, u_] []) := by
      by_cases hc384 : (f_ &&& (128 : Int32)) = (0 : Int32)
      ·have c385 : Kt p e below T156 st0 (mkF m 205 #[vj j_, .second, vi f_, vi m_, vi n_, vi qa, vi qb, vj op, .second, vr b5, vr b33, vr b67, vi 0, vi 1, vi 0, vi 1, u_] [(rr b67), (rr b5)]) := fun t k => by
        refine c383 t ?_
        show S_ p e below T156 m 166 #[vj j_, .second, vi f_, vi m_, vi n_, vi qa, vi qb, vj op, .second, vr b5, vr b33, vr b67, vi 0, vi 1, vi 0, vi 1, u_] [(.int (f_ &&& (128 : Int32)))] t
        refine yI X156.here hx rfl 166 196 rfl (hb hby at_166) rfl ((if0 _ _).trans (teq hc384).1) ?_
        refine XS.iload X156.here hx rfl (hb hby at_196) rfl ?_
        refine XS.ifNo X156.here hx rfl (hb hby at_198) rfl rfl ?_
        refine XS.aload X156.here hx rfl (hb hby at_201) rfl rfl ?_
        refine XS.aload X156.here hx rfl (hb hby at_203) rfl rfl ?_
        exact k
       obtain ⟨_, T386, L386, X386, hQ386, c386⟩ := kvirt X156 hx hZ72 hown72 (w94 hw) (w95 hw) (w97 hw) (w96 hw) (w98 hw) (w4 hw) (rm_addHN l Z a0 hw [] b5 b67 b13 b14 sa17_ mv155 h156 n0 o156 f166 f189 f169 f170 f157 f159 f160 f161 f162 g67 ZE7_ ZF8_ f172 g31 f179 f180 hc314) e156 f166 c385 hml pd_pLcom_example_lexchange_lexchange_Order_rV [(rr b67)] [] 0 (hb hby at_205) rfl rfl rfl rfl rfl rfl
       obtain ⟨rfl, N387q, K388, p389, p390, p391, p392, p393⟩ := hQ386
       have N387 := Fr.app N156 N387q
       have o394 := o156.keep K388 (allS g67 (allS g31 all0))
       have kp395 := kp156.trans K388 (allS (Or.inr z70) (allS (Or.inr z30) all0))
       have c396 : Kt p e below T386 st0 (mkF m 220 #[vj j_, .second, vi f_, vi m_, vi n_, vi qa, vi qb, vj op, .second, vr b5, vr b33, vr b67, vi 0, vi 1, vi 0, vi 1, u_] []) := fun t k => by
        refine c386 t ?_
        show S_ p e below T386 m 208 #[vj j_, .second, vi f_, vi m_, vi n_, vi qa, vi qb, vj op, .second, vr b5, vr b33, vr b67, vi 0, vi 1, vi 0, vi 1, u_] [] t
        refine XS.iload X386.here hx rfl (hb hby at_208) rfl ?_
        refine yI X386.here hx rfl 210 220 rfl (hb hby at_210) rfl rfl ?_
        exact k
       have K416 : Keep h156 T386.heap [b67, b14] := ((Keep.refl _ _).trans K388 (allS (Or.inl (List.mem_of_getElem? (i := 0) rfl)) (allS (Or.inl (List.mem_of_getElem? (i := 1) rfl)) all0)))
       exact ⟨T386, _, _, X386.mono (by decide) (by decide), rfl, o394, K416, kp395, N387, p392, p393, p389, p390, p391, c396⟩
      ·have c397 : Kt p e below T156 st0 (mkF m 190 #[vj j_, .second, vi f_, vi m_, vi n_, vi qa, vi qb, vj op, .second, vr b5, vr b33, vr b67, vi 0, vi 1, vi 0, vi 1, u_] [(rr b67), (rr b5)]) := fun t k => by
        refine c383 t ?_
        show S_ p e below T156 m 166 #[vj j_, .second, vi f_, vi m_, vi n_, vi qa, vi qb, vj op, .second, vr b5, vr b33, vr b67, vi 0, vi 1, vi 0, vi 1, u_] [(.int (f_ &&& (128 : Int32)))] t
        refine XS.ifNo X156.here hx rfl (hb hby at_166) rfl ((if0 _ _).trans (feq hc384).1) ?_
        refine XS.iload X156.here hx rfl (hb hby at_169) rfl ?_
        refine yI X156.here hx rfl 171 181 rfl (hb hby at_171) rfl rfl ?_
        refine XS.iload X156.here hx rfl (hb hby at_181) rfl ?_
        refine XS.ifNo X156.here hx rfl (hb hby at_183) rfl rfl ?_
        refine XS.aload X156.here hx rfl (hb hby at_186) rfl rfl ?_
        refine XS.aload X156.here hx rfl (hb hby at_188) rfl rfl ?_
        exact k
       obtain ⟨_, T398, L398, X398, hQ398, c398⟩ := kvirt X156 hx hZ72 hown72 (w94 hw) (w95 hw) (w97 hw) (w96 hw) (w98 hw) (w4 hw) (rm_addHN l Z a0 hw [] b5 b67 b13 b14 sa17_ mv155 h156 n0 o156 f166 f189 f169 f170 f157 f159 f160 f161 f162 g67 ZE7_ ZF8_ f172 g31 f179 f180 hc314) e156 f166 c397 hml pd_pLcom_example_lexchange_lexchange_Order_rV [(rr b67)] [] 0 (hb hby at_190) rfl rfl rfl rfl rfl rfl
       obtain ⟨rfl, N399q, K400, p401, p402, p403, p404, p405⟩ := hQ398
       have N399 := Fr.app N156 N399q
       have o406 := o156.keep K400 (allS g67 (allS g31 all0))
       have kp407 := kp156.trans K400 (allS (Or.inr z70) (allS (Or.inr z30) all0))
       have c408 : Kt p e below T398 st0 (mkF m 220 #[vj j_, .second, vi f_, vi m_, vi n_, vi qa, vi qb, vj op, .second, vr b5, vr b33, vr b67, vi 0, vi 1, vi 0, vi 1, u_] []) := fun t k => by
        refine c398 t ?_
        show S_ p e below T398 m 193 #[vj j_, .second, vi f_, vi m_, vi n_, vi qa, vi qb, vj op, .second, vr b5, vr b33, vr b67, vi 0, vi 1, vi 0, vi 1, u_] [] t
        refine yG X398.here hx rfl 193 220 rfl (hb hby at_193) ?_
        exact k
       have K415 : Keep h156 T398.heap [b67, b14] := ((Keep.refl _ _).trans K400 (allS (Or.inl (List.mem_of_getElem? (i := 0) rfl)) (allS (Or.inl (List.mem_of_getElem? (i := 1) rfl)) all0)))
       exact ⟨T398, _, _, X398.mono (by decide) (by decide), rfl, o406, K415, kp407, N399, p404, p405, p401, p402, p403, c408⟩
     have c417 : Kt p e below T409 st0 (mkF m 224 #[vj j_, .second, vi f_, vi m_, vi n_, vi qa, vi qb, vj op, .second, vr b5, vr b33, vr b67, vi 0, vi 1, vi 0, vi 1, u_] [(.int (f_ &&& (64 : Int32)))]) := fun t k => by
      refine c409 t ?_
      show S_ p e below T409 m 220 #[vj j_, .second, vi f_, vi m_, vi n_, vi qa, vi qb, vj op, .second, vr b5, vr b33, vr b67, vi 0, vi 1, vi 0, vi 1, u_] [] t
      refine XS.iloadN X409.here hx rfl (hb hby at_220) rfl ?_
      refine XS.bipush X409.here hx rfl (hb hby at_221) ?_
      refine XS.iand X409.here hx rfl (hb hby at_223) rfl ?_
      exact k
     obtain ⟨T443, h443, L443, X443, e443, o443, K443, kp443, N443, f444, c443⟩ : ∃ (T443 : State) (h443 : Heap) (L443 : List Loc), Stand p l e room_1 (s.setVm T72.vm) m #[(.long j_), (.int f_), (.int m_), (.int n_)] below meth c T443 L443 9 49 ∧ T443.heap = h443 ∧ Old Z n0 h443 ∧ Keep h409 h443 [b67, b14] ∧ Keep h0 h443 [] ∧ Fr n0 L443 ∧ Fld Z h443 b14 nm2 "head" nm1 .null ∧ Kt p e below T443 st0 (mkF m 278 #[vj j_, .second, vi f_, vi m_, vi n_, vi qa, vi qb, vj op, .second, vr b5, vr b33, vr b67, vi 0, vi 1, vi 0, vi 1, u_] []) := by
      by_cases hc418 : (f_ &&& (64 : Int32)) = (0 : Int32)
      ·have c419 : Kt p e below T409 st0 (mkF m 263 #[vj j_, .second, vi f_, vi m_, vi n_, vi qa, vi qb, vj op, .second, vr b5, vr b33, vr b67, vi 0, vi 1, vi 0, vi 1, u_] [(rr b67), (rr b5)]) := fun t k => by
        refine c417 t ?_
        show S_ p e below T409 m 224 #[vj j_, .second, vi f_, vi m_, vi n_, vi qa, vi qb, vj op, .second, vr b5, vr b33, vr b67, vi 0, vi 1, vi 0, vi 1, u_] [(.int (f_ &&& (64 : Int32)))] t
        refine yI X409.here hx rfl 224 254 rfl (hb hby at_224) rfl ((if0 _ _).trans (teq hc418).1) ?_
        refine XS.iload X409.here hx rfl (hb hby at_254) rfl ?_
        refine XS.ifNo X409.here hx rfl (hb hby at_256) rfl rfl ?_
        refine XS.aload X409.here hx rfl (hb hby at_259) rfl rfl ?_
        refine XS.aload X409.here hx rfl (hb hby at_261) rfl rfl ?_
        exact k
       obtain ⟨_, T420, L420, X420, hQ420, c420⟩ := kvirt X409 hx hZ72 hown72 (w116 hw) (w117 hw) (w119 hw) (w118 hw) (w120 hw) (w4 hw) (rm_rmH1e l Z a0 hw [] b5 b67 b13 b14 h409 n0 o409 (f166.keep K409) (f189.keep K409) (f169.keep K409 (ninS q168 (ninS q191 nin0))) (f170.keep K409 (ninS q168 (ninS q191 nin0))) g67 (f172.keep K409) g31 f410 f411 (f171.keep K409) (f175.keep K409 (ninS q174 (ninS p25 nin0))) (f176.keep K409 (ninS q174 (ninS p25 nin0))) f412 f413 f414) e409 (f166.keep K409) c419 hml pd_pLcom_example_lexchange_lexchange_Order_rV [(rr b67)] [] 0 (hb hby at_263) rfl rfl rfl rfl rfl rfl
       obtain ⟨rfl, N421q, K422, p423, p424, p425, p426, p427⟩ := hQ420
       have N421 := Fr.app N409 N421q
       have o428 := o409.keep K422 (allS g67 (allS g31 all0))
       have kp429 := kp409.trans K422 (allS (Or.inr z70) (allS (Or.inr z30) all0))
       have c430 : Kt p e below T420 st0 (mkF m 278 #[vj j_, .second, vi f_, vi m_, vi n_, vi qa, vi qb, vj op, .second, vr b5, vr b33, vr b67, vi 0, vi 1, vi 0, vi 1, u_] []) := fun t k => by
        refine c420 t ?_
        show S_ p e below T420 m 266 #[vj j_, .second, vi f_, vi m_, vi n_, vi qa, vi qb, vj op, .second, vr b5, vr b33, vr b67, vi 0, vi 1, vi 0, vi 1, u_] [] t
        refine XS.iload X420.here hx rfl (hb hby at_266) rfl ?_
        refine yI X420.here hx rfl 268 278 rfl (hb hby at_268) rfl rfl ?_
        exact k
       have K446 : Keep h409 T420.heap [b67, b14] := ((Keep.refl _ _).trans K422 (allS (Or.inl (List.mem_of_getElem? (i := 0) rfl)) (allS (Or.inl (List.mem_of_getElem? (i := 1) rfl)) all0)))
       exact ⟨T420, _, _, X420.mono (by decide) (by decide), rfl, o428, K446, kp429, N421, p426, c430⟩
      ·have c431 : Kt p e below T409 st0 (mkF m 248 #[vj j_, .second, vi f_, vi m_, vi n_, vi qa, vi qb, vj op, .second, vr b5, vr b33, vr b67, vi 0, vi 1, vi 0, vi 1, u_] [(rr b67), (rr b5)]) := fun t k => by
        refine c417 t ?_
        show S_ p e below T409 m 224 #[vj j_, .second, vi f_, vi m_, vi n_, vi qa, vi qb, vj op, .second, vr b5, vr b33, vr b67, vi 0, vi 1, vi 0, vi 1, u_] [(.int (f_ &&& (64 : Int32)))] t
        refine XS.ifNo X409.here hx rfl (hb hby at_224) rfl ((if0 _ _).trans (feq hc418).1) ?_
        refine XS.iload X409.here hx rfl (hb hby at_227) rfl ?_
        refine yI X409.here hx rfl 229 239 rfl (hb hby at_229) rfl rfl ?_
        refine XS.iload X409.here hx rfl (hb hby at_239) rfl ?_
        refine XS.ifNo X409.here hx rfl (hb hby at_241) rfl rfl ?_
        refine XS.aload X409.here hx rfl (hb hby at_244) rfl rfl ?_
        refine XS.aload X409.here hx rfl (hb hby at_246) rfl rfl ?_
        exact k
       obtain ⟨_, T432, L432, X432, hQ432, c432⟩ := kvirt X409 hx hZ72 hown72 (w116 hw) (w117 hw) (w119 hw) (w118 hw) (w120 hw) (w4 hw) (rm_rmH1e l Z a0 hw [] b5 b67 b13 b14 h409 n0 o409 (f166.keep K409) (f189.keep K409) (f169.keep K409 (ninS q168 (ninS q191 nin0))) (f170.keep K409 (ninS q168 (ninS q191 nin0))) g67 (f172.keep K409) g31 f410 f411 (f171.keep K409) (f175.keep K409 (ninS q174 (ninS p25 nin0))) (f176.keep K409 (ninS q174 (ninS p25 nin0))) f412 f413 f414) e409 (f166.keep K409) c431 hml pd_pLcom_example_lexchange_lexchange_Order_rV [(rr b67)] [] 0 (hb hby at_248) rfl rfl rfl rfl rfl rfl
       obtain ⟨rfl, N433q, K434, p435, p436, p437, p438, p439⟩ := hQ432
       have N433 := Fr.app N409 N433q
       have o440 := o409.keep K434 (allS g67 (allS g31 all0))
       have kp441 := kp409.trans K434 (allS (Or.inr z70) (allS (Or.inr z30) all0))
       have c442 : Kt p e below T432 st0 (mkF m 278 #[vj j_, .second, vi f_, vi m_, vi n_, vi qa, vi qb, vj op, .second, vr b5, vr b33, vr b67, vi 0, vi 1, vi 0, vi 1, u_] []) := fun t k => by
        refine c432 t ?_
        show S_ p e below T432 m 251 #[vj j_, .second, vi f_, vi m_, vi n_, vi qa, vi qb, vj op, .second, vr b5, vr b33, vr b67, vi 0, vi 1, vi 0, vi 1, u_] [] t
        refine yG X432.here hx rfl 251 278 rfl (hb hby at_251) ?_
        exact k
       have K445 : Keep h409 T432.heap [b67, b14] := ((Keep.refl _ _).trans K434 (allS (Or.inl (List.mem_of_getElem? (i := 0) rfl)) (allS (Or.inl (List.mem_of_getElem? (i := 1) rfl)) all0)))
       exact ⟨T432, _, _, X432.mono (by decide) (by decide), rfl, o440, K445, kp441, N433, p438, c442⟩
     have c447 : Kt p e below T443 st0 (mkF m 315 #[vj j_, .second, vi f_, vi m_, vi n_, vi qa, vi qb, vj op, .second, vr b5, vr b33, vr b67, vi 0, vi 1, vi 0, vi 1, vi 0] [(rr b5)]) := fun t k => by
      refine c443 t ?_
      show S_ p e below T443 m 278 #[vj j_, .second, vi f_, vi m_, vi n_, vi qa, vi qb, vj op, .second, vr b5, vr b33, vr b67, vi 0, vi 1, vi 0, vi 1, u_] [] t
      refine XS.iconst X443.here hx rfl (hb hby at_278) ?_
      refine XS.istore X443.here hx rfl (hb hby at_279) rfl (l' := #[vj j_, .second, vi f_, vi m_, vi n_, vi qa, vi qb, vj op, .second, vr b5, vr b33, vr b67, vi 0, vi 1, vi 0, vi 1, vi 0]) rfl ?_
      refine XS.iload X443.here hx rfl (hb hby at_281) rfl ?_
      refine yI X443.here hx rfl 283 297 rfl (hb hby at_283) rfl rfl ?_
      refine XS.iload X443.here hx rfl (hb hby at_297) rfl ?_
      refine XS.ifNo X443.here hx rfl (hb hby at_299) rfl rfl ?_
      refine XS.iload X443.here hx rfl (hb hby at_302) rfl ?_
      refine yI X443.here hx rfl 304 313 rfl (hb hby at_304) rfl rfl ?_
      show S_ p e below T443 m 313 #[vj j_, .second, vi f_, vi m_, vi n_, vi qa, vi qb, vj op, .second, vr b5, vr b33, vr b67, vi 0, vi 1, vi 0, vi 1, vi 0] [] t
      refine XS.aload X443.here hx rfl (hb hby at_313) rfl rfl ?_
      exact k
     obtain ⟨_, T448, L448, X448, hQ448, c448⟩ := kvirt X443 hx hZ72 hown72 (w87 hw) (w88 hw) (w90 hw) (w89 hw) (w91 hw) (w4 hw) (rm_emE l Z a0 hw [] b5 b13 b14 h443 n0 o443 ((f166.keep K409).keep K443) ((f169.keep K409 (ninS q168 (ninS q191 nin0))).keep K443 (ninS q168 (ninS q191 nin0))) ((f170.keep K409 (ninS q168 (ninS q191 nin0))).keep K443 (ninS q168 (ninS q191 nin0))) ((f175.keep K409 (ninS q174 (ninS p25 nin0))).keep K443 (ninS q174 (ninS p25 nin0))) f444) e443 ((f166.keep K409).keep K443) c447 hml pd_prZ [] [] 0 (hb hby at_315) rfl rfl rfl rfl rfl rfl
     obtain ⟨rfl, N449q, K450⟩ := hQ448
     have N449 := Fr.app N443 N449q
     obtain ⟨fs, hr, hrun, hended, hRW⟩ := X448.leaveW hS72 (by first | exact (Nat.le_trans hk72 (Nat.le_trans (Nat.le_trans (Nat.le_trans (Nat.le_trans K91.1 K123.1) K156.1) K409.1) K443.1)) | (rw [K450]; exact (Nat.le_trans hk72 (Nat.le_trans (Nat.le_trans (Nat.le_trans (Nat.le_trans K91.1 K123.1) K156.1) K409.1) K443.1)))) (v := some (ii 1)) (fun h => by rw [Bd.returns] at h; cases h)
     refine ⟨_, _, c448 _ ?_, hrun, hended, _, _, rfl, ?_, hRW.1, hRW.2.1, hRW.2.2.1, hRW.2.2.2.mono (by decide) (by decide)⟩
     ·show S_ p e below T448 m 318 #[vj j_, .second, vi f_, vi m_, vi n_, vi qa, vi qb, vj op, .second, vr b5, vr b33, vr b67, vi 0, vi 1, vi 0, vi 1, vi 0] [(ii 1)] _
      refine XS.iload X448.here hx rfl (hb hby at_318) rfl ?_
      refine XS.ifNo X448.here hx rfl (hb hby at_320) rfl rfl ?_
      refine XS.iconst X448.here hx rfl (hb hby at_323) ?_
      refine yG X448.here hx rfl 324 328 rfl (hb hby at_324) ?_
      refine XS.icmpNo X448.here hx rfl (hb hby at_328) rfl rfl ?_
      refine XS.iconst X448.here hx rfl (hb hby at_331) ?_
      refine yG X448.here hx rfl 332 336 rfl (hb hby at_332) ?_
      show S_ p e below T448 m 336 #[vj j_, .second, vi f_, vi m_, vi n_, vi qa, vi qb, vj op, .second, vr b5, vr b33, vr b67, vi 0, vi 1, vi 0, vi 1, vi 0] [(ii 1)] _
      exact retN X448 hx (t := .boolean) Bd.returns (by simp) (hb hby at_336) hr
     ·show Q_law Z j_ f_ m_ n_ sa5_ sa9_ sa13_ sa17_ h0 n0 _ T448.heap _
      rw [K450]
      exact ⟨rfl, N449, kp443⟩
 ·have c451 : Kt p e below T156 st0 (mkF m 113 #[vj j_, .second, vi f_, vi m_, vi n_, vi qa, vi qb, vj op, .second, vr b5, vr b33, vr b67, vi 1, u_, u_, u_, u_] [(.int (f_ &&& (8 : Int32)))]) := fun t k => by
   refine c197 t ?_
   show S_ p e below T156 m 99 #[vj j_, .second, vi f_, vi m_, vi n_, vi qa, vi qb, vj op, .second, vr b5, vr b33, vr b67, u_, u_, u_, u_, u_] [(.int (f_ &&& (4 : Int32)))] t
   refine XS.ifNo X156.here hx rfl (hb hby at_99) rfl ((if0 _ _).trans (feq hc198).1) ?_
   refine XS.iconst X156.here hx rfl (hb hby at_102) ?_
   refine yG X156.here hx rfl 103 107 rfl (hb hby at_103) ?_
   refine XS.istore X156.here hx rfl (hb hby at_107) rfl (l' := #[vj j_, .second, vi f_, vi m_, vi n_, vi qa, vi qb, vj op, .second, vr b5, vr b33, vr b67, vi 1, u_, u_, u_, u_]) rfl ?_
   refine XS.iloadN X156.here hx rfl (hb hby at_109) rfl ?_
   refine XS.bipush X156.here hx rfl (hb hby at_110) ?_
   refine XS.iand X156.here hx rfl (hb hby at_112) rfl ?_
   exact k
  by_cases hc452 : (f_ &&& (8 : Int32)) = (0 : Int32)
  ·have c453 : Kt p e below T156 st0 (mkF m 132 #[vj j_, .second, vi f_, vi m_, vi n_, vi qa, vi qb, vj op, .second, vr b5, vr b33, vr b67, vi 1, vi 0, u_, u_, u_] [(.int (f_ &&& (16 : Int32)))]) := fun t k => by
    refine c451 t ?_
    show S_ p e below T156 m 113 #[vj j_, .second, vi f_, vi m_, vi n_, vi qa, vi qb, vj op, .second, vr b5, vr b33, vr b67, vi 1, u_, u_, u_, u_] [(.int (f_ &&& (8 : Int32)))] t
    refine yI X156.here hx rfl 113 120 rfl (hb hby at_113) rfl ((if0 _ _).trans (teq hc452).1) ?_
    refine XS.iconst X156.here hx rfl (hb hby at_120) ?_
    refine XS.istore X156.here hx rfl (hb hby at_121) rfl (l' := #[vj j_, .second, vi f_, vi m_, vi n_, vi qa, vi qb, vj op, .second, vr b5, vr b33, vr b67, vi 1, vi 0, u_, u_, u_]) rfl ?_
    refine XS.iload X156.here hx rfl (hb hby at_123) rfl ?_
    refine XS.ifNo X156.here hx rfl (hb hby at_125) rfl rfl ?_
    refine XS.iloadN X156.here hx rfl (hb hby at_128) rfl ?_
    refine XS.bipush X156.here hx rfl (hb hby at_129) ?_
    refine XS.iand X156.here hx rfl (hb hby at_131) rfl ?_
    exact k
   by_cases hc454 : (f_ &&& (16 : Int32)) = (0 : Int32)
   ·have c455 : Kt p e below T156 st0 (mkF m 161 #[vj j_, .second, vi f_, vi m_, vi n_, vi qa, vi qb, vj op, .second, vr b5, vr b33, vr b67, vi 1, vi 0, vi 0, vi 0, u_] []) := fun t k => by
     refine c453 t ?_
     show S_ p e below T156 m 132 #[vj j_, .second, vi f_, vi m_, vi n_, vi qa, vi qb, vj op, .second, vr b5, vr b33, vr b67, vi 1, vi 0, u_, u_, u_] [(.int (f_ &&& (16 : Int32)))] t
     refine yI X156.here hx rfl 132 139 rfl (hb hby at_132) rfl ((if0 _ _).trans (teq hc454).1) ?_
     refine XS.iconst X156.here hx rfl (hb hby at_139) ?_
     refine XS.istore X156.here hx rfl (hb hby at_140) rfl (l' := #[vj j_, .second, vi f_, vi m_, vi n_, vi qa, vi qb, vj op, .second, vr b5, vr b33, vr b67, vi 1, vi 0, vi 0, u_, u_]) rfl ?_
     refine XS.iload X156.here hx rfl (hb hby at_142) rfl ?_
     refine yI X156.here hx rfl 144 158 rfl (hb hby at_144) rfl rfl ?_
     refine XS.iconst X156.here hx rfl (hb hby at_158) ?_
     refine XS.istore X156.here hx rfl (hb hby at_159) rfl (l' := #[vj j_, .second, vi f_, vi m_, vi n_, vi qa, vi qb, vj op, .second, vr b5, vr b33, vr b67, vi 1, vi 0, vi 0, vi 0, u_]) rfl ?_
     exact k
    by_cases hc456 : (0 : Int32) < mv122
    ·have c457 : Kt p e below T156 st0 (mkF m 166 #[vj j_, .second, vi f_, vi m_, vi n_, vi qa, vi qb, vj op, .second, vr b5, vr b33, vr b67, vi 1, vi 0, vi 0, vi 0, u_] [(.int (f_ &&& (128 : Int32)))]) := fun t k => by
      refine c455 t ?_
      show S_ p e below T156 m 161 #[vj j_, .second, vi f_, vi m_, vi n_, vi qa, vi qb, vj op, .second, vr b5, vr b33, vr b67, vi 1, vi 0, vi 0, vi 0, u_] [] t
      refine XS.iloadN X156.here hx rfl (hb hby at_161) rfl ?_
      refine XS.sipush X156.here hx rfl (hb hby at_162) ?_
      refine XS.iand X156.here hx rfl (hb hby at_165) rfl ?_
      exact k
     obtain ⟨T482, h482, L482, X482, e482, o482, K482, kp482, N482, f483, f484, f485, f486, f487, c482⟩ : ∃ (T482 : State) (h482 : Heap) (L482 : List Loc), Stand p l e room_1 (s.setVm T72.vm) m #[(.long j_), (.int f_), (.int m_), (.int n_)] below meth c T482 L482 9 49 ∧ T482.heap = h482 ∧ Old Z n0 h482 ∧ Keep h156 h482 [b33, b13] ∧ Keep h0 h482 [] ∧ Fr n0 L482 ∧ Fld Z h482 b13 nm2 "head" nm1 (rr b33) ∧ Fld Z h482 b13 nm2 "tail" nm1 (rr b33) ∧ Fld Z h482 b33 nm0 "queue" nm4 (rr b5) ∧ Fld Z h482 b33 nm0 "previous" nm1 .null ∧ Fld Z h482 b33 nm0 "next" nm1 .null ∧ Kt p e below T482 st0 (mkF m 220 #[vj j_, .second, vi f_, vi m_, vi n_, vi qa, vi qb, vj op, .second, vr b5, vr b33, vr b67, vi 1, vi 0, vi 0, vi 0, u_] []) := by
      by_cases hc458 : (f_ &&& (128 : Int32)) = (0 : Int32)
      ·have c459 : Kt p e below T156 st0 (mkF m 217 #[vj j_, .second, vi f_, vi m_, vi n_, vi qa, vi qb, vj op, .second, vr b5, vr b33, vr b67, vi 1, vi 0, vi 0, vi 0, u_] [(rr b33), (rr b5)]) := fun t k => by
        refine c457 t ?_
        show S_ p e below T156 m 166 #[vj j_, .second, vi f_, vi m_, vi n_, vi qa, vi qb, vj op, .second, vr b5, vr b33, vr b67, vi 1, vi 0, vi 0, vi 0, u_] [(.int (f_ &&& (128 : Int32)))] t
        refine yI X156.here hx rfl 166 196 rfl (hb hby at_166) rfl ((if0 _ _).trans (teq hc458).1) ?_
        refine XS.iload X156.here hx rfl (hb hby at_196) rfl ?_
        refine yI X156.here hx rfl 198 208 rfl (hb hby at_198) rfl rfl ?_
        refine XS.iload X156.here hx rfl (hb hby at_208) rfl ?_
        refine XS.ifNo X156.here hx rfl (hb hby at_210) rfl rfl ?_
        refine XS.aload X156.here hx rfl (hb hby at_213) rfl rfl ?_
        refine XS.aload X156.here hx rfl (hb hby at_215) rfl rfl ?_
        exact k
       obtain ⟨_, T460, L460, X460, hQ460, c460⟩ := kvirt X156 hx hZ72 hown72 (w94 hw) (w95 hw) (w97 hw) (w96 hw) (w98 hw) (w4 hw) (rm_addSN l Z a0 hw [] b5 b33 b13 b14 sa17_ mv122 h156 n0 o156 f166 f181 f169 f170 f183 f185 f186 f187 f188 g33 ZE7_ ZF8_ f171 g29 f175 f176 hc456) e156 f166 c459 hml pd_pLcom_example_lexchange_lexchange_Order_rV [(rr b33)] [] 0 (hb hby at_217) rfl rfl rfl rfl rfl rfl
       obtain ⟨rfl, N461q, K462, p463, p464, p465, p466, p467⟩ := hQ460
       have N461 := Fr.app N156 N461q
       have o468 := o156.keep K462 (allS g33 (allS g29 all0))
       have kp469 := kp156.trans K462 (allS (Or.inr z36) (allS (Or.inr z28) all0))
       have K489 : Keep h156 T460.heap [b33, b13] := ((Keep.refl _ _).trans K462 (allS (Or.inl (List.mem_of_getElem? (i := 0) rfl)) (allS (Or.inl (List.mem_of_getElem? (i := 1) rfl)) all0)))
       exact ⟨T460, _, _, X460.mono (by decide) (by decide), rfl, o468, K489, kp469, N461, p466, p467, p463, p464, p465, c460⟩
      ·have c470 : Kt p e below T156 st0 (mkF m 178 #[vj j_, .second, vi f_, vi m_, vi n_, vi qa, vi qb, vj op, .second, vr b5, vr b33, vr b67, vi 1, vi 0, vi 0, vi 0, u_] [(rr b33), (rr b5)]) := fun t k => by
        refine c457 t ?_
        show S_ p e below T156 m 166 #[vj j_, .second, vi f_, vi m_, vi n_, vi qa, vi qb, vj op, .second, vr b5, vr b33, vr b67, vi 1, vi 0, vi 0, vi 0, u_] [(.int (f_ &&& (128 : Int32)))] t
        refine XS.ifNo X156.here hx rfl (hb hby at_166) rfl ((if0 _ _).trans (feq hc458).1) ?_
        refine XS.iload X156.here hx rfl (hb hby at_169) rfl ?_
        refine XS.ifNo X156.here hx rfl (hb hby at_171) rfl rfl ?_
        refine XS.aload X156.here hx rfl (hb hby at_174) rfl rfl ?_
        refine XS.aload X156.here hx rfl (hb hby at_176) rfl rfl ?_
        exact k
       obtain ⟨_, T471, L471, X471, hQ471, c471⟩ := kvirt X156 hx hZ72 hown72 (w94 hw) (w95 hw) (w97 hw) (w96 hw) (w98 hw) (w4 hw) (rm_addSN l Z a0 hw [] b5 b33 b13 b14 sa17_ mv122 h156 n0 o156 f166 f181 f169 f170 f183 f185 f186 f187 f188 g33 ZE7_ ZF8_ f171 g29 f175 f176 hc456) e156 f166 c470 hml pd_pLcom_example_lexchange_lexchange_Order_rV [(rr b33)] [] 0 (hb hby at_178) rfl rfl rfl rfl rfl rfl
       obtain ⟨rfl, N472q, K473, p474, p475, p476, p477, p478⟩ := hQ471
       have N472 := Fr.app N156 N472q
       have o479 := o156.keep K473 (allS g33 (allS g29 all0))
       have kp480 := kp156.trans K473 (allS (Or.inr z36) (allS (Or.inr z28) all0))
       have c481 : Kt p e below T471 st0 (mkF m 220 #[vj j_, .second, vi f_, vi m_, vi n_, vi qa, vi qb, vj op, .second, vr b5, vr b33, vr b67, vi 1, vi 0, vi 0, vi 0, u_] []) := fun t k => by
        refine c471 t ?_
        show S_ p e below T471 m 181 #[vj j_, .second, vi f_, vi m_, vi n_, vi qa, vi qb, vj op, .second, vr b5, vr b33, vr b67, vi 1, vi 0, vi 0, vi 0, u_] [] t
        refine XS.iload X471.here hx rfl (hb hby at_181) rfl ?_
        refine yI X471.here hx rfl 183 220 rfl (hb hby at_183) rfl rfl ?_
        exact k
       have K488 : Keep h156 T471.heap [b33, b13] := ((Keep.refl _ _).trans K473 (allS (Or.inl (List.mem_of_getElem? (i := 0) rfl)) (allS (Or.inl (List.mem_of_getElem? (i := 1) rfl)) all0)))
       exact ⟨T471, _, _, X471.mono (by decide) (by decide), rfl, o479, K488, kp480, N472, p477, p478, p474, p475, p476, c481⟩
     have c490 : Kt p e below T482 st0 (mkF m 224 #[vj j_, .second, vi f_, vi m_, vi n_, vi qa, vi qb, vj op, .second, vr b5, vr b33, vr b67, vi 1, vi 0, vi 0, vi 0, u_] [(.int (f_ &&& (64 : Int32)))]) := fun t k => by
      refine c482 t ?_
      show S_ p e below T482 m 220 #[vj j_, .second, vi f_, vi m_, vi n_, vi qa, vi qb, vj op, .second, vr b5, vr b33, vr b67, vi 1, vi 0, vi 0, vi 0, u_] [] t
      refine XS.iloadN X482.here hx rfl (hb hby at_220) rfl ?_
      refine XS.bipush X482.here hx rfl (hb hby at_221) ?_
      refine XS.iand X482.here hx rfl (hb hby at_223) rfl ?_
      exact k
     obtain ⟨T494, h494, L494, X494, e494, o494, K494, kp494, N494, c494⟩ : ∃ (T494 : State) (h494 : Heap) (L494 : List Loc), Stand p l e room_1 (s.setVm T72.vm) m #[(.long j_), (.int f_), (.int m_), (.int n_)] below meth c T494 L494 9 49 ∧ T494.heap = h494 ∧ Old Z n0 h494 ∧ Keep h482 h494 [] ∧ Keep h0 h494 [] ∧ Fr n0 L494 ∧ Kt p e below T494 st0 (mkF m 278 #[vj j_, .second, vi f_, vi m_, vi n_, vi qa, vi qb, vj op, .second, vr b5, vr b33, vr b67, vi 1, vi 0, vi 0, vi 0, u_] []) := by
      by_cases hc491 : (f_ &&& (64 : Int32)) = (0 : Int32)
      ·have c492 : Kt p e below T482 st0 (mkF m 278 #[vj j_, .second, vi f_, vi m_, vi n_, vi qa, vi qb, vj op, .second, vr b5, vr b33, vr b67, vi 1, vi 0, vi 0, vi 0, u_] []) := fun t k => by
        refine c490 t ?_
        show S_ p e below T482 m 224 #[vj j_, .second, vi f_, vi m_, vi n_, vi qa, vi qb, vj op, .second, vr b5, vr b33, vr b67, vi 1, vi 0, vi 0, vi 0, u_] [(.int (f_ &&& (64 : Int32)))] t
        refine yI X482.here hx rfl 224 254 rfl (hb hby at_224) rfl ((if0 _ _).trans (teq hc491).1) ?_
        refine XS.iload X482.here hx rfl (hb hby at_254) rfl ?_
        refine yI X482.here hx rfl 256 266 rfl (hb hby at_256) rfl rfl ?_
        refine XS.iload X482.here hx rfl (hb hby at_266) rfl ?_
        refine yI X482.here hx rfl 268 278 rfl (hb hby at_268) rfl rfl ?_
        exact k
       have K496 : Keep h482 h482 [] := (Keep.refl _ _)
       exact ⟨T482, _, _, X482.mono (by decide) (by decide), e482, o482, K496, kp482, N482, c492⟩
      ·have c493 : Kt p e below T482 st0 (mkF m 278 #[vj j_, .second, vi f_, vi m_, vi n_, vi qa, vi qb, vj op, .second, vr b5, vr b33, vr b67, vi 1, vi 0, vi 0, vi 0, u_] []) := fun t k => by
        refine c490 t ?_
        show S_ p e below T482 m 224 #[vj j_, .second, vi f_, vi m_, vi n_, vi qa, vi qb, vj op, .second, vr b5, vr b33, vr b67, vi 1, vi 0, vi 0, vi 0, u_] [(.int (f_ &&& (64 : Int32)))] t
        refine XS.ifNo X482.here hx rfl (hb hby at_224) rfl ((if0 _ _).trans (feq hc491).1) ?_
        refine XS.iload X482.here hx rfl (hb hby at_227) rfl ?_
        refine yI X482.here hx rfl 229 239 rfl (hb hby at_229) rfl rfl ?_
        refine XS.iload X482.here hx rfl (hb hby at_239) rfl ?_
        refine yI X482.here hx rfl 241 278 rfl (hb hby at_241) rfl rfl ?_
        exact k
       have K495 : Keep h482 h482 [] := (Keep.refl _ _)
       exact ⟨T482, _, _, X482.mono (by decide) (by decide), e482, o482, K495, kp482, N482, c493⟩
     have c497 : Kt p e below T494 st0 (mkF m 315 #[vj j_, .second, vi f_, vi m_, vi n_, vi qa, vi qb, vj op, .second, vr b5, vr b33, vr b67, vi 1, vi 0, vi 0, vi 0, vi 1] [(rr b5)]) := fun t k => by
      refine c494 t ?_
      show S_ p e below T494 m 278 #[vj j_, .second, vi f_, vi m_, vi n_, vi qa, vi qb, vj op, .second, vr b5, vr b33, vr b67, vi 1, vi 0, vi 0, vi 0, u_] [] t
      refine XS.iconst X494.here hx rfl (hb hby at_278) ?_
      refine XS.istore X494.here hx rfl (hb hby at_279) rfl (l' := #[vj j_, .second, vi f_, vi m_, vi n_, vi qa, vi qb, vj op, .second, vr b5, vr b33, vr b67, vi 1, vi 0, vi 0, vi 0, vi 0]) rfl ?_
      refine XS.iload X494.here hx rfl (hb hby at_281) rfl ?_
      refine XS.ifNo X494.here hx rfl (hb hby at_283) rfl rfl ?_
      refine XS.iload X494.here hx rfl (hb hby at_286) rfl ?_
      refine XS.ifNo X494.here hx rfl (hb hby at_288) rfl rfl ?_
      refine XS.iload X494.here hx rfl (hb hby at_291) rfl ?_
      refine XS.iconst X494.here hx rfl (hb hby at_293) ?_
      show S_ p e below T494 m 294 #[vj j_, .second, vi f_, vi m_, vi n_, vi qa, vi qb, vj op, .second, vr b5, vr b33, vr b67, vi 1, vi 0, vi 0, vi 0, vi 0] [(ii 1), (ii 0)] t
      refine XS.iadd X494.here hx rfl (hb hby at_294) rfl ?_
      refine XS.istore X494.here hx rfl (hb hby at_295) rfl (l' := #[vj j_, .second, vi f_, vi m_, vi n_, vi qa, vi qb, vj op, .second, vr b5, vr b33, vr b67, vi 1, vi 0, vi 0, vi 0, vi 1]) rfl ?_
      refine XS.iload X494.here hx rfl (hb hby at_297) rfl ?_
      refine yI X494.here hx rfl 299 313 rfl (hb hby at_299) rfl rfl ?_
      refine XS.aload X494.here hx rfl (hb hby at_313) rfl rfl ?_
      exact k
     obtain ⟨_, T498, L498, X498, hQ498, c498⟩ := kvirt X494 hx hZ72 hown72 (w87 hw) (w88 hw) (w90 hw) (w89 hw) (w91 hw) (w4 hw) (rm_emS l Z a0 hw [] b5 b13 b14 b33 h494 n0 o494 ((f166.keep K482).keep K494) ((f169.keep K482 (ninS q167 (ninS q190 nin0))).keep K494 nin0) ((f170.keep K482 (ninS q167 (ninS q190 nin0))).keep K494 nin0) (f483.keep K494 nin0)) e494 ((f166.keep K482).keep K494) c497 hml pd_prZ [] [] 0 (hb hby at_315) rfl rfl rfl rfl rfl rfl
     obtain ⟨rfl, N499q, K500⟩ := hQ498
     have N499 := Fr.app N494 N499q
     obtain ⟨fs, hr, hrun, hended, hRW⟩ := X498.leaveW hS72 (by first | exact (Nat.le_trans hk72 (Nat.le_trans (Nat.le_trans (Nat.le_trans (Nat.le_trans K91.1 K123.1) K156.1) K482.1) K494.1)) | (rw [K500]; exact (Nat.le_trans hk72 (Nat.le_trans (Nat.le_trans (Nat.le_trans (Nat.le_trans K91.1 K123.1) K156.1) K482.1) K494.1)))) (v := some (ii 1)) (fun h => by rw [Bd.returns] at h; cases h)
     refine ⟨_, _, c498 _ ?_, hrun, hended, _, _, rfl, ?_, hRW.1, hRW.2.1, hRW.2.2.1, hRW.2.2.2.mono (by decide) (by decide)⟩
     ·show S_ p e below T498 m 318 #[vj j_, .second, vi f_, vi m_, vi n_, vi qa, vi qb, vj op, .second, vr b5, vr b33, vr b67, vi 1, vi 0, vi 0, vi 0, vi 1] [(ii 0)] _
      refine XS.iload X498.here hx rfl (hb hby at_318) rfl ?_
      refine yI X498.here hx rfl 320 327 rfl (hb hby at_320) rfl rfl ?_
      refine XS.iconst X498.here hx rfl (hb hby at_327) ?_
      refine XS.icmpNo X498.here hx rfl (hb hby at_328) rfl rfl ?_
      refine XS.iconst X498.here hx rfl (hb hby at_331) ?_
      refine yG X498.here hx rfl 332 336 rfl (hb hby at_332) ?_
      show S_ p e below T498 m 336 #[vj j_, .second, vi f_, vi m_, vi n_, vi qa, vi qb, vj op, .second, vr b5, vr b33, vr b67, vi 1, vi 0, vi 0, vi 0, vi 1] [(ii 1)] _
      exact retN X498 hx (t := .boolean) Bd.returns (by simp) (hb hby at_336) hr
     ·show Q_law Z j_ f_ m_ n_ sa5_ sa9_ sa13_ sa17_ h0 n0 _ T498.heap _
      rw [K500]
      exact ⟨rfl, N499, kp494⟩
    ·have c501 : Kt p e below T156 st0 (mkF m 166 #[vj j_, .second, vi f_, vi m_, vi n_, vi qa, vi qb, vj op, .second, vr b5, vr b33, vr b67, vi 1, vi 0, vi 0, vi 0, u_] [(.int (f_ &&& (128 : Int32)))]) := fun t k => by
      refine c455 t ?_
      show S_ p e below T156 m 161 #[vj j_, .second, vi f_, vi m_, vi n_, vi qa, vi qb, vj op, .second, vr b5, vr b33, vr b67, vi 1, vi 0, vi 0, vi 0, u_] [] t
      refine XS.iloadN X156.here hx rfl (hb hby at_161) rfl ?_
      refine XS.sipush X156.here hx rfl (hb hby at_162) ?_
      refine XS.iand X156.here hx rfl (hb hby at_165) rfl ?_
      exact k
     obtain ⟨T526, h526, L526, X526, e526, o526, K526, kp526, N526, f527, f528, f529, f530, f531, c526⟩ : ∃ (T526 : State) (h526 : Heap) (L526 : List Loc), Stand p l e room_1 (s.setVm T72.vm) m #[(.long j_), (.int f_), (.int m_), (.int n_)] below meth c T526 L526 9 49 ∧ T526.heap = h526 ∧ Old Z n0 h526 ∧ Keep h156 h526 [b33, b14] ∧ Keep h0 h526 [] ∧ Fr n0 L526 ∧ Fld Z h526 b14 nm2 "head" nm1 (rr b33) ∧ Fld Z h526 b14 nm2 "tail" nm1 (rr b33) ∧ Fld Z h526 b33 nm0 "queue" nm4 (rr b5) ∧ Fld Z h526 b33 nm0 "previous" nm1 .null ∧ Fld Z h526 b33 nm0 "next" nm1 .null ∧ Kt p e below T526 st0 (mkF m 220 #[vj j_, .second, vi f_, vi m_, vi n_, vi qa, vi qb, vj op, .second, vr b5, vr b33, vr b67, vi 1, vi 0, vi 0, vi 0, u_] []) := by
      by_cases hc502 : (f_ &&& (128 : Int32)) = (0 : Int32)
      ·have c503 : Kt p e below T156 st0 (mkF m 217 #[vj j_, .second, vi f_, vi m_, vi n_, vi qa, vi qb, vj op, .second, vr b5, vr b33, vr b67, vi 1, vi 0, vi 0, vi 0, u_] [(rr b33), (rr b5)]) := fun t k => by
        refine c501 t ?_
        show S_ p e below T156 m 166 #[vj j_, .second, vi f_, vi m_, vi n_, vi qa, vi qb, vj op, .second, vr b5, vr b33, vr b67, vi 1, vi 0, vi 0, vi 0, u_] [(.int (f_ &&& (128 : Int32)))] t
        refine yI X156.here hx rfl 166 196 rfl (hb hby at_166) rfl ((if0 _ _).trans (teq hc502).1) ?_
        refine XS.iload X156.here hx rfl (hb hby at_196) rfl ?_
        refine yI X156.here hx rfl 198 208 rfl (hb hby at_198) rfl rfl ?_
        refine XS.iload X156.here hx rfl (hb hby at_208) rfl ?_
        refine XS.ifNo X156.here hx rfl (hb hby at_210) rfl rfl ?_
        refine XS.aload X156.here hx rfl (hb hby at_213) rfl rfl ?_
        refine XS.aload X156.here hx rfl (hb hby at_215) rfl rfl ?_
        exact k
       obtain ⟨_, T504, L504, X504, hQ504, c504⟩ := kvirt X156 hx hZ72 hown72 (w94 hw) (w95 hw) (w97 hw) (w96 hw) (w98 hw) (w4 hw) (rm_addHN l Z a0 hw [] b5 b33 b13 b14 sa17_ mv122 h156 n0 o156 f166 f181 f169 f170 f183 f185 f186 f187 f188 g33 ZE7_ ZF8_ f172 g31 f179 f180 hc456) e156 f166 c503 hml pd_pLcom_example_lexchange_lexchange_Order_rV [(rr b33)] [] 0 (hb hby at_217) rfl rfl rfl rfl rfl rfl
       obtain ⟨rfl, N505q, K506, p507, p508, p509, p510, p511⟩ := hQ504
       have N505 := Fr.app N156 N505q
       have o512 := o156.keep K506 (allS g33 (allS g31 all0))
       have kp513 := kp156.trans K506 (allS (Or.inr z36) (allS (Or.inr z30) all0))
       have K533 : Keep h156 T504.heap [b33, b14] := ((Keep.refl _ _).trans K506 (allS (Or.inl (List.mem_of_getElem? (i := 0) rfl)) (allS (Or.inl (List.mem_of_getElem? (i := 1) rfl)) all0)))
       exact ⟨T504, _, _, X504.mono (by decide) (by decide), rfl, o512, K533, kp513, N505, p510, p511, p507, p508, p509, c504⟩
      ·have c514 : Kt p e below T156 st0 (mkF m 178 #[vj j_, .second, vi f_, vi m_, vi n_, vi qa, vi qb, vj op, .second, vr b5, vr b33, vr b67, vi 1, vi 0, vi 0, vi 0, u_] [(rr b33), (rr b5)]) := fun t k => by
        refine c501 t ?_
        show S_ p e below T156 m 166 #[vj j_, .second, vi f_, vi m_, vi n_, vi qa, vi qb, vj op, .second, vr b5, vr b33, vr b67, vi 1, vi 0, vi 0, vi 0, u_] [(.int (f_ &&& (128 : Int32)))] t
        refine XS.ifNo X156.here hx rfl (hb hby at_166) rfl ((if0 _ _).trans (feq hc502).1) ?_
        refine XS.iload X156.here hx rfl (hb hby at_169) rfl ?_
        refine XS.ifNo X156.here hx rfl (hb hby at_171) rfl rfl ?_
        refine XS.aload X156.here hx rfl (hb hby at_174) rfl rfl ?_
        refine XS.aload X156.here hx rfl (hb hby at_176) rfl rfl ?_
        exact k
       obtain ⟨_, T515, L515, X515, hQ515, c515⟩ := kvirt X156 hx hZ72 hown72 (w94 hw) (w95 hw) (w97 hw) (w96 hw) (w98 hw) (w4 hw) (rm_addHN l Z a0 hw [] b5 b33 b13 b14 sa17_ mv122 h156 n0 o156 f166 f181 f169 f170 f183 f185 f186 f187 f188 g33 ZE7_ ZF8_ f172 g31 f179 f180 hc456) e156 f166 c514 hml pd_pLcom_example_lexchange_lexchange_Order_rV [(rr b33)] [] 0 (hb hby at_178) rfl rfl rfl rfl rfl rfl
       obtain ⟨rfl, N516q, K517, p518, p519, p520, p521, p522⟩ := hQ515
       have N516 := Fr.app N156 N516q
       have o523 := o156.keep K517 (allS g33 (allS g31 all0))
       have kp524 := kp156.trans K517 (allS (Or.inr z36) (allS (Or.inr z30) all0))
       have c525 : Kt p e below T515 st0 (mkF m 220 #[vj j_, .second, vi f_, vi m_, vi n_, vi qa, vi qb, vj op, .second, vr b5, vr b33, vr b67, vi 1, vi 0, vi 0, vi 0, u_] []) := fun t k => by
        refine c515 t ?_
        show S_ p e below T515 m 181 #[vj j_, .second, vi f_, vi m_, vi n_, vi qa, vi qb, vj op, .second, vr b5, vr b33, vr b67, vi 1, vi 0, vi 0, vi 0, u_] [] t
        refine XS.iload X515.here hx rfl (hb hby at_181) rfl ?_
        refine yI X515.here hx rfl 183 220 rfl (hb hby at_183) rfl rfl ?_
        exact k
       have K532 : Keep h156 T515.heap [b33, b14] := ((Keep.refl _ _).trans K517 (allS (Or.inl (List.mem_of_getElem? (i := 0) rfl)) (allS (Or.inl (List.mem_of_getElem? (i := 1) rfl)) all0)))
       exact ⟨T515, _, _, X515.mono (by decide) (by decide), rfl, o523, K532, kp524, N516, p521, p522, p518, p519, p520, c525⟩
     have c534 : Kt p e below T526 st0 (mkF m 224 #[vj j_, .second, vi f_, vi m_, vi n_, vi qa, vi qb, vj op, .second, vr b5, vr b33, vr b67, vi 1, vi 0, vi 0, vi 0, u_] [(.int (f_ &&& (64 : Int32)))]) := fun t k => by
      refine c526 t ?_
      show S_ p e below T526 m 220 #[vj j_, .second, vi f_, vi m_, vi n_, vi qa, vi qb, vj op, .second, vr b5, vr b33, vr b67, vi 1, vi 0, vi 0, vi 0, u_] [] t
      refine XS.iloadN X526.here hx rfl (hb hby at_220) rfl ?_
      refine XS.bipush X526.here hx rfl (hb hby at_221) ?_
      refine XS.iand X526.here hx rfl (hb hby at_223) rfl ?_
      exact k
     obtain ⟨T538, h538, L538, X538, e538, o538, K538, kp538, N538, c538⟩ : ∃ (T538 : State) (h538 : Heap) (L538 : List Loc), Stand p l e room_1 (s.setVm T72.vm) m #[(.long j_), (.int f_), (.int m_), (.int n_)] below meth c T538 L538 9 49 ∧ T538.heap = h538 ∧ Old Z n0 h538 ∧ Keep h526 h538 [] ∧ Keep h0 h538 [] ∧ Fr n0 L538 ∧ Kt p e below T538 st0 (mkF m 278 #[vj j_, .second, vi f_, vi m_, vi n_, vi qa, vi qb, vj op, .second, vr b5, vr b33, vr b67, vi 1, vi 0, vi 0, vi 0, u_] []) := by
      by_cases hc535 : (f_ &&& (64 : Int32)) = (0 : Int32)
      ·have c536 : Kt p e below T526 st0 (mkF m 278 #[vj j_, .second, vi f_, vi m_, vi n_, vi qa, vi qb, vj op, .second, vr b5, vr b33, vr b67, vi 1, vi 0, vi 0, vi 0, u_] []) := fun t k => by
        refine c534 t ?_
        show S_ p e below T526 m 224 #[vj j_, .second, vi f_, vi m_, vi n_, vi qa, vi qb, vj op, .second, vr b5, vr b33, vr b67, vi 1, vi 0, vi 0, vi 0, u_] [(.int (f_ &&& (64 : Int32)))] t
        refine yI X526.here hx rfl 224 254 rfl (hb hby at_224) rfl ((if0 _ _).trans (teq hc535).1) ?_
        refine XS.iload X526.here hx rfl (hb hby at_254) rfl ?_
        refine yI X526.here hx rfl 256 266 rfl (hb hby at_256) rfl rfl ?_
        refine XS.iload X526.here hx rfl (hb hby at_266) rfl ?_
        refine yI X526.here hx rfl 268 278 rfl (hb hby at_268) rfl rfl ?_
        exact k
       have K540 : Keep h526 h526 [] := (Keep.refl _ _)
       exact ⟨T526, _, _, X526.mono (by decide) (by decide), e526, o526, K540, kp526, N526, c536⟩
      ·have c537 : Kt p e below T526 st0 (mkF m 278 #[vj j_, .second, vi f_, vi m_, vi n_, vi qa, vi qb, vj op, .second, vr b5, vr b33, vr b67, vi 1, vi 0, vi 0, vi 0, u_] []) := fun t k => by
        refine c534 t ?_
        show S_ p e below T526 m 224 #[vj j_, .second, vi f_, vi m_, vi n_, vi qa, vi qb, vj op, .second, vr b5, vr b33, vr b67, vi 1, vi 0, vi 0, vi 0, u_] [(.int (f_ &&& (64 : Int32)))] t
        refine XS.ifNo X526.here hx rfl (hb hby at_224) rfl ((if0 _ _).trans (feq hc535).1) ?_
        refine XS.iload X526.here hx rfl (hb hby at_227) rfl ?_
        refine yI X526.here hx rfl 229 239 rfl (hb hby at_229) rfl rfl ?_
        refine XS.iload X526.here hx rfl (hb hby at_239) rfl ?_
        refine yI X526.here hx rfl 241 278 rfl (hb hby at_241) rfl rfl ?_
        exact k
       have K539 : Keep h526 h526 [] := (Keep.refl _ _)
       exact ⟨T526, _, _, X526.mono (by decide) (by decide), e526, o526, K539, kp526, N526, c537⟩
     have c541 : Kt p e below T538 st0 (mkF m 315 #[vj j_, .second, vi f_, vi m_, vi n_, vi qa, vi qb, vj op, .second, vr b5, vr b33, vr b67, vi 1, vi 0, vi 0, vi 0, vi 1] [(rr b5)]) := fun t k => by
      refine c538 t ?_
      show S_ p e below T538 m 278 #[vj j_, .second, vi f_, vi m_, vi n_, vi qa, vi qb, vj op, .second, vr b5, vr b33, vr b67, vi 1, vi 0, vi 0, vi 0, u_] [] t
      refine XS.iconst X538.here hx rfl (hb hby at_278) ?_
      refine XS.istore X538.here hx rfl (hb hby at_279) rfl (l' := #[vj j_, .second, vi f_, vi m_, vi n_, vi qa, vi qb, vj op, .second, vr b5, vr b33, vr b67, vi 1, vi 0, vi 0, vi 0, vi 0]) rfl ?_
      refine XS.iload X538.here hx rfl (hb hby at_281) rfl ?_
      refine XS.ifNo X538.here hx rfl (hb hby at_283) rfl rfl ?_
      refine XS.iload X538.here hx rfl (hb hby at_286) rfl ?_
      refine XS.ifNo X538.here hx rfl (hb hby at_288) rfl rfl ?_
      refine XS.iload X538.here hx rfl (hb hby at_291) rfl ?_
      refine XS.iconst X538.here hx rfl (hb hby at_293) ?_
      show S_ p e below T538 m 294 #[vj j_, .second, vi f_, vi m_, vi n_, vi qa, vi qb, vj op, .second, vr b5, vr b33, vr b67, vi 1, vi 0, vi 0, vi 0, vi 0] [(ii 1), (ii 0)] t
      refine XS.iadd X538.here hx rfl (hb hby at_294) rfl ?_
      refine XS.istore X538.here hx rfl (hb hby at_295) rfl (l' := #[vj j_, .second, vi f_, vi m_, vi n_, vi qa, vi qb, vj op, .second, vr b5, vr b33, vr b67, vi 1, vi 0, vi 0, vi 0, vi 1]) rfl ?_
      refine XS.iload X538.here hx rfl (hb hby at_297) rfl ?_
      refine yI X538.here hx rfl 299 313 rfl (hb hby at_299) rfl rfl ?_
      refine XS.aload X538.here hx rfl (hb hby at_313) rfl rfl ?_
      exact k
     obtain ⟨_, T542, L542, X542, hQ542, c542⟩ := kvirt X538 hx hZ72 hown72 (w87 hw) (w88 hw) (w90 hw) (w89 hw) (w91 hw) (w4 hw) (rm_emH l Z a0 hw [] b5 b13 b14 b33 h538 n0 o538 ((f166.keep K526).keep K538) ((f169.keep K526 (ninS q167 (ninS q191 nin0))).keep K538 nin0) ((f170.keep K526 (ninS q167 (ninS q191 nin0))).keep K538 nin0) ((f175.keep K526 (ninS q173 (ninS p25 nin0))).keep K538 nin0) (f527.keep K538 nin0)) e538 ((f166.keep K526).keep K538) c541 hml pd_prZ [] [] 0 (hb hby at_315) rfl rfl rfl rfl rfl rfl
     obtain ⟨rfl, N543q, K544⟩ := hQ542
     have N543 := Fr.app N538 N543q
     obtain ⟨fs, hr, hrun, hended, hRW⟩ := X542.leaveW hS72 (by first | exact (Nat.le_trans hk72 (Nat.le_trans (Nat.le_trans (Nat.le_trans (Nat.le_trans K91.1 K123.1) K156.1) K526.1) K538.1)) | (rw [K544]; exact (Nat.le_trans hk72 (Nat.le_trans (Nat.le_trans (Nat.le_trans (Nat.le_trans K91.1 K123.1) K156.1) K526.1) K538.1)))) (v := some (ii 1)) (fun h => by rw [Bd.returns] at h; cases h)
     refine ⟨_, _, c542 _ ?_, hrun, hended, _, _, rfl, ?_, hRW.1, hRW.2.1, hRW.2.2.1, hRW.2.2.2.mono (by decide) (by decide)⟩
     ·show S_ p e below T542 m 318 #[vj j_, .second, vi f_, vi m_, vi n_, vi qa, vi qb, vj op, .second, vr b5, vr b33, vr b67, vi 1, vi 0, vi 0, vi 0, vi 1] [(ii 0)] _
      refine XS.iload X542.here hx rfl (hb hby at_318) rfl ?_
      refine yI X542.here hx rfl 320 327 rfl (hb hby at_320) rfl rfl ?_
      refine XS.iconst X542.here hx rfl (hb hby at_327) ?_
      refine XS.icmpNo X542.here hx rfl (hb hby at_328) rfl rfl ?_
      refine XS.iconst X542.here hx rfl (hb hby at_331) ?_
      refine yG X542.here hx rfl 332 336 rfl (hb hby at_332) ?_
      show S_ p e below T542 m 336 #[vj j_, .second, vi f_, vi m_, vi n_, vi qa, vi qb, vj op, .second, vr b5, vr b33, vr b67, vi 1, vi 0, vi 0, vi 0, vi 1] [(ii 1)] _
      exact retN X542 hx (t := .boolean) Bd.returns (by simp) (hb hby at_336) hr
     ·show Q_law Z j_ f_ m_ n_ sa5_ sa9_ sa13_ sa17_ h0 n0 _ T542.heap _
      rw [K544]
      exact ⟨rfl, N543, kp538⟩
   ·have c545 : Kt p e below T156 st0 (mkF m 161 #[vj j_, .second, vi f_, vi m_, vi n_, vi qa, vi qb, vj op, .second, vr b5, vr b33, vr b67, vi 1, vi 0, vi 1, vi 0, u_] []) := fun t k => by
     refine c453 t ?_
     show S_ p e below T156 m 132 #[vj j_, .second, vi f_, vi m_, vi n_, vi qa, vi qb, vj op, .second, vr b5, vr b33, vr b67, vi 1, vi 0, u_, u_, u_] [(.int (f_ &&& (16 : Int32)))] t
     refine XS.ifNo X156.here hx rfl (hb hby at_132) rfl ((if0 _ _).trans (feq hc454).1) ?_
     refine XS.iconst X156.here hx rfl (hb hby at_135) ?_
     refine yG X156.here hx rfl 136 140 rfl (hb hby at_136) ?_
     refine XS.istore X156.here hx rfl (hb hby at_140) rfl (l' := #[vj j_, .second, vi f_, vi m_, vi n_, vi qa, vi qb, vj op, .second, vr b5, vr b33, vr b67, vi 1, vi 0, vi 1, u_, u_]) rfl ?_
     refine XS.iload X156.here hx rfl (hb hby at_142) rfl ?_
     refine yI X156.here hx rfl 144 158 rfl (hb hby at_144) rfl rfl ?_
     refine XS.iconst X156.here hx rfl (hb hby at_158) ?_
     refine XS.istore X156.here hx rfl (hb hby at_159) rfl (l' := #[vj j_, .second, vi f_, vi m_, vi n_, vi qa, vi qb, vj op, .second, vr b5, vr b33, vr b67, vi 1, vi 0, vi 1, vi 0, u_]) rfl ?_
     exact k
    by_cases hc546 : (0 : Int32) < mv122
    ·have c547 : Kt p e below T156 st0 (mkF m 166 #[vj j_, .second, vi f_, vi m_, vi n_, vi qa, vi qb, vj op, .second, vr b5, vr b33, vr b67, vi 1, vi 0, vi 1, vi 0, u_] [(.int (f_ &&& (128 : Int32)))]) := fun t k => by
      refine c545 t ?_
      show S_ p e below T156 m 161 #[vj j_, .second, vi f_, vi m_, vi n_, vi qa, vi qb, vj op, .second, vr b5, vr b33, vr b67, vi 1, vi 0, vi 1, vi 0, u_] [] t
      refine XS.iloadN X156.here hx rfl (hb hby at_161) rfl ?_
      refine XS.sipush X156.here hx rfl (hb hby at_162) ?_
      refine XS.iand X156.here hx rfl (hb hby at_165) rfl ?_
      exact k
     obtain ⟨T572, h572, L572, X572, e572, o572, K572, kp572, N572, f573, f574, f575, f576, f577, c572⟩ : ∃ (T572 : State) (h572 : Heap) (L572 : List Loc), Stand p l e room_1 (s.setVm T72.vm) m #[(.long j_), (.int f_), (.int m_), (.int n_)] below meth c T572 L572 9 49 ∧ T572.heap = h572 ∧ Old Z n0 h572 ∧ Keep h156 h572 [b33, b13] ∧ Keep h0 h572 [] ∧ Fr n0 L572 ∧ Fld Z h572 b13 nm2 "head" nm1 (rr b33) ∧ Fld Z h572 b13 nm2 "tail" nm1 (rr b33) ∧ Fld Z h572 b33 nm0 "queue" nm4 (rr b5) ∧ Fld Z h572 b33 nm0 "previous" nm1 .null ∧ Fld Z h572 b33 nm0 "next" nm1 .null ∧ Kt p e below T572 st0 (mkF m 220 #[vj j_, .second, vi f_, vi m_, vi n_, vi qa, vi qb, vj op, .second, vr b5, vr b33, vr b67, vi 1, vi 0, vi 1, vi 0, u_] []) := by
      by_cases hc548 : (f_ &&& (128 : Int32)) = (0 : Int32)
      ·have c549 : Kt p e below T156 st0 (mkF m 217 #[vj j_, .second, vi f_, vi m_, vi n_, vi qa, vi qb, vj op, .second, vr b5, vr b33, vr b67, vi 1, vi 0, vi 1, vi 0, u_] [(rr b33), (rr b5)]) := fun t k => by
        refine c547 t ?_
        show S_ p e below T156 m 166 #[vj j_, .second, vi f_, vi m_, vi n_, vi qa, vi qb, vj op, .second, vr b5, vr b33, vr b67, vi 1, vi 0, vi 1, vi 0, u_] [(.int (f_ &&& (128 : Int32)))] t
        refine yI X156.here hx rfl 166 196 rfl (hb hby at_166) rfl ((if0 _ _).trans (teq hc548).1) ?_
        refine XS.iload X156.here hx rfl (hb hby at_196) rfl ?_
        refine yI X156.here hx rfl 198 208 rfl (hb hby at_198) rfl rfl ?_
        refine XS.iload X156.here hx rfl (hb hby at_208) rfl ?_
        refine XS.ifNo X156.here hx rfl (hb hby at_210) rfl rfl ?_
        refine XS.aload X156.here hx rfl (hb hby at_213) rfl rfl ?_
        refine XS.aload X156.here hx rfl (hb hby at_215) rfl rfl ?_
        exact k
       obtain ⟨_, T550, L550, X550, hQ550, c550⟩ := kvirt X156 hx hZ72 hown72 (w94 hw) (w95 hw) (w97 hw) (w96 hw) (w98 hw) (w4 hw) (rm_addSN l Z a0 hw [] b5 b33 b13 b14 sa17_ mv122 h156 n0 o156 f166 f181 f169 f170 f183 f185 f186 f187 f188 g33 ZE7_ ZF8_ f171 g29 f175 f176 hc546) e156 f166 c549 hml pd_pLcom_example_lexchange_lexchange_Order_rV [(rr b33)] [] 0 (hb hby at_217) rfl rfl rfl rfl rfl rfl
       obtain ⟨rfl, N551q, K552, p553, p554, p555, p556, p557⟩ := hQ550
       have N551 := Fr.app N156 N551q
       have o558 := o156.keep K552 (allS g33 (allS g29 all0))
       have kp559 := kp156.trans K552 (allS (Or.inr z36) (allS (Or.inr z28) all0))
       have K579 : Keep h156 T550.heap [b33, b13] := ((Keep.refl _ _).trans K552 (allS (Or.inl (List.mem_of_getElem? (i := 0) rfl)) (allS (Or.inl (List.mem_of_getElem? (i := 1) rfl)) all0)))
       exact ⟨T550, _, _, X550.mono (by decide) (by decide), rfl, o558, K579, kp559, N551, p556, p557, p553, p554, p555, c550⟩
      ·have c560 : Kt p e below T156 st0 (mkF m 178 #[vj j_, .second, vi f_, vi m_, vi n_, vi qa, vi qb, vj op, .second, vr b5, vr b33, vr b67, vi 1, vi 0, vi 1, vi 0, u_] [(rr b33), (rr b5)]) := fun t k => by
        refine c547 t ?_
        show S_ p e below T156 m 166 #[vj j_, .second, vi f_, vi m_, vi n_, vi qa, vi qb, vj op, .second, vr b5, vr b33, vr b67, vi 1, vi 0, vi 1, vi 0, u_] [(.int (f_ &&& (128 : Int32)))] t
        refine XS.ifNo X156.here hx rfl (hb hby at_166) rfl ((if0 _ _).trans (feq hc548).1) ?_
        refine XS.iload X156.here hx rfl (hb hby at_169) rfl ?_
        refine XS.ifNo X156.here hx rfl (hb hby at_171) rfl rfl ?_
        refine XS.aload X156.here hx rfl (hb hby at_174) rfl rfl ?_
        refine XS.aload X156.here hx rfl (hb hby at_176) rfl rfl ?_
        exact k
       obtain ⟨_, T561, L561, X561, hQ561, c561⟩ := kvirt X156 hx hZ72 hown72 (w94 hw) (w95 hw) (w97 hw) (w96 hw) (w98 hw) (w4 hw) (rm_addSN l Z a0 hw [] b5 b33 b13 b14 sa17_ mv122 h156 n0 o156 f166 f181 f169 f170 f183 f185 f186 f187 f188 g33 ZE7_ ZF8_ f171 g29 f175 f176 hc546) e156 f166 c560 hml pd_pLcom_example_lexchange_lexchange_Order_rV [(rr b33)] [] 0 (hb hby at_178) rfl rfl rfl rfl rfl rfl
       obtain ⟨rfl, N562q, K563, p564, p565, p566, p567, p568⟩ := hQ561
       have N562 := Fr.app N156 N562q
       have o569 := o156.keep K563 (allS g33 (allS g29 all0))
       have kp570 := kp156.trans K563 (allS (Or.inr z36) (allS (Or.inr z28) all0))
       have c571 : Kt p e below T561 st0 (mkF m 220 #[vj j_, .second, vi f_, vi m_, vi n_, vi qa, vi qb, vj op, .second, vr b5, vr b33, vr b67, vi 1, vi 0, vi 1, vi 0, u_] []) := fun t k => by
        refine c561 t ?_
        show S_ p e below T561 m 181 #[vj j_, .second, vi f_, vi m_, vi n_, vi qa, vi qb, vj op, .second, vr b5, vr b33, vr b67, vi 1, vi 0, vi 1, vi 0, u_] [] t
        refine XS.iload X561.here hx rfl (hb hby at_181) rfl ?_
        refine yI X561.here hx rfl 183 220 rfl (hb hby at_183) rfl rfl ?_
        exact k
       have K578 : Keep h156 T561.heap [b33, b13] := ((Keep.refl _ _).trans K563 (allS (Or.inl (List.mem_of_getElem? (i := 0) rfl)) (allS (Or.inl (List.mem_of_getElem? (i := 1) rfl)) all0)))
       exact ⟨T561, _, _, X561.mono (by decide) (by decide), rfl, o569, K578, kp570, N562, p567, p568, p564, p565, p566, c571⟩
     have c580 : Kt p e below T572 st0 (mkF m 224 #[vj j_, .second, vi f_, vi m_, vi n_, vi qa, vi qb, vj op, .second, vr b5, vr b33, vr b67, vi 1, vi 0, vi 1, vi 0, u_] [(.int (f_ &&& (64 : Int32)))]) := fun t k => by
      refine c572 t ?_
      show S_ p e below T572 m 220 #[vj j_, .second, vi f_, vi m_, vi n_, vi qa, vi qb, vj op, .second, vr b5, vr b33, vr b67, vi 1, vi 0, vi 1, vi 0, u_] [] t
      refine XS.iloadN X572.here hx rfl (hb hby at_220) rfl ?_
      refine XS.bipush X572.here hx rfl (hb hby at_221) ?_
      refine XS.iand X572.here hx rfl (hb hby at_223) rfl ?_
      exact k
     obtain ⟨T605, h605, L605, X605, e605, o605, K605, kp605, N605, f606, c605⟩ : ∃ (T605 : State) (h605 : Heap) (L605 : List Loc), Stand p l e room_1 (s.setVm T72.vm) m #[(.long j_), (.int f_), (.int m_), (.int n_)] below meth c T605 L605 9 49 ∧ T605.heap = h605 ∧ Old Z n0 h605 ∧ Keep h572 h605 [b33, b13] ∧ Keep h0 h605 [] ∧ Fr n0 L605 ∧ Fld Z h605 b13 nm2 "head" nm1 .null ∧ Kt p e below T605 st0 (mkF m 278 #[vj j_, .second, vi f_, vi m_, vi n_, vi qa, vi qb, vj op, .second, vr b5, vr b33, vr b67, vi 1, vi 0, vi 1, vi 0, u_] []) := by
      by_cases hc581 : (f_ &&& (64 : Int32)) = (0 : Int32)
      ·have c582 : Kt p e below T572 st0 (mkF m 275 #[vj j_, .second, vi f_, vi m_, vi n_, vi qa, vi qb, vj op, .second, vr b5, vr b33, vr b67, vi 1, vi 0, vi 1, vi 0, u_] [(rr b33), (rr b5)]) := fun t k => by
        refine c580 t ?_
        show S_ p e below T572 m 224 #[vj j_, .second, vi f_, vi m_, vi n_, vi qa, vi qb, vj op, .second, vr b5, vr b33, vr b67, vi 1, vi 0, vi 1, vi 0, u_] [(.int (f_ &&& (64 : Int32)))] t
        refine yI X572.here hx rfl 224 254 rfl (hb hby at_224) rfl ((if0 _ _).trans (teq hc581).1) ?_
        refine XS.iload X572.here hx rfl (hb hby at_254) rfl ?_
        refine yI X572.here hx rfl 256 266 rfl (hb hby at_256) rfl rfl ?_
        refine XS.iload X572.here hx rfl (hb hby at_266) rfl ?_
        refine XS.ifNo X572.here hx rfl (hb hby at_268) rfl rfl ?_
        refine XS.aload X572.here hx rfl (hb hby at_271) rfl rfl ?_
        refine XS.aload X572.here hx rfl (hb hby at_273) rfl rfl ?_
        exact k
       obtain ⟨_, T583, L583, X583, hQ583, c583⟩ := kvirt X572 hx hZ72 hown72 (w116 hw) (w117 hw) (w119 hw) (w118 hw) (w120 hw) (w4 hw) (rm_rmS1 l Z a0 hw [] b5 b33 b13 b14 h572 n0 o572 (f166.keep K572) (f181.keep K572) (f169.keep K572 (ninS q167 (ninS q190 nin0))) (f170.keep K572 (ninS q167 (ninS q190 nin0))) g33 (f171.keep K572) g29 f573 f574 f575 f576 f577) e572 (f166.keep K572) c582 hml pd_pLcom_example_lexchange_lexchange_Order_rV [(rr b33)] [] 0 (hb hby at_275) rfl rfl rfl rfl rfl rfl
       obtain ⟨rfl, N584q, K585, p586, p587, p588, p589, p590⟩ := hQ583
       have N584 := Fr.app N572 N584q
       have o591 := o572.keep K585 (allS g33 (allS g29 all0))
       have kp592 := kp572.trans K585 (allS (Or.inr z36) (allS (Or.inr z28) all0))
       have K608 : Keep h572 T583.heap [b33, b13] := ((Keep.refl _ _).trans K585 (allS (Or.inl (List.mem_of_getElem? (i := 0) rfl)) (allS (Or.inl (List.mem_of_getElem? (i := 1) rfl)) all0)))
       exact ⟨T583, _, _, X583.mono (by decide) (by decide), rfl, o591, K608, kp592, N584, p589, c583⟩
      ·have c593 : Kt p e below T572 st0 (mkF m 236 #[vj j_, .second, vi f_, vi m_, vi n_, vi qa, vi qb, vj op, .second, vr b5, vr b33, vr b67, vi 1, vi 0, vi 1, vi 0, u_] [(rr b33), (rr b5)]) := fun t k => by
        refine c580 t ?_
        show S_ p e below T572 m 224 #[vj j_, .second, vi f_, vi m_, vi n_, vi qa, vi qb, vj op, .second, vr b5, vr b33, vr b67, vi 1, vi 0, vi 1, vi 0, u_] [(.int (f_ &&& (64 : Int32)))] t
        refine XS.ifNo X572.here hx rfl (hb hby at_224) rfl ((if0 _ _).trans (feq hc581).1) ?_
        refine XS.iload X572.here hx rfl (hb hby at_227) rfl ?_
        refine XS.ifNo X572.here hx rfl (hb hby at_229) rfl rfl ?_
        refine XS.aload X572.here hx rfl (hb hby at_232) rfl rfl ?_
        refine XS.aload X572.here hx rfl (hb hby at_234) rfl rfl ?_
        exact k
       obtain ⟨_, T594, L594, X594, hQ594, c594⟩ := kvirt X572 hx hZ72 hown72 (w116 hw) (w117 hw) (w119 hw) (w118 hw) (w120 hw) (w4 hw) (rm_rmS1 l Z a0 hw [] b5 b33 b13 b14 h572 n0 o572 (f166.keep K572) (f181.keep K572) (f169.keep K572 (ninS q167 (ninS q190 nin0))) (f170.keep K572 (ninS q167 (ninS q190 nin0))) g33 (f171.keep K572) g29 f573 f574 f575 f576 f577) e572 (f166.keep K572) c593 hml pd_pLcom_example_lexchange_lexchange_Order_rV [(rr b33)] [] 0 (hb hby at_236) rfl rfl rfl rfl rfl rfl
       obtain ⟨rfl, N595q, K596, p597, p598, p599, p600, p601⟩ := hQ594
       have N595 := Fr.app N572 N595q
       have o602 := o572.keep K596 (allS g33 (allS g29 all0))
       have kp603 := kp572.trans K596 (allS (Or.inr z36) (allS (Or.inr z28) all0))
       have c604 : Kt p e below T594 st0 (mkF m 278 #[vj j_, .second, vi f_, vi m_, vi n_, vi qa, vi qb, vj op, .second, vr b5, vr b33, vr b67, vi 1, vi 0, vi 1, vi 0, u_] []) := fun t k => by
        refine c594 t ?_
        show S_ p e below T594 m 239 #[vj j_, .second, vi f_, vi m_, vi n_, vi qa, vi qb, vj op, .second, vr b5, vr b33, vr b67, vi 1, vi 0, vi 1, vi 0, u_] [] t
        refine XS.iload X594.here hx rfl (hb hby at_239) rfl ?_
        refine yI X594.here hx rfl 241 278 rfl (hb hby at_241) rfl rfl ?_
        exact k
       have K607 : Keep h572 T594.heap [b33, b13] := ((Keep.refl _ _).trans K596 (allS (Or.inl (List.mem_of_getElem? (i := 0) rfl)) (allS (Or.inl (List.mem_of_getElem? (i := 1) rfl)) all0)))
       exact ⟨T594, _, _, X594.mono (by decide) (by decide), rfl, o602, K607, kp603, N595, p600, c604⟩
     have c609 : Kt p e below T605 st0 (mkF m 315 #[vj j_, .second, vi f_, vi m_, vi n_, vi qa, vi qb, vj op, .second, vr b5, vr b33, vr b67, vi 1, vi 0, vi 1, vi 0, vi 0] [(rr b5)]) := fun t k => by
      refine c605 t ?_
      show S_ p e below T605 m 278 #[vj j_, .second, vi f_, vi m_, vi n_, vi qa, vi qb, vj op, .second, vr b5, vr b33, vr b67, vi 1, vi 0, vi 1, vi 0, u_] [] t
      refine XS.iconst X605.here hx rfl (hb hby at_278) ?_
      refine XS.istore X605.here hx rfl (hb hby at_279) rfl (l' := #[vj j_, .second, vi f_, vi m_, vi n_, vi qa, vi qb, vj op, .second, vr b5, vr b33, vr b67, vi 1, vi 0, vi 1, vi 0, vi 0]) rfl ?_
      refine XS.iload X605.here hx rfl (hb hby at_281) rfl ?_
      refine XS.ifNo X605.here hx rfl (hb hby at_283) rfl rfl ?_
      refine XS.iload X605.here hx rfl (hb hby at_286) rfl ?_
      refine yI X605.here hx rfl 288 297 rfl (hb hby at_288) rfl rfl ?_
      refine XS.iload X605.here hx rfl (hb hby at_297) rfl ?_
      refine yI X605.here hx rfl 299 313 rfl (hb hby at_299) rfl rfl ?_
      show S_ p e below T605 m 313 #[vj j_, .second, vi f_, vi m_, vi n_, vi qa, vi qb, vj op, .second, vr b5, vr b33, vr b67, vi 1, vi 0, vi 1, vi 0, vi 0] [] t
      refine XS.aload X605.here hx rfl (hb hby at_313) rfl rfl ?_
      exact k
     obtain ⟨_, T610, L610, X610, hQ610, c610⟩ := kvirt X605 hx hZ72 hown72 (w87 hw) (w88 hw) (w90 hw) (w89 hw) (w91 hw) (w4 hw) (rm_emE l Z a0 hw [] b5 b13 b14 h605 n0 o605 ((f166.keep K572).keep K605) ((f169.keep K572 (ninS q167 (ninS q190 nin0))).keep K605 (ninS q167 (ninS q190 nin0))) ((f170.keep K572 (ninS q167 (ninS q190 nin0))).keep K605 (ninS q167 (ninS q190 nin0))) f606 ((f179.keep K572 (ninS q177 (ninS p25.symm nin0))).keep K605 (ninS q177 (ninS p25.symm nin0)))) e605 ((f166.keep K572).keep K605) c609 hml pd_prZ [] [] 0 (hb hby at_315) rfl rfl rfl rfl rfl rfl
     obtain ⟨rfl, N611q, K612⟩ := hQ610
     have N611 := Fr.app N605 N611q
     obtain ⟨fs, hr, hrun, hended, hRW⟩ := X610.leaveW hS72 (by first | exact (Nat.le_trans hk72 (Nat.le_trans (Nat.le_trans (Nat.le_trans (Nat.le_trans K91.1 K123.1) K156.1) K572.1) K605.1)) | (rw [K612]; exact (Nat.le_trans hk72 (Nat.le_trans (Nat.le_trans (Nat.le_trans (Nat.le_trans K91.1 K123.1) K156.1) K572.1) K605.1)))) (v := some (ii 1)) (fun h => by rw [Bd.returns] at h; cases h)
     refine ⟨_, _, c610 _ ?_, hrun, hended, _, _, rfl, ?_, hRW.1, hRW.2.1, hRW.2.2.1, hRW.2.2.2.mono (by decide) (by decide)⟩
     ·show S_ p e below T610 m 318 #[vj j_, .second, vi f_, vi m_, vi n_, vi qa, vi qb, vj op, .second, vr b5, vr b33, vr b67, vi 1, vi 0, vi 1, vi 0, vi 0] [(ii 1)] _
      refine XS.iload X610.here hx rfl (hb hby at_318) rfl ?_
      refine XS.ifNo X610.here hx rfl (hb hby at_320) rfl rfl ?_
      refine XS.iconst X610.here hx rfl (hb hby at_323) ?_
      refine yG X610.here hx rfl 324 328 rfl (hb hby at_324) ?_
      refine XS.icmpNo X610.here hx rfl (hb hby at_328) rfl rfl ?_
      refine XS.iconst X610.here hx rfl (hb hby at_331) ?_
      refine yG X610.here hx rfl 332 336 rfl (hb hby at_332) ?_
      show S_ p e below T610 m 336 #[vj j_, .second, vi f_, vi m_, vi n_, vi qa, vi qb, vj op, .second, vr b5, vr b33, vr b67, vi 1, vi 0, vi 1, vi 0, vi 0] [(ii 1)] _
      exact retN X610 hx (t := .boolean) Bd.returns (by simp) (hb hby at_336) hr
     ·show Q_law Z j_ f_ m_ n_ sa5_ sa9_ sa13_ sa17_ h0 n0 _ T610.heap _
      rw [K612]
      exact ⟨rfl, N611, kp605⟩
    ·have c613 : Kt p e below T156 st0 (mkF m 166 #[vj j_, .second, vi f_, vi m_, vi n_, vi qa, vi qb, vj op, .second, vr b5, vr b33, vr b67, vi 1, vi 0, vi 1, vi 0, u_] [(.int (f_ &&& (128 : Int32)))]) := fun t k => by
      refine c545 t ?_
      show S_ p e below T156 m 161 #[vj j_, .second, vi f_, vi m_, vi n_, vi qa, vi qb, vj op, .second, vr b5, vr b33, vr b67, vi 1, vi 0, vi 1, vi 0, u_] [] t
      refine XS.iloadN X156.here hx rfl (hb hby at_161) rfl ?_
      refine XS.sipush X156.here hx rfl (hb hby at_162) ?_
      refine XS.iand X156.here hx rfl (hb hby at_165) rfl ?_
      exact k
     obtain ⟨T638, h638, L638, X638, e638, o638, K638, kp638, N638, f639, f640, f641, f642, f643, c638⟩ : ∃ (T638 : State) (h638 : Heap) (L638 : List Loc), Stand p l e room_1 (s.setVm T72.vm) m #[(.long j_), (.int f_), (.int m_), (.int n_)] below meth c T638 L638 9 49 ∧ T638.heap = h638 ∧ Old Z n0 h638 ∧ Keep h156 h638 [b33, b14] ∧ Keep h0 h638 [] ∧ Fr n0 L638 ∧ Fld Z h638 b14 nm2 "head" nm1 (rr b33) ∧ Fld Z h638 b14 nm2 "tail" nm1 (rr b33) ∧ Fld Z h638 b33 nm0 "queue" nm4 (rr b5) ∧ Fld Z h638 b33 nm0 "previous" nm1 .null ∧ Fld Z h638 b33 nm0 "next" nm1 .null ∧ Kt p e below T638 st0 (mkF m 220 #[vj j_, .second, vi f_, vi m_, vi n_, vi qa, vi qb, vj op, .second, vr b5, vr b33, vr b67, vi 1, vi 0, vi 1, vi 0, u_] []) := by
      by_cases hc614 : (f_ &&& (128 : Int32)) = (0 : Int32)
      ·have c615 : Kt p e below T156 st0 (mkF m 217 #[vj j_, .second, vi f_, vi m_, vi n_, vi qa, vi qb, vj op, .second, vr b5, vr b33, vr b67, vi 1, vi 0, vi 1, vi 0, u_] [(rr b33), (rr b5)]) := fun t k => by
        refine c613 t ?_
        show S_ p e below T156 m 166 #[vj j_, .second, vi f_, vi m_, vi n_, vi qa, vi qb, vj op, .second, vr b5, vr b33, vr b67, vi 1, vi 0, vi 1, vi 0, u_] [(.int (f_ &&& (128 : Int32)))] t
        refine yI X156.here hx rfl 166 196 rfl (hb hby at_166) rfl ((if0 _ _).trans (teq hc614).1) ?_
        refine XS.iload X156.here hx rfl (hb hby at_196) rfl ?_
        refine yI X156.here hx rfl 198 208 rfl (hb hby at_198) rfl rfl ?_
        refine XS.iload X156.here hx rfl (hb hby at_208) rfl ?_
        refine XS.ifNo X156.here hx rfl (hb hby at_210) rfl rfl ?_
        refine XS.aload X156.here hx rfl (hb hby at_213) rfl rfl ?_
        refine XS.aload X156.here hx rfl (hb hby at_215) rfl rfl ?_
        exact k
       obtain ⟨_, T616, L616, X616, hQ616, c616⟩ := kvirt X156 hx hZ72 hown72 (w94 hw) (w95 hw) (w97 hw) (w96 hw) (w98 hw) (w4 hw) (rm_addHN l Z a0 hw [] b5 b33 b13 b14 sa17_ mv122 h156 n0 o156 f166 f181 f169 f170 f183 f185 f186 f187 f188 g33 ZE7_ ZF8_ f172 g31 f179 f180 hc546) e156 f166 c615 hml pd_pLcom_example_lexchange_lexchange_Order_rV [(rr b33)] [] 0 (hb hby at_217) rfl rfl rfl rfl rfl rfl
       obtain ⟨rfl, N617q, K618, p619, p620, p621, p622, p623⟩ := hQ616
       have N617 := Fr.app N156 N617q
       have o624 := o156.keep K618 (allS g33 (allS g31 all0))
       have kp625 := kp156.trans K618 (allS (Or.inr z36) (allS (Or.inr z30) all0))
       have K645 : Keep h156 T616.heap [b33, b14] := ((Keep.refl _ _).trans K618 (allS (Or.inl (List.mem_of_getElem? (i := 0) rfl)) (allS (Or.inl (List.mem_of_getElem? (i := 1) rfl)) all0)))
       exact ⟨T616, _, _, X616.mono (by decide) (by decide), rfl, o624, K645, kp625, N617, p622, p623, p619, p620, p621, c616⟩
      ·have c626 : Kt p e below T156 st0 (mkF m 178 #[vj j_, .second, vi f_, vi m_, vi n_, vi qa, vi qb, vj op, .second, vr b5, vr b33, vr b67, vi 1, vi 0, vi 1, vi 0, u_] [(rr b33), (rr b5)]) := fun t k => by
        refine c613 t ?_
        show S_ p e below T156 m 166 #[vj j_, .second, vi f_, vi m_, vi n_, vi qa, vi qb, vj op, .second, vr b5, vr b33, vr b67, vi 1, vi 0, vi 1, vi 0, u_] [(.int (f_ &&& (128 : Int32)))] t
        refine XS.ifNo X156.here hx rfl (hb hby at_166) rfl ((if0 _ _).trans (feq hc614).1) ?_
        refine XS.iload X156.here hx rfl (hb hby at_169) rfl ?_
        refine XS.ifNo X156.here hx rfl (hb hby at_171) rfl rfl ?_
        refine XS.aload X156.here hx rfl (hb hby at_174) rfl rfl ?_
        refine XS.aload X156.here hx rfl (hb hby at_176) rfl rfl ?_
        exact k
       obtain ⟨_, T627, L627, X627, hQ627, c627⟩ := kvirt X156 hx hZ72 hown72 (w94 hw) (w95 hw) (w97 hw) (w96 hw) (w98 hw) (w4 hw) (rm_addHN l Z a0 hw [] b5 b33 b13 b14 sa17_ mv122 h156 n0 o156 f166 f181 f169 f170 f183 f185 f186 f187 f188 g33 ZE7_ ZF8_ f172 g31 f179 f180 hc546) e156 f166 c626 hml pd_pLcom_example_lexchange_lexchange_Order_rV [(rr b33)] [] 0 (hb hby at_178) rfl rfl rfl rfl rfl rfl
       obtain ⟨rfl, N628q, K629, p630, p631, p632, p633, p634⟩ := hQ627
       have N628 := Fr.app N156 N628q
       have o635 := o156.keep K629 (allS g33 (allS g31 all0))
       have kp636 := kp156.trans K629 (allS (Or.inr z36) (allS (Or.inr z30) all0))
       have c637 : Kt p e below T627 st0 (mkF m 220 #[vj j_, .second, vi f_, vi m_, vi n_, vi qa, vi qb, vj op, .second, vr b5, vr b33, vr b67, vi 1, vi 0, vi 1, vi 0, u_] []) := fun t k => by
        refine c627 t ?_
        show S_ p e below T627 m 181 #[vj j_, .second, vi f_, vi m_, vi n_, vi qa, vi qb, vj op, .second, vr b5, vr b33, vr b67, vi 1, vi 0, vi 1, vi 0, u_] [] t
        refine XS.iload X627.here hx rfl (hb hby at_181) rfl ?_
        refine yI X627.here hx rfl 183 220 rfl (hb hby at_183) rfl rfl ?_
        exact k
       have K644 : Keep h156 T627.heap [b33, b14] := ((Keep.refl _ _).trans K629 (allS (Or.inl (List.mem_of_getElem? (i := 0) rfl)) (allS (Or.inl (List.mem_of_getElem? (i := 1) rfl)) all0)))
       exact ⟨T627, _, _, X627.mono (by decide) (by decide), rfl, o635, K644, kp636, N628, p633, p634, p630, p631, p632, c637⟩
     have c646 : Kt p e below T638 st0 (mkF m 224 #[vj j_, .second, vi f_, vi m_, vi n_, vi qa, vi qb, vj op, .second, vr b5, vr b33, vr b67, vi 1, vi 0, vi 1, vi 0, u_] [(.int (f_ &&& (64 : Int32)))]) := fun t k => by
      refine c638 t ?_
      show S_ p e below T638 m 220 #[vj j_, .second, vi f_, vi m_, vi n_, vi qa, vi qb, vj op, .second, vr b5, vr b33, vr b67, vi 1, vi 0, vi 1, vi 0, u_] [] t
      refine XS.iloadN X638.here hx rfl (hb hby at_220) rfl ?_
      refine XS.bipush X638.here hx rfl (hb hby at_221) ?_
      refine XS.iand X638.here hx rfl (hb hby at_223) rfl ?_
      exact k
     obtain ⟨T671, h671, L671, X671, e671, o671, K671, kp671, N671, f672, c671⟩ : ∃ (T671 : State) (h671 : Heap) (L671 : List Loc), Stand p l e room_1 (s.setVm T72.vm) m #[(.long j_), (.int f_), (.int m_), (.int n_)] below meth c T671 L671 9 49 ∧ T671.heap = h671 ∧ Old Z n0 h671 ∧ Keep h638 h671 [b33, b14] ∧ Keep h0 h671 [] ∧ Fr n0 L671 ∧ Fld Z h671 b14 nm2 "head" nm1 .null ∧ Kt p e below T671 st0 (mkF m 278 #[vj j_, .second, vi f_, vi m_, vi n_, vi qa, vi qb, vj op, .second, vr b5, vr b33, vr b67, vi 1, vi 0, vi 1, vi 0, u_] []) := by
      by_cases hc647 : (f_ &&& (64 : Int32)) = (0 : Int32)
      ·have c648 : Kt p e below T638 st0 (mkF m 275 #[vj j_, .second, vi f_, vi m_, vi n_, vi qa, vi qb, vj op, .second, vr b5, vr b33, vr b67, vi 1, vi 0, vi 1, vi 0, u_] [(rr b33), (rr b5)]) := fun t k => by
        refine c646 t ?_
        show S_ p e below T638 m 224 #[vj j_, .second, vi f_, vi m_, vi n_, vi qa, vi qb, vj op, .second, vr b5, vr b33, vr b67, vi 1, vi 0, vi 1, vi 0, u_] [(.int (f_ &&& (64 : Int32)))] t
        refine yI X638.here hx rfl 224 254 rfl (hb hby at_224) rfl ((if0 _ _).trans (teq hc647).1) ?_
        refine XS.iload X638.here hx rfl (hb hby at_254) rfl ?_
        refine yI X638.here hx rfl 256 266 rfl (hb hby at_256) rfl rfl ?_
        refine XS.iload X638.here hx rfl (hb hby at_266) rfl ?_
        refine XS.ifNo X638.here hx rfl (hb hby at_268) rfl rfl ?_
        refine XS.aload X638.here hx rfl (hb hby at_271) rfl rfl ?_
        refine XS.aload X638.here hx rfl (hb hby at_273) rfl rfl ?_
        exact k
       obtain ⟨_, T649, L649, X649, hQ649, c649⟩ := kvirt X638 hx hZ72 hown72 (w116 hw) (w117 hw) (w119 hw) (w118 hw) (w120 hw) (w4 hw) (rm_rmH1e l Z a0 hw [] b5 b33 b13 b14 h638 n0 o638 (f166.keep K638) (f181.keep K638) (f169.keep K638 (ninS q167 (ninS q191 nin0))) (f170.keep K638 (ninS q167 (ninS q191 nin0))) g33 (f172.keep K638) g31 f639 f640 (f171.keep K638) (f175.keep K638 (ninS q173 (ninS p25 nin0))) (f176.keep K638 (ninS q173 (ninS p25 nin0))) f641 f642 f643) e638 (f166.keep K638) c648 hml pd_pLcom_example_lexchange_lexchange_Order_rV [(rr b33)] [] 0 (hb hby at_275) rfl rfl rfl rfl rfl rfl
       obtain ⟨rfl, N650q, K651, p652, p653, p654, p655, p656⟩ := hQ649
       have N650 := Fr.app N638 N650q
       have o657 := o638.keep K651 (allS g33 (allS g31 all0))
       have kp658 := kp638.trans K651 (allS (Or.inr z36) (allS (Or.inr z30) all0))
       have K674 : Keep h638 T649.heap [b33, b14] := ((Keep.refl _ _).trans K651 (allS (Or.inl (List.mem_of_getElem? (i := 0) rfl)) (allS (Or.inl (List.mem_of_getElem? (i := 1) rfl)) all0)))
       exact ⟨T649, _, _, X649.mono (by decide) (by decide), rfl, o657, K674, kp658, N650, p655, c649⟩
      ·have c659 : Kt p e below T638 st0 (mkF m 236 #[vj j_, .second, vi f_, vi m_, vi n_, vi qa, vi qb, vj op, .second, vr b5, vr b33, vr b67, vi 1, vi 0, vi 1, vi 0, u_] [(rr b33), (rr b5)]) := fun t k => by
        refine c646 t ?_
        show S_ p e below T638 m 224 #[vj j_, .second, vi f_, vi m_, vi n_, vi qa, vi qb, vj op, .second, vr b5, vr b33, vr b67, vi 1, vi 0, vi 1, vi 0, u_] [(.int (f_ &&& (64 : Int32)))] t
        refine XS.ifNo X638.here hx rfl (hb hby at_224) rfl ((if0 _ _).trans (feq hc647).1) ?_
        refine XS.iload X638.here hx rfl (hb hby at_227) rfl ?_
        refine XS.ifNo X638.here hx rfl (hb hby at_229) rfl rfl ?_
        refine XS.aload X638.here hx rfl (hb hby at_232) rfl rfl ?_
        refine XS.aload X638.here hx rfl (hb hby at_234) rfl rfl ?_
        exact k
       obtain ⟨_, T660, L660, X660, hQ660, c660⟩ := kvirt X638 hx hZ72 hown72 (w116 hw) (w117 hw) (w119 hw) (w118 hw) (w120 hw) (w4 hw) (rm_rmH1e l Z a0 hw [] b5 b33 b13 b14 h638 n0 o638 (f166.keep K638) (f181.keep K638) (f169.keep K638 (ninS q167 (ninS q191 nin0))) (f170.keep K638 (ninS q167 (ninS q191 nin0))) g33 (f172.keep K638) g31 f639 f640 (f171.keep K638) (f175.keep K638 (ninS q173 (ninS p25 nin0))) (f176.keep K638 (ninS q173 (ninS p25 nin0))) f641 f642 f643) e638 (f166.keep K638) c659 hml pd_pLcom_example_lexchange_lexchange_Order_rV [(rr b33)] [] 0 (hb hby at_236) rfl rfl rfl rfl rfl rfl
       obtain ⟨rfl, N661q, K662, p663, p664, p665, p666, p667⟩ := hQ660
       have N661 := Fr.app N638 N661q
       have o668 := o638.keep K662 (allS g33 (allS g31 all0))
       have kp669 := kp638.trans K662 (allS (Or.inr z36) (allS (Or.inr z30) all0))
       have c670 : Kt p e below T660 st0 (mkF m 278 #[vj j_, .second, vi f_, vi m_, vi n_, vi qa, vi qb, vj op, .second, vr b5, vr b33, vr b67, vi 1, vi 0, vi 1, vi 0, u_] []) := fun t k => by
        refine c660 t ?_
        show S_ p e below T660 m 239 #[vj j_, .second, vi f_, vi m_, vi n_, vi qa, vi qb, vj op, .second, vr b5, vr b33, vr b67, vi 1, vi 0, vi 1, vi 0, u_] [] t
        refine XS.iload X660.here hx rfl (hb hby at_239) rfl ?_
        refine yI X660.here hx rfl 241 278 rfl (hb hby at_241) rfl rfl ?_
        exact k
       have K673 : Keep h638 T660.heap [b33, b14] := ((Keep.refl _ _).trans K662 (allS (Or.inl (List.mem_of_getElem? (i := 0) rfl)) (allS (Or.inl (List.mem_of_getElem? (i := 1) rfl)) all0)))
       exact ⟨T660, _, _, X660.mono (by decide) (by decide), rfl, o668, K673, kp669, N661, p666, c670⟩
     have c675 : Kt p e below T671 st0 (mkF m 315 #[vj j_, .second, vi f_, vi m_, vi n_, vi qa, vi qb, vj op, .second, vr b5, vr b33, vr b67, vi 1, vi 0, vi 1, vi 0, vi 0] [(rr b5)]) := fun t k => by
      refine c671 t ?_
      show S_ p e below T671 m 278 #[vj j_, .second, vi f_, vi m_, vi n_, vi qa, vi qb, vj op, .second, vr b5, vr b33, vr b67, vi 1, vi 0, vi 1, vi 0, u_] [] t
      refine XS.iconst X671.here hx rfl (hb hby at_278) ?_
      refine XS.istore X671.here hx rfl (hb hby at_279) rfl (l' := #[vj j_, .second, vi f_, vi m_, vi n_, vi qa, vi qb, vj op, .second, vr b5, vr b33, vr b67, vi 1, vi 0, vi 1, vi 0, vi 0]) rfl ?_
      refine XS.iload X671.here hx rfl (hb hby at_281) rfl ?_
      refine XS.ifNo X671.here hx rfl (hb hby at_283) rfl rfl ?_
      refine XS.iload X671.here hx rfl (hb hby at_286) rfl ?_
      refine yI X671.here hx rfl 288 297 rfl (hb hby at_288) rfl rfl ?_
      refine XS.iload X671.here hx rfl (hb hby at_297) rfl ?_
      refine yI X671.here hx rfl 299 313 rfl (hb hby at_299) rfl rfl ?_
      show S_ p e below T671 m 313 #[vj j_, .second, vi f_, vi m_, vi n_, vi qa, vi qb, vj op, .second, vr b5, vr b33, vr b67, vi 1, vi 0, vi 1, vi 0, vi 0] [] t
      refine XS.aload X671.here hx rfl (hb hby at_313) rfl rfl ?_
      exact k
     obtain ⟨_, T676, L676, X676, hQ676, c676⟩ := kvirt X671 hx hZ72 hown72 (w87 hw) (w88 hw) (w90 hw) (w89 hw) (w91 hw) (w4 hw) (rm_emE l Z a0 hw [] b5 b13 b14 h671 n0 o671 ((f166.keep K638).keep K671) ((f169.keep K638 (ninS q167 (ninS q191 nin0))).keep K671 (ninS q167 (ninS q191 nin0))) ((f170.keep K638 (ninS q167 (ninS q191 nin0))).keep K671 (ninS q167 (ninS q191 nin0))) ((f175.keep K638 (ninS q173 (ninS p25 nin0))).keep K671 (ninS q173 (ninS p25 nin0))) f672) e671 ((f166.keep K638).keep K671) c675 hml pd_prZ [] [] 0 (hb hby at_315) rfl rfl rfl rfl rfl rfl
     obtain ⟨rfl, N677q, K678⟩ := hQ676
     have N677 := Fr.app N671 N677q
     obtain ⟨fs, hr, hrun, hended, hRW⟩ := X676.leaveW hS72 (by first | exact (Nat.le_trans hk72 (Nat.le_trans (Nat.le_trans (Nat.le_trans (Nat.le_trans K91.1 K123.1) K156.1) K638.1) K671.1)) | (rw [K678]; exact (Nat.le_trans hk72 (Nat.le_trans (Nat.le_trans (Nat.le_trans (Nat.le_trans K91.1 K123.1) K156.1) K638.1) K671.1)))) (v := some (ii 1)) (fun h => by rw [Bd.returns] at h; cases h)
     refine ⟨_, _, c676 _ ?_, hrun, hended, _, _, rfl, ?_, hRW.1, hRW.2.1, hRW.2.2.1, hRW.2.2.2.mono (by decide) (by decide)⟩
     ·show S_ p e below T676 m 318 #[vj j_, .second, vi f_, vi m_, vi n_, vi qa, vi qb, vj op, .second, vr b5, vr b33, vr b67, vi 1, vi 0, vi 1, vi 0, vi 0] [(ii 1)] _
      refine XS.iload X676.here hx rfl (hb hby at_318) rfl ?_
      refine XS.ifNo X676.here hx rfl (hb hby at_320) rfl rfl ?_
      refine XS.iconst X676.here hx rfl (hb hby at_323) ?_
      refine yG X676.here hx rfl 324 328 rfl (hb hby at_324) ?_
      refine XS.icmpNo X676.here hx rfl (hb hby at_328) rfl rfl ?_
      refine XS.iconst X676.here hx rfl (hb hby at_331) ?_
      refine yG X676.here hx rfl 332 336 rfl (hb hby at_332) ?_
      show S_ p e below T676 m 336 #[vj j_, .second, vi f_, vi m_, vi n_, vi qa, vi qb, vj op, .second, vr b5, vr b33, vr b67, vi 1, vi 0, vi 1, vi 0, vi 0] [(ii 1)] _
      exact retN X676 hx (t := .boolean) Bd.returns (by simp) (hb hby at_336) hr
     ·show Q_law Z j_ f_ m_ n_ sa5_ sa9_ sa13_ sa17_ h0 n0 _ T676.heap _
      rw [K678]
      exact ⟨rfl, N677, kp671⟩
  ·have c679 : Kt p e below T156 st0 (mkF m 132 #[vj j_, .second, vi f_, vi m_, vi n_, vi qa, vi qb, vj op, .second, vr b5, vr b33, vr b67, vi 1, vi 1, u_, u_, u_] [(.int (f_ &&& (16 : Int32)))]) := fun t k => by
    refine c451 t ?_
    show S_ p e below T156 m 113 #[vj j_, .second, vi f_, vi m_, vi n_, vi qa, vi qb, vj op, .second, vr b5, vr b33, vr b67, vi 1, u_, u_, u_, u_] [(.int (f_ &&& (8 : Int32)))] t
    refine XS.ifNo X156.here hx rfl (hb hby at_113) rfl ((if0 _ _).trans (feq hc452).1) ?_
    refine XS.iconst X156.here hx rfl (hb hby at_116) ?_
    refine yG X156.here hx rfl 117 121 rfl (hb hby at_117) ?_
    refine XS.istore X156.here hx rfl (hb hby at_121) rfl (l' := #[vj j_, .second, vi f_, vi m_, vi n_, vi qa, vi qb, vj op, .second, vr b5, vr b33, vr b67, vi 1, vi 1, u_, u_, u_]) rfl ?_
    refine XS.iload X156.here hx rfl (hb hby at_123) rfl ?_
    refine XS.ifNo X156.here hx rfl (hb hby at_125) rfl rfl ?_
    refine XS.iloadN X156.here hx rfl (hb hby at_128) rfl ?_
    refine XS.bipush X156.here hx rfl (hb hby at_129) ?_
    show S_ p e below T156 m 131 #[vj j_, .second, vi f_, vi m_, vi n_, vi qa, vi qb, vj op, .second, vr b5, vr b33, vr b67, vi 1, vi 1, u_, u_, u_] [(ii 16), (.int f_)] t
    refine XS.iand X156.here hx rfl (hb hby at_131) rfl ?_
    exact k
   by_cases hc680 : (f_ &&& (16 : Int32)) = (0 : Int32)
   ·have c681 : Kt p e below T156 st0 (mkF m 151 #[vj j_, .second, vi f_, vi m_, vi n_, vi qa, vi qb, vj op, .second, vr b5, vr b33, vr b67, vi 1, vi 1, vi 0, u_, u_] [(.int (f_ &&& (32 : Int32)))]) := fun t k => by
     refine c679 t ?_
     show S_ p e below T156 m 132 #[vj j_, .second, vi f_, vi m_, vi n_, vi qa, vi qb, vj op, .second, vr b5, vr b33, vr b67, vi 1, vi 1, u_, u_, u_] [(.int (f_ &&& (16 : Int32)))] t
     refine yI X156.here hx rfl 132 139 rfl (hb hby at_132) rfl ((if0 _ _).trans (teq hc680).1) ?_
     refine XS.iconst X156.here hx rfl (hb hby at_139) ?_
     refine XS.istore X156.here hx rfl (hb hby at_140) rfl (l' := #[vj j_, .second, vi f_, vi m_, vi n_, vi qa, vi qb, vj op, .second, vr b5, vr b33, vr b67, vi 1, vi 1, vi 0, u_, u_]) rfl ?_
     refine XS.iload X156.here hx rfl (hb hby at_142) rfl ?_
     refine XS.ifNo X156.here hx rfl (hb hby at_144) rfl rfl ?_
     refine XS.iloadN X156.here hx rfl (hb hby at_147) rfl ?_
     refine XS.bipush X156.here hx rfl (hb hby at_148) ?_
     refine XS.iand X156.here hx rfl (hb hby at_150) rfl ?_
     exact k
    by_cases hc682 : (f_ &&& (32 : Int32)) = (0 : Int32)
    ·have c683 : Kt p e below T156 st0 (mkF m 161 #[vj j_, .second, vi f_, vi m_, vi n_, vi qa, vi qb, vj op, .second, vr b5, vr b33, vr b67, vi 1, vi 1, vi 0, vi 0, u_] []) := fun t k => by
      refine c681 t ?_
      show S_ p e below T156 m 151 #[vj j_, .second, vi f_, vi m_, vi n_, vi qa, vi qb, vj op, .second, vr b5, vr b33, vr b67, vi 1, vi 1, vi 0, u_, u_] [(.int (f_ &&& (32 : Int32)))] t
      refine yI X156.here hx rfl 151 158 rfl (hb hby at_151) rfl ((if0 _ _).trans (teq hc682).1) ?_
      refine XS.iconst X156.here hx rfl (hb hby at_158) ?_
      refine XS.istore X156.here hx rfl (hb hby at_159) rfl (l' := #[vj j_, .second, vi f_, vi m_, vi n_, vi qa, vi qb, vj op, .second, vr b5, vr b33, vr b67, vi 1, vi 1, vi 0, vi 0, u_]) rfl ?_
      exact k
     by_cases hc684 : (0 : Int32) < mv122
     ·by_cases hc685 : (0 : Int32) < mv155
      ·have c686 : Kt p e below T156 st0 (mkF m 166 #[vj j_, .second, vi f_, vi m_, vi n_, vi qa, vi qb, vj op, .second, vr b5, vr b33, vr b67, vi 1, vi 1, vi 0, vi 0, u_] [(.int (f_ &&& (128 : Int32)))]) := fun t k => by
        refine c683 t ?_
        show S_ p e below T156 m 161 #[vj j_, .second, vi f_, vi m_, vi n_, vi qa, vi qb, vj op, .second, vr b5, vr b33, vr b67, vi 1, vi 1, vi 0, vi 0, u_] [] t
        refine XS.iloadN X156.here hx rfl (hb hby at_161) rfl ?_
        refine XS.sipush X156.here hx rfl (hb hby at_162) ?_
        refine XS.iand X156.here hx rfl (hb hby at_165) rfl ?_
        exact k
       by_cases hc687 : (f_ &&& (128 : Int32)) = (0 : Int32)
       ·have c688 : Kt p e below T156 st0 (mkF m 205 #[vj j_, .second, vi f_, vi m_, vi n_, vi qa, vi qb, vj op, .second, vr b5, vr b33, vr b67, vi 1, vi 1, vi 0, vi 0, u_] [(rr b67), (rr b5)]) := fun t k => by
         refine c686 t ?_
         show S_ p e below T156 m 166 #[vj j_, .second, vi f_, vi m_, vi n_, vi qa, vi qb, vj op, .second, vr b5, vr b33, vr b67, vi 1, vi 1, vi 0, vi 0, u_] [(.int (f_ &&& (128 : Int32)))] t
         refine yI X156.here hx rfl 166 196 rfl (hb hby at_166) rfl ((if0 _ _).trans (teq hc687).1) ?_
         refine XS.iload X156.here hx rfl (hb hby at_196) rfl ?_
         refine XS.ifNo X156.here hx rfl (hb hby at_198) rfl rfl ?_
         refine XS.aload X156.here hx rfl (hb hby at_201) rfl rfl ?_
         refine XS.aload X156.here hx rfl (hb hby at_203) rfl rfl ?_
         exact k
        obtain ⟨_, T689, L689, X689, hQ689, c689⟩ := kvirt X156 hx hZ72 hown72 (w94 hw) (w95 hw) (w97 hw) (w96 hw) (w98 hw) (w4 hw) (rm_addSN l Z a0 hw [] b5 b67 b13 b14 sa17_ mv155 h156 n0 o156 f166 f189 f169 f170 f157 f159 f160 f161 f162 g67 ZE7_ ZF8_ f171 g29 f175 f176 hc685) e156 f166 c688 hml pd_pLcom_example_lexchange_lexchange_Order_rV [(rr b67)] [] 0 (hb hby at_205) rfl rfl rfl rfl rfl rfl
        obtain ⟨rfl, N690q, K691, p692, p693, p694, p695, p696⟩ := hQ689
        have N690 := Fr.app N156 N690q
        have o697 := o156.keep K691 (allS g67 (allS g29 all0))
        have kp698 := kp156.trans K691 (allS (Or.inr z70) (allS (Or.inr z28) all0))
        have c699 : Kt p e below T689 st0 (mkF m 217 #[vj j_, .second, vi f_, vi m_, vi n_, vi qa, vi qb, vj op, .second, vr b5, vr b33, vr b67, vi 1, vi 1, vi 0, vi 0, u_] [(rr b33), (rr b5)]) := fun t k => by
         refine c689 t ?_
         show S_ p e below T689 m 208 #[vj j_, .second, vi f_, vi m_, vi n_, vi qa, vi qb, vj op, .second, vr b5, vr b33, vr b67, vi 1, vi 1, vi 0, vi 0, u_] [] t
         refine XS.iload X689.here hx rfl (hb hby at_208) rfl ?_
         refine XS.ifNo X689.here hx rfl (hb hby at_210) rfl rfl ?_
         refine XS.aload X689.here hx rfl (hb hby at_213) rfl rfl ?_
         refine XS.aload X689.here hx rfl (hb hby at_215) rfl rfl ?_
         exact k
        obtain ⟨_, T700, L700, X700, hQ700, c700⟩ := kvirt X689 hx hZ72 hown72 (w94 hw) (w95 hw) (w97 hw) (w96 hw) (w98 hw) (w4 hw) (rm_addSR l Z a0 hw [] b5 b33 b13 b14 sa17_ mv122 b67 T689.heap n0 o697 (f166.keep K691) (f181.keep K691) (f169.keep K691 (ninS q168 (ninS q190 nin0))) (f170.keep K691 (ninS q168 (ninS q190 nin0))) (f183.keep K691 (ninS q182 (ninS q173.symm nin0))) (f185.keep K691 (ninS q182 (ninS q173.symm nin0))) (f186.keep K691 (ninS q182 (ninS q173.symm nin0))) (f187.keep K691 (ninS q182 (ninS q173.symm nin0))) (f188.keep K691 (ninS q182 (ninS q173.symm nin0))) g33 ZE7_ ZF8_ (f171.keep K691) g29 p695 p696 (f189.keep K691) g67 q182.symm p692 p693 p694 hc684) rfl (f166.keep K691) c699 hml pd_pLcom_example_lexchange_lexchange_Order_rV [(rr b33)] [] 0 (hb hby at_217) rfl rfl rfl rfl rfl rfl
        obtain ⟨rfl, N701q, K702, p703, p704, p705, p706, p707, p708, p709, p710⟩ := hQ700
        have N701 := Fr.app N690 N701q
        have o711 := o697.keep K702 (allS g33 (allS g29 (allS g67 all0)))
        have kp712 := kp698.trans K702 (allS (Or.inr z36) (allS (Or.inr z28) (allS (Or.inr z70) all0)))
        have c713 : Kt p e below T700 st0 (mkF m 224 #[vj j_, .second, vi f_, vi m_, vi n_, vi qa, vi qb, vj op, .second, vr b5, vr b33, vr b67, vi 1, vi 1, vi 0, vi 0, u_] [(.int (f_ &&& (64 : Int32)))]) := fun t k => by
         refine c700 t ?_
         show S_ p e below T700 m 220 #[vj j_, .second, vi f_, vi m_, vi n_, vi qa, vi qb, vj op, .second, vr b5, vr b33, vr b67, vi 1, vi 1, vi 0, vi 0, u_] [] t
         refine XS.iloadN X700.here hx rfl (hb hby at_220) rfl ?_
         refine XS.bipush X700.here hx rfl (hb hby at_221) ?_
         refine XS.iand X700.here hx rfl (hb hby at_223) rfl ?_
         exact k
        obtain ⟨T717, h717, L717, X717, e717, o717, K717, kp717, N717, c717⟩ : ∃ (T717 : State) (h717 : Heap) (L717 : List Loc), Stand p l e room_1 (s.setVm T72.vm) m #[(.long j_), (.int f_), (.int m_), (.int n_)] below meth c T717 L717 9 49 ∧ T717.heap = h717 ∧ Old Z n0 h717 ∧ Keep T700.heap h717 [] ∧ Keep h0 h717 [] ∧ Fr n0 L717 ∧ Kt p e below T717 st0 (mkF m 278 #[vj j_, .second, vi f_, vi m_, vi n_, vi qa, vi qb, vj op, .second, vr b5, vr b33, vr b67, vi 1, vi 1, vi 0, vi 0, u_] []) := by
         by_cases hc714 : (f_ &&& (64 : Int32)) = (0 : Int32)
         ·have c715 : Kt p e below T700 st0 (mkF m 278 #[vj j_, .second, vi f_, vi m_, vi n_, vi qa, vi qb, vj op, .second, vr b5, vr b33, vr b67, vi 1, vi 1, vi 0, vi 0, u_] []) := fun t k => by
           refine c713 t ?_
           show S_ p e below T700 m 224 #[vj j_, .second, vi f_, vi m_, vi n_, vi qa, vi qb, vj op, .second, vr b5, vr b33, vr b67, vi 1, vi 1, vi 0, vi 0, u_] [(.int (f_ &&& (64 : Int32)))] t
           refine yI X700.here hx rfl 224 254 rfl (hb hby at_224) rfl ((if0 _ _).trans (teq hc714).1) ?_
           refine XS.iload X700.here hx rfl (hb hby at_254) rfl ?_
           refine yI X700.here hx rfl 256 266 rfl (hb hby at_256) rfl rfl ?_
           refine XS.iload X700.here hx rfl (hb hby at_266) rfl ?_
           refine yI X700.here hx rfl 268 278 rfl (hb hby at_268) rfl rfl ?_
           exact k
          have K719 : Keep T700.heap T700.heap [] := (Keep.refl _ _)
          exact ⟨T700, _, _, X700.mono (by decide) (by decide), rfl, o711, K719, kp712, N701, c715⟩
         ·have c716 : Kt p e below T700 st0 (mkF m 278 #[vj j_, .second, vi f_, vi m_, vi n_, vi qa, vi qb, vj op, .second, vr b5, vr b33, vr b67, vi 1, vi 1, vi 0, vi 0, u_] []) := fun t k => by
           refine c713 t ?_
           show S_ p e below T700 m 224 #[vj j_, .second, vi f_, vi m_, vi n_, vi qa, vi qb, vj op, .second, vr b5, vr b33, vr b67, vi 1, vi 1, vi 0, vi 0, u_] [(.int (f_ &&& (64 : Int32)))] t
           refine XS.ifNo X700.here hx rfl (hb hby at_224) rfl ((if0 _ _).trans (feq hc714).1) ?_
           refine XS.iload X700.here hx rfl (hb hby at_227) rfl ?_
           refine yI X700.here hx rfl 229 239 rfl (hb hby at_229) rfl rfl ?_
           refine XS.iload X700.here hx rfl (hb hby at_239) rfl ?_
           refine yI X700.here hx rfl 241 278 rfl (hb hby at_241) rfl rfl ?_
           exact k
          have K718 : Keep T700.heap T700.heap [] := (Keep.refl _ _)
          exact ⟨T700, _, _, X700.mono (by decide) (by decide), rfl, o711, K718, kp712, N701, c716⟩
        have f720 := ((f169.keep K691 (ninS q168 (ninS q190 nin0))).keep K702 (ninS q167 (ninS q190 (ninS q168 nin0)))).keep K717 nin0
        have f721 := ((f170.keep K691 (ninS q168 (ninS q190 nin0))).keep K702 (ninS q167 (ninS q190 (ninS q168 nin0)))).keep K717 nin0
        have c722 : Kt p e below T717 st0 (mkF m 315 #[vj j_, .second, vi f_, vi m_, vi n_, vi qa, vi qb, vj op, .second, vr b5, vr b33, vr b67, vi 1, vi 1, vi 0, vi 0, vi 2] [(rr b5)]) := fun t k => by
         refine c717 t ?_
         show S_ p e below T717 m 278 #[vj j_, .second, vi f_, vi m_, vi n_, vi qa, vi qb, vj op, .second, vr b5, vr b33, vr b67, vi 1, vi 1, vi 0, vi 0, u_] [] t
         refine XS.iconst X717.here hx rfl (hb hby at_278) ?_
         refine XS.istore X717.here hx rfl (hb hby at_279) rfl (l' := #[vj j_, .second, vi f_, vi m_, vi n_, vi qa, vi qb, vj op, .second, vr b5, vr b33, vr b67, vi 1, vi 1, vi 0, vi 0, vi 0]) rfl ?_
         refine XS.iload X717.here hx rfl (hb hby at_281) rfl ?_
         refine XS.ifNo X717.here hx rfl (hb hby at_283) rfl rfl ?_
         refine XS.iload X717.here hx rfl (hb hby at_286) rfl ?_
         refine XS.ifNo X717.here hx rfl (hb hby at_288) rfl rfl ?_
         refine XS.iload X717.here hx rfl (hb hby at_291) rfl ?_
         refine XS.iconst X717.here hx rfl (hb hby at_293) ?_
         show S_ p e below T717 m 294 #[vj j_, .second, vi f_, vi m_, vi n_, vi qa, vi qb, vj op, .second, vr b5, vr b33, vr b67, vi 1, vi 1, vi 0, vi 0, vi 0] [(ii 1), (ii 0)] t
         refine XS.iadd X717.here hx rfl (hb hby at_294) rfl ?_
         refine XS.istore X717.here hx rfl (hb hby at_295) rfl (l' := #[vj j_, .second, vi f_, vi m_, vi n_, vi qa, vi qb, vj op, .second, vr b5, vr b33, vr b67, vi 1, vi 1, vi 0, vi 0, vi 1]) rfl ?_
         refine XS.iload X717.here hx rfl (hb hby at_297) rfl ?_
         refine XS.ifNo X717.here hx rfl (hb hby at_299) rfl rfl ?_
         refine XS.iload X717.here hx rfl (hb hby at_302) rfl ?_
         refine XS.ifNo X717.here hx rfl (hb hby at_304) rfl rfl ?_
         refine XS.iload X717.here hx rfl (hb hby at_307) rfl ?_
         refine XS.iconst X717.here hx rfl (hb hby at_309) ?_
         show S_ p e below T717 m 310 #[vj j_, .second, vi f_, vi m_, vi n_, vi qa, vi qb, vj op, .second, vr b5, vr b33, vr b67, vi 1, vi 1, vi 0, vi 0, vi 1] [(ii 1), (ii 1)] t
         refine XS.iadd X717.here hx rfl (hb hby at_310) rfl ?_
         refine XS.istore X717.here hx rfl (hb hby at_311) rfl (l' := #[vj j_, .second, vi f_, vi m_, vi n_, vi qa, vi qb, vj op, .second, vr b5, vr b33, vr b67, vi 1, vi 1, vi 0, vi 0, vi 2]) rfl ?_
         refine XS.aload X717.here hx rfl (hb hby at_313) rfl rfl ?_
         exact k
        obtain ⟨_, T723, L723, X723, hQ723, c723⟩ := kvirt X717 hx hZ72 hown72 (w87 hw) (w88 hw) (w90 hw) (w89 hw) (w91 hw) (w4 hw) (rm_emS l Z a0 hw [] b5 b13 b14 b67 h717 n0 o717 (((f166.keep K691).keep K702).keep K717) f720 f721 (p706.keep K717 nin0)) e717 (((f166.keep K691).keep K702).keep K717) c722 hml pd_prZ [] [] 0 (hb hby at_315) rfl rfl rfl rfl rfl rfl
        obtain ⟨rfl, N724q, K725⟩ := hQ723
        have N724 := Fr.app N717 N724q
        obtain ⟨fs, hr, hrun, hended, hRW⟩ := X723.leaveW hS72 (by first | exact (Nat.le_trans hk72 (Nat.le_trans (Nat.le_trans (Nat.le_trans (Nat.le_trans (Nat.le_trans K91.1 K123.1) K156.1) K691.1) K702.1) K717.1)) | (rw [K725]; exact (Nat.le_trans hk72 (Nat.le_trans (Nat.le_trans (Nat.le_trans (Nat.le_trans (Nat.le_trans K91.1 K123.1) K156.1) K691.1) K702.1) K717.1)))) (v := some (ii 1)) (fun h => by rw [Bd.returns] at h; cases h)
        refine ⟨_, _, c723 _ ?_, hrun, hended, _, _, rfl, ?_, hRW.1, hRW.2.1, hRW.2.2.1, hRW.2.2.2.mono (by decide) (by decide)⟩
        ·show S_ p e below T723 m 318 #[vj j_, .second, vi f_, vi m_, vi n_, vi qa, vi qb, vj op, .second, vr b5, vr b33, vr b67, vi 1, vi 1, vi 0, vi 0, vi 2] [(ii 0)] _
         refine XS.iload X723.here hx rfl (hb hby at_318) rfl ?_
         refine yI X723.here hx rfl 320 327 rfl (hb hby at_320) rfl rfl ?_
         refine XS.iconst X723.here hx rfl (hb hby at_327) ?_
         refine XS.icmpNo X723.here hx rfl (hb hby at_328) rfl rfl ?_
         refine XS.iconst X723.here hx rfl (hb hby at_331) ?_
         refine yG X723.here hx rfl 332 336 rfl (hb hby at_332) ?_
         show S_ p e below T723 m 336 #[vj j_, .second, vi f_, vi m_, vi n_, vi qa, vi qb, vj op, .second, vr b5, vr b33, vr b67, vi 1, vi 1, vi 0, vi 0, vi 2] [(ii 1)] _
         exact retN X723 hx (t := .boolean) Bd.returns (by simp) (hb hby at_336) hr
        ·show Q_law Z j_ f_ m_ n_ sa5_ sa9_ sa13_ sa17_ h0 n0 _ T723.heap _
         rw [K725]
         exact ⟨rfl, N724, kp717⟩
       ·have c726 : Kt p e below T156 st0 (mkF m 178 #[vj j_, .second, vi f_, vi m_, vi n_, vi qa, vi qb, vj op, .second, vr b5, vr b33, vr b67, vi 1, vi 1, vi 0, vi 0, u_] [(rr b33), (rr b5)]) := fun t k => by
         refine c686 t ?_
         show S_ p e below T156 m 166 #[vj j_, .second, vi f_, vi m_, vi n_, vi qa, vi qb, vj op, .second, vr b5, vr b33, vr b67, vi 1, vi 1, vi 0, vi 0, u_] [(.int (f_ &&& (128 : Int32)))] t
         refine XS.ifNo X156.here hx rfl (hb hby at_166) rfl ((if0 _ _).trans (feq hc687).1) ?_
         refine XS.iload X156.here hx rfl (hb hby at_169) rfl ?_
         refine XS.ifNo X156.here hx rfl (hb hby at_171) rfl rfl ?_
         refine XS.aload X156.here hx rfl (hb hby at_174) rfl rfl ?_
         refine XS.aload X156.here hx rfl (hb hby at_176) rfl rfl ?_
         exact k
        obtain ⟨_, T727, L727, X727, hQ727, c727⟩ := kvirt X156 hx hZ72 hown72 (w94 hw) (w95 hw) (w97 hw) (w96 hw) (w98 hw) (w4 hw) (rm_addSN l Z a0 hw [] b5 b33 b13 b14 sa17_ mv122 h156 n0 o156 f166 f181 f169 f170 f183 f185 f186 f187 f188 g33 ZE7_ ZF8_ f171 g29 f175 f176 hc684) e156 f166 c726 hml pd_pLcom_example_lexchange_lexchange_Order_rV [(rr b33)] [] 0 (hb hby at_178) rfl rfl rfl rfl rfl rfl
        obtain ⟨rfl, N728q, K729, p730, p731, p732, p733, p734⟩ := hQ727
        have N728 := Fr.app N156 N728q
        have o735 := o156.keep K729 (allS g33 (allS g29 all0))
        have kp736 := kp156.trans K729 (allS (Or.inr z36) (allS (Or.inr z28) all0))
        have c737 : Kt p e below T727 st0 (mkF m 190 #[vj j_, .second, vi f_, vi m_, vi n_, vi qa, vi qb, vj op, .second, vr b5, vr b33, vr b67, vi 1, vi 1, vi 0, vi 0, u_] [(rr b67), (rr b5)]) := fun t k => by
         refine c727 t ?_
         show S_ p e below T727 m 181 #[vj j_, .second, vi f_, vi m_, vi n_, vi qa, vi qb, vj op, .second, vr b5, vr b33, vr b67, vi 1, vi 1, vi 0, vi 0, u_] [] t
         refine XS.iload X727.here hx rfl (hb hby at_181) rfl ?_
         refine XS.ifNo X727.here hx rfl (hb hby at_183) rfl rfl ?_
         refine XS.aload X727.here hx rfl (hb hby at_186) rfl rfl ?_
         refine XS.aload X727.here hx rfl (hb hby at_188) rfl rfl ?_
         exact k
        obtain ⟨_, T738, L738, X738, hQ738, c738⟩ := kvirt X727 hx hZ72 hown72 (w94 hw) (w95 hw) (w97 hw) (w96 hw) (w98 hw) (w4 hw) (rm_addSR l Z a0 hw [] b5 b67 b13 b14 sa17_ mv155 b33 T727.heap n0 o735 (f166.keep K729) (f189.keep K729) (f169.keep K729 (ninS q167 (ninS q190 nin0))) (f170.keep K729 (ninS q167 (ninS q190 nin0))) (f157.keep K729 (ninS q182.symm (ninS q174.symm nin0))) (f159.keep K729 (ninS q182.symm (ninS q174.symm nin0))) (f160.keep K729 (ninS q182.symm (ninS q174.symm nin0))) (f161.keep K729 (ninS q182.symm (ninS q174.symm nin0))) (f162.keep K729 (ninS q182.symm (ninS q174.symm nin0))) g67 ZE7_ ZF8_ (f171.keep K729) g29 p733 p734 (f181.keep K729) g33 q182 p730 p731 p732 hc685) rfl (f166.keep K729) c737 hml pd_pLcom_example_lexchange_lexchange_Order_rV [(rr b67)] [] 0 (hb hby at_190) rfl rfl rfl rfl rfl rfl
        obtain ⟨rfl, N739q, K740, p741, p742, p743, p744, p745, p746, p747, p748⟩ := hQ738
        have N739 := Fr.app N728 N739q
        have o749 := o735.keep K740 (allS g67 (allS g29 (allS g33 all0)))
        have kp750 := kp736.trans K740 (allS (Or.inr z70) (allS (Or.inr z28) (allS (Or.inr z36) all0)))
        have c751 : Kt p e below T738 st0 (mkF m 224 #[vj j_, .second, vi f_, vi m_, vi n_, vi qa, vi qb, vj op, .second, vr b5, vr b33, vr b67, vi 1, vi 1, vi 0, vi 0, u_] [(.int (f_ &&& (64 : Int32)))]) := fun t k => by
         refine c738 t ?_
         show S_ p e below T738 m 193 #[vj j_, .second, vi f_, vi m_, vi n_, vi qa, vi qb, vj op, .second, vr b5, vr b33, vr b67, vi 1, vi 1, vi 0, vi 0, u_] [] t
         refine yG X738.here hx rfl 193 220 rfl (hb hby at_193) ?_
         refine XS.iloadN X738.here hx rfl (hb hby at_220) rfl ?_
         refine XS.bipush X738.here hx rfl (hb hby at_221) ?_
         refine XS.iand X738.here hx rfl (hb hby at_223) rfl ?_
         exact k
        obtain ⟨T755, h755, L755, X755, e755, o755, K755, kp755, N755, c755⟩ : ∃ (T755 : State) (h755 : Heap) (L755 : List Loc), Stand p l e room_1 (s.setVm T72.vm) m #[(.long j_), (.int f_), (.int m_), (.int n_)] below meth c T755 L755 9 49 ∧ T755.heap = h755 ∧ Old Z n0 h755 ∧ Keep T738.heap h755 [] ∧ Keep h0 h755 [] ∧ Fr n0 L755 ∧ Kt p e below T755 st0 (mkF m 278 #[vj j_, .second, vi f_, vi m_, vi n_, vi qa, vi qb, vj op, .second, vr b5, vr b33, vr b67, vi 1, vi 1, vi 0, vi 0, u_] []) := by
         by_cases hc752 : (f_ &&& (64 : Int32)) = (0 : Int32)
         ·have c753 : Kt p e below T738 st0 (mkF m 278 #[vj j_, .second, vi f_, vi m_, vi n_, vi qa, vi qb, vj op, .second, vr b5, vr b33, vr b67, vi 1, vi 1, vi 0, vi 0, u_] []) := fun t k => by
           refine c751 t ?_
           show S_ p e below T738 m 224 #[vj j_, .second, vi f_, vi m_, vi n_, vi qa, vi qb, vj op, .second, vr b5, vr b33, vr b67, vi 1, vi 1, vi 0, vi 0, u_] [(.int (f_ &&& (64 : Int32)))] t
           refine yI X738.here hx rfl 224 254 rfl (hb hby at_224) rfl ((if0 _ _).trans (teq hc752).1) ?_
           refine XS.iload X738.here hx rfl (hb hby at_254) rfl ?_
           refine yI X738.here hx rfl 256 266 rfl (hb hby at_256) rfl rfl ?_
           refine XS.iload X738.here hx rfl (hb hby at_266) rfl ?_
           refine yI X738.here hx rfl 268 278 rfl (hb hby at_268) rfl rfl ?_
           exact k
          have K757 : Keep T738.heap T738.heap [] := (Keep.refl _ _)
          exact ⟨T738, _, _, X738.mono (by decide) (by decide), rfl, o749, K757, kp750, N739, c753⟩
         ·have c754 : Kt p e below T738 st0 (mkF m 278 #[vj j_, .second, vi f_, vi m_, vi n_, vi qa, vi qb, vj op, .second, vr b5, vr b33, vr b67, vi 1, vi 1, vi 0, vi 0, u_] []) := fun t k => by
           refine c751 t ?_
           show S_ p e below T738 m 224 #[vj j_, .second, vi f_, vi m_, vi n_, vi qa, vi qb, vj op, .second, vr b5, vr b33, vr b67, vi 1, vi 1, vi 0, vi 0, u_] [(.int (f_ &&& (64 : Int32)))] t
           refine XS.ifNo X738.here hx rfl (hb hby at_224) rfl ((if0 _ _).trans (feq hc752).1) ?_
           refine XS.iload X738.here hx rfl (hb hby at_227) rfl ?_
           refine yI X738.here hx rfl 229 239 rfl (hb hby at_229) rfl rfl ?_
           refine XS.iload X738.here hx rfl (hb hby at_239) rfl ?_
           refine yI X738.here hx rfl 241 278 rfl (hb hby at_241) rfl rfl ?_
           exact k
          have K756 : Keep T738.heap T738.heap [] := (Keep.refl _ _)
          exact ⟨T738, _, _, X738.mono (by decide) (by decide), rfl, o749, K756, kp750, N739, c754⟩
        have f758 := ((f169.keep K729 (ninS q167 (ninS q190 nin0))).keep K740 (ninS q168 (ninS q190 (ninS q167 nin0)))).keep K755 nin0
        have f759 := ((f170.keep K729 (ninS q167 (ninS q190 nin0))).keep K740 (ninS q168 (ninS q190 (ninS q167 nin0)))).keep K755 nin0
        have c760 : Kt p e below T755 st0 (mkF m 315 #[vj j_, .second, vi f_, vi m_, vi n_, vi qa, vi qb, vj op, .second, vr b5, vr b33, vr b67, vi 1, vi 1, vi 0, vi 0, vi 2] [(rr b5)]) := fun t k => by
         refine c755 t ?_
         show S_ p e below T755 m 278 #[vj j_, .second, vi f_, vi m_, vi n_, vi qa, vi qb, vj op, .second, vr b5, vr b33, vr b67, vi 1, vi 1, vi 0, vi 0, u_] [] t
         refine XS.iconst X755.here hx rfl (hb hby at_278) ?_
         refine XS.istore X755.here hx rfl (hb hby at_279) rfl (l' := #[vj j_, .second, vi f_, vi m_, vi n_, vi qa, vi qb, vj op, .second, vr b5, vr b33, vr b67, vi 1, vi 1, vi 0, vi 0, vi 0]) rfl ?_
         refine XS.iload X755.here hx rfl (hb hby at_281) rfl ?_
         refine XS.ifNo X755.here hx rfl (hb hby at_283) rfl rfl ?_
         refine XS.iload X755.here hx rfl (hb hby at_286) rfl ?_
         refine XS.ifNo X755.here hx rfl (hb hby at_288) rfl rfl ?_
         refine XS.iload X755.here hx rfl (hb hby at_291) rfl ?_
         refine XS.iconst X755.here hx rfl (hb hby at_293) ?_
         show S_ p e below T755 m 294 #[vj j_, .second, vi f_, vi m_, vi n_, vi qa, vi qb, vj op, .second, vr b5, vr b33, vr b67, vi 1, vi 1, vi 0, vi 0, vi 0] [(ii 1), (ii 0)] t
         refine XS.iadd X755.here hx rfl (hb hby at_294) rfl ?_
         refine XS.istore X755.here hx rfl (hb hby at_295) rfl (l' := #[vj j_, .second, vi f_, vi m_, vi n_, vi qa, vi qb, vj op, .second, vr b5, vr b33, vr b67, vi 1, vi 1, vi 0, vi 0, vi 1]) rfl ?_
         refine XS.iload X755.here hx rfl (hb hby at_297) rfl ?_
         refine XS.ifNo X755.here hx rfl (hb hby at_299) rfl rfl ?_
         refine XS.iload X755.here hx rfl (hb hby at_302) rfl ?_
         refine XS.ifNo X755.here hx rfl (hb hby at_304) rfl rfl ?_
         refine XS.iload X755.here hx rfl (hb hby at_307) rfl ?_
         refine XS.iconst X755.here hx rfl (hb hby at_309) ?_
         show S_ p e below T755 m 310 #[vj j_, .second, vi f_, vi m_, vi n_, vi qa, vi qb, vj op, .second, vr b5, vr b33, vr b67, vi 1, vi 1, vi 0, vi 0, vi 1] [(ii 1), (ii 1)] t
         refine XS.iadd X755.here hx rfl (hb hby at_310) rfl ?_
         refine XS.istore X755.here hx rfl (hb hby at_311) rfl (l' := #[vj j_, .second, vi f_, vi m_, vi n_, vi qa, vi qb, vj op, .second, vr b5, vr b33, vr b67, vi 1, vi 1, vi 0, vi 0, vi 2]) rfl ?_
         refine XS.aload X755.here hx rfl (hb hby at_313) rfl rfl ?_
         exact k
        obtain ⟨_, T761, L761, X761, hQ761, c761⟩ := kvirt X755 hx hZ72 hown72 (w87 hw) (w88 hw) (w90 hw) (w89 hw) (w91 hw) (w4 hw) (rm_emS l Z a0 hw [] b5 b13 b14 b33 h755 n0 o755 (((f166.keep K729).keep K740).keep K755) f758 f759 (p744.keep K755 nin0)) e755 (((f166.keep K729).keep K740).keep K755) c760 hml pd_prZ [] [] 0 (hb hby at_315) rfl rfl rfl rfl rfl rfl
        obtain ⟨rfl, N762q, K763⟩ := hQ761
        have N762 := Fr.app N755 N762q
        obtain ⟨fs, hr, hrun, hended, hRW⟩ := X761.leaveW hS72 (by first | exact (Nat.le_trans hk72 (Nat.le_trans (Nat.le_trans (Nat.le_trans (Nat.le_trans (Nat.le_trans K91.1 K123.1) K156.1) K729.1) K740.1) K755.1)) | (rw [K763]; exact (Nat.le_trans hk72 (Nat.le_trans (Nat.le_trans (Nat.le_trans (Nat.le_trans (Nat.le_trans K91.1 K123.1) K156.1) K729.1) K740.1) K755.1)))) (v := some (ii 1)) (fun h => by rw [Bd.returns] at h; cases h)
        refine ⟨_, _, c761 _ ?_, hrun, hended, _, _, rfl, ?_, hRW.1, hRW.2.1, hRW.2.2.1, hRW.2.2.2.mono (by decide) (by decide)⟩
        ·show S_ p e below T761 m 318 #[vj j_, .second, vi f_, vi m_, vi n_, vi qa, vi qb, vj op, .second, vr b5, vr b33, vr b67, vi 1, vi 1, vi 0, vi 0, vi 2] [(ii 0)] _
         refine XS.iload X761.here hx rfl (hb hby at_318) rfl ?_
         refine yI X761.here hx rfl 320 327 rfl (hb hby at_320) rfl rfl ?_
         refine XS.iconst X761.here hx rfl (hb hby at_327) ?_
         refine XS.icmpNo X761.here hx rfl (hb hby at_328) rfl rfl ?_
         refine XS.iconst X761.here hx rfl (hb hby at_331) ?_
         refine yG X761.here hx rfl 332 336 rfl (hb hby at_332) ?_
         show S_ p e below T761 m 336 #[vj j_, .second, vi f_, vi m_, vi n_, vi qa, vi qb, vj op, .second, vr b5, vr b33, vr b67, vi 1, vi 1, vi 0, vi 0, vi 2] [(ii 1)] _
         exact retN X761 hx (t := .boolean) Bd.returns (by simp) (hb hby at_336) hr
        ·show Q_law Z j_ f_ m_ n_ sa5_ sa9_ sa13_ sa17_ h0 n0 _ T761.heap _
         rw [K763]
         exact ⟨rfl, N762, kp755⟩
      ·have c764 : Kt p e below T156 st0 (mkF m 166 #[vj j_, .second, vi f_, vi m_, vi n_, vi qa, vi qb, vj op, .second, vr b5, vr b33, vr b67, vi 1, vi 1, vi 0, vi 0, u_] [(.int (f_ &&& (128 : Int32)))]) := fun t k => by
        refine c683 t ?_
        show S_ p e below T156 m 161 #[vj j_, .second, vi f_, vi m_, vi n_, vi qa, vi qb, vj op, .second, vr b5, vr b33, vr b67, vi 1, vi 1, vi 0, vi 0, u_] [] t
        refine XS.iloadN X156.here hx rfl (hb hby at_161) rfl ?_
        refine XS.sipush X156.here hx rfl (hb hby at_162) ?_
        refine XS.iand X156.here hx rfl (hb hby at_165) rfl ?_
        exact k
       obtain ⟨T811, h811, L811, X811, e811, o811, K811, kp811, N811, f812, f813, f814, f815, f816, f817, f818, f819, f820, f821, c811⟩ : ∃ (T811 : State) (h811 : Heap) (L811 : List Loc), Stand p l e room_1 (s.setVm T72.vm) m #[(.long j_), (.int f_), (.int m_), (.int n_)] below meth c T811 L811 9 49 ∧ T811.heap = h811 ∧ Old Z n0 h811 ∧ Keep h156 h811 [b67, b14, b33, b13] ∧ Keep h0 h811 [] ∧ Fr n0 L811 ∧ Fld Z h811 b13 nm2 "head" nm1 (rr b33) ∧ Fld Z h811 b13 nm2 "tail" nm1 (rr b33) ∧ Fld Z h811 b14 nm2 "head" nm1 (rr b67) ∧ Fld Z h811 b14 nm2 "tail" nm1 (rr b67) ∧ Fld Z h811 b33 nm0 "queue" nm4 (rr b5) ∧ Fld Z h811 b33 nm0 "previous" nm1 .null ∧ Fld Z h811 b33 nm0 "next" nm1 .null ∧ Fld Z h811 b67 nm0 "queue" nm4 (rr b5) ∧ Fld Z h811 b67 nm0 "previous" nm1 .null ∧ Fld Z h811 b67 nm0 "next" nm1 .null ∧ Kt p e below T811 st0 (mkF m 220 #[vj j_, .second, vi f_, vi m_, vi n_, vi qa, vi qb, vj op, .second, vr b5, vr b33, vr b67, vi 1, vi 1, vi 0, vi 0, u_] []) := by
        by_cases hc765 : (f_ &&& (128 : Int32)) = (0 : Int32)
        ·have c766 : Kt p e below T156 st0 (mkF m 205 #[vj j_, .second, vi f_, vi m_, vi n_, vi qa, vi qb, vj op, .second, vr b5, vr b33, vr b67, vi 1, vi 1, vi 0, vi 0, u_] [(rr b67), (rr b5)]) := fun t k => by
          refine c764 t ?_
          show S_ p e below T156 m 166 #[vj j_, .second, vi f_, vi m_, vi n_, vi qa, vi qb, vj op, .second, vr b5, vr b33, vr b67, vi 1, vi 1, vi 0, vi 0, u_] [(.int (f_ &&& (128 : Int32)))] t
          refine yI X156.here hx rfl 166 196 rfl (hb hby at_166) rfl ((if0 _ _).trans (teq hc765).1) ?_
          refine XS.iload X156.here hx rfl (hb hby at_196) rfl ?_
          refine XS.ifNo X156.here hx rfl (hb hby at_198) rfl rfl ?_
          refine XS.aload X156.here hx rfl (hb hby at_201) rfl rfl ?_
          refine XS.aload X156.here hx rfl (hb hby at_203) rfl rfl ?_
          exact k
         obtain ⟨_, T767, L767, X767, hQ767, c767⟩ := kvirt X156 hx hZ72 hown72 (w94 hw) (w95 hw) (w97 hw) (w96 hw) (w98 hw) (w4 hw) (rm_addHN l Z a0 hw [] b5 b67 b13 b14 sa17_ mv155 h156 n0 o156 f166 f189 f169 f170 f157 f159 f160 f161 f162 g67 ZE7_ ZF8_ f172 g31 f179 f180 hc685) e156 f166 c766 hml pd_pLcom_example_lexchange_lexchange_Order_rV [(rr b67)] [] 0 (hb hby at_205) rfl rfl rfl rfl rfl rfl
         obtain ⟨rfl, N768q, K769, p770, p771, p772, p773, p774⟩ := hQ767
         have N768 := Fr.app N156 N768q
         have o775 := o156.keep K769 (allS g67 (allS g31 all0))
         have kp776 := kp156.trans K769 (allS (Or.inr z70) (allS (Or.inr z30) all0))
         have c777 : Kt p e below T767 st0 (mkF m 217 #[vj j_, .second, vi f_, vi m_, vi n_, vi qa, vi qb, vj op, .second, vr b5, vr b33, vr b67, vi 1, vi 1, vi 0, vi 0, u_] [(rr b33), (rr b5)]) := fun t k => by
          refine c767 t ?_
          show S_ p e below T767 m 208 #[vj j_, .second, vi f_, vi m_, vi n_, vi qa, vi qb, vj op, .second, vr b5, vr b33, vr b67, vi 1, vi 1, vi 0, vi 0, u_] [] t
          refine XS.iload X767.here hx rfl (hb hby at_208) rfl ?_
          refine XS.ifNo X767.here hx rfl (hb hby at_210) rfl rfl ?_
          refine XS.aload X767.here hx rfl (hb hby at_213) rfl rfl ?_
          refine XS.aload X767.here hx rfl (hb hby at_215) rfl rfl ?_
          exact k
         obtain ⟨_, T778, L778, X778, hQ778, c778⟩ := kvirt X767 hx hZ72 hown72 (w94 hw) (w95 hw) (w97 hw) (w96 hw) (w98 hw) (w4 hw) (rm_addSN l Z a0 hw [] b5 b33 b13 b14 sa17_ mv122 T767.heap n0 o775 (f166.keep K769) (f181.keep K769) (f169.keep K769 (ninS q168 (ninS q191 nin0))) (f170.keep K769 (ninS q168 (ninS q191 nin0))) (f183.keep K769 (ninS q182 (ninS q177.symm nin0))) (f185.keep K769 (ninS q182 (ninS q177.symm nin0))) (f186.keep K769 (ninS q182 (ninS q177.symm nin0))) (f187.keep K769 (ninS q182 (ninS q177.symm nin0))) (f188.keep K769 (ninS q182 (ninS q177.symm nin0))) g33 ZE7_ ZF8_ (f171.keep K769) g29 (f175.keep K769 (ninS q174 (ninS p25 nin0))) (f176.keep K769 (ninS q174 (ninS p25 nin0))) hc684) rfl (f166.keep K769) c777 hml pd_pLcom_example_lexchange_lexchange_Order_rV [(rr b33)] [] 0 (hb hby at_217) rfl rfl rfl rfl rfl rfl
         obtain ⟨rfl, N779q, K780, p781, p782, p783, p784, p785⟩ := hQ778
         have N779 := Fr.app N768 N779q
         have o786 := o775.keep K780 (allS g33 (allS g29 all0))
         have kp787 := kp776.trans K780 (allS (Or.inr z36) (allS (Or.inr z28) all0))
         have K823 : Keep h156 T778.heap [b67, b14, b33, b13] := (((Keep.refl _ _).trans K769 (allS (Or.inl (List.mem_of_getElem? (i := 0) rfl)) (allS (Or.inl (List.mem_of_getElem? (i := 1) rfl)) all0))).trans K780 (allS (Or.inl (List.mem_of_getElem? (i := 2) rfl)) (allS (Or.inl (List.mem_of_getElem? (i := 3) rfl)) all0)))
         exact ⟨T778, _, _, X778.mono (by decide) (by decide), rfl, o786, K823, kp787, N779, p784, p785, (p773.keep K780 (ninS q177 (ninS p25.symm nin0))), (p774.keep K780 (ninS q177 (ninS p25.symm nin0))), p781, p782, p783, (p770.keep K780 (ninS q182.symm (ninS q174.symm nin0))), (p771.keep K780 (ninS q182.symm (ninS q174.symm nin0))), (p772.keep K780 (ninS q182.symm (ninS q174.symm nin0))), c778⟩
        ·have c788 : Kt p e below T156 st0 (mkF m 178 #[vj j_, .second, vi f_, vi m_, vi n_, vi qa, vi qb, vj op, .second, vr b5, vr b33, vr b67, vi 1, vi 1, vi 0, vi 0, u_] [(rr b33), (rr b5)]) := fun t k => by
          refine c764 t ?_
          show S_ p e below T156 m 166 #[vj j_, .second, vi f_, vi m_, vi n_, vi qa, vi qb, vj op, .second, vr b5, vr b33, vr b67, vi 1, vi 1, vi 0, vi 0, u_] [(.int (f_ &&& (128 : Int32)))] t
          refine XS.ifNo X156.here hx rfl (hb hby at_166) rfl ((if0 _ _).trans (feq hc765).1) ?_
          refine XS.iload X156.here hx rfl (hb hby at_169) rfl ?_
          refine XS.ifNo X156.here hx rfl (hb hby at_171) rfl rfl ?_
          refine XS.aload X156.here hx rfl (hb hby at_174) rfl rfl ?_
          refine XS.aload X156.here hx rfl (hb hby at_176) rfl rfl ?_
          exact k
         obtain ⟨_, T789, L789, X789, hQ789, c789⟩ := kvirt X156 hx hZ72 hown72 (w94 hw) (w95 hw) (w97 hw) (w96 hw) (w98 hw) (w4 hw) (rm_addSN l Z a0 hw [] b5 b33 b13 b14 sa17_ mv122 h156 n0 o156 f166 f181 f169 f170 f183 f185 f186 f187 f188 g33 ZE7_ ZF8_ f171 g29 f175 f176 hc684) e156 f166 c788 hml pd_pLcom_example_lexchange_lexchange_Order_rV [(rr b33)] [] 0 (hb hby at_178) rfl rfl rfl rfl rfl rfl
         obtain ⟨rfl, N790q, K791, p792, p793, p794, p795, p796⟩ := hQ789
         have N790 := Fr.app N156 N790q
         have o797 := o156.keep K791 (allS g33 (allS g29 all0))
         have kp798 := kp156.trans K791 (allS (Or.inr z36) (allS (Or.inr z28) all0))
         have c799 : Kt p e below T789 st0 (mkF m 190 #[vj j_, .second, vi f_, vi m_, vi n_, vi qa, vi qb, vj op, .second, vr b5, vr b33, vr b67, vi 1, vi 1, vi 0, vi 0, u_] [(rr b67), (rr b5)]) := fun t k => by
          refine c789 t ?_
          show S_ p e below T789 m 181 #[vj j_, .second, vi f_, vi m_, vi n_, vi qa, vi qb, vj op, .second, vr b5, vr b33, vr b67, vi 1, vi 1, vi 0, vi 0, u_] [] t
          refine XS.iload X789.here hx rfl (hb hby at_181) rfl ?_
          refine XS.ifNo X789.here hx rfl (hb hby at_183) rfl rfl ?_
          refine XS.aload X789.here hx rfl (hb hby at_186) rfl rfl ?_
          refine XS.aload X789.here hx rfl (hb hby at_188) rfl rfl ?_
          exact k
         obtain ⟨_, T800, L800, X800, hQ800, c800⟩ := kvirt X789 hx hZ72 hown72 (w94 hw) (w95 hw) (w97 hw) (w96 hw) (w98 hw) (w4 hw) (rm_addHN l Z a0 hw [] b5 b67 b13 b14 sa17_ mv155 T789.heap n0 o797 (f166.keep K791) (f189.keep K791) (f169.keep K791 (ninS q167 (ninS q190 nin0))) (f170.keep K791 (ninS q167 (ninS q190 nin0))) (f157.keep K791 (ninS q182.symm (ninS q174.symm nin0))) (f159.keep K791 (ninS q182.symm (ninS q174.symm nin0))) (f160.keep K791 (ninS q182.symm (ninS q174.symm nin0))) (f161.keep K791 (ninS q182.symm (ninS q174.symm nin0))) (f162.keep K791 (ninS q182.symm (ninS q174.symm nin0))) g67 ZE7_ ZF8_ (f172.keep K791) g31 (f179.keep K791 (ninS q177 (ninS p25.symm nin0))) (f180.keep K791 (ninS q177 (ninS p25.symm nin0))) hc685) rfl (f166.keep K791) c799 hml pd_pLcom_example_lexchange_lexchange_Order_rV [(rr b67)] [] 0 (hb hby at_190) rfl rfl rfl rfl rfl rfl
         obtain ⟨rfl, N801q, K802, p803, p804, p805, p806, p807⟩ := hQ800
         have N801 := Fr.app N790 N801q
         have o808 := o797.keep K802 (allS g67 (allS g31 all0))
         have kp809 := kp798.trans K802 (allS (Or.inr z70) (allS (Or.inr z30) all0))
         have c810 : Kt p e below T800 st0 (mkF m 220 #[vj j_, .second, vi f_, vi m_, vi n_, vi qa, vi qb, vj op, .second, vr b5, vr b33, vr b67, vi 1, vi 1, vi 0, vi 0, u_] []) := fun t k => by
          refine c800 t ?_
          show S_ p e below T800 m 193 #[vj j_, .second, vi f_, vi m_, vi n_, vi qa, vi qb, vj op, .second, vr b5, vr b33, vr b67, vi 1, vi 1, vi 0, vi 0, u_] [] t
          refine yG X800.here hx rfl 193 220 rfl (hb hby at_193) ?_
          exact k
         have K822 : Keep h156 T800.heap [b67, b14, b33, b13] := (((Keep.refl _ _).trans K791 (allS (Or.inl (List.mem_of_getElem? (i := 2) rfl)) (allS (Or.inl (List.mem_of_getElem? (i := 3) rfl)) all0))).trans K802 (allS (Or.inl (List.mem_of_getElem? (i := 0) rfl)) (allS (Or.inl (List.mem_of_getElem? (i := 1) rfl)) all0)))
         exact ⟨T800, _, _, X800.mono (by decide) (by decide), rfl, o808, K822, kp809, N801, (p795.keep K802 (ninS q174 (ninS p25 nin0))), (p796.keep K802 (ninS q174 (ninS p25 nin0))), p806, p807, (p792.keep K802 (ninS q182 (ninS q177.symm nin0))), (p793.keep K802 (ninS q182 (ninS q177.symm nin0))), (p794.keep K802 (ninS q182 (ninS q177.symm nin0))), p803, p804, p805, c810⟩
       have c824 : Kt p e below T811 st0 (mkF m 224 #[vj j_, .second, vi f_, vi m_, vi n_, vi qa, vi qb, vj op, .second, vr b5, vr b33, vr b67, vi 1, vi 1, vi 0, vi 0, u_] [(.int (f_ &&& (64 : Int32)))]) := fun t k => by
        refine c811 t ?_
        show S_ p e below T811 m 220 #[vj j_, .second, vi f_, vi m_, vi n_, vi qa, vi qb, vj op, .second, vr b5, vr b33, vr b67, vi 1, vi 1, vi 0, vi 0, u_] [] t
        refine XS.iloadN X811.here hx rfl (hb hby at_220) rfl ?_
        refine XS.bipush X811.here hx rfl (hb hby at_221) ?_
        refine XS.iand X811.here hx rfl (hb hby at_223) rfl ?_
        exact k
       obtain ⟨T828, h828, L828, X828, e828, o828, K828, kp828, N828, c828⟩ : ∃ (T828 : State) (h828 : Heap) (L828 : List Loc), Stand p l e room_1 (s.setVm T72.vm) m #[(.long j_), (.int f_), (.int m_), (.int n_)] below meth c T828 L828 9 49 ∧ T828.heap = h828 ∧ Old Z n0 h828 ∧ Keep h811 h828 [] ∧ Keep h0 h828 [] ∧ Fr n0 L828 ∧ Kt p e below T828 st0 (mkF m 278 #[vj j_, .second, vi f_, vi m_, vi n_, vi qa, vi qb, vj op, .second, vr b5, vr b33, vr b67, vi 1, vi 1, vi 0, vi 0, u_] []) := by
        by_cases hc825 : (f_ &&& (64 : Int32)) = (0 : Int32)
        ·have c826 : Kt p e below T811 st0 (mkF m 278 #[vj j_, .second, vi f_, vi m_, vi n_, vi qa, vi qb, vj op, .second, vr b5, vr b33, vr b67, vi 1, vi 1, vi 0, vi 0, u_] []) := fun t k => by
          refine c824 t ?_
          show S_ p e below T811 m 224 #[vj j_, .second, vi f_, vi m_, vi n_, vi qa, vi qb, vj op, .second, vr b5, vr b33, vr b67, vi 1, vi 1, vi 0, vi 0, u_] [(.int (f_ &&& (64 : Int32)))] t
          refine yI X811.here hx rfl 224 254 rfl (hb hby at_224) rfl ((if0 _ _).trans (teq hc825).1) ?_
          refine XS.iload X811.here hx rfl (hb hby at_254) rfl ?_
          refine yI X811.here hx rfl 256 266 rfl (hb hby at_256) rfl rfl ?_
          refine XS.iload X811.here hx rfl (hb hby at_266) rfl ?_
          refine yI X811.here hx rfl 268 278 rfl (hb hby at_268) rfl rfl ?_
          exact k
         have K830 : Keep h811 h811 [] := (Keep.refl _ _)
         exact ⟨T811, _, _, X811.mono (by decide) (by decide), e811, o811, K830, kp811, N811, c826⟩
        ·have c827 : Kt p e below T811 st0 (mkF m 278 #[vj j_, .second, vi f_, vi m_, vi n_, vi qa, vi qb, vj op, .second, vr b5, vr b33, vr b67, vi 1, vi 1, vi 0, vi 0, u_] []) := fun t k => by
          refine c824 t ?_
          show S_ p e below T811 m 224 #[vj j_, .second, vi f_, vi m_, vi n_, vi qa, vi qb, vj op, .second, vr b5, vr b33, vr b67, vi 1, vi 1, vi 0, vi 0, u_] [(.int (f_ &&& (64 : Int32)))] t
          refine XS.ifNo X811.here hx rfl (hb hby at_224) rfl ((if0 _ _).trans (feq hc825).1) ?_
          refine XS.iload X811.here hx rfl (hb hby at_227) rfl ?_
          refine yI X811.here hx rfl 229 239 rfl (hb hby at_229) rfl rfl ?_
          refine XS.iload X811.here hx rfl (hb hby at_239) rfl ?_
          refine yI X811.here hx rfl 241 278 rfl (hb hby at_241) rfl rfl ?_
          exact k
         have K829 : Keep h811 h811 [] := (Keep.refl _ _)
         exact ⟨T811, _, _, X811.mono (by decide) (by decide), e811, o811, K829, kp811, N811, c827⟩
       have c831 : Kt p e below T828 st0 (mkF m 315 #[vj j_, .second, vi f_, vi m_, vi n_, vi qa, vi qb, vj op, .second, vr b5, vr b33, vr b67, vi 1, vi 1, vi 0, vi 0, vi 2] [(rr b5)]) := fun t k => by
        refine c828 t ?_
        show S_ p e below T828 m 278 #[vj j_, .second, vi f_, vi m_, vi n_, vi qa, vi qb, vj op, .second, vr b5, vr b33, vr b67, vi 1, vi 1, vi 0, vi 0, u_] [] t
        refine XS.iconst X828.here hx rfl (hb hby at_278) ?_
        refine XS.istore X828.here hx rfl (hb hby at_279) rfl (l' := #[vj j_, .second, vi f_, vi m_, vi n_, vi qa, vi qb, vj op, .second, vr b5, vr b33, vr b67, vi 1, vi 1, vi 0, vi 0, vi 0]) rfl ?_
        refine XS.iload X828.here hx rfl (hb hby at_281) rfl ?_
        refine XS.ifNo X828.here hx rfl (hb hby at_283) rfl rfl ?_
        refine XS.iload X828.here hx rfl (hb hby at_286) rfl ?_
        refine XS.ifNo X828.here hx rfl (hb hby at_288) rfl rfl ?_
        refine XS.iload X828.here hx rfl (hb hby at_291) rfl ?_
        refine XS.iconst X828.here hx rfl (hb hby at_293) ?_
        show S_ p e below T828 m 294 #[vj j_, .second, vi f_, vi m_, vi n_, vi qa, vi qb, vj op, .second, vr b5, vr b33, vr b67, vi 1, vi 1, vi 0, vi 0, vi 0] [(ii 1), (ii 0)] t
        refine XS.iadd X828.here hx rfl (hb hby at_294) rfl ?_
        refine XS.istore X828.here hx rfl (hb hby at_295) rfl (l' := #[vj j_, .second, vi f_, vi m_, vi n_, vi qa, vi qb, vj op, .second, vr b5, vr b33, vr b67, vi 1, vi 1, vi 0, vi 0, vi 1]) rfl ?_
        refine XS.iload X828.here hx rfl (hb hby at_297) rfl ?_
        refine XS.ifNo X828.here hx rfl (hb hby at_299) rfl rfl ?_
        refine XS.iload X828.here hx rfl (hb hby at_302) rfl ?_
        refine XS.ifNo X828.here hx rfl (hb hby at_304) rfl rfl ?_
        refine XS.iload X828.here hx rfl (hb hby at_307) rfl ?_
        refine XS.iconst X828.here hx rfl (hb hby at_309) ?_
        show S_ p e below T828 m 310 #[vj j_, .second, vi f_, vi m_, vi n_, vi qa, vi qb, vj op, .second, vr b5, vr b33, vr b67, vi 1, vi 1, vi 0, vi 0, vi 1] [(ii 1), (ii 1)] t
        refine XS.iadd X828.here hx rfl (hb hby at_310) rfl ?_
        refine XS.istore X828.here hx rfl (hb hby at_311) rfl (l' := #[vj j_, .second, vi f_, vi m_, vi n_, vi qa, vi qb, vj op, .second, vr b5, vr b33, vr b67, vi 1, vi 1, vi 0, vi 0, vi 2]) rfl ?_
        refine XS.aload X828.here hx rfl (hb hby at_313) rfl rfl ?_
        exact k
       obtain ⟨_, T832, L832, X832, hQ832, c832⟩ := kvirt X828 hx hZ72 hown72 (w87 hw) (w88 hw) (w90 hw) (w89 hw) (w91 hw) (w4 hw) (rm_emS l Z a0 hw [] b5 b13 b14 b33 h828 n0 o828 ((f166.keep K811).keep K828) ((f169.keep K811 (ninS q168 (ninS q191 (ninS q167 (ninS q190 nin0))))).keep K828 nin0) ((f170.keep K811 (ninS q168 (ninS q191 (ninS q167 (ninS q190 nin0))))).keep K828 nin0) (f812.keep K828 nin0)) e828 ((f166.keep K811).keep K828) c831 hml pd_prZ [] [] 0 (hb hby at_315) rfl rfl rfl rfl rfl rfl
       obtain ⟨rfl, N833q, K834⟩ := hQ832
       have N833 := Fr.app N828 N833q
       obtain ⟨fs, hr, hrun, hended, hRW⟩ := X832.leaveW hS72 (by first | exact (Nat.le_trans hk72 (Nat.le_trans (Nat.le_trans (Nat.le_trans (Nat.le_trans K91.1 K123.1) K156.1) K811.1) K828.1)) | (rw [K834]; exact (Nat.le_trans hk72 (Nat.le_trans (Nat.le_trans (Nat.le_trans (Nat.le_trans K91.1 K123.1) K156.1) K811.1) K828.1)))) (v := some (ii 1)) (fun h => by rw [Bd.returns] at h; cases h)
       refine ⟨_, _, c832 _ ?_, hrun, hended, _, _, rfl, ?_, hRW.1, hRW.2.1, hRW.2.2.1, hRW.2.2.2.mono (by decide) (by decide)⟩
       ·show S_ p e below T832 m 318 #[vj j_, .second, vi f_, vi m_, vi n_, vi qa, vi qb, vj op, .second, vr b5, vr b33, vr b67, vi 1, vi 1, vi 0, vi 0, vi 2] [(ii 0)] _
        refine XS.iload X832.here hx rfl (hb hby at_318) rfl ?_
        refine yI X832.here hx rfl 320 327 rfl (hb hby at_320) rfl rfl ?_
        refine XS.iconst X832.here hx rfl (hb hby at_327) ?_
        refine XS.icmpNo X832.here hx rfl (hb hby at_328) rfl rfl ?_
        refine XS.iconst X832.here hx rfl (hb hby at_331) ?_
        refine yG X832.here hx rfl 332 336 rfl (hb hby at_332) ?_
        show S_ p e below T832 m 336 #[vj j_, .second, vi f_, vi m_, vi n_, vi qa, vi qb, vj op, .second, vr b5, vr b33, vr b67, vi 1, vi 1, vi 0, vi 0, vi 2] [(ii 1)] _
        exact retN X832 hx (t := .boolean) Bd.returns (by simp) (hb hby at_336) hr
       ·show Q_law Z j_ f_ m_ n_ sa5_ sa9_ sa13_ sa17_ h0 n0 _ T832.heap _
        rw [K834]
        exact ⟨rfl, N833, kp828⟩
     ·by_cases hc835 : (0 : Int32) < mv155
      ·have c836 : Kt p e below T156 st0 (mkF m 166 #[vj j_, .second, vi f_, vi m_, vi n_, vi qa, vi qb, vj op, .second, vr b5, vr b33, vr b67, vi 1, vi 1, vi 0, vi 0, u_] [(.int (f_ &&& (128 : Int32)))]) := fun t k => by
        refine c683 t ?_
        show S_ p e below T156 m 161 #[vj j_, .second, vi f_, vi m_, vi n_, vi qa, vi qb, vj op, .second, vr b5, vr b33, vr b67, vi 1, vi 1, vi 0, vi 0, u_] [] t
        refine XS.iloadN X156.here hx rfl (hb hby at_161) rfl ?_
        refine XS.sipush X156.here hx rfl (hb hby at_162) ?_
        refine XS.iand X156.here hx rfl (hb hby at_165) rfl ?_
        exact k
       obtain ⟨T883, h883, L883, X883, e883, o883, K883, kp883, N883, f884, f885, f886, f887, f888, f889, f890, f891, f892, f893, c883⟩ : ∃ (T883 : State) (h883 : Heap) (L883 : List Loc), Stand p l e room_1 (s.setVm T72.vm) m #[(.long j_), (.int f_), (.int m_), (.int n_)] below meth c T883 L883 9 49 ∧ T883.heap = h883 ∧ Old Z n0 h883 ∧ Keep h156 h883 [b67, b13, b33, b14] ∧ Keep h0 h883 [] ∧ Fr n0 L883 ∧ Fld Z h883 b13 nm2 "head" nm1 (rr b67) ∧ Fld Z h883 b13 nm2 "tail" nm1 (rr b67) ∧ Fld Z h883 b14 nm2 "head" nm1 (rr b33) ∧ Fld Z h883 b14 nm2 "tail" nm1 (rr b33) ∧ Fld Z h883 b33 nm0 "queue" nm4 (rr b5) ∧ Fld Z h883 b33 nm0 "previous" nm1 .null ∧ Fld Z h883 b33 nm0 "next" nm1 .null ∧ Fld Z h883 b67 nm0 "queue" nm4 (rr b5) ∧ Fld Z h883 b67 nm0 "previous" nm1 .null ∧ Fld Z h883 b67 nm0 "next" nm1 .null ∧ Kt p e below T883 st0 (mkF m 220 #[vj j_, .second, vi f_, vi m_, vi n_, vi qa, vi qb, vj op, .second, vr b5, vr b33, vr b67, vi 1, vi 1, vi 0, vi 0, u_] []) := by
        by_cases hc837 : (f_ &&& (128 : Int32)) = (0 : Int32)
        ·have c838 : Kt p e below T156 st0 (mkF m 205 #[vj j_, .second, vi f_, vi m_, vi n_, vi qa, vi qb, vj op, .second, vr b5, vr b33, vr b67, vi 1, vi 1, vi 0, vi 0, u_] [(rr b67), (rr b5)]) := fun t k => by
          refine c836 t ?_
          show S_ p e below T156 m 166 #[vj j_, .second, vi f_, vi m_, vi n_, vi qa, vi qb, vj op, .second, vr b5, vr b33, vr b67, vi 1, vi 1, vi 0, vi 0, u_] [(.int (f_ &&& (128 : Int32)))] t
          refine yI X156.here hx rfl 166 196 rfl (hb hby at_166) rfl ((if0 _ _).trans (teq hc837).1) ?_
          refine XS.iload X156.here hx rfl (hb hby at_196) rfl ?_
          refine XS.ifNo X156.here hx rfl (hb hby at_198) rfl rfl ?_
          refine XS.aload X156.here hx rfl (hb hby at_201) rfl rfl ?_
          refine XS.aload X156.here hx rfl (hb hby at_203) rfl rfl ?_
          exact k
         obtain ⟨_, T839, L839, X839, hQ839, c839⟩ := kvirt X156 hx hZ72 hown72 (w94 hw) (w95 hw) (w97 hw) (w96 hw) (w98 hw) (w4 hw) (rm_addSN l Z a0 hw [] b5 b67 b13 b14 sa17_ mv155 h156 n0 o156 f166 f189 f169 f170 f157 f159 f160 f161 f162 g67 ZE7_ ZF8_ f171 g29 f175 f176 hc835) e156 f166 c838 hml pd_pLcom_example_lexchange_lexchange_Order_rV [(rr b67)] [] 0 (hb hby at_205) rfl rfl rfl rfl rfl rfl
         obtain ⟨rfl, N840q, K841, p842, p843, p844, p845, p846⟩ := hQ839
         have N840 := Fr.app N156 N840q
         have o847 := o156.keep K841 (allS g67 (allS g29 all0))
         have kp848 := kp156.trans K841 (allS (Or.inr z70) (allS (Or.inr z28) all0))
         have c849 : Kt p e below T839 st0 (mkF m 217 #[vj j_, .second, vi f_, vi m_, vi n_, vi qa, vi qb, vj op, .second, vr b5, vr b33, vr b67, vi 1, vi 1, vi 0, vi 0, u_] [(rr b33), (rr b5)]) := fun t k => by
          refine c839 t ?_
          show S_ p e below T839 m 208 #[vj j_, .second, vi f_, vi m_, vi n_, vi qa, vi qb, vj op, .second, vr b5, vr b33, vr b67, vi 1, vi 1, vi 0, vi 0, u_] [] t
          refine XS.iload X839.here hx rfl (hb hby at_208) rfl ?_
          refine XS.ifNo X839.here hx rfl (hb hby at_210) rfl rfl ?_
          refine XS.aload X839.here hx rfl (hb hby at_213) rfl rfl ?_
          refine XS.aload X839.here hx rfl (hb hby at_215) rfl rfl ?_
          exact k
         obtain ⟨_, T850, L850, X850, hQ850, c850⟩ := kvirt X839 hx hZ72 hown72 (w94 hw) (w95 hw) (w97 hw) (w96 hw) (w98 hw) (w4 hw) (rm_addHN l Z a0 hw [] b5 b33 b13 b14 sa17_ mv122 T839.heap n0 o847 (f166.keep K841) (f181.keep K841) (f169.keep K841 (ninS q168 (ninS q190 nin0))) (f170.keep K841 (ninS q168 (ninS q190 nin0))) (f183.keep K841 (ninS q182 (ninS q173.symm nin0))) (f185.keep K841 (ninS q182 (ninS q173.symm nin0))) (f186.keep K841 (ninS q182 (ninS q173.symm nin0))) (f187.keep K841 (ninS q182 (ninS q173.symm nin0))) (f188.keep K841 (ninS q182 (ninS q173.symm nin0))) g33 ZE7_ ZF8_ (f172.keep K841) g31 (f179.keep K841 (ninS q178 (ninS p25.symm nin0))) (f180.keep K841 (ninS q178 (ninS p25.symm nin0))) hc684) rfl (f166.keep K841) c849 hml pd_pLcom_example_lexchange_lexchange_Order_rV [(rr b33)] [] 0 (hb hby at_217) rfl rfl rfl rfl rfl rfl
         obtain ⟨rfl, N851q, K852, p853, p854, p855, p856, p857⟩ := hQ850
         have N851 := Fr.app N840 N851q
         have o858 := o847.keep K852 (allS g33 (allS g31 all0))
         have kp859 := kp848.trans K852 (allS (Or.inr z36) (allS (Or.inr z30) all0))
         have K895 : Keep h156 T850.heap [b67, b13, b33, b14] := (((Keep.refl _ _).trans K841 (allS (Or.inl (List.mem_of_getElem? (i := 0) rfl)) (allS (Or.inl (List.mem_of_getElem? (i := 1) rfl)) all0))).trans K852 (allS (Or.inl (List.mem_of_getElem? (i := 2) rfl)) (allS (Or.inl (List.mem_of_getElem? (i := 3) rfl)) all0)))
         exact ⟨T850, _, _, X850.mono (by decide) (by decide), rfl, o858, K895, kp859, N851, (p845.keep K852 (ninS q173 (ninS p25 nin0))), (p846.keep K852 (ninS q173 (ninS p25 nin0))), p856, p857, p853, p854, p855, (p842.keep K852 (ninS q182.symm (ninS q178.symm nin0))), (p843.keep K852 (ninS q182.symm (ninS q178.symm nin0))), (p844.keep K852 (ninS q182.symm (ninS q178.symm nin0))), c850⟩
        ·have c860 : Kt p e below T156 st0 (mkF m 178 #[vj j_, .second, vi f_, vi m_, vi n_, vi qa, vi qb, vj op, .second, vr b5, vr b33, vr b67, vi 1, vi 1, vi 0, vi 0, u_] [(rr b33), (rr b5)]) := fun t k => by
          refine c836 t ?_
          show S_ p e below T156 m 166 #[vj j_, .second, vi f_, vi m_, vi n_, vi qa, vi qb, vj op, .second, vr b5, vr b33, vr b67, vi 1, vi 1, vi 0, vi 0, u_] [(.int (f_ &&& (128 : Int32)))] t
          refine XS.ifNo X156.here hx rfl (hb hby at_166) rfl ((if0 _ _).trans (feq hc837).1) ?_
          refine XS.iload X156.here hx rfl (hb hby at_169) rfl ?_
          refine XS.ifNo X156.here hx rfl (hb hby at_171) rfl rfl ?_
          refine XS.aload X156.here hx rfl (hb hby at_174) rfl rfl ?_
          refine XS.aload X156.here hx rfl (hb hby at_176) rfl rfl ?_
          exact k
         obtain ⟨_, T861, L861, X861, hQ861, c861⟩ := kvirt X156 hx hZ72 hown72 (w94 hw) (w95 hw) (w97 hw) (w96 hw) (w98 hw) (w4 hw) (rm_addHN l Z a0 hw [] b5 b33 b13 b14 sa17_ mv122 h156 n0 o156 f166 f181 f169 f170 f183 f185 f186 f187 f188 g33 ZE7_ ZF8_ f172 g31 f179 f180 hc684) e156 f166 c860 hml pd_pLcom_example_lexchange_lexchange_Order_rV [(rr b33)] [] 0 (hb hby at_178) rfl rfl rfl rfl rfl rfl
         obtain ⟨rfl, N862q, K863, p864, p865, p866, p867, p868⟩ := hQ861
         have N862 := Fr.app N156 N862q
         have o869 := o156.keep K863 (allS g33 (allS g31 all0))
         have kp870 := kp156.trans K863 (allS (Or.inr z36) (allS (Or.inr z30) all0))
         have c871 : Kt p e below T861 st0 (mkF m 190 #[vj j_, .second, vi f_, vi m_, vi n_, vi qa, vi qb, vj op, .second, vr b5, vr b33, vr b67, vi 1, vi 1, vi 0, vi 0, u_] [(rr b67), (rr b5)]) := fun t k => by
          refine c861 t ?_
          show S_ p e below T861 m 181 #[vj j_, .second, vi f_, vi m_, vi n_, vi qa, vi qb, vj op, .second, vr b5, vr b33, vr b67, vi 1, vi 1, vi 0, vi 0, u_] [] t
          refine XS.iload X861.here hx rfl (hb hby at_181) rfl ?_
          refine XS.ifNo X861.here hx rfl (hb hby at_183) rfl rfl ?_
          refine XS.aload X861.here hx rfl (hb hby at_186) rfl rfl ?_
          refine XS.aload X861.here hx rfl (hb hby at_188) rfl rfl ?_
          exact k
         obtain ⟨_, T872, L872, X872, hQ872, c872⟩ := kvirt X861 hx hZ72 hown72 (w94 hw) (w95 hw) (w97 hw) (w96 hw) (w98 hw) (w4 hw) (rm_addSN l Z a0 hw [] b5 b67 b13 b14 sa17_ mv155 T861.heap n0 o869 (f166.keep K863) (f189.keep K863) (f169.keep K863 (ninS q167 (ninS q191 nin0))) (f170.keep K863 (ninS q167 (ninS q191 nin0))) (f157.keep K863 (ninS q182.symm (ninS q178.symm nin0))) (f159.keep K863 (ninS q182.symm (ninS q178.symm nin0))) (f160.keep K863 (ninS q182.symm (ninS q178.symm nin0))) (f161.keep K863 (ninS q182.symm (ninS q178.symm nin0))) (f162.keep K863 (ninS q182.symm (ninS q178.symm nin0))) g67 ZE7_ ZF8_ (f171.keep K863) g29 (f175.keep K863 (ninS q173 (ninS p25 nin0))) (f176.keep K863 (ninS q173 (ninS p25 nin0))) hc835) rfl (f166.keep K863) c871 hml pd_pLcom_example_lexchange_lexchange_Order_rV [(rr b67)] [] 0 (hb hby at_190) rfl rfl rfl rfl rfl rfl
         obtain ⟨rfl, N873q, K874, p875, p876, p877, p878, p879⟩ := hQ872
         have N873 := Fr.app N862 N873q
         have o880 := o869.keep K874 (allS g67 (allS g29 all0))
         have kp881 := kp870.trans K874 (allS (Or.inr z70) (allS (Or.inr z28) all0))
         have c882 : Kt p e below T872 st0 (mkF m 220 #[vj j_, .second, vi f_, vi m_, vi n_, vi qa, vi qb, vj op, .second, vr b5, vr b33, vr b67, vi 1, vi 1, vi 0, vi 0, u_] []) := fun t k => by
          refine c872 t ?_
          show S_ p e below T872 m 193 #[vj j_, .second, vi f_, vi m_, vi n_, vi qa, vi qb, vj op, .second, vr b5, vr b33, vr b67, vi 1, vi 1, vi 0, vi 0, u_] [] t
          refine yG X872.here hx rfl 193 220 rfl (hb hby at_193) ?_
          exact k
         have K894 : Keep h156 T872.heap [b67, b13, b33, b14] := (((Keep.refl _ _).trans K863 (allS (Or.inl (List.mem_of_getElem? (i := 2) rfl)) (allS (Or.inl (List.mem_of_getElem? (i := 3) rfl)) all0))).trans K874 (allS (Or.inl (List.mem_of_getElem? (i := 0) rfl)) (allS (Or.inl (List.mem_of_getElem? (i := 1) rfl)) all0)))
         exact ⟨T872, _, _, X872.mono (by decide) (by decide), rfl, o880, K894, kp881, N873, p878, p879, (p867.keep K874 (ninS q178 (ninS p25.symm nin0))), (p868.keep K874 (ninS q178 (ninS p25.symm nin0))), (p864.keep K874 (ninS q182 (ninS q173.symm nin0))), (p865.keep K874 (ninS q182 (ninS q173.symm nin0))), (p866.keep K874 (ninS q182 (ninS q173.symm nin0))), p875, p876, p877, c882⟩
       have c896 : Kt p e below T883 st0 (mkF m 224 #[vj j_, .second, vi f_, vi m_, vi n_, vi qa, vi qb, vj op, .second, vr b5, vr b33, vr b67, vi 1, vi 1, vi 0, vi 0, u_] [(.int (f_ &&& (64 : Int32)))]) := fun t k => by
        refine c883 t ?_
        show S_ p e below T883 m 220 #[vj j_, .second, vi f_, vi m_, vi n_, vi qa, vi qb, vj op, .second, vr b5, vr b33, vr b67, vi 1, vi 1, vi 0, vi 0, u_] [] t
        refine XS.iloadN X883.here hx rfl (hb hby at_220) rfl ?_
        refine XS.bipush X883.here hx rfl (hb hby at_221) ?_
        refine XS.iand X883.here hx rfl (hb hby at_223) rfl ?_
        exact k
       obtain ⟨T900, h900, L900, X900, e900, o900, K900, kp900, N900, c900⟩ : ∃ (T900 : State) (h900 : Heap) (L900 : List Loc), Stand p l e room_1 (s.setVm T72.vm) m #[(.long j_), (.int f_), (.int m_), (.int n_)] below meth c T900 L900 9 49 ∧ T900.heap = h900 ∧ Old Z n0 h900 ∧ Keep h883 h900 [] ∧ Keep h0 h900 [] ∧ Fr n0 L900 ∧ Kt p e below T900 st0 (mkF m 278 #[vj j_, .second, vi f_, vi m_, vi n_, vi qa, vi qb, vj op, .second, vr b5, vr b33, vr b67, vi 1, vi 1, vi 0, vi 0, u_] []) := by
        by_cases hc897 : (f_ &&& (64 : Int32)) = (0 : Int32)
        ·have c898 : Kt p e below T883 st0 (mkF m 278 #[vj j_, .second, vi f_, vi m_, vi n_, vi qa, vi qb, vj op, .second, vr b5, vr b33, vr b67, vi 1, vi 1, vi 0, vi 0, u_] []) := fun t k => by
          refine c896 t ?_
          show S_ p e below T883 m 224 #[vj j_, .second, vi f_, vi m_, vi n_, vi qa, vi qb, vj op, .second, vr b5, vr b33, vr b67, vi 1, vi 1, vi 0, vi 0, u_] [(.int (f_ &&& (64 : Int32)))] t
          refine yI X883.here hx rfl 224 254 rfl (hb hby at_224) rfl ((if0 _ _).trans (teq hc897).1) ?_
          refine XS.iload X883.here hx rfl (hb hby at_254) rfl ?_
          refine yI X883.here hx rfl 256 266 rfl (hb hby at_256) rfl rfl ?_
          refine XS.iload X883.here hx rfl (hb hby at_266) rfl ?_
          refine yI X883.here hx rfl 268 278 rfl (hb hby at_268) rfl rfl ?_
          exact k
         have K902 : Keep h883 h883 [] := (Keep.refl _ _)
         exact ⟨T883, _, _, X883.mono (by decide) (by decide), e883, o883, K902, kp883, N883, c898⟩
        ·have c899 : Kt p e below T883 st0 (mkF m 278 #[vj j_, .second, vi f_, vi m_, vi n_, vi qa, vi qb, vj op, .second, vr b5, vr b33, vr b67, vi 1, vi 1, vi 0, vi 0, u_] []) := fun t k => by
          refine c896 t ?_
          show S_ p e below T883 m 224 #[vj j_, .second, vi f_, vi m_, vi n_, vi qa, vi qb, vj op, .second, vr b5, vr b33, vr b67, vi 1, vi 1, vi 0, vi 0, u_] [(.int (f_ &&& (64 : Int32)))] t
          refine XS.ifNo X883.here hx rfl (hb hby at_224) rfl ((if0 _ _).trans (feq hc897).1) ?_
          refine XS.iload X883.here hx rfl (hb hby at_227) rfl ?_
          refine yI X883.here hx rfl 229 239 rfl (hb hby at_229) rfl rfl ?_
          refine XS.iload X883.here hx rfl (hb hby at_239) rfl ?_
          refine yI X883.here hx rfl 241 278 rfl (hb hby at_241) rfl rfl ?_
          exact k
         have K901 : Keep h883 h883 [] := (Keep.refl _ _)
         exact ⟨T883, _, _, X883.mono (by decide) (by decide), e883, o883, K901, kp883, N883, c899⟩
       have c903 : Kt p e below T900 st0 (mkF m 315 #[vj j_, .second, vi f_, vi m_, vi n_, vi qa, vi qb, vj op, .second, vr b5, vr b33, vr b67, vi 1, vi 1, vi 0, vi 0, vi 2] [(rr b5)]) := fun t k => by
        refine c900 t ?_
        show S_ p e below T900 m 278 #[vj j_, .second, vi f_, vi m_, vi n_, vi qa, vi qb, vj op, .second, vr b5, vr b33, vr b67, vi 1, vi 1, vi 0, vi 0, u_] [] t
        refine XS.iconst X900.here hx rfl (hb hby at_278) ?_
        refine XS.istore X900.here hx rfl (hb hby at_279) rfl (l' := #[vj j_, .second, vi f_, vi m_, vi n_, vi qa, vi qb, vj op, .second, vr b5, vr b33, vr b67, vi 1, vi 1, vi 0, vi 0, vi 0]) rfl ?_
        refine XS.iload X900.here hx rfl (hb hby at_281) rfl ?_
        refine XS.ifNo X900.here hx rfl (hb hby at_283) rfl rfl ?_
        refine XS.iload X900.here hx rfl (hb hby at_286) rfl ?_
        refine XS.ifNo X900.here hx rfl (hb hby at_288) rfl rfl ?_
        refine XS.iload X900.here hx rfl (hb hby at_291) rfl ?_
        refine XS.iconst X900.here hx rfl (hb hby at_293) ?_
        show S_ p e below T900 m 294 #[vj j_, .second, vi f_, vi m_, vi n_, vi qa, vi qb, vj op, .second, vr b5, vr b33, vr b67, vi 1, vi 1, vi 0, vi 0, vi 0] [(ii 1), (ii 0)] t
        refine XS.iadd X900.here hx rfl (hb hby at_294) rfl ?_
        refine XS.istore X900.here hx rfl (hb hby at_295) rfl (l' := #[vj j_, .second, vi f_, vi m_, vi n_, vi qa, vi qb, vj op, .second, vr b5, vr b33, vr b67, vi 1, vi 1, vi 0, vi 0, vi 1]) rfl ?_
        refine XS.iload X900.here hx rfl (hb hby at_297) rfl ?_
        refine XS.ifNo X900.here hx rfl (hb hby at_299) rfl rfl ?_
        refine XS.iload X900.here hx rfl (hb hby at_302) rfl ?_
        refine XS.ifNo X900.here hx rfl (hb hby at_304) rfl rfl ?_
        refine XS.iload X900.here hx rfl (hb hby at_307) rfl ?_
        refine XS.iconst X900.here hx rfl (hb hby at_309) ?_
        show S_ p e below T900 m 310 #[vj j_, .second, vi f_, vi m_, vi n_, vi qa, vi qb, vj op, .second, vr b5, vr b33, vr b67, vi 1, vi 1, vi 0, vi 0, vi 1] [(ii 1), (ii 1)] t
        refine XS.iadd X900.here hx rfl (hb hby at_310) rfl ?_
        refine XS.istore X900.here hx rfl (hb hby at_311) rfl (l' := #[vj j_, .second, vi f_, vi m_, vi n_, vi qa, vi qb, vj op, .second, vr b5, vr b33, vr b67, vi 1, vi 1, vi 0, vi 0, vi 2]) rfl ?_
        refine XS.aload X900.here hx rfl (hb hby at_313) rfl rfl ?_
        exact k
       obtain ⟨_, T904, L904, X904, hQ904, c904⟩ := kvirt X900 hx hZ72 hown72 (w87 hw) (w88 hw) (w90 hw) (w89 hw) (w91 hw) (w4 hw) (rm_emS l Z a0 hw [] b5 b13 b14 b67 h900 n0 o900 ((f166.keep K883).keep K900) ((f169.keep K883 (ninS q168 (ninS q190 (ninS q167 (ninS q191 nin0))))).keep K900 nin0) ((f170.keep K883 (ninS q168 (ninS q190 (ninS q167 (ninS q191 nin0))))).keep K900 nin0) (f884.keep K900 nin0)) e900 ((f166.keep K883).keep K900) c903 hml pd_prZ [] [] 0 (hb hby at_315) rfl rfl rfl rfl rfl rfl
       obtain ⟨rfl, N905q, K906⟩ := hQ904
       have N905 := Fr.app N900 N905q
       obtain ⟨fs, hr, hrun, hended, hRW⟩ := X904.leaveW hS72 (by first | exact (Nat.le_trans hk72 (Nat.le_trans (Nat.le_trans (Nat.le_trans (Nat.le_trans K91.1 K123.1) K156.1) K883.1) K900.1)) | (rw [K906]; exact (Nat.le_trans hk72 (Nat.le_trans (Nat.le_trans (Nat.le_trans (Nat.le_trans K91.1 K123.1) K156.1) K883.1) K900.1)))) (v := some (ii 1)) (fun h => by rw [Bd.returns] at h; cases h)
       refine ⟨_, _, c904 _ ?_, hrun, hended, _, _, rfl, ?_, hRW.1, hRW.2.1, hRW.2.2.1, hRW.2.2.2.mono (by decide) (by decide)⟩
       ·show S_ p e below T904 m 318 #[vj j_, .second, vi f_, vi m_, vi n_, vi qa, vi qb, vj op, .second, vr b5, vr b33, vr b67, vi 1, vi 1, vi 0, vi 0, vi 2] [(ii 0)] _
        refine XS.iload X904.here hx rfl (hb hby at_318) rfl ?_
        refine yI X904.here hx rfl 320 327 rfl (hb hby at_320) rfl rfl ?_
        refine XS.iconst X904.here hx rfl (hb hby at_327) ?_
        refine XS.icmpNo X904.here hx rfl (hb hby at_328) rfl rfl ?_
        refine XS.iconst X904.here hx rfl (hb hby at_331) ?_
        refine yG X904.here hx rfl 332 336 rfl (hb hby at_332) ?_
        show S_ p e below T904 m 336 #[vj j_, .second, vi f_, vi m_, vi n_, vi qa, vi qb, vj op, .second, vr b5, vr b33, vr b67, vi 1, vi 1, vi 0, vi 0, vi 2] [(ii 1)] _
        exact retN X904 hx (t := .boolean) Bd.returns (by simp) (hb hby at_336) hr
       ·show Q_law Z j_ f_ m_ n_ sa5_ sa9_ sa13_ sa17_ h0 n0 _ T904.heap _
        rw [K906]
        exact ⟨rfl, N905, kp900⟩
      ·have c907 : Kt p e below T156 st0 (mkF m 166 #[vj j_, .second, vi f_, vi m_, vi n_, vi qa, vi qb, vj op, .second, vr b5, vr b33, vr b67, vi 1, vi 1, vi 0, vi 0, u_] [(.int (f_ &&& (128 : Int32)))]) := fun t k => by
        refine c683 t ?_
        show S_ p e below T156 m 161 #[vj j_, .second, vi f_, vi m_, vi n_, vi qa, vi qb, vj op, .second, vr b5, vr b33, vr b67, vi 1, vi 1, vi 0, vi 0, u_] [] t
        refine XS.iloadN X156.here hx rfl (hb hby at_161) rfl ?_
        refine XS.sipush X156.here hx rfl (hb hby at_162) ?_
        refine XS.iand X156.here hx rfl (hb hby at_165) rfl ?_
        exact k
       by_cases hc908 : (f_ &&& (128 : Int32)) = (0 : Int32)
       ·have c909 : Kt p e below T156 st0 (mkF m 205 #[vj j_, .second, vi f_, vi m_, vi n_, vi qa, vi qb, vj op, .second, vr b5, vr b33, vr b67, vi 1, vi 1, vi 0, vi 0, u_] [(rr b67), (rr b5)]) := fun t k => by
         refine c907 t ?_
         show S_ p e below T156 m 166 #[vj j_, .second, vi f_, vi m_, vi n_, vi qa, vi qb, vj op, .second, vr b5, vr b33, vr b67, vi 1, vi 1, vi 0, vi 0, u_] [(.int (f_ &&& (128 : Int32)))] t
         refine yI X156.here hx rfl 166 196 rfl (hb hby at_166) rfl ((if0 _ _).trans (teq hc908).1) ?_
         refine XS.iload X156.here hx rfl (hb hby at_196) rfl ?_
         refine XS.ifNo X156.here hx rfl (hb hby at_198) rfl rfl ?_
         refine XS.aload X156.here hx rfl (hb hby at_201) rfl rfl ?_
         refine XS.aload X156.here hx rfl (hb hby at_203) rfl rfl ?_
         exact k
        obtain ⟨_, T910, L910, X910, hQ910, c910⟩ := kvirt X156 hx hZ72 hown72 (w94 hw) (w95 hw) (w97 hw) (w96 hw) (w98 hw) (w4 hw) (rm_addHN l Z a0 hw [] b5 b67 b13 b14 sa17_ mv155 h156 n0 o156 f166 f189 f169 f170 f157 f159 f160 f161 f162 g67 ZE7_ ZF8_ f172 g31 f179 f180 hc835) e156 f166 c909 hml pd_pLcom_example_lexchange_lexchange_Order_rV [(rr b67)] [] 0 (hb hby at_205) rfl rfl rfl rfl rfl rfl
        obtain ⟨rfl, N911q, K912, p913, p914, p915, p916, p917⟩ := hQ910
        have N911 := Fr.app N156 N911q
        have o918 := o156.keep K912 (allS g67 (allS g31 all0))
        have kp919 := kp156.trans K912 (allS (Or.inr z70) (allS (Or.inr z30) all0))
        have c920 : Kt p e below T910 st0 (mkF m 217 #[vj j_, .second, vi f_, vi m_, vi n_, vi qa, vi qb, vj op, .second, vr b5, vr b33, vr b67, vi 1, vi 1, vi 0, vi 0, u_] [(rr b33), (rr b5)]) := fun t k => by
         refine c910 t ?_
         show S_ p e below T910 m 208 #[vj j_, .second, vi f_, vi m_, vi n_, vi qa, vi qb, vj op, .second, vr b5, vr b33, vr b67, vi 1, vi 1, vi 0, vi 0, u_] [] t
         refine XS.iload X910.here hx rfl (hb hby at_208) rfl ?_
         refine XS.ifNo X910.here hx rfl (hb hby at_210) rfl rfl ?_
         refine XS.aload X910.here hx rfl (hb hby at_213) rfl rfl ?_
         refine XS.aload X910.here hx rfl (hb hby at_215) rfl rfl ?_
         exact k
        obtain ⟨_, T921, L921, X921, hQ921, c921⟩ := kvirt X910 hx hZ72 hown72 (w94 hw) (w95 hw) (w97 hw) (w96 hw) (w98 hw) (w4 hw) (rm_addHR l Z a0 hw [] b5 b33 b13 b14 sa17_ mv122 b67 T910.heap n0 o918 (f166.keep K912) (f181.keep K912) (f169.keep K912 (ninS q168 (ninS q191 nin0))) (f170.keep K912 (ninS q168 (ninS q191 nin0))) (f183.keep K912 (ninS q182 (ninS q177.symm nin0))) (f185.keep K912 (ninS q182 (ninS q177.symm nin0))) (f186.keep K912 (ninS q182 (ninS q177.symm nin0))) (f187.keep K912 (ninS q182 (ninS q177.symm nin0))) (f188.keep K912 (ninS q182 (ninS q177.symm nin0))) g33 ZE7_ ZF8_ (f172.keep K912) g31 p916 p917 (f189.keep K912) g67 q182.symm p913 p914 p915 hc684) rfl (f166.keep K912) c920 hml pd_pLcom_example_lexchange_lexchange_Order_rV [(rr b33)] [] 0 (hb hby at_217) rfl rfl rfl rfl rfl rfl
        obtain ⟨rfl, N922q, K923, p924, p925, p926, p927, p928, p929, p930, p931⟩ := hQ921
        have N922 := Fr.app N911 N922q
        have o932 := o918.keep K923 (allS g33 (allS g31 (allS g67 all0)))
        have kp933 := kp919.trans K923 (allS (Or.inr z36) (allS (Or.inr z30) (allS (Or.inr z70) all0)))
        have c934 : Kt p e below T921 st0 (mkF m 224 #[vj j_, .second, vi f_, vi m_, vi n_, vi qa, vi qb, vj op, .second, vr b5, vr b33, vr b67, vi 1, vi 1, vi 0, vi 0, u_] [(.int (f_ &&& (64 : Int32)))]) := fun t k => by
         refine c921 t ?_
         show S_ p e below T921 m 220 #[vj j_, .second, vi f_, vi m_, vi n_, vi qa, vi qb, vj op, .second, vr b5, vr b33, vr b67, vi 1, vi 1, vi 0, vi 0, u_] [] t
         refine XS.iloadN X921.here hx rfl (hb hby at_220) rfl ?_
         refine XS.bipush X921.here hx rfl (hb hby at_221) ?_
         refine XS.iand X921.here hx rfl (hb hby at_223) rfl ?_
         exact k
        obtain ⟨T938, h938, L938, X938, e938, o938, K938, kp938, N938, c938⟩ : ∃ (T938 : State) (h938 : Heap) (L938 : List Loc), Stand p l e room_1 (s.setVm T72.vm) m #[(.long j_), (.int f_), (.int m_), (.int n_)] below meth c T938 L938 9 49 ∧ T938.heap = h938 ∧ Old Z n0 h938 ∧ Keep T921.heap h938 [] ∧ Keep h0 h938 [] ∧ Fr n0 L938 ∧ Kt p e below T938 st0 (mkF m 278 #[vj j_, .second, vi f_, vi m_, vi n_, vi qa, vi qb, vj op, .second, vr b5, vr b33, vr b67, vi 1, vi 1, vi 0, vi 0, u_] []) := by
         by_cases hc935 : (f_ &&& (64 : Int32)) = (0 : Int32)
         ·have c936 : Kt p e below T921 st0 (mkF m 278 #[vj j_, .second, vi f_, vi m_, vi n_, vi qa, vi qb, vj op, .second, vr b5, vr b33, vr b67, vi 1, vi 1, vi 0, vi 0, u_] []) := fun t k => by
           refine c934 t ?_
           show S_ p e below T921 m 224 #[vj j_, .second, vi f_, vi m_, vi n_, vi qa, vi qb, vj op, .second, vr b5, vr b33, vr b67, vi 1, vi 1, vi 0, vi 0, u_] [(.int (f_ &&& (64 : Int32)))] t
           refine yI X921.here hx rfl 224 254 rfl (hb hby at_224) rfl ((if0 _ _).trans (teq hc935).1) ?_
           refine XS.iload X921.here hx rfl (hb hby at_254) rfl ?_
           refine yI X921.here hx rfl 256 266 rfl (hb hby at_256) rfl rfl ?_
           refine XS.iload X921.here hx rfl (hb hby at_266) rfl ?_
           refine yI X921.here hx rfl 268 278 rfl (hb hby at_268) rfl rfl ?_
           exact k
          have K940 : Keep T921.heap T921.heap [] := (Keep.refl _ _)
          exact ⟨T921, _, _, X921.mono (by decide) (by decide), rfl, o932, K940, kp933, N922, c936⟩
         ·have c937 : Kt p e below T921 st0 (mkF m 278 #[vj j_, .second, vi f_, vi m_, vi n_, vi qa, vi qb, vj op, .second, vr b5, vr b33, vr b67, vi 1, vi 1, vi 0, vi 0, u_] []) := fun t k => by
           refine c934 t ?_
           show S_ p e below T921 m 224 #[vj j_, .second, vi f_, vi m_, vi n_, vi qa, vi qb, vj op, .second, vr b5, vr b33, vr b67, vi 1, vi 1, vi 0, vi 0, u_] [(.int (f_ &&& (64 : Int32)))] t
           refine XS.ifNo X921.here hx rfl (hb hby at_224) rfl ((if0 _ _).trans (feq hc935).1) ?_
           refine XS.iload X921.here hx rfl (hb hby at_227) rfl ?_
           refine yI X921.here hx rfl 229 239 rfl (hb hby at_229) rfl rfl ?_
           refine XS.iload X921.here hx rfl (hb hby at_239) rfl ?_
           refine yI X921.here hx rfl 241 278 rfl (hb hby at_241) rfl rfl ?_
           exact k
          have K939 : Keep T921.heap T921.heap [] := (Keep.refl _ _)
          exact ⟨T921, _, _, X921.mono (by decide) (by decide), rfl, o932, K939, kp933, N922, c937⟩
        have f941 := ((f169.keep K912 (ninS q168 (ninS q191 nin0))).keep K923 (ninS q167 (ninS q191 (ninS q168 nin0)))).keep K938 nin0
        have f942 := ((f170.keep K912 (ninS q168 (ninS q191 nin0))).keep K923 (ninS q167 (ninS q191 (ninS q168 nin0)))).keep K938 nin0
        have f943 := ((f175.keep K912 (ninS q174 (ninS p25 nin0))).keep K923 (ninS q173 (ninS p25 (ninS q174 nin0)))).keep K938 nin0
        have c944 : Kt p e below T938 st0 (mkF m 315 #[vj j_, .second, vi f_, vi m_, vi n_, vi qa, vi qb, vj op, .second, vr b5, vr b33, vr b67, vi 1, vi 1, vi 0, vi 0, vi 2] [(rr b5)]) := fun t k => by
         refine c938 t ?_
         show S_ p e below T938 m 278 #[vj j_, .second, vi f_, vi m_, vi n_, vi qa, vi qb, vj op, .second, vr b5, vr b33, vr b67, vi 1, vi 1, vi 0, vi 0, u_] [] t
         refine XS.iconst X938.here hx rfl (hb hby at_278) ?_
         refine XS.istore X938.here hx rfl (hb hby at_279) rfl (l' := #[vj j_, .second, vi f_, vi m_, vi n_, vi qa, vi qb, vj op, .second, vr b5, vr b33, vr b67, vi 1, vi 1, vi 0, vi 0, vi 0]) rfl ?_
         refine XS.iload X938.here hx rfl (hb hby at_281) rfl ?_
         refine XS.ifNo X938.here hx rfl (hb hby at_283) rfl rfl ?_
         refine XS.iload X938.here hx rfl (hb hby at_286) rfl ?_
         refine XS.ifNo X938.here hx rfl (hb hby at_288) rfl rfl ?_
         refine XS.iload X938.here hx rfl (hb hby at_291) rfl ?_
         refine XS.iconst X938.here hx rfl (hb hby at_293) ?_
         show S_ p e below T938 m 294 #[vj j_, .second, vi f_, vi m_, vi n_, vi qa, vi qb, vj op, .second, vr b5, vr b33, vr b67, vi 1, vi 1, vi 0, vi 0, vi 0] [(ii 1), (ii 0)] t
         refine XS.iadd X938.here hx rfl (hb hby at_294) rfl ?_
         refine XS.istore X938.here hx rfl (hb hby at_295) rfl (l' := #[vj j_, .second, vi f_, vi m_, vi n_, vi qa, vi qb, vj op, .second, vr b5, vr b33, vr b67, vi 1, vi 1, vi 0, vi 0, vi 1]) rfl ?_
         refine XS.iload X938.here hx rfl (hb hby at_297) rfl ?_
         refine XS.ifNo X938.here hx rfl (hb hby at_299) rfl rfl ?_
         refine XS.iload X938.here hx rfl (hb hby at_302) rfl ?_
         refine XS.ifNo X938.here hx rfl (hb hby at_304) rfl rfl ?_
         refine XS.iload X938.here hx rfl (hb hby at_307) rfl ?_
         refine XS.iconst X938.here hx rfl (hb hby at_309) ?_
         show S_ p e below T938 m 310 #[vj j_, .second, vi f_, vi m_, vi n_, vi qa, vi qb, vj op, .second, vr b5, vr b33, vr b67, vi 1, vi 1, vi 0, vi 0, vi 1] [(ii 1), (ii 1)] t
         refine XS.iadd X938.here hx rfl (hb hby at_310) rfl ?_
         refine XS.istore X938.here hx rfl (hb hby at_311) rfl (l' := #[vj j_, .second, vi f_, vi m_, vi n_, vi qa, vi qb, vj op, .second, vr b5, vr b33, vr b67, vi 1, vi 1, vi 0, vi 0, vi 2]) rfl ?_
         refine XS.aload X938.here hx rfl (hb hby at_313) rfl rfl ?_
         exact k
        obtain ⟨_, T945, L945, X945, hQ945, c945⟩ := kvirt X938 hx hZ72 hown72 (w87 hw) (w88 hw) (w90 hw) (w89 hw) (w91 hw) (w4 hw) (rm_emH l Z a0 hw [] b5 b13 b14 b67 h938 n0 o938 (((f166.keep K912).keep K923).keep K938) f941 f942 f943 (p927.keep K938 nin0)) e938 (((f166.keep K912).keep K923).keep K938) c944 hml pd_prZ [] [] 0 (hb hby at_315) rfl rfl rfl rfl rfl rfl
        obtain ⟨rfl, N946q, K947⟩ := hQ945
        have N946 := Fr.app N938 N946q
        obtain ⟨fs, hr, hrun, hended, hRW⟩ := X945.leaveW hS72 (by first | exact (Nat.le_trans hk72 (Nat.le_trans (Nat.le_trans (Nat.le_trans (Nat.le_trans (Nat.le_trans K91.1 K123.1) K156.1) K912.1) K923.1) K938.1)) | (rw [K947]; exact (Nat.le_trans hk72 (Nat.le_trans (Nat.le_trans (Nat.le_trans (Nat.le_trans (Nat.le_trans K91.1 K123.1) K156.1) K912.1) K923.1) K938.1)))) (v := some (ii 1)) (fun h => by rw [Bd.returns] at h; cases h)
        refine ⟨_, _, c945 _ ?_, hrun, hended, _, _, rfl, ?_, hRW.1, hRW.2.1, hRW.2.2.1, hRW.2.2.2.mono (by decide) (by decide)⟩
        ·show S_ p e below T945 m 318 #[vj j_, .second, vi f_, vi m_, vi n_, vi qa, vi qb, vj op, .second, vr b5, vr b33, vr b67, vi 1, vi 1, vi 0, vi 0, vi 2] [(ii 0)] _
         refine XS.iload X945.here hx rfl (hb hby at_318) rfl ?_
         refine yI X945.here hx rfl 320 327 rfl (hb hby at_320) rfl rfl ?_
         refine XS.iconst X945.here hx rfl (hb hby at_327) ?_
         refine XS.icmpNo X945.here hx rfl (hb hby at_328) rfl rfl ?_
         refine XS.iconst X945.here hx rfl (hb hby at_331) ?_
         refine yG X945.here hx rfl 332 336 rfl (hb hby at_332) ?_
         show S_ p e below T945 m 336 #[vj j_, .second, vi f_, vi m_, vi n_, vi qa, vi qb, vj op, .second, vr b5, vr b33, vr b67, vi 1, vi 1, vi 0, vi 0, vi 2] [(ii 1)] _
         exact retN X945 hx (t := .boolean) Bd.returns (by simp) (hb hby at_336) hr
        ·show Q_law Z j_ f_ m_ n_ sa5_ sa9_ sa13_ sa17_ h0 n0 _ T945.heap _
         rw [K947]
         exact ⟨rfl, N946, kp938⟩
       ·have c948 : Kt p e below T156 st0 (mkF m 178 #[vj j_, .second, vi f_, vi m_, vi n_, vi qa, vi qb, vj op, .second, vr b5, vr b33, vr b67, vi 1, vi 1, vi 0, vi 0, u_] [(rr b33), (rr b5)]) := fun t k => by
         refine c907 t ?_
         show S_ p e below T156 m 166 #[vj j_, .second, vi f_, vi m_, vi n_, vi qa, vi qb, vj op, .second, vr b5, vr b33, vr b67, vi 1, vi 1, vi 0, vi 0, u_] [(.int (f_ &&& (128 : Int32)))] t
         refine XS.ifNo X156.here hx rfl (hb hby at_166) rfl ((if0 _ _).trans (feq hc908).1) ?_
         refine XS.iload X156.here hx rfl (hb hby at_169) rfl ?_
         refine XS.ifNo X156.here hx rfl (hb hby at_171) rfl rfl ?_
         refine XS.aload X156.here hx rfl (hb hby at_174) rfl rfl ?_
         refine XS.aload X156.here hx rfl (hb hby at_176) rfl rfl ?_
         exact k
        obtain ⟨_, T949, L949, X949, hQ949, c949⟩ := kvirt X156 hx hZ72 hown72 (w94 hw) (w95 hw) (w97 hw) (w96 hw) (w98 hw) (w4 hw) (rm_addHN l Z a0 hw [] b5 b33 b13 b14 sa17_ mv122 h156 n0 o156 f166 f181 f169 f170 f183 f185 f186 f187 f188 g33 ZE7_ ZF8_ f172 g31 f179 f180 hc684) e156 f166 c948 hml pd_pLcom_example_lexchange_lexchange_Order_rV [(rr b33)] [] 0 (hb hby at_178) rfl rfl rfl rfl rfl rfl
        obtain ⟨rfl, N950q, K951, p952, p953, p954, p955, p956⟩ := hQ949
        have N950 := Fr.app N156 N950q
        have o957 := o156.keep K951 (allS g33 (allS g31 all0))
        have kp958 := kp156.trans K951 (allS (Or.inr z36) (allS (Or.inr z30) all0))
        have c959 : Kt p e below T949 st0 (mkF m 190 #[vj j_, .second, vi f_, vi m_, vi n_, vi qa, vi qb, vj op, .second, vr b5, vr b33, vr b67, vi 1, vi 1, vi 0, vi 0, u_] [(rr b67), (rr b5)]) := fun t k => by
         refine c949 t ?_
         show S_ p e below T949 m 181 #[vj j_, .second, vi f_, vi m_, vi n_, vi qa, vi qb, vj op, .second, vr b5, vr b33, vr b67, vi 1, vi 1, vi 0, vi 0, u_] [] t
         refine XS.iload X949.here hx rfl (hb hby at_181) rfl ?_
         refine XS.ifNo X949.here hx rfl (hb hby at_183) rfl rfl ?_
         refine XS.aload X949.here hx rfl (hb hby at_186) rfl rfl ?_
         refine XS.aload X949.here hx rfl (hb hby at_188) rfl rfl ?_
         exact k
        obtain ⟨_, T960, L960, X960, hQ960, c960⟩ := kvirt X949 hx hZ72 hown72 (w94 hw) (w95 hw) (w97 hw) (w96 hw) (w98 hw) (w4 hw) (rm_addHR l Z a0 hw [] b5 b67 b13 b14 sa17_ mv155 b33 T949.heap n0 o957 (f166.keep K951) (f189.keep K951) (f169.keep K951 (ninS q167 (ninS q191 nin0))) (f170.keep K951 (ninS q167 (ninS q191 nin0))) (f157.keep K951 (ninS q182.symm (ninS q178.symm nin0))) (f159.keep K951 (ninS q182.symm (ninS q178.symm nin0))) (f160.keep K951 (ninS q182.symm (ninS q178.symm nin0))) (f161.keep K951 (ninS q182.symm (ninS q178.symm nin0))) (f162.keep K951 (ninS q182.symm (ninS q178.symm nin0))) g67 ZE7_ ZF8_ (f172.keep K951) g31 p955 p956 (f181.keep K951) g33 q182 p952 p953 p954 hc835) rfl (f166.keep K951) c959 hml pd_pLcom_example_lexchange_lexchange_Order_rV [(rr b67)] [] 0 (hb hby at_190) rfl rfl rfl rfl rfl rfl
        obtain ⟨rfl, N961q, K962, p963, p964, p965, p966, p967, p968, p969, p970⟩ := hQ960
        have N961 := Fr.app N950 N961q
        have o971 := o957.keep K962 (allS g67 (allS g31 (allS g33 all0)))
        have kp972 := kp958.trans K962 (allS (Or.inr z70) (allS (Or.inr z30) (allS (Or.inr z36) all0)))
        have c973 : Kt p e below T960 st0 (mkF m 224 #[vj j_, .second, vi f_, vi m_, vi n_, vi qa, vi qb, vj op, .second, vr b5, vr b33, vr b67, vi 1, vi 1, vi 0, vi 0, u_] [(.int (f_ &&& (64 : Int32)))]) := fun t k => by
         refine c960 t ?_
         show S_ p e below T960 m 193 #[vj j_, .second, vi f_, vi m_, vi n_, vi qa, vi qb, vj op, .second, vr b5, vr b33, vr b67, vi 1, vi 1, vi 0, vi 0, u_] [] t
         refine yG X960.here hx rfl 193 220 rfl (hb hby at_193) ?_
         refine XS.iloadN X960.here hx rfl (hb hby at_220) rfl ?_
         refine XS.bipush X960.here hx rfl (hb hby at_221) ?_
         refine XS.iand X960.here hx rfl (hb hby at_223) rfl ?_
         exact k
        obtain ⟨T977, h977, L977, X977, e977, o977, K977, kp977, N977, c977⟩ : ∃ (T977 : State) (h977 : Heap) (L977 : List Loc), Stand p l e room_1 (s.setVm T72.vm) m #[(.long j_), (.int f_), (.int m_), (.int n_)] below meth c T977 L977 9 49 ∧ T977.heap = h977 ∧ Old Z n0 h977 ∧ Keep T960.heap h977 [] ∧ Keep h0 h977 [] ∧ Fr n0 L977 ∧ Kt p e below T977 st0 (mkF m 278 #[vj j_, .second, vi f_, vi m_, vi n_, vi qa, vi qb, vj op, .second, vr b5, vr b33, vr b67, vi 1, vi 1, vi 0, vi 0, u_] []) := by
         by_cases hc974 : (f_ &&& (64 : Int32)) = (0 : Int32)
         ·have c975 : Kt p e below T960 st0 (mkF m 278 #[vj j_, .second, vi f_, vi m_, vi n_, vi qa, vi qb, vj op, .second, vr b5, vr b33, vr b67, vi 1, vi 1, vi 0, vi 0, u_] []) := fun t k => by
           refine c973 t ?_
           show S_ p e below T960 m 224 #[vj j_, .second, vi f_, vi m_, vi n_, vi qa, vi qb, vj op, .second, vr b5, vr b33, vr b67, vi 1, vi 1, vi 0, vi 0, u_] [(.int (f_ &&& (64 : Int32)))] t
           refine yI X960.here hx rfl 224 254 rfl (hb hby at_224) rfl ((if0 _ _).trans (teq hc974).1) ?_
           refine XS.iload X960.here hx rfl (hb hby at_254) rfl ?_
           refine yI X960.here hx rfl 256 266 rfl (hb hby at_256) rfl rfl ?_
           refine XS.iload X960.here hx rfl (hb hby at_266) rfl ?_
           refine yI X960.here hx rfl 268 278 rfl (hb hby at_268) rfl rfl ?_
           exact k
          have K979 : Keep T960.heap T960.heap [] := (Keep.refl _ _)
          exact ⟨T960, _, _, X960.mono (by decide) (by decide), rfl, o971, K979, kp972, N961, c975⟩
         ·have c976 : Kt p e below T960 st0 (mkF m 278 #[vj j_, .second, vi f_, vi m_, vi n_, vi qa, vi qb, vj op, .second, vr b5, vr b33, vr b67, vi 1, vi 1, vi 0, vi 0, u_] []) := fun t k => by
           refine c973 t ?_
           show S_ p e below T960 m 224 #[vj j_, .second, vi f_, vi m_, vi n_, vi qa, vi qb, vj op, .second, vr b5, vr b33, vr b67, vi 1, vi 1, vi 0, vi 0, u_] [(.int (f_ &&& (64 : Int32)))] t
           refine XS.ifNo X960.here hx rfl (hb hby at_224) rfl ((if0 _ _).trans (feq hc974).1) ?_
           refine XS.iload X960.here hx rfl (hb hby at_227) rfl ?_
           refine yI X960.here hx rfl 229 239 rfl (hb hby at_229) rfl rfl ?_
           refine XS.iload X960.here hx rfl (hb hby at_239) rfl ?_
           refine yI X960.here hx rfl 241 278 rfl (hb hby at_241) rfl rfl ?_
           exact k
          have K978 : Keep T960.heap T960.heap [] := (Keep.refl _ _)
          exact ⟨T960, _, _, X960.mono (by decide) (by decide), rfl, o971, K978, kp972, N961, c976⟩
        have f980 := ((f169.keep K951 (ninS q167 (ninS q191 nin0))).keep K962 (ninS q168 (ninS q191 (ninS q167 nin0)))).keep K977 nin0
        have f981 := ((f170.keep K951 (ninS q167 (ninS q191 nin0))).keep K962 (ninS q168 (ninS q191 (ninS q167 nin0)))).keep K977 nin0
        have f982 := ((f175.keep K951 (ninS q173 (ninS p25 nin0))).keep K962 (ninS q174 (ninS p25 (ninS q173 nin0)))).keep K977 nin0
        have c983 : Kt p e below T977 st0 (mkF m 315 #[vj j_, .second, vi f_, vi m_, vi n_, vi qa, vi qb, vj op, .second, vr b5, vr b33, vr b67, vi 1, vi 1, vi 0, vi 0, vi 2] [(rr b5)]) := fun t k => by
         refine c977 t ?_
         show S_ p e below T977 m 278 #[vj j_, .second, vi f_, vi m_, vi n_, vi qa, vi qb, vj op, .second, vr b5, vr b33, vr b67, vi 1, vi 1, vi 0, vi 0, u_] [] t
         refine XS.iconst X977.here hx rfl (hb hby at_278) ?_
         refine XS.istore X977.here hx rfl (hb hby at_279) rfl (l' := #[vj j_, .second, vi f_, vi m_, vi n_, vi qa, vi qb, vj op, .second, vr b5, vr b33, vr b67, vi 1, vi 1, vi 0, vi 0, vi 0]) rfl ?_
         refine XS.iload X977.here hx rfl (hb hby at_281) rfl ?_
         refine XS.ifNo X977.here hx rfl (hb hby at_283) rfl rfl ?_
         refine XS.iload X977.here hx rfl (hb hby at_286) rfl ?_
         refine XS.ifNo X977.here hx rfl (hb hby at_288) rfl rfl ?_
         refine XS.iload X977.here hx rfl (hb hby at_291) rfl ?_
         refine XS.iconst X977.here hx rfl (hb hby at_293) ?_
         show S_ p e below T977 m 294 #[vj j_, .second, vi f_, vi m_, vi n_, vi qa, vi qb, vj op, .second, vr b5, vr b33, vr b67, vi 1, vi 1, vi 0, vi 0, vi 0] [(ii 1), (ii 0)] t
         refine XS.iadd X977.here hx rfl (hb hby at_294) rfl ?_
         refine XS.istore X977.here hx rfl (hb hby at_295) rfl (l' := #[vj j_, .second, vi f_, vi m_, vi n_, vi qa, vi qb, vj op, .second, vr b5, vr b33, vr b67, vi 1, vi 1, vi 0, vi 0, vi 1]) rfl ?_
         refine XS.iload X977.here hx rfl (hb hby at_297) rfl ?_
         refine XS.ifNo X977.here hx rfl (hb hby at_299) rfl rfl ?_
         refine XS.iload X977.here hx rfl (hb hby at_302) rfl ?_
         refine XS.ifNo X977.here hx rfl (hb hby at_304) rfl rfl ?_
         refine XS.iload X977.here hx rfl (hb hby at_307) rfl ?_
         refine XS.iconst X977.here hx rfl (hb hby at_309) ?_
         show S_ p e below T977 m 310 #[vj j_, .second, vi f_, vi m_, vi n_, vi qa, vi qb, vj op, .second, vr b5, vr b33, vr b67, vi 1, vi 1, vi 0, vi 0, vi 1] [(ii 1), (ii 1)] t
         refine XS.iadd X977.here hx rfl (hb hby at_310) rfl ?_
         refine XS.istore X977.here hx rfl (hb hby at_311) rfl (l' := #[vj j_, .second, vi f_, vi m_, vi n_, vi qa, vi qb, vj op, .second, vr b5, vr b33, vr b67, vi 1, vi 1, vi 0, vi 0, vi 2]) rfl ?_
         refine XS.aload X977.here hx rfl (hb hby at_313) rfl rfl ?_
         exact k
        obtain ⟨_, T984, L984, X984, hQ984, c984⟩ := kvirt X977 hx hZ72 hown72 (w87 hw) (w88 hw) (w90 hw) (w89 hw) (w91 hw) (w4 hw) (rm_emH l Z a0 hw [] b5 b13 b14 b33 h977 n0 o977 (((f166.keep K951).keep K962).keep K977) f980 f981 f982 (p966.keep K977 nin0)) e977 (((f166.keep K951).keep K962).keep K977) c983 hml pd_prZ [] [] 0 (hb hby at_315) rfl rfl rfl rfl rfl rfl
        obtain ⟨rfl, N985q, K986⟩ := hQ984
        have N985 := Fr.app N977 N985q
        obtain ⟨fs, hr, hrun, hended, hRW⟩ := X984.leaveW hS72 (by first | exact (Nat.le_trans hk72 (Nat.le_trans (Nat.le_trans (Nat.le_trans (Nat.le_trans (Nat.le_trans K91.1 K123.1) K156.1) K951.1) K962.1) K977.1)) | (rw [K986]; exact (Nat.le_trans hk72 (Nat.le_trans (Nat.le_trans (Nat.le_trans (Nat.le_trans (Nat.le_trans K91.1 K123.1) K156.1) K951.1) K962.1) K977.1)))) (v := some (ii 1)) (fun h => by rw [Bd.returns] at h; cases h)
        refine ⟨_, _, c984 _ ?_, hrun, hended, _, _, rfl, ?_, hRW.1, hRW.2.1, hRW.2.2.1, hRW.2.2.2.mono (by decide) (by decide)⟩
        ·show S_ p e below T984 m 318 #[vj j_, .second, vi f_, vi m_, vi n_, vi qa, vi qb, vj op, .second, vr b5, vr b33, vr b67, vi 1, vi 1, vi 0, vi 0, vi 2] [(ii 0)] _
         refine XS.iload X984.here hx rfl (hb hby at_318) rfl ?_
         refine yI X984.here hx rfl 320 327 rfl (hb hby at_320) rfl rfl ?_
         refine XS.iconst X984.here hx rfl (hb hby at_327) ?_
         refine XS.icmpNo X984.here hx rfl (hb hby at_328) rfl rfl ?_
         refine XS.iconst X984.here hx rfl (hb hby at_331) ?_
         refine yG X984.here hx rfl 332 336 rfl (hb hby at_332) ?_
         show S_ p e below T984 m 336 #[vj j_, .second, vi f_, vi m_, vi n_, vi qa, vi qb, vj op, .second, vr b5, vr b33, vr b67, vi 1, vi 1, vi 0, vi 0, vi 2] [(ii 1)] _
         exact retN X984 hx (t := .boolean) Bd.returns (by simp) (hb hby at_336) hr
        ·show Q_law Z j_ f_ m_ n_ sa5_ sa9_ sa13_ sa17_ h0 n0 _ T984.heap _
         rw [K986]
         exact ⟨rfl, N985, kp977⟩
    ·have c987 : Kt p e below T156 st0 (mkF m 161 #[vj j_, .second, vi f_, vi m_, vi n_, vi qa, vi qb, vj op, .second, vr b5, vr b33, vr b67, vi 1, vi 1, vi 0, vi 1, u_] []) := fun t k => by
      refine c681 t ?_
      show S_ p e below T156 m 151 #[vj j_, .second, vi f_, vi m_, vi n_, vi qa, vi qb, vj op, .second, vr b5, vr b33, vr b67, vi 1, vi 1, vi 0, u_, u_] [(.int (f_ &&& (32 : Int32)))] t
      refine XS.ifNo X156.here hx rfl (hb hby at_151) rfl ((if0 _ _).trans (feq hc682).1) ?_
      refine XS.iconst X156.here hx rfl (hb hby at_154) ?_
      refine yG X156.here hx rfl 155 159 rfl (hb hby at_155) ?_
      refine XS.istore X156.here hx rfl (hb hby at_159) rfl (l' := #[vj j_, .second, vi f_, vi m_, vi n_, vi qa, vi qb, vj op, .second, vr b5, vr b33, vr b67, vi 1, vi 1, vi 0, vi 1, u_]) rfl ?_
      exact k
     by_cases hc988 : (0 : Int32) < mv122
     ·by_cases hc989 : (0 : Int32) < mv155
      ·have c990 : Kt p e below T156 st0 (mkF m 166 #[vj j_, .second, vi f_, vi m_, vi n_, vi qa, vi qb, vj op, .second, vr b5, vr b33, vr b67, vi 1, vi 1, vi 0, vi 1, u_] [(.int (f_ &&& (128 : Int32)))]) := fun t k => by
        refine c987 t ?_
        show S_ p e below T156 m 161 #[vj j_, .second, vi f_, vi m_, vi n_, vi qa, vi qb, vj op, .second, vr b5, vr b33, vr b67, vi 1, vi 1, vi 0, vi 1, u_] [] t
        refine XS.iloadN X156.here hx rfl (hb hby at_161) rfl ?_
        refine XS.sipush X156.here hx rfl (hb hby at_162) ?_
        refine XS.iand X156.here hx rfl (hb hby at_165) rfl ?_
        exact k
       by_cases hc991 : (f_ &&& (128 : Int32)) = (0 : Int32)
       ·have c992 : Kt p e below T156 st0 (mkF m 205 #[vj j_, .second, vi f_, vi m_, vi n_, vi qa, vi qb, vj op, .second, vr b5, vr b33, vr b67, vi 1, vi 1, vi 0, vi 1, u_] [(rr b67), (rr b5)]) := fun t k => by
         refine c990 t ?_
         show S_ p e below T156 m 166 #[vj j_, .second, vi f_, vi m_, vi n_, vi qa, vi qb, vj op, .second, vr b5, vr b33, vr b67, vi 1, vi 1, vi 0, vi 1, u_] [(.int (f_ &&& (128 : Int32)))] t
         refine yI X156.here hx rfl 166 196 rfl (hb hby at_166) rfl ((if0 _ _).trans (teq hc991).1) ?_
         refine XS.iload X156.here hx rfl (hb hby at_196) rfl ?_
         refine XS.ifNo X156.here hx rfl (hb hby at_198) rfl rfl ?_
         refine XS.aload X156.here hx rfl (hb hby at_201) rfl rfl ?_
         refine XS.aload X156.here hx rfl (hb hby at_203) rfl rfl ?_
         exact k
        obtain ⟨_, T993, L993, X993, hQ993, c993⟩ := kvirt X156 hx hZ72 hown72 (w94 hw) (w95 hw) (w97 hw) (w96 hw) (w98 hw) (w4 hw) (rm_addSN l Z a0 hw [] b5 b67 b13 b14 sa17_ mv155 h156 n0 o156 f166 f189 f169 f170 f157 f159 f160 f161 f162 g67 ZE7_ ZF8_ f171 g29 f175 f176 hc989) e156 f166 c992 hml pd_pLcom_example_lexchange_lexchange_Order_rV [(rr b67)] [] 0 (hb hby at_205) rfl rfl rfl rfl rfl rfl
        obtain ⟨rfl, N994q, K995, p996, p997, p998, p999, p1000⟩ := hQ993
        have N994 := Fr.app N156 N994q
        have o1001 := o156.keep K995 (allS g67 (allS g29 all0))
        have kp1002 := kp156.trans K995 (allS (Or.inr z70) (allS (Or.inr z28) all0))
        have c1003 : Kt p e below T993 st0 (mkF m 217 #[vj j_, .second, vi f_, vi m_, vi n_, vi qa, vi qb, vj op, .second, vr b5, vr b33, vr b67, vi 1, vi 1, vi 0, vi 1, u_] [(rr b33), (rr b5)]) := fun t k => by
         refine c993 t ?_
         show S_ p e below T993 m 208 #[vj j_, .second, vi f_, vi m_, vi n_, vi qa, vi qb, vj op, .second, vr b5, vr b33, vr b67, vi 1, vi 1, vi 0, vi 1, u_] [] t
         refine XS.iload X993.here hx rfl (hb hby at_208) rfl ?_
         refine XS.ifNo X993.here hx rfl (hb hby at_210) rfl rfl ?_
         refine XS.aload X993.here hx rfl (hb hby at_213) rfl rfl ?_
         refine XS.aload X993.here hx rfl (hb hby at_215) rfl rfl ?_
         exact k
        obtain ⟨_, T1004, L1004, X1004, hQ1004, c1004⟩ := kvirt X993 hx hZ72 hown72 (w94 hw) (w95 hw) (w97 hw) (w96 hw) (w98 hw) (w4 hw) (rm_addSR l Z a0 hw [] b5 b33 b13 b14 sa17_ mv122 b67 T993.heap n0 o1001 (f166.keep K995) (f181.keep K995) (f169.keep K995 (ninS q168 (ninS q190 nin0))) (f170.keep K995 (ninS q168 (ninS q190 nin0))) (f183.keep K995 (ninS q182 (ninS q173.symm nin0))) (f185.keep K995 (ninS q182 (ninS q173.symm nin0))) (f186.keep K995 (ninS q182 (ninS q173.symm nin0))) (f187.keep K995 (ninS q182 (ninS q173.symm nin0))) (f188.keep K995 (ninS q182 (ninS q173.symm nin0))) g33 ZE7_ ZF8_ (f171.keep K995) g29 p999 p1000 (f189.keep K995) g67 q182.symm p996 p997 p998 hc988) rfl (f166.keep K995) c1003 hml pd_pLcom_example_lexchange_lexchange_Order_rV [(rr b33)] [] 0 (hb hby at_217) rfl rfl rfl rfl rfl rfl
        obtain ⟨rfl, N1005q, K1006, p1007, p1008, p1009, p1010, p1011, p1012, p1013, p1014⟩ := hQ1004
        have N1005 := Fr.app N994 N1005q
        have o1015 := o1001.keep K1006 (allS g33 (allS g29 (allS g67 all0)))
        have kp1016 := kp1002.trans K1006 (allS (Or.inr z36) (allS (Or.inr z28) (allS (Or.inr z70) all0)))
        have c1017 : Kt p e below T1004 st0 (mkF m 224 #[vj j_, .second, vi f_, vi m_, vi n_, vi qa, vi qb, vj op, .second, vr b5, vr b33, vr b67, vi 1, vi 1, vi 0, vi 1, u_] [(.int (f_ &&& (64 : Int32)))]) := fun t k => by
         refine c1004 t ?_
         show S_ p e below T1004 m 220 #[vj j_, .second, vi f_, vi m_, vi n_, vi qa, vi qb, vj op, .second, vr b5, vr b33, vr b67, vi 1, vi 1, vi 0, vi 1, u_] [] t
         refine XS.iloadN X1004.here hx rfl (hb hby at_220) rfl ?_
         refine XS.bipush X1004.here hx rfl (hb hby at_221) ?_
         refine XS.iand X1004.here hx rfl (hb hby at_223) rfl ?_
         exact k
        obtain ⟨T1049, h1049, L1049, X1049, e1049, o1049, K1049, kp1049, N1049, f1050, c1049⟩ : ∃ (T1049 : State) (h1049 : Heap) (L1049 : List Loc), Stand p l e room_1 (s.setVm T72.vm) m #[(.long j_), (.int f_), (.int m_), (.int n_)] below meth c T1049 L1049 9 49 ∧ T1049.heap = h1049 ∧ Old Z n0 h1049 ∧ Keep T1004.heap h1049 [b67, b13, b33] ∧ Keep h0 h1049 [] ∧ Fr n0 L1049 ∧ Fld Z h1049 b13 nm2 "head" nm1 (rr b33) ∧ Kt p e below T1049 st0 (mkF m 278 #[vj j_, .second, vi f_, vi m_, vi n_, vi qa, vi qb, vj op, .second, vr b5, vr b33, vr b67, vi 1, vi 1, vi 0, vi 1, u_] []) := by
         by_cases hc1018 : (f_ &&& (64 : Int32)) = (0 : Int32)
         ·have c1019 : Kt p e below T1004 st0 (mkF m 263 #[vj j_, .second, vi f_, vi m_, vi n_, vi qa, vi qb, vj op, .second, vr b5, vr b33, vr b67, vi 1, vi 1, vi 0, vi 1, u_] [(rr b67), (rr b5)]) := fun t k => by
           refine c1017 t ?_
           show S_ p e below T1004 m 224 #[vj j_, .second, vi f_, vi m_, vi n_, vi qa, vi qb, vj op, .second, vr b5, vr b33, vr b67, vi 1, vi 1, vi 0, vi 1, u_] [(.int (f_ &&& (64 : Int32)))] t
           refine yI X1004.here hx rfl 224 254 rfl (hb hby at_224) rfl ((if0 _ _).trans (teq hc1018).1) ?_
           refine XS.iload X1004.here hx rfl (hb hby at_254) rfl ?_
           refine XS.ifNo X1004.here hx rfl (hb hby at_256) rfl rfl ?_
           refine XS.aload X1004.here hx rfl (hb hby at_259) rfl rfl ?_
           refine XS.aload X1004.here hx rfl (hb hby at_261) rfl rfl ?_
           exact k
          obtain ⟨_, T1020, L1020, X1020, hQ1020, c1020⟩ := kvirt X1004 hx hZ72 hown72 (w116 hw) (w117 hw) (w119 hw) (w118 hw) (w120 hw) (w4 hw) (rm_rmSF l Z a0 hw [] b5 b67 b13 b14 b33 T1004.heap n0 o1015 ((f166.keep K995).keep K1006) ((f189.keep K995).keep K1006) ((f169.keep K995 (ninS q168 (ninS q190 nin0))).keep K1006 (ninS q167 (ninS q190 (ninS q168 nin0)))) ((f170.keep K995 (ninS q168 (ninS q190 nin0))).keep K1006 (ninS q167 (ninS q190 (ninS q168 nin0)))) g67 ((f171.keep K995).keep K1006) g29 p1010 p1011 ((f181.keep K995).keep K1006) g33 q182.symm p1012 p1013 p1014 p1007 p1008 p1009) rfl ((f166.keep K995).keep K1006) c1019 hml pd_pLcom_example_lexchange_lexchange_Order_rV [(rr b67)] [] 0 (hb hby at_263) rfl rfl rfl rfl rfl rfl
          obtain ⟨rfl, N1021q, K1022, p1023, p1024, p1025, p1026, p1027, p1028, p1029, p1030⟩ := hQ1020
          have N1021 := Fr.app N1005 N1021q
          have o1031 := o1015.keep K1022 (allS g67 (allS g29 (allS g33 all0)))
          have kp1032 := kp1016.trans K1022 (allS (Or.inr z70) (allS (Or.inr z28) (allS (Or.inr z36) all0)))
          have c1033 : Kt p e below T1020 st0 (mkF m 278 #[vj j_, .second, vi f_, vi m_, vi n_, vi qa, vi qb, vj op, .second, vr b5, vr b33, vr b67, vi 1, vi 1, vi 0, vi 1, u_] []) := fun t k => by
           refine c1020 t ?_
           show S_ p e below T1020 m 266 #[vj j_, .second, vi f_, vi m_, vi n_, vi qa, vi qb, vj op, .second, vr b5, vr b33, vr b67, vi 1, vi 1, vi 0, vi 1, u_] [] t
           refine XS.iload X1020.here hx rfl (hb hby at_266) rfl ?_
           refine yI X1020.here hx rfl 268 278 rfl (hb hby at_268) rfl rfl ?_
           exact k
          have K1052 : Keep T1004.heap T1020.heap [b67, b13, b33] := ((Keep.refl _ _).trans K1022 (allS (Or.inl (List.mem_of_getElem? (i := 0) rfl)) (allS (Or.inl (List.mem_of_getElem? (i := 1) rfl)) (allS (Or.inl (List.mem_of_getElem? (i := 2) rfl)) all0))))
          exact ⟨T1020, _, _, X1020.mono (by decide) (by decide), rfl, o1031, K1052, kp1032, N1021, p1026, c1033⟩
         ·have c1034 : Kt p e below T1004 st0 (mkF m 248 #[vj j_, .second, vi f_, vi m_, vi n_, vi qa, vi qb, vj op, .second, vr b5, vr b33, vr b67, vi 1, vi 1, vi 0, vi 1, u_] [(rr b67), (rr b5)]) := fun t k => by
           refine c1017 t ?_
           show S_ p e below T1004 m 224 #[vj j_, .second, vi f_, vi m_, vi n_, vi qa, vi qb, vj op, .second, vr b5, vr b33, vr b67, vi 1, vi 1, vi 0, vi 1, u_] [(.int (f_ &&& (64 : Int32)))] t
           refine XS.ifNo X1004.here hx rfl (hb hby at_224) rfl ((if0 _ _).trans (feq hc1018).1) ?_
           refine XS.iload X1004.here hx rfl (hb hby at_227) rfl ?_
           refine yI X1004.here hx rfl 229 239 rfl (hb hby at_229) rfl rfl ?_
           refine XS.iload X1004.here hx rfl (hb hby at_239) rfl ?_
           refine XS.ifNo X1004.here hx rfl (hb hby at_241) rfl rfl ?_
           refine XS.aload X1004.here hx rfl (hb hby at_244) rfl rfl ?_
           refine XS.aload X1004.here hx rfl (hb hby at_246) rfl rfl ?_
           exact k
          obtain ⟨_, T1035, L1035, X1035, hQ1035, c1035⟩ := kvirt X1004 hx hZ72 hown72 (w116 hw) (w117 hw) (w119 hw) (w118 hw) (w120 hw) (w4 hw) (rm_rmSF l Z a0 hw [] b5 b67 b13 b14 b33 T1004.heap n0 o1015 ((f166.keep K995).keep K1006) ((f189.keep K995).keep K1006) ((f169.keep K995 (ninS q168 (ninS q190 nin0))).keep K1006 (ninS q167 (ninS q190 (ninS q168 nin0)))) ((f170.keep K995 (ninS q168 (ninS q190 nin0))).keep K1006 (ninS q167 (ninS q190 (ninS q168 nin0)))) g67 ((f171.keep K995).keep K1006) g29 p1010 p1011 ((f181.keep K995).keep K1006) g33 q182.symm p1012 p1013 p1014 p1007 p1008 p1009) rfl ((f166.keep K995).keep K1006) c1034 hml pd_pLcom_example_lexchange_lexchange_Order_rV [(rr b67)] [] 0 (hb hby at_248) rfl rfl rfl rfl rfl rfl
          obtain ⟨rfl, N1036q, K1037, p1038, p1039, p1040, p1041, p1042, p1043, p1044, p1045⟩ := hQ1035
          have N1036 := Fr.app N1005 N1036q
          have o1046 := o1015.keep K1037 (allS g67 (allS g29 (allS g33 all0)))
          have kp1047 := kp1016.trans K1037 (allS (Or.inr z70) (allS (Or.inr z28) (allS (Or.inr z36) all0)))
          have c1048 : Kt p e below T1035 st0 (mkF m 278 #[vj j_, .second, vi f_, vi m_, vi n_, vi qa, vi qb, vj op, .second, vr b5, vr b33, vr b67, vi 1, vi 1, vi 0, vi 1, u_] []) := fun t k => by
           refine c1035 t ?_
           show S_ p e below T1035 m 251 #[vj j_, .second, vi f_, vi m_, vi n_, vi qa, vi qb, vj op, .second, vr b5, vr b33, vr b67, vi 1, vi 1, vi 0, vi 1, u_] [] t
           refine yG X1035.here hx rfl 251 278 rfl (hb hby at_251) ?_
           exact k
          have K1051 : Keep T1004.heap T1035.heap [b67, b13, b33] := ((Keep.refl _ _).trans K1037 (allS (Or.inl (List.mem_of_getElem? (i := 0) rfl)) (allS (Or.inl (List.mem_of_getElem? (i := 1) rfl)) (allS (Or.inl (List.mem_of_getElem? (i := 2) rfl)) all0))))
          exact ⟨T1035, _, _, X1035.mono (by decide) (by decide), rfl, o1046, K1051, kp1047, N1036, p1041, c1048⟩
        have f1053 := ((f169.keep K995 (ninS q168 (ninS q190 nin0))).keep K1006 (ninS q167 (ninS q190 (ninS q168 nin0)))).keep K1049 (ninS q168 (ninS q190 (ninS q167 nin0)))
        have f1054 := ((f170.keep K995 (ninS q168 (ninS q190 nin0))).keep K1006 (ninS q167 (ninS q190 (ninS q168 nin0)))).keep K1049 (ninS q168 (ninS q190 (ninS q167 nin0)))
        have c1055 : Kt p e below T1049 st0 (mkF m 315 #[vj j_, .second, vi f_, vi m_, vi n_, vi qa, vi qb, vj op, .second, vr b5, vr b33, vr b67, vi 1, vi 1, vi 0, vi 1, vi 1] [(rr b5)]) := fun t k => by
         refine c1049 t ?_
         show S_ p e below T1049 m 278 #[vj j_, .second, vi f_, vi m_, vi n_, vi qa, vi qb, vj op, .second, vr b5, vr b33, vr b67, vi 1, vi 1, vi 0, vi 1, u_] [] t
         refine XS.iconst X1049.here hx rfl (hb hby at_278) ?_
         refine XS.istore X1049.here hx rfl (hb hby at_279) rfl (l' := #[vj j_, .second, vi f_, vi m_, vi n_, vi qa, vi qb, vj op, .second, vr b5, vr b33, vr b67, vi 1, vi 1, vi 0, vi 1, vi 0]) rfl ?_
         refine XS.iload X1049.here hx rfl (hb hby at_281) rfl ?_
         refine XS.ifNo X1049.here hx rfl (hb hby at_283) rfl rfl ?_
         refine XS.iload X1049.here hx rfl (hb hby at_286) rfl ?_
         refine XS.ifNo X1049.here hx rfl (hb hby at_288) rfl rfl ?_
         refine XS.iload X1049.here hx rfl (hb hby at_291) rfl ?_
         refine XS.iconst X1049.here hx rfl (hb hby at_293) ?_
         show S_ p e below T1049 m 294 #[vj j_, .second, vi f_, vi m_, vi n_, vi qa, vi qb, vj op, .second, vr b5, vr b33, vr b67, vi 1, vi 1, vi 0, vi 1, vi 0] [(ii 1), (ii 0)] t
         refine XS.iadd X1049.here hx rfl (hb hby at_294) rfl ?_
         refine XS.istore X1049.here hx rfl (hb hby at_295) rfl (l' := #[vj j_, .second, vi f_, vi m_, vi n_, vi qa, vi qb, vj op, .second, vr b5, vr b33, vr b67, vi 1, vi 1, vi 0, vi 1, vi 1]) rfl ?_
         refine XS.iload X1049.here hx rfl (hb hby at_297) rfl ?_
         refine XS.ifNo X1049.here hx rfl (hb hby at_299) rfl rfl ?_
         refine XS.iload X1049.here hx rfl (hb hby at_302) rfl ?_
         refine yI X1049.here hx rfl 304 313 rfl (hb hby at_304) rfl rfl ?_
         refine XS.aload X1049.here hx rfl (hb hby at_313) rfl rfl ?_
         exact k
        obtain ⟨_, T1056, L1056, X1056, hQ1056, c1056⟩ := kvirt X1049 hx hZ72 hown72 (w87 hw) (w88 hw) (w90 hw) (w89 hw) (w91 hw) (w4 hw) (rm_emS l Z a0 hw [] b5 b13 b14 b33 h1049 n0 o1049 (((f166.keep K995).keep K1006).keep K1049) f1053 f1054 f1050) e1049 (((f166.keep K995).keep K1006).keep K1049) c1055 hml pd_prZ [] [] 0 (hb hby at_315) rfl rfl rfl rfl rfl rfl
        obtain ⟨rfl, N1057q, K1058⟩ := hQ1056
        have N1057 := Fr.app N1049 N1057q
        obtain ⟨fs, hr, hrun, hended, hRW⟩ := X1056.leaveW hS72 (by first | exact (Nat.le_trans hk72 (Nat.le_trans (Nat.le_trans (Nat.le_trans (Nat.le_trans (Nat.le_trans K91.1 K123.1) K156.1) K995.1) K1006.1) K1049.1)) | (rw [K1058]; exact (Nat.le_trans hk72 (Nat.le_trans (Nat.le_trans (Nat.le_trans (Nat.le_trans (Nat.le_trans K91.1 K123.1) K156.1) K995.1) K1006.1) K1049.1)))) (v := some (ii 1)) (fun h => by rw [Bd.returns] at h; cases h)
        refine ⟨_, _, c1056 _ ?_, hrun, hended, _, _, rfl, ?_, hRW.1, hRW.2.1, hRW.2.2.1, hRW.2.2.2.mono (by decide) (by decide)⟩
        ·show S_ p e below T1056 m 318 #[vj j_, .second, vi f_, vi m_, vi n_, vi qa, vi qb, vj op, .second, vr b5, vr b33, vr b67, vi 1, vi 1, vi 0, vi 1, vi 1] [(ii 0)] _
         refine XS.iload X1056.here hx rfl (hb hby at_318) rfl ?_
         refine yI X1056.here hx rfl 320 327 rfl (hb hby at_320) rfl rfl ?_
         refine XS.iconst X1056.here hx rfl (hb hby at_327) ?_
         refine XS.icmpNo X1056.here hx rfl (hb hby at_328) rfl rfl ?_
         refine XS.iconst X1056.here hx rfl (hb hby at_331) ?_
         refine yG X1056.here hx rfl 332 336 rfl (hb hby at_332) ?_
         show S_ p e below T1056 m 336 #[vj j_, .second, vi f_, vi m_, vi n_, vi qa, vi qb, vj op, .second, vr b5, vr b33, vr b67, vi 1, vi 1, vi 0, vi 1, vi 1] [(ii 1)] _
         exact retN X1056 hx (t := .boolean) Bd.returns (by simp) (hb hby at_336) hr
        ·show Q_law Z j_ f_ m_ n_ sa5_ sa9_ sa13_ sa17_ h0 n0 _ T1056.heap _
         rw [K1058]
         exact ⟨rfl, N1057, kp1049⟩
       ·have c1059 : Kt p e below T156 st0 (mkF m 178 #[vj j_, .second, vi f_, vi m_, vi n_, vi qa, vi qb, vj op, .second, vr b5, vr b33, vr b67, vi 1, vi 1, vi 0, vi 1, u_] [(rr b33), (rr b5)]) := fun t k => by
         refine c990 t ?_
         show S_ p e below T156 m 166 #[vj j_, .second, vi f_, vi m_, vi n_, vi qa, vi qb, vj op, .second, vr b5, vr b33, vr b67, vi 1, vi 1, vi 0, vi 1, u_] [(.int (f_ &&& (128 : Int32)))] t
         refine XS.ifNo X156.here hx rfl (hb hby at_166) rfl ((if0 _ _).trans (feq hc991).1) ?_
         refine XS.iload X156.here hx rfl (hb hby at_169) rfl ?_
         refine XS.ifNo X156.here hx rfl (hb hby at_171) rfl rfl ?_
         refine XS.aload X156.here hx rfl (hb hby at_174) rfl rfl ?_
         refine XS.aload X156.here hx rfl (hb hby at_176) rfl rfl ?_
         exact k
        obtain ⟨_, T1060, L1060, X1060, hQ1060, c1060⟩ := kvirt X156 hx hZ72 hown72 (w94 hw) (w95 hw) (w97 hw) (w96 hw) (w98 hw) (w4 hw) (rm_addSN l Z a0 hw [] b5 b33 b13 b14 sa17_ mv122 h156 n0 o156 f166 f181 f169 f170 f183 f185 f186 f187 f188 g33 ZE7_ ZF8_ f171 g29 f175 f176 hc988) e156 f166 c1059 hml pd_pLcom_example_lexchange_lexchange_Order_rV [(rr b33)] [] 0 (hb hby at_178) rfl rfl rfl rfl rfl rfl
        obtain ⟨rfl, N1061q, K1062, p1063, p1064, p1065, p1066, p1067⟩ := hQ1060
        have N1061 := Fr.app N156 N1061q
        have o1068 := o156.keep K1062 (allS g33 (allS g29 all0))
        have kp1069 := kp156.trans K1062 (allS (Or.inr z36) (allS (Or.inr z28) all0))
        have c1070 : Kt p e below T1060 st0 (mkF m 190 #[vj j_, .second, vi f_, vi m_, vi n_, vi qa, vi qb, vj op, .second, vr b5, vr b33, vr b67, vi 1, vi 1, vi 0, vi 1, u_] [(rr b67), (rr b5)]) := fun t k => by
         refine c1060 t ?_
         show S_ p e below T1060 m 181 #[vj j_, .second, vi f_, vi m_, vi n_, vi qa, vi qb, vj op, .second, vr b5, vr b33, vr b67, vi 1, vi 1, vi 0, vi 1, u_] [] t
         refine XS.iload X1060.here hx rfl (hb hby at_181) rfl ?_
         refine XS.ifNo X1060.here hx rfl (hb hby at_183) rfl rfl ?_
         refine XS.aload X1060.here hx rfl (hb hby at_186) rfl rfl ?_
         refine XS.aload X1060.here hx rfl (hb hby at_188) rfl rfl ?_
         exact k
        obtain ⟨_, T1071, L1071, X1071, hQ1071, c1071⟩ := kvirt X1060 hx hZ72 hown72 (w94 hw) (w95 hw) (w97 hw) (w96 hw) (w98 hw) (w4 hw) (rm_addSR l Z a0 hw [] b5 b67 b13 b14 sa17_ mv155 b33 T1060.heap n0 o1068 (f166.keep K1062) (f189.keep K1062) (f169.keep K1062 (ninS q167 (ninS q190 nin0))) (f170.keep K1062 (ninS q167 (ninS q190 nin0))) (f157.keep K1062 (ninS q182.symm (ninS q174.symm nin0))) (f159.keep K1062 (ninS q182.symm (ninS q174.symm nin0))) (f160.keep K1062 (ninS q182.symm (ninS q174.symm nin0))) (f161.keep K1062 (ninS q182.symm (ninS q174.symm nin0))) (f162.keep K1062 (ninS q182.symm (ninS q174.symm nin0))) g67 ZE7_ ZF8_ (f171.keep K1062) g29 p1066 p1067 (f181.keep K1062) g33 q182 p1063 p1064 p1065 hc989) rfl (f166.keep K1062) c1070 hml pd_pLcom_example_lexchange_lexchange_Order_rV [(rr b67)] [] 0 (hb hby at_190) rfl rfl rfl rfl rfl rfl
        obtain ⟨rfl, N1072q, K1073, p1074, p1075, p1076, p1077, p1078, p1079, p1080, p1081⟩ := hQ1071
        have N1072 := Fr.app N1061 N1072q
        have o1082 := o1068.keep K1073 (allS g67 (allS g29 (allS g33 all0)))
        have kp1083 := kp1069.trans K1073 (allS (Or.inr z70) (allS (Or.inr z28) (allS (Or.inr z36) all0)))
        have c1084 : Kt p e below T1071 st0 (mkF m 224 #[vj j_, .second, vi f_, vi m_, vi n_, vi qa, vi qb, vj op, .second, vr b5, vr b33, vr b67, vi 1, vi 1, vi 0, vi 1, u_] [(.int (f_ &&& (64 : Int32)))]) := fun t k => by
         refine c1071 t ?_
         show S_ p e below T1071 m 193 #[vj j_, .second, vi f_, vi m_, vi n_, vi qa, vi qb, vj op, .second, vr b5, vr b33, vr b67, vi 1, vi 1, vi 0, vi 1, u_] [] t
         refine yG X1071.here hx rfl 193 220 rfl (hb hby at_193) ?_
         refine XS.iloadN X1071.here hx rfl (hb hby at_220) rfl ?_
         refine XS.bipush X1071.here hx rfl (hb hby at_221) ?_
         refine XS.iand X1071.here hx rfl (hb hby at_223) rfl ?_
         exact k
        obtain ⟨T1116, h1116, L1116, X1116, e1116, o1116, K1116, kp1116, N1116, f1117, c1116⟩ : ∃ (T1116 : State) (h1116 : Heap) (L1116 : List Loc), Stand p l e room_1 (s.setVm T72.vm) m #[(.long j_), (.int f_), (.int m_), (.int n_)] below meth c T1116 L1116 9 49 ∧ T1116.heap = h1116 ∧ Old Z n0 h1116 ∧ Keep T1071.heap h1116 [b67, b13, b33] ∧ Keep h0 h1116 [] ∧ Fr n0 L1116 ∧ Fld Z h1116 b13 nm2 "head" nm1 (rr b33) ∧ Kt p e below T1116 st0 (mkF m 278 #[vj j_, .second, vi f_, vi m_, vi n_, vi qa, vi qb, vj op, .second, vr b5, vr b33, vr b67, vi 1, vi 1, vi 0, vi 1, u_] []) := by
         by_cases hc1085 : (f_ &&& (64 : Int32)) = (0 : Int32)
         ·have c1086 : Kt p e below T1071 st0 (mkF m 263 #[vj j_, .second, vi f_, vi m_, vi n_, vi qa, vi qb, vj op, .second, vr b5, vr b33, vr b67, vi 1, vi 1, vi 0, vi 1, u_] [(rr b67), (rr b5)]) := fun t k => by
           refine c1084 t ?_
           show S_ p e below T1071 m 224 #[vj j_, .second, vi f_, vi m_, vi n_, vi qa, vi qb, vj op, .second, vr b5, vr b33, vr b67, vi 1, vi 1, vi 0, vi 1, u_] [(.int (f_ &&& (64 : Int32)))] t
           refine yI X1071.here hx rfl 224 254 rfl (hb hby at_224) rfl ((if0 _ _).trans (teq hc1085).1) ?_
           refine XS.iload X1071.here hx rfl (hb hby at_254) rfl ?_
           refine XS.ifNo X1071.here hx rfl (hb hby at_256) rfl rfl ?_
           refine XS.aload X1071.here hx rfl (hb hby at_259) rfl rfl ?_
           refine XS.aload X1071.here hx rfl (hb hby at_261) rfl rfl ?_
           exact k
          obtain ⟨_, T1087, L1087, X1087, hQ1087, c1087⟩ := kvirt X1071 hx hZ72 hown72 (w116 hw) (w117 hw) (w119 hw) (w118 hw) (w120 hw) (w4 hw) (rm_rmSL l Z a0 hw [] b5 b67 b13 b14 b33 T1071.heap n0 o1082 ((f166.keep K1062).keep K1073) ((f189.keep K1062).keep K1073) ((f169.keep K1062 (ninS q167 (ninS q190 nin0))).keep K1073 (ninS q168 (ninS q190 (ninS q167 nin0)))) ((f170.keep K1062 (ninS q167 (ninS q190 nin0))).keep K1073 (ninS q168 (ninS q190 (ninS q167 nin0)))) g67 ((f171.keep K1062).keep K1073) g29 p1077 p1078 ((f181.keep K1062).keep K1073) g33 q182.symm p1074 p1075 p1076 p1079 p1080 p1081) rfl ((f166.keep K1062).keep K1073) c1086 hml pd_pLcom_example_lexchange_lexchange_Order_rV [(rr b67)] [] 0 (hb hby at_263) rfl rfl rfl rfl rfl rfl
          obtain ⟨rfl, N1088q, K1089, p1090, p1091, p1092, p1093, p1094, p1095, p1096, p1097⟩ := hQ1087
          have N1088 := Fr.app N1072 N1088q
          have o1098 := o1082.keep K1089 (allS g67 (allS g29 (allS g33 all0)))
          have kp1099 := kp1083.trans K1089 (allS (Or.inr z70) (allS (Or.inr z28) (allS (Or.inr z36) all0)))
          have c1100 : Kt p e below T1087 st0 (mkF m 278 #[vj j_, .second, vi f_, vi m_, vi n_, vi qa, vi qb, vj op, .second, vr b5, vr b33, vr b67, vi 1, vi 1, vi 0, vi 1, u_] []) := fun t k => by
           refine c1087 t ?_
           show S_ p e below T1087 m 266 #[vj j_, .second, vi f_, vi m_, vi n_, vi qa, vi qb, vj op, .second, vr b5, vr b33, vr b67, vi 1, vi 1, vi 0, vi 1, u_] [] t
           refine XS.iload X1087.here hx rfl (hb hby at_266) rfl ?_
           refine yI X1087.here hx rfl 268 278 rfl (hb hby at_268) rfl rfl ?_
           exact k
          have K1119 : Keep T1071.heap T1087.heap [b67, b13, b33] := ((Keep.refl _ _).trans K1089 (allS (Or.inl (List.mem_of_getElem? (i := 0) rfl)) (allS (Or.inl (List.mem_of_getElem? (i := 1) rfl)) (allS (Or.inl (List.mem_of_getElem? (i := 2) rfl)) all0))))
          exact ⟨T1087, _, _, X1087.mono (by decide) (by decide), rfl, o1098, K1119, kp1099, N1088, p1093, c1100⟩
         ·have c1101 : Kt p e below T1071 st0 (mkF m 248 #[vj j_, .second, vi f_, vi m_, vi n_, vi qa, vi qb, vj op, .second, vr b5, vr b33, vr b67, vi 1, vi 1, vi 0, vi 1, u_] [(rr b67), (rr b5)]) := fun t k => by
           refine c1084 t ?_
           show S_ p e below T1071 m 224 #[vj j_, .second, vi f_, vi m_, vi n_, vi qa, vi qb, vj op, .second, vr b5, vr b33, vr b67, vi 1, vi 1, vi 0, vi 1, u_] [(.int (f_ &&& (64 : Int32)))] t
           refine XS.ifNo X1071.here hx rfl (hb hby at_224) rfl ((if0 _ _).trans (feq hc1085).1) ?_
           refine XS.iload X1071.here hx rfl (hb hby at_227) rfl ?_
           refine yI X1071.here hx rfl 229 239 rfl (hb hby at_229) rfl rfl ?_
           refine XS.iload X1071.here hx rfl (hb hby at_239) rfl ?_
           refine XS.ifNo X1071.here hx rfl (hb hby at_241) rfl rfl ?_
           refine XS.aload X1071.here hx rfl (hb hby at_244) rfl rfl ?_
           refine XS.aload X1071.here hx rfl (hb hby at_246) rfl rfl ?_
           exact k
          obtain ⟨_, T1102, L1102, X1102, hQ1102, c1102⟩ := kvirt X1071 hx hZ72 hown72 (w116 hw) (w117 hw) (w119 hw) (w118 hw) (w120 hw) (w4 hw) (rm_rmSL l Z a0 hw [] b5 b67 b13 b14 b33 T1071.heap n0 o1082 ((f166.keep K1062).keep K1073) ((f189.keep K1062).keep K1073) ((f169.keep K1062 (ninS q167 (ninS q190 nin0))).keep K1073 (ninS q168 (ninS q190 (ninS q167 nin0)))) ((f170.keep K1062 (ninS q167 (ninS q190 nin0))).keep K1073 (ninS q168 (ninS q190 (ninS q167 nin0)))) g67 ((f171.keep K1062).keep K1073) g29 p1077 p1078 ((f181.keep K1062).keep K1073) g33 q182.symm p1074 p1075 p1076 p1079 p1080 p1081) rfl ((f166.keep K1062).keep K1073) c1101 hml pd_pLcom_example_lexchange_lexchange_Order_rV [(rr b67)] [] 0 (hb hby at_248) rfl rfl rfl rfl rfl rfl
          obtain ⟨rfl, N1103q, K1104, p1105, p1106, p1107, p1108, p1109, p1110, p1111, p1112⟩ := hQ1102
          have N1103 := Fr.app N1072 N1103q
          have o1113 := o1082.keep K1104 (allS g67 (allS g29 (allS g33 all0)))
          have kp1114 := kp1083.trans K1104 (allS (Or.inr z70) (allS (Or.inr z28) (allS (Or.inr z36) all0)))
          have c1115 : Kt p e below T1102 st0 (mkF m 278 #[vj j_, .second, vi f_, vi m_, vi n_, vi qa, vi qb, vj op, .second, vr b5, vr b33, vr b67, vi 1, vi 1, vi 0, vi 1, u_] []) := fun t k => by
           refine c1102 t ?_
           show S_ p e below T1102 m 251 #[vj j_, .second, vi f_, vi m_, vi n_, vi qa, vi qb, vj op, .second, vr b5, vr b33, vr b67, vi 1, vi 1, vi 0, vi 1, u_] [] t
           refine yG X1102.here hx rfl 251 278 rfl (hb hby at_251) ?_
           exact k
          have K1118 : Keep T1071.heap T1102.heap [b67, b13, b33] := ((Keep.refl _ _).trans K1104 (allS (Or.inl (List.mem_of_getElem? (i := 0) rfl)) (allS (Or.inl (List.mem_of_getElem? (i := 1) rfl)) (allS (Or.inl (List.mem_of_getElem? (i := 2) rfl)) all0))))
          exact ⟨T1102, _, _, X1102.mono (by decide) (by decide), rfl, o1113, K1118, kp1114, N1103, p1108, c1115⟩
        have f1120 := ((f169.keep K1062 (ninS q167 (ninS q190 nin0))).keep K1073 (ninS q168 (ninS q190 (ninS q167 nin0)))).keep K1116 (ninS q168 (ninS q190 (ninS q167 nin0)))
        have f1121 := ((f170.keep K1062 (ninS q167 (ninS q190 nin0))).keep K1073 (ninS q168 (ninS q190 (ninS q167 nin0)))).keep K1116 (ninS q168 (ninS q190 (ninS q167 nin0)))
        have c1122 : Kt p e below T1116 st0 (mkF m 315 #[vj j_, .second, vi f_, vi m_, vi n_, vi qa, vi qb, vj op, .second, vr b5, vr b33, vr b67, vi 1, vi 1, vi 0, vi 1, vi 1] [(rr b5)]) := fun t k => by
         refine c1116 t ?_
         show S_ p e below T1116 m 278 #[vj j_, .second, vi f_, vi m_, vi n_, vi qa, vi qb, vj op, .second, vr b5, vr b33, vr b67, vi 1, vi 1, vi 0, vi 1, u_] [] t
         refine XS.iconst X1116.here hx rfl (hb hby at_278) ?_
         refine XS.istore X1116.here hx rfl (hb hby at_279) rfl (l' := #[vj j_, .second, vi f_, vi m_, vi n_, vi qa, vi qb, vj op, .second, vr b5, vr b33, vr b67, vi 1, vi 1, vi 0, vi 1, vi 0]) rfl ?_
         refine XS.iload X1116.here hx rfl (hb hby at_281) rfl ?_
         refine XS.ifNo X1116.here hx rfl (hb hby at_283) rfl rfl ?_
         refine XS.iload X1116.here hx rfl (hb hby at_286) rfl ?_
         refine XS.ifNo X1116.here hx rfl (hb hby at_288) rfl rfl ?_
         refine XS.iload X1116.here hx rfl (hb hby at_291) rfl ?_
         refine XS.iconst X1116.here hx rfl (hb hby at_293) ?_
         show S_ p e below T1116 m 294 #[vj j_, .second, vi f_, vi m_, vi n_, vi qa, vi qb, vj op, .second, vr b5, vr b33, vr b67, vi 1, vi 1, vi 0, vi 1, vi 0] [(ii 1), (ii 0)] t
         refine XS.iadd X1116.here hx rfl (hb hby at_294) rfl ?_
         refine XS.istore X1116.here hx rfl (hb hby at_295) rfl (l' := #[vj j_, .second, vi f_, vi m_, vi n_, vi qa, vi qb, vj op, .second, vr b5, vr b33, vr b67, vi 1, vi 1, vi 0, vi 1, vi 1]) rfl ?_
         refine XS.iload X1116.here hx rfl (hb hby at_297) rfl ?_
         refine XS.ifNo X1116.here hx rfl (hb hby at_299) rfl rfl ?_
         refine XS.iload X1116.here hx rfl (hb hby at_302) rfl ?_
         refine yI X1116.here hx rfl 304 313 rfl (hb hby at_304) rfl rfl ?_
         refine XS.aload X1116.here hx rfl (hb hby at_313) rfl rfl ?_
         exact k
        obtain ⟨_, T1123, L1123, X1123, hQ1123, c1123⟩ := kvirt X1116 hx hZ72 hown72 (w87 hw) (w88 hw) (w90 hw) (w89 hw) (w91 hw) (w4 hw) (rm_emS l Z a0 hw [] b5 b13 b14 b33 h1116 n0 o1116 (((f166.keep K1062).keep K1073).keep K1116) f1120 f1121 f1117) e1116 (((f166.keep K1062).keep K1073).keep K1116) c1122 hml pd_prZ [] [] 0 (hb hby at_315) rfl rfl rfl rfl rfl rfl
        obtain ⟨rfl, N1124q, K1125⟩ := hQ1123
        have N1124 := Fr.app N1116 N1124q
        obtain ⟨fs, hr, hrun, hended, hRW⟩ := X1123.leaveW hS72 (by first | exact (Nat.le_trans hk72 (Nat.le_trans (Nat.le_trans (Nat.le_trans (Nat.le_trans (Nat.le_trans K91.1 K123.1) K156.1) K1062.1) K1073.1) K1116.1)) | (rw [K1125]; exact (Nat.le_trans hk72 (Nat.le_trans (Nat.le_trans (Nat.le_trans (Nat.le_trans (Nat.le_trans K91.1 K123.1) K156.1) K1062.1) K1073.1) K1116.1)))) (v := some (ii 1)) (fun h => by rw [Bd.returns] at h; cases h)
        refine ⟨_, _, c1123 _ ?_, hrun, hended, _, _, rfl, ?_, hRW.1, hRW.2.1, hRW.2.2.1, hRW.2.2.2.mono (by decide) (by decide)⟩
        ·show S_ p e below T1123 m 318 #[vj j_, .second, vi f_, vi m_, vi n_, vi qa, vi qb, vj op, .second, vr b5, vr b33, vr b67, vi 1, vi 1, vi 0, vi 1, vi 1] [(ii 0)] _
         refine XS.iload X1123.here hx rfl (hb hby at_318) rfl ?_
         refine yI X1123.here hx rfl 320 327 rfl (hb hby at_320) rfl rfl ?_
         refine XS.iconst X1123.here hx rfl (hb hby at_327) ?_
         refine XS.icmpNo X1123.here hx rfl (hb hby at_328) rfl rfl ?_
         refine XS.iconst X1123.here hx rfl (hb hby at_331) ?_
         refine yG X1123.here hx rfl 332 336 rfl (hb hby at_332) ?_
         show S_ p e below T1123 m 336 #[vj j_, .second, vi f_, vi m_, vi n_, vi qa, vi qb, vj op, .second, vr b5, vr b33, vr b67, vi 1, vi 1, vi 0, vi 1, vi 1] [(ii 1)] _
         exact retN X1123 hx (t := .boolean) Bd.returns (by simp) (hb hby at_336) hr
        ·show Q_law Z j_ f_ m_ n_ sa5_ sa9_ sa13_ sa17_ h0 n0 _ T1123.heap _
         rw [K1125]
         exact ⟨rfl, N1124, kp1116⟩
      ·have c1126 : Kt p e below T156 st0 (mkF m 166 #[vj j_, .second, vi f_, vi m_, vi n_, vi qa, vi qb, vj op, .second, vr b5, vr b33, vr b67, vi 1, vi 1, vi 0, vi 1, u_] [(.int (f_ &&& (128 : Int32)))]) := fun t k => by
        refine c987 t ?_
        show S_ p e below T156 m 161 #[vj j_, .second, vi f_, vi m_, vi n_, vi qa, vi qb, vj op, .second, vr b5, vr b33, vr b67, vi 1, vi 1, vi 0, vi 1, u_] [] t
        refine XS.iloadN X156.here hx rfl (hb hby at_161) rfl ?_
        refine XS.sipush X156.here hx rfl (hb hby at_162) ?_
        refine XS.iand X156.here hx rfl (hb hby at_165) rfl ?_
        exact k
       obtain ⟨T1173, h1173, L1173, X1173, e1173, o1173, K1173, kp1173, N1173, f1174, f1175, f1176, f1177, f1178, f1179, f1180, f1181, f1182, f1183, c1173⟩ : ∃ (T1173 : State) (h1173 : Heap) (L1173 : List Loc), Stand p l e room_1 (s.setVm T72.vm) m #[(.long j_), (.int f_), (.int m_), (.int n_)] below meth c T1173 L1173 9 49 ∧ T1173.heap = h1173 ∧ Old Z n0 h1173 ∧ Keep h156 h1173 [b67, b14, b33, b13] ∧ Keep h0 h1173 [] ∧ Fr n0 L1173 ∧ Fld Z h1173 b13 nm2 "head" nm1 (rr b33) ∧ Fld Z h1173 b13 nm2 "tail" nm1 (rr b33) ∧ Fld Z h1173 b14 nm2 "head" nm1 (rr b67) ∧ Fld Z h1173 b14 nm2 "tail" nm1 (rr b67) ∧ Fld Z h1173 b33 nm0 "queue" nm4 (rr b5) ∧ Fld Z h1173 b33 nm0 "previous" nm1 .null ∧ Fld Z h1173 b33 nm0 "next" nm1 .null ∧ Fld Z h1173 b67 nm0 "queue" nm4 (rr b5) ∧ Fld Z h1173 b67 nm0 "previous" nm1 .null ∧ Fld Z h1173 b67 nm0 "next" nm1 .null ∧ Kt p e below T1173 st0 (mkF m 220 #[vj j_, .second, vi f_, vi m_, vi n_, vi qa, vi qb, vj op, .second, vr b5, vr b33, vr b67, vi 1, vi 1, vi 0, vi 1, u_] []) := by
        by_cases hc1127 : (f_ &&& (128 : Int32)) = (0 : Int32)
        ·have c1128 : Kt p e below T156 st0 (mkF m 205 #[vj j_, .second, vi f_, vi m_, vi n_, vi qa, vi qb, vj op, .second, vr b5, vr b33, vr b67, vi 1, vi 1, vi 0, vi 1, u_] [(rr b67), (rr b5)]) := fun t k => by
          refine c1126 t ?_
          show S_ p e below T156 m 166 #[vj j_, .second, vi f_, vi m_, vi n_, vi qa, vi qb, vj op, .second, vr b5, vr b33, vr b67, vi 1, vi 1, vi 0, vi 1, u_] [(.int (f_ &&& (128 : Int32)))] t
          refine yI X156.here hx rfl 166 196 rfl (hb hby at_166) rfl ((if0 _ _).trans (teq hc1127).1) ?_
          refine XS.iload X156.here hx rfl (hb hby at_196) rfl ?_
          refine XS.ifNo X156.here hx rfl (hb hby at_198) rfl rfl ?_
          refine XS.aload X156.here hx rfl (hb hby at_201) rfl rfl ?_
          refine XS.aload X156.here hx rfl (hb hby at_203) rfl rfl ?_
          exact k
         obtain ⟨_, T1129, L1129, X1129, hQ1129, c1129⟩ := kvirt X156 hx hZ72 hown72 (w94 hw) (w95 hw) (w97 hw) (w96 hw) (w98 hw) (w4 hw) (rm_addHN l Z a0 hw [] b5 b67 b13 b14 sa17_ mv155 h156 n0 o156 f166 f189 f169 f170 f157 f159 f160 f161 f162 g67 ZE7_ ZF8_ f172 g31 f179 f180 hc989) e156 f166 c1128 hml pd_pLcom_example_lexchange_lexchange_Order_rV [(rr b67)] [] 0 (hb hby at_205) rfl rfl rfl rfl rfl rfl
         obtain ⟨rfl, N1130q, K1131, p1132, p1133, p1134, p1135, p1136⟩ := hQ1129
         have N1130 := Fr.app N156 N1130q
         have o1137 := o156.keep K1131 (allS g67 (allS g31 all0))
         have kp1138 := kp156.trans K1131 (allS (Or.inr z70) (allS (Or.inr z30) all0))
         have c1139 : Kt p e below T1129 st0 (mkF m 217 #[vj j_, .second, vi f_, vi m_, vi n_, vi qa, vi qb, vj op, .second, vr b5, vr b33, vr b67, vi 1, vi 1, vi 0, vi 1, u_] [(rr b33), (rr b5)]) := fun t k => by
          refine c1129 t ?_
          show S_ p e below T1129 m 208 #[vj j_, .second, vi f_, vi m_, vi n_, vi qa, vi qb, vj op, .second, vr b5, vr b33, vr b67, vi 1, vi 1, vi 0, vi 1, u_] [] t
          refine XS.iload X1129.here hx rfl (hb hby at_208) rfl ?_
          refine XS.ifNo X1129.here hx rfl (hb hby at_210) rfl rfl ?_
          refine XS.aload X1129.here hx rfl (hb hby at_213) rfl rfl ?_
          refine XS.aload X1129.here hx rfl (hb hby at_215) rfl rfl ?_
          exact k
         obtain ⟨_, T1140, L1140, X1140, hQ1140, c1140⟩ := kvirt X1129 hx hZ72 hown72 (w94 hw) (w95 hw) (w97 hw) (w96 hw) (w98 hw) (w4 hw) (rm_addSN l Z a0 hw [] b5 b33 b13 b14 sa17_ mv122 T1129.heap n0 o1137 (f166.keep K1131) (f181.keep K1131) (f169.keep K1131 (ninS q168 (ninS q191 nin0))) (f170.keep K1131 (ninS q168 (ninS q191 nin0))) (f183.keep K1131 (ninS q182 (ninS q177.symm nin0))) (f185.keep K1131 (ninS q182 (ninS q177.symm nin0))) (f186.keep K1131 (ninS q182 (ninS q177.symm nin0))) (f187.keep K1131 (ninS q182 (ninS q177.symm nin0))) (f188.keep K1131 (ninS q182 (ninS q177.symm nin0))) g33 ZE7_ ZF8_ (f171.keep K1131) g29 (f175.keep K1131 (ninS q174 (ninS p25 nin0))) (f176.keep K1131 (ninS q174 (ninS p25 nin0))) hc988) rfl (f166.keep K1131) c1139 hml pd_pLcom_example_lexchange_lexchange_Order_rV [(rr b33)] [] 0 (hb hby at_217) rfl rfl rfl rfl rfl rfl
         obtain ⟨rfl, N1141q, K1142, p1143, p1144, p1145, p1146, p1147⟩ := hQ1140
         have N1141 := Fr.app N1130 N1141q
         have o1148 := o1137.keep K1142 (allS g33 (allS g29 all0))
         have kp1149 := kp1138.trans K1142 (allS (Or.inr z36) (allS (Or.inr z28) all0))
         have K1185 : Keep h156 T1140.heap [b67, b14, b33, b13] := (((Keep.refl _ _).trans K1131 (allS (Or.inl (List.mem_of_getElem? (i := 0) rfl)) (allS (Or.inl (List.mem_of_getElem? (i := 1) rfl)) all0))).trans K1142 (allS (Or.inl (List.mem_of_getElem? (i := 2) rfl)) (allS (Or.inl (List.mem_of_getElem? (i := 3) rfl)) all0)))
         exact ⟨T1140, _, _, X1140.mono (by decide) (by decide), rfl, o1148, K1185, kp1149, N1141, p1146, p1147, (p1135.keep K1142 (ninS q177 (ninS p25.symm nin0))), (p1136.keep K1142 (ninS q177 (ninS p25.symm nin0))), p1143, p1144, p1145, (p1132.keep K1142 (ninS q182.symm (ninS q174.symm nin0))), (p1133.keep K1142 (ninS q182.symm (ninS q174.symm nin0))), (p1134.keep K1142 (ninS q182.symm (ninS q174.symm nin0))), c1140⟩
        ·have c1150 : Kt p e below T156 st0 (mkF m 178 #[vj j_, .second, vi f_, vi m_, vi n_, vi qa, vi qb, vj op, .second, vr b5, vr b33, vr b67, vi 1, vi 1, vi 0, vi 1, u_] [(rr b33), (rr b5)]) := fun t k => by
          refine c1126 t ?_
          show S_ p e below T156 m 166 #[vj j_, .second, vi f_, vi m_, vi n_, vi qa, vi qb, vj op, .second, vr b5, vr b33, vr b67, vi 1, vi 1, vi 0, vi 1, u_] [(.int (f_ &&& (128 : Int32)))] t
          refine XS.ifNo X156.here hx rfl (hb hby at_166) rfl ((if0 _ _).trans (feq hc1127).1) ?_
          refine XS.iload X156.here hx rfl (hb hby at_169) rfl ?_
          refine XS.ifNo X156.here hx rfl (hb hby at_171) rfl rfl ?_
          refine XS.aload X156.here hx rfl (hb hby at_174) rfl rfl ?_
          refine XS.aload X156.here hx rfl (hb hby at_176) rfl rfl ?_
          exact k
         obtain ⟨_, T1151, L1151, X1151, hQ1151, c1151⟩ := kvirt X156 hx hZ72 hown72 (w94 hw) (w95 hw) (w97 hw) (w96 hw) (w98 hw) (w4 hw) (rm_addSN l Z a0 hw [] b5 b33 b13 b14 sa17_ mv122 h156 n0 o156 f166 f181 f169 f170 f183 f185 f186 f187 f188 g33 ZE7_ ZF8_ f171 g29 f175 f176 hc988) e156 f166 c1150 hml pd_pLcom_example_lexchange_lexchange_Order_rV [(rr b33)] [] 0 (hb hby at_178) rfl rfl rfl rfl rfl rfl
         obtain ⟨rfl, N1152q, K1153, p1154, p1155, p1156, p1157, p1158⟩ := hQ1151
         have N1152 := Fr.app N156 N1152q
         have o1159 := o156.keep K1153 (allS g33 (allS g29 all0))
         have kp1160 := kp156.trans K1153 (allS (Or.inr z36) (allS (Or.inr z28) all0))
         have c1161 : Kt p e below T1151 st0 (mkF m 190 #[vj j_, .second, vi f_, vi m_, vi n_, vi qa, vi qb, vj op, .second, vr b5, vr b33, vr b67, vi 1, vi 1, vi 0, vi 1, u_] [(rr b67), (rr b5)]) := fun t k => by
          refine c1151 t ?_
          show S_ p e below T1151 m 181 #[vj j_, .second, vi f_, vi m_, vi n_, vi qa, vi qb, vj op, .second, vr b5, vr b33, vr b67, vi 1, vi 1, vi 0, vi 1, u_] [] t
          refine XS.iload X1151.here hx rfl (hb hby at_181) rfl ?_
          refine XS.ifNo X1151.here hx rfl (hb hby at_183) rfl rfl ?_
          refine XS.aload X1151.here hx rfl (hb hby at_186) rfl rfl ?_
          refine XS.aload X1151.here hx rfl (hb hby at_188) rfl rfl ?_
          exact k
         obtain ⟨_, T1162, L1162, X1162, hQ1162, c1162⟩ := kvirt X1151 hx hZ72 hown72 (w94 hw) (w95 hw) (w97 hw) (w96 hw) (w98 hw) (w4 hw) (rm_addHN l Z a0 hw [] b5 b67 b13 b14 sa17_ mv155 T1151.heap n0 o1159 (f166.keep K1153) (f189.keep K1153) (f169.keep K1153 (ninS q167 (ninS q190 nin0))) (f170.keep K1153 (ninS q167 (ninS q190 nin0))) (f157.keep K1153 (ninS q182.symm (ninS q174.symm nin0))) (f159.keep K1153 (ninS q182.symm (ninS q174.symm nin0))) (f160.keep K1153 (ninS q182.symm (ninS q174.symm nin0))) (f161.keep K1153 (ninS q182.symm (ninS q174.symm nin0))) (f162.keep K1153 (ninS q182.symm (ninS q174.symm nin0))) g67 ZE7_ ZF8_ (f172.keep K1153) g31 (f179.keep K1153 (ninS q177 (ninS p25.symm nin0))) (f180.keep K1153 (ninS q177 (ninS p25.symm nin0))) hc989) rfl (f166.keep K1153) c1161 hml pd_pLcom_example_lexchange_lexchange_Order_rV [(rr b67)] [] 0 (hb hby at_190) rfl rfl rfl rfl rfl rfl
         obtain ⟨rfl, N1163q, K1164, p1165, p1166, p1167, p1168, p1169⟩ := hQ1162
         have N1163 := Fr.app N1152 N1163q
         have o1170 := o1159.keep K1164 (allS g67 (allS g31 all0))
         have kp1171 := kp1160.trans K1164 (allS (Or.inr z70) (allS (Or.inr z30) all0))
         have c1172 : Kt p e below T1162 st0 (mkF m 220 #[vj j_, .second, vi f_, vi m_, vi n_, vi qa, vi qb, vj op, .second, vr b5, vr b33, vr b67, vi 1, vi 1, vi 0, vi 1, u_] []) := fun t k => by
          refine c1162 t ?_
          show S_ p e below T1162 m 193 #[vj j_, .second, vi f_, vi m_, vi n_, vi qa, vi qb, vj op, .second, vr b5, vr b33, vr b67, vi 1, vi 1, vi 0, vi 1, u_] [] t
          refine yG X1162.here hx rfl 193 220 rfl (hb hby at_193) ?_
          exact k
         have K1184 : Keep h156 T1162.heap [b67, b14, b33, b13] := (((Keep.refl _ _).trans K1153 (allS (Or.inl (List.mem_of_getElem? (i := 2) rfl)) (allS (Or.inl (List.mem_of_getElem? (i := 3) rfl)) all0))).trans K1164 (allS (Or.inl (List.mem_of_getElem? (i := 0) rfl)) (allS (Or.inl (List.mem_of_getElem? (i := 1) rfl)) all0)))
         exact ⟨T1162, _, _, X1162.mono (by decide) (by decide), rfl, o1170, K1184, kp1171, N1163, (p1157.keep K1164 (ninS q174 (ninS p25 nin0))), (p1158.keep K1164 (ninS q174 (ninS p25 nin0))), p1168, p1169, (p1154.keep K1164 (ninS q182 (ninS q177.symm nin0))), (p1155.keep K1164 (ninS q182 (ninS q177.symm nin0))), (p1156.keep K1164 (ninS q182 (ninS q177.symm nin0))), p1165, p1166, p1167, c1172⟩
       have c1186 : Kt p e below T1173 st0 (mkF m 224 #[vj j_, .second, vi f_, vi m_, vi n_, vi qa, vi qb, vj op, .second, vr b5, vr b33, vr b67, vi 1, vi 1, vi 0, vi 1, u_] [(.int (f_ &&& (64 : Int32)))]) := fun t k => by
        refine c1173 t ?_
        show S_ p e below T1173 m 220 #[vj j_, .second, vi f_, vi m_, vi n_, vi qa, vi qb, vj op, .second, vr b5, vr b33, vr b67, vi 1, vi 1, vi 0, vi 1, u_] [] t
        refine XS.iloadN X1173.here hx rfl (hb hby at_220) rfl ?_
        refine XS.bipush X1173.here hx rfl (hb hby at_221) ?_
        refine XS.iand X1173.here hx rfl (hb hby at_223) rfl ?_
        exact k
       obtain ⟨T1212, h1212, L1212, X1212, e1212, o1212, K1212, kp1212, N1212, f1213, c1212⟩ : ∃ (T1212 : State) (h1212 : Heap) (L1212 : List Loc), Stand p l e room_1 (s.setVm T72.vm) m #[(.long j_), (.int f_), (.int m_), (.int n_)] below meth c T1212 L1212 9 49 ∧ T1212.heap = h1212 ∧ Old Z n0 h1212 ∧ Keep h1173 h1212 [b67, b14] ∧ Keep h0 h1212 [] ∧ Fr n0 L1212 ∧ Fld Z h1212 b14 nm2 "head" nm1 .null ∧ Kt p e below T1212 st0 (mkF m 278 #[vj j_, .second, vi f_, vi m_, vi n_, vi qa, vi qb, vj op, .second, vr b5, vr b33, vr b67, vi 1, vi 1, vi 0, vi 1, u_] []) := by
        by_cases hc1187 : (f_ &&& (64 : Int32)) = (0 : Int32)
        ·have c1188 : Kt p e below T1173 st0 (mkF m 263 #[vj j_, .second, vi f_, vi m_, vi n_, vi qa, vi qb, vj op, .second, vr b5, vr b33, vr b67, vi 1, vi 1, vi 0, vi 1, u_] [(rr b67), (rr b5)]) := fun t k => by
          refine c1186 t ?_
          show S_ p e below T1173 m 224 #[vj j_, .second, vi f_, vi m_, vi n_, vi qa, vi qb, vj op, .second, vr b5, vr b33, vr b67, vi 1, vi 1, vi 0, vi 1, u_] [(.int (f_ &&& (64 : Int32)))] t
          refine yI X1173.here hx rfl 224 254 rfl (hb hby at_224) rfl ((if0 _ _).trans (teq hc1187).1) ?_
          refine XS.iload X1173.here hx rfl (hb hby at_254) rfl ?_
          refine XS.ifNo X1173.here hx rfl (hb hby at_256) rfl rfl ?_
          refine XS.aload X1173.here hx rfl (hb hby at_259) rfl rfl ?_
          refine XS.aload X1173.here hx rfl (hb hby at_261) rfl rfl ?_
          exact k
         obtain ⟨_, T1189, L1189, X1189, hQ1189, c1189⟩ := kvirt X1173 hx hZ72 hown72 (w116 hw) (w117 hw) (w119 hw) (w118 hw) (w120 hw) (w4 hw) (rm_rmH1r l Z a0 hw [] b5 b67 b13 b14 b33 h1173 n0 o1173 (f166.keep K1173) (f189.keep K1173) (f169.keep K1173 (ninS q168 (ninS q191 (ninS q167 (ninS q190 nin0))))) (f170.keep K1173 (ninS q168 (ninS q191 (ninS q167 (ninS q190 nin0))))) g67 (f172.keep K1173) g31 f1176 f1177 (f171.keep K1173) f1174 f1175 q182.symm f1181 f1182 f1183) e1173 (f166.keep K1173) c1188 hml pd_pLcom_example_lexchange_lexchange_Order_rV [(rr b67)] [] 0 (hb hby at_263) rfl rfl rfl rfl rfl rfl
         obtain ⟨rfl, N1190q, K1191, p1192, p1193, p1194, p1195, p1196⟩ := hQ1189
         have N1190 := Fr.app N1173 N1190q
         have o1197 := o1173.keep K1191 (allS g67 (allS g31 all0))
         have kp1198 := kp1173.trans K1191 (allS (Or.inr z70) (allS (Or.inr z30) all0))
         have c1199 : Kt p e below T1189 st0 (mkF m 278 #[vj j_, .second, vi f_, vi m_, vi n_, vi qa, vi qb, vj op, .second, vr b5, vr b33, vr b67, vi 1, vi 1, vi 0, vi 1, u_] []) := fun t k => by
          refine c1189 t ?_
          show S_ p e below T1189 m 266 #[vj j_, .second, vi f_, vi m_, vi n_, vi qa, vi qb, vj op, .second, vr b5, vr b33, vr b67, vi 1, vi 1, vi 0, vi 1, u_] [] t
          refine XS.iload X1189.here hx rfl (hb hby at_266) rfl ?_
          refine yI X1189.here hx rfl 268 278 rfl (hb hby at_268) rfl rfl ?_
          exact k
         have K1215 : Keep h1173 T1189.heap [b67, b14] := ((Keep.refl _ _).trans K1191 (allS (Or.inl (List.mem_of_getElem? (i := 0) rfl)) (allS (Or.inl (List.mem_of_getElem? (i := 1) rfl)) all0)))
         exact ⟨T1189, _, _, X1189.mono (by decide) (by decide), rfl, o1197, K1215, kp1198, N1190, p1195, c1199⟩
        ·have c1200 : Kt p e below T1173 st0 (mkF m 248 #[vj j_, .second, vi f_, vi m_, vi n_, vi qa, vi qb, vj op, .second, vr b5, vr b33, vr b67, vi 1, vi 1, vi 0, vi 1, u_] [(rr b67), (rr b5)]) := fun t k => by
          refine c1186 t ?_
          show S_ p e below T1173 m 224 #[vj j_, .second, vi f_, vi m_, vi n_, vi qa, vi qb, vj op, .second, vr b5, vr b33, vr b67, vi 1, vi 1, vi 0, vi 1, u_] [(.int (f_ &&& (64 : Int32)))] t
          refine XS.ifNo X1173.here hx rfl (hb hby at_224) rfl ((if0 _ _).trans (feq hc1187).1) ?_
          refine XS.iload X1173.here hx rfl (hb hby at_227) rfl ?_
          refine yI X1173.here hx rfl 229 239 rfl (hb hby at_229) rfl rfl ?_
          refine XS.iload X1173.here hx rfl (hb hby at_239) rfl ?_
          refine XS.ifNo X1173.here hx rfl (hb hby at_241) rfl rfl ?_
          refine XS.aload X1173.here hx rfl (hb hby at_244) rfl rfl ?_
          refine XS.aload X1173.here hx rfl (hb hby at_246) rfl rfl ?_
          exact k
         obtain ⟨_, T1201, L1201, X1201, hQ1201, c1201⟩ := kvirt X1173 hx hZ72 hown72 (w116 hw) (w117 hw) (w119 hw) (w118 hw) (w120 hw) (w4 hw) (rm_rmH1r l Z a0 hw [] b5 b67 b13 b14 b33 h1173 n0 o1173 (f166.keep K1173) (f189.keep K1173) (f169.keep K1173 (ninS q168 (ninS q191 (ninS q167 (ninS q190 nin0))))) (f170.keep K1173 (ninS q168 (ninS q191 (ninS q167 (ninS q190 nin0))))) g67 (f172.keep K1173) g31 f1176 f1177 (f171.keep K1173) f1174 f1175 q182.symm f1181 f1182 f1183) e1173 (f166.keep K1173) c1200 hml pd_pLcom_example_lexchange_lexchange_Order_rV [(rr b67)] [] 0 (hb hby at_248) rfl rfl rfl rfl rfl rfl
         obtain ⟨rfl, N1202q, K1203, p1204, p1205, p1206, p1207, p1208⟩ := hQ1201
         have N1202 := Fr.app N1173 N1202q
         have o1209 := o1173.keep K1203 (allS g67 (allS g31 all0))
         have kp1210 := kp1173.trans K1203 (allS (Or.inr z70) (allS (Or.inr z30) all0))
         have c1211 : Kt p e below T1201 st0 (mkF m 278 #[vj j_, .second, vi f_, vi m_, vi n_, vi qa, vi qb, vj op, .second, vr b5, vr b33, vr b67, vi 1, vi 1, vi 0, vi 1, u_] []) := fun t k => by
          refine c1201 t ?_
          show S_ p e below T1201 m 251 #[vj j_, .second, vi f_, vi m_, vi n_, vi qa, vi qb, vj op, .second, vr b5, vr b33, vr b67, vi 1, vi 1, vi 0, vi 1, u_] [] t
          refine yG X1201.here hx rfl 251 278 rfl (hb hby at_251) ?_
          exact k
         have K1214 : Keep h1173 T1201.heap [b67, b14] := ((Keep.refl _ _).trans K1203 (allS (Or.inl (List.mem_of_getElem? (i := 0) rfl)) (allS (Or.inl (List.mem_of_getElem? (i := 1) rfl)) all0)))
         exact ⟨T1201, _, _, X1201.mono (by decide) (by decide), rfl, o1209, K1214, kp1210, N1202, p1207, c1211⟩
       have f1216 := (f169.keep K1173 (ninS q168 (ninS q191 (ninS q167 (ninS q190 nin0))))).keep K1212 (ninS q168 (ninS q191 nin0))
       have f1217 := (f170.keep K1173 (ninS q168 (ninS q191 (ninS q167 (ninS q190 nin0))))).keep K1212 (ninS q168 (ninS q191 nin0))
       have c1218 : Kt p e below T1212 st0 (mkF m 315 #[vj j_, .second, vi f_, vi m_, vi n_, vi qa, vi qb, vj op, .second, vr b5, vr b33, vr b67, vi 1, vi 1, vi 0, vi 1, vi 1] [(rr b5)]) := fun t k => by
        refine c1212 t ?_
        show S_ p e below T1212 m 278 #[vj j_, .second, vi f_, vi m_, vi n_, vi qa, vi qb, vj op, .second, vr b5, vr b33, vr b67, vi 1, vi 1, vi 0, vi 1, u_] [] t
        refine XS.iconst X1212.here hx rfl (hb hby at_278) ?_
        refine XS.istore X1212.here hx rfl (hb hby at_279) rfl (l' := #[vj j_, .second, vi f_, vi m_, vi n_, vi qa, vi qb, vj op, .second, vr b5, vr b33, vr b67, vi 1, vi 1, vi 0, vi 1, vi 0]) rfl ?_
        refine XS.iload X1212.here hx rfl (hb hby at_281) rfl ?_
        refine XS.ifNo X1212.here hx rfl (hb hby at_283) rfl rfl ?_
        refine XS.iload X1212.here hx rfl (hb hby at_286) rfl ?_
        refine XS.ifNo X1212.here hx rfl (hb hby at_288) rfl rfl ?_
        refine XS.iload X1212.here hx rfl (hb hby at_291) rfl ?_
        refine XS.iconst X1212.here hx rfl (hb hby at_293) ?_
        show S_ p e below T1212 m 294 #[vj j_, .second, vi f_, vi m_, vi n_, vi qa, vi qb, vj op, .second, vr b5, vr b33, vr b67, vi 1, vi 1, vi 0, vi 1, vi 0] [(ii 1), (ii 0)] t
        refine XS.iadd X1212.here hx rfl (hb hby at_294) rfl ?_
        refine XS.istore X1212.here hx rfl (hb hby at_295) rfl (l' := #[vj j_, .second, vi f_, vi m_, vi n_, vi qa, vi qb, vj op, .second, vr b5, vr b33, vr b67, vi 1, vi 1, vi 0, vi 1, vi 1]) rfl ?_
        refine XS.iload X1212.here hx rfl (hb hby at_297) rfl ?_
        refine XS.ifNo X1212.here hx rfl (hb hby at_299) rfl rfl ?_
        refine XS.iload X1212.here hx rfl (hb hby at_302) rfl ?_
        refine yI X1212.here hx rfl 304 313 rfl (hb hby at_304) rfl rfl ?_
        refine XS.aload X1212.here hx rfl (hb hby at_313) rfl rfl ?_
        exact k
       obtain ⟨_, T1219, L1219, X1219, hQ1219, c1219⟩ := kvirt X1212 hx hZ72 hown72 (w87 hw) (w88 hw) (w90 hw) (w89 hw) (w91 hw) (w4 hw) (rm_emS l Z a0 hw [] b5 b13 b14 b33 h1212 n0 o1212 ((f166.keep K1173).keep K1212) f1216 f1217 (f1174.keep K1212 (ninS q174 (ninS p25 nin0)))) e1212 ((f166.keep K1173).keep K1212) c1218 hml pd_prZ [] [] 0 (hb hby at_315) rfl rfl rfl rfl rfl rfl
       obtain ⟨rfl, N1220q, K1221⟩ := hQ1219
       have N1220 := Fr.app N1212 N1220q
       obtain ⟨fs, hr, hrun, hended, hRW⟩ := X1219.leaveW hS72 (by first | exact (Nat.le_trans hk72 (Nat.le_trans (Nat.le_trans (Nat.le_trans (Nat.le_trans K91.1 K123.1) K156.1) K1173.1) K1212.1)) | (rw [K1221]; exact (Nat.le_trans hk72 (Nat.le_trans (Nat.le_trans (Nat.le_trans (Nat.le_trans K91.1 K123.1) K156.1) K1173.1) K1212.1)))) (v := some (ii 1)) (fun h => by rw [Bd.returns] at h; cases h)
       refine ⟨_, _, c1219 _ ?_, hrun, hended, _, _, rfl, ?_, hRW.1, hRW.2.1, hRW.2.2.1, hRW.2.2.2.mono (by decide) (by decide)⟩
       ·show S_ p e below T1219 m 318 #[vj j_, .second, vi f_, vi m_, vi n_, vi qa, vi qb, vj op, .second, vr b5, vr b33, vr b67, vi 1, vi 1, vi 0, vi 1, vi 1] [(ii 0)] _
        refine XS.iload X1219.here hx rfl (hb hby at_318) rfl ?_
        refine yI X1219.here hx rfl 320 327 rfl (hb hby at_320) rfl rfl ?_
        refine XS.iconst X1219.here hx rfl (hb hby at_327) ?_
        refine XS.icmpNo X1219.here hx rfl (hb hby at_328) rfl rfl ?_
        refine XS.iconst X1219.here hx rfl (hb hby at_331) ?_
        refine yG X1219.here hx rfl 332 336 rfl (hb hby at_332) ?_
        show S_ p e below T1219 m 336 #[vj j_, .second, vi f_, vi m_, vi n_, vi qa, vi qb, vj op, .second, vr b5, vr b33, vr b67, vi 1, vi 1, vi 0, vi 1, vi 1] [(ii 1)] _
        exact retN X1219 hx (t := .boolean) Bd.returns (by simp) (hb hby at_336) hr
       ·show Q_law Z j_ f_ m_ n_ sa5_ sa9_ sa13_ sa17_ h0 n0 _ T1219.heap _
        rw [K1221]
        exact ⟨rfl, N1220, kp1212⟩
     ·by_cases hc1222 : (0 : Int32) < mv155
      ·have c1223 : Kt p e below T156 st0 (mkF m 166 #[vj j_, .second, vi f_, vi m_, vi n_, vi qa, vi qb, vj op, .second, vr b5, vr b33, vr b67, vi 1, vi 1, vi 0, vi 1, u_] [(.int (f_ &&& (128 : Int32)))]) := fun t k => by
        refine c987 t ?_
        show S_ p e below T156 m 161 #[vj j_, .second, vi f_, vi m_, vi n_, vi qa, vi qb, vj op, .second, vr b5, vr b33, vr b67, vi 1, vi 1, vi 0, vi 1, u_] [] t
        refine XS.iloadN X156.here hx rfl (hb hby at_161) rfl ?_
        refine XS.sipush X156.here hx rfl (hb hby at_162) ?_
        refine XS.iand X156.here hx rfl (hb hby at_165) rfl ?_
        exact k
       obtain ⟨T1270, h1270, L1270, X1270, e1270, o1270, K1270, kp1270, N1270, f1271, f1272, f1273, f1274, f1275, f1276, f1277, f1278, f1279, f1280, c1270⟩ : ∃ (T1270 : State) (h1270 : Heap) (L1270 : List Loc), Stand p l e room_1 (s.setVm T72.vm) m #[(.long j_), (.int f_), (.int m_), (.int n_)] below meth c T1270 L1270 9 49 ∧ T1270.heap = h1270 ∧ Old Z n0 h1270 ∧ Keep h156 h1270 [b67, b13, b33, b14] ∧ Keep h0 h1270 [] ∧ Fr n0 L1270 ∧ Fld Z h1270 b13 nm2 "head" nm1 (rr b67) ∧ Fld Z h1270 b13 nm2 "tail" nm1 (rr b67) ∧ Fld Z h1270 b14 nm2 "head" nm1 (rr b33) ∧ Fld Z h1270 b14 nm2 "tail" nm1 (rr b33) ∧ Fld Z h1270 b33 nm0 "queue" nm4 (rr b5) ∧ Fld Z h1270 b33 nm0 "previous" nm1 .null ∧ Fld Z h1270 b33 nm0 "next" nm1 .null ∧ Fld Z h1270 b67 nm0 "queue" nm4 (rr b5) ∧ Fld Z h1270 b67 nm0 "previous" nm1 .null ∧ Fld Z h1270 b67 nm0 "next" nm1 .null ∧ Kt p e below T1270 st0 (mkF m 220 #[vj j_, .second, vi f_, vi m_, vi n_, vi qa, vi qb, vj op, .second, vr b5, vr b33, vr b67, vi 1, vi 1, vi 0, vi 1, u_] []) := by
        by_cases hc1224 : (f_ &&& (128 : Int32)) = (0 : Int32)
        ·have c1225 : Kt p e below T156 st0 (mkF m 205 #[vj j_, .second, vi f_, vi m_, vi n_, vi qa, vi qb, vj op, .second, vr b5, vr b33, vr b67, vi 1, vi 1, vi 0, vi 1, u_] [(rr b67), (rr b5)]) := fun t k => by
          refine c1223 t ?_
          show S_ p e below T156 m 166 #[vj j_, .second, vi f_, vi m_, vi n_, vi qa, vi qb, vj op, .second, vr b5, vr b33, vr b67, vi 1, vi 1, vi 0, vi 1, u_] [(.int (f_ &&& (128 : Int32)))] t
          refine yI X156.here hx rfl 166 196 rfl (hb hby at_166) rfl ((if0 _ _).trans (teq hc1224).1) ?_
          refine XS.iload X156.here hx rfl (hb hby at_196) rfl ?_
          refine XS.ifNo X156.here hx rfl (hb hby at_198) rfl rfl ?_
          refine XS.aload X156.here hx rfl (hb hby at_201) rfl rfl ?_
          refine XS.aload X156.here hx rfl (hb hby at_203) rfl rfl ?_
          exact k
         obtain ⟨_, T1226, L1226, X1226, hQ1226, c1226⟩ := kvirt X156 hx hZ72 hown72 (w94 hw) (w95 hw) (w97 hw) (w96 hw) (w98 hw) (w4 hw) (rm_addSN l Z a0 hw [] b5 b67 b13 b14 sa17_ mv155 h156 n0 o156 f166 f189 f169 f170 f157 f159 f160 f161 f162 g67 ZE7_ ZF8_ f171 g29 f175 f176 hc1222) e156 f166 c1225 hml pd_pLcom_example_lexchange_lexchange_Order_rV [(rr b67)] [] 0 (hb hby at_205) rfl rfl rfl rfl rfl rfl
         obtain ⟨rfl, N1227q, K1228, p1229, p1230, p1231, p1232, p1233⟩ := hQ1226
         have N1227 := Fr.app N156 N1227q
         have o1234 := o156.keep K1228 (allS g67 (allS g29 all0))
         have kp1235 := kp156.trans K1228 (allS (Or.inr z70) (allS (Or.inr z28) all0))
         have c1236 : Kt p e below T1226 st0 (mkF m 217 #[vj j_, .second, vi f_, vi m_, vi n_, vi qa, vi qb, vj op, .second, vr b5, vr b33, vr b67, vi 1, vi 1, vi 0, vi 1, u_] [(rr b33), (rr b5)]) := fun t k => by
          refine c1226 t ?_
          show S_ p e below T1226 m 208 #[vj j_, .second, vi f_, vi m_, vi n_, vi qa, vi qb, vj op, .second, vr b5, vr b33, vr b67, vi 1, vi 1, vi 0, vi 1, u_] [] t
          refine XS.iload X1226.here hx rfl (hb hby at_208) rfl ?_
          refine XS.ifNo X1226.here hx rfl (hb hby at_210) rfl rfl ?_
          refine XS.aload X1226.here hx rfl (hb hby at_213) rfl rfl ?_
          refine XS.aload X1226.here hx rfl (hb hby at_215) rfl rfl ?_
          exact k
         obtain ⟨_, T1237, L1237, X1237, hQ1237, c1237⟩ := kvirt X1226 hx hZ72 hown72 (w94 hw) (w95 hw) (w97 hw) (w96 hw) (w98 hw) (w4 hw) (rm_addHN l Z a0 hw [] b5 b33 b13 b14 sa17_ mv122 T1226.heap n0 o1234 (f166.keep K1228) (f181.keep K1228) (f169.keep K1228 (ninS q168 (ninS q190 nin0))) (f170.keep K1228 (ninS q168 (ninS q190 nin0))) (f183.keep K1228 (ninS q182 (ninS q173.symm nin0))) (f185.keep K1228 (ninS q182 (ninS q173.symm nin0))) (f186.keep K1228 (ninS q182 (ninS q173.symm nin0))) (f187.keep K1228 (ninS q182 (ninS q173.symm nin0))) (f188.keep K1228 (ninS q182 (ninS q173.symm nin0))) g33 ZE7_ ZF8_ (f172.keep K1228) g31 (f179.keep K1228 (ninS q178 (ninS p25.symm nin0))) (f180.keep K1228 (ninS q178 (ninS p25.symm nin0))) hc988) rfl (f166.keep K1228) c1236 hml pd_pLcom_example_lexchange_lexchange_Order_rV [(rr b33)] [] 0 (hb hby at_217) rfl rfl rfl rfl rfl rfl
         obtain ⟨rfl, N1238q, K1239, p1240, p1241, p1242, p1243, p1244⟩ := hQ1237
         have N1238 := Fr.app N1227 N1238q
         have o1245 := o1234.keep K1239 (allS g33 (allS g31 all0))
         have kp1246 := kp1235.trans K1239 (allS (Or.inr z36) (allS (Or.inr z30) all0))
         have K1282 : Keep h156 T1237.heap [b67, b13, b33, b14] := (((Keep.refl _ _).trans K1228 (allS (Or.inl (List.mem_of_getElem? (i := 0) rfl)) (allS (Or.inl (List.mem_of_getElem? (i := 1) rfl)) all0))).trans K1239 (allS (Or.inl (List.mem_of_getElem? (i := 2) rfl)) (allS (Or.inl (List.mem_of_getElem? (i := 3) rfl)) all0)))
         exact ⟨T1237, _, _, X1237.mono (by decide) (by decide), rfl, o1245, K1282, kp1246, N1238, (p1232.keep K1239 (ninS q173 (ninS p25 nin0))), (p1233.keep K1239 (ninS q173 (ninS p25 nin0))), p1243, p1244, p1240, p1241, p1242, (p1229.keep K1239 (ninS q182.symm (ninS q178.symm nin0))), (p1230.keep K1239 (ninS q182.symm (ninS q178.symm nin0))), (p1231.keep K1239 (ninS q182.symm (ninS q178.symm nin0))), c1237⟩
        ·have c1247 : Kt p e below T156 st0 (mkF m 178 #[vj j_, .second, vi f_, vi m_, vi n_, vi qa, vi qb, vj op, .second, vr b5, vr b33, vr b67, vi 1, vi 1, vi 0, vi 1, u_] [(rr b33), (rr b5)]) := fun t k => by
          refine c1223 t ?_
          show S_ p e below T156 m 166 #[vj j_, .second, vi f_, vi m_, vi n_, vi qa, vi qb, vj op, .second, vr b5, vr b33, vr b67, vi 1, vi 1, vi 0, vi 1, u_] [(.int (f_ &&& (128 : Int32)))] t
          refine XS.ifNo X156.here hx rfl (hb hby at_166) rfl ((if0 _ _).trans (feq hc1224).1) ?_
          refine XS.iload X156.here hx rfl (hb hby at_169) rfl ?_
          refine XS.ifNo X156.here hx rfl (hb hby at_171) rfl rfl ?_
          refine XS.aload X156.here hx rfl (hb hby at_174) rfl rfl ?_
          refine XS.aload X156.here hx rfl (hb hby at_176) rfl rfl ?_
          exact k
         obtain ⟨_, T1248, L1248, X1248, hQ1248, c1248⟩ := kvirt X156 hx hZ72 hown72 (w94 hw) (w95 hw) (w97 hw) (w96 hw) (w98 hw) (w4 hw) (rm_addHN l Z a0 hw [] b5 b33 b13 b14 sa17_ mv122 h156 n0 o156 f166 f181 f169 f170 f183 f185 f186 f187 f188 g33 ZE7_ ZF8_ f172 g31 f179 f180 hc988) e156 f166 c1247 hml pd_pLcom_example_lexchange_lexchange_Order_rV [(rr b33)] [] 0 (hb hby at_178) rfl rfl rfl rfl rfl rfl
         obtain ⟨rfl, N1249q, K1250, p1251, p1252, p1253, p1254, p1255⟩ := hQ1248
         have N1249 := Fr.app N156 N1249q
         have o1256 := o156.keep K1250 (allS g33 (allS g31 all0))
         have kp1257 := kp156.trans K1250 (allS (Or.inr z36) (allS (Or.inr z30) all0))
         have c1258 : Kt p e below T1248 st0 (mkF m 190 #[vj j_, .second, vi f_, vi m_, vi n_, vi qa, vi qb, vj op, .second, vr b5, vr b33, vr b67, vi 1, vi 1, vi 0, vi 1, u_] [(rr b67), (rr b5)]) := fun t k => by
          refine c1248 t ?_
          show S_ p e below T1248 m 181 #[vj j_, .second, vi f_, vi m_, vi n_, vi qa, vi qb, vj op, .second, vr b5, vr b33, vr b67, vi 1, vi 1, vi 0, vi 1, u_] [] t
          refine XS.iload X1248.here hx rfl (hb hby at_181) rfl ?_
          refine XS.ifNo X1248.here hx rfl (hb hby at_183) rfl rfl ?_
          refine XS.aload X1248.here hx rfl (hb hby at_186) rfl rfl ?_
          refine XS.aload X1248.here hx rfl (hb hby at_188) rfl rfl ?_
          exact k
         obtain ⟨_, T1259, L1259, X1259, hQ1259, c1259⟩ := kvirt X1248 hx hZ72 hown72 (w94 hw) (w95 hw) (w97 hw) (w96 hw) (w98 hw) (w4 hw) (rm_addSN l Z a0 hw [] b5 b67 b13 b14 sa17_ mv155 T1248.heap n0 o1256 (f166.keep K1250) (f189.keep K1250) (f169.keep K1250 (ninS q167 (ninS q191 nin0))) (f170.keep K1250 (ninS q167 (ninS q191 nin0))) (f157.keep K1250 (ninS q182.symm (ninS q178.symm nin0))) (f159.keep K1250 (ninS q182.symm (ninS q178.symm nin0))) (f160.keep K1250 (ninS q182.symm (ninS q178.symm nin0))) (f161.keep K1250 (ninS q182.symm (ninS q178.symm nin0))) (f162.keep K1250 (ninS q182.symm (ninS q178.symm nin0))) g67 ZE7_ ZF8_ (f171.keep K1250) g29 (f175.keep K1250 (ninS q173 (ninS p25 nin0))) (f176.keep K1250 (ninS q173 (ninS p25 nin0))) hc1222) rfl (f166.keep K1250) c1258 hml pd_pLcom_example_lexchange_lexchange_Order_rV [(rr b67)] [] 0 (hb hby at_190) rfl rfl rfl rfl rfl rfl
         obtain ⟨rfl, N1260q, K1261, p1262, p1263, p1264, p1265, p1266⟩ := hQ1259
         have N1260 := Fr.app N1249 N1260q
         have o1267 := o1256.keep K1261 (allS g67 (allS g29 all0))
         have kp1268 := kp1257.trans K1261 (allS (Or.inr z70) (allS (Or.inr z28) all0))
         have c1269 : Kt p e below T1259 st0 (mkF m 220 #[vj j_, .second, vi f_, vi m_, vi n_, vi qa, vi qb, vj op, .second, vr b5, vr b33, vr b67, vi 1, vi 1, vi 0, vi 1, u_] []) := fun t k => by
          refine c1259 t ?_
          show S_ p e below T1259 m 193 #[vj j_, .second, vi f_, vi m_, vi n_, vi qa, vi qb, vj op, .second, vr b5, vr b33, vr b67, vi 1, vi 1, vi 0, vi 1, u_] [] t
          refine yG X1259.here hx rfl 193 220 rfl (hb hby at_193) ?_
          exact k
         have K1281 : Keep h156 T1259.heap [b67, b13, b33, b14] := (((Keep.refl _ _).trans K1250 (allS (Or.inl (List.mem_of_getElem? (i := 2) rfl)) (allS (Or.inl (List.mem_of_getElem? (i := 3) rfl)) all0))).trans K1261 (allS (Or.inl (List.mem_of_getElem? (i := 0) rfl)) (allS (Or.inl (List.mem_of_getElem? (i := 1) rfl)) all0)))
         exact ⟨T1259, _, _, X1259.mono (by decide) (by decide), rfl, o1267, K1281, kp1268, N1260, p1265, p1266, (p1254.keep K1261 (ninS q178 (ninS p25.symm nin0))), (p1255.keep K1261 (ninS q178 (ninS p25.symm nin0))), (p1251.keep K1261 (ninS q182 (ninS q173.symm nin0))), (p1252.keep K1261 (ninS q182 (ninS q173.symm nin0))), (p1253.keep K1261 (ninS q182 (ninS q173.symm nin0))), p1262, p1263, p1264, c1269⟩
       have c1283 : Kt p e below T1270 st0 (mkF m 224 #[vj j_, .second, vi f_, vi m_, vi n_, vi qa, vi qb, vj op, .second, vr b5, vr b33, vr b67, vi 1, vi 1, vi 0, vi 1, u_] [(.int (f_ &&& (64 : Int32)))]) := fun t k => by
        refine c1270 t ?_
        show S_ p e below T1270 m 220 #[vj j_, .second, vi f_, vi m_, vi n_, vi qa, vi qb, vj op, .second, vr b5, vr b33, vr b67, vi 1, vi 1, vi 0, vi 1, u_] [] t
        refine XS.iloadN X1270.here hx rfl (hb hby at_220) rfl ?_
        refine XS.bipush X1270.here hx rfl (hb hby at_221) ?_
        refine XS.iand X1270.here hx rfl (hb hby at_223) rfl ?_
        exact k
       obtain ⟨T1309, h1309, L1309, X1309, e1309, o1309, K1309, kp1309, N1309, f1310, c1309⟩ : ∃ (T1309 : State) (h1309 : Heap) (L1309 : List Loc), Stand p l e room_1 (s.setVm T72.vm) m #[(.long j_), (.int f_), (.int m_), (.int n_)] below meth c T1309 L1309 9 49 ∧ T1309.heap = h1309 ∧ Old Z n0 h1309 ∧ Keep h1270 h1309 [b67, b13] ∧ Keep h0 h1309 [] ∧ Fr n0 L1309 ∧ Fld Z h1309 b13 nm2 "head" nm1 .null ∧ Kt p e below T1309 st0 (mkF m 278 #[vj j_, .second, vi f_, vi m_, vi n_, vi qa, vi qb, vj op, .second, vr b5, vr b33, vr b67, vi 1, vi 1, vi 0, vi 1, u_] []) := by
        by_cases hc1284 : (f_ &&& (64 : Int32)) = (0 : Int32)
        ·have c1285 : Kt p e below T1270 st0 (mkF m 263 #[vj j_, .second, vi f_, vi m_, vi n_, vi qa, vi qb, vj op, .second, vr b5, vr b33, vr b67, vi 1, vi 1, vi 0, vi 1, u_] [(rr b67), (rr b5)]) := fun t k => by
          refine c1283 t ?_
          show S_ p e below T1270 m 224 #[vj j_, .second, vi f_, vi m_, vi n_, vi qa, vi qb, vj op, .second, vr b5, vr b33, vr b67, vi 1, vi 1, vi 0, vi 1, u_] [(.int (f_ &&& (64 : Int32)))] t
          refine yI X1270.here hx rfl 224 254 rfl (hb hby at_224) rfl ((if0 _ _).trans (teq hc1284).1) ?_
          refine XS.iload X1270.here hx rfl (hb hby at_254) rfl ?_
          refine XS.ifNo X1270.here hx rfl (hb hby at_256) rfl rfl ?_
          refine XS.aload X1270.here hx rfl (hb hby at_259) rfl rfl ?_
          refine XS.aload X1270.here hx rfl (hb hby at_261) rfl rfl ?_
          exact k
         obtain ⟨_, T1286, L1286, X1286, hQ1286, c1286⟩ := kvirt X1270 hx hZ72 hown72 (w116 hw) (w117 hw) (w119 hw) (w118 hw) (w120 hw) (w4 hw) (rm_rmS1 l Z a0 hw [] b5 b67 b13 b14 h1270 n0 o1270 (f166.keep K1270) (f189.keep K1270) (f169.keep K1270 (ninS q168 (ninS q190 (ninS q167 (ninS q191 nin0))))) (f170.keep K1270 (ninS q168 (ninS q190 (ninS q167 (ninS q191 nin0))))) g67 (f171.keep K1270) g29 f1271 f1272 f1278 f1279 f1280) e1270 (f166.keep K1270) c1285 hml pd_pLcom_example_lexchange_lexchange_Order_rV [(rr b67)] [] 0 (hb hby at_263) rfl rfl rfl rfl rfl rfl
         obtain ⟨rfl, N1287q, K1288, p1289, p1290, p1291, p1292, p1293⟩ := hQ1286
         have N1287 := Fr.app N1270 N1287q
         have o1294 := o1270.keep K1288 (allS g67 (allS g29 all0))
         have kp1295 := kp1270.trans K1288 (allS (Or.inr z70) (allS (Or.inr z28) all0))
         have c1296 : Kt p e below T1286 st0 (mkF m 278 #[vj j_, .second, vi f_, vi m_, vi n_, vi qa, vi qb, vj op, .second, vr b5, vr b33, vr b67, vi 1, vi 1, vi 0, vi 1, u_] []) := fun t k => by
          refine c1286 t ?_
          show S_ p e below T1286 m 266 #[vj j_, .second, vi f_, vi m_, vi n_, vi qa, vi qb, vj op, .second, vr b5, vr b33, vr b67, vi 1, vi 1, vi 0, vi 1, u_] [] t
          refine XS.iload X1286.here hx rfl (hb hby at_266) rfl ?_
          refine yI X1286.here hx rfl 268 278 rfl (hb hby at_268) rfl rfl ?_
          exact k
         have K1312 : Keep h1270 T1286.heap [b67, b13] := ((Keep.refl _ _).trans K1288 (allS (Or.inl (List.mem_of_getElem? (i := 0) rfl)) (allS (Or.inl (List.mem_of_getElem? (i := 1) rfl)) all0)))
         exact ⟨T1286, _, _, X1286.mono (by decide) (by decide), rfl, o1294, K1312, kp1295, N1287, p1292, c1296⟩
        ·have c1297 : Kt p e below T1270 st0 (mkF m 248 #[vj j_, .second, vi f_, vi m_, vi n_, vi qa, vi qb, vj op, .second, vr b5, vr b33, vr b67, vi 1, vi 1, vi 0, vi 1, u_] [(rr b67), (rr b5)]) := fun t k => by
          refine c1283 t ?_
          show S_ p e below T1270 m 224 #[vj j_, .second, vi f_, vi m_, vi n_, vi qa, vi qb, vj op, .second, vr b5, vr b33, vr b67, vi 1, vi 1, vi 0, vi 1, u_] [(.int (f_ &&& (64 : Int32)))] t
          refine XS.ifNo X1270.here hx rfl (hb hby at_224) rfl ((if0 _ _).trans (feq hc1284).1) ?_
          refine XS.iload X1270.here hx rfl (hb hby at_227) rfl ?_
          refine yI X1270.here hx rfl 229 239 rfl (hb hby at_229) rfl rfl ?_
          refine XS.iload X1270.here hx rfl (hb hby at_239) rfl ?_
          refine XS.ifNo X1270.here hx rfl (hb hby at_241) rfl rfl ?_
          refine XS.aload X1270.here hx rfl (hb hby at_244) rfl rfl ?_
          refine XS.aload X1270.here hx rfl (hb hby at_246) rfl rfl ?_
          exact k
         obtain ⟨_, T1298, L1298, X1298, hQ1298, c1298⟩ := kvirt X1270 hx hZ72 hown72 (w116 hw) (w117 hw) (w119 hw) (w118 hw) (w120 hw) (w4 hw) (rm_rmS1 l Z a0 hw [] b5 b67 b13 b14 h1270 n0 o1270 (f166.keep K1270) (f189.keep K1270) (f169.keep K1270 (ninS q168 (ninS q190 (ninS q167 (ninS q191 nin0))))) (f170.keep K1270 (ninS q168 (ninS q190 (ninS q167 (ninS q191 nin0))))) g67 (f171.keep K1270) g29 f1271 f1272 f1278 f1279 f1280) e1270 (f166.keep K1270) c1297 hml pd_pLcom_example_lexchange_lexchange_Order_rV [(rr b67)] [] 0 (hb hby at_248) rfl rfl rfl rfl rfl rfl
         obtain ⟨rfl, N1299q, K1300, p1301, p1302, p1303, p1304, p1305⟩ := hQ1298
         have N1299 := Fr.app N1270 N1299q
         have o1306 := o1270.keep K1300 (allS g67 (allS g29 all0))
         have kp1307 := kp1270.trans K1300 (allS (Or.inr z70) (allS (Or.inr z28) all0))
         have c1308 : Kt p e below T1298 st0 (mkF m 278 #[vj j_, .second, vi f_, vi m_, vi n_, vi qa, vi qb, vj op, .second, vr b5, vr b33, vr b67, vi 1, vi 1, vi 0, vi 1, u_] []) := fun t k => by
          refine c1298 t ?_
          show S_ p e below T1298 m 251 #[vj j_, .second, vi f_, vi m_, vi n_, vi qa, vi qb, vj op, .second, vr b5, vr b33, vr b67, vi 1, vi 1, vi 0, vi 1, u_] [] t
          refine yG X1298.here hx rfl 251 278 rfl (hb hby at_251) ?_
          exact k
         have K1311 : Keep h1270 T1298.heap [b67, b13] := ((Keep.refl _ _).trans K1300 (allS (Or.inl (List.mem_of_getElem? (i := 0) rfl)) (allS (Or.inl (List.mem_of_getElem? (i := 1) rfl)) all0)))
         exact ⟨T1298, _, _, X1298.mono (by decide) (by decide), rfl, o1306, K1311, kp1307, N1299, p1304, c1308⟩
       have f1313 := (f169.keep K1270 (ninS q168 (ninS q190 (ninS q167 (ninS q191 nin0))))).keep K1309 (ninS q168 (ninS q190 nin0))
       have f1314 := (f170.keep K1270 (ninS q168 (ninS q190 (ninS q167 (ninS q191 nin0))))).keep K1309 (ninS q168 (ninS q190 nin0))
       have c1315 : Kt p e below T1309 st0 (mkF m 315 #[vj j_, .second, vi f_, vi m_, vi n_, vi qa, vi qb, vj op, .second, vr b5, vr b33, vr b67, vi 1, vi 1, vi 0, vi 1, vi 1] [(rr b5)]) := fun t k => by
        refine c1309 t ?_
        show S_ p e below T1309 m 278 #[vj j_, .second, vi f_, vi m_, vi n_, vi qa, vi qb, vj op, .second, vr b5, vr b33, vr b67, vi 1, vi 1, vi 0, vi 1, u_] [] t
        refine XS.iconst X1309.here hx rfl (hb hby at_278) ?_
        refine XS.istore X1309.here hx rfl (hb hby at_279) rfl (l' := #[vj j_, .second, vi f_, vi m_, vi n_, vi qa, vi qb, vj op, .second, vr b5, vr b33, vr b67, vi 1, vi 1, vi 0, vi 1, vi 0]) rfl ?_
        refine XS.iload X1309.here hx rfl (hb hby at_281) rfl ?_
        refine XS.ifNo X1309.here hx rfl (hb hby at_283) rfl rfl ?_
        refine XS.iload X1309.here hx rfl (hb hby at_286) rfl ?_
        refine XS.ifNo X1309.here hx rfl (hb hby at_288) rfl rfl ?_
        refine XS.iload X1309.here hx rfl (hb hby at_291) rfl ?_
        refine XS.iconst X1309.here hx rfl (hb hby at_293) ?_
        show S_ p e below T1309 m 294 #[vj j_, .second, vi f_, vi m_, vi n_, vi qa, vi qb, vj op, .second, vr b5, vr b33, vr b67, vi 1, vi 1, vi 0, vi 1, vi 0] [(ii 1), (ii 0)] t
        refine XS.iadd X1309.here hx rfl (hb hby at_294) rfl ?_
        refine XS.istore X1309.here hx rfl (hb hby at_295) rfl (l' := #[vj j_, .second, vi f_, vi m_, vi n_, vi qa, vi qb, vj op, .second, vr b5, vr b33, vr b67, vi 1, vi 1, vi 0, vi 1, vi 1]) rfl ?_
        refine XS.iload X1309.here hx rfl (hb hby at_297) rfl ?_
        refine XS.ifNo X1309.here hx rfl (hb hby at_299) rfl rfl ?_
        refine XS.iload X1309.here hx rfl (hb hby at_302) rfl ?_
        refine yI X1309.here hx rfl 304 313 rfl (hb hby at_304) rfl rfl ?_
        refine XS.aload X1309.here hx rfl (hb hby at_313) rfl rfl ?_
        exact k
       obtain ⟨_, T1316, L1316, X1316, hQ1316, c1316⟩ := kvirt X1309 hx hZ72 hown72 (w87 hw) (w88 hw) (w90 hw) (w89 hw) (w91 hw) (w4 hw) (rm_emH l Z a0 hw [] b5 b13 b14 b33 h1309 n0 o1309 ((f166.keep K1270).keep K1309) f1313 f1314 f1310 (f1273.keep K1309 (ninS q178 (ninS p25.symm nin0)))) e1309 ((f166.keep K1270).keep K1309) c1315 hml pd_prZ [] [] 0 (hb hby at_315) rfl rfl rfl rfl rfl rfl
       obtain ⟨rfl, N1317q, K1318⟩ := hQ1316
       have N1317 := Fr.app N1309 N1317q
       obtain ⟨fs, hr, hrun, hended, hRW⟩ := X1316.leaveW hS72 (by first | exact (Nat.le_trans hk72 (Nat.le_trans (Nat.le_trans (Nat.le_trans (Nat.le_trans K91.1 K123.1) K156.1) K1270.1) K1309.1)) | (rw [K1318]; exact (Nat.le_trans hk72 (Nat.le_trans (Nat.le_trans (Nat.le_trans (Nat.le_trans K91.1 K123.1) K156.1) K1270.1) K1309.1)))) (v := some (ii 1)) (fun h => by rw [Bd.returns] at h; cases h)
       refine ⟨_, _, c1316 _ ?_, hrun, hended, _, _, rfl, ?_, hRW.1, hRW.2.1, hRW.2.2.1, hRW.2.2.2.mono (by decide) (by decide)⟩
       ·show S_ p e below T1316 m 318 #[vj j_, .second, vi f_, vi m_, vi n_, vi qa, vi qb, vj op, .second, vr b5, vr b33, vr b67, vi 1, vi 1, vi 0, vi 1, vi 1] [(ii 0)] _
        refine XS.iload X1316.here hx rfl (hb hby at_318) rfl ?_
        refine yI X1316.here hx rfl 320 327 rfl (hb hby at_320) rfl rfl ?_
        refine XS.iconst X1316.here hx rfl (hb hby at_327) ?_
        refine XS.icmpNo X1316.here hx rfl (hb hby at_328) rfl rfl ?_
        refine XS.iconst X1316.here hx rfl (hb hby at_331) ?_
        refine yG X1316.here hx rfl 332 336 rfl (hb hby at_332) ?_
        show S_ p e below T1316 m 336 #[vj j_, .second, vi f_, vi m_, vi n_, vi qa, vi qb, vj op, .second, vr b5, vr b33, vr b67, vi 1, vi 1, vi 0, vi 1, vi 1] [(ii 1)] _
        exact retN X1316 hx (t := .boolean) Bd.returns (by simp) (hb hby at_336) hr
       ·show Q_law Z j_ f_ m_ n_ sa5_ sa9_ sa13_ sa17_ h0 n0 _ T1316.heap _
        rw [K1318]
        exact ⟨rfl, N1317, kp1309⟩
      ·have c1319 : Kt p e below T156 st0 (mkF m 166 #[vj j_, .second, vi f_, vi m_, vi n_, vi qa, vi qb, vj op, .second, vr b5, vr b33, vr b67, vi 1, vi 1, vi 0, vi 1, u_] [(.int (f_ &&& (128 : Int32)))]) := fun t k => by
        refine c987 t ?_
        show S_ p e below T156 m 161 #[vj j_, .second, vi f_, vi m_, vi n_, vi qa, vi qb, vj op, .second, vr b5, vr b33, vr b67, vi 1, vi 1, vi 0, vi 1, u_] [] t
        refine XS.iloadN X156.here hx rfl (hb hby at_161) rfl ?_
        refine XS.sipush X156.here hx rfl (hb hby at_162) ?_
        refine XS.iand X156.here hx rfl (hb hby at_165) rfl ?_
        exact k
       by_cases hc1320 : (f_ &&& (128 : Int32)) = (0 : Int32)
       ·have c1321 : Kt p e below T156 st0 (mkF m 205 #[vj j_, .second, vi f_, vi m_, vi n_, vi qa, vi qb, vj op, .second, vr b5, vr b33, vr b67, vi 1, vi 1, vi 0, vi 1, u_] [(rr b67), (rr b5)]) := fun t k => by
         refine c1319 t ?_
         show S_ p e below T156 m 166 #[vj j_, .second, vi f_, vi m_, vi n_, vi qa, vi qb, vj op, .second, vr b5, vr b33, vr b67, vi 1, vi 1, vi 0, vi 1, u_] [(.int (f_ &&& (128 : Int32)))] t
         refine yI X156.here hx rfl 166 196 rfl (hb hby at_166) rfl ((if0 _ _).trans (teq hc1320).1) ?_
         refine XS.iload X156.here hx rfl (hb hby at_196) rfl ?_
         refine XS.ifNo X156.here hx rfl (hb hby at_198) rfl rfl ?_
         refine XS.aload X156.here hx rfl (hb hby at_201) rfl rfl ?_
         refine XS.aload X156.here hx rfl (hb hby at_203) rfl rfl ?_
         exact k
        obtain ⟨_, T1322, L1322, X1322, hQ1322, c1322⟩ := kvirt X156 hx hZ72 hown72 (w94 hw) (w95 hw) (w97 hw) (w96 hw) (w98 hw) (w4 hw) (rm_addHN l Z a0 hw [] b5 b67 b13 b14 sa17_ mv155 h156 n0 o156 f166 f189 f169 f170 f157 f159 f160 f161 f162 g67 ZE7_ ZF8_ f172 g31 f179 f180 hc1222) e156 f166 c1321 hml pd_pLcom_example_lexchange_lexchange_Order_rV [(rr b67)] [] 0 (hb hby at_205) rfl rfl rfl rfl rfl rfl
        obtain ⟨rfl, N1323q, K1324, p1325, p1326, p1327, p1328, p1329⟩ := hQ1322
        have N1323 := Fr.app N156 N1323q
        have o1330 := o156.keep K1324 (allS g67 (allS g31 all0))
        have kp1331 := kp156.trans K1324 (allS (Or.inr z70) (allS (Or.inr z30) all0))
        have c1332 : Kt p e below T1322 st0 (mkF m 217 #[vj j_, .second, vi f_, vi m_, vi n_, vi qa, vi qb, vj op, .second, vr b5, vr b33, vr b67, vi 1, vi 1, vi 0, vi 1, u_] [(rr b33), (rr b5)]) := fun t k => by
         refine c1322 t ?_
         show S_ p e below T1322 m 208 #[vj j_, .second, vi f_, vi m_, vi n_, vi qa, vi qb, vj op, .second, vr b5, vr b33, vr b67, vi 1, vi 1, vi 0, vi 1, u_] [] t
         refine XS.iload X1322.here hx rfl (hb hby at_208) rfl ?_
         refine XS.ifNo X1322.here hx rfl (hb hby at_210) rfl rfl ?_
         refine XS.aload X1322.here hx rfl (hb hby at_213) rfl rfl ?_
         refine XS.aload X1322.here hx rfl (hb hby at_215) rfl rfl ?_
         exact k
        obtain ⟨_, T1333, L1333, X1333, hQ1333, c1333⟩ := kvirt X1322 hx hZ72 hown72 (w94 hw) (w95 hw) (w97 hw) (w96 hw) (w98 hw) (w4 hw) (rm_addHR l Z a0 hw [] b5 b33 b13 b14 sa17_ mv122 b67 T1322.heap n0 o1330 (f166.keep K1324) (f181.keep K1324) (f169.keep K1324 (ninS q168 (ninS q191 nin0))) (f170.keep K1324 (ninS q168 (ninS q191 nin0))) (f183.keep K1324 (ninS q182 (ninS q177.symm nin0))) (f185.keep K1324 (ninS q182 (ninS q177.symm nin0))) (f186.keep K1324 (ninS q182 (ninS q177.symm nin0))) (f187.keep K1324 (ninS q182 (ninS q177.symm nin0))) (f188.keep K1324 (ninS q182 (ninS q177.symm nin0))) g33 ZE7_ ZF8_ (f172.keep K1324) g31 p1328 p1329 (f189.keep K1324) g67 q182.symm p1325 p1326 p1327 hc988) rfl (f166.keep K1324) c1332 hml pd_pLcom_example_lexchange_lexchange_Order_rV [(rr b33)] [] 0 (hb hby at_217) rfl rfl rfl rfl rfl rfl
        obtain ⟨rfl, N1334q, K1335, p1336, p1337, p1338, p1339, p1340, p1341, p1342, p1343⟩ := hQ1333
        have N1334 := Fr.app N1323 N1334q
        have o1344 := o1330.keep K1335 (allS g33 (allS g31 (allS g67 all0)))
        have kp1345 := kp1331.trans K1335 (allS (Or.inr z36) (allS (Or.inr z30) (allS (Or.inr z70) all0)))
        have c1346 : Kt p e below T1333 st0 (mkF m 224 #[vj j_, .second, vi f_, vi m_, vi n_, vi qa, vi qb, vj op, .second, vr b5, vr b33, vr b67, vi 1, vi 1, vi 0, vi 1, u_] [(.int (f_ &&& (64 : Int32)))]) := fun t k => by
         refine c1333 t ?_
         show S_ p e below T1333 m 220 #[vj j_, .second, vi f_, vi m_, vi n_, vi qa, vi qb, vj op, .second, vr b5, vr b33, vr b67, vi 1, vi 1, vi 0, vi 1, u_] [] t
         refine XS.iloadN X1333.here hx rfl (hb hby at_220) rfl ?_
         refine XS.bipush X1333.here hx rfl (hb hby at_221) ?_
         refine XS.iand X1333.here hx rfl (hb hby at_223) rfl ?_
         exact k
        obtain ⟨T1378, h1378, L1378, X1378, e1378, o1378, K1378, kp1378, N1378, f1379, c1378⟩ : ∃ (T1378 : State) (h1378 : Heap) (L1378 : List Loc), Stand p l e room_1 (s.setVm T72.vm) m #[(.long j_), (.int f_), (.int m_), (.int n_)] below meth c T1378 L1378 9 49 ∧ T1378.heap = h1378 ∧ Old Z n0 h1378 ∧ Keep T1333.heap h1378 [b67, b14, b33] ∧ Keep h0 h1378 [] ∧ Fr n0 L1378 ∧ Fld Z h1378 b14 nm2 "head" nm1 (rr b33) ∧ Kt p e below T1378 st0 (mkF m 278 #[vj j_, .second, vi f_, vi m_, vi n_, vi qa, vi qb, vj op, .second, vr b5, vr b33, vr b67, vi 1, vi 1, vi 0, vi 1, u_] []) := by
         by_cases hc1347 : (f_ &&& (64 : Int32)) = (0 : Int32)
         ·have c1348 : Kt p e below T1333 st0 (mkF m 263 #[vj j_, .second, vi f_, vi m_, vi n_, vi qa, vi qb, vj op, .second, vr b5, vr b33, vr b67, vi 1, vi 1, vi 0, vi 1, u_] [(rr b67), (rr b5)]) := fun t k => by
           refine c1346 t ?_
           show S_ p e below T1333 m 224 #[vj j_, .second, vi f_, vi m_, vi n_, vi qa, vi qb, vj op, .second, vr b5, vr b33, vr b67, vi 1, vi 1, vi 0, vi 1, u_] [(.int (f_ &&& (64 : Int32)))] t
           refine yI X1333.here hx rfl 224 254 rfl (hb hby at_224) rfl ((if0 _ _).trans (teq hc1347).1) ?_
           refine XS.iload X1333.here hx rfl (hb hby at_254) rfl ?_
           refine XS.ifNo X1333.here hx rfl (hb hby at_256) rfl rfl ?_
           refine XS.aload X1333.here hx rfl (hb hby at_259) rfl rfl ?_
           refine XS.aload X1333.here hx rfl (hb hby at_261) rfl rfl ?_
           exact k
          obtain ⟨_, T1349, L1349, X1349, hQ1349, c1349⟩ := kvirt X1333 hx hZ72 hown72 (w116 hw) (w117 hw) (w119 hw) (w118 hw) (w120 hw) (w4 hw) (rm_rmHF l Z a0 hw [] b5 b67 b13 b14 b33 T1333.heap n0 o1344 ((f166.keep K1324).keep K1335) ((f189.keep K1324).keep K1335) ((f169.keep K1324 (ninS q168 (ninS q191 nin0))).keep K1335 (ninS q167 (ninS q191 (ninS q168 nin0)))) ((f170.keep K1324 (ninS q168 (ninS q191 nin0))).keep K1335 (ninS q167 (ninS q191 (ninS q168 nin0)))) g67 ((f172.keep K1324).keep K1335) g31 ((f171.keep K1324).keep K1335) ((f175.keep K1324 (ninS q174 (ninS p25 nin0))).keep K1335 (ninS q173 (ninS p25 (ninS q174 nin0)))) ((f176.keep K1324 (ninS q174 (ninS p25 nin0))).keep K1335 (ninS q173 (ninS p25 (ninS q174 nin0)))) p1339 p1340 ((f181.keep K1324).keep K1335) g33 q182.symm p1341 p1342 p1343 p1336 p1337 p1338) rfl ((f166.keep K1324).keep K1335) c1348 hml pd_pLcom_example_lexchange_lexchange_Order_rV [(rr b67)] [] 0 (hb hby at_263) rfl rfl rfl rfl rfl rfl
          obtain ⟨rfl, N1350q, K1351, p1352, p1353, p1354, p1355, p1356, p1357, p1358, p1359⟩ := hQ1349
          have N1350 := Fr.app N1334 N1350q
          have o1360 := o1344.keep K1351 (allS g67 (allS g31 (allS g33 all0)))
          have kp1361 := kp1345.trans K1351 (allS (Or.inr z70) (allS (Or.inr z30) (allS (Or.inr z36) all0)))
          have c1362 : Kt p e below T1349 st0 (mkF m 278 #[vj j_, .second, vi f_, vi m_, vi n_, vi qa, vi qb, vj op, .second, vr b5, vr b33, vr b67, vi 1, vi 1, vi 0, vi 1, u_] []) := fun t k => by
           refine c1349 t ?_
           show S_ p e below T1349 m 266 #[vj j_, .second, vi f_, vi m_, vi n_, vi qa, vi qb, vj op, .second, vr b5, vr b33, vr b67, vi 1, vi 1, vi 0, vi 1, u_] [] t
           refine XS.iload X1349.here hx rfl (hb hby at_266) rfl ?_
           refine yI X1349.here hx rfl 268 278 rfl (hb hby at_268) rfl rfl ?_
           exact k
          have K1381 : Keep T1333.heap T1349.heap [b67, b14, b33] := ((Keep.refl _ _).trans K1351 (allS (Or.inl (List.mem_of_getElem? (i := 0) rfl)) (allS (Or.inl (List.mem_of_getElem? (i := 1) rfl)) (allS (Or.inl (List.mem_of_getElem? (i := 2) rfl)) all0))))
          exact ⟨T1349, _, _, X1349.mono (by decide) (by decide), rfl, o1360, K1381, kp1361, N1350, p1355, c1362⟩
         ·have c1363 : Kt p e below T1333 st0 (mkF m 248 #[vj j_, .second, vi f_, vi m_, vi n_, vi qa, vi qb, vj op, .second, vr b5, vr b33, vr b67, vi 1, vi 1, vi 0, vi 1, u_] [(rr b67), (rr b5)]) := fun t k => by
           refine c1346 t ?_
           show S_ p e below T1333 m 224 #[vj j_, .second, vi f_, vi m_, vi n_, vi qa, vi qb, vj op, .second, vr b5, vr b33, vr b67, vi 1, vi 1, vi 0, vi 1, u_] [(.int (f_ &&& (64 : Int32)))] t
           refine XS.ifNo X1333.here hx rfl (hb hby at_224) rfl ((if0 _ _).trans (feq hc1347).1) ?_
           refine XS.iload X1333.here hx rfl (hb hby at_227) rfl ?_
           refine yI X1333.here hx rfl 229 239 rfl (hb hby at_229) rfl rfl ?_
           refine XS.iload X1333.here hx rfl (hb hby at_239) rfl ?_
           refine XS.ifNo X1333.here hx rfl (hb hby at_241) rfl rfl ?_
           refine XS.aload X1333.here hx rfl (hb hby at_244) rfl rfl ?_
           refine XS.aload X1333.here hx rfl (hb hby at_246) rfl rfl ?_
           exact k
          obtain ⟨_, T1364, L1364, X1364, hQ1364, c1364⟩ := kvirt X1333 hx hZ72 hown72 (w116 hw) (w117 hw) (w119 hw) (w118 hw) (w120 hw) (w4 hw) (rm_rmHF l Z a0 hw [] b5 b67 b13 b14 b33 T1333.heap n0 o1344 ((f166.keep K1324).keep K1335) ((f189.keep K1324).keep K1335) ((f169.keep K1324 (ninS q168 (ninS q191 nin0))).keep K1335 (ninS q167 (ninS q191 (ninS q168 nin0)))) ((f170.keep K1324 (ninS q168 (ninS q191 nin0))).keep K1335 (ninS q167 (ninS q191 (ninS q168 nin0)))) g67 ((f172.keep K1324).keep K1335) g31 ((f171.keep K1324).keep K1335) ((f175.keep K1324 (ninS q174 (ninS p25 nin0))).keep K1335 (ninS q173 (ninS p25 (ninS q174 nin0)))) ((f176.keep K1324 (ninS q174 (ninS p25 nin0))).keep K1335 (ninS q173 (ninS p25 (ninS q174 nin0)))) p1339 p1340 ((f181.keep K1324).keep K1335) g33 q182.symm p1341 p1342 p1343 p1336 p1337 p1338) rfl ((f166.keep K1324).keep K1335) c1363 hml pd_pLcom_example_lexchange_lexchange_Order_rV [(rr b67)] [] 0 (hb hby at_248) rfl rfl rfl rfl rfl rfl
          obtain ⟨rfl, N1365q, K1366, p1367, p1368, p1369, p1370, p1371, p1372, p1373, p1374⟩ := hQ1364
          have N1365 := Fr.app N1334 N1365q
          have o1375 := o1344.keep K1366 (allS g67 (allS g31 (allS g33 all0)))
          have kp1376 := kp1345.trans K1366 (allS (Or.inr z70) (allS (Or.inr z30) (allS (Or.inr z36) all0)))
          have c1377 : Kt p e below T1364 st0 (mkF m 278 #[vj j_, .second, vi f_, vi m_, vi n_, vi qa, vi qb, vj op, .second, vr b5, vr b33, vr b67, vi 1, vi 1, vi 0, vi 1, u_] []) := fun t k => by
           refine c1364 t ?_
           show S_ p e below T1364 m 251 #[vj j_, .second, vi f_, vi m_, vi n_, vi qa, vi qb, vj op, .second, vr b5, vr b33, vr b67, vi 1, vi 1, vi 0, vi 1, u_] [] t
           refine yG X1364.here hx rfl 251 278 rfl (hb hby at_251) ?_
           exact k
          have K1380 : Keep T1333.heap T1364.heap [b67, b14, b33] := ((Keep.refl _ _).trans K1366 (allS (Or.inl (List.mem_of_getElem? (i := 0) rfl)) (allS (Or.inl (List.mem_of_getElem? (i := 1) rfl)) (allS (Or.inl (List.mem_of_getElem? (i := 2) rfl)) all0))))
          exact ⟨T1364, _, _, X1364.mono (by decide) (by decide), rfl, o1375, K1380, kp1376, N1365, p1370, c1377⟩
        have f1382 := ((f169.keep K1324 (ninS q168 (ninS q191 nin0))).keep K1335 (ninS q167 (ninS q191 (ninS q168 nin0)))).keep K1378 (ninS q168 (ninS q191 (ninS q167 nin0)))
        have f1383 := ((f170.keep K1324 (ninS q168 (ninS q191 nin0))).keep K1335 (ninS q167 (ninS q191 (ninS q168 nin0)))).keep K1378 (ninS q168 (ninS q191 (ninS q167 nin0)))
        have f1384 := ((f175.keep K1324 (ninS q174 (ninS p25 nin0))).keep K1335 (ninS q173 (ninS p25 (ninS q174 nin0)))).keep K1378 (ninS q174 (ninS p25 (ninS q173 nin0)))
        have c1385 : Kt p e below T1378 st0 (mkF m 315 #[vj j_, .second, vi f_, vi m_, vi n_, vi qa, vi qb, vj op, .second, vr b5, vr b33, vr b67, vi 1, vi 1, vi 0, vi 1, vi 1] [(rr b5)]) := fun t k => by
         refine c1378 t ?_
         show S_ p e below T1378 m 278 #[vj j_, .second, vi f_, vi m_, vi n_, vi qa, vi qb, vj op, .second, vr b5, vr b33, vr b67, vi 1, vi 1, vi 0, vi 1, u_] [] t
         refine XS.iconst X1378.here hx rfl (hb hby at_278) ?_
         refine XS.istore X1378.here hx rfl (hb hby at_279) rfl (l' := #[vj j_, .second, vi f_, vi m_, vi n_, vi qa, vi qb, vj op, .second, vr b5, vr b33, vr b67, vi 1, vi 1, vi 0, vi 1, vi 0]) rfl ?_
         refine XS.iload X1378.here hx rfl (hb hby at_281) rfl ?_
         refine XS.ifNo X1378.here hx rfl (hb hby at_283) rfl rfl ?_
         refine XS.iload X1378.here hx rfl (hb hby at_286) rfl ?_
         refine XS.ifNo X1378.here hx rfl (hb hby at_288) rfl rfl ?_
         refine XS.iload X1378.here hx rfl (hb hby at_291) rfl ?_
         refine XS.iconst X1378.here hx rfl (hb hby at_293) ?_
         show S_ p e below T1378 m 294 #[vj j_, .second, vi f_, vi m_, vi n_, vi qa, vi qb, vj op, .second, vr b5, vr b33, vr b67, vi 1, vi 1, vi 0, vi 1, vi 0] [(ii 1), (ii 0)] t
         refine XS.iadd X1378.here hx rfl (hb hby at_294) rfl ?_
         refine XS.istore X1378.here hx rfl (hb hby at_295) rfl (l' := #[vj j_, .second, vi f_, vi m_, vi n_, vi qa, vi qb, vj op, .second, vr b5, vr b33, vr b67, vi 1, vi 1, vi 0, vi 1, vi 1]) rfl ?_
         refine XS.iload X1378.here hx rfl (hb hby at_297) rfl ?_
         refine XS.ifNo X1378.here hx rfl (hb hby at_299) rfl rfl ?_
         refine XS.iload X1378.here hx rfl (hb hby at_302) rfl ?_
         refine yI X1378.here hx rfl 304 313 rfl (hb hby at_304) rfl rfl ?_
         refine XS.aload X1378.here hx rfl (hb hby at_313) rfl rfl ?_
         exact k
        obtain ⟨_, T1386, L1386, X1386, hQ1386, c1386⟩ := kvirt X1378 hx hZ72 hown72 (w87 hw) (w88 hw) (w90 hw) (w89 hw) (w91 hw) (w4 hw) (rm_emH l Z a0 hw [] b5 b13 b14 b33 h1378 n0 o1378 (((f166.keep K1324).keep K1335).keep K1378) f1382 f1383 f1384 f1379) e1378 (((f166.keep K1324).keep K1335).keep K1378) c1385 hml pd_prZ [] [] 0 (hb hby at_315) rfl rfl rfl rfl rfl rfl
        obtain ⟨rfl, N1387q, K1388⟩ := hQ1386
        have N1387 := Fr.app N1378 N1387q
        obtain ⟨fs, hr, hrun, hended, hRW⟩ := X1386.leaveW hS72 (by first | exact (Nat.le_trans hk72 (Nat.le_trans (Nat.le_trans (Nat.le_trans (Nat.le_trans (Nat.le_trans K91.1 K123.1) K156.1) K1324.1) K1335.1) K1378.1)) | (rw [K1388]; exact (Nat.le_trans hk72 (Nat.le_trans (Nat.le_trans (Nat.le_trans (Nat.le_trans (Nat.le_trans K91.1 K123.1) K156.1) K1324.1) K1335.1) K1378.1)))) (v := some (ii 1)) (fun h => by rw [Bd.returns] at h; cases h)
        refine ⟨_, _, c1386 _ ?_, hrun, hended, _, _, rfl, ?_, hRW.1, hRW.2.1, hRW.2.2.1, hRW.2.2.2.mono (by decide) (by decide)⟩
        ·show S_ p e below T1386 m 318 #[vj j_, .second, vi f_, vi m_, vi n_, vi qa, vi qb, vj op, .second, vr b5, vr b33, vr b67, vi 1, vi 1, vi 0, vi 1, vi 1] [(ii 0)] _
         refine XS.iload X1386.here hx rfl (hb hby at_318) rfl ?_
         refine yI X1386.here hx rfl 320 327 rfl (hb hby at_320) rfl rfl ?_
         refine XS.iconst X1386.here hx rfl (hb hby at_327) ?_
         refine XS.icmpNo X1386.here hx rfl (hb hby at_328) rfl rfl ?_
         refine XS.iconst X1386.here hx rfl (hb hby at_331) ?_
         refine yG X1386.here hx rfl 332 336 rfl (hb hby at_332) ?_
         show S_ p e below T1386 m 336 #[vj j_, .second, vi f_, vi m_, vi n_, vi qa, vi qb, vj op, .second, vr b5, vr b33, vr b67, vi 1, vi 1, vi 0, vi 1, vi 1] [(ii 1)] _
         exact retN X1386 hx (t := .boolean) Bd.returns (by simp) (hb hby at_336) hr
        ·show Q_law Z j_ f_ m_ n_ sa5_ sa9_ sa13_ sa17_ h0 n0 _ T1386.heap _
         rw [K1388]
         exact ⟨rfl, N1387, kp1378⟩
       ·have c1389 : Kt p e below T156 st0 (mkF m 178 #[vj j_, .second, vi f_, vi m_, vi n_, vi qa, vi qb, vj op, .second, vr b5, vr b33, vr b67, vi 1, vi 1, vi 0, vi 1, u_] [(rr b33), (rr b5)]) := fun t k => by
         refine c1319 t ?_
         show S_ p e below T156 m 166 #[vj j_, .second, vi f_, vi m_, vi n_, vi qa, vi qb, vj op, .second, vr b5, vr b33, vr b67, vi 1, vi 1, vi 0, vi 1, u_] [(.int (f_ &&& (128 : Int32)))] t
         refine XS.ifNo X156.here hx rfl (hb hby at_166) rfl ((if0 _ _).trans (feq hc1320).1) ?_
         refine XS.iload X156.here hx rfl (hb hby at_169) rfl ?_
         refine XS.ifNo X156.here hx rfl (hb hby at_171) rfl rfl ?_
         refine XS.aload X156.here hx rfl (hb hby at_174) rfl rfl ?_
         refine XS.aload X156.here hx rfl (hb hby at_176) rfl rfl ?_
         exact k
        obtain ⟨_, T1390, L1390, X1390, hQ1390, c1390⟩ := kvirt X156 hx hZ72 hown72 (w94 hw) (w95 hw) (w97 hw) (w96 hw) (w98 hw) (w4 hw) (rm_addHN l Z a0 hw [] b5 b33 b13 b14 sa17_ mv122 h156 n0 o156 f166 f181 f169 f170 f183 f185 f186 f187 f188 g33 ZE7_ ZF8_ f172 g31 f179 f180 hc988) e156 f166 c1389 hml pd_pLcom_example_lexchange_lexchange_Order_rV [(rr b33)] [] 0 (hb hby at_178) rfl rfl rfl rfl rfl rfl
        obtain ⟨rfl, N1391q, K1392, p1393, p1394, p1395, p1396, p1397⟩ := hQ1390
        have N1391 := Fr.app N156 N1391q
        have o1398 := o156.keep K1392 (allS g33 (allS g31 all0))
        have kp1399 := kp156.trans K1392 (allS (Or.inr z36) (allS (Or.inr z30) all0))
        have c1400 : Kt p e below T1390 st0 (mkF m 190 #[vj j_, .second, vi f_, vi m_, vi n_, vi qa, vi qb, vj op, .second, vr b5, vr b33, vr b67, vi 1, vi 1, vi 0, vi 1, u_] [(rr b67), (rr b5)]) := fun t k => by
         refine c1390 t ?_
         show S_ p e below T1390 m 181 #[vj j_, .second, vi f_, vi m_, vi n_, vi qa, vi qb, vj op, .second, vr b5, vr b33, vr b67, vi 1, vi 1, vi 0, vi 1, u_] [] t
         refine XS.iload X1390.here hx rfl (hb hby at_181) rfl ?_
         refine XS.ifNo X1390.here hx rfl (hb hby at_183) rfl rfl ?_
         refine XS.aload X1390.here hx rfl (hb hby at_186) rfl rfl ?_
         refine XS.aload X1390.here hx rfl (hb hby at_188) rfl rfl ?_
         exact k
        obtain ⟨_, T1401, L1401, X1401, hQ1401, c1401⟩ := kvirt X1390 hx hZ72 hown72 (w94 hw) (w95 hw) (w97 hw) (w96 hw) (w98 hw) (w4 hw) (rm_addHR l Z a0 hw [] b5 b67 b13 b14 sa17_ mv155 b33 T1390.heap n0 o1398 (f166.keep K1392) (f189.keep K1392) (f169.keep K1392 (ninS q167 (ninS q191 nin0))) (f170.keep K1392 (ninS q167 (ninS q191 nin0))) (f157.keep K1392 (ninS q182.symm (ninS q178.symm nin0))) (f159.keep K1392 (ninS q182.symm (ninS q178.symm nin0))) (f160.keep K1392 (ninS q182.symm (ninS q178.symm nin0))) (f161.keep K1392 (ninS q182.symm (ninS q178.symm nin0))) (f162.keep K1392 (ninS q182.symm (ninS q178.symm nin0))) g67 ZE7_ ZF8_ (f172.keep K1392) g31 p1396 p1397 (f181.keep K1392) g33 q182 p1393 p1394 p1395 hc1222) rfl (f166.keep K1392) c1400 hml pd_pLcom_example_lexchange_lexchange_Order_rV [(rr b67)] [] 0 (hb hby at_190) rfl rfl rfl rfl rfl rfl
        obtain ⟨rfl, N1402q, K1403, p1404, p1405, p1406, p1407, p1408, p1409, p1410, p1411⟩ := hQ1401
        have N1402 := Fr.app N1391 N1402q
        have o1412 := o1398.keep K1403 (allS g67 (allS g31 (allS g33 all0)))
        have kp1413 := kp1399.trans K1403 (allS (Or.inr z70) (allS (Or.inr z30) (allS (Or.inr z36) all0)))
        have c1414 : Kt p e below T1401 st0 (mkF m 224 #[vj j_, .second, vi f_, vi m_, vi n_, vi qa, vi qb, vj op, .second, vr b5, vr b33, vr b67, vi 1, vi 1, vi 0, vi 1, u_] [(.int (f_ &&& (64 : Int32)))]) := fun t k => by
         refine c1401 t ?_
         show S_ p e below T1401 m 193 #[vj j_, .second, vi f_, vi m_, vi n_, vi qa, vi qb, vj op, .second, vr b5, vr b33, vr b67, vi 1, vi 1, vi 0, vi 1, u_] [] t
         refine yG X1401.here hx rfl 193 220 rfl (hb hby at_193) ?_
         refine XS.iloadN X1401.here hx rfl (hb hby at_220) rfl ?_
         refine XS.bipush X1401.here hx rfl (hb hby at_221) ?_
         refine XS.iand X1401.here hx rfl (hb hby at_223) rfl ?_
         exact k
        obtain ⟨T1446, h1446, L1446, X1446, e1446, o1446, K1446, kp1446, N1446, f1447, c1446⟩ : ∃ (T1446 : State) (h1446 : Heap) (L1446 : List Loc), Stand p l e room_1 (s.setVm T72.vm) m #[(.long j_), (.int f_), (.int m_), (.int n_)] below meth c T1446 L1446 9 49 ∧ T1446.heap = h1446 ∧ Old Z n0 h1446 ∧ Keep T1401.heap h1446 [b67, b14, b33] ∧ Keep h0 h1446 [] ∧ Fr n0 L1446 ∧ Fld Z h1446 b14 nm2 "head" nm1 (rr b33) ∧ Kt p e below T1446 st0 (mkF m 278 #[vj j_, .second, vi f_, vi m_, vi n_, vi qa, vi qb, vj op, .second, vr b5, vr b33, vr b67, vi 1, vi 1, vi 0, vi 1, u_] []) := by
         by_cases hc1415 : (f_ &&& (64 : Int32)) = (0 : Int32)
         ·have c1416 : Kt p e below T1401 st0 (mkF m 263 #[vj j_, .second, vi f_, vi m_, vi n_, vi qa, vi qb, vj op, .second, vr b5, vr b33, vr b67, vi 1, vi 1, vi 0, vi 1, u_] [(rr b67), (rr b5)]) := fun t k => by
           refine c1414 t ?_
           show S_ p e below T1401 m 224 #[vj j_, .second, vi f_, vi m_, vi n_, vi qa, vi qb, vj op, .second, vr b5, vr b33, vr b67, vi 1, vi 1, vi 0, vi 1, u_] [(.int (f_ &&& (64 : Int32)))] t
           refine yI X1401.here hx rfl 224 254 rfl (hb hby at_224) rfl ((if0 _ _).trans (teq hc1415).1) ?_
           refine XS.iload X1401.here hx rfl (hb hby at_254) rfl ?_
           refine XS.ifNo X1401.here hx rfl (hb hby at_256) rfl rfl ?_
           refine XS.aload X1401.here hx rfl (hb hby at_259) rfl rfl ?_
           refine XS.aload X1401.here hx rfl (hb hby at_261) rfl rfl ?_
           exact k
          obtain ⟨_, T1417, L1417, X1417, hQ1417, c1417⟩ := kvirt X1401 hx hZ72 hown72 (w116 hw) (w117 hw) (w119 hw) (w118 hw) (w120 hw) (w4 hw) (rm_rmHL l Z a0 hw [] b5 b67 b13 b14 b33 T1401.heap n0 o1412 ((f166.keep K1392).keep K1403) ((f189.keep K1392).keep K1403) ((f169.keep K1392 (ninS q167 (ninS q191 nin0))).keep K1403 (ninS q168 (ninS q191 (ninS q167 nin0)))) ((f170.keep K1392 (ninS q167 (ninS q191 nin0))).keep K1403 (ninS q168 (ninS q191 (ninS q167 nin0)))) g67 ((f172.keep K1392).keep K1403) g31 ((f171.keep K1392).keep K1403) ((f175.keep K1392 (ninS q173 (ninS p25 nin0))).keep K1403 (ninS q174 (ninS p25 (ninS q173 nin0)))) ((f176.keep K1392 (ninS q173 (ninS p25 nin0))).keep K1403 (ninS q174 (ninS p25 (ninS q173 nin0)))) p1407 p1408 ((f181.keep K1392).keep K1403) g33 q182.symm p1404 p1405 p1406 p1409 p1410 p1411) rfl ((f166.keep K1392).keep K1403) c1416 hml pd_pLcom_example_lexchange_lexchange_Order_rV [(rr b67)] [] 0 (hb hby at_263) rfl rfl rfl rfl rfl rfl
          obtain ⟨rfl, N1418q, K1419, p1420, p1421, p1422, p1423, p1424, p1425, p1426, p1427⟩ := hQ1417
          have N1418 := Fr.app N1402 N1418q
          have o1428 := o1412.keep K1419 (allS g67 (allS g31 (allS g33 all0)))
          have kp1429 := kp1413.trans K1419 (allS (Or.inr z70) (allS (Or.inr z30) (allS (Or.inr z36) all0)))
          have c1430 : Kt p e below T1417 st0 (mkF m 278 #[vj j_, .second, vi f_, vi m_, vi n_, vi qa, vi qb, vj op, .second, vr b5, vr b33, vr b67, vi 1, vi 1, vi 0, vi 1, u_] []) := fun t k => by
           refine c1417 t ?_
           show S_ p e below T1417 m 266 #[vj j_, .second, vi f_, vi m_, vi n_, vi qa, vi qb, vj op, .second, vr b5, vr b33, vr b67, vi 1, vi 1, vi 0, vi 1, u_] [] t
           refine XS.iload X1417.here hx rfl (hb hby at_266) rfl ?_
           refine yI X1417.here hx rfl 268 278 rfl (hb hby at_268) rfl rfl ?_
           exact k
          have K1449 : Keep T1401.heap T1417.heap [b67, b14, b33] := ((Keep.refl _ _).trans K1419 (allS (Or.inl (List.mem_of_getElem? (i := 0) rfl)) (allS (Or.inl (List.mem_of_getElem? (i := 1) rfl)) (allS (Or.inl (List.mem_of_getElem? (i := 2) rfl)) all0))))
          exact ⟨T1417, _, _, X1417.mono (by decide) (by decide), rfl, o1428, K1449, kp1429, N1418, p1423, c1430⟩
         ·have c1431 : Kt p e below T1401 st0 (mkF m 248 #[vj j_, .second, vi f_, vi m_, vi n_, vi qa, vi qb, vj op, .second, vr b5, vr b33, vr b67, vi 1, vi 1, vi 0, vi 1, u_] [(rr b67), (rr b5)]) := fun t k => by
           refine c1414 t ?_
           show S_ p e below T1401 m 224 #[vj j_, .second, vi f_, vi m_, vi n_, vi qa, vi qb, vj op, .second, vr b5, vr b33, vr b67, vi 1, vi 1, vi 0, vi 1, u_] [(.int (f_ &&& (64 : Int32)))] t
           refine XS.ifNo X1401.here hx rfl (hb hby at_224) rfl ((if0 _ _).trans (feq hc1415).1) ?_
           refine XS.iload X1401.here hx rfl (hb hby at_227) rfl ?_
           refine yI X1401.here hx rfl 229 239 rfl (hb hby at_229) rfl rfl ?_
           refine XS.iload X1401.here hx rfl (hb hby at_239) rfl ?_
           refine XS.ifNo X1401.here hx rfl (hb hby at_241) rfl rfl ?_
           refine XS.aload X1401.here hx rfl (hb hby at_244) rfl rfl ?_
           refine XS.aload X1401.here hx rfl (hb hby at_246) rfl rfl ?_
           exact k
          obtain ⟨_, T1432, L1432, X1432, hQ1432, c1432⟩ := kvirt X1401 hx hZ72 hown72 (w116 hw) (w117 hw) (w119 hw) (w118 hw) (w120 hw) (w4 hw) (rm_rmHL l Z a0 hw [] b5 b67 b13 b14 b33 T1401.heap n0 o1412 ((f166.keep K1392).keep K1403) ((f189.keep K1392).keep K1403) ((f169.keep K1392 (ninS q167 (ninS q191 nin0))).keep K1403 (ninS q168 (ninS q191 (ninS q167 nin0)))) ((f170.keep K1392 (ninS q167 (ninS q191 nin0))).keep K1403 (ninS q168 (ninS q191 (ninS q167 nin0)))) g67 ((f172.keep K1392).keep K1403) g31 ((f171.keep K1392).keep K1403) ((f175.keep K1392 (ninS q173 (ninS p25 nin0))).keep K1403 (ninS q174 (ninS p25 (ninS q173 nin0)))) ((f176.keep K1392 (ninS q173 (ninS p25 nin0))).keep K1403 (ninS q174 (ninS p25 (ninS q173 nin0)))) p1407 p1408 ((f181.keep K1392).keep K1403) g33 q182.symm p1404 p1405 p1406 p1409 p1410 p1411) rfl ((f166.keep K1392).keep K1403) c1431 hml pd_pLcom_example_lexchange_lexchange_Order_rV [(rr b67)] [] 0 (hb hby at_248) rfl rfl rfl rfl rfl rfl
          obtain ⟨rfl, N1433q, K1434, p1435, p1436, p1437, p1438, p1439, p1440, p1441, p1442⟩ := hQ1432
          have N1433 := Fr.app N1402 N1433q
          have o1443 := o1412.keep K1434 (allS g67 (allS g31 (allS g33 all0)))
          have kp1444 := kp1413.trans K1434 (allS (Or.inr z70) (allS (Or.inr z30) (allS (Or.inr z36) all0)))
          have c1445 : Kt p e below T1432 st0 (mkF m 278 #[vj j_, .second, vi f_, vi m_, vi n_, vi qa, vi qb, vj op, .second, vr b5, vr b33, vr b67, vi 1, vi 1, vi 0, vi 1, u_] []) := fun t k => by
           refine c1432 t ?_
           show S_ p e below T1432 m 251 #[vj j_, .second, vi f_, vi m_, vi n_, vi qa, vi qb, vj op, .second, vr b5, vr b33, vr b67, vi 1, vi 1, vi 0, vi 1, u_] [] t
           refine yG X1432.here hx rfl 251 278 rfl (hb hby at_251) ?_
           exact k
          have K1448 : Keep T1401.heap T1432.heap [b67, b14, b33] := ((Keep.refl _ _).trans K1434 (allS (Or.inl (List.mem_of_getElem? (i := 0) rfl)) (allS (Or.inl (List.mem_of_getElem? (i := 1) rfl)) (allS (Or.inl (List.mem_of_getElem? (i := 2) rfl)) all0))))
          exact ⟨T1432, _, _, X1432.mono (by decide) (by decide), rfl, o1443, K1448, kp1444, N1433, p1438, c1445⟩
        have f1450 := ((f169.keep K1392 (ninS q167 (ninS q191 nin0))).keep K1403 (ninS q168 (ninS q191 (ninS q167 nin0)))).keep K1446 (ninS q168 (ninS q191 (ninS q167 nin0)))
        have f1451 := ((f170.keep K1392 (ninS q167 (ninS q191 nin0))).keep K1403 (ninS q168 (ninS q191 (ninS q167 nin0)))).keep K1446 (ninS q168 (ninS q191 (ninS q167 nin0)))
        have f1452 := ((f175.keep K1392 (ninS q173 (ninS p25 nin0))).keep K1403 (ninS q174 (ninS p25 (ninS q173 nin0)))).keep K1446 (ninS q174 (ninS p25 (ninS q173 nin0)))
        have c1453 : Kt p e below T1446 st0 (mkF m 315 #[vj j_, .second, vi f_, vi m_, vi n_, vi qa, vi qb, vj op, .second, vr b5, vr b33, vr b67, vi 1, vi 1, vi 0, vi 1, vi 1] [(rr b5)]) := fun t k => by
         refine c1446 t ?_
         show S_ p e below T1446 m 278 #[vj j_, .second, vi f_, vi m_, vi n_, vi qa, vi qb, vj op, .second, vr b5, vr b33, vr b67, vi 1, vi 1, vi 0, vi 1, u_] [] t
         refine XS.iconst X1446.here hx rfl (hb hby at_278) ?_
         refine XS.istore X1446.here hx rfl (hb hby at_279) rfl (l' := #[vj j_, .second, vi f_, vi m_, vi n_, vi qa, vi qb, vj op, .second, vr b5, vr b33, vr b67, vi 1, vi 1, vi 0, vi 1, vi 0]) rfl ?_
         refine XS.iload X1446.here hx rfl (hb hby at_281) rfl ?_
         refine XS.ifNo X1446.here hx rfl (hb hby at_283) rfl rfl ?_
         refine XS.iload X1446.here hx rfl (hb hby at_286) rfl ?_
         refine XS.ifNo X1446.here hx rfl (hb hby at_288) rfl rfl ?_
         refine XS.iload X1446.here hx rfl (hb hby at_291) rfl ?_
         refine XS.iconst X1446.here hx rfl (hb hby at_293) ?_
         show S_ p e below T1446 m 294 #[vj j_, .second, vi f_, vi m_, vi n_, vi qa, vi qb, vj op, .second, vr b5, vr b33, vr b67, vi 1, vi 1, vi 0, vi 1, vi 0] [(ii 1), (ii 0)] t
         refine XS.iadd X1446.here hx rfl (hb hby at_294) rfl ?_
         refine XS.istore X1446.here hx rfl (hb hby at_295) rfl (l' := #[vj j_, .second, vi f_, vi m_, vi n_, vi qa, vi qb, vj op, .second, vr b5, vr b33, vr b67, vi 1, vi 1, vi 0, vi 1, vi 1]) rfl ?_
         refine XS.iload X1446.here hx rfl (hb hby at_297) rfl ?_
         refine XS.ifNo X1446.here hx rfl (hb hby at_299) rfl rfl ?_
         refine XS.iload X1446.here hx rfl (hb hby at_302) rfl ?_
         refine yI X1446.here hx rfl 304 313 rfl (hb hby at_304) rfl rfl ?_
         refine XS.aload X1446.here hx rfl (hb hby at_313) rfl rfl ?_
         exact k
        obtain ⟨_, T1454, L1454, X1454, hQ1454, c1454⟩ := kvirt X1446 hx hZ72 hown72 (w87 hw) (w88 hw) (w90 hw) (w89 hw) (w91 hw) (w4 hw) (rm_emH l Z a0 hw [] b5 b13 b14 b33 h1446 n0 o1446 (((f166.keep K1392).keep K1403).keep K1446) f1450 f1451 f1452 f1447) e1446 (((f166.keep K1392).keep K1403).keep K1446) c1453 hml pd_prZ [] [] 0 (hb hby at_315) rfl rfl rfl rfl rfl rfl
        obtain ⟨rfl, N1455q, K1456⟩ := hQ1454
        have N1455 := Fr.app N1446 N1455q
        obtain ⟨fs, hr, hrun, hended, hRW⟩ := X1454.leaveW hS72 (by first | exact (Nat.le_trans hk72 (Nat.le_trans (Nat.le_trans (Nat.le_trans (Nat.le_trans (Nat.le_trans K91.1 K123.1) K156.1) K1392.1) K1403.1) K1446.1)) | (rw [K1456]; exact (Nat.le_trans hk72 (Nat.le_trans (Nat.le_trans (Nat.le_trans (Nat.le_trans (Nat.le_trans K91.1 K123.1) K156.1) K1392.1) K1403.1) K1446.1)))) (v := some (ii 1)) (fun h => by rw [Bd.returns] at h; cases h)
        refine ⟨_, _, c1454 _ ?_, hrun, hended, _, _, rfl, ?_, hRW.1, hRW.2.1, hRW.2.2.1, hRW.2.2.2.mono (by decide) (by decide)⟩
        ·show S_ p e below T1454 m 318 #[vj j_, .second, vi f_, vi m_, vi n_, vi qa, vi qb, vj op, .second, vr b5, vr b33, vr b67, vi 1, vi 1, vi 0, vi 1, vi 1] [(ii 0)] _
         refine XS.iload X1454.here hx rfl (hb hby at_318) rfl ?_
         refine yI X1454.here hx rfl 320 327 rfl (hb hby at_320) rfl rfl ?_
         refine XS.iconst X1454.here hx rfl (hb hby at_327) ?_
         refine XS.icmpNo X1454.here hx rfl (hb hby at_328) rfl rfl ?_
         refine XS.iconst X1454.here hx rfl (hb hby at_331) ?_
         refine yG X1454.here hx rfl 332 336 rfl (hb hby at_332) ?_
         show S_ p e below T1454 m 336 #[vj j_, .second, vi f_, vi m_, vi n_, vi qa, vi qb, vj op, .second, vr b5, vr b33, vr b67, vi 1, vi 1, vi 0, vi 1, vi 1] [(ii 1)] _
         exact retN X1454 hx (t := .boolean) Bd.returns (by simp) (hb hby at_336) hr
        ·show Q_law Z j_ f_ m_ n_ sa5_ sa9_ sa13_ sa17_ h0 n0 _ T1454.heap _
         rw [K1456]
         exact ⟨rfl, N1455, kp1446⟩
   ·have c1457 : Kt p e below T156 st0 (mkF m 151 #[vj j_, .second, vi f_, vi m_, vi n_, vi qa, vi qb, vj op, .second, vr b5, vr b33, vr b67, vi 1, vi 1, vi 1, u_, u_] [(.int (f_ &&& (32 : Int32)))]) := fun t k => by
     refine c679 t ?_
     show S_ p e below T156 m 132 #[vj j_, .second, vi f_, vi m_, vi n_, vi qa, vi qb, vj op, .second, vr b5, vr b33, vr b67, vi 1, vi 1, u_, u_, u_] [(.int (f_ &&& (16 : Int32)))] t
     refine XS.ifNo X156.here hx rfl (hb hby at_132) rfl ((if0 _ _).trans (feq hc680).1) ?_
     refine XS.iconst X156.here hx rfl (hb hby at_135) ?_
     refine yG X156.here hx rfl 136 140 rfl (hb hby at_136) ?_
     refine XS.istore X156.here hx rfl (hb hby at_140) rfl (l' := #[vj j_, .second, vi f_, vi m_, vi n_, vi qa, vi qb, vj op, .second, vr b5, vr b33, vr b67, vi 1, vi 1, vi 1, u_, u_]) rfl ?_
     refine XS.iload X156.here hx rfl (hb hby at_142) rfl ?_
     refine XS.ifNo X156.here hx rfl (hb hby at_144) rfl rfl ?_
     refine XS.iloadN X156.here hx rfl (hb hby at_147) rfl ?_
     refine XS.bipush X156.here hx rfl (hb hby at_148) ?_
     show S_ p e below T156 m 150 #[vj j_, .second, vi f_, vi m_, vi n_, vi qa, vi qb, vj op, .second, vr b5, vr b33, vr b67, vi 1, vi 1, vi 1, u_, u_] [(ii 32), (.int f_)] t
     refine XS.iand X156.here hx rfl (hb hby at_150) rfl ?_
     exact k
    by_cases hc1458 : (f_ &&& (32 : Int32)) = (0 : Int32)
    ·have c1459 : Kt p e below T156 st0 (mkF m 161 #[vj j_, .second, vi f_, vi m_, vi n_, vi qa, vi qb, vj op, .second, vr b5, vr b33, vr b67, vi 1, vi 1, vi 1, vi 0, u_] []) := fun t k => by
      refine c1457 t ?_
      show S_ p e below T156 m 151 #[vj j_, .second, vi f_, vi m_, vi n_, vi qa, vi qb, vj op, .second, vr b5, vr b33, vr b67, vi 1, vi 1, vi 1, u_, u_] [(.int (f_ &&& (32 : Int32)))] t
      refine yI X156.here hx rfl 151 158 rfl (hb hby at_151) rfl ((if0 _ _).trans (teq hc1458).1) ?_
      refine XS.iconst X156.here hx rfl (hb hby at_158) ?_
      refine XS.istore X156.here hx rfl (hb hby at_159) rfl (l' := #[vj j_, .second, vi f_, vi m_, vi n_, vi qa, vi qb, vj op, .second, vr b5, vr b33, vr b67, vi 1, vi 1, vi 1, vi 0, u_]) rfl ?_
      exact k
     by_cases hc1460 : (0 : Int32) < mv122
     ·by_cases hc1461 : (0 : Int32) < mv155
      ·have c1462 : Kt p e below T156 st0 (mkF m 166 #[vj j_, .second, vi f_, vi m_, vi n_, vi qa, vi qb, vj op, .second, vr b5, vr b33, vr b67, vi 1, vi 1, vi 1, vi 0, u_] [(.int (f_ &&& (128 : Int32)))]) := fun t k => by
        refine c1459 t ?_
        show S_ p e below T156 m 161 #[vj j_, .second, vi f_, vi m_, vi n_, vi qa, vi qb, vj op, .second, vr b5, vr b33, vr b67, vi 1, vi 1, vi 1, vi 0, u_] [] t
        refine XS.iloadN X156.here hx rfl (hb hby at_161) rfl ?_
        refine XS.sipush X156.here hx rfl (hb hby at_162) ?_
        refine XS.iand X156.here hx rfl (hb hby at_165) rfl ?_
        exact k
       by_cases hc1463 : (f_ &&& (128 : Int32)) = (0 : Int32)
       ·have c1464 : Kt p e below T156 st0 (mkF m 205 #[vj j_, .second, vi f_, vi m_, vi n_, vi qa, vi qb, vj op, .second, vr b5, vr b33, vr b67, vi 1, vi 1, vi 1, vi 0, u_] [(rr b67), (rr b5)]) := fun t k => by
         refine c1462 t ?_
         show S_ p e below T156 m 166 #[vj j_, .second, vi f_, vi m_, vi n_, vi qa, vi qb, vj op, .second, vr b5, vr b33, vr b67, vi 1, vi 1, vi 1, vi 0, u_] [(.int (f_ &&& (128 : Int32)))] t
         refine yI X156.here hx rfl 166 196 rfl (hb hby at_166) rfl ((if0 _ _).trans (teq hc1463).1) ?_
         refine XS.iload X156.here hx rfl (hb hby at_196) rfl ?_
         refine XS.ifNo X156.here hx rfl (hb hby at_198) rfl rfl ?_
         refine XS.aload X156.here hx rfl (hb hby at_201) rfl rfl ?_
         refine XS.aload X156.here hx rfl (hb hby at_203) rfl rfl ?_
         exact k
        obtain ⟨_, T1465, L1465, X1465, hQ1465, c1465⟩ := kvirt X156 hx hZ72 hown72 (w94 hw) (w95 hw) (w97 hw) (w96 hw) (w98 hw) (w4 hw) (rm_addSN l Z a0 hw [] b5 b67 b13 b14 sa17_ mv155 h156 n0 o156 f166 f189 f169 f170 f157 f159 f160 f161 f162 g67 ZE7_ ZF8_ f171 g29 f175 f176 hc1461) e156 f166 c1464 hml pd_pLcom_example_lexchange_lexchange_Order_rV [(rr b67)] [] 0 (hb hby at_205) rfl rfl rfl rfl rfl rfl
        obtain ⟨rfl, N1466q, K1467, p1468, p1469, p1470, p1471, p1472⟩ := hQ1465
        have N1466 := Fr.app N156 N1466q
        have o1473 := o156.keep K1467 (allS g67 (allS g29 all0))
        have kp1474 := kp156.trans K1467 (allS (Or.inr z70) (allS (Or.inr z28) all0))
        have c1475 : Kt p e below T1465 st0 (mkF m 217 #[vj j_, .second, vi f_, vi m_, vi n_, vi qa, vi qb, vj op, .second, vr b5, vr b33, vr b67, vi 1, vi 1, vi 1, vi 0, u_] [(rr b33), (rr b5)]) := fun t k => by
         refine c1465 t ?_
         show S_ p e below T1465 m 208 #[vj j_, .second, vi f_, vi m_, vi n_, vi qa, vi qb, vj op, .second, vr b5, vr b33, vr b67, vi 1, vi 1, vi 1, vi 0, u_] [] t
         refine XS.iload X1465.here hx rfl (hb hby at_208) rfl ?_
         refine XS.ifNo X1465.here hx rfl (hb hby at_210) rfl rfl ?_
         refine XS.aload X1465.here hx rfl (hb hby at_213) rfl rfl ?_
         refine XS.aload X1465.here hx rfl (hb hby at_215) rfl rfl ?_
         exact k
        obtain ⟨_, T1476, L1476, X1476, hQ1476, c1476⟩ := kvirt X1465 hx hZ72 hown72 (w94 hw) (w95 hw) (w97 hw) (w96 hw) (w98 hw) (w4 hw) (rm_addSR l Z a0 hw [] b5 b33 b13 b14 sa17_ mv122 b67 T1465.heap n0 o1473 (f166.keep K1467) (f181.keep K1467) (f169.keep K1467 (ninS q168 (ninS q190 nin0))) (f170.keep K1467 (ninS q168 (ninS q190 nin0))) (f183.keep K1467 (ninS q182 (ninS q173.symm nin0))) (f185.keep K1467 (ninS q182 (ninS q173.symm nin0))) (f186.keep K1467 (ninS q182 (ninS q173.symm nin0))) (f187.keep K1467 (ninS q182 (ninS q173.symm nin0))) (f188.keep K1467 (ninS q182 (ninS q173.symm nin0))) g33 ZE7_ ZF8_ (f171.keep K1467) g29 p1471 p1472 (f189.keep K1467) g67 q182.symm p1468 p1469 p1470 hc1460) rfl (f166.keep K1467) c1475 hml pd_pLcom_example_lexchange_lexchange_Order_rV [(rr b33)] [] 0 (hb hby at_217) rfl rfl rfl rfl rfl rfl
        obtain ⟨rfl, N1477q, K1478, p1479, p1480, p1481, p1482, p1483, p1484, p1485, p1486⟩ := hQ1476
        have N1477 := Fr.app N1466 N1477q
        have o1487 := o1473.keep K1478 (allS g33 (allS g29 (allS g67 all0)))
        have kp1488 := kp1474.trans K1478 (allS (Or.inr z36) (allS (Or.inr z28) (allS (Or.inr z70) all0)))
        have c1489 : Kt p e below T1476 st0 (mkF m 224 #[vj j_, .second, vi f_, vi m_, vi n_, vi qa, vi qb, vj op, .second, vr b5, vr b33, vr b67, vi 1, vi 1, vi 1, vi 0, u_] [(.int (f_ &&& (64 : Int32)))]) := fun t k => by
         refine c1476 t ?_
         show S_ p e below T1476 m 220 #[vj j_, .second, vi f_, vi m_, vi n_, vi qa, vi qb, vj op, .second, vr b5, vr b33, vr b67, vi 1, vi 1, vi 1, vi 0, u_] [] t
         refine XS.iloadN X1476.here hx rfl (hb hby at_220) rfl ?_
         refine XS.bipush X1476.here hx rfl (hb hby at_221) ?_
         refine XS.iand X1476.here hx rfl (hb hby at_223) rfl ?_
         exact k
        obtain ⟨T1520, h1520, L1520, X1520, e1520, o1520, K1520, kp1520, N1520, f1521, c1520⟩ : ∃ (T1520 : State) (h1520 : Heap) (L1520 : List Loc), Stand p l e room_1 (s.setVm T72.vm) m #[(.long j_), (.int f_), (.int m_), (.int n_)] below meth c T1520 L1520 9 49 ∧ T1520.heap = h1520 ∧ Old Z n0 h1520 ∧ Keep T1476.heap h1520 [b33, b13, b67] ∧ Keep h0 h1520 [] ∧ Fr n0 L1520 ∧ Fld Z h1520 b13 nm2 "head" nm1 (rr b67) ∧ Kt p e below T1520 st0 (mkF m 278 #[vj j_, .second, vi f_, vi m_, vi n_, vi qa, vi qb, vj op, .second, vr b5, vr b33, vr b67, vi 1, vi 1, vi 1, vi 0, u_] []) := by
         by_cases hc1490 : (f_ &&& (64 : Int32)) = (0 : Int32)
         ·have c1491 : Kt p e below T1476 st0 (mkF m 275 #[vj j_, .second, vi f_, vi m_, vi n_, vi qa, vi qb, vj op, .second, vr b5, vr b33, vr b67, vi 1, vi 1, vi 1, vi 0, u_] [(rr b33), (rr b5)]) := fun t k => by
           refine c1489 t ?_
           show S_ p e below T1476 m 224 #[vj j_, .second, vi f_, vi m_, vi n_, vi qa, vi qb, vj op, .second, vr b5, vr b33, vr b67, vi 1, vi 1, vi 1, vi 0, u_] [(.int (f_ &&& (64 : Int32)))] t
           refine yI X1476.here hx rfl 224 254 rfl (hb hby at_224) rfl ((if0 _ _).trans (teq hc1490).1) ?_
           refine XS.iload X1476.here hx rfl (hb hby at_254) rfl ?_
           refine yI X1476.here hx rfl 256 266 rfl (hb hby at_256) rfl rfl ?_
           refine XS.iload X1476.here hx rfl (hb hby at_266) rfl ?_
           refine XS.ifNo X1476.here hx rfl (hb hby at_268) rfl rfl ?_
           refine XS.aload X1476.here hx rfl (hb hby at_271) rfl rfl ?_
           refine XS.aload X1476.here hx rfl (hb hby at_273) rfl rfl ?_
           exact k
          obtain ⟨_, T1492, L1492, X1492, hQ1492, c1492⟩ := kvirt X1476 hx hZ72 hown72 (w116 hw) (w117 hw) (w119 hw) (w118 hw) (w120 hw) (w4 hw) (rm_rmSL l Z a0 hw [] b5 b33 b13 b14 b67 T1476.heap n0 o1487 ((f166.keep K1467).keep K1478) ((f181.keep K1467).keep K1478) ((f169.keep K1467 (ninS q168 (ninS q190 nin0))).keep K1478 (ninS q167 (ninS q190 (ninS q168 nin0)))) ((f170.keep K1467 (ninS q168 (ninS q190 nin0))).keep K1478 (ninS q167 (ninS q190 (ninS q168 nin0)))) g33 ((f171.keep K1467).keep K1478) g29 p1482 p1483 ((f189.keep K1467).keep K1478) g67 q182 p1479 p1480 p1481 p1484 p1485 p1486) rfl ((f166.keep K1467).keep K1478) c1491 hml pd_pLcom_example_lexchange_lexchange_Order_rV [(rr b33)] [] 0 (hb hby at_275) rfl rfl rfl rfl rfl rfl
          obtain ⟨rfl, N1493q, K1494, p1495, p1496, p1497, p1498, p1499, p1500, p1501, p1502⟩ := hQ1492
          have N1493 := Fr.app N1477 N1493q
          have o1503 := o1487.keep K1494 (allS g33 (allS g29 (allS g67 all0)))
          have kp1504 := kp1488.trans K1494 (allS (Or.inr z36) (allS (Or.inr z28) (allS (Or.inr z70) all0)))
          have K1523 : Keep T1476.heap T1492.heap [b33, b13, b67] := ((Keep.refl _ _).trans K1494 (allS (Or.inl (List.mem_of_getElem? (i := 0) rfl)) (allS (Or.inl (List.mem_of_getElem? (i := 1) rfl)) (allS (Or.inl (List.mem_of_getElem? (i := 2) rfl)) all0))))
          exact ⟨T1492, _, _, X1492.mono (by decide) (by decide), rfl, o1503, K1523, kp1504, N1493, p1498, c1492⟩
         ·have c1505 : Kt p e below T1476 st0 (mkF m 236 #[vj j_, .second, vi f_, vi m_, vi n_, vi qa, vi qb, vj op, .second, vr b5, vr b33, vr b67, vi 1, vi 1, vi 1, vi 0, u_] [(rr b33), (rr b5)]) := fun t k => by
           refine c1489 t ?_
           show S_ p e below T1476 m 224 #[vj j_, .second, vi f_, vi m_, vi n_, vi qa, vi qb, vj op, .second, vr b5, vr b33, vr b67, vi 1, vi 1, vi 1, vi 0, u_] [(.int (f_ &&& (64 : Int32)))] t
           refine XS.ifNo X1476.here hx rfl (hb hby at_224) rfl ((if0 _ _).trans (feq hc1490).1) ?_
           refine XS.iload X1476.here hx rfl (hb hby at_227) rfl ?_
           refine XS.ifNo X1476.here hx rfl (hb hby at_229) rfl rfl ?_
           refine XS.aload X1476.here hx rfl (hb hby at_232) rfl rfl ?_
           refine XS.aload X1476.here hx rfl (hb hby at_234) rfl rfl ?_
           exact k
          obtain ⟨_, T1506, L1506, X1506, hQ1506, c1506⟩ := kvirt X1476 hx hZ72 hown72 (w116 hw) (w117 hw) (w119 hw) (w118 hw) (w120 hw) (w4 hw) (rm_rmSL l Z a0 hw [] b5 b33 b13 b14 b67 T1476.heap n0 o1487 ((f166.keep K1467).keep K1478) ((f181.keep K1467).keep K1478) ((f169.keep K1467 (ninS q168 (ninS q190 nin0))).keep K1478 (ninS q167 (ninS q190 (ninS q168 nin0)))) ((f170.keep K1467 (ninS q168 (ninS q190 nin0))).keep K1478 (ninS q167 (ninS q190 (ninS q168 nin0)))) g33 ((f171.keep K1467).keep K1478) g29 p1482 p1483 ((f189.keep K1467).keep K1478) g67 q182 p1479 p1480 p1481 p1484 p1485 p1486) rfl ((f166.keep K1467).keep K1478) c1505 hml pd_pLcom_example_lexchange_lexchange_Order_rV [(rr b33)] [] 0 (hb hby at_236) rfl rfl rfl rfl rfl rfl
          obtain ⟨rfl, N1507q, K1508, p1509, p1510, p1511, p1512, p1513, p1514, p1515, p1516⟩ := hQ1506
          have N1507 := Fr.app N1477 N1507q
          have o1517 := o1487.keep K1508 (allS g33 (allS g29 (allS g67 all0)))
          have kp1518 := kp1488.trans K1508 (allS (Or.inr z36) (allS (Or.inr z28) (allS (Or.inr z70) all0)))
          have c1519 : Kt p e below T1506 st0 (mkF m 278 #[vj j_, .second, vi f_, vi m_, vi n_, vi qa, vi qb, vj op, .second, vr b5, vr b33, vr b67, vi 1, vi 1, vi 1, vi 0, u_] []) := fun t k => by
           refine c1506 t ?_
           show S_ p e below T1506 m 239 #[vj j_, .second, vi f_, vi m_, vi n_, vi qa, vi qb, vj op, .second, vr b5, vr b33, vr b67, vi 1, vi 1, vi 1, vi 0, u_] [] t
           refine XS.iload X1506.here hx rfl (hb hby at_239) rfl ?_
           refine yI X1506.here hx rfl 241 278 rfl (hb hby at_241) rfl rfl ?_
           exact k
          have K1522 : Keep T1476.heap T1506.heap [b33, b13, b67] := ((Keep.refl _ _).trans K1508 (allS (Or.inl (List.mem_of_getElem? (i := 0) rfl)) (allS (Or.inl (List.mem_of_getElem? (i := 1) rfl)) (allS (Or.inl (List.mem_of_getElem? (i := 2) rfl)) all0))))
          exact ⟨T1506, _, _, X1506.mono (by decide) (by decide), rfl, o1517, K1522, kp1518, N1507, p1512, c1519⟩
        have f1524 := ((f169.keep K1467 (ninS q168 (ninS q190 nin0))).keep K1478 (ninS q167 (ninS q190 (ninS q168 nin0)))).keep K1520 (ninS q167 (ninS q190 (ninS q168 nin0)))
        have f1525 := ((f170.keep K1467 (ninS q168 (ninS q190 nin0))).keep K1478 (ninS q167 (ninS q190 (ninS q168 nin0)))).keep K1520 (ninS q167 (ninS q190 (ninS q168 nin0)))
        have c1526 : Kt p e below T1520 st0 (mkF m 315 #[vj j_, .second, vi f_, vi m_, vi n_, vi qa, vi qb, vj op, .second, vr b5, vr b33, vr b67, vi 1, vi 1, vi 1, vi 0, vi 1] [(rr b5)]) := fun t k => by
         refine c1520 t ?_
         show S_ p e below T1520 m 278 #[vj j_, .second, vi f_, vi m_, vi n_, vi qa, vi qb, vj op, .second, vr b5, vr b33, vr b67, vi 1, vi 1, vi 1, vi 0, u_] [] t
         refine XS.iconst X1520.here hx rfl (hb hby at_278) ?_
         refine XS.istore X1520.here hx rfl (hb hby at_279) rfl (l' := #[vj j_, .second, vi f_, vi m_, vi n_, vi qa, vi qb, vj op, .second, vr b5, vr b33, vr b67, vi 1, vi 1, vi 1, vi 0, vi 0]) rfl ?_
         refine XS.iload X1520.here hx rfl (hb hby at_281) rfl ?_
         refine XS.ifNo X1520.here hx rfl (hb hby at_283) rfl rfl ?_
         refine XS.iload X1520.here hx rfl (hb hby at_286) rfl ?_
         refine yI X1520.here hx rfl 288 297 rfl (hb hby at_288) rfl rfl ?_
         refine XS.iload X1520.here hx rfl (hb hby at_297) rfl ?_
         refine XS.ifNo X1520.here hx rfl (hb hby at_299) rfl rfl ?_
         show S_ p e below T1520 m 302 #[vj j_, .second, vi f_, vi m_, vi n_, vi qa, vi qb, vj op, .second, vr b5, vr b33, vr b67, vi 1, vi 1, vi 1, vi 0, vi 0] [] t
         refine XS.iload X1520.here hx rfl (hb hby at_302) rfl ?_
         refine XS.ifNo X1520.here hx rfl (hb hby at_304) rfl rfl ?_
         refine XS.iload X1520.here hx rfl (hb hby at_307) rfl ?_
         refine XS.iconst X1520.here hx rfl (hb hby at_309) ?_
         refine XS.iadd X1520.here hx rfl (hb hby at_310) rfl ?_
         refine XS.istore X1520.here hx rfl (hb hby at_311) rfl (l' := #[vj j_, .second, vi f_, vi m_, vi n_, vi qa, vi qb, vj op, .second, vr b5, vr b33, vr b67, vi 1, vi 1, vi 1, vi 0, vi 1]) rfl ?_
         refine XS.aload X1520.here hx rfl (hb hby at_313) rfl rfl ?_
         exact k
        obtain ⟨_, T1527, L1527, X1527, hQ1527, c1527⟩ := kvirt X1520 hx hZ72 hown72 (w87 hw) (w88 hw) (w90 hw) (w89 hw) (w91 hw) (w4 hw) (rm_emS l Z a0 hw [] b5 b13 b14 b67 h1520 n0 o1520 (((f166.keep K1467).keep K1478).keep K1520) f1524 f1525 f1521) e1520 (((f166.keep K1467).keep K1478).keep K1520) c1526 hml pd_prZ [] [] 0 (hb hby at_315) rfl rfl rfl rfl rfl rfl
        obtain ⟨rfl, N1528q, K1529⟩ := hQ1527
        have N1528 := Fr.app N1520 N1528q
        obtain ⟨fs, hr, hrun, hended, hRW⟩ := X1527.leaveW hS72 (by first | exact (Nat.le_trans hk72 (Nat.le_trans (Nat.le_trans (Nat.le_trans (Nat.le_trans (Nat.le_trans K91.1 K123.1) K156.1) K1467.1) K1478.1) K1520.1)) | (rw [K1529]; exact (Nat.le_trans hk72 (Nat.le_trans (Nat.le_trans (Nat.le_trans (Nat.le_trans (Nat.le_trans K91.1 K123.1) K156.1) K1467.1) K1478.1) K1520.1)))) (v := some (ii 1)) (fun h => by rw [Bd.returns] at h; cases h)
        refine ⟨_, _, c1527 _ ?_, hrun, hended, _, _, rfl, ?_, hRW.1, hRW.2.1, hRW.2.2.1, hRW.2.2.2.mono (by decide) (by decide)⟩
        ·show S_ p e below T1527 m 318 #[vj j_, .second, vi f_, vi m_, vi n_, vi qa, vi qb, vj op, .second, vr b5, vr b33, vr b67, vi 1, vi 1, vi 1, vi 0, vi 1] [(ii 0)] _
         refine XS.iload X1527.here hx rfl (hb hby at_318) rfl ?_
         refine yI X1527.here hx rfl 320 327 rfl (hb hby at_320) rfl rfl ?_
         refine XS.iconst X1527.here hx rfl (hb hby at_327) ?_
         refine XS.icmpNo X1527.here hx rfl (hb hby at_328) rfl rfl ?_
         refine XS.iconst X1527.here hx rfl (hb hby at_331) ?_
         refine yG X1527.here hx rfl 332 336 rfl (hb hby at_332) ?_
         show S_ p e below T1527 m 336 #[vj j_, .second, vi f_, vi m_, vi n_, vi qa, vi qb, vj op, .second, vr b5, vr b33, vr b67, vi 1, vi 1, vi 1, vi 0, vi 1] [(ii 1)] _
         exact retN X1527 hx (t := .boolean) Bd.returns (by simp) (hb hby at_336) hr
        ·show Q_law Z j_ f_ m_ n_ sa5_ sa9_ sa13_ sa17_ h0 n0 _ T1527.heap _
         rw [K1529]
         exact ⟨rfl, N1528, kp1520⟩
       ·have c1530 : Kt p e below T156 st0 (mkF m 178 #[vj j_, .second, vi f_, vi m_, vi n_, vi qa, vi qb, vj op, .second, vr b5, vr b33, vr b67, vi 1, vi 1, vi 1, vi 0, u_] [(rr b33), (rr b5)]) := fun t k => by
         refine c1462 t ?_
         show S_ p e below T156 m 166 #[vj j_, .second, vi f_, vi m_, vi n_, vi qa, vi qb, vj op, .second, vr b5, vr b33, vr b67, vi 1, vi 1, vi 1, vi 0, u_] [(.int (f_ &&& (128 : Int32)))] t
         refine XS.ifNo X156.here hx rfl (hb hby at_166) rfl ((if0 _ _).trans (feq hc1463).1) ?_
         refine XS.iload X156.here hx rfl (hb hby at_169) rfl ?_
         refine XS.ifNo X156.here hx rfl (hb hby at_171) rfl rfl ?_
         refine XS.aload X156.here hx rfl (hb hby at_174) rfl rfl ?_
         refine XS.aload X156.here hx rfl (hb hby at_176) rfl rfl ?_
         exact k
        obtain ⟨_, T1531, L1531, X1531, hQ1531, c1531⟩ := kvirt X156 hx hZ72 hown72 (w94 hw) (w95 hw) (w97 hw) (w96 hw) (w98 hw) (w4 hw) (rm_addSN l Z a0 hw [] b5 b33 b13 b14 sa17_ mv122 h156 n0 o156 f166 f181 f169 f170 f183 f185 f186 f187 f188 g33 ZE7_ ZF8_ f171 g29 f175 f176 hc1460) e156 f166 c1530 hml pd_pLcom_example_lexchange_lexchange_Order_rV [(rr b33)] [] 0 (hb hby at_178) rfl rfl rfl rfl rfl rfl
        obtain ⟨rfl, N1532q, K1533, p1534, p1535, p1536, p1537, p1538⟩ := hQ1531
        have N1532 := Fr.app N156 N1532q
        have o1539 := o156.keep K1533 (allS g33 (allS g29 all0))
        have kp1540 := kp156.trans K1533 (allS (Or.inr z36) (allS (Or.inr z28) all0))
        have c1541 : Kt p e below T1531 st0 (mkF m 190 #[vj j_, .second, vi f_, vi m_, vi n_, vi qa, vi qb, vj op, .second, vr b5, vr b33, vr b67, vi 1, vi 1, vi 1, vi 0, u_] [(rr b67), (rr b5)]) := fun t k => by
         refine c1531 t ?_
         show S_ p e below T1531 m 181 #[vj j_, .second, vi f_, vi m_, vi n_, vi qa, vi qb, vj op, .second, vr b5, vr b33, vr b67, vi 1, vi 1, vi 1, vi 0, u_] [] t
         refine XS.iload X1531.here hx rfl (hb hby at_181) rfl ?_
         refine XS.ifNo X1531.here hx rfl (hb hby at_183) rfl rfl ?_
         refine XS.aload X1531.here hx rfl (hb hby at_186) rfl rfl ?_
         refine XS.aload X1531.here hx rfl (hb hby at_188) rfl rfl ?_
         exact k
        obtain ⟨_, T1542, L1542, X1542, hQ1542, c1542⟩ := kvirt X1531 hx hZ72 hown72 (w94 hw) (w95 hw) (w97 hw) (w96 hw) (w98 hw) (w4 hw) (rm_addSR l Z a0 hw [] b5 b67 b13 b14 sa17_ mv155 b33 T1531.heap n0 o1539 (f166.keep K1533) (f189.keep K1533) (f169.keep K1533 (ninS q167 (ninS q190 nin0))) (f170.keep K1533 (ninS q167 (ninS q190 nin0))) (f157.keep K1533 (ninS q182.symm (ninS q174.symm nin0))) (f159.keep K1533 (ninS q182.symm (ninS q174.symm nin0))) (f160.keep K1533 (ninS q182.symm (ninS q174.symm nin0))) (f161.keep K1533 (ninS q182.symm (ninS q174.symm nin0))) (f162.keep K1533 (ninS q182.symm (ninS q174.symm nin0))) g67 ZE7_ ZF8_ (f171.keep K1533) g29 p1537 p1538 (f181.keep K1533) g33 q182 p1534 p1535 p1536 hc1461) rfl (f166.keep K1533) c1541 hml pd_pLcom_example_lexchange_lexchange_Order_rV [(rr b67)] [] 0 (hb hby at_190) rfl rfl rfl rfl rfl rfl
        obtain ⟨rfl, N1543q, K1544, p1545, p1546, p1547, p1548, p1549, p1550, p1551, p1552⟩ := hQ1542
        have N1543 := Fr.app N1532 N1543q
        have o1553 := o1539.keep K1544 (allS g67 (allS g29 (allS g33 all0)))
        have kp1554 := kp1540.trans K1544 (allS (Or.inr z70) (allS (Or.inr z28) (allS (Or.inr z36) all0)))
        have c1555 : Kt p e below T1542 st0 (mkF m 224 #[vj j_, .second, vi f_, vi m_, vi n_, vi qa, vi qb, vj op, .second, vr b5, vr b33, vr b67, vi 1, vi 1, vi 1, vi 0, u_] [(.int (f_ &&& (64 : Int32)))]) := fun t k => by
         refine c1542 t ?_
         show S_ p e below T1542 m 193 #[vj j_, .second, vi f_, vi m_, vi n_, vi qa, vi qb, vj op, .second, vr b5, vr b33, vr b67, vi 1, vi 1, vi 1, vi 0, u_] [] t
         refine yG X1542.here hx rfl 193 220 rfl (hb hby at_193) ?_
         refine XS.iloadN X1542.here hx rfl (hb hby at_220) rfl ?_
         refine XS.bipush X1542.here hx rfl (hb hby at_221) ?_
         refine XS.iand X1542.here hx rfl (hb hby at_223) rfl ?_
         exact k
        obtain ⟨T1586, h1586, L1586, X1586, e1586, o1586, K1586, kp1586, N1586, f1587, c1586⟩ : ∃ (T1586 : State) (h1586 : Heap) (L1586 : List Loc), Stand p l e room_1 (s.setVm T72.vm) m #[(.long j_), (.int f_), (.int m_), (.int n_)] below meth c T1586 L1586 9 49 ∧ T1586.heap = h1586 ∧ Old Z n0 h1586 ∧ Keep T1542.heap h1586 [b33, b13, b67] ∧ Keep h0 h1586 [] ∧ Fr n0 L1586 ∧ Fld Z h1586 b13 nm2 "head" nm1 (rr b67) ∧ Kt p e below T1586 st0 (mkF m 278 #[vj j_, .second, vi f_, vi m_, vi n_, vi qa, vi qb, vj op, .second, vr b5, vr b33, vr b67, vi 1, vi 1, vi 1, vi 0, u_] []) := by
         by_cases hc1556 : (f_ &&& (64 : Int32)) = (0 : Int32)
         ·have c1557 : Kt p e below T1542 st0 (mkF m 275 #[vj j_, .second, vi f_, vi m_, vi n_, vi qa, vi qb, vj op, .second, vr b5, vr b33, vr b67, vi 1, vi 1, vi 1, vi 0, u_] [(rr b33), (rr b5)]) := fun t k => by
           refine c1555 t ?_
           show S_ p e below T1542 m 224 #[vj j_, .second, vi f_, vi m_, vi n_, vi qa, vi qb, vj op, .second, vr b5, vr b33, vr b67, vi 1, vi 1, vi 1, vi 0, u_] [(.int (f_ &&& (64 : Int32)))] t
           refine yI X1542.here hx rfl 224 254 rfl (hb hby at_224) rfl ((if0 _ _).trans (teq hc1556).1) ?_
           refine XS.iload X1542.here hx rfl (hb hby at_254) rfl ?_
           refine yI X1542.here hx rfl 256 266 rfl (hb hby at_256) rfl rfl ?_
           refine XS.iload X1542.here hx rfl (hb hby at_266) rfl ?_
           refine XS.ifNo X1542.here hx rfl (hb hby at_268) rfl rfl ?_
           refine XS.aload X1542.here hx rfl (hb hby at_271) rfl rfl ?_
           refine XS.aload X1542.here hx rfl (hb hby at_273) rfl rfl ?_
           exact k
          obtain ⟨_, T1558, L1558, X1558, hQ1558, c1558⟩ := kvirt X1542 hx hZ72 hown72 (w116 hw) (w117 hw) (w119 hw) (w118 hw) (w120 hw) (w4 hw) (rm_rmSF l Z a0 hw [] b5 b33 b13 b14 b67 T1542.heap n0 o1553 ((f166.keep K1533).keep K1544) ((f181.keep K1533).keep K1544) ((f169.keep K1533 (ninS q167 (ninS q190 nin0))).keep K1544 (ninS q168 (ninS q190 (ninS q167 nin0)))) ((f170.keep K1533 (ninS q167 (ninS q190 nin0))).keep K1544 (ninS q168 (ninS q190 (ninS q167 nin0)))) g33 ((f171.keep K1533).keep K1544) g29 p1548 p1549 ((f189.keep K1533).keep K1544) g67 q182 p1550 p1551 p1552 p1545 p1546 p1547) rfl ((f166.keep K1533).keep K1544) c1557 hml pd_pLcom_example_lexchange_lexchange_Order_rV [(rr b33)] [] 0 (hb hby at_275) rfl rfl rfl rfl rfl rfl
          obtain ⟨rfl, N1559q, K1560, p1561, p1562, p1563, p1564, p1565, p1566, p1567, p1568⟩ := hQ1558
          have N1559 := Fr.app N1543 N1559q
          have o1569 := o1553.keep K1560 (allS g33 (allS g29 (allS g67 all0)))
          have kp1570 := kp1554.trans K1560 (allS (Or.inr z36) (allS (Or.inr z28) (allS (Or.inr z70) all0)))
          have K1589 : Keep T1542.heap T1558.heap [b33, b13, b67] := ((Keep.refl _ _).trans K1560 (allS (Or.inl (List.mem_of_getElem? (i := 0) rfl)) (allS (Or.inl (List.mem_of_getElem? (i := 1) rfl)) (allS (Or.inl (List.mem_of_getElem? (i := 2) rfl)) all0))))
          exact ⟨T1558, _, _, X1558.mono (by decide) (by decide), rfl, o1569, K1589, kp1570, N1559, p1564, c1558⟩
         ·have c1571 : Kt p e below T1542 st0 (mkF m 236 #[vj j_, .second, vi f_, vi m_, vi n_, vi qa, vi qb, vj op, .second, vr b5, vr b33, vr b67, vi 1, vi 1, vi 1, vi 0, u_] [(rr b33), (rr b5)]) := fun t k => by
           refine c1555 t ?_
           show S_ p e below T1542 m 224 #[vj j_, .second, vi f_, vi m_, vi n_, vi qa, vi qb, vj op, .second, vr b5, vr b33, vr b67, vi 1, vi 1, vi 1, vi 0, u_] [(.int (f_ &&& (64 : Int32)))] t
           refine XS.ifNo X1542.here hx rfl (hb hby at_224) rfl ((if0 _ _).trans (feq hc1556).1) ?_
           refine XS.iload X1542.here hx rfl (hb hby at_227) rfl ?_
           refine XS.ifNo X1542.here hx rfl (hb hby at_229) rfl rfl ?_
           refine XS.aload X1542.here hx rfl (hb hby at_232) rfl rfl ?_
           refine XS.aload X1542.here hx rfl (hb hby at_234) rfl rfl ?_
           exact k
          obtain ⟨_, T1572, L1572, X1572, hQ1572, c1572⟩ := kvirt X1542 hx hZ72 hown72 (w116 hw) (w117 hw) (w119 hw) (w118 hw) (w120 hw) (w4 hw) (rm_rmSF l Z a0 hw [] b5 b33 b13 b14 b67 T1542.heap n0 o1553 ((f166.keep K1533).keep K1544) ((f181.keep K1533).keep K1544) ((f169.keep K1533 (ninS q167 (ninS q190 nin0))).keep K1544 (ninS q168 (ninS q190 (ninS q167 nin0)))) ((f170.keep K1533 (ninS q167 (ninS q190 nin0))).keep K1544 (ninS q168 (ninS q190 (ninS q167 nin0)))) g33 ((f171.keep K1533).keep K1544) g29 p1548 p1549 ((f189.keep K1533).keep K1544) g67 q182 p1550 p1551 p1552 p1545 p1546 p1547) rfl ((f166.keep K1533).keep K1544) c1571 hml pd_pLcom_example_lexchange_lexchange_Order_rV [(rr b33)] [] 0 (hb hby at_236) rfl rfl rfl rfl rfl rfl
          obtain ⟨rfl, N1573q, K1574, p1575, p1576, p1577, p1578, p1579, p1580, p1581, p1582⟩ := hQ1572
          have N1573 := Fr.app N1543 N1573q
          have o1583 := o1553.keep K1574 (allS g33 (allS g29 (allS g67 all0)))
          have kp1584 := kp1554.trans K1574 (allS (Or.inr z36) (allS (Or.inr z28) (allS (Or.inr z70) all0)))
          have c1585 : Kt p e below T1572 st0 (mkF m 278 #[vj j_, .second, vi f_, vi m_, vi n_, vi qa, vi qb, vj op, .second, vr b5, vr b33, vr b67, vi 1, vi 1, vi 1, vi 0, u_] []) := fun t k => by
           refine c1572 t ?_
           show S_ p e below T1572 m 239 #[vj j_, .second, vi f_, vi m_, vi n_, vi qa, vi qb, vj op, .second, vr b5, vr b33, vr b67, vi 1, vi 1, vi 1, vi 0, u_] [] t
           refine XS.iload X1572.here hx rfl (hb hby at_239) rfl ?_
           refine yI X1572.here hx rfl 241 278 rfl (hb hby at_241) rfl rfl ?_
           exact k
          have K1588 : Keep T1542.heap T1572.heap [b33, b13, b67] := ((Keep.refl _ _).trans K1574 (allS (Or.inl (List.mem_of_getElem? (i := 0) rfl)) (allS (Or.inl (List.mem_of_getElem? (i := 1) rfl)) (allS (Or.inl (List.mem_of_getElem? (i := 2) rfl)) all0))))
          exact ⟨T1572, _, _, X1572.mono (by decide) (by decide), rfl, o1583, K1588, kp1584, N1573, p1578, c1585⟩
        have f1590 := ((f169.keep K1533 (ninS q167 (ninS q190 nin0))).keep K1544 (ninS q168 (ninS q190 (ninS q167 nin0)))).keep K1586 (ninS q167 (ninS q190 (ninS q168 nin0)))
        have f1591 := ((f170.keep K1533 (ninS q167 (ninS q190 nin0))).keep K1544 (ninS q168 (ninS q190 (ninS q167 nin0)))).keep K1586 (ninS q167 (ninS q190 (ninS q168 nin0)))
        have c1592 : Kt p e below T1586 st0 (mkF m 315 #[vj j_, .second, vi f_, vi m_, vi n_, vi qa, vi qb, vj op, .second, vr b5, vr b33, vr b67, vi 1, vi 1, vi 1, vi 0, vi 1] [(rr b5)]) := fun t k => by
         refine c1586 t ?_
         show S_ p e below T1586 m 278 #[vj j_, .second, vi f_, vi m_, vi n_, vi qa, vi qb, vj op, .second, vr b5, vr b33, vr b67, vi 1, vi 1, vi 1, vi 0, u_] [] t
         refine XS.iconst X1586.here hx rfl (hb hby at_278) ?_
         refine XS.istore X1586.here hx rfl (hb hby at_279) rfl (l' := #[vj j_, .second, vi f_, vi m_, vi n_, vi qa, vi qb, vj op, .second, vr b5, vr b33, vr b67, vi 1, vi 1, vi 1, vi 0, vi 0]) rfl ?_
         refine XS.iload X1586.here hx rfl (hb hby at_281) rfl ?_
         refine XS.ifNo X1586.here hx rfl (hb hby at_283) rfl rfl ?_
         refine XS.iload X1586.here hx rfl (hb hby at_286) rfl ?_
         refine yI X1586.here hx rfl 288 297 rfl (hb hby at_288) rfl rfl ?_
         refine XS.iload X1586.here hx rfl (hb hby at_297) rfl ?_
         refine XS.ifNo X1586.here hx rfl (hb hby at_299) rfl rfl ?_
         show S_ p e below T1586 m 302 #[vj j_, .second, vi f_, vi m_, vi n_, vi qa, vi qb, vj op, .second, vr b5, vr b33, vr b67, vi 1, vi 1, vi 1, vi 0, vi 0] [] t
         refine XS.iload X1586.here hx rfl (hb hby at_302) rfl ?_
         refine XS.ifNo X1586.here hx rfl (hb hby at_304) rfl rfl ?_
         refine XS.iload X1586.here hx rfl (hb hby at_307) rfl ?_
         refine XS.iconst X1586.here hx rfl (hb hby at_309) ?_
         refine XS.iadd X1586.here hx rfl (hb hby at_310) rfl ?_
         refine XS.istore X1586.here hx rfl (hb hby at_311) rfl (l' := #[vj j_, .second, vi f_, vi m_, vi n_, vi qa, vi qb, vj op, .second, vr b5, vr b33, vr b67, vi 1, vi 1, vi 1, vi 0, vi 1]) rfl ?_
         refine XS.aload X1586.here hx rfl (hb hby at_313) rfl rfl ?_
         exact k
        obtain ⟨_, T1593, L1593, X1593, hQ1593, c1593⟩ := kvirt X1586 hx hZ72 hown72 (w87 hw) (w88 hw) (w90 hw) (w89 hw) (w91 hw) (w4 hw) (rm_emS l Z a0 hw [] b5 b13 b14 b67 h1586 n0 o1586 (((f166.keep K1533).keep K1544).keep K1586) f1590 f1591 f1587) e1586 (((f166.keep K1533).keep K1544).keep K1586) c1592 hml pd_prZ [] [] 0 (hb hby at_315) rfl rfl rfl rfl rfl rfl
        obtain ⟨rfl, N1594q, K1595⟩ := hQ1593
        have N1594 := Fr.app N1586 N1594q
        obtain ⟨fs, hr, hrun, hended, hRW⟩ := X1593.leaveW hS72 (by first | exact (Nat.le_trans hk72 (Nat.le_trans (Nat.le_trans (Nat.le_trans (Nat.le_trans (Nat.le_trans K91.1 K123.1) K156.1) K1533.1) K1544.1) K1586.1)) | (rw [K1595]; exact (Nat.le_trans hk72 (Nat.le_trans (Nat.le_trans (Nat.le_trans (Nat.le_trans (Nat.le_trans K91.1 K123.1) K156.1) K1533.1) K1544.1) K1586.1)))) (v := some (ii 1)) (fun h => by rw [Bd.returns] at h; cases h)
        refine ⟨_, _, c1593 _ ?_, hrun, hended, _, _, rfl, ?_, hRW.1, hRW.2.1, hRW.2.2.1, hRW.2.2.2.mono (by decide) (by decide)⟩
        ·show S_ p e below T1593 m 318 #[vj j_, .second, vi f_, vi m_, vi n_, vi qa, vi qb, vj op, .second, vr b5, vr b33, vr b67, vi 1, vi 1, vi 1, vi 0, vi 1] [(ii 0)] _
         refine XS.iload X1593.here hx rfl (hb hby at_318) rfl ?_
         refine yI X1593.here hx rfl 320 327 rfl (hb hby at_320) rfl rfl ?_
         refine XS.iconst X1593.here hx rfl (hb hby at_327) ?_
         refine XS.icmpNo X1593.here hx rfl (hb hby at_328) rfl rfl ?_
         refine XS.iconst X1593.here hx rfl (hb hby at_331) ?_
         refine yG X1593.here hx rfl 332 336 rfl (hb hby at_332) ?_
         show S_ p e below T1593 m 336 #[vj j_, .second, vi f_, vi m_, vi n_, vi qa, vi qb, vj op, .second, vr b5, vr b33, vr b67, vi 1, vi 1, vi 1, vi 0, vi 1] [(ii 1)] _
         exact retN X1593 hx (t := .boolean) Bd.returns (by simp) (hb hby at_336) hr
        ·show Q_law Z j_ f_ m_ n_ sa5_ sa9_ sa13_ sa17_ h0 n0 _ T1593.heap _
         rw [K1595]
         exact ⟨rfl, N1594, kp1586⟩
      ·have c1596 : Kt p e below T156 st0 (mkF m 166 #[vj j_, .second, vi f_, vi m_, vi n_, vi qa, vi qb, vj op, .second, vr b5, vr b33, vr b67, vi 1, vi 1, vi 1, vi 0, u_] [(.int (f_ &&& (128 : Int32)))]) := fun t k => by
        refine c1459 t ?_
        show S_ p e below T156 m 161 #[vj j_, .second, vi f_, vi m_, vi n_, vi qa, vi qb, vj op, .second, vr b5, vr b33, vr b67, vi 1, vi 1, vi 1, vi 0, u_] [] t
        refine XS.iloadN X156.here hx rfl (hb hby at_161) rfl ?_
        refine XS.sipush X156.here hx rfl (hb hby at_162) ?_
        refine XS.iand X156.here hx rfl (hb hby at_165) rfl ?_
        exact k
       obtain ⟨T1643, h1643, L1643, X1643, e1643, o1643, K1643, kp1643, N1643, f1644, f1645, f1646, f1647, f1648, f1649, f1650, f1651, f1652, f1653, c1643⟩ : ∃ (T1643 : State) (h1643 : Heap) (L1643 : List Loc), Stand p l e room_1 (s.setVm T72.vm) m #[(.long j_), (.int f_), (.int m_), (.int n_)] below meth c T1643 L1643 9 49 ∧ T1643.heap = h1643 ∧ Old Z n0 h1643 ∧ Keep h156 h1643 [b67, b14, b33, b13] ∧ Keep h0 h1643 [] ∧ Fr n0 L1643 ∧ Fld Z h1643 b13 nm2 "head" nm1 (rr b33) ∧ Fld Z h1643 b13 nm2 "tail" nm1 (rr b33) ∧ Fld Z h1643 b14 nm2 "head" nm1 (rr b67) ∧ Fld Z h1643 b14 nm2 "tail" nm1 (rr b67) ∧ Fld Z h1643 b33 nm0 "queue" nm4 (rr b5) ∧ Fld Z h1643 b33 nm0 "previous" nm1 .null ∧ Fld Z h1643 b33 nm0 "next" nm1 .null ∧ Fld Z h1643 b67 nm0 "queue" nm4 (rr b5) ∧ Fld Z h1643 b67 nm0 "previous" nm1 .null ∧ Fld Z h1643 b67 nm0 "next" nm1 .null ∧ Kt p e below T1643 st0 (mkF m 220 #[vj j_, .second, vi f_, vi m_, vi n_, vi qa, vi qb, vj op, .second, vr b5, vr b33, vr b67, vi 1, vi 1, vi 1, vi 0, u_] []) := by
        by_cases hc1597 : (f_ &&& (128 : Int32)) = (0 : Int32)
        ·have c1598 : Kt p e below T156 st0 (mkF m 205 #[vj j_, .second, vi f_, vi m_, vi n_, vi qa, vi qb, vj op, .second, vr b5, vr b33, vr b67, vi 1, vi 1, vi 1, vi 0, u_] [(rr b67), (rr b5)]) := fun t k => by
          refine c1596 t ?_
          show S_ p e below T156 m 166 #[vj j_, .second, vi f_, vi m_, vi n_, vi qa, vi qb, vj op, .second, vr b5, vr b33, vr b67, vi 1, vi 1, vi 1, vi 0, u_] [(.int (f_ &&& (128 : Int32)))] t
          refine yI X156.here hx rfl 166 196 rfl (hb hby at_166) rfl ((if0 _ _).trans (teq hc1597).1) ?_
          refine XS.iload X156.here hx rfl (hb hby at_196) rfl ?_
          refine XS.ifNo X156.here hx rfl (hb hby at_198) rfl rfl ?_
          refine XS.aload X156.here hx rfl (hb hby at_201) rfl rfl ?_
          refine XS.aload X156.here hx rfl (hb hby at_203) rfl rfl ?_
          exact k
         obtain ⟨_, T1599, L1599, X1599, hQ1599, c1599⟩ := kvirt X156 hx hZ72 hown72 (w94 hw) (w95 hw) (w97 hw) (w96 hw) (w98 hw) (w4 hw) (rm_addHN l Z a0 hw [] b5 b67 b13 b14 sa17_ mv155 h156 n0 o156 f166 f189 f169 f170 f157 f159 f160 f161 f162 g67 ZE7_ ZF8_ f172 g31 f179 f180 hc1461) e156 f166 c1598 hml pd_pLcom_example_lexchange_lexchange_Order_rV [(rr b67)] [] 0 (hb hby at_205) rfl rfl rfl rfl rfl rfl
         obtain ⟨rfl, N1600q, K1601, p1602, p1603, p1604, p1605, p1606⟩ := hQ1599
         have N1600 := Fr.app N156 N1600q
         have o1607 := o156.keep K1601 (allS g67 (allS g31 all0))
         have kp1608 := kp156.trans K1601 (allS (Or.inr z70) (allS (Or.inr z30) all0))
         have c1609 : Kt p e below T1599 st0 (mkF m 217 #[vj j_, .second, vi f_, vi m_, vi n_, vi qa, vi qb, vj op, .second, vr b5, vr b33, vr b67, vi 1, vi 1, vi 1, vi 0, u_] [(rr b33), (rr b5)]) := fun t k => by
          refine c1599 t ?_
          show S_ p e below T1599 m 208 #[vj j_, .second, vi f_, vi m_, vi n_, vi qa, vi qb, vj op, .second, vr b5, vr b33, vr b67, vi 1, vi 1, vi 1, vi 0, u_] [] t
          refine XS.iload X1599.here hx rfl (hb hby at_208) rfl ?_
          refine XS.ifNo X1599.here hx rfl (hb hby at_210) rfl rfl ?_
          refine XS.aload X1599.here hx rfl (hb hby at_213) rfl rfl ?_
          refine XS.aload X1599.here hx rfl (hb hby at_215) rfl rfl ?_
          exact k
         obtain ⟨_, T1610, L1610, X1610, hQ1610, c1610⟩ := kvirt X1599 hx hZ72 hown72 (w94 hw) (w95 hw) (w97 hw) (w96 hw) (w98 hw) (w4 hw) (rm_addSN l Z a0 hw [] b5 b33 b13 b14 sa17_ mv122 T1599.heap n0 o1607 (f166.keep K1601) (f181.keep K1601) (f169.keep K1601 (ninS q168 (ninS q191 nin0))) (f170.keep K1601 (ninS q168 (ninS q191 nin0))) (f183.keep K1601 (ninS q182 (ninS q177.symm nin0))) (f185.keep K1601 (ninS q182 (ninS q177.symm nin0))) (f186.keep K1601 (ninS q182 (ninS q177.symm nin0))) (f187.keep K1601 (ninS q182 (ninS q177.symm nin0))) (f188.keep K1601 (ninS q182 (ninS q177.symm nin0))) g33 ZE7_ ZF8_ (f171.keep K1601) g29 (f175.keep K1601 (ninS q174 (ninS p25 nin0))) (f176.keep K1601 (ninS q174 (ninS p25 nin0))) hc1460) rfl (f166.keep K1601) c1609 hml pd_pLcom_example_lexchange_lexchange_Order_rV [(rr b33)] [] 0 (hb hby at_217) rfl rfl rfl rfl rfl rfl
         obtain ⟨rfl, N1611q, K1612, p1613, p1614, p1615, p1616, p1617⟩ := hQ1610
         have N1611 := Fr.app N1600 N1611q
         have o1618 := o1607.keep K1612 (allS g33 (allS g29 all0))
         have kp1619 := kp1608.trans K1612 (allS (Or.inr z36) (allS (Or.inr z28) all0))
         have K1655 : Keep h156 T1610.heap [b67, b14, b33, b13] := (((Keep.refl _ _).trans K1601 (allS (Or.inl (List.mem_of_getElem? (i := 0) rfl)) (allS (Or.inl (List.mem_of_getElem? (i := 1) rfl)) all0))).trans K1612 (allS (Or.inl (List.mem_of_getElem? (i := 2) rfl)) (allS (Or.inl (List.mem_of_getElem? (i := 3) rfl)) all0)))
         exact ⟨T1610, _, _, X1610.mono (by decide) (by decide), rfl, o1618, K1655, kp1619, N1611, p1616, p1617, (p1605.keep K1612 (ninS q177 (ninS p25.symm nin0))), (p1606.keep K1612 (ninS q177 (ninS p25.symm nin0))), p1613, p1614, p1615, (p1602.keep K1612 (ninS q182.symm (ninS q174.symm nin0))), (p1603.keep K1612 (ninS q182.symm (ninS q174.symm nin0))), (p1604.keep K1612 (ninS q182.symm (ninS q174.symm nin0))), c1610⟩
        ·have c1620 : Kt p e below T156 st0 (mkF m 178 #[vj j_, .second, vi f_, vi m_, vi n_, vi qa, vi qb, vj op, .second, vr b5, vr b33, vr b67, vi 1, vi 1, vi 1, vi 0, u_] [(rr b33), (rr b5)]) := fun t k => by
          refine c1596 t ?_
          show S_ p e below T156 m 166 #[vj j_, .second, vi f_, vi m_, vi n_, vi qa, vi qb, vj op, .second, vr b5, vr b33, vr b67, vi 1, vi 1, vi 1, vi 0, u_] [(.int (f_ &&& (128 : Int32)))] t
          refine XS.ifNo X156.here hx rfl (hb hby at_166) rfl ((if0 _ _).trans (feq hc1597).1) ?_
          refine XS.iload X156.here hx rfl (hb hby at_169) rfl ?_
          refine XS.ifNo X156.here hx rfl (hb hby at_171) rfl rfl ?_
          refine XS.aload X156.here hx rfl (hb hby at_174) rfl rfl ?_
          refine XS.aload X156.here hx rfl (hb hby at_176) rfl rfl ?_
          exact k
         obtain ⟨_, T1621, L1621, X1621, hQ1621, c1621⟩ := kvirt X156 hx hZ72 hown72 (w94 hw) (w95 hw) (w97 hw) (w96 hw) (w98 hw) (w4 hw) (rm_addSN l Z a0 hw [] b5 b33 b13 b14 sa17_ mv122 h156 n0 o156 f166 f181 f169 f170 f183 f185 f186 f187 f188 g33 ZE7_ ZF8_ f171 g29 f175 f176 hc1460) e156 f166 c1620 hml pd_pLcom_example_lexchange_lexchange_Order_rV [(rr b33)] [] 0 (hb hby at_178) rfl rfl rfl rfl rfl rfl
         obtain ⟨rfl, N1622q, K1623, p1624, p1625, p1626, p1627, p1628⟩ := hQ1621
         have N1622 := Fr.app N156 N1622q
         have o1629 := o156.keep K1623 (allS g33 (allS g29 all0))
         have kp1630 := kp156.trans K1623 (allS (Or.inr z36) (allS (Or.inr z28) all0))
         have c1631 : Kt p e below T1621 st0 (mkF m 190 #[vj j_, .second, vi f_, vi m_, vi n_, vi qa, vi qb, vj op, .second, vr b5, vr b33, vr b67, vi 1, vi 1, vi 1, vi 0, u_] [(rr b67), (rr b5)]) := fun t k => by
          refine c1621 t ?_
          show S_ p e below T1621 m 181 #[vj j_, .second, vi f_, vi m_, vi n_, vi qa, vi qb, vj op, .second, vr b5, vr b33, vr b67, vi 1, vi 1, vi 1, vi 0, u_] [] t
          refine XS.iload X1621.here hx rfl (hb hby at_181) rfl ?_
          refine XS.ifNo X1621.here hx rfl (hb hby at_183) rfl rfl ?_
          refine XS.aload X1621.here hx rfl (hb hby at_186) rfl rfl ?_
          refine XS.aload X1621.here hx rfl (hb hby at_188) rfl rfl ?_
          exact k
         obtain ⟨_, T1632, L1632, X1632, hQ1632, c1632⟩ := kvirt X1621 hx hZ72 hown72 (w94 hw) (w95 hw) (w97 hw) (w96 hw) (w98 hw) (w4 hw) (rm_addHN l Z a0 hw [] b5 b67 b13 b14 sa17_ mv155 T1621.heap n0 o1629 (f166.keep K1623) (f189.keep K1623) (f169.keep K1623 (ninS q167 (ninS q190 nin0))) (f170.keep K1623 (ninS q167 (ninS q190 nin0))) (f157.keep K1623 (ninS q182.symm (ninS q174.symm nin0))) (f159.keep K1623 (ninS q182.symm (ninS q174.symm nin0))) (f160.keep K1623 (ninS q182.symm (ninS q174.symm nin0))) (f161.keep K1623 (ninS q182.symm (ninS q174.symm nin0))) (f162.keep K1623 (ninS q182.symm (ninS q174.symm nin0))) g67 ZE7_ ZF8_ (f172.keep K1623) g31 (f179.keep K1623 (ninS q177 (ninS p25.symm nin0))) (f180.keep K1623 (ninS q177 (ninS p25.symm nin0))) hc1461) rfl (f166.keep K1623) c1631 hml pd_pLcom_example_lexchange_lexchange_Order_rV [(rr b67)] [] 0 (hb hby at_190) rfl rfl rfl rfl rfl rfl
         obtain ⟨rfl, N1633q, K1634, p1635, p1636, p1637, p1638, p1639⟩ := hQ1632
         have N1633 := Fr.app N1622 N1633q
         have o1640 := o1629.keep K1634 (allS g67 (allS g31 all0))
         have kp1641 := kp1630.trans K1634 (allS (Or.inr z70) (allS (Or.inr z30) all0))
         have c1642 : Kt p e below T1632 st0 (mkF m 220 #[vj j_, .second, vi f_, vi m_, vi n_, vi qa, vi qb, vj op, .second, vr b5, vr b33, vr b67, vi 1, vi 1, vi 1, vi 0, u_] []) := fun t k => by
          refine c1632 t ?_
          show S_ p e below T1632 m 193 #[vj j_, .second, vi f_, vi m_, vi n_, vi qa, vi qb, vj op, .second, vr b5, vr b33, vr b67, vi 1, vi 1, vi 1, vi 0, u_] [] t
          refine yG X1632.here hx rfl 193 220 rfl (hb hby at_193) ?_
          exact k
         have K1654 : Keep h156 T1632.heap [b67, b14, b33, b13] := (((Keep.refl _ _).trans K1623 (allS (Or.inl (List.mem_of_getElem? (i := 2) rfl)) (allS (Or.inl (List.mem_of_getElem? (i := 3) rfl)) all0))).trans K1634 (allS (Or.inl (List.mem_of_getElem? (i := 0) rfl)) (allS (Or.inl (List.mem_of_getElem? (i := 1) rfl)) all0)))
         exact ⟨T1632, _, _, X1632.mono (by decide) (by decide), rfl, o1640, K1654, kp1641, N1633, (p1627.keep K1634 (ninS q174 (ninS p25 nin0))), (p1628.keep K1634 (ninS q174 (ninS p25 nin0))), p1638, p1639, (p1624.keep K1634 (ninS q182 (ninS q177.symm nin0))), (p1625.keep K1634 (ninS q182 (ninS q177.symm nin0))), (p1626.keep K1634 (ninS q182 (ninS q177.symm nin0))), p1635, p1636, p1637, c1642⟩
       have c1656 : Kt p e below T1643 st0 (mkF m 224 #[vj j_, .second, vi f_, vi m_, vi n_, vi qa, vi qb, vj op, .second, vr b5, vr b33, vr b67, vi 1, vi 1, vi 1, vi 0, u_] [(.int (f_ &&& (64 : Int32)))]) := fun t k => by
        refine c1643 t ?_
        show S_ p e below T1643 m 220 #[vj j_, .second, vi f_, vi m_, vi n_, vi qa, vi qb, vj op, .second, vr b5, vr b33, vr b67, vi 1, vi 1, vi 1, vi 0, u_] [] t
        refine XS.iloadN X1643.here hx rfl (hb hby at_220) rfl ?_
        refine XS.bipush X1643.here hx rfl (hb hby at_221) ?_
        refine XS.iand X1643.here hx rfl (hb hby at_223) rfl ?_
        exact k
       obtain ⟨T1681, h1681, L1681, X1681, e1681, o1681, K1681, kp1681, N1681, f1682, c1681⟩ : ∃ (T1681 : State) (h1681 : Heap) (L1681 : List Loc), Stand p l e room_1 (s.setVm T72.vm) m #[(.long j_), (.int f_), (.int m_), (.int n_)] below meth c T1681 L1681 9 49 ∧ T1681.heap = h1681 ∧ Old Z n0 h1681 ∧ Keep h1643 h1681 [b33, b13] ∧ Keep h0 h1681 [] ∧ Fr n0 L1681 ∧ Fld Z h1681 b13 nm2 "head" nm1 .null ∧ Kt p e below T1681 st0 (mkF m 278 #[vj j_, .second, vi f_, vi m_, vi n_, vi qa, vi qb, vj op, .second, vr b5, vr b33, vr b67, vi 1, vi 1, vi 1, vi 0, u_] []) := by
        by_cases hc1657 : (f_ &&& (64 : Int32)) = (0 : Int32)
        ·have c1658 : Kt p e below T1643 st0 (mkF m 275 #[vj j_, .second, vi f_, vi m_, vi n_, vi qa, vi qb, vj op, .second, vr b5, vr b33, vr b67, vi 1, vi 1, vi 1, vi 0, u_] [(rr b33), (rr b5)]) := fun t k => by
          refine c1656 t ?_
          show S_ p e below T1643 m 224 #[vj j_, .second, vi f_, vi m_, vi n_, vi qa, vi qb, vj op, .second, vr b5, vr b33, vr b67, vi 1, vi 1, vi 1, vi 0, u_] [(.int (f_ &&& (64 : Int32)))] t
          refine yI X1643.here hx rfl 224 254 rfl (hb hby at_224) rfl ((if0 _ _).trans (teq hc1657).1) ?_
          refine XS.iload X1643.here hx rfl (hb hby at_254) rfl ?_
          refine yI X1643.here hx rfl 256 266 rfl (hb hby at_256) rfl rfl ?_
          refine XS.iload X1643.here hx rfl (hb hby at_266) rfl ?_
          refine XS.ifNo X1643.here hx rfl (hb hby at_268) rfl rfl ?_
          refine XS.aload X1643.here hx rfl (hb hby at_271) rfl rfl ?_
          refine XS.aload X1643.here hx rfl (hb hby at_273) rfl rfl ?_
          exact k
         obtain ⟨_, T1659, L1659, X1659, hQ1659, c1659⟩ := kvirt X1643 hx hZ72 hown72 (w116 hw) (w117 hw) (w119 hw) (w118 hw) (w120 hw) (w4 hw) (rm_rmS1 l Z a0 hw [] b5 b33 b13 b14 h1643 n0 o1643 (f166.keep K1643) (f181.keep K1643) (f169.keep K1643 (ninS q168 (ninS q191 (ninS q167 (ninS q190 nin0))))) (f170.keep K1643 (ninS q168 (ninS q191 (ninS q167 (ninS q190 nin0))))) g33 (f171.keep K1643) g29 f1644 f1645 f1648 f1649 f1650) e1643 (f166.keep K1643) c1658 hml pd_pLcom_example_lexchange_lexchange_Order_rV [(rr b33)] [] 0 (hb hby at_275) rfl rfl rfl rfl rfl rfl
         obtain ⟨rfl, N1660q, K1661, p1662, p1663, p1664, p1665, p1666⟩ := hQ1659
         have N1660 := Fr.app N1643 N1660q
         have o1667 := o1643.keep K1661 (allS g33 (allS g29 all0))
         have kp1668 := kp1643.trans K1661 (allS (Or.inr z36) (allS (Or.inr z28) all0))
         have K1684 : Keep h1643 T1659.heap [b33, b13] := ((Keep.refl _ _).trans K1661 (allS (Or.inl (List.mem_of_getElem? (i := 0) rfl)) (allS (Or.inl (List.mem_of_getElem? (i := 1) rfl)) all0)))
         exact ⟨T1659, _, _, X1659.mono (by decide) (by decide), rfl, o1667, K1684, kp1668, N1660, p1665, c1659⟩
        ·have c1669 : Kt p e below T1643 st0 (mkF m 236 #[vj j_, .second, vi f_, vi m_, vi n_, vi qa, vi qb, vj op, .second, vr b5, vr b33, vr b67, vi 1, vi 1, vi 1, vi 0, u_] [(rr b33), (rr b5)]) := fun t k => by
          refine c1656 t ?_
          show S_ p e below T1643 m 224 #[vj j_, .second, vi f_, vi m_, vi n_, vi qa, vi qb, vj op, .second, vr b5, vr b33, vr b67, vi 1, vi 1, vi 1, vi 0, u_] [(.int (f_ &&& (64 : Int32)))] t
          refine XS.ifNo X1643.here hx rfl (hb hby at_224) rfl ((if0 _ _).trans (feq hc1657).1) ?_
          refine XS.iload X1643.here hx rfl (hb hby at_227) rfl ?_
          refine XS.ifNo X1643.here hx rfl (hb hby at_229) rfl rfl ?_
          refine XS.aload X1643.here hx rfl (hb hby at_232) rfl rfl ?_
          refine XS.aload X1643.here hx rfl (hb hby at_234) rfl rfl ?_
          exact k
         obtain ⟨_, T1670, L1670, X1670, hQ1670, c1670⟩ := kvirt X1643 hx hZ72 hown72 (w116 hw) (w117 hw) (w119 hw) (w118 hw) (w120 hw) (w4 hw) (rm_rmS1 l Z a0 hw [] b5 b33 b13 b14 h1643 n0 o1643 (f166.keep K1643) (f181.keep K1643) (f169.keep K1643 (ninS q168 (ninS q191 (ninS q167 (ninS q190 nin0))))) (f170.keep K1643 (ninS q168 (ninS q191 (ninS q167 (ninS q190 nin0))))) g33 (f171.keep K1643) g29 f1644 f1645 f1648 f1649 f1650) e1643 (f166.keep K1643) c1669 hml pd_pLcom_example_lexchange_lexchange_Order_rV [(rr b33)] [] 0 (hb hby at_236) rfl rfl rfl rfl rfl rfl
         obtain ⟨rfl, N1671q, K1672, p1673, p1674, p1675, p1676, p1677⟩ := hQ1670
         have N1671 := Fr.app N1643 N1671q
         have o1678 := o1643.keep K1672 (allS g33 (allS g29 all0))
         have kp1679 := kp1643.trans K1672 (allS (Or.inr z36) (allS (Or.inr z28) all0))
         have c1680 : Kt p e below T1670 st0 (mkF m 278 #[vj j_, .second, vi f_, vi m_, vi n_, vi qa, vi qb, vj op, .second, vr b5, vr b33, vr b67, vi 1, vi 1, vi 1, vi 0, u_] []) := fun t k => by
          refine c1670 t ?_
          show S_ p e below T1670 m 239 #[vj j_, .second, vi f_, vi m_, vi n_, vi qa, vi qb, vj op, .second, vr b5, vr b33, vr b67, vi 1, vi 1, vi 1, vi 0, u_] [] t
          refine XS.iload X1670.here hx rfl (hb hby at_239) rfl ?_
          refine yI X1670.here hx rfl 241 278 rfl (hb hby at_241) rfl rfl ?_
          exact k
         have K1683 : Keep h1643 T1670.heap [b33, b13] := ((Keep.refl _ _).trans K1672 (allS (Or.inl (List.mem_of_getElem? (i := 0) rfl)) (allS (Or.inl (List.mem_of_getElem? (i := 1) rfl)) all0)))
         exact ⟨T1670, _, _, X1670.mono (by decide) (by decide), rfl, o1678, K1683, kp1679, N1671, p1676, c1680⟩
       have f1685 := (f169.keep K1643 (ninS q168 (ninS q191 (ninS q167 (ninS q190 nin0))))).keep K1681 (ninS q167 (ninS q190 nin0))
       have f1686 := (f170.keep K1643 (ninS q168 (ninS q191 (ninS q167 (ninS q190 nin0))))).keep K1681 (ninS q167 (ninS q190 nin0))
       have c1687 : Kt p e below T1681 st0 (mkF m 315 #[vj j_, .second, vi f_, vi m_, vi n_, vi qa, vi qb, vj op, .second, vr b5, vr b33, vr b67, vi 1, vi 1, vi 1, vi 0, vi 1] [(rr b5)]) := fun t k => by
        refine c1681 t ?_
        show S_ p e below T1681 m 278 #[vj j_, .second, vi f_, vi m_, vi n_, vi qa, vi qb, vj op, .second, vr b5, vr b33, vr b67, vi 1, vi 1, vi 1, vi 0, u_] [] t
        refine XS.iconst X1681.here hx rfl (hb hby at_278) ?_
        refine XS.istore X1681.here hx rfl (hb hby at_279) rfl (l' := #[vj j_, .second, vi f_, vi m_, vi n_, vi qa, vi qb, vj op, .second, vr b5, vr b33, vr b67, vi 1, vi 1, vi 1, vi 0, vi 0]) rfl ?_
        refine XS.iload X1681.here hx rfl (hb hby at_281) rfl ?_
        refine XS.ifNo X1681.here hx rfl (hb hby at_283) rfl rfl ?_
        refine XS.iload X1681.here hx rfl (hb hby at_286) rfl ?_
        refine yI X1681.here hx rfl 288 297 rfl (hb hby at_288) rfl rfl ?_
        refine XS.iload X1681.here hx rfl (hb hby at_297) rfl ?_
        refine XS.ifNo X1681.here hx rfl (hb hby at_299) rfl rfl ?_
        show S_ p e below T1681 m 302 #[vj j_, .second, vi f_, vi m_, vi n_, vi qa, vi qb, vj op, .second, vr b5, vr b33, vr b67, vi 1, vi 1, vi 1, vi 0, vi 0] [] t
        refine XS.iload X1681.here hx rfl (hb hby at_302) rfl ?_
        refine XS.ifNo X1681.here hx rfl (hb hby at_304) rfl rfl ?_
        refine XS.iload X1681.here hx rfl (hb hby at_307) rfl ?_
        refine XS.iconst X1681.here hx rfl (hb hby at_309) ?_
        refine XS.iadd X1681.here hx rfl (hb hby at_310) rfl ?_
        refine XS.istore X1681.here hx rfl (hb hby at_311) rfl (l' := #[vj j_, .second, vi f_, vi m_, vi n_, vi qa, vi qb, vj op, .second, vr b5, vr b33, vr b67, vi 1, vi 1, vi 1, vi 0, vi 1]) rfl ?_
        refine XS.aload X1681.here hx rfl (hb hby at_313) rfl rfl ?_
        exact k
       obtain ⟨_, T1688, L1688, X1688, hQ1688, c1688⟩ := kvirt X1681 hx hZ72 hown72 (w87 hw) (w88 hw) (w90 hw) (w89 hw) (w91 hw) (w4 hw) (rm_emH l Z a0 hw [] b5 b13 b14 b67 h1681 n0 o1681 ((f166.keep K1643).keep K1681) f1685 f1686 f1682 (f1646.keep K1681 (ninS q177 (ninS p25.symm nin0)))) e1681 ((f166.keep K1643).keep K1681) c1687 hml pd_prZ [] [] 0 (hb hby at_315) rfl rfl rfl rfl rfl rfl
       obtain ⟨rfl, N1689q, K1690⟩ := hQ1688
       have N1689 := Fr.app N1681 N1689q
       obtain ⟨fs, hr, hrun, hended, hRW⟩ := X1688.leaveW hS72 (by first | exact (Nat.le_trans hk72 (Nat.le_trans (Nat.le_trans (Nat.le_trans (Nat.le_trans K91.1 K123.1) K156.1) K1643.1) K1681.1)) | (rw [K1690]; exact (Nat.le_trans hk72 (Nat.le_trans (Nat.le_trans (Nat.le_trans (Nat.le_trans K91.1 K123.1) K156.1) K1643.1) K1681.1)))) (v := some (ii 1)) (fun h => by rw [Bd.returns] at h; cases h)
       refine ⟨_, _, c1688 _ ?_, hrun, hended, _, _, rfl, ?_, hRW.1, hRW.2.1, hRW.2.2.1, hRW.2.2.2.mono (by decide) (by decide)⟩
       ·show S_ p e below T1688 m 318 #[vj j_, .second, vi f_, vi m_, vi n_, vi qa, vi qb, vj op, .second, vr b5, vr b33, vr b67, vi 1, vi 1, vi 1, vi 0, vi 1] [(ii 0)] _
        refine XS.iload X1688.here hx rfl (hb hby at_318) rfl ?_
        refine yI X1688.here hx rfl 320 327 rfl (hb hby at_320) rfl rfl ?_
        refine XS.iconst X1688.here hx rfl (hb hby at_327) ?_
        refine XS.icmpNo X1688.here hx rfl (hb hby at_328) rfl rfl ?_
        refine XS.iconst X1688.here hx rfl (hb hby at_331) ?_
        refine yG X1688.here hx rfl 332 336 rfl (hb hby at_332) ?_
        show S_ p e below T1688 m 336 #[vj j_, .second, vi f_, vi m_, vi n_, vi qa, vi qb, vj op, .second, vr b5, vr b33, vr b67, vi 1, vi 1, vi 1, vi 0, vi 1] [(ii 1)] _
        exact retN X1688 hx (t := .boolean) Bd.returns (by simp) (hb hby at_336) hr
       ·show Q_law Z j_ f_ m_ n_ sa5_ sa9_ sa13_ sa17_ h0 n0 _ T1688.heap _
        rw [K1690]
        exact ⟨rfl, N1689, kp1681⟩
     ·by_cases hc1691 : (0 : Int32) < mv155
      ·have c1692 : Kt p e below T156 st0 (mkF m 166 #[vj j_, .second, vi f_, vi m_, vi n_, vi qa, vi qb, vj op, .second, vr b5, vr b33, vr b67, vi 1, vi 1, vi 1, vi 0, u_] [(.int (f_ &&& (128 : Int32)))]) := fun t k => by
        refine c1459 t ?_
        show S_ p e below T156 m 161 #[vj j_, .second, vi f_, vi m_, vi n_, vi qa, vi qb, vj op, .second, vr b5, vr b33, vr b67, vi 1, vi 1, vi 1, vi 0, u_] [] t
        refine XS.iloadN X156.here hx rfl (hb hby at_161) rfl ?_
        refine XS.sipush X156.here hx rfl (hb hby at_162) ?_
        refine XS.iand X156.here hx rfl (hb hby at_165) rfl ?_
        exact k
       obtain ⟨T1739, h1739, L1739, X1739, e1739, o1739, K1739, kp1739, N1739, f1740, f1741, f1742, f1743, f1744, f1745, f1746, f1747, f1748, f1749, c1739⟩ : ∃ (T1739 : State) (h1739 : Heap) (L1739 : List Loc), Stand p l e room_1 (s.setVm T72.vm) m #[(.long j_), (.int f_), (.int m_), (.int n_)] below meth c T1739 L1739 9 49 ∧ T1739.heap = h1739 ∧ Old Z n0 h1739 ∧ Keep h156 h1739 [b67, b13, b33, b14] ∧ Keep h0 h1739 [] ∧ Fr n0 L1739 ∧ Fld Z h1739 b13 nm2 "head" nm1 (rr b67) ∧ Fld Z h1739 b13 nm2 "tail" nm1 (rr b67) ∧ Fld Z h1739 b14 nm2 "head" nm1 (rr b33) ∧ Fld Z h1739 b14 nm2 "tail" nm1 (rr b33) ∧ Fld Z h1739 b33 nm0 "queue" nm4 (rr b5) ∧ Fld Z h1739 b33 nm0 "previous" nm1 .null ∧ Fld Z h1739 b33 nm0 "next" nm1 .null ∧ Fld Z h1739 b67 nm0 "queue" nm4 (rr b5) ∧ Fld Z h1739 b67 nm0 "previous" nm1 .null ∧ Fld Z h1739 b67 nm0 "next" nm1 .null ∧ Kt p e below T1739 st0 (mkF m 220 #[vj j_, .second, vi f_, vi m_, vi n_, vi qa, vi qb, vj op, .second, vr b5, vr b33, vr b67, vi 1, vi 1, vi 1, vi 0, u_] []) := by
        by_cases hc1693 : (f_ &&& (128 : Int32)) = (0 : Int32)
        ·have c1694 : Kt p e below T156 st0 (mkF m 205 #[vj j_, .second, vi f_, vi m_, vi n_, vi qa, vi qb, vj op, .second, vr b5, vr b33, vr b67, vi 1, vi 1, vi 1, vi 0, u_] [(rr b67), (rr b5)]) := fun t k => by
          refine c1692 t ?_
          show S_ p e below T156 m 166 #[vj j_, .second, vi f_, vi m_, vi n_, vi qa, vi qb, vj op, .second, vr b5, vr b33, vr b67, vi 1, vi 1, vi 1, vi 0, u_] [(.int (f_ &&& (128 : Int32)))] t
          refine yI X156.here hx rfl 166 196 rfl (hb hby at_166) rfl ((if0 _ _).trans (teq hc1693).1) ?_
          refine XS.iload X156.here hx rfl (hb hby at_196) rfl ?_
          refine XS.ifNo X156.here hx rfl (hb hby at_198) rfl rfl ?_
          refine XS.aload X156.here hx rfl (hb hby at_201) rfl rfl ?_
          refine XS.aload X156.here hx rfl (hb hby at_203) rfl rfl ?_
          exact k
         obtain ⟨_, T1695, L1695, X1695, hQ1695, c1695⟩ := kvirt X156 hx hZ72 hown72 (w94 hw) (w95 hw) (w97 hw) (w96 hw) (w98 hw) (w4 hw) (rm_addSN l Z a0 hw [] b5 b67 b13 b14 sa17_ mv155 h156 n0 o156 f166 f189 f169 f170 f157 f159 f160 f161 f162 g67 ZE7_ ZF8_ f171 g29 f175 f176 hc1691) e156 f166 c1694 hml pd_pLcom_example_lexchange_lexchange_Order_rV [(rr b67)] [] 0 (hb hby at_205) rfl rfl rfl rfl rfl rfl
         obtain ⟨rfl, N1696q, K1697, p1698, p1699, p1700, p1701, p1702⟩ := hQ1695
         have N1696 := Fr.app N156 N1696q
         have o1703 := o156.keep K1697 (allS g67 (allS g29 all0))
         have kp1704 := kp156.trans K1697 (allS (Or.inr z70) (allS (Or.inr z28) all0))
         have c1705 : Kt p e below T1695 st0 (mkF m 217 #[vj j_, .second, vi f_, vi m_, vi n_, vi qa, vi qb, vj op, .second, vr b5, vr b33, vr b67, vi 1, vi 1, vi 1, vi 0, u_] [(rr b33), (rr b5)]) := fun t k => by
          refine c1695 t ?_
          show S_ p e below T1695 m 208 #[vj j_, .second, vi f_, vi m_, vi n_, vi qa, vi qb, vj op, .second, vr b5, vr b33, vr b67, vi 1, vi 1, vi 1, vi 0, u_] [] t
          refine XS.iload X1695.here hx rfl (hb hby at_208) rfl ?_
          refine XS.ifNo X1695.here hx rfl (hb hby at_210) rfl rfl ?_
          refine XS.aload X1695.here hx rfl (hb hby at_213) rfl rfl ?_
          refine XS.aload X1695.here hx rfl (hb hby at_215) rfl rfl ?_
          exact k
         obtain ⟨_, T1706, L1706, X1706, hQ1706, c1706⟩ := kvirt X1695 hx hZ72 hown72 (w94 hw) (w95 hw) (w97 hw) (w96 hw) (w98 hw) (w4 hw) (rm_addHN l Z a0 hw [] b5 b33 b13 b14 sa17_ mv122 T1695.heap n0 o1703 (f166.keep K1697) (f181.keep K1697) (f169.keep K1697 (ninS q168 (ninS q190 nin0))) (f170.keep K1697 (ninS q168 (ninS q190 nin0))) (f183.keep K1697 (ninS q182 (ninS q173.symm nin0))) (f185.keep K1697 (ninS q182 (ninS q173.symm nin0))) (f186.keep K1697 (ninS q182 (ninS q173.symm nin0))) (f187.keep K1697 (ninS q182 (ninS q173.symm nin0))) (f188.keep K1697 (ninS q182 (ninS q173.symm nin0))) g33 ZE7_ ZF8_ (f172.keep K1697) g31 (f179.keep K1697 (ninS q178 (ninS p25.symm nin0))) (f180.keep K1697 (ninS q178 (ninS p25.symm nin0))) hc1460) rfl (f166.keep K1697) c1705 hml pd_pLcom_example_lexchange_lexchange_Order_rV [(rr b33)] [] 0 (hb hby at_217) rfl rfl rfl rfl rfl rfl
         obtain ⟨rfl, N1707q, K1708, p1709, p1710, p1711, p1712, p1713⟩ := hQ1706
         have N1707 := Fr.app N1696 N1707q
         have o1714 := o1703.keep K1708 (allS g33 (allS g31 all0))
         have kp1715 := kp1704.trans K1708 (allS (Or.inr z36) (allS (Or.inr z30) all0))
         have K1751 : Keep h156 T1706.heap [b67, b13, b33, b14] := (((Keep.refl _ _).trans K1697 (allS (Or.inl (List.mem_of_getElem? (i := 0) rfl)) (allS (Or.inl (List.mem_of_getElem? (i := 1) rfl)) all0))).trans K1708 (allS (Or.inl (List.mem_of_getElem? (i := 2) rfl)) (allS (Or.inl (List.mem_of_getElem? (i := 3) rfl)) all0)))
         exact ⟨T1706, _, _, X1706.mono (by decide) (by decide), rfl, o1714, K1751, kp1715, N1707, (p1701.keep K1708 (ninS q173 (ninS p25 nin0))), (p1702.keep K1708 (ninS q173 (ninS p25 nin0))), p1712, p1713, p1709, p1710, p1711, (p1698.keep K1708 (ninS q182.symm (ninS q178.symm nin0))), (p1699.keep K1708 (ninS q182.symm (ninS q178.symm nin0))), (p1700.keep K1708 (ninS q182.symm (ninS q178.symm nin0))), c1706⟩
        ·have c1716 : Kt p e below T156 st0 (mkF m 178 #[vj j_, .second, vi f_, vi m_, vi n_, vi qa, vi qb, vj op, .second, vr b5, vr b33, vr b67, vi 1, vi 1, vi 1, vi 0, u_] [(rr b33), (rr b5)]) := fun t k => by
          refine c1692 t ?_
          show S_ p e below T156 m 166 #[vj j_, .second, vi f_, vi m_, vi n_, vi qa, vi qb, vj op, .second, vr b5, vr b33, vr b67, vi 1, vi 1, vi 1, vi 0, u_] [(.int (f_ &&& (128 : Int32)))] t
          refine XS.ifNo X156.here hx rfl (hb hby at_166) rfl ((if0 _ _).trans (feq hc1693).1) ?_
          refine XS.iload X156.here hx rfl (hb hby at_169) rfl ?_
          refine XS.ifNo X156.here hx rfl (hb hby at_171) rfl rfl ?_
          refine XS.aload X156.here hx rfl (hb hby at_174) rfl rfl ?_
          refine XS.aload X156.here hx rfl (hb hby at_176) rfl rfl ?_
          exact k
         obtain ⟨_, T1717, L1717, X1717, hQ1717, c1717⟩ := kvirt X156 hx hZ72 hown72 (w94 hw) (w95 hw) (w97 hw) (w96 hw) (w98 hw) (w4 hw) (rm_addHN l Z a0 hw [] b5 b33 b13 b14 sa17_ mv122 h156 n0 o156 f166 f181 f169 f170 f183 f185 f186 f187 f188 g33 ZE7_ ZF8_ f172 g31 f179 f180 hc1460) e156 f166 c1716 hml pd_pLcom_example_lexchange_lexchange_Order_rV [(rr b33)] [] 0 (hb hby at_178) rfl rfl rfl rfl rfl rfl
         obtain ⟨rfl, N1718q, K1719, p1720, p1721, p1722, p1723, p1724⟩ := hQ1717
         have N1718 := Fr.app N156 N1718q
         have o1725 := o156.keep K1719 (allS g33 (allS g31 all0))
         have kp1726 := kp156.trans K1719 (allS (Or.inr z36) (allS (Or.inr z30) all0))
         have c1727 : Kt p e below T1717 st0 (mkF m 190 #[vj j_, .second, vi f_, vi m_, vi n_, vi qa, vi qb, vj op, .second, vr b5, vr b33, vr b67, vi 1, vi 1, vi 1, vi 0, u_] [(rr b67), (rr b5)]) := fun t k => by
          refine c1717 t ?_
          show S_ p e below T1717 m 181 #[vj j_, .second, vi f_, vi m_, vi n_, vi qa, vi qb, vj op, .second, vr b5, vr b33, vr b67, vi 1, vi 1, vi 1, vi 0, u_] [] t
          refine XS.iload X1717.here hx rfl (hb hby at_181) rfl ?_
          refine XS.ifNo X1717.here hx rfl (hb hby at_183) rfl rfl ?_
          refine XS.aload X1717.here hx rfl (hb hby at_186) rfl rfl ?_
          refine XS.aload X1717.here hx rfl (hb hby at_188) rfl rfl ?_
          exact k
         obtain ⟨_, T1728, L1728, X1728, hQ1728, c1728⟩ := kvirt X1717 hx hZ72 hown72 (w94 hw) (w95 hw) (w97 hw) (w96 hw) (w98 hw) (w4 hw) (rm_addSN l Z a0 hw [] b5 b67 b13 b14 sa17_ mv155 T1717.heap n0 o1725 (f166.keep K1719) (f189.keep K1719) (f169.keep K1719 (ninS q167 (ninS q191 nin0))) (f170.keep K1719 (ninS q167 (ninS q191 nin0))) (f157.keep K1719 (ninS q182.symm (ninS q178.symm nin0))) (f159.keep K1719 (ninS q182.symm (ninS q178.symm nin0))) (f160.keep K1719 (ninS q182.symm (ninS q178.symm nin0))) (f161.keep K1719 (ninS q182.symm (ninS q178.symm nin0))) (f162.keep K1719 (ninS q182.symm (ninS q178.symm nin0))) g67 ZE7_ ZF8_ (f171.keep K1719) g29 (f175.keep K1719 (ninS q173 (ninS p25 nin0))) (f176.keep K1719 (ninS q173 (ninS p25 nin0))) hc1691) rfl (f166.keep K1719) c1727 hml pd_pLcom_example_lexchange_lexchange_Order_rV [(rr b67)] [] 0 (hb hby at_190) rfl rfl rfl rfl rfl rfl
         obtain ⟨rfl, N1729q, K1730, p1731, p1732, p1733, p1734, p1735⟩ := hQ1728
         have N1729 := Fr.app N1718 N1729q
         have o1736 := o1725.keep K1730 (allS g67 (allS g29 all0))
         have kp1737 := kp1726.trans K1730 (allS (Or.inr z70) (allS (Or.inr z28) all0))
         have c1738 : Kt p e below T1728 st0 (mkF m 220 #[vj j_, .second, vi f_, vi m_, vi n_, vi qa, vi qb, vj op, .second, vr b5, vr b33, vr b67, vi 1, vi 1, vi 1, vi 0, u_] []) := fun t k => by
          refine c1728 t ?_
          show S_ p e below T1728 m 193 #[vj j_, .second, vi f_, vi m_, vi n_, vi qa, vi qb, vj op, .second, vr b5, vr b33, vr b67, vi 1, vi 1, vi 1, vi 0, u_] [] t
          refine yG X1728.here hx rfl 193 220 rfl (hb hby at_193) ?_
          exact k
         have K1750 : Keep h156 T1728.heap [b67, b13, b33, b14] := (((Keep.refl _ _).trans K1719 (allS (Or.inl (List.mem_of_getElem? (i := 2) rfl)) (allS (Or.inl (List.mem_of_getElem? (i := 3) rfl)) all0))).trans K1730 (allS (Or.inl (List.mem_of_getElem? (i := 0) rfl)) (allS (Or.inl (List.mem_of_getElem? (i := 1) rfl)) all0)))
         exact ⟨T1728, _, _, X1728.mono (by decide) (by decide), rfl, o1736, K1750, kp1737, N1729, p1734, p1735, (p1723.keep K1730 (ninS q178 (ninS p25.symm nin0))), (p1724.keep K1730 (ninS q178 (ninS p25.symm nin0))), (p1720.keep K1730 (ninS q182 (ninS q173.symm nin0))), (p1721.keep K1730 (ninS q182 (ninS q173.symm nin0))), (p1722.keep K1730 (ninS q182 (ninS q173.symm nin0))), p1731, p1732, p1733, c1738⟩
       have c1752 : Kt p e below T1739 st0 (mkF m 224 #[vj j_, .second, vi f_, vi m_, vi n_, vi qa, vi qb, vj op, .second, vr b5, vr b33, vr b67, vi 1, vi 1, vi 1, vi 0, u_] [(.int (f_ &&& (64 : Int32)))]) := fun t k => by
        refine c1739 t ?_
        show S_ p e below T1739 m 220 #[vj j_, .second, vi f_, vi m_, vi n_, vi qa, vi qb, vj op, .second, vr b5, vr b33, vr b67, vi 1, vi 1, vi 1, vi 0, u_] [] t
        refine XS.iloadN X1739.here hx rfl (hb hby at_220) rfl ?_
        refine XS.bipush X1739.here hx rfl (hb hby at_221) ?_
        refine XS.iand X1739.here hx rfl (hb hby at_223) rfl ?_
        exact k
       obtain ⟨T1777, h1777, L1777, X1777, e1777, o1777, K1777, kp1777, N1777, f1778, c1777⟩ : ∃ (T1777 : State) (h1777 : Heap) (L1777 : List Loc), Stand p l e room_1 (s.setVm T72.vm) m #[(.long j_), (.int f_), (.int m_), (.int n_)] below meth c T1777 L1777 9 49 ∧ T1777.heap = h1777 ∧ Old Z n0 h1777 ∧ Keep h1739 h1777 [b33, b14] ∧ Keep h0 h1777 [] ∧ Fr n0 L1777 ∧ Fld Z h1777 b14 nm2 "head" nm1 .null ∧ Kt p e below T1777 st0 (mkF m 278 #[vj j_, .second, vi f_, vi m_, vi n_, vi qa, vi qb, vj op, .second, vr b5, vr b33, vr b67, vi 1, vi 1, vi 1, vi 0, u_] []) := by
        by_cases hc1753 : (f_ &&& (64 : Int32)) = (0 : Int32)
        ·have c1754 : Kt p e below T1739 st0 (mkF m 275 #[vj j_, .second, vi f_, vi m_, vi n_, vi qa, vi qb, vj op, .second, vr b5, vr b33, vr b67, vi 1, vi 1, vi 1, vi 0, u_] [(rr b33), (rr b5)]) := fun t k => by
          refine c1752 t ?_
          show S_ p e below T1739 m 224 #[vj j_, .second, vi f_, vi m_, vi n_, vi qa, vi qb, vj op, .second, vr b5, vr b33, vr b67, vi 1, vi 1, vi 1, vi 0, u_] [(.int (f_ &&& (64 : Int32)))] t
          refine yI X1739.here hx rfl 224 254 rfl (hb hby at_224) rfl ((if0 _ _).trans (teq hc1753).1) ?_
          refine XS.iload X1739.here hx rfl (hb hby at_254) rfl ?_
          refine yI X1739.here hx rfl 256 266 rfl (hb hby at_256) rfl rfl ?_
          refine XS.iload X1739.here hx rfl (hb hby at_266) rfl ?_
          refine XS.ifNo X1739.here hx rfl (hb hby at_268) rfl rfl ?_
          refine XS.aload X1739.here hx rfl (hb hby at_271) rfl rfl ?_
          refine XS.aload X1739.here hx rfl (hb hby at_273) rfl rfl ?_
          exact k
         obtain ⟨_, T1755, L1755, X1755, hQ1755, c1755⟩ := kvirt X1739 hx hZ72 hown72 (w116 hw) (w117 hw) (w119 hw) (w118 hw) (w120 hw) (w4 hw) (rm_rmH1r l Z a0 hw [] b5 b33 b13 b14 b67 h1739 n0 o1739 (f166.keep K1739) (f181.keep K1739) (f169.keep K1739 (ninS q168 (ninS q190 (ninS q167 (ninS q191 nin0))))) (f170.keep K1739 (ninS q168 (ninS q190 (ninS q167 (ninS q191 nin0))))) g33 (f172.keep K1739) g31 f1742 f1743 (f171.keep K1739) f1740 f1741 q182 f1744 f1745 f1746) e1739 (f166.keep K1739) c1754 hml pd_pLcom_example_lexchange_lexchange_Order_rV [(rr b33)] [] 0 (hb hby at_275) rfl rfl rfl rfl rfl rfl
         obtain ⟨rfl, N1756q, K1757, p1758, p1759, p1760, p1761, p1762⟩ := hQ1755
         have N1756 := Fr.app N1739 N1756q
         have o1763 := o1739.keep K1757 (allS g33 (allS g31 all0))
         have kp1764 := kp1739.trans K1757 (allS (Or.inr z36) (allS (Or.inr z30) all0))
         have K1780 : Keep h1739 T1755.heap [b33, b14] := ((Keep.refl _ _).trans K1757 (allS (Or.inl (List.mem_of_getElem? (i := 0) rfl)) (allS (Or.inl (List.mem_of_getElem? (i := 1) rfl)) all0)))
         exact ⟨T1755, _, _, X1755.mono (by decide) (by decide), rfl, o1763, K1780, kp1764, N1756, p1761, c1755⟩
        ·have c1765 : Kt p e below T1739 st0 (mkF m 236 #[vj j_, .second, vi f_, vi m_, vi n_, vi qa, vi qb, vj op, .second, vr b5, vr b33, vr b67, vi 1, vi 1, vi 1, vi 0, u_] [(rr b33), (rr b5)]) := fun t k => by
          refine c1752 t ?_
          show S_ p e below T1739 m 224 #[vj j_, .second, vi f_, vi m_, vi n_, vi qa, vi qb, vj op, .second, vr b5, vr b33, vr b67, vi 1, vi 1, vi 1, vi 0, u_] [(.int (f_ &&& (64 : Int32)))] t
          refine XS.ifNo X1739.here hx rfl (hb hby at_224) rfl ((if0 _ _).trans (feq hc1753).1) ?_
          refine XS.iload X1739.here hx rfl (hb hby at_227) rfl ?_
          refine XS.ifNo X1739.here hx rfl (hb hby at_229) rfl rfl ?_
          refine XS.aload X1739.here hx rfl (hb hby at_232) rfl rfl ?_
          refine XS.aload X1739.here hx rfl (hb hby at_234) rfl rfl ?_
          exact k
         obtain ⟨_, T1766, L1766, X1766, hQ1766, c1766⟩ := kvirt X1739 hx hZ72 hown72 (w116 hw) (w117 hw) (w119 hw) (w118 hw) (w120 hw) (w4 hw) (rm_rmH1r l Z a0 hw [] b5 b33 b13 b14 b67 h1739 n0 o1739 (f166.keep K1739) (f181.keep K1739) (f169.keep K1739 (ninS q168 (ninS q190 (ninS q167 (ninS q191 nin0))))) (f170.keep K1739 (ninS q168 (ninS q190 (ninS q167 (ninS q191 nin0))))) g33 (f172.keep K1739) g31 f1742 f1743 (f171.keep K1739) f1740 f1741 q182 f1744 f1745 f1746) e1739 (f166.keep K1739) c1765 hml pd_pLcom_example_lexchange_lexchange_Order_rV [(rr b33)] [] 0 (hb hby at_236) rfl rfl rfl rfl rfl rfl
         obtain ⟨rfl, N1767q, K1768, p1769, p1770, p1771, p1772, p1773⟩ := hQ1766
         have N1767 := Fr.app N1739 N1767q
         have o1774 := o1739.keep K1768 (allS g33 (allS g31 all0))
         have kp1775 := kp1739.trans K1768 (allS (Or.inr z36) (allS (Or.inr z30) all0))
         have c1776 : Kt p e below T1766 st0 (mkF m 278 #[vj j_, .second, vi f_, vi m_, vi n_, vi qa, vi qb, vj op, .second, vr b5, vr b33, vr b67, vi 1, vi 1, vi 1, vi 0, u_] []) := fun t k => by
          refine c1766 t ?_
          show S_ p e below T1766 m 239 #[vj j_, .second, vi f_, vi m_, vi n_, vi qa, vi qb, vj op, .second, vr b5, vr b33, vr b67, vi 1, vi 1, vi 1, vi 0, u_] [] t
          refine XS.iload X1766.here hx rfl (hb hby at_239) rfl ?_
          refine yI X1766.here hx rfl 241 278 rfl (hb hby at_241) rfl rfl ?_
          exact k
         have K1779 : Keep h1739 T1766.heap [b33, b14] := ((Keep.refl _ _).trans K1768 (allS (Or.inl (List.mem_of_getElem? (i := 0) rfl)) (allS (Or.inl (List.mem_of_getElem? (i := 1) rfl)) all0)))
         exact ⟨T1766, _, _, X1766.mono (by decide) (by decide), rfl, o1774, K1779, kp1775, N1767, p1772, c1776⟩
       have f1781 := (f169.keep K1739 (ninS q168 (ninS q190 (ninS q167 (ninS q191 nin0))))).keep K1777 (ninS q167 (ninS q191 nin0))
       have f1782 := (f170.keep K1739 (ninS q168 (ninS q190 (ninS q167 (ninS q191 nin0))))).keep K1777 (ninS q167 (ninS q191 nin0))
       have c1783 : Kt p e below T1777 st0 (mkF m 315 #[vj j_, .second, vi f_, vi m_, vi n_, vi qa, vi qb, vj op, .second, vr b5, vr b33, vr b67, vi 1, vi 1, vi 1, vi 0, vi 1] [(rr b5)]) := fun t k => by
        refine c1777 t ?_
        show S_ p e below T1777 m 278 #[vj j_, .second, vi f_, vi m_, vi n_, vi qa, vi qb, vj op, .second, vr b5, vr b33, vr b67, vi 1, vi 1, vi 1, vi 0, u_] [] t
        refine XS.iconst X1777.here hx rfl (hb hby at_278) ?_
        refine XS.istore X1777.here hx rfl (hb hby at_279) rfl (l' := #[vj j_, .second, vi f_, vi m_, vi n_, vi qa, vi qb, vj op, .second, vr b5, vr b33, vr b67, vi 1, vi 1, vi 1, vi 0, vi 0]) rfl ?_
        refine XS.iload X1777.here hx rfl (hb hby at_281) rfl ?_
        refine XS.ifNo X1777.here hx rfl (hb hby at_283) rfl rfl ?_
        refine XS.iload X1777.here hx rfl (hb hby at_286) rfl ?_
        refine yI X1777.here hx rfl 288 297 rfl (hb hby at_288) rfl rfl ?_
        refine XS.iload X1777.here hx rfl (hb hby at_297) rfl ?_
        refine XS.ifNo X1777.here hx rfl (hb hby at_299) rfl rfl ?_
        show S_ p e below T1777 m 302 #[vj j_, .second, vi f_, vi m_, vi n_, vi qa, vi qb, vj op, .second, vr b5, vr b33, vr b67, vi 1, vi 1, vi 1, vi 0, vi 0] [] t
        refine XS.iload X1777.here hx rfl (hb hby at_302) rfl ?_
        refine XS.ifNo X1777.here hx rfl (hb hby at_304) rfl rfl ?_
        refine XS.iload X1777.here hx rfl (hb hby at_307) rfl ?_
        refine XS.iconst X1777.here hx rfl (hb hby at_309) ?_
        refine XS.iadd X1777.here hx rfl (hb hby at_310) rfl ?_
        refine XS.istore X1777.here hx rfl (hb hby at_311) rfl (l' := #[vj j_, .second, vi f_, vi m_, vi n_, vi qa, vi qb, vj op, .second, vr b5, vr b33, vr b67, vi 1, vi 1, vi 1, vi 0, vi 1]) rfl ?_
        refine XS.aload X1777.here hx rfl (hb hby at_313) rfl rfl ?_
        exact k
       obtain ⟨_, T1784, L1784, X1784, hQ1784, c1784⟩ := kvirt X1777 hx hZ72 hown72 (w87 hw) (w88 hw) (w90 hw) (w89 hw) (w91 hw) (w4 hw) (rm_emS l Z a0 hw [] b5 b13 b14 b67 h1777 n0 o1777 ((f166.keep K1739).keep K1777) f1781 f1782 (f1740.keep K1777 (ninS q173 (ninS p25 nin0)))) e1777 ((f166.keep K1739).keep K1777) c1783 hml pd_prZ [] [] 0 (hb hby at_315) rfl rfl rfl rfl rfl rfl
       obtain ⟨rfl, N1785q, K1786⟩ := hQ1784
       have N1785 := Fr.app N1777 N1785q
       obtain ⟨fs, hr, hrun, hended, hRW⟩ := X1784.leaveW hS72 (by first | exact (Nat.le_trans hk72 (Nat.le_trans (Nat.le_trans (Nat.le_trans (Nat.le_trans K91.1 K123.1) K156.1) K1739.1) K1777.1)) | (rw [K1786]; exact (Nat.le_trans hk72 (Nat.le_trans (Nat.le_trans (Nat.le_trans (Nat.le_trans K91.1 K123.1) K156.1) K1739.1) K1777.1)))) (v := some (ii 1)) (fun h => by rw [Bd.returns] at h; cases h)
       refine ⟨_, _, c1784 _ ?_, hrun, hended, _, _, rfl, ?_, hRW.1, hRW.2.1, hRW.2.2.1, hRW.2.2.2.mono (by decide) (by decide)⟩
       ·show S_ p e below T1784 m 318 #[vj j_, .second, vi f_, vi m_, vi n_, vi qa, vi qb, vj op, .second, vr b5, vr b33, vr b67, vi 1, vi 1, vi 1, vi 0, vi 1] [(ii 0)] _
        refine XS.iload X1784.here hx rfl (hb hby at_318) rfl ?_
        refine yI X1784.here hx rfl 320 327 rfl (hb hby at_320) rfl rfl ?_
        refine XS.iconst X1784.here hx rfl (hb hby at_327) ?_
        refine XS.icmpNo X1784.here hx rfl (hb hby at_328) rfl rfl ?_
        refine XS.iconst X1784.here hx rfl (hb hby at_331) ?_
        refine yG X1784.here hx rfl 332 336 rfl (hb hby at_332) ?_
        show S_ p e below T1784 m 336 #[vj j_, .second, vi f_, vi m_, vi n_, vi qa, vi qb, vj op, .second, vr b5, vr b33, vr b67, vi 1, vi 1, vi 1, vi 0, vi 1] [(ii 1)] _
        exact retN X1784 hx (t := .boolean) Bd.returns (by simp) (hb hby at_336) hr
       ·show Q_law Z j_ f_ m_ n_ sa5_ sa9_ sa13_ sa17_ h0 n0 _ T1784.heap _
        rw [K1786]
        exact ⟨rfl, N1785, kp1777⟩
      ·have c1787 : Kt p e below T156 st0 (mkF m 166 #[vj j_, .second, vi f_, vi m_, vi n_, vi qa, vi qb, vj op, .second, vr b5, vr b33, vr b67, vi 1, vi 1, vi 1, vi 0, u_] [(.int (f_ &&& (128 : Int32)))]) := fun t k => by
        refine c1459 t ?_
        show S_ p e below T156 m 161 #[vj j_, .second, vi f_, vi m_, vi n_, vi qa, vi qb, vj op, .second, vr b5, vr b33, vr b67, vi 1, vi 1, vi 1, vi 0, u_] [] t
        refine XS.iloadN X156.here hx rfl (hb hby at_161) rfl ?_
        refine XS.sipush X156.here hx rfl (hb hby at_162) ?_
        refine XS.iand X156.here hx rfl (hb hby at_165) rfl ?_
        exact k
       by_cases hc1788 : (f_ &&& (128 : Int32)) = (0 : Int32)
       ·have c1789 : Kt p e below T156 st0 (mkF m 205 #[vj j_, .second, vi f_, vi m_, vi n_, vi qa, vi qb, vj op, .second, vr b5, vr b33, vr b67, vi 1, vi 1, vi 1, vi 0, u_] [(rr b67), (rr b5)]) := fun t k => by
         refine c1787 t ?_
         show S_ p e below T156 m 166 #[vj j_, .second, vi f_, vi m_, vi n_, vi qa, vi qb, vj op, .second, vr b5, vr b33, vr b67, vi 1, vi 1, vi 1, vi 0, u_] [(.int (f_ &&& (128 : Int32)))] t
         refine yI X156.here hx rfl 166 196 rfl (hb hby at_166) rfl ((if0 _ _).trans (teq hc1788).1) ?_
         refine XS.iload X156.here hx rfl (hb hby at_196) rfl ?_
         refine XS.ifNo X156.here hx rfl (hb hby at_198) rfl rfl ?_
         refine XS.aload X156.here hx rfl (hb hby at_201) rfl rfl ?_
         refine XS.aload X156.here hx rfl (hb hby at_203) rfl rfl ?_
         exact k
        obtain ⟨_, T1790, L1790, X1790, hQ1790, c1790⟩ := kvirt X156 hx hZ72 hown72 (w94 hw) (w95 hw) (w97 hw) (w96 hw) (w98 hw) (w4 hw) (rm_addHN l Z a0 hw [] b5 b67 b13 b14 sa17_ mv155 h156 n0 o156 f166 f189 f169 f170 f157 f159 f160 f161 f162 g67 ZE7_ ZF8_ f172 g31 f179 f180 hc1691) e156 f166 c1789 hml pd_pLcom_example_lexchange_lexchange_Order_rV [(rr b67)] [] 0 (hb hby at_205) rfl rfl rfl rfl rfl rfl
        obtain ⟨rfl, N1791q, K1792, p1793, p1794, p1795, p1796, p1797⟩ := hQ1790
        have N1791 := Fr.app N156 N1791q
        have o1798 := o156.keep K1792 (allS g67 (allS g31 all0))
        have kp1799 := kp156.trans K1792 (allS (Or.inr z70) (allS (Or.inr z30) all0))
        have c1800 : Kt p e below T1790 st0 (mkF m 217 #[vj j_, .second, vi f_, vi m_, vi n_, vi qa, vi qb, vj op, .second, vr b5, vr b33, vr b67, vi 1, vi 1, vi 1, vi 0, u_] [(rr b33), (rr b5)]) := fun t k => by
         refine c1790 t ?_
         show S_ p e below T1790 m 208 #[vj j_, .second, vi f_, vi m_, vi n_, vi qa, vi qb, vj op, .second, vr b5, vr b33, vr b67, vi 1, vi 1, vi 1, vi 0, u_] [] t
         refine XS.iload X1790.here hx rfl (hb hby at_208) rfl ?_
         refine XS.ifNo X1790.here hx rfl (hb hby at_210) rfl rfl ?_
         refine XS.aload X1790.here hx rfl (hb hby at_213) rfl rfl ?_
         refine XS.aload X1790.here hx rfl (hb hby at_215) rfl rfl ?_
         exact k
        obtain ⟨_, T1801, L1801, X1801, hQ1801, c1801⟩ := kvirt X1790 hx hZ72 hown72 (w94 hw) (w95 hw) (w97 hw) (w96 hw) (w98 hw) (w4 hw) (rm_addHR l Z a0 hw [] b5 b33 b13 b14 sa17_ mv122 b67 T1790.heap n0 o1798 (f166.keep K1792) (f181.keep K1792) (f169.keep K1792 (ninS q168 (ninS q191 nin0))) (f170.keep K1792 (ninS q168 (ninS q191 nin0))) (f183.keep K1792 (ninS q182 (ninS q177.symm nin0))) (f185.keep K1792 (ninS q182 (ninS q177.symm nin0))) (f186.keep K1792 (ninS q182 (ninS q177.symm nin0))) (f187.keep K1792 (ninS q182 (ninS q177.symm nin0))) (f188.keep K1792 (ninS q182 (ninS q177.symm nin0))) g33 ZE7_ ZF8_ (f172.keep K1792) g31 p1796 p1797 (f189.keep K1792) g67 q182.symm p1793 p1794 p1795 hc1460) rfl (f166.keep K1792) c1800 hml pd_pLcom_example_lexchange_lexchange_Order_rV [(rr b33)] [] 0 (hb hby at_217) rfl rfl rfl rfl rfl rfl
        obtain ⟨rfl, N1802q, K1803, p1804, p1805, p1806, p1807, p1808, p1809, p1810, p1811⟩ := hQ1801
        have N1802 := Fr.app N1791 N1802q
        have o1812 := o1798.keep K1803 (allS g33 (allS g31 (allS g67 all0)))
        have kp1813 := kp1799.trans K1803 (allS (Or.inr z36) (allS (Or.inr z30) (allS (Or.inr z70) all0)))
        have c1814 : Kt p e below T1801 st0 (mkF m 224 #[vj j_, .second, vi f_, vi m_, vi n_, vi qa, vi qb, vj op, .second, vr b5, vr b33, vr b67, vi 1, vi 1, vi 1, vi 0, u_] [(.int (f_ &&& (64 : Int32)))]) := fun t k => by
         refine c1801 t ?_
         show S_ p e below T1801 m 220 #[vj j_, .second, vi f_, vi m_, vi n_, vi qa, vi qb, vj op, .second, vr b5, vr b33, vr b67, vi 1, vi 1, vi 1, vi 0, u_] [] t
         refine XS.iloadN X1801.here hx rfl (hb hby at_220) rfl ?_
         refine XS.bipush X1801.here hx rfl (hb hby at_221) ?_
         refine XS.iand X1801.here hx rfl (hb hby at_223) rfl ?_
         exact k
        obtain ⟨T1845, h1845, L1845, X1845, e1845, o1845, K1845, kp1845, N1845, f1846, c1845⟩ : ∃ (T1845 : State) (h1845 : Heap) (L1845 : List Loc), Stand p l e room_1 (s.setVm T72.vm) m #[(.long j_), (.int f_), (.int m_), (.int n_)] below meth c T1845 L1845 9 49 ∧ T1845.heap = h1845 ∧ Old Z n0 h1845 ∧ Keep T1801.heap h1845 [b33, b14, b67] ∧ Keep h0 h1845 [] ∧ Fr n0 L1845 ∧ Fld Z h1845 b14 nm2 "head" nm1 (rr b67) ∧ Kt p e below T1845 st0 (mkF m 278 #[vj j_, .second, vi f_, vi m_, vi n_, vi qa, vi qb, vj op, .second, vr b5, vr b33, vr b67, vi 1, vi 1, vi 1, vi 0, u_] []) := by
         by_cases hc1815 : (f_ &&& (64 : Int32)) = (0 : Int32)
         ·have c1816 : Kt p e below T1801 st0 (mkF m 275 #[vj j_, .second, vi f_, vi m_, vi n_, vi qa, vi qb, vj op, .second, vr b5, vr b33, vr b67, vi 1, vi 1, vi 1, vi 0, u_] [(rr b33), (rr b5)]) := fun t k => by
           refine c1814 t ?_
           show S_ p e below T1801 m 224 #[vj j_, .second, vi f_, vi m_, vi n_, vi qa, vi qb, vj op, .second, vr b5, vr b33, vr b67, vi 1, vi 1, vi 1, vi 0, u_] [(.int (f_ &&& (64 : Int32)))] t
           refine yI X1801.here hx rfl 224 254 rfl (hb hby at_224) rfl ((if0 _ _).trans (teq hc1815).1) ?_
           refine XS.iload X1801.here hx rfl (hb hby at_254) rfl ?_
           refine yI X1801.here hx rfl 256 266 rfl (hb hby at_256) rfl rfl ?_
           refine XS.iload X1801.here hx rfl (hb hby at_266) rfl ?_
           refine XS.ifNo X1801.here hx rfl (hb hby at_268) rfl rfl ?_
           refine XS.aload X1801.here hx rfl (hb hby at_271) rfl rfl ?_
           refine XS.aload X1801.here hx rfl (hb hby at_273) rfl rfl ?_
           exact k
          obtain ⟨_, T1817, L1817, X1817, hQ1817, c1817⟩ := kvirt X1801 hx hZ72 hown72 (w116 hw) (w117 hw) (w119 hw) (w118 hw) (w120 hw) (w4 hw) (rm_rmHL l Z a0 hw [] b5 b33 b13 b14 b67 T1801.heap n0 o1812 ((f166.keep K1792).keep K1803) ((f181.keep K1792).keep K1803) ((f169.keep K1792 (ninS q168 (ninS q191 nin0))).keep K1803 (ninS q167 (ninS q191 (ninS q168 nin0)))) ((f170.keep K1792 (ninS q168 (ninS q191 nin0))).keep K1803 (ninS q167 (ninS q191 (ninS q168 nin0)))) g33 ((f172.keep K1792).keep K1803) g31 ((f171.keep K1792).keep K1803) ((f175.keep K1792 (ninS q174 (ninS p25 nin0))).keep K1803 (ninS q173 (ninS p25 (ninS q174 nin0)))) ((f176.keep K1792 (ninS q174 (ninS p25 nin0))).keep K1803 (ninS q173 (ninS p25 (ninS q174 nin0)))) p1807 p1808 ((f189.keep K1792).keep K1803) g67 q182 p1804 p1805 p1806 p1809 p1810 p1811) rfl ((f166.keep K1792).keep K1803) c1816 hml pd_pLcom_example_lexchange_lexchange_Order_rV [(rr b33)] [] 0 (hb hby at_275) rfl rfl rfl rfl rfl rfl
          obtain ⟨rfl, N1818q, K1819, p1820, p1821, p1822, p1823, p1824, p1825, p1826, p1827⟩ := hQ1817
          have N1818 := Fr.app N1802 N1818q
          have o1828 := o1812.keep K1819 (allS g33 (allS g31 (allS g67 all0)))
          have kp1829 := kp1813.trans K1819 (allS (Or.inr z36) (allS (Or.inr z30) (allS (Or.inr z70) all0)))
          have K1848 : Keep T1801.heap T1817.heap [b33, b14, b67] := ((Keep.refl _ _).trans K1819 (allS (Or.inl (List.mem_of_getElem? (i := 0) rfl)) (allS (Or.inl (List.mem_of_getElem? (i := 1) rfl)) (allS (Or.inl (List.mem_of_getElem? (i := 2) rfl)) all0))))
          exact ⟨T1817, _, _, X1817.mono (by decide) (by decide), rfl, o1828, K1848, kp1829, N1818, p1823, c1817⟩
         ·have c1830 : Kt p e below T1801 st0 (mkF m 236 #[vj j_, .second, vi f_, vi m_, vi n_, vi qa, vi qb, vj op, .second, vr b5, vr b33, vr b67, vi 1, vi 1, vi 1, vi 0, u_] [(rr b33), (rr b5)]) := fun t k => by
           refine c1814 t ?_
           show S_ p e below T1801 m 224 #[vj j_, .second, vi f_, vi m_, vi n_, vi qa, vi qb, vj op, .second, vr b5, vr b33, vr b67, vi 1, vi 1, vi 1, vi 0, u_] [(.int (f_ &&& (64 : Int32)))] t
           refine XS.ifNo X1801.here hx rfl (hb hby at_224) rfl ((if0 _ _).trans (feq hc1815).1) ?_
           refine XS.iload X1801.here hx rfl (hb hby at_227) rfl ?_
           refine XS.ifNo X1801.here hx rfl (hb hby at_229) rfl rfl ?_
           refine XS.aload X1801.here hx rfl (hb hby at_232) rfl rfl ?_
           refine XS.aload X1801.here hx rfl (hb hby at_234) rfl rfl ?_
           exact k
          obtain ⟨_, T1831, L1831, X1831, hQ1831, c1831⟩ := kvirt X1801 hx hZ72 hown72 (w116 hw) (w117 hw) (w119 hw) (w118 hw) (w120 hw) (w4 hw) (rm_rmHL l Z a0 hw [] b5 b33 b13 b14 b67 T1801.heap n0 o1812 ((f166.keep K1792).keep K1803) ((f181.keep K1792).keep K1803) ((f169.keep K1792 (ninS q168 (ninS q191 nin0))).keep K1803 (ninS q167 (ninS q191 (ninS q168 nin0)))) ((f170.keep K1792 (ninS q168 (ninS q191 nin0))).keep K1803 (ninS q167 (ninS q191 (ninS q168 nin0)))) g33 ((f172.keep K1792).keep K1803) g31 ((f171.keep K1792).keep K1803) ((f175.keep K1792 (ninS q174 (ninS p25 nin0))).keep K1803 (ninS q173 (ninS p25 (ninS q174 nin0)))) ((f176.keep K1792 (ninS q174 (ninS p25 nin0))).keep K1803 (ninS q173 (ninS p25 (ninS q174 nin0)))) p1807 p1808 ((f189.keep K1792).keep K1803) g67 q182 p1804 p1805 p1806 p1809 p1810 p1811) rfl ((f166.keep K1792).keep K1803) c1830 hml pd_pLcom_example_lexchange_lexchange_Order_rV [(rr b33)] [] 0 (hb hby at_236) rfl rfl rfl rfl rfl rfl
          obtain ⟨rfl, N1832q, K1833, p1834, p1835, p1836, p1837, p1838, p1839, p1840, p1841⟩ := hQ1831
          have N1832 := Fr.app N1802 N1832q
          have o1842 := o1812.keep K1833 (allS g33 (allS g31 (allS g67 all0)))
          have kp1843 := kp1813.trans K1833 (allS (Or.inr z36) (allS (Or.inr z30) (allS (Or.inr z70) all0)))
          have c1844 : Kt p e below T1831 st0 (mkF m 278 #[vj j_, .second, vi f_, vi m_, vi n_, vi qa, vi qb, vj op, .second, vr b5, vr b33, vr b67, vi 1, vi 1, vi 1, vi 0, u_] []) := fun t k => by
           refine c1831 t ?_
           show S_ p e below T1831 m 239 #[vj j_, .second, vi f_, vi m_, vi n_, vi qa, vi qb, vj op, .second, vr b5, vr b33, vr b67, vi 1, vi 1, vi 1, vi 0, u_] [] t
           refine XS.iload X1831.here hx rfl (hb hby at_239) rfl ?_
           refine yI X1831.here hx rfl 241 278 rfl (hb hby at_241) rfl rfl ?_
           exact k
          have K1847 : Keep T1801.heap T1831.heap [b33, b14, b67] := ((Keep.refl _ _).trans K1833 (allS (Or.inl (List.mem_of_getElem? (i := 0) rfl)) (allS (Or.inl (List.mem_of_getElem? (i := 1) rfl)) (allS (Or.inl (List.mem_of_getElem? (i := 2) rfl)) all0))))
          exact ⟨T1831, _, _, X1831.mono (by decide) (by decide), rfl, o1842, K1847, kp1843, N1832, p1837, c1844⟩
        have f1849 := ((f169.keep K1792 (ninS q168 (ninS q191 nin0))).keep K1803 (ninS q167 (ninS q191 (ninS q168 nin0)))).keep K1845 (ninS q167 (ninS q191 (ninS q168 nin0)))
        have f1850 := ((f170.keep K1792 (ninS q168 (ninS q191 nin0))).keep K1803 (ninS q167 (ninS q191 (ninS q168 nin0)))).keep K1845 (ninS q167 (ninS q191 (ninS q168 nin0)))
        have f1851 := ((f175.keep K1792 (ninS q174 (ninS p25 nin0))).keep K1803 (ninS q173 (ninS p25 (ninS q174 nin0)))).keep K1845 (ninS q173 (ninS p25 (ninS q174 nin0)))
        have c1852 : Kt p e below T1845 st0 (mkF m 315 #[vj j_, .second, vi f_, vi m_, vi n_, vi qa, vi qb, vj op, .second, vr b5, vr b33, vr b67, vi 1, vi 1, vi 1, vi 0, vi 1] [(rr b5)]) := fun t k => by
         refine c1845 t ?_
         show S_ p e below T1845 m 278 #[vj j_, .second, vi f_, vi m_, vi n_, vi qa, vi qb, vj op, .second, vr b5, vr b33, vr b67, vi 1, vi 1, vi 1, vi 0, u_] [] t
         refine XS.iconst X1845.here hx rfl (hb hby at_278) ?_
         refine XS.istore X1845.here hx rfl (hb hby at_279) rfl (l' := #[vj j_, .second, vi f_, vi m_, vi n_, vi qa, vi qb, vj op, .second, vr b5, vr b33, vr b67, vi 1, vi 1, vi 1, vi 0, vi 0]) rfl ?_
         refine XS.iload X1845.here hx rfl (hb hby at_281) rfl ?_
         refine XS.ifNo X1845.here hx rfl (hb hby at_283) rfl rfl ?_
         refine XS.iload X1845.here hx rfl (hb hby at_286) rfl ?_
         refine yI X1845.here hx rfl 288 297 rfl (hb hby at_288) rfl rfl ?_
         refine XS.iload X1845.here hx rfl (hb hby at_297) rfl ?_
         refine XS.ifNo X1845.here hx rfl (hb hby at_299) rfl rfl ?_
         show S_ p e below T1845 m 302 #[vj j_, .second, vi f_, vi m_, vi n_, vi qa, vi qb, vj op, .second, vr b5, vr b33, vr b67, vi 1, vi 1, vi 1, vi 0, vi 0] [] t
         refine XS.iload X1845.here hx rfl (hb hby at_302) rfl ?_
         refine XS.ifNo X1845.here hx rfl (hb hby at_304) rfl rfl ?_
         refine XS.iload X1845.here hx rfl (hb hby at_307) rfl ?_
         refine XS.iconst X1845.here hx rfl (hb hby at_309) ?_
         refine XS.iadd X1845.here hx rfl (hb hby at_310) rfl ?_
         refine XS.istore X1845.here hx rfl (hb hby at_311) rfl (l' := #[vj j_, .second, vi f_, vi m_, vi n_, vi qa, vi qb, vj op, .second, vr b5, vr b33, vr b67, vi 1, vi 1, vi 1, vi 0, vi 1]) rfl ?_
         refine XS.aload X1845.here hx rfl (hb hby at_313) rfl rfl ?_
         exact k
        obtain ⟨_, T1853, L1853, X1853, hQ1853, c1853⟩ := kvirt X1845 hx hZ72 hown72 (w87 hw) (w88 hw) (w90 hw) (w89 hw) (w91 hw) (w4 hw) (rm_emH l Z a0 hw [] b5 b13 b14 b67 h1845 n0 o1845 (((f166.keep K1792).keep K1803).keep K1845) f1849 f1850 f1851 f1846) e1845 (((f166.keep K1792).keep K1803).keep K1845) c1852 hml pd_prZ [] [] 0 (hb hby at_315) rfl rfl rfl rfl rfl rfl
        obtain ⟨rfl, N1854q, K1855⟩ := hQ1853
        have N1854 := Fr.app N1845 N1854q
        obtain ⟨fs, hr, hrun, hended, hRW⟩ := X1853.leaveW hS72 (by first | exact (Nat.le_trans hk72 (Nat.le_trans (Nat.le_trans (Nat.le_trans (Nat.le_trans (Nat.le_trans K91.1 K123.1) K156.1) K1792.1) K1803.1) K1845.1)) | (rw [K1855]; exact (Nat.le_trans hk72 (Nat.le_trans (Nat.le_trans (Nat.le_trans (Nat.le_trans (Nat.le_trans K91.1 K123.1) K156.1) K1792.1) K1803.1) K1845.1)))) (v := some (ii 1)) (fun h => by rw [Bd.returns] at h; cases h)
        refine ⟨_, _, c1853 _ ?_, hrun, hended, _, _, rfl, ?_, hRW.1, hRW.2.1, hRW.2.2.1, hRW.2.2.2.mono (by decide) (by decide)⟩
        ·show S_ p e below T1853 m 318 #[vj j_, .second, vi f_, vi m_, vi n_, vi qa, vi qb, vj op, .second, vr b5, vr b33, vr b67, vi 1, vi 1, vi 1, vi 0, vi 1] [(ii 0)] _
         refine XS.iload X1853.here hx rfl (hb hby at_318) rfl ?_
         refine yI X1853.here hx rfl 320 327 rfl (hb hby at_320) rfl rfl ?_
         refine XS.iconst X1853.here hx rfl (hb hby at_327) ?_
         refine XS.icmpNo X1853.here hx rfl (hb hby at_328) rfl rfl ?_
         refine XS.iconst X1853.here hx rfl (hb hby at_331) ?_
         refine yG X1853.here hx rfl 332 336 rfl (hb hby at_332) ?_
         show S_ p e below T1853 m 336 #[vj j_, .second, vi f_, vi m_, vi n_, vi qa, vi qb, vj op, .second, vr b5, vr b33, vr b67, vi 1, vi 1, vi 1, vi 0, vi 1] [(ii 1)] _
         exact retN X1853 hx (t := .boolean) Bd.returns (by simp) (hb hby at_336) hr
        ·show Q_law Z j_ f_ m_ n_ sa5_ sa9_ sa13_ sa17_ h0 n0 _ T1853.heap _
         rw [K1855]
         exact ⟨rfl, N1854, kp1845⟩
       ·have c1856 : Kt p e below T156 st0 (mkF m 178 #[vj j_, .second, vi f_, vi m_, vi n_, vi qa, vi qb, vj op, .second, vr b5, vr b33, vr b67, vi 1, vi 1, vi 1, vi 0, u_] [(rr b33), (rr b5)]) := fun t k => by
         refine c1787 t ?_
         show S_ p e below T156 m 166 #[vj j_, .second, vi f_, vi m_, vi n_, vi qa, vi qb, vj op, .second, vr b5, vr b33, vr b67, vi 1, vi 1, vi 1, vi 0, u_] [(.int (f_ &&& (128 : Int32)))] t
         refine XS.ifNo X156.here hx rfl (hb hby at_166) rfl ((if0 _ _).trans (feq hc1788).1) ?_
         refine XS.iload X156.here hx rfl (hb hby at_169) rfl ?_
         refine XS.ifNo X156.here hx rfl (hb hby at_171) rfl rfl ?_
         refine XS.aload X156.here hx rfl (hb hby at_174) rfl rfl ?_
         refine XS.aload X156.here hx rfl (hb hby at_176) rfl rfl ?_
         exact k
        obtain ⟨_, T1857, L1857, X1857, hQ1857, c1857⟩ := kvirt X156 hx hZ72 hown72 (w94 hw) (w95 hw) (w97 hw) (w96 hw) (w98 hw) (w4 hw) (rm_addHN l Z a0 hw [] b5 b33 b13 b14 sa17_ mv122 h156 n0 o156 f166 f181 f169 f170 f183 f185 f186 f187 f188 g33 ZE7_ ZF8_ f172 g31 f179 f180 hc1460) e156 f166 c1856 hml pd_pLcom_example_lexchange_lexchange_Order_rV [(rr b33)] [] 0 (hb hby at_178) rfl rfl rfl rfl rfl rfl
        obtain ⟨rfl, N1858q, K1859, p1860, p1861, p1862, p1863, p1864⟩ := hQ1857
        have N1858 := Fr.app N156 N1858q
        have o1865 := o156.keep K1859 (allS g33 (allS g31 all0))
        have kp1866 := kp156.trans K1859 (allS (Or.inr z36) (allS (Or.inr z30) all0))
        have c1867 : Kt p e below T1857 st0 (mkF m 190 #[vj j_, .second, vi f_, vi m_, vi n_, vi qa, vi qb, vj op, .second, vr b5, vr b33, vr b67, vi 1, vi 1, vi 1, vi 0, u_] [(rr b67), (rr b5)]) := fun t k => by
         refine c1857 t ?_
         show S_ p e below T1857 m 181 #[vj j_, .second, vi f_, vi m_, vi n_, vi qa, vi qb, vj op, .second, vr b5, vr b33, vr b67, vi 1, vi 1, vi 1, vi 0, u_] [] t
         refine XS.iload X1857.here hx rfl (hb hby at_181) rfl ?_
         refine XS.ifNo X1857.here hx rfl (hb hby at_183) rfl rfl ?_
         refine XS.aload X1857.here hx rfl (hb hby at_186) rfl rfl ?_
         refine XS.aload X1857.here hx rfl (hb hby at_188) rfl rfl ?_
         exact k
        obtain ⟨_, T1868, L1868, X1868, hQ1868, c1868⟩ := kvirt X1857 hx hZ72 hown72 (w94 hw) (w95 hw) (w97 hw) (w96 hw) (w98 hw) (w4 hw) (rm_addHR l Z a0 hw [] b5 b67 b13 b14 sa17_ mv155 b33 T1857.heap n0 o1865 (f166.keep K1859) (f189.keep K1859) (f169.keep K1859 (ninS q167 (ninS q191 nin0))) (f170.keep K1859 (ninS q167 (ninS q191 nin0))) (f157.keep K1859 (ninS q182.symm (ninS q178.symm nin0))) (f159.keep K1859 (ninS q182.symm (ninS q178.symm nin0))) (f160.keep K1859 (ninS q182.symm (ninS q178.symm nin0))) (f161.keep K1859 (ninS q182.symm (ninS q178.symm nin0))) (f162.keep K1859 (ninS q182.symm (ninS q178.symm nin0))) g67 ZE7_ ZF8_ (f172.keep K1859) g31 p1863 p1864 (f181.keep K1859) g33 q182 p1860 p1861 p1862 hc1691) rfl (f166.keep K1859) c1867 hml pd_pLcom_example_lexchange_lexchange_Order_rV [(rr b67)] [] 0 (hb hby at_190) rfl rfl rfl rfl rfl rfl
        obtain ⟨rfl, N1869q, K1870, p1871, p1872, p1873, p1874, p1875, p1876, p1877, p1878⟩ := hQ1868
        have N1869 := Fr.app N1858 N1869q
        have o1879 := o1865.keep K1870 (allS g67 (allS g31 (allS g33 all0)))
        have kp1880 := kp1866.trans K1870 (allS (Or.inr z70) (allS (Or.inr z30) (allS (Or.inr z36) all0)))
        have c1881 : Kt p e below T1868 st0 (mkF m 224 #[vj j_, .second, vi f_, vi m_, vi n_, vi qa, vi qb, vj op, .second, vr b5, vr b33, vr b67, vi 1, vi 1, vi 1, vi 0, u_] [(.int (f_ &&& (64 : Int32)))]) := fun t k => by
         refine c1868 t ?_
         show S_ p e below T1868 m 193 #[vj j_, .second, vi f_, vi m_, vi n_, vi qa, vi qb, vj op, .second, vr b5, vr b33, vr b67, vi 1, vi 1, vi 1, vi 0, u_] [] t
         refine yG X1868.here hx rfl 193 220 rfl (hb hby at_193) ?_
         refine XS.iloadN X1868.here hx rfl (hb hby at_220) rfl ?_
         refine XS.bipush X1868.here hx rfl (hb hby at_221) ?_
         refine XS.iand X1868.here hx rfl (hb hby at_223) rfl ?_
         exact k
        obtain ⟨T1912, h1912, L1912, X1912, e1912, o1912, K1912, kp1912, N1912, f1913, c1912⟩ : ∃ (T1912 : State) (h1912 : Heap) (L1912 : List Loc), Stand p l e room_1 (s.setVm T72.vm) m #[(.long j_), (.int f_), (.int m_), (.int n_)] below meth c T1912 L1912 9 49 ∧ T1912.heap = h1912 ∧ Old Z n0 h1912 ∧ Keep T1868.heap h1912 [b33, b14, b67] ∧ Keep h0 h1912 [] ∧ Fr n0 L1912 ∧ Fld Z h1912 b14 nm2 "head" nm1 (rr b67) ∧ Kt p e below T1912 st0 (mkF m 278 #[vj j_, .second, vi f_, vi m_, vi n_, vi qa, vi qb, vj op, .second, vr b5, vr b33, vr b67, vi 1, vi 1, vi 1, vi 0, u_] []) := by
         by_cases hc1882 : (f_ &&& (64 : Int32)) = (0 : Int32)
         ·have c1883 : Kt p e below T1868 st0 (mkF m 275 #[vj j_, .second, vi f_, vi m_, vi n_, vi qa, vi qb, vj op, .second, vr b5, vr b33, vr b67, vi 1, vi 1, vi 1, vi 0, u_] [(rr b33), (rr b5)]) := fun t k => by
           refine c1881 t ?_
           show S_ p e below T1868 m 224 #[vj j_, .second, vi f_, vi m_, vi n_, vi qa, vi qb, vj op, .second, vr b5, vr b33, vr b67, vi 1, vi 1, vi 1, vi 0, u_] [(.int (f_ &&& (64 : Int32)))] t
           refine yI X1868.here hx rfl 224 254 rfl (hb hby at_224) rfl ((if0 _ _).trans (teq hc1882).1) ?_
           refine XS.iload X1868.here hx rfl (hb hby at_254) rfl ?_
           refine yI X1868.here hx rfl 256 266 rfl (hb hby at_256) rfl rfl ?_
           refine XS.iload X1868.here hx rfl (hb hby at_266) rfl ?_
           refine XS.ifNo X1868.here hx rfl (hb hby at_268) rfl rfl ?_
           refine XS.aload X1868.here hx rfl (hb hby at_271) rfl rfl ?_
           refine XS.aload X1868.here hx rfl (hb hby at_273) rfl rfl ?_
           exact k
          obtain ⟨_, T1884, L1884, X1884, hQ1884, c1884⟩ := kvirt X1868 hx hZ72 hown72 (w116 hw) (w117 hw) (w119 hw) (w118 hw) (w120 hw) (w4 hw) (rm_rmHF l Z a0 hw [] b5 b33 b13 b14 b67 T1868.heap n0 o1879 ((f166.keep K1859).keep K1870) ((f181.keep K1859).keep K1870) ((f169.keep K1859 (ninS q167 (ninS q191 nin0))).keep K1870 (ninS q168 (ninS q191 (ninS q167 nin0)))) ((f170.keep K1859 (ninS q167 (ninS q191 nin0))).keep K1870 (ninS q168 (ninS q191 (ninS q167 nin0)))) g33 ((f172.keep K1859).keep K1870) g31 ((f171.keep K1859).keep K1870) ((f175.keep K1859 (ninS q173 (ninS p25 nin0))).keep K1870 (ninS q174 (ninS p25 (ninS q173 nin0)))) ((f176.keep K1859 (ninS q173 (ninS p25 nin0))).keep K1870 (ninS q174 (ninS p25 (ninS q173 nin0)))) p1874 p1875 ((f189.keep K1859).keep K1870) g67 q182 p1876 p1877 p1878 p1871 p1872 p1873) rfl ((f166.keep K1859).keep K1870) c1883 hml pd_pLcom_example_lexchange_lexchange_Order_rV [(rr b33)] [] 0 (hb hby at_275) rfl rfl rfl rfl rfl rfl
          obtain ⟨rfl, N1885q, K1886, p1887, p1888, p1889, p1890, p1891, p1892, p1893, p1894⟩ := hQ1884
          have N1885 := Fr.app N1869 N1885q
          have o1895 := o1879.keep K1886 (allS g33 (allS g31 (allS g67 all0)))
          have kp1896 := kp1880.trans K1886 (allS (Or.inr z36) (allS (Or.inr z30) (allS (Or.inr z70) all0)))
          have K1915 : Keep T1868.heap T1884.heap [b33, b14, b67] := ((Keep.refl _ _).trans K1886 (allS (Or.inl (List.mem_of_getElem? (i := 0) rfl)) (allS (Or.inl (List.mem_of_getElem? (i := 1) rfl)) (allS (Or.inl (List.mem_of_getElem? (i := 2) rfl)) all0))))
          exact ⟨T1884, _, _, X1884.mono (by decide) (by decide), rfl, o1895, K1915, kp1896, N1885, p1890, c1884⟩
         ·have c1897 : Kt p e below T1868 st0 (mkF m 236 #[vj j_, .second, vi f_, vi m_, vi n_, vi qa, vi qb, vj op, .second, vr b5, vr b33, vr b67, vi 1, vi 1, vi 1, vi 0, u_] [(rr b33), (rr b5)]) := fun t k => by
           refine c1881 t ?_
           show S_ p e below T1868 m 224 #[vj j_, .second, vi f_, vi m_, vi n_, vi qa, vi qb, vj op, .second, vr b5, vr b33, vr b67, vi 1, vi 1, vi 1, vi 0, u_] [(.int (f_ &&& (64 : Int32)))] t
           refine XS.ifNo X1868.here hx rfl (hb hby at_224) rfl ((if0 _ _).trans (feq hc1882).1) ?_
           refine XS.iload X1868.here hx rfl (hb hby at_227) rfl ?_
           refine XS.ifNo X1868.here hx rfl (hb hby at_229) rfl rfl ?_
           refine XS.aload X1868.here hx rfl (hb hby at_232) rfl rfl ?_
           refine XS.aload X1868.here hx rfl (hb hby at_234) rfl rfl ?_
           exact k
          obtain ⟨_, T1898, L1898, X1898, hQ1898, c1898⟩ := kvirt X1868 hx hZ72 hown72 (w116 hw) (w117 hw) (w119 hw) (w118 hw) (w120 hw) (w4 hw) (rm_rmHF l Z a0 hw [] b5 b33 b13 b14 b67 T1868.heap n0 o1879 ((f166.keep K1859).keep K1870) ((f181.keep K1859).keep K1870) ((f169.keep K1859 (ninS q167 (ninS q191 nin0))).keep K1870 (ninS q168 (ninS q191 (ninS q167 nin0)))) ((f170.keep K1859 (ninS q167 (ninS q191 nin0))).keep K1870 (ninS q168 (ninS q191 (ninS q167 nin0)))) g33 ((f172.keep K1859).keep K1870) g31 ((f171.keep K1859).keep K1870) ((f175.keep K1859 (ninS q173 (ninS p25 nin0))).keep K1870 (ninS q174 (ninS p25 (ninS q173 nin0)))) ((f176.keep K1859 (ninS q173 (ninS p25 nin0))).keep K1870 (ninS q174 (ninS p25 (ninS q173 nin0)))) p1874 p1875 ((f189.keep K1859).keep K1870) g67 q182 p1876 p1877 p1878 p1871 p1872 p1873) rfl ((f166.keep K1859).keep K1870) c1897 hml pd_pLcom_example_lexchange_lexchange_Order_rV [(rr b33)] [] 0 (hb hby at_236) rfl rfl rfl rfl rfl rfl
          obtain ⟨rfl, N1899q, K1900, p1901, p1902, p1903, p1904, p1905, p1906, p1907, p1908⟩ := hQ1898
          have N1899 := Fr.app N1869 N1899q
          have o1909 := o1879.keep K1900 (allS g33 (allS g31 (allS g67 all0)))
          have kp1910 := kp1880.trans K1900 (allS (Or.inr z36) (allS (Or.inr z30) (allS (Or.inr z70) all0)))
          have c1911 : Kt p e below T1898 st0 (mkF m 278 #[vj j_, .second, vi f_, vi m_, vi n_, vi qa, vi qb, vj op, .second, vr b5, vr b33, vr b67, vi 1, vi 1, vi 1, vi 0, u_] []) := fun t k => by
           refine c1898 t ?_
           show S_ p e below T1898 m 239 #[vj j_, .second, vi f_, vi m_, vi n_, vi qa, vi qb, vj op, .second, vr b5, vr b33, vr b67, vi 1, vi 1, vi 1, vi 0, u_] [] t
           refine XS.iload X1898.here hx rfl (hb hby at_239) rfl ?_
           refine yI X1898.here hx rfl 241 278 rfl (hb hby at_241) rfl rfl ?_
           exact k
          have K1914 : Keep T1868.heap T1898.heap [b33, b14, b67] := ((Keep.refl _ _).trans K1900 (allS (Or.inl (List.mem_of_getElem? (i := 0) rfl)) (allS (Or.inl (List.mem_of_getElem? (i := 1) rfl)) (allS (Or.inl (List.mem_of_getElem? (i := 2) rfl)) all0))))
          exact ⟨T1898, _, _, X1898.mono (by decide) (by decide), rfl, o1909, K1914, kp1910, N1899, p1904, c1911⟩
        have f1916 := ((f169.keep K1859 (ninS q167 (ninS q191 nin0))).keep K1870 (ninS q168 (ninS q191 (ninS q167 nin0)))).keep K1912 (ninS q167 (ninS q191 (ninS q168 nin0)))
        have f1917 := ((f170.keep K1859 (ninS q167 (ninS q191 nin0))).keep K1870 (ninS q168 (ninS q191 (ninS q167 nin0)))).keep K1912 (ninS q167 (ninS q191 (ninS q168 nin0)))
        have f1918 := ((f175.keep K1859 (ninS q173 (ninS p25 nin0))).keep K1870 (ninS q174 (ninS p25 (ninS q173 nin0)))).keep K1912 (ninS q173 (ninS p25 (ninS q174 nin0)))
        have c1919 : Kt p e below T1912 st0 (mkF m 315 #[vj j_, .second, vi f_, vi m_, vi n_, vi qa, vi qb, vj op, .second, vr b5, vr b33, vr b67, vi 1, vi 1, vi 1, vi 0, vi 1] [(rr b5)]) := fun t k => by
         refine c1912 t ?_
         show S_ p e below T1912 m 278 #[vj j_, .second, vi f_, vi m_, vi n_, vi qa, vi qb, vj op, .second, vr b5, vr b33, vr b67, vi 1, vi 1, vi 1, vi 0, u_] [] t
         refine XS.iconst X1912.here hx rfl (hb hby at_278) ?_
         refine XS.istore X1912.here hx rfl (hb hby at_279) rfl (l' := #[vj j_, .second, vi f_, vi m_, vi n_, vi qa, vi qb, vj op, .second, vr b5, vr b33, vr b67, vi 1, vi 1, vi 1, vi 0, vi 0]) rfl ?_
         refine XS.iload X1912.here hx rfl (hb hby at_281) rfl ?_
         refine XS.ifNo X1912.here hx rfl (hb hby at_283) rfl rfl ?_
         refine XS.iload X1912.here hx rfl (hb hby at_286) rfl ?_
         refine yI X1912.here hx rfl 288 297 rfl (hb hby at_288) rfl rfl ?_
         refine XS.iload X1912.here hx rfl (hb hby at_297) rfl ?_
         refine XS.ifNo X1912.here hx rfl (hb hby at_299) rfl rfl ?_
         show S_ p e below T1912 m 302 #[vj j_, .second, vi f_, vi m_, vi n_, vi qa, vi qb, vj op, .second, vr b5, vr b33, vr b67, vi 1, vi 1, vi 1, vi 0, vi 0] [] t
         refine XS.iload X1912.here hx rfl (hb hby at_302) rfl ?_
         refine XS.ifNo X1912.here hx rfl (hb hby at_304) rfl rfl ?_
         refine XS.iload X1912.here hx rfl (hb hby at_307) rfl ?_
         refine XS.iconst X1912.here hx rfl (hb hby at_309) ?_
         refine XS.iadd X1912.here hx rfl (hb hby at_310) rfl ?_
         refine XS.istore X1912.here hx rfl (hb hby at_311) rfl (l' := #[vj j_, .second, vi f_, vi m_, vi n_, vi qa, vi qb, vj op, .second, vr b5, vr b33, vr b67, vi 1, vi 1, vi 1, vi 0, vi 1]) rfl ?_
         refine XS.aload X1912.here hx rfl (hb hby at_313) rfl rfl ?_
         exact k
        obtain ⟨_, T1920, L1920, X1920, hQ1920, c1920⟩ := kvirt X1912 hx hZ72 hown72 (w87 hw) (w88 hw) (w90 hw) (w89 hw) (w91 hw) (w4 hw) (rm_emH l Z a0 hw [] b5 b13 b14 b67 h1912 n0 o1912 (((f166.keep K1859).keep K1870).keep K1912) f1916 f1917 f1918 f1913) e1912 (((f166.keep K1859).keep K1870).keep K1912) c1919 hml pd_prZ [] [] 0 (hb hby at_315) rfl rfl rfl rfl rfl rfl
        obtain ⟨rfl, N1921q, K1922⟩ := hQ1920
        have N1921 := Fr.app N1912 N1921q
        obtain ⟨fs, hr, hrun, hended, hRW⟩ := X1920.leaveW hS72 (by first | exact (Nat.le_trans hk72 (Nat.le_trans (Nat.le_trans (Nat.le_trans (Nat.le_trans (Nat.le_trans K91.1 K123.1) K156.1) K1859.1) K1870.1) K1912.1)) | (rw [K1922]; exact (Nat.le_trans hk72 (Nat.le_trans (Nat.le_trans (Nat.le_trans (Nat.le_trans (Nat.le_trans K91.1 K123.1) K156.1) K1859.1) K1870.1) K1912.1)))) (v := some (ii 1)) (fun h => by rw [Bd.returns] at h; cases h)
        refine ⟨_, _, c1920 _ ?_, hrun, hended, _, _, rfl, ?_, hRW.1, hRW.2.1, hRW.2.2.1, hRW.2.2.2.mono (by decide) (by decide)⟩
        ·show S_ p e below T1920 m 318 #[vj j_, .second, vi f_, vi m_, vi n_, vi qa, vi qb, vj op, .second, vr b5, vr b33, vr b67, vi 1, vi 1, vi 1, vi 0, vi 1] [(ii 0)] _
         refine XS.iload X1920.here hx rfl (hb hby at_318) rfl ?_
         refine yI X1920.here hx rfl 320 327 rfl (hb hby at_320) rfl rfl ?_
         refine XS.iconst X1920.here hx rfl (hb hby at_327) ?_
         refine XS.icmpNo X1920.here hx rfl (hb hby at_328) rfl rfl ?_
         refine XS.iconst X1920.here hx rfl (hb hby at_331) ?_
         refine yG X1920.here hx rfl 332 336 rfl (hb hby at_332) ?_
         show S_ p e below T1920 m 336 #[vj j_, .second, vi f_, vi m_, vi n_, vi qa, vi qb, vj op, .second, vr b5, vr b33, vr b67, vi 1, vi 1, vi 1, vi 0, vi 1] [(ii 1)] _
         exact retN X1920 hx (t := .boolean) Bd.returns (by simp) (hb hby at_336) hr
        ·show Q_law Z j_ f_ m_ n_ sa5_ sa9_ sa13_ sa17_ h0 n0 _ T1920.heap _
         rw [K1922]
         exact ⟨rfl, N1921, kp1912⟩
    ·have c1923 : Kt p e below T156 st0 (mkF m 161 #[vj j_, .second, vi f_, vi m_, vi n_, vi qa, vi qb, vj op, .second, vr b5, vr b33, vr b67, vi 1, vi 1, vi 1, vi 1, u_] []) := fun t k => by
      refine c1457 t ?_
      show S_ p e below T156 m 151 #[vj j_, .second, vi f_, vi m_, vi n_, vi qa, vi qb, vj op, .second, vr b5, vr b33, vr b67, vi 1, vi 1, vi 1, u_, u_] [(.int (f_ &&& (32 : Int32)))] t
      refine XS.ifNo X156.here hx rfl (hb hby at_151) rfl ((if0 _ _).trans (feq hc1458).1) ?_
      refine XS.iconst X156.here hx rfl (hb hby at_154) ?_
      refine yG X156.here hx rfl 155 159 rfl (hb hby at_155) ?_
      refine XS.istore X156.here hx rfl (hb hby at_159) rfl (l' := #[vj j_, .second, vi f_, vi m_, vi n_, vi qa, vi qb, vj op, .second, vr b5, vr b33, vr b67, vi 1, vi 1, vi 1, vi 1, u_]) rfl ?_
      exact k
     by_cases hc1924 : (0 : Int32) < mv122
     ·by_cases hc1925 : (0 : Int32) < mv155
      ·have c1926 : Kt p e below T156 st0 (mkF m 166 #[vj j_, .second, vi f_, vi m_, vi n_, vi qa, vi qb, vj op, .second, vr b5, vr b33, vr b67, vi 1, vi 1, vi 1, vi 1, u_] [(.int (f_ &&& (128 : Int32)))]) := fun t k => by
        refine c1923 t ?_
        show S_ p e below T156 m 161 #[vj j_, .second, vi f_, vi m_, vi n_, vi qa, vi qb, vj op, .second, vr b5, vr b33, vr b67, vi 1, vi 1, vi 1, vi 1, u_] [] t
        refine XS.iloadN X156.here hx rfl (hb hby at_161) rfl ?_
        refine XS.sipush X156.here hx rfl (hb hby at_162) ?_
        refine XS.iand X156.here hx rfl (hb hby at_165) rfl ?_
        exact k
       by_cases hc1927 : (f_ &&& (128 : Int32)) = (0 : Int32)
       ·have c1928 : Kt p e below T156 st0 (mkF m 205 #[vj j_, .second, vi f_, vi m_, vi n_, vi qa, vi qb, vj op, .second, vr b5, vr b33, vr b67, vi 1, vi 1, vi 1, vi 1, u_] [(rr b67), (rr b5)]) := fun t k => by
         refine c1926 t ?_
         show S_ p e below T156 m 166 #[vj j_, .second, vi f_, vi m_, vi n_, vi qa, vi qb, vj op, .second, vr b5, vr b33, vr b67, vi 1, vi 1, vi 1, vi 1, u_] [(.int (f_ &&& (128 : Int32)))] t
         refine yI X156.here hx rfl 166 196 rfl (hb hby at_166) rfl ((if0 _ _).trans (teq hc1927).1) ?_
         refine XS.iload X156.here hx rfl (hb hby at_196) rfl ?_
         refine XS.ifNo X156.here hx rfl (hb hby at_198) rfl rfl ?_
         refine XS.aload X156.here hx rfl (hb hby at_201) rfl rfl ?_
         refine XS.aload X156.here hx rfl (hb hby at_203) rfl rfl ?_
         exact k
        obtain ⟨_, T1929, L1929, X1929, hQ1929, c1929⟩ := kvirt X156 hx hZ72 hown72 (w94 hw) (w95 hw) (w97 hw) (w96 hw) (w98 hw) (w4 hw) (rm_addSN l Z a0 hw [] b5 b67 b13 b14 sa17_ mv155 h156 n0 o156 f166 f189 f169 f170 f157 f159 f160 f161 f162 g67 ZE7_ ZF8_ f171 g29 f175 f176 hc1925) e156 f166 c1928 hml pd_pLcom_example_lexchange_lexchange_Order_rV [(rr b67)] [] 0 (hb hby at_205) rfl rfl rfl rfl rfl rfl
        obtain ⟨rfl, N1930q, K1931, p1932, p1933, p1934, p1935, p1936⟩ := hQ1929
        have N1930 := Fr.app N156 N1930q
        have o1937 := o156.keep K1931 (allS g67 (allS g29 all0))
        have kp1938 := kp156.trans K1931 (allS (Or.inr z70) (allS (Or.inr z28) all0))
        have c1939 : Kt p e below T1929 st0 (mkF m 217 #[vj j_, .second, vi f_, vi m_, vi n_, vi qa, vi qb, vj op, .second, vr b5, vr b33, vr b67, vi 1, vi 1, vi 1, vi 1, u_] [(rr b33), (rr b5)]) := fun t k => by
         refine c1929 t ?_
         show S_ p e below T1929 m 208 #[vj j_, .second, vi f_, vi m_, vi n_, vi qa, vi qb, vj op, .second, vr b5, vr b33, vr b67, vi 1, vi 1, vi 1, vi 1, u_] [] t
         refine XS.iload X1929.here hx rfl (hb hby at_208) rfl ?_
         refine XS.ifNo X1929.here hx rfl (hb hby at_210) rfl rfl ?_
         refine XS.aload X1929.here hx rfl (hb hby at_213) rfl rfl ?_
         refine XS.aload X1929.here hx rfl (hb hby at_215) rfl rfl ?_
         exact k
        obtain ⟨_, T1940, L1940, X1940, hQ1940, c1940⟩ := kvirt X1929 hx hZ72 hown72 (w94 hw) (w95 hw) (w97 hw) (w96 hw) (w98 hw) (w4 hw) (rm_addSR l Z a0 hw [] b5 b33 b13 b14 sa17_ mv122 b67 T1929.heap n0 o1937 (f166.keep K1931) (f181.keep K1931) (f169.keep K1931 (ninS q168 (ninS q190 nin0))) (f170.keep K1931 (ninS q168 (ninS q190 nin0))) (f183.keep K1931 (ninS q182 (ninS q173.symm nin0))) (f185.keep K1931 (ninS q182 (ninS q173.symm nin0))) (f186.keep K1931 (ninS q182 (ninS q173.symm nin0))) (f187.keep K1931 (ninS q182 (ninS q173.symm nin0))) (f188.keep K1931 (ninS q182 (ninS q173.symm nin0))) g33 ZE7_ ZF8_ (f171.keep K1931) g29 p1935 p1936 (f189.keep K1931) g67 q182.symm p1932 p1933 p1934 hc1924) rfl (f166.keep K1931) c1939 hml pd_pLcom_example_lexchange_lexchange_Order_rV [(rr b33)] [] 0 (hb hby at_217) rfl rfl rfl rfl rfl rfl
        obtain ⟨rfl, N1941q, K1942, p1943, p1944, p1945, p1946, p1947, p1948, p1949, p1950⟩ := hQ1940
        have N1941 := Fr.app N1930 N1941q
        have o1951 := o1937.keep K1942 (allS g33 (allS g29 (allS g67 all0)))
        have kp1952 := kp1938.trans K1942 (allS (Or.inr z36) (allS (Or.inr z28) (allS (Or.inr z70) all0)))
        have c1953 : Kt p e below T1940 st0 (mkF m 224 #[vj j_, .second, vi f_, vi m_, vi n_, vi qa, vi qb, vj op, .second, vr b5, vr b33, vr b67, vi 1, vi 1, vi 1, vi 1, u_] [(.int (f_ &&& (64 : Int32)))]) := fun t k => by
         refine c1940 t ?_
         show S_ p e below T1940 m 220 #[vj j_, .second, vi f_, vi m_, vi n_, vi qa, vi qb, vj op, .second, vr b5, vr b33, vr b67, vi 1, vi 1, vi 1, vi 1, u_] [] t
         refine XS.iloadN X1940.here hx rfl (hb hby at_220) rfl ?_
         refine XS.bipush X1940.here hx rfl (hb hby at_221) ?_
         refine XS.iand X1940.here hx rfl (hb hby at_223) rfl ?_
         exact k
        obtain ⟨T2010, h2010, L2010, X2010, e2010, o2010, K2010, kp2010, N2010, f2011, c2010⟩ : ∃ (T2010 : State) (h2010 : Heap) (L2010 : List Loc), Stand p l e room_1 (s.setVm T72.vm) m #[(.long j_), (.int f_), (.int m_), (.int n_)] below meth c T2010 L2010 9 49 ∧ T2010.heap = h2010 ∧ Old Z n0 h2010 ∧ Keep T1940.heap h2010 [b67, b13, b33] ∧ Keep h0 h2010 [] ∧ Fr n0 L2010 ∧ Fld Z h2010 b13 nm2 "head" nm1 .null ∧ Kt p e below T2010 st0 (mkF m 278 #[vj j_, .second, vi f_, vi m_, vi n_, vi qa, vi qb, vj op, .second, vr b5, vr b33, vr b67, vi 1, vi 1, vi 1, vi 1, u_] []) := by
         by_cases hc1954 : (f_ &&& (64 : Int32)) = (0 : Int32)
         ·have c1955 : Kt p e below T1940 st0 (mkF m 263 #[vj j_, .second, vi f_, vi m_, vi n_, vi qa, vi qb, vj op, .second, vr b5, vr b33, vr b67, vi 1, vi 1, vi 1, vi 1, u_] [(rr b67), (rr b5)]) := fun t k => by
           refine c1953 t ?_
           show S_ p e below T1940 m 224 #[vj j_, .second, vi f_, vi m_, vi n_, vi qa, vi qb, vj op, .second, vr b5, vr b33, vr b67, vi 1, vi 1, vi 1, vi 1, u_] [(.int (f_ &&& (64 : Int32)))] t
           refine yI X1940.here hx rfl 224 254 rfl (hb hby at_224) rfl ((if0 _ _).trans (teq hc1954).1) ?_
           refine XS.iload X1940.here hx rfl (hb hby at_254) rfl ?_
           refine XS.ifNo X1940.here hx rfl (hb hby at_256) rfl rfl ?_
           refine XS.aload X1940.here hx rfl (hb hby at_259) rfl rfl ?_
           refine XS.aload X1940.here hx rfl (hb hby at_261) rfl rfl ?_
           exact k
          obtain ⟨_, T1956, L1956, X1956, hQ1956, c1956⟩ := kvirt X1940 hx hZ72 hown72 (w116 hw) (w117 hw) (w119 hw) (w118 hw) (w120 hw) (w4 hw) (rm_rmSF l Z a0 hw [] b5 b67 b13 b14 b33 T1940.heap n0 o1951 ((f166.keep K1931).keep K1942) ((f189.keep K1931).keep K1942) ((f169.keep K1931 (ninS q168 (ninS q190 nin0))).keep K1942 (ninS q167 (ninS q190 (ninS q168 nin0)))) ((f170.keep K1931 (ninS q168 (ninS q190 nin0))).keep K1942 (ninS q167 (ninS q190 (ninS q168 nin0)))) g67 ((f171.keep K1931).keep K1942) g29 p1946 p1947 ((f181.keep K1931).keep K1942) g33 q182.symm p1948 p1949 p1950 p1943 p1944 p1945) rfl ((f166.keep K1931).keep K1942) c1955 hml pd_pLcom_example_lexchange_lexchange_Order_rV [(rr b67)] [] 0 (hb hby at_263) rfl rfl rfl rfl rfl rfl
          obtain ⟨rfl, N1957q, K1958, p1959, p1960, p1961, p1962, p1963, p1964, p1965, p1966⟩ := hQ1956
          have N1957 := Fr.app N1941 N1957q
          have o1967 := o1951.keep K1958 (allS g67 (allS g29 (allS g33 all0)))
          have kp1968 := kp1952.trans K1958 (allS (Or.inr z70) (allS (Or.inr z28) (allS (Or.inr z36) all0)))
          have f1969 := ((f169.keep K1931 (ninS q168 (ninS q190 nin0))).keep K1942 (ninS q167 (ninS q190 (ninS q168 nin0)))).keep K1958 (ninS q168 (ninS q190 (ninS q167 nin0)))
          have f1970 := ((f170.keep K1931 (ninS q168 (ninS q190 nin0))).keep K1942 (ninS q167 (ninS q190 (ninS q168 nin0)))).keep K1958 (ninS q168 (ninS q190 (ninS q167 nin0)))
          have c1971 : Kt p e below T1956 st0 (mkF m 275 #[vj j_, .second, vi f_, vi m_, vi n_, vi qa, vi qb, vj op, .second, vr b5, vr b33, vr b67, vi 1, vi 1, vi 1, vi 1, u_] [(rr b33), (rr b5)]) := fun t k => by
           refine c1956 t ?_
           show S_ p e below T1956 m 266 #[vj j_, .second, vi f_, vi m_, vi n_, vi qa, vi qb, vj op, .second, vr b5, vr b33, vr b67, vi 1, vi 1, vi 1, vi 1, u_] [] t
           refine XS.iload X1956.here hx rfl (hb hby at_266) rfl ?_
           refine XS.ifNo X1956.here hx rfl (hb hby at_268) rfl rfl ?_
           refine XS.aload X1956.here hx rfl (hb hby at_271) rfl rfl ?_
           refine XS.aload X1956.here hx rfl (hb hby at_273) rfl rfl ?_
           exact k
          obtain ⟨_, T1972, L1972, X1972, hQ1972, c1972⟩ := kvirt X1956 hx hZ72 hown72 (w116 hw) (w117 hw) (w119 hw) (w118 hw) (w120 hw) (w4 hw) (rm_rmS1 l Z a0 hw [] b5 b33 b13 b14 T1956.heap n0 o1967 (((f166.keep K1931).keep K1942).keep K1958) (((f181.keep K1931).keep K1942).keep K1958) f1969 f1970 g33 (((f171.keep K1931).keep K1942).keep K1958) g29 p1962 p1963 p1964 p1965 p1966) rfl (((f166.keep K1931).keep K1942).keep K1958) c1971 hml pd_pLcom_example_lexchange_lexchange_Order_rV [(rr b33)] [] 0 (hb hby at_275) rfl rfl rfl rfl rfl rfl
          obtain ⟨rfl, N1973q, K1974, p1975, p1976, p1977, p1978, p1979⟩ := hQ1972
          have N1973 := Fr.app N1957 N1973q
          have o1980 := o1967.keep K1974 (allS g33 (allS g29 all0))
          have kp1981 := kp1968.trans K1974 (allS (Or.inr z36) (allS (Or.inr z28) all0))
          have K2013 : Keep T1940.heap T1972.heap [b67, b13, b33] := (((Keep.refl _ _).trans K1958 (allS (Or.inl (List.mem_of_getElem? (i := 0) rfl)) (allS (Or.inl (List.mem_of_getElem? (i := 1) rfl)) (allS (Or.inl (List.mem_of_getElem? (i := 2) rfl)) all0)))).trans K1974 (allS (Or.inl (List.mem_of_getElem? (i := 2) rfl)) (allS (Or.inl (List.mem_of_getElem? (i := 1) rfl)) all0)))
          exact ⟨T1972, _, _, X1972.mono (by decide) (by decide), rfl, o1980, K2013, kp1981, N1973, p1978, c1972⟩
         ·have c1982 : Kt p e below T1940 st0 (mkF m 236 #[vj j_, .second, vi f_, vi m_, vi n_, vi qa, vi qb, vj op, .second, vr b5, vr b33, vr b67, vi 1, vi 1, vi 1, vi 1, u_] [(rr b33), (rr b5)]) := fun t k => by
           refine c1953 t ?_
           show S_ p e below T1940 m 224 #[vj j_, .second, vi f_, vi m_, vi n_, vi qa, vi qb, vj op, .second, vr b5, vr b33, vr b67, vi 1, vi 1, vi 1, vi 1, u_] [(.int (f_ &&& (64 : Int32)))] t
           refine XS.ifNo X1940.here hx rfl (hb hby at_224) rfl ((if0 _ _).trans (feq hc1954).1) ?_
           refine XS.iload X1940.here hx rfl (hb hby at_227) rfl ?_
           refine XS.ifNo X1940.here hx rfl (hb hby at_229) rfl rfl ?_
           refine XS.aload X1940.here hx rfl (hb hby at_232) rfl rfl ?_
           refine XS.aload X1940.here hx rfl (hb hby at_234) rfl rfl ?_
           exact k
          obtain ⟨_, T1983, L1983, X1983, hQ1983, c1983⟩ := kvirt X1940 hx hZ72 hown72 (w116 hw) (w117 hw) (w119 hw) (w118 hw) (w120 hw) (w4 hw) (rm_rmSL l Z a0 hw [] b5 b33 b13 b14 b67 T1940.heap n0 o1951 ((f166.keep K1931).keep K1942) ((f181.keep K1931).keep K1942) ((f169.keep K1931 (ninS q168 (ninS q190 nin0))).keep K1942 (ninS q167 (ninS q190 (ninS q168 nin0)))) ((f170.keep K1931 (ninS q168 (ninS q190 nin0))).keep K1942 (ninS q167 (ninS q190 (ninS q168 nin0)))) g33 ((f171.keep K1931).keep K1942) g29 p1946 p1947 ((f189.keep K1931).keep K1942) g67 q182 p1943 p1944 p1945 p1948 p1949 p1950) rfl ((f166.keep K1931).keep K1942) c1982 hml pd_pLcom_example_lexchange_lexchange_Order_rV [(rr b33)] [] 0 (hb hby at_236) rfl rfl rfl rfl rfl rfl
          obtain ⟨rfl, N1984q, K1985, p1986, p1987, p1988, p1989, p1990, p1991, p1992, p1993⟩ := hQ1983
          have N1984 := Fr.app N1941 N1984q
          have o1994 := o1951.keep K1985 (allS g33 (allS g29 (allS g67 all0)))
          have kp1995 := kp1952.trans K1985 (allS (Or.inr z36) (allS (Or.inr z28) (allS (Or.inr z70) all0)))
          have f1996 := ((f169.keep K1931 (ninS q168 (ninS q190 nin0))).keep K1942 (ninS q167 (ninS q190 (ninS q168 nin0)))).keep K1985 (ninS q167 (ninS q190 (ninS q168 nin0)))
          have f1997 := ((f170.keep K1931 (ninS q168 (ninS q190 nin0))).keep K1942 (ninS q167 (ninS q190 (ninS q168 nin0)))).keep K1985 (ninS q167 (ninS q190 (ninS q168 nin0)))
          have c1998 : Kt p e below T1983 st0 (mkF m 248 #[vj j_, .second, vi f_, vi m_, vi n_, vi qa, vi qb, vj op, .second, vr b5, vr b33, vr b67, vi 1, vi 1, vi 1, vi 1, u_] [(rr b67), (rr b5)]) := fun t k => by
           refine c1983 t ?_
           show S_ p e below T1983 m 239 #[vj j_, .second, vi f_, vi m_, vi n_, vi qa, vi qb, vj op, .second, vr b5, vr b33, vr b67, vi 1, vi 1, vi 1, vi 1, u_] [] t
           refine XS.iload X1983.here hx rfl (hb hby at_239) rfl ?_
           refine XS.ifNo X1983.here hx rfl (hb hby at_241) rfl rfl ?_
           refine XS.aload X1983.here hx rfl (hb hby at_244) rfl rfl ?_
           refine XS.aload X1983.here hx rfl (hb hby at_246) rfl rfl ?_
           exact k
          obtain ⟨_, T1999, L1999, X1999, hQ1999, c1999⟩ := kvirt X1983 hx hZ72 hown72 (w116 hw) (w117 hw) (w119 hw) (w118 hw) (w120 hw) (w4 hw) (rm_rmS1 l Z a0 hw [] b5 b67 b13 b14 T1983.heap n0 o1994 (((f166.keep K1931).keep K1942).keep K1985) (((f189.keep K1931).keep K1942).keep K1985) f1996 f1997 g67 (((f171.keep K1931).keep K1942).keep K1985) g29 p1989 p1990 p1991 p1992 p1993) rfl (((f166.keep K1931).keep K1942).keep K1985) c1998 hml pd_pLcom_example_lexchange_lexchange_Order_rV [(rr b67)] [] 0 (hb hby at_248) rfl rfl rfl rfl rfl rfl
          obtain ⟨rfl, N2000q, K2001, p2002, p2003, p2004, p2005, p2006⟩ := hQ1999
          have N2000 := Fr.app N1984 N2000q
          have o2007 := o1994.keep K2001 (allS g67 (allS g29 all0))
          have kp2008 := kp1995.trans K2001 (allS (Or.inr z70) (allS (Or.inr z28) all0))
          have c2009 : Kt p e below T1999 st0 (mkF m 278 #[vj j_, .second, vi f_, vi m_, vi n_, vi qa, vi qb, vj op, .second, vr b5, vr b33, vr b67, vi 1, vi 1, vi 1, vi 1, u_] []) := fun t k => by
           refine c1999 t ?_
           show S_ p e below T1999 m 251 #[vj j_, .second, vi f_, vi m_, vi n_, vi qa, vi qb, vj op, .second, vr b5, vr b33, vr b67, vi 1, vi 1, vi 1, vi 1, u_] [] t
           refine yG X1999.here hx rfl 251 278 rfl (hb hby at_251) ?_
           exact k
          have K2012 : Keep T1940.heap T1999.heap [b67, b13, b33] := (((Keep.refl _ _).trans K1985 (allS (Or.inl (List.mem_of_getElem? (i := 2) rfl)) (allS (Or.inl (List.mem_of_getElem? (i := 1) rfl)) (allS (Or.inl (List.mem_of_getElem? (i := 0) rfl)) all0)))).trans K2001 (allS (Or.inl (List.mem_of_getElem? (i := 0) rfl)) (allS (Or.inl (List.mem_of_getElem? (i := 1) rfl)) all0)))
          exact ⟨T1999, _, _, X1999.mono (by decide) (by decide), rfl, o2007, K2012, kp2008, N2000, p2005, c2009⟩
        have f2014 := ((f169.keep K1931 (ninS q168 (ninS q190 nin0))).keep K1942 (ninS q167 (ninS q190 (ninS q168 nin0)))).keep K2010 (ninS q168 (ninS q190 (ninS q167 nin0)))
        have f2015 := ((f170.keep K1931 (ninS q168 (ninS q190 nin0))).keep K1942 (ninS q167 (ninS q190 (ninS q168 nin0)))).keep K2010 (ninS q168 (ninS q190 (ninS q167 nin0)))
        have f2016 := ((f179.keep K1931 (ninS q178 (ninS p25.symm nin0))).keep K1942 (ninS q177 (ninS p25.symm (ninS q178 nin0)))).keep K2010 (ninS q178 (ninS p25.symm (ninS q177 nin0)))
        have c2017 : Kt p e below T2010 st0 (mkF m 315 #[vj j_, .second, vi f_, vi m_, vi n_, vi qa, vi qb, vj op, .second, vr b5, vr b33, vr b67, vi 1, vi 1, vi 1, vi 1, vi 0] [(rr b5)]) := fun t k => by
         refine c2010 t ?_
         show S_ p e below T2010 m 278 #[vj j_, .second, vi f_, vi m_, vi n_, vi qa, vi qb, vj op, .second, vr b5, vr b33, vr b67, vi 1, vi 1, vi 1, vi 1, u_] [] t
         refine XS.iconst X2010.here hx rfl (hb hby at_278) ?_
         refine XS.istore X2010.here hx rfl (hb hby at_279) rfl (l' := #[vj j_, .second, vi f_, vi m_, vi n_, vi qa, vi qb, vj op, .second, vr b5, vr b33, vr b67, vi 1, vi 1, vi 1, vi 1, vi 0]) rfl ?_
         refine XS.iload X2010.here hx rfl (hb hby at_281) rfl ?_
         refine XS.ifNo X2010.here hx rfl (hb hby at_283) rfl rfl ?_
         refine XS.iload X2010.here hx rfl (hb hby at_286) rfl ?_
         refine yI X2010.here hx rfl 288 297 rfl (hb hby at_288) rfl rfl ?_
         refine XS.iload X2010.here hx rfl (hb hby at_297) rfl ?_
         refine XS.ifNo X2010.here hx rfl (hb hby at_299) rfl rfl ?_
         show S_ p e below T2010 m 302 #[vj j_, .second, vi f_, vi m_, vi n_, vi qa, vi qb, vj op, .second, vr b5, vr b33, vr b67, vi 1, vi 1, vi 1, vi 1, vi 0] [] t
         refine XS.iload X2010.here hx rfl (hb hby at_302) rfl ?_
         refine yI X2010.here hx rfl 304 313 rfl (hb hby at_304) rfl rfl ?_
         refine XS.aload X2010.here hx rfl (hb hby at_313) rfl rfl ?_
         exact k
        obtain ⟨_, T2018, L2018, X2018, hQ2018, c2018⟩ := kvirt X2010 hx hZ72 hown72 (w87 hw) (w88 hw) (w90 hw) (w89 hw) (w91 hw) (w4 hw) (rm_emE l Z a0 hw [] b5 b13 b14 h2010 n0 o2010 (((f166.keep K1931).keep K1942).keep K2010) f2014 f2015 f2011 f2016) e2010 (((f166.keep K1931).keep K1942).keep K2010) c2017 hml pd_prZ [] [] 0 (hb hby at_315) rfl rfl rfl rfl rfl rfl
        obtain ⟨rfl, N2019q, K2020⟩ := hQ2018
        have N2019 := Fr.app N2010 N2019q
        obtain ⟨fs, hr, hrun, hended, hRW⟩ := X2018.leaveW hS72 (by first | exact (Nat.le_trans hk72 (Nat.le_trans (Nat.le_trans (Nat.le_trans (Nat.le_trans (Nat.le_trans K91.1 K123.1) K156.1) K1931.1) K1942.1) K2010.1)) | (rw [K2020]; exact (Nat.le_trans hk72 (Nat.le_trans (Nat.le_trans (Nat.le_trans (Nat.le_trans (Nat.le_trans K91.1 K123.1) K156.1) K1931.1) K1942.1) K2010.1)))) (v := some (ii 1)) (fun h => by rw [Bd.returns] at h; cases h)
        refine ⟨_, _, c2018 _ ?_, hrun, hended, _, _, rfl, ?_, hRW.1, hRW.2.1, hRW.2.2.1, hRW.2.2.2.mono (by decide) (by decide)⟩
        ·show S_ p e below T2018 m 318 #[vj j_, .second, vi f_, vi m_, vi n_, vi qa, vi qb, vj op, .second, vr b5, vr b33, vr b67, vi 1, vi 1, vi 1, vi 1, vi 0] [(ii 1)] _
         refine XS.iload X2018.here hx rfl (hb hby at_318) rfl ?_
         refine XS.ifNo X2018.here hx rfl (hb hby at_320) rfl rfl ?_
         refine XS.iconst X2018.here hx rfl (hb hby at_323) ?_
         refine yG X2018.here hx rfl 324 328 rfl (hb hby at_324) ?_
         refine XS.icmpNo X2018.here hx rfl (hb hby at_328) rfl rfl ?_
         refine XS.iconst X2018.here hx rfl (hb hby at_331) ?_
         refine yG X2018.here hx rfl 332 336 rfl (hb hby at_332) ?_
         show S_ p e below T2018 m 336 #[vj j_, .second, vi f_, vi m_, vi n_, vi qa, vi qb, vj op, .second, vr b5, vr b33, vr b67, vi 1, vi 1, vi 1, vi 1, vi 0] [(ii 1)] _
         exact retN X2018 hx (t := .boolean) Bd.returns (by simp) (hb hby at_336) hr
        ·show Q_law Z j_ f_ m_ n_ sa5_ sa9_ sa13_ sa17_ h0 n0 _ T2018.heap _
         rw [K2020]
         exact ⟨rfl, N2019, kp2010⟩
       ·have c2021 : Kt p e below T156 st0 (mkF m 178 #[vj j_, .second, vi f_, vi m_, vi n_, vi qa, vi qb, vj op, .second, vr b5, vr b33, vr b67, vi 1, vi 1, vi 1, vi 1, u_] [(rr b33), (rr b5)]) := fun t k => by
         refine c1926 t ?_
         show S_ p e below T156 m 166 #[vj j_, .second, vi f_, vi m_, vi n_, vi qa, vi qb, vj op, .second, vr b5, vr b33, vr b67, vi 1, vi 1, vi 1, vi 1, u_] [(.int (f_ &&& (128 : Int32)))] t
         refine XS.ifNo X156.here hx rfl (hb hby at_166) rfl ((if0 _ _).trans (feq hc1927).1) ?_
         refine XS.iload X156.here hx rfl (hb hby at_169) rfl ?_
         refine XS.ifNo X156.here hx rfl (hb hby at_171) rfl rfl ?_
         refine XS.aload X156.here hx rfl (hb hby at_174) rfl rfl ?_
         refine XS.aload X156.here hx rfl (hb hby at_176) rfl rfl ?_
         exact k
        obtain ⟨_, T2022, L2022, X2022, hQ2022, c2022⟩ := kvirt X156 hx hZ72 hown72 (w94 hw) (w95 hw) (w97 hw) (w96 hw) (w98 hw) (w4 hw) (rm_addSN l Z a0 hw [] b5 b33 b13 b14 sa17_ mv122 h156 n0 o156 f166 f181 f169 f170 f183 f185 f186 f187 f188 g33 ZE7_ ZF8_ f171 g29 f175 f176 hc1924) e156 f166 c2021 hml pd_pLcom_example_lexchange_lexchange_Order_rV [(rr b33)] [] 0 (hb hby at_178) rfl rfl rfl rfl rfl rfl
        obtain ⟨rfl, N2023q, K2024, p2025, p2026, p2027, p2028, p2029⟩ := hQ2022
        have N2023 := Fr.app N156 N2023q
        have o2030 := o156.keep K2024 (allS g33 (allS g29 all0))
        have kp2031 := kp156.trans K2024 (allS (Or.inr z36) (allS (Or.inr z28) all0))
        have c2032 : Kt p e below T2022 st0 (mkF m 190 #[vj j_, .second, vi f_, vi m_, vi n_, vi qa, vi qb, vj op, .second, vr b5, vr b33, vr b67, vi 1, vi 1, vi 1, vi 1, u_] [(rr b67), (rr b5)]) := fun t k => by
         refine c2022 t ?_
         show S_ p e below T2022 m 181 #[vj j_, .second, vi f_, vi m_, vi n_, vi qa, vi qb, vj op, .second, vr b5, vr b33, vr b67, vi 1, vi 1, vi 1, vi 1, u_] [] t
         refine XS.iload X2022.here hx rfl (hb hby at_181) rfl ?_
         refine XS.ifNo X2022.here hx rfl (hb hby at_183) rfl rfl ?_
         refine XS.aload X2022.here hx rfl (hb hby at_186) rfl rfl ?_
         refine XS.aload X2022.here hx rfl (hb hby at_188) rfl rfl ?_
         exact k
        obtain ⟨_, T2033, L2033, X2033, hQ2033, c2033⟩ := kvirt X2022 hx hZ72 hown72 (w94 hw) (w95 hw) (w97 hw) (w96 hw) (w98 hw) (w4 hw) (rm_addSR l Z a0 hw [] b5 b67 b13 b14 sa17_ mv155 b33 T2022.heap n0 o2030 (f166.keep K2024) (f189.keep K2024) (f169.keep K2024 (ninS q167 (ninS q190 nin0))) (f170.keep K2024 (ninS q167 (ninS q190 nin0))) (f157.keep K2024 (ninS q182.symm (ninS q174.symm nin0))) (f159.keep K2024 (ninS q182.symm (ninS q174.symm nin0))) (f160.keep K2024 (ninS q182.symm (ninS q174.symm nin0))) (f161.keep K2024 (ninS q182.symm (ninS q174.symm nin0))) (f162.keep K2024 (ninS q182.symm (ninS q174.symm nin0))) g67 ZE7_ ZF8_ (f171.keep K2024) g29 p2028 p2029 (f181.keep K2024) g33 q182 p2025 p2026 p2027 hc1925) rfl (f166.keep K2024) c2032 hml pd_pLcom_example_lexchange_lexchange_Order_rV [(rr b67)] [] 0 (hb hby at_190) rfl rfl rfl rfl rfl rfl
        obtain ⟨rfl, N2034q, K2035, p2036, p2037, p2038, p2039, p2040, p2041, p2042, p2043⟩ := hQ2033
        have N2034 := Fr.app N2023 N2034q
        have o2044 := o2030.keep K2035 (allS g67 (allS g29 (allS g33 all0)))
        have kp2045 := kp2031.trans K2035 (allS (Or.inr z70) (allS (Or.inr z28) (allS (Or.inr z36) all0)))
        have c2046 : Kt p e below T2033 st0 (mkF m 224 #[vj j_, .second, vi f_, vi m_, vi n_, vi qa, vi qb, vj op, .second, vr b5, vr b33, vr b67, vi 1, vi 1, vi 1, vi 1, u_] [(.int (f_ &&& (64 : Int32)))]) := fun t k => by
         refine c2033 t ?_
         show S_ p e below T2033 m 193 #[vj j_, .second, vi f_, vi m_, vi n_, vi qa, vi qb, vj op, .second, vr b5, vr b33, vr b67, vi 1, vi 1, vi 1, vi 1, u_] [] t
         refine yG X2033.here hx rfl 193 220 rfl (hb hby at_193) ?_
         refine XS.iloadN X2033.here hx rfl (hb hby at_220) rfl ?_
         refine XS.bipush X2033.here hx rfl (hb hby at_221) ?_
         refine XS.iand X2033.here hx rfl (hb hby at_223) rfl ?_
         exact k
        obtain ⟨T2103, h2103, L2103, X2103, e2103, o2103, K2103, kp2103, N2103, f2104, c2103⟩ : ∃ (T2103 : State) (h2103 : Heap) (L2103 : List Loc), Stand p l e room_1 (s.setVm T72.vm) m #[(.long j_), (.int f_), (.int m_), (.int n_)] below meth c T2103 L2103 9 49 ∧ T2103.heap = h2103 ∧ Old Z n0 h2103 ∧ Keep T2033.heap h2103 [b67, b13, b33] ∧ Keep h0 h2103 [] ∧ Fr n0 L2103 ∧ Fld Z h2103 b13 nm2 "head" nm1 .null ∧ Kt p e below T2103 st0 (mkF m 278 #[vj j_, .second, vi f_, vi m_, vi n_, vi qa, vi qb, vj op, .second, vr b5, vr b33, vr b67, vi 1, vi 1, vi 1, vi 1, u_] []) := by
         by_cases hc2047 : (f_ &&& (64 : Int32)) = (0 : Int32)
         ·have c2048 : Kt p e below T2033 st0 (mkF m 263 #[vj j_, .second, vi f_, vi m_, vi n_, vi qa, vi qb, vj op, .second, vr b5, vr b33, vr b67, vi 1, vi 1, vi 1, vi 1, u_] [(rr b67), (rr b5)]) := fun t k => by
           refine c2046 t ?_
           show S_ p e below T2033 m 224 #[vj j_, .second, vi f_, vi m_, vi n_, vi qa, vi qb, vj op, .second, vr b5, vr b33, vr b67, vi 1, vi 1, vi 1, vi 1, u_] [(.int (f_ &&& (64 : Int32)))] t
           refine yI X2033.here hx rfl 224 254 rfl (hb hby at_224) rfl ((if0 _ _).trans (teq hc2047).1) ?_
           refine XS.iload X2033.here hx rfl (hb hby at_254) rfl ?_
           refine XS.ifNo X2033.here hx rfl (hb hby at_256) rfl rfl ?_
           refine XS.aload X2033.here hx rfl (hb hby at_259) rfl rfl ?_
           refine XS.aload X2033.here hx rfl (hb hby at_261) rfl rfl ?_
           exact k
          obtain ⟨_, T2049, L2049, X2049, hQ2049, c2049⟩ := kvirt X2033 hx hZ72 hown72 (w116 hw) (w117 hw) (w119 hw) (w118 hw) (w120 hw) (w4 hw) (rm_rmSL l Z a0 hw [] b5 b67 b13 b14 b33 T2033.heap n0 o2044 ((f166.keep K2024).keep K2035) ((f189.keep K2024).keep K2035) ((f169.keep K2024 (ninS q167 (ninS q190 nin0))).keep K2035 (ninS q168 (ninS q190 (ninS q167 nin0)))) ((f170.keep K2024 (ninS q167 (ninS q190 nin0))).keep K2035 (ninS q168 (ninS q190 (ninS q167 nin0)))) g67 ((f171.keep K2024).keep K2035) g29 p2039 p2040 ((f181.keep K2024).keep K2035) g33 q182.symm p2036 p2037 p2038 p2041 p2042 p2043) rfl ((f166.keep K2024).keep K2035) c2048 hml pd_pLcom_example_lexchange_lexchange_Order_rV [(rr b67)] [] 0 (hb hby at_263) rfl rfl rfl rfl rfl rfl
          obtain ⟨rfl, N2050q, K2051, p2052, p2053, p2054, p2055, p2056, p2057, p2058, p2059⟩ := hQ2049
          have N2050 := Fr.app N2034 N2050q
          have o2060 := o2044.keep K2051 (allS g67 (allS g29 (allS g33 all0)))
          have kp2061 := kp2045.trans K2051 (allS (Or.inr z70) (allS (Or.inr z28) (allS (Or.inr z36) all0)))
          have f2062 := ((f169.keep K2024 (ninS q167 (ninS q190 nin0))).keep K2035 (ninS q168 (ninS q190 (ninS q167 nin0)))).keep K2051 (ninS q168 (ninS q190 (ninS q167 nin0)))
          have f2063 := ((f170.keep K2024 (ninS q167 (ninS q190 nin0))).keep K2035 (ninS q168 (ninS q190 (ninS q167 nin0)))).keep K2051 (ninS q168 (ninS q190 (ninS q167 nin0)))
          have c2064 : Kt p e below T2049 st0 (mkF m 275 #[vj j_, .second, vi f_, vi m_, vi n_, vi qa, vi qb, vj op, .second, vr b5, vr b33, vr b67, vi 1, vi 1, vi 1, vi 1, u_] [(rr b33), (rr b5)]) := fun t k => by
           refine c2049 t ?_
           show S_ p e below T2049 m 266 #[vj j_, .second, vi f_, vi m_, vi n_, vi qa, vi qb, vj op, .second, vr b5, vr b33, vr b67, vi 1, vi 1, vi 1, vi 1, u_] [] t
           refine XS.iload X2049.here hx rfl (hb hby at_266) rfl ?_
           refine XS.ifNo X2049.here hx rfl (hb hby at_268) rfl rfl ?_
           refine XS.aload X2049.here hx rfl (hb hby at_271) rfl rfl ?_
           refine XS.aload X2049.here hx rfl (hb hby at_273) rfl rfl ?_
           exact k
          obtain ⟨_, T2065, L2065, X2065, hQ2065, c2065⟩ := kvirt X2049 hx hZ72 hown72 (w116 hw) (w117 hw) (w119 hw) (w118 hw) (w120 hw) (w4 hw) (rm_rmS1 l Z a0 hw [] b5 b33 b13 b14 T2049.heap n0 o2060 (((f166.keep K2024).keep K2035).keep K2051) (((f181.keep K2024).keep K2035).keep K2051) f2062 f2063 g33 (((f171.keep K2024).keep K2035).keep K2051) g29 p2055 p2056 p2057 p2058 p2059) rfl (((f166.keep K2024).keep K2035).keep K2051) c2064 hml pd_pLcom_example_lexchange_lexchange_Order_rV [(rr b33)] [] 0 (hb hby at_275) rfl rfl rfl rfl rfl rfl
          obtain ⟨rfl, N2066q, K2067, p2068, p2069, p2070, p2071, p2072⟩ := hQ2065
          have N2066 := Fr.app N2050 N2066q
          have o2073 := o2060.keep K2067 (allS g33 (allS g29 all0))
          have kp2074 := kp2061.trans K2067 (allS (Or.inr z36) (allS (Or.inr z28) all0))
          have K2106 : Keep T2033.heap T2065.heap [b67, b13, b33] := (((Keep.refl _ _).trans K2051 (allS (Or.inl (List.mem_of_getElem? (i := 0) rfl)) (allS (Or.inl (List.mem_of_getElem? (i := 1) rfl)) (allS (Or.inl (List.mem_of_getElem? (i := 2) rfl)) all0)))).trans K2067 (allS (Or.inl (List.mem_of_getElem? (i := 2) rfl)) (allS (Or.inl (List.mem_of_getElem? (i := 1) rfl)) all0)))
          exact ⟨T2065, _, _, X2065.mono (by decide) (by decide), rfl, o2073, K2106, kp2074, N2066, p2071, c2065⟩
         ·have c2075 : Kt p e below T2033 st0 (mkF m 236 #[vj j_, .second, vi f_, vi m_, vi n_, vi qa, vi qb, vj op, .second, vr b5, vr b33, vr b67, vi 1, vi 1, vi 1, vi 1, u_] [(rr b33), (rr b5)]) := fun t k => by
           refine c2046 t ?_
           show S_ p e below T2033 m 224 #[vj j_, .second, vi f_, vi m_, vi n_, vi qa, vi qb, vj op, .second, vr b5, vr b33, vr b67, vi 1, vi 1, vi 1, vi 1, u_] [(.int (f_ &&& (64 : Int32)))] t
           refine XS.ifNo X2033.here hx rfl (hb hby at_224) rfl ((if0 _ _).trans (feq hc2047).1) ?_
           refine XS.iload X2033.here hx rfl (hb hby at_227) rfl ?_
           refine XS.ifNo X2033.here hx rfl (hb hby at_229) rfl rfl ?_
           refine XS.aload X2033.here hx rfl (hb hby at_232) rfl rfl ?_
           refine XS.aload X2033.here hx rfl (hb hby at_234) rfl rfl ?_
           exact k
          obtain ⟨_, T2076, L2076, X2076, hQ2076, c2076⟩ := kvirt X2033 hx hZ72 hown72 (w116 hw) (w117 hw) (w119 hw) (w118 hw) (w120 hw) (w4 hw) (rm_rmSF l Z a0 hw [] b5 b33 b13 b14 b67 T2033.heap n0 o2044 ((f166.keep K2024).keep K2035) ((f181.keep K2024).keep K2035) ((f169.keep K2024 (ninS q167 (ninS q190 nin0))).keep K2035 (ninS q168 (ninS q190 (ninS q167 nin0)))) ((f170.keep K2024 (ninS q167 (ninS q190 nin0))).keep K2035 (ninS q168 (ninS q190 (ninS q167 nin0)))) g33 ((f171.keep K2024).keep K2035) g29 p2039 p2040 ((f189.keep K2024).keep K2035) g67 q182 p2041 p2042 p2043 p2036 p2037 p2038) rfl ((f166.keep K2024).keep K2035) c2075 hml pd_pLcom_example_lexchange_lexchange_Order_rV [(rr b33)] [] 0 (hb hby at_236) rfl rfl rfl rfl rfl rfl
          obtain ⟨rfl, N2077q, K2078, p2079, p2080, p2081, p2082, p2083, p2084, p2085, p2086⟩ := hQ2076
          have N2077 := Fr.app N2034 N2077q
          have o2087 := o2044.keep K2078 (allS g33 (allS g29 (allS g67 all0)))
          have kp2088 := kp2045.trans K2078 (allS (Or.inr z36) (allS (Or.inr z28) (allS (Or.inr z70) all0)))
          have f2089 := ((f169.keep K2024 (ninS q167 (ninS q190 nin0))).keep K2035 (ninS q168 (ninS q190 (ninS q167 nin0)))).keep K2078 (ninS q167 (ninS q190 (ninS q168 nin0)))
          have f2090 := ((f170.keep K2024 (ninS q167 (ninS q190 nin0))).keep K2035 (ninS q168 (ninS q190 (ninS q167 nin0)))).keep K2078 (ninS q167 (ninS q190 (ninS q168 nin0)))
          have c2091 : Kt p e below T2076 st0 (mkF m 248 #[vj j_, .second, vi f_, vi m_, vi n_, vi qa, vi qb, vj op, .second, vr b5, vr b33, vr b67, vi 1, vi 1, vi 1, vi 1, u_] [(rr b67), (rr b5)]) := fun t k => by
           refine c2076 t ?_
           show S_ p e below T2076 m 239 #[vj j_, .second, vi f_, vi m_, vi n_, vi qa, vi qb, vj op, .second, vr b5, vr b33, vr b67, vi 1, vi 1, vi 1, vi 1, u_] [] t
           refine XS.iload X2076.here hx rfl (hb hby at_239) rfl ?_
           refine XS.ifNo X2076.here hx rfl (hb hby at_241) rfl rfl ?_
           refine XS.aload X2076.here hx rfl (hb hby at_244) rfl rfl ?_
           refine XS.aload X2076.here hx rfl (hb hby at_246) rfl rfl ?_
           exact k
          obtain ⟨_, T2092, L2092, X2092, hQ2092, c2092⟩ := kvirt X2076 hx hZ72 hown72 (w116 hw) (w117 hw) (w119 hw) (w118 hw) (w120 hw) (w4 hw) (rm_rmS1 l Z a0 hw [] b5 b67 b13 b14 T2076.heap n0 o2087 (((f166.keep K2024).keep K2035).keep K2078) (((f189.keep K2024).keep K2035).keep K2078) f2089 f2090 g67 (((f171.keep K2024).keep K2035).keep K2078) g29 p2082 p2083 p2084 p2085 p2086) rfl (((f166.keep K2024).keep K2035).keep K2078) c2091 hml pd_pLcom_example_lexchange_lexchange_Order_rV [(rr b67)] [] 0 (hb hby at_248) rfl rfl rfl rfl rfl rfl
          obtain ⟨rfl, N2093q, K2094, p2095, p2096, p2097, p2098, p2099⟩ := hQ2092
          have N2093 := Fr.app N2077 N2093q
          have o2100 := o2087.keep K2094 (allS g67 (allS g29 all0))
          have kp2101 := kp2088.trans K2094 (allS (Or.inr z70) (allS (Or.inr z28) all0))
          have c2102 : Kt p e below T2092 st0 (mkF m 278 #[vj j_, .second, vi f_, vi m_, vi n_, vi qa, vi qb, vj op, .second, vr b5, vr b33, vr b67, vi 1, vi 1, vi 1, vi 1, u_] []) := fun t k => by
           refine c2092 t ?_
           show S_ p e below T2092 m 251 #[vj j_, .second, vi f_, vi m_, vi n_, vi qa, vi qb, vj op, .second, vr b5, vr b33, vr b67, vi 1, vi 1, vi 1, vi 1, u_] [] t
           refine yG X2092.here hx rfl 251 278 rfl (hb hby at_251) ?_
           exact k
          have K2105 : Keep T2033.heap T2092.heap [b67, b13, b33] := (((Keep.refl _ _).trans K2078 (allS (Or.inl (List.mem_of_getElem? (i := 2) rfl)) (allS (Or.inl (List.mem_of_getElem? (i := 1) rfl)) (allS (Or.inl (List.mem_of_getElem? (i := 0) rfl)) all0)))).trans K2094 (allS (Or.inl (List.mem_of_getElem? (i := 0) rfl)) (allS (Or.inl (List.mem_of_getElem? (i := 1) rfl)) all0)))
          exact ⟨T2092, _, _, X2092.mono (by decide) (by decide), rfl, o2100, K2105, kp2101, N2093, p2098, c2102⟩
        have f2107 := ((f169.keep K2024 (ninS q167 (ninS q190 nin0))).keep K2035 (ninS q168 (ninS q190 (ninS q167 nin0)))).keep K2103 (ninS q168 (ninS q190 (ninS q167 nin0)))
        have f2108 := ((f170.keep K2024 (ninS q167 (ninS q190 nin0))).keep K2035 (ninS q168 (ninS q190 (ninS q167 nin0)))).keep K2103 (ninS q168 (ninS q190 (ninS q167 nin0)))
        have f2109 := ((f179.keep K2024 (ninS q177 (ninS p25.symm nin0))).keep K2035 (ninS q178 (ninS p25.symm (ninS q177 nin0)))).keep K2103 (ninS q178 (ninS p25.symm (ninS q177 nin0)))
        have c2110 : Kt p e below T2103 st0 (mkF m 315 #[vj j_, .second, vi f_, vi m_, vi n_, vi qa, vi qb, vj op, .second, vr b5, vr b33, vr b67, vi 1, vi 1, vi 1, vi 1, vi 0] [(rr b5)]) := fun t k => by
         refine c2103 t ?_
         show S_ p e below T2103 m 278 #[vj j_, .second, vi f_, vi m_, vi n_, vi qa, vi qb, vj op, .second, vr b5, vr b33, vr b67, vi 1, vi 1, vi 1, vi 1, u_] [] t
         refine XS.iconst X2103.here hx rfl (hb hby at_278) ?_
         refine XS.istore X2103.here hx rfl (hb hby at_279) rfl (l' := #[vj j_, .second, vi f_, vi m_, vi n_, vi qa, vi qb, vj op, .second, vr b5, vr b33, vr b67, vi 1, vi 1, vi 1, vi 1, vi 0]) rfl ?_
         refine XS.iload X2103.here hx rfl (hb hby at_281) rfl ?_
         refine XS.ifNo X2103.here hx rfl (hb hby at_283) rfl rfl ?_
         refine XS.iload X2103.here hx rfl (hb hby at_286) rfl ?_
         refine yI X2103.here hx rfl 288 297 rfl (hb hby at_288) rfl rfl ?_
         refine XS.iload X2103.here hx rfl (hb hby at_297) rfl ?_
         refine XS.ifNo X2103.here hx rfl (hb hby at_299) rfl rfl ?_
         show S_ p e below T2103 m 302 #[vj j_, .second, vi f_, vi m_, vi n_, vi qa, vi qb, vj op, .second, vr b5, vr b33, vr b67, vi 1, vi 1, vi 1, vi 1, vi 0] [] t
         refine XS.iload X2103.here hx rfl (hb hby at_302) rfl ?_
         refine yI X2103.here hx rfl 304 313 rfl (hb hby at_304) rfl rfl ?_
         refine XS.aload X2103.here hx rfl (hb hby at_313) rfl rfl ?_
         exact k
        obtain ⟨_, T2111, L2111, X2111, hQ2111, c2111⟩ := kvirt X2103 hx hZ72 hown72 (w87 hw) (w88 hw) (w90 hw) (w89 hw) (w91 hw) (w4 hw) (rm_emE l Z a0 hw [] b5 b13 b14 h2103 n0 o2103 (((f166.keep K2024).keep K2035).keep K2103) f2107 f2108 f2104 f2109) e2103 (((f166.keep K2024).keep K2035).keep K2103) c2110 hml pd_prZ [] [] 0 (hb hby at_315) rfl rfl rfl rfl rfl rfl
        obtain ⟨rfl, N2112q, K2113⟩ := hQ2111
        have N2112 := Fr.app N2103 N2112q
        obtain ⟨fs, hr, hrun, hended, hRW⟩ := X2111.leaveW hS72 (by first | exact (Nat.le_trans hk72 (Nat.le_trans (Nat.le_trans (Nat.le_trans (Nat.le_trans (Nat.le_trans K91.1 K123.1) K156.1) K2024.1) K2035.1) K2103.1)) | (rw [K2113]; exact (Nat.le_trans hk72 (Nat.le_trans (Nat.le_trans (Nat.le_trans (Nat.le_trans (Nat.le_trans K91.1 K123.1) K156.1) K2024.1) K2035.1) K2103.1)))) (v := some (ii 1)) (fun h => by rw [Bd.returns] at h; cases h)
        refine ⟨_, _, c2111 _ ?_, hrun, hended, _, _, rfl, ?_, hRW.1, hRW.2.1, hRW.2.2.1, hRW.2.2.2.mono (by decide) (by decide)⟩
        ·show S_ p e below T2111 m 318 #[vj j_, .second, vi f_, vi m_, vi n_, vi qa, vi qb, vj op, .second, vr b5, vr b33, vr b67, vi 1, vi 1, vi 1, vi 1, vi 0] [(ii 1)] _
         refine XS.iload X2111.here hx rfl (hb hby at_318) rfl ?_
         refine XS.ifNo X2111.here hx rfl (hb hby at_320) rfl rfl ?_
         refine XS.iconst X2111.here hx rfl (hb hby at_323) ?_
         refine yG X2111.here hx rfl 324 328 rfl (hb hby at_324) ?_
         refine XS.icmpNo X2111.here hx rfl (hb hby at_328) rfl rfl ?_
         refine XS.iconst X2111.here hx rfl (hb hby at_331) ?_
         refine yG X2111.here hx rfl 332 336 rfl (hb hby at_332) ?_
         show S_ p e below T2111 m 336 #[vj j_, .second, vi f_, vi m_, vi n_, vi qa, vi qb, vj op, .second, vr b5, vr b33, vr b67, vi 1, vi 1, vi 1, vi 1, vi 0] [(ii 1)] _
         exact retN X2111 hx (t := .boolean) Bd.returns (by simp) (hb hby at_336) hr
        ·show Q_law Z j_ f_ m_ n_ sa5_ sa9_ sa13_ sa17_ h0 n0 _ T2111.heap _
         rw [K2113]
         exact ⟨rfl, N2112, kp2103⟩
      ·have c2114 : Kt p e below T156 st0 (mkF m 166 #[vj j_, .second, vi f_, vi m_, vi n_, vi qa, vi qb, vj op, .second, vr b5, vr b33, vr b67, vi 1, vi 1, vi 1, vi 1, u_] [(.int (f_ &&& (128 : Int32)))]) := fun t k => by
        refine c1923 t ?_
        show S_ p e below T156 m 161 #[vj j_, .second, vi f_, vi m_, vi n_, vi qa, vi qb, vj op, .second, vr b5, vr b33, vr b67, vi 1, vi 1, vi 1, vi 1, u_] [] t
        refine XS.iloadN X156.here hx rfl (hb hby at_161) rfl ?_
        refine XS.sipush X156.here hx rfl (hb hby at_162) ?_
        refine XS.iand X156.here hx rfl (hb hby at_165) rfl ?_
        exact k
       obtain ⟨T2161, h2161, L2161, X2161, e2161, o2161, K2161, kp2161, N2161, f2162, f2163, f2164, f2165, f2166, f2167, f2168, f2169, f2170, f2171, c2161⟩ : ∃ (T2161 : State) (h2161 : Heap) (L2161 : List Loc), Stand p l e room_1 (s.setVm T72.vm) m #[(.long j_), (.int f_), (.int m_), (.int n_)] below meth c T2161 L2161 9 49 ∧ T2161.heap = h2161 ∧ Old Z n0 h2161 ∧ Keep h156 h2161 [b67, b14, b33, b13] ∧ Keep h0 h2161 [] ∧ Fr n0 L2161 ∧ Fld Z h2161 b13 nm2 "head" nm1 (rr b33) ∧ Fld Z h2161 b13 nm2 "tail" nm1 (rr b33) ∧ Fld Z h2161 b14 nm2 "head" nm1 (rr b67) ∧ Fld Z h2161 b14 nm2 "tail" nm1 (rr b67) ∧ Fld Z h2161 b33 nm0 "queue" nm4 (rr b5) ∧ Fld Z h2161 b33 nm0 "previous" nm1 .null ∧ Fld Z h2161 b33 nm0 "next" nm1 .null ∧ Fld Z h2161 b67 nm0 "queue" nm4 (rr b5) ∧ Fld Z h2161 b67 nm0 "previous" nm1 .null ∧ Fld Z h2161 b67 nm0 "next" nm1 .null ∧ Kt p e below T2161 st0 (mkF m 220 #[vj j_, .second, vi f_, vi m_, vi n_, vi qa, vi qb, vj op, .second, vr b5, vr b33, vr b67, vi 1, vi 1, vi 1, vi 1, u_] []) := by
        by_cases hc2115 : (f_ &&& (128 : Int32)) = (0 : Int32)
        ·have c2116 : Kt p e below T156 st0 (mkF m 205 #[vj j_, .second, vi f_, vi m_, vi n_, vi qa, vi qb, vj op, .second, vr b5, vr b33, vr b67, vi 1, vi 1, vi 1, vi 1, u_] [(rr b67), (rr b5)]) := fun t k => by
          refine c2114 t ?_
          show S_ p e below T156 m 166 #[vj j_, .second, vi f_, vi m_, vi n_, vi qa, vi qb, vj op, .second, vr b5, vr b33, vr b67, vi 1, vi 1, vi 1, vi 1, u_] [(.int (f_ &&& (128 : Int32)))] t
          refine yI X156.here hx rfl 166 196 rfl (hb hby at_166) rfl ((if0 _ _).trans (teq hc2115).1) ?_
          refine XS.iload X156.here hx rfl (hb hby at_196) rfl ?_
          refine XS.ifNo X156.here hx rfl (hb hby at_198) rfl rfl ?_
          refine XS.aload X156.here hx rfl (hb hby at_201) rfl rfl ?_
          refine XS.aload X156.here hx rfl (hb hby at_203) rfl rfl ?_
          exact k
         obtain ⟨_, T2117, L2117, X2117, hQ2117, c2117⟩ := kvirt X156 hx hZ72 hown72 (w94 hw) (w95 hw) (w97 hw) (w96 hw) (w98 hw) (w4 hw) (rm_addHN l Z a0 hw [] b5 b67 b13 b14 sa17_ mv155 h156 n0 o156 f166 f189 f169 f170 f157 f159 f160 f161 f162 g67 ZE7_ ZF8_ f172 g31 f179 f180 hc1925) e156 f166 c2116 hml pd_pLcom_example_lexchange_lexchange_Order_rV [(rr b67)] [] 0 (hb hby at_205) rfl rfl rfl rfl rfl rfl
         obtain ⟨rfl, N2118q, K2119, p2120, p2121, p2122, p2123, p2124⟩ := hQ2117
         have N2118 := Fr.app N156 N2118q
         have o2125 := o156.keep K2119 (allS g67 (allS g31 all0))
         have kp2126 := kp156.trans K2119 (allS (Or.inr z70) (allS (Or.inr z30) all0))
         have c2127 : Kt p e below T2117 st0 (mkF m 217 #[vj j_, .second, vi f_, vi m_, vi n_, vi qa, vi qb, vj op, .second, vr b5, vr b33, vr b67, vi 1, vi 1, vi 1, vi 1, u_] [(rr b33), (rr b5)]) := fun t k => by
          refine c2117 t ?_
          show S_ p e below T2117 m 208 #[vj j_, .second, vi f_, vi m_, vi n_, vi qa, vi qb, vj op, .second, vr b5, vr b33, vr b67, vi 1, vi 1, vi 1, vi 1, u_] [] t
          refine XS.iload X2117.here hx rfl (hb hby at_208) rfl ?_
          refine XS.ifNo X2117.here hx rfl (hb hby at_210) rfl rfl ?_
          refine XS.aload X2117.here hx rfl (hb hby at_213) rfl rfl ?_
          refine XS.aload X2117.here hx rfl (hb hby at_215) rfl rfl ?_
          exact k
         obtain ⟨_, T2128, L2128, X2128, hQ2128, c2128⟩ := kvirt X2117 hx hZ72 hown72 (w94 hw) (w95 hw) (w97 hw) (w96 hw) (w98 hw) (w4 hw) (rm_addSN l Z a0 hw [] b5 b33 b13 b14 sa17_ mv122 T2117.heap n0 o2125 (f166.keep K2119) (f181.keep K2119) (f169.keep K2119 (ninS q168 (ninS q191 nin0))) (f170.keep K2119 (ninS q168 (ninS q191 nin0))) (f183.keep K2119 (ninS q182 (ninS q177.symm nin0))) (f185.keep K2119 (ninS q182 (ninS q177.symm nin0))) (f186.keep K2119 (ninS q182 (ninS q177.symm nin0))) (f187.keep K2119 (ninS q182 (ninS q177.symm nin0))) (f188.keep K2119 (ninS q182 (ninS q177.symm nin0))) g33 ZE7_ ZF8_ (f171.keep K2119) g29 (f175.keep K2119 (ninS q174 (ninS p25 nin0))) (f176.keep K2119 (ninS q174 (ninS p25 nin0))) hc1924) rfl (f166.keep K2119) c2127 hml pd_pLcom_example_lexchange_lexchange_Order_rV [(rr b33)] [] 0 (hb hby at_217) rfl rfl rfl rfl rfl rfl
         obtain ⟨rfl, N2129q, K2130, p2131, p2132, p2133, p2134, p2135⟩ := hQ2128
         have N2129 := Fr.app N2118 N2129q
         have o2136 := o2125.keep K2130 (allS g33 (allS g29 all0))
         have kp2137 := kp2126.trans K2130 (allS (Or.inr z36) (allS (Or.inr z28) all0))
         have K2173 : Keep h156 T2128.heap [b67, b14, b33, b13] := (((Keep.refl _ _).trans K2119 (allS (Or.inl (List.mem_of_getElem? (i := 0) rfl)) (allS (Or.inl (List.mem_of_getElem? (i := 1) rfl)) all0))).trans K2130 (allS (Or.inl (List.mem_of_getElem? (i := 2) rfl)) (allS (Or.inl (List.mem_of_getElem? (i := 3) rfl)) all0)))
         exact ⟨T2128, _, _, X2128.mono (by decide) (by decide), rfl, o2136, K2173, kp2137, N2129, p2134, p2135, (p2123.keep K2130 (ninS q177 (ninS p25.symm nin0))), (p2124.keep K2130 (ninS q177 (ninS p25.symm nin0))), p2131, p2132, p2133, (p2120.keep K2130 (ninS q182.symm (ninS q174.symm nin0))), (p2121.keep K2130 (ninS q182.symm (ninS q174.symm nin0))), (p2122.keep K2130 (ninS q182.symm (ninS q174.symm nin0))), c2128⟩
        ·have c2138 : Kt p e below T156 st0 (mkF m 178 #[vj j_, .second, vi f_, vi m_, vi n_, vi qa, vi qb, vj op, .second, vr b5, vr b33, vr b67, vi 1, vi 1, vi 1, vi 1, u_] [(rr b33), (rr b5)]) := fun t k => by
          refine c2114 t ?_
          show S_ p e below T156 m 166 #[vj j_, .second, vi f_, vi m_, vi n_, vi qa, vi qb, vj op, .second, vr b5, vr b33, vr b67, vi 1, vi 1, vi 1, vi 1, u_] [(.int (f_ &&& (128 : Int32)))] t
          refine XS.ifNo X156.here hx rfl (hb hby at_166) rfl ((if0 _ _).trans (feq hc2115).1) ?_
          refine XS.iload X156.here hx rfl (hb hby at_169) rfl ?_
          refine XS.ifNo X156.here hx rfl (hb hby at_171) rfl rfl ?_
          refine XS.aload X156.here hx rfl (hb hby at_174) rfl rfl ?_
          refine XS.aload X156.here hx rfl (hb hby at_176) rfl rfl ?_
          exact k
         obtain ⟨_, T2139, L2139, X2139, hQ2139, c2139⟩ := kvirt X156 hx hZ72 hown72 (w94 hw) (w95 hw) (w97 hw) (w96 hw) (w98 hw) (w4 hw) (rm_addSN l Z a0 hw [] b5 b33 b13 b14 sa17_ mv122 h156 n0 o156 f166 f181 f169 f170 f183 f185 f186 f187 f188 g33 ZE7_ ZF8_ f171 g29 f175 f176 hc1924) e156 f166 c2138 hml pd_pLcom_example_lexchange_lexchange_Order_rV [(rr b33)] [] 0 (hb hby at_178) rfl rfl rfl rfl rfl rfl
         obtain ⟨rfl, N2140q, K2141, p2142, p2143, p2144, p2145, p2146⟩ := hQ2139
         have N2140 := Fr.app N156 N2140q
         have o2147 := o156.keep K2141 (allS g33 (allS g29 all0))
         have kp2148 := kp156.trans K2141 (allS (Or.inr z36) (allS (Or.inr z28) all0))
         have c2149 : Kt p e below T2139 st0 (mkF m 190 #[vj j_, .second, vi f_, vi m_, vi n_, vi qa, vi qb, vj op, .second, vr b5, vr b33, vr b67, vi 1, vi 1, vi 1, vi 1, u_] [(rr b67), (rr b5)]) := fun t k => by
          refine c2139 t ?_
          show S_ p e below T2139 m 181 #[vj j_, .second, vi f_, vi m_, vi n_, vi qa, vi qb, vj op, .second, vr b5, vr b33, vr b67, vi 1, vi 1, vi 1, vi 1, u_] [] t
          refine XS.iload X2139.here hx rfl (hb hby at_181) rfl ?_
          refine XS.ifNo X2139.here hx rfl (hb hby at_183) rfl rfl ?_
          refine XS.aload X2139.here hx rfl (hb hby at_186) rfl rfl ?_
          refine XS.aload X2139.here hx rfl (hb hby at_188) rfl rfl ?_
          exact k
         obtain ⟨_, T2150, L2150, X2150, hQ2150, c2150⟩ := kvirt X2139 hx hZ72 hown72 (w94 hw) (w95 hw) (w97 hw) (w96 hw) (w98 hw) (w4 hw) (rm_addHN l Z a0 hw [] b5 b67 b13 b14 sa17_ mv155 T2139.heap n0 o2147 (f166.keep K2141) (f189.keep K2141) (f169.keep K2141 (ninS q167 (ninS q190 nin0))) (f170.keep K2141 (ninS q167 (ninS q190 nin0))) (f157.keep K2141 (ninS q182.symm (ninS q174.symm nin0))) (f159.keep K2141 (ninS q182.symm (ninS q174.symm nin0))) (f160.keep K2141 (ninS q182.symm (ninS q174.symm nin0))) (f161.keep K2141 (ninS q182.symm (ninS q174.symm nin0))) (f162.keep K2141 (ninS q182.symm (ninS q174.symm nin0))) g67 ZE7_ ZF8_ (f172.keep K2141) g31 (f179.keep K2141 (ninS q177 (ninS p25.symm nin0))) (f180.keep K2141 (ninS q177 (ninS p25.symm nin0))) hc1925) rfl (f166.keep K2141) c2149 hml pd_pLcom_example_lexchange_lexchange_Order_rV [(rr b67)] [] 0 (hb hby at_190) rfl rfl rfl rfl rfl rfl
         obtain ⟨rfl, N2151q, K2152, p2153, p2154, p2155, p2156, p2157⟩ := hQ2150
         have N2151 := Fr.app N2140 N2151q
         have o2158 := o2147.keep K2152 (allS g67 (allS g31 all0))
         have kp2159 := kp2148.trans K2152 (allS (Or.inr z70) (allS (Or.inr z30) all0))
         have c2160 : Kt p e below T2150 st0 (mkF m 220 #[vj j_, .second, vi f_, vi m_, vi n_, vi qa, vi qb, vj op, .second, vr b5, vr b33, vr b67, vi 1, vi 1, vi 1, vi 1, u_] []) := fun t k => by
          refine c2150 t ?_
          show S_ p e below T2150 m 193 #[vj j_, .second, vi f_, vi m_, vi n_, vi qa, vi qb, vj op, .second, vr b5, vr b33, vr b67, vi 1, vi 1, vi 1, vi 1, u_] [] t
          refine yG X2150.here hx rfl 193 220 rfl (hb hby at_193) ?_
          exact k
         have K2172 : Keep h156 T2150.heap [b67, b14, b33, b13] := (((Keep.refl _ _).trans K2141 (allS (Or.inl (List.mem_of_getElem? (i := 2) rfl)) (allS (Or.inl (List.mem_of_getElem? (i := 3) rfl)) all0))).trans K2152 (allS (Or.inl (List.mem_of_getElem? (i := 0) rfl)) (allS (Or.inl (List.mem_of_getElem? (i := 1) rfl)) all0)))
         exact ⟨T2150, _, _, X2150.mono (by decide) (by decide), rfl, o2158, K2172, kp2159, N2151, (p2145.keep K2152 (ninS q174 (ninS p25 nin0))), (p2146.keep K2152 (ninS q174 (ninS p25 nin0))), p2156, p2157, (p2142.keep K2152 (ninS q182 (ninS q177.symm nin0))), (p2143.keep K2152 (ninS q182 (ninS q177.symm nin0))), (p2144.keep K2152 (ninS q182 (ninS q177.symm nin0))), p2153, p2154, p2155, c2160⟩
       have c2174 : Kt p e below T2161 st0 (mkF m 224 #[vj j_, .second, vi f_, vi m_, vi n_, vi qa, vi qb, vj op, .second, vr b5, vr b33, vr b67, vi 1, vi 1, vi 1, vi 1, u_] [(.int (f_ &&& (64 : Int32)))]) := fun t k => by
        refine c2161 t ?_
        show S_ p e below T2161 m 220 #[vj j_, .second, vi f_, vi m_, vi n_, vi qa, vi qb, vj op, .second, vr b5, vr b33, vr b67, vi 1, vi 1, vi 1, vi 1, u_] [] t
        refine XS.iloadN X2161.here hx rfl (hb hby at_220) rfl ?_
        refine XS.bipush X2161.here hx rfl (hb hby at_221) ?_
        refine XS.iand X2161.here hx rfl (hb hby at_223) rfl ?_
        exact k
       obtain ⟨T2225, h2225, L2225, X2225, e2225, o2225, K2225, kp2225, N2225, f2226, f2227, c2225⟩ : ∃ (T2225 : State) (h2225 : Heap) (L2225 : List Loc), Stand p l e room_1 (s.setVm T72.vm) m #[(.long j_), (.int f_), (.int m_), (.int n_)] below meth c T2225 L2225 9 49 ∧ T2225.heap = h2225 ∧ Old Z n0 h2225 ∧ Keep h2161 h2225 [b67, b14, b33, b13] ∧ Keep h0 h2225 [] ∧ Fr n0 L2225 ∧ Fld Z h2225 b13 nm2 "head" nm1 .null ∧ Fld Z h2225 b14 nm2 "head" nm1 .null ∧ Kt p e below T2225 st0 (mkF m 278 #[vj j_, .second, vi f_, vi m_, vi n_, vi qa, vi qb, vj op, .second, vr b5, vr b33, vr b67, vi 1, vi 1, vi 1, vi 1, u_] []) := by
        by_cases hc2175 : (f_ &&& (64 : Int32)) = (0 : Int32)
        ·have c2176 : Kt p e below T2161 st0 (mkF m 263 #[vj j_, .second, vi f_, vi m_, vi n_, vi qa, vi qb, vj op, .second, vr b5, vr b33, vr b67, vi 1, vi 1, vi 1, vi 1, u_] [(rr b67), (rr b5)]) := fun t k => by
          refine c2174 t ?_
          show S_ p e below T2161 m 224 #[vj j_, .second, vi f_, vi m_, vi n_, vi qa, vi qb, vj op, .second, vr b5, vr b33, vr b67, vi 1, vi 1, vi 1, vi 1, u_] [(.int (f_ &&& (64 : Int32)))] t
          refine yI X2161.here hx rfl 224 254 rfl (hb hby at_224) rfl ((if0 _ _).trans (teq hc2175).1) ?_
          refine XS.iload X2161.here hx rfl (hb hby at_254) rfl ?_
          refine XS.ifNo X2161.here hx rfl (hb hby at_256) rfl rfl ?_
          refine XS.aload X2161.here hx rfl (hb hby at_259) rfl rfl ?_
          refine XS.aload X2161.here hx rfl (hb hby at_261) rfl rfl ?_
          exact k
         obtain ⟨_, T2177, L2177, X2177, hQ2177, c2177⟩ := kvirt X2161 hx hZ72 hown72 (w116 hw) (w117 hw) (w119 hw) (w118 hw) (w120 hw) (w4 hw) (rm_rmH1r l Z a0 hw [] b5 b67 b13 b14 b33 h2161 n0 o2161 (f166.keep K2161) (f189.keep K2161) (f169.keep K2161 (ninS q168 (ninS q191 (ninS q167 (ninS q190 nin0))))) (f170.keep K2161 (ninS q168 (ninS q191 (ninS q167 (ninS q190 nin0))))) g67 (f172.keep K2161) g31 f2164 f2165 (f171.keep K2161) f2162 f2163 q182.symm f2169 f2170 f2171) e2161 (f166.keep K2161) c2176 hml pd_pLcom_example_lexchange_lexchange_Order_rV [(rr b67)] [] 0 (hb hby at_263) rfl rfl rfl rfl rfl rfl
         obtain ⟨rfl, N2178q, K2179, p2180, p2181, p2182, p2183, p2184⟩ := hQ2177
         have N2178 := Fr.app N2161 N2178q
         have o2185 := o2161.keep K2179 (allS g67 (allS g31 all0))
         have kp2186 := kp2161.trans K2179 (allS (Or.inr z70) (allS (Or.inr z30) all0))
         have f2187 := (f169.keep K2161 (ninS q168 (ninS q191 (ninS q167 (ninS q190 nin0))))).keep K2179 (ninS q168 (ninS q191 nin0))
         have f2188 := (f170.keep K2161 (ninS q168 (ninS q191 (ninS q167 (ninS q190 nin0))))).keep K2179 (ninS q168 (ninS q191 nin0))
         have c2189 : Kt p e below T2177 st0 (mkF m 275 #[vj j_, .second, vi f_, vi m_, vi n_, vi qa, vi qb, vj op, .second, vr b5, vr b33, vr b67, vi 1, vi 1, vi 1, vi 1, u_] [(rr b33), (rr b5)]) := fun t k => by
          refine c2177 t ?_
          show S_ p e below T2177 m 266 #[vj j_, .second, vi f_, vi m_, vi n_, vi qa, vi qb, vj op, .second, vr b5, vr b33, vr b67, vi 1, vi 1, vi 1, vi 1, u_] [] t
          refine XS.iload X2177.here hx rfl (hb hby at_266) rfl ?_
          refine XS.ifNo X2177.here hx rfl (hb hby at_268) rfl rfl ?_
          refine XS.aload X2177.here hx rfl (hb hby at_271) rfl rfl ?_
          refine XS.aload X2177.here hx rfl (hb hby at_273) rfl rfl ?_
          exact k
         obtain ⟨_, T2190, L2190, X2190, hQ2190, c2190⟩ := kvirt X2177 hx hZ72 hown72 (w116 hw) (w117 hw) (w119 hw) (w118 hw) (w120 hw) (w4 hw) (rm_rmS1 l Z a0 hw [] b5 b33 b13 b14 T2177.heap n0 o2185 ((f166.keep K2161).keep K2179) ((f181.keep K2161).keep K2179) f2187 f2188 g33 ((f171.keep K2161).keep K2179) g29 (f2162.keep K2179 (ninS q174 (ninS p25 nin0))) (f2163.keep K2179 (ninS q174 (ninS p25 nin0))) (f2166.keep K2179 (ninS q182 (ninS q177.symm nin0))) (f2167.keep K2179 (ninS q182 (ninS q177.symm nin0))) (f2168.keep K2179 (ninS q182 (ninS q177.symm nin0)))) rfl ((f166.keep K2161).keep K2179) c2189 hml pd_pLcom_example_lexchange_lexchange_Order_rV [(rr b33)] [] 0 (hb hby at_275) rfl rfl rfl rfl rfl rfl
         obtain ⟨rfl, N2191q, K2192, p2193, p2194, p2195, p2196, p2197⟩ := hQ2190
         have N2191 := Fr.app N2178 N2191q
         have o2198 := o2185.keep K2192 (allS g33 (allS g29 all0))
         have kp2199 := kp2186.trans K2192 (allS (Or.inr z36) (allS (Or.inr z28) all0))
         have K2229 : Keep h2161 T2190.heap [b67, b14, b33, b13] := (((Keep.refl _ _).trans K2179 (allS (Or.inl (List.mem_of_getElem? (i := 0) rfl)) (allS (Or.inl (List.mem_of_getElem? (i := 1) rfl)) all0))).trans K2192 (allS (Or.inl (List.mem_of_getElem? (i := 2) rfl)) (allS (Or.inl (List.mem_of_getElem? (i := 3) rfl)) all0)))
         exact ⟨T2190, _, _, X2190.mono (by decide) (by decide), rfl, o2198, K2229, kp2199, N2191, p2196, (p2183.keep K2192 (ninS q177 (ninS p25.symm nin0))), c2190⟩
        ·have c2200 : Kt p e below T2161 st0 (mkF m 236 #[vj j_, .second, vi f_, vi m_, vi n_, vi qa, vi qb, vj op, .second, vr b5, vr b33, vr b67, vi 1, vi 1, vi 1, vi 1, u_] [(rr b33), (rr b5)]) := fun t k => by
          refine c2174 t ?_
          show S_ p e below T2161 m 224 #[vj j_, .second, vi f_, vi m_, vi n_, vi qa, vi qb, vj op, .second, vr b5, vr b33, vr b67, vi 1, vi 1, vi 1, vi 1, u_] [(.int (f_ &&& (64 : Int32)))] t
          refine XS.ifNo X2161.here hx rfl (hb hby at_224) rfl ((if0 _ _).trans (feq hc2175).1) ?_
          refine XS.iload X2161.here hx rfl (hb hby at_227) rfl ?_
          refine XS.ifNo X2161.here hx rfl (hb hby at_229) rfl rfl ?_
          refine XS.aload X2161.here hx rfl (hb hby at_232) rfl rfl ?_
          refine XS.aload X2161.here hx rfl (hb hby at_234) rfl rfl ?_
          exact k
         obtain ⟨_, T2201, L2201, X2201, hQ2201, c2201⟩ := kvirt X2161 hx hZ72 hown72 (w116 hw) (w117 hw) (w119 hw) (w118 hw) (w120 hw) (w4 hw) (rm_rmS1 l Z a0 hw [] b5 b33 b13 b14 h2161 n0 o2161 (f166.keep K2161) (f181.keep K2161) (f169.keep K2161 (ninS q168 (ninS q191 (ninS q167 (ninS q190 nin0))))) (f170.keep K2161 (ninS q168 (ninS q191 (ninS q167 (ninS q190 nin0))))) g33 (f171.keep K2161) g29 f2162 f2163 f2166 f2167 f2168) e2161 (f166.keep K2161) c2200 hml pd_pLcom_example_lexchange_lexchange_Order_rV [(rr b33)] [] 0 (hb hby at_236) rfl rfl rfl rfl rfl rfl
         obtain ⟨rfl, N2202q, K2203, p2204, p2205, p2206, p2207, p2208⟩ := hQ2201
         have N2202 := Fr.app N2161 N2202q
         have o2209 := o2161.keep K2203 (allS g33 (allS g29 all0))
         have kp2210 := kp2161.trans K2203 (allS (Or.inr z36) (allS (Or.inr z28) all0))
         have f2211 := (f169.keep K2161 (ninS q168 (ninS q191 (ninS q167 (ninS q190 nin0))))).keep K2203 (ninS q167 (ninS q190 nin0))
         have f2212 := (f170.keep K2161 (ninS q168 (ninS q191 (ninS q167 (ninS q190 nin0))))).keep K2203 (ninS q167 (ninS q190 nin0))
         have c2213 : Kt p e below T2201 st0 (mkF m 248 #[vj j_, .second, vi f_, vi m_, vi n_, vi qa, vi qb, vj op, .second, vr b5, vr b33, vr b67, vi 1, vi 1, vi 1, vi 1, u_] [(rr b67), (rr b5)]) := fun t k => by
          refine c2201 t ?_
          show S_ p e below T2201 m 239 #[vj j_, .second, vi f_, vi m_, vi n_, vi qa, vi qb, vj op, .second, vr b5, vr b33, vr b67, vi 1, vi 1, vi 1, vi 1, u_] [] t
          refine XS.iload X2201.here hx rfl (hb hby at_239) rfl ?_
          refine XS.ifNo X2201.here hx rfl (hb hby at_241) rfl rfl ?_
          refine XS.aload X2201.here hx rfl (hb hby at_244) rfl rfl ?_
          refine XS.aload X2201.here hx rfl (hb hby at_246) rfl rfl ?_
          exact k
         obtain ⟨_, T2214, L2214, X2214, hQ2214, c2214⟩ := kvirt X2201 hx hZ72 hown72 (w116 hw) (w117 hw) (w119 hw) (w118 hw) (w120 hw) (w4 hw) (rm_rmH1e l Z a0 hw [] b5 b67 b13 b14 T2201.heap n0 o2209 ((f166.keep K2161).keep K2203) ((f189.keep K2161).keep K2203) f2211 f2212 g67 ((f172.keep K2161).keep K2203) g31 (f2164.keep K2203 (ninS q177 (ninS p25.symm nin0))) (f2165.keep K2203 (ninS q177 (ninS p25.symm nin0))) ((f171.keep K2161).keep K2203) p2207 p2208 (f2169.keep K2203 (ninS q182.symm (ninS q174.symm nin0))) (f2170.keep K2203 (ninS q182.symm (ninS q174.symm nin0))) (f2171.keep K2203 (ninS q182.symm (ninS q174.symm nin0)))) rfl ((f166.keep K2161).keep K2203) c2213 hml pd_pLcom_example_lexchange_lexchange_Order_rV [(rr b67)] [] 0 (hb hby at_248) rfl rfl rfl rfl rfl rfl
         obtain ⟨rfl, N2215q, K2216, p2217, p2218, p2219, p2220, p2221⟩ := hQ2214
         have N2215 := Fr.app N2202 N2215q
         have o2222 := o2209.keep K2216 (allS g67 (allS g31 all0))
         have kp2223 := kp2210.trans K2216 (allS (Or.inr z70) (allS (Or.inr z30) all0))
         have c2224 : Kt p e below T2214 st0 (mkF m 278 #[vj j_, .second, vi f_, vi m_, vi n_, vi qa, vi qb, vj op, .second, vr b5, vr b33, vr b67, vi 1, vi 1, vi 1, vi 1, u_] []) := fun t k => by
          refine c2214 t ?_
          show S_ p e below T2214 m 251 #[vj j_, .second, vi f_, vi m_, vi n_, vi qa, vi qb, vj op, .second, vr b5, vr b33, vr b67, vi 1, vi 1, vi 1, vi 1, u_] [] t
          refine yG X2214.here hx rfl 251 278 rfl (hb hby at_251) ?_
          exact k
         have K2228 : Keep h2161 T2214.heap [b67, b14, b33, b13] := (((Keep.refl _ _).trans K2203 (allS (Or.inl (List.mem_of_getElem? (i := 2) rfl)) (allS (Or.inl (List.mem_of_getElem? (i := 3) rfl)) all0))).trans K2216 (allS (Or.inl (List.mem_of_getElem? (i := 0) rfl)) (allS (Or.inl (List.mem_of_getElem? (i := 1) rfl)) all0)))
         exact ⟨T2214, _, _, X2214.mono (by decide) (by decide), rfl, o2222, K2228, kp2223, N2215, (p2207.keep K2216 (ninS q174 (ninS p25 nin0))), p2220, c2224⟩
       have f2230 := (f169.keep K2161 (ninS q168 (ninS q191 (ninS q167 (ninS q190 nin0))))).keep K2225 (ninS q168 (ninS q191 (ninS q167 (ninS q190 nin0))))
       have f2231 := (f170.keep K2161 (ninS q168 (ninS q191 (ninS q167 (ninS q190 nin0))))).keep K2225 (ninS q168 (ninS q191 (ninS q167 (ninS q190 nin0))))
       have c2232 : Kt p e below T2225 st0 (mkF m 315 #[vj j_, .second, vi f_, vi m_, vi n_, vi qa, vi qb, vj op, .second, vr b5, vr b33, vr b67, vi 1, vi 1, vi 1, vi 1, vi 0] [(rr b5)]) := fun t k => by
        refine c2225 t ?_
        show S_ p e below T2225 m 278 #[vj j_, .second, vi f_, vi m_, vi n_, vi qa, vi qb, vj op, .second, vr b5, vr b33, vr b67, vi 1, vi 1, vi 1, vi 1, u_] [] t
        refine XS.iconst X2225.here hx rfl (hb hby at_278) ?_
        refine XS.istore X2225.here hx rfl (hb hby at_279) rfl (l' := #[vj j_, .second, vi f_, vi m_, vi n_, vi qa, vi qb, vj op, .second, vr b5, vr b33, vr b67, vi 1, vi 1, vi 1, vi 1, vi 0]) rfl ?_
        refine XS.iload X2225.here hx rfl (hb hby at_281) rfl ?_
        refine XS.ifNo X2225.here hx rfl (hb hby at_283) rfl rfl ?_
        refine XS.iload X2225.here hx rfl (hb hby at_286) rfl ?_
        refine yI X2225.here hx rfl 288 297 rfl (hb hby at_288) rfl rfl ?_
        refine XS.iload X2225.here hx rfl (hb hby at_297) rfl ?_
        refine XS.ifNo X2225.here hx rfl (hb hby at_299) rfl rfl ?_
        show S_ p e below T2225 m 302 #[vj j_, .second, vi f_, vi m_, vi n_, vi qa, vi qb, vj op, .second, vr b5, vr b33, vr b67, vi 1, vi 1, vi 1, vi 1, vi 0] [] t
        refine XS.iload X2225.here hx rfl (hb hby at_302) rfl ?_
        refine yI X2225.here hx rfl 304 313 rfl (hb hby at_304) rfl rfl ?_
        refine XS.aload X2225.here hx rfl (hb hby at_313) rfl rfl ?_
        exact k
       obtain ⟨_, T2233, L2233, X2233, hQ2233, c2233⟩ := kvirt X2225 hx hZ72 hown72 (w87 hw) (w88 hw) (w90 hw) (w89 hw) (w91 hw) (w4 hw) (rm_emE l Z a0 hw [] b5 b13 b14 h2225 n0 o2225 ((f166.keep K2161).keep K2225) f2230 f2231 f2226 f2227) e2225 ((f166.keep K2161).keep K2225) c2232 hml pd_prZ [] [] 0 (hb hby at_315) rfl rfl rfl rfl rfl rfl
       obtain ⟨rfl, N2234q, K2235⟩ := hQ2233
       have N2234 := Fr.app N2225 N2234q
       obtain ⟨fs, hr, hrun, hended, hRW⟩ := X2233.leaveW hS72 (by first | exact (Nat.le_trans hk72 (Nat.le_trans (Nat.le_trans (Nat.le_trans (Nat.le_trans K91.1 K123.1) K156.1) K2161.1) K2225.1)) | (rw [K2235]; exact (Nat.le_trans hk72 (Nat.le_trans (Nat.le_trans (Nat.le_trans (Nat.le_trans K91.1 K123.1) K156.1) K2161.1) K2225.1)))) (v := some (ii 1)) (fun h => by rw [Bd.returns] at h; cases h)
       refine ⟨_, _, c2233 _ ?_, hrun, hended, _, _, rfl, ?_, hRW.1, hRW.2.1, hRW.2.2.1, hRW.2.2.2.mono (by decide) (by decide)⟩
       ·show S_ p e below T2233 m 318 #[vj j_, .second, vi f_, vi m_, vi n_, vi qa, vi qb, vj op, .second, vr b5, vr b33, vr b67, vi 1, vi 1, vi 1, vi 1, vi 0] [(ii 1)] _
        refine XS.iload X2233.here hx rfl (hb hby at_318) rfl ?_
        refine XS.ifNo X2233.here hx rfl (hb hby at_320) rfl rfl ?_
        refine XS.iconst X2233.here hx rfl (hb hby at_323) ?_
        refine yG X2233.here hx rfl 324 328 rfl (hb hby at_324) ?_
        refine XS.icmpNo X2233.here hx rfl (hb hby at_328) rfl rfl ?_
        refine XS.iconst X2233.here hx rfl (hb hby at_331) ?_
        refine yG X2233.here hx rfl 332 336 rfl (hb hby at_332) ?_
        show S_ p e below T2233 m 336 #[vj j_, .second, vi f_, vi m_, vi n_, vi qa, vi qb, vj op, .second, vr b5, vr b33, vr b67, vi 1, vi 1, vi 1, vi 1, vi 0] [(ii 1)] _
        exact retN X2233 hx (t := .boolean) Bd.returns (by simp) (hb hby at_336) hr
       ·show Q_law Z j_ f_ m_ n_ sa5_ sa9_ sa13_ sa17_ h0 n0 _ T2233.heap _
        rw [K2235]
        exact ⟨rfl, N2234, kp2225⟩
     ·by_cases hc2236 : (0 : Int32) < mv155
      ·have c2237 : Kt p e below T156 st0 (mkF m 166 #[vj j_, .second, vi f_, vi m_, vi n_, vi qa, vi qb, vj op, .second, vr b5, vr b33, vr b67, vi 1, vi 1, vi 1, vi 1, u_] [(.int (f_ &&& (128 : Int32)))]) := fun t k => by
        refine c1923 t ?_
        show S_ p e below T156 m 161 #[vj j_, .second, vi f_, vi m_, vi n_, vi qa, vi qb, vj op, .second, vr b5, vr b33, vr b67, vi 1, vi 1, vi 1, vi 1, u_] [] t
        refine XS.iloadN X156.here hx rfl (hb hby at_161) rfl ?_
        refine XS.sipush X156.here hx rfl (hb hby at_162) ?_
        refine XS.iand X156.here hx rfl (hb hby at_165) rfl ?_
        exact k
       obtain ⟨T2284, h2284, L2284, X2284, e2284, o2284, K2284, kp2284, N2284, f2285, f2286, f2287, f2288, f2289, f2290, f2291, f2292, f2293, f2294, c2284⟩ : ∃ (T2284 : State) (h2284 : Heap) (L2284 : List Loc), Stand p l e room_1 (s.setVm T72.vm) m #[(.long j_), (.int f_), (.int m_), (.int n_)] below meth c T2284 L2284 9 49 ∧ T2284.heap = h2284 ∧ Old Z n0 h2284 ∧ Keep h156 h2284 [b67, b13, b33, b14] ∧ Keep h0 h2284 [] ∧ Fr n0 L2284 ∧ Fld Z h2284 b13 nm2 "head" nm1 (rr b67) ∧ Fld Z h2284 b13 nm2 "tail" nm1 (rr b67) ∧ Fld Z h2284 b14 nm2 "head" nm1 (rr b33) ∧ Fld Z h2284 b14 nm2 "tail" nm1 (rr b33) ∧ Fld Z h2284 b33 nm0 "queue" nm4 (rr b5) ∧ Fld Z h2284 b33 nm0 "previous" nm1 .null ∧ Fld Z h2284 b33 nm0 "next" nm1 .null ∧ Fld Z h2284 b67 nm0 "queue" nm4 (rr b5) ∧ Fld Z h2284 b67 nm0 "previous" nm1 .null ∧ Fld Z h2284 b67 nm0 "next" nm1 .null ∧ Kt p e below T2284 st0 (mkF m 220 #[vj j_, .second, vi f_, vi m_, vi n_, vi qa, vi qb, vj op, .second, vr b5, vr b33, vr b67, vi 1, vi 1, vi 1, vi 1, u_] []) := by
        by_cases hc2238 : (f_ &&& (128 : Int32)) = (0 : Int32)
        ·have c2239 : Kt p e below T156 st0 (mkF m 205 #[vj j_, .second, vi f_, vi m_, vi n_, vi qa, vi qb, vj op, .second, vr b5, vr b33, vr b67, vi 1, vi 1, vi 1, vi 1, u_] [(rr b67), (rr b5)]) := fun t k => by
          refine c2237 t ?_
          show S_ p e below T156 m 166 #[vj j_, .second, vi f_, vi m_, vi n_, vi qa, vi qb, vj op, .second, vr b5, vr b33, vr b67, vi 1, vi 1, vi 1, vi 1, u_] [(.int (f_ &&& (128 : Int32)))] t
          refine yI X156.here hx rfl 166 196 rfl (hb hby at_166) rfl ((if0 _ _).trans (teq hc2238).1) ?_
          refine XS.iload X156.here hx rfl (hb hby at_196) rfl ?_
          refine XS.ifNo X156.here hx rfl (hb hby at_198) rfl rfl ?_
          refine XS.aload X156.here hx rfl (hb hby at_201) rfl rfl ?_
          refine XS.aload X156.here hx rfl (hb hby at_203) rfl rfl ?_
          exact k
         obtain ⟨_, T2240, L2240, X2240, hQ2240, c2240⟩ := kvirt X156 hx hZ72 hown72 (w94 hw) (w95 hw) (w97 hw) (w96 hw) (w98 hw) (w4 hw) (rm_addSN l Z a0 hw [] b5 b67 b13 b14 sa17_ mv155 h156 n0 o156 f166 f189 f169 f170 f157 f159 f160 f161 f162 g67 ZE7_ ZF8_ f171 g29 f175 f176 hc2236) e156 f166 c2239 hml pd_pLcom_example_lexchange_lexchange_Order_rV [(rr b67)] [] 0 (hb hby at_205) rfl rfl rfl rfl rfl rfl
         obtain ⟨rfl, N2241q, K2242, p2243, p2244, p2245, p2246, p2247⟩ := hQ2240
         have N2241 := Fr.app N156 N2241q
         have o2248 := o156.keep K2242 (allS g67 (allS g29 all0))
         have kp2249 := kp156.trans K2242 (allS (Or.inr z70) (allS (Or.inr z28) all0))
         have c2250 : Kt p e below T2240 st0 (mkF m 217 #[vj j_, .second, vi f_, vi m_, vi n_, vi qa, vi qb, vj op, .second, vr b5, vr b33, vr b67, vi 1, vi 1, vi 1, vi 1, u_] [(rr b33), (rr b5)]) := fun t k => by
          refine c2240 t ?_
          show S_ p e below T2240 m 208 #[vj j_, .second, vi f_, vi m_, vi n_, vi qa, vi qb, vj op, .second, vr b5, vr b33, vr b67, vi 1, vi 1, vi 1, vi 1, u_] [] t
          refine XS.iload X2240.here hx rfl (hb hby at_208) rfl ?_
          refine XS.ifNo X2240.here hx rfl (hb hby at_210) rfl rfl ?_
          refine XS.aload X2240.here hx rfl (hb hby at_213) rfl rfl ?_
          refine XS.aload X2240.here hx rfl (hb hby at_215) rfl rfl ?_
          exact k
         obtain ⟨_, T2251, L2251, X2251, hQ2251, c2251⟩ := kvirt X2240 hx hZ72 hown72 (w94 hw) (w95 hw) (w97 hw) (w96 hw) (w98 hw) (w4 hw) (rm_addHN l Z a0 hw [] b5 b33 b13 b14 sa17_ mv122 T2240.heap n0 o2248 (f166.keep K2242) (f181.keep K2242) (f169.keep K2242 (ninS q168 (ninS q190 nin0))) (f170.keep K2242 (ninS q168 (ninS q190 nin0))) (f183.keep K2242 (ninS q182 (ninS q173.symm nin0))) (f185.keep K2242 (ninS q182 (ninS q173.symm nin0))) (f186.keep K2242 (ninS q182 (ninS q173.symm nin0))) (f187.keep K2242 (ninS q182 (ninS q173.symm nin0))) (f188.keep K2242 (ninS q182 (ninS q173.symm nin0))) g33 ZE7_ ZF8_ (f172.keep K2242) g31 (f179.keep K2242 (ninS q178 (ninS p25.symm nin0))) (f180.keep K2242 (ninS q178 (ninS p25.symm nin0))) hc1924) rfl (f166.keep K2242) c2250 hml pd_pLcom_example_lexchange_lexchange_Order_rV [(rr b33)] [] 0 (hb hby at_217) rfl rfl rfl rfl rfl rfl
         obtain ⟨rfl, N2252q, K2253, p2254, p2255, p2256, p2257, p2258⟩ := hQ2251
         have N2252 := Fr.app N2241 N2252q
         have o2259 := o2248.keep K2253 (allS g33 (allS g31 all0))
         have kp2260 := kp2249.trans K2253 (allS (Or.inr z36) (allS (Or.inr z30) all0))
         have K2296 : Keep h156 T2251.heap [b67, b13, b33, b14] := (((Keep.refl _ _).trans K2242 (allS (Or.inl (List.mem_of_getElem? (i := 0) rfl)) (allS (Or.inl (List.mem_of_getElem? (i := 1) rfl)) all0))).trans K2253 (allS (Or.inl (List.mem_of_getElem? (i := 2) rfl)) (allS (Or.inl (List.mem_of_getElem? (i := 3) rfl)) all0)))
         exact ⟨T2251, _, _, X2251.mono (by decide) (by decide), rfl, o2259, K2296, kp2260, N2252, (p2246.keep K2253 (ninS q173 (ninS p25 nin0))), (p2247.keep K2253 (ninS q173 (ninS p25 nin0))), p2257, p2258, p2254, p2255, p2256, (p2243.keep K2253 (ninS q182.symm (ninS q178.symm nin0))), (p2244.keep K2253 (ninS q182.symm (ninS q178.symm nin0))), (p2245.keep K2253 (ninS q182.symm (ninS q178.symm nin0))), c2251⟩
        ·have c2261 : Kt p e below T156 st0 (mkF m 178 #[vj j_, .second, vi f_, vi m_, vi n_, vi qa, vi qb, vj op, .second, vr b5, vr b33, vr b67, vi 1, vi 1, vi 1, vi 1, u_] [(rr b33), (rr b5)]) := fun t k => by
          refine c2237 t ?_
          show S_ p e below T156 m 166 #[vj j_, .second, vi f_, vi m_, vi n_, vi qa, vi qb, vj op, .second, vr b5, vr b33, vr b67, vi 1, vi 1, vi 1, vi 1, u_] [(.int (f_ &&& (128 : Int32)))] t
          refine XS.ifNo X156.here hx rfl (hb hby at_166) rfl ((if0 _ _).trans (feq hc2238).1) ?_
          refine XS.iload X156.here hx rfl (hb hby at_169) rfl ?_
          refine XS.ifNo X156.here hx rfl (hb hby at_171) rfl rfl ?_
          refine XS.aload X156.here hx rfl (hb hby at_174) rfl rfl ?_
          refine XS.aload X156.here hx rfl (hb hby at_176) rfl rfl ?_
          exact k
         obtain ⟨_, T2262, L2262, X2262, hQ2262, c2262⟩ := kvirt X156 hx hZ72 hown72 (w94 hw) (w95 hw) (w97 hw) (w96 hw) (w98 hw) (w4 hw) (rm_addHN l Z a0 hw [] b5 b33 b13 b14 sa17_ mv122 h156 n0 o156 f166 f181 f169 f170 f183 f185 f186 f187 f188 g33 ZE7_ ZF8_ f172 g31 f179 f180 hc1924) e156 f166 c2261 hml pd_pLcom_example_lexchange_lexchange_Order_rV [(rr b33)] [] 0 (hb hby at_178) rfl rfl rfl rfl rfl rfl
         obtain ⟨rfl, N2263q, K2264, p2265, p2266, p2267, p2268, p2269⟩ := hQ2262
         have N2263 := Fr.app N156 N2263q
         have o2270 := o156.keep K2264 (allS g33 (allS g31 all0))
         have kp2271 := kp156.trans K2264 (allS (Or.inr z36) (allS (Or.inr z30) all0))
         have c2272 : Kt p e below T2262 st0 (mkF m 190 #[vj j_, .second, vi f_, vi m_, vi n_, vi qa, vi qb, vj op, .second, vr b5, vr b33, vr b67, vi 1, vi 1, vi 1, vi 1, u_] [(rr b67), (rr b5)]) := fun t k => by
          refine c2262 t ?_
          show S_ p e below T2262 m 181 #[vj j_, .second, vi f_, vi m_, vi n_, vi qa, vi qb, vj op, .second, vr b5, vr b33, vr b67, vi 1, vi 1, vi 1, vi 1, u_] [] t
          refine XS.iload X2262.here hx rfl (hb hby at_181) rfl ?_
          refine XS.ifNo X2262.here hx rfl (hb hby at_183) rfl rfl ?_
          refine XS.aload X2262.here hx rfl (hb hby at_186) rfl rfl ?_
          refine XS.aload X2262.here hx rfl (hb hby at_188) rfl rfl ?_
          exact k
         obtain ⟨_, T2273, L2273, X2273, hQ2273, c2273⟩ := kvirt X2262 hx hZ72 hown72 (w94 hw) (w95 hw) (w97 hw) (w96 hw) (w98 hw) (w4 hw) (rm_addSN l Z a0 hw [] b5 b67 b13 b14 sa17_ mv155 T2262.heap n0 o2270 (f166.keep K2264) (f189.keep K2264) (f169.keep K2264 (ninS q167 (ninS q191 nin0))) (f170.keep K2264 (ninS q167 (ninS q191 nin0))) (f157.keep K2264 (ninS q182.symm (ninS q178.symm nin0))) (f159.keep K2264 (ninS q182.symm (ninS q178.symm nin0))) (f160.keep K2264 (ninS q182.symm (ninS q178.symm nin0))) (f161.keep K2264 (ninS q182.symm (ninS q178.symm nin0))) (f162.keep K2264 (ninS q182.symm (ninS q178.symm nin0))) g67 ZE7_ ZF8_ (f171.keep K2264) g29 (f175.keep K2264 (ninS q173 (ninS p25 nin0))) (f176.keep K2264 (ninS q173 (ninS p25 nin0))) hc2236) rfl (f166.keep K2264) c2272 hml pd_pLcom_example_lexchange_lexchange_Order_rV [(rr b67)] [] 0 (hb hby at_190) rfl rfl rfl rfl rfl rfl
         obtain ⟨rfl, N2274q, K2275, p2276, p2277, p2278, p2279, p2280⟩ := hQ2273
         have N2274 := Fr.app N2263 N2274q
         have o2281 := o2270.keep K2275 (allS g67 (allS g29 all0))
         have kp2282 := kp2271.trans K2275 (allS (Or.inr z70) (allS (Or.inr z28) all0))
         have c2283 : Kt p e below T2273 st0 (mkF m 220 #[vj j_, .second, vi f_, vi m_, vi n_, vi qa, vi qb, vj op, .second, vr b5, vr b33, vr b67, vi 1, vi 1, vi 1, vi 1, u_] []) := fun t k => by
          refine c2273 t ?_
          show S_ p e below T2273 m 193 #[vj j_, .second, vi f_, vi m_, vi n_, vi qa, vi qb, vj op, .second, vr b5, vr b33, vr b67, vi 1, vi 1, vi 1, vi 1, u_] [] t
          refine yG X2273.here hx rfl 193 220 rfl (hb hby at_193) ?_
          exact k
         have K2295 : Keep h156 T2273.heap [b67, b13, b33, b14] := (((Keep.refl _ _).trans K2264 (allS (Or.inl (List.mem_of_getElem? (i := 2) rfl)) (allS (Or.inl (List.mem_of_getElem? (i := 3) rfl)) all0))).trans K2275 (allS (Or.inl (List.mem_of_getElem? (i := 0) rfl)) (allS (Or.inl (List.mem_of_getElem? (i := 1) rfl)) all0)))
         exact ⟨T2273, _, _, X2273.mono (by decide) (by decide), rfl, o2281, K2295, kp2282, N2274, p2279, p2280, (p2268.keep K2275 (ninS q178 (ninS p25.symm nin0))), (p2269.keep K2275 (ninS q178 (ninS p25.symm nin0))), (p2265.keep K2275 (ninS q182 (ninS q173.symm nin0))), (p2266.keep K2275 (ninS q182 (ninS q173.symm nin0))), (p2267.keep K2275 (ninS q182 (ninS q173.symm nin0))), p2276, p2277, p2278, c2283⟩
       have c2297 : Kt p e below T2284 st0 (mkF m 224 #[vj j_, .second, vi f_, vi m_, vi n_, vi qa, vi qb, vj op, .second, vr b5, vr b33, vr b67, vi 1, vi 1, vi 1, vi 1, u_] [(.int (f_ &&& (64 : Int32)))]) := fun t k => by
        refine c2284 t ?_
        show S_ p e below T2284 m 220 #[vj j_, .second, vi f_, vi m_, vi n_, vi qa, vi qb, vj op, .second, vr b5, vr b33, vr b67, vi 1, vi 1, vi 1, vi 1, u_] [] t
        refine XS.iloadN X2284.here hx rfl (hb hby at_220) rfl ?_
        refine XS.bipush X2284.here hx rfl (hb hby at_221) ?_
        refine XS.iand X2284.here hx rfl (hb hby at_223) rfl ?_
        exact k
       obtain ⟨T2348, h2348, L2348, X2348, e2348, o2348, K2348, kp2348, N2348, f2349, f2350, c2348⟩ : ∃ (T2348 : State) (h2348 : Heap) (L2348 : List Loc), Stand p l e room_1 (s.setVm T72.vm) m #[(.long j_), (.int f_), (.int m_), (.int n_)] below meth c T2348 L2348 9 49 ∧ T2348.heap = h2348 ∧ Old Z n0 h2348 ∧ Keep h2284 h2348 [b67, b13, b33, b14] ∧ Keep h0 h2348 [] ∧ Fr n0 L2348 ∧ Fld Z h2348 b13 nm2 "head" nm1 .null ∧ Fld Z h2348 b14 nm2 "head" nm1 .null ∧ Kt p e below T2348 st0 (mkF m 278 #[vj j_, .second, vi f_, vi m_, vi n_, vi qa, vi qb, vj op, .second, vr b5, vr b33, vr b67, vi 1, vi 1, vi 1, vi 1, u_] []) := by
        by_cases hc2298 : (f_ &&& (64 : Int32)) = (0 : Int32)
        ·have c2299 : Kt p e below T2284 st0 (mkF m 263 #[vj j_, .second, vi f_, vi m_, vi n_, vi qa, vi qb, vj op, .second, vr b5, vr b33, vr b67, vi 1, vi 1, vi 1, vi 1, u_] [(rr b67), (rr b5)]) := fun t k => by
          refine c2297 t ?_
          show S_ p e below T2284 m 224 #[vj j_, .second, vi f_, vi m_, vi n_, vi qa, vi qb, vj op, .second, vr b5, vr b33, vr b67, vi 1, vi 1, vi 1, vi 1, u_] [(.int (f_ &&& (64 : Int32)))] t
          refine yI X2284.here hx rfl 224 254 rfl (hb hby at_224) rfl ((if0 _ _).trans (teq hc2298).1) ?_
          refine XS.iload X2284.here hx rfl (hb hby at_254) rfl ?_
          refine XS.ifNo X2284.here hx rfl (hb hby at_256) rfl rfl ?_
          refine XS.aload X2284.here hx rfl (hb hby at_259) rfl rfl ?_
          refine XS.aload X2284.here hx rfl (hb hby at_261) rfl rfl ?_
          exact k
         obtain ⟨_, T2300, L2300, X2300, hQ2300, c2300⟩ := kvirt X2284 hx hZ72 hown72 (w116 hw) (w117 hw) (w119 hw) (w118 hw) (w120 hw) (w4 hw) (rm_rmS1 l Z a0 hw [] b5 b67 b13 b14 h2284 n0 o2284 (f166.keep K2284) (f189.keep K2284) (f169.keep K2284 (ninS q168 (ninS q190 (ninS q167 (ninS q191 nin0))))) (f170.keep K2284 (ninS q168 (ninS q190 (ninS q167 (ninS q191 nin0))))) g67 (f171.keep K2284) g29 f2285 f2286 f2292 f2293 f2294) e2284 (f166.keep K2284) c2299 hml pd_pLcom_example_lexchange_lexchange_Order_rV [(rr b67)] [] 0 (hb hby at_263) rfl rfl rfl rfl rfl rfl
         obtain ⟨rfl, N2301q, K2302, p2303, p2304, p2305, p2306, p2307⟩ := hQ2300
         have N2301 := Fr.app N2284 N2301q
         have o2308 := o2284.keep K2302 (allS g67 (allS g29 all0))
         have kp2309 := kp2284.trans K2302 (allS (Or.inr z70) (allS (Or.inr z28) all0))
         have f2310 := (f169.keep K2284 (ninS q168 (ninS q190 (ninS q167 (ninS q191 nin0))))).keep K2302 (ninS q168 (ninS q190 nin0))
         have f2311 := (f170.keep K2284 (ninS q168 (ninS q190 (ninS q167 (ninS q191 nin0))))).keep K2302 (ninS q168 (ninS q190 nin0))
         have c2312 : Kt p e below T2300 st0 (mkF m 275 #[vj j_, .second, vi f_, vi m_, vi n_, vi qa, vi qb, vj op, .second, vr b5, vr b33, vr b67, vi 1, vi 1, vi 1, vi 1, u_] [(rr b33), (rr b5)]) := fun t k => by
          refine c2300 t ?_
          show S_ p e below T2300 m 266 #[vj j_, .second, vi f_, vi m_, vi n_, vi qa, vi qb, vj op, .second, vr b5, vr b33, vr b67, vi 1, vi 1, vi 1, vi 1, u_] [] t
          refine XS.iload X2300.here hx rfl (hb hby at_266) rfl ?_
          refine XS.ifNo X2300.here hx rfl (hb hby at_268) rfl rfl ?_
          refine XS.aload X2300.here hx rfl (hb hby at_271) rfl rfl ?_
          refine XS.aload X2300.here hx rfl (hb hby at_273) rfl rfl ?_
          exact k
         obtain ⟨_, T2313, L2313, X2313, hQ2313, c2313⟩ := kvirt X2300 hx hZ72 hown72 (w116 hw) (w117 hw) (w119 hw) (w118 hw) (w120 hw) (w4 hw) (rm_rmH1e l Z a0 hw [] b5 b33 b13 b14 T2300.heap n0 o2308 ((f166.keep K2284).keep K2302) ((f181.keep K2284).keep K2302) f2310 f2311 g33 ((f172.keep K2284).keep K2302) g31 (f2287.keep K2302 (ninS q178 (ninS p25.symm nin0))) (f2288.keep K2302 (ninS q178 (ninS p25.symm nin0))) ((f171.keep K2284).keep K2302) p2306 p2307 (f2289.keep K2302 (ninS q182 (ninS q173.symm nin0))) (f2290.keep K2302 (ninS q182 (ninS q173.symm nin0))) (f2291.keep K2302 (ninS q182 (ninS q173.symm nin0)))) rfl ((f166.keep K2284).keep K2302) c2312 hml pd_pLcom_example_lexchange_lexchange_Order_rV [(rr b33)] [] 0 (hb hby at_275) rfl rfl rfl rfl rfl rfl
         obtain ⟨rfl, N2314q, K2315, p2316, p2317, p2318, p2319, p2320⟩ := hQ2313
         have N2314 := Fr.app N2301 N2314q
         have o2321 := o2308.keep K2315 (allS g33 (allS g31 all0))
         have kp2322 := kp2309.trans K2315 (allS (Or.inr z36) (allS (Or.inr z30) all0))
         have K2352 : Keep h2284 T2313.heap [b67, b13, b33, b14] := (((Keep.refl _ _).trans K2302 (allS (Or.inl (List.mem_of_getElem? (i := 0) rfl)) (allS (Or.inl (List.mem_of_getElem? (i := 1) rfl)) all0))).trans K2315 (allS (Or.inl (List.mem_of_getElem? (i := 2) rfl)) (allS (Or.inl (List.mem_of_getElem? (i := 3) rfl)) all0)))
         exact ⟨T2313, _, _, X2313.mono (by decide) (by decide), rfl, o2321, K2352, kp2322, N2314, (p2306.keep K2315 (ninS q173 (ninS p25 nin0))), p2319, c2313⟩
        ·have c2323 : Kt p e below T2284 st0 (mkF m 236 #[vj j_, .second, vi f_, vi m_, vi n_, vi qa, vi qb, vj op, .second, vr b5, vr b33, vr b67, vi 1, vi 1, vi 1, vi 1, u_] [(rr b33), (rr b5)]) := fun t k => by
          refine c2297 t ?_
          show S_ p e below T2284 m 224 #[vj j_, .second, vi f_, vi m_, vi n_, vi qa, vi qb, vj op, .second, vr b5, vr b33, vr b67, vi 1, vi 1, vi 1, vi 1, u_] [(.int (f_ &&& (64 : Int32)))] t
          refine XS.ifNo X2284.here hx rfl (hb hby at_224) rfl ((if0 _ _).trans (feq hc2298).1) ?_
          refine XS.iload X2284.here hx rfl (hb hby at_227) rfl ?_
          refine XS.ifNo X2284.here hx rfl (hb hby at_229) rfl rfl ?_
          refine XS.aload X2284.here hx rfl (hb hby at_232) rfl rfl ?_
          refine XS.aload X2284.here hx rfl (hb hby at_234) rfl rfl ?_
          exact k
         obtain ⟨_, T2324, L2324, X2324, hQ2324, c2324⟩ := kvirt X2284 hx hZ72 hown72 (w116 hw) (w117 hw) (w119 hw) (w118 hw) (w120 hw) (w4 hw) (rm_rmH1r l Z a0 hw [] b5 b33 b13 b14 b67 h2284 n0 o2284 (f166.keep K2284) (f181.keep K2284) (f169.keep K2284 (ninS q168 (ninS q190 (ninS q167 (ninS q191 nin0))))) (f170.keep K2284 (ninS q168 (ninS q190 (ninS q167 (ninS q191 nin0))))) g33 (f172.keep K2284) g31 f2287 f2288 (f171.keep K2284) f2285 f2286 q182 f2289 f2290 f2291) e2284 (f166.keep K2284) c2323 hml pd_pLcom_example_lexchange_lexchange_Order_rV [(rr b33)] [] 0 (hb hby at_236) rfl rfl rfl rfl rfl rfl
         obtain ⟨rfl, N2325q, K2326, p2327, p2328, p2329, p2330, p2331⟩ := hQ2324
         have N2325 := Fr.app N2284 N2325q
         have o2332 := o2284.keep K2326 (allS g33 (allS g31 all0))
         have kp2333 := kp2284.trans K2326 (allS (Or.inr z36) (allS (Or.inr z30) all0))
         have f2334 := (f169.keep K2284 (ninS q168 (ninS q190 (ninS q167 (ninS q191 nin0))))).keep K2326 (ninS q167 (ninS q191 nin0))
         have f2335 := (f170.keep K2284 (ninS q168 (ninS q190 (ninS q167 (ninS q191 nin0))))).keep K2326 (ninS q167 (ninS q191 nin0))
         have c2336 : Kt p e below T2324 st0 (mkF m 248 #[vj j_, .second, vi f_, vi m_, vi n_, vi qa, vi qb, vj op, .second, vr b5, vr b33, vr b67, vi 1, vi 1, vi 1, vi 1, u_] [(rr b67), (rr b5)]) := fun t k => by
          refine c2324 t ?_
          show S_ p e below T2324 m 239 #[vj j_, .second, vi f_, vi m_, vi n_, vi qa, vi qb, vj op, .second, vr b5, vr b33, vr b67, vi 1, vi 1, vi 1, vi 1, u_] [] t
          refine XS.iload X2324.here hx rfl (hb hby at_239) rfl ?_
          refine XS.ifNo X2324.here hx rfl (hb hby at_241) rfl rfl ?_
          refine XS.aload X2324.here hx rfl (hb hby at_244) rfl rfl ?_
          refine XS.aload X2324.here hx rfl (hb hby at_246) rfl rfl ?_
          exact k
         obtain ⟨_, T2337, L2337, X2337, hQ2337, c2337⟩ := kvirt X2324 hx hZ72 hown72 (w116 hw) (w117 hw) (w119 hw) (w118 hw) (w120 hw) (w4 hw) (rm_rmS1 l Z a0 hw [] b5 b67 b13 b14 T2324.heap n0 o2332 ((f166.keep K2284).keep K2326) ((f189.keep K2284).keep K2326) f2334 f2335 g67 ((f171.keep K2284).keep K2326) g29 (f2285.keep K2326 (ninS q173 (ninS p25 nin0))) (f2286.keep K2326 (ninS q173 (ninS p25 nin0))) (f2292.keep K2326 (ninS q182.symm (ninS q178.symm nin0))) (f2293.keep K2326 (ninS q182.symm (ninS q178.symm nin0))) (f2294.keep K2326 (ninS q182.symm (ninS q178.symm nin0)))) rfl ((f166.keep K2284).keep K2326) c2336 hml pd_pLcom_example_lexchange_lexchange_Order_rV [(rr b67)] [] 0 (hb hby at_248) rfl rfl rfl rfl rfl rfl
         obtain ⟨rfl, N2338q, K2339, p2340, p2341, p2342, p2343, p2344⟩ := hQ2337
         have N2338 := Fr.app N2325 N2338q
         have o2345 := o2332.keep K2339 (allS g67 (allS g29 all0))
         have kp2346 := kp2333.trans K2339 (allS (Or.inr z70) (allS (Or.inr z28) all0))
         have c2347 : Kt p e below T2337 st0 (mkF m 278 #[vj j_, .second, vi f_, vi m_, vi n_, vi qa, vi qb, vj op, .second, vr b5, vr b33, vr b67, vi 1, vi 1, vi 1, vi 1, u_] []) := fun t k => by
          refine c2337 t ?_
          show S_ p e below T2337 m 251 #[vj j_, .second, vi f_, vi m_, vi n_, vi qa, vi qb, vj op, .second, vr b5, vr b33, vr b67, vi 1, vi 1, vi 1, vi 1, u_] [] t
          refine yG X2337.here hx rfl 251 278 rfl (hb hby at_251) ?_
          exact k
         have K2351 : Keep h2284 T2337.heap [b67, b13, b33, b14] := (((Keep.refl _ _).trans K2326 (allS (Or.inl (List.mem_of_getElem? (i := 2) rfl)) (allS (Or.inl (List.mem_of_getElem? (i := 3) rfl)) all0))).trans K2339 (allS (Or.inl (List.mem_of_getElem? (i := 0) rfl)) (allS (Or.inl (List.mem_of_getElem? (i := 1) rfl)) all0)))
         exact ⟨T2337, _, _, X2337.mono (by decide) (by decide), rfl, o2345, K2351, kp2346, N2338, p2343, (p2330.keep K2339 (ninS q178 (ninS p25.symm nin0))), c2347⟩
       have f2353 := (f169.keep K2284 (ninS q168 (ninS q190 (ninS q167 (ninS q191 nin0))))).keep K2348 (ninS q168 (ninS q190 (ninS q167 (ninS q191 nin0))))
       have f2354 := (f170.keep K2284 (ninS q168 (ninS q190 (ninS q167 (ninS q191 nin0))))).keep K2348 (ninS q168 (ninS q190 (ninS q167 (ninS q191 nin0))))
       have c2355 : Kt p e below T2348 st0 (mkF m 315 #[vj j_, .second, vi f_, vi m_, vi n_, vi qa, vi qb, vj op, .second, vr b5, vr b33, vr b67, vi 1, vi 1, vi 1, vi 1, vi 0] [(rr b5)]) := fun t k => by
        refine c2348 t ?_
        show S_ p e below T2348 m 278 #[vj j_, .second, vi f_, vi m_, vi n_, vi qa, vi qb, vj op, .second, vr b5, vr b33, vr b67, vi 1, vi 1, vi 1, vi 1, u_] [] t
        refine XS.iconst X2348.here hx rfl (hb hby at_278) ?_
        refine XS.istore X2348.here hx rfl (hb hby at_279) rfl (l' := #[vj j_, .second, vi f_, vi m_, vi n_, vi qa, vi qb, vj op, .second, vr b5, vr b33, vr b67, vi 1, vi 1, vi 1, vi 1, vi 0]) rfl ?_
        refine XS.iload X2348.here hx rfl (hb hby at_281) rfl ?_
        refine XS.ifNo X2348.here hx rfl (hb hby at_283) rfl rfl ?_
        refine XS.iload X2348.here hx rfl (hb hby at_286) rfl ?_
        refine yI X2348.here hx rfl 288 297 rfl (hb hby at_288) rfl rfl ?_
        refine XS.iload X2348.here hx rfl (hb hby at_297) rfl ?_
        refine XS.ifNo X2348.here hx rfl (hb hby at_299) rfl rfl ?_
        show S_ p e below T2348 m 302 #[vj j_, .second, vi f_, vi m_, vi n_, vi qa, vi qb, vj op, .second, vr b5, vr b33, vr b67, vi 1, vi 1, vi 1, vi 1, vi 0] [] t
        refine XS.iload X2348.here hx rfl (hb hby at_302) rfl ?_
        refine yI X2348.here hx rfl 304 313 rfl (hb hby at_304) rfl rfl ?_
        refine XS.aload X2348.here hx rfl (hb hby at_313) rfl rfl ?_
        exact k
       obtain ⟨_, T2356, L2356, X2356, hQ2356, c2356⟩ := kvirt X2348 hx hZ72 hown72 (w87 hw) (w88 hw) (w90 hw) (w89 hw) (w91 hw) (w4 hw) (rm_emE l Z a0 hw [] b5 b13 b14 h2348 n0 o2348 ((f166.keep K2284).keep K2348) f2353 f2354 f2349 f2350) e2348 ((f166.keep K2284).keep K2348) c2355 hml pd_prZ [] [] 0 (hb hby at_315) rfl rfl rfl rfl rfl rfl
       obtain ⟨rfl, N2357q, K2358⟩ := hQ2356
       have N2357 := Fr.app N2348 N2357q
       obtain ⟨fs, hr, hrun, hended, hRW⟩ := X2356.leaveW hS72 (by first | exact (Nat.le_trans hk72 (Nat.le_trans (Nat.le_trans (Nat.le_trans (Nat.le_trans K91.1 K123.1) K156.1) K2284.1) K2348.1)) | (rw [K2358]; exact (Nat.le_trans hk72 (Nat.le_trans (Nat.le_trans (Nat.le_trans (Nat.le_trans K91.1 K123.1) K156.1) K2284.1) K2348.1)))) (v := some (ii 1)) (fun h => by rw [Bd.returns] at h; cases h)
       refine ⟨_, _, c2356 _ ?_, hrun, hended, _, _, rfl, ?_, hRW.1, hRW.2.1, hRW.2.2.1, hRW.2.2.2.mono (by decide) (by decide)⟩
       ·show S_ p e below T2356 m 318 #[vj j_, .second, vi f_, vi m_, vi n_, vi qa, vi qb, vj op, .second, vr b5, vr b33, vr b67, vi 1, vi 1, vi 1, vi 1, vi 0] [(ii 1)] _
        refine XS.iload X2356.here hx rfl (hb hby at_318) rfl ?_
        refine XS.ifNo X2356.here hx rfl (hb hby at_320) rfl rfl ?_
        refine XS.iconst X2356.here hx rfl (hb hby at_323) ?_
        refine yG X2356.here hx rfl 324 328 rfl (hb hby at_324) ?_
        refine XS.icmpNo X2356.here hx rfl (hb hby at_328) rfl rfl ?_
        refine XS.iconst X2356.here hx rfl (hb hby at_331) ?_
        refine yG X2356.here hx rfl 332 336 rfl (hb hby at_332) ?_
        show S_ p e below T2356 m 336 #[vj j_, .second, vi f_, vi m_, vi n_, vi qa, vi qb, vj op, .second, vr b5, vr b33, vr b67, vi 1, vi 1, vi 1, vi 1, vi 0] [(ii 1)] _
        exact retN X2356 hx (t := .boolean) Bd.returns (by simp) (hb hby at_336) hr
       ·show Q_law Z j_ f_ m_ n_ sa5_ sa9_ sa13_ sa17_ h0 n0 _ T2356.heap _
        rw [K2358]
        exact ⟨rfl, N2357, kp2348⟩
      ·have c2359 : Kt p e below T156 st0 (mkF m 166 #[vj j_, .second, vi f_, vi m_, vi n_, vi qa, vi qb, vj op, .second, vr b5, vr b33, vr b67, vi 1, vi 1, vi 1, vi 1, u_] [(.int (f_ &&& (128 : Int32)))]) := fun t k => by
        refine c1923 t ?_
        show S_ p e below T156 m 161 #[vj j_, .second, vi f_, vi m_, vi n_, vi qa, vi qb, vj op, .second, vr b5, vr b33, vr b67, vi 1, vi 1, vi 1, vi 1, u_] [] t
        refine XS.iloadN X156.here hx rfl (hb hby at_161) rfl ?_
        refine XS.sipush X156.here hx rfl (hb hby at_162) ?_
        refine XS.iand X156.here hx rfl (hb hby at_165) rfl ?_
        exact k
       by_cases hc2360 : (f_ &&& (128 : Int32)) = (0 : Int32)
       ·have c2361 : Kt p e below T156 st0 (mkF m 205 #[vj j_, .second, vi f_, vi m_, vi n_, vi qa, vi qb, vj op, .second, vr b5, vr b33, vr b67, vi 1, vi 1, vi 1, vi 1, u_] [(rr b67), (rr b5)]) := fun t k => by
         refine c2359 t ?_
         show S_ p e below T156 m 166 #[vj j_, .second, vi f_, vi m_, vi n_, vi qa, vi qb, vj op, .second, vr b5, vr b33, vr b67, vi 1, vi 1, vi 1, vi 1, u_] [(.int (f_ &&& (128 : Int32)))] t
         refine yI X156.here hx rfl 166 196 rfl (hb hby at_166) rfl ((if0 _ _).trans (teq hc2360).1) ?_
         refine XS.iload X156.here hx rfl (hb hby at_196) rfl ?_
         refine XS.ifNo X156.here hx rfl (hb hby at_198) rfl rfl ?_
         refine XS.aload X156.here hx rfl (hb hby at_201) rfl rfl ?_
         refine XS.aload X156.here hx rfl (hb hby at_203) rfl rfl ?_
         exact k
        obtain ⟨_, T2362, L2362, X2362, hQ2362, c2362⟩ := kvirt X156 hx hZ72 hown72 (w94 hw) (w95 hw) (w97 hw) (w96 hw) (w98 hw) (w4 hw) (rm_addHN l Z a0 hw [] b5 b67 b13 b14 sa17_ mv155 h156 n0 o156 f166 f189 f169 f170 f157 f159 f160 f161 f162 g67 ZE7_ ZF8_ f172 g31 f179 f180 hc2236) e156 f166 c2361 hml pd_pLcom_example_lexchange_lexchange_Order_rV [(rr b67)] [] 0 (hb hby at_205) rfl rfl rfl rfl rfl rfl
        obtain ⟨rfl, N2363q, K2364, p2365, p2366, p2367, p2368, p2369⟩ := hQ2362
        have N2363 := Fr.app N156 N2363q
        have o2370 := o156.keep K2364 (allS g67 (allS g31 all0))
        have kp2371 := kp156.trans K2364 (allS (Or.inr z70) (allS (Or.inr z30) all0))
        have c2372 : Kt p e below T2362 st0 (mkF m 217 #[vj j_, .second, vi f_, vi m_, vi n_, vi qa, vi qb, vj op, .second, vr b5, vr b33, vr b67, vi 1, vi 1, vi 1, vi 1, u_] [(rr b33), (rr b5)]) := fun t k => by
         refine c2362 t ?_
         show S_ p e below T2362 m 208 #[vj j_, .second, vi f_, vi m_, vi n_, vi qa, vi qb, vj op, .second, vr b5, vr b33, vr b67, vi 1, vi 1, vi 1, vi 1, u_] [] t
         refine XS.iload X2362.here hx rfl (hb hby at_208) rfl ?_
         refine XS.ifNo X2362.here hx rfl (hb hby at_210) rfl rfl ?_
         refine XS.aload X2362.here hx rfl (hb hby at_213) rfl rfl ?_
         refine XS.aload X2362.here hx rfl (hb hby at_215) rfl rfl ?_
         exact k
        obtain ⟨_, T2373, L2373, X2373, hQ2373, c2373⟩ := kvirt X2362 hx hZ72 hown72 (w94 hw) (w95 hw) (w97 hw) (w96 hw) (w98 hw) (w4 hw) (rm_addHR l Z a0 hw [] b5 b33 b13 b14 sa17_ mv122 b67 T2362.heap n0 o2370 (f166.keep K2364) (f181.keep K2364) (f169.keep K2364 (ninS q168 (ninS q191 nin0))) (f170.keep K2364 (ninS q168 (ninS q191 nin0))) (f183.keep K2364 (ninS q182 (ninS q177.symm nin0))) (f185.keep K2364 (ninS q182 (ninS q177.symm nin0))) (f186.keep K2364 (ninS q182 (ninS q177.symm nin0))) (f187.keep K2364 (ninS q182 (ninS q177.symm nin0))) (f188.keep K2364 (ninS q182 (ninS q177.symm nin0))) g33 ZE7_ ZF8_ (f172.keep K2364) g31 p2368 p2369 (f189.keep K2364) g67 q182.symm p2365 p2366 p2367 hc1924) rfl (f166.keep K2364) c2372 hml pd_pLcom_example_lexchange_lexchange_Order_rV [(rr b33)] [] 0 (hb hby at_217) rfl rfl rfl rfl rfl rfl
        obtain ⟨rfl, N2374q, K2375, p2376, p2377, p2378, p2379, p2380, p2381, p2382, p2383⟩ := hQ2373
        have N2374 := Fr.app N2363 N2374q
        have o2384 := o2370.keep K2375 (allS g33 (allS g31 (allS g67 all0)))
        have kp2385 := kp2371.trans K2375 (allS (Or.inr z36) (allS (Or.inr z30) (allS (Or.inr z70) all0)))
        have c2386 : Kt p e below T2373 st0 (mkF m 224 #[vj j_, .second, vi f_, vi m_, vi n_, vi qa, vi qb, vj op, .second, vr b5, vr b33, vr b67, vi 1, vi 1, vi 1, vi 1, u_] [(.int (f_ &&& (64 : Int32)))]) := fun t k => by
         refine c2373 t ?_
         show S_ p e below T2373 m 220 #[vj j_, .second, vi f_, vi m_, vi n_, vi qa, vi qb, vj op, .second, vr b5, vr b33, vr b67, vi 1, vi 1, vi 1, vi 1, u_] [] t
         refine XS.iloadN X2373.here hx rfl (hb hby at_220) rfl ?_
         refine XS.bipush X2373.here hx rfl (hb hby at_221) ?_
         refine XS.iand X2373.here hx rfl (hb hby at_223) rfl ?_
         exact k
        obtain ⟨T2447, h2447, L2447, X2447, e2447, o2447, K2447, kp2447, N2447, f2448, c2447⟩ : ∃ (T2447 : State) (h2447 : Heap) (L2447 : List Loc), Stand p l e room_1 (s.setVm T72.vm) m #[(.long j_), (.int f_), (.int m_), (.int n_)] below meth c T2447 L2447 9 49 ∧ T2447.heap = h2447 ∧ Old Z n0 h2447 ∧ Keep T2373.heap h2447 [b67, b14, b33] ∧ Keep h0 h2447 [] ∧ Fr n0 L2447 ∧ Fld Z h2447 b14 nm2 "head" nm1 .null ∧ Kt p e below T2447 st0 (mkF m 278 #[vj j_, .second, vi f_, vi m_, vi n_, vi qa, vi qb, vj op, .second, vr b5, vr b33, vr b67, vi 1, vi 1, vi 1, vi 1, u_] []) := by
         by_cases hc2387 : (f_ &&& (64 : Int32)) = (0 : Int32)
         ·have c2388 : Kt p e below T2373 st0 (mkF m 263 #[vj j_, .second, vi f_, vi m_, vi n_, vi qa, vi qb, vj op, .second, vr b5, vr b33, vr b67, vi 1, vi 1, vi 1, vi 1, u_] [(rr b67), (rr b5)]) := fun t k => by
           refine c2386 t ?_
           show S_ p e below T2373 m 224 #[vj j_, .second, vi f_, vi m_, vi n_, vi qa, vi qb, vj op, .second, vr b5, vr b33, vr b67, vi 1, vi 1, vi 1, vi 1, u_] [(.int (f_ &&& (64 : Int32)))] t
           refine yI X2373.here hx rfl 224 254 rfl (hb hby at_224) rfl ((if0 _ _).trans (teq hc2387).1) ?_
           refine XS.iload X2373.here hx rfl (hb hby at_254) rfl ?_
           refine XS.ifNo X2373.here hx rfl (hb hby at_256) rfl rfl ?_
           refine XS.aload X2373.here hx rfl (hb hby at_259) rfl rfl ?_
           refine XS.aload X2373.here hx rfl (hb hby at_261) rfl rfl ?_
           exact k
          obtain ⟨_, T2389, L2389, X2389, hQ2389, c2389⟩ := kvirt X2373 hx hZ72 hown72 (w116 hw) (w117 hw) (w119 hw) (w118 hw) (w120 hw) (w4 hw) (rm_rmHF l Z a0 hw [] b5 b67 b13 b14 b33 T2373.heap n0 o2384 ((f166.keep K2364).keep K2375) ((f189.keep K2364).keep K2375) ((f169.keep K2364 (ninS q168 (ninS q191 nin0))).keep K2375 (ninS q167 (ninS q191 (ninS q168 nin0)))) ((f170.keep K2364 (ninS q168 (ninS q191 nin0))).keep K2375 (ninS q167 (ninS q191 (ninS q168 nin0)))) g67 ((f172.keep K2364).keep K2375) g31 ((f171.keep K2364).keep K2375) ((f175.keep K2364 (ninS q174 (ninS p25 nin0))).keep K2375 (ninS q173 (ninS p25 (ninS q174 nin0)))) ((f176.keep K2364 (ninS q174 (ninS p25 nin0))).keep K2375 (ninS q173 (ninS p25 (ninS q174 nin0)))) p2379 p2380 ((f181.keep K2364).keep K2375) g33 q182.symm p2381 p2382 p2383 p2376 p2377 p2378) rfl ((f166.keep K2364).keep K2375) c2388 hml pd_pLcom_example_lexchange_lexchange_Order_rV [(rr b67)] [] 0 (hb hby at_263) rfl rfl rfl rfl rfl rfl
          obtain ⟨rfl, N2390q, K2391, p2392, p2393, p2394, p2395, p2396, p2397, p2398, p2399⟩ := hQ2389
          have N2390 := Fr.app N2374 N2390q
          have o2400 := o2384.keep K2391 (allS g67 (allS g31 (allS g33 all0)))
          have kp2401 := kp2385.trans K2391 (allS (Or.inr z70) (allS (Or.inr z30) (allS (Or.inr z36) all0)))
          have f2402 := ((f169.keep K2364 (ninS q168 (ninS q191 nin0))).keep K2375 (ninS q167 (ninS q191 (ninS q168 nin0)))).keep K2391 (ninS q168 (ninS q191 (ninS q167 nin0)))
          have f2403 := ((f170.keep K2364 (ninS q168 (ninS q191 nin0))).keep K2375 (ninS q167 (ninS q191 (ninS q168 nin0)))).keep K2391 (ninS q168 (ninS q191 (ninS q167 nin0)))
          have f2404 := ((f175.keep K2364 (ninS q174 (ninS p25 nin0))).keep K2375 (ninS q173 (ninS p25 (ninS q174 nin0)))).keep K2391 (ninS q174 (ninS p25 (ninS q173 nin0)))
          have f2405 := ((f176.keep K2364 (ninS q174 (ninS p25 nin0))).keep K2375 (ninS q173 (ninS p25 (ninS q174 nin0)))).keep K2391 (ninS q174 (ninS p25 (ninS q173 nin0)))
          have c2406 : Kt p e below T2389 st0 (mkF m 275 #[vj j_, .second, vi f_, vi m_, vi n_, vi qa, vi qb, vj op, .second, vr b5, vr b33, vr b67, vi 1, vi 1, vi 1, vi 1, u_] [(rr b33), (rr b5)]) := fun t k => by
           refine c2389 t ?_
           show S_ p e below T2389 m 266 #[vj j_, .second, vi f_, vi m_, vi n_, vi qa, vi qb, vj op, .second, vr b5, vr b33, vr b67, vi 1, vi 1, vi 1, vi 1, u_] [] t
           refine XS.iload X2389.here hx rfl (hb hby at_266) rfl ?_
           refine XS.ifNo X2389.here hx rfl (hb hby at_268) rfl rfl ?_
           refine XS.aload X2389.here hx rfl (hb hby at_271) rfl rfl ?_
           refine XS.aload X2389.here hx rfl (hb hby at_273) rfl rfl ?_
           exact k
          obtain ⟨_, T2407, L2407, X2407, hQ2407, c2407⟩ := kvirt X2389 hx hZ72 hown72 (w116 hw) (w117 hw) (w119 hw) (w118 hw) (w120 hw) (w4 hw) (rm_rmH1e l Z a0 hw [] b5 b33 b13 b14 T2389.heap n0 o2400 (((f166.keep K2364).keep K2375).keep K2391) (((f181.keep K2364).keep K2375).keep K2391) f2402 f2403 g33 (((f172.keep K2364).keep K2375).keep K2391) g31 p2395 p2396 (((f171.keep K2364).keep K2375).keep K2391) f2404 f2405 p2397 p2398 p2399) rfl (((f166.keep K2364).keep K2375).keep K2391) c2406 hml pd_pLcom_example_lexchange_lexchange_Order_rV [(rr b33)] [] 0 (hb hby at_275) rfl rfl rfl rfl rfl rfl
          obtain ⟨rfl, N2408q, K2409, p2410, p2411, p2412, p2413, p2414⟩ := hQ2407
          have N2408 := Fr.app N2390 N2408q
          have o2415 := o2400.keep K2409 (allS g33 (allS g31 all0))
          have kp2416 := kp2401.trans K2409 (allS (Or.inr z36) (allS (Or.inr z30) all0))
          have K2450 : Keep T2373.heap T2407.heap [b67, b14, b33] := (((Keep.refl _ _).trans K2391 (allS (Or.inl (List.mem_of_getElem? (i := 0) rfl)) (allS (Or.inl (List.mem_of_getElem? (i := 1) rfl)) (allS (Or.inl (List.mem_of_getElem? (i := 2) rfl)) all0)))).trans K2409 (allS (Or.inl (List.mem_of_getElem? (i := 2) rfl)) (allS (Or.inl (List.mem_of_getElem? (i := 1) rfl)) all0)))
          exact ⟨T2407, _, _, X2407.mono (by decide) (by decide), rfl, o2415, K2450, kp2416, N2408, p2413, c2407⟩
         ·have c2417 : Kt p e below T2373 st0 (mkF m 236 #[vj j_, .second, vi f_, vi m_, vi n_, vi qa, vi qb, vj op, .second, vr b5, vr b33, vr b67, vi 1, vi 1, vi 1, vi 1, u_] [(rr b33), (rr b5)]) := fun t k => by
           refine c2386 t ?_
           show S_ p e below T2373 m 224 #[vj j_, .second, vi f_, vi m_, vi n_, vi qa, vi qb, vj op, .second, vr b5, vr b33, vr b67, vi 1, vi 1, vi 1, vi 1, u_] [(.int (f_ &&& (64 : Int32)))] t
           refine XS.ifNo X2373.here hx rfl (hb hby at_224) rfl ((if0 _ _).trans (feq hc2387).1) ?_
           refine XS.iload X2373.here hx rfl (hb hby at_227) rfl ?_
           refine XS.ifNo X2373.here hx rfl (hb hby at_229) rfl rfl ?_
           refine XS.aload X2373.here hx rfl (hb hby at_232) rfl rfl ?_
           refine XS.aload X2373.here hx rfl (hb hby at_234) rfl rfl ?_
           exact k
          obtain ⟨_, T2418, L2418, X2418, hQ2418, c2418⟩ := kvirt X2373 hx hZ72 hown72 (w116 hw) (w117 hw) (w119 hw) (w118 hw) (w120 hw) (w4 hw) (rm_rmHL l Z a0 hw [] b5 b33 b13 b14 b67 T2373.heap n0 o2384 ((f166.keep K2364).keep K2375) ((f181.keep K2364).keep K2375) ((f169.keep K2364 (ninS q168 (ninS q191 nin0))).keep K2375 (ninS q167 (ninS q191 (ninS q168 nin0)))) ((f170.keep K2364 (ninS q168 (ninS q191 nin0))).keep K2375 (ninS q167 (ninS q191 (ninS q168 nin0)))) g33 ((f172.keep K2364).keep K2375) g31 ((f171.keep K2364).keep K2375) ((f175.keep K2364 (ninS q174 (ninS p25 nin0))).keep K2375 (ninS q173 (ninS p25 (ninS q174 nin0)))) ((f176.keep K2364 (ninS q174 (ninS p25 nin0))).keep K2375 (ninS q173 (ninS p25 (ninS q174 nin0)))) p2379 p2380 ((f189.keep K2364).keep K2375) g67 q182 p2376 p2377 p2378 p2381 p2382 p2383) rfl ((f166.keep K2364).keep K2375) c2417 hml pd_pLcom_example_lexchange_lexchange_Order_rV [(rr b33)] [] 0 (hb hby at_236) rfl rfl rfl rfl rfl rfl
          obtain ⟨rfl, N2419q, K2420, p2421, p2422, p2423, p2424, p2425, p2426, p2427, p2428⟩ := hQ2418
          have N2419 := Fr.app N2374 N2419q
          have o2429 := o2384.keep K2420 (allS g33 (allS g31 (allS g67 all0)))
          have kp2430 := kp2385.trans K2420 (allS (Or.inr z36) (allS (Or.inr z30) (allS (Or.inr z70) all0)))
          have f2431 := ((f169.keep K2364 (ninS q168 (ninS q191 nin0))).keep K2375 (ninS q167 (ninS q191 (ninS q168 nin0)))).keep K2420 (ninS q167 (ninS q191 (ninS q168 nin0)))
          have f2432 := ((f170.keep K2364 (ninS q168 (ninS q191 nin0))).keep K2375 (ninS q167 (ninS q191 (ninS q168 nin0)))).keep K2420 (ninS q167 (ninS q191 (ninS q168 nin0)))
          have f2433 := ((f175.keep K2364 (ninS q174 (ninS p25 nin0))).keep K2375 (ninS q173 (ninS p25 (ninS q174 nin0)))).keep K2420 (ninS q173 (ninS p25 (ninS q174 nin0)))
          have f2434 := ((f176.keep K2364 (ninS q174 (ninS p25 nin0))).keep K2375 (ninS q173 (ninS p25 (ninS q174 nin0)))).keep K2420 (ninS q173 (ninS p25 (ninS q174 nin0)))
          have c2435 : Kt p e below T2418 st0 (mkF m 248 #[vj j_, .second, vi f_, vi m_, vi n_, vi qa, vi qb, vj op, .second, vr b5, vr b33, vr b67, vi 1, vi 1, vi 1, vi 1, u_] [(rr b67), (rr b5)]) := fun t k => by
           refine c2418 t ?_
           show S_ p e below T2418 m 239 #[vj j_, .second, vi f_, vi m_, vi n_, vi qa, vi qb, vj op, .second, vr b5, vr b33, vr b67, vi 1, vi 1, vi 1, vi 1, u_] [] t
           refine XS.iload X2418.here hx rfl (hb hby at_239) rfl ?_
           refine XS.ifNo X2418.here hx rfl (hb hby at_241) rfl rfl ?_
           refine XS.aload X2418.here hx rfl (hb hby at_244) rfl rfl ?_
           refine XS.aload X2418.here hx rfl (hb hby at_246) rfl rfl ?_
           exact k
          obtain ⟨_, T2436, L2436, X2436, hQ2436, c2436⟩ := kvirt X2418 hx hZ72 hown72 (w116 hw) (w117 hw) (w119 hw) (w118 hw) (w120 hw) (w4 hw) (rm_rmH1e l Z a0 hw [] b5 b67 b13 b14 T2418.heap n0 o2429 (((f166.keep K2364).keep K2375).keep K2420) (((f189.keep K2364).keep K2375).keep K2420) f2431 f2432 g67 (((f172.keep K2364).keep K2375).keep K2420) g31 p2424 p2425 (((f171.keep K2364).keep K2375).keep K2420) f2433 f2434 p2426 p2427 p2428) rfl (((f166.keep K2364).keep K2375).keep K2420) c2435 hml pd_pLcom_example_lexchange_lexchange_Order_rV [(rr b67)] [] 0 (hb hby at_248) rfl rfl rfl rfl rfl rfl
          obtain ⟨rfl, N2437q, K2438, p2439, p2440, p2441, p2442, p2443⟩ := hQ2436
          have N2437 := Fr.app N2419 N2437q
          have o2444 := o2429.keep K2438 (allS g67 (allS g31 all0))
          have kp2445 := kp2430.trans K2438 (allS (Or.inr z70) (allS (Or.inr z30) all0))
          have c2446 : Kt p e below T2436 st0 (mkF m 278 #[vj j_, .second, vi f_, vi m_, vi n_, vi qa, vi qb, vj op, .second, vr b5, vr b33, vr b67, vi 1, vi 1, vi 1, vi 1, u_] []) := fun t k => by
           refine c2436 t ?_
           show S_ p e below T2436 m 251 #[vj j_, .second, vi f_, vi m_, vi n_, vi qa, vi qb, vj op, .second, vr b5, vr b33, vr b67, vi 1, vi 1, vi 1, vi 1, u_] [] t
           refine yG X2436.here hx rfl 251 278 rfl (hb hby at_251) ?_
           exact k
          have K2449 : Keep T2373.heap T2436.heap [b67, b14, b33] := (((Keep.refl _ _).trans K2420 (allS (Or.inl (List.mem_of_getElem? (i := 2) rfl)) (allS (Or.inl (List.mem_of_getElem? (i := 1) rfl)) (allS (Or.inl (List.mem_of_getElem? (i := 0) rfl)) all0)))).trans K2438 (allS (Or.inl (List.mem_of_getElem? (i := 0) rfl)) (allS (Or.inl (List.mem_of_getElem? (i := 1) rfl)) all0)))
          exact ⟨T2436, _, _, X2436.mono (by decide) (by decide), rfl, o2444, K2449, kp2445, N2437, p2442, c2446⟩
        have f2451 := ((f169.keep K2364 (ninS q168 (ninS q191 nin0))).keep K2375 (ninS q167 (ninS q191 (ninS q168 nin0)))).keep K2447 (ninS q168 (ninS q191 (ninS q167 nin0)))
        have f2452 := ((f170.keep K2364 (ninS q168 (ninS q191 nin0))).keep K2375 (ninS q167 (ninS q191 (ninS q168 nin0)))).keep K2447 (ninS q168 (ninS q191 (ninS q167 nin0)))
        have f2453 := ((f175.keep K2364 (ninS q174 (ninS p25 nin0))).keep K2375 (ninS q173 (ninS p25 (ninS q174 nin0)))).keep K2447 (ninS q174 (ninS p25 (ninS q173 nin0)))
        have c2454 : Kt p e below T2447 st0 (mkF m 315 #[vj j_, .second, vi f_, vi m_, vi n_, vi qa, vi qb, vj op, .second, vr b5, vr b33, vr b67, vi 1, vi 1, vi 1, vi 1, vi 0] [(rr b5)]) := fun t k => by
         refine c2447 t ?_
         show S_ p e below T2447 m 278 #[vj j_, .second, vi f_, vi m_, vi n_, vi qa, vi qb, vj op, .second, vr b5, vr b33, vr b67, vi 1, vi 1, vi 1, vi 1, u_] [] t
         refine XS.iconst X2447.here hx rfl (hb hby at_278) ?_
         refine XS.istore X2447.here hx rfl (hb hby at_279) rfl (l' := #[vj j_, .second, vi f_, vi m_, vi n_, vi qa, vi qb, vj op, .second, vr b5, vr b33, vr b67, vi 1, vi 1, vi 1, vi 1, vi 0]) rfl ?_
         refine XS.iload X2447.here hx rfl (hb hby at_281) rfl ?_
         refine XS.ifNo X2447.here hx rfl (hb hby at_283) rfl rfl ?_
         refine XS.iload X2447.here hx rfl (hb hby at_286) rfl ?_
         refine yI X2447.here hx rfl 288 297 rfl (hb hby at_288) rfl rfl ?_
         refine XS.iload X2447.here hx rfl (hb hby at_297) rfl ?_
         refine XS.ifNo X2447.here hx rfl (hb hby at_299) rfl rfl ?_
         show S_ p e below T2447 m 302 #[vj j_, .second, vi f_, vi m_, vi n_, vi qa, vi qb, vj op, .second, vr b5, vr b33, vr b67, vi 1, vi 1, vi 1, vi 1, vi 0] [] t
         refine XS.iload X2447.here hx rfl (hb hby at_302) rfl ?_
         refine yI X2447.here hx rfl 304 313 rfl (hb hby at_304) rfl rfl ?_
         refine XS.aload X2447.here hx rfl (hb hby at_313) rfl rfl ?_
         exact k
        obtain ⟨_, T2455, L2455, X2455, hQ2455, c2455⟩ := kvirt X2447 hx hZ72 hown72 (w87 hw) (w88 hw) (w90 hw) (w89 hw) (w91 hw) (w4 hw) (rm_emE l Z a0 hw [] b5 b13 b14 h2447 n0 o2447 (((f166.keep K2364).keep K2375).keep K2447) f2451 f2452 f2453 f2448) e2447 (((f166.keep K2364).keep K2375).keep K2447) c2454 hml pd_prZ [] [] 0 (hb hby at_315) rfl rfl rfl rfl rfl rfl
        obtain ⟨rfl, N2456q, K2457⟩ := hQ2455
        have N2456 := Fr.app N2447 N2456q
        obtain ⟨fs, hr, hrun, hended, hRW⟩ := X2455.leaveW hS72 (by first | exact (Nat.le_trans hk72 (Nat.le_trans (Nat.le_trans (Nat.le_trans (Nat.le_trans (Nat.le_trans K91.1 K123.1) K156.1) K2364.1) K2375.1) K2447.1)) | (rw [K2457]; exact (Nat.le_trans hk72 (Nat.le_trans (Nat.le_trans (Nat.le_trans (Nat.le_trans (Nat.le_trans K91.1 K123.1) K156.1) K2364.1) K2375.1) K2447.1)))) (v := some (ii 1)) (fun h => by rw [Bd.returns] at h; cases h)
        refine ⟨_, _, c2455 _ ?_, hrun, hended, _, _, rfl, ?_, hRW.1, hRW.2.1, hRW.2.2.1, hRW.2.2.2.mono (by decide) (by decide)⟩
        ·show S_ p e below T2455 m 318 #[vj j_, .second, vi f_, vi m_, vi n_, vi qa, vi qb, vj op, .second, vr b5, vr b33, vr b67, vi 1, vi 1, vi 1, vi 1, vi 0] [(ii 1)] _
         refine XS.iload X2455.here hx rfl (hb hby at_318) rfl ?_
         refine XS.ifNo X2455.here hx rfl (hb hby at_320) rfl rfl ?_
         refine XS.iconst X2455.here hx rfl (hb hby at_323) ?_
         refine yG X2455.here hx rfl 324 328 rfl (hb hby at_324) ?_
         refine XS.icmpNo X2455.here hx rfl (hb hby at_328) rfl rfl ?_
         refine XS.iconst X2455.here hx rfl (hb hby at_331) ?_
         refine yG X2455.here hx rfl 332 336 rfl (hb hby at_332) ?_
         show S_ p e below T2455 m 336 #[vj j_, .second, vi f_, vi m_, vi n_, vi qa, vi qb, vj op, .second, vr b5, vr b33, vr b67, vi 1, vi 1, vi 1, vi 1, vi 0] [(ii 1)] _
         exact retN X2455 hx (t := .boolean) Bd.returns (by simp) (hb hby at_336) hr
        ·show Q_law Z j_ f_ m_ n_ sa5_ sa9_ sa13_ sa17_ h0 n0 _ T2455.heap _
         rw [K2457]
         exact ⟨rfl, N2456, kp2447⟩
       ·have c2458 : Kt p e below T156 st0 (mkF m 178 #[vj j_, .second, vi f_, vi m_, vi n_, vi qa, vi qb, vj op, .second, vr b5, vr b33, vr b67, vi 1, vi 1, vi 1, vi 1, u_] [(rr b33), (rr b5)]) := fun t k => by
         refine c2359 t ?_
         show S_ p e below T156 m 166 #[vj j_, .second, vi f_, vi m_, vi n_, vi qa, vi qb, vj op, .second, vr b5, vr b33, vr b67, vi 1, vi 1, vi 1, vi 1, u_] [(.int (f_ &&& (128 : Int32)))] t
         refine XS.ifNo X156.here hx rfl (hb hby at_166) rfl ((if0 _ _).trans (feq hc2360).1) ?_
         refine XS.iload X156.here hx rfl (hb hby at_169) rfl ?_
         refine XS.ifNo X156.here hx rfl (hb hby at_171) rfl rfl ?_
         refine XS.aload X156.here hx rfl (hb hby at_174) rfl rfl ?_
         refine XS.aload X156.here hx rfl (hb hby at_176) rfl rfl ?_
         exact k
        obtain ⟨_, T2459, L2459, X2459, hQ2459, c2459⟩ := kvirt X156 hx hZ72 hown72 (w94 hw) (w95 hw) (w97 hw) (w96 hw) (w98 hw) (w4 hw) (rm_addHN l Z a0 hw [] b5 b33 b13 b14 sa17_ mv122 h156 n0 o156 f166 f181 f169 f170 f183 f185 f186 f187 f188 g33 ZE7_ ZF8_ f172 g31 f179 f180 hc1924) e156 f166 c2458 hml pd_pLcom_example_lexchange_lexchange_Order_rV [(rr b33)] [] 0 (hb hby at_178) rfl rfl rfl rfl rfl rfl
        obtain ⟨rfl, N2460q, K2461, p2462, p2463, p2464, p2465, p2466⟩ := hQ2459
        have N2460 := Fr.app N156 N2460q
        have o2467 := o156.keep K2461 (allS g33 (allS g31 all0))
        have kp2468 := kp156.trans K2461 (allS (Or.inr z36) (allS (Or.inr z30) all0))
        have c2469 : Kt p e below T2459 st0 (mkF m 190 #[vj j_, .second, vi f_, vi m_, vi n_, vi qa, vi qb, vj op, .second, vr b5, vr b33, vr b67, vi 1, vi 1, vi 1, vi 1, u_] [(rr b67), (rr b5)]) := fun t k => by
         refine c2459 t ?_
         show S_ p e below T2459 m 181 #[vj j_, .second, vi f_, vi m_, vi n_, vi qa, vi qb, vj op, .second, vr b5, vr b33, vr b67, vi 1, vi 1, vi 1, vi 1, u_] [] t
         refine XS.iload X2459.here hx rfl (hb hby at_181) rfl ?_
         refine XS.ifNo X2459.here hx rfl (hb hby at_183) rfl rfl ?_
         refine XS.aload X2459.here hx rfl (hb hby at_186) rfl rfl ?_
         refine XS.aload X2459.here hx rfl (hb hby at_188) rfl rfl ?_
         exact k
        obtain ⟨_, T2470, L2470, X2470, hQ2470, c2470⟩ := kvirt X2459 hx hZ72 hown72 (w94 hw) (w95 hw) (w97 hw) (w96 hw) (w98 hw) (w4 hw) (rm_addHR l Z a0 hw [] b5 b67 b13 b14 sa17_ mv155 b33 T2459.heap n0 o2467 (f166.keep K2461) (f189.keep K2461) (f169.keep K2461 (ninS q167 (ninS q191 nin0))) (f170.keep K2461 (ninS q167 (ninS q191 nin0))) (f157.keep K2461 (ninS q182.symm (ninS q178.symm nin0))) (f159.keep K2461 (ninS q182.symm (ninS q178.symm nin0))) (f160.keep K2461 (ninS q182.symm (ninS q178.symm nin0))) (f161.keep K2461 (ninS q182.symm (ninS q178.symm nin0))) (f162.keep K2461 (ninS q182.symm (ninS q178.symm nin0))) g67 ZE7_ ZF8_ (f172.keep K2461) g31 p2465 p2466 (f181.keep K2461) g33 q182 p2462 p2463 p2464 hc2236) rfl (f166.keep K2461) c2469 hml pd_pLcom_example_lexchange_lexchange_Order_rV [(rr b67)] [] 0 (hb hby at_190) rfl rfl rfl rfl rfl rfl
        obtain ⟨rfl, N2471q, K2472, p2473, p2474, p2475, p2476, p2477, p2478, p2479, p2480⟩ := hQ2470
        have N2471 := Fr.app N2460 N2471q
        have o2481 := o2467.keep K2472 (allS g67 (allS g31 (allS g33 all0)))
        have kp2482 := kp2468.trans K2472 (allS (Or.inr z70) (allS (Or.inr z30) (allS (Or.inr z36) all0)))
        have c2483 : Kt p e below T2470 st0 (mkF m 224 #[vj j_, .second, vi f_, vi m_, vi n_, vi qa, vi qb, vj op, .second, vr b5, vr b33, vr b67, vi 1, vi 1, vi 1, vi 1, u_] [(.int (f_ &&& (64 : Int32)))]) := fun t k => by
         refine c2470 t ?_
         show S_ p e below T2470 m 193 #[vj j_, .second, vi f_, vi m_, vi n_, vi qa, vi qb, vj op, .second, vr b5, vr b33, vr b67, vi 1, vi 1, vi 1, vi 1, u_] [] t
         refine yG X2470.here hx rfl 193 220 rfl (hb hby at_193) ?_
         refine XS.iloadN X2470.here hx rfl (hb hby at_220) rfl ?_
         refine XS.bipush X2470.here hx rfl (hb hby at_221) ?_
         refine XS.iand X2470.here hx rfl (hb hby at_223) rfl ?_
         exact k
        obtain ⟨T2544, h2544, L2544, X2544, e2544, o2544, K2544, kp2544, N2544, f2545, c2544⟩ : ∃ (T2544 : State) (h2544 : Heap) (L2544 : List Loc), Stand p l e room_1 (s.setVm T72.vm) m #[(.long j_), (.int f_), (.int m_), (.int n_)] below meth c T2544 L2544 9 49 ∧ T2544.heap = h2544 ∧ Old Z n0 h2544 ∧ Keep T2470.heap h2544 [b67, b14, b33] ∧ Keep h0 h2544 [] ∧ Fr n0 L2544 ∧ Fld Z h2544 b14 nm2 "head" nm1 .null ∧ Kt p e below T2544 st0 (mkF m 278 #[vj j_, .second, vi f_, vi m_, vi n_, vi qa, vi qb, vj op, .second, vr b5, vr b33, vr b67, vi 1, vi 1, vi 1, vi 1, u_] []) := by
         by_cases hc2484 : (f_ &&& (64 : Int32)) = (0 : Int32)
         ·have c2485 : Kt p e below T2470 st0 (mkF m 263 #[vj j_, .second, vi f_, vi m_, vi n_, vi qa, vi qb, vj op, .second, vr b5, vr b33, vr b67, vi 1, vi 1, vi 1, vi 1, u_] [(rr b67), (rr b5)]) := fun t k => by
           refine c2483 t ?_
           show S_ p e below T2470 m 224 #[vj j_, .second, vi f_, vi m_, vi n_, vi qa, vi qb, vj op, .second, vr b5, vr b33, vr b67, vi 1, vi 1, vi 1, vi 1, u_] [(.int (f_ &&& (64 : Int32)))] t
           refine yI X2470.here hx rfl 224 254 rfl (hb hby at_224) rfl ((if0 _ _).trans (teq hc2484).1) ?_
           refine XS.iload X2470.here hx rfl (hb hby at_254) rfl ?_
           refine XS.ifNo X2470.here hx rfl (hb hby at_256) rfl rfl ?_
           refine XS.aload X2470.here hx rfl (hb hby at_259) rfl rfl ?_
           refine XS.aload X2470.here hx rfl (hb hby at_261) rfl rfl ?_
           exact k
          obtain ⟨_, T2486, L2486, X2486, hQ2486, c2486⟩ := kvirt X2470 hx hZ72 hown72 (w116 hw) (w117 hw) (w119 hw) (w118 hw) (w120 hw) (w4 hw) (rm_rmHL l Z a0 hw [] b5 b67 b13 b14 b33 T2470.heap n0 o2481 ((f166.keep K2461).keep K2472) ((f189.keep K2461).keep K2472) ((f169.keep K2461 (ninS q167 (ninS q191 nin0))).keep K2472 (ninS q168 (ninS q191 (ninS q167 nin0)))) ((f170.keep K2461 (ninS q167 (ninS q191 nin0))).keep K2472 (ninS q168 (ninS q191 (ninS q167 nin0)))) g67 ((f172.keep K2461).keep K2472) g31 ((f171.keep K2461).keep K2472) ((f175.keep K2461 (ninS q173 (ninS p25 nin0))).keep K2472 (ninS q174 (ninS p25 (ninS q173 nin0)))) ((f176.keep K2461 (ninS q173 (ninS p25 nin0))).keep K2472 (ninS q174 (ninS p25 (ninS q173 nin0)))) p2476 p2477 ((f181.keep K2461).keep K2472) g33 q182.symm p2473 p2474 p2475 p2478 p2479 p2480) rfl ((f166.keep K2461).keep K2472) c2485 hml pd_pLcom_example_lexchange_lexchange_Order_rV [(rr b67)] [] 0 (hb hby at_263) rfl rfl rfl rfl rfl rfl
          obtain ⟨rfl, N2487q, K2488, p2489, p2490, p2491, p2492, p2493, p2494, p2495, p2496⟩ := hQ2486
          have N2487 := Fr.app N2471 N2487q
          have o2497 := o2481.keep K2488 (allS g67 (allS g31 (allS g33 all0)))
          have kp2498 := kp2482.trans K2488 (allS (Or.inr z70) (allS (Or.inr z30) (allS (Or.inr z36) all0)))
          have f2499 := ((f169.keep K2461 (ninS q167 (ninS q191 nin0))).keep K2472 (ninS q168 (ninS q191 (ninS q167 nin0)))).keep K2488 (ninS q168 (ninS q191 (ninS q167 nin0)))
          have f2500 := ((f170.keep K2461 (ninS q167 (ninS q191 nin0))).keep K2472 (ninS q168 (ninS q191 (ninS q167 nin0)))).keep K2488 (ninS q168 (ninS q191 (ninS q167 nin0)))
          have f2501 := ((f175.keep K2461 (ninS q173 (ninS p25 nin0))).keep K2472 (ninS q174 (ninS p25 (ninS q173 nin0)))).keep K2488 (ninS q174 (ninS p25 (ninS q173 nin0)))
          have f2502 := ((f176.keep K2461 (ninS q173 (ninS p25 nin0))).keep K2472 (ninS q174 (ninS p25 (ninS q173 nin0)))).keep K2488 (ninS q174 (ninS p25 (ninS q173 nin0)))
          have c2503 : Kt p e below T2486 st0 (mkF m 275 #[vj j_, .second, vi f_, vi m_, vi n_, vi qa, vi qb, vj op, .second, vr b5, vr b33, vr b67, vi 1, vi 1, vi 1, vi 1, u_] [(rr b33), (rr b5)]) := fun t k => by
           refine c2486 t ?_
           show S_ p e below T2486 m 266 #[vj j_, .second, vi f_, vi m_, vi n_, vi qa, vi qb, vj op, .second, vr b5, vr b33, vr b67, vi 1, vi 1, vi 1, vi 1, u_] [] t
           refine XS.iload X2486.here hx rfl (hb hby at_266) rfl ?_
           refine XS.ifNo X2486.here hx rfl (hb hby at_268) rfl rfl ?_
           refine XS.aload X2486.here hx rfl (hb hby at_271) rfl rfl ?_
           refine XS.aload X2486.here hx rfl (hb hby at_273) rfl rfl ?_
           exact k
          obtain ⟨_, T2504, L2504, X2504, hQ2504, c2504⟩ := kvirt X2486 hx hZ72 hown72 (w116 hw) (w117 hw) (w119 hw) (w118 hw) (w120 hw) (w4 hw) (rm_rmH1e l Z a0 hw [] b5 b33 b13 b14 T2486.heap n0 o2497 (((f166.keep K2461).keep K2472).keep K2488) (((f181.keep K2461).keep K2472).keep K2488) f2499 f2500 g33 (((f172.keep K2461).keep K2472).keep K2488) g31 p2492 p2493 (((f171.keep K2461).keep K2472).keep K2488) f2501 f2502 p2494 p2495 p2496) rfl (((f166.keep K2461).keep K2472).keep K2488) c2503 hml pd_pLcom_example_lexchange_lexchange_Order_rV [(rr b33)] [] 0 (hb hby at_275) rfl rfl rfl rfl rfl rfl
          obtain ⟨rfl, N2505q, K2506, p2507, p2508, p2509, p2510, p2511⟩ := hQ2504
          have N2505 := Fr.app N2487 N2505q
          have o2512 := o2497.keep K2506 (allS g33 (allS g31 all0))
          have kp2513 := kp2498.trans K2506 (allS (Or.inr z36) (allS (Or.inr z30) all0))
          have K2547 : Keep T2470.heap T2504.heap [b67, b14, b33] := (((Keep.refl _ _).trans K2488 (allS (Or.inl (List.mem_of_getElem? (i := 0) rfl)) (allS (Or.inl (List.mem_of_getElem? (i := 1) rfl)) (allS (Or.inl (List.mem_of_getElem? (i := 2) rfl)) all0)))).trans K2506 (allS (Or.inl (List.mem_of_getElem? (i := 2) rfl)) (allS (Or.inl (List.mem_of_getElem? (i := 1) rfl)) all0)))
          exact ⟨T2504, _, _, X2504.mono (by decide) (by decide), rfl, o2512, K2547, kp2513, N2505, p2510, c2504⟩
         ·have c2514 : Kt p e below T2470 st0 (mkF m 236 #[vj j_, .second, vi f_, vi m_, vi n_, vi qa, vi qb, vj op, .second, vr b5, vr b33, vr b67, vi 1, vi 1, vi 1, vi 1, u_] [(rr b33), (rr b5)]) := fun t k => by
           refine c2483 t ?_
           show S_ p e below T2470 m 224 #[vj j_, .second, vi f_, vi m_, vi n_, vi qa, vi qb, vj op, .second, vr b5, vr b33, vr b67, vi 1, vi 1, vi 1, vi 1, u_] [(.int (f_ &&& (64 : Int32)))] t
           refine XS.ifNo X2470.here hx rfl (hb hby at_224) rfl ((if0 _ _).trans (feq hc2484).1) ?_
           refine XS.iload X2470.here hx rfl (hb hby at_227) rfl ?_
           refine XS.ifNo X2470.here hx rfl (hb hby at_229) rfl rfl ?_
           refine XS.aload X2470.here hx rfl (hb hby at_232) rfl rfl ?_
           refine XS.aload X2470.here hx rfl (hb hby at_234) rfl rfl ?_
           exact k
          obtain ⟨_, T2515, L2515, X2515, hQ2515, c2515⟩ := kvirt X2470 hx hZ72 hown72 (w116 hw) (w117 hw) (w119 hw) (w118 hw) (w120 hw) (w4 hw) (rm_rmHF l Z a0 hw [] b5 b33 b13 b14 b67 T2470.heap n0 o2481 ((f166.keep K2461).keep K2472) ((f181.keep K2461).keep K2472) ((f169.keep K2461 (ninS q167 (ninS q191 nin0))).keep K2472 (ninS q168 (ninS q191 (ninS q167 nin0)))) ((f170.keep K2461 (ninS q167 (ninS q191 nin0))).keep K2472 (ninS q168 (ninS q191 (ninS q167 nin0)))) g33 ((f172.keep K2461).keep K2472) g31 ((f171.keep K2461).keep K2472) ((f175.keep K2461 (ninS q173 (ninS p25 nin0))).keep K2472 (ninS q174 (ninS p25 (ninS q173 nin0)))) ((f176.keep K2461 (ninS q173 (ninS p25 nin0))).keep K2472 (ninS q174 (ninS p25 (ninS q173 nin0)))) p2476 p2477 ((f189.keep K2461).keep K2472) g67 q182 p2478 p2479 p2480 p2473 p2474 p2475) rfl ((f166.keep K2461).keep K2472) c2514 hml pd_pLcom_example_lexchange_lexchange_Order_rV [(rr b33)] [] 0 (hb hby at_236) rfl rfl rfl rfl rfl rfl
          obtain ⟨rfl, N2516q, K2517, p2518, p2519, p2520, p2521, p2522, p2523, p2524, p2525⟩ := hQ2515
          have N2516 := Fr.app N2471 N2516q
          have o2526 := o2481.keep K2517 (allS g33 (allS g31 (allS g67 all0)))
          have kp2527 := kp2482.trans K2517 (allS (Or.inr z36) (allS (Or.inr z30) (allS (Or.inr z70) all0)))
          have f2528 := ((f169.keep K2461 (ninS q167 (ninS q191 nin0))).keep K2472 (ninS q168 (ninS q191 (ninS q167 nin0)))).keep K2517 (ninS q167 (ninS q191 (ninS q168 nin0)))
          have f2529 := ((f170.keep K2461 (ninS q167 (ninS q191 nin0))).keep K2472 (ninS q168 (ninS q191 (ninS q167 nin0)))).keep K2517 (ninS q167 (ninS q191 (ninS q168 nin0)))
          have f2530 := ((f175.keep K2461 (ninS q173 (ninS p25 nin0))).keep K2472 (ninS q174 (ninS p25 (ninS q173 nin0)))).keep K2517 (ninS q173 (ninS p25 (ninS q174 nin0)))
          have f2531 := ((f176.keep K2461 (ninS q173 (ninS p25 nin0))).keep K2472 (ninS q174 (ninS p25 (ninS q173 nin0)))).keep K2517 (ninS q173 (ninS p25 (ninS q174 nin0)))
          have c2532 : Kt p e below T2515 st0 (mkF m 248 #[vj j_, .second, vi f_, vi m_, vi n_, vi qa, vi qb, vj op, .second, vr b5, vr b33, vr b67, vi 1, vi 1, vi 1, vi 1, u_] [(rr b67), (rr b5)]) := fun t k => by
           refine c2515 t ?_
           show S_ p e below T2515 m 239 #[vj j_, .second, vi f_, vi m_, vi n_, vi qa, vi qb, vj op, .second, vr b5, vr b33, vr b67, vi 1, vi 1, vi 1, vi 1, u_] [] t
           refine XS.iload X2515.here hx rfl (hb hby at_239) rfl ?_
           refine XS.ifNo X2515.here hx rfl (hb hby at_241) rfl rfl ?_
           refine XS.aload X2515.here hx rfl (hb hby at_244) rfl rfl ?_
           refine XS.aload X2515.here hx rfl (hb hby at_246) rfl rfl ?_
           exact k
          obtain ⟨_, T2533, L2533, X2533, hQ2533, c2533⟩ := kvirt X2515 hx hZ72 hown72 (w116 hw) (w117 hw) (w119 hw) (w118 hw) (w120 hw) (w4 hw) (rm_rmH1e l Z a0 hw [] b5 b67 b13 b14 T2515.heap n0 o2526 (((f166.keep K2461).keep K2472).keep K2517) (((f189.keep K2461).keep K2472).keep K2517) f2528 f2529 g67 (((f172.keep K2461).keep K2472).keep K2517) g31 p2521 p2522 (((f171.keep K2461).keep K2472).keep K2517) f2530 f2531 p2523 p2524 p2525) rfl (((f166.keep K2461).keep K2472).keep K2517) c2532 hml pd_pLcom_example_lexchange_lexchange_Order_rV [(rr b67)] [] 0 (hb hby at_248) rfl rfl rfl rfl rfl rfl
          obtain ⟨rfl, N2534q, K2535, p2536, p2537, p2538, p2539, p2540⟩ := hQ2533
          have N2534 := Fr.app N2516 N2534q
          have o2541 := o2526.keep K2535 (allS g67 (allS g31 all0))
          have kp2542 := kp2527.trans K2535 (allS (Or.inr z70) (allS (Or.inr z30) all0))
          have c2543 : Kt p e below T2533 st0 (mkF m 278 #[vj j_, .second, vi f_, vi m_, vi n_, vi qa, vi qb, vj op, .second, vr b5, vr b33, vr b67, vi 1, vi 1, vi 1, vi 1, u_] []) := fun t k => by
           refine c2533 t ?_
           show S_ p e below T2533 m 251 #[vj j_, .second, vi f_, vi m_, vi n_, vi qa, vi qb, vj op, .second, vr b5, vr b33, vr b67, vi 1, vi 1, vi 1, vi 1, u_] [] t
           refine yG X2533.here hx rfl 251 278 rfl (hb hby at_251) ?_
           exact k
          have K2546 : Keep T2470.heap T2533.heap [b67, b14, b33] := (((Keep.refl _ _).trans K2517 (allS (Or.inl (List.mem_of_getElem? (i := 2) rfl)) (allS (Or.inl (List.mem_of_getElem? (i := 1) rfl)) (allS (Or.inl (List.mem_of_getElem? (i := 0) rfl)) all0)))).trans K2535 (allS (Or.inl (List.mem_of_getElem? (i := 0) rfl)) (allS (Or.inl (List.mem_of_getElem? (i := 1) rfl)) all0)))
          exact ⟨T2533, _, _, X2533.mono (by decide) (by decide), rfl, o2541, K2546, kp2542, N2534, p2539, c2543⟩
        have f2548 := ((f169.keep K2461 (ninS q167 (ninS q191 nin0))).keep K2472 (ninS q168 (ninS q191 (ninS q167 nin0)))).keep K2544 (ninS q168 (ninS q191 (ninS q167 nin0)))
        have f2549 := ((f170.keep K2461 (ninS q167 (ninS q191 nin0))).keep K2472 (ninS q168 (ninS q191 (ninS q167 nin0)))).keep K2544 (ninS q168 (ninS q191 (ninS q167 nin0)))
        have f2550 := ((f175.keep K2461 (ninS q173 (ninS p25 nin0))).keep K2472 (ninS q174 (ninS p25 (ninS q173 nin0)))).keep K2544 (ninS q174 (ninS p25 (ninS q173 nin0)))
        have c2551 : Kt p e below T2544 st0 (mkF m 315 #[vj j_, .second, vi f_, vi m_, vi n_, vi qa, vi qb, vj op, .second, vr b5, vr b33, vr b67, vi 1, vi 1, vi 1, vi 1, vi 0] [(rr b5)]) := fun t k => by
         refine c2544 t ?_
         show S_ p e below T2544 m 278 #[vj j_, .second, vi f_, vi m_, vi n_, vi qa, vi qb, vj op, .second, vr b5, vr b33, vr b67, vi 1, vi 1, vi 1, vi 1, u_] [] t
         refine XS.iconst X2544.here hx rfl (hb hby at_278) ?_
         refine XS.istore X2544.here hx rfl (hb hby at_279) rfl (l' := #[vj j_, .second, vi f_, vi m_, vi n_, vi qa, vi qb, vj op, .second, vr b5, vr b33, vr b67, vi 1, vi 1, vi 1, vi 1, vi 0]) rfl ?_
         refine XS.iload X2544.here hx rfl (hb hby at_281) rfl ?_
         refine XS.ifNo X2544.here hx rfl (hb hby at_283) rfl rfl ?_
         refine XS.iload X2544.here hx rfl (hb hby at_286) rfl ?_
         refine yI X2544.here hx rfl 288 297 rfl (hb hby at_288) rfl rfl ?_
         refine XS.iload X2544.here hx rfl (hb hby at_297) rfl ?_
         refine XS.ifNo X2544.here hx rfl (hb hby at_299) rfl rfl ?_
         show S_ p e below T2544 m 302 #[vj j_, .second, vi f_, vi m_, vi n_, vi qa, vi qb, vj op, .second, vr b5, vr b33, vr b67, vi 1, vi 1, vi 1, vi 1, vi 0] [] t
         refine XS.iload X2544.here hx rfl (hb hby at_302) rfl ?_
         refine yI X2544.here hx rfl 304 313 rfl (hb hby at_304) rfl rfl ?_
         refine XS.aload X2544.here hx rfl (hb hby at_313) rfl rfl ?_
         exact k
        obtain ⟨_, T2552, L2552, X2552, hQ2552, c2552⟩ := kvirt X2544 hx hZ72 hown72 (w87 hw) (w88 hw) (w90 hw) (w89 hw) (w91 hw) (w4 hw) (rm_emE l Z a0 hw [] b5 b13 b14 h2544 n0 o2544 (((f166.keep K2461).keep K2472).keep K2544) f2548 f2549 f2550 f2545) e2544 (((f166.keep K2461).keep K2472).keep K2544) c2551 hml pd_prZ [] [] 0 (hb hby at_315) rfl rfl rfl rfl rfl rfl
        obtain ⟨rfl, N2553q, K2554⟩ := hQ2552
        have N2553 := Fr.app N2544 N2553q
        obtain ⟨fs, hr, hrun, hended, hRW⟩ := X2552.leaveW hS72 (by first | exact (Nat.le_trans hk72 (Nat.le_trans (Nat.le_trans (Nat.le_trans (Nat.le_trans (Nat.le_trans K91.1 K123.1) K156.1) K2461.1) K2472.1) K2544.1)) | (rw [K2554]; exact (Nat.le_trans hk72 (Nat.le_trans (Nat.le_trans (Nat.le_trans (Nat.le_trans (Nat.le_trans K91.1 K123.1) K156.1) K2461.1) K2472.1) K2544.1)))) (v := some (ii 1)) (fun h => by rw [Bd.returns] at h; cases h)
        refine ⟨_, _, c2552 _ ?_, hrun, hended, _, _, rfl, ?_, hRW.1, hRW.2.1, hRW.2.2.1, hRW.2.2.2.mono (by decide) (by decide)⟩
        ·show S_ p e below T2552 m 318 #[vj j_, .second, vi f_, vi m_, vi n_, vi qa, vi qb, vj op, .second, vr b5, vr b33, vr b67, vi 1, vi 1, vi 1, vi 1, vi 0] [(ii 1)] _
         refine XS.iload X2552.here hx rfl (hb hby at_318) rfl ?_
         refine XS.ifNo X2552.here hx rfl (hb hby at_320) rfl rfl ?_
         refine XS.iconst X2552.here hx rfl (hb hby at_323) ?_
         refine yG X2552.here hx rfl 324 328 rfl (hb hby at_324) ?_
         refine XS.icmpNo X2552.here hx rfl (hb hby at_328) rfl rfl ?_
         refine XS.iconst X2552.here hx rfl (hb hby at_331) ?_
         refine yG X2552.here hx rfl 332 336 rfl (hb hby at_332) ?_
         show S_ p e below T2552 m 336 #[vj j_, .second, vi f_, vi m_, vi n_, vi qa, vi qb, vj op, .second, vr b5, vr b33, vr b67, vi 1, vi 1, vi 1, vi 1, vi 0] [(ii 1)] _
         exact retN X2552 hx (t := .boolean) Bd.returns (by simp) (hb hby at_336) hr
        ·show Q_law Z j_ f_ m_ n_ sa5_ sa9_ sa13_ sa17_ h0 n0 _ T2552.heap _
         rw [K2554]
         exact ⟨rfl, N2553, kp2544⟩
set_option maxRecDepth 65536 in
set_option maxHeartbeats 40000000 in
theorem comes_1 {Post : Tables → Env → Array Value → State → Outcome → State → Prop} (hpost : ∀ tb e args s v u, (limb_1_1.after args s (.returned v) u = true ∧ limb_1_2.after args s (.returned v) u = true ∧ True) → ReturnedEndW s (.returned v) u (Jvm.fieldLocs frame_1_writes args s ++ Jvm.arrayLocs frame_1_arrays args s ++ Jvm.staticLocs frame_1_statics s) 24 2240 → Post tb e args s (.returned v) u) :
  ArmFor flags0 classFile x code maxLocals ret World_1 tables_1 room_1 Calls_1 rest_1 Pre_1 Post := by
 intro l hfl _ _ p e ha hc hk s m args below hf hA hF happ hP
 obtain ⟨hcalls, hrest, hpre⟩ := hP
 obtain ⟨-, -, -, hnamed, -, -, -, hat⟩ := (Spec.applies_iff hf).mp happ
 obtain ⟨hg, hn⟩ := and_e (Jvm.Cond.before_iff.mp (show (Jvm.Cond.and given_1 narrow_1).before args s = true from hpre))
 obtain ⟨ga0, gb0⟩ := and_e hg
 obtain ⟨ga1, gb1⟩ := and_e gb0
 obtain ⟨ga2, gb2⟩ := and_e gb1
 obtain ⟨ga3, gb3⟩ := and_e gb2
 obtain ⟨wv0, wv1, wv2, wv3, rfl⟩ : ∃ wv0 wv1 wv2 wv3 : Value, args = #[wv0, wv1, wv2, wv3] := by
  have hs : args.size = 4 := by simpa [Jvm.Cond.value, given_1] using ga0
  obtain ⟨L⟩ := args
  match L, hs with
  | [wv0, wv1, wv2, wv3], _ => exact ⟨wv0, wv1, wv2, wv3, rfl⟩
 have hw := fun d (hd : d ∈ tables_1) => atoms_spec (ws := Jvm.Cond.code x code maxLocals ret :: tables_1) hat d (List.mem_cons_of_mem _ hd)
 have hfit : Fit s := fun {y c} hc i hi => by
  obtain ⟨ha, rfl⟩ := Array.getElem?_eq_some_iff.mp hc
  have q := List.all_eq_true.mp ((Array.all_eq_true_iff_forall_mem.mp hF) _ (Array.getElem_mem ha)) i (List.mem_range.mpr hi)
  simpa [Array.getElem?_eq_getElem hi] using q
 obtain ⟨hsets, hown0⟩ := atoms_of _ (rest_1_c_eq ▸ (show rest_1_c.before _ s = true from hrest))
 obtain ⟨i0, ei0⟩ := isL_v ga1
 obtain rfl : wv0 = (.long i0) := Option.some.inj ei0
 obtain ⟨i1, ei1⟩ := is_v ga2
 obtain rfl : wv1 = (.int i1) := Option.some.inj ei1
 obtain ⟨i2, ei2⟩ := is_v ga3
 obtain rfl : wv2 = (.int i2) := Option.some.inj ei2
 obtain ⟨i3, ei3⟩ := is_v gb3
 obtain rfl : wv3 = (.int i3) := Option.some.inj ei3
 obtain ⟨nw1_, nw2_⟩ := and_e hn
 obtain ⟨nw3_, nw4_⟩ := and_e nw2_
 obtain ⟨sa5_, se6_⟩ := exa_v nw1_
 have sf7_ : Sta s s.heap nm7 "BUY" nm14 (rr sa5_) := Sta.start se6_ (Or.inr ⟨(w36 hw), (w37 hw)⟩)
 have sf8_ : Exa s s.heap sa5_ nm7 := Exa.start se6_ nw1_
 obtain ⟨sa9_, se10_⟩ := exa_v nw3_
 have sf11_ : Sta s s.heap nm9 "DAY" nm15 (rr sa9_) := Sta.start se10_ (Or.inr ⟨(w42 hw), (w43 hw)⟩)
 have sf12_ : Exa s s.heap sa9_ nm9 := Exa.start se10_ nw3_
 obtain ⟨sa13_, se14_⟩ := exa_v nw4_
 have sf15_ : Sta s s.heap nm7 "SELL" nm14 (rr sa13_) := Sta.start se14_ (Or.inr ⟨(w36 hw), (w79 hw)⟩)
 have sf16_ : Exa s s.heap sa13_ nm7 := Exa.start se14_ nw4_
 obtain ⟨sa17_, se18_⟩ := exa_v (Jvm.Cond.before_iff.mp (hsets _ (List.mem_of_getElem? (i := 2) rfl)))
 have sf19_ : Sta s s.heap nm6 "EMPTY" nm12 (rr sa17_) := Sta.start se18_ (Or.inl (hsets _ (List.mem_of_getElem? (i := 1) rfl)))
 have sf20_ : Exa s s.heap sa17_ nm6 := Exa.start se18_ (Jvm.Cond.before_iff.mp (hsets _ (List.mem_of_getElem? (i := 2) rfl)))
 have se21_ : (Jvm.Term.field (Jvm.Term.static nm6 "EMPTY" nm12) nm6 "isPresent" "Z").eval _ s none [] s = some (ii 0) := (Jvm.Cond.eq_int (beq_iff_eq.mpr (Jvm.Cond.before_iff.mp (hsets _ (List.mem_of_getElem? (i := 3) rfl)))) (Term.int_eval _))
 have sf22_ : Fld s s.heap sa17_ nm6 "isPresent" "Z" (ii 0) := Fld.start ((fld_at se18_).symm.trans se21_)
 have se23_ : (Jvm.Term.field (Jvm.Term.static nm6 "EMPTY" nm12) nm6 "value" "I").eval _ s none [] s = some (ii 0) := (Jvm.Cond.eq_int (beq_iff_eq.mpr (Jvm.Cond.before_iff.mp (hsets _ (List.mem_of_getElem? (i := 4) rfl)))) (Term.int_eval _))
 have sf24_ : Fld s s.heap sa17_ nm6 "value" "I" (ii 0) := Fld.start ((fld_at se18_).symm.trans se23_)
 obtain ⟨n, o, h1, h2, h3, _, L, rfl, ⟨rfl, N, -⟩, hq⟩ := rm_law l s _ hw tables_1 i0 i1 i2 i3 sa5_ sa9_ sa13_ sa17_ s.heap s.heap.size (Old.start s) sf7_ sf8_ sf11_ sf12_ sf15_ sf16_ sf19_ sf20_ sf22_ sf24_ p e ha hc hk s m _ below hf ((Spec.applies_iff_loose hf).mp happ).1 ⟨rfl, State.Warmed39.refl s, rfl⟩ trivial
 refine ⟨n, _, h1, h2, h3, hpost _ _ _ _ _ _ ⟨Jvm.Cond.after_iff.mpr rfl, Jvm.Cond.after_iff.mpr (eq_i res_at (Term.int_eval (1)) rfl), trivial⟩ ⟨hq.1, hq.2.1, hq.2.2.1, (hq.2.2.2.sift fun y hy => Or.inr (N y hy)).mono (by decide) (by decide)⟩⟩
theorem main_1_1 : Claimed_1_1 := comes_1 fun _ _ _ _ _ _ h hF => ⟨h.1, hF⟩
theorem main_1_2 : Claimed_1_2 := comes_1 fun _ _ _ _ _ _ h hF => ⟨h.2.1, hF⟩
end Jvm.Pilot.@@N@@
namespace Jvm.Pilot.@@N@@
open Jvm Jvm.ClassFile Sem Op Lib Jvm.Free Jvm.Stand Jvm.Pilot.@@N@@.Jvm.D
/-! MADE BY PROGRAM (witnessworld.py) out of the Statement's table words and the real class files: 21 classes; the members and pool entries that the words name. The judged class is class 1, her method 1. -/
namespace start1
open Jvm.ClassFile
def u (s : String) : CpInfo := .utf8 (stringToUtf16 s)
/-- a pool by its gaps: so many unusable entries, then the entry; so many at the end -/
def gap : Nat → List CpInfo → List CpInfo
  | 0, r => r
  | n + 1, r => .unusable :: gap n r
def poolList (es : List (Nat × CpInfo)) (last : Nat) : List CpInfo := es.foldr (fun e r => gap e.1 (e.2 :: r)) (gap last [])
def pool (es : List (Nat × CpInfo)) (last : Nat) : Array CpInfo := ⟨poolList es last⟩
def fileOf (pool : Array CpInfo) (this : Nat) (attrs : Array Attribute := #[]) (ms : Array MethodInfo := #[]) (fl : Nat := 33) (sup : Nat := 0) (ifs : Array Nat := #[]) (fds : Array FieldInfo := #[]) : ClassFile where
  minorVersion := 0
  majorVersion := 65
  constantPool := pool
  accessFlags := fl
  thisClass := this
  superClass := sup
  interfaces := ifs
  fields := fds
  methods := ms
  attributes := attrs
def plain (name : String) (sup : Option ClassId) : Class where
  name := name
  kind := .ordinary
  loader := none
  accessFlags := 33
  super := sup
  interfaces := #[]
  cf := none
  fields := #[]
  methods := #[]
  instanceTypes := #[]
  staticTypes := #[]
  resolved := #[]
  callSites := []
  init := .initialized
  statics := none
  mirror := none

def pool0 : Array CpInfo := pool [(5, u "<init>"), (0, u "()V"), (1, .class_ 10), (1, u "java/lang/Object")] 113

def k0c0 : Code := { maxStack := 0, maxLocals := 1, code := object_method_1_code, exceptionTable := #[], attributes := #[] }
def k0m0 : Method := { name := "<init>", desc := "()V", sig := { parameters := [], returnType := none }, accessFlags := 1, code := some k0c0 }
/-- java/lang/Object -/
def k0 : Class := { plain "java/lang/Object" none with
  accessFlags := 33
  interfaces := #[]
  cf := some (fileOf pool0 8 #[] #[{ accessFlags := 1, nameIndex := 5, descriptorIndex := 6, attributes := #[] }] 33 0 #[] #[])
  fields := #[]
  methods := #[k0m0]
  instanceTypes := #[]
  staticTypes := #[]
  resolved := Array.replicate 124 none
  statics := none }

def pool1 : Array CpInfo := pool [(2, .class_ 4), (1, u "java/lang/Object"), (0, u "<init>"), (0, u "()V"), (0, .integer 1073741823), (2, .long 9223372036854775807), (1, .class_ 13), (0, u "com/example/lexchange/lexchange/PriceQueue"), (0, .methodref 12 15), (0, .nameAndType 5 16), (0, u "(J)V"), (0, .class_ 18), (0, u "com/example/lexchange/lexchange/Order"), (0, .string 20), (0, u "a"), (0, .fieldref 22 23), (0, .class_ 24), (0, .nameAndType 25 26), (0, u "com/example/lexchange/lexchange/Side"), (0, u "BUY"), (0, u "Lcom/example/lexchange/lexchange/Side;"), (0, .methodref 17 28), (0, .nameAndType 5 29), (0, u "(JLjava/lang/String;Lcom/example/lexchange/lexchange/Side;IJ)V"), (0, .long 2), (1, .string 33), (0, u "b"), (0, .fieldref 22 35), (0, .nameAndType 36 26), (0, u "SELL"), (0, .methodref 17 38), (0, .nameAndType 39 6), (0, u "showSlice"), (0, .methodref 12 41), (0, .nameAndType 42 43), (0, u "add"), (0, u "(Lcom/example/lexchange/lexchange/Order;)V"), (0, .methodref 12 45), (0, .nameAndType 46 43), (0, u "remove"), (0, .methodref 12 48), (0, .nameAndType 49 50), (0, u "isEmpty"), (0, u "()Z"), (0, .class_ 52), (0, u "com/example/lexchange/lexchange/PriceQueueIsEmptyPinLaw"), (2, u "law"), (0, u "(JIII)Z")] 3

def k1m0 : Method := { name := "<init>", desc := "()V", sig := { parameters := [], returnType := none }, accessFlags := 1, code := none }
def k1c1 : Code := { maxStack := 9, maxLocals := 17, code := code, exceptionTable := #[], attributes := #[] }
def k1m1 : Method := { name := "law", desc := "(JIII)Z", sig := { parameters := [.long, .int, .int, .int], returnType := some .boolean }, accessFlags := 9, code := some k1c1 }
/-- com/example/lexchange/lexchange/PriceQueueIsEmptyPinLaw -/
def k1 : Class := { plain "com/example/lexchange/lexchange/PriceQueueIsEmptyPinLaw" (some 0) with
  accessFlags := 49
  interfaces := #[]
  cf := some (fileOf pool1 51 #[] #[{ accessFlags := 1, nameIndex := 5, descriptorIndex := 6, attributes := #[] }, { accessFlags := 9, nameIndex := 55, descriptorIndex := 56, attributes := #[] }] 49 2 #[] #[])
  fields := #[]
  methods := #[k1m0, k1m1]
  instanceTypes := #[]
  staticTypes := #[]
  resolved := Array.replicate 60 none
  statics := none }

def pool2 : Array CpInfo := pool [(8, .class_ 10), (1, u "java/lang/Iterable"), (24, .class_ 36), (0, u "java/lang/Object")] 25

/-- java/lang/Iterable -/
def k2 : Class := { plain "java/lang/Iterable" (some 0) with
  accessFlags := 1537
  interfaces := #[]
  cf := some (fileOf pool2 8 #[] #[] 1537 35 #[] #[])
  fields := #[]
  methods := #[]
  instanceTypes := #[]
  staticTypes := #[]
  resolved := Array.replicate 62 none
  statics := none }

def pool3 : Array CpInfo := pool [(1, .methodref 2 3), (0, .class_ 4), (0, .nameAndType 5 6), (0, u "java/lang/Object"), (0, u "<init>"), (0, u "()V"), (0, .class_ 8), (0, u "com/example/lexchange/lexchange/PriceQueue$Part"), (0, .methodref 7 3), (0, .fieldref 11 12), (0, .class_ 13), (0, .nameAndType 14 15), (0, u "com/example/lexchange/lexchange/PriceQueue"), (0, u "shown"), (0, u "Lcom/example/lexchange/lexchange/PriceQueue$Part;"), (0, .fieldref 11 17), (0, .nameAndType 18 15), (0, u "hidden"), (0, .fieldref 11 20), (0, .nameAndType 21 22), (0, u "price"), (0, u "J"), (0, .methodref 24 25), (0, .class_ 26), (0, .nameAndType 14 27), (0, u "com/example/lexchange/lexchange/Order"), (0, u "()I"), (0, .fieldref 24 29), (0, .nameAndType 30 31), (0, u "queue"), (0, u "Lcom/example/lexchange/lexchange/PriceQueue;"), (0, .fieldref 7 33), (0, .nameAndType 34 35), (0, u "tail"), (0, u "Lcom/example/lexchange/lexchange/Order;"), (0, .fieldref 24 37), (0, .nameAndType 38 35), (0, u "previous"), (0, .fieldref 24 40), (0, .nameAndType 41 35), (0, u "next"), (0, .fieldref 7 43), (0, .nameAndType 44 35), (0, u "head"), (9, u "()Z"), (6, .class_ 62), (0, u "com/example/lexchange/lexchange/PriceQueue$1"), (3, .class_ 67), (0, u "java/lang/Iterable"), (0, u "(J)V"), (3, u "add"), (0, u "(Lcom/example/lexchange/lexchange/Order;)V"), (3, u "remove"), (0, u "isEmpty")] 9

def k3c0 : Code := { maxStack := 3, maxLocals := 3, code := prog_34_method_1_code, exceptionTable := #[], attributes := #[] }
def k3m0 : Method := { name := "<init>", desc := "(J)V", sig := { parameters := [.long], returnType := none }, accessFlags := 0, code := some k3c0 }
def k3c1 : Code := { maxStack := 2, maxLocals := 3, code := prog_34_method_3_code, exceptionTable := #[], attributes := #[] }
def k3m1 : Method := { name := "add", desc := "(Lcom/example/lexchange/lexchange/Order;)V", sig := { parameters := [(.object "com/example/lexchange/lexchange/Order")], returnType := none }, accessFlags := 0, code := some k3c1 }
def k3c2 : Code := { maxStack := 2, maxLocals := 5, code := prog_34_method_5_code, exceptionTable := #[], attributes := #[] }
def k3m2 : Method := { name := "remove", desc := "(Lcom/example/lexchange/lexchange/Order;)V", sig := { parameters := [(.object "com/example/lexchange/lexchange/Order")], returnType := none }, accessFlags := 0, code := some k3c2 }
def k3c3 : Code := { maxStack := 1, maxLocals := 1, code := prog_34_method_6_code, exceptionTable := #[], attributes := #[] }
def k3m3 : Method := { name := "isEmpty", desc := "()Z", sig := { parameters := [], returnType := some .boolean }, accessFlags := 0, code := some k3c3 }
/-- com/example/lexchange/lexchange/PriceQueue -/
def k3 : Class := { plain "com/example/lexchange/lexchange/PriceQueue" (some 0) with
  accessFlags := 48
  interfaces := #[2]
  cf := some (fileOf pool3 11 #[.nestMembers #[7, 61]] #[{ accessFlags := 0, nameIndex := 5, descriptorIndex := 68, attributes := #[] }, { accessFlags := 0, nameIndex := 72, descriptorIndex := 73, attributes := #[] }, { accessFlags := 0, nameIndex := 77, descriptorIndex := 73, attributes := #[] }, { accessFlags := 0, nameIndex := 78, descriptorIndex := 54, attributes := #[] }] 48 2 #[66] #[{ accessFlags := 18, nameIndex := 21, descriptorIndex := 22, attributes := #[] }, { accessFlags := 18, nameIndex := 14, descriptorIndex := 15, attributes := #[] }, { accessFlags := 18, nameIndex := 18, descriptorIndex := 15, attributes := #[] }])
  fields := #[{ name := "price", type := .long, accessFlags := 18, slot := 0, constantValue := 0 }, { name := "shown", type := (.object "com/example/lexchange/lexchange/PriceQueue$Part"), accessFlags := 18, slot := 1, constantValue := 0 }, { name := "hidden", type := (.object "com/example/lexchange/lexchange/PriceQueue$Part"), accessFlags := 18, slot := 2, constantValue := 0 }]
  methods := #[k3m0, k3m1, k3m2, k3m3]
  instanceTypes := #[.long, (.object "com/example/lexchange/lexchange/PriceQueue$Part"), (.object "com/example/lexchange/lexchange/PriceQueue$Part")]
  staticTypes := #[]
  resolved := ((((Array.replicate 88 none).set! 7 (some (.cls 4))).set! 9 (some (.method ⟨4, 0⟩))).set! 42 (some (.field 4 0))).set! 32 (some (.field 4 1))
  statics := none }

def pool4 : Array CpInfo := pool [(1, .methodref 2 3), (0, .class_ 4), (0, .nameAndType 5 6), (0, u "java/lang/Object"), (0, u "<init>"), (0, u "()V"), (0, .class_ 8), (0, u "com/example/lexchange/lexchange/PriceQueue$Part"), (0, u "head"), (0, u "Lcom/example/lexchange/lexchange/Order;"), (0, u "tail"), (5, .class_ 18), (0, u "com/example/lexchange/lexchange/PriceQueue")] 2

def k4c0 : Code := { maxStack := 1, maxLocals := 1, code := prog_36_method_1_code, exceptionTable := #[], attributes := #[] }
def k4m0 : Method := { name := "<init>", desc := "()V", sig := { parameters := [], returnType := none }, accessFlags := 2, code := some k4c0 }
/-- com/example/lexchange/lexchange/PriceQueue$Part -/
def k4 : Class := { plain "com/example/lexchange/lexchange/PriceQueue$Part" (some 0) with
  accessFlags := 48
  interfaces := #[]
  cf := some (fileOf pool4 7 #[.nestHost 17] #[{ accessFlags := 2, nameIndex := 5, descriptorIndex := 6, attributes := #[] }] 48 2 #[] #[{ accessFlags := 2, nameIndex := 9, descriptorIndex := 10, attributes := #[] }, { accessFlags := 2, nameIndex := 11, descriptorIndex := 10, attributes := #[] }])
  fields := #[{ name := "head", type := (.object "com/example/lexchange/lexchange/Order"), accessFlags := 2, slot := 0, constantValue := 0 }, { name := "tail", type := (.object "com/example/lexchange/lexchange/Order"), accessFlags := 2, slot := 1, constantValue := 0 }]
  methods := #[k4m0]
  instanceTypes := #[(.object "com/example/lexchange/lexchange/Order"), (.object "com/example/lexchange/lexchange/Order")]
  staticTypes := #[]
  resolved := Array.replicate 21 none
  statics := none }

def pool5 : Array CpInfo := pool [(1, .fieldref 2 3), (0, .class_ 4), (0, .nameAndType 5 6), (0, u "com/example/lexchange/lexchange/TimeInForce"), (0, u "DAY"), (0, u "Lcom/example/lexchange/lexchange/TimeInForce;"), (0, .methodref 8 9), (0, .class_ 10), (0, .nameAndType 11 12), (0, u "java/util/OptionalInt"), (0, u "empty"), (0, u "()Ljava/util/OptionalInt;"), (0, .methodref 14 15), (0, .class_ 16), (0, .nameAndType 17 18), (0, u "com/example/lexchange/lexchange/Order"), (0, u "<init>"), (0, u "(JLjava/lang/String;Lcom/example/lexchange/lexchange/Side;IJLcom/example/lexchange/lexchange/TimeInForce;ZLjava/util/OptionalInt;)V"), (0, .methodref 20 21), (0, .class_ 22), (0, .nameAndType 17 23), (0, u "java/lang/Object"), (0, u "()V"), (12, .methodref 8 37), (0, .nameAndType 38 39), (0, u "isPresent"), (0, u "()Z"), (3, u "()I"), (3, .fieldref 14 48), (0, .nameAndType 49 50), (0, u "id"), (0, u "J"), (0, .fieldref 14 52), (0, .nameAndType 53 54), (0, u "participant"), (0, u "Ljava/lang/String;"), (0, .fieldref 14 56), (0, .nameAndType 57 58), (0, u "side"), (0, u "Lcom/example/lexchange/lexchange/Side;"), (0, .fieldref 14 60), (0, .nameAndType 61 6), (0, u "timeInForce"), (0, .fieldref 14 63), (0, .nameAndType 64 65), (0, u "postOnly"), (0, u "Z"), (0, .fieldref 14 67), (0, .nameAndType 68 69), (0, u "peak"), (0, u "Ljava/util/OptionalInt;"), (0, .fieldref 14 71), (0, .nameAndType 72 50), (0, u "price"), (0, .fieldref 14 74), (0, .nameAndType 75 76), (0, u "remaining"), (0, u "I"), (0, .fieldref 14 78), (0, .nameAndType 79 76), (0, u "slice"), (0, .methodref 14 81), (0, .nameAndType 82 39), (0, u "hidden"), (2, u "entry"), (9, u "queue"), (0, u "Lcom/example/lexchange/lexchange/PriceQueue;"), (0, u "previous"), (0, u "Lcom/example/lexchange/lexchange/Order;"), (0, u "next"), (0, u "(JLjava/lang/String;Lcom/example/lexchange/lexchange/Side;IJ)V"), (11, u "shown"), (9, u "showSlice")] 21

def k5c0 : Code := { maxStack := 11, maxLocals := 8, code := prog_29_method_1_code, exceptionTable := #[], attributes := #[] }
def k5m0 : Method := { name := "<init>", desc := "(JLjava/lang/String;Lcom/example/lexchange/lexchange/Side;IJ)V", sig := { parameters := [.long, (.object "java/lang/String"), (.object "com/example/lexchange/lexchange/Side"), .int, .long], returnType := none }, accessFlags := 0, code := some k5c0 }
def k5c1 : Code := { maxStack := 6, maxLocals := 11, code := prog_29_method_2_code, exceptionTable := #[], attributes := #[] }
def k5m1 : Method := { name := "<init>", desc := "(JLjava/lang/String;Lcom/example/lexchange/lexchange/Side;IJLcom/example/lexchange/lexchange/TimeInForce;ZLjava/util/OptionalInt;)V", sig := { parameters := [.long, (.object "java/lang/String"), (.object "com/example/lexchange/lexchange/Side"), .int, .long, (.object "com/example/lexchange/lexchange/TimeInForce"), .boolean, (.object "java/util/OptionalInt")], returnType := none }, accessFlags := 0, code := some k5c1 }
def k5c2 : Code := { maxStack := 1, maxLocals := 1, code := prog_29_method_12_code, exceptionTable := #[], attributes := #[] }
def k5m2 : Method := { name := "shown", desc := "()I", sig := { parameters := [], returnType := some .int }, accessFlags := 0, code := some k5c2 }
def k5c3 : Code := { maxStack := 3, maxLocals := 1, code := prog_29_method_19_code, exceptionTable := #[], attributes := #[] }
def k5m3 : Method := { name := "showSlice", desc := "()V", sig := { parameters := [], returnType := none }, accessFlags := 0, code := some k5c3 }
def k5c4 : Code := { maxStack := 1, maxLocals := 1, code := prog_29_method_20_code, exceptionTable := #[], attributes := #[] }
def k5m4 : Method := { name := "hidden", desc := "()Z", sig := { parameters := [], returnType := some .boolean }, accessFlags := 2, code := some k5c4 }
/-- com/example/lexchange/lexchange/Order -/
def k5 : Class := { plain "com/example/lexchange/lexchange/Order" (some 0) with
  accessFlags := 48
  interfaces := #[]
  cf := some (fileOf pool5 14 #[] #[{ accessFlags := 0, nameIndex := 17, descriptorIndex := 100, attributes := #[] }, { accessFlags := 0, nameIndex := 17, descriptorIndex := 18, attributes := #[] }, { accessFlags := 0, nameIndex := 112, descriptorIndex := 43, attributes := #[] }, { accessFlags := 0, nameIndex := 122, descriptorIndex := 23, attributes := #[] }, { accessFlags := 2, nameIndex := 82, descriptorIndex := 39, attributes := #[] }] 48 20 #[] #[{ accessFlags := 18, nameIndex := 49, descriptorIndex := 50, attributes := #[] }, { accessFlags := 18, nameIndex := 53, descriptorIndex := 54, attributes := #[] }, { accessFlags := 18, nameIndex := 57, descriptorIndex := 58, attributes := #[] }, { accessFlags := 18, nameIndex := 61, descriptorIndex := 6, attributes := #[] }, { accessFlags := 18, nameIndex := 64, descriptorIndex := 65, attributes := #[] }, { accessFlags := 18, nameIndex := 68, descriptorIndex := 69, attributes := #[] }, { accessFlags := 2, nameIndex := 72, descriptorIndex := 50, attributes := #[] }, { accessFlags := 2, nameIndex := 75, descriptorIndex := 76, attributes := #[] }, { accessFlags := 2, nameIndex := 79, descriptorIndex := 76, attributes := #[] }, { accessFlags := 2, nameIndex := 85, descriptorIndex := 50, attributes := #[] }, { accessFlags := 0, nameIndex := 95, descriptorIndex := 96, attributes := #[] }, { accessFlags := 0, nameIndex := 97, descriptorIndex := 98, attributes := #[] }, { accessFlags := 0, nameIndex := 99, descriptorIndex := 98, attributes := #[] }])
  fields := #[{ name := "id", type := .long, accessFlags := 18, slot := 0, constantValue := 0 }, { name := "participant", type := (.object "java/lang/String"), accessFlags := 18, slot := 1, constantValue := 0 }, { name := "side", type := (.object "com/example/lexchange/lexchange/Side"), accessFlags := 18, slot := 2, constantValue := 0 }, { name := "timeInForce", type := (.object "com/example/lexchange/lexchange/TimeInForce"), accessFlags := 18, slot := 3, constantValue := 0 }, { name := "postOnly", type := .boolean, accessFlags := 18, slot := 4, constantValue := 0 }, { name := "peak", type := (.object "java/util/OptionalInt"), accessFlags := 18, slot := 5, constantValue := 0 }, { name := "price", type := .long, accessFlags := 2, slot := 6, constantValue := 0 }, { name := "remaining", type := .int, accessFlags := 2, slot := 7, constantValue := 0 }, { name := "slice", type := .int, accessFlags := 2, slot := 8, constantValue := 0 }, { name := "entry", type := .long, accessFlags := 2, slot := 9, constantValue := 0 }, { name := "queue", type := (.object "com/example/lexchange/lexchange/PriceQueue"), accessFlags := 0, slot := 10, constantValue := 0 }, { name := "previous", type := (.object "com/example/lexchange/lexchange/Order"), accessFlags := 0, slot := 11, constantValue := 0 }, { name := "next", type := (.object "com/example/lexchange/lexchange/Order"), accessFlags := 0, slot := 12, constantValue := 0 }]
  methods := #[k5m0, k5m1, k5m2, k5m3, k5m4]
  instanceTypes := #[.long, (.object "java/lang/String"), (.object "com/example/lexchange/lexchange/Side"), (.object "com/example/lexchange/lexchange/TimeInForce"), .boolean, (.object "java/util/OptionalInt"), .long, .int, .int, .long, (.object "com/example/lexchange/lexchange/PriceQueue"), (.object "com/example/lexchange/lexchange/Order"), (.object "com/example/lexchange/lexchange/Order")]
  staticTypes := #[]
  resolved := Array.replicate 144 none
  statics := none }

def pool6 : Array CpInfo := pool [(1, .class_ 2), (0, u "java/io/Serializable"), (0, .class_ 4), (0, u "java/lang/Object")] 2

/-- java/io/Serializable -/
def k6 : Class := { plain "java/io/Serializable" (some 0) with
  accessFlags := 1537
  interfaces := #[]
  cf := some (fileOf pool6 1 #[] #[] 1537 3 #[] #[])
  fields := #[]
  methods := #[]
  instanceTypes := #[]
  staticTypes := #[]
  resolved := Array.replicate 7 none
  statics := none }

def pool7 : Array CpInfo := pool [(1, .class_ 2), (0, u "java/lang/Comparable"), (0, .class_ 4), (0, u "java/lang/Object")] 7

/-- java/lang/Comparable -/
def k7 : Class := { plain "java/lang/Comparable" (some 0) with
  accessFlags := 1537
  interfaces := #[]
  cf := some (fileOf pool7 1 #[] #[] 1537 3 #[] #[])
  fields := #[]
  methods := #[]
  instanceTypes := #[]
  staticTypes := #[]
  resolved := Array.replicate 12 none
  statics := none }

def pool8 : Array CpInfo := pool [(2, .class_ 4), (1, u "java/lang/CharSequence"), (42, .class_ 48), (0, u "java/lang/CharSequence$1CodePointIterator"), (10, .class_ 60), (0, u "java/lang/CharSequence$1CharIterator"), (5, .class_ 67), (0, u "java/lang/Object")] 63

/-- java/lang/CharSequence -/
def k8 : Class := { plain "java/lang/CharSequence" (some 0) with
  accessFlags := 1537
  interfaces := #[]
  cf := some (fileOf pool8 2 #[.nestMembers #[47, 59]] #[] 1537 66 #[] #[])
  fields := #[]
  methods := #[]
  instanceTypes := #[]
  staticTypes := #[]
  resolved := Array.replicate 131 none
  statics := none }

def pool9 : Array CpInfo := pool [(1, .class_ 2), (0, u "java/lang/constant/Constable"), (0, .class_ 4), (0, u "java/lang/Object")] 6

/-- java/lang/constant/Constable -/
def k9 : Class := { plain "java/lang/constant/Constable" (some 0) with
  accessFlags := 1537
  interfaces := #[]
  cf := some (fileOf pool9 1 #[] #[] 1537 3 #[] #[])
  fields := #[]
  methods := #[]
  instanceTypes := #[]
  staticTypes := #[]
  resolved := Array.replicate 11 none
  statics := none }

def pool10 : Array CpInfo := pool [(1, .class_ 2), (0, u "java/lang/constant/ConstantDesc"), (0, .class_ 4), (0, u "java/lang/Object")] 32

/-- java/lang/constant/ConstantDesc -/
def k10 : Class := { plain "java/lang/constant/ConstantDesc" (some 0) with
  accessFlags := 1537
  interfaces := #[]
  cf := some (fileOf pool10 1 #[] #[] 1537 3 #[] #[])
  fields := #[]
  methods := #[]
  instanceTypes := #[]
  staticTypes := #[]
  resolved := Array.replicate 37 none
  statics := none }

def pool11 : Array CpInfo := pool [(2, .class_ 4), (1, u "java/lang/Object"), (0, u "<init>"), (0, u "()V"), (3, .class_ 12), (1, u "java/lang/String"), (0, u "value"), (0, u "[B"), (2, u "coder"), (0, u "B"), (2, u "hash"), (0, u "I"), (2, u "hashIsZero"), (0, u "Z"), (13, u "COMPACT_STRINGS"), (534, .class_ 576), (0, u "java/lang/CharSequence"), (22, u "CASE_INSENSITIVE_ORDER"), (0, u "Ljava/util/Comparator;"), (500, u "serialPersistentFields"), (0, u "[Ljava/io/ObjectStreamField;"), (0, .class_ 1104), (0, u "java/lang/String$CaseInsensitiveComparator"), (1, .class_ 1107), (0, u "java/io/Serializable"), (0, .class_ 1109), (0, u "java/lang/Comparable"), (0, .class_ 1111), (0, u "java/lang/constant/Constable"), (0, .class_ 1113), (0, u "java/lang/constant/ConstantDesc"), (2, u "serialVersionUID"), (0, u "J"), (3, u "REPL"), (0, u "C"), (2, u "LATIN1"), (1, u "UTF16")] 323

def k11m0 : Method := { name := "<init>", desc := "()V", sig := { parameters := [], returnType := none }, accessFlags := 1, code := none }
/-- java/lang/String -/
def k11 : Class := { plain "java/lang/String" (some 0) with
  accessFlags := 49
  interfaces := #[6, 7, 8, 9, 10]
  cf := some (fileOf pool11 10 #[.nestMembers #[1103]] #[{ accessFlags := 1, nameIndex := 5, descriptorIndex := 6, attributes := #[] }] 49 2 #[1106, 1108, 575, 1110, 1112] #[{ accessFlags := 18, nameIndex := 13, descriptorIndex := 14, attributes := #[] }, { accessFlags := 18, nameIndex := 17, descriptorIndex := 18, attributes := #[] }, { accessFlags := 2, nameIndex := 21, descriptorIndex := 22, attributes := #[] }, { accessFlags := 2, nameIndex := 25, descriptorIndex := 26, attributes := #[] }, { accessFlags := 26, nameIndex := 1116, descriptorIndex := 1117, attributes := #[] }, { accessFlags := 24, nameIndex := 40, descriptorIndex := 26, attributes := #[] }, { accessFlags := 26, nameIndex := 1101, descriptorIndex := 1102, attributes := #[] }, { accessFlags := 26, nameIndex := 1121, descriptorIndex := 1122, attributes := #[] }, { accessFlags := 25, nameIndex := 599, descriptorIndex := 600, attributes := #[] }, { accessFlags := 24, nameIndex := 1125, descriptorIndex := 18, attributes := #[] }, { accessFlags := 24, nameIndex := 1127, descriptorIndex := 18, attributes := #[] }])
  fields := #[{ name := "value", type := (.array .byte), accessFlags := 18, slot := 0, constantValue := 0 }, { name := "coder", type := .byte, accessFlags := 18, slot := 1, constantValue := 0 }, { name := "hash", type := .int, accessFlags := 2, slot := 2, constantValue := 0 }, { name := "hashIsZero", type := .boolean, accessFlags := 2, slot := 3, constantValue := 0 }, { name := "serialVersionUID", type := .long, accessFlags := 26, slot := 0, constantValue := 0 }, { name := "COMPACT_STRINGS", type := .boolean, accessFlags := 24, slot := 1, constantValue := 0 }, { name := "serialPersistentFields", type := (.array (.object "java/io/ObjectStreamField")), accessFlags := 26, slot := 2, constantValue := 0 }, { name := "REPL", type := .char, accessFlags := 26, slot := 3, constantValue := 0 }, { name := "CASE_INSENSITIVE_ORDER", type := (.object "java/util/Comparator"), accessFlags := 25, slot := 4, constantValue := 0 }, { name := "LATIN1", type := .byte, accessFlags := 24, slot := 5, constantValue := 0 }, { name := "UTF16", type := .byte, accessFlags := 24, slot := 6, constantValue := 0 }]
  methods := #[k11m0]
  instanceTypes := #[(.array .byte), .byte, .int, .boolean]
  staticTypes := #[.long, .boolean, (.array (.object "java/io/ObjectStreamField")), .char, (.object "java/util/Comparator"), .byte, .byte]
  resolved := Array.replicate 1451 none
  statics := none }

def pool12 : Array CpInfo := pool [(2, .class_ 4), (1, u "java/lang/Enum"), (0, u "name"), (0, u "Ljava/lang/String;"), (2, u "ordinal"), (0, u "I"), (1, .class_ 14), (1, u "java/lang/Object"), (4, u "hash"), (86, .class_ 108), (1, u "java/lang/Enum$EnumDesc"), (2, .class_ 112), (0, u "java/lang/constant/Constable"), (0, .class_ 114), (0, u "java/lang/Comparable"), (0, .class_ 116), (0, u "java/io/Serializable")] 87

/-- java/lang/Enum -/
def k12 : Class := { plain "java/lang/Enum" (some 0) with
  accessFlags := 1057
  interfaces := #[9, 7, 6]
  cf := some (fileOf pool12 2 #[.nestMembers #[106]] #[] 1057 12 #[111, 113, 115] #[{ accessFlags := 18, nameIndex := 5, descriptorIndex := 6, attributes := #[] }, { accessFlags := 18, nameIndex := 9, descriptorIndex := 10, attributes := #[] }, { accessFlags := 2, nameIndex := 19, descriptorIndex := 10, attributes := #[] }])
  fields := #[{ name := "name", type := (.object "java/lang/String"), accessFlags := 18, slot := 0, constantValue := 0 }, { name := "ordinal", type := .int, accessFlags := 18, slot := 1, constantValue := 0 }, { name := "hash", type := .int, accessFlags := 2, slot := 2, constantValue := 0 }]
  methods := #[]
  instanceTypes := #[(.object "java/lang/String"), .int, .int]
  staticTypes := #[]
  resolved := Array.replicate 204 none
  statics := none }

def pool13 : Array CpInfo := pool [(1, .class_ 2), (0, u "com/example/lexchange/lexchange/Side"), (2, u "BUY"), (0, u "Lcom/example/lexchange/lexchange/Side;"), (2, u "SELL"), (2, u "$VALUES"), (0, u "[Lcom/example/lexchange/lexchange/Side;"), (6, .class_ 22), (1, u "java/lang/Enum")] 27

/-- com/example/lexchange/lexchange/Side -/
def k13 : Class := { plain "com/example/lexchange/lexchange/Side" (some 12) with
  accessFlags := 16432
  interfaces := #[]
  cf := some (fileOf pool13 1 #[] #[] 16432 20 #[] #[{ accessFlags := 16409, nameIndex := 5, descriptorIndex := 6, attributes := #[] }, { accessFlags := 16409, nameIndex := 9, descriptorIndex := 6, attributes := #[] }, { accessFlags := 4122, nameIndex := 12, descriptorIndex := 13, attributes := #[] }])
  fields := #[{ name := "BUY", type := (.object "com/example/lexchange/lexchange/Side"), accessFlags := 16409, slot := 0, constantValue := 0 }, { name := "SELL", type := (.object "com/example/lexchange/lexchange/Side"), accessFlags := 16409, slot := 1, constantValue := 0 }, { name := "$VALUES", type := (.array (.object "com/example/lexchange/lexchange/Side")), accessFlags := 4122, slot := 2, constantValue := 0 }]
  methods := #[]
  instanceTypes := #[(.object "java/lang/String"), .int, .int]
  staticTypes := #[(.object "com/example/lexchange/lexchange/Side"), (.object "com/example/lexchange/lexchange/Side"), (.array (.object "com/example/lexchange/lexchange/Side"))]
  resolved := Array.replicate 50 none
  statics := some 0 }

def pool14 : Array CpInfo := pool [(2, .class_ 4), (1, u "java/lang/Object"), (3, .class_ 10), (1, u "com/example/lexchange/lexchange/TimeInForce"), (0, u "kind"), (0, u "Lcom/example/lexchange/lexchange/TimeInForce$Kind;"), (2, u "lastDay"), (0, u "Ljava/time/LocalDate;"), (1, .class_ 20), (1, u "com/example/lexchange/lexchange/TimeInForce$Kind"), (37, u "DAY"), (2, u "Lcom/example/lexchange/lexchange/TimeInForce;"), (5, u "GOOD_TILL_CANCELLED"), (2, u "IMMEDIATE_OR_CANCEL"), (2, u "FILL_OR_KILL")] 17

/-- com/example/lexchange/lexchange/TimeInForce -/
def k14 : Class := { plain "com/example/lexchange/lexchange/TimeInForce" (some 0) with
  accessFlags := 48
  interfaces := #[]
  cf := some (fileOf pool14 8 #[.nestMembers #[18]] #[] 48 2 #[] #[{ accessFlags := 24, nameIndex := 58, descriptorIndex := 61, attributes := #[] }, { accessFlags := 24, nameIndex := 67, descriptorIndex := 61, attributes := #[] }, { accessFlags := 24, nameIndex := 70, descriptorIndex := 61, attributes := #[] }, { accessFlags := 24, nameIndex := 73, descriptorIndex := 61, attributes := #[] }, { accessFlags := 18, nameIndex := 11, descriptorIndex := 12, attributes := #[] }, { accessFlags := 18, nameIndex := 15, descriptorIndex := 16, attributes := #[] }])
  fields := #[{ name := "DAY", type := (.object "com/example/lexchange/lexchange/TimeInForce"), accessFlags := 24, slot := 0, constantValue := 0 }, { name := "GOOD_TILL_CANCELLED", type := (.object "com/example/lexchange/lexchange/TimeInForce"), accessFlags := 24, slot := 1, constantValue := 0 }, { name := "IMMEDIATE_OR_CANCEL", type := (.object "com/example/lexchange/lexchange/TimeInForce"), accessFlags := 24, slot := 2, constantValue := 0 }, { name := "FILL_OR_KILL", type := (.object "com/example/lexchange/lexchange/TimeInForce"), accessFlags := 24, slot := 3, constantValue := 0 }, { name := "kind", type := (.object "com/example/lexchange/lexchange/TimeInForce$Kind"), accessFlags := 18, slot := 0, constantValue := 0 }, { name := "lastDay", type := (.object "java/time/LocalDate"), accessFlags := 18, slot := 1, constantValue := 0 }]
  methods := #[]
  instanceTypes := #[(.object "com/example/lexchange/lexchange/TimeInForce$Kind"), (.object "java/time/LocalDate")]
  staticTypes := #[(.object "com/example/lexchange/lexchange/TimeInForce"), (.object "com/example/lexchange/lexchange/TimeInForce"), (.object "com/example/lexchange/lexchange/TimeInForce"), (.object "com/example/lexchange/lexchange/TimeInForce")]
  resolved := Array.replicate 91 none
  statics := some 1 }

def pool15 : Array CpInfo := pool [(2, .class_ 4), (1, u "java/lang/Object"), (0, u "<init>"), (0, u "()V"), (0, .fieldref 8 9), (0, .class_ 10), (0, .nameAndType 11 12), (0, u "java/util/OptionalInt"), (0, u "isPresent"), (0, u "Z"), (2, u "value"), (0, u "I"), (0, .fieldref 8 18), (0, .nameAndType 19 20), (0, u "EMPTY"), (0, u "Ljava/util/OptionalInt;"), (28, u "empty"), (46, u "()Ljava/util/OptionalInt;"), (2, u "()Z")] 36

def k15m0 : Method := { name := "<init>", desc := "()V", sig := { parameters := [], returnType := none }, accessFlags := 2, code := none }
def k15c1 : Code := { maxStack := 1, maxLocals := 0, code := jdk_2649_method_2_code, exceptionTable := #[], attributes := #[] }
def k15m1 : Method := { name := "empty", desc := "()Ljava/util/OptionalInt;", sig := { parameters := [], returnType := some (.object "java/util/OptionalInt") }, accessFlags := 9, code := some k15c1 }
def k15c2 : Code := { maxStack := 1, maxLocals := 1, code := jdk_2649_method_6_code, exceptionTable := #[], attributes := #[] }
def k15m2 : Method := { name := "isPresent", desc := "()Z", sig := { parameters := [], returnType := some .boolean }, accessFlags := 1, code := some k15c2 }
/-- java/util/OptionalInt -/
def k15 : Class := { plain "java/util/OptionalInt" (some 0) with
  accessFlags := 49
  interfaces := #[]
  cf := some (fileOf pool15 8 #[] #[{ accessFlags := 2, nameIndex := 5, descriptorIndex := 6, attributes := #[] }, { accessFlags := 9, nameIndex := 49, descriptorIndex := 96, attributes := #[] }, { accessFlags := 1, nameIndex := 11, descriptorIndex := 99, attributes := #[] }] 49 2 #[] #[{ accessFlags := 26, nameIndex := 19, descriptorIndex := 20, attributes := #[] }, { accessFlags := 18, nameIndex := 11, descriptorIndex := 12, attributes := #[] }, { accessFlags := 18, nameIndex := 15, descriptorIndex := 16, attributes := #[] }])
  fields := #[{ name := "EMPTY", type := (.object "java/util/OptionalInt"), accessFlags := 26, slot := 0, constantValue := 0 }, { name := "isPresent", type := .boolean, accessFlags := 18, slot := 0, constantValue := 0 }, { name := "value", type := .int, accessFlags := 18, slot := 1, constantValue := 0 }]
  methods := #[k15m0, k15m1, k15m2]
  instanceTypes := #[.boolean, .int]
  staticTypes := #[(.object "java/util/OptionalInt")]
  resolved := Array.replicate 136 none
  statics := some 2 }

def pool16 : Array CpInfo := pool [(1, u "java/lang/Cloneable"), (0, .class_ 1), (0, u "java/lang/Object"), (0, .class_ 3)] 3

/-- java/lang/Cloneable -/
def k16 : Class := { plain "java/lang/Cloneable" (some 0) with
  accessFlags := 1537
  interfaces := #[]
  cf := some (fileOf pool16 2 #[] #[] 1537 4 #[] #[])
  fields := #[]
  methods := #[]
  instanceTypes := #[]
  staticTypes := #[]
  resolved := Array.replicate 8 none
  statics := none }

/-- the primitive byte -/
def k17 : Class := { plain "byte" none with kind := .primitive 'B', accessFlags := 0x411 }
/-- [B -/
def k18 : Class := { plain "[B" (some 0) with kind := .array 17 .byte, interfaces := #[16, 6], accessFlags := 1041 }

/-- the primitive int -/
def k19 : Class := { plain "int" none with kind := .primitive 'I', accessFlags := 0x411 }
/-- [I -/
def k20 : Class := { plain "[I" (some 0) with kind := .array 19 .int, interfaces := #[16, 6], accessFlags := 1041 }

def heap : Heap := #[{ cls := 13, slots := #[.ref 3, .ref 4, .null], vm := .statics 13 },
  { cls := 14, slots := #[.ref 5, .null, .null, .null], vm := .statics 14 },
  { cls := 15, slots := #[.ref 6], vm := .statics 15 },
  { cls := 13, slots := #[.null, .int 0, .int 0], vm := .none },
  { cls := 13, slots := #[.null, .int 1, .int 0], vm := .none },
  { cls := 14, slots := #[.null, .null], vm := .none },
  { cls := 15, slots := #[.int 0, .int 0], vm := .none }]
def classes : Array Class := #[k0, k1, k2, k3, k4, k5, k6, k7, k8, k9, k10, k11, k12, k13, k14, k15, k16, k17, k18, k19, k20]
def interned : List (Array UInt16 × Addr) := []
def slotsUsed : Nat := 18
def theMethod : MethodId := ⟨1, 1⟩
def args0 : Array Value := #[.long 5, .int 5, .int 5, .int 5]
def aboutOver (below : List Frame) : State where
  vm := { classes := classes, interned := interned.toArray }
  heap := heap
  slotsUsed := slotsUsed
  threads := #[{ frames := .invoking theMethod args0 :: below }]
def below0 : List Frame := [.native { method := ⟨0, 0⟩, args := #[] }]
def about1 : State := aboutOver below0
def p0 : Program := .bare "" "" ""
def e0 : Env := launch0.env 0 0 0
theorem w_frames : about1.frames = Frame.invoking theMethod args0 :: below0 := rfl
set_option maxRecDepth 65536 in
theorem w_args : argsFit about1.vm theMethod args0 = true := by decide +kernel
set_option maxRecDepth 65536 in
theorem w_heap : heapFits about1 = true := by decide +kernel
set_option maxRecDepth 65536 in
theorem w_runnable : about1.curStatus? = some .runnable := by decide +kernel
set_option maxRecDepth 65536 in
theorem w_alone : about1.alone = true := by decide +kernel
set_option maxRecDepth 65536 in
theorem w_named : about1.methodNamed? x = some theMethod := by decide +kernel
set_option maxRecDepth 65536 in
theorem w_hears : about1.hears theMethod below0 = true := by decide +kernel
set_option maxRecDepth 65536 in
theorem w_ripe : about1.ripe theMethod args0 below0 = true := by decide +kernel
theorem w_running : about1.status = .running := rfl
set_option maxRecDepth 65536 in
theorem w_room : about1.hasRoom e0.platform room_1 = true :=
  launch0.hasRoom_least _ room_1 (by decide +kernel) (by decide +kernel) (by decide +kernel) (by decide +kernel) (by decide +kernel) (by decide +kernel)
theorem allAtoms_all (ts : List Jvm.Cond) (a : Array Jvm.Value) (st : Jvm.State) : (allAtoms ts).before a st = ts.all (fun c => c.before a st) := by
  induction ts with
  | nil => rfl
  | cons c t ih =>
    show (Jvm.Cond.and c (allAtoms t)).before a st = _
    rw [Jvm.Cond.before_and, ih, List.all_cons]
def words1 : List Jvm.Cond := Jvm.Cond.code x code maxLocals ret :: tables_1
/-- a 'code' word, met by the world's own term for the bytes: nothing is compared byte by byte -/
theorem code_word {y : MethodName} {bytes : ByteArray} {mx : Nat} {rt : Option FieldType} {a : Array Value} {s : State} {m : MethodId} {meth : Method} {c : Code} (h1 : s.methodNamed? y = some m) (h2 : s.vm.method? m = some meth) (h3 : meth.code = some c) (h4 : c.code = bytes)
    (h5 : (c.maxLocals == mx && c.exceptionTable.isEmpty && decide (c.maxStack ≤ mostOperands) && decide (meth.sig.returnType = rt) && !meth.locks && decide (parseMethodDescriptor y.desc = some meth.sig)) = true) : (Jvm.Cond.code y bytes mx rt).before a s = true := by
  simp only [Bool.and_eq_true, beq_iff_eq, Bool.not_eq_true', decide_eq_true_eq] at h5
  obtain ⟨⟨⟨⟨⟨g1, g2⟩, g3⟩, g4⟩, g5⟩, g6⟩ := h5
  simp [Cond.before, Cond.holds, Cond.value, h1, h2, h3, h4, g1, g2, g3, g4, g5, g6]
def isCode : Jvm.Cond → Bool
  | .code _ _ _ _ => true
  | _ => false
theorem all_split {L : List Jvm.Cond} {P : Jvm.Cond → Bool} (h1 : L.all (fun c => isCode c || P c) = true) (h2 : ∀ c ∈ L.filter isCode, P c = true) : L.all P = true := by
  refine List.all_eq_true.mpr fun c hc => ?_
  have h := List.all_eq_true.mp h1 c hc
  rcases Bool.eq_false_or_eq_true (isCode c) with hi | hi
  · exact h2 c (List.mem_filter.mpr ⟨hc, hi⟩)
  · simpa [hi] using h
set_option maxRecDepth 65536 in
theorem w_c0 : (Jvm.Cond.code x code maxLocals ret).before args0 about1 = true := code_word (m := ⟨1, 1⟩) (meth := k1m1) (c := k1c1) (by decide +kernel) rfl rfl rfl (by decide +kernel)
set_option maxRecDepth 65536 in
theorem w_c1 : (Jvm.Cond.code ({ cls := "com/example/lexchange/lexchange/PriceQueue", name := "<init>", desc := "(J)V" } : Jvm.MethodName) prog_34_method_1_code (3 : Nat) (Option.none : Option Jvm.ClassFile.FieldType)).before args0 about1 = true := code_word (m := ⟨3, 0⟩) (meth := k3m0) (c := k3c0) (by decide +kernel) rfl rfl rfl (by decide +kernel)
set_option maxRecDepth 65536 in
theorem w_c2 : (Jvm.Cond.code ({ cls := "java/lang/Object", name := "<init>", desc := "()V" } : Jvm.MethodName) object_method_1_code (1 : Nat) (Option.none : Option Jvm.ClassFile.FieldType)).before args0 about1 = true := code_word (m := ⟨0, 0⟩) (meth := k0m0) (c := k0c0) (by decide +kernel) rfl rfl rfl (by decide +kernel)
set_option maxRecDepth 65536 in
theorem w_c3 : (Jvm.Cond.code ({ cls := "com/example/lexchange/lexchange/PriceQueue$Part", name := "<init>", desc := "()V" } : Jvm.MethodName) prog_36_method_1_code (1 : Nat) (Option.none : Option Jvm.ClassFile.FieldType)).before args0 about1 = true := code_word (m := ⟨4, 0⟩) (meth := k4m0) (c := k4c0) (by decide +kernel) rfl rfl rfl (by decide +kernel)
set_option maxRecDepth 65536 in
theorem w_c4 : (Jvm.Cond.code ({ cls := "com/example/lexchange/lexchange/Order", name := "<init>", desc := "(JLjava/lang/String;Lcom/example/lexchange/lexchange/Side;IJ)V" } : Jvm.MethodName) prog_29_method_1_code (8 : Nat) (Option.none : Option Jvm.ClassFile.FieldType)).before args0 about1 = true := code_word (m := ⟨5, 0⟩) (meth := k5m0) (c := k5c0) (by decide +kernel) rfl rfl rfl (by decide +kernel)
set_option maxRecDepth 65536 in
theorem w_c5 : (Jvm.Cond.code ({ cls := "java/util/OptionalInt", name := "empty", desc := "()Ljava/util/OptionalInt;" } : Jvm.MethodName) jdk_2649_method_2_code (0 : Nat) (Option.some (Jvm.ClassFile.FieldType.object "java/util/OptionalInt"))).before args0 about1 = true := code_word (m := ⟨15, 1⟩) (meth := k15m1) (c := k15c1) (by decide +kernel) rfl rfl rfl (by decide +kernel)
set_option maxRecDepth 65536 in
theorem w_c6 : (Jvm.Cond.code ({ cls := "com/example/lexchange/lexchange/Order", name := "<init>", desc := "(JLjava/lang/String;Lcom/example/lexchange/lexchange/Side;IJLcom/example/lexchange/lexchange/TimeInForce;ZLjava/util/OptionalInt;)V" } : Jvm.MethodName) prog_29_method_2_code (11 : Nat) (Option.none : Option Jvm.ClassFile.FieldType)).before args0 about1 = true := code_word (m := ⟨5, 1⟩) (meth := k5m1) (c := k5c1) (by decide +kernel) rfl rfl rfl (by decide +kernel)
set_option maxRecDepth 65536 in
theorem w_c7 : (Jvm.Cond.code ({ cls := "java/util/OptionalInt", name := "isPresent", desc := "()Z" } : Jvm.MethodName) jdk_2649_method_6_code (1 : Nat) (Option.some Jvm.ClassFile.FieldType.boolean)).before args0 about1 = true := code_word (m := ⟨15, 2⟩) (meth := k15m2) (c := k15c2) (by decide +kernel) rfl rfl rfl (by decide +kernel)
set_option maxRecDepth 65536 in
theorem w_c8 : (Jvm.Cond.code ({ cls := "com/example/lexchange/lexchange/Order", name := "showSlice", desc := "()V" } : Jvm.MethodName) prog_29_method_19_code (1 : Nat) (Option.none : Option Jvm.ClassFile.FieldType)).before args0 about1 = true := code_word (m := ⟨5, 3⟩) (meth := k5m3) (c := k5c3) (by decide +kernel) rfl rfl rfl (by decide +kernel)
set_option maxRecDepth 65536 in
theorem w_c9 : (Jvm.Cond.code ({ cls := "com/example/lexchange/lexchange/PriceQueue", name := "isEmpty", desc := "()Z" } : Jvm.MethodName) prog_34_method_6_code (1 : Nat) (Option.some Jvm.ClassFile.FieldType.boolean)).before args0 about1 = true := code_word (m := ⟨3, 3⟩) (meth := k3m3) (c := k3c3) (by decide +kernel) rfl rfl rfl (by decide +kernel)
set_option maxRecDepth 65536 in
theorem w_c10 : (Jvm.Cond.code ({ cls := "com/example/lexchange/lexchange/PriceQueue", name := "add", desc := "(Lcom/example/lexchange/lexchange/Order;)V" } : Jvm.MethodName) prog_34_method_3_code (3 : Nat) (Option.none : Option Jvm.ClassFile.FieldType)).before args0 about1 = true := code_word (m := ⟨3, 1⟩) (meth := k3m1) (c := k3c1) (by decide +kernel) rfl rfl rfl (by decide +kernel)
set_option maxRecDepth 65536 in
theorem w_c11 : (Jvm.Cond.code ({ cls := "com/example/lexchange/lexchange/Order", name := "shown", desc := "()I" } : Jvm.MethodName) prog_29_method_12_code (1 : Nat) (Option.some Jvm.ClassFile.FieldType.int)).before args0 about1 = true := code_word (m := ⟨5, 2⟩) (meth := k5m2) (c := k5c2) (by decide +kernel) rfl rfl rfl (by decide +kernel)
set_option maxRecDepth 65536 in
theorem w_c12 : (Jvm.Cond.code ({ cls := "com/example/lexchange/lexchange/Order", name := "hidden", desc := "()Z" } : Jvm.MethodName) prog_29_method_20_code (1 : Nat) (Option.some Jvm.ClassFile.FieldType.boolean)).before args0 about1 = true := code_word (m := ⟨5, 4⟩) (meth := k5m4) (c := k5c4) (by decide +kernel) rfl rfl rfl (by decide +kernel)
set_option maxRecDepth 65536 in
theorem w_c13 : (Jvm.Cond.code ({ cls := "com/example/lexchange/lexchange/PriceQueue", name := "remove", desc := "(Lcom/example/lexchange/lexchange/Order;)V" } : Jvm.MethodName) prog_34_method_5_code (5 : Nat) (Option.none : Option Jvm.ClassFile.FieldType)).before args0 about1 = true := code_word (m := ⟨3, 2⟩) (meth := k3m2) (c := k3c2) (by decide +kernel) rfl rfl rfl (by decide +kernel)
def codes1 : List Jvm.Cond := [Jvm.Cond.code x code maxLocals ret, Jvm.Cond.code ({ cls := "com/example/lexchange/lexchange/PriceQueue", name := "<init>", desc := "(J)V" } : Jvm.MethodName) prog_34_method_1_code (3 : Nat) (Option.none : Option Jvm.ClassFile.FieldType), Jvm.Cond.code ({ cls := "java/lang/Object", name := "<init>", desc := "()V" } : Jvm.MethodName) object_method_1_code (1 : Nat) (Option.none : Option Jvm.ClassFile.FieldType), Jvm.Cond.code ({ cls := "com/example/lexchange/lexchange/PriceQueue$Part", name := "<init>", desc := "()V" } : Jvm.MethodName) prog_36_method_1_code (1 : Nat) (Option.none : Option Jvm.ClassFile.FieldType), Jvm.Cond.code ({ cls := "com/example/lexchange/lexchange/Order", name := "<init>", desc := "(JLjava/lang/String;Lcom/example/lexchange/lexchange/Side;IJ)V" } : Jvm.MethodName) prog_29_method_1_code (8 : Nat) (Option.none : Option Jvm.ClassFile.FieldType), Jvm.Cond.code ({ cls := "java/util/OptionalInt", name := "empty", desc := "()Ljava/util/OptionalInt;" } : Jvm.MethodName) jdk_2649_method_2_code (0 : Nat) (Option.some (Jvm.ClassFile.FieldType.object "java/util/OptionalInt")), Jvm.Cond.code ({ cls := "com/example/lexchange/lexchange/Order", name := "<init>", desc := "(JLjava/lang/String;Lcom/example/lexchange/lexchange/Side;IJLcom/example/lexchange/lexchange/TimeInForce;ZLjava/util/OptionalInt;)V" } : Jvm.MethodName) prog_29_method_2_code (11 : Nat) (Option.none : Option Jvm.ClassFile.FieldType), Jvm.Cond.code ({ cls := "java/util/OptionalInt", name := "isPresent", desc := "()Z" } : Jvm.MethodName) jdk_2649_method_6_code (1 : Nat) (Option.some Jvm.ClassFile.FieldType.boolean), Jvm.Cond.code ({ cls := "com/example/lexchange/lexchange/Order", name := "showSlice", desc := "()V" } : Jvm.MethodName) prog_29_method_19_code (1 : Nat) (Option.none : Option Jvm.ClassFile.FieldType), Jvm.Cond.code ({ cls := "com/example/lexchange/lexchange/PriceQueue", name := "isEmpty", desc := "()Z" } : Jvm.MethodName) prog_34_method_6_code (1 : Nat) (Option.some Jvm.ClassFile.FieldType.boolean), Jvm.Cond.code ({ cls := "com/example/lexchange/lexchange/PriceQueue", name := "add", desc := "(Lcom/example/lexchange/lexchange/Order;)V" } : Jvm.MethodName) prog_34_method_3_code (3 : Nat) (Option.none : Option Jvm.ClassFile.FieldType), Jvm.Cond.code ({ cls := "com/example/lexchange/lexchange/Order", name := "shown", desc := "()I" } : Jvm.MethodName) prog_29_method_12_code (1 : Nat) (Option.some Jvm.ClassFile.FieldType.int), Jvm.Cond.code ({ cls := "com/example/lexchange/lexchange/Order", name := "hidden", desc := "()Z" } : Jvm.MethodName) prog_29_method_20_code (1 : Nat) (Option.some Jvm.ClassFile.FieldType.boolean), Jvm.Cond.code ({ cls := "com/example/lexchange/lexchange/PriceQueue", name := "remove", desc := "(Lcom/example/lexchange/lexchange/Order;)V" } : Jvm.MethodName) prog_34_method_5_code (5 : Nat) (Option.none : Option Jvm.ClassFile.FieldType)]
set_option maxRecDepth 65536 in
theorem codes_eq : words1.filter isCode = codes1 := rfl
theorem w_codes : ∀ c ∈ words1.filter isCode, c.before args0 about1 = true := by
  rw [codes_eq]
  intro c hc
  simp only [codes1, List.mem_cons, List.not_mem_nil, or_false] at hc
  rcases hc with rfl | rfl | rfl | rfl | rfl | rfl | rfl | rfl | rfl | rfl | rfl | rfl | rfl | rfl
  · exact w_c0
  · exact w_c1
  · exact w_c2
  · exact w_c3
  · exact w_c4
  · exact w_c5
  · exact w_c6
  · exact w_c7
  · exact w_c8
  · exact w_c9
  · exact w_c10
  · exact w_c11
  · exact w_c12
  · exact w_c13
set_option maxRecDepth 65536 in
theorem w_t1 : (words1.take 24).all (fun c => isCode c || c.before args0 about1) = true := by decide +kernel
set_option maxRecDepth 65536 in
theorem w_t2 : ((words1.drop 24).take 24).all (fun c => isCode c || c.before args0 about1) = true := by decide +kernel
set_option maxRecDepth 65536 in
theorem w_t3 : (((words1.drop 24).drop 24).take 24).all (fun c => isCode c || c.before args0 about1) = true := by decide +kernel
set_option maxRecDepth 65536 in
theorem w_t4 : ((((words1.drop 24).drop 24).drop 24).take 24).all (fun c => isCode c || c.before args0 about1) = true := by decide +kernel
set_option maxRecDepth 65536 in
theorem w_t5 : (((((words1.drop 24).drop 24).drop 24).drop 24).take 24).all (fun c => isCode c || c.before args0 about1) = true := by decide +kernel
set_option maxRecDepth 65536 in
theorem w_t6 : (((((words1.drop 24).drop 24).drop 24).drop 24).drop 24).all (fun c => isCode c || c.before args0 about1) = true := by decide +kernel
theorem w_tables : (allAtoms (Jvm.Cond.code x code maxLocals ret :: tables_1)).before args0 about1 = true := by
  rw [allAtoms_all]
  show words1.all (fun c => c.before args0 about1) = true
  refine all_split ?_ w_codes
  rw [← List.take_append_drop 24 words1, List.all_append, w_t1, ← List.take_append_drop 24 (words1.drop 24), List.all_append, w_t2, ← List.take_append_drop 24 ((words1.drop 24).drop 24), List.all_append, w_t3, ← List.take_append_drop 24 (((words1.drop 24).drop 24).drop 24), List.all_append, w_t4, ← List.take_append_drop 24 ((((words1.drop 24).drop 24).drop 24).drop 24), List.all_append, w_t5, w_t6]
  rfl
set_option maxRecDepth 65536 in
theorem w_rest : rest_1_c.before args0 about1 = true := by decide +kernel
set_option maxRecDepth 65536 in
theorem w_case : (Jvm.Cond.and given_1 narrow_1).before args0 about1 = true := by decide +kernel
theorem w_applies : (headSpec (Jvm.Cond.code x code maxLocals ret :: tables_1) room_1).applies x e0.platform about1 = true :=
  (Spec.applies_iff w_frames).mpr ⟨w_running, w_runnable, w_alone, w_named, w_hears, w_ripe, w_room, w_tables⟩
theorem atStart : AtStart classFile x code maxLocals ret World_1 tables_1 room_1 Calls_1 rest_1 Pre_1 launch0 p0 e0 about1 theMethod args0 below0 :=
  ⟨lists_1, trivial, launch0.admits_env _ _ _, launch0.least_env, fairChoices_fair.cas, fairChoices_fair.clock, w_frames, w_args, w_heap, w_applies, trivial, w_rest, w_case⟩
end start1
theorem witness_1 : WitnessClaimed_1 := ⟨start1.p0, start1.e0, start1.about1, start1.theMethod, start1.args0, start1.below0, start1.atStart⟩
end Jvm.Pilot.@@N@@
