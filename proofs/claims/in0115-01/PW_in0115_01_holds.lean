import PyProof.Rows.All
import Wide.All
import OpenK.AllK
import Wide.FinOn
import PySem.Challenge.RW_in0115_01
set_option Elab.async false
set_option maxRecDepth 100000
namespace Mine
open PySem PySem.Calls PySem.W PyProof.Rows PySem.Spec
section
open PySem PySem.W PyProof.Rows
/-- the function that the program's i-th row lays -/
def fdN (i : Nat) (md df kw : Value) (c : Addr) : Option FuncData :=
  match PySem.Challenge.pw_in0115_01.main.body[i]? with
  | some (.FunctionDef n as b _ _ _ sc _ _ _) => some { name := n, qualname := n, params := as, body := .stmts b, scope := sc, globals := 3, closure := [], defaults := df, kwdefaults := kw, doc := .none, pyModule := md, annotations := none, code := .ref c, closureTuple := .none, builtins := 0 }
  | _ => none
abbrev FdN (i : Nat) (md df kw : Value) (c : Addr) : Type := { fd : FuncData // fdN i md df kw c = some fd }
noncomputable def fd55 : FdN 5 (.str (Str.ofString "re") 327) .none .none 54 := ⟨_, rfl⟩
noncomputable def fd62 : FdN 7 (.str (Str.ofString "cpy313.fnmatch") 482) .none .none 61 := ⟨_, rfl⟩
noncomputable def fd69 : FdN 9 (.str (Str.ofString "binascii") 503) .none .none 68 := ⟨_, rfl⟩
noncomputable def fd76 : FdN 10 (.str (Str.ofString "binascii") 503) .none .none 75 := ⟨_, rfl⟩
noncomputable def fd84 : FdN 12 (.str (Str.ofString "binascii") 503) .none (.ref 77) 83 := ⟨_, rfl⟩
noncomputable def fd92 : FdN 14 (.str (Str.ofString "cpy313.base64") 537) (.ref 85) .none 91 := ⟨_, rfl⟩
noncomputable def fd99 : FdN 16 (.str (Str.ofString "cpy313.typing") 548) .none .none 98 := ⟨_, rfl⟩
noncomputable def fd106 : FdN 17 (.str (Str.ofString "cpy313.typing") 548) .none .none 105 := ⟨_, rfl⟩
noncomputable def fd113 : FdN 19 (.str (Str.ofString "law_in0115_01") 571) .none .none 112 := ⟨_, rfl⟩
noncomputable def fd120 : FdN 20 (.str (Str.ofString "law_in0115_01") 571) .none .none 119 := ⟨_, rfl⟩
noncomputable def fd125 : FdN 21 (.str (Str.ofString "law_in0115_01") 571) .none .none 124 := ⟨_, rfl⟩
noncomputable def fd130 : FdN 22 (.str (Str.ofString "law_in0115_01") 571) .none .none 129 := ⟨_, rfl⟩
noncomputable def fd135 : FdN 23 (.str (Str.ofString "law_in0115_01") 571) .none .none 134 := ⟨_, rfl⟩
noncomputable def fd140 : FdN 24 (.str (Str.ofString "law_in0115_01") 571) .none .none 139 := ⟨_, rfl⟩
noncomputable def fd145 : FdN 25 (.str (Str.ofString "law_in0115_01") 571) .none .none 144 := ⟨_, rfl⟩
noncomputable def fnO (fd : FuncData) : Obj := ⟨.type "function", none, .func fd, #[]⟩
noncomputable def entS (P : Params) (x : Str) (t : Tok) (v : Value) : PySem.DictEntry := { hash := PyData.keyHash P x, key := .str x t, val := v }
noncomputable def entI (k : Int) (t : Tok) (x : Str) (u : Tok) : PySem.DictEntry := { hash := k, key := .int k t, val := .str x u }
noncomputable def globs (P : Params) : Obj := ⟨.type "dict", none, .dict #[
  entS P (Str.ofString "__name__") 165 (Value.str (Str.ofString "law_in0115_01") 571),
  entS P (Str.ofString "__doc__") 166 (Value.none),
  entS P (Str.ofString "__package__") 167 (Value.none),
  entS P (Str.ofString "__loader__") 168 (Value.builtin "__main__.__loader__#opaque"),
  entS P (Str.ofString "__spec__") 169 (Value.none),
  entS P (Str.ofString "__annotations__") 170 (Value.ref 6),
  entS P (Str.ofString "__builtins__") 171 (Value.ref 4),
  entS P (Str.ofString "__file__") 173 (Value.str (Str.ofString "/claim/cut.py") 172),
  entS P (Str.ofString "__cached__") 174 (Value.none),
  entS P (Str.ofString "_sre") 275 (Value.ref 12),
  entS P (Str.ofString "_wall") 288 (Value.ref 38),
  entS P (Str.ofString "_twin_re_1") 326 (Value.ref 43),
  entS P (Str.ofString "_special_chars_map") 474 (Value.ref 45),
  entS P (Str.ofString "escape") 481 (Value.ref 55),
  entS P (Str.ofString "_translate") 502 (Value.ref 62),
  entS P (Str.ofString "_buffer") 512 (Value.ref 69),
  entS P (Str.ofString "_truth") 520 (Value.ref 76),
  entS P (Str.ofString "_B64") 522 (Value.bytes #[65, 66, 67, 68, 69, 70, 71, 72, 73, 74, 75, 76, 77, 78, 79, 80, 81, 82, 83, 84, 85, 86, 87, 88, 89, 90, 97, 98, 99, 100, 101, 102, 103, 104, 105, 106, 107, 108, 109, 110, 111, 112, 113, 114, 115, 116, 117, 118, 119, 120, 121, 122, 48, 49, 50, 51, 52, 53, 54, 55, 56, 57, 43, 47] 521),
  entS P (Str.ofString "b2a_base64") 536 (Value.ref 84),
  entS P (Str.ofString "b64encode") 547 (Value.ref 92),
  entS P (Str.ofString "_deduplicate_unhashable") 558 (Value.ref 99),
  entS P (Str.ofString "_compare_args_orderless") 570 (Value.ref 106),
  entS P (Str.ofString "_law_octets") 579 (Value.ref 113),
  entS P (Str.ofString "_law_sixes") 587 (Value.ref 120),
  entS P (Str.ofString "_law_text") 593 (Value.ref 125),
  entS P (Str.ofString "_law_pattern") 599 (Value.ref 130),
  entS P (Str.ofString "_law_goes") 605 (Value.ref 135),
  entS P (Str.ofString "_law_once") 611 (Value.ref 140),
  entS P (Str.ofString "law") 617 (Value.ref 145)] 29, #[]⟩
noncomputable def specials : Obj := ⟨.type "dict", none, .dict #[
  entI 40 330 (Str.ofString "\\(") 334,
  entI 41 336 (Str.ofString "\\)") 340,
  entI 91 342 (Str.ofString "\\[") 346,
  entI 93 348 (Str.ofString "\\]") 352,
  entI 123 354 (Str.ofString "\\{") 358,
  entI 125 360 (Str.ofString "\\}") 364,
  entI 63 366 (Str.ofString "\\?") 370,
  entI 42 372 (Str.ofString "\\*") 376,
  entI 43 378 (Str.ofString "\\+") 382,
  entI 45 384 (Str.ofString "\\-") 388,
  entI 124 390 (Str.ofString "\\|") 394,
  entI 94 396 (Str.ofString "\\^") 400,
  entI 36 402 (Str.ofString "\\$") 406,
  entI 92 408 (Str.ofString "\\\\") 412,
  entI 46 414 (Str.ofString "\\.") 418,
  entI 38 420 (Str.ofString "\\&") 424,
  entI 126 426 (Str.ofString "\\~") 430,
  entI 35 432 (Str.ofString "\\#") 436,
  entI 32 438 (Str.ofString "\\ ") 442,
  entI 9 444 (Str.ofString "\\\t") 448,
  entI 10 450 (Str.ofString "\\\n") 454,
  entI 13 456 (Str.ofString "\\\x0d") 460,
  entI 11 462 (Str.ofString "\\\x0b") 466,
  entI 12 468 (Str.ofString "\\\x0c") 472] 24, #[]⟩
noncomputable def code54 : Obj := ⟨.type "code", none, .fields #[Value.str (Str.ofString "escape") 475, Value.str (Str.ofString "escape") 476, Value.str (Str.ofString "/claim/cut.py") 477, Value.int 8 0, Value.int 1 0, Value.int 0 0, Value.int 0 0, Value.int 3 0, Value.ref 49, Value.bool true, Value.int 276 0, Value.ref 50, Value.none, Value.ref 51, Value.ref 52, Value.ref 53, Value.int 479 0, Value.int 8 0, Value.str (Str.ofString "/claim/cut.py") 480], #[]⟩
noncomputable def code61 : Obj := ⟨.type "code", none, .fields #[Value.str (Str.ofString "_translate") 484, Value.str (Str.ofString "_translate") 485, Value.str (Str.ofString "/claim/cut.py") 486, Value.int 15 0, Value.int 3 0, Value.int 0 0, Value.int 0 0, Value.int 3 0, Value.ref 56, Value.bool true, Value.int 276 0, Value.ref 57, Value.none, Value.ref 58, Value.ref 59, Value.ref 60, Value.int 500 0, Value.int 15 0, Value.str (Str.ofString "/claim/cut.py") 501], #[]⟩
noncomputable def code68 : Obj := ⟨.type "code", none, .fields #[Value.str (Str.ofString "_buffer") 505, Value.str (Str.ofString "_buffer") 506, Value.str (Str.ofString "/claim/cut.py") 507, Value.int 78 0, Value.int 1 0, Value.int 0 0, Value.int 0 0, Value.int 3 0, Value.ref 63, Value.bool true, Value.int 276 0, Value.ref 64, Value.none, Value.ref 65, Value.ref 66, Value.ref 67, Value.int 510 0, Value.int 78 0, Value.str (Str.ofString "/claim/cut.py") 511], #[]⟩
noncomputable def code75 : Obj := ⟨.type "code", none, .fields #[Value.str (Str.ofString "_truth") 513, Value.str (Str.ofString "_truth") 514, Value.str (Str.ofString "/claim/cut.py") 515, Value.int 85 0, Value.int 1 0, Value.int 0 0, Value.int 0 0, Value.int 3 0, Value.ref 70, Value.bool true, Value.int 276 0, Value.ref 71, Value.none, Value.ref 72, Value.ref 73, Value.ref 74, Value.int 518 0, Value.int 85 0, Value.str (Str.ofString "/claim/cut.py") 519], #[]⟩
noncomputable def code83 : Obj := ⟨.type "code", none, .fields #[Value.str (Str.ofString "b2a_base64") 524, Value.str (Str.ofString "b2a_base64") 525, Value.str (Str.ofString "/claim/cut.py") 526, Value.int 91 0, Value.int 1 0, Value.int 1 0, Value.int 1 0, Value.int 3 0, Value.ref 78, Value.bool true, Value.int 276 0, Value.ref 79, Value.none, Value.ref 80, Value.ref 81, Value.ref 82, Value.int 534 0, Value.int 91 0, Value.str (Str.ofString "/claim/cut.py") 535], #[]⟩
noncomputable def code91 : Obj := ⟨.type "code", none, .fields #[Value.str (Str.ofString "b64encode") 539, Value.str (Str.ofString "b64encode") 540, Value.str (Str.ofString "/claim/cut.py") 541, Value.int 114 0, Value.int 2 0, Value.int 0 0, Value.int 0 0, Value.int 3 0, Value.ref 86, Value.bool true, Value.int 276 0, Value.ref 87, Value.none, Value.ref 88, Value.ref 89, Value.ref 90, Value.int 545 0, Value.int 114 0, Value.str (Str.ofString "/claim/cut.py") 546], #[]⟩
noncomputable def code98 : Obj := ⟨.type "code", none, .fields #[Value.str (Str.ofString "_deduplicate_unhashable") 550, Value.str (Str.ofString "_deduplicate_unhashable") 551, Value.str (Str.ofString "/claim/cut.py") 552, Value.int 121 0, Value.int 1 0, Value.int 0 0, Value.int 0 0, Value.int 3 0, Value.ref 93, Value.bool true, Value.int 276 0, Value.ref 94, Value.none, Value.ref 95, Value.ref 96, Value.ref 97, Value.int 556 0, Value.int 121 0, Value.str (Str.ofString "/claim/cut.py") 557], #[]⟩
noncomputable def code105 : Obj := ⟨.type "code", none, .fields #[Value.str (Str.ofString "_compare_args_orderless") 559, Value.str (Str.ofString "_compare_args_orderless") 560, Value.str (Str.ofString "/claim/cut.py") 561, Value.int 127 0, Value.int 2 0, Value.int 0 0, Value.int 0 0, Value.int 3 0, Value.ref 100, Value.bool true, Value.int 276 0, Value.ref 101, Value.none, Value.ref 102, Value.ref 103, Value.ref 104, Value.int 568 0, Value.int 127 0, Value.str (Str.ofString "/claim/cut.py") 569], #[]⟩
noncomputable def code112 : Obj := ⟨.type "code", none, .fields #[Value.str (Str.ofString "_law_octets") 573, Value.str (Str.ofString "_law_octets") 574, Value.str (Str.ofString "/claim/cut.py") 575, Value.int 138 0, Value.int 1 0, Value.int 0 0, Value.int 0 0, Value.int 3 0, Value.ref 107, Value.bool true, Value.int 276 0, Value.ref 108, Value.none, Value.ref 109, Value.ref 110, Value.ref 111, Value.int 577 0, Value.int 138 0, Value.str (Str.ofString "/claim/cut.py") 578], #[]⟩
noncomputable def code119 : Obj := ⟨.type "code", none, .fields #[Value.str (Str.ofString "_law_sixes") 580, Value.str (Str.ofString "_law_sixes") 581, Value.str (Str.ofString "/claim/cut.py") 582, Value.int 140 0, Value.int 1 0, Value.int 0 0, Value.int 0 0, Value.int 3 0, Value.ref 114, Value.bool true, Value.int 276 0, Value.ref 115, Value.none, Value.ref 116, Value.ref 117, Value.ref 118, Value.int 585 0, Value.int 140 0, Value.str (Str.ofString "/claim/cut.py") 586], #[]⟩
noncomputable def code124 : Obj := ⟨.type "code", none, .fields #[Value.str (Str.ofString "_law_text") 588, Value.str (Str.ofString "_law_text") 589, Value.str (Str.ofString "/claim/cut.py") 590, Value.int 143 0, Value.int 1 0, Value.int 0 0, Value.int 0 0, Value.int 3 0, Value.ref 121, Value.bool true, Value.int 276 0, Value.ref 122, Value.none, Value.none, Value.none, Value.ref 123, Value.int 591 0, Value.int 143 0, Value.str (Str.ofString "/claim/cut.py") 592], #[]⟩
noncomputable def code129 : Obj := ⟨.type "code", none, .fields #[Value.str (Str.ofString "_law_pattern") 594, Value.str (Str.ofString "_law_pattern") 595, Value.str (Str.ofString "/claim/cut.py") 596, Value.int 146 0, Value.int 2 0, Value.int 0 0, Value.int 0 0, Value.int 3 0, Value.ref 126, Value.bool true, Value.int 276 0, Value.ref 127, Value.none, Value.none, Value.none, Value.ref 128, Value.int 597 0, Value.int 146 0, Value.str (Str.ofString "/claim/cut.py") 598], #[]⟩
noncomputable def code134 : Obj := ⟨.type "code", none, .fields #[Value.str (Str.ofString "_law_goes") 600, Value.str (Str.ofString "_law_goes") 601, Value.str (Str.ofString "/claim/cut.py") 602, Value.int 149 0, Value.int 2 0, Value.int 0 0, Value.int 0 0, Value.int 3 0, Value.ref 131, Value.bool true, Value.int 276 0, Value.ref 132, Value.none, Value.none, Value.none, Value.ref 133, Value.int 603 0, Value.int 149 0, Value.str (Str.ofString "/claim/cut.py") 604], #[]⟩
noncomputable def code139 : Obj := ⟨.type "code", none, .fields #[Value.str (Str.ofString "_law_once") 606, Value.str (Str.ofString "_law_once") 607, Value.str (Str.ofString "/claim/cut.py") 608, Value.int 154 0, Value.int 1 0, Value.int 0 0, Value.int 0 0, Value.int 3 0, Value.ref 136, Value.bool true, Value.int 276 0, Value.ref 137, Value.none, Value.none, Value.none, Value.ref 138, Value.int 609 0, Value.int 154 0, Value.str (Str.ofString "/claim/cut.py") 610], #[]⟩
noncomputable def code144 : Obj := ⟨.type "code", none, .fields #[Value.str (Str.ofString "law") 612, Value.str (Str.ofString "law") 613, Value.str (Str.ofString "/claim/cut.py") 614, Value.int 156 0, Value.int 1 0, Value.int 0 0, Value.int 0 0, Value.int 3 0, Value.ref 141, Value.bool true, Value.int 276 0, Value.ref 142, Value.none, Value.none, Value.none, Value.ref 143, Value.int 615 0, Value.int 156 0, Value.str (Str.ofString "/claim/cut.py") 616], #[]⟩
noncomputable def MK (P : Params) : Frag := [(3, globs P), (45, specials), (55, fnO fd55.1), (62, fnO fd62.1), (69, fnO fd69.1), (76, fnO fd76.1), (84, fnO fd84.1), (92, fnO fd92.1), (99, fnO fd99.1), (106, fnO fd106.1), (113, fnO fd113.1), (120, fnO fd120.1), (125, fnO fd125.1), (130, fnO fd130.1), (135, fnO fd135.1), (140, fnO fd140.1), (145, fnO fd145.1), (54, code54), (61, code61), (68, code68), (75, code75), (83, code83), (91, code91), (98, code98), (105, code105), (112, code112), (119, code119), (124, code124), (129, code129), (134, code134), (139, code139), (144, code144), (85, ⟨.type "tuple", none, .seq #[.none] 0, #[]⟩)]
noncomputable def AllIn (K : Frag) : Frag → Prop
  | [] => True
  | p :: r => K.lookup p.1 = some p.2 ∧ AllIn K r
theorem AllIn.look {K : Frag} {a : Addr} {o : Obj} : ∀ {F : Frag}, AllIn K F → F.lookup a = some o → K.lookup a = some o
  | [], _, q => by cases q
  | p :: r, h, q => by
    rw [List.lookup_cons] at q
    by_cases e : a = p.1
    · subst e
      simp at q
      rw [← q]; exact h.1
    · rw [show (a == p.1) = false from by simpa using e] at q
      exact AllIn.look h.2 q
theorem AllIn.isIn {K F : Frag} {h : Heap} (k : AllIn K F) (x : K.In h) : F.In h := fun a o q => x a o (AllIn.look k q)
end
section
/-! ## heaps that keep what stood -/
abbrev Ext (h h' : Heap) : Prop := ∀ b o, h.get? b = some o → h'.get? b = some o

theorem Ext.refl (h : Heap) : Ext h h := fun _ _ e => e
theorem Ext.trans {a b c : Heap} (x : Ext a b) (y : Ext b c) : Ext a c := fun p o e => y p o (x p o e)
theorem Ext.push (h : Heap) (o : Obj) : Ext h (h.push o) := fun _ _ e => Heap.get?_push_of_some _ e

theorem ext_size {h h' : Heap} (x : Ext h h') {a : Addr} {o : Obj} (e : h.get? a = some o) : a < h'.objs.size := Heap.lt_size (x a o e)

theorem keeps_refl (s : Shared) : Keeps s s := ⟨s.heap, s.toks, rfl, fun _ _ e => e⟩
theorem keeps_trans {a b c : Shared} (x : Keeps a b) (y : Keeps b c) : Keeps a c := by
  obtain ⟨h, tk, rfl, k⟩ := x
  obtain ⟨h', tk', rfl, k'⟩ := y
  exact ⟨h', tk', rfl, fun b o e => k' b o (k b o e)⟩
theorem keeps_ext {a b : Shared} (x : Keeps a b) : Ext a.heap b.heap := by
  obtain ⟨h, tk, rfl, k⟩ := x
  exact k
theorem keeps_mk {s : Shared} {h : Heap} {tk : Nat} (k : Ext s.heap h) : Keeps s { s with heap := h, toks := tk } := ⟨h, tk, rfl, k⟩
theorem keeps_tok {s : Shared} {tk : Nat} : Keeps s { s with toks := tk } := ⟨s.heap, tk, rfl, fun _ _ e => e⟩

/-! ## data in the heap, at addresses of a region -/
mutual
inductive Rd (P : Addr → Prop) (h : Heap) : Value → PyData → Prop
  | none : Rd P h .none .none
  | bool (b : Bool) : Rd P h (.bool b) (.bool b)
  | int (i : Int) (t : Tok) : Rd P h (.int i t) (.int i)
  | str (x : Str) (t : Tok) : Rd P h (.str x t) (.str x)
  | list {a : Addr} {o : Obj} {vs : List Value} {n : Nat} {ds : List PyData} : P a → h.get? a = some o → o.cls = .type "list" → o.dict = none → o.data = .seq vs.toArray n → Rds P h vs ds → Rd P h (.ref a) (.list ds)
  | tuple {a : Addr} {o : Obj} {vs : List Value} {n : Nat} {ds : List PyData} : P a → h.get? a = some o → o.cls = .type "tuple" → o.data = .seq vs.toArray n → Rds P h vs ds → Rd P h (.ref a) (.tuple ds)
inductive Rds (P : Addr → Prop) (h : Heap) : List Value → List PyData → Prop
  | nil : Rds P h [] []
  | cons {v : Value} {vs : List Value} {d : PyData} {ds : List PyData} : Rd P h v d → Rds P h vs ds → Rds P h (v :: vs) (d :: ds)
end

mutual
theorem Rd.imp {P P' : Addr → Prop} {h h' : Heap} (hP : ∀ a, P a → P' a) (hk : ∀ b o vs n, P b → h.get? b = some o → o.data = .seq vs n → h'.get? b = some o) : ∀ {v : Value} {d : PyData}, Rd P h v d → Rd P' h' v d
  | _, _, .none => .none
  | _, _, .bool b => .bool b
  | _, _, .int i t => .int i t
  | _, _, .str x t => .str x t
  | _, _, .list p e c d q r => .list (hP _ p) (hk _ _ _ _ p e q) c d q (Rds.imp hP hk r)
  | _, _, .tuple p e c q r => .tuple (hP _ p) (hk _ _ _ _ p e q) c q (Rds.imp hP hk r)
theorem Rds.imp {P P' : Addr → Prop} {h h' : Heap} (hP : ∀ a, P a → P' a) (hk : ∀ b o vs n, P b → h.get? b = some o → o.data = .seq vs n → h'.get? b = some o) : ∀ {vs : List Value} {ds : List PyData}, Rds P h vs ds → Rds P' h' vs ds
  | _, _, .nil => .nil
  | _, _, .cons a r => .cons (Rd.imp hP hk a) (Rds.imp hP hk r)
end
mutual
theorem Rd.reads {P : Addr → Prop} {h : Heap} : ∀ {v : Value} {d : PyData}, Rd P h v d → ∃ as, Reads h v d as
  | _, _, .none => ⟨_, .none⟩
  | _, _, .bool b => ⟨_, .bool b⟩
  | _, _, .int i t => ⟨_, .int i t⟩
  | _, _, .str x t => ⟨_, .str x t⟩
  | _, _, .list _ e c _ q r => let ⟨_, z⟩ := Rds.reads r; ⟨_, .list e c q z⟩
  | _, _, .tuple _ e c q r => let ⟨_, z⟩ := Rds.reads r; ⟨_, .tuple e c q z⟩
theorem Rds.reads {P : Addr → Prop} {h : Heap} : ∀ {vs : List Value} {ds : List PyData}, Rds P h vs ds → ∃ as, ReadsAll h vs ds as
  | _, _, .nil => ⟨_, .nil⟩
  | _, _, .cons a r => let ⟨_, z⟩ := Rd.reads a; let ⟨_, y⟩ := Rds.reads r; ⟨_, .cons z y⟩
end

section
variable {P P' : Addr → Prop} {h h' : Heap} {v : Value} {d : PyData} {vs ws : List Value} {ds es : List PyData}
theorem Rd.ext (x : Rd P h v d) (k : Ext h h') : Rd P h' v d := x.imp (fun _ p => p) fun b o _ _ _ e _ => k b o e
theorem Rds.ext (x : Rds P h vs ds) (k : Ext h h') : Rds P h' vs ds := x.imp (fun _ p => p) fun b o _ _ _ e _ => k b o e
theorem Rd.mono (x : Rd P h v d) (k : ∀ a, P a → P' a) : Rd P' h v d := x.imp k fun _ _ _ _ _ e _ => e
theorem Rds.mono (x : Rds P h vs ds) (k : ∀ a, P a → P' a) : Rds P' h vs ds := x.imp k fun _ _ _ _ _ e _ => e
theorem Rds.length (x : Rds P h vs ds) : vs.length = ds.length := by
  induction vs generalizing ds with
  | nil => cases x; rfl
  | cons v vs ih => cases x with | cons _ r => rw [List.length_cons, List.length_cons, ih r]
theorem Rds.append (x : Rds P h vs ds) (y : Rds P h ws es) : Rds P h (vs ++ ws) (ds ++ es) := by
  induction vs generalizing ds with
  | nil => cases x; exact y
  | cons v vs ih => cases x with | cons a r => exact .cons a (ih r)
theorem Rds.get (x : Rds P h vs ds) {k : Nat} {v : Value} (e : vs[k]? = some v) : ∃ d, ds[k]? = some d ∧ Rd P h v d := by
  induction vs generalizing ds k with
  | nil => simp at e
  | cons u vs ih =>
    cases x with
    | cons a r =>
      cases k with
      | zero => simp at e; subst e; exact ⟨_, rfl, a⟩
      | succ k => simpa using ih r (by simpa using e)
theorem Rds.at (x : Rds P h vs ds) {k : Nat} {d : PyData} (e : ds[k]? = some d) : ∃ v, vs[k]? = some v ∧ Rd P h v d := by
  induction vs generalizing ds k with
  | nil => cases x; simp at e
  | cons u vs ih =>
    cases x with
    | cons a r =>
      cases k with
      | zero => simp at e; subst e; exact ⟨_, rfl, a⟩
      | succ k => simpa using ih r (by simpa using e)
theorem Rds.take (x : Rds P h vs ds) (n : Nat) : Rds P h (vs.take n) (ds.take n) := by
  induction vs generalizing ds n with
  | nil => cases x; simpa using Rds.nil
  | cons u vs ih =>
    cases x with
    | cons a r =>
      cases n with
      | zero => simpa using Rds.nil
      | succ n => simpa using Rds.cons a (ih r n)
theorem Rds.drop (x : Rds P h vs ds) (n : Nat) : Rds P h (vs.drop n) (ds.drop n) := by
  induction vs generalizing ds n with
  | nil => cases x; simpa using Rds.nil
  | cons u vs ih =>
    cases x with
    | cons a r =>
      cases n with
      | zero => simpa using Rds.cons a r
      | succ n => simpa using ih r n
theorem Rds.reverse (x : Rds P h vs ds) : Rds P h vs.reverse ds.reverse := by
  induction vs generalizing ds with
  | nil => cases x; simpa using Rds.nil
  | cons u vs ih =>
    cases x with
    | cons a r => simpa using (ih r).append (.cons a .nil)
theorem Rds.of_ints : ∀ {vs : List Value} {ns : List Int}, IntsAre vs ns → Rds P h vs (ns.map .int)
  | _, _, .nil => .nil
  | _, _, .cons _ t r => .cons (.int _ t) (Rds.of_ints r)
theorem Rds.ints : ∀ {vs : List Value} {ns : List Int}, Rds P h vs (ns.map .int) → IntsAre vs ns
  | _, [], x => by cases x; exact .nil
  | _, n :: ns, x => by
    cases x with
    | cons a r => cases a with | int _ t => exact .cons _ t (Rds.ints r)
theorem Rd.isList {a : Addr} (x : Rd P h (.ref a) (.list ds)) : ∃ vs : List Value, h.IsList a vs.toArray ∧ Rds P h vs ds ∧ P a := by
  cases x with
  | list p e c _ q r => exact ⟨_, ⟨_, e, c, _, q⟩, r, p⟩
theorem Rd.list_inv (x : Rd P h v (.list ds)) : ∃ (a : Addr) (vs : List Value), v = .ref a ∧ h.IsList a vs.toArray ∧ Rds P h vs ds ∧ P a := by
  cases x with
  | list p e c _ q r => exact ⟨_, _, rfl, ⟨_, e, c, _, q⟩, r, p⟩
theorem Rd.plain_inv (x : Rd P h v (.list ds)) : ∃ (a : Addr) (vs : List Value), v = .ref a ∧ PlainL h a vs.toArray ∧ Rds P h vs ds ∧ P a := by
  cases x with
  | list p e c d q r => exact ⟨_, _, rfl, ⟨_, _, e, c, d, q⟩, r, p⟩
theorem plain_list {a : Addr} {vs : Array Value} {h : Heap} (x : PlainL h a vs) : h.IsList a vs := let ⟨o, n, e, c, _, d⟩ := x; ⟨o, e, c, n, d⟩
theorem Rd.of_list {a : Addr} (p : P a) (x : PlainL h a vs.toArray) (r : Rds P h vs ds) : Rd P h (.ref a) (.list ds) := by
  obtain ⟨o, n, e, c, d, q⟩ := x
  exact .list p e c d q r
theorem Rd.of_tuple {a : Addr} (p : P a) (x : h.IsTuple a vs.toArray) (r : Rds P h vs ds) : Rd P h (.ref a) (.tuple ds) := by
  obtain ⟨o, e, c, n, q⟩ := x
  exact .tuple p e c q r
theorem Rd.int_inv {i : Int} (x : Rd P h v (.int i)) : ∃ t, v = .int i t := by cases x; exact ⟨_, rfl⟩
theorem Rd.str_inv {i : Str} (x : Rd P h v (.str i)) : ∃ t, v = .str i t := by cases x; exact ⟨_, rfl⟩
theorem Rd.bool_inv {i : Bool} (x : Rd P h v (.bool i)) : v = .bool i := by cases x; rfl
theorem Rd.none_inv (x : Rd P h v .none) : v = .none := by cases x; rfl
end

/-! ## what a frame reads -/
structure FS (env : Env) (m cm : Str → Option Value) (h : Heap) : Prop where
  ns : h.Ns env.locals m
  cell : ∀ n c, env.cells.lookup n = some c → h.IsCell c (cm n)
theorem FS.ext {env : Env} {m cm : Str → Option Value} {h h' : Heap} (x : FS env m cm h) (k : Ext h h') : FS env m cm h' :=
  ⟨x.ns.keeps k, fun n c e => (x.cell n c e).keeps k⟩

section
variable {M : Model} {A : Around} {E : Value → Shared → Prop} {s : Shared} {env : Env} {m cm : Str → Option Value} {x : Str} {pos : Pos} {v : Value} {Q : Value → Shared → Prop}
theorem nmL (F : FS env m cm s.heap) (hv : m x = some v) (h : Q v s) (hk : env.scope.kind = .function := by rfl) (hx : env.kindOf x = some .local := by rfl) (hd : (x == ("__debug__" : Str)) = false := by decide) :
    wpAny M A (eval (.Name x pos) env) Q E s := wpAny_Name (wpAny_loadName_local hk hx F.ns hv h) hd
theorem nmC {c : Addr} (F : FS env m cm s.heap) (hv : cm x = some v) (h : Q v s) (hc : env.cells.lookup x = some c := by rfl) (hk : env.scope.kind = .function := by rfl) (hx : env.kindOf x = some .cell := by rfl) (hd : (x == ("__debug__" : Str)) = false := by decide) :
    wpAny M A (eval (.Name x pos) env) Q E s := wpAny_Name (wpAny_loadName_cell hk hx hc (hv ▸ F.cell _ _ hc) h) hd
end

/-! ## the program's own objects -/
structure Gl (K : Frag) (mg mb : Str → Option Value) (h : Heap) : Prop where
  K : K.In h
  g : h.Ns mainGlobals mg
  b : h.Ns builtinsNs mb
  lim : h.NoLimit
  bi : ∀ x : Str, x ≠ "__name__" → mb x = bootBuiltins x
theorem Gl.ext {K : Frag} {mg mb : Str → Option Value} {h h' : Heap} (x : Gl K mg mb h) (k : Ext h h') : Gl K mg mb h' :=
  ⟨fun a o e => k a o (x.K a o e), x.g.keeps k, x.b.keeps k, x.lim.keeps k, x.bi⟩

section
variable {M : Model} {A : Around} {E : Value → Shared → Prop} {s : Shared} {env : Env} {x : Str} {pos : Pos} {v : Value} {Q : Value → Shared → Prop} {K : Frag} {mg mb : Str → Option Value}
theorem nmG (G : Gl K mg mb s.heap) (e : nsIn K mainGlobals x = some (some v)) (h : Q v s) (hk : env.scope.kind = .function := by rfl) (hx : env.kindOf x = some .globalImplicit := by rfl) (hg : env.globals = mainGlobals := by rfl)
    (hd : (x == ("__debug__" : Str)) = false := by decide) : wpAny M A (eval (.Name x pos) env) Q E s :=
  Name_function_global hk hx (loadGlobal_global (hg ▸ G.g) (mg_of G.K G.g e) h) hd
theorem nmB (G : Gl K mg mb s.heap) (e : nsIn K mainGlobals x = some none) (hv : bootBuiltins x = some v) (hn : x ≠ "__name__") (h : Q v s) (hk : env.scope.kind = .function := by rfl) (hx : env.kindOf x = some .globalImplicit := by rfl)
    (hg : env.globals = mainGlobals := by rfl) (hb : env.builtins = builtinsNs := by rfl) (hd : (x == ("__debug__" : Str)) = false := by decide) : wpAny M A (eval (.Name x pos) env) Q E s :=
  Name_function_global hk hx (loadGlobal_builtin (hg ▸ G.g) (mg_none_of G.K G.g e) (hb ▸ G.b) ((G.bi x hn).trans hv) h) hd
end

/-! ## room -/
structure Rm (A : Around) (n : Nat) : Prop where
  hh : A.handled = none
  d : A.depth + n < recursionLimit
  u : A.units + 8 * n + 200 < cLine
theorem Rm.deeper {A : Around} {n : Nat} (r : Rm A (n + 1)) (env : Env) : Rm (A.deeper env) n :=
  ⟨r.hh, by have := r.d; show A.depth + 1 + n < _; omega, by have := r.u; show A.units + 3 + 8 * n + 200 < _; omega⟩
theorem Rm.le {A : Around} {n m : Nat} (r : Rm A n) (h : m ≤ n) : Rm A m :=
  ⟨r.hh, by have := r.d; omega, by have := r.u; omega⟩
theorem Rm.room {A : Around} {n : Nat} (r : Rm A n) : A.depth < recursionLimit := by have := r.d; omega
theorem Rm.u64 {A : Around} {n : Nat} (r : Rm A n) : A.units + 64 < cLine := by have := r.u; omega
theorem Rm.u65 {A : Around} {n : Nat} (r : Rm A n) : A.units + 65 < cLine := by have := r.u; omega
theorem Rm.in1 {A : Around} {n : Nat} (r : Rm A (n + 1)) : Rm A.in1 n :=
  ⟨r.hh, by have := r.d; show A.depth + n < _; omega, by have := r.u; show A.units + 1 + 8 * n + 200 < _; omega⟩
end
section
theorem paired_mono {α β : Type} {F G : α → β → Prop} (k : ∀ a b, F a b → G a b) : ∀ {l : List α} {l' : List β}, Paired F l l' → Paired G l l'
  | _, _, .nil => .nil
  | _, _, .cons a r => .cons (k _ _ a) (paired_mono k r)

abbrev Tests (ifs : List Expr) (cenv : Env) : Sem Bool :=
  forIn ifs true fun c r => if r = true then do let ok ← isTrue c cenv (eval c cenv); pure (ForInStep.yield ok) else pure (ForInStep.yield r)

/-- what a comprehension's clause draws: its n items, one after the other, each bound to the target -/
structure Srcs (prog : Program) (w : World) (A : Around) (I : Addr) (target : Expr) (cenv : Env) (n : Nat) (own fp : List Addr) (St Tg : Nat → Heap → Prop) : Prop where
  sub : ∀ b ∈ own, b ∈ fp
  alive : ∀ i h, St i h → ∀ b ∈ own, ∃ o, h.get? b = some o
  frame : ∀ i h h', St i h → (∀ b ∈ fp, ∀ o, h.get? b = some o → h'.get? b = some o) → St i h'
  tg : ∀ i h h', Tg i h → Ext h h' → Tg i h'
  ns : ∀ i h, St i h → ∃ m, h.Ns cenv.locals m
  self : ∀ i (s : Shared) (Q : Value → Shared → Prop) (E : Value → Shared → Prop), St i s.heap → Q (.ref I) s → wpAny (model prog w) A (pyIter (.ref I)) Q E s
  step : ∀ i (s : Shared) (Q : Unit → Shared → Prop) (G : Option Value → Shared → Prop) (E : Value → Shared → Prop), i < n → St i s.heap →
    (∀ v s₂, wpAny (model prog w) A (letOwnedTupleGo target (.ref I) v) (fun _ s₃ => wpAny (model prog w) A (assign target cenv v) Q E s₃) E s₂ → G (some v) s₂) →
    (∀ h' tk, St (i + 1) h' → Tg i h' → (∀ b o, b ∉ own → s.heap.get? b = some o → h'.get? b = some o) → Q () { s with heap := h', toks := tk }) →
    wpAny (model prog w) A (pyNext (.ref I)) G E s
  fin : ∀ (s : Shared) (Q : Option Value → Shared → Prop) (E : Value → Shared → Prop), St n s.heap →
    (∀ h' tk, (∃ m, h'.Ns cenv.locals m) → (∀ b o, b ∉ own → s.heap.get? b = some o → h'.get? b = some o) → Q none { s with heap := h', toks := tk }) →
    wpAny (model prog w) A (pyNext (.ref I)) Q E s

section
variable {prog : Program} {w : World} {A : Around} {R : Result → Shared → Prop} {s : Shared}

theorem lc_tests {elt target iter : Expr} {ifs : List Expr} {scope : Scope} {pos : Pos} {it acc : Value} {env : Env} (I : Nat → Shared → Prop)
    (turn : ∀ n s, I n s → wpAny (model prog w) A (pyNext it) (fun r s₁ => match r with
      | none => R (.ok .next) s₁
      | some v => wpAny (model prog w) A (letOwnedTupleGo target it v) (fun _ s₁' => wpAny (model prog w) A (assign target env v) (fun _ s₂ =>
          wpAny (model prog w) A (Tests ifs env) (fun ok s₃ =>
            if ok = true then wpAny (model prog w) A (eval elt env) (fun x s₄ =>
              wpAny (model prog w) A (call (.builtin "list.append") [acc, x]) (fun _ s₅ => ∃ m, m < n ∧ I m s₅) (notedBy (model prog w) A env fun e s' => R (.error e) s') s₄) (notedBy (model prog w) A env fun e s' => R (.error e) s') s₃
            else ∃ m, m < n ∧ I m s₃) (notedBy (model prog w) A env fun e s' => R (.error e) s') s₂) (notedBy (model prog w) A env fun e s' => R (.error e) s') s₁') (notedBy (model prog w) A env fun e s' => R (.error e) s') s₁) (notedBy (model prog w) A env fun e s' => R (.error e) s') s)
    (n : Nat) (h : I n s) :
    codeAny (model prog w) A (.compLoop (.ListComp elt [⟨target, iter, ifs, 0⟩] scope pos) 0 it acc env) R s := by
  refine codeAny_loop rfl I (fun n s hI => ?_) n h
  show wpAny _ A ((compTurn (.ListComp elt [⟨target, iter, ifs, 0⟩] scope pos) 0 it acc env).onRaise (fun x => do noteFrame x env; theTreesLotGoes x)) _ _ s
  refine wpAny_noted ?_
  rw [compTurn_list]
  refine wpAny_bind (wpAny_standAt (wpAny_bind (wpAny_mono (turn n s hI) (fun r s₁ h₁ => ?_) fun _ _ h' => h')))
  cases r with
  | none => exact wpAny_pure h₁
  | some v =>
    refine wpAny_bind (wpAny_mono h₁ (fun _ s₁' h₁' => ?_) fun _ _ h' => h')
    refine wpAny_bind (wpAny_mono h₁' (fun _ s₂ h₂ => wpAny_bind (wpAny_mono h₂ (fun ok s₃ h₃ => ?_) fun _ _ h' => h')) fun _ _ h' => h')
    cases ok with
    | false => exact wpAny_pure ⟨rfl, h₃⟩
    | true =>
      exact wpAny_bind (wpAny_bind (wpAny_mono h₃ (fun x s₄ h₄ => wpAny_bind (wpAny_mono h₄ (fun _ s₅ h₅ => wpAny_pure (wpAny_pure ⟨rfl, h₅⟩)) fun _ _ h' => h')) fun _ _ h' => h'))

theorem range_filter_succ (p : Nat → Bool) (i : Nat) : (List.range (i + 1)).filter p = (List.range i).filter p ++ (if p i then [i] else []) := by
  rw [List.range_succ, List.filter_append]
  cases hp : p i <;> simp [hp]

theorem lc_loop {elt target iter : Expr} {ifs : List Expr} {scope : Scope} {pos : Pos} {I D : Addr} {cenv : Env} {n : Nat} {own fp : List Addr} {St Tg : Nat → Heap → Prop}
    (S : Srcs prog w A I target cenv n own fp St Tg) (p : Nat → Bool) (F : Nat → Heap → Value → Prop)
    (hDf : D ∉ fp) (hn : n ≤ sizeLine) (hst : St 0 s.heap) (hacc : PlainL s.heap D #[])
    (FExt : ∀ i h h' y, F i h y → (∀ b o, b ∉ own → b ≠ D → h.get? b = some o → h'.get? b = some o) → F i h' y)
    (tests : ∀ i s₁ E', i < n → Tg i s₁.heap → (∀ b ∈ own, ∃ o, s₁.heap.get? b = some o) → (∃ o, s₁.heap.get? D = some o) → (∀ b o, b ∉ own → b ≠ D → s.heap.get? b = some o → s₁.heap.get? b = some o) →
      wpAny (model prog w) A (Tests ifs cenv) (fun ok s₂ => ok = p i ∧ Keeps s₁ s₂) E' s₁)
    (elts : ∀ i s₁ E', i < n → p i = true → Tg i s₁.heap → (∀ b ∈ own, ∃ o, s₁.heap.get? b = some o) → (∃ o, s₁.heap.get? D = some o) → (∀ b o, b ∉ own → b ≠ D → s.heap.get? b = some o → s₁.heap.get? b = some o) →
      wpAny (model prog w) A (eval elt cenv) (fun y s₂ => F i s₂.heap y ∧ Keeps s₁ s₂) E' s₁)
    (hR : ∀ h' tk m' ys, h'.Ns cenv.locals m' → PlainL h' D (List.toArray ys) → Paired (fun i y => F i h' y) ((List.range n).filter p) ys →
      (∀ b o, b ∉ own → b ≠ D → s.heap.get? b = some o → h'.get? b = some o) → R (.ok .next) { s with heap := h', toks := tk }) :
    codeAny (model prog w) A (.compLoop (.ListComp elt [⟨target, iter, ifs, 0⟩] scope pos) 0 (.ref I) (.ref D) cenv) R s := by
  have hDo : D ∉ own := fun h => hDf (S.sub _ h)
  refine lc_tests
    (fun k s' => ∃ h' tk i ys, s' = { s with heap := h', toks := tk } ∧ i ≤ n ∧ k = n + 1 - i ∧ St i h' ∧ PlainL h' D (List.toArray ys) ∧
      Paired (fun i y => F i h' y) ((List.range i).filter p) ys ∧ (∀ b o, b ∉ own → b ≠ D → s.heap.get? b = some o → h'.get? b = some o)) ?_ (n + 1)
    ⟨s.heap, s.toks, 0, [], rfl, Nat.zero_le _, rfl, hst, hacc, .nil, fun _ _ _ _ e => e⟩
  rintro k s' ⟨H, tk, i, ys, rfl, hi, rfl, hst', hacc', hF, hk⟩
  by_cases hlt : i < n
  · refine S.step i _ _ _ _ hlt hst' (fun v s₂ h => h) fun h₁ tk₁ hst₁ hTg hk₁ => ?_
    have hk1 : ∀ b o, b ∉ own → b ≠ D → s.heap.get? b = some o → h₁.get? b = some o := fun b o hb hd e => hk₁ b o hb (hk b o hb hd e)
    have hacc₁ : PlainL h₁ D (List.toArray ys) := by
      obtain ⟨o, nn, e, r⟩ := hacc'
      exact ⟨o, nn, hk₁ _ _ hDo e, r⟩
    have hDl : ∃ o, h₁.get? D = some o := by obtain ⟨o, _, e, _⟩ := hacc₁; exact ⟨o, e⟩
    have hol : ∀ b ∈ own, ∃ o, h₁.get? b = some o := S.alive _ _ hst₁
    have hF1 : Paired (fun i y => F i h₁ y) ((List.range i).filter p) ys := paired_mono (fun a b f => FExt _ _ _ _ f fun b o hb _ e => hk₁ b o hb e) hF
    refine wpAny_mono (tests i _ _ hlt hTg hol hDl hk1) (fun ok s₃ h₃ => ?_) fun _ _ e => e
    obtain ⟨rfl, h₃, tk₃, rfl, hk₃⟩ := h₃
    have hst₃ : St (i + 1) h₃ := S.frame _ _ _ hst₁ fun b _ o e => hk₃ b o e
    have hF3 : Paired (fun i y => F i h₃ y) ((List.range i).filter p) ys := paired_mono (fun a b f => FExt _ _ _ _ f fun b o hb _ e => hk₃ b o e) hF1
    have hacc₃ : PlainL h₃ D (List.toArray ys) := by
      obtain ⟨o, nn, e, r⟩ := hacc₁
      exact ⟨o, nn, hk₃ _ _ e, r⟩
    have hol3 : ∀ b ∈ own, ∃ o, h₃.get? b = some o := S.alive _ _ hst₃
    have hDl3 : ∃ o, h₃.get? D = some o := by obtain ⟨o, _, e, _⟩ := hacc₃; exact ⟨o, e⟩
    cases hpi : p i with
    | false =>
      simp only [Bool.false_eq_true, if_false]
      refine ⟨n + 1 - (i + 1), by omega, h₃, tk₃, i + 1, ys, rfl, hlt, rfl, hst₃, hacc₃, ?_, fun b o hb hd e => hk₃ b o (hk1 b o hb hd e)⟩
      rw [range_filter_succ, hpi]
      simpa using hF3
    | true =>
      simp only [if_true]
      refine wpAny_mono (elts i _ _ hlt hpi (S.tg _ _ _ hTg hk₃) hol3 hDl3 fun b o hb hd e => hk₃ b o (hk1 b o hb hd e)) (fun y s₄ h₄ => ?_) fun _ _ e => e
      obtain ⟨hFy, h₄, tk₄, rfl, hk₄⟩ := h₄
      have hacc₄ : PlainL h₄ D (List.toArray ys) := by
        obtain ⟨o, nn, e, r⟩ := hacc₃
        exact ⟨o, nn, hk₄ _ _ e, r⟩
      have hlen : ys.length ≤ n := by
        have e1 := hF.length
        have e2 := List.length_filter_le p (List.range i)
        rw [List.length_range] at e2
        omega
      refine list_append_plainL (hsz := by rw [List.size_toArray]; omega) hacc₄ fun h₅ hl₅ hs₅ => ?_
      have hk5 : ∀ b o, b ≠ D → h₄.get? b = some o → h₅.get? b = some o := fun b o hb e => hs₅.extBut b o hb e
      refine ⟨n + 1 - (i + 1), by omega, h₅, tk₄, i + 1, ys ++ [y], rfl, hlt, rfl, ?_, ?_, ?_, fun b o hb hd e => hk5 b o hd (hk₄ b o (hk₃ b o (hk1 b o hb hd e)))⟩
      · exact S.frame _ _ _ hst₃ fun b hb o e => hk5 b o (fun q => hDf (q ▸ hb)) (hk₄ b o e)
      · simpa using hl₅
      · rw [range_filter_succ, hpi]
        simp only [if_true]
        refine Paired.snoc ?_ ?_
        · exact paired_mono (fun a b f => FExt _ _ _ _ f fun b o hb hd e => hk5 b o hd (hk₄ b o e)) hF3
        · exact FExt _ _ _ _ hFy fun b o hb hd e => hk5 b o hd e
  · have hin : i = n := by omega
    subst hin
    refine S.fin _ _ _ hst' fun h₁ tk₁ hns hk₁ => ?_
    obtain ⟨m', hm'⟩ := hns
    refine hR h₁ tk₁ m' ys hm' ?_ (paired_mono (fun a b f => FExt _ _ _ _ f fun b o hb _ e => hk₁ b o hb e) hF) fun b o hb hd e => hk₁ b o hb (hk b o hb hd e)
    obtain ⟨o, nn, e, r⟩ := hacc'
    exact ⟨o, nn, hk₁ _ _ hDo e, r⟩
end
end
section
section
variable {M : Model} {A : Around} {E : Value → Shared → Prop} {s : Shared}
abbrev dictO : Obj := { cls := .type "dict", data := .dict #[] }
theorem newFunctionEnv_comp {scope : Scope} {globals : Addr} {cl : List (Str × Addr)} {qual : Str} {env : Env} {Q : Env → Shared → Prop}
    (hQ : Q (newEnv scope s.heap.objs.size globals (cellsFrom (s.heap.objs.size + 1) scope.names cl) qual none .none (some env) builtinsNs) { s with heap := pushCells (s.heap.push dictO) scope.names }) :
    wpAny M A (newFunctionEnv scope globals cl [] qual none .none (some env)) Q E s := by
  simp only [newFunctionEnv, Option.isSome_some, if_true]
  refine wpAny_bind (wpAny_alloc ?_)
  refine wpAny_bind (wpAny_layCells _ (fun name kind cells => by cases hkc : kind == NameKind.cell <;> simp [hkc]) _ _ _ _ ?_)
  rw [show ({ s with heap := s.heap.push { cls := .type "dict", data := .dict #[] } } : Shared).heap.objs.size = s.heap.objs.size + 1 from Heap.size_push ..]
  exact wpAny_bind (wpAny_pure (wpAny_pure hQ))
theorem cellsFrom_free {names : List (Str × NameKind)} (h : ∀ y ∈ names, y.2 ≠ .cell) : ∀ (n : Nat) (acc : List (Str × Addr)), cellsFrom n names acc = acc := by
  induction names with
  | nil => intro n acc; rfl
  | cons y r ih =>
    intro n acc
    obtain ⟨a, k⟩ := y
    have h1 : (k == NameKind.cell) = false := by simpa using h _ List.mem_cons_self
    simp only [cellsFrom, h1, Bool.false_eq_true, if_false]
    exact ih (fun y hy => h y (List.mem_cons_of_mem _ hy)) n acc
theorem pushCells_free {names : List (Str × NameKind)} (h : ∀ y ∈ names, y.2 ≠ .cell) : ∀ (hp : Heap), pushCells hp names = hp := by
  induction names with
  | nil => intro hp; rfl
  | cons y r ih =>
    intro hp
    obtain ⟨a, k⟩ := y
    have h1 : (k == NameKind.cell) = false := by simpa using h _ List.mem_cons_self
    simp only [pushCells, h1, Bool.false_eq_true, if_false]
    exact ih (fun y hy => h y (List.mem_cons_of_mem _ hy)) hp
end

abbrev listO : Obj := { cls := .type "list", dict := none, data := .seq ([] : List Value).toArray }
abbrev lcHeap (h : Heap) (scope : Scope) : Heap := pushCells ((h.push listO).push dictO) scope.names
abbrev lcEnv (scope : Scope) (cl : List (Str × Addr)) (h : Heap) (env : Env) : Env := compEnvC scope (cellsFrom (h.objs.size + 1 + 1) scope.names cl) (h.objs.size + 1) env

section
variable {prog : Program} {w : World} {A : Around} {E : Value → Shared → Prop}

def LcBody (prog : Program) (w : World) (A : Around) (E : Value → Shared → Prop) (env : Env) (cl : List (Str × Addr)) (elt : Expr) (gens : List Comprehension) (scope : Scope) (pos : Pos) (use : Option (Value → Sem Unit)) (Q : Value → Shared → Prop) (it : Value) (s₂ : Shared) : Prop :=
  wpAny (model prog w) A (newList []) (fun acc s₃ => wpAny (model prog w) A (newFunctionEnv scope env.globals cl [] env.qual none .none (some env)) (fun cenv s₄ =>
      codeAny (model prog w) A (.compStart (.ListComp elt gens scope pos) 0 it acc { cenv with scope := relabel scope env }) (compPost (model prog w) A E use Q acc cenv.locals) s₄) E s₃) E s₂

theorem lc_eval {s : Shared} {env : Env} {cl : List (Str × Addr)} {elt target iter : Expr} {ifs : List Expr} {rest : List Comprehension} {scope : Scope} {pos : Pos} {Q : Value → Shared → Prop}
    (hclos : closureFor scope env = pure cl) (hkind : scope.kind = .function) (hnames : ∀ y ∈ scope.names, y.2 = .local → scope.names.lookup y.1 = some .local)
    (h : wpAny (model prog w) A (eval iter env) (fun xv s₁ => wpAny (model prog w) A (pyIter xv) (LcBody prog w A E env cl elt (⟨target, iter, ifs, 0⟩ :: rest) scope pos none Q) E s₁) E s)
    (hs : ∀ x, foldedSetIterable iter env x = pure x := by intro _; rfl) :
    wpAny (model prog w) A (eval (.ListComp elt (⟨target, iter, ifs, 0⟩ :: rest) scope pos) env) Q E s := by
  rw [eval_ListComp]
  exact wpAny_comprehension_free (use := none) rfl hs hclos hkind hnames h

theorem lc_assign {s : Shared} {env : Env} {cl : List (Str × Addr)} {elt target iter : Expr} {ifs : List Expr} {rest : List Comprehension} {scope : Scope} {pos spos py : Pos} {y : Str} {Q : Flow → Shared → Prop}
    (hsw : swapsWith (.ListComp elt (⟨target, iter, ifs, 0⟩ :: rest) scope pos) (some (.Name y py)) spos.line env = pure true)
    (hclos : closureFor scope env = pure cl) (hkind : scope.kind = .function) (hnames : ∀ y ∈ scope.names, y.2 = .local → scope.names.lookup y.1 = some .local)
    (h : wpAny (model prog w) A (eval iter env) (fun xv s₁ => wpAny (model prog w) A (pyIter xv) (LcBody prog w A E env cl elt (⟨target, iter, ifs, 0⟩ :: rest) scope pos (some (assign (.Name y py) env)) (fun _ s' => Q .next s')) E s₁) E s)
    (hs : ∀ x, foldedSetIterable iter env x = pure x := by intro _; rfl) :
    wpAny (model prog w) A (exec (.Assign [.Name y py] (.ListComp elt (⟨target, iter, ifs, 0⟩ :: rest) scope pos) spos) env) Q E s := by
  rw [exec_Assign_Name_used _ _ _ _ hsw]
  refine wpAny_bind (wpAny_standAt (wpAny_bind ?_))
  show wpAny _ A (do let _ ← comprehension (.ListComp elt (⟨target, iter, ifs, 0⟩ :: rest) scope pos) scope env _ (newList []) false (eval iter env) (some (assign (.Name y py) env))) _ _ s
  exact wpAny_bind (wpAny_mono (wpAny_comprehension_free (use := some (assign (.Name y py) env)) (Q := fun _ s' => Q .next s') rfl hs hclos hkind hnames h) (fun _ s' hq => wpAny_pure (wpAny_pure hq)) fun _ _ e => e)

theorem fresh_none {h : Heap} {a : Addr} (e : h.objs.size ≤ a) : h.get? a = none := by
  cases q : h.get? a with
  | none => rfl
  | some o => exact absurd (Heap.lt_size q) (Nat.not_lt.mpr e)
theorem none_back {h h' : Heap} {a : Addr} (k : Ext h h') (e : h'.get? a = none) : h.get? a = none := by
  cases q : h.get? a with
  | none => rfl
  | some o => rw [k _ _ q] at e; cases e

/-- the region: what stood, or what the call made -/
abbrev Nw (P : Addr → Prop) (h : Heap) (a : Addr) : Prop := P a ∨ h.get? a = none

theorem Rd.fresh {P : Addr → Prop} {h h₁ h' : Heap} {v : Value} {d : PyData} (x : Rd (Nw P h₁) h' v d) (k : Ext h h₁) : Rd (Nw P h) h' v d :=
  x.mono fun _ e => e.imp id (none_back k)
theorem paired_rds {P : Addr → Prop} {h : Heap} {f : Nat → PyData} : ∀ {l : List Nat} {ys : List Value}, Paired (fun i y => Rd P h y (f i)) l ys → Rds P h ys (l.map f)
  | _, _, .nil => .nil
  | _, _, .cons a r => .cons a (paired_rds r)

/-- the comprehension's block, over what it draws -/
theorem lc_block {s s₂ : Shared} {env : Env} {cl : List (Str × Addr)} {elt target iter : Expr} {ifs : List Expr} {scope : Scope} {pos : Pos} {use : Option (Value → Sem Unit)} {Q : Value → Shared → Prop}
    {I : Addr} {n : Nat} {own fp : List Addr} {St Tg : Nat → Heap → Prop} {P : Addr → Prop}
    (S : Srcs prog w A I target (lcEnv scope cl s₂.heap env) n own fp St Tg) (p : Nat → Bool) (f : Nat → PyData)
    (k : Keeps s s₂) (hP : ∀ a, P a → ∃ o, s.heap.get? a = some o) (hown : ∀ b ∈ own, s.heap.get? b = none) (hC : s₂.heap.objs.size + 1 ∈ own)
    (hDf : s₂.heap.objs.size ∉ fp) (hn : n ≤ sizeLine) (hst : St 0 (lcHeap s₂.heap scope))
    (tests : ∀ i s₁ E', i < n → Tg i s₁.heap → Ext s.heap s₁.heap →
      wpAny (model prog w) A (Tests ifs (lcEnv scope cl s₂.heap env)) (fun ok s₂ => ok = p i ∧ Keeps s₁ s₂) E' s₁)
    (elts : ∀ i s₁ E', i < n → p i = true → Tg i s₁.heap → Ext s.heap s₁.heap →
      wpAny (model prog w) A (eval elt (lcEnv scope cl s₂.heap env)) (fun y s₂ => Rd (Nw P s₁.heap) s₂.heap y (f i) ∧ Keeps s₁ s₂) E' s₁)
    (post : ∀ s', Keeps s s' → (∃ m', s'.heap.Ns (s₂.heap.objs.size + 1) m') →
      Rd (fun a => Nw P s.heap a ∧ a ≠ s₂.heap.objs.size + 1) s'.heap (.ref s₂.heap.objs.size) (.list (((List.range n).filter p).map f)) →
      compPost (model prog w) A E use Q (.ref s₂.heap.objs.size) (s₂.heap.objs.size + 1) (.ok .next) s') :
    LcBody prog w A E env cl elt [⟨target, iter, ifs, 0⟩] scope pos use Q (.ref I) s₂ := by
  unfold LcBody
  refine wpAny_newObj_type (newFunctionEnv_comp ?_)
  dsimp only
  rw [show (s₂.heap.push { cls := .type "list", dict := none, data := .seq ([] : List Value).toArray }).objs.size = s₂.heap.objs.size + 1 from Heap.size_push ..]
  have hks := keeps_ext k
  have old : Ext s₂.heap (lcHeap s₂.heap scope) := fun b o e => pushCells_keeps _ _ b o (Heap.get?_push_of_some _ (Heap.get?_push_of_some _ e))
  have hacc : PlainL (lcHeap s₂.heap scope) s₂.heap.objs.size #[] := ⟨_, _, pushCells_keeps _ _ _ _ (Heap.get?_push_of_some _ (Heap.get?_push_size _ rfl)), rfl, rfl, rfl⟩
  have hD : s.heap.get? s₂.heap.objs.size = none := none_back hks (fresh_none (Nat.le_refl _))
  have hCn : s.heap.get? (s₂.heap.objs.size + 1) = none := hown _ hC
  have base : ∀ {h : Heap}, (∀ b o, b ∉ own → b ≠ s₂.heap.objs.size → (lcHeap s₂.heap scope).get? b = some o → h.get? b = some o) → Ext s.heap h := fun {h} x b o e =>
    x b o (fun hb => by rw [hown b hb] at e; cases e) (fun q => by rw [q, hD] at e; cases e) (old b o (hks b o e))
  have reg : ∀ {h : Heap}, Ext s.heap h → (∀ b ∈ own, ∃ o, h.get? b = some o) → (∃ o, h.get? s₂.heap.objs.size = some o) → ∀ a, Nw P h a → a ∉ own ∧ a ≠ s₂.heap.objs.size := fun {h} kh ho hd a ha => by
    rcases ha with ha | ha
    · obtain ⟨o, e⟩ := hP a ha
      exact ⟨fun hb => by (rw [hown a hb] at e; cases e), fun q => by (rw [q, hD] at e; cases e)⟩
    · refine ⟨fun hb => ?_, fun q => ?_⟩
      · obtain ⟨o, e⟩ := ho a hb
        rw [e] at ha; cases ha
      · obtain ⟨o, e⟩ := hd
        rw [q, e] at ha; cases ha
  have loop : ∀ s₃ : Shared, s₃ = { s₂ with heap := lcHeap s₂.heap scope } →
      codeAny (model prog w) A (.compLoop (.ListComp elt [⟨target, iter, ifs, 0⟩] scope pos) 0 (.ref I) (.ref s₂.heap.objs.size) (lcEnv scope cl s₂.heap env))
        (compPost (model prog w) A E use Q (.ref s₂.heap.objs.size) (s₂.heap.objs.size + 1)) s₃ := by
    rintro s₃ rfl
    refine lc_loop (cenv := lcEnv scope cl s₂.heap env) S p (fun i h y => Rd (fun a => (a ∉ own ∧ a ≠ s₂.heap.objs.size) ∧ Nw P s.heap a) h y (f i)) hDf hn hst hacc
      (fun i h h' y x kx => x.imp (fun _ q => q) fun b o _ _ q e _ => kx b o q.1.1 q.1.2 e)
      (fun i s₁ E' hi ht _ _ hb => tests i s₁ E' hi ht (base hb))
      (fun i s₁ E' hi hp ht ho hd hb => wpAny_mono (elts i s₁ E' hi hp ht (base hb)) (fun y s₄ h₄ => ⟨h₄.1.mono fun a q => ⟨reg (base hb) ho hd a q, q.imp id (none_back (base hb))⟩, h₄.2⟩) fun _ _ e => e) ?_
    intro h' tk m' ys hns hl hF hb
    have hk' : Keeps s { s₂ with heap := h', toks := tk } := by
      obtain ⟨h0, t0, rfl, _⟩ := k
      exact ⟨h', tk, rfl, base hb⟩
    have hDC : s₂.heap.objs.size ≠ s₂.heap.objs.size + 1 := Nat.ne_of_lt (Nat.lt_succ_self _)
    refine post _ hk' ⟨m', hns⟩ (Rd.of_list ⟨.inr hD, hDC⟩ hl ?_)
    exact (paired_rds hF).mono fun a q => ⟨q.2, fun z => q.1.1 (z ▸ hC)⟩
  exact codeAny_compStart_list (loop _ rfl) (S.self 0 _ _ _ hst (loop _ rfl))
end

/-! ## ends of a comprehension -/
section
variable {prog : Program} {w : World} {A : Around} {E : Value → Shared → Prop}
theorem lc_post_none {s s₂ s' : Shared} {P : Addr → Prop} {ds : List PyData} {Q : Value → Shared → Prop} (k : Keeps s s') (hCs : s.heap.get? (s₂.heap.objs.size + 1) = none) (hns : ∃ m', s'.heap.Ns (s₂.heap.objs.size + 1) m')
    (hr : Rd (fun a => Nw P s.heap a ∧ a ≠ s₂.heap.objs.size + 1) s'.heap (.ref s₂.heap.objs.size) (.list ds))
    (h : ∀ v s'', Keeps s s'' → Rd (Nw P s.heap) s''.heap v (.list ds) → Q v s'') :
    compPost (model prog w) A E none Q (.ref s₂.heap.objs.size) (s₂.heap.objs.size + 1) (.ok .next) s' := by
  obtain ⟨m', hm⟩ := hns
  refine ⟨m', hm, fun h' hs => h _ _ ?_ (hr.imp (fun _ q => q.1) fun b o _ _ q e _ => hs.extBut b o q.2 e)⟩
  obtain ⟨h0, t0, rfl, k0⟩ := k
  exact ⟨h', t0, rfl, fun b o e => hs.extBut b o (fun q => by rw [q, hCs] at e; cases e) (k0 b o e)⟩
theorem lc_post_local {s s₂ s' : Shared} {env : Env} {y : Str} {py : Pos} {P : Addr → Prop} {ds : List PyData} {Q : Flow → Shared → Prop} {m : Str → Option Value} (k : Keeps s s') (hCs : s.heap.get? (s₂.heap.objs.size + 1) = none) (hns : ∃ m', s'.heap.Ns (s₂.heap.objs.size + 1) m')
    (hr : Rd (fun a => Nw P s.heap a ∧ a ≠ s₂.heap.objs.size + 1) s'.heap (.ref s₂.heap.objs.size) (.list ds)) (hL : s.heap.Ns env.locals m)
    (hy : env.kindOf y = some .local) (hp : (env.scope.kind == .class || (env.scope.kind == .module && env.locals != env.globals)) = false)
    (h : ∀ v h' tk, h'.Ns env.locals (fun z => if z = y then some v else m z) → (∀ b o, b ≠ env.locals → s.heap.get? b = some o → h'.get? b = some o) → Rd (Nw P s.heap) h' v (.list ds) → Q .next { s with heap := h', toks := tk }) :
    compPost (model prog w) A E (some (assign (.Name y py) env)) (fun _ s' => Q .next s') (.ref s₂.heap.objs.size) (s₂.heap.objs.size + 1) (.ok .next) s' := by
  obtain ⟨m', hm⟩ := hns
  have hLC : env.locals ≠ s₂.heap.objs.size + 1 := fun q => by obtain ⟨o, _, _, ho, _⟩ := hL; rw [q, hCs] at ho; cases ho
  show wpAny _ A (assign (.Name y py) env (.ref s₂.heap.objs.size)) _ _ _
  obtain ⟨h0, t0, rfl, k0⟩ := k
  obtain ⟨oL, esL, epL, hoL, hdL, _, _⟩ := hL.keeps k0
  refine wpAny_assign_Name (wpAny_storeName_local hy (hL.keeps k0) (fun h₂ hn₂ hs₂ => ?_) hp)
  refine ⟨m', hm.sameBut hs₂ (Ne.symm hLC), fun h₃ hs₃ => h _ h₃ _ (hn₂.sameBut hs₃ hLC) (fun b o hb e => hs₃.extBut b o (fun q => by rw [q, hCs] at e; cases e) (hs₂.extBut b o hb (k0 b o e))) ?_⟩
  refine hr.imp (fun _ q => q.1) fun b o vs n q e hd => hs₃.extBut b o q.2 (hs₂.extBut b o (fun z => ?_) e)
  have e' : h0.get? b = some o := e
  rw [z, hoL] at e'
  cases e'
  rw [hdL] at hd
  cases hd
end
end
section
section
variable {prog : Program} {w : World} {A : Around}

theorem ns_at {h h' : Heap} {a : Addr} {m : Str → Option Value} (x : h.Ns a m) (k : ∀ o, h.get? a = some o → h'.get? a = some o) : h'.Ns a m :=
  let ⟨o, es, ep, e, r⟩ := x; ⟨o, es, ep, k _ e, r⟩
theorem ns_obj {h : Heap} {a : Addr} {m : Str → Option Value} (x : h.Ns a m) : ∃ o, h.get? a = some o := let ⟨o, _, _, e, _⟩ := x; ⟨o, e⟩

theorem srcs_name {I : Addr} {fpI wr : List Addr} {n : Nat} {P : Nat → Value → Prop} {St : Nat → Heap → Prop} {cenv : Env} {x : Str} {px : Pos}
    (W : Walks prog w A I fpI wr n P St) (al : ∀ i h, St i h → ∀ b ∈ wr, ∃ o, h.get? b = some o)
    (hx : cenv.kindOf x = some .local) (hp : (cenv.scope.kind == .class || (cenv.scope.kind == .module && cenv.locals != cenv.globals)) = false) (hC : cenv.locals ∉ fpI) :
    Srcs prog w A I (.Name x px) cenv n (cenv.locals :: wr) (cenv.locals :: fpI) (fun i h => St i h ∧ ∃ m, h.Ns cenv.locals m) (fun i h => ∃ m v, P i v ∧ h.Ns cenv.locals m ∧ m x = some v) where
  sub := fun b hb => by
    rcases List.mem_cons.mp hb with rfl | hb
    · exact List.mem_cons_self
    · exact List.mem_cons_of_mem _ (W.sub b hb)
  alive := fun i h st b hb => by
    rcases List.mem_cons.mp hb with rfl | hb
    · obtain ⟨m, hm⟩ := st.2; exact ns_obj hm
    · exact al i h st.1 b hb
  frame := fun i h h' st hk => ⟨W.frame i h h' st.1 fun b hb => hk b (List.mem_cons_of_mem _ hb), let ⟨m, hm⟩ := st.2; ⟨m, ns_at hm (hk _ List.mem_cons_self)⟩⟩
  tg := fun i h h' t k => let ⟨m, v, p, hm, e⟩ := t; ⟨m, v, p, hm.keeps k, e⟩
  ns := fun i h st => st.2
  self := fun i s Q E st hQ => W.self i s Q E st.1 hQ
  step := fun i s Q G E hi st hG hQ => by
    obtain ⟨st, m, hm⟩ := st
    refine W.item i s _ _ hi st fun v h' tk pv st' hk => hG v _ ?_
    refine wpAny_of_eq (show letOwnedTupleGo (.Name x px) (.ref I) v = pure () from rfl) ?_
    have hCw : cenv.locals ∉ wr := fun h => hC (W.sub _ h)
    refine wpAny_assign_Name (wpAny_storeName_local hx (ns_at hm fun o e => hk _ o hCw e) (fun h₂ hn₂ hs₂ => ?_) hp)
    refine hQ h₂ _ ⟨W.frame _ _ _ st' fun b hb o e => hs₂.extBut b o (fun q => hC (q ▸ hb)) e, _, hn₂⟩ ⟨_, v, pv, hn₂, by simp⟩ fun b o hb e => ?_
    exact hs₂.extBut b o (fun q => hb (q ▸ List.mem_cons_self)) (hk b o (fun q => hb (List.mem_cons_of_mem _ q)) e)
  fin := fun s Q E st hQ => by
    obtain ⟨st, m, hm⟩ := st
    have hCw : cenv.locals ∉ wr := fun h => hC (W.sub _ h)
    exact W.done s Q E st fun h' tk hk => hQ h' tk ⟨m, ns_at hm fun o e => hk _ o hCw e⟩ fun b o hb e => hk b o (fun q => hb (List.mem_cons_of_mem _ q)) e

/-- the target is a cell of the comprehension's own -/
theorem srcs_cell {I c : Addr} {fpI wr : List Addr} {n : Nat} {P : Nat → Value → Prop} {St : Nat → Heap → Prop} {cenv : Env} {x : Str} {px : Pos}
    (W : Walks prog w A I fpI wr n P St) (al : ∀ i h, St i h → ∀ b ∈ wr, ∃ o, h.get? b = some o)
    (hk : cenv.scope.kind = .function) (hx : cenv.kindOf x = some .cell) (hc : cenv.cells.lookup x = some c) (hC : cenv.locals ∉ fpI) (hcf : c ∉ fpI) (hcC : c ≠ cenv.locals) :
    Srcs prog w A I (.Name x px) cenv n (cenv.locals :: c :: wr) (cenv.locals :: c :: fpI) (fun i h => St i h ∧ (∃ m, h.Ns cenv.locals m) ∧ ∃ v, h.IsCell c v) (fun i h => ∃ m v, P i v ∧ h.Ns cenv.locals m ∧ h.IsCell c (some v)) where
  sub := fun b hb => by
    rcases List.mem_cons.mp hb with rfl | hb
    · exact List.mem_cons_self
    · rcases List.mem_cons.mp hb with rfl | hb
      · exact List.mem_cons_of_mem _ List.mem_cons_self
      · exact List.mem_cons_of_mem _ (List.mem_cons_of_mem _ (W.sub b hb))
  alive := fun i h st b hb => by
    rcases List.mem_cons.mp hb with rfl | hb
    · obtain ⟨m, hm⟩ := st.2.1; exact ns_obj hm
    · rcases List.mem_cons.mp hb with rfl | hb
      · obtain ⟨v, o, e, _⟩ := st.2.2; exact ⟨o, e⟩
      · exact al i h st.1 b hb
  frame := fun i h h' st hk => ⟨W.frame i h h' st.1 fun b hb => hk b (List.mem_cons_of_mem _ (List.mem_cons_of_mem _ hb)), let ⟨m, hm⟩ := st.2.1; ⟨m, ns_at hm (hk _ List.mem_cons_self)⟩,
    let ⟨v, o, e, d⟩ := st.2.2; ⟨v, o, hk _ (List.mem_cons_of_mem _ List.mem_cons_self) _ e, d⟩⟩
  tg := fun i h h' t k => let ⟨m, v, p, hm, e⟩ := t; ⟨m, v, p, hm.keeps k, e.keeps k⟩
  ns := fun i h st => st.2.1
  self := fun i s Q E st hQ => W.self i s Q E st.1 hQ
  step := fun i s Q G E hi st hG hQ => by
    obtain ⟨st, ⟨m, hm⟩, v₀, hv₀⟩ := st
    refine W.item i s _ _ hi st fun v h' tk pv st' hk' => hG v _ ?_
    refine wpAny_of_eq (show letOwnedTupleGo (.Name x px) (.ref I) v = pure () from rfl) ?_
    have hCw : cenv.locals ∉ wr := fun h => hC (W.sub _ h)
    have hcw : c ∉ wr := fun h => hcf (W.sub _ h)
    obtain ⟨o₀, e₀, d₀⟩ := hv₀
    refine wpAny_assign_Name (wpAny_storeName_cell hk hx hc ⟨o₀, hk' _ _ hcw e₀, d₀⟩ fun h₂ hn₂ hs₂ => ?_)
    have hm₂ : h₂.Ns cenv.locals m := ns_at hm fun o e => hs₂.extBut _ o (Ne.symm hcC) (hk' _ o hCw e)
    refine hQ h₂ _ ⟨W.frame _ _ _ st' fun b hb o e => hs₂.extBut b o (fun q => hcf (q ▸ hb)) e, ⟨m, hm₂⟩, _, hn₂⟩ ⟨m, v, pv, hm₂, hn₂⟩ fun b o hb e => ?_
    exact hs₂.extBut b o (fun q => hb (q ▸ List.mem_cons_of_mem _ List.mem_cons_self)) (hk' b o (fun q => hb (List.mem_cons_of_mem _ (List.mem_cons_of_mem _ q))) e)
  fin := fun s Q E st hQ => by
    obtain ⟨st, ⟨m, hm⟩, _⟩ := st
    have hCw : cenv.locals ∉ wr := fun h => hC (W.sub _ h)
    exact W.done s Q E st fun h' tk hk => hQ h' tk ⟨m, ns_at hm fun o e => hk _ o hCw e⟩ fun b o hb e => hk b o (fun q => hb (List.mem_cons_of_mem _ (List.mem_cons_of_mem _ q))) e

theorem two_names {cenv : Env} {x y : Str} {px py : Pos} {v₁ v₂ : Value} {m : Str → Option Value} {s : Shared} {Q : Unit → Shared → Prop} {E : Value → Shared → Prop} (hm : s.heap.Ns cenv.locals m)
    (hx : cenv.kindOf x = some .local) (hy : cenv.kindOf y = some .local) (hxy : x ≠ y) (hp : (cenv.scope.kind == .class || (cenv.scope.kind == .module && cenv.locals != cenv.globals)) = false)
    (h : ∀ h' m', h'.Ns cenv.locals m' → m' x = some v₁ → m' y = some v₂ → Heap.SameBut cenv.locals s.heap h' → Q () { s with heap := h', toks := s.toks + 1 + 1 }) :
    wpAny (model prog w) A (assignInOrder ((assignEach [.Name x px, .Name y py] cenv).map (·.2)) [v₁, v₂]) Q E s := by
  refine assignInOrder_cons (wpAny_assign_Name (wpAny_storeName_local hx hm (fun h₆ hn₆ hs₆ => ?_) hp))
  refine assignInOrder_cons (wpAny_assign_Name (wpAny_storeName_local hy hn₆ (fun h₃ hn₃ hs₃ => ?_) hp))
  exact assignInOrder_nil (h h₃ _ hn₃ (by simp [hxy]) (by simp) (hs₆.trans hs₃))

theorem srcs_pair {I : Addr} {fpI wr : List Addr} {n : Nat} {Pt : Nat → Array Value → Prop} {St : Nat → Heap → Prop} {Mid : Nat → Addr → Heap → Prop} {cenv : Env} {x y : Str} {px py pt : Pos} {kt : Nat}
    (hh : A.handled = none) (W : WalksU prog w A I fpI wr n Pt St Mid) (al : ∀ i h, St i h → ∀ b ∈ fpI, ∃ o, h.get? b = some o) (h2 : ∀ i vals, Pt i vals → ∃ v₁ v₂, vals = #[v₁, v₂])
    (hx : cenv.kindOf x = some .local) (hy : cenv.kindOf y = some .local) (hxy : x ≠ y) (hp : (cenv.scope.kind == .class || (cenv.scope.kind == .module && cenv.locals != cenv.globals)) = false) (hC : cenv.locals ∉ fpI) :
    Srcs prog w A I (.Tuple [.Name x px, .Name y py] kt pt) cenv n (cenv.locals :: wr) (cenv.locals :: fpI) (fun i h => St i h ∧ ∃ m, h.Ns cenv.locals m)
      (fun i h => ∃ m v₁ v₂, Pt i #[v₁, v₂] ∧ h.Ns cenv.locals m ∧ m x = some v₁ ∧ m y = some v₂) where
  sub := fun b hb => by
    rcases List.mem_cons.mp hb with rfl | hb
    · exact List.mem_cons_self
    · exact List.mem_cons_of_mem _ (W.sub b hb)
  alive := fun i h st b hb => by
    rcases List.mem_cons.mp hb with rfl | hb
    · obtain ⟨m, hm⟩ := st.2; exact ns_obj hm
    · exact al i h st.1 b (W.sub b hb)
  frame := fun i h h' st hk => ⟨W.frame i h h' st.1 fun b hb => hk b (List.mem_cons_of_mem _ hb), let ⟨m, hm⟩ := st.2; ⟨m, ns_at hm (hk _ List.mem_cons_self)⟩⟩
  tg := fun i h h' t k => let ⟨m, v₁, v₂, p, hm, e⟩ := t; ⟨m, v₁, v₂, p, hm.keeps k, e⟩
  ns := fun i h st => st.2
  self := fun i s Q E st hQ => W.self i s Q E st.1 hQ
  step := fun i s Q G E hi st hG hQ => by
    obtain ⟨st, m, hm⟩ := st
    refine W.item i s _ _ hi st fun T vals h' tk pv hT mid hk => hG (.ref T) _ ?_
    have hCw : cenv.locals ∉ wr := fun h => hC (W.sub _ h)
    have hTw : T ∉ wr := W.apart _ _ _ mid
    obtain ⟨v₁, v₂, rfl⟩ := h2 _ _ pv
    refine W.go _ _ _ i T _ _ _ mid fun h₂ st₂ hk₂ => ?_
    have hT₂ : IsTup h₂ T #[v₁, v₂] := by
      obtain ⟨o, e, c, nn, d⟩ := hT
      exact ⟨o, hk₂ _ _ hTw e, c, nn, d⟩
    refine assign_Tuple_tuple hh hT₂ rfl rfl fun h₃ he₃ => ?_
    have k₃ : Ext h₂ h₃ := fun b o e => he₃ b o (Nat.ne_of_lt (Heap.lt_size e)) e
    have hm₃ : h₃.Ns cenv.locals m := ns_at hm fun o e => k₃ _ o (hk₂ _ o hCw (hk _ o hCw e))
    refine two_names hm₃ hx hy hxy hp fun h₄ m₄ hm₄ e₁ e₂ hs₄ => ?_
    refine hQ h₄ _ ⟨W.frame _ _ _ st₂ fun b hb o e => hs₄.extBut b o (fun q => hC (q ▸ hb)) (k₃ _ _ e), m₄, hm₄⟩ ⟨m₄, v₁, v₂, pv, hm₄, e₁, e₂⟩ fun b o hb e => ?_
    have hbw : b ∉ wr := fun q => hb (List.mem_cons_of_mem _ q)
    exact hs₄.extBut b o (fun q => hb (q ▸ List.mem_cons_self)) (k₃ _ _ (hk₂ b o hbw (hk b o hbw e)))
  fin := fun s Q E st hQ => by
    obtain ⟨st, m, hm⟩ := st
    have hCw : cenv.locals ∉ wr := fun h => hC (W.sub _ h)
    exact W.done s Q E st fun h' tk hk => hQ h' tk ⟨m, ns_at hm fun o e => hk _ o hCw e⟩ fun b o hb e => hk b o (fun q => hb (List.mem_cons_of_mem _ q)) e
end
end
section
section
variable {prog : Program} {w : World} {A : Around} {E : Value → Shared → Prop} {s : Shared}

theorem draw_list {it t : Addr} {items : Array Value} (hne : t ≠ it) : ∀ (n i : Nat) (s : Shared) (Q : List Value → Shared → Prop), s.heap.IsListIter it t i → s.heap.IsList t items → i + n ≤ items.size →
    (∀ h', h'.IsListIter it t (i + n) → Heap.SameBut it s.heap h' → Q ((items.toList.drop i).take n) { s with heap := h' }) → wpAny (model prog w) A (draw (.ref it) n) Q E s
  | 0, i, s, Q, hit, _, _, hQ => by
    show wpAny _ _ (pure []) Q E s
    exact wpAny_pure (by simpa using hQ s.heap hit (Heap.SameBut.refl ..))
  | n + 1, i, s, Q, hit, ht, hle, hQ => by
    have hlt : i < items.size := by omega
    show wpAny _ _ (pyNext (.ref it) >>= _) Q E s
    refine wpAny_bind (wpAny_pyNext_list_item hit ht (x := items[i]) (by simp [hlt]) fun h₁ hit₁ hs₁ => ?_)
    refine wpAny_bind (wpAny_holding (draw_list hne n (i + 1) _ _ hit₁ (ht.extBut hs₁.extBut hne) (by omega) fun h₂ hit₂ hs₂ => wpAny_pure ?_))
    have hd : items.toList.drop i = items[i] :: items.toList.drop (i + 1) := by simp [List.drop_eq_getElem_cons, hlt]
    have := hQ h₂ (by rw [show i + (n + 1) = i + 1 + n by omega]; exact hit₂) (hs₁.trans hs₂)
    rw [hd, List.take_succ_cons] at this
    exact this

theorem unpackItems_list {t : Addr} {items : Array Value} {Q : List Value → Shared → Prop} (hh : A.handled = none) (ht : s.heap.IsList t items)
    (hQ : ∀ h', Heap.ExtBut s.heap.objs.size s.heap h' → Q items.toList { s with heap := h' }) : wpAny (model prog w) A (unpackItems (.ref t) items.size none) Q E s := by
  have hlt : t ≠ s.heap.objs.size := by obtain ⟨o, ho, _⟩ := ht; exact Nat.ne_of_lt (Heap.lt_size ho)
  unfold unpackItems
  refine wpAny_bind ?_
  · unfold notIterableAtAll
    refine wpAny_bind (wpAny_specialOf ht.typeIs slot_list_iter.lookup ?_)
    refine wpAny_pure ?_
    simp only [Bool.false_eq_true, if_false]
    refine wpAny_bind (wpAny_holding (wpAny_pyIter_list ht ?_))
    refine wpAny_bind (wpAny_holding (draw_list hlt items.size 0 _ _ ⟨_, Heap.get?_push_size _ rfl, rfl, rfl⟩ (ht.push _) (by omega) fun h₁ hit₁ hs₁ => ?_))
    have hall : List.take items.size (List.drop 0 items.toList) = items.toList := by
      rw [List.drop_zero]; exact List.take_of_length_le (by simp)
    rw [hall]
    rw [if_neg (by simp)]
    have ht₁ : h₁.IsList t items := (ht.push _).extBut hs₁.extBut hlt
    refine wpAny_bind (wpAny_holding (wpAny_pyNext_list_end hh hit₁ ht₁ (by simp) fun h₂ he₂ => ?_))
    simp only [Option.isSome_none, Bool.false_eq_true, if_false]
    refine wpAny_pure (hQ h₂ fun b o hb e => he₂ b o hb (hs₁.extBut b o hb (Heap.get?_push_of_some _ e)))

theorem assign_Tuple_list {env : Env} {elts : List Expr} {x1} {pos : Pos} {t : Addr} {items : Array Value} {Q : Unit → Shared → Prop} (hh : A.handled = none) (ht : s.heap.IsList t items)
    (hn : (assignEach elts env).length = items.size) (hstar : (assignEach elts env).findIdx? (·.1) = none)
    (h : ∀ h', Heap.ExtBut s.heap.objs.size s.heap h' → wpAny (model prog w) A (assignInOrder ((assignEach elts env).map (·.2)) items.toList) Q E { s with heap := h' }) :
    wpAny (model prog w) A (assign (.Tuple elts x1 pos) env (.ref t)) Q E s := by
  rw [assign_Tuple]
  refine wpAny_bind (wpAny_standAt ?_)
  unfold unpack
  rw [hn, hstar]
  exact wpAny_bind (wpAny_holding (unpackItems_list hh ht h))

/-- a list whose items are lists of two -/
theorem srcs_lists {I ax : Addr} {items : Array Value} {Ts : Nat → Addr} {a b : Nat → Value} {cenv : Env} {x y : Str} {px py pt : Pos} {kt : Nat}
    (hh : A.handled = none) (hit : ∀ j, j < items.size → items[j]? = some (.ref (Ts j))) (hTI : ∀ j, j < items.size → Ts j ≠ I) (hTC : ∀ j, j < items.size → Ts j ≠ cenv.locals) (hne : ax ≠ I) (hnC : ax ≠ cenv.locals) (hIC : I ≠ cenv.locals)
    (hx : cenv.kindOf x = some .local) (hy : cenv.kindOf y = some .local) (hxy : x ≠ y) (hp : (cenv.scope.kind == .class || (cenv.scope.kind == .module && cenv.locals != cenv.globals)) = false) :
    Srcs prog w A I (.Tuple [.Name x px, .Name y py] kt pt) cenv items.size [cenv.locals, I] (cenv.locals :: I :: ax :: (List.range items.size).map Ts)
      (fun i h => (h.IsListIter I ax i ∧ h.IsList ax items ∧ ∀ k, k < items.size → h.IsList (Ts k) #[a k, b k]) ∧ ∃ m, h.Ns cenv.locals m)
      (fun i h => ∃ m, h.Ns cenv.locals m ∧ m x = some (a i) ∧ m y = some (b i)) where
  sub := fun c hc => by simp at hc ⊢; rcases hc with rfl | rfl <;> simp
  alive := fun i h st c hc => by
    simp at hc
    rcases hc with rfl | rfl
    · obtain ⟨m, hm⟩ := st.2; exact ns_obj hm
    · obtain ⟨o, e, _⟩ := st.1.1; exact ⟨o, e⟩
  frame := fun i h h' st hk => ⟨⟨st.1.1.at fun o e => hk I (by simp) o e, st.1.2.1.at fun o e => hk ax (by simp) o e,
    fun k hk' => (st.1.2.2 k hk').at fun o e => hk (Ts k) (by
      refine List.mem_cons_of_mem _ (List.mem_cons_of_mem _ (List.mem_cons_of_mem _ (List.mem_map.mpr ⟨k, List.mem_range.mpr hk', rfl⟩)))) o e⟩, let ⟨m, hm⟩ := st.2; ⟨m, ns_at hm (hk _ List.mem_cons_self)⟩⟩
  tg := fun i h h' t k => let ⟨m, hm, e⟩ := t; ⟨m, hm.keeps k, e⟩
  ns := fun i h st => st.2
  self := fun i s Q E st hQ => wpAny_pyIter_listiter st.1.1 hQ
  step := fun i s Q G E hi st hG hQ => by
    obtain ⟨⟨hI, hl, hT⟩, m, hm⟩ := st
    refine wpAny_pyNext_list_item hI hl (x := .ref (Ts i)) (hit i hi) fun h' hI' hs' => hG (.ref (Ts i)) _ ?_
    refine wpAny_letOwnedTupleGo_listiter hI' ?_
    have hT' : ∀ k, k < items.size → h'.IsList (Ts k) #[a k, b k] := fun k hk => (hT k hk).extBut hs'.extBut (hTI k hk)
    refine assign_Tuple_list hh (hT' i hi) rfl rfl fun h₃ he₃ => ?_
    have k₃ : Ext h' h₃ := fun b o e => he₃ b o (Nat.ne_of_lt (Heap.lt_size e)) e
    have hm₃ : h₃.Ns cenv.locals m := ns_at hm fun o e => k₃ _ o (hs'.extBut _ o (Ne.symm hIC) e)
    refine two_names hm₃ hx hy hxy hp fun h₄ m₄ hm₄ e₁ e₂ hs₄ => ?_
    refine hQ h₄ _ ⟨⟨?_, ?_, fun k hk => ?_⟩, m₄, hm₄⟩ ⟨m₄, hm₄, e₁, e₂⟩ fun b o hb e => ?_
    · exact (hI'.at fun o e => k₃ _ o e).extBut hs₄.extBut hIC
    · exact ((hl.extBut hs'.extBut hne).at fun o e => k₃ _ o e).extBut hs₄.extBut hnC
    · exact ((hT' k hk).at fun o e => k₃ _ o e).extBut hs₄.extBut (hTC k hk)
    · simp at hb
      exact hs₄.extBut b o hb.1 (k₃ _ _ (hs'.extBut b o hb.2 e))
  fin := fun s Q E st hQ => by
    obtain ⟨⟨hI, hl, hT⟩, m, hm⟩ := st
    refine wpAny_pyNext_list_end hh hI hl (by simp) fun h' he => hQ h' s.toks ⟨m, ns_at hm fun o e => he _ o (Ne.symm hIC) e⟩ fun b o hb e => he b o (fun q => hb (by simp [q])) e
end

/-! ## comprehensions over the common sources -/
section
variable {prog : Program} {w : World} {A : Around} {E : Value → Shared → Prop}

theorem not_mem2 {a b c : Addr} (h1 : a ≠ b) (h2 : a ≠ c) : a ∉ [b, c] := fun h => by
  rcases List.mem_cons.mp h with h | h
  · exact h1 h
  · exact h2 (List.mem_singleton.mp h)
theorem not_mem3 {a b c d : Addr} (h0 : a ≠ d) (h1 : a ≠ b) (h2 : a ≠ c) : a ∉ [d, b, c] := fun h => by
  rcases List.mem_cons.mp h with h | h
  · exact h0 h
  · exact not_mem2 h1 h2 h
theorem lcHeap_old {h : Heap} {scope : Scope} : Ext h (lcHeap h scope) := fun b o e => pushCells_keeps _ _ b o (Heap.get?_push_of_some _ (Heap.get?_push_of_some _ e))
theorem lcHeap_ns {h : Heap} {scope : Scope} : ∃ m, (lcHeap h scope).Ns (h.objs.size + 1) m := by
  refine ⟨fun _ => none, ?_⟩
  have e : (h.push listO).objs.size = h.objs.size + 1 := Heap.size_push ..
  have x := (Heap.Ns.new (h.push listO) (.type "dict")).keeps (h' := lcHeap h scope) (pushCells_keeps _ _)
  rw [e] at x
  exact x

/-- over a list that stands, one name -/
theorem lc_list {s s₁ : Shared} {env : Env} {cl : List (Str × Addr)} {elt iter : Expr} {x : Str} {px : Pos} {ifs : List Expr} {scope : Scope} {pos : Pos} {use : Option (Value → Sem Unit)} {Q : Value → Shared → Prop}
    {ax : Addr} {items : List Value} {P : Addr → Prop} (p : Nat → Bool) (f : Nat → PyData)
    (hh : A.handled = none) (k : Keeps s s₁) (hl : s₁.heap.IsList ax items.toArray) (hn : items.length ≤ sizeLine) (hP : ∀ a, P a → ∃ o, s.heap.get? a = some o)
    (hcell : ∀ y ∈ scope.names, y.2 ≠ .cell) (hkind : scope.kind = .function) (hx : scope.names.lookup x = some .local)
    (tests : ∀ C i v s₁ m E', items[i]? = some v → Ext s.heap s₁.heap → s₁.heap.Ns C m → m x = some v →
      wpAny (model prog w) A (Tests ifs (compEnvC scope cl C env)) (fun ok s₂ => ok = p i ∧ Keeps s₁ s₂) E' s₁)
    (elts : ∀ C i v s₁ m E', items[i]? = some v → p i = true → Ext s.heap s₁.heap → s₁.heap.Ns C m → m x = some v →
      wpAny (model prog w) A (eval elt (compEnvC scope cl C env)) (fun y s₂ => Rd (Nw P s₁.heap) s₂.heap y (f i) ∧ Keeps s₁ s₂) E' s₁)
    (post : ∀ s₂ s' : Shared, Keeps s s' → s.heap.get? (s₂.heap.objs.size + 1) = none → (∃ m', s'.heap.Ns (s₂.heap.objs.size + 1) m') →
      Rd (fun a => Nw P s.heap a ∧ a ≠ s₂.heap.objs.size + 1) s'.heap (.ref s₂.heap.objs.size) (.list (((List.range items.length).filter p).map f)) →
      compPost (model prog w) A E use Q (.ref s₂.heap.objs.size) (s₂.heap.objs.size + 1) (.ok .next) s') :
    wpAny (model prog w) A (pyIter (.ref ax)) (LcBody prog w A E env cl elt [⟨.Name x px, iter, ifs, 0⟩] scope pos use Q) E s₁ := by
  refine wpAny_pyIter_list hl ?_
  have hks := keeps_ext k
  have hax : ax < s₁.heap.objs.size := by obtain ⟨o, e, _⟩ := hl; exact Heap.lt_size e
  have W := Walks.list (prog := prog) (w := w) hh s₁.heap.objs.size ax (Nat.ne_of_lt hax) items.toArray
  let s₂ : Shared := { s₁ with heap := s₁.heap.push { cls := .type "list_iterator", data := .fields #[.ref ax, .int 0 0] } }
  have k₁₂ : Ext s₁.heap s₂.heap := Ext.push _ _
  have k₂ : Keeps s s₂ := keeps_trans k ⟨_, s₁.toks, rfl, k₁₂⟩
  have hsz : s₂.heap.objs.size = s₁.heap.objs.size + 1 := Heap.size_push ..
  have e0 : cellsFrom (s₂.heap.objs.size + 1 + 1) scope.names cl = cl := cellsFrom_free hcell _ _
  have eE : lcEnv scope cl s₂.heap env = compEnvC scope cl (s₂.heap.objs.size + 1) env := by unfold lcEnv; rw [e0]
  have hlen : items.toArray.size = items.length := List.size_toArray
  have hCn : s.heap.get? (s₂.heap.objs.size + 1) = none := none_back (keeps_ext k₂) (fresh_none (Nat.le_succ _))
  have Sx := srcs_name (cenv := compEnvC scope cl (s₂.heap.objs.size + 1) env) (x := x) (px := px) W (fun i h st b hb => by
      simp at hb; subst hb; obtain ⟨o, e, _⟩ := st.1; exact ⟨o, e⟩) (lookup_relabel_local hx) (by simp [compEnvC, relabel, hkind]) (by
      show s₂.heap.objs.size + 1 ∉ [s₁.heap.objs.size, ax]
      rw [hsz]
      exact not_mem2 (Nat.ne_of_gt (Nat.lt_succ_of_lt (Nat.lt_succ_self _))) (Nat.ne_of_gt (Nat.lt_succ_of_lt (Nat.lt_succ_of_lt hax))))
  rw [hlen] at Sx
  rw [← eE] at Sx
  refine lc_block (s := s) (s₂ := s₂) Sx p f k₂ hP (fun b hb => ?_) List.mem_cons_self ?_ hn ⟨⟨?_, ?_⟩, lcHeap_ns⟩ (fun i s₃ E' hi ht kx => ?_) (fun i s₃ E' hi hp ht kx => ?_) (fun s' k' hns hr => post s₂ s' k' hCn hns hr)
  · rcases List.mem_cons.mp hb with rfl | hb
    · exact hCn
    · rw [List.mem_singleton.mp hb]; exact none_back hks (fresh_none (Nat.le_refl _))
  · show s₂.heap.objs.size ∉ [s₂.heap.objs.size + 1, s₁.heap.objs.size, ax]
    rw [hsz]
    exact not_mem3 (Nat.ne_of_lt (Nat.lt_succ_self _)) (Nat.ne_of_gt (Nat.lt_succ_self _)) (Nat.ne_of_gt (Nat.lt_succ_of_lt hax))
  · exact ⟨_, lcHeap_old _ _ (Heap.get?_push_size _ rfl), rfl, rfl⟩
  · exact (hl.push _).at fun o e => lcHeap_old _ _ e
  · obtain ⟨m, v, e, hm, hv⟩ := ht
    rw [eE]
    exact tests _ i v s₃ m E' (by simpa using e) kx hm hv
  · obtain ⟨m, v, e, hm, hv⟩ := ht
    rw [eE]
    exact elts _ i v s₃ m E' (by simpa using e) hp kx hm hv
end
end
section
section
variable {prog : Program} {w : World} {A : Around} {E : Value → Shared → Prop}

/-- over range(n), one name -/
theorem lc_range {s s₁ : Shared} {env : Env} {cl : List (Str × Addr)} {elt iter : Expr} {x : Str} {px : Pos} {ifs : List Expr} {scope : Scope} {pos : Pos} {use : Option (Value → Sem Unit)} {Q : Value → Shared → Prop}
    {r : Addr} {n : Nat} {t u v : Tok} {P : Addr → Prop} (p : Nat → Bool) (f : Nat → PyData)
    (hh : A.handled = none) (k : Keeps s s₁) (hr : IsRange s₁.heap r 0 n 1 t u v) (hn : n ≤ sizeLine) (hP : ∀ a, P a → ∃ o, s.heap.get? a = some o)
    (hcell : ∀ y ∈ scope.names, y.2 ≠ .cell) (hkind : scope.kind = .function) (hx : scope.names.lookup x = some .local)
    (tests : ∀ C i t s₁ m E', i < n → Ext s.heap s₁.heap → s₁.heap.Ns C m → m x = some (.int (i : Nat) t) →
      wpAny (model prog w) A (Tests ifs (compEnvC scope cl C env)) (fun ok s₂ => ok = p i ∧ Keeps s₁ s₂) E' s₁)
    (elts : ∀ C i t s₁ m E', i < n → p i = true → Ext s.heap s₁.heap → s₁.heap.Ns C m → m x = some (.int (i : Nat) t) →
      wpAny (model prog w) A (eval elt (compEnvC scope cl C env)) (fun y s₂ => Rd (Nw P s₁.heap) s₂.heap y (f i) ∧ Keeps s₁ s₂) E' s₁)
    (post : ∀ s₂ s' : Shared, Keeps s s' → s.heap.get? (s₂.heap.objs.size + 1) = none → (∃ m', s'.heap.Ns (s₂.heap.objs.size + 1) m') →
      Rd (fun a => Nw P s.heap a ∧ a ≠ s₂.heap.objs.size + 1) s'.heap (.ref s₂.heap.objs.size) (.list (((List.range n).filter p).map f)) →
      compPost (model prog w) A E use Q (.ref s₂.heap.objs.size) (s₂.heap.objs.size + 1) (.ok .next) s') :
    wpAny (model prog w) A (pyIter (.ref r)) (LcBody prog w A E env cl elt [⟨.Name x px, iter, ifs, 0⟩] scope pos use Q) E s₁ := by
  have hsz1 : Builtin.Range.rangeSize 0 (n : Int) 1 = (n : Int) := by
    rw [rangeSize_one]
    split <;> omega
  have hn' : (n : Int) ≤ 2 ^ 24 := by have := hn; unfold sizeLine at this; omega
  have hsm : Builtin.Range.small 0 (n : Int) 1 = true := by
    unfold Builtin.Range.small Builtin.Range.rangeFitsLong
    rw [hsz1]
    simp only [Int.reduceGT, if_true, Bool.and_eq_true, Bool.or_eq_true, decide_eq_true_eq, beq_iff_eq]
    refine ⟨⟨⟨⟨?_, ?_⟩, ?_⟩, ?_⟩, ?_⟩
    all_goals first | (constructor <;> omega) | omega | (right; constructor <;> omega) | (right; omega)
  refine wpAny_pyIter_range hr hsm ?_
  have hks := keeps_ext k
  have W := Walks.range (prog := prog) (w := w) hh s₁.heap.objs.size 0 1 n
  let s₂ : Shared := { s₁ with heap := s₁.heap.push { cls := .type "range_iterator", data := .fields #[rawInt 0, rawInt (Builtin.Range.rangeSize 0 n 1), rawInt 1] } }
  have k₁₂ : Ext s₁.heap s₂.heap := Ext.push _ _
  have k₂ : Keeps s s₂ := keeps_trans k ⟨_, s₁.toks, rfl, k₁₂⟩
  have hsz : s₂.heap.objs.size = s₁.heap.objs.size + 1 := Heap.size_push ..
  have e0 : cellsFrom (s₂.heap.objs.size + 1 + 1) scope.names cl = cl := cellsFrom_free hcell _ _
  have eE : lcEnv scope cl s₂.heap env = compEnvC scope cl (s₂.heap.objs.size + 1) env := by unfold lcEnv; rw [e0]
  have hCn : s.heap.get? (s₂.heap.objs.size + 1) = none := none_back (keeps_ext k₂) (fresh_none (Nat.le_succ _))
  have Sx := srcs_name (cenv := compEnvC scope cl (s₂.heap.objs.size + 1) env) (x := x) (px := px) W (fun i h st b hb => by
      rw [List.mem_singleton.mp hb]; exact ⟨_, st⟩) (lookup_relabel_local hx) (by simp [compEnvC, relabel, hkind]) (by
      show s₂.heap.objs.size + 1 ∉ [s₁.heap.objs.size]
      rw [hsz]
      exact fun h => absurd (List.mem_singleton.mp h) (Nat.ne_of_gt (Nat.lt_succ_of_lt (Nat.lt_succ_self _))))
  rw [← eE] at Sx
  refine lc_block (s := s) (s₂ := s₂) Sx p f k₂ hP (fun b hb => ?_) List.mem_cons_self ?_ hn ⟨?_, lcHeap_ns⟩ (fun i s₃ E' hi ht kx => ?_) (fun i s₃ E' hi hp ht kx => ?_) (fun s' k' hns hr => post s₂ s' k' hCn hns hr)
  · rcases List.mem_cons.mp hb with rfl | hb
    · exact hCn
    · rw [List.mem_singleton.mp hb]; exact none_back hks (fresh_none (Nat.le_refl _))
  · show s₂.heap.objs.size ∉ [s₂.heap.objs.size + 1, s₁.heap.objs.size]
    rw [hsz]
    exact not_mem2 (Nat.ne_of_lt (Nat.lt_succ_self _)) (Nat.ne_of_gt (Nat.lt_succ_self _))
  · show IsRangeIter _ _ _ _ _
    have : s₂.heap.get? s₁.heap.objs.size = some { cls := .type "range_iterator", dict := none, data := .fields #[rawInt 0, rawInt (Builtin.Range.rangeSize 0 n 1), rawInt 1], slots := #[] } := Heap.get?_push_size _ rfl
    rw [hsz1] at this
    simpa using lcHeap_old _ _ this
  · obtain ⟨m, v, ⟨t, rfl⟩, hm, hv⟩ := ht
    rw [eE]
    exact tests _ i t s₃ m E' hi kx hm (by simpa using hv)
  · obtain ⟨m, v, ⟨t, rfl⟩, hm, hv⟩ := ht
    rw [eE]
    exact elts _ i t s₃ m E' hi hp kx hm (by simpa using hv)

/-- over a list that stands, the name a cell of the comprehension's -/
theorem lc_listC {s s₁ : Shared} {env : Env} {cl : List (Str × Addr)} {elt iter : Expr} {x : Str} {px : Pos} {ifs : List Expr} {scope : Scope} {pos : Pos} {use : Option (Value → Sem Unit)} {Q : Value → Shared → Prop}
    {ax : Addr} {items : List Value} {P : Addr → Prop} (p : Nat → Bool) (f : Nat → PyData)
    (hh : A.handled = none) (k : Keeps s s₁) (hl : s₁.heap.IsList ax items.toArray) (hn : items.length ≤ sizeLine) (hP : ∀ a, P a → ∃ o, s.heap.get? a = some o)
    (hcf : ∀ n, cellsFrom n scope.names cl = (x, n) :: cl) (hpc : ∀ h, pushCells h scope.names = h.push { cls := .type "cell", data := .cell none }) (hkind : scope.kind = .function) (hx : ∀ c C, (compEnvC scope ((x, c) :: cl) C env).kindOf x = some .cell)
    (tests : ∀ c C i v s₁ m E', items[i]? = some v → Ext s.heap s₁.heap → s₁.heap.Ns C m → s₁.heap.IsCell c (some v) →
      wpAny (model prog w) A (Tests ifs (compEnvC scope ((x, c) :: cl) C env)) (fun ok s₂ => ok = p i ∧ Keeps s₁ s₂) E' s₁)
    (elts : ∀ c C i v s₁ m E', items[i]? = some v → p i = true → Ext s.heap s₁.heap → s₁.heap.Ns C m → s₁.heap.IsCell c (some v) →
      wpAny (model prog w) A (eval elt (compEnvC scope ((x, c) :: cl) C env)) (fun y s₂ => Rd (Nw P s₁.heap) s₂.heap y (f i) ∧ Keeps s₁ s₂) E' s₁)
    (post : ∀ s₂ s' : Shared, Keeps s s' → s.heap.get? (s₂.heap.objs.size + 1) = none → (∃ m', s'.heap.Ns (s₂.heap.objs.size + 1) m') →
      Rd (fun a => Nw P s.heap a ∧ a ≠ s₂.heap.objs.size + 1) s'.heap (.ref s₂.heap.objs.size) (.list (((List.range items.length).filter p).map f)) →
      compPost (model prog w) A E use Q (.ref s₂.heap.objs.size) (s₂.heap.objs.size + 1) (.ok .next) s') :
    wpAny (model prog w) A (pyIter (.ref ax)) (LcBody prog w A E env cl elt [⟨.Name x px, iter, ifs, 0⟩] scope pos use Q) E s₁ := by
  refine wpAny_pyIter_list hl ?_
  have hks := keeps_ext k
  have hax : ax < s₁.heap.objs.size := by obtain ⟨o, e, _⟩ := hl; exact Heap.lt_size e
  have W := Walks.list (prog := prog) (w := w) hh s₁.heap.objs.size ax (Nat.ne_of_lt hax) items.toArray
  let s₂ : Shared := { s₁ with heap := s₁.heap.push { cls := .type "list_iterator", data := .fields #[.ref ax, .int 0 0] } }
  have k₁₂ : Ext s₁.heap s₂.heap := Ext.push _ _
  have k₂ : Keeps s s₂ := keeps_trans k ⟨_, s₁.toks, rfl, k₁₂⟩
  have hsz : s₂.heap.objs.size = s₁.heap.objs.size + 1 := Heap.size_push ..
  have eE : lcEnv scope cl s₂.heap env = compEnvC scope ((x, s₂.heap.objs.size + 1 + 1) :: cl) (s₂.heap.objs.size + 1) env := by unfold lcEnv; rw [hcf]
  have hlen : items.toArray.size = items.length := List.size_toArray
  have hCn : s.heap.get? (s₂.heap.objs.size + 1) = none := none_back (keeps_ext k₂) (fresh_none (Nat.le_succ _))
  have hcn : s.heap.get? (s₂.heap.objs.size + 1 + 1) = none := none_back (keeps_ext k₂) (fresh_none (Nat.le_succ_of_le (Nat.le_succ _)))
  have n1 : ∀ m : Nat, s₁.heap.objs.size + 1 + 1 ≤ m → m ∉ [s₁.heap.objs.size, ax] := fun m hm => not_mem2 (Nat.ne_of_gt (Nat.lt_of_lt_of_le (Nat.lt_succ_of_lt (Nat.lt_succ_self _)) hm)) (Nat.ne_of_gt (Nat.lt_of_lt_of_le (Nat.lt_succ_of_lt (Nat.lt_succ_of_lt hax)) hm))
  have Sx := srcs_cell (cenv := compEnvC scope ((x, s₂.heap.objs.size + 1 + 1) :: cl) (s₂.heap.objs.size + 1) env) (x := x) (px := px) (c := s₂.heap.objs.size + 1 + 1) W (fun i h st b hb => by
      rw [List.mem_singleton.mp hb]; obtain ⟨o, e, _⟩ := st.1; exact ⟨o, e⟩) (by simp [compEnvC, relabel, hkind]) (hx _ _) (by simp [compEnvC, List.lookup_cons])
      (by show s₂.heap.objs.size + 1 ∉ [s₁.heap.objs.size, ax]; rw [hsz]; exact n1 _ (Nat.le_refl _))
      (by rw [hsz]; exact n1 _ (Nat.le_succ _)) (Nat.ne_of_gt (Nat.lt_succ_self _))
  rw [hlen] at Sx
  rw [← eE] at Sx
  refine lc_block (s := s) (s₂ := s₂) Sx p f k₂ hP (fun b hb => ?_) List.mem_cons_self ?_ hn ⟨⟨?_, ?_⟩, lcHeap_ns, none, ?_⟩ (fun i s₃ E' hi ht kx => ?_) (fun i s₃ E' hi hp ht kx => ?_) (fun s' k' hns hr => post s₂ s' k' hCn hns hr)
  · rcases List.mem_cons.mp hb with rfl | hb
    · exact hCn
    · rcases List.mem_cons.mp hb with rfl | hb
      · exact hcn
      · rw [List.mem_singleton.mp hb]; exact none_back hks (fresh_none (Nat.le_refl _))
  · show s₂.heap.objs.size ∉ [s₂.heap.objs.size + 1, s₂.heap.objs.size + 1 + 1, s₁.heap.objs.size, ax]
    rw [hsz]
    intro h
    rcases List.mem_cons.mp h with h | h
    · exact Nat.ne_of_lt (Nat.lt_succ_self _) h
    · exact not_mem3 (Nat.ne_of_lt (Nat.lt_succ_of_lt (Nat.lt_succ_self _))) (Nat.ne_of_gt (Nat.lt_succ_self _)) (Nat.ne_of_gt (Nat.lt_succ_of_lt hax)) h
  · exact ⟨_, lcHeap_old _ _ (Heap.get?_push_size _ rfl), rfl, rfl⟩
  · exact (hl.push _).at fun o e => lcHeap_old _ _ e
  · unfold lcHeap
    rw [hpc]
    have z : ((s₂.heap.push listO).push dictO).objs.size = s₂.heap.objs.size + 1 + 1 := by rw [Heap.size_push, Heap.size_push]
    rw [← z]
    exact ⟨_, Heap.get?_push_size _ rfl, rfl⟩
  · obtain ⟨m, v, e, hm, hv⟩ := ht
    rw [eE]
    exact tests _ _ i v s₃ m E' (by simpa using e) kx hm hv
  · obtain ⟨m, v, e, hm, hv⟩ := ht
    rw [eE]
    exact elts _ _ i v s₃ m E' (by simpa using e) hp kx hm hv
end
end
section
section
variable {prog : Program} {w : World} {A : Around} {E : Value → Shared → Prop}

/-- over zip(a, b), two names -/
theorem lc_zip {s s₀ : Shared} {env : Env} {cl : List (Str × Addr)} {elt iter : Expr} {x y : Str} {px py pt : Pos} {kt : Nat} {ifs : List Expr} {scope : Scope} {pos : Pos} {use : Option (Value → Sem Unit)} {Q : Value → Shared → Prop}
    {l1 l2 : Addr} {xs ys : List Value} {P : Addr → Prop} (p : Nat → Bool) (f : Nat → PyData)
    (hh : A.handled = none) (k : Keeps s s₀) (hl1 : s₀.heap.IsList l1 xs.toArray) (hl2 : s₀.heap.IsList l2 ys.toArray) (hlen : ys.length = xs.length) (hn : xs.length ≤ sizeLine) (hP : ∀ a, P a → ∃ o, s.heap.get? a = some o)
    (hcell : ∀ y ∈ scope.names, y.2 ≠ .cell) (hkind : scope.kind = .function) (hx : scope.names.lookup x = some .local) (hy : scope.names.lookup y = some .local) (hxy : x ≠ y)
    (tests : ∀ C i v₁ v₂ s₁ m E', xs[i]? = some v₁ → ys[i]? = some v₂ → Ext s.heap s₁.heap → s₁.heap.Ns C m → m x = some v₁ → m y = some v₂ →
      wpAny (model prog w) A (Tests ifs (compEnvC scope cl C env)) (fun ok s₂ => ok = p i ∧ Keeps s₁ s₂) E' s₁)
    (elts : ∀ C i v₁ v₂ s₁ m E', xs[i]? = some v₁ → ys[i]? = some v₂ → p i = true → Ext s.heap s₁.heap → s₁.heap.Ns C m → m x = some v₁ → m y = some v₂ →
      wpAny (model prog w) A (eval elt (compEnvC scope cl C env)) (fun y s₂ => Rd (Nw P s₁.heap) s₂.heap y (f i) ∧ Keeps s₁ s₂) E' s₁)
    (post : ∀ s₂ s' : Shared, Keeps s s' → s.heap.get? (s₂.heap.objs.size + 1) = none → (∃ m', s'.heap.Ns (s₂.heap.objs.size + 1) m') →
      Rd (fun a => Nw P s.heap a ∧ a ≠ s₂.heap.objs.size + 1) s'.heap (.ref s₂.heap.objs.size) (.list (((List.range xs.length).filter p).map f)) →
      compPost (model prog w) A E use Q (.ref s₂.heap.objs.size) (s₂.heap.objs.size + 1) (.ok .next) s') :
    wpAny (model prog w) A (call (.type "zip") [.ref l1, .ref l2]) (fun xv s₁ => wpAny (model prog w) A (pyIter xv) (LcBody prog w A E env cl elt [⟨.Tuple [.Name x px, .Name y py] kt pt, iter, ifs, 0⟩] scope pos use Q) E s₁) E s₀ := by
  refine call_zip_2 hl1 hl2 fun h₂ hz hTI hTO h1 h2 hsz k₀₂ => ?_
  refine wpAny_pyIter_zip hz ?_
  obtain ⟨N, hN⟩ : ∃ N : Nat, s₀.heap.objs.size = N := ⟨_, rfl⟩
  rw [hN] at hz hTI hTO h1 h2 hsz ⊢
  have hks := keeps_ext k
  have hlt1 : @LT.lt Nat _ l1 N := by obtain ⟨o, e, _⟩ := hl1; exact hN ▸ Heap.lt_size e
  have hlt2 : @LT.lt Nat _ l2 N := by obtain ⟨o, e, _⟩ := hl2; exact hN ▸ Heap.lt_size e
  let s₂ : Shared := { s₀ with heap := h₂ }
  have k₂ : Keeps s s₂ := keeps_trans k ⟨_, s₀.toks, rfl, k₀₂⟩
  have hsz2 : s₂.heap.objs.size = N + 5 := hsz
  have hl1' : h₂.IsList l1 xs.toArray := hl1.at fun o e => k₀₂ _ o e
  have hl2' : h₂.IsList l2 ys.toArray := hl2.at fun o e => k₀₂ _ o e
  have D : ZipApart (N + 4) (N + 2) (N + 3) N (N + 1) l1 l2 := by
    constructor <;> first | exact Nat.ne_of_lt (by omega) | exact Nat.ne_of_gt (by omega) | exact Nat.ne_of_lt (Nat.lt_of_lt_of_le hlt1 (by omega)) | exact Nat.ne_of_lt (Nat.lt_of_lt_of_le hlt2 (by omega))
  have W := (WalksT.zip2 (prog := prog) (w := w) hh (N + 4) (N + 2) (N + 3) N (N + 1) l1 l2 D xs.toArray ys.toArray).toU
  have hmin : min xs.toArray.size ys.toArray.size = xs.length := by rw [List.size_toArray, List.size_toArray, hlen, Nat.min_self]
  rw [hmin] at W
  have e0 : cellsFrom (s₂.heap.objs.size + 1 + 1) scope.names cl = cl := cellsFrom_free hcell _ _
  have eE : lcEnv scope cl s₂.heap env = compEnvC scope cl (s₂.heap.objs.size + 1) env := by unfold lcEnv; rw [e0]
  have hCn : s.heap.get? (s₂.heap.objs.size + 1) = none := none_back (keeps_ext k₂) (fresh_none (Nat.le_succ _))
  have off : ∀ m : Nat, N + 5 ≤ m → m ∉ [N + 4, N + 2, N + 3, N, N + 1, l1, l2] := fun m hm h => by
    simp only [List.mem_cons, List.not_mem_nil, or_false] at h
    rcases h with h | h | h | h | h | h | h
    · exact Nat.ne_of_gt (by omega) h
    · exact Nat.ne_of_gt (by omega) h
    · exact Nat.ne_of_gt (by omega) h
    · exact Nat.ne_of_gt (by omega) h
    · exact Nat.ne_of_gt (by omega) h
    · exact Nat.ne_of_gt (Nat.lt_of_lt_of_le hlt1 (by omega)) h
    · exact Nat.ne_of_gt (Nat.lt_of_lt_of_le hlt2 (by omega)) h
  have Sx := srcs_pair (cenv := compEnvC scope cl (s₂.heap.objs.size + 1) env) (x := x) (y := y) (px := px) (py := py) (pt := pt) (kt := kt) hh W (fun i h st b hb => by
      obtain ⟨z1, z2, ⟨a, b', z3⟩, z4, z5, z6, z7⟩ := st
      simp only [List.mem_cons, List.not_mem_nil, or_false] at hb
      rcases hb with rfl | rfl | rfl | rfl | rfl | rfl | rfl
      · exact ⟨_, z1⟩
      · exact ⟨_, z2⟩
      · exact ⟨_, z3⟩
      · obtain ⟨o, e, _⟩ := z4; exact ⟨o, e⟩
      · obtain ⟨o, e, _⟩ := z5; exact ⟨o, e⟩
      · obtain ⟨o, e, _⟩ := z6; exact ⟨o, e⟩
      · obtain ⟨o, e, _⟩ := z7; exact ⟨o, e⟩)
    (fun i vals h => by obtain ⟨x, y, _, _, e⟩ := h; exact ⟨x, y, e⟩) (lookup_relabel_local hx) (lookup_relabel_local hy) hxy (by simp [compEnvC, relabel, hkind])
    (by show s₂.heap.objs.size + 1 ∉ _; rw [hsz2]; exact off _ (by omega))
  rw [← eE] at Sx
  refine lc_block (s := s) (s₂ := s₂) Sx p f k₂ hP (fun b hb => ?_) List.mem_cons_self ?_ hn ⟨⟨?_, ?_, ⟨.none, .none, ?_⟩, ?_, ?_, ?_, ?_⟩, lcHeap_ns⟩ (fun i s₃ E' hi ht kx => ?_) (fun i s₃ E' hi hp ht kx => ?_) (fun s' k' hns hr => post s₂ s' k' hCn hns hr)
  · rcases List.mem_cons.mp hb with rfl | hb
    · exact hCn
    · refine none_back hks (fresh_none ?_)
      simp only [List.mem_cons, List.not_mem_nil, or_false] at hb
      rw [hN]
      rcases hb with rfl | rfl | rfl | rfl <;> first | exact Nat.le_refl _ | exact Nat.le_add_right _ _
  · show s₂.heap.objs.size ∉ (s₂.heap.objs.size + 1) :: [N + 4, N + 2, N + 3, N, N + 1, l1, l2]
    rw [hsz2]
    intro h
    rcases List.mem_cons.mp h with h | h
    · exact absurd h (Nat.ne_of_lt (Nat.lt_succ_self _))
    · exact off _ (Nat.le_refl _) h
  · exact lcHeap_old _ _ hz
  · exact lcHeap_old _ _ hTI
  · exact lcHeap_old _ _ hTO
  · exact h1.at fun o e => lcHeap_old _ _ e
  · exact h2.at fun o e => lcHeap_old _ _ e
  · exact hl1'.at fun o e => lcHeap_old _ _ e
  · exact hl2'.at fun o e => lcHeap_old _ _ e
  · obtain ⟨m, v₁, v₂, ⟨a, b, ea, eb, ev⟩, hm, hv1, hv2⟩ := ht
    rw [eE]
    injection ev with ev
    injection ev with e1 ev
    injection ev with e2 ev
    subst e1 e2
    exact tests _ i v₁ v₂ s₃ m E' (by simpa using ea) (by simpa using eb) kx hm hv1 hv2
  · obtain ⟨m, v₁, v₂, ⟨a, b, ea, eb, ev⟩, hm, hv1, hv2⟩ := ht
    rw [eE]
    injection ev with ev
    injection ev with e1 ev
    injection ev with e2 ev
    subst e1 e2
    exact elts _ i v₁ v₂ s₃ m E' (by simpa using ea) (by simpa using eb) hp kx hm hv1 hv2

/-- over a list of lists of two ints, two names -/
theorem lc_pairs {s s₁ : Shared} {env : Env} {cl : List (Str × Addr)} {elt iter : Expr} {x y : Str} {px py pt : Pos} {kt : Nat} {ifs : List Expr} {scope : Scope} {pos : Pos} {use : Option (Value → Sem Unit)} {Q : Value → Shared → Prop}
    {ax : Addr} {items : List Value} {prs : List (Int × Int)} {P P' : Addr → Prop} (p : Nat → Bool) (f : Nat → PyData)
    (hh : A.handled = none) (k : Keeps s s₁) (hl : s₁.heap.IsList ax items.toArray) (hrd : Rds P' s₁.heap items (prs.map fun q => .list [.int q.1, .int q.2])) (hn : items.length ≤ sizeLine) (hP : ∀ a, P a → ∃ o, s.heap.get? a = some o)
    (hcell : ∀ y ∈ scope.names, y.2 ≠ .cell) (hkind : scope.kind = .function) (hx : scope.names.lookup x = some .local) (hy : scope.names.lookup y = some .local) (hxy : x ≠ y)
    (tests : ∀ C i t₁ t₂ q s₁ m E', prs[i]? = some q → Ext s.heap s₁.heap → s₁.heap.Ns C m → m x = some (.int q.1 t₁) → m y = some (.int q.2 t₂) →
      wpAny (model prog w) A (Tests ifs (compEnvC scope cl C env)) (fun ok s₂ => ok = p i ∧ Keeps s₁ s₂) E' s₁)
    (elts : ∀ C i t₁ t₂ q s₁ m E', prs[i]? = some q → p i = true → Ext s.heap s₁.heap → s₁.heap.Ns C m → m x = some (.int q.1 t₁) → m y = some (.int q.2 t₂) →
      wpAny (model prog w) A (eval elt (compEnvC scope cl C env)) (fun y s₂ => Rd (Nw P s₁.heap) s₂.heap y (f i) ∧ Keeps s₁ s₂) E' s₁)
    (post : ∀ s₂ s' : Shared, Keeps s s' → s.heap.get? (s₂.heap.objs.size + 1) = none → (∃ m', s'.heap.Ns (s₂.heap.objs.size + 1) m') →
      Rd (fun a => Nw P s.heap a ∧ a ≠ s₂.heap.objs.size + 1) s'.heap (.ref s₂.heap.objs.size) (.list (((List.range prs.length).filter p).map f)) →
      compPost (model prog w) A E use Q (.ref s₂.heap.objs.size) (s₂.heap.objs.size + 1) (.ok .next) s') :
    wpAny (model prog w) A (pyIter (.ref ax)) (LcBody prog w A E env cl elt [⟨.Tuple [.Name x px, .Name y py] kt pt, iter, ifs, 0⟩] scope pos use Q) E s₁ := by
  refine wpAny_pyIter_list hl ?_
  have hks := keeps_ext k
  have hax : ax < s₁.heap.objs.size := by obtain ⟨o, e, _⟩ := hl; exact Heap.lt_size e
  have hil : items.length = prs.length := by rw [hrd.length, List.length_map]
  -- the items
  have each : ∀ j, j < items.length → ∃ (T : Addr) (t₁ t₂ : Tok) (q : Int × Int), prs[j]? = some q ∧ items[j]? = some (.ref T) ∧ s₁.heap.IsList T #[.int q.1 t₁, .int q.2 t₂] := fun j hj => by
    have hj' : j < prs.length := hil ▸ hj
    obtain ⟨v, ev, rv⟩ := hrd.at (k := j) (d := .list [.int prs[j].1, .int prs[j].2]) (by simp [hj'])
    obtain ⟨T, vs, rfl, hT, rr, _⟩ := rv.list_inv
    cases rr with
    | cons r1 rr =>
      cases rr with
      | cons r2 rr =>
        cases rr
        obtain ⟨t₁, rfl⟩ := r1.int_inv
        obtain ⟨t₂, rfl⟩ := r2.int_inv
        exact ⟨T, t₁, t₂, prs[j], by simp [hj'], ev, hT⟩
  let Ts : Nat → Addr := fun j => if h : j < items.length then (each j h).choose else 0
  let t1 : Nat → Tok := fun j => if h : j < items.length then (each j h).choose_spec.choose else 0
  let t2 : Nat → Tok := fun j => if h : j < items.length then (each j h).choose_spec.choose_spec.choose else 0
  let q : Nat → Int × Int := fun j => if h : j < items.length then (each j h).choose_spec.choose_spec.choose_spec.choose else (0, 0)
  have spec : ∀ j, j < items.length → prs[j]? = some (q j) ∧ items[j]? = some (.ref (Ts j)) ∧ s₁.heap.IsList (Ts j) #[.int (q j).1 (t1 j), .int (q j).2 (t2 j)] := fun j hj => by
    have e1 : Ts j = (each j hj).choose := dif_pos hj
    have e2 : t1 j = (each j hj).choose_spec.choose := dif_pos hj
    have e3 : t2 j = (each j hj).choose_spec.choose_spec.choose := dif_pos hj
    have e4 : q j = (each j hj).choose_spec.choose_spec.choose_spec.choose := dif_pos hj
    rw [e1, e2, e3, e4]
    exact (each j hj).choose_spec.choose_spec.choose_spec.choose_spec
  have hTl : ∀ j, j < items.length → Ts j < s₁.heap.objs.size := fun j hj => by obtain ⟨o, e, _⟩ := (spec j hj).2.2; exact Heap.lt_size e
  let s₂ : Shared := { s₁ with heap := s₁.heap.push { cls := .type "list_iterator", data := .fields #[.ref ax, .int 0 0] } }
  have k₁₂ : Ext s₁.heap s₂.heap := Ext.push _ _
  have k₂ : Keeps s s₂ := keeps_trans k ⟨_, s₁.toks, rfl, k₁₂⟩
  have hsz : s₂.heap.objs.size = s₁.heap.objs.size + 1 := Heap.size_push ..
  have e0 : cellsFrom (s₂.heap.objs.size + 1 + 1) scope.names cl = cl := cellsFrom_free hcell _ _
  have eE : lcEnv scope cl s₂.heap env = compEnvC scope cl (s₂.heap.objs.size + 1) env := by unfold lcEnv; rw [e0]
  have hlen : items.toArray.size = items.length := List.size_toArray
  have hCn : s.heap.get? (s₂.heap.objs.size + 1) = none := none_back (keeps_ext k₂) (fresh_none (Nat.le_succ _))
  have hC2 : ∀ a : Addr, a < s₁.heap.objs.size → a ≠ s₂.heap.objs.size + 1 := fun a ha => by rw [hsz]; exact Nat.ne_of_lt (Nat.lt_succ_of_lt (Nat.lt_succ_of_lt ha))
  have Sx := srcs_lists (prog := prog) (w := w) (A := A) (I := s₁.heap.objs.size) (ax := ax) (items := items.toArray) (Ts := Ts) (a := fun j => .int (q j).1 (t1 j)) (b := fun j => .int (q j).2 (t2 j))
    (cenv := compEnvC scope cl (s₂.heap.objs.size + 1) env) (x := x) (y := y) (px := px) (py := py) (pt := pt) (kt := kt) hh
    (fun j hj => by rw [hlen] at hj; simpa using (spec j hj).2.1) (fun j hj => by rw [hlen] at hj; exact Nat.ne_of_lt (hTl j hj)) (fun j hj => by rw [hlen] at hj; exact hC2 _ (hTl j hj)) (Nat.ne_of_lt hax) (hC2 _ hax)
    (by show s₁.heap.objs.size ≠ s₂.heap.objs.size + 1; rw [hsz]; exact Nat.ne_of_lt (Nat.lt_succ_of_lt (Nat.lt_succ_self _)))
    (lookup_relabel_local hx) (lookup_relabel_local hy) hxy (by simp [compEnvC, relabel, hkind])
  rw [hlen] at Sx
  rw [← eE] at Sx
  refine lc_block (s := s) (s₂ := s₂) Sx p f k₂ hP (fun b hb => ?_) List.mem_cons_self ?_ hn ⟨⟨?_, ?_, fun j hj => ?_⟩, lcHeap_ns⟩ (fun i s₃ E' hi ht kx => ?_) (fun i s₃ E' hi hp ht kx => ?_) (fun s' k' hns hr => post s₂ s' k' hCn hns (by rw [hil] at hr; exact hr))
  · rcases List.mem_cons.mp hb with rfl | hb
    · exact hCn
    · rw [List.mem_singleton.mp hb]; exact none_back hks (fresh_none (Nat.le_refl _))
  · show s₂.heap.objs.size ∉ (s₂.heap.objs.size + 1) :: s₁.heap.objs.size :: ax :: (List.range items.length).map Ts
    rw [hsz]
    intro h
    rcases List.mem_cons.mp h with h | h
    · exact absurd h (Nat.ne_of_lt (Nat.lt_succ_self _))
    · rcases List.mem_cons.mp h with h | h
      · exact absurd h (Nat.ne_of_gt (Nat.lt_succ_self _))
      · rcases List.mem_cons.mp h with h | h
        · exact absurd h (Nat.ne_of_gt (Nat.lt_succ_of_lt hax))
        · obtain ⟨j, hj, e⟩ := List.mem_map.mp h
          exact absurd e (Nat.ne_of_lt (Nat.lt_succ_of_lt (hTl j (List.mem_range.mp hj))))
  · exact ⟨_, lcHeap_old _ _ (Heap.get?_push_size _ rfl), rfl, rfl⟩
  · exact (hl.push _).at fun o e => lcHeap_old _ _ e
  · exact ((spec j hj).2.2.push _).at fun o e => lcHeap_old _ _ e
  · obtain ⟨m, hm, hv1, hv2⟩ := ht
    rw [eE]
    exact tests _ i _ _ (q i) s₃ m E' (spec i hi).1 kx hm hv1 hv2
  · obtain ⟨m, hm, hv1, hv2⟩ := ht
    rw [eE]
    exact elts _ i _ _ (q i) s₃ m E' (spec i hi).1 hp kx hm hv1 hv2
end
end
section
abbrev retOf : Flow → Value := fun f => match f with | .ret v => v | _ => .none

/-- what a store into a frame leaves: everything but dicts and cells -/
def SK (h h' : Heap) : Prop := ∀ b o, h.get? b = some o → (∀ es n, o.data ≠ .dict es n) → (∀ v, o.data ≠ .cell v) → h'.get? b = some o
theorem SK.ext {h h' : Heap} (k : Ext h h') : SK h h' := fun b o e _ _ => k b o e
theorem SK.trans {a b c : Heap} (x : SK a b) (y : SK b c) : SK a c := fun p o e h1 h2 => y p o (x p o e h1 h2) h1 h2
theorem SK.refl (h : Heap) : SK h h := fun _ _ e _ _ => e
theorem Rd.sk {P : Addr → Prop} {h h' : Heap} {v : Value} {d : PyData} (x : Rd P h v d) (k : SK h h') : Rd P h' v d :=
  x.imp (fun _ p => p) fun b o vs n _ e hd => k b o e (fun es n' q => by rw [hd] at q; cases q) fun v q => by rw [hd] at q; cases q
theorem Rds.sk {P : Addr → Prop} {h h' : Heap} {vs : List Value} {ds : List PyData} (x : Rds P h vs ds) (k : SK h h') : Rds P h' vs ds :=
  x.imp (fun _ p => p) fun b o vs n _ e hd => k b o e (fun es n' q => by rw [hd] at q; cases q) fun v q => by rw [hd] at q; cases q
theorem isList_sk {h h' : Heap} {a : Addr} {vs : Array Value} (x : h.IsList a vs) (k : SK h h') : h'.IsList a vs := by
  obtain ⟨o, e, c, n, hd⟩ := x
  exact ⟨o, k _ _ e (fun es n' q => by rw [hd] at q; cases q) (fun v q => by rw [hd] at q; cases q), c, n, hd⟩
theorem isListIter_sk {h h' : Heap} {a l : Addr} {i : Nat} (x : h.IsListIter a l i) (k : SK h h') : h'.IsListIter a l i := by
  obtain ⟨o, e, c, hd⟩ := x
  exact ⟨o, k _ _ e (fun es n' q => by rw [hd] at q; cases q) (fun v q => by rw [hd] at q; cases q), c, hd⟩

section
variable {M : Model} {A : Around} {E : Value → Shared → Prop} {s₀ s : Shared} {env : Env} {m cm : Str → Option Value} {L : Addr} {cs : List (Str × Addr)}
theorem icc_fs (x : InCallC s₀ env.locals m env.cells cm s) : FS env m cm s.heap := ⟨x.toInCall.ns, x.cell⟩
theorem icc_up {s' : Shared} (x : InCallC s₀ L m cs cm s) (k : Keeps s s') : InCallC s₀ L m cs cm s' := by
  obtain ⟨h, tk, rfl, k⟩ := k
  refine ⟨⟨?_, x.toInCall.ns.keeps k, fun b o e => k b o (x.toInCall.keep b o e), x.toInCall.fresh⟩, fun n c e => (x.cell n c e).keeps k, x.apart, x.above⟩
  obtain ⟨h₁, tk₁, rfl⟩ := x.toInCall.same
  exact ⟨h, tk, rfl⟩
theorem icc_ext (x : InCallC s₀ L m cs cm s) : Ext s₀.heap s.heap := x.toInCall.keep
theorem icc_keeps (x : InCallC s₀ L m cs cm s) : Keeps s₀ s := by
  obtain ⟨h, tk, e, k⟩ := x.done
  exact ⟨h, tk, e, k⟩

theorem stL {n : Str} {v : Value} {Q : Unit → Shared → Prop} (x : InCallC s₀ env.locals m env.cells cm s)
    (h : ∀ s', InCallC s₀ env.locals (fun y => if y = n then some v else m y) env.cells cm s' → SK s.heap s'.heap → Q () s')
    (hk : env.scope.kind = .function := by rfl) (hl : env.kindOf n = some .local := by rfl) : wpAny M A (storeName env n v) Q E s := by
  refine wpAny_storeName_local hl x.toInCall.ns (fun h' hn' hs' => h _ ⟨⟨?_, hn', fun b o e => ?_, x.toInCall.fresh⟩, fun k c hc => ?_, x.apart, x.above⟩ ?_) (by rw [hk]; rfl)
  · obtain ⟨h₁, tk, rfl⟩ := x.toInCall.same
    exact ⟨h', _, rfl⟩
  · exact hs'.extBut b o (Nat.ne_of_lt (Nat.lt_of_lt_of_le (Heap.lt_size e) x.toInCall.fresh)) (x.toInCall.keep b o e)
  · exact (x.cell k c hc).sameBut hs' (Nat.ne_of_gt (x.above k c (mem_of_lookup hc)))
  · intro b o e hd _
    obtain ⟨oL, es, ep, hoL, hdL, _, _⟩ := x.toInCall.ns
    exact hs'.extBut b o (fun q => by rw [q, hoL] at e; cases e; exact hd _ _ hdL) e
theorem stC {n : Str} {c : Addr} {v : Value} {Q : Unit → Shared → Prop} (x : InCallC s₀ env.locals m env.cells cm s)
    (h : ∀ s', InCallC s₀ env.locals m env.cells (fun y => if y = n then some v else cm y) s' → SK s.heap s'.heap → Q () s')
    (hc : env.cells.lookup n = some c := by rfl) (hk : env.scope.kind = .function := by rfl) (hl : env.kindOf n = some .cell := by rfl) : wpAny M A (storeName env n v) Q E s := by
  have hLc := x.above n c (mem_of_lookup hc)
  have hcell := x.cell n c hc
  refine wpAny_storeName_cell hk hl hc hcell fun h' hc' hs' => h _ ⟨⟨?_, x.toInCall.ns.sameBut hs' (Nat.ne_of_lt hLc), fun b o e => ?_, x.toInCall.fresh⟩, fun k c' hk' => ?_, x.apart, x.above⟩ ?_
  · obtain ⟨h₁, tk, rfl⟩ := x.toInCall.same
    exact ⟨h', _, rfl⟩
  · exact hs'.extBut b o (Nat.ne_of_lt (Nat.lt_trans (Nat.lt_of_lt_of_le (Heap.lt_size e) x.toInCall.fresh) hLc)) (x.toInCall.keep b o e)
  · by_cases hkn : k = n
    · subst hkn
      rw [hc] at hk'; cases hk'
      simpa using hc'
    · rw [if_neg hkn]
      exact (x.cell k c' hk').sameBut hs' fun e => hkn (name_of_addr x.apart (mem_of_lookup hk') (e ▸ mem_of_lookup hc))
  · intro b o e _ hd
    obtain ⟨oc, hoc, hdc⟩ := hcell
    exact hs'.extBut b o (fun q => by rw [q, hoc] at e; cases e; exact hd _ hdc) e
end

section
variable {prog : Program} {w : World} {A : Around} {E : Value → Shared → Prop} {s : Shared} {K : Frag} {mg mb : Str → Option Value} {n : Nat} {Q : Value → Shared → Prop}
  {f : Addr} {o : Obj} {fd : FuncData} {body : List Stmt} {binds : List (Str × Value)}

/-- a call of a def of the program's own, no cells -/
theorem enter {args : Args} (G : Gl K mg mb s.heap) (R : Rm A (n + 1)) (ho : K.lookup f = some o) (hd : o.data = .func fd) (hb : fd.body = .stmts body) (hcd : codeIn K fd.code fd.qualname = true)
    (hbind : BindsTo s fd args binds) (hcell : (fd.scope.names.all fun x => !(x.2 == .cell)) = true) (hloc : ∀ x ∈ binds, fd.scope.names.lookup x.1 = some .local) (hclo : fd.closure = [])
    (h : ∀ s₁ E', InCallC s (callEnv fd s.heap.objs.size f).locals (fun x => binds.reverse.lookup x) (callEnv fd s.heap.objs.size f).cells (fun _ => none) s₁ → SK s.heap s₁.heap →
      wpAny (model prog w) (A.deeper (callEnv fd s.heap.objs.size f)) (execs body (callEnv fd s.heap.objs.size f)) (fun fl s' => Q (retOf fl) s') E' s₁)
    (hco : fd.scope.isCoroutine = false := by rfl) (hgen : fd.scope.isGenerator = false := by rfl) (hk : fd.scope.kind = .function := by rfl) :
    wpAny (model prog w) A (call (.ref f) args.pos args.kw) Q E s := by
  refine wpAny_call ?_
  have e : (⟨args.pos, args.kw⟩ : Args) = args := rfl
  rw [e]
  refine codeAny_call_def R.room (G.K _ _ ho) hd G.lim (codeRec_of G.K hcd) hb hbind (fun x hx => by have := List.all_eq_true.mp hcell x hx; simpa using this) hloc (fun h₀ hns hk₀ => ?_) hco hgen hk
  refine wpAny_mono (h _ _ ⟨⟨⟨h₀, _, rfl⟩, hns, hk₀, Nat.le_refl _⟩, ?_, ?_, ?_⟩ (SK.ext hk₀)) (fun fl s' q => q) fun _ _ y => y
  · intro n c hc
    have : (callEnv fd s.heap.objs.size f).cells = [] := hclo
    rw [this] at hc
    cases hc
  · show List.Pairwise _ fd.closure
    rw [hclo]
    exact .nil
  · intro n c hc
    have : (callEnv fd s.heap.objs.size f).cells = [] := hclo
    rw [this] at hc
    cases hc

/-- a call of a def of the program's own, with cells -/
theorem enterC {vals : List Value} (G : Gl K mg mb s.heap) (R : Rm A (n + 1)) (ho : K.lookup f = some o) (hd : o.data = .func fd) (hb : fd.body = .stmts body) (hcd : codeIn K fd.code fd.qualname = true)
    (hbind : bindArgs fd ⟨vals, []⟩ = pure binds) (hclo : fd.closure = [])
    (hkind : (binds.all fun y => fd.scope.names.lookup y.1 == some .local || fd.scope.names.lookup y.1 == some .cell) = true)
    (h : ∀ s₁ E', InCallC s (callEnvC fd s.heap.objs.size f).locals (bindL (callEnvC fd s.heap.objs.size f).kindOf binds fun _ => none) (callEnvC fd s.heap.objs.size f).cells (bindC (callEnvC fd s.heap.objs.size f).kindOf binds fun _ => none) s₁ →
      wpAny (model prog w) (A.deeper (callEnvC fd s.heap.objs.size f)) (execs body (callEnvC fd s.heap.objs.size f)) (fun fl s' => Q (retOf fl) s') E' s₁)
    (hco : fd.scope.isCoroutine = false := by rfl) (hgen : fd.scope.isGenerator = false := by rfl) (hk : fd.scope.kind = .function := by rfl) :
    wpAny (model prog w) A (call (.ref f) vals) Q E s := by
  refine wpAny_call ?_
  refine codeAny_call_cells R.room (G.K _ _ ho) hd G.lim (codeRec_of G.K hcd) hb hbind hclo (kindsX hkind _) (fun s₁ x => ?_) hco hgen hk
  exact wpAny_mono (h _ _ x) (fun fl s' q => q) fun _ _ y => y
end

/-! ## the frame that a comprehension reads -/
noncomputable def Subs (env : Env) : List (Str × Addr) → Prop
  | [] => True
  | p :: r => env.cells.lookup p.1 = some p.2 ∧ Subs env r
theorem Subs.mem {env : Env} : ∀ {cl : List (Str × Addr)}, Subs env cl → ∀ p ∈ cl, env.cells.lookup p.1 = some p.2
  | [], _, _, h => nomatch h
  | _ :: _, x, p, h => by
    rcases List.mem_cons.mp h with rfl | h
    · exact x.1
    · exact Subs.mem x.2 p h
theorem fs_comp {scope : Scope} {cl : List (Str × Addr)} {C : Addr} {env : Env} {m m₀ cm : Str → Option Value} {h : Heap} (hns : h.Ns C m) (F : FS env m₀ cm h) (hs : Subs env cl) : FS (compEnvC scope cl C env) m cm h :=
  ⟨hns, fun n c e => F.cell n c (hs.mem _ (mem_of_lookup (l := cl) e))⟩

theorem ite_tt' {X Y : Prop} (h : X) : if true = true then X else Y := by rw [if_pos rfl]; exact h
theorem ite_ff' {X Y : Prop} (h : Y) : if false = true then X else Y := by rw [if_neg Bool.false_ne_true]; exact h
/-! ## small steps of evaluation -/
section
variable {prog : Program} {w : World} {A : Around} {E : Value → Shared → Prop} {s : Shared} {env : Env} {Q : Value → Shared → Prop}
theorem ev_call1 {f : Addr} {o : Obj} {fd : FuncData} {x : Expr} {e : Expr} {rest : List Expr} {p pos : Pos} (hd : o.data = .func fd)
    (h : wpAny (model prog w) A (eval x env) (fun fv s₁ => fv = .ref f ∧ s₁.heap.get? f = some o ∧ wpAny (model prog w) A (spliced (backTo pos (starEach (e :: rest) env))) (fun vs s₂ => s₂.heap.get? f = some o ∧ wpAny (model prog w) A (call (.ref f) vs) Q E s₂) E s₁) E s)
    (he : starEach (e :: rest) env = (false, eval e env) :: starEach rest env := by rfl)
    (hc : eval (.Call x (e :: rest) [] pos) env = (do callWith pos (← eval x env) [] (backTo pos (starEach (e :: rest) env)) (backToKw pos (keywordEach [] env))) := by rfl) :
    wpAny (model prog w) A (eval (.Call x (e :: rest) [] pos) env) Q E s := by
  rw [hc]
  refine wpAny_bind (wpAny_mono h (fun fv s₁ h₁ => ?_) fun _ _ y => y)
  obtain ⟨rfl, _, h₁⟩ := h₁
  exact callWith_def hd h₁ he
end
end
section
section
variable {s₀ s : Shared} {m m' cm : Str → Option Value} {L : Addr} {cs : List (Str × Addr)}
theorem icc_loc {h' : Heap} {tk : Nat} (x : InCallC s₀ L m cs cm s) (hn : h'.Ns L m') (hk : ∀ b o, b ≠ L → s.heap.get? b = some o → h'.get? b = some o) : InCallC s₀ L m' cs cm { s with heap := h', toks := tk } := by
  refine ⟨⟨?_, hn, fun b o e => hk b o (Nat.ne_of_lt (Nat.lt_of_lt_of_le (Heap.lt_size e) x.toInCall.fresh)) (x.toInCall.keep b o e), x.toInCall.fresh⟩, fun k c hc => ?_, x.apart, x.above⟩
  · obtain ⟨h₁, tk₁, rfl⟩ := x.toInCall.same
    exact ⟨h', _, rfl⟩
  · obtain ⟨o, e, d⟩ := x.cell k c hc
    exact ⟨o, hk _ _ (Nat.ne_of_gt (x.above k c (mem_of_lookup hc))) e, d⟩
theorem sk_loc {h h' : Heap} {L : Addr} {m : Str → Option Value} (hL : h.Ns L m) (hk : ∀ b o, b ≠ L → h.get? b = some o → h'.get? b = some o) : SK h h' := fun b o e hd _ => by
  obtain ⟨oL, es, ep, hoL, hdL, _, _⟩ := hL
  exact hk b o (fun q => by rw [q, hoL] at e; cases e; exact hd _ _ hdL) e
end
end
section
/-! ## zip of a list and a text of plain signs -/
theorem striter_at {h h' : Heap} {a : Addr} {ty : String} {x : Str} {t : Tok} {i : Nat} (y : h.IsStrIter a ty x t i) (k : ∀ o, h.get? a = some o → h'.get? a = some o) : h'.IsStrIter a ty x t i := let ⟨o, e, r⟩ := y; ⟨o, k _ e, r⟩
structure Apart (z TI TO i1 i2 l1 : Addr) : Prop where
  TIz : TI ≠ z
  TOz : TO ≠ z
  i1z : i1 ≠ z
  i2z : i2 ≠ z
  TITO : TI ≠ TO
  TIi1 : TI ≠ i1
  TIi2 : TI ≠ i2
  TOi1 : TO ≠ i1
  TOi2 : TO ≠ i2
  i12 : i1 ≠ i2
  l1z : l1 ≠ z
  l1TO : l1 ≠ TO
  l1i1 : l1 ≠ i1
  l1i2 : l1 ≠ i2
abbrev sIt : String := "str_ascii_iterator"
section
variable {prog : Program} {w : World} {A : Around} {E : Value → Shared → Prop} {s : Shared}
theorem zs_item {z TI TO i1 i2 l1 : Addr} {k : Nat} {xs : Array Value} {tx : Str} {tt : Tok} {x a b : Value} {c : Nat} {Q : Value → Shared → Prop} (D : Apart z TI TO i1 i2 l1)
    (hz : IsZip s.heap z TI TO .none) (hTI : IsPair s.heap TI (.ref i1) (.ref i2)) (hTO : IsPair s.heap TO a b)
    (h1 : s.heap.IsListIter i1 l1 k) (h2 : s.heap.IsStrIter i2 sIt tx tt k) (hl1 : s.heap.IsList l1 xs) (hx : xs[k]? = some x) (hy : tx.cps[k]? = some c)
    (hQ : ∀ h' tk y, y = .str ⟨#[c]⟩ s.toks → IsZip h' z TI TO (rawInt s.heap.objs.size) → IsPair h' TO x y → h'.IsListIter i1 l1 (k + 1) → h'.IsStrIter i2 sIt tx tt (k + 1) → IsPair h' s.heap.objs.size x y →
      (∀ c o, c ≠ z → c ≠ TO → c ≠ i1 → c ≠ i2 → s.heap.get? c = some o → h'.get? c = some o) → Q (.ref s.heap.objs.size) { s with heap := h', toks := tk }) :
    wpAny (model prog w) A (Builtin.«zip.__next__» ⟨[.ref z], []⟩) (fun fin s' => ∃ v, fin = .done (.ret v) ∧ Q v s') E s := by
  show wpAny _ _ (field (.ref z) 2 >>= _) _ _ _
  refine wpAny_bind (wpAny_field hz rfl (x := .bool false) rfl ?_)
  show wpAny _ _ (field (.ref z) 3 >>= _) _ _ _
  refine wpAny_bind (wpAny_field hz rfl (x := .ref TI) rfl ?_)
  refine wpAny_bind (wpAny_seqItems hTI rfl ?_)
  show wpAny _ _ (Builtin.SmallTypes.ownedTupleIsFree (.ref z) >>= _) _ _ _
  refine wpAny_bind ?_
  unfold Builtin.SmallTypes.ownedTupleIsFree
  refine wpAny_bind (wpAny_field hz rfl (x := .none) rfl (wpAny_pure ?_))
  simp only [if_true]
  refine wpAny_bind (wpAny_rule ?_)
  refine wpAny_bind (wpAny_field hz rfl (x := .ref TO) rfl ?_)
  refine wpAny_bind (wpAny_setField_rec hz (by simp) fun g₁ hz₁ hs₁ => ?_)
  replace hz₁ : IsZip g₁ z TI TO .ellipsis := hz₁
  refine wpAny_bind ?_
  simp only [List.zipIdx_cons, List.zipIdx_nil, List.forIn_cons, List.forIn_nil]
  refine wpAny_bind (wpAny_bind (wpAny_onRaise ?_))
  show wpAny _ _ (Builtin.SmallTypes.nextOf (.ref i1) >>= _) _ _ _
  refine wpAny_bind (wpAny_nextOf_list_item (h1.extBut hs₁.extBut D.i1z) (hl1.extBut hs₁.extBut D.l1z) hx fun g₂ h1₂ hs₂ => wpAny_pure ?_)
  have hTO₂ : IsPair g₂ TO a b := hs₂.extBut _ _ D.TOi1 (hs₁.extBut _ _ D.TOz hTO)
  refine wpAny_bind (wpAny_seqItems hTO₂ rfl ?_)
  refine wpAny_bind (wpAny_updateSeq_pair hTO₂ fun g₃ hTO₃ hs₃ => ?_)
  replace hTO₃ : IsPair g₃ TO x b := hTO₃
  refine wpAny_bind (wpAny_letGo (wpAny_pure ?_))
  refine wpAny_bind (wpAny_bind (wpAny_onRaise ?_))
  show wpAny _ _ (Builtin.SmallTypes.nextOf (.ref i2) >>= _) _ _ _
  refine wpAny_bind (wpAny_nextOf_ascii_item (((h2.extBut hs₁.extBut D.i2z).extBut hs₂.extBut D.i12.symm).extBut hs₃.extBut D.TOi2.symm) hy fun g₄ h2₄ hs₄ => wpAny_pure ?_)
  have hTO₄ : IsPair g₄ TO x b := hs₄.extBut _ _ D.TOi2 hTO₃
  refine wpAny_bind (wpAny_seqItems (s := { s with heap := g₄, toks := s.toks + 1 }) hTO₄ rfl ?_)
  refine wpAny_bind (wpAny_updateSeq_pair (s := { s with heap := g₄, toks := s.toks + 1 }) hTO₄ fun g₅ hTO₅ hs₅ => ?_)
  replace hTO₅ : IsPair g₅ TO x (.str ⟨#[c]⟩ s.toks) := hTO₅
  refine wpAny_bind (wpAny_letGo (wpAny_pure (wpAny_pure ?_)))
  refine wpAny_bind (wpAny_seqItems (s := { s with heap := g₅, toks := s.toks + 1 }) hTO₅ rfl ?_)
  refine wpAny_bind (wpAny_newTuple ?_)
  have hsz : g₅.objs.size = s.heap.objs.size := by rw [hs₅.1, hs₄.1, hs₃.1, hs₂.1, hs₁.1]
  have hz₅ : IsZip g₅ z TI TO .ellipsis := hs₅.extBut _ _ D.TOz.symm (hs₄.extBut _ _ D.i2z.symm (hs₃.extBut _ _ D.TOz.symm (hs₂.extBut _ _ D.i1z.symm hz₁)))
  have hk₅ : ∀ c o, c ≠ z → c ≠ TO → c ≠ i1 → c ≠ i2 → s.heap.get? c = some o → g₅.get? c = some o := fun c o c1 c2 c3 c4 e =>
    hs₅.extBut _ _ c2 (hs₄.extBut _ _ c4 (hs₃.extBut _ _ c2 (hs₂.extBut _ _ c3 (hs₁.extBut _ _ c1 e))))
  have h1₅ : g₅.IsListIter i1 l1 (k + 1) := ((h1₂.extBut hs₃.extBut D.TOi1.symm).extBut hs₄.extBut D.i12).extBut hs₅.extBut D.TOi1.symm
  have h2₅ : g₅.IsStrIter i2 sIt tx tt (k + 1) := h2₄.extBut hs₅.extBut D.TOi2.symm
  have hzlt : z < g₅.objs.size := Heap.lt_size hz₅
  show wpAny _ _ (Builtin.SmallTypes.ownedTupleHandOut (.ref z) (.ref g₅.objs.size) >>= _) _ _ _
  refine wpAny_bind ?_
  unfold Builtin.SmallTypes.ownedTupleHandOut
  have hz₆ : IsZip (g₅.push { cls := .type "tuple", data := .seq #[x, .str ⟨#[c]⟩ s.toks] }) z TI TO .ellipsis := Heap.get?_push_of_some _ hz₅
  refine wpAny_bind (wpAny_setField_rec (s := { s with heap := g₅.push { cls := .type "tuple", data := .seq #[x, .str ⟨#[c]⟩ s.toks] }, toks := s.toks + 1 }) hz₆ (by simp) fun g₇ hz₇ hs₇ => ?_)
  replace hz₇ : IsZip g₇ z TI TO (rawInt g₅.objs.size) := hz₇
  refine wpAny_setField_rec (s := { s with heap := g₇, toks := s.toks + 1 }) hz₇ (by simp) fun g₈ hz₈ hs₈ => ?_
  replace hz₈ : IsZip g₈ z TI TO (rawInt g₅.objs.size) := hz₈
  have up : ∀ c o, c ≠ z → g₅.get? c = some o → g₈.get? c = some o := fun c o c1 e => hs₈.extBut _ _ c1 (hs₇.extBut _ _ c1 (Heap.get?_push_of_some _ e))
  have hT₈ : IsPair g₈ g₅.objs.size x (.str ⟨#[c]⟩ s.toks) := hs₈.extBut _ _ (Nat.ne_of_gt hzlt) (hs₇.extBut _ _ (Nat.ne_of_gt hzlt) (Heap.get?_push_size _ rfl))
  rw [hsz] at hz₈ hT₈
  refine wpAny_pure ⟨_, rfl, ?_⟩
  show Q (.ref g₅.objs.size) _
  rw [hsz]
  exact hQ g₈ _ _ rfl hz₈ (up _ _ D.TOz hTO₅) (h1₅.at fun o e => up _ o D.i1z e) (striter_at h2₅ fun o e => up _ o D.i2z e) hT₈ fun c o c1 c2 c3 c4 e => up c o c1 (hk₅ c o c1 c2 c3 c4 e)

theorem zs_end {z TI TO i1 i2 l1 : Addr} {k : Nat} {xs : Array Value} {tx : Str} {tt : Tok} {a b : Value} {Q : PySem.Fin → Shared → Prop} (hh : A.handled = none) (D : Apart z TI TO i1 i2 l1)
    (hz : IsZip s.heap z TI TO .none) (hTI : IsPair s.heap TI (.ref i1) (.ref i2))
    (h1 : s.heap.IsListIter i1 l1 k) (hl1 : s.heap.IsList l1 xs) (hx : xs[k]? = none)
    (hE : ∀ h' e, (∀ c o, c ≠ z → c ≠ TO → c ≠ i1 → c ≠ i2 → s.heap.get? c = some o → h'.get? c = some o) → (∃ o, h'.get? e = some o ∧ o.cls = .type "StopIteration") → E (.ref e) { s with heap := h' }) :
    wpAny (model prog w) A (Builtin.«zip.__next__» ⟨[.ref z], []⟩) Q E s := by
  show wpAny _ _ (field (.ref z) 2 >>= _) _ _ _
  refine wpAny_bind (wpAny_field hz rfl (x := .bool false) rfl ?_)
  show wpAny _ _ (field (.ref z) 3 >>= _) _ _ _
  refine wpAny_bind (wpAny_field hz rfl (x := .ref TI) rfl ?_)
  refine wpAny_bind (wpAny_seqItems hTI rfl ?_)
  show wpAny _ _ (Builtin.SmallTypes.ownedTupleIsFree (.ref z) >>= _) _ _ _
  refine wpAny_bind ?_
  unfold Builtin.SmallTypes.ownedTupleIsFree
  refine wpAny_bind (wpAny_field hz rfl (x := .none) rfl (wpAny_pure ?_))
  simp only [if_true]
  refine wpAny_bind (wpAny_rule ?_)
  refine wpAny_bind (wpAny_field hz rfl (x := .ref TO) rfl ?_)
  refine wpAny_bind (wpAny_setField_rec hz (by simp) fun g₁ hz₁ hs₁ => ?_)
  replace hz₁ : IsZip g₁ z TI TO .ellipsis := hz₁
  refine wpAny_bind ?_
  simp only [List.zipIdx_cons, List.zipIdx_nil, List.forIn_cons, List.forIn_nil]
  refine wpAny_bind (wpAny_bind (wpAny_onRaise ?_))
  show wpAny _ _ (Builtin.SmallTypes.nextOf (.ref i1) >>= _) _ _ _
  refine wpAny_bind (wpAny_nextOf_list_end hh (h1.extBut hs₁.extBut D.i1z) (hl1.extBut hs₁.extBut D.l1z) hx fun g₂ e hs₂ he => ?_)
  obtain ⟨oe, hoe, hce⟩ := he
  have hz₂ : IsZip g₂ z TI TO .ellipsis := hs₂ _ _ D.i1z.symm hz₁
  have hez : e ≠ z := fun x => by subst x; rw [hz₂] at hoe; cases hoe; simp at hce
  refine wpAny_setField_rec hz₂ (by simp) fun g₃ _ hs₃ => hE g₃ e (fun c o c1 _ c3 _ x => hs₃.extBut _ _ c1 (hs₂ _ _ c3 (hs₁.extBut _ _ c1 x))) ⟨oe, hs₃.extBut _ _ hez hoe, hce⟩

theorem walks_zs (hh : A.handled = none) (z TI TO i1 i2 l1 : Addr) (D : Apart z TI TO i1 i2 l1) (xs : Array Value) (tx : Str) (tt : Tok) (hlen : tx.cps.size = xs.size) :
    WalksU prog w A z [z, TI, TO, i1, i2, l1] [z, TO, i1, i2] xs.size
      (fun i vals => ∃ x c t, xs[i]? = some x ∧ tx.cps[i]? = some c ∧ vals = #[x, .str ⟨#[c]⟩ t])
      (fun i h => IsZip h z TI TO .none ∧ IsPair h TI (.ref i1) (.ref i2) ∧ (∃ a b, IsPair h TO a b) ∧ h.IsListIter i1 l1 i ∧ h.IsStrIter i2 sIt tx tt i ∧ h.IsList l1 xs)
      (fun i T h => IsZip h z TI TO (rawInt T) ∧ IsPair h TI (.ref i1) (.ref i2) ∧ (∃ a b, IsPair h TO a b) ∧ h.IsListIter i1 l1 (i + 1) ∧ h.IsStrIter i2 sIt tx tt (i + 1) ∧ h.IsList l1 xs ∧ T ≠ z ∧ T ≠ TO ∧ T ≠ i1 ∧ T ≠ i2) where
  sub := fun c hc => by simp at hc ⊢; rcases hc with rfl | rfl | rfl | rfl <;> simp
  frame := fun i h h' hst hk => by
    obtain ⟨hz, hTI, ⟨a, b, hTO⟩, h1, h2, hl1⟩ := hst
    exact ⟨hk z (by simp) _ hz, hk TI (by simp) _ hTI, ⟨a, b, hk TO (by simp) _ hTO⟩, h1.at fun o e => hk i1 (by simp) o e, striter_at h2 fun o e => hk i2 (by simp) o e, hl1.at fun o e => hk l1 (by simp) o e⟩
  item := fun i s Q E hi hst hQ => by
    obtain ⟨hz, hTI, ⟨a, b, hTO⟩, h1, h2, hl1⟩ := hst
    have hiy : i < tx.cps.size := hlen ▸ hi
    have hT : s.TypeIs (.ref z) "zip" := ⟨_, hz, rfl⟩
    have lt : ∀ {c o}, s.heap.get? c = some o → s.heap.objs.size ≠ c := fun e => Nat.ne_of_gt (Heap.lt_size e)
    unfold pyNext
    refine wpAny_bind (wpAny_attempt (wpAny_callSpecial?_slot (name := PySem.Str.ofString "__next__") hT F.slot_zip_next
      (wpAny_call_entry F.slot_zip_next hT F.entry_zip_next
        (zs_item D hz hTI hTO h1 h2 hl1 (Array.getElem?_eq_getElem hi) (Array.getElem?_eq_getElem hiy) fun h' tk y ey a1 a2 a3 a4 a5 hk => wpAny_pure ?_) (F.args_zip_next_1 _))))
    subst ey
    exact hQ s.heap.objs.size #[xs[i], _] h' tk ⟨_, _, _, Array.getElem?_eq_getElem hi, Array.getElem?_eq_getElem hiy, rfl⟩ ⟨_, a5, rfl, _, rfl⟩
      ⟨a1, hk _ _ D.TIz D.TITO D.TIi1 D.TIi2 hTI, ⟨_, _, a2⟩, a3, a4, hl1.at fun o e => hk _ o D.l1z D.l1TO D.l1i1 D.l1i2 e,
        lt hz, lt hTO, (by obtain ⟨_, e, _⟩ := h1; exact lt e), (by obtain ⟨_, e, _⟩ := h2; exact lt e)⟩
      fun c o hc e => hk c o (fun x => hc (by simp [x])) (fun x => hc (by simp [x])) (fun x => hc (by simp [x])) (fun x => hc (by simp [x])) e
  go := fun elts k pos i T s Q E hm hQ => by
    obtain ⟨hz, hTI, ⟨a, b, hTO⟩, h1, h2, hl1, _⟩ := hm
    refine wpAny_letOwnedTupleGo_zip hz fun h' hz' hs' => hQ h' ⟨hz', hs'.extBut _ _ D.TIz hTI, ⟨a, b, hs'.extBut _ _ D.TOz hTO⟩, h1.extBut hs'.extBut D.i1z, h2.extBut hs'.extBut D.i2z,
      hl1.extBut hs'.extBut D.l1z⟩ fun c o hc e => hs'.extBut _ _ (fun x => hc (by simp [x])) e
  apart := fun i T h hm hT => by
    obtain ⟨_, _, _, _, _, _, t1, t2, t3, t4⟩ := hm
    simp at hT
    rcases hT with rfl | rfl | rfl | rfl
    · exact t1 rfl
    · exact t2 rfl
    · exact t3 rfl
    · exact t4 rfl
  done := fun s Q E hst hQ => by
    obtain ⟨hz, hTI, ⟨a, b, hTO⟩, h1, h2, hl1⟩ := hst
    have hT : s.TypeIs (.ref z) "zip" := ⟨_, hz, rfl⟩
    unfold pyNext
    refine wpAny_bind (wpAny_attempt (wpAny_callSpecial?_slot (name := PySem.Str.ofString "__next__") hT F.slot_zip_next
      (wpAny_call_entry F.slot_zip_next hT F.entry_zip_next (zs_end (a := a) (b := b) (tx := tx) (tt := tt) hh D hz hTI h1 hl1 (Array.getElem?_eq_none (Nat.le_refl _)) fun h' e hk he => ?_) (F.args_zip_next_1 _))))
    obtain ⟨o, ho, hc⟩ := he
    refine wpAny_bind (wpAny_isInstance (T := "StopIteration") (b := true) ⟨o, ho, hc⟩ isSubtype_stop ?_)
    exact wpAny_pure (hQ _ s.toks fun c o hc e => hk c o (fun x => hc (by simp [x])) (fun x => hc (by simp [x])) (fun x => hc (by simp [x])) (fun x => hc (by simp [x])) e)
  self := fun i s Q E hst hQ => wpAny_pyIter_zip hst.1 hQ
end
end
section
abbrev zh1 (h : Heap) (l1 : Addr) : Heap := h.push { cls := .type "list_iterator", data := .fields #[.ref l1, .int 0 0] }
abbrev zh2 (h : Heap) (l1 : Addr) (tx : Str) (tt : Tok) : Heap := (zh1 h l1).push { cls := .type sIt, data := .fields #[.str tx tt, .int 0 0] }
abbrev zh3 (h : Heap) (l1 : Addr) (tx : Str) (tt : Tok) : Heap := (zh2 h l1 tx tt).push { cls := .type "tuple", data := .seq #[.ref h.objs.size, .ref (zh1 h l1).objs.size] }
abbrev zh4 (h : Heap) (l1 : Addr) (tx : Str) (tt : Tok) : Heap := (zh3 h l1 tx tt).push { cls := .type "tuple", data := .seq #[.none, .none] }
abbrev zh5 (h : Heap) (l1 : Addr) (tx : Str) (tt : Tok) : Heap := (zh4 h l1 tx tt).push { cls := .type "zip", data := .fields #[.none, .bool false, .bool false, .ref (zh2 h l1 tx tt).objs.size, .ref (zh3 h l1 tx tt).objs.size] }

theorem zs_new (l1 : Addr) (xs : Array Value) (tx : Str) (tt : Tok) (ha : tx.cps.all (· < 128) = true) :
    Meets (Builtin.«zip.__new__» ⟨[.type "zip", .ref l1, .str tx tt], []⟩) (fun _ R s => s.heap.IsList l1 xs ∧
      R (.ok (.ret (.ref (zh4 s.heap l1 tx tt).objs.size))) { s with heap := zh5 s.heap l1 tx tt }) :=
  .of_wp fun prog w A R s h => by
    obtain ⟨hp, g, d, tk, os⟩ := s; obtain ⟨hl1, h⟩ := h
    have hsub := sub_zip
    have hL1 : Heap.IsList (Shared.heap ⟨hp, g, d, tk, os⟩) l1 xs := hl1
    show wpAny _ _ (Builtin.SmallTypes.newClass "zip" _ >>= _) _ _ _
    refine wpAny_bind (wpAny_mono (Q := fun r s' => r = (.type "zip", [.ref l1, .str tx tt]) ∧ s' = ⟨hp, g, d, tk, os⟩) (E := fun e s' => R (.error e) s') ?_ (fun r s' hr => ?_) fun _ _ e => e)
    · wp_walk
      exact ⟨rfl, rfl⟩
    obtain ⟨rfl, rfl⟩ := hr
    show wpAny _ _ (Builtin.SmallTypes.iterAll [.ref l1, .str tx tt] >>= _) _ _ _
    refine wpAny_bind ?_
    unfold Builtin.SmallTypes.iterAll
    simp only [List.forIn_cons, List.forIn_nil]
    refine wpAny_bind (wpAny_bind (wpAny_bind (wpAny_holding (wpAny_pyIter_list hL1 ?_))))
    refine wpAny_pure (wpAny_bind (wpAny_bind (wpAny_holding (wpAny_pyIter_ascii ha ?_))))
    refine wpAny_pure (wpAny_pure (wpAny_pure ?_))
    dsimp only
    wp_walk
    exact ⟨_, rfl, h⟩

section
variable {prog : Program} {w : World} {A : Around} {E : Value → Shared → Prop} {s : Shared}
theorem call_zs {l1 : Addr} {xs : Array Value} {tx : Str} {tt : Tok} {Q : Value → Shared → Prop} (ha : tx.cps.all (· < 128) = true) (hl1 : s.heap.IsList l1 xs)
    (h : ∀ h', IsZip h' (s.heap.objs.size + 4) (s.heap.objs.size + 2) (s.heap.objs.size + 3) .none → IsPair h' (s.heap.objs.size + 2) (.ref s.heap.objs.size) (.ref (s.heap.objs.size + 1)) →
      IsPair h' (s.heap.objs.size + 3) .none .none → h'.IsListIter s.heap.objs.size l1 0 → h'.IsStrIter (s.heap.objs.size + 1) sIt tx tt 0 → h'.objs.size = s.heap.objs.size + 5 →
      (∀ c o, s.heap.get? c = some o → h'.get? c = some o) → Q (.ref (s.heap.objs.size + 4)) { s with heap := h' }) :
    wpAny (model prog w) A (call (.type "zip") [.ref l1, .str tx tt]) Q E s := by
  refine callType_new F.called_zip (by decide) (F.typeCall_zip_2 _ _) (F.newCall_zip_2 _ _) (fun obj => F.args_object_init_3 obj _ _) F.entry_zip_new
    (zs_new l1 xs tx tt ha) ⟨hl1, ?_⟩
  have z1 : (zh1 s.heap l1).objs.size = s.heap.objs.size + 1 := Heap.size_push ..
  have z2 : (zh2 s.heap l1 tx tt).objs.size = s.heap.objs.size + 2 := by rw [Heap.size_push, z1]
  have z3 : (zh3 s.heap l1 tx tt).objs.size = s.heap.objs.size + 3 := by rw [Heap.size_push, z2]
  have z4 : (zh4 s.heap l1 tx tt).objs.size = s.heap.objs.size + 4 := by rw [Heap.size_push, z3]
  have z5 : (zh5 s.heap l1 tx tt).objs.size = s.heap.objs.size + 5 := by rw [Heap.size_push, z4]
  have g5 : (zh5 s.heap l1 tx tt).get? (zh4 s.heap l1 tx tt).objs.size = some _ := Heap.get?_push_size _ rfl
  have g4 : (zh5 s.heap l1 tx tt).get? (zh3 s.heap l1 tx tt).objs.size = some _ := Heap.get?_push_of_some _ (Heap.get?_push_size _ rfl)
  have g3 : (zh5 s.heap l1 tx tt).get? (zh2 s.heap l1 tx tt).objs.size = some _ := Heap.get?_push_of_some _ (Heap.get?_push_of_some _ (Heap.get?_push_size _ rfl))
  have g2 : (zh5 s.heap l1 tx tt).get? (zh1 s.heap l1).objs.size = some _ := Heap.get?_push_of_some _ (Heap.get?_push_of_some _ (Heap.get?_push_of_some _ (Heap.get?_push_size _ rfl)))
  have g1 : (zh5 s.heap l1 tx tt).get? s.heap.objs.size = some _ := Heap.get?_push_of_some _ (Heap.get?_push_of_some _ (Heap.get?_push_of_some _ (Heap.get?_push_of_some _ (Heap.get?_push_size _ rfl))))
  show _ ∧ _
  rw [z2, z3, z4] at g5
  rw [z1, z2] at g3
  rw [z3] at g4
  rw [z1] at g2
  rw [z4]
  exact ⟨⟨_, g5, rfl⟩, h _ g5 g3 g4 ⟨_, g1, rfl, rfl⟩ ⟨_, g2, rfl, rfl⟩ z5 fun c o x =>
    Heap.get?_push_of_some _ (Heap.get?_push_of_some _ (Heap.get?_push_of_some _ (Heap.get?_push_of_some _ (Heap.get?_push_of_some _ x))))⟩

/-- over zip(a, text), two names -/
theorem lc_zips {s s₀ : Shared} {env : Env} {cl : List (Str × Addr)} {elt iter : Expr} {x y : Str} {px py pt : Pos} {kt : Nat} {ifs : List Expr} {scope : Scope} {pos : Pos} {use : Option (Value → Sem Unit)} {Q : Value → Shared → Prop}
    {l1 : Addr} {xs : List Value} {tx : Str} {tt : Tok} {P : Addr → Prop} (p : Nat → Bool) (f : Nat → PyData) (ha : tx.cps.all (· < 128) = true)
    (hh : A.handled = none) (k : Keeps s s₀) (hl1 : s₀.heap.IsList l1 xs.toArray) (hlen : tx.cps.size = xs.length) (hn : xs.length ≤ sizeLine) (hP : ∀ a, P a → ∃ o, s.heap.get? a = some o)
    (hcell : ∀ y ∈ scope.names, y.2 ≠ .cell) (hkind : scope.kind = .function) (hx : scope.names.lookup x = some .local) (hy : scope.names.lookup y = some .local) (hxy : x ≠ y)
    (tests : ∀ C i v₁ c t s₁ m E', xs[i]? = some v₁ → tx.cps[i]? = some c → Ext s.heap s₁.heap → s₁.heap.Ns C m → m x = some v₁ → m y = some (.str ⟨#[c]⟩ t) →
      wpAny (model prog w) A (Tests ifs (compEnvC scope cl C env)) (fun ok s₂ => ok = p i ∧ Keeps s₁ s₂) E' s₁)
    (elts : ∀ C i v₁ c t s₁ m E', xs[i]? = some v₁ → tx.cps[i]? = some c → p i = true → Ext s.heap s₁.heap → s₁.heap.Ns C m → m x = some v₁ → m y = some (.str ⟨#[c]⟩ t) →
      wpAny (model prog w) A (eval elt (compEnvC scope cl C env)) (fun y s₂ => Rd (Nw P s₁.heap) s₂.heap y (f i) ∧ Keeps s₁ s₂) E' s₁)
    (post : ∀ s₂ s' : Shared, Keeps s s' → s.heap.get? (s₂.heap.objs.size + 1) = none → (∃ m', s'.heap.Ns (s₂.heap.objs.size + 1) m') →
      Rd (fun a => Nw P s.heap a ∧ a ≠ s₂.heap.objs.size + 1) s'.heap (.ref s₂.heap.objs.size) (.list (((List.range xs.length).filter p).map f)) →
      compPost (model prog w) A E use Q (.ref s₂.heap.objs.size) (s₂.heap.objs.size + 1) (.ok .next) s') :
    wpAny (model prog w) A (call (.type "zip") [.ref l1, .str tx tt]) (fun xv s₁ => wpAny (model prog w) A (pyIter xv) (LcBody prog w A E env cl elt [⟨.Tuple [.Name x px, .Name y py] kt pt, iter, ifs, 0⟩] scope pos use Q) E s₁) E s₀ := by
  refine call_zs ha hl1 fun h₂ hz hTI hTO h1 h2 hsz k₀₂ => ?_
  refine wpAny_pyIter_zip hz ?_
  obtain ⟨N, hN⟩ : ∃ N : Nat, s₀.heap.objs.size = N := ⟨_, rfl⟩
  rw [hN] at hz hTI hTO h1 h2 hsz ⊢
  have hks := keeps_ext k
  have hlt1 : @LT.lt Nat _ l1 N := by obtain ⟨o, e, _⟩ := hl1; exact hN ▸ Heap.lt_size e
  let s₂ : Shared := { s₀ with heap := h₂ }
  have k₂ : Keeps s s₂ := keeps_trans k ⟨_, s₀.toks, rfl, k₀₂⟩
  have hsz2 : s₂.heap.objs.size = N + 5 := hsz
  have hl1' : h₂.IsList l1 xs.toArray := hl1.at fun o e => k₀₂ _ o e
  have D : Apart (N + 4) (N + 2) (N + 3) N (N + 1) l1 := by
    constructor <;> first | exact Nat.ne_of_lt (by omega) | exact Nat.ne_of_gt (by omega) | exact Nat.ne_of_lt (Nat.lt_of_lt_of_le hlt1 (by omega))
  have W := walks_zs (prog := prog) (w := w) hh (N + 4) (N + 2) (N + 3) N (N + 1) l1 D xs.toArray tx tt (by rw [List.size_toArray]; exact hlen)
  rw [List.size_toArray] at W
  have e0 : cellsFrom (s₂.heap.objs.size + 1 + 1) scope.names cl = cl := cellsFrom_free hcell _ _
  have eE : lcEnv scope cl s₂.heap env = compEnvC scope cl (s₂.heap.objs.size + 1) env := by unfold lcEnv; rw [e0]
  have hCn : s.heap.get? (s₂.heap.objs.size + 1) = none := none_back (keeps_ext k₂) (fresh_none (Nat.le_succ _))
  have off : ∀ m : Nat, N + 5 ≤ m → m ∉ [N + 4, N + 2, N + 3, N, N + 1, l1] := fun m hm h => by
    simp only [List.mem_cons, List.not_mem_nil, or_false] at h
    rcases h with h | h | h | h | h | h
    · exact Nat.ne_of_gt (by omega) h
    · exact Nat.ne_of_gt (by omega) h
    · exact Nat.ne_of_gt (by omega) h
    · exact Nat.ne_of_gt (by omega) h
    · exact Nat.ne_of_gt (by omega) h
    · exact Nat.ne_of_gt (Nat.lt_of_lt_of_le hlt1 (by omega)) h
  have Sx := srcs_pair (cenv := compEnvC scope cl (s₂.heap.objs.size + 1) env) (x := x) (y := y) (px := px) (py := py) (pt := pt) (kt := kt) hh W (fun i h st b hb => by
      obtain ⟨z1, z2, ⟨a, b', z3⟩, z4, z5, z6⟩ := st
      simp only [List.mem_cons, List.not_mem_nil, or_false] at hb
      rcases hb with rfl | rfl | rfl | rfl | rfl | rfl
      · exact ⟨_, z1⟩
      · exact ⟨_, z2⟩
      · exact ⟨_, z3⟩
      · obtain ⟨o, e, _⟩ := z4; exact ⟨o, e⟩
      · obtain ⟨o, e, _⟩ := z5; exact ⟨o, e⟩
      · obtain ⟨o, e, _⟩ := z6; exact ⟨o, e⟩)
    (fun i vals h => by obtain ⟨x, c, t, _, _, e⟩ := h; exact ⟨x, _, e⟩) (lookup_relabel_local hx) (lookup_relabel_local hy) hxy (by simp [compEnvC, relabel, hkind])
    (by show s₂.heap.objs.size + 1 ∉ _; rw [hsz2]; exact off _ (by omega))
  rw [← eE] at Sx
  refine lc_block (s := s) (s₂ := s₂) Sx p f k₂ hP (fun b hb => ?_) List.mem_cons_self ?_ hn ⟨⟨?_, ?_, ⟨.none, .none, ?_⟩, ?_, ?_, ?_⟩, lcHeap_ns⟩ (fun i s₃ E' hi ht kx => ?_) (fun i s₃ E' hi hp ht kx => ?_) (fun s' k' hns hr => post s₂ s' k' hCn hns hr)
  · rcases List.mem_cons.mp hb with rfl | hb
    · exact hCn
    · refine none_back hks (fresh_none ?_)
      simp only [List.mem_cons, List.not_mem_nil, or_false] at hb
      rw [hN]
      rcases hb with rfl | rfl | rfl | rfl <;> first | exact Nat.le_refl _ | exact Nat.le_add_right _ _
  · show s₂.heap.objs.size ∉ (s₂.heap.objs.size + 1) :: [N + 4, N + 2, N + 3, N, N + 1, l1]
    rw [hsz2]
    intro h
    rcases List.mem_cons.mp h with h | h
    · exact absurd h (Nat.ne_of_lt (Nat.lt_succ_self _))
    · exact off _ (Nat.le_refl _) h
  · exact lcHeap_old _ _ hz
  · exact lcHeap_old _ _ hTI
  · exact lcHeap_old _ _ hTO
  · exact h1.at fun o e => lcHeap_old _ _ e
  · exact striter_at h2 fun o e => lcHeap_old _ _ e
  · exact hl1'.at fun o e => lcHeap_old _ _ e
  · obtain ⟨m, v₁, v₂, ⟨a, c, t, ea, eb, ev⟩, hm, hv1, hv2⟩ := ht
    rw [eE]
    injection ev with ev
    injection ev with e1 ev
    injection ev with e2 ev
    subst e1 e2
    exact tests _ i v₁ c t s₃ m E' (by simpa using ea) eb kx hm hv1 hv2
  · obtain ⟨m, v₁, v₂, ⟨a, c, t, ea, eb, ev⟩, hm, hv1, hv2⟩ := ht
    rw [eE]
    injection ev with ev
    injection ev with e1 ev
    injection ev with e2 ev
    subst e1 e2
    exact elts _ i v₁ c t s₃ m E' (by simpa using ea) eb hp kx hm hv1 hv2
end
end
section
section
variable {prog : Program} {w : World} {A : Around} {E : Value → Shared → Prop}
/-- two targets: a local name, and a cell of the comprehension's own -/
theorem srcs_pairC {I c : Addr} {fpI wr : List Addr} {n : Nat} {Pt : Nat → Array Value → Prop} {St : Nat → Heap → Prop} {Mid : Nat → Addr → Heap → Prop} {cenv : Env} {x y : Str} {px py pt : Pos} {kt : Nat}
    (hh : A.handled = none) (W : WalksU prog w A I fpI wr n Pt St Mid) (al : ∀ i h, St i h → ∀ b ∈ fpI, ∃ o, h.get? b = some o) (h2 : ∀ i vals, Pt i vals → ∃ v₁ v₂, vals = #[v₁, v₂])
    (hx : cenv.kindOf x = some .local) (hk : cenv.scope.kind = .function) (hy : cenv.kindOf y = some .cell) (hc : cenv.cells.lookup y = some c) (hp : (cenv.scope.kind == .class || (cenv.scope.kind == .module && cenv.locals != cenv.globals)) = false)
    (hC : cenv.locals ∉ fpI) (hcf : c ∉ fpI) (hcC : c ≠ cenv.locals) :
    Srcs prog w A I (.Tuple [.Name x px, .Name y py] kt pt) cenv n (cenv.locals :: c :: wr) (cenv.locals :: c :: fpI) (fun i h => St i h ∧ (∃ m, h.Ns cenv.locals m) ∧ ∃ v, h.IsCell c v)
      (fun i h => ∃ m v₁ v₂, Pt i #[v₁, v₂] ∧ h.Ns cenv.locals m ∧ m x = some v₁ ∧ h.IsCell c (some v₂)) where
  sub := fun b hb => by
    rcases List.mem_cons.mp hb with rfl | hb
    · exact List.mem_cons_self
    · rcases List.mem_cons.mp hb with rfl | hb
      · exact List.mem_cons_of_mem _ List.mem_cons_self
      · exact List.mem_cons_of_mem _ (List.mem_cons_of_mem _ (W.sub b hb))
  alive := fun i h st b hb => by
    rcases List.mem_cons.mp hb with rfl | hb
    · obtain ⟨m, hm⟩ := st.2.1; exact ns_obj hm
    · rcases List.mem_cons.mp hb with rfl | hb
      · obtain ⟨v, o, e, _⟩ := st.2.2; exact ⟨o, e⟩
      · exact al i h st.1 b (W.sub b hb)
  frame := fun i h h' st hk => ⟨W.frame i h h' st.1 fun b hb => hk b (List.mem_cons_of_mem _ (List.mem_cons_of_mem _ hb)), let ⟨m, hm⟩ := st.2.1; ⟨m, ns_at hm (hk _ List.mem_cons_self)⟩,
    let ⟨v, o, e, d⟩ := st.2.2; ⟨v, o, hk _ (List.mem_cons_of_mem _ List.mem_cons_self) _ e, d⟩⟩
  tg := fun i h h' t k => let ⟨m, v₁, v₂, p, hm, e1, e2⟩ := t; ⟨m, v₁, v₂, p, hm.keeps k, e1, e2.keeps k⟩
  ns := fun i h st => st.2.1
  self := fun i s Q E st hQ => W.self i s Q E st.1 hQ
  step := fun i s Q G E hi st hG hQ => by
    obtain ⟨st, ⟨m, hm⟩, v₀, o₀, e₀, d₀⟩ := st
    refine W.item i s _ _ hi st fun T vals h' tk pv hT mid hk' => hG (.ref T) _ ?_
    have hCw : cenv.locals ∉ wr := fun h => hC (W.sub _ h)
    have hcw : c ∉ wr := fun h => hcf (W.sub _ h)
    have hTw : T ∉ wr := W.apart _ _ _ mid
    obtain ⟨v₁, v₂, rfl⟩ := h2 _ _ pv
    refine W.go _ _ _ i T _ _ _ mid fun h₂ st₂ hk₂ => ?_
    have hT₂ : IsTup h₂ T #[v₁, v₂] := by
      obtain ⟨o, e, c', nn, d⟩ := hT
      exact ⟨o, hk₂ _ _ hTw e, c', nn, d⟩
    refine assign_Tuple_tuple hh hT₂ rfl rfl fun h₃ he₃ => ?_
    have k₃ : Ext h₂ h₃ := fun b o e => he₃ b o (Nat.ne_of_lt (Heap.lt_size e)) e
    have hm₃ : h₃.Ns cenv.locals m := ns_at hm fun o e => k₃ _ o (hk₂ _ o hCw (hk' _ o hCw e))
    refine assignInOrder_cons (wpAny_assign_Name (wpAny_storeName_local hx hm₃ (fun h₆ hn₆ hs₆ => ?_) hp))
    have hc₆ : h₆.IsCell c v₀ := ⟨o₀, hs₆.extBut _ _ hcC (k₃ _ _ (hk₂ _ _ hcw (hk' _ _ hcw e₀))), d₀⟩
    refine assignInOrder_cons (wpAny_assign_Name (wpAny_storeName_cell hk hy hc hc₆ fun h₄ hn₄ hs₄ => ?_))
    refine assignInOrder_nil ?_
    have hm₄ : h₄.Ns cenv.locals _ := hn₆.sameBut hs₄ (Ne.symm hcC)
    refine hQ h₄ _ ⟨W.frame _ _ _ st₂ fun b hb o e => hs₄.extBut b o (fun q => hcf (q ▸ hb)) (hs₆.extBut b o (fun q => hC (q ▸ hb)) (k₃ _ _ e)), ⟨_, hm₄⟩, _, hn₄⟩ ⟨_, v₁, v₂, pv, hm₄, by simp, hn₄⟩ fun b o hb e => ?_
    have hbw : b ∉ wr := fun q => hb (List.mem_cons_of_mem _ (List.mem_cons_of_mem _ q))
    exact hs₄.extBut b o (fun q => hb (q ▸ List.mem_cons_of_mem _ List.mem_cons_self)) (hs₆.extBut b o (fun q => hb (q ▸ List.mem_cons_self)) (k₃ _ _ (hk₂ b o hbw (hk' b o hbw e))))
  fin := fun s Q E st hQ => by
    obtain ⟨st, ⟨m, hm⟩, _⟩ := st
    have hCw : cenv.locals ∉ wr := fun h => hC (W.sub _ h)
    exact W.done s Q E st fun h' tk hk => hQ h' tk ⟨m, ns_at hm fun o e => hk _ o hCw e⟩ fun b o hb e => hk b o (fun q => hb (List.mem_cons_of_mem _ (List.mem_cons_of_mem _ q))) e
end
end
section
section
variable {prog : Program} {w : World} {A : Around} {E : Value → Shared → Prop}
/-- over zip(a, b), a local name and a cell -/
theorem lc_zipC {s s₀ : Shared} {env : Env} {cl : List (Str × Addr)} {elt iter : Expr} {x y : Str} {px py pt : Pos} {kt : Nat} {ifs : List Expr} {scope : Scope} {pos : Pos} {use : Option (Value → Sem Unit)} {Q : Value → Shared → Prop}
    {l1 l2 : Addr} {xs ys : List Value} {P : Addr → Prop} (p : Nat → Bool) (f : Nat → PyData)
    (hh : A.handled = none) (k : Keeps s s₀) (hl1 : s₀.heap.IsList l1 xs.toArray) (hl2 : s₀.heap.IsList l2 ys.toArray) (hlen : ys.length = xs.length) (hn : xs.length ≤ sizeLine) (hP : ∀ a, P a → ∃ o, s.heap.get? a = some o)
    (hcf : ∀ n, cellsFrom n scope.names cl = (y, n) :: cl) (hpc : ∀ h, pushCells h scope.names = h.push { cls := .type "cell", data := .cell none }) (hkind : scope.kind = .function)
    (hx : ∀ c C, (compEnvC scope ((y, c) :: cl) C env).kindOf x = some .local) (hy : ∀ c C, (compEnvC scope ((y, c) :: cl) C env).kindOf y = some .cell)
    (tests : ∀ c C i v₁ v₂ s₁ m E', xs[i]? = some v₁ → ys[i]? = some v₂ → Ext s.heap s₁.heap → s₁.heap.Ns C m → m x = some v₁ → s₁.heap.IsCell c (some v₂) →
      wpAny (model prog w) A (Tests ifs (compEnvC scope ((y, c) :: cl) C env)) (fun ok s₂ => ok = p i ∧ Keeps s₁ s₂) E' s₁)
    (elts : ∀ c C i v₁ v₂ s₁ m E', xs[i]? = some v₁ → ys[i]? = some v₂ → p i = true → Ext s.heap s₁.heap → s₁.heap.Ns C m → m x = some v₁ → s₁.heap.IsCell c (some v₂) →
      wpAny (model prog w) A (eval elt (compEnvC scope ((y, c) :: cl) C env)) (fun y s₂ => Rd (Nw P s₁.heap) s₂.heap y (f i) ∧ Keeps s₁ s₂) E' s₁)
    (post : ∀ s₂ s' : Shared, Keeps s s' → s.heap.get? (s₂.heap.objs.size + 1) = none → (∃ m', s'.heap.Ns (s₂.heap.objs.size + 1) m') →
      Rd (fun a => Nw P s.heap a ∧ a ≠ s₂.heap.objs.size + 1) s'.heap (.ref s₂.heap.objs.size) (.list (((List.range xs.length).filter p).map f)) →
      compPost (model prog w) A E use Q (.ref s₂.heap.objs.size) (s₂.heap.objs.size + 1) (.ok .next) s') :
    wpAny (model prog w) A (call (.type "zip") [.ref l1, .ref l2]) (fun xv s₁ => wpAny (model prog w) A (pyIter xv) (LcBody prog w A E env cl elt [⟨.Tuple [.Name x px, .Name y py] kt pt, iter, ifs, 0⟩] scope pos use Q) E s₁) E s₀ := by
  refine call_zip_2 hl1 hl2 fun h₂ hz hTI hTO h1 h2 hsz k₀₂ => ?_
  refine wpAny_pyIter_zip hz ?_
  obtain ⟨N, hN⟩ : ∃ N : Nat, s₀.heap.objs.size = N := ⟨_, rfl⟩
  rw [hN] at hz hTI hTO h1 h2 hsz ⊢
  have hks := keeps_ext k
  have hlt1 : @LT.lt Nat _ l1 N := by obtain ⟨o, e, _⟩ := hl1; exact hN ▸ Heap.lt_size e
  have hlt2 : @LT.lt Nat _ l2 N := by obtain ⟨o, e, _⟩ := hl2; exact hN ▸ Heap.lt_size e
  let s₂ : Shared := { s₀ with heap := h₂ }
  have k₂ : Keeps s s₂ := keeps_trans k ⟨_, s₀.toks, rfl, k₀₂⟩
  have hsz2 : s₂.heap.objs.size = N + 5 := hsz
  have hl1' : h₂.IsList l1 xs.toArray := hl1.at fun o e => k₀₂ _ o e
  have hl2' : h₂.IsList l2 ys.toArray := hl2.at fun o e => k₀₂ _ o e
  have D : ZipApart (N + 4) (N + 2) (N + 3) N (N + 1) l1 l2 := by
    constructor <;> first | exact Nat.ne_of_lt (by omega) | exact Nat.ne_of_gt (by omega) | exact Nat.ne_of_lt (Nat.lt_of_lt_of_le hlt1 (by omega)) | exact Nat.ne_of_lt (Nat.lt_of_lt_of_le hlt2 (by omega))
  have W := (WalksT.zip2 (prog := prog) (w := w) hh (N + 4) (N + 2) (N + 3) N (N + 1) l1 l2 D xs.toArray ys.toArray).toU
  have hmin : min xs.toArray.size ys.toArray.size = xs.length := by rw [List.size_toArray, List.size_toArray, hlen, Nat.min_self]
  rw [hmin] at W
  have eE : lcEnv scope cl s₂.heap env = compEnvC scope ((y, s₂.heap.objs.size + 1 + 1) :: cl) (s₂.heap.objs.size + 1) env := by unfold lcEnv; rw [hcf]
  have hCn : s.heap.get? (s₂.heap.objs.size + 1) = none := none_back (keeps_ext k₂) (fresh_none (Nat.le_succ _))
  have hcn : s.heap.get? (s₂.heap.objs.size + 1 + 1) = none := none_back (keeps_ext k₂) (fresh_none (Nat.le_succ_of_le (Nat.le_succ _)))
  have off : ∀ m : Nat, N + 5 ≤ m → m ∉ [N + 4, N + 2, N + 3, N, N + 1, l1, l2] := fun m hm h => by
    simp only [List.mem_cons, List.not_mem_nil, or_false] at h
    rcases h with h | h | h | h | h | h | h
    · exact Nat.ne_of_gt (by omega) h
    · exact Nat.ne_of_gt (by omega) h
    · exact Nat.ne_of_gt (by omega) h
    · exact Nat.ne_of_gt (by omega) h
    · exact Nat.ne_of_gt (by omega) h
    · exact Nat.ne_of_gt (Nat.lt_of_lt_of_le hlt1 (by omega)) h
    · exact Nat.ne_of_gt (Nat.lt_of_lt_of_le hlt2 (by omega)) h
  have Sx := srcs_pairC (cenv := compEnvC scope ((y, s₂.heap.objs.size + 1 + 1) :: cl) (s₂.heap.objs.size + 1) env) (c := s₂.heap.objs.size + 1 + 1) (x := x) (y := y) (px := px) (py := py) (pt := pt) (kt := kt) hh W (fun i h st b hb => by
      obtain ⟨z1, z2, ⟨a, b', z3⟩, z4, z5, z6, z7⟩ := st
      simp only [List.mem_cons, List.not_mem_nil, or_false] at hb
      rcases hb with rfl | rfl | rfl | rfl | rfl | rfl | rfl
      · exact ⟨_, z1⟩
      · exact ⟨_, z2⟩
      · exact ⟨_, z3⟩
      · obtain ⟨o, e, _⟩ := z4; exact ⟨o, e⟩
      · obtain ⟨o, e, _⟩ := z5; exact ⟨o, e⟩
      · obtain ⟨o, e, _⟩ := z6; exact ⟨o, e⟩
      · obtain ⟨o, e, _⟩ := z7; exact ⟨o, e⟩)
    (fun i vals h => by obtain ⟨x, y, _, _, e⟩ := h; exact ⟨x, y, e⟩) (hx _ _) (by simp [compEnvC, relabel, hkind]) (hy _ _) (by simp [compEnvC, List.lookup_cons]) (by simp [compEnvC, relabel, hkind])
    (by show s₂.heap.objs.size + 1 ∉ _; rw [hsz2]; exact off _ (by omega)) (by show s₂.heap.objs.size + 1 + 1 ∉ _; rw [hsz2]; exact off _ (by omega)) (Nat.ne_of_gt (Nat.lt_succ_self _))
  rw [← eE] at Sx
  refine lc_block (s := s) (s₂ := s₂) Sx p f k₂ hP (fun b hb => ?_) List.mem_cons_self ?_ hn ⟨⟨?_, ?_, ⟨.none, .none, ?_⟩, ?_, ?_, ?_, ?_⟩, lcHeap_ns, none, ?_⟩ (fun i s₃ E' hi ht kx => ?_) (fun i s₃ E' hi hp ht kx => ?_) (fun s' k' hns hr => post s₂ s' k' hCn hns hr)
  · rcases List.mem_cons.mp hb with rfl | hb
    · exact hCn
    · rcases List.mem_cons.mp hb with rfl | hb
      · exact hcn
      · refine none_back hks (fresh_none ?_)
        simp only [List.mem_cons, List.not_mem_nil, or_false] at hb
        rw [hN]
        rcases hb with rfl | rfl | rfl | rfl <;> first | exact Nat.le_refl _ | exact Nat.le_add_right _ _
  · show s₂.heap.objs.size ∉ (s₂.heap.objs.size + 1) :: (s₂.heap.objs.size + 1 + 1) :: [N + 4, N + 2, N + 3, N, N + 1, l1, l2]
    rw [hsz2]
    intro h
    rcases List.mem_cons.mp h with h | h
    · exact absurd h (Nat.ne_of_lt (Nat.lt_succ_self _))
    · rcases List.mem_cons.mp h with h | h
      · exact absurd h (Nat.ne_of_lt (Nat.lt_succ_of_lt (Nat.lt_succ_self _)))
      · exact off _ (Nat.le_refl _) h
  · exact lcHeap_old _ _ hz
  · exact lcHeap_old _ _ hTI
  · exact lcHeap_old _ _ hTO
  · exact h1.at fun o e => lcHeap_old _ _ e
  · exact h2.at fun o e => lcHeap_old _ _ e
  · exact hl1'.at fun o e => lcHeap_old _ _ e
  · exact hl2'.at fun o e => lcHeap_old _ _ e
  · unfold lcHeap
    rw [hpc]
    have z : ((s₂.heap.push listO).push dictO).objs.size = s₂.heap.objs.size + 1 + 1 := by rw [Heap.size_push, Heap.size_push]
    rw [← z]
    exact ⟨_, Heap.get?_push_size _ rfl, rfl⟩
  · obtain ⟨m, v₁, v₂, ⟨a, b, ea, eb, ev⟩, hm, hv1, hv2⟩ := ht
    rw [eE]
    injection ev with ev
    injection ev with e1 ev
    injection ev with e2 ev
    subst e1 e2
    exact tests _ _ i v₁ v₂ s₃ m E' (by simpa using ea) (by simpa using eb) kx hm hv1 hv2
  · obtain ⟨m, v₁, v₂, ⟨a, b, ea, eb, ev⟩, hm, hv1, hv2⟩ := ht
    rw [eE]
    injection ev with ev
    injection ev with e1 ev
    injection ev with e2 ev
    subst e1 e2
    exact elts _ _ i v₁ v₂ s₃ m E' (by simpa using ea) (by simpa using eb) hp kx hm hv1 hv2
end
end
section
/-! ## data that is told apart -/
structure Emb {α : Type} [BEq α] (f : α → PyData) (k : Nat) : Prop where
  eq : ∀ a b, PyData.eqv (f a) (f b) = (a == b)
  lay : ∀ a, (f a).canLay0 = true
  dep : ∀ a, (f a).depth ≤ k
def dl {α : Type} (f : α → PyData) (l : List α) : PyData := .list (l.map f)
theorem emb_int : Emb PyData.int 0 := ⟨fun a b => by simp [PyData.eqv], fun _ => rfl, fun _ => Nat.le_refl _⟩
theorem emb_bool : Emb PyData.bool 0 := ⟨fun a b => by simp [PyData.eqv], fun _ => rfl, fun _ => Nat.le_refl _⟩
section
variable {α : Type} [BEq α] {f : α → PyData} {k : Nat}
theorem Emb.eqAll (F : Emb f k) : ∀ a b : List α, PyData.eqvAll (a.map f) (b.map f) = (a == b)
  | [], [] => rfl
  | [], _ :: _ => rfl
  | _ :: _, [] => rfl
  | x :: a, y :: b => by
    show (PyData.eqv (f x) (f y) && PyData.eqvAll (a.map f) (b.map f)) = ((x == y) && (a == b))
    rw [F.eq, F.eqAll a b]
theorem Emb.layAll (F : Emb f k) : ∀ a : List α, PyData.canLayAll0 (a.map f) = true
  | [] => rfl
  | x :: a => by
    show (PyData.canLay0 (f x) && PyData.canLayAll0 (a.map f)) = true
    rw [F.lay, F.layAll a]; rfl
theorem Emb.depAll (F : Emb f k) : ∀ a : List α, PyData.depthAll (a.map f) ≤ k
  | [] => Nat.zero_le _
  | x :: a => Nat.max_le.mpr ⟨F.dep x, F.depAll a⟩
theorem Emb.list (F : Emb f k) : Emb (dl f) (k + 1) :=
  ⟨fun a b => F.eqAll a b, fun a => F.layAll a, fun a => Nat.succ_le_succ (F.depAll a)⟩
theorem Emb.shaped (F : Emb f k) (hk : k ≤ 64) (a : α) : PySem.SeqAt.shaped (f a) = true := by
  unfold PySem.SeqAt.shaped
  rw [F.lay, decide_eq_true (Nat.le_trans (F.dep a) hk)]; rfl

variable {prog : Program} {w : World} {A : Around} {E : Value → Shared → Prop} {s : Shared} {P P' : Addr → Prop} {v u : Value} {Q : Value → Shared → Prop} {n : Nat}
theorem eq_rd (F : Emb f k) (R : Rm A n) {a b : α} (ra : Rd P s.heap v (f a)) (rb : Rd P' s.heap u (f b)) (h : Q (.bool (a == b)) s) (hk : k ≤ 64 := by decide) : wpAny (model prog w) A (compareOp .Eq v u) Q E s := by
  obtain ⟨_, ra⟩ := ra.reads
  obtain ⟨_, rb⟩ := rb.reads
  exact eq_dataH ra rb (F.shaped hk a) (F.shaped hk b) R.u64 (by rw [F.eq]; exact h)
theorem ne_rd (F : Emb f k) (R : Rm A n) {a b : α} (ra : Rd P s.heap v (f a)) (rb : Rd P' s.heap u (f b)) (h : Q (.bool (!(a == b))) s) (hk : k ≤ 64 := by decide) : wpAny (model prog w) A (compareOp .NotEq v u) Q E s := by
  obtain ⟨_, ra⟩ := ra.reads
  obtain ⟨_, rb⟩ := rb.reads
  exact ne_dataH ra rb (F.shaped hk a) (F.shaped hk b) R.u64 (by rw [F.eq]; exact h)
theorem Emb.any (F : Emb f k) [LawfulBEq α] (l : List α) (x : α) : ((l.map f).any fun y => PyData.eqv y (f x)) = l.contains x := by
  induction l with
  | nil => rfl
  | cons y l ih =>
    rw [List.map_cons, List.any_cons, ih, F.eq, List.contains_cons]
    congr 1
    rw [Bool.eq_iff_iff, beq_iff_eq, beq_iff_eq]; exact eq_comm
theorem in_rd (F : Emb f k) [LawfulBEq α] (R : Rm A n) {l : List α} {x : α} (rc : Rd P s.heap v (dl f l)) (rx : Rd P' s.heap u (f x)) (h : Q (.bool (l.contains x)) s) (hk : k ≤ 64 := by decide) : wpAny (model prog w) A (compareOp .In u v) Q E s := by
  obtain ⟨_, ra⟩ := rc.reads
  obtain ⟨_, rb⟩ := rx.reads
  refine PySem.SeqAt.in_list_reads ra rb (F.layAll l) (F.lay x) ?_ (by rw [F.any]; exact h)
  have := R.u65
  have := F.dep x
  omega
theorem notin_rd (F : Emb f k) [LawfulBEq α] (R : Rm A n) {l : List α} {x : α} (rc : Rd P s.heap v (dl f l)) (rx : Rd P' s.heap u (f x)) (h : Q (.bool (!l.contains x)) s) (hk : k ≤ 64 := by decide) : wpAny (model prog w) A (compareOp .NotIn u v) Q E s := by
  obtain ⟨_, ra⟩ := rc.reads
  obtain ⟨_, rb⟩ := rx.reads
  refine PySem.SeqAt.notIn_list_reads ra rb (F.layAll l) (F.lay x) ?_ (by rw [F.any]; exact h)
  have := R.u65
  have := F.dep x
  omega
end

/-! ## list.remove, where the items are read at the heap -/
section
open AutoSeq1 (wpAny_loadPart')
open MeetsSeq MeetsSeq2 MeetsSeq3 SeqRoads2 PySem.SeqAt
theorem remove_loopAt (l : Addr) (items : Array Value) (n : Nat) (sl : Array (Option Value)) (x : Value) (e : Value → Bool) (j : Nat) (hj : j < items.size) (hit : e items[j] = true) (hs1 : items.size ≤ sizeLine) (k : Nat) :
    ∀ i : Nat, j - i = k → i ≤ j → (∀ m (hm : m < items.size), i ≤ m → m < j → e items[m] = false) → Meets (Builtin.«list.remove.loop» ⟨[.ref l, x, rawInt i], []⟩)
      (fun A R s => s.heap.get? l = some { cls := .type "list", dict := none, data := .seq items n, slots := sl } ∧ (∀ y, y ∈ items → EqAt A.in1 s y x (e y)) ∧ R (.ok (.ret .none)) { s with heap := s.heap.update l (Obj.mapSeq fun xs => xs.eraseIdxIfInBounds j) }) := by
  induction k with
  | zero =>
    intro i hk hij hno prog w A R s h
    obtain ⟨hp, g, d, tk, os⟩ := s; obtain ⟨hl, he, h⟩ := h
    have hij' : i = j := by omega
    subst hij'
    wp_walk using wpAny_loadPart' hl
    have hi : items[((i : Nat) : Int).toNat]? = some items[i] := by simp [hj]
    rw [hi]
    refine wpAny_bind (he _ (Array.getElem_mem hj) prog w _ _ ?_)
    rw [hit]
    have hz' : (items.eraseIdxIfInBounds i).size ≤ sizeLine + 1 := Nat.le_trans (size_erased items _) (Nat.le_succ_of_le hs1)
    wp_walk using (wpAny_updateSeq hl rfl (hz := hs1) (_hz' := hz')), wpAny_loadPart' hl
    simpa using h
  | succ k ih =>
    intro i hk hij hno prog w A R s h
    obtain ⟨hp, g, d, tk, os⟩ := s; obtain ⟨hl, he, h⟩ := h
    have hlt : i < items.size := by omega
    wp_walk using wpAny_loadPart' hl
    have hi : items[((i : Nat) : Int).toNat]? = some items[i] := by simp [hlt]
    have hc : ((i : Int) + 1) = ((i + 1 : Nat) : Int) := by push_cast; rfl
    rw [hi]
    refine wpAny_bind (he _ (Array.getElem_mem hlt) prog w _ _ ?_)
    rw [hno i hlt (Nat.le_refl _) (by omega)]
    wp_walk
    rw [hc]
    exact ⟨plainId_quiet plain_remove_loop _, codeAny_builtin entry_remove_loop (by
      rw [Around.under_plainId plain_remove_loop _]
      exact ih (i + 1) (by omega) (by omega) (fun m hm h1 h2 => hno m hm (by omega) h2) prog w A R _ ⟨hl, he, h⟩)⟩

theorem list_removeAt (l : Addr) (items : Array Value) (n : Nat) (sl : Array (Option Value)) (x : Value) (e : Value → Bool) (j : Nat) (hj : j < items.size)
    (hit : e items[j] = true) (hno : ∀ m (hm : m < items.size), m < j → e items[m] = false) (hs1 : items.size ≤ sizeLine) :
    Meets (Builtin.«list.remove» ⟨[.ref l, x], []⟩)
      (fun A R s => s.heap.get? l = some { cls := .type "list", dict := none, data := .seq items n, slots := sl } ∧ (∀ y, y ∈ items → EqAt A.in1 s y x (e y)) ∧ R (.ok (.ret .none)) { s with heap := s.heap.update l (Obj.mapSeq fun xs => xs.eraseIdxIfInBounds j) }) := by
  intro prog w A R s h
  obtain ⟨hp, g, d, tk, os⟩ := s; obtain ⟨hl, he, h⟩ := h
  wp_walk using wpAny_loadPart' hl
  exact ⟨plainId_quiet plain_remove_loop _, codeAny_builtin entry_remove_loop (by
    rw [Around.under_plainId plain_remove_loop _]
    exact remove_loopAt l items n sl x e j hj hit hs1 _ 0 rfl (Nat.zero_le _) (fun m hm _ h2 => hno m hm h2) prog w A R _ ⟨hl, he, h⟩)⟩

theorem remove_loop_noneAt (l : Addr) (items : Array Value) (n : Nat) (sl : Array (Option Value)) (x : Value) (e : Value → Bool) (hno : ∀ m (hm : m < items.size), e items[m] = false) (k : Nat) :
    ∀ i : Nat, items.size - i = k → Meets (Builtin.«list.remove.loop» ⟨[.ref l, x, rawInt i], []⟩)
      (fun A R s => s.heap.get? l = some { cls := .type "list", dict := none, data := .seq items n, slots := sl } ∧ (∀ y, y ∈ items → EqAt A.in1 s y x (e y)) ∧ raisesNew "ValueError" A R s) := by
  induction k with
  | zero =>
    intro i hk prog w A R s h
    obtain ⟨hp, g, d, tk, os⟩ := s; obtain ⟨hl, he, h⟩ := h
    wp_walk using wpAny_loadPart' hl
    have hi : items[((i : Nat) : Int).toNat]? = none := by simp; omega
    rw [hi]
    wp_walk
    exact_raiseError plainExc_ValueError h.1 h.2
  | succ k ih =>
    intro i hk prog w A R s h
    obtain ⟨hp, g, d, tk, os⟩ := s; obtain ⟨hl, he, h⟩ := h
    have hlt : i < items.size := by omega
    wp_walk using wpAny_loadPart' hl
    have hi : items[((i : Nat) : Int).toNat]? = some items[i] := by simp [hlt]
    have hc : ((i : Int) + 1) = ((i + 1 : Nat) : Int) := by push_cast; rfl
    rw [hi]
    refine wpAny_bind (he _ (Array.getElem_mem hlt) prog w _ _ ?_)
    rw [hno i hlt]
    wp_walk
    rw [hc]
    exact ⟨plainId_quiet plain_remove_loop _, codeAny_builtin entry_remove_loop (by
      rw [Around.under_plainId plain_remove_loop _]
      exact ih (i + 1) (by omega) prog w A R _ ⟨hl, he, h⟩)⟩

theorem list_remove_noneAt (l : Addr) (items : Array Value) (n : Nat) (sl : Array (Option Value)) (x : Value) (e : Value → Bool) (hno : ∀ m (hm : m < items.size), e items[m] = false) :
    Meets (Builtin.«list.remove» ⟨[.ref l, x], []⟩)
      (fun A R s => s.heap.get? l = some { cls := .type "list", dict := none, data := .seq items n, slots := sl } ∧ (∀ y, y ∈ items → EqAt A.in1 s y x (e y)) ∧ raisesNew "ValueError" A R s) := by
  intro prog w A R s h
  obtain ⟨hp, g, d, tk, os⟩ := s; obtain ⟨hl, he, h⟩ := h
  wp_walk using wpAny_loadPart' hl
  exact ⟨plainId_quiet plain_remove_loop _, codeAny_builtin entry_remove_loop (by
    rw [Around.under_plainId plain_remove_loop _]
    exact remove_loop_noneAt l items n sl x e hno _ 0 rfl prog w A R _ ⟨hl, he, h⟩)⟩
end
end
section
open PySem PySem.Calls PySem.W PyProof.Rows PySem.Spec PySem.Builtin
/-! ## bytes.decode('ascii') -/
theorem asc_run {id : String} {b0 b1 b2 b3 : UInt8} (h0 : b0.toNat < 128) (h1 : b1.toNat < 128) (h2 : b2.toNat < 128) (h3 : b3.toNat < 128) :
    _codecs.runDecoder id _codecs.asciiDecoder none true #[b0, b1, b2, b3] 0 [] = pure (#[b0.toNat, b1.toNat, b2.toNat, b3.toNat], 4) := by
  have f0 : _codecs.asciiDecoder.find true #[b0, b1, b2, b3] 0 = .char b0.toNat 1 := if_pos h0
  have f1 : _codecs.asciiDecoder.find true #[b0, b1, b2, b3] 1 = .char b1.toNat 2 := if_pos h1
  have f2 : _codecs.asciiDecoder.find true #[b0, b1, b2, b3] 2 = .char b2.toNat 3 := if_pos h2
  have f3 : _codecs.asciiDecoder.find true #[b0, b1, b2, b3] 3 = .char b3.toNat 4 := if_pos h3
  unfold _codecs.runDecoder
  simp only [Std.Legacy.Range.forIn_eq_forIn_range', Std.Legacy.Range.size]
  have e : (#[b0, b1, b2, b3].size - 0 + 1 - 1) / 1 = 4 := by simp
  have hs : #[b0, b1, b2, b3].size = 4 := rfl
  rw [e]
  have hz : ¬ (#[] : Array Nat).size > sizeLine := by rw [sizeLine_eq]; simp
  simp [List.range', hs, f0, f1, f2, f3, sizeLine_eq, _codecs.Found.char]

theorem asc_road {id : String} {b : Array UInt8} : _codecs.decodeRoad id b (PySem.Str.ofString "ascii") none [] = (_codecs.runDecoder id _codecs.asciiDecoder none true b 0 [] >>= fun r => mkStr ⟨r.1⟩) := by kernel_rfl
theorem asc_entry {c : UInt8} {cs : List UInt8} {t u : Tok} : «bytes.decode» ⟨[.bytes (c :: cs).toArray t, .str (PySem.Str.ofString "ascii") u], []⟩ = (mkStr (PySem.Str.ofString "utf-8") >>= fun _ => mkStr (PySem.Str.ofString "ascii") >>= fun e => mkStr (PySem.Str.ofString "bytes.decode") >>= fun d =>
    call (.builtin "_codecs.decode.text") [.bytes (c :: cs).toArray t, e, .none, d] >>= fun v => ret v) := by kernel_rfl
theorem asc_args (a b : Value) : argsOk "bytes.decode" ⟨[a, b], []⟩ := by
  unfold argsOk; kernel_rfl
theorem asc_text {b0 b1 b2 b3 : UInt8} {t t1 t2 : Tok} {d : PySem.Str} (h0 : b0.toNat < 128) (h1 : b1.toNat < 128) (h2 : b2.toNat < 128) (h3 : b3.toNat < 128) :
    Meets («_codecs.decode.text» ⟨[.bytes #[b0, b1, b2, b3] t, .str (PySem.Str.ofString "ascii") t1, .none, .str d t2], []⟩) (fun _ R s => R (.ok (.ret (.str ⟨#[b0.toNat, b1.toNat, b2.toNat, b3.toNat]⟩ s.toks))) { s with toks := s.toks + 1 }) := by
  refine .of_wp fun prog w A R s h => ?_
  show wpAny _ _ (Bytes.bytesLike _ (.bytes #[b0, b1, b2, b3] t) >>= fun r => _) _ _ s
  refine wpAny_bind (wpAny_of_eq KBd.like_eq ?_)
  refine wpAny_bind (wpAny_of_eq KBd.held_eq ?_)
  show wpAny _ _ (_codecs.decodeRoad _ #[b0, b1, b2, b3] (PySem.Str.ofString "ascii") none [] >>= fun v => _) _ _ s
  rw [asc_road, asc_run h0 h1 h2 h3]
  refine wpAny_bind (wpAny_bind (wpAny_pure ?_))
  exact wpAny_mkStr (wpAny_pure ⟨_, rfl, h⟩) (by rw [sizeLine_eq]; exact (by decide : 4 ≤ 16777216))
theorem asc_meets {b0 b1 b2 b3 : UInt8} {t u : Tok} (h0 : b0.toNat < 128) (h1 : b1.toNat < 128) (h2 : b2.toNat < 128) (h3 : b3.toNat < 128) :
    Meets («bytes.decode» ⟨[.bytes #[b0, b1, b2, b3] t, .str (PySem.Str.ofString "ascii") u], []⟩) (fun _ R s => ∀ t' k, R (.ok (.ret (.str ⟨#[b0.toNat, b1.toNat, b2.toNat, b3.toNat]⟩ t'))) { s with toks := k }) := by
  refine .of_wp fun prog w A R s h => ?_
  have e : («bytes.decode» ⟨[.bytes #[b0, b1, b2, b3] t, .str (PySem.Str.ofString "ascii") u], []⟩) = _ := asc_entry (c := b0) (cs := [b1, b2, b3]) (t := t) (u := u)
  rw [e]
  refine wpAny_bind (wpAny_mkStr ?_ (by decide))
  refine wpAny_bind (wpAny_mkStr ?_ (by decide))
  refine wpAny_bind (wpAny_mkStr ?_ (by decide))
  exact wpAny_bind (call_function_meets KBd.kind_text KBd.plain_text KBd.entry_text (KBd.args_text _ _ _ _) (asc_text h0 h1 h2 h3) (wpAny_pure ⟨_, rfl, h _ _⟩))
section
variable {prog : Program} {w : World} {A : Around} {E : Value → Shared → Prop} {s : Shared}
theorem decode_ascii {b0 b1 b2 b3 : UInt8} {t u : Tok} {Q : Value → Shared → Prop} (h0 : b0.toNat < 128) (h1 : b1.toNat < 128) (h2 : b2.toNat < 128) (h3 : b3.toNat < 128)
    (h : ∀ t' k, Q (.str ⟨#[b0.toNat, b1.toNat, b2.toNat, b3.toNat]⟩ t') { s with toks := k }) :
    wpAny (model prog w) A (call (.builtin "bytes.decode") [.bytes #[b0, b1, b2, b3] t, .str (PySem.Str.ofString "ascii") u]) Q E s :=
  call_meets FB.slot_bytes_decode (typeIs_bytes _ _ _) FB.entry_bytes_decode (asc_args _ _) (asc_meets h0 h1 h2 h3) h
end
end
section
section
variable {prog : Program} {w : World} {A : Around} {R : Result → Shared → Prop} {s : Shared}

theorem for_step {target : PySem.Expr} {it : Value} {body orelse : List Stmt} {env : Env}
    (h : ∀ E', wpAny (model prog w) A (pyNext it) (fun r s₁ => match r with
      | none => wpAny (model prog w) A (execs orelse env) (fun f s₃ => R (.ok f) s₃) E' s₁
      | some v => wpAny (model prog w) A (assign target env v) (fun _ s₂ => wpAny (model prog w) A (execs body env) (fun f s₃ => match f with
          | .next | .cont => codeAny (model prog w) A (.forLoop target it body orelse env) R s₃
          | .brk => R (.ok .next) s₃
          | .ret v => R (.ok (.ret v)) s₃) E' s₂) E' s₁) E' s)
    (ht : ∀ v, letOwnedTupleGo target it v = pure () := by intro _; rfl) : codeAny (model prog w) A (.forLoop target it body orelse env) R s := by
  refine codeAny_of_tree ?_
  show wpAny _ A ((forTurn target it body orelse env).onRaise (fun x => do noteFrame x env; theTreesLotGoes x)) _ _ s
  refine wpAny_noted ?_
  simp only [forTurn]
  refine wpAny_bind (wpAny_standAt (wpAny_bind (wpAny_onRaise (wpAny_mono (h _) (fun r s₁ h₁ => ?_) fun _ _ h' => wpAny_standAt h'))))
  cases r with
  | none => exact wpAny_pure ⟨rfl, codeAny_block h₁⟩
  | some v =>
    refine wpAny_bind (wpAny_of_eq (ht v) ?_)
    refine wpAny_bind (wpAny_mono h₁ (fun _ s₂ h₂ => wpAny_bind (wpAny_mono h₂ (fun f s₃ h₃ => ?_) fun _ _ h' => h')) fun _ _ h' => h')
    cases f with
    | next => exact wpAny_pure ⟨rfl, h₃⟩
    | cont => exact wpAny_pure ⟨rfl, h₃⟩
    | brk => exact wpAny_pure h₃
    | ret v => exact wpAny_pure h₃

theorem while_step {test : PySem.Expr} {body orelse : List Stmt} {env : Env}
    (h : ∀ E', wpAny (model prog w) A (isTrue test env (eval test env)) (fun b s₂ =>
        if b then wpAny (model prog w) A (execs body env) (fun f s₃ => match f with
            | .next | .cont => codeAny (model prog w) A (.whileLoop test body orelse env) R s₃
            | .brk => R (.ok .next) s₃
            | .ret v => R (.ok (.ret v)) s₃) E' s₂
        else wpAny (model prog w) A (execs orelse env) (fun f s₃ => R (.ok f) s₃) E' s₂) E' s) :
    codeAny (model prog w) A (.whileLoop test body orelse env) R s := by
  refine codeAny_of_tree ?_
  show wpAny _ A ((whileTurn test body orelse env).onRaise (fun x => do noteFrame x env; theTreesLotGoes x)) _ _ s
  refine wpAny_noted ?_
  simp only [whileTurn]
  refine wpAny_bind (wpAny_mono (h _) (fun b s₂ h₂ => ?_) fun _ _ h' => h')
  cases b with
  | false =>
    simp only [Bool.false_eq_true, if_false] at h₂ ⊢
    exact wpAny_bind (wpAny_mono h₂ (fun f s₃ h₃ => wpAny_pure h₃) fun _ _ h' => h')
  | true =>
    simp only [if_true] at h₂ ⊢
    refine wpAny_bind (wpAny_mono h₂ (fun f s₃ h₃ => ?_) fun _ _ h' => h')
    cases f with
    | next => exact wpAny_pure ⟨rfl, h₃⟩
    | cont => exact wpAny_pure ⟨rfl, h₃⟩
    | brk => exact wpAny_pure h₃
    | ret v => exact wpAny_pure h₃
end

section
variable {s₀ s : Shared} {m cm : Str → Option Value} {L : Addr} {cs : List (Str × Addr)}
/-- an object of the call's own that is no dict and no cell is changed in place -/
theorem icc_upd {D : Addr} {o : Obj} {h' : Heap} {tk : Nat} (x : InCallC s₀ L m cs cm s) (ho : s.heap.get? D = some o) (hd : ∀ es n, o.data ≠ .dict es n) (hc : ∀ v, o.data ≠ .cell v) (hD : s₀.heap.get? D = none) (hs : Heap.SameBut D s.heap h') :
    InCallC s₀ L m cs cm { s with heap := h', toks := tk } := by
  refine ⟨⟨?_, ?_, fun b o e => hs.extBut b o (fun q => by rw [q, hD] at e; cases e) (x.toInCall.keep b o e), x.toInCall.fresh⟩, fun n c e => ?_, x.apart, x.above⟩
  · obtain ⟨h₁, tk₁, rfl⟩ := x.toInCall.same
    exact ⟨h', _, rfl⟩
  · refine x.toInCall.ns.sameBut hs fun q => ?_
    obtain ⟨oL, es, ep, hoL, hdL, _, _⟩ := x.toInCall.ns
    rw [q, ho] at hoL; cases hoL
    exact hd _ _ hdL
  · refine (x.cell n c e).sameBut hs fun q => ?_
    obtain ⟨oc, hoc, hdc⟩ := x.cell n c e
    rw [q, ho] at hoc; cases hoc
    exact hc _ hdc
theorem plainL_sk {h h' : Heap} {a : Addr} {vs : Array Value} (x : PlainL h a vs) (k : SK h h') : PlainL h' a vs := by
  obtain ⟨o, n, e, c, d, hd⟩ := x
  exact ⟨o, n, k _ _ e (fun es n' q => by rw [hd] at q; cases q) (fun v q => by rw [hd] at q; cases q), c, d, hd⟩
theorem icc_app {D : Addr} {vs : Array Value} {h' : Heap} {tk : Nat} (x : InCallC s₀ L m cs cm s) (hl : PlainL s.heap D vs) (hD : s₀.heap.get? D = none) (hs : Heap.SameBut D s.heap h') :
    InCallC s₀ L m cs cm { s with heap := h', toks := tk } := by
  obtain ⟨o, n, e, c, d, hd⟩ := hl
  exact icc_upd x e (fun es n' q => by rw [hd] at q; cases q) (fun v q => by rw [hd] at q; cases q) hD hs
end

section
variable {prog : Program} {w : World} {A : Around} {E : Value → Shared → Prop} {s : Shared} {env : Env}
/-- x.append(e) as a statement -/
theorem append_stmt {x : Str} {px pa pc ps : Pos} {e : PySem.Expr} {D : Addr} {vs : List Value} {m cm : Str → Option Value} {Q : Flow → Shared → Prop} (F : FS env m cm s.heap) (hx : m x = some (.ref D)) (hl : PlainL s.heap D vs.toArray)
    (h : wpAny (model prog w) A (eval e env) (fun v s₁ => PlainL s₁.heap D vs.toArray ∧ vs.length ≤ sizeLine ∧ ∀ h', PlainL h' D (vs ++ [v]).toArray → Heap.SameBut D s₁.heap h' → Q .next { s₁ with heap := h' }) E s)
    (hk : env.scope.kind = .function := by rfl) (hkx : env.kindOf x = some .local := by rfl) (hdb : (x == ("__debug__" : Str)) = false := by decide)
    (hline : (pa.endLine == pc.line) = true := by rfl) (htrees : backTo pc (starEach [e] env) = [(false, eval e env)] := by rfl) (hi : interactive env = false := by rfl)
    (hbase : attributeBase (.Name x px) "append" env (eval (.Name x px) env) = eval (.Name x px) env := by rfl) :
    wpAny (model prog w) A (exec (.Expr (.Call (.Attribute (.Name x px) "append" pa) [e] [] pc) ps) env) Q E s := by
  refine wpAny_Expr ?_ hi rfl
  refine wpAny_Call_append hbase (by rw [htrees]; rfl) hline htrees ?_
  refine nmL F hx ?_ hk hkx hdb
  refine ⟨D, _, rfl, hl, wpAny_mono h (fun v s₁ q => ?_) fun _ _ y => y⟩
  refine list_append_plainL q.1 (fun h' hl' hs' => ?_) (by rw [List.size_toArray]; exact q.2.1)
  exact q.2.2 h' (by simpa using hl') hs'
end
end
section
theorem bitOr_nat (x y : Nat) : Builtin.bitOr (x : Int) (y : Int) = ((x ||| y : Nat) : Int) := by
  have hx : Builtin.bitNot (x : Int) = -(x : Int) - 1 := rfl
  have hy : Builtin.bitNot (y : Int) = -(y : Int) - 1 := rfl
  unfold Builtin.bitOr Builtin.bitAnd
  rw [decide_eq_false (by rw [hx]; omega), decide_eq_false (by rw [hy]; omega)]
  simp only [Builtin.bitNot]
  have e1 : (-(-(x : Int) - 1) - 1).toNat = x := by omega
  have e2 : (-(-(y : Int) - 1) - 1).toNat = y := by omega
  rw [e1, e2]
  omega
theorem lc_step {c b : Int} (h0 : 0 ≤ c) (h1 : 0 ≤ b) (h2 : b < 256) : Builtin.bitAnd (Builtin.bitOr (c * 2 ^ (8 : Int).toNat) b) 65535 = (c * 256 + b) % 65536 := by
  obtain ⟨x, rfl⟩ := Int.eq_ofNat_of_zero_le h0
  obtain ⟨y, rfl⟩ := Int.eq_ofNat_of_zero_le h1
  have e : ((x : Int) * (2 : Int) ^ (8 : Int).toNat) = ((x <<< 8 : Nat) : Int) := by
    rw [Nat.shiftLeft_eq]; show (x : Int) * (2 : Int) ^ 8 = _; push_cast; rfl
  rw [e, bitOr_nat, ← Nat.shiftLeft_add_eq_or_of_lt (by omega : y < 2 ^ 8), bitAnd_m16, Nat.shiftLeft_eq]
  push_cast
  rfl
theorem pick_step {c : Int} {k : Nat} (j : Int) (hj : j = (k : Int)) : Builtin.bitAnd (c.fdiv (2 ^ j.toNat)) 63 = (c / 2 ^ k) % 64 := by
  subst hj
  rw [bitAnd_m6, Int.toNat_natCast, Int.fdiv_eq_ediv_of_nonneg _ (Int.le_of_lt (kbt_pos k))]
end
section
/-- kept, but for the slots of some objects -/
def KS (as : List Addr) (h h' : Heap) : Prop := (∀ b o, b ∉ as → h.get? b = some o → h'.get? b = some o) ∧ ∀ b ∈ as, ∀ o, h.get? b = some o → ∃ sl, h'.get? b = some { o with slots := sl }
theorem KS.of_ext {as : List Addr} {h h' : Heap} (k : Ext h h') : KS as h h' := ⟨fun b o _ e => k b o e, fun b _ o e => ⟨o.slots, k b o e⟩⟩
theorem KS.trans {as : List Addr} {a b c : Heap} (x : KS as a b) (y : KS as b c) : KS as a c :=
  ⟨fun p o hp e => y.1 p o hp (x.1 p o hp e), fun p hp o e => let ⟨_, e1⟩ := x.2 p hp o e; let ⟨sl, e2⟩ := y.2 p hp _ e1; ⟨sl, e2⟩⟩
theorem KS.get {as : List Addr} {h h' : Heap} (x : KS as h h') {b : Addr} {o : Obj} (e : h.get? b = some o) : ∃ sl, h'.get? b = some { o with slots := sl } := by
  by_cases hb : b ∈ as
  · exact x.2 b hb o e
  · exact ⟨o.slots, x.1 b o hb e⟩
/-- an exception under way: e with its traceback T -/
structure Fl (as : List Addr) (h0 h : Heap) (e T : Addr) (fl : Value) : Prop where
  ks : KS as h0 h
  e0 : h0.get? e = none
  T0 : h0.get? T = none
  Te : T ≠ e
  there : ∃ oe vs, h.get? e = some oe ∧ oe.cls = .type "ValueError" ∧ oe.data = .fields vs ∧ vs[1]? = some (.ref T)
  tb : ∃ oT ts, h.get? T = some oT ∧ oT.data = .fields ts ∧ ts[3]? = some fl

section
variable {M : Model} {A : Around} {E : Value → Shared → Prop} {s : Shared} {env env0 : Env} {L Lw e T : Addr} {oL oLw : Obj}
theorem raise_note {h1 : Heap} {tk : Nat} {Q : Unit → Shared → Prop} (hfr : A.frames = some [env, env0]) (hf : env.frame = some L) (hf0 : env0.frame = some Lw) (hk : env.scope.kind ≠ .module) (hk0 : env0.scope.kind ≠ .module)
    (hL : s.heap.get? L = some oL) (hLw : s.heap.get? Lw = some oLw) (hdL : ∀ vs, oL.data ≠ .fields vs) (hdLw : ∀ vs, oLw.data ≠ .fields vs) (hx : Heap.NewExc s.heap h1 e "ValueError")
    (k : ∀ h2 T, Fl [L, Lw] s.heap h2 e T (rawInt L) → Q () { s with heap := h2, toks := tk }) :
    wpAny M A (noteFrame (.ref e) env) Q E { s with heap := h1, toks := tk } := by
  obtain ⟨ob, t, he, hc, hd⟩ := hx.there
  have bn : ∀ b ∈ [L, Lw], (hideAll s.heap [L, Lw]).get? b = none := fun b hb => hideAll_none _ hb
  have stay : (hideAll s.heap [L, Lw]).StaysIn h1 := fun b o hb => hx.keeps b o (of_hideAll _ hb)
  have ff : h1.FunFrames (hideAll s.heap [L, Lw]) [env, env0] := ⟨hk, ⟨L, oL, hf, bn L (by simp), hx.keeps _ _ hL, hdL⟩, hk0, ⟨Lw, oLw, hf0, bn Lw (by simp), hx.keeps _ _ hLw, hdLw⟩, trivial⟩
  have en : (hideAll s.heap [L, Lw]).get? e = none := by
    cases q : (hideAll s.heap [L, Lw]).get? e with
    | none => rfl
    | some o => have := of_hideAll _ q; rw [hx.new] at this; cases this
  unfold noteFrame
  simp only [hf]
  refine wpAny_bind (wpAny_field he hd (x := .none) rfl ?_)
  rw [if_neg (by decide)]
  refine wpAny_entryW (s := { s with heap := h1, toks := tk }) (base := hideAll s.heap [L, Lw]) (outer := [env0]) hfr ff hf he stay en hd (by simp) (a0 := t) rfl fun h2 ⟨a1, a2, a3, a4⟩ => ?_
  obtain ⟨oe, vs, T, oT, ts, b1, ⟨b2, _⟩, b3, b4, b5, b6, b7, b8, b9⟩ := a3
  have slots : ∀ b o, s.heap.get? b = some o → (∀ vs, o.data ≠ .fields vs) → ∃ sl, h2.get? b = some { o with slots := sl } := fun b o hb hn => a4 b o (hx.keeps b o hb) hn
  have ks : KS [L, Lw] s.heap h2 := by
    refine ⟨fun b o hb he' => a1 b o (hideAll_get _ he' hb), fun b hb o he' => ?_⟩
    rcases List.mem_cons.mp hb with rfl | hb
    · rw [hL] at he'; cases he'
      exact slots _ _ hL hdL
    · rw [List.mem_singleton.mp hb, hLw] at he'; cases he'
      rw [List.mem_singleton.mp hb]
      exact slots _ _ hLw hdLw
  have ne : ∀ b o, s.heap.get? b = some o → (∀ vs, o.data ≠ .fields vs) → T ≠ b := fun b o hb hn q => by
    obtain ⟨sl, e2⟩ := slots b o hb hn
    rw [← q, b7] at e2; cases e2
    exact hn _ b8
  refine k h2 T ⟨ks, hx.new, ?_, b6, ⟨oe, vs, b1, b2.trans hc, b3, b4⟩, ⟨oT, ts, b7, b8, b9⟩⟩
  cases q : s.heap.get? T with
  | none => rfl
  | some o =>
    have hT : T ∉ [L, Lw] := fun hm => by
      rcases List.mem_cons.mp hm with z | hm
      · exact ne L oL hL hdL z
      · exact ne Lw oLw hLw hdLw (List.mem_singleton.mp hm)
    rw [hideAll_get _ q hT] at b5; cases b5

theorem Fl.set {as : List Addr} {h0 : Heap} {fl : Value} {f : Option Addr} {Q : Unit → Shared → Prop} (x : Fl as h0 s.heap e T fl) (hTas : T ∉ as) (k : ∀ h2, Fl as h0 h2 e T (f.elim .none fun f => rawInt f) → (∀ b, b ≠ T → h2.get? b = s.heap.get? b) → Q () { s with heap := h2 }) :
    wpAny M A (setFlight (.ref e) f) Q E s := by
  obtain ⟨ks, e0, T0, Te, ⟨oe, vs, b1, b2, b3, b4⟩, ⟨oT, ts, b7, b8, b9⟩⟩ := x
  have hsz : 3 < ts.size := (Array.getElem?_eq_some_iff.mp b9).1
  unfold setFlight
  refine wpAny_bind (wpAny_field b1 b3 b4 ?_)
  rw [if_pos (show (Value.ref T != Value.none) = true from by simp)]
  have other : ∀ b, b ≠ T → (s.heap.update T (Obj.mapFields (·.setIfInBounds 3 (f.elim Value.none fun f => rawInt f)))).get? b = s.heap.get? b := fun b hb => Heap.get?_update_other _ _ (Ne.symm hb)
  refine wpAny_setField b7 b8 hsz (k _ ⟨⟨fun b o hb e' => ?_, fun b hb o e' => ?_⟩, e0, T0, Te, ⟨oe, vs, (other _ (Ne.symm Te)).trans b1, b2, b3, b4⟩,
    ⟨_, _, Heap.get?_update_self _ b7 (Obj.isFreed_of_fields (Obj.data_mapFields b8 _)), Obj.data_mapFields b8 _, by simp [Array.getElem?_setIfInBounds, hsz]⟩⟩ other)
  · rw [other b fun q => by rw [q, T0] at e'; cases e']
    exact ks.1 b o hb e'
  · obtain ⟨sl, e2⟩ := ks.2 b hb o e'
    exact ⟨sl, (other b fun q => hTas (q ▸ hb)).trans e2⟩
theorem Fl.cameBack {as : List Addr} {h0 : Heap} {fl : Value} (x : Fl as h0 s.heap e T fl) (hTas : T ∉ as) (hf : env.frame = some L)
    (k : ∀ h2, Fl as h0 h2 e T (rawInt L) → E (.ref e) { s with heap := h2 }) : cameBackBy M A env E (.ref e) s := by
  obtain ⟨oe, vs, b1, b2, b3, b4⟩ := x.there
  unfold cameBackBy
  refine wpAny_bind (wpAny_field b1 b3 b4 ?_)
  rw [if_neg (by simp), hf]
  exact x.set hTas fun h2 y _ => k h2 y
theorem Fl.again {as : List Addr} {h0 : Heap} {Q : Unit → Shared → Prop} (x : Fl as h0 s.heap e T (rawInt L)) (hf : env.frame = some L) (k : Q () s) : wpAny M A (noteFrame (.ref e) env) Q E s := by
  obtain ⟨oe, vs, b1, b2, b3, b4⟩ := x.there
  obtain ⟨oT, ts, b7, b8, b9⟩ := x.tb
  exact wpAny_noteFrame_inFlight hf b1 b3 b4 b7 b8 b9 k
end
end
section
noncomputable abbrev KK (w : World) : Frag := MK w.params
abbrev FnAt (w : World) (a : Addr) : Type := { fd : FuncData // (KK w).lookup a = some ⟨.type "function", none, .func fd, #[]⟩ }

section
variable {M : Model} {A : Around} {E : Value → Shared → Prop} {s : Shared} {Q : Value → Shared → Prop}
theorem newListP_ev {vs : List Value} (h : ∀ a s', Keeps s s' → s.heap.get? a = none → PlainL s'.heap a vs.toArray → Q (.ref a) s') (hsz : vs.length ≤ sizeLine := by size_fits) : wpAny M A (newList vs) Q E s := by
  refine wpAny_newObj_type (h _ _ ⟨_, s.toks, rfl, Ext.push _ _⟩ (fresh_none (Nat.le_refl _)) ⟨_, _, Heap.get?_push_size _ rfl, rfl, rfl, rfl⟩) ?_
  show vs.toArray.size ≤ sizeLine
  rw [List.size_toArray]; exact hsz
theorem newList_ev {vs : List Value} (h : ∀ a s', Keeps s s' → s.heap.get? a = none → PlainL s'.heap a vs.toArray → Q (.ref a) s') (hsz : vs.length ≤ sizeLine := by size_fits) : wpAny M A (newList vs) Q E s := by
  refine wpAny_newObj_type (h _ _ ⟨_, s.toks, rfl, Ext.push _ _⟩ (fresh_none (Nat.le_refl _)) ⟨_, _, Heap.get?_push_size _ rfl, rfl, rfl, rfl⟩) ?_
  show vs.toArray.size ≤ sizeLine
  rw [List.size_toArray]; exact hsz
end

section
variable {prog : Program} {w : World} {A : Around} {E : Value → Shared → Prop} {s : Shared} {env : Env} {Q : Value → Shared → Prop} {K : Frag} {mg mb : Str → Option Value}
/-- a call, by its name, of a def of the program's own -/
theorem ev_own {x : Str} {f : Addr} {o : Obj} {fd : FuncData} {e : PySem.Expr} {rest : List PySem.Expr} {np pos : Pos} (G : Gl K mg mb s.heap) (hf : K.lookup f = some o) (hd : o.data = .func fd) (hx : nsIn K mainGlobals x = some (some (.ref f)))
    (h : wpAny (model prog w) A (spliced (backTo pos (starEach (e :: rest) env))) (fun vs s₁ => Gl K mg mb s₁.heap ∧ wpAny (model prog w) A (call (.ref f) vs) Q E s₁) E s)
    (hk : env.scope.kind = .function := by rfl) (hkx : env.kindOf x = some .globalImplicit := by rfl) (hg : env.globals = mainGlobals := by rfl) (hdb : (x == ("__debug__" : Str)) = false := by decide)
    (he : starEach (e :: rest) env = (false, eval e env) :: starEach rest env := by rfl)
    (hc : eval (.Call (.Name x np) (e :: rest) [] pos) env = (do callWith pos (← eval (.Name x np) env) [] (backTo pos (starEach (e :: rest) env)) (backToKw pos (keywordEach [] env))) := by rfl) :
    wpAny (model prog w) A (eval (.Call (.Name x np) (e :: rest) [] pos) env) Q E s :=
  Call_ (nmG G hx (callWith_def hd (wpAny_mono h (fun vs s₁ q => ⟨q.1.K _ _ hf, q.2⟩) fun _ _ y => y) he) hk hkx hg hdb) hc
end

noncomputable def fnEscape (w : World) : FnAt w 55 := ⟨_, rfl⟩
noncomputable def fnTranslate (w : World) : FnAt w 62 := ⟨_, rfl⟩
noncomputable def fnBuffer (w : World) : FnAt w 69 := ⟨_, rfl⟩
noncomputable def fnTruth (w : World) : FnAt w 76 := ⟨_, rfl⟩
noncomputable def fnB2a (w : World) : FnAt w 84 := ⟨_, rfl⟩
noncomputable def fnB64 (w : World) : FnAt w 92 := ⟨_, rfl⟩
noncomputable def fnDedup (w : World) : FnAt w 99 := ⟨_, rfl⟩
noncomputable def fnCompare (w : World) : FnAt w 106 := ⟨_, rfl⟩
noncomputable def fnOctets (w : World) : FnAt w 113 := ⟨_, rfl⟩
noncomputable def fnSixes (w : World) : FnAt w 120 := ⟨_, rfl⟩
noncomputable def fnText (w : World) : FnAt w 125 := ⟨_, rfl⟩
noncomputable def fnPattern (w : World) : FnAt w 130 := ⟨_, rfl⟩
noncomputable def fnGoes (w : World) : FnAt w 135 := ⟨_, rfl⟩
noncomputable def fnOnce (w : World) : FnAt w 140 := ⟨_, rfl⟩
noncomputable def fnLaw (w : World) : FnAt w 145 := ⟨_, rfl⟩
end
local macro_rules | `(tactic| walk_at "my ev") => `(tactic| first
  | ((with_reducible show wpAny _ _ (eval (Expr.Constant (Const.str _) _ _) _) _ _ _); refine Constant_str ?_)
  | ((with_reducible show wpAny _ _ (eval (Expr.BinOp _ _ _ _) _) _ _ _); refine wpAny_BinOp ?_)
  | ((with_reducible show wpAny _ _ (eval (Expr.Constant (Const.int _) _ _) _) _ _ _); refine wpAny_Constant_int ?_)
  | ((with_reducible show wpAny _ _ (eval (Expr.Name _ _) _) _ _ _); first | refine nmL (by assumption) rfl ?_ | refine nmC (by assumption) rfl ?_)
  | ((with_reducible show wpAny _ _ (eval (Expr.List _ _) _) _ _ _); refine List_ ?_)
  | ((with_reducible show wpAny _ _ (eval (Expr.Subscript _ _ _) _) _ _ _); refine Subscript_ ?_)
  | ((with_reducible show wpAny _ _ (spliced (backTo _ (starEach (_ :: _) _))) _ _ _); refine args_cons ?_)
  | ((with_reducible show wpAny _ _ (spliced (backTo _ (starEach [] _))) _ _ _); refine args_nil ?_)
  | ((with_reducible show wpAny _ _ (binaryOp .FloorDiv (Value.int _ _) (Value.int _ _)) _ _ _); refine floordiv_int (by decide) ?_)
  | ((with_reducible show wpAny _ _ (binaryOp .Mod (Value.int _ _) (Value.int _ _)) _ _ _); refine PyProof.Rows.mod_int' (by decide) ?_)
  | ((with_reducible show wpAny _ _ (binaryOp .Mult (Value.int _ _) (Value.int _ _)) _ _ _); refine PyProof.Rows.mul_int ?_)
  | ((with_reducible show wpAny _ _ (binaryOp .Add (Value.int _ _) (Value.int _ _)) _ _ _); refine PyProof.Rows.add_int ?_)
  | ((with_reducible show wpAny _ _ (binaryOp .Sub (Value.int _ _) (Value.int _ _)) _ _ _); refine PyProof.Rows.sub_int ?_)
  | ((with_reducible show wpAny _ _ (eval (Expr.Constant (Const.bool _) _ _) _) _ _ _); refine wpAny_Constant_bool ?_)
  | ((with_reducible show wpAny _ _ (eval (Expr.Constant Const.none _ _) _) _ _ _); refine wpAny_Constant_none ?_)
  | ((with_reducible show wpAny _ _ (truthy (Value.bool _)) _ _ _); refine wpAny_truthy_bool ?_)
  | ((with_reducible show wpAny _ _ (isTrue (Expr.Compare _ [_] [_] _) _ _) _ _ _); refine wpAny_isTrue_Compare1 ?_)
  | ((with_reducible show wpAny _ _ (isTrue (Expr.BoolOp _ _ _) _ _) _ _ _); refine wpAny_isTrue_BoolOp ?_)
  | ((with_reducible show wpAny _ _ (allTrue .Or (_ :: _) _) _ _ _); refine wpAny_allTrue_Or_cons ?_)
  | ((with_reducible show wpAny _ _ (allTrue .And (_ :: _) _) _ _ _); refine wpAny_allTrue_And_cons ?_)
  | ((with_reducible show wpAny _ _ (allTrue .And [] _) _ _ _); refine wpAny_allTrue_And_nil ?_)
  | ((with_reducible show wpAny _ _ (isTrue (Expr.Name _ _) _ _) _ _ _); refine isTrue_plain ?_)
  | ((with_reducible show wpAny _ _ (eval (Expr.IfExp _ _ _ _) _) _ _ _); refine wpAny_IfExp ?_)
  | ((with_reducible show wpAny _ _ (eval (Expr.Compare _ [_] [_] _) _) _ _ _); refine wpAny_Compare1 ?_)
  | ((with_reducible show wpAny _ _ (compareOp .Is (Value.type _) (Value.type _)) _ _ _); first | refine wpAny_is_self rfl ?_ | refine wpAny_is_other rfl (by decide) ?_)
  | ((with_reducible show wpAny _ _ (compareOp .Is (Value.bool _) Value.none) _ _ _); refine wpAny_is_other rfl (fun q => nomatch q) ?_)
  | ((with_reducible show if true = true then _ else _); refine ite_tt' ?_)
  | ((with_reducible show if false = true then _ else _); refine ite_ff' ?_)
  | ((with_reducible show wpAny _ _ (binaryOp .LShift (Value.int _ _) (Value.int _ _)) _ _ _); refine lshift_int_small (by decide) (by decide) (by omega) ?_)
  | ((with_reducible show wpAny _ _ (binaryOp .RShift (Value.int _ _) (Value.int _ _)) _ _ _); refine rshift_int (by decide) ?_)
  | ((with_reducible show wpAny _ _ (binaryOp .BitOr (Value.int _ _) (Value.int _ _)) _ _ _); refine or_int ?_)
  | ((with_reducible show wpAny _ _ (binaryOp .BitAnd (Value.int _ _) (Value.int _ _)) _ _ _); refine and_int ?_))
section
section
variable {prog : Program} {w : World} {A : Around} {E : Value → Shared → Prop} {s : Shared} {mg mb : Str → Option Value} {n : Nat} {Q : Value → Shared → Prop}

theorem sub_item {value slice : PySem.Expr} {l : Addr} {vs : List Value} {k : Int} {u : Tok} {v : Value} (hl : s.heap.IsList l vs.toArray) (hx : vs[k.toNat]? = some v) (h : Q v s)
    (h0 : 0 ≤ k := by decide) (hhi : k < 2 ^ 63 := by decide) (hs : subscripted slice false (.ref l) (.int k u) = operate [.ref l, .int k u] (getItem (.ref l) (.int k u)) := by with_unfolding_all rfl) :
    wpAny (model prog w) A (subscriptTail value slice (.ref l) (.int k u)) Q E s :=
  tail_any hl.typeIs slot_list_getitem.lookup (wpAny_getItem_list hl h0 hhi (by simpa using hx) h) hs

def octets (x : Int) : List Int := [(x.fdiv 65536).fmod 256, (x.fdiv 256).fmod 256, x.fmod 256]

theorem octets_call {x : Int} {t : Tok} (G : Gl (KK w) mg mb s.heap) (R : Rm A (n + 1))
    (h : ∀ v s', Keeps s s' → Rd (fun a => s.heap.get? a = none) s'.heap v (.list ((octets x).map .int)) → Q v s') : wpAny (model prog w) A (call (.ref 113) [.int x t]) Q E s := by
  refine enter (args := ⟨[.int x t], []⟩) (f := 113) (binds := [("x", .int x t)]) G R (fnOctets w).2 rfl rfl (by kernel_rfl) (BindsTo.of_eq rfl) rfl (locs rfl) rfl (fun s₁ E' F _ => ?_)
  have FS₁ := icc_fs F
  refine wpAny_execs_cons (wpAny_Return_some ?_)
  repeat walk_at "my ev"
  refine newList_ev fun a s' k hn hl => ?_
  refine h _ _ (keeps_trans (icc_keeps F) (keeps_trans keeps_tok k)) (Rd.of_list (none_back (icc_ext F) hn) hl ?_)
  exact .cons (.int _ _) (.cons (.int _ _) (.cons (.int _ _) .nil))

def sixes (a b c : Int) : List Int := [(a * 65536 + b * 256 + c).fdiv 262144, ((a * 65536 + b * 256 + c).fdiv 4096).fmod 64, ((a * 65536 + b * 256 + c).fdiv 64).fmod 64, (a * 65536 + b * 256 + c).fmod 64]

theorem sixes_call {P : Addr → Prop} {v : Value} {a b c : Int} (G : Gl (KK w) mg mb s.heap) (R : Rm A (n + 1)) (hv : Rd P s.heap v (.list [.int a, .int b, .int c]))
    (h : ∀ v s', Keeps s s' → Rd (fun a => s.heap.get? a = none) s'.heap v (.list ((sixes a b c).map .int)) → Q v s') : wpAny (model prog w) A (call (.ref 120) [v]) Q E s := by
  obtain ⟨l, vs, rfl, hl, hr, _⟩ := hv.list_inv
  cases hr with | cons r1 hr => cases hr with | cons r2 hr => cases hr with | cons r3 hr =>
  cases hr
  obtain ⟨t1, rfl⟩ := r1.int_inv
  obtain ⟨t2, rfl⟩ := r2.int_inv
  obtain ⟨t3, rfl⟩ := r3.int_inv
  refine enter (args := ⟨[.ref l], []⟩) (f := 120) (binds := [("octets", .ref l)]) G R (fnSixes w).2 rfl rfl (by kernel_rfl) (BindsTo.of_eq rfl) rfl (locs rfl) rfl (fun s₁ E' F sk => ?_)
  have FS₁ := icc_fs F
  have hl₁ := isList_sk hl sk
  refine wpAny_execs_cons (wpAny_Assign_Name ?_)
  repeat (first | walk_at "my ev" | ((with_reducible show wpAny _ _ (subscriptTail _ _ (Value.ref _) (Value.int _ _)) _ _ _); refine sub_item (by assumption) rfl ?_))
  refine stL (icc_up F keeps_tok) fun s₂ F₂ sk₂ => ?_
  have FS₂ := icc_fs F₂
  refine wpAny_execs_cons (wpAny_Return_some ?_)
  repeat (first | walk_at "my ev" | ((with_reducible show wpAny _ _ (subscriptTail _ _ (Value.ref _) (Value.int _ _)) _ _ _); refine sub_item (by assumption) rfl ?_))
  refine newList_ev fun a s' k hn hl => ?_
  refine h _ _ (keeps_trans (icc_keeps F₂) (keeps_trans keeps_tok k)) (Rd.of_list (none_back (icc_ext F₂) hn) hl ?_)
  exact .cons (.int _ _) (.cons (.int _ _) (.cons (.int _ _) (.cons (.int _ _) .nil)))
end
end
section
def alphabet : Str := Str.ofString "ABCDEFGHIJKLMNOPQRSTUVWXYZabcdefghijklmnopqrstuvwxyz0123456789+/"
def alph (i : Nat) : Nat := alphabet.cps.getD i 0
def txt (ns : List Int) : Str := ⟨(ns.map fun i => alph i.toNat).toArray⟩
theorem alphabet_size : alphabet.cps.size = 64 := by decide +kernel

/-- signs, glued -/
theorem glue_signs : ∀ cs : List Nat, Str.join (Str.ofString "") (cs.map fun c => (⟨#[c]⟩ : Str)) = ⟨cs.toArray⟩
  | [] => by decide +kernel
  | [c] => rfl
  | c :: d :: r => by
    have ih := glue_signs (d :: r)
    have e0 : (Str.ofString "") = ⟨#[]⟩ := by decide +kernel
    have e : Str.join (Str.ofString "") ((c :: d :: r).map fun c => (⟨#[c]⟩ : Str)) = (⟨#[c]⟩ : Str) ++ Str.ofString "" ++ Str.join (Str.ofString "") ((d :: r).map fun c => (⟨#[c]⟩ : Str)) := rfl
    rw [e, ih, e0]
    show Str.mk (#[c] ++ #[] ++ (d :: r).toArray) = _
    simp

section
variable {prog : Program} {w : World} {A : Around} {E : Value → Shared → Prop} {s : Shared} {mg mb : Str → Option Value} {n : Nat} {Q : Value → Shared → Prop}

theorem sub_sign {value slice : PySem.Expr} {x : Str} {t u : Tok} {k : Int} {c : Nat} (h0 : 0 ≤ k) (hx : x.cps[k.toNat]? = some c) (h : Q (.str ⟨#[c]⟩ s.toks) { s with toks := s.toks + 1 })
    (hb : k < 2 ^ 63) (hs : subscripted slice false (.str x t) (.int k u) = operate [.str x t, .int k u] (getItem (.str x t) (.int k u)) := by with_unfolding_all rfl) :
    wpAny (model prog w) A (subscriptTail value slice (.str x t) (.int k u)) Q E s := by
  refine tail_any (typeIs_str _ _ _) F.slot_str_getitem.lookup (P.getItem_str ?_ ?_ h) hs
  · simp; omega
  · unfold seqIndex?
    have hl : k.toNat < x.cps.size := (Array.getElem?_eq_some_iff.mp hx).1
    have hk : k < (x.length : Int) := by show k < (x.cps.size : Int); omega
    rw [if_neg (by omega : ¬ k < 0), if_pos (by simp; exact ⟨h0, hk⟩)]
    exact hx

theorem rds_strs {P : Addr → Prop} {h : Heap} : ∀ {vs : List Value} {xs : List Str}, Rds P h vs (xs.map .str) → StrsAre vs xs
  | _, [], r => by cases r; exact .nil
  | _, x :: xs, r => by
    cases r with
    | cons a r =>
      obtain ⟨t, rfl⟩ := a.str_inv
      exact .cons x t (rds_strs r)

theorem text_call {P : Addr → Prop} {v : Value} {a b c : Int} (G : Gl (KK w) mg mb s.heap) (R : Rm A (n + 2)) (hv : Rd P s.heap v (.list [.int a, .int b, .int c]))
    (hs : ∀ i ∈ sixes a b c, 0 ≤ i ∧ i < 64)
    (h : ∀ t s', Keeps s s' → Q (.str (txt (sixes a b c)) t) s') : wpAny (model prog w) A (call (.ref 125) [v]) Q E s := by
  refine enterC (f := 125) (binds := [("octets", v)]) G R (fnText w).2 rfl rfl (by kernel_rfl) rfl rfl rfl (fun s₁ E' F => ?_)
  have R₁ := R.deeper (callEnvC (fnText w).1 s.heap.objs.size 125)
  refine wpAny_execs_cons (wpAny_Assign_Name ?_)
  walk_at "my ev"
  refine stC (icc_up F keeps_tok) fun s₂ F₂ sk₂ => ?_
  have FS₂ := icc_fs F₂
  have G₂ := G.ext (icc_ext F₂)
  have hv₂ := hv.ext (icc_ext F₂)
  refine wpAny_execs_cons (wpAny_Return_some (MethodCall_ (pl := _) ?_))
  walk_at "my ev"
  refine GM.join (callWith_method1 ?_)
  refine args_cons ?_
  refine lc_eval rfl rfl (by decide) ?_
  refine ev_own G₂ (fnSixes w).2 rfl (by kernel_rfl) ?_
  repeat walk_at "my ev"
  refine ⟨G₂, ?_⟩
  refine sixes_call G₂ R₁ hv₂ fun sv s₃ k₃ rv => ?_
  obtain ⟨l, vs, rfl, hl, hr, _⟩ := rv.list_inv
  have hlen : vs.length = 4 := by rw [hr.length]; rfl
  have FS₃ := FS₂.ext (keeps_ext k₃)
  refine lc_list (s := s₃) (P := fun _ => False) (fun _ => true) (fun i => .str ⟨#[alph ((sixes a b c).getD i 0).toNat]⟩) R₁.hh (keeps_refl _) hl (by rw [hlen]; decide) (fun _ q => q.elim) (by decide) rfl rfl ?_ ?_ ?_
  · intro C i v s₄ m E'' _ _ _ _
    exact wpAny_tests_nil ⟨rfl, keeps_refl _⟩
  · intro C i v s₄ m E'' hi _ kx hns hm
    obtain ⟨d, hd, rd⟩ := hr.get hi
    obtain ⟨y, hy, rfl⟩ := List.mem_map.mp (List.mem_of_getElem? hd)
    obtain ⟨t, rfl⟩ := rd.int_inv
    have hyb := hs y hy
    have FS₄ := FS₃.ext kx
    have hj : y.toNat < alphabet.cps.size := by rw [alphabet_size]; omega
    have hc : alphabet.cps[y.toNat]? = some (alph y.toNat) := by
      unfold alph
      rw [Array.getElem?_eq_getElem hj, Array.getD_eq_getD_getElem?, Array.getElem?_eq_getElem hj]
      rfl
    refine Subscript_ ?_
    refine nmC (fs_comp hns FS₄ ⟨rfl, trivial⟩) rfl ?_
    refine nmL (fs_comp hns FS₄ ⟨rfl, trivial⟩) hm ?_
    refine sub_sign (c := alph y.toNat) hyb.1 hc ?_ (by omega)
    refine ⟨?_, keeps_tok⟩
    have e2 : (sixes a b c).getD i 0 = y := by
      rw [List.getElem?_map] at hd
      cases q : (sixes a b c)[i]? with
      | none => rw [q] at hd; cases hd
      | some z => rw [q] at hd; cases hd; rw [List.getD_eq_getElem?_getD, q]; rfl
    rw [e2]
    exact .str _ _
  · intro s₅ s' k' hC hns' hr'
    refine lc_post_none k' hC hns' hr' fun v s'' k'' rv' => ?_
    have el : ((List.range vs.length).filter (fun _ => true)).map (fun i => PyData.str ⟨#[alph ((sixes a b c).getD i 0).toNat]⟩) = (((sixes a b c).map fun i => alph i.toNat).map fun c => (⟨#[c]⟩ : Str)).map .str := by
      rw [hlen]; rfl
    rw [el] at rv'
    obtain ⟨l', vs', rfl, hl', hr'', _⟩ := rv'.list_inv
    refine args_nil ?_
    refine PyProof.Rows.join_list hl' (rds_strs hr'') ?_ fun t' k => ?_
    · show 4 + 4 * (Str.ofString "").length ≤ 16777216
      have : (Str.ofString "").length = 0 := by decide +kernel
      rw [this]; decide
    · have e : Txt.join (Str.ofString "") (((sixes a b c).map fun i => alph i.toNat).map fun c => (⟨#[c]⟩ : Str)) = txt (sixes a b c) := (StrLaws.glued_eq_join _ _).trans (glue_signs _)
      rw [e]
      exact h _ _ (keeps_trans (icc_keeps F₂) (keeps_trans (keeps_trans keeps_tok k₃) (keeps_trans k'' keeps_tok)))
end
end
section
section
variable {prog : Program} {w : World} {A : Around} {E : Value → Shared → Prop} {s : Shared} {mg mb : Str → Option Value} {n : Nat} {Q : Value → Shared → Prop}

theorem buffer_call {b : Array UInt8} {t : Tok} (G : Gl (KK w) mg mb s.heap) (R : Rm A (n + 1))
    (h : ∀ s', Keeps s s' → Q (.bytes b t) s') : wpAny (model prog w) A (call (.ref 69) [.bytes b t]) Q E s := by
  refine enter (args := ⟨[.bytes b t], []⟩) (f := 69) (binds := [("data", .bytes b t)]) G R (fnBuffer w).2 rfl rfl (by kernel_rfl) (BindsTo.of_eq rfl) rfl (locs rfl) rfl (fun s₁ E' F _ => ?_)
  have FS₁ := icc_fs F
  have G₁ := G.ext (icc_ext F)
  refine wpAny_execs_cons (wpAny_Assign_Name ?_)
  refine Call_ (nmB G₁ (by kernel_rfl) boot_type (by decide) (PyProof.Rows.callWith_type1 ?_))
  repeat walk_at "my ev"
  refine call_type_of (typeIs_bytes _ _ _) rfl ?_
  refine stL F fun s₂ F₂ sk₂ => ?_
  have FS₂ := icc_fs F₂
  have G₂ := G.ext (icc_ext F₂)
  refine wpAny_execs_cons (wpAny_If ?_)
  repeat walk_at "my ev"
  refine nmB G₂ (by kernel_rfl) boot_bytes (by decide) ?_
  repeat walk_at "my ev"
  refine wpAny_execs_cons (wpAny_Return_some ?_)
  walk_at "my ev"
  exact h _ (icc_keeps F₂)

theorem truth_call {b : Bool} (G : Gl (KK w) mg mb s.heap) (R : Rm A (n + 1))
    (h : ∀ s', Keeps s s' → Q (.bool b) s') : wpAny (model prog w) A (call (.ref 76) [.bool b]) Q E s := by
  refine enter (args := ⟨[.bool b], []⟩) (f := 76) (binds := [("x", .bool b)]) G R (fnTruth w).2 rfl rfl (by kernel_rfl) (BindsTo.of_eq rfl) rfl (locs rfl) rfl (fun s₁ E' F _ => ?_)
  have FS₁ := icc_fs F
  have G₁ := G.ext (icc_ext F)
  refine wpAny_execs_cons (wpAny_Assign_Name ?_)
  refine Call_ (nmB G₁ (by kernel_rfl) boot_type (by decide) (PyProof.Rows.callWith_type1 ?_))
  repeat walk_at "my ev"
  refine call_type_of (PySem.typeIs_bool _ _) rfl ?_
  refine stL F fun s₂ F₂ sk₂ => ?_
  have FS₂ := icc_fs F₂
  have G₂ := G.ext (icc_ext F₂)
  refine wpAny_execs_cons (wpAny_If ?_)
  repeat walk_at "my ev"
  refine nmB G₂ (v := .type "bool") (by kernel_rfl) (by decide +kernel) (by decide) ?_
  repeat walk_at "my ev"
  refine wpAny_execs_cons (wpAny_Return_some ?_)
  repeat walk_at "my ev"
  have hQ := h s₂ (icc_keeps F₂)
  cases b
  · repeat walk_at "my ev"
    exact hQ
  · repeat walk_at "my ev"
    exact hQ
end
end
section
def bodyOf (fd : FuncData) : List Stmt := match fd.body with | .stmts b => b | _ => []
section
variable {s₀ s : Shared} {m cm : Str → Option Value} {L : Addr} {cs : List (Str × Addr)}
theorem icc_eb {D : Addr} {o : Obj} {h' : Heap} {tk : Nat} (x : InCallC s₀ L m cs cm s) (ho : s.heap.get? D = some o) (hd : ∀ es n, o.data ≠ .dict es n) (hc : ∀ v, o.data ≠ .cell v) (hD : s₀.heap.get? D = none) (hs : Heap.ExtBut D s.heap h') :
    InCallC s₀ L m cs cm { s with heap := h', toks := tk } := by
  refine ⟨⟨?_, ?_, fun b o e => hs b o (fun q => by rw [q, hD] at e; cases e) (x.toInCall.keep b o e), x.toInCall.fresh⟩, fun n c e => ?_, x.apart, x.above⟩
  · obtain ⟨h₁, tk₁, rfl⟩ := x.toInCall.same
    exact ⟨h', _, rfl⟩
  · refine ns_at x.toInCall.ns fun o' e' => hs _ _ (fun q => ?_) e'
    obtain ⟨oL, es, ep, hoL, hdL, _, _⟩ := x.toInCall.ns
    rw [q, ho] at hoL; cases hoL
    exact hd _ _ hdL
  · obtain ⟨oc, hoc, hdc⟩ := x.cell n c e
    refine ⟨oc, hs _ _ (fun q => ?_) hoc, hdc⟩
    rw [q, ho] at hoc; cases hoc
    exact hc _ hdc
end
section
variable {prog : Program} {w : World} {A : Around} {E : Value → Shared → Prop} {s : Shared} {mg mb : Str → Option Value} {n : Nat} {Q : Value → Shared → Prop}
theorem eq_f {a b : Int} {t u : Tok} (h : a ≠ b) (q : Q (.bool false) s) : wpAny (model prog w) A (compareOp .Eq (.int a t) (.int b u)) Q E s := PyProof.Rows.eq_int (by rw [beq_eq_false_iff_ne.mpr h]; exact q)
theorem eq_t {a b : Int} {t u : Tok} (h : a = b) (q : Q (.bool true) s) : wpAny (model prog w) A (compareOp .Eq (.int a t) (.int b u)) Q E s := PyProof.Rows.eq_int (by rw [beq_iff_eq.mpr h]; exact q)

theorem b2a_tail {s₁ : Shared} {S D : Addr} {m cm : Str → Option Value} {tl : Tok} {vs : List Value} {ns : List Int} (G : Gl (KK w) mg mb s.heap) (R : A.handled = none)
    (F : InCallC s (callEnv (fnB2a w).1 S 84).locals m (callEnv (fnB2a w).1 S 84).cells cm s₁) (h1 : m "leftbits" = some (.int 0 tl)) (h2 : m "newline" = some (.bool false)) (h3 : m "out" = some (.ref D))
    (hl : PlainL s₁.heap D vs.toArray) (hi : IntsAre vs ns) (hb : ∀ n ∈ ns, 0 ≤ n ∧ n < 256) (hz : vs.length ≤ sizeLine)
    (h : ∀ t' s', Keeps s s' → Q (.bytes (byteArr ns) t') s') : wpAny (model prog w) A (execs ((bodyOf (fnB2a w).1).drop 6) (callEnv (fnB2a w).1 S 84)) (fun fl s' => Q (retOf fl) s') E s₁ := by
  have FS1 := icc_fs F
  have G1 := G.ext (icc_ext F)
  refine wpAny_execs_cons (wpAny_If ?_)
  walk_at "my ev"
  refine nmL FS1 h1 ?_
  repeat walk_at "my ev"
  refine eq_f (by decide) ?_
  repeat walk_at "my ev"
  refine wpAny_execs_cons (wpAny_If ?_)
  walk_at "my ev"
  refine nmL FS1 h1 ?_
  repeat walk_at "my ev"
  refine eq_f (by decide) ?_
  repeat walk_at "my ev"
  refine wpAny_execs_nil (wpAny_execs_nil ?_)
  refine wpAny_execs_cons (wpAny_If ?_)
  walk_at "my ev"
  refine nmL FS1 h2 ?_
  repeat walk_at "my ev"
  refine wpAny_execs_nil ?_
  refine wpAny_execs_cons (wpAny_Return_some ?_)
  refine Call_ (nmB G1 (by kernel_rfl) boot_bytes (by decide) (PyProof.Rows.callWith_type1 ?_))
  refine args_cons ?_
  refine nmL FS1 h3 ?_
  repeat walk_at "my ev"
  obtain ⟨o, nn, e, c, dd, hd⟩ := hl
  refine call_bytes_ints ⟨o, e, c, nn, hd⟩ hi hb hz R fun h' t k hk => ?_
  exact h _ _ (keeps_trans (icc_keeps F) (keeps_mk hk))
end
end
section
section
variable {prog : Program} {w : World} {A : Around} {E : Value → Shared → Prop} {s : Shared} {P P' : Addr → Prop} {v u : Value} {Q : Value → Shared → Prop} {env : Env}
theorem slice_tail {value slice : PySem.Expr} {l : Addr} {vs ws : List Value} {vl vu vk : Value} {lo hi st : Option Int} {ops : List Value} (hl : s.heap.IsList l vs.toArray) (pl : IsPart vl lo) (pu : IsPart vu hi) (pk : IsPart vk st) (h0 : st ≠ some 0)
    (e : slicePick vs.toArray lo hi st = ws.toArray) (h : ∀ a s', Keeps s s' → s.heap.get? a = none → PlainL s'.heap a ws.toArray → Q (.ref a) s') (hsz : vs.length ≤ sizeLine)
    (hs : subscripted slice false (.ref l) (.ref s.heap.objs.size) = operate ops (getItem (.ref l) (.ref s.heap.objs.size)) := by with_unfolding_all rfl)
    (ht : ∀ r, letTemporaryGo value (.ref l) r = pure () := by intro _; with_unfolding_all rfl) :
    wpAny (model prog w) A (subscriptTail value slice (.ref l) (.ref s.heap.objs.size)) Q E { s with heap := s.heap.push { cls := .type "slice", data := .fields #[vl, vu, vk] } } := by
  refine subscriptTail_ops (Heap.IsList.typeIs (s := { s with heap := s.heap.push { cls := .type "slice", data := .fields #[vl, vu, vk] } }) (hl.push _)) list_getitem_lookup
    (wpAny_getItem_list_slice (hl.push _) (Heap.IsSliceOf.new ..) pl pu pk h0 ?_ (by rw [List.size_toArray]; exact hsz)) hs ht
  rw [e]
  refine h _ _ ⟨_, s.toks, rfl, Ext.trans (Ext.push _ _) (Ext.push _ _)⟩ (fresh_none ?_) ⟨{ cls := .type "list", data := .seq ws.toArray }, _, Heap.get?_push_size _ rfl, rfl, rfl, rfl⟩
  show s.heap.objs.size ≤ (s.heap.push _).objs.size
  rw [Heap.size_push]
  exact Nat.le_succ _
theorem add_tail {l b : Addr} {vs ws : List Value} (hl : s.heap.IsList l vs.toArray) (hb : s.heap.IsList b ws.toArray) (h : ∀ a s', Keeps s s' → s.heap.get? a = none → PlainL s'.heap a (vs ++ ws).toArray → Q (.ref a) s')
    (hsz : vs.length + ws.length ≤ sizeLine) : wpAny (model prog w) A (binaryOp .Add (.ref l) (.ref b)) Q E s := by
  obtain ⟨⟨cls, dd, data, sl⟩, ho, hc, n, hd⟩ := id hl
  obtain ⟨⟨cls2, dd2, data2, sl2⟩, ho2, hc2, n2, hd2⟩ := id hb
  simp only at hc hd hc2 hd2
  subst hc hd hc2 hd2
  have e : vs.toArray ++ ws.toArray = (vs ++ ws).toArray := by simp
  refine concat_meets ⟨_, ho, rfl⟩ ⟨_, ho2, rfl⟩ noFill_list_add seq_list_add PySem.F.slot_list_add PySem.F.entry_list_add (PySem.F.args_list_add_2 _ _) (list_addW l b vs.toArray ws.toArray n n2 dd dd2 sl sl2 (by simpa using hsz)) ⟨ho, ho2, ?_⟩
  rw [e]
  exact h _ _ ⟨_, s.toks, rfl, Ext.push _ _⟩ (fresh_none (Nat.le_refl _)) ⟨_, _, Heap.get?_push_size _ rfl, rfl, rfl, rfl⟩
theorem twice_tail {l : Addr} {vs : List Value} {t : Tok} (hl : s.heap.IsList l vs.toArray) (h : ∀ a s', Keeps s s' → s.heap.get? a = none → PlainL s'.heap a (vs ++ vs).toArray → Q (.ref a) s')
    (hsz : vs.length * 2 ≤ 2 ^ 24) : wpAny (model prog w) A (binaryOp .Mult (.ref l) (.int 2 t)) Q E s := by
  obtain ⟨⟨cls, d, data, sl⟩, ho, hcl, k, hd⟩ := id hl
  simp only at hcl hd
  subst hcl hd
  have hsz' : vs.toArray.size * (2 : Int).toNat ≤ 2 ^ 24 := by simpa using hsz
  refine wpAny_binaryOp_repeat_ref (T := "list") (U := "int") (by decide) ⟨_, ho, rfl⟩ (fun s' => typeIs_int s' 2 t) noFill_list_mul F.fills_int_mul F.slot_int_rmul repeat_list F.slot_int_index.lookup
    (call_meets F.slot_int_rmul (typeIs_int s 2 t) F.entry_int_rmul (F.args_int_rmul_2 _ _) (lm_int_rmul_list_any 2 t l vs.toArray k d sl)
      ⟨ho, rfl, ⟨_, ho, rfl⟩, call_meets F.slot_list_mul ⟨_, ho, rfl⟩ F.entry_list_mul (F.args_list_mul_2 _ _)
        (lm_list_mul_any l vs.toArray k d sl 2 t (by simp [Builtin.List.listFitsIndex]) (by omega) (by simp [Builtin.List.listTooLong, sizeLine]; omega))
        ⟨ho, ?_⟩⟩)
  refine h _ _ ⟨_, s.toks, rfl, Ext.push _ _⟩ (fresh_none (Nat.le_refl _)) ⟨_, 0, Heap.get?_push_size _ rfl, rfl, rfl, ?_⟩
  have e : ∀ n, n = (List.replicate (2 : Int).toNat vs).flatten.toArray → n = (vs ++ vs).toArray := fun n hn => by rw [hn]; congr 1; show vs ++ (vs ++ []) = _; rw [List.append_nil]
  show Data.seq _ 0 = Data.seq _ 0
  congr 1
  refine e _ ?_
  exact listMul_foldl_if _ _
theorem listOf_call {l : Addr} {vs : List Value} (hl : s.heap.IsList l vs.toArray) (h : ∀ a s', Keeps s s' → s.heap.get? a = none → PlainL s'.heap a vs.toArray → Q (.ref a) s')
    (hsz : vs.length ≤ sizeLine) : wpAny (model prog w) A (call (.type "list") [.ref l]) Q E s := by
  obtain ⟨o, ho, hc, n, hd⟩ := hl
  refine call_list_seq (hsz := by rw [List.size_toArray]; exact hsz) l (.inl rfl) ho hc hd fun h' c' hk hD => h _ _ ⟨_, s.toks, rfl, hk⟩ (fresh_none (Nat.le_refl _)) ⟨_, _, hD, rfl, rfl, rfl⟩
end
end
section
theorem Rd.stand {P : Addr → Prop} {h : Heap} : ∀ {v : Value} {d : PyData}, Rd P h v d → Rd (fun a => P a ∧ ∃ o, h.get? a = some o) h v d := by
  intro v d x
  exact (Rd.rec (motive_1 := fun v d _ => Rd (fun a => P a ∧ ∃ o, h.get? a = some o) h v d) (motive_2 := fun vs ds _ => Rds (fun a => P a ∧ ∃ o, h.get? a = some o) h vs ds)
    .none .bool .int .str (fun p e c d q _ r => .list ⟨p, _, e⟩ e c d q r) (fun p e c q _ r => .tuple ⟨p, _, e⟩ e c q r) .nil (fun _ _ a b => .cons a b) x)

section
variable {prog : Program} {w : World} {A : Around} {E : Value → Shared → Prop} {s : Shared} {env : Env} {Q : Value → Shared → Prop} {K : Frag} {mg mb : Str → Option Value}
theorem ev_bi {x : Str} {id : String} {e : PySem.Expr} {rest : List PySem.Expr} {np pos : Pos} (G : Gl K mg mb s.heap) (hx : nsIn K mainGlobals x = some none) (hv : bootBuiltins x = some (.builtin id))
    (h : wpAny (model prog w) A (spliced (backTo pos (starEach (e :: rest) env))) (fun vs s₁ => wpAny (model prog w) A (call (.builtin id) vs) Q E s₁) E s) (hn : x ≠ "__name__" := by decide)
    (hk : env.scope.kind = .function := by rfl) (hkx : env.kindOf x = some .globalImplicit := by rfl) (hg : env.globals = mainGlobals := by rfl) (hb : env.builtins = builtinsNs := by rfl) (hdb : (x == ("__debug__" : Str)) = false := by decide)
    (he : starEach (e :: rest) env = (false, eval e env) :: starEach rest env := by rfl) (hplain : (backTo pos (starEach rest env)).any (·.1) = false := by rfl)
    (hc : eval (.Call (.Name x np) (e :: rest) [] pos) env = (do callWith pos (← eval (.Name x np) env) [] (backTo pos (starEach (e :: rest) env)) (backToKw pos (keywordEach [] env))) := by rfl) :
    wpAny (model prog w) A (eval (.Call (.Name x np) (e :: rest) [] pos) env) Q E s :=
  Call_ (nmB G hx hv hn (callWith_builtin1 h he hplain) hk hkx hg hb hdb) hc
theorem ev_ty {x : Str} {T : String} {e : PySem.Expr} {rest : List PySem.Expr} {np pos : Pos} (G : Gl K mg mb s.heap) (hx : nsIn K mainGlobals x = some none) (hv : bootBuiltins x = some (.type T))
    (h : wpAny (model prog w) A (spliced (backTo pos (starEach (e :: rest) env))) (fun vs s₁ => wpAny (model prog w) A (call (.type T) vs) Q E s₁) E s) (hn : x ≠ "__name__" := by decide)
    (hk : env.scope.kind = .function := by rfl) (hkx : env.kindOf x = some .globalImplicit := by rfl) (hg : env.globals = mainGlobals := by rfl) (hb : env.builtins = builtinsNs := by rfl) (hdb : (x == ("__debug__" : Str)) = false := by decide)
    (he : starEach (e :: rest) env = (false, eval e env) :: starEach rest env := by rfl) (hplain : (backTo pos (starEach rest env)).any (·.1) = false := by rfl)
    (hc : eval (.Call (.Name x np) (e :: rest) [] pos) env = (do callWith pos (← eval (.Name x np) env) [] (backTo pos (starEach (e :: rest) env)) (backToKw pos (keywordEach [] env))) := by rfl) :
    wpAny (model prog w) A (eval (.Call (.Name x np) (e :: rest) [] pos) env) Q E s :=
  Call_ (nmB G hx hv hn (PyProof.Rows.callWith_type1 h he hplain) hk hkx hg hb hdb) hc
end

/-! ## the first ones -/
def firsts {α : Type} [BEq α] (l : List α) : List α := l.foldl (fun acc d => if acc.contains d then acc else acc ++ [d]) []
section
variable {α : Type} [BEq α] [LawfulBEq α]
theorem firsts_snoc (l : List α) (x : α) : firsts (l ++ [x]) = if (firsts l).contains x then firsts l else firsts l ++ [x] := by
  unfold firsts
  rw [List.foldl_append]; rfl
theorem snocInd {C : List α → Prop} (h0 : C []) (hs : ∀ l x, C l → C (l ++ [x])) : ∀ l, C l := by
  intro l
  have : ∀ r : List α, C r.reverse := fun r => by
    induction r with
    | nil => exact h0
    | cons x r ih => rw [List.reverse_cons]; exact hs _ _ ih
  simpa using this l.reverse
theorem mem_firsts (l : List α) : ∀ x, x ∈ firsts l ↔ x ∈ l := by
  refine snocInd (C := fun l => ∀ x, x ∈ firsts l ↔ x ∈ l) (fun x => by simp [firsts]) (fun l y ih x => ?_) l
  rw [firsts_snoc]
  split
  · rename_i h
    have : y ∈ l := (ih y).mp (by simpa using h)
    rw [ih x, List.mem_append, List.mem_singleton]
    constructor
    · exact .inl
    · rintro (h | rfl)
      · exact h
      · exact this
  · rw [List.mem_append, List.mem_append, ih x]
theorem nodup_firsts (l : List α) : (firsts l).Nodup := by
  refine snocInd (C := fun l => (firsts l).Nodup) (by simp [firsts]) (fun l y ih => ?_) l
  rw [firsts_snoc]
  split
  · exact ih
  · rename_i h
    rw [List.nodup_append]
    refine ⟨ih, by simp, fun a ha b hb => ?_⟩
    rw [List.mem_singleton] at hb
    subst hb
    rintro rfl
    exact h (by simpa using ha)
def onceIdx (l : List α) (i : Nat) : Bool := match l[i]? with | some x => !(l.take i).contains x | none => false
theorem once_firsts (f : α → PyData) (l : List α) : ((List.range l.length).filter (onceIdx l)).map (fun i => (l[i]?.map f).getD .none) = (firsts l).map f := by
  refine snocInd (C := fun l => ((List.range l.length).filter (onceIdx l)).map (fun i => (l[i]?.map f).getD .none) = (firsts l).map f) (by simp [firsts]) (fun l y ih => ?_) l
  rw [firsts_snoc, List.length_append, List.length_singleton, List.range_succ, List.filter_append, List.map_append]
  have e1 : (List.range l.length).filter (onceIdx (l ++ [y])) = (List.range l.length).filter (onceIdx l) := by
    refine List.filter_congr fun i hi => ?_
    have hi := List.mem_range.mp hi
    unfold onceIdx
    rw [List.getElem?_append_left hi, List.take_append_of_le_length (Nat.le_of_lt hi)]
  have e2 : (((List.range l.length).filter (onceIdx l)).map fun i => ((l ++ [y])[i]?.map f).getD .none) = ((List.range l.length).filter (onceIdx l)).map fun i => (l[i]?.map f).getD .none := by
    refine List.map_congr_left fun i hi => ?_
    have hi := List.mem_range.mp (List.mem_filter.mp hi).1
    rw [List.getElem?_append_left hi]
  rw [e1, e2, ih]
  have e3 : onceIdx (l ++ [y]) l.length = !l.contains y := by
    unfold onceIdx
    simp
  have e4 : (firsts l).contains y = l.contains y := by
    rw [Bool.eq_iff_iff, List.contains_iff_mem, List.contains_iff_mem]; exact mem_firsts l y
  rw [e4]
  cases h : l.contains y
  · rw [List.filter_cons, e3, h]; simp
  · rw [List.filter_cons, e3, h]; simp
end

section
variable {prog : Program} {w : World} {A : Around} {E : Value → Shared → Prop} {s : Shared} {mg mb : Str → Option Value} {n : Nat} {Q : Value → Shared → Prop} {α : Type} [BEq α] [LawfulBEq α] {f : α → PyData} {k : Nat}
theorem once_call {P : Addr → Prop} {v : Value} {l : List α} (F : Emb f k) (hk : k ≤ 64) (G : Gl (KK w) mg mb s.heap) (R : Rm A (n + 1)) (hv : Rd P s.heap v (dl f l)) (hz : l.length ≤ 1000)
    (h : ∀ v' s', Keeps s s' → Rd (Nw P s.heap) s'.heap v' (dl f (firsts l)) → Q v' s') : wpAny (model prog w) A (call (.ref 140) [v]) Q E s := by
  refine enterC (f := 140) (binds := [("row", v)]) G R (fnOnce w).2 rfl rfl (by kernel_rfl) rfl rfl rfl (fun s1 E' F1 => ?_)
  have R1 := R.deeper (callEnvC (fnOnce w).1 s.heap.objs.size 140)
  have FS1 := icc_fs F1
  have G1 := G.ext (icc_ext F1)
  have hv1 := hv.ext (icc_ext F1)
  obtain ⟨a, vs, rfl, hl, hr, pa⟩ := (hv.stand.ext (icc_ext F1)).list_inv
  have hlen : vs.length = l.length := by rw [hr.length, List.length_map]
  refine wpAny_execs_cons (wpAny_Return_some ?_)
  refine lc_eval rfl rfl (by decide) ?_
  refine ev_ty G1 (by kernel_rfl) boot_range ?_
  refine args_cons ?_
  refine ev_bi G1 (by kernel_rfl) boot_len ?_
  refine args_cons ?_
  refine nmC FS1 rfl ?_
  refine args_nil ?_
  refine len_list hl (by rw [List.size_toArray]; omega) ?_
  refine args_nil ?_
  refine call_range_1 ?_
  refine lc_range (s := s1) (P := fun a => P a ∧ ∃ o, s.heap.get? a = some o) (n := vs.length) (onceIdx l) (fun i => (l[i]?.map f).getD .none) R1.hh ⟨_, _, rfl, Ext.push _ _⟩ (by rw [show ((vs.length : Nat) : Int) = (vs.toArray.size : Nat) by rw [List.size_toArray]]; exact IsRange.new _ _ _ _ _ _ _) (by rw [hlen]; have := sizeLine_eq; omega)
    (fun a q => let ⟨o, e⟩ := q.2; ⟨o, icc_ext F1 _ _ e⟩) (by decide) rfl rfl ?_ ?_ ?_
  · intro C i t s4 m E'' hi kx hns hm
    have FS4 := FS1.ext kx
    have hl4 := isList_sk hl (SK.ext kx)
    have hil : i < l.length := hlen ▸ hi
    obtain ⟨x, hx, rx⟩ := hr.at (k := i) (d := f l[i]) (by simp [hil])
    refine wpAny_tests_one ?_
    refine wpAny_isTrue_Compare1 ?_
    refine Subscript_ ?_
    refine nmC (fs_comp hns FS4 ⟨rfl, trivial⟩) rfl ?_
    refine nmL (fs_comp hns FS4 ⟨rfl, trivial⟩) hm ?_
    refine sub_item hl4 (by simpa using hx) ?_ (by omega) (by omega)
    refine Subscript_ ?_
    refine nmC (fs_comp hns FS4 ⟨rfl, trivial⟩) rfl ?_
    refine wpAny_Slice ?_
    refine wpAny_evalPart_none ?_
    refine wpAny_evalPart_some ?_
    refine nmL (fs_comp hns FS4 ⟨rfl, trivial⟩) hm ?_
    refine wpAny_evalPart_none ?_
    refine slice_tail (ws := vs.take i) hl4 .none (.int _ _) .none (by simp) (by rw [slicePick_upto']) (fun b s5 k5 hb hl5 => ?_) (by rw [hlen]; have := sizeLine_eq; omega)
    have hr5 := (hr.ext (kx.trans (keeps_ext k5))).take i
    have rt : Rd (fun _ => True) s5.heap (.ref b) (dl f (l.take i)) := by
      refine Rd.of_list trivial hl5 ?_
      rw [← List.map_take] at hr5
      exact hr5.mono fun _ _ => trivial
    refine notin_rd F (R1.le (Nat.zero_le _)) rt (rx.ext (kx.trans (keeps_ext k5))) ?_ hk
    refine wpAny_truthy_bool ?_
    refine ⟨?_, k5⟩
    unfold onceIdx
    rw [List.getElem?_eq_getElem hil]
  · intro C i t s4 m E'' hi _ kx hns hm
    have FS4 := FS1.ext kx
    have hl4 := isList_sk hl (SK.ext kx)
    have hil : i < l.length := hlen ▸ hi
    obtain ⟨x, hx, rx⟩ := hr.at (k := i) (d := f l[i]) (by simp [hil])
    refine Subscript_ ?_
    refine nmC (fs_comp hns FS4 ⟨rfl, trivial⟩) rfl ?_
    refine nmL (fs_comp hns FS4 ⟨rfl, trivial⟩) hm ?_
    refine sub_item hl4 (by simpa using hx) ?_ (by omega) (by omega)
    refine ⟨?_, keeps_refl _⟩
    rw [List.getElem?_eq_getElem hil]
    exact (rx.ext kx).mono fun a q => .inl q
  · intro s5 s' k' hC hns' hr'
    refine lc_post_none k' hC hns' hr' fun v s'' k'' rv' => ?_
    rw [hlen, once_firsts] at rv'
    exact h _ _ (keeps_trans (icc_keeps F1) k'') (rv'.mono fun a q => q.imp (·.1) (none_back (icc_ext F1)))
end
end
section
section
variable {prog : Program} {w : World} {A : Around} {R : Result → Shared → Prop}
theorem for_inv {target : PySem.Expr} {it : Value} {body orelse : List Stmt} {env : Env} (n : Nat) (Inv : Nat → Shared → Prop)
    (step : ∀ i s E', i < n → Inv i s → wpAny (model prog w) A (pyNext it) (fun r s₁ => match r with
      | none => False
      | some v => wpAny (model prog w) A (assign target env v) (fun _ s₂ => wpAny (model prog w) A (execs body env) (fun f s₃ => (f = .next ∨ f = .cont) ∧ Inv (i + 1) s₃) E' s₂) E' s₁) E' s)
    (fin : ∀ s E', Inv n s → wpAny (model prog w) A (pyNext it) (fun r s₁ => match r with
      | none => wpAny (model prog w) A (execs orelse env) (fun f s₃ => R (.ok f) s₃) E' s₁
      | some _ => False) E' s)
    (ht : ∀ v, letOwnedTupleGo target it v = pure () := by intro _; rfl) {s : Shared} (h0 : Inv 0 s) : codeAny (model prog w) A (.forLoop target it body orelse env) R s := by
  have go : ∀ r i s, n - i = r → i ≤ n → Inv i s → codeAny (model prog w) A (.forLoop target it body orelse env) R s := by
    intro r
    induction r with
    | zero =>
      intro i s hr hi hI
      have hin : i = n := by omega
      subst hin
      refine for_step (fun E' => wpAny_mono (fin s E' hI) (fun r s₁ h₁ => ?_) fun _ _ e => e) ht
      cases r with
      | none => exact h₁
      | some v => exact h₁.elim
    | succ r ih =>
      intro i s hr hi hI
      refine for_step (fun E' => wpAny_mono (step i s E' (by omega) hI) (fun r s₁ h₁ => ?_) fun _ _ e => e) ht
      cases r with
      | none => exact h₁.elim
      | some v =>
        refine wpAny_mono h₁ (fun _ s₂ h₂ => wpAny_mono h₂ (fun f s₃ h₃ => ?_) fun _ _ e => e) fun _ _ e => e
        obtain ⟨rfl | rfl, h₃⟩ := h₃
        · exact ih (i + 1) s₃ (by omega) (by omega) h₃
        · exact ih (i + 1) s₃ (by omega) (by omega) h₃
  exact go _ 0 s rfl (Nat.zero_le _) h0
end

section
variable {s₀ s : Shared} {m cm : Str → Option Value} {L : Addr} {cs : List (Str × Addr)}
theorem icc_liter {I a : Addr} {i : Nat} {h' : Heap} {tk : Nat} (x : InCallC s₀ L m cs cm s) (hit : s.heap.IsListIter I a i) (fI : s₀.heap.get? I = none) (hs : Heap.ExtBut I s.heap h') :
    InCallC s₀ L m cs cm { s with heap := h', toks := tk } := by
  obtain ⟨o, e, c, hd⟩ := hit
  exact icc_eb x e (fun es n' q => by rw [hd] at q; cases q) (fun v q => by rw [hd] at q; cases q) fI hs
theorem liter_ne {h : Heap} {I a D : Addr} {i : Nat} {vs : Array Value} (x : h.IsListIter I a i) (y : PlainL h D vs) : D ≠ I := fun q => by
  obtain ⟨o, e, c, hd⟩ := x
  obtain ⟨o', n, e', _, _, hd'⟩ := y
  rw [q, e] at e'; cases e'
  rw [hd] at hd'; cases hd'
theorem liter_ext {h h' : Heap} {I a D : Addr} {i : Nat} (x : h.IsListIter I a i) (hs : Heap.SameBut D h h') (hne : I ≠ D) : h'.IsListIter I a i := by
  obtain ⟨o, e, r⟩ := x
  exact ⟨o, hs.extBut _ _ hne e, r⟩
theorem plainL_list {h : Heap} {a : Addr} {vs : Array Value} (x : PlainL h a vs) : h.IsList a vs := let ⟨o, n, e, c, _, d⟩ := x; ⟨o, e, c, n, d⟩
end

section
variable {prog : Program} {w : World} {A : Around} {E : Value → Shared → Prop} {s : Shared} {mg mb : Str → Option Value} {n : Nat} {Q : Value → Shared → Prop} {α : Type} [BEq α] [LawfulBEq α] {f : α → PyData} {k : Nat}
theorem dedup_call {P : Addr → Prop} {v : Value} {l : List α} (F : Emb f k) (hk : k ≤ 64) (G : Gl (KK w) mg mb s.heap) (R : Rm A (n + 1)) (hv : Rd P s.heap v (dl f l)) (hz : l.length ≤ 1000)
    (h : ∀ v' s', Keeps s s' → Rd (Nw P s.heap) s'.heap v' (dl f (firsts l)) → Q v' s') : wpAny (model prog w) A (call (.ref 99) [v]) Q E s := by
  refine enter (args := ⟨[v], []⟩) (f := 99) (binds := [("unhashable_params", v)]) G R (fnDedup w).2 rfl rfl (by kernel_rfl) (BindsTo.of_eq rfl) rfl (locs rfl) rfl (fun s1 E' F1 _ => ?_)
  have R1 := R.deeper (callEnv (fnDedup w).1 s.heap.objs.size 99)
  obtain ⟨a, vs, rfl, hl, hr, pa⟩ := hv.list_inv
  have hlen : vs.length = l.length := by rw [hr.length, List.length_map]
  refine wpAny_execs_cons (wpAny_Assign_Name ?_)
  walk_at "my ev"
  refine wpAny_pure ?_
  refine newListP_ev fun D s2 k2 fD2 hl2 => ?_
  have fD : s.heap.get? D = none := none_back (icc_ext F1) fD2
  refine stL (icc_up F1 k2) fun s3 F3 sk3 => ?_
  have hl3 := plainL_sk hl2 sk3
  have FS3 := icc_fs F3
  refine wpAny_execs_cons (wpAny_For ?_)
  walk_at "my ev"
  have hla : s3.heap.IsList a vs.toArray := isList_sk hl (SK.ext (icc_ext F3))
  refine wpAny_pyIter_list hla ?_
  obtain ⟨I, hI⟩ : ∃ I, s3.heap.objs.size = I := ⟨_, rfl⟩
  have fI : s.heap.get? I = none := hI ▸ none_back (icc_ext F3) (fresh_none (Nat.le_refl _))
  have kI : Keeps s3 { s3 with heap := s3.heap.push { cls := .type "list_iterator", data := .fields #[.ref a, .int 0 0] } } := ⟨_, s3.toks, rfl, Ext.push _ _⟩
  have hit4 : (s3.heap.push { cls := .type "list_iterator", data := .fields #[.ref a, .int 0 0] }).IsListIter I a 0 := hI ▸ ⟨_, Heap.get?_push_size _ rfl, rfl, rfl⟩
  rw [hI]
  have hne : a ≠ I := fun q => by obtain ⟨o, e, _⟩ := hl; rw [q, fI] at e; cases e
  have F4 := icc_up F3 kI
  have hl4 := hl3.keeps (keeps_ext kI)
  refine for_inv l.length (fun i s' => ∃ m ws, InCallC s (callEnv (fnDedup w).1 s.heap.objs.size 99).locals m (callEnv (fnDedup w).1 s.heap.objs.size 99).cells (fun _ => none) s' ∧ m "new_unhashable" = some (.ref D) ∧
    s'.heap.IsListIter I a i ∧ PlainL s'.heap D ws.toArray ∧ Rds P s.heap ws ((firsts (l.take i)).map f) ∧ ws.length ≤ i) ?_ ?_ (by intro _; rfl) ⟨_, [], F4, rfl, hit4, hl4, .nil, Nat.le_refl _⟩
  · rintro i s5 E5 hi ⟨m, ws, F5, hm, hit5, hl5, hw5, hwl⟩
    obtain ⟨x, hx, rx⟩ := hr.at (k := i) (d := f l[i]) (by simp [hi])
    have hla5 : s5.heap.IsList a vs.toArray := isList_sk hl (SK.ext (icc_ext F5))
    refine wpAny_pyNext_list_item hit5 hla5 (x := x) (by simpa using hx) fun h6 hit6 hs6 => ?_
    dsimp only
    have hl6 := hl5.extBut hs6.extBut (liter_ne hit5 hl5)
    refine wpAny_assign_Name (stL (icc_liter F5 hit5 fI hs6.extBut) fun s7 F7 sk7 => ?_)
    have hl7 := plainL_sk hl6 sk7
    have hit7 : s7.heap.IsListIter I a (i + 1) := isListIter_sk hit6 sk7
    have FS7 := icc_fs F7
    have rx7 := rx.ext (icc_ext F7)
    have hw7 := hw5.ext (icc_ext F7)
    have ein : l.take (i + 1) = l.take i ++ [l[i]] := by rw [List.take_add_one, List.getElem?_eq_getElem hi]; rfl
    refine wpAny_execs_cons (wpAny_If (wpAny_isTrue_Compare1 ?_))
    walk_at "my ev"
    refine nmL FS7 (v := .ref D) (by rw [if_neg (by decide)]; exact hm) ?_
    refine notin_rd F (R1.le (Nat.zero_le _)) (Rd.of_list (P := fun _ => True) trivial hl7 (hw7.mono fun _ _ => trivial)) rx7 ?_ hk
    refine wpAny_truthy_bool ?_
    cases hc : (firsts (l.take i)).contains l[i] with
    | true =>
      refine ite_ff' (wpAny_execs_nil (wpAny_execs_nil ⟨.inl rfl, _, ws, F7, by rw [if_neg (by decide)]; exact hm, hit7, hl7, ?_, Nat.le_succ_of_le hwl⟩))
      rw [ein, firsts_snoc, if_pos hc]
      exact hw5
    | false =>
      refine ite_tt' ?_
      refine wpAny_execs_cons (append_stmt (x := "new_unhashable") FS7 (by rw [if_neg (by decide)]; exact hm) hl7 ?_)
      walk_at "my ev"
      refine ⟨hl7, by have := sizeLine_eq; omega, fun h8 hl8 hs8 => ?_⟩
      refine wpAny_execs_nil (wpAny_execs_nil ⟨.inl rfl, _, ws ++ [x], icc_app (tk := s7.toks) F7 hl7 fD hs8, by rw [if_neg (by decide)]; exact hm, liter_ext hit7 hs8 (Ne.symm (liter_ne hit7 hl7)), hl8, ?_, by rw [List.length_append, List.length_singleton]; omega⟩)
      rw [ein, firsts_snoc, if_neg (by rw [hc]; exact Bool.false_ne_true), List.map_append]
      exact hw5.append (.cons rx .nil)
  · rintro s5 E5 ⟨m, ws, F5, hm, hit5, hl5, hw5, hwl⟩
    have hla5 : s5.heap.IsList a vs.toArray := isList_sk hl (SK.ext (icc_ext F5))
    refine wpAny_pyNext_list_end R1.hh hit5 hla5 (by simp [hlen]) fun h6 he6 => ?_
    dsimp only
    have F6 := icc_liter (tk := s5.toks) F5 hit5 fI he6
    have hl6 := hl5.extBut he6 (liter_ne hit5 hl5)
    refine wpAny_execs_nil ?_
    have FS6 := icc_fs F6
    refine wpAny_execs_cons (wpAny_Return_some (nmL FS6 hm ?_))
    rw [List.take_of_length_le (Nat.le_refl _)] at hw5
    exact h _ _ (icc_keeps F6) (Rd.of_list (.inr fD) hl6 ((hw5.ext (icc_ext F6)).mono fun _ => .inl))
end
end
section
/-! ## lists of ints in order -/
noncomputable def ltL : List Int → List Int → Bool
  | [], [] => false
  | [], _ :: _ => true
  | _ :: _, [] => false
  | x :: a, y :: b => if x == y then ltL a b else decide (x < y)
theorem ltL_irrefl : ∀ a, ltL a a = false
  | [] => rfl
  | x :: a => by
    unfold ltL
    rw [beq_self_eq_true, if_pos rfl]
    exact ltL_irrefl a
theorem ltL_trans : ∀ a b c, ltL a b = true → ltL b c = true → ltL a c = true
  | [], [], c, h, _ => by cases h
  | [], _ :: _, [], _, h => by cases h
  | [], _ :: _, _ :: _, _, _ => rfl
  | _ :: _, [], _, h, _ => by cases h
  | _ :: _, _ :: _, [], _, h => by cases h
  | x :: a, y :: b, z :: c, h1, h2 => by
    unfold ltL at h1 h2 ⊢
    by_cases e1 : x = y <;> by_cases e2 : y = z <;> simp_all
    · exact ltL_trans a b c h1 h2
    · by_cases e3 : x = z
      · omega
      · rw [if_neg e3]; omega
theorem ltL_total : ∀ a b, ltL a b = false → ltL b a = false → a = b
  | [], [], _, _ => rfl
  | [], _ :: _, h, _ => by cases h
  | _ :: _, [], _, h => by cases h
  | x :: a, y :: b, h1, h2 => by
    unfold ltL at h1 h2
    by_cases e : x = y
    · subst e
      simp only [beq_self_eq_true, if_true] at h1 h2
      rw [ltL_total a b h1 h2]
    · have e' : ¬ y = x := fun q => e q.symm
      simp [e, e'] at h1 h2
      omega
theorem ltL_neg : ∀ a b c, ltL a c = true → ltL a b = true ∨ ltL b c = true
  | [], [], c, h => .inr h
  | [], _ :: _, _, _ => .inl rfl
  | _ :: _, _, [], h => by cases h
  | _ :: _, [], _ :: _, _ => .inr rfl
  | x :: a, y :: b, z :: c, h => by
    unfold ltL at h ⊢
    by_cases e1 : x = y
    · subst e1
      by_cases e2 : x = z
      · subst e2
        simp only [beq_self_eq_true, if_true] at h ⊢
        exact ltL_neg a b c h
      · simp [e2] at h ⊢
        exact .inr h
    · by_cases e2 : y = z
      · subst e2
        simp [e1] at h ⊢
        exact .inl h
      · by_cases e3 : x = z
        · subst e3
          have e4 : ¬ y = x := fun q => e1 q.symm
          simp [e1, e4] at h ⊢
          omega
        · simp [e1, e2, e3] at h ⊢
          omega
noncomputable abbrev ordL : KeyOrd := ⟨List Int, ltL, ltL_irrefl, ltL_trans, ltL_neg, ltL_total⟩
end
section
section
open AutoSeq1 (wpAny_loadPart')
open MeetsSeq MeetsSeq2 MeetsSeq3 SeqRoads2 PySem.SeqAt
theorem ints_at : ∀ {vs : List Value} {xs : List Int}, IntsAre vs xs → ∀ k, k < xs.length → ∃ t, vs[k]? = some (.int (xs.getD k 0) t)
  | _, _, .nil, k, h => by simp at h
  | _, _, .cons n t r, 0, _ => ⟨t, rfl⟩
  | _, _, .cons n t r, k + 1, h => by
    obtain ⟨u, e⟩ := ints_at r k (by simpa using h)
    exact ⟨u, by simpa using e⟩
theorem lt_loop (l b : Addr) (vs ws : List Value) (xs ys : List Int) (n n2 : Nat) (dd dd2 : Option Addr) (sl sl2 : Array (Option Value)) (hv : IntsAre vs xs) (hw : IntsAre ws ys) (k : Nat) :
    ∀ i : Nat, xs.length - i = k → i ≤ xs.length → i ≤ ys.length → Meets (Builtin.«list.__eq__.loop» ⟨[.ref l, .ref b, rawInt i, rawInt 0], []⟩)
      (fun A R s => s.heap.get? l = some { cls := .type "list", dict := dd, data := .seq vs.toArray n, slots := sl } ∧ s.heap.get? b = some { cls := .type "list", dict := dd2, data := .seq ws.toArray n2, slots := sl2 } ∧
        R (.ok (.ret (.bool (ltL (xs.drop i) (ys.drop i))))) s) := by
  have lv := hv.length
  have lw := hw.length
  have ends : ∀ i : Nat, i = xs.length ∨ i = ys.length → i ≤ xs.length → i ≤ ys.length → ltL (xs.drop i) (ys.drop i) = decide (vs.toArray.size < ws.toArray.size) := by
    intro i h h1 h2
    rw [List.size_toArray, List.size_toArray, lv, lw]
    rcases h with rfl | rfl
    · rw [List.drop_length]
      rcases Nat.lt_or_ge xs.length ys.length with h3 | h3
      · rw [List.drop_eq_getElem_cons h3, decide_eq_true h3]; rfl
      · have : xs.length = ys.length := by omega
        rw [decide_eq_false (by omega), this, List.drop_length]; rfl
    · rw [List.drop_length]
      rcases Nat.lt_or_ge ys.length xs.length with h3 | h3
      · rw [List.drop_eq_getElem_cons h3, decide_eq_false (by omega)]; rfl
      · have : xs.length = ys.length := by omega
        rw [decide_eq_false (by omega), ← this, List.drop_length]; rfl
  induction k with
  | zero =>
    intro i hk hi hi2 prog w A R s h
    obtain ⟨hp, g, d, tk, os⟩ := s; obtain ⟨hl, hb, h⟩ := h
    have hix : i = xs.length := by omega
    rw [ends i (.inl hix) hi hi2] at h
    wp_walk using wpAny_loadPart' hl, wpAny_loadPart' hb
    have hi1 : vs.toArray[((i : Nat) : Int).toNat]? = none := by simp; omega
    rw [hi1]
    wp_walk using wpAny_loadPart' hl, wpAny_loadPart' hb
    exact h
  | succ k ih =>
    intro i hk hi hi2 prog w A R s h
    obtain ⟨hp, g, d, tk, os⟩ := s; obtain ⟨hl, hb, h⟩ := h
    have hix : i < xs.length := by omega
    obtain ⟨t, ev⟩ := ints_at hv i hix
    have hi1 : vs.toArray[((i : Nat) : Int).toNat]? = some (.int (xs.getD i 0) t) := by simpa using ev
    rcases Nat.lt_or_ge i ys.length with hiy | hiy
    · obtain ⟨u, ew⟩ := ints_at hw i hiy
      have hi2' : ws.toArray[((i : Nat) : Int).toNat]? = some (.int (ys.getD i 0) u) := by simpa using ew
      have hdx : xs.drop i = xs.getD i 0 :: xs.drop (i + 1) := by rw [List.drop_eq_getElem_cons hix]; simp [hix]
      have hdy : ys.drop i = ys.getD i 0 :: ys.drop (i + 1) := by rw [List.drop_eq_getElem_cons hiy]; simp [hiy]
      have hc : ((i : Int) + 1) = ((i + 1 : Nat) : Int) := by push_cast; rfl
      rw [hdx, hdy] at h
      wp_walk using wpAny_loadPart' hl, wpAny_loadPart' hb
      rw [hi1, hi2']
      refine wpAny_bind (EqGives.int (xs.getD i 0) (ys.getD i 0) t u _ _ _ _ _ _ ?_)
      cases he : (xs.getD i 0 == ys.getD i 0) with
      | true =>
        have e' : ltL (xs.getD i 0 :: xs.drop (i + 1)) (ys.getD i 0 :: ys.drop (i + 1)) = ltL (xs.drop (i + 1)) (ys.drop (i + 1)) := by
          show (if (xs.getD i 0 == ys.getD i 0) = true then _ else _) = _
          rw [if_pos he]
        rw [e'] at h
        wp_walk
        rw [hc]
        exact ⟨plainId_quiet plain_eq_loop _, codeAny_builtin entry_eq_loop (by
          rw [Around.under_plainId plain_eq_loop _]
          exact ih (i + 1) (by omega) (by omega) (by omega) prog w A R _ ⟨hl, hb, h⟩)⟩
      | false =>
        have e' : ltL (xs.getD i 0 :: xs.drop (i + 1)) (ys.getD i 0 :: ys.drop (i + 1)) = decide (xs.getD i 0 < ys.getD i 0) := by
          show (if (xs.getD i 0 == ys.getD i 0) = true then _ else _) = _
          rw [if_neg (by rw [he]; exact Bool.false_ne_true)]
        rw [e'] at h
        wp_walk using wpAny_loadPart' hl, wpAny_loadPart' hb
        rw [hi1, hi2']
        show wpAny _ _ (richCompare .Lt (.int (xs.getD i 0) t) (.int (ys.getD i 0) u) >>= fun r => ret r) _ _ _
        refine wpAny_bind ?_
        refine (show wpAny _ _ (compareOp .Lt (.int (xs.getD i 0) t) (.int (ys.getD i 0) u)) _ _ _ from PyProof.Rows.lt_int ?_)
        exact wpAny_pure h
    · have hiy' : i = ys.length := by omega
      rw [ends i (.inr hiy') hi hi2] at h
      wp_walk using wpAny_loadPart' hl, wpAny_loadPart' hb
      have hi2' : ws.toArray[((i : Nat) : Int).toNat]? = none := by simp; omega
      rw [hi1, hi2']
      wp_walk using wpAny_loadPart' hl, wpAny_loadPart' hb
      exact h
theorem list_lt_ (l b : Addr) (vs ws : List Value) (xs ys : List Int) (n n2 : Nat) (dd dd2 : Option Addr) (sl sl2 : Array (Option Value)) (hv : IntsAre vs xs) (hw : IntsAre ws ys) :
    Meets (Builtin.«list.__lt__» ⟨[.ref l, .ref b], []⟩)
      (fun A R s => s.heap.get? l = some { cls := .type "list", dict := dd, data := .seq vs.toArray n, slots := sl } ∧ s.heap.get? b = some { cls := .type "list", dict := dd2, data := .seq ws.toArray n2, slots := sl2 } ∧
        R (.ok (.ret (.bool (ltL xs ys)))) s) := by
  intro prog w A R s h
  obtain ⟨hp, g, d, tk, os⟩ := s; obtain ⟨hl, hb, h⟩ := h
  have f3 := AutoSeq1.sub_list_list
  wp_walk using wpAny_loadPart' hl, wpAny_loadPart' hb
  exact ⟨plainId_quiet plain_eq_loop _, codeAny_builtin entry_eq_loop (by
    rw [Around.under_plainId plain_eq_loop _]
    exact lt_loop l b vs ws xs ys n n2 dd dd2 sl sl2 hv hw _ 0 rfl (Nat.zero_le _) (Nat.zero_le _) prog w A R _ ⟨hl, hb, h⟩)⟩
end
section
variable {prog : Program} {w : World} {A : Around} {E : Value → Shared → Prop} {s : Shared}
theorem key_lt {l b : Addr} {vs ws : List Value} {xs ys : List Int} {Q : Bool → Shared → Prop} (hu : A.units < cLine) (hl : s.heap.IsList l vs.toArray) (hb : s.heap.IsList b ws.toArray) (hv : IntsAre vs xs) (hw : IntsAre ws ys) (h : Q (ltL xs ys) s) :
    wpAny (model prog w) A (keyLt' oneType' (.ref l) (.ref b)) Q E s := by
  obtain ⟨⟨c1, d1, dat1, sl1⟩, e1, hc1, n1, hd1⟩ := id hl
  obtain ⟨⟨c2, d2, dat2, sl2⟩, e2, hc2, n2, hd2⟩ := id hb
  simp only at hc1 hd1 hc2 hd2
  subst hc1 hd1 hc2 hd2
  rw [keyLt'_oneType, oneLt'_eq]
  simp only [if_true]
  refine wpAny_bind (wpAny_cRoomFor hu ?_)
  refine wpAny_bind (wpAny_callSpecialIfBound?_slot hl.typeIs PySem.F.slot_list_lt ?_)
  refine call_meets PySem.F.slot_list_lt hl.typeIs PySem.F.entry_list_lt (PySem.F.args_list_lt_2 _ _) (list_lt_ l b vs ws xs ys n1 n2 d1 d2 sl1 sl2 hv hw) ⟨e1, e2, ?_⟩
  exact wpAny_truthy_bool h
end
end
section
/-! ## the sort's questions, answered by an order: what it gives back is in order -/
section
variable {O : KeyOrd} (key : Nat → O.α) (n : Nat)
noncomputable def kOk {α : Type} : KasT α → (α → Prop) → Prop
  | .ret a, Q => Q a
  | .ask i j k, Q => i < n ∧ j < n ∧ kOk (k (O.blt (key i) (key j))) Q
end
section
variable {O : KeyOrd} {key : Nat → O.α} {n : Nat}
theorem kOk_mono {α : Type} {Q Q' : α → Prop} (h : ∀ a, Q a → Q' a) : ∀ {t : KasT α}, kOk key n t Q → kOk key n t Q'
  | .ret _, x => h _ x
  | .ask _ _ k, ⟨a, b, x⟩ => ⟨a, b, kOk_mono h (t := k _) x⟩
theorem kOk_bind {α β : Type} {f : α → KasT β} {Q : β → Prop} : ∀ {t : KasT α}, kOk key n t (fun a => kOk key n (f a) Q) → kOk key n (t.bind f) Q
  | .ret _, x => x
  | .ask _ _ k, ⟨a, b, x⟩ => ⟨a, b, kOk_bind (t := k _) x⟩

theorem kOk_t {α : Type} {a b : KasT α} {Q : α → Prop} (h : kOk key n a Q) : kOk key n (if true = true then a else b) Q := h
theorem kOk_f {α : Type} {a b : KasT α} {Q : α → Prop} (h : kOk key n b Q) : kOk key n (if false = true then a else b) Q := h

def Pm (n : Nat) (p : Array Nat) : Prop := p.Perm (List.range n).toArray
def kv (key : Nat → O.α) (p : Array Nat) (i : Nat) : O.α := key (p.getD i 0)
def Up (key : Nat → O.α) (p : Array Nat) (m : Nat) : Prop := ∀ i j, i ≤ j → j < m → O.kle (kv key p i) (kv key p j)
def Dn (key : Nat → O.α) (p : Array Nat) (m : Nat) : Prop := ∀ i j, i ≤ j → j < m → O.kle (kv key p j) (kv key p i)
theorem Pm.size {p : Array Nat} (h : Pm n p) : p.size = n := by rw [Array.Perm.size_eq h]; simp
theorem Pm.lt {p : Array Nat} (h : Pm n p) {i : Nat} (hi : i < n) : p.getD i 0 < n := by
  have hs := h.size
  have e : p.getD i 0 = p[i]'(by omega) := by simp [Array.getD, hs, hi]
  rw [e]
  have hm : p[i]'(by omega) ∈ p.toList := by simp
  have := (Array.perm_iff_toList_perm.mp h).mem_iff.mp hm
  simpa using this
theorem Pm.rev {p : Array Nat} (h : Pm n p) (i j : Nat) : Pm n (kas_rev p i j) := Array.Perm.trans (mirror_perm _ _ _ _) h
theorem Pm.bub {p : Array Nat} (h : Pm n p) (i j : Nat) : Pm n (bubble p i j) := Array.Perm.trans (bubble_perm _ _ _) h
theorem getD_eq {p : Array Nat} {q : Array Nat} {i j : Nat} (h : p[i]? = q[j]?) : p.getD i 0 = q.getD j 0 := by
  rw [Array.getD_eq_getD_getElem?, Array.getD_eq_getD_getElem?, h]
theorem kv_rev {p : Array Nat} {i j : Nat} (hj : j ≤ p.size) (k : Nat) : kv key (kas_rev p i j) k = if i ≤ k ∧ k < j then kv key p (i + j - 1 - k) else kv key p k := by
  have e := getElem?_mirror_all (i := i) hj k
  by_cases h : i ≤ k ∧ k < j
  · rw [if_pos h] at e ⊢
    exact congrArg key (getD_eq e)
  · rw [if_neg h] at e ⊢
    exact congrArg key (getD_eq e)
theorem kv_bub {p : Array Nat} {src d : Nat} (hs : src < p.size) (hd : d ≤ src) (k : Nat) :
    kv key (bubble p src d) k = if k = src - d then kv key p src else if src - d < k ∧ k ≤ src then kv key p (k - 1) else kv key p k := by
  have e := getElem?_bubble hs d hd k
  by_cases h : k = src - d
  · rw [if_pos h] at e ⊢
    exact congrArg key (getD_eq e)
  · rw [if_neg h] at e ⊢
    by_cases h2 : src - d < k ∧ k ≤ src
    · rw [if_pos h2] at e ⊢
      exact congrArg key (getD_eq e)
    · rw [if_neg h2] at e ⊢
      exact congrArg key (getD_eq e)
theorem kv_rev_eq {p : Array Nat} {i j : Nat} (hj : j ≤ p.size) (he : ∀ k, i ≤ k → k < j → kv key p k = kv key p (j - 1)) (k : Nat) : kv key (kas_rev p i j) k = kv key p k := by
  rw [kv_rev hj]
  split
  · rename_i h
    rw [he _ (by omega) (by omega), he k h.1 h.2]
  · rfl
theorem up_one (p : Array Nat) : Up key p 1 := fun i j h1 h2 => by
  have : i = j := by omega
  subst this
  exact KeyOrd.kle_refl _

theorem asc_ok {p : Array Nat} (hp : Pm n p) {Q : Nat → Prop} : ∀ f m, 1 ≤ m → m + f ≤ n → Up key p m → (∀ m', m ≤ m' → m' ≤ m + f → Up key p m' → (m' = m + f ∨ O.klt (kv key p m') (kv key p (m' - 1))) → Q m') → kOk key n (kas_asc p f m) Q := by
  intro f
  induction f with
  | zero => intro m h1 h2 hu hQ; exact hQ m (Nat.le_refl _) (Nat.le_refl _) hu (.inl rfl)
  | succ f ih =>
    intro m h1 h2 hu hQ
    refine ⟨hp.lt (by omega), hp.lt (by omega), ?_⟩
    cases hb : O.blt (key (p.getD m 0)) (key (p.getD (m - 1) 0)) with
    | true =>
      refine kOk_t ?_
      exact hQ m (Nat.le_refl _) (by omega) hu (.inr hb)
    | false =>
      refine kOk_f ?_
      refine ih (m + 1) (by omega) (by omega) (fun i j hij hj => ?_) (fun m' a b c d => hQ m' (by omega) (by omega) c (d.imp (by omega) id))
      by_cases hjm : j < m
      · exact hu i j hij hjm
      · have hjm : j = m := by omega
        subst hjm
        by_cases hi : i = j
        · subst hi; exact KeyOrd.kle_refl _
        · exact KeyOrd.kle_trans (hu i (j - 1) (by omega) (by omega)) hb

def Run (key : Nat → O.α) (n : Nat) (p : Array Nat) (m q : Nat) : Prop := Pm n p ∧ 1 ≤ m ∧ m ≤ n ∧ Dn key p m ∧ q + 1 ≤ m ∧ ∀ i, m - (q + 1) ≤ i → i < m → kv key p i = kv key p (m - 1)
theorem run_less {p p' : Array Nat} {m q : Nat} (h : Run key n p m q) (hm : m < n) (hp' : Pm n p') (e : ∀ k, kv key p' k = kv key p k) (hb : O.klt (kv key p m) (kv key p (m - 1))) : Run key n p' (m + 1) 0 := by
  obtain ⟨hp, h1, h2, hd, hq, he⟩ := h
  refine ⟨hp', by omega, by omega, fun i j hij hj => ?_, by omega, fun i a b => by congr 1; omega⟩
  rw [e, e]
  by_cases hjm : j < m
  · exact hd i j hij hjm
  · have hjm : j = m := by omega
    subst hjm
    by_cases hi : i = j
    · subst hi; exact KeyOrd.kle_refl _
    · exact KeyOrd.kle_trans (KeyOrd.kle_of_klt hb) (hd i (j - 1) (by omega) (by omega))
theorem run_same {p : Array Nat} {m q : Nat} (h : Run key n p m q) (hm : m < n) (e : kv key p m = kv key p (m - 1)) : Run key n p (m + 1) (q + 1) := by
  obtain ⟨hp, h1, h2, hd, hq, he⟩ := h
  refine ⟨hp, by omega, by omega, fun i j hij hj => ?_, by omega, fun i a b => ?_⟩
  · by_cases hjm : j < m
    · exact hd i j hij hjm
    · have hjm : j = m := by omega
      subst hjm
      by_cases hi : i = j
      · subst hi; exact KeyOrd.kle_refl _
      · rw [e]; exact hd i (j - 1) (by omega) (by omega)
  · rw [show m + 1 - 1 = m by omega]
    by_cases hi : i = m
    · rw [hi]
    · rw [e]; exact he i (by omega) (by omega)

theorem desc_ok {Q : Array Nat × Nat × Nat → Prop} : ∀ f (p : Array Nat) (m q : Nat), Run key n p m q → m + f ≤ n → (∀ p' m' q', Run key n p' m' q' → Q (p', m', q')) → kOk key n (kas_desc f p m q) Q := by
  intro f
  induction f with
  | zero => intro p m q h _ hQ; exact hQ p m q h
  | succ f ih =>
    intro p m q h hf hQ
    have hp := h.1
    have h1 := h.2.1
    refine ⟨hp.lt (by omega), hp.lt (by omega), ?_⟩
    cases hb : O.blt (key (p.getD m 0)) (key (p.getD (m - 1) 0)) with
    | true =>
      refine kOk_t ?_
      by_cases hq : q > 0
      · rw [if_pos hq]
        refine ih _ (m + 1) 0 (run_less h (by omega) (hp.rev _ _) (fun k => kv_rev_eq (by rw [hp.size]; omega) ?_ k) hb) (by omega) hQ
        exact h.2.2.2.2.2
      · rw [if_neg hq]
        exact ih _ (m + 1) 0 (run_less h (by omega) hp (fun _ => rfl) hb) (by omega) hQ
    | false =>
      refine kOk_f ?_
      refine ⟨hp.lt (by omega), hp.lt (by omega), ?_⟩
      cases hb2 : O.blt (key (p.getD (m - 1) 0)) (key (p.getD m 0)) with
      | true =>
        refine kOk_t ?_
        exact hQ p m q h
      | false =>
        refine kOk_f ?_
        exact ih _ (m + 1) (q + 1) (run_same h (by omega) (O.total _ _ hb hb2)) (by omega) hQ

/-- a run that stands: the first m in order -/
def Std (key : Nat → O.α) (n : Nat) (r : Nat × Array Nat) : Prop := Pm n r.2 ∧ 1 ≤ r.1 ∧ r.1 ≤ n ∧ Up key r.2 r.1
theorem tail3_ok {m : Nat} {p : Array Nat} (hp : Pm n p) (h1 : 1 ≤ m) (hm : m ≤ n) (hd : Dn key p m) : kOk key n (kas_tail3 m n p) (Std key n) := by
  unfold kas_tail3
  have hu : Up key (kas_rev p 0 m) m := fun i j hij hj => by
    rw [kv_rev (by rw [hp.size]; exact hm), kv_rev (by rw [hp.size]; exact hm), if_pos (by omega), if_pos (by omega)]
    exact hd _ _ (by omega) (by omega)
  exact kOk_bind (asc_ok (hp.rev 0 m) _ m h1 (by omega) hu fun m' a b c _ => ⟨hp.rev 0 m, by show 1 ≤ m'; omega, by show m' ≤ n; omega, c⟩)
theorem descPart_ok {m : Nat} {p : Array Nat} (hp : Pm n p) (hm : m + 1 ≤ n) (hd : Dn key p (m + 1)) : kOk key n (kas_descPart m n p) (Std key n) := by
  unfold kas_descPart
  refine kOk_bind (desc_ok _ p (m + 1) 0 ⟨hp, by omega, hm, hd, by omega, fun i a b => by congr 1; omega⟩ (by omega) fun p' m' q' h => ?_)
  obtain ⟨hp', a, b, c, d, e⟩ := h
  show kOk key n (if q' > 0 then kas_tail3 m' n (kas_rev p' (m' - (q' + 1)) m') else kas_tail3 m' n p') _
  by_cases hq : q' > 0
  · rw [if_pos hq]
    refine tail3_ok (hp'.rev _ _) a b fun i j hij hj => ?_
    rw [kv_rev_eq (by rw [hp'.size]; exact b) e, kv_rev_eq (by rw [hp'.size]; exact b) e]
    exact c i j hij hj
  · rw [if_neg hq]
    exact tail3_ok hp' a b c
theorem count_ok {p : Array Nat} (hp : Pm n p) (hn : 1 ≤ n) : kOk key n (kas_count n p) (Std key n) := by
  unfold kas_count
  refine kOk_bind (asc_ok hp _ 1 (Nat.le_refl _) (by omega) (up_one p) fun m a b c d => ?_)
  by_cases e : m = n
  · subst e
    rw [if_pos (by simp)]
    exact ⟨hp, by show 1 ≤ m; omega, Nat.le_refl _, c⟩
  · rw [if_neg (by simpa using e)]
    have hlt := d.resolve_left (by omega)
    by_cases hm : m > 1
    · rw [if_pos hm]
      refine ⟨hp.lt (by omega), hp.lt (by omega), ?_⟩
      cases hb : O.blt (key (p.getD 0 0)) (key (p.getD (m - 1) 0)) with
      | true =>
        refine kOk_t ?_
        exact ⟨hp, by show 1 ≤ m; omega, by show m ≤ n; omega, c⟩
      | false =>
        refine kOk_f ?_
        have eq : ∀ k, 0 ≤ k → k < m → kv key p k = kv key p (m - 1) := fun k _ hk =>
          KeyOrd.kle_antisymm (c k (m - 1) (by omega) (by omega)) (KeyOrd.kle_trans hb (c 0 k (by omega) hk))
        refine descPart_ok (hp.rev _ _) (by omega) fun i j hij hj => ?_
        rw [kv_rev_eq (by rw [hp.size]; omega) eq, kv_rev_eq (by rw [hp.size]; omega) eq]
        by_cases hjm : j < m
        · rw [eq i (by omega) (by omega), eq j (by omega) hjm]; exact KeyOrd.kle_refl _
        · have hjm : j = m := by omega
          subst hjm
          by_cases hi : i = j
          · subst hi; exact KeyOrd.kle_refl _
          · rw [eq i (by omega) (by omega)]; exact KeyOrd.kle_of_klt hlt
    · rw [if_neg hm]
      have hm1 : m = 1 := by omega
      subst hm1
      refine descPart_ok hp (by omega) fun i j hij hj => ?_
      by_cases hi : i = j
      · subst hi; exact KeyOrd.kle_refl _
      · have e0 : i = 0 := by omega
        have e1 : j = 1 := by omega
        subst e0 e1
        exact KeyOrd.kle_of_klt hlt
theorem place_ok {p : Array Nat} {k : Nat} (hp : Pm n p) (hk : k < n) (hu : Up key p k) {Q : Nat → Prop}
    (hQ : ∀ l, l ≤ k → (∀ i, i < l → O.kle (kv key p i) (kv key p k)) → (∀ i, l ≤ i → i < k → O.klt (kv key p k) (kv key p i)) → Q l) :
    ∀ f l r, l ≤ r → r ≤ k → r - l ≤ f → (∀ i, i < l → O.kle (kv key p i) (kv key p k)) → (∀ i, r ≤ i → i < k → O.klt (kv key p k) (kv key p i)) → kOk key n (kas_place p k f l r) Q := by
  intro f
  induction f with
  | zero =>
    intro l r h1 h2 h3 h4 h5
    have : l = r := by omega
    subst this
    exact hQ l h2 h4 h5
  | succ f ih =>
    intro l r h1 h2 h3 h4 h5
    unfold kas_place
    by_cases hlr : l ≥ r
    · rw [if_pos hlr]
      have : l = r := by omega
      subst this
      exact hQ l h2 h4 h5
    · rw [if_neg hlr]
      refine ⟨hp.lt (by omega), hp.lt (by omega), ?_⟩
      cases hb : O.blt (key (p.getD k 0)) (key (p.getD ((l + r) / 2) 0)) with
      | true =>
        refine kOk_t ?_
        exact ih l ((l + r) / 2) (by omega) (by omega) (by omega) h4 fun i a b => KeyOrd.klt_of_klt_of_kle hb (hu _ _ a b)
      | false =>
        refine kOk_f ?_
        exact ih ((l + r) / 2 + 1) r (by omega) (by omega) (by omega) (fun i a => KeyOrd.kle_trans (hu i ((l + r) / 2) (by omega) (by omega)) hb) h5
theorem bin_ok : ∀ f (p : Array Nat) (k : Nat), Pm n p → Up key p k → k + f = n → kOk key n (kas_bin f p k) (fun p' => Pm n p' ∧ Up key p' n) := by
  intro f
  induction f with
  | zero =>
    intro p k hp hu hk
    have : k = n := by omega
    subst this
    exact ⟨hp, hu⟩
  | succ f ih =>
    intro p k hp hu hk
    unfold kas_bin
    refine kOk_bind (place_ok hp (by omega) hu (fun l hl h4 h5 => ?_) k 0 k (Nat.zero_le _) (Nat.le_refl _) (by omega) (fun i h => absurd h (Nat.not_lt_zero _)) (fun i a b => absurd b (Nat.not_lt.mpr a)))
    refine ih (bubble p k (k - l)) (k + 1) (hp.bub _ _) (fun i j hij hj => ?_) (by omega)
    have hks : k < p.size := by rw [hp.size]; omega
    rw [kv_bub hks (by omega), kv_bub hks (by omega), show k - (k - l) = l by omega]
    repeat' split
    all_goals first
      | (exfalso; omega)
      | exact KeyOrd.kle_refl _
      | exact h4 _ (by omega)
      | exact KeyOrd.kle_of_klt (h5 _ (by omega) (by omega))
      | exact hu _ _ (by omega) (by omega)
theorem sort_ok (hn : 1 ≤ n) : kOk key n (kas_sort n) (fun p => Pm n p ∧ Up key p n) := by
  unfold kas_sort
  refine kOk_bind (kOk_mono (fun r h => ?_) (count_ok (Array.Perm.refl _) hn))
  obtain ⟨hp, h1, h2, hu⟩ := h
  by_cases hlt : r.1 < n
  · rw [if_pos hlt]
    have e : max r.1 1 = r.1 := by omega
    rw [e]
    exact bin_ok _ _ _ hp hu (by omega)
  · rw [if_neg hlt]
    have e : r.1 = n := by omega
    rw [e] at hu
    exact ⟨hp, hu⟩
end
end
section
section
variable {O : KeyOrd} {key : Nat → O.α} {n : Nat}
theorem kOk_wp {α : Type} {cmp : Nat → Nat → (Bool → Shared → Prop) → Shared → Prop} {G : α → Shared → Prop} {s : Shared} (hc : ∀ i j (C : Bool → Shared → Prop), i < n → j < n → C (O.blt (key i) (key j)) s → cmp i j C s) :
    ∀ {t : KasT α}, kOk key n t (fun a => G a s) → t.kasWp cmp G s
  | .ret _, x => x
  | .ask i j k, ⟨a, b, x⟩ => hc i j _ a b (kOk_wp hc (t := k _) x)
end
theorem range_getD {α : Type} (l : List α) (d : α) : (List.range l.length).map (fun i => l.getD i d) = l := by
  apply List.ext_getElem
  · simp
  · intro i h1 h2
    have hi : i < l.length := by simpa using h1
    simp [hi]
theorem rds_getD {P : Addr → Prop} {h : Heap} {vs : List Value} {rows : List (List Int)} (r : Rds P h vs (rows.map (dl PyData.int))) {i : Nat} (hi : i < rows.length) : Rd P h (vs.getD i .none) (dl .int (rows.getD i [])) := by
  obtain ⟨v, hv, rv⟩ := r.at (k := i) (d := dl .int (rows.getD i [])) (by simp [hi])
  rw [List.getD_eq_getElem?_getD, hv]
  exact rv
theorem rds_pick {P : Addr → Prop} {h : Heap} {vs : List Value} {rows : List (List Int)} (r : Rds P h vs (rows.map (dl PyData.int))) : ∀ (p : List Nat), (∀ i ∈ p, i < rows.length) → Rds P h (p.map fun i => vs.getD i .none) ((p.map fun i => rows.getD i []).map (dl .int))
  | [], _ => .nil
  | i :: p, hp => .cons (rds_getD r (hp i List.mem_cons_self)) (rds_pick r p fun j hj => hp j (List.mem_cons_of_mem _ hj))

section
variable {prog : Program} {w : World} {A : Around} {E : Value → Shared → Prop} {s : Shared}
theorem list_sort_rows {a : Addr} {vs : List Value} {rows : List (List Int)} {n : Nat} {Pr : Addr → Prop} {P : Fin → Shared → Prop} (hu : A.units < cLine) (ho : s.heap.get? a = some (seqObj "list" vs.toArray n))
    (hr : Rds Pr s.heap vs (rows.map (dl .int))) (hPa : ∀ b, Pr b → b ≠ a) (h64 : vs.length < 64)
    (h : ∀ h' out (rows' : List (List Int)), (∀ b o, b ≠ a → s.heap.get? b = some o → h'.get? b = some o) → PlainL h' a (List.toArray out) → Rds Pr h' out (rows'.map (dl .int)) → rows'.Perm rows → rows'.Pairwise (fun x y => ltL y x = false) → P (.done (.ret .none)) { s with heap := h' }) :
    wpAny (model prog w) A (Builtin.«list.sort» ⟨[.ref a], []⟩) P E s := by
  have hln := sizeLine_eq
  have hlen : vs.length = rows.length := by rw [hr.length, List.length_map]
  have ha : a < s.heap.objs.size := Heap.lt_size ho
  have s1 := Heap.SameBut.update s.heap a (Obj.mapSeq fun _ => (#[] : Array Value))
  obtain ⟨e1, ho1⟩ : ∃ e1, (s.heap.update a (Obj.mapSeq fun _ => (#[] : Array Value))).get? a = some (seqObj "list" #[] e1) := ⟨_, get?_update_seq ho fun _ => #[]⟩
  rw [list_sort_plain]
  refine wpAny_bind (listItems_at ho rfl ?_)
  refine wpAny_bind (listUpdate_at ho rfl ?_ (by rw [List.size_toArray]; omega) (Nat.zero_le _))
  refine wpAny_bind (seqEpoch_at ho1 rfl ?_)
  refine wpAny_bind (wpAny_newTuple ?_ (by show vs.length ≤ _; omega))
  refine wpAny_bind (wpAny_newList ?_ (Nat.zero_le _))
  refine wpAny_holding ?_
  obtain ⟨H, hH⟩ : ∃ H, H = ((s.heap.update a (Obj.mapSeq fun _ => (#[] : Array Value))).push (seqObj "tuple" vs.toArray 0)).push (seqObj "list" #[] 0) := ⟨_, rfl⟩
  have ho6 : H.get? a = some (seqObj "list" #[] e1) := by rw [hH]; exact Heap.get?_push_of_some _ (Heap.get?_push_of_some _ ho1)
  have k6 : ∀ b o, b ≠ a → s.heap.get? b = some o → H.get? b = some o := fun b o hb e => by rw [hH]; exact Heap.get?_push_of_some _ (Heap.get?_push_of_some _ (s1.extBut b o hb e))
  have hr6 : Rds Pr H vs (rows.map (dl .int)) := hr.imp (fun _ p => p) fun b o _ _ pb e _ => k6 b o (hPa b pb) e
  show wpAny (model prog w) A _ P E { s with heap := ((s.heap.update a (Obj.mapSeq fun _ => #[])).push (seqObj "tuple" vs.toArray 0)).push (seqObj "list" #[] 0) }
  rw [← hH]
  dsimp only
  have fin : ∀ (out : List Value) (rows' : List (List Int)), out.length = vs.length → Rds Pr H out (rows'.map (dl .int)) → rows'.Perm rows → rows'.Pairwise (fun x y => ltL y x = false) →
      wpAny (model prog w) A (Builtin.List.listUpdate (.ref a) (fun _ => List.toArray out)) (fun _ s' => P (.done (.ret .none)) s') E { s with heap := H } := by
    intro out rows' hol h1 h2 h3
    have s2 := Heap.SameBut.update H a (Obj.mapSeq fun _ => List.toArray out)
    obtain ⟨c2, hc2⟩ : ∃ c2, (H.update a (Obj.mapSeq fun _ => List.toArray out)).get? a = some (seqObj "list" (List.toArray out) c2) := ⟨_, get?_update_seq ho6 fun _ => List.toArray out⟩
    refine listUpdate_at (s := { s with heap := H }) ho6 rfl ?_ (Nat.zero_le _) (by show out.toArray.size ≤ _; rw [List.size_toArray]; omega)
    exact h _ out rows' (fun b o hb e => s2.extBut b o hb (k6 b o hb e)) ⟨_, c2, hc2, rfl, rfl, rfl⟩ (h1.imp (fun _ p => p) fun b o _ _ pb e _ => s2.extBut b o (hPa b pb) e) h2 h3
  by_cases h2 : vs.toArray.size < 2
  · rw [if_pos h2, if_pos h2]
    rw [List.size_toArray] at h2
    refine wpAny_bind (wpAny_pure ?_)
    rw [StateT.run_pure]
    refine wpAny_bind (wpAny_pure ?_)
    dsimp only
    refine wpAny_bind (seqEpoch_at (s := { s with heap := H }) ho6 rfl ?_)
    have eo : (arrOf (SortSt.mk' general' (vs.toArray.zip vs.toArray) #[] 7 none)).map (·.2) = List.toArray vs := by
      show (vs.toArray.zip vs.toArray).map (·.2) = _
      apply Array.toList_inj.mp
      simp [List.map_snd_zip]
    rw [eo]
    refine wpAny_bind (wpAny_mono (fin vs rows rfl hr6 (List.Perm.refl _) ?_) (fun _ s' q => ?_) fun _ _ e => e)
    · rw [List.pairwise_iff_getElem]
      intro i j hi hj hij
      omega
    · simp only [bne_self_eq_false, Bool.false_eq_true, if_false]
      exact wpAny_pure q
  · rw [if_neg h2, if_neg h2]
    rw [List.size_toArray] at h2
    have hT : ∀ v ∈ vs, Looks (model prog w) H (typeOf v) (.type "list") := fun v hv => by
      obtain ⟨i, hi⟩ := List.getElem?_of_mem hv
      obtain ⟨d, hd, rd⟩ := hr6.get hi
      rw [List.getElem?_map] at hd
      obtain ⟨x, _, rfl⟩ := Option.map_eq_some_iff.mp hd
      obtain ⟨l, ws, rfl, ⟨o, eo, co, _⟩, _, _⟩ := rd.list_inv
      exact co ▸ (Looks.ld eo).andThen .now
    refine wpAny_bind (kas_kind (s := { s with heap := H }) (T := .type "list") (by omega) hT rfl rfl ?_)
    have est : SortSt.mk' oneType' (vs.toArray.zip vs.toArray) #[] 7 none = kas_st oneType' (pairsOf vs) (List.toArray (List.range vs.length)) := by
      have e := kas_range (pairsOf vs)
      rw [pairsOf_size] at e
      show SortSt.mk' oneType' (pairsOf vs) #[] 7 none = SortSt.mk' oneType' ((List.toArray (List.range vs.length)).map (kas_item (pairsOf vs))) #[] 7 none
      rw [e]
    have ask : (kas_sort vs.length).kasWp (kas_cmp prog w A oneType' (pairsOf vs)) (fun p s' => s' = { s with heap := H } ∧ Pm vs.length p ∧ Up (O := ordL) (fun i => rows.getD i []) p vs.length) { s with heap := H } := by
      refine kOk_wp (O := ordL) (key := fun i => rows.getD i []) (n := vs.length) (fun i j C hi hj hC => ?_) (kOk_mono (fun p q => ⟨rfl, q.1, q.2⟩) (sort_ok (by omega)))
      unfold kas_cmp
      rw [kas_item_eq, kas_item_eq]
      have ri := rds_getD hr6 (i := i) (by omega)
      have rj := rds_getD hr6 (i := j) (by omega)
      obtain ⟨l1, w1, e1, i1, r1, _⟩ := ri.list_inv
      obtain ⟨l2, w2, e2, i2, r2, _⟩ := rj.list_inv
      dsimp only
      rw [e1, e2]
      exact key_lt (s := { s with heap := H }) hu i1 i2 (Rds.ints r1) (Rds.ints r2) hC
    have run := kas_runs (E := E) (Q := fun _ st' s' => ∃ p : Array Nat, p.size = vs.length ∧ arrOf st' = p.map (kas_item (pairsOf vs)) ∧ failedOf st' = none ∧ s' = { s with heap := H } ∧ Pm vs.length p ∧ Up (O := ordL) (fun i => rows.getD i []) p vs.length)
      (by omega) h64 (fun p' st' s' a1 a2 a3 a4 => ⟨p', a1, a2, a3, a4⟩) ask
    rw [← est] at run
    refine wpAny_bind (wpAny_mono run ?_ fun _ _ e => e)
    rintro ⟨⟨⟩, st'⟩ s' ⟨p, hp, har, hf, rfl, hpm, hup⟩
    dsimp only
    have hout : (arrOf st').map (·.2) = List.toArray (p.toList.map fun i => vs.getD i Value.none) := by
      apply Array.toList_inj.mp
      rw [har, Array.map_map, Array.toList_map]
      exact List.map_congr_left fun i _ => by show (kas_item (pairsOf vs) i).2 = _; rw [kas_item_eq]
    rw [hout]
    refine wpAny_bind (seqEpoch_at (s := { s with heap := H }) ho6 rfl ?_)
    have hpl : p.toList.Perm (List.range vs.length) := Array.perm_iff_toList_perm.mp hpm
    refine wpAny_bind (wpAny_mono (fin (p.toList.map fun i => vs.getD i Value.none) (p.toList.map fun i => rows.getD i []) (by rw [List.length_map, Array.length_toList, hp]) (rds_pick hr6 _ fun i hi => by
        have := List.mem_range.mp (hpl.mem_iff.mp hi); omega) ?_ ?_) (fun _ s' q => ?_) fun _ _ e => e)
    · have := hpl.map fun i => rows.getD i []
      rw [hlen, range_getD] at this
      exact this
    · rw [List.pairwise_iff_getElem]
      intro i j hi hj hij
      have hi' : i < p.size := by simpa using hi
      have hj' : j < p.size := by simpa using hj
      have q : ltL (kv (O := ordL) (fun i => rows.getD i []) p j) (kv (O := ordL) (fun i => rows.getD i []) p i) = false := hup i j (Nat.le_of_lt hij) (by omega)
      have e1 : kv (O := ordL) (fun i => rows.getD i []) p i = rows.getD p[i] [] := by unfold kv; simp [Array.getD, hi']
      have e2 : kv (O := ordL) (fun i => rows.getD i []) p j = rows.getD p[j] [] := by unfold kv; simp [Array.getD, hj']
      rw [e1, e2] at q
      simpa using q
    · rw [hf]
      simp only [bne_self_eq_false, Bool.false_eq_true, if_false]
      exact wpAny_pure q
end
end
section
section
variable {prog : Program} {w : World} {A : Around} {E : Value → Shared → Prop} {s : Shared} {n : Nat}
theorem sorted_call {P : Addr → Prop} {v : Value} {rows : List (List Int)} {Q : Value → Shared → Prop} (R : Rm A n) (hv : Rd P s.heap v (dl (dl .int) rows)) (h64 : rows.length < 64)
    (h : ∀ v' s' (rows' : List (List Int)), Keeps s s' → Rd (fun _ => True) s'.heap v' (dl (dl .int) rows') → rows'.Perm rows → rows'.Pairwise (fun x y => ltL y x = false) → Q v' s') :
    wpAny (model prog w) A (call (.builtin "sorted") [v]) Q E s := by
  have hln := sizeLine_eq
  obtain ⟨l, vs, rfl, hl, hr, _⟩ := (hv.stand.mono (P' := fun a => ∃ o, s.heap.get? a = some o) fun _ q => q.2).plain_inv
  have hlen : vs.length = rows.length := by rw [hr.length, List.length_map]
  refine Calls.call_function_entry kind_sorted plain_sorted entry_sorted (args_sorted1 _) ?_
  unfold Builtin.«sorted»
  refine wpAny_bind (m := checkCount "sorted" 1 1 _) (wpAny_pure ?_)
  refine wpAny_bind (collect_list (plain_list hl) ?_ (by omega))
  refine wpAny_bind (wpAny_newList ?_ (by omega))
  have hsz : ((s.heap.push (seqObj "list" #[] 0)).update s.heap.objs.size (Obj.mapSeq (· ++ vs.toArray))).objs.size = s.heap.objs.size + 1 := by
    rw [Heap.size_update, size_push']
  obtain ⟨H, hH⟩ : ∃ H, H = ((s.heap.push (seqObj "list" #[] 0)).update s.heap.objs.size (Obj.mapSeq (· ++ vs.toArray))).push (seqObj "list" vs.toArray 0) := ⟨_, rfl⟩
  have hoL : H.get? (s.heap.objs.size + 1) = some (seqObj "list" vs.toArray 0) := by
    rw [hH, ← hsz]; exact Heap.get?_push_size _ rfl
  have keep : Ext s.heap H := fun b o q => by
    have hlt : b < s.heap.objs.size := Heap.lt_size q
    rw [hH, Heap.get?_push_ne _ _ _ (by rw [hsz]; exact Nat.ne_of_lt (Nat.lt_succ_of_lt hlt)), Heap.get?_update_ne _ _ _ _ (Nat.ne_of_lt hlt), Heap.get?_push_ne _ _ _ (Nat.ne_of_lt hlt)]
    exact q
  show wpAny _ _ _ _ _ { s with heap := ((s.heap.push (seqObj "list" #[] 0)).update s.heap.objs.size (Obj.mapSeq (· ++ vs.toArray))).push (seqObj "list" vs.toArray 0) }
  rw [hsz, ← hH]
  have fa : s.heap.get? (s.heap.objs.size + 1) = none := fresh_none (Nat.le_succ _)
  have hPa : ∀ b, (∃ o, s.heap.get? b = some o) → b ≠ s.heap.objs.size + 1 := fun b ⟨o, e⟩ q => by rw [q, fa] at e; cases e
  refine wpAny_bind (wpAny_holding (wpAny_call_entry (s := { s with heap := H }) slot_list_sort ⟨_, hoL, rfl⟩ entry_list_sort ?_ (args_list_sort _)))
  refine list_sort_rows (s := { s with heap := H }) (rows := rows) (Pr := fun a => ∃ o, s.heap.get? a = some o) ?_ hoL (hr.ext keep) hPa (by omega) fun h' out rows' hk hl' hr' hp hs => ?_
  · have := R.u65
    show A.units + 1 + 1 < cLine
    omega
  · refine ⟨_, rfl, wpAny_pure ⟨_, rfl, ?_⟩⟩
    refine h _ _ rows' ⟨h', s.toks, rfl, fun b o e => hk b o (hPa b ⟨o, e⟩) (keep b o e)⟩ (Rd.of_list trivial hl' (hr'.mono fun _ _ => trivial)) hp hs
end
/-- two lists in order of the same members are the same -/
theorem sorted_same : ∀ {a b : List (List Int)}, a.Perm b → a.Pairwise (fun x y => ltL y x = false) → b.Pairwise (fun x y => ltL y x = false) → a = b := by
  intro a b hp ha hb
  exact List.Perm.eq_of_pairwise (le := fun x y => ltL y x = false) (fun x y _ _ h1 h2 => ltL_total x y h2 h1) ha hb hp
theorem sorted_eq_iff {a b a' b' : List (List Int)} (ha : a'.Perm a) (hb : b'.Perm b) (sa : a'.Pairwise (fun x y => ltL y x = false)) (sb : b'.Pairwise (fun x y => ltL y x = false)) : (a' == b') = decide (a.Perm b) := by
  by_cases h : a.Perm b
  · rw [decide_eq_true h, sorted_same ((ha.trans h).trans hb.symm) sa sb, beq_self_eq_true]
  · rw [decide_eq_false h, beq_eq_false_iff_ne]
    intro e
    exact h ((ha.symm.trans (e ▸ List.Perm.refl _)).trans hb)
end
section
/-! ## x.append as a value -/
abbrev bndO (D : Addr) : Obj := { cls := .type "builtin_function_or_method", data := .fields #[.builtin "list.append", .ref D] }
theorem la_lk : typeLookup (.type "list") "append" = pure (some (.builtin "list.append")) := by rw [typeLookup_type, builtinLookup_eq_fast]; kernel_rfl
theorem la_type : typeOf (.builtin "list.append") = pure (.type "method_descriptor") := by show builtinType _ = _; rw [builtinType_eq_fast]; kernel_rfl
theorem md_slot : Slot "method_descriptor" "__get__" "method_descriptor.__get__" :=
  .of (owner := "method_descriptor") (n := "__get__") (by rw [typeLookup_type, builtinLookup_eq_fast]; kernel_rfl) (by decide +kernel) (by decide +kernel) (by decide +kernel)
    (by first | exact .inl (by decide +kernel) | exact .inr (by decide +kernel)) (by rw [isSubtype_type]; kernel_rfl)
theorem md_entry : entryFor table "method_descriptor.__get__" = some Builtin.«method_descriptor.__get__» := entryFor_of_tree (by kernel_rfl)
theorem md_args (a b c : Value) : argsOk "method_descriptor.__get__" ⟨[a, b, c], []⟩ := by unfold argsOk; kernel_rfl
theorem md_set : typeLookup (.type "method_descriptor") "__set__" = pure none := by rw [typeLookup_type, builtinLookup_eq_fast]; kernel_rfl
theorem md_del : typeLookup (.type "method_descriptor") "__delete__" = pure none := by rw [typeLookup_type, builtinLookup_eq_fast]; kernel_rfl
theorem la_owner : isSubtype (.type "list") (.type (".".intercalate ("list.append".cutAt '.').dropLast)) = pure true := by
  rw [isSubtype_type]; kernel_rfl
section
variable {prog : Program} {w : World} {A : Around} {E : Value → Shared → Prop} {h : Heap} {g : Array GenState} {d : Drawn} {t : Nat} {os : OsState} {a : Addr} {o : Obj}
theorem bnd_get {R : Result → Shared → Prop} (hx : h.get? a = some o) (hc : o.cls = .type "list") (hq : R (.ok (.ret (.ref h.objs.size))) ⟨h.push (bndO a), g, d, t, os⟩) :
    codeAny (model prog w) A (.call (.builtin "method_descriptor.__get__") ⟨[.builtin "list.append", .ref a, .type "list"], []⟩) R ⟨h, g, d, t, os⟩ := by
  have hT : (⟨h, g, d, t, os⟩ : Shared).TypeIs (.ref a) "list" := ⟨_, hx, hc⟩
  have hT5 : (⟨h, g, d, t, os⟩ : Shared).TypeIs (.builtin "list.append") "method_descriptor" := la_type
  have f8 := la_owner
  refine codeAny_call_builtin md_slot.plain md_entry (md_slot.check _ _ _ _ _ _ _ _ hT5 (md_args _ _ _) ?_)
  repeat (any_goals (first | assumption | wp_step))
theorem bnd_entry {tk : Tok} {Q : Fin → Shared → Prop} {vs : Array Value} {n : Nat} (hx : h.get? a = some o) (hc : o.cls = .type "list") (hd : o.dict = none) (hv : o.data = .seq vs n) (hq : Q (.done (.ret (.ref h.objs.size))) ⟨h.push (bndO a), g, d, t, os⟩) :
    wpAny (model prog w) A (Builtin.«object.__getattribute__» ⟨[.ref a, .str "append" tk], []⟩) Q E ⟨h, g, d, t, os⟩ := by
  obtain ⟨c, dct, dat, sl⟩ := o
  simp only at hc hd hv
  subst hc hd hv
  have hT : (⟨h, g, d, t, os⟩ : Shared).TypeIs (.ref a) "list" := ⟨_, hx, rfl⟩
  have hT5 : (⟨h, g, d, t, os⟩ : Shared).TypeIs (.builtin "list.append") "method_descriptor" := la_type
  have f4 := la_lk
  have f5 := la_type
  have f6 := md_slot.lookup
  have f7 := md_set
  have f8 := md_del
  unfold Builtin.«object.__getattribute__»
  repeat (any_goals (first | assumption | wp_step))
  refine bnd_get hx rfl ?_
  repeat (any_goals (first | assumption | wp_step))
theorem bnd_attr {Q : Value → Shared → Prop} {vs : Array Value} {n : Nat} (hx : h.get? a = some o) (hc : o.cls = .type "list") (hd : o.dict = none) (hv : o.data = .seq vs n) (hq : Q (.ref h.objs.size) ⟨h.push (bndO a), g, d, t + 1, os⟩) :
    wpAny (model prog w) A (getAttr (.ref a) "append" true) Q E ⟨h, g, d, t, os⟩ := by
  obtain ⟨c, dct, dat, sl⟩ := o
  simp only at hc hd hv
  subst hc hd hv
  have hT : ∀ tk', (⟨h, g, d, tk', os⟩ : Shared).TypeIs (.ref a) "list" := fun _ => ⟨_, hx, rfl⟩
  have f3 := F.slot_list_getattribute.lookup
  have f4 := F.slot_list_getattribute.bind (.ref a)
  unfold getAttr getAttrBy
  have hy : (h.push (bndO a)).get? h.objs.size = some (bndO a) := Heap.get?_push_size _ rfl
  repeat (any_goals (first | assumption | exact hT _ | wp_step))
  refine codeAny_call_builtin F.slot_list_getattribute.plain F.entry_list_ga (F.slot_list_getattribute.check _ _ _ _ _ _ _ _ (hT _) (F.args_list_getattribute_2 _ _) (bnd_entry hx rfl rfl rfl ?_))
  repeat (any_goals (first | assumption | exact hT _ | wp_step))
theorem append_plain : plainId "list.append" = true := by decide +kernel
noncomputable def sigA := (Manifest.signature? "list.append").get (by decide +kernel)
theorem sigA_eq : Manifest.signature? "list.append" = some sigA := (Option.some_get _).symm
theorem kindA_eq : builtinKind "list.append" = some .method := by decide +kernel
theorem moreA : Manifest.varargsMethods.contains "list.append" = false := by decide +kernel
theorem fitsA (D : Addr) (x : Value) : Bind.checkArgs "list.append" { sigA with full := s!"{Bind.lastOf "list"}.{Bind.lastOf "list.append"}" } ⟨[.ref D, x], []⟩ = pure () := by kernel_rfl
theorem subA : isSubtype (.type "list") (.type "module") = pure false := by rw [isSubtype_type]; kernel_rfl
theorem append_check {x : Value} {Q : Unit → Shared → Prop} (hx : h.get? a = some o) (hc : o.cls = .type "list") (hv : ∃ vs n, o.data = .seq vs n) (hq : Q () ⟨h, g, d, t, os⟩) : wpAny (model prog w) A (checkBoundCall "list.append" ⟨[.ref a, x], []⟩) Q E ⟨h, g, d, t, os⟩ := by
  obtain ⟨c, dct, dat, sl⟩ := o
  simp only at hc hv
  obtain ⟨vs, n, hv⟩ := hv
  subst hc hv
  have f1 := subA
  unfold checkBoundCall
  rw [sigA_eq, kindA_eq, moreA]
  dsimp only
  refine KFB.if_not (by decide) ?_
  have hT : (⟨h, g, d, t, os⟩ : Shared).TypeIs (.ref a) "list" := ⟨_, hx, rfl⟩
  refine wpAny_bind ?_
  refine wpAny_mono (Q := fun b s' => b = false ∧ s' = ⟨h, g, d, t, os⟩) (E := E) ?_ (fun b s' hb => ?_) fun _ _ e => e
  · repeat (any_goals (first | assumption | wp_step))
    exact ⟨rfl, rfl⟩
  obtain ⟨rfl, rfl⟩ := hb
  refine KFB.if_not (by decide) ?_
  refine wpAny_bind ?_
  refine wpAny_mono (Q := fun b s' => b = false ∧ s' = ⟨h, g, d, t, os⟩) (E := E) ?_ (fun b s' hb => ?_) fun _ _ e => e
  · repeat (any_goals (first | assumption | wp_step))
    exact ⟨rfl, rfl⟩
  obtain ⟨rfl, rfl⟩ := hb
  refine KFB.if_not (by decide) ?_
  refine wpAny_bind ?_
  refine wpAny_mono (Q := fun b s' => b = .type "list" ∧ s' = ⟨h, g, d, t, os⟩) (E := E) ?_ (fun b s' hb => ?_) fun _ _ e => e
  · repeat (any_goals (first | assumption | wp_step))
    exact ⟨rfl, rfl⟩
  obtain ⟨rfl, rfl⟩ := hb
  exact wpAny_of_eq (fitsA a x) hq
end
section
variable {prog : Program} {w : World} {A : Around} {E : Value → Shared → Prop} {s : Shared}
theorem callWith_bnd {pos : Pos} {u D : Addr} {e : PySem.Expr} {rest : List PySem.Expr} {env : Env} {Q : Value → Shared → Prop}
    (h : wpAny (model prog w) A (spliced (backTo pos (starEach (e :: rest) env))) (fun vs s₁ => s₁.heap.get? u = some (bndO D) ∧ wpAny (model prog w) A (call (.ref u) vs) Q E s₁) E s)
    (he : starEach (e :: rest) env = (false, eval e env) :: starEach rest env := by rfl) (hplain : (backTo pos (starEach rest env)).any (·.1) = false := by rfl) :
    wpAny (model prog w) A (callWith pos (.ref u) [] (backTo pos (starEach (e :: rest) env)) []) Q E s := by
  have h' : wpAny (model prog w) A (evalArgs (.ref u) true (backTo pos (starEach (e :: rest) env)) []) (fun x s₁ => s₁.heap.get? u = some (bndO D) ∧ wpAny (model prog w) A (call (.ref u) ([] ++ x.pos) x.kw) Q E s₁) E s := by
    rw [he] at h ⊢
    exact evalArgs_plain h
  have hp2 : (backTo pos (starEach (e :: rest) env)).any (·.1) = false := by
    rw [he]; show (false || (backTo pos (starEach rest env)).any (·.1)) = false; rw [hplain]; rfl
  unfold callWith
  refine wpAny_bind (wpAny_holding (wpAny_mono h' (fun x s₁ h₁ => wpAny_bind (wpAny_standAt ?_)) fun _ _ x => x))
  obtain ⟨ho, hcall⟩ := h₁
  simp only [hp2, List.any_nil, Bool.or_false]
  refine wpAny_bind (m := keeperOf (.ref u)) ?_
  unfold keeperOf
  refine wpAny_bind (wpAny_load ho ?_)
  simp only [show (Value.type "builtin_function_or_method" != Value.type "method") = true by decide, show (Value.type "builtin_function_or_method" == Value.type "builtin_function_or_method" || Value.type "builtin_function_or_method" == Value.type "method-wrapper") = true by decide, if_true]
  refine wpAny_pure ?_
  exact wpAny_bind (wpAny_mono hcall (fun r s₂ hr => wpAny_bind (wpAny_holding (wpAny_point (wpAny_pure hr)))) fun _ _ x => x)
theorem call_bnd {u D : Addr} {its : Array Value} {x : Value} {Q : Value → Shared → Prop} (ho : s.heap.get? u = some (bndO D)) (hl : PlainL s.heap D its) (hQ : ∀ h', PlainL h' D (its.push x) → Heap.SameBut D s.heap h' → Q .none { s with heap := h' })
    (hsz : its.size ≤ sizeLine) : wpAny (model prog w) A (call (.ref u) [x]) Q E s := by
  refine wpAny_call (codeAny_of_tree ?_)
  show wpAny _ A.in1 (callAny (.ref u) ⟨[x], []⟩) _ _ s
  simp only [callAny]
  refine wpAny_bind (wpAny_load ho ?_)
  simp only [show (Value.type "builtin_function_or_method" == Value.type "method" || Value.type "builtin_function_or_method" == Value.type "builtin_function_or_method" || Value.type "builtin_function_or_method" == Value.type "method-wrapper") = true by decide, if_true]
  refine KFB.if_so (by decide) ?_
  refine wpAny_bind ?_
  obtain ⟨o, n, eo, co, do', vo⟩ := id hl
  obtain ⟨hp, g, d, t, os⟩ := s
  refine append_check eo co ⟨_, _, vo⟩ ?_
  refine wpAny_bind (wpAny_pure (wpAny_pure ?_))
  refine ⟨plainId_quiet append_plain _, codeAny_builtin entry_list_append ?_⟩
  show wpAny _ _ (updateSeq D (·.push x) >>= fun _ => ret .none) _ _ _
  obtain ⟨n', hd'⟩ := Obj.data_mapSeq vo (·.push x)
  refine wpAny_bind ?_
  refine wpAny_updateSeq eo vo (wpAny_pure (hQ _ ?_ (Heap.SameBut.update ..)))
  refine ⟨_, n', Heap.get?_update_self _ eo (Obj.isFreed_of_seq hd'), (Obj.cls_mapSeq ..).trans co, ?_, hd'⟩
  obtain ⟨c, d, dt, sl⟩ := o
  subst vo
  exact do'
end
section
end
end
section
open PySem PySem.Calls PySem.W PyProof.Rows PySem.Spec PySem.Builtin
noncomputable def mapO (w : World) : { o : Obj // (KK w).lookup 45 = some o } := ⟨_, rfl⟩
def esOf : Data → Array DictEntry | .dict es _ => es | _ => #[]
noncomputable def mapF (w : World) (k : Int) : Option Value := findBy Value.isInt (esOf (mapO w).1.data) k
theorem map_keys (w : World) : ((esOf (mapO w).1.data).all fun e => match e.key with | .int k _ => e.hash == hashInt k | _ => false) = true := by kernel_rfl
theorem map_is {prog : Program} {w : World} {h : Heap} (K : (KK w).In h) : h.MapOf (intKind prog w) 45 (mapF w) := by
  refine ⟨(mapO w).1, esOf (mapO w).1.data, _, K _ _ (mapO w).2, ⟨rfl, rfl, rfl⟩, rfl, fun e he => ?_, fun k => rfl⟩
  have h1 := map_keys w
  rw [Array.all_eq_true'] at h1
  have h2 := h1 e he
  cases hk : e.key with
  | int k t => rw [hk] at h2; exact ⟨k, by simp [intKind, Value.isInt], (by simpa using h2 : e.hash = hashInt k)⟩
  | _ => rw [hk] at h2; cases h2
theorem map_plus (w : World) : mapF w ((43 : Nat) : Int) = some (.str (PySem.Str.ofString "\\+") 382) := by kernel_rfl
theorem map_T (w : World) : mapF w ((84 : Nat) : Int) = none := by kernel_rfl
theorem map_Q (w : World) : mapF w ((81 : Nat) : Int) = none := by kernel_rfl
theorem map_R (w : World) : mapF w ((82 : Nat) : Int) = none := by kernel_rfl
section
variable {prog : Program} {w : World} {A : Around} {E : Value → Shared → Prop} {s : Shared}
theorem look_keep {c : Nat} {Q : Str.Mapped → Shared → Prop} (K : (KK w).In s.heap) (hh : A.handled = none) (hc : mapF w c = none)
    (h : ∀ s', Keeps s s' → Q .keep s') : wpAny (model prog w) A (Str.tableLookup (.ref 45) c) Q E s := by
  unfold Str.tableLookup
  refine wpAny_bind (wpAny_attempt ?_)
  refine wpAny_bind (wpAny_mkInt ?_)
  refine wpAny_getItem_missing_of (knd := intKind prog w) (k := (c : Int)) (f := mapF w) (by simp [intKind, Value.isInt]) (by decide) hh (map_is K) hc fun h' e hn => ?_
  have hT : (⟨h', s.gens, s.drawn, s.toks + 1 + 1, s.os⟩ : Shared).TypeIs (.ref e) "KeyError" := by obtain ⟨ob, t, e1, e2, _⟩ := hn.there; exact ⟨ob, e1, e2⟩
  have f1 : isSubtype (.type "KeyError") (.type "LookupError") = pure true := by rw [isSubtype_type]; kernel_rfl
  dsimp only
  repeat (any_goals (first | assumption | wp_step))
  exact h _ ⟨h', _, rfl, hn.keeps⟩
theorem look_text {c : Nat} {x : Str} {t : Tok} {Q : Str.Mapped → Shared → Prop} (K : (KK w).In s.heap) (hc : mapF w c = some (.str x t))
    (h : ∀ s', Keeps s s' → Q (.text x) s') : wpAny (model prog w) A (Str.tableLookup (.ref 45) c) Q E s := by
  unfold Str.tableLookup
  refine wpAny_bind (wpAny_attempt ?_)
  refine wpAny_bind (wpAny_mkInt ?_)
  refine wpAny_getItem_intMap (f := mapF w) (map_is (prog := prog) (w := w) K).intMap hc ?_
  dsimp only
  repeat (any_goals (first | assumption | wp_step))
  exact h _ keeps_tok
theorem tr_keep {c : Nat} {t : Tok} {Q : Value → Shared → Prop} (K : (KK w).In s.heap) (hh : A.handled = none) (h128 : c < 128) (hc : mapF w c = none)
    (h : ∀ t' s', Keeps s s' → Q (.str ⟨#[c]⟩ t') s') : wpAny (model prog w) A (call (.builtin "str.translate") [.str ⟨#[c]⟩ t, .ref 45]) Q E s := by
  refine wpAny_call_entry F.slot_str_translate (typeIs_str _ _ _) F.entry_str_translate ?_ (F.args_str_translate_2 _ _)
  unfold Builtin.«str.translate»
  refine wpAny_bind (wpAny_of_eq (a := (.str ⟨#[c]⟩ t, ⟨#[c]⟩, .ref 45)) rfl ?_)
  dsimp only
  refine KFB.if_not (by rfl) ?_
  have hall : (#[c].all fun x => decide (x < 128)) = true := by simp [h128]
  rw [hall, ← Array.forIn_toList]
  simp only [List.forIn_cons, List.forIn_nil]
  refine wpAny_bind ?_
  refine wpAny_bind ?_
  refine KFB.if_not (by decide) ?_
  simp only [if_true, Bool.false_eq_true, if_false, List.lookup]
  refine wpAny_bind (look_keep K hh hc fun s1 k1 => ?_)
  dsimp only
  refine wpAny_pure ?_
  dsimp only
  refine wpAny_pure ?_
  dsimp only
  refine KFB.if_not (by decide) ?_
  have e : (⟨List.foldl (fun acc p => acc ++ p.cps) #[] [({ cps := #[c] } : Str)].reverse⟩ : Str) = ⟨#[c]⟩ := by simp
  rw [e]
  refine wpAny_bind (wpAny_mkStr (wpAny_pure ⟨_, rfl, h _ _ (keeps_trans k1 keeps_tok)⟩) ?_)
  have := sizeLine_eq
  show 1 ≤ sizeLine
  omega
theorem tr_text {c : Nat} {x : Str} {t u : Tok} {Q : Value → Shared → Prop} (K : (KK w).In s.heap) (hh : A.handled = none) (h128 : c < 128) (hc : mapF w c = some (.str x u)) (hx : (x.length == 1) = false) (hx2 : x.length ≤ 16)
    (h : ∀ t' s', Keeps s s' → Q (.str x t') s') : wpAny (model prog w) A (call (.builtin "str.translate") [.str ⟨#[c]⟩ t, .ref 45]) Q E s := by
  refine wpAny_call_entry F.slot_str_translate (typeIs_str _ _ _) F.entry_str_translate ?_ (F.args_str_translate_2 _ _)
  unfold Builtin.«str.translate»
  refine wpAny_bind (wpAny_of_eq (a := (.str ⟨#[c]⟩ t, ⟨#[c]⟩, .ref 45)) rfl ?_)
  dsimp only
  refine KFB.if_not (by rfl) ?_
  have hall : (#[c].all fun x => decide (x < 128)) = true := by simp [h128]
  rw [hall, ← Array.forIn_toList]
  simp only [List.forIn_cons, List.forIn_nil]
  refine wpAny_bind ?_
  refine wpAny_bind ?_
  refine KFB.if_not (by decide) ?_
  simp only [if_true, Bool.false_eq_true, if_false, List.lookup]
  refine wpAny_bind (look_text K hc fun s1 k1 => ?_)
  simp only [hx, Bool.false_and, Bool.false_eq_true, if_false]
  refine wpAny_bind (wpAny_pure ?_)
  dsimp only
  refine wpAny_bind (wpAny_rule ?_)
  refine wpAny_bind (look_text (fun a o e => keeps_ext k1 _ _ (K a o e)) hc fun s2 k2 => ?_)
  dsimp only
  refine wpAny_pure ?_
  dsimp only
  refine wpAny_pure ?_
  dsimp only
  have := sizeLine_eq
  refine KFB.if_not (by unfold Str.tooLong; rw [decide_eq_false (by omega)]) ?_
  have e : (⟨List.foldl (fun acc p => acc ++ p.cps) #[] [x].reverse⟩ : Str) = x := by simp
  rw [e]
  refine wpAny_bind (wpAny_mkStr (wpAny_pure ⟨_, rfl, h _ _ (keeps_trans k1 (keeps_trans k2 keeps_tok))⟩) ?_)
  omega
end
end
section
open PySem PySem.Calls PySem.W PyProof.Rows PySem.Spec PySem.Builtin
section
variable {prog : Program} {w : World} {A : Around} {E : Value → Shared → Prop} {s : Shared} {mg mb : Str → Option Value} {n : Nat} {Q : Value → Shared → Prop}
theorem gm_translate {M : Model} {x : Str} {t : Tok} {pl : Sem Bool} {Q : Value × List Value → Shared → Prop} (h : Q (.builtin "str.translate", [.str x t]) s) : wpAny M A (getMethod (.str x t) "translate" pl) Q E s := by
  with_reducible exact GM.of (.str x t) (typeIs_str _ _ _) F.slot_str_translate F.type_str_translate GM.noRef h
/-- what escape makes of one sign that the law writes -/
def esc (c : Nat) : Str := if c = 43 then PySem.Str.ofString "\\+" else ⟨#[c]⟩
theorem escape_call {c : Nat} {t : Tok} (hc : c = 43 ∨ c = 84 ∨ c = 81 ∨ c = 82) (G : Gl (KK w) mg mb s.heap) (R : Rm A (n + 1))
    (h : ∀ t' s', Keeps s s' → Q (.str (esc c) t') s') : wpAny (model prog w) A (call (.ref 55) [.str ⟨#[c]⟩ t]) Q E s := by
  refine enter (args := ⟨[.str ⟨#[c]⟩ t], []⟩) (f := 55) (binds := [("pattern", .str ⟨#[c]⟩ t)]) G R (fnEscape w).2 rfl rfl (by kernel_rfl) (BindsTo.of_eq rfl) rfl (locs rfl) rfl (fun s1 E' F1 _ => ?_)
  have R1 := R.deeper (callEnv (fnEscape w).1 s.heap.objs.size 55)
  have FS1 := icc_fs F1
  have G1 := G.ext (icc_ext F1)
  refine wpAny_execs_cons (wpAny_If ?_)
  refine isTrue_plain ?_
  refine ev_bi G1 (by kernel_rfl) boot_isinstance ?_
  repeat walk_at "my ev"
  refine nmB (v := .type "str") G1 (by kernel_rfl) boot_str (by decide) ?_
  repeat walk_at "my ev"
  refine call_isinstance_yes (typeIs_str _ _ _) (by first | rfl | kernel_rfl) (by rw [isSubtype_type]; kernel_rfl) ?_
  repeat walk_at "my ev"
  refine wpAny_execs_cons (wpAny_Return_some (MethodCall_ (pl := _) ?_))
  walk_at "my ev"
  refine gm_translate ?_
  refine callWith_method1 (args_cons ?_)
  refine nmG (v := .ref 45) G1 (by kernel_rfl) ?_
  refine args_nil ?_
  show wpAny _ _ (call (.builtin "str.translate") [.str ⟨#[c]⟩ t, .ref 45]) _ _ _
  have e2 : c ≠ 43 → esc c = ⟨#[c]⟩ := fun z => if_neg z
  rcases hc with rfl | rfl | rfl | rfl
  · refine tr_text G1.K R1.hh (by decide) (map_plus w) (by decide) (by decide) fun t' s' k' => ?_
    have hq := h t' s' (keeps_trans (icc_keeps F1) k')
    rw [show esc 43 = PySem.Str.ofString "\\+" from if_pos rfl] at hq
    exact hq
  · refine tr_keep G1.K R1.hh (by decide) (map_T w) fun t' s' k' => ?_
    have hq := h t' s' (keeps_trans (icc_keeps F1) k')
    rw [e2 (by decide)] at hq
    exact hq
  · refine tr_keep G1.K R1.hh (by decide) (map_Q w) fun t' s' k' => ?_
    have hq := h t' s' (keeps_trans (icc_keeps F1) k')
    rw [e2 (by decide)] at hq
    exact hq
  · refine tr_keep G1.K R1.hh (by decide) (map_R w) fun t' s' k' => ?_
    have hq := h t' s' (keeps_trans (icc_keeps F1) k')
    rw [e2 (by decide)] at hq
    exact hq
end
end
section
section
variable {prog : Program} {w : World} {A : Around} {R : Result → Shared → Prop}
theorem while_inv {test : PySem.Expr} {body orelse : List Stmt} {env : Env} (n : Nat) (Inv : Nat → Shared → Prop)
    (step : ∀ i s E', i < n → Inv i s → wpAny (model prog w) A (isTrue test env (eval test env)) (fun b s₁ => b = true ∧ wpAny (model prog w) A (execs body env) (fun f s₃ => (f = .next ∨ f = .cont) ∧ Inv (i + 1) s₃) E' s₁) E' s)
    (fin : ∀ s E', Inv n s → wpAny (model prog w) A (isTrue test env (eval test env)) (fun b s₁ => b = false ∧ wpAny (model prog w) A (execs orelse env) (fun f s₃ => R (.ok f) s₃) E' s₁) E' s)
    {s : Shared} (h0 : Inv 0 s) : codeAny (model prog w) A (.whileLoop test body orelse env) R s := by
  have go : ∀ r i s, n - i = r → i ≤ n → Inv i s → codeAny (model prog w) A (.whileLoop test body orelse env) R s := by
    intro r
    induction r with
    | zero =>
      intro i s hr hi hI
      have hin : i = n := by omega
      subst hin
      refine while_step (fun E' => wpAny_mono (fin s E' hI) (fun b s₁ h₁ => ?_) fun _ _ e => e)
      obtain ⟨rfl, h₁⟩ := h₁
      exact ite_ff' h₁
    | succ r ih =>
      intro i s hr hi hI
      refine while_step (fun E' => wpAny_mono (step i s E' (by omega) hI) (fun b s₁ h₁ => ?_) fun _ _ e => e)
      obtain ⟨rfl, h₁⟩ := h₁
      refine ite_tt' (wpAny_mono h₁ (fun f s₃ h₃ => ?_) fun _ _ e => e)
      obtain ⟨rfl | rfl, h₃⟩ := h₃
      · exact ih (i + 1) s₃ (by omega) (by omega) h₃
      · exact ih (i + 1) s₃ (by omega) (by omega) h₃
  exact go _ 0 s rfl (Nat.zero_le _) h0
end

def fO : Option Str → PyData | none => .none | some x => .str x
def anyS : Str := PySem.Str.ofString "any"
def trStep (acc : List (Option Str)) (c : Nat) : List (Option Str) :=
  if c = 42 then (if acc = [] ∨ acc.getLast? ≠ some none then acc ++ [none] else acc) else if c = 63 then acc ++ [some anyS] else acc ++ [some (esc c)]
def transl (cs : List Nat) : List (Option Str) := cs.foldl trStep []
def signs6 : List Nat := [42, 63, 43, 84, 81, 82]

section
variable {M : Model} {A : Around} {E : Value → Shared → Prop} {s : Shared} {Q : Value → Shared → Prop}
theorem newTupP_ev {vs : List Value} (h : ∀ a s', Keeps s s' → s.heap.get? a = none → IsTup s'.heap a vs.toArray → Q (.ref a) s') (hsz : vs.length ≤ sizeLine := by size_fits) : wpAny M A (newTuple vs) Q E s := by
  refine wpAny_newObj_type (h _ _ ⟨_, s.toks, rfl, Ext.push _ _⟩ (fresh_none (Nat.le_refl _)) ⟨_, Heap.get?_push_size _ rfl, rfl, _, rfl⟩) ?_
  show vs.toArray.size ≤ sizeLine
  rw [List.size_toArray]; exact hsz
end
theorem unpackItems_n {prog : Program} {w : World} {A : Around} {E : Value → Shared → Prop} {s : Shared} {t : Addr} {items : Array Value} {n : Nat} {Q : List Value → Shared → Prop} (hh : A.handled = none) (ht : IsTup s.heap t items) (hn : n = items.size)
    (hQ : ∀ h', Heap.ExtBut s.heap.objs.size s.heap h' → Q items.toList { s with heap := h' }) : wpAny (model prog w) A (unpackItems (.ref t) n none) Q E s := by
  subst hn
  exact unpackItems_tuple hh ht hQ
theorem Rds.atoms {h h' : Heap} {P : Addr → Prop} {vs : List Value} {ds : List PyData} (x : Rds (fun _ => False) h vs ds) : Rds P h' vs ds := x.imp (fun _ p => p.elim) fun _ _ _ _ p => p.elim

section
variable {prog : Program} {w : World} {A : Around} {E : Value → Shared → Prop} {s : Shared} {mg mb : Str → Option Value} {n : Nat} {Q : Value → Shared → Prop}
theorem eqs_t {x y : Str} {t u : Tok} (h : (x == y) = true) (q : Q (.bool true) s) : wpAny (model prog w) A (compareOp .Eq (.str x t) (.str y u)) Q E s := PyProof.Rows.eq_str (by rw [h]; exact q)
theorem eqs_f {x y : Str} {t u : Tok} (h : (x == y) = false) (q : Q (.bool false) s) : wpAny (model prog w) A (compareOp .Eq (.str x t) (.str y u)) Q E s := PyProof.Rows.eq_str (by rw [h]; exact q)
theorem lt_t {a b : Int} {t u : Tok} (h : a < b) (q : Q (.bool true) s) : wpAny (model prog w) A (compareOp .Lt (.int a t) (.int b u)) Q E s := PyProof.Rows.lt_int (by rw [decide_eq_true h]; exact q)
theorem lt_f {a b : Int} {t u : Tok} (h : b ≤ a) (q : Q (.bool false) s) : wpAny (model prog w) A (compareOp .Lt (.int a t) (.int b u)) Q E s := PyProof.Rows.lt_int (by rw [decide_eq_false (by omega)]; exact q)

theorem bnd_sk {h h' : Heap} {U D : Addr} (x : h.get? U = some (bndO D)) (k : SK h h') : h'.get? U = some (bndO D) := k _ _ x (fun _ _ q => by cases q) (fun _ q => by cases q)

theorem add_stmt {s : Shared} {env : Env} {x : Str} {px pc ps : Pos} {e : PySem.Expr} {m cm : Str → Option Value} {U D : Addr} {vs : List Value} {Q : Flow → Shared → Prop} (F : FS env m cm s.heap) (hx : m x = some (.ref U))
    (h : wpAny (model prog w) A (eval e env) (fun v s₁ => s₁.heap.get? U = some (bndO D) ∧ PlainL s₁.heap D vs.toArray ∧ vs.length ≤ sizeLine ∧ ∀ h', PlainL h' D (vs ++ [v]).toArray → Heap.SameBut D s₁.heap h' → Q .next { s₁ with heap := h' }) E s)
    (hk : env.scope.kind = .function := by rfl) (hkx : env.kindOf x = some .local := by rfl) (hdb : (x == ("__debug__" : Str)) = false := by decide)
    (hi : interactive env = false := by rfl) (he : starEach [e] env = (false, eval e env) :: starEach [] env := by rfl)
    (hc : eval (.Call (.Name x px) [e] [] pc) env = (do callWith pc (← eval (.Name x px) env) [] (backTo pc (starEach [e] env)) (backToKw pc (keywordEach [] env))) := by rfl) :
    wpAny (model prog w) A (exec (.Expr (.Call (.Name x px) [e] [] pc) ps) env) Q E s := by
  refine wpAny_Expr ?_ hi rfl
  refine Call_ (nmL F hx ?_ hk hkx hdb) hc
  refine callWith_bnd (D := D) (args_cons (wpAny_mono h (fun v s₁ q => ?_) fun _ _ y => y) he) he rfl
  obtain ⟨q1, q2, q3, q4⟩ := q
  refine args_nil ⟨q1, ?_⟩
  exact call_bnd q1 q2 (fun h' hl hs => q4 h' (by simpa using hl) hs) (by rw [List.size_toArray]; exact q3)
theorem sub_last {value slice : PySem.Expr} {l : Addr} {vs : List Value} {u : Tok} {v : Value} (hl : s.heap.IsList l vs.toArray) (hx : vs.getLast? = some v) (h : Q v s) 
    (hs : subscripted slice false (.ref l) (.int (-1) u) = operate [.ref l, .int (-1) u] (getItem (.ref l) (.int (-1) u)) := by with_unfolding_all rfl) :
    wpAny (model prog w) A (subscriptTail value slice (.ref l) (.int (-1) u)) Q E s := by
  have hne : vs ≠ [] := fun z => by rw [z] at hx; cases hx
  have hlen : 0 < vs.length := List.length_pos_iff.mpr hne
  refine tail_any hl.typeIs slot_list_getitem.lookup (wpAny_getItem_list_neg hl (by decide) (by rw [List.size_toArray]; omega) (by decide) ?_ h) hs
  rw [List.size_toArray, List.getElem?_toArray]
  rw [List.getLast?_eq_getElem?] at hx
  rw [show ((-1 : Int) + (vs.length : Int)).toNat = vs.length - 1 by omega]
  exact hx

structure TrInv (w : World) (s₀ : Shared) (S : Nat) (cs : List Nat) (pt qt nt : Tok) (D U : Addr) (i : Nat) (s : Shared) (m : Str → Option Value) (ws : List Value) (it : Tok) : Prop where
  F : InCallC s₀ (callEnv (fnTranslate w).1 S 62).locals m (callEnv (fnTranslate w).1 S 62).cells (fun _ => none) s
  pat : m "pat" = some (.str ⟨cs.toArray⟩ pt)
  star : m "STAR" = some .none
  qm : m "QUESTION_MARK" = some (.str anyS qt)
  res : m "res" = some (.ref D)
  add : m "add" = some (.ref U)
  n : m "n" = some (.int cs.length nt)
  ii : m "i" = some (.int i it)
  bnd : s.heap.get? U = some (bndO D)
  l : PlainL s.heap D ws.toArray
  r : Rds (fun _ => False) s.heap ws ((transl (cs.take i)).map fO)
  wl : ws.length ≤ i

set_option maxHeartbeats 1000000 in
theorem translate_call {cs : List Nat} {pt qt : Tok} (hcs : ∀ c ∈ cs, c ∈ signs6) (hz : cs.length ≤ 100) (G : Gl (KK w) mg mb s.heap) (R : Rm A (n + 2))
    (h : ∀ v s', Keeps s s' → Rd (fun a => s.heap.get? a = none) s'.heap v (.list ((transl cs).map fO)) → Q v s') : wpAny (model prog w) A (call (.ref 62) [.str ⟨cs.toArray⟩ pt, .none, .str anyS qt]) Q E s := by
  refine enter (args := ⟨[.str ⟨cs.toArray⟩ pt, .none, .str anyS qt], []⟩) (f := 62) (binds := [("pat", .str ⟨cs.toArray⟩ pt), ("STAR", .none), ("QUESTION_MARK", .str anyS qt)]) G R (fnTranslate w).2 rfl rfl (by kernel_rfl) (BindsTo.of_eq rfl) rfl (locs rfl) rfl (fun s1 E' F1 _ => ?_)
  have R1 := R.deeper (callEnv (fnTranslate w).1 s.heap.objs.size 62)
  refine wpAny_execs_cons (wpAny_Assign_Name ?_)
  walk_at "my ev"
  refine wpAny_pure ?_
  refine newListP_ev fun D s2 k2 fD2 hl2 => ?_
  have fD : s.heap.get? D = none := none_back (icc_ext F1) fD2
  refine stL (icc_up F1 k2) fun s3 F3 sk3 => ?_
  have hl3 := plainL_sk hl2 sk3
  have FS3 := icc_fs F3
  refine wpAny_execs_cons (wpAny_Assign_Name (Attribute_name ?_))
  walk_at "my ev"
  have hl3' := hl3
  obtain ⟨o, nn, eo, co, od, ov⟩ := hl3'
  refine bnd_attr eo co od ov ?_
  obtain ⟨U, hU⟩ : ∃ U, s3.heap.objs.size = U := ⟨_, rfl⟩
  have hb4 : (s3.heap.push (bndO D)).get? U = some (bndO D) := hU ▸ Heap.get?_push_size _ rfl
  rw [hU]
  refine stL (icc_up F3 ⟨_, _, rfl, Ext.push _ _⟩) fun s4 F4 sk4 => ?_
  have hl4 := plainL_sk (hl3.keeps (Ext.push _ _)) sk4
  have hb4 := bnd_sk hb4 sk4
  have FS4 := icc_fs F4
  have G4 := G.ext (icc_ext F4)
  refine wpAny_execs_cons ?_
  refine Assign_Tuple_swapped ?_
  refine Tuple_ ?_
  repeat walk_at "my ev"
  refine ev_bi G4 (by kernel_rfl) boot_len ?_
  repeat walk_at "my ev"
  have hsz : (⟨cs.toArray⟩ : Str).length = cs.length := List.size_toArray
  refine PyProof.Rows.len_str (by rw [hsz]; omega) ?_
  rw [hsz]
  repeat walk_at "my ev"
  refine newTupP_ev fun T s5 k5 fT5 hT5 => ?_
  refine unpackItems_n R1.hh hT5 (by rfl) fun h6 he6 => ?_
  dsimp only
  have k6 : Ext s5.heap h6 := fun b o e => he6 b o (Nat.ne_of_lt (Heap.lt_size e)) e
  have hb6 := k6 _ _ (keeps_ext k5 _ _ hb4)
  have hl6 := (hl4.keeps (keeps_ext k5)).keeps k6
  refine assignInOrder_cons (bindName_ (stL (icc_up (icc_up (icc_up F4 keeps_tok) k5) (keeps_mk k6)) fun s7 F7 sk7 => ?_))
  have hb7 := bnd_sk hb6 sk7
  have hl7 := plainL_sk hl6 sk7
  refine assignInOrder_cons (bindName_ (stL F7 fun s8 F8 sk8 => ?_))
  have hb8 := bnd_sk hb7 sk8
  have hl8 := plainL_sk hl7 sk8
  refine assignInOrder_nil ?_
  refine wpAny_execs_cons (wpAny_While ?_)
  refine while_inv cs.length (fun i s' => ∃ m ws it, TrInv w s s.heap.objs.size cs pt qt (s4.toks + 1 + 1) D U i s' m ws it) ?_ ?_ ⟨_, [], _, F8, rfl, rfl, rfl, rfl, rfl, rfl, rfl, hb8, hl8, .nil, Nat.le_refl _⟩
  · rintro i s9 E9 hi ⟨m, ws, it, I⟩
    have FS9 := icc_fs I.F
    refine wpAny_isTrue_Compare1 ?_
    refine nmL FS9 I.ii ?_
    refine nmL FS9 I.n ?_
    refine lt_t (by omega) ?_
    refine wpAny_truthy_bool ⟨rfl, ?_⟩
    refine wpAny_execs_cons (wpAny_Assign_Name (Subscript_ ?_))
    refine nmL FS9 I.pat ?_
    refine nmL FS9 I.ii ?_
    refine sub_sign (c := cs[i]) (by omega) (by simp [hi]) ?_ (by omega)
    refine stL (icc_up I.F keeps_tok) fun s10 F10 sk10 => ?_
    have FS10 := icc_fs F10
    have hb10 := bnd_sk I.bnd sk10
    have hl10 := plainL_sk I.l sk10
    refine wpAny_execs_cons (wpAny_Assign_Name (wpAny_BinOp ?_))
    refine nmL FS10 ((if_neg (by decide)).trans I.ii) ?_
    refine wpAny_Constant_int ?_
    refine PyProof.Rows.add_int ?_
    refine stL (v := .int ((i + 1 : Nat) : Int) _) (icc_up F10 keeps_tok) fun s11 F11' sk11 => ?_
    obtain ⟨m11, F11, hE, ⟨ti, hI⟩, ⟨tc, hC⟩⟩ : ∃ m', InCallC s (callEnv (fnTranslate w).1 s.heap.objs.size 62).locals m' (callEnv (fnTranslate w).1 s.heap.objs.size 62).cells (fun _ => none) s11 ∧
        (∀ y : Str, y ≠ PySem.Str.ofString "i" → y ≠ PySem.Str.ofString "c" → m' y = m y) ∧ (∃ t, m' "i" = some (.int ((i + 1 : Nat) : Int) t)) ∧ (∃ t, m' "c" = some (.str ⟨#[cs[i]]⟩ t)) :=
      ⟨_, F11', fun y h1 h2 => (if_neg h1).trans (if_neg h2), ⟨_, if_pos rfl⟩, ⟨_, (if_neg (by decide)).trans (if_pos rfl)⟩⟩
    clear F11'
    have FS11 := icc_fs F11
    have hb11 := bnd_sk hb10 sk11
    have hl11 := plainL_sk hl10 sk11
    have hr := I.r
    have hwl := I.wl
    have hrl := hr.length
    have ein : transl (cs.take (i + 1)) = trStep (transl (cs.take i)) cs[i] := by
      unfold transl
      rw [List.take_add_one, List.getElem?_eq_getElem hi]
      exact List.foldl_append
    have fin : ∀ s' ws', InCallC s (callEnv (fnTranslate w).1 s.heap.objs.size 62).locals m11 (callEnv (fnTranslate w).1 s.heap.objs.size 62).cells (fun _ => none) s' → s'.heap.get? U = some (bndO D) → PlainL s'.heap D (List.toArray ws') →
        Rds (fun _ => False) s'.heap ws' ((trStep (transl (cs.take i)) cs[i]).map fO) → ws'.length ≤ i + 1 → ∃ m ws it, TrInv w s s.heap.objs.size cs pt qt (s4.toks + 1 + 1) D U (i + 1) s' m ws it :=
      fun s' ws' F' b' l' r' w' => ⟨_, ws', _, F', (hE _ (by decide) (by decide)).trans I.pat, (hE _ (by decide) (by decide)).trans I.star, (hE _ (by decide) (by decide)).trans I.qm,
        (hE _ (by decide) (by decide)).trans I.res, (hE _ (by decide) (by decide)).trans I.add, (hE _ (by decide) (by decide)).trans I.n, hI, b', l', by rw [ein]; exact r', w'⟩
    have hsl := sizeLine_eq
    have hUD : U ≠ D := by
      rintro rfl
      obtain ⟨o', n', e', _, _, d'⟩ := hl11
      rw [hb11] at e'
      cases e'
      cases d'
    have hc6 : cs[i] = 42 ∨ cs[i] = 63 ∨ (cs[i] = 43 ∨ cs[i] = 84 ∨ cs[i] = 81 ∨ cs[i] = 82) := by
      have := hcs _ (List.getElem_mem hi)
      simpa [signs6] using this
    generalize cs[i] = c at *
    refine wpAny_execs_cons (wpAny_If (wpAny_isTrue_Compare1 ?_))
    refine nmL FS11 hC ?_
    refine Constant_str ?_
    rcases hc6 with rfl | rfl | hc6
    · refine eqs_t (by decide +kernel) ?_
      refine wpAny_truthy_bool (ite_tt' ?_)
      refine wpAny_execs_cons (wpAny_If (wpAny_isTrue_BoolOp (wpAny_allTrue_Or_cons (wpAny_isTrue_Not (isTrue_plain ?_)))))
      refine nmL FS11 ((hE _ (by decide) (by decide)).trans I.res) ?_
      refine wpAny_truthy_list (plainL_list hl11) (by rw [List.size_toArray]; omega) ?_
      have goAdd : ∀ s' : Shared, Keeps s11 s' → (transl (cs.take i) = [] ∨ (transl (cs.take i)).getLast? ≠ some none) → ∀ E'' pos1 pos2 pos3 pos4, wpAny (model prog w) (A.deeper (callEnv (fnTranslate w).1 s.heap.objs.size 62)) (exec (.Expr (.Call (.Name "add" pos1) [.Name "STAR" pos2] [] pos3) pos4) (callEnv (fnTranslate w).1 s.heap.objs.size 62))
          (fun f s₃ => f = .next ∧ ∃ m ws it, TrInv w s s.heap.objs.size cs pt qt (s4.toks + 1 + 1) D U (i + 1) s₃ m ws it) E'' s' := by
        intro s' ks hor E'' p1 p2 p3 p4
        refine add_stmt (D := D) (vs := ws) (FS11.ext (keeps_ext ks)) ((hE _ (by decide) (by decide)).trans I.add) ?_
        refine nmL (FS11.ext (keeps_ext ks)) ((hE _ (by decide) (by decide)).trans I.star) ?_
        refine ⟨keeps_ext ks _ _ hb11, hl11.keeps (keeps_ext ks), by omega, fun h' hl' hs' => ⟨rfl, ?_⟩⟩
        refine fin _ _ (icc_app (tk := s'.toks) (icc_up F11 ks) (hl11.keeps (keeps_ext ks)) fD hs') ?_ hl' ?_ (by rw [List.length_append, List.length_singleton]; omega)
        · refine hs'.extBut _ _ ?_ (keeps_ext ks _ _ hb11)
          rintro rfl
          obtain ⟨o', n', e', _, _, d'⟩ := hl11
          rw [hb11] at e'
          cases e'
          cases d'
        · unfold trStep
          rw [if_pos rfl, if_pos hor, List.map_append]
          exact (Rds.atoms hr).append (.cons .none .nil)
      by_cases hw0 : ws = []
      · subst hw0
        have ht0 : transl (cs.take i) = [] := List.eq_nil_of_length_eq_zero (by simpa using hrl.symm)
        rw [if_pos (by rfl)]
        refine ite_tt' ?_
        refine wpAny_execs_cons (wpAny_mono (goAdd _ ⟨_, _, rfl, Ext.refl _⟩ (.inl ht0) _ _ _ _ _) (fun f s' hq => ?_) fun _ _ e => e)
        obtain ⟨rfl, hq⟩ := hq
        exact wpAny_execs_nil (wpAny_execs_nil (wpAny_execs_nil ⟨.inl rfl, hq⟩))
      · have hwe : ws.toArray.isEmpty = false := by cases ws with | nil => exact absurd rfl hw0 | cons a b => rfl
        rw [hwe, if_neg (by decide)]
        obtain ⟨v, hv⟩ : ∃ v, ws.getLast? = some v := ⟨_, List.getLast?_eq_some_getLast hw0⟩
        have hvi : ws[ws.length - 1]? = some v := by rw [← List.getLast?_eq_getElem?]; exact hv
        obtain ⟨d, hd, rd⟩ := hr.get hvi
        rw [List.getElem?_map] at hd
        obtain ⟨q, hq, hqd⟩ := Option.map_eq_some_iff.mp hd
        have hrl' : ws.length = (transl (cs.take i)).length := by simpa using hrl
        have hq' : (transl (cs.take i)).getLast? = some q := by rw [List.getLast?_eq_getElem?, ← hrl']; exact hq
        refine wpAny_allTrue_Or_cons (wpAny_isTrue_Compare1 (Subscript_ ?_))
        refine nmL FS11 ((hE _ (by decide) (by decide)).trans I.res) ?_
        refine wpAny_UnaryOp ?_
        refine wpAny_Constant_int ?_
        refine PyProof.Rows.neg_int ?_
        refine sub_last (plainL_list hl11) hv ?_
        refine nmL FS11 ((hE _ (by decide) (by decide)).trans I.star) ?_
        subst hqd
        cases q with
        | none =>
          obtain rfl := rd.none_inv
          refine wpAny_isNot_self rfl ?_
          refine wpAny_truthy_bool (ite_ff' (wpAny_allTrue_Or_nil (ite_ff' ?_)))
          refine wpAny_execs_nil (wpAny_execs_nil (wpAny_execs_nil ⟨.inl rfl, fin _ ws (icc_up F11 keeps_tok) hb11 hl11 ?_ (by omega)⟩))
          unfold trStep
          rw [if_pos rfl, if_neg (by rw [hq']; rintro (z | z); · rw [z] at hq'; cases hq'
                                     · exact z rfl)]
          exact Rds.atoms hr
        | some y =>
          obtain ⟨ty, rfl⟩ := Rd.str_inv rd
          refine wpAny_isNot_other rfl (fun z => by cases z) ?_
          refine wpAny_truthy_bool (ite_tt' (ite_tt' ?_))
          refine wpAny_execs_cons (wpAny_mono (goAdd _ ⟨_, _, rfl, Ext.refl _⟩ (.inr (by rw [hq']; intro z; cases z)) _ _ _ _ _) (fun f s' hq => ?_) fun _ _ e => e)
          obtain ⟨rfl, hq⟩ := hq
          exact wpAny_execs_nil (wpAny_execs_nil (wpAny_execs_nil ⟨.inl rfl, hq⟩))
    · refine eqs_f (by decide +kernel) ?_
      refine wpAny_truthy_bool (ite_ff' ?_)
      refine wpAny_execs_cons (wpAny_If (wpAny_isTrue_Compare1 ?_))
      refine nmL FS11 hC ?_
      refine Constant_str ?_
      refine eqs_t (by decide +kernel) ?_
      refine wpAny_truthy_bool (ite_tt' ?_)
      refine wpAny_execs_cons (add_stmt (D := D) (vs := ws) FS11 ((hE _ (by decide) (by decide)).trans I.add) ?_)
      refine nmL FS11 ((hE _ (by decide) (by decide)).trans I.qm) ?_
      refine ⟨hb11, hl11, by omega, fun h' hl' hs' => ?_⟩
      refine wpAny_execs_nil (wpAny_execs_nil (wpAny_execs_nil ⟨.inl rfl, fin _ _ (icc_app (icc_up F11 keeps_tok) hl11 fD hs') (hs'.extBut _ _ hUD hb11) hl' ?_ (by rw [List.length_append, List.length_singleton]; omega)⟩))
      unfold trStep
      rw [if_neg (by decide), if_pos rfl, List.map_append]
      exact (Rds.atoms hr).append (.cons (.str _ _) .nil)
    · refine eqs_f (by rcases hc6 with rfl | rfl | rfl | rfl <;> decide +kernel) ?_
      refine wpAny_truthy_bool (ite_ff' ?_)
      refine wpAny_execs_cons (wpAny_If (wpAny_isTrue_Compare1 ?_))
      refine nmL FS11 hC ?_
      refine Constant_str ?_
      refine eqs_f (by rcases hc6 with rfl | rfl | rfl | rfl <;> decide +kernel) ?_
      refine wpAny_truthy_bool (ite_ff' ?_)
      refine wpAny_execs_cons (wpAny_If (wpAny_isTrue_Compare1 ?_))
      refine nmL FS11 hC ?_
      refine Constant_str ?_
      refine eqs_f (by rcases hc6 with rfl | rfl | rfl | rfl <;> decide +kernel) ?_
      refine wpAny_truthy_bool (ite_ff' ?_)
      refine wpAny_execs_cons (add_stmt (D := D) (vs := ws) FS11 ((hE _ (by decide) (by decide)).trans I.add) ?_)
      have G11 := G.ext (icc_ext F11)
      refine ev_own G11 (fnEscape w).2 rfl (by kernel_rfl) ?_
      refine args_cons (nmL FS11 hC ?_)
      refine args_nil ⟨G11, ?_⟩
      refine escape_call hc6 G11 R1 fun t' s12 k12 => ?_
      refine ⟨keeps_ext k12 _ _ hb11, hl11.keeps (keeps_ext k12), by omega, fun h' hl' hs' => ?_⟩
      refine wpAny_execs_nil (wpAny_execs_nil (wpAny_execs_nil (wpAny_execs_nil ⟨.inl rfl, fin _ _ (icc_app (tk := s12.toks) (icc_up F11 k12) (hl11.keeps (keeps_ext k12)) fD hs') (hs'.extBut _ _ hUD (keeps_ext k12 _ _ hb11)) hl' ?_ (by rw [List.length_append, List.length_singleton]; omega)⟩)))
      unfold trStep
      rw [if_neg (by rcases hc6 with rfl | rfl | rfl | rfl <;> decide), if_neg (by rcases hc6 with rfl | rfl | rfl | rfl <;> decide), List.map_append]
      exact (Rds.atoms hr).append (.cons (.str _ _) .nil)
  · rintro s9 E9 ⟨m, ws, it, I⟩
    have FS9 := icc_fs I.F
    refine wpAny_isTrue_Compare1 ?_
    refine nmL FS9 I.ii ?_
    refine nmL FS9 I.n ?_
    refine lt_f (Int.le_refl _) ?_
    refine wpAny_truthy_bool ⟨rfl, ?_⟩
    refine wpAny_execs_nil ?_
    refine wpAny_execs_cons (wpAny_Assert_holds ?_)
    refine wpAny_isTrue_Compare1 ?_
    refine nmL FS9 I.ii ?_
    refine nmL FS9 I.n ?_
    refine eq_t rfl ?_
    refine wpAny_truthy_bool ⟨rfl, ?_⟩
    refine wpAny_execs_cons (wpAny_Return_some ?_)
    refine nmL FS9 I.res ?_
    have hr := I.r
    rw [List.take_of_length_le (Nat.le_refl _)] at hr
    exact h _ _ (icc_keeps I.F) (Rd.of_list fD I.l hr.atoms)
end
end
section
def b64bytes : List UInt8 := alphabet.cps.toList.map Nat.toUInt8
theorem glob_b64 (w : World) : ∃ t, nsIn (KK w) mainGlobals "_B64" = some (some (.bytes b64bytes.toArray t)) := ⟨521, by kernel_rfl⟩
theorem b64_all : ((List.range 64).all fun i => decide ((b64bytes.getD i 0).toNat = alph i) && decide (alph i < 128)) = true := by decide +kernel
theorem b64_at {i : Nat} (h : i < 64) : (b64bytes.getD i 0).toNat = alph i ∧ alph i < 128 := by
  have := List.all_eq_true.mp b64_all i (List.mem_range.mpr h)
  simpa using this
theorem b64_len : b64bytes.length = 64 := by decide +kernel

section
variable {s₀ s : Shared} {m cm : Str → Option Value} {L : Addr} {cs : List (Str × Addr)}
theorem icc_iter {I : Addr} {b : Array UInt8} {t : Tok} {i : Nat} {h' : Heap} {tk : Nat} (x : InCallC s₀ L m cs cm s) (hit : KBw.IsBytesIter s.heap I b t i) (fI : s₀.heap.get? I = none) (hs : Heap.SameBut I s.heap h') :
    InCallC s₀ L m cs cm { s with heap := h', toks := tk } := by
  obtain ⟨o, e, c, hd⟩ := hit
  exact icc_upd x e (fun es n' q => by rw [hd] at q; cases q) (fun v q => by rw [hd] at q; cases q) fI hs
theorem biter_sk {h h' : Heap} {I : Addr} {b : Array UInt8} {t : Tok} {i : Nat} (x : KBw.IsBytesIter h I b t i) (k : SK h h') : KBw.IsBytesIter h' I b t i := by
  obtain ⟨o, e, c, hd⟩ := x
  exact ⟨o, k _ _ e (fun es n' q => by rw [hd] at q; cases q) (fun v q => by rw [hd] at q; cases q), c, hd⟩
theorem biter_ne {h : Heap} {I D : Addr} {b : Array UInt8} {t : Tok} {i : Nat} {vs : Array Value} (x : KBw.IsBytesIter h I b t i) (y : PlainL h D vs) : D ≠ I := fun q => by
  obtain ⟨o, e, c, hd⟩ := x
  obtain ⟨o', n, e', _, _, hd'⟩ := y
  rw [q, e] at e'; cases e'
  rw [hd] at hd'; cases hd'
theorem biter_ext {h h' : Heap} {I D : Addr} {b : Array UInt8} {t : Tok} {i : Nat} (x : KBw.IsBytesIter h I b t i) (hs : Heap.SameBut D h h') (hne : I ≠ D) : KBw.IsBytesIter h' I b t i := by
  obtain ⟨o, e, r⟩ := x
  exact ⟨o, hs.extBut _ _ hne e, r⟩
end

section
variable {prog : Program} {w : World} {A : Around} {E : Value → Shared → Prop} {s : Shared} {mg mb : Str → Option Value} {n : Nat} {Q : Value → Shared → Prop}
theorem ge_t {a b : Int} {t u : Tok} {prog : Program} {w : World} (h : b ≤ a) (q : Q (.bool true) s) : wpAny (model prog w) A (compareOp .GtE (.int a t) (.int b u)) Q E s := PyProof.Rows.ge_int (by rw [decide_eq_true h]; exact q)
theorem ge_f {a b : Int} {t u : Tok} {prog : Program} {w : World} (h : a < b) (q : Q (.bool false) s) : wpAny (model prog w) A (compareOp .GtE (.int a t) (.int b u)) Q E s := PyProof.Rows.ge_int (by rw [decide_eq_false (by omega)]; exact q)

def b64out (x y z : Int) : List Int := [(x / 2 ^ 2) % 64, ((x * 256 + y) / 2 ^ 4) % 64, ((y * 256 + z) / 2 ^ 6) % 64, ((y * 256 + z) / 2 ^ 0) % 64]

set_option maxHeartbeats 4000000 in
theorem b2a_call {x y z : Int} {t : Tok} (hx : 0 ≤ x ∧ x < 256) (hy : 0 ≤ y ∧ y < 256) (hz : 0 ≤ z ∧ z < 256) (G : Gl (KK w) mg mb s.heap) (R : Rm A (n + 2))
    (h : ∀ t' s', Keeps s s' → Q (.bytes (byteArr ((b64out x y z).map fun i => (alph i.toNat : Int))) t') s') : wpAny (model prog w) A (call (.ref 84) [.bytes (byteArr [x, y, z]) t] [("newline", .bool false)]) Q E s := by
  obtain ⟨tB, hB64⟩ := glob_b64 w
  refine enter (args := ⟨[.bytes (byteArr [x, y, z]) t], [("newline", .bool false)]⟩) (f := 84) (binds := [("data", .bytes (byteArr [x, y, z]) t), ("newline", .bool false)]) G R (fnB2a w).2 rfl rfl (by kernel_rfl) (BindsTo.of_eq rfl) rfl (locs rfl) rfl (fun s1 E' F1 _ => ?_)
  have R1 := R.deeper (callEnv (fnB2a w).1 s.heap.objs.size 84)
  have FS1 := icc_fs F1
  have G1 := G.ext (icc_ext F1)
  refine wpAny_execs_cons (wpAny_Assign_Name (ev_own G1 (fnBuffer w).2 rfl (by kernel_rfl) ?_))
  repeat walk_at "my ev"
  refine ⟨G1, buffer_call G1 R1 fun s2 k2 => ?_⟩
  refine stL (icc_up F1 k2) fun s3 F3 sk3 => ?_
  have FS3 := icc_fs F3
  have G3 := G.ext (icc_ext F3)
  refine wpAny_execs_cons (wpAny_Assign_Name (ev_own G3 (fnTruth w).2 rfl (by kernel_rfl) ?_))
  repeat walk_at "my ev"
  refine ⟨G3, truth_call G3 R1 fun s4 k4 => ?_⟩
  refine stL (icc_up F3 k4) fun s5 F5 sk5 => ?_
  refine wpAny_execs_cons (wpAny_Assign_Name ?_)
  repeat walk_at "my ev"
  refine newListP_ev fun D s6 k6 fD6 hl6 => ?_
  have fD : s.heap.get? D = none := none_back (icc_ext F5) fD6
  refine stL (icc_up F5 k6) fun s7 F7 sk7 => ?_
  have hl7 := plainL_sk hl6 sk7
  refine wpAny_execs_cons (wpAny_Assign_Name ?_)
  repeat walk_at "my ev"
  refine stL (icc_up F7 keeps_tok) fun s8 F8 sk8 => ?_
  have hl8 := plainL_sk hl7 sk8
  refine wpAny_execs_cons (wpAny_Assign_Name ?_)
  repeat walk_at "my ev"
  refine stL (icc_up F8 keeps_tok) fun s9 F9 sk9 => ?_
  have hl9 := plainL_sk hl8 sk9
  have FS9 := icc_fs F9
  refine wpAny_execs_cons (wpAny_For ?_)
  repeat walk_at "my ev"
  refine KBw.pyIter_bytes ?_
  obtain ⟨I, hI⟩ : ∃ I, s9.heap.objs.size = I := ⟨_, rfl⟩
  have fI : s.heap.get? I = none := hI ▸ none_back (icc_ext F9) (fresh_none (Nat.le_refl _))
  have kI : Keeps s9 { s9 with heap := s9.heap.push { cls := .type "bytes_iterator", data := .fields #[.bytes (byteArr [x, y, z]) t, .int 0 0] } } := ⟨_, s9.toks, rfl, Ext.push _ _⟩
  have hit9 : KBw.IsBytesIter (s9.heap.push { cls := .type "bytes_iterator", data := .fields #[.bytes (byteArr [x, y, z]) t, .int 0 0] }) I (byteArr [x, y, z]) t 0 := hI ▸ ⟨_, Heap.get?_push_size _ rfl, rfl, rfl⟩
  rw [hI]
  have F10 := icc_up F9 kI
  have hl10 : PlainL (s9.heap.push { cls := .type "bytes_iterator", data := .fields #[.bytes (byteArr [x, y, z]) t, .int 0 0] }) D (List.toArray []) := hl9.keeps (Ext.push _ _)
  have hit10 := hit9
  have hx' : ((x.toNat.toUInt8.toNat : Nat) : Int) = x := byte_back hx.1 hx.2
  have hy' : ((y.toNat.toUInt8.toNat : Nat) : Int) = y := byte_back hy.1 hy.2
  have hz' : ((z.toNat.toUInt8.toNat : Nat) : Int) = z := byte_back hz.1 hz.2

  -- octet 0
  refine for_step fun E10 => ?_
  refine KBw.next_item hit10 (c := x.toNat.toUInt8) (by simp [byteArr]) fun h11 hit11 hs11 => ?_
  have hl11 := hl10.extBut hs11.extBut (biter_ne hit10 hl10)
  rw [hx']
  refine wpAny_assign_Name (stL (icc_iter (icc_up F10 keeps_tok) hit10 fI hs11) fun s12 F12 sk12 => ?_)
  have hl12 := plainL_sk hl11 sk12
  have hit12' := biter_sk hit11 sk12
  have FS12 := icc_fs F12
  refine wpAny_execs_cons (wpAny_Assign_Name ?_)
  repeat walk_at "my ev"
  rw [lc_step (by omega) (by omega) (by omega), show ((0 : Int) * 256 + x) % 65536 = x from by omega]
  refine stL (icc_up F12 keeps_tok) fun s13 F13 sk13 => ?_
  have hl13 := plainL_sk hl12 sk13
  have hit13' := biter_sk hit12' sk13
  have FS13 := icc_fs F13
  refine wpAny_execs_cons (wpAny_Assign_Name ?_)
  repeat walk_at "my ev"
  refine stL (v := .int 8 _) (icc_up F13 keeps_tok) fun s14 F14 sk14 => ?_
  have hl14 := plainL_sk hl13 sk14
  have hit14' := biter_sk hit13' sk14
  have FS14 := icc_fs F14
  refine wpAny_execs_cons (wpAny_While ?_)
  refine while_step fun W14 => ?_
  repeat walk_at "my ev"
  refine ge_t (by decide) ?_
  repeat walk_at "my ev"
  have G14 := G.ext (icc_ext F14)
  refine wpAny_execs_cons (append_stmt FS14 rfl hl14 ?_)
  refine Subscript_ ?_
  refine nmG G14 hB64 ?_
  repeat walk_at "my ev"
  rw [pick_step (k := 2) (8 - 6 : Int) (by decide)]
  have hr14 : 0 ≤ (x / 2 ^ 2) % 64 ∧ (x / 2 ^ 2) % 64 < 64 := ⟨Int.emod_nonneg _ (by decide), Int.emod_lt_of_pos _ (by decide)⟩
  refine KBy.item_N (x := b64bytes) (by rw [b64_len]; decide) hr14.1 (by rw [b64_len]; exact hr14.2) ?_
  dsimp only
  have hb14 : (b64bytes.getD ((x / 2 ^ 2) % 64).toNat 0).toNat = alph ((x / 2 ^ 2) % 64).toNat := (b64_at (by omega)).1
  rw [hb14]
  refine ⟨hl14, by simp only [List.length_append, List.length_nil, List.length_cons]; decide, fun h15 hl15 hs15 => ?_⟩
  have F15 := fun tk => icc_app (tk := tk) F14 hl14 fD hs15
  have hit15' := biter_ext hit14' hs15 (Ne.symm (biter_ne hit14' hl14))
  have FS15 := icc_fs (F15 0)
  refine wpAny_execs_cons (wpAny_Assign_Name ?_)
  repeat walk_at "my ev"
  refine stL (v := .int 2 _) (F15 _) fun s16 F16 sk16 => ?_
  have hl16 := plainL_sk hl15 sk16
  have hit16' := biter_sk hit15' sk16
  have FS16 := icc_fs F16
  refine wpAny_execs_nil ?_
  refine while_step fun W16e => ?_
  repeat walk_at "my ev"
  refine ge_f (by decide) ?_
  repeat walk_at "my ev"
  refine wpAny_execs_nil (wpAny_execs_nil ?_)
  have hit16 := hit16'
  -- octet 1
  refine for_step fun E16 => ?_
  refine KBw.next_item hit16 (c := y.toNat.toUInt8) (by simp [byteArr]) fun h17 hit17 hs17 => ?_
  have hl17 := hl16.extBut hs17.extBut (biter_ne hit16 hl16)
  rw [hy']
  refine wpAny_assign_Name (stL (icc_iter (icc_up F16 keeps_tok) hit16 fI hs17) fun s18 F18 sk18 => ?_)
  have hl18 := plainL_sk hl17 sk18
  have hit18' := biter_sk hit17 sk18
  have FS18 := icc_fs F18
  refine wpAny_execs_cons (wpAny_Assign_Name ?_)
  repeat walk_at "my ev"
  rw [lc_step (by omega) (by omega) (by omega), show (x * 256 + y) % 65536 = x * 256 + y from by omega]
  refine stL (icc_up F18 keeps_tok) fun s19 F19 sk19 => ?_
  have hl19 := plainL_sk hl18 sk19
  have hit19' := biter_sk hit18' sk19
  have FS19 := icc_fs F19
  refine wpAny_execs_cons (wpAny_Assign_Name ?_)
  repeat walk_at "my ev"
  refine stL (v := .int 10 _) (icc_up F19 keeps_tok) fun s20 F20 sk20 => ?_
  have hl20 := plainL_sk hl19 sk20
  have hit20' := biter_sk hit19' sk20
  have FS20 := icc_fs F20
  refine wpAny_execs_cons (wpAny_While ?_)
  refine while_step fun W20 => ?_
  repeat walk_at "my ev"
  refine ge_t (by decide) ?_
  repeat walk_at "my ev"
  have G20 := G.ext (icc_ext F20)
  refine wpAny_execs_cons (append_stmt FS20 rfl hl20 ?_)
  refine Subscript_ ?_
  refine nmG G20 hB64 ?_
  repeat walk_at "my ev"
  rw [pick_step (k := 4) (10 - 6 : Int) (by decide)]
  have hr20 : 0 ≤ ((x * 256 + y) / 2 ^ 4) % 64 ∧ ((x * 256 + y) / 2 ^ 4) % 64 < 64 := ⟨Int.emod_nonneg _ (by decide), Int.emod_lt_of_pos _ (by decide)⟩
  refine KBy.item_N (x := b64bytes) (by rw [b64_len]; decide) hr20.1 (by rw [b64_len]; exact hr20.2) ?_
  dsimp only
  have hb20 : (b64bytes.getD (((x * 256 + y) / 2 ^ 4) % 64).toNat 0).toNat = alph (((x * 256 + y) / 2 ^ 4) % 64).toNat := (b64_at (by omega)).1
  rw [hb20]
  refine ⟨hl20, by simp only [List.length_append, List.length_nil, List.length_cons]; decide, fun h21 hl21 hs21 => ?_⟩
  have F21 := fun tk => icc_app (tk := tk) F20 hl20 fD hs21
  have hit21' := biter_ext hit20' hs21 (Ne.symm (biter_ne hit20' hl20))
  have FS21 := icc_fs (F21 0)
  refine wpAny_execs_cons (wpAny_Assign_Name ?_)
  repeat walk_at "my ev"
  refine stL (v := .int 4 _) (F21 _) fun s22 F22 sk22 => ?_
  have hl22 := plainL_sk hl21 sk22
  have hit22' := biter_sk hit21' sk22
  have FS22 := icc_fs F22
  refine wpAny_execs_nil ?_
  refine while_step fun W22e => ?_
  repeat walk_at "my ev"
  refine ge_f (by decide) ?_
  repeat walk_at "my ev"
  refine wpAny_execs_nil (wpAny_execs_nil ?_)
  have hit22 := hit22'
  -- octet 2
  refine for_step fun E22 => ?_
  refine KBw.next_item hit22 (c := z.toNat.toUInt8) (by simp [byteArr]) fun h23 hit23 hs23 => ?_
  have hl23 := hl22.extBut hs23.extBut (biter_ne hit22 hl22)
  rw [hz']
  refine wpAny_assign_Name (stL (icc_iter (icc_up F22 keeps_tok) hit22 fI hs23) fun s24 F24 sk24 => ?_)
  have hl24 := plainL_sk hl23 sk24
  have hit24' := biter_sk hit23 sk24
  have FS24 := icc_fs F24
  refine wpAny_execs_cons (wpAny_Assign_Name ?_)
  repeat walk_at "my ev"
  rw [lc_step (by omega) (by omega) (by omega), show ((x * 256 + y) * 256 + z) % 65536 = y * 256 + z from by omega]
  refine stL (icc_up F24 keeps_tok) fun s25 F25 sk25 => ?_
  have hl25 := plainL_sk hl24 sk25
  have hit25' := biter_sk hit24' sk25
  have FS25 := icc_fs F25
  refine wpAny_execs_cons (wpAny_Assign_Name ?_)
  repeat walk_at "my ev"
  refine stL (v := .int 12 _) (icc_up F25 keeps_tok) fun s26 F26 sk26 => ?_
  have hl26 := plainL_sk hl25 sk26
  have hit26' := biter_sk hit25' sk26
  have FS26 := icc_fs F26
  refine wpAny_execs_cons (wpAny_While ?_)
  refine while_step fun W26 => ?_
  repeat walk_at "my ev"
  refine ge_t (by decide) ?_
  repeat walk_at "my ev"
  have G26 := G.ext (icc_ext F26)
  refine wpAny_execs_cons (append_stmt FS26 rfl hl26 ?_)
  refine Subscript_ ?_
  refine nmG G26 hB64 ?_
  repeat walk_at "my ev"
  rw [pick_step (k := 6) (12 - 6 : Int) (by decide)]
  have hr26 : 0 ≤ ((y * 256 + z) / 2 ^ 6) % 64 ∧ ((y * 256 + z) / 2 ^ 6) % 64 < 64 := ⟨Int.emod_nonneg _ (by decide), Int.emod_lt_of_pos _ (by decide)⟩
  refine KBy.item_N (x := b64bytes) (by rw [b64_len]; decide) hr26.1 (by rw [b64_len]; exact hr26.2) ?_
  dsimp only
  have hb26 : (b64bytes.getD (((y * 256 + z) / 2 ^ 6) % 64).toNat 0).toNat = alph (((y * 256 + z) / 2 ^ 6) % 64).toNat := (b64_at (by omega)).1
  rw [hb26]
  refine ⟨hl26, by simp only [List.length_append, List.length_nil, List.length_cons]; decide, fun h27 hl27 hs27 => ?_⟩
  have F27 := fun tk => icc_app (tk := tk) F26 hl26 fD hs27
  have hit27' := biter_ext hit26' hs27 (Ne.symm (biter_ne hit26' hl26))
  have FS27 := icc_fs (F27 0)
  refine wpAny_execs_cons (wpAny_Assign_Name ?_)
  repeat walk_at "my ev"
  refine stL (v := .int 6 _) (F27 _) fun s28 F28 sk28 => ?_
  have hl28 := plainL_sk hl27 sk28
  have hit28' := biter_sk hit27' sk28
  have FS28 := icc_fs F28
  refine wpAny_execs_nil ?_
  refine while_step fun W28 => ?_
  repeat walk_at "my ev"
  refine ge_t (by decide) ?_
  repeat walk_at "my ev"
  have G28 := G.ext (icc_ext F28)
  refine wpAny_execs_cons (append_stmt FS28 rfl hl28 ?_)
  refine Subscript_ ?_
  refine nmG G28 hB64 ?_
  repeat walk_at "my ev"
  rw [pick_step (k := 0) (6 - 6 : Int) (by decide)]
  have hr28 : 0 ≤ ((y * 256 + z) / 2 ^ 0) % 64 ∧ ((y * 256 + z) / 2 ^ 0) % 64 < 64 := ⟨Int.emod_nonneg _ (by decide), Int.emod_lt_of_pos _ (by decide)⟩
  refine KBy.item_N (x := b64bytes) (by rw [b64_len]; decide) hr28.1 (by rw [b64_len]; exact hr28.2) ?_
  dsimp only
  have hb28 : (b64bytes.getD (((y * 256 + z) / 2 ^ 0) % 64).toNat 0).toNat = alph (((y * 256 + z) / 2 ^ 0) % 64).toNat := (b64_at (by omega)).1
  rw [hb28]
  refine ⟨hl28, by simp only [List.length_append, List.length_nil, List.length_cons]; decide, fun h29 hl29 hs29 => ?_⟩
  have F29 := fun tk => icc_app (tk := tk) F28 hl28 fD hs29
  have hit29' := biter_ext hit28' hs29 (Ne.symm (biter_ne hit28' hl28))
  have FS29 := icc_fs (F29 0)
  refine wpAny_execs_cons (wpAny_Assign_Name ?_)
  repeat walk_at "my ev"
  refine stL (v := .int 0 _) (F29 _) fun s30 F30 sk30 => ?_
  have hl30 := plainL_sk hl29 sk30
  have hit30' := biter_sk hit29' sk30
  have FS30 := icc_fs F30
  refine wpAny_execs_nil ?_
  refine while_step fun W30e => ?_
  repeat walk_at "my ev"
  refine ge_f (by decide) ?_
  repeat walk_at "my ev"
  refine wpAny_execs_nil (wpAny_execs_nil ?_)
  have hit30 := hit30'
  -- the end of the octets
  refine for_step fun E30 => ?_
  refine KBw.next_end (Rm.deeper R _).hh hit30 (by simp [byteArr]) fun h31 hs31 => ?_
  obtain ⟨oI, eI, cI, dI⟩ := id hit30
  have F31 := fun tk => icc_eb (tk := tk) F30 eI (fun es n' q => by rw [dI] at q; cases q) (fun v q => by rw [dI] at q; cases q) fI hs31
  have hl31 := hl30.extBut hs31 (biter_ne hit30 hl30)
  refine wpAny_execs_nil ?_
  have ea : ∀ i : Int, 0 ≤ i → i < 64 → (alph i.toNat : Int) < 256 := fun i h0 h1 => by have := (b64_at (i := i.toNat) (by omega)).2; omega
  refine b2a_tail (ns := (b64out x y z).map fun i => (alph i.toNat : Int)) G (Rm.deeper R _).hh (F31 _) (by rfl) (by rfl) (by rfl) hl31 ?_ ?_ ?_ h
  · exact .cons _ _ (.cons _ _ (.cons _ _ (.cons _ _ .nil)))
  · intro n hn
    obtain ⟨i, hi, rfl⟩ := List.mem_map.mp hn
    refine ⟨Int.natCast_nonneg _, ea i ?_ ?_⟩
    · simp only [b64out, List.mem_cons, List.not_mem_nil, or_false] at hi
      omega
    · simp only [b64out, List.mem_cons, List.not_mem_nil, or_false] at hi
      omega
  · simp only [List.length_append, List.length_nil, List.length_cons]; decide
end
end
section
section
variable {prog : Program} {w : World} {A : Around} {E : Value → Shared → Prop} {s : Shared} {mg mb : Str → Option Value} {n : Nat} {Q : Value → Shared → Prop}
theorem tup85 (w : World) : ∃ o k, (KK w).lookup 85 = some o ∧ o.data = .seq #[.none] k := ⟨_, _, rfl, rfl⟩
theorem b64_call {x y z : Int} {t : Tok} (hx : 0 ≤ x ∧ x < 256) (hy : 0 ≤ y ∧ y < 256) (hz : 0 ≤ z ∧ z < 256) (G : Gl (KK w) mg mb s.heap) (R : Rm A (n + 3))
    (h : ∀ t' s', Keeps s s' → Q (.bytes (byteArr ((b64out x y z).map fun i => (alph i.toNat : Int))) t') s') : wpAny (model prog w) A (call (.ref 92) [.bytes (byteArr [x, y, z]) t]) Q E s := by
  obtain ⟨o, k, ho, hs⟩ := tup85 w
  refine enter (args := ⟨[.bytes (byteArr [x, y, z]) t], []⟩) (f := 92) (binds := [("s", .bytes (byteArr [x, y, z]) t), ("altchars", .none)]) G R (fnB64 w).2 rfl rfl (by kernel_rfl) (binds_K G.K rfl ho hs rfl rfl) rfl (locs rfl) rfl (fun s1 E' F1 _ => ?_)
  have R1 := R.deeper (callEnv (fnB64 w).1 s.heap.objs.size 92)
  have FS1 := icc_fs F1
  have G1 := G.ext (icc_ext F1)
  refine wpAny_execs_cons (wpAny_Assign_Name (wpAny_Call_Name_kw ?_))
  refine nmG (v := .ref 84) G1 (by kernel_rfl) ?_
  refine callWith_function_kw (fd := (fnB2a w).1) (o := ⟨.type "function", none, .func (fnB2a w).1, #[]⟩) (evalArgs_kw2 rfl ?_)
  repeat walk_at "my ev"
  refine wpAny_evalAll_cons ?_
  refine wpAny_bind (wpAny_Constant_bool (wpAny_bind (wpAny_standAt (wpAny_pure ?_))))
  refine wpAny_evalAll_nil ?_
  refine ⟨⟨G1.K _ _ (fnB2a w).2, rfl⟩, ?_⟩
  refine b2a_call hx hy hz G1 R1 fun t' s2 k2 => ?_
  refine stL (icc_up F1 k2) fun s3 F3 _ => ?_
  have FS3 := icc_fs F3
  refine wpAny_execs_cons (wpAny_If ?_)
  repeat walk_at "my ev"
  refine wpAny_isNot_self rfl ?_
  repeat walk_at "my ev"
  refine wpAny_execs_nil ?_
  refine wpAny_execs_cons (wpAny_Return_some ?_)
  repeat walk_at "my ev"
  exact h _ _ (icc_keeps F3)
end
end
section
def bit (x : Int) (k : Nat) : Bool := (x.fdiv (2 ^ k)).fmod 2 == 1
def starred (x : Int) : Bool := (x.fdiv 16).fmod 3 == 1
def signsOf (x : Int) (tcs : List Nat) : List Nat := (List.range 4).map fun k => if bit x k then tcs.getD k 0 else 63
def patt (x : Int) (tcs : List Nat) : List Nat := if starred x then (signsOf x tcs).take 2 ++ [42, 42] else signsOf x tcs
section
variable {prog : Program} {w : World} {A : Around} {E : Value → Shared → Prop} {s : Shared} {mg mb : Str → Option Value} {n : Nat} {Q : Value → Shared → Prop}
theorem slice_upto_str {value slice : PySem.Expr} {x y : Str} {t uj : Tok} {j : Int} (e : Txt.slice x none (some j) = y) (h : ∀ t' s', Keeps s s' → Q (.str y t') s') (hsz : x.length ≤ sizeLine)
    (hs : subscripted slice false (.str x t) (.ref s.heap.objs.size) = operate [.ref s.heap.objs.size, .str x t] (getItem (.str x t) (.ref s.heap.objs.size)) := by with_unfolding_all rfl)
    (ht : ∀ r, letTemporaryGo value (.str x t) r = pure () := by intro _; with_unfolding_all rfl) :
    wpAny (model prog w) A (subscriptTail value slice (.str x t) (.ref s.heap.objs.size)) Q E { s with heap := s.heap.push { cls := .type "slice", data := .fields #[.none, .int j uj, .none] } } :=
  tail_of_ItemOn (SBH.sliceItem_ns (P := fun h' => Ext s.heap h') (fun _ ob k => k.trans (Ext.push _ ob)) (Ext.refl _) (fun h' t' k ke => e ▸ h t' _ (keeps_mk ke)) hsz) hs ht
theorem slice2 (a b c d : Nat) : Txt.slice ⟨#[a, b, c, d]⟩ none (some 2) = ⟨#[a, b]⟩ := by kernel_rfl

set_option maxHeartbeats 1600000 in
theorem pattern_call {x : Int} {tx tt : Tok} {a b c d : Nat} (G : Gl (KK w) mg mb s.heap) (R : Rm A (n + 1))
    (h : ∀ t' s', Keeps s s' → Q (.str ⟨(patt x [a, b, c, d]).toArray⟩ t') s') : wpAny (model prog w) A (call (.ref 130) [.int x tx, .str ⟨#[a, b, c, d]⟩ tt]) Q E s := by
  refine enterC (f := 130) (binds := [("x", .int x tx), ("text", .str ⟨#[a, b, c, d]⟩ tt)]) G R (fnPattern w).2 rfl rfl (by kernel_rfl) rfl rfl rfl (fun s1 E' F1 => ?_)
  have R1 := R.deeper (callEnvC (fnPattern w).1 s.heap.objs.size 130)
  have FS1 := icc_fs F1
  have G1 := G.ext (icc_ext F1)
  refine wpAny_execs_cons (wpAny_Assign_Name (MethodCall_ (pl := _) ?_))
  walk_at "my ev"
  refine GM.join (callWith_method1 ?_)
  refine args_cons ?_
  refine lc_eval rfl rfl (by decide) ?_
  refine ev_ty (G1.ext (Ext.refl _)) (by kernel_rfl) boot_range ?_
  repeat walk_at "my ev"
  refine call_range_1 ?_
  refine lc_range (s := { s1 with toks := s1.toks + 1 }) (P := fun _ => False) (n := 4) (fun _ => true) (fun i => .str ⟨#[(signsOf x [a, b, c, d]).getD i 0]⟩) R1.hh ⟨_, _, rfl, Ext.push _ _⟩ (IsRange.new _ _ _ _ _ _ _) (by decide)
    (fun a q => q.elim) (by decide) rfl rfl ?_ ?_ ?_
  · intro C i t s4 m E'' hi kx hns hm
    exact wpAny_tests_nil ⟨rfl, keeps_refl _⟩
  · intro C i t s4 m E'' hi _ kx hns hm
    have FS4 := FS1.ext kx
    have hp : (1 : Int) ≤ 2 ^ ((i : Nat) : Int).toNat ∧ (2 : Int) ^ ((i : Nat) : Int).toNat ≤ 8 := by
      have h4 : i = 0 ∨ i = 1 ∨ i = 2 ∨ i = 3 := by omega
      rcases h4 with rfl | rfl | rfl | rfl <;> decide
    have hE : (signsOf x [a, b, c, d]).getD i 0 = if bit x i then [a, b, c, d].getD i 0 else 63 := by
      have h4 : i = 0 ∨ i = 1 ∨ i = 2 ∨ i = 3 := by omega
      rcases h4 with rfl | rfl | rfl | rfl <;> rfl
    have hx : [a, b, c, d].toArray[((i : Nat) : Int).toNat]? = some ([a, b, c, d].getD i 0) := by
      have h4 : i = 0 ∨ i = 1 ∨ i = 2 ∨ i = 3 := by omega
      rcases h4 with rfl | rfl | rfl | rfl <;> rfl
    refine wpAny_IfExp (wpAny_isTrue_Compare1 (wpAny_BinOp (wpAny_BinOp ?_)))
    refine nmC (fs_comp hns FS4 ⟨rfl, rfl, trivial⟩) rfl ?_
    refine wpAny_BinOp (wpAny_Constant_int ?_)
    refine nmL (fs_comp (h := s4.heap) hns FS4 ⟨rfl, rfl, trivial⟩) hm ?_
    refine pow_int_small (by omega) (by omega) (by decide) ?_
    refine floordiv_int (by omega) ?_ (Or.inl (PyProof.noPylong_small (by omega)))
    refine wpAny_Constant_int ?_
    refine PyProof.Rows.mod_int' (by decide) ?_
    refine wpAny_Constant_int ?_
    refine PyProof.Rows.eq_int ?_
    refine wpAny_truthy_bool ?_
    rw [hE]
    cases hb : bit x i with
    | true =>
      have hb' : ((x.fdiv (2 ^ ((i : Nat) : Int).toNat)).fmod 2 == 1) = true := hb
      rw [hb']
      refine ite_tt' (Subscript_ ?_)
      refine nmC (fs_comp (h := s4.heap) hns FS4 ⟨rfl, rfl, trivial⟩) rfl ?_
      refine nmL (fs_comp (h := s4.heap) hns FS4 ⟨rfl, rfl, trivial⟩) hm ?_
      refine sub_sign (c := [a, b, c, d].getD i 0) (by omega) hx ?_ (by omega)
      exact ⟨.str _ _, keeps_tok⟩
    | false =>
      have hb' : ((x.fdiv (2 ^ ((i : Nat) : Int).toNat)).fmod 2 == 1) = false := hb
      rw [hb']
      refine ite_ff' (Constant_str ?_)
      exact ⟨.str _ _, keeps_tok⟩
  · intro s5 s' k' hC hns' hr'
    refine lc_post_none k' hC hns' hr' fun v s'' k'' rv' => ?_
    have el : ((List.range 4).filter (fun _ => true)).map (fun i => PyData.str ⟨#[(signsOf x [a, b, c, d]).getD i 0]⟩) = ((signsOf x [a, b, c, d]).map fun c => (⟨#[c]⟩ : Str)).map .str := rfl
    rw [el] at rv'
    obtain ⟨l', vs', rfl, hl', hr'', _⟩ := rv'.list_inv
    refine args_nil ?_
    refine PyProof.Rows.join_list hl' (rds_strs hr'') ?_ fun t' k => ?_
    · have : (PySem.Str.ofString "").length = 0 := by decide +kernel
      show 4 + 4 * (PySem.Str.ofString "").length ≤ 16777216
      rw [this]; decide
    · have e : Txt.join (PySem.Str.ofString "") ((signsOf x [a, b, c, d]).map fun c => (⟨#[c]⟩ : Str)) = ⟨(signsOf x [a, b, c, d]).toArray⟩ := (StrLaws.glued_eq_join _ _).trans (glue_signs _)
      rw [e]
      refine stL (icc_up F1 (keeps_trans (keeps_trans keeps_tok k'') keeps_tok)) fun s6 F6 sk6 => ?_
      have FS6 := icc_fs F6
      refine wpAny_execs_cons (wpAny_Return_some (wpAny_IfExp (wpAny_isTrue_Compare1 (wpAny_BinOp (wpAny_BinOp ?_)))))
      repeat walk_at "my ev"
      refine PyProof.Rows.eq_int ?_
      refine wpAny_truthy_bool ?_
      have e4 : signsOf x [a, b, c, d] = [if bit x 0 then a else 63, if bit x 1 then b else 63, if bit x 2 then c else 63, if bit x 3 then d else 63] := rfl
      cases hb : starred x with
      | true =>
        have hb' : ((x.fdiv 16).fmod 3 == 1) = true := hb
        rw [hb']
        refine ite_tt' (wpAny_BinOp (Subscript_ ?_))
        refine nmL FS6 rfl ?_
        refine wpAny_Slice ?_
        refine wpAny_evalPart_none ?_
        refine wpAny_evalPart_some (wpAny_Constant_int ?_)
        refine wpAny_evalPart_none ?_
        rw [e4]
        refine slice_upto_str (slice2 _ _ _ _) (fun t7 s7 k7 => ?_) (by have := sizeLine_eq; show 4 ≤ sizeLine; omega)
        refine Constant_str ?_
        refine PyProof.Rows.add_str (fun t8 k8 => ?_) (by have := sizeLine_eq; show 2 + 2 ≤ sizeLine; omega)
        have hq := h t8 { s7 with toks := k8 } (keeps_trans (icc_keeps F6) (keeps_trans keeps_tok (keeps_trans k7 keeps_tok)))
        unfold patt at hq
        rw [hb, e4] at hq
        exact hq
      | false =>
        have hb' : ((x.fdiv 16).fmod 3 == 1) = false := hb
        rw [hb']
        refine ite_ff' ?_
        refine nmL FS6 rfl ?_
        have hq := fun s' k' => h t' s' k'
        unfold patt at hq
        rw [hb] at hq
        exact hq _ (keeps_trans (icc_keeps F6) keeps_tok)
end
end
section
theorem rep_all : ((List.range 128).all fun c => Txt.replace ⟨#[c]⟩ (PySem.Str.ofString "+") (PySem.Str.ofString "\\+") == esc c) = true := by decide +kernel
theorem rep_sign {c : Nat} (h : c < 128) : Txt.replace ⟨#[c]⟩ (PySem.Str.ofString "+") (PySem.Str.ofString "\\+") = esc c := by
  have := List.all_eq_true.mp rep_all c (List.mem_range.mpr h)
  simpa using this
def fits (p : Str) (c : Nat) : Bool := anyS == p || esc c == p
def flatI (ps : List Str) (tcs : List Nat) (i : Nat) : Bool := match ps[i]?, tcs[i]? with | some p, some c => !fits p c | _, _ => false
def flat (ps : List Str) (tcs : List Nat) : Bool := ps.length == tcs.length && ((List.range ps.length).filter (flatI ps tcs)).isEmpty

section
variable {prog : Program} {w : World} {A : Around} {E : Value → Shared → Prop} {s : Shared} {mg mb : Str → Option Value} {n : Nat} {Q : Value → Shared → Prop}
theorem eqv_none_str (ps : List Str) : ((ps.map PyData.str).any fun y => PyData.eqv y .none) = false := by
  induction ps with
  | nil => rfl
  | cons p ps ih => rw [List.map_cons, List.any_cons, ih]; rfl
theorem lay_strs (ps : List Str) (h : ∀ p ∈ ps, (PyData.str p).canLay0 = true) : PyData.canLayAll0 (ps.map PyData.str) = true := by
  induction ps with
  | nil => rfl
  | cons p ps ih =>
    show (PyData.canLay0 (.str p) && PyData.canLayAll0 (ps.map PyData.str)) = true
    rw [ih fun q hq => h q (List.mem_cons_of_mem _ hq), Bool.and_true]
    exact h p List.mem_cons_self
theorem depth_strs (ps : List Str) : PyData.depthAll (ps.map PyData.str) = 0 := by
  induction ps with
  | nil => rfl
  | cons p ps ih =>
    show max 0 (PyData.depthAll (ps.map PyData.str)) = 0
    rw [ih]; rfl
theorem any_lay : (PyData.str anyS).canLay0 = true := by decide +kernel
theorem esc_lay {c : Nat} (h : c < 128) : (PyData.str (esc c)).canLay0 = true := by
  unfold esc
  split
  · decide +kernel
  · show (#[c].all (· < 0x110000)) = true
    simp; omega
theorem eqvAll_nil : ∀ ds : List PyData, PyData.eqvAll ds [] = ds.isEmpty
  | [] => rfl
  | _ :: _ => rfl

set_option maxHeartbeats 1000000 in
theorem flat_call {P : Addr → Prop} {v : Value} {ps : List Str} {tcs : List Nat} {tt : Tok} (G : Gl (KK w) mg mb s.heap) (R : Rm A (n + 1)) (hv : Rd P s.heap v (.list (ps.map .str))) (hps : ∀ p ∈ ps, (PyData.str p).canLay0 = true) (hz : ps.length ≤ 100)
    (hz2 : tcs.length ≤ 100) (h128 : ∀ c ∈ tcs, c < 128)
    (h : ∀ s', Keeps s s' → Q (.bool (flat ps tcs)) s') : wpAny (model prog w) A (call (.ref 135) [v, .str ⟨tcs.toArray⟩ tt]) Q E s := by
  refine enter (args := ⟨[v, .str ⟨tcs.toArray⟩ tt], []⟩) (f := 135) (binds := [("parts", v), ("text", .str ⟨tcs.toArray⟩ tt)]) G R (fnGoes w).2 rfl rfl (by kernel_rfl) (BindsTo.of_eq rfl) rfl (locs rfl) rfl (fun s1 E' F1 _ => ?_)
  have R1 := R.deeper (callEnv (fnGoes w).1 s.heap.objs.size 135)
  have FS1 := icc_fs F1
  have G1 := G.ext (icc_ext F1)
  have hv1 := hv.ext (icc_ext F1)
  have hv1' := hv1
  have hsl := sizeLine_eq
  obtain ⟨a, vs, rfl, hl, hr, pa⟩ := hv1'.list_inv
  have hlen : vs.length = ps.length := by rw [hr.length, List.length_map]
  have hvs : vs.toArray.size = ps.length := by simp [hlen]
  have hst : (⟨tcs.toArray⟩ : Str).length = tcs.length := List.size_toArray
  have ha : (⟨tcs.toArray⟩ : Str).cps.all (· < 128) = true := by
    rw [Array.all_eq_true']
    intro c hc
    exact decide_eq_true (h128 c (by simpa using hc))
  refine wpAny_execs_cons (wpAny_If (wpAny_isTrue_Compare1 (wpAny_Constant_none ?_)))
  walk_at "my ev"
  obtain ⟨_, rd1⟩ := hv1.reads
  refine PySem.SeqAt.notIn_list_reads rd1 .none (lay_strs ps hps) rfl (by have := R1.u65; rw [depth_strs]; show _ + 1 + min 0 0 < _; omega) ?_
  rw [eqv_none_str]
  refine wpAny_truthy_bool (ite_tt' ?_)
  refine wpAny_execs_cons (wpAny_Return_some (wpAny_And2 (wpAny_Compare1 ?_)))
  refine ev_bi G1 (by kernel_rfl) boot_len ?_
  repeat walk_at "my ev"
  refine len_list hl (by rw [List.size_toArray]; omega) ?_
  refine ev_bi (G1.ext (Ext.refl _)) (by kernel_rfl) boot_len ?_
  repeat walk_at "my ev"
  refine PyProof.Rows.len_str (by rw [hst]; omega) ?_
  rw [hst, hvs]
  refine PyProof.Rows.eq_int ?_
  refine wpAny_truthy_bool ?_
  cases hq : ((ps.length : Int) == (tcs.length : Int)) with
  | false =>
    refine ite_ff' ?_
    have e : flat ps tcs = false := by
      unfold flat
      have : (ps.length == tcs.length) = false := by
        rw [beq_eq_false_iff_ne] at hq ⊢
        omega
      rw [this]; rfl
    rw [e] at h
    exact h _ (keeps_trans (icc_keeps F1) keeps_tok)
  | true =>
    have hpt : ps.length = tcs.length := by
      have := beq_iff_eq.mp hq
      omega
    refine ite_tt' (wpAny_Compare1 ?_)
    refine lc_eval rfl rfl (by decide) ?_
    refine ev_ty (G1.ext (Ext.refl _)) (by kernel_rfl) boot_zip ?_
    repeat walk_at "my ev"
    refine lc_zips (s := _) (P := fun _ => False) (flatI ps tcs) (fun i => .str (ps.getD i ⟨#[]⟩)) ha R1.hh (keeps_refl _) hl (by rw [hlen, hpt]; exact List.size_toArray) (by omega) (fun _ q => q.elim) (by decide) rfl rfl rfl (by decide) ?_ ?_ ?_
    · intro C i v₁ c t s4 m E'' hi hc kx hns hm1 hm2
      have FS4 := FS1.ext kx
      obtain ⟨d, hd, rd⟩ := hr.get hi
      rw [List.getElem?_map] at hd
      obtain ⟨p, hp, rfl⟩ := Option.map_eq_some_iff.mp hd
      obtain ⟨tp, rfl⟩ := rd.str_inv
      have hc' : tcs[i]? = some c := by simpa using hc
      have h1 := h128 c (List.mem_of_getElem? hc')
      refine wpAny_tests_one (wpAny_isTrue_Compare1 ?_)
      refine nmL (fs_comp (h := s4.heap) hns FS4 trivial) hm1 ?_
      refine List_ (args_cons (Constant_str (args_cons (MethodCall_ (pl := _) ?_))))
      refine nmL (fs_comp (h := s4.heap) hns FS4 trivial) hm2 ?_
      refine GM.replace ?_
      refine callWith_method1 (args_cons (Constant_str (args_cons (Constant_str (args_nil ?_)))))
      refine SC.replace (by show s4.toks + 1 ≠ 0; omega) (by show s4.toks + 1 + 1 ≠ 0; omega) (by show s4.toks + 1 ≠ s4.toks + 1 + 1; omega) (by decide +kernel) (by show 1 + (1 + 1) * _ ≤ 16777216; decide +kernel) (fun t' k => ?_)
      rw [rep_sign h1]
      refine args_nil ?_
      refine newList_ev fun b s5 k5 hb hl5 => ?_
      have r5 : Rd (fun _ => True) s5.heap (.ref b) (.list ([anyS, esc c].map .str)) := Rd.of_list trivial hl5 (.cons (.str _ _) (.cons (.str _ _) .nil))
      obtain ⟨_, rd5⟩ := r5.reads
      refine PySem.SeqAt.notIn_list_reads rd5 (.str _ _) (lay_strs [anyS, esc c] (fun q hq => by
        rcases List.mem_cons.mp hq with rfl | hq
        · exact any_lay
        · rw [List.mem_singleton.mp hq]; exact esc_lay h1)) (hps p (List.mem_of_getElem? hp)) (by have := R1.u65; rw [depth_strs]; show _ + 1 + min 0 0 < _; omega) ?_
      refine wpAny_truthy_bool ⟨?_, keeps_trans keeps_tok k5⟩
      unfold flatI fits
      rw [hp, hc']
      show (!((anyS == p) || ((esc c == p) || false))) = _
      rw [Bool.or_false]
    · intro C i v₁ c t s4 m E'' hi hc _ kx hns hm1 hm2
      have FS4 := FS1.ext kx
      obtain ⟨d, hd, rd⟩ := hr.get hi
      rw [List.getElem?_map] at hd
      obtain ⟨p, hp, rfl⟩ := Option.map_eq_some_iff.mp hd
      obtain ⟨tp, rfl⟩ := rd.str_inv
      refine nmL (fs_comp (h := s4.heap) hns FS4 trivial) hm1 ?_
      refine ⟨?_, keeps_refl _⟩
      rw [List.getD_eq_getElem?_getD, hp]
      exact .str _ _
    · intro s5 s' k' hC hns' hr'
      refine lc_post_none k' hC hns' hr' fun v s'' k'' rv' => ?_
      obtain ⟨_, rdv⟩ := rv'.reads
      refine List_ (args_nil ?_)
      refine newList_ev fun b s7 k7 hb hl7 => ?_
      have r7 : Rd (fun _ => True) s7.heap (.ref b) (.list []) := Rd.of_list trivial hl7 .nil
      obtain ⟨_, rd7⟩ := r7.reads
      obtain ⟨_, rdv7⟩ := (rv'.ext (keeps_ext k7)).reads
      have hm : ∀ l : List Nat, (l.map fun i => PyData.str (ps.getD i ⟨#[]⟩)) = (l.map fun i => ps.getD i ⟨#[]⟩).map .str := fun l => by rw [List.map_map]; rfl
      rw [hm] at rdv7
      have hlay : PyData.canLayAll0 ((((List.range vs.length).filter (flatI ps tcs)).map fun i => ps.getD i ⟨#[]⟩).map .str) = true := lay_strs _ fun q hq => by
        obtain ⟨i, hi, rfl⟩ := List.mem_map.mp hq
        have hi2 := List.mem_range.mp (List.mem_filter.mp hi).1
        rw [List.getD_eq_getElem?_getD, List.getElem?_eq_getElem (by omega)]
        exact hps _ (List.getElem_mem _)
      refine PySem.SeqAt.compareEq_reads rdv7 rd7 hlay rfl ?_ ?_
      · have := R1.u65
        show _ + min (PyData.depthAll _ + 1) 1 < _
        rw [depth_strs]; omega
      · show Q (.bool (PyData.eqvAll _ [])) _
        have e : flat ps tcs = PyData.eqvAll ((((List.range vs.length).filter (flatI ps tcs)).map fun i => ps.getD i ⟨#[]⟩).map .str) [] := by
          rw [eqvAll_nil, List.isEmpty_map, List.isEmpty_map, hlen]
          unfold flat
          rw [hpt, beq_self_eq_true, Bool.true_and]
        rw [← e]
        exact h _ (keeps_trans (icc_keeps F1) (keeps_trans keeps_tok (keeps_trans k'' k7)))
end
end
section
section
variable {prog : Program} {w : World} {A : Around} {E : Value → Shared → Prop} {s : Shared} {mg mb : Str → Option Value} {n : Nat} {Q : Value → Shared → Prop}
def starD (ps : List Str) : List PyData := ps.map .str ++ [.none]
theorem starD_lay (ps : List Str) (h : ∀ p ∈ ps, (PyData.str p).canLay0 = true) : PyData.canLayAll0 (starD ps) = true := by
  induction ps with
  | nil => rfl
  | cons p ps ih =>
    show (PyData.canLay0 (.str p) && PyData.canLayAll0 (starD ps)) = true
    rw [ih fun q hq => h q (List.mem_cons_of_mem _ hq), Bool.and_true]
    exact h p List.mem_cons_self
theorem starD_depth (ps : List Str) : PyData.depthAll (starD ps) = 0 := by
  induction ps with
  | nil => rfl
  | cons p ps ih =>
    show max 0 (PyData.depthAll (starD ps)) = 0
    rw [ih]; rfl
theorem starD_any (ps : List Str) : ((starD ps).any fun y => PyData.eqv y .none) = true := by
  unfold starD
  rw [List.any_append]
  simp [PyData.eqv]
theorem le_t {a b : Int} {t u : Tok} (h : a ≤ b) (q : Q (.bool true) s) : wpAny (model prog w) A (compareOp .LtE (.int a t) (.int b u)) Q E s := PyProof.Rows.le_int (by rw [decide_eq_true h]; exact q)

set_option maxHeartbeats 1000000 in
theorem star_call {P : Addr → Prop} {v : Value} {ps : List Str} {tcs : List Nat} {tt : Tok} (G : Gl (KK w) mg mb s.heap) (R : Rm A (n + 2)) (hv : Rd P s.heap v (.list (starD ps))) (hps : ∀ p ∈ ps, (PyData.str p).canLay0 = true) (hz : ps.length ≤ 100)
    (hz2 : tcs.length ≤ 100) (h128 : ∀ c ∈ tcs, c < 128) (hle : ps.length ≤ tcs.length) (hsl : Txt.slice ⟨tcs.toArray⟩ none (some (ps.length : Int)) = ⟨(tcs.take ps.length).toArray⟩)
    (h : ∀ s', Keeps s s' → Q (.bool (flat ps (tcs.take ps.length))) s') : wpAny (model prog w) A (call (.ref 135) [v, .str ⟨tcs.toArray⟩ tt]) Q E s := by
  refine enter (args := ⟨[v, .str ⟨tcs.toArray⟩ tt], []⟩) (f := 135) (binds := [("parts", v), ("text", .str ⟨tcs.toArray⟩ tt)]) G R (fnGoes w).2 rfl rfl (by kernel_rfl) (BindsTo.of_eq rfl) rfl (locs rfl) rfl (fun s1 E' F1 _ => ?_)
  have R1 := R.deeper (callEnv (fnGoes w).1 s.heap.objs.size 135)
  have FS1 := icc_fs F1
  have G1 := G.ext (icc_ext F1)
  have hv1 := hv.ext (icc_ext F1)
  have hv1' := hv1
  have hln := sizeLine_eq
  obtain ⟨a, vs, rfl, hl, hr, pa⟩ := hv1'.plain_inv
  have hlen : vs.length = ps.length + 1 := by rw [hr.length]; simp [starD]
  have hvs : vs.toArray.size = ps.length + 1 := by simp [hlen]
  have hst : (⟨tcs.toArray⟩ : Str).length = tcs.length := List.size_toArray
  refine wpAny_execs_cons (wpAny_If (wpAny_isTrue_Compare1 (wpAny_Constant_none ?_)))
  walk_at "my ev"
  obtain ⟨_, rd1⟩ := hv1.reads
  refine PySem.SeqAt.notIn_list_reads rd1 .none (starD_lay ps hps) rfl (by have := R1.u65; rw [starD_depth]; show _ + 1 + min 0 0 < _; omega) ?_
  rw [starD_any]
  refine wpAny_truthy_bool (ite_ff' (wpAny_execs_nil ?_))
  refine wpAny_execs_cons (wpAny_Assign_Name (MethodCall_ (pl := _) ?_))
  walk_at "my ev"
  obtain ⟨o, nn, eo, co, od, ov⟩ := id hl
  have hND : s1.heap.NoDictAt (.ref a) := ⟨o, eo, od⟩
  refine getMethod_list_of PySem.F.slot_list_index PySem.F.type_list_index (plain_list hl) hND ?_
  refine callWith_method1 (args_cons (wpAny_Constant_none (args_nil ?_)))
  obtain ⟨cls, dd, data, sl⟩ := o
  simp only at co od ov
  subst co od ov
  have hread : ∀ y d, Rd P s1.heap y d → d.canLay0 = true → PySem.SeqAt.readOf s1.heap y = d := fun y d r hc => by
    obtain ⟨_, r⟩ := r.reads
    exact PySem.SeqAt.readOf_eq hc r
  obtain ⟨_, rds⟩ := hr.reads
  have hat := PySem.SeqAt.items_eqAt (vs := vs.toArray) (A := (A.deeper (callEnv (fnGoes w).1 s.heap.objs.size 135))) rds (.none : Reads s1.heap .none .none []) (starD_lay ps hps) rfl (by have := R1.u65; rw [starD_depth]; show _ + 1 + min 0 0 < _; omega)
  have hnone : ps.length < vs.toArray.size := by rw [hvs]; omega
  have hitem : ∀ m (hm : m < vs.toArray.size), PyData.eqv (PySem.SeqAt.readOf s1.heap vs.toArray[m]) .none = decide (m = ps.length) := fun m hm => by
    have hm' : m < vs.length := by simpa using hm
    obtain ⟨d, hd, rd⟩ := hr.get (k := m) (v := vs[m]) (by simp [hm'])
    unfold starD at hd
    by_cases hmp : m < ps.length
    · rw [List.getElem?_append_left (by simpa using hmp), List.getElem?_map, List.getElem?_eq_getElem hmp] at hd
      cases hd
      rw [List.getElem_toArray, hread _ _ rd (hps _ (List.getElem_mem _)), decide_eq_false (by omega)]
      rfl
    · have hme : m = ps.length := by omega
      subst hme
      rw [List.getElem?_append_right (by simp)] at hd
      simp at hd
      subst hd
      rw [List.getElem_toArray, hread _ _ rd rfl, decide_eq_true rfl]
      rfl
  refine call_meets PySem.F.slot_list_index ⟨_, eo, rfl⟩ PySem.F.entry_list_index (PySem.F.args_list_index_2 _ _)
    (PySem.SeqAt.list_indexAt a vs.toArray nn none sl .none (fun y => PyData.eqv (PySem.SeqAt.readOf s1.heap y) .none) ps.length hnone (by omega) (by rw [hitem _ hnone, decide_eq_true rfl]) (fun m hm hlt => by rw [hitem _ hm, decide_eq_false (by omega)])) ⟨eo, hat, ?_⟩
  refine stL (icc_up F1 keeps_tok) fun s2 F2 sk2 => ?_
  have FS2 := icc_fs F2
  have G2 := G.ext (icc_ext F2)
  have hl2 := plainL_sk hl sk2
  have hr2 := hr.sk sk2
  refine wpAny_execs_cons (wpAny_Return_some (BoolOp_and (wpAny_Compare1 ?_)))
  refine nmL FS2 rfl ?_
  refine ev_bi G2 (by kernel_rfl) boot_len ?_
  repeat walk_at "my ev"
  refine PyProof.Rows.len_str (by rw [hst]; omega) ?_
  rw [hst]
  refine le_t (by omega) ?_
  refine wpAny_truthy_bool (ite_tt' (BoolOp_and (wpAny_Compare1 ?_)))
  refine nmL FS2 rfl ?_
  refine wpAny_BinOp ?_
  refine ev_bi (G2.ext (Ext.refl _)) (by kernel_rfl) boot_len ?_
  repeat walk_at "my ev"
  refine len_list (plain_list hl2) (by rw [hvs]; omega) ?_
  rw [hvs]
  repeat walk_at "my ev"
  refine eq_t (by omega) ?_
  refine wpAny_truthy_bool (ite_tt' (BoolOp_one ?_))
  refine ev_own (G2.ext (Ext.refl _)) (fnGoes w).2 rfl (by kernel_rfl) ?_
  refine args_cons (Subscript_ ?_)
  refine nmL FS2 rfl ?_
  refine wpAny_Slice (wpAny_evalPart_none (wpAny_evalPart_some ?_))
  refine nmL FS2 rfl ?_
  refine wpAny_evalPart_none ?_
  refine slice_tail (ws := vs.take ps.length) (plain_list hl2) .none (.int _ _) .none (by simp) (by rw [slicePick_upto']) (fun b s5 k5 hb hl5 => ?_) (by omega)
  have FS5 := FS2.ext (keeps_ext k5)
  refine args_cons (Subscript_ ?_)
  refine nmL FS5 rfl ?_
  refine wpAny_Slice (wpAny_evalPart_none (wpAny_evalPart_some ?_))
  refine nmL FS5 rfl ?_
  refine wpAny_evalPart_none ?_
  refine slice_upto_str hsl (fun t6 s6 k6 => ?_) (by rw [hst]; omega)
  have G6 := (G2.ext (keeps_ext k5)).ext (keeps_ext k6)
  refine args_nil ⟨G6, ?_⟩
  have e1 : (starD ps).take ps.length = ps.map .str := by
    unfold starD
    rw [List.take_append_of_le_length (by simp)]
    exact List.take_of_length_le (by simp)
  have r6 : Rd (fun _ => True) s6.heap (.ref b) (.list (ps.map .str)) := by
    refine Rd.of_list trivial (hl5.keeps (keeps_ext k6)) ?_
    have := ((hr2.ext ((keeps_ext k5).trans (keeps_ext k6))).take ps.length).mono (P' := fun _ => True) fun _ _ => trivial
    rw [e1] at this
    exact this
  refine flat_call G6 R1 r6 hps hz (by rw [List.length_take]; omega) (fun c hc => h128 c (List.mem_of_mem_take hc)) fun s7 k7 => ?_
  exact h _ (keeps_trans (icc_keeps F2) (keeps_trans keeps_tok (keeps_trans k5 (keeps_trans k6 k7))))
end
end
section
section
variable {prog : Program} {w : World} {A : Around} {E : Value → Shared → Prop} {s : Shared} {α : Type}
theorem range_map {β : Type} (xs : List α) (g : α → β) (b : β) : (List.range xs.length).map (fun i => (xs[i]?.map g).getD b) = xs.map g := by
  apply List.ext_getElem
  · simp
  · intro i h1 h2
    have hi : i < xs.length := by simpa using h1
    simp [hi]
/-- [elt for x in xs], xs a list of data -/
theorem lc_map {env : Env} {cl : List (Str × Addr)} {elt iter : PySem.Expr} {x : Str} {px : Pos} {scope : Scope} {pos : Pos} {Q : Value → Shared → Prop}
    {ax : Addr} {items : List Value} {P P' : Addr → Prop} {xs : List α} {f g : α → PyData}
    (hh : A.handled = none) (hl : s.heap.IsList ax items.toArray) (hr : Rds P s.heap items (xs.map f)) (hn : xs.length ≤ sizeLine) (hP : ∀ a, P' a → ∃ o, s.heap.get? a = some o)
    (elts : ∀ C (i : Nat) (a : α) v s₁ m E', xs[i]? = some a → Rd P s₁.heap v (f a) → Ext s.heap s₁.heap → s₁.heap.Ns C m → m x = some v →
      wpAny (model prog w) A (eval elt (compEnvC scope cl C env)) (fun y s₂ => Rd (Nw P' s₁.heap) s₂.heap y (g a) ∧ Keeps s₁ s₂) E' s₁)
    (post : ∀ v s', Keeps s s' → Rd (Nw P' s.heap) s'.heap v (.list (xs.map g)) → Q v s')
    (hcell : ∀ y ∈ scope.names, y.2 ≠ .cell := by decide) (hkind : scope.kind = .function := by rfl) (hx : scope.names.lookup x = some .local := by rfl) :
    wpAny (model prog w) A (pyIter (.ref ax)) (LcBody prog w A E env cl elt [⟨.Name x px, iter, [], 0⟩] scope pos none Q) E s := by
  have hlen : items.length = xs.length := by rw [hr.length, List.length_map]
  refine lc_list (s := s) (P := P') (fun _ => true) (fun i => (xs[i]?.map g).getD .none) hh (keeps_refl _) hl (by omega) hP hcell hkind hx ?_ ?_ ?_
  · intro C i v s₁ m E' hi kx hns hm
    exact wpAny_tests_nil ⟨rfl, keeps_refl _⟩
  · intro C i v s₁ m E' hi _ kx hns hm
    obtain ⟨d, hd, rd⟩ := hr.get hi
    rw [List.getElem?_map] at hd
    obtain ⟨a, ha, rfl⟩ := Option.map_eq_some_iff.mp hd
    rw [ha]
    exact elts C i a v s₁ m E' ha (rd.ext kx) kx hns hm
  · intro s₂ s' k' hC hns' hr'
    refine lc_post_none k' hC hns' hr' fun v s'' k'' rv' => ?_
    rw [List.filter_eq_self.mpr (fun _ _ => rfl), hlen, range_map] at rv'
    exact post v s'' k'' rv'
end
end
section
noncomputable abbrev lawEnv (w : World) (S : Nat) : Env := callEnvC (fnLaw w).1 S 145
section
variable {prog : Program} {w : World} {A : Around} {E : Value → Shared → Prop} {s₀ s : Shared} {mg mb : Str → Option Value} {n : Nat} {Q : Flow → Shared → Prop}
/-- a comprehension's value stored under a cell of the frame -/
theorem lc_post_cell {s s₂ s' : Shared} {env : Env} {y : Str} {py : Pos} {P : Addr → Prop} {ds : List PyData} {Q : Flow → Shared → Prop} {c : Addr} {M : Model} (k : Keeps s s') (hCs : s.heap.get? (s₂.heap.objs.size + 1) = none) (hns : ∃ m', s'.heap.Ns (s₂.heap.objs.size + 1) m')
    (hr : Rd (fun a => Nw P s.heap a ∧ a ≠ s₂.heap.objs.size + 1) s'.heap (.ref s₂.heap.objs.size) (.list ds)) (hc : env.cells.lookup y = some c) (hcell : ∃ v, s.heap.IsCell c v) (hk : env.scope.kind = .function) (hy : env.kindOf y = some .cell)
    (h : ∀ v h' tk, h'.IsCell c (some v) → (∀ b o, b ≠ c → s.heap.get? b = some o → h'.get? b = some o) → Rd (Nw P s.heap) h' v (.list ds) → Q .next { s with heap := h', toks := tk }) :
    compPost M A E (some (assign (.Name y py) env)) (fun _ s' => Q .next s') (.ref s₂.heap.objs.size) (s₂.heap.objs.size + 1) (.ok .next) s' := by
  obtain ⟨m', hm⟩ := hns
  obtain ⟨v0, hv0⟩ := hcell
  have hcC : c ≠ s₂.heap.objs.size + 1 := fun q => by obtain ⟨o, ho, _⟩ := hv0; rw [q, hCs] at ho; cases ho
  show wpAny _ A (assign (.Name y py) env (.ref s₂.heap.objs.size)) _ _ _
  obtain ⟨h0, t0, rfl, k0⟩ := k
  obtain ⟨oc, hoc, hdc⟩ := hv0.keeps k0
  refine wpAny_assign_Name (wpAny_storeName_cell hk hy hc ⟨oc, hoc, hdc⟩ fun h₂ hn₂ hs₂ => ?_)
  refine ⟨m', hm.sameBut hs₂ (Ne.symm hcC), fun h₃ hs₃ => h _ h₃ _ (hn₂.sameBut hs₃ hcC) (fun b o hb e => hs₃.extBut b o (fun q => by rw [q, hCs] at e; cases e) (hs₂.extBut b o hb (k0 b o e))) ?_⟩
  refine hr.imp (fun _ q => q.1) fun b o vs n q e hd => hs₃.extBut b o q.2 (hs₂.extBut b o (fun z => ?_) e)
  have e' : h0.get? b = some o := e
  rw [z, hoc] at e'
  cases e'
  rw [hdc] at hd
  cases hd

def xs6 : List Int := [5235792, 5235793, 5235792, 7340032, 16777215, 5132112]
def nums6 : List Int := [7, 2, 14, 11, 28, 5]
abbrev AnyA : Addr → Prop := fun _ => True
theorem law_1 {l : Addr} {vs : List Value} {ns : List Int} (G : Gl (KK w) mg mb s.heap) (R : Rm A (n + 10)) {S : Nat} {m cm : Str → Option Value} (F : InCallC s₀ (lawEnv w S).locals m (lawEnv w S).cells cm s) (hm : m "script" = some (.ref l))
    (hl : s.heap.IsList l vs.toArray) (hi : IntsAre vs ns) (hz : vs.length ≤ 63)
    (h : ∀ s' m' cm' cv rv, Ext s₀.heap s'.heap → InCallC s₀ (lawEnv w S).locals m' (lawEnv w S).cells cm' s' → m' "cut" = some cv → cm' "rows" = some rv → Rd AnyA s'.heap cv (dl .int (ns.take 4)) →
      Rd AnyA s'.heap rv (.list ((xs6 ++ ns.take 4).map fun x => dl .int (octets x))) → wpAny (model prog w) A (execs ((bodyOf (fnLaw w).1).drop 2) (lawEnv w S)) Q E s') (G0 : Gl (KK w) mg mb s₀.heap) :
    wpAny (model prog w) A (execs (bodyOf (fnLaw w).1) (lawEnv w S)) Q E s := by
  have FS0 := icc_fs F
  have hln := sizeLine_eq
  refine wpAny_execs_cons (wpAny_Assign_Name (Subscript_ ?_))
  refine nmL FS0 hm ?_
  refine wpAny_Slice (wpAny_evalPart_none (wpAny_evalPart_some (wpAny_Constant_int (wpAny_evalPart_none ?_))))
  refine slice_tail (ws := vs.take 4) (s := { s with toks := s.toks + 1 }) hl .none (.int _ _) .none (by simp) (by rw [show (4 : Int) = ((4 : Nat) : Int) from rfl, slicePick_upto']) (fun cutA s1 k1 hcut hl1 => ?_) (by omega)
  refine stL (icc_up F (keeps_trans keeps_tok k1)) fun s2 F2 sk2 => ?_
  have hl2 := plainL_sk hl1 sk2
  have FS2 := icc_fs F2
  have hi4 : IntsAre (vs.take 4) (ns.take 4) := hi.take 4
  refine wpAny_execs_cons ?_
  refine wpAny_Assign_Name ?_
  refine lc_eval rfl rfl (by decide) ?_
  refine wpAny_BinOp (List_ ?_)
  repeat walk_at "my ev"
  refine newList_ev fun cA s3 k3 hcA hl3 => ?_
  have k23 := keeps_trans (a := s2) keeps_tok k3
  have FS3 := FS2.ext (keeps_ext k3)
  refine nmL (FS3.ext (Ext.refl _)) rfl ?_
  refine add_tail (plain_list hl3) (plain_list (hl2.keeps (keeps_ext k3))) (fun xA s4 k4 hxA hl4 => ?_) (by simp; omega)
  have F4 := icc_up F2 (keeps_trans k23 k4)
  refine lc_map (P := AnyA) (P' := fun _ => False) (xs := xs6 ++ ns.take 4) (f := PyData.int) (g := fun x => dl .int (octets x)) R.hh (plain_list hl4) ?_ (by have := hi.length; simp [xs6]; omega) (fun _ q => q.elim) ?_ ?_
  · exact Rds.of_ints (IntsAre.append (ns := xs6) (.cons _ _ (.cons _ _ (.cons _ _ (.cons _ _ (.cons _ _ (.cons _ _ .nil)))))) hi4)
  · intro C i a v s5 m5 E5 ha rv kx hns hm5
    obtain ⟨t, rfl⟩ := rv.int_inv
    have G5 := (G0.ext (icc_ext F4)).ext kx
    refine ev_own G5 (fnOctets w).2 rfl (by kernel_rfl) ?_
    refine args_cons (nmL (fs_comp (h := s5.heap) hns ((icc_fs F4).ext kx) trivial) hm5 ?_)
    refine args_nil ⟨G5, octets_call G5 (R.le (by omega : n + 1 ≤ n + 10)) fun v' s6 k6 r6 => ⟨r6.mono fun _ q => .inr q, k6⟩⟩
  · intro v s5 k5 rv
    refine stC (icc_up F4 k5) fun s6 F6 sk6 => ?_
    refine h s6 _ _ (.ref cutA) v (icc_ext F6) F6 rfl rfl ?_ ((rv.sk sk6).mono fun _ _ => trivial)
    refine Rd.of_list trivial (plainL_sk ((hl2.keeps (keeps_ext (keeps_trans k23 k4))).keeps (keeps_ext k5)) sk6) (Rds.of_ints hi4)
end
end
section
theorem sixes_b64 {a b c : Int} (ha : 0 ≤ a ∧ a < 256) (hb : 0 ≤ b ∧ b < 256) (hc : 0 ≤ c ∧ c < 256) : b64out a b c = sixes a b c := by
  unfold b64out sixes
  simp only [Int.fdiv_eq_ediv_of_nonneg _ (by decide : (0 : Int) ≤ 262144), Int.fdiv_eq_ediv_of_nonneg _ (by decide : (0 : Int) ≤ 4096), Int.fdiv_eq_ediv_of_nonneg _ (by decide : (0 : Int) ≤ 64), Int.fmod_eq_emod_of_nonneg _ (by decide : (0 : Int) ≤ 64)]
  have e1 : a / 2 ^ 2 % 64 = (a * 65536 + b * 256 + c) / 262144 := by omega
  have e2 : (a * 256 + b) / 2 ^ 4 % 64 = (a * 65536 + b * 256 + c) / 4096 % 64 := by omega
  have e3 : (b * 256 + c) / 2 ^ 6 % 64 = (a * 65536 + b * 256 + c) / 64 % 64 := by omega
  have e4 : (b * 256 + c) / 2 ^ 0 % 64 = (a * 65536 + b * 256 + c) % 64 := by omega
  rw [e1, e2, e3, e4]
theorem octets_in (x : Int) : ∃ a b c, octets x = [a, b, c] ∧ (0 ≤ a ∧ a < 256) ∧ (0 ≤ b ∧ b < 256) ∧ (0 ≤ c ∧ c < 256) := by
  refine ⟨_, _, _, rfl, ?_, ?_, ?_⟩ <;> (rw [Int.fmod_eq_emod_of_nonneg _ (by decide : (0 : Int) ≤ 256)]; exact ⟨Int.emod_nonneg _ (by decide), Int.emod_lt_of_pos _ (by decide)⟩)
theorem sixes_in {a b c : Int} (ha : 0 ≤ a ∧ a < 256) (hb : 0 ≤ b ∧ b < 256) (hc : 0 ≤ c ∧ c < 256) : ∀ i ∈ sixes a b c, 0 ≤ i ∧ i < 64 := by
  rw [← sixes_b64 ha hb hc]
  intro i hi
  simp only [b64out, List.mem_cons, List.not_mem_nil, or_false] at hi
  omega
theorem code_back {i : Int} (h0 : 0 ≤ i) (h1 : i < 64) : ((alph i.toNat : Int).toNat.toUInt8).toNat = alph i.toNat ∧ alph i.toNat < 128 := by
  have := (b64_at (i := i.toNat) (by omega)).2
  refine ⟨?_, this⟩
  rw [Int.toNat_natCast]
  simp
  omega
def sixOf (x : Int) : List Int := match octets x with | [a, b, c] => sixes a b c | _ => []
end
section
abbrev rowD (x : Int) : PyData := dl .int (octets x)
abbrev textD (x : Int) : PyData := .str (txt (sixOf x))
section
variable {prog : Program} {w : World} {A : Around} {E : Value → Shared → Prop} {s₀ s : Shared} {mg mb : Str → Option Value} {n : Nat} {Q : Flow → Shared → Prop}
theorem txt_lay (l : List Int) (h : ∀ i ∈ l, 0 ≤ i ∧ i < 64) : (PyData.str (txt l)).canLay0 = true := by
  show ((txt l).cps.all (· < 0x110000)) = true
  rw [Array.all_eq_true']
  intro c hc
  have hc' : c ∈ l.map fun i => alph i.toNat := by simpa [txt] using hc
  obtain ⟨i, hi, rfl⟩ := List.mem_map.mp hc'
  have := (b64_at (i := i.toNat) (by have := h i hi; omega)).2
  exact decide_eq_true (by omega)
theorem sixOf_in (x : Int) : ∀ i ∈ sixOf x, 0 ≤ i ∧ i < 64 := by
  obtain ⟨a, b, c, e, ha, hb, hc⟩ := octets_in x
  unfold sixOf
  rw [e]
  exact sixes_in ha hb hc

set_option maxHeartbeats 1000000 in
theorem law_2 {S : Nat} {m cm : Str → Option Value} {xs : List Int} {rv : Value} (hxs : xs.length ≤ 10) (G0 : Gl (KK w) mg mb s₀.heap) (R : Rm A (n + 10)) (F : InCallC s₀ (lawEnv w S).locals m (lawEnv w S).cells cm s)
    (hrows : cm "rows" = some rv) (hr : Rd AnyA s.heap rv (.list (xs.map rowD)))
    (h : ∀ s' cm' tv, InCallC s₀ (lawEnv w S).locals m (lawEnv w S).cells cm' s' → (∀ y : Str, y ≠ PySem.Str.ofString "texts" → cm' y = cm y) → cm' "texts" = some tv → Rd AnyA s'.heap tv (.list (xs.map textD)) → SK s.heap s'.heap →
      wpAny (model prog w) A (execs ((bodyOf (fnLaw w).1).drop 4) (lawEnv w S)) Q E s') :
    wpAny (model prog w) A (execs ((bodyOf (fnLaw w).1).drop 2) (lawEnv w S)) Q E s := by
  have FS0 := icc_fs F
  have hln := sizeLine_eq
  have G1 := G0.ext (icc_ext F)
  obtain ⟨rA, rvs, rfl, hl, hrs, _⟩ := hr.plain_inv
  refine wpAny_execs_cons ?_
  refine wpAny_Assign_Name ?_
  refine lc_eval rfl rfl (by decide) ?_
  refine nmC FS0 hrows ?_
  refine lc_map (P := AnyA) (P' := fun _ => False) (xs := xs) (f := rowD) (g := textD) R.hh (plain_list hl) hrs (by omega) (fun _ q => q.elim) ?_ ?_
  · intro C i x v s5 m5 E5 ha rv kx hns hm5
    have G5 := G1.ext kx
    obtain ⟨a, b, c, e, hA, hB, hC⟩ := octets_in x
    have rv' := rv
    unfold rowD dl at rv'
    rw [e] at rv'
    obtain ⟨va, ws, rfl, hlw, hrw, _⟩ := rv'.plain_inv
    refine MethodCall_ (pl := _) ?_
    refine ev_own G5 (fnB64 w).2 rfl (by kernel_rfl) ?_
    refine args_cons (ev_ty G5 (by kernel_rfl) boot_bytes ?_)
    refine args_cons (nmL (fs_comp (h := s5.heap) hns (FS0.ext kx) trivial) hm5 ?_)
    refine args_nil ?_
    refine call_bytes_ints (plain_list hlw) (Rds.ints hrw) (by intro y hy; simp only [List.mem_cons, List.not_mem_nil, or_false] at hy; rcases hy with rfl | rfl | rfl <;> assumption) (by rw [hrw.length]; simp; omega) R.hh fun h6 t6 k6 hk6 => ?_
    have G6 := G5.ext hk6
    refine args_nil ⟨G6, ?_⟩
    refine b64_call hA hB hC G6 (R.le (by omega : n + 4 ≤ n + 10)) fun t7 s7 k7 => ?_
    refine KBd.method ?_
    refine callWith_method1 (args_cons (Constant_str (args_nil ?_)))
    rw [sixes_b64 hA hB hC]
    have hin := sixes_in hA hB hC
    have e6 : sixOf x = sixes a b c := by unfold sixOf; rw [e]
    unfold textD
    rw [e6]
    obtain ⟨i1, i2, i3, i4, es⟩ : ∃ i1 i2 i3 i4, sixes a b c = [i1, i2, i3, i4] := ⟨_, _, _, _, rfl⟩
    rw [es] at hin ⊢
    have hb : ∀ i ∈ [i1, i2, i3, i4], ((alph i.toNat : Int).toNat.toUInt8).toNat = alph i.toNat ∧ alph i.toNat < 128 := fun i hi => code_back (hin i hi).1 (hin i hi).2
    have b1 := hb i1 (by simp)
    have b2 := hb i2 (by simp)
    have b3 := hb i3 (by simp)
    have b4 := hb i4 (by simp)
    refine decode_ascii (b0 := (alph i1.toNat : Int).toNat.toUInt8) (b1 := (alph i2.toNat : Int).toNat.toUInt8) (b2 := (alph i3.toNat : Int).toNat.toUInt8) (b3 := (alph i4.toNat : Int).toNat.toUInt8) (by omega) (by omega) (by omega) (by omega) fun t8 k8 => ?_
    rw [b1.1, b2.1, b3.1, b4.1]
    exact ⟨.str _ _, keeps_trans (keeps_mk hk6) (keeps_trans k7 keeps_tok)⟩
  · intro tv s5 k5 rt
    refine stC (icc_up F k5) fun s6 F6 sk6 => ?_
    have FS6 := icc_fs F6
    have G6 := G0.ext (icc_ext F6)
    have sk06 : SK s.heap s6.heap := (SK.ext (keeps_ext k5)).trans sk6
    have rt6 := (rt.sk sk6).mono (P' := AnyA) fun _ _ => trivial
    have hl6 := plainL_sk hl sk06
    have hrs6 := hrs.sk sk06
    refine wpAny_execs_cons ?_
    refine wpAny_If ?_
    refine wpAny_isTrue_Compare1 ?_
    refine nmC FS6 rfl ?_
    refine lc_eval rfl rfl (by decide) ?_
    refine nmC FS6 ((if_neg (by decide)).trans hrows) ?_
    refine lc_map (P := AnyA) (P' := fun _ => False) (xs := xs) (f := rowD) (g := textD) R.hh (plain_list hl6) hrs6 (by omega) (fun _ q => q.elim) ?_ ?_
    · intro C i x v s7 m7 E7 ha rv kx hns hm7
      have G7 := G6.ext kx
      obtain ⟨a, b, c, e, hA, hB, hC⟩ := octets_in x
      have e6 : sixOf x = sixes a b c := by unfold sixOf; rw [e]
      have rv' := rv
      unfold rowD dl at rv'
      rw [e] at rv'
      refine ev_own G7 (fnText w).2 rfl (by kernel_rfl) ?_
      refine args_cons (nmL (fs_comp (h := s7.heap) hns (FS6.ext kx) trivial) hm7 ?_)
      refine args_nil ⟨G7, ?_⟩
      refine text_call (n := n) (a := a) (b := b) (c := c) G7 (R.le (by omega)) rv' (sixes_in hA hB hC) fun t8 s8 k8 => ?_
      unfold textD
      rw [e6]
      exact ⟨.str _ _, k8⟩
    · intro uv s7 k7 ru
      have rt7 := rt6.ext (keeps_ext k7)
      obtain ⟨_, rd1⟩ := rt7.reads
      obtain ⟨_, rd2⟩ := ru.reads
      have hm : (xs.map textD) = (xs.map fun x => txt (sixOf x)).map .str := by rw [List.map_map]; rfl
      have hlay : PyData.canLayAll0 (xs.map textD) = true := by
        rw [hm]
        refine lay_strs _ fun p hp => ?_
        obtain ⟨x, _, rfl⟩ := List.mem_map.mp hp
        exact txt_lay _ (sixOf_in x)
      refine PySem.SeqAt.compareNe_reads rd1 rd2 hlay hlay ?_ ?_
      · have := R.u65
        show _ + min (PyData.depthAll (xs.map textD) + 1) (PyData.depthAll (xs.map textD) + 1) < _
        rw [hm, depth_strs]; omega
      · rw [PySem.SeqAt.eqv_refl (.list (xs.map textD)) hlay]
        refine wpAny_truthy_bool (ite_ff' (wpAny_execs_nil ?_))
        refine h s7 _ tv (icc_up F6 k7) (fun y hy => if_neg hy) (if_pos rfl) rt7 (sk06.trans (SK.ext (keeps_ext k7)))
end
end
section
section
variable {prog : Program} {w : World} {A : Around} {E : Value → Shared → Prop} {s₀ s : Shared} {α : Type}
/-- y = [elt for x in xs], y a local name -/
theorem lc_map_local {env : Env} {cl : List (Str × Addr)} {elt iter : PySem.Expr} {x y : Str} {px py : Pos} {scope : Scope} {pos : Pos} {Q : Shared → Prop} {m cm : Str → Option Value}
    {ax : Addr} {items : List Value} {P P' : Addr → Prop} {xs : List α} {f g : α → PyData} (F : InCallC s₀ env.locals m env.cells cm s)
    (hh : A.handled = none) (hl : s.heap.IsList ax items.toArray) (hr : Rds P s.heap items (xs.map f)) (hn : xs.length ≤ sizeLine) (hP : ∀ a, P' a → ∃ o, s.heap.get? a = some o)
    (elts : ∀ C (i : Nat) (a : α) v s₁ m E', xs[i]? = some a → Rd P s₁.heap v (f a) → Ext s.heap s₁.heap → s₁.heap.Ns C m → m x = some v →
      wpAny (model prog w) A (eval elt (compEnvC scope cl C env)) (fun y s₂ => Rd (Nw P' s₁.heap) s₂.heap y (g a) ∧ Keeps s₁ s₂) E' s₁)
    (post : ∀ v s', InCallC s₀ env.locals (fun z => if z = y then some v else m z) env.cells cm s' → SK s.heap s'.heap → Rd (Nw P' s.heap) s'.heap v (.list (xs.map g)) → Q s')
    (hy : env.kindOf y = some .local := by rfl) (hp : (env.scope.kind == .class || (env.scope.kind == .module && env.locals != env.globals)) = false := by rfl)
    (hcell : ∀ y ∈ scope.names, y.2 ≠ .cell := by decide) (hkind : scope.kind = .function := by rfl) (hx : scope.names.lookup x = some .local := by rfl) :
    wpAny (model prog w) A (pyIter (.ref ax)) (LcBody prog w A E env cl elt [⟨.Name x px, iter, [], 0⟩] scope pos (some (assign (.Name y py) env)) (fun _ s' => Q s')) E s := by
  have hlen : items.length = xs.length := by rw [hr.length, List.length_map]
  refine lc_list (s := s) (P := P') (fun _ => true) (fun i => (xs[i]?.map g).getD .none) hh (keeps_refl _) hl (by omega) hP hcell hkind hx ?_ ?_ ?_
  · intro C i v s₁ m E' hi kx hns hm
    exact wpAny_tests_nil ⟨rfl, keeps_refl _⟩
  · intro C i v s₁ m E' hi _ kx hns hm
    obtain ⟨d, hd, rd⟩ := hr.get hi
    rw [List.getElem?_map] at hd
    obtain ⟨a, ha, rfl⟩ := Option.map_eq_some_iff.mp hd
    rw [ha]
    exact elts C i a v s₁ m E' ha (rd.ext kx) kx hns hm
  · intro s₂ s' k' hC hns' hr'
    refine lc_post_local (Q := fun _ s' => Q s') k' hC hns' hr' F.toInCall.ns hy hp fun v h' tk hN hK rv' => ?_
    rw [List.filter_eq_self.mpr (fun _ _ => rfl), hlen, range_map] at rv'
    exact post v _ (icc_loc F hN hK) (sk_loc F.toInCall.ns hK) rv'
end
end
section
/-- the first row's signs -/
def t0 : List Nat := [84, 43, 82, 81]
theorem t0_text : txt (sixOf 5235792) = ⟨t0.toArray⟩ := by decide +kernel
abbrev pattD (x : Int) : PyData := .str ⟨(patt x t0).toArray⟩
abbrev partD (x : Int) : PyData := .list ((transl (patt x t0)).map fO)
theorem patt_signs (x : Int) : ∀ c ∈ patt x t0, c ∈ signs6 := by
  have e : signsOf x t0 = [if bit x 0 then 84 else 63, if bit x 1 then 43 else 63, if bit x 2 then 82 else 63, if bit x 3 then 81 else 63] := rfl
  unfold patt
  rw [e]
  cases starred x <;> cases bit x 0 <;> cases bit x 1 <;> cases bit x 2 <;> cases bit x 3 <;> decide
theorem patt_len (x : Int) : (patt x t0).length = 4 := by
  have e : signsOf x t0 = [if bit x 0 then 84 else 63, if bit x 1 then 43 else 63, if bit x 2 then 82 else 63, if bit x 3 then 81 else 63] := rfl
  unfold patt
  rw [e]
  cases starred x <;> rfl
section
variable {prog : Program} {w : World} {A : Around} {E : Value → Shared → Prop} {s₀ s : Shared} {mg mb : Str → Option Value} {n : Nat} {Q : Flow → Shared → Prop}
set_option maxHeartbeats 1000000 in
theorem law_3 {S : Nat} {m cm : Str → Option Value} {xs : List Int} {cns : List Int} {rv cv : Value} (hcl : cns.length ≤ 4) (hxs : xs.length ≤ 10) (h0 : xs[0]? = some 5235792) (G0 : Gl (KK w) mg mb s₀.heap) (R : Rm A (n + 10)) (F : InCallC s₀ (lawEnv w S).locals m (lawEnv w S).cells cm s)
    (hcut : m "cut" = some cv) (hc : Rd AnyA s.heap cv (dl .int cns)) (hrows : cm "rows" = some rv) (hr : Rd AnyA s.heap rv (.list (xs.map rowD)))
    (h : ∀ s' m' nv pv, InCallC s₀ (lawEnv w S).locals m' (lawEnv w S).cells cm s' → m' "numbers" = some nv → m' "parts" = some pv → Rd AnyA s'.heap nv (dl .int (nums6 ++ cns)) → Rd AnyA s'.heap pv (.list ((nums6 ++ cns).map partD)) → SK s.heap s'.heap →
      wpAny (model prog w) A (execs ((bodyOf (fnLaw w).1).drop 7) (lawEnv w S)) Q E s') :
    wpAny (model prog w) A (execs ((bodyOf (fnLaw w).1).drop 4) (lawEnv w S)) Q E s := by
  have FS0 := icc_fs F
  have hln := sizeLine_eq
  obtain ⟨cA, cvs, rfl, hlc, hrc, _⟩ := hc.plain_inv
  have hcl2 : cvs.length = cns.length := by rw [hrc.length, List.length_map]
  refine wpAny_execs_cons ?_
  refine wpAny_Assign_Name ?_
  refine wpAny_BinOp (List_ ?_)
  repeat walk_at "my ev"
  refine newList_ev fun kA s1 k1 hkA hl1 => ?_
  have k01 := keeps_trans (a := s) keeps_tok k1
  refine nmL (FS0.ext (keeps_ext k01)) hcut ?_
  refine add_tail (plain_list hl1) (plain_list (hlc.keeps (keeps_ext k01))) (fun nA s2 k2 hnA hl2 => ?_) (by simp; omega)
  obtain ⟨nvs, hl2', hnv⟩ : ∃ nvs : List Value, PlainL s2.heap nA nvs.toArray ∧ IntsAre nvs (nums6 ++ cns) := ⟨_, hl2, IntsAre.append (ns := nums6) (.cons _ _ (.cons _ _ (.cons _ _ (.cons _ _ (.cons _ _ (.cons _ _ .nil)))))) (Rds.ints hrc)⟩
  clear hl2
  refine stL (icc_up F (keeps_trans k01 k2)) fun s3 F3' sk3 => ?_
  obtain ⟨m3, F3, hn3, hm3⟩ : ∃ m3, InCallC s₀ (lawEnv w S).locals m3 (lawEnv w S).cells cm s3 ∧ m3 "numbers" = some (.ref nA) ∧ (∀ y : Str, y ≠ PySem.Str.ofString "numbers" → m3 y = m y) := ⟨_, F3', if_pos rfl, fun y hy => if_neg hy⟩
  have FS3 := icc_fs F3
  clear F3'
  have hln3 := plainL_sk hl2' sk3
  have sk03 : SK s.heap s3.heap := (SK.ext (keeps_ext (keeps_trans k01 k2))).trans sk3
  have hrn3 : Rds AnyA s3.heap nvs ((nums6 ++ cns).map .int) := Rds.of_ints hnv
  have rn3 : Rd AnyA s3.heap (.ref nA) (dl .int (nums6 ++ cns)) := Rd.of_list trivial hln3 hrn3
  have rr3 := hr.sk sk03
  have G3 := G0.ext (icc_ext F3)
  obtain ⟨rA, rvs, rfl, hlr, hrr, _⟩ := rr3.plain_inv
  have hnl : (nums6 ++ cns).length ≤ 10 := by simp [nums6]; omega
  refine wpAny_execs_cons ?_
  refine lc_assign ?_ rfl rfl (by decide) ?_
  · rfl
  refine nmL FS3 hn3 ?_
  refine lc_map_local (P := AnyA) (P' := fun _ => False) (xs := nums6 ++ cns) (f := PyData.int) (g := pattD) F3 R.hh (plain_list hln3) hrn3 (by omega) (fun _ q => q.elim) ?_ ?_
  · intro C i x v s5 m5 E5 ha rv kx hns hm5
    obtain ⟨tx, rfl⟩ := rv.int_inv
    have G5 := G3.ext kx
    refine ev_own G5 (fnPattern w).2 rfl (by kernel_rfl) ?_
    refine args_cons (nmL (fs_comp (h := s5.heap) hns (FS3.ext kx) ⟨rfl, trivial⟩) hm5 ?_)
    refine args_cons (ev_own G5 (fnText w).2 rfl (by kernel_rfl) ?_)
    refine args_cons (Subscript_ ?_)
    refine nmC (fs_comp (h := s5.heap) hns (FS3.ext kx) ⟨rfl, trivial⟩) ((hrows)) ?_
    refine wpAny_Constant_int ?_
    obtain ⟨v0, hv0, r0⟩ := hrr.at (k := 0) (d := rowD 5235792) (by rw [List.getElem?_map, h0]; rfl)
    refine sub_item (plain_list (hlr.keeps kx)) (by simpa using hv0) ?_
    refine args_nil ⟨G5.ext (Ext.refl _), ?_⟩
    have r0' := r0.ext kx
    obtain ⟨a, b, c, e, hA, hB, hC⟩ := octets_in 5235792
    have e6 : sixOf 5235792 = sixes a b c := by unfold sixOf; rw [e]
    unfold rowD dl at r0'
    rw [e] at r0'
    refine text_call (n := n) (a := a) (b := b) (c := c) (G5.ext (Ext.refl _)) (R.le (by omega)) r0' (sixes_in hA hB hC) fun t8 s8 k8 => ?_
    rw [← e6, t0_text]
    have G8 := G5.ext (keeps_ext k8)
    refine args_nil ⟨G8, ?_⟩
    refine pattern_call G8 (R.le (by omega : n + 1 ≤ n + 10)) fun t9 s9 k9 => ?_
    exact ⟨.str _ _, keeps_trans (keeps_trans keeps_tok k8) k9⟩
  · intro pv s5 F5' sk5 rp
    obtain ⟨m5, F5, hn5, hp5⟩ : ∃ m5, InCallC s₀ (lawEnv w S).locals m5 (lawEnv w S).cells cm s5 ∧ m5 "numbers" = some (.ref nA) ∧ m5 "patterns" = some pv := ⟨_, F5', (if_neg (by decide)).trans hn3, if_pos rfl⟩
    clear F5'
    have FS5 := icc_fs F5
    have G5 := G0.ext (icc_ext F5)
    obtain ⟨pA, pvs, rfl, hlp, hrp, _⟩ := rp.plain_inv
    refine wpAny_execs_cons ?_
    refine lc_assign ?_ rfl rfl (by decide) ?_
    · rfl
    refine nmL FS5 hp5 ?_
    refine lc_map_local (P := Nw (fun _ => False) s3.heap) (P' := fun _ => False) (xs := nums6 ++ cns) (f := pattD) (g := partD) F5 R.hh (plain_list hlp) hrp (by omega) (fun _ q => q.elim) ?_ ?_
    · intro C i x v s6 m6 E6 ha rv kx hns hm6
      obtain ⟨tx, rfl⟩ := rv.str_inv
      have G6 := G5.ext kx
      refine ev_own G6 (fnTranslate w).2 rfl (by kernel_rfl) ?_
      refine args_cons (nmL (fs_comp (h := s6.heap) hns (FS5.ext kx) trivial) hm6 ?_)
      refine args_cons (wpAny_Constant_none (args_cons (Constant_str (args_nil ⟨G6.ext (Ext.refl _), ?_⟩))))
      refine translate_call (patt_signs x) (by rw [patt_len]; decide) (G6.ext (Ext.refl _)) (R.le (by omega : n + 2 ≤ n + 10)) fun v7 s7 k7 r7 => ?_
      exact ⟨r7.mono fun _ q => .inr q, keeps_trans keeps_tok k7⟩
    · intro qv s6 F6 sk6 rq
      exact h s6 _ (.ref nA) qv F6 ((if_neg (by decide)).trans hn5) (if_pos rfl) (rn3.sk (sk5.trans sk6)) (rq.mono fun _ _ => trivial) (sk03.trans (sk5.trans sk6))
end
end
section
/-- the k-th part of the number's pattern -/
def pk (x : Int) (k : Nat) : Str := if bit x k then esc (t0.getD k 0) else anyS
def pks (x : Int) : List Str := if starred x then [pk x 0, pk x 1] else [pk x 0, pk x 1, pk x 2, pk x 3]
theorem signs_t0 (x : Int) : signsOf x t0 = [if bit x 0 then 84 else 63, if bit x 1 then 43 else 63, if bit x 2 then 82 else 63, if bit x 3 then 81 else 63] := rfl
theorem transl_patt (x : Int) : transl (patt x t0) = (pks x).map some ++ (if starred x then [none] else []) := by
  unfold patt pks pk
  rw [signs_t0]
  cases starred x <;> cases bit x 0 <;> cases bit x 1 <;> cases bit x 2 <;> cases bit x 3 <;> decide +kernel
theorem pks_lay (x : Int) : ∀ p ∈ pks x, (PyData.str p).canLay0 = true := by
  unfold pks pk
  cases starred x <;> cases bit x 0 <;> cases bit x 1 <;> cases bit x 2 <;> cases bit x 3 <;> decide +kernel
def goesB (x : Int) (tcs : List Nat) : Bool := if starred x then flat (pks x) (tcs.take 2) else flat (pks x) tcs
end
section
section
variable {prog : Program} {w : World} {A : Around} {E : Value → Shared → Prop} {s₀ s : Shared} {mg mb : Str → Option Value} {n : Nat}
/-- _law_goes of a pattern's parts and a row's text -/
theorem goes_call {s : Shared} {P : Addr → Prop} {v : Value} {x : Int} {tcs : List Nat} {tt : Tok} {Q : Value → Shared → Prop} (G : Gl (KK w) mg mb s.heap) (R : Rm A (n + 2)) (hv : Rd P s.heap v (partD x)) (hl : tcs.length = 4) (h128 : ∀ c ∈ tcs, c < 128)
    (h : ∀ s', Keeps s s' → Q (.bool (goesB x tcs)) s') : wpAny (model prog w) A (call (.ref 135) [v, .str ⟨tcs.toArray⟩ tt]) Q E s := by
  unfold partD at hv
  rw [transl_patt] at hv
  unfold goesB at h
  cases hst : starred x with
  | true =>
    rw [hst] at hv h
    have e : ((pks x).map some ++ [none]).map fO = starD (pks x) := by
      unfold starD
      rw [List.map_append, List.map_map]; rfl
    rw [if_pos rfl, e] at hv
    have hp2 : (pks x).length = 2 := by unfold pks; rw [hst]; rfl
    refine star_call G R hv (pks_lay x) (by omega) (by omega) h128 (by omega) ?_ fun s' k' => ?_
    · rw [hp2]
      match tcs, hl with
      | [a, b, c, d], _ => exact slice2 a b c d
    · rw [hp2]
      exact h s' k'
  | false =>
    rw [hst] at hv h
    have e : ((pks x).map some ++ []).map fO = (pks x).map .str := by rw [List.append_nil, List.map_map]; rfl
    rw [if_neg Bool.false_ne_true, e] at hv
    refine flat_call (n := n + 1) G R hv (pks_lay x) (by unfold pks; rw [hst]; show 4 ≤ 100; decide) (by omega) h128 fun s' k' => ?_
    exact h s' k'
end
end
section
def tcsOf (x : Int) : List Nat := (sixOf x).map fun i => alph i.toNat
theorem tcs_len (x : Int) : (tcsOf x).length = 4 := by
  obtain ⟨a, b, c, e, _⟩ := octets_in x
  unfold tcsOf sixOf
  rw [e]; rfl
theorem tcs_128 (x : Int) : ∀ c ∈ tcsOf x, c < 128 := by
  intro c hc
  obtain ⟨i, hi, rfl⟩ := List.mem_map.mp hc
  have := sixOf_in x i hi
  exact (b64_at (i := i.toNat) (by omega)).2
theorem txt_tcs (x : Int) : txt (sixOf x) = ⟨(tcsOf x).toArray⟩ := rfl
theorem range_filter_map {α β : Type} [BEq α] [LawfulBEq α] (xs : List α) (p : α → Bool) (g : α → β) (b : β) (p' : Nat → Bool) (h : ∀ (i : Nat) (a : α), xs[i]? = some a → p' i = p a) :
    ((List.range xs.length).filter p').map (fun i => (xs[i]?.map g).getD b) = (xs.filter p).map g := by
  refine snocInd (C := fun xs => ∀ p' : Nat → Bool, (∀ (i : Nat) (a : α), xs[i]? = some a → p' i = p a) → ((List.range xs.length).filter p').map (fun i => (xs[i]?.map g).getD b) = (xs.filter p).map g) (fun _ _ => rfl) (fun l y ih p' h => ?_) xs p' h
  rw [List.length_append, List.length_singleton, List.range_succ, List.filter_append, List.map_append, List.filter_append, List.map_append]
  have hl : ∀ (i : Nat) (a : α), l[i]? = some a → p' i = p a := fun i a e => h i a (by rw [List.getElem?_append_left (List.getElem?_eq_some_iff.mp e).1]; exact e)
  have e1 : (((List.range l.length).filter p').map fun i => ((l ++ [y])[i]?.map g).getD b) = ((List.range l.length).filter p').map fun i => (l[i]?.map g).getD b := by
    refine List.map_congr_left fun i hi => ?_
    rw [List.getElem?_append_left (List.mem_range.mp (List.mem_filter.mp hi).1)]
  rw [e1, ih p' hl]
  congr 1
  have e2 : p' l.length = p y := h _ _ (by simp)
  cases hp : p y
  · simp [List.filter_cons, e2, hp]
  · simp [List.filter_cons, e2, hp]
abbrev toldD (xs : List Int) (x : Int) : PyData := .list ((xs.filter fun r => goesB x (tcsOf r)).map rowD)
end
section
section
variable {prog : Program} {w : World} {A : Around} {E : Value → Shared → Prop} {s₀ s : Shared} {mg mb : Str → Option Value} {n : Nat} {Q : Flow → Shared → Prop}
theorem fs_compC {scope : Scope} {cl : List (Str × Addr)} {C c : Addr} {x : Str} {v : Value} {env : Env} {m m₀ cm : Str → Option Value} {h : Heap} (hns : h.Ns C m) (hc : h.IsCell c (some v)) (F : FS env m₀ cm h) (hs : Subs env cl) :
    FS (compEnvC scope ((x, c) :: cl) C env) m (fun y => if y = x then some v else cm y) h :=
  ⟨hns, fun n c' e => by
    have e' : List.lookup n ((x, c) :: cl) = some c' := e
    rw [List.lookup_cons] at e'
    by_cases hn : n = x
    · subst hn
      simp at e'
      subst e'
      rw [if_pos rfl]; exact hc
    · have hb : (n == x) = false := beq_eq_false_iff_ne.mpr hn
      rw [hb] at e'
      rw [if_neg hn]
      exact F.cell n c' (hs.mem _ (mem_of_lookup (l := cl) e'))⟩
set_option maxHeartbeats 1000000 in
theorem law_4 {S : Nat} {m cm : Str → Option Value} {xs nums : List Int} {rv tv pv : Value} (hnl : nums.length ≤ 10) (hxs : xs.length ≤ 10) (G0 : Gl (KK w) mg mb s₀.heap) (R : Rm A (n + 10)) (F : InCallC s₀ (lawEnv w S).locals m (lawEnv w S).cells cm s)
    (hparts : m "parts" = some pv) (hp : Rd AnyA s.heap pv (.list (nums.map partD))) (hrows : cm "rows" = some rv) (hr : Rd AnyA s.heap rv (.list (xs.map rowD))) (htexts : cm "texts" = some tv) (ht : Rd AnyA s.heap tv (.list (xs.map textD)))
    (h : ∀ s' cm' dv, InCallC s₀ (lawEnv w S).locals m (lawEnv w S).cells cm' s' → (∀ y : Str, y ≠ PySem.Str.ofString "told" → cm' y = cm y) → cm' "told" = some dv → Rd AnyA s'.heap dv (.list (nums.map (toldD xs))) → SK s.heap s'.heap →
      wpAny (model prog w) A (execs ((bodyOf (fnLaw w).1).drop 8) (lawEnv w S)) Q E s') :
    wpAny (model prog w) A (execs ((bodyOf (fnLaw w).1).drop 7) (lawEnv w S)) Q E s := by
  have FS0 := icc_fs F
  have hln := sizeLine_eq
  have G1 := G0.ext (icc_ext F)
  obtain ⟨pA, pvs, rfl, hlp, hrp, _⟩ := hp.plain_inv
  have hplen : pvs.length = nums.length := by rw [hrp.length, List.length_map]
  have hr' := hr.stand
  obtain ⟨rA, rvs, rfl, hlr, hrr, _⟩ := hr'.plain_inv
  obtain ⟨tA, tvs, rfl, hlt, hrt, _⟩ := ht.plain_inv
  have hrlen : rvs.length = xs.length := by rw [hrr.length, List.length_map]
  have htlen : tvs.length = xs.length := by rw [hrt.length, List.length_map]
  refine wpAny_execs_cons ?_
  refine wpAny_Assign_Name ?_
  refine lc_eval rfl rfl (by decide) ?_
  refine nmL FS0 hparts ?_
  refine lc_listC (s := s) (P := fun a => True ∧ ∃ o, s.heap.get? a = some o) (fun _ => true) (fun i => (nums[i]?.map (toldD xs)).getD .none) R.hh (keeps_refl _) (plain_list hlp) (by omega) (fun a q => q.2) (by intro n; rfl) (by intro n; rfl) rfl (by intro c C; rfl) ?_ ?_ ?_
  · intro c C i v s5 m5 E5 ha kx hns hcl
    exact wpAny_tests_nil ⟨rfl, keeps_refl _⟩
  · intro c C i v s5 m5 E5 ha _ kx hns hcl
    obtain ⟨d, hd, rd⟩ := hrp.get ha
    rw [List.getElem?_map] at hd
    obtain ⟨x, hx, rfl⟩ := Option.map_eq_some_iff.mp hd
    rw [hx]
    have G5 := G1.ext kx
    have FS5 := FS0.ext kx
    refine lc_eval rfl rfl (by decide) ?_
    refine ev_ty G5 (by kernel_rfl) boot_zip ?_
    refine args_cons (nmC (fs_compC (h := s5.heap) hns hcl FS5 ⟨rfl, rfl, trivial⟩) ((if_neg (by decide)).trans hrows) ?_)
    refine args_cons (nmC (fs_compC (h := s5.heap) hns hcl FS5 ⟨rfl, rfl, trivial⟩) ((if_neg (by decide)).trans htexts) ?_)
    refine args_nil ?_
    refine lc_zip (s := s5) (P := fun a => True ∧ ∃ o, s.heap.get? a = some o) (fun j => match xs[j]? with | some r => goesB x (tcsOf r) | none => false) (fun j => (xs[j]?.map rowD).getD .none) R.hh (keeps_refl _) (plain_list (hlr.keeps kx)) (plain_list (hlt.keeps kx)) (by omega) (by omega)
      (fun a q => let ⟨o, e⟩ := q.2; ⟨o, kx _ _ e⟩) (by decide) rfl rfl rfl (by decide) ?_ ?_ ?_
    · intro C2 j v₁ v₂ s6 m6 E6 h1 h2 kx2 hns6 hm1 hm2
      obtain ⟨d2, hd2, rd2⟩ := hrt.get h2
      rw [List.getElem?_map] at hd2
      obtain ⟨r, hr2, rfl⟩ := Option.map_eq_some_iff.mp hd2
      obtain ⟨t2, rfl⟩ := Rd.str_inv rd2
      have G6 := G5.ext kx2
      refine wpAny_tests_one (isTrue_plain ?_)
      refine ev_own G6 (fnGoes w).2 rfl (by kernel_rfl) ?_
      refine args_cons (nmC (fs_comp (h := s6.heap) hns6 ((fs_compC (cl := [(PySem.Str.ofString "texts", S + 1 + 1 + 1), (PySem.Str.ofString "rows", S + 1 + 1)]) (h := s5.heap) hns hcl FS5 ⟨rfl, rfl, trivial⟩).ext kx2) ⟨rfl, trivial⟩) (if_pos rfl) ?_)
      refine args_cons (nmL (fs_comp (h := s6.heap) hns6 ((fs_compC (cl := [(PySem.Str.ofString "texts", S + 1 + 1 + 1), (PySem.Str.ofString "rows", S + 1 + 1)]) (h := s5.heap) hns hcl FS5 ⟨rfl, rfl, trivial⟩).ext kx2) ⟨rfl, trivial⟩) hm2 ?_)
      refine args_nil ⟨G6, ?_⟩
      rw [txt_tcs]
      refine goes_call (n := n) (x := x) G6 (R.le (by omega)) ((rd.ext kx).ext kx2) (tcs_len r) (tcs_128 r) fun s7 k7 => ?_
      refine wpAny_truthy_bool ⟨?_, k7⟩
      rw [hr2]
    · intro C2 j v₁ v₂ s6 m6 E6 h1 h2 _ kx2 hns6 hm1 hm2
      obtain ⟨d2, hd2, rd2⟩ := hrr.get h1
      rw [List.getElem?_map] at hd2
      obtain ⟨r, hr2, rfl⟩ := Option.map_eq_some_iff.mp hd2
      refine nmL (fs_comp (h := s6.heap) hns6 ((fs_compC (cl := [(PySem.Str.ofString "texts", S + 1 + 1 + 1), (PySem.Str.ofString "rows", S + 1 + 1)]) (h := s5.heap) hns hcl FS5 ⟨rfl, rfl, trivial⟩).ext kx2) ⟨rfl, trivial⟩) hm1 ?_
      refine ⟨?_, keeps_refl _⟩
      rw [hr2]
      exact ((rd2.ext kx).ext kx2).mono fun _ q => .inl q
    · intro s6 s' k' hC hns' hr''
      refine lc_post_none k' hC hns' hr'' fun v' s'' k'' rv' => ⟨?_, k''⟩
      rw [hrlen, range_filter_map xs (fun r => goesB x (tcsOf r)) rowD .none _ (fun i a e => by simp only [e])] at rv'
      exact rv'
  · intro s6 s' k' hC hns' hr''
    refine lc_post_none k' hC hns' hr'' fun v' s'' k'' rv' => ?_
    rw [List.filter_eq_self.mpr (fun _ _ => rfl), hplen, range_map] at rv'
    refine stC (icc_up F k'') fun s7 F7 sk7 => ?_
    exact h s7 _ v' F7 (fun y hy => if_neg hy) (if_pos rfl) ((rv'.sk sk7).mono fun _ _ => trivial) ((SK.ext (keeps_ext k'')).trans sk7)
end
end
section
abbrev sixD (x : Int) : PyData := dl .int (sixOf x)
section
variable {prog : Program} {w : World} {A : Around} {E : Value → Shared → Prop} {s₀ s : Shared} {mg mb : Str → Option Value} {n : Nat} {Q : Flow → Shared → Prop}
set_option maxHeartbeats 1000000 in
theorem law_5 {S : Nat} {m cm : Str → Option Value} {xs : List Int} {rv : Value} (hxs : xs.length ≤ 10) (G0 : Gl (KK w) mg mb s₀.heap) (R : Rm A (n + 10)) (F : InCallC s₀ (lawEnv w S).locals m (lawEnv w S).cells cm s)
    (hrows : cm "rows" = some rv) (hr : Rd AnyA s.heap rv (.list (xs.map rowD)))
    (h : ∀ s' cm' sv dv, InCallC s₀ (lawEnv w S).locals m (lawEnv w S).cells cm' s' → (∀ y : Str, y ≠ PySem.Str.ofString "sixes" → y ≠ PySem.Str.ofString "due" → cm' y = cm y) → cm' "sixes" = some sv → cm' "due" = some dv →
      Rd AnyA s'.heap sv (.list (xs.map sixD)) → Rd AnyA s'.heap dv (.list []) → SK s.heap s'.heap →
      wpAny (model prog w) A (execs ((bodyOf (fnLaw w).1).drop 9) (lawEnv w S)) Q E s') :
    wpAny (model prog w) A (execs ((bodyOf (fnLaw w).1).drop 8) (lawEnv w S)) Q E s := by
  have FS0 := icc_fs F
  have hln := sizeLine_eq
  have G1 := G0.ext (icc_ext F)
  obtain ⟨rA, rvs, rfl, hlr, hrr, _⟩ := hr.plain_inv
  refine wpAny_execs_cons ?_
  refine Assign_Tuple ?_
  refine Tuple_ (args_cons ?_)
  refine lc_eval rfl rfl (by decide) ?_
  refine nmC FS0 hrows ?_
  refine lc_map (P := AnyA) (P' := fun _ => False) (xs := xs) (f := rowD) (g := sixD) R.hh (plain_list hlr) hrr (by omega) (fun _ q => q.elim) ?_ ?_
  · intro C i x v s5 m5 E5 ha rv kx hns hm5
    have G5 := G1.ext kx
    obtain ⟨a, b, c, e, hA, hB, hC⟩ := octets_in x
    have e6 : sixOf x = sixes a b c := by unfold sixOf; rw [e]
    have rv' := rv
    unfold rowD dl at rv'
    rw [e] at rv'
    refine ev_own G5 (fnSixes w).2 rfl (by kernel_rfl) ?_
    refine args_cons (nmL (fs_comp (h := s5.heap) hns (FS0.ext kx) trivial) hm5 ?_)
    refine args_nil ⟨G5, ?_⟩
    refine sixes_call (n := n) G5 (R.le (by omega)) rv' fun v6 s6 k6 r6 => ?_
    unfold sixD dl
    rw [e6]
    exact ⟨r6.mono fun _ q => .inr q, k6⟩
  · intro sv s5 k5 rs
    refine args_cons (List_ (args_nil ?_))
    refine newList_ev fun dA s6 k6 hdA hl6 => ?_
    refine args_nil ?_
    refine newTupP_ev fun T s7 k7 hT7 hT => ?_
    have k07 := keeps_trans k5 (keeps_trans k6 k7)
    refine assign_Tuple_tuple R.hh hT rfl rfl fun h8 he8 => ?_
    have k8 : Ext s7.heap h8 := fun b o e => he8 b o (Nat.ne_of_lt (Heap.lt_size e)) e
    refine assignInOrder_cons (wpAny_assign_Name (stC (icc_up (icc_up F k07) (keeps_mk k8)) fun s9 F9 sk9 => ?_))
    refine assignInOrder_cons (wpAny_assign_Name (stC F9 fun s10 F10 sk10 => ?_))
    refine assignInOrder_nil ?_
    have sk59 : SK s5.heap s10.heap := ((SK.ext (keeps_ext (keeps_trans k6 k7))).trans (SK.ext k8)).trans (sk9.trans sk10)
    exact h s10 _ sv (.ref dA) F10 (fun y h1 h2 => (if_neg h2).trans (if_neg h1)) ((if_neg (by decide)).trans (if_pos rfl)) (if_pos rfl) ((rs.sk sk59).mono fun _ _ => trivial)
      (Rd.of_list trivial (plainL_sk ((hl6.keeps (keeps_ext k7)).keeps k8) (sk9.trans sk10)) .nil) ((SK.ext (keeps_ext k5)).trans sk59)
end
end
section
/-- the figures that a number asks for -/
def askd (x : Int) : List Nat := (List.range (if starred x then 2 else 4)).filter (bit x)
def dueB (x0 x r : Int) : Bool := ((askd x).filter fun k => !((sixOf r).getD k 0 == (sixOf x0).getD k 0)).isEmpty
abbrev dueD (x0 : Int) (xs : List Int) (x : Int) : PyData := .list ((xs.filter fun r => dueB x0 x r).map rowD)
end
section
section
variable {prog : Program} {w : World} {A : Around} {E : Value → Shared → Prop} {s₀ s : Shared} {mg mb : Str → Option Value} {n : Nat} {Q : Flow → Shared → Prop}
theorem starred_eq (x : Int) : ((x.fdiv 16).fmod 3 == 1) = starred x := rfl
theorem bit_eq (x : Int) (i : Nat) : ((x.fdiv (2 ^ ((i : Nat) : Int).toNat)).fmod 2 == 1) = bit x i := rfl
abbrev askD (x : Int) : PyData := .list ((askd x).map fun k => PyData.int (k : Nat))
noncomputable def forBody (w : World) : List PySem.Stmt := match (bodyOf (fnLaw w).1)[9]? with | some (PySem.Stmt.For _ _ b _ _) => b | _ => []

theorem ite_24 {M : Model} {env : Env} {b : Bool} {p q : Pos} {K : Value → Shared → Prop} (h : K (.int ((if b then 2 else 4 : Nat) : Int) s.toks) { s with toks := s.toks + 1 }) :
    if b = true then wpAny M A (eval (PySem.Expr.Constant (Const.int 2) 0 p) env) K E s else wpAny M A (eval (PySem.Expr.Constant (Const.int 4) 0 q) env) K E s := by
  cases b with
  | true => exact ite_tt' (wpAny_Constant_int h)
  | false => exact ite_ff' (wpAny_Constant_int h)
set_option maxHeartbeats 1000000 in
/-- asked = [k for k in range(..) if ..] -/
theorem law_6a {S : Nat} {m cm : Str → Option Value} {x : Int} {tx : Tok} (G0 : Gl (KK w) mg mb s₀.heap) (R : Rm A (n + 10)) (F : InCallC s₀ (lawEnv w S).locals m (lawEnv w S).cells cm s) (hx : cm "x" = some (.int x tx))
    (h : ∀ s' cm' av, InCallC s₀ (lawEnv w S).locals m (lawEnv w S).cells cm' s' → (∀ y : Str, y ≠ PySem.Str.ofString "asked" → cm' y = cm y) → cm' "asked" = some av → Rd AnyA s'.heap av (askD x) → SK s.heap s'.heap →
      wpAny (model prog w) A (execs ((forBody w).drop 1) (lawEnv w S)) Q E s') :
    wpAny (model prog w) A (execs (forBody w) (lawEnv w S)) Q E s := by
  have FS0 := icc_fs F
  have G1 := G0.ext (icc_ext F)
  refine wpAny_execs_cons ?_
  refine wpAny_Assign_Name ?_
  refine lc_eval rfl rfl (by decide) ?_
  refine ev_ty G1 (by kernel_rfl) boot_range ?_
  refine args_cons (wpAny_IfExp (wpAny_isTrue_Compare1 (wpAny_BinOp (wpAny_BinOp ?_))))
  refine nmC FS0 hx ?_
  repeat walk_at "my ev"
  refine PyProof.Rows.eq_int ?_
  refine wpAny_truthy_bool ?_
  rw [starred_eq]
  refine ite_24 ?_
  refine args_nil ?_
  refine call_range_1 ?_
  refine lc_range (s := { s with toks := s.toks + 1 + 1 + 1 + 1 }) (P := fun _ => False) (n := if starred x then 2 else 4) (bit x) (fun k => .int (k : Nat)) R.hh ⟨_, _, rfl, Ext.push _ _⟩ (IsRange.new _ _ _ _ _ _ _) (by have := sizeLine_eq; split <;> omega)
    (fun a q => q.elim) (by decide) rfl rfl ?_ ?_ ?_
  · intro C i t s4 m E'' hi kx hns hm
    have FS4 := FS0.ext kx
    have hi4 : i < 4 := by
      split at hi <;> omega
    have hp : (1 : Int) ≤ 2 ^ ((i : Nat) : Int).toNat ∧ (2 : Int) ^ ((i : Nat) : Int).toNat ≤ 8 := by
      have h4 : i = 0 ∨ i = 1 ∨ i = 2 ∨ i = 3 := by omega
      rcases h4 with rfl | rfl | rfl | rfl <;> decide
    refine wpAny_tests_one (wpAny_isTrue_Compare1 (wpAny_BinOp (wpAny_BinOp ?_)))
    refine nmC (fs_comp (h := s4.heap) hns FS4 ⟨rfl, trivial⟩) hx ?_
    refine wpAny_BinOp (wpAny_Constant_int ?_)
    refine nmL (fs_comp (h := s4.heap) hns FS4 ⟨rfl, trivial⟩) hm ?_
    refine pow_int_small (by omega) (by omega) (by decide) ?_
    refine floordiv_int (by omega) ?_ (Or.inl (PyProof.noPylong_small (by omega)))
    refine wpAny_Constant_int ?_
    refine PyProof.Rows.mod_int' (by decide) ?_
    refine wpAny_Constant_int ?_
    refine PyProof.Rows.eq_int ?_
    refine wpAny_truthy_bool ?_
    exact ⟨bit_eq x i, keeps_trans keeps_tok (keeps_trans keeps_tok (keeps_trans keeps_tok (keeps_trans keeps_tok (keeps_trans keeps_tok keeps_tok))))⟩
  · intro C i t s4 m E'' hi _ kx hns hm
    have FS4 := FS0.ext kx
    refine nmL (fs_comp (h := s4.heap) hns FS4 ⟨rfl, trivial⟩) hm ?_
    exact ⟨.int _ _, keeps_refl _⟩
  · intro s5 s' k' hC hns' hr'
    refine lc_post_none k' hC hns' hr' fun v s'' k'' rv' => ?_
    refine stC (icc_up F (keeps_trans keeps_tok k'')) fun s7 F7 sk7 => ?_
    exact h s7 _ v F7 (fun y hy => if_neg hy) (if_pos rfl) ((rv'.sk sk7).mono fun _ _ => trivial) ((SK.ext (keeps_ext k'')).trans sk7)
end
end
section
section
variable {prog : Program} {w : World} {A : Around} {E : Value → Shared → Prop} {s₀ s : Shared} {mg mb : Str → Option Value} {n : Nat} {Q : Flow → Shared → Prop}
theorem six_len (x : Int) : (sixOf x).length = 4 := by
  obtain ⟨a, b, c, e, _⟩ := octets_in x
  unfold sixOf
  rw [e]; rfl
theorem ask_lt {x : Int} {k : Nat} (h : k ∈ askd x) : k < 4 := by
  have := (List.mem_filter.mp h).1
  have := List.mem_range.mp this
  split at this <;> omega
def offd (x0 x r : Int) : List Nat := (askd x).filter fun k => !((sixOf r).getD k 0 == (sixOf x0).getD k 0)
theorem rd_int_at {P : Addr → Prop} {h : Heap} {vs : List Value} {l : List Int} (r : Rds P h vs (l.map PyData.int)) {k : Nat} (hk : k < l.length) : ∃ t, vs[k]? = some (.int (l.getD k 0) t) := by
  obtain ⟨v, hv, rv⟩ := r.at (k := k) (d := .int (l.getD k 0)) (by simp [hk])
  obtain ⟨t, rfl⟩ := rv.int_inv
  exact ⟨t, hv⟩

set_option maxHeartbeats 2000000 in
/-- due = due + [[row for row, six in zip(rows, sixes) if [k for k in asked if ..] == []]] -/
theorem law_6b {S : Nat} {m cm : Str → Option Value} {x x0 : Int} {xs : List Int} {ds : List PyData} {av rv sv dv : Value} (hxs : xs.length ≤ 10) (h0 : xs[0]? = some x0) (G0 : Gl (KK w) mg mb s₀.heap) (R : Rm A (n + 10)) (F : InCallC s₀ (lawEnv w S).locals m (lawEnv w S).cells cm s)
    (hrows : cm "rows" = some rv) (hr : Rd AnyA s.heap rv (.list (xs.map rowD))) (hsix : cm "sixes" = some sv) (hs : Rd AnyA s.heap sv (.list (xs.map sixD))) (hask : cm "asked" = some av) (ha : Rd AnyA s.heap av (askD x))
    (hdue : cm "due" = some dv) (hd : Rd AnyA s.heap dv (.list ds)) (hds : ds.length ≤ 100)
    (h : ∀ s' cm' dv', InCallC s₀ (lawEnv w S).locals m (lawEnv w S).cells cm' s' → (∀ y : Str, y ≠ PySem.Str.ofString "due" → cm' y = cm y) → cm' "due" = some dv' → Rd AnyA s'.heap dv' (.list (ds ++ [dueD x0 xs x])) → SK s.heap s'.heap →
      Q .next s') :
    wpAny (model prog w) A (execs ((forBody w).drop 1) (lawEnv w S)) Q E s := by
  have FS0 := icc_fs F
  have G1 := G0.ext (icc_ext F)
  have hln := sizeLine_eq
  have hr' := hr.stand
  obtain ⟨rA, rvs, rfl, hlr, hrr, _⟩ := hr'.plain_inv
  obtain ⟨sA, svs, rfl, hls, hrs, _⟩ := hs.plain_inv
  obtain ⟨aA, avs, rfl, hla, hra, _⟩ := ha.plain_inv
  obtain ⟨dA, dvs, rfl, hld, hrd, _⟩ := hd.plain_inv
  have hrlen : rvs.length = xs.length := by rw [hrr.length, List.length_map]
  have hslen : svs.length = xs.length := by rw [hrs.length, List.length_map]
  have halen : avs.length = (askd x).length := by rw [hra.length, List.length_map]
  have hdlen : dvs.length = ds.length := hrd.length
  have ha4 : (askd x).length ≤ 4 := by
    have := List.length_filter_le (bit x) (List.range (if starred x then 2 else 4))
    rw [List.length_range] at this
    unfold askd
    split at this <;> simp_all <;> omega
  obtain ⟨v0, hv0, r0⟩ := hrs.at (k := 0) (d := sixD x0) (by rw [List.getElem?_map, h0]; rfl)
  obtain ⟨zA, zvs, rfl, hlz, hrz, _⟩ := r0.plain_inv
  refine wpAny_execs_cons ?_
  refine wpAny_Assign_Name ?_
  refine wpAny_BinOp ?_
  refine nmC FS0 hdue ?_
  refine List_ (args_cons ?_)
  refine lc_eval rfl rfl (by decide) ?_
  refine ev_ty G1 (by kernel_rfl) boot_zip ?_
  refine args_cons (nmC FS0 hrows ?_)
  refine args_cons (nmC FS0 hsix ?_)
  refine args_nil ?_
  refine lc_zipC (s := s) (P := fun a => True ∧ ∃ o, s.heap.get? a = some o) (fun j => match xs[j]? with | some r => dueB x0 x r | none => false) (fun j => (xs[j]?.map rowD).getD .none) R.hh (keeps_refl _) (plain_list hlr) (plain_list hls) (by omega) (by omega)
      (fun a q => q.2) (by intro n; rfl) (by intro n; rfl) rfl (by intro c C; rfl) (by intro c C; rfl) ?_ ?_ ?_
  · intro c C j v₁ v₂ s5 m5 E5 h1 h2 kx hns hm1 hcl
    obtain ⟨d2, hd2, rd2⟩ := hrs.get h2
    rw [List.getElem?_map] at hd2
    obtain ⟨r, hr2, rfl⟩ := Option.map_eq_some_iff.mp hd2
    obtain ⟨yA, yvs, rfl, hly, hry, _⟩ := rd2.plain_inv
    have G5 := G1.ext kx
    have FS5 := FS0.ext kx
    refine wpAny_tests_one (wpAny_isTrue_Compare1 ?_)
    refine lc_eval rfl rfl (by decide) ?_
    have FC := fs_compC (scope := PySem.Scope.mk .function [(PySem.Str.ofString ".0", .local), (PySem.Str.ofString "row", .local), (PySem.Str.ofString "six", .cell), (PySem.Str.ofString "asked", .free), (PySem.Str.ofString "sixes", .free)] false false []) (x := PySem.Str.ofString "six") (cl := [(PySem.Str.ofString "sixes", S + 1 + 1 + 1 + 1 + 1), (PySem.Str.ofString "asked", S + 1 + 1 + 1 + 1 + 1 + 1 + 1)]) (h := s5.heap) hns hcl FS5 ⟨rfl, rfl, trivial⟩
    refine nmC FC ((if_neg (by decide)).trans hask) ?_
    refine lc_list (s := s5) (P := fun _ => False) (fun i => match (askd x)[i]? with | some k => !((sixOf r).getD k 0 == (sixOf x0).getD k 0) | none => false) (fun i => ((askd x)[i]?.map fun k => PyData.int (k : Nat)).getD .none) R.hh (keeps_refl _) (plain_list (hla.keeps kx)) (by omega) (fun _ q => q.elim) (by decide) rfl rfl ?_ ?_ ?_
    · intro C2 i v s6 m6 E6 hi kx2 hns6 hm6
      obtain ⟨d, hd', rd⟩ := hra.get hi
      rw [List.getElem?_map] at hd'
      obtain ⟨k, hk, rfl⟩ := Option.map_eq_some_iff.mp hd'
      obtain ⟨tk, rfl⟩ := rd.int_inv
      have hk4 := ask_lt (List.mem_of_getElem? hk)
      obtain ⟨t1, e1⟩ := rd_int_at hry (k := k) (by rw [six_len]; exact hk4)
      obtain ⟨t2, e2⟩ := rd_int_at hrz (k := k) (by rw [six_len]; exact hk4)
      have k6 := kx.trans kx2
      refine wpAny_tests_one (wpAny_isTrue_Compare1 ?_)
      refine Subscript_ ?_
      refine nmC (fs_comp (h := s6.heap) hns6 (FC.ext kx2) ⟨rfl, rfl, trivial⟩) (if_pos rfl) ?_
      refine nmL (fs_comp (h := s6.heap) hns6 (FC.ext kx2) ⟨rfl, rfl, trivial⟩) hm6 ?_
      refine sub_item (plain_list (hly.keeps k6)) (by simpa using e1) ?_ (by omega) (by omega)
      refine Subscript_ (Subscript_ ?_)
      refine nmC (fs_comp (h := s6.heap) hns6 (FC.ext kx2) ⟨rfl, rfl, trivial⟩) ((if_neg (by decide)).trans hsix) ?_
      refine wpAny_Constant_int ?_
      refine sub_item (plain_list (hls.keeps k6)) (by simpa using hv0) ?_
      refine nmL (fs_comp (h := s6.heap) hns6 (FC.ext kx2) ⟨rfl, rfl, trivial⟩) hm6 ?_
      refine sub_item (plain_list (hlz.keeps k6)) (by simpa using e2) ?_ (by omega) (by omega)
      refine PyProof.Rows.ne_int ?_
      refine wpAny_truthy_bool ⟨?_, keeps_tok⟩
      rw [hk]; rfl
    · intro C2 i v s6 m6 E6 hi _ kx2 hns6 hm6
      obtain ⟨d, hd', rd⟩ := hra.get hi
      rw [List.getElem?_map] at hd'
      obtain ⟨k, hk, rfl⟩ := Option.map_eq_some_iff.mp hd'
      obtain ⟨tk, rfl⟩ := rd.int_inv
      refine nmL (fs_comp (h := s6.heap) hns6 (FC.ext kx2) ⟨rfl, rfl, trivial⟩) hm6 ⟨?_, keeps_refl _⟩
      rw [hk]
      exact .int _ _
    · intro s6 s' k' hC hns' hr''
      refine lc_post_none k' hC hns' hr'' fun v' s'' k'' rv' => ?_
      rw [halen, range_filter_map (askd x) (fun k => !((sixOf r).getD k 0 == (sixOf x0).getD k 0)) (fun k => PyData.int (k : Nat)) .none _ (fun i a e => by simp only [e])] at rv'
      have e : (((askd x).filter fun k => !((sixOf r).getD k 0 == (sixOf x0).getD k 0)).map fun k => PyData.int (k : Nat)) = ((offd x0 x r).map fun k : Nat => (k : Int)).map PyData.int := by
        rw [List.map_map]; rfl
      rw [e] at rv'
      refine List_ (args_nil ?_)
      refine newList_ev fun b s7 k7 hb hl7 => ?_
      refine eq_rd emb_int.list R (a := (offd x0 x r).map fun k : Nat => (k : Int)) (b := []) (rv'.ext (keeps_ext k7)) (Rd.of_list (P := AnyA) trivial hl7 .nil) ?_
      refine wpAny_truthy_bool ⟨?_, keeps_trans k'' k7⟩
      rw [hr2]
      show (((offd x0 x r).map fun k : Nat => (k : Int)) == []) = (offd x0 x r).isEmpty
      cases offd x0 x r <;> rfl
  · intro c C j v₁ v₂ s6 m6 E6 h1 h2 _ kx2 hns6 hm1 hcl
    obtain ⟨d2, hd2, rd2⟩ := hrr.get h1
    rw [List.getElem?_map] at hd2
    obtain ⟨r, hr2, rfl⟩ := Option.map_eq_some_iff.mp hd2
    have FC := fs_compC (scope := PySem.Scope.mk .function [(PySem.Str.ofString ".0", .local), (PySem.Str.ofString "row", .local), (PySem.Str.ofString "six", .cell), (PySem.Str.ofString "asked", .free), (PySem.Str.ofString "sixes", .free)] false false []) (x := PySem.Str.ofString "six") (cl := [(PySem.Str.ofString "sixes", S + 1 + 1 + 1 + 1 + 1), (PySem.Str.ofString "asked", S + 1 + 1 + 1 + 1 + 1 + 1 + 1)]) (h := s6.heap) hns6 hcl (FS0.ext kx2) ⟨rfl, rfl, trivial⟩
    refine nmL FC hm1 ⟨?_, keeps_refl _⟩
    rw [hr2]
    exact (rd2.ext kx2).mono fun _ q => .inl q
  · intro s5 s' k' hC hns' hr''
    refine lc_post_none k' hC hns' hr'' fun v' s'' k'' rv' => ?_
    rw [hrlen, range_filter_map xs (fun r => dueB x0 x r) rowD .none _ (fun i a e => by simp only [e])] at rv'
    refine args_nil ?_
    refine newList_ev fun b s6 k6 hb hl6 => ?_
    have k06 := keeps_trans k'' k6
    refine add_tail (plain_list (hld.keeps (keeps_ext k06))) (plain_list hl6) (fun eA s7 k7 heA hl7 => ?_) (by simp; omega)
    have k07 := keeps_trans k06 k7
    refine stC (icc_up F k07) fun s8 F8 sk8 => ?_
    refine wpAny_execs_nil ?_
    refine h s8 _ (.ref eA) F8 (fun y hy => if_neg hy) (if_pos rfl) ?_ ((SK.ext (keeps_ext k07)).trans sk8)
    refine Rd.of_list trivial (plainL_sk hl7 sk8) (((hrd.ext (keeps_ext k07)).sk sk8).append (.cons ?_ .nil))
    exact ((rv'.ext (keeps_ext (keeps_trans k6 k7))).sk sk8).mono fun _ _ => trivial
end
end
section
section
variable {prog : Program} {w : World} {A : Around} {E : Value → Shared → Prop} {s₀ s : Shared} {mg mb : Str → Option Value} {n : Nat} {Q : Flow → Shared → Prop}
set_option maxHeartbeats 1000000 in
theorem law_6 {S : Nat} {m cm : Str → Option Value} {x0 : Int} {xs nums : List Int} {nv rv sv dv : Value} (hnl : nums.length ≤ 10) (hxs : xs.length ≤ 10) (h0 : xs[0]? = some x0) (G0 : Gl (KK w) mg mb s₀.heap) (R : Rm A (n + 10)) (F : InCallC s₀ (lawEnv w S).locals m (lawEnv w S).cells cm s)
    (hnums : m "numbers" = some nv) (hn : Rd AnyA s.heap nv (dl .int nums)) (hrows : cm "rows" = some rv) (hr : Rd AnyA s.heap rv (.list (xs.map rowD))) (hsix : cm "sixes" = some sv) (hs : Rd AnyA s.heap sv (.list (xs.map sixD)))
    (hdue : cm "due" = some dv) (hd : Rd AnyA s.heap dv (.list []))
    (h : ∀ s' cm' dv', InCallC s₀ (lawEnv w S).locals m (lawEnv w S).cells cm' s' → (∀ y : Str, y ≠ PySem.Str.ofString "x" → y ≠ PySem.Str.ofString "asked" → y ≠ PySem.Str.ofString "due" → cm' y = cm y) → cm' "due" = some dv' →
      Rd AnyA s'.heap dv' (.list (nums.map (dueD x0 xs))) → SK s.heap s'.heap →
      wpAny (model prog w) A (execs ((bodyOf (fnLaw w).1).drop 10) (lawEnv w S)) Q E s') :
    wpAny (model prog w) A (execs ((bodyOf (fnLaw w).1).drop 9) (lawEnv w S)) Q E s := by
  have FS0 := icc_fs F
  have G1 := G0.ext (icc_ext F)
  have hln := sizeLine_eq
  obtain ⟨a, vs, rfl, hl, hrn, _⟩ := hn.plain_inv
  have hlen : vs.length = nums.length := by rw [hrn.length, List.length_map]
  refine wpAny_execs_cons (wpAny_For ?_)
  refine nmL FS0 hnums ?_
  refine wpAny_pyIter_list (plain_list hl) ?_
  obtain ⟨I, hI⟩ : ∃ I, s.heap.objs.size = I := ⟨_, rfl⟩
  have fI : s.heap.get? I = none := hI ▸ fresh_none (Nat.le_refl _)
  have fI0 : s₀.heap.get? I = none := none_back (icc_ext F) fI
  have kI : Keeps s { s with heap := s.heap.push { cls := .type "list_iterator", data := .fields #[.ref a, .int 0 0] } } := ⟨_, s.toks, rfl, Ext.push _ _⟩
  have hit4 : (s.heap.push { cls := .type "list_iterator", data := .fields #[.ref a, .int 0 0] }).IsListIter I a 0 := hI ▸ ⟨_, Heap.get?_push_size _ rfl, rfl, rfl⟩
  rw [hI]
  refine for_inv nums.length (fun i s' => ∃ cm' dv', InCallC s₀ (lawEnv w S).locals m (lawEnv w S).cells cm' s' ∧ (∀ y : Str, y ≠ PySem.Str.ofString "x" → y ≠ PySem.Str.ofString "asked" → y ≠ PySem.Str.ofString "due" → cm' y = cm y) ∧ cm' "due" = some dv' ∧
    s'.heap.IsListIter I a i ∧ Rd AnyA s'.heap dv' (.list ((nums.take i).map (dueD x0 xs))) ∧ SK s.heap s'.heap) ?_ ?_ (by intro _; rfl) ⟨cm, dv, icc_up F kI, fun _ _ _ _ => rfl, hdue, hit4, hd.ext (keeps_ext kI), SK.ext (keeps_ext kI)⟩
  · rintro i s5 E5 hi ⟨cm5, dv5, F5, hc5, hd5, hit5, rd5, sk5⟩
    obtain ⟨v, hv, rv'⟩ := hrn.at (k := i) (d := .int nums[i]) (by simp [hi])
    obtain ⟨tx, rfl⟩ := rv'.int_inv
    have hla5 : s5.heap.IsList a vs.toArray := isList_sk (plain_list hl) sk5
    refine wpAny_pyNext_list_item hit5 hla5 (x := .int nums[i] tx) (by simpa using hv) fun h6 hit6 hs6 => ?_
    dsimp only
    have F6 := icc_liter (tk := s5.toks) F5 hit5 fI0 hs6.extBut
    have sk56 : ∀ b o, b ≠ I → s5.heap.get? b = some o → h6.get? b = some o := fun b o hb e => hs6.extBut b o hb e
    have sk06 : SK s.heap h6 := fun b o e h1 h2 => sk56 b o (fun q => by rw [q, fI] at e; cases e) (sk5 b o e h1 h2)
    have rd6 : Rd AnyA h6 dv5 (.list ((nums.take i).map (dueD x0 xs))) := rd5.imp (fun _ p => p) fun b o vs n _ e hdat => sk56 b o (fun q => by
      obtain ⟨o', e', _, d'⟩ := hit5
      rw [q, e'] at e; cases e; rw [d'] at hdat; cases hdat) e
    refine wpAny_assign_Name (stC F6 fun s7 F7 sk7 => ?_)
    have sk07 := sk06.trans sk7
    refine law_6a G0 R F7 (if_pos rfl) fun s8 cm8 av F8 hc8 hav rav sk8 => ?_
    have sk08 := sk07.trans sk8
    have hc08 : ∀ y : Str, y ≠ PySem.Str.ofString "x" → y ≠ PySem.Str.ofString "asked" → cm8 y = cm5 y := fun y h1 h2 => (hc8 y h2).trans (if_neg h1)
    refine law_6b (x0 := x0) (xs := xs) hxs h0 G0 R F8 (((hc08 _ (by decide) (by decide)).trans (hc5 _ (by decide) (by decide) (by decide))).trans hrows) (hr.sk sk08)
      (((hc08 _ (by decide) (by decide)).trans (hc5 _ (by decide) (by decide) (by decide))).trans hsix) (hs.sk sk08) hav rav ((hc08 _ (by decide) (by decide)).trans hd5) ((rd6.sk sk7).sk sk8) (by simp; omega) fun s9 cm9 dv9 F9 hc9 hd9 rd9 sk9 => ?_
    refine ⟨.inl rfl, cm9, dv9, F9, fun y h1 h2 h3 => ((hc9 y h3).trans (hc08 y h1 h2)).trans (hc5 y h1 h2 h3), hd9, isListIter_sk hit6 ((sk7.trans sk8).trans sk9), ?_, sk08.trans sk9⟩
    have ein : nums.take (i + 1) = nums.take i ++ [nums[i]] := by rw [List.take_add_one, List.getElem?_eq_getElem hi]; rfl
    rw [ein, List.map_append]
    exact rd9
  · rintro s5 E5 ⟨cm5, dv5, F5, hc5, hd5, hit5, rd5, sk5⟩
    have hla5 : s5.heap.IsList a vs.toArray := isList_sk (plain_list hl) sk5
    refine wpAny_pyNext_list_end R.hh hit5 hla5 (by simp [hlen]) fun h6 he6 => ?_
    dsimp only
    have F6 := icc_liter (tk := s5.toks) F5 hit5 fI0 he6
    refine wpAny_execs_nil ?_
    have rd6 : Rd AnyA h6 dv5 (.list ((nums.take nums.length).map (dueD x0 xs))) := rd5.imp (fun _ p => p) fun b o vs n _ e hdat => he6 b o (fun q => by
      obtain ⟨o', e', _, d'⟩ := hit5
      rw [q, e'] at e; cases e; rw [d'] at hdat; cases hdat) e
    rw [List.take_of_length_le (Nat.le_refl _)] at rd6
    exact h _ cm5 dv5 F6 hc5 hd5 rd6 fun b o e h1 h2 => he6 b o (fun q => by rw [q, fI] at e; cases e) (sk5 b o e h1 h2)
end
end
section
/-! ## the plain law: told is due -/
abbrev X0 : Int := 5235792
theorem empty2 (p : Nat → Bool) : ((List.range 2).filter p).isEmpty = (!p 0 && !p 1) := by
  show (List.filter p [0, 1]).isEmpty = _
  cases h0 : p 0 <;> cases h1 : p 1 <;> simp [List.filter_cons, h0, h1]
theorem empty4 (p : Nat → Bool) : ((List.range 4).filter p).isEmpty = (!p 0 && !p 1 && !p 2 && !p 3) := by
  show (List.filter p [0, 1, 2, 3]).isEmpty = _
  cases h0 : p 0 <;> cases h1 : p 1 <;> cases h2 : p 2 <;> cases h3 : p 3 <;> simp [List.filter_cons, h0, h1, h2, h3]
theorem fit_all : ((List.range 4).all fun k => (List.range 64).all fun i => fits (esc (t0.getD k 0)) (alph i) == ((i : Int) == (sixOf X0).getD k 0)) = true := by decide +kernel
theorem fit_sign {k : Nat} {i : Int} (hk : k < 4) (hi : 0 ≤ i ∧ i < 64) : fits (esc (t0.getD k 0)) (alph i.toNat) = (i == (sixOf X0).getD k 0) := by
  have h := List.all_eq_true.mp (List.all_eq_true.mp fit_all k (List.mem_range.mpr hk)) i.toNat (List.mem_range.mpr (by omega))
  have e : ((i.toNat : Nat) : Int) = i := by omega
  rw [e] at h
  exact beq_iff_eq.mp h
theorem fit_pk (x : Int) {k : Nat} {i : Int} (hk : k < 4) (hi : 0 ≤ i ∧ i < 64) : fits (pk x k) (alph i.toNat) = (!bit x k || (i == (sixOf X0).getD k 0)) := by
  unfold pk
  cases hb : bit x k with
  | true =>
    rw [if_pos rfl, fit_sign hk hi]
    rfl
  | false =>
    rw [if_neg Bool.false_ne_true]
    unfold fits
    rw [beq_self_eq_true]
    rfl
theorem goes_due (x r : Int) : goesB x (tcsOf r) = dueB X0 x r := by
  obtain ⟨a, b, c, e, _⟩ := octets_in r
  obtain ⟨i0, i1, i2, i3, es⟩ : ∃ i0 i1 i2 i3, sixOf r = [i0, i1, i2, i3] := by
    unfold sixOf
    rw [e]
    exact ⟨_, _, _, _, rfl⟩
  have hin := sixOf_in r
  rw [es] at hin
  have h0 := hin i0 (by simp)
  have h1 := hin i1 (by simp)
  have h2 := hin i2 (by simp)
  have h3 := hin i3 (by simp)
  unfold goesB dueB askd pks tcsOf
  rw [es]
  cases hst : starred x with
  | true =>
    simp only [if_true]
    show flat [pk x 0, pk x 1] [alph i0.toNat, alph i1.toNat] = _
    unfold flat
    rw [List.filter_filter, empty2]
    show (true && ((List.range 2).filter (flatI [pk x 0, pk x 1] [alph i0.toNat, alph i1.toNat])).isEmpty) = _
    rw [empty2]
    show (true && (!(!fits (pk x 0) (alph i0.toNat)) && !(!fits (pk x 1) (alph i1.toNat)))) = (!(!(i0 == (sixOf X0).getD 0 0) && bit x 0) && !(!(i1 == (sixOf X0).getD 1 0) && bit x 1))
    rw [fit_pk x (by decide) h0, fit_pk x (by decide) h1]
    cases bit x 0 <;> cases bit x 1 <;> cases (i0 == (sixOf X0).getD 0 0) <;> cases (i1 == (sixOf X0).getD 1 0) <;> rfl
  | false =>
    simp only [Bool.false_eq_true, if_false]
    show flat [pk x 0, pk x 1, pk x 2, pk x 3] [alph i0.toNat, alph i1.toNat, alph i2.toNat, alph i3.toNat] = _
    unfold flat
    rw [List.filter_filter, empty4]
    show (true && ((List.range 4).filter (flatI [pk x 0, pk x 1, pk x 2, pk x 3] [alph i0.toNat, alph i1.toNat, alph i2.toNat, alph i3.toNat])).isEmpty) = _
    rw [empty4]
    show (true && (!(!fits (pk x 0) (alph i0.toNat)) && !(!fits (pk x 1) (alph i1.toNat)) && !(!fits (pk x 2) (alph i2.toNat)) && !(!fits (pk x 3) (alph i3.toNat)))) =
      (!(!(i0 == (sixOf X0).getD 0 0) && bit x 0) && !(!(i1 == (sixOf X0).getD 1 0) && bit x 1) && !(!(i2 == (sixOf X0).getD 2 0) && bit x 2) && !(!(i3 == (sixOf X0).getD 3 0) && bit x 3))
    rw [fit_pk x (by decide) h0, fit_pk x (by decide) h1, fit_pk x (by decide) h2, fit_pk x (by decide) h3]
    cases bit x 0 <;> cases bit x 1 <;> cases bit x 2 <;> cases bit x 3 <;> cases (i0 == (sixOf X0).getD 0 0) <;> cases (i1 == (sixOf X0).getD 1 0) <;> cases (i2 == (sixOf X0).getD 2 0) <;> cases (i3 == (sixOf X0).getD 3 0) <;> rfl

/-! ## the lists of rows, as lists of ints -/
def rowsOf (xs : List Int) (x : Int) : List (List Int) := (xs.filter fun r => dueB X0 x r).map octets
theorem dueD_eq (xs : List Int) (x : Int) : dueD X0 xs x = dl (dl .int) (rowsOf xs x) := by
  unfold dueD dl rowsOf
  rw [List.map_map]; rfl
theorem toldD_eq (xs : List Int) (x : Int) : toldD xs x = dueD X0 xs x := by
  unfold toldD dueD
  have e : (fun r => goesB x (tcsOf r)) = fun r => dueB X0 x r := funext fun r => goes_due x r
  rw [e]
theorem rows_len (xs : List Int) (x : Int) : (rowsOf xs x).length ≤ xs.length := by
  unfold rowsOf
  rw [List.length_map]
  exact List.length_filter_le _ _
theorem firsts_more {α : Type} [BEq α] [LawfulBEq α] (l : List α) : ∀ m : List α, (∀ x ∈ m, x ∈ l) → firsts (l ++ m) = firsts l := by
  intro m
  refine snocInd (C := fun m => (∀ x ∈ m, x ∈ l) → firsts (l ++ m) = firsts l) (fun _ => by rw [List.append_nil]) (fun m y ih h => ?_) m
  rw [← List.append_assoc, firsts_snoc, ih fun x hx => h x (List.mem_append_left _ hx)]
  rw [if_pos]
  rw [List.contains_iff_mem]
  exact (mem_firsts l y).mpr (h y (by simp))
theorem firsts_thrice {α : Type} [BEq α] [LawfulBEq α] (l : List α) : firsts (l ++ l ++ l.reverse) = firsts l := by
  rw [List.append_assoc]
  refine firsts_more l _ fun x hx => ?_
  rcases List.mem_append.mp hx with h | h
  · exact h
  · exact List.mem_reverse.mp h
end
section
section
variable {prog : Program} {w : World} {A : Around} {E : Value → Shared → Prop} {s₀ s : Shared} {mg mb : Str → Option Value} {n : Nat} {Q : Flow → Shared → Prop}
theorem dl_map {α β : Type} (f : β → PyData) (g : α → β) (l : List α) : PyData.list (l.map fun x => f (g x)) = dl f (l.map g) := by
  unfold dl
  rw [List.map_map]; rfl
theorem firsts_len {α : Type} [BEq α] [LawfulBEq α] : ∀ l : List α, (firsts l).length ≤ l.length := by
  refine snocInd (by simp [firsts]) fun l y ih => ?_
  rw [firsts_snoc]
  split <;> simp <;> omega

/-- l[::-1] -/
theorem rev_tail {s : Shared} {Q : Value → Shared → Prop} {value slice : PySem.Expr} {l : Addr} {vs : List Value} {ops : List Value} {tk : Tok} (hl : s.heap.IsList l vs.toArray)
    (h : ∀ a s', Keeps s s' → s.heap.get? a = none → PlainL s'.heap a vs.reverse.toArray → Q (.ref a) s') (hsz : vs.length ≤ sizeLine)
    (hs : subscripted slice false (.ref l) (.ref s.heap.objs.size) = operate ops (getItem (.ref l) (.ref s.heap.objs.size)) := by with_unfolding_all rfl)
    (ht : ∀ r, letTemporaryGo value (.ref l) r = pure () := by intro _; with_unfolding_all rfl) :
    wpAny (model prog w) A (subscriptTail value slice (.ref l) (.ref s.heap.objs.size)) Q E { s with heap := s.heap.push { cls := .type "slice", data := .fields #[.none, .none, .int (-1) tk] } } :=
  slice_tail (ws := vs.reverse) hl .none .none (.int _ _) (by simp) (by rw [krv_pick]) h hsz hs ht

set_option maxHeartbeats 2000000 in
theorem law_7 {S : Nat} {m cm : Str → Option Value} {xs nums : List Int} {tv dv : Value} (hnl : nums.length ≤ 10) (hxs : xs.length ≤ 10) (G0 : Gl (KK w) mg mb s₀.heap) (R : Rm A (n + 10)) (F : InCallC s₀ (lawEnv w S).locals m (lawEnv w S).cells cm s)
    (htold : cm "told" = some tv) (ht : Rd AnyA s.heap tv (.list (nums.map (toldD xs)))) (hdue : cm "due" = some dv) (hd : Rd AnyA s.heap dv (.list (nums.map (dueD X0 xs))))
    (h : ∀ s', InCallC s₀ (lawEnv w S).locals m (lawEnv w S).cells cm s' → Keeps s s' → 
      wpAny (model prog w) A (execs ((bodyOf (fnLaw w).1).drop 11) (lawEnv w S)) Q E s') :
    wpAny (model prog w) A (execs ((bodyOf (fnLaw w).1).drop 10) (lawEnv w S)) Q E s := by
  have FS0 := icc_fs F
  have G1 := G0.ext (icc_ext F)
  have hln := sizeLine_eq
  have e1 : nums.map (toldD xs) = nums.map fun x => dl (dl PyData.int) (rowsOf xs x) := List.map_congr_left fun x _ => (toldD_eq xs x).trans (dueD_eq xs x)
  have e2 : nums.map (dueD X0 xs) = nums.map fun x => dl (dl PyData.int) (rowsOf xs x) := List.map_congr_left fun x _ => dueD_eq xs x
  rw [e1] at ht
  rw [e2] at hd
  have ht' := ht.stand
  have hd' := hd.stand
  obtain ⟨tA, tvs, rfl, hlt, hrt, _⟩ := ht'.plain_inv
  obtain ⟨dA, dvs, rfl, hld, hrd, _⟩ := hd'.plain_inv
  refine wpAny_execs_cons (wpAny_If (wpAny_isTrue_BoolOp (wpAny_allTrue_Or_cons (wpAny_isTrue_Compare1 ?_))))
  refine nmC FS0 htold ?_
  refine nmC FS0 hdue ?_
  rw [dl_map] at ht hd
  refine ne_rd emb_int.list.list.list R ht hd ?_
  rw [beq_self_eq_true]
  refine wpAny_truthy_bool (ite_ff' (wpAny_allTrue_Or_cons (wpAny_isTrue_Compare1 ?_)))
  refine lc_eval rfl rfl (by decide) ?_
  refine nmC FS0 htold ?_
  refine lc_map (P := fun a => True ∧ ∃ o, s.heap.get? a = some o) (P' := fun a => True ∧ ∃ o, s.heap.get? a = some o) (xs := nums) (f := fun x => dl (dl PyData.int) (rowsOf xs x)) (g := fun x => dl (dl PyData.int) (firsts (rowsOf xs x))) R.hh (plain_list hlt) hrt (by omega) (fun _ q => q.2) ?_ ?_
  · intro C i x v s5 m5 E5 ha rv kx hns hm5
    have G5 := G1.ext kx
    have hz := rows_len xs x
    obtain ⟨va, ws, rfl, hlw, hrw, _⟩ := rv.plain_inv
    have hwl : ws.length = (rowsOf xs x).length := by rw [hrw.length, List.length_map]
    refine ev_own G5 (fnDedup w).2 rfl (by kernel_rfl) ?_
    refine args_cons (wpAny_BinOp (wpAny_BinOp ?_))
    refine nmL (fs_comp (h := s5.heap) hns (FS0.ext kx) trivial) hm5 ?_
    refine wpAny_Constant_int ?_
    refine twice_tail (s := { s5 with toks := s5.toks + 1 }) (plain_list hlw) (fun bA s6 k6 hbA hl6 => ?_) (by omega)
    have k56 := keeps_trans (a := s5) keeps_tok k6
    refine Subscript_ ?_
    refine nmL ((fs_comp (cl := []) (h := s5.heap) hns (FS0.ext kx) trivial).ext (keeps_ext k56)) hm5 ?_
    refine wpAny_Slice (wpAny_evalPart_none (wpAny_evalPart_none (wpAny_evalPart_some (wpAny_UnaryOp (wpAny_Constant_int ?_)))))
    refine PyProof.Rows.neg_int ?_
    refine rev_tail (s := { s6 with toks := s6.toks + 1 + 1 }) (plain_list (hlw.keeps (show Ext s5.heap s6.heap from keeps_ext k56))) (fun cA s7 k7 hcA hl7 => ?_) (by omega)
    have k67 := keeps_trans (a := s6) keeps_tok (keeps_trans keeps_tok k7)
    refine add_tail (plain_list (hl6.keeps (keeps_ext k67))) (plain_list hl7) (fun eA s8 k8 heA hl8 => ?_) (by simp; omega)
    have k58 := keeps_trans k56 (keeps_trans k67 k8)
    refine args_nil ⟨G5.ext (keeps_ext k58), ?_⟩
    have hrw8 := hrw.ext (keeps_ext k58)
    have r8 : Rd (Nw (fun a => True ∧ ∃ o, s.heap.get? a = some o) s5.heap) s8.heap (.ref eA) (dl (dl PyData.int) (rowsOf xs x ++ rowsOf xs x ++ (rowsOf xs x).reverse)) := by
      refine Rd.of_list (.inr (none_back (keeps_ext k56) (none_back (keeps_ext k67) heA))) hl8 ?_
      rw [List.map_append, List.map_append, List.map_reverse]
      exact ((hrw8.append hrw8).append hrw8.reverse).mono fun _ => .inl
    refine dedup_call (n := n) emb_int.list (by decide) (G5.ext (keeps_ext k58)) (R.le (by omega)) r8 (by simp; omega) fun v9 s9 k9 r9 => ?_
    rw [firsts_thrice] at r9
    refine ⟨r9.mono fun a q => ?_, keeps_trans k58 k9⟩
    rcases q with q | q
    · exact q
    · exact .inr (none_back (keeps_ext k58) q)
  · intro tv2 s5 k5 rt2
    have FS5 := FS0.ext (keeps_ext k5)
    have G5 := G1.ext (keeps_ext k5)
    refine lc_eval rfl rfl (by decide) ?_
    refine nmC FS5 hdue ?_
    refine lc_map (P := fun a => True ∧ ∃ o, s.heap.get? a = some o) (P' := fun a => True ∧ ∃ o, s5.heap.get? a = some o) (xs := nums) (f := fun x => dl (dl PyData.int) (rowsOf xs x)) (g := fun x => dl (dl PyData.int) (firsts (rowsOf xs x))) R.hh (plain_list (hld.keeps (keeps_ext k5))) (hrd.ext (keeps_ext k5)) (by omega) (fun _ q => q.2) ?_ ?_
    · intro C i x v s6 m6 E6 ha rv kx hns hm6
      have G6 := G5.ext kx
      have hz := rows_len xs x
      refine ev_own G6 (fnOnce w).2 rfl (by kernel_rfl) ?_
      refine args_cons (nmL (fs_comp (h := s6.heap) hns (FS5.ext kx) trivial) hm6 ?_)
      refine args_nil ⟨G6, ?_⟩
      refine once_call (n := n) emb_int.list (by decide) G6 (R.le (by omega)) rv (by omega) fun v7 s7 k7 r7 => ?_
      refine ⟨r7.mono fun a q => q.imp (fun q => ⟨trivial, let ⟨o, e⟩ := q.2; ⟨o, keeps_ext k5 _ _ e⟩⟩) id, k7⟩
    · intro dv2 s6 k6 rd2
      have rt6 := rt2.ext (keeps_ext k6)
      rw [dl_map (dl (dl PyData.int)) (fun x => firsts (rowsOf xs x))] at rt6 rd2
      refine ne_rd emb_int.list.list.list R rt6 rd2 ?_
      rw [beq_self_eq_true]
      refine wpAny_truthy_bool (ite_ff' (wpAny_allTrue_Or_nil (ite_ff' (wpAny_execs_nil ?_))))
      have k06 := keeps_trans k5 k6
      exact h s6 (icc_up F k06) k06
end
end
section
section
variable {prog : Program} {w : World} {A : Around} {R : Result → Shared → Prop} {s : Shared}
abbrev LC2 (elt t0 i0 t1 i1 : PySem.Expr) (scope : Scope) (pos : Pos) : PySem.Expr := .ListComp elt [⟨t0, i0, [], 0⟩, ⟨t1, i1, [], 0⟩] scope pos
theorem turn2_0 (elt t0 i0 t1 i1 : PySem.Expr) (scope : Scope) (pos : Pos) (it acc : Value) (env : Env) :
    compTurn (LC2 elt t0 i0 t1 i1 scope pos) 0 it acc env = (standAt i0.pos >>= fun _ => pyNext it >>= fun r => match r with
      | none => pure (.done .next)
      | some v => letOwnedTupleGo t0 it v >>= fun _ => assign t0 env v >>= fun _ => eval i1 env >>= fun x => standAt i1.pos >>= fun _ => foldedSetIterable i1 env x >>= fun x => holding [x] (pyIter x) >>= fun it1 =>
          runOwn (.compStart (LC2 elt t0 i0 t1 i1 scope pos) 1 it1 acc env) env >>= fun _ => again (.compLoop (LC2 elt t0 i0 t1 i1 scope pos) 0 it acc env)) := by rfl
theorem turn2_1 (elt t0 i0 t1 i1 : PySem.Expr) (scope : Scope) (pos : Pos) (it acc : Value) (env : Env) :
    compTurn (LC2 elt t0 i0 t1 i1 scope pos) 1 it acc env = (standAt i1.pos >>= fun _ => pyNext it >>= fun r => match r with
      | none => pure (.done .next)
      | some v => letOwnedTupleGo t1 it v >>= fun _ => assign t1 env v >>= fun _ => (eval elt env >>= fun x => call (.builtin "list.append") [acc, x] >>= fun _ => pure ()) >>= fun _ => again (.compLoop (LC2 elt t0 i0 t1 i1 scope pos) 1 it acc env)) := by rfl

theorem step2_0 {elt t0 i0 t1 i1 : PySem.Expr} {scope : Scope} {pos : Pos} {it acc : Value} {env : Env}
    (h : ∀ E', wpAny (model prog w) A (pyNext it) (fun r s₁ => match r with
      | none => R (.ok .next) s₁
      | some v => wpAny (model prog w) A (letOwnedTupleGo t0 it v) (fun _ s₁' => wpAny (model prog w) A (assign t0 env v) (fun _ s₂ => wpAny (model prog w) A (eval i1 env) (fun x s₃ => wpAny (model prog w) A (pyIter x) (fun it1 s₄ =>
          codeAny (model prog w) A (.compStart (LC2 elt t0 i0 t1 i1 scope pos) 1 it1 acc env) (fun r s₅ => r = .ok .next ∧ codeAny (model prog w) A (.compLoop (LC2 elt t0 i0 t1 i1 scope pos) 0 it acc env) R s₅) s₄) E' s₃) E' s₂) E' s₁') E' s₁) E' s)
    (hs : ∀ x, foldedSetIterable i1 env x = pure x := by intro _; rfl) :
    codeAny (model prog w) A (.compLoop (LC2 elt t0 i0 t1 i1 scope pos) 0 it acc env) R s := by
  refine codeAny_of_tree ?_
  show wpAny _ A ((compTurn (LC2 elt t0 i0 t1 i1 scope pos) 0 it acc env).onRaise (fun x => do noteFrame x env; theTreesLotGoes x)) _ _ s
  refine wpAny_noted ?_
  rw [turn2_0]
  refine wpAny_bind (wpAny_standAt (wpAny_bind (wpAny_mono (h _) (fun r s₁ h₁ => ?_) fun _ _ h' => h')))
  cases r with
  | none => exact wpAny_pure h₁
  | some v =>
    refine wpAny_bind (wpAny_mono h₁ (fun _ s₁' h₁' => ?_) fun _ _ h' => h')
    refine wpAny_bind (wpAny_mono h₁' (fun _ s₂ h₂ => ?_) fun _ _ h' => h')
    refine wpAny_bind (wpAny_mono h₂ (fun x s₃ h₃ => wpAny_bind (wpAny_standAt (wpAny_bind (wpAny_of_eq (hs x) ?_)))) fun _ _ h' => h')
    refine wpAny_bind (wpAny_holding (wpAny_mono h₃ (fun it1 s₄ h₄ => ?_) fun _ _ h' => h'))
    refine wpAny_bind (wpAny_runOwn (codeAny_mono h₄ fun r s₅ h₅ => ?_))
    obtain ⟨rfl, h₅⟩ := h₅
    exact wpAny_pure ⟨rfl, h₅⟩

theorem step2_1 {elt t0 i0 t1 i1 : PySem.Expr} {scope : Scope} {pos : Pos} {it acc : Value} {env : Env}
    (h : ∀ E', wpAny (model prog w) A (pyNext it) (fun r s₁ => match r with
      | none => R (.ok .next) s₁
      | some v => wpAny (model prog w) A (letOwnedTupleGo t1 it v) (fun _ s₁' => wpAny (model prog w) A (assign t1 env v) (fun _ s₂ => wpAny (model prog w) A (eval elt env) (fun x s₃ =>
          wpAny (model prog w) A (call (.builtin "list.append") [acc, x]) (fun _ s₄ => codeAny (model prog w) A (.compLoop (LC2 elt t0 i0 t1 i1 scope pos) 1 it acc env) R s₄) E' s₃) E' s₂) E' s₁') E' s₁) E' s) :
    codeAny (model prog w) A (.compLoop (LC2 elt t0 i0 t1 i1 scope pos) 1 it acc env) R s := by
  refine codeAny_of_tree ?_
  show wpAny _ A ((compTurn (LC2 elt t0 i0 t1 i1 scope pos) 1 it acc env).onRaise (fun x => do noteFrame x env; theTreesLotGoes x)) _ _ s
  refine wpAny_noted ?_
  rw [turn2_1]
  refine wpAny_bind (wpAny_standAt (wpAny_bind (wpAny_mono (h _) (fun r s₁ h₁ => ?_) fun _ _ h' => h')))
  cases r with
  | none => exact wpAny_pure h₁
  | some v =>
    refine wpAny_bind (wpAny_mono h₁ (fun _ s₁' h₁' => ?_) fun _ _ h' => h')
    refine wpAny_bind (wpAny_mono h₁' (fun _ s₂ h₂ => ?_) fun _ _ h' => h')
    refine wpAny_bind (wpAny_bind (wpAny_mono h₂ (fun x s₃ h₃ => wpAny_bind (wpAny_mono h₃ (fun _ s₄ h₄ => wpAny_pure (wpAny_pure ⟨rfl, h₄⟩)) fun _ _ h' => h')) fun _ _ h' => h'))

theorem start2_1 {elt t0 i0 t1 i1 : PySem.Expr} {scope : Scope} {pos : Pos} {it acc : Value} {env : Env}
    (h0 : codeAny (model prog w) A (.compLoop (LC2 elt t0 i0 t1 i1 scope pos) 1 it acc env) R s)
    (h : ∀ E', wpAny (model prog w) A (pyIter it) (fun it' s' => codeAny (model prog w) A (.compLoop (LC2 elt t0 i0 t1 i1 scope pos) 1 it' acc env) R s') E' s) :
    codeAny (model prog w) A (.compStart (LC2 elt t0 i0 t1 i1 scope pos) 1 it acc env) R s := by
  refine codeAny_of_tree ?_
  show wpAny _ _ ((compStart (LC2 elt t0 i0 t1 i1 scope pos) 1 it acc env).onRaise (fun x => do noteFrame x env; standAt theWindowsPlace)) _ _ s
  refine wpAny_notedAt ?_
  unfold compStart
  show wpAny _ _ (ask >>= _) _ _ s
  refine wpAny_bind (wpAny_askSetting (wpAny_ite ?_))
  split
  · first
      | exact wpAny_bind (wpAny_pure (wpAny_pure (And.intro rfl h0)))
      | exact wpAny_pure (And.intro rfl h0)
  · refine wpAny_bind (wpAny_rule ?_)
    show wpAny _ _ (standAt i1.pos >>= _) _ _ s
    exact wpAny_bind (wpAny_standAt (wpAny_bind (wpAny_mono (h _) (fun it' s' h' => wpAny_pure (And.intro rfl h')) fun _ _ x => x)))
end
end
section
section
variable {prog : Program} {w : World} {A : Around} {R : Result → Shared → Prop}
def Pd (base : Heap) (D C : Addr) (a : Addr) : Prop := base.get? a = none ∧ a ≠ D ∧ a ≠ C
/-- kept, but the frame's dict, the accumulator and an iterator -/
def Kp (C D J : Addr) (s s' : Shared) : Prop := ∃ h tk, s' = { s with heap := h, toks := tk } ∧ ∀ b o, b ≠ C → b ≠ D → b ≠ J → s.heap.get? b = some o → h.get? b = some o
theorem Kp.trans {C D J : Addr} {a b c : Shared} (x : Kp C D J a b) (y : Kp C D J b c) : Kp C D J a c := by
  obtain ⟨h, tk, rfl, k⟩ := x
  obtain ⟨h', tk', rfl, k'⟩ := y
  exact ⟨h', tk', rfl, fun p o h1 h2 h3 e => k' p o h1 h2 h3 (k p o h1 h2 h3 e)⟩
abbrev prD (j k : Int) : PyData := .list [.int j, .int k]

theorem rds_seq {P : Addr → Prop} {h h' : Heap} {vs : List Value} {ds : List PyData} (x : Rds P h vs ds) (k : ∀ b o vs n, P b → h.get? b = some o → o.data = .seq vs n → h'.get? b = some o) : Rds P h' vs ds := x.imp (fun _ p => p) k

theorem in_loop {base : Heap} {D J lA : Addr} {cenv : Env} {x y : Str} {px py pe pt : Pos} {i0 i1 t0 : PySem.Expr} {scope : Scope} {pos : Pos} {vs : List Value} {kv : List Int} {jj : Int} {tj : Tok}
    (hh : A.handled = none) (hx : cenv.kindOf x = some .local) (hy : cenv.kindOf y = some .local) (hxy : x ≠ y) (hk : cenv.scope.kind = .function) (hdx : (x == ("__debug__" : Str)) = false) (hdy : (y == ("__debug__" : Str)) = false)
    (he : ∀ e r, starEach (PySem.Expr.Name e r :: [.Name y py]) cenv = (false, eval (.Name e r) cenv) :: starEach [.Name y py] cenv) 
    (hCD : cenv.locals ≠ D) (hCJ : cenv.locals ≠ J) (hDJ : D ≠ J) (hlD : lA ≠ D) (hlC : lA ≠ cenv.locals) (hlJ : lA ≠ J) (hv : IntsAre vs kv) :
    ∀ (rem c : Nat) (s : Shared) (m : Str → Option Value) (ys : List Value) (ds : List PyData), rem + c = vs.length → ys.length + rem ≤ 1000 → Ext base s.heap →
      s.heap.IsListIter J lA c → s.heap.IsList lA vs.toArray → s.heap.Ns cenv.locals m → m x = some (.int jj tj) → PlainL s.heap D ys.toArray → Rds (Pd base D cenv.locals) s.heap ys ds → base.get? cenv.locals = none → base.get? D = none → base.get? J = none →
      (∀ s' m' ys', Kp cenv.locals D J s s' → s'.heap.Ns cenv.locals m' → PlainL s'.heap D (List.toArray ys') → ys'.length = ys.length + rem → Rds (Pd base D cenv.locals) s'.heap ys' (ds ++ (kv.drop c).map (prD jj)) → R (.ok .next) s') →
      codeAny (model prog w) A (.compLoop (LC2 (.List [.Name x px, .Name y py] pe) t0 i0 (.Name y pt) i1 scope pos) 1 (.ref J) (.ref D) cenv) R s := by
  have hp : (cenv.scope.kind == .class || (cenv.scope.kind == .module && cenv.locals != cenv.globals)) = false := by rw [hk]; rfl
  have hkl : kv.length = vs.length := hv.length.symm
  intro rem
  induction rem with
  | zero =>
    intro c s m ys ds hc hyl kb hit hl hns hm hD hr bC bD bJ hR
    refine step2_1 fun E' => ?_
    refine wpAny_pyNext_list_end hh hit hl (by simp; omega) fun h' he' => ?_
    dsimp only
    refine hR _ m ys ⟨h', s.toks, rfl, fun b o _ _ hb e => he' b o hb e⟩ (ns_at hns fun o e => he' _ o hCJ e) ?_ rfl ?_
    · obtain ⟨o, nn, e, r⟩ := hD
      exact ⟨o, nn, he' _ _ hDJ e, r⟩
    · rw [List.drop_of_length_le (by omega), List.map_nil, List.append_nil]
      refine rds_seq hr fun b o vs n pb e hd => he' b o (fun q => ?_) e
      obtain ⟨o', e', _, d'⟩ := hit
      rw [q, e'] at e; cases e; rw [d'] at hd; cases hd
  | succ rem ih =>
    intro c s m ys ds hc hyl kb hit hl hns hm hD hr bC bD bJ hR
    have hcl : c < kv.length := by omega
    obtain ⟨v, tk, ev⟩ : ∃ (v : Value) (tk : Tok), vs[c]? = some v ∧ v = .int kv[c] tk := by
      obtain ⟨v, hv', rv⟩ := (Rds.of_ints (P := fun _ => True) (h := base) hv).at (k := c) (d := .int kv[c]) (by simp [hcl])
      obtain ⟨t, rfl⟩ := rv.int_inv
      exact ⟨_, t, hv', rfl⟩
    obtain ⟨ev, rfl⟩ := ev
    refine step2_1 fun E' => ?_
    refine wpAny_pyNext_list_item hit hl (x := .int kv[c] tk) (by simpa using ev) fun h1 hit1 hs1 => ?_
    dsimp only
    refine wpAny_of_eq (show letOwnedTupleGo (.Name y pt) (.ref J) (.int kv[c] tk) = pure () from rfl) ?_
    refine wpAny_assign_Name (wpAny_storeName_local hy (ns_at hns fun o e => hs1.extBut _ o hCJ e) (fun h2 hn2 hs2 => ?_) hp)
    refine List_ (args_cons (wpAny_Name (wpAny_loadName_local hk hx hn2 ((if_neg hxy).trans hm) ?_) hdx) (he _ _))
    refine args_cons (wpAny_Name (wpAny_loadName_local hk hy hn2 (if_pos rfl) ?_) hdy)
    refine args_nil ?_
    have old2 : ∀ b o, b ≠ J → b ≠ cenv.locals → s.heap.get? b = some o → h2.get? b = some o := fun b o hb1 hb2 e => hs2.extBut b o hb2 (hs1.extBut b o hb1 e)
    refine newList_ev fun a s3 k3 ha hl3 => ?_
    have e3 := keeps_ext k3
    have hD3 : PlainL s3.heap D ys.toArray := by
      obtain ⟨o, nn, e, r⟩ := hD
      exact ⟨o, nn, e3 _ _ (old2 _ _ hDJ (Ne.symm hCD) e), r⟩
    refine list_append_plainL (hsz := by rw [List.size_toArray]; have := sizeLine_eq; omega) hD3 fun h4 hl4 hs4 => ?_
    have k34 : ∀ b o, b ≠ D → s3.heap.get? b = some o → h4.get? b = some o := fun b o hb e => hs4.extBut b o hb e
    have old4 : ∀ b o, b ≠ cenv.locals → b ≠ D → b ≠ J → s.heap.get? b = some o → h4.get? b = some o := fun b o h1 h2 h3 e => k34 b o h2 (e3 b o (old2 b o h3 h1 e))
    have Kst : Kp cenv.locals D J s { s3 with heap := h4 } := by
      obtain ⟨hh3, t3, rfl, _⟩ := k3
      exact ⟨h4, t3, rfl, old4⟩
    have haD : a ≠ D := fun q => by obtain ⟨o, _, e, _⟩ := hD; have := old2 _ _ hDJ (Ne.symm hCD) e; rw [← q, ha] at this; cases this
    have haC : a ≠ cenv.locals := fun q => by obtain ⟨o, _, _, e, _⟩ := hn2; rw [← q, ha] at e; cases e
    have hb0 : base.get? a = none := by
      cases q : base.get? a with
      | none => rfl
      | some o =>
        have e1 := kb _ _ q
        have := old2 a o (fun z => by rw [z, bJ] at q; cases q) haC e1
        rw [ha] at this; cases this
    refine ih (c + 1) { s3 with heap := h4 } (fun z => if z = y then some (.int kv[c] tk) else m z) (ys ++ [.ref a]) (ds ++ [prD jj kv[c]]) (by omega) (by simp; omega) (fun b o e => old4 b o (fun q => by rw [q, bC] at e; cases e) (fun q => by rw [q, bD] at e; cases e) (fun q => by rw [q, bJ] at e; cases e) (kb b o e)) ?_ ?_ ?_ ?_ (by simpa using hl4) ?_ bC bD bJ ?_
    · exact hit1.at fun o e => k34 _ o (Ne.symm hDJ) (e3 _ o (hs2.extBut _ o (Ne.symm hCJ) e))
    · exact hl.at fun o e => old4 _ o hlC hlD hlJ e
    · exact ns_at hn2 fun o e => k34 _ o hCD (e3 _ o e)
    · exact (if_neg hxy).trans hm
    · refine Rds.append ?_ (.cons ?_ .nil)
      · refine rds_seq hr fun b o vs n pb e hd => old4 b o pb.2.2 pb.2.1 (fun q => ?_) e
        obtain ⟨o', e', _, d'⟩ := hit
        rw [q, e'] at e; cases e; rw [d'] at hd; cases hd
      · refine Rd.of_list ⟨hb0, haD, haC⟩ (hl3.extBut hs4.extBut haD) (.cons (.int _ _) (.cons (.int _ _) .nil))
    · intro s' m' ys' Ks hns' hl' hlen hr'
      have ed : kv.drop c = kv[c] :: kv.drop (c + 1) := List.drop_eq_getElem_cons hcl
      refine hR s' m' ys' (Kst.trans Ks) hns' hl' (by rw [hlen]; simp; omega) ?_
      rw [ed, List.map_cons]
      rw [List.append_assoc] at hr'
      exact hr'
end
end
section
section
variable {prog : Program} {w : World} {A : Around} {R : Result → Shared → Prop}
theorem kp_ext {C D J : Addr} {b s s' : Shared} (k : Keeps b s) (x : Kp C D J s s') (bC : b.heap.get? C = none) (bD : b.heap.get? D = none) (bJ : b.heap.get? J = none) : Keeps b s' := by
  obtain ⟨h, tk, rfl, k⟩ := k
  obtain ⟨h', tk', rfl, k'⟩ := x
  exact ⟨h', tk', rfl, fun p o e => k' p o (fun q => by rw [q, bC] at e; cases e) (fun q => by rw [q, bD] at e; cases e) (fun q => by rw [q, bJ] at e; cases e) (k p o e)⟩

theorem out_loop {b : Shared} {D I : Addr} {cenv : Env} {x y : Str} {px py pe pt pt0 : Pos} {i0 i1 : PySem.Expr} {scope : Scope} {pos : Pos} {N : Nat} {kf : Nat → List Int}
    (hh : A.handled = none) (hx : cenv.kindOf x = some .local) (hy : cenv.kindOf y = some .local) (hxy : x ≠ y) (hk : cenv.scope.kind = .function) (hdx : (x == ("__debug__" : Str)) = false) (hdy : (y == ("__debug__" : Str)) = false)
    (he : ∀ e r, starEach (PySem.Expr.Name e r :: [.Name y py]) cenv = (false, eval (.Name e r) cenv) :: starEach [.Name y py] cenv)
    (hCD : cenv.locals ≠ D) (hCI : cenv.locals ≠ I) (hDI : D ≠ I) (bC : b.heap.get? cenv.locals = none) (bD : b.heap.get? D = none) (bI : b.heap.get? I = none) (hN : N ≤ 100) (h3 : ∀ i, (kf i).length = 3)
    (hi1 : ∀ i t s m E', i < N → Keeps b s → s.heap.Ns cenv.locals m → m x = some (.int (i : Nat) t) → wpAny (model prog w) A (eval i1 cenv) (fun v s' => ∃ lA vs, v = .ref lA ∧ PlainL s'.heap lA (List.toArray vs) ∧ IntsAre vs (kf i) ∧ s.heap.get? lA = none ∧ Keeps s s') E' s)
    (hs : ∀ x, foldedSetIterable i1 cenv x = pure x) :
    ∀ (rem i : Nat) (s : Shared) (m : Str → Option Value) (ys : List Value) (ds : List PyData), rem + i = N → ys.length = 3 * i → Keeps b s →
      IsRangeIter s.heap I (0 + (i : Nat) * 1) ((N : Int) - (i : Nat)) 1 → s.heap.Ns cenv.locals m → PlainL s.heap D ys.toArray → Rds (Pd b.heap D cenv.locals) s.heap ys ds →
      (∀ s' m' ys', Keeps b s' → s'.heap.Ns cenv.locals m' → PlainL s'.heap D (List.toArray ys') → Rds (Pd b.heap D cenv.locals) s'.heap ys' (ds ++ ((List.range N).drop i).flatMap fun i => (kf i).map (prD i)) → R (.ok .next) s') →
      codeAny (model prog w) A (.compLoop (LC2 (.List [.Name x px, .Name y py] pe) (.Name x pt0) i0 (.Name y pt) i1 scope pos) 0 (.ref I) (.ref D) cenv) R s := by
  have hp : (cenv.scope.kind == .class || (cenv.scope.kind == .module && cenv.locals != cenv.globals)) = false := by rw [hk]; rfl
  have W := Walks.range (prog := prog) (w := w) hh I 0 1 N
  intro rem
  induction rem with
  | zero =>
    intro i s m ys ds hc hyl kb hit hns hD hr hR
    have hiN : i = N := by omega
    subst hiN
    refine step2_0 (fun E' => ?_) hs
    refine W.done s _ _ hit fun h' tk hk' => ?_
    dsimp only
    have k' : ∀ p o, p ≠ I → s.heap.get? p = some o → h'.get? p = some o := fun p o hp e => hk' p o (by simp; exact hp) e
    refine hR _ m ys ?_ (ns_at hns fun o e => k' _ o hCI e) ?_ ?_
    · obtain ⟨h0, t0, rfl, k0⟩ := kb
      exact ⟨h', tk, rfl, fun p o e => k' p o (fun q => by rw [q, bI] at e; cases e) (k0 p o e)⟩
    · obtain ⟨o, nn, e, r⟩ := hD
      exact ⟨o, nn, k' _ _ hDI e, r⟩
    · rw [List.drop_of_length_le (by simp), List.flatMap_nil, List.append_nil]
      refine rds_seq hr fun p o vs n pb e hd => k' p o (fun q => ?_) e
      have e' : s.heap.get? I = some _ := hit
      rw [q, e'] at e; cases e; cases hd
  | succ rem ih =>
    intro i s m ys ds hc hyl kb hit hns hD hr hR
    have hiN : i < N := by omega
    refine step2_0 (fun E' => ?_) hs
    refine W.item i s _ _ hiN hit fun v h1 tk1 pv st1 hk1 => ?_
    obtain ⟨t, rfl⟩ := pv
    have e0 : (0 : Int) + (i : Nat) * 1 = (i : Nat) := by omega
    rw [e0]
    dsimp only
    have k1 : ∀ p o, p ≠ I → s.heap.get? p = some o → h1.get? p = some o := fun p o hp e => hk1 p o (by simp; exact hp) e
    refine wpAny_of_eq (show letOwnedTupleGo (.Name x pt0) (.ref I) (.int (i : Nat) t) = pure () from rfl) ?_
    refine wpAny_assign_Name (wpAny_storeName_local hx (ns_at hns fun o e => k1 _ o hCI e) (fun h2 hn2 hs2 => ?_) hp)
    have old2 : ∀ p o, p ≠ I → p ≠ cenv.locals → s.heap.get? p = some o → h2.get? p = some o := fun p o hb1 hb2 e => hs2.extBut p o hb2 (k1 p o hb1 e)
    have kb2 : Keeps b { s with heap := h2, toks := tk1 + 1 } := by
      obtain ⟨h0, t0, rfl, k0⟩ := kb
      exact ⟨h2, _, rfl, fun p o e => old2 p o (fun q => by rw [q, bI] at e; cases e) (fun q => by rw [q, bC] at e; cases e) (k0 p o e)⟩
    refine wpAny_mono (hi1 i t _ _ E' hiN kb2 hn2 (if_pos rfl)) (fun v3 s3 h3' => ?_) fun _ _ e => e
    obtain ⟨lA, vs, rfl, hl3, hv3, hlA, k3⟩ := h3'
    have e3 := keeps_ext k3
    have kb3 := keeps_trans kb2 k3
    have hvl : vs.length = 3 := by rw [hv3.length, h3]
    refine wpAny_pyIter_list (plain_list hl3) ?_
    obtain ⟨J, hJ⟩ : ∃ J, s3.heap.objs.size = J := ⟨_, rfl⟩
    have fJ : s3.heap.get? J = none := hJ ▸ fresh_none (Nat.le_refl _)
    have kI : Keeps s3 { s3 with heap := s3.heap.push { cls := .type "list_iterator", data := .fields #[.ref lA, .int 0 0] } } := ⟨_, s3.toks, rfl, Ext.push _ _⟩
    have hit4 : (s3.heap.push { cls := .type "list_iterator", data := .fields #[.ref lA, .int 0 0] }).IsListIter J lA 0 := hJ ▸ ⟨_, Heap.get?_push_size _ rfl, rfl, rfl⟩
    rw [hJ]
    have kb4 := keeps_trans kb3 kI
    have e4 := keeps_ext kI
    have bJ : b.heap.get? J = none := none_back (keeps_ext kb3) fJ
    have ne : ∀ p o, s3.heap.get? p = some o → p ≠ J := fun p o e q => by rw [q, fJ] at e; cases e
    have st2 : IsRangeIter h2 I (0 + ((i + 1 : Nat) : Int) * 1) ((N : Int) - ((i + 1 : Nat) : Int)) 1 := W.frame _ _ _ st1 fun p hp o e => hs2.extBut _ _ (fun q => hCI (q ▸ List.mem_singleton.mp hp)) e
    obtain ⟨oI, hI2⟩ : ∃ o, h2.get? I = some o := ⟨_, st2⟩
    have hD2 : PlainL h2 D ys.toArray := by
      obtain ⟨o, nn, e, r⟩ := hD
      exact ⟨o, nn, old2 _ _ hDI (Ne.symm hCD) e, r⟩
    have hCJ : cenv.locals ≠ J := by obtain ⟨o, _, _, e, _⟩ := hn2; exact ne _ _ (e3 _ _ e)
    have hDJ : D ≠ J := by obtain ⟨o, _, e, _⟩ := hD2; exact ne _ _ (e3 _ _ e)
    have hIJ : I ≠ J := ne _ _ (e3 _ _ hI2)
    have hlJ : lA ≠ J := by obtain ⟨o, _, e, _⟩ := hl3; exact ne _ _ e
    have hlD : lA ≠ D := fun q => by obtain ⟨o, _, e, _⟩ := hD2; rw [q] at hlA; have e' : h2.get? D = none := hlA; rw [e'] at e; cases e
    have hlC : lA ≠ cenv.locals := fun q => by obtain ⟨o, _, _, e, _⟩ := hn2; rw [q] at hlA; have e' : h2.get? cenv.locals = none := hlA; rw [e'] at e; cases e
    have inner : codeAny (model prog w) A (.compLoop (LC2 (.List [.Name x px, .Name y py] pe) (.Name x pt0) i0 (.Name y pt) i1 scope pos) 1 (.ref J) (.ref D) cenv)
        (fun r s₅ => r = .ok .next ∧ codeAny (model prog w) A (.compLoop (LC2 (.List [.Name x px, .Name y py] pe) (.Name x pt0) i0 (.Name y pt) i1 scope pos) 0 (.ref I) (.ref D) cenv) R s₅)
        { s3 with heap := s3.heap.push { cls := .type "list_iterator", data := .fields #[.ref lA, .int 0 0] } } := by
      refine in_loop (base := b.heap) (vs := vs) (kv := kf i) (jj := (i : Nat)) (tj := t) hh hx hy hxy hk hdx hdy he hCD hCJ hDJ hlD hlC hlJ hv3 3 0 _ (fun z => if z = x then some (.int (i : Nat) t) else m z) ys ds (by omega) (by omega) (keeps_ext kb4) hit4 ?_ ?_ (if_pos rfl) ?_ ?_ bC bD bJ ?_
      · exact (plain_list hl3).at fun o e => e4 _ o e
      · exact ns_at hn2 fun o e => e4 _ o (e3 _ o e)
      · obtain ⟨o, nn, e, r⟩ := hD2
        exact ⟨o, nn, e4 _ _ (e3 _ _ e), r⟩
      · refine rds_seq hr fun p o vs n pb e hd => e4 _ _ (e3 _ _ (old2 p o (fun q => ?_) pb.2.2 e))
        have e' : s.heap.get? I = some _ := hit
        rw [q, e'] at e; cases e; cases hd
      · intro s' m' ys' Ks hns' hl' hlen hr'
        refine ⟨rfl, ?_⟩
        refine ih (i + 1) s' m' ys' (ds ++ ((kf i).drop 0).map (prD (i : Nat))) (by omega) (by omega) (kp_ext kb4 Ks bC bD bJ) ?_ hns' hl' hr' ?_
        · obtain ⟨h5, t5, rfl, k5⟩ := Ks
          exact W.frame _ _ _ st2 fun p hp o e => by
            have hpI := List.mem_singleton.mp hp
            subst hpI
            exact k5 _ _ (Ne.symm hCI) (Ne.symm hDI) hIJ (e4 _ _ (e3 _ _ e))
        · intro s'' m'' ys'' kb'' hns'' hl'' hr''
          have ed : (List.range N).drop i = i :: (List.range N).drop (i + 1) := by
            rw [List.drop_eq_getElem_cons (by simpa using hiN)]; simp
          refine hR s'' m'' ys'' kb'' hns'' hl'' ?_
          rw [ed, List.flatMap_cons]
          rw [List.append_assoc, List.drop_zero] at hr''
          exact hr''
    exact start2_1 inner fun E'' => wpAny_pyIter_listiter hit4 inner
end
end
section
def ksOf (N i : Nat) : List Int := [((i : Int) + 1).fmod N, ((i : Int) + 3).fmod N, (i : Int) - 1]
def prsOf (N : Nat) : List (Int × Int) := (List.range N).flatMap fun i => (ksOf N i).map fun k => ((i : Int), k)
theorem prs_data (N : Nat) : ((List.range N).flatMap fun i => (ksOf N i).map (prD i)) = (prsOf N).map fun q => PyData.list [.int q.1, .int q.2] := by
  unfold prsOf
  rw [List.map_flatMap]
  simp only [List.map_map]
  rfl
theorem IsRangeIter.at' {h h' : Heap} {I : Addr} {a b c : Int} (x : IsRangeIter h I a b c) (k : Ext h h') : IsRangeIter h' I a b c := k _ _ x
section
variable {prog : Program} {w : World} {A : Around} {E : Value → Shared → Prop}
theorem lc_post_loc {A : Around} {s s₂ s' : Shared} {env : Env} {y : Str} {py : Pos} {P : Addr → Prop} {ds : List PyData} {Q : Shared → Prop} {m : Str → Option Value} (k : Keeps s s') (hCs : s.heap.get? (s₂.heap.objs.size + 1) = none) (hns : ∃ m', s'.heap.Ns (s₂.heap.objs.size + 1) m')
    (hr : Rd (fun a => Nw P s.heap a ∧ a ≠ s₂.heap.objs.size + 1) s'.heap (.ref s₂.heap.objs.size) (.list ds)) (hL : s.heap.Ns env.locals m)
    (hy : env.kindOf y = some .local) (hp : (env.scope.kind == .class || (env.scope.kind == .module && env.locals != env.globals)) = false)
    (h : ∀ v h' tk, h'.Ns env.locals (fun z => if z = y then some v else m z) → (∀ b o, b ≠ env.locals → s.heap.get? b = some o → h'.get? b = some o) → Rd (Nw P s.heap) h' v (.list ds) → Q { s with heap := h', toks := tk }) :
    compPost (model prog w) A E (some (assign (.Name y py) env)) (fun _ s' => Q s') (.ref s₂.heap.objs.size) (s₂.heap.objs.size + 1) (.ok .next) s' :=
  lc_post_local (Q := fun _ s' => Q s') k hCs hns hr hL hy hp h
theorem lc_two {s s₁ : Shared} {env : Env} {cl : List (Str × Addr)} {i0 i1 : PySem.Expr} {x y : Str} {px py pe pt pt0 : Pos} {scope : Scope} {pos : Pos} {use : Option (Value → Sem Unit)} {Q : Value → Shared → Prop}
    {r : Addr} {n : Nat} {t u v : Tok} (kf : Nat → List Int)
    (hh : A.handled = none) (k : Keeps s s₁) (hr : IsRange s₁.heap r 0 n 1 t u v) (hn : n ≤ 100) (hxy : x ≠ y)
    (hcell : ∀ y ∈ scope.names, y.2 ≠ .cell) (hkind : scope.kind = .function) (hx : scope.names.lookup x = some .local) (hy : scope.names.lookup y = some .local) (h3 : ∀ i, (kf i).length = 3)
    (hi1 : ∀ C i t s₁ m E', i < n → Ext s.heap s₁.heap → s₁.heap.Ns C m → m x = some (.int (i : Nat) t) →
      wpAny (model prog w) A (eval i1 (compEnvC scope cl C env)) (fun v s' => ∃ lA vs, v = .ref lA ∧ PlainL s'.heap lA (List.toArray vs) ∧ IntsAre vs (kf i) ∧ s₁.heap.get? lA = none ∧ Keeps s₁ s') E' s₁)
    (post : ∀ s₂ s' : Shared, Keeps s s' → s.heap.get? (s₂.heap.objs.size + 1) = none → (∃ m', s'.heap.Ns (s₂.heap.objs.size + 1) m') →
      Rd (fun a => Nw (fun _ => False) s.heap a ∧ a ≠ s₂.heap.objs.size + 1) s'.heap (.ref s₂.heap.objs.size) (.list ((List.range n).flatMap fun i => (kf i).map (prD i))) →
      compPost (model prog w) A E use Q (.ref s₂.heap.objs.size) (s₂.heap.objs.size + 1) (.ok .next) s')
    (hdx : (x == ("__debug__" : Str)) = false := by decide) (hdy : (y == ("__debug__" : Str)) = false := by decide)
    (he : ∀ C e r, starEach (PySem.Expr.Name e r :: [.Name y py]) (compEnvC scope cl C env) = (false, eval (.Name e r) (compEnvC scope cl C env)) :: starEach [.Name y py] (compEnvC scope cl C env) := by intro _ _ _; rfl)
    (hs : ∀ C x, foldedSetIterable i1 (compEnvC scope cl C env) x = pure x := by intro _ _; rfl) :
    wpAny (model prog w) A (pyIter (.ref r)) (LcBody prog w A E env cl (.List [.Name x px, .Name y py] pe) [⟨.Name x pt0, i0, [], 0⟩, ⟨.Name y pt, i1, [], 0⟩] scope pos use Q) E s₁ := by
  have hsz1 : Builtin.Range.rangeSize 0 (n : Int) 1 = (n : Int) := by
    rw [rangeSize_one]
    split <;> omega
  have hsm : Builtin.Range.small 0 (n : Int) 1 = true := by
    unfold Builtin.Range.small Builtin.Range.rangeFitsLong
    rw [hsz1]
    simp only [Int.reduceGT, if_true, Bool.and_eq_true, Bool.or_eq_true, decide_eq_true_eq, beq_iff_eq]
    refine ⟨⟨⟨⟨?_, ?_⟩, ?_⟩, ?_⟩, ?_⟩
    all_goals first | (constructor <;> omega) | omega | (right; constructor <;> omega) | (right; omega)
  refine wpAny_pyIter_range hr hsm ?_
  have hks := keeps_ext k
  let s₂ : Shared := { s₁ with heap := s₁.heap.push { cls := .type "range_iterator", data := .fields #[rawInt 0, rawInt (Builtin.Range.rangeSize 0 n 1), rawInt 1] } }
  have k₁₂ : Ext s₁.heap s₂.heap := Ext.push _ _
  have k₂ : Keeps s s₂ := keeps_trans k ⟨_, s₁.toks, rfl, k₁₂⟩
  have hsz : s₂.heap.objs.size = s₁.heap.objs.size + 1 := Heap.size_push ..
  have e0 : cellsFrom (s₂.heap.objs.size + 1 + 1) scope.names cl = cl := cellsFrom_free hcell _ _
  have eE : lcEnv scope cl s₂.heap env = compEnvC scope cl (s₂.heap.objs.size + 1) env := by unfold lcEnv; rw [e0]
  have hDn : s.heap.get? s₂.heap.objs.size = none := none_back (keeps_ext k₂) (fresh_none (Nat.le_refl _))
  have hCn : s.heap.get? (s₂.heap.objs.size + 1) = none := none_back (keeps_ext k₂) (fresh_none (Nat.le_succ _))
  have hIn : s.heap.get? s₁.heap.objs.size = none := none_back hks (fresh_none (Nat.le_refl _))
  have hit : IsRangeIter s₂.heap s₁.heap.objs.size (0 + ((0 : Nat) : Int) * 1) ((n : Int) - ((0 : Nat) : Int)) 1 := by
    have : s₂.heap.get? s₁.heap.objs.size = some { cls := .type "range_iterator", dict := none, data := .fields #[rawInt 0, rawInt (Builtin.Range.rangeSize 0 n 1), rawInt 1], slots := #[] } := Heap.get?_push_size _ rfl
    rw [hsz1] at this
    show _ = _
    simpa using this
  unfold LcBody
  refine wpAny_newObj_type (newFunctionEnv_comp ?_)
  dsimp only
  rw [show (s₂.heap.push { cls := .type "list", dict := none, data := .seq ([] : List Value).toArray }).objs.size = s₂.heap.objs.size + 1 from Heap.size_push ..]
  have old : Ext s₂.heap (lcHeap s₂.heap scope) := lcHeap_old
  have hacc : PlainL (lcHeap s₂.heap scope) s₂.heap.objs.size #[] := ⟨_, _, pushCells_keeps _ _ _ _ (Heap.get?_push_of_some _ (Heap.get?_push_size _ rfl)), rfl, rfl, rfl⟩
  have loop : ∀ s₃ : Shared, s₃ = { s₂ with heap := lcHeap s₂.heap scope } →
      codeAny (model prog w) A (.compLoop (LC2 (.List [.Name x px, .Name y py] pe) (.Name x pt0) i0 (.Name y pt) i1 scope pos) 0 (.ref s₁.heap.objs.size) (.ref s₂.heap.objs.size) (lcEnv scope cl s₂.heap env))
        (compPost (model prog w) A E use Q (.ref s₂.heap.objs.size) (s₂.heap.objs.size + 1)) s₃ := by
    rintro s₃ rfl
    obtain ⟨m0, hm0⟩ := lcHeap_ns (h := s₂.heap) (scope := scope)
    have kb : Keeps s { s₂ with heap := lcHeap s₂.heap scope } := keeps_trans k₂ (keeps_mk (s := s₂) (tk := s₂.toks) old)
    have hk2 : (compEnvC scope cl (s₂.heap.objs.size + 1) env).scope.kind = .function := by simp [compEnvC, relabel, hkind]
    rw [eE]
    refine out_loop (b := s) (D := s₂.heap.objs.size) (I := s₁.heap.objs.size) (cenv := compEnvC scope cl (s₂.heap.objs.size + 1) env) (N := n) (kf := kf) hh (lookup_relabel_local hx) (lookup_relabel_local hy) hxy hk2 hdx hdy (he _) ?_ ?_ ?_ hCn hDn hIn hn h3
      (fun i t s₄ m E' hi kk hns hm => hi1 _ i t s₄ m E' hi (keeps_ext kk) hns hm) (hs _) n 0 _ m0 [] [] rfl rfl kb (IsRangeIter.at' hit old) hm0 hacc .nil ?_
    · exact Nat.ne_of_gt (Nat.lt_succ_self _)
    · show s₂.heap.objs.size + 1 ≠ s₁.heap.objs.size
      rw [hsz]; exact Nat.ne_of_gt (Nat.lt_succ_of_lt (Nat.lt_succ_self _))
    · rw [hsz]; exact Nat.ne_of_gt (Nat.lt_succ_self _)
    · intro s' m' ys' kk hns' hl' hr'
      refine post s₂ s' kk hCn ⟨m', hns'⟩ (Rd.of_list ⟨.inr hDn, Nat.ne_of_lt (Nat.lt_succ_self _)⟩ hl' ?_)
      have e1 : ([] ++ ((List.range n).drop 0).flatMap fun i => (kf i).map (prD (i : Nat))) = (List.range n).flatMap fun i => (kf i).map (prD (i : Nat)) := by rw [List.drop_zero]; rfl
      rw [e1] at hr'
      exact hr'.mono fun a q => ⟨.inr q.1, q.2.2⟩
  exact codeAny_compStart_list (loop _ rfl) (wpAny_pyIter_rangeiter (IsRangeIter.at' hit old) (loop _ rfl))
end
section
variable {prog : Program} {w : World} {A : Around} {E : Value → Shared → Prop} {s₀ s : Shared} {mg mb : Str → Option Value} {n : Nat} {Q : Flow → Shared → Prop}
set_option maxHeartbeats 2000000 in
theorem law_8a {S : Nat} {m cm : Str → Option Value} {ds : List PyData} {dv : Value} (hnl : ds.length ≤ 10) (G0 : Gl (KK w) mg mb s₀.heap) (R : Rm A (n + 10)) (F : InCallC s₀ (lawEnv w S).locals m (lawEnv w S).cells cm s)
    (hdue : cm "due" = some dv) (hd : Rd AnyA s.heap dv (.list ds))
    (h : ∀ s' m' pv, InCallC s₀ (lawEnv w S).locals m' (lawEnv w S).cells cm s' → m' "pairs" = some pv → (∀ y : Str, y ≠ PySem.Str.ofString "pairs" → m' y = m y) → Rd AnyA s'.heap pv (.list ((prsOf ds.length).map fun q => PyData.list [.int q.1, .int q.2])) → SK s.heap s'.heap →
      wpAny (model prog w) A (execs ((bodyOf (fnLaw w).1).drop 12) (lawEnv w S)) Q E s') :
    wpAny (model prog w) A (execs ((bodyOf (fnLaw w).1).drop 11) (lawEnv w S)) Q E s := by
  have FS0 := icc_fs F
  have G1 := G0.ext (icc_ext F)
  have hln := sizeLine_eq
  obtain ⟨dA, dvs, rfl, hld, hrd, _⟩ := hd.plain_inv
  have hdl : dvs.length = ds.length := hrd.length
  refine wpAny_execs_cons ?_
  refine lc_assign ?_ rfl rfl (by decide) ?_
  · rfl
  refine ev_ty G1 (by kernel_rfl) boot_range ?_
  refine args_cons ?_
  refine ev_bi G1 (by kernel_rfl) boot_len ?_
  refine args_cons (nmC FS0 hdue ?_)
  refine args_nil ?_
  refine len_list (plain_list hld) (by rw [List.size_toArray]; omega) ?_
  refine args_nil ?_
  refine call_range_1 ?_
  rw [show ((dvs.toArray.size : Nat) : Int) = ((ds.length : Nat) : Int) by rw [List.size_toArray, hdl]]
  refine lc_two (s := { s with toks := s.toks + 1 + 1 }) (n := ds.length) (ksOf ds.length) R.hh ⟨_, _, rfl, Ext.push _ _⟩ (IsRange.new _ _ _ _ _ _ _) (by omega) (by decide) (by decide) rfl rfl rfl (fun _ => rfl) ?_ ?_
  · intro C i t s4 m4 E4 hi kx hns hm4
    have FS4 := fs_comp (h := s4.heap) (scope := PySem.Scope.mk .function [(PySem.Str.ofString ".0", .local), (PySem.Str.ofString "j", .local), (PySem.Str.ofString "k", .local), (PySem.Str.ofString "len", .globalImplicit), (PySem.Str.ofString "due", .free)] false false []) hns (FS0.ext kx) (cl := [(PySem.Str.ofString "due", S + 1 + 1 + 1 + 1 + 1 + 1)]) ⟨rfl, trivial⟩
    have G4 := G1.ext kx
    have hN0 : ((dvs.toArray.size : Nat) : Int) = ((ds.length : Nat) : Int) := by rw [List.size_toArray, hdl]
    have hnz : ((ds.length : Nat) : Int) ≠ 0 := by omega
    refine List_ (args_cons (wpAny_BinOp (wpAny_BinOp (nmL FS4 hm4 (wpAny_Constant_int (PyProof.Rows.add_int ?_))))))
    refine ev_bi (G4.ext (Ext.refl _)) (by kernel_rfl) boot_len ?_
    refine args_cons (nmC (FS4.ext (Ext.refl _)) hdue (args_nil ?_))
    refine len_list (plain_list (hld.keeps (show Ext s.heap s4.heap from kx))) (by rw [List.size_toArray]; omega) ?_
    rw [hN0]
    refine PyProof.Rows.mod_int' hnz ?_
    refine args_cons (wpAny_BinOp (wpAny_BinOp (nmL (FS4.ext (Ext.refl _)) hm4 (wpAny_Constant_int (PyProof.Rows.add_int ?_)))))
    refine ev_bi (G4.ext (Ext.refl _)) (by kernel_rfl) boot_len ?_
    refine args_cons (nmC (FS4.ext (Ext.refl _)) hdue (args_nil ?_))
    refine len_list (plain_list (hld.keeps (show Ext s.heap s4.heap from kx))) (by rw [List.size_toArray]; omega) ?_
    rw [hN0]
    refine PyProof.Rows.mod_int' hnz ?_
    refine args_cons (wpAny_BinOp (nmL (FS4.ext (Ext.refl _)) hm4 (wpAny_Constant_int (PyProof.Rows.sub_int ?_))))
    refine args_nil ?_
    refine newList_ev fun a s5 k5 ha hl5 => ?_
    exact ⟨a, _, rfl, hl5, .cons _ _ (.cons _ _ (.cons _ _ .nil)), ha, keeps_trans keeps_tok k5⟩
  · intro s5 s' k' hC hns' hr'
    refine lc_post_loc (env := lawEnv w S) (y := PySem.Str.ofString "pairs") k' hC hns' hr' F.toInCall.ns rfl rfl fun v h' tk hN hK rv' => ?_
    rw [prs_data] at rv'
    exact h _ _ v (icc_loc (icc_up F (keeps_tok (tk := s.toks + 1 + 1))) hN hK) (if_pos rfl) (fun y hy => if_neg hy) (rv'.mono fun _ _ => trivial) (sk_loc F.toInCall.ns hK)
end
end
section
def plc (N : Nat) (k : Int) : Nat := if k < 0 then (k + N).toNat else k.toNat
def rowAt (xs nums : List Int) (k : Int) : List (List Int) := (nums[plc nums.length k]?.map (rowsOf xs)).getD []
def sameB (xs nums : List Int) (q : Int × Int) : Bool := decide ((firsts (rowAt xs nums q.1)).Perm (firsts (rowAt xs nums q.2)))
theorem prs_in {N : Nat} {q : Int × Int} (h : q ∈ prsOf N) : (0 ≤ q.1 ∧ q.1 < N) ∧ (-1 ≤ q.2 ∧ q.2 < N) := by
  unfold prsOf at h
  obtain ⟨i, hi, hq⟩ := List.mem_flatMap.mp h
  have hi := List.mem_range.mp hi
  obtain ⟨k, hk, rfl⟩ := List.mem_map.mp hq
  have hN : (0 : Int) < N := by omega
  unfold ksOf at hk
  simp only [List.mem_cons, List.not_mem_nil, or_false] at hk
  refine ⟨⟨by show (0 : Int) ≤ i; omega, by show (i : Int) < N; omega⟩, ?_⟩
  show -1 ≤ k ∧ k < N
  rcases hk with rfl | rfl | rfl
  · rw [Int.fmod_eq_emod_of_nonneg _ (by omega)]
    have := Int.emod_nonneg ((i : Int) + 1) (show (N : Int) ≠ 0 by omega)
    have := Int.emod_lt_of_pos ((i : Int) + 1) hN
    omega
  · rw [Int.fmod_eq_emod_of_nonneg _ (by omega)]
    have := Int.emod_nonneg ((i : Int) + 3) (show (N : Int) ≠ 0 by omega)
    have := Int.emod_lt_of_pos ((i : Int) + 3) hN
    omega
  · omega
theorem plc_lt {N : Nat} {k : Int} (h : -1 ≤ k ∧ k < N) (h0 : 0 < N) : plc N k < N := by
  unfold plc
  split <;> omega
section
variable {prog : Program} {w : World} {A : Around} {E : Value → Shared → Prop} {s : Shared} {Q : Value → Shared → Prop}
theorem sub_any {value slice : PySem.Expr} {l : Addr} {vs : List Value} {k : Int} {u : Tok} {v : Value} (hl : s.heap.IsList l vs.toArray) (hk : -1 ≤ k ∧ k < vs.length) (hz : vs.length ≤ 1000) (hx : vs[plc vs.length k]? = some v) (h : Q v s)
    (hs : subscripted slice false (.ref l) (.int k u) = operate [.ref l, .int k u] (getItem (.ref l) (.int k u)) := by with_unfolding_all rfl) :
    wpAny (model prog w) A (subscriptTail value slice (.ref l) (.int k u)) Q E s := by
  unfold plc at hx
  have hn : 0 < vs.length := by
    by_cases h0 : vs.length = 0
    · have := (List.getElem?_eq_some_iff.mp hx).1
      omega
    · omega
  by_cases hneg : k < 0
  · have e : k = -1 := by omega
    subst e
    rw [if_pos (by decide)] at hx
    refine tail_any hl.typeIs slot_list_getitem.lookup (wpAny_getItem_list_neg hl (by decide) (by rw [List.size_toArray]; omega) (by decide) ?_ h) hs
    rw [List.size_toArray, List.getElem?_toArray]
    exact hx
  · rw [if_neg hneg] at hx
    exact sub_item hl hx h (by omega) (by omega) hs
end
section
variable {prog : Program} {w : World} {A : Around} {E : Value → Shared → Prop} {s₀ s : Shared} {mg mb : Str → Option Value} {n : Nat} {Q : Flow → Shared → Prop}
set_option maxHeartbeats 2000000 in
theorem law_8b {S : Nat} {m cm : Str → Option Value} {xs nums : List Int} {dv pv : Value} (hnl : nums.length ≤ 10) (hxs : xs.length ≤ 10) (G0 : Gl (KK w) mg mb s₀.heap) (R : Rm A (n + 10)) (F : InCallC s₀ (lawEnv w S).locals m (lawEnv w S).cells cm s)
    (hdue : cm "due" = some dv) (hd : Rd AnyA s.heap dv (.list (nums.map (dueD X0 xs)))) (hpairs : m "pairs" = some pv) (hp : Rd AnyA s.heap pv (.list ((prsOf nums.length).map fun q => PyData.list [.int q.1, .int q.2])))
    (h : ∀ s' m' sv, InCallC s₀ (lawEnv w S).locals m' (lawEnv w S).cells cm s' → m' "same" = some sv → (∀ y : Str, y ≠ PySem.Str.ofString "same" → m' y = m y) → Rd AnyA s'.heap sv (.list ((prsOf nums.length).map fun q => PyData.bool (sameB xs nums q))) → SK s.heap s'.heap →
      wpAny (model prog w) A (execs ((bodyOf (fnLaw w).1).drop 13) (lawEnv w S)) Q E s') :
    wpAny (model prog w) A (execs ((bodyOf (fnLaw w).1).drop 12) (lawEnv w S)) Q E s := by
  have FS0 := icc_fs F
  have G1 := G0.ext (icc_ext F)
  have hln := sizeLine_eq
  have e2 : nums.map (dueD X0 xs) = nums.map fun x => dl (dl PyData.int) (rowsOf xs x) := List.map_congr_left fun x _ => dueD_eq xs x
  rw [e2] at hd
  have hd' := hd.stand
  obtain ⟨dA, dvs, rfl, hld, hrd, _⟩ := hd'.plain_inv
  obtain ⟨pA, pvs, rfl, hlp, hrp, _⟩ := hp.plain_inv
  have hdl : dvs.length = nums.length := by rw [hrd.length, List.length_map]
  have hpl : pvs.length = (prsOf nums.length).length := by rw [hrp.length, List.length_map]
  have hpz : (prsOf nums.length).length ≤ 30 := by
    unfold prsOf
    rw [List.length_flatMap]
    have : (List.map (fun (i : Nat) => (List.map (fun k => ((i : Int), k)) (ksOf nums.length i)).length) (List.range nums.length)) = List.map (fun _ => 3) (List.range nums.length) := List.map_congr_left fun i _ => rfl
    rw [this]
    have : ∀ l : List Nat, (l.map fun _ => 3).sum = 3 * l.length := fun l => by
      induction l with
      | nil => rfl
      | cons a l ih => rw [List.map_cons, List.sum_cons, ih, List.length_cons]; omega
    rw [this, List.length_range]
    omega
  -- one sorted list
  have one : ∀ (s5 : Shared) (k : Int) (tk : Tok) (env : Env) (E5 : Value → Shared → Prop) (K : Value → Shared → Prop) (value slice : PySem.Expr), Ext s.heap s5.heap → -1 ≤ k ∧ k < (nums.length : Int) → 0 < nums.length →
      (subscripted slice false (.ref dA) (.int k tk) = operate [.ref dA, .int k tk] (getItem (.ref dA) (.int k tk))) →
      (∀ v, Rd (fun a => True ∧ ∃ o, s.heap.get? a = some o) s5.heap v (dl (dl .int) (rowAt xs nums k)) → K v s5) →
      wpAny (model prog w) A (subscriptTail value slice (.ref dA) (.int k tk)) K E5 s5 := by
    intro s5 k tk env E5 K value slice kx hk hN hs hK
    have hi := plc_lt hk hN
    obtain ⟨v, hv, rv⟩ := hrd.at (k := plc nums.length k) (d := dl (dl .int) (rowAt xs nums k)) (by
      unfold rowAt
      rw [List.getElem?_map, List.getElem?_eq_getElem hi]; rfl)
    exact sub_any (plain_list (hld.keeps kx)) (by rw [hdl]; exact hk) (by omega) (by rw [hdl]; exact hv) (hK v (rv.ext kx)) hs
  refine wpAny_execs_cons ?_
  refine lc_assign ?_ rfl rfl (by decide) ?_
  · rfl
  refine nmL FS0 hpairs ?_
  refine lc_pairs (s := s) (P := fun _ => False) (fun _ => true) (fun i => ((prsOf nums.length)[i]?.map fun q => PyData.bool (sameB xs nums q)).getD .none) R.hh (keeps_refl _) (plain_list hlp) hrp (by omega) (fun _ q => q.elim) (by decide) rfl rfl rfl (by decide) ?_ ?_ ?_
  · intro C i t1 t2 q s4 m4 E4 hq kx hns h1 h2
    exact wpAny_tests_nil ⟨rfl, keeps_refl _⟩
  · intro C i t1 t2 q s4 m4 E4 hq _ kx hns h1 h2
    have hin := prs_in (List.mem_of_getElem? hq)
    rw [hq]
    have G4 := G1.ext kx
    have FC := fs_comp (h := s4.heap) (scope := PySem.Scope.mk .function [(PySem.Str.ofString ".0", .local), (PySem.Str.ofString "j", .local), (PySem.Str.ofString "k", .local), (PySem.Str.ofString "sorted", .globalImplicit), (PySem.Str.ofString "_law_once", .globalImplicit), (PySem.Str.ofString "due", .free)] false false []) hns (FS0.ext kx) (cl := [(PySem.Str.ofString "due", S + 1 + 1 + 1 + 1 + 1 + 1)]) ⟨rfl, trivial⟩
    refine wpAny_Compare1 ?_
    refine ev_bi G4 (by kernel_rfl) PyProof.Rows.boot_sorted ?_
    refine args_cons ?_
    refine ev_own G4 (fnOnce w).2 rfl (by kernel_rfl) ?_
    refine args_cons (Subscript_ (nmC FC hdue (nmL FC h1 ?_)))
    refine one s4 q.1 t1 (lawEnv w S) _ _ _ _ kx (by omega) (by omega) (by with_unfolding_all rfl) fun v5 r5 => ?_
    refine args_nil ⟨G4, ?_⟩
    have hz1 : (rowAt xs nums q.1).length ≤ 10 := by
      unfold rowAt
      cases nums[plc nums.length q.1]? with
      | none => simp
      | some x => have := rows_len xs x; simp; omega
    have hz2 : (rowAt xs nums q.2).length ≤ 10 := by
      unfold rowAt
      cases nums[plc nums.length q.2]? with
      | none => simp
      | some x => have := rows_len xs x; simp; omega
    have f1 := firsts_len (rowAt xs nums q.1)
    have f2 := firsts_len (rowAt xs nums q.2)
    refine once_call (n := n) emb_int.list (by decide) G4 (R.le (by omega)) r5 (by omega) fun v6 s6 k6 r6 => ?_
    refine args_nil ?_
    refine sorted_call R r6 (by omega) fun v7 s7 rows7 k7 r7 p7 o7 => ?_
    have k47 := keeps_trans k6 k7
    have kx7 := kx.trans (keeps_ext k47)
    have G7 := G1.ext kx7
    have FC7 := FC.ext (keeps_ext k47)
    refine ev_bi G7 (by kernel_rfl) PyProof.Rows.boot_sorted ?_
    refine args_cons ?_
    refine ev_own G7 (fnOnce w).2 rfl (by kernel_rfl) ?_
    refine args_cons (Subscript_ (nmC FC7 hdue (nmL FC7 h2 ?_)))
    refine one s7 q.2 t2 (lawEnv w S) _ _ _ _ kx7 (by omega) (by omega) (by with_unfolding_all rfl) fun v8 r8 => ?_
    refine args_nil ⟨G7, ?_⟩
    refine once_call (n := n) emb_int.list (by decide) G7 (R.le (by omega)) r8 (by omega) fun v9 s9 k9 r9 => ?_
    refine args_nil ?_
    refine sorted_call R r9 (by omega) fun v10 s10 rows10 k10 r10 p10 o10 => ?_
    refine eq_rd emb_int.list.list R (r7.ext (keeps_ext (keeps_trans k9 k10))) r10 ?_
    rw [sorted_eq_iff p7 p10 o7 o10]
    exact ⟨.bool _, keeps_trans k47 (keeps_trans k9 k10)⟩
  · intro s5 s' k' hC hns' hr'
    refine lc_post_loc (env := lawEnv w S) (y := PySem.Str.ofString "same") k' hC hns' hr' F.toInCall.ns rfl rfl fun v h' tk hN hK rv' => ?_
    rw [List.filter_eq_self.mpr (fun _ _ => rfl), range_map] at rv'
    exact h _ _ v (icc_loc F hN hK) (if_pos rfl) (fun y hy => if_neg hy) (rv'.mono fun _ _ => trivial) (sk_loc F.toInCall.ns hK)
end
end
section
section
variable {prog : Program} {w : World} {A : Around} {R : Result → Shared → Prop} {s : Shared}
theorem for_stepX {target : PySem.Expr} {it : Value} {body orelse : List Stmt} {env : Env}
    (h : wpAny (model prog w) A (pyNext it) (fun r s₁ => match r with
      | none => wpAny (model prog w) A (execs orelse env) (fun f s₃ => R (.ok f) s₃) (notedBy (model prog w) A env fun x s' => R (.error x) s') s₁
      | some v => wpAny (model prog w) A (assign target env v) (fun _ s₂ => wpAny (model prog w) A (execs body env) (fun f s₃ => match f with
          | .next | .cont => codeAny (model prog w) A (.forLoop target it body orelse env) R s₃
          | .brk => R (.ok .next) s₃
          | .ret v => R (.ok (.ret v)) s₃) (notedBy (model prog w) A env fun x s' => R (.error x) s') s₂) (notedBy (model prog w) A env fun x s' => R (.error x) s') s₁) (notedBy (model prog w) A env fun x s' => R (.error x) s') s)
    (ht : ∀ v, letOwnedTupleGo target it v = pure () := by intro _; rfl) : codeAny (model prog w) A (.forLoop target it body orelse env) R s := by
  refine codeAny_of_tree ?_
  show wpAny _ A ((forTurn target it body orelse env).onRaise (fun x => do noteFrame x env; theTreesLotGoes x)) _ _ s
  refine wpAny_noted ?_
  simp only [forTurn]
  refine wpAny_bind (wpAny_standAt (wpAny_bind (wpAny_onRaise (wpAny_mono h (fun r s₁ h₁ => ?_) fun _ _ h' => wpAny_standAt h'))))
  cases r with
  | none => exact wpAny_pure ⟨rfl, codeAny_block h₁⟩
  | some v =>
    refine wpAny_bind (wpAny_of_eq (ht v) ?_)
    refine wpAny_bind (wpAny_mono h₁ (fun _ s₂ h₂ => wpAny_bind (wpAny_mono h₂ (fun f s₃ h₃ => ?_) fun _ _ h' => h')) fun _ _ h' => h')
    cases f with
    | next => exact wpAny_pure ⟨rfl, h₃⟩
    | cont => exact wpAny_pure ⟨rfl, h₃⟩
    | brk => exact wpAny_pure h₃
    | ret v => exact wpAny_pure h₃
end

section
variable {prog : Program} {w : World} {A : Around} {E : Value → Shared → Prop} {s : Shared} {n : Nat}
theorem rds_erase {P : Addr → Prop} {h : Heap} {vs : List Value} {ds : List PyData} (x : Rds P h vs ds) (j : Nat) : Rds P h (vs.eraseIdx j) (ds.eraseIdx j) := by
  rw [List.eraseIdx_eq_take_drop_succ, List.eraseIdx_eq_take_drop_succ]
  exact (x.take j).append (x.drop (j + 1))
theorem map_erase {α β : Type} (f : α → β) (l : List α) (j : Nat) : (l.eraseIdx j).map f = (l.map f).eraseIdx j := by
  rw [List.eraseIdx_eq_take_drop_succ, List.eraseIdx_eq_take_drop_succ, List.map_append, List.map_take, List.map_drop]
theorem remove_call {P P' : Addr → Prop} {D : Addr} {v : Value} {ws : List Value} {B : List (List Int)} {x : List Int} {Q : Value → Shared → Prop} (Rm' : Rm A n) (hl : PlainL s.heap D ws.toArray) (hr : Rds P s.heap ws (B.map (dl .int))) (hv : Rd P' s.heap v (dl .int x))
    (hPD : ∀ a, P a → a ≠ D) (hsz : ws.length ≤ 1000)
    (hok : x ∈ B → ∀ h' ws', PlainL h' D (List.toArray ws') → Rds P h' ws' ((B.erase x).map (dl .int)) → Heap.SameBut D s.heap h' → ws'.length ≤ 1000 → Q .none { s with heap := h' })
    (hbad : x ∉ B → ∀ h1 tk e, Heap.NewExc s.heap h1 e "ValueError" → E (.ref e) { s with heap := h1, toks := tk }) :
    wpAny (model prog w) A (call (.builtin "list.remove") [.ref D, v]) Q E s := by
  have hln := sizeLine_eq
  have hlen : ws.length = B.length := by rw [hr.length, List.length_map]
  obtain ⟨⟨cls, dd, data, sl⟩, nn, eo, co, od, ov⟩ := id hl
  simp only at co od ov
  subst co od ov
  obtain ⟨_, rds⟩ := hr.reads
  obtain ⟨_, rdv⟩ := hv.reads
  have hdep : min (PyData.depthAll (B.map (dl PyData.int))) (dl PyData.int x).depth ≤ 1 := Nat.le_trans (Nat.min_le_right _ _) (emb_int.list.dep x)
  have hat := PySem.SeqAt.items_eqAt (vs := ws.toArray) (A := A) rds rdv (emb_int.list.layAll B) (emb_int.list.lay x) (by have := Rm'.u65; omega)
  have hitem : ∀ m (hm : m < ws.toArray.size), PyData.eqv (PySem.SeqAt.readOf s.heap ws.toArray[m]) (dl PyData.int x) = (B.getD m [] == x) := fun m hm => by
    have hm' : m < ws.length := by simpa using hm
    obtain ⟨d, hd, rd⟩ := hr.get (k := m) (v := ws[m]) (by simp [hm'])
    rw [List.getElem?_map] at hd
    obtain ⟨y, hy, rfl⟩ := Option.map_eq_some_iff.mp hd
    obtain ⟨_, r⟩ := rd.reads
    rw [List.getElem_toArray, PySem.SeqAt.readOf_eq (emb_int.list.lay y) r, emb_int.list.eq, List.getD_eq_getElem?_getD, hy]
    rfl
  by_cases hx : x ∈ B
  · have hj : B.idxOf x < B.length := List.idxOf_lt_length_of_mem hx
    have hj' : B.idxOf x < ws.toArray.size := by rw [List.size_toArray]; omega
    refine call_meets PySem.F.slot_list_remove ⟨_, eo, rfl⟩ PySem.F.entry_list_remove (PySem.F.args_list_remove_2 _ _)
      (list_removeAt D ws.toArray nn sl v (fun y => PyData.eqv (PySem.SeqAt.readOf s.heap y) (dl PyData.int x)) (B.idxOf x) hj' ?_ ?_ (by rw [List.size_toArray]; omega)) ⟨eo, hat, ?_⟩
    · rw [hitem _ hj']
      simp [hj]
    · intro m hm hlt
      rw [hitem m hm, beq_eq_false_iff_ne]
      have hmB : m < B.length := by rw [List.size_toArray] at hm; omega
      intro q
      have e1 : B.getD m [] = B[m] := by simp [hmB]
      rw [e1] at q
      have hq := List.not_of_lt_findIdx (p := (· == x)) (xs := B) (i := m) hlt
      simp [q] at hq
    · have s1 := Heap.SameBut.update s.heap D (Obj.mapSeq fun xs => xs.eraseIdxIfInBounds (B.idxOf x))
      obtain ⟨n', hd'⟩ := Obj.data_mapSeq (o := { cls := .type "list", dict := none, data := .seq ws.toArray nn, slots := sl }) rfl (fun xs => xs.eraseIdxIfInBounds (B.idxOf x))
      have hself := Heap.get?_update_self (Obj.mapSeq fun xs => xs.eraseIdxIfInBounds (B.idxOf x)) eo (by rfl)
      have earr : ws.toArray.eraseIdxIfInBounds (B.idxOf x) = (ws.eraseIdx (B.idxOf x)).toArray := by simp
      rw [earr] at hd'
      refine hok hx _ (ws.eraseIdx (B.idxOf x)) ⟨_, n', hself, rfl, rfl, hd'⟩ ?_ s1 (Nat.le_trans (List.length_eraseIdx_le ..) hsz)
      have e2 : B.erase x = B.eraseIdx (B.idxOf x) := List.erase_eq_eraseIdx_of_idxOf rfl
      rw [e2, map_erase]
      exact (rds_erase hr _).imp (fun _ p => p) fun b o _ _ pb e _ => s1.extBut b o (hPD b pb) e
  · refine call_meets PySem.F.slot_list_remove ⟨_, eo, rfl⟩ PySem.F.entry_list_remove (PySem.F.args_list_remove_2 _ _)
      (list_remove_noneAt D ws.toArray nn sl v (fun y => PyData.eqv (PySem.SeqAt.readOf s.heap y) (dl PyData.int x)) ?_) ⟨eo, hat, Rm'.hh, fun h' tk e q => hbad hx h' tk e q⟩
    intro m hm
    rw [hitem m hm, beq_eq_false_iff_ne]
    have hmB : m < B.length := by rw [List.size_toArray] at hm; omega
    intro q
    have e1 : B.getD m [] = B[m] := by simp [hmB]
    rw [e1] at q
    exact hx (q ▸ List.getElem_mem _)
end
end
section
noncomputable abbrev cmpEnv (w : World) (S : Nat) : Env := callEnv (fnCompare w).1 S 106
section
variable {prog : Program} {w : World} {A : Around} {R : Result → Shared → Prop} {n : Nat} {s₀ sA : Shared}
/-- for elem in first: t.remove(elem) -/
theorem rem_loop {Lw Fa D I : Addr} {oLw : Obj} {env0 : Env} {fvs : List Value} {As : List (List Int)} {res : Bool} {orelse : List Stmt} {pt p1 p2 p3 p4 ps : Pos}
    {pl : Sem Bool} (hmc : eval (.Call (.Attribute (.Name "t" p1) "remove" p2) [.Name "elem" p3] [] p4) (cmpEnv w s₀.heap.objs.size) = (do
      let ov ← eval (.Name "t" p1) (cmpEnv w s₀.heap.objs.size)
      standAt p2.atName
      let (f, first) ← holding [ov] (getMethod ov "remove" pl)
      callWith p4 f first (backTo p4 (starEach [.Name "elem" p3] (cmpEnv w s₀.heap.objs.size))) [])) (Rm' : Rm A n) (hfr : A.frames = some [cmpEnv w s₀.heap.objs.size, env0]) (hf0 : env0.frame = some Lw) (hk0 : env0.scope.kind ≠ .module) (hLw : s₀.heap.get? Lw = some oLw) (hdLw : ∀ vs, oLw.data ≠ .fields vs)
    (hFa : sA.heap.IsList Fa fvs.toArray) (hAs : Rds (fun a => ∃ o, sA.heap.get? a = some o) sA.heap fvs (As.map (dl .int))) (fD : sA.heap.get? D = none) (fI : sA.heap.get? I = none) (hDI : D ≠ I) (hFD : Fa ≠ D) (hFI : Fa ≠ I) (kA : Ext s₀.heap sA.heap) :
    ∀ (es : List (List Int)) (i : Nat) (s' : Shared) (m cm : Str → Option Value) (ws : List Value) (B : List (List Int)), As.drop i = es → i ≤ As.length → InCallC s₀ (cmpEnv w s₀.heap.objs.size).locals m (cmpEnv w s₀.heap.objs.size).cells cm s' → SK sA.heap s'.heap → m "t" = some (.ref D) →
      s'.heap.IsListIter I Fa i → PlainL s'.heap D ws.toArray → Rds (fun a => ∃ o, sA.heap.get? a = some o) s'.heap ws (B.map (dl .int)) → ws.length ≤ 1000 → es.isPerm B = res →
      (∀ s'' m' ws', InCallC s₀ (cmpEnv w s₀.heap.objs.size).locals m' (cmpEnv w s₀.heap.objs.size).cells cm s'' → m' "t" = some (.ref D) → PlainL s''.heap D (List.toArray ws') → ws'.length ≤ 1000 → ws'.isEmpty = res → wpAny (model prog w) A (execs orelse (cmpEnv w s₀.heap.objs.size)) (fun f s₃ => R (.ok f) s₃) (notedBy (model prog w) A (cmpEnv w s₀.heap.objs.size) fun x s' => R (.error x) s') s'') →
      (∀ s'' m' e T h2 tk, InCallC s₀ (cmpEnv w s₀.heap.objs.size).locals m' (cmpEnv w s₀.heap.objs.size).cells cm s'' → Fl [s₀.heap.objs.size, Lw] s''.heap h2 e T (rawInt s₀.heap.objs.size) → res = false → R (.error (.ref e)) { s'' with heap := h2, toks := tk }) →
      codeAny (model prog w) A (.forLoop (.Name "elem" pt) (.ref I) [.Expr (.Call (.Attribute (.Name "t" p1) "remove" p2) [.Name "elem" p3] [] p4) ps] orelse (cmpEnv w s₀.heap.objs.size)) R s' := by
  have hflen : fvs.length = As.length := by rw [hAs.length, List.length_map]
  intro es
  induction es with
  | nil =>
    intro i s' m cm ws B hes hi F sk hm hit hl hr hsz hres hok hbad
    have hiA : i = As.length := by
      have := congrArg List.length hes
      simp at this; omega
    refine for_stepX ?_ (by intro _; rfl)
    refine wpAny_pyNext_list_end Rm'.hh hit (isList_sk hFa sk) (by simp; omega) fun h' he' => ?_
    dsimp only
    have fI0 : s₀.heap.get? I = none := none_back kA fI
    refine hok _ m ws (icc_liter (tk := s'.toks) F hit fI0 he') hm (hl.extBut he' hDI) hsz ?_
    have hB : ws.length = B.length := by rw [hr.length, List.length_map]
    rw [← hres]
    cases ws <;> cases B <;> simp_all [List.isPerm]
  | cons a es ih =>
    intro i s' m cm ws B hes hi F sk hm hit hl hr hsz hres hok hbad
    have hiA : i < As.length := by
      have := congrArg List.length hes
      simp at this; omega
    have e1 : As.drop i = As[i] :: As.drop (i + 1) := List.drop_eq_getElem_cons hiA
    rw [e1] at hes
    injection hes with ha hes
    have fI0 : s₀.heap.get? I = none := none_back kA fI
    have fD0 : s₀.heap.get? D = none := none_back kA fD
    obtain ⟨v, hv, rv⟩ := hAs.at (k := i) (d := dl .int a) (by simp [hiA, ha])
    refine for_stepX ?_ (by intro _; rfl)
    refine wpAny_pyNext_list_item hit (isList_sk hFa sk) (x := v) (by simpa using hv) fun h1 hit1 hs1 => ?_
    dsimp only
    have F1 := icc_liter (tk := s'.toks) F hit fI0 hs1.extBut
    have sk1 : SK sA.heap h1 := fun b o e x1 x2 => hs1.extBut b o (fun q => by rw [q, fI] at e; cases e) (sk b o e x1 x2)
    have hl1 : PlainL h1 D ws.toArray := hl.extBut hs1.extBut hDI
    have hr1 : Rds (fun a => ∃ o, sA.heap.get? a = some o) h1 ws (B.map (dl .int)) := hr.imp (fun _ p => p) fun b o _ _ ⟨o', p⟩ e _ => hs1.extBut b o (fun q => by rw [q, fI] at p; cases p) e
    refine wpAny_assign_Name (stL F1 fun s2 F2 sk2 => ?_)
    have FS2 := icc_fs F2
    have sk02 : SK sA.heap s2.heap := sk1.trans sk2
    have hl2 := plainL_sk hl1 sk2
    have hr2 := hr1.sk sk2
    have rv2 := rv.sk sk02
    refine wpAny_execs_cons (wpAny_Expr ?_ rfl rfl)
    refine MethodCall_ (pl := pl) ?_ hmc
    refine nmL FS2 ((if_neg (by decide)).trans hm) ?_
    obtain ⟨o, nn, eo, co, od, ov⟩ := id hl2
    refine getMethod_list_of PySem.F.slot_list_remove PySem.F.type_list_remove (plain_list hl2) ⟨o, eo, od⟩ ?_
    refine callWith_method1 (args_cons (nmL FS2 (if_pos rfl) (args_nil ?_)))
    refine remove_call Rm' hl2 hr2 rv2 (fun a ⟨o, p⟩ q => by rw [q, fD] at p; cases p) hsz ?_ ?_
    · intro hx h3 ws3 hl3 hr3 hs3 hz3
      dsimp only
      refine wpAny_execs_nil ?_
      dsimp only
      have F3 := icc_app (tk := s2.toks) F2 hl2 fD0 hs3
      have sk3 : SK sA.heap h3 := fun b o e x1 x2 => hs3.extBut b o (fun q => by rw [q, fD] at e; cases e) (sk02 b o e x1 x2)
      refine ih (i + 1) _ _ cm ws3 (B.erase a) hes (by omega) F3 sk3 ((if_neg (by decide)).trans hm) ?_ hl3 hr3 hz3 ?_ hok hbad
      · exact liter_ext (isListIter_sk hit1 sk2) hs3 (Ne.symm hDI)
      · rw [← hres]
        simp [List.isPerm, hx]
    · intro hx h1' tk e hne
      obtain ⟨oL, esL, epL, hoL, hdL, _, _⟩ := F2.toInCall.ns
      refine raise_note (s := s2) (L := s₀.heap.objs.size) (Lw := Lw) (oL := oL) (oLw := oLw) hfr rfl hf0 (show (ScopeKind.function : ScopeKind) ≠ .module by decide) hk0 hoL (F2.toInCall.keep _ _ hLw) (fun vs q => by rw [hdL] at q; cases q) hdLw hne fun h2 T fl => ?_
      refine hbad s2 _ e T h2 tk F2 fl ?_
      rw [← hres]
      simp [List.isPerm, hx]
end
end
section
section
variable {prog : Program} {w : World} {A : Around} {E : Value → Shared → Prop} {s : Shared} {mg mb : Str → Option Value} {n : Nat} {Q : Value → Shared → Prop}
theorem stLx {s₀ : Shared} {m cm : Str → Option Value} {env : Env} {n : Str} {v : Value} {Q : Unit → Shared → Prop} (x : InCallC s₀ env.locals m env.cells cm s)
    (h : ∀ s', InCallC s₀ env.locals (fun y => if y = n then some v else m y) env.cells cm s' → SK s.heap s'.heap → (∀ b o, b ≠ env.locals → s.heap.get? b = some o → s'.heap.get? b = some o) → Q () s')
    (hk : env.scope.kind = .function := by rfl) (hl : env.kindOf n = some .local := by rfl) : wpAny (model prog w) A (storeName env n v) Q E s := by
  refine wpAny_storeName_local hl x.toInCall.ns (fun h' hn' hs' => ?_) (by rw [hk]; rfl)
  have hk' : ∀ b o, b ≠ env.locals → s.heap.get? b = some o → h'.get? b = some o := fun b o hb e => hs'.extBut b o hb e
  exact h _ (icc_loc x hn' hk') (sk_loc x.toInCall.ns hk') hk'
theorem firsts_le {α : Type} [BEq α] [LawfulBEq α] : ∀ l : List α, (firsts l).length ≤ l.length := by
  refine snocInd (by simp [firsts]) fun l y ih => ?_
  rw [firsts_snoc]
  split <;> simp <;> omega
set_option maxHeartbeats 2000000 in
theorem compare_call {hb : Heap} {Lw : Addr} {oLw : Obj} {env0 : Env} {P1 P2 : Addr → Prop} {v1 v2 : Value} {l1 l2 : List (List Int)} (Gb : Gl (KK w) mg mb hb) (kb : Ext hb s.heap) (bL : hb.get? Lw = none) (hLw : s.heap.get? Lw = some oLw) (hdLw : ∀ vs, oLw.data ≠ .fields vs)
    (hfr : A.frames = some [env0]) (hf0 : env0.frame = some Lw) (hk0 : env0.scope.kind ≠ .module) (R : Rm A (n + 2)) (h1 : Rd P1 s.heap v1 (dl (dl .int) l1)) (h2 : Rd P2 s.heap v2 (dl (dl .int) l2)) (z1 : l1.length ≤ 500) (z2 : l2.length ≤ 500)
    (h : ∀ h' tk, KS [Lw] s.heap h' → Q (.bool ((firsts l1).isPerm (firsts l2))) { s with heap := h', toks := tk }) : wpAny (model prog w) A (call (.ref 106) [v1, v2]) Q E s := by
  have hln := sizeLine_eq
  have G := Gb.ext kb
  refine enter (args := ⟨[v1, v2], []⟩) (f := 106) (binds := [("first_args", v1), ("second_args", v2)]) G R (fnCompare w).2 rfl rfl (by kernel_rfl) (BindsTo.of_eq rfl) rfl (locs rfl) rfl (fun s1 E' F1 _ => ?_)
  have R1 := R.deeper (callEnv (fnCompare w).1 s.heap.objs.size 106)
  have hfr1 : (A.deeper (callEnv (fnCompare w).1 s.heap.objs.size 106)).frames = some [callEnv (fnCompare w).1 s.heap.objs.size 106, env0] := by
    show A.frames.map _ = _
    rw [hfr]; rfl
  have FS1 := icc_fs F1
  have G1 := G.ext (icc_ext F1)
  refine wpAny_execs_cons (wpAny_Assign_Name ?_)
  refine ev_own G1 (fnDedup w).2 rfl (by kernel_rfl) ?_
  refine args_cons (nmL FS1 rfl (args_nil ⟨G1, ?_⟩))
  refine dedup_call (n := n) emb_int.list (by decide) G1 R1 (h1.ext (icc_ext F1)) (by omega) fun w1 s2 k2 r2 => ?_
  refine stL (icc_up F1 k2) fun s3 F3 sk3 => ?_
  have FS3 := icc_fs F3
  have G3 := G.ext (icc_ext F3)
  have r3 := r2.sk sk3
  refine wpAny_execs_cons (wpAny_Assign_Name ?_)
  refine ev_own G3 (fnDedup w).2 rfl (by kernel_rfl) ?_
  refine args_cons (nmL FS3 rfl (args_nil ⟨G3, ?_⟩))
  refine dedup_call (n := n) emb_int.list (by decide) G3 R1 (h2.ext (icc_ext F3)) (by omega) fun w2 s4 k4 r4 => ?_
  refine stL (icc_up F3 k4) fun s5 F5 sk5 => ?_
  have FS5 := icc_fs F5
  have G5 := G.ext (icc_ext F5)
  have r35 := ((r3.ext (keeps_ext k4)).sk sk5)
  have r5 := r4.sk sk5
  have q1 := firsts_le l1
  have q2 := firsts_le l2
  obtain ⟨aA, avs, rfl, hla, hra, _⟩ := (r35.stand.mono (P' := fun a => ∃ o, s5.heap.get? a = some o) fun _ q => q.2).plain_inv
  obtain ⟨bA, bvs, rfl, hlb, hrb, _⟩ := (r5.stand.mono (P' := fun a => ∃ o, s5.heap.get? a = some o) fun _ q => q.2).plain_inv
  have hal : avs.length = (firsts l1).length := by rw [hra.length, List.length_map]
  have hbl : bvs.length = (firsts l2).length := by rw [hrb.length, List.length_map]
  refine wpAny_execs_cons (wpAny_Assign_Name ?_)
  refine ev_ty G5 (by kernel_rfl) boot_list ?_
  refine args_cons (nmL FS5 rfl (args_nil ?_))
  refine listOf_call (plain_list hlb) (fun D s6 k6 fD hl6 => ?_) (by omega)
  refine stLx (icc_up F5 k6) fun s7 F7 sk7 kx7 => ?_
  have FS7 := icc_fs F7
  have hl7 := plainL_sk hl6 sk7
  have sk57 : SK s5.heap s7.heap := (SK.ext (keeps_ext k6)).trans sk7
  refine wpAny_execs_cons (wpAny_Try_except (wpAny_execs_cons (wpAny_For ?_)))
  refine nmL FS7 rfl ?_
  refine wpAny_pyIter_list (isList_sk (plain_list hla) sk57) ?_
  obtain ⟨I, hI⟩ : ∃ I, s7.heap.objs.size = I := ⟨_, rfl⟩
  have fI7 : s7.heap.get? I = none := hI ▸ fresh_none (Nat.le_refl _)
  have kI : Keeps s7 { s7 with heap := s7.heap.push { cls := .type "list_iterator", data := .fields #[.ref aA, .int 0 0] } } := ⟨_, s7.toks, rfl, Ext.push _ _⟩
  have hit8 : (s7.heap.push { cls := .type "list_iterator", data := .fields #[.ref aA, .int 0 0] }).IsListIter I aA 0 := hI ▸ ⟨_, Heap.get?_push_size _ rfl, rfl, rfl⟩
  rw [hI]
  have F8 := icc_up F7 kI
  have e8 := keeps_ext kI
  have hDI : D ≠ I := fun q => by obtain ⟨o, _, e, _⟩ := hl7; rw [q, fI7] at e; cases e
  have fI5 : s5.heap.get? I = none := by
    cases q : s5.heap.get? I with
    | none => rfl
    | some o =>
      by_cases hIL : I = (callEnv (fnCompare w).1 s.heap.objs.size 106).locals
      · obtain ⟨oL, _, _, eL, _⟩ := F7.toInCall.ns
        rw [← hIL, fI7] at eL; cases eL
      · have := kx7 I o hIL (keeps_ext k6 _ _ q)
        rw [fI7] at this; cases this
  refine rem_loop (pl := _) (sA := s5) (Fa := aA) (D := D) (I := I) (fvs := avs) (As := firsts l1) (res := (firsts l1).isPerm (firsts l2)) rfl R1 hfr1 hf0 hk0 hLw hdLw (plain_list hla) hra fD fI5 hDI ?_ ?_ (icc_ext F5) (firsts l1) 0 _ _ _ bvs (firsts l2) rfl (Nat.zero_le _) F8 (sk57.trans (SK.ext e8)) rfl hit8 (hl7.keeps e8) ?_ (by omega) rfl ?_ ?_
  · intro q
    obtain ⟨o, eo, _⟩ := plain_list hla
    rw [q, fD] at eo; cases eo
  · intro q
    obtain ⟨o, eo, _⟩ := plain_list hla
    rw [q, fI5] at eo; cases eo
  · exact ((hrb.ext (keeps_ext k6)).sk sk7).ext e8
  · -- the loop ends: not t
    intro s9 m9 ws9 F9 hm9 hl9 hz9 hres9
    refine wpAny_execs_nil ?_
    dsimp only
    refine wpAny_execs_nil ?_
    dsimp only
    refine wpAny_execs_nil ?_
    dsimp only
    have FS9 := icc_fs F9
    refine wpAny_execs_cons (wpAny_Return_some (wpAny_UnaryOp ?_))
    refine nmL FS9 hm9 ?_
    refine not_value (wpAny_truthy_list (plain_list hl9) (by rw [List.size_toArray]; omega) ?_)
    have e9 : (!(!ws9.toArray.isEmpty)) = (firsts l1).isPerm (firsts l2) := by
      rw [Bool.not_not, ← hres9]
      cases ws9 <;> rfl
    rw [e9]
    obtain ⟨h9, t9, rfl⟩ := F9.toInCall.same
    exact h h9 (t9 + 1 + 1) (KS.of_ext (icc_ext F9))
  · -- the loop raises
    intro s9 m9 e T h9 tk9 F9 fl hres
    have hS : s.heap.get? s.heap.objs.size = none := fresh_none (Nat.le_refl _)
    have hT : T ∉ [s.heap.objs.size, Lw] := fun hm => by
      have h0 := fl.T0
      rcases List.mem_cons.mp hm with z | hm
      · obtain ⟨oL, _, _, eL, _⟩ := F9.toInCall.ns
        have eL' : s9.heap.get? s.heap.objs.size = some oL := eL
        rw [← z, h0] at eL'; cases eL'
      · have eL := icc_ext F9 _ _ hLw
        rw [← List.mem_singleton.mp hm, h0] at eL; cases eL
    dsimp only
    refine Fl.cameBack (s := { s9 with heap := h9, toks := tk9 }) fl hT (L := s.heap.objs.size) rfl fun h10 fl10 => ?_
    refine Fl.again (s := { s9 with heap := h10, toks := tk9 }) fl10 (L := s.heap.objs.size) rfl ?_
    refine Fl.set (s := { s9 with heap := h10, toks := tk9 }) (f := none) fl10 hT fun h11 fl11 _ => ?_
    have kb11 : Ext hb h11 := fun b o eb => fl11.ks.1 b o (fun hm => by
      rcases List.mem_cons.mp hm with z | hm
      · have := kb b o eb; rw [z, hS] at this; cases this
      · rw [List.mem_singleton.mp hm, bL] at eb; cases eb) (icc_ext F9 b o (kb b o eb))
    have G11 : Gl (KK w) mg mb h11 := Gb.ext kb11
    refine wpAny_handleBy_builtin (X := "ValueError") (T := "ValueError") (b := true) PySem.F.isExc_ValueError PySem.F.notTuple_ValueError PySem.F.self_ValueError ?_
    refine nmB (s := { s9 with heap := h11, toks := tk9 }) (v := .type "ValueError") G11 (by kernel_rfl) (by decide +kernel) (by decide) ?_
    obtain ⟨oe, vse, b1, b2, b3, b4⟩ := fl11.there
    refine ⟨rfl, ⟨oe, b1, b2⟩, ?_⟩
    rw [if_pos rfl]
    refine Fl.set (s := { s9 with heap := h11, toks := tk9 }) (f := none) fl11 hT fun h12 fl12 _ => ?_
    refine wpAny_execs_cons (wpAny_Return_some (wpAny_Constant_bool ?_))
    obtain ⟨h9', t9', rfl⟩ := F9.toInCall.same
    have hq := h h12 tk9 ⟨fun b o hb' eb => fl12.ks.1 b o (fun hm => by
      rcases List.mem_cons.mp hm with z | hm
      · rw [z, hS] at eb; cases eb
      · exact hb' hm) (icc_ext F9 b o eb), fun b hb' o eb => fl12.ks.2 b (List.mem_cons_of_mem _ hb') o (icc_ext F9 b o eb)⟩
    rw [hres] at hq
    exact hq
end
end
section
def KeepsX (Lw : Addr) (s s' : Shared) : Prop := ∃ h tk, s' = { s with heap := h, toks := tk } ∧ KS [Lw] s.heap h
theorem KeepsX.of {Lw : Addr} {s s' : Shared} (k : Keeps s s') : KeepsX Lw s s' := by
  obtain ⟨h, tk, e, k⟩ := k
  exact ⟨h, tk, e, KS.of_ext k⟩
def KO (own : List Addr) (D Lw : Addr) (h h' : Heap) : Prop := (∀ b o, b ∉ own → b ≠ D → b ≠ Lw → h.get? b = some o → h'.get? b = some o) ∧ ∀ o, h.get? Lw = some o → ∃ sl, h'.get? Lw = some { o with slots := sl }
theorem KO.trans {own : List Addr} {D Lw : Addr} {a b c : Heap} (x : KO own D Lw a b) (y : KO own D Lw b c) : KO own D Lw a c :=
  ⟨fun p o h1 h2 h3 e => y.1 p o h1 h2 h3 (x.1 p o h1 h2 h3 e), fun o e => let ⟨_, e1⟩ := x.2 o e; let ⟨sl, e2⟩ := y.2 _ e1; ⟨sl, e2⟩⟩
theorem KO.of_ks {own : List Addr} {D Lw : Addr} {h h' : Heap} (x : KS [Lw] h h') : KO own D Lw h h' :=
  ⟨fun b o _ _ h3 e => x.1 b o (fun q => h3 (List.mem_singleton.mp q)) e, fun o e => x.2 Lw (by simp) o e⟩
theorem KO.of_but {own : List Addr} {D Lw : Addr} {h h' : Heap} (hLo : Lw ∉ own) (x : ∀ b o, b ∉ own → h.get? b = some o → h'.get? b = some o) : KO own D Lw h h' :=
  ⟨fun b o h1 _ _ e => x b o h1 e, fun o e => ⟨o.slots, x Lw o hLo e⟩⟩
theorem KO.of_D {own : List Addr} {D Lw : Addr} {h h' : Heap} (hLD : Lw ≠ D) (x : ∀ b o, b ≠ D → h.get? b = some o → h'.get? b = some o) : KO own D Lw h h' :=
  ⟨fun b o _ h2 _ e => x b o h2 e, fun o e => ⟨o.slots, x Lw o hLD e⟩⟩
section
variable {prog : Program} {w : World} {A : Around} {R : Result → Shared → Prop} {s : Shared}
theorem lc_loopX {elt target iter : PySem.Expr} {scope : Scope} {pos : Pos} {I D Lw : Addr} {cenv : Env} {n : Nat} {own fp : List Addr} {St Tg : Nat → Heap → Prop}
    (S : Srcs prog w A I target cenv n own fp St Tg) (g : Nat → Bool) (hDf : D ∉ fp) (hLf : Lw ∉ fp) (hLD : Lw ≠ D) (hn : n ≤ sizeLine) (hst : St 0 s.heap) (hacc : PlainL s.heap D #[])
    (elts : ∀ i s₁ E', i < n → Tg i s₁.heap → KO own D Lw s.heap s₁.heap → wpAny (model prog w) A (eval elt cenv) (fun y s₂ => y = .bool (g i) ∧ KeepsX Lw s₁ s₂) E' s₁)
    (hR : ∀ h' tk m', h'.Ns cenv.locals m' → PlainL h' D (List.toArray ((List.range n).map fun i => Value.bool (g i))) → KO own D Lw s.heap h' → R (.ok .next) { s with heap := h', toks := tk }) :
    codeAny (model prog w) A (.compLoop (.ListComp elt [⟨target, iter, [], 0⟩] scope pos) 0 (.ref I) (.ref D) cenv) R s := by
  have hDo : D ∉ own := fun h => hDf (S.sub _ h)
  have hLo : Lw ∉ own := fun h => hLf (S.sub _ h)
  refine lc_tests (fun k s' => ∃ h' tk i, s' = { s with heap := h', toks := tk } ∧ i ≤ n ∧ k = n + 1 - i ∧ St i h' ∧ PlainL h' D (List.toArray ((List.range i).map fun i => Value.bool (g i))) ∧ KO own D Lw s.heap h') ?_ (n + 1)
    ⟨s.heap, s.toks, 0, rfl, Nat.zero_le _, rfl, hst, hacc, ⟨fun _ _ _ _ _ e => e, fun o e => ⟨o.slots, e⟩⟩⟩
  rintro k s' ⟨H, tk, i, rfl, hi, rfl, hst', hacc', hk⟩
  by_cases hlt : i < n
  · refine S.step i _ _ _ _ hlt hst' (fun v s₂ h => h) fun h₁ tk₁ hst₁ hTg hk₁ => ?_
    have hk1 : KO own D Lw s.heap h₁ := hk.trans (KO.of_but hLo hk₁)
    have hacc₁ : PlainL h₁ D (List.toArray ((List.range i).map fun i => Value.bool (g i))) := by
      obtain ⟨o, nn, e, r⟩ := hacc'
      exact ⟨o, nn, hk₁ _ _ hDo e, r⟩
    refine wpAny_tests_nil ?_
    simp only [if_true]
    refine wpAny_mono (elts i _ _ hlt hTg hk1) (fun y s₄ h₄ => ?_) fun _ _ e => e
    obtain ⟨rfl, h₄, tk₄, rfl, hk₄⟩ := h₄
    have hacc₄ : PlainL h₄ D (List.toArray ((List.range i).map fun i => Value.bool (g i))) := by
      obtain ⟨o, nn, e, r⟩ := hacc₁
      exact ⟨o, nn, hk₄.1 _ _ (fun q => hLD (List.mem_singleton.mp q).symm) e, r⟩
    refine list_append_plainL (hsz := by rw [List.size_toArray, List.length_map, List.length_range]; omega) hacc₄ fun h₅ hl₅ hs₅ => ?_
    have hk5 : ∀ b o, b ≠ D → h₄.get? b = some o → h₅.get? b = some o := fun b o hb e => hs₅.extBut b o hb e
    refine ⟨n + 1 - (i + 1), by omega, h₅, tk₄, i + 1, rfl, hlt, rfl, ?_, ?_, (hk1.trans (KO.of_ks hk₄)).trans (KO.of_D hLD hk5)⟩
    · exact S.frame _ _ _ hst₁ fun b hb o e => hk5 b o (fun q => hDf (q ▸ hb)) (hk₄.1 b o (fun q => hLf (List.mem_singleton.mp q ▸ hb)) e)
    · rw [List.range_succ, List.map_append]
      simpa using hl₅
  · have hin : i = n := by omega
    subst hin
    refine S.fin _ _ _ hst' fun h₁ tk₁ hns hk₁ => ?_
    obtain ⟨m', hm'⟩ := hns
    refine hR h₁ tk₁ m' hm' ?_ (hk.trans (KO.of_but hLo hk₁))
    obtain ⟨o, nn, e, r⟩ := hacc'
    exact ⟨o, nn, hk₁ _ _ hDo e, r⟩
end

section
variable {prog : Program} {w : World} {A : Around} {E : Value → Shared → Prop}
/-- [bool for x, y in pairs], the element's call may touch a frame's slots -/
theorem lc_pairsX {s : Shared} {env : Env} {cl : List (Str × Addr)} {elt iter : PySem.Expr} {x y : Str} {px py pt : Pos} {kt : Nat} {scope : Scope} {pos : Pos} {Q : Value → Shared → Prop}
    {ax Lw : Addr} {oLw : Obj} {items : List Value} {prs : List (Int × Int)} {P' : Addr → Prop} (g : Int × Int → Bool)
    (hh : A.handled = none) (hl : s.heap.IsList ax items.toArray) (hrd : Rds P' s.heap items (prs.map fun q => .list [.int q.1, .int q.2])) (hn : items.length ≤ sizeLine)
    (hLw : s.heap.get? Lw = some oLw) (hdLw : ∀ vs n, oLw.data ≠ .seq vs n)
    (hcell : ∀ y ∈ scope.names, y.2 ≠ .cell) (hkind : scope.kind = .function) (hx : scope.names.lookup x = some .local) (hy : scope.names.lookup y = some .local) (hxy : x ≠ y)
    (elts : ∀ C (i : Nat) t₁ t₂ q s₁ m E', prs[i]? = some q → KS [Lw] s.heap s₁.heap → s₁.heap.Ns C m → m x = some (.int q.1 t₁) → m y = some (.int q.2 t₂) →
      wpAny (model prog w) A (eval elt (compEnvC scope cl C env)) (fun y s₂ => y = .bool (g q) ∧ KeepsX Lw s₁ s₂) E' s₁)
    (post : ∀ v h' tk, KS [Lw] s.heap h' → Rd (fun _ => True) h' v (.list (prs.map fun q => .bool (g q))) → Q v { s with heap := h', toks := tk }) :
    wpAny (model prog w) A (pyIter (.ref ax)) (LcBody prog w A E env cl elt [⟨.Tuple [.Name x px, .Name y py] kt pt, iter, [], 0⟩] scope pos none Q) E s := by
  refine wpAny_pyIter_list hl ?_
  have hax : ax < s.heap.objs.size := by obtain ⟨o, e, _⟩ := hl; exact Heap.lt_size e
  have hil : items.length = prs.length := by rw [hrd.length, List.length_map]
  have each : ∀ j, j < items.length → ∃ (T : Addr) (t₁ t₂ : Tok) (q : Int × Int), prs[j]? = some q ∧ items[j]? = some (.ref T) ∧ s.heap.IsList T #[.int q.1 t₁, .int q.2 t₂] := fun j hj => by
    have hj' : j < prs.length := hil ▸ hj
    obtain ⟨v, ev, rv⟩ := hrd.at (k := j) (d := .list [.int prs[j].1, .int prs[j].2]) (by simp [hj'])
    obtain ⟨T, vs, rfl, hT, rr, _⟩ := rv.list_inv
    cases rr with
    | cons r1 rr =>
      cases rr with
      | cons r2 rr =>
        cases rr
        obtain ⟨t₁, rfl⟩ := r1.int_inv
        obtain ⟨t₂, rfl⟩ := r2.int_inv
        exact ⟨T, t₁, t₂, prs[j], by simp [hj'], ev, hT⟩
  let Ts : Nat → Addr := fun j => if h : j < items.length then (each j h).choose else 0
  let t1 : Nat → Tok := fun j => if h : j < items.length then (each j h).choose_spec.choose else 0
  let t2 : Nat → Tok := fun j => if h : j < items.length then (each j h).choose_spec.choose_spec.choose else 0
  let q : Nat → Int × Int := fun j => if h : j < items.length then (each j h).choose_spec.choose_spec.choose_spec.choose else (0, 0)
  have spec : ∀ j, j < items.length → prs[j]? = some (q j) ∧ items[j]? = some (.ref (Ts j)) ∧ s.heap.IsList (Ts j) #[.int (q j).1 (t1 j), .int (q j).2 (t2 j)] := fun j hj => by
    have e1 : Ts j = (each j hj).choose := dif_pos hj
    have e2 : t1 j = (each j hj).choose_spec.choose := dif_pos hj
    have e3 : t2 j = (each j hj).choose_spec.choose_spec.choose := dif_pos hj
    have e4 : q j = (each j hj).choose_spec.choose_spec.choose_spec.choose := dif_pos hj
    rw [e1, e2, e3, e4]
    exact (each j hj).choose_spec.choose_spec.choose_spec.choose_spec
  have hTl : ∀ j, j < items.length → Ts j < s.heap.objs.size := fun j hj => by obtain ⟨o, e, _⟩ := (spec j hj).2.2; exact Heap.lt_size e
  let s₂ : Shared := { s with heap := s.heap.push { cls := .type "list_iterator", data := .fields #[.ref ax, .int 0 0] } }
  have k₁₂ : Ext s.heap s₂.heap := Ext.push _ _
  have hsz : s₂.heap.objs.size = s.heap.objs.size + 1 := Heap.size_push ..
  have e0 : cellsFrom (s₂.heap.objs.size + 1 + 1) scope.names cl = cl := cellsFrom_free hcell _ _
  have eE : lcEnv scope cl s₂.heap env = compEnvC scope cl (s₂.heap.objs.size + 1) env := by unfold lcEnv; rw [e0]
  have hlen : items.toArray.size = items.length := List.size_toArray
  have hDn : s.heap.get? s₂.heap.objs.size = none := none_back k₁₂ (fresh_none (Nat.le_refl _))
  have hCn : s.heap.get? (s₂.heap.objs.size + 1) = none := none_back k₁₂ (fresh_none (Nat.le_succ _))
  have hIn : s.heap.get? s.heap.objs.size = none := fresh_none (Nat.le_refl _)
  have neL : ∀ b, s.heap.get? b = none → Lw ≠ b := fun b hb z => by rw [← z, hLw] at hb; cases hb
  have hLax : Lw ≠ ax := fun z => by
    obtain ⟨o, e, _, nn, hd⟩ := hl
    rw [← z, hLw] at e; cases e
    exact hdLw _ _ hd
  have hLT : ∀ j, j < items.length → Lw ≠ Ts j := fun j hj z => by
    obtain ⟨o, e, _, nn, hd⟩ := (spec j hj).2.2
    rw [← z, hLw] at e; cases e
    exact hdLw _ _ hd
  have hC2 : ∀ a : Addr, a < s.heap.objs.size → a ≠ s₂.heap.objs.size + 1 := fun a ha => by rw [hsz]; exact Nat.ne_of_lt (Nat.lt_succ_of_lt (Nat.lt_succ_of_lt ha))
  have Sx := srcs_lists (prog := prog) (w := w) (A := A) (I := s.heap.objs.size) (ax := ax) (items := items.toArray) (Ts := Ts) (a := fun j => .int (q j).1 (t1 j)) (b := fun j => .int (q j).2 (t2 j))
    (cenv := compEnvC scope cl (s₂.heap.objs.size + 1) env) (x := x) (y := y) (px := px) (py := py) (pt := pt) (kt := kt) hh
    (fun j hj => by rw [hlen] at hj; simpa using (spec j hj).2.1) (fun j hj => by rw [hlen] at hj; exact Nat.ne_of_lt (hTl j hj)) (fun j hj => by rw [hlen] at hj; exact hC2 _ (hTl j hj)) (Nat.ne_of_lt hax) (hC2 _ hax)
    (by show s.heap.objs.size ≠ s₂.heap.objs.size + 1; rw [hsz]; exact Nat.ne_of_lt (Nat.lt_succ_of_lt (Nat.lt_succ_self _)))
    (lookup_relabel_local hx) (lookup_relabel_local hy) hxy (by simp [compEnvC, relabel, hkind])
  rw [hlen] at Sx
  rw [← eE] at Sx
  unfold LcBody
  refine wpAny_newObj_type (newFunctionEnv_comp ?_)
  dsimp only
  rw [show (s₂.heap.push { cls := .type "list", dict := none, data := .seq ([] : List Value).toArray }).objs.size = s₂.heap.objs.size + 1 from Heap.size_push ..]
  have old : Ext s₂.heap (lcHeap s₂.heap scope) := lcHeap_old
  have hacc : PlainL (lcHeap s₂.heap scope) s₂.heap.objs.size #[] := ⟨_, _, pushCells_keeps _ _ _ _ (Heap.get?_push_of_some _ (Heap.get?_push_size _ rfl)), rfl, rfl, rfl⟩
  have base : ∀ {h : Heap}, KO [s₂.heap.objs.size + 1, s.heap.objs.size] s₂.heap.objs.size Lw (lcHeap s₂.heap scope) h → KS [Lw] s.heap h := fun {h} xx => by
    refine ⟨fun b o hb e => xx.1 b o (fun hm => ?_) (fun z => ?_) (fun z => hb (by simp [z])) (old b o (k₁₂ b o e)), fun b hb o e => ?_⟩
    · rcases List.mem_cons.mp hm with z | hm
      · rw [z, hCn] at e; cases e
      · rw [List.mem_singleton.mp hm, hIn] at e; cases e
    · rw [z, hDn] at e; cases e
    · have hb' := List.mem_singleton.mp hb
      subst hb'
      exact xx.2 o (old _ o (k₁₂ _ o e))
  have hDf : s₂.heap.objs.size ∉ (s₂.heap.objs.size + 1) :: s.heap.objs.size :: ax :: (List.range items.length).map Ts := by
    rw [hsz]
    intro h
    rcases List.mem_cons.mp h with h | h
    · exact absurd h (Nat.ne_of_lt (Nat.lt_succ_self _))
    · rcases List.mem_cons.mp h with h | h
      · exact absurd h (Nat.ne_of_gt (Nat.lt_succ_self _))
      · rcases List.mem_cons.mp h with h | h
        · exact absurd h (Nat.ne_of_gt (Nat.lt_succ_of_lt hax))
        · obtain ⟨j, hj, e⟩ := List.mem_map.mp h
          exact absurd e (Nat.ne_of_lt (Nat.lt_succ_of_lt (hTl j (List.mem_range.mp hj))))
  have hLf : Lw ∉ (s₂.heap.objs.size + 1) :: s.heap.objs.size :: ax :: (List.range items.length).map Ts := by
    intro h
    rcases List.mem_cons.mp h with h | h
    · exact neL _ hCn h
    · rcases List.mem_cons.mp h with h | h
      · exact neL _ hIn h
      · rcases List.mem_cons.mp h with h | h
        · exact hLax h
        · obtain ⟨j, hj, e⟩ := List.mem_map.mp h
          exact hLT j (List.mem_range.mp hj) e.symm
  have loop : ∀ s₃ : Shared, s₃ = { s₂ with heap := lcHeap s₂.heap scope } →
      codeAny (model prog w) A (.compLoop (.ListComp elt [⟨.Tuple [.Name x px, .Name y py] kt pt, iter, [], 0⟩] scope pos) 0 (.ref s.heap.objs.size) (.ref s₂.heap.objs.size) (lcEnv scope cl s₂.heap env))
        (compPost (model prog w) A E none Q (.ref s₂.heap.objs.size) (s₂.heap.objs.size + 1)) s₃ := by
    rintro s₃ rfl
    refine lc_loopX (Lw := Lw) Sx (fun i => g (q i)) hDf hLf (neL _ hDn) hn ⟨⟨?_, ?_, fun j hj => ?_⟩, lcHeap_ns⟩ hacc (fun i s₃ E' hi ht kx => ?_) (fun h' tk m' hns hl' kx => ?_)
    · exact ⟨_, lcHeap_old _ _ (Heap.get?_push_size _ rfl), rfl, rfl⟩
    · exact (hl.push _).at fun o e => lcHeap_old _ _ e
    · exact ((spec j hj).2.2.push _).at fun o e => lcHeap_old _ _ e
    · obtain ⟨m, hm, hv1, hv2⟩ := ht
      rw [eE]
      exact elts _ i _ _ (q i) s₃ m E' (spec i hi).1 (base kx) hm hv1 hv2
    · refine ⟨m', hns, fun h'' hs => ?_⟩
      have ks := base kx
      have hDC : s₂.heap.objs.size ≠ s₂.heap.objs.size + 1 := Nat.ne_of_lt (Nat.lt_succ_self _)
      have ks2 : KS [Lw] s.heap h'' := ⟨fun b o hb e => hs.extBut b o (fun z => by rw [z, hCn] at e; cases e) (ks.1 b o hb e), fun b hb o e => by
        obtain ⟨sl, e2⟩ := ks.2 b hb o e
        exact ⟨sl, hs.extBut b _ (fun z => by rw [z, hCn] at e; cases e) e2⟩⟩
      refine post _ h'' tk ks2 (Rd.of_list trivial (hl'.extBut hs.extBut hDC) ?_)
      have em : (prs.map fun q => PyData.bool (g q)) = (List.range items.length).map fun i => PyData.bool (g (q i)) := by
        apply List.ext_getElem
        · simp [hil]
        · intro i h1 h2
          have hi : i < items.length := by simpa using h2
          have := (spec i hi).1
          have hp : i < prs.length := by omega
          rw [List.getElem?_eq_getElem hp] at this
          simp only [List.getElem_map, List.getElem_range]
          rw [Option.some.inj this]
      rw [em]
      have gen : ∀ l : List Nat, Rds (fun _ => True) h'' (l.map fun i => Value.bool (g (q i))) (l.map fun i => PyData.bool (g (q i))) := fun l => by
        induction l with
        | nil => exact .nil
        | cons a l ih => exact .cons (.bool _) ih
      exact gen _
  exact codeAny_compStart_list (loop _ rfl) (Sx.self 0 _ _ _ ⟨⟨⟨_, lcHeap_old _ _ (Heap.get?_push_size _ rfl), rfl, rfl⟩, (hl.push _).at fun o e => lcHeap_old _ _ e, fun j hj => ((spec j hj).2.2.push _).at fun o e => lcHeap_old _ _ e⟩, lcHeap_ns⟩ (loop _ rfl))
end
end
section
theorem perm_of_nodup {α : Type} [BEq α] [LawfulBEq α] {a b : List α} (ha : a.Nodup) (hb : b.Nodup) (h : ∀ x, x ∈ a ↔ x ∈ b) : a.Perm b := by
  rw [List.perm_iff_count]
  intro x
  rw [ha.count, hb.count]
  by_cases hx : x ∈ a
  · rw [if_pos hx, if_pos ((h x).mp hx)]
  · rw [if_neg hx, if_neg fun q => hx ((h x).mpr q)]
theorem firsts_rev {α : Type} [BEq α] [LawfulBEq α] (l : List α) : (firsts l.reverse).Perm (firsts l) :=
  perm_of_nodup (nodup_firsts _) (nodup_firsts _) fun x => by rw [mem_firsts, mem_firsts, List.mem_reverse]
theorem cmp_same (a b : List (List Int)) : (firsts (a ++ a)).isPerm (firsts b.reverse) = decide ((firsts a).Perm (firsts b)) := by
  rw [firsts_more a a fun x hx => hx]
  by_cases h : (firsts a).Perm (firsts b)
  · rw [decide_eq_true h, List.isPerm_iff]
    exact h.trans (firsts_rev b).symm
  · rw [decide_eq_false h, Bool.eq_false_iff]
    intro q
    exact h ((List.isPerm_iff.mp q).trans (firsts_rev b))
theorem ns_slots {h h' : Heap} {a : Addr} {m : Str → Option Value} (x : h.Ns a m) (k : ∀ o, h.get? a = some o → ∃ sl, h'.get? a = some { o with slots := sl }) : h'.Ns a m := by
  obtain ⟨o, es, ep, ho, hd, r⟩ := x
  obtain ⟨sl, hs⟩ := k o ho
  exact ⟨_, es, ep, hs, hd, r⟩
section
variable {prog : Program} {w : World} {A : Around} {E : Value → Shared → Prop}
/-- l[::-1], whatever stands before the bracket -/
theorem rev_any {s : Shared} {Q : Value → Shared → Prop} {value slice : PySem.Expr} {l : Addr} {vs : List Value} {ops : List Value} {tk : Tok} (hl : s.heap.IsList l vs.toArray)
    (h : ∀ a s', Keeps s s' → s.heap.get? a = none → PlainL s'.heap a vs.reverse.toArray → Q (.ref a) s') (hsz : vs.length ≤ sizeLine)
    (hs : subscripted slice false (.ref l) (.ref s.heap.objs.size) = operate ops (getItem (.ref l) (.ref s.heap.objs.size)) := by with_unfolding_all rfl) :
    wpAny (model prog w) A (subscriptTail value slice (.ref l) (.ref s.heap.objs.size)) Q E { s with heap := s.heap.push { cls := .type "slice", data := .fields #[.none, .none, .int (-1) tk] } } := by
  refine tail_any (Heap.IsList.typeIs (s := { s with heap := s.heap.push { cls := .type "slice", data := .fields #[.none, .none, .int (-1) tk] } }) (hl.push _)) list_getitem_lookup
    (wpAny_getItem_list_slice (hl.push _) (Heap.IsSliceOf.new ..) .none .none (.int _ _) (by simp) ?_ (by rw [List.size_toArray]; exact hsz)) hs
  rw [krv_pick]
  refine h _ _ ⟨_, s.toks, rfl, Ext.trans (Ext.push _ _) (Ext.push _ _)⟩ (fresh_none ?_) ⟨{ cls := .type "list", data := .seq vs.reverse.toArray }, _, Heap.get?_push_size _ rfl, rfl, rfl, rfl⟩
  show s.heap.objs.size ≤ (s.heap.push _).objs.size
  rw [Heap.size_push]
  exact Nat.le_succ _
end
section
variable {prog : Program} {w : World} {A : Around} {E : Value → Shared → Prop} {s₀ s : Shared} {mg mb : Str → Option Value} {n : Nat} {Q : Flow → Shared → Prop}
set_option maxHeartbeats 2000000 in
theorem law_8c {S : Nat} {m cm : Str → Option Value} {xs nums : List Int} {tv pv sv : Value} (hnl : nums.length ≤ 10) (hxs : xs.length ≤ 10) (G0 : Gl (KK w) mg mb s₀.heap) (R : Rm A (n + 10)) (hfr : A.frames = some [lawEnv w S]) (F : InCallC s₀ (lawEnv w S).locals m (lawEnv w S).cells cm s)
    (htold : cm "told" = some tv) (ht : Rd AnyA s.heap tv (.list (nums.map (toldD xs)))) (hpairs : m "pairs" = some pv) (hp : Rd AnyA s.heap pv (.list ((prsOf nums.length).map fun q => PyData.list [.int q.1, .int q.2])))
    (hsame : m "same" = some sv) (hsv : Rd AnyA s.heap sv (.list ((prsOf nums.length).map fun q => PyData.bool (sameB xs nums q))))
    (h : ∀ s', Keeps s₀ s' → Q (.ret (.bool true)) s') :
    wpAny (model prog w) A (execs ((bodyOf (fnLaw w).1).drop 13) (lawEnv w S)) Q E s := by
  have FS0 := icc_fs F
  have G1 := G0.ext (icc_ext F)
  have hln := sizeLine_eq
  have e1 : nums.map (toldD xs) = nums.map fun x => dl (dl PyData.int) (rowsOf xs x) := List.map_congr_left fun x _ => (toldD_eq xs x).trans (dueD_eq xs x)
  rw [e1] at ht
  obtain ⟨tA, tvs, rfl, hlt, hrt, _⟩ := ht.plain_inv
  obtain ⟨pA, pvs, rfl, hlp, hrp, _⟩ := hp.plain_inv
  have htl : tvs.length = nums.length := by rw [hrt.length, List.length_map]
  have hpl : pvs.length = (prsOf nums.length).length := by rw [hrp.length, List.length_map]
  have hpz : (prsOf nums.length).length ≤ 30 := by
    unfold prsOf
    rw [List.length_flatMap]
    have : (List.map (fun (i : Nat) => (List.map (fun k => ((i : Int), k)) (ksOf nums.length i)).length) (List.range nums.length)) = List.map (fun _ => 3) (List.range nums.length) := List.map_congr_left fun i _ => rfl
    rw [this]
    have : ∀ l : List Nat, (l.map fun _ => 3).sum = 3 * l.length := fun l => by
      induction l with
      | nil => rfl
      | cons a l ih => rw [List.map_cons, List.sum_cons, ih, List.length_cons]; omega
    rw [this, List.length_range]
    omega
  obtain ⟨oL, esL, epL, hoL, hdL, hkL, hfL⟩ := id F.toInCall.ns
  have hoL' : s.heap.get? S = some oL := hoL
  have b0 : s₀.heap.get? S = none := fresh_none F.toInCall.fresh
  -- what a weaker step keeps
  have kq : ∀ h', KS [S] s.heap h' → Ext s₀.heap h' := fun h' k b o e => k.1 b o (fun q => by rw [List.mem_singleton.mp q, b0] at e; cases e) (icc_ext F b o e)
  have rdq : ∀ {P : Addr → Prop} {h' : Heap} {v : Value} {d : PyData}, KS [S] s.heap h' → Rd P s.heap v d → Rd P h' v d := fun k r => r.imp (fun _ p => p) fun b o vs nn _ e hd => k.1 b o (fun q => by
    rw [List.mem_singleton.mp q, hoL'] at e; cases e
    rw [hdL] at hd; cases hd) e
  have fsq : ∀ h', KS [S] s.heap h' → FS (lawEnv w S) m cm h' := fun h' k => ⟨ns_slots FS0.ns fun o e => k.2 S (by simp) o e, fun nm c hc => by
    obtain ⟨o, e, d⟩ := FS0.cell nm c hc
    exact ⟨o, k.1 c o (fun q => by
      rw [List.mem_singleton.mp q, hoL'] at e; cases e
      rw [hdL] at d; cases d) e, d⟩⟩
  refine wpAny_execs_cons (wpAny_Return_some (wpAny_Compare1 ?_))
  refine lc_eval rfl rfl (by decide) ?_
  refine nmL FS0 hpairs ?_
  refine lc_pairsX (s := s) (Lw := S) (oLw := oL) (sameB xs nums) R.hh (plain_list hlp) hrp (by omega) hoL' (fun vs nn q => by rw [hdL] at q; cases q) (by decide) rfl rfl rfl (by decide) ?_ ?_
  · intro C i t1 t2 q s4 m4 E4 hq kx hns h1 h2
    have hin := prs_in (List.mem_of_getElem? hq)
    have G4 := G0.ext (kq _ kx)
    have FC := fs_comp (h := s4.heap) (scope := PySem.Scope.mk .function [(PySem.Str.ofString ".0", .local), (PySem.Str.ofString "j", .local), (PySem.Str.ofString "k", .local), (PySem.Str.ofString "_compare_args_orderless", .globalImplicit), (PySem.Str.ofString "told", .free)] false false []) hns (fsq _ kx) (cl := [(PySem.Str.ofString "told", S + 1 + 1 + 1 + 1)]) ⟨rfl, trivial⟩
    have ht4 := rdq kx ht
    obtain ⟨tA', tvs', et, hlt4, hrt4, _⟩ := ht4.plain_inv
    cases et
    have htl4 : tvs'.length = nums.length := by rw [hrt4.length, List.length_map]
    have hN : 0 < nums.length := by omega
    have row : ∀ k : Int, -1 ≤ k ∧ k < (nums.length : Int) → ∃ v, tvs'[plc tvs'.length k]? = some v ∧ Rd AnyA s4.heap v (dl (dl .int) (rowAt xs nums k)) := fun k hk => by
      rw [htl4]
      have hi := plc_lt hk hN
      obtain ⟨v, hv, rv⟩ := hrt4.at (k := plc nums.length k) (d := dl (dl .int) (rowAt xs nums k)) (by
        unfold rowAt
        rw [List.getElem?_map, List.getElem?_eq_getElem hi]; rfl)
      exact ⟨v, hv, rv⟩
    have hz : ∀ k, (rowAt xs nums k).length ≤ 10 := fun k => by
      unfold rowAt
      cases nums[plc nums.length k]? with
      | none => simp
      | some x => have := rows_len xs x; simp; omega
    have hz1 := hz q.1
    have hz2 := hz q.2
    obtain ⟨v1, hv1, r1⟩ := row q.1 (by omega)
    obtain ⟨v2, hv2, r2⟩ := row q.2 (by omega)
    obtain ⟨aA, avs, rfl, hla, hra, _⟩ := r1.plain_inv
    obtain ⟨bA, bvs, rfl, hlb, hrb, _⟩ := r2.plain_inv
    have hal : avs.length = (rowAt xs nums q.1).length := by rw [hra.length, List.length_map]
    have hbl : bvs.length = (rowAt xs nums q.2).length := by rw [hrb.length, List.length_map]
    refine ev_own G4 (fnCompare w).2 rfl (by kernel_rfl) ?_
    refine args_cons (wpAny_BinOp (Subscript_ (nmC FC htold (nmL FC h1 ?_))))
    refine sub_any (plain_list hlt4) (by omega) (by omega) hv1 ?_
    refine wpAny_Constant_int ?_
    refine twice_tail (s := { s4 with toks := s4.toks + 1 }) (plain_list hla) (fun cA s5 k5 hcA hl5 => ?_) (by omega)
    have k45 := keeps_trans (a := s4) keeps_tok k5
    have FC5 := FC.ext (keeps_ext k45)
    refine args_cons (Subscript_ (Subscript_ (nmC FC5 htold (nmL FC5 h2 ?_))))
    refine sub_any (plain_list (hlt4.keeps (keeps_ext k45))) (by omega) (by omega) hv2 ?_
    refine wpAny_Slice (wpAny_evalPart_none (wpAny_evalPart_none (wpAny_evalPart_some (wpAny_UnaryOp (wpAny_Constant_int ?_)))))
    refine PyProof.Rows.neg_int ?_
    refine rev_any (s := { s5 with toks := s5.toks + 1 + 1 }) (plain_list (hlb.keeps (show Ext s4.heap s5.heap from keeps_ext k45))) (fun eA s6 k6 heA hl6 => ?_) (by omega)
    have k56 := keeps_trans (a := s5) keeps_tok (keeps_trans keeps_tok k6)
    have k46 := keeps_trans k45 k56
    have hra6 := hra.ext (keeps_ext k46)
    have hrb6 := hrb.ext (keeps_ext k46)
    have ra6 : Rd AnyA s6.heap (.ref cA) (dl (dl .int) (rowAt xs nums q.1 ++ rowAt xs nums q.1)) := by
      refine Rd.of_list trivial (hl5.keeps (keeps_ext k56)) ?_
      rw [List.map_append]
      exact hra6.append hra6
    have rb6 : Rd AnyA s6.heap (.ref eA) (dl (dl .int) (rowAt xs nums q.2).reverse) := by
      refine Rd.of_list trivial hl6 ?_
      rw [List.map_reverse]
      exact hrb6.reverse
    have kb6 : Ext s₀.heap s6.heap := (kq _ kx).trans (keeps_ext k46)
    obtain ⟨slw, hLw4⟩ := kx.2 S (by simp) oL hoL'
    have hLw6 := keeps_ext k46 _ _ hLw4
    refine args_nil ⟨G0.ext kb6, ?_⟩
    refine compare_call (n := n) (hb := s₀.heap) (Lw := S) (env0 := lawEnv w S) G0 kb6 b0 hLw6 (fun vs z => by rw [hdL] at z; cases z) hfr rfl (show (ScopeKind.function : ScopeKind) ≠ .module by decide) (R.le (by omega)) ra6 rb6 (by simp; omega) (by simp; omega) fun h7 t7 k7 => ?_
    rw [cmp_same]
    refine ⟨rfl, ?_⟩
    obtain ⟨h6, t6, rfl, e6⟩ := k46
    exact ⟨h7, t7, rfl, (KS.of_ext e6).trans k7⟩
  · intro v h' tk kx rv
    refine wpAny_Name (wpAny_loadName_local rfl rfl (fsq h' kx).ns hsame ?_) (by decide)
    have rs := rdq kx hsv
    have em : ∀ f : Int × Int → Bool, PyData.list ((prsOf nums.length).map fun q => PyData.bool (f q)) = dl PyData.bool ((prsOf nums.length).map f) := fun f => dl_map PyData.bool f _
    rw [em] at rv rs
    refine eq_rd (s := { s with heap := h', toks := tk }) emb_bool.list R rv rs ?_
    rw [beq_self_eq_true]
    obtain ⟨hs, ts, rfl⟩ := F.toInCall.same
    exact h _ ⟨h', tk, rfl, kq h' kx⟩
end
end
section
section
variable {prog : Program} {w : World} {A : Around} {E : Value → Shared → Prop} {s₀ s : Shared} {mg mb : Str → Option Value} {n : Nat} {Q : Flow → Shared → Prop}
set_option maxHeartbeats 4000000 in
theorem law_body {l : Addr} {vs : List Value} {ns : List Int} {S : Nat} {m cm : Str → Option Value} (G : Gl (KK w) mg mb s₀.heap) (R : Rm A (n + 10)) (hfr : A.frames = some [lawEnv w S]) (F : InCallC s₀ (lawEnv w S).locals m (lawEnv w S).cells cm s) (hm : m "script" = some (.ref l))
    (hl : s.heap.IsList l vs.toArray) (hi : IntsAre vs ns) (hz : vs.length ≤ 63) (h : ∀ s', Keeps s₀ s' → Q (.ret (.bool true)) s') :
    wpAny (model prog w) A (execs (bodyOf (fnLaw w).1) (lawEnv w S)) Q E s := by
  have hc4 : (ns.take 4).length ≤ 4 := by rw [List.length_take]; omega
  have hxs : (xs6 ++ ns.take 4).length ≤ 10 := by rw [List.length_append]; show 6 + _ ≤ 10; omega
  have hns : (nums6 ++ ns.take 4).length ≤ 10 := by rw [List.length_append]; show 6 + _ ≤ 10; omega
  have h0 : (xs6 ++ ns.take 4)[0]? = some X0 := rfl
  refine law_1 (n := n) (G.ext (icc_ext F)) R F hm hl hi hz (fun s1 m1 cm1 cv rv k1 F1 hcut hrows1 rcut rrows1 => ?_) G
  refine law_2 (n := n) (xs := xs6 ++ ns.take 4) hxs G R F1 hrows1 rrows1 fun s2 cm2 tv F2 hc2 htexts rtexts sk2 => ?_
  have hrows2 : cm2 "rows" = some rv := (hc2 _ (by decide)).trans hrows1
  refine law_3 (n := n) (xs := xs6 ++ ns.take 4) (cns := ns.take 4) hc4 hxs h0 G R F2 hcut (rcut.sk sk2) hrows2 (rrows1.sk sk2) fun s3 m3 nv pv F3 hnums hparts rnums rparts sk3 => ?_
  have rrows3 := (rrows1.sk sk2).sk sk3
  refine law_4 (n := n) (xs := xs6 ++ ns.take 4) (nums := nums6 ++ ns.take 4) hns hxs G R F3 hparts rparts hrows2 rrows3 htexts (rtexts.sk sk3) fun s4 cm4 ov F4 hc4' htold rtold sk4 => ?_
  have hrows4 : cm4 "rows" = some rv := (hc4' _ (by decide)).trans hrows2
  refine law_5 (n := n) (xs := xs6 ++ ns.take 4) hxs G R F4 hrows4 (rrows3.sk sk4) fun s5 cm5 sv dv F5 hc5 hsix hdue rsix rdue sk5 => ?_
  have hrows5 : cm5 "rows" = some rv := (hc5 _ (by decide) (by decide)).trans hrows4
  have htold5 : cm5 "told" = some ov := (hc5 _ (by decide) (by decide)).trans htold
  refine law_6 (n := n) (x0 := X0) (xs := xs6 ++ ns.take 4) (nums := nums6 ++ ns.take 4) hns hxs h0 G R F5 hnums ((rnums.sk sk4).sk sk5) hrows5 ((rrows3.sk sk4).sk sk5) hsix rsix hdue rdue fun s6 cm6 dv6 F6 hc6 hdue6 rdue6 sk6 => ?_
  have htold6 : cm6 "told" = some ov := (hc6 _ (by decide) (by decide) (by decide)).trans htold5
  have rtold6 := (rtold.sk sk5).sk sk6
  refine law_7 (n := n) (xs := xs6 ++ ns.take 4) (nums := nums6 ++ ns.take 4) hns hxs G R F6 htold6 rtold6 hdue6 rdue6 fun s7 F7 k7 => ?_
  have rdue7 := rdue6.ext (keeps_ext k7)
  have rtold7 := rtold6.ext (keeps_ext k7)
  refine law_8a (n := n) (ds := (nums6 ++ ns.take 4).map (dueD X0 (xs6 ++ ns.take 4))) (by rw [List.length_map]; exact hns) G R F7 hdue6 rdue7 fun s8 m8 qv F8 hpairs hm8 rpairs sk8 => ?_
  rw [List.length_map] at rpairs
  refine law_8b (n := n) (xs := xs6 ++ ns.take 4) (nums := nums6 ++ ns.take 4) hns hxs G R F8 hdue6 (rdue7.sk sk8) hpairs rpairs fun s9 m9 zv F9 hsame hm9 rsame sk9 => ?_
  exact law_8c (n := n) (xs := xs6 ++ ns.take 4) (nums := nums6 ++ ns.take 4) hns hxs G R hfr F9 htold6 ((rtold7.sk sk8).sk sk9) ((hm9 _ (by decide)).trans hpairs) (rpairs.sk sk9) hsame rsame h

theorem law_call {l : Addr} {vs : List Value} {ns : List Int} {Q : Value → Shared → Prop} (G : Gl (KK w) mg mb s.heap) (R : Rm A (n + 11)) (hfr : A.frames = some []) (hl : s.heap.IsList l vs.toArray) (hi : IntsAre vs ns) (hz : vs.length ≤ 63)
    (h : ∀ s', Keeps s s' → Q (.bool true) s') : wpAny (model prog w) A (call (.ref 145) [.ref l]) Q E s := by
  refine enterC (n := n + 10) (f := 145) (binds := [("script", .ref l)]) G R (fnLaw w).2 rfl rfl (by kernel_rfl) rfl rfl rfl (fun s1 E' F1 => ?_)
  have R1 := R.deeper (callEnvC (fnLaw w).1 s.heap.objs.size 145)
  refine law_body (n := n) (S := s.heap.objs.size) (vs := vs) (ns := ns) G R1 ?_ F1 rfl (hl.at fun o e => icc_ext F1 _ o e) hi hz fun s' k' => ?_
  · show A.frames.map _ = _
    rw [hfr]; rfl
  · exact h s' k'
end
end
section
theorem law_top {prog : Program} {w : World} {s : Shared} {mg mb : Str → Option Value} {fa l : Addr} {vs : List Value} {ns : List Int} {Q E : Value → Shared → Prop} (KX : (KK w).In s.heap) (g : s.heap.Ns mainGlobals mg) (b : s.heap.Ns builtinsNs mb) (lim : s.heap.NoLimit) (bi : ∀ x : Str, x ≠ "__name__" → mb x = bootBuiltins x)
    (hmg : mg "law" = some (.ref fa)) (hl : s.heap.IsList l vs.toArray) (hi : IntsAre vs ns) (hz : ¬ (63 : Int) < (ns.length : Int)) (h : ∀ s', Keeps s s' → Q (.bool true) s') : wpAny (model prog w) callerA (call (.ref fa) [.ref l]) Q E s := by
  have e : mg "law" = some (.ref 145) := mg_of KX g (by kernel_rfl)
  rw [e] at hmg
  have e2 : fa = 145 := by injection hmg with q; injection q with q; exact q.symm
  subst e2
  refine law_call (n := 100) ⟨KX, g, b, lim, bi⟩ ?_ rfl hl hi (by have := hi.length; omega) h
  refine ⟨rfl, ?_, ?_⟩
  · show 1 + claimMargin + (100 + 11) < recursionLimit
    decide
  · show 4 + 8 * (100 + 11) + 200 < cLine
    decide
end
end Mine
open PySem PySem.W PyProof.Rows
namespace Mine.top
def tw7740461459972228597 : Unit := ()
def tw11762496359356365647 : Unit := ()
def tw16541100652227675460 : Unit := ()
def tw15615769790452508791 : Unit := ()
def tw18064794426631996164 : Unit := ()
def tw15989187107839453450 : Unit := ()
def tw3623408313619004113 : Unit := ()
def tw12973084742139787200 : Unit := ()
def tw15910696728931680470 : Unit := ()
def tw17408102787539135390 : Unit := ()
def tw342308947776675178 : Unit := ()
def tw12094960947251128927 : Unit := ()
def tw2249405535684624136 : Unit := ()
def tw17315540178315561739 : Unit := ()
def tw15569959144833144457 : Unit := ()
def tw9759319705405543751 : Unit := ()
def tw16155163154822807229 : Unit := ()
def tw16759092144687519636 : Unit := ()
def tw2555065506035805374 : Unit := ()
def tw7855079511596107753 : Unit := ()
def tw105208000716104510 : Unit := ()
def tw4205137553216949640 : Unit := ()
def tw15988258018655671626 : Unit := ()
def tw14749125000353877875 : Unit := ()
def tw13854487755817843489 : Unit := ()
def tw4872296631132183273 : Unit := ()
def tw10540892591176069717 : Unit := ()
def tw17258374554226048223 : Unit := ()
def tw11666624071039921002 : Unit := ()
def tw6497835594395633234 : Unit := ()
def tw5568844076600610506 : Unit := ()
def tw7198060816514059695 : Unit := ()
def tw2213029860928159205 : Unit := ()
def tw10956490626425055710 : Unit := ()
def tw9800703332001039478 : Unit := ()
def tw5667650583090716360 : Unit := ()
def tw10187264123177260123 : Unit := ()
def tw12772138429114895339 : Unit := ()
def tw216529984938456764 : Unit := ()
def tw6520327441239513222 : Unit := ()
def tw8892184565913893157 : Unit := ()
def tw7414872774492366064 : Unit := ()
def tw12318557346453588183 : Unit := ()
def tw795583310449317561 : Unit := ()
def tw3844969445664438809 : Unit := ()
def tw775762912060472103 : Unit := ()
def tw6333448901615975916 : Unit := ()
def tw15092371282622821202 : Unit := ()
def tw16058212318047004132 : Unit := ()
def tw5604026686304666287 : Unit := ()
def tw10915162052029792233 : Unit := ()
def tw9631074621892390191 : Unit := ()
def tw15878805988109762761 : Unit := ()
def tw4166218997396506358 : Unit := ()
def tw8523463495250067690 : Unit := ()
def tw8813761850579938390 : Unit := ()
def tw259116497763760265 : Unit := ()
def tw11889168628444193015 : Unit := ()
def tw427269002284569659 : Unit := ()
def tw788273225186049534 : Unit := ()
def tw5868845118606482295 : Unit := ()
def tw1814787853859245837 : Unit := ()
def tw17886615442053742456 : Unit := ()
def tw14390669486469195807 : Unit := ()
def tw3776753064480771068 : Unit := ()
def tw16840627104734473223 : Unit := ()
def tw887695700811335699 : Unit := ()
def tw14436450140739016385 : Unit := ()
def tw2730760306732684819 : Unit := ()
def tw670521403031812673 : Unit := ()
def tw9028721232379810249 : Unit := ()
def tw1483126911874232274 : Unit := ()
def tw8694864300669457046 : Unit := ()
def tw2464713573024523455 : Unit := ()
def tw6431110157172167083 : Unit := ()
def tw4257513813871878786 : Unit := ()
def tw16795567611416646642 : Unit := ()
def tw12012865196380796599 : Unit := ()
def tw9961057766049560675 : Unit := ()
def tw5766051744304087583 : Unit := ()
def tw17046948494117081484 : Unit := ()
def tw1381835654847214879 : Unit := ()
def tw705360758644809490 : Unit := ()
def tw18008055252877512497 : Unit := ()
def tw5278709424875269971 : Unit := ()
def tw1245559373397905713 : Unit := ()
def tw3422688185749166683 : Unit := ()
def tw12643491718579748851 : Unit := ()
def tw9335426496214029073 : Unit := ()
def tw16283790390274638013 : Unit := ()
def tw1516213087968936877 : Unit := ()
def tw3855276242980373810 : Unit := ()
def tw8507776931139520737 : Unit := ()
def tw12625161707284158652 : Unit := ()
def tw14142502885225118848 : Unit := ()
def tw14263998999751124003 : Unit := ()
def tw12622177474791663080 : Unit := ()
def tw8756551941217200625 : Unit := ()
def tw9503340733035011235 : Unit := ()
def tw7847650389618582240 : Unit := ()
def tw12819366960792805191 : Unit := ()
def tw16204670001084760307 : Unit := ()
def tw17177869089781658578 : Unit := ()
def tw1284575025550258836 : Unit := ()
def tw17355269125676882429 : Unit := ()
def tw10478281044441265007 : Unit := ()
def tw14796646475526232899 : Unit := ()
def tw7458633546980236471 : Unit := ()
def tw14371913498598963198 : Unit := ()
def tw987869383939708018 : Unit := ()
def tw17470836177267949868 : Unit := ()
def tw12385144161495827662 : Unit := ()
def tw8345894832289464959 : Unit := ()
def tw14826035006057030972 : Unit := ()
def tw15299407806266782574 : Unit := ()
def tw7527032243904285869 : Unit := ()
def tw517144808224063464 : Unit := ()
def tw11279390925490393535 : Unit := ()
def tw8265191368974092141 : Unit := ()
def tw7673058066778466091 : Unit := ()
def tw370947364307004932 : Unit := ()
def tw18186074749648716422 : Unit := ()
def tw6859976401760118174 : Unit := ()
def tw17486766287000646611 : Unit := ()
def tw4655869559712951663 : Unit := ()
def tw7429413206186439793 : Unit := ()
def tw8645369167282567922 : Unit := ()
def tw8107780213005350392 : Unit := ()
def tw7557910624720293991 : Unit := ()
def tw2007660962349395123 : Unit := ()
def tw13369591340354186047 : Unit := ()
def tw12425085872883035938 : Unit := ()
def tw5647621183791001060 : Unit := ()
def tw6749217079512962374 : Unit := ()
def tw14901070454687303710 : Unit := ()
end Mine.top
set_option Elab.async true in
set_option maxHeartbeats 8000000 in
theorem Mine.top : PySem.Challenge.rw_in0115_01.Holds := by
  w_on
  o_law
  k_head
  case hw => w_witness2
  intro w s₀ s₁ mg mb G Y fa o pm cd doc dV kV ho hdd hcd hD hmg hg args vals as hpre hlay hrd hwl hlo
  have KX : (Mine.MK w.params).In s₁.heap := by
    refine Mine.AllIn.isIn ?_ (km_in_of Y)
    refine ⟨rfl, rfl, ?_⟩
    repeat' (first | exact True.intro | refine And.intro rfl ?_)
  refine Ground.open G ?_
  intro T B D TE TW
  wrow_args hpre hlay hrd hwl hlo
  refine Mine.law_top KX T.g T.b T.nolimit T.builtins hmg (by assumption) (by assumption) (by assumption) fun s' k => ?_
  obtain ⟨h', tk, rfl, kk⟩ := k
  exact GoodW.toG ⟨.inl ⟨_, .bool true, [], rfl, fun _ => rfl, .bool true, by wrow_post, unshared_nil⟩, kk, rfl, hg⟩
theorem PySem.Challenge.cw_in0115_01_holds : PySem.Challenge.rw_in0115_01.Holds := by
  exact Mine.top
